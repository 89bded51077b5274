/-
  Seat b4354aD: the walks of revisedOpcode and zzs4354bmodel: both compute 'op'.
-/
import Derived.Test.YbulkcldmDoorRows
import Derived.WalkKit
import Derived.WalkSpells
import Derived.WalkLawsBesides
import Derived.RegionTactic
import Derived.ChangeAlike
import Derived.Deep.QuietTactic
import Derived.BigQuiet
namespace Go.Proofs.YbulkcldmDoor
open Go.RowKit
namespace Opk

def op (c : Int) : Int × Int × Bool :=
  if 48 ≤ c ∧ c ≤ 51 then (17, c - 48, true) else if c = 52 then (16, 0, true) else if c = 53 then (15, 0, true) else if 128 ≤ c ∧ c ≤ 143 then (14, c - 128, true) else (0, 0, false)

theorem fin3 {P : Int × Int × Bool} {x y : Int} {z : Bool} (h : P = (x, y, z)) : Ending.returned (.tuple #[.int .i64 x, .int .i64 y, .bool z]) = .returned (.tuple #[.int .i64 P.1, .int .i64 P.2.1, .bool P.2.2]) := by rw [h]

theorem op_48 (c : Int) (h0 : 48 ≤ c) (h1 : c ≤ 51) : op c = (17, c - 48, true) := by unfold op; rw [if_pos ⟨h0, h1⟩]
theorem op_128 (c : Int) (h0 : 128 ≤ c) (h1 : c ≤ 143) : op c = (14, c - 128, true) := by unfold op; rw [if_neg (by omega), if_neg (by omega), if_neg (by omega), if_pos ⟨h0, h1⟩]
theorem op_no (c : Int) (h : c ≤ 47 ∨ (54 ≤ c ∧ c ≤ 127) ∨ 144 ≤ c) : op c = (0, 0, false) := by unfold op; rw [if_neg (by omega), if_neg (by omega), if_neg (by omega), if_neg (by omega)]

theorem parts (c : Int) (h0 : 0 ≤ c) (h1 : c ≤ 255) : (0 ≤ c ∧ c ≤ 47) ∨ (48 ≤ c ∧ c ≤ 51) ∨ c = 52 ∨ c = 53 ∨ (54 ≤ c ∧ c ≤ 127) ∨ (128 ≤ c ∧ c ≤ 143) ∨ (144 ≤ c ∧ c ≤ 255) := by omega

theorem model_lo (c : Int) (w : World) (h0 : 0 ≤ c) (h1 : c ≤ 47) : Calls Ybad.prog 6 #[.int .u8 c] w fun e w' => e = .returned (.tuple #[.int .i64 0, .int .i64 0, .bool false]) ∧ w' = w := by
  have e52 : (c == 52) = false := by simp; omega
  have e53 : (c == 53) = false := by simp; omega
  go_enter Ybad.func6, Ybad.ntmps6
  go_wp2
  go_ret3
  exact ⟨rfl, rfl⟩
theorem model_48 (c : Int) (w : World) (h0 : 48 ≤ c) (h1 : c ≤ 51) : Calls Ybad.prog 6 #[.int .u8 c] w fun e w' => e = .returned (.tuple #[.int .i64 17, .int .i64 (c - 48), .bool true]) ∧ w' = w := by
  go_enter Ybad.func6, Ybad.ntmps6
  go_wp2
  go_ret3
  exact ⟨rfl, rfl⟩
theorem model_52 (w : World) : Calls Ybad.prog 6 #[.int .u8 52] w fun e w' => e = .returned (.tuple #[.int .i64 16, .int .i64 0, .bool true]) ∧ w' = w := by
  go_enter Ybad.func6, Ybad.ntmps6
  go_wp2
  go_ret3
  exact ⟨rfl, rfl⟩
theorem model_53 (w : World) : Calls Ybad.prog 6 #[.int .u8 53] w fun e w' => e = .returned (.tuple #[.int .i64 15, .int .i64 0, .bool true]) ∧ w' = w := by
  go_enter Ybad.func6, Ybad.ntmps6
  go_wp2
  go_ret3
  exact ⟨rfl, rfl⟩
theorem model_54 (c : Int) (w : World) (h0 : 54 ≤ c) (h1 : c ≤ 127) : Calls Ybad.prog 6 #[.int .u8 c] w fun e w' => e = .returned (.tuple #[.int .i64 0, .int .i64 0, .bool false]) ∧ w' = w := by
  have e52 : (c == 52) = false := by simp; omega
  have e53 : (c == 53) = false := by simp; omega
  go_enter Ybad.func6, Ybad.ntmps6
  go_wp2
  go_ret3
  exact ⟨rfl, rfl⟩
theorem model_128 (c : Int) (w : World) (h0 : 128 ≤ c) (h1 : c ≤ 143) : Calls Ybad.prog 6 #[.int .u8 c] w fun e w' => e = .returned (.tuple #[.int .i64 14, .int .i64 (c - 128), .bool true]) ∧ w' = w := by
  have e52 : (c == 52) = false := by simp; omega
  have e53 : (c == 53) = false := by simp; omega
  go_enter Ybad.func6, Ybad.ntmps6
  go_wp2
  go_ret3
  exact ⟨rfl, rfl⟩
theorem model_hi (c : Int) (w : World) (h0 : 144 ≤ c) (h1 : c ≤ 255) : Calls Ybad.prog 6 #[.int .u8 c] w fun e w' => e = .returned (.tuple #[.int .i64 0, .int .i64 0, .bool false]) ∧ w' = w := by
  have e52 : (c == 52) = false := by simp; omega
  have e53 : (c == 53) = false := by simp; omega
  go_enter Ybad.func6, Ybad.ntmps6
  go_wp2
  go_ret3
  exact ⟨rfl, rfl⟩

theorem model_any (c : Int) (w : World) (h0 : 0 ≤ c) (h1 : c ≤ 255) : Calls Ybad.prog 6 #[.int .u8 c] w fun e w' => e = .returned (.tuple #[.int .i64 (op c).1, .int .i64 (op c).2.1, .bool (op c).2.2]) ∧ w' = w := by
  rcases parts c h0 h1 with ⟨a, b⟩ | ⟨a, b⟩ | rfl | rfl | ⟨a, b⟩ | ⟨a, b⟩ | ⟨a, b⟩
  · rw [op_no c (by omega)]; exact model_lo c w a b
  · rw [op_48 c a b]; exact model_48 c w a b
  · exact model_52 w
  · exact model_53 w
  · rw [op_no c (by omega)]; exact model_54 c w a b
  · rw [op_128 c a b]; exact model_128 c w a b
  · rw [op_no c (by omega)]; exact model_hi c w a b

/-- The table lies in block 0. -/
structure Tab (w : World) : Prop where
  c0 : w.cell? ⟨0, 0, none⟩ = some (.int .u8 48)
  c1 : w.cell? ⟨0, 1, none⟩ = some (.int .i64 17)
  c2 : w.cell? ⟨0, 2, none⟩ = some (.int .i64 4)
  c3 : w.cell? ⟨0, 3, none⟩ = some (.int .u8 52)
  c4 : w.cell? ⟨0, 4, none⟩ = some (.int .i64 16)
  c5 : w.cell? ⟨0, 5, none⟩ = some (.int .i64 1)
  c6 : w.cell? ⟨0, 6, none⟩ = some (.int .u8 53)
  c7 : w.cell? ⟨0, 7, none⟩ = some (.int .i64 15)
  c8 : w.cell? ⟨0, 8, none⟩ = some (.int .i64 1)
  c9 : w.cell? ⟨0, 9, none⟩ = some (.int .u8 128)
  c10 : w.cell? ⟨0, 10, none⟩ = some (.int .i64 14)
  c11 : w.cell? ⟨0, 11, none⟩ = some (.int .i64 16)

theorem idx0 (w : World) : (Instr.index 28 (.agg #[.int .u8 48, .int .i64 17, .int .i64 4, .int .u8 52, .int .i64 16, .int .i64 1, .int .u8 53, .int .i64 15, .int .i64 1, .int .u8 128, .int .i64 14, .int .i64 16]) (.int .i64 0)).run Ybad.prog w = .ok (.agg #[.int .u8 48, .int .i64 17, .int .i64 4]) w := by kernel_rfl
theorem idx1 (w : World) : (Instr.index 28 (.agg #[.int .u8 48, .int .i64 17, .int .i64 4, .int .u8 52, .int .i64 16, .int .i64 1, .int .u8 53, .int .i64 15, .int .i64 1, .int .u8 128, .int .i64 14, .int .i64 16]) (.int .i64 1)).run Ybad.prog w = .ok (.agg #[.int .u8 52, .int .i64 16, .int .i64 1]) w := by kernel_rfl
theorem idx2 (w : World) : (Instr.index 28 (.agg #[.int .u8 48, .int .i64 17, .int .i64 4, .int .u8 52, .int .i64 16, .int .i64 1, .int .u8 53, .int .i64 15, .int .i64 1, .int .u8 128, .int .i64 14, .int .i64 16]) (.int .i64 2)).run Ybad.prog w = .ok (.agg #[.int .u8 53, .int .i64 15, .int .i64 1]) w := by kernel_rfl
theorem idx3 (w : World) : (Instr.index 28 (.agg #[.int .u8 48, .int .i64 17, .int .i64 4, .int .u8 52, .int .i64 16, .int .i64 1, .int .u8 53, .int .i64 15, .int .i64 1, .int .u8 128, .int .i64 14, .int .i64 16]) (.int .i64 3)).run Ybad.prog w = .ok (.agg #[.int .u8 128, .int .i64 14, .int .i64 16]) w := by kernel_rfl

set_option maxHeartbeats 400000 in
theorem opc_lo (c : Int) (w : World) (h0 : 0 ≤ c) (h1 : c ≤ 47) (T : Tab w) : Calls Ybad.prog 5 #[.int .u8 c] w fun e w' => e = .returned (.tuple #[.int .i64 0, .int .i64 0, .bool false]) ∧ Below w.heap.size w w' := by
  obtain ⟨c0, c1, c2, c3, c4, c5, c6, c7, c8, c9, c10, c11⟩ := T
  have i0 := idx0
  have i1 := idx1
  have i2 := idx2
  have i3 := idx3
  go_enter Ybad.func5, Ybad.ntmps5
  go_wp2
  refine wp_loop_rounds 5 ?_
  rw [rounds_succ]
  go_wp2
  rw [rounds_succ]
  go_wp2
  rw [rounds_succ]
  go_wp2
  rw [rounds_succ]
  go_wp2
  rw [rounds_succ]
  go_wp2
  go_ret3
  exact ⟨rfl, (((((Below.refl _ _).alloc (Nat.le_refl _) _).alloc (by simp; try omega) _).alloc (by simp; try omega) _).alloc (by simp; try omega) _)⟩

set_option maxHeartbeats 400000 in
theorem opc_48 (c : Int) (w : World) (h0 : 48 ≤ c) (h1 : c ≤ 51) (T : Tab w) : Calls Ybad.prog 5 #[.int .u8 c] w fun e w' => e = .returned (.tuple #[.int .i64 17, .int .i64 (c - 48), .bool true]) ∧ Below w.heap.size w w' := by
  obtain ⟨c0, c1, c2, c3, c4, c5, c6, c7, c8, c9, c10, c11⟩ := T
  have i0 := idx0
  have i1 := idx1
  have i2 := idx2
  have i3 := idx3
  go_enter Ybad.func5, Ybad.ntmps5
  go_wp2
  refine wp_loop_rounds 5 ?_
  rw [rounds_succ]
  go_wp2
  go_quiet (fail)
  go_wp2
  go_ret3
  exact ⟨rfl, below_drewN ((Below.refl _ _).alloc (Nat.le_refl _) _) _⟩

set_option maxHeartbeats 400000 in
theorem opc_52 (w : World) (T : Tab w) : Calls Ybad.prog 5 #[.int .u8 52] w fun e w' => e = .returned (.tuple #[.int .i64 16, .int .i64 0, .bool true]) ∧ Below w.heap.size w w' := by
  obtain ⟨c0, c1, c2, c3, c4, c5, c6, c7, c8, c9, c10, c11⟩ := T
  have i0 := idx0
  have i1 := idx1
  have i2 := idx2
  have i3 := idx3
  go_enter Ybad.func5, Ybad.ntmps5
  go_wp2
  refine wp_loop_rounds 5 ?_
  rw [rounds_succ]
  go_wp2
  rw [rounds_succ]
  go_wp2
  go_quiet (fail)
  go_wp2
  go_ret3
  exact ⟨rfl, below_drewN (((Below.refl _ _).alloc (Nat.le_refl _) _).alloc (by simp; try omega) _) _⟩

set_option maxHeartbeats 400000 in
theorem opc_53 (w : World) (T : Tab w) : Calls Ybad.prog 5 #[.int .u8 53] w fun e w' => e = .returned (.tuple #[.int .i64 15, .int .i64 0, .bool true]) ∧ Below w.heap.size w w' := by
  obtain ⟨c0, c1, c2, c3, c4, c5, c6, c7, c8, c9, c10, c11⟩ := T
  have i0 := idx0
  have i1 := idx1
  have i2 := idx2
  have i3 := idx3
  go_enter Ybad.func5, Ybad.ntmps5
  go_wp2
  refine wp_loop_rounds 5 ?_
  rw [rounds_succ]
  go_wp2
  rw [rounds_succ]
  go_wp2
  rw [rounds_succ]
  go_wp2
  go_quiet (fail)
  go_wp2
  go_ret3
  exact ⟨rfl, below_drewN ((((Below.refl _ _).alloc (Nat.le_refl _) _).alloc (by simp; try omega) _).alloc (by simp; try omega) _) _⟩

set_option maxHeartbeats 400000 in
theorem opc_54 (c : Int) (w : World) (h0 : 54 ≤ c) (h1 : c ≤ 127) (T : Tab w) : Calls Ybad.prog 5 #[.int .u8 c] w fun e w' => e = .returned (.tuple #[.int .i64 0, .int .i64 0, .bool false]) ∧ Below w.heap.size w w' := by
  obtain ⟨c0, c1, c2, c3, c4, c5, c6, c7, c8, c9, c10, c11⟩ := T
  have i0 := idx0
  have i1 := idx1
  have i2 := idx2
  have i3 := idx3
  go_enter Ybad.func5, Ybad.ntmps5
  go_wp2
  refine wp_loop_rounds 5 ?_
  rw [rounds_succ]
  go_wp2
  rw [rounds_succ]
  go_wp2
  rw [rounds_succ]
  go_wp2
  rw [rounds_succ]
  go_wp2
  rw [rounds_succ]
  go_wp2
  go_ret3
  exact ⟨rfl, (((((Below.refl _ _).alloc (Nat.le_refl _) _).alloc (by simp; try omega) _).alloc (by simp; try omega) _).alloc (by simp; try omega) _)⟩

set_option maxHeartbeats 400000 in
theorem opc_128 (c : Int) (w : World) (h0 : 128 ≤ c) (h1 : c ≤ 143) (T : Tab w) : Calls Ybad.prog 5 #[.int .u8 c] w fun e w' => e = .returned (.tuple #[.int .i64 14, .int .i64 (c - 128), .bool true]) ∧ Below w.heap.size w w' := by
  obtain ⟨c0, c1, c2, c3, c4, c5, c6, c7, c8, c9, c10, c11⟩ := T
  have i0 := idx0
  have i1 := idx1
  have i2 := idx2
  have i3 := idx3
  go_enter Ybad.func5, Ybad.ntmps5
  go_wp2
  refine wp_loop_rounds 5 ?_
  rw [rounds_succ]
  go_wp2
  rw [rounds_succ]
  go_wp2
  rw [rounds_succ]
  go_wp2
  rw [rounds_succ]
  go_wp2
  go_quiet (fail)
  go_wp2
  go_ret3
  exact ⟨rfl, below_drewN (((((Below.refl _ _).alloc (Nat.le_refl _) _).alloc (by simp; try omega) _).alloc (by simp; try omega) _).alloc (by simp; try omega) _) _⟩

set_option maxHeartbeats 400000 in
theorem opc_hi (c : Int) (w : World) (h0 : 144 ≤ c) (h1 : c ≤ 255) (T : Tab w) : Calls Ybad.prog 5 #[.int .u8 c] w fun e w' => e = .returned (.tuple #[.int .i64 0, .int .i64 0, .bool false]) ∧ Below w.heap.size w w' := by
  obtain ⟨c0, c1, c2, c3, c4, c5, c6, c7, c8, c9, c10, c11⟩ := T
  have i0 := idx0
  have i1 := idx1
  have i2 := idx2
  have i3 := idx3
  go_enter Ybad.func5, Ybad.ntmps5
  go_wp2
  refine wp_loop_rounds 5 ?_
  rw [rounds_succ]
  go_wp2
  rw [rounds_succ]
  go_wp2
  rw [rounds_succ]
  go_wp2
  rw [rounds_succ]
  go_wp2
  rw [rounds_succ]
  go_wp2
  go_ret3
  exact ⟨rfl, (((((Below.refl _ _).alloc (Nat.le_refl _) _).alloc (by simp; try omega) _).alloc (by simp; try omega) _).alloc (by simp; try omega) _)⟩

/-- revisedOpcode, whatever the byte. -/
theorem opc_any (c : Int) (w : World) (h0 : 0 ≤ c) (h1 : c ≤ 255) (T : Tab w) : Calls Ybad.prog 5 #[.int .u8 c] w fun e w' => e = .returned (.tuple #[.int .i64 (op c).1, .int .i64 (op c).2.1, .bool (op c).2.2]) ∧ Below w.heap.size w w' := by
  rcases parts c h0 h1 with ⟨a, b⟩ | ⟨a, b⟩ | rfl | rfl | ⟨a, b⟩ | ⟨a, b⟩ | ⟨a, b⟩
  · rw [op_no c (by omega)]; exact opc_lo c w a b T
  · rw [op_48 c a b]; exact opc_48 c w a b T
  · exact opc_52 w T
  · exact opc_53 w T
  · rw [op_no c (by omega)]; exact opc_54 c w a b T
  · rw [op_128 c a b]; exact opc_128 c w a b T
  · rw [op_no c (by omega)]; exact opc_hi c w a b T
end Opk
end Go.Proofs.YbulkcldmDoor
