/-
  Seat b4343a, LawS4343AModel: bytes.Equal at two rows of the same bytes; the law's walk.
-/
import Derived.Test.YbulkckxoModel2
import Derived.Test.YbulkckxoValidWalk
namespace Go.Proofs.Ybulkckxo
open Go.RowKit
namespace Sc

/-- A row of bytes at a slice value: where there is a byte, an address with its cells. -/
def Bytes (w : World) (a : Option Addr) (xs : List Int) : Prop :=
  0 < xs.length → ∃ b off, a = some ⟨b, off, none⟩ ∧ ∀ j, j < xs.length → w.cell? ⟨b, off + j, none⟩ = some (.int .u8 (xs.getD j 0))

theorem Bytes.conv {w : World} {a : Option Addr} {xs : List Int} (h : Bytes w a xs) (c : Nat) : (convert 22 9 (.slice a xs.length c)).run Yba.prog w = .ok (.string (strOfNums xs)) w := by
  rcases Nat.eq_zero_or_pos xs.length with hn | hn
  · obtain rfl : xs = [] := List.eq_nil_of_length_eq_zero hn
    rw [run_convert_bytes_string w 22 9 5 _ _ c Yba.underlying22 Yba.underlying5 Yba.underlying9]
    cases a with
    | none => simp [Conv.bytesToString, strOfNums]; rfl
    | some x =>
      have hl : (loadCells x 0).run Yba.prog w = .ok (([] : List Int).map (Value.int .u8)).toArray w := by simp [loadCells, loadCellsFrom]
      rw [List.length_nil, run_bytesToString w x 0 c [] hl]
      rfl
  · obtain ⟨b, o, rfl, hc⟩ := h hn
    exact run_convert_bytes_arg (P := Yba.prog) w 22 5 Yba.underlying22 Yba.underlying5 b o _ c xs rfl hc 9 Yba.underlying9

theorem equal_same (a1 a2 : Option Addr) (c1 c2 : Nat) (xs : List Int) (w : World) (h1 : Bytes w a1 xs) (h2 : Bytes w a2 xs) :
    Calls Yba.prog 8 #[.slice a1 xs.length c1, .slice a2 xs.length c2] w fun e w' => e = .returned (.bool true) ∧ w' = w := by
  have k1 := h1.conv c1
  have k2 := h2.conv c2
  clear h1 h2
  generalize strOfNums xs = s at k1 k2
  generalize xs.length = n at k1 k2 ⊢
  go_enter Yba.func8, Yba.ntmps8
  go_wp2
  go_ret
  exact ⟨by simp, rfl⟩

theorem Bytes.below {w w' : World} {a : Option Addr} {xs : List Int} (h : Bytes w a xs) (hb : Below w.heap.size w w') : Bytes w' a xs := by
  intro hp
  obtain ⟨b, off, rfl, hc⟩ := h hp
  exact ⟨b, off, rfl, fun j hj => (hb.cell (p := ⟨b, off + j, none⟩) (World.block_lt_of_cell? _ _ (hc j hj))).trans (hc j hj)⟩

theorem bytes_own {w1 w3 : World} {B g c : Nat} {xs : List Int} {o : Obj} (hown : w1.ownsRow B 5 1 (.slice (some ⟨g, 0, none⟩) xs.length c) xs.length (xs.map (Value.int .u8))) (hg : g < w1.heap.size)
    (hb : Below w1.heap.size (w1.alloc o) w3) : Bytes w3 (some ⟨g, 0, none⟩) xs := by
  intro _
  refine ⟨g, 0, rfl, fun j hj => ?_⟩
  rw [Nat.zero_add, hb.cell (p := ⟨g, j, none⟩) hg, (hown.alloc o).cellAt j (by omega), List.getElem?_map]
  simp [List.getD, hj]

theorem own_empty {w : World} {B : Nat} {v : Value} {xs : List Value} (h : w.ownsRow B 5 1 v 0 xs) : ∃ a c, v = .slice a 0 c := by
  rcases h.2 with ⟨hv, _⟩ | ⟨g, cap, cur, hv, _⟩
  · exact ⟨_, _, hv⟩
  · exact ⟨_, _, hv⟩

set_option maxHeartbeats 400000 in
theorem model_walk (a0 : Option Addr) (cap : Nat) (xs : List Int) (q : Int) (w : World) (q0 : 0 ≤ q) (q1 : q ≤ 65535) (hn : xs.length ≤ 1024)
    (hnone : a0 = none → xs.length = 0 ∧ cap = 0) (hb : Bytes w a0 xs) (hc : ∀ ad, a0 = some ad → ∀ j u, (xs.map (Value.int .u8))[j]? = some u → w.cell? (ad.add j) = some u) (hpos : 0 < xs.length) :
    Calls Yba.prog 3 #[.slice a0 xs.length cap, .int .u16 q] w fun e w' => e = .returned (.bool true) ∧ Below w.heap.size w w' := by
  obtain ⟨p, hp⟩ : ∃ p : Nat, q % ((xs.length : Int) + 1) = (p : Int) := ⟨(q % ((xs.length : Int) + 1)).toNat, by have := Int.emod_nonneg q (show ((xs.length : Int) + 1) ≠ 0 by omega); omega⟩
  have hpn : p ≤ xs.length := by have := Int.emod_lt_of_pos q (show (0 : Int) < (xs.length : Int) + 1 by omega); omega
  obtain ⟨i0, hi, hq0, hq1, hq2⟩ := info_parts Yba.info5
  have HN : Hid (a0 = none → xs.length = 0 ∧ cap = 0) := hnone
  have HC : Hid (∀ ad, a0 = some ad → ∀ j u, (xs.map (Value.int .u8))[j]? = some u → w.cell? (ad.add j) = some u) := hc
  have HB : Hid (Bytes w a0 xs) := hb
  have hd0 : ¬ (1024 : Int) < (xs.length : Int) := by omega
  clear hnone hc hb
  go_enter Yba.func3, Yba.ntmps3
  go_wp2_with (at_builtin; refine wpList_append_any rfl (.const (.slice none 0 0)) (.tmp 20) 22 rfl w.heap.size 5 i0 (.int .u8 0) 1 1 Yba.underlying22 hi hq0 hq1 hq2 rfl (by decide) _ _ _ rfl (World.ownsRow_nil _ _ _ _) a0 xs.length cap (xs.map (Value.int .u8)) rfl HN.out (by rw [List.length_map, Nat.mul_one]) HC.out (ints_oneCell .u8 _) (by unfold maxLen; omega) (by omega) (Nat.le_refl _) ?_; intro v1 w1 hown1 hgrow1; rw [Nat.zero_add, List.nil_append] at hown1; obtain ⟨g1, c1, hv1, hga, hgb⟩ := own_form hown1 (by omega); subst hv1; have hbe1 : Below w.heap.size w w1 := below_own (Below.refl _ _) (Nat.le_refl _) (World.ownsRow_nil _ _ _ _) hgrow1; have hsz1 := hbe1.size)
  clear hgrow1
  refine (scan_call w1 w.heap.size g1 c1 _ xs p p rfl rfl (by omega) hpn hown1).mono ?_
  rintro e w3 ⟨rfl, T⟩
  have hbe3 : Below w.heap.size w w3 := (hbe1.alloc hsz1 _).trans (T.below.mono hsz1)
  have hB0 : Bytes w3 a0 xs := HB.out.below hbe3
  have hB1 : Bytes w3 (some ⟨g1, 0, none⟩) xs := bytes_own hown1 hgb T.below
  have hm := model_any a0 p cap xs w3 (by omega) hpn hB0
  have heq := equal_same (some ⟨g1, 0, none⟩) a0 c1 cap xs w3 hB1 hB0
  generalize hr : scan xs (xs.length + 1) (p + 1) = r at T hm ⊢
  clear hr
  obtain ⟨ok, pos⟩ := r
  have t1 : w3.cell? ⟨w1.heap.size, 1, none⟩ = some (.int .i64 (pos : Int)) := T.here
  have HM : Hid (Calls Yba.prog 7 #[.slice a0 xs.length cap, .int .i64 (p : Int)] w3 fun e w' => e = .returned (.tuple #[.bool ok, .int .i64 (pos : Int)]) ∧ w' = w3) := hm
  have HQ : Hid (Calls Yba.prog 8 #[.slice (some ⟨g1, 0, none⟩) xs.length c1, .slice a0 xs.length cap] w3 fun e w' => e = .returned (.bool true) ∧ w' = w3) := heq
  clear hm heq T hB0 hB1
  go_wp2_with (first | (go_at_call 7; refine HM.out.mono ?_; rintro e w' ⟨rfl, hw⟩; subst hw) | (go_at_call 8; refine HQ.out.mono ?_; rintro e w' ⟨rfl, hw⟩; subst hw))
  go_ret
  exact ⟨rfl, hbe3⟩

theorem model_empty (a0 : Option Addr) (cap : Nat) (w : World) : Calls Yba.prog 7 #[.slice a0 0 cap, .int .i64 0] w fun e w' => e = .returned (.tuple #[.bool false, .int .i64 1]) ∧ w' = w :=
  model_any a0 0 cap [] w (by simp) (Nat.le_refl _) (fun h => absurd h (Nat.lt_irrefl 0))
theorem equal_empty (a1 a2 : Option Addr) (c1 c2 : Nat) (w : World) : Calls Yba.prog 8 #[.slice a1 0 c1, .slice a2 0 c2] w fun e w' => e = .returned (.bool true) ∧ w' = w :=
  equal_same a1 a2 c1 c2 [] w (fun h => absurd h (Nat.lt_irrefl 0)) (fun h => absurd h (Nat.lt_irrefl 0))

set_option maxHeartbeats 400000 in
theorem model_walk_empty (a0 : Option Addr) (cap : Nat) (q : Int) (w : World) (q0 : 0 ≤ q) (q1 : q ≤ 65535) (hnone : a0 = none → cap = 0) :
    Calls Yba.prog 3 #[.slice a0 0 cap, .int .u16 q] w fun e w' => e = .returned (.bool true) ∧ Below w.heap.size w w' := by
  obtain ⟨i0, hi, hq0, hq1, hq2⟩ := info_parts Yba.info5
  have HN : Hid (a0 = none → cap = 0) := hnone
  clear hnone
  go_enter Yba.func3, Yba.ntmps3
  go_wp2_with (at_builtin; refine wpList_append_any rfl (.const (.slice none 0 0)) (.tmp 20) 22 rfl w.heap.size 5 i0 (.int .u8 0) 1 1 Yba.underlying22 hi hq0 hq1 hq2 rfl (by decide) _ _ _ rfl (World.ownsRow_nil _ _ _ _) a0 0 cap [] rfl (fun h => ⟨rfl, HN.out h⟩) rfl (fun _ _ _ _ h => by cases h) (fun _ h => by cases h) (by unfold maxLen; omega) (by omega) (Nat.le_refl _) ?_; intro v1 w1 hown1 hgrow1; rw [Nat.zero_add, List.nil_append] at hown1; obtain ⟨g1, c1, hv1⟩ := own_empty hown1; subst hv1; have hbe1 : Below w.heap.size w w1 := below_own (Below.refl _ _) (Nat.le_refl _) (World.ownsRow_nil _ _ _ _) hgrow1; have hsz1 := hbe1.size)
  clear hgrow1
  refine (escaped_nil w1.heap.size c1 g1 _ (by rw [World.cell?_alloc_new]; rfl) (by rw [World.cell?_alloc_new]; rfl) (World.frozen?_alloc_new w1 _ _ _)).mono ?_
  rintro e w3 ⟨rfl, T⟩
  have hbe3 : Below w.heap.size w w3 := (hbe1.alloc hsz1 _).trans (T.below.mono hsz1)
  have t1 : w3.cell? ⟨w1.heap.size, 1, none⟩ = some (.int .i64 1) := T.here
  have HM : Hid (Calls Yba.prog 7 #[.slice a0 0 cap, .int .i64 0] w3 fun e w' => e = .returned (.tuple #[.bool false, .int .i64 1]) ∧ w' = w3) := model_empty a0 cap w3
  have HQ : Hid (Calls Yba.prog 8 #[.slice g1 0 c1, .slice a0 0 cap] w3 fun e w' => e = .returned (.bool true) ∧ w' = w3) := equal_empty g1 a0 c1 cap w3
  clear T
  go_wp2_with (first | (go_at_call 7; refine HM.out.mono ?_; rintro e w' ⟨rfl, hw⟩; subst hw) | (go_at_call 8; refine HQ.out.mono ?_; rintro e w' ⟨rfl, hw⟩; subst hw))
  go_ret
  exact ⟨rfl, hbe3⟩
end Sc
end Go.Proofs.Ybulkckxo
