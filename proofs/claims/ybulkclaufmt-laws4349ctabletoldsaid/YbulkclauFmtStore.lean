/-
  Seat b4349aF: the walks of IssuerStorage.String, issuerStorageOf, zzs4349cmodel, zzs4349cword. None of these roads comes to fmt.
-/
import Derived.Test.YbulkclauFmtRows
import Derived.WalkKit
import Derived.WalkSpells
import Derived.WalkLawsBesides
namespace Go.Proofs.YbulkclauFmt
open Go.RowKit
namespace St

/-- What the table says of a word. -/
def stOf (l : List UInt8) : Int × Bool :=
  if (l == [105, 115, 115, 117, 101, 114, 45, 110, 111, 110, 101]) = true then (0, true) else if (l == [105, 115, 115, 117, 101, 114, 45, 100, 101, 102]) = true then (1, true) else if (l == [105, 115, 115, 117, 101, 114, 45, 97, 108, 108]) = true then (2, true) else (0, false)

theorem beq_turn (a b : List UInt8) : (a == b) = (b == a) := by rw [Bool.eq_iff_iff, beq_iff_eq, beq_iff_eq]; exact eq_comm
theorem fin {P : Int × Bool} {x : Int} {y : Bool} (h : P = (x, y)) : Ending.returned (.tuple #[.int .i8 x, .bool y]) = .returned (.tuple #[.int .i8 P.1, .bool P.2]) := by rw [h]

theorem string_0 (w : World) : Calls Ybaf.prog 16 #[.int .i8 0] w fun e w' => e = .returned (.string ⟨#[105, 115, 115, 117, 101, 114, 45, 110, 111, 110, 101]⟩) ∧ w' = w := by
  go_enter Ybaf.func16, Ybaf.ntmps16
  go_wp2
  go_ret
  exact ⟨rfl, rfl⟩
theorem string_1 (w : World) : Calls Ybaf.prog 16 #[.int .i8 1] w fun e w' => e = .returned (.string ⟨#[105, 115, 115, 117, 101, 114, 45, 100, 101, 102]⟩) ∧ w' = w := by
  go_enter Ybaf.func16, Ybaf.ntmps16
  go_wp2
  go_ret
  exact ⟨rfl, rfl⟩
theorem string_2 (w : World) : Calls Ybaf.prog 16 #[.int .i8 2] w fun e w' => e = .returned (.string ⟨#[105, 115, 115, 117, 101, 114, 45, 97, 108, 108]⟩) ∧ w' = w := by
  go_enter Ybaf.func16, Ybaf.ntmps16
  go_wp2
  go_ret
  exact ⟨rfl, rfl⟩

theorem model_any (s : ByteArray) (w : World) : Calls Ybaf.prog 14 #[.string s] w fun e w' => e = .returned (.tuple #[.int .i8 (stOf s.toList).1, .bool (stOf s.toList).2]) ∧ w' = w := by
  go_enter Ybaf.func14, Ybaf.ntmps14
  go_wp2
  all_goals
    go_ret2
    exact ⟨fin (by simp only [stOf, *]; rfl), rfl⟩

theorem storage_any (s : ByteArray) (w : World) : Calls Ybaf.prog 13 #[.string s] w fun e w' => e = .returned (.tuple #[.int .i8 (stOf s.toList).1, .bool (stOf s.toList).2]) ∧ w' = w := by
  have t0 := beq_turn s.toList [105, 115, 115, 117, 101, 114, 45, 110, 111, 110, 101]
  have t1 := beq_turn s.toList [105, 115, 115, 117, 101, 114, 45, 100, 101, 102]
  have t2 := beq_turn s.toList [105, 115, 115, 117, 101, 114, 45, 97, 108, 108]
  have H0 : Hid ((s.toList == [105, 115, 115, 117, 101, 114, 45, 110, 111, 110, 101]) = ([105, 115, 115, 117, 101, 114, 45, 110, 111, 110, 101] == s.toList)) := t0
  have H1 : Hid ((s.toList == [105, 115, 115, 117, 101, 114, 45, 100, 101, 102]) = ([105, 115, 115, 117, 101, 114, 45, 100, 101, 102] == s.toList)) := t1
  have H2 : Hid ((s.toList == [105, 115, 115, 117, 101, 114, 45, 97, 108, 108]) = ([105, 115, 115, 117, 101, 114, 45, 97, 108, 108] == s.toList)) := t2
  clear t0 t1 t2
  cases h0 : ([105, 115, 115, 117, 101, 114, 45, 110, 111, 110, 101] == s.toList)
  · cases h1 : ([105, 115, 115, 117, 101, 114, 45, 100, 101, 102] == s.toList)
    · cases h2 : ([105, 115, 115, 117, 101, 114, 45, 97, 108, 108] == s.toList)
      · have HF : Hid (stOf s.toList = (0, false)) := by unfold stOf; rw [H0.out, H1.out, H2.out, h0, h1, h2]; rfl
        go_enter Ybaf.func13, Ybaf.ntmps13
        go_wp2
        refine wp_loop_rounds 4 ?_
        rw [rounds_succ]
        go_wp2_with (go_at_call 16; refine (string_0 _).mono ?_; rintro e w' ⟨rfl, hw⟩; subst hw)
        rw [rounds_succ]
        go_wp2_with (go_at_call 16; refine (string_1 _).mono ?_; rintro e w' ⟨rfl, hw⟩; subst hw)
        rw [rounds_succ]
        go_wp2_with (go_at_call 16; refine (string_2 _).mono ?_; rintro e w' ⟨rfl, hw⟩; subst hw)
        rw [rounds_succ]
        go_wp2
        go_ret2
        exact ⟨fin HF.out, rfl⟩
      · have HF : Hid (stOf s.toList = (2, true)) := by unfold stOf; rw [H0.out, H1.out, H2.out, h0, h1, h2]; rfl
        go_enter Ybaf.func13, Ybaf.ntmps13
        go_wp2
        refine wp_loop_rounds 4 ?_
        rw [rounds_succ]
        go_wp2_with (go_at_call 16; refine (string_0 _).mono ?_; rintro e w' ⟨rfl, hw⟩; subst hw)
        rw [rounds_succ]
        go_wp2_with (go_at_call 16; refine (string_1 _).mono ?_; rintro e w' ⟨rfl, hw⟩; subst hw)
        rw [rounds_succ]
        go_wp2_with (go_at_call 16; refine (string_2 _).mono ?_; rintro e w' ⟨rfl, hw⟩; subst hw)
        go_ret2
        exact ⟨fin HF.out, rfl⟩
    · have HF : Hid (stOf s.toList = (1, true)) := by unfold stOf; rw [H0.out, H1.out, h0, h1]; rfl
      go_enter Ybaf.func13, Ybaf.ntmps13
      go_wp2
      refine wp_loop_rounds 4 ?_
      rw [rounds_succ]
      go_wp2_with (go_at_call 16; refine (string_0 _).mono ?_; rintro e w' ⟨rfl, hw⟩; subst hw)
      rw [rounds_succ]
      go_wp2_with (go_at_call 16; refine (string_1 _).mono ?_; rintro e w' ⟨rfl, hw⟩; subst hw)
      go_ret2
      exact ⟨fin HF.out, rfl⟩
  · have HF : Hid (stOf s.toList = (0, true)) := by unfold stOf; rw [H0.out, h0]; rfl
    go_enter Ybaf.func13, Ybaf.ntmps13
    go_wp2
    refine wp_loop_rounds 4 ?_
    rw [rounds_succ]
    go_wp2_with (go_at_call 16; refine (string_0 _).mono ?_; rintro e w' ⟨rfl, hw⟩; subst hw)
    go_ret2
    exact ⟨fin HF.out, rfl⟩

theorem eq_self (P : Int × Bool) : ((P.1 == P.1) = true) ∧ ((P.2 == P.2) = true) := by simp

theorem table_any (s : ByteArray) (w : World) : Calls Ybaf.prog 4 #[.string s] w fun e w' => e = .returned (.bool true) ∧ w' = w := by
  have hm := fun w => model_any s w
  have hs := fun w => storage_any s w
  generalize stOf s.toList = r at hm hs
  obtain ⟨a, b⟩ := r
  have HM : Hid (∀ w, Calls Ybaf.prog 14 #[.string s] w fun e w' => e = .returned (.tuple #[.int .i8 a, .bool b]) ∧ w' = w) := hm
  have HS : Hid (∀ w, Calls Ybaf.prog 13 #[.string s] w fun e w' => e = .returned (.tuple #[.int .i8 a, .bool b]) ∧ w' = w) := hs
  clear hm hs
  go_enter Ybaf.func4, Ybaf.ntmps4
  go_wp2_with (first | (go_at_call 13; refine (HS.out _).mono ?_; rintro e w' ⟨rfl, hw⟩; subst hw) | (go_at_call 14; refine (HM.out _).mono ?_; rintro e w' ⟨rfl, hw⟩; subst hw))
  go_ret
  exact ⟨rfl, rfl⟩

theorem st_0 : stOf (⟨#[105, 115, 115, 117, 101, 114, 45, 110, 111, 110, 101]⟩ : ByteArray).toList = (0, true) := by decide +kernel
theorem storage_0 (w : World) : Calls Ybaf.prog 13 #[.string ⟨#[105, 115, 115, 117, 101, 114, 45, 110, 111, 110, 101]⟩] w fun e w' => e = .returned (.tuple #[.int .i8 0, .bool true]) ∧ w' = w := by
  have h := storage_any ⟨#[105, 115, 115, 117, 101, 114, 45, 110, 111, 110, 101]⟩ w
  rw [st_0] at h
  exact h
theorem st_1 : stOf (⟨#[105, 115, 115, 117, 101, 114, 45, 100, 101, 102]⟩ : ByteArray).toList = (1, true) := by decide +kernel
theorem storage_1 (w : World) : Calls Ybaf.prog 13 #[.string ⟨#[105, 115, 115, 117, 101, 114, 45, 100, 101, 102]⟩] w fun e w' => e = .returned (.tuple #[.int .i8 1, .bool true]) ∧ w' = w := by
  have h := storage_any ⟨#[105, 115, 115, 117, 101, 114, 45, 100, 101, 102]⟩ w
  rw [st_1] at h
  exact h
theorem st_2 : stOf (⟨#[105, 115, 115, 117, 101, 114, 45, 97, 108, 108]⟩ : ByteArray).toList = (2, true) := by decide +kernel
theorem storage_2 (w : World) : Calls Ybaf.prog 13 #[.string ⟨#[105, 115, 115, 117, 101, 114, 45, 97, 108, 108]⟩] w fun e w' => e = .returned (.tuple #[.int .i8 2, .bool true]) ∧ w' = w := by
  have h := storage_any ⟨#[105, 115, 115, 117, 101, 114, 45, 97, 108, 108]⟩ w
  rw [st_2] at h
  exact h

theorem round_any (x : Int) (w : World) (h0 : 0 ≤ x) (h1 : x ≤ 255) : Calls Ybaf.prog 6 #[.int .u8 x] w fun e w' => e = .returned (.bool true) ∧ w' = w := by
  have hx : x % 3 = 0 ∨ x % 3 = 1 ∨ x % 3 = 2 := by omega
  rcases hx with hx | hx | hx
  · go_enter Ybaf.func6, Ybaf.ntmps6
    go_wp2_with (first | (go_at_call 16; refine (string_0 _).mono ?_; rintro e w' ⟨rfl, hw⟩; subst hw) | (go_at_call 13; refine (storage_0 _).mono ?_; rintro e w' ⟨rfl, hw⟩; subst hw))
    go_ret
    exact ⟨rfl, rfl⟩
  · go_enter Ybaf.func6, Ybaf.ntmps6
    go_wp2_with (first | (go_at_call 16; refine (string_1 _).mono ?_; rintro e w' ⟨rfl, hw⟩; subst hw) | (go_at_call 13; refine (storage_1 _).mono ?_; rintro e w' ⟨rfl, hw⟩; subst hw))
    go_ret
    exact ⟨rfl, rfl⟩
  · go_enter Ybaf.func6, Ybaf.ntmps6
    go_wp2_with (first | (go_at_call 16; refine (string_2 _).mono ?_; rintro e w' ⟨rfl, hw⟩; subst hw) | (go_at_call 13; refine (storage_2 _).mono ?_; rintro e w' ⟨rfl, hw⟩; subst hw))
    go_ret
    exact ⟨rfl, rfl⟩
end St
end Go.Proofs.YbulkclauFmt
