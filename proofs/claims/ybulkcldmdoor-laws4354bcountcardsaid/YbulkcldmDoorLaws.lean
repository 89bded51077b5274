/-
  Seat b4354aD: the two laws' walks.
-/
import Derived.Test.YbulkcldmDoorWalks
namespace Go.Proofs.YbulkcldmDoor
open Go.RowKit
namespace Opk

theorem hid {p : Prop} (h : p) : Hid p := h

theorem up_yes {a b : Nat} (h : a = b + 1) : Value.int .i64 ((b : Int) + 1) = .int .i64 (a : Int) := by rw [h]; rfl
theorem up_no {a b : Nat} (h : a = b) : Value.int .i64 (b : Int) = .int .i64 (a : Int) := by rw [h]

theorem Tab.below {w w' : World} {B : Nat} (T : Tab w) (h : Below B w w') (hB : 0 < B) : Tab w' :=
  ⟨(h.cell (p := ⟨0, 0, none⟩) hB).trans T.c0, (h.cell (p := ⟨0, 1, none⟩) hB).trans T.c1, (h.cell (p := ⟨0, 2, none⟩) hB).trans T.c2, (h.cell (p := ⟨0, 3, none⟩) hB).trans T.c3,
   (h.cell (p := ⟨0, 4, none⟩) hB).trans T.c4, (h.cell (p := ⟨0, 5, none⟩) hB).trans T.c5, (h.cell (p := ⟨0, 6, none⟩) hB).trans T.c6, (h.cell (p := ⟨0, 7, none⟩) hB).trans T.c7,
   (h.cell (p := ⟨0, 8, none⟩) hB).trans T.c8, (h.cell (p := ⟨0, 9, none⟩) hB).trans T.c9, (h.cell (p := ⟨0, 10, none⟩) hB).trans T.c10, (h.cell (p := ⟨0, 11, none⟩) hB).trans T.c11⟩

theorem Tab.size {w : World} (T : Tab w) : 0 < w.heap.size := World.block_lt_of_cell? _ _ T.c0

theorem table_any (c : Int) (w : World) (h0 : 0 ≤ c) (h1 : c ≤ 255) (T : Tab w) : Calls Ybad.prog 3 #[.int .u8 c] w fun e w' => e = .returned (.bool true) ∧ Below w.heap.size w w' := by
  have hm := fun w => model_any c w h0 h1
  have hs := opc_any c w h0 h1 T
  generalize op c = r at hm hs
  obtain ⟨a, b, d⟩ := r
  have HM : Hid (∀ w, Calls Ybad.prog 6 #[.int .u8 c] w fun e w' => e = .returned (.tuple #[.int .i64 a, .int .i64 b, .bool d]) ∧ w' = w) := hm
  have HS : Hid (Calls Ybad.prog 5 #[.int .u8 c] w fun e w' => e = .returned (.tuple #[.int .i64 a, .int .i64 b, .bool d]) ∧ Below w.heap.size w w') := hs
  clear hm hs T
  go_enter Ybad.func3, Ybad.ntmps3
  go_wp2_with (first | (go_at_call 5; refine HS.out.mono ?_; rintro e w1 ⟨rfl, hb⟩) | (go_at_call 6; refine (HM.out _).mono ?_; rintro e w' ⟨rfl, hw⟩; subst hw))
  go_ret
  exact ⟨rfl, hb⟩

/-- How many below k. -/
def cnt (f : Nat → Bool) : Nat → Nat
  | 0 => 0
  | k + 1 => cnt f k + if f k = true then 1 else 0
theorem cnt_le (f : Nat → Bool) (k : Nat) : cnt f k ≤ k := by
  induction k with
  | zero => exact Nat.le_refl _
  | succ k ih => unfold cnt; split <;> omega
theorem cnt_yes (f : Nat → Bool) (k : Nat) (h : f k = true) : cnt f (k + 1) = cnt f k + 1 := by rw [cnt, if_pos h]
theorem cnt_no (f : Nat → Bool) (k : Nat) (h : f k = false) : cnt f (k + 1) = cnt f k := by rw [cnt, if_neg (by rw [h]; decide), Nat.add_zero]

def isOk (k : Nat) : Bool := (op k).2.2
def isFill (k : Nat) : Bool := (op k).2.2 && (op k).1 == 14
def isEll (k : Nat) : Bool := (op k).2.2 && (op k).1 == 17
theorem all_ok : cnt isOk 256 = 22 := by decide +kernel
theorem all_fill : cnt isFill 256 = 16 := by decide +kernel
theorem all_ell : cnt isEll 256 = 4 := by decide +kernel

/-- What a byte is: with what the three counts make of it. -/
theorem kinds (k : Nat) (h : k ≤ 255) :
    (op k = (0, 0, false) ∧ cnt isOk (k + 1) = cnt isOk k ∧ cnt isFill (k + 1) = cnt isFill k ∧ cnt isEll (k + 1) = cnt isEll k) ∨
    (∃ v : Int, 0 ≤ v ∧ v ≤ 15 ∧ op k = (17, v, true) ∧ cnt isOk (k + 1) = cnt isOk k + 1 ∧ cnt isFill (k + 1) = cnt isFill k ∧ cnt isEll (k + 1) = cnt isEll k + 1) ∨
    (∃ v : Int, 0 ≤ v ∧ v ≤ 15 ∧ op k = (14, v, true) ∧ cnt isOk (k + 1) = cnt isOk k + 1 ∧ cnt isFill (k + 1) = cnt isFill k + 1 ∧ cnt isEll (k + 1) = cnt isEll k) ∨
    (∃ u v : Int, 0 ≤ v ∧ v ≤ 15 ∧ (u == 14) = false ∧ (u == 17) = false ∧ op k = (u, v, true) ∧ cnt isOk (k + 1) = cnt isOk k + 1 ∧ cnt isFill (k + 1) = cnt isFill k ∧ cnt isEll (k + 1) = cnt isEll k) := by
  have no : ∀ k : Nat, op k = (0, 0, false) → cnt isOk (k + 1) = cnt isOk k ∧ cnt isFill (k + 1) = cnt isFill k ∧ cnt isEll (k + 1) = cnt isEll k := fun k h =>
    ⟨cnt_no _ _ (by simp [isOk, h]), cnt_no _ _ (by simp [isFill, h]), cnt_no _ _ (by simp [isEll, h])⟩
  rcases parts (k : Int) (by omega) (by omega) with ⟨a, b⟩ | ⟨a, b⟩ | a | a | ⟨a, b⟩ | ⟨a, b⟩ | ⟨a, b⟩
  · have e := op_no (k : Int) (by omega); exact .inl ⟨e, no k e⟩
  · have e := op_48 (k : Int) a b
    exact .inr (.inl ⟨_, by omega, by omega, e, cnt_yes _ _ (by simp [isOk, e]), cnt_no _ _ (by simp [isFill, e]), cnt_yes _ _ (by simp [isEll, e])⟩)
  · have e : op (k : Int) = (16, 0, true) := by rw [a]; rfl
    exact .inr (.inr (.inr ⟨16, 0, by omega, by omega, rfl, rfl, e, cnt_yes _ _ (by simp [isOk, e]), cnt_no _ _ (by simp [isFill, e]), cnt_no _ _ (by simp [isEll, e])⟩))
  · have e : op (k : Int) = (15, 0, true) := by rw [a]; rfl
    exact .inr (.inr (.inr ⟨15, 0, by omega, by omega, rfl, rfl, e, cnt_yes _ _ (by simp [isOk, e]), cnt_no _ _ (by simp [isFill, e]), cnt_no _ _ (by simp [isEll, e])⟩))
  · have e := op_no (k : Int) (by omega); exact .inl ⟨e, no k e⟩
  · have e := op_128 (k : Int) a b
    exact .inr (.inr (.inl ⟨_, by omega, by omega, e, cnt_yes _ _ (by simp [isOk, e]), cnt_yes _ _ (by simp [isFill, e]), cnt_no _ _ (by simp [isEll, e])⟩))
  · have e := op_no (k : Int) (by omega); exact .inl ⟨e, no k e⟩

set_option maxRecDepth 100000 in
set_option maxHeartbeats 400000 in
theorem count_any (w : World) (T : Tab w) : Calls Ybad.prog 4 #[] w fun e w' => e = .returned (.bool true) ∧ Below w.heap.size w w' := by
  have HT : Hid (Tab w) := T
  have hsz := T.size
  clear T
  go_enter Ybad.func4, Ybad.ntmps4
  go_wp2
  go_loopw [1, 2, 3, 4] (fun a f l i wr => ∃ k : Nat, k ≤ 256 ∧ i = .int .i64 k ∧ a = .int .i64 (cnt isOk k) ∧ f = .int .i64 (cnt isFill k) ∧ l = .int .i64 (cnt isEll k) ∧ Below w.heap.size w wr) (fun _ _ _ i _ => 256 - (intOf i).toNat)
  case atStart => exact ⟨0, by omega, rfl, rfl, rfl, rfl, Below.refl _ _⟩
  case round =>
    obtain ⟨k, hk, rfl, rfl, rfl, rfl, hbel⟩ := hrel
    have ha := cnt_le isOk k
    have hf := cnt_le isFill k
    have hl := cnt_le isEll k
    by_cases hlt : k < 256
    · have hc := opc_any (k : Int) wr (by omega) (by omega) (HT.out.below hbel hsz)
      have hbs := hbel.size
      rcases kinds k (by omega) with ⟨e, n1, n2, n3⟩ | ⟨v, v0, v1, e, n1, n2, n3⟩ | ⟨v, v0, v1, e, n1, n2, n3⟩ | ⟨u, v, v0, v1, u1, u2, e, n1, n2, n3⟩
      · rw [e] at hc
        have HC := hid hc
        have N1 := hid n1
        have N2 := hid n2
        have N3 := hid n3
        clear hc n1 n2 n3 e
        go_wp2_with (go_at_call 5; refine HC.out.mono ?_; rintro e w1 ⟨rfl, hb⟩)
        have R := hbel.trans (hb.mono hbs)
        go_roundw
        case rel => exact ⟨k + 1, by omega, by go_num, up_no N1.out, up_no N2.out, up_no N3.out, R⟩
        case measure => simp [intOf]; omega
      · rw [e] at hc
        have HC := hid hc
        have N1 := hid n1
        have N2 := hid n2
        have N3 := hid n3
        clear hc n1 n2 n3 e
        go_wp2_with (go_at_call 5; refine HC.out.mono ?_; rintro e w1 ⟨rfl, hb⟩)
        have R := hbel.trans (hb.mono hbs)
        go_roundw
        case rel => exact ⟨k + 1, by omega, by go_num, up_yes N1.out, up_no N2.out, up_yes N3.out, R⟩
        case measure => simp [intOf]; omega
      · rw [e] at hc
        have HC := hid hc
        have N1 := hid n1
        have N2 := hid n2
        have N3 := hid n3
        clear hc n1 n2 n3 e
        go_wp2_with (go_at_call 5; refine HC.out.mono ?_; rintro e w1 ⟨rfl, hb⟩)
        have R := hbel.trans (hb.mono hbs)
        go_roundw
        case rel => exact ⟨k + 1, by omega, by go_num, up_yes N1.out, up_yes N2.out, up_no N3.out, R⟩
        case measure => simp [intOf]; omega
      · rw [e] at hc
        have HC := hid hc
        have N1 := hid n1
        have N2 := hid n2
        have N3 := hid n3
        clear hc n1 n2 n3 e
        go_wp2_with (go_at_call 5; refine HC.out.mono ?_; rintro e w1 ⟨rfl, hb⟩)
        have R := hbel.trans (hb.mono hbs)
        go_roundw
        case rel => exact ⟨k + 1, by omega, by go_num, up_yes N1.out, up_no N2.out, up_no N3.out, R⟩
        case measure => simp [intOf]; omega
    · obtain rfl : k = 256 := by omega
      rw [all_ok, all_fill, all_ell]
      go_wp2
      go_ret
      exact ⟨rfl, hbel⟩
end Opk
end Go.Proofs.YbulkcldmDoor
