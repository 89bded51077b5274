/-
  Seat b4343a, LawS4343AValid: the pieces, and the plain law: a quote, well-formed pieces, a quote, any tail: the scan ends just behind the closing quote.
-/
import Derived.Test.YbulkckxoPlain
import Derived.Lib.AppendStr
import Derived.WalkKit
namespace Go.Proofs.Ybulkckxo
open Go.RowKit
namespace Sc

def segS (p : Int) : ByteArray :=
  if p % 14 = 0 then ⟨#[97]⟩ else if p % 14 = 1 then ⟨#[32]⟩ else if p % 14 = 2 then ⟨#[126]⟩ else if p % 14 = 3 then ⟨#[92, 34]⟩ else if p % 14 = 4 then ⟨#[92, 92]⟩
  else if p % 14 = 5 then ⟨#[92, 47]⟩ else if p % 14 = 6 then ⟨#[92, 98]⟩ else if p % 14 = 7 then ⟨#[92, 102]⟩ else if p % 14 = 8 then ⟨#[92, 110]⟩ else if p % 14 = 9 then ⟨#[92, 114]⟩
  else if p % 14 = 10 then ⟨#[92, 116]⟩ else if p % 14 = 11 then ⟨#[92, 117, 48, 48, 97, 70]⟩ else if p % 14 = 12 then ⟨#[92, 117, 66, 69, 69, 70]⟩ else ⟨#[57]⟩

/-- A piece as numbers. -/
def seg (p : Int) : List Int := (segS p).data.toList.map fun b => (b.toNat : Int)

theorem strCells_seg (p : Int) : Lib.strCells (segS p) = (seg p).map (Value.int .u8) := by
  simp [Lib.strCells, seg]

theorem seg_length (p : Int) : (seg p).length = (segS p).size := by
  rw [seg, List.length_map, Array.length_toList]; rfl

/-- What a piece is: one plain byte, an escape of two, or an escape of six. -/
theorem seg_cases (p : Int) : (∃ c, seg p = [c] ∧ c ≠ 34 ∧ c ≠ 92 ∧ plainB c = true) ∨ (∃ c, seg p = [92, c] ∧ simpleB c = true) ∨
    (∃ a b c d, seg p = [92, 117, a, b, c, d] ∧ hexB a = true ∧ hexB b = true ∧ hexB c = true ∧ hexB d = true) := by
  have h : p % 14 = 0 ∨ p % 14 = 1 ∨ p % 14 = 2 ∨ p % 14 = 3 ∨ p % 14 = 4 ∨ p % 14 = 5 ∨ p % 14 = 6 ∨ p % 14 = 7 ∨ p % 14 = 8 ∨ p % 14 = 9 ∨ p % 14 = 10 ∨ p % 14 = 11 ∨ p % 14 = 12 ∨ p % 14 = 13 := by omega
  rcases h with h | h | h | h | h | h | h | h | h | h | h | h | h | h
  · exact .inl ⟨97, by simp [seg, segS, h], by decide, by decide, by decide⟩
  · exact .inl ⟨32, by simp [seg, segS, h], by decide, by decide, by decide⟩
  · exact .inl ⟨126, by simp [seg, segS, h], by decide, by decide, by decide⟩
  · exact .inr (.inl ⟨34, by simp [seg, segS, h], by decide⟩)
  · exact .inr (.inl ⟨92, by simp [seg, segS, h], by decide⟩)
  · exact .inr (.inl ⟨47, by simp [seg, segS, h], by decide⟩)
  · exact .inr (.inl ⟨98, by simp [seg, segS, h], by decide⟩)
  · exact .inr (.inl ⟨102, by simp [seg, segS, h], by decide⟩)
  · exact .inr (.inl ⟨110, by simp [seg, segS, h], by decide⟩)
  · exact .inr (.inl ⟨114, by simp [seg, segS, h], by decide⟩)
  · exact .inr (.inl ⟨116, by simp [seg, segS, h], by decide⟩)
  · exact .inr (.inr ⟨48, 48, 97, 70, by simp [seg, segS, h], by decide, by decide, by decide, by decide⟩)
  · exact .inr (.inr ⟨66, 69, 69, 70, by simp [seg, segS, h], by decide, by decide, by decide, by decide⟩)
  · exact .inl ⟨57, by simp [seg, segS, h], by decide, by decide, by decide⟩

theorem seg_le (p : Int) : (segS p).size ≤ 6 := by
  rw [← seg_length]
  rcases seg_cases p with ⟨c, h, _⟩ | ⟨c, h, _⟩ | ⟨a, b, c, d, h, _⟩ <;> rw [h] <;> simp

theorem getD_mid (pre suf : List Int) (k : Nat) : (pre ++ suf).getD (pre.length + k) 0 = suf.getD k 0 := by
  simp [List.getD, List.getElem?_append_right]

/-- One piece is passed by one step of the scan. -/
theorem scan_seg (pre suf : List Int) (p : Int) (f : Nat) : scan (pre ++ (seg p ++ suf)) (f + 1) pre.length = scan (pre ++ (seg p ++ suf)) f (pre.length + (seg p).length) := by
  rcases seg_cases p with ⟨c, h, h1, h2, h3⟩ | ⟨c, h, h1⟩ | ⟨a, b, c, d, h, ha, hb, hc, hd⟩
  · rw [h]
    have e0 : (pre ++ ([c] ++ suf)).getD pre.length 0 = c := by simp
    exact scan_plain _ f _ (by simp) (by rw [e0]; exact h1) (by rw [e0]; exact h2) (by rw [e0]; exact h3)
  · rw [h]
    have e0 : (pre ++ ([92, c] ++ suf)).getD pre.length 0 = 92 := by simp
    have e1 : (pre ++ ([92, c] ++ suf)).getD (pre.length + 1) 0 = c := by simp
    have hE : escF (pre ++ ([92, c] ++ suf)) pre.length = (true, pre.length + 2) := by
      rw [escF, if_pos (by simp), if_pos (by rw [e1]; exact h1)]
    rw [scan_esc _ f _ (by simp) e0 (by rw [hE]), hE]
    rfl
  · rw [h]
    generalize hX : pre ++ ([92, 117, a, b, c, d] ++ suf) = X
    have e0 : X.getD pre.length 0 = 92 := by have := getD_mid pre ([92, 117, a, b, c, d] ++ suf) 0; rw [hX] at this; simpa using this
    have e1 : X.getD (pre.length + 1) 0 = 117 := by have := getD_mid pre ([92, 117, a, b, c, d] ++ suf) 1; rw [hX] at this; simpa using this
    have e2 : X.getD (pre.length + 2) 0 = a := by have := getD_mid pre ([92, 117, a, b, c, d] ++ suf) 2; rw [hX] at this; simpa using this
    have e3 : X.getD (pre.length + 2 + 1) 0 = b := by have := getD_mid pre ([92, 117, a, b, c, d] ++ suf) 3; rw [hX] at this; simpa using this
    have e4 : X.getD (pre.length + 2 + 1 + 1) 0 = c := by have := getD_mid pre ([92, 117, a, b, c, d] ++ suf) 4; rw [hX] at this; simpa using this
    have e5 : X.getD (pre.length + 2 + 1 + 1 + 1) 0 = d := by have := getD_mid pre ([92, 117, a, b, c, d] ++ suf) 5; rw [hX] at this; simpa using this
    have hl : pre.length + 6 ≤ X.length := by rw [← hX]; simp
    have hE : escF X pre.length = (true, pre.length + 6) := by
      rw [escF, if_pos (by omega), if_neg (by rw [e1]; decide), if_pos e1]
      rw [hexRun, if_pos ⟨by omega, by rw [e2]; exact ha⟩, hexRun, if_pos ⟨by omega, by rw [e3]; exact hb⟩, hexRun, if_pos ⟨by omega, by rw [e4]; exact hc⟩, hexRun, if_pos ⟨by omega, by rw [e5]; exact hd⟩, hexRun]
    rw [scan_esc _ f _ (by omega) e0 (by rw [hE]), hE]
    rfl

/-- The pieces and the closing quote. -/
theorem scan_pieces (ps : List Int) (pre tail : List Int) (f : Nat) (hf : ps.length < f) :
    scan (pre ++ (ps.flatMap seg ++ 34 :: tail)) f pre.length = (true, pre.length + (ps.flatMap seg).length + 1) := by
  induction ps generalizing pre f with
  | nil =>
    obtain ⟨g, rfl⟩ : ∃ g, f = g + 1 := ⟨f - 1, by simp at hf; omega⟩
    have e0 : (pre ++ ([] ++ 34 :: tail)).getD pre.length 0 = 34 := by simp
    exact scan_quote _ g _ (by simp) e0
  | cons p ps ih =>
    obtain ⟨g, rfl⟩ : ∃ g, f = g + 1 := ⟨f - 1, by omega⟩
    have hs := scan_seg pre (ps.flatMap seg ++ 34 :: tail) p g
    have hi := ih (pre ++ seg p) g (by simp at hf; omega)
    have e : pre ++ ((p :: ps).flatMap seg ++ 34 :: tail) = pre ++ (seg p ++ (ps.flatMap seg ++ 34 :: tail)) := by simp
    rw [e, hs]
    simp only [List.append_assoc, List.length_append] at hi
    rw [hi]
    simp
    omega

/-- The buffer behind k pieces. -/
def bufTo (ps : List Int) (k : Nat) : List Int := 34 :: (ps.take k).flatMap seg

theorem bufTo_succ (ps : List Int) (k : Nat) (h : k < ps.length) : bufTo ps (k + 1) = bufTo ps k ++ seg (ps.getD k 0) := by
  unfold bufTo
  rw [List.take_succ_eq_append_getElem h, List.flatMap_append]
  have : ps.getD k 0 = ps[k] := by simp [List.getD, h]
  rw [this]
  simp [-List.take_append_getElem]

theorem flat_le (ps : List Int) : (ps.flatMap seg).length ≤ 6 * ps.length := by
  induction ps with
  | nil => simp
  | cons p ps ih =>
    have := seg_le p
    have e := seg_length p
    simp only [List.flatMap_cons, List.length_append, List.length_cons]
    omega

theorem flat_ge (ps : List Int) : ps.length ≤ (ps.flatMap seg).length := by
  induction ps with
  | nil => simp
  | cons p ps ih =>
    have : 1 ≤ (seg p).length := by
      rcases seg_cases p with ⟨c, h, _⟩ | ⟨c, h, _⟩ | ⟨a, b, c, d, h, _⟩ <;> rw [h] <;> simp
    simp only [List.flatMap_cons, List.length_append, List.length_cons]
    omega

theorem bufTo_le (ps : List Int) (k : Nat) (h : k ≤ 512) : 1 ≤ (bufTo ps k).length ∧ (bufTo ps k).length ≤ 3073 := by
  have := flat_le (ps.take k)
  have h2 : (ps.take k).length ≤ k := List.length_take_le _ _
  unfold bufTo
  simp only [List.length_cons]
  omega

/-- THE PLAIN LAW. -/
theorem valid (ps tail : List Int) (k : Nat) :
    scan (bufTo ps k ++ [34] ++ tail) ((bufTo ps k ++ [34] ++ tail).length + 1) 1 = (true, (bufTo ps k ++ [34]).length) := by
  have hg := flat_ge (ps.take k)
  have e : bufTo ps k ++ [34] ++ tail = [34] ++ ((ps.take k).flatMap seg ++ 34 :: tail) := by simp [bufTo]
  have h := scan_pieces (ps.take k) [34] tail ((bufTo ps k ++ [34] ++ tail).length + 1) (by rw [e]; simp only [List.length_append, List.length_cons]; omega)
  rw [← e] at h
  simp only [List.length_singleton] at h
  rw [h]
  simp [bufTo]
  omega
end Sc
end Go.Proofs.Ybulkckxo
