/-
  Seat b4343a, LawS4343AModel: the model's own helpers (zzs4343asimple, zzs4343ahex) and bytes.Equal, walked.
-/
import Derived.Test.YbulkckxoScan3
import Derived.Laws.BytesArg
namespace Go.Proofs.Ybulkckxo
open Go.RowKit
namespace Sc

def simpleT : List Int := [34, 92, 47, 98, 102, 110, 114, 116]
def hexT : List Int := [48, 49, 50, 51, 52, 53, 54, 55, 56, 57, 97, 98, 99, 100, 101, 102, 65, 66, 67, 68, 69, 70]

theorem simple_out (c : Int) (h : ∀ j, j < 8 → simpleT.getD j 0 ≠ c) : simpleB c = false := by
  have h0 := h 0 (by omega); have h1 := h 1 (by omega); have h2 := h 2 (by omega); have h3 := h 3 (by omega)
  have h4 := h 4 (by omega); have h5 := h 5 (by omega); have h6 := h 6 (by omega); have h7 := h 7 (by omega)
  simp only [simpleT, List.getD_cons_zero, List.getD_cons_succ] at h0 h1 h2 h3 h4 h5 h6 h7
  simp only [simpleB, Bool.or_eq_false_iff, beq_eq_false_iff_ne]
  omega

theorem simple_in : ∀ k, k < 8 → simpleB (simpleT.getD k 0) = true := by decide
theorem hex_in : ∀ k, k < 22 → hexB (hexT.getD k 0) = true := by decide
theorem hex_out (c : Int) (h : ∀ j, j < 22 → hexT.getD j 0 ≠ c) : hexB c = false := by
  have a : ∀ x, x ∈ hexT → x ≠ c := by
    intro x hx
    obtain ⟨j, hj, rfl⟩ := List.mem_iff_getElem.1 hx
    have := h j (by simpa [hexT] using hj)
    simpa [List.getD, hj] using this
  cases hh : hexB c with
  | false => rfl
  | true =>
    exfalso
    refine a c ?_ rfl
    have hc : c = 48 ∨ c = 49 ∨ c = 50 ∨ c = 51 ∨ c = 52 ∨ c = 53 ∨ c = 54 ∨ c = 55 ∨ c = 56 ∨ c = 57 ∨ c = 97 ∨ c = 98 ∨ c = 99 ∨ c = 100 ∨ c = 101 ∨ c = 102 ∨ c = 65 ∨ c = 66 ∨ c = 67 ∨ c = 68 ∨ c = 69 ∨ c = 70 := by
      simp only [hexB, digB, Bool.or_eq_true, Bool.and_eq_true, decide_eq_true_eq] at hh
      omega
    simpa [hexT] using hc

theorem byte_at (s : ByteArray) (k : Nat) (h : k < s.size) : ((s[k]'h).toNat : Int) = (s.data.toList.map fun b => (b.toNat : Int)).getD k 0 := by
  have h' : k < s.data.toList.length := by simpa using h
  simp only [List.getD, List.getElem?_map, List.getElem?_eq_getElem h', Option.map_some, Option.getD_some]
  rfl

def simpleS : ByteArray := ⟨#[34, 92, 47, 98, 102, 110, 114, 116]⟩
theorem simpleS_list : (simpleS.data.toList.map fun b => (b.toNat : Int)) = simpleT := by decide
theorem simple_hit {c : Int} {k : Nat} {h : k < (⟨#[34, 92, 47, 98, 102, 110, 114, 116]⟩ : ByteArray).size} (hk : k < 8) (hc : ((((⟨#[34, 92, 47, 98, 102, 110, 114, 116]⟩ : ByteArray)[k]'h).toNat : Int) == c) = true) : simpleB c = true := by
  have e := byte_at simpleS k h
  rw [simpleS_list] at e
  have hc' := beq_iff_eq.1 hc
  rw [← hc']
  show simpleB (((simpleS[k]'h).toNat : Int)) = true
  rw [e]
  exact simple_in k hk
theorem simple_miss {c : Int} {k : Nat} {h : k < (⟨#[34, 92, 47, 98, 102, 110, 114, 116]⟩ : ByteArray).size} (hc : ((((⟨#[34, 92, 47, 98, 102, 110, 114, 116]⟩ : ByteArray)[k]'h).toNat : Int) == c) = false) : simpleT.getD k 0 ≠ c := by
  have e := byte_at simpleS k h
  rw [simpleS_list] at e
  have hc' := beq_eq_false_iff_ne.1 hc
  rw [← e]
  exact hc'
theorem simple_step {c : Int} {k : Nat} (h1 : ∀ j, j < k → simpleT.getD j 0 ≠ c) (h2 : simpleT.getD k 0 ≠ c) : Hid (∀ j, j < k + 1 → simpleT.getD j 0 ≠ c) := by
  intro j hj
  by_cases e : j = k
  · subst e; exact h2
  · exact h1 j (by omega)

def hexS : ByteArray := ⟨#[48, 49, 50, 51, 52, 53, 54, 55, 56, 57, 97, 98, 99, 100, 101, 102, 65, 66, 67, 68, 69, 70]⟩
theorem hexS_list : (hexS.data.toList.map fun b => (b.toNat : Int)) = hexT := by decide
theorem hex_hit {c : Int} {k : Nat} {h : k < (⟨#[48, 49, 50, 51, 52, 53, 54, 55, 56, 57, 97, 98, 99, 100, 101, 102, 65, 66, 67, 68, 69, 70]⟩ : ByteArray).size} (hk : k < 22) (hc : ((((⟨#[48, 49, 50, 51, 52, 53, 54, 55, 56, 57, 97, 98, 99, 100, 101, 102, 65, 66, 67, 68, 69, 70]⟩ : ByteArray)[k]'h).toNat : Int) == c) = true) : hexB c = true := by
  have e := byte_at hexS k h
  rw [hexS_list] at e
  have hc' := beq_iff_eq.1 hc
  rw [← hc']
  show hexB (((hexS[k]'h).toNat : Int)) = true
  rw [e]
  exact hex_in k hk
theorem hex_miss {c : Int} {k : Nat} {h : k < (⟨#[48, 49, 50, 51, 52, 53, 54, 55, 56, 57, 97, 98, 99, 100, 101, 102, 65, 66, 67, 68, 69, 70]⟩ : ByteArray).size} (hc : ((((⟨#[48, 49, 50, 51, 52, 53, 54, 55, 56, 57, 97, 98, 99, 100, 101, 102, 65, 66, 67, 68, 69, 70]⟩ : ByteArray)[k]'h).toNat : Int) == c) = false) : hexT.getD k 0 ≠ c := by
  have e := byte_at hexS k h
  rw [hexS_list] at e
  have hc' := beq_eq_false_iff_ne.1 hc
  rw [← e]
  exact hc'
theorem hex_step {c : Int} {k : Nat} (h1 : ∀ j, j < k → hexT.getD j 0 ≠ c) (h2 : hexT.getD k 0 ≠ c) : Hid (∀ j, j < k + 1 → hexT.getD j 0 ≠ c) := by
  intro j hj
  by_cases e : j = k
  · subst e; exact h2
  · exact h1 j (by omega)

theorem simple_any (c : Int) (w : World) : Calls Yba.prog 15 #[.int .u8 c] w fun e w' => e = .returned (.bool (simpleB c)) ∧ w' = w := by
  go_enter Yba.func15, Yba.ntmps15
  go_wp2
  go_loop [3] (fun i => ∃ k : Nat, k ≤ 8 ∧ i = .int .i64 k ∧ Hid (∀ j, j < k → simpleT.getD j 0 ≠ c)) (fun i => 8 - (intOf i).toNat)
  case atStart => exact ⟨0, by omega, rfl, fun j hj => absurd hj (Nat.not_lt_zero _)⟩
  case round =>
    obtain ⟨k, hk, rfl, hno⟩ := hrel
    by_cases hlt : k < 8
    · go_wp2
      · go_ret
        exact ⟨ret_bool (by rw [simple_hit hlt (by assumption)]), rfl⟩
      · go_round
        case rel => exact ⟨k + 1, by omega, by go_num, simple_step hno.out (simple_miss (by assumption))⟩
        case measure => simp [intOf]; omega
    · go_wp2
      go_ret
      exact ⟨ret_bool (by rw [simple_out c (fun j hj => hno.out j (by omega))]), rfl⟩

theorem hex_any (c : Int) (w : World) : Calls Yba.prog 16 #[.int .u8 c] w fun e w' => e = .returned (.bool (hexB c)) ∧ w' = w := by
  go_enter Yba.func16, Yba.ntmps16
  go_wp2
  go_loop [3] (fun i => ∃ k : Nat, k ≤ 22 ∧ i = .int .i64 k ∧ Hid (∀ j, j < k → hexT.getD j 0 ≠ c)) (fun i => 22 - (intOf i).toNat)
  case atStart => exact ⟨0, by omega, rfl, fun j hj => absurd hj (Nat.not_lt_zero _)⟩
  case round =>
    obtain ⟨k, hk, rfl, hno⟩ := hrel
    by_cases hlt : k < 22
    · go_wp2
      · go_ret
        exact ⟨ret_bool (by rw [hex_hit hlt (by assumption)]), rfl⟩
      · go_round
        case rel => exact ⟨k + 1, by omega, by go_num, hex_step hno.out (hex_miss (by assumption))⟩
        case measure => simp [intOf]; omega
    · go_wp2
      go_ret
      exact ⟨ret_bool (by rw [hex_out c (fun j hj => hno.out j (by omega))]), rfl⟩
end Sc
end Go.Proofs.Ybulkckxo
