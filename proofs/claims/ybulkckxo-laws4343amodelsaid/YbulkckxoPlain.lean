/-
  Plain functions for seat b4343a's scanner: no Go in sight.
-/
import Derived.Test.YbulkckxoRows
namespace Go.Proofs.Ybulkckxo
namespace Sc

def digB (c : Int) : Bool := decide (48 ≤ c) && decide (c ≤ 57)
def hexB (c : Int) : Bool := digB c || (decide (97 ≤ c) && decide (c ≤ 102)) || (decide (65 ≤ c) && decide (c ≤ 70))
def plainB (c : Int) : Bool := decide (32 ≤ c) && decide (c < 128) && (c != 34) && (c != 92)
def simpleB (c : Int) : Bool := c == 34 || c == 92 || c == 47 || c == 98 || c == 102 || c == 110 || c == 114 || c == 116

/-- k hex digits from position j on. -/
def hexRun (xs : List Int) : Nat → Nat → Bool × Nat
  | 0, j => (true, j)
  | k + 1, j => if j < xs.length ∧ hexB (xs.getD j 0) = true then hexRun xs k (j + 1) else (false, j)

/-- One escape whose backslash stands at p. -/
def escF (xs : List Int) (p : Nat) : Bool × Nat :=
  if p + 1 < xs.length then
    if simpleB (xs.getD (p + 1) 0) = true then (true, p + 2)
    else if xs.getD (p + 1) 0 = 117 then hexRun xs 4 (p + 2)
    else (false, p + 1)
  else (false, p + 1)

/-- The scan from position i on, with fuel. -/
def scan (xs : List Int) : Nat → Nat → Bool × Nat
  | 0, i => (false, i)
  | f + 1, i =>
    if i < xs.length then
      if xs.getD i 0 = 34 then (true, i + 1)
      else if xs.getD i 0 = 92 then
        if (escF xs i).1 = true then scan xs f (escF xs i).2 else (false, (escF xs i).2)
      else if plainB (xs.getD i 0) = true then scan xs f (i + 1)
      else (false, i)
    else (false, i)

theorem hexRun_le (xs : List Int) (k j : Nat) (h : j ≤ xs.length) : j ≤ (hexRun xs k j).2 ∧ (hexRun xs k j).2 ≤ xs.length := by
  induction k generalizing j with
  | zero => exact ⟨Nat.le_refl _, h⟩
  | succ k ih =>
    unfold hexRun
    split
    · rename_i hc
      have := ih (j + 1) (by omega)
      omega
    · exact ⟨Nat.le_refl _, h⟩

theorem escF_le (xs : List Int) (p : Nat) (h : p < xs.length) : p < (escF xs p).2 ∧ (escF xs p).2 ≤ xs.length := by
  unfold escF
  split
  · split
    · constructor <;> simp <;> omega
    · split
      · have := hexRun_le xs 4 (p + 2) (by omega)
        omega
      · constructor <;> simp <;> omega
  · constructor <;> simp <;> omega

theorem scan_out (xs : List Int) (f i : Nat) (h : ¬ i < xs.length) : scan xs f i = (false, i) := by
  cases f with
  | zero => rfl
  | succ f => rw [scan, if_neg h]

theorem scan_quote (xs : List Int) (f i : Nat) (h : i < xs.length) (hc : xs.getD i 0 = 34) : scan xs (f + 1) i = (true, i + 1) := by
  rw [scan, if_pos h, if_pos hc]

theorem scan_esc (xs : List Int) (f i : Nat) (h : i < xs.length) (hc : xs.getD i 0 = 92) (he : (escF xs i).1 = true) : scan xs (f + 1) i = scan xs f (escF xs i).2 := by
  rw [scan, if_pos h, if_neg (by omega), if_pos hc, if_pos he]

theorem scan_esc_no (xs : List Int) (f i : Nat) (h : i < xs.length) (hc : xs.getD i 0 = 92) (he : (escF xs i).1 = false) : scan xs (f + 1) i = (false, (escF xs i).2) := by
  rw [scan, if_pos h, if_neg (by omega), if_pos hc, if_neg (by simp [he])]

theorem scan_plain (xs : List Int) (f i : Nat) (h : i < xs.length) (h1 : xs.getD i 0 ≠ 34) (h2 : xs.getD i 0 ≠ 92) (hp : plainB (xs.getD i 0) = true) : scan xs (f + 1) i = scan xs f (i + 1) := by
  rw [scan, if_pos h, if_neg h1, if_neg h2, if_pos hp]

theorem scan_bad (xs : List Int) (f i : Nat) (h : i < xs.length) (h1 : xs.getD i 0 ≠ 34) (h2 : xs.getD i 0 ≠ 92) (hp : plainB (xs.getD i 0) = false) : scan xs (f + 1) i = (false, i) := by
  rw [scan, if_pos h, if_neg h1, if_neg h2, if_neg (by rw [hp]; decide)]

end Sc
end Go.Proofs.Ybulkckxo
