/-
  Seat b4343a, LawS4343CCast: (*Acceptor).cast: what is known at its cuts.
-/
import Derived.Test.YbulkckxoCastE
import Derived.Deep.RegionWith
import Derived.Deep.Cut
import Derived.Deep.CutRange
namespace Go.Proofs.Ybulkckxo
open Go.RowKit
namespace Ca

/-- What is held open, as a value. -/
def opO (oo : Option (Int × ByteArray)) : Option Value := oo.map fun p => opV p.1 p.2
/-- What is still held open once the state's two ballots are mb and vb. -/
def opAfter (mb vb : Int) (oo : Option (Int × ByteArray)) : Option (Int × ByteArray) := oo.bind fun p => if (decide (mb ≤ p.1) && decide (vb < p.1)) = true then some p else none

theorem keep_any (A bS bO : Nat) (la : Option Addr) (ln lc : Nat) (i mb vb : Int) (s : ByteArray) (v : Bool) (oo : Option (Int × ByteArray)) (x : Option Value) (w : World) (hA : Acp w A bS bO la ln lc) (hS : MSt w bS i x) (hO : MSt w bO i (opO oo)) :
    Calls Yba.prog 17 #[.pointer (some ⟨A, 0, none⟩), .int .i64 i, stV mb vb s v] w fun e w' => Kept bS bO i (stV mb vb s v) (opO (opAfter mb vb oo)) w e w' := by
  cases oo with
  | none => exact keep_none A bS bO la ln lc i mb vb s v x w hA hS hO
  | some p =>
    obtain ⟨ob, f⟩ := p
    have h := keep_one A bS bO la ln lc i mb vb ob s f v _ x w rfl hA hS hO
    have e : opO (opAfter mb vb (some (ob, f))) = if (decide (mb ≤ ob) && decide (vb < ob)) = true then some (opV ob f) else none := by
      simp only [opAfter, Option.bind_some]
      split <;> rfl
    rw [e]
    exact h

theorem cells_of {w : World} {p : Nat} {cs : Array Value} {t : TypeId} (h : w.heap[p]? = some (.cells cs t (0, 0))) : (∀ j, w.cell? ⟨p, j, none⟩ = cs[j]?) ∧ ∀ j, w.frozen? ⟨p, j, none⟩ = false := by
  constructor
  · intro j; simp [World.cell?, h]
  · intro j; simp [World.frozen?, h]

/-- The Changed slice: nil where nothing changed; else one StateChange in a block of its own. -/
def Chg (q : Bool) (N : Nat) (i b : Int) (v : ByteArray) (w : World) (ca : Option Addr) (cn cc : Nat) : Prop :=
  if q = true then ca = none ∧ cn = 0 ∧ cc = 0 else ∃ h, ca = some ⟨h, 0, none⟩ ∧ cn = 1 ∧ cc = 1 ∧ N + 4 ≤ h ∧ w.heap[h]? = some (.cells #[.int .i64 i, .int .i64 b, .int .i64 b, .string v, .bool true] 62 (0, 0))

theorem Chg.at {q : Bool} {N : Nat} {i b : Int} {v : ByteArray} {w w' : World} {ca : Option Addr} {cn cc : Nat} (h : Chg q N i b v w ca cn cc) (e : ∀ k, N + 4 ≤ k → k < w.heap.size → w'.heap[k]? = w.heap[k]?) : Chg q N i b v w' ca cn cc := by
  unfold Chg at h ⊢
  split
  · rename_i hq; rw [if_pos hq] at h; exact h
  · rename_i hq
    rw [if_neg hq] at h
    obtain ⟨k, h1, h2, h3, h4, h5⟩ := h
    exact ⟨k, h1, h2, h3, h4, (e k h4 (Array.getElem?_eq_some_iff.1 h5).1).trans h5⟩

abbrev effC (c0 c2 : Value) : Array Value := #[c0, .slice none 0 0, c2, .int .i64 0, .string ⟨#[]⟩, .int .i64 0]

/-- Behind the 'if': N is the heap's size when the call began; N + 1 the result's block, N + 3 e's. -/
def R1 (q : Bool) (bS bO : Nat) (i b : Int) (v : ByteArray) (x : Option Value) (oo : Option (Int × ByteArray)) (w wx : World) : Prop :=
  ∃ ca cn cc, Chg q w.heap.size i b v wx ca cn cc ∧ wx.heap[w.heap.size + 3]? = some (.cells (effC (.slice ca cn cc) (.slice none 0 0)) 59 (0, 0)) ∧
    wx.heap[w.heap.size + 1]? = some (.cells (effC (.slice none 0 0) (.slice none 0 0)) 59 (0, 0)) ∧
    MSt wx bS i (if q = true then x else some (stV b b v true)) ∧ MSt wx bO i (if q = true then opO oo else opO (opAfter b b oo)) ∧ Ex bS bO w wx

theorem heap4 (w : World) (a b c d : Obj) : ((((w.alloc a).alloc b).alloc c).alloc d).heap[w.heap.size + 1]? = some b ∧ ((((w.alloc a).alloc b).alloc c).alloc d).heap[w.heap.size + 3]? = some d := by
  constructor
  · show ((((w.heap.push a).push b).push c).push d)[w.heap.size + 1]? = _
    simp only [Array.getElem?_push, Array.size_push]
    rw [if_neg (by omega), if_neg (by omega), if_pos trivial]
  · show ((((w.heap.push a).push b).push c).push d)[w.heap.size + 3]? = _
    simp only [Array.getElem?_push, Array.size_push]
    rw [if_pos trivial]

theorem ex4 (s o : Nat) (w : World) (a b c d : Obj) : Ex s o w ((((w.alloc a).alloc b).alloc c).alloc d) :=
  (Ex.alloc s o w a).trans ((Ex.alloc s o _ b).trans ((Ex.alloc s o _ c).trans (Ex.alloc s o _ d)))
end Ca
end Go.Proofs.Ybulkckxo
