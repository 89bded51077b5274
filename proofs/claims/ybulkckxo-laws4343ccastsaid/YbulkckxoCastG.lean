/-
  Seat b4343a, LawS4343CCast: what is known at the law's cuts.
-/
import Derived.Test.YbulkckxoCastF
namespace Go.Proofs.Ybulkckxo
open Go.RowKit
namespace Ca

abbrev oA (la : Option Addr) (ln lc bS bO : Nat) : Obj := .cells #[.slice none 0 0, .slice la ln lc, .slice none 0 0, .bool false, .map (some bS), .map (some bO)] 42

/-- Ahead of the call of cast: N: the state map's block; then the open map's, the acceptor's, voted's, s's. -/
structure Pre (N : Nat) (la : Option Addr) (lc : Nat) (ls : List ByteArray) (b : Int) (v : ByteArray) (mb vb : Int) (sv : ByteArray) (vv : Bool) (i : Int) (x : Option Value) (oo : Option (Int × ByteArray)) (w wx : World) : Prop where
  acc : Acp wx (N + 1 + 1) N (N + 1) la ls.length lc
  voted : wx.heap[N + 1 + 1 + 1]? = some (oS b b v true)
  s : wx.heap[N + 1 + 1 + 1 + 1]? = some (oS mb vb sv vv)
  st : MSt wx N i x
  op : MSt wx (N + 1) i (opO oo)
  strs : Strs wx la ls
  below : Below w.heap.size w wx
  le : w.heap.size ≤ N

abbrev w5 (w1 : World) (la : Option Addr) (ln lc : Nat) (b : Int) (v : ByteArray) (o : Obj) : World :=
  ((((w1.alloc (.map #[] 0)).alloc (.map #[] 0)).alloc (oA la ln lc w1.heap.size (w1.heap.size + 1))).alloc (oS b b v true)).alloc o

theorem heap5 (w : World) (a b c d e : Obj) (k : Nat) (o : Obj) (h : k = 0 ∧ o = a ∨ k = 1 ∧ o = b ∨ k = 2 ∧ o = c ∨ k = 3 ∧ o = d ∨ k = 4 ∧ o = e) : (((((w.alloc a).alloc b).alloc c).alloc d).alloc e).heap[w.heap.size + k]? = some o := by
  show (((((w.heap.push a).push b).push c).push d).push e)[w.heap.size + k]? = _
  simp only [Array.getElem?_push, Array.size_push]
  rcases h with ⟨rfl, rfl⟩ | ⟨rfl, rfl⟩ | ⟨rfl, rfl⟩ | ⟨rfl, rfl⟩ | ⟨rfl, rfl⟩
  · rw [if_neg (by omega), if_neg (by omega), if_neg (by omega), if_neg (by omega), if_pos (by omega)]
  · rw [if_neg (by omega), if_neg (by omega), if_neg (by omega), if_pos (by omega)]
  · rw [if_neg (by omega), if_neg (by omega), if_pos (by omega)]
  · rw [if_neg (by omega), if_pos (by omega)]
  · rw [if_pos (by omega)]

theorem below5 (w : World) (a b c d e : Obj) : Below w.heap.size w (((((w.alloc a).alloc b).alloc c).alloc d).alloc e) := (below4 w a b c d).alloc (by simp; omega) _

theorem pre_start {w w1 : World} {la : Option Addr} {lc : Nat} {ls : List ByteArray} {b : Int} {v : ByteArray} {mb vb : Int} {sv : ByteArray} {vv : Bool} {i : Int} (hS : Strs w1 la ls) (hB : Below w.heap.size w w1) :
    Pre w1.heap.size la lc ls b v mb vb sv vv i none none w (w5 w1 la ls.length lc b v (oS mb vb sv vv)) := by
  have hh := heap5 w1 (.map #[] 0) (.map #[] 0) (oA la ls.length lc w1.heap.size (w1.heap.size + 1)) (oS b b v true) (oS mb vb sv vv)
  have hA := hh 2 _ (.inr (.inr (.inl ⟨rfl, rfl⟩)))
  have hb := below5 w1 (.map #[] 0) (.map #[] 0) (oA la ls.length lc w1.heap.size (w1.heap.size + 1)) (oS b b v true) (oS mb vb sv vv)
  refine ⟨⟨(cells_of hA).1 1, (cells_of hA).1 4, (cells_of hA).1 5, by simp, by simp; omega, by simp, by omega, by omega, by omega⟩, hh 3 _ (.inr (.inr (.inr (.inl ⟨rfl, rfl⟩)))), hh 4 _ (.inr (.inr (.inr (.inr ⟨rfl, rfl⟩)))), ⟨0, hh 0 _ (.inl ⟨rfl, rfl⟩)⟩, ⟨0, hh 1 _ (.inr (.inl ⟨rfl, rfl⟩))⟩, hS.below hb, hB.trans (hb.mono hB.size), hB.size⟩
end Ca
end Go.Proofs.Ybulkckxo
