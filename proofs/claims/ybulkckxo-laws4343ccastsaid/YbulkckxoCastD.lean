/-
  Seat b4343a, LawS4343CCast: (*Acceptor).cast: the walk.
-/
import Derived.Test.YbulkckxoCastC
namespace Go.Proofs.Ybulkckxo
open Go.RowKit
namespace Ca

abbrev oS (mb vb : Int) (s : ByteArray) (vv : Bool) : Obj := .cells #[.int .i64 mb, .int .i64 vb, .string s, .bool vv] 49
abbrev oE : Obj := .cells #[.slice none 0 0, .slice none 0 0, .slice none 0 0, .int .i64 0, .string ⟨#[]⟩, .int .i64 0] 59
abbrev w4 (w : World) (b mb vb : Int) (v s : ByteArray) (vv : Bool) : World := (((w.alloc (oS mb vb s vv)).alloc oE).alloc (oS b b v true)).alloc oE

theorem below4 (w : World) (a b c d : Obj) : Below w.heap.size w ((((w.alloc a).alloc b).alloc c).alloc d) :=
  ((((Below.refl _ _).alloc (Nat.le_refl _) _).alloc (by simp) _).alloc (by simp; omega) _).alloc (by simp; omega) _

theorem heap4c (w : World) (a b c d : Obj) : ((((w.alloc a).alloc b).alloc c).alloc d).heap[w.heap.size + 1 + 1]? = some c := by
  show ((((w.heap.push a).push b).push c).push d)[w.heap.size + 1 + 1]? = _
  simp only [Array.getElem?_push, Array.size_push]
  rw [if_neg (by omega), if_pos trivial]

/-- Where nothing changed. -/
theorem r1_same (bS bO : Nat) (i b mb vb : Int) (v s : ByteArray) (vv : Bool) (x : Option Value) (oo : Option (Int × ByteArray)) (w : World) (hS : MSt w bS i x) (hO : MSt w bO i (opO oo)) :
    R1 true bS bO i b v x oo w (w4 w b mb vb v s vv) := by
  have hb := below4 w (oS mb vb s vv) oE (oS b b v true) oE
  have hh := heap4 w (oS mb vb s vv) oE (oS b b v true) oE
  exact ⟨none, 0, 0, by unfold Chg; rw [if_pos rfl]; exact ⟨rfl, rfl, rfl⟩, hh.2, hh.1, hS.at (hb.block bS hS.lt), hO.at (hb.block bO hO.lt), Ex.below hb⟩

/-- What is known behind keep, inside cast. -/
structure Kp (bS bO : Nat) (i b : Int) (v : ByteArray) (oo : Option (Int × ByteArray)) (w w5 : World) : Prop where
  sz : w.heap.size + 4 ≤ w5.heap.size
  p1 : w5.heap[w.heap.size + 1]? = some oE
  p2 : w5.heap[w.heap.size + 1 + 1]? = some (oS b b v true)
  p3 : w5.heap[w.heap.size + 1 + 1 + 1]? = some oE
  st : MOne w5 bS i (stV b b v true)
  op : MSt w5 bO i (opO (opAfter b b oo))
  ex : Ex bS bO w w5

theorem kp_of {bS bO : Nat} {i b mb vb : Int} {v s : ByteArray} {vv : Bool} {oo : Option (Int × ByteArray)} {w w5 : World} {e : Ending} (lS : bS < w.heap.size) (lO : bO < w.heap.size)
    (h : Kept bS bO i (stV b b v true) (opO (opAfter b b oo)) (w4 w b mb vb v s vv) e w5) : Kp bS bO i b v oo w w5 := by
  obtain ⟨_, h1, h2, h3⟩ := h
  have hh := heap4 w (oS mb vb s vv) oE (oS b b v true) oE
  have hs : (w4 w b mb vb v s vv).heap.size = w.heap.size + 4 := by simp
  refine ⟨by have := h3.size; omega, ?_, ?_, ?_, h1, h2, (Ex.below (below4 w _ _ _ _)).trans h3⟩
  · rw [h3.block _ (by omega) (by omega) (by omega)]; exact hh.1
  · rw [h3.block _ (by omega) (by omega) (by omega)]; exact heap4c w _ _ _ _
  · rw [h3.block _ (by omega) (by omega) (by omega)]; exact hh.2

theorem r1_changed {bS bO : Nat} {i b : Int} {v : ByteArray} {x : Option Value} {oo : Option (Int × ByteArray)} {w w5 : World} (lS : bS < w.heap.size) (lO : bO < w.heap.size) (K : Kp bS bO i b v oo w w5) :
    R1 false bS bO i b v x oo w ((w5.setCell ⟨w.heap.size + 1 + 1 + 1, 0, none⟩ (.slice (some ⟨w5.heap.size, 0, none⟩) 1 1)).alloc (.cells #[.int .i64 i, .int .i64 b, .int .i64 b, .string v, .bool true] 62)) := by
  obtain ⟨sz, p1, p2, p3, st, op, ex⟩ := K
  have hsz : (w5.setCell ⟨w.heap.size + 1 + 1 + 1, 0, none⟩ (.slice (some ⟨w5.heap.size, 0, none⟩) 1 1)).heap.size = w5.heap.size := by simp
  have old : ∀ k, k < w5.heap.size → k ≠ w.heap.size + 1 + 1 + 1 → ((w5.setCell ⟨w.heap.size + 1 + 1 + 1, 0, none⟩ (.slice (some ⟨w5.heap.size, 0, none⟩) 1 1)).alloc (.cells #[.int .i64 i, .int .i64 b, .int .i64 b, .string v, .bool true] 62)).heap[k]? = w5.heap[k]? := by
    intro k hk hne
    rw [Below.heap_alloc _ _ _ (by omega), Below.heap_setCell _ _ _ _ hne]
  refine ⟨some ⟨w5.heap.size, 0, none⟩, 1, 1, ?_, ?_, ?_, ?_, ?_, ?_⟩
  · unfold Chg
    rw [if_neg (by decide)]
    refine ⟨w5.heap.size, rfl, rfl, rfl, sz, ?_⟩
    have := heap_alloc_new (w5.setCell ⟨w.heap.size + 1 + 1 + 1, 0, none⟩ (.slice (some ⟨w5.heap.size, 0, none⟩) 1 1)) (.cells #[.int .i64 i, .int .i64 b, .int .i64 b, .string v, .bool true] 62)
    rw [hsz] at this
    exact this
  · rw [Below.heap_alloc _ _ _ (by omega)]
    exact heap_setCell_same w5 (w.heap.size + 1 + 1 + 1) 0 _ 59 _ p3
  · rw [old _ (by omega) (by omega)]; exact p1
  · rw [if_neg (by decide)]
    exact MOne.at st (old bS (by omega) (by omega))
  · rw [if_neg (by decide)]
    exact MSt.at op (old bO (by omega) (by omega))
  · refine ⟨ex.os, ex.tape, ex.output, by simp; omega, fun k hk h1 h2 => ?_⟩
    rw [old k (by omega) (by omega)]
    exact ex.block k hk h1 h2

theorem MSt.ne {w : World} {b : Nat} {i : Int} {x : Option Value} (h : MSt w b i x) {p : Addr} {u : Value} (hc : w.cell? p = some u) : p.block ≠ b := by
  intro e
  have hm : ∃ es c, w.heap[b]? = some (.map es c) := by
    cases x with
    | none => obtain ⟨c, h⟩ := h; exact ⟨_, _, h⟩
    | some x => obtain ⟨c, n, h⟩ := h; exact ⟨_, _, h⟩
  obtain ⟨es, c, hm⟩ := hm
  simp [World.cell?, e, hm] at hc

theorem Strs.ex {w w' : World} {a : Option Addr} {ss : List ByteArray} {bS bO : Nat} {i : Int} {x y : Option Value} (h : Strs w a ss) (hS : MSt w bS i x) (hO : MSt w bO i y) (he : Ex bS bO w w') : Strs w' a ss := by
  intro hp
  obtain ⟨b, off, rfl, hc⟩ := h hp
  exact ⟨b, off, rfl, fun j hj => (he.cell (p := ⟨b, off + j, none⟩) (World.block_lt_of_cell? _ _ (hc j hj)) (hS.ne (hc j hj)) (hO.ne (hc j hj))).trans (hc j hj)⟩

/-- The sends so far: the learners, then those of also that are no learners. -/
def outL (ls ts : List ByteArray) : List ByteArray := ls ++ ts.filter fun t => !hasB ls t

/-- Behind sendAll: e's Sends hold one for each learner. W: the world ahead of it. -/
def R2 (p3 B : Nat) (i b : Int) (v : ByteArray) (ca : Option Addr) (cn cc : Nat) (L : List ByteArray) (W wc : World) : Prop :=
  ∃ g c, wc.heap[p3]? = some (.cells (effC (.slice ca cn cc) (.slice (some ⟨g, 0, none⟩) L.length c)) 59 (0, 0)) ∧ wc.ownsRow B 69 10 (.slice (some ⟨g, 0, none⟩) L.length c) L.length (sends i b v L) ∧ Ex p3 p3 W wc

theorem r2_of {p3 B : Nat} {i b : Int} {v : ByteArray} {ca : Option Addr} {cn cc : Nat} {ls : List ByteArray} {W w7 : World} {g c : Nat} (hB : W.heap.size = B) (lp : p3 < W.heap.size)
    (h3 : W.heap[p3]? = some (.cells (effC (.slice ca cn cc) (.slice none 0 0)) 59 (0, 0))) (hown : w7.ownsRow W.heap.size 69 10 (.slice (some ⟨g, 0, none⟩) ls.length c) ls.length (sends i b v ls)) (hbel : Below W.heap.size W w7) :
    R2 p3 B i b v ca cn cc ls W (w7.setCell ⟨p3, 2, none⟩ (.slice (some ⟨g, 0, none⟩) ls.length c)) := by
  subst hB
  refine ⟨g, c, ?_, ownsRow_setCell_below hown lp _, hbel.os, hbel.tape, hbel.output, by simpa using hbel.size, fun k hk h1 _ => ?_⟩
  · exact heap_setCell_same w7 p3 2 _ 59 _ ((hbel.block p3 lp).trans h3)
  · rw [Below.heap_setCell _ _ _ _ h1]
    exact hbel.block k hk

theorem below_undrew {B : Nat} {W w7 : World} (h : Below B W.drew w7) : Below B W w7 := ⟨h.os, h.tape, h.output, h.size, h.block⟩

theorem outL_no (ls ts : List ByteArray) (k : Nat) (hk : k < ts.length) (h : hasB ls (ts.getD k ByteArray.empty) = true) : outL ls (ts.take (k + 1)) = outL ls (ts.take k) := by
  have e : ts.getD k ByteArray.empty = ts[k] := by simp [List.getD, hk]
  rw [e] at h
  unfold outL
  rw [List.take_succ_eq_append_getElem hk, List.filter_append]
  simp [h]
theorem outL_yes (ls ts : List ByteArray) (k : Nat) (hk : k < ts.length) (h : hasB ls (ts.getD k ByteArray.empty) = false) : outL ls (ts.take (k + 1)) = outL ls (ts.take k) ++ [ts.getD k ByteArray.empty] := by
  have e : ts.getD k ByteArray.empty = ts[k] := by simp [List.getD, hk]
  rw [e] at h ⊢
  unfold outL
  rw [List.take_succ_eq_append_getElem hk, List.filter_append, List.append_assoc]
  simp [h]
theorem outL_le (ls ts : List ByteArray) : (outL ls ts).length ≤ ls.length + ts.length := by
  unfold outL
  have := List.length_filter_le (fun t => !hasB ls t) ts
  rw [List.length_append]
  omega
theorem outL_nil (ls ts : List ByteArray) : outL ls (ts.take 0) = ls := by simp [outL]

/-- What cast leaves. -/
def Casted (q : Bool) (bS bO : Nat) (i b : Int) (v : ByteArray) (x : Option Value) (oo : Option (Int × ByteArray)) (ls ts : List ByteArray) (w : World) (e : Ending) (w' : World) : Prop :=
  ∃ ca cn cc g c, e = .returned (.agg (effC (.slice ca cn cc) (.slice (some ⟨g, 0, none⟩) (outL ls ts).length c))) ∧ Chg q w.heap.size i b v w' ca cn cc ∧
    w'.ownsRow w.heap.size 69 10 (.slice (some ⟨g, 0, none⟩) (outL ls ts).length c) (outL ls ts).length (sends i b v (outL ls ts)) ∧
    MSt w' bS i (if q = true then x else some (stV b b v true)) ∧ MSt w' bO i (if q = true then opO oo else opO (opAfter b b oo)) ∧ Ex bS bO w w'

theorem ownsRow_mono {w : World} {B B' : Nat} {e : TypeId} {size n : Nat} {v : Value} {xs : List Value} (h : w.ownsRow B e size v n xs) (hB : B' ≤ B) : w.ownsRow B' e size v n xs := by
  refine ⟨h.1, ?_⟩
  rcases h.2 with h' | ⟨g, cap, cur, hv, hb, hr⟩
  · exact .inl h'
  · exact .inr ⟨g, cap, cur, hv, Nat.le_trans hB hb, hr⟩

theorem ownsRow_setRow_below {w : World} {B p : Nat} {e : TypeId} {size n : Nat} {v : Value} {xs : List Value} (h : w.ownsRow B e size v n xs) (hp : p < B) (cs : Array Value) : (w.setRow p cs).ownsRow B e size v n xs := by
  refine ⟨h.1, ?_⟩
  rcases h.2 with h' | ⟨g, cap, cur, hv, hb, hg, hr⟩
  · exact .inl h'
  · exact .inr ⟨g, cap, cur, hv, hb, by rw [setRow_other w p g cs (by omega)]; exact hg, hr⟩

/-- The end: from the two cuts to what cast leaves. -/
theorem casted_of {q : Bool} {bS bO : Nat} {i b : Int} {v : ByteArray} {x : Option Value} {oo : Option (Int × ByteArray)} {ls ts : List ByteArray} {w wx wr : World} {o : Obj} {ca : Option Addr} {cn cc g c : Nat}
    (lS : bS < w.heap.size) (lO : bO < w.heap.size) (hC : Chg q w.heap.size i b v wx ca cn cc) (s3 : w.heap.size + 3 < wx.heap.size) (hS : MSt wx bS i (if q = true then x else some (stV b b v true))) (hO : MSt wx bO i (if q = true then opO oo else opO (opAfter b b oo))) (hE : Ex bS bO w wx)
    (own : wr.ownsRow (wx.heap.size + 1) 69 10 (.slice (some ⟨g, 0, none⟩) (outL ls ts).length c) (outL ls ts).length (sends i b v (outL ls ts))) (ex : Ex (w.heap.size + 3) (w.heap.size + 3) (wx.alloc o) wr) :
    Casted q bS bO i b v x oo ls ts w (.returned (.agg (effC (.slice ca cn cc) (.slice (some ⟨g, 0, none⟩) (outL ls ts).length c)))) (wr.setRow (w.heap.size + 1) (effC (.slice ca cn cc) (.slice (some ⟨g, 0, none⟩) (outL ls ts).length c))) := by
  have hsz : (wx.alloc o).heap.size = wx.heap.size + 1 := by simp
  have old : ∀ k, k < wx.heap.size → k ≠ w.heap.size + 3 → k ≠ w.heap.size + 1 → (wr.setRow (w.heap.size + 1) (effC (.slice ca cn cc) (.slice (some ⟨g, 0, none⟩) (outL ls ts).length c))).heap[k]? = wx.heap[k]? := by
    intro k hk h1 h2
    rw [setRow_other _ _ _ _ h2, ex.block k (by omega) h1 h1, Below.heap_alloc wx o k hk]
  refine ⟨ca, cn, cc, g, c, rfl, hC.at fun k h1 h2 => old k h2 (by omega) (by omega), ownsRow_mono (ownsRow_setRow_below own (by omega) _) (by omega), hS.at (old bS (by omega) (by omega) (by omega)), hO.at (old bO (by omega) (by omega) (by omega)), ?_⟩
  have hz := ex.size
  refine ⟨ex.os.trans hE.os, ex.tape.trans hE.tape, ex.output.trans hE.output, by simp; omega, fun k hk h1 h2 => ?_⟩
  rw [old k (by omega) (by omega) (by omega)]
  exact hE.block k hk h1 h2

theorem cell_new {w : World} (cs : List Value) (t : TypeId) (j : Nat) (u : Value) (h : cs[j]? = some u) : (w.alloc (.cells cs.toArray t)).cell? ((⟨w.heap.size, 0, none⟩ : Addr).add j) = some u := by
  have e : (⟨w.heap.size, 0, none⟩ : Addr).add j = ⟨w.heap.size, j, none⟩ := by unfold Addr.add; split <;> simp_all
  rw [e, World.cell?_alloc_new]
  simpa using h

/-- A row of the call's own, of n elements with one at the least, is a slice at a block's head. -/
theorem own_form69 {w : World} {B n : Nat} {v : Value} {xs : List Value} (h : w.ownsRow B 69 10 v n xs) (hn : 1 ≤ n) : ∃ g cap, v = .slice (some ⟨g, 0, none⟩) n cap := by
  rcases h.2 with ⟨_, h0⟩ | ⟨g, cap, cur, hv, _⟩
  · omega
  · exact ⟨g, cap, hv⟩

/-- One more Send. -/
theorem r2_step {p3 B : Nat} {i b : Int} {v t : ByteArray} {ca : Option Addr} {cn cc g c g' c' : Nat} {L : List ByteArray} {W wr w8 : World} {o : Obj} (lp : p3 < B) (hB : B ≤ wr.heap.size) (hW : B = W.heap.size)
    (h3 : wr.heap[p3]? = some (.cells (effC (.slice ca cn cc) (.slice (some ⟨g, 0, none⟩) L.length c)) 59 (0, 0))) (own : wr.ownsRow B 69 10 (.slice (some ⟨g, 0, none⟩) L.length c) L.length (sends i b v L)) (ex : Ex p3 p3 W wr)
    (own8 : w8.ownsRow B 69 10 (.slice (some ⟨g', 0, none⟩) (L.length + 1) c') (L.length + 1) (sends i b v L ++ sendL i b v t)) (hg : (wr.alloc o).grownBy w8 (some g)) :
    w8.heap[p3]? = wr.heap[p3]? ∧ R2 p3 B i b v ca cn cc (L ++ [t]) W (w8.setCell ⟨p3, 2, none⟩ (.slice (some ⟨g', 0, none⟩) (L.length + 1) c')) := by
  have hgB : B ≤ g := by
    rcases own.2 with ⟨h, _⟩ | ⟨g1, cap, cur, hv, hb, _⟩
    · cases h
    · cases hv; exact hb
  have old : ∀ k, k < B → w8.heap[k]? = wr.heap[k]? := by
    intro k hk
    rw [hg.block k (by simp; omega) (fun e => by have := Option.some.inj e; omega), Below.heap_alloc wr o k (by omega)]
  refine ⟨old p3 lp, g', c', ?_, ?_, hg.os.trans ex.os, hg.tape.trans ex.tape, hg.output.trans ex.output, ?_, fun k hk h1 h2 => ?_⟩
  · have := heap_setCell_same w8 p3 2 _ 59 (.slice (some ⟨g', 0, none⟩) (L.length + 1) c') ((old p3 lp).trans h3)
    rw [this]
    simp
  · have e : (L ++ [t]).length = L.length + 1 := by simp
    rw [e, sends_snoc]
    exact ownsRow_setCell_below own8 lp _
  · have h1 := hg.size
    have h2 := ex.size
    simp at h1 ⊢
    omega
  · rw [Below.heap_setCell _ _ _ _ h1, old k (by omega)]
    exact ex.block k hk h1 h2

end Ca
end Go.Proofs.Ybulkckxo
