/-
  Seat b4343a, LawS4343CCast: the law's walk, the seams.
-/
import Derived.Test.YbulkckxoCastG
import Derived.Laws.Cover3
namespace Go.Proofs.Ybulkckxo
open Go.RowKit
namespace Ca

/-- The law's text from its n-th statement on. -/
def tailS : Nat → Code → Code
  | 0, c => c
  | n + 1, .seq _ b => tailS n b
  | _ + 1, c => c

/-- A seam behind one or two statements: what follows it is hidden, so that the walk stops there. -/
theorem seam1 {P : Program} {x z : Code} {Q : Exit → Act → World → Prop} {a : Act} {w : World} (h : ∀ K : Act → World → Prop, Hid (∀ a w, z.wp P Q a w → K a w) → x.wp P (Exit.then K Q) a w) : (Code.seq x z).wp P Q a w :=
  wp_seq (h _ (hid fun _ _ q => q))
theorem seam2 {P : Program} {x y z : Code} {Q : Exit → Act → World → Prop} {a : Act} {w : World}
    (h : ∀ K : Act → World → Prop, Hid (∀ a w, z.wp P Q a w → K a w) → ∀ K1 : Act → World → Prop, (∀ a w, y.wp P (Exit.then K Q) a w → K1 a w) → x.wp P (Exit.then K1 Q) a w) : (Code.seq x (Code.seq y z)).wp P Q a w :=
  wp_seq (h _ (hid fun _ _ q => q) _ fun _ _ q => wp_seq q)

theorem ownsRow_grow {w w' : World} {B n : Nat} {e : TypeId} {size : Nat} {v : Value} {xs : List Value} (h : w.ownsRow B e size v n xs) (hb : Below w.heap.size w w') : w'.ownsRow B e size v n xs := by
  refine ⟨h.1, ?_⟩
  rcases h.2 with h' | ⟨g, cap, cur, hv, hB, hg, hr⟩
  · exact .inl h'
  · exact .inr ⟨g, cap, cur, hv, hB, (hb.block g (Array.getElem?_eq_some_iff.1 hg).1).trans hg, hr⟩

/-- What is known of the effects behind cast. -/
structure Out (E M : Nat) (L : List ByteArray) (i b : Int) (v : ByteArray) (ca : Option Addr) (cn cc g c : Nat) (w W : World) : Prop where
  e : W.heap[E]? = some (.cells (effC (.slice ca cn cc) (.slice (some ⟨g, 0, none⟩) L.length c)) 59 (0, 0))
  own : W.ownsRow M 69 10 (.slice (some ⟨g, 0, none⟩) L.length c) L.length (sends i b v L)
  below : Below w.heap.size w W
theorem Out.grow {E M : Nat} {L : List ByteArray} {i b : Int} {v : ByteArray} {ca : Option Addr} {cn cc g c : Nat} {w W W' : World} (h : Out E M L i b v ca cn cc g c w W) (hb : Below W.heap.size W W') : Out E M L i b v ca cn cc g c w W' :=
  ⟨(hb.block E (Array.getElem?_eq_some_iff.1 h.e).1).trans h.e, ownsRow_grow h.own hb, h.below.trans (hb.mono h.below.size)⟩

/-- .. and of the acceptor. -/
structure Fnd (N M : Nat) (la : Option Addr) (ln lc : Nat) (b : Int) (v : ByteArray) (mb vb : Int) (sv : ByteArray) (vv : Bool) (i : Int) (q : Bool) (x : Option Value) (oo : Option (Int × ByteArray)) (ca : Option Addr) (cn cc : Nat) (W : World) : Prop where
  acc : Acp W (N + 1 + 1) N (N + 1) la ln lc
  voted : W.heap[N + 1 + 1 + 1]? = some (oS b b v true)
  s : W.heap[N + 1 + 1 + 1 + 1]? = some (oS mb vb sv vv)
  chg : Chg q M i b v W ca cn cc
  st : MSt W N i x
  op : MSt W (N + 1) i (opO oo)
theorem Fnd.grow {N M : Nat} {la : Option Addr} {ln lc : Nat} {b : Int} {v : ByteArray} {mb vb : Int} {sv : ByteArray} {vv : Bool} {i : Int} {q : Bool} {x : Option Value} {oo : Option (Int × ByteArray)} {ca : Option Addr} {cn cc : Nat} {W W' : World}
    (h : Fnd N M la ln lc b v mb vb sv vv i q x oo ca cn cc W) (hb : Below W.heap.size W W') : Fnd N M la ln lc b v mb vb sv vv i q x oo ca cn cc W' :=
  ⟨h.acc.ex (Ex.below hb), (hb.block _ (Array.getElem?_eq_some_iff.1 h.voted).1).trans h.voted, (hb.block _ (Array.getElem?_eq_some_iff.1 h.s).1).trans h.s, h.chg.at fun k _ hk => hb.block k hk, h.st.at (hb.block _ h.st.lt), h.op.at (hb.block _ h.op.lt)⟩
end Ca
end Go.Proofs.Ybulkckxo
