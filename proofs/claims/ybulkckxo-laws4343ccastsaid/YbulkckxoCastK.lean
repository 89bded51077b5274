/-
  Seat b4343a, LawS4343CCast: (*Acceptor).keep.
-/
import Derived.Test.YbulkckxoCastM
namespace Go.Proofs.Ybulkckxo
open Go.RowKit
namespace Ca

/-- The acceptor at block A: its learners, its two maps. -/
structure Acp (w : World) (A bS bO : Nat) (la : Option Addr) (ln lc : Nat) : Prop where
  learners : w.cell? ⟨A, 1, none⟩ = some (.slice la ln lc)
  state : w.cell? ⟨A, 4, none⟩ = some (.map (some bS))
  opn : w.cell? ⟨A, 5, none⟩ = some (.map (some bO))
  ltA : A < w.heap.size
  ltS : bS < w.heap.size
  ltO : bO < w.heap.size
  neS : A ≠ bS
  neO : A ≠ bO
  neM : bS ≠ bO

theorem Acp.ex {w w' : World} {A bS bO : Nat} {la : Option Addr} {ln lc : Nat} (h : Acp w A bS bO la ln lc) (e : Ex bS bO w w') : Acp w' A bS bO la ln lc :=
  ⟨(e.cell (p := ⟨A, 1, none⟩) h.ltA h.neS h.neO).trans h.learners, (e.cell (p := ⟨A, 4, none⟩) h.ltA h.neS h.neO).trans h.state, (e.cell (p := ⟨A, 5, none⟩) h.ltA h.neS h.neO).trans h.opn,
   Nat.lt_of_lt_of_le h.ltA e.size, Nat.lt_of_lt_of_le h.ltS e.size, Nat.lt_of_lt_of_le h.ltO e.size, h.neS, h.neO, h.neM⟩

/-- The state struct as a value. -/
abbrev stV (mb vb : Int) (s : ByteArray) (v : Bool) : Value := .agg #[.int .i64 mb, .int .i64 vb, .string s, .bool v]
abbrev opV (ob : Int) (f : ByteArray) : Value := .agg #[.int .i64 ob, .string f]

theorem zero51 (w : World) : (zeroValue 51).run Yba.prog w = .ok (opV 0 ⟨#[]⟩) w := by kernel_rfl
theorem zero49 (w : World) : (zeroValue 49).run Yba.prog w = .ok (stV 0 0 ⟨#[]⟩ false) w := by kernel_rfl

/-- What keep leaves. -/
def Kept (bS bO : Nat) (i : Int) (x : Value) (o : Option Value) (w : World) (e : Ending) (w' : World) : Prop :=
  e = .returned (.tuple #[]) ∧ MOne w' bS i x ∧ MSt w' bO i o ∧ Ex bS bO w w'

/-- What is known behind keep's store into the state map. -/
theorem behind {A bS bO : Nat} {la : Option Addr} {ln lc : Nat} {w w1 : World} {o1 : Obj} (hA : Acp w A bS bO la ln lc) (hT : Turn bS (w.alloc o1).drew w1) :
    w1.cell? ⟨A, 5, none⟩ = some (.map (some bO)) ∧ w1.heap.size = w.heap.size + 1 ∧ w1.heap[bO]? = w.heap[bO]? ∧ Ex bS bO w w1 ∧ ∀ j, w1.cell? ⟨w.heap.size, j, none⟩ = (w.alloc o1).cell? ⟨w.heap.size, j, none⟩ := by
  have e1 : Ex bS bO w w1 := (Ex.alloc bS bO w o1).trans ((Ex.drewN bS bO (w.alloc o1) 1).trans (Ex.turnS hT))
  refine ⟨(hA.ex e1).opn, ?_, ?_, e1, fun j => ?_⟩
  · rw [hT.size]; simp
  · rw [hT.block bO (Ne.symm hA.neM)]; exact Below.heap_alloc w o1 bO hA.ltO
  · exact hT.cell (p := ⟨w.heap.size, j, none⟩) (by have := hA.ltS; show w.heap.size ≠ bS; omega)

set_option maxHeartbeats 400000 in
theorem keep_none (A bS bO : Nat) (la : Option Addr) (ln lc : Nat) (i mb vb : Int) (s : ByteArray) (v : Bool) (x : Option Value) (w : World) (hA : Acp w A bS bO la ln lc) (hS : MSt w bS i x) (hO : MNone w bO) :
    Calls Yba.prog 17 #[.pointer (some ⟨A, 0, none⟩), .int .i64 i, stV mb vb s v] w fun e w' => Kept bS bO i (stV mb vb s v) none w e w' := by
  obtain ⟨o1, ho1⟩ : ∃ o1 : Obj, o1 = .cells #[.int .i64 mb, .int .i64 vb, .string s, .bool v] 49 := ⟨_, rfl⟩
  have a4 := hA.state
  have lA := hA.ltA
  have hS1 : MSt (w.alloc o1).drew bS i x := hS.at (Below.heap_alloc w o1 bS hA.ltS)
  obtain ⟨w1, hrun, hM, hT⟩ := hS1.upd Yba.underlying39 (stV mb vb s v)
  obtain ⟨a5, hz, hbO, e1, hc⟩ := behind hA hT
  have hO1 : MNone w1 bO := hO.at hbO
  have hl := look_none Yba.underlying40 (zero51 w1) hO1 true i
  have hF : Hid (Kept bS bO i (stV mb vb s v) none w (.returned (.tuple #[])) (w1.alloc (.cells #[.int .i64 0, .string ⟨#[]⟩] 51))) := by
    have e2 := Ex.alloc bS bO w1 (.cells #[.int .i64 0, .string ⟨#[]⟩] 51)
    exact ⟨rfl, hM.at (Below.heap_alloc w1 _ bS hM.lt), hO1.at (Below.heap_alloc w1 _ bO hO1.lt), e1.trans e2⟩
  clear hM hT hO hS hS1 hA hbO e1 hc hO1
  subst ho1
  go_enter Yba.func17, Yba.ntmps17
  go_wp2
  go_region
  go_wp2
  go_end0
  exact hF

theorem votable_q (ob mb vb : Int) (f s : ByteArray) (v q : Bool) (h : (decide (mb ≤ ob) && decide (vb < ob)) = q) (w : World) :
    Calls Yba.prog 21 #[opV ob f, stV mb vb s v] w fun e w' => e = .returned (.bool q) ∧ Below w.heap.size w w' := by
  have := votable_any ob mb vb f s v w
  rw [h] at this
  exact this

set_option maxHeartbeats 400000 in
theorem keep_one (A bS bO : Nat) (la : Option Addr) (ln lc : Nat) (i mb vb ob : Int) (s f : ByteArray) (v q : Bool) (x : Option Value) (w : World) (hq : (decide (mb ≤ ob) && decide (vb < ob)) = q)
    (hA : Acp w A bS bO la ln lc) (hS : MSt w bS i x) (hO : MOne w bO i (opV ob f)) :
    Calls Yba.prog 17 #[.pointer (some ⟨A, 0, none⟩), .int .i64 i, stV mb vb s v] w fun e w' => Kept bS bO i (stV mb vb s v) (if q = true then some (opV ob f) else none) w e w' := by
  obtain ⟨o1, ho1⟩ : ∃ o1 : Obj, o1 = .cells #[.int .i64 mb, .int .i64 vb, .string s, .bool v] 49 := ⟨_, rfl⟩
  have a4 := hA.state
  have lA := hA.ltA
  have hS1 : MSt (w.alloc o1).drew bS i x := hS.at (Below.heap_alloc w o1 bS hA.ltS)
  obtain ⟨w1, hrun, hM, hT⟩ := hS1.upd Yba.underlying39 (stV mb vb s v)
  obtain ⟨a5, hz, hbO, e1, hc⟩ := behind hA hT
  have hO1 : MOne w1 bO i (opV ob f) := hO.at hbO
  have hl := look_one Yba.underlying40 hO1 true
  have b0 : w1.cell? ⟨w.heap.size, 0, none⟩ = some (.int .i64 mb) := by rw [hc, ho1, World.cell?_alloc_new]; rfl
  have b1 : w1.cell? ⟨w.heap.size, 1, none⟩ = some (.int .i64 vb) := by rw [hc, ho1, World.cell?_alloc_new]; rfl
  have b2 : w1.cell? ⟨w.heap.size, 2, none⟩ = some (.string s) := by rw [hc, ho1, World.cell?_alloc_new]; rfl
  have b3 : w1.cell? ⟨w.heap.size, 3, none⟩ = some (.bool v) := by rw [hc, ho1, World.cell?_alloc_new]; rfl
  have e2 := Ex.alloc bS bO w1 (.cells #[.int .i64 ob, .string f] 51)
  have hM2 : MOne (w1.alloc (.cells #[.int .i64 ob, .string f] 51)) bS i (stV mb vb s v) := hM.at (Below.heap_alloc w1 _ bS hM.lt)
  have hO2 : MOne (w1.alloc (.cells #[.int .i64 ob, .string f] 51)) bO i (opV ob f) := hO1.at (Below.heap_alloc w1 _ bO hO1.lt)
  have HE := hid (e1.trans e2)
  have HM2 := hid hM2
  have HO2 := hid hO2
  have HA := hid hA
  have HQ := hid hq
  clear hM hT hO hS hS1 hA hbO e1 hc hO1 e2 hM2 hO2 hq
  subst ho1
  cases q
  · go_enter Yba.func17, Yba.ntmps17
    go_wp2
    go_region
    go_wp2_with fail
    refine (votable_q ob mb vb f s v false HQ.out _).mono ?_
    rintro e w3 ⟨rfl, hb⟩
    have hsz3 : w.heap.size + 1 + 1 ≤ w3.heap.size := by have := hb.size; simp at this; omega
    have hM3 : MOne w3 bS i (stV mb vb s v) := HM2.out.at (hb.block bS HM2.out.lt)
    have hO3 : MOne w3 bO i (opV ob f) := HO2.out.at (hb.block bO HO2.out.lt)
    have e3 : Ex bS bO w w3 := HE.out.trans (Ex.below hb)
    have a53 := (HA.out.ex e3).opn
    have hd : ∃ w4, (∀ ty, (Builtin.delete_ #[40, 43] ty #[.map (some bO), .int .i64 i]).run Yba.prog w3 = .ok (.tuple #[]) w4) ∧ MNone w4 bO ∧ Turn bO w3 w4 := by
      obtain ⟨w4, h4, h5, h6⟩ := del_one Yba.underlying40 hO3 0
      exact ⟨w4, fun ty => h4, h5, h6⟩
    obtain ⟨w4, hdr, hN4, hT4⟩ := hd
    have hF : Hid (Kept bS bO i (stV mb vb s v) (if false = true then some (opV ob f) else none) w (.returned (.tuple #[])) w4) :=
      ⟨rfl, hM3.at (hT4.block bS HA.out.neM), hN4, e3.trans (Ex.turnO hT4)⟩
    clear hM3 hO3 e3 hb hN4 hT4
    go_wp2
    go_end0
    exact hF
  · go_enter Yba.func17, Yba.ntmps17
    go_wp2
    go_region
    go_wp2_with fail
    refine (votable_q ob mb vb f s v true HQ.out _).mono ?_
    rintro e w3 ⟨rfl, hb⟩
    have hF : Hid (Kept bS bO i (stV mb vb s v) (if true = true then some (opV ob f) else none) w (.returned (.tuple #[])) w3) :=
      ⟨rfl, HM2.out.at (hb.block bS HM2.out.lt), HO2.out.at (hb.block bO HO2.out.lt), HE.out.trans (Ex.below hb)⟩
    clear hb
    go_wp2
    go_end0
    exact hF
end Ca
end Go.Proofs.Ybulkckxo
