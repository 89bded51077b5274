/-
  Seat b4343a, LawS4343CCast: maps of at most one entry, keyed by one int64: what each operation does; 'Ex': nothing old has turned but two blocks.
-/
import Derived.Test.YbulkckxoCastA
import Derived.MapKept
namespace Go.Proofs.Ybulkckxo
open Go.RowKit
namespace Ca

def MNone (w : World) (b : Nat) : Prop := ∃ c, w.heap[b]? = some (.map #[] c)
def MOne (w : World) (b : Nat) (i : Int) (x : Value) : Prop := ∃ c n, w.heap[b]? = some (.map #[⟨.int .i64 i, x, n⟩] c)

/-- Only block b may have turned; no block has come or gone. -/
structure Turn (b : Nat) (w w' : World) : Prop where
  os : w'.os = w.os
  tape : w'.tape = w.tape
  output : w'.output = w.output
  size : w'.heap.size = w.heap.size
  block : ∀ k, k ≠ b → w'.heap[k]? = w.heap[k]?

theorem Turn.set (w : World) (b : Nat) (o : Obj) : Turn b w { w with heap := w.heap.setIfInBounds b o } :=
  ⟨rfl, rfl, rfl, by simp, fun k hk => by simp [Ne.symm hk]⟩

theorem set_at (w : World) (b : Nat) (o o' : Obj) (h : w.heap[b]? = some o') : ({ w with heap := w.heap.setIfInBounds b o } : World).heap[b]? = some o := by
  have hb : b < w.heap.size := (Array.getElem?_eq_some_iff.1 h).1
  simp [hb]

theorem key43 : Yba.prog.underlying 43 = some (.int .i64) := Yba.underlying43
theorem chk (w : World) (em : Bool) (i : Int) : (Instr.checkKey em 10000 43 (.int .i64 i)).run Yba.prog w = .ok () w := by
  show (Instr.checkKey em (9999 + 1) 43 (.int .i64 i)).run Yba.prog w = .ok () w
  unfold Instr.checkKey
  simp [run_underlying key43]
theorem find_none (w : World) (i : Int) : (Instr.findKey 43 (.int .i64 i) []).run Yba.prog w = .ok none w := by
  simp [Instr.findKey, run_underlying key43, Instr.findNow]
theorem find_one (w : World) (i : Int) (x : Value) (n : Nat) : (Instr.findKey 43 (.int .i64 i) [⟨.int .i64 i, x, n⟩]).run Yba.prog w = .ok (some (0, x)) w := by
  simp [Instr.findKey, run_underlying key43, Instr.findNow, Instr.sameNow]
theorem stays (w : World) (i : Int) : (Instr.keyThatStays (.int .i64 i) (.int .i64 i)).run Yba.prog w = .ok (.int .i64 i) w := by
  simp [Instr.keyThatStays, Instr.sameBits]

section
variable {w : World} {b : Nat} {i : Int} {T E : TypeId}

theorem look_none (hT : Yba.prog.underlying T = some (.map 43 E)) {z : Value} (hz : (zeroValue E).run Yba.prog w = .ok z w) (h : MNone w b) (ok : Bool) (i : Int) :
    (Instr.lookup T (.map (some b)) (.int .i64 i) ok).run Yba.prog w = .ok (if ok then .tuple #[z, .bool false] else z) w := by
  obtain ⟨c, h⟩ := h
  simp [Instr.lookup, run_underlying hT, MapKept.run_getObj_map h, chk, find_none, hz, Result.andThen]

theorem look_one (hT : Yba.prog.underlying T = some (.map 43 E)) {x : Value} (h : MOne w b i x) (ok : Bool) :
    (Instr.lookup T (.map (some b)) (.int .i64 i) ok).run Yba.prog w = .ok (if ok then .tuple #[x, .bool true] else x) w := by
  obtain ⟨c, n, h⟩ := h
  simp [Instr.lookup, run_underlying hT, MapKept.run_getObj_map h, chk, find_one, Result.andThen]

theorem upd_none (hT : Yba.prog.underlying T = some (.map 43 E)) (h : MNone w b) (i : Int) (v : Value) :
    ∃ w1, (Instr.mapUpdate T (.map (some b)) (.int .i64 i) v).run Yba.prog w = .ok () w1 ∧ MOne w1 b i v ∧ Turn b w w1 := by
  obtain ⟨c, h⟩ := h
  refine ⟨{ w with heap := w.heap.setIfInBounds b (.map #[⟨.int .i64 i, v, c⟩] (c + 1)) }, ?_, ⟨_, _, set_at w b _ _ h⟩, Turn.set w b _⟩
  simp [Instr.mapUpdate, run_underlying hT, MapKept.run_getObj_map h, chk, find_none, MapKept.run_setObj_map _ h, Result.andThen]

theorem upd_one (hT : Yba.prog.underlying T = some (.map 43 E)) {x : Value} (h : MOne w b i x) (v : Value) :
    ∃ w1, (Instr.mapUpdate T (.map (some b)) (.int .i64 i) v).run Yba.prog w = .ok () w1 ∧ MOne w1 b i v ∧ Turn b w w1 := by
  obtain ⟨c, n, h⟩ := h
  refine ⟨{ w with heap := w.heap.setIfInBounds b (.map #[⟨.int .i64 i, v, n⟩] c) }, ?_, ⟨_, _, set_at w b _ _ h⟩, Turn.set w b _⟩
  simp [Instr.mapUpdate, run_underlying hT, MapKept.run_getObj_map h, chk, find_one, stays, MapKept.run_setObj_map _ h, Result.andThen]

theorem del_one (hT : Yba.prog.underlying T = some (.map 43 E)) {x : Value} (h : MOne w b i x) (ty : TypeId) :
    ∃ w1, (Builtin.delete_ #[T, 43] ty #[.map (some b), .int .i64 i]).run Yba.prog w = .ok (.tuple #[]) w1 ∧ MNone w1 b ∧ Turn b w w1 := by
  obtain ⟨c, n, h⟩ := h
  refine ⟨{ w with heap := w.heap.setIfInBounds b (.map #[] c) }, ?_, ⟨_, set_at w b _ _ h⟩, Turn.set w b _⟩
  simp [Builtin.delete_, run_underlying hT, MapKept.run_getObj_map h, chk, find_one, MapKept.run_setObj_map _ h, Result.andThen]

theorem len_none (hT : Yba.prog.underlying T = some (.map 43 E)) (h : MNone w b) (ty : TypeId) : (Builtin.len_ #[T] ty #[.map (some b)]).run Yba.prog w = .ok (.int .i64 0) w := by
  obtain ⟨c, h⟩ := h
  simp [Builtin.len_, run_underlying hT, MapKept.run_getObj_map h]
  rfl
theorem len_one (hT : Yba.prog.underlying T = some (.map 43 E)) {x : Value} (h : MOne w b i x) (ty : TypeId) : (Builtin.len_ #[T] ty #[.map (some b)]).run Yba.prog w = .ok (.int .i64 1) w := by
  obtain ⟨c, n, h⟩ := h
  simp [Builtin.len_, run_underlying hT, MapKept.run_getObj_map h]
  rfl
end

theorem Turn.cell {b : Nat} {w w' : World} (h : Turn b w w') {p : Addr} (hp : p.block ≠ b) : w'.cell? p = w.cell? p := World.cell?_of_block (w := w) (h.block p.block hp)
theorem Turn.frozen {b : Nat} {w w' : World} (h : Turn b w w') {p : Addr} (hp : p.block ≠ b) : w'.frozen? p = w.frozen? p := World.frozen?_of_block (w := w) (h.block p.block hp)

/-- Of what was there, only blocks s and o may have turned. -/
structure Ex (s o : Nat) (w w' : World) : Prop where
  os : w'.os = w.os
  tape : w'.tape = w.tape
  output : w'.output = w.output
  size : w.heap.size ≤ w'.heap.size
  block : ∀ k, k < w.heap.size → k ≠ s → k ≠ o → w'.heap[k]? = w.heap[k]?

theorem Ex.refl (s o : Nat) (w : World) : Ex s o w w := ⟨rfl, rfl, rfl, Nat.le_refl _, fun _ _ _ _ => rfl⟩
theorem Ex.trans {s o : Nat} {a b c : World} (h : Ex s o a b) (k : Ex s o b c) : Ex s o a c :=
  ⟨k.os.trans h.os, k.tape.trans h.tape, k.output.trans h.output, Nat.le_trans h.size k.size, fun i hi h1 h2 => (k.block i (Nat.lt_of_lt_of_le hi h.size) h1 h2).trans (h.block i hi h1 h2)⟩
theorem Ex.below {s o : Nat} {a b : World} (h : Below a.heap.size a b) : Ex s o a b := ⟨h.os, h.tape, h.output, h.size, fun k hk _ _ => h.block k hk⟩
theorem Ex.turnS {s o : Nat} {a b : World} (h : Turn s a b) : Ex s o a b := ⟨h.os, h.tape, h.output, Nat.le_of_eq h.size.symm, fun k _ h1 _ => h.block k h1⟩
theorem Ex.turnO {s o : Nat} {a b : World} (h : Turn o a b) : Ex s o a b := ⟨h.os, h.tape, h.output, Nat.le_of_eq h.size.symm, fun k _ _ h2 => h.block k h2⟩
theorem Ex.alloc (s o : Nat) (w : World) (x : Obj) : Ex s o w (w.alloc x) := Ex.below ((Below.refl _ _).alloc (Nat.le_refl _) x)
theorem Ex.drewN (s o : Nat) (w : World) (n : Nat) : Ex s o w (w.drewN n) := Ex.below (below_drewN (Below.refl _ _) n)
theorem Ex.cell {s o : Nat} {w w' : World} (h : Ex s o w w') {p : Addr} (hp : p.block < w.heap.size) (h1 : p.block ≠ s) (h2 : p.block ≠ o) : w'.cell? p = w.cell? p := World.cell?_of_block (w := w) (h.block p.block hp h1 h2)
theorem Ex.frozen {s o : Nat} {w w' : World} (h : Ex s o w w') {p : Addr} (hp : p.block < w.heap.size) (h1 : p.block ≠ s) (h2 : p.block ≠ o) : w'.frozen? p = w.frozen? p := World.frozen?_of_block (w := w) (h.block p.block hp h1 h2)
/-- Both blocks lie from B on: nothing below B has turned. -/
theorem Ex.toBelow {s o B : Nat} {w w' : World} (h : Ex s o w w') (hB : B ≤ w.heap.size) (h1 : B ≤ s) (h2 : B ≤ o) : Below B w w' := ⟨h.os, h.tape, h.output, h.size, fun k hk => h.block k (by omega) (by omega) (by omega)⟩

theorem MNone.at {w w' : World} {b : Nat} (h : MNone w b) (e : w'.heap[b]? = w.heap[b]?) : MNone w' b := by obtain ⟨c, h⟩ := h; exact ⟨c, e.trans h⟩
theorem MOne.at {w w' : World} {b : Nat} {i : Int} {x : Value} (h : MOne w b i x) (e : w'.heap[b]? = w.heap[b]?) : MOne w' b i x := by obtain ⟨c, n, h⟩ := h; exact ⟨c, n, e.trans h⟩
theorem MNone.lt {w : World} {b : Nat} (h : MNone w b) : b < w.heap.size := by obtain ⟨c, h⟩ := h; exact (Array.getElem?_eq_some_iff.1 h).1
theorem MOne.lt {w : World} {b : Nat} {i : Int} {x : Value} (h : MOne w b i x) : b < w.heap.size := by obtain ⟨c, n, h⟩ := h; exact (Array.getElem?_eq_some_iff.1 h).1

/-- The map at b: empty, or one entry at i. -/
def MSt (w : World) (b : Nat) (i : Int) : Option Value → Prop
  | none => MNone w b
  | some x => MOne w b i x
theorem MSt.at {w w' : World} {b : Nat} {i : Int} {x : Option Value} (h : MSt w b i x) (e : w'.heap[b]? = w.heap[b]?) : MSt w' b i x := by
  cases x with
  | none => exact MNone.at h e
  | some x => exact MOne.at h e
theorem MSt.lt {w : World} {b : Nat} {i : Int} {x : Option Value} (h : MSt w b i x) : b < w.heap.size := by
  cases x with
  | none => exact MNone.lt h
  | some x => exact MOne.lt h
theorem MSt.upd {w : World} {b : Nat} {i : Int} {T E : TypeId} (hT : Yba.prog.underlying T = some (.map 43 E)) {x : Option Value} (h : MSt w b i x) (v : Value) :
    ∃ w1, (Instr.mapUpdate T (.map (some b)) (.int .i64 i) v).run Yba.prog w = .ok () w1 ∧ MOne w1 b i v ∧ Turn b w w1 := by
  cases x with
  | none => exact upd_none hT h i v
  | some x => exact upd_one hT h v
end Ca
end Go.Proofs.Ybulkckxo
