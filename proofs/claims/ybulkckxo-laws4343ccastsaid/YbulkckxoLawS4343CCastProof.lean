/-
  Seat b4343a: the statement 'Rows.LawS4343CCastSaid'. The frame is the kit's shells' way, turned to this function's ten parameters; the walk is YbulkckxoCastW's.
-/
import Derived.Test.YbulkckxoRows
import Derived.Test.YbulkckxoCastW
import Derived.WalkKit
import Derived.ProofKit
import Derived.OpenShut
import Derived.ShutString
import Derived.SliceStrings
import Derived.ChangeOld
import Derived.Below
namespace Go.Proofs.Ybulkckxo.lawS4343CCast
open Go.ChangeShapes Go.WideShapes Go.ChangeAt Go.RowKit
open Go.ChangeMaps (open_string shut_string)
set_option linter.unusedVariables false

theorem own : ownKnob Yba.prog.godebug = none := by kernel_rfl
theorem laidOut : laidOutB Yba.prog = true := by kernel_rfl

/-- What the walk is told of a slice of strings that came in: it is nil; or it leads to a row of 'cap' cells, the strings 'ss' (the first 'len' are its elements). -/
def IsRow (w : World) (a : Option Addr) (len cap : Nat) (ss : List ByteArray) : Prop :=
  (a = none ∧ len = 0 ∧ cap = 0 ∧ ss = []) ∨
  ∃ x, a = some x ∧ len ≤ cap ∧ ss.length = cap ∧ (∀ i, i < ss.length → w.cell? (x.add i) = some (.string (ss.getD i ByteArray.empty)))

theorem strs_at {w : World} {a : Addr} {ss : List ByteArray} (h : ∀ i, i < ss.length → w.cell? (a.add i) = some (.string (ss.getD i ByteArray.empty))) (hp : 0 < ss.length) :
    ∃ b off, a = ⟨b, off, none⟩ ∧ ∀ j, j < ss.length → w.cell? ⟨b, off + j, none⟩ = some (.string (ss.getD j ByteArray.empty)) := by
  obtain ⟨b, off, spot⟩ := a
  have hspot : spot = none := by simpa [Addr.add] using World.cell?_spot (h 0 hp)
  subst hspot
  exact ⟨b, off, rfl, fun j hj => by rw [← Go.WideShapes.add_plain]; exact h j hj⟩

theorem row_facts {w : World} {a : Option Addr} {len cap : Nat} {ss : List ByteArray} (h : IsRow w a len cap ss) :
    ∃ ls : List ByteArray, ls.length = len ∧ (∀ ad, a = some ad → ∀ j u, (ls.map Value.string)[j]? = some u → w.cell? (ad.add j) = some u) ∧ (a = none → ls.length = 0) ∧ Ca.Strs w a ls := by
  rcases h with ⟨rfl, rfl, rfl, rfl⟩ | ⟨x, rfl, hl, hz, hc⟩
  · exact ⟨[], rfl, fun ad h => (by cases h), fun _ => rfl, fun h => absurd h (Nat.lt_irrefl 0)⟩
  · have hlen : (ss.take len).length = len := by rw [List.length_take]; omega
    have hg : ∀ j, j < len → (ss.take len).getD j ByteArray.empty = ss.getD j ByteArray.empty := by
      intro j hj
      simp [List.getD, List.getElem?_take_of_lt hj]
    refine ⟨ss.take len, hlen, ?_, fun h => (by cases h), ?_⟩
    · intro ad had j u hu
      cases had
      rw [List.getElem?_map] at hu
      obtain ⟨z, hz1, rfl⟩ := Option.map_eq_some_iff.1 hu
      obtain ⟨hj, hz2⟩ := List.getElem?_eq_some_iff.1 hz1
      rw [hlen] at hj
      have := hc j (by omega)
      rw [← hg j hj] at this
      rw [this]
      simp [List.getD, hz1]
    · intro hp
      rw [hlen] at hp
      obtain ⟨b, off, rfl, hc'⟩ := strs_at hc (by omega)
      exact ⟨b, off, rfl, fun j hj => by rw [hlen] at hj; rw [hg j hj]; exact hc' j (by omega)⟩

set_option maxRecDepth 100000 in
theorem long0 (a0 a1 : Option Addr) (n0 n1 c0 c1 : Nat) (x2 x3 x4 x6 x7 x8 : Int) (x5 x9 : ByteArray) (w : World) (h : 1024 < n0) :
    Calls Yba.prog 5 #[.slice a0 n0 c0, .slice a1 n1 c1, .int .i64 x2, .int .i64 x3, .int .i64 x4, .string x5, .int .u8 x6, .int .i64 x7, .int .i64 x8, .string x9] w fun e w' => e = .returned (.bool true) ∧ Below w.heap.size w w' := by
  have hd : decide ((1024 : Int) < (n0 : Int)) = true := decide_eq_true (by omega)
  go_enter Yba.func5, Yba.ntmps5
  go_wp2
  go_ret
  exact ⟨rfl, Below.refl _ _⟩

set_option maxRecDepth 100000 in
theorem long1 (a0 a1 : Option Addr) (n0 n1 c0 c1 : Nat) (x2 x3 x4 x6 x7 x8 : Int) (x5 x9 : ByteArray) (w : World) (h0 : n0 ≤ 1024) (h : 1024 < n1) :
    Calls Yba.prog 5 #[.slice a0 n0 c0, .slice a1 n1 c1, .int .i64 x2, .int .i64 x3, .int .i64 x4, .string x5, .int .u8 x6, .int .i64 x7, .int .i64 x8, .string x9] w fun e w' => e = .returned (.bool true) ∧ Below w.heap.size w w' := by
  have hd0 : decide ((1024 : Int) < (n0 : Int)) = false := decide_eq_false (by omega)
  have hd : decide ((1024 : Int) < (n1 : Int)) = true := decide_eq_true (by omega)
  go_enter Yba.func5, Yba.ntmps5
  go_wp2
  go_ret
  exact ⟨rfl, Below.refl _ _⟩

theorem walk (a0 a1 : Option Addr) (n0 n1 c0 c1 : Nat) (s0 s1 : List ByteArray) (x2 x3 x4 x6 x7 x8 : Int) (x5 x9 : ByteArray) (w : World) (w0 : IsRow w a0 n0 c0 s0) (w1 : IsRow w a1 n1 c1 s1) :
    Calls Yba.prog 5 #[.slice a0 n0 c0, .slice a1 n1 c1, .int .i64 x2, .int .i64 x3, .int .i64 x4, .string x5, .int .u8 x6, .int .i64 x7, .int .i64 x8, .string x9] w fun e w' => e = .returned (.bool true) ∧ Below w.heap.size w w' := by
  by_cases h5 : 1024 < n0
  · exact long0 a0 a1 n0 n1 c0 c1 x2 x3 x4 x6 x7 x8 x5 x9 w h5
  by_cases h6 : 1024 < n1
  · exact long1 a0 a1 n0 n1 c0 c1 x2 x3 x4 x6 x7 x8 x5 x9 w (by omega) h6
  obtain ⟨ls, rfl, hc0, hz0, hs0⟩ := row_facts w0
  obtain ⟨ts, rfl, hc1, hz1, hs1⟩ := row_facts w1
  exact Ca.law_walk a0 a1 c0 c1 ls ts x2 x3 x4 x7 x8 x5 x9 x6 w (by omega) (by omega) hc0 hz0 hc1 hz1 hs0 hs1

theorem open_row {H : Type} {enc : TypeId × Value → H} {W : World} {a : Option Addr} {len cap : Nat} {d : DataW H} {ps : List MemPlace} (h : DataW.Trod enc Yba.prog W 0 (fun _ => true) true 33 (.slice a len cap) d ps) : ∃ ss, IsRow W a len cap ss := by
  obtain ⟨fuel, hf⟩ := h
  rcases open_strings Yba.underlying33 Yba.underlying9 (by kernel_rfl) hf with ⟨hcs, _⟩ | ⟨x, l, c, ss, hcs, _, hl, hm, hz, _, hcell, hws⟩
  · simp [Value.cells] at hcs
    obtain ⟨rfl, rfl, rfl⟩ := hcs
    exact ⟨[], .inl ⟨rfl, rfl, rfl, rfl⟩⟩
  · simp [Value.cells] at hcs
    obtain ⟨rfl, rfl, rfl⟩ := hcs
    exact ⟨ss, .inr ⟨_, rfl, hl, by simpa using hz, hcell⟩⟩

/-! ### The row's step -/
set_option maxRecDepth 100000 in
theorem lifted (os : Os) (started : os.Started) (H : Type) (enc : TypeId × Value → H) :
    ReturnsInHanded {} Yba.checked os 5 .any (Rows.lawS4343CCastSpec.pre6 enc Yba.prog Yba.f5 Rows.lawS4343CCastRow.domain false) (Rows.lawS4343CCastSpec.post enc Yba.prog Yba.f5 false true false false) := by
  refine returnsInHanded_of_change (C := Yba.checked) own started (by kernel_rfl) Yba.func5
    (ChangeSpec.witness6 (enc := enc) (C := Yba.checked) false ⟨#[], #[.slice none 0 0, .slice none 0 0, .int .i64 0, .int .i64 0, .int .i64 0, .string ByteArray.empty, .int .u8 0, .int .i64 0, .int .i64 0, .string ByteArray.empty], []⟩ 8 (by kernel_rfl) (by kernel_rfl) (by kernel_rfl) (by kernel_rfl)) ?_
  intro W base args ds gs before hval0 hW hcnd _
  have hval : ∀ (j : Nat) t v, Yba.f5.params[j]? = some t → args[j]? = some v → Value.okWide Yba.prog W .any base t v := hval0
  have hW' := hW
  obtain ⟨p, q, hA0, hV, rfl, hfz, hnd⟩ := hW
  have hA : DataW.TrodAll enc Yba.prog W 0 (fun _ => true) true Yba.f5.params.toList args.toList ds p := hA0
  rw [Yba.params5] at hA hval
  obtain ⟨v0, vs0, d0, ds0, p0, q0, hargs, rfl, rfl, h0, r0⟩ := trodAll_cons hA
  obtain ⟨v1, vs1, d1, ds1, p1, q1, rfl, rfl, rfl, h1, r1⟩ := trodAll_cons r0
  obtain ⟨v2, vs2, d2, ds2, p2, q2, rfl, rfl, rfl, h2, r2⟩ := trodAll_cons r1
  obtain ⟨v3, vs3, d3, ds3, p3, q3, rfl, rfl, rfl, h3, r3⟩ := trodAll_cons r2
  obtain ⟨v4, vs4, d4, ds4, p4, q4, rfl, rfl, rfl, h4, r4⟩ := trodAll_cons r3
  obtain ⟨v5, vs5, d5, ds5, p5, q5, rfl, rfl, rfl, h5, r5⟩ := trodAll_cons r4
  obtain ⟨v6, vs6, d6, ds6, p6, q6, rfl, rfl, rfl, h6, r6⟩ := trodAll_cons r5
  obtain ⟨v7, vs7, d7, ds7, p7, q7, rfl, rfl, rfl, h7, r7⟩ := trodAll_cons r6
  obtain ⟨v8, vs8, d8, ds8, p8, q8, rfl, rfl, rfl, h8, r8⟩ := trodAll_cons r7
  obtain ⟨v9, vs9, d9, ds9, p9, q9, rfl, rfl, rfl, h9, r9⟩ := trodAll_cons r8
  obtain ⟨rfl, rfl, rfl⟩ := trodAll_nil r9
  obtain rfl : args = #[v0, v1, v2, v3, v4, v5, v6, v7, v8, v9] := by cases args; simp_all
  obtain ⟨rfl, rfl⟩ := trodVars_none hV
  obtain ⟨a0, len0, cap0, rfl⟩ := okWide_slice Yba.underlying33 (hval 0 33 v0 rfl rfl)
  obtain ⟨a1, len1, cap1, rfl⟩ := okWide_slice Yba.underlying33 (hval 1 33 v1 rfl rfl)
  have k0 := h0
  have k1 := h1
  have lt0 : ∀ x ∈ p0, x.block < W.heap.size := by obtain ⟨m, hm⟩ := k0; exact DataW.trod_lt m _ _ _ hm
  have lt1 : ∀ x ∈ p1, x.block < W.heap.size := by obtain ⟨m, hm⟩ := k1; exact DataW.trod_lt m _ _ _ hm
  obtain ⟨s0, w0⟩ := open_row h0
  obtain ⟨s1, w1⟩ := open_row h1
  obtain ⟨x2, rfl, rfl, rfl, w2⟩ := open_int Yba.underlying2 (hval 2 2 v2 rfl rfl) h2
  obtain ⟨x3, rfl, rfl, rfl, w3⟩ := open_int Yba.underlying2 (hval 3 2 v3 rfl rfl) h3
  obtain ⟨x4, rfl, rfl, rfl, w4⟩ := open_int Yba.underlying2 (hval 4 2 v4 rfl rfl) h4
  obtain ⟨x5, rfl, rfl, rfl, w5⟩ := open_string Yba.underlying9 (hval 5 9 v5 rfl rfl) h5
  obtain ⟨x6, rfl, rfl, rfl, w6⟩ := open_int Yba.underlying5 (hval 6 5 v6 rfl rfl) h6
  obtain ⟨x7, rfl, rfl, rfl, w7⟩ := open_int Yba.underlying2 (hval 7 2 v7 rfl rfl) h7
  obtain ⟨x8, rfl, rfl, rfl, w8⟩ := open_int Yba.underlying2 (hval 8 2 v8 rfl rfl) h8
  obtain ⟨x9, rfl, rfl, rfl, w9⟩ := open_string Yba.underlying9 (hval 9 9 v9 rfl rfl) h9
  clear hA0 hval0
  refine (walk a0 a1 len0 len1 cap0 cap1 s0 s1 x2 x3 x4 x6 x7 x8 x5 x9 W w0 w1).mono fun e W' ⟨he, bel⟩ => ?_
  subst he
  exact ⟨_, rfl, _, _, _, [], _, [], hW', trodAll_mk1 (shut_bool Yba.underlying4 _),
    (trodAll_cons_mk (Below.trod laidOut (by kernel_rfl) (of_decide_eq_true (by kernel_rfl)) k0 bel lt0) (trodAll_cons_mk (Below.trod laidOut (by kernel_rfl) (of_decide_eq_true (by kernel_rfl)) k1 bel lt1)
      (trodAll_cons_mk (shut_int Yba.underlying2 w2) (trodAll_cons_mk (shut_int Yba.underlying2 w3) (trodAll_cons_mk (shut_int Yba.underlying2 w4) (trodAll_cons_mk (shut_string Yba.underlying9 w5) (trodAll_cons_mk (shut_int Yba.underlying5 w6)
        (trodAll_cons_mk (shut_int Yba.underlying2 w7) (trodAll_cons_mk (shut_int Yba.underlying2 w8) (trodAll_cons_mk (shut_string Yba.underlying9 w9) trodAll_mk0)))))))))), rfl, bel.frame _, fun h => by cases h⟩

theorem over : Rows.lawS4343CCastRow.holds Yba.pinned (OpenSpec.ofChange Rows.lawS4343CCastSpec) :=
  OpenClaim.holds_of_wide 5 Yba.f5 rfl rfl rfl rfl rfl rfl rfl ⟨rfl, rfl, rfl, rfl, rfl⟩ rfl rfl rfl rfl rfl (by kernel_rfl) Yba.func5 (by kernel_rfl)
    (of_decide_eq_true (by kernel_rfl)) (by unfold Func.isWrapper; first | (rw [if_pos (by decide +kernel)]; kernel_rfl) | (rw [if_neg (by decide +kernel)]; exact ⟨rfl, rfl⟩))
    (fun os started H enc _ => lifted os started H enc)

/-- The statement. -/
theorem proved : Rows.LawS4343CCastSaid := over
end Go.Proofs.Ybulkckxo.lawS4343CCast
