/-
  Seat b4343a, LawS4343CCast: a store of a struct into a row of the call's own; sendAll.
-/
import Derived.Test.YbulkckxoCastA
import Derived.Laws.CopyRow
namespace Go.Proofs.Ybulkckxo
open Go.RowKit
namespace Ca

/-- 'xs[j] = struct' where xs owns its row. -/
theorem wpList_store_own {w : World} {ops : Array Oper} {rest : List Oper} {o : Oper} {a : Act} {Q : Exit → Act → World → Prop} (hgd : o.guard = none) (ty : TypeId) (x y : Operand) (ho : o.op = .store ty x y)
    (B : Nat) (e : TypeId) (size g n cap j : Nat) (xs cells : List Value) (hown : w.ownsRow B e size (.slice (some ⟨g, 0, none⟩) n cap) n xs)
    (hx : a.eval x = .pointer (some ⟨g, j, none⟩)) (hy : a.eval y = .agg cells.toArray) (hi : (Yba.prog.info? ty).map (·.size) = some cells.length)
    (hj : j + cells.length ≤ n * size) (h1 : ∀ v ∈ cells, v.oneCell' = true)
    (h : ∀ w', w'.ownsRow B e size (.slice (some ⟨g, 0, none⟩) n cap) n (xs.take j ++ cells ++ xs.drop (j + cells.length)) → w.grownBy w' (some g) → wpList Yba.prog ops Q rest (a.put o.dst undef) w') :
    wpList Yba.prog ops Q (o :: rest) a w := by
  rcases hown.2 with ⟨h', _⟩ | ⟨g', cap', cur, h', hb, hg, hnc, hcm, hcs, htake⟩
  · simp at h'
  simp only [Value.slice.injEq, Option.some.injEq, Addr.mk.injEq, and_true, true_and] at h'
  obtain ⟨rfl, rfl⟩ := h'
  have hle : n * size ≤ cap * size := Nat.mul_le_mul_right _ hnc
  have hxl : xs.length = n * size := hown.1
  refine wpList_plain hgd fun K hK => ?_
  have hst := run_storeCells_at (P := Yba.prog) g j e cells 0 cur w hg (by omega) h1
  have hsv : (storeVar ty ⟨g, j, none⟩ (.agg cells.toArray)).run Yba.prog w = .ok () (w.setRow g (cur.toList.take j ++ cells ++ cur.toList.drop (j + cells.length)).toArray) := by
    cases hq : Yba.prog.info? ty with
    | none => simp [hq] at hi
    | some ii =>
      have hs : cells.length = ii.size := by simp [hq] at hi; omega
      simp [storeVar, sizeOf, typeInfo, hq, Value.cells, hs]
      rw [hs] at hst
      simpa using hst
  unfold Oper.wp execOp
  simp only [ho, hx, hy, Instr.storeAt, Instr.sureAddr, Sem.run_bind, Sem.run_pure, Result.andThen_ok, hsv]
  refine hK _ _ (h _ ⟨?_, .inr ⟨g, cap, _, rfl, hb, setRow_heap w g cur _ e _ hg, hnc, hcm, ?_, ?_⟩⟩ ⟨rfl, rfl, rfl, by simp, fun k _ hk => setRow_other w g k _ (fun ee => hk (by rw [ee]))⟩)
  · simp only [List.length_append, List.length_take, List.length_drop]; omega
  · simp only [List.size_toArray, List.length_append, List.length_take, List.length_drop, Array.length_toList]; omega
  · have e1 : xs.take j = cur.toList.take j := by rw [← htake, List.take_take, Nat.min_eq_left (by omega)]
    have e2 : xs.drop (j + cells.length) = (cur.toList.take (n * size)).drop (j + cells.length) := by rw [htake]
    rw [e1, e2]
    have l1 : (cur.toList.take j ++ cells).length = j + cells.length := by simp; omega
    rw [List.take_append, List.take_of_length_le (by omega), l1, List.drop_take]

/-- The 2b message. -/
abbrev msgL (i b : Int) (v : ByteArray) : List Value := [.string ⟨#[50, 98]⟩, .int .i64 i, .int .i64 b, .int .i64 0, .string ⟨#[]⟩, .bool false, .string v, .bool false, .int .i64 0]
abbrev msgV (i b : Int) (v : ByteArray) : Value := .agg #[.string ⟨#[50, 98]⟩, .int .i64 i, .int .i64 b, .int .i64 0, .string ⟨#[]⟩, .bool false, .string v, .bool false, .int .i64 0]
/-- A Send's ten cells. -/
def sendL (i b : Int) (v to : ByteArray) : List Value := .string to :: msgL i b v
theorem sendL_length (i b : Int) (v to : ByteArray) : (sendL i b v to).length = 10 := rfl
theorem sendL_one (i b : Int) (v to : ByteArray) : ∀ u ∈ sendL i b v to, u.oneCell' = true := by
  have h : (sendL i b v to).all (·.oneCell') = true := rfl
  intro u hu
  exact List.all_eq_true.1 h u hu
def sends (i b : Int) (v : ByteArray) (ss : List ByteArray) : List Value := ss.flatMap (sendL i b v)
theorem sends_length (i b : Int) (v : ByteArray) (ss : List ByteArray) : (sends i b v ss).length = ss.length * 10 := by
  induction ss with
  | nil => rfl
  | cons s ss ih => simp only [sends, List.flatMap_cons, List.length_append, List.length_cons, sendL_length] at ih ⊢; omega
theorem sends_snoc (i b : Int) (v : ByteArray) (ss : List ByteArray) (s : ByteArray) : sends i b v (ss ++ [s]) = sends i b v ss ++ sendL i b v s := by simp [sends]

/-- What the row holds when k elements are filled. -/
def rowTo (i b : Int) (v : ByteArray) (ss : List ByteArray) (zs : List Value) (k : Nat) : List Value := sends i b v (ss.take k) ++ zs.drop (k * 10)

theorem rowTo_step (i b : Int) (v : ByteArray) (ss : List ByteArray) (zs : List Value) (k : Nat) (hk : k < ss.length) :
    (rowTo i b v ss zs k).take (k * 10) ++ sendL i b v (ss.getD k ByteArray.empty) ++ (rowTo i b v ss zs k).drop (k * 10 + 10) = rowTo i b v ss zs (k + 1) := by
  have hl : (sends i b v (ss.take k)).length = k * 10 := by rw [sends_length, List.length_take]; congr 1; omega
  have e : ss.getD k ByteArray.empty = ss[k] := by simp [List.getD, hk]
  unfold rowTo
  rw [List.take_append, List.take_of_length_le (by omega), hl, Nat.sub_self, List.take_zero, List.append_nil, List.drop_append, List.drop_eq_nil_of_le (by omega), hl, List.nil_append, List.drop_drop,
    List.take_succ_eq_append_getElem hk, sends_snoc, e]
  congr 2
  omega

theorem Yba.info69 : (Yba.prog.info? 69).map (fun i => (i.zero, i.size, i.bytes)) = some (some (.agg #[.string ⟨#[]⟩, .string ⟨#[]⟩, .int .i64 0, .int .i64 0, .int .i64 0, .string ⟨#[]⟩, .bool false, .string ⟨#[]⟩, .bool false, .int .i64 0]), 10, 112) := by kernel_rfl
theorem Yba.size69 : (Yba.prog.info? 69).map (·.size) = some 10 := by kernel_rfl

/-- What sendAll leaves: a row of its own with one Send for each. -/
def SentAll (i b : Int) (v : ByteArray) (ss : List ByteArray) (w : World) (e : Ending) (w' : World) : Prop :=
  (∃ g c, e = .returned (.slice (some ⟨g, 0, none⟩) ss.length c) ∧ w'.ownsRow w.heap.size 69 10 (.slice (some ⟨g, 0, none⟩) ss.length c) ss.length (sends i b v ss)) ∧ Below w.heap.size w w'

abbrev boxM (i b : Int) (v : ByteArray) : Obj := .cells #[.string ⟨#[50, 98]⟩, .int .i64 i, .int .i64 b, .int .i64 0, .string ⟨#[]⟩, .bool false, .string v, .bool false, .int .i64 0] 66

set_option maxHeartbeats 400000 in
theorem sendAll_any (a : Option Addr) (c : Nat) (ss : List ByteArray) (i b : Int) (v : ByteArray) (w : World) (hn : ss.length ≤ 1024) (hs : Strs w a ss) :
    Calls Yba.prog 18 #[.slice a ss.length c, msgV i b v] w fun e w' => SentAll i b v ss w e w' := by
  obtain ⟨i0, hi, hq0, hq1, hq2⟩ := info_parts Yba.info69
  have HS := hid hs
  clear hs
  go_enter Yba.func18, Yba.ntmps18
  go_wp2_with (at_make; refine wpList_make_full _ rfl _ _ 54 rfl (w.heap.size + 1) 69 i0 _ 10 Yba.underlying54 hi hq0 hq1 _ _ _ _ ss.length rfl rfl rfl rfl (by rw [hq2]; omega) (by unfold maxLen; omega) (by simp) ?_; intro w1 hown1 hgrow1)
  have hbel1 : Below (w.heap.size + 1) (w.alloc (boxM i b v)) w1 := (Below.refl _ _).grown hgrow1 (by simp) (fun k hk => by cases hk)
  simp only [World.size_alloc] at hown1
  generalize (madeCells _ (ss.length * 10)).toList = zs at hown1
  have hst : rowTo i b v ss zs 0 = zs := by simp [rowTo, sends]
  rw [← hst] at hown1
  clear hst hgrow1
  go_loopw [13] (fun t wr => ∃ k : Nat, k ≤ ss.length ∧ t = .int .i64 k ∧ wr.ownsRow (w.heap.size + 1) 69 10 (.slice (some ⟨w.heap.size + 1, 0, none⟩) ss.length ss.length) ss.length (rowTo i b v ss zs k) ∧ Below (w.heap.size + 1) (w.alloc (boxM i b v)) wr) (fun t _ => ss.length - (intOf t).toNat)
  case atStart => exact ⟨0, Nat.zero_le _, rfl, hown1, hbel1⟩
  case round =>
    obtain ⟨k, hk, rfl, hown, hbel⟩ := hrel
    have hsz := hbel.size
    simp only [World.size_alloc] at hsz
    by_cases hlt : k < ss.length
    · obtain ⟨b0, off0, ha, hcs⟩ := HS.out (by omega)
      subst ha
      have hb0 : b0 < w.heap.size := World.block_lt_of_cell? _ _ (hcs k hlt)
      have hcx : wr.cell? ⟨b0, off0 + k, none⟩ = some (.string (ss.getD k ByteArray.empty)) := (hbel.cell (p := ⟨b0, off0 + k, none⟩) (by show b0 < _; omega)).trans ((World.cell?_alloc_lt w _ ⟨b0, off0 + k, none⟩ hb0).trans (hcs k hlt))
      have hm : ∀ j, wr.cell? ⟨w.heap.size, j, none⟩ = (w.alloc (boxM i b v)).cell? ⟨w.heap.size, j, none⟩ := fun j => hbel.cell (p := ⟨w.heap.size, j, none⟩) (by show w.heap.size < _; omega)
      have m0 : wr.cell? ⟨w.heap.size, 0, none⟩ = some (.string ⟨#[50, 98]⟩) := by rw [hm, World.cell?_alloc_new]; rfl
      have m1 : wr.cell? ⟨w.heap.size, 1, none⟩ = some (.int .i64 i) := by rw [hm, World.cell?_alloc_new]; rfl
      have m2 : wr.cell? ⟨w.heap.size, 2, none⟩ = some (.int .i64 b) := by rw [hm, World.cell?_alloc_new]; rfl
      have m3 : wr.cell? ⟨w.heap.size, 3, none⟩ = some (.int .i64 0) := by rw [hm, World.cell?_alloc_new]; rfl
      have m4 : wr.cell? ⟨w.heap.size, 4, none⟩ = some (.string ⟨#[]⟩) := by rw [hm, World.cell?_alloc_new]; rfl
      have m5 : wr.cell? ⟨w.heap.size, 5, none⟩ = some (.bool false) := by rw [hm, World.cell?_alloc_new]; rfl
      have m6 : wr.cell? ⟨w.heap.size, 6, none⟩ = some (.string v) := by rw [hm, World.cell?_alloc_new]; rfl
      have m7 : wr.cell? ⟨w.heap.size, 7, none⟩ = some (.bool false) := by rw [hm, World.cell?_alloc_new]; rfl
      have m8 : wr.cell? ⟨w.heap.size, 8, none⟩ = some (.int .i64 0) := by rw [hm, World.cell?_alloc_new]; rfl
      have HR := hid (rowTo_step i b v ss zs k hlt)
      clear hm hcs HS
      generalize hss : ss.getD k ByteArray.empty = s at hcx HR
      clear hss
      have HO := hid hown
      clear hown
      go_wp2_with (refine wpList_store_own rfl 69 (.tmp 23) (.tmp 22) rfl (w.heap.size + 1) 69 10 (w.heap.size + 1) ss.length ss.length _ _ (sendL i b v s) HO.out rfl rfl Yba.size69 (by rw [sendL_length]; omega) (sendL_one i b v s) ?_; intro w2 hown2 hgrow2)
      have hown3 : w2.ownsRow (w.heap.size + 1) 69 10 (.slice (some ⟨w.heap.size + 1, 0, none⟩) ss.length ss.length) ss.length (rowTo i b v ss zs (k + 1)) := by
        rw [← HR.out]
        exact hown2
      have hbel2 : Below (w.heap.size + 1) (w.alloc (boxM i b v)) w2 := hbel.grown hgrow2 hsz (fun k hk => by cases hk; exact Nat.le_refl _)
      go_roundw
      case rel => exact ⟨k + 1, by omega, by go_num, hown3, hbel2⟩
      case measure => simp [intOf]; omega
    · have hF : Hid (SentAll i b v ss w (.returned (.slice (some ⟨w.heap.size + 1, 0, none⟩) ss.length ss.length)) wr) := by
        have hke : k = ss.length := by omega
        have hfin : rowTo i b v ss zs k = sends i b v ss := by
          have hl := hown.1
          have h2 := sends_length i b v ss
          have h3 : sends i b v ss ++ zs.drop (k * 10) = rowTo i b v ss zs k := by rw [rowTo, List.take_of_length_le (by omega)]
          rw [← h3] at hl
          rw [List.length_append, h2] at hl
          have h4 : zs.drop (k * 10) = [] := List.eq_nil_of_length_eq_zero (by omega)
          rw [← h3, h4, List.append_nil]
        rw [hfin] at hown
        have hB : Below w.heap.size w wr := ((Below.refl _ _).alloc (Nat.le_refl _) _).trans (hbel.mono (Nat.le_succ _))
        refine ⟨⟨_, _, rfl, ⟨hown.1, ?_⟩⟩, hB⟩
        rcases hown.2 with h | ⟨g, cap, cur, hv, hb, hr⟩
        · exact .inl h
        · exact .inr ⟨g, cap, cur, hv, by omega, hr⟩
      go_wp2
      go_ret
      exact hF
end Ca
end Go.Proofs.Ybulkckxo
