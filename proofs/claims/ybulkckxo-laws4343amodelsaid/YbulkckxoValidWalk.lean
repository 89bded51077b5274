/-
  Seat b4343a, LawS4343AValid: the walk.
-/
import Derived.Test.YbulkckxoScan3
import Derived.Test.YbulkckxoSeg
import Derived.Laws.AppendOwnNone
namespace Go.Proofs.Ybulkckxo
open Go.RowKit
namespace Sc

theorem ret_str {a b : ByteArray} (h : a = b) : Ending.returned (.string a) = .returned (.string b) := by rw [h]

set_option maxHeartbeats 800000 in
theorem seg_any (p : Int) (w : World) (h0 : 0 ≤ p) (h1 : p ≤ 255) : Calls Yba.prog 9 #[.int .u8 p] w fun e w' => e = .returned (.string (segS p)) ∧ w' = w := by
  go_enter Yba.func9, Yba.ntmps9
  go_wp2
  all_goals
    go_ret
    exact ⟨ret_str (by simp_all [segS]), rfl⟩

theorem Yba.info5 : (Yba.prog.info? 5).map (fun i => (i.zero, i.size, i.bytes)) = some (some (.int .u8 0), 1, 1) := by kernel_rfl

/-- A value that owns something is a slice at the head of a block. -/
theorem own_form {w : World} {B n : Nat} {v : Value} {xs : List Value} (h : w.ownsRow B 5 1 v n xs) (hn : 1 ≤ n) :
    ∃ g cap, v = .slice (some ⟨g, 0, none⟩) n cap ∧ B ≤ g ∧ g < w.heap.size := by
  rcases h.2 with ⟨_, h0⟩ | ⟨g, cap, cur, hv, hb, hg, _⟩
  · omega
  · exact ⟨g, cap, hv, hb, (Array.getElem?_eq_some_iff.1 hg).1⟩

/-- The first byte of the buffer, owned. -/
theorem own_start (w : World) (c : Int) : (w.alloc (.cells #[.int .u8 c] 5)).ownsRow w.heap.size 5 1 (.slice (some ⟨w.heap.size, 0, none⟩) 1 1) 1 [.int .u8 c] :=
  ⟨rfl, .inr ⟨w.heap.size, 1, #[.int .u8 c], rfl, Nat.le_refl _, heap_alloc_new w _, Nat.le_refl _, by decide, rfl, rfl⟩⟩

/-- 'append' onto what the call owns, from a slice that is nil or not. -/
theorem wpList_append_any {w : World} {ops : Array Oper} {rest : List Oper} {o : Oper} {a : Act} {Q : Exit → Act → World → Prop} (hgd : o.guard = none) (s x : Operand) (t : TypeId)
    (ho : o.op = .call { callee := .builtin .append, args := #[s, x], argTypes := #[t, t] })
    (base : Nat) (e : TypeId) (i : TypeInfo) (z : Value) (size bytes : Nat) (ht : Yba.prog.underlying t = some (.slice e)) (hi : Yba.prog.info? e = some i) (hz : i.zero = some z)
    (hsize : i.size = size) (hby : i.bytes = bytes) (hzs : z.cells.size = size) (hsz : 0 < size)
    (v : Value) (n : Nat) (xs : List Value) (hs : a.eval s = v) (hown : w.ownsRow base e size v n xs)
    (ao : Option Addr) (m c : Nat) (news : List Value) (hx : a.eval x = .slice ao m c) (hnone : ao = none → m = 0 ∧ c = 0) (hl : news.length = m * size)
    (hnews : ∀ ad, ao = some ad → ∀ j u, news[j]? = some u → w.cell? (ad.add j) = some u) (h1 : ∀ u ∈ news, u.oneCell' = true)
    (h63 : n + m ≤ maxLen) (hbytes : (n + m) * bytes ≤ 140737488355328) (hbase : base ≤ w.heap.size)
    (h : ∀ v' w', w'.ownsRow base e size v' (n + m) (xs ++ news) → w.grownBy w' v.ownBlock → wpList Yba.prog ops Q rest (a.put o.dst v') w') : wpList Yba.prog ops Q (o :: rest) a w := by
  cases ao with
  | none =>
    obtain ⟨rfl, rfl⟩ := hnone rfl
    have hn0 : news = [] := by simpa using hl
    subst hn0
    refine wpList_append_own_none hgd s x t ho base e i size ht hi v n xs hs hown hx ?_
    exact h v w (by simpa using hown) ⟨rfl, rfl, rfl, Nat.le_refl _, fun _ _ _ => rfl⟩
  | some ad =>
    exact wpList_append_own w hgd s x t ho base e i z size bytes ht hi hz hsize hby hzs hsz v n xs hs hown ad m c news hx hl (hnews ad rfl) h1 h63 hbytes hbase fun v' w' a1 a2 _ => h v' w' a1 a2

theorem below_own {B : Nat} {w wr w' : World} {v : Value} {n : Nat} {xs : List Value} (hb : Below B w wr) (hB : B ≤ wr.heap.size) (ho : wr.ownsRow B 5 1 v n xs) (hg : wr.grownBy w' v.ownBlock) : Below B w w' := by
  refine hb.grown hg hB fun k hk => ?_
  rcases ho.2 with ⟨hv, _⟩ | ⟨g, cap, cur, hv, hgb, _⟩
  · subst hv; cases hk
  · subst hv; cases hk; exact hgb

theorem tail_cells {w : World} {a1 : Option Addr} {z1 : List Int} {len1 : Nat} (h : ∀ ad, a1 = some ad → ∀ j, j < z1.length → w.cell? (ad.add j) = some (.int .u8 (z1.getD j 0))) :
    ∀ w1 : World, Below w.heap.size w w1 → ∀ ad, a1 = some ad → ∀ j u, ((z1.take len1).map (Value.int .u8))[j]? = some u → w1.cell? (ad.add j) = some u := by
  intro w1 hb ad ha j u hu
  rw [List.getElem?_map] at hu
  obtain ⟨z, hz1, rfl⟩ := Option.map_eq_some_iff.1 hu
  obtain ⟨hj, hz2⟩ := List.getElem?_eq_some_iff.1 hz1
  rw [List.length_take] at hj
  have hc := h ad ha j (by omega)
  have e : z1.getD j 0 = z := by rw [← hz2]; simp [List.getD, show j < z1.length by omega]
  rw [e] at hc
  exact (hb.cell (World.block_lt_of_cell? _ _ hc)).trans hc

/-- escapedString on a scanner just laid over a row of the call's own. -/
theorem scan_call (w2 : World) (B g c n : Nat) (xs : List Int) (p : Nat) (q : Int) (hq : q = (p : Int)) (hn : xs.length = n) (h9 : n ≤ 9000) (hp : p ≤ n)
    (hown : w2.ownsRow B 5 1 (.slice (some ⟨g, 0, none⟩) n c) n (xs.map (Value.int .u8))) :
    Calls Yba.prog 6 #[.pointer (some ⟨w2.heap.size, 0, none⟩)] (w2.alloc (.cells #[.slice (some ⟨g, 0, none⟩) n c, .int .i64 q] 26)) fun e w' =>
      e = .returned (.bool (scan xs (xs.length + 1) (p + 1)).1) ∧ St w2.heap.size (w2.alloc (.cells #[.slice (some ⟨g, 0, none⟩) n c, .int .i64 q] 26)) w' ((scan xs (xs.length + 1) (p + 1)).2 : Int) := by
  subst hn hq
  have hg : g < w2.heap.size := by
    rcases hown.2 with ⟨h, _⟩ | ⟨g', cap, cur, hv, _, hg, _⟩
    · cases h
    · cases hv; exact (Array.getElem?_eq_some_iff.1 hg).1
  refine escaped_some w2.heap.size p c g 0 xs _ h9 hp (by rw [World.cell?_alloc_new]; rfl) (by rw [World.cell?_alloc_new]; rfl) (World.frozen?_alloc_new w2 _ _ _) hg fun j hj => ?_
  rw [Nat.zero_add]
  have := (hown.alloc (.cells #[.slice (some ⟨g, 0, none⟩) xs.length c, .int .i64 (p : Int)] 26)).cellAt j (by omega)
  rw [this, List.getElem?_map]
  simp [List.getD, hj]

set_option maxHeartbeats 400000 in
theorem valid_walk (a0 : Option Addr) (len0 cap0 : Nat) (z0 : List Int) (a1 : Option Addr) (len1 cap1 : Nat) (z1 : List Int) (w : World) (hn1 : a1 = none → len1 = 0 ∧ cap1 = 0) (hl1 : len1 ≤ z1.length) (hb1 : ∀ ad, a1 = some ad → ∀ j, j < z1.length → w.cell? (ad.add j) = some (.int .u8 (z1.getD j 0)))
    (hz0 : z0.length = cap0) (hl0 : len0 ≤ cap0) (hb0 : 0 < len0 → ∃ b off, a0 = some ⟨b, off, none⟩ ∧ ∀ j, j < len0 → w.cell? ⟨b, off + j, none⟩ = some (.int .u8 (z0.getD j 0)))
    (hr0 : ∀ j, 0 ≤ z0.getD j 0 ∧ z0.getD j 0 ≤ 255) (h5 : len0 ≤ 512) (h6 : len1 ≤ 512) :
    Calls Yba.prog 4 #[.slice a0 len0 cap0, .slice a1 len1 cap1] w fun e w' => e = .returned (.bool true) ∧ Below w.heap.size w w' := by
  have hd0 : decide ((512 : Int) < (len0 : Int)) = false := decide_eq_false (by omega)
  have hd1 : decide ((512 : Int) < (len1 : Int)) = false := decide_eq_false (by omega)
  obtain ⟨i0, hi, hq0, hq1, hq2⟩ := info_parts Yba.info5
  have HB : Hid (0 < len0 → ∃ b off, a0 = some ⟨b, off, none⟩ ∧ ∀ j, j < len0 → w.cell? ⟨b, off + j, none⟩ = some (.int .u8 (z0.getD j 0))) := hb0
  have HR : Hid (∀ j, 0 ≤ z0.getD j 0 ∧ z0.getD j 0 ≤ 255) := hr0
  have HZ : Hid (z0.length = cap0) := hz0
  have HN : Hid (a1 = none → len1 = 0 ∧ cap1 = 0) := hn1
  have HT : Hid (∀ ad, a1 = some ad → ∀ j, j < z1.length → w.cell? (ad.add j) = some (.int .u8 (z1.getD j 0))) := hb1
  have HL : Hid (len1 ≤ z1.length) := hl1
  clear hb0 hr0 hz0 hn1 hb1 hl1
  go_enter Yba.func4, Yba.ntmps4
  go_wp2
  go_loopw [5, 22] (fun v i wr => ∃ k : Nat, k ≤ len0 ∧ i = .int .i64 k ∧ wr.ownsRow w.heap.size 5 1 v (bufTo z0 k).length ((bufTo z0 k).map (Value.int .u8)) ∧ Below w.heap.size w wr)
    (fun _ i _ => len0 - (intOf i).toNat)
  case atStart => exact ⟨0, Nat.zero_le _, rfl, own_start w 34, (Below.refl _ _).alloc (Nat.le_refl _) _⟩
  case round =>
    obtain ⟨k, hk, rfl, hown, hbel⟩ := hrel
    have hsz := hbel.size
    have hln := bufTo_le z0 k (by omega)
    by_cases hlt : k < len0
    · obtain ⟨b0, off0, ha, hcs⟩ := HB.out (by omega)
      subst ha
      have hcx : wr.cell? ⟨b0, off0 + k, none⟩ = some (.int .u8 (z0.getD k 0)) := (hbel.cell (p := ⟨b0, off0 + k, none⟩) (by exact World.block_lt_of_cell? _ _ (hcs k hlt))).trans (hcs k hlt)
      clear hcs HB
      have hrr := HR.out k
      generalize hcc : z0.getD k 0 = c at hcx hrr
      have HCC : Hid (z0.getD k 0 = c) := hcc
      clear hcc
      obtain ⟨hc0, hc1⟩ := hrr
      have hsl := seg_le c
      go_wp2_with (first | (go_at_call 9; refine (seg_any _ _ hc0 hc1).mono ?_; rintro e w' ⟨rfl, hw⟩; subst hw) | (at_builtin; refine Lib.wpList_append_own_string _ rfl (.tmp 26) (.tmp 28) 22 9 rfl w.heap.size 5 i0 Yba.underlying22 Yba.underlying9 hi hq0 hq1 hq2 _ _ _ rfl hown (segS c) rfl (by unfold maxLen; omega) (by omega) hsz ?_; intro v' w1 hown' hgrow _))
      have hb1 := below_own hbel hsz hown hgrow
      rw [strCells_seg, ← seg_length, ← List.length_append, ← List.map_append, ← HCC.out, ← bufTo_succ z0 k (by rw [HZ.out]; omega)] at hown'
      go_roundw
      case rel => exact ⟨k + 1, by omega, by go_num, hown', hb1⟩
      case measure => simp [intOf]; omega
    · obtain ⟨g, cap, hv, hg1, hg2⟩ := own_form hown hln.1
      subst hv
      have hnw : ∀ w1 : World, Below w.heap.size w w1 → ∀ ad, a1 = some ad → ∀ j u, ((z1.take len1).map (Value.int .u8))[j]? = some u → w1.cell? (ad.add j) = some u := tail_cells HT.out
      have htl : (z1.take len1).length = len1 := by have := HL.out; rw [List.length_take]; omega
      have HX : Hid (∀ w1 : World, Below w.heap.size w w1 → ∀ ad, a1 = some ad → ∀ j u, ((z1.take len1).map (Value.int .u8))[j]? = some u → w1.cell? (ad.add j) = some u) := hnw
      have HY : Hid ((z1.take len1).length = len1) := htl
      clear hnw htl
      go_wp2_with (first | (at_builtin; refine wpList_append_any rfl (.tmp 31) (.tmp 32) 22 rfl w.heap.size 5 i0 (.int .u8 0) 1 1 Yba.underlying22 hi hq0 hq1 hq2 rfl (by decide) _ _ _ rfl (hown.alloc _) (some ⟨wr.heap.size, 0, none⟩) 1 1 [.int .u8 34] rfl (fun h => by cases h) rfl (fun ad h => by cases h; exact cell_one_new _ _ _) (ints_oneCell .u8 [34]) (by unfold maxLen; omega) (by omega) (by simp; omega) ?_; intro v1 w1 hown1 hgrow1; obtain ⟨g1, c1, hv1, hga, hgb⟩ := own_form hown1 (by omega); subst hv1; have hbe1 : Below w.heap.size w w1 := below_own (hbel.alloc hsz _) (by simp; omega) (hown.alloc _) hgrow1; have hsz1 := hbe1.size) | (at_builtin; refine wpList_append_any rfl (.tmp 36) (.tmp 37) 22 rfl w.heap.size 5 i0 (.int .u8 0) 1 1 Yba.underlying22 hi hq0 hq1 hq2 rfl (by decide) _ _ _ rfl hown1 a1 len1 cap1 ((z1.take len1).map (Value.int .u8)) rfl HN.out (by rw [List.length_map, HY.out, Nat.mul_one]) (HX.out _ hbe1) (ints_oneCell .u8 _) (by unfold maxLen; omega) (by omega) hsz1 ?_; intro v2 w2 hown2 hgrow2; obtain ⟨g2, c2, hv2, hgc, hgd⟩ := own_form hown2 (by omega); subst hv2; have hbe2 : Below w.heap.size w w2 := below_own hbe1 hsz1 hown1 hgrow2; have hsz2 := hbe2.size) | fail)
      have hV := valid z0 (z1.take len1) k
      have hlen : (bufTo z0 k ++ [34] ++ z1.take len1).length = (bufTo z0 k).length + 1 + len1 := by rw [List.length_append, HY.out]; simp
      refine (scan_call w2 w.heap.size g2 c2 _ (bufTo z0 k ++ [34] ++ z1.take len1) 0 0 rfl hlen (by omega) (Nat.zero_le _) (by simpa using hown2)).mono ?_
      rintro e w3 ⟨rfl, T⟩
      rw [hV] at T ⊢
      have t1 : w3.cell? ⟨w2.heap.size, 1, none⟩ = some (.int .i64 (((bufTo z0 k).length : Int) + 1)) := by have := T.here; simpa using this
      have tb : Below w.heap.size w w3 := (hbe2.alloc hsz2 _).trans (T.below.mono hsz2)
      clear hV hlen T
      go_wp2
      go_ret
      exact ⟨rfl, tb⟩
end Sc
end Go.Proofs.Ybulkckxo
