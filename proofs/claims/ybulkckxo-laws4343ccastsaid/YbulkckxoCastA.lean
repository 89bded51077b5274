/-
  Seat b4343a, LawS4343CCast: rows of strings; slices.Clone, Index, Contains, zzs4343cin; votable.
-/
import Derived.Test.YbulkckxoRows
import Derived.WalkKit
import Derived.WalkSpells
import Derived.WalkLawsBesides
import Derived.RegionTactic
import Derived.ChangeAlike
import Derived.Deep.QuietTactic
import Derived.BigQuiet
import Derived.Laws.AppendOwnNone
namespace Go.Proofs.Ybulkckxo
open Go.RowKit
namespace Ca

theorem hid {p : Prop} (h : p) : Hid p := h
theorem ret_bool {a b : Bool} (h : a = b) : Ending.returned (.bool a) = .returned (.bool b) := by rw [h]
theorem ret_int {k : IntKind} {a b : Int} (h : a = b) : Ending.returned (.int k a) = .returned (.int k b) := by rw [h]

/-- A row of strings at a slice's address: where there is one, an address with its cells. -/
def Strs (w : World) (a : Option Addr) (ss : List ByteArray) : Prop :=
  0 < ss.length → ∃ b off, a = some ⟨b, off, none⟩ ∧ ∀ j, j < ss.length → w.cell? ⟨b, off + j, none⟩ = some (.string (ss.getD j ByteArray.empty))

theorem Strs.below {w w' : World} {a : Option Addr} {ss : List ByteArray} (h : Strs w a ss) (hb : Below w.heap.size w w') : Strs w' a ss := by
  intro hp
  obtain ⟨b, off, rfl, hc⟩ := h hp
  exact ⟨b, off, rfl, fun j hj => (hb.cell (p := ⟨b, off + j, none⟩) (World.block_lt_of_cell? _ _ (hc j hj))).trans (hc j hj)⟩

def hasB (ss : List ByteArray) (x : ByteArray) : Bool := ss.any fun s => s.toList == x.toList

theorem hasB_take_succ (ss : List ByteArray) (x : ByteArray) (k : Nat) (h : k < ss.length) : hasB (ss.take (k + 1)) x = (hasB (ss.take k) x || ((ss.getD k ByteArray.empty).toList == x.toList)) := by
  unfold hasB
  rw [List.take_succ_eq_append_getElem h, List.any_append]
  simp [List.getD, h]

theorem beq_turn (a b : List UInt8) : (a == b) = (b == a) := by rw [Bool.eq_iff_iff, beq_iff_eq, beq_iff_eq]; exact eq_comm

theorem hasB_yes (ss : List ByteArray) (x : ByteArray) (k : Nat) (h : k < ss.length) (he : ((ss.getD k ByteArray.empty).toList == x.toList) = true) : hasB ss x = true := by
  unfold hasB
  rw [List.any_eq_true]
  exact ⟨ss[k], List.getElem_mem h, by simpa [List.getD, h] using he⟩

theorem zin_any (a : Option Addr) (c : Nat) (ss : List ByteArray) (x : ByteArray) (w : World) (hn : ss.length ≤ 4096) (hs : Strs w a ss) :
    Calls Yba.prog 12 #[.slice a ss.length c, .string x] w fun e w' => e = .returned (.bool (hasB ss x)) ∧ w' = w := by
  have HS := hid hs
  clear hs
  go_enter Yba.func12, Yba.ntmps12
  go_wp2
  go_loop [5] (fun i => ∃ k : Nat, k ≤ ss.length ∧ i = .int .i64 k ∧ Hid (hasB (ss.take k) x = false)) (fun i => ss.length - (intOf i).toNat)
  case atStart => exact ⟨0, Nat.zero_le _, rfl, rfl⟩
  case round =>
    obtain ⟨k, hk, rfl, hno⟩ := hrel
    by_cases hlt : k < ss.length
    · obtain ⟨b, off, ha, hc⟩ := HS.out (by omega)
      subst ha
      have hcx := hc k hlt
      have HSn := hid (hasB_take_succ ss x k hlt)
      have HY := hid (hasB_yes ss x k hlt)
      clear hc HS
      generalize ss.getD k ByteArray.empty = s at hcx HSn HY
      cases he : (s.toList == x.toList)
      · go_wp2
        go_round
        case rel => exact ⟨k + 1, by omega, by go_num, hid (by rw [HSn.out, hno.out, he]; rfl)⟩
        case measure => simp [intOf]; omega
      · go_wp2
        go_ret
        exact ⟨ret_bool (HY.out he).symm, rfl⟩
    · go_wp2
      go_ret
      exact ⟨ret_bool (by have := hno.out; rw [List.take_of_length_le (by omega)] at this; exact this.symm), rfl⟩

/-- slices.Index, as far as Contains looks at it: not negative just where the string is there. -/
theorem index_any (a : Option Addr) (c : Nat) (ss : List ByteArray) (x : ByteArray) (w : World) (hn : ss.length ≤ 4096) (hs : Strs w a ss) :
    Calls Yba.prog 22 #[.slice a ss.length c, .string x] w fun e w' => (∃ r : Int, e = .returned (.int .i64 r) ∧ decide (0 ≤ r) = hasB ss x) ∧ w' = w := by
  have HS := hid hs
  clear hs
  go_enter Yba.func22, Yba.ntmps22
  go_wp2
  go_loop [8] (fun i => ∃ k : Nat, k ≤ ss.length ∧ i = .int .i64 k ∧ Hid (hasB (ss.take k) x = false)) (fun i => ss.length - (intOf i).toNat)
  case atStart => exact ⟨0, Nat.zero_le _, rfl, rfl⟩
  case round =>
    obtain ⟨k, hk, rfl, hno⟩ := hrel
    by_cases hlt : k < ss.length
    · obtain ⟨b, off, ha, hc⟩ := HS.out (by omega)
      subst ha
      have hcx := hc k hlt
      have HSn := hid (hasB_take_succ ss x k hlt)
      have HY := hid (hasB_yes ss x k hlt)
      clear hc HS
      generalize ss.getD k ByteArray.empty = s at hcx HSn HY
      have HT := hid (beq_turn s.toList x.toList)
      cases he : (x.toList == s.toList)
      · go_wp2
        go_round
        case rel => exact ⟨k + 1, by omega, by go_num, hid (by rw [HSn.out, hno.out, HT.out, he]; rfl)⟩
        case measure => simp [intOf]; omega
      · go_wp2
        go_ret
        exact ⟨⟨_, rfl, by rw [HY.out (HT.out.trans he)]; simp⟩, rfl⟩
    · go_wp2
      go_ret
      exact ⟨⟨_, rfl, by have := hno.out; rw [List.take_of_length_le (by omega)] at this; rw [this]; rfl⟩, rfl⟩

theorem contains_any (a : Option Addr) (c : Nat) (ss : List ByteArray) (x : ByteArray) (w : World) (hn : ss.length ≤ 4096) (hs : Strs w a ss) :
    Calls Yba.prog 19 #[.slice a ss.length c, .string x] w fun e w' => e = .returned (.bool (hasB ss x)) ∧ w' = w := by
  have hI := hid (index_any a c ss x w hn hs)
  clear hs
  go_enter Yba.func19, Yba.ntmps19
  go_wp2_with fail
  refine hI.out.mono ?_
  rintro e w' ⟨⟨r, rfl, hr⟩, hw⟩
  subst hw
  go_wp2
  go_ret
  exact ⟨rfl, rfl⟩

theorem votable_any (ob mb vb : Int) (f s : ByteArray) (v : Bool) (w : World) :
    Calls Yba.prog 21 #[.agg #[.int .i64 ob, .string f], .agg #[.int .i64 mb, .int .i64 vb, .string s, .bool v]] w fun e w' => e = .returned (.bool (decide (mb ≤ ob) && decide (vb < ob))) ∧ Below w.heap.size w w' := by
  by_cases h1 : mb ≤ ob
  · by_cases h2 : vb < ob
    · go_enter Yba.func21, Yba.ntmps21
      go_wp2
      go_ret
      exact ⟨ret_bool (by simp [h1, h2]), ((Below.refl _ _).alloc (Nat.le_refl _) _).alloc (by simp) _⟩
    · go_enter Yba.func21, Yba.ntmps21
      go_wp2
      go_ret
      exact ⟨ret_bool (by simp [h2]), ((Below.refl _ _).alloc (Nat.le_refl _) _).alloc (by simp) _⟩
  · go_enter Yba.func21, Yba.ntmps21
    go_wp2
    go_ret
    exact ⟨ret_bool (by simp; omega), ((Below.refl _ _).alloc (Nat.le_refl _) _).alloc (by simp) _⟩

theorem Yba.info9 : (Yba.prog.info? 9).map (fun i => (i.zero, i.size, i.bytes)) = some (some (.string ByteArray.empty), 1, 16) := by kernel_rfl

theorem q33 (w : World) (a : Option Addr) (n c n' c' : Nat) : (binOp .eql 33 (.slice a n c) (.slice none n' c')).run Yba.prog w = .ok (.bool a.isNone) w := Lib.run_eql_slice_nil w _ _ a n c n' c' Yba.underlying33

theorem own_empty9 (w : World) : (w.alloc (.cells #[] 9)).ownsRow w.heap.size 9 1 (.slice (some ⟨w.heap.size, 0, none⟩) 0 0) 0 [] :=
  ⟨rfl, .inr ⟨w.heap.size, 0, #[], rfl, Nat.le_refl _, heap_alloc_new w _, Nat.le_refl _, Nat.zero_le _, rfl, rfl⟩⟩

/-- From an owned row of strings to 'Strs'. -/
theorem strs_own {w : World} {B n : Nat} {v : Value} {ss : List ByteArray} (h : w.ownsRow B 9 1 v n (ss.map Value.string)) : ∃ a c, v = .slice a n c ∧ n = ss.length ∧ Strs w a ss := by
  have hl : ss.length = n := by have := h.1; simpa using this
  rcases h.2 with ⟨hv, h0⟩ | ⟨g, cap, cur, hv, hb, hg, hr⟩
  · exact ⟨none, 0, by rw [hv, h0], hl.symm, fun hp => by omega⟩
  · refine ⟨some ⟨g, 0, none⟩, cap, hv, hl.symm, fun _ => ⟨g, 0, rfl, fun j hj => ?_⟩⟩
    subst hv
    rw [Nat.zero_add, h.cellAt j (by omega), List.getElem?_map]
    simp [List.getD, hj]

theorem strs_oneCell (ss : List ByteArray) : ∀ u ∈ ss.map Value.string, u.oneCell' = true := by
  intro u hu
  obtain ⟨s, _, rfl⟩ := List.mem_map.1 hu
  rfl

/-- What Clone leaves: a slice of the same strings. -/
def Cloned (n : Nat) (ss : List ByteArray) (w : World) (e : Ending) (w' : World) : Prop := (∃ a' c', e = .returned (.slice a' n c') ∧ Strs w' a' ss) ∧ Below w.heap.size w w'

/-- slices.Clone. -/
theorem clone_any (a : Option Addr) (c n : Nat) (ss : List ByteArray) (w : World) (hl : ss.length = n) (hn : n ≤ 4096) (hc : ∀ ad, a = some ad → ∀ j u, (ss.map Value.string)[j]? = some u → w.cell? (ad.add j) = some u) (h0 : a = none → n = 0) :
    Calls Yba.prog 10 #[.slice a n c] w fun e w' => Cloned n ss w e w' := by
  have q := q33
  obtain ⟨i0, hi, hq0, hq1, hq2⟩ := info_parts Yba.info9
  cases a with
  | none =>
    obtain rfl := h0 rfl
    go_enter Yba.func10, Yba.ntmps10
    go_wp2
    go_ret
    exact ⟨⟨none, 0, rfl, fun h => by omega⟩, Below.refl _ _⟩
  | some x =>
    have HC := hid (hc x rfl)
    have HL := hid hl
    clear hc h0 hl
    go_enter Yba.func10, Yba.ntmps10
    go_wp2_with (at_builtin; refine wpList_append_own _ rfl (.tmp 5) (.tmp 6) 33 rfl w.heap.size 9 i0 (.string ByteArray.empty) 1 16 Yba.underlying33 hi hq0 hq1 hq2 rfl (by decide) _ 0 [] rfl (own_empty9 w) x n c (ss.map Value.string) rfl (by rw [List.length_map, HL.out, Nat.mul_one]) (fun j u hu => (World.cell?_alloc_lt w _ (x.add j) (World.block_lt_of_cell? _ _ (HC.out j u hu))).trans (HC.out j u hu)) (strs_oneCell ss) (by unfold maxLen; omega) (by omega) (by simp) ?_; intro v1 w1 hown1 hgrow1 _; rw [Nat.zero_add, List.nil_append] at hown1)
    go_ret
    obtain ⟨a', c', hv, _, hS⟩ := strs_own hown1
    subst hv
    exact ⟨⟨a', c', rfl, hS⟩, ((Below.refl _ _).alloc (Nat.le_refl _) _).grown hgrow1 (by simp) (fun k hk => by cases hk; exact Nat.le_refl _)⟩
end Ca
end Go.Proofs.Ybulkckxo
