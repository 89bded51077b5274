/-
  Seat b4343a, LawS4343CCast: (*Acceptor).cast: the walk.
-/
import Derived.Test.YbulkckxoCastD
namespace Go.Proofs.Ybulkckxo
open Go.RowKit
namespace Ca

theorem Yba.size59 : (Yba.prog.info? 59).map (·.size) = some 6 := by kernel_rfl

theorem effC_one (a a' : Option Addr) (n c n' c' : Nat) : ((effC (.slice a n c) (.slice a' n' c')).all (·.oneCell')) = true := by simp [effC, Value.oneCell']

theorem strs_bound {w W : World} {a : Option Addr} {ss : List ByteArray} (h : Strs w a ss) (H : Strs W a ss) :
    0 < ss.length → ∃ b0 off0, a = some ⟨b0, off0, none⟩ ∧ b0 < w.heap.size ∧ ∀ j, j < ss.length → W.cell? ⟨b0, off0 + j, none⟩ = some (.string (ss.getD j ByteArray.empty)) := by
  intro hp
  obtain ⟨b0, off0, ha, hc⟩ := h hp
  obtain ⟨b1, off1, hb, hd⟩ := H hp
  rw [ha] at hb
  cases hb
  exact ⟨b0, off0, ha, World.block_lt_of_cell? _ _ (hc 0 hp), hd⟩

set_option maxHeartbeats 400000 in
theorem cast_any (A bS bO : Nat) (la ta : Option Addr) (lc tc : Nat) (ls ts : List ByteArray) (i b mb vb : Int) (v s : ByteArray) (vv q : Bool) (x : Option Value) (oo : Option (Int × ByteArray)) (w : World)
    (hq : eq49 b b v true mb vb s vv = q) (hA : Acp w A bS bO la ls.length lc) (hS : MSt w bS i x) (hO : MSt w bO i (opO oo)) (hL : Strs w la ls) (hT : Strs w ta ts) (hn : ls.length ≤ 1024) (hm : ts.length ≤ 1024) :
    Calls Yba.prog 11 #[.pointer (some ⟨A, 0, none⟩), .int .i64 i, stV mb vb s vv, .int .i64 b, .string v, .slice ta ts.length tc] w fun e w' => Casted q bS bO i b v x oo ls ts w e w' := by
  have n49 := fun w => neq49 b b v true mb vb s vv w
  obtain ⟨i0, hi, hq0, hq1, hq2⟩ := info_parts Yba.info69
  simp only [hq] at n49
  have HA := hid hA
  have HS := hid hS
  have HO := hid hO
  have HL := hid hL
  have HT := hid hT
  have lA := hA.ltA
  clear hA hS hO hL hT hq
  go_enter Yba.func11, Yba.ntmps11
  go_upto_if 25 with (fail)
  go_cut [] from 18 (fun wx => R1 q bS bO i b v x oo w wx)
  case first =>
    cases q
    · go_wp2_with fail
      have hb4 := below4 w (oS mb vb s vv) oE (oS b b v true) oE
      refine (keep_any A bS bO la ls.length lc i b b v true oo x _ (HA.out.ex (Ex.below hb4)) (HS.out.at (hb4.block bS HA.out.ltS)) (HO.out.at (hb4.block bO HA.out.ltO))).mono ?_
      intro e w5 hk
      have K := kp_of HA.out.ltS HA.out.ltO hk
      obtain ⟨rfl, _⟩ := hk
      clear hb4
      have HK := hid K
      have k2 := (cells_of K.p2).1
      have k20 : w5.cell? ⟨w.heap.size + 1 + 1, 0, none⟩ = some (.int .i64 b) := k2 0
      have k21 : w5.cell? ⟨w.heap.size + 1 + 1, 1, none⟩ = some (.int .i64 b) := k2 1
      have k22 : w5.cell? ⟨w.heap.size + 1 + 1, 2, none⟩ = some (.string v) := k2 2
      have k23 : w5.cell? ⟨w.heap.size + 1 + 1, 3, none⟩ = some (.bool true) := k2 3
      have k30 : w5.cell? ⟨w.heap.size + 1 + 1 + 1, 0, none⟩ = some (.slice none 0 0) := (cells_of K.p3).1 0
      have f30 := (cells_of K.p3).2 0
      have s3 : w.heap.size + 1 + 1 + 1 < w5.heap.size := by have := K.sz; omega
      clear K k2
      go_wp2
      go_meet
      case rel => exact r1_changed HA.out.ltS HA.out.ltO HK.out
    · go_wp2
      go_meet
      case rel => exact r1_same bS bO i b mb vb v s vv x oo w HS.out HO.out
  case rest =>
    revert wc
    intro wx hcut
    obtain ⟨ca, cn, cc, hC, h3, h1, hS1, hO1, hE⟩ := hcut
    have hAx := HA.out.ex hE
    have lAx : A < wx.heap.size := hAx.ltA
    have a1 := hAx.learners
    have s3 : w.heap.size + 1 + 1 + 1 < wx.heap.size := (Array.getElem?_eq_some_iff.1 h3).1
    have e32 : wx.cell? ⟨w.heap.size + 1 + 1 + 1, 2, none⟩ = some (.slice none 0 0) := (cells_of h3).1 2
    have f32 : wx.frozen? ⟨w.heap.size + 1 + 1 + 1, 2, none⟩ = false := (cells_of h3).2 2
    have HC := hid hC
    have H3 := hid h3
    have H1 := hid h1
    have HS1 := hid hS1
    have HO1 := hid hO1
    have HE := hid hE
    clear hC h3 h1 hS1 hO1 hE hAx
    have HLx : Hid (Strs (wx.alloc (boxM i b v)) la ls) := (HL.out.ex HS.out HO.out HE.out).below ((Below.refl _ _).alloc (Nat.le_refl _) _)
    have HTx : Hid (Strs (wx.alloc (boxM i b v)) ta ts) := (HT.out.ex HS.out HO.out HE.out).below ((Below.refl _ _).alloc (Nat.le_refl _) _)
    have HLb : Hid (0 < ls.length → ∃ b0 off0, la = some ⟨b0, off0, none⟩ ∧ b0 < w.heap.size ∧ ∀ j, j < ls.length → (wx.alloc (boxM i b v)).cell? ⟨b0, off0 + j, none⟩ = some (.string (ls.getD j ByteArray.empty))) := strs_bound HL.out HLx.out
    have HTb : Hid (0 < ts.length → ∃ b0 off0, ta = some ⟨b0, off0, none⟩ ∧ b0 < w.heap.size ∧ ∀ j, j < ts.length → (wx.alloc (boxM i b v)).cell? ⟨b0, off0 + j, none⟩ = some (.string (ts.getD j ByteArray.empty))) := strs_bound HT.out HTx.out
    have s3' : Hid (w.heap.size + 1 + 1 + 1 < (wx.alloc (boxM i b v)).heap.size) := by show _ < _; simp; omega
    have e32' : Hid ((wx.alloc (boxM i b v)).cell? ⟨w.heap.size + 1 + 1 + 1, 2, none⟩ = some (.slice none 0 0)) := (World.cell?_alloc_lt wx _ _ s3).trans e32
    have f32' : Hid ((wx.alloc (boxM i b v)).frozen? ⟨w.heap.size + 1 + 1 + 1, 2, none⟩ = false) := (((Below.refl wx.heap.size wx).alloc (Nat.le_refl _) (boxM i b v)).frozen (p := ⟨w.heap.size + 1 + 1 + 1, 2, none⟩) s3).trans f32
    clear HS HO
    go_upto_region 7 with (fail)
    go_cut [] from 39 (fun wd => R2 (w.heap.size + 3) (wx.heap.size + 1) i b v ca cn cc ls (wx.alloc (boxM i b v)) wd)
    case first =>
      go_region_with (go_at_call 18; refine (sendAll_any la lc ls i b v _ hn (by exact HLx.out)).mono ?_; intro e w7 hk; obtain ⟨⟨g, c, rfl, hown⟩, hbel⟩ := hk; have HOW := hid hown; have HBE := hid hbel; have c7 : w7.cell? ⟨w.heap.size + 1 + 1 + 1, 2, none⟩ = some (.slice none 0 0) := (hbel.cell (p := ⟨w.heap.size + 1 + 1 + 1, 2, none⟩) (by exact s3')).trans (by exact e32'); have f7 : w7.frozen? ⟨w.heap.size + 1 + 1 + 1, 2, none⟩ = false := (hbel.frozen (p := ⟨w.heap.size + 1 + 1 + 1, 2, none⟩) (by exact s3')).trans (by exact f32'); clear hown hbel)
      all_goals
        go_wp2_with fail
        go_meet
        case rel => exact r2_of (W := wx.alloc (boxM i b v)) (by simp) s3'.out ((Below.heap_alloc wx _ _ s3).trans H3.out) HOW.out (below_undrew HBE.out)
    case rest =>
      revert wc
      intro wd hcut
      have hsz : (wx.alloc (boxM i b v)).heap.size = wx.heap.size + 1 := by simp
      have HZ := hid hsz
      clear hsz
      have hst : R2 (w.heap.size + 3) (wx.heap.size + 1) i b v ca cn cc (outL ls (ts.take 0)) (wx.alloc (boxM i b v)) wd := by rw [outL_nil]; exact hcut
      have HST := hid hst
      clear hst hcut
      go_wp2
      go_loopw [49] (fun t wr => ∃ k : Nat, k ≤ ts.length ∧ t = .int .i64 k ∧ R2 (w.heap.size + 3) (wx.heap.size + 1) i b v ca cn cc (outL ls (ts.take k)) (wx.alloc (boxM i b v)) wr) (fun t _ => ts.length - (intOf t).toNat)
      case atStart => exact ⟨0, Nat.zero_le _, rfl, HST.out⟩
      case round =>
        obtain ⟨k, hk, rfl, g, c, g3, gown, gE⟩ := hrel
        have hle := outL_le ls (ts.take k)
        have htk : (ts.take k).length ≤ k := List.length_take_le _ _
        have hsr : wx.heap.size + 1 ≤ wr.heap.size := by have := gE.size; rw [HZ.out] at this; exact this
        have s3r : w.heap.size + 1 + 1 + 1 < wr.heap.size := by omega
        by_cases hlt : k < ts.length
        · obtain ⟨b0, off0, ha, hb0, hct⟩ := HTb.out (by omega)
          subst ha
          have hcx : wr.cell? ⟨b0, off0 + k, none⟩ = some (.string (ts.getD k ByteArray.empty)) := (gE.cell (p := ⟨b0, off0 + k, none⟩) (by rw [HZ.out]; show b0 < _; omega) (by show b0 ≠ _; omega) (by show b0 ≠ _; omega)).trans (hct k hlt)
          have a1r : wr.cell? ⟨A, 1, none⟩ = some (.slice la ls.length lc) := (gE.cell (p := ⟨A, 1, none⟩) (by rw [HZ.out]; show A < _; omega) (by show A ≠ _; omega) (by show A ≠ _; omega)).trans ((World.cell?_alloc_lt wx _ ⟨A, 1, none⟩ lAx).trans a1)
          have SL : Hid (Strs wr la ls) := fun hp => by
            obtain ⟨b1, off1, hb, hl1, hc1⟩ := HLb.out hp
            exact ⟨b1, off1, hb, fun j hj => (gE.cell (p := ⟨b1, off1 + j, none⟩) (by rw [HZ.out]; show b1 < _; omega) (by show b1 ≠ _; omega) (by show b1 ≠ _; omega)).trans (hc1 j hj)⟩
          have e2 : wr.cell? ⟨w.heap.size + 1 + 1 + 1, 2, none⟩ = some (.slice (some ⟨g, 0, none⟩) (outL ls (ts.take k)).length c) := (cells_of g3).1 2
          have f2 : wr.frozen? ⟨w.heap.size + 1 + 1 + 1, 2, none⟩ = false := (cells_of g3).2 2
          have hmm : ∀ j, wr.cell? ⟨wx.heap.size, j, none⟩ = (wx.alloc (boxM i b v)).cell? ⟨wx.heap.size, j, none⟩ := fun j => gE.cell (p := ⟨wx.heap.size, j, none⟩) (by rw [HZ.out]; show wx.heap.size < _; omega) (by show wx.heap.size ≠ _; omega) (by show wx.heap.size ≠ _; omega)
          have m0 : wr.cell? ⟨wx.heap.size, 0, none⟩ = some (.string ⟨#[50, 98]⟩) := by rw [hmm, World.cell?_alloc_new]; rfl
          have m1 : wr.cell? ⟨wx.heap.size, 1, none⟩ = some (.int .i64 i) := by rw [hmm, World.cell?_alloc_new]; rfl
          have m2 : wr.cell? ⟨wx.heap.size, 2, none⟩ = some (.int .i64 b) := by rw [hmm, World.cell?_alloc_new]; rfl
          have m3 : wr.cell? ⟨wx.heap.size, 3, none⟩ = some (.int .i64 0) := by rw [hmm, World.cell?_alloc_new]; rfl
          have m4 : wr.cell? ⟨wx.heap.size, 4, none⟩ = some (.string ⟨#[]⟩) := by rw [hmm, World.cell?_alloc_new]; rfl
          have m5 : wr.cell? ⟨wx.heap.size, 5, none⟩ = some (.bool false) := by rw [hmm, World.cell?_alloc_new]; rfl
          have m6 : wr.cell? ⟨wx.heap.size, 6, none⟩ = some (.string v) := by rw [hmm, World.cell?_alloc_new]; rfl
          have m7 : wr.cell? ⟨wx.heap.size, 7, none⟩ = some (.bool false) := by rw [hmm, World.cell?_alloc_new]; rfl
          have m8 : wr.cell? ⟨wx.heap.size, 8, none⟩ = some (.int .i64 0) := by rw [hmm, World.cell?_alloc_new]; rfl
          have HNo := hid (outL_no ls ts k hlt)
          have HYes := hid (outL_yes ls ts k hlt)
          have HG3 := hid g3
          have HGE := hid gE
          have HOwn := hid gown
          clear hct hmm g3 gE gown HTb HLb e32 f32 a1
          generalize ts.getD k ByteArray.empty = t at hcx HNo HYes
          cases hh : hasB ls t
          · obtain ⟨L, hL⟩ : ∃ L, L = outL ls (ts.take k) := ⟨_, rfl⟩
            rw [← hL] at hle HNo HYes HG3 HOwn e2
            have HL1 := hid hL
            clear hL
            go_wp2_with (first | (go_at_call 19; refine (contains_any la lc ls t _ (by omega) (by exact SL.out)).mono ?_; rintro e w' ⟨rfl, hw⟩; have hw2 := hw.symm; subst hw2) | (at_builtin; refine wpList_append_own _ rfl (.tmp 62) (.tmp 66) 54 rfl (wx.heap.size + 1) 69 i0 _ 10 112 Yba.underlying54 hi hq0 hq1 hq2 rfl (by decide) _ _ _ rfl (HOwn.out.alloc _) ⟨wr.heap.size, 0, none⟩ 1 1 (sendL i b v t) rfl rfl (fun j u hj => cell_new (sendL i b v t) 69 j u hj) (sendL_one i b v t) (by unfold maxLen; omega) (by omega) (by simp; omega) ?_; intro v8 w8 hown8 hgrow8 _; obtain ⟨g', c', hv8⟩ := own_form69 hown8 (by omega); subst hv8; have HR := r2_step (p3 := w.heap.size + 3) (ca := ca) (cn := cn) (cc := cc) (L := L) (W := wx.alloc (boxM i b v)) (by omega) hsr HZ.out.symm HG3.out HOwn.out HGE.out hown8 hgrow8; have e8 : w8.cell? ⟨w.heap.size + 1 + 1 + 1, 2, none⟩ = some (.slice (some ⟨g, 0, none⟩) L.length c) := (cells_of (HR.1.trans HG3.out)).1 2; have f8 : w8.frozen? ⟨w.heap.size + 1 + 1 + 1, 2, none⟩ = false := (cells_of (HR.1.trans HG3.out)).2 2; have HRR := hid HR.2; clear HR hown8 hgrow8))
            go_roundw
            case rel => exact ⟨k + 1, by omega, by go_num, by rw [HYes.out hh]; exact HRR.out⟩
            case measure => simp [intOf]; omega
          · go_wp2_with (go_at_call 19; refine (contains_any la lc ls t _ (by omega) (by exact SL.out)).mono ?_; rintro e w' ⟨rfl, hw⟩; have hw2 := hw.symm; subst hw2)
            go_roundw
            case rel => exact ⟨k + 1, by omega, by go_num, by rw [HNo.out hh]; exact ⟨g, c, HG3.out, HOwn.out, HGE.out⟩⟩
            case measure => simp [intOf]; omega
        · have hke : ts.take k = ts := List.take_of_length_le (by omega)
          rw [hke] at g3 gown
          have h1r : wr.heap[w.heap.size + 1]? = some (.cells (effC (.slice none 0 0) (.slice none 0 0)) 59 (0, 0)) := by
            rw [gE.block _ (by rw [HZ.out]; omega) (by omega) (by omega), Below.heap_alloc wx _ _ (by omega)]
            exact H1.out
          have hF := hid (casted_of HA.out.ltS HA.out.ltO HC.out (by omega) HS1.out HO1.out HE.out gown gE)
          have HR := hid (setRow_heap wr (w.heap.size + 1) _ (effC (.slice ca cn cc) (.slice (some ⟨g, 0, none⟩) (outL ls ts).length c)) 59 (0, 0) h1r)
          have H1r := hid h1r
          have HG3 := hid g3
          clear h1r g3 gown gE hke
          go_wp2_with (first | (refine wpList_load_row rfl 59 (.tmp 14) rfl (w.heap.size + 1 + 1 + 1) rfl 59 _ (0, 0) _ HG3.out Yba.underlying59 rfl (by exact Yba.size59) ?_) | (refine wpList_store_row rfl 59 (.tmp 12) (.tmp 70) rfl (w.heap.size + 1) _ rfl rfl 59 _ H1r.out (by exact Yba.size59) rfl (effC_one _ _ _ _ _ _) ?_))
          exact bodyPost_ret (v := .agg (effC (.slice ca cn cc) (.slice (some ⟨g, 0, none⟩) (outL ls ts).length c))) (results_cell_row Yba.results11 _ _ (w.heap.size + 1) 59 _ (0, 0) _ rfl HR.out Yba.underlying59 rfl (by exact Yba.size59)) rfl hF.out
end Ca
end Go.Proofs.Ybulkckxo
