/-
  Seat b4343a, LawS4343CCast: the law's walk, the wanted strings.
-/
import Derived.Test.YbulkckxoCastP
namespace Go.Proofs.Ybulkckxo
open Go.RowKit
namespace Ca

theorem own_ge {w : World} {B n : Nat} {e : TypeId} {size : Nat} {v : Value} {xs : List Value} (h : w.ownsRow B e size v n xs) (k : Nat) (hk : v.ownBlock = some k) : B ≤ k := by
  rcases h.2 with ⟨rfl, _⟩ | ⟨g, cap, cur, rfl, hb, _⟩
  · cases hk
  · cases hk; exact hb

/-- One more wanted string. -/
theorem want_step {wb wr w8 : World} {s v8 : Value} {L : List ByteArray} {t : ByteArray} {o : Obj} (hb : Below wb.heap.size wb wr) (own : wr.ownsRow wb.heap.size 9 1 s L.length (L.map Value.string))
    (own8 : w8.ownsRow wb.heap.size 9 1 v8 (L.length + 1) (L.map Value.string ++ [.string t])) (hg : (wr.alloc o).grownBy w8 s.ownBlock) :
    w8.ownsRow wb.heap.size 9 1 v8 (L ++ [t]).length ((L ++ [t]).map Value.string) ∧ Below wb.heap.size wb w8 := by
  constructor
  · rw [List.map_append, List.length_append]; exact own8
  · exact (hb.alloc hb.size o).grown hg (by have := hb.size; simp; omega) (own_ge own)

theorem one9 (t : ByteArray) : ∀ u ∈ [Value.string t], u.oneCell' = true := by
  intro u hu
  rw [List.mem_singleton] at hu
  subst hu
  rfl

set_option maxRecDepth 100000 in
set_option maxHeartbeats 1000000 in
theorem partF2 (a0 a1 : Option Addr) (c0 c1 : Nat) (ls ts : List ByteArray) (E M V : Nat) (i b : Int) (v : ByteArray) (ca : Option Addr) (cn cc g c : Nat) (val : Value) (w wb wa : World) (hn : ls.length ≤ 1024) (hm : ts.length ≤ 1024) (O : Out E M (outL ls ts) i b v ca cn cc g c w wb) (hV : wb.heap[V]? = some (boxM i b v)) (h0 : Strs wb a0 ls) (h1 : Strs wb a1 ts) (own : wa.ownsRow wb.heap.size 9 1 val ls.length (ls.map Value.string)) (hb : Below wb.heap.size wb wa)
    (u2 u3 u4 u5 u6 u7 u8 u9 u10 u11 u12 u13 u14 u15 u16 u17 u18 u19 u20 u21 u22 u23 u24 u25 u26 u27 u28 u29 u31 u32 u33 u34 u35 u36 u37 u38 u41 u42 u43 u44 u45 u46 u47 u48 u49 u50 u51 u52 u53 u54 u55 u56 u57 u58 u59 u60 u61 u62 u63 u64 u65 u66 u67 u68 u69 u70 u71 u72 u73 u74 u75 u76 u77 u78 u79 u80 u81 u82 u83 u84 u85 u86 u87 u88 u89 u90 u91 u92 u93 u94 u95 u96 u97 u98 u99 u100 u101 u102 u103 u104 u105 u106 u107 u108 u109 u110 u111 u112 u113 u114 u115 u116 u117 u118 u119 u120 u121 u122 u123 u124 u125 u126 u127 u128 u129 u130 u131 u132 u133 u134 u135 u136 u137 u138 u139 u140 u141 u142 u143 u144 u145 u146 u147 u148 u149 u150 u151 u152 u153 u154 u155 u156 u157 u158 u159 u160 u161 u162 u163 u164 u165 u166 u167 u168 u169 u170 u171 u172 u173 u174 u175 u176 u177 u178 u179 u180 u181 u182 u183 u184 u185 u186 u187 u188 u189 u190 u191 u192 u193 u194 u195 u196 u197 u198 u199 u200 u201 u202 u203 u204 u205 u206 u207 u208 u209 u210 u211 u212 u213 u214 u215 u216 u217 u218 u219 u220 u221 u222 u223 u224 u225 u226 u227 u228 u229 u230 u231 u232 u233 u234 u235 u236 u237 u238 u239 u240 u241 u242 u243 u244 u245 u246 u247 u248 u249 u250 u251 u252 u253 u254 u255 u256 u257 u258 u259 u260 u261 u262 u263 u264 u265 u266 u267 u268 u269 u270 u271 u272 u273 u274 u275 u276 u277 u278 u279 u280 u281 u282 u283 u284 u285 u286 u287 u288 u289 u290 u291 u292 u293 u294 u295 u296 u297 u298 u299 u300 u301 u302 u303 u304 u305 u306 u307 u308 u309 u310 u311 u312 u313 u314 u315 u316 u317 : Value) :
    Code.wp Yba.prog (tailS 23 (Yba.f5.body.getD .skip)) (bodyPost Yba.prog Yba.f5 fun e w' => e = .returned (.bool true) ∧ Below w.heap.size w w') ⟨#[.slice a0 ls.length c0, .slice a1 ts.length c1, u2, u3, u4, u5, u6, u7, u8, u9, u10, u11, u12, u13, u14, u15, u16, u17, u18, u19, u20, u21, u22, u23, u24, u25, u26, u27, u28, u29, .pointer (some ⟨E, 0, none⟩), u31, u32, u33, u34, u35, u36, u37, u38, .pointer (some ⟨V, 0, none⟩), val, u41, u42, u43, u44, u45, u46, u47, u48, u49, u50, u51, u52, u53, u54, u55, u56, u57, u58, u59, u60, u61, u62, u63, u64, u65, u66, u67, u68, u69, u70, u71, u72, u73, u74, u75, u76, u77, u78, u79, u80, u81, u82, u83, u84, u85, u86, u87, u88, u89, u90, u91, u92, u93, u94, u95, u96, u97, u98, u99, u100, u101, u102, u103, u104, u105, u106, u107, u108, u109, u110, u111, u112, u113, u114, u115, u116, u117, u118, u119, u120, u121, u122, u123, u124, u125, u126, u127, u128, u129, u130, u131, u132, u133, u134, u135, u136, u137, u138, u139, u140, u141, u142, u143, u144, u145, u146, u147, u148, u149, u150, u151, u152, u153, u154, u155, u156, u157, u158, u159, u160, u161, u162, u163, u164, u165, u166, u167, u168, u169, u170, u171, u172, u173, u174, u175, u176, u177, u178, u179, u180, u181, u182, u183, u184, u185, u186, u187, u188, u189, u190, u191, u192, u193, u194, u195, u196, u197, u198, u199, u200, u201, u202, u203, u204, u205, u206, u207, u208, u209, u210, u211, u212, u213, u214, u215, u216, u217, u218, u219, u220, u221, u222, u223, u224, u225, u226, u227, u228, u229, u230, u231, u232, u233, u234, u235, u236, u237, u238, u239, u240, u241, u242, u243, u244, u245, u246, u247, u248, u249, u250, u251, u252, u253, u254, u255, u256, u257, u258, u259, u260, u261, u262, u263, u264, u265, u266, u267, u268, u269, u270, u271, u272, u273, u274, u275, u276, u277, u278, u279, u280, u281, u282, u283, u284, u285, u286, u287, u288, u289, u290, u291, u292, u293, u294, u295, u296, u297, u298, u299, u300, u301, u302, u303, u304, u305, u306, u307, u308, u309, u310, u311, u312, u313, u314, u315, u316, u317], []⟩ wa := by
  conv => arg 2; whnf
  refine seam1 ?_
  intro K hK
  obtain ⟨i0, hi, hq0, hq1, hq2⟩ := info_parts Yba.info9
  have HO := hid O
  have HV := hid hV
  have H0 := hid h0
  have H1 := hid h1
  have HW : Hid (wa.ownsRow wb.heap.size 9 1 val (outL ls (ts.take 0)).length ((outL ls (ts.take 0)).map Value.string)) := by rw [outL_nil]; exact own
  have HB := hid hb
  clear O hV h0 h1 own hb
  go_wp2
  go_loopw [40, 42] (fun s t wr => ∃ k : Nat, k ≤ ts.length ∧ t = .int .i64 k ∧ wr.ownsRow wb.heap.size 9 1 s (outL ls (ts.take k)).length ((outL ls (ts.take k)).map Value.string) ∧ Below wb.heap.size wb wr) (fun _ t _ => ts.length - (intOf t).toNat)
  case atStart => exact ⟨0, Nat.zero_le _, rfl, HW.out, HB.out⟩
  case round =>
    obtain ⟨k, hk, rfl, own, hb⟩ := hrel
    by_cases hlt : k < ts.length
    · have SL : Hid (Strs wr a0 ls) := H0.out.below hb
      obtain ⟨b1, off1, ha, hc⟩ := (H1.out.below hb) (by omega)
      subst ha
      have hcx := hc k hlt
      have lb : b1 < wr.heap.size := World.block_lt_of_cell? _ _ hcx
      have hle := outL_le ls (ts.take k)
      have htk : (ts.take k).length ≤ k := List.length_take_le _ _
      have hsz := hb.size
      have HNo := hid (outL_no ls ts k hlt)
      have HYes := hid (outL_yes ls ts k hlt)
      have HOwn := hid own
      have HBe := hid hb
      clear hc own hb HW HB
      generalize ts.getD k ByteArray.empty = t at hcx HNo HYes
      cases hh : hasB ls t
      · obtain ⟨L, hL⟩ : ∃ L, L = outL ls (ts.take k) := ⟨_, rfl⟩
        rw [← hL] at hle HNo HYes HOwn
        clear hL
        go_wp2_with (first | (go_at_call 12; refine (zin_any a0 c0 ls t _ (by omega) (by exact SL.out)).mono ?_; rintro e w' ⟨rfl, hw⟩; have hw2 := hw.symm; subst hw2) | (at_builtin; refine wpList_append_own _ rfl (.tmp 264) (.tmp 269) 33 rfl wb.heap.size 9 i0 (.string ByteArray.empty) 1 16 Yba.underlying33 hi hq0 hq1 hq2 rfl (by decide) _ _ _ rfl (HOwn.out.alloc _) ⟨wr.heap.size, 0, none⟩ 1 1 [.string t] rfl rfl (fun j u hj => cell_new [.string t] 9 j u hj) (one9 t) (by unfold maxLen; omega) (by omega) (by simp; omega) ?_; intro v8 w8 hown8 hgrow8 _; have HR := hid (want_step HBe.out HOwn.out hown8 hgrow8); clear hown8 hgrow8))
        go_roundw
        case rel => exact ⟨k + 1, by omega, by go_num, by rw [HYes.out hh]; exact HR.out.1, HR.out.2⟩
        case measure => simp [intOf]; omega
      · go_wp2_with (go_at_call 12; refine (zin_any a0 c0 ls t _ (by omega) (by exact SL.out)).mono ?_; rintro e w' ⟨rfl, hw⟩; have hw2 := hw.symm; subst hw2)
        go_roundw
        case rel => exact ⟨k + 1, by omega, by go_num, by rw [HNo.out hh]; exact HOwn.out, HBe.out⟩
        case measure => simp [intOf]; omega
    · have hke : ts.take k = ts := List.take_of_length_le (by omega)
      rw [hke] at own
      obtain ⟨ua, uc, hu, _, hS⟩ := strs_own own
      subst hu
      have hle := outL_le ls ts
      have HF : Hid (Fn E M V (outL ls ts) i b v ca cn cc g c ua w wr) := ⟨HO.out.grow hb, (hb.block V (Array.getElem?_eq_some_iff.1 HV.out).1).trans HV.out, hS⟩
      clear own hb hS hke
      go_wp2
      exact hK.out _ _ (partG1 E M V (outL ls ts) i b v ca cn cc g c ua uc w wr (by omega) HF.out _ _ _ _ _ _ _ _ _ _ _ _ _ _ _ _ _ _ _ _ _ _ _ _ _ _ _ _ _ _ _ _ _ _ _ _ _ _ _ _ _ _ _ _ _ _ _ _ _ _ _ _ _ _ _ _ _ _ _ _ _ _ _ _ _ _ _ _ _ _ _ _ _ _ _ _ _ _ _ _ _ _ _ _ _ _ _ _ _ _ _ _ _ _ _ _ _ _ _ _ _ _ _ _ _ _ _ _ _ _ _ _ _ _ _ _ _ _ _ _ _ _ _ _ _ _ _ _ _ _ _ _ _ _ _ _ _ _ _ _ _ _ _ _ _ _ _ _ _ _ _ _ _ _ _ _ _ _ _ _ _ _ _ _ _ _ _ _ _ _ _ _ _ _ _ _ _ _ _ _ _ _ _ _ _ _ _ _ _ _ _ _ _ _ _ _ _ _ _ _ _ _ _ _ _ _ _ _ _ _ _ _ _ _ _ _ _ _ _ _ _ _ _ _ _ _ _ _ _ _ _ _ _ _ _ _ _ _ _ _ _ _ _ _ _ _ _ _ _ _ _ _ _ _ _ _ _ _ _ _ _ _ _ _ _ _ _ _ _ _ _ _ _ _ _ _ _ _ _ _ _ _ _ _ _ _ _ _ _ _ _ _ _ _ _ _ _ _ _ _ _ _ _ _ _ _ _ _ _ _ _ _ _ _ _)

theorem own_nil9 (w : World) (B : Nat) : w.ownsRow B 9 1 (.slice none 0 0) 0 [] := ⟨rfl, .inl ⟨rfl, rfl⟩⟩
theorem take_snoc (ls : List ByteArray) (k : Nat) (hk : k < ls.length) : ls.take (k + 1) = ls.take k ++ [ls.getD k ByteArray.empty] := by
  rw [List.take_succ_eq_append_getElem hk]
  simp [List.getD, hk]

set_option maxRecDepth 100000 in
set_option maxHeartbeats 1000000 in
theorem partF1 (a0 a1 : Option Addr) (c0 c1 : Nat) (ls ts : List ByteArray) (E M V : Nat) (i b : Int) (v : ByteArray) (ca : Option Addr) (cn cc g c : Nat) (w wa : World) (hn : ls.length ≤ 1024) (hm : ts.length ≤ 1024) (O : Out E M (outL ls ts) i b v ca cn cc g c w wa) (hV : wa.heap[V]? = some (boxM i b v)) (h0 : Strs wa a0 ls) (h1 : Strs wa a1 ts)
    (u2 u3 u4 u5 u6 u7 u8 u9 u10 u11 u12 u13 u14 u15 u16 u17 u18 u19 u20 u21 u22 u23 u24 u25 u26 u27 u28 u29 u31 u32 u33 u34 u35 u36 u37 u38 u40 u41 u42 u43 u44 u45 u46 u47 u48 u49 u50 u51 u52 u53 u54 u55 u56 u57 u58 u59 u60 u61 u62 u63 u64 u65 u66 u67 u68 u69 u70 u71 u72 u73 u74 u75 u76 u77 u78 u79 u80 u81 u82 u83 u84 u85 u86 u87 u88 u89 u90 u91 u92 u93 u94 u95 u96 u97 u98 u99 u100 u101 u102 u103 u104 u105 u106 u107 u108 u109 u110 u111 u112 u113 u114 u115 u116 u117 u118 u119 u120 u121 u122 u123 u124 u125 u126 u127 u128 u129 u130 u131 u132 u133 u134 u135 u136 u137 u138 u139 u140 u141 u142 u143 u144 u145 u146 u147 u148 u149 u150 u151 u152 u153 u154 u155 u156 u157 u158 u159 u160 u161 u162 u163 u164 u165 u166 u167 u168 u169 u170 u171 u172 u173 u174 u175 u176 u177 u178 u179 u180 u181 u182 u183 u184 u185 u186 u187 u188 u189 u190 u191 u192 u193 u194 u195 u196 u197 u198 u199 u200 u201 u202 u203 u204 u205 u206 u207 u208 u209 u210 u211 u212 u213 u214 u215 u216 u217 u218 u219 u220 u221 u222 u223 u224 u225 u226 u227 u228 u229 u230 u231 u232 u233 u234 u235 u236 u237 u238 u239 u240 u241 u242 u243 u244 u245 u246 u247 u248 u249 u250 u251 u252 u253 u254 u255 u256 u257 u258 u259 u260 u261 u262 u263 u264 u265 u266 u267 u268 u269 u270 u271 u272 u273 u274 u275 u276 u277 u278 u279 u280 u281 u282 u283 u284 u285 u286 u287 u288 u289 u290 u291 u292 u293 u294 u295 u296 u297 u298 u299 u300 u301 u302 u303 u304 u305 u306 u307 u308 u309 u310 u311 u312 u313 u314 u315 u316 u317 : Value) :
    Code.wp Yba.prog (tailS 21 (Yba.f5.body.getD .skip)) (bodyPost Yba.prog Yba.f5 fun e w' => e = .returned (.bool true) ∧ Below w.heap.size w w') ⟨#[.slice a0 ls.length c0, .slice a1 ts.length c1, u2, u3, u4, u5, u6, u7, u8, u9, u10, u11, u12, u13, u14, u15, u16, u17, u18, u19, u20, u21, u22, u23, u24, u25, u26, u27, u28, u29, .pointer (some ⟨E, 0, none⟩), u31, u32, u33, u34, u35, u36, u37, u38, .pointer (some ⟨V, 0, none⟩), u40, u41, u42, u43, u44, u45, u46, u47, u48, u49, u50, u51, u52, u53, u54, u55, u56, u57, u58, u59, u60, u61, u62, u63, u64, u65, u66, u67, u68, u69, u70, u71, u72, u73, u74, u75, u76, u77, u78, u79, u80, u81, u82, u83, u84, u85, u86, u87, u88, u89, u90, u91, u92, u93, u94, u95, u96, u97, u98, u99, u100, u101, u102, u103, u104, u105, u106, u107, u108, u109, u110, u111, u112, u113, u114, u115, u116, u117, u118, u119, u120, u121, u122, u123, u124, u125, u126, u127, u128, u129, u130, u131, u132, u133, u134, u135, u136, u137, u138, u139, u140, u141, u142, u143, u144, u145, u146, u147, u148, u149, u150, u151, u152, u153, u154, u155, u156, u157, u158, u159, u160, u161, u162, u163, u164, u165, u166, u167, u168, u169, u170, u171, u172, u173, u174, u175, u176, u177, u178, u179, u180, u181, u182, u183, u184, u185, u186, u187, u188, u189, u190, u191, u192, u193, u194, u195, u196, u197, u198, u199, u200, u201, u202, u203, u204, u205, u206, u207, u208, u209, u210, u211, u212, u213, u214, u215, u216, u217, u218, u219, u220, u221, u222, u223, u224, u225, u226, u227, u228, u229, u230, u231, u232, u233, u234, u235, u236, u237, u238, u239, u240, u241, u242, u243, u244, u245, u246, u247, u248, u249, u250, u251, u252, u253, u254, u255, u256, u257, u258, u259, u260, u261, u262, u263, u264, u265, u266, u267, u268, u269, u270, u271, u272, u273, u274, u275, u276, u277, u278, u279, u280, u281, u282, u283, u284, u285, u286, u287, u288, u289, u290, u291, u292, u293, u294, u295, u296, u297, u298, u299, u300, u301, u302, u303, u304, u305, u306, u307, u308, u309, u310, u311, u312, u313, u314, u315, u316, u317], []⟩ wa := by
  conv => arg 2; whnf
  refine seam2 ?_
  intro K hK K1 hK1
  obtain ⟨i0, hi, hq0, hq1, hq2⟩ := info_parts Yba.info9
  have HO := hid O
  have HV := hid hV
  have H0 := hid h0
  have H1 := hid h1
  clear O hV h0 h1
  go_wp2
  go_loopw [40, 41] (fun s t wr => ∃ k : Nat, k ≤ ls.length ∧ t = .int .i64 k ∧ wr.ownsRow wa.heap.size 9 1 s (ls.take k).length ((ls.take k).map Value.string) ∧ Below wa.heap.size wa wr) (fun _ t _ => ls.length - (intOf t).toNat)
  case atStart => exact ⟨0, Nat.zero_le _, rfl, own_nil9 _ _, Below.refl _ _⟩
  case round =>
    obtain ⟨k, hk, rfl, own, hb⟩ := hrel
    by_cases hlt : k < ls.length
    · obtain ⟨b1, off1, ha, hc⟩ := (H0.out.below hb) (by omega)
      subst ha
      have hcx := hc k hlt
      have lb : b1 < wr.heap.size := World.block_lt_of_cell? _ _ hcx
      have htk : (ls.take k).length ≤ k := List.length_take_le _ _
      have hsz := hb.size
      have HS := hid (take_snoc ls k hlt)
      have HOwn := hid own
      have HBe := hid hb
      clear hc own hb
      generalize ls.getD k ByteArray.empty = t at hcx HS
      obtain ⟨L, hL⟩ : ∃ L, L = ls.take k := ⟨_, rfl⟩
      rw [← hL] at htk HS HOwn
      clear hL
      go_wp2_with (at_builtin; refine wpList_append_own _ rfl (.tmp 244) (.tmp 249) 33 rfl wa.heap.size 9 i0 (.string ByteArray.empty) 1 16 Yba.underlying33 hi hq0 hq1 hq2 rfl (by decide) _ _ _ rfl (HOwn.out.alloc _) ⟨wr.heap.size, 0, none⟩ 1 1 [.string t] rfl rfl (fun j u hj => cell_new [.string t] 9 j u hj) (one9 t) (by unfold maxLen; omega) (by omega) (by simp; omega) ?_; intro v8 w8 hown8 hgrow8 _; have HR := hid (want_step HBe.out HOwn.out hown8 hgrow8); clear hown8 hgrow8)
      go_roundw
      case rel => exact ⟨k + 1, by omega, by go_num, by rw [HS.out]; exact HR.out.1, HR.out.2⟩
      case measure => simp [intOf]; omega
    · have hke : ls.take k = ls := List.take_of_length_le (by omega)
      rw [hke] at own
      have HOwn := hid own
      have HBe := hid hb
      clear own hb hke
      go_wp2
      exact hK.out _ _ (partF2 a0 a1 c0 c1 ls ts E M V i b v ca cn cc g c _ w wa wr hn hm HO.out HV.out H0.out H1.out HOwn.out HBe.out _ _ _ _ _ _ _ _ _ _ _ _ _ _ _ _ _ _ _ _ _ _ _ _ _ _ _ _ _ _ _ _ _ _ _ _ _ _ _ _ _ _ _ _ _ _ _ _ _ _ _ _ _ _ _ _ _ _ _ _ _ _ _ _ _ _ _ _ _ _ _ _ _ _ _ _ _ _ _ _ _ _ _ _ _ _ _ _ _ _ _ _ _ _ _ _ _ _ _ _ _ _ _ _ _ _ _ _ _ _ _ _ _ _ _ _ _ _ _ _ _ _ _ _ _ _ _ _ _ _ _ _ _ _ _ _ _ _ _ _ _ _ _ _ _ _ _ _ _ _ _ _ _ _ _ _ _ _ _ _ _ _ _ _ _ _ _ _ _ _ _ _ _ _ _ _ _ _ _ _ _ _ _ _ _ _ _ _ _ _ _ _ _ _ _ _ _ _ _ _ _ _ _ _ _ _ _ _ _ _ _ _ _ _ _ _ _ _ _ _ _ _ _ _ _ _ _ _ _ _ _ _ _ _ _ _ _ _ _ _ _ _ _ _ _ _ _ _ _ _ _ _ _ _ _ _ _ _ _ _ _ _ _ _ _ _ _ _ _ _ _ _ _ _ _ _ _ _ _ _ _ _ _ _ _ _ _ _ _ _ _ _ _ _ _ _ _ _ _ _ _ _ _ _ _ _ _ _ _ _ _ _ _)

set_option maxRecDepth 100000 in
set_option maxHeartbeats 1000000 in
theorem partF0 (a0 a1 : Option Addr) (c0 c1 : Nat) (ls ts : List ByteArray) (E M : Nat) (i b : Int) (v : ByteArray) (ca : Option Addr) (cn cc g c : Nat) (w wa : World) (hn : ls.length ≤ 1024) (hm : ts.length ≤ 1024) (O : Out E M (outL ls ts) i b v ca cn cc g c w wa) (h0 : Strs wa a0 ls) (h1 : Strs wa a1 ts)
    (u2 u3 u4 u5 u6 u7 u8 u9 u10 u11 u12 u13 u14 u15 u16 u17 u18 u19 u20 u21 u25 u26 u27 u28 u29 u31 u32 u33 u34 u35 u36 u37 u38 u39 u40 u41 u42 u43 u44 u45 u46 u47 u48 u49 u50 u51 u52 u53 u54 u55 u56 u57 u58 u59 u60 u61 u62 u63 u64 u65 u66 u67 u68 u69 u70 u71 u72 u73 u74 u75 u76 u77 u78 u79 u80 u81 u82 u83 u84 u85 u86 u87 u88 u89 u90 u91 u92 u93 u94 u95 u96 u97 u98 u99 u100 u101 u102 u103 u104 u105 u106 u107 u108 u109 u110 u111 u112 u113 u114 u115 u116 u117 u118 u119 u120 u121 u122 u123 u124 u125 u126 u127 u128 u129 u130 u131 u132 u133 u134 u135 u136 u137 u138 u139 u140 u141 u142 u143 u144 u145 u146 u147 u148 u149 u150 u151 u152 u153 u154 u155 u156 u157 u158 u159 u160 u161 u162 u163 u164 u165 u166 u167 u168 u169 u170 u171 u172 u173 u174 u175 u176 u177 u178 u179 u180 u181 u182 u183 u184 u185 u186 u187 u188 u189 u190 u191 u192 u193 u194 u195 u196 u197 u198 u199 u200 u201 u202 u203 u204 u205 u206 u207 u208 u209 u210 u211 u212 u213 u214 u215 u216 u217 u218 u219 u220 u221 u222 u223 u224 u225 u226 u227 u228 u229 u230 u231 u232 u233 u234 u235 u236 u237 u238 u239 u240 u241 u242 u243 u244 u245 u246 u247 u248 u249 u250 u251 u252 u253 u254 u255 u256 u257 u258 u259 u260 u261 u262 u263 u264 u265 u266 u267 u268 u269 u270 u271 u272 u273 u274 u275 u276 u277 u278 u279 u280 u281 u282 u283 u284 u285 u286 u287 u288 u289 u290 u291 u292 u293 u294 u295 u296 u297 u298 u299 u300 u301 u302 u303 u304 u305 u306 u307 u308 u309 u310 u311 u312 u313 u314 u315 u316 u317 : Value) :
    Code.wp Yba.prog (tailS 20 (Yba.f5.body.getD .skip)) (bodyPost Yba.prog Yba.f5 fun e w' => e = .returned (.bool true) ∧ Below w.heap.size w w') ⟨#[.slice a0 ls.length c0, .slice a1 ts.length c1, u2, u3, u4, u5, u6, u7, u8, u9, u10, u11, u12, u13, u14, u15, u16, u17, u18, u19, u20, u21, .int .i64 i, .int .i64 b, .string v, u25, u26, u27, u28, u29, .pointer (some ⟨E, 0, none⟩), u31, u32, u33, u34, u35, u36, u37, u38, u39, u40, u41, u42, u43, u44, u45, u46, u47, u48, u49, u50, u51, u52, u53, u54, u55, u56, u57, u58, u59, u60, u61, u62, u63, u64, u65, u66, u67, u68, u69, u70, u71, u72, u73, u74, u75, u76, u77, u78, u79, u80, u81, u82, u83, u84, u85, u86, u87, u88, u89, u90, u91, u92, u93, u94, u95, u96, u97, u98, u99, u100, u101, u102, u103, u104, u105, u106, u107, u108, u109, u110, u111, u112, u113, u114, u115, u116, u117, u118, u119, u120, u121, u122, u123, u124, u125, u126, u127, u128, u129, u130, u131, u132, u133, u134, u135, u136, u137, u138, u139, u140, u141, u142, u143, u144, u145, u146, u147, u148, u149, u150, u151, u152, u153, u154, u155, u156, u157, u158, u159, u160, u161, u162, u163, u164, u165, u166, u167, u168, u169, u170, u171, u172, u173, u174, u175, u176, u177, u178, u179, u180, u181, u182, u183, u184, u185, u186, u187, u188, u189, u190, u191, u192, u193, u194, u195, u196, u197, u198, u199, u200, u201, u202, u203, u204, u205, u206, u207, u208, u209, u210, u211, u212, u213, u214, u215, u216, u217, u218, u219, u220, u221, u222, u223, u224, u225, u226, u227, u228, u229, u230, u231, u232, u233, u234, u235, u236, u237, u238, u239, u240, u241, u242, u243, u244, u245, u246, u247, u248, u249, u250, u251, u252, u253, u254, u255, u256, u257, u258, u259, u260, u261, u262, u263, u264, u265, u266, u267, u268, u269, u270, u271, u272, u273, u274, u275, u276, u277, u278, u279, u280, u281, u282, u283, u284, u285, u286, u287, u288, u289, u290, u291, u292, u293, u294, u295, u296, u297, u298, u299, u300, u301, u302, u303, u304, u305, u306, u307, u308, u309, u310, u311, u312, u313, u314, u315, u316, u317], []⟩ wa := by
  conv => arg 2; whnf
  refine seam1 ?_
  intro K hK
  have HO := hid O
  have H0 := hid h0
  have H1 := hid h1
  clear O h0 h1
  have HB : Hid (Below wa.heap.size wa (wa.alloc (boxM i b v))) := (Below.refl _ _).alloc (Nat.le_refl _) _
  go_wp2
  exact hK.out _ _ (partF1 a0 a1 c0 c1 ls ts E M wa.heap.size i b v ca cn cc g c w (wa.alloc (boxM i b v)) hn hm (HO.out.grow HB.out) (heap_alloc_new wa _) (H0.out.below HB.out) (H1.out.below HB.out) _ _ _ _ _ _ _ _ _ _ _ _ _ _ _ _ _ _ _ _ _ _ _ _ _ _ _ _ _ _ _ _ _ _ _ _ _ _ _ _ _ _ _ _ _ _ _ _ _ _ _ _ _ _ _ _ _ _ _ _ _ _ _ _ _ _ _ _ _ _ _ _ _ _ _ _ _ _ _ _ _ _ _ _ _ _ _ _ _ _ _ _ _ _ _ _ _ _ _ _ _ _ _ _ _ _ _ _ _ _ _ _ _ _ _ _ _ _ _ _ _ _ _ _ _ _ _ _ _ _ _ _ _ _ _ _ _ _ _ _ _ _ _ _ _ _ _ _ _ _ _ _ _ _ _ _ _ _ _ _ _ _ _ _ _ _ _ _ _ _ _ _ _ _ _ _ _ _ _ _ _ _ _ _ _ _ _ _ _ _ _ _ _ _ _ _ _ _ _ _ _ _ _ _ _ _ _ _ _ _ _ _ _ _ _ _ _ _ _ _ _ _ _ _ _ _ _ _ _ _ _ _ _ _ _ _ _ _ _ _ _ _ _ _ _ _ _ _ _ _ _ _ _ _ _ _ _ _ _ _ _ _ _ _ _ _ _ _ _ _ _ _ _ _ _ _ _ _ _ _ _ _ _ _ _ _ _ _ _ _ _ _ _ _ _ _ _ _ _ _ _ _ _ _ _ _ _ _ _ _ _ _ _ _)
end Ca
end Go.Proofs.Ybulkckxo
