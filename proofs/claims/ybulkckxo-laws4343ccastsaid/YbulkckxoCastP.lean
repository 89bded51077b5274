/-
  Seat b4343a, LawS4343CCast: the law's walk, its last statements.
-/
import Derived.Test.YbulkckxoCastJ
namespace Go.Proofs.Ybulkckxo
open Go.RowKit
namespace Ca

set_option maxRecDepth 100000 in
set_option maxHeartbeats 1000000 in
theorem partG2 (E M : Nat) (L : List ByteArray) (i b : Int) (v : ByteArray) (ca : Option Addr) (cn cc g c : Nat) (w wa : World) (O : Out E M L i b v ca cn cc g c w wa)
    (u0 u1 u2 u3 u4 u5 u6 u7 u8 u9 u10 u11 u12 u13 u14 u15 u16 u17 u18 u19 u20 u21 u22 u23 u24 u25 u26 u27 u28 u29 u31 u32 u33 u34 u35 u36 u37 u38 u39 u40 u41 u42 u43 u44 u45 u46 u47 u48 u49 u50 u51 u52 u53 u54 u55 u56 u57 u58 u59 u60 u61 u62 u63 u64 u65 u66 u67 u68 u69 u70 u71 u72 u73 u74 u75 u76 u77 u78 u79 u80 u81 u82 u83 u84 u85 u86 u87 u88 u89 u90 u91 u92 u93 u94 u95 u96 u97 u98 u99 u100 u101 u102 u103 u104 u105 u106 u107 u108 u109 u110 u111 u112 u113 u114 u115 u116 u117 u118 u119 u120 u121 u122 u123 u124 u125 u126 u127 u128 u129 u130 u131 u132 u133 u134 u135 u136 u137 u138 u139 u140 u141 u142 u143 u144 u145 u146 u147 u148 u149 u150 u151 u152 u153 u154 u155 u156 u157 u158 u159 u160 u161 u162 u163 u164 u165 u166 u167 u168 u169 u170 u171 u172 u173 u174 u175 u176 u177 u178 u179 u180 u181 u182 u183 u184 u185 u186 u187 u188 u189 u190 u191 u192 u193 u194 u195 u196 u197 u198 u199 u200 u201 u202 u203 u204 u205 u206 u207 u208 u209 u210 u211 u212 u213 u214 u215 u216 u217 u218 u219 u220 u221 u222 u223 u224 u225 u226 u227 u228 u229 u230 u231 u232 u233 u234 u235 u236 u237 u238 u239 u240 u241 u242 u243 u244 u245 u246 u247 u248 u249 u250 u251 u252 u253 u254 u255 u256 u257 u258 u259 u260 u261 u262 u263 u264 u265 u266 u267 u268 u269 u270 u271 u272 u273 u274 u275 u276 u277 u278 u279 u280 u281 u282 u283 u284 u285 u286 u287 u288 u289 u290 u291 u292 u293 u294 u295 u296 u297 u298 u299 u300 u301 u302 u303 u304 u305 u306 u307 u308 u309 u310 u311 u312 u313 u314 u315 u316 u317 : Value) :
    Code.wp Yba.prog (tailS 26 (Yba.f5.body.getD .skip)) (bodyPost Yba.prog Yba.f5 fun e w' => e = .returned (.bool true) ∧ Below w.heap.size w w') ⟨#[u0, u1, u2, u3, u4, u5, u6, u7, u8, u9, u10, u11, u12, u13, u14, u15, u16, u17, u18, u19, u20, u21, u22, u23, u24, u25, u26, u27, u28, u29, .pointer (some ⟨E, 0, none⟩), u31, u32, u33, u34, u35, u36, u37, u38, u39, u40, u41, u42, u43, u44, u45, u46, u47, u48, u49, u50, u51, u52, u53, u54, u55, u56, u57, u58, u59, u60, u61, u62, u63, u64, u65, u66, u67, u68, u69, u70, u71, u72, u73, u74, u75, u76, u77, u78, u79, u80, u81, u82, u83, u84, u85, u86, u87, u88, u89, u90, u91, u92, u93, u94, u95, u96, u97, u98, u99, u100, u101, u102, u103, u104, u105, u106, u107, u108, u109, u110, u111, u112, u113, u114, u115, u116, u117, u118, u119, u120, u121, u122, u123, u124, u125, u126, u127, u128, u129, u130, u131, u132, u133, u134, u135, u136, u137, u138, u139, u140, u141, u142, u143, u144, u145, u146, u147, u148, u149, u150, u151, u152, u153, u154, u155, u156, u157, u158, u159, u160, u161, u162, u163, u164, u165, u166, u167, u168, u169, u170, u171, u172, u173, u174, u175, u176, u177, u178, u179, u180, u181, u182, u183, u184, u185, u186, u187, u188, u189, u190, u191, u192, u193, u194, u195, u196, u197, u198, u199, u200, u201, u202, u203, u204, u205, u206, u207, u208, u209, u210, u211, u212, u213, u214, u215, u216, u217, u218, u219, u220, u221, u222, u223, u224, u225, u226, u227, u228, u229, u230, u231, u232, u233, u234, u235, u236, u237, u238, u239, u240, u241, u242, u243, u244, u245, u246, u247, u248, u249, u250, u251, u252, u253, u254, u255, u256, u257, u258, u259, u260, u261, u262, u263, u264, u265, u266, u267, u268, u269, u270, u271, u272, u273, u274, u275, u276, u277, u278, u279, u280, u281, u282, u283, u284, u285, u286, u287, u288, u289, u290, u291, u292, u293, u294, u295, u296, u297, u298, u299, u300, u301, u302, u303, u304, u305, u306, u307, u308, u309, u310, u311, u312, u313, u314, u315, u316, u317], []⟩ wa := by
  conv => arg 2; whnf
  have l0 : E < wa.heap.size := (Array.getElem?_eq_some_iff.1 O.e).1
  have e1 : wa.cell? ⟨E, 1, none⟩ = some (.slice none 0 0) := (cells_of O.e).1 1
  have e3 : wa.cell? ⟨E, 3, none⟩ = some (.int .i64 0) := (cells_of O.e).1 3
  have e4 : wa.cell? ⟨E, 4, none⟩ = some (.string ⟨#[]⟩) := (cells_of O.e).1 4
  have e5 : wa.cell? ⟨E, 5, none⟩ = some (.int .i64 0) := (cells_of O.e).1 5
  have n53 := fun (w : World) => run_neq_slice_nil (P := Yba.prog) (w := w) 53 _ none 0 0 Yba.underlying53
  have n57 := neq57_self
  have HB := hid O.below
  clear O
  go_wp2
  go_ret
  exact ⟨rfl, HB.out⟩

/-- Behind the two loops: the vote's block, the wanted strings. -/
structure Fn (E M V : Nat) (L : List ByteArray) (i b : Int) (v : ByteArray) (ca : Option Addr) (cn cc g c : Nat) (ua : Option Addr) (w W : World) : Prop where
  out : Out E M L i b v ca cn cc g c w W
  vote : W.heap[V]? = some (boxM i b v)
  strs : Strs W ua L
theorem Fn.grow {E M V : Nat} {L : List ByteArray} {i b : Int} {v : ByteArray} {ca : Option Addr} {cn cc g c : Nat} {ua : Option Addr} {w W W' : World} (h : Fn E M V L i b v ca cn cc g c ua w W) (hb : Below W.heap.size W W') : Fn E M V L i b v ca cn cc g c ua w W' :=
  ⟨h.out.grow hb, (hb.block V (Array.getElem?_eq_some_iff.1 h.vote).1).trans h.vote, h.strs.below hb⟩
theorem Fn.drewN {E M V : Nat} {L : List ByteArray} {i b : Int} {v : ByteArray} {ca : Option Addr} {cn cc g c : Nat} {ua : Option Addr} {w W : World} (h : Fn E M V L i b v ca cn cc g c ua w W) (n : Nat) : Fn E M V L i b v ca cn cc g c ua w (W.drewN n) := h.grow (below_drewN (Below.refl _ _) n)

theorem sends_get (i b : Int) (v : ByteArray) (j : Nat) (hj : j < 10) (L : List ByteArray) : ∀ k, k < L.length → (sends i b v L)[k * 10 + j]? = (sendL i b v (L.getD k ByteArray.empty))[j]? := by
  induction L with
  | nil => intro k hk; simp at hk
  | cons s ss ih =>
    intro k hk
    have e : sends i b v (s :: ss) = sendL i b v s ++ sends i b v ss := by simp [sends]
    rw [e]
    cases k with
    | zero => rw [List.getElem?_append_left (by rw [sendL_length]; omega)]; simp
    | succ k =>
      rw [List.getElem?_append_right (by rw [sendL_length]; omega), sendL_length]
      have e2 : (k + 1) * 10 + j - 10 = k * 10 + j := by omega
      rw [e2, ih k (by simpa using hk)]
      simp

/-- What a round reads. -/
theorem Fn.reads {E M V : Nat} {L : List ByteArray} {i b : Int} {v : ByteArray} {ca : Option Addr} {cn cc g c : Nat} {ua : Option Addr} {w W : World} (h : Fn E M V L i b v ca cn cc g c ua w W) (k : Nat) (hk : k < L.length) :
    ∀ j, j < 10 → W.cell? ⟨g, k * 10 + j, none⟩ = (sendL i b v (L.getD k ByteArray.empty))[j]? := by
  intro j hj
  rw [h.out.own.cellAt (k * 10 + j) (by omega), sends_get i b v j hj L k hk]

set_option maxRecDepth 100000 in
set_option maxHeartbeats 1000000 in
theorem partG1 (E M V : Nat) (L : List ByteArray) (i b : Int) (v : ByteArray) (ca : Option Addr) (cn cc g c : Nat) (ua : Option Addr) (uc : Nat) (w wa : World) (hL : L.length ≤ 2048) (F : Fn E M V L i b v ca cn cc g c ua w wa)
    (u0 u1 u2 u3 u4 u5 u6 u7 u8 u9 u10 u11 u12 u13 u14 u15 u16 u17 u18 u19 u20 u21 u22 u23 u24 u25 u26 u27 u28 u29 u31 u32 u33 u34 u35 u36 u37 u38 u41 u42 u43 u44 u45 u46 u47 u48 u49 u50 u51 u52 u53 u54 u55 u56 u57 u58 u59 u60 u61 u62 u63 u64 u65 u66 u67 u68 u69 u70 u71 u72 u73 u74 u75 u76 u77 u78 u79 u80 u81 u82 u83 u84 u85 u86 u87 u88 u89 u90 u91 u92 u93 u94 u95 u96 u97 u98 u99 u100 u101 u102 u103 u104 u105 u106 u107 u108 u109 u110 u111 u112 u113 u114 u115 u116 u117 u118 u119 u120 u121 u122 u123 u124 u125 u126 u127 u128 u129 u130 u131 u132 u133 u134 u135 u136 u137 u138 u139 u140 u141 u142 u143 u144 u145 u146 u147 u148 u149 u150 u151 u152 u153 u154 u155 u156 u157 u158 u159 u160 u161 u162 u163 u164 u165 u166 u167 u168 u169 u170 u171 u172 u173 u174 u175 u176 u177 u178 u179 u180 u181 u182 u183 u184 u185 u186 u187 u188 u189 u190 u191 u192 u193 u194 u195 u196 u197 u198 u199 u200 u201 u202 u203 u204 u205 u206 u207 u208 u209 u210 u211 u212 u213 u214 u215 u216 u217 u218 u219 u220 u221 u222 u223 u224 u225 u226 u227 u228 u229 u230 u231 u232 u233 u234 u235 u236 u237 u238 u239 u240 u241 u242 u243 u244 u245 u246 u247 u248 u249 u250 u251 u252 u253 u254 u255 u256 u257 u258 u259 u260 u261 u262 u263 u264 u265 u266 u267 u268 u269 u270 u271 u272 u273 u274 u275 u276 u277 u278 u279 u280 u281 u282 u283 u284 u285 u286 u287 u288 u289 u290 u291 u292 u293 u294 u295 u296 u297 u298 u299 u300 u301 u302 u303 u304 u305 u306 u307 u308 u309 u310 u311 u312 u313 u314 u315 u316 u317 : Value) :
    Code.wp Yba.prog (tailS 24 (Yba.f5.body.getD .skip)) (bodyPost Yba.prog Yba.f5 fun e w' => e = .returned (.bool true) ∧ Below w.heap.size w w') ⟨#[u0, u1, u2, u3, u4, u5, u6, u7, u8, u9, u10, u11, u12, u13, u14, u15, u16, u17, u18, u19, u20, u21, u22, u23, u24, u25, u26, u27, u28, u29, .pointer (some ⟨E, 0, none⟩), u31, u32, u33, u34, u35, u36, u37, u38, .pointer (some ⟨V, 0, none⟩), .slice ua L.length uc, u41, u42, u43, u44, u45, u46, u47, u48, u49, u50, u51, u52, u53, u54, u55, u56, u57, u58, u59, u60, u61, u62, u63, u64, u65, u66, u67, u68, u69, u70, u71, u72, u73, u74, u75, u76, u77, u78, u79, u80, u81, u82, u83, u84, u85, u86, u87, u88, u89, u90, u91, u92, u93, u94, u95, u96, u97, u98, u99, u100, u101, u102, u103, u104, u105, u106, u107, u108, u109, u110, u111, u112, u113, u114, u115, u116, u117, u118, u119, u120, u121, u122, u123, u124, u125, u126, u127, u128, u129, u130, u131, u132, u133, u134, u135, u136, u137, u138, u139, u140, u141, u142, u143, u144, u145, u146, u147, u148, u149, u150, u151, u152, u153, u154, u155, u156, u157, u158, u159, u160, u161, u162, u163, u164, u165, u166, u167, u168, u169, u170, u171, u172, u173, u174, u175, u176, u177, u178, u179, u180, u181, u182, u183, u184, u185, u186, u187, u188, u189, u190, u191, u192, u193, u194, u195, u196, u197, u198, u199, u200, u201, u202, u203, u204, u205, u206, u207, u208, u209, u210, u211, u212, u213, u214, u215, u216, u217, u218, u219, u220, u221, u222, u223, u224, u225, u226, u227, u228, u229, u230, u231, u232, u233, u234, u235, u236, u237, u238, u239, u240, u241, u242, u243, u244, u245, u246, u247, u248, u249, u250, u251, u252, u253, u254, u255, u256, u257, u258, u259, u260, u261, u262, u263, u264, u265, u266, u267, u268, u269, u270, u271, u272, u273, u274, u275, u276, u277, u278, u279, u280, u281, u282, u283, u284, u285, u286, u287, u288, u289, u290, u291, u292, u293, u294, u295, u296, u297, u298, u299, u300, u301, u302, u303, u304, u305, u306, u307, u308, u309, u310, u311, u312, u313, u314, u315, u316, u317], []⟩ wa := by
  conv => arg 2; whnf
  refine seam2 ?_
  intro K hK K1 hK1
  have l0 : E < wa.heap.size := (Array.getElem?_eq_some_iff.1 F.out.e).1
  have e2 : wa.cell? ⟨E, 2, none⟩ = some (.slice (some ⟨g, 0, none⟩) L.length c) := (cells_of F.out.e).1 2
  have HF := hid F
  clear F
  go_wp2
  clear l0 e2
  go_loopw [43] (fun t wr => ∃ k : Nat, k ≤ L.length ∧ t = .int .i64 k ∧ Fn E M V L i b v ca cn cc g c ua w wr) (fun t _ => L.length - (intOf t).toNat)
  case atStart => exact ⟨0, Nat.zero_le _, rfl, HF.out⟩
  case round =>
    obtain ⟨k, hk, rfl, F⟩ := hrel
    by_cases hlt : k < L.length
    · have l0 : E < wr.heap.size := (Array.getElem?_eq_some_iff.1 F.out.e).1
      have l1 : V < wr.heap.size := (Array.getElem?_eq_some_iff.1 F.vote).1
      have e2 : wr.cell? ⟨E, 2, none⟩ = some (.slice (some ⟨g, 0, none⟩) L.length c) := (cells_of F.out.e).1 2
      have hr := F.reads k hlt
      obtain ⟨b1, off1, hua, hc⟩ := F.strs (by omega)
      subst hua
      have hcx := hc k hlt
      generalize L.getD k ByteArray.empty = t at hr hcx
      have r0 : wr.cell? ⟨g, k * 10, none⟩ = some (.string t) := hr 0 (by omega)
      have r1 : wr.cell? ⟨g, k * 10 + 1, none⟩ = some (.string ⟨#[50, 98]⟩) := hr 1 (by omega)
      have r2 : wr.cell? ⟨g, k * 10 + 2, none⟩ = some (.int .i64 i) := hr 2 (by omega)
      have r3 : wr.cell? ⟨g, k * 10 + 3, none⟩ = some (.int .i64 b) := hr 3 (by omega)
      have r4 : wr.cell? ⟨g, k * 10 + 4, none⟩ = some (.int .i64 0) := hr 4 (by omega)
      have r5 : wr.cell? ⟨g, k * 10 + 5, none⟩ = some (.string ⟨#[]⟩) := hr 5 (by omega)
      have r6 : wr.cell? ⟨g, k * 10 + 6, none⟩ = some (.bool false) := hr 6 (by omega)
      have r7 : wr.cell? ⟨g, k * 10 + 7, none⟩ = some (.string v) := hr 7 (by omega)
      have r8 : wr.cell? ⟨g, k * 10 + 8, none⟩ = some (.bool false) := hr 8 (by omega)
      have r9 : wr.cell? ⟨g, k * 10 + 9, none⟩ = some (.int .i64 0) := hr 9 (by omega)
      have m0 : wr.cell? ⟨V, 0, none⟩ = some (.string ⟨#[50, 98]⟩) := (cells_of F.vote).1 0
      have m1 : wr.cell? ⟨V, 1, none⟩ = some (.int .i64 i) := (cells_of F.vote).1 1
      have m2 : wr.cell? ⟨V, 2, none⟩ = some (.int .i64 b) := (cells_of F.vote).1 2
      have m3 : wr.cell? ⟨V, 3, none⟩ = some (.int .i64 0) := (cells_of F.vote).1 3
      have m4 : wr.cell? ⟨V, 4, none⟩ = some (.string ⟨#[]⟩) := (cells_of F.vote).1 4
      have m5 : wr.cell? ⟨V, 5, none⟩ = some (.bool false) := (cells_of F.vote).1 5
      have m6 : wr.cell? ⟨V, 6, none⟩ = some (.string v) := (cells_of F.vote).1 6
      have m7 : wr.cell? ⟨V, 7, none⟩ = some (.bool false) := (cells_of F.vote).1 7
      have m8 : wr.cell? ⟨V, 8, none⟩ = some (.int .i64 0) := (cells_of F.vote).1 8
      have n66 := neq66_self i b v
      have lg : g < wr.heap.size := World.block_lt_of_cell? _ _ r0
      have lb : b1 < wr.heap.size := World.block_lt_of_cell? _ _ hcx
      have HF1 := hid F
      clear hr F HF hc
      go_wp2
      go_quiet (fail)
      go_wp2
      go_roundw
      case rel => exact ⟨k + 1, by omega, by go_num, HF1.out.drewN _⟩
      case measure => simp [intOf]; omega
    · go_wp2
      exact hK.out _ _ (partG2 E M L i b v ca cn cc g c w wr F.out _ _ _ _ _ _ _ _ _ _ _ _ _ _ _ _ _ _ _ _ _ _ _ _ _ _ _ _ _ _ _ _ _ _ _ _ _ _ _ _ _ _ _ _ _ _ _ _ _ _ _ _ _ _ _ _ _ _ _ _ _ _ _ _ _ _ _ _ _ _ _ _ _ _ _ _ _ _ _ _ _ _ _ _ _ _ _ _ _ _ _ _ _ _ _ _ _ _ _ _ _ _ _ _ _ _ _ _ _ _ _ _ _ _ _ _ _ _ _ _ _ _ _ _ _ _ _ _ _ _ _ _ _ _ _ _ _ _ _ _ _ _ _ _ _ _ _ _ _ _ _ _ _ _ _ _ _ _ _ _ _ _ _ _ _ _ _ _ _ _ _ _ _ _ _ _ _ _ _ _ _ _ _ _ _ _ _ _ _ _ _ _ _ _ _ _ _ _ _ _ _ _ _ _ _ _ _ _ _ _ _ _ _ _ _ _ _ _ _ _ _ _ _ _ _ _ _ _ _ _ _ _ _ _ _ _ _ _ _ _ _ _ _ _ _ _ _ _ _ _ _ _ _ _ _ _ _ _ _ _ _ _ _ _ _ _ _ _ _ _ _ _ _ _ _ _ _ _ _ _ _ _ _ _ _ _ _ _ _ _ _ _ _ _ _ _ _ _ _ _ _ _ _ _ _ _ _ _ _ _ _ _ _ _ _ _ _)
end Ca
end Go.Proofs.Ybulkckxo
