/-
  Seat b4343a, LawS4343CCast: the law's walk, the two maps laid.
-/
import Derived.Test.YbulkckxoCastU
namespace Go.Proofs.Ybulkckxo
open Go.RowKit
namespace Ca

theorem Pre.turnO {N : Nat} {la : Option Addr} {lc : Nat} {ls : List ByteArray} {b : Int} {v : ByteArray} {mb vb : Int} {sv : ByteArray} {vv : Bool} {i : Int} {x : Option Value} {oo oo' : Option (Int × ByteArray)} {w W W' : World}
    (h : Pre N la lc ls b v mb vb sv vv i x oo w W) (hT : Turn (N + 1) W W') (hM : MSt W' (N + 1) i (opO oo')) : Pre N la lc ls b v mb vb sv vv i x oo' w W' := by
  have hE : Ex N (N + 1) W W' := Ex.turnO hT
  have hle := h.le
  have l3 := (Array.getElem?_eq_some_iff.1 h.voted).1
  have l4 := (Array.getElem?_eq_some_iff.1 h.s).1
  exact ⟨h.acc.ex hE, (hE.block _ l3 (by omega) (by omega)).trans h.voted, (hE.block _ l4 (by omega) (by omega)).trans h.s, h.st.at (hT.block _ (by omega)), hM, h.strs.ex h.st h.op hE, h.below.trans (hE.toBelow h.below.size hle (by omega)), hle⟩
theorem Pre.turnS {N : Nat} {la : Option Addr} {lc : Nat} {ls : List ByteArray} {b : Int} {v : ByteArray} {mb vb : Int} {sv : ByteArray} {vv : Bool} {i : Int} {x x' : Option Value} {oo : Option (Int × ByteArray)} {w W W' : World}
    (h : Pre N la lc ls b v mb vb sv vv i x oo w W) (hT : Turn N W W') (hM : MSt W' N i x') : Pre N la lc ls b v mb vb sv vv i x' oo w W' := by
  have hE : Ex N (N + 1) W W' := Ex.turnS hT
  have hle := h.le
  have l3 := (Array.getElem?_eq_some_iff.1 h.voted).1
  have l4 := (Array.getElem?_eq_some_iff.1 h.s).1
  exact ⟨h.acc.ex hE, (hE.block _ l3 (by omega) (by omega)).trans h.voted, (hE.block _ l4 (by omega) (by omega)).trans h.s, hM, h.op.at (hT.block _ (by omega)), h.strs.ex h.st h.op hE, h.below.trans (hE.toBelow h.below.size hle (by omega)), hle⟩

set_option maxRecDepth 100000 in
set_option maxHeartbeats 1000000 in
theorem partB2 (a0 a1 : Option Addr) (c0 c1 : Nat) (ls ts : List ByteArray) (N : Nat) (la : Option Addr) (lc : Nat) (i ob b mb vb fl : Int) (v sv : ByteArray) (vv had prior : Bool) (w wa : World) (hf8 : (bits BinOp.and IntKind.u8 fl 8 != 0) = had) (hn : ls.length ≤ 1024) (hm : ts.length ≤ 1024) (hc1 : ∀ ad, a1 = some ad → ∀ j u, (ts.map Value.string)[j]? = some u → w.cell? (ad.add j) = some u) (hz1 : a1 = none → ts.length = 0) (P : Pre N la lc ls b v mb vb sv vv i (if prior = true then some (stV mb vb sv vv) else none) none w wa) (h0 : Strs w a0 ls) (h1 : Strs w a1 ts)
    (u2 u3 u4 u5 u9 u10 u11 u12 u13 u14 u15 u16 u17 u18 u19 u20 u28 u29 u30 u31 u32 u33 u34 u35 u36 u37 u38 u39 u40 u41 u42 u43 u44 u45 u46 u47 u48 u49 u50 u51 u52 u53 u54 u55 u56 u57 u58 u59 u60 u61 u62 u63 u64 u65 u66 u67 u68 u69 u70 u71 u72 u73 u74 u75 u76 u77 u78 u79 u80 u81 u82 u83 u84 u85 u86 u87 u88 u89 u90 u91 u92 u93 u94 u95 u96 u97 u98 u99 u100 u101 u102 u103 u104 u105 u106 u107 u108 u109 u110 u111 u112 u113 u114 u115 u116 u117 u118 u119 u120 u121 u122 u123 u124 u125 u126 u127 u128 u129 u130 u131 u132 u133 u134 u135 u136 u137 u138 u139 u140 u141 u142 u143 u144 u145 u146 u147 u148 u149 u150 u151 u152 u153 u154 u155 u156 u157 u158 u159 u160 u161 u162 u163 u164 u165 u166 u167 u168 u169 u170 u171 u172 u173 u174 u175 u176 u177 u178 u179 u180 u181 u182 u183 u184 u185 u186 u187 u188 u189 u190 u191 u192 u193 u194 u195 u196 u197 u198 u199 u200 u201 u202 u203 u204 u205 u206 u207 u208 u209 u210 u211 u212 u213 u214 u215 u216 u217 u218 u219 u220 u221 u222 u223 u224 u225 u226 u227 u228 u229 u230 u231 u232 u233 u234 u235 u236 u237 u238 u239 u240 u241 u242 u243 u244 u245 u246 u247 u248 u249 u250 u251 u252 u253 u254 u255 u256 u257 u258 u259 u260 u261 u262 u263 u264 u265 u266 u267 u268 u269 u270 u271 u272 u273 u274 u275 u276 u277 u278 u279 u280 u281 u282 u283 u284 u285 u286 u287 u288 u289 u290 u291 u292 u293 u294 u295 u296 u297 u298 u299 u300 u301 u302 u303 u304 u305 u306 u307 u308 u309 u310 u311 u312 u313 u314 u315 u316 u317 : Value) :
    Code.wp Yba.prog (tailS 11 (Yba.f5.body.getD .skip)) (bodyPost Yba.prog Yba.f5 fun e w' => e = .returned (.bool true) ∧ Below w.heap.size w w') ⟨#[.slice a0 ls.length c0, .slice a1 ts.length c1, u2, u3, u4, u5, .int .u8 fl, .int .i64 ob, .int .i64 b, u9, u10, u11, u12, u13, u14, u15, u16, u17, u18, u19, u20, .pointer (some ⟨N + 1 + 1, 0, none⟩), .int .i64 i, .int .i64 b, .string v, .pointer (some ⟨N + 1 + 1 + 1, 0, none⟩), .pointer (some ⟨N + 1 + 1 + 1 + 1, 0, none⟩), .bool prior, u28, u29, u30, u31, u32, u33, u34, u35, u36, u37, u38, u39, u40, u41, u42, u43, u44, u45, u46, u47, u48, u49, u50, u51, u52, u53, u54, u55, u56, u57, u58, u59, u60, u61, u62, u63, u64, u65, u66, u67, u68, u69, u70, u71, u72, u73, u74, u75, u76, u77, u78, u79, u80, u81, u82, u83, u84, u85, u86, u87, u88, u89, u90, u91, u92, u93, u94, u95, u96, u97, u98, u99, u100, u101, u102, u103, u104, u105, u106, u107, u108, u109, u110, u111, u112, u113, u114, u115, u116, u117, u118, u119, u120, u121, u122, u123, u124, u125, u126, u127, u128, u129, u130, u131, u132, u133, u134, u135, u136, u137, u138, u139, u140, u141, u142, u143, u144, u145, u146, u147, u148, u149, u150, u151, u152, u153, u154, u155, u156, u157, u158, u159, u160, u161, u162, u163, u164, u165, u166, u167, u168, u169, u170, u171, u172, u173, u174, u175, u176, u177, u178, u179, u180, u181, u182, u183, u184, u185, u186, u187, u188, u189, u190, u191, u192, u193, u194, u195, u196, u197, u198, u199, u200, u201, u202, u203, u204, u205, u206, u207, u208, u209, u210, u211, u212, u213, u214, u215, u216, u217, u218, u219, u220, u221, u222, u223, u224, u225, u226, u227, u228, u229, u230, u231, u232, u233, u234, u235, u236, u237, u238, u239, u240, u241, u242, u243, u244, u245, u246, u247, u248, u249, u250, u251, u252, u253, u254, u255, u256, u257, u258, u259, u260, u261, u262, u263, u264, u265, u266, u267, u268, u269, u270, u271, u272, u273, u274, u275, u276, u277, u278, u279, u280, u281, u282, u283, u284, u285, u286, u287, u288, u289, u290, u291, u292, u293, u294, u295, u296, u297, u298, u299, u300, u301, u302, u303, u304, u305, u306, u307, u308, u309, u310, u311, u312, u313, u314, u315, u316, u317], []⟩ wa := by
  conv => arg 2; whnf
  refine seam2 ?_
  intro K hK K1 hK1
  have HC := hid hc1
  have HZ := hid hz1
  clear hc1 hz1
  cases had
  · have HP := hid P
    clear P
    go_wp2
    exact hK.out _ _ (partC1 a0 a1 c0 c1 ls ts N la lc i ob b mb vb v sv vv false prior w wa hn hm HC.out HZ.out HP.out h0 h1 _ _ _ _ _ _ _ _ _ _ _ _ _ _ _ _ _ _ _ _ _ _ _ _ _ _ _ _ _ _ _ _ _ _ _ _ _ _ _ _ _ _ _ _ _ _ _ _ _ _ _ _ _ _ _ _ _ _ _ _ _ _ _ _ _ _ _ _ _ _ _ _ _ _ _ _ _ _ _ _ _ _ _ _ _ _ _ _ _ _ _ _ _ _ _ _ _ _ _ _ _ _ _ _ _ _ _ _ _ _ _ _ _ _ _ _ _ _ _ _ _ _ _ _ _ _ _ _ _ _ _ _ _ _ _ _ _ _ _ _ _ _ _ _ _ _ _ _ _ _ _ _ _ _ _ _ _ _ _ _ _ _ _ _ _ _ _ _ _ _ _ _ _ _ _ _ _ _ _ _ _ _ _ _ _ _ _ _ _ _ _ _ _ _ _ _ _ _ _ _ _ _ _ _ _ _ _ _ _ _ _ _ _ _ _ _ _ _ _ _ _ _ _ _ _ _ _ _ _ _ _ _ _ _ _ _ _ _ _ _ _ _ _ _ _ _ _ _ _ _ _ _ _ _ _ _ _ _ _ _ _ _ _ _ _ _ _ _ _ _ _ _ _ _ _ _ _ _ _ _ _ _ _ _ _ _ _ _ _ _ _ _ _ _ _ _ _ _ _ _ _ _ _ _ _ _)
  · obtain ⟨w1, hrun, hM, hT⟩ := MSt.upd Yba.underlying40 P.op (opV ob ⟨#[99]⟩)
    have a5 := P.acc.opn
    have lA := P.acc.ltA
    have HP := hid (P.turnO (oo' := some (ob, ⟨#[99]⟩)) hT hM)
    clear P hM hT
    go_wp2
    exact hK.out _ _ (partC1 a0 a1 c0 c1 ls ts N la lc i ob b mb vb v sv vv true prior w w1 hn hm HC.out HZ.out HP.out h0 h1 _ _ _ _ _ _ _ _ _ _ _ _ _ _ _ _ _ _ _ _ _ _ _ _ _ _ _ _ _ _ _ _ _ _ _ _ _ _ _ _ _ _ _ _ _ _ _ _ _ _ _ _ _ _ _ _ _ _ _ _ _ _ _ _ _ _ _ _ _ _ _ _ _ _ _ _ _ _ _ _ _ _ _ _ _ _ _ _ _ _ _ _ _ _ _ _ _ _ _ _ _ _ _ _ _ _ _ _ _ _ _ _ _ _ _ _ _ _ _ _ _ _ _ _ _ _ _ _ _ _ _ _ _ _ _ _ _ _ _ _ _ _ _ _ _ _ _ _ _ _ _ _ _ _ _ _ _ _ _ _ _ _ _ _ _ _ _ _ _ _ _ _ _ _ _ _ _ _ _ _ _ _ _ _ _ _ _ _ _ _ _ _ _ _ _ _ _ _ _ _ _ _ _ _ _ _ _ _ _ _ _ _ _ _ _ _ _ _ _ _ _ _ _ _ _ _ _ _ _ _ _ _ _ _ _ _ _ _ _ _ _ _ _ _ _ _ _ _ _ _ _ _ _ _ _ _ _ _ _ _ _ _ _ _ _ _ _ _ _ _ _ _ _ _ _ _ _ _ _ _ _ _ _ _ _ _ _ _ _ _ _ _ _ _ _ _ _ _ _ _ _ _ _ _ _ _)

set_option maxRecDepth 100000 in
set_option maxHeartbeats 1000000 in
theorem partB1 (a0 a1 : Option Addr) (c0 c1 : Nat) (ls ts : List ByteArray) (N : Nat) (la : Option Addr) (lc : Nat) (i ob b mb vb fl : Int) (v sv : ByteArray) (vv had prior : Bool) (w wa : World) (hf4 : (bits BinOp.and IntKind.u8 fl 4 != 0) = prior) (hf8 : (bits BinOp.and IntKind.u8 fl 8 != 0) = had) (hn : ls.length ≤ 1024) (hm : ts.length ≤ 1024) (hc1 : ∀ ad, a1 = some ad → ∀ j u, (ts.map Value.string)[j]? = some u → w.cell? (ad.add j) = some u) (hz1 : a1 = none → ts.length = 0) (P : Pre N la lc ls b v mb vb sv vv i none none w wa) (h0 : Strs w a0 ls) (h1 : Strs w a1 ts)
    (u2 u3 u4 u5 u9 u10 u11 u12 u13 u14 u15 u16 u17 u18 u19 u20 u27 u28 u29 u30 u31 u32 u33 u34 u35 u36 u37 u38 u39 u40 u41 u42 u43 u44 u45 u46 u47 u48 u49 u50 u51 u52 u53 u54 u55 u56 u57 u58 u59 u60 u61 u62 u63 u64 u65 u66 u67 u68 u69 u70 u71 u72 u73 u74 u75 u76 u77 u78 u79 u80 u81 u82 u83 u84 u85 u86 u87 u88 u89 u90 u91 u92 u93 u94 u95 u96 u97 u98 u99 u100 u101 u102 u103 u104 u105 u106 u107 u108 u109 u110 u111 u112 u113 u114 u115 u116 u117 u118 u119 u120 u121 u122 u123 u124 u125 u126 u127 u128 u129 u130 u131 u132 u133 u134 u135 u136 u137 u138 u139 u140 u141 u142 u143 u144 u145 u146 u147 u148 u149 u150 u151 u152 u153 u154 u155 u156 u157 u158 u159 u160 u161 u162 u163 u164 u165 u166 u167 u168 u169 u170 u171 u172 u173 u174 u175 u176 u177 u178 u179 u180 u181 u182 u183 u184 u185 u186 u187 u188 u189 u190 u191 u192 u193 u194 u195 u196 u197 u198 u199 u200 u201 u202 u203 u204 u205 u206 u207 u208 u209 u210 u211 u212 u213 u214 u215 u216 u217 u218 u219 u220 u221 u222 u223 u224 u225 u226 u227 u228 u229 u230 u231 u232 u233 u234 u235 u236 u237 u238 u239 u240 u241 u242 u243 u244 u245 u246 u247 u248 u249 u250 u251 u252 u253 u254 u255 u256 u257 u258 u259 u260 u261 u262 u263 u264 u265 u266 u267 u268 u269 u270 u271 u272 u273 u274 u275 u276 u277 u278 u279 u280 u281 u282 u283 u284 u285 u286 u287 u288 u289 u290 u291 u292 u293 u294 u295 u296 u297 u298 u299 u300 u301 u302 u303 u304 u305 u306 u307 u308 u309 u310 u311 u312 u313 u314 u315 u316 u317 : Value) :
    Code.wp Yba.prog (tailS 9 (Yba.f5.body.getD .skip)) (bodyPost Yba.prog Yba.f5 fun e w' => e = .returned (.bool true) ∧ Below w.heap.size w w') ⟨#[.slice a0 ls.length c0, .slice a1 ts.length c1, u2, u3, u4, u5, .int .u8 fl, .int .i64 ob, .int .i64 b, u9, u10, u11, u12, u13, u14, u15, u16, u17, u18, u19, u20, .pointer (some ⟨N + 1 + 1, 0, none⟩), .int .i64 i, .int .i64 b, .string v, .pointer (some ⟨N + 1 + 1 + 1, 0, none⟩), .pointer (some ⟨N + 1 + 1 + 1 + 1, 0, none⟩), u27, u28, u29, u30, u31, u32, u33, u34, u35, u36, u37, u38, u39, u40, u41, u42, u43, u44, u45, u46, u47, u48, u49, u50, u51, u52, u53, u54, u55, u56, u57, u58, u59, u60, u61, u62, u63, u64, u65, u66, u67, u68, u69, u70, u71, u72, u73, u74, u75, u76, u77, u78, u79, u80, u81, u82, u83, u84, u85, u86, u87, u88, u89, u90, u91, u92, u93, u94, u95, u96, u97, u98, u99, u100, u101, u102, u103, u104, u105, u106, u107, u108, u109, u110, u111, u112, u113, u114, u115, u116, u117, u118, u119, u120, u121, u122, u123, u124, u125, u126, u127, u128, u129, u130, u131, u132, u133, u134, u135, u136, u137, u138, u139, u140, u141, u142, u143, u144, u145, u146, u147, u148, u149, u150, u151, u152, u153, u154, u155, u156, u157, u158, u159, u160, u161, u162, u163, u164, u165, u166, u167, u168, u169, u170, u171, u172, u173, u174, u175, u176, u177, u178, u179, u180, u181, u182, u183, u184, u185, u186, u187, u188, u189, u190, u191, u192, u193, u194, u195, u196, u197, u198, u199, u200, u201, u202, u203, u204, u205, u206, u207, u208, u209, u210, u211, u212, u213, u214, u215, u216, u217, u218, u219, u220, u221, u222, u223, u224, u225, u226, u227, u228, u229, u230, u231, u232, u233, u234, u235, u236, u237, u238, u239, u240, u241, u242, u243, u244, u245, u246, u247, u248, u249, u250, u251, u252, u253, u254, u255, u256, u257, u258, u259, u260, u261, u262, u263, u264, u265, u266, u267, u268, u269, u270, u271, u272, u273, u274, u275, u276, u277, u278, u279, u280, u281, u282, u283, u284, u285, u286, u287, u288, u289, u290, u291, u292, u293, u294, u295, u296, u297, u298, u299, u300, u301, u302, u303, u304, u305, u306, u307, u308, u309, u310, u311, u312, u313, u314, u315, u316, u317], []⟩ wa := by
  conv => arg 2; whnf
  refine seam2 ?_
  intro K hK K1 hK1
  have HC := hid hc1
  have HZ := hid hz1
  have H8 := hid hf8
  clear hc1 hz1 hf8
  cases prior
  · have HP := hid P
    clear P
    go_wp2
    exact hK.out _ _ (partB2 a0 a1 c0 c1 ls ts N la lc i ob b mb vb fl v sv vv had false w wa H8.out hn hm HC.out HZ.out HP.out h0 h1 _ _ _ _ _ _ _ _ _ _ _ _ _ _ _ _ _ _ _ _ _ _ _ _ _ _ _ _ _ _ _ _ _ _ _ _ _ _ _ _ _ _ _ _ _ _ _ _ _ _ _ _ _ _ _ _ _ _ _ _ _ _ _ _ _ _ _ _ _ _ _ _ _ _ _ _ _ _ _ _ _ _ _ _ _ _ _ _ _ _ _ _ _ _ _ _ _ _ _ _ _ _ _ _ _ _ _ _ _ _ _ _ _ _ _ _ _ _ _ _ _ _ _ _ _ _ _ _ _ _ _ _ _ _ _ _ _ _ _ _ _ _ _ _ _ _ _ _ _ _ _ _ _ _ _ _ _ _ _ _ _ _ _ _ _ _ _ _ _ _ _ _ _ _ _ _ _ _ _ _ _ _ _ _ _ _ _ _ _ _ _ _ _ _ _ _ _ _ _ _ _ _ _ _ _ _ _ _ _ _ _ _ _ _ _ _ _ _ _ _ _ _ _ _ _ _ _ _ _ _ _ _ _ _ _ _ _ _ _ _ _ _ _ _ _ _ _ _ _ _ _ _ _ _ _ _ _ _ _ _ _ _ _ _ _ _ _ _ _ _ _ _ _ _ _ _ _ _ _ _ _ _ _ _ _ _ _ _ _ _ _ _ _ _ _ _ _ _ _ _ _ _ _ _ _ _)
  · have hB : Below wa.heap.size wa wa.drew := below_drewN (Below.refl _ _) 1
    have P1 := P.grow hB
    obtain ⟨w1, hrun, hM, hT⟩ := MSt.upd Yba.underlying39 P1.st (stV mb vb sv vv)
    have a4 := P.acc.state
    have lA := P.acc.ltA
    have l4 : N + 1 + 1 + 1 + 1 < wa.heap.size := (Array.getElem?_eq_some_iff.1 P.s).1
    have s0 : wa.cell? ⟨N + 1 + 1 + 1 + 1, 0, none⟩ = some (.int .i64 mb) := (cells_of P.s).1 0
    have s1 : wa.cell? ⟨N + 1 + 1 + 1 + 1, 1, none⟩ = some (.int .i64 vb) := (cells_of P.s).1 1
    have s2 : wa.cell? ⟨N + 1 + 1 + 1 + 1, 2, none⟩ = some (.string sv) := (cells_of P.s).1 2
    have s3 : wa.cell? ⟨N + 1 + 1 + 1 + 1, 3, none⟩ = some (.bool vv) := (cells_of P.s).1 3
    have HP := hid (P1.turnS (x' := some (stV mb vb sv vv)) hT hM)
    clear P P1 hM hT hB
    go_wp2
    go_region
    go_wp2
    exact hK.out _ _ (partB2 a0 a1 c0 c1 ls ts N la lc i ob b mb vb fl v sv vv had true w w1 H8.out hn hm HC.out HZ.out HP.out h0 h1 _ _ _ _ _ _ _ _ _ _ _ _ _ _ _ _ _ _ _ _ _ _ _ _ _ _ _ _ _ _ _ _ _ _ _ _ _ _ _ _ _ _ _ _ _ _ _ _ _ _ _ _ _ _ _ _ _ _ _ _ _ _ _ _ _ _ _ _ _ _ _ _ _ _ _ _ _ _ _ _ _ _ _ _ _ _ _ _ _ _ _ _ _ _ _ _ _ _ _ _ _ _ _ _ _ _ _ _ _ _ _ _ _ _ _ _ _ _ _ _ _ _ _ _ _ _ _ _ _ _ _ _ _ _ _ _ _ _ _ _ _ _ _ _ _ _ _ _ _ _ _ _ _ _ _ _ _ _ _ _ _ _ _ _ _ _ _ _ _ _ _ _ _ _ _ _ _ _ _ _ _ _ _ _ _ _ _ _ _ _ _ _ _ _ _ _ _ _ _ _ _ _ _ _ _ _ _ _ _ _ _ _ _ _ _ _ _ _ _ _ _ _ _ _ _ _ _ _ _ _ _ _ _ _ _ _ _ _ _ _ _ _ _ _ _ _ _ _ _ _ _ _ _ _ _ _ _ _ _ _ _ _ _ _ _ _ _ _ _ _ _ _ _ _ _ _ _ _ _ _ _ _ _ _ _ _ _ _ _ _ _ _ _ _ _ _ _ _ _ _ _ _ _ _ _ _)
end Ca
end Go.Proofs.Ybulkckxo
