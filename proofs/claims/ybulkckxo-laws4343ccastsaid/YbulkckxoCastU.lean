/-
  Seat b4343a, LawS4343CCast: the law's walk, the call of cast.
-/
import Derived.Test.YbulkckxoCastT
namespace Go.Proofs.Ybulkckxo
open Go.RowKit
namespace Ca

set_option maxRecDepth 100000 in
set_option maxHeartbeats 1000000 in
theorem partD1 (a0 a1 : Option Addr) (c0 c1 : Nat) (ls ts : List ByteArray) (N E M : Nat) (la : Option Addr) (lc : Nat) (i ob b mb vb : Int) (v sv : ByteArray) (vv q r had prior : Bool) (ca : Option Addr) (cn cc g c : Nat) (w wa : World) (hq : eq49 b b v true mb vb sv vv = q) (hr : (had && (q || decide (b < ob))) = r) (hn : ls.length ≤ 1024) (hm : ts.length ≤ 1024) (O : Out E M (outL ls ts) i b v ca cn cc g c w wa) (F : Fnd N M la ls.length lc b v mb vb sv vv i q (if q = true then (if prior = true then some (stV mb vb sv vv) else none) else some (stV b b v true)) (if r = true then some (ob, ⟨#[99]⟩) else none) ca cn cc wa) (h0 : Strs w a0 ls) (h1 : Strs w a1 ts)
    (u2 u3 u4 u5 u6 u9 u10 u11 u12 u13 u14 u15 u16 u17 u18 u19 u20 u29 u31 u32 u33 u34 u35 u36 u37 u38 u39 u40 u41 u42 u43 u44 u45 u46 u47 u48 u49 u50 u51 u52 u53 u54 u55 u56 u57 u58 u59 u60 u61 u62 u63 u64 u65 u66 u67 u68 u69 u70 u71 u72 u73 u74 u75 u76 u77 u78 u79 u80 u81 u82 u83 u84 u85 u86 u87 u88 u89 u90 u91 u92 u93 u94 u95 u96 u97 u98 u99 u100 u101 u102 u103 u104 u105 u106 u107 u108 u109 u110 u111 u112 u113 u114 u115 u116 u117 u118 u119 u120 u121 u122 u123 u124 u125 u126 u127 u128 u129 u130 u131 u132 u133 u134 u135 u136 u137 u138 u139 u140 u141 u142 u143 u144 u145 u146 u147 u148 u149 u150 u151 u152 u153 u154 u155 u156 u157 u158 u159 u160 u161 u162 u163 u164 u165 u166 u167 u168 u169 u170 u171 u172 u173 u174 u175 u176 u177 u178 u179 u180 u181 u182 u183 u184 u185 u186 u187 u188 u189 u190 u191 u192 u193 u194 u195 u196 u197 u198 u199 u200 u201 u202 u203 u204 u205 u206 u207 u208 u209 u210 u211 u212 u213 u214 u215 u216 u217 u218 u219 u220 u221 u222 u223 u224 u225 u226 u227 u228 u229 u230 u231 u232 u233 u234 u235 u236 u237 u238 u239 u240 u241 u242 u243 u244 u245 u246 u247 u248 u249 u250 u251 u252 u253 u254 u255 u256 u257 u258 u259 u260 u261 u262 u263 u264 u265 u266 u267 u268 u269 u270 u271 u272 u273 u274 u275 u276 u277 u278 u279 u280 u281 u282 u283 u284 u285 u286 u287 u288 u289 u290 u291 u292 u293 u294 u295 u296 u297 u298 u299 u300 u301 u302 u303 u304 u305 u306 u307 u308 u309 u310 u311 u312 u313 u314 u315 u316 u317 : Value) :
    Code.wp Yba.prog (tailS 15 (Yba.f5.body.getD .skip)) (bodyPost Yba.prog Yba.f5 fun e w' => e = .returned (.bool true) ∧ Below w.heap.size w w') ⟨#[.slice a0 ls.length c0, .slice a1 ts.length c1, u2, u3, u4, u5, u6, .int .i64 ob, .int .i64 b, u9, u10, u11, u12, u13, u14, u15, u16, u17, u18, u19, u20, .pointer (some ⟨N + 1 + 1, 0, none⟩), .int .i64 i, .int .i64 b, .string v, .pointer (some ⟨N + 1 + 1 + 1, 0, none⟩), .pointer (some ⟨N + 1 + 1 + 1 + 1, 0, none⟩), .bool prior, .bool had, u29, .pointer (some ⟨E, 0, none⟩), u31, u32, u33, u34, u35, u36, u37, u38, u39, u40, u41, u42, u43, u44, u45, u46, u47, u48, u49, u50, u51, u52, u53, u54, u55, u56, u57, u58, u59, u60, u61, u62, u63, u64, u65, u66, u67, u68, u69, u70, u71, u72, u73, u74, u75, u76, u77, u78, u79, u80, u81, u82, u83, u84, u85, u86, u87, u88, u89, u90, u91, u92, u93, u94, u95, u96, u97, u98, u99, u100, u101, u102, u103, u104, u105, u106, u107, u108, u109, u110, u111, u112, u113, u114, u115, u116, u117, u118, u119, u120, u121, u122, u123, u124, u125, u126, u127, u128, u129, u130, u131, u132, u133, u134, u135, u136, u137, u138, u139, u140, u141, u142, u143, u144, u145, u146, u147, u148, u149, u150, u151, u152, u153, u154, u155, u156, u157, u158, u159, u160, u161, u162, u163, u164, u165, u166, u167, u168, u169, u170, u171, u172, u173, u174, u175, u176, u177, u178, u179, u180, u181, u182, u183, u184, u185, u186, u187, u188, u189, u190, u191, u192, u193, u194, u195, u196, u197, u198, u199, u200, u201, u202, u203, u204, u205, u206, u207, u208, u209, u210, u211, u212, u213, u214, u215, u216, u217, u218, u219, u220, u221, u222, u223, u224, u225, u226, u227, u228, u229, u230, u231, u232, u233, u234, u235, u236, u237, u238, u239, u240, u241, u242, u243, u244, u245, u246, u247, u248, u249, u250, u251, u252, u253, u254, u255, u256, u257, u258, u259, u260, u261, u262, u263, u264, u265, u266, u267, u268, u269, u270, u271, u272, u273, u274, u275, u276, u277, u278, u279, u280, u281, u282, u283, u284, u285, u286, u287, u288, u289, u290, u291, u292, u293, u294, u295, u296, u297, u298, u299, u300, u301, u302, u303, u304, u305, u306, u307, u308, u309, u310, u311, u312, u313, u314, u315, u316, u317], []⟩ wa := by
  conv => arg 2; whnf
  refine seam1 ?_
  intro K hK
  have l3 : N + 1 + 1 + 1 < wa.heap.size := (Array.getElem?_eq_some_iff.1 F.voted).1
  have l4 : N + 1 + 1 + 1 + 1 < wa.heap.size := (Array.getElem?_eq_some_iff.1 F.s).1
  have v0 : wa.cell? ⟨N + 1 + 1 + 1, 0, none⟩ = some (.int .i64 b) := (cells_of F.voted).1 0
  have v1 : wa.cell? ⟨N + 1 + 1 + 1, 1, none⟩ = some (.int .i64 b) := (cells_of F.voted).1 1
  have v2 : wa.cell? ⟨N + 1 + 1 + 1, 2, none⟩ = some (.string v) := (cells_of F.voted).1 2
  have v3 : wa.cell? ⟨N + 1 + 1 + 1, 3, none⟩ = some (.bool true) := (cells_of F.voted).1 3
  have s0 : wa.cell? ⟨N + 1 + 1 + 1 + 1, 0, none⟩ = some (.int .i64 mb) := (cells_of F.s).1 0
  have s1 : wa.cell? ⟨N + 1 + 1 + 1 + 1, 1, none⟩ = some (.int .i64 vb) := (cells_of F.s).1 1
  have s2 : wa.cell? ⟨N + 1 + 1 + 1 + 1, 2, none⟩ = some (.string sv) := (cells_of F.s).1 2
  have s3 : wa.cell? ⟨N + 1 + 1 + 1 + 1, 3, none⟩ = some (.bool vv) := (cells_of F.s).1 3
  have n49 := fun w => neq49 b b v true mb vb sv vv w
  simp only [hq] at n49
  have HO := hid O
  have HF := hid F
  have HR := hid hr
  clear O F hr hq
  go_wp2
  exact hK.out _ _ (partD2 a0 a1 c0 c1 ls ts N E M la lc i ob b mb vb v sv vv q r had prior ca cn cc g c w wa HR.out hn hm HO.out HF.out h0 h1 _ _ _ _ _ _ _ _ _ _ _ _ _ _ _ _ _ _ _ _ _ _ _ _ _ _ _ _ _ _ _ _ _ _ _ _ _ _ _ _ _ _ _ _ _ _ _ _ _ _ _ _ _ _ _ _ _ _ _ _ _ _ _ _ _ _ _ _ _ _ _ _ _ _ _ _ _ _ _ _ _ _ _ _ _ _ _ _ _ _ _ _ _ _ _ _ _ _ _ _ _ _ _ _ _ _ _ _ _ _ _ _ _ _ _ _ _ _ _ _ _ _ _ _ _ _ _ _ _ _ _ _ _ _ _ _ _ _ _ _ _ _ _ _ _ _ _ _ _ _ _ _ _ _ _ _ _ _ _ _ _ _ _ _ _ _ _ _ _ _ _ _ _ _ _ _ _ _ _ _ _ _ _ _ _ _ _ _ _ _ _ _ _ _ _ _ _ _ _ _ _ _ _ _ _ _ _ _ _ _ _ _ _ _ _ _ _ _ _ _ _ _ _ _ _ _ _ _ _ _ _ _ _ _ _ _ _ _ _ _ _ _ _ _ _ _ _ _ _ _ _ _ _ _ _ _ _ _ _ _ _ _ _ _ _ _ _ _ _ _ _ _ _ _ _ _ _ _ _ _ _ _ _ _ _ _ _ _ _ _ _ _ _ _ _ _ _ _ _ _ _ _ _ _)

theorem op_eq (q had : Bool) (ob b : Int) (f : ByteArray) : (if q = true then opO (if had = true then some (ob, f) else none) else opO (opAfter b b (if had = true then some (ob, f) else none))) = opO (if (had && (q || decide (b < ob))) = true then some (ob, f) else none) := by
  cases had
  · cases q <;> rfl
  · cases q
    · by_cases h : b < ob
      · have h' : b ≤ ob := by omega
        simp [opAfter, h, h']
      · simp [opAfter, h]
    · rfl

theorem Pre.grow {N : Nat} {la : Option Addr} {lc : Nat} {ls : List ByteArray} {b : Int} {v : ByteArray} {mb vb : Int} {sv : ByteArray} {vv : Bool} {i : Int} {x : Option Value} {oo : Option (Int × ByteArray)} {w W W' : World}
    (h : Pre N la lc ls b v mb vb sv vv i x oo w W) (hb : Below W.heap.size W W') : Pre N la lc ls b v mb vb sv vv i x oo w W' :=
  ⟨h.acc.ex (Ex.below hb), (hb.block _ (Array.getElem?_eq_some_iff.1 h.voted).1).trans h.voted, (hb.block _ (Array.getElem?_eq_some_iff.1 h.s).1).trans h.s, h.st.at (hb.block _ h.st.lt), h.op.at (hb.block _ h.op.lt), h.strs.below hb, h.below.trans (hb.mono h.below.size), h.le⟩

/-- Behind cast, and the store of what it returned. -/
theorem after_cast {N : Nat} {la : Option Addr} {lc : Nat} {ls ts : List ByteArray} {b : Int} {v : ByteArray} {mb vb : Int} {sv : ByteArray} {vv q : Bool} {i : Int} {x : Option Value} {oo oo' : Option (Int × ByteArray)} {w W0 W : World} {ca : Option Addr} {cn cc g c : Nat}
    (P : Pre N la lc ls b v mb vb sv vv i x oo w W0) (hc : Chg q W0.heap.size i b v W ca cn cc) (own : W.ownsRow W0.heap.size 69 10 (.slice (some ⟨g, 0, none⟩) (outL ls ts).length c) (outL ls ts).length (sends i b v (outL ls ts)))
    (hS : MSt W N i (if q = true then x else some (stV b b v true))) (hO : MSt W (N + 1) i (if q = true then opO oo else opO (opAfter b b oo))) (hE : Ex N (N + 1) W0 W) (he : (if q = true then opO oo else opO (opAfter b b oo)) = opO oo') :
    Out W.heap.size W0.heap.size (outL ls ts) i b v ca cn cc g c w (W.alloc (.cells (effC (.slice ca cn cc) (.slice (some ⟨g, 0, none⟩) (outL ls ts).length c)) 59)) ∧
      Fnd N W0.heap.size la ls.length lc b v mb vb sv vv i q (if q = true then x else some (stV b b v true)) oo' ca cn cc (W.alloc (.cells (effC (.slice ca cn cc) (.slice (some ⟨g, 0, none⟩) (outL ls ts).length c)) 59)) := by
  have hB : Below W.heap.size W (W.alloc (.cells (effC (.slice ca cn cc) (.slice (some ⟨g, 0, none⟩) (outL ls ts).length c)) 59)) := (Below.refl _ _).alloc (Nat.le_refl _) _
  have hle := P.le
  have hbw : Below w.heap.size w W := P.below.trans (hE.toBelow P.below.size hle (by omega))
  have l3 := (Array.getElem?_eq_some_iff.1 P.voted).1
  have l4 := (Array.getElem?_eq_some_iff.1 P.s).1
  rw [he] at hO
  have F : Fnd N W0.heap.size la ls.length lc b v mb vb sv vv i q (if q = true then x else some (stV b b v true)) oo' ca cn cc W :=
    ⟨P.acc.ex hE, (hE.block _ l3 (by omega) (by omega)).trans P.voted, (hE.block _ l4 (by omega) (by omega)).trans P.s, hc, hS, hO⟩
  exact ⟨⟨heap_alloc_new W _, ownsRow_grow own hB, hbw.trans (hB.mono hbw.size)⟩, F.grow hB⟩

set_option maxRecDepth 100000 in
set_option maxHeartbeats 1000000 in
theorem partC2 (a0 a1 ta : Option Addr) (c0 c1 tc : Nat) (ls ts : List ByteArray) (N : Nat) (la : Option Addr) (lc : Nat) (i ob b mb vb : Int) (v sv : ByteArray) (vv had prior : Bool) (w wa : World) (hn : ls.length ≤ 1024) (hm : ts.length ≤ 1024) (P : Pre N la lc ls b v mb vb sv vv i (if prior = true then some (stV mb vb sv vv) else none) (if had = true then some (ob, ⟨#[99]⟩) else none) w wa) (hT : Strs wa ta ts) (h0 : Strs w a0 ls) (h1 : Strs w a1 ts)
    (u2 u3 u4 u5 u6 u9 u10 u11 u12 u13 u14 u15 u16 u17 u18 u19 u20 u30 u31 u32 u33 u34 u35 u36 u37 u38 u39 u40 u41 u42 u43 u44 u45 u46 u47 u48 u49 u50 u51 u52 u53 u54 u55 u56 u57 u58 u59 u60 u61 u62 u63 u64 u65 u66 u67 u68 u69 u70 u71 u72 u73 u74 u75 u76 u77 u78 u79 u80 u81 u82 u83 u84 u85 u86 u87 u88 u89 u90 u91 u92 u93 u94 u95 u96 u97 u98 u99 u100 u101 u102 u103 u104 u105 u106 u107 u108 u109 u110 u111 u112 u113 u114 u115 u116 u117 u118 u119 u120 u121 u122 u123 u124 u125 u126 u127 u128 u129 u130 u131 u132 u133 u134 u135 u136 u137 u138 u139 u140 u141 u142 u143 u144 u145 u146 u147 u148 u149 u150 u151 u152 u153 u154 u155 u156 u157 u158 u159 u160 u161 u162 u163 u164 u165 u166 u167 u168 u169 u170 u171 u172 u173 u174 u175 u176 u177 u178 u179 u180 u181 u182 u183 u184 u185 u186 u187 u188 u189 u190 u191 u192 u193 u194 u195 u196 u197 u198 u199 u200 u201 u202 u203 u204 u205 u206 u207 u208 u209 u210 u211 u212 u213 u214 u215 u216 u217 u218 u219 u220 u221 u222 u223 u224 u225 u226 u227 u228 u229 u230 u231 u232 u233 u234 u235 u236 u237 u238 u239 u240 u241 u242 u243 u244 u245 u246 u247 u248 u249 u250 u251 u252 u253 u254 u255 u256 u257 u258 u259 u260 u261 u262 u263 u264 u265 u266 u267 u268 u269 u270 u271 u272 u273 u274 u275 u276 u277 u278 u279 u280 u281 u282 u283 u284 u285 u286 u287 u288 u289 u290 u291 u292 u293 u294 u295 u296 u297 u298 u299 u300 u301 u302 u303 u304 u305 u306 u307 u308 u309 u310 u311 u312 u313 u314 u315 u316 u317 : Value) :
    Code.wp Yba.prog (tailS 14 (Yba.f5.body.getD .skip)) (bodyPost Yba.prog Yba.f5 fun e w' => e = .returned (.bool true) ∧ Below w.heap.size w w') ⟨#[.slice a0 ls.length c0, .slice a1 ts.length c1, u2, u3, u4, u5, u6, .int .i64 ob, .int .i64 b, u9, u10, u11, u12, u13, u14, u15, u16, u17, u18, u19, u20, .pointer (some ⟨N + 1 + 1, 0, none⟩), .int .i64 i, .int .i64 b, .string v, .pointer (some ⟨N + 1 + 1 + 1, 0, none⟩), .pointer (some ⟨N + 1 + 1 + 1 + 1, 0, none⟩), .bool prior, .bool had, .slice ta ts.length tc, u30, u31, u32, u33, u34, u35, u36, u37, u38, u39, u40, u41, u42, u43, u44, u45, u46, u47, u48, u49, u50, u51, u52, u53, u54, u55, u56, u57, u58, u59, u60, u61, u62, u63, u64, u65, u66, u67, u68, u69, u70, u71, u72, u73, u74, u75, u76, u77, u78, u79, u80, u81, u82, u83, u84, u85, u86, u87, u88, u89, u90, u91, u92, u93, u94, u95, u96, u97, u98, u99, u100, u101, u102, u103, u104, u105, u106, u107, u108, u109, u110, u111, u112, u113, u114, u115, u116, u117, u118, u119, u120, u121, u122, u123, u124, u125, u126, u127, u128, u129, u130, u131, u132, u133, u134, u135, u136, u137, u138, u139, u140, u141, u142, u143, u144, u145, u146, u147, u148, u149, u150, u151, u152, u153, u154, u155, u156, u157, u158, u159, u160, u161, u162, u163, u164, u165, u166, u167, u168, u169, u170, u171, u172, u173, u174, u175, u176, u177, u178, u179, u180, u181, u182, u183, u184, u185, u186, u187, u188, u189, u190, u191, u192, u193, u194, u195, u196, u197, u198, u199, u200, u201, u202, u203, u204, u205, u206, u207, u208, u209, u210, u211, u212, u213, u214, u215, u216, u217, u218, u219, u220, u221, u222, u223, u224, u225, u226, u227, u228, u229, u230, u231, u232, u233, u234, u235, u236, u237, u238, u239, u240, u241, u242, u243, u244, u245, u246, u247, u248, u249, u250, u251, u252, u253, u254, u255, u256, u257, u258, u259, u260, u261, u262, u263, u264, u265, u266, u267, u268, u269, u270, u271, u272, u273, u274, u275, u276, u277, u278, u279, u280, u281, u282, u283, u284, u285, u286, u287, u288, u289, u290, u291, u292, u293, u294, u295, u296, u297, u298, u299, u300, u301, u302, u303, u304, u305, u306, u307, u308, u309, u310, u311, u312, u313, u314, u315, u316, u317], []⟩ wa := by
  conv => arg 2; whnf
  refine seam1 ?_
  intro K hK
  have HP := hid P
  have HT := hid hT
  have l4 : N + 1 + 1 + 1 + 1 < wa.heap.size := (Array.getElem?_eq_some_iff.1 P.s).1
  have s0 : wa.cell? ⟨N + 1 + 1 + 1 + 1, 0, none⟩ = some (.int .i64 mb) := (cells_of P.s).1 0
  have s1 : wa.cell? ⟨N + 1 + 1 + 1 + 1, 1, none⟩ = some (.int .i64 vb) := (cells_of P.s).1 1
  have s2 : wa.cell? ⟨N + 1 + 1 + 1 + 1, 2, none⟩ = some (.string sv) := (cells_of P.s).1 2
  have s3 : wa.cell? ⟨N + 1 + 1 + 1 + 1, 3, none⟩ = some (.bool vv) := (cells_of P.s).1 3
  clear P hT
  go_wp2_with fail
  refine (cast_any (N + 1 + 1) N (N + 1) la ta lc tc ls ts i b mb vb v sv vv _ _ _ _ rfl HP.out.acc HP.out.st HP.out.op HP.out.strs HT.out hn hm).mono ?_
  intro e W hk
  obtain ⟨ca, cn, cc, g, c, rfl, hC, own, hS, hO, hE⟩ := hk
  have HR := hid (after_cast HP.out hC own hS hO hE (op_eq _ had ob b ⟨#[99]⟩))
  clear hC own hS hO hE
  go_wp2
  exact hK.out _ _ (partD1 a0 a1 c0 c1 ls ts N W.heap.size wa.heap.size la lc i ob b mb vb v sv vv _ _ had prior ca cn cc g c w _ rfl rfl hn hm HR.out.1 HR.out.2 h0 h1 _ _ _ _ _ _ _ _ _ _ _ _ _ _ _ _ _ _ _ _ _ _ _ _ _ _ _ _ _ _ _ _ _ _ _ _ _ _ _ _ _ _ _ _ _ _ _ _ _ _ _ _ _ _ _ _ _ _ _ _ _ _ _ _ _ _ _ _ _ _ _ _ _ _ _ _ _ _ _ _ _ _ _ _ _ _ _ _ _ _ _ _ _ _ _ _ _ _ _ _ _ _ _ _ _ _ _ _ _ _ _ _ _ _ _ _ _ _ _ _ _ _ _ _ _ _ _ _ _ _ _ _ _ _ _ _ _ _ _ _ _ _ _ _ _ _ _ _ _ _ _ _ _ _ _ _ _ _ _ _ _ _ _ _ _ _ _ _ _ _ _ _ _ _ _ _ _ _ _ _ _ _ _ _ _ _ _ _ _ _ _ _ _ _ _ _ _ _ _ _ _ _ _ _ _ _ _ _ _ _ _ _ _ _ _ _ _ _ _ _ _ _ _ _ _ _ _ _ _ _ _ _ _ _ _ _ _ _ _ _ _ _ _ _ _ _ _ _ _ _ _ _ _ _ _ _ _ _ _ _ _ _ _ _ _ _ _ _ _ _ _ _ _ _ _ _ _ _ _ _ _ _ _ _ _ _ _ _ _ _ _ _ _ _ _ _ _ _ _ _ _ _ _ _ _)

set_option maxRecDepth 100000 in
set_option maxHeartbeats 1000000 in
theorem partC1 (a0 a1 : Option Addr) (c0 c1 : Nat) (ls ts : List ByteArray) (N : Nat) (la : Option Addr) (lc : Nat) (i ob b mb vb : Int) (v sv : ByteArray) (vv had prior : Bool) (w wa : World) (hn : ls.length ≤ 1024) (hm : ts.length ≤ 1024) (hc1 : ∀ ad, a1 = some ad → ∀ j u, (ts.map Value.string)[j]? = some u → w.cell? (ad.add j) = some u) (hz1 : a1 = none → ts.length = 0) (P : Pre N la lc ls b v mb vb sv vv i (if prior = true then some (stV mb vb sv vv) else none) (if had = true then some (ob, ⟨#[99]⟩) else none) w wa) (h0 : Strs w a0 ls) (h1 : Strs w a1 ts)
    (u2 u3 u4 u5 u6 u9 u10 u11 u12 u13 u14 u15 u16 u17 u18 u19 u20 u29 u30 u31 u32 u33 u34 u35 u36 u37 u38 u39 u40 u41 u42 u43 u44 u45 u46 u47 u48 u49 u50 u51 u52 u53 u54 u55 u56 u57 u58 u59 u60 u61 u62 u63 u64 u65 u66 u67 u68 u69 u70 u71 u72 u73 u74 u75 u76 u77 u78 u79 u80 u81 u82 u83 u84 u85 u86 u87 u88 u89 u90 u91 u92 u93 u94 u95 u96 u97 u98 u99 u100 u101 u102 u103 u104 u105 u106 u107 u108 u109 u110 u111 u112 u113 u114 u115 u116 u117 u118 u119 u120 u121 u122 u123 u124 u125 u126 u127 u128 u129 u130 u131 u132 u133 u134 u135 u136 u137 u138 u139 u140 u141 u142 u143 u144 u145 u146 u147 u148 u149 u150 u151 u152 u153 u154 u155 u156 u157 u158 u159 u160 u161 u162 u163 u164 u165 u166 u167 u168 u169 u170 u171 u172 u173 u174 u175 u176 u177 u178 u179 u180 u181 u182 u183 u184 u185 u186 u187 u188 u189 u190 u191 u192 u193 u194 u195 u196 u197 u198 u199 u200 u201 u202 u203 u204 u205 u206 u207 u208 u209 u210 u211 u212 u213 u214 u215 u216 u217 u218 u219 u220 u221 u222 u223 u224 u225 u226 u227 u228 u229 u230 u231 u232 u233 u234 u235 u236 u237 u238 u239 u240 u241 u242 u243 u244 u245 u246 u247 u248 u249 u250 u251 u252 u253 u254 u255 u256 u257 u258 u259 u260 u261 u262 u263 u264 u265 u266 u267 u268 u269 u270 u271 u272 u273 u274 u275 u276 u277 u278 u279 u280 u281 u282 u283 u284 u285 u286 u287 u288 u289 u290 u291 u292 u293 u294 u295 u296 u297 u298 u299 u300 u301 u302 u303 u304 u305 u306 u307 u308 u309 u310 u311 u312 u313 u314 u315 u316 u317 : Value) :
    Code.wp Yba.prog (tailS 13 (Yba.f5.body.getD .skip)) (bodyPost Yba.prog Yba.f5 fun e w' => e = .returned (.bool true) ∧ Below w.heap.size w w') ⟨#[.slice a0 ls.length c0, .slice a1 ts.length c1, u2, u3, u4, u5, u6, .int .i64 ob, .int .i64 b, u9, u10, u11, u12, u13, u14, u15, u16, u17, u18, u19, u20, .pointer (some ⟨N + 1 + 1, 0, none⟩), .int .i64 i, .int .i64 b, .string v, .pointer (some ⟨N + 1 + 1 + 1, 0, none⟩), .pointer (some ⟨N + 1 + 1 + 1 + 1, 0, none⟩), .bool prior, .bool had, u29, u30, u31, u32, u33, u34, u35, u36, u37, u38, u39, u40, u41, u42, u43, u44, u45, u46, u47, u48, u49, u50, u51, u52, u53, u54, u55, u56, u57, u58, u59, u60, u61, u62, u63, u64, u65, u66, u67, u68, u69, u70, u71, u72, u73, u74, u75, u76, u77, u78, u79, u80, u81, u82, u83, u84, u85, u86, u87, u88, u89, u90, u91, u92, u93, u94, u95, u96, u97, u98, u99, u100, u101, u102, u103, u104, u105, u106, u107, u108, u109, u110, u111, u112, u113, u114, u115, u116, u117, u118, u119, u120, u121, u122, u123, u124, u125, u126, u127, u128, u129, u130, u131, u132, u133, u134, u135, u136, u137, u138, u139, u140, u141, u142, u143, u144, u145, u146, u147, u148, u149, u150, u151, u152, u153, u154, u155, u156, u157, u158, u159, u160, u161, u162, u163, u164, u165, u166, u167, u168, u169, u170, u171, u172, u173, u174, u175, u176, u177, u178, u179, u180, u181, u182, u183, u184, u185, u186, u187, u188, u189, u190, u191, u192, u193, u194, u195, u196, u197, u198, u199, u200, u201, u202, u203, u204, u205, u206, u207, u208, u209, u210, u211, u212, u213, u214, u215, u216, u217, u218, u219, u220, u221, u222, u223, u224, u225, u226, u227, u228, u229, u230, u231, u232, u233, u234, u235, u236, u237, u238, u239, u240, u241, u242, u243, u244, u245, u246, u247, u248, u249, u250, u251, u252, u253, u254, u255, u256, u257, u258, u259, u260, u261, u262, u263, u264, u265, u266, u267, u268, u269, u270, u271, u272, u273, u274, u275, u276, u277, u278, u279, u280, u281, u282, u283, u284, u285, u286, u287, u288, u289, u290, u291, u292, u293, u294, u295, u296, u297, u298, u299, u300, u301, u302, u303, u304, u305, u306, u307, u308, u309, u310, u311, u312, u313, u314, u315, u316, u317], []⟩ wa := by
  conv => arg 2; whnf
  refine seam1 ?_
  intro K hK
  have HP := hid P
  have HC : Hid (∀ ad, a1 = some ad → ∀ j u, (ts.map Value.string)[j]? = some u → wa.cell? (ad.add j) = some u) := fun ad ha j u hj => (P.below.cell (p := ad.add j) (World.block_lt_of_cell? _ _ (hc1 ad ha j u hj))).trans (hc1 ad ha j u hj)
  clear P hc1
  go_wp2_with fail
  refine (clone_any a1 c1 ts.length ts _ rfl (by omega) HC.out hz1).mono ?_
  intro e W hk
  obtain ⟨⟨ta, tc, rfl, hT⟩, hB⟩ := hk
  have HT := hid hT
  have HB := hid hB
  clear hT hB
  go_wp2
  exact hK.out _ _ (partC2 a0 a1 ta c0 c1 tc ls ts N la lc i ob b mb vb v sv vv had prior w W hn hm (HP.out.grow HB.out) HT.out h0 h1 _ _ _ _ _ _ _ _ _ _ _ _ _ _ _ _ _ _ _ _ _ _ _ _ _ _ _ _ _ _ _ _ _ _ _ _ _ _ _ _ _ _ _ _ _ _ _ _ _ _ _ _ _ _ _ _ _ _ _ _ _ _ _ _ _ _ _ _ _ _ _ _ _ _ _ _ _ _ _ _ _ _ _ _ _ _ _ _ _ _ _ _ _ _ _ _ _ _ _ _ _ _ _ _ _ _ _ _ _ _ _ _ _ _ _ _ _ _ _ _ _ _ _ _ _ _ _ _ _ _ _ _ _ _ _ _ _ _ _ _ _ _ _ _ _ _ _ _ _ _ _ _ _ _ _ _ _ _ _ _ _ _ _ _ _ _ _ _ _ _ _ _ _ _ _ _ _ _ _ _ _ _ _ _ _ _ _ _ _ _ _ _ _ _ _ _ _ _ _ _ _ _ _ _ _ _ _ _ _ _ _ _ _ _ _ _ _ _ _ _ _ _ _ _ _ _ _ _ _ _ _ _ _ _ _ _ _ _ _ _ _ _ _ _ _ _ _ _ _ _ _ _ _ _ _ _ _ _ _ _ _ _ _ _ _ _ _ _ _ _ _ _ _ _ _ _ _ _ _ _ _ _ _ _ _ _ _ _ _ _ _ _ _ _ _ _ _ _ _ _ _ _ _ _ _)
end Ca
end Go.Proofs.Ybulkckxo
