/-
  Seat b4343a, LawS4343CCast: the law's walk, the state.
-/
import Derived.Test.YbulkckxoCastR
namespace Go.Proofs.Ybulkckxo
open Go.RowKit
namespace Ca

set_option maxRecDepth 100000 in
set_option maxHeartbeats 1000000 in
theorem partD2 (a0 a1 : Option Addr) (c0 c1 : Nat) (ls ts : List ByteArray) (N E M : Nat) (la : Option Addr) (lc : Nat) (i ob b mb vb : Int) (v sv : ByteArray) (vv q r had prior : Bool) (ca : Option Addr) (cn cc g c : Nat) (w wa : World) (hr : (had && (q || decide (b < ob))) = r) (hn : ls.length ≤ 1024) (hm : ts.length ≤ 1024) (O : Out E M (outL ls ts) i b v ca cn cc g c w wa) (F : Fnd N M la ls.length lc b v mb vb sv vv i q (if q = true then (if prior = true then some (stV mb vb sv vv) else none) else some (stV b b v true)) (if r = true then some (ob, ⟨#[99]⟩) else none) ca cn cc wa) (h0 : Strs w a0 ls) (h1 : Strs w a1 ts)
    (u2 u3 u4 u5 u6 u9 u10 u11 u12 u13 u14 u15 u16 u17 u18 u19 u20 u29 u32 u33 u34 u35 u36 u37 u38 u39 u40 u41 u42 u43 u44 u45 u46 u47 u48 u49 u50 u51 u52 u53 u54 u55 u56 u57 u58 u59 u60 u61 u62 u63 u64 u65 u66 u67 u68 u69 u70 u71 u72 u73 u74 u75 u76 u77 u78 u79 u80 u81 u82 u83 u84 u85 u86 u87 u88 u89 u90 u91 u92 u93 u94 u95 u96 u97 u98 u99 u100 u101 u102 u103 u104 u105 u106 u107 u108 u109 u110 u111 u112 u113 u114 u115 u116 u117 u118 u119 u120 u121 u122 u123 u124 u125 u126 u127 u128 u129 u130 u131 u132 u133 u134 u135 u136 u137 u138 u139 u140 u141 u142 u143 u144 u145 u146 u147 u148 u149 u150 u151 u152 u153 u154 u155 u156 u157 u158 u159 u160 u161 u162 u163 u164 u165 u166 u167 u168 u169 u170 u171 u172 u173 u174 u175 u176 u177 u178 u179 u180 u181 u182 u183 u184 u185 u186 u187 u188 u189 u190 u191 u192 u193 u194 u195 u196 u197 u198 u199 u200 u201 u202 u203 u204 u205 u206 u207 u208 u209 u210 u211 u212 u213 u214 u215 u216 u217 u218 u219 u220 u221 u222 u223 u224 u225 u226 u227 u228 u229 u230 u231 u232 u233 u234 u235 u236 u237 u238 u239 u240 u241 u242 u243 u244 u245 u246 u247 u248 u249 u250 u251 u252 u253 u254 u255 u256 u257 u258 u259 u260 u261 u262 u263 u264 u265 u266 u267 u268 u269 u270 u271 u272 u273 u274 u275 u276 u277 u278 u279 u280 u281 u282 u283 u284 u285 u286 u287 u288 u289 u290 u291 u292 u293 u294 u295 u296 u297 u298 u299 u300 u301 u302 u303 u304 u305 u306 u307 u308 u309 u310 u311 u312 u313 u314 u315 u316 u317 : Value) :
    Code.wp Yba.prog (tailS 16 (Yba.f5.body.getD .skip)) (bodyPost Yba.prog Yba.f5 fun e w' => e = .returned (.bool true) ∧ Below w.heap.size w w') ⟨#[.slice a0 ls.length c0, .slice a1 ts.length c1, u2, u3, u4, u5, u6, .int .i64 ob, .int .i64 b, u9, u10, u11, u12, u13, u14, u15, u16, u17, u18, u19, u20, .pointer (some ⟨N + 1 + 1, 0, none⟩), .int .i64 i, .int .i64 b, .string v, .pointer (some ⟨N + 1 + 1 + 1, 0, none⟩), .pointer (some ⟨N + 1 + 1 + 1 + 1, 0, none⟩), .bool prior, .bool had, u29, .pointer (some ⟨E, 0, none⟩), .bool !q, u32, u33, u34, u35, u36, u37, u38, u39, u40, u41, u42, u43, u44, u45, u46, u47, u48, u49, u50, u51, u52, u53, u54, u55, u56, u57, u58, u59, u60, u61, u62, u63, u64, u65, u66, u67, u68, u69, u70, u71, u72, u73, u74, u75, u76, u77, u78, u79, u80, u81, u82, u83, u84, u85, u86, u87, u88, u89, u90, u91, u92, u93, u94, u95, u96, u97, u98, u99, u100, u101, u102, u103, u104, u105, u106, u107, u108, u109, u110, u111, u112, u113, u114, u115, u116, u117, u118, u119, u120, u121, u122, u123, u124, u125, u126, u127, u128, u129, u130, u131, u132, u133, u134, u135, u136, u137, u138, u139, u140, u141, u142, u143, u144, u145, u146, u147, u148, u149, u150, u151, u152, u153, u154, u155, u156, u157, u158, u159, u160, u161, u162, u163, u164, u165, u166, u167, u168, u169, u170, u171, u172, u173, u174, u175, u176, u177, u178, u179, u180, u181, u182, u183, u184, u185, u186, u187, u188, u189, u190, u191, u192, u193, u194, u195, u196, u197, u198, u199, u200, u201, u202, u203, u204, u205, u206, u207, u208, u209, u210, u211, u212, u213, u214, u215, u216, u217, u218, u219, u220, u221, u222, u223, u224, u225, u226, u227, u228, u229, u230, u231, u232, u233, u234, u235, u236, u237, u238, u239, u240, u241, u242, u243, u244, u245, u246, u247, u248, u249, u250, u251, u252, u253, u254, u255, u256, u257, u258, u259, u260, u261, u262, u263, u264, u265, u266, u267, u268, u269, u270, u271, u272, u273, u274, u275, u276, u277, u278, u279, u280, u281, u282, u283, u284, u285, u286, u287, u288, u289, u290, u291, u292, u293, u294, u295, u296, u297, u298, u299, u300, u301, u302, u303, u304, u305, u306, u307, u308, u309, u310, u311, u312, u313, u314, u315, u316, u317], []⟩ wa := by
  conv => arg 2; whnf
  refine seam1 ?_
  intro K hK
  have HO := hid O
  clear O
  cases q
  · have a4 := F.acc.state
    have lA := F.acc.ltA
    have l3 : N + 1 + 1 + 1 < wa.heap.size := (Array.getElem?_eq_some_iff.1 F.voted).1
    have l4 : N + 1 + 1 + 1 + 1 < wa.heap.size := (Array.getElem?_eq_some_iff.1 F.s).1
    have lE : E < wa.heap.size := (Array.getElem?_eq_some_iff.1 HO.out.e).1
    have v0 : wa.cell? ⟨N + 1 + 1 + 1, 0, none⟩ = some (.int .i64 b) := (cells_of F.voted).1 0
    have v1 : wa.cell? ⟨N + 1 + 1 + 1, 1, none⟩ = some (.int .i64 b) := (cells_of F.voted).1 1
    have v2 : wa.cell? ⟨N + 1 + 1 + 1, 2, none⟩ = some (.string v) := (cells_of F.voted).1 2
    have v3 : wa.cell? ⟨N + 1 + 1 + 1, 3, none⟩ = some (.bool true) := (cells_of F.voted).1 3
    have s0 : wa.cell? ⟨N + 1 + 1 + 1 + 1, 0, none⟩ = some (.int .i64 mb) := (cells_of F.s).1 0
    have s1 : wa.cell? ⟨N + 1 + 1 + 1 + 1, 1, none⟩ = some (.int .i64 vb) := (cells_of F.s).1 1
    have s2 : wa.cell? ⟨N + 1 + 1 + 1 + 1, 2, none⟩ = some (.string sv) := (cells_of F.s).1 2
    have s3 : wa.cell? ⟨N + 1 + 1 + 1 + 1, 3, none⟩ = some (.bool vv) := (cells_of F.s).1 3
    have e0 : wa.cell? ⟨E, 0, none⟩ = some (.slice ca cn cc) := (cells_of HO.out.e).1 0
    have hB : ∀ n, Below wa.heap.size wa ((wa.drewN n).alloc (oS b b v true)) := fun n => (below_drewN (Below.refl _ _) n).alloc (Nat.le_refl _) _
    have hS : MOne wa N i (stV b b v true) := F.st
    have hS1 : ∀ n, MOne ((wa.drewN n).alloc (oS b b v true)) N i (stV b b v true) := fun n => hS.at ((hB n).block _ hS.lt)
    have hl := fun n => look_one (w := wa.drewN n) Yba.underlying39 (hS.at rfl) true
    have hn1 := fun n => len_one Yba.underlying39 (hS1 n)
    have hC := F.chg
    unfold Chg at hC
    rw [if_neg (by decide)] at hC
    obtain ⟨h, rfl, rfl, rfl, _, hc⟩ := hC
    have lh : h < wa.heap.size := (Array.getElem?_eq_some_iff.1 hc).1
    have h0' : wa.cell? ⟨h, 0, none⟩ = some (.int .i64 i) := (cells_of hc).1 0
    have h1' : wa.cell? ⟨h, 1, none⟩ = some (.int .i64 b) := (cells_of hc).1 1
    have h2' : wa.cell? ⟨h, 2, none⟩ = some (.int .i64 b) := (cells_of hc).1 2
    have h3' : wa.cell? ⟨h, 3, none⟩ = some (.string v) := (cells_of hc).1 3
    have h4' : wa.cell? ⟨h, 4, none⟩ = some (.bool true) := (cells_of hc).1 4
    have n62 := neq62_self i b b v true
    have n49 := neq49_self b b v true
    have HF := hid F
    clear F hB hS hS1 hl hn1 hc
    go_wp2
    go_quiet (fail)
    have hBd := below_drewN (Below.refl wa.heap.size wa) nq
    have F2 := HF.out.grow hBd
    have O2 := HO.out.grow hBd
    clear hBd HF HO a4 lA l3 l4 lE v0 v1 v2 v3 s0 s1 s2 s3 e0 lh h0' h1' h2' h3' h4' n62
    generalize wa.drewN nq = W at F2 O2 ⊢
    have a4 := F2.acc.state
    have lA := F2.acc.ltA
    have l3 : N + 1 + 1 + 1 < W.heap.size := (Array.getElem?_eq_some_iff.1 F2.voted).1
    have v0 : W.cell? ⟨N + 1 + 1 + 1, 0, none⟩ = some (.int .i64 b) := (cells_of F2.voted).1 0
    have v1 : W.cell? ⟨N + 1 + 1 + 1, 1, none⟩ = some (.int .i64 b) := (cells_of F2.voted).1 1
    have v2 : W.cell? ⟨N + 1 + 1 + 1, 2, none⟩ = some (.string v) := (cells_of F2.voted).1 2
    have v3 : W.cell? ⟨N + 1 + 1 + 1, 3, none⟩ = some (.bool true) := (cells_of F2.voted).1 3
    have hB : Below W.heap.size W (W.alloc (oS b b v true)) := (Below.refl _ _).alloc (Nat.le_refl _) _
    have hS : MOne W N i (stV b b v true) := F2.st
    have hS1 : MOne (W.alloc (oS b b v true)) N i (stV b b v true) := hS.at (hB.block _ hS.lt)
    have hl := look_one Yba.underlying39 hS true
    have hn1 := len_one Yba.underlying39 hS1
    have HF := hid F2
    have HO := hid O2
    have HB := hid hB
    clear F2 O2 hB hS hS1
    go_wp2
    exact hK.out _ _ (partE1 a0 a1 c0 c1 ls ts N E M la lc i ob b mb vb v sv vv false r had _ _ _ _ g c w _ hr hn hm (HO.out.grow HB.out) (HF.out.grow HB.out) h0 h1 _ _ _ _ _ _ _ _ _ _ _ _ _ _ _ _ _ _ _ _ _ _ _ _ _ _ _ _ _ _ _ _ _ _ _ _ _ _ _ _ _ _ _ _ _ _ _ _ _ _ _ _ _ _ _ _ _ _ _ _ _ _ _ _ _ _ _ _ _ _ _ _ _ _ _ _ _ _ _ _ _ _ _ _ _ _ _ _ _ _ _ _ _ _ _ _ _ _ _ _ _ _ _ _ _ _ _ _ _ _ _ _ _ _ _ _ _ _ _ _ _ _ _ _ _ _ _ _ _ _ _ _ _ _ _ _ _ _ _ _ _ _ _ _ _ _ _ _ _ _ _ _ _ _ _ _ _ _ _ _ _ _ _ _ _ _ _ _ _ _ _ _ _ _ _ _ _ _ _ _ _ _ _ _ _ _ _ _ _ _ _ _ _ _ _ _ _ _ _ _ _ _ _ _ _ _ _ _ _ _ _ _ _ _ _ _ _ _ _ _ _ _ _ _ _ _ _ _ _ _ _ _ _ _ _ _ _ _ _ _ _ _ _ _ _ _ _ _ _ _ _ _ _ _ _ _ _ _ _ _ _ _ _ _ _ _ _ _ _ _ _ _ _ _ _ _ _ _ _ _ _ _ _ _ _ _ _ _ _ _ _ _ _ _ _ _ _ _ _ _ _ _ _ _ _ _ _)
  · cases prior
    · have a4 := F.acc.state
      have lA := F.acc.ltA
      have l3 : N + 1 + 1 + 1 < wa.heap.size := (Array.getElem?_eq_some_iff.1 F.voted).1
      have l4 : N + 1 + 1 + 1 + 1 < wa.heap.size := (Array.getElem?_eq_some_iff.1 F.s).1
      have lE : E < wa.heap.size := (Array.getElem?_eq_some_iff.1 HO.out.e).1
      have v0 : wa.cell? ⟨N + 1 + 1 + 1, 0, none⟩ = some (.int .i64 b) := (cells_of F.voted).1 0
      have v1 : wa.cell? ⟨N + 1 + 1 + 1, 1, none⟩ = some (.int .i64 b) := (cells_of F.voted).1 1
      have v2 : wa.cell? ⟨N + 1 + 1 + 1, 2, none⟩ = some (.string v) := (cells_of F.voted).1 2
      have v3 : wa.cell? ⟨N + 1 + 1 + 1, 3, none⟩ = some (.bool true) := (cells_of F.voted).1 3
      have s0 : wa.cell? ⟨N + 1 + 1 + 1 + 1, 0, none⟩ = some (.int .i64 mb) := (cells_of F.s).1 0
      have s1 : wa.cell? ⟨N + 1 + 1 + 1 + 1, 1, none⟩ = some (.int .i64 vb) := (cells_of F.s).1 1
      have s2 : wa.cell? ⟨N + 1 + 1 + 1 + 1, 2, none⟩ = some (.string sv) := (cells_of F.s).1 2
      have s3 : wa.cell? ⟨N + 1 + 1 + 1 + 1, 3, none⟩ = some (.bool vv) := (cells_of F.s).1 3
      have e0 : wa.cell? ⟨E, 0, none⟩ = some (.slice ca cn cc) := (cells_of HO.out.e).1 0
      have hB : Below wa.heap.size wa (wa.alloc (oS 0 0 ⟨#[]⟩ false)) := (Below.refl _ _).alloc (Nat.le_refl _) _
      have hS : MNone wa N := F.st
      have hS1 : MNone (wa.alloc (oS 0 0 ⟨#[]⟩ false)) N := hS.at (hB.block _ hS.lt)
      have hl := look_none (w := wa) Yba.underlying39 (zero49 _) (hS.at rfl) true i
      have hn1 := len_none Yba.underlying39 hS1
      have hC := F.chg
      unfold Chg at hC
      rw [if_pos rfl] at hC
      obtain ⟨rfl, rfl, rfl⟩ := hC
      have n52 := fun (w : World) => run_neq_slice_nil (P := Yba.prog) (w := w) 52 _ none 0 0 Yba.underlying52
      have n49 := neq49_self mb vb sv vv
      have HF := hid F
      have HB := hid hB
      clear F hB hS hS1
      go_wp2
      exact hK.out _ _ (partE1 a0 a1 c0 c1 ls ts N E M la lc i ob b mb vb v sv vv true r had _ _ _ _ g c w _ hr hn hm (HO.out.grow HB.out) (HF.out.grow HB.out) h0 h1 _ _ _ _ _ _ _ _ _ _ _ _ _ _ _ _ _ _ _ _ _ _ _ _ _ _ _ _ _ _ _ _ _ _ _ _ _ _ _ _ _ _ _ _ _ _ _ _ _ _ _ _ _ _ _ _ _ _ _ _ _ _ _ _ _ _ _ _ _ _ _ _ _ _ _ _ _ _ _ _ _ _ _ _ _ _ _ _ _ _ _ _ _ _ _ _ _ _ _ _ _ _ _ _ _ _ _ _ _ _ _ _ _ _ _ _ _ _ _ _ _ _ _ _ _ _ _ _ _ _ _ _ _ _ _ _ _ _ _ _ _ _ _ _ _ _ _ _ _ _ _ _ _ _ _ _ _ _ _ _ _ _ _ _ _ _ _ _ _ _ _ _ _ _ _ _ _ _ _ _ _ _ _ _ _ _ _ _ _ _ _ _ _ _ _ _ _ _ _ _ _ _ _ _ _ _ _ _ _ _ _ _ _ _ _ _ _ _ _ _ _ _ _ _ _ _ _ _ _ _ _ _ _ _ _ _ _ _ _ _ _ _ _ _ _ _ _ _ _ _ _ _ _ _ _ _ _ _ _ _ _ _ _ _ _ _ _ _ _ _ _ _ _ _ _ _ _ _ _ _ _ _ _ _ _ _ _ _ _ _ _ _ _ _ _ _ _ _ _ _ _ _ _ _ _ _ _)
    · have a4 := F.acc.state
      have lA := F.acc.ltA
      have l3 : N + 1 + 1 + 1 < wa.heap.size := (Array.getElem?_eq_some_iff.1 F.voted).1
      have l4 : N + 1 + 1 + 1 + 1 < wa.heap.size := (Array.getElem?_eq_some_iff.1 F.s).1
      have lE : E < wa.heap.size := (Array.getElem?_eq_some_iff.1 HO.out.e).1
      have v0 : wa.cell? ⟨N + 1 + 1 + 1, 0, none⟩ = some (.int .i64 b) := (cells_of F.voted).1 0
      have v1 : wa.cell? ⟨N + 1 + 1 + 1, 1, none⟩ = some (.int .i64 b) := (cells_of F.voted).1 1
      have v2 : wa.cell? ⟨N + 1 + 1 + 1, 2, none⟩ = some (.string v) := (cells_of F.voted).1 2
      have v3 : wa.cell? ⟨N + 1 + 1 + 1, 3, none⟩ = some (.bool true) := (cells_of F.voted).1 3
      have s0 : wa.cell? ⟨N + 1 + 1 + 1 + 1, 0, none⟩ = some (.int .i64 mb) := (cells_of F.s).1 0
      have s1 : wa.cell? ⟨N + 1 + 1 + 1 + 1, 1, none⟩ = some (.int .i64 vb) := (cells_of F.s).1 1
      have s2 : wa.cell? ⟨N + 1 + 1 + 1 + 1, 2, none⟩ = some (.string sv) := (cells_of F.s).1 2
      have s3 : wa.cell? ⟨N + 1 + 1 + 1 + 1, 3, none⟩ = some (.bool vv) := (cells_of F.s).1 3
      have e0 : wa.cell? ⟨E, 0, none⟩ = some (.slice ca cn cc) := (cells_of HO.out.e).1 0
      have hB : Below wa.heap.size wa (wa.alloc (oS mb vb sv vv)) := (Below.refl _ _).alloc (Nat.le_refl _) _
      have hS : MOne wa N i (stV mb vb sv vv) := F.st
      have hS1 : MOne (wa.alloc (oS mb vb sv vv)) N i (stV mb vb sv vv) := hS.at (hB.block _ hS.lt)
      have hl := look_one (w := wa) Yba.underlying39 (hS.at rfl) true
      have hn1 := len_one Yba.underlying39 hS1
      have hC := F.chg
      unfold Chg at hC
      rw [if_pos rfl] at hC
      obtain ⟨rfl, rfl, rfl⟩ := hC
      have n52 := fun (w : World) => run_neq_slice_nil (P := Yba.prog) (w := w) 52 _ none 0 0 Yba.underlying52
      have n49 := neq49_self mb vb sv vv
      have HF := hid F
      have HB := hid hB
      clear F hB hS hS1
      go_wp2
      exact hK.out _ _ (partE1 a0 a1 c0 c1 ls ts N E M la lc i ob b mb vb v sv vv true r had _ _ _ _ g c w _ hr hn hm (HO.out.grow HB.out) (HF.out.grow HB.out) h0 h1 _ _ _ _ _ _ _ _ _ _ _ _ _ _ _ _ _ _ _ _ _ _ _ _ _ _ _ _ _ _ _ _ _ _ _ _ _ _ _ _ _ _ _ _ _ _ _ _ _ _ _ _ _ _ _ _ _ _ _ _ _ _ _ _ _ _ _ _ _ _ _ _ _ _ _ _ _ _ _ _ _ _ _ _ _ _ _ _ _ _ _ _ _ _ _ _ _ _ _ _ _ _ _ _ _ _ _ _ _ _ _ _ _ _ _ _ _ _ _ _ _ _ _ _ _ _ _ _ _ _ _ _ _ _ _ _ _ _ _ _ _ _ _ _ _ _ _ _ _ _ _ _ _ _ _ _ _ _ _ _ _ _ _ _ _ _ _ _ _ _ _ _ _ _ _ _ _ _ _ _ _ _ _ _ _ _ _ _ _ _ _ _ _ _ _ _ _ _ _ _ _ _ _ _ _ _ _ _ _ _ _ _ _ _ _ _ _ _ _ _ _ _ _ _ _ _ _ _ _ _ _ _ _ _ _ _ _ _ _ _ _ _ _ _ _ _ _ _ _ _ _ _ _ _ _ _ _ _ _ _ _ _ _ _ _ _ _ _ _ _ _ _ _ _ _ _ _ _ _ _ _ _ _ _ _ _ _ _ _ _ _ _ _ _ _ _ _ _ _ _ _ _ _ _ _ _ _)
end Ca
end Go.Proofs.Ybulkckxo
