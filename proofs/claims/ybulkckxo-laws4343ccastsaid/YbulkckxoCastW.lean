/-
  Seat b4343a, LawS4343CCast: the law's walk, whole.
-/
import Derived.Test.YbulkckxoCastV
namespace Go.Proofs.Ybulkckxo
open Go.RowKit
namespace Ca

set_option maxRecDepth 100000 in
set_option maxHeartbeats 1000000 in
theorem law_walk (a0 a1 : Option Addr) (c0 c1 : Nat) (ls ts : List ByteArray) (inst mb vb ob b : Int) (vs v : ByteArray) (fl : Int) (w : World) (hn : ls.length ≤ 1024) (hm : ts.length ≤ 1024)
    (hc0 : ∀ ad, a0 = some ad → ∀ j u, (ls.map Value.string)[j]? = some u → w.cell? (ad.add j) = some u) (hz0 : a0 = none → ls.length = 0)
    (hc1 : ∀ ad, a1 = some ad → ∀ j u, (ts.map Value.string)[j]? = some u → w.cell? (ad.add j) = some u) (hz1 : a1 = none → ts.length = 0) (h0 : Strs w a0 ls) (h1 : Strs w a1 ts) :
    Calls Yba.prog 5 #[.slice a0 ls.length c0, .slice a1 ts.length c1, .int .i64 inst, .int .i64 mb, .int .i64 vb, .string vs, .int .u8 fl, .int .i64 ob, .int .i64 b, .string v] w fun e w' => e = .returned (.bool true) ∧ Below w.heap.size w w' := by
  have hd0 : decide ((1024 : Int) < (ls.length : Int)) = false := decide_eq_false (by omega)
  have hd1 : decide ((1024 : Int) < (ts.length : Int)) = false := decide_eq_false (by omega)
  have HC0 := hid hc0
  have HC1 := hid hc1
  have HZ1 := hid hz1
  have H0 := hid h0
  have H1 := hid h1
  have hmm := @run_makeMap Yba.prog
  obtain ⟨f1, hf1⟩ : ∃ p, (bits BinOp.and IntKind.u8 fl 1 != 0) = p := ⟨_, rfl⟩
  obtain ⟨f2, hf2⟩ : ∃ p, (bits BinOp.and IntKind.u8 fl 2 != 0) = p := ⟨_, rfl⟩
  clear hc0 hc1 hz1 h0 h1
  go_enter Yba.func5, Yba.ntmps5
  go_wp2_with fail
  refine (clone_any a0 c0 ls.length ls _ rfl (by omega) HC0.out hz0).mono ?_
  intro e w1 hk
  obtain ⟨⟨la, lc, rfl, hS1⟩, hB1⟩ := hk
  have HS1 := hid hS1
  have HB1 := hid hB1
  clear hS1 hB1
  go_upto_if 77 with (fail)
  rename_i hk
  have hK := hid hk
  clear hk
  cases f2
  · go_wp2
    exact hK.out _ _ (partB1 a0 a1 c0 c1 ls ts w1.heap.size la lc inst ob b mb vb fl v vs f1 _ _ w _ rfl rfl hn hm HC1.out HZ1.out (pre_start HS1.out HB1.out) H0.out H1.out _ _ _ _ _ _ _ _ _ _ _ _ _ _ _ _ _ _ _ _ _ _ _ _ _ _ _ _ _ _ _ _ _ _ _ _ _ _ _ _ _ _ _ _ _ _ _ _ _ _ _ _ _ _ _ _ _ _ _ _ _ _ _ _ _ _ _ _ _ _ _ _ _ _ _ _ _ _ _ _ _ _ _ _ _ _ _ _ _ _ _ _ _ _ _ _ _ _ _ _ _ _ _ _ _ _ _ _ _ _ _ _ _ _ _ _ _ _ _ _ _ _ _ _ _ _ _ _ _ _ _ _ _ _ _ _ _ _ _ _ _ _ _ _ _ _ _ _ _ _ _ _ _ _ _ _ _ _ _ _ _ _ _ _ _ _ _ _ _ _ _ _ _ _ _ _ _ _ _ _ _ _ _ _ _ _ _ _ _ _ _ _ _ _ _ _ _ _ _ _ _ _ _ _ _ _ _ _ _ _ _ _ _ _ _ _ _ _ _ _ _ _ _ _ _ _ _ _ _ _ _ _ _ _ _ _ _ _ _ _ _ _ _ _ _ _ _ _ _ _ _ _ _ _ _ _ _ _ _ _ _ _ _ _ _ _ _ _ _ _ _ _ _ _ _ _ _ _ _ _ _ _ _ _ _ _ _ _ _ _ _ _ _ _ _ _ _ _ _ _ _ _ _ _ _ _ _)
  · go_wp2
    exact hK.out _ _ (partB1 a0 a1 c0 c1 ls ts w1.heap.size la lc inst ob b b b fl v v true _ _ w _ rfl rfl hn hm HC1.out HZ1.out (pre_start HS1.out HB1.out) H0.out H1.out _ _ _ _ _ _ _ _ _ _ _ _ _ _ _ _ _ _ _ _ _ _ _ _ _ _ _ _ _ _ _ _ _ _ _ _ _ _ _ _ _ _ _ _ _ _ _ _ _ _ _ _ _ _ _ _ _ _ _ _ _ _ _ _ _ _ _ _ _ _ _ _ _ _ _ _ _ _ _ _ _ _ _ _ _ _ _ _ _ _ _ _ _ _ _ _ _ _ _ _ _ _ _ _ _ _ _ _ _ _ _ _ _ _ _ _ _ _ _ _ _ _ _ _ _ _ _ _ _ _ _ _ _ _ _ _ _ _ _ _ _ _ _ _ _ _ _ _ _ _ _ _ _ _ _ _ _ _ _ _ _ _ _ _ _ _ _ _ _ _ _ _ _ _ _ _ _ _ _ _ _ _ _ _ _ _ _ _ _ _ _ _ _ _ _ _ _ _ _ _ _ _ _ _ _ _ _ _ _ _ _ _ _ _ _ _ _ _ _ _ _ _ _ _ _ _ _ _ _ _ _ _ _ _ _ _ _ _ _ _ _ _ _ _ _ _ _ _ _ _ _ _ _ _ _ _ _ _ _ _ _ _ _ _ _ _ _ _ _ _ _ _ _ _ _ _ _ _ _ _ _ _ _ _ _ _ _ _ _ _ _ _ _ _ _ _ _ _ _ _ _ _ _ _ _ _ _)
end Ca
end Go.Proofs.Ybulkckxo
