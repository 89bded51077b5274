/-
  Seat b4354aD: the listed table, from the row's condition to its cells; the witness.
-/
import Derived.Test.YbulkcldmDoorLaws
import Derived.Test.YbulkcldmDoorTie
import Derived.Test.YbulkcldmDoorCards
import Derived.ProofKit
import Derived.ChangeVars
import Derived.Deep.Strs
import Derived.LaidMore
import Derived.OpenShut
import Derived.SevenTiedAt
namespace Go.Proofs.YbulkcldmDoor
open Go.ChangeShapes Go.WideShapes Go.ChangeAt Go.RowKit Go.Deep

namespace Opk
theorem own : ownKnob Ybad.prog.godebug = none := by kernel_rfl
theorem laidOut : laidOutB Ybad.prog = true := by kernel_rfl
/-- The listed variable's name, off the given specification. -/
def vname : String := Rows.lawS4354BTableSpec.vars.headD ""
theorem gTab : Ybad.prog.globalNamed vname = some 0 := by kernel_rfl
theorem tTab : (Ybad.prog.globals[0]?).map (·.type) = some 28 := by kernel_rfl
theorem cells28 : Ybad.prog.cellsOf 28 = 12 := by kernel_rfl
theorem cells27 : Ybad.prog.cellsOf 27 = 3 := by kernel_rfl
theorem cells22 : Ybad.prog.cellsOf 22 = 1 := by kernel_rfl
theorem cells5 : Ybad.prog.cellsOf 5 = 1 := by kernel_rfl
theorem cells3 : Ybad.prog.cellsOf 3 = 1 := by kernel_rfl

abbrev theLaid : List (String × DataW Unit) := Rows.lawS4354BTableRow.laid
def cells12 : Array Value := #[.int .u8 48, .int .i64 17, .int .i64 4, .int .u8 52, .int .i64 16, .int .i64 1, .int .u8 53, .int .i64 15, .int .i64 1, .int .u8 128, .int .i64 14, .int .i64 16]
abbrev tabD {H : Type} : DataW H := Rows.laid_example_com_bytebrush_bytebrush_revisedOps

/-- One row of the table, from its reading to its three cells. -/
theorem row_of {H : Type} {enc : TypeId × Value → H} {w : World} {base : Nat} {sp : Nat → Bool} {held : Bool} {m : Nat} {cs : List Value} {x : DataW H × List MemPlace} {a b c : Int}
    (h : DataW.trod enc Ybad.prog w base sp held m 27 cs = some x) (hx : x.1 = .agg [.lit (.int .u8 a), .lit (.int .i64 b), .lit (.int .i64 c)]) : cs = [.int .u8 a, .int .i64 b, .int .i64 c] := by
  obtain ⟨y0, y1, y2, n, rfl, hl, h0, h1, h2⟩ := trod_struct3 Ybad.underlying27 h
  obtain ⟨n0, e0, rfl, _⟩ := DataW.trod_int Ybad.underlying5 h0
  obtain ⟨n1, e1, rfl, _⟩ := DataW.trod_int Ybad.underlying22 h1
  obtain ⟨n2, e2, rfl, _⟩ := DataW.trod_int Ybad.underlying3 h2
  simp only [DataW.agg.injEq, List.cons.injEq, DataW.lit.injEq, Lit.int.injEq, true_and, and_true] at hx
  obtain ⟨rfl, rfl, rfl⟩ := hx
  rw [cells27] at hl
  match cs, hl with
  | [c0, c1, c2], _ =>
    simp [cells5] at e0
    simp [cells22] at e1
    simp [cells3] at e2
    rw [e0, e1, e2]

theorem four {α : Type} {l : List α} (h : l.length = 12) : l = (l.drop 0).take 3 ++ ((l.drop 3).take 3 ++ ((l.drop 6).take 3 ++ (l.drop 9).take 3)) := by
  match l, h with
  | [_, _, _, _, _, _, _, _, _, _, _, _], _ => rfl

theorem cells_of_laid {W : World} (h : laidMetH Ybad.prog theLaid W) : W.var? Ybad.prog vname = some cells12 := by
  rw [MakeChecks.laidMetH_plain _ _ _ (by kernel_rfl)] at h
  obtain ⟨ps, ⟨g, t, cs, fuel, p, q, hg, ht, hvar, hd, _, _⟩, _⟩ := h
  obtain rfl := Option.some.inj (gTab.symm.trans hg)
  obtain rfl := Option.some.inj (tTab.symm.trans ht)
  refine hvar.trans (congrArg some ?_)
  obtain ⟨l⟩ := cs
  obtain ⟨xs, m, _, hx, hlen, hn, hel⟩ := DataW.trod_array Ybad.underlying28 hd
  rw [cells28] at hlen
  have hx1 : DataW.agg (xs.map (·.1)) = tabD := by
    have := congrArg Prod.fst hx
    exact this.symm
  match xs, hn, hx1, hel with
  | [x0, x1, x2, x3], _, hx1, hel =>
    have e0 := hel 0 (by decide)
    have e1 := hel 1 (by decide)
    have e2 := hel 2 (by decide)
    have e3 := hel 3 (by decide)
    rw [cells27] at e0 e1 e2 e3
    simp only [List.map_cons, List.map_nil, tabD, Rows.laid_example_com_bytebrush_bytebrush_revisedOps, DataW.agg.injEq, List.cons.injEq, and_true] at hx1
    obtain ⟨d0, d1, d2, d3⟩ := hx1
    have r0 := row_of (a := 48) (b := 17) (c := 4) e0 d0
    have r1 := row_of (a := 52) (b := 16) (c := 1) e1 d1
    have r2 := row_of (a := 53) (b := 15) (c := 1) e2 d2
    have r3 := row_of (a := 128) (b := 14) (c := 16) e3 d3
    have hl : l = _ := four hlen
    simp only [Nat.zero_mul, Nat.one_mul, show 2 * 3 = 6 from rfl, show 3 * 3 = 9 from rfl] at r0 r1 r2 r3
    rw [r0, r1, r2, r3] at hl
    rw [hl]
    rfl

theorem tab_of {W : World} (hv : W.var? Ybad.prog vname = some cells12) : Tab W :=
  ⟨World.var?_cell gTab hv 0, World.var?_cell gTab hv 1, World.var?_cell gTab hv 2, World.var?_cell gTab hv 3, World.var?_cell gTab hv 4, World.var?_cell gTab hv 5, World.var?_cell gTab hv 6, World.var?_cell gTab hv 7,
   World.var?_cell gTab hv 8, World.var?_cell gTab hv 9, World.var?_cell gTab hv 10, World.var?_cell gTab hv 11⟩

theorem reads_tab {H : Type} (enc : TypeId × Value → H) (W : World) (sp : Nat → Bool) : DataW.trod enc Ybad.prog W 0 sp true 3 28 cells12.toList = some (tabD, []) := by kernel_rfl

theorem door_met (os : Os) (args : Array Value) : laidMetH Ybad.prog theLaid ((World.doorLaid Ybad.prog 18 os).forCall (fun _ _ => 0) ⟨#[], args, []⟩).memory :=
  laidMetH_of_parts3 (fuel := 8) (laidMet_of_run' 8 (by kernel_rfl) (by kernel_rfl)) (by kernel_rfl) (by kernel_rfl)
end Opk

end Go.Proofs.YbulkcldmDoor
