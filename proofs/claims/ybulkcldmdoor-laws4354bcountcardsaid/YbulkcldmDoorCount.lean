/-
  Seat b4354aD: 'Rows.LawS4354BCountCardSaid': the row, and its tied card.
-/
import Derived.Test.YbulkcldmDoorTab
namespace Go.Proofs.YbulkcldmDoor.lawS4354BCount
open Go.ChangeShapes Go.WideShapes Go.ChangeAt Go.RowKit
open Go.Proofs.YbulkcldmDoor.Opk

set_option maxRecDepth 100000 in
theorem lifted (os : Os) (started : os.Started) (H : Type) (enc : TypeId × Value → H) :
    ReturnsInHanded {} Ybad.checked os 4 .any (fun w args => (Rows.lawS4354BCountSpec.pre enc Ybad.prog Ybad.f4 [] false w args ∧ laidMetH Ybad.prog theLaid w) ∧ sizedMet enc Ybad.prog Ybad.f4 (OpenSpec.ofChange Rows.lawS4354BCountSpec) false w args)
      (Rows.lawS4354BCountSpec.post enc Ybad.prog Ybad.f4 false true false false) := by
  refine returnsInHanded_of_change_and (C := Ybad.checked) (X := fun w _ => laidMetH Ybad.prog theLaid w) (fun _ _ _ hh h => h.of_heap hh) own started (by kernel_rfl) Ybad.func4
    (ChangeSpec.witness_shaped (enc := enc) (C := Ybad.checked) (os := os) (X := fun w _ => laidMetH Ybad.prog theLaid w) false (World.doorLaid Ybad.prog 18 os) #[] 8 rfl (World.shaped_of_RefB (by kernel_rfl) (by kernel_rfl)) (by kernel_rfl) (by kernel_rfl) (by kernel_rfl) (door_met os _)) ?_
  intro W base args ds gs before hval0 hW _ _ hL _
  have hval : ∀ (j : Nat) t v, Ybad.f4.params[j]? = some t → args[j]? = some v → Value.okWide Ybad.prog W .any base t v := hval0
  have hW' := hW
  obtain ⟨p, q, hA0, hV0, rfl, hfz, hnd⟩ := hW
  have hA : DataW.TrodAll enc Ybad.prog W 0 (fun _ => true) true Ybad.f4.params.toList args.toList ds p := hA0
  have hV : DataW.TrodVars enc Ybad.prog W (fun _ => true) [vname] gs q := hV0
  rw [Ybad.params4] at hA hval
  obtain ⟨hargs, rfl, rfl⟩ := trodAll_none hA
  obtain rfl : args = #[] := by cases args; simp_all
  obtain ⟨g, t, cs, fuel, d, p', rfl, hg, ht, hvar, hd, rfl⟩ := trodVars_one hV
  obtain rfl := Option.some.inj (gTab.symm.trans hg)
  obtain rfl := Option.some.inj (tTab.symm.trans ht)
  obtain rfl : cs = cells12 := Option.some.inj (hvar.symm.trans (cells_of_laid hL))
  obtain ⟨rfl, rfl⟩ := DataW.Trod.unique (v := .agg cells12) ⟨fuel, hd⟩ ⟨3, reads_tab enc W _⟩
  clear hA0 hV0 hval0
  have T := tab_of hvar
  refine (count_any W T).mono fun e W' ⟨he, bel⟩ => ?_
  subst he
  have hvars : DataW.TrodVars enc Ybad.prog W' (fun b => decide (b < W.heap.size)) [vname] [tabD] (MemPlace.row ⟨0, 0, none⟩ cells12.size ++ []) :=
    trodVars_mk1 gTab tTab (var?_below bel gTab T.size hvar) (reads_tab enc W' _)
  exact ⟨_, rfl, _, _, _, [], [], MemPlace.row ⟨0, 0, none⟩ cells12.size ++ [], hW', trodAll_mk1 (shut_bool Ybad.underlying4 _), trodAll_mk0, hvars, bel.frame _, fun h => by cases h⟩

theorem row_holds : Rows.LawS4354BCountSaid :=
  OpenClaim.holds_of_wide 4 Ybad.f4 rfl rfl rfl rfl rfl rfl rfl ⟨rfl, rfl, rfl, rfl, rfl⟩ rfl rfl rfl rfl rfl (by kernel_rfl) Ybad.func4 (by kernel_rfl)
    (of_decide_eq_true (by kernel_rfl)) (by unfold Func.isWrapper; first | (rw [if_pos (by decide +kernel)]; kernel_rfl) | (rw [if_neg (by decide +kernel)]; exact ⟨rfl, rfl⟩))
    (fun os started H enc _ => lifted os started H enc)

theorem proved : Rows.LawS4354BCountCardSaid :=
  Claim7.holds_tied_plain_at .later [] [.data] true _ false
    row_holds (fun _ h => by cases h) (by kernel_rfl) (fun _ h => by cases h) lawS4354BCount_row_tie rfl ⟨rfl, rfl⟩ (by kernel_rfl) rfl
    (fun f fn hf hfn => by
      obtain rfl : f = 4 := Option.some.inj ((show Ybad.prog.funcNamed Rows.lawS4354BCountRow.func = some 4 by kernel_rfl).symm.trans hf) |>.symm
      obtain rfl : fn = Ybad.f4 := (Option.some.inj (Ybad.func4.symm.trans hfn)).symm
      exact ⟨by kernel_rfl, fun j t ht => by
        rw [Ybad.params4] at ht
        simp at ht⟩)
    (by kernel_rfl)
end Go.Proofs.YbulkcldmDoor.lawS4354BCount
