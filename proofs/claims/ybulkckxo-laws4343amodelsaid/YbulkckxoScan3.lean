/-
  Seat b4343a: escapedString computes 'scan'.
-/
import Derived.Test.YbulkckxoScan2
namespace Go.Proofs.Ybulkckxo
open Go.RowKit
namespace Sc

/-- The scanner's place, read off its cell: for the loop's measure. -/
def placeOf (sb : Nat) (w : World) : Nat := (intOf ((w.cell? ⟨sb, 1, none⟩).getD (.int .i64 0))).toNat
theorem St.place {sb i : Nat} {w wr : World} (h : St sb w wr (i : Int)) : placeOf sb wr = i := by simp [placeOf, h.here, intOf]

/-- The round's relation. -/
def Rel (sb : Nat) (xs : List Int) (p : Nat) (w wr : World) : Prop :=
  ∃ i f : Nat, i ≤ xs.length + 1 ∧ xs.length + 1 ≤ f + i ∧ St sb w wr (i : Int) ∧ scan xs (xs.length + 1) (p + 1) = scan xs f i

set_option maxHeartbeats 400000 in
/-- escapedString over a row of bytes. -/
theorem escaped_some (sb p cap b off : Nat) (xs : List Int) (w : World) (hn : xs.length ≤ 9000) (hp : p ≤ xs.length)
    (h0 : w.cell? ⟨sb, 0, none⟩ = some (.slice (some ⟨b, off, none⟩) xs.length cap)) (h1 : w.cell? ⟨sb, 1, none⟩ = some (.int .i64 (p : Int))) (f1 : w.frozen? ⟨sb, 1, none⟩ = false) (hbs : b < sb)
    (hcs : ∀ j, j < xs.length → w.cell? ⟨b, off + j, none⟩ = some (.int .u8 (xs.getD j 0))) :
    Calls Yba.prog 6 #[.pointer (some ⟨sb, 0, none⟩)] w fun e w' => e = .returned (.bool (scan xs (xs.length + 1) (p + 1)).1) ∧ St sb w w' ((scan xs (xs.length + 1) (p + 1)).2 : Int) := by
  have S := St.refl h1 f1
  have HC : Hid (∀ j, j < xs.length → w.cell? ⟨b, off + j, none⟩ = some (.int .u8 (xs.getD j 0))) := hcs
  clear hcs
  go_enter Yba.func6, Yba.ntmps6
  go_wp2
  go_loopw [3] (fun _ wr => Rel sb xs p w wr) (fun _ wr => xs.length + 1 - placeOf sb wr)
  case atStart => exact ⟨p + 1, xs.length + 1, by omega, by omega, S.set _, rfl⟩
  case round =>
    obtain ⟨i, f, hi, hf, T, E⟩ := hrel
    have HE : Hid (scan xs (xs.length + 1) (p + 1) = scan xs f i) := E
    have HP : Hid (placeOf sb wr = i) := T.place
    have t0 := T.data.trans h0
    have t1 := T.here
    have tf := T.open'
    clear E
    by_cases hlt : i < xs.length
    · obtain ⟨g, rfl⟩ : ∃ g, f = g + 1 := ⟨f - 1, by omega⟩
      have hci : wr.cell? ⟨b, off + i, none⟩ = some (.int .u8 (xs.getD i 0)) := (T.below.cell (p := ⟨b, off + i, none⟩) hbs).trans (HC.out i hlt)
      generalize hcc : xs.getD i 0 = c at hci
      have HCC : Hid (xs.getD i 0 = c) := hcc
      clear hcc
      have hi1 : (i : Int) < (xs.length : Int) := by omega
      by_cases hq : c = 34
      · subst hq
        have hnh : Hid (scan xs (g + 1) i = (true, i + 1)) := scan_quote xs g i hlt HCC.out
        go_wp2
        go_quiet (fail)
        go_wp2
        go_quiet (fail)
        go_wp2
        go_ret
        exact ⟨fin (HE.out.trans hnh.out), St.at (HE.out.trans hnh.out) ((T.drewN _).set _)⟩
      · have hq1 : (c == 34) = false := by simpa using hq
        by_cases hk : c = 92
        · subst hk
          have hle := escF_le xs i hlt
          cases hE1 : (escF xs i).1
          · have hnh : Hid (scan xs (g + 1) i = (false, (escF xs i).2)) := scan_esc_no xs g i hlt HCC.out hE1
            go_wp2
            go_quiet (fail)
            go_wp2
            go_quiet (fail)
            go_wp2_with fail
            refine (escape_any sb i cap b off xs _ hn hlt (by exact t0) (by exact t1) (by exact tf) hbs (by exact fun j hj => (T.below.cell (p := ⟨b, off + j, none⟩) hbs).trans (HC.out j hj))).mono ?_
            rintro e w' ⟨rfl, T2⟩
            go_wp2
            go_ret
            exact ⟨fin (HE.out.trans hnh.out), St.at (HE.out.trans hnh.out) ((T.drewN _).trans T2)⟩
          · have hnh : Hid (scan xs (g + 1) i = scan xs g (escF xs i).2) := scan_esc xs g i hlt HCC.out hE1
            go_wp2
            go_quiet (fail)
            go_wp2
            go_quiet (fail)
            go_wp2_with fail
            refine (escape_any sb i cap b off xs _ hn hlt (by exact t0) (by exact t1) (by exact tf) hbs (by exact fun j hj => (T.below.cell (p := ⟨b, off + j, none⟩) hbs).trans (HC.out j hj))).mono ?_
            rintro e w' ⟨rfl, T2⟩
            go_wp2
            have T3 := (T.drewN _).trans T2
            go_roundw
            case rel => exact ⟨(escF xs i).2, g, by omega, by omega, T3, HE.out.trans hnh.out⟩
            case measure => rw [HP.out, T3.place]; omega
        · have hk1 : (c == 92) = false := by simpa using hk
          cases hP : plainB c
          · have hnh : Hid (scan xs (g + 1) i = (false, i)) := scan_bad xs g i hlt (by rw [HCC.out]; exact hq) (by rw [HCC.out]; exact hk) (by rw [HCC.out]; exact hP)
            go_wp2
            go_quiet (fail)
            go_wp2
            go_quiet (fail)
            go_wp2_with (go_at_call 14; refine (plain_any _ _).mono ?_; rintro e w' ⟨rfl, hw⟩; subst hw)
            go_ret
            exact ⟨fin (HE.out.trans hnh.out), St.at (HE.out.trans hnh.out) (T.drewN _)⟩
          · have hnh : Hid (scan xs (g + 1) i = scan xs g (i + 1)) := scan_plain xs g i hlt (by rw [HCC.out]; exact hq) (by rw [HCC.out]; exact hk) (by rw [HCC.out]; exact hP)
            go_wp2
            go_quiet (fail)
            go_wp2
            go_quiet (fail)
            go_wp2_with (go_at_call 14; refine (plain_any _ _).mono ?_; rintro e w' ⟨rfl, hw⟩; subst hw)
            have T3 : ∀ n, St sb w ((wr.drewN n).setCell ⟨sb, 1, none⟩ (.int .i64 ((i : Int) + 1))) ((i + 1 : Nat) : Int) := fun n => (T.drewN n).set _
            go_roundw
            case rel => exact ⟨i + 1, g, by omega, by omega, T3 _, HE.out.trans hnh.out⟩
            case measure => rw [HP.out, (T3 _).place]; omega
    · have hnh : Hid (scan xs f i = (false, i)) := scan_out xs f i hlt
      have hi1 : ¬ (i : Int) < (xs.length : Int) := by omega
      go_wp2
      go_quiet (fail)
      go_wp2
      go_ret
      exact ⟨fin (HE.out.trans hnh.out), St.at (HE.out.trans hnh.out) (T.drewN _)⟩

/-- escapedString over no bytes. -/
theorem escaped_nil (sb cap : Nat) (ao : Option Addr) (w : World)
    (h0 : w.cell? ⟨sb, 0, none⟩ = some (.slice ao 0 cap)) (h1 : w.cell? ⟨sb, 1, none⟩ = some (.int .i64 0)) (f1 : w.frozen? ⟨sb, 1, none⟩ = false) :
    Calls Yba.prog 6 #[.pointer (some ⟨sb, 0, none⟩)] w fun e w' => e = .returned (.bool false) ∧ St sb w w' (1 : Int) := by
  have S := St.refl h1 f1
  go_enter Yba.func6, Yba.ntmps6
  go_wp2
  refine wp_loop_rounds 1 ?_
  rw [rounds_succ]
  go_wp2
  go_quiet (fail)
  go_wp2
  go_ret
  exact ⟨rfl, (S.set _).drewN _⟩
end Sc
end Go.Proofs.Ybulkckxo
