/-
  Seat b4343a, LawS4343AModel: zzs4343amodel computes 'scan' too; bytes.Equal of two rows of the same bytes.
-/
import Derived.Test.YbulkckxoModel
import Derived.Test.YbulkckxoScan2
namespace Go.Proofs.Ybulkckxo
open Go.RowKit
namespace Sc

theorem fin2 {P : Bool × Nat} {x : Bool} {y : Nat} {z : Int} (h : P = (x, y)) (hz : z = (y : Int)) : Ending.returned (.tuple #[.bool x, .int .i64 z]) = .returned (.tuple #[.bool P.1, .int .i64 (P.2 : Int)]) := by rw [h, hz]

/-- One round of the model's loop: what is known ahead of it. -/
theorem scan_esc_fin (xs : List Int) (f i : Nat) (x : Bool) (y : Nat) (h : i < xs.length) (hc : xs.getD i 0 = 92) (he : escF xs i = (x, y)) : scan xs (f + 1) i = if x = true then scan xs f y else (false, y) := by
  cases x
  · rw [scan_esc_no xs f i h hc (by rw [he]), he]; rfl
  · rw [scan_esc xs f i h hc (by rw [he]), he]; rfl

set_option maxHeartbeats 800000 in
theorem model_any (a0 : Option Addr) (p cap : Nat) (xs : List Int) (w : World) (hn : xs.length ≤ 9000) (hp : p ≤ xs.length)
    (hb0 : 0 < xs.length → ∃ b off, a0 = some ⟨b, off, none⟩ ∧ ∀ j, j < xs.length → w.cell? ⟨b, off + j, none⟩ = some (.int .u8 (xs.getD j 0))) :
    Calls Yba.prog 7 #[.slice a0 xs.length cap, .int .i64 (p : Int)] w fun e w' => e = .returned (.tuple #[.bool (scan xs (xs.length + 1) (p + 1)).1, .int .i64 ((scan xs (xs.length + 1) (p + 1)).2 : Int)]) ∧ w' = w := by
  have HB : Hid (0 < xs.length → ∃ b off, a0 = some ⟨b, off, none⟩ ∧ ∀ j, j < xs.length → w.cell? ⟨b, off + j, none⟩ = some (.int .u8 (xs.getD j 0))) := hb0
  clear hb0
  go_enter Yba.func7, Yba.ntmps7
  go_wp2
  go_loop [7] (fun t => ∃ i f : Nat, i ≤ xs.length + 1 ∧ xs.length + 1 ≤ f + i ∧ t = .int .i64 i ∧ Hid (scan xs (xs.length + 1) (p + 1) = scan xs f i)) (fun t => xs.length + 1 - (intOf t).toNat)
  case atStart => exact ⟨p + 1, xs.length + 1, by omega, by omega, rfl, rfl⟩
  case round =>
    obtain ⟨i, f, hi, hf, rfl, HE⟩ := hrel
    by_cases hlt : i < xs.length
    · obtain ⟨g, rfl⟩ : ∃ g, f = g + 1 := ⟨f - 1, by omega⟩
      obtain ⟨b, off, ha, hcs⟩ := HB.out (by omega)
      subst ha
      have HC : Hid (∀ j, j < xs.length → w.cell? ⟨b, off + j, none⟩ = some (.int .u8 (xs.getD j 0))) := hcs
      have hci := hcs i hlt
      clear hcs HB
      generalize hcc : xs.getD i 0 = c at hci
      have HCC : Hid (xs.getD i 0 = c) := hcc
      clear hcc
      by_cases hq : c = 34
      · subst hq
        have hnh : Hid (scan xs (g + 1) i = (true, i + 1)) := scan_quote xs g i hlt HCC.out
        go_wp2
        go_ret2
        exact ⟨fin2 (HE.out.trans hnh.out) (by omega), rfl⟩
      · have hq1 : (c == 34) = false := by simpa using hq
        by_cases hk : c = 92
        · subst hk
          clear hq hq1
          by_cases hl : i + 1 < xs.length
          · have hce := HC.out (i + 1) hl
            generalize hdd : xs.getD (i + 1) 0 = d at hce
            have HD : Hid (xs.getD (i + 1) 0 = d) := hdd
            clear hdd
            cases hs : simpleB d
            · by_cases hu : d = 117
              · subst hu
                have hE : Hid (scan xs (g + 1) i = if (hexRun xs 4 (i + 2)).1 = true then scan xs g (hexRun xs 4 (i + 2)).2 else (false, (hexRun xs 4 (i + 2)).2)) :=
                  scan_esc_fin xs g i _ _ hlt HCC.out (by rw [escF_u xs i hl HD.out])
                go_wp2_with (go_at_call 15; refine (simple_any _ _).mono ?_; rintro e w' ⟨rfl, hw⟩; subst hw)
                go_loop [10, 11] (fun s t => ∃ j k : Nat, i + 2 ≤ j ∧ j ≤ xs.length ∧ k ≤ 4 ∧ s = .int .i64 j ∧ t = .int .i64 k ∧ Hid (hexRun xs 4 (i + 2) = hexRun xs (4 - k) j)) (fun _ t => 4 - (intOf t).toNat)
                case atStart => exact ⟨i + 2, 0, by omega, by omega, by omega, by go_num, rfl, rfl⟩
                case round =>
                  obtain ⟨j, k, hj0, hj, hk4, rfl, rfl, HH⟩ := hrel
                  by_cases hk : k < 4
                  · by_cases hj1 : j < xs.length
                    · have hcj := HC.out j hj1
                      generalize hjj : xs.getD j 0 = y at hcj
                      have HJ : Hid (xs.getD j 0 = y) := hjj
                      clear hjj
                      have hd1 : decide ((xs.length : Int) ≤ (j : Int)) = false := decide_eq_false (by omega)
                      cases hx : hexB y
                      · have hnh : Hid (scan xs (g + 1) i = (false, j)) := by
                          have h1 := hexRun_no xs (3 - k) j (by rw [HJ.out]; exact hx)
                          rw [show 3 - k + 1 = 4 - k from by omega, ← HH.out] at h1
                          have h2 := hE.out
                          rw [h1] at h2
                          exact h2
                        go_wp2_with (go_at_call 16; refine (hex_any _ _).mono ?_; rintro e w' ⟨rfl, hw⟩; subst hw)
                        go_ret2
                        exact ⟨fin2 (HE.out.trans hnh.out) rfl, rfl⟩
                      · have hnh : Hid (hexRun xs 4 (i + 2) = hexRun xs (4 - (k + 1)) (j + 1)) := by
                          have h1 := hexRun_step xs (3 - k) j hj1 (by rw [HJ.out]; exact hx)
                          rw [show 3 - k + 1 = 4 - k from by omega, ← HH.out] at h1
                          rw [show 4 - (k + 1) = 3 - k from by omega]
                          exact h1
                        go_wp2_with (go_at_call 16; refine (hex_any _ _).mono ?_; rintro e w' ⟨rfl, hw⟩; subst hw)
                        go_round
                        case rel => exact ⟨j + 1, k + 1, by omega, by omega, by omega, by go_num, by go_num, hnh⟩
                        case measure => simp [intOf]; omega
                    · have hnh : Hid (scan xs (g + 1) i = (false, j)) := by
                        have h1 := hexRun_end xs (3 - k) j hj1
                        rw [show 3 - k + 1 = 4 - k from by omega, ← HH.out] at h1
                        have h2 := hE.out
                        rw [h1] at h2
                        exact h2
                      have hd1 : decide ((xs.length : Int) ≤ (j : Int)) = true := decide_eq_true (by omega)
                      go_wp2_with (go_at_call 16; refine (hex_any _ _).mono ?_; rintro e w' ⟨rfl, hw⟩; subst hw)
                      go_ret2
                      exact ⟨fin2 (HE.out.trans hnh.out) rfl, rfl⟩
                  · have hnh : Hid (scan xs (g + 1) i = scan xs g j) := by
                      have h1 := HH.out
                      rw [show 4 - k = 0 from by omega] at h1
                      have h2 := hE.out
                      rw [h1] at h2
                      exact h2
                    go_wp2
                    go_round
                    case rel => exact ⟨j, g, by omega, by omega, rfl, HE.out.trans hnh.out⟩
                    case measure => simp [intOf]; omega
              · have hu1 : (d == 117) = false := by simpa using hu
                have hnh : Hid (scan xs (g + 1) i = (false, i + 1)) := by
                  rw [scan_esc_fin xs g i false (i + 1) hlt HCC.out (escF_bad xs i hl (by rw [HD.out]; exact hs) (by rw [HD.out]; exact hu))]; rfl
                go_wp2_with (go_at_call 15; refine (simple_any _ _).mono ?_; rintro e w' ⟨rfl, hw⟩; subst hw)
                go_ret2
                exact ⟨fin2 (HE.out.trans hnh.out) (by omega), rfl⟩
            · have hnh : Hid (scan xs (g + 1) i = scan xs g (i + 2)) := by
                rw [scan_esc_fin xs g i true (i + 2) hlt HCC.out (escF_simple xs i hl (by rw [HD.out]; exact hs))]; rfl
              go_wp2_with (go_at_call 15; refine (simple_any _ _).mono ?_; rintro e w' ⟨rfl, hw⟩; subst hw)
              go_round
              case rel => exact ⟨i + 2, g, by omega, by omega, by go_num, HE.out.trans hnh.out⟩
              case measure => simp [intOf]; omega
          · have hnh : Hid (scan xs (g + 1) i = (false, i + 1)) := by
              rw [scan_esc_fin xs g i false (i + 1) hlt HCC.out (escF_end xs i hl)]; rfl
            go_wp2
            go_ret2
            exact ⟨fin2 (HE.out.trans hnh.out) (by omega), rfl⟩
        · have hk1 : (c == 92) = false := by simpa using hk
          cases hP : plainB c
          · have hnh : Hid (scan xs (g + 1) i = (false, i)) := scan_bad xs g i hlt (by rw [HCC.out]; exact hq) (by rw [HCC.out]; exact hk) (by rw [HCC.out]; exact hP)
            have hP' : ¬ (32 ≤ c ∧ c < 128) := by
              intro hh
              simp only [plainB, Bool.and_eq_false_iff, decide_eq_false_iff_not, bne_eq_false_iff_eq] at hP
              omega
            clear hP
            go_wp2
            all_goals
              go_ret2
              exact ⟨fin2 (HE.out.trans hnh.out) (by omega), rfl⟩
          · have hnh : Hid (scan xs (g + 1) i = scan xs g (i + 1)) := scan_plain xs g i hlt (by rw [HCC.out]; exact hq) (by rw [HCC.out]; exact hk) (by rw [HCC.out]; exact hP)
            have hP1 : 32 ≤ c := by simp only [plainB, Bool.and_eq_true, decide_eq_true_eq] at hP; omega
            have hP2 : c < 128 := by simp only [plainB, Bool.and_eq_true, decide_eq_true_eq] at hP; omega
            clear hP
            go_wp2
            go_round
            case rel => exact ⟨i + 1, g, by omega, by omega, by go_num, HE.out.trans hnh.out⟩
            case measure => simp [intOf]; omega
    · have hnh : Hid (scan xs f i = (false, i)) := scan_out xs f i hlt
      go_wp2
      go_ret2
      exact ⟨fin2 (HE.out.trans hnh.out) rfl, rfl⟩
end Sc
end Go.Proofs.Ybulkckxo
