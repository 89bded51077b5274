/-
  Seat b4343a: escape at a 'u'; escape whole; escapedString.
-/
import Derived.Test.YbulkckxoScan
namespace Go.Proofs.Ybulkckxo
open Go.RowKit
namespace Sc

theorem fin {P : Bool × Nat} {x : Bool} {y : Nat} (h : P = (x, y)) : Ending.returned (.bool x) = .returned (.bool P.1) := by rw [h]
theorem St.at {P : Bool × Nat} {x : Bool} {y sb : Nat} {w w' : World} (h : P = (x, y)) (s : St sb w w' (y : Int)) : St sb w w' (P.2 : Int) := by rw [h]; exact s

set_option maxHeartbeats 400000 in
theorem escape_u (sb p cap b off : Nat) (xs : List Int) (w : World) (hn : xs.length ≤ 9000) (hp : p + 1 < xs.length)
    (h0 : w.cell? ⟨sb, 0, none⟩ = some (.slice (some ⟨b, off, none⟩) xs.length cap)) (h1 : w.cell? ⟨sb, 1, none⟩ = some (.int .i64 (p : Int))) (f1 : w.frozen? ⟨sb, 1, none⟩ = false) (hbs : b < sb)
    (hcs : ∀ j, j < xs.length → w.cell? ⟨b, off + j, none⟩ = some (.int .u8 (xs.getD j 0))) (hu : xs.getD (p + 1) 0 = 117) :
    Calls Yba.prog 13 #[.pointer (some ⟨sb, 0, none⟩)] w fun e w' => e = .returned (.bool (hexRun xs 4 (p + 2)).1) ∧ St sb w w' ((hexRun xs 4 (p + 2)).2 : Int) := by
  have S := St.refl h1 f1
  have hb : (((p : Int) + 1) == (xs.length : Int)) = false := by simp; omega
  have hne : ¬ sb = b := by omega
  have hpi : ((p : Int) + 1) < (xs.length : Int) := by omega
  have hp0 : (0 : Int) ≤ (p : Int) + 1 := by omega
  have hc := hcs (p + 1) hp
  rw [hu] at hc
  have HC : Hid (∀ j, j < xs.length → w.cell? ⟨b, off + j, none⟩ = some (.int .u8 (xs.getD j 0))) := hcs
  clear hcs hu
  go_enter Yba.func13, Yba.ntmps13
  go_wp2
  go_quiet (fail)
  go_wp2
  go_quiet (fail)
  go_wp2
  go_loopw [55] (fun i wr => ∃ k j : Nat, k ≤ 4 ∧ j ≤ xs.length ∧ i = .int .i64 k ∧ St sb w wr (j : Int) ∧ hexRun xs 4 (p + 2) = hexRun xs (4 - k) j) (fun i _ => 4 - (intOf i).toNat)
  case atStart => exact ⟨0, p + 2, by omega, by omega, rfl, ((S.set _).drewN _).set _, rfl⟩
  case round =>
    obtain ⟨k, j, hk, hj, rfl, T, E⟩ := hrel
    have HE : Hid (hexRun xs 4 (p + 2) = hexRun xs (4 - k) j) := E
    have t0 := T.data.trans h0
    have t1 := T.here
    have tf := T.open'
    clear E
    by_cases hlt : k < 4
    · by_cases he : j < xs.length
      · have hcj : wr.cell? ⟨b, off + j, none⟩ = some (.int .u8 (xs.getD j 0)) := (T.below.cell (p := ⟨b, off + j, none⟩) hbs).trans (HC.out j he)
        generalize hcc : xs.getD j 0 = c at hcj
        have HCC : Hid (xs.getD j 0 = c) := hcc
        clear hcc
        have hd : ((j : Int) == (xs.length : Int)) = false := by simp; omega
        have hj1 : (j : Int) < (xs.length : Int) := by omega
        cases hx : hexB c
        · have hnh : Hid (hexRun xs (4 - k) j = (false, j)) := by
            rw [show 4 - k = (3 - k) + 1 from by omega]
            exact hexRun_no xs (3 - k) j (by rw [HCC.out]; exact hx)
          go_wp2
          go_quiet ((go_at_call 20; exact Calls.quiet_of_same (isHex_any _ _)))
          go_wp2
          go_ret
          exact ⟨fin (HE.out.trans hnh.out), St.at (HE.out.trans hnh.out) (T.drewN _)⟩
        · have hnh : Hid (hexRun xs (4 - k) j = hexRun xs (3 - k) (j + 1)) := by
            rw [show 4 - k = (3 - k) + 1 from by omega]
            exact hexRun_step xs (3 - k) j he (by rw [HCC.out]; exact hx)
          go_wp2
          go_quiet ((go_at_call 20; exact Calls.quiet_of_same (isHex_any _ _)))
          go_wp2
          go_roundw
          case rel => exact ⟨k + 1, j + 1, by omega, by omega, by go_num, (T.drewN _).set _, by rw [HE.out, hnh.out]; congr 1; omega⟩
          case measure => simp [intOf]; omega
      · have hd : ((j : Int) == (xs.length : Int)) = true := by simp; omega
        have hnh : Hid (hexRun xs (4 - k) j = (false, j)) := by
          rw [show 4 - k = (3 - k) + 1 from by omega]
          exact hexRun_end xs (3 - k) j he
        go_wp2
        go_quiet (fail)
        go_wp2
        go_ret
        exact ⟨fin (HE.out.trans hnh.out), St.at (HE.out.trans hnh.out) (T.drewN _)⟩
    · have hnh : Hid (hexRun xs (4 - k) j = (true, j)) := by
        rw [show 4 - k = 0 from by omega]
        exact rfl
      go_wp2
      go_ret
      exact ⟨fin (HE.out.trans hnh.out), St.at (HE.out.trans hnh.out) T⟩

theorem escF_end (xs : List Int) (p : Nat) (h : ¬ p + 1 < xs.length) : escF xs p = (false, p + 1) := by rw [escF, if_neg h]
theorem escF_simple (xs : List Int) (p : Nat) (h : p + 1 < xs.length) (hs : simpleB (xs.getD (p + 1) 0) = true) : escF xs p = (true, p + 2) := by rw [escF, if_pos h, if_pos hs]
theorem escF_u (xs : List Int) (p : Nat) (h : p + 1 < xs.length) (hs : xs.getD (p + 1) 0 = 117) : escF xs p = hexRun xs 4 (p + 2) := by
  rw [escF, if_pos h, if_neg (by rw [hs]; decide), if_pos hs]
theorem escF_bad (xs : List Int) (p : Nat) (h : p + 1 < xs.length) (hs : simpleB (xs.getD (p + 1) 0) = false) (hu : xs.getD (p + 1) 0 ≠ 117) : escF xs p = (false, p + 1) := by
  rw [escF, if_pos h, if_neg (by rw [hs]; decide), if_neg hu]

/-- escape, whatever follows the backslash. -/
theorem escape_any (sb p cap b off : Nat) (xs : List Int) (w : World) (hn : xs.length ≤ 9000) (hp : p < xs.length)
    (h0 : w.cell? ⟨sb, 0, none⟩ = some (.slice (some ⟨b, off, none⟩) xs.length cap)) (h1 : w.cell? ⟨sb, 1, none⟩ = some (.int .i64 (p : Int))) (f1 : w.frozen? ⟨sb, 1, none⟩ = false) (hbs : b < sb)
    (hcs : ∀ j, j < xs.length → w.cell? ⟨b, off + j, none⟩ = some (.int .u8 (xs.getD j 0))) :
    Calls Yba.prog 13 #[.pointer (some ⟨sb, 0, none⟩)] w fun e w' => e = .returned (.bool (escF xs p).1) ∧ St sb w w' ((escF xs p).2 : Int) := by
  by_cases hl : p + 1 < xs.length
  · by_cases hu : xs.getD (p + 1) 0 = 117
    · rw [escF_u xs p hl hu]
      exact escape_u sb p cap b off xs w hn hl h0 h1 f1 hbs hcs hu
    · cases hs : simpleB (xs.getD (p + 1) 0)
      · rw [escF_bad xs p hl hs hu]
        exact escape_bad sb p cap xs.length b off _ w hn hl h0 h1 f1 hbs (hcs (p + 1) hl) hs (by simpa using hu)
      · rw [escF_simple xs p hl hs]
        exact escape_simple sb p cap xs.length b off _ w hn hl h0 h1 f1 hbs (hcs (p + 1) hl) hs
  · rw [escF_end xs p hl]
    exact escape_end sb p cap xs.length _ w hn (by omega) h0 h1 f1

end Sc
end Go.Proofs.Ybulkckxo
