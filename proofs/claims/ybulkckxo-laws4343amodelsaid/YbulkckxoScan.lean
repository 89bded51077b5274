/-
  Seat b4343a: the scanner's walks: isDigit, isHex, plain, escape, escapedString compute the plain functions of YbulkckxoPlain.
-/
import Derived.Test.YbulkckxoPlain
import Derived.WalkKit
import Derived.WalkSpells
import Derived.WalkLawsBesides
import Derived.RegionTactic
import Derived.ChangeAlike
import Derived.Deep.QuietTactic
import Derived.BigQuiet
namespace Go.Proofs.Ybulkckxo
open Go.RowKit
namespace Sc

theorem ret_bool {a b : Bool} (h : (a = true) ↔ (b = true)) : Ending.returned (.bool a) = .returned (.bool b) := by rw [Bool.eq_iff_iff.2 h]

theorem isDigit_any (c : Int) (w : World) : Calls Yba.prog 23 #[.int .u8 c] w fun e w' => e = .returned (.bool (digB c)) ∧ w' = w := by
  go_enter Yba.func23, Yba.ntmps23
  go_wp2
  all_goals
    go_ret
    exact ⟨ret_bool (by simp [digB]; try omega), rfl⟩

theorem plain_any (c : Int) (w : World) : Calls Yba.prog 14 #[.int .u8 c] w fun e w' => e = .returned (.bool (plainB c)) ∧ w' = w := by
  go_enter Yba.func14, Yba.ntmps14
  go_wp2
  all_goals
    go_ret
    exact ⟨ret_bool (by simp [plainB]; try omega), rfl⟩

theorem isHex_any (c : Int) (w : World) : Calls Yba.prog 20 #[.int .u8 c] w fun e w' => e = .returned (.bool (hexB c)) ∧ w' = w := by
  go_enter Yba.func20, Yba.ntmps20
  go_wp2_with (go_at_call 23; refine (isDigit_any _ _).mono ?_; rintro e w' ⟨rfl, rfl⟩)
  all_goals
    go_ret
    exact ⟨ret_bool (by simp_all [hexB]; try omega), rfl⟩

/-- The scanner at block sb, as it stands in wr: its data as in w, its place 'p'; below sb nothing has turned. -/
structure St (sb : Nat) (w wr : World) (p : Int) : Prop where
  below : Below sb w wr
  size : wr.heap.size = w.heap.size
  data : wr.cell? ⟨sb, 0, none⟩ = w.cell? ⟨sb, 0, none⟩
  here : wr.cell? ⟨sb, 1, none⟩ = some (.int .i64 p)
  open' : wr.frozen? ⟨sb, 1, none⟩ = false

theorem St.drewN {sb : Nat} {w wr : World} {p : Int} (h : St sb w wr p) (n : Nat) : St sb w (wr.drewN n) p :=
  ⟨below_drewN h.below n, h.size, h.data, h.here, h.open'⟩

theorem St.set {sb : Nat} {w wr : World} {p : Int} (h : St sb w wr p) (q : Int) : St sb w (wr.setCell ⟨sb, 1, none⟩ (.int .i64 q)) q :=
  ⟨h.below.setCell (Nat.le_refl _) _, by simpa using h.size, by rw [World.cell?_setCell_other _ _ _ _ (by simp)]; exact h.data, World.cell?_setCell_same _ _ _ h.here, by rw [World.frozen?_setCell]; exact h.open'⟩

theorem St.trans {sb : Nat} {w w1 w2 : World} {p q : Int} (h : St sb w w1 p) (k : St sb w1 w2 q) : St sb w w2 q :=
  ⟨h.below.trans k.below, k.size.trans h.size, k.data.trans h.data, k.here, k.open'⟩

theorem St.refl {sb : Nat} {w : World} {p : Int} (h1 : w.cell? ⟨sb, 1, none⟩ = some (.int .i64 p)) (f1 : w.frozen? ⟨sb, 1, none⟩ = false) : St sb w w p := ⟨Below.refl _ _, rfl, rfl, h1, f1⟩

/-- The backslash is the last byte. -/
theorem escape_end (sb p cap n : Nat) (ao : Option Addr) (w : World) (hn : n ≤ 9000) (hp : p + 1 = n)
    (h0 : w.cell? ⟨sb, 0, none⟩ = some (.slice ao n cap)) (h1 : w.cell? ⟨sb, 1, none⟩ = some (.int .i64 (p : Int))) (f1 : w.frozen? ⟨sb, 1, none⟩ = false) :
    Calls Yba.prog 13 #[.pointer (some ⟨sb, 0, none⟩)] w fun e w' => e = .returned (.bool false) ∧ St sb w w' ((p : Int) + 1) := by
  have S := St.refl h1 f1
  have hb : (((p : Int) + 1) == (n : Int)) = true := by simp; omega
  have hpb : p ≤ 9000 := by omega
  clear hp
  go_enter Yba.func13, Yba.ntmps13
  go_wp2
  go_quiet (fail)
  go_wp2
  go_ret
  exact ⟨rfl, (S.set _).drewN _⟩

/-- A byte that no escape opens with. -/
theorem escape_bad (sb p cap n b off : Nat) (c : Int) (w : World) (hn : n ≤ 9000) (hp : p + 1 < n)
    (h0 : w.cell? ⟨sb, 0, none⟩ = some (.slice (some ⟨b, off, none⟩) n cap)) (h1 : w.cell? ⟨sb, 1, none⟩ = some (.int .i64 (p : Int))) (f1 : w.frozen? ⟨sb, 1, none⟩ = false) (hbs : b < sb)
    (hc : w.cell? ⟨b, off + (p + 1), none⟩ = some (.int .u8 c)) (hs : simpleB c = false) (hu : (c == 117) = false) :
    Calls Yba.prog 13 #[.pointer (some ⟨sb, 0, none⟩)] w fun e w' => e = .returned (.bool false) ∧ St sb w w' ((p : Int) + 1) := by
  have S := St.refl h1 f1
  have hb : (((p : Int) + 1) == (n : Int)) = false := by simp; omega
  simp only [simpleB, Bool.or_eq_false_iff] at hs
  obtain ⟨⟨⟨⟨⟨⟨⟨s1, s2⟩, s3⟩, s4⟩, s5⟩, s6⟩, s7⟩, s8⟩ := hs
  have hne : ¬ sb = b := by omega
  have hpi : ((p : Int) + 1) < (n : Int) := by omega
  have hp0 : (0 : Int) ≤ (p : Int) + 1 := by omega
  go_enter Yba.func13, Yba.ntmps13
  go_wp2
  go_quiet (fail)
  go_wp2
  go_quiet (fail)
  go_wp2
  go_ret
  exact ⟨rfl, (S.set _).drewN _⟩

set_option maxHeartbeats 1000000 in
theorem escape_simple (sb p cap n b off : Nat) (c : Int) (w : World) (hn : n ≤ 9000) (hp : p + 1 < n)
    (h0 : w.cell? ⟨sb, 0, none⟩ = some (.slice (some ⟨b, off, none⟩) n cap)) (h1 : w.cell? ⟨sb, 1, none⟩ = some (.int .i64 (p : Int))) (f1 : w.frozen? ⟨sb, 1, none⟩ = false) (hbs : b < sb)
    (hc : w.cell? ⟨b, off + (p + 1), none⟩ = some (.int .u8 c)) (hs : simpleB c = true) :
    Calls Yba.prog 13 #[.pointer (some ⟨sb, 0, none⟩)] w fun e w' => e = .returned (.bool true) ∧ St sb w w' ((p : Int) + 1 + 1) := by
  have S := St.refl h1 f1
  have hb : (((p : Int) + 1) == (n : Int)) = false := by simp; omega
  have hne : ¬ sb = b := by omega
  have hpi : ((p : Int) + 1) < (n : Int) := by omega
  have hp0 : (0 : Int) ≤ (p : Int) + 1 := by omega
  have hs' : c = 34 ∨ c = 92 ∨ c = 47 ∨ c = 98 ∨ c = 102 ∨ c = 110 ∨ c = 114 ∨ c = 116 := by
    simp only [simpleB, Bool.or_eq_true, beq_iff_eq] at hs
    omega
  clear hs
  rcases hs' with rfl | rfl | rfl | rfl | rfl | rfl | rfl | rfl
  all_goals
    go_enter Yba.func13, Yba.ntmps13
    go_wp2
    go_quiet (fail)
    go_wp2
    go_quiet (fail)
    go_wp2
    go_ret
    exact ⟨rfl, ((S.set _).drewN _).set _⟩

theorem hexRun_step (xs : List Int) (k j : Nat) (h : j < xs.length) (hc : hexB (xs.getD j 0) = true) : hexRun xs (k + 1) j = hexRun xs k (j + 1) := by
  rw [hexRun, if_pos ⟨h, hc⟩]
theorem hexRun_end (xs : List Int) (k j : Nat) (h : ¬ j < xs.length) : hexRun xs (k + 1) j = (false, j) := by
  rw [hexRun, if_neg (fun hh => h hh.1)]
theorem hexRun_no (xs : List Int) (k j : Nat) (hc : hexB (xs.getD j 0) = false) : hexRun xs (k + 1) j = (false, j) := by
  rw [hexRun, if_neg (fun hh => by rw [hc] at hh; exact absurd hh.2 (by decide))]

end Sc
end Go.Proofs.Ybulkckxo
