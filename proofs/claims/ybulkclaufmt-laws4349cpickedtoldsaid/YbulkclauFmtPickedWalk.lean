/-
  Seat b4349aF: the walk of fiducia.LawS4349CPicked.
-/
import Derived.Test.YbulkclauFmtStore
namespace Go.Proofs.YbulkclauFmt
open Go.RowKit
namespace St

theorem stOf_cases (l : List UInt8) : (stOf l = (0, true) ∧ ([105, 115, 115, 117, 101, 114, 45, 110, 111, 110, 101] == l) = true) ∨ (stOf l = (1, true) ∧ ([105, 115, 115, 117, 101, 114, 45, 100, 101, 102] == l) = true) ∨
    (stOf l = (2, true) ∧ ([105, 115, 115, 117, 101, 114, 45, 97, 108, 108] == l) = true) ∨ stOf l = (0, false) := by
  unfold stOf
  split
  · rename_i h; exact .inl ⟨rfl, by rw [beq_turn]; exact h⟩
  · split
    · rename_i h; exact .inr (.inl ⟨rfl, by rw [beq_turn]; exact h⟩)
    · split
      · rename_i h; exact .inr (.inr (.inl ⟨rfl, by rw [beq_turn]; exact h⟩))
      · exact .inr (.inr (.inr rfl))

theorem word_any (k : Int) (w : World) (h0 : 0 ≤ k) (h1 : k ≤ 255) : Calls Ybaf.prog 15 #[.int .u8 k] w fun e w' => (∃ s : ByteArray, e = .returned (.string s) ∧ s.size ≤ 16) ∧ w' = w := by
  go_enter Ybaf.func15, Ybaf.ntmps15
  go_wp2
  all_goals
    go_ret
    exact ⟨⟨_, rfl, by decide⟩, rfl⟩

set_option maxHeartbeats 400000 in
theorem picked_no (k : Int) (x : ByteArray) (w : World) (h0 : 0 ≤ k) (h1 : k ≤ 255) : Calls Ybaf.prog 5 #[.int .u8 k, .string x, .bool false] w fun e w' => e = .returned (.bool true) ∧ w' = w := by
  go_enter Ybaf.func5, Ybaf.ntmps5
  go_wp2_with fail
  refine (word_any k _ h0 h1).mono ?_
  rintro e w' ⟨⟨s, rfl, hs⟩, hw⟩
  subst hw
  go_wp2_with fail
  rcases stOf_cases s.toList with ⟨hr, hq⟩ | ⟨hr, hq⟩ | ⟨hr, hq⟩ | hr
  · refine (storage_any s _).mono ?_
    rintro e w' ⟨rfl, hw⟩
    subst hw
    rw [hr]
    go_wp2_with fail
    refine (model_any s _).mono ?_
    rintro e w' ⟨rfl, hw⟩
    subst hw
    rw [hr]
    clear hr
    go_wp2_with (go_at_call 16; refine (string_0 _).mono ?_; rintro e w' ⟨rfl, hw⟩; subst hw)
    go_ret
    exact ⟨rfl, rfl⟩
  · refine (storage_any s _).mono ?_
    rintro e w' ⟨rfl, hw⟩
    subst hw
    rw [hr]
    go_wp2_with fail
    refine (model_any s _).mono ?_
    rintro e w' ⟨rfl, hw⟩
    subst hw
    rw [hr]
    clear hr
    go_wp2_with (go_at_call 16; refine (string_1 _).mono ?_; rintro e w' ⟨rfl, hw⟩; subst hw)
    go_ret
    exact ⟨rfl, rfl⟩
  · refine (storage_any s _).mono ?_
    rintro e w' ⟨rfl, hw⟩
    subst hw
    rw [hr]
    go_wp2_with fail
    refine (model_any s _).mono ?_
    rintro e w' ⟨rfl, hw⟩
    subst hw
    rw [hr]
    clear hr
    go_wp2_with (go_at_call 16; refine (string_2 _).mono ?_; rintro e w' ⟨rfl, hw⟩; subst hw)
    go_ret
    exact ⟨rfl, rfl⟩
  · refine (storage_any s _).mono ?_
    rintro e w' ⟨rfl, hw⟩
    subst hw
    rw [hr]
    go_wp2_with fail
    refine (model_any s _).mono ?_
    rintro e w' ⟨rfl, hw⟩
    subst hw
    rw [hr]
    clear hr
    go_wp2
    go_ret
    exact ⟨rfl, rfl⟩

set_option maxHeartbeats 400000 in
theorem picked_yes (k : Int) (x : ByteArray) (w : World) (h0 : 0 ≤ k) (h1 : k ≤ 255) (hx : x.size ≤ 140737488355328) : Calls Ybaf.prog 5 #[.int .u8 k, .string x, .bool true] w fun e w' => e = .returned (.bool true) ∧ w' = w := by
  go_enter Ybaf.func5, Ybaf.ntmps5
  go_wp2_with fail
  refine (word_any k _ h0 h1).mono ?_
  rintro e w' ⟨⟨s0, rfl, hs⟩, hw⟩
  subst hw
  go_wp2_with fail
  generalize s0 ++ x = s
  rcases stOf_cases s.toList with ⟨hr, hq⟩ | ⟨hr, hq⟩ | ⟨hr, hq⟩ | hr
  · refine (storage_any s _).mono ?_
    rintro e w' ⟨rfl, hw⟩
    subst hw
    rw [hr]
    go_wp2_with fail
    refine (model_any s _).mono ?_
    rintro e w' ⟨rfl, hw⟩
    subst hw
    rw [hr]
    clear hr
    go_wp2_with (go_at_call 16; refine (string_0 _).mono ?_; rintro e w' ⟨rfl, hw⟩; subst hw)
    go_ret
    exact ⟨rfl, rfl⟩
  · refine (storage_any s _).mono ?_
    rintro e w' ⟨rfl, hw⟩
    subst hw
    rw [hr]
    go_wp2_with fail
    refine (model_any s _).mono ?_
    rintro e w' ⟨rfl, hw⟩
    subst hw
    rw [hr]
    clear hr
    go_wp2_with (go_at_call 16; refine (string_1 _).mono ?_; rintro e w' ⟨rfl, hw⟩; subst hw)
    go_ret
    exact ⟨rfl, rfl⟩
  · refine (storage_any s _).mono ?_
    rintro e w' ⟨rfl, hw⟩
    subst hw
    rw [hr]
    go_wp2_with fail
    refine (model_any s _).mono ?_
    rintro e w' ⟨rfl, hw⟩
    subst hw
    rw [hr]
    clear hr
    go_wp2_with (go_at_call 16; refine (string_2 _).mono ?_; rintro e w' ⟨rfl, hw⟩; subst hw)
    go_ret
    exact ⟨rfl, rfl⟩
  · refine (storage_any s _).mono ?_
    rintro e w' ⟨rfl, hw⟩
    subst hw
    rw [hr]
    go_wp2_with fail
    refine (model_any s _).mono ?_
    rintro e w' ⟨rfl, hw⟩
    subst hw
    rw [hr]
    clear hr
    go_wp2
    go_ret
    exact ⟨rfl, rfl⟩
end St
end Go.Proofs.YbulkclauFmt
