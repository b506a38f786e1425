import Derived.Test.YbulkdiuyRows
import Derived.WalkKit
import Derived.WalkLawsBesides
import Derived.BigGuardPart
namespace Go.Proofs.Ybulkdiuy.lawS5497CWhole
open Go.RowKit

def rt (l q i : Int) : Bool := decide (20000 ≤ l ∧ (1 ≤ q ∨ i = 0 ∨ 10000000 ≤ l))

theorem ret_bool {a b : Bool} (h : a = b) : Ending.returned (.bool a) = .returned (.bool b) := by rw [h]

set_option maxHeartbeats 800000 in
theorem retake (l q i : Int) (w : World) :
    Calls Yba.prog 13 #[.int .i64 l, .int .i64 q, .int .i64 i] w fun e w' => e = .returned (.bool (rt l q i)) ∧ w' = w := by
  by_cases h1 : l < 20000
  · go_enter Yba.func13, Yba.ntmps13
    go_wp2
    go_ret
    exact ⟨ret_bool (by simp [rt]; omega), rfl⟩
  · by_cases h2 : 0 < q
    · go_enter Yba.func13, Yba.ntmps13
      go_wp2
      go_ret
      exact ⟨ret_bool (by simp [rt]; omega), rfl⟩
    · by_cases h3 : i = 0
      · subst h3
        go_enter Yba.func13, Yba.ntmps13
        go_wp2
        go_ret
        exact ⟨ret_bool (by simp [rt]; omega), rfl⟩
      · have h3' : (i == 0) = false := by simpa using h3
        by_cases h4 : 10000000 ≤ l
        all_goals
          go_enter Yba.func13, Yba.ntmps13
          go_wp2
          go_ret
          exact ⟨ret_bool (by simp [rt]; omega), rfl⟩

set_option maxHeartbeats 800000 in
theorem model (l q i : Int) (w : World) :
    Calls Yba.prog 14 #[.int .i64 l, .int .i64 q, .int .i64 i] w fun e w' => e = .returned (.bool (rt l q i)) ∧ w' = w := by
  by_cases h1 : l < 20000
  · go_enter Yba.func14, Yba.ntmps14
    go_wp2
    go_ret
    exact ⟨ret_bool (by simp [rt]; omega), rfl⟩
  · by_cases h2 : 0 < q
    · by_cases h4 : 10000000 ≤ l
      all_goals
        go_enter Yba.func14, Yba.ntmps14
        go_wp2
        go_ret
        exact ⟨ret_bool (by simp [rt]; omega), rfl⟩
    · by_cases h3 : i = 0
      · subst h3
        by_cases h4 : 10000000 ≤ l
        all_goals
          go_enter Yba.func14, Yba.ntmps14
          go_wp2
          go_ret
          exact ⟨ret_bool (by simp [rt]; omega), rfl⟩
      · have h3' : (i == 0) = false := by simpa using h3
        by_cases h4 : 10000000 ≤ l
        all_goals
          go_enter Yba.func14, Yba.ntmps14
          go_wp2
          go_ret
          exact ⟨ret_bool (by simp [rt]; omega), rfl⟩

set_option maxHeartbeats 800000 in
theorem anchor (a : Int) (h0 : 0 ≤ a) (h1 : a ≤ 255) (w : World) :
    Calls Yba.prog 12 #[.int .u8 a] w fun e w' => (∃ x : Int, 0 ≤ x ∧ x ≤ 10000000 ∧ e = .returned (.int .i64 x)) ∧ w' = w := by
  have hm : a % 4 = 0 ∨ a % 4 = 1 ∨ a % 4 = 2 ∨ a % 4 = 3 := by omega
  rcases hm with hm | hm | hm | hm
  all_goals
    go_enter Yba.func12, Yba.ntmps12
    go_wp2
    go_ret
    exact ⟨⟨_, by decide, by decide, rfl⟩, rfl⟩

set_option maxHeartbeats 800000 in
theorem walk (a0 : Int) (a1 : Int) (a2 : Int) (a3 : Int) (h0 : 0 ≤ a0) (h1 : a0 ≤ 255) (w : World) :
    Calls Yba.prog 5 #[.int .u8 a0, .int .i64 a1, .int .i64 a2, .int .i64 a3] w fun e w' => e = .returned (.bool true) ∧ w' = w := by
  by_cases hm : a0 % 4 = 0
  · go_enter Yba.func5, Yba.ntmps5
    go_wp2_with (first | (go_at_call 13; refine (retake _ _ _ _).mono ?_; rintro e w' ⟨rfl, rfl⟩) | (go_at_call 14; refine (model _ _ _ _).mono ?_; rintro e w' ⟨rfl, rfl⟩))
    go_ret
    exact ⟨by simp, rfl⟩
  · go_enter Yba.func5, Yba.ntmps5
    go_wp2_with (first | (go_at_call 12; refine (anchor _ (by assumption) (by assumption) _).mono ?_; rintro e w' ⟨⟨x, hx0, hx1, rfl⟩, rfl⟩) | (go_at_call 13; refine (retake _ _ _ _).mono ?_; rintro e w' ⟨rfl, rfl⟩) | (go_at_call 14; refine (model _ _ _ _).mono ?_; rintro e w' ⟨rfl, rfl⟩))
    go_ret
    exact ⟨by simp, rfl⟩
end Go.Proofs.Ybulkdiuy.lawS5497CWhole
