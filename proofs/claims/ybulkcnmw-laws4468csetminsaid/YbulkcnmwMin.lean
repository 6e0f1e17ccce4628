/-
  minSet, zzs4468cmodel: THEIR CONTRACTS.
-/
import Derived.Test.YbulkcnmwProg
import Derived.WalkKit
namespace Go.Proofs.Ybulkcnmw
open Go.RowKit

/-- What minSet answers. -/
def ms (a b : Int) : Int := if a = 0 ∨ (0 < b ∧ b < a) then b else a

theorem ms_any (a b : Int) (w : World) : Calls Yba.prog 5 #[.int .i64 a, .int .i64 b] w fun e w' => e = .returned (.int .i64 (ms a b)) ∧ w' = w := by
  by_cases h0 : a = 0
  · subst h0
    have hm : ms 0 b = b := by simp [ms]
    rw [hm]
    go_enter Yba.func5, Yba.ntmps5
    go_wp2
    go_ret
    exact ⟨rfl, rfl⟩
  · have hb : (a == 0) = false := by rw [beq_eq_false_iff_ne]; exact h0
    by_cases h1 : 0 < b
    · by_cases h2 : b < a
      · have hm : ms a b = b := by unfold ms; rw [if_pos (.inr ⟨h1, h2⟩)]
        rw [hm]
        go_enter Yba.func5, Yba.ntmps5
        go_wp2
        go_ret
        exact ⟨rfl, rfl⟩
      · have hm : ms a b = a := by unfold ms; rw [if_neg (by omega)]
        have h2' : decide (b < a) = false := by simpa using h2
        rw [hm]
        go_enter Yba.func5, Yba.ntmps5
        go_wp2
        go_ret
        exact ⟨rfl, rfl⟩
    · have hm : ms a b = a := by unfold ms; rw [if_neg (by omega)]
      have h1' : decide (0 < b) = false := by simpa using h1
      rw [hm]
      go_enter Yba.func5, Yba.ntmps5
      go_wp2
      go_ret
      exact ⟨rfl, rfl⟩

theorem model_any (a b : Int) (w : World) : Calls Yba.prog 6 #[.int .i64 a, .int .i64 b] w fun e w' => e = .returned (.int .i64 (ms a b)) ∧ w' = w := by
  by_cases h0 : a = 0
  · subst h0
    have hm : ms 0 b = b := by simp [ms]
    rw [hm]
    go_enter Yba.func6, Yba.ntmps6
    go_wp2
    go_ret
    exact ⟨rfl, rfl⟩
  · have hb : (a == 0) = false := by rw [beq_eq_false_iff_ne]; exact h0
    by_cases h1 : b ≤ 0
    · have hm : ms a b = a := by unfold ms; rw [if_neg (by omega)]
      rw [hm]
      go_enter Yba.func6, Yba.ntmps6
      go_wp2
      go_ret
      exact ⟨rfl, rfl⟩
    · by_cases h3 : a < 0
      · have hm : ms a b = a := by unfold ms; rw [if_neg (by omega)]
        rw [hm]
        go_enter Yba.func6, Yba.ntmps6
        go_wp2
        go_ret
        exact ⟨rfl, rfl⟩
      · by_cases h2 : b < a
        · have hm : ms a b = b := by unfold ms; rw [if_pos (.inr ⟨by omega, h2⟩)]
          rw [hm]
          go_enter Yba.func6, Yba.ntmps6
          go_wp2
          go_ret
          exact ⟨rfl, rfl⟩
        · have hm : ms a b = a := by unfold ms; rw [if_neg (by omega)]
          rw [hm]
          go_enter Yba.func6, Yba.ntmps6
          go_wp2
          go_ret
          exact ⟨rfl, rfl⟩

theorem exact_any (a b : Int) (w : World) : Calls Yba.prog 3 #[.int .i64 a, .int .i64 b] w fun e w' => e = .returned (.bool true) ∧ w' = w := by
  have hs : ((ms a b) == (ms a b)) = true := by simp
  go_enter Yba.func3, Yba.ntmps3
  go_wp2_with (first | (go_at_call 5; refine (ms_any _ _ _).mono ?_; rintro e w' ⟨rfl, rfl⟩) | (go_at_call 6; refine (model_any _ _ _).mono ?_; rintro e w' ⟨rfl, rfl⟩))
  go_ret
  exact ⟨rfl, rfl⟩

theorem setmin_neg (a b : Int) (w : World) (h : a < 0 ∨ b < 0) : Calls Yba.prog 4 #[.int .i64 a, .int .i64 b] w fun e w' => e = .returned (.bool true) ∧ w' = w := by
  by_cases h0 : a < 0
  · go_enter Yba.func4, Yba.ntmps4
    go_wp2_with fail
    go_ret
    exact ⟨rfl, rfl⟩
  · have h1 : b < 0 := by omega
    have h0' : decide (a < 0) = false := by simpa using h0
    go_enter Yba.func4, Yba.ntmps4
    go_wp2_with fail
    go_ret
    exact ⟨rfl, rfl⟩

theorem setmin_00 (w : World) : Calls Yba.prog 4 #[.int .i64 0, .int .i64 0] w fun e w' => e = .returned (.bool true) ∧ w' = w := by
  have e1 : ms 0 0 = 0 := by simp [ms]
  go_enter Yba.func4, Yba.ntmps4
  go_wp2_with (go_at_call 5; refine (ms_any _ _ _).mono ?_; rintro e w' ⟨rfl, rfl⟩)
  go_ret
  exact ⟨rfl, rfl⟩
theorem setmin_0b (b : Int) (w : World) (h : 0 < b) : Calls Yba.prog 4 #[.int .i64 0, .int .i64 b] w fun e w' => e = .returned (.bool true) ∧ w' = w := by
  have e1 : ms 0 b = b := by simp [ms]
  have e2 : ms b 0 = b := by unfold ms; rw [if_neg (by omega)]
  have k0 : (b == 0) = false := by rw [beq_eq_false_iff_ne]; omega
  have k1 : (b != 0) = true := by rw [bne_iff_ne]; omega
  go_enter Yba.func4, Yba.ntmps4
  go_wp2_with (go_at_call 5; refine (ms_any _ _ _).mono ?_; rintro e w' ⟨rfl, rfl⟩)
  go_ret
  exact ⟨rfl, rfl⟩
theorem setmin_a0 (a : Int) (w : World) (h : 0 < a) : Calls Yba.prog 4 #[.int .i64 a, .int .i64 0] w fun e w' => e = .returned (.bool true) ∧ w' = w := by
  have e1 : ms 0 a = a := by simp [ms]
  have e2 : ms a 0 = a := by unfold ms; rw [if_neg (by omega)]
  have k0 : (a == 0) = false := by rw [beq_eq_false_iff_ne]; omega
  go_enter Yba.func4, Yba.ntmps4
  go_wp2_with (go_at_call 5; refine (ms_any _ _ _).mono ?_; rintro e w' ⟨rfl, rfl⟩)
  go_ret
  exact ⟨rfl, rfl⟩
theorem setmin_lt (a b : Int) (w : World) (h : 0 < a) (h' : a < b) : Calls Yba.prog 4 #[.int .i64 a, .int .i64 b] w fun e w' => e = .returned (.bool true) ∧ w' = w := by
  have e1 : ms a b = a := by unfold ms; rw [if_neg (by omega)]
  have e2 : ms b a = a := by unfold ms; rw [if_pos (by omega)]
  have k0 : (a == 0) = false := by rw [beq_eq_false_iff_ne]; omega
  go_enter Yba.func4, Yba.ntmps4
  go_wp2_with (go_at_call 5; refine (ms_any _ _ _).mono ?_; rintro e w' ⟨rfl, rfl⟩)
  go_ret
  exact ⟨rfl, rfl⟩
theorem setmin_eq (a : Int) (w : World) (h : 0 < a) : Calls Yba.prog 4 #[.int .i64 a, .int .i64 a] w fun e w' => e = .returned (.bool true) ∧ w' = w := by
  have e1 : ms a a = a := by unfold ms; rw [if_neg (by omega)]
  have k0 : (a == 0) = false := by rw [beq_eq_false_iff_ne]; omega
  go_enter Yba.func4, Yba.ntmps4
  go_wp2_with (go_at_call 5; refine (ms_any _ _ _).mono ?_; rintro e w' ⟨rfl, rfl⟩)
  go_ret
  exact ⟨rfl, rfl⟩
theorem setmin_gt (a b : Int) (w : World) (h : 0 < b) (h' : b < a) : Calls Yba.prog 4 #[.int .i64 a, .int .i64 b] w fun e w' => e = .returned (.bool true) ∧ w' = w := by
  have e1 : ms a b = b := by unfold ms; rw [if_pos (by omega)]
  have e2 : ms b a = b := by unfold ms; rw [if_neg (by omega)]
  have k0 : (a == 0) = false := by rw [beq_eq_false_iff_ne]; omega
  have k1 : (b == 0) = false := by rw [beq_eq_false_iff_ne]; omega
  have k2 : (b != a) = true := by rw [bne_iff_ne]; omega
  go_enter Yba.func4, Yba.ntmps4
  go_wp2_with (go_at_call 5; refine (ms_any _ _ _).mono ?_; rintro e w' ⟨rfl, rfl⟩)
  go_ret
  exact ⟨rfl, rfl⟩
theorem setmin_any (a b : Int) (w : World) : Calls Yba.prog 4 #[.int .i64 a, .int .i64 b] w fun e w' => e = .returned (.bool true) ∧ w' = w := by
  rcases (show (a < 0 ∨ b < 0) ∨ (a = 0 ∧ b = 0) ∨ (a = 0 ∧ 0 < b) ∨ (0 < a ∧ b = 0) ∨ (0 < a ∧ a < b) ∨ (0 < a ∧ a = b) ∨ (0 < b ∧ b < a) from by omega) with
    h | ⟨rfl, rfl⟩ | ⟨rfl, h⟩ | ⟨h, rfl⟩ | ⟨h, h'⟩ | ⟨h, rfl⟩ | ⟨h, h'⟩
  · exact setmin_neg a b w h
  · exact setmin_00 w
  · exact setmin_0b b w h
  · exact setmin_a0 a w h
  · exact setmin_lt a b w h h'
  · exact setmin_eq a w h
  · exact setmin_gt a b w h h'
end Go.Proofs.Ybulkcnmw
