import Derived.Test.Qxb6600868aNumber
import Derived.Test.Qxb6600868aArgs
import Derived.Test.Qxb6600868aPlainAuto
namespace Go.Proofs.Qxb6600868a
open Go.RowKit Pl

theorem isDig_any (x : Int) (w : World) : Calls Try.prog 18 #[.int .u8 x] w fun e w' => e = .returned (.bool (isDig x)) ∧ w' = w := by
  go_enter Try.func18, Try.ntmps18
  go_wp2
  all_goals
    go_ret
    exact ⟨ret_bool (by rw [Bool.eq_iff_iff]; simp [isDig]; omega), rfl⟩

set_option maxHeartbeats 4000000 in
theorem step_any (s : Nat) (hs : s ≤ 8) (x : Int) (w : World) : Calls Try.prog 13 #[.int .i64 s, .int .u8 x] w fun e w' => e = .returned (.int .i64 (toI (stp s x))) ∧ w' = w := by
  have hcls : x = 45 ∨ x = 48 ∨ x = 46 ∨ x = 101 ∨ x = 69 ∨ x = 43 ∨ ((x == 45) = false ∧ (x == 48) = false ∧ (x == 46) = false ∧ (x == 101) = false ∧ (x == 69) = false ∧ (x == 43) = false) := by
    simp only [beq_eq_false_iff_ne, ne_eq]; omega
  rcases (show s = 0 ∨ s = 1 ∨ s = 2 ∨ s = 3 ∨ s = 4 ∨ s = 5 ∨ s = 6 ∨ s = 7 ∨ s = 8 by omega) with rfl | rfl | rfl | rfl | rfl | rfl | rfl | rfl | rfl
  all_goals
    rcases hcls with rfl | rfl | rfl | rfl | rfl | rfl | ⟨k1, k2, k3, k4, k5, k6⟩
    · have hd : isDig 45 = false := by decide
      go_enter Try.func13, Try.ntmps13
      go_wp2_with (go_at_call 18; refine (isDig_any _ _).mono ?_; rintro e w' ⟨rfl, hw⟩; subst w')
      go_ret
      exact ⟨rfl, rfl⟩
    · have hd : isDig 48 = true := by decide
      go_enter Try.func13, Try.ntmps13
      go_wp2_with (go_at_call 18; refine (isDig_any _ _).mono ?_; rintro e w' ⟨rfl, hw⟩; subst w')
      go_ret
      exact ⟨rfl, rfl⟩
    · have hd : isDig 46 = false := by decide
      go_enter Try.func13, Try.ntmps13
      go_wp2_with (go_at_call 18; refine (isDig_any _ _).mono ?_; rintro e w' ⟨rfl, hw⟩; subst w')
      go_ret
      exact ⟨rfl, rfl⟩
    · have hd : isDig 101 = false := by decide
      go_enter Try.func13, Try.ntmps13
      go_wp2_with (go_at_call 18; refine (isDig_any _ _).mono ?_; rintro e w' ⟨rfl, hw⟩; subst w')
      go_ret
      exact ⟨rfl, rfl⟩
    · have hd : isDig 69 = false := by decide
      go_enter Try.func13, Try.ntmps13
      go_wp2_with (go_at_call 18; refine (isDig_any _ _).mono ?_; rintro e w' ⟨rfl, hw⟩; subst w')
      go_ret
      exact ⟨rfl, rfl⟩
    · have hd : isDig 43 = false := by decide
      go_enter Try.func13, Try.ntmps13
      go_wp2_with (go_at_call 18; refine (isDig_any _ _).mono ?_; rintro e w' ⟨rfl, hw⟩; subst w')
      go_ret
      exact ⟨rfl, rfl⟩
    · cases hd : isDig x
      all_goals
        go_enter Try.func13, Try.ntmps13
        go_wp2_with (go_at_call 18; refine (isDig_any _ _).mono ?_; rintro e w' ⟨rfl, hw⟩; subst w')
        go_ret
        simp only [beq_eq_false_iff_ne, ne_eq] at k1 k2 k3 k4 k5 k6
        exact ⟨ret_int (by simp [stp, toI, hd, k1, k2, k3, k4, k5, k6]), rfl⟩

theorem acc_any (s : Nat) (w : World) : Calls Try.prog 15 #[.int .i64 s] w fun e w' => e = .returned (.bool (acc s)) ∧ w' = w := by
  go_enter Try.func15, Try.ntmps15
  go_wp2
  all_goals
    go_ret
    exact ⟨ret_bool (by rw [Bool.eq_iff_iff]; simp [acc]; omega), rfl⟩

end Go.Proofs.Qxb6600868a
