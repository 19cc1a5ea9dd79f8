/-
  Walks: roundTime (6), lagTime (7), their outer names (4, 5), FnRoundTimeExceedsLagTime (3); the plain arithmetic.
-/
import Derived.Test.Qxb6614571aModsRows
import Derived.WalkKit
import Derived.ProofKit
import Derived.Below
namespace Go.Proofs.Qxb6614571aMods
open Go.RowKit
set_option linter.unusedVariables false

/-- The round time and the lag time, as the machine reckons them. -/
def rt (l : Int) : Int := wrap64 (wrap64 (4 * l) + 1000000000)
def lt (l : Int) : Int := wrap64 (wrap64 (4 * l) + 100000000)

theorem round6 (l : Int) (w : World) : Calls Trym.prog 6 #[.int .i64 l] w fun e w' => e = .returned (.int .i64 (rt l)) ∧ w' = w := by
  unfold rt
  go_enter Trym.func6, Trym.ntmps6
  go_wp2
  go_ret
  exact ⟨rfl, rfl⟩
theorem lag7 (l : Int) (w : World) : Calls Trym.prog 7 #[.int .i64 l] w fun e w' => e = .returned (.int .i64 (lt l)) ∧ w' = w := by
  unfold lt
  go_enter Trym.func7, Trym.ntmps7
  go_wp2
  go_ret
  exact ⟨rfl, rfl⟩
theorem round4 (l : Int) (w : World) : Calls Trym.prog 4 #[.int .i64 l] w fun e w' => e = .returned (.int .i64 (rt l)) ∧ w' = w := by
  go_enter Trym.func4, Trym.ntmps4
  go_wp2_with (go_at_call 6; refine (round6 _ _).mono ?_; rintro e w' ⟨rfl, hw'⟩; have hw'' := hw'.symm; clear hw'; subst hw'')
  go_ret
  exact ⟨rfl, rfl⟩
theorem lag5 (l : Int) (w : World) : Calls Trym.prog 5 #[.int .i64 l] w fun e w' => e = .returned (.int .i64 (lt l)) ∧ w' = w := by
  go_enter Trym.func5, Trym.ntmps5
  go_wp2_with (go_at_call 7; refine (lag7 _ _).mono ?_; rintro e w' ⟨rfl, hw'⟩; have hw'' := hw'.symm; clear hw'; subst hw'')
  go_ret
  exact ⟨rfl, rfl⟩

theorem diff_ok (l : Int) : wrap64 (rt l - lt l) = 900000000 := by
  unfold rt lt wrap64; omega
theorem diff_test (l : Int) : (bne (wrap64 (rt l - lt l)) 900000000) = false := by rw [diff_ok]; decide
theorem four (l : Int) (h0 : 0 ≤ l) (h1 : l ≤ 1152921504606846976) : wrap64 (4 * l) = 4 * l := by
  unfold wrap64; omega
theorem above (l : Int) (h0 : 0 ≤ l) (h1 : l ≤ 1152921504606846976) : lt l < rt l ∧ 4 * l < rt l ∧ 1000000000 ≤ rt l := by
  unfold rt lt wrap64; omega

theorem walk3 (l : Int) (w : World) : Calls Trym.prog 3 #[.int .i64 l] w fun e w' => e = .returned (.bool true) ∧ w' = w := by
  have hd := diff_test l
  have h4 := round4 l
  have h5 := lag5 l
  have H4 : Hid (∀ w, Calls Trym.prog 4 #[.int .i64 l] w fun e w' => e = .returned (.int .i64 (rt l)) ∧ w' = w) := h4
  have H5 : Hid (∀ w, Calls Trym.prog 5 #[.int .i64 l] w fun e w' => e = .returned (.int .i64 (lt l)) ∧ w' = w) := h5
  clear h4 h5
  by_cases h0 : 0 ≤ l
  · by_cases h1 : l ≤ 1152921504606846976
    · obtain ⟨a1, a2, a3⟩ := above l h0 h1
      have h4 := four l h0 h1
      generalize rt l = r at *
      generalize lt l = g at *
      go_enter Trym.func3, Trym.ntmps3
      go_wp2_with (first
        | (go_at_call 4; refine (H4.out _).mono ?_; rintro e w' ⟨rfl, hw'⟩; have hw'' := hw'.symm; clear hw'; subst hw'')
        | (go_at_call 5; refine (H5.out _).mono ?_; rintro e w' ⟨rfl, hw'⟩; have hw'' := hw'.symm; clear hw'; subst hw''))
      go_ret
      exact ⟨rfl, rfl⟩
    · generalize rt l = r at *
      generalize lt l = g at *
      go_enter Trym.func3, Trym.ntmps3
      go_wp2_with (first
        | (go_at_call 4; refine (H4.out _).mono ?_; rintro e w' ⟨rfl, hw'⟩; have hw'' := hw'.symm; clear hw'; subst hw'')
        | (go_at_call 5; refine (H5.out _).mono ?_; rintro e w' ⟨rfl, hw'⟩; have hw'' := hw'.symm; clear hw'; subst hw''))
      go_ret
      exact ⟨rfl, rfl⟩
  · generalize rt l = r at *
    generalize lt l = g at *
    go_enter Trym.func3, Trym.ntmps3
    go_wp2_with (first
      | (go_at_call 4; refine (H4.out _).mono ?_; rintro e w' ⟨rfl, hw'⟩; have hw'' := hw'.symm; clear hw'; subst hw'')
      | (go_at_call 5; refine (H5.out _).mono ?_; rintro e w' ⟨rfl, hw'⟩; have hw'' := hw'.symm; clear hw'; subst hw''))
    go_ret
    exact ⟨rfl, rfl⟩
end Go.Proofs.Qxb6614571aMods
