/-
  Walks: bits.RotateLeft64 by 31 (8), xxhRound from 0 (7), xxhMerge (6), its outer name (5), invOdd at the first prime (4), FnXxhMergeXorEnteredBeforeMixing (3); the plain arithmetic modulo 2^64.
-/
import Derived.Test.Qxb6615193aModsRows
import Derived.WalkKit
import Derived.ProofKit
import Derived.Below
import Derived.Laws.BitsAllLaws
namespace Go.Proofs.Qxb6615193aMods
open Go.RowKit
set_option linter.unusedVariables false

theorem hide {p : Prop} (h : p) : Hid p := h
theorem and31 : bits .and .u64 31 63 = 31 := by decide +kernel

def rot (x : Int) : Int := bits .or .u64 (IntKind.u64.wrap (x * 2147483648)) (x / 8589934592)
theorem rot8 (x : Int) (w : World) : Calls Trym.prog 8 #[.int .u64 x, .int .i64 31] w fun e w' => e = .returned (.int .u64 (rot x)) ∧ w' = w := by
  unfold rot
  have ha := and31
  go_enter Trym.func8, Trym.ntmps8
  go_wp2
  go_ret
  exact ⟨rfl, rfl⟩

/-- What xxhRound makes of an accumulator: whatever it is. -/
def rnd (a : Int) : Int := IntKind.u64.wrap (rot (IntKind.u64.wrap (IntKind.u64.wrap (a * 14029467366897019727))) * 11400714785074694791)
theorem round7 (a : Int) (w : World) : Calls Trym.prog 7 #[.int .u64 0, .int .u64 a] w fun e w' => ∃ r, e = .returned (.int .u64 r) ∧ w' = w ∧ r = rnd a := by
  go_enter Trym.func7, Trym.ntmps7
  go_wp2_with (go_at_call 8; refine (rot8 _ _).mono ?_; rintro e w' ⟨rfl, hw'⟩; have hw'' := hw'.symm; clear hw'; subst hw'')
  go_ret
  refine ⟨_, rfl, rfl, ?_⟩
  rw [rnd]

/-- xxhMerge, over the round's number r. -/
def mrg (h r : Int) : Int := IntKind.u64.wrap (IntKind.u64.wrap (bits .xor .u64 h r * 11400714785074694791) + 9650029242287828579)
theorem merge6 (h a : Int) (w : World) : Calls Trym.prog 6 #[.int .u64 h, .int .u64 a] w fun e w' => e = .returned (.int .u64 (mrg h (rnd a))) ∧ w' = w := by
  have h7 := hide (round7 a)
  unfold mrg
  generalize rnd a = r at *
  go_enter Trym.func6, Trym.ntmps6
  go_wp2_with (go_at_call 7; refine (h7.out _).mono ?_; rintro e w' ⟨r', rfl, hw', hr⟩; have hw'' := hw'.symm; clear hw'; subst hw''; subst hr)
  go_ret
  exact ⟨rfl, rfl⟩
theorem merge5 (h a : Int) (w : World) : Calls Trym.prog 5 #[.int .u64 h, .int .u64 a] w fun e w' => e = .returned (.int .u64 (mrg h (rnd a))) ∧ w' = w := by
  go_enter Trym.func5, Trym.ntmps5
  go_wp2_with (go_at_call 6; refine (merge6 _ _ _).mono ?_; rintro e w' ⟨rfl, hw'⟩; have hw'' := hw'.symm; clear hw'; subst hw'')
  go_ret
  exact ⟨rfl, rfl⟩

/-- The inverse after k steps. -/
def newt : Nat → Int
  | 0 => 11400714785074694791
  | k + 1 => IntKind.u64.wrap (newt k * IntKind.u64.wrap (2 - IntKind.u64.wrap (11400714785074694791 * newt k)))
theorem inv4 (w : World) : Calls Trym.prog 4 #[.int .u64 11400714785074694791] w fun e w' => e = .returned (.int .u64 (newt 6)) ∧ w' = w := by
  go_enter Trym.func4, Trym.ntmps4
  go_wp2
  go_loop [3, 4] (fun x i => ∃ k : Nat, i = .int .i64 k ∧ k ≤ 6 ∧ x = .int .u64 (newt k)) (fun _ i => 6 - (intOf i).toNat)
  case atStart => exact ⟨0, rfl, by omega, rfl⟩
  case round =>
    obtain ⟨k, rfl, hk, rfl⟩ := hrel
    by_cases hlt : k < 6
    · go_wp2
      go_round
      case rel => exact ⟨k + 1, by go_num, by omega, rfl⟩
      case measure => simp [intOf]; omega
    · obtain rfl : k = 6 := by omega
      go_wp2
      go_ret
      exact ⟨rfl, rfl⟩

/-! ### the plain arithmetic -/
theorem newt6 : (11400714785074694791 * newt 6) % 18446744073709551616 = 1 := by decide +kernel

theorem mod_mul_inv (X p q : Int) (M : Int) (h : (p * q) % M = 1 % M) : ((X * p) % M * q) % M = X % M := by
  rw [Int.mul_emod ((X * p) % M) q M, Int.emod_emod_of_dvd _ (Int.dvd_refl M), ← Int.mul_emod, Int.mul_assoc, Int.mul_emod X, h, ← Int.mul_emod, Int.mul_one]

theorem back (X : Int) (h0 : 0 ≤ X) (h1 : X < 18446744073709551616) :
    IntKind.u64.wrap (IntKind.u64.wrap (IntKind.u64.wrap (IntKind.u64.wrap (X * 11400714785074694791) + 9650029242287828579) - 9650029242287828579) * newt 6) = X := by
  have e1 : IntKind.u64.wrap (IntKind.u64.wrap (IntKind.u64.wrap (X * 11400714785074694791) + 9650029242287828579) - 9650029242287828579) = (X * 11400714785074694791) % 18446744073709551616 := by
    rw [IntKind.wrap_u64, IntKind.wrap_u64, IntKind.wrap_u64]
    omega
  rw [e1, IntKind.wrap_u64, mod_mul_inv X 11400714785074694791 (newt 6) 18446744073709551616 newt6]
  exact Int.emod_eq_of_lt h0 h1

theorem in64 (op : BinOp) (a b : Int) : 0 ≤ bits op .u64 a b ∧ bits op .u64 a b < 18446744073709551616 := by
  have h := bits_within op .u64 a b
  have h1 : IntKind.u64.min = 0 := by decide
  have h2 : IntKind.u64.max = 18446744073709551615 := by decide
  rw [h1, h2] at h
  omega
theorem rnd64 (a : Int) : 0 ≤ rnd a ∧ rnd a < 18446744073709551616 := by
  unfold rnd
  rw [IntKind.wrap_u64]
  omega
theorem xor_swap (h r d : Int) (h0 : 0 ≤ h) (h1 : h < 18446744073709551616) (r0 : 0 ≤ r) (r1 : r < 18446744073709551616) (d0 : 0 ≤ d) (d1 : d < 18446744073709551616) :
    bits .xor .u64 (bits .xor .u64 h r) d = bits .xor .u64 (bits .xor .u64 h d) r := by
  have hr := in64 .xor h r
  have hd := in64 .xor h d
  rw [u64_xor _ d hr.1 hr.2 d0 d1, u64_xor _ r hd.1 hd.2 r0 r1, u64_xor h r h0 h1 r0 r1, u64_xor h d h0 h1 d0 d1]
  simp only [Int.toNat_natCast]
  rw [Nat.xor_assoc, Nat.xor_assoc, Nat.xor_comm r.toNat]

theorem law (h d r : Int) (h0 : 0 ≤ h) (h1 : h < 18446744073709551616) (r0 : 0 ≤ r) (r1 : r < 18446744073709551616) (d0 : 0 ≤ d) (d1 : d < 18446744073709551616) :
    mrg (bits .xor .u64 h d) r = IntKind.u64.wrap (IntKind.u64.wrap (bits .xor .u64 (IntKind.u64.wrap (IntKind.u64.wrap (mrg h r - 9650029242287828579) * newt 6)) d * 11400714785074694791) + 9650029242287828579) := by
  unfold mrg
  rw [back _ (in64 .xor h r).1 (in64 .xor h r).2, xor_swap h r d h0 h1 r0 r1 d0 d1]

theorem walk3 (h d a : Int) (w : World) (h0 : 0 ≤ h) (h1 : h < 18446744073709551616) (d0 : 0 ≤ d) (d1 : d < 18446744073709551616) :
    Calls Trym.prog 3 #[.int .u64 h, .int .u64 d, .int .u64 a] w fun e w' => e = .returned (.bool true) ∧ w' = w := by
  have hl := hide (law h d (rnd a) h0 h1 (rnd64 a).1 (rnd64 a).2 d0 d1)
  have m1 := hide (merge5 h a)
  have m2 := hide (merge5 (bits .xor .u64 h d) a)
  have i1 := hide inv4
  clear h0 h1 d0 d1
  generalize mrg h (rnd a) = x at *
  generalize mrg (bits .xor .u64 h d) (rnd a) = y at *
  generalize newt 6 = q at *
  go_enter Trym.func3, Trym.ntmps3
  go_wp2_with fail
  refine (i1.out _).mono ?_
  rintro e w' ⟨rfl, hw'⟩
  have hw'' := hw'.symm
  clear hw'
  subst hw''
  go_wp2_with fail
  refine (m1.out _).mono ?_
  rintro e w' ⟨rfl, hw'⟩
  have hw'' := hw'.symm
  clear hw'
  subst hw''
  go_wp2_with fail
  refine (m2.out _).mono ?_
  rintro e w' ⟨rfl, hw'⟩
  have hw'' := hw'.symm
  clear hw'
  subst hw''
  have hq := beq_iff_eq.2 hl.out
  go_wp2_with fail
  go_ret
  exact ⟨rfl, rfl⟩
end Go.Proofs.Qxb6615193aMods
