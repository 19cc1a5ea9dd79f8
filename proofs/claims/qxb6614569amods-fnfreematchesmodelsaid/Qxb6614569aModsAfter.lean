/-
  Walks: ZZseq (25), ZZprogressAt (28), zzSameBatch (13), zzProgressAfter (14) at no mark.
-/
import Derived.Test.Qxb6614569aModsBuild
namespace Go.Proofs.Qxb6614569aMods
open Go.RowKit
set_option linter.unusedVariables false

theorem seq25 (w : World) (p : Nat) (s : Int) (hs : w.cell? ⟨p, 0, none⟩ = some (.int .u64 s)) :
    Calls Trym.prog 25 #[ptr p] w fun e w' => e = .returned (.int .u64 s) ∧ w' = w := by
  unfold ptr
  go_enter Trym.func25, Trym.ntmps25
  go_wp2
  go_ret
  exact ⟨rfl, rfl⟩

theorem progressAt_core (w : World) (qb g n cap i p : Nat) (s : ByteArray) (hq : w.cell? ⟨qb, 6, none⟩ = some (.slice (some ⟨g, 0, none⟩) n cap)) (hc : w.cell? ⟨g, i, none⟩ = some (.pointer (some ⟨p, 0, none⟩))) (hs : w.cell? ⟨p, 12, none⟩ = some (.string s)) (hi : i < n) (hm : n ≤ 9223372036854775807) :
    Calls Trym.prog 28 #[.pointer (some ⟨qb, 0, none⟩), .int .i64 (i : Int)] w fun e w' => e = .returned (.string s) ∧ w' = w := by
  go_enter Trym.func28, Trym.ntmps28
  go_wp2
  go_ret
  exact ⟨rfl, rfl⟩
theorem progressAt (B : Nat) (w : World) (qb : Nat) (pv : Value) (mb : Nat) (es : List (Nat × Array Value)) (i : Nat) (s : ByteArray) (h : Qat B w qb pv mb es) (hi : i < es.length) (hm : es.length ≤ maxLen) (hs : es[i].2[12]? = some (.string s)) :
    Calls Trym.prog 28 #[ptr qb, .int .i64 (i : Int)] w fun e w' => e = .returned (.string s) ∧ w' = w := by
  obtain ⟨g, cap, rfl, hc⟩ := h.cellAt i hi
  exact progressAt_core w qb g es.length cap i _ s h.cell hc ((h.entCell i hi 12).trans hs) hi hm

set_option maxHeartbeats 1000000 in
set_option maxRecDepth 100000 in
theorem sameBatch13 (w : World) (a b : Option Addr) (m ca cb : Nat) (F G : Nat → Nat) (hm : m ≤ 2000000) (hF : Hid (∀ k, k < m → F k ≤ 2000000))
    (ha : Hid (∀ k, k < m → ∃ x, a = some ⟨x, 0, none⟩ ∧ w.cell? ⟨x, k, none⟩ = some (ptr (G k)))) (hb : Hid (∀ k, k < m → ∃ x, b = some ⟨x, 0, none⟩ ∧ w.cell? ⟨x, k, none⟩ = some (.int .i64 (F k : Int))))
    (hs : Hid (∀ k, k < m → w.cell? ⟨G k, 0, none⟩ = some (.int .u64 (F k : Int)))) :
    Calls Trym.prog 13 #[.slice a m ca, .slice b m cb] w fun e w' => e = .returned (.bool true) ∧ ∃ n, w' = w.drewN n := by
  go_enter Trym.func13, Trym.ntmps13
  go_wp2
  go_loopw [5] (fun i wr => ∃ (k n : Nat), i = .int .i64 k ∧ k ≤ m ∧ Hid (wr = w.drewN n)) (fun i _ => m - (intOf i).toNat)
  case atStart => exact ⟨0, 0, rfl, Nat.zero_le _, rfl⟩
  case round =>
    obtain ⟨k, n, rfl, hk, hwr⟩ := hrel
    by_cases hlt : k < m
    · obtain ⟨x, rfl, hx⟩ := ha.out k hlt
      obtain ⟨y, rfl, hy⟩ := hb.out k hlt
      have hx' : wr.cell? ⟨x, k, none⟩ = some (ptr (G k)) := by rw [hwr.out]; exact hx
      have hy' : wr.cell? ⟨y, k, none⟩ = some (.int .i64 (F k : Int)) := by rw [hwr.out]; exact hy
      have hsq : Hid (∀ q, Calls Trym.prog 25 #[ptr (G k)] (wr.drewN q) fun e w' => e = .returned (.int .u64 (F k : Int)) ∧ w' = wr.drewN q) := fun q => seq25 _ _ _ (by rw [hwr.out]; exact hs.out k hlt)
      have hwrap : IntKind.u64.wrap (F k : Int) = (F k : Int) := wrapU _ (hF.out k hlt)
      have hbne : (bne (F k : Int) (F k : Int)) = false := by simp
      clear hx hy
      unfold ptr at hx' hsq
      go_wp2_with fail
      go_quiet ((go_at_call 25; exact Calls.quiet_of_same (hsq.out _)))
      go_wp2
      go_roundw
      case rel => exact ⟨k + 1, n + nq, by go_num, by omega, by show _ = _; rw [hwr.out, World.drewN_drewN]⟩
      case measure => simp [intOf]; omega
    · go_wp2
      go_ret
      exact ⟨rfl, n, hwr.out⟩

theorem after_core (w : World) (qb : Nat) (a0 : Option Addr) (n c0 : Nat) (P : Nat → ByteArray) (b0 : n ≤ 2000000)
    (h0 : Hid (Strs w a0 n P)) (hlen : Hid (Calls Trym.prog 26 #[ptr qb] w fun e w' => e = .returned (.int .i64 (n : Int)) ∧ w' = w))
    (hsq : Hid (∀ k, k < n → Calls Trym.prog 27 #[ptr qb, .int .i64 (k : Int)] w fun e w' => e = .returned (.int .u64 (k : Int)) ∧ w' = w))
    (hpr : Hid (∀ k, k < n → Calls Trym.prog 28 #[ptr qb, .int .i64 (k : Int)] w fun e w' => e = .returned (.string (P k)) ∧ w' = w)) :
    Calls Trym.prog 14 #[ptr qb, .slice a0 n c0, .slice none 0 0] w fun e w' => e = .returned (.bool true) ∧ w' = w := by
  have hbn : (bne (n : Int) (n : Int)) = false := by simp
  go_enter Trym.func14, Trym.ntmps14
  go_wp2_with (go_at_call 26; refine hlen.out.mono ?_; rintro e w' ⟨rfl, hw'⟩; have hw'' := hw'.symm; clear hw'; subst hw'')
  go_loop [7, 8] (fun z i => ∃ k : Nat, z = .int .i64 0 ∧ i = .int .i64 k ∧ k ≤ n) (fun _ i => n - (intOf i).toNat)
  case atStart => exact ⟨0, rfl, rfl, Nat.zero_le _⟩
  case round =>
    obtain ⟨k, rfl, rfl, hk⟩ := hrel
    by_cases hlt : k < n
    · obtain ⟨b, off, rfl, hc⟩ := h0.out k hlt
      have h27 := hide (hsq.out k hlt)
      have h28 := hide (hpr.out k hlt)
      have hwrap := hide (wrapU k (by omega))
      have hb1 : (bne (k : Int) (k : Int)) = false := by simp
      have hb2 : (bne (P k).toList (P k).toList) = false := by simp
      have hwrap2 : IntKind.u64.wrap (k : Int) = (k : Int) := hwrap.out
      go_wp2_with fail
      refine h27.out.mono ?_
      rintro e w' ⟨rfl, hw'⟩
      have hw'' := hw'.symm
      clear hw'
      subst hw''
      go_wp2_with fail
      refine h28.out.mono ?_
      rintro e w' ⟨rfl, hw'⟩
      have hw'' := hw'.symm
      clear hw'
      subst hw''
      go_wp2
      go_round
      case rel => exact ⟨k + 1, rfl, by go_num, by omega⟩
      case measure => simp [intOf]; omega
    · go_wp2
      go_ret
      exact ⟨rfl, rfl⟩
end Go.Proofs.Qxb6614569aMods
