/-
  The proof of 'Rows.FnFreeMatchesModelSaid': the frame is after the kit's shells for laws over slices, here over slices of strings and slices of those; the walk is Qxb6614569aModsFreeWalk.
-/
import Derived.Test.Qxb6614569aModsRows
import Derived.WalkKit
import Derived.ProofKit
import Derived.OpenShut
import Derived.ShutString
import Derived.ChangeOld
import Derived.Below
import Derived.SliceStrings
import Derived.Deep.Slices
import Derived.Test.Qxb6614569aModsFreeWalk
namespace Go.Proofs.Qxb6614569aMods.fnFreeMatchesModel
open Go.ChangeShapes Go.WideShapes Go.ChangeAt Go.RowKit
open Go.ChangeMaps (open_string shut_string)
set_option linter.unusedVariables false

theorem own : ownKnob Trym.prog.godebug = none := by kernel_rfl
theorem laidOut : laidOutB Trym.prog = true := by kernel_rfl

theorem addr_at {w : World} {x : Addr} {i : Nat} {v0 v : Value} (h0 : w.cell? (x.add 0) = some v0) (h : w.cell? (x.add i) = some v) : ∃ b off, some x = some ⟨b, off, none⟩ ∧ w.cell? ⟨b, off + i, none⟩ = some v := by
  obtain ⟨b, off, spot⟩ := x
  cases spot with
  | none => exact ⟨b, off, rfl, by rwa [Addr.add_lit] at h⟩
  | some sp => simp [World.cell?, Addr.add] at h0; split at h0 <;> simp at h0

/-- A slice of strings that came in. -/
theorem strs_open {H : Type} {enc : TypeId × Value → H} {W : World} {base : Nat} {spare : Nat → Bool} {held : Bool} {fuel : Nat} {cs : List Value} {x : DataW H × List MemPlace} (h : DataW.trod enc Trym.prog W base spare held fuel 22 cs = some x) :
    ∃ a len cap S, cs = [.slice a len cap] ∧ Strs W a len S ∧ len ≤ maxLen ∧ ∀ k, k < len → (S k).size ≤ maxLen := by
  rcases open_strings Trym.underlying22 Trym.underlying9 (by kernel_rfl) h with ⟨hcs, _⟩ | ⟨a, len, cap, ss, hcs, _, hl, hm, hz, _, hcell, hsz⟩
  · exact ⟨none, 0, 0, fun _ => ByteArray.empty, hcs, fun k hk => absurd hk (Nat.not_lt_zero _), Nat.zero_le _, fun k hk => absurd hk (Nat.not_lt_zero _)⟩
  · have hle : len ≤ ss.length := by rw [hz]; split <;> omega
    refine ⟨some a, len, cap, fun k => ss.getD k ByteArray.empty, hcs, fun k hk => addr_at (hcell 0 (by omega)) (hcell k (by omega)), Nat.le_trans hl hm, fun k hk => hsz _ ?_⟩
    simp [show k < ss.length by omega]
/-- A slice of slices of strings that came in. -/
theorem grid_open {H : Type} {enc : TypeId × Value → H} {W : World} {base : Nat} {spare : Nat → Bool} {held : Bool} {fuel : Nat} {cs : List Value} {x : DataW H × List MemPlace} (h : DataW.trod enc Trym.prog W base spare held fuel 23 cs = some x) :
    ∃ a len cap L T, cs = [.slice a len cap] ∧ Grid W a len L T ∧ len ≤ maxLen ∧ (∀ k, k < len → L k ≤ maxLen) ∧ ∀ k, k < len → ∀ m, m < L k → (T k m).size ≤ maxLen := by
  rcases Go.Deep.open_slice1 Trym.underlying23 (by kernel_rfl) h with ⟨hcs, _⟩ | ⟨a, len, cap, m, n, V, D, Pl, hcs, _, hl, hm, hmm, _, hV⟩
  · exact ⟨none, 0, 0, fun _ => 0, fun _ _ => ByteArray.empty, hcs, fun k hk => absurd hk (Nat.not_lt_zero _), Nat.zero_le _, fun k hk => absurd hk (Nat.not_lt_zero _), fun k hk => absurd hk (Nat.not_lt_zero _)⟩
  · have hle : len ≤ m := by rw [hmm]; split <;> omega
    have hex : ∀ i, i < len → ∃ z : Nat × (Nat → ByteArray), ∃ ar c, W.cell? (a.add i) = some (.slice ar z.1 c) ∧ Strs W ar z.1 z.2 ∧ z.1 ≤ maxLen ∧ ∀ k, k < z.1 → (z.2 k).size ≤ maxLen := by
      intro i hi
      obtain ⟨h1, h2⟩ := hV i (by omega)
      obtain ⟨ar, l, c, S, e, h3, h4, h5⟩ := strs_open h2
      simp only [List.cons.injEq, and_true] at e
      exact ⟨(l, S), ar, c, by rw [h1, e], h3, h4, h5⟩
    haveI : Inhabited (Nat × (Nat → ByteArray)) := ⟨(0, fun _ => ByteArray.empty)⟩
    obtain ⟨f, hf⟩ := Go.Deep.choose_lt hex
    refine ⟨some a, len, cap, fun k => (f k).1, fun k => (f k).2, hcs, fun k hk => ?_, Nat.le_trans hl hm, fun k hk => ?_, fun k hk => ?_⟩
    · obtain ⟨ar, c, h1, h2, _⟩ := hf k hk
      obtain ⟨_, _, h10, _⟩ := hf 0 (by omega)
      obtain ⟨b, off, e1, e2⟩ := addr_at h10 h1
      exact ⟨b, off, e1, ar, c, e2, h2⟩
    · obtain ⟨ar, c, h1, h2, h3, _⟩ := hf k hk
      exact h3
    · obtain ⟨ar, c, h1, h2, h3, h4⟩ := hf k hk
      exact h4

set_option maxRecDepth 100000 in
theorem lifted (os : Os) (started : os.Started) (H : Type) (enc : TypeId × Value → H) :
    ReturnsInHanded {} Trym.checked os 3 .any (Rows.fnFreeMatchesModelSpec.pre6 enc Trym.prog Trym.f3 Rows.fnFreeMatchesModelRow.domain false) (Rows.fnFreeMatchesModelSpec.post enc Trym.prog Trym.f3 false true false false) := by
  refine returnsInHanded_of_change (C := Trym.checked) own started (by kernel_rfl) Trym.func3
    (ChangeSpec.witness6 (enc := enc) (C := Trym.checked) false ⟨#[], #[.slice none 0 0, .slice none 0 0, .slice none 0 0, .int .i64 0], []⟩ 8 (by kernel_rfl) (by kernel_rfl) (by kernel_rfl) (by kernel_rfl)) ?_
  intro W base args ds gs before hval0 hW hcnd _
  have hval : ∀ (j : Nat) t v, Trym.f3.params[j]? = some t → args[j]? = some v → Value.okWide Trym.prog W .any base t v := hval0
  have hW' := hW
  obtain ⟨p, q, hA0, hV, rfl, hfz, hnd⟩ := hW
  have hA : DataW.TrodAll enc Trym.prog W 0 (fun _ => true) true Trym.f3.params.toList args.toList ds p := hA0
  rw [Trym.params3] at hA hval
  obtain ⟨v0, vs0, d0, ds0, p0, q0, hargs, rfl, rfl, h0, r0⟩ := trodAll_cons hA
  obtain ⟨v1, vs1, d1, ds1, p1, q1, rfl, rfl, rfl, h1, r1⟩ := trodAll_cons r0
  obtain ⟨v2, vs2, d2, ds2, p2, q2, rfl, rfl, rfl, h2, r2⟩ := trodAll_cons r1
  obtain ⟨v3, vs3, d3, ds3, p3, q3, rfl, rfl, rfl, h3, r3⟩ := trodAll_cons r2
  obtain ⟨rfl, rfl, rfl⟩ := trodAll_nil r3
  obtain rfl : args = #[v0, v1, v2, v3] := by cases args; simp_all
  obtain ⟨rfl, rfl⟩ := trodVars_none hV
  obtain ⟨a0, len0, cap0, rfl⟩ := okWide_slice Trym.underlying22 (hval 0 22 v0 rfl rfl)
  obtain ⟨a1, len1, cap1, rfl⟩ := okWide_slice Trym.underlying23 (hval 1 23 v1 rfl rfl)
  obtain ⟨a2, len2, cap2, rfl⟩ := okWide_slice Trym.underlying22 (hval 2 22 v2 rfl rfl)
  have k0 := h0
  have k1 := h1
  have k2 := h2
  have lt0 : ∀ x ∈ p0, x.block < W.heap.size := by obtain ⟨m, hm⟩ := k0; exact DataW.trod_lt m _ _ _ hm
  have lt1 : ∀ x ∈ p1, x.block < W.heap.size := by obtain ⟨m, hm⟩ := k1; exact DataW.trod_lt m _ _ _ hm
  have lt2 : ∀ x ∈ p2, x.block < W.heap.size := by obtain ⟨m, hm⟩ := k2; exact DataW.trod_lt m _ _ _ hm
  obtain ⟨P, s0, b0, z0⟩ : ∃ P, Strs W a0 len0 P ∧ len0 ≤ maxLen ∧ ∀ k, k < len0 → (P k).size ≤ maxLen := by
    obtain ⟨fuel, hf⟩ := h0
    obtain ⟨a, len, cap, S, hcs, r1, r2, r3⟩ := strs_open hf
    simp [Value.cells] at hcs
    obtain ⟨rfl, rfl, rfl⟩ := hcs
    exact ⟨S, r1, r2, r3⟩
  obtain ⟨L, T, s1, b1, bL, z1⟩ : ∃ L T, Grid W a1 len1 L T ∧ len1 ≤ maxLen ∧ (∀ k, k < len1 → L k ≤ maxLen) ∧ ∀ k, k < len1 → ∀ m, m < L k → (T k m).size ≤ maxLen := by
    obtain ⟨fuel, hf⟩ := h1
    obtain ⟨a, len, cap, L, T, hcs, r1, r2, r3, r4⟩ := grid_open hf
    simp [Value.cells] at hcs
    obtain ⟨rfl, rfl, rfl⟩ := hcs
    exact ⟨L, T, r1, r2, r3, r4⟩
  obtain ⟨Ac, s2, b2, z2⟩ : ∃ P, Strs W a2 len2 P ∧ len2 ≤ maxLen ∧ ∀ k, k < len2 → (P k).size ≤ maxLen := by
    obtain ⟨fuel, hf⟩ := h2
    obtain ⟨a, len, cap, S, hcs, r1, r2, r3⟩ := strs_open hf
    simp [Value.cells] at hcs
    obtain ⟨rfl, rfl, rfl⟩ := hcs
    exact ⟨S, r1, r2, r3⟩
  obtain ⟨a3, rfl, rfl, rfl, w3⟩ := open_int Trym.underlying3 (hval 3 3 v3 rfl rfl) h3
  clear hA0 hval0
  refine (walk3 W a0 a1 a2 len0 len1 len2 cap0 cap1 cap2 a3 P Ac L T s0 s1 s2 b0 b1 b2 bL z0 z1 z2).mono fun e W' ⟨he, bel⟩ => ?_
  subst he
  exact ⟨_, rfl, _, _, _, [], _, [], hW', trodAll_mk1 (shut_bool Trym.underlying4 _), (trodAll_cons_mk (Below.trod laidOut (by kernel_rfl) (of_decide_eq_true (by kernel_rfl)) k0 bel lt0) (trodAll_cons_mk (Below.trod laidOut (by kernel_rfl) (of_decide_eq_true (by kernel_rfl)) k1 bel lt1) (trodAll_cons_mk (Below.trod laidOut (by kernel_rfl) (of_decide_eq_true (by kernel_rfl)) k2 bel lt2) (trodAll_cons_mk (shut_int Trym.underlying3 w3) trodAll_mk0)))), rfl, bel.frame _, fun h => by cases h⟩

theorem over : Rows.fnFreeMatchesModelRow.holds Trym.pinned (OpenSpec.ofChange Rows.fnFreeMatchesModelSpec) :=
  OpenClaim.holds_of_wide 3 Trym.f3 rfl rfl rfl rfl rfl rfl rfl ⟨rfl, rfl, rfl, rfl, rfl⟩ rfl rfl rfl rfl rfl (by kernel_rfl) Trym.func3 (by kernel_rfl)
    (of_decide_eq_true (by kernel_rfl)) (by unfold Func.isWrapper; first | (rw [if_pos (by decide +kernel)]; kernel_rfl) | (rw [if_neg (by decide +kernel)]; exact ⟨rfl, rfl⟩))
    (fun os started H enc _ => lifted os started H enc)

/-- THE STATEMENT -/
theorem proved : Rows.FnFreeMatchesModelSaid := over
end Go.Proofs.Qxb6614569aMods.fnFreeMatchesModel
