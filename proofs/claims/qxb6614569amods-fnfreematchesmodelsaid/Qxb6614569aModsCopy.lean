/-
  Walks: zzCopyStrings (22), zzCopyOwners (9).
-/
import Derived.Test.Qxb6614569aModsFreeBase
import Derived.Deep.OwnRows
import Derived.WalkSpells
namespace Go.Proofs.Qxb6614569aMods
open Go.RowKit
set_option linter.unusedVariables false

theorem info9 : (Trym.prog.info? 9).map (fun i => (i.zero, i.size, i.bytes)) = some (some (.string ⟨#[]⟩), 1, 16) := by kernel_rfl
theorem info22 : (Trym.prog.info? 22).map (fun i => (i.zero, i.size, i.bytes)) = some (some (.slice none 0 0), 1, 24) := by kernel_rfl

/-- A copy of the n strings, in new memory. -/
def Copied (w : World) (n : Nat) (S : Nat → ByteArray) (e : Ending) (w' : World) : Prop :=
  ∃ a c, e = .returned (.slice a n c) ∧ Strs w' a n S ∧ (∀ x, a = some x → w.heap.size ≤ x.block) ∧ Below w.heap.size w w'

/-- So far k strings have been copied. -/
def CopyTo (w : World) (n : Nat) (S : Nat → ByteArray) (k : Nat) (wr : World) : Prop :=
  ∃ f, wr.rowIs w.heap.size 9 n f ∧ (∀ t, t < n → ∃ s, f t = .string s) ∧ (∀ t, t < k → f t = .string (S t)) ∧ Below w.heap.size w wr

theorem copyTo_start (w : World) (n : Nat) (S : Nat → ByteArray) : CopyTo w n S 0 (w.alloc (.cells (madeCells #[.string ⟨#[]⟩] n) 9)) :=
  ⟨_, World.rowIs_made w _ n 9, fun t _ => ⟨_, rfl⟩, fun t ht => absurd ht (Nat.not_lt_zero _), (Below.refl _ _).alloc (Nat.le_refl _) _⟩
theorem copyTo_step {w : World} {n : Nat} {S : Nat → ByteArray} {k : Nat} {wr : World} (h : CopyTo w n S k wr) : CopyTo w n S (k + 1) (wr.setCell ⟨w.heap.size, k, none⟩ (.string (S k))) := by
  obtain ⟨f, h1, h2, h3, h4⟩ := h
  refine ⟨_, h1.set k _, fun t ht => ?_, fun t ht => ?_, h4.setCell (Nat.le_refl _) _⟩
  · by_cases e : t = k
    · exact ⟨S k, by simp [e]⟩
    · obtain ⟨s, hs⟩ := h2 t ht
      exact ⟨s, by simp [e, hs]⟩
  · by_cases e : t = k
    · simp [e]
    · simp only [if_neg e]; exact h3 t (by omega)
theorem copyTo_cell {w : World} {n : Nat} {S : Nat → ByteArray} {k : Nat} {wr : World} (h : CopyTo w n S k wr) (t : Nat) (ht : t < n) : (∃ s, wr.cell? ⟨w.heap.size, t, none⟩ = some (.string s)) ∧ wr.frozen? ⟨w.heap.size, t, none⟩ = false := by
  obtain ⟨f, h1, h2, h3, h4⟩ := h
  obtain ⟨s, hs⟩ := h2 t ht
  exact ⟨⟨s, by rw [h1.cell ht, hs]⟩, h1.frozen t⟩
theorem copyTo_end {w : World} {n : Nat} {S : Nat → ByteArray} {wr : World} (h : CopyTo w n S n wr) (c : Nat) : Copied w n S (.returned (.slice (some ⟨w.heap.size, 0, none⟩) n c)) wr := by
  obtain ⟨f, h1, h2, h3, h4⟩ := h
  refine ⟨_, c, rfl, fun k hk => ⟨w.heap.size, 0, rfl, ?_⟩, fun x hx => ?_, h4⟩
  · rw [Nat.zero_add, h1.cell hk, h3 k hk]
  · cases hx; exact Nat.le_refl _

set_option maxHeartbeats 1000000 in
set_option maxRecDepth 100000 in
theorem copy22 (w : World) (a : Option Addr) (n c : Nat) (S : Nat → ByteArray) (h : Hid (Strs w a n S)) (hn : a = none → n = 0) (hb : n ≤ 2000000) :
    Calls Trym.prog 22 #[.slice a n c] w (Copied w n S) := by
  cases a with
  | none =>
    obtain rfl := hn rfl
    have hnil := fun w => Lib.run_eql_slice_nil (P := Trym.prog) w 22 9 none 0 c 0 0 Trym.underlying22
    go_enter Trym.func22, Trym.ntmps22
    go_wp2
    go_ret
    exact ⟨none, 0, rfl, fun k hk => absurd hk (Nat.not_lt_zero _), fun x hx => (by cases hx), Below.refl _ _⟩
  | some x =>
    clear hn
    have hnil := fun w => Lib.run_eql_slice_nil (P := Trym.prog) w 22 9 (some x) n c 0 0 Trym.underlying22
    have hmk := run_make_row' (P := Trym.prog) 22 9 (.string ⟨#[]⟩) 16 Trym.underlying22 info9 rfl .i64 .i64 n (by omega) (by omega)
    have h0 := hide (copyTo_start w n S)
    go_enter Trym.func22, Trym.ntmps22
    go_wp2
    go_loopw [4] (fun j wr => ∃ k : Nat, j = .int .i64 k ∧ k ≤ n ∧ Hid (CopyTo w n S k wr)) (fun j _ => n - (intOf j).toNat)
    case atStart => exact ⟨0, rfl, Nat.zero_le _, h0⟩
    case round =>
      obtain ⟨k, rfl, hk, hct⟩ := hrel
      by_cases hlt : k < n
      · obtain ⟨b, off, hx, hc⟩ := h.out k hlt
        simp only [Option.some.injEq] at hx
        subst hx
        obtain ⟨f, hf1, hf2, hf3, hf4⟩ := hct.out
        have hc' : wr.cell? ⟨b, off + k, none⟩ = some (.string (S k)) := (hf4.cell (p := ⟨b, off + k, none⟩) (World.block_lt_of_cell? w _ hc)).trans hc
        obtain ⟨⟨s, hs⟩, hfz⟩ := copyTo_cell hct.out k hlt
        clear hc hf1 hf2 hf3 hf4
        go_wp2
        go_roundw
        case rel => exact ⟨k + 1, by go_num, by omega, copyTo_step hct.out⟩
        case measure => simp [intOf]; omega
      · obtain rfl : k = n := by omega
        go_wp2
        go_ret
        exact copyTo_end hct.out _

theorem Strs.nil {w : World} {a : Option Addr} {n : Nat} {S : Nat → ByteArray} (h : Strs w a n S) (ha : a = none) : n = 0 := by
  rcases Nat.eq_zero_or_pos n with h0 | h0
  · exact h0
  · obtain ⟨b, off, h1, _⟩ := h 0 h0
    rw [ha] at h1; cases h1
theorem Grid.nil {w : World} {a : Option Addr} {n : Nat} {L : Nat → Nat} {T : Nat → Nat → ByteArray} (h : Grid w a n L T) (ha : a = none) : n = 0 := by
  rcases Nat.eq_zero_or_pos n with h0 | h0
  · exact h0
  · obtain ⟨b, off, h1, _⟩ := h 0 h0
    rw [ha] at h1; cases h1

def GridCopied (w : World) (n : Nat) (L : Nat → Nat) (T : Nat → Nat → ByteArray) (e : Ending) (w' : World) : Prop :=
  ∃ a c, e = .returned (.slice a n c) ∧ Grid w' a n L T ∧ Below w.heap.size w w'
/-- So far k rows have been copied. -/
def GridTo (w : World) (n : Nat) (L : Nat → Nat) (T : Nat → Nat → ByteArray) (k : Nat) (wr : World) : Prop :=
  ∃ f, wr.rowIs w.heap.size 22 n f ∧ (∀ t, t < n → ∃ a l c, f t = .slice a l c) ∧ (∀ t, t < k → ∃ ar c, f t = .slice ar (L t) c ∧ Strs wr ar (L t) (T t) ∧ ∀ x, ar = some x → w.heap.size < x.block) ∧ Below w.heap.size w wr

theorem gridTo_start (w : World) (n : Nat) (L : Nat → Nat) (T : Nat → Nat → ByteArray) : GridTo w n L T 0 (w.alloc (.cells (madeCells #[.slice none 0 0] n) 22)) :=
  ⟨_, World.rowIs_made w _ n 22, fun t _ => ⟨_, _, _, rfl⟩, fun t ht => absurd ht (Nat.not_lt_zero _), (Below.refl _ _).alloc (Nat.le_refl _) _⟩
theorem gridTo_cell {w : World} {n : Nat} {L : Nat → Nat} {T : Nat → Nat → ByteArray} {k : Nat} {wr w2 : World} (h : GridTo w n L T k wr) (hb : Below wr.heap.size wr w2) (t : Nat) (ht : t < n) : (∃ a l c, w2.cell? ⟨w.heap.size, t, none⟩ = some (.slice a l c)) ∧ w2.frozen? ⟨w.heap.size, t, none⟩ = false := by
  obtain ⟨f, h1, h2, h3, h4⟩ := h
  obtain ⟨a, l, c, hs⟩ := h2 t ht
  have h1' := h1.of_block (hb.block _ h1.lt)
  exact ⟨⟨a, l, c, by rw [h1'.cell ht, hs]⟩, h1'.frozen t⟩
theorem gridTo_step {w : World} {n : Nat} {L : Nat → Nat} {T : Nat → Nat → ByteArray} {k : Nat} {wr w2 : World} (h : GridTo w n L T k wr) (ar : Option Addr) (c : Nat) (hs : Strs w2 ar (L k) (T k)) (hx : ∀ x, ar = some x → wr.heap.size ≤ x.block) (hb : Below wr.heap.size wr w2) :
    GridTo w n L T (k + 1) (w2.setCell ⟨w.heap.size, k, none⟩ (.slice ar (L k) c)) := by
  obtain ⟨f, h1, h2, h3, h4⟩ := h
  have hlt := h1.lt
  have h1' := h1.of_block (hb.block _ h1.lt)
  have far : ∀ {ar : Option Addr} {m : Nat} {S : Nat → ByteArray} (v : Value), Strs w2 ar m S → (∀ x, ar = some x → w.heap.size < x.block) → Strs (w2.setCell ⟨w.heap.size, k, none⟩ v) ar m S := by
    intro ar m S v hS hne j hj
    obtain ⟨b, off, e1, e2⟩ := hS j hj
    refine ⟨b, off, e1, ?_⟩
    rw [World.cell?_setCell_far _ _ _ _ (by have := hne _ e1; exact Nat.ne_of_lt this)]
    exact e2
  refine ⟨_, h1'.set k _, fun t ht => ?_, fun t ht => ?_, (h4.trans (hb.mono h4.size)).setCell (Nat.le_refl _) _⟩
  · by_cases e : t = k
    · exact ⟨ar, L k, c, by simp [e]⟩
    · obtain ⟨a', l', c', hs'⟩ := h2 t ht
      exact ⟨a', l', c', by simp [e, hs']⟩
  · by_cases e : t = k
    · subst e
      exact ⟨ar, c, by simp, far _ hs (fun x h => Nat.lt_of_lt_of_le hlt (hx x h)), fun x h => Nat.lt_of_lt_of_le hlt (hx x h)⟩
    · obtain ⟨ar', c', e1, e2, e3⟩ := h3 t (by omega)
      exact ⟨ar', c', by simp [e, e1], far _ (e2.up (Below.up hb)) e3, e3⟩
theorem gridTo_end {w : World} {n : Nat} {L : Nat → Nat} {T : Nat → Nat → ByteArray} {wr : World} (h : GridTo w n L T n wr) (c : Nat) : GridCopied w n L T (.returned (.slice (some ⟨w.heap.size, 0, none⟩) n c)) wr := by
  obtain ⟨f, h1, h2, h3, h4⟩ := h
  refine ⟨_, c, rfl, fun k hk => ⟨w.heap.size, 0, rfl, ?_⟩, h4⟩
  obtain ⟨ar, c', e1, e2, _⟩ := h3 k hk
  exact ⟨ar, c', by rw [Nat.zero_add, h1.cell hk, e1], e2⟩

set_option maxHeartbeats 1000000 in
set_option maxRecDepth 100000 in
theorem copy9 (w : World) (a : Option Addr) (n c : Nat) (L : Nat → Nat) (T : Nat → Nat → ByteArray) (h : Hid (Grid w a n L T)) (hb : n ≤ 2000000) (hL : Hid (∀ k, k < n → L k ≤ 2000000)) :
    Calls Trym.prog 9 #[.slice a n c] w (GridCopied w n L T) := by
  have hn := Grid.nil h.out
  cases a with
  | none =>
    obtain rfl := hn rfl
    have hnil := fun w => Lib.run_eql_slice_nil (P := Trym.prog) w 23 22 none 0 c 0 0 Trym.underlying23
    go_enter Trym.func9, Trym.ntmps9
    go_wp2
    go_ret
    exact ⟨none, 0, rfl, fun k hk => absurd hk (Nat.not_lt_zero _), Below.refl _ _⟩
  | some x =>
    clear hn
    have hnil := fun w => Lib.run_eql_slice_nil (P := Trym.prog) w 23 22 (some x) n c 0 0 Trym.underlying23
    have hmk := run_make_row' (P := Trym.prog) 23 22 (.slice none 0 0) 24 Trym.underlying23 info22 rfl .i64 .i64 n (by omega) (by omega)
    have h0 := hide (gridTo_start w n L T)
    go_enter Trym.func9, Trym.ntmps9
    go_wp2
    go_loopw [4] (fun j wr => ∃ k : Nat, j = .int .i64 k ∧ k ≤ n ∧ Hid (GridTo w n L T k wr)) (fun j _ => n - (intOf j).toNat)
    case atStart => exact ⟨0, rfl, Nat.zero_le _, h0⟩
    case round =>
      obtain ⟨k, rfl, hk, hct⟩ := hrel
      by_cases hlt : k < n
      · obtain ⟨b, off, hx, ar, cr, hc, hr⟩ := h.out k hlt
        simp only [Option.some.injEq] at hx
        subst hx
        have hbel : Below w.heap.size w wr := by obtain ⟨f, hf1, hf2, hf3, hf4⟩ := hct.out; exact hf4
        have hc' : wr.cell? ⟨b, off + k, none⟩ = some (.slice ar (L k) cr) := (hbel.cell (p := ⟨b, off + k, none⟩) (World.block_lt_of_cell? w _ hc)).trans hc
        have hcopy := hide (copy22 wr ar (L k) cr (T k) (hr.up (Below.up hbel)) hr.nil (hL.out k hlt))
        have hL' := hL.out k hlt
        clear hc hbel hr
        go_wp2_with fail
        refine hcopy.out.mono ?_
        rintro e w2 ⟨a', c', rfl, hs, hx', hb2⟩
        obtain ⟨⟨qa, ql, qc, hq⟩, hfz⟩ := gridTo_cell hct.out hb2 k hlt
        have hstep := hide (gridTo_step hct.out a' c' hs hx' hb2)
        clear hs hx' hb2 hc'
        go_wp2
        go_roundw
        case rel => exact ⟨k + 1, by go_num, by omega, hstep⟩
        case measure => simp [intOf]; omega
      · obtain rfl : k = n := by omega
        go_wp2
        go_ret
        exact gridTo_end hct.out _
end Go.Proofs.Qxb6614569aMods
