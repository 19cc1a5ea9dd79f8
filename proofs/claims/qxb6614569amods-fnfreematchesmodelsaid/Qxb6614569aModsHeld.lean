/-
  The queue's map of held owners, as a set of strings.
-/
import Derived.Test.Qxb6614569aModsAfter
import Derived.Maps.OwnOps
import Derived.Maps.Views
import Derived.MapFrom
namespace Go.Proofs.Qxb6614569aMods
open Go.RowKit
open Go.Maps (Keyed)
set_option linter.unusedVariables false

theorem key9 : Keyed Trym.prog 9 := Go.Maps.string_keyed Trym.underlying9
theorem zero4 (w : World) : (zeroValue 4).run Trym.prog w = .ok (.bool false) w := by kernel_rfl

theorem plainElem_bool_inv {H : Type} {P : Program} {e : TypeId} (he : P.underlying e = some .bool) {v : Value} {z : DataW H × List MemPlace} (h : plainElem P e v = some z) : ∃ a, v = .bool a ∧ z = (.lit (.bool a), []) := by
  unfold plainElem at h
  rw [he] at h
  cases v <;> simp at h
  subst h
  exact ⟨_, rfl, rfl⟩

/-- Block mb is a map whose true keys are the strings of S; it has at most c entries. -/
def SetIs (w : World) (mb c : Nat) (S : ByteArray → Prop) : Prop :=
  ∃ D : DataW Unit, w.ownsMap Trym.prog 9 (plainElem Trym.prog 4) mb c D ∧ Go.Maps.IsMap D ∧ ∀ s : ByteArray, s.size ≤ maxLen → (D.atKey (.string s.data.toList) (.lit (.bool false)) = .lit (.bool true) ↔ S s)

theorem SetIs.congr {w : World} {mb c c' : Nat} {S S' : ByteArray → Prop} (h : SetIs w mb c S) (hc : c ≤ c') (e : ∀ s, S s ↔ S' s) : SetIs w mb c' S' := by
  obtain ⟨D, h1, h2, h3⟩ := h
  exact ⟨D, h1.mono hc, h2, fun s hs => (h3 s hs).trans (e s)⟩
theorem SetIs.of_block {w w' : World} {mb c : Nat} {S : ByteArray → Prop} (h : SetIs w mb c S) (e : w'.heap[mb]? = w.heap[mb]?) : SetIs w' mb c S := by
  obtain ⟨D, ⟨es, clock, hb, r⟩, h2, h3⟩ := h
  exact ⟨D, ⟨es, clock, e.trans hb, r⟩, h2, h3⟩
theorem SetIs.lt {w : World} {mb c : Nat} {S : ByteArray → Prop} (h : SetIs w mb c S) : mb < w.heap.size := by
  obtain ⟨D, h1, _⟩ := h
  exact h1.lt
theorem setIs_empty {w : World} {mb : Nat} (h : w.heap[mb]? = some (.map #[] 0)) : SetIs w mb 0 (fun _ => False) := by
  refine ⟨.map [], ⟨#[], 0, h, ⟨by simp, MapKept.stamped_empty 0, by simp⟩, Nat.le_refl _, rfl⟩, Go.Maps.isMap_empty, fun s _ => ?_⟩
  simp [DataW.atKey]
/-- 'm[s]' -/
theorem SetIs.lookup {w : World} {mb c : Nat} {S : ByteArray → Prop} (h : SetIs w mb c S) (s : ByteArray) (hs : s.size ≤ maxLen) :
    ∃ b : Bool, (Instr.lookup 54 (.map (some mb)) (.string s) false).run Trym.prog w = .ok (.bool b) w ∧ (b = true ↔ S s) := by
  obtain ⟨D, h1, h2, h3⟩ := h
  obtain ⟨v, ps, hrun, hv⟩ := h1.lookup key9 Trym.underlying54 (zero4 w) (plainElem_bool Trym.underlying4 false) (Go.WideMaps.keyOf_string_mk Trym.underlying9 hs)
  obtain ⟨b, rfl, hb⟩ := plainElem_bool_inv Trym.underlying4 hv
  simp only [Prod.mk.injEq] at hb
  refine ⟨b, hrun, ?_⟩
  rw [← h3 s hs, hb.1]
  simp
/-- 'm[s] = true' -/
theorem SetIs.put {w w' : World} {mb c : Nat} {S : ByteArray → Prop} {D : DataW Unit} (h2 : Go.Maps.IsMap D) (h3 : ∀ s : ByteArray, s.size ≤ maxLen → (D.atKey (.string s.data.toList) (.lit (.bool false)) = .lit (.bool true) ↔ S s))
    (s : ByteArray) (hs : s.size ≤ maxLen) (h1 : w'.ownsMap Trym.prog 9 (plainElem Trym.prog 4) mb (c + 1) (D.put (.string s.data.toList) (.lit (.bool true)))) : SetIs w' mb (c + 1) (fun x => S x ∨ s = x) := by
  refine ⟨_, h1, h2.put _ _, fun x hx => ?_⟩
  by_cases e : s = x
  · subst e
    rw [Go.Maps.atKey_put_same h2 (by trivial)]
    simp
  · rw [Go.Maps.atKey_put_other (fun e' => e (Go.WideShapes.bytes_inj (by simpa using e'.symm))), h3 x hx]
    simp [e]

/-- 'clear' of a map that is empty already. -/
theorem clear54 (w : World) (mb : Nat) (h : w.heap[mb]? = some (.map #[] 0)) (ty : TypeId) : (Builtin.clear_ #[54] ty #[.map (some mb)]).run Trym.prog w = .ok (.tuple #[]) w := by
  have hset : ({ w with heap := w.heap.setIfInBounds mb (.map #[] 0) } : World) = w := by
    have : w.heap.setIfInBounds mb (.map #[] 0) = w.heap := by
      apply Array.ext_getElem?
      intro i
      rw [Array.getElem?_setIfInBounds]
      by_cases e : mb = i
      · subst e
        rw [if_pos rfl, if_pos (lt_of_block h), h]
      · rw [if_neg e]
    rw [this]
  simp [Builtin.clear_, run_underlying Trym.underlying54, Go.MapKept.run_getObj_map h, Go.MapKept.run_setObj_map _ h, Result.andThen, hset]
end Go.Proofs.Qxb6614569aMods
