/-
  Two queues side by side; the plain law on taking out two places. For FnDropTwoInEitherOrder.
-/
import Derived.Test.Qxb6614569aModsDropWalk
namespace Go.Proofs.Qxb6614569aMods
open Go.RowKit
set_option linter.unusedVariables false

theorem kept_len_one (zs : List Int) (i : Nat) : ∀ k : Nat, (kept zs (i : Int) (-1) k).length = if i < k then k - 1 else k
  | 0 => by simp [kept]
  | k + 1 => by
    have ih := kept_len_one zs i k
    by_cases e : k = i
    · subst e
      rw [kept_skip _ _ _ _ (.inl rfl), ih, if_neg (by omega), if_pos (by omega)]; rfl
    · rw [kept_take _ _ _ _ (by omega) (by omega), List.length_append, ih]
      by_cases c : i < k
      · rw [if_pos c, if_pos (by omega)]; simp; omega
      · rw [if_neg c, if_neg (by omega)]; simp

/-- Where what stood at j stands once i is taken out. -/
def shiftOf (i j : Nat) : Nat := if j < i then j else j - 1

theorem kept_two (zs : List Int) (i j : Nat) (hij : i ≠ j) : ∀ k : Nat, kept zs (i : Int) (j : Int) k = (kept zs (i : Int) (-1) k).eraseIdx (shiftOf i j)
  | 0 => by simp [kept]
  | k + 1 => by
    have ih := kept_two zs i j hij k
    have hl := kept_len_one zs i k
    by_cases e : k = i
    · rw [kept_skip _ _ _ _ (.inl (by omega)), kept_skip _ _ _ _ (.inl (by omega)), ih]
    · rw [kept_take zs (i : Int) (-1) k (by omega) (by omega)]
      by_cases e2 : k = j
      · have hs : shiftOf i j = (kept zs (i : Int) (-1) k).length := by
          rw [hl]; unfold shiftOf; split <;> split <;> omega
        rw [kept_skip _ _ _ _ (.inr (by omega)), ih, hs, List.eraseIdx_of_length_le (Nat.le_refl _), List.eraseIdx_append_of_length_le (Nat.le_refl _)]
        simp
      · rw [kept_take _ _ _ _ (by omega) (by omega), ih]
        by_cases c : shiftOf i j < (kept zs (i : Int) (-1) k).length
        · rw [List.eraseIdx_append_of_lt_length c]
        · have hs : (kept zs (i : Int) (-1) k).length < shiftOf i j := by
            rw [hl] at c ⊢; unfold shiftOf at c ⊢
            split at c <;> split at c <;> split <;> omega
          rw [List.eraseIdx_of_length_le (by omega), List.eraseIdx_of_length_le (by simp; omega)]

theorem getElem_erase {α : Type} (l : List α) (i j : Nat) (hij : i ≠ j) (hi : i < l.length) (hj : j < l.length) : ∃ h : shiftOf i j < (l.eraseIdx i).length, (l.eraseIdx i)[shiftOf i j] = l[j] := by
  have h : shiftOf i j < (l.eraseIdx i).length := by rw [List.length_eraseIdx, if_pos hi]; unfold shiftOf; split <;> omega
  refine ⟨h, ?_⟩
  rw [List.getElem_eraseIdx]
  by_cases c : j < i
  · have e : shiftOf i j = j := by unfold shiftOf; rw [if_pos c]
    simp only [e]
    rw [dif_pos c]
  · have e : shiftOf i j = j - 1 := by unfold shiftOf; rw [if_neg c]
    simp only [e]
    rw [dif_neg (by omega)]
    simp only [show j - 1 + 1 = j by omega]

/-! ### two queues -/
structure Pair (B : Nat) (w : World) (q1 : Nat) (v1 : Value) (m1 : Nat) (e1 : List (Nat × Array Value)) (q2 : Nat) (v2 : Value) (m2 : Nat) (e2 : List (Nat × Array Value)) : Prop where
  one : Qat B w q1 v1 m1 e1
  two : Qat B w q2 v2 m2 e2
  ne : q1 ≠ q2
  row : ∀ k, v1.ownBlock = some k → v2.ownBlock ≠ some k
theorem Pair.symm {B : Nat} {w : World} {q1 : Nat} {v1 : Value} {m1 : Nat} {e1 : List (Nat × Array Value)} {q2 : Nat} {v2 : Value} {m2 : Nat} {e2 : List (Nat × Array Value)} (h : Pair B w q1 v1 m1 e1 q2 v2 m2 e2) : Pair B w q2 v2 m2 e2 q1 v1 m1 e1 :=
  ⟨h.two, h.one, fun e => h.ne e.symm, fun k h2 h1 => h.row k h1 h2⟩
/-- What is written of the first queue leaves the second alone. -/
theorem Pair.other {B : Nat} {w w' : World} {q1 : Nat} {v1 : Value} {m1 : Nat} {e1 : List (Nat × Array Value)} {q2 : Nat} {v2 : Value} {m2 : Nat} {e2 : List (Nat × Array Value)} (h : Pair B w q1 v1 m1 e1 q2 v2 m2 e2)
    (k : Kept (fun k => k = q1 ∨ some k = v1.ownBlock) w w') : Qat B w' q2 v2 m2 e2 := by
  obtain ⟨c1, x1, _⟩ := h.one.blk
  obtain ⟨c2, x2, _⟩ := h.two.blk
  refine h.two.kept k ?_ ?_ ?_
  · rintro (e | e)
    · exact h.ne e.symm
    · obtain ⟨cur, hc⟩ := own_type h.one.row e.symm
      rw [x2] at hc; simp at hc
  · rintro b hb (e | e)
    · obtain ⟨cur, hc⟩ := own_type h.two.row hb
      rw [e, x1] at hc; simp at hc
    · exact h.row b e.symm hb
  · rintro e he (e1 | e1)
    · have := h.two.ent e he
      rw [e1, x1] at this; simp at this
    · obtain ⟨cur, hc⟩ := own_type h.one.row e1.symm
      rw [h.two.ent e he] at hc; simp at hc
theorem Pair.pushed {B : Nat} {w w' : World} {q1 : Nat} {v1 : Value} {m1 : Nat} {e1 : List (Nat × Array Value)} {q2 : Nat} {v2 : Value} {m2 : Nat} {e2 : List (Nat × Array Value)} (h : Pair B w q1 v1 m1 e1 q2 v2 m2 e2) {s : Int} {pr ac : ByteArray} {ow : Value}
    (hp : Pushed B w q1 v1 m1 e1 s pr ac ow w') : ∃ v1' eb c1 c2, Pair B w' q1 v1' m1 (e1 ++ [(eb, ent s pr ac ow c1 c2)]) q2 v2 m2 e2 ∧ Kept (fun k => k = q1 ∨ some k = v1.ownBlock) w w' := by
  obtain ⟨pv', eb, c1, c2, h1, h2, h3, h4⟩ := hp
  refine ⟨pv', eb, c1, c2, ⟨h1, h.other h4, h.ne, fun k hk hk2 => ?_⟩, h4⟩
  rcases h3 k hk with h5 | h5
  · exact h.row k h5 hk2
  · have := (h.two.row.lt k hk2).2; omega
theorem Pair.dropped {B : Nat} {w w' : World} {q1 : Nat} {v1 : Value} {m1 : Nat} {e1 e1' : List (Nat × Array Value)} {q2 : Nat} {v2 : Value} {m2 : Nat} {e2 : List (Nat × Array Value)} (h : Pair B w q1 v1 m1 e1 q2 v2 m2 e2)
    (hp : Dropped B w q1 v1 m1 e1' w') : ∃ v1', Pair B w' q1 v1' m1 e1' q2 v2 m2 e2 ∧ Kept (fun k => k = q1 ∨ some k = v1.ownBlock) w w' := by
  obtain ⟨pv', h1, h2, h3⟩ := hp
  exact ⟨pv', ⟨h1, h.other h3, h.ne, fun k hk => h.row k (h2 ▸ hk)⟩, h3⟩
theorem Pair.drewN {B : Nat} {w : World} {q1 : Nat} {v1 : Value} {m1 : Nat} {e1 : List (Nat × Array Value)} {q2 : Nat} {v2 : Value} {m2 : Nat} {e2 : List (Nat × Array Value)} (h : Pair B w q1 v1 m1 e1 q2 v2 m2 e2) (n : Nat) : Pair B (w.drewN n) q1 v1 m1 e1 q2 v2 m2 e2 :=
  ⟨h.one.drewN n, h.two.drewN n, h.ne, h.row⟩
end Go.Proofs.Qxb6614569aMods
