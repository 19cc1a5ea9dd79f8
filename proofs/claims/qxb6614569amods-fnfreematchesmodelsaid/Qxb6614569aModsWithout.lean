/-
  Walk: zzPendingIsWithout (20): where the queue's numbers are those of the list without its i-th and j-th, it answers true.
-/
import Derived.Test.Qxb6614569aModsDrop
import Derived.Deep.QuietTactic
import Derived.BigQuiet
namespace Go.Proofs.Qxb6614569aMods
open Go.RowKit
set_option linter.unusedVariables false

/-- The first k numbers of zs without the i-th and the j-th. -/
def kept (zs : List Int) (i j : Int) : Nat → List Int
  | 0 => []
  | k + 1 => if (k : Int) = i ∨ (k : Int) = j then kept zs i j k else kept zs i j k ++ [zs.getD k 0]

theorem kept_skip (zs : List Int) (i j : Int) (k : Nat) (h : (k : Int) = i ∨ (k : Int) = j) : kept zs i j (k + 1) = kept zs i j k := by rw [kept, if_pos h]
theorem kept_take (zs : List Int) (i j : Int) (k : Nat) (h1 : ¬ (k : Int) = i) (h2 : ¬ (k : Int) = j) : kept zs i j (k + 1) = kept zs i j k ++ [zs.getD k 0] := by rw [kept, if_neg (by omega)]
theorem kept_len (zs : List Int) (i j : Int) : ∀ k, (kept zs i j k).length ≤ k
  | 0 => Nat.le_refl _
  | k + 1 => by
    have := kept_len zs i j k
    rw [kept]; split
    · omega
    · simp; omega
theorem kept_mono (zs : List Int) (i j : Int) (k : Nat) : ∀ d, ∃ r, kept zs i j (k + d) = kept zs i j k ++ r
  | 0 => ⟨[], by simp⟩
  | d + 1 => by
    obtain ⟨r, hr⟩ := kept_mono zs i j k d
    rw [← Nat.add_assoc, kept]
    split
    · exact ⟨r, hr⟩
    · exact ⟨r ++ [zs.getD (k + d) 0], by rw [hr, List.append_assoc]⟩
/-- What stands at the place at which the k-th is asked. -/
theorem kept_at (zs : List Int) (i j : Int) (k n : Nat) (hk : k < n) (h1 : ¬ (k : Int) = i) (h2 : ¬ (k : Int) = j) : (kept zs i j n)[(kept zs i j k).length]? = some (zs.getD k 0) := by
  obtain ⟨r, hr⟩ := kept_mono zs i j (k + 1) (n - (k + 1))
  rw [show k + 1 + (n - (k + 1)) = n by omega] at hr
  rw [hr, kept_take zs i j k h1 h2, List.append_assoc, List.getElem?_append_right (Nat.le_refl _)]
  simp

/-- The queue's numbers. -/
def seqs (es : List (Nat × Array Value)) (ss : List Int) : Prop := es.map (fun e => e.2[0]?) = ss.map fun s => some (.int .u64 s)
theorem seqs_len {es : List (Nat × Array Value)} {ss : List Int} (h : seqs es ss) : es.length = ss.length := by
  have := congrArg List.length h
  simpa using this
theorem seqs_at {es : List (Nat × Array Value)} {ss : List Int} (h : seqs es ss) (p : Nat) (s : Int) (hs : ss[p]? = some s) : ∃ hp : p < es.length, es[p].2[0]? = some (.int .u64 s) := by
  have hp : p < ss.length := (List.getElem?_eq_some_iff.1 hs).1
  have hp2 : p < es.length := by rw [seqs_len h]; exact hp
  refine ⟨hp2, ?_⟩
  have := congrArg (·[p]?) h
  simp [hp2, hs] at this
  exact this

theorem Qat.drewN {B qb mb : Nat} {w : World} {pv : Value} {es : List (Nat × Array Value)} (h : Qat B w qb pv mb es) (n : Nat) : Qat B (w.drewN n) qb pv mb es := ⟨h.lo, h.blk, h.row, h.ent, h.nod⟩

set_option maxHeartbeats 1000000 in
theorem without_core (w : World) (qb b off len cap m : Nat) (i j d : Int) (Z : Nat → Int) (P : Nat → Nat)
    (hz : Hid (∀ k, k < len → w.cell? ⟨b, off + k, none⟩ = some (.int .u64 (Z k)))) (hl : len ≤ 2000000)
    (hp0 : Hid (P 0 = 0)) (hskip : Hid (∀ k : Nat, ((k : Int) = i ∨ (k : Int) = j) → P (k + 1) = P k)) (htake : Hid (∀ k : Nat, ¬ (k : Int) = i → ¬ (k : Int) = j → P (k + 1) = P k + 1)) (hpb : Hid (∀ k, P k ≤ k))
    (hlen : Hid (Calls Trym.prog 26 #[.pointer (some ⟨qb, 0, none⟩)] w fun e w' => e = .returned (.int .i64 (m : Int)) ∧ w' = w))
    (hsq : Hid (∀ k, k < len → ¬ (k : Int) = i → ¬ (k : Int) = j → ∀ n, Calls Trym.prog 27 #[.pointer (some ⟨qb, 0, none⟩), .int .i64 (P k : Int)] (w.drewN n) fun e w' => e = .returned (.int .u64 (Z k)) ∧ w' = w.drewN n))
    (hw : Hid ((0 ≤ j ∧ (m : Int) = (len : Int) - 1 - 1) ∨ (¬ 0 ≤ j ∧ (m : Int) = (len : Int) - 1))) (hm : m ≤ 2000000) :
    Calls Trym.prog 20 #[.pointer (some ⟨qb, 0, none⟩), .slice (some ⟨b, off, none⟩) len cap, .int .i64 i, .int .i64 j] w fun e w' => e = .returned (.bool true) ∧ ∃ n, w' = w.drewN n := by
  have key : ∀ want : Int, Hid (want = (m : Int)) → (bne (m : Int) want) = false := fun want h => by rw [h.out]; simp
  rcases hw.out with ⟨hj, hw1⟩ | ⟨hj, hw1⟩
  all_goals
    have hne := key _ hw1.symm
    clear key hw hw1
    go_enter Trym.func20, Trym.ntmps20
    go_wp2_with (go_at_call 26; refine hlen.out.mono ?_; rintro e w' ⟨rfl, hw'⟩; have hw'' := hw'.symm; clear hw'; subst hw'')
    go_loopw [10, 11] (fun p k wr => ∃ n c : Nat, wr = w.drewN n ∧ c ≤ len ∧ k = .int .i64 c ∧ p = .int .i64 (P c : Int)) (fun _ k _ => len - (intOf k).toNat)
    case atStart => exact ⟨0, 0, rfl, Nat.zero_le _, rfl, by rw [hp0.out]; rfl⟩
    case round =>
      obtain ⟨n, c, hwr, hc, rfl, rfl⟩ := hrel
      have Hwr : Hid (wr = w.drewN n) := hwr
      clear hwr
      have hb := hpb.out c
      by_cases hlt : c < len
      · have hcell : wr.cell? ⟨b, off + c, none⟩ = some (.int .u64 (Z c)) := by rw [Hwr.out]; exact hz.out c hlt
        by_cases h1 : (c : Int) = i
        · have h1' : ((c : Int) == i) = true := by simp [h1]
          have H1 : Hid ((c : Int) = i) := h1
          clear h1
          go_wp2
          go_roundw
          case rel => exact ⟨n, c + 1, Hwr.out, by omega, by go_num, by rw [hskip.out c (.inl H1.out)]⟩
          case measure => simp [intOf]; omega
        · have h1' : ((c : Int) == i) = false := by simp [h1]
          have H1 : Hid (¬ (c : Int) = i) := h1
          clear h1
          by_cases h2 : (c : Int) = j
          · have h2' : ((c : Int) == j) = true := by simp [h2]
            have H2 : Hid ((c : Int) = j) := h2
            clear h2
            go_wp2
            go_roundw
            case rel => exact ⟨n, c + 1, Hwr.out, by omega, by go_num, by rw [hskip.out c (.inr H2.out)]⟩
            case measure => simp [intOf]; omega
          · have h2' : ((c : Int) == j) = false := by simp [h2]
            have H2 : Hid (¬ (c : Int) = j) := h2
            clear h2
            have H3 := hsq.out c hlt H1.out H2.out
            have Hsq : Hid (∀ m, Calls Trym.prog 27 #[.pointer (some ⟨qb, 0, none⟩), .int .i64 (P c : Int)] (wr.drewN m) fun e w' => e = .returned (.int .u64 (Z c)) ∧ w' = wr.drewN m) := by
              intro m
              rw [Hwr.out, World.drewN_drewN]
              exact H3 (n + m)
            clear H3
            have hbne : (bne (Z c) (Z c)) = false := by simp
            go_wp2_with fail
            go_quiet ((go_at_call 27; exact Calls.quiet_of_same (Hsq.out _)))
            go_wp2
            go_roundw
            case rel => exact ⟨n + nq, c + 1, by rw [Hwr.out, World.drewN_drewN], by omega, by go_num, by rw [htake.out c H1.out H2.out]; go_num⟩
            case measure => simp [intOf]; omega
      · go_wp2
        go_ret
        exact ⟨rfl, n, Hwr.out⟩

theorem without (B : Nat) (w : World) (qb : Nat) (pv : Value) (mb : Nat) (es : List (Nat × Array Value)) (b off len cap : Nat) (zs : List Int) (i j : Int) (h : Qat B w qb pv mb es) (hz : ∀ k, k < len → w.cell? ⟨b, off + k, none⟩ = some (.int .u64 (zs.getD k 0)))
    (hl : len ≤ 2000000) (hs : seqs es (kept zs i j len)) (hw : (0 ≤ j ∧ (es.length : Int) = (len : Int) - 1 - 1) ∨ (¬ 0 ≤ j ∧ (es.length : Int) = (len : Int) - 1)) :
    Calls Trym.prog 20 #[ptr qb, .slice (some ⟨b, off, none⟩) len cap, .int .i64 i, .int .i64 j] w fun e w' => e = .returned (.bool true) ∧ ∃ n, w' = w.drewN n := by
  have hle : es.length ≤ 2000000 := by rw [seqs_len hs]; have := kept_len zs i j len; omega
  refine without_core w qb b off len cap es.length i j 0 (fun k => zs.getD k 0) (fun k => (kept zs i j k).length) hz hl rfl (fun k hk => by rw [kept_skip _ _ _ _ hk]) (fun k h1 h2 => by rw [kept_take _ _ _ _ h1 h2]; simp) (kept_len zs i j) (lenOf B w qb pv mb es h) ?_ hw hle
  intro k hk h1 h2 n
  obtain ⟨hp, hp2⟩ := seqs_at hs _ _ (kept_at zs i j k len hk h1 h2)
  exact seqAt B _ qb pv mb es _ _ (h.drewN n) hp (by unfold maxLen; omega) hp2

/-- 'kept' is the list with the i-th taken out. -/
theorem kept_take_of (zs : List Int) (i j : Int) : ∀ k : Nat, k ≤ zs.length → (∀ t : Nat, t < k → ¬ (t : Int) = i ∧ ¬ (t : Int) = j) → kept zs i j k = zs.take k
  | 0, _, _ => by simp [kept]
  | k + 1, hk, h => by
    have hh := h k (by omega)
    rw [kept_take _ _ _ _ hh.1 hh.2, kept_take_of zs i j k (by omega) (fun t ht => h t (by omega)), List.take_succ_eq_append_getElem (by omega)]
    simp [show k < zs.length by omega]
theorem kept_one (zs : List Int) (i j : Int) (n : Nat) (hi : (n : Int) = i) : ∀ k : Nat, k ≤ zs.length → (∀ t : Nat, t < k → ¬ (t : Int) = j) → kept zs i j k = (zs.take k).eraseIdx n
  | 0, _, _ => by simp [kept]
  | k + 1, hk, h => by
    by_cases e : k = n
    · subst e
      rw [kept_skip _ _ _ _ (.inl hi), kept_take_of zs i j k (by omega) (fun t ht => ⟨by omega, h t (by omega)⟩), List.take_succ_eq_append_getElem (by omega)]
      rw [List.eraseIdx_append_of_length_le (by simp; omega)]
      simp [show k - min k zs.length = 0 by omega]
    · rw [kept_take _ _ _ _ (by omega) (h k (by omega)), kept_one zs i j n hi k (by omega) (fun t ht => h t (by omega)), List.take_succ_eq_append_getElem (by omega)]
      by_cases c : n < k
      · rw [List.eraseIdx_append_of_lt_length (by simp; omega)]
        simp [show k < zs.length by omega]
      · rw [List.eraseIdx_of_length_le (by simp; omega), List.eraseIdx_of_length_le (by simp; omega)]
        simp [show k < zs.length by omega]
theorem kept_comm (zs : List Int) (i j : Int) : ∀ k : Nat, kept zs i j k = kept zs j i k
  | 0 => rfl
  | k + 1 => by
    rw [kept, kept, kept_comm zs i j k]
    by_cases h1 : (k : Int) = i <;> by_cases h2 : (k : Int) = j <;> simp [h1, h2]
end Go.Proofs.Qxb6614569aMods
