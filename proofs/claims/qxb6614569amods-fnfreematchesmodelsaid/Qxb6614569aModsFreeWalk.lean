/-
  Walk: FnFreeMatchesModel (3).
-/
import Derived.Test.Qxb6614569aModsFree
namespace Go.Proofs.Qxb6614569aMods
open Go.RowKit
set_option linter.unusedVariables false

def blockAt (es : List (Nat × Array Value)) (t : Nat) : Nat := (es.map (·.1)).getD t 0
theorem blockAt_eq (es : List (Nat × Array Value)) (t : Nat) (h : t < es.length) : blockAt es t = es[t].1 := by simp [blockAt, h]

/-- A row of one-cell elements that the call owns, read at place k. -/
theorem own_cell {w : World} {B e : Nat} {a : Option Addr} {c m : Nat} {xs : List Value} (h : w.ownsRow B e 1 (.slice a m c) m xs) (k : Nat) (v : Value) (hv : xs[k]? = some v) : ∃ x, a = some ⟨x, 0, none⟩ ∧ w.cell? ⟨x, k, none⟩ = some v := by
  have hk : k < m := by
    have := (List.getElem?_eq_some_iff.1 hv).1
    rw [h.1] at this; omega
  rcases h.2 with ⟨_, h0⟩ | ⟨g, cap, cur, hv', hb, hg, h1, h2, h3, h4⟩
  · omega
  · simp only [Value.slice.injEq] at hv'
    obtain ⟨rfl, _, rfl⟩ := hv'
    refine ⟨g, rfl, ?_⟩
    rw [← h4, List.getElem?_take, if_pos (by omega), Array.getElem?_toList] at hv
    simp [World.cell?, hg, hv]

def Chain3 (w : World) (a0 : Option Addr) (n c0 : Nat) (a1 : Option Addr) (c1 : Nat) (a2 : Option Addr) (c2 : Nat) (mx : Int) : Prop :=
  Calls Trym.prog 9 #[.slice a1 n c1] w fun e w1 => ∃ b1 d1, e = .returned (.slice b1 n d1) ∧
    Calls Trym.prog 10 #[.slice a0 n c0, .slice b1 n d1, .slice a2 n c2] w1 fun e w2 => ∃ qb, e = .returned (ptr qb) ∧
      Calls Trym.prog 11 #[.slice a0 n c0, .slice b1 n d1, .slice a2 n c2, .int .i64 mx] w2 fun e w3 => ∃ oa om oc, e = .returned (.slice oa om oc) ∧
        Calls Trym.prog 12 #[ptr qb, .int .i64 mx] w3 fun e w4 => ∃ ba bm bc, e = .returned (.slice ba bm bc) ∧
          Calls Trym.prog 13 #[.slice ba bm bc, .slice oa om oc] w4 fun e w5 => e = .returned (.bool true) ∧
            Calls Trym.prog 14 #[ptr qb, .slice a0 n c0, .slice none 0 0] w5 fun e w6 => e = .returned (.bool true) ∧ Below w.heap.size w w6

theorem chain3 (w : World) (a0 a1 a2 : Option Addr) (n c0 c1 c2 : Nat) (mx : Int) (P Ac : Nat → ByteArray) (L : Nat → Nat) (T : Nat → Nat → ByteArray)
    (h0 : Strs w a0 n P) (h1 : Grid w a1 n L T) (h2 : Strs w a2 n Ac) (b0 : n ≤ 2000000) (bL : ∀ k, k < n → L k ≤ 2000000) (sT : ∀ k, k < n → ∀ m, m < L k → (T k m).size ≤ maxLen) :
    Chain3 w a0 n c0 a1 c1 a2 c2 mx := by
  refine (copy9 w a1 n c1 L T h1 b0 bL).mono ?_
  rintro e w1 ⟨a1', c1', rfl, hg1, hb1⟩
  have p1 := h0.up (Below.up hb1)
  have r1 := h2.up (Below.up hb1)
  refine ⟨a1', c1', rfl, (build10 w1 a0 a1' a2 n c0 c1' c2 P Ac L T p1 hg1 r1 b0).mono ?_⟩
  rintro e w2 ⟨qb, mb, rfl, pv, es, hq2, hlen, hes, hb2, hmb2, hmlo⟩
  have p2 := p1.up (Below.up hb2)
  have g2 := hg1.up (Below.up hb2)
  have r2 := r1.up (Below.up hb2)
  refine ⟨qb, rfl, (model11 w2 a0 a1' a2 n c0 c1' c2 mx P Ac L T p2 g2 r2 b0 bL).mono ?_⟩
  rintro e w3 ⟨v, l, rfl, hmd, hout⟩
  obtain ⟨oa, oc, rfl⟩ := own_form hout.1
  have hb3 := hout.2
  have up3 := Below.up hb3
  have p3 := p2.up up3
  have hq3 : Qat w1.heap.size w3 qb pv mb es := hq2.kept (S := fun _ => False) (Kept.ofBelow hb3 (Nat.le_refl _)) id (fun _ _ => id) (fun _ _ => id)
  have hmb3 : w3.heap[mb]? = some (.map #[] 0) := by rw [hb3.block mb (lt_of_block hmb2)]; exact hmb2
  obtain ⟨pa, pcap, rfl⟩ := own_form hq3.row
  rw [hlen] at hq3
  have hmem : ∀ t ∈ l, t < n := hmd.lt
  have hll := hmd.len
  have ent0 : ∀ k, k < n → w3.cell? ⟨blockAt es k, 0, none⟩ = some (.int .u64 (k : Int)) ∧ w3.cell? ⟨blockAt es k, 2, none⟩ = some (.string (Ac k)) ∧ w3.cell? ⟨blockAt es k, 12, none⟩ = some (.string (P k)) ∧ ∃ ar c, w3.cell? ⟨blockAt es k, 11, none⟩ = some (.slice ar (L k) c) ∧ Strs w3 ar (L k) (T k) := by
    intro k hk
    have hk' : k < es.length := by omega
    obtain ⟨ar, c, x1, x2, he, hs⟩ := hes k hk'
    rw [blockAt_eq es k hk', hq3.entCell k hk', hq3.entCell k hk', hq3.entCell k hk', hq3.entCell k hk', he]
    exact ⟨rfl, rfl, rfl, ar, c, rfl, (hs.up (Below.up hb2)).up up3⟩
  refine ⟨oa, l.length, oc, rfl, free12 w3 qb mx _ ?_ ((free24 w3 qb mb pa n pcap mx P Ac L T (blockAt es) hq3.cell hq3.held hmb3 ?_ ?_ b0 bL sT).mono ?_)⟩
  · rintro e w' ⟨ba, bm, bc, rfl, _⟩
    exact ⟨_, _, _, rfl⟩
  · intro k hk
    obtain ⟨g, cap, e, hc⟩ := hq3.cellAt k (by omega)
    simp only [Value.slice.injEq] at e
    exact ⟨g, e.1, by rw [blockAt_eq es k (by omega)]; exact hc⟩
  · intro k hk
    exact (ent0 k hk).2
  rintro e w4 ⟨v2, l2, rfl, hmd2, hbat, hk4⟩
  obtain rfl : l2 = l := hmd2.one hmd
  obtain ⟨ba, bc, rfl⟩ := own_form hbat
  have up4 := Kept.up hk4 ⟨_, _, hmb3⟩
  have hout4 : w4.ownsRow w2.heap.size 3 1 (.slice oa l2.length oc) l2.length (ints l2) := own_up hout.1 fun k hk => hk4.block k (hout.1.lt k hk).2 (fun e => by
    obtain ⟨cur, hc⟩ := own_type hout.1 hk
    rw [e, hmb3] at hc; cases hc)
  refine ⟨ba, l2.length, bc, rfl, (sameBatch13 w4 ba oa l2.length bc oc (fun k => l2.getD k 0) (fun k => blockAt es (l2.getD k 0)) (by omega) ?_ ?_ ?_ ?_).mono ?_⟩
  · intro k hk
    have := hmem (l2.getD k 0) (by simp [hk])
    omega
  · intro k hk
    exact own_cell hbat k _ (by simp [hk])
  · intro k hk
    exact own_cell hout4 k _ (by simp [ints, hk])
  · intro k hk
    have := (ent0 (l2.getD k 0) (hmem _ (by simp [hk]))).1
    rw [up4 _ _ this]; exact this
  rintro e w5 ⟨rfl, nn, rfl⟩
  have hq4 : Qat w1.heap.size (w4.drewN nn) qb (.slice pa n pcap) mb es := by
    have hne : ∀ b, (∃ cs t, w3.heap[b]? = some (.cells cs t (0, 0))) → ¬ b = mb := by
      rintro b ⟨cs, t, hc⟩ e
      rw [e, hmb3] at hc; cases hc
    have := hq3.kept hk4 (hne qb (by obtain ⟨cs, c1, _⟩ := hq3.blk; exact ⟨_, _, c1⟩)) (fun b hb => hne b (by obtain ⟨cur, hc⟩ := own_type hq3.row hb; exact ⟨_, _, hc⟩)) (fun e he => hne e.1 ⟨_, _, hq3.ent e he⟩)
    exact this.drewN nn
  refine ⟨rfl, (after_core (w4.drewN nn) qb a0 n c0 P b0 (p3.up up4) ?_ ?_ ?_).mono ?_⟩
  · have := lenOf _ _ _ _ _ _ hq4
    rwa [hlen] at this
  · intro k hk
    obtain ⟨ar, c, x1, x2, he, hs⟩ := hes k (by omega)
    exact seqAt _ _ _ _ _ _ k _ hq4 (by omega) (by unfold maxLen; omega) (by rw [he]; rfl)
  · intro k hk
    obtain ⟨ar, c, x1, x2, he, hs⟩ := hes k (by omega)
    exact progressAt _ _ _ _ _ _ k _ hq4 (by omega) (by unfold maxLen; omega) (by rw [he]; rfl)
  rintro e w6 ⟨rfl, rfl⟩
  refine ⟨rfl, ?_⟩
  have b4 : Below w1.heap.size w3 w4 := hk4.below (Nat.le_trans hb2.size hb3.size) (fun k hk => by rw [hk]; exact hmlo)
  have b5 : Below w.heap.size w w4 := ((hb1.trans (hb2.mono hb1.size)).trans (hb3.mono (Nat.le_trans hb1.size hb2.size))).trans (b4.mono hb1.size)
  exact below_drewN' b5 nn

set_option maxHeartbeats 4000000 in
set_option maxRecDepth 100000 in
theorem walk3 (w : World) (a0 a1 a2 : Option Addr) (n0 n1 n2 c0 c1 c2 : Nat) (mx : Int) (P Ac : Nat → ByteArray) (L : Nat → Nat) (T : Nat → Nat → ByteArray)
    (h0 : Strs w a0 n0 P) (h1 : Grid w a1 n1 L T) (h2 : Strs w a2 n2 Ac) (b0 : n0 ≤ maxLen) (b1 : n1 ≤ maxLen) (b2 : n2 ≤ maxLen) (bL : ∀ k, k < n1 → L k ≤ maxLen)
    (sP : ∀ k, k < n0 → (P k).size ≤ maxLen) (sT : ∀ k, k < n1 → ∀ m, m < L k → (T k m).size ≤ maxLen) (sA : ∀ k, k < n2 → (Ac k).size ≤ maxLen) :
    Calls Trym.prog 3 #[.slice a0 n0 c0, .slice a1 n1 c1, .slice a2 n2 c2, .int .i64 mx] w fun e w' => e = .returned (.bool true) ∧ Below w.heap.size w w' := by
  have h6 := hide (bytes6 w a0 a1 a2 n0 n1 n2 c0 c1 c2 mx P Ac L T h0 h1 h2 b0 b1 b2 bL sP sT sA)
  have h7 := hide (list7 w a0 a1 a2 n0 n1 n2 c0 c1 c2 P Ac L T h0 h1 h2 b0 b1 b2 bL sP sT sA)
  have h8 := hide (count8 w a1 n1 c1 L T h1 b1 bL)
  have H0 := hide h0
  have H1 := hide h1
  have H2 := hide h2
  have HT := hide sT
  clear h0 h1 h2 sT bL sP sA
  unfold maxLen at b0 b1 b2
  go_enter Trym.func3, Trym.ntmps3
  go_wp2_with fail
  refine h6.out.mono ?_
  rintro e w' ⟨b, rfl, hw', hb6⟩
  have hw'' := hw'.symm
  clear hw'
  subst hw''
  cases b with
  | false =>
    clear hb6
    go_wp2
    go_ret
    exact ⟨rfl, Below.refl _ _⟩
  | true =>
    have Hb6 := hide (hb6 rfl)
    have hn0 := Hb6.out.1
    clear hb6
    go_wp2_with fail
    refine h7.out.mono ?_
    rintro e w' ⟨x, rfl, hw'⟩
    have hw'' := hw'.symm
    clear hw'
    subst hw''
    by_cases hx : (1048576 : Int) < x
    · go_wp2_with fail
      go_ret
      exact ⟨rfl, Below.refl _ _⟩
    go_wp2_with fail
    refine h8.out.mono ?_
    rintro e w' ⟨y, rfl, hw'⟩
    have hw'' := hw'.symm
    clear hw'
    subst hw''
    by_cases hy : (1024 : Int) < y
    · go_wp2_with fail
      go_ret
      exact ⟨rfl, Below.refl _ _⟩
    by_cases e1 : n1 = n0
    · by_cases e2 : n2 = n0
      · subst e1
        subst e2
        have hch := hide (chain3 w a0 a1 a2 n2 c0 c1 c2 mx P Ac L T H0.out H1.out H2.out (by omega) (fun k hk => Nat.le_trans (Hb6.out.2 k hk) (by omega)) HT.out)
        have hbn : (bne (n2 : Int) (n2 : Int)) = false := by simp
        go_wp2_with fail
        refine hch.out.mono ?_
        rintro e w1 ⟨b1, d1, rfl, k10⟩
        have K10 := hide k10
        clear k10
        go_wp2_with fail
        refine K10.out.mono ?_
        rintro e w2 ⟨qb, rfl, k11⟩
        have K11 := hide k11
        clear k11
        go_wp2_with fail
        refine K11.out.mono ?_
        rintro e w3 ⟨oa, om, oc, rfl, k12⟩
        have K12 := hide k12
        clear k12
        go_wp2_with fail
        refine K12.out.mono ?_
        rintro e w4 ⟨ba, bm, bc, rfl, k13⟩
        have K13 := hide k13
        clear k13
        go_wp2_with fail
        refine K13.out.mono ?_
        rintro e w5 ⟨rfl, k14⟩
        have K14 := hide k14
        clear k14
        go_wp2_with fail
        refine K14.out.mono ?_
        rintro e w6 ⟨rfl, hend⟩
        go_wp2
        go_ret
        exact ⟨rfl, hend⟩
      · have hb1' : (bne (n1 : Int) (n0 : Int)) = false := by simp [e1]
        have hb2' : (bne (n2 : Int) (n0 : Int)) = true := by simp; omega
        have E1 := hide e1
        clear e1 e2
        go_wp2_with fail
        go_ret
        exact ⟨rfl, Below.refl _ _⟩
    · have hb1' : (bne (n1 : Int) (n0 : Int)) = true := by simp; omega
      clear e1
      go_wp2_with fail
      go_ret
      exact ⟨rfl, Below.refl _ _⟩
end Go.Proofs.Qxb6614569aMods
