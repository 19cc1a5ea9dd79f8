/-
  The batch as a relation; walk: zzModel (11).
-/
import Derived.Test.Qxb6614569aModsBlocked
import Derived.Deep.DeepMust
namespace Go.Proofs.Qxb6614569aMods
open Go.RowKit
set_option linter.unusedVariables false

/-- Entry k joins the batch l: it is not full; k is stored and not blocked; its action is the first one's. -/
def Takes (P Ac : Nat → ByteArray) (L : Nat → Nat) (T : Nat → Nat → ByteArray) (mx : Int) (l : List Nat) (k : Nat) : Prop :=
  ¬ (l.length : Int) = mx ∧ P k = stored ∧ ¬ Blocked P L T k ∧ ∀ f, l.head? = some f → Ac k = Ac f
/-- l is the batch out of the first k entries. -/
def Mdl (P Ac : Nat → ByteArray) (L : Nat → Nat) (T : Nat → Nat → ByteArray) (mx : Int) : Nat → List Nat → Prop
  | 0, l => l = []
  | k + 1, l => ∃ l', Mdl P Ac L T mx k l' ∧ ((Takes P Ac L T mx l' k ∧ l = l' ++ [k]) ∨ (¬ Takes P Ac L T mx l' k ∧ l = l'))

section
variable {P Ac : Nat → ByteArray} {L : Nat → Nat} {T : Nat → Nat → ByteArray} {mx : Int}

theorem Mdl.one : ∀ {k : Nat} {l l' : List Nat}, Mdl P Ac L T mx k l → Mdl P Ac L T mx k l' → l = l'
  | 0, _, _, h, h' => by rw [Mdl] at h h'; rw [h, h']
  | k + 1, _, _, ⟨a, ha, h⟩, ⟨b, hb, h'⟩ => by
    have e := Mdl.one ha hb
    subst e
    rcases h with ⟨h1, rfl⟩ | ⟨h1, rfl⟩ <;> rcases h' with ⟨h2, rfl⟩ | ⟨h2, rfl⟩
    · rfl
    · exact (h2 h1).elim
    · exact (h1 h2).elim
    · rfl
theorem Mdl.lt : ∀ {k : Nat} {l : List Nat}, Mdl P Ac L T mx k l → ∀ t ∈ l, t < k
  | 0, _, h, t, ht => by rw [Mdl] at h; subst h; cases ht
  | k + 1, _, ⟨a, ha, h⟩, t, ht => by
    rcases h with ⟨h1, rfl⟩ | ⟨h1, rfl⟩
    · rcases List.mem_append.1 ht with ht | ht
      · have := ha.lt t ht; omega
      · have := List.mem_singleton.1 ht; omega
    · have := ha.lt t ht; omega
theorem Mdl.len : ∀ {k : Nat} {l : List Nat}, Mdl P Ac L T mx k l → l.length ≤ k
  | 0, _, h => by rw [Mdl] at h; subst h; exact Nat.le_refl _
  | k + 1, _, ⟨a, ha, h⟩ => by
    have := ha.len
    rcases h with ⟨h1, rfl⟩ | ⟨h1, rfl⟩
    · simp; omega
    · omega
/-- A full batch stays as it is. -/
theorem Mdl.full {k : Nat} {l : List Nat} (h : Mdl P Ac L T mx k l) (hf : (l.length : Int) = mx) : ∀ d, Mdl P Ac L T mx (k + d) l
  | 0 => h
  | d + 1 => ⟨l, Mdl.full h hf d, .inr ⟨fun ht => ht.1 hf, rfl⟩⟩
theorem Mdl.skip {k : Nat} {l : List Nat} (h : Mdl P Ac L T mx k l) (hn : ¬ Takes P Ac L T mx l k) : Mdl P Ac L T mx (k + 1) l := ⟨l, h, .inr ⟨hn, rfl⟩⟩
theorem Mdl.take {k : Nat} {l : List Nat} (h : Mdl P Ac L T mx k l) (ht : Takes P Ac L T mx l k) : Mdl P Ac L T mx (k + 1) (l ++ [k]) := ⟨l, h, .inl ⟨ht, rfl⟩⟩
end

theorem info3 : (Trym.prog.info? 3).map (fun i => (i.zero, i.size, i.bytes)) = some (some (.int .i64 0), 1, 8) := by kernel_rfl

def ints (l : List Nat) : List Value := l.map fun (t : Nat) => .int .i64 (t : Int)
/-- v is the batch l as a slice of ints in memory of the call's own. -/
def OutIs (w : World) (wr : World) (v : Value) (l : List Nat) : Prop := wr.ownsRow w.heap.size 3 1 v l.length (ints l) ∧ Below w.heap.size w wr

def Post11 (P Ac : Nat → ByteArray) (L : Nat → Nat) (T : Nat → Nat → ByteArray) (mx : Int) (n : Nat) (w : World) (e : Ending) (w' : World) : Prop :=
  ∃ v l, e = .returned v ∧ Mdl P Ac L T mx n l ∧ OutIs w w' v l

/-- What 'first' holds. -/
def firstOf (l : List Nat) : Int := match l.head? with | some f => (f : Int) | none => -1

theorem firstOf_cases (l : List Nat) : (l.head? = none ∧ firstOf l = -1) ∨ ∃ f : Nat, l.head? = some f ∧ firstOf l = (f : Int) := by
  unfold firstOf
  cases l.head? with
  | none => exact .inl ⟨rfl, rfl⟩
  | some f => exact .inr ⟨f, rfl, rfl⟩
theorem firstOf_snoc (l : List Nat) (k : Nat) : firstOf (l ++ [k]) = if l.head? = none then (k : Int) else firstOf l := by
  cases l with
  | nil => rfl
  | cons x r => rfl
theorem below_drewN' {B : Nat} {a w : World} (h : Below B a w) (n : Nat) : Below B a (w.drewN n) := ⟨h.os, h.tape, h.output, h.size, h.block⟩
/-- The batch behind the append. -/
theorem out_append {w wr w1 : World} {oa : Option Addr} {oc g cap k : Nat} {l : List Nat} {o : Obj} {nq : Nat} (h : OutIs w wr (.slice oa l.length oc) l)
    (hown : w1.ownsRow w.heap.size 3 1 (.slice (some ⟨g, 0, none⟩) (l.length + 1) cap) (l.length + 1) (ints l ++ [.int .i64 (k : Int)]))
    (hg : ((wr.drewN nq).alloc o).grownBy w1 (Value.slice oa l.length oc).ownBlock) : OutIs w w1 (.slice (some ⟨g, 0, none⟩) (l.length + 1) cap) (l ++ [k]) := by
  refine ⟨?_, ?_⟩
  · have e : ints (l ++ [k]) = ints l ++ [.int .i64 (k : Int)] := by simp [ints]
    rw [e, List.length_append]
    exact hown
  · have b1 : Below w.heap.size w ((wr.drewN nq).alloc o) := (below_drewN' h.2 nq).alloc h.2.size o
    exact b1.grown hg b1.size (fun k hk => (h.1.lt k hk).1)
theorem out_own {w wr : World} {v : Value} {l : List Nat} (h : OutIs w wr v l) (nq : Nat) (o : Obj) : ((wr.drewN nq).alloc o).ownsRow w.heap.size 3 1 v l.length (ints l) :=
  own_up h.1 fun k hk => Below.heap_alloc (wr.drewN nq) o k (h.1.lt k hk).2

set_option maxHeartbeats 4000000 in
set_option maxRecDepth 100000 in
theorem model11 (w : World) (a0 a1 a2 : Option Addr) (n c0 c1 c2 : Nat) (mx : Int) (P Ac : Nat → ByteArray) (L : Nat → Nat) (T : Nat → Nat → ByteArray)
    (h0 : Hid (Strs w a0 n P)) (h1 : Hid (Grid w a1 n L T)) (h2 : Hid (Strs w a2 n Ac)) (b0 : n ≤ 2000000) (bL : Hid (∀ k, k < n → L k ≤ 2000000)) :
    Calls Trym.prog 11 #[.slice a0 n c0, .slice a1 n c1, .slice a2 n c2, .int .i64 mx] w (Post11 P Ac L T mx n w) := by
  obtain ⟨i0, hi, hi2⟩ := Option.map_eq_some_iff.1 info3
  simp only [Prod.mk.injEq] at hi2
  have Hi := hide (And.intro hi hi2)
  clear hi hi2
  by_cases hm0 : mx = 0
  · have hm' : (mx == 0) = true := by simp [hm0]
    have Hm0 := hide hm0
    clear hm0
    go_enter Trym.func11, Trym.ntmps11
    go_wp2
    go_ret
    refine ⟨_, [], rfl, ?_, World.ownsRow_nil _ _ _ _, Below.refl _ _⟩
    have := Mdl.full (P := P) (Ac := Ac) (L := L) (T := T) (mx := mx) (k := 0) (l := []) rfl (by rw [Hm0.out]; rfl) n
    rwa [Nat.zero_add] at this
  have hm' : (mx == 0) = false := by simp [hm0]
  have Hm0 := hide hm0
  clear hm0
  go_enter Trym.func11, Trym.ntmps11
  go_wp2
  go_loopw [9, 10, 11] (fun o f i wr => ∃ (k : Nat) (l : List Nat), i = .int .i64 k ∧ k ≤ n ∧ f = .int .i64 (firstOf l) ∧ Hid (Mdl P Ac L T mx k l ∧ OutIs w wr o l ∧ ¬ (l.length : Int) = mx)) (fun _ _ i _ => n - (intOf i).toNat)
  case atStart => exact ⟨0, [], rfl, Nat.zero_le _, rfl, rfl, ⟨World.ownsRow_nil _ _ _ _, Below.refl _ _⟩, fun e => Hm0.out e.symm⟩
  case round =>
    obtain ⟨k, l, rfl, hk, rfl, hrel⟩ := hrel
    obtain ⟨hmd, ⟨hown, hbel⟩, hnf⟩ := hrel.out
    obtain ⟨oa, oc, rfl⟩ := own_form hown
    have hll := hmd.len
    by_cases hlt : k < n
    · obtain ⟨bp, offp, rfl, hcp⟩ := h0.out k hlt
      have hcp' : wr.cell? ⟨bp, offp + k, none⟩ = some (.string (P k)) := (hbel.cell (p := ⟨bp, offp + k, none⟩) (World.block_lt_of_cell? w _ hcp)).trans hcp
      clear hcp hmd hown hnf
      by_cases hst : P k = stored
      · have hst' := stored_t hst
        have Hst := hide hst
        clear hst
        have hblk := hide (blocked23 wr (some ⟨bp, offp, none⟩) a1 n c0 c1 k P L T (h0.out.up (Below.up hbel)) (h1.out.up (Below.up hbel)) hlt b0 bL)
        have Hbel := hide hbel
        clear hbel
        go_wp2_with fail
        refine hblk.out.mono ?_
        rintro e w2 ⟨b, rfl, hw2, hb⟩
        have hw2' := hw2.symm
        clear hw2
        subst hw2'
        cases b with
        | true =>
          have Hb : Hid (Blocked P L T k) := hb.1 rfl
          clear hb
          go_wp2
          go_roundw
          case rel => exact ⟨k + 1, l, by go_num, by omega, rfl, hrel.out.1.skip (fun ht => ht.2.2.1 Hb.out), hrel.out.2⟩
          case measure => simp [intOf]; omega
        | false =>
          have Hnb : Hid (¬ Blocked P L T k) := fun h => by simpa using hb.2 h
          clear hb
          obtain ⟨ba, offa, rfl, hca⟩ := h2.out k hlt
          have hca' : wr.cell? ⟨ba, offa + k, none⟩ = some (.string (Ac k)) := (Hbel.out.cell (p := ⟨ba, offa + k, none⟩) (World.block_lt_of_cell? w _ hca)).trans hca
          clear hca
          have hne : (((l ++ [k]).length : Int) = mx) ∨ ¬ (((l ++ [k]).length : Int) = mx) := by omega
          rcases firstOf_cases l with ⟨hh, hfo⟩ | ⟨f, hh, hfo⟩
          · have Hh := hide hh
            clear hh
            have Htk : Hid (Takes P Ac L T mx l k) := ⟨hrel.out.2.2, Hst.out, Hnb.out, fun f hf => by rw [Hh.out] at hf; cases hf⟩
            have Hsn : Hid (firstOf (l ++ [k]) = (k : Int)) := by show firstOf (l ++ [k]) = (k : Int); rw [firstOf_snoc, if_pos Hh.out]
            rw [hfo]
            clear hfo
            have hd : decide ((0 : Int) ≤ -1) = false := by decide
            rcases hne with hne | hne
            · have hfl : ((l.length : Int) + 1 == mx) = true := by simp at hne; simp [hne]
              have hmp : (0 : Int) < mx := by simp at hne; omega
              have Hne := hide hne
              clear hne
              go_wp2_with fail
              go_quiet (fail)
              go_wp2_with (at_builtin; go_must (refine wpList_append_lies _ rfl (.tmp 46) (.tmp 48) 30 rfl w.heap.size 3 i0 (.int .i64 0) 1 8 Trym.underlying30 Hi.out.1 Hi.out.2.1 Hi.out.2.2.1 Hi.out.2.2.2 rfl (by decide) (.slice oa l.length oc) l.length (ints l) rfl (out_own hrel.out.2.1 _ _) ⟨wr.heap.size, 0, none⟩ 1 1 [.int .i64 (k : Int)] rfl rfl (by exact World.news_of_block (cs := #[.int .i64 (k : Int)]) (t := 3) (fr := (0, 0)) (heap_new _ _ _ rfl)) (by simp [Value.oneCell']) (by decide) (by unfold maxLen; omega) (by omega) (by simp; exact Nat.le_succ_of_le Hbel.out.size) _ rfl ?_; intro g cap' w1 hown1 hgrow hat hlt'; have hout := hide (out_append hrel.out.2.1 hown1 hgrow); clear hown1 hgrow hat hlt'))
              go_ret
              refine ⟨_, l ++ [k], rfl, ?_, hout.out⟩
              have := (hrel.out.1.take Htk.out).full Hne.out (n - (k + 1))
              rwa [show k + 1 + (n - (k + 1)) = n by omega] at this
            · have hfl : ((l.length : Int) + 1 == mx) = false := by simp at hne; simp [hne]
              have Hne := hide hne
              clear hne
              by_cases hmp : (0 : Int) < mx
              all_goals
                go_wp2_with fail
                go_quiet (fail)
                go_wp2_with (at_builtin; go_must (refine wpList_append_lies _ rfl (.tmp 46) (.tmp 48) 30 rfl w.heap.size 3 i0 (.int .i64 0) 1 8 Trym.underlying30 Hi.out.1 Hi.out.2.1 Hi.out.2.2.1 Hi.out.2.2.2 rfl (by decide) (.slice oa l.length oc) l.length (ints l) rfl (out_own hrel.out.2.1 _ _) ⟨wr.heap.size, 0, none⟩ 1 1 [.int .i64 (k : Int)] rfl rfl (by exact World.news_of_block (cs := #[.int .i64 (k : Int)]) (t := 3) (fr := (0, 0)) (heap_new _ _ _ rfl)) (by simp [Value.oneCell']) (by decide) (by unfold maxLen; omega) (by omega) (by simp; exact Nat.le_succ_of_le Hbel.out.size) _ rfl ?_; intro g cap' w1 hown1 hgrow hat hlt'; have hout := hide (out_append hrel.out.2.1 hown1 hgrow); clear hown1 hgrow hat hlt'))
                go_roundw
                case rel => exact ⟨k + 1, l ++ [k], by go_num, by omega, by rw [Hsn.out], hrel.out.1.take Htk.out, hout.out, Hne.out⟩
                case measure => simp [intOf]; omega
          · have hfk : f < k := hrel.out.1.lt f (List.mem_of_mem_head? hh)
            have Hh := hide hh
            clear hh
            have hcf : wr.cell? ⟨ba, offa + f, none⟩ = some (.string (Ac f)) := by
              obtain ⟨_, _, e1, hcf⟩ := h2.out f (by omega)
              simp only [Option.some.injEq, Addr.mk.injEq] at e1
              obtain ⟨rfl, rfl, _⟩ := e1
              exact (Hbel.out.cell (p := ⟨ba, offa + f, none⟩) (World.block_lt_of_cell? w _ hcf)).trans hcf
            have Hsn : Hid (firstOf (l ++ [k]) = (f : Int)) := by show firstOf (l ++ [k]) = (f : Int); rw [firstOf_snoc, if_neg (by rw [Hh.out]; simp), hfo]
            by_cases hac : Ac k = Ac f
            · have hac' := str_t hac
              have Hac := hide hac
              clear hac
              have Htk : Hid (Takes P Ac L T mx l k) := ⟨hrel.out.2.2, Hst.out, Hnb.out, fun f' hf => by rw [Hh.out] at hf; cases hf; exact Hac.out⟩
              rw [hfo]
              clear hfo
              rcases hne with hne | hne
              · have hfl : ((l.length : Int) + 1 == mx) = true := by simp at hne; simp [hne]
                have hmp : (0 : Int) < mx := by simp at hne; omega
                have Hne := hide hne
                clear hne
                go_wp2_with fail
                go_quiet (fail)
                go_wp2_with (at_builtin; go_must (refine wpList_append_lies _ rfl (.tmp 46) (.tmp 48) 30 rfl w.heap.size 3 i0 (.int .i64 0) 1 8 Trym.underlying30 Hi.out.1 Hi.out.2.1 Hi.out.2.2.1 Hi.out.2.2.2 rfl (by decide) (.slice oa l.length oc) l.length (ints l) rfl (out_own hrel.out.2.1 _ _) ⟨wr.heap.size, 0, none⟩ 1 1 [.int .i64 (k : Int)] rfl rfl (by exact World.news_of_block (cs := #[.int .i64 (k : Int)]) (t := 3) (fr := (0, 0)) (heap_new _ _ _ rfl)) (by simp [Value.oneCell']) (by decide) (by unfold maxLen; omega) (by omega) (by simp; exact Nat.le_succ_of_le Hbel.out.size) _ rfl ?_; intro g cap' w1 hown1 hgrow hat hlt'; have hout := hide (out_append hrel.out.2.1 hown1 hgrow); clear hown1 hgrow hat hlt'))
                go_ret
                refine ⟨_, l ++ [k], rfl, ?_, hout.out⟩
                have := (hrel.out.1.take Htk.out).full Hne.out (n - (k + 1))
                rwa [show k + 1 + (n - (k + 1)) = n by omega] at this
              · have hfl : ((l.length : Int) + 1 == mx) = false := by simp at hne; simp [hne]
                have Hne := hide hne
                clear hne
                by_cases hmp : (0 : Int) < mx
                all_goals
                  go_wp2_with fail
                  go_quiet (fail)
                  go_wp2_with (at_builtin; go_must (refine wpList_append_lies _ rfl (.tmp 46) (.tmp 48) 30 rfl w.heap.size 3 i0 (.int .i64 0) 1 8 Trym.underlying30 Hi.out.1 Hi.out.2.1 Hi.out.2.2.1 Hi.out.2.2.2 rfl (by decide) (.slice oa l.length oc) l.length (ints l) rfl (out_own hrel.out.2.1 _ _) ⟨wr.heap.size, 0, none⟩ 1 1 [.int .i64 (k : Int)] rfl rfl (by exact World.news_of_block (cs := #[.int .i64 (k : Int)]) (t := 3) (fr := (0, 0)) (heap_new _ _ _ rfl)) (by simp [Value.oneCell']) (by decide) (by unfold maxLen; omega) (by omega) (by simp; exact Nat.le_succ_of_le Hbel.out.size) _ rfl ?_; intro g cap' w1 hown1 hgrow hat hlt'; have hout := hide (out_append hrel.out.2.1 hown1 hgrow); clear hown1 hgrow hat hlt'))
                  go_roundw
                  case rel => exact ⟨k + 1, l ++ [k], by go_num, by omega, by rw [Hsn.out], hrel.out.1.take Htk.out, hout.out, Hne.out⟩
                  case measure => simp [intOf]; omega
            · have hac' := str_f hac
              have Hac := hide hac
              clear hac
              clear hne
              have Hfo := hide hfo
              rw [hfo]
              clear hfo
              go_wp2_with fail
              go_quiet (fail)
              go_wp2
              go_roundw
              case rel => exact ⟨k + 1, l, by go_num, by omega, by rw [Hfo.out], hrel.out.1.skip (fun ht => Hac.out (ht.2.2.2 f Hh.out)), ⟨hrel.out.2.1.1, below_drewN' hrel.out.2.1.2 _⟩, hrel.out.2.2⟩
              case measure => simp [intOf]; omega
      · have hst' := stored_f hst
        have Hst := hide hst
        clear hst
        go_wp2
        go_roundw
        case rel => exact ⟨k + 1, l, by go_num, by omega, rfl, hrel.out.1.skip (fun ht => Hst.out ht.2.1), hrel.out.2⟩
        case measure => simp [intOf]; omega
    · obtain rfl : k = n := by omega
      go_wp2
      go_ret
      exact ⟨_, l, rfl, hmd, hown, hbel⟩
end Go.Proofs.Qxb6614569aMods
