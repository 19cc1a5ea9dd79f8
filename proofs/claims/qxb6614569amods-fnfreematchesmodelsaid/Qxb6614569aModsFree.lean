/-
  Walk: (*queue).free (24), ZZfree (12).
-/
import Derived.Test.Qxb6614569aModsHeld
namespace Go.Proofs.Qxb6614569aMods
open Go.RowKit
open Go.Maps (Keyed)
set_option linter.unusedVariables false

theorem Kept.up {w wr : World} {mb : Nat} (h : Kept (fun k => k = mb) w wr) (hm' : ∃ es c, w.heap[mb]? = some (.map es c)) : ∀ x v, w.cell? x = some v → wr.cell? x = w.cell? x := fun x v hv => by
  obtain ⟨es, c, hm⟩ := hm'
  have hlt := World.block_lt_of_cell? w x hv
  refine World.cell?_of_block (h.block x.block hlt (fun e => ?_))
  simp [World.cell?, e, hm] at hv

theorem Kept.drewN {S : Nat → Prop} {a w : World} (h : Kept S a w) (n : Nat) : Kept S a (w.drewN n) := ⟨h.os, h.tape, h.output, h.size, h.block⟩

/-- The batch so far: the entries' pointers, in memory of the call's own. -/
def BatchIs (E : Nat → Nat) (w wr : World) (v : Value) (l : List Nat) : Prop := wr.ownsRow w.heap.size 41 1 v l.length (l.map fun t => ptr (E t))

/-- What holds at the head of round i. -/
def FreeAt (P Ac : Nat → ByteArray) (L : Nat → Nat) (T : Nat → Nat → ByteArray) (mx : Int) (E : Nat → Nat) (mb : Nat) (w : World) (i : Nat) (l : List Nat) (v : Value) (wr : World) : Prop :=
  Mdl P Ac L T mx i l ∧ BatchIs E w wr v l ∧ SetIs wr mb (i * 2000000) (HeldBy P L T i) ∧ Kept (fun k => k = mb) w wr
/-- What holds at the head of round j of the loop over entry i's owners. -/
def OwnersAt (P : Nat → ByteArray) (L : Nat → Nat) (T : Nat → Nat → ByteArray) (mb : Nat) (wr : World) (i j : Nat) (fv : Bool) (w2 : World) : Prop :=
  SetIs w2 mb (i * 2000000 + j) (fun s => HeldBy P L T i s ∨ ∃ m, m < j ∧ T i m = s) ∧ (fv = true ↔ P i = stored ∧ ∀ m, m < j → ¬ Bad P L T i m) ∧ Kept (fun k => k = mb) wr w2

def Post24 (P Ac : Nat → ByteArray) (L : Nat → Nat) (T : Nat → Nat → ByteArray) (mx : Int) (n : Nat) (E : Nat → Nat) (mb : Nat) (w : World) (e : Ending) (w' : World) : Prop :=
  ∃ v l, e = .returned v ∧ Mdl P Ac L T mx n l ∧ BatchIs E w w' v l ∧ Kept (fun k => k = mb) w w'

section
variable {P Ac : Nat → ByteArray} {L : Nat → Nat} {T : Nat → Nat → ByteArray} {mx : Int} {E : Nat → Nat} {mb : Nat} {w : World}

theorem heldBy_skip {i : Nat} (h : P i = noted) (s : ByteArray) : HeldBy P L T i s ↔ HeldBy P L T (i + 1) s := by
  constructor
  · rintro ⟨k, hk, r⟩; exact ⟨k, by omega, r⟩
  · rintro ⟨k, hk, hp, r⟩
    by_cases e : k = i
    · subst e; exact (hp h).elim
    · exact ⟨k, by omega, hp, r⟩
theorem heldBy_step {i : Nat} (h : P i ≠ noted) (s : ByteArray) : (HeldBy P L T i s ∨ ∃ m, m < L i ∧ T i m = s) ↔ HeldBy P L T (i + 1) s := by
  constructor
  · rintro (⟨k, hk, r⟩ | r)
    · exact ⟨k, by omega, r⟩
    · exact ⟨i, by omega, h, r⟩
  · rintro ⟨k, hk, hp, r⟩
    by_cases e : k = i
    · subst e; exact .inr r
    · exact .inl ⟨k, by omega, hp, r⟩
theorem BatchIs.kept {wr w2 : World} {v : Value} {l : List Nat} (h : BatchIs E w wr v l) (k : Kept (fun k => k = mb) wr w2) (hm : mb < w.heap.size) : BatchIs E w w2 v l :=
  own_up h fun b hb => k.block b (h.lt b hb).2 (fun e => by have := (h.lt b hb).1; omega)
theorem freeAt_skip {i : Nat} {l : List Nat} {v : Value} {wr : World} (h : FreeAt P Ac L T mx E mb w i l v wr) (hp : P i = noted) : FreeAt P Ac L T mx E mb w (i + 1) l v wr :=
  ⟨h.1.skip (fun ht => by rw [ht.2.1] at hp; exact absurd (congrArg ByteArray.toList hp) (by rw [stored_list, noted_list]; decide)), h.2.1, h.2.2.1.congr (by omega) (fun s => heldBy_skip hp s), h.2.2.2⟩
theorem ownersAt_start {i : Nat} {l : List Nat} {v : Value} {wr : World} (h : FreeAt P Ac L T mx E mb w i l v wr) (fv : Bool) (hf : fv = true ↔ P i = stored) : OwnersAt P L T mb wr i 0 fv wr :=
  ⟨h.2.2.1.congr (by omega) (fun s => ⟨.inl, fun h => h.elim id (fun ⟨m, hm, _⟩ => absurd hm (Nat.not_lt_zero _))⟩), by rw [hf]; exact ⟨fun h => ⟨h, fun m hm => absurd hm (Nat.not_lt_zero _)⟩, fun h => h.1⟩, Kept.refl _ _⟩
theorem ownersAt_step {i j : Nat} {wr w2 w3 : World} {fv fv' : Bool} {D : DataW Unit} (h : OwnersAt P L T mb wr i j fv w2) (h2 : Go.Maps.IsMap D) (h3 : ∀ s : ByteArray, s.size ≤ maxLen → (D.atKey (.string s.data.toList) (.lit (.bool false)) = .lit (.bool true) ↔ (HeldBy P L T i s ∨ ∃ m, m < j ∧ T i m = s)))
    (hs : (T i j).size ≤ maxLen) (ho : w3.ownsMap Trym.prog 9 (plainElem Trym.prog 4) mb (i * 2000000 + j + 1) (D.put (.string (T i j).data.toList) (.lit (.bool true)))) (hg : w2.grownBy w3 (some mb)) (hf : fv' = true ↔ fv = true ∧ ¬ Bad P L T i j) : OwnersAt P L T mb wr i (j + 1) fv' w3 := by
  refine ⟨(SetIs.put (w := w2) (c := i * 2000000 + j) h2 h3 _ hs ho).congr (by omega) (fun s => ?_), ?_, h.2.2.trans (Kept.ofGrown hg (fun k hk => by simpa using hk))⟩
  · constructor
    · rintro ((h | ⟨m, hm, e⟩) | e)
      · exact .inl h
      · exact .inr ⟨m, by omega, e⟩
      · exact .inr ⟨j, by omega, e⟩
    · rintro (h | ⟨m, hm, e⟩)
      · exact .inl (.inl h)
      · by_cases c : m = j
        · subst c; exact .inr e
        · exact .inl (.inr ⟨m, by omega, e⟩)
  · rw [hf, h.2.1]
    constructor
    · rintro ⟨⟨h1, h2⟩, h3⟩
      refine ⟨h1, fun m hm => ?_⟩
      by_cases c : m = j
      · subst c; exact h3
      · exact h2 m (by omega)
    · rintro ⟨h1, h2⟩
      exact ⟨⟨h1, fun m hm => h2 m (by omega)⟩, h2 j (by omega)⟩
theorem stored_iff (x : ByteArray) : (x.toList == [115, 116, 111, 114, 101, 100]) = true ↔ x = stored := by
  by_cases h : x = stored
  · rw [stored_t h]; simp [h]
  · rw [stored_f h]; simp [h]
theorem ownersAt_end {i : Nat} {l : List Nat} {v : Value} {wr w2 : World} {fv : Bool} (h : FreeAt P Ac L T mx E mb w i l v wr) (ho : OwnersAt P L T mb wr i (L i) fv w2) (hp : P i ≠ noted) (hL : L i ≤ 2000000) (hm : mb < w.heap.size) :
    BatchIs E w w2 v l ∧ SetIs w2 mb ((i + 1) * 2000000) (HeldBy P L T (i + 1)) ∧ Kept (fun k => k = mb) w w2 ∧ (fv = true ↔ P i = stored ∧ ¬ Blocked P L T i) :=
  ⟨h.2.1.kept ho.2.2 hm, ho.1.congr (by omega) (fun s => heldBy_step hp s), h.2.2.2.trans ho.2.2,
    ho.2.1.trans ⟨fun h => ⟨h.1, fun ⟨m, hm, hb⟩ => h.2 m hm hb⟩, fun h => ⟨h.1, fun m hm hb => h.2 ⟨m, hm, hb⟩⟩⟩⟩
end

theorem batch_own {E : Nat → Nat} {w wr : World} {v : Value} {l : List Nat} (h : BatchIs E w wr v l) (nq : Nat) (o : Obj) : ((wr.drewN nq).alloc o).ownsRow w.heap.size 41 1 v l.length (l.map fun t => ptr (E t)) :=
  own_up h fun k hk => Below.heap_alloc (wr.drewN nq) o k (h.lt k hk).2
theorem batch_head {E : Nat → Nat} {w wr : World} {va : Option Addr} {vc f : Nat} {l : List Nat} (h : BatchIs E w wr (.slice va l.length vc) l) (hh : l.head? = some f) : ∃ g, va = some ⟨g, 0, none⟩ ∧ wr.cell? ⟨g, 0, none⟩ = some (ptr (E f)) := by
  cases l with
  | nil => cases hh
  | cons x r =>
    cases hh
    rcases h.2 with ⟨_, h0⟩ | ⟨g, cap, cur, hv, hb, hg, h1, h2, h3, h4⟩
    · simp at h0
    · simp only [Value.slice.injEq] at hv
      obtain ⟨rfl, _, rfl⟩ := hv
      refine ⟨g, rfl, ?_⟩
      have : (cur.toList.take ((f :: r).length * 1))[0]? = some (ptr (E f)) := by rw [h4]; simp
      rw [List.getElem?_take, if_pos (by simp), Array.getElem?_toList] at this
      simp [World.cell?, hg, this]
theorem batch_append {P Ac : Nat → ByteArray} {L : Nat → Nat} {T : Nat → Nat → ByteArray} {mx : Int} {E : Nat → Nat} {mb : Nat} {w wr w3 : World} {va : Option Addr} {vc g cap i nq : Nat} {l : List Nat} {o : Obj} {Z : Prop} (hm : mb < w.heap.size) (hmd : Mdl P Ac L T mx i l)
    (h : BatchIs E w wr (.slice va l.length vc) l ∧ SetIs wr mb ((i + 1) * 2000000) (HeldBy P L T (i + 1)) ∧ Kept (fun k => k = mb) w wr ∧ Z) (ht : Takes P Ac L T mx l i)
    (hown : w3.ownsRow w.heap.size 41 1 (.slice (some ⟨g, 0, none⟩) (l.length + 1) cap) (l.length + 1) ((l.map fun t => ptr (E t)) ++ [ptr (E i)]))
    (hg : ((wr.drewN nq).alloc o).grownBy w3 (Value.slice va l.length vc).ownBlock) : FreeAt P Ac L T mx E mb w (i + 1) (l ++ [i]) (.slice (some ⟨g, 0, none⟩) (l.length + 1) cap) w3 := by
  have hml := h.2.2.1.size
  have k1 : Kept (fun k => k = mb) wr ((wr.drewN nq).alloc o) := Kept.ofBelow (B := wr.heap.size) ((below_drewN' (Below.refl _ _) nq).alloc (Nat.le_refl _) o) (Nat.le_refl _)
  have hblk : ∀ k, some k = (Value.slice va l.length vc).ownBlock → w.heap.size ≤ k := fun k hk => (h.1.lt k hk.symm).1
  refine ⟨hmd.take ht, ?_, ?_, ?_⟩
  · have e : (l ++ [i]).map (fun t => ptr (E t)) = (l.map fun t => ptr (E t)) ++ [ptr (E i)] := by simp
    show w3.ownsRow _ _ _ _ _ _
    rw [e, List.length_append]
    exact hown
  · refine h.2.1.of_block ?_
    rw [hg.block mb (by simp; omega) (fun e => by have := hblk mb e; omega)]
    exact Below.heap_alloc (wr.drewN nq) o mb (show mb < wr.heap.size by omega)
  · have k2 : Kept (fun k => w.heap.size ≤ k) ((wr.drewN nq).alloc o) w3 := Kept.ofGrown hg hblk
    have k3 := h.2.2.1.trans k1
    exact ⟨k2.os.trans k3.os, k2.tape.trans k3.tape, k2.output.trans k3.output, Nat.le_trans k3.size k2.size, fun n hn hne => (k2.block n (Nat.lt_of_lt_of_le hn k3.size) (by omega)).trans (k3.block n hn hne)⟩

set_option maxHeartbeats 4000000 in
set_option maxRecDepth 100000 in
theorem free24 (w : World) (qb mb : Nat) (pa : Option Addr) (n pcap : Nat) (mx : Int) (P Ac : Nat → ByteArray) (L : Nat → Nat) (T : Nat → Nat → ByteArray) (E : Nat → Nat)
    (hq6 : w.cell? ⟨qb, 6, none⟩ = some (.slice pa n pcap)) (hq12 : w.cell? ⟨qb, 12, none⟩ = some (.map (some mb))) (hmb : Hid (w.heap[mb]? = some (.map #[] 0)))
    (hpend : Hid (∀ k, k < n → ∃ g, pa = some ⟨g, 0, none⟩ ∧ w.cell? ⟨g, k, none⟩ = some (ptr (E k))))
    (hent : Hid (∀ k, k < n → w.cell? ⟨E k, 2, none⟩ = some (.string (Ac k)) ∧ w.cell? ⟨E k, 12, none⟩ = some (.string (P k)) ∧ ∃ ar c, w.cell? ⟨E k, 11, none⟩ = some (.slice ar (L k) c) ∧ Strs w ar (L k) (T k)))
    (b0 : n ≤ 2000000) (bL : Hid (∀ k, k < n → L k ≤ 2000000)) (sT : Hid (∀ k, k < n → ∀ m, m < L k → (T k m).size ≤ maxLen)) :
    Calls Trym.prog 24 #[ptr qb, .int .i64 mx] w (Post24 P Ac L T mx n E mb w) := by
  obtain ⟨i0, hi, hi2⟩ := Option.map_eq_some_iff.1 info41
  simp only [Prod.mk.injEq] at hi2
  have Hi := hide (And.intro hi hi2)
  clear hi hi2
  have hcl := clear54 w mb hmb.out
  have hmlt := lt_of_block hmb.out
  have h0 : Hid (FreeAt P Ac L T mx E mb w 0 [] (.slice none 0 0) w) := ⟨rfl, World.ownsRow_nil _ _ _ _, (setIs_empty hmb.out).congr (by omega) (fun s => ⟨fun h => h.elim, fun ⟨k, hk, _⟩ => absurd hk (Nat.not_lt_zero _)⟩), Kept.refl _ _⟩
  unfold ptr
  go_enter Trym.func24, Trym.ntmps24
  go_wp2
  go_loopw [5, 22] (fun v z wr => ∃ (i : Nat) (l : List Nat), z = .int .i64 i ∧ i ≤ n ∧ Hid (FreeAt P Ac L T mx E mb w i l v wr)) (fun _ z _ => n - (intOf z).toNat)
  case atStart => exact ⟨0, [], rfl, Nat.zero_le _, h0⟩
  case round =>
    obtain ⟨i, l, rfl, hin, hfa⟩ := hrel
    obtain ⟨va, vc, rfl⟩ := own_form hfa.out.2.1
    have hll := hfa.out.1.len
    clear hcl h0
    by_cases hlt : i < n
    · obtain ⟨g, rfl, hg⟩ := hpend.out i hlt
      obtain ⟨e2, e12, ar, c, e11, hrow⟩ := hent.out i hlt
      have up := hide (Kept.up hfa.out.2.2.2 ⟨_, _, hmb.out⟩)
      have hg' := (up.out _ _ hg).trans hg
      have e2' := (up.out _ _ e2).trans e2
      have e12' := (up.out _ _ e12).trans e12
      have e11' := (up.out _ _ e11).trans e11
      have Hrow := hide (hrow.up up.out)
      clear hg e2 e12 e11 hrow
      unfold ptr at hg'
      by_cases hfull : ((l.length : Int) = mx)
      · have hfull' : ((l.length : Int) == mx) = true := by simp [hfull]
        have Hfull := hide hfull
        clear hfull
        go_wp2
        go_ret
        refine ⟨_, l, rfl, ?_, hfa.out.2.1, hfa.out.2.2.2⟩
        have := hfa.out.1.full Hfull.out (n - i)
        rwa [show i + (n - i) = n by omega] at this
      · have hfull' : ((l.length : Int) == mx) = false := by simp [hfull]
        have Hfull := hide hfull
        clear hfull
        by_cases hno : P i = noted
        · have hno' := noted_t hno
          have Hno := hide hno
          clear hno
          go_wp2
          go_roundw
          case rel => exact ⟨i + 1, l, by go_num, by omega, freeAt_skip hfa.out Hno.out⟩
          case measure => simp [intOf]; omega
        · have hno' := noted_f hno
          have Hno := hide hno
          clear hno
          have hos := hide (ownersAt_start hfa.out ((P i).toList == [115, 116, 111, 114, 101, 100]) (stored_iff (P i)))
          have bLi := bL.out i hlt
          have sTi := hide (sT.out i hlt)
          obtain ⟨es', ck', hmr⟩ : ∃ es c, wr.heap[mb]? = some (.map es c) := by
            obtain ⟨D, ⟨es, c, hb, _⟩, _⟩ := hfa.out.2.2.1
            exact ⟨es, c, hb⟩
          have Hmr := hide hmr
          clear hmr
          obtain ⟨wo, hwo⟩ : ∃ wo, wo = wr := ⟨wr, rfl⟩
          subst hwo
          go_wp2_with fail
          go_loopw [9, 45] (fun f z w2 => ∃ (j : Nat) (fv : Bool), f = .bool fv ∧ z = .int .i64 j ∧ j ≤ L i ∧ Hid (OwnersAt P L T mb wo i j fv w2)) (fun _ z _ => L i - (intOf z).toNat)
          case atStart => exact ⟨0, _, rfl, rfl, Nat.zero_le _, hos⟩
          case round =>
            obtain ⟨j, fv, rfl, rfl, hjL, hoa⟩ := hrel
            clear hg' e2' e12' e11' hno' hfull'
            by_cases hjl : j < L i
            · obtain ⟨br, offr, rfl, hcr⟩ := Hrow.out j hjl
              have hcr' : wr.cell? ⟨br, offr + j, none⟩ = some (.string (T i j)) := (Kept.up hoa.out.2.2 ⟨_, _, Hmr.out⟩ _ _ hcr).trans hcr
              have hsz := sTi.out j hjl
              obtain ⟨bl, hlook, hbl⟩ := hoa.out.1.lookup (T i j) hsz
              have Hbl : Hid (bl = true ↔ Bad P L T i j) := hbl
              obtain ⟨D, hD1, hD2, hD3⟩ := hoa.out.1
              have HD := hide (And.intro hD2 hD3)
              have hcnt : i * 2000000 + j < maxLen := by unfold maxLen; omega
              clear hcr hbl hD2 hD3
              cases fv with
              | true =>
                go_wp2_with (at_mapUpdate; go_must (refine wpList_mapUpdate_own _ rfl _ _ _ 54 rfl 9 4 key9 Trym.underlying54 _ mb (i * 2000000 + j) D rfl hD1 hcnt _ _ _ rfl rfl (Go.WideMaps.keyOf_string_mk Trym.underlying9 hsz) _ [] (plainElem_bool Trym.underlying4 true) ?_; intro w3 hown3 hgrow3))
                have hst := hide (ownersAt_step (fv' := !bl) hoa.out HD.out.1 HD.out.2 hsz hown3 hgrow3 (by rw [← Hbl.out]; cases bl <;> simp))
                clear hown3 hgrow3 hlook hcr' hD1
                go_roundw
                case rel => exact ⟨j + 1, _, rfl, by go_num, by omega, hst⟩
                case measure => simp [intOf]; omega
              | false =>
                go_wp2_with (at_mapUpdate; go_must (refine wpList_mapUpdate_own _ rfl _ _ _ 54 rfl 9 4 key9 Trym.underlying54 _ mb (i * 2000000 + j) D rfl hD1 hcnt _ _ _ rfl rfl (Go.WideMaps.keyOf_string_mk Trym.underlying9 hsz) _ [] (plainElem_bool Trym.underlying4 true) ?_; intro w3 hown3 hgrow3))
                have hst := hide (ownersAt_step (fv' := false) hoa.out HD.out.1 HD.out.2 hsz hown3 hgrow3 (by simp))
                clear hown3 hgrow3 hlook hcr' hD1
                go_roundw
                case rel => exact ⟨j + 1, _, rfl, by go_num, by omega, hst⟩
                case measure => simp [intOf]; omega
            · obtain rfl : j = L i := by omega
              have Hend := hide (ownersAt_end hfa.out hoa.out Hno.out bLi hmlt)
              have upw := hide (Kept.up Hend.out.2.2.1 ⟨_, _, hmb.out⟩)
              cases fv with
              | false =>
                have Hnt : Hid (¬ Takes P Ac L T mx l i) := fun ht => by simpa using Hend.out.2.2.2.2 ⟨ht.2.1, ht.2.2.1⟩
                go_wp2_with fail
                go_quiet (fail)
                go_wp2
                go_roundw
                case rel => exact ⟨i + 1, l, by go_num, by omega, hfa.out.1.skip Hnt.out, Hend.out.1, Hend.out.2.1, Hend.out.2.2.1.drewN _⟩
                case measure => simp [intOf]; omega
              | true =>
                have Hst := hide (Hend.out.2.2.2.1 rfl)
                rcases firstOf_cases l with ⟨hh, _⟩ | ⟨f, hh, _⟩
                · have hl0 : ((l.length : Int) == 0) = true := by
                    cases l with
                    | nil => rfl
                    | cons x r => simp at hh
                  have Htk : Hid (Takes P Ac L T mx l i) := ⟨Hfull.out, Hst.out.1, Hst.out.2, fun f hf => by rw [hh] at hf; cases hf⟩
                  clear hh
                  go_wp2_with fail
                  go_quiet (fail)
                  go_wp2_with (at_builtin; go_must (refine wpList_append_lies _ rfl (.tmp 80) (.tmp 82) 32 rfl w.heap.size 41 i0 (.pointer none) 1 8 Trym.underlying32 Hi.out.1 Hi.out.2.1 Hi.out.2.2.1 Hi.out.2.2.2 rfl (by decide) (.slice va l.length vc) l.length (l.map fun t => ptr (E t)) rfl (batch_own Hend.out.1 _ _) ⟨wr.heap.size, 0, none⟩ 1 1 [ptr (E i)] rfl rfl (by exact World.news_of_block (cs := #[ptr (E i)]) (t := 41) (fr := (0, 0)) (heap_new _ _ _ rfl)) (by simp [Value.oneCell', ptr]) (by decide) (by unfold maxLen; omega) (by omega) (by simp; exact Nat.le_succ_of_le Hend.out.2.2.1.size) _ rfl ?_; intro gn capn w3 hown3 hgrow3 hat3 hlt3; have hnew := hide (batch_append (P := P) (Ac := Ac) (L := L) (T := T) (mx := mx) hmlt hfa.out.1 Hend.out Htk.out hown3 hgrow3); clear hown3 hgrow3 hat3 hlt3))
                  go_roundw
                  case rel => exact ⟨i + 1, l ++ [i], by go_num, by omega, hnew⟩
                  case measure => simp [intOf]; omega
                · have hl0 : ((l.length : Int) == 0) = false := by
                    cases l with
                    | nil => simp at hh
                    | cons x r => simp; omega
                  have hlp : 0 < l.length := by
                    cases l with
                    | nil => simp at hh
                    | cons x r => simp
                  have hfi : f < i := hfa.out.1.lt f (List.mem_of_mem_head? hh)
                  obtain ⟨f2, _⟩ := hent.out f (by omega)
                  have f2' := (upw.out _ _ f2).trans f2
                  have i2' := (upw.out _ _ (hent.out i hlt).1).trans (hent.out i hlt).1
                  obtain ⟨gb, rfl, hgb⟩ := batch_head Hend.out.1 hh
                  have Hh := hide hh
                  clear hh f2
                  unfold ptr at hgb
                  by_cases hac : Ac i = Ac f
                  · have hac' := str_t hac
                    have Hac := hide hac
                    clear hac
                    have Htk : Hid (Takes P Ac L T mx l i) := ⟨Hfull.out, Hst.out.1, Hst.out.2, fun f' hf => by rw [Hh.out] at hf; cases hf; exact Hac.out⟩
                    go_wp2_with fail
                    go_quiet (fail)
                    go_wp2_with (at_builtin; go_must (refine wpList_append_lies _ rfl (.tmp 80) (.tmp 82) 32 rfl w.heap.size 41 i0 (.pointer none) 1 8 Trym.underlying32 Hi.out.1 Hi.out.2.1 Hi.out.2.2.1 Hi.out.2.2.2 rfl (by decide) (.slice (some ⟨gb, 0, none⟩) l.length vc) l.length (l.map fun t => ptr (E t)) rfl (batch_own Hend.out.1 _ _) ⟨wr.heap.size, 0, none⟩ 1 1 [ptr (E i)] rfl rfl (by exact World.news_of_block (cs := #[ptr (E i)]) (t := 41) (fr := (0, 0)) (heap_new _ _ _ rfl)) (by simp [Value.oneCell', ptr]) (by decide) (by unfold maxLen; omega) (by omega) (by simp; exact Nat.le_succ_of_le Hend.out.2.2.1.size) _ rfl ?_; intro gn capn w3 hown3 hgrow3 hat3 hlt3; have hnew := hide (batch_append (P := P) (Ac := Ac) (L := L) (T := T) (mx := mx) hmlt hfa.out.1 Hend.out Htk.out hown3 hgrow3); clear hown3 hgrow3 hat3 hlt3))
                    go_roundw
                    case rel => exact ⟨i + 1, l ++ [i], by go_num, by omega, hnew⟩
                    case measure => simp [intOf]; omega
                  · have hac' := str_f hac
                    have Hac := hide hac
                    clear hac
                    have Hnt : Hid (¬ Takes P Ac L T mx l i) := fun ht => Hac.out (ht.2.2.2 f Hh.out)
                    go_wp2_with fail
                    go_quiet (fail)
                    go_wp2
                    go_roundw
                    case rel => exact ⟨i + 1, l, by go_num, by omega, hfa.out.1.skip Hnt.out, Hend.out.1, Hend.out.2.1, Hend.out.2.2.1.drewN _⟩
                    case measure => simp [intOf]; omega
    · obtain rfl : i = n := by omega
      go_wp2
      go_ret
      exact ⟨_, l, rfl, hfa.out.1, hfa.out.2.1, hfa.out.2.2.2⟩

theorem free12 (w : World) (qb : Nat) (mx : Int) (Q : Ending → World → Prop) (hQ : ∀ e w', Q e w' → ∃ a n c, e = .returned (.slice a n c)) (h : Hid (Calls Trym.prog 24 #[ptr qb, .int .i64 mx] w Q)) : Calls Trym.prog 12 #[ptr qb, .int .i64 mx] w Q := by
  have h' : Hid (Calls Trym.prog 24 #[ptr qb, .int .i64 mx] w fun e w' => ∃ a n c, e = .returned (.slice a n c) ∧ Q (.returned (.slice a n c)) w') := h.out.mono fun e w' hq => by
    obtain ⟨a, n, c, rfl⟩ := hQ e w' hq
    exact ⟨a, n, c, rfl, hq⟩
  clear h
  have Hq := hide hQ
  clear hQ
  go_enter Trym.func12, Trym.ntmps12
  go_wp2_with fail
  refine h'.out.mono ?_
  rintro e w1 ⟨a, n, c, rfl, hq⟩
  have HQ := hide hq
  clear hq
  go_wp2
  exact HQ.out
end Go.Proofs.Qxb6614569aMods
