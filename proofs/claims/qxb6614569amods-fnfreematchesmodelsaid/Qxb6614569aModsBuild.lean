/-
  Walk: zzBuild (10).
-/
import Derived.Test.Qxb6614569aModsModel
namespace Go.Proofs.Qxb6614569aMods
open Go.RowKit
set_option linter.unusedVariables false

/-- e is entry k: its number, its progress, its action, its owners. -/
def EntIs (P Ac : Nat → ByteArray) (L : Nat → Nat) (T : Nat → Nat → ByteArray) (w : World) (k : Nat) (e : Nat × Array Value) : Prop :=
  ∃ ar c c1 c2, e.2 = ent (k : Int) (P k) (Ac k) (.slice ar (L k) c) c1 c2 ∧ Strs w ar (L k) (T k)
/-- The queue holds the first k entries; its map is empty; nothing that lay in w has turned. -/
def Built (P Ac : Nat → ByteArray) (L : Nat → Nat) (T : Nat → Nat → ByteArray) (w : World) (qb mb : Nat) (k : Nat) (wr : World) : Prop :=
  ∃ pv es, Qat w.heap.size wr qb pv mb es ∧ es.length = k ∧ (∀ t, ∀ h : t < es.length, EntIs P Ac L T w t es[t]) ∧ Below w.heap.size w wr ∧ wr.heap[mb]? = some (.map #[] 0) ∧ w.heap.size ≤ mb

section
variable {P Ac : Nat → ByteArray} {L : Nat → Nat} {T : Nat → Nat → ByteArray}
theorem Made.built {w w' : World} (h : Made w w') : ∃ mb, Built P Ac L T w (w.heap.size + 3) mb 0 w' := by
  obtain ⟨mb, h1, h2, h3, h4, h5⟩ := h.qat
  exact ⟨mb, _, [], h1, rfl, fun t h => absurd h (Nat.not_lt_zero _), h2, h5, h4⟩
/-- One push more. -/
theorem Built.step {w : World} {qb mb k : Nat} {wr w' : World} {pv : Value} {es : List (Nat × Array Value)} {ar : Option Addr} {c : Nat} (hq : Qat w.heap.size wr qb pv mb es) (hl : es.length = k) (he : ∀ t, ∀ h : t < es.length, EntIs P Ac L T w t es[t]) (hb : Below w.heap.size w wr)
    (hm : wr.heap[mb]? = some (.map #[] 0)) (hmb : w.heap.size ≤ mb) (hs : Strs w ar (L k) (T k)) (hp : Pushed w.heap.size wr qb pv mb es (k : Int) (P k) (Ac k) (.slice ar (L k) c) w') : Built P Ac L T w qb mb (k + 1) w' := by
  obtain ⟨pv', eb, c1, c2, h1, h2, h3, h4⟩ := hp
  refine ⟨pv', _, h1, by simp [hl], fun t ht => ?_, hb.trans (Kept.below h4 hb.size ?_), ?_, hmb⟩
  · by_cases e : t < es.length
    · rw [List.getElem_append_left e]; exact he t e
    · have e2 : t = es.length := by simp at ht; omega
      subst e2
      rw [List.getElem_append_right (Nat.le_refl _)]
      simp only [Nat.sub_self, List.getElem_cons_zero]
      rw [← hl] at hs ⊢
      exact ⟨ar, c, c1, c2, rfl, hs⟩
  · rintro n (rfl | hn)
    · exact hq.lo
    · exact (hq.row.lt n hn.symm).1
  · rw [h4.block mb (lt_of_block hm) ?_]
    · exact hm
    · rintro (e | e)
      · obtain ⟨cs, c1, _⟩ := hq.blk
        rw [e, c1] at hm; cases hm
      · obtain ⟨cur, c1⟩ := own_type hq.row e.symm
        rw [c1] at hm; cases hm
end

theorem wrapU (k : Nat) (h : k ≤ 2000000) : IntKind.u64.wrap (k : Int) = (k : Int) := by
  simp [IntKind.wrap, IntKind.bits, IntKind.signed]; omega

def Post10 (P Ac : Nat → ByteArray) (L : Nat → Nat) (T : Nat → Nat → ByteArray) (n : Nat) (w : World) (e : Ending) (w' : World) : Prop :=
  ∃ qb mb, e = .returned (ptr qb) ∧ Built P Ac L T w qb mb n w'

set_option maxHeartbeats 4000000 in
set_option maxRecDepth 100000 in
theorem build10 (w : World) (a0 a1 a2 : Option Addr) (n c0 c1 c2 : Nat) (P Ac : Nat → ByteArray) (L : Nat → Nat) (T : Nat → Nat → ByteArray)
    (h0 : Hid (Strs w a0 n P)) (h1 : Hid (Grid w a1 n L T)) (h2 : Hid (Strs w a2 n Ac)) (b0 : n ≤ 2000000) :
    Calls Trym.prog 10 #[.slice a0 n c0, .slice a1 n c1, .slice a2 n c2] w (Post10 P Ac L T n w) := by
  go_enter Trym.func10, Trym.ntmps10
  go_wp2_with fail
  refine (newQueue _).mono ?_
  rintro e w1 ⟨rfl, hmade⟩
  obtain ⟨mb, hb0⟩ := Made.built (P := P) (Ac := Ac) (L := L) (T := T) hmade
  generalize w.heap.size + 3 = qb at *
  have Hb0 := hide hb0
  clear hb0 hmade
  go_wp2_with fail
  go_loopw [8] (fun i wr => ∃ k : Nat, i = .int .i64 k ∧ k ≤ n ∧ Hid (Built P Ac L T w qb mb k wr)) (fun i _ => n - (intOf i).toNat)
  case atStart => exact ⟨0, rfl, Nat.zero_le _, Hb0⟩
  case round =>
    obtain ⟨k, rfl, hk, hbt⟩ := hrel
    by_cases hlt : k < n
    · obtain ⟨bp, offp, rfl, hp⟩ := h0.out k hlt
      obtain ⟨bo, offo, rfl, ar, cr, ho, hr⟩ := h1.out k hlt
      obtain ⟨ba, offa, rfl, ha⟩ := h2.out k hlt
      obtain ⟨pv, es, hq, hl, he, hbel, hm, hmb⟩ := hbt.out
      have hp' : wr.cell? ⟨bp, offp + k, none⟩ = some (.string (P k)) := (hbel.cell (p := ⟨bp, offp + k, none⟩) (World.block_lt_of_cell? w _ hp)).trans hp
      have ho' : wr.cell? ⟨bo, offo + k, none⟩ = some (.slice ar (L k) cr) := (hbel.cell (p := ⟨bo, offo + k, none⟩) (World.block_lt_of_cell? w _ ho)).trans ho
      have ha' : wr.cell? ⟨ba, offa + k, none⟩ = some (.string (Ac k)) := (hbel.cell (p := ⟨ba, offa + k, none⟩) (World.block_lt_of_cell? w _ ha)).trans ha
      have hpush : Hid (Calls Trym.prog 17 #[ptr qb, .int .u64 (k : Int), .string (P k), .slice ar (L k) cr, .string (Ac k)] wr.drew fun e w' => e = .returned (.tuple #[]) ∧ Built P Ac L T w qb mb (k + 1) w' ∧
          (w'.cell? ⟨bp, offp + k, none⟩ = some (.string (P k)) ∧ w'.cell? ⟨bo, offo + k, none⟩ = some (.slice ar (L k) cr) ∧ w'.cell? ⟨ba, offa + k, none⟩ = some (.string (Ac k)))) := by
        have hq' : Qat w.heap.size wr.drew qb pv mb es := ⟨hq.lo, hq.blk, hq.row, hq.ent, hq.nod⟩
        refine (push w.heap.size wr.drew qb pv mb es (k : Int) (P k) (Ac k) ar (L k) cr hq' hbel.size (by omega)).mono ?_
        rintro e w' ⟨rfl, hpu⟩
        have hb' : Built P Ac L T w qb mb (k + 1) w' := Built.step hq' hl he hbel.drew hm hmb hr hpu
        refine ⟨rfl, hb', ?_⟩
        obtain ⟨_, _, _, _, _, hbel', _⟩ := hb'
        exact ⟨(hbel'.cell (p := ⟨bp, offp + k, none⟩) (World.block_lt_of_cell? w _ hp)).trans hp, (hbel'.cell (p := ⟨bo, offo + k, none⟩) (World.block_lt_of_cell? w _ ho)).trans ho, (hbel'.cell (p := ⟨ba, offa + k, none⟩) (World.block_lt_of_cell? w _ ha)).trans ha⟩
      clear hq hl he hbel hm hmb hr hp ho ha
      have Hwr := hide (wrapU k (by omega))
      go_wp2_with fail
      go_region_held3 (fun w' => w'.cell? ⟨bp, offp + k, none⟩ = some (.string (P k)) ∧ w'.cell? ⟨bo, offo + k, none⟩ = some (.slice ar (L k) cr) ∧ w'.cell? ⟨ba, offa + k, none⟩ = some (.string (Ac k)))
        (first | assumption | exact ⟨hp', ho', ha'⟩)
        (first | (go_at_call 17; rw [Hwr.out]; refine hpush.out.mono ?_; rintro e w2 ⟨rfl, hbt2, hS2⟩))
      have Hbt2 := hide hbt2
      clear hbt2 hS2
      go_wp2
      go_roundw
      case rel => exact ⟨k + 1, by go_num, by omega, Hbt2⟩
      case measure => simp [intOf]; omega
    · obtain rfl : k = n := by omega
      go_wp2
      go_ret
      exact ⟨qb, mb, rfl, hbt.out⟩
end Go.Proofs.Qxb6614569aMods
