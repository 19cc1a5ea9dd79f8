/-
  Walks: ZZnewQueue (16), ZZpush (17).
-/
import Derived.Test.Qxb6614569aModsBase
import Derived.Deep.RegionLaw
namespace Go.Proofs.Qxb6614569aMods
open Go.RowKit
set_option linter.unusedVariables false

theorem heap_new (w : World) (o : Obj) (n : Nat) (h : n = w.heap.size) : (w.alloc o).heap[n]? = some o := by subst h; exact heap_alloc_new w o

/-- What a new queue is: four blocks more; the queue empty; its map empty. -/
def Made (w w' : World) : Prop := ∃ mb, Below w.heap.size w w' ∧ w'.heap.size = w.heap.size + 4 ∧ w.heap.size ≤ mb ∧ w'.heap[mb]? = some (.map #[] 0) ∧
  ∃ cs, w'.heap[w.heap.size + 3]? = some (.cells cs 71 (0, 0)) ∧ cs[6]? = some (.slice none 0 0) ∧ cs[12]? = some (.map (some mb))

theorem made_of (w : World) (o1 o2 o3 : Obj) (cs : Array Value) (d : Nat) (hd : d ≤ 2) (h : ((((w.alloc o1).alloc o2).alloc o3)).heap[w.heap.size + d]? = some (.map #[] 0)) (h6 : cs[6]? = some (.slice none 0 0)) (h12 : cs[12]? = some (.map (some (w.heap.size + d)))) :
    Made w ((((w.alloc o1).alloc o2).alloc o3).alloc (.cells cs 71)).drew := by
  refine ⟨w.heap.size + d, ?_, by simp, by omega, ?_, cs, ?_, h6, h12⟩
  · exact (((((Below.refl _ _).alloc (by simp) _).alloc (by simp) _).alloc (by simp; omega) _).alloc (by simp; omega) _).drew
  · show ((((w.alloc o1).alloc o2).alloc o3).alloc (.cells cs 71)).heap[w.heap.size + d]? = _
    rw [Below.heap_alloc _ _ _ (by simp; omega)]; exact h
  · exact heap_new (((w.alloc o1).alloc o2).alloc o3) (.cells cs 71) _ (by simp)
theorem made2 (w : World) (o1 o2 : Obj) (cs : Array Value) (h6 : cs[6]? = some (.slice none 0 0)) (h12 : cs[12]? = some (.map (some (w.heap.size + 1 + 1)))) :
    Made w ((((w.alloc o1).alloc o2).alloc (.map #[] 0)).alloc (.cells cs 71)).drew :=
  made_of w _ _ _ cs 2 (by decide) (heap_new _ _ _ (by simp)) h6 h12
theorem made1 (w : World) (o1 o2 : Obj) (cs : Array Value) (h6 : cs[6]? = some (.slice none 0 0)) (h12 : cs[12]? = some (.map (some (w.heap.size + 1)))) :
    Made w ((((w.alloc o1).alloc (.map #[] 0)).alloc o2).alloc (.cells cs 71)).drew :=
  made_of w _ _ _ cs 1 (by decide) (by rw [Below.heap_alloc _ _ _ (by simp)]; exact heap_new _ _ _ (by simp)) h6 h12
theorem made0 (w : World) (o1 o2 : Obj) (cs : Array Value) (h6 : cs[6]? = some (.slice none 0 0)) (h12 : cs[12]? = some (.map (some w.heap.size))) :
    Made w ((((w.alloc (.map #[] 0)).alloc o1).alloc o2).alloc (.cells cs 71)).drew :=
  made_of w _ _ _ cs 0 (by decide) (by rw [Below.heap_alloc _ _ _ (by simp; omega), Below.heap_alloc _ _ _ (by simp)]; exact heap_new _ _ _ (by simp)) h6 h12

set_option maxRecDepth 100000 in
theorem newQueue (w : World) :
    Calls Trym.prog 16 #[] w fun e w' => e = .returned (ptr (w.heap.size + 3)) ∧ Made w w' := by
  have mk1 := chan53_1
  have mk0 := chan53_0
  have mm := fun w => run_makeMap (P := Trym.prog) 54 w
  go_enter Trym.func16, Trym.ntmps16
  go_wp2
  go_region
  all_goals (go_wp2; go_ret; refine ⟨rfl, ?_⟩)
  all_goals first | exact made2 w _ _ _ rfl rfl | exact made1 w _ _ _ rfl rfl | exact made0 w _ _ _ rfl rfl

/-- The new queue, as a queue. -/
theorem Made.qat {w w' : World} (h : Made w w') : ∃ mb, Qat w.heap.size w' (w.heap.size + 3) (.slice none 0 0) mb [] ∧ Below w.heap.size w w' ∧ w'.heap.size = w.heap.size + 4 ∧ w.heap.size ≤ mb ∧ w'.heap[mb]? = some (.map #[] 0) := by
  obtain ⟨mb, h1, h2, h3, h4, cs, h5, h6, h7⟩ := h
  exact ⟨mb, ⟨by omega, ⟨cs, h5, h6, h7⟩, World.ownsRow_nil _ _ _ _, fun e he => (List.not_mem_nil he).elim, List.nodup_nil⟩, h1, h2, h3, h4⟩

/-- What a push does: one entry more. -/
def Pushed (B : Nat) (w : World) (qb : Nat) (pv : Value) (mb : Nat) (es : List (Nat × Array Value)) (s : Int) (pr ac : ByteArray) (ow : Value) (w' : World) : Prop :=
  ∃ pv' eb c1 c2, Qat B w' qb pv' mb (es ++ [(eb, ent s pr ac ow c1 c2)]) ∧ w.heap.size ≤ eb ∧ (∀ k, pv'.ownBlock = some k → pv.ownBlock = some k ∨ w.heap.size ≤ k) ∧ Kept (fun k => k = qb ∨ some k = pv.ownBlock) w w'

theorem pushed_of {B : Nat} {w : World} {qb : Nat} {pv : Value} {mb : Nat} {es : List (Nat × Array Value)} (h : Qat B w qb pv mb es) (hB : B ≤ w.heap.size) (s : Int) (pr ac : ByteArray) (ow : Value) (c1 c2 : Nat) (o1 o2 : Obj) (sl : Array Value)
    (w1 : World) (g cap : Nat) (hown : w1.ownsRow B 41 1 (.slice (some ⟨g, 0, none⟩) (es.length + 1) cap) (es.length + 1) ((es.map fun e => ptr e.1) ++ [ptr (w.heap.size + 1 + 1)]))
    (hg : ((((w.alloc o1).alloc o2).alloc (.cells (ent s pr ac ow c1 c2) 92)).alloc (.cells sl 41)).drew.grownBy w1 pv.ownBlock) (hat : pv.ownBlock = some g ∨ g = w.heap.size + 4) :
    Pushed B w qb pv mb es s pr ac ow (w1.setCell ⟨qb, 6, none⟩ (.slice (some ⟨g, 0, none⟩) (es.length + 1) cap)) := by
  have b1 : Below w.heap.size w ((((w.alloc o1).alloc o2).alloc (.cells (ent s pr ac ow c1 c2) 92)).alloc (.cells sl 41)).drew :=
    (((((Below.refl _ _).alloc (by simp) _).alloc (by simp) _).alloc (by simp; omega) _).alloc (by simp; omega) _).drew
  have hblk : ((((w.alloc o1).alloc o2).alloc (.cells (ent s pr ac ow c1 c2) 92)).alloc (.cells sl 41)).drew.heap[w.heap.size + 2]? = some (.cells (ent s pr ac ow c1 c2) 92 (0, 0)) := by
    show ((((w.alloc o1).alloc o2).alloc (.cells (ent s pr ac ow c1 c2) 92)).alloc (.cells sl 41)).heap[w.heap.size + 2]? = _
    rw [Below.heap_alloc _ _ _ (by simp)]
    exact heap_new _ _ _ (by simp)
  have hsz : ((((w.alloc o1).alloc o2).alloc (.cells (ent s pr ac ow c1 c2) 92)).alloc (.cells sl 41)).drew.heap.size = w.heap.size + 4 := by simp
  generalize ((((w.alloc o1).alloc o2).alloc (.cells (ent s pr ac ow c1 c2) 92)).alloc (.cells sl 41)).drew = W at *
  have k1 : Kept (fun k => k = qb ∨ some k = pv.ownBlock) w W := Kept.ofBelow b1 (Nat.le_refl _)
  have k2 : Kept (fun k => k = qb ∨ some k = pv.ownBlock) W w1 := Kept.ofGrown hg fun k hk => .inr hk
  obtain ⟨cs, q1, q2, q3⟩ := h.blk
  have hq1 : w1.heap[qb]? = some (.cells cs 71 (0, 0)) := by
    rw [hg.block qb (Nat.lt_of_lt_of_le h.lt b1.size) h.ne, b1.block qb h.lt]; exact q1
  have hgq : g ≠ qb := by
    intro e
    obtain ⟨cur, hc⟩ := own_type hown (k := g) rfl
    rw [e, hq1] at hc
    simp at hc
  have h6 : 6 < cs.size := by
    rcases Nat.lt_or_ge 6 cs.size with hlt | hge
    · exact hlt
    · rw [Array.getElem?_eq_none hge] at q2; cases q2
  refine ⟨.slice (some ⟨g, 0, none⟩) (es.length + 1) cap, w.heap.size + 2, c1, c2, ⟨h.lo, ⟨cs.setIfInBounds 6 _, heap_setCell_at w1 qb 6 _ cs 71 (0, 0) hq1, by simp [h6], by rw [Array.getElem?_setIfInBounds_ne (by decide)]; exact q3⟩, ?_, ?_, ?_⟩, by omega, ?_, (k1.trans k2).setCell (.inl rfl) _⟩
  · have e1 : (es ++ [(w.heap.size + 2, ent s pr ac ow c1 c2)]).length = es.length + 1 := by simp
    have e2 : (es ++ [(w.heap.size + 2, ent s pr ac ow c1 c2)]).map (fun e => ptr e.1) = (es.map fun e => ptr e.1) ++ [ptr (w.heap.size + 1 + 1)] := by simp
    rw [e1, e2]
    exact own_up hown fun k hk => by
      have : g = k := by simpa [Value.ownBlock] using hk
      subst this
      exact Below.heap_setCell _ _ _ _ hgq
  · intro e he
    have hlt2 : e.1 < W.heap.size ∧ W.heap[e.1]? = some (.cells e.2 92 (0, 0)) := by
      rcases List.mem_append.1 he with he | he
      · have := h.ent e he
        exact ⟨Nat.lt_of_lt_of_le (lt_of_block this) b1.size, by rw [b1.block _ (lt_of_block this)]; exact this⟩
      · obtain rfl := List.mem_singleton.1 he
        exact ⟨by simp [hsz], hblk⟩
    have hne : some e.1 ≠ pv.ownBlock := by
      intro e1
      obtain ⟨cur, hc⟩ := own_type h.row e1.symm
      rw [b1.block _ (h.row.lt _ e1.symm).2, hc] at hlt2
      simp at hlt2
    have h1 := hg.block e.1 hlt2.1 hne
    rw [Below.heap_setCell _ _ _ _ (fun e2 => by rw [hlt2.2, e2, hq1] at h1; simp at h1), h1]
    exact hlt2.2
  · rw [List.map_append, List.nodup_append]
    refine ⟨h.nod, by simp, fun a ha b hb => ?_⟩
    obtain ⟨e, he, rfl⟩ := List.mem_map.1 ha
    have hb2 : b = w.heap.size + 2 := by simpa using hb
    have := lt_of_block (h.ent e he)
    omega
  · intro k hk
    have : g = k := by simpa [Value.ownBlock] using hk
    subst this
    rcases hat with hat | hat
    · exact .inl hat
    · exact .inr (by omega)

set_option maxRecDepth 100000 in
set_option maxHeartbeats 1000000 in
theorem push (B : Nat) (w : World) (qb : Nat) (pv : Value) (mb : Nat) (es : List (Nat × Array Value)) (s : Int) (pr ac : ByteArray) (oa : Option Addr) (ol oc : Nat)
    (h : Qat B w qb pv mb es) (hB : B ≤ w.heap.size) (hn : es.length ≤ 2000000) :
    Calls Trym.prog 17 #[ptr qb, .int .u64 s, .string pr, .slice oa ol oc, .string ac] w fun e w' => e = .returned (.tuple #[]) ∧ Pushed B w qb pv mb es s pr ac (.slice oa ol oc) w' := by
  obtain ⟨i0, hi, hi2⟩ := Option.map_eq_some_iff.1 info41
  simp only [Prod.mk.injEq] at hi2
  obtain ⟨hz0, hz1, hz2⟩ := hi2
  have Hhi : Hid (Trym.prog.info? 41 = some i0) := hi
  have Hz : Hid (i0.zero = some (.pointer none) ∧ i0.size = 1 ∧ i0.bytes = 8) := ⟨hz0, hz1, hz2⟩
  have mk1 := chan86_1
  have mk2 := chan87_1
  have Hq : Hid (Qat B w qb pv mb es) := h
  have hc := h.cell
  have hf := h.frozen
  have hqlt : qb < w.heap.size := h.lt
  obtain ⟨a, cap, hpv⟩ := own_form h.row
  subst hpv
  generalize hlen : es.length = n at *
  have Hlen : Hid (es.length = n) := hlen
  have Hne : Hid (some qb ≠ (Value.slice a n cap).ownBlock) := h.ne
  clear hi hz0 hz1 hz2 h hlen
  unfold ptr
  go_enter Trym.func17, Trym.ntmps17
  have hc1 : ∀ o1, (w.alloc o1).cell? ⟨qb, 6, none⟩ = some (.slice a n cap) := fun o1 => (((Below.refl _ _).alloc (by simp) _ : Below w.heap.size w _).cell hqlt).trans hc
  have hc2 : ∀ o1 o2, ((w.alloc o1).alloc o2).cell? ⟨qb, 6, none⟩ = some (.slice a n cap) := fun o1 o2 => ((((Below.refl _ _).alloc (by simp) _).alloc (by simp) _ : Below w.heap.size w _).cell hqlt).trans hc
  have hc3 : ∀ o1 o2 o3, (((w.alloc o1).alloc o2).alloc o3).cell? ⟨qb, 6, none⟩ = some (.slice a n cap) := fun o1 o2 o3 => (((((Below.refl _ _).alloc (by simp) _).alloc (by simp) _).alloc (by simp; omega) _ : Below w.heap.size w _).cell hqlt).trans hc
  have hc4 : ∀ o1 o2 o3 o4, ((((w.alloc o1).alloc o2).alloc o3).alloc o4).cell? ⟨qb, 6, none⟩ = some (.slice a n cap) := fun o1 o2 o3 o4 => ((((((Below.refl _ _).alloc (by simp) _).alloc (by simp) _).alloc (by simp; omega) _).alloc (by simp; omega) _ : Below w.heap.size w _).cell hqlt).trans hc
  go_region_law
      (refine step_append_lies _ rfl (.tmp 14) (.tmp 25) 32 rfl B 41 i0 (.pointer none) 1 8 Trym.underlying32 Hhi.out Hz.out.1 Hz.out.2.1 Hz.out.2.2 rfl (by decide) (.slice a n cap) n (es.map fun e => ptr e.1) (by simp [Act.eval])
           (by exact own_below (Hlen.out ▸ Hq.out.row) (by repeat (first | exact Below.refl _ _ | refine Below.alloc ?_ (by simp; try omega) _ | refine Below.drew ?_)))
           ⟨w.heap.size + 1 + 1 + 1, 0, none⟩ 1 1 [ptr (w.heap.size + 1 + 1)] (by simp [Act.eval]) rfl
           (by exact World.news_of_block (cs := #[ptr (w.heap.size + 1 + 1)]) (t := 41) (fr := (0, 0)) (heap_new _ _ _ (by simp)))
           (by simp [Value.oneCell', ptr]) (by decide) (by unfold maxLen; omega) (by omega) (by simp; omega) (w.heap.size + 4) (by simp) ?_
       intro g cap' w1 hown1 hgrow hat hlt
       have hq6 : w1.cell? ⟨qb, 6, none⟩ = some (.slice a n cap) := by
         rw [hgrow.cell_far _ (by simp; omega) Hne.out]
         exact ((by repeat (first | exact Below.refl _ _ | refine Below.alloc ?_ (by simp; try omega) _ | refine Below.drew ?_) : Below w.heap.size w _).cell hqlt).trans hc
       have hf6 : w1.frozen? ⟨qb, 6, none⟩ = false := by
         rw [hgrow.frozen_far _ (by simp; omega) Hne.out]
         exact ((by repeat (first | exact Below.refl _ _ | refine Below.alloc ?_ (by simp; try omega) _ | refine Below.drew ?_) : Below w.heap.size w _).frozen hqlt).trans hf
       have Hp := And.intro hown1 (And.intro hgrow hat)
       clear hown1 hgrow hat hlt)
  all_goals
    go_end0
    refine ⟨rfl, ?_⟩
    obtain rfl := Hlen.out
    exact pushed_of Hq.out hB s pr ac _ _ _ _ _ _ w1 g cap' Hp.1 Hp.2.1 Hp.2.2
end Go.Proofs.Qxb6614569aMods
