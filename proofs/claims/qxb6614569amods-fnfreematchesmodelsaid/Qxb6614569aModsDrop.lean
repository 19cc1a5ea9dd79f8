/-
  Walks: ZZentryAt (18), ZZlen (26), ZZseqAt (27), (*queue).drop (29), ZZdrop (19).
-/
import Derived.Test.Qxb6614569aModsSlices
namespace Go.Proofs.Qxb6614569aMods
open Go.RowKit
set_option linter.unusedVariables false

/-- Where the row of a queue that is not empty lies. -/
theorem Qat.rowAt {B qb mb : Nat} {w : World} {pv : Value} {es : List (Nat × Array Value)} (h : Qat B w qb pv mb es) (hn : 0 < es.length) :
    ∃ g cap cur, pv = .slice (some ⟨g, 0, none⟩) es.length cap ∧ B ≤ g ∧ w.heap[g]? = some (.cells cur 41 (0, 0)) ∧ es.length ≤ cap ∧ cap ≤ maxLen ∧ cur.size = cap ∧ cur.toList.take es.length = es.map fun e => ptr e.1 := by
  rcases h.row.2 with ⟨_, h0⟩ | ⟨g, cap, cur, hv, hb, hg, h1, h2, h3, h4⟩
  · omega
  · exact ⟨g, cap, cur, hv, hb, hg, h1, h2, by omega, by simpa using h4⟩
theorem Qat.cellAt {B qb mb : Nat} {w : World} {pv : Value} {es : List (Nat × Array Value)} (h : Qat B w qb pv mb es) (k : Nat) (hk : k < es.length) :
    ∃ g cap, pv = .slice (some ⟨g, 0, none⟩) es.length cap ∧ w.cell? ⟨g, k, none⟩ = some (ptr es[k].1) := by
  obtain ⟨g, cap, cur, hv, hb, hg, h1, h2, h3, h4⟩ := h.rowAt (by omega)
  refine ⟨g, cap, hv, ?_⟩
  have : (cur.toList.take es.length)[k]? = some (ptr es[k].1) := by rw [h4]; simp [hk]
  rw [List.getElem?_take, if_pos hk, Array.getElem?_toList] at this
  simp [World.cell?, hg, this]
theorem Qat.entCell {B qb mb : Nat} {w : World} {pv : Value} {es : List (Nat × Array Value)} (h : Qat B w qb pv mb es) (k : Nat) (hk : k < es.length) (o : Nat) :
    w.cell? ⟨es[k].1, o, none⟩ = es[k].2[o]? := by
  have := h.ent es[k] (List.getElem_mem hk)
  simp [World.cell?, this]

theorem entryAt_core (w : World) (qb g n cap i : Nat) (p : Option Addr) (hq : w.cell? ⟨qb, 6, none⟩ = some (.slice (some ⟨g, 0, none⟩) n cap)) (hc : w.cell? ⟨g, i, none⟩ = some (.pointer p)) (hi : i < n) (hm : n ≤ 9223372036854775807) :
    Calls Trym.prog 18 #[.pointer (some ⟨qb, 0, none⟩), .int .i64 (i : Int)] w fun e w' => e = .returned (.pointer p) ∧ w' = w := by
  go_enter Trym.func18, Trym.ntmps18
  go_wp2
  go_ret
  exact ⟨rfl, rfl⟩
theorem entryAt (B : Nat) (w : World) (qb : Nat) (pv : Value) (mb : Nat) (es : List (Nat × Array Value)) (i : Nat) (h : Qat B w qb pv mb es) (hi : i < es.length) (hm : es.length ≤ maxLen) :
    Calls Trym.prog 18 #[ptr qb, .int .i64 (i : Int)] w fun e w' => e = .returned (ptr es[i].1) ∧ w' = w := by
  obtain ⟨g, cap, rfl, hc⟩ := h.cellAt i hi
  exact entryAt_core w qb g es.length cap i _ h.cell hc hi hm

theorem lenOf (B : Nat) (w : World) (qb : Nat) (pv : Value) (mb : Nat) (es : List (Nat × Array Value)) (h : Qat B w qb pv mb es) :
    Calls Trym.prog 26 #[ptr qb] w fun e w' => e = .returned (.int .i64 (es.length : Int)) ∧ w' = w := by
  obtain ⟨a, cap, rfl⟩ := own_form h.row
  have hq := h.cell
  clear h
  unfold ptr at *
  go_enter Trym.func26, Trym.ntmps26
  go_wp2
  go_ret
  exact ⟨rfl, rfl⟩

theorem seqAt_core (w : World) (qb g n cap i p : Nat) (s : Int) (hq : w.cell? ⟨qb, 6, none⟩ = some (.slice (some ⟨g, 0, none⟩) n cap)) (hc : w.cell? ⟨g, i, none⟩ = some (.pointer (some ⟨p, 0, none⟩))) (hs : w.cell? ⟨p, 0, none⟩ = some (.int .u64 s)) (hi : i < n) (hm : n ≤ 9223372036854775807) :
    Calls Trym.prog 27 #[.pointer (some ⟨qb, 0, none⟩), .int .i64 (i : Int)] w fun e w' => e = .returned (.int .u64 s) ∧ w' = w := by
  go_enter Trym.func27, Trym.ntmps27
  go_wp2
  go_ret
  exact ⟨rfl, rfl⟩
theorem seqAt (B : Nat) (w : World) (qb : Nat) (pv : Value) (mb : Nat) (es : List (Nat × Array Value)) (i : Nat) (s : Int) (h : Qat B w qb pv mb es) (hi : i < es.length) (hm : es.length ≤ maxLen) (hs : es[i].2[0]? = some (.int .u64 s)) :
    Calls Trym.prog 27 #[ptr qb, .int .i64 (i : Int)] w fun e w' => e = .returned (.int .u64 s) ∧ w' = w := by
  obtain ⟨g, cap, rfl, hc⟩ := h.cellAt i hi
  exact seqAt_core w qb g es.length cap i _ s h.cell hc ((h.entCell i hi 0).trans hs) hi hm

/-! ### drop -/
theorem setAll_erase (cur : Array Value) (n i : Nat) (z : Value) (hn : n ≤ cur.size) (hi : i < n) :
    (setAll (setAll cur i ((cur.toList.take n).drop (i + 1))) (n - 1) [z]).toList.take (n - 1) = (cur.toList.take n).eraseIdx i := by
  apply List.ext_getElem?
  intro t
  rw [List.getElem?_take, List.getElem?_eraseIdx]
  by_cases ht : t < n - 1
  · rw [if_pos ht, Array.getElem?_toList, setAll_get, if_neg (by omega), setAll_get]
    have hl : ((cur.toList.take n).drop (i + 1)).length = n - (i + 1) := by simp; omega
    rw [hl]
    by_cases c : t < i
    · rw [if_neg (by omega), if_pos c, List.getElem?_take, if_pos (by omega), Array.getElem?_toList]
    · rw [if_pos (by omega), if_neg c, List.getElem?_drop, show i + 1 + (t - i) = t + 1 by omega]
  · rw [if_neg ht]
    symm
    by_cases c : t < i
    · omega
    · rw [if_neg c, List.getElem?_eq_none]
      simp; omega

theorem map_erase {α β : Type} (f : α → β) : ∀ (l : List α) (i : Nat), (l.eraseIdx i).map f = (l.map f).eraseIdx i
  | [], _ => by simp
  | x :: r, 0 => by simp
  | x :: r, i + 1 => by simp [map_erase f r i]

def Dropped (B : Nat) (w : World) (qb : Nat) (pv : Value) (mb : Nat) (es : List (Nat × Array Value)) (w' : World) : Prop :=
  ∃ pv', Qat B w' qb pv' mb es ∧ pv'.ownBlock = pv.ownBlock ∧ Kept (fun k => k = qb ∨ some k = pv.ownBlock) w w'

theorem dropped_of {B : Nat} {w : World} {qb : Nat} {pv : Value} {mb : Nat} {es : List (Nat × Array Value)} (h : Qat B w qb pv mb es) (i g cap : Nat) (cur : Array Value) (hi : i < es.length) (hv : pv = .slice (some ⟨g, 0, none⟩) es.length cap) (hb : B ≤ g)
    (hg : w.heap[g]? = some (.cells cur 41 (0, 0))) (h1 : es.length ≤ cap) (h2 : cap ≤ maxLen) (h3 : cur.size = cap) (h4 : cur.toList.take es.length = es.map fun e => ptr e.1) :
    Dropped B w qb pv mb (es.eraseIdx i) (((w.drew.setCells g i ((cur.toList.take es.length).drop (i + 1))).setCells g (es.length - 1) [.pointer none]).setCell ⟨qb, 6, none⟩ (.slice (some ⟨g, 0, none⟩) (es.length - 1) cap)) := by
  have hgq : qb ≠ g := fun e => h.ne (by rw [hv, e]; rfl)
  have k1 : Kept (fun k => k = g) w ((w.drew.setCells g i ((cur.toList.take es.length).drop (i + 1))).setCells g (es.length - 1) [.pointer none]) :=
    Kept.setCells (S := fun k => k = g) rfl _ _ _ (Kept.setCells (S := fun k => k = g) rfl _ _ _ (Kept.refl _ _).drew)
  have hg1 := heap_setCells [.pointer none] _ g (es.length - 1) _ 41 (0, 0) (heap_setCells ((cur.toList.take es.length).drop (i + 1)) w.drew g i cur 41 (0, 0) hg)
  generalize ((w.drew.setCells g i ((cur.toList.take es.length).drop (i + 1))).setCells g (es.length - 1) [.pointer none]) = W at *
  obtain ⟨cs, q1, q2, q3⟩ := h.blk
  have hq1 : W.heap[qb]? = some (.cells cs 71 (0, 0)) := by rw [k1.block qb h.lt hgq]; exact q1
  have h6 : 6 < cs.size := by
    rcases Nat.lt_or_ge 6 cs.size with hlt | hge
    · exact hlt
    · rw [Array.getElem?_eq_none hge] at q2; cases q2
  have hle : (es.eraseIdx i).length = es.length - 1 := by rw [List.length_eraseIdx, if_pos hi]
  refine ⟨.slice (some ⟨g, 0, none⟩) (es.length - 1) cap, ⟨h.lo, ⟨cs.setIfInBounds 6 _, heap_setCell_at W qb 6 _ cs 71 (0, 0) hq1, by simp [h6], by rw [Array.getElem?_setIfInBounds_ne (by decide)]; exact q3⟩, ?_, ?_, ?_⟩, by rw [hv]; rfl, ?_⟩
  · rw [hle]
    refine ⟨by simp [hle], .inr ⟨g, cap, _, rfl, hb, by rw [Below.heap_setCell _ _ _ _ (fun e => hgq e.symm)]; exact hg1, by omega, h2, by rw [setAll_size, setAll_size]; omega, ?_⟩⟩
    rw [Nat.mul_one, setAll_erase cur es.length i _ (by omega) hi, h4]
    exact (map_erase _ es i).symm
  · intro e he
    have he2 := h.ent e (List.mem_of_mem_eraseIdx he)
    have hne1 : e.1 ≠ g := fun e1 => by rw [e1, hg] at he2; simp at he2
    have hne2 : e.1 ≠ qb := fun e1 => by rw [e1, q1] at he2; simp at he2
    rw [Below.heap_setCell _ _ _ _ hne2, k1.block _ (lt_of_block he2) hne1]
    exact he2
  · rw [map_erase]
    exact h.nod.eraseIdx _
  · refine Kept.setCell (k1.mono fun k _ hk => .inr (by rw [hk, hv]; rfl)) (.inl rfl) _

theorem drop_core (w W : World) (qb g n n' cap i : Nat) (p : Option Addr) (hq : w.cell? ⟨qb, 6, none⟩ = some (.slice (some ⟨g, 0, none⟩) n cap)) (u : Value) (hcq : W.cell? ⟨qb, 6, none⟩ = some u) (hfz : W.frozen? ⟨qb, 6, none⟩ = false)
    (hidx : Hid (Calls Trym.prog 30 #[.slice (some ⟨g, 0, none⟩) n cap, .pointer p] w fun e w' => e = .returned (.int .i64 (i : Int)) ∧ w' = w))
    (hdel : Hid (Calls Trym.prog 31 #[.slice (some ⟨g, 0, none⟩) n cap, .int .i64 (i : Int), .int .i64 ((i : Int) + 1)] w fun e w' => e = .returned (.slice (some ⟨g, 0, none⟩) n' cap) ∧ w' = W)) (hi : (i : Int) ≤ 9223372036854775806) :
    Calls Trym.prog 29 #[.pointer (some ⟨qb, 0, none⟩), .pointer p] w fun e w' => e = .returned (.tuple #[]) ∧ w' = W.setCell ⟨qb, 6, none⟩ (.slice (some ⟨g, 0, none⟩) n' cap) := by
  go_enter Trym.func29, Trym.ntmps29
  go_wp2_with (first
    | (go_at_call 30; refine hidx.out.mono ?_; rintro e w' ⟨rfl, rfl⟩)
    | (go_at_call 31; refine hdel.out.mono ?_; rintro e w' ⟨rfl, rfl⟩))
  go_end0
  exact ⟨rfl, rfl⟩

theorem drop_core_miss (w : World) (qb : Nat) (a : Option Addr) (n cap : Nat) (p : Option Addr) (hq : w.cell? ⟨qb, 6, none⟩ = some (.slice a n cap))
    (hidx : Hid (Calls Trym.prog 30 #[.slice a n cap, .pointer p] w fun e w' => e = .returned (.int .i64 (-1)) ∧ w' = w)) :
    Calls Trym.prog 29 #[.pointer (some ⟨qb, 0, none⟩), .pointer p] w fun e w' => e = .returned (.tuple #[]) ∧ w' = w := by
  go_enter Trym.func29, Trym.ntmps29
  go_wp2_with (go_at_call 30; refine hidx.out.mono ?_; rintro e w' ⟨rfl, rfl⟩)
  go_end0
  exact ⟨rfl, rfl⟩

theorem zzdrop_core (w : World) (a b : Value) (Q : World → Prop) (h : Hid (Calls Trym.prog 29 #[a, b] w fun e w' => e = .returned (.tuple #[]) ∧ Q w')) :
    Calls Trym.prog 19 #[a, b] w fun e w' => e = .returned (.tuple #[]) ∧ Q w' := by
  go_enter Trym.func19, Trym.ntmps19
  go_wp2_with (go_at_call 29; refine h.out.mono ?_; rintro e w' ⟨rfl, hq⟩)
  go_end0
  exact ⟨rfl, hq⟩

theorem nodup_get {α : Type} : ∀ {l : List α}, l.Nodup → ∀ i j (hi : i < l.length) (hj : j < l.length), l[i] = l[j] → i = j
  | l, h, i, j, hi, hj, e => by
    rcases Nat.lt_trichotomy i j with hlt | rfl | hgt
    · exact (List.pairwise_iff_getElem.1 h i j hi hj hlt e).elim
    · rfl
    · exact (List.pairwise_iff_getElem.1 h j i hj hi hgt e.symm).elim

/-- Where the entry stands at place i it is taken out. -/
theorem drop_hit (B : Nat) (w : World) (qb : Nat) (pv : Value) (mb : Nat) (es : List (Nat × Array Value)) (i : Nat) (h : Qat B w qb pv mb es) (hi : i < es.length) :
    Calls Trym.prog 19 #[ptr qb, ptr es[i].1] w fun e w' => e = .returned (.tuple #[]) ∧ Dropped B w qb pv mb (es.eraseIdx i) w' := by
  obtain ⟨g, cap, cur, hv, hb, hg, h1, h2, h3, h4⟩ := h.rowAt (by omega)
  have hm : cap ≤ 9223372036854775807 := h2
  subst hv
  have hidx := index w (some ⟨g, 0, none⟩) es.length cap (es.map (·.1)) es[i].1 (by simp) (Nat.le_trans h1 h2)
    (fun k hk => by
      have hk2 : k < es.length := by simpa using hk
      obtain ⟨g', cap', e, hc⟩ := h.cellAt k hk2
      simp at e
      exact ⟨g, rfl, by rw [e.1]; simpa using hc⟩)
    (fun p hp => by
      obtain ⟨e, he, rfl⟩ := List.mem_map.1 hp
      exact ⟨_, h.ent e he⟩) ⟨_, h.ent _ (List.getElem_mem hi)⟩
  have hidx2 : Calls Trym.prog 30 #[.slice (some ⟨g, 0, none⟩) es.length cap, ptr es[i].1] w fun e w' => e = .returned (.int .i64 (i : Int)) ∧ w' = w := by
    refine hidx.mono ?_
    rintro e w' ⟨r, rfl, rfl, hr⟩
    refine ⟨?_, rfl⟩
    rcases hr with ⟨k, hk, rfl, hk2⟩ | ⟨_, hn⟩
    · have : k = i := nodup_get h.nod k i hk (by simpa using hi) (by simpa using hk2)
      rw [this]
    · exact (hn (List.mem_map.2 ⟨_, List.getElem_mem hi, rfl⟩)).elim
  have hdel := delete1 w g es.length cap i cur hg h3 h1 h2 hi (fun u hu => by
    rw [h4] at hu
    obtain ⟨e, _, rfl⟩ := List.mem_map.1 hu
    rfl)
  have hpost := dropped_of h i g cap cur hi rfl hb hg h1 h2 h3 h4
  have hfz : ((w.drew.setCells g i ((cur.toList.take es.length).drop (i + 1))).setCells g (es.length - 1) [.pointer none]).frozen? ⟨qb, 6, none⟩ = false := by
    rw [World.frozen?_setCells, World.frozen?_setCells]; exact h.frozen
  have hcq : ((w.drew.setCells g i ((cur.toList.take es.length).drop (i + 1))).setCells g (es.length - 1) [.pointer none]).cell? ⟨qb, 6, none⟩ = some (.slice (some ⟨g, 0, none⟩) es.length cap) := by
    rw [World.cell?_setCells_out _ _ _ _ _ (fun e => (h.ne (by rw [show qb = g from e]; rfl)).elim), World.cell?_setCells_out _ _ _ _ _ (fun e => (h.ne (by rw [show qb = g from e]; rfl)).elim)]
    exact h.cell
  refine zzdrop_core w _ _ _ ((drop_core w _ qb g es.length (es.length - 1) cap i _ h.cell _ hcq hfz hidx2 hdel (by omega)).mono ?_)
  rintro e w' ⟨rfl, rfl⟩
  exact ⟨rfl, hpost⟩

/-- Where it stands nowhere nothing is done. -/
theorem drop_miss (B : Nat) (w : World) (qb : Nat) (pv : Value) (mb : Nat) (es : List (Nat × Array Value)) (eb : Nat) (h : Qat B w qb pv mb es) (hm : es.length ≤ maxLen) (heb : ∃ cs, w.heap[eb]? = some (.cells cs 92 (0, 0))) (hn : eb ∉ es.map (·.1)) :
    Calls Trym.prog 19 #[ptr qb, ptr eb] w fun e w' => e = .returned (.tuple #[]) ∧ w' = w := by
  obtain ⟨a, cap, rfl⟩ := own_form h.row
  have hidx := index w a es.length cap (es.map (·.1)) eb (by simp) hm
    (fun k hk => by
      have hk2 : k < es.length := by simpa using hk
      obtain ⟨g', cap', e, hc⟩ := h.cellAt k hk2
      simp at e
      exact ⟨g', e.1, by simpa using hc⟩)
    (fun p hp => by
      obtain ⟨e, he, rfl⟩ := List.mem_map.1 hp
      exact ⟨_, h.ent e he⟩) heb
  have hidx2 : Calls Trym.prog 30 #[.slice a es.length cap, ptr eb] w fun e w' => e = .returned (.int .i64 (-1)) ∧ w' = w := by
    refine hidx.mono ?_
    rintro e w' ⟨r, rfl, rfl, hr⟩
    refine ⟨?_, rfl⟩
    rcases hr with ⟨k, hk, rfl, hk2⟩ | ⟨rfl, _⟩
    · exact (hn (hk2 ▸ List.getElem_mem hk)).elim
    · rfl
  exact zzdrop_core w _ _ (fun w' => w' = w) (drop_core_miss w qb a es.length cap _ h.cell hidx2)
end Go.Proofs.Qxb6614569aMods
