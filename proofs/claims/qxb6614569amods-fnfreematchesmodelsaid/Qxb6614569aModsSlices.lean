/-
  Walks: slices.Index (30) and slices.Delete (31) at pointers to entries. (Delete: after the kit's own walk at elements of one cell, turned to this program.)
-/
import Derived.Test.Qxb6614569aModsBase
import Derived.Deep.RegionLaw
import Derived.Lib.SliceRun
namespace Go.Proofs.Qxb6614569aMods
open Go.RowKit
set_option linter.unusedVariables false

/-! ### a row of cells that is written -/
def setAll (cs : Array Value) : Nat → List Value → Array Value
  | _, [] => cs
  | o, v :: r => setAll (cs.setIfInBounds o v) (o + 1) r
theorem setAll_size : ∀ (vs : List Value) (cs : Array Value) (o : Nat), (setAll cs o vs).size = cs.size
  | [], _, _ => rfl
  | v :: r, cs, o => by rw [setAll, setAll_size r]; simp
theorem setAll_get : ∀ (vs : List Value) (cs : Array Value) (o j : Nat), (setAll cs o vs)[j]? = if o ≤ j ∧ j < o + vs.length ∧ j < cs.size then vs[j - o]? else cs[j]?
  | [], cs, o, j => by rw [setAll, if_neg (by simp; omega)]
  | v :: r, cs, o, j => by
    rw [setAll, setAll_get r]
    by_cases h : j = o
    · subst h
      rw [if_neg (by omega)]
      by_cases hs : j < cs.size
      · simp [hs]
      · simp [hs]
    · rw [Array.getElem?_setIfInBounds_ne (fun e => h e.symm)]
      simp only [Array.size_setIfInBounds, List.length_cons]
      by_cases c : o ≤ j ∧ j < o + (r.length + 1) ∧ j < cs.size
      · rw [if_pos c, if_pos (by omega)]
        obtain ⟨d, hd⟩ : ∃ d, j = o + 1 + d := ⟨j - (o + 1), by omega⟩
        rw [hd, show o + 1 + d - (o + 1) = d by omega, show o + 1 + d - o = d + 1 by omega]
        simp
      · rw [if_neg c, if_neg (by omega)]
theorem heap_setCells : ∀ (vs : List Value) (w : World) (b o : Nat) (cs : Array Value) (t : TypeId) (fr : Nat × Nat), w.heap[b]? = some (.cells cs t fr) → (w.setCells b o vs).heap[b]? = some (.cells (setAll cs o vs) t fr)
  | [], _, _, _, _, _, _, h => h
  | v :: r, w, b, o, cs, t, fr, h => by
    rw [World.setCells, setAll]
    exact heap_setCells r _ b _ _ t fr (heap_setCell_at w b o v cs t fr h)
theorem Kept.setCells {S : Nat → Prop} {a : World} {b : Nat} (hb : S b) : ∀ (vs : List Value) (w : World) (o : Nat), Kept S a w → Kept S a (w.setCells b o vs)
  | [], _, _, h => h
  | v :: r, w, o, h => by
    rw [World.setCells]
    exact Kept.setCells hb r _ _ (h.setCell hb _)

theorem zero41 (w : World) : (zeroValue 41).run Trym.prog w = .ok (.pointer none) w := by
  obtain ⟨i0, hi, hi2⟩ := Option.map_eq_some_iff.1 info41
  simp only [Prod.mk.injEq] at hi2
  simp [zeroValue, typeInfo, hi, hi2.1]

set_option maxHeartbeats 4000000 in
set_option maxRecDepth 1000000 in
theorem delete1 (w : World) (g n cap i : Nat) (cur : Array Value) (hg : w.heap[g]? = some (.cells cur 41 (0, 0))) (hsz : cur.size = cap) (hn : n ≤ cap) (hm : cap ≤ maxLen) (hi : i < n) (h1c : ∀ u ∈ cur.toList.take n, u.oneCell' = true) :
    Calls Trym.prog 31 #[.slice (some ⟨g, 0, none⟩) n cap, .int .i64 (i : Int), .int .i64 ((i : Int) + 1)] w fun e w' => e = .returned (.slice (some ⟨g, 0, none⟩) (n - 1) cap) ∧ w' = (w.drew.setCells g i ((cur.toList.take n).drop (i + 1))).setCells g (n - 1) [.pointer none] := by
  unfold maxLen at hm
  obtain ⟨j, hj⟩ : ∃ j, j = i + 1 := ⟨_, rfl⟩
  rw [show ((i : Int) + 1) = (j : Int) by omega, ← hj]
  obtain ⟨i0, hi0, hi2⟩ := Option.map_eq_some_iff.1 info41
  simp only [Prod.mk.injEq] at hi2
  obtain ⟨hz0, hz1, hz2⟩ := hi2
  obtain ⟨news, hnews⟩ : ∃ news, news = (cur.toList.take n).drop j := ⟨_, rfl⟩
  rw [← hnews]
  have hlen : news.length = n - j := by rw [hnews]; simp; omega
  have hcell : ∀ t, t < n → w.cell? ⟨g, t, none⟩ = cur[t]? := fun t ht => by simp [World.cell?, hg]
  have hfz : ∀ t, w.frozen? ⟨g, t, none⟩ = false := fun t => by simp [World.frozen?, hg]
  have hget : ∀ t, t < n - j → news[t]? = cur[j + t]? := by
    intro t ht
    rw [hnews, List.getElem?_drop, List.getElem?_take, if_pos (by omega), Array.getElem?_toList]
  obtain ⟨A, hA, hsrc⟩ : ∃ A : Addr, (if cap = j then some (⟨g, 0, none⟩ : Addr) else some ⟨g, j, none⟩) = some A ∧ Hid (∀ t u, news[t]? = some u → w.drew.cell? (A.add t) = some u) := by
    by_cases h : cap = j
    · refine ⟨⟨g, 0, none⟩, by simp [h], fun t u hu => ?_⟩
      have h0 : news.length = 0 := by rw [hlen]; omega
      rw [List.length_eq_zero_iff.1 h0] at hu
      simp at hu
    · refine ⟨⟨g, j, none⟩, by simp [h], fun t u hu => ?_⟩
      have ht : t < n - j := by
        have := (List.getElem?_eq_some_iff.1 hu).1
        rwa [hlen] at this
      rw [hget t ht] at hu
      rw [Addr.add_lit]
      exact (hcell (j + t) (by omega)).trans hu
  have s1 : Hid (news.length = (n - j) * 1) := by rw [Nat.mul_one]; exact hlen
  have s2 : Hid (∀ u ∈ news, u.oneCell' = true) := by
    intro u hu
    rw [hnews] at hu
    exact h1c u (List.mem_of_mem_drop hu)
  have s3 : Hid (∀ t, t < news.length → (w.drew.cell? ⟨g, 0 + i * 1 + t, none⟩).isSome = true ∧ w.drew.frozen? ⟨g, 0 + i * 1 + t, none⟩ = false) := by
    intro t ht
    rw [hlen] at ht
    rw [Nat.mul_one, Nat.zero_add]
    exact ⟨by show (w.cell? _).isSome = true; rw [hcell (i + t) (by omega), Array.getElem?_eq_getElem (by omega)]; rfl, hfz _⟩
  obtain ⟨W1, hW1⟩ : ∃ W1, W1 = w.drew.setCells g (0 + i * 1) news := ⟨_, rfl⟩
  have hb1 : W1.heap[g]? = some (.cells (setAll cur (0 + i * 1) news) 41 (0, 0)) := by rw [hW1]; exact heap_setCells _ _ _ _ _ _ _ hg
  have hc1 : (W1.cell? ⟨g, n - 1, none⟩).isSome = true := by
    simp only [World.cell?, hb1]
    simp [setAll_size]; omega
  have hf1 : W1.frozen? ⟨g, n - 1, none⟩ = false := by simp [World.frozen?, hb1]
  have hcl : ∀ ty, (Builtin.clear_ #[32] ty #[.slice (some ⟨g, i + (n - j), none⟩) (n - (i + (n - j))) (cap - (i + (n - j)))]).run Trym.prog W1 = .ok (.tuple #[]) (W1.setCells g (i + (n - j)) (List.replicate (n - (i + (n - j))) (.pointer none))) :=
    fun ty => Lib.run_clear_slice W1 _ _ ty _ Trym.underlying32 zero41 rfl rfl g (i + (n - j)) _ _ (by omega) (fun t ht => by rw [show i + (n - j) + t = n - 1 by omega]; exact hc1) (fun t ht => by rw [show i + (n - j) + t = n - 1 by omega]; exact hf1)
  have hW : Hid (W1 = w.drew.setCells g (0 + i * 1) news) := hW1
  have hic : i ≤ cap := by omega
  have hjc : j ≤ cap := by omega
  have hij : i ≠ j := by omega
  have hjn : j ≤ n := by omega
  have hlt : i < j := by omega
  have Hj : Hid (j = i + 1) := hj
  have Hi0 : Hid (Trym.prog.info? 41 = some i0 ∧ i0.size = 1) := ⟨hi0, hz1⟩
  clear hW1 hget hnews hlen hcell hfz hb1 hc1 hf1 hg h1c hj hi0 hz0 hz1 hz2
  go_enter Trym.func31, Trym.ntmps31
  go_wp2_with fail
  go_region_law (refine step_append_room rfl (.tmp 22) (.tmp 25) 32 rfl 41 i0 1 Trym.underlying32 Hi0.out.1 Hi0.out.2 g 0 i cap (by simp [Act.eval, Act.put]) A (n - j) (cap - j) news (by simp [Act.eval, Act.put]) s1.out hsrc.out s2.out (by omega) s3.out ?_; rw [← hW.out])
  go_wp2
  go_ret
  refine ⟨by rw [show n - 1 = i + (n - j) by have := Hj.out; omega]; rfl, ?_⟩
  rw [hW.out, show n - 1 = i + (n - j) by have := Hj.out; omega, show n - (i + (n - j)) = 1 by have := Hj.out; omega, show 0 + i * 1 = i by omega]
  rfl

theorem ptr_eq (w : World) (a b : Nat) (ha : ∃ cs, w.heap[a]? = some (.cells cs 92 (0, 0))) (hb : ∃ cs, w.heap[b]? = some (.cells cs 92 (0, 0))) :
    Sem.run Trym.prog (binOp .eql 41 (.pointer (some ⟨a, 0, none⟩)) (.pointer (some ⟨b, 0, none⟩))) w = .ok (.bool (decide (a = b))) w := by
  have hte : (Trym.prog.info? 92).map (·.size) = some 17 := by kernel_rfl
  obtain ⟨j, hj, hj2⟩ := Option.map_eq_some_iff.1 hte
  obtain ⟨ca, ha⟩ := ha
  obtain ⟨cb, hb⟩ := hb
  by_cases h : a = b
  · subst h
    rw [run_eql_ptr_same w _ Trym.underlying41 hj]
    simp
  · rw [run_eql_ptr_other w (a := ⟨a, 0, none⟩) (b := ⟨b, 0, none⟩) Trym.underlying41 hj (by rw [hj2]; decide) (fun e => h (congrArg Addr.block e)) ha hb]
    simp [h]

/-- r is where eb stands in ps, or -1. -/
def IdxIs (ps : List Nat) (eb : Nat) (r : Int) : Prop := (∃ i, ∃ h : i < ps.length, r = (i : Int) ∧ ps[i] = eb) ∨ (r = -1 ∧ eb ∉ ps)

set_option maxHeartbeats 1000000 in
theorem index (w : World) (a : Option Addr) (n cap : Nat) (ps : List Nat) (eb : Nat) (hl : ps.length = n) (hm : n ≤ maxLen) (hc : ∀ k (h : k < ps.length), ∃ g, a = some ⟨g, 0, none⟩ ∧ w.cell? ⟨g, k, none⟩ = some (ptr ps[k]))
    (hps : ∀ p ∈ ps, ∃ cs, w.heap[p]? = some (.cells cs 92 (0, 0))) (heb : ∃ cs, w.heap[eb]? = some (.cells cs 92 (0, 0))) :
    Calls Trym.prog 30 #[.slice a n cap, ptr eb] w fun e w' => ∃ r : Int, e = .returned (.int .i64 r) ∧ w' = w ∧ IdxIs ps eb r := by
  unfold maxLen at hm
  have Hps : Hid (∀ p ∈ ps, ∃ cs, w.heap[p]? = some (.cells cs 92 (0, 0))) := hps
  have Heb : Hid (∃ cs, w.heap[eb]? = some (.cells cs 92 (0, 0))) := heb
  have Hc : Hid (∀ k (h : k < ps.length), ∃ g, a = some ⟨g, 0, none⟩ ∧ w.cell? ⟨g, k, none⟩ = some (ptr ps[k])) := hc
  have Hl : Hid (ps.length = n) := hl
  clear hps heb hc hl
  unfold ptr
  go_enter Trym.func30, Trym.ntmps30
  go_wp2
  go_loop [5, 8] (fun _ i => ∃ k : Nat, k ≤ n ∧ i = .int .i64 k ∧ Hid (∀ j, ∀ h : j < ps.length, j < k → ps[j] ≠ eb)) (fun _ i => n - (intOf i).toNat)
  case atStart => exact ⟨0, Nat.zero_le _, rfl, fun j _ hj => absurd hj (Nat.not_lt_zero _)⟩
  case round =>
    obtain ⟨k, hk, rfl, hne⟩ := hrel
    by_cases hlt : k < n
    · have hlt2 : k < ps.length := by rw [Hl.out]; exact hlt
      obtain ⟨g, rfl, hcell⟩ := Hc.out k hlt2
      have heq := ptr_eq w eb ps[k] Heb.out (Hps.out _ (List.getElem_mem hlt2))
      unfold ptr at hcell
      by_cases hpk : eb = ps[k]
      · have hpk2 : decide (eb = ps[k]) = true := by simpa using hpk
        rw [hpk2] at heq
        have Hpk : Hid (eb = ps[k]) := hpk
        clear hpk hpk2
        generalize hgen : ps[k] = pk at *
        have Hgen : Hid (ps[k] = pk) := hgen
        clear hgen
        go_wp2
        go_ret
        exact ⟨_, rfl, rfl, .inl ⟨k, hlt2, rfl, by rw [Hgen.out, Hpk.out]⟩⟩
      · have hpk2 : decide (eb = ps[k]) = false := by simpa using hpk
        rw [hpk2] at heq
        have Hpk : Hid (¬ eb = ps[k]) := hpk
        clear hpk hpk2
        generalize hgen : ps[k] = pk at *
        have Hgen : Hid (ps[k] = pk) := hgen
        clear hgen
        go_wp2
        go_round
        case rel =>
          refine ⟨k + 1, by omega, by go_num, fun j hj hjk => ?_⟩
          by_cases e : j = k
          · subst e; rw [Hgen.out]; exact fun e => Hpk.out e.symm
          · exact hne.out j hj (by omega)
        case measure => simp [intOf]; omega
    · go_wp2
      go_ret
      refine ⟨_, rfl, rfl, .inr ⟨rfl, fun hmem => ?_⟩⟩
      obtain ⟨j, hj, e⟩ := List.getElem_of_mem hmem
      exact hne.out j hj (by have := Hl.out; omega) e
end Go.Proofs.Qxb6614569aMods
