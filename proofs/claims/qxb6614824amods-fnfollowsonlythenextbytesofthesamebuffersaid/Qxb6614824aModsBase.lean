/-
  Walks: zzBytes.. (4), zzCloneBytes (5), ZZnewFragment (6).
-/
import Derived.Test.Qxb6614824aModsRows
import Derived.WalkKit
import Derived.ProofKit
import Derived.Below
import Derived.Deep.OwnRows
import Derived.Lib.SliceRun
import Derived.Laws.IdiomCopy
import Derived.Deep.QuietTactic
import Derived.BigQuiet
import Derived.LaidEqlPtr
namespace Go.Proofs.Qxb6614824aMods
open Go.RowKit
set_option linter.unusedVariables false

theorem hide {p : Prop} (h : p) : Hid p := h
theorem lt_of_block {w : World} {b : Nat} {o : Obj} (h : w.heap[b]? = some o) : b < w.heap.size := by
  rcases Nat.lt_or_ge b w.heap.size with hlt | hge
  · exact hlt
  · rw [Array.getElem?_eq_none hge] at h; cases h
theorem info5 : (Trym.prog.info? 5).map (fun i => (i.zero, i.size, i.bytes)) = some (some (.int .u8 0), 1, 1) := by kernel_rfl

theorem bytes4 (a : Option Addr) (len cap : Nat) (v1 v2 v3 v4 v5 v6 v7 : Value) (w : World) (h : len ≤ maxLen) :
    Calls Trym.prog 4 #[.slice a len cap, v1, v2, v3, v4, v5, v6, v7] w fun e w' => e = .returned (.bool (decide (len ≤ 1048576))) ∧ w' = w := by
  unfold maxLen at h
  by_cases hl : len ≤ 1048576
  · have h1 : ¬ (1048576 : Int) < len := by omega
    have h2 : decide (len ≤ 1048576) = true := by simp [hl]
    rw [h2]
    go_enter Trym.func4, Trym.ntmps4
    go_wp2
    go_ret
    exact ⟨rfl, rfl⟩
  · have h1 : (1048576 : Int) < len := by omega
    have h2 : decide (len ≤ 1048576) = false := by simp [hl]
    rw [h2]
    go_enter Trym.func4, Trym.ntmps4
    go_wp2
    go_ret
    exact ⟨rfl, rfl⟩

theorem heap_setCell_ex (w : World) (b o : Nat) (v : Value) (t : TypeId) (fr : Nat × Nat) (h : ∃ cs, w.heap[b]? = some (.cells cs t fr)) : ∃ cs, (w.setCell ⟨b, o, none⟩ v).heap[b]? = some (.cells cs t fr) := by
  obtain ⟨cs, h⟩ := h
  have hlt := lt_of_block h
  rw [Array.getElem?_eq_getElem hlt] at h
  simp only [Option.some.injEq] at h
  refine ⟨cs.setIfInBounds o v, ?_⟩
  unfold World.setCell
  simp [hlt, h, Array.getElem_modify]
theorem heap_setCells_ex : ∀ (vs : List Value) (w : World) (b o : Nat) (t : TypeId) (fr : Nat × Nat), (∃ cs, w.heap[b]? = some (.cells cs t fr)) → ∃ cs, (w.setCells b o vs).heap[b]? = some (.cells cs t fr)
  | [], _, _, _, _, _, h => h
  | v :: r, w, b, o, t, fr, h => by
    rw [World.setCells]
    exact heap_setCells_ex r _ b _ t fr (heap_setCell_ex w b o v t fr h)
theorem below_setCells {B : Nat} {a : World} {b : Nat} (hb : B ≤ b) : ∀ (vs : List Value) (w : World) (o : Nat), Below B a w → Below B a (w.setCells b o vs)
  | [], _, _, h => h
  | v :: r, w, o, h => by
    rw [World.setCells]
    exact below_setCells hb r _ _ (h.setCell hb _)

/-- Block g is a row of at least n bytes, whatever they are. -/
def BytesAt (w : World) (g n : Nat) : Prop := (∃ cs, w.heap[g]? = some (.cells cs 5 (0, 0))) ∧ ∀ k, k < n → ∃ z, w.cell? ⟨g, k, none⟩ = some (.int .u8 z)
theorem BytesAt.up {w w' : World} {g n : Nat} (h : BytesAt w g n) (b : Below w.heap.size w w') : BytesAt w' g n := by
  obtain ⟨cs, hc⟩ := h.1
  have hlt := lt_of_block hc
  exact ⟨⟨cs, by rw [b.block g hlt]; exact hc⟩, fun k hk => by
    obtain ⟨z, hz⟩ := h.2 k hk
    exact ⟨z, by rw [b.cell (p := ⟨g, k, none⟩) hlt]; exact hz⟩⟩
theorem BytesAt.lt {w : World} {g n : Nat} (h : BytesAt w g n) : g < w.heap.size := by
  obtain ⟨cs, hc⟩ := h.1
  exact lt_of_block hc

/-- A copy of n bytes, in new memory. -/
def Cloned (w : World) (n : Nat) (e : Ending) (w' : World) : Prop :=
  ∃ a c, e = .returned (.slice a n c) ∧ (0 < n → ∃ g, a = some ⟨g, 0, none⟩ ∧ BytesAt w' g n ∧ w.heap.size ≤ g) ∧ Below w.heap.size w w'

theorem cloned_of (w : World) (n : Nat) (vs : List Value) (hl : vs.length = n) (hv : ∀ v ∈ vs, ∃ z, v = .int .u8 z) (c : Nat) :
    Cloned w n (.returned (.slice (some ⟨w.heap.size, 0, none⟩) n c)) ((w.alloc (.cells (madeCells #[.int .u8 0] n) 5)).setCells w.heap.size 0 vs) := by
  have hrow := World.rowIs_made w (.int .u8 0) n 5
  refine ⟨_, c, rfl, fun hn => ⟨w.heap.size, rfl, ⟨heap_setCells_ex _ _ _ _ _ _ ?_, fun k hk => ?_⟩, Nat.le_refl _⟩, below_setCells (Nat.le_refl _) _ _ _ ((Below.refl _ _).alloc (Nat.le_refl _) _)⟩
  · obtain ⟨cs, h, _⟩ := hrow
    exact ⟨cs, h⟩
  · have := World.cell?_setCells_in w.heap.size vs 0 (w.alloc (.cells (madeCells #[.int .u8 0] n) 5)) (fun j hj => by rw [Nat.zero_add, hrow.cell (by omega)]; rfl) k (by omega)
    rw [Nat.zero_add] at this
    obtain ⟨z, hz⟩ := hv vs[k] (List.getElem_mem _)
    exact ⟨z, by rw [this, hz]⟩

set_option maxHeartbeats 1000000 in
theorem clone5 (w : World) (a : Option Addr) (n c : Nat) (Z : Nat → Int) (hn : a = none → n = 0) (hb : n ≤ 2000000) (hc : ∀ k, k < n → ∃ x, a = some x ∧ w.cell? (x.add k) = some (.int .u8 (Z k))) :
    Calls Trym.prog 5 #[.slice a n c] w (Cloned w n) := by
  cases a with
  | none =>
    obtain rfl := hn rfl
    have hnil := fun w => Lib.run_eql_slice_nil (P := Trym.prog) w 22 5 none 0 c 0 0 Trym.underlying22
    clear hc hn
    go_enter Trym.func5, Trym.ntmps5
    go_wp2
    go_ret
    exact ⟨none, 0, rfl, fun h => absurd h (Nat.lt_irrefl _), Below.refl _ _⟩
  | some x =>
    have hnil := fun w => Lib.run_eql_slice_nil (P := Trym.prog) w 22 5 (some x) n c 0 0 Trym.underlying22
    have hmk := run_make_row' (P := Trym.prog) 22 5 (.int .u8 0) 1 Trym.underlying22 info5 rfl .i64 .i64 n (by omega) (by omega)
    have hrow := World.rowIs_made w (.int .u8 0) n 5
    have hcp : ∀ ty, (Builtin.copy_ #[22, 22] ty #[.slice (some ⟨w.heap.size, 0, none⟩) n n, .slice (some x) n c]).run Trym.prog (w.alloc (.cells (madeCells #[.int .u8 0] n) 5)) = .ok (goInt ((List.range n).map fun k => Value.int .u8 (Z k)).length) ((w.alloc (.cells (madeCells #[.int .u8 0] n) 5)).setCells w.heap.size 0 ((List.range n).map fun k => Value.int .u8 (Z k))) := by
      intro ty
      refine run_copy_cells _ 22 22 ty 5 w.heap.size 0 n n x n c _ Trym.underlying22 (by kernel_rfl) (by simp) (fun j v hv => ?_) (fun j hj => ?_) (fun j hj => ?_) (fun v hv => ?_)
      · have hj : j < n := by have := (List.getElem?_eq_some_iff.1 hv).1; simpa using this
        obtain ⟨x', e, hx'⟩ := hc j hj
        cases e
        simp [hj] at hv
        subst hv
        rw [((Below.refl w.heap.size w).alloc (Nat.le_refl _) _).cell (World.block_lt_of_cell? w _ hx')]
        exact hx'
      · rw [Nat.zero_add, hrow.cell (by simpa using hj)]; rfl
      · rw [Nat.zero_add]; exact hrow.frozen j
      · obtain ⟨k, _, rfl⟩ := List.mem_map.1 hv
        rfl
    have hend := hide (cloned_of w n ((List.range n).map fun k => Value.int .u8 (Z k)) (by simp) (fun v hv => by obtain ⟨k, _, rfl⟩ := List.mem_map.1 hv; exact ⟨_, rfl⟩) n)
    clear hc hn hrow
    generalize ((List.range n).map fun k => Value.int .u8 (Z k)) = vs at *
    go_enter Trym.func5, Trym.ntmps5
    go_wp2
    go_ret
    exact hend.out

/-- A fragment as a value. -/
def frag (a : Option Addr) (l c : Nat) (at_ n t : Int) (r : Bool) : Value := .agg #[.slice a l c, .int .i64 at_, .int .i64 n, .int .u8 t, .bool r]

/-- .. and its five cells. -/
def cells5 (a : Option Addr) (l c : Nat) (at_ n t : Int) (r : Bool) : Array Value := #[.slice a l c, .int .i64 at_, .int .i64 n, .int .u8 t, .bool r]

theorem frag6 (w : World) (a : Option Addr) (l c : Nat) (at_ n t : Int) (r : Bool) :
    Calls Trym.prog 6 #[.slice a l c, .int .i64 at_, .int .i64 n, .int .u8 t, .bool r] w fun e w' => e = .returned (frag a l c at_ n t r) ∧ w' = w.alloc (.cells (cells5 a l c at_ n t r) 27) := by
  go_enter Trym.func6, Trym.ntmps6
  go_wp2
  exact bodyPost_ret (v := frag a l c at_ n t r) (by simp [results, Trym.results6, go_sem, frag]) rfl ⟨rfl, rfl⟩

/-! ### follows -/
theorem two_new (w : World) (o1 o2 : Obj) (n : Nat) : Below w.heap.size w (((w.alloc o1).alloc o2).drewN n) := by
  have h : Below w.heap.size w ((w.alloc o1).alloc o2) := ((Below.refl _ _).alloc (Nat.le_refl _) _).alloc (by simp) _
  exact ⟨h.os, h.tape, h.output, h.size, h.block⟩
theorem size5 : (Trym.prog.info? 5).map (·.size) = some 1 := by kernel_rfl
theorem ptr_same (w : World) (x : Addr) : Sem.run Trym.prog (binOp .eql 31 (.pointer (some x)) (.pointer (some x))) w = .ok (.bool true) w := by
  obtain ⟨j, hj, hj2⟩ := Option.map_eq_some_iff.1 size5
  exact run_eql_ptr_same w x Trym.underlying31 hj
theorem ptr_other (w : World) (g1 g2 : Nat) (hne : g1 ≠ g2) (h1 : ∃ cs, w.heap[g1]? = some (.cells cs 5 (0, 0))) (h2 : ∃ cs, w.heap[g2]? = some (.cells cs 5 (0, 0))) :
    Sem.run Trym.prog (binOp .eql 31 (.pointer (some ⟨g1, 0, none⟩)) (.pointer (some ⟨g2, 0, none⟩))) w = .ok (.bool false) w := by
  obtain ⟨j, hj, hj2⟩ := Option.map_eq_some_iff.1 size5
  obtain ⟨c1, h1⟩ := h1
  obtain ⟨c2, h2⟩ := h2
  exact run_eql_ptr_other w Trym.underlying31 hj (by rw [hj2]; decide) (fun e => hne (congrArg Addr.block e)) h1 h2

/-- One of the two is empty: no. -/
theorem follows8_short (w : World) (a b : Option Addr) (la ca lb cb : Nat) (fa fn ft ea en et : Int) (fr er : Bool) (h : ¬ (0 < en ∧ 0 < fn)) :
    Calls Trym.prog 8 #[frag a la ca fa fn ft fr, frag b lb cb ea en et er] w fun e w' => e = .returned (.bool false) ∧ Below w.heap.size w w' := by
  unfold frag
  by_cases h1 : 0 < en
  · have h2 : ¬ 0 < fn := fun h' => h ⟨h1, h'⟩
    have hd1 : decide (0 < en) = true := by simp [h1]
    have hd2 : decide (0 < fn) = false := by simp; omega
    clear h h2 h1
    go_enter Trym.func8, Trym.ntmps8
    go_wp2_with fail
    go_quiet (fail)
    go_wp2
    go_ret
    exact ⟨rfl, two_new w _ _ _⟩
  · have hd1 : decide (0 < en) = false := by simp; omega
    clear h h1
    go_enter Trym.func8, Trym.ntmps8
    go_wp2_with fail
    go_quiet (fail)
    go_wp2
    go_ret
    exact ⟨rfl, two_new w _ _ _⟩

/-- Both lie in one buffer: where the first ends the other begins. -/
theorem follows8_same (w : World) (g la ca lb cb : Nat) (fa fn ft ea en et : Int) (fr er : Bool) (hla : 0 < la) (hlb : 0 < lb) (hf : 0 < fn) (he : 0 < en) (b1 : 0 ≤ ea) (b2 : ea ≤ 3000000) (b3 : en ≤ 3000000) :
    Calls Trym.prog 8 #[frag (some ⟨g, 0, none⟩) la ca fa fn ft fr, frag (some ⟨g, 0, none⟩) lb cb ea en et er] w fun e w' => e = .returned (.bool (ea + en == fa)) ∧ Below w.heap.size w w' := by
  unfold frag
  have hq := ptr_same
  have hd1 : decide (0 < en) = true := by simp [he]
  have hd2 : decide (0 < fn) = true := by simp [hf]
  go_enter Trym.func8, Trym.ntmps8
  go_wp2_with fail
  go_quiet (fail)
  go_wp2
  go_ret
  exact ⟨rfl, two_new w _ _ _⟩
/-- They lie in two buffers: no. -/
theorem follows8_other (w : World) (g1 g2 la ca lb cb : Nat) (fa fn ft ea en et : Int) (fr er : Bool) (hla : 0 < la) (hlb : 0 < lb) (hf : 0 < fn) (he : 0 < en) (hne : g2 ≠ g1) (h1 : ∃ cs, w.heap[g1]? = some (.cells cs 5 (0, 0))) (h2 : ∃ cs, w.heap[g2]? = some (.cells cs 5 (0, 0))) :
    Calls Trym.prog 8 #[frag (some ⟨g1, 0, none⟩) la ca fa fn ft fr, frag (some ⟨g2, 0, none⟩) lb cb ea en et er] w fun e w' => e = .returned (.bool false) ∧ Below w.heap.size w w' := by
  have hup : ∀ (o1 o2 : Obj) (n g : Nat), (∃ cs, w.heap[g]? = some (.cells cs 5 (0, 0))) → ∃ cs, (((w.alloc o1).alloc o2).drewN n).heap[g]? = some (.cells cs 5 (0, 0)) := by
    rintro o1 o2 n g ⟨cs, hc⟩
    exact ⟨cs, by rw [(two_new w o1 o2 n).block g (lt_of_block hc)]; exact hc⟩
  have hq : ∀ (o1 o2 : Obj) (n : Nat), Sem.run Trym.prog (binOp .eql 31 (.pointer (some ⟨g2, 0, none⟩)) (.pointer (some ⟨g1, 0, none⟩))) (((w.alloc o1).alloc o2).drewN n) = .ok (.bool false) (((w.alloc o1).alloc o2).drewN n) := fun o1 o2 n => ptr_other _ g2 g1 hne (hup o1 o2 n g2 h2) (hup o1 o2 n g1 h1)
  clear hup h1 h2
  unfold frag
  have hd1 : decide (0 < en) = true := by simp [he]
  have hd2 : decide (0 < fn) = true := by simp [hf]
  go_enter Trym.func8, Trym.ntmps8
  go_wp2_with fail
  go_quiet (fail)
  go_wp2
  go_ret
  exact ⟨rfl, two_new w _ _ _⟩
theorem follows7 (w : World) (a b : Option Addr) (la ca lb cb : Nat) (fa fn ft ea en et : Int) (fr er : Bool) (v : Bool) (h : Hid (∀ w' : World, Below w.heap.size w w' → Calls Trym.prog 8 #[frag a la ca fa fn ft fr, frag b lb cb ea en et er] w' fun e w'' => e = .returned (.bool v) ∧ Below w'.heap.size w' w'')) :
    Calls Trym.prog 7 #[frag a la ca fa fn ft fr, frag b lb cb ea en et er] w fun e w' => e = .returned (.bool v) ∧ Below w.heap.size w w' := by
  unfold frag at *
  go_enter Trym.func7, Trym.ntmps7
  go_wp2_with fail
  refine (h.out _ (two_new w _ _ 0)).mono ?_
  rintro e w2 ⟨rfl, hb⟩
  have Hb := hide ((two_new w _ _ 0).trans (hb.mono (two_new w _ _ 0).size))
  clear hb
  go_wp2
  go_ret
  exact ⟨rfl, Hb.out⟩

/-- Two fragments of one buffer. -/
theorem fol_same (w : World) (a : Option Addr) (la ca lb cb : Nat) (fa fn ft ea en et : Int) (fr er : Bool) (h : 0 < en → 0 < fn → (∃ g, a = some ⟨g, 0, none⟩) ∧ 0 < la ∧ 0 < lb) (b1 : 0 ≤ ea) (b2 : ea ≤ 3000000) (b3 : en ≤ 3000000) :
    Calls Trym.prog 7 #[frag a la ca fa fn ft fr, frag a lb cb ea en et er] w fun e w' => e = .returned (.bool (decide (0 < en ∧ 0 < fn ∧ ea + en = fa))) ∧ Below w.heap.size w w' := by
  refine follows7 w _ _ _ _ _ _ _ _ _ _ _ _ _ _ _ (fun w' hb => ?_)
  by_cases hs : 0 < en ∧ 0 < fn
  · obtain ⟨⟨g, rfl⟩, h1, h2⟩ := h hs.1 hs.2
    have := follows8_same w' g la ca lb cb fa fn ft ea en et fr er h1 h2 hs.2 hs.1 b1 b2 b3
    have e : (ea + en == fa) = decide (0 < en ∧ 0 < fn ∧ ea + en = fa) := by
      by_cases c : ea + en = fa <;> simp [c, hs]
    rwa [e] at this
  · have e : decide (0 < en ∧ 0 < fn ∧ ea + en = fa) = false := by simp; intro h1 h2; exact absurd ⟨h1, h2⟩ hs
    rw [e]
    exact follows8_short w' a a la ca lb cb fa fn ft ea en et fr er hs
/-- Two fragments of two buffers. -/
theorem fol_other (w : World) (a b : Option Addr) (la ca lb cb : Nat) (fa fn ft ea en et : Int) (fr er : Bool)
    (h : 0 < en → 0 < fn → (∃ g1 g2, a = some ⟨g1, 0, none⟩ ∧ b = some ⟨g2, 0, none⟩ ∧ g2 ≠ g1 ∧ (∃ cs, w.heap[g1]? = some (.cells cs 5 (0, 0))) ∧ ∃ cs, w.heap[g2]? = some (.cells cs 5 (0, 0))) ∧ 0 < la ∧ 0 < lb) :
    Calls Trym.prog 7 #[frag a la ca fa fn ft fr, frag b lb cb ea en et er] w fun e w' => e = .returned (.bool false) ∧ Below w.heap.size w w' := by
  refine follows7 w _ _ _ _ _ _ _ _ _ _ _ _ _ _ _ (fun w' hb => ?_)
  by_cases hs : 0 < en ∧ 0 < fn
  · obtain ⟨⟨g1, g2, rfl, rfl, hne, ⟨c1, h1⟩, ⟨c2, h2⟩⟩, l1, l2⟩ := h hs.1 hs.2
    exact follows8_other w' g1 g2 la ca lb cb fa fn ft ea en et fr er l1 l2 hs.2 hs.1 hne ⟨c1, by rw [hb.block g1 (lt_of_block h1)]; exact h1⟩ ⟨c2, by rw [hb.block g2 (lt_of_block h2)]; exact h2⟩
  · exact follows8_short w' a b la ca lb cb fa fn ft ea en et fr er hs
end Go.Proofs.Qxb6614824aMods
