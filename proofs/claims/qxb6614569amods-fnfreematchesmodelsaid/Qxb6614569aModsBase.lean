/-
  The queue of package daemon as it lies in the model's memory: what the laws on 'drop' and 'free' share. No Go text is walked here.
-/
import Derived.Test.Qxb6614569aModsRows
import Derived.WalkKit
import Derived.ProofKit
import Derived.Below
import Derived.BigRegion
import Derived.Deep.RegionHeld3
import Derived.Deep.AppendLies
import Derived.Conc.SmallLaws
import Derived.LaidEqlPtr
namespace Go.Proofs.Qxb6614569aMods
open Go.RowKit
set_option linter.unusedVariables false

theorem hide {p : Prop} (h : p) : Hid p := h

/-! ### channels are made -/
theorem mkChan {t e : TypeId} {dir : ChanDir} {b : Nat} (n : Nat) (ht : Trym.prog.underlying t = some (.chan dir e)) (hi : (Trym.prog.info? e).map (·.bytes) = some b) (hn : n ≤ 1) (hb : b ≤ 1000) (w : World) :
    Sem.run Trym.prog (Instr.makeChan t (Value.int IntKind.i64 n)) w = .ok (.chan (some w.heap.size)) (w.alloc (.chan n #[] false 0 0 false)) := by
  obtain ⟨i, hi1, hi2⟩ := Option.map_eq_some_iff.1 hi
  have hle : i.bytes * n ≤ 1000 * 1 := Nat.mul_le_mul (by omega) hn
  exact Go.Conc.run_makeChan ht hi1 .i64 n (by omega) (by have : ((i.bytes * n : Nat) : Int) ≤ 1000 := by omega
                                                          rw [Int.natCast_mul] at this; omega)
theorem chan53_1 (w : World) : Sem.run Trym.prog (Instr.makeChan 53 (Value.int IntKind.i64 1)) w = .ok (.chan (some w.heap.size)) (w.alloc (.chan 1 #[] false 0 0 false)) :=
  mkChan (b := 0) 1 Trym.underlying53 (by kernel_rfl) (by decide) (by decide) w
theorem chan53_0 (w : World) : Sem.run Trym.prog (Instr.makeChan 53 (Value.int IntKind.i64 0)) w = .ok (.chan (some w.heap.size)) (w.alloc (.chan 0 #[] false 0 0 false)) :=
  mkChan (b := 0) 0 Trym.underlying53 (by kernel_rfl) (by decide) (by decide) w
theorem chan86_1 (w : World) : Sem.run Trym.prog (Instr.makeChan 86 (Value.int IntKind.i64 1)) w = .ok (.chan (some w.heap.size)) (w.alloc (.chan 1 #[] false 0 0 false)) :=
  mkChan (b := 16) 1 Trym.underlying86 (by kernel_rfl) (by decide) (by decide) w
theorem chan87_1 (w : World) : Sem.run Trym.prog (Instr.makeChan 87 (Value.int IntKind.i64 1)) w = .ok (.chan (some w.heap.size)) (w.alloc (.chan 1 #[] false 0 0 false)) :=
  mkChan (b := 32) 1 Trym.underlying87 (by kernel_rfl) (by decide) (by decide) w

theorem info41 : (Trym.prog.info? 41).map (fun i => (i.zero, i.size, i.bytes)) = some (some (.pointer none), 1, 8) := by kernel_rfl

/-! ### worlds -/
theorem lt_of_block {w : World} {b : Nat} {o : Obj} (h : w.heap[b]? = some o) : b < w.heap.size := by
  rcases Nat.lt_or_ge b w.heap.size with hlt | hge
  · exact hlt
  · rw [Array.getElem?_eq_none hge] at h; cases h

/-- All that lay in w is as it was, but for the blocks of S. -/
structure Kept (S : Nat → Prop) (w w' : World) : Prop where
  os : w'.os = w.os
  tape : w'.tape = w.tape
  output : w'.output = w.output
  size : w.heap.size ≤ w'.heap.size
  block : ∀ k, k < w.heap.size → ¬ S k → w'.heap[k]? = w.heap[k]?

theorem Kept.refl (S : Nat → Prop) (w : World) : Kept S w w := ⟨rfl, rfl, rfl, Nat.le_refl _, fun _ _ _ => rfl⟩
theorem Kept.trans {S : Nat → Prop} {a b c : World} (h : Kept S a b) (k : Kept S b c) : Kept S a c :=
  ⟨k.os.trans h.os, k.tape.trans h.tape, k.output.trans h.output, Nat.le_trans h.size k.size, fun n hn hS => (k.block n (Nat.lt_of_lt_of_le hn h.size) hS).trans (h.block n hn hS)⟩
theorem Kept.mono {S T : Nat → Prop} {a b : World} (h : Kept S a b) (hST : ∀ k, k < a.heap.size → S k → T k) : Kept T a b :=
  ⟨h.os, h.tape, h.output, h.size, fun n hn hT => h.block n hn (fun hS => hT (hST n hn hS))⟩
theorem Kept.below {S : Nat → Prop} {B : Nat} {a b : World} (h : Kept S a b) (hB : B ≤ a.heap.size) (hS : ∀ k, S k → B ≤ k) : Below B a b :=
  ⟨h.os, h.tape, h.output, h.size, fun n hn => h.block n (Nat.lt_of_lt_of_le hn hB) (fun hs => by have := hS n hs; omega)⟩
theorem Kept.ofBelow {S : Nat → Prop} {B : Nat} {a b : World} (h : Below B a b) (hB : a.heap.size ≤ B) : Kept S a b :=
  ⟨h.os, h.tape, h.output, h.size, fun n hn _ => h.block n (Nat.lt_of_lt_of_le hn hB)⟩
theorem Kept.ofGrown {S : Nat → Prop} {a b : World} {row : Option Nat} (h : a.grownBy b row) (hS : ∀ k, some k = row → S k) : Kept S a b :=
  ⟨h.os, h.tape, h.output, h.size, fun n hn hs => h.block n hn (fun e => hs (hS n e))⟩
theorem size_setCell' (w : World) (a : Addr) (v : Value) : (w.setCell a v).heap.size = w.heap.size := by
  simp
theorem Kept.setCell {S : Nat → Prop} {a w : World} (h : Kept S a w) {p : Addr} (hp : S p.block) (v : Value) : Kept S a (w.setCell p v) :=
  ⟨h.os, h.tape, h.output, by rw [size_setCell']; exact h.size,
   fun n hn hs => by
    have hne : n ≠ p.block := fun e => hs (by rw [e]; exact hp)
    rw [Below.heap_setCell _ _ _ _ hne]; exact h.block n hn hs⟩
theorem Kept.drew {S : Nat → Prop} {a w : World} (h : Kept S a w) : Kept S a w.drew := ⟨h.os, h.tape, h.output, h.size, h.block⟩

theorem heap_setCell_at (w : World) (b o : Nat) (v : Value) (cs : Array Value) (t : TypeId) (fr : Nat × Nat) (h : w.heap[b]? = some (.cells cs t fr)) :
    (w.setCell ⟨b, o, none⟩ v).heap[b]? = some (.cells (cs.setIfInBounds o v) t fr) := by
  have hlt := lt_of_block h
  rw [Array.getElem?_eq_getElem hlt] at h
  simp only [Option.some.injEq] at h
  unfold World.setCell
  simp [hlt, h, Array.getElem_modify]

theorem own_up {w W : World} {B e size n : Nat} {v : Value} {xs : List Value} (h : w.ownsRow B e size v n xs) (b : ∀ k, v.ownBlock = some k → W.heap[k]? = w.heap[k]?) : W.ownsRow B e size v n xs := by
  refine ⟨h.1, ?_⟩
  rcases h.2 with h0 | ⟨g, cap, cur, hv, hb, hg, h5⟩
  · exact .inl h0
  · refine .inr ⟨g, cap, cur, hv, hb, ?_, h5⟩
    rw [b g (by rw [hv]; rfl), hg]
theorem own_below {w W : World} {B e size n : Nat} {v : Value} {xs : List Value} (h : w.ownsRow B e size v n xs) (b : Below w.heap.size w W) : W.ownsRow B e size v n xs :=
  own_up h fun k hk => b.block k (h.lt k hk).2
theorem own_type {w : World} {B e size n : Nat} {v : Value} {xs : List Value} (h : w.ownsRow B e size v n xs) {k : Nat} (hk : v.ownBlock = some k) : ∃ cur, w.heap[k]? = some (.cells cur e (0, 0)) := by
  rcases h.2 with ⟨rfl, _⟩ | ⟨g, cap, cur, hv, hb, hg, h5⟩
  · cases hk
  · subst hv
    have : g = k := by simpa [Value.ownBlock] using hk
    exact ⟨cur, this ▸ hg⟩
theorem own_form {w : World} {B e size n : Nat} {v : Value} {xs : List Value} (h : w.ownsRow B e size v n xs) : ∃ a cap, v = .slice a n cap := by
  rcases h.2 with ⟨rfl, rfl⟩ | ⟨g, cap, cur, hv, hb, hg, h5⟩
  · exact ⟨_, _, rfl⟩
  · exact ⟨_, _, hv⟩

/-! ### the queue -/
/-- An entry's cells, as 'ZZpush' makes them: its number, its action, its owners, its progress, its two channels. -/
def ent (s : Int) (pr ac : ByteArray) (ow : Value) (c1 c2 : Nat) : Array Value :=
  #[.int .u64 s, .int .u64 s, .string ac, .string { data := #[] }, .int .u64 0, .int .u64 0, .pointer none, .slice none 0 0, .int .u32 0, .bool false, .bool false, ow, .string pr, .string { data := #[] }, .string { data := #[] }, .chan (some c1), .chan (some c2)]

def ptr (b : Nat) : Value := .pointer (some ⟨b, 0, none⟩)

/-- Block qb is a queue whose pending entries lie in the blocks es (each with its cells); all that is written of it lies from block B on. -/
structure Qat (B : Nat) (w : World) (qb : Nat) (pv : Value) (mb : Nat) (es : List (Nat × Array Value)) : Prop where
  lo : B ≤ qb
  blk : ∃ cs, w.heap[qb]? = some (.cells cs 71 (0, 0)) ∧ cs[6]? = some pv ∧ cs[12]? = some (.map (some mb))
  row : w.ownsRow B 41 1 pv es.length (es.map fun e => ptr e.1)
  ent : ∀ e ∈ es, w.heap[e.1]? = some (.cells e.2 92 (0, 0))
  nod : (es.map (·.1)).Nodup

theorem Qat.cell {B qb mb : Nat} {w : World} {pv : Value} {es : List (Nat × Array Value)} (h : Qat B w qb pv mb es) : w.cell? ⟨qb, 6, none⟩ = some pv := by
  obtain ⟨cs, h1, h2, _⟩ := h.blk
  simp [World.cell?, h1, h2]
theorem Qat.held {B qb mb : Nat} {w : World} {pv : Value} {es : List (Nat × Array Value)} (h : Qat B w qb pv mb es) : w.cell? ⟨qb, 12, none⟩ = some (.map (some mb)) := by
  obtain ⟨cs, h1, _, h2⟩ := h.blk
  simp [World.cell?, h1, h2]
theorem Qat.frozen {B qb mb : Nat} {w : World} {pv : Value} {es : List (Nat × Array Value)} (h : Qat B w qb pv mb es) : w.frozen? ⟨qb, 6, none⟩ = false := by
  obtain ⟨cs, h1, _, h2⟩ := h.blk
  simp [World.frozen?, h1]
theorem Qat.lt {B qb mb : Nat} {w : World} {pv : Value} {es : List (Nat × Array Value)} (h : Qat B w qb pv mb es) : qb < w.heap.size := by
  obtain ⟨cs, h1, _, h2⟩ := h.blk
  exact lt_of_block h1
theorem Qat.ne {B qb mb : Nat} {w : World} {pv : Value} {es : List (Nat × Array Value)} (h : Qat B w qb pv mb es) : some qb ≠ pv.ownBlock := by
  intro e
  obtain ⟨cur, hc⟩ := own_type h.row e.symm
  obtain ⟨cs, h1, _⟩ := h.blk
  rw [h1] at hc
  simp at hc
/-- Wherever the queue's own blocks are as they were, it is the same queue. -/
theorem Qat.kept {B qb mb : Nat} {w w' : World} {pv : Value} {es : List (Nat × Array Value)} {S : Nat → Prop} (h : Qat B w qb pv mb es) (k : Kept S w w') (h1 : ¬ S qb) (h2 : ∀ b, pv.ownBlock = some b → ¬ S b)
    (h3 : ∀ e ∈ es, ¬ S e.1) : Qat B w' qb pv mb es := by
  obtain ⟨cs, c1, c2⟩ := h.blk
  exact ⟨h.lo, ⟨cs, by rw [k.block _ h.lt h1]; exact c1, c2⟩, own_up h.row (fun b hb => k.block b (h.row.lt b hb).2 (h2 b hb)),
    fun e he => by rw [k.block _ (lt_of_block (h.ent e he)) (h3 e he)]; exact h.ent e he, h.nod⟩

end Go.Proofs.Qxb6614569aMods
