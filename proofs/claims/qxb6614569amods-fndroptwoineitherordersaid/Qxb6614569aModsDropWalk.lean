/-
  Walk: FnDropRemovesOneAndOnce (4).
-/
import Derived.Test.Qxb6614569aModsPush
import Derived.Test.Qxb6614569aModsWithout
namespace Go.Proofs.Qxb6614569aMods
open Go.RowKit
set_option linter.unusedVariables false

theorem bytes15 (a : Option Addr) (len cap : Nat) (i : Int) (w : World) (h : len ≤ maxLen) :
    Calls Trym.prog 15 #[.slice a len cap, .int .i64 i] w fun e w' => e = .returned (.bool (decide (len ≤ 1048576))) ∧ w' = w := by
  unfold maxLen at h
  by_cases hl : len ≤ 1048576
  · have h1 : ¬ (1048576 : Int) < len := by omega
    have h2 : decide (len ≤ 1048576) = true := by simp [hl]
    rw [h2]
    go_enter Trym.func15, Trym.ntmps15
    go_wp2
    go_ret
    exact ⟨rfl, rfl⟩
  · have h1 : (1048576 : Int) < len := by omega
    have h2 : decide (len ≤ 1048576) = false := by simp [hl]
    rw [h2]
    go_enter Trym.func15, Trym.ntmps15
    go_wp2
    go_ret
    exact ⟨rfl, rfl⟩

/-- What lies in the queue after k pushes. -/
def Filled (w : World) (qb mb : Nat) (zs : List Int) (wr : World) (k : Nat) : Prop :=
  ∃ pv es, Qat w.heap.size wr qb pv mb es ∧ seqs es (zs.take k) ∧ Below w.heap.size w wr ∧ w.heap.size ≤ wr.heap.size

theorem Kept.queue {B qb mb : Nat} {w w' : World} {pv : Value} {es : List (Nat × Array Value)} (h : Qat B w qb pv mb es) (k : Kept (fun k => k = qb ∨ some k = pv.ownBlock) w w') (hB : B ≤ w.heap.size) : Below B w w' :=
  k.below hB fun n hn => by
    rcases hn with rfl | hn
    · exact h.lo
    · exact (h.row.lt n hn.symm).1

theorem filled_step {w : World} {qb mb : Nat} {zs : List Int} {wr : World} {k : Nat} {pv : Value} {es : List (Nat × Array Value)} (h : Qat w.heap.size wr qb pv mb es) (hs : seqs es (zs.take k)) (hb : Below w.heap.size w wr) (hk : k < zs.length)
    {pr ac : ByteArray} {ow : Value} {w' : World} (hp : Pushed w.heap.size wr qb pv mb es (zs.getD k 0) pr ac ow w') : Filled w qb mb zs w' (k + 1) := by
  obtain ⟨pv', eb, c1, c2, h1, h2, h3, h4⟩ := hp
  refine ⟨pv', _, h1, ?_, hb.trans (h4.queue h hb.size), Nat.le_trans hb.size h4.size⟩
  unfold seqs at hs ⊢
  rw [List.take_succ_eq_append_getElem hk, List.map_append, List.map_append, hs]
  simp [ent, hk]

theorem walk4_short (a : Option Addr) (len cap : Nat) (i : Int) (w : World) (hm : len ≤ maxLen) (h : ¬ len ≤ 131072 ∨ i < 0 ∨ (len : Int) ≤ i) :
    Calls Trym.prog 4 #[.slice a len cap, .int .i64 i] w fun e w' => e = .returned (.bool true) ∧ w' = w := by
  have hb : Hid (Calls Trym.prog 15 #[.slice a len cap, .int .i64 i] w fun e w' => e = .returned (.bool (decide (len ≤ 1048576))) ∧ w' = w) := bytes15 a len cap i w hm
  unfold maxLen at hm
  by_cases h0 : len ≤ 1048576
  · have hd : decide (len ≤ 1048576) = true := by simp [h0]
    rw [hd] at hb
    by_cases h1 : len ≤ 131072
    · have h1' : ¬ (131072 : Int) < len := by omega
      by_cases h2 : i < 0
      · clear h
        go_enter Trym.func4, Trym.ntmps4
        go_wp2_with (go_at_call 15; refine hb.out.mono ?_; rintro e w' ⟨rfl, hw'⟩; have hw'' := hw'.symm; clear hw'; subst hw'')
        go_ret
        exact ⟨rfl, rfl⟩
      · have h3 : (len : Int) ≤ i := by omega
        clear h
        go_enter Trym.func4, Trym.ntmps4
        go_wp2_with (go_at_call 15; refine hb.out.mono ?_; rintro e w' ⟨rfl, hw'⟩; have hw'' := hw'.symm; clear hw'; subst hw'')
        go_ret
        exact ⟨rfl, rfl⟩
    · have h1' : (131072 : Int) < len := by omega
      clear h
      go_enter Trym.func4, Trym.ntmps4
      go_wp2_with (go_at_call 15; refine hb.out.mono ?_; rintro e w' ⟨rfl, hw'⟩; have hw'' := hw'.symm; clear hw'; subst hw'')
      go_ret
      exact ⟨rfl, rfl⟩
  · have hd : decide (len ≤ 1048576) = false := by simp [h0]
    rw [hd] at hb
    clear h
    go_enter Trym.func4, Trym.ntmps4
    go_wp2_with (go_at_call 15; refine hb.out.mono ?_; rintro e w' ⟨rfl, hw'⟩; have hw'' := hw'.symm; clear hw'; subst hw'')
    go_ret
    exact ⟨rfl, rfl⟩

/-- What the two drops come to. -/
def Chain4 (w : World) (qb b off len cap i p : Nat) (wr : World) : Prop :=
  Calls Trym.prog 18 #[ptr qb, .int .i64 (i : Int)] wr (fun e w' => e = .returned (ptr p) ∧ w' = wr) ∧
  Calls Trym.prog 19 #[ptr qb, ptr p] wr (fun e w2 => e = .returned (.tuple #[]) ∧
    Calls Trym.prog 20 #[ptr qb, .slice (some ⟨b, off, none⟩) len cap, .int .i64 (i : Int), .int .i64 (-1)] w2 (fun e w3 => e = .returned (.bool true) ∧
      Calls Trym.prog 19 #[ptr qb, ptr p] w3 (fun e w4 => e = .returned (.tuple #[]) ∧
        Calls Trym.prog 20 #[ptr qb, .slice (some ⟨b, off, none⟩) len cap, .int .i64 (i : Int), .int .i64 (-1)] w4 (fun e w5 => e = .returned (.bool true) ∧ Below w.heap.size w w5))))

theorem chain4 (w : World) (qb mb b off len cap i : Nat) (zs : List Int) (wr : World) (hl : len ≤ 131072) (hi : i < len) (hlz : len ≤ zs.length) (hblt : b < w.heap.size) (hz : ∀ k, k < len → w.cell? ⟨b, off + k, none⟩ = some (.int .u64 (zs.getD k 0)))
    (hf : Filled w qb mb zs wr len) : ∃ p, Chain4 w qb b off len cap i p wr := by
  obtain ⟨pv, es, hq, hs, hbel, hsz⟩ := hf
  have hlen : es.length = len := by rw [seqs_len hs]; simp; omega
  have hie : i < es.length := by omega
  have hml : es.length ≤ maxLen := by unfold maxLen; omega
  refine ⟨es[i].1, entryAt _ wr qb pv mb es i hq hie hml, (drop_hit _ wr qb pv mb es i hq hie).mono ?_⟩
  rintro e w2 ⟨rfl, pv', hq2, hown2, hk2⟩
  refine ⟨rfl, ?_⟩
  have hbel2 : Below w.heap.size w w2 := hbel.trans (hk2.queue hq hsz)
  have hs2 : seqs (es.eraseIdx i) (kept zs i (-1) len) := by
    unfold seqs at hs ⊢
    rw [kept_one zs i (-1) i rfl len hlz (fun t _ => by omega), map_erase, map_erase, hs]
  have hl2 : ((es.eraseIdx i).length : Int) = (len : Int) - 1 := by rw [List.length_eraseIdx, if_pos hie]; omega
  have hz2 : ∀ n k, k < len → (w2.drewN n).cell? ⟨b, off + k, none⟩ = some (.int .u64 (zs.getD k 0)) := fun n k hk => (hbel2.cell (p := ⟨b, off + k, none⟩) hblt).trans (hz k hk)
  refine (without _ w2 qb pv' mb (es.eraseIdx i) b off len cap zs i (-1) hq2 (hz2 0) (by omega) hs2 (.inr ⟨by omega, hl2⟩)).mono ?_
  rintro e w3 ⟨rfl, n, rfl⟩
  refine ⟨rfl, ?_⟩
  have hent := hq.ent es[i] (List.getElem_mem hie)
  have hent2 : w2.heap[es[i].1]? = some (.cells es[i].2 92 (0, 0)) := by
    rw [hk2.block _ (lt_of_block hent) ?_]
    · exact hent
    · rintro (e | e)
      · obtain ⟨cs, c1, _⟩ := hq.blk
        rw [e, c1] at hent
        simp at hent
      · obtain ⟨cur, c1⟩ := own_type hq.row e.symm
        rw [c1] at hent
        simp at hent
  refine (drop_miss _ (w2.drewN n) qb pv' mb (es.eraseIdx i) es[i].1 (hq2.drewN n) (by rw [List.length_eraseIdx, if_pos hie]; omega) ⟨_, hent2⟩ ?_).mono ?_
  · rw [map_erase]
    intro hmem
    rw [List.mem_eraseIdx_iff_getElem] at hmem
    obtain ⟨j, hj, hne, e⟩ := hmem
    exact hne (nodup_get hq.nod j i hj (by simpa using hie) (by simpa using e))
  rintro e w4 ⟨rfl, rfl⟩
  refine ⟨rfl, ?_⟩
  refine (without _ (w2.drewN n) qb pv' mb (es.eraseIdx i) b off len cap zs i (-1) (hq2.drewN n) (hz2 n) (by omega) hs2 (.inr ⟨by omega, hl2⟩)).mono ?_
  rintro e w5 ⟨rfl, n', rfl⟩
  exact ⟨rfl, ⟨hbel2.os, hbel2.tape, hbel2.output, hbel2.size, hbel2.block⟩⟩

set_option maxHeartbeats 1000000 in
theorem walk4_main (b off len cap i : Nat) (zs : List Int) (w : World) (hl : len ≤ 131072) (hi : i < len) (hlz : len ≤ zs.length) (hz : ∀ k, k < len → w.cell? ⟨b, off + k, none⟩ = some (.int .u64 (zs.getD k 0))) :
    Calls Trym.prog 4 #[.slice (some ⟨b, off, none⟩) len cap, .int .i64 (i : Int)] w fun e w' => e = .returned (.bool true) ∧ Below w.heap.size w w' := by
  have hb15 : Hid (Calls Trym.prog 15 #[.slice (some ⟨b, off, none⟩) len cap, .int .i64 (i : Int)] w fun e w' => e = .returned (.bool true) ∧ w' = w) := by
    have := bytes15 (some ⟨b, off, none⟩) len cap i w (by unfold maxLen; omega)
    rwa [show decide (len ≤ 1048576) = true by simp; omega] at this
  have hblt : b < w.heap.size := World.block_lt_of_cell? w _ (hz 0 (by omega))
  have Hz : Hid (∀ k, k < len → w.cell? ⟨b, off + k, none⟩ = some (.int .u64 (zs.getD k 0))) := hz
  clear hz
  go_enter Trym.func4, Trym.ntmps4
  go_wp2_with (first
    | (go_at_call 15; refine hb15.out.mono ?_; rintro e w' ⟨rfl, hw'⟩; have hw'' := hw'.symm; clear hw'; subst hw'')
    | (go_at_call 16; refine (newQueue _).mono ?_; rintro e w1 ⟨rfl, hmade⟩))
  obtain ⟨mb, hq0, hbel0, hsz0, _, _⟩ := hmade.qat
  generalize hqb : w.heap.size + 3 = qb at *
  have Hq0 : Hid (Filled w qb mb zs w1 0) := ⟨_, _, hq0, by simp [seqs], hbel0, hbel0.size⟩
  clear hqb hq0 hbel0 hsz0 hmade
  go_loopw [6] (fun k wr => ∃ c : Nat, k = .int .i64 c ∧ c ≤ len ∧ Hid (Filled w qb mb zs wr c)) (fun k _ => len - (intOf k).toNat)
  case atStart => exact ⟨0, rfl, Nat.zero_le _, Hq0⟩
  case round =>
    obtain ⟨c, rfl, hc, hf⟩ := hrel
    by_cases hlt : c < len
    · obtain ⟨pv, es, hq, hs, hbel, hsz⟩ := hf.out
      have hcell : wr.cell? ⟨b, off + c, none⟩ = some (.int .u64 (zs.getD c 0)) := (hbel.cell (p := ⟨b, off + c, none⟩) hblt).trans (Hz.out c hlt)
      have hpush : Hid (Calls Trym.prog 17 #[ptr qb, .int .u64 (zs.getD c 0), .string ⟨#[115, 116, 111, 114, 101, 100]⟩, .slice none 0 0, .string ⟨#[]⟩] wr fun e w' => e = .returned (.tuple #[]) ∧ Filled w qb mb zs w' (c + 1)) := by
        refine (push w.heap.size wr qb pv mb es (zs.getD c 0) _ _ none 0 0 hq hsz (by rw [seqs_len hs]; simp; omega)).mono ?_
        rintro e w' ⟨rfl, hp⟩
        exact ⟨rfl, filled_step hq hs hbel (by omega) hp⟩
      generalize hzc : zs.getD c 0 = z at *
      clear hzc hf hs hq hbel hsz
      go_wp2_with (go_at_call 17; refine hpush.out.mono ?_; rintro e w2 ⟨rfl, hf2⟩)
      go_roundw
      case rel => exact ⟨c + 1, by go_num, by omega, hf2⟩
      case measure => simp [intOf]; omega
    · obtain rfl : c = len := by omega
      obtain ⟨p, h18, h19⟩ := chain4 w qb mb b off c cap i zs wr hl hi hlz hblt Hz.out hf.out
      have H18 := hide h18
      have H19 := hide h19
      clear h18 h19
      go_wp2_with fail
      refine H18.out.mono ?_
      rintro e w' ⟨rfl, hw'⟩
      have hw'' := hw'.symm
      clear hw'
      subst hw''
      go_wp2_with fail
      refine H19.out.mono ?_
      rintro e w2 ⟨rfl, h20⟩
      have H20 := hide h20
      clear h20
      go_wp2_with fail
      refine H20.out.mono ?_
      rintro e w3 ⟨rfl, h19⟩
      have H19' := hide h19
      clear h19
      go_wp2_with fail
      refine H19'.out.mono ?_
      rintro e w4 ⟨rfl, h20⟩
      have H20' := hide h20
      clear h20
      go_wp2_with fail
      refine H20'.out.mono ?_
      rintro e w5 ⟨rfl, hend⟩
      go_wp2
      go_ret
      exact ⟨rfl, hend⟩
end Go.Proofs.Qxb6614569aMods
