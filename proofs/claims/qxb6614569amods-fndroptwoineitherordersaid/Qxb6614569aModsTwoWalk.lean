/-
  Walk: FnDropTwoInEitherOrder (5).
-/
import Derived.Test.Qxb6614569aModsTwo
namespace Go.Proofs.Qxb6614569aMods
open Go.RowKit
set_option linter.unusedVariables false

theorem bytes21 (a : Option Addr) (len cap : Nat) (i j : Int) (w : World) (h : len ≤ maxLen) :
    Calls Trym.prog 21 #[.slice a len cap, .int .i64 i, .int .i64 j] w fun e w' => e = .returned (.bool (decide (len ≤ 1048576))) ∧ w' = w := by
  unfold maxLen at h
  by_cases hl : len ≤ 1048576
  · have h1 : ¬ (1048576 : Int) < len := by omega
    have h2 : decide (len ≤ 1048576) = true := by simp [hl]
    rw [h2]
    go_enter Trym.func21, Trym.ntmps21
    go_wp2
    go_ret
    exact ⟨rfl, rfl⟩
  · have h1 : (1048576 : Int) < len := by omega
    have h2 : decide (len ≤ 1048576) = false := by simp [hl]
    rw [h2]
    go_enter Trym.func21, Trym.ntmps21
    go_wp2
    go_ret
    exact ⟨rfl, rfl⟩

theorem walk5_short (a : Option Addr) (len cap : Nat) (i j : Int) (w : World) (hm : len ≤ maxLen) (h : ¬ len ≤ 131072 ∨ i < 0 ∨ (len : Int) ≤ i ∨ j < 0 ∨ (len : Int) ≤ j ∨ i = j) :
    Calls Trym.prog 5 #[.slice a len cap, .int .i64 i, .int .i64 j] w fun e w' => e = .returned (.bool true) ∧ w' = w := by
  have hb : Hid (Calls Trym.prog 21 #[.slice a len cap, .int .i64 i, .int .i64 j] w fun e w' => e = .returned (.bool (decide (len ≤ 1048576))) ∧ w' = w) := bytes21 a len cap i j w hm
  unfold maxLen at hm
  by_cases h0 : len ≤ 1048576
  · have hd : decide (len ≤ 1048576) = true := by simp [h0]
    rw [hd] at hb
    by_cases h1 : len ≤ 131072
    · have h1' : ¬ (131072 : Int) < len := by omega
      by_cases h2 : i < 0
      · clear h
        go_enter Trym.func5, Trym.ntmps5
        go_wp2_with (go_at_call 21; refine hb.out.mono ?_; rintro e w' ⟨rfl, hw'⟩; have hw'' := hw'.symm; clear hw'; subst hw'')
        go_ret
        exact ⟨rfl, rfl⟩
      · by_cases h3 : (len : Int) ≤ i
        · clear h
          go_enter Trym.func5, Trym.ntmps5
          go_wp2_with (go_at_call 21; refine hb.out.mono ?_; rintro e w' ⟨rfl, hw'⟩; have hw'' := hw'.symm; clear hw'; subst hw'')
          go_ret
          exact ⟨rfl, rfl⟩
        · by_cases h4 : j < 0
          · clear h
            go_enter Trym.func5, Trym.ntmps5
            go_wp2_with (go_at_call 21; refine hb.out.mono ?_; rintro e w' ⟨rfl, hw'⟩; have hw'' := hw'.symm; clear hw'; subst hw'')
            go_ret
            exact ⟨rfl, rfl⟩
          · by_cases h5 : (len : Int) ≤ j
            · clear h
              go_enter Trym.func5, Trym.ntmps5
              go_wp2_with (go_at_call 21; refine hb.out.mono ?_; rintro e w' ⟨rfl, hw'⟩; have hw'' := hw'.symm; clear hw'; subst hw'')
              go_ret
              exact ⟨rfl, rfl⟩
            · have h6 : i = j := by omega
              subst h6
              clear h
              go_enter Trym.func5, Trym.ntmps5
              go_wp2_with (go_at_call 21; refine hb.out.mono ?_; rintro e w' ⟨rfl, hw'⟩; have hw'' := hw'.symm; clear hw'; subst hw'')
              go_ret
              exact ⟨rfl, rfl⟩
    · have h1' : (131072 : Int) < len := by omega
      clear h
      go_enter Trym.func5, Trym.ntmps5
      go_wp2_with (go_at_call 21; refine hb.out.mono ?_; rintro e w' ⟨rfl, hw'⟩; have hw'' := hw'.symm; clear hw'; subst hw'')
      go_ret
      exact ⟨rfl, rfl⟩
  · have hd : decide (len ≤ 1048576) = false := by simp [h0]
    rw [hd] at hb
    clear h
    go_enter Trym.func5, Trym.ntmps5
    go_wp2_with (go_at_call 21; refine hb.out.mono ?_; rintro e w' ⟨rfl, hw'⟩; have hw'' := hw'.symm; clear hw'; subst hw'')
    go_ret
    exact ⟨rfl, rfl⟩

/-- What lies in the two queues after k rounds. -/
def Filled2 (w : World) (q1 m1 q2 m2 : Nat) (zs : List Int) (wr : World) (k1 k2 : Nat) : Prop :=
  ∃ v1 e1 v2 e2, Pair w.heap.size wr q1 v1 m1 e1 q2 v2 m2 e2 ∧ seqs e1 (zs.take k1) ∧ seqs e2 (zs.take k2) ∧ Below w.heap.size w wr
theorem Filled2.symm {w : World} {q1 m1 q2 m2 : Nat} {zs : List Int} {wr : World} {k1 k2 : Nat} (h : Filled2 w q1 m1 q2 m2 zs wr k1 k2) : Filled2 w q2 m2 q1 m1 zs wr k2 k1 := by
  obtain ⟨v1, e1, v2, e2, h1, h2, h3, h4⟩ := h
  exact ⟨v2, e2, v1, e1, h1.symm, h3, h2, h4⟩

theorem seqs_push {es : List (Nat × Array Value)} {zs : List Int} {k : Nat} (hs : seqs es (zs.take k)) (hk : k < zs.length) (eb : Nat) (pr ac : ByteArray) (ow : Value) (c1 c2 : Nat) : seqs (es ++ [(eb, ent (zs.getD k 0) pr ac ow c1 c2)]) (zs.take (k + 1)) := by
  unfold seqs at hs ⊢
  rw [List.take_succ_eq_append_getElem hk, List.map_append, List.map_append, hs]
  simp [ent, hk]

/-- A push into the first of the two. -/
theorem push2 {w : World} {q1 m1 q2 m2 : Nat} {zs : List Int} {wr : World} {k1 k2 : Nat} (h : Filled2 w q1 m1 q2 m2 zs wr k1 k2) (hk : k1 < zs.length) (hl : k1 ≤ 2000000) (pr ac : ByteArray) (oa : Option Addr) (ol oc : Nat) :
    Calls Trym.prog 17 #[ptr q1, .int .u64 (zs.getD k1 0), .string pr, .slice oa ol oc, .string ac] wr fun e w' => e = .returned (.tuple #[]) ∧ Filled2 w q1 m1 q2 m2 zs w' (k1 + 1) k2 := by
  obtain ⟨v1, e1, v2, e2, h1, h2, h3, h4⟩ := h
  refine (push w.heap.size wr q1 v1 m1 e1 (zs.getD k1 0) pr ac oa ol oc h1.one h4.size (by rw [seqs_len h2]; simp; omega)).mono ?_
  rintro e w' ⟨rfl, hp⟩
  obtain ⟨v1', eb, c1, c2, h5, h6⟩ := h1.pushed hp
  exact ⟨rfl, v1', _, v2, e2, h5, seqs_push h2 hk _ _ _ _ _ _, h3, h4.trans (h6.queue h1.one h4.size)⟩

/-- The two drops on the first queue, one behind the other. -/
theorem drop2 {w : World} {q1 m1 q2 m2 : Nat} {wr : World} {v1 v2 : Value} {e1 e2 : List (Nat × Array Value)} (h : Pair w.heap.size wr q1 v1 m1 e1 q2 v2 m2 e2) (hb : Below w.heap.size w wr) (i j : Nat) (hij : i ≠ j) (hi : i < e1.length) (hj : j < e1.length) :
    Calls Trym.prog 19 #[ptr q1, ptr e1[i].1] wr fun e w2 => e = .returned (.tuple #[]) ∧ Calls Trym.prog 19 #[ptr q1, ptr e1[j].1] w2 fun e w3 => e = .returned (.tuple #[]) ∧
      ∃ v1', Pair w.heap.size w3 q1 v1' m1 ((e1.eraseIdx i).eraseIdx (shiftOf i j)) q2 v2 m2 e2 ∧ Below w.heap.size w w3 := by
  refine (drop_hit _ wr q1 v1 m1 e1 i h.one hi).mono ?_
  rintro e w2 ⟨rfl, hd⟩
  obtain ⟨v1', h2, k2⟩ := h.dropped hd
  have hb2 := hb.trans (k2.queue h.one hb.size)
  obtain ⟨hs, he⟩ := getElem_erase e1 i j hij hi hj
  refine ⟨rfl, ?_⟩
  have := drop_hit _ w2 q1 v1' m1 (e1.eraseIdx i) (shiftOf i j) h2.one hs
  rw [he] at this
  refine this.mono ?_
  rintro e w3 ⟨rfl, hd3⟩
  obtain ⟨v1'', h3, k3⟩ := h2.dropped hd3
  exact ⟨rfl, v1'', h3, hb2.trans (k3.queue h2.one hb2.size)⟩

theorem seqs_erase2 {es : List (Nat × Array Value)} {zs : List Int} {len : Nat} (hs : seqs es (zs.take len)) (hl : len ≤ zs.length) (i j : Nat) (hij : i ≠ j) : seqs ((es.eraseIdx i).eraseIdx (shiftOf i j)) (kept zs (i : Int) (j : Int) len) := by
  unfold seqs at hs ⊢
  rw [kept_two zs i j hij, kept_one zs i (-1) i rfl len hl (fun t _ => by omega), map_erase, map_erase, map_erase, map_erase, hs]

/-- The last lines: four reads, four drops, two looks. -/
def Chain5 (w : World) (q1 q2 b off len cap i j p1 p2 p3 p4 : Nat) (wr : World) : Prop :=
  Calls Trym.prog 18 #[ptr q1, .int .i64 (i : Int)] wr (fun e w' => e = .returned (ptr p1) ∧ w' = wr) ∧
  Calls Trym.prog 18 #[ptr q1, .int .i64 (j : Int)] wr (fun e w' => e = .returned (ptr p2) ∧ w' = wr) ∧
  Calls Trym.prog 18 #[ptr q2, .int .i64 (i : Int)] wr (fun e w' => e = .returned (ptr p3) ∧ w' = wr) ∧
  Calls Trym.prog 18 #[ptr q2, .int .i64 (j : Int)] wr (fun e w' => e = .returned (ptr p4) ∧ w' = wr) ∧
  Calls Trym.prog 19 #[ptr q1, ptr p1] wr (fun e w2 => e = .returned (.tuple #[]) ∧
    Calls Trym.prog 19 #[ptr q1, ptr p2] w2 (fun e w3 => e = .returned (.tuple #[]) ∧
      Calls Trym.prog 19 #[ptr q2, ptr p4] w3 (fun e w4 => e = .returned (.tuple #[]) ∧
        Calls Trym.prog 19 #[ptr q2, ptr p3] w4 (fun e w5 => e = .returned (.tuple #[]) ∧
          Calls Trym.prog 20 #[ptr q1, .slice (some ⟨b, off, none⟩) len cap, .int .i64 (i : Int), .int .i64 (j : Int)] w5 (fun e w6 => e = .returned (.bool true) ∧
            Calls Trym.prog 20 #[ptr q2, .slice (some ⟨b, off, none⟩) len cap, .int .i64 (i : Int), .int .i64 (j : Int)] w6 (fun e w7 => e = .returned (.bool true) ∧ Below w.heap.size w w7))))))

theorem chain5 (w : World) (q1 m1 q2 m2 b off len cap i j : Nat) (zs : List Int) (wr : World) (hl : len ≤ 131072) (hi : i < len) (hj : j < len) (hij : i ≠ j) (hlz : len ≤ zs.length) (hblt : b < w.heap.size) (hz : ∀ k, k < len → w.cell? ⟨b, off + k, none⟩ = some (.int .u64 (zs.getD k 0)))
    (hf : Filled2 w q1 m1 q2 m2 zs wr len len) : ∃ p1 p2 p3 p4, Chain5 w q1 q2 b off len cap i j p1 p2 p3 p4 wr := by
  obtain ⟨v1, e1, v2, e2, hp, s1, s2, hb⟩ := hf
  have l1 : e1.length = len := by rw [seqs_len s1]; simp; omega
  have l2 : e2.length = len := by rw [seqs_len s2]; simp; omega
  have hml : len ≤ maxLen := by unfold maxLen; omega
  refine ⟨(e1[i]'(by omega)).1, (e1[j]'(by omega)).1, (e2[i]'(by omega)).1, (e2[j]'(by omega)).1, entryAt _ wr q1 v1 m1 e1 i hp.one (by omega) (by omega), entryAt _ wr q1 v1 m1 e1 j hp.one (by omega) (by omega), entryAt _ wr q2 v2 m2 e2 i hp.two (by omega) (by omega), entryAt _ wr q2 v2 m2 e2 j hp.two (by omega) (by omega), (drop2 hp hb i j hij (by omega) (by omega)).mono ?_⟩
  rintro e w2 ⟨rfl, h2⟩
  refine ⟨rfl, h2.mono ?_⟩
  rintro e w3 ⟨rfl, v1', hp3, hb3⟩
  refine ⟨rfl, (drop2 hp3.symm hb3 j i (fun e => hij e.symm) (by omega) (by omega)).mono ?_⟩
  rintro e w4 ⟨rfl, h4⟩
  refine ⟨rfl, h4.mono ?_⟩
  rintro e w5 ⟨rfl, v2', hp5, hb5⟩
  have z5 : ∀ n k, k < len → (w5.drewN n).cell? ⟨b, off + k, none⟩ = some (.int .u64 (zs.getD k 0)) := fun n k hk => (hb5.cell (p := ⟨b, off + k, none⟩) hblt).trans (hz k hk)
  have t1 := seqs_erase2 s1 hlz i j hij
  have t2 := seqs_erase2 s2 hlz j i (fun e => hij e.symm)
  rw [kept_comm] at t2
  have n1 : (((e1.eraseIdx i).eraseIdx (shiftOf i j)).length : Int) = (len : Int) - 1 - 1 := by
    obtain ⟨hs, _⟩ := getElem_erase e1 i j hij (by omega) (by omega)
    rw [List.length_eraseIdx, if_pos hs, List.length_eraseIdx, if_pos (by omega)]; omega
  have n2 : (((e2.eraseIdx j).eraseIdx (shiftOf j i)).length : Int) = (len : Int) - 1 - 1 := by
    obtain ⟨hs, _⟩ := getElem_erase e2 j i (fun e => hij e.symm) (by omega) (by omega)
    rw [List.length_eraseIdx, if_pos hs, List.length_eraseIdx, if_pos (by omega)]; omega
  refine ⟨rfl, (without _ w5 q1 v1' m1 _ b off len cap zs i j hp5.two (z5 0) (by omega) t1 (.inl ⟨by omega, n1⟩)).mono ?_⟩
  rintro e w6 ⟨rfl, n, rfl⟩
  refine ⟨rfl, (without _ (w5.drewN n) q2 v2' m2 _ b off len cap zs i j (hp5.one.drewN n) (z5 n) (by omega) t2 (.inl ⟨by omega, n2⟩)).mono ?_⟩
  rintro e w7 ⟨rfl, n', rfl⟩
  exact ⟨rfl, ⟨hb5.os, hb5.tape, hb5.output, hb5.size, hb5.block⟩⟩

/-- The two new queues. -/
theorem filled2_start {w w1 w2 : World} (zs : List Int) (h1 : Made w w1) (h2 : Made w1 w2) : ∃ m1 m2, Filled2 w (w.heap.size + 3) m1 (w1.heap.size + 3) m2 zs w2 0 0 := by
  obtain ⟨m1, a1, a2, a3, _⟩ := h1.qat
  obtain ⟨m2, b1, b2, b3, _⟩ := h2.qat
  have k : Kept (fun _ => False) w1 w2 := Kept.ofBelow b2 (Nat.le_refl _)
  have q1 := a1.kept k id (fun _ _ => id) (fun _ _ => id)
  have bel : Below w.heap.size w w2 := a2.trans (b2.mono a2.size)
  refine ⟨m1, m2, _, [], _, [], ⟨q1, ⟨by have := b1.lo; omega, b1.blk, World.ownsRow_nil _ _ _ _, b1.ent, b1.nod⟩, by omega, fun k hk => by cases hk⟩, by simp [seqs], by simp [seqs], bel⟩

set_option maxHeartbeats 1000000 in
theorem walk5_main (b off len cap i j : Nat) (zs : List Int) (w : World) (hl : len ≤ 131072) (hi : i < len) (hj : j < len) (hij : i ≠ j) (hlz : len ≤ zs.length) (hz : ∀ k, k < len → w.cell? ⟨b, off + k, none⟩ = some (.int .u64 (zs.getD k 0))) :
    Calls Trym.prog 5 #[.slice (some ⟨b, off, none⟩) len cap, .int .i64 (i : Int), .int .i64 (j : Int)] w fun e w' => e = .returned (.bool true) ∧ Below w.heap.size w w' := by
  have hb21 : Hid (Calls Trym.prog 21 #[.slice (some ⟨b, off, none⟩) len cap, .int .i64 (i : Int), .int .i64 (j : Int)] w fun e w' => e = .returned (.bool true) ∧ w' = w) := by
    have := bytes21 (some ⟨b, off, none⟩) len cap i j w (by unfold maxLen; omega)
    rwa [show decide (len ≤ 1048576) = true by simp; omega] at this
  have hblt : b < w.heap.size := World.block_lt_of_cell? w _ (hz 0 (by omega))
  have Hz : Hid (∀ k, k < len → w.cell? ⟨b, off + k, none⟩ = some (.int .u64 (zs.getD k 0))) := hz
  clear hz
  have hne : ((i : Int) == (j : Int)) = false := by simp; omega
  go_enter Trym.func5, Trym.ntmps5
  go_wp2_with (go_at_call 21; refine hb21.out.mono ?_; rintro e w' ⟨rfl, hw'⟩; have hw'' := hw'.symm; clear hw'; subst hw'')
  refine (newQueue _).mono ?_
  rintro e w1 ⟨rfl, hmade1⟩
  have Hm1 := hide hmade1
  clear hmade1
  go_wp2_with fail
  refine (newQueue _).mono ?_
  rintro e w2 ⟨rfl, hmade2⟩
  obtain ⟨m1, m2, hf0⟩ := filled2_start zs Hm1.out hmade2
  generalize hq1 : w.heap.size + 3 = q1 at *
  generalize hq2 : w1.heap.size + 3 = q2 at *
  have Hf0 := hide hf0
  clear hq1 hq2 hf0 hmade2 Hm1
  go_wp2_with fail
  go_loopw [9] (fun k wr => ∃ c : Nat, k = .int .i64 c ∧ c ≤ len ∧ Hid (Filled2 w q1 m1 q2 m2 zs wr c c)) (fun k _ => len - (intOf k).toNat)
  case atStart => exact ⟨0, rfl, Nat.zero_le _, Hf0⟩
  case round =>
    obtain ⟨c, rfl, hc, hf⟩ := hrel
    by_cases hlt : c < len
    · have hcell : wr.cell? ⟨b, off + c, none⟩ = some (.int .u64 (zs.getD c 0)) := by
        obtain ⟨v1, e1, v2, e2, _, _, _, hbel⟩ := hf.out
        exact (hbel.cell (p := ⟨b, off + c, none⟩) hblt).trans (Hz.out c hlt)
      have hp1 := hide (push2 hf.out (by omega) (by omega) ⟨#[115, 116, 111, 114, 101, 100]⟩ ⟨#[]⟩ none 0 0)
      go_wp2_with fail
      refine hp1.out.mono ?_
      rintro e w3 ⟨rfl, hf3⟩
      have hcell3 : w3.cell? ⟨b, off + c, none⟩ = some (.int .u64 (zs.getD c 0)) := by
        obtain ⟨v1, e1, v2, e2, _, _, _, hbel⟩ := hf3
        exact (hbel.cell (p := ⟨b, off + c, none⟩) hblt).trans (Hz.out c hlt)
      have hp2 := hide (push2 hf3.symm (by omega) (by omega) ⟨#[115, 116, 111, 114, 101, 100]⟩ ⟨#[]⟩ none 0 0)
      clear hf3
      go_wp2_with fail
      refine hp2.out.mono ?_
      rintro e w4 ⟨rfl, hf4⟩
      have Hf4 := hide hf4.symm
      clear hf4
      go_wp2_with fail
      go_roundw
      case rel => exact ⟨c + 1, by go_num, by omega, Hf4⟩
      case measure => simp [intOf]; omega
    · obtain rfl : c = len := by omega
      obtain ⟨p1, p2, p3, p4, h1, h2, h3, h4, h5⟩ := chain5 w q1 m1 q2 m2 b off c cap i j zs wr hl hi hj hij hlz hblt Hz.out hf.out
      have H1 := hide h1
      have H2 := hide h2
      have H3 := hide h3
      have H4 := hide h4
      have H5 := hide h5
      clear h1 h2 h3 h4 h5
      go_wp2_with fail
      refine H1.out.mono ?_
      rintro e w' ⟨rfl, hw'⟩
      have hw'' := hw'.symm
      clear hw'
      subst hw''
      go_wp2_with fail
      refine H2.out.mono ?_
      rintro e w' ⟨rfl, hw'⟩
      have hw'' := hw'.symm
      clear hw'
      subst hw''
      go_wp2_with fail
      refine H3.out.mono ?_
      rintro e w' ⟨rfl, hw'⟩
      have hw'' := hw'.symm
      clear hw'
      subst hw''
      go_wp2_with fail
      refine H4.out.mono ?_
      rintro e w' ⟨rfl, hw'⟩
      have hw'' := hw'.symm
      clear hw'
      subst hw''
      go_wp2_with fail
      refine H5.out.mono ?_
      rintro e x2 ⟨rfl, h6⟩
      have H6 := hide h6
      clear h6
      go_wp2_with fail
      refine H6.out.mono ?_
      rintro e x3 ⟨rfl, h7⟩
      have H7 := hide h7
      clear h7
      go_wp2_with fail
      refine H7.out.mono ?_
      rintro e x4 ⟨rfl, h8⟩
      have H8 := hide h8
      clear h8
      go_wp2_with fail
      refine H8.out.mono ?_
      rintro e x5 ⟨rfl, h9⟩
      have H9 := hide h9
      clear h9
      go_wp2_with fail
      refine H9.out.mono ?_
      rintro e x6 ⟨rfl, h10⟩
      have H10 := hide h10
      clear h10
      go_wp2_with fail
      refine H10.out.mono ?_
      rintro e x7 ⟨rfl, hend⟩
      go_wp2
      go_ret
      exact ⟨rfl, hend⟩
end Go.Proofs.Qxb6614569aMods
