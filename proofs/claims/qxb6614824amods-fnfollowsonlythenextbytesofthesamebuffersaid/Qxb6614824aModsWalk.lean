/-
  Walk: FnFollowsOnlyTheNextBytesOfTheSameBuffer (3).
-/
import Derived.Test.Qxb6614824aModsBase
import Derived.Deep.RegionHeld3
import Derived.Deep.Slices
namespace Go.Proofs.Qxb6614824aMods
open Go.RowKit
set_option linter.unusedVariables false

/-- The variable in block b holds the fragment. -/
def VarAt (w : World) (b : Nat) (a : Option Addr) (l c : Nat) (at_ n t : Int) (r : Bool) : Prop :=
  w.cell? ⟨b, 0, none⟩ = some (.slice a l c) ∧ w.cell? ⟨b, 1, none⟩ = some (.int .i64 at_) ∧ w.cell? ⟨b, 2, none⟩ = some (.int .i64 n) ∧ w.cell? ⟨b, 3, none⟩ = some (.int .u8 t) ∧ w.cell? ⟨b, 4, none⟩ = some (.bool r)
theorem VarAt.up {w w' : World} {b : Nat} {a : Option Addr} {l c : Nat} {at_ n t : Int} {r : Bool} (h : VarAt w b a l c at_ n t r) (hb : Below w.heap.size w w') : VarAt w' b a l c at_ n t r := by
  have hlt : b < w.heap.size := World.block_lt_of_cell? w ⟨b, 0, none⟩ h.1
  obtain ⟨h0, h1, h2, h3, h4⟩ := h
  exact ⟨(hb.cell (p := ⟨b, 0, none⟩) hlt).trans h0, (hb.cell (p := ⟨b, 1, none⟩) hlt).trans h1, (hb.cell (p := ⟨b, 2, none⟩) hlt).trans h2, (hb.cell (p := ⟨b, 3, none⟩) hlt).trans h3, (hb.cell (p := ⟨b, 4, none⟩) hlt).trans h4⟩
theorem varAt_new (w : World) (a : Option Addr) (l c : Nat) (at_ n t : Int) (r : Bool) : VarAt (w.alloc (.cells #[.slice a l c, .int .i64 at_, .int .i64 n, .int .u8 t, .bool r] 27)) w.heap.size a l c at_ n t r := by
  have h := heap_alloc_new w (.cells #[.slice a l c, .int .i64 at_, .int .i64 n, .int .u8 t, .bool r] 27)
  refine ⟨?_, ?_, ?_, ?_, ?_⟩ <;> simp only [World.cell?, h] <;> rfl

theorem step_below {w2 W W' : World} (h : Below w2.heap.size w2 W) (k : Below W.heap.size W W') : Below w2.heap.size w2 W' := h.trans (k.mono h.size)
theorem step_alloc {w2 W : World} (h : Below w2.heap.size w2 W) (o : Obj) : Below w2.heap.size w2 (W.alloc o) := h.alloc h.size o

theorem below_drewN' {B : Nat} {a w : World} (h : Below B a w) (n : Nat) : Below B a (w.drewN n) := ⟨h.os, h.tape, h.output, h.size, h.block⟩
theorem wrapI (x : Int) (h0 : -9000000 ≤ x) (h1 : x ≤ 9000000) : IntKind.i64.wrap x = x := by
  rw [IntKind.wrap_i64]; omega

theorem frag6' (w : World) (a : Option Addr) (l c : Nat) (at_ n t : Int) (r : Bool) :
    Calls Trym.prog 6 #[.slice a l c, .int .i64 at_, .int .i64 n, .int .u8 t, .bool r] w fun e w' => e = .returned (.agg #[.slice a l c, .int .i64 at_, .int .i64 n, .int .u8 t, .bool r]) ∧ Below w.heap.size w w' :=
  (frag6 w a l c at_ n t r).mono fun e w' h => ⟨h.1, h.2 ▸ (Below.refl _ _).alloc (Nat.le_refl _) _⟩

set_option maxHeartbeats 1000000 in
theorem walk3_short (w : World) (a : Option Addr) (len cap : Nat) (at_ m n et ft : Int) (er fr : Bool) (hm : len ≤ maxLen) (h : ¬ (len ≤ 1048576 ∧ 0 ≤ at_ ∧ 0 ≤ m ∧ 0 ≤ n ∧ at_ + m + n ≤ len)) :
    Calls Trym.prog 3 #[.slice a len cap, .int .i64 at_, .int .i64 m, .int .i64 n, .int .u8 et, .int .u8 ft, .bool er, .bool fr] w fun e w' => e = .returned (.bool true) ∧ w' = w := by
  have hb : Hid (Calls Trym.prog 4 #[.slice a len cap, .int .i64 at_, .int .i64 m, .int .i64 n, .int .u8 et, .int .u8 ft, .bool er, .bool fr] w fun e w' => e = .returned (.bool (decide (len ≤ 1048576))) ∧ w' = w) := bytes4 a len cap _ _ _ _ _ _ _ w hm
  by_cases h0 : len ≤ 1048576
  · have hd : decide (len ≤ 1048576) = true := by simp [h0]
    rw [hd] at hb
    clear hd hm
    by_cases h1 : at_ < 0
    · clear h
      go_enter Trym.func3, Trym.ntmps3
      go_wp2_with (go_at_call 4; refine hb.out.mono ?_; rintro e w' ⟨rfl, hw'⟩; have hw'' := hw'.symm; clear hw'; subst hw'')
      go_ret
      exact ⟨rfl, rfl⟩
    · by_cases h2 : m < 0
      · clear h
        go_enter Trym.func3, Trym.ntmps3
        go_wp2_with (go_at_call 4; refine hb.out.mono ?_; rintro e w' ⟨rfl, hw'⟩; have hw'' := hw'.symm; clear hw'; subst hw'')
        go_ret
        exact ⟨rfl, rfl⟩
      · by_cases h3 : n < 0
        · clear h
          go_enter Trym.func3, Trym.ntmps3
          go_wp2_with (go_at_call 4; refine hb.out.mono ?_; rintro e w' ⟨rfl, hw'⟩; have hw'' := hw'.symm; clear hw'; subst hw'')
          go_ret
          exact ⟨rfl, rfl⟩
        · by_cases h4 : (len : Int) < at_
          · clear h
            go_enter Trym.func3, Trym.ntmps3
            go_wp2_with (go_at_call 4; refine hb.out.mono ?_; rintro e w' ⟨rfl, hw'⟩; have hw'' := hw'.symm; clear hw'; subst hw'')
            go_ret
            exact ⟨rfl, rfl⟩
          · by_cases h5 : (len : Int) - at_ < m
            · clear h
              go_enter Trym.func3, Trym.ntmps3
              go_wp2_with (go_at_call 4; refine hb.out.mono ?_; rintro e w' ⟨rfl, hw'⟩; have hw'' := hw'.symm; clear hw'; subst hw'')
              go_ret
              exact ⟨rfl, rfl⟩
            · have h6 : (len : Int) - at_ - m < n := by omega
              clear h
              go_enter Trym.func3, Trym.ntmps3
              go_wp2_with (go_at_call 4; refine hb.out.mono ?_; rintro e w' ⟨rfl, hw'⟩; have hw'' := hw'.symm; clear hw'; subst hw'')
              go_ret
              exact ⟨rfl, rfl⟩
  · have hd : decide (len ≤ 1048576) = false := by simp [h0]
    rw [hd] at hb
    clear h hd h0
    go_enter Trym.func3, Trym.ntmps3
    go_wp2_with (go_at_call 4; refine hb.out.mono ?_; rintro e w' ⟨rfl, hw'⟩; have hw'' := hw'.symm; clear hw'; subst hw'')
    go_ret
    exact ⟨rfl, rfl⟩

set_option maxHeartbeats 4000000 in
set_option maxRecDepth 100000 in
theorem walk3_main (w : World) (a : Option Addr) (len cap : Nat) (at_ m n et ft : Int) (er fr : Bool) (Z : Nat → Int) (h0 : len ≤ 1048576) (h1 : 0 ≤ at_) (h2 : 0 ≤ m) (h3 : 0 ≤ n) (h4 : at_ + m + n ≤ len) (hn : a = none → len = 0)
    (hc : ∀ k, k < len → ∃ x, a = some x ∧ w.cell? (x.add k) = some (.int .u8 (Z k))) :
    Calls Trym.prog 3 #[.slice a len cap, .int .i64 at_, .int .i64 m, .int .i64 n, .int .u8 et, .int .u8 ft, .bool er, .bool fr] w fun e w' => e = .returned (.bool true) ∧ Below w.heap.size w w' := by
  have hb : Hid (Calls Trym.prog 4 #[.slice a len cap, .int .i64 at_, .int .i64 m, .int .i64 n, .int .u8 et, .int .u8 ft, .bool er, .bool fr] w fun e w' => e = .returned (.bool true) ∧ w' = w) := by
    have := bytes4 a len cap (.int .i64 at_) (.int .i64 m) (.int .i64 n) (.int .u8 et) (.int .u8 ft) (.bool er) (.bool fr) w (by unfold maxLen; omega)
    rwa [show decide (len ≤ 1048576) = true by simp [h0]] at this
  have hcl := hide (clone5 w a len cap Z hn (by omega) hc)
  clear hn hc
  have hAt : ¬ (len : Int) < at_ := by omega
  have hM : ¬ (len : Int) - at_ < m := by omega
  have hN : ¬ (len : Int) - at_ - m < n := by omega
  go_enter Trym.func3, Trym.ntmps3
  go_wp2_with (go_at_call 4; refine hb.out.mono ?_; rintro e w' ⟨rfl, hw'⟩; have hw'' := hw'.symm; clear hw'; subst hw'')
  refine hcl.out.mono ?_
  rintro e w1 ⟨a1, c1, rfl, hg1, hb1⟩
  obtain ⟨Z2, hZ2⟩ : ∃ Z2 : Nat → Int, ∀ k, k < len → ∃ x, a1 = some x ∧ w1.cell? (x.add k) = some (.int .u8 (Z2 k)) := by
    refine Go.Deep.choose_lt (α := Int) (p := fun k z => ∃ x, a1 = some x ∧ w1.cell? (x.add k) = some (.int .u8 z)) (fun k hk => ?_)
    obtain ⟨g, e, hbt, _⟩ := hg1 (by omega)
    obtain ⟨z, hz⟩ := hbt.2 k hk
    exact ⟨z, ⟨g, 0, none⟩, e, by rw [Addr.add_lit, Nat.zero_add]; exact hz⟩
  have hcl2 := hide (clone5 w1 a1 len c1 Z2 (fun ha => by
    rcases Nat.eq_zero_or_pos len with h | h
    · exact h
    · obtain ⟨g, e, _⟩ := hg1 h; rw [ha] at e; cases e) (by omega) hZ2)
  clear hZ2
  have Hg1 := hide hg1
  have Hb1 := hide hb1
  clear hg1 hb1
  go_wp2_with fail
  refine hcl2.out.mono ?_
  rintro e w2 ⟨a2, c2, rfl, hg2, hb2⟩
  have Hg2 := hide hg2
  have Hb2 := hide hb2
  clear hg2 hb2
  go_wp2_with fail
  refine (frag6' _ _ _ _ _ _ _ _).mono ?_
  rintro e w3 ⟨rfl, hb3⟩
  have Hb3 := hide hb3
  clear hb3
  have HB3 := hide (step_below (Below.refl w2.heap.size w2) Hb3.out)
  clear Hb3
  go_wp2_with fail
  have V1 := hide (varAt_new w3 a1 len c1 at_ m et er)
  have HB4 := hide (step_alloc HB3.out (.cells #[.slice a1 len c1, .int .i64 at_, .int .i64 m, .int .u8 et, .bool er] 27))
  generalize World.alloc w3 (.cells #[.slice a1 len c1, .int .i64 at_, .int .i64 m, .int .u8 et, .bool er] 27) = W4 at *
  generalize w3.heap.size = eb at *
  clear HB3
  refine (frag6' _ _ _ _ _ _ _ _).mono ?_
  rintro e w4 ⟨rfl, hb⟩
  have HB4' := hide (step_below HB4.out hb)
  have V1b := hide (V1.out.up hb)
  clear hb HB4 V1
  go_wp2_with fail
  have V2 := hide (varAt_new w4 a1 len c1 (at_ + m) n ft fr)
  have HB5 := hide (step_alloc HB4'.out (.cells #[.slice a1 len c1, .int .i64 (at_ + m), .int .i64 n, .int .u8 ft, .bool fr] 27))
  have V1b' := hide (V1b.out.up ((Below.refl w4.heap.size w4).alloc (Nat.le_refl _) (.cells #[.slice a1 len c1, .int .i64 (at_ + m), .int .i64 n, .int .u8 ft, .bool fr] 27)))
  clear V1b
  generalize World.alloc w4 (.cells #[.slice a1 len c1, .int .i64 (at_ + m), .int .i64 n, .int .u8 ft, .bool fr] 27) = W5 at *
  generalize w4.heap.size = fb at *
  clear HB4'
  refine (frag6' _ _ _ _ _ _ _ _).mono ?_
  rintro e w5 ⟨rfl, hb⟩
  have HB5' := hide (step_below HB5.out hb)
  have V1c := hide (V1b'.out.up hb)
  have V2c := hide (V2.out.up hb)
  clear hb HB5 V1b' V2
  have hx : ∀ o : Obj, Below w5.heap.size w5 (w5.alloc o) := fun o => (Below.refl _ _).alloc (Nat.le_refl _) o
  have x0 := fun o => (V1c.out.up (hx o)).1
  have x1 := fun o => (V1c.out.up (hx o)).2.1
  have x2 := fun o => (V1c.out.up (hx o)).2.2.1
  have x3 := fun o => (V1c.out.up (hx o)).2.2.2.1
  have x4 := fun o => (V1c.out.up (hx o)).2.2.2.2
  have y0 := fun o => (V2c.out.up (hx o)).1
  have y1 := fun o => (V2c.out.up (hx o)).2.1
  have y2 := fun o => (V2c.out.up (hx o)).2.2.1
  have y3 := fun o => (V2c.out.up (hx o)).2.2.2.1
  have y4 := fun o => (V2c.out.up (hx o)).2.2.2.2
  clear hx
  have hin : 0 < m → 0 < n → (∃ g, a1 = some ⟨g, 0, none⟩) ∧ 0 < len ∧ 0 < len := fun hm _ => by
    have hl : 0 < len := by omega
    obtain ⟨g, e, _⟩ := Hg1.out hl
    exact ⟨⟨g, e⟩, hl, hl⟩
  have hin' : 0 < n → 0 < m → (∃ g, a1 = some ⟨g, 0, none⟩) ∧ 0 < len ∧ 0 < len := fun hn hm => hin hm hn
  have hother : ∀ W, Below w2.heap.size w2 W → 0 < m → 0 < n → (∃ g1 g2, a2 = some ⟨g1, 0, none⟩ ∧ a1 = some ⟨g2, 0, none⟩ ∧ g2 ≠ g1 ∧ (∃ cs, W.heap[g1]? = some (.cells cs 5 (0, 0))) ∧ ∃ cs, W.heap[g2]? = some (.cells cs 5 (0, 0))) ∧ 0 < len ∧ 0 < len := fun W hW hm hn => by
    have hl : 0 < len := by omega
    obtain ⟨g2, e2, hb2, _⟩ := Hg1.out hl
    obtain ⟨g1, e1, hb1, hlo⟩ := Hg2.out hl
    have h2' := (hb2.up Hb2.out).up hW
    have h1' := hb1.up hW
    exact ⟨⟨g1, g2, e1, e2, by have := hb2.lt; omega, h1'.1, h2'.1⟩, hl, hl⟩
  have Hin2 : Hid (∀ y : Int, 0 < m → 0 < y → (∃ g, a1 = some ⟨g, 0, none⟩) ∧ 0 < len ∧ 0 < len) := fun y hm _ => by
    have hl : 0 < len := by omega
    obtain ⟨g, e, _⟩ := Hg1.out hl
    exact ⟨⟨g, e⟩, hl, hl⟩
  have Hin := hide hin
  have Hin' := hide hin'
  have Hother := hide hother
  clear hin hin' hother
  rcases (by omega : (0 < m ∧ 0 < n) ∨ ¬ 0 < m ∨ (0 < m ∧ ¬ 0 < n)) with ⟨hm0, hn0⟩ | hm0 | ⟨hm0, hn0⟩
  · go_wp2_with fail
    clear x0 x1 x2 x3 x4 y0 y1 y2 y3 y4
    have V3 := hide (varAt_new w5 a2 len c2 (at_ + m) n ft fr)
    have HB6 := hide (step_alloc HB5'.out (.cells #[.slice a2 len c2, .int .i64 (at_ + m), .int .i64 n, .int .u8 ft, .bool fr] 27))
    have V1d := hide (V1c.out.up ((Below.refl w5.heap.size w5).alloc (Nat.le_refl _) (.cells #[.slice a2 len c2, .int .i64 (at_ + m), .int .i64 n, .int .u8 ft, .bool fr] 27)))
    have V2d := hide (V2c.out.up ((Below.refl w5.heap.size w5).alloc (Nat.le_refl _) (.cells #[.slice a2 len c2, .int .i64 (at_ + m), .int .i64 n, .int .u8 ft, .bool fr] 27)))
    clear V1c V2c HB5'
    generalize World.alloc w5 (.cells #[.slice a2 len c2, .int .i64 (at_ + m), .int .i64 n, .int .u8 ft, .bool fr] 27) = W6 at *
    generalize w5.heap.size = lb at *
    have h71 := fol_same W6 a1 len c1 len c1 (at_ + m) n ft at_ m et fr er Hin.out (by omega) (by omega) (by omega)
    rw [show decide (0 < m ∧ 0 < n ∧ at_ + m = at_ + m) = true by simp; omega] at h71
    unfold frag at h71
    refine h71.mono ?_
    clear h71
    rintro e W7 ⟨rfl, hb⟩
    have HB7 := hide (step_below HB6.out hb)
    have V1e := hide (V1d.out.up hb)
    have V2e := hide (V2d.out.up hb)
    have V3e := hide (V3.out.up hb)
    clear hb HB6 V1d V2d V3
    obtain ⟨q0, q1, q2, q3, q4⟩ := V1e.out
    obtain ⟨r0, r1, r2, r3, r4⟩ := V2e.out
    go_wp2_with fail
    clear q0 q1 q2 q3 q4 r0 r1 r2 r3 r4
    have h72 := fol_same W7 a1 len c1 len c1 at_ m et (at_ + m) n ft er fr Hin'.out (by omega) (by omega) (by omega)
    rw [show decide (0 < n ∧ 0 < m ∧ at_ + m + n = at_) = false by simp; omega] at h72
    unfold frag at h72
    refine h72.mono ?_
    clear h72
    rintro e W8 ⟨rfl, hb⟩
    have HB8 := hide (step_below HB7.out hb)
    have V1f := hide (V1e.out.up hb)
    have V3f := hide (V3e.out.up hb)
    clear hb HB7 V1e V2e V3e
    obtain ⟨q0, q1, q2, q3, q4⟩ := V1f.out
    obtain ⟨r0, r1, r2, r3, r4⟩ := V3f.out
    go_wp2_with fail
    clear q0 q1 q2 q3 q4 r0 r1 r2 r3 r4
    have h73 := fol_other W8 a2 a1 len c2 len c1 (at_ + m) n ft at_ m et fr er (Hother.out W8 HB8.out)
    unfold frag at h73
    refine h73.mono ?_
    clear h73
    rintro e W9 ⟨rfl, hb⟩
    have HB9 := hide (step_below HB8.out hb)
    have V1g := hide (V1f.out.up hb)
    clear hb HB8 V1f V3f
    go_wp2_with fail
    by_cases hgn : 2 ≤ n
    · have h7n : Hid (∀ W, Calls Trym.prog 7 #[.agg #[.slice a1 len c1, .int .i64 (IntKind.i64.wrap (IntKind.i64.wrap (at_ + m) + 1)), .int .i64 (IntKind.i64.wrap (n - 1)), .int .u8 ft, .bool fr], .agg #[.slice a1 len c1, .int .i64 at_, .int .i64 m, .int .u8 et, .bool er]] W fun e w' => e = .returned (.bool false) ∧ Below W.heap.size W w') := fun W => by
        have := fol_same W a1 len c1 len c1 (at_ + m + 1) (n - 1) ft at_ m et fr er (Hin2.out _) (by omega) (by omega) (by omega)
        rw [show decide (0 < m ∧ 0 < n - 1 ∧ at_ + m = at_ + m + 1) = false by simp; omega] at this
        rw [show IntKind.i64.wrap (IntKind.i64.wrap (at_ + m) + 1) = at_ + m + 1 by rw [wrapI (at_ + m) (by omega) (by omega)]; exact wrapI _ (by omega) (by omega), show IntKind.i64.wrap (n - 1) = n - 1 from wrapI _ (by omega) (by omega)]
        exact this
      obtain ⟨q0, q1, q2, q3, q4⟩ := V1g.out
      go_region_held3 (fun w' => w'.cell? ⟨eb, 0, none⟩ = some (.slice a1 len c1) ∧ w'.cell? ⟨eb, 1, none⟩ = some (.int .i64 at_) ∧ w'.cell? ⟨eb, 2, none⟩ = some (.int .i64 m) ∧ w'.cell? ⟨eb, 3, none⟩ = some (.int .u8 et) ∧ w'.cell? ⟨eb, 4, none⟩ = some (.bool er)) (first | exact hSYn | exact hSXn | exact ⟨q0, q1, q2, q3, q4⟩) (first | (go_at_call 6; refine (frag6' _ _ _ _ _ _ _ _).mono ?_; rintro e Xn ⟨rfl, hbXn⟩; have hSXn := VarAt.up (w := World.drew W9) V1g.out hbXn) | (go_at_call 7; refine (h7n.out _).mono ?_; rintro e Yn ⟨rfl, hbYn⟩; have hSYn := VarAt.up (w := Xn) hSXn hbYn))
      have HBYn := hide (step_below (step_below (W := World.drew W9) HB9.out.drew hbXn) hbYn)
      have VYn : Hid (VarAt Yn eb a1 len c1 at_ m et er) := hSYn
      clear hSXn hSYn hbXn hbYn q0 q1 q2 q3 q4 h7n HB9 V1g
      go_wp2_with fail
      by_cases hgma : 2 ≤ m
      · have h7ma : Hid (∀ W, Calls Trym.prog 7 #[.agg #[.slice a1 len c1, .int .i64 (IntKind.i64.wrap (IntKind.i64.wrap (at_ + m) - 1)), .int .i64 (IntKind.i64.wrap (n + 1)), .int .u8 ft, .bool fr], .agg #[.slice a1 len c1, .int .i64 at_, .int .i64 m, .int .u8 et, .bool er]] W fun e w' => e = .returned (.bool false) ∧ Below W.heap.size W w') := fun W => by
          have := fol_same W a1 len c1 len c1 (at_ + m - 1) (n + 1) ft at_ m et fr er (Hin2.out _) (by omega) (by omega) (by omega)
          rw [show decide (0 < m ∧ 0 < n + 1 ∧ at_ + m = at_ + m - 1) = false by simp; omega] at this
          rw [show IntKind.i64.wrap (IntKind.i64.wrap (at_ + m) - 1) = at_ + m - 1 by rw [wrapI (at_ + m) (by omega) (by omega)]; exact wrapI _ (by omega) (by omega), show IntKind.i64.wrap (n + 1) = n + 1 from wrapI _ (by omega) (by omega)]
          exact this
        obtain ⟨q0, q1, q2, q3, q4⟩ := VYn.out
        go_region_held3 (fun w' => w'.cell? ⟨eb, 0, none⟩ = some (.slice a1 len c1) ∧ w'.cell? ⟨eb, 1, none⟩ = some (.int .i64 at_) ∧ w'.cell? ⟨eb, 2, none⟩ = some (.int .i64 m) ∧ w'.cell? ⟨eb, 3, none⟩ = some (.int .u8 et) ∧ w'.cell? ⟨eb, 4, none⟩ = some (.bool er)) (first | exact hSYma | exact hSXma | exact ⟨q0, q1, q2, q3, q4⟩) (first | (go_at_call 6; refine (frag6' _ _ _ _ _ _ _ _).mono ?_; rintro e Xma ⟨rfl, hbXma⟩; have hSXma := VarAt.up (w := World.drew Yn) VYn.out hbXma) | (go_at_call 7; refine (h7ma.out _).mono ?_; rintro e Yma ⟨rfl, hbYma⟩; have hSYma := VarAt.up (w := Xma) hSXma hbYma))
        have HBYma := hide (step_below (step_below (W := World.drew Yn) HBYn.out.drew hbXma) hbYma)
        have VYma : Hid (VarAt Yma eb a1 len c1 at_ m et er) := hSYma
        clear hSXma hSYma hbXma hbYma q0 q1 q2 q3 q4 h7ma HBYn VYn
        go_wp2_with fail
        go_ret
        exact ⟨rfl, (Hb1.out.trans (Hb2.out.mono Hb1.out.size)).trans (HBYma.out.mono (Nat.le_trans Hb1.out.size Hb2.out.size))⟩
      · have hdma : decide (2 ≤ m) = false := by simp; omega
        go_quiet (fail)
        have HBNma := hide (below_drewN' HBYn.out nq)
        have VNma : Hid (VarAt (Yn.drewN nq) eb a1 len c1 at_ m et er) := VYn.out
        clear HBYn VYn
        generalize hWNma : Yn.drewN nq = Nma at *
        clear hWNma hdma
        go_wp2_with fail
        go_ret
        exact ⟨rfl, (Hb1.out.trans (Hb2.out.mono Hb1.out.size)).trans (HBNma.out.mono (Nat.le_trans Hb1.out.size Hb2.out.size))⟩
    · have hdn : decide (2 ≤ n) = false := by simp; omega
      go_quiet (fail)
      have HBNn := hide (below_drewN' HB9.out nq)
      have VNn : Hid (VarAt (W9.drewN nq) eb a1 len c1 at_ m et er) := V1g.out
      clear HB9 V1g
      generalize hWNn : W9.drewN nq = Nn at *
      clear hWNn hdn
      go_wp2_with fail
      by_cases hgmb : 2 ≤ m
      · have h7mb : Hid (∀ W, Calls Trym.prog 7 #[.agg #[.slice a1 len c1, .int .i64 (IntKind.i64.wrap (IntKind.i64.wrap (at_ + m) - 1)), .int .i64 (IntKind.i64.wrap (n + 1)), .int .u8 ft, .bool fr], .agg #[.slice a1 len c1, .int .i64 at_, .int .i64 m, .int .u8 et, .bool er]] W fun e w' => e = .returned (.bool false) ∧ Below W.heap.size W w') := fun W => by
          have := fol_same W a1 len c1 len c1 (at_ + m - 1) (n + 1) ft at_ m et fr er (Hin2.out _) (by omega) (by omega) (by omega)
          rw [show decide (0 < m ∧ 0 < n + 1 ∧ at_ + m = at_ + m - 1) = false by simp; omega] at this
          rw [show IntKind.i64.wrap (IntKind.i64.wrap (at_ + m) - 1) = at_ + m - 1 by rw [wrapI (at_ + m) (by omega) (by omega)]; exact wrapI _ (by omega) (by omega), show IntKind.i64.wrap (n + 1) = n + 1 from wrapI _ (by omega) (by omega)]
          exact this
        obtain ⟨q0, q1, q2, q3, q4⟩ := VNn.out
        go_region_held3 (fun w' => w'.cell? ⟨eb, 0, none⟩ = some (.slice a1 len c1) ∧ w'.cell? ⟨eb, 1, none⟩ = some (.int .i64 at_) ∧ w'.cell? ⟨eb, 2, none⟩ = some (.int .i64 m) ∧ w'.cell? ⟨eb, 3, none⟩ = some (.int .u8 et) ∧ w'.cell? ⟨eb, 4, none⟩ = some (.bool er)) (first | exact hSYmb | exact hSXmb | exact ⟨q0, q1, q2, q3, q4⟩) (first | (go_at_call 6; refine (frag6' _ _ _ _ _ _ _ _).mono ?_; rintro e Xmb ⟨rfl, hbXmb⟩; have hSXmb := VarAt.up (w := World.drew Nn) VNn.out hbXmb) | (go_at_call 7; refine (h7mb.out _).mono ?_; rintro e Ymb ⟨rfl, hbYmb⟩; have hSYmb := VarAt.up (w := Xmb) hSXmb hbYmb))
        have HBYmb := hide (step_below (step_below (W := World.drew Nn) HBNn.out.drew hbXmb) hbYmb)
        have VYmb : Hid (VarAt Ymb eb a1 len c1 at_ m et er) := hSYmb
        clear hSXmb hSYmb hbXmb hbYmb q0 q1 q2 q3 q4 h7mb HBNn VNn
        go_wp2_with fail
        go_ret
        exact ⟨rfl, (Hb1.out.trans (Hb2.out.mono Hb1.out.size)).trans (HBYmb.out.mono (Nat.le_trans Hb1.out.size Hb2.out.size))⟩
      · have hdmb : decide (2 ≤ m) = false := by simp; omega
        go_quiet (fail)
        have HBNmb := hide (below_drewN' HBNn.out nq)
        have VNmb : Hid (VarAt (Nn.drewN nq) eb a1 len c1 at_ m et er) := VNn.out
        clear HBNn VNn
        generalize hWNmb : Nn.drewN nq = Nmb at *
        clear hWNmb hdmb
        go_wp2_with fail
        go_ret
        exact ⟨rfl, (Hb1.out.trans (Hb2.out.mono Hb1.out.size)).trans (HBNmb.out.mono (Nat.le_trans Hb1.out.size Hb2.out.size))⟩
  · go_wp2_with fail
    clear x0 x1 x2 x3 x4 y0 y1 y2 y3 y4
    have V3 := hide (varAt_new w5 a2 len c2 (at_ + m) n ft fr)
    have HB6 := hide (step_alloc HB5'.out (.cells #[.slice a2 len c2, .int .i64 (at_ + m), .int .i64 n, .int .u8 ft, .bool fr] 27))
    have V1d := hide (V1c.out.up ((Below.refl w5.heap.size w5).alloc (Nat.le_refl _) (.cells #[.slice a2 len c2, .int .i64 (at_ + m), .int .i64 n, .int .u8 ft, .bool fr] 27)))
    have V2d := hide (V2c.out.up ((Below.refl w5.heap.size w5).alloc (Nat.le_refl _) (.cells #[.slice a2 len c2, .int .i64 (at_ + m), .int .i64 n, .int .u8 ft, .bool fr] 27)))
    clear V1c V2c HB5'
    generalize World.alloc w5 (.cells #[.slice a2 len c2, .int .i64 (at_ + m), .int .i64 n, .int .u8 ft, .bool fr] 27) = W6 at *
    generalize w5.heap.size = lb at *
    have h71 := fol_same W6 a1 len c1 len c1 (at_ + m) n ft at_ m et fr er Hin.out (by omega) (by omega) (by omega)
    rw [show decide (0 < m ∧ 0 < n ∧ at_ + m = at_ + m) = false by simp; omega] at h71
    unfold frag at h71
    refine h71.mono ?_
    clear h71
    rintro e W7 ⟨rfl, hb⟩
    have HB7 := hide (step_below HB6.out hb)
    have V1e := hide (V1d.out.up hb)
    have V2e := hide (V2d.out.up hb)
    have V3e := hide (V3.out.up hb)
    clear hb HB6 V1d V2d V3
    obtain ⟨q0, q1, q2, q3, q4⟩ := V1e.out
    obtain ⟨r0, r1, r2, r3, r4⟩ := V2e.out
    go_wp2_with fail
    clear q0 q1 q2 q3 q4 r0 r1 r2 r3 r4
    have h72 := fol_same W7 a1 len c1 len c1 at_ m et (at_ + m) n ft er fr Hin'.out (by omega) (by omega) (by omega)
    rw [show decide (0 < n ∧ 0 < m ∧ at_ + m + n = at_) = false by simp; omega] at h72
    unfold frag at h72
    refine h72.mono ?_
    clear h72
    rintro e W8 ⟨rfl, hb⟩
    have HB8 := hide (step_below HB7.out hb)
    have V1f := hide (V1e.out.up hb)
    have V3f := hide (V3e.out.up hb)
    clear hb HB7 V1e V2e V3e
    obtain ⟨q0, q1, q2, q3, q4⟩ := V1f.out
    obtain ⟨r0, r1, r2, r3, r4⟩ := V3f.out
    go_wp2_with fail
    clear q0 q1 q2 q3 q4 r0 r1 r2 r3 r4
    have h73 := fol_other W8 a2 a1 len c2 len c1 (at_ + m) n ft at_ m et fr er (Hother.out W8 HB8.out)
    unfold frag at h73
    refine h73.mono ?_
    clear h73
    rintro e W9 ⟨rfl, hb⟩
    have HB9 := hide (step_below HB8.out hb)
    have V1g := hide (V1f.out.up hb)
    clear hb HB8 V1f V3f
    go_wp2_with fail
    by_cases hgn : 2 ≤ n
    · have h7n : Hid (∀ W, Calls Trym.prog 7 #[.agg #[.slice a1 len c1, .int .i64 (IntKind.i64.wrap (IntKind.i64.wrap (at_ + m) + 1)), .int .i64 (IntKind.i64.wrap (n - 1)), .int .u8 ft, .bool fr], .agg #[.slice a1 len c1, .int .i64 at_, .int .i64 m, .int .u8 et, .bool er]] W fun e w' => e = .returned (.bool false) ∧ Below W.heap.size W w') := fun W => by
        have := fol_same W a1 len c1 len c1 (at_ + m + 1) (n - 1) ft at_ m et fr er (Hin2.out _) (by omega) (by omega) (by omega)
        rw [show decide (0 < m ∧ 0 < n - 1 ∧ at_ + m = at_ + m + 1) = false by simp; omega] at this
        rw [show IntKind.i64.wrap (IntKind.i64.wrap (at_ + m) + 1) = at_ + m + 1 by rw [wrapI (at_ + m) (by omega) (by omega)]; exact wrapI _ (by omega) (by omega), show IntKind.i64.wrap (n - 1) = n - 1 from wrapI _ (by omega) (by omega)]
        exact this
      obtain ⟨q0, q1, q2, q3, q4⟩ := V1g.out
      go_region_held3 (fun w' => w'.cell? ⟨eb, 0, none⟩ = some (.slice a1 len c1) ∧ w'.cell? ⟨eb, 1, none⟩ = some (.int .i64 at_) ∧ w'.cell? ⟨eb, 2, none⟩ = some (.int .i64 m) ∧ w'.cell? ⟨eb, 3, none⟩ = some (.int .u8 et) ∧ w'.cell? ⟨eb, 4, none⟩ = some (.bool er)) (first | exact hSYn | exact hSXn | exact ⟨q0, q1, q2, q3, q4⟩) (first | (go_at_call 6; refine (frag6' _ _ _ _ _ _ _ _).mono ?_; rintro e Xn ⟨rfl, hbXn⟩; have hSXn := VarAt.up (w := World.drew W9) V1g.out hbXn) | (go_at_call 7; refine (h7n.out _).mono ?_; rintro e Yn ⟨rfl, hbYn⟩; have hSYn := VarAt.up (w := Xn) hSXn hbYn))
      have HBYn := hide (step_below (step_below (W := World.drew W9) HB9.out.drew hbXn) hbYn)
      have VYn : Hid (VarAt Yn eb a1 len c1 at_ m et er) := hSYn
      clear hSXn hSYn hbXn hbYn q0 q1 q2 q3 q4 h7n HB9 V1g
      go_wp2_with fail
      by_cases hgma : 2 ≤ m
      · have h7ma : Hid (∀ W, Calls Trym.prog 7 #[.agg #[.slice a1 len c1, .int .i64 (IntKind.i64.wrap (IntKind.i64.wrap (at_ + m) - 1)), .int .i64 (IntKind.i64.wrap (n + 1)), .int .u8 ft, .bool fr], .agg #[.slice a1 len c1, .int .i64 at_, .int .i64 m, .int .u8 et, .bool er]] W fun e w' => e = .returned (.bool false) ∧ Below W.heap.size W w') := fun W => by
          have := fol_same W a1 len c1 len c1 (at_ + m - 1) (n + 1) ft at_ m et fr er (Hin2.out _) (by omega) (by omega) (by omega)
          rw [show decide (0 < m ∧ 0 < n + 1 ∧ at_ + m = at_ + m - 1) = false by simp; omega] at this
          rw [show IntKind.i64.wrap (IntKind.i64.wrap (at_ + m) - 1) = at_ + m - 1 by rw [wrapI (at_ + m) (by omega) (by omega)]; exact wrapI _ (by omega) (by omega), show IntKind.i64.wrap (n + 1) = n + 1 from wrapI _ (by omega) (by omega)]
          exact this
        obtain ⟨q0, q1, q2, q3, q4⟩ := VYn.out
        go_region_held3 (fun w' => w'.cell? ⟨eb, 0, none⟩ = some (.slice a1 len c1) ∧ w'.cell? ⟨eb, 1, none⟩ = some (.int .i64 at_) ∧ w'.cell? ⟨eb, 2, none⟩ = some (.int .i64 m) ∧ w'.cell? ⟨eb, 3, none⟩ = some (.int .u8 et) ∧ w'.cell? ⟨eb, 4, none⟩ = some (.bool er)) (first | exact hSYma | exact hSXma | exact ⟨q0, q1, q2, q3, q4⟩) (first | (go_at_call 6; refine (frag6' _ _ _ _ _ _ _ _).mono ?_; rintro e Xma ⟨rfl, hbXma⟩; have hSXma := VarAt.up (w := World.drew Yn) VYn.out hbXma) | (go_at_call 7; refine (h7ma.out _).mono ?_; rintro e Yma ⟨rfl, hbYma⟩; have hSYma := VarAt.up (w := Xma) hSXma hbYma))
        have HBYma := hide (step_below (step_below (W := World.drew Yn) HBYn.out.drew hbXma) hbYma)
        have VYma : Hid (VarAt Yma eb a1 len c1 at_ m et er) := hSYma
        clear hSXma hSYma hbXma hbYma q0 q1 q2 q3 q4 h7ma HBYn VYn
        go_wp2_with fail
        go_ret
        exact ⟨rfl, (Hb1.out.trans (Hb2.out.mono Hb1.out.size)).trans (HBYma.out.mono (Nat.le_trans Hb1.out.size Hb2.out.size))⟩
      · have hdma : decide (2 ≤ m) = false := by simp; omega
        go_quiet (fail)
        have HBNma := hide (below_drewN' HBYn.out nq)
        have VNma : Hid (VarAt (Yn.drewN nq) eb a1 len c1 at_ m et er) := VYn.out
        clear HBYn VYn
        generalize hWNma : Yn.drewN nq = Nma at *
        clear hWNma hdma
        go_wp2_with fail
        go_ret
        exact ⟨rfl, (Hb1.out.trans (Hb2.out.mono Hb1.out.size)).trans (HBNma.out.mono (Nat.le_trans Hb1.out.size Hb2.out.size))⟩
    · have hdn : decide (2 ≤ n) = false := by simp; omega
      go_quiet (fail)
      have HBNn := hide (below_drewN' HB9.out nq)
      have VNn : Hid (VarAt (W9.drewN nq) eb a1 len c1 at_ m et er) := V1g.out
      clear HB9 V1g
      generalize hWNn : W9.drewN nq = Nn at *
      clear hWNn hdn
      go_wp2_with fail
      by_cases hgmb : 2 ≤ m
      · have h7mb : Hid (∀ W, Calls Trym.prog 7 #[.agg #[.slice a1 len c1, .int .i64 (IntKind.i64.wrap (IntKind.i64.wrap (at_ + m) - 1)), .int .i64 (IntKind.i64.wrap (n + 1)), .int .u8 ft, .bool fr], .agg #[.slice a1 len c1, .int .i64 at_, .int .i64 m, .int .u8 et, .bool er]] W fun e w' => e = .returned (.bool false) ∧ Below W.heap.size W w') := fun W => by
          have := fol_same W a1 len c1 len c1 (at_ + m - 1) (n + 1) ft at_ m et fr er (Hin2.out _) (by omega) (by omega) (by omega)
          rw [show decide (0 < m ∧ 0 < n + 1 ∧ at_ + m = at_ + m - 1) = false by simp; omega] at this
          rw [show IntKind.i64.wrap (IntKind.i64.wrap (at_ + m) - 1) = at_ + m - 1 by rw [wrapI (at_ + m) (by omega) (by omega)]; exact wrapI _ (by omega) (by omega), show IntKind.i64.wrap (n + 1) = n + 1 from wrapI _ (by omega) (by omega)]
          exact this
        obtain ⟨q0, q1, q2, q3, q4⟩ := VNn.out
        go_region_held3 (fun w' => w'.cell? ⟨eb, 0, none⟩ = some (.slice a1 len c1) ∧ w'.cell? ⟨eb, 1, none⟩ = some (.int .i64 at_) ∧ w'.cell? ⟨eb, 2, none⟩ = some (.int .i64 m) ∧ w'.cell? ⟨eb, 3, none⟩ = some (.int .u8 et) ∧ w'.cell? ⟨eb, 4, none⟩ = some (.bool er)) (first | exact hSYmb | exact hSXmb | exact ⟨q0, q1, q2, q3, q4⟩) (first | (go_at_call 6; refine (frag6' _ _ _ _ _ _ _ _).mono ?_; rintro e Xmb ⟨rfl, hbXmb⟩; have hSXmb := VarAt.up (w := World.drew Nn) VNn.out hbXmb) | (go_at_call 7; refine (h7mb.out _).mono ?_; rintro e Ymb ⟨rfl, hbYmb⟩; have hSYmb := VarAt.up (w := Xmb) hSXmb hbYmb))
        have HBYmb := hide (step_below (step_below (W := World.drew Nn) HBNn.out.drew hbXmb) hbYmb)
        have VYmb : Hid (VarAt Ymb eb a1 len c1 at_ m et er) := hSYmb
        clear hSXmb hSYmb hbXmb hbYmb q0 q1 q2 q3 q4 h7mb HBNn VNn
        go_wp2_with fail
        go_ret
        exact ⟨rfl, (Hb1.out.trans (Hb2.out.mono Hb1.out.size)).trans (HBYmb.out.mono (Nat.le_trans Hb1.out.size Hb2.out.size))⟩
      · have hdmb : decide (2 ≤ m) = false := by simp; omega
        go_quiet (fail)
        have HBNmb := hide (below_drewN' HBNn.out nq)
        have VNmb : Hid (VarAt (Nn.drewN nq) eb a1 len c1 at_ m et er) := VNn.out
        clear HBNn VNn
        generalize hWNmb : Nn.drewN nq = Nmb at *
        clear hWNmb hdmb
        go_wp2_with fail
        go_ret
        exact ⟨rfl, (Hb1.out.trans (Hb2.out.mono Hb1.out.size)).trans (HBNmb.out.mono (Nat.le_trans Hb1.out.size Hb2.out.size))⟩
  · go_wp2_with fail
    clear x0 x1 x2 x3 x4 y0 y1 y2 y3 y4
    have V3 := hide (varAt_new w5 a2 len c2 (at_ + m) n ft fr)
    have HB6 := hide (step_alloc HB5'.out (.cells #[.slice a2 len c2, .int .i64 (at_ + m), .int .i64 n, .int .u8 ft, .bool fr] 27))
    have V1d := hide (V1c.out.up ((Below.refl w5.heap.size w5).alloc (Nat.le_refl _) (.cells #[.slice a2 len c2, .int .i64 (at_ + m), .int .i64 n, .int .u8 ft, .bool fr] 27)))
    have V2d := hide (V2c.out.up ((Below.refl w5.heap.size w5).alloc (Nat.le_refl _) (.cells #[.slice a2 len c2, .int .i64 (at_ + m), .int .i64 n, .int .u8 ft, .bool fr] 27)))
    clear V1c V2c HB5'
    generalize World.alloc w5 (.cells #[.slice a2 len c2, .int .i64 (at_ + m), .int .i64 n, .int .u8 ft, .bool fr] 27) = W6 at *
    generalize w5.heap.size = lb at *
    have h71 := fol_same W6 a1 len c1 len c1 (at_ + m) n ft at_ m et fr er Hin.out (by omega) (by omega) (by omega)
    rw [show decide (0 < m ∧ 0 < n ∧ at_ + m = at_ + m) = false by simp; omega] at h71
    unfold frag at h71
    refine h71.mono ?_
    clear h71
    rintro e W7 ⟨rfl, hb⟩
    have HB7 := hide (step_below HB6.out hb)
    have V1e := hide (V1d.out.up hb)
    have V2e := hide (V2d.out.up hb)
    have V3e := hide (V3.out.up hb)
    clear hb HB6 V1d V2d V3
    obtain ⟨q0, q1, q2, q3, q4⟩ := V1e.out
    obtain ⟨r0, r1, r2, r3, r4⟩ := V2e.out
    go_wp2_with fail
    clear q0 q1 q2 q3 q4 r0 r1 r2 r3 r4
    have h72 := fol_same W7 a1 len c1 len c1 at_ m et (at_ + m) n ft er fr Hin'.out (by omega) (by omega) (by omega)
    rw [show decide (0 < n ∧ 0 < m ∧ at_ + m + n = at_) = false by simp; omega] at h72
    unfold frag at h72
    refine h72.mono ?_
    clear h72
    rintro e W8 ⟨rfl, hb⟩
    have HB8 := hide (step_below HB7.out hb)
    have V1f := hide (V1e.out.up hb)
    have V3f := hide (V3e.out.up hb)
    clear hb HB7 V1e V2e V3e
    obtain ⟨q0, q1, q2, q3, q4⟩ := V1f.out
    obtain ⟨r0, r1, r2, r3, r4⟩ := V3f.out
    go_wp2_with fail
    clear q0 q1 q2 q3 q4 r0 r1 r2 r3 r4
    have h73 := fol_other W8 a2 a1 len c2 len c1 (at_ + m) n ft at_ m et fr er (Hother.out W8 HB8.out)
    unfold frag at h73
    refine h73.mono ?_
    clear h73
    rintro e W9 ⟨rfl, hb⟩
    have HB9 := hide (step_below HB8.out hb)
    have V1g := hide (V1f.out.up hb)
    clear hb HB8 V1f V3f
    go_wp2_with fail
    by_cases hgn : 2 ≤ n
    · have h7n : Hid (∀ W, Calls Trym.prog 7 #[.agg #[.slice a1 len c1, .int .i64 (IntKind.i64.wrap (IntKind.i64.wrap (at_ + m) + 1)), .int .i64 (IntKind.i64.wrap (n - 1)), .int .u8 ft, .bool fr], .agg #[.slice a1 len c1, .int .i64 at_, .int .i64 m, .int .u8 et, .bool er]] W fun e w' => e = .returned (.bool false) ∧ Below W.heap.size W w') := fun W => by
        have := fol_same W a1 len c1 len c1 (at_ + m + 1) (n - 1) ft at_ m et fr er (Hin2.out _) (by omega) (by omega) (by omega)
        rw [show decide (0 < m ∧ 0 < n - 1 ∧ at_ + m = at_ + m + 1) = false by simp; omega] at this
        rw [show IntKind.i64.wrap (IntKind.i64.wrap (at_ + m) + 1) = at_ + m + 1 by rw [wrapI (at_ + m) (by omega) (by omega)]; exact wrapI _ (by omega) (by omega), show IntKind.i64.wrap (n - 1) = n - 1 from wrapI _ (by omega) (by omega)]
        exact this
      obtain ⟨q0, q1, q2, q3, q4⟩ := V1g.out
      go_region_held3 (fun w' => w'.cell? ⟨eb, 0, none⟩ = some (.slice a1 len c1) ∧ w'.cell? ⟨eb, 1, none⟩ = some (.int .i64 at_) ∧ w'.cell? ⟨eb, 2, none⟩ = some (.int .i64 m) ∧ w'.cell? ⟨eb, 3, none⟩ = some (.int .u8 et) ∧ w'.cell? ⟨eb, 4, none⟩ = some (.bool er)) (first | exact hSYn | exact hSXn | exact ⟨q0, q1, q2, q3, q4⟩) (first | (go_at_call 6; refine (frag6' _ _ _ _ _ _ _ _).mono ?_; rintro e Xn ⟨rfl, hbXn⟩; have hSXn := VarAt.up (w := World.drew W9) V1g.out hbXn) | (go_at_call 7; refine (h7n.out _).mono ?_; rintro e Yn ⟨rfl, hbYn⟩; have hSYn := VarAt.up (w := Xn) hSXn hbYn))
      have HBYn := hide (step_below (step_below (W := World.drew W9) HB9.out.drew hbXn) hbYn)
      have VYn : Hid (VarAt Yn eb a1 len c1 at_ m et er) := hSYn
      clear hSXn hSYn hbXn hbYn q0 q1 q2 q3 q4 h7n HB9 V1g
      go_wp2_with fail
      by_cases hgma : 2 ≤ m
      · have h7ma : Hid (∀ W, Calls Trym.prog 7 #[.agg #[.slice a1 len c1, .int .i64 (IntKind.i64.wrap (IntKind.i64.wrap (at_ + m) - 1)), .int .i64 (IntKind.i64.wrap (n + 1)), .int .u8 ft, .bool fr], .agg #[.slice a1 len c1, .int .i64 at_, .int .i64 m, .int .u8 et, .bool er]] W fun e w' => e = .returned (.bool false) ∧ Below W.heap.size W w') := fun W => by
          have := fol_same W a1 len c1 len c1 (at_ + m - 1) (n + 1) ft at_ m et fr er (Hin2.out _) (by omega) (by omega) (by omega)
          rw [show decide (0 < m ∧ 0 < n + 1 ∧ at_ + m = at_ + m - 1) = false by simp; omega] at this
          rw [show IntKind.i64.wrap (IntKind.i64.wrap (at_ + m) - 1) = at_ + m - 1 by rw [wrapI (at_ + m) (by omega) (by omega)]; exact wrapI _ (by omega) (by omega), show IntKind.i64.wrap (n + 1) = n + 1 from wrapI _ (by omega) (by omega)]
          exact this
        obtain ⟨q0, q1, q2, q3, q4⟩ := VYn.out
        go_region_held3 (fun w' => w'.cell? ⟨eb, 0, none⟩ = some (.slice a1 len c1) ∧ w'.cell? ⟨eb, 1, none⟩ = some (.int .i64 at_) ∧ w'.cell? ⟨eb, 2, none⟩ = some (.int .i64 m) ∧ w'.cell? ⟨eb, 3, none⟩ = some (.int .u8 et) ∧ w'.cell? ⟨eb, 4, none⟩ = some (.bool er)) (first | exact hSYma | exact hSXma | exact ⟨q0, q1, q2, q3, q4⟩) (first | (go_at_call 6; refine (frag6' _ _ _ _ _ _ _ _).mono ?_; rintro e Xma ⟨rfl, hbXma⟩; have hSXma := VarAt.up (w := World.drew Yn) VYn.out hbXma) | (go_at_call 7; refine (h7ma.out _).mono ?_; rintro e Yma ⟨rfl, hbYma⟩; have hSYma := VarAt.up (w := Xma) hSXma hbYma))
        have HBYma := hide (step_below (step_below (W := World.drew Yn) HBYn.out.drew hbXma) hbYma)
        have VYma : Hid (VarAt Yma eb a1 len c1 at_ m et er) := hSYma
        clear hSXma hSYma hbXma hbYma q0 q1 q2 q3 q4 h7ma HBYn VYn
        go_wp2_with fail
        go_ret
        exact ⟨rfl, (Hb1.out.trans (Hb2.out.mono Hb1.out.size)).trans (HBYma.out.mono (Nat.le_trans Hb1.out.size Hb2.out.size))⟩
      · have hdma : decide (2 ≤ m) = false := by simp; omega
        go_quiet (fail)
        have HBNma := hide (below_drewN' HBYn.out nq)
        have VNma : Hid (VarAt (Yn.drewN nq) eb a1 len c1 at_ m et er) := VYn.out
        clear HBYn VYn
        generalize hWNma : Yn.drewN nq = Nma at *
        clear hWNma hdma
        go_wp2_with fail
        go_ret
        exact ⟨rfl, (Hb1.out.trans (Hb2.out.mono Hb1.out.size)).trans (HBNma.out.mono (Nat.le_trans Hb1.out.size Hb2.out.size))⟩
    · have hdn : decide (2 ≤ n) = false := by simp; omega
      go_quiet (fail)
      have HBNn := hide (below_drewN' HB9.out nq)
      have VNn : Hid (VarAt (W9.drewN nq) eb a1 len c1 at_ m et er) := V1g.out
      clear HB9 V1g
      generalize hWNn : W9.drewN nq = Nn at *
      clear hWNn hdn
      go_wp2_with fail
      by_cases hgmb : 2 ≤ m
      · have h7mb : Hid (∀ W, Calls Trym.prog 7 #[.agg #[.slice a1 len c1, .int .i64 (IntKind.i64.wrap (IntKind.i64.wrap (at_ + m) - 1)), .int .i64 (IntKind.i64.wrap (n + 1)), .int .u8 ft, .bool fr], .agg #[.slice a1 len c1, .int .i64 at_, .int .i64 m, .int .u8 et, .bool er]] W fun e w' => e = .returned (.bool false) ∧ Below W.heap.size W w') := fun W => by
          have := fol_same W a1 len c1 len c1 (at_ + m - 1) (n + 1) ft at_ m et fr er (Hin2.out _) (by omega) (by omega) (by omega)
          rw [show decide (0 < m ∧ 0 < n + 1 ∧ at_ + m = at_ + m - 1) = false by simp; omega] at this
          rw [show IntKind.i64.wrap (IntKind.i64.wrap (at_ + m) - 1) = at_ + m - 1 by rw [wrapI (at_ + m) (by omega) (by omega)]; exact wrapI _ (by omega) (by omega), show IntKind.i64.wrap (n + 1) = n + 1 from wrapI _ (by omega) (by omega)]
          exact this
        obtain ⟨q0, q1, q2, q3, q4⟩ := VNn.out
        go_region_held3 (fun w' => w'.cell? ⟨eb, 0, none⟩ = some (.slice a1 len c1) ∧ w'.cell? ⟨eb, 1, none⟩ = some (.int .i64 at_) ∧ w'.cell? ⟨eb, 2, none⟩ = some (.int .i64 m) ∧ w'.cell? ⟨eb, 3, none⟩ = some (.int .u8 et) ∧ w'.cell? ⟨eb, 4, none⟩ = some (.bool er)) (first | exact hSYmb | exact hSXmb | exact ⟨q0, q1, q2, q3, q4⟩) (first | (go_at_call 6; refine (frag6' _ _ _ _ _ _ _ _).mono ?_; rintro e Xmb ⟨rfl, hbXmb⟩; have hSXmb := VarAt.up (w := World.drew Nn) VNn.out hbXmb) | (go_at_call 7; refine (h7mb.out _).mono ?_; rintro e Ymb ⟨rfl, hbYmb⟩; have hSYmb := VarAt.up (w := Xmb) hSXmb hbYmb))
        have HBYmb := hide (step_below (step_below (W := World.drew Nn) HBNn.out.drew hbXmb) hbYmb)
        have VYmb : Hid (VarAt Ymb eb a1 len c1 at_ m et er) := hSYmb
        clear hSXmb hSYmb hbXmb hbYmb q0 q1 q2 q3 q4 h7mb HBNn VNn
        go_wp2_with fail
        go_ret
        exact ⟨rfl, (Hb1.out.trans (Hb2.out.mono Hb1.out.size)).trans (HBYmb.out.mono (Nat.le_trans Hb1.out.size Hb2.out.size))⟩
      · have hdmb : decide (2 ≤ m) = false := by simp; omega
        go_quiet (fail)
        have HBNmb := hide (below_drewN' HBNn.out nq)
        have VNmb : Hid (VarAt (Nn.drewN nq) eb a1 len c1 at_ m et er) := VNn.out
        clear HBNn VNn
        generalize hWNmb : Nn.drewN nq = Nmb at *
        clear hWNmb hdmb
        go_wp2_with fail
        go_ret
        exact ⟨rfl, (Hb1.out.trans (Hb2.out.mono Hb1.out.size)).trans (HBNmb.out.mono (Nat.le_trans Hb1.out.size Hb2.out.size))⟩
end Go.Proofs.Qxb6614824aMods
