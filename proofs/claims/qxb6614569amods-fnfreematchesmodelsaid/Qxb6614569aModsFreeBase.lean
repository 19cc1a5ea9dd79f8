/-
  For FnFreeMatchesModel: slices of strings and slices of those, as they lie in memory.
-/
import Derived.Test.Qxb6614569aModsPush
import Derived.Test.Qxb6614569aModsWithout
namespace Go.Proofs.Qxb6614569aMods
open Go.RowKit
set_option linter.unusedVariables false

/-- The slice's n elements are the strings S 0, S 1, .. -/
def Strs (w : World) (a : Option Addr) (n : Nat) (S : Nat → ByteArray) : Prop :=
  ∀ k, k < n → ∃ b off, a = some ⟨b, off, none⟩ ∧ w.cell? ⟨b, off + k, none⟩ = some (.string (S k))
/-- The slice's n elements are slices of strings: row k has L k strings T k 0, T k 1, .. -/
def Grid (w : World) (a : Option Addr) (n : Nat) (L : Nat → Nat) (T : Nat → Nat → ByteArray) : Prop :=
  ∀ k, k < n → ∃ b off, a = some ⟨b, off, none⟩ ∧ ∃ ar c, w.cell? ⟨b, off + k, none⟩ = some (.slice ar (L k) c) ∧ Strs w ar (L k) (T k)

theorem Strs.up {w w' : World} {a : Option Addr} {n : Nat} {S : Nat → ByteArray} (h : Strs w a n S) (hw : ∀ x v, w.cell? x = some v → w'.cell? x = w.cell? x) : Strs w' a n S := fun k hk => by
  obtain ⟨b, off, h1, h2⟩ := h k hk
  exact ⟨b, off, h1, by rw [hw _ _ h2]; exact h2⟩
theorem Grid.up {w w' : World} {a : Option Addr} {n : Nat} {L : Nat → Nat} {T : Nat → Nat → ByteArray} (h : Grid w a n L T) (hw : ∀ x v, w.cell? x = some v → w'.cell? x = w.cell? x) : Grid w' a n L T := fun k hk => by
  obtain ⟨b, off, h1, ar, c, h2, h3⟩ := h k hk
  exact ⟨b, off, h1, ar, c, by rw [hw _ _ h2]; exact h2, h3.up hw⟩
theorem Below.up {w w' : World} (h : Below w.heap.size w w') : ∀ x v, w.cell? x = some v → w'.cell? x = w.cell? x := fun x v hv => h.cell (World.block_lt_of_cell? w _ hv)

/-- What the first look (zzBytes..) tells. -/
def Post6 (np no : Nat) (L : Nat → Nat) (w : World) (e : Ending) (w' : World) : Prop :=
  ∃ b, e = .returned (.bool b) ∧ w' = w ∧ (b = true → np ≤ 1048576 ∧ ∀ k, k < no → L k ≤ 1048576)
theorem post6_false (np no : Nat) (L : Nat → Nat) (w : World) : Post6 np no L w (.returned (.bool false)) w := ⟨false, rfl, rfl, fun h => by cases h⟩

set_option maxHeartbeats 4000000 in
set_option maxRecDepth 100000 in
theorem bytes6 (w : World) (a0 a1 a2 : Option Addr) (n0 n1 n2 c0 c1 c2 : Nat) (mx : Int) (P Ac : Nat → ByteArray) (L : Nat → Nat) (T : Nat → Nat → ByteArray)
    (h0 : Hid (Strs w a0 n0 P)) (h1 : Hid (Grid w a1 n1 L T)) (h2 : Hid (Strs w a2 n2 Ac)) (b0 : n0 ≤ 9223372036854775807) (b1 : n1 ≤ 9223372036854775807) (b2 : n2 ≤ 9223372036854775807) (bL : Hid (∀ k, k < n1 → L k ≤ 9223372036854775807))
    (sP : Hid (∀ k, k < n0 → (P k).size ≤ 9223372036854775807)) (sT : Hid (∀ k, k < n1 → ∀ m, m < L k → (T k m).size ≤ 9223372036854775807)) (sA : Hid (∀ k, k < n2 → (Ac k).size ≤ 9223372036854775807)) :
    Calls Trym.prog 6 #[.slice a0 n0 c0, .slice a1 n1 c1, .slice a2 n2 c2, .int .i64 mx] w (Post6 n0 n1 L w) := by
  go_enter Trym.func6, Trym.ntmps6
  by_cases t0 : (1048576 : Int) < n0
  · go_wp2
    go_ret
    exact post6_false _ _ _ _
  go_wp2
  go_loop [9, 10] (fun z i => ∃ (x : Int) (k : Nat), z = .int .i64 x ∧ i = .int .i64 k ∧ k ≤ n0) (fun _ i => n0 - (intOf i).toNat)
  case atStart => exact ⟨_, 0, rfl, rfl, Nat.zero_le _⟩
  case round =>
    obtain ⟨x, k, rfl, rfl, hk⟩ := hrel
    by_cases hlt : k < n0
    · obtain ⟨b, off, rfl, hc⟩ := h0.out k hlt
      have hs := sP.out k hlt
      go_wp2
      · go_ret
        exact post6_false _ _ _ _
      · go_ret
        exact post6_false _ _ _ _
      · go_round
        case rel => exact ⟨_, k + 1, rfl, by go_num, by omega⟩
        case measure => simp [intOf]; omega
    · by_cases t1 : (1048576 : Int) < n1
      · go_wp2
        go_ret
        exact post6_false _ _ _ _
      go_wp2
      · go_ret
        exact post6_false _ _ _ _
      go_loop [9, 11, 12] (fun z i j => ∃ (x : Int) (k : Nat), z = .int .i64 x ∧ i = .int .i64 k ∧ k ≤ n1 ∧ Hid (∀ t, t < k → L t ≤ 1048576)) (fun _ i _ => n1 - (intOf i).toNat)
      case atStart => exact ⟨_, 0, rfl, rfl, Nat.zero_le _, fun t ht => absurd ht (Nat.not_lt_zero _)⟩
      case round =>
        obtain ⟨x, k, rfl, rfl, hk, hL⟩ := hrel
        by_cases hlt : k < n1
        · obtain ⟨b, off, rfl, ar, c, hc, hr⟩ := h1.out k hlt
          have Hr := hide hr
          clear hr
          have hs := bL.out k hlt
          have sT' := hide (sT.out k hlt)
          by_cases t2 : (1048576 : Int) < L k
          · go_wp2
            go_ret
            exact post6_false _ _ _ _
          have hL' : Hid (∀ t, t < k + 1 → L t ≤ 1048576) := fun t ht => by
            by_cases e : t = k
            · subst e; omega
            · exact hL.out t (by omega)
          go_wp2
          · go_ret
            exact post6_false _ _ _ _
          go_loop [9, 12] (fun z j => ∃ (x : Int) (m : Nat), z = .int .i64 x ∧ j = .int .i64 m ∧ m ≤ L k) (fun _ j => L k - (intOf j).toNat)
          case atStart => exact ⟨_, 0, rfl, rfl, Nat.zero_le _⟩
          case round =>
            obtain ⟨y, m, rfl, rfl, hm⟩ := hrel
            by_cases hlm : m < L k
            · obtain ⟨b', off', rfl, hc'⟩ := Hr.out m hlm
              have hs' := sT'.out m hlm
              go_wp2
              · go_ret
                exact post6_false _ _ _ _
              · go_ret
                exact post6_false _ _ _ _
              · go_round
                case rel => exact ⟨_, m + 1, rfl, by go_num, by omega⟩
                case measure => simp [intOf]; omega
            · go_wp2
              go_round
              case rel => exact ⟨_, k + 1, rfl, by go_num, by omega, hL'⟩
              case measure => simp [intOf]; omega
        · obtain rfl : k = n1 := by omega
          by_cases t3 : (1048576 : Int) < n2
          · go_wp2
            go_ret
            exact post6_false _ _ _ _
          go_wp2
          · go_ret
            exact post6_false _ _ _ _
          go_loop [9, 13] (fun z i => ∃ (x : Int) (k : Nat), z = .int .i64 x ∧ i = .int .i64 k ∧ k ≤ n2) (fun _ i => n2 - (intOf i).toNat)
          case atStart => exact ⟨_, 0, rfl, rfl, Nat.zero_le _⟩
          case round =>
            obtain ⟨y, m, rfl, rfl, hm⟩ := hrel
            by_cases hlm : m < n2
            · obtain ⟨b', off', rfl, hc'⟩ := h2.out m hlm
              have hs' := sA.out m hlm
              go_wp2
              · go_ret
                exact post6_false _ _ _ _
              · go_ret
                exact post6_false _ _ _ _
              · go_round
                case rel => exact ⟨_, m + 1, rfl, by go_num, by omega⟩
                case measure => simp [intOf]; omega
            · go_wp2
              go_ret
              exact ⟨true, rfl, rfl, fun _ => ⟨by omega, hL.out⟩⟩

/-- It returns a number, and nothing has turned. -/
def SomeInt (w : World) (e : Ending) (w' : World) : Prop := ∃ x : Int, e = .returned (.int .i64 x) ∧ w' = w

set_option maxHeartbeats 4000000 in
set_option maxRecDepth 100000 in
theorem list7 (w : World) (a0 a1 a2 : Option Addr) (n0 n1 n2 c0 c1 c2 : Nat) (P Ac : Nat → ByteArray) (L : Nat → Nat) (T : Nat → Nat → ByteArray)
    (h0 : Hid (Strs w a0 n0 P)) (h1 : Hid (Grid w a1 n1 L T)) (h2 : Hid (Strs w a2 n2 Ac)) (b0 : n0 ≤ 9223372036854775807) (b1 : n1 ≤ 9223372036854775807) (b2 : n2 ≤ 9223372036854775807) (bL : Hid (∀ k, k < n1 → L k ≤ 9223372036854775807))
    (sP : Hid (∀ k, k < n0 → (P k).size ≤ 9223372036854775807)) (sT : Hid (∀ k, k < n1 → ∀ m, m < L k → (T k m).size ≤ 9223372036854775807)) (sA : Hid (∀ k, k < n2 → (Ac k).size ≤ 9223372036854775807)) :
    Calls Trym.prog 7 #[.slice a0 n0 c0, .slice a1 n1 c1, .slice a2 n2 c2] w (SomeInt w) := by
  go_enter Trym.func7, Trym.ntmps7
  go_wp2
  go_loop [7, 8] (fun z i => ∃ (x : Int) (k : Nat), z = .int .i64 x ∧ i = .int .i64 k ∧ k ≤ n0) (fun _ i => n0 - (intOf i).toNat)
  case atStart => exact ⟨_, 0, rfl, rfl, Nat.zero_le _⟩
  case round =>
    obtain ⟨x, k, rfl, rfl, hk⟩ := hrel
    by_cases hlt : k < n0
    · obtain ⟨b, off, rfl, hc⟩ := h0.out k hlt
      have hs := sP.out k hlt
      go_wp2
      · go_ret
        exact ⟨_, rfl, rfl⟩
      · go_round
        case rel => exact ⟨_, k + 1, rfl, by go_num, by omega⟩
        case measure => simp [intOf]; omega
    · go_wp2
      go_loop [7, 9] (fun z i => ∃ (x : Int) (k : Nat), z = .int .i64 x ∧ i = .int .i64 k ∧ k ≤ n2) (fun _ i => n2 - (intOf i).toNat)
      case atStart => exact ⟨_, 0, rfl, rfl, Nat.zero_le _⟩
      case round =>
        obtain ⟨x, k, rfl, rfl, hk⟩ := hrel
        by_cases hlt : k < n2
        · obtain ⟨b, off, rfl, hc⟩ := h2.out k hlt
          have hs := sA.out k hlt
          go_wp2
          · go_ret
            exact ⟨_, rfl, rfl⟩
          · go_round
            case rel => exact ⟨_, k + 1, rfl, by go_num, by omega⟩
            case measure => simp [intOf]; omega
        · go_wp2
          go_loop [7, 10, 11] (fun z i j => ∃ (x : Int) (k : Nat), z = .int .i64 x ∧ i = .int .i64 k ∧ k ≤ n1) (fun _ i _ => n1 - (intOf i).toNat)
          case atStart => exact ⟨_, 0, rfl, rfl, Nat.zero_le _⟩
          case round =>
            obtain ⟨x, k, rfl, rfl, hk⟩ := hrel
            by_cases hlt : k < n1
            · obtain ⟨b, off, rfl, ar, c, hc, hr⟩ := h1.out k hlt
              have Hr := hide hr
              clear hr
              have hs := bL.out k hlt
              have sT' := hide (sT.out k hlt)
              go_wp2
              · go_ret
                exact ⟨_, rfl, rfl⟩
              go_loop [7, 11] (fun z j => ∃ (x : Int) (m : Nat), z = .int .i64 x ∧ j = .int .i64 m ∧ m ≤ L k) (fun _ j => L k - (intOf j).toNat)
              case atStart => exact ⟨_, 0, rfl, rfl, Nat.zero_le _⟩
              case round =>
                obtain ⟨y, m, rfl, rfl, hm⟩ := hrel
                by_cases hlm : m < L k
                · obtain ⟨b', off', rfl, hc'⟩ := Hr.out m hlm
                  have hs' := sT'.out m hlm
                  go_wp2
                  · go_ret
                    exact ⟨_, rfl, rfl⟩
                  · go_round
                    case rel => exact ⟨_, m + 1, rfl, by go_num, by omega⟩
                    case measure => simp [intOf]; omega
                · go_wp2
                  go_round
                  case rel => exact ⟨_, k + 1, rfl, by go_num, by omega⟩
                  case measure => simp [intOf]; omega
            · go_wp2
              go_ret
              exact ⟨_, rfl, rfl⟩

set_option maxHeartbeats 4000000 in
set_option maxRecDepth 100000 in
theorem count8 (w : World) (a1 : Option Addr) (n1 c1 : Nat) (L : Nat → Nat) (T : Nat → Nat → ByteArray)
    (h1 : Hid (Grid w a1 n1 L T)) (b1 : n1 ≤ 9223372036854775807) (bL : Hid (∀ k, k < n1 → L k ≤ 9223372036854775807)) :
    Calls Trym.prog 8 #[.slice a1 n1 c1] w (SomeInt w) := by
  go_enter Trym.func8, Trym.ntmps8
  go_wp2
  go_loop [3, 4] (fun z i => ∃ (x : Int) (k : Nat), z = .int .i64 x ∧ i = .int .i64 k ∧ k ≤ n1) (fun _ i => n1 - (intOf i).toNat)
  case atStart => exact ⟨_, 0, rfl, rfl, Nat.zero_le _⟩
  case round =>
    obtain ⟨x, k, rfl, rfl, hk⟩ := hrel
    by_cases hlt : k < n1
    · obtain ⟨b, off, rfl, ar, c, hc, hr⟩ := h1.out k hlt
      clear hr
      have hs := bL.out k hlt
      go_wp2
      · go_ret
        exact ⟨_, rfl, rfl⟩
      · go_round
        case rel => exact ⟨_, k + 1, rfl, by go_num, by omega⟩
        case measure => simp [intOf]; omega
    · go_wp2
      go_ret
      exact ⟨_, rfl, rfl⟩
end Go.Proofs.Qxb6614569aMods
