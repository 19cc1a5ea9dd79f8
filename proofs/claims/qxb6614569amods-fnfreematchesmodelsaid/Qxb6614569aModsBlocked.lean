/-
  Walk: zzBlocked (23).
-/
import Derived.Test.Qxb6614569aModsCopy
namespace Go.Proofs.Qxb6614569aMods
open Go.RowKit
set_option linter.unusedVariables false

def noted : ByteArray := ⟨#[110, 111, 116, 101, 100]⟩
def stored : ByteArray := ⟨#[115, 116, 111, 114, 101, 100]⟩

theorem str_t {x y : ByteArray} (h : x = y) : (x.toList == y.toList) = true := by rw [h]; simp
theorem str_f {x y : ByteArray} (h : x ≠ y) : (x.toList == y.toList) = false := by
  rw [beq_eq_false_iff_ne]
  intro e
  rw [ByteArray.toList_eq, ByteArray.toList_eq] at e
  exact h (Go.WideShapes.bytes_inj e)
theorem noted_list : noted.toList = [110, 111, 116, 101, 100] := ByteArray.toList_mk _
theorem stored_list : stored.toList = [115, 116, 111, 114, 101, 100] := ByteArray.toList_mk _
theorem noted_t {x : ByteArray} (h : x = noted) : (x.toList == [110, 111, 116, 101, 100]) = true := by rw [← noted_list]; exact str_t h
theorem noted_f {x : ByteArray} (h : x ≠ noted) : (x.toList == [110, 111, 116, 101, 100]) = false := by rw [← noted_list]; exact str_f h
theorem stored_t {x : ByteArray} (h : x = stored) : (x.toList == [115, 116, 111, 114, 101, 100]) = true := by rw [← stored_list]; exact str_t h
theorem stored_f {x : ByteArray} (h : x ≠ stored) : (x.toList == [115, 116, 111, 114, 101, 100]) = false := by rw [← stored_list]; exact str_f h

/-- The owner s stands among the owners of an entry ahead of i that is not noted. -/
def HeldBy (P : Nat → ByteArray) (L : Nat → Nat) (T : Nat → Nat → ByteArray) (i : Nat) (s : ByteArray) : Prop := ∃ k, k < i ∧ P k ≠ noted ∧ ∃ m, m < L k ∧ T k m = s
/-- .. or among the first j owners of entry i itself. -/
def Bad (P : Nat → ByteArray) (L : Nat → Nat) (T : Nat → Nat → ByteArray) (i j : Nat) : Prop := HeldBy P L T i (T i j) ∨ ∃ m, m < j ∧ T i m = T i j
def Blocked (P : Nat → ByteArray) (L : Nat → Nat) (T : Nat → Nat → ByteArray) (i : Nat) : Prop := ∃ j, j < L i ∧ Bad P L T i j

def Post23 (P : Nat → ByteArray) (L : Nat → Nat) (T : Nat → Nat → ByteArray) (i : Nat) (w : World) (e : Ending) (w' : World) : Prop :=
  ∃ b : Bool, e = .returned (.bool b) ∧ w' = w ∧ (b = true ↔ Blocked P L T i)

set_option maxHeartbeats 4000000 in
set_option maxRecDepth 100000 in
theorem blocked23 (w : World) (a0 a1 : Option Addr) (n c0 c1 i : Nat) (P : Nat → ByteArray) (L : Nat → Nat) (T : Nat → Nat → ByteArray)
    (h0 : Hid (Strs w a0 n P)) (h1 : Hid (Grid w a1 n L T)) (hi : i < n) (b0 : n ≤ 2000000) (bL : Hid (∀ k, k < n → L k ≤ 2000000)) :
    Calls Trym.prog 23 #[.slice a0 n c0, .slice a1 n c1, .int .i64 (i : Int)] w (Post23 P L T i w) := by
  obtain ⟨b, off, rfl, ai, ci, hci, hri⟩ := h1.out i hi
  obtain ⟨bp, offp, rfl, _⟩ := h0.out i hi
  have Hri := hide hri
  have bLi := bL.out i hi
  clear hri
  go_enter Trym.func23, Trym.ntmps23
  go_wp2
  go_loop [7] (fun z => ∃ j : Nat, z = .int .i64 j ∧ j ≤ L i ∧ Hid (∀ t, t < j → ¬ Bad P L T i t)) (fun z => L i - (intOf z).toNat)
  case atStart => exact ⟨0, rfl, Nat.zero_le _, fun t ht => absurd ht (Nat.not_lt_zero _)⟩
  case round =>
    obtain ⟨j, rfl, hj, hnb⟩ := hrel
    by_cases hlt : j < L i
    · obtain ⟨bi, offi, rfl, hcj⟩ := Hri.out j hlt
      go_wp2
      go_loop [9] (fun z => ∃ k : Nat, z = .int .i64 k ∧ k ≤ i ∧ Hid (∀ t, t < k → P t ≠ noted → ∀ m, m < L t → T t m ≠ T i j)) (fun z => i - (intOf z).toNat)
      case atStart => exact ⟨0, rfl, Nat.zero_le _, fun t ht => absurd ht (Nat.not_lt_zero _)⟩
      case round =>
        obtain ⟨k, rfl, hk, hnk⟩ := hrel
        by_cases hki : k < i
        · obtain ⟨_, _, e1, hcp⟩ := h0.out k (by omega)
          simp only [Option.some.injEq, Addr.mk.injEq] at e1
          obtain ⟨rfl, rfl, _⟩ := e1
          by_cases hno : P k = noted
          · have hno' := noted_t hno
            have Hno := hide hno
            clear hno
            go_wp2
            go_round
            case rel => exact ⟨k + 1, by go_num, by omega, fun t ht hp => by
              by_cases e : t = k
              · subst e; exact (hp Hno.out).elim
              · exact hnk.out t (by omega) hp⟩
            case measure => simp [intOf]; omega
          · have hno' := noted_f hno
            have Hno := hide hno
            clear hno
            obtain ⟨_, _, e1, ak, ck, hck, hrk⟩ := h1.out k (by omega)
            simp only [Option.some.injEq, Addr.mk.injEq] at e1
            obtain ⟨rfl, rfl, _⟩ := e1
            have Hrk := hide hrk
            have bLk := bL.out k (by omega)
            clear hrk
            go_wp2
            go_loop [10] (fun z => ∃ m : Nat, z = .int .i64 m ∧ m ≤ L k ∧ Hid (∀ t, t < m → T k t ≠ T i j)) (fun z => L k - (intOf z).toNat)
            case atStart => exact ⟨0, rfl, Nat.zero_le _, fun t ht => absurd ht (Nat.not_lt_zero _)⟩
            case round =>
              obtain ⟨m, rfl, hm, hnm⟩ := hrel
              by_cases hmk : m < L k
              · obtain ⟨bk, offk, rfl, hckm⟩ := Hrk.out m hmk
                by_cases he : T k m = T i j
                · have he' := str_t he
                  have He := hide he
                  clear he
                  go_wp2
                  go_ret
                  exact ⟨true, rfl, rfl, by simp; exact ⟨j, hlt, .inl ⟨k, hki, Hno.out, m, hmk, He.out⟩⟩⟩
                · have he' := str_f he
                  have He := hide he
                  clear he
                  go_wp2
                  go_round
                  case rel => exact ⟨m + 1, by go_num, by omega, fun t ht => by
                    by_cases e : t = m
                    · subst e; exact He.out
                    · exact hnm.out t (by omega)⟩
                  case measure => simp [intOf]; omega
              · obtain rfl : m = L k := by omega
                go_wp2
                go_round
                case rel => exact ⟨k + 1, by go_num, by omega, fun t ht hp => by
                  by_cases e : t = k
                  · subst e; exact hnm.out
                  · exact hnk.out t (by omega) hp⟩
                case measure => simp [intOf]; omega
        · obtain rfl : k = i := by omega
          go_wp2
          go_loop [11] (fun z => ∃ m : Nat, z = .int .i64 m ∧ m ≤ j ∧ Hid (∀ t, t < m → T k t ≠ T k j)) (fun z => j - (intOf z).toNat)
          case atStart => exact ⟨0, rfl, Nat.zero_le _, fun t ht => absurd ht (Nat.not_lt_zero _)⟩
          case round =>
            obtain ⟨m, rfl, hm, hnm⟩ := hrel
            by_cases hmk : m < j
            · obtain ⟨_, _, e1, hckm⟩ := Hri.out m (by omega)
              simp only [Option.some.injEq, Addr.mk.injEq] at e1
              obtain ⟨rfl, rfl, _⟩ := e1
              by_cases he : T k m = T k j
              · have he' := str_t he
                have He := hide he
                clear he
                go_wp2
                go_ret
                exact ⟨true, rfl, rfl, by simp; exact ⟨j, hlt, .inr ⟨m, hmk, He.out⟩⟩⟩
              · have he' := str_f he
                have He := hide he
                clear he
                go_wp2
                go_round
                case rel => exact ⟨m + 1, by go_num, by omega, fun t ht => by
                  by_cases e : t = m
                  · subst e; exact He.out
                  · exact hnm.out t (by omega)⟩
                case measure => simp [intOf]; omega
            · obtain rfl : m = j := by omega
              go_wp2
              go_round
              case rel => exact ⟨m + 1, by go_num, by omega, fun t ht => by
                by_cases e : t = m
                · subst e
                  rintro (⟨k', hk', hp, m', hm', e'⟩ | ⟨m', hm', e'⟩)
                  · exact hnk.out k' hk' hp m' hm' e'
                  · exact hnm.out m' hm' e'
                · exact hnb.out t (by omega)⟩
              case measure => simp [intOf]; omega
    · go_wp2
      go_ret
      exact ⟨false, rfl, rfl, by simp; rintro ⟨t, ht, hb⟩; exact hnb.out t (by omega) hb⟩
end Go.Proofs.Qxb6614569aMods
