import Derived.Test.Qxb6628190aRows
import Derived.WalkKit
import Derived.WalkSpells
import Derived.Laws.Bits64b
namespace Go.Proofs.Qxb6628190a
open Go.RowKit
set_option linter.unusedVariables false

theorem or_add (i a b : Nat) (h : b < 2 ^ i) : (2 ^ i * a) ||| b = 2 ^ i * a + b := (Nat.two_pow_add_eq_or_of_lt h a).symm
theorem or8 (hi lo : Nat) (h : hi < 9007199254740992) (l : lo < 18446744073709551616) : bits .or .u64 ((hi : Int) * 8) ((lo : Int) / 2305843009213693952) = (hi : Int) * 8 + (lo : Int) / 2305843009213693952 := by
  have e1 : (hi : Int) * 8 = ((2 ^ 3 * hi : Nat) : Int) := by omega
  have e2 : (lo : Int) / 2305843009213693952 = ((lo / 2305843009213693952 : Nat) : Int) := by omega
  rw [e1, e2, bits_or_u64_nat _ _ (by omega) (by omega), or_add 3 hi _ (by omega)]
  omega
theorem or2 (hi lo : Nat) (h : hi < 9007199254740992) (l : lo < 18446744073709551616) : bits .or .u64 ((hi : Int) * 2) ((lo : Int) / 9223372036854775808) = (hi : Int) * 2 + (lo : Int) / 9223372036854775808 := by
  have e1 : (hi : Int) * 2 = ((2 ^ 1 * hi : Nat) : Int) := by omega
  have e2 : (lo : Int) / 9223372036854775808 = ((lo / 9223372036854775808 : Nat) : Int) := by omega
  rw [e1, e2, bits_or_u64_nat _ _ (by omega) (by omega), or_add 1 hi _ (by omega)]
  omega

set_option maxHeartbeats 800000 in
theorem pow_any (K : Nat) (hK : K ≤ 36) (w : World) : Calls Try.prog 10 #[.int .i64 K] w fun e w' => (∃ hi lo : Nat, e = .returned (.tuple #[.int .u64 hi, .int .u64 lo]) ∧ hi * 18446744073709551616 + lo = 10 ^ K ∧ lo < 18446744073709551616) ∧ w' = w := by
  go_enter Try.func10, Try.ntmps10
  go_wp2
  go_loop [4, 5, 6] (fun h l i => ∃ k hi lo : Nat, k ≤ K ∧ h = .int .u64 hi ∧ l = .int .u64 lo ∧ i = .int .i64 k ∧ hi * 18446744073709551616 + lo = 10 ^ k ∧ lo < 18446744073709551616) (fun _ _ i => K - (intOf i).toNat)
  case atStart => exact ⟨0, 0, 1, Nat.zero_le _, rfl, rfl, rfl, rfl, by omega⟩
  case round =>
    obtain ⟨k, hi, lo, hk, rfl, rfl, rfl, hv, hlo⟩ := hrel
    by_cases hlt : k < K
    · have hlt' : (k : Int) < (K : Int) := by omega
      have hV : 10 ^ k ≤ 10 ^ 35 := Nat.pow_le_pow_right (by omega) (by omega)
      have hhi : hi < 9007199254740992 := by
        have : (10 ^ 35 : Nat) = 100000000000000000000000000000000000 := by decide
        omega
      clear hV
      have Hv : Hid (hi * 18446744073709551616 + lo = 10 ^ k) := hv
      clear hv
      have o1 := or8 hi lo hhi hlo
      have o2 := or2 hi lo hhi hlo
      obtain ⟨A, hA, hA2⟩ : ∃ A : Nat, lo * 8 = 18446744073709551616 * (lo / 2305843009213693952) + A ∧ A < 18446744073709551616 := ⟨lo * 8 % 18446744073709551616, by omega, by omega⟩
      obtain ⟨B, hB, hB2⟩ : ∃ B : Nat, lo * 2 = 18446744073709551616 * (lo / 9223372036854775808) + B ∧ B < 18446744073709551616 := ⟨lo * 2 % 18446744073709551616, by omega, by omega⟩
      have wA : IntKind.u64.wrap ((lo : Int) * 8) = (A : Int) := by rw [IntKind.wrap_u64]; omega
      have wB : IntKind.u64.wrap ((lo : Int) * 2) = (B : Int) := by rw [IntKind.wrap_u64]; omega
      have e1 : (lo : Int) / 2305843009213693952 = ((lo / 2305843009213693952 : Nat) : Int) := by omega
      have e2 : (lo : Int) / 9223372036854775808 = ((lo / 9223372036854775808 : Nat) : Int) := by omega
      rw [e1] at o1
      rw [e2] at o2
      have he : lo / 2305843009213693952 < 8 := by omega
      have hf : lo / 9223372036854775808 < 2 := by omega
      generalize lo / 2305843009213693952 = e at *
      generalize lo / 9223372036854775808 = f at *
      by_cases hC : A + B < 18446744073709551616
      · have wC : IntKind.u64.wrap ((A : Int) + (B : Int)) = (A : Int) + (B : Int) := by rw [IntKind.wrap_u64]; omega
        have hC' : ¬ ((A : Int) + (B : Int) < (A : Int)) := by omega
        have HA : Hid (lo * 8 = 18446744073709551616 * e + A) := hA
        have HB : Hid (lo * 2 = 18446744073709551616 * f + B) := hB
        clear hA hB
        go_wp2
        have hA := HA.out
        have hB := HB.out
        go_round
        case rel =>
          refine ⟨k + 1, hi * 10 + e + f + 0, A + B, by omega, ?_, ?_, by go_num, ?_, by omega⟩
          · first | rfl | (congr 1; omega)
          · first | rfl | (congr 1; omega)
          · rw [Nat.pow_succ, ← Hv.out]; omega
        case measure => simp [intOf]; omega
      · have wC : IntKind.u64.wrap ((A : Int) + (B : Int)) = (A : Int) + (B : Int) - 18446744073709551616 := by rw [IntKind.wrap_u64]; omega
        have hC' : (A : Int) + (B : Int) - 18446744073709551616 < (A : Int) := by omega
        have HA : Hid (lo * 8 = 18446744073709551616 * e + A) := hA
        have HB : Hid (lo * 2 = 18446744073709551616 * f + B) := hB
        clear hA hB
        go_wp2
        have hA := HA.out
        have hB := HB.out
        go_round
        case rel =>
          refine ⟨k + 1, hi * 10 + e + f + 1, A + B - 18446744073709551616, by omega, ?_, ?_, by go_num, ?_, by omega⟩
          · first | rfl | (congr 1; omega)
          · first | rfl | (congr 1; omega)
          · rw [Nat.pow_succ, ← Hv.out]; omega
        case measure => simp [intOf]; omega
    · have hke : k = K := by omega
      subst hke
      go_wp2
      go_ret2
      exact ⟨⟨hi, lo, rfl, hv, hlo⟩, rfl⟩

theorem below_any (a b c d : Int) (w : World) : Calls Try.prog 11 #[.int .u64 a, .int .u64 b, .int .u64 c, .int .u64 d] w fun e w' => e = .returned (.bool (decide (a < c ∨ a = c ∧ b < d))) ∧ w' = w := by
  go_enter Try.func11, Try.ntmps11
  go_wp2
  all_goals (go_ret; refine ⟨?_, rfl⟩; simp_all)

/-- What 'held' tells: the magnitude's high word is below 2^57. -/
theorem held_any (a b : Nat) (E : Int) (w : World) (h0 : -18 ≤ E) (h1 : E ≤ 18) : Calls Try.prog 5 #[.int .u64 a, .int .u64 b, .int .i64 E] w fun e w' => (∃ r, e = .returned (.bool r) ∧ (r = true → a < 144115188075855872)) ∧ w' = w := by
  obtain ⟨K, hK⟩ : ∃ K : Nat, 18 - E = (K : Int) := ⟨(18 - E).toNat, by omega⟩
  have hK2 : K ≤ 36 := by omega
  have g1 : decide (E < -18) = false := by simp; omega
  have g2 : decide (18 < E) = false := by simp; omega
  go_enter Try.func5, Try.ntmps5
  go_wp2_with (first | (go_at_call 10; refine (pow_any K hK2 _).mono ?_; rintro e w' ⟨⟨hi, lo, rfl, hv, hlo⟩, hw⟩; obtain rfl := hw.symm) | (go_at_call 11; refine (below_any _ _ _ _ _).mono ?_; rintro e w' ⟨rfl, hw⟩; obtain rfl := hw.symm))
  go_ret
  refine ⟨⟨_, rfl, fun hr => ?_⟩, rfl⟩
  have hV : 10 ^ K ≤ 10 ^ 36 := Nat.pow_le_pow_right (by omega) hK2
  have : (10 ^ 36 : Nat) = 1000000000000000000000000000000000000 := by decide
  simp at hr
  omega

theorem signOf_any (neg : Bool) (a b : Nat) (w : World) : Calls Try.prog 8 #[.bool neg, .int .u64 a, .int .u64 b] w fun e w' => e = .returned (.int .i64 (if a = 0 ∧ b = 0 then 0 else if neg then -1 else 1)) ∧ w' = w := by
  by_cases ha : a = 0
  · subst ha
    by_cases hb : b = 0
    · subst hb
      go_enter Try.func8, Try.ntmps8
      go_wp2
      go_ret
      exact ⟨rfl, rfl⟩
    · have g1 : ((b : Int) == 0) = false := by simp; omega
      cases neg
      all_goals (
        go_enter Try.func8, Try.ntmps8
        go_wp2
        go_ret
        refine ⟨by simp, rfl⟩)
  · have g1 : ((a : Int) == 0) = false := by simp; omega
    cases neg
    all_goals (
      go_enter Try.func8, Try.ntmps8
      go_wp2
      go_ret
      refine ⟨by simp, rfl⟩)
end Go.Proofs.Qxb6628190a
