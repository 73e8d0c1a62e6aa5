import Derived.Test.Qxb6628190aW1
import Derived.Test.Qxb6628190aMem
namespace Go.Proofs.Qxb6628190a
open Go.RowKit
set_option linter.unusedVariables false

/-- The high word of a Decimal: magnitude, exponent's bits, sign. -/
def hiw (neg : Bool) (m E : Nat) : Nat := m + 144115188075855872 * E + (if neg then 9223372036854775808 else 0)
theorem hiw_lt (neg : Bool) (m E : Nat) (hm : m < 144115188075855872) (hE : E < 64) : hiw neg m E < 18446744073709551616 := by
  unfold hiw; split <;> omega
theorem hiw_mag (neg : Bool) (m E : Nat) (hm : m < 144115188075855872) (hE : E < 64) : bits .and .u64 (hiw neg m E : Int) 144115188075855871 = (m : Int) := by
  have h := bits_and_u64_nat (hiw neg m E) 144115188075855871 (hiw_lt neg m E hm hE) (by omega)
  have e : hiw neg m E &&& 144115188075855871 = hiw neg m E % 2 ^ 57 := Nat.and_two_pow_sub_one_eq_mod _ 57
  rw [e] at h
  refine Eq.trans h ?_
  have : hiw neg m E % 2 ^ 57 = m := by unfold hiw; split <;> omega
  rw [this]
theorem hiw_neg (neg : Bool) (m E : Nat) (hm : m < 144115188075855872) (hE : E < 64) : bits .and .u64 (hiw neg m E : Int) 9223372036854775808 = if neg then 9223372036854775808 else 0 := by
  have h := bits_and_u64_nat (hiw neg m E) 9223372036854775808 (hiw_lt neg m E hm hE) (by omega)
  refine Eq.trans h ?_
  have e2 : (9223372036854775808 : Nat) = 2 ^ 63 := by decide
  cases neg
  · have hb : (hiw false m E).testBit 63 = false := by
      rw [Nat.testBit_eq_decide_div_mod_eq]; unfold hiw; simp; omega
    have : hiw false m E &&& 9223372036854775808 = 0 := by
      rw [e2]
      apply Nat.eq_of_testBit_eq
      intro i
      rw [Nat.testBit_and, Nat.testBit_two_pow, Nat.zero_testBit]
      by_cases hi : 63 = i
      · subst hi; simp [hb]
      · simp [hi]
    rw [this]; rfl
  · have hb : (hiw true m E).testBit 63 = true := by
      rw [Nat.testBit_eq_decide_div_mod_eq]; unfold hiw; simp; omega
    have : hiw true m E &&& 9223372036854775808 = 9223372036854775808 := by
      rw [e2]
      apply Nat.eq_of_testBit_eq
      intro i
      rw [Nat.testBit_and, Nat.testBit_two_pow]
      by_cases hi : 63 = i
      · subst hi; simp [hb]
      · simp [hi]
    rw [this]; rfl
theorem hiw_or1 (m X : Nat) (hm : m < 144115188075855872) (hX : X < 64) : bits .or .u64 (m : Int) ((X : Int) * 144115188075855872) = (hiw false m X : Int) := by
  have e1 : (X : Int) * 144115188075855872 = ((2 ^ 57 * X : Nat) : Int) := by omega
  rw [e1, bits_or_u64_nat _ _ (by omega) (by omega), Nat.or_comm, or_add 57 X m (by omega)]
  unfold hiw; simp; omega
theorem hiw_or2 (m X : Nat) (hm : m < 144115188075855872) (hX : X < 64) : bits .or .u64 (hiw false m X : Int) 9223372036854775808 = (hiw true m X : Int) := by
  have hl : hiw false m X < 2 ^ 63 := by unfold hiw; simp; omega
  have h := bits_or_u64_nat (hiw false m X) 9223372036854775808 (by omega) (by omega)
  refine Eq.trans h ?_
  have e2 : (9223372036854775808 : Nat) = 2 ^ 63 * 1 := by decide
  rw [e2, Nat.or_comm, or_add 63 1 _ hl]
  unfold hiw; simp; omega
theorem exp_bits (e : Int) : ∃ X : Nat, X < 64 ∧ bits .and .u64 (IntKind.u64.wrap e) 63 = (X : Int) := by
  have h0 : 0 ≤ IntKind.u64.wrap e ∧ IntKind.u64.wrap e < 18446744073709551616 := by rw [IntKind.wrap_u64]; omega
  obtain ⟨n, hn⟩ : ∃ n : Nat, IntKind.u64.wrap e = (n : Int) := ⟨(IntKind.u64.wrap e).toNat, by omega⟩
  rw [hn] at h0 ⊢
  have h := bits_and_u64_nat n 63 (by omega) (by omega)
  have e : n &&& 63 = n % 2 ^ 6 := Nat.and_two_pow_sub_one_eq_mod _ 6
  exact ⟨n % 2 ^ 6, by omega, by rw [e] at h; exact h⟩

set_option maxHeartbeats 400000 in
theorem compose_any (neg : Bool) (m l : Nat) (x : Int) (w : World) (hm : m < 144115188075855872) :
    Calls Try.prog 12 #[.bool neg, .agg #[.int .u64 m, .int .u64 l], .int .i64 x] w fun e w' => (∃ X : Nat, X < 64 ∧ e = .returned (.agg #[.int .u64 (hiw neg m X : Nat), .int .u64 l])) ∧ Keep Non w w' := by
  obtain ⟨X, hX, hb⟩ := exp_bits x
  have o1 := hiw_or1 m X hm hX
  have o2 := hiw_or2 m X hm hX
  cases neg
  all_goals (
    go_enter Try.func12, Try.ntmps12
    go_wp2)
  · exact bodyPost_ret (v := .agg #[.int .u64 (hiw false m X : Nat), .int .u64 l]) (by simp [results, Try.results12, go_sem]) rfl ⟨⟨X, hX, rfl⟩, ((Keep.refl _ _).alloc _).alloc _⟩
  · exact bodyPost_ret (v := .agg #[.int .u64 (hiw true m X : Nat), .int .u64 l]) (by simp [results, Try.results12, go_sem]) rfl ⟨⟨X, hX, rfl⟩, ((Keep.refl _ _).alloc _).alloc _⟩

set_option maxHeartbeats 400000 in
theorem zzcompose_any (neg : Bool) (m l : Nat) (x : Int) (w : World) (hm : m < 144115188075855872) :
    Calls Try.prog 6 #[.bool neg, .int .u64 m, .int .u64 l, .int .i64 x] w fun e w' => (∃ X : Nat, X < 64 ∧ e = .returned (.agg #[.int .u64 (hiw neg m X : Nat), .int .u64 l])) ∧ Keep Non w w' := by
  go_enter Try.func6, Try.ntmps6
  go_wp2_with (go_at_call 12; refine (compose_any neg m l x _ hm).mono ?_; rintro e w2 ⟨⟨X, hX, rfl⟩, hk⟩; have hB : Blk w2 w.heap.size #[.int .u64 0, .int .u64 0] 25 := (Blk.new w _ _).non hk; have z0 : (World.cell? w2 ⟨w.heap.size, 0, none⟩) = some (.int .u64 0) := (hB.cell 0).trans rfl; have z1 : (World.cell? w2 ⟨w.heap.size, 1, none⟩) = some (.int .u64 0) := (hB.cell 1).trans rfl; have y0 := hB.frozen 0; have y1 := hB.frozen 1)
  exact bodyPost_ret (v := .agg #[.int .u64 (hiw neg m X : Nat), .int .u64 l]) (by simp [results, Try.results6, go_sem, z0, z1]) rfl ⟨⟨X, hX, rfl⟩, ((((Keep.refl _ _).alloc _).non hk).setCell _ _ (fun h => absurd h (Nat.lt_irrefl _))).setCell _ _ (fun h => absurd h (Nat.lt_irrefl _))⟩

theorem mag_any (neg : Bool) (m l X : Nat) (w : World) (hm : m < 144115188075855872) (hX : X < 64) :
    Calls Try.prog 14 #[.agg #[.int .u64 (hiw neg m X : Nat), .int .u64 l]] w fun e w' => e = .returned (.agg #[.int .u64 m, .int .u64 l]) ∧ Keep Non w w' := by
  have o1 := hiw_mag neg m X hm hX
  go_enter Try.func14, Try.ntmps14
  go_wp2
  exact bodyPost_ret (v := .agg #[.int .u64 m, .int .u64 l]) (by simp [results, Try.results14, go_sem]) rfl ⟨rfl, ((Keep.refl _ _).alloc _).alloc _⟩

theorem exponent_any (neg : Bool) (m l X : Nat) (w : World) (hm : m < 144115188075855872) (hX : X < 64) :
    Calls Try.prog 15 #[.agg #[.int .u64 (hiw neg m X : Nat), .int .u64 l]] w fun e w' => (∃ x, e = .returned (.int .i64 x)) ∧ Keep Non w w' := by
  have hl := hiw_lt neg m X hm hX
  go_enter Try.func15, Try.ntmps15
  go_wp2
  go_ret
  exact ⟨⟨_, rfl⟩, (Keep.refl _ _).alloc _⟩

theorem isZero_any (neg : Bool) (m l X : Nat) (w : World) (hm : m < 144115188075855872) (hX : X < 64) :
    Calls Try.prog 13 #[.agg #[.int .u64 (hiw neg m X : Nat), .int .u64 l]] w fun e w' => e = .returned (.bool (decide (m = 0 ∧ l = 0))) ∧ Keep Non w w' := by
  go_enter Try.func13, Try.ntmps13
  go_wp2_with (go_at_call 14; refine (mag_any neg m l X _ hm hX).mono ?_; rintro e w2 ⟨rfl, hk⟩)
  all_goals (go_ret; exact ⟨by simp [*], ((Keep.refl _ _).alloc _).non hk⟩)

/-- The sign of the number. -/
def sgn (neg : Bool) (m l : Nat) : Int := if m = 0 ∧ l = 0 then 0 else if neg then -1 else 1

set_option maxHeartbeats 400000 in
theorem sign_any (neg : Bool) (m l X : Nat) (w : World) (hm : m < 144115188075855872) (hX : X < 64) :
    Calls Try.prog 7 #[.agg #[.int .u64 (hiw neg m X : Nat), .int .u64 l]] w fun e w' => e = .returned (.int .i64 (sgn neg m l)) ∧ Keep Non w w' := by
  have o1 := hiw_neg neg m X hm hX
  by_cases hz : m = 0 ∧ l = 0
  · have hs : sgn neg m l = 0 := by simp [sgn, hz]
    rw [hs]
    have Hz : Hid (m = 0 ∧ l = 0) := hz
    clear hz hs
    go_enter Try.func7, Try.ntmps7
    go_wp2_with (go_at_call 13; refine (isZero_any neg m l X _ hm hX).mono ?_; rintro e w2 ⟨rfl, hk⟩; rw [decide_eq_true Hz.out])
    go_ret
    exact ⟨rfl, ((Keep.refl _ _).alloc _).non hk⟩
  · cases neg
    · have hs : sgn false m l = 1 := by simp [sgn, hz]
      rw [hs]
      have o2 : bits .and .u64 (hiw false m X : Int) 9223372036854775808 = 0 := by simpa using o1
      clear o1
      go_enter Try.func7, Try.ntmps7
      go_wp2_with (go_at_call 13; refine (isZero_any false m l X _ hm hX).mono ?_; rintro e w2 ⟨rfl, hk⟩; rw [decide_eq_false hz]; have hB : Blk w2 w.heap.size #[.int .u64 (hiw false m X : Nat), .int .u64 l] 25 := (Blk.new w _ _).non hk; have z0 : (World.cell? w2 ⟨w.heap.size, 0, none⟩) = some (.int .u64 (hiw false m X : Nat)) := (hB.cell 0).trans rfl; have z1 : (World.cell? w2 ⟨w.heap.size, 1, none⟩) = some (.int .u64 l) := (hB.cell 1).trans rfl; have y0 := hB.frozen 0; have y1 := hB.frozen 1)
      go_ret
      exact ⟨rfl, ((Keep.refl _ _).alloc _).non hk⟩
    · have hs : sgn true m l = -1 := by simp [sgn, hz]
      rw [hs]
      have o2 : bits .and .u64 (hiw true m X : Int) 9223372036854775808 = 9223372036854775808 := by simpa using o1
      clear o1
      go_enter Try.func7, Try.ntmps7
      go_wp2_with (go_at_call 13; refine (isZero_any true m l X _ hm hX).mono ?_; rintro e w2 ⟨rfl, hk⟩; rw [decide_eq_false hz]; have hB : Blk w2 w.heap.size #[.int .u64 (hiw true m X : Nat), .int .u64 l] 25 := (Blk.new w _ _).non hk; have z0 : (World.cell? w2 ⟨w.heap.size, 0, none⟩) = some (.int .u64 (hiw true m X : Nat)) := (hB.cell 0).trans rfl; have z1 : (World.cell? w2 ⟨w.heap.size, 1, none⟩) = some (.int .u64 l) := (hB.cell 1).trans rfl; have y0 := hB.frozen 0; have y1 := hB.frozen 1)
      go_ret
      exact ⟨rfl, ((Keep.refl _ _).alloc _).non hk⟩
end Go.Proofs.Qxb6628190a
