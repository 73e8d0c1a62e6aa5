import Derived.Test.Qxb6628190aW2
namespace Go.Proofs.Qxb6628190a
open Go.RowKit
set_option linter.unusedVariables false

theorem signOf_sgn (neg : Bool) (a b : Nat) (w : World) : Calls Try.prog 8 #[.bool neg, .int .u64 a, .int .u64 b] w fun e w' => e = .returned (.int .i64 (sgn neg a b)) ∧ w' = w := signOf_any neg a b w

set_option maxHeartbeats 400000 in
theorem law3_in (neg : Bool) (a b : Nat) (E : Int) (w : World) (h0 : -18 ≤ E) (h1 : E ≤ 18) :
    Calls Try.prog 3 #[.bool neg, .int .u64 a, .int .u64 b, .int .i64 E] w fun e w' => e = .returned (.bool true) ∧ Keep Non w w' := by
  have g1 : decide (E < -18) = false := by simp; omega
  have g2 : decide (18 < E) = false := by simp; omega
  go_enter Try.func3, Try.ntmps3
  go_wp2_with (first | (go_at_call 5; refine (held_any a b E _ h0 h1).mono ?_; rintro e w' ⟨⟨r, rfl, hr⟩, hw⟩; obtain rfl := hw.symm; cases r; (all_goals first | (have hm := hr rfl; clear hr) | clear hr)) | (go_at_call 6; refine (zzcompose_any neg a b E _ hm).mono ?_; rintro e w2 ⟨⟨X, hX, rfl⟩, hk⟩) | (go_at_call 7; refine (sign_any neg a b X _ hm hX).mono ?_; rintro e w3 ⟨rfl, hk3⟩) | (go_at_call 8; refine (signOf_sgn neg a b _).mono ?_; rintro e w' ⟨rfl, hw⟩; obtain rfl := hw.symm))
  · go_ret
    exact ⟨rfl, Keep.refl _ _⟩
  · go_ret
    exact ⟨rfl, (hk.alloc _).non hk3⟩

theorem law3_out (neg : Bool) (a b : Nat) (E : Int) (w : World) (h : E < -18 ∨ 18 < E) :
    Calls Try.prog 3 #[.bool neg, .int .u64 a, .int .u64 b, .int .i64 E] w fun e w' => e = .returned (.bool true) ∧ Keep Non w w' := by
  rcases h with h | h
  · go_enter Try.func3, Try.ntmps3
    go_wp2
    go_ret
    exact ⟨rfl, Keep.refl _ _⟩
  · have g1 : ¬ E < -18 := by omega
    go_enter Try.func3, Try.ntmps3
    go_wp2
    go_ret
    exact ⟨rfl, Keep.refl _ _⟩

theorem nat_of_u64 {n : Int} (h : (Lit.int .u64 n).wf = true) : ∃ a : Nat, n = (a : Int) := by
  have e1 : IntKind.u64.min = 0 := by decide
  simp [Lit.wf, e1] at h
  exact ⟨n.toNat, by omega⟩

theorem law3_walk (a0 : Bool) (a1 a2 a3 : Int) (W : World) (w1 : (Lit.int .u64 a1).wf = true) (w2 : (Lit.int .u64 a2).wf = true) :
    Calls Try.prog 3 #[.bool a0, .int .u64 a1, .int .u64 a2, .int .i64 a3] W fun e w' => e = .returned (.bool true) ∧ Keep Non W w' := by
  obtain ⟨a, rfl⟩ := nat_of_u64 w1
  obtain ⟨b, rfl⟩ := nat_of_u64 w2
  by_cases h : -18 ≤ a3 ∧ a3 ≤ 18
  · exact law3_in a0 a b a3 W h.1 h.2
  · exact law3_out a0 a b a3 W (by omega)
end Go.Proofs.Qxb6628190a
