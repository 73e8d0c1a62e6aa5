import Derived.Test.Qxb6628190aW3
import Derived.Test.Qxb6628190aW4
namespace Go.Proofs.Qxb6628190a
open Go.RowKit
set_option linter.unusedVariables false

set_option maxHeartbeats 400000 in
theorem law4_in (neg : Bool) (a b : Nat) (E : Int) (w : World) (h0 : -18 ≤ E) (h1 : E ≤ 18) :
    Calls Try.prog 4 #[.bool neg, .int .u64 a, .int .u64 b, .int .i64 E] w fun e w' => e = .returned (.bool true) ∧ Keep Non w w' := by
  have g1 : decide (E < -18) = false := by simp; omega
  have g2 : decide (18 < E) = false := by simp; omega
  have hsb := sgn_bound neg a b
  have hf1 := sgn_flip neg a b
  have hf2 := sgn_flip (decide (0 < sgn neg a b)) a b
  rw [hf1, Int.neg_neg] at hf2
  obtain ⟨n1, hn1⟩ : ∃ n, Hid (decide (0 < sgn neg a b) = n) := ⟨_, rfl⟩
  rw [hn1.out] at hf1
  obtain ⟨n2, hn2⟩ : ∃ n, Hid (decide (0 < sgn n1 a b) = n) := ⟨_, rfl⟩
  have hf2' : sgn n2 a b = sgn neg a b := by rw [← hn2.out, hf1]; exact hf2
  clear hf2
  obtain ⟨s, hs⟩ : ∃ s, Hid (sgn neg a b = s) := ⟨_, rfl⟩
  rw [hs.out] at hsb hf1 hf2'
  have Hf1 : Hid (sgn n1 a b = - s) := hf1
  have Hf2 : Hid (sgn n2 a b = s) := hf2'
  clear hf1 hf2'
  obtain ⟨hs1, hs2⟩ := hsb
  go_enter Try.func4, Try.ntmps4
  go_wp2_with (first | (go_at_call 5; refine (held_any a b E _ h0 h1).mono ?_; rintro e w' ⟨⟨r, rfl, hr⟩, hw⟩; obtain rfl := hw.symm; cases r; (all_goals first | (have hm := hr rfl; clear hr) | clear hr)) | (go_at_call 6; refine (zzcompose_any neg a b E _ hm).mono ?_; rintro e w2 ⟨⟨X, hX, rfl⟩, hk2⟩) | (go_at_call 8; refine (signOf_sgn neg a b _).mono ?_; rintro e w' ⟨rfl, hw⟩; obtain rfl := hw.symm; rw [hs.out]) | (go_at_call 9; have _ := hk4; refine (neg_any n1 a b Y _ hm hY).mono ?_; rintro e w5 ⟨⟨Z, hZ, rfl⟩, hk5⟩; rw [hn2.out]) | (go_at_call 9; refine (neg_any neg a b X _ hm hX).mono ?_; rintro e w3 ⟨⟨Y, hY, rfl⟩, hk3⟩; rw [hn1.out]) | (go_at_call 7; have _ := hk5; refine (sign_any n2 a b Z _ hm hZ).mono ?_; rintro e w6 ⟨rfl, hk6⟩; rw [Hf2.out]) | (go_at_call 7; refine (sign_any n1 a b Y _ hm hY).mono ?_; rintro e w4 ⟨rfl, hk4⟩; rw [Hf1.out]; have hB : Blk w4 w3.heap.size #[.int .u64 (hiw n1 a Y : Nat), .int .u64 b] 25 := (Blk.new w3 _ _).non hk4; have z0 : w4.cell? ⟨w3.heap.size, 0, none⟩ = some (.int .u64 (hiw n1 a Y : Nat)) := (hB.cell 0).trans rfl; have z1 : w4.cell? ⟨w3.heap.size, 1, none⟩ = some (.int .u64 b) := (hB.cell 1).trans rfl))
  · go_ret
    exact ⟨rfl, Keep.refl _ _⟩
  · go_ret
    exact ⟨rfl, (((((hk2.alloc _).non hk3).alloc _).non hk4).non hk5).non hk6⟩

theorem law4_out (neg : Bool) (a b : Nat) (E : Int) (w : World) (h : E < -18 ∨ 18 < E) :
    Calls Try.prog 4 #[.bool neg, .int .u64 a, .int .u64 b, .int .i64 E] w fun e w' => e = .returned (.bool true) ∧ Keep Non w w' := by
  rcases h with h | h
  · go_enter Try.func4, Try.ntmps4
    go_wp2
    go_ret
    exact ⟨rfl, Keep.refl _ _⟩
  · have g1 : ¬ E < -18 := by omega
    go_enter Try.func4, Try.ntmps4
    go_wp2
    go_ret
    exact ⟨rfl, Keep.refl _ _⟩

theorem law4_walk (a0 : Bool) (a1 a2 a3 : Int) (W : World) (w1 : (Lit.int .u64 a1).wf = true) (w2 : (Lit.int .u64 a2).wf = true) :
    Calls Try.prog 4 #[.bool a0, .int .u64 a1, .int .u64 a2, .int .i64 a3] W fun e w' => e = .returned (.bool true) ∧ Keep Non W w' := by
  obtain ⟨a, rfl⟩ := nat_of_u64 w1
  obtain ⟨b, rfl⟩ := nat_of_u64 w2
  by_cases h : -18 ≤ a3 ∧ a3 ≤ 18
  · exact law4_in a0 a b a3 W h.1 h.2
  · exact law4_out a0 a b a3 W (by omega)
end Go.Proofs.Qxb6628190a
