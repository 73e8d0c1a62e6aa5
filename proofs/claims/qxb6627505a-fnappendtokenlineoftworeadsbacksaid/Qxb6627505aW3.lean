import Derived.Test.Qxb6627505aW2
import Derived.Deep.QuietTactic
namespace Go.Proofs.Qxb6627505a
open Go.RowKit
set_option linter.unusedVariables false

set_option maxHeartbeats 800000 in
theorem bareForm_any (a : Option Addr) (z : List Int) (c : Nat) (w : World) (h : Rd w a z) (hu : U8 z) (hn : z.length ≤ 9000000) :
    Calls Try.prog 16 #[.slice a z.length c] w fun e w' => e = .returned (.bool (bareTok z)) ∧ w' = w := by
  by_cases hz : z.length = 0
  · have e : z = [] := List.eq_nil_of_length_eq_zero hz
    subst e
    go_enter Try.func16, Try.ntmps16
    go_wp2
    go_ret
    exact ⟨rfl, rfl⟩
  have hz1 : ((z.length : Int) == 0) = false := by simp; intro e; subst e; simp at hz
  go_enter Try.func16, Try.ntmps16
  go_wp2
  go_loop [3] (fun i => ∃ k : Nat, k ≤ z.length ∧ i = .int .i64 k ∧ Hid (∀ j, j < k → bare (z.getD j 0) = true)) (fun i => z.length - (intOf i).toNat)
  case atStart => exact ⟨0, Nat.zero_le _, rfl, fun j hj => by omega⟩
  case round =>
    obtain ⟨k, hk, rfl, hb⟩ := hrel
    by_cases hlt : k < z.length
    · rcases h with h | ⟨x, rfl, f⟩
      · rw [h.2] at hlt; simp at hlt
      have y := f k hlt
      clear f
      have hb2 := hu.at k hlt
      have hlt' : (k : Int) < (z.length : Int) := by omega
      obtain ⟨cc, hc⟩ : ∃ cc, Hid (z.getD k 0 = cc) := ⟨_, rfl⟩
      rw [hc.out] at y hb2
      cases hbc : bare cc
      · go_wp2_with (go_at_call 14; refine (bareByte_any _ _ hb2.1 hb2.2).mono ?_; rintro e w' ⟨rfl, hw⟩; obtain rfl := hw.symm; rw [hbc])
        go_ret
        exact ⟨by rw [bareTok_no hlt (by rw [hc.out]; exact hbc)]; rfl, rfl⟩
      · go_wp2_with (go_at_call 14; refine (bareByte_any _ _ hb2.1 hb2.2).mono ?_; rintro e w' ⟨rfl, hw⟩; obtain rfl := hw.symm; rw [hbc])
        go_round
        case rel => exact ⟨k + 1, by omega, by go_num, fun j hj => by by_cases e : j = k; (subst e; rw [hc.out]; exact hbc); exact hb.out j (by omega)⟩
        case measure => simp [intOf]; omega
    · go_wp2
      go_ret
      have e : k = z.length := by omega
      subst e
      exact ⟨by rw [bareTok_all hb.out]; simp; omega, rfl⟩

theorem list_ne_at {y z : List Int} {k : Nat} (h : y.length = z.length) (hk : k < y.length) (hne : ¬ y.getD k 0 = z.getD k 0) : decide (y = z) = false := by
  simp; intro e; subst e; exact hne rfl
theorem list_eq_all {y z : List Int} (h : y.length = z.length) (ha : ∀ i, i < y.length → y.getD i 0 = z.getD i 0) : decide (y = z) = true := by
  simp
  apply List.ext_getElem h
  intro i h1 h2
  have := ha i h1
  simpa [h1, h2] using this

set_option maxHeartbeats 800000 in
theorem eq_any (a b : Option Addr) (y z : List Int) (c d : Nat) (w : World) (h : Rd w a y) (g : Rd w b z) (hy : y.length ≤ 9000000) (hz : z.length ≤ 9000000) :
    Calls Try.prog 8 #[.slice a y.length c, .slice b z.length d] w fun e w' => e = .returned (.bool (decide (y = z))) ∧ Keep Non w w' := by
  by_cases hl0 : y.length = z.length
  · have hl1 : ((y.length : Int) != (z.length : Int)) = false := by simp [hl0]
    have hl : Hid (y.length = z.length) := hl0
    clear hl0
    go_enter Try.func8, Try.ntmps8
    go_wp2
    go_loopw [5] (fun i wr => ∃ k : Nat, k ≤ y.length ∧ i = .int .i64 k ∧ Hid (∀ j, j < k → y.getD j 0 = z.getD j 0) ∧ Keep Non w wr) (fun i _ => y.length - (intOf i).toNat)
    case atStart => exact ⟨0, Nat.zero_le _, rfl, fun j hj => by omega, Keep.refl _ _⟩
    case round =>
      obtain ⟨k, hk, rfl, hb, hw⟩ := hrel
      by_cases hlt : k < y.length
      · rcases h.non hw with h | ⟨x, rfl, f⟩
        · rw [h.2] at hlt; simp at hlt
        rcases g.non hw with g | ⟨x2, rfl, f2⟩
        · rw [hl.out, g.2] at hlt; simp at hlt
        have y1 := f k hlt
        have y2 := f2 k (by rw [← hl.out]; exact hlt)
        have hlt' : (k : Int) < (y.length : Int) := by omega
        have hlt2 : (k : Int) < (z.length : Int) := by rw [← hl.out]; exact hlt'
        clear f f2
        obtain ⟨cc, hc⟩ : ∃ cc, Hid (y.getD k 0 = cc) := ⟨_, rfl⟩
        obtain ⟨dd, hd⟩ : ∃ dd, Hid (z.getD k 0 = dd) := ⟨_, rfl⟩
        rw [hc.out] at y1
        rw [hd.out] at y2
        by_cases hcd : cc = dd
        · have hq : (cc != dd) = false := by simp [hcd]
          have hcd' : Hid (cc = dd) := hcd
          clear hcd
          go_wp2
          go_quiet (fail)
          go_wp2
          go_roundw
          case rel => exact ⟨k + 1, by omega, by go_num, fun j hj => by by_cases e : j = k; (subst e; rw [hc.out, hd.out]; exact hcd'.out); exact hb.out j (by omega), hw.drewN _⟩
          case measure => simp [intOf]; omega
        · have hq : (cc != dd) = true := by simp [hcd]
          go_wp2
          go_quiet (fail)
          go_wp2
          go_ret
          exact ⟨by rw [list_ne_at hl.out hlt (by rw [hc.out, hd.out]; exact hcd)]; rfl, hw.drewN _⟩
      · go_wp2
        go_ret
        have e : k = y.length := by omega
        subst e
        exact ⟨by rw [list_eq_all hl.out hb.out]; rfl, hw⟩
  · have hl1 : ((y.length : Int) != (z.length : Int)) = true := by simp; omega
    go_enter Try.func8, Try.ntmps8
    go_wp2
    go_ret
    refine ⟨?_, Keep.refl _ _⟩
    have : decide (y = z) = false := by simp; intro e; subst e; exact hl0 rfl
    rw [this]; rfl
end Go.Proofs.Qxb6627505a
