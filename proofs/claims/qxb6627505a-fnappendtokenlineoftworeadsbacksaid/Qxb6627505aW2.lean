import Derived.Test.Qxb6627505aW1
import Derived.Test.Qxb6627505aMem
namespace Go.Proofs.Qxb6627505a
open Go.RowKit
set_option linter.unusedVariables false

/-- A slice that reads as the bytes z. -/
def Rd (w : World) (a : Option Addr) (z : List Int) : Prop := (a = none ∧ z = []) ∨ ∃ x, a = some x ∧ ∀ i, i < z.length → w.cell? (x.add i) = some (.int .u8 (z.getD i 0))
def U8 (z : List Int) : Prop := ∀ x ∈ z, 0 ≤ x ∧ x ≤ 255
theorem U8.at {z : List Int} (h : U8 z) (i : Nat) (hi : i < z.length) : 0 ≤ z.getD i 0 ∧ z.getD i 0 ≤ 255 := by
  have : z.getD i 0 = z[i] := by simp [hi]
  rw [this]; exact h _ (List.getElem_mem hi)
theorem Rd.keep {w w' : World} {a : Option Addr} {z : List Int} {S : Nat → Prop} (h : Rd w a z) (k : Keep S w w') (hs : ∀ x, a = some x → ¬ S x.block) : Rd w' a z := by
  rcases h with h | ⟨x, h1, h3⟩
  · exact .inl h
  · exact .inr ⟨x, h1, fun i hi => by
      have hb : (x.add i).block = x.block := by unfold Addr.add; split <;> rfl
      exact (k.cell (p := x.add i) (World.block_lt_of_cell? _ _ (h3 i hi)) (by rw [hb]; exact hs x h1)).trans (h3 i hi)⟩
theorem Rd.non {w w' : World} {a : Option Addr} {z : List Int} (h : Rd w a z) (k : Keep Non w w') : Rd w' a z := h.keep k fun _ _ e => e

def bareTok (z : List Int) : Bool := z.all bare && !z.isEmpty

theorem bareTok_no {z : List Int} {k : Nat} (hk : k < z.length) (h : bare (z.getD k 0) = false) : bareTok z = false := by
  have : z.all bare = false := by
    rw [List.all_eq_false]
    exact ⟨z[k], List.getElem_mem hk, by simp [hk] at h; simp [h]⟩
  simp [bareTok, this]
theorem bareTok_all {z : List Int} (h : ∀ i, i < z.length → bare (z.getD i 0) = true) : bareTok z = decide (0 < z.length) := by
  have : z.all bare = true := by
    rw [List.all_eq_true]
    intro x hx
    obtain ⟨i, hi, rfl⟩ := List.getElem_of_mem hx
    have := h i hi
    simpa [hi] using this
  cases z <;> simp_all [bareTok]

set_option maxHeartbeats 800000 in
theorem bareToken_any (a : Option Addr) (z : List Int) (c : Nat) (w : World) (h : Rd w a z) (hu : U8 z) (hn : z.length ≤ 9000000) :
    Calls Try.prog 11 #[.slice a z.length c] w fun e w' => e = .returned (.bool (bareTok z)) ∧ w' = w := by
  go_enter Try.func11, Try.ntmps11
  go_wp2
  go_loop [7] (fun i => ∃ k : Nat, k ≤ z.length ∧ i = .int .i64 k ∧ Hid (∀ j, j < k → bare (z.getD j 0) = true)) (fun i => z.length - (intOf i).toNat)
  case atStart => exact ⟨0, Nat.zero_le _, rfl, fun j hj => by omega⟩
  case round =>
    obtain ⟨k, hk, rfl, hb⟩ := hrel
    by_cases hlt : k < z.length
    · rcases h with h | ⟨x, rfl, f⟩
      · rw [h.2] at hlt; simp at hlt
      have y := f k hlt
      clear f
      have hb2 := hu.at k hlt
      have hlt' : (k : Int) < (z.length : Int) := by omega
      obtain ⟨cc, hc⟩ : ∃ cc, Hid (z.getD k 0 = cc) := ⟨_, rfl⟩
      rw [hc.out] at y hb2
      cases hbc : bare cc
      · go_wp2_with (go_at_call 17; refine (isBare_any _ _ hb2.1 hb2.2).mono ?_; rintro e w' ⟨rfl, hw⟩; obtain rfl := hw.symm; rw [hbc])
        go_ret
        exact ⟨by rw [bareTok_no hlt (by rw [hc.out]; exact hbc)]; rfl, rfl⟩
      · go_wp2_with (go_at_call 17; refine (isBare_any _ _ hb2.1 hb2.2).mono ?_; rintro e w' ⟨rfl, hw⟩; obtain rfl := hw.symm; rw [hbc])
        go_round
        case rel => exact ⟨k + 1, by omega, by go_num, fun j hj => by by_cases e : j = k; (subst e; rw [hc.out]; exact hbc); exact hb.out j (by omega)⟩
        case measure => simp [intOf]; omega
    · go_wp2
      go_ret
      have e : k = z.length := by omega
      subst e
      exact ⟨by rw [bareTok_all hb.out]; simp, rfl⟩
end Go.Proofs.Qxb6627505a
