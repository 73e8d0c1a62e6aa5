import Derived.Test.Qxb6627505aW6
namespace Go.Proofs.Qxb6627505a
open Go.RowKit
set_option linter.unusedVariables false

theorem take_set2 (cur : Array Value) (n : Nat) (L : List Value) (a b : Value) (h : n + 2 ≤ cur.size) (ht : cur.toList.take n = L) :
    ((cur.setIfInBounds n a).setIfInBounds (n + 1) b).toList.take (n + 2) = L ++ [a, b] := by
  have hl : L.length = n := by rw [← ht]; simp; omega
  have hd : cur.toList = L ++ cur.toList.drop n := by rw [← ht]; exact (List.take_append_drop n _).symm
  have hdl : 2 ≤ (cur.toList.drop n).length := by simp; omega
  obtain ⟨p, q, r, hr⟩ : ∃ p q r, cur.toList.drop n = p :: q :: r := by
    rcases hc : cur.toList.drop n with _ | ⟨p, _ | ⟨q, r⟩⟩
    · rw [hc] at hdl; simp at hdl
    · rw [hc] at hdl; simp at hdl
    · exact ⟨p, q, r, rfl⟩
  rw [hr] at hd
  subst hl
  simp only [Array.toList_setIfInBounds, hd]
  simp [List.take_append]
  exact List.take_of_length_le (by omega)

set_option maxHeartbeats 800000 in
theorem appendEncode_one (base g cap c : Nat) (x : Addr) (b : Int) (z : List Int) (w : World) (h : Own w base (.slice (some ⟨g, 0, none⟩) z.length cap) z) (hb : base ≤ w.heap.size) (hz : z.length ≤ 9000000)
    (hx : w.cell? x = some (.int .u8 b)) (h0 : 0 ≤ b) (h1 : b ≤ 255) (hne : x.block ≠ g) :
    Calls Try.prog 13 #[.slice (some ⟨g, 0, none⟩) z.length cap, .slice (some x) 1 c] w fun e w' => ∃ g' cap', e = .returned (.slice (some ⟨g', 0, none⟩) (z.length + 2) cap') ∧
      Own w' base (.slice (some ⟨g', 0, none⟩) (z.length + 2) cap') (z ++ [hexd (b / 16), hexd (b % 16)]) ∧ Keep (fun k => k = g) w w' ∧ (g' = g ∨ w.heap.size ≤ g') := by
  have hxl : x.block < w.heap.size := World.block_lt_of_cell? _ _ hx
  go_enter Try.func13, Try.ntmps13
  go_wp2_with (first | (go_at_call 18; refine (encLen_any 1 _ (by decide) (by decide)).mono ?_; rintro e w' ⟨rfl, hw⟩; obtain rfl := hw.symm) | (go_at_call 19; refine (grow_any base g cap z _ h hb hz).mono ?_; rintro e w2 ⟨g2, cap2, rfl, ⟨cur, q1, q2, q3, q4, q5, q6, q7⟩, hk2, hg2⟩; have hx2 : w2.cell? x = some (.int .u8 b) := (hk2.cell hxl hne).trans hx; have hcap2 : cap2 ≤ 9223372036854775807 := (by simpa [maxLen] using q5); have hne2 : x.block ≠ g2 := by rcases hg2 with e | e <;> omega) | (go_at_call 20; refine (encode_one g2 z.length _ c x b _ hx2 h0 h1 cur q2 (by omega) hne2).mono ?_; rintro e w3 ⟨rfl, hw3⟩))
  go_ret
  subst hw3
  have hB2 : Blk w2 g2 cur 5 := q2
  have hB3 := (hB2.set z.length (.int .u8 (hexd (b / 16)))).set (z.length + 1) (.int .u8 (hexd (b % 16)))
  refine ⟨g2, cap2, rfl, ⟨by simp [vals], .inr ⟨g2, cap2, _, by simp, q1, hB3, by simp; omega, q5, by simp [q6], ?_⟩⟩, ?_, hg2⟩
  · have := take_set2 cur z.length (vals z) (.int .u8 (hexd (b / 16))) (.int .u8 (hexd (b % 16))) (by omega) q7
    simpa [vals] using this
  · have key : ∀ i, i < w.heap.size → i = g2 → i = g := fun i hi e => by rcases hg2 with e2 | e2 <;> omega
    exact hk2.then (keep2 _ g2 _ _ z.length (z.length + 1)) (fun i hi e => key i hi e)
end Go.Proofs.Qxb6627505a
