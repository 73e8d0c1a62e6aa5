import Derived.Test.Qxb6627505aW10
namespace Go.Proofs.Qxb6627505a
open Go.RowKit
set_option linter.unusedVariables false

theorem add_add (x : Addr) (i j : Nat) : (x.add i).add j = x.add (i + j) := by
  rcases x with ⟨b, o, s⟩
  by_cases hi : i = 0 <;> by_cases hj : j = 0 <;> simp [Addr.add, hi, hj, Nat.add_assoc]
theorem bareTok_at {z : List Int} (h : bareTok z = true) (i : Nat) (hi : i < z.length) : bare (z.getD i 0) = true := by
  cases hb : bare (z.getD i 0)
  · rw [bareTok_no hi hb] at h; cases h
  · rfl
theorem bareTok_pos {z : List Int} (h : bareTok z = true) : 0 < z.length := by
  rcases z with _ | ⟨x, z⟩
  · simp [bareTok] at h
  · simp
theorem Own.rd {w : World} {base g cap : Nat} {z : List Int} (h : Own w base (.slice (some ⟨g, 0, none⟩) z.length cap) z) : Rd w (some ⟨g, 0, none⟩) z := by
  obtain ⟨hl, hh⟩ := h
  rcases hh with ⟨hh, _⟩ | ⟨g1, cap1, cur, hv, hg1, hcell, hle, hmax, hsz, htk⟩
  · cases hh
  simp only [Value.slice.injEq, Option.some.injEq, Addr.mk.injEq, and_true, true_and] at hv
  obtain ⟨rfl, rfl⟩ := hv
  refine .inr ⟨_, rfl, fun i hi => ?_⟩
  have : (⟨g, 0, none⟩ : Addr).add i = ⟨g, i, none⟩ := by unfold Addr.add; split <;> simp_all
  rw [this, cell_of_row w g i cur 5 (0, 0) hcell]
  simp only [Nat.mul_one] at htk
  have h2 : (cur.toList.take z.length)[i]? = (vals z)[i]? := by rw [htk]
  simp [vals, hi] at h2
  simp [h2, hi]

/-- zzReadForm has read the token t; the form ends at q. -/
def ReadOk (w : World) (t : List Int) (q : Nat) (e : Ending) (w' : World) : Prop := ∃ ao co, e = .returned (.tuple #[.slice ao t.length co, .int .i64 (q : Int), .bool true]) ∧ Rd w' ao t ∧ Keep Non w w'

set_option maxRecDepth 100000 in
set_option maxHeartbeats 1600000 in
theorem read_bare (x : Addr) (s t : List Int) (p c : Nat) (w : World) (h : Rd w (some x) s) (hu : U8 s) (hp : p + t.length ≤ s.length) (hs : ∀ i, i < t.length → s.getD (p + i) 0 = t.getD i 0) (hb : bareTok t = true)
    (hend : p + t.length < s.length → bare (s.getD (p + t.length) 0) = false) (hn : s.length ≤ 9000000) (hc : s.length ≤ c) (hc2 : c ≤ 9223372036854775807) :
    Calls Try.prog 9 #[.slice (some x) s.length c, .int .i64 p] w (ReadOk w t (p + t.length)) := by
  have hpos := bareTok_pos hb
  have y0 := h.cell p (by omega)
  have hbp : bare (s.getD p 0) = true := by have := bareTok_at hb 0 hpos; rw [← hs 0 hpos] at this; simpa using this
  obtain ⟨c0, hc0⟩ : ∃ c0, Hid (s.getD p 0 = c0) := ⟨_, rfl⟩
  rw [hc0.out] at y0 hbp
  have d0 : (c0 == 34) = false := by simp [bare] at hbp; simp; omega
  have hHs : Hid (∀ i, i < t.length → s.getD (p + i) 0 = t.getD i 0) := hs
  have hHe : Hid (p + t.length < s.length → bare (s.getD (p + t.length) 0) = false) := hend
  have hplt : (p : Int) < (s.length : Int) := by omega
  have n1 : decide ((p : Int) < 0) = false := by simp
  have n2 : decide (s.length ≤ p) = false := by simp; omega
  have n3 : (c0 != 34) = true := by simp [bne, d0]
  clear hs hend hbp
  go_enter Try.func9, Try.ntmps9
  go_wp2
  go_loop [7] (fun v => ∃ q : Nat, p ≤ q ∧ q ≤ p + t.length ∧ v = .int .i64 q) (fun v => s.length - (intOf v).toNat)
  case atStart => exact ⟨p, Nat.le_refl _, by omega, rfl⟩
  case round =>
    obtain ⟨q, hq1, hq2, rfl⟩ := hrel
    clear y0 d0
    by_cases hlt : q < p + t.length
    · have y := h.cell q (by omega)
      have hb2 := hu.at q (by omega)
      have hbc : bare (s.getD q 0) = true := by
        have := bareTok_at hb (q - p) (by omega)
        rw [← hHs.out (q - p) (by omega)] at this
        rwa [show p + (q - p) = q by omega] at this
      obtain ⟨cc, hcc⟩ : ∃ cc, Hid (s.getD q 0 = cc) := ⟨_, rfl⟩
      rw [hcc.out] at y hb2 hbc
      have hlt' : (q : Int) < (s.length : Int) := by omega
      go_wp2_with (go_at_call 14; refine (bareByte_any _ _ hb2.1 hb2.2).mono ?_; rintro e w' ⟨rfl, hw⟩; obtain rfl := hw.symm; rw [hbc])
      go_round
      case rel => exact ⟨q + 1, by omega, by omega, by go_num⟩
      case measure => simp [intOf]; omega
    · have hqp : (q : Int) - (p : Int) = (t.length : Int) := by omega
      have hqe : Hid (q = p + t.length) := show q = p + t.length by omega
      have hm : ∀ w, (Instr.makeSlice 22 (.int .i64 ((q : Int) - (p : Int))) (.int .i64 ((q : Int) - (p : Int)))).run Try.prog w = .ok (.slice (some ⟨w.heap.size, 0, none⟩) t.length t.length) (w.alloc (.cells (vals (List.replicate t.length 0)).toArray 5)) := fun w => by rw [hqp]; exact make22 t.length (by omega) w
      have hsrc : ∀ i, i < t.length → (w.alloc (.cells (vals (List.replicate t.length 0)).toArray 5)).cell? ((x.add p).add i) = some (.int .u8 (t.getD i 0)) := fun i hi => by
        rw [add_add, ← hHs.out i hi]
        exact (h.non ((Keep.refl Non w).alloc _)).cell (p + i) (by omega)
      have hqN : Hid (q - p = t.length) := show q - p = t.length by omega
      have hqp' : Hid ((q : Int) - (p : Int) = (t.length : Int)) := hqp
      by_cases hl2 : q < s.length
      · have y := h.cell q hl2
        have hb2 := hu.at q hl2
        have hbc : bare (s.getD q 0) = false := by rw [hqe.out]; exact hHe.out (by have := hqe.out; omega)
        obtain ⟨cc, hcc⟩ : ∃ cc, Hid (s.getD q 0 = cc) := ⟨_, rfl⟩
        rw [hcc.out] at y hb2 hbc
        have hlt' : (q : Int) < (s.length : Int) := by omega
        clear hqp
        go_wp2_with (first | (go_at_call 14; refine (bareByte_any _ _ hb2.1 hb2.2).mono ?_; rintro e w' ⟨rfl, hw⟩; obtain rfl := hw.symm; rw [hbc]) | (refine wpList_copy_all rfl _ _ 22 rfl 5 Try.underlying22 Try.size5 w.heap.size t.length (x.add p) _ rfl (by show Value.slice (some (x.add p)) (q - p) (c - p) = _; rw [hqN.out]) (vals (List.replicate t.length 0)).toArray (Blk.new _ _ _) (by simp [vals]) (fun i => .int .u8 (t.getD i 0)) hsrc (fun _ => rfl) ?_; intro w2 hB hk; rw [range_vals] at hB; clear hsrc))
        go_ret3
        have hB2 : Rd w2 (some ⟨w.heap.size, 0, none⟩) t := .inr ⟨_, rfl, fun i hi => by
          have : (⟨w.heap.size, 0, none⟩ : Addr).add i = ⟨w.heap.size, i, none⟩ := by unfold Addr.add; split <;> simp_all
          rw [this, hB.cell i]; simp [vals, hi]⟩
        exact ⟨some ⟨w.heap.size, 0, none⟩, t.length, (by have e := hqe.out; subst e; rfl), hB2, ((Keep.refl Non w).alloc _).then hk fun i hi e => by omega⟩
      · clear hqp
        have hlt' : ¬ (q : Int) < (s.length : Int) := by omega
        go_wp2_with (first | (refine wpList_copy_all rfl _ _ 22 rfl 5 Try.underlying22 Try.size5 w.heap.size t.length (x.add p) _ rfl (by show Value.slice (some (x.add p)) (q - p) (c - p) = _; rw [hqN.out]) (vals (List.replicate t.length 0)).toArray (Blk.new _ _ _) (by simp [vals]) (fun i => .int .u8 (t.getD i 0)) hsrc (fun _ => rfl) ?_; intro w2 hB hk; rw [range_vals] at hB; clear hsrc))
        go_ret3
        have hB2 : Rd w2 (some ⟨w.heap.size, 0, none⟩) t := .inr ⟨_, rfl, fun i hi => by
          have : (⟨w.heap.size, 0, none⟩ : Addr).add i = ⟨w.heap.size, i, none⟩ := by unfold Addr.add; split <;> simp_all
          rw [this, hB.cell i]; simp [vals, hi]⟩
        exact ⟨some ⟨w.heap.size, 0, none⟩, t.length, (by have e := hqe.out; subst e; rfl), hB2, ((Keep.refl Non w).alloc _).then hk fun i hi e => by omega⟩
end Go.Proofs.Qxb6627505a
