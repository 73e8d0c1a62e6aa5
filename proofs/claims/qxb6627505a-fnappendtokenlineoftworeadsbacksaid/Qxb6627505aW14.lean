import Derived.Test.Qxb6627505aW13
namespace Go.Proofs.Qxb6627505a
open Go.RowKit
set_option linter.unusedVariables false

/-- zzClone, then AppendToken: what the two leave. -/
structure Out (w w4 : World) (d s : List Int) (g cap : Nat) : Prop where
  keep : Keep Non w w4
  rd : Rd w4 (some ⟨g, 0, none⟩) (d ++ s)
  le : d.length + s.length ≤ cap
  cap : cap ≤ 9223372036854775807

theorem Out.suf0 {w w4 : World} {d s : List Int} {g cap : Nat} (h : Out w w4 d s g cap) : Rd w4 (some ⟨g, d.length, none⟩) s := by
  have := h.rd.suf
  have e : (⟨g, 0, none⟩ : Addr).add d.length = ⟨g, d.length, none⟩ := by unfold Addr.add; split <;> simp_all
  rwa [e] at this

theorem out_of {w w3 w4 : World} {v v4 : Value} {d s : List Int} (hown : Own w3 w.heap.size v d) (hk : Keep Non w w3) (h : St w3 v w.heap.size w4 v4 (d ++ s)) :
    ∃ g cap, v4 = .slice (some ⟨g, 0, none⟩) (d.length + s.length) cap ∧ Out w w4 d s g cap := by
  obtain ⟨g, cap, rfl, h1, h2, h3⟩ := h
  have hc := h1.cap
  refine ⟨g, cap, by simp, ⟨?_, h1.rd, by simpa using hc.1, hc.2.1⟩⟩
  exact hk.then h2 fun i hi e => by have := hown.block e; omega

theorem eq_same (a b : Option Addr) (z : List Int) (c d : Nat) (w : World) (h : Rd w a z) (g : Rd w b z) (hz : z.length ≤ 9000000) :
    Calls Try.prog 8 #[.slice a z.length c, .slice b z.length d] w fun e w' => e = .returned (.bool true) ∧ Keep Non w w' := by
  have := eq_any a b z z c d w h g hz hz
  rwa [decide_eq_true rfl] at this

theorem read_full (x : Addr) (s t : List Int) (n c : Nat) (w : World) (hs : enc t = s) (hnn : n = s.length) (h : Rd w (some x) s) (u1 : U8 t) (ht : t.length ≤ 524288) (hcp : s.length ≤ c) (hcp2 : c ≤ 9223372036854775807) :
    Calls Try.prog 9 #[.slice (some x) n c, .int .i64 0] w (ReadOk w t s.length) := by
  subst hs
  have := read_any x (enc t) t n 0 c 0 w hnn rfl h (enc_u8 u1) u1 (fun i hi => by rw [Nat.zero_add]) (by omega) (fun hh => by omega) (by have := enc_len t; omega) (by omega) hcp hcp2
  rwa [Nat.zero_add] at this

set_option maxRecDepth 100000 in
set_option maxHeartbeats 1600000 in
theorem law3_copy (a0 : Option Addr) (d : List Int) (c0 : Nat) (x1 : Addr) (t : List Int) (c1 : Nat) (w : World) (h0 : Rd w a0 d) (h1 : Rd w (some x1) t) (u0 : U8 d) (u1 : U8 t) (hd : d.length ≤ 524288) (ht : t.length ≤ 524288) :
    Calls Try.prog 3 #[.slice a0 d.length c0, .slice (some x1) t.length c1] w fun e w' => e = .returned (.bool true) ∧ Keep Non w w' := by
  have hm := fun w => make22 t.length (by omega) w
  have hneq := neq_yes x1 t.length c1
  have hsrc : ∀ i, i < t.length → (w.alloc (.cells (vals (List.replicate t.length 0)).toArray 5)).cell? (x1.add i) = some (.int .u8 (t.getD i 0)) := fun i hi => (h1.non ((Keep.refl Non w).alloc _)).cell i hi
  obtain ⟨s, hs⟩ : ∃ s, Hid (enc t = s) := ⟨_, rfl⟩
  have hsp : 0 < s.length := by rw [← hs.out]; exact enc_pos t
  go_enter Try.func3, Try.ntmps3
  go_wp2_with (first | (go_at_call 5; refine (bytes2 _ _ _ _ _ _ _ (by omega) (by omega)).mono ?_; rintro e w' ⟨⟨r, rfl⟩, hw⟩; obtain rfl := hw.symm; cases r) | (refine wpList_copy_all rfl _ _ 22 rfl 5 Try.underlying22 Try.size5 w.heap.size t.length x1 c1 rfl rfl (vals (List.replicate t.length 0)).toArray (Blk.new _ _ _) (by simp [vals]) (fun i => .int .u8 (t.getD i 0)) hsrc (fun _ => rfl) ?_; intro w2 hB hk; rw [range_vals] at hB; clear hsrc; have hK2 : Keep Non w w2 := ((Keep.refl Non w).alloc _).then hk (fun i hi e => by omega); have hRt := hB.rd; have hB2 := hB.lt) | (go_at_call 6; refine (clone_any a0 d c0 w2 (h0.non hK2) (by omega)).mono ?_; rintro e w3 ⟨v, rfl, hown, hk3⟩; have hne : ∀ x : Addr, ((some ⟨w.heap.size, 0, none⟩) : Option Addr) = some x → v.ownBlock ≠ some x.block := (by intro x hx e; cases hx; have := hown.block e; simp at this; omega)) | (go_at_call 7; refine (token_any (World.heap w2).size v d t (some ⟨w.heap.size, 0, none⟩) _ w3 hown (Rd.non hRt hk3) u1 hk3.size (by omega) (by omega) (by omega) (by omega) hne).mono ?_; rintro e w4 ⟨v4, rfl, hst⟩; rw [hs.out] at hst; obtain ⟨g, cap, rfl, hO⟩ := out_of hown hk3 hst; have hle := hO.le; have hcap := hO.cap; have hcd : ¬ cap = d.length := (by omega)) | (go_at_call 8; have _ := hRg; refine (eq_same ao (some ⟨w.heap.size, 0, none⟩) t co t.length w6 hRg (Rd.non hRt ((hO.keep.trans hk5).trans hk6)) (by omega)).mono ?_; rintro e w7 ⟨rfl, hk7⟩) | (go_at_call 8; refine (eq_same (some ⟨g, 0, none⟩) a0 d cap c0 w4 hO.rd.pre (h0.non (Keep.trans hK2 hO.keep)) (by omega)).mono ?_; rintro e w5 ⟨rfl, hk5⟩) | (go_at_call 9; refine (read_full _ s t _ _ w5 hs.out (by simp) (show Rd w5 (some ⟨g, d.length, none⟩) s from hO.suf0.non hk5) u1 ht (by omega) (by omega)).mono ?_; rintro e w6 ⟨ao, co, rfl, hRg, hk6⟩))
  · go_ret
    exact ⟨rfl, Keep.refl _ _⟩
  · go_ret
    exact ⟨rfl, (((hK2.trans hO.keep).trans hk5).trans hk6).trans hk7⟩

set_option maxRecDepth 100000 in
set_option maxHeartbeats 1600000 in
theorem law3_nil (a0 : Option Addr) (d : List Int) (c0 : Nat) (t : List Int) (c1 : Nat) (w : World) (h0 : Rd w a0 d) (h1 : Rd w none t) (u0 : U8 d) (u1 : U8 t) (hd : d.length ≤ 524288) (ht : t.length ≤ 524288) (hc1 : t.length ≤ c1) (hc2 : c1 ≤ 9223372036854775807) :
    Calls Try.prog 3 #[.slice a0 d.length c0, .slice none t.length c1] w fun e w' => e = .returned (.bool true) ∧ Keep Non w w' := by
  have hneq := neq_no t.length c1
  have hK2 : Keep Non w w := Keep.refl _ _
  obtain ⟨s, hs⟩ : ∃ s, Hid (enc t = s) := ⟨_, rfl⟩
  have hsp : 0 < s.length := by rw [← hs.out]; exact enc_pos t
  go_enter Try.func3, Try.ntmps3
  go_wp2_with (first | (go_at_call 5; refine (bytes2 _ _ _ _ _ _ _ (by omega) (by omega)).mono ?_; rintro e w' ⟨⟨r, rfl⟩, hw⟩; obtain rfl := hw.symm; cases r) | (go_at_call 6; refine (clone_any a0 d c0 w (h0.non hK2) (by omega)).mono ?_; rintro e w3 ⟨v, rfl, hown, hk3⟩; have hne : ∀ x : Addr, (none : Option Addr) = some x → v.ownBlock ≠ some x.block := (by intro x hx; cases hx)) | (go_at_call 7; refine (token_any (World.heap w).size v d t none _ w3 hown (Rd.non h1 hk3) u1 hk3.size (by omega) (by omega) (by omega) (by omega) hne).mono ?_; rintro e w4 ⟨v4, rfl, hst⟩; rw [hs.out] at hst; obtain ⟨g, cap, rfl, hO⟩ := out_of hown hk3 hst; have hle := hO.le; have hcap := hO.cap; have hcd : ¬ cap = d.length := (by omega)) | (go_at_call 8; have _ := hRg; refine (eq_same ao none t co c1 w6 hRg (Rd.non h1 ((hO.keep.trans hk5).trans hk6)) (by omega)).mono ?_; rintro e w7 ⟨rfl, hk7⟩) | (go_at_call 8; refine (eq_same (some ⟨g, 0, none⟩) a0 d cap c0 w4 hO.rd.pre (h0.non (Keep.trans hK2 hO.keep)) (by omega)).mono ?_; rintro e w5 ⟨rfl, hk5⟩) | (go_at_call 9; refine (read_full _ s t _ _ w5 hs.out (by simp) (show Rd w5 (some ⟨g, d.length, none⟩) s from hO.suf0.non hk5) u1 ht (by omega) (by omega)).mono ?_; rintro e w6 ⟨ao, co, rfl, hRg, hk6⟩))
  · go_ret
    exact ⟨rfl, Keep.refl _ _⟩
  · go_ret
    exact ⟨rfl, ((hO.keep.trans hk5).trans hk6).trans hk7⟩

theorem law3_long (a0 a1 : Option Addr) (n m c0 c1 : Nat) (w : World) (hn : n ≤ 9223372036854775807) (hm : m ≤ 9223372036854775807) (hh : ¬ (n ≤ 524288 ∧ m ≤ 524288)) :
    Calls Try.prog 3 #[.slice a0 n c0, .slice a1 m c1] w fun e w' => e = .returned (.bool true) ∧ Keep Non w w' := by
  by_cases h : n ≤ 524288
  · have h1 : (n : Int) ≤ 524288 := by omega
    have h2 : (524288 : Int) < (m : Int) := by omega
    go_enter Try.func3, Try.ntmps3
    go_wp2_with (go_at_call 5; refine (bytes2 _ _ _ _ _ _ _ (by omega) (by omega)).mono ?_; rintro e w' ⟨⟨r, rfl⟩, hw⟩; obtain rfl := hw.symm; cases r)
    all_goals (go_ret; exact ⟨rfl, Keep.refl _ _⟩)
  · have h1 : (524288 : Int) < (n : Int) := by omega
    go_enter Try.func3, Try.ntmps3
    go_wp2_with (go_at_call 5; refine (bytes2 _ _ _ _ _ _ _ (by omega) (by omega)).mono ?_; rintro e w' ⟨⟨r, rfl⟩, hw⟩; obtain rfl := hw.symm; cases r)
    all_goals (go_ret; exact ⟨rfl, Keep.refl _ _⟩)

theorem law3_any (a0 : Option Addr) (d : List Int) (c0 : Nat) (a1 : Option Addr) (t : List Int) (c1 : Nat) (w : World) (h0 : Rd w a0 d) (h1 : Rd w a1 t) (u0 : U8 d) (u1 : U8 t) (hc0 : d.length ≤ c0) (hc0' : c0 ≤ 9223372036854775807) (hc1 : t.length ≤ c1) (hc1' : c1 ≤ 9223372036854775807) :
    Calls Try.prog 3 #[.slice a0 d.length c0, .slice a1 t.length c1] w fun e w' => e = .returned (.bool true) ∧ Keep Non w w' := by
  by_cases hh : d.length ≤ 524288 ∧ t.length ≤ 524288
  · rcases a1 with _ | x1
    · exact law3_nil a0 d c0 t c1 w h0 h1 u0 u1 hh.1 hh.2 hc1 hc1'
    · exact law3_copy a0 d c0 x1 t c1 w h0 h1 u0 u1 hh.1 hh.2
  · exact law3_long a0 a1 _ _ c0 c1 w (by omega) (by omega) hh

/-- What a row's reading hands over: the slice reads as some bytes. -/
theorem rd_of_row {w : World} {a : Option Addr} {len cap : Nat} {zs : List Int}
    (h : (a = none ∧ len = 0 ∧ cap = 0 ∧ zs = []) ∨ ∃ x, a = some x ∧ len ≤ cap ∧ cap ≤ maxLen ∧ zs.length = cap ∧ (∀ i, i < zs.length → w.cell? (x.add i) = some (.int .u8 (zs.getD i 0))) ∧ ∀ n ∈ zs, (Lit.int .u8 n).wf = true) :
    ∃ d : List Int, d.length = len ∧ Rd w a d ∧ U8 d ∧ len ≤ cap ∧ cap ≤ 9223372036854775807 := by
  rcases h with ⟨rfl, rfl, rfl, rfl⟩ | ⟨x, rfl, hl, hm, hz, hc, hw⟩
  · exact ⟨[], rfl, .inl ⟨rfl, rfl⟩, fun x hx => (by cases hx), Nat.le_refl _, by omega⟩
  · refine ⟨zs.take len, by simp; omega, .inr ⟨x, rfl, fun i hi => ?_⟩, fun n hn => ?_, hl, by simpa [maxLen] using hm⟩
    · have hi2 : i < len := by simp at hi; omega
      rw [hc i (by omega)]
      simp [List.getD_eq_getElem?_getD, hi2]
    · have := hw n (List.mem_of_mem_take hn)
      have e1 : IntKind.u8.min = 0 := by decide
      have e2 : IntKind.u8.max = 255 := by decide
      simp [Lit.wf, e1, e2] at this
      omega
end Go.Proofs.Qxb6627505a
