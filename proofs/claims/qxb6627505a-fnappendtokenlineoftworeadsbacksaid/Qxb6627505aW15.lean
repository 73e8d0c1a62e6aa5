import Derived.Test.Qxb6627505aW14
namespace Go.Proofs.Qxb6627505a
open Go.RowKit
set_option linter.unusedVariables false

theorem st_keep {W w3 w5 : World} {v v5 : Value} {d z : List Int} (hown : Own w3 W.heap.size v d) (hk : Keep Non W w3) (h : St w3 v W.heap.size w5 v5 z) : Keep Non W w5 ∧ Own w5 W.heap.size v5 z := by
  obtain ⟨g, cap, rfl, h1, h2, h3⟩ := h
  exact ⟨hk.then h2 fun i hi e => by have := hown.block e; omega, h1⟩

theorem out_of2 {w w3 w4 : World} {v v4 : Value} {d0 d S z : List Int} (hown : Own w3 w.heap.size v d0) (hk : Keep Non w w3) (h : St w3 v w.heap.size w4 v4 z) (hz : z = d ++ S) :
    ∃ g cap, v4 = .slice (some ⟨g, 0, none⟩) (d.length + S.length) cap ∧ Out w w4 d S g cap := by
  subst hz
  obtain ⟨g, cap, rfl, h1, h2, h3⟩ := h
  have hc := h1.cap
  refine ⟨g, cap, by simp, ⟨?_, h1.rd, by simpa using hc.1, hc.2.1⟩⟩
  exact hk.then h2 fun i hi e => by have := hown.block e; omega

theorem read_first (x : Addr) (S ta sa sb : List Int) (n c : Nat) (w : World) (hS : sa ++ (32 :: sb) = S) (hsa : enc ta = sa) (hnn : n = S.length) (h : Rd w (some x) S) (uS : U8 S) (ua : U8 ta) (hn : S.length ≤ 9000000) (ht : ta.length ≤ 1000000) (hcp : S.length ≤ c) (hcp2 : c ≤ 9223372036854775807) :
    Calls Try.prog 9 #[.slice (some x) n c, .int .i64 0] w (ReadOk w ta sa.length) := by
  subst hsa
  have hl : S.length = (enc ta).length + (sb.length + 1) := by rw [← hS]; simp
  have := read_any x S ta n 0 c 0 w hnn rfl h uS ua (fun i hi => by rw [Nat.zero_add, ← hS]; simp [List.getD_eq_getElem?_getD, List.getElem?_append_left hi]) (by omega) (fun hh => by rw [Nat.zero_add, ← hS]; simp [bare]) hn ht hcp hcp2
  rwa [Nat.zero_add] at this

theorem read_second (x : Addr) (S tb sa sb : List Int) (n c : Nat) (w : World) (hS : sa ++ (32 :: sb) = S) (hsb : enc tb = sb) (hnn : n = S.length) (h : Rd w (some x) S) (uS : U8 S) (ub : U8 tb) (hn : S.length ≤ 9000000) (ht : tb.length ≤ 1000000) (hcp : S.length ≤ c) (hcp2 : c ≤ 9223372036854775807) :
    Calls Try.prog 9 #[.slice (some x) n c, .int .i64 ((sa.length : Int) + 1)] w (ReadOk w tb S.length) := by
  subst hsb
  have hl : S.length = sa.length + ((enc tb).length + 1) := by rw [← hS]; simp
  have := read_any x S tb n (sa.length + 1) c ((sa.length : Int) + 1) w hnn (by omega) h uS ub (fun i hi => by
    rw [← hS, List.getD_eq_getElem?_getD, List.getD_eq_getElem?_getD, List.getElem?_append_right (by omega), show sa.length + 1 + i - sa.length = i + 1 by omega, List.getElem?_cons_succ]) (by omega) (fun hh => by omega) hn ht hcp hcp2
  rwa [show sa.length + 1 + (enc tb).length = S.length by omega] at this

set_option maxRecDepth 100000 in
set_option maxHeartbeats 3200000 in
theorem law4_cc (a0 : Option Addr) (d : List Int) (c0 : Nat) (x1 : Addr) (ta : List Int) (c1 : Nat) (x2 : Addr) (tb : List Int) (c2 : Nat) (w : World) (h0 : Rd w a0 d) (h1 : Rd w (some x1) ta) (h2 : Rd w (some x2) tb) (u0 : U8 d) (ua : U8 ta) (ub : U8 tb) (hd : d.length ≤ 262144) (hta : ta.length ≤ 262144) (htb : tb.length ≤ 262144) (hc1 : ta.length ≤ c1) (hc1' : c1 ≤ 9223372036854775807) (hc2 : tb.length ≤ c2) (hc2' : c2 ≤ 9223372036854775807) :
    Calls Try.prog 4 #[.slice a0 d.length c0, .slice (some x1) ta.length c1, .slice (some x2) tb.length c2] w fun e w' => e = .returned (.bool true) ∧ Keep Non w w' := by
  have hmA := fun w => make22 ta.length (by omega) w
  have hneA := neq_yes x1 ta.length c1
  have hmB := fun w => make22 tb.length (by omega) w
  have hneB := neq_yes x2 tb.length c2
  obtain ⟨sa, hsa⟩ : ∃ s, Hid (enc ta = s) := ⟨_, rfl⟩
  obtain ⟨sb, hsb⟩ : ∃ s, Hid (enc tb = s) := ⟨_, rfl⟩
  obtain ⟨S, hS⟩ : ∃ s, Hid (sa ++ (32 :: sb) = s) := ⟨_, rfl⟩
  have hla : sa.length ≤ 1048578 := by rw [← hsa.out]; have := enc_len ta; omega
  have hlb : sb.length ≤ 1048578 := by rw [← hsb.out]; have := enc_len tb; omega
  have hSl0 : S.length = sa.length + (sb.length + 1) := by rw [← hS.out]; simp
  have hSl : Hid (S.length = sa.length + (sb.length + 1)) := hSl0
  have hpl : (sa.length : Int) < (S.length : Int) := by omega
  have hSm : S.length ≤ 9000000 := by omega
  have hSp : 0 < S.length := by omega
  have uS : U8 S := by rw [← hS.out, ← hsa.out, ← hsb.out]; exact (enc_u8 ua).app (fun x hx => by rcases List.mem_cons.1 hx with rfl | hx; (omega); exact enc_u8 ub x hx)
  have hlen4 : (d ++ sa).length + 1 ≤ 100000000 := by simp; omega
  have hlen5 : (d ++ sa ++ [32]).length ≤ 4000000 := by simp; omega
  have hg32 : S.getD sa.length 0 = 32 := by rw [← hS.out]; simp
  have Hg32 : Hid (S.getD sa.length 0 = 32) := hg32
  clear hSl0 hg32
  go_enter Try.func4, Try.ntmps4
  go_wp2_with (first | (go_at_call 10; refine (bytes3 _ _ _ _ _ _ _ _ _ _ (by omega) (by omega) (by omega)).mono ?_; rintro e w' ⟨⟨r, rfl⟩, hw⟩; obtain rfl := hw.symm; cases r) | (have _ := hK2; refine wpList_copy_all rfl _ _ 22 rfl 5 Try.underlying22 Try.size5 w2.heap.size tb.length x2 c2 rfl rfl (vals (List.replicate tb.length 0)).toArray (Blk.new _ _ _) (by simp [vals]) (fun i => .int .u8 (tb.getD i 0)) (fun i hi => ((h2.non hK2).non ((Keep.refl Non w2).alloc _)).cell i hi) (fun _ => rfl) ?_; intro w2b hBtb hktb; rw [range_vals] at hBtb; have hkK : Keep Non w2 w2b := (((Keep.refl Non w2).alloc _).then hktb (fun i hi e => by omega)); have hRB := hBtb.rd; have hLB := hBtb.lt; have hKc : Keep Non w w2b := hK2.trans hkK; have hRA := hRA0.non hkK; have hkKs := hkK.size) | (refine wpList_copy_all rfl _ _ 22 rfl 5 Try.underlying22 Try.size5 w.heap.size ta.length x1 c1 rfl rfl (vals (List.replicate ta.length 0)).toArray (Blk.new _ _ _) (by simp [vals]) (fun i => .int .u8 (ta.getD i 0)) (fun i hi => (h1.non ((Keep.refl Non w).alloc _)).cell i hi) (fun _ => rfl) ?_; intro w2 hBta hkta; rw [range_vals] at hBta; have hK2 : Keep Non w w2 := (((Keep.refl Non w).alloc _).then hkta (fun i hi e => by omega)); have hRA0 := hBta.rd; have hLA := hBta.lt) | (go_at_call 6; refine (clone_any a0 d c0 w2b (h0.non hKc) (by omega)).mono ?_; rintro e w3 ⟨v, rfl, hown, hk3⟩; have hne : ∀ x : Addr, ((some ⟨w.heap.size, 0, none⟩) : Option Addr) = some x → v.ownBlock ≠ some x.block := (by intro x hx e; cases hx; have := hown.block e; simp at this; omega)) | (go_at_call 7; have _ := hst5; refine (token_any (World.heap w2b).size v5 (d ++ sa ++ [32]) tb (some ⟨w2.heap.size, 0, none⟩) _ w5 hown5 (Rd.non hRB K5) ub K5.size hlen5 (by omega) (by omega) (by omega) hne5).mono ?_; rintro e w6 ⟨v6, rfl, hst6⟩; rw [hsb.out] at hst6; obtain ⟨g, cap, rfl, hO⟩ := out_of2 (d := d) (S := S) hown5 K5 hst6 (by rw [← hS.out]; simp); have hle := hO.le; have hcap := hO.cap; have hcd : ¬ cap = d.length := (by omega); have hcell := hO.suf0.cell sa.length (by omega); rw [Hg32.out] at hcell) | (go_at_call 7; refine (token_any (World.heap w2b).size v d ta (some ⟨w.heap.size, 0, none⟩) _ w3 hown (Rd.non hRA hk3) ua hk3.size (by omega) (by omega) (by omega) (by omega) hne).mono ?_; rintro e w4 ⟨v4, rfl, hst4⟩; rw [hsa.out] at hst4) | (at_builtin; refine wpList_st (v0 := v) rfl _ _ rfl (World.heap w2b).size v4 _ rfl hst4 1 [32] 1 rfl rfl _ rfl (by decide) hlen4 hk3.size ?_; intro v5 w5 hst5; obtain ⟨K5, hown5⟩ := st_keep hown hk3 hst5; have hne5 : ∀ x : Addr, ((some ⟨w2.heap.size, 0, none⟩) : Option Addr) = some x → v5.ownBlock ≠ some x.block := (by intro x hx e; cases hx; have := hown5.block e; simp at this; omega)) | (go_at_call 8; have _ := hk11; refine (eq_same _ (some ⟨w2.heap.size, 0, none⟩) tb _ _ w11 (hRgb.non hk11) (Rd.non hRB ((((hO.keep.trans hk7).trans hk8).trans hk9).trans hk11)) (by omega)).mono ?_; rintro e w12 ⟨rfl, hk12⟩) | (go_at_call 8; have _ := hRgb; refine (eq_same _ (some ⟨w.heap.size, 0, none⟩) ta _ _ w9 (hRga.non hk9) (Rd.non hRA (((hO.keep.trans hk7).trans hk8).trans hk9)) (by omega)).mono ?_; rintro e w11 ⟨rfl, hk11⟩) | (go_at_call 8; refine (eq_same (some ⟨g, 0, none⟩) a0 d cap c0 w6 hO.rd.pre (h0.non (Keep.trans hKc hO.keep)) (by omega)).mono ?_; rintro e w7 ⟨rfl, hk7⟩) | (go_at_call 9; have _ := hRga; refine (read_second _ S tb sa sb _ _ w8 hS.out hsb.out (by simp) (show Rd w8 (some ⟨g, d.length, none⟩) S from (hO.suf0.non hk7).non hk8) uS ub hSm (by omega) (by omega) (by omega)).mono ?_; rintro e w9 ⟨aob, cob, rfl, hRgb, hk9⟩) | (go_at_call 9; refine (read_first _ S ta sa sb _ _ w7 hS.out hsa.out (by simp) (show Rd w7 (some ⟨g, d.length, none⟩) S from hO.suf0.non hk7) uS ua hSm (by omega) (by omega) (by omega)).mono ?_; rintro e w8 ⟨aoa, coa, rfl, hRga, hk8⟩; have hcell8 : w8.cell? ((⟨g, d.length, none⟩ : Addr).add sa.length) = some (.int .u8 32) := (by have q := ((hO.suf0.non hk7).non hk8).cell sa.length (by omega); rwa [Hg32.out] at q); have hcell9 : w8.cell? ⟨g, d.length + sa.length, none⟩ = some (.int .u8 32) := (by have q := hcell8; have e : (⟨g, d.length, none⟩ : Addr).add sa.length = ⟨g, d.length + sa.length, none⟩ := (by unfold Addr.add; split <;> simp_all); rwa [e] at q)))
  · go_ret
    exact ⟨rfl, Keep.refl _ _⟩
  · go_ret
    exact ⟨rfl, (((((hKc.trans hO.keep).trans hk7).trans hk8).trans hk9).trans hk11).trans hk12⟩

set_option maxRecDepth 100000 in
set_option maxHeartbeats 3200000 in
theorem law4_cn (a0 : Option Addr) (d : List Int) (c0 : Nat) (x1 : Addr) (ta : List Int) (c1 : Nat) (tb : List Int) (c2 : Nat) (w : World) (h0 : Rd w a0 d) (h1 : Rd w (some x1) ta) (h2 : Rd w none tb) (u0 : U8 d) (ua : U8 ta) (ub : U8 tb) (hd : d.length ≤ 262144) (hta : ta.length ≤ 262144) (htb : tb.length ≤ 262144) (hc1 : ta.length ≤ c1) (hc1' : c1 ≤ 9223372036854775807) (hc2 : tb.length ≤ c2) (hc2' : c2 ≤ 9223372036854775807) :
    Calls Try.prog 4 #[.slice a0 d.length c0, .slice (some x1) ta.length c1, .slice none tb.length c2] w fun e w' => e = .returned (.bool true) ∧ Keep Non w w' := by
  have hmA := fun w => make22 ta.length (by omega) w
  have hneA := neq_yes x1 ta.length c1
  have hneB := neq_no tb.length c2
  obtain ⟨sa, hsa⟩ : ∃ s, Hid (enc ta = s) := ⟨_, rfl⟩
  obtain ⟨sb, hsb⟩ : ∃ s, Hid (enc tb = s) := ⟨_, rfl⟩
  obtain ⟨S, hS⟩ : ∃ s, Hid (sa ++ (32 :: sb) = s) := ⟨_, rfl⟩
  have hla : sa.length ≤ 1048578 := by rw [← hsa.out]; have := enc_len ta; omega
  have hlb : sb.length ≤ 1048578 := by rw [← hsb.out]; have := enc_len tb; omega
  have hSl0 : S.length = sa.length + (sb.length + 1) := by rw [← hS.out]; simp
  have hSl : Hid (S.length = sa.length + (sb.length + 1)) := hSl0
  have hpl : (sa.length : Int) < (S.length : Int) := by omega
  have hSm : S.length ≤ 9000000 := by omega
  have hSp : 0 < S.length := by omega
  have uS : U8 S := by rw [← hS.out, ← hsa.out, ← hsb.out]; exact (enc_u8 ua).app (fun x hx => by rcases List.mem_cons.1 hx with rfl | hx; (omega); exact enc_u8 ub x hx)
  have hlen4 : (d ++ sa).length + 1 ≤ 100000000 := by simp; omega
  have hlen5 : (d ++ sa ++ [32]).length ≤ 4000000 := by simp; omega
  have hg32 : S.getD sa.length 0 = 32 := by rw [← hS.out]; simp
  have Hg32 : Hid (S.getD sa.length 0 = 32) := hg32
  clear hSl0 hg32
  go_enter Try.func4, Try.ntmps4
  go_wp2_with (first | (go_at_call 10; refine (bytes3 _ _ _ _ _ _ _ _ _ _ (by omega) (by omega) (by omega)).mono ?_; rintro e w' ⟨⟨r, rfl⟩, hw⟩; obtain rfl := hw.symm; cases r) | (refine wpList_copy_all rfl _ _ 22 rfl 5 Try.underlying22 Try.size5 w.heap.size ta.length x1 c1 rfl rfl (vals (List.replicate ta.length 0)).toArray (Blk.new _ _ _) (by simp [vals]) (fun i => .int .u8 (ta.getD i 0)) (fun i hi => (h1.non ((Keep.refl Non w).alloc _)).cell i hi) (fun _ => rfl) ?_; intro w2 hBta hkta; rw [range_vals] at hBta; have hK2 : Keep Non w w2 := (((Keep.refl Non w).alloc _).then hkta (fun i hi e => by omega)); have hRA0 := hBta.rd; have hLA := hBta.lt; have hKc := hK2; have hRA := hRA0; have hRB := h2.non hK2) | (go_at_call 6; refine (clone_any a0 d c0 w2 (h0.non hKc) (by omega)).mono ?_; rintro e w3 ⟨v, rfl, hown, hk3⟩; have hne : ∀ x : Addr, ((some ⟨w.heap.size, 0, none⟩) : Option Addr) = some x → v.ownBlock ≠ some x.block := (by intro x hx e; cases hx; have := hown.block e; simp at this; omega)) | (go_at_call 7; have _ := hst5; refine (token_any (World.heap w2).size v5 (d ++ sa ++ [32]) tb none _ w5 hown5 (Rd.non hRB K5) ub K5.size hlen5 (by omega) (by omega) (by omega) hne5).mono ?_; rintro e w6 ⟨v6, rfl, hst6⟩; rw [hsb.out] at hst6; obtain ⟨g, cap, rfl, hO⟩ := out_of2 (d := d) (S := S) hown5 K5 hst6 (by rw [← hS.out]; simp); have hle := hO.le; have hcap := hO.cap; have hcd : ¬ cap = d.length := (by omega); have hcell := hO.suf0.cell sa.length (by omega); rw [Hg32.out] at hcell) | (go_at_call 7; refine (token_any (World.heap w2).size v d ta (some ⟨w.heap.size, 0, none⟩) _ w3 hown (Rd.non hRA hk3) ua hk3.size (by omega) (by omega) (by omega) (by omega) hne).mono ?_; rintro e w4 ⟨v4, rfl, hst4⟩; rw [hsa.out] at hst4) | (at_builtin; refine wpList_st (v0 := v) rfl _ _ rfl (World.heap w2).size v4 _ rfl hst4 1 [32] 1 rfl rfl _ rfl (by decide) hlen4 hk3.size ?_; intro v5 w5 hst5; obtain ⟨K5, hown5⟩ := st_keep hown hk3 hst5; have hne5 : ∀ x : Addr, (none : Option Addr) = some x → v5.ownBlock ≠ some x.block := (by intro x hx; cases hx)) | (go_at_call 8; have _ := hk11; refine (eq_same _ none tb _ _ w11 (hRgb.non hk11) (Rd.non hRB ((((hO.keep.trans hk7).trans hk8).trans hk9).trans hk11)) (by omega)).mono ?_; rintro e w12 ⟨rfl, hk12⟩) | (go_at_call 8; have _ := hRgb; refine (eq_same _ (some ⟨w.heap.size, 0, none⟩) ta _ _ w9 (hRga.non hk9) (Rd.non hRA (((hO.keep.trans hk7).trans hk8).trans hk9)) (by omega)).mono ?_; rintro e w11 ⟨rfl, hk11⟩) | (go_at_call 8; refine (eq_same (some ⟨g, 0, none⟩) a0 d cap c0 w6 hO.rd.pre (h0.non (Keep.trans hKc hO.keep)) (by omega)).mono ?_; rintro e w7 ⟨rfl, hk7⟩) | (go_at_call 9; have _ := hRga; refine (read_second _ S tb sa sb _ _ w8 hS.out hsb.out (by simp) (show Rd w8 (some ⟨g, d.length, none⟩) S from (hO.suf0.non hk7).non hk8) uS ub hSm (by omega) (by omega) (by omega)).mono ?_; rintro e w9 ⟨aob, cob, rfl, hRgb, hk9⟩) | (go_at_call 9; refine (read_first _ S ta sa sb _ _ w7 hS.out hsa.out (by simp) (show Rd w7 (some ⟨g, d.length, none⟩) S from hO.suf0.non hk7) uS ua hSm (by omega) (by omega) (by omega)).mono ?_; rintro e w8 ⟨aoa, coa, rfl, hRga, hk8⟩; have hcell8 : w8.cell? ((⟨g, d.length, none⟩ : Addr).add sa.length) = some (.int .u8 32) := (by have q := ((hO.suf0.non hk7).non hk8).cell sa.length (by omega); rwa [Hg32.out] at q); have hcell9 : w8.cell? ⟨g, d.length + sa.length, none⟩ = some (.int .u8 32) := (by have q := hcell8; have e : (⟨g, d.length, none⟩ : Addr).add sa.length = ⟨g, d.length + sa.length, none⟩ := (by unfold Addr.add; split <;> simp_all); rwa [e] at q)))
  · go_ret
    exact ⟨rfl, Keep.refl _ _⟩
  · go_ret
    exact ⟨rfl, (((((hKc.trans hO.keep).trans hk7).trans hk8).trans hk9).trans hk11).trans hk12⟩

set_option maxRecDepth 100000 in
set_option maxHeartbeats 3200000 in
theorem law4_nc (a0 : Option Addr) (d : List Int) (c0 : Nat) (ta : List Int) (c1 : Nat) (x2 : Addr) (tb : List Int) (c2 : Nat) (w : World) (h0 : Rd w a0 d) (h1 : Rd w none ta) (h2 : Rd w (some x2) tb) (u0 : U8 d) (ua : U8 ta) (ub : U8 tb) (hd : d.length ≤ 262144) (hta : ta.length ≤ 262144) (htb : tb.length ≤ 262144) (hc1 : ta.length ≤ c1) (hc1' : c1 ≤ 9223372036854775807) (hc2 : tb.length ≤ c2) (hc2' : c2 ≤ 9223372036854775807) :
    Calls Try.prog 4 #[.slice a0 d.length c0, .slice none ta.length c1, .slice (some x2) tb.length c2] w fun e w' => e = .returned (.bool true) ∧ Keep Non w w' := by
  have hneA := neq_no ta.length c1
  have hmB := fun w => make22 tb.length (by omega) w
  have hneB := neq_yes x2 tb.length c2
  obtain ⟨sa, hsa⟩ : ∃ s, Hid (enc ta = s) := ⟨_, rfl⟩
  obtain ⟨sb, hsb⟩ : ∃ s, Hid (enc tb = s) := ⟨_, rfl⟩
  obtain ⟨S, hS⟩ : ∃ s, Hid (sa ++ (32 :: sb) = s) := ⟨_, rfl⟩
  have hla : sa.length ≤ 1048578 := by rw [← hsa.out]; have := enc_len ta; omega
  have hlb : sb.length ≤ 1048578 := by rw [← hsb.out]; have := enc_len tb; omega
  have hSl0 : S.length = sa.length + (sb.length + 1) := by rw [← hS.out]; simp
  have hSl : Hid (S.length = sa.length + (sb.length + 1)) := hSl0
  have hpl : (sa.length : Int) < (S.length : Int) := by omega
  have hSm : S.length ≤ 9000000 := by omega
  have hSp : 0 < S.length := by omega
  have uS : U8 S := by rw [← hS.out, ← hsa.out, ← hsb.out]; exact (enc_u8 ua).app (fun x hx => by rcases List.mem_cons.1 hx with rfl | hx; (omega); exact enc_u8 ub x hx)
  have hlen4 : (d ++ sa).length + 1 ≤ 100000000 := by simp; omega
  have hlen5 : (d ++ sa ++ [32]).length ≤ 4000000 := by simp; omega
  have hg32 : S.getD sa.length 0 = 32 := by rw [← hS.out]; simp
  have Hg32 : Hid (S.getD sa.length 0 = 32) := hg32
  clear hSl0 hg32
  go_enter Try.func4, Try.ntmps4
  go_wp2_with (first | (go_at_call 10; refine (bytes3 _ _ _ _ _ _ _ _ _ _ (by omega) (by omega) (by omega)).mono ?_; rintro e w' ⟨⟨r, rfl⟩, hw⟩; obtain rfl := hw.symm; cases r) | (refine wpList_copy_all rfl _ _ 22 rfl 5 Try.underlying22 Try.size5 w.heap.size tb.length x2 c2 rfl rfl (vals (List.replicate tb.length 0)).toArray (Blk.new _ _ _) (by simp [vals]) (fun i => .int .u8 (tb.getD i 0)) (fun i hi => (h2.non ((Keep.refl Non w).alloc _)).cell i hi) (fun _ => rfl) ?_; intro w2b hBtb hktb; rw [range_vals] at hBtb; have hkK : Keep Non w w2b := (((Keep.refl Non w).alloc _).then hktb (fun i hi e => by omega)); have hRB := hBtb.rd; have hLB := hBtb.lt; have hKc := hkK; have hRA := h1.non hkK) | (go_at_call 6; refine (clone_any a0 d c0 w2b (h0.non hKc) (by omega)).mono ?_; rintro e w3 ⟨v, rfl, hown, hk3⟩; have hne : ∀ x : Addr, (none : Option Addr) = some x → v.ownBlock ≠ some x.block := (by intro x hx; cases hx)) | (go_at_call 7; have _ := hst5; refine (token_any (World.heap w2b).size v5 (d ++ sa ++ [32]) tb (some ⟨w.heap.size, 0, none⟩) _ w5 hown5 (Rd.non hRB K5) ub K5.size hlen5 (by omega) (by omega) (by omega) hne5).mono ?_; rintro e w6 ⟨v6, rfl, hst6⟩; rw [hsb.out] at hst6; obtain ⟨g, cap, rfl, hO⟩ := out_of2 (d := d) (S := S) hown5 K5 hst6 (by rw [← hS.out]; simp); have hle := hO.le; have hcap := hO.cap; have hcd : ¬ cap = d.length := (by omega); have hcell := hO.suf0.cell sa.length (by omega); rw [Hg32.out] at hcell) | (go_at_call 7; refine (token_any (World.heap w2b).size v d ta none _ w3 hown (Rd.non hRA hk3) ua hk3.size (by omega) (by omega) (by omega) (by omega) hne).mono ?_; rintro e w4 ⟨v4, rfl, hst4⟩; rw [hsa.out] at hst4) | (at_builtin; refine wpList_st (v0 := v) rfl _ _ rfl (World.heap w2b).size v4 _ rfl hst4 1 [32] 1 rfl rfl _ rfl (by decide) hlen4 hk3.size ?_; intro v5 w5 hst5; obtain ⟨K5, hown5⟩ := st_keep hown hk3 hst5; have hne5 : ∀ x : Addr, ((some ⟨w.heap.size, 0, none⟩) : Option Addr) = some x → v5.ownBlock ≠ some x.block := (by intro x hx e; cases hx; have := hown5.block e; simp at this; omega)) | (go_at_call 8; have _ := hk11; refine (eq_same _ (some ⟨w.heap.size, 0, none⟩) tb _ _ w11 (hRgb.non hk11) (Rd.non hRB ((((hO.keep.trans hk7).trans hk8).trans hk9).trans hk11)) (by omega)).mono ?_; rintro e w12 ⟨rfl, hk12⟩) | (go_at_call 8; have _ := hRgb; refine (eq_same _ none ta _ _ w9 (hRga.non hk9) (Rd.non hRA (((hO.keep.trans hk7).trans hk8).trans hk9)) (by omega)).mono ?_; rintro e w11 ⟨rfl, hk11⟩) | (go_at_call 8; refine (eq_same (some ⟨g, 0, none⟩) a0 d cap c0 w6 hO.rd.pre (h0.non (Keep.trans hKc hO.keep)) (by omega)).mono ?_; rintro e w7 ⟨rfl, hk7⟩) | (go_at_call 9; have _ := hRga; refine (read_second _ S tb sa sb _ _ w8 hS.out hsb.out (by simp) (show Rd w8 (some ⟨g, d.length, none⟩) S from (hO.suf0.non hk7).non hk8) uS ub hSm (by omega) (by omega) (by omega)).mono ?_; rintro e w9 ⟨aob, cob, rfl, hRgb, hk9⟩) | (go_at_call 9; refine (read_first _ S ta sa sb _ _ w7 hS.out hsa.out (by simp) (show Rd w7 (some ⟨g, d.length, none⟩) S from hO.suf0.non hk7) uS ua hSm (by omega) (by omega) (by omega)).mono ?_; rintro e w8 ⟨aoa, coa, rfl, hRga, hk8⟩; have hcell8 : w8.cell? ((⟨g, d.length, none⟩ : Addr).add sa.length) = some (.int .u8 32) := (by have q := ((hO.suf0.non hk7).non hk8).cell sa.length (by omega); rwa [Hg32.out] at q); have hcell9 : w8.cell? ⟨g, d.length + sa.length, none⟩ = some (.int .u8 32) := (by have q := hcell8; have e : (⟨g, d.length, none⟩ : Addr).add sa.length = ⟨g, d.length + sa.length, none⟩ := (by unfold Addr.add; split <;> simp_all); rwa [e] at q)))
  · go_ret
    exact ⟨rfl, Keep.refl _ _⟩
  · go_ret
    exact ⟨rfl, (((((hKc.trans hO.keep).trans hk7).trans hk8).trans hk9).trans hk11).trans hk12⟩

set_option maxRecDepth 100000 in
set_option maxHeartbeats 3200000 in
theorem law4_nn (a0 : Option Addr) (d : List Int) (c0 : Nat) (ta : List Int) (c1 : Nat) (tb : List Int) (c2 : Nat) (w : World) (h0 : Rd w a0 d) (h1 : Rd w none ta) (h2 : Rd w none tb) (u0 : U8 d) (ua : U8 ta) (ub : U8 tb) (hd : d.length ≤ 262144) (hta : ta.length ≤ 262144) (htb : tb.length ≤ 262144) (hc1 : ta.length ≤ c1) (hc1' : c1 ≤ 9223372036854775807) (hc2 : tb.length ≤ c2) (hc2' : c2 ≤ 9223372036854775807) :
    Calls Try.prog 4 #[.slice a0 d.length c0, .slice none ta.length c1, .slice none tb.length c2] w fun e w' => e = .returned (.bool true) ∧ Keep Non w w' := by
  have hneA := neq_no ta.length c1
  have hneB := neq_no tb.length c2
  obtain ⟨sa, hsa⟩ : ∃ s, Hid (enc ta = s) := ⟨_, rfl⟩
  obtain ⟨sb, hsb⟩ : ∃ s, Hid (enc tb = s) := ⟨_, rfl⟩
  obtain ⟨S, hS⟩ : ∃ s, Hid (sa ++ (32 :: sb) = s) := ⟨_, rfl⟩
  have hla : sa.length ≤ 1048578 := by rw [← hsa.out]; have := enc_len ta; omega
  have hlb : sb.length ≤ 1048578 := by rw [← hsb.out]; have := enc_len tb; omega
  have hSl0 : S.length = sa.length + (sb.length + 1) := by rw [← hS.out]; simp
  have hSl : Hid (S.length = sa.length + (sb.length + 1)) := hSl0
  have hpl : (sa.length : Int) < (S.length : Int) := by omega
  have hSm : S.length ≤ 9000000 := by omega
  have hSp : 0 < S.length := by omega
  have uS : U8 S := by rw [← hS.out, ← hsa.out, ← hsb.out]; exact (enc_u8 ua).app (fun x hx => by rcases List.mem_cons.1 hx with rfl | hx; (omega); exact enc_u8 ub x hx)
  have hlen4 : (d ++ sa).length + 1 ≤ 100000000 := by simp; omega
  have hlen5 : (d ++ sa ++ [32]).length ≤ 4000000 := by simp; omega
  have hg32 : S.getD sa.length 0 = 32 := by rw [← hS.out]; simp
  have Hg32 : Hid (S.getD sa.length 0 = 32) := hg32
  clear hSl0 hg32
  have hKc : Keep Non w w := Keep.refl _ _
  have hRA := h1
  have hRB := h2
  go_enter Try.func4, Try.ntmps4
  go_wp2_with (first | (go_at_call 10; refine (bytes3 _ _ _ _ _ _ _ _ _ _ (by omega) (by omega) (by omega)).mono ?_; rintro e w' ⟨⟨r, rfl⟩, hw⟩; obtain rfl := hw.symm; cases r) | (go_at_call 6; refine (clone_any a0 d c0 w (h0.non hKc) (by omega)).mono ?_; rintro e w3 ⟨v, rfl, hown, hk3⟩; have hne : ∀ x : Addr, (none : Option Addr) = some x → v.ownBlock ≠ some x.block := (by intro x hx; cases hx)) | (go_at_call 7; have _ := hst5; refine (token_any (World.heap w).size v5 (d ++ sa ++ [32]) tb none _ w5 hown5 (Rd.non hRB K5) ub K5.size hlen5 (by omega) (by omega) (by omega) hne5).mono ?_; rintro e w6 ⟨v6, rfl, hst6⟩; rw [hsb.out] at hst6; obtain ⟨g, cap, rfl, hO⟩ := out_of2 (d := d) (S := S) hown5 K5 hst6 (by rw [← hS.out]; simp); have hle := hO.le; have hcap := hO.cap; have hcd : ¬ cap = d.length := (by omega); have hcell := hO.suf0.cell sa.length (by omega); rw [Hg32.out] at hcell) | (go_at_call 7; refine (token_any (World.heap w).size v d ta none _ w3 hown (Rd.non hRA hk3) ua hk3.size (by omega) (by omega) (by omega) (by omega) hne).mono ?_; rintro e w4 ⟨v4, rfl, hst4⟩; rw [hsa.out] at hst4) | (at_builtin; refine wpList_st (v0 := v) rfl _ _ rfl (World.heap w).size v4 _ rfl hst4 1 [32] 1 rfl rfl _ rfl (by decide) hlen4 hk3.size ?_; intro v5 w5 hst5; obtain ⟨K5, hown5⟩ := st_keep hown hk3 hst5; have hne5 : ∀ x : Addr, (none : Option Addr) = some x → v5.ownBlock ≠ some x.block := (by intro x hx; cases hx)) | (go_at_call 8; have _ := hk11; refine (eq_same _ none tb _ _ w11 (hRgb.non hk11) (Rd.non hRB ((((hO.keep.trans hk7).trans hk8).trans hk9).trans hk11)) (by omega)).mono ?_; rintro e w12 ⟨rfl, hk12⟩) | (go_at_call 8; have _ := hRgb; refine (eq_same _ none ta _ _ w9 (hRga.non hk9) (Rd.non hRA (((hO.keep.trans hk7).trans hk8).trans hk9)) (by omega)).mono ?_; rintro e w11 ⟨rfl, hk11⟩) | (go_at_call 8; refine (eq_same (some ⟨g, 0, none⟩) a0 d cap c0 w6 hO.rd.pre (h0.non (Keep.trans hKc hO.keep)) (by omega)).mono ?_; rintro e w7 ⟨rfl, hk7⟩) | (go_at_call 9; have _ := hRga; refine (read_second _ S tb sa sb _ _ w8 hS.out hsb.out (by simp) (show Rd w8 (some ⟨g, d.length, none⟩) S from (hO.suf0.non hk7).non hk8) uS ub hSm (by omega) (by omega) (by omega)).mono ?_; rintro e w9 ⟨aob, cob, rfl, hRgb, hk9⟩) | (go_at_call 9; refine (read_first _ S ta sa sb _ _ w7 hS.out hsa.out (by simp) (show Rd w7 (some ⟨g, d.length, none⟩) S from hO.suf0.non hk7) uS ua hSm (by omega) (by omega) (by omega)).mono ?_; rintro e w8 ⟨aoa, coa, rfl, hRga, hk8⟩; have hcell8 : w8.cell? ((⟨g, d.length, none⟩ : Addr).add sa.length) = some (.int .u8 32) := (by have q := ((hO.suf0.non hk7).non hk8).cell sa.length (by omega); rwa [Hg32.out] at q); have hcell9 : w8.cell? ⟨g, d.length + sa.length, none⟩ = some (.int .u8 32) := (by have q := hcell8; have e : (⟨g, d.length, none⟩ : Addr).add sa.length = ⟨g, d.length + sa.length, none⟩ := (by unfold Addr.add; split <;> simp_all); rwa [e] at q)))
  · go_ret
    exact ⟨rfl, Keep.refl _ _⟩
  · go_ret
    exact ⟨rfl, (((((hKc.trans hO.keep).trans hk7).trans hk8).trans hk9).trans hk11).trans hk12⟩

theorem law4_long (a0 a1 a2 : Option Addr) (n m l c0 c1 c2 : Nat) (w : World) (hn : n ≤ 9223372036854775807) (hm : m ≤ 9223372036854775807) (hl : l ≤ 9223372036854775807) (hh : ¬ (n ≤ 262144 ∧ m ≤ 262144 ∧ l ≤ 262144)) :
    Calls Try.prog 4 #[.slice a0 n c0, .slice a1 m c1, .slice a2 l c2] w fun e w' => e = .returned (.bool true) ∧ Keep Non w w' := by
  by_cases h : n ≤ 262144
  · have h1 : (n : Int) ≤ 262144 := by omega
    by_cases h' : m ≤ 262144
    · have h2 : (m : Int) ≤ 262144 := by omega
      have h3 : (262144 : Int) < (l : Int) := by omega
      go_enter Try.func4, Try.ntmps4
      go_wp2_with (go_at_call 10; refine (bytes3 _ _ _ _ _ _ _ _ _ _ (by omega) (by omega) (by omega)).mono ?_; rintro e w' ⟨⟨r, rfl⟩, hw⟩; obtain rfl := hw.symm; cases r)
      all_goals (go_ret; exact ⟨rfl, Keep.refl _ _⟩)
    · have h2 : (262144 : Int) < (m : Int) := by omega
      go_enter Try.func4, Try.ntmps4
      go_wp2_with (go_at_call 10; refine (bytes3 _ _ _ _ _ _ _ _ _ _ (by omega) (by omega) (by omega)).mono ?_; rintro e w' ⟨⟨r, rfl⟩, hw⟩; obtain rfl := hw.symm; cases r)
      all_goals (go_ret; exact ⟨rfl, Keep.refl _ _⟩)
  · have h1 : (262144 : Int) < (n : Int) := by omega
    go_enter Try.func4, Try.ntmps4
    go_wp2_with (go_at_call 10; refine (bytes3 _ _ _ _ _ _ _ _ _ _ (by omega) (by omega) (by omega)).mono ?_; rintro e w' ⟨⟨r, rfl⟩, hw⟩; obtain rfl := hw.symm; cases r)
    all_goals (go_ret; exact ⟨rfl, Keep.refl _ _⟩)

theorem law4_any (a0 : Option Addr) (d : List Int) (c0 : Nat) (a1 : Option Addr) (ta : List Int) (c1 : Nat) (a2 : Option Addr) (tb : List Int) (c2 : Nat) (w : World) (h0 : Rd w a0 d) (h1 : Rd w a1 ta) (h2 : Rd w a2 tb) (u0 : U8 d) (ua : U8 ta) (ub : U8 tb) (hc0 : d.length ≤ c0) (hc0' : c0 ≤ 9223372036854775807) (hc1 : ta.length ≤ c1) (hc1' : c1 ≤ 9223372036854775807) (hc2 : tb.length ≤ c2) (hc2' : c2 ≤ 9223372036854775807) :
    Calls Try.prog 4 #[.slice a0 d.length c0, .slice a1 ta.length c1, .slice a2 tb.length c2] w fun e w' => e = .returned (.bool true) ∧ Keep Non w w' := by
  by_cases hh : d.length ≤ 262144 ∧ ta.length ≤ 262144 ∧ tb.length ≤ 262144
  · rcases a1 with _ | x1 <;> rcases a2 with _ | x2
    · exact law4_nn a0 d c0 ta c1 tb c2 w h0 h1 h2 u0 ua ub hh.1 hh.2.1 hh.2.2 hc1 hc1' hc2 hc2'
    · exact law4_nc a0 d c0 ta c1 x2 tb c2 w h0 h1 h2 u0 ua ub hh.1 hh.2.1 hh.2.2 hc1 hc1' hc2 hc2'
    · exact law4_cn a0 d c0 x1 ta c1 tb c2 w h0 h1 h2 u0 ua ub hh.1 hh.2.1 hh.2.2 hc1 hc1' hc2 hc2'
    · exact law4_cc a0 d c0 x1 ta c1 x2 tb c2 w h0 h1 h2 u0 ua ub hh.1 hh.2.1 hh.2.2 hc1 hc1' hc2 hc2'
  · exact law4_long a0 a1 a2 _ _ _ c0 c1 c2 w (by omega) (by omega) (by omega) hh
end Go.Proofs.Qxb6627505a
