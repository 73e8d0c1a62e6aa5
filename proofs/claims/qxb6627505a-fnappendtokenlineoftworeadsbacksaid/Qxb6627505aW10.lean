import Derived.Test.Qxb6627505aW9
namespace Go.Proofs.Qxb6627505a
open Go.RowKit
set_option linter.unusedVariables false

theorem Rd.cell {w : World} {x : Addr} {t : List Int} (h : Rd w (some x) t) (i : Nat) (hi : i < t.length) : w.cell? (x.add i) = some (.int .u8 (t.getD i 0)) := by
  rcases h with h | ⟨y, hy, f⟩
  · cases h.1
  · cases hy; exact f i hi
theorem add_block (x : Addr) (k : Nat) : (x.add k).block = x.block := by unfold Addr.add; split <;> rfl

theorem St.hex {w w2 w3 : World} {v0 : Value} {base g2 g3 cap3 : Nat} {Z news : List Int} (hn : news.length = 2) (hown : Own w3 base (.slice (some ⟨g3, 0, none⟩) (Z.length + 2) cap3) (Z ++ news)) (hk3 : Keep (fun k => v0.ownBlock = some k) w w2)
    (hg3 : v0.ownBlock = some g2 ∨ w.heap.size ≤ g2) (hk4 : Keep (fun k => k = g2) w2 w3) (hg4 : g3 = g2 ∨ w2.heap.size ≤ g3) : St w v0 base w3 (.slice (some ⟨g3, 0, none⟩) (Z.length + 2) cap3) (Z ++ news) := by
  have hs := hk3.size
  refine ⟨g3, cap3, by simp [hn], by simpa [hn] using hown, hk3.then hk4 fun i hi e => ?_, ?_⟩
  · rcases hg3 with h | h
    · rw [h, e]
    · omega
  · rcases hg4 with h | h
    · subst h; exact hg3
    · right; omega

set_option maxHeartbeats 1600000 in
theorem token_quoted (base : Nat) (v0 : Value) (d t : List Int) (a : Option Addr) (c : Nat) (w : World) (hown : Own w base v0 d) (h : Rd w a t) (hu : U8 t) (hq : bareTok t = false) (hb : base ≤ w.heap.size)
    (hd : d.length ≤ 4000000) (ht : t.length ≤ 1000000) (hcp : t.length ≤ c) (hcp2 : c ≤ 9223372036854775807) (hne : ∀ x, a = some x → v0.ownBlock ≠ some x.block) :
    Calls Try.prog 7 #[v0, .slice a t.length c] w fun e w' => ∃ v', e = .returned v' ∧ St w v0 base w' v' (d ++ (34 :: (encQ t ++ [34]))) := by
  go_enter Try.func7, Try.ntmps7
  go_wp2_with (first | (go_at_call 11; refine (bareToken_any a t c _ h hu (by omega)).mono ?_; rintro e w' ⟨rfl, hw⟩; obtain rfl := hw.symm; rw [hq]) | (at_builtin; refine wpList_st0 (v0 := v0) rfl _ _ rfl base d rfl hown 1 [34] 1 rfl rfl _ rfl (by decide) (by omega) hb ?_; intro v1 w1 hst1))
  have hst1' : St w v0 base w1 v1 (d ++ 34 :: encQ (t.take 0)) := by simpa [encQ] using hst1
  clear hst1
  go_loopw [0, 17] (fun v i wr => ∃ k : Nat, k ≤ t.length ∧ i = .int .i64 k ∧ St w v0 base wr v (d ++ 34 :: encQ (t.take k))) (fun _ i _ => t.length - (intOf i).toNat)
  case atStart => exact ⟨0, Nat.zero_le _, rfl, hst1'⟩
  case round =>
    obtain ⟨k, hk, rfl, hst⟩ := hrel
    have hlq : (d ++ 34 :: encQ (t.take k)).length + 4 ≤ 100000000 := by
      have := encQ_len (t.take k)
      simp at this ⊢
      omega
    by_cases hlt : k < t.length
    · obtain ⟨g, cap, hv, hown2, hkeep, hgl⟩ := id hst
      rcases id (h.keep hkeep (fun x hx e => hne x hx e)) with h2 | ⟨x, hax, f⟩
      · rw [h2.2] at hlt; simp at hlt
      have y := f k hlt
      have hb2 := hu.at k hlt
      have hlt' : (k : Int) < (t.length : Int) := by omega
      clear f
      subst hax
      obtain ⟨cc, hc⟩ : ∃ cc, Hid (t.getD k 0 = cc) := ⟨_, rfl⟩
      rw [hc.out] at y hb2
      have hlen1 : (d ++ 34 :: encQ (t.take k)).length + 1 ≤ 100000000 := by omega
      have hlen2 : (d ++ 34 :: encQ (t.take k)).length + 2 ≤ 100000000 := by omega
      by_cases e1 : cc = 92
      · subst e1
        have hpr : printable 92 = true := by decide
        clear hv hown2 hkeep hgl hlq
        go_wp2_with (first | (at_builtin; refine wpList_st (v0 := v0) rfl _ _ rfl base u0 _ rfl hst 2 [92, 92] 2 rfl rfl _ rfl (by decide) hlen2 hb ?_; intro v2 w2 hst2; clear hst) | (go_at_call 12; refine (isPrintable_any _ _ hb2.1 hb2.2).mono ?_; rintro e w' ⟨rfl, hw⟩; obtain rfl := hw.symm; rw [hpr]))
        go_roundw
        case rel => exact ⟨k + 1, by omega, by go_num, by rw [encQ_snoc t k hlt, hc.out]; simpa [encB] using hst2⟩
        case measure => simp [intOf]; omega
      by_cases e2 : cc = 34
      · subst e2
        have hpr : printable 34 = true := by decide
        clear hv hown2 hkeep hgl hlq
        go_wp2_with (first | (at_builtin; refine wpList_st (v0 := v0) rfl _ _ rfl base u0 _ rfl hst 2 [92, 34] 2 rfl rfl _ rfl (by decide) hlen2 hb ?_; intro v2 w2 hst2; clear hst) | (go_at_call 12; refine (isPrintable_any _ _ hb2.1 hb2.2).mono ?_; rintro e w' ⟨rfl, hw⟩; obtain rfl := hw.symm; rw [hpr]))
        go_roundw
        case rel => exact ⟨k + 1, by omega, by go_num, by rw [encQ_snoc t k hlt, hc.out]; simpa [encB] using hst2⟩
        case measure => simp [intOf]; omega
      by_cases e3 : cc = 10
      · subst e3
        have hpr : printable 10 = false := by decide
        clear hv hown2 hkeep hgl hlq
        go_wp2_with (first | (at_builtin; refine wpList_st (v0 := v0) rfl _ _ rfl base u0 _ rfl hst 2 [92, 110] 2 rfl rfl _ rfl (by decide) hlen2 hb ?_; intro v2 w2 hst2; clear hst) | (go_at_call 12; refine (isPrintable_any _ _ hb2.1 hb2.2).mono ?_; rintro e w' ⟨rfl, hw⟩; obtain rfl := hw.symm; rw [hpr]))
        go_roundw
        case rel => exact ⟨k + 1, by omega, by go_num, by rw [encQ_snoc t k hlt, hc.out]; simpa [encB] using hst2⟩
        case measure => simp [intOf]; omega
      by_cases e4 : cc = 9
      · subst e4
        have hpr : printable 9 = false := by decide
        clear hv hown2 hkeep hgl hlq
        go_wp2_with (first | (at_builtin; refine wpList_st (v0 := v0) rfl _ _ rfl base u0 _ rfl hst 2 [92, 116] 2 rfl rfl _ rfl (by decide) hlen2 hb ?_; intro v2 w2 hst2; clear hst) | (go_at_call 12; refine (isPrintable_any _ _ hb2.1 hb2.2).mono ?_; rintro e w' ⟨rfl, hw⟩; obtain rfl := hw.symm; rw [hpr]))
        go_roundw
        case rel => exact ⟨k + 1, by omega, by go_num, by rw [encQ_snoc t k hlt, hc.out]; simpa [encB] using hst2⟩
        case measure => simp [intOf]; omega
      have d1 : (cc == 92) = false := by simp [e1]
      have d2 : (cc == 34) = false := by simp [e2]
      have d3 : (cc == 10) = false := by simp [e3]
      have d4 : (cc == 9) = false := by simp [e4]
      cases hpr : printable cc
      · have E : encB cc = [92, 120, hexd (cc / 16), hexd (cc % 16)] := by simp [encB, e1, e2, e3, e4, hpr]
        have HE : Hid (encB cc = [92, 120, hexd (cc / 16), hexd (cc % 16)]) := E
        clear E e1 e2 e3 e4
        have hxs : x.block < w.heap.size := by have := World.block_lt_of_cell? _ _ (h.cell k hlt); rwa [add_block] at this
        have hne1 : v0.ownBlock ≠ some x.block := hne x rfl
        have hkc : (k : Int) + 1 ≤ (c : Int) := by omega
        obtain ⟨Z, hZ⟩ : ∃ Z, Hid (d ++ 34 :: encQ (t.take k) ++ [92, 120] = Z) := ⟨d ++ 34 :: encQ (t.take k) ++ [92, 120], (rfl : d ++ 34 :: encQ (t.take k) ++ [92, 120] = _)⟩
        have hZl : Z.length ≤ 9000000 := by rw [← hZ.out]; have := encQ_len (t.take k); simp at this ⊢; omega
        clear hv hown2 hkeep hgl hlq
        go_wp2_with (first | (at_builtin; refine wpList_st (v0 := v0) rfl _ _ rfl base u0 _ rfl hst 2 [92, 120] 2 rfl rfl _ rfl (by decide) hlen2 hb ?_; intro v2 w2 hst2; clear hst; rw [hZ.out] at hst2; obtain ⟨g2, cap2, rfl, hown3, hk3, hg3⟩ := hst2; have hx2 : w2.cell? (x.add k) = some (.int .u8 cc) := (hc.out ▸ (h.keep hk3 (fun x hx e => hne x hx e)).cell k hlt); have hne2 : (x.add k).block ≠ g2 := (by rw [add_block]; intro e; rcases hg3 with h3 | h3; (exact hne1 (e ▸ h3)); omega)) | (go_at_call 12; refine (isPrintable_any _ _ hb2.1 hb2.2).mono ?_; rintro e w' ⟨rfl, hw⟩; obtain rfl := hw.symm; rw [hpr]) | (go_at_call 13; refine (appendEncode_one base g2 cap2 _ (x.add k) cc Z w2 hown3 (Nat.le_trans hb hk3.size) hZl hx2 hb2.1 hb2.2 hne2).mono ?_; rintro e w3 ⟨g3, cap3, rfl, hown4, hk4, hg4⟩))
        go_roundw
        case rel => exact ⟨k + 1, by omega, by go_num, by rw [encQ_snoc t k hlt, hc.out, HE.out]; have := St.hex (by simp) hown4 hk3 hg3 hk4 hg4; have e : Z ++ [hexd (cc / 16), hexd (cc % 16)] = d ++ 34 :: (encQ (t.take k) ++ [92, 120, hexd (cc / 16), hexd (cc % 16)]) := (by rw [← hZ.out]; simp); rw [e] at this; exact this⟩
        case measure => simp [intOf]; omega
      · have E : encB cc = [cc] := by simp [encB, e1, e2, e3, e4, hpr]
        have HE : Hid (encB cc = [cc]) := E
        clear E e1 e2 e3 e4
        clear hv hown2 hkeep hgl hlq
        go_wp2_with (first | (at_builtin; refine wpList_st (v0 := v0) rfl _ _ rfl base u0 _ rfl hst 1 [cc] 1 rfl rfl _ rfl (by decide) hlen1 hb ?_; intro v2 w2 hst2; clear hst) | (go_at_call 12; refine (isPrintable_any _ _ hb2.1 hb2.2).mono ?_; rintro e w' ⟨rfl, hw⟩; obtain rfl := hw.symm; rw [hpr]))
        go_roundw
        case rel => exact ⟨k + 1, by omega, by go_num, by rw [encQ_snoc t k hlt, hc.out]; rw [HE.out]; simpa using hst2⟩
        case measure => simp [intOf]; omega
    · have hke : k = t.length := by omega
      have hlen1 : (d ++ 34 :: encQ (t.take k)).length + 1 ≤ 100000000 := by omega
      clear hlq
      subst hke
      go_wp2_with (at_builtin; refine wpList_st (v0 := v0) rfl _ _ rfl base u0 _ rfl hst 1 [34] 1 rfl rfl _ rfl (by decide) hlen1 hb ?_; intro v2 w2 hst2; clear hst)
      go_ret
      exact ⟨_, rfl, by simpa using hst2⟩

theorem token_bare (base : Nat) (v0 : Value) (d t : List Int) (a : Option Addr) (c : Nat) (w : World) (hown : Own w base v0 d) (h : Rd w a t) (hu : U8 t) (hq : bareTok t = true) (hb : base ≤ w.heap.size)
    (hd : d.length ≤ 4000000) (ht : t.length ≤ 1000000) :
    Calls Try.prog 7 #[v0, .slice a t.length c] w fun e w' => ∃ v', e = .returned v' ∧ St w v0 base w' v' (d ++ t) := by
  have hpos : 0 < t.length := by
    rcases t with _ | ⟨x, t⟩
    · simp [bareTok] at hq
    · simp
  rcases id h with h2 | ⟨x, rfl, f⟩
  · rw [h2.2] at hpos; simp at hpos
  go_enter Try.func7, Try.ntmps7
  go_wp2_with (first | (go_at_call 11; refine (bareToken_any _ t c _ h hu (by omega)).mono ?_; rintro e w' ⟨rfl, hw⟩; obtain rfl := hw.symm; rw [hq]) | (at_builtin; refine wpList_app rfl _ _ rfl base v0 d rfl hown x c t t.length rfl rfl f hpos (by omega) hb ?_; intro g cap w2 h1 h2 h3))
  go_ret
  refine ⟨_, rfl, g, cap, by simp, by simpa using h1, h2, ?_⟩
  rcases h3 with h3 | h3
  · exact .inl h3
  · right; omega

/-- AppendToken. -/
theorem token_any (base : Nat) (v0 : Value) (d t : List Int) (a : Option Addr) (c : Nat) (w : World) (hown : Own w base v0 d) (h : Rd w a t) (hu : U8 t) (hb : base ≤ w.heap.size)
    (hd : d.length ≤ 4000000) (ht : t.length ≤ 1000000) (hcp : t.length ≤ c) (hcp2 : c ≤ 9223372036854775807) (hne : ∀ x, a = some x → v0.ownBlock ≠ some x.block) :
    Calls Try.prog 7 #[v0, .slice a t.length c] w fun e w' => ∃ v', e = .returned v' ∧ St w v0 base w' v' (d ++ enc t) := by
  cases hq : bareTok t
  · have : enc t = 34 :: (encQ t ++ [34]) := by simp [enc, hq]
    rw [this]; exact token_quoted base v0 d t a c w hown h hu hq hb hd ht hcp hcp2 hne
  · have : enc t = t := by simp [enc, hq]
    rw [this]; exact token_bare base v0 d t a c w hown h hu hq hb hd ht
end Go.Proofs.Qxb6627505a
