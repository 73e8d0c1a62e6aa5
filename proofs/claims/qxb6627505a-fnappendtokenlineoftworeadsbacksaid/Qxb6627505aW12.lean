import Derived.Test.Qxb6627505aW11
namespace Go.Proofs.Qxb6627505a
open Go.RowKit
set_option linter.unusedVariables false
set_option linter.unusedSimpArgs false

theorem hexv_hexd (n : Int) (h0 : 0 ≤ n) (h1 : n < 16) : hexv (hexd n) = some n := by
  unfold hexv hexd
  repeat' split
  all_goals first | omega | (simp; done) | (simp; omega)
theorem hexd_u8 (n : Int) (h0 : 0 ≤ n) (h1 : n < 16) : 0 ≤ hexd n ∧ hexd n ≤ 255 := by
  unfold hexd; split <;> omega
theorem or_nib_fin : ∀ a b : Fin 16, bits .or .u8 ((a.val : Int) * 16) (b.val : Int) = (a.val : Int) * 16 + (b.val : Int) := by decide +kernel
theorem or_nib (H L : Int) (h0 : 0 ≤ H) (h1 : H < 16) (l0 : 0 ≤ L) (l1 : L < 16) : bits .or .u8 (H * 16) L = H * 16 + L := by
  have := or_nib_fin ⟨H.toNat, by omega⟩ ⟨L.toNat, by omega⟩
  simpa [Int.toNat_of_nonneg h0, Int.toNat_of_nonneg l0] using this
theorem addS (x : Addr) (q j : Nat) (h : 0 < j) : x.add (q + j) = ⟨x.block, x.off + (q + j), none⟩ := by
  have : ¬ (q + j = 0) := by omega
  simp only [Addr.add, this, if_false]
theorem take_snoc (t : List Int) (k : Nat) (hk : k < t.length) : t.take (k + 1) = t.take k ++ [t.getD k 0] := by
  rw [List.take_add_one]; simp [hk]
theorem encQ_app (a b : List Int) : encQ (a ++ b) = encQ a ++ encQ b := by simp [encQ]
theorem encQ_cut (t : List Int) (k : Nat) (hk : k < t.length) : encQ t = encQ (t.take k) ++ (encB (t.getD k 0) ++ encQ (t.drop (k + 1))) := by
  have h1 : t = t.take k ++ (t.getD k 0 :: t.drop (k + 1)) := by
    have : t.drop k = t.getD k 0 :: t.drop (k + 1) := by rw [List.drop_eq_getElem_cons hk]; simp [hk]
    rw [← this]; exact (List.take_append_drop k t).symm
  have h2 : encQ (t.getD k 0 :: t.drop (k + 1)) = encB (t.getD k 0) ++ encQ (t.drop (k + 1)) := by simp [encQ]
  rw [← h2, ← encQ_app, ← h1]
theorem encQ_at (t : List Int) (k j : Nat) (hk : k < t.length) (hj : j < (encB (t.getD k 0)).length) : (encQ t ++ [34]).getD ((encQ (t.take k)).length + j) 0 = (encB (t.getD k 0)).getD j 0 := by
  rw [encQ_cut t k hk]
  generalize encB (t.getD k 0) = B at hj ⊢
  rw [List.getD_eq_getElem?_getD, List.getD_eq_getElem?_getD]
  rw [List.append_assoc, List.getElem?_append_right (by omega), Nat.add_sub_cancel_left, List.append_assoc, List.getElem?_append_left hj]
theorem encQ_room (t : List Int) (k : Nat) (hk : k < t.length) : (encQ (t.take k)).length + (encB (t.getD k 0)).length ≤ (encQ t).length := by
  rw [encQ_cut t k hk]
  generalize encB (t.getD k 0) = B
  simp only [List.length_append]; omega

set_option maxRecDepth 100000 in
set_option maxHeartbeats 3200000 in
theorem read_quoted (x : Addr) (s t : List Int) (p c : Nat) (w : World) (h : Rd w (some x) s) (hu : U8 s) (hut : U8 t) (hp : p + 1 + ((encQ t).length + 1) ≤ s.length) (h34 : s.getD p 0 = 34)
    (hs : ∀ i, i < (encQ t).length + 1 → s.getD (p + 1 + i) 0 = (encQ t ++ [34]).getD i 0) (hb : bareTok t = false)
    (hn : s.length ≤ 9000000) (ht : t.length ≤ 1000000) (hcp : s.length ≤ c) (hcp2 : c ≤ 9223372036854775807) :
    Calls Try.prog 9 #[.slice (some x) s.length c, .int .i64 p] w (ReadOk w t (p + 1 + (encQ t).length + 1)) := by
  have y0 := h.cell p (by omega)
  rw [h34] at y0
  have hHs : Hid (∀ i, i < (encQ t).length + 1 → s.getD (p + 1 + i) 0 = (encQ t ++ [34]).getD i 0) := hs
  have hplt : (p : Int) < (s.length : Int) := by omega
  have n1 : decide ((p : Int) < 0) = false := by simp
  have n2 : decide (s.length ≤ p) = false := by simp; omega
  clear hs h34
  have hst0 : St w (.slice none 0 0) w.heap.size (w.alloc (.cells #[] 5)) (.slice (some ⟨w.heap.size, 0, none⟩) 0 0) [] :=
    ⟨w.heap.size, 0, rfl, ⟨rfl, .inr ⟨w.heap.size, 0, #[], rfl, Nat.le_refl _, heap_alloc_new w _, Nat.le_refl _, by unfold maxLen; omega, rfl, rfl⟩⟩, (Keep.refl _ w).alloc _, .inr (Nat.le_refl _)⟩
  go_enter Try.func9, Try.ntmps9
  go_wp2
  go_loopw [9, 10, 11] (fun v i cl wr => ∃ q : Nat, i = .int .i64 q ∧ ((∃ k : Nat, k ≤ t.length ∧ q = p + 1 + (encQ (t.take k)).length ∧ cl = .bool false ∧ St w (.slice none 0 0) w.heap.size wr v (t.take k)) ∨ (q = p + 1 + (encQ t).length + 1 ∧ cl = .bool true ∧ St w (.slice none 0 0) w.heap.size wr v t))) (fun _ i _ _ => s.length - (intOf i).toNat)
  case atStart => exact ⟨p + 1, by go_num, .inl ⟨0, Nat.zero_le _, by simp [encQ], rfl, hst0⟩⟩
  case round =>
    clear y0 hst0
    obtain ⟨q, rfl, hst | hst⟩ := hrel
    · obtain ⟨k, hk, hqe0, rfl, hst⟩ := hst
      have hqe : Hid (q = p + 1 + (encQ (t.take k)).length) := hqe0
      obtain ⟨g, cap, hv, hown2, hkeep, hgl⟩ := id hst
      have hR := h.keep hkeep (fun x hx e => by cases e)
      have hlen : (t.take k).length + 1 ≤ 100000000 := by simp; omega
      clear hv hown2 hkeep hgl
      by_cases hlt : k < t.length
      · obtain ⟨cc, hcv⟩ : ∃ cc, Hid (t.getD k 0 = cc) := ⟨_, rfl⟩
        have hcells : ∀ j, j < (encB cc).length → wr.cell? (x.add (q + j)) = some (.int .u8 ((encB cc).getD j 0)) := fun j hj => by
          have e1 := encQ_room t k hlt
          rw [hcv.out] at e1
          rw [hR.cell (q + j) (by omega), hqe.out, Nat.add_assoc, hHs.out ((encQ (t.take k)).length + j) (by omega), encQ_at t k j hlt (by rw [hcv.out]; exact hj), hcv.out]
        have hroom : ∀ j, (encB cc).length = j → q + j + 1 ≤ s.length := fun j hj => by
          have e1 := encQ_room t k hlt
          rw [hcv.out] at e1
          omega
        have hb2 := hut.at k hlt
        rw [hcv.out] at hb2
        clear hqe0 hR
        by_cases e1 : cc = 92
        · subst e1
          have HE : Hid (encB 92 = [92, 92]) := show encB 92 = [92, 92] by decide
          have y0 := hcells 0 (by rw [HE.out]; simp)
          have y1 := hcells 1 (by rw [HE.out]; simp)
          rw [HE.out] at y0 y1
          have hq1 := hroom 2 (by rw [HE.out]; simp)
          have hnx : Hid ((encQ (t.take (k + 1))).length = (encQ (t.take k)).length + 2) := show _ = _ by rw [encQ_snoc t k hlt, List.length_append, hcv.out, HE.out]; simp
          simp only [List.getD_cons_zero, List.getD_cons_succ, Nat.add_zero] at y0 y1
          rw [addS x q 1 (by omega)] at y1
          clear hcells hroom HE
          have hlt0 : (q : Int) < (s.length : Int) := by omega
          have hlt1 : (q : Int) + 1 < (s.length : Int) := by omega
          go_wp2_with (first | (at_builtin; refine wpList_st (v0 := .slice none 0 0) rfl _ _ rfl w.heap.size u9 _ rfl hst 1 [92] 1 rfl rfl _ rfl (by decide) hlen (Nat.le_refl _) ?_; intro v2 w2 hst2; clear hst))
          go_roundw
          case rel => exact ⟨q + 2, by go_num, .inl ⟨k + 1, by omega, by rw [hnx.out, hqe.out]; omega, rfl, by rw [take_snoc t k hlt, hcv.out]; exact hst2⟩⟩
          case measure => simp [intOf]; omega
        by_cases e2 : cc = 34
        · subst e2
          have HE : Hid (encB 34 = [92, 34]) := show encB 34 = [92, 34] by decide
          have y0 := hcells 0 (by rw [HE.out]; simp)
          have y1 := hcells 1 (by rw [HE.out]; simp)
          rw [HE.out] at y0 y1
          have hq1 := hroom 2 (by rw [HE.out]; simp)
          have hnx : Hid ((encQ (t.take (k + 1))).length = (encQ (t.take k)).length + 2) := show _ = _ by rw [encQ_snoc t k hlt, List.length_append, hcv.out, HE.out]; simp
          simp only [List.getD_cons_zero, List.getD_cons_succ, Nat.add_zero] at y0 y1
          rw [addS x q 1 (by omega)] at y1
          clear hcells hroom HE
          have hlt0 : (q : Int) < (s.length : Int) := by omega
          have hlt1 : (q : Int) + 1 < (s.length : Int) := by omega
          go_wp2_with (first | (at_builtin; refine wpList_st (v0 := .slice none 0 0) rfl _ _ rfl w.heap.size u9 _ rfl hst 1 [34] 1 rfl rfl _ rfl (by decide) hlen (Nat.le_refl _) ?_; intro v2 w2 hst2; clear hst))
          go_roundw
          case rel => exact ⟨q + 2, by go_num, .inl ⟨k + 1, by omega, by rw [hnx.out, hqe.out]; omega, rfl, by rw [take_snoc t k hlt, hcv.out]; exact hst2⟩⟩
          case measure => simp [intOf]; omega
        by_cases e3 : cc = 10
        · subst e3
          have HE : Hid (encB 10 = [92, 110]) := show encB 10 = [92, 110] by decide
          have y0 := hcells 0 (by rw [HE.out]; simp)
          have y1 := hcells 1 (by rw [HE.out]; simp)
          rw [HE.out] at y0 y1
          have hq1 := hroom 2 (by rw [HE.out]; simp)
          have hnx : Hid ((encQ (t.take (k + 1))).length = (encQ (t.take k)).length + 2) := show _ = _ by rw [encQ_snoc t k hlt, List.length_append, hcv.out, HE.out]; simp
          simp only [List.getD_cons_zero, List.getD_cons_succ, Nat.add_zero] at y0 y1
          rw [addS x q 1 (by omega)] at y1
          clear hcells hroom HE
          have hlt0 : (q : Int) < (s.length : Int) := by omega
          have hlt1 : (q : Int) + 1 < (s.length : Int) := by omega
          go_wp2_with (first | (at_builtin; refine wpList_st (v0 := .slice none 0 0) rfl _ _ rfl w.heap.size u9 _ rfl hst 1 [10] 1 rfl rfl _ rfl (by decide) hlen (Nat.le_refl _) ?_; intro v2 w2 hst2; clear hst))
          go_roundw
          case rel => exact ⟨q + 2, by go_num, .inl ⟨k + 1, by omega, by rw [hnx.out, hqe.out]; omega, rfl, by rw [take_snoc t k hlt, hcv.out]; exact hst2⟩⟩
          case measure => simp [intOf]; omega
        by_cases e4 : cc = 9
        · subst e4
          have HE : Hid (encB 9 = [92, 116]) := show encB 9 = [92, 116] by decide
          have y0 := hcells 0 (by rw [HE.out]; simp)
          have y1 := hcells 1 (by rw [HE.out]; simp)
          rw [HE.out] at y0 y1
          have hq1 := hroom 2 (by rw [HE.out]; simp)
          have hnx : Hid ((encQ (t.take (k + 1))).length = (encQ (t.take k)).length + 2) := show _ = _ by rw [encQ_snoc t k hlt, List.length_append, hcv.out, HE.out]; simp
          simp only [List.getD_cons_zero, List.getD_cons_succ, Nat.add_zero] at y0 y1
          rw [addS x q 1 (by omega)] at y1
          clear hcells hroom HE
          have hlt0 : (q : Int) < (s.length : Int) := by omega
          have hlt1 : (q : Int) + 1 < (s.length : Int) := by omega
          go_wp2_with (first | (at_builtin; refine wpList_st (v0 := .slice none 0 0) rfl _ _ rfl w.heap.size u9 _ rfl hst 1 [9] 1 rfl rfl _ rfl (by decide) hlen (Nat.le_refl _) ?_; intro v2 w2 hst2; clear hst))
          go_roundw
          case rel => exact ⟨q + 2, by go_num, .inl ⟨k + 1, by omega, by rw [hnx.out, hqe.out]; omega, rfl, by rw [take_snoc t k hlt, hcv.out]; exact hst2⟩⟩
          case measure => simp [intOf]; omega
        have d1 : (cc == 92) = false := by simp [e1]
        have d2 : (cc == 34) = false := by simp [e2]
        have d3 : (cc == 10) = false := by simp [e3]
        have d4 : (cc == 9) = false := by simp [e4]
        cases hpr : printable cc
        · skip
          have hpp : cc < 32 ∨ 126 < cc := by simp [printable] at hpr; omega
          obtain ⟨H, hH⟩ : ∃ H, Hid (cc / 16 = H) := ⟨_, rfl⟩
          obtain ⟨L, hL⟩ : ∃ L, Hid (cc % 16 = L) := ⟨_, rfl⟩
          have hcHL : Hid (cc = 16 * H + L) := show cc = 16 * H + L by rw [← hH.out, ← hL.out]; omega
          have hH2 : 0 ≤ H ∧ H < 16 := by rw [← hH.out]; omega
          have hL2 : 0 ≤ L ∧ L < 16 := by rw [← hL.out]; omega
          obtain ⟨B2, hB2⟩ : ∃ B, Hid (hexd H = B) := ⟨_, rfl⟩
          obtain ⟨B3, hB3⟩ : ∃ B, Hid (hexd L = B) := ⟨_, rfl⟩
          have HE : Hid (encB cc = [92, 120, B2, B3]) := show encB cc = [92, 120, B2, B3] by rw [← hB2.out, ← hB3.out, ← hH.out, ← hL.out]; simp [encB, e1, e2, e3, e4, hpr]
          have hx1 := hexd_u8 H hH2.1 hH2.2
          have hx2 := hexd_u8 L hL2.1 hL2.2
          have hv1 := hexv_hexd H hH2.1 hH2.2
          have hv2 := hexv_hexd L hL2.1 hL2.2
          rw [hB2.out] at hx1 hv1
          rw [hB3.out] at hx2 hv2
          have hor : bits .or .u8 (H * 16) L = cc := by rw [or_nib H L hH2.1 hH2.2 hL2.1 hL2.2, hcHL.out]; omega
          rcases hpp with hpp | hpp
          · skip
            have y0 := hcells 0 (by rw [HE.out]; simp)
            have y1 := hcells 1 (by rw [HE.out]; simp)
            have y2 := hcells 2 (by rw [HE.out]; simp)
            have y3 := hcells 3 (by rw [HE.out]; simp)
            rw [HE.out] at y0 y1 y2 y3
            have hq1 := hroom 4 (by rw [HE.out]; simp)
            have hnx : Hid ((encQ (t.take (k + 1))).length = (encQ (t.take k)).length + 4) := show _ = _ by rw [encQ_snoc t k hlt, List.length_append, hcv.out, HE.out]; simp
            simp only [List.getD_cons_zero, List.getD_cons_succ, Nat.add_zero] at y0 y1 y2 y3
            rw [addS x q 1 (by omega)] at y1
            rw [addS x q 2 (by omega)] at y2
            rw [addS x q 3 (by omega)] at y3
            clear hcells hroom HE
            have hlt0 : (q : Int) < (s.length : Int) := by omega
            have hlt1 : (q : Int) + 1 < (s.length : Int) := by omega
            have hlt2 : (q : Int) + 2 < (s.length : Int) := by omega
            have hlt3 : (q : Int) + 3 < (s.length : Int) := by omega
            go_wp2_with (first | (at_builtin; refine wpList_st (v0 := .slice none 0 0) rfl _ _ rfl w.heap.size u9 _ rfl hst 1 [cc] 1 rfl rfl _ rfl (by decide) hlen (Nat.le_refl _) ?_; intro v2 w2 hst2; clear hst) | (go_at_call 15; refine (hexDigit_any _ _ (by first | exact hx1.1 | exact hx2.1) (by first | exact hx1.2 | exact hx2.2)).mono ?_; rintro e w' ⟨rfl, hw⟩; obtain rfl := hw.symm; (first | rw [hv1] | rw [hv2])))
            go_roundw
            case rel => exact ⟨q + 4, by go_num, .inl ⟨k + 1, by omega, by rw [hnx.out, hqe.out]; omega, rfl, by rw [take_snoc t k hlt, hcv.out]; exact hst2⟩⟩
            case measure => simp [intOf]; omega
          · skip
            have y0 := hcells 0 (by rw [HE.out]; simp)
            have y1 := hcells 1 (by rw [HE.out]; simp)
            have y2 := hcells 2 (by rw [HE.out]; simp)
            have y3 := hcells 3 (by rw [HE.out]; simp)
            rw [HE.out] at y0 y1 y2 y3
            have hq1 := hroom 4 (by rw [HE.out]; simp)
            have hnx : Hid ((encQ (t.take (k + 1))).length = (encQ (t.take k)).length + 4) := show _ = _ by rw [encQ_snoc t k hlt, List.length_append, hcv.out, HE.out]; simp
            simp only [List.getD_cons_zero, List.getD_cons_succ, Nat.add_zero] at y0 y1 y2 y3
            rw [addS x q 1 (by omega)] at y1
            rw [addS x q 2 (by omega)] at y2
            rw [addS x q 3 (by omega)] at y3
            clear hcells hroom HE
            have hlt0 : (q : Int) < (s.length : Int) := by omega
            have hlt1 : (q : Int) + 1 < (s.length : Int) := by omega
            have hlt2 : (q : Int) + 2 < (s.length : Int) := by omega
            have hlt3 : (q : Int) + 3 < (s.length : Int) := by omega
            go_wp2_with (first | (at_builtin; refine wpList_st (v0 := .slice none 0 0) rfl _ _ rfl w.heap.size u9 _ rfl hst 1 [cc] 1 rfl rfl _ rfl (by decide) hlen (Nat.le_refl _) ?_; intro v2 w2 hst2; clear hst) | (go_at_call 15; refine (hexDigit_any _ _ (by first | exact hx1.1 | exact hx2.1) (by first | exact hx1.2 | exact hx2.2)).mono ?_; rintro e w' ⟨rfl, hw⟩; obtain rfl := hw.symm; (first | rw [hv1] | rw [hv2])))
            go_roundw
            case rel => exact ⟨q + 4, by go_num, .inl ⟨k + 1, by omega, by rw [hnx.out, hqe.out]; omega, rfl, by rw [take_snoc t k hlt, hcv.out]; exact hst2⟩⟩
            case measure => simp [intOf]; omega
        · skip
          have E : encB cc = [cc] := by simp [encB, e1, e2, e3, e4, hpr]
          have HE : Hid (encB cc = [cc]) := E
          clear E e1 e2 e3 e4
          have hpp : 32 ≤ cc ∧ cc ≤ 126 := by simpa [printable] using hpr
          have y0 := hcells 0 (by rw [HE.out]; simp)
          rw [HE.out] at y0
          have hq1 := hroom 1 (by rw [HE.out]; simp)
          have hnx : Hid ((encQ (t.take (k + 1))).length = (encQ (t.take k)).length + 1) := show _ = _ by rw [encQ_snoc t k hlt, List.length_append, hcv.out, HE.out]; simp
          simp only [List.getD_cons_zero, List.getD_cons_succ, Nat.add_zero] at y0
          clear hcells hroom HE
          have hlt0 : (q : Int) < (s.length : Int) := by omega
          go_wp2_with (first | (at_builtin; refine wpList_st (v0 := .slice none 0 0) rfl _ _ rfl w.heap.size u9 _ rfl hst 1 [cc] 1 rfl rfl _ rfl (by decide) hlen (Nat.le_refl _) ?_; intro v2 w2 hst2; clear hst))
          go_roundw
          case rel => exact ⟨q + 1, by go_num, .inl ⟨k + 1, by omega, by rw [hnx.out, hqe.out]; omega, rfl, by rw [take_snoc t k hlt, hcv.out]; exact hst2⟩⟩
          case measure => simp [intOf]; omega
      · have hke : k = t.length := by omega
        subst hke
        have yq : wr.cell? (x.add q) = some (.int .u8 34) := by
          rw [hR.cell q (by rw [hqe0]; simp; omega), hqe0, hHs.out _ (by simp)]
          simp
        have hlt0 : (q : Int) < (s.length : Int) := by rw [hqe0]; simp; omega
        clear hqe0 hR
        go_wp2
        go_roundw
        case rel => exact ⟨q + 1, by go_num, .inr ⟨by rw [hqe.out]; simp, rfl, by simpa using hst⟩⟩
        case measure => simp [intOf]; omega
    · obtain ⟨hqe0, rfl, hst⟩ := hst
      obtain ⟨g, cap, rfl, hown2, hkeep, hgl⟩ := hst
      have hR2 := hown2.rd
      have hK : Keep Non w wr := hkeep.mono fun i hi e => by cases e
      clear hown2 hkeep hgl
      have hqe : Hid (q = p + 1 + (encQ t).length + 1) := hqe0
      clear hqe0
      by_cases hlt0 : (q : Int) < (s.length : Int)
      · skip
        go_wp2_with (go_at_call 16; refine (bareForm_any _ t _ _ hR2 hut (by omega)).mono ?_; rintro e w' ⟨rfl, hw⟩; obtain rfl := hw.symm; rw [hb])
        go_ret3
        exact ⟨some ⟨g, 0, none⟩, cap, (by have e := hqe.out; subst e; rfl), hR2, hK⟩
      · skip
        go_wp2_with (go_at_call 16; refine (bareForm_any _ t _ _ hR2 hut (by omega)).mono ?_; rintro e w' ⟨rfl, hw⟩; obtain rfl := hw.symm; rw [hb])
        go_ret3
        exact ⟨some ⟨g, 0, none⟩, cap, (by have e := hqe.out; subst e; rfl), hR2, hK⟩
end Go.Proofs.Qxb6627505a
