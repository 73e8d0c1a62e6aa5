import Derived.Test.Qxb6626002aW6
namespace Go.Proofs.Qxb6626002a
open Go.RowKit
set_option linter.unusedVariables false

theorem stp_fs1 {b : Int} {q : Pl.Acc} {r : Int} {pt : Nat} {pw : Bool} {pc : Int} {pd : Bool} {st : Pl.St} (h : (Pl.conf b ⟨pt, pw, pc, pd⟩ q && !Pl.carry b st.c (st.zs.getD pt 0 == r) ⟨pt, pw, pc, pd⟩) = true) :
    (Pl.stp b q r ⟨pt, pw, pc, pd⟩ st).fs = st.fs ++ [(pt : Int)] := by
  simp only [Pl.stp, Int.toNat_natCast]; rw [if_pos h]
theorem stp_fs0 {b : Int} {q : Pl.Acc} {r : Int} {pt : Nat} {pw : Bool} {pc : Int} {pd : Bool} {st : Pl.St} (h : (Pl.conf b ⟨pt, pw, pc, pd⟩ q && !Pl.carry b st.c (st.zs.getD pt 0 == r) ⟨pt, pw, pc, pd⟩) = false) :
    (Pl.stp b q r ⟨pt, pw, pc, pd⟩ st).fs = st.fs := by
  simp only [Pl.stp, Int.toNat_natCast]; rw [if_neg (by rw [h]; simp)]

set_option maxRecDepth 100000 in
set_option maxHeartbeats 1600000 in
theorem prec_any (b : Int) (qt : Nat) (qw : Bool) (qc : Int) (qd : Bool) (lim r : Int) (V ops : List Pl.Acc) (zs : List Int) (pcs : Array Value) (L T A N O M F G cap m : Nat) (w : World)
    (hL : Blk w L (logC b O ops.length (.slice (some ⟨M, 0, none⟩) m cap) T) 50) (hT : Blk w T (setC A N r) 48) (hA : Blk w A (ints zs) 3) (hO : Blk w O (accs ops) 45) (hM : Blk w M pcs 3)
    (hF : Blk w F #[.slice none 0 0] 22) (hG : Blk w G #[.slice none 0 0] 22) (hap : Apt ⟨L, T, A, N, O, M, w.heap.size, w.heap.size + 1, F, G⟩)
    (hr : 0 ≤ r) (hr' : r < 1000) (hn : ops.length ≤ 5000) (hb : 0 ≤ b) (hb' : b ≤ 9223372036854775807) (hzs : zs.length = N)
    (hVok : ∀ p ∈ V, Pl.Acc.ok p ∧ 0 ≤ p.tx ∧ p.tx < N) (hq : Pl.Acc.ok ⟨qt, qw, qc, qd⟩)
    (hVn : V.length ≤ ops.length) (hV1 : qw = true → V = ops) (hV0 : qw = false → m = V.length ∧ ∀ j (h : j < V.length), ∃ i : Nat, ∃ h' : i < ops.length, pcs[j]? = some (.int .i64 i) ∧ V[j] = ops[i]) :
    Calls Try.prog 17 #[.pointer (some ⟨L, 0, none⟩), .agg #[.int .i64 qt, .bool qw, .int .i64 qc, .bool qd], .int .i64 lim, .func (.func 18) #[] #[.pointer (some ⟨F, 0, none⟩), .pointer (some ⟨G, 0, none⟩)]] w fun e w' =>
      ∃ (j : Nat) (v u : Value) (C Q : Nat), w.heap.size ≤ C ∧ j ≤ V.length ∧ PInv ⟨b, ⟨qt, qw, qc, qd⟩, r + 1, lim, V, ops, zs, .slice (some ⟨M, 0, none⟩) m cap, pcs⟩ ⟨L, T, A, N, O, M, Q, C, F, G⟩ w j v u w' ∧
        (j = 0 ∨ Pl.carryAll b (Pl.stJ b ⟨qt, qw, qc, qd⟩ (r + 1) V zs j).c = true ∨ lim < (V.length : Int) - j + 1) ∧
        e = .returned (.bool (decide (j = 0) || Pl.carryAll b (Pl.stJ b ⟨qt, qw, qc, qd⟩ (r + 1) V zs j).c)) := by
  have c0 : w.cell? ⟨L, 0, none⟩ = some (.int .i64 b) := hL.cell 0
  have c1 : w.cell? ⟨L, 1, none⟩ = some (.slice (some ⟨O, 0, none⟩) ops.length ops.length) := hL.cell 1
  have c2 : w.cell? ⟨L, 2, none⟩ = some (.slice (some ⟨M, 0, none⟩) m cap) := hL.cell 2
  have c3 : w.cell? ⟨L, 3, none⟩ = some (.pointer (some ⟨T, 0, none⟩)) := hL.cell 3
  have lL := hL.lt
  have HV1 : Hid (qw = true → V = ops) := hV1
  have HV0 : Hid (qw = false → m = V.length ∧ ∀ j (h : j < V.length), ∃ i : Nat, ∃ h' : i < ops.length, pcs[j]? = some (.int .i64 i) ∧ V[j] = ops[i]) := hV0
  have HVok : Hid (∀ p ∈ V, Pl.Acc.ok p ∧ 0 ≤ p.tx ∧ p.tx < N) := hVok
  have Hzs : Hid (zs.length = N) := hzs
  clear hV1 hV0 hVok hzs
  go_enter Try.func17, Try.ntmps17
  go_upto_if 20 with fail
  go_cut [9] (fun c wx => c = .int .i64 V.length ∧ wx = w.alloc (.cells #[.int .i64 qt, .bool qw, .int .i64 qc, .bool qd] 45))
  case first =>
    cases qw
    · have hm : Hid (m = V.length) := (HV0.out rfl).1
      go_wp2
      go_meet
      case rel => exact ⟨by rw [hm.out], rfl⟩
    · have hm : Hid (V.length = ops.length) := congrArg List.length (HV1.out rfl)
      go_wp2
      go_meet
      case rel => exact ⟨by rw [hm.out], rfl⟩
  case rest =>
    obtain ⟨rfl, rfl⟩ := hcut
    go_wp2_with fail
    refine (clear_any T A N r _ (hT.alloc _) hr hr').mono ?_
    rintro e w1 ⟨rfl, hT1, k1⟩
    have hL1 := (hL.alloc (.cells #[.int .i64 qt, .bool qw, .int .i64 qc, .bool qd] 45)).keep k1 hap.lx.1
    have e1 : w1.cell? ⟨L, 3, none⟩ = some (.pointer (some ⟨T, 0, none⟩)) := hL1.cell 3
    go_wp2
    have sz1 : w.heap.size + 1 ≤ w1.heap.size := by have := k1.size; simpa using this
    have hap1 : Apt ⟨L, T, A, N, O, M, w.heap.size, w1.heap.size, F, G⟩ := ⟨by have := hap.lt; simp only at this ⊢; omega, hap.tA, hap.tF, hap.tG, hap.aF, hap.aG, hap.fG, hap.lx, hap.ox, hap.mx, hap.qx⟩
    have I0 : PInv ⟨b, ⟨qt, qw, qc, qd⟩, r + 1, lim, V, ops, zs, .slice (some ⟨M, 0, none⟩) m cap, pcs⟩ ⟨L, T, A, N, O, M, w.heap.size, w1.heap.size, F, G⟩ w V.length (.slice none 0 0) (.slice none 0 0)
        (w1.alloc (.cells #[.pointer (some ⟨T, 0, none⟩), .bool false, .bool false, .int .i64 0, .int .i64 0] 55)) := by
      have st0 : Fix.st ⟨b, ⟨qt, qw, qc, qd⟩, r + 1, lim, V, ops, zs, .slice (some ⟨M, 0, none⟩) m cap, pcs⟩ V.length = ⟨⟨false, false, 0, 0⟩, zs, []⟩ := Pl.stJ_top _ _ _ _ _
      refine ⟨hL1.alloc _, hT1.alloc _, ?_, ?_, ((hO.alloc _).keep k1 hap.ox.1).alloc _, ((hM.alloc _).keep k1 hap.mx.1).alloc _, ?_, ((hF.alloc _).keep k1 hap.tF.symm).alloc _, ((hG.alloc _).keep k1 hap.tG.symm).alloc _, ?_, ?_, ?_, ?_, ?_⟩
      · rw [st0]; exact ((hA.alloc _).keep k1 hap.tA.symm).alloc _
      · rw [st0]; exact Blk.new _ _ _
      · exact ((Blk.new w (accs [⟨qt, qw, qc, qd⟩]) 45).keep k1 hap.qx.1).alloc _
      · rw [st0]; exact World.ownsRow_nil _ _ _ _
      · rw [st0]; exact World.ownsRow_nil _ _ _ _
      · intro k h; cases h
      · exact (((Keep.refl _ w).alloc _).then k1 fun _ _ e => .inl e).alloc _
      · intro j' h1 h2; simp only at h2; omega
    have hwC : w.heap.size ≤ w1.heap.size := by omega
    clear hL1 e1 c0 c1 c2 c3 hL hT hA hO hM hF hG hT1 k1 hap sz1 lL
    generalize hQb : w.heap.size = Qb at *
    generalize w1.heap.size = C at *
    have HwC : Hid (w.heap.size ≤ C) := by rw [hQb]; exact hwC
    clear hQb
    go_loopw [11] (fun i wr => ∃ (j : Nat) (v u : Value), j ≤ V.length ∧ i = .int .i64 ((j : Int) - 1) ∧ PInv ⟨b, ⟨qt, qw, qc, qd⟩, r + 1, lim, V, ops, zs, .slice (some ⟨M, 0, none⟩) m cap, pcs⟩ ⟨L, T, A, N, O, M, Qb, C, F, G⟩ w j v u wr) (fun i _ => (intOf i + 1).toNat)
    case atStart => exact ⟨V.length, _, _, Nat.le_refl _, rfl, I0⟩
    case round =>
      clear I0
      obtain ⟨j, v, u, hj, rfl, I⟩ := hrel
      have d0 : wr.cell? ⟨L, 0, none⟩ = some (.int .i64 b) := I.hL.cell 0
      have d1 : wr.cell? ⟨L, 1, none⟩ = some (.slice (some ⟨O, 0, none⟩) ops.length ops.length) := I.hL.cell 1
      have d2 : wr.cell? ⟨L, 2, none⟩ = some (.slice (some ⟨M, 0, none⟩) m cap) := I.hL.cell 2
      match j, hj, I with
      | 0, hj, I =>
        go_wp2
        go_ret
        exact ⟨0, v, u, C, Qb, HwC.out, Nat.zero_le _, I, .inl rfl, ret_bool (by simp)⟩
      | j + 1, hj, I =>
        have ej : ((j + 1 : Nat) : Int) - 1 = (j : Int) := by omega
        rw [ej]
        clear ej
        obtain ⟨hco, hds0, hzl⟩ := Pl.stJ_ok b ⟨qt, qw, qc, qd⟩ (r + 1) V zs (j + 1) (fun p hp => (HVok.out p hp).1)
        have hfl := Pl.stJ_fs b ⟨qt, qw, qc, qd⟩ (r + 1) V zs (j + 1)
        have hC' : Blk wr C (carC T (Pl.stJ b ⟨qt, qw, qc, qd⟩ (r + 1) V zs (j + 1)).c) 55 := I.hC
        have hstep := Pl.stJ_step b ⟨qt, qw, qc, qd⟩ (r + 1) V zs j (by omega)
        generalize hst : Pl.stJ b ⟨qt, qw, qc, qd⟩ (r + 1) V zs (j + 1) = st at *
        have Hst : Hid (Pl.stJ b ⟨qt, qw, qc, qd⟩ (r + 1) V zs (j + 1) = st) := hst
        clear hst
        by_cases hca : Pl.carryAll b st.c = true
        · clear hstep
          go_wp2_with (go_at_call 23; refine (carryAll_any b C T st.c _ ?_ hco hb hb').mono ?_; exact carAt hC'; rintro e w2 ⟨rfl, n2, rfl⟩)
          go_ret
          refine ⟨j + 1, v, u, C, Qb, HwC.out, by omega, I.non (by first | exact (Keep.refl _ _).drewN _ | exact ((Keep.refl _ _).drewN _).drewN _), .inr (.inl (by rw [Hst.out]; exact hca)), ret_bool (by rw [Hst.out]; simp [hca])⟩
        · replace hca : Pl.carryAll b st.c = false := by simpa using hca
          by_cases hl : (V.length : Int) - j ≤ lim
          · have hjV : j < V.length := by omega
            have hjo : j < ops.length := by omega
            have hpV := HVok.out V[j] (List.getElem_mem hjV)
            have HI : Hid (qw = true → V[j] = ops[j]) := fun h => by have := HV1.out h; subst this; rfl
            have HM : Hid (qw = false → m = V.length ∧ ∃ i : Nat, ∃ h' : i < ops.length, pcs[j]? = some (.int .i64 i) ∧ V[j] = ops[i]) := fun h => ⟨(HV0.out h).1, (HV0.out h).2 j hjV⟩
            generalize V[j] = p at *
            obtain ⟨pt0, pw, pc, pd⟩ := p
            obtain ⟨hpok, hp0, hp1⟩ := hpV
            simp only at hp0 hp1
            obtain ⟨pt, rfl⟩ : ∃ t : Nat, pt0 = t := ⟨pt0.toNat, by omega⟩
            have hptN : pt < N := by omega
            have Hstep : Hid (Pl.stJ b ⟨qt, qw, qc, qd⟩ (r + 1) V zs j = Pl.stp b ⟨qt, qw, qc, qd⟩ (r + 1) ⟨pt, pw, pc, pd⟩ st) := hstep
            clear hstep
            have Hw : ∀ j', j < j' → j' ≤ V.length → Pl.carryAll b (Pl.stJ b ⟨qt, qw, qc, qd⟩ (r + 1) V zs j').c = false ∧ (V.length : Int) - j' + 1 ≤ lim := by
              intro j' h1 h2
              by_cases h : j' = j + 1
              · subst h; rw [Hst.out]; exact ⟨hca, by omega⟩
              · exact I.went j' (by omega) h2
            replace Hw : Hid (∀ j', j < j' → j' ≤ V.length → Pl.carryAll b (Pl.stJ b ⟨qt, qw, qc, qd⟩ (r + 1) V zs j').c = false ∧ (V.length : Int) - j' + 1 ≤ lim) := Hw
            go_wp2_with fail
            refine (carryAll_any b C T st.c _ ?_ hco hb hb').mono ?_
            · exact carAt hC'
            rintro e w2 ⟨rfl, n2, hw2⟩
            have I2 := I.non (wr' := w2) (by rw [hw2]; exact (Keep.refl _ _).drewN _)
            clear I hw2 d0 d1 d2 hC'
            have d1 : w2.cell? ⟨L, 1, none⟩ = some (.slice (some ⟨O, 0, none⟩) ops.length ops.length) := I2.hL.cell 1
            have d2 : w2.cell? ⟨L, 2, none⟩ = some (.slice (some ⟨M, 0, none⟩) m cap) := I2.hL.cell 2
            have x0 : w2.cell? ⟨O, j * 4, none⟩ = some (.int .i64 ops[j].tx) := (I2.hO.cell (j * 4)).trans (accs_get ops j 0 hjo (by omega))
            have x1 : w2.cell? ⟨O, j * 4 + 1, none⟩ = some (.bool ops[j].wr) := (I2.hO.cell (j * 4 + 1)).trans (accs_get ops j 1 hjo (by omega))
            have x2 : w2.cell? ⟨O, j * 4 + 2, none⟩ = some (.int .i64 ops[j].cr) := (I2.hO.cell (j * 4 + 2)).trans (accs_get ops j 2 hjo (by omega))
            have x3 : w2.cell? ⟨O, j * 4 + 3, none⟩ = some (.bool ops[j].dis) := (I2.hO.cell (j * 4 + 3)).trans (accs_get ops j 3 hjo (by omega))
            have q1 : w2.cell? ⟨Qb, 1, none⟩ = some (.bool qw) := I2.hQ.cell 1
            have lQ := I2.hQ.lt
            have lL := I2.hL.lt
            have lO := I2.hO.lt
            have lM := I2.hM.lt
            simp only at lQ lL lO lM
            go_upto_if 66 with fail
            go_cut [12] (fun c wx => c = .pointer (some ⟨w2.heap.size, 0, none⟩) ∧ Blk wx w2.heap.size (accs [⟨pt, pw, pc, pd⟩]) 45 ∧ Keep Non w2 wx)
            case first =>
              cases qw
              · obtain ⟨hm, i, hi, hpi, hVi⟩ := HM.out rfl
                have Hm : Hid (m = V.length) := hm
                have him : (j : Int) < (m : Int) := by omega
                have hio : (i : Int) < (ops.length : Int) := by omega
                have y0 : w2.cell? ⟨O, i * 4, none⟩ = some (.int .i64 pt) := (I2.hO.cell (i * 4)).trans ((accs_get ops i 0 hi (by omega)).trans (by rw [← hVi]; rfl))
                have y1 : w2.cell? ⟨O, i * 4 + 1, none⟩ = some (.bool pw) := (I2.hO.cell (i * 4 + 1)).trans ((accs_get ops i 1 hi (by omega)).trans (by rw [← hVi]; rfl))
                have y2 : w2.cell? ⟨O, i * 4 + 2, none⟩ = some (.int .i64 pc) := (I2.hO.cell (i * 4 + 2)).trans ((accs_get ops i 2 hi (by omega)).trans (by rw [← hVi]; rfl))
                have y3 : w2.cell? ⟨O, i * 4 + 3, none⟩ = some (.bool pd) := (I2.hO.cell (i * 4 + 3)).trans ((accs_get ops i 3 hi (by omega)).trans (by rw [← hVi]; rfl))
                have m0 : w2.cell? ⟨M, j, none⟩ = some (.int .i64 i) := (I2.hM.cell j).trans hpi
                clear hm hpi hVi HM HI HV0 HV1
                go_wp2
                go_region
                all_goals
                  go_wp2
                  go_meet
                  case rel => exact ⟨rfl, Blk.new _ _ _, ((Keep.refl _ _).alloc _).drew⟩
              · have hE : Hid (ops[j] = ⟨pt, pw, pc, pd⟩) := (HI.out rfl).symm
                clear HM HI HV0 HV1
                go_wp2
                go_meet
                case rel => exact ⟨rfl, by rw [hE.out]; exact Blk.new _ _ _, (Keep.refl _ _).alloc _⟩
            case rest =>
              obtain ⟨rfl, hP, kP⟩ := hcut
              have I3 := I2.non kP
              have HvP := And.intro (fun k h => (I2.hv.lt k h).2) (fun k h => (I2.hu.lt k h).2)
              have nPC : w2.heap.size > C := by have := I2.hC.lt; simpa using this
              clear I2 kP d1 d2 x0 x1 x2 x3 q1 lQ lL lO lM
              have HvP : Hid ((∀ k, v.ownBlock = some k → k < w2.heap.size) ∧ ∀ k, u.ownBlock = some k → k < w2.heap.size) := HvP
              generalize w2.heap.size = P at *
              have hC3 : Blk wc C (carC T st.c) 55 := by rw [← Hst.out]; exact I3.hC
              have hA3 : Blk wc A (ints st.zs) 3 := by rw [← Hst.out]; exact I3.hA
              have Hzl : Hid (st.zs.length = N) := hzl.trans Hzs.out
              clear hzl
              have hds := Pl.ds_false hds0 hca
              generalize wc = w3 at *
              go_upto_region 12 with fail
              go_cut [92] (fun c wx => c = .bool (Pl.conf b ⟨pt, pw, pc, pd⟩ ⟨qt, qw, qc, qd⟩ && !Pl.carry b st.c (st.zs.getD pt 0 == r + 1) ⟨pt, pw, pc, pd⟩) ∧ Keep Non w3 wx)
              case first =>
                have hne : Nonempty (Later w3) := ⟨⟨w3, Keep.refl _ _⟩⟩
                have p0 := later_cell (show w3.cell? ⟨P, 0, none⟩ = some (.int .i64 pt) from hP.cell 0)
                have p1 := later_cell (show w3.cell? ⟨P, 1, none⟩ = some (.bool pw) from hP.cell 1)
                have p2 := later_cell (show w3.cell? ⟨P, 2, none⟩ = some (.int .i64 pc) from hP.cell 2)
                have p3 := later_cell (show w3.cell? ⟨P, 3, none⟩ = some (.bool pd) from hP.cell 3)
                have q0 := later_cell (show w3.cell? ⟨Qb, 0, none⟩ = some (.int .i64 qt) from I3.hQ.cell 0)
                have q1 := later_cell (show w3.cell? ⟨Qb, 1, none⟩ = some (.bool qw) from I3.hQ.cell 1)
                have q2 := later_cell (show w3.cell? ⟨Qb, 2, none⟩ = some (.int .i64 qc) from I3.hQ.cell 2)
                have q3 := later_cell (show w3.cell? ⟨Qb, 3, none⟩ = some (.bool qd) from I3.hQ.cell 3)
                have l0 := later_cell (show w3.cell? ⟨L, 0, none⟩ = some (.int .i64 b) from I3.hL.cell 0)
                by_cases hcf : Pl.conf b ⟨pt, pw, pc, pd⟩ ⟨qt, qw, qc, qd⟩ = true
                · have Hcf : Hid (Pl.conf b ⟨pt, pw, pc, pd⟩ ⟨qt, qw, qc, qd⟩ = true) := hcf
                  clear hcf
                  generalize hcy : Pl.carry b st.c (st.zs.getD pt 0 == r + 1) ⟨pt, pw, pc, pd⟩ = y at *
                  have Hcy : Hid (Pl.carry b st.c (st.zs.getD pt 0 == r + 1) ⟨pt, pw, pc, pd⟩ = y) := hcy
                  clear hcy
                  refine wp_region_later w3 (Keep.refl _ _) (by kernel_rfl) (by kernel_rfl) ?_
                  repeat (go_big_quiet_step (first | (go_at_call 24; exact later_call (hconf_val true Hcf.out hpok hq (l0 _))) | (go_at_call 25; exact later_call (carry_val y Hcy.out (hC3.non (Later.k _)) (I3.hT.non (Later.k _)) (hA3.non (Later.k _)) Hzl.out hptN hco hds hpok))))
                  refine wpQuiet_nil ?_
                  rintro _ ⟨x, rfl⟩
                  go_wp2
                  go_meet
                  case rel => exact ⟨by rw [Hcf.out]; rfl, x.k⟩
                · replace hcf : Pl.conf b ⟨pt, pw, pc, pd⟩ ⟨qt, qw, qc, qd⟩ = false := by simpa using hcf
                  have Hcf : Hid (Pl.conf b ⟨pt, pw, pc, pd⟩ ⟨qt, qw, qc, qd⟩ = false) := hcf
                  clear hcf
                  refine wp_region_later w3 (Keep.refl _ _) (by kernel_rfl) (by kernel_rfl) ?_
                  repeat (go_big_quiet_step ((go_at_call 24; exact later_call (hconf_val false Hcf.out hpok hq (l0 _)))))
                  refine wpQuiet_nil ?_
                  rintro _ ⟨x, rfl⟩
                  go_wp2
                  go_meet
                  case rel => exact ⟨by rw [Hcf.out]; rfl, x.k⟩
              case rest =>
                obtain ⟨rfl, k4⟩ := hcut
                have I4 := I3.non k4
                have hP4 := hP.non k4
                have hC4 := hC3.non k4
                have hA4 := hA3.non k4
                clear I3 hP hC3 hA3 k4
                generalize wc = w4 at *
                have r0 : w4.cell? ⟨P, 0, none⟩ = some (.int .i64 pt) := hP4.cell 0
                have s0 : w4.cell? ⟨Qb, 0, none⟩ = some (.int .i64 qt) := I4.hQ.cell 0
                go_upto_if 92 with fail
                go_cut [92] (fun c wx => ∃ v' u', Named ⟨b, ⟨qt, qw, qc, qd⟩, r + 1, lim, V, ops, zs, .slice (some ⟨M, 0, none⟩) m cap, pcs⟩ ⟨L, T, A, N, O, M, Qb, C, F, G⟩ w (j + 1) (Pl.stp b ⟨qt, qw, qc, qd⟩ (r + 1) ⟨pt, pw, pc, pd⟩ st).fs v' u' wx ∧ Blk wx P (accs [⟨pt, pw, pc, pd⟩]) 45)
                case first =>
                  by_cases hnm : (Pl.conf b ⟨pt, pw, pc, pd⟩ ⟨qt, qw, qc, qd⟩ && !Pl.carry b st.c (st.zs.getD pt 0 == r + 1) ⟨pt, pw, pc, pd⟩) = true
                  · have Hfs : Hid ((Pl.stp b ⟨qt, qw, qc, qd⟩ (r + 1) ⟨pt, pw, pc, pd⟩ st).fs = st.fs ++ [(pt : Int)]) := stp_fs1 hnm
                    rw [hnm]
                    clear hnm
                    have lt := hap1.lt
                    simp only at lt
                    go_wp2_with fail
                    refine (rec_any F G (C + 1) pt qt v u st.fs (List.replicate st.fs.length qt) w4 I4.hF I4.hG hap1.fG (by rw [← Hst.out]; exact I4.hv) (by rw [← Hst.out]; exact I4.hu) I4.ap (by omega) (by omega) (by have := I4.hC.lt; simp only at this; omega) (by omega) (by simp; omega)).mono ?_
                    rintro e w5 ⟨rfl, v', u', hF', hG', hv', hu', ap', k5⟩
                    have hP5 : Blk w5 P (accs [⟨pt, pw, pc, pd⟩]) 45 := hP4.keep k5 (by
                      rintro (h | h | h | h)
                      · omega
                      · omega
                      · have := HvP.out.1 _ h; omega
                      · have := HvP.out.2 _ h; omega)
                    have N5 := I4.named1 (v' := v') (u' := u') (f := pt) hap1 HwC.out hF' hG' (by rw [← Hst.out] at hv'; exact hv') (by rw [← Hst.out] at hu'; exact hu') ap' k5
                    clear hF' hG' hv' hu' ap' k5 lt
                    go_wp2
                    go_meet
                    case rel => exact ⟨v', u', by rw [Hfs.out, ← Hst.out]; exact N5, hP5⟩
                  · replace hnm := Bool.eq_false_iff.2 hnm
                    have Hfs : Hid ((Pl.stp b ⟨qt, qw, qc, qd⟩ (r + 1) ⟨pt, pw, pc, pd⟩ st).fs = st.fs) := stp_fs0 hnm
                    rw [hnm]
                    clear hnm
                    go_wp2
                    go_meet
                    case rel => exact ⟨v, u, by rw [Hfs.out, ← Hst.out]; exact I4.named0 (Keep.refl _ _), hP4⟩
                case rest =>
                  obtain ⟨v', u', N5, hP5⟩ := hcut
                  clear r0 s0 I4 hP4 hC4 hA4 HvP
                  generalize wc = w5 at *
                  have p0 : w5.cell? ⟨P, 0, none⟩ = some (.int .i64 pt) := hP5.cell 0
                  have p1 : w5.cell? ⟨P, 1, none⟩ = some (.bool pw) := hP5.cell 1
                  have p2 : w5.cell? ⟨P, 2, none⟩ = some (.int .i64 pc) := hP5.cell 2
                  have p3 : w5.cell? ⟨P, 3, none⟩ = some (.bool pd) := hP5.cell 3
                  have q0 : w5.cell? ⟨Qb, 0, none⟩ = some (.int .i64 qt) := N5.hQ.cell 0
                  have q1 : w5.cell? ⟨Qb, 1, none⟩ = some (.bool qw) := N5.hQ.cell 1
                  have q2 : w5.cell? ⟨Qb, 2, none⟩ = some (.int .i64 qc) := N5.hQ.cell 2
                  have q3 : w5.cell? ⟨Qb, 3, none⟩ = some (.bool qd) := N5.hQ.cell 3
                  have l0 : w5.cell? ⟨L, 0, none⟩ = some (.int .i64 b) := N5.hL.cell 0
                  go_upto_region 14 with fail
                  go_cut [113] (fun c wx => c = .bool (Pl.carr b ⟨pt, pw, pc, pd⟩ ⟨qt, qw, qc, qd⟩) ∧ Keep Non w5 wx)
                  case first =>
                    cases pw
                    · go_wp2
                      go_meet
                      case rel => exact ⟨by simp [Pl.carr], Keep.refl _ _⟩
                    · by_cases hpq : pt = qt
                      · subst hpq
                        go_wp2
                        go_meet
                        case rel => exact ⟨by simp [Pl.carr], Keep.refl _ _⟩
                      · have hbe : ((pt : Int) == (qt : Int)) = false := by simp; omega
                        have Hpq : Hid (Pl.carr b ⟨pt, true, pc, pd⟩ ⟨qt, qw, qc, qd⟩ = Pl.conf b ⟨pt, true, pc, pd⟩ ⟨qt, qw, qc, qd⟩) := by
                          show Pl.carr _ _ _ = _
                          unfold Pl.carr
                          simp only [hbe, Bool.false_or, Bool.true_and]
                        clear hpq
                        generalize hcf : Pl.conf b ⟨pt, true, pc, pd⟩ ⟨qt, qw, qc, qd⟩ = cf at *
                        have Hcf : Hid (Pl.conf b ⟨pt, true, pc, pd⟩ ⟨qt, qw, qc, qd⟩ = cf) := hcf
                        clear hcf
                        go_wp2_with fail
                        refine (hconf_val cf Hcf.out hpok hq l0).mono ?_
                        rintro e w6 ⟨rfl, k6⟩
                        go_wp2
                        go_meet
                        case rel => exact ⟨by rw [Hpq.out], k6⟩
                  case rest =>
                    obtain ⟨rfl, k6⟩ := hcut
                    have N6 := N5.non k6
                    have hP6 := hP5.non k6
                    clear N5 hP5 k6 p0 p1 p2 p3 q0 q1 q2 q3 l0
                    generalize wc = w6 at *
                    by_cases hcr : Pl.carr b ⟨pt, pw, pc, pd⟩ ⟨qt, qw, qc, qd⟩ = true
                    · have Hcr : Hid ((Pl.stp b ⟨qt, qw, qc, qd⟩ (r + 1) ⟨pt, pw, pc, pd⟩ st).c = Pl.addVals st.c pc pc pd ∧ (Pl.stp b ⟨qt, qw, qc, qd⟩ (r + 1) ⟨pt, pw, pc, pd⟩ st).zs = st.zs.set pt (r + 1)) := by
                        show _ ∧ _
                        simp only [Pl.stp, hcr, if_true, Int.toNat_natCast, and_self]
                      rw [hcr]
                      clear hcr
                      have p0 : w6.cell? ⟨P, 0, none⟩ = some (.int .i64 pt) := hP6.cell 0
                      have p1 : w6.cell? ⟨P, 1, none⟩ = some (.bool pw) := hP6.cell 1
                      have p2 : w6.cell? ⟨P, 2, none⟩ = some (.int .i64 pc) := hP6.cell 2
                      have p3 : w6.cell? ⟨P, 3, none⟩ = some (.bool pd) := hP6.cell 3
                      have lt := hap1.lt
                      simp only at lt
                      go_wp2_with fail
                      refine (add_any C T A N st.c pt pw pc pd st.zs (r + 1) w6 (by rw [← Hst.out]; exact N6.hC) N6.hT (by rw [← Hst.out]; exact N6.hA) Hzl.out hptN hap1.tA.symm (by omega) (by omega)).mono ?_
                      rintro e w7 ⟨rfl, hC7, hA7, k7⟩
                      have I7 : PInv ⟨b, ⟨qt, qw, qc, qd⟩, r + 1, lim, V, ops, zs, .slice (some ⟨M, 0, none⟩) m cap, pcs⟩ ⟨L, T, A, N, O, M, Qb, C, F, G⟩ w j v' u' w7 :=
                        N6.added hap1 HwC.out (by show Blk w7 A (ints (Pl.stJ _ _ _ _ _ _).zs) 3; rw [Hstep.out, Hcr.out.2]; exact hA7) (by show Blk w7 C (carC T (Pl.stJ _ _ _ _ _ _).c) 55; rw [Hstep.out, Hcr.out.1]; exact hC7) k7 (by show (Pl.stJ _ _ _ _ _ _).fs = _; rw [Hstep.out]) Hw.out
                      clear hC7 hA7 k7 N6 hP6 p0 p1 p2 p3 lt
                      go_wp2
                      go_roundw
                      case rel => exact ⟨j, v', u', by omega, rfl, I7⟩
                      case measure => simp [intOf]
                    · replace hcr : Pl.carr b ⟨pt, pw, pc, pd⟩ ⟨qt, qw, qc, qd⟩ = false := Bool.eq_false_iff.2 hcr
                      have Hcr : Hid ((Pl.stp b ⟨qt, qw, qc, qd⟩ (r + 1) ⟨pt, pw, pc, pd⟩ st).c = st.c ∧ (Pl.stp b ⟨qt, qw, qc, qd⟩ (r + 1) ⟨pt, pw, pc, pd⟩ st).zs = st.zs) := by
                        show _ ∧ _
                        simp [Pl.stp, hcr]
                      rw [hcr]
                      clear hcr
                      have I7 : PInv ⟨b, ⟨qt, qw, qc, qd⟩, r + 1, lim, V, ops, zs, .slice (some ⟨M, 0, none⟩) m cap, pcs⟩ ⟨L, T, A, N, O, M, Qb, C, F, G⟩ w j v' u' w6 :=
                        N6.skip (by show (Pl.stJ _ _ _ _ _ _).zs = (Pl.stJ _ _ _ _ _ _).zs; rw [Hstep.out, Hcr.out.2, Hst.out]) (by show (Pl.stJ _ _ _ _ _ _).c = (Pl.stJ _ _ _ _ _ _).c; rw [Hstep.out, Hcr.out.1, Hst.out]) (by show (Pl.stJ _ _ _ _ _ _).fs = _; rw [Hstep.out]) Hw.out
                      clear N6 hP6
                      go_wp2
                      go_roundw
                      case rel => exact ⟨j, v', u', by omega, rfl, I7⟩
                      case measure => simp [intOf]
          · clear hstep
            go_wp2_with (go_at_call 23; refine (carryAll_any b C T st.c _ ?_ hco hb hb').mono ?_; exact carAt hC'; rintro e w2 ⟨rfl, n2, rfl⟩)
            go_ret
            refine ⟨j + 1, v, u, C, Qb, HwC.out, by omega, I.non (by first | exact (Keep.refl _ _).drewN _ | exact ((Keep.refl _ _).drewN _).drewN _), .inr (.inr (by omega)), ret_bool (by rw [Hst.out]; simp [hca])⟩

end Go.Proofs.Qxb6626002a
