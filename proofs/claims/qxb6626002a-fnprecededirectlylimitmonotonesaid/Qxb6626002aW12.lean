import Derived.Test.Qxb6626002aW11
namespace Go.Proofs.Qxb6626002a
open Go.RowKit
set_option linter.unusedVariables false

theorem sim_val {b : Int} {pt qt : Int} {pw qw : Bool} {pc qc : Int} {pd qd : Bool} {w : World} (c : Bool) (hc : Pl.sim b ⟨pt, pw, pc, pd⟩ ⟨qt, qw, qc, qd⟩ = c) (hp : Pl.Acc.ok ⟨pt, pw, pc, pd⟩) (hq : Pl.Acc.ok ⟨qt, qw, qc, qd⟩) :
    Calls Try.prog 20 #[.int .i64 b, .agg #[.int .i64 pt, .bool pw, .int .i64 pc, .bool pd], .agg #[.int .i64 qt, .bool qw, .int .i64 qc, .bool qd]] w fun e w' => e = .returned (.bool c) ∧ Keep Non w w' := by
  subst hc
  exact (sim_any b pt qt pw qw pc qc pd qd w hp hq).mono fun e w' ⟨h1, h2⟩ => ⟨h1, Keep.of_below h2⟩
theorem conf_val {b : Int} {pt qt : Int} {pw qw : Bool} {pc qc : Int} {pd qd : Bool} {w : World} (c : Bool) (hc : Pl.conf b ⟨pt, pw, pc, pd⟩ ⟨qt, qw, qc, qd⟩ = c) (hp : Pl.Acc.ok ⟨pt, pw, pc, pd⟩) (hq : Pl.Acc.ok ⟨qt, qw, qc, qd⟩) :
    Calls Try.prog 16 #[.int .i64 b, .agg #[.int .i64 pt, .bool pw, .int .i64 pc, .bool pd], .agg #[.int .i64 qt, .bool qw, .int .i64 qc, .bool qd]] w fun e w' => e = .returned (.bool c) ∧ Keep Non w w' := by
  subst hc
  exact (conf_any b pt qt pw qw pc qc pd qd w hp hq).mono fun e w' ⟨h1, h2⟩ => ⟨h1, Keep.of_below h2⟩
theorem carr_val {b : Int} {pt qt : Int} {pw qw : Bool} {pc qc : Int} {pd qd : Bool} {w : World} (c : Bool) (hc : Pl.carr b ⟨pt, pw, pc, pd⟩ ⟨qt, qw, qc, qd⟩ = c) (hp : Pl.Acc.ok ⟨pt, pw, pc, pd⟩) (hq : Pl.Acc.ok ⟨qt, qw, qc, qd⟩) :
    Calls Try.prog 19 #[.int .i64 b, .agg #[.int .i64 pt, .bool pw, .int .i64 pc, .bool pd], .agg #[.int .i64 qt, .bool qw, .int .i64 qc, .bool qd]] w fun e w' => e = .returned (.bool c) ∧ Keep Non w w' := by
  subst hc
  exact (carr_any b pt qt pw qw pc qc pd qd w hp hq).mono fun e w' ⟨h1, h2⟩ => ⟨h1, Keep.of_below h2⟩

/-- ops[j] is a direct conflict of q: it conflicts, and no later write carries that on. -/
def directB (b : Int) (ops : List Pl.Acc) (j : Nat) (q : Pl.Acc) : Bool :=
  Pl.conf b (at0 ops j) q && (List.range ops.length).all fun k => !(decide (j < k)) || !Pl.blocked b (at0 ops j) q (at0 ops k)
theorem directB_no {b : Int} {ops : List Pl.Acc} {j : Nat} {q : Pl.Acc} (h : Pl.conf b (at0 ops j) q = false) : directB b ops j q = false := by simp [directB, h]
theorem directB_blocked {b : Int} {ops : List Pl.Acc} {j k : Nat} {q : Pl.Acc} (hk : k < ops.length) (hj : j < k) (h : Pl.blocked b (at0 ops j) q (at0 ops k) = true) : directB b ops j q = false := by
  rw [Bool.eq_false_iff]
  intro hd
  simp only [directB, Bool.and_eq_true, List.all_eq_true, List.mem_range] at hd
  have := hd.2 k hk
  simp [hj, h] at this
theorem directB_yes {b : Int} {ops : List Pl.Acc} {j : Nat} {q : Pl.Acc} (h : Pl.conf b (at0 ops j) q = true) (hb : ∀ k, j < k → k < ops.length → Pl.blocked b (at0 ops j) q (at0 ops k) = false) : directB b ops j q = true := by
  simp only [directB, Bool.and_eq_true, List.all_eq_true, List.mem_range]
  refine ⟨h, fun k hk => ?_⟩
  by_cases hj : j < k
  · simp [hb k hj hk]
  · simp [hj]

theorem blk_acc {w : World} {O t : Nat} {ops : List Pl.Acc} (h : Blk w O (accs ops) t) (i : Nat) (hi : i < ops.length) :
    w.cell? ⟨O, i * 4, none⟩ = some (.int .i64 (at0 ops i).tx) ∧ w.cell? ⟨O, i * 4 + 1, none⟩ = some (.bool (at0 ops i).wr) ∧ w.cell? ⟨O, i * 4 + 2, none⟩ = some (.int .i64 (at0 ops i).cr) ∧ w.cell? ⟨O, i * 4 + 3, none⟩ = some (.bool (at0 ops i).dis) := by
  have e : at0 ops i = ops[i] := by simp [at0, hi]
  rw [e]
  exact ⟨(h.cell (i * 4)).trans (accs_get ops i 0 hi (by omega)), (h.cell (i * 4 + 1)).trans (accs_get ops i 1 hi (by omega)), (h.cell (i * 4 + 2)).trans (accs_get ops i 2 hi (by omega)), (h.cell (i * 4 + 3)).trans (accs_get ops i 3 hi (by omega))⟩

set_option maxRecDepth 100000 in
set_option maxHeartbeats 1600000 in
theorem direct_any (b : Int) (O : Nat) (ops : List Pl.Acc) (j : Nat) (qt : Int) (qw : Bool) (qc : Int) (qd : Bool) (w : World) (hO : Blk w O (accs ops) 32) (hn : ops.length ≤ 5000) (hj : j < ops.length)
    (hok : ∀ i, i < ops.length → Pl.Acc.ok (at0 ops i)) (hq : Pl.Acc.ok ⟨qt, qw, qc, qd⟩) :
    Calls Try.prog 10 #[.int .i64 b, .slice (some ⟨O, 0, none⟩) ops.length ops.length, .int .i64 j, .agg #[.int .i64 qt, .bool qw, .int .i64 qc, .bool qd]] w fun e w' =>
      e = .returned (.bool (directB b ops j ⟨qt, qw, qc, qd⟩)) ∧ Keep Non w w' := by
  have Hok : Hid (∀ i, i < ops.length → Pl.Acc.ok (at0 ops i)) := hok
  clear hok
  have hpok := Hok.out j hj
  have hj' : (j : Int) < (ops.length : Int) := by omega
  generalize hP : at0 ops j = p at *
  have HP : Hid (at0 ops j = p) := hP
  clear hP
  have hO1 : Blk (w.alloc (.cells #[.int .i64 qt, .bool qw, .int .i64 qc, .bool qd] 32)) O (accs ops) 32 := hO.alloc _
  have hQ1 : Blk (w.alloc (.cells #[.int .i64 qt, .bool qw, .int .i64 qc, .bool qd] 32)) w.heap.size (accs [⟨qt, qw, qc, qd⟩]) 32 := Blk.new _ _ _
  have k0 : Keep Non w (w.alloc (.cells #[.int .i64 qt, .bool qw, .int .i64 qc, .bool qd] 32)) := (Keep.refl _ _).alloc _
  go_enter Try.func10, Try.ntmps10
  go_upto_region 1 with fail
  generalize w.heap.size = Qb at *
  generalize w.alloc (.cells #[.int .i64 qt, .bool qw, .int .i64 qc, .bool qd] 32) = w1 at *
  obtain ⟨pt, pw, pc, pd⟩ := p
  have x := blk_acc hO1 j hj
  rw [HP.out] at x
  have x0 := later_cell x.1
  have x1 := later_cell x.2.1
  have x2 := later_cell x.2.2.1
  have x3 := later_cell x.2.2.2
  simp only at x0 x1 x2 x3
  have q0 := later_cell (show w1.cell? ⟨Qb, 0, none⟩ = some (.int .i64 qt) from hQ1.cell 0)
  have q1 := later_cell (show w1.cell? ⟨Qb, 1, none⟩ = some (.bool qw) from hQ1.cell 1)
  have q2 := later_cell (show w1.cell? ⟨Qb, 2, none⟩ = some (.int .i64 qc) from hQ1.cell 2)
  have q3 := later_cell (show w1.cell? ⟨Qb, 3, none⟩ = some (.bool qd) from hQ1.cell 3)
  have hne : Nonempty (Later w1) := ⟨⟨w1, Keep.refl _ _⟩⟩
  clear x
  by_cases hcf : Pl.conf b ⟨pt, pw, pc, pd⟩ ⟨qt, qw, qc, qd⟩ = true
  · have Hcf : Hid (Pl.conf b ⟨pt, pw, pc, pd⟩ ⟨qt, qw, qc, qd⟩ = true) := hcf
    clear hcf
    refine wp_region_later w1 (Keep.refl _ _) (by kernel_rfl) (by kernel_rfl) ?_
    repeat (go_big_quiet_step ((go_at_call 16; exact later_call (conf_val true Hcf.out hpok hq))))
    refine wpQuiet_nil ?_
    rintro _ ⟨x, rfl⟩
    have kx : Keep Non w1 x.w := x.k
    clear x0 x1 x2 x3 q0 q1 q2 q3 hne
    generalize x.w = w2 at *
    have hO2 := hO1.non kx
    have hQ2 := hQ1.non kx
    have k2 := k0.non kx
    clear hO1 hQ1 k0 kx hO
    go_wp2
    go_loopw [9] (fun i wr => ∃ k : Nat, j < k ∧ k ≤ ops.length ∧ i = .int .i64 k ∧ Keep Non w2 wr ∧ ∀ i, j < i → i < k → Pl.blocked b ⟨pt, pw, pc, pd⟩ ⟨qt, qw, qc, qd⟩ (at0 ops i) = false) (fun i _ => ops.length - (intOf i).toNat)
    case atStart => exact ⟨j + 1, by omega, by omega, by go_num, Keep.refl _ _, fun i h1 h2 => by omega⟩
    case round =>
      obtain ⟨k, hjk, hk, rfl, kr, hB⟩ := hrel
      have HB : Hid (∀ i, j < i → i < k → Pl.blocked b ⟨pt, pw, pc, pd⟩ ⟨qt, qw, qc, qd⟩ (at0 ops i) = false) := hB
      clear hB
      have hO3 := hO2.non kr
      have hQ3 := hQ2.non kr
      have k3 := k2.non kr
      have lO := hO3.lt
      have lQ := hQ3.lt
      by_cases hlt : k < ops.length
      · have y := blk_acc hO3 k hlt
        have hwok := Hok.out k hlt
        generalize hW : at0 ops k = v at *
        have HW : Hid (at0 ops k = v) := hW
        clear hW
        obtain ⟨vt, vw, vc, vd⟩ := v
        obtain ⟨y0, y1, y2, y3⟩ := y
        simp only at y0 y1 y2 y3
        go_upto_region 7 with fail
        have hO4 : Blk (wr.alloc (.cells #[.int .i64 vt, .bool vw, .int .i64 vc, .bool vd] 32)) O (accs ops) 32 := hO3.alloc _
        have hQ4 : Blk (wr.alloc (.cells #[.int .i64 vt, .bool vw, .int .i64 vc, .bool vd] 32)) Qb (accs [⟨qt, qw, qc, qd⟩]) 32 := hQ3.alloc _
        have hW4 : Blk (wr.alloc (.cells #[.int .i64 vt, .bool vw, .int .i64 vc, .bool vd] 32)) wr.heap.size (accs [⟨vt, vw, vc, vd⟩]) 32 := Blk.new _ _ _
        have k4 : Keep Non w2 (wr.alloc (.cells #[.int .i64 vt, .bool vw, .int .i64 vc, .bool vd] 32)) := kr.alloc _
        clear y0 y1 y2 y3 lO lQ
        generalize wr.heap.size = W at *
        generalize wr.alloc (.cells #[.int .i64 vt, .bool vw, .int .i64 vc, .bool vd] 32) = w4 at *
        go_cut [54] (fun c wx => c = .bool (Pl.blocked b ⟨pt, pw, pc, pd⟩ ⟨qt, qw, qc, qd⟩ ⟨vt, vw, vc, vd⟩) ∧ Keep Non w4 wx)
        case first =>
          have x := blk_acc hO4 j hj
          rw [HP.out] at x
          have x0 := later_cell x.1
          have x1 := later_cell x.2.1
          have x2 := later_cell x.2.2.1
          have x3 := later_cell x.2.2.2
          simp only at x0 x1 x2 x3
          have q0 := later_cell (show w4.cell? ⟨Qb, 0, none⟩ = some (.int .i64 qt) from hQ4.cell 0)
          have q1 := later_cell (show w4.cell? ⟨Qb, 1, none⟩ = some (.bool qw) from hQ4.cell 1)
          have q2 := later_cell (show w4.cell? ⟨Qb, 2, none⟩ = some (.int .i64 qc) from hQ4.cell 2)
          have q3 := later_cell (show w4.cell? ⟨Qb, 3, none⟩ = some (.bool qd) from hQ4.cell 3)
          have v0 := later_cell (show w4.cell? ⟨W, 0, none⟩ = some (.int .i64 vt) from hW4.cell 0)
          have v1 := later_cell (show w4.cell? ⟨W, 1, none⟩ = some (.bool vw) from hW4.cell 1)
          have v2 := later_cell (show w4.cell? ⟨W, 2, none⟩ = some (.int .i64 vc) from hW4.cell 2)
          have v3 := later_cell (show w4.cell? ⟨W, 3, none⟩ = some (.bool vd) from hW4.cell 3)
          have hne : Nonempty (Later w4) := ⟨⟨w4, Keep.refl _ _⟩⟩
          clear x
          by_cases hcr : Pl.carr b ⟨vt, vw, vc, vd⟩ ⟨qt, qw, qc, qd⟩ = true
          · have Hcr : Hid (Pl.carr b ⟨vt, vw, vc, vd⟩ ⟨qt, qw, qc, qd⟩ = true) := hcr
            clear hcr
            by_cases hvp : vt = pt
            · subst hvp
              refine wp_region_later w4 (Keep.refl _ _) (by kernel_rfl) (by kernel_rfl) ?_
              repeat (go_big_quiet_step ((go_at_call 19; exact later_call (carr_val true Hcr.out hwok hq))))
              refine wpQuiet_nil ?_
              rintro _ ⟨x, rfl⟩
              go_wp2
              go_meet
              case rel => exact ⟨by simp only [Pl.blocked, Hcr.out]; simp, x.k⟩
            · have hbe : (vt == pt) = false := by simpa using hvp
              have Hbe : Hid ((vt == pt) = false) := hbe
              generalize hsm : Pl.sim b ⟨pt, pw, pc, pd⟩ ⟨vt, vw, vc, vd⟩ = sm at *
              have Hsm : Hid (Pl.sim b ⟨pt, pw, pc, pd⟩ ⟨vt, vw, vc, vd⟩ = sm) := hsm
              clear hsm hvp
              refine wp_region_later w4 (Keep.refl _ _) (by kernel_rfl) (by kernel_rfl) ?_
              repeat (go_big_quiet_step (first | (go_at_call 19; exact later_call (carr_val true Hcr.out hwok hq)) | (go_at_call 20; exact later_call (sim_val sm Hsm.out hpok hwok))))
              refine wpQuiet_nil ?_
              rintro _ ⟨x, rfl⟩
              go_wp2
              go_meet
              case rel => exact ⟨by simp only [Pl.blocked, Hcr.out, Hbe.out, Hsm.out]; simp, x.k⟩
          · replace hcr : Pl.carr b ⟨vt, vw, vc, vd⟩ ⟨qt, qw, qc, qd⟩ = false := by simpa using hcr
            have Hcr : Hid (Pl.carr b ⟨vt, vw, vc, vd⟩ ⟨qt, qw, qc, qd⟩ = false) := hcr
            clear hcr
            refine wp_region_later w4 (Keep.refl _ _) (by kernel_rfl) (by kernel_rfl) ?_
            repeat (go_big_quiet_step ((go_at_call 19; exact later_call (carr_val false Hcr.out hwok hq))))
            refine wpQuiet_nil ?_
            rintro _ ⟨x, rfl⟩
            go_wp2
            go_meet
            case rel => exact ⟨by simp only [Pl.blocked, Hcr.out]; simp, x.k⟩
        case rest =>
          obtain ⟨rfl, k5⟩ := hcut
          by_cases hbl : Pl.blocked b ⟨pt, pw, pc, pd⟩ ⟨qt, qw, qc, qd⟩ ⟨vt, vw, vc, vd⟩ = true
          · have Hbl : Hid (Pl.blocked b ⟨pt, pw, pc, pd⟩ ⟨qt, qw, qc, qd⟩ ⟨vt, vw, vc, vd⟩ = true) := hbl
            rw [hbl]
            clear hbl
            go_wp2
            go_ret
            exact ⟨ret_bool (by rw [directB_blocked hlt hjk (by rw [HP.out, HW.out]; exact Hbl.out)]), (k2.non k4).non k5⟩
          · replace hbl : Pl.blocked b ⟨pt, pw, pc, pd⟩ ⟨qt, qw, qc, qd⟩ ⟨vt, vw, vc, vd⟩ = false := by simpa using hbl
            have Hbl : Hid (Pl.blocked b ⟨pt, pw, pc, pd⟩ ⟨qt, qw, qc, qd⟩ ⟨vt, vw, vc, vd⟩ = false) := hbl
            rw [hbl]
            clear hbl
            go_wp2
            go_roundw
            case rel =>
              refine ⟨k + 1, by omega, by omega, by go_num, k4.non k5, fun i h1 h2 => ?_⟩
              by_cases e : i = k
              · subst e; rw [HW.out]; exact Hbl.out
              · exact HB.out i h1 (by omega)
            case measure => simp [intOf]; omega
      · have hke : Hid (k = ops.length) := by show k = ops.length; omega
        go_wp2
        go_ret
        exact ⟨ret_bool (by rw [directB_yes (by rw [HP.out]; exact Hcf.out) (fun i h1 h2 => by rw [HP.out]; exact HB.out i h1 (by rw [hke.out]; exact h2))]), k3⟩
  · replace hcf : Pl.conf b ⟨pt, pw, pc, pd⟩ ⟨qt, qw, qc, qd⟩ = false := by simpa using hcf
    have Hcf : Hid (Pl.conf b ⟨pt, pw, pc, pd⟩ ⟨qt, qw, qc, qd⟩ = false) := hcf
    clear hcf
    refine wp_region_later w1 (Keep.refl _ _) (by kernel_rfl) (by kernel_rfl) ?_
    repeat (go_big_quiet_step ((go_at_call 16; exact later_call (conf_val false Hcf.out hpok hq))))
    refine wpQuiet_nil ?_
    rintro _ ⟨x, rfl⟩
    go_wp2
    go_ret
    exact ⟨ret_bool (by rw [directB_no]; rw [HP.out]; exact Hcf.out), k0.non x.k⟩

end Go.Proofs.Qxb6626002a
