import Derived.Test.Qxb6626002aW12
import Derived.Test.Qxb6626002aPlain2
namespace Go.Proofs.Qxb6626002a
open Go.RowKit
set_option linter.unusedVariables false

theorem at0_eq (ops : List Pl.Acc) (i : Nat) (h : i < ops.length) : at0 ops i = ops[i] := by simp [at0, h]

def NvStop (q : Pl.Acc) (ops : List Pl.Acc) (win : Int) (j : Nat) : Prop :=
  j ≤ ops.length ∧ (j = 0 ∨ win ≤ Pl.rkJ q ops j) ∧ ∀ j', j < j' → j' ≤ ops.length → (Pl.rkJ q ops j' : Int) < win

set_option maxRecDepth 100000 in
set_option maxHeartbeats 1600000 in
theorem nvs_any (b : Int) (O : Nat) (ops : List Pl.Acc) (qt : Int) (qw : Bool) (qc : Int) (qd : Bool) (win : Int) (w : World) (hO : Blk w O (accs ops) 32) (hn : ops.length ≤ 5000)
    (hok : ∀ p ∈ ops, Pl.Acc.ok p) (hq : Pl.Acc.ok ⟨qt, qw, qc, qd⟩) (hb : 0 ≤ b) (hb' : b ≤ 9223372036854775807) :
    Calls Try.prog 11 #[.int .i64 b, .slice (some ⟨O, 0, none⟩) ops.length ops.length, .agg #[.int .i64 qt, .bool qw, .int .i64 qc, .bool qd], .int .i64 win] w fun e w' =>
      Keep Non w w' ∧ ∃ j, NvStop ⟨qt, qw, qc, qd⟩ ops win j ∧ e = .returned (.bool (Pl.nsRes b (Pl.nsJ b ⟨qt, qw, qc, qd⟩ ops j))) := by
  have Hok : Hid (∀ p ∈ ops, Pl.Acc.ok p) := hok
  clear hok
  have hO1 : Blk (w.alloc (.cells #[.int .i64 qt, .bool qw, .int .i64 qc, .bool qd] 32)) O (accs ops) 32 := hO.alloc _
  have hQ1 : Blk (w.alloc (.cells #[.int .i64 qt, .bool qw, .int .i64 qc, .bool qd] 32)) w.heap.size (accs [⟨qt, qw, qc, qd⟩]) 32 := Blk.new _ _ _
  have k0 : Keep Non w (w.alloc (.cells #[.int .i64 qt, .bool qw, .int .i64 qc, .bool qd] 32)) := (Keep.refl _ _).alloc _
  go_enter Try.func11, Try.ntmps11
  go_wp2
  generalize w.heap.size = Qb at *
  generalize w.alloc (.cells #[.int .i64 qt, .bool qw, .int .i64 qc, .bool qd] 32) = w1 at *
  go_loopw [9, 10, 11, 12, 13, 14, 15] (fun c9 c10 c11 c12 c13 c14 c15 wr => ∃ (j rk : Nat) (s : Pl.NS), j ≤ ops.length ∧ Hid (rk = Pl.rkJ ⟨qt, qw, qc, qd⟩ ops j) ∧ Hid (s = Pl.nsJ b ⟨qt, qw, qc, qd⟩ ops j) ∧
      c9 = .bool s.some ∧ c10 = .bool s.anyDis ∧ c11 = .bool s.haveVal ∧ c12 = .int .i64 s.lo ∧ c13 = .int .i64 s.hi ∧ c14 = .int .i64 rk ∧ c15 = .int .i64 ((j : Int) - 1) ∧ Keep Non w1 wr ∧
      Hid (∀ j', j < j' → j' ≤ ops.length → (Pl.rkJ ⟨qt, qw, qc, qd⟩ ops j' : Int) < win)) (fun _ _ _ _ _ _ i _ => (intOf i + 1).toNat)
  case atStart => exact ⟨ops.length, 0, Pl.ns0, Nat.le_refl _, (Pl.rkJ_top _ _).symm, (Pl.nsJ_top _ _ _).symm, rfl, rfl, rfl, rfl, rfl, rfl, rfl, Keep.refl _ _, fun j' h1 h2 => by omega⟩
  case round =>
    obtain ⟨j, rk, s, hj, Hrk, Hs, rfl, rfl, rfl, rfl, rfl, rfl, rfl, kr, Hw⟩ := hrel
    have hO2 := hO1.non kr
    have hQ2 := hQ1.non kr
    have k2 := k0.non kr
    have lO := hO2.lt
    have lQ := hQ2.lt
    have hrkl : rk ≤ 5000 := by have := Pl.rkJ_le ⟨qt, qw, qc, qd⟩ ops j; rw [Hrk.out]; omega
    have hsok := Pl.nsJ_ok b ⟨qt, qw, qc, qd⟩ ops j Hok.out
    rw [← Hs.out] at hsok
    obtain ⟨sm, ad, hv, lo, hi⟩ := s
    have hend : Hid (∀ c : Bool, c = Pl.nsRes b ⟨sm, ad, hv, lo, hi⟩ → (j = 0 ∨ win ≤ rk) → ∃ j, NvStop ⟨qt, qw, qc, qd⟩ ops win j ∧ Ending.returned (.bool c) = .returned (.bool (Pl.nsRes b (Pl.nsJ b ⟨qt, qw, qc, qd⟩ ops j)))) := by
      intro c hc hst
      exact ⟨j, ⟨hj, by rw [← Hrk.out]; exact hst, Hw.out⟩, ret_bool (by rw [hc, Hs.out])⟩
    go_upto_region 7 with fail
    go_cut [27] (fun c wx => c = .bool (decide (0 < j ∧ (rk : Int) < win)) ∧ wr = wx)
    case first =>
      by_cases h1 : 0 < j
      · by_cases h2 : (rk : Int) < win
        · go_wp2
          go_meet
          case rel => exact ⟨by rw [decide_eq_true ⟨h1, h2⟩], rfl⟩
        · go_wp2
          go_meet
          case rel => exact ⟨by rw [decide_eq_false (by omega)]; try (simp; omega), rfl⟩
      · go_wp2
        go_meet
        case rel => exact ⟨by rw [decide_eq_false (by omega)], rfl⟩
    case rest =>
      obtain ⟨rfl, rfl⟩ := hcut
      by_cases hgo : 0 < j ∧ (rk : Int) < win
      · rw [decide_eq_true hgo]
        obtain ⟨hj0, hrw⟩ := hgo
        clear hend hO1 hQ1 k0
        obtain ⟨j', rfl⟩ : ∃ j', j = j' + 1 := ⟨j - 1, by omega⟩
        have ej : ((j' + 1 : Nat) : Int) - 1 = (j' : Int) := by omega
        rw [ej]
        clear ej
        have hjl : j' < ops.length := by omega
        have hjl' : (j' : Int) < (ops.length : Int) := by omega
        have y := blk_acc hO2 j' hjl
        have hpok := Hok.out _ (List.getElem_mem hjl)
        have hin := Pl.nsJ_in b ⟨qt, qw, qc, qd⟩ ops j' hjl
        have hout := Pl.nsJ_out b ⟨qt, qw, qc, qd⟩ ops j' hjl
        rw [at0_eq ops j' hjl] at y
        rw [← Hs.out, ← Hrk.out] at hin hout
        have HwN : Hid (∀ i, j' < i → i ≤ ops.length → (Pl.rkJ ⟨qt, qw, qc, qd⟩ ops i : Int) < win) := by
          intro i h1 h2
          by_cases e : i = j' + 1
          · subst e; rw [← Hrk.out]; exact hrw
          · exact Hw.out i (by omega) h2
        generalize ops[j'] = p at *
        obtain ⟨pt, pw, pc, pd⟩ := p
        obtain ⟨y0, y1, y2, y3⟩ := y
        simp only at y0 y1 y2 y3
        have Hin : Hid (Pl.wk ⟨qt, qw, qc, qd⟩ ⟨pt, pw, pc, pd⟩ = true → Pl.nsJ b ⟨qt, qw, qc, qd⟩ ops j' = Pl.nstp b ⟨qt, qw, qc, qd⟩ ⟨pt, pw, pc, pd⟩ ⟨sm, ad, hv, lo, hi⟩ ∧ Pl.rkJ ⟨qt, qw, qc, qd⟩ ops j' = rk + 1) := hin
        have Hout : Hid (Pl.wk ⟨qt, qw, qc, qd⟩ ⟨pt, pw, pc, pd⟩ = false → Pl.nsJ b ⟨qt, qw, qc, qd⟩ ops j' = ⟨sm, ad, hv, lo, hi⟩ ∧ Pl.rkJ ⟨qt, qw, qc, qd⟩ ops j' = rk) := hout
        clear hin hout Hw Hs Hrk
        have q0 : wr.cell? ⟨Qb, 0, none⟩ = some (.int .i64 qt) := hQ2.cell 0
        have q1 : wr.cell? ⟨Qb, 1, none⟩ = some (.bool qw) := hQ2.cell 1
        have q2 : wr.cell? ⟨Qb, 2, none⟩ = some (.int .i64 qc) := hQ2.cell 2
        have q3 : wr.cell? ⟨Qb, 3, none⟩ = some (.bool qd) := hQ2.cell 3
        clear hsok
        go_upto_region 9 with fail
        go_cut [39] (fun c wx => c = .bool (!Pl.wk ⟨qt, qw, qc, qd⟩ ⟨pt, pw, pc, pd⟩) ∧ wr = wx)
        case first =>
          cases qw
          · go_wp2
            go_meet
            case rel => exact ⟨by simp [Pl.wk], rfl⟩
          · go_wp2
            go_meet
            case rel => exact ⟨by simp [Pl.wk], rfl⟩
        case rest =>
          obtain ⟨rfl, rfl⟩ := hcut
          by_cases hwk : Pl.wk ⟨qt, qw, qc, qd⟩ ⟨pt, pw, pc, pd⟩ = true
          · have HI := Hin.out hwk
            have HI2 : Hid (Pl.nsJ b ⟨qt, qw, qc, qd⟩ ops j' = Pl.nstp b ⟨qt, qw, qc, qd⟩ ⟨pt, pw, pc, pd⟩ ⟨sm, ad, hv, lo, hi⟩ ∧ Pl.rkJ ⟨qt, qw, qc, qd⟩ ops j' = rk + 1) := HI
            rw [hwk]
            clear HI Hin Hout hwk
            generalize hcr : Pl.carr b ⟨pt, pw, pc, pd⟩ ⟨qt, qw, qc, qd⟩ = cr at *
            have Hcr : Hid (Pl.carr b ⟨pt, pw, pc, pd⟩ ⟨qt, qw, qc, qd⟩ = cr) := hcr
            clear hcr
            go_wp2_with fail
            refine (carr_val cr Hcr.out hpok hq).mono ?_
            rintro e w3 ⟨rfl, k3⟩
            have hW3 : Blk w3 wr.heap.size (accs [⟨pt, pw, pc, pd⟩]) 32 := (Blk.new wr _ 32).non k3
            have kr3 : Keep Non w1 w3 := (kr.alloc _).non k3
            have p2 : w3.cell? ⟨wr.heap.size, 2, none⟩ = some (.int .i64 pc) := hW3.cell 2
            have p3 : w3.cell? ⟨wr.heap.size, 3, none⟩ = some (.bool pd) := hW3.cell 3
            clear hW3 k3 y0 y1 y2 y3 q0 q1 q2 q3 hO2 hQ2 k2 lO lQ
            cases cr
            · have HF : Hid (Pl.nstp b ⟨qt, qw, qc, qd⟩ ⟨pt, pw, pc, pd⟩ ⟨sm, ad, hv, lo, hi⟩ = ⟨sm, ad, hv, lo, hi⟩) := by
                show Pl.nstp _ _ _ _ = _
                simp [Pl.nstp, Hcr.out]
              go_wp2
              go_roundw
              case rel => exact ⟨j', rk + 1, ⟨sm, ad, hv, lo, hi⟩, by omega, HI2.out.2.symm, (HI2.out.1.trans HF.out).symm, rfl, rfl, rfl, rfl, rfl, by go_num, rfl, kr3, HwN⟩
              case measure => simp [intOf]
            · cases pd
              · cases hv
                · have HF : Hid (Pl.nstp b ⟨qt, qw, qc, qd⟩ ⟨pt, pw, pc, false⟩ ⟨sm, ad, false, lo, hi⟩ = ⟨true, ad, true, pc, pc⟩) := by
                    show Pl.nstp _ _ _ _ = _
                    simp [Pl.nstp, Hcr.out]
                  go_wp2
                  go_roundw
                  case rel => exact ⟨j', rk + 1, ⟨true, ad, true, pc, pc⟩, by omega, HI2.out.2.symm, (HI2.out.1.trans HF.out).symm, rfl, rfl, rfl, rfl, rfl, by go_num, rfl, kr3, HwN⟩
                  case measure => simp [intOf]
                · by_cases t1 : pc < lo
                  · by_cases t2 : hi < pc
                    · have HF : Hid (Pl.nstp b ⟨qt, qw, qc, qd⟩ ⟨pt, pw, pc, false⟩ ⟨sm, ad, true, lo, hi⟩ = ⟨true, ad, true, pc, pc⟩) := by
                        show Pl.nstp _ _ _ _ = _
                        simp [Pl.nstp, Hcr.out, t1, t2]
                      go_wp2
                      go_roundw
                      case rel => exact ⟨j', rk + 1, ⟨true, ad, true, pc, pc⟩, by omega, HI2.out.2.symm, (HI2.out.1.trans HF.out).symm, rfl, rfl, rfl, rfl, rfl, by go_num, rfl, kr3, HwN⟩
                      case measure => simp [intOf]
                    · have HF : Hid (Pl.nstp b ⟨qt, qw, qc, qd⟩ ⟨pt, pw, pc, false⟩ ⟨sm, ad, true, lo, hi⟩ = ⟨true, ad, true, pc, hi⟩) := by
                        show Pl.nstp _ _ _ _ = _
                        simp [Pl.nstp, Hcr.out, t1, t2]
                      go_wp2
                      go_roundw
                      case rel => exact ⟨j', rk + 1, ⟨true, ad, true, pc, hi⟩, by omega, HI2.out.2.symm, (HI2.out.1.trans HF.out).symm, rfl, rfl, rfl, rfl, rfl, by go_num, rfl, kr3, HwN⟩
                      case measure => simp [intOf]
                  · by_cases t2 : hi < pc
                    · have HF : Hid (Pl.nstp b ⟨qt, qw, qc, qd⟩ ⟨pt, pw, pc, false⟩ ⟨sm, ad, true, lo, hi⟩ = ⟨true, ad, true, lo, pc⟩) := by
                        show Pl.nstp _ _ _ _ = _
                        simp [Pl.nstp, Hcr.out, t1, t2]
                      go_wp2
                      go_roundw
                      case rel => exact ⟨j', rk + 1, ⟨true, ad, true, lo, pc⟩, by omega, HI2.out.2.symm, (HI2.out.1.trans HF.out).symm, rfl, rfl, rfl, rfl, rfl, by go_num, rfl, kr3, HwN⟩
                      case measure => simp [intOf]
                    · have HF : Hid (Pl.nstp b ⟨qt, qw, qc, qd⟩ ⟨pt, pw, pc, false⟩ ⟨sm, ad, true, lo, hi⟩ = ⟨true, ad, true, lo, hi⟩) := by
                        show Pl.nstp _ _ _ _ = _
                        simp [Pl.nstp, Hcr.out, t1, t2]
                      go_wp2
                      go_roundw
                      case rel => exact ⟨j', rk + 1, ⟨true, ad, true, lo, hi⟩, by omega, HI2.out.2.symm, (HI2.out.1.trans HF.out).symm, rfl, rfl, rfl, rfl, rfl, by go_num, rfl, kr3, HwN⟩
                      case measure => simp [intOf]
              · have HF : Hid (Pl.nstp b ⟨qt, qw, qc, qd⟩ ⟨pt, pw, pc, true⟩ ⟨sm, ad, hv, lo, hi⟩ = ⟨true, true, hv, lo, hi⟩) := by
                  show Pl.nstp _ _ _ _ = _
                  simp [Pl.nstp, Hcr.out]
                go_wp2
                go_roundw
                case rel => exact ⟨j', rk + 1, ⟨true, true, hv, lo, hi⟩, by omega, HI2.out.2.symm, (HI2.out.1.trans HF.out).symm, rfl, rfl, rfl, rfl, rfl, by go_num, rfl, kr3, HwN⟩
                case measure => simp [intOf]
          · replace hwk : Pl.wk ⟨qt, qw, qc, qd⟩ ⟨pt, pw, pc, pd⟩ = false := by simpa using hwk
            have HI := Hout.out hwk
            have HI2 : Hid (Pl.nsJ b ⟨qt, qw, qc, qd⟩ ops j' = ⟨sm, ad, hv, lo, hi⟩ ∧ Pl.rkJ ⟨qt, qw, qc, qd⟩ ops j' = rk) := HI
            rw [hwk]
            clear HI Hin Hout hwk
            go_wp2
            go_roundw
            case rel => exact ⟨j', rk, ⟨sm, ad, hv, lo, hi⟩, by omega, HI2.out.2.symm, HI2.out.1.symm, rfl, rfl, rfl, rfl, rfl, rfl, rfl, kr, HwN⟩
            case measure => simp [intOf]
      · rw [decide_eq_false hgo]
        have Hfin : Hid (j = 0 ∨ win ≤ rk) := by show j = 0 ∨ win ≤ rk; omega
        clear hO2 hQ2 lO lQ hO1 hQ1 k0 kr Hrk Hs Hw hgo
        cases sm
        · go_wp2
          go_ret
          exact ⟨k2, hend.out _ (by simp [Pl.nsRes]) Hfin.out⟩
        · cases ad
          · obtain ⟨g0, g1, g2⟩ := hsok.1 ((hsok.2 rfl).resolve_left (by simp))
            simp only at g0 g1 g2
            clear hsok
            generalize hn1 : Pl.near b (lo + (hi - lo) / 2) lo = n1 at *
            have Hn1 : Hid (Pl.near b (lo + (hi - lo) / 2) lo = n1) := hn1
            clear hn1
            cases n1
            · go_wp2_with fail
              refine (near_any b _ _ _ (by omega) (by omega) (by omega) (by omega)).mono ?_
              rintro e w' ⟨rfl, rfl⟩
              rw [Hn1.out]
              go_wp2
              go_ret
              exact ⟨k2, hend.out _ (by simp [Pl.nsRes, Hn1.out]) Hfin.out⟩
            · go_wp2_with fail
              refine (near_any b _ _ _ (by omega) (by omega) (by omega) (by omega)).mono ?_
              rintro e w' ⟨rfl, rfl⟩
              rw [Hn1.out]
              go_wp2_with fail
              refine (near_any b _ _ _ (by omega) (by omega) (by omega) (by omega)).mono ?_
              rintro e w' ⟨rfl, rfl⟩
              go_wp2
              go_ret
              exact ⟨k2, hend.out _ (by simp [Pl.nsRes, Hn1.out]) Hfin.out⟩
          · go_wp2
            go_ret
            exact ⟨k2, hend.out _ (by simp [Pl.nsRes]) Hfin.out⟩

end Go.Proofs.Qxb6626002a
