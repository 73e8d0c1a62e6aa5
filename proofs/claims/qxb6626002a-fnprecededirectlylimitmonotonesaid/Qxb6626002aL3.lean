import Derived.Test.Qxb6626002aW14
import Derived.Deep.CutBlock
namespace Go.Proofs.Qxb6626002a
open Go.RowKit
set_option linter.unusedVariables false

/-- What is left of a body behind its first n statements. -/
def dropSeq : Nat → Code → Code
  | n + 1, .seq _ c => dropSeq n c
  | _, c => c

theorem direct_dir (b : Int) (ops : List Pl.Acc) (j : Nat) (q : Pl.Acc) (hj : j < ops.length) : directB b ops j q = Pl.dir b q ops[j] ((ops.drop (j + 1)).filter (Pl.wk q)) := by
  unfold directB Pl.dir
  rw [← Pl.all_filter_wk, at0_eq ops j hj]
  congr 1
  rw [Bool.eq_iff_iff]
  simp only [List.all_eq_true, List.mem_range]
  constructor
  · intro h x hx
    obtain ⟨k, hk, rfl⟩ := List.getElem_of_mem hx
    rw [List.length_drop] at hk
    have := h (j + 1 + k) (by omega)
    rw [at0_eq ops (j + 1 + k) (by omega)] at this
    have hjk : j < j + 1 + k := by omega
    simpa [hjk] using this
  · intro h k hk
    by_cases hjk : j < k
    · have := h ops[k] (by
        rw [List.mem_iff_getElem]
        exact ⟨k - (j + 1), by rw [List.length_drop]; omega, by simp [show j + 1 + (k - (j + 1)) = k from by omega]⟩)
      rw [at0_eq ops k hk]
      simp [this]
    · simp [hjk]

theorem own_arr {w : World} {base : Nat} {v : Value} {xs : List Int} (h : Own w base v xs) : ∃ a c, v = .slice a xs.length c ∧ Arr w a xs.length (fun i => .int .i64 (xs.getD i 0)) := by
  obtain ⟨h1, h2⟩ := h
  rcases h2 with ⟨rfl, h2⟩ | ⟨g, cap, cur, rfl, hb, hh, r1, r2, r3, r4⟩
  · exact ⟨none, 0, by rw [h2], .inl h2⟩
  · refine ⟨_, _, rfl, .inr ⟨g, rfl, (Array.getElem?_eq_some_iff.1 hh).1, fun i hi => ?_⟩⟩
    rw [cell_of_row w g i cur 3 (0, 0) hh]
    have e : (cur.toList.take (xs.length * 1))[i]? = cur[i]? := by rw [List.getElem?_take_of_lt (by omega)]; simp
    rw [← e, r4]
    simp [hi]
theorem want_all {w : World} {base : Nat} {v : Value} {b : Int} {q : Pl.Acc} {ops : List Pl.Acc} {lim : Int} (hl : ((ops.drop 0).filter (Pl.wk q)).length ≤ lim.toNat) (h : Own w base v (Pl.namesL b q ((ops.drop 0).filter (Pl.wk q)))) :
    Own w base v (Pl.fromL b q (ops.filter (Pl.wk q)) lim) := by
  unfold Pl.fromL
  rw [List.drop_zero] at hl h
  rw [show (ops.filter (Pl.wk q)).length - lim.toNat = 0 from by omega, List.drop_zero]
  exact h
theorem want_break {w : World} {base : Nat} {v : Value} {b : Int} {q : Pl.Acc} {ops : List Pl.Acc} {lim : Int} {j : Nat} (hl : ((ops.drop j).filter (Pl.wk q)).length = lim.toNat) (h : Own w base v (Pl.namesL b q ((ops.drop j).filter (Pl.wk q)))) :
    Own w base v (Pl.fromL b q (ops.filter (Pl.wk q)) lim) := by
  unfold Pl.fromL
  rw [← hl, ← Pl.filter_suffix]
  exact h

set_option maxRecDepth 100000 in
set_option maxHeartbeats 3200000 in
theorem law3_tail (cd : Code) (hcd : cd = dropSeq 16 (Try.f3.body.getD .skip)) (x1 x2 x3 x4 x6 x7 x8 x9 x10 x11 x12 x13 x14 x15 x16 x17 x18 x19 x20 x21 x22 x23 x24 x26 x27 x29 x31 x36 x37 x38 x39 x40 x41 x42 x43 x44 x45 x46 x47 x48 x49 x50 x51 x52 x53 x54 x55 x56 x57 x58 x59 x60 x61 x62 x63 x64 x65 x66 x67 x68 x69 x70 x71 x72 x73 x74 x75 x76 x77 x78 x79 x80 x81 x82 x83 x84 x85 x86 x87 x88 x89 x90 x91 x92 x93 x94 x95 x96 x97 x98 x99 x100 x101 x102 x103 x104 x105 x106 x107 x108 x109 x110 x111 x112 x113 x114 x115 x116 x117 x118 x119 x120 x121 x122 x123 x124 x125 x126 x127 x128 x129 x130 x131 x132 x133 x134 x135 x136 x137 x138 x139 x140 x141 x142 x143 x144 x145 x146 x147 x148 x149 x150 x151 x152 x153 x154 x155 x156 x157 x158 x159 x160 x161 x162 x163 x164 x165 x166 x167 x168 x169 x170 x171 x172 x173 x174 x175 x176 x177 x178 x179 x180 x181 x182 x183 x184 x185 x186 x187 x188 x189 x190 x191 x192 x193 x194 x195 x196 x197 x198 x199 x200 x201 x202 x203 x204 x205 x206 x207 x208 x209 x210 x211 x212 x213 x214 x215 x216 x217 x218 x219 x220 x221 x222 x223 x224 x225 x226 x227 x228 x229 x230 x231 x232 x233 x234 x235 x236 x237 x238 x239 x240 x241 x242 x243 x244 x245 x246 x247 x248 x249 x250 x251 x252 x253 x254 x255 x256 x257 x258 x259 x260 x261 x262 x263 x264 x265 x266 x267 x268 x269 x270 x271 x272 x273 x274 : Value) (b : Int) (qn : Nat) (qw : Bool) (qc : Int) (qd : Bool) (lim : Int) (ops : List Pl.Acc) (O Qb base N : Nat) (fd : Bool) (v u : Value) (w w8 : World)
    (hn : ops.length ≤ 4096) (hb : 0 ≤ b) (hb' : b ≤ 9223372036854775807) (hok : ∀ p ∈ ops, Pl.Acc.ok p ∧ 0 ≤ p.tx ∧ p.tx < N) (hq : Pl.Acc.ok ⟨qn, qw, qc, qd⟩)
    (hO8 : Blk w8 O (accs ops) 32) (hQ8 : Blk w8 Qb (accs [⟨qn, qw, qc, qd⟩]) 32) (k18 : Keep Non w w8)
    (hfd : Pl.foundL b ⟨qn, qw, qc, qd⟩ (ops.filter (Pl.wk ⟨qn, qw, qc, qd⟩)) lim = fd)
    (hv : Own w8 base v (Pl.fromL b ⟨qn, qw, qc, qd⟩ (ops.filter (Pl.wk ⟨qn, qw, qc, qd⟩)) lim))
    (hu : Own w8 base u (List.replicate (Pl.fromL b ⟨qn, qw, qc, qd⟩ (ops.filter (Pl.wk ⟨qn, qw, qc, qd⟩)) lim).length qn)) :
    Code.wp Try.prog cd (bodyPost Try.prog Try.f3 fun e w' => e = .returned (.bool true) ∧ Keep Non w w') ⟨#[.int .i64 b, x1, x2, x3, x4, .int .i64 qn, x6, x7, x8, x9, x10, x11, x12, x13, x14, x15, x16, x17, x18, x19, x20, x21, x22, x23, x24, .int .i64 ops.length, x26, x27, .slice (some ⟨O, 0, none⟩) ops.length ops.length, x29, .pointer (some ⟨Qb, 0, none⟩), x31, .bool fd, v, u, .int .i64 lim, x36, x37, x38, x39, x40, x41, x42, x43, x44, x45, x46, x47, x48, x49, x50, x51, x52, x53, x54, x55, x56, x57, x58, x59, x60, x61, x62, x63, x64, x65, x66, x67, x68, x69, x70, x71, x72, x73, x74, x75, x76, x77, x78, x79, x80, x81, x82, x83, x84, x85, x86, x87, x88, x89, x90, x91, x92, x93, x94, x95, x96, x97, x98, x99, x100, x101, x102, x103, x104, x105, x106, x107, x108, x109, x110, x111, x112, x113, x114, x115, x116, x117, x118, x119, x120, x121, x122, x123, x124, x125, x126, x127, x128, x129, x130, x131, x132, x133, x134, x135, x136, x137, x138, x139, x140, x141, x142, x143, x144, x145, x146, x147, x148, x149, x150, x151, x152, x153, x154, x155, x156, x157, x158, x159, x160, x161, x162, x163, x164, x165, x166, x167, x168, x169, x170, x171, x172, x173, x174, x175, x176, x177, x178, x179, x180, x181, x182, x183, x184, x185, x186, x187, x188, x189, x190, x191, x192, x193, x194, x195, x196, x197, x198, x199, x200, x201, x202, x203, x204, x205, x206, x207, x208, x209, x210, x211, x212, x213, x214, x215, x216, x217, x218, x219, x220, x221, x222, x223, x224, x225, x226, x227, x228, x229, x230, x231, x232, x233, x234, x235, x236, x237, x238, x239, x240, x241, x242, x243, x244, x245, x246, x247, x248, x249, x250, x251, x252, x253, x254, x255, x256, x257, x258, x259, x260, x261, x262, x263, x264, x265, x266, x267, x268, x269, x270, x271, x272, x273, x274], []⟩ w8 := by
  subst hcd
  conv => arg 2; whnf
  have Hok : Hid (∀ p ∈ ops, Pl.Acc.ok p ∧ 0 ≤ p.tx ∧ p.tx < N) := hok
  have Hfd : Hid (Pl.foundL b ⟨qn, qw, qc, qd⟩ (ops.filter (Pl.wk ⟨qn, qw, qc, qd⟩)) lim = fd) := hfd
  clear hok hfd
  go_upto_if 174 with fail
  go_cut [35] (fun c wx => ∃ win : Nat, c = .int .i64 win ∧ Hid (win = lim.toNat) ∧ w8 = wx)
  case first => as_aux_lemma =>
    by_cases hl0 : lim < 0
    · go_wp2
      go_meet
      case rel => exact ⟨0, rfl, by show 0 = lim.toNat; omega, rfl⟩
    · go_wp2
      go_meet
      case rel => exact ⟨lim.toNat, by rw [show (lim.toNat : Int) = lim from by omega], rfl, rfl⟩
  case rest =>
    obtain ⟨win, rfl, Hwin, rfl⟩ := hcut
    go_upto_block 0 with fail
    go_cut [36, 37] (fun c _ wx => c = .int .i64 ((ops.filter (Pl.wk ⟨qn, qw, qc, qd⟩)).length : Int) ∧ w8 = wx)
    case first => as_aux_lemma =>
      go_wp2_with fail
      go_loop [36, 37] (fun c i => ∃ k : Nat, k ≤ ops.length ∧ i = .int .i64 k ∧ c = .int .i64 (((ops.take k).filter (Pl.wk ⟨qn, qw, qc, qd⟩)).length : Int)) (fun _ i => ops.length - (intOf i).toNat)
      case atStart => exact ⟨0, Nat.zero_le _, rfl, rfl⟩
      case round =>
        obtain ⟨k, hk, rfl, rfl⟩ := hrel
        have q1 : w8.cell? ⟨Qb, 1, none⟩ = some (.bool qw) := hQ8.cell 1
        by_cases hlt : k < ops.length
        · have hlt' : (k : Int) < (ops.length : Int) := by omega
          have y := (blk_acc hO8 k hlt).2.1
          have hfl : ((ops.take k).filter (Pl.wk ⟨qn, qw, qc, qd⟩)).length ≤ k := Nat.le_trans (List.length_filter_le _ _) (by simp; omega)
          have HF : Hid (((ops.take (k + 1)).filter (Pl.wk ⟨qn, qw, qc, qd⟩)).length = ((ops.take k).filter (Pl.wk ⟨qn, qw, qc, qd⟩)).length + if Pl.wk ⟨qn, qw, qc, qd⟩ ops[k] then 1 else 0) := by
            show _ = _
            rw [List.take_succ_eq_append_getElem hlt, List.filter_append, List.length_append]
            cases hwk : Pl.wk ⟨qn, qw, qc, qd⟩ ops[k] <;> simp [hwk]
          rw [at0_eq ops k hlt] at y
          generalize ops[k] = p at *
          generalize ((ops.take k).filter (Pl.wk ⟨qn, qw, qc, qd⟩)).length = m at *
          cases qw
          · obtain ⟨pt, pw, pc, pd⟩ := p
            simp only at y
            cases pw
            · go_wp2
              go_round
              case rel => exact ⟨k + 1, by omega, by go_num, by rw [HF.out]; simp [Pl.wk]⟩
              case measure => simp [intOf]; omega
            · go_wp2
              go_round
              case rel => exact ⟨k + 1, by omega, by go_num, by rw [HF.out]; simp [Pl.wk]⟩
              case measure => simp [intOf]; omega
          · go_wp2
            go_round
            case rel => exact ⟨k + 1, by omega, by go_num, by rw [HF.out]; simp [Pl.wk]⟩
            case measure => simp [intOf]; omega
        · have hke : Hid (k = ops.length) := by show k = ops.length; omega
          go_wp2
          go_meet
          case rel => exact ⟨by rw [hke.out, List.take_length], rfl⟩
    case rest =>
      obtain ⟨rfl, rfl⟩ := hcut
      go_upto_block 2 with fail
      go_cut [38, 39, 40] (fun c _ _ wx => Own wx w8.heap.size c (Pl.fromL b ⟨qn, qw, qc, qd⟩ (ops.filter (Pl.wk ⟨qn, qw, qc, qd⟩)) lim) ∧ Keep Non w8 wx)
      case first => as_aux_lemma =>
        obtain ⟨i0, hi, hz0, hz1, hz2⟩ := info_parts Try.info3
        clear hv hu k18 Hfd
        go_wp2_with fail
        go_loopw [38, 39, 40] (fun c38 c39 c40 wr => ∃ (j rk : Nat), j ≤ ops.length ∧ c40 = .int .i64 ((j : Int) - 1) ∧ c39 = .int .i64 rk ∧ Hid (rk = ((ops.drop j).filter (Pl.wk ⟨qn, qw, qc, qd⟩)).length) ∧ rk ≤ win ∧
            Own wr w8.heap.size c38 (Pl.namesL b ⟨qn, qw, qc, qd⟩ ((ops.drop j).filter (Pl.wk ⟨qn, qw, qc, qd⟩))) ∧ Keep Non w8 wr) (fun _ _ i _ => (intOf i + 1).toNat)
        case atStart => exact ⟨ops.length, 0, Nat.le_refl _, rfl, rfl, by show 0 = _; simp, Nat.zero_le _, by rw [List.drop_length]; exact World.ownsRow_nil _ _ _ _, Keep.refl _ _⟩
        case round =>
          obtain ⟨j, rk, hj, rfl, rfl, Hrk, hrw, hown, kr⟩ := hrel
          match j, hj, Hrk, hown with
          | 0, hj, Hrk, hown =>
            go_wp2
            go_meet
            case rel => exact ⟨want_all (by rw [← Hwin.out, ← Hrk.out]; exact hrw) hown, kr⟩
          | j + 1, hj, Hrk, hown =>
            have ej : ((j + 1 : Nat) : Int) - 1 = (j : Int) := by omega
            rw [ej]
            clear ej
            have hjl : j < ops.length := by omega
            have hjl' : (j : Int) < (ops.length : Int) := by omega
            have hO9 := hO8.non kr
            have hQ9 := hQ8.non kr
            have y := blk_acc hO9 j hjl
            have q0 : wr.cell? ⟨Qb, 0, none⟩ = some (.int .i64 qn) := hQ9.cell 0
            have q1 : wr.cell? ⟨Qb, 1, none⟩ = some (.bool qw) := hQ9.cell 1
            have q2 : wr.cell? ⟨Qb, 2, none⟩ = some (.int .i64 qc) := hQ9.cell 2
            have q3 : wr.cell? ⟨Qb, 3, none⟩ = some (.bool qd) := hQ9.cell 3
            have hrkl : rk ≤ 4096 := by
              have := List.length_filter_le (Pl.wk ⟨qn, qw, qc, qd⟩) (ops.drop (j + 1))
              rw [Hrk.out]
              simp at this
              omega
            have hnl := Pl.namesL_len b ⟨qn, qw, qc, qd⟩ ((ops.drop (j + 1)).filter (Pl.wk ⟨qn, qw, qc, qd⟩))
            rw [← Hrk.out] at hnl
            have Hdd : Hid (directB b ops j ⟨qn, qw, qc, qd⟩ = Pl.dir b ⟨qn, qw, qc, qd⟩ ops[j] ((ops.drop (j + 1)).filter (Pl.wk ⟨qn, qw, qc, qd⟩))) := direct_dir b ops j _ hjl
            have Hdrop : Hid ((ops.drop j).filter (Pl.wk ⟨qn, qw, qc, qd⟩) = (ops[j] :: ops.drop (j + 1)).filter (Pl.wk ⟨qn, qw, qc, qd⟩)) := by
              show _ = _
              rw [List.drop_eq_getElem_cons hjl]
            rw [at0_eq ops j hjl] at y
            obtain ⟨y0, y1, y2, y3⟩ := y
            have Htx : Hid (∃ p, p = ops[j]) := ⟨_, rfl⟩
            generalize hW : (ops.drop (j + 1)).filter (Pl.wk ⟨qn, qw, qc, qd⟩) = W at *
            have HW : Hid ((ops.drop (j + 1)).filter (Pl.wk ⟨qn, qw, qc, qd⟩) = W) := hW
            clear hW Htx
            generalize ops[j] = p at *
            obtain ⟨pt, pw, pc, pd⟩ := p
            simp only at y0 y1 y2 y3
            go_upto_region 45 with fail
            go_cut [206] (fun c wx => c = .bool (!Pl.wk ⟨qn, qw, qc, qd⟩ ⟨pt, pw, pc, pd⟩) ∧ wr = wx)
            case first =>
              cases qw
              · go_wp2
                go_meet
                case rel => exact ⟨by simp [Pl.wk], rfl⟩
              · go_wp2
                go_meet
                case rel => exact ⟨by simp [Pl.wk], rfl⟩
            case rest =>
              obtain ⟨rfl, rfl⟩ := hcut
              by_cases hwk : Pl.wk ⟨qn, qw, qc, qd⟩ ⟨pt, pw, pc, pd⟩ = true
              · have HD2 : Hid ((ops.drop j).filter (Pl.wk ⟨qn, qw, qc, qd⟩) = ⟨pt, pw, pc, pd⟩ :: W) := by
                  show _ = _
                  rw [Hdrop.out, List.filter_cons_of_pos hwk, HW.out]
                rw [hwk]
                clear hwk Hdrop
                by_cases hbr : win ≤ rk
                · go_wp2
                  go_meet
                  case rel => exact ⟨want_break (j := j + 1) (by rw [HW.out, ← Hrk.out, ← Hwin.out]; omega) (by rw [HW.out]; exact hown), kr⟩
                · go_wp2_with fail
                  refine (direct_any b O ops j qn qw qc qd wr hO9 (by omega) hjl (fun i hi => by rw [at0_eq ops i hi]; exact (Hok.out _ (List.getElem_mem hi)).1) hq).mono ?_
                  rintro e w3 ⟨rfl, k3⟩
                  have hown3 : Own w3 w8.heap.size _ (Pl.namesL b ⟨qn, qw, qc, qd⟩ W) := hown.keep k3 fun _ _ e => e
                  have kr3 := kr.non k3
                  have hO3 := hO9.non k3
                  have z0 : w3.cell? ⟨O, j * 4, none⟩ = some (.int .i64 pt) := (k3.cell (World.block_lt_of_cell? _ _ y0) fun e => e).trans y0
                  clear hown k3 y0 y1 y2 y3 q0 q1 q2 q3 hO9 hQ9 kr
                  by_cases hd : directB b ops j ⟨qn, qw, qc, qd⟩ = true
                  · have HN : Hid (Pl.namesL b ⟨qn, qw, qc, qd⟩ (⟨pt, pw, pc, pd⟩ :: W) = Pl.namesL b ⟨qn, qw, qc, qd⟩ W ++ [pt]) := by
                      show Pl.namesL _ _ W ++ _ = _
                      rw [← Hdd.out, hd]
                      rfl
                    rw [hd]
                    clear hd Hdd
                    have sz3 := kr3.size
                    go_wp2_with (at_builtin; refine wpList_append_own _ rfl _ _ 22 rfl w8.heap.size 3 i0 (.int .i64 0) 1 8 Try.underlying22 hi hz0 hz1 hz2 rfl (by decide) _ (Pl.namesL b ⟨qn, qw, qc, qd⟩ W).length ((Pl.namesL b ⟨qn, qw, qc, qd⟩ W).map (Value.int .i64)) rfl (hown3.alloc _) ⟨w3.heap.size, 0, none⟩ 1 1 [.int .i64 pt] rfl rfl (cell_one_new _ _ _) (by simp [Value.oneCell']) (by unfold maxLen; omega) (by omega) (by simp; omega) ?_)
                    intro v' w4 hown4 hgrow _
                    have k4 : Keep Non w8 w4 := (kr3.alloc _).then (Keep.of_grown hgrow) (by
                      intro i hi e
                      have := hown3.lt i e.symm
                      omega)
                    have hown4' : Own w4 w8.heap.size v' (Pl.namesL b ⟨qn, qw, qc, qd⟩ W ++ [pt]) := by simpa [Own] using hown4
                    clear hown4 hgrow hown3 kr3 z0 hO3
                    go_wp2
                    go_roundw
                    case rel => exact ⟨j, rk + 1, by omega, rfl, by go_num, by show _ = _; rw [HD2.out, Hrk.out]; rfl, by omega, by rw [HD2.out, HN.out]; exact hown4', k4⟩
                    case measure => simp [intOf]
                  · replace hd : directB b ops j ⟨qn, qw, qc, qd⟩ = false := by simpa using hd
                    have HN : Hid (Pl.namesL b ⟨qn, qw, qc, qd⟩ (⟨pt, pw, pc, pd⟩ :: W) = Pl.namesL b ⟨qn, qw, qc, qd⟩ W) := by
                      show Pl.namesL _ _ W ++ _ = _
                      rw [← Hdd.out, hd]
                      simp
                    rw [hd]
                    clear hd Hdd
                    go_wp2
                    go_roundw
                    case rel => exact ⟨j, rk + 1, by omega, rfl, by go_num, by show _ = _; rw [HD2.out, Hrk.out]; rfl, by omega, by rw [HD2.out, HN.out]; exact hown3, kr3⟩
                    case measure => simp [intOf]
              · replace hwk : Pl.wk ⟨qn, qw, qc, qd⟩ ⟨pt, pw, pc, pd⟩ = false := by simpa using hwk
                have HD2 : Hid ((ops.drop j).filter (Pl.wk ⟨qn, qw, qc, qd⟩) = W) := by
                  show _ = _
                  rw [Hdrop.out, List.filter_cons_of_neg (by rw [hwk]; simp), HW.out]
                rw [hwk]
                clear hwk Hdrop Hdd
                go_wp2
                go_roundw
                case rel => exact ⟨j, rk, by omega, rfl, rfl, by show _ = _; rw [HD2.out]; exact Hrk.out, hrw, by rw [HD2.out]; exact hown, kr⟩
                case measure => simp [intOf]
      case rest =>
        obtain ⟨hwant, k9⟩ := hcut
        obtain ⟨av, cv, rfl, hAv⟩ := own_arr hv
        obtain ⟨au, cu, rfl, hAu⟩ := own_arr hu
        obtain ⟨aw, cw, rfl, hAw⟩ := own_arr hwant
        replace hAv := hAv.non k9
        replace hAu := hAu.non k9
        have hQ9 := hQ8.non k9
        have hO9 := hO8.non k9
        have k19 := k18.non k9
        have hfl : (Pl.fromL b ⟨qn, qw, qc, qd⟩ (ops.filter (Pl.wk ⟨qn, qw, qc, qd⟩)) lim).length ≤ 4096 := by
          have h1 := Pl.namesL_len b ⟨qn, qw, qc, qd⟩ ((ops.filter (Pl.wk ⟨qn, qw, qc, qd⟩)).drop ((ops.filter (Pl.wk ⟨qn, qw, qc, qd⟩)).length - lim.toNat))
          have h2 := List.length_filter_le (Pl.wk ⟨qn, qw, qc, qd⟩) ops
          unfold Pl.fromL
          rw [List.length_drop] at h1
          omega
        clear hv hu hwant hQ8 hO8 k18 k9
        rw [List.length_replicate]
        rw [List.length_replicate] at hAu
        generalize Pl.fromL b ⟨qn, qw, qc, qd⟩ (ops.filter (Pl.wk ⟨qn, qw, qc, qd⟩)) lim = fr at *
        generalize wc = w9 at *
        go_upto_region 50 with fail
        go_cut [41] (fun c wx => c = .bool fd ∧ Keep Non w9 wx)
        case first => as_aux_lemma =>
          by_cases hle : (ops.filter (Pl.wk ⟨qn, qw, qc, qd⟩)).length ≤ win
          · have Hfd' : Hid (fd = true) := by
              show fd = true
              rw [← Hfd.out, Pl.foundL, ← Hwin.out]
              simp [hle]
            generalize (ops.filter (Pl.wk ⟨qn, qw, qc, qd⟩)).length = vl at *
            go_wp2
            go_meet
            case rel => exact ⟨by rw [Hfd'.out], Keep.refl _ _⟩
          · have HnV : Hid (∀ j, NvStop ⟨qn, qw, qc, qd⟩ ops win j → fd = Pl.nsRes b (Pl.nsJ b ⟨qn, qw, qc, qd⟩ ops j)) := by
              intro j hj
              rw [Pl.nv_carB hb (fun p hp => (Hok.out p hp).1) (by omega) hj.1 hj.2.1 hj.2.2, ← Hfd.out, Pl.foundL, ← Hwin.out]
              simp [hle]
            have q0 : w9.cell? ⟨Qb, 0, none⟩ = some (.int .i64 qn) := hQ9.cell 0
            have q1 : w9.cell? ⟨Qb, 1, none⟩ = some (.bool qw) := hQ9.cell 1
            have q2 : w9.cell? ⟨Qb, 2, none⟩ = some (.int .i64 qc) := hQ9.cell 2
            have q3 : w9.cell? ⟨Qb, 3, none⟩ = some (.bool qd) := hQ9.cell 3
            generalize (ops.filter (Pl.wk ⟨qn, qw, qc, qd⟩)).length = vl at *
            go_wp2_with fail
            refine (nvs_any b O ops qn qw qc qd win w9 hO9 (by omega) (fun p hp => (Hok.out p hp).1) hq hb hb').mono ?_
            rintro e w10 ⟨k10, j, hj, rfl⟩
            have HnV' : Hid (fd = Pl.nsRes b (Pl.nsJ b ⟨qn, qw, qc, qd⟩ ops j)) := HnV.out j hj
            clear HnV hj
            go_wp2
            go_meet
            case rel => exact ⟨by rw [HnV'.out], k10⟩
        case rest =>
          obtain ⟨rfl, k10⟩ := hcut
          replace hAv := hAv.non k10
          replace hAu := hAu.non k10
          replace hAw := hAw.non k10
          have k20 := k19.non k10
          clear hQ9 hO9 k19 k10 Hfd Hok
          generalize wc = w10 at *
          go_wp2
          go_loopw [42] (fun i wr => ∃ k : Nat, k ≤ fr.length ∧ i = .int .i64 k ∧ Keep Non w10 wr) (fun i _ => fr.length - (intOf i).toNat)
          case atStart => exact ⟨0, Nat.zero_le _, rfl, Keep.refl _ _⟩
          case round =>
            obtain ⟨k, hk, rfl, kr⟩ := hrel
            by_cases hlt : k < fr.length
            · as_aux_lemma =>
                have hlt' : (k : Int) < (fr.length : Int) := by omega
                rcases hAv.non kr with h | ⟨gv, rfl, lv, fv⟩
                · omega
                rcases hAu.non kr with h | ⟨gu, rfl, lu, fu⟩
                · omega
                rcases hAw.non kr with h | ⟨gw, rfl, lw, fw⟩
                · omega
                have x1 : wr.cell? ⟨gv, k, none⟩ = some (.int .i64 (fr.getD k 0)) := fv k hlt
                have x2 : wr.cell? ⟨gw, k, none⟩ = some (.int .i64 (fr.getD k 0)) := fw k hlt
                have x3 : wr.cell? ⟨gu, k, none⟩ = some (.int .i64 qn) := (fu k hlt).trans (by simp [hlt])
                clear hAv hAu hAw fv fu fw
                generalize fr.getD k 0 = y at *
                go_wp2
                go_quiet (fail)
                go_wp2
                go_roundw
                case rel => exact ⟨k + 1, by omega, by go_num, kr.drewN _⟩
                case measure => simp [intOf]; omega
            · as_aux_lemma =>
                go_wp2
                go_ret
                exact ⟨rfl, k20.non kr⟩

end Go.Proofs.Qxb6626002a
