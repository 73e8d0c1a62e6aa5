import Derived.Test.Qxb6626002aW16
import Derived.Test.Qxb6626002aL3
namespace Go.Proofs.Qxb6626002a
open Go.RowKit
set_option linter.unusedVariables false

set_option maxRecDepth 100000 in
set_option maxHeartbeats 3200000 in
theorem law4_last (cd : Code) (hcd : cd = dropSeq 28 (Try.f4.body.getD .skip)) (x1 x2 x3 x4 x5 x7 x8 x9 x10 x11 x12 x13 x14 x15 x16 x17 x18 x19 x20 x21 x22 x23 x24 x25 x26 x27 x28 x29 x30 x31 x33 x35 x36 x37 x38 x39 x40 x41 x42 x44 x45 x46 x47 x49 x50 x51 x52 x53 x54 x55 x56 x57 x58 x59 x60 x61 x62 x63 x64 x65 x66 x67 x68 x69 x70 x71 x72 x73 x74 x75 x76 x77 x78 x79 x80 x81 x82 x83 x84 x85 x86 x87 x88 x89 x90 x91 x92 x93 x94 x95 x96 x97 x98 x99 x100 x101 x102 x103 x104 x105 x106 x107 x108 x109 x110 x111 x112 x113 x114 x115 x116 x117 x118 x119 x120 x121 x122 x123 x124 x125 x126 x127 x128 x129 x130 x131 x132 x133 x134 x135 x136 x137 x138 x139 x140 x141 x142 x143 x144 x145 x146 x147 x148 x149 x150 x151 x152 x153 x154 x155 x156 x157 x158 x159 x160 x161 x162 x163 x164 x165 x166 x167 x168 x169 x170 x171 x172 x173 x174 x175 x176 x177 x178 x179 x180 x181 x182 x183 x184 x185 x186 x187 x188 x189 x190 x191 x192 x193 x194 x195 x196 x197 x198 x199 x200 x201 x202 x203 x204 x205 x206 x207 x208 x209 x210 x211 x212 x213 x214 x215 x216 x217 x218 x219 x220 x221 x222 x223 x224 x225 x226 x227 x228 x229 x230 x231 x232 x233 x234 x235 x236 x237 x238 x239 x240 x241 x242 x243 x244 x245 x246 x247 x248 x249 x250 x251 x252 x253 x254 x255 x256 x257 x258 x259 x260 x261 x262 x263 x264 x265 x266 x267 x268 x269 x270 x271 x272 x273 x274 x275 x276 x277 x278 x279 x280 x281 x282 x283 x284 x285 x286 x287 x288 x289 x290 x291 x292 x293 x294 x295 x296 x297 x298 x299 x300 x301 x302 x303 x304 x305 x306 x307 x308 x309 x310 x311 x312 x313 x314 x315 x316 x317 x318 x319 x320 x321 x322 x323 x324 x325 x326 x327 x328 x329 x330 x331 x332 x333 x334 x335 x336 x337 x338 x339 x340 x341 x342 x343 x344 x345 x346 x347 x348 x349 x350 x351 : Value) (b : Int) (qn : Nat) (qw : Bool) (qc : Int) (qd : Bool) (ops : List Pl.Acc) (O Qb N : Nat)
    (aAl : Option Addr) (cAl : Nat) (fAl : List Int) (w w13 : World)
    (hn : ops.length ≤ 4096) (hok : ∀ p ∈ ops, Pl.Acc.ok p ∧ 0 ≤ p.tx ∧ p.tx < N) (hq : Pl.Acc.ok ⟨qn, qw, qc, qd⟩)
    (hO8 : Blk w13 O (accs ops) 32) (hQ8 : Blk w13 Qb (accs [⟨qn, qw, qc, qd⟩]) 32) (k18 : Keep Non w w13)
    (AAl : Arr w13 aAl fAl.length (fun i => .int .i64 (fAl.getD i 0))) (nAl : fAl.length ≤ 4096)
    (hL : ∀ j, j < ops.length → Pl.wk ⟨qn, qw, qc, qd⟩ (at0 ops j) = true → (∀ k, j < k → k < ops.length → Pl.wk ⟨qn, qw, qc, qd⟩ (at0 ops k) = false) → Pl.conf b (at0 ops j) ⟨qn, qw, qc, qd⟩ = true → ∃ t, fAl = (at0 ops j).tx :: t) :
    Code.wp Try.prog cd (bodyPost Try.prog Try.f4 fun e w' => e = .returned (.bool true) ∧ Keep Non w w') ⟨List.toArray [.int .i64 b, x1, x2, x3, x4, x5, .bool qw, x7, x8, x9, x10, x11, x12, x13, x14, x15, x16, x17, x18, x19, x20, x21, x22, x23, x24, x25, x26, x27, x28, x29, x30, x31, .slice (some ⟨O, 0, none⟩) ops.length ops.length, x33, .pointer (some ⟨Qb, 0, none⟩), x35, x36, x37, x38, x39, x40, x41, x42, .slice aAl fAl.length cAl, x44, x45, x46, x47, .int .i64 ((ops.length : Int) - 1), x49, x50, x51, x52, x53, x54, x55, x56, x57, x58, x59, x60, x61, x62, x63, x64, x65, x66, x67, x68, x69, x70, x71, x72, x73, x74, x75, x76, x77, x78, x79, x80, x81, x82, x83, x84, x85, x86, x87, x88, x89, x90, x91, x92, x93, x94, x95, x96, x97, x98, x99, x100, x101, x102, x103, x104, x105, x106, x107, x108, x109, x110, x111, x112, x113, x114, x115, x116, x117, x118, x119, x120, x121, x122, x123, x124, x125, x126, x127, x128, x129, x130, x131, x132, x133, x134, x135, x136, x137, x138, x139, x140, x141, x142, x143, x144, x145, x146, x147, x148, x149, x150, x151, x152, x153, x154, x155, x156, x157, x158, x159, x160, x161, x162, x163, x164, x165, x166, x167, x168, x169, x170, x171, x172, x173, x174, x175, x176, x177, x178, x179, x180, x181, x182, x183, x184, x185, x186, x187, x188, x189, x190, x191, x192, x193, x194, x195, x196, x197, x198, x199, x200, x201, x202, x203, x204, x205, x206, x207, x208, x209, x210, x211, x212, x213, x214, x215, x216, x217, x218, x219, x220, x221, x222, x223, x224, x225, x226, x227, x228, x229, x230, x231, x232, x233, x234, x235, x236, x237, x238, x239, x240, x241, x242, x243, x244, x245, x246, x247, x248, x249, x250, x251, x252, x253, x254, x255, x256, x257, x258, x259, x260, x261, x262, x263, x264, x265, x266, x267, x268, x269, x270, x271, x272, x273, x274, x275, x276, x277, x278, x279, x280, x281, x282, x283, x284, x285, x286, x287, x288, x289, x290, x291, x292, x293, x294, x295, x296, x297, x298, x299, x300, x301, x302, x303, x304, x305, x306, x307, x308, x309, x310, x311, x312, x313, x314, x315, x316, x317, x318, x319, x320, x321, x322, x323, x324, x325, x326, x327, x328, x329, x330, x331, x332, x333, x334, x335, x336, x337, x338, x339, x340, x341, x342, x343, x344, x345, x346, x347, x348, x349, x350, x351], []⟩ w13 := by
  subst hcd
  conv => arg 2; whnf
  conv => arg 4; zeta
  have Hok : Hid (∀ p ∈ ops, Pl.Acc.ok p ∧ 0 ≤ p.tx ∧ p.tx < N) := hok
  have HL : Hid (∀ j, j < ops.length → Pl.wk ⟨qn, qw, qc, qd⟩ (at0 ops j) = true → (∀ k, j < k → k < ops.length → Pl.wk ⟨qn, qw, qc, qd⟩ (at0 ops k) = false) → Pl.conf b (at0 ops j) ⟨qn, qw, qc, qd⟩ = true → ∃ t, fAl = (at0 ops j).tx :: t) := hL
  clear hok hL
  go_upto_block 0 with fail
  go_cut [48] (fun c wx => w13 = wx ∧ ∃ j : Nat, j ≤ ops.length ∧ c = .int .i64 ((j : Int) - 1) ∧ Hid ((∀ k, j ≤ k → k < ops.length → Pl.wk ⟨qn, qw, qc, qd⟩ (at0 ops k) = false) ∧ (0 < j → Pl.wk ⟨qn, qw, qc, qd⟩ (at0 ops (j - 1)) = true)))
  case first => as_aux_lemma =>
    go_wp2_with fail
    go_loop [48] (fun i => ∃ j : Nat, j ≤ ops.length ∧ i = .int .i64 ((j : Int) - 1) ∧ Hid (∀ k, j ≤ k → k < ops.length → Pl.wk ⟨qn, qw, qc, qd⟩ (at0 ops k) = false)) (fun i => (intOf i + 1).toNat)
    case atStart => exact ⟨ops.length, Nat.le_refl _, rfl, fun k h1 h2 => by omega⟩
    case round =>
      obtain ⟨j, hj, rfl, Hk⟩ := hrel
      match j, hj, Hk with
      | 0, hj, Hk =>
        go_wp2
        go_meet
        case rel => exact ⟨rfl, 0, Nat.zero_le _, rfl, Hk.out, fun h => by omega⟩
      | j + 1, hj, Hk =>
        have ej : ((j + 1 : Nat) : Int) - 1 = (j : Int) := by omega
        rw [ej]
        clear ej
        have hjl : j < ops.length := by omega
        have hjl' : (j : Int) < (ops.length : Int) := by omega
        have y := (blk_acc hO8 j hjl).2.1
        cases qw
        · cases hw : (at0 ops j).wr
          · rw [hw] at y
            have HW : Hid (Pl.wk ⟨qn, false, qc, qd⟩ (at0 ops j) = false) := by show _ = _; simp [Pl.wk, hw]
            clear hw
            go_wp2
            go_round
            case rel =>
              refine ⟨j, by omega, rfl, fun k h1 h2 => ?_⟩
              by_cases e : k = j
              · rw [e]; exact HW.out
              · exact Hk.out k (by omega) h2
            case measure => simp [intOf]
          · rw [hw] at y
            have HW : Hid (Pl.wk ⟨qn, false, qc, qd⟩ (at0 ops j) = true) := by show _ = _; simp [Pl.wk, hw]
            clear hw
            go_wp2
            go_meet
            case rel => exact ⟨rfl, j + 1, hj, by go_num, Hk.out, fun _ => HW.out⟩
        · go_wp2
          go_meet
          case rel => exact ⟨rfl, j + 1, hj, by go_num, Hk.out, fun _ => by simp [Pl.wk]⟩
  case rest =>
    obtain ⟨rfl, j, hj, rfl, Hj⟩ := hcut
    go_upto_region 54 with fail
    match j, hj, Hj with
    | 0, hj, Hj =>
      go_quiet (fail)
      go_wp2
      go_ret
      exact ⟨rfl, k18.drewN _⟩
    | j + 1, hj, Hj =>
      have ej : ((j + 1 : Nat) : Int) - 1 = (j : Int) := by omega
      rw [ej]
      clear ej
      have hjl : j < ops.length := by omega
      have hjl' : (j : Int) < (ops.length : Int) := by omega
      have hpok := (Hok.out _ (List.getElem_mem hjl)).1
      rw [← at0_eq ops j hjl] at hpok
      have HL' : Hid (Pl.conf b (at0 ops j) ⟨qn, qw, qc, qd⟩ = true → ∃ t, fAl = (at0 ops j).tx :: t) := HL.out j hjl (Hj.out.2 (by omega)) fun k h1 h2 => Hj.out.1 k (by omega) h2
      have x := blk_acc hO8 j hjl
      clear HL Hj Hok
      generalize at0 ops j = p at *
      obtain ⟨pt, pw, pc, pd⟩ := p
      obtain ⟨y0, y1, y2, y3⟩ := x
      simp only at y0 y1 y2 y3
      have x0 := later_cell y0
      have x1 := later_cell y1
      have x2 := later_cell y2
      have x3 := later_cell y3
      have q0 := later_cell (show w13.cell? ⟨Qb, 0, none⟩ = some (.int .i64 qn) from hQ8.cell 0)
      have q1 := later_cell (show w13.cell? ⟨Qb, 1, none⟩ = some (.bool qw) from hQ8.cell 1)
      have q2 := later_cell (show w13.cell? ⟨Qb, 2, none⟩ = some (.int .i64 qc) from hQ8.cell 2)
      have q3 := later_cell (show w13.cell? ⟨Qb, 3, none⟩ = some (.bool qd) from hQ8.cell 3)
      have hne : Nonempty (Later w13) := ⟨⟨w13, Keep.refl _ _⟩⟩
      by_cases hcf : Pl.conf b ⟨pt, pw, pc, pd⟩ ⟨qn, qw, qc, qd⟩ = true
      · obtain ⟨t, rfl⟩ := HL'.out hcf
        have Hcf : Hid (Pl.conf b ⟨pt, pw, pc, pd⟩ ⟨qn, qw, qc, qd⟩ = true) := hcf
        clear hcf HL'
        refine wp_region_later w13 (Keep.refl _ _) (by kernel_rfl) (by kernel_rfl) ?_
        repeat (go_big_quiet_step ((go_at_call 16; exact later_call (conf_val true Hcf.out hpok hq))))
        refine wpQuiet_nil ?_
        rintro _ ⟨x, rfl⟩
        rcases AAl.non x.k with h | ⟨g, rfl, l, f⟩
        · simp at h
        have z0 : x.w.cell? ⟨g, 0, none⟩ = some (.int .i64 pt) := f 0 (by simp)
        have y0' := x0 x
        have hl1 : (0 : Int) < (((pt :: t).length : Nat) : Int) := by simp only [List.length_cons]; omega
        have hl2 : ((((pt :: t).length : Nat) : Int) == 0) = false := beq_eq_false_iff_ne.2 (by simp only [List.length_cons]; omega)
        have kx := k18.non x.k
        clear x0 x1 x2 x3 q0 q1 q2 q3 hne y0 y1 y2 y3 f AAl Hcf
        generalize (pt :: t).length = len at *
        generalize x.w = w14 at *
        go_wp2
        go_quiet (fail)
        go_wp2
        go_ret
        exact ⟨rfl, kx.drewN _⟩
      · replace hcf : Pl.conf b ⟨pt, pw, pc, pd⟩ ⟨qn, qw, qc, qd⟩ = false := by simpa using hcf
        have Hcf : Hid (Pl.conf b ⟨pt, pw, pc, pd⟩ ⟨qn, qw, qc, qd⟩ = false) := hcf
        clear hcf HL'
        refine wp_region_later w13 (Keep.refl _ _) (by kernel_rfl) (by kernel_rfl) ?_
        repeat (go_big_quiet_step ((go_at_call 16; exact later_call (conf_val false Hcf.out hpok hq))))
        refine wpQuiet_nil ?_
        rintro _ ⟨x, rfl⟩
        go_wp2
        go_ret
        exact ⟨rfl, k18.non x.k⟩

end Go.Proofs.Qxb6626002a
