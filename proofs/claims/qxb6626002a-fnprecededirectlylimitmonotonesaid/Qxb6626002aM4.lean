import Derived.Test.Qxb6626002aL4
namespace Go.Proofs.Qxb6626002a
open Go.RowKit
set_option linter.unusedVariables false

set_option maxRecDepth 100000 in
set_option maxHeartbeats 3200000 in
theorem law4_mid (cd : Code) (hcd : cd = dropSeq 7 (Try.f4.body.getD .skip)) (x11 x12 x13 x14 x15 x16 x17 x18 x19 x20 x21 x22 x23 x24 x25 x26 x27 x28 x29 x30 x31 x32 x33 x34 x35 x36 x37 x38 x39 x40 x41 x42 x43 x44 x45 x46 x47 x48 x49 x50 x51 x52 x53 x54 x55 x56 x57 x58 x59 x60 x61 x62 x63 x64 x65 x66 x67 x68 x69 x70 x71 x72 x73 x74 x75 x76 x77 x78 x79 x80 x81 x82 x83 x84 x85 x86 x87 x88 x89 x90 x91 x92 x93 x94 x95 x96 x97 x98 x99 x100 x101 x102 x103 x104 x105 x106 x107 x108 x109 x110 x111 x112 x113 x114 x115 x116 x117 x118 x119 x120 x121 x122 x123 x124 x125 x126 x127 x128 x129 x130 x131 x132 x133 x134 x135 x136 x137 x138 x139 x140 x141 x142 x143 x144 x145 x146 x147 x148 x149 x150 x151 x152 x153 x154 x155 x156 x157 x158 x159 x160 x161 x162 x163 x164 x165 x166 x167 x168 x169 x170 x171 x172 x173 x174 x175 x176 x177 x178 x179 x180 x181 x182 x183 x184 x185 x186 x187 x188 x189 x190 x191 x192 x193 x194 x195 x196 x197 x198 x199 x200 x201 x202 x203 x204 x205 x206 x207 x208 x209 x210 x211 x212 x213 x214 x215 x216 x217 x218 x219 x220 x221 x222 x223 x224 x225 x226 x227 x228 x229 x230 x231 x232 x233 x234 x235 x236 x237 x238 x239 x240 x241 x242 x243 x244 x245 x246 x247 x248 x249 x250 x251 x252 x253 x254 x255 x256 x257 x258 x259 x260 x261 x262 x263 x264 x265 x266 x267 x268 x269 x270 x271 x272 x273 x274 x275 x276 x277 x278 x279 x280 x281 x282 x283 x284 x285 x286 x287 x288 x289 x290 x291 x292 x293 x294 x295 x296 x297 x298 x299 x300 x301 x302 x303 x304 x305 x306 x307 x308 x309 x310 x311 x312 x313 x314 x315 x316 x317 x318 x319 x320 x321 x322 x323 x324 x325 x326 x327 x328 x329 x330 x331 x332 x333 x334 x335 x336 x337 x338 x339 x340 x341 x342 x343 x344 x345 x346 x347 x348 x349 x350 x351 : Value) (b : Int) (b1 b2 b3 b4 : Option Addr) (n1 n2 n3 n4 : Nat) (F1 F3 : Nat → Int) (F2 F4 : Nat → Bool) (qt : Int) (qw : Bool) (qc : Int) (qd : Bool) (la lb : Int) (w w4 : World)
    (m1 : n1 ≤ 4096) (m2 : n2 ≤ 4096) (m3 : n3 ≤ 4096) (m4 : n4 ≤ 4096)
    (A1 : Arr w4 b1 n1 (fun i => .int .i64 (F1 i))) (A2 : Arr w4 b2 n2 (fun i => .bool (F2 i))) (A3 : Arr w4 b3 n3 (fun i => .int .i64 (F3 i))) (A4 : Arr w4 b4 n4 (fun i => .bool (F4 i))) (k1 : Keep Non w w4)
    (hb' : b ≤ 9223372036854775807) (hc : ∀ i, i < n3 → F3 i ≤ 9223372036854775807) (hqc : qc ≤ 9223372036854775807) :
    Code.wp Try.prog cd (bodyPost Try.prog Try.f4 fun e w' => e = .returned (.bool true) ∧ Keep Non w w') ⟨#[.int .i64 b, .slice b1 n1 n1, .slice b2 n2 n2, .slice b3 n3 n3, .slice b4 n4 n4, .int .i64 qt, .bool qw, .int .i64 qc, .bool qd, .int .i64 la, .int .i64 lb, x11, x12, x13, x14, x15, x16, x17, x18, x19, x20, x21, x22, x23, x24, x25, x26, x27, x28, x29, x30, x31, x32, x33, x34, x35, x36, x37, x38, x39, x40, x41, x42, x43, x44, x45, x46, x47, x48, x49, x50, x51, x52, x53, x54, x55, x56, x57, x58, x59, x60, x61, x62, x63, x64, x65, x66, x67, x68, x69, x70, x71, x72, x73, x74, x75, x76, x77, x78, x79, x80, x81, x82, x83, x84, x85, x86, x87, x88, x89, x90, x91, x92, x93, x94, x95, x96, x97, x98, x99, x100, x101, x102, x103, x104, x105, x106, x107, x108, x109, x110, x111, x112, x113, x114, x115, x116, x117, x118, x119, x120, x121, x122, x123, x124, x125, x126, x127, x128, x129, x130, x131, x132, x133, x134, x135, x136, x137, x138, x139, x140, x141, x142, x143, x144, x145, x146, x147, x148, x149, x150, x151, x152, x153, x154, x155, x156, x157, x158, x159, x160, x161, x162, x163, x164, x165, x166, x167, x168, x169, x170, x171, x172, x173, x174, x175, x176, x177, x178, x179, x180, x181, x182, x183, x184, x185, x186, x187, x188, x189, x190, x191, x192, x193, x194, x195, x196, x197, x198, x199, x200, x201, x202, x203, x204, x205, x206, x207, x208, x209, x210, x211, x212, x213, x214, x215, x216, x217, x218, x219, x220, x221, x222, x223, x224, x225, x226, x227, x228, x229, x230, x231, x232, x233, x234, x235, x236, x237, x238, x239, x240, x241, x242, x243, x244, x245, x246, x247, x248, x249, x250, x251, x252, x253, x254, x255, x256, x257, x258, x259, x260, x261, x262, x263, x264, x265, x266, x267, x268, x269, x270, x271, x272, x273, x274, x275, x276, x277, x278, x279, x280, x281, x282, x283, x284, x285, x286, x287, x288, x289, x290, x291, x292, x293, x294, x295, x296, x297, x298, x299, x300, x301, x302, x303, x304, x305, x306, x307, x308, x309, x310, x311, x312, x313, x314, x315, x316, x317, x318, x319, x320, x321, x322, x323, x324, x325, x326, x327, x328, x329, x330, x331, x332, x333, x334, x335, x336, x337, x338, x339, x340, x341, x342, x343, x344, x345, x346, x347, x348, x349, x350, x351], []⟩ w4 := by
  subst hcd
  conv => arg 2; whnf
  have Hc : Hid (∀ i, i < n3 → F3 i ≤ 9223372036854775807) := hc
  clear hc
  by_cases g2 : n2 = n1
  case neg => as_aux_lemma =>
    go_wp2
    go_ret
    exact ⟨rfl, k1⟩
  by_cases g3 : n3 = n1
  case neg => as_aux_lemma =>
    go_wp2
    go_ret
    exact ⟨rfl, k1⟩
  by_cases g4 : n4 = n1
  case neg => as_aux_lemma =>
    go_wp2
    go_ret
    exact ⟨rfl, k1⟩
  subst g2
  subst g3
  subst g4
  obtain ⟨ops, hlen, hat⟩ : ∃ ops : List Pl.Acc, ops.length = n4 ∧ ∀ i, i < n4 → at0 ops i = ⟨F1 i, F2 i, F3 i, F4 i⟩ := ⟨(List.range n4).map fun i => ⟨F1 i, F2 i, F3 i, F4 i⟩, by simp, fun i hi => by simp [at0, hi]⟩
  subst hlen
  have hR : Rows4 w4 b1 b2 b3 b4 ops := ⟨A1.congr fun i hi => by rw [hat i hi], A2.congr fun i hi => by rw [hat i hi], A3.congr fun i hi => by rw [hat i hi], A4.congr fun i hi => by rw [hat i hi]⟩
  have Hcr : Hid (∀ i, i < ops.length → (at0 ops i).cr ≤ 9223372036854775807) := fun i hi => by rw [hat i hi]; exact Hc.out i hi
  clear A1 A2 A3 A4 hat Hc m2 m3 m4
  go_wp2_with fail
  refine (dom_any b b1 b3 b4 ops qt qc qd w4 hR.h1 hR.h3 hR.h4 (by omega)).mono ?_
  rintro e w' ⟨hw, N, ok, rfl, hD⟩
  obtain rfl := hw.symm
  cases ok
  · as_aux_lemma =>
      go_wp2
      go_ret
      exact ⟨rfl, k1⟩
  obtain ⟨hb, hq0, hqN, hN, hqd, hall⟩ := hD rfl
  clear hD hw
  have hopsok : ∀ p ∈ ops, Pl.Acc.ok p ∧ 0 ≤ p.tx ∧ p.tx < N := by
    intro p hp
    obtain ⟨i, hi, rfl⟩ := List.getElem_of_mem hp
    have h1 := hall i hi
    have h2 := Hcr.out i hi
    rw [at0_eq ops i hi] at h1 h2
    exact ⟨⟨h1.2.2, h2⟩, h1.1, h1.2.1⟩
  have Hopsok : Hid (∀ p ∈ ops, Pl.Acc.ok p ∧ 0 ≤ p.tx ∧ p.tx < N) := hopsok
  obtain ⟨qn, rfl⟩ : ∃ t : Nat, qt = t := ⟨qt.toNat, by omega⟩
  have hqok : Pl.Acc.ok ⟨qn, qw, qc, qd⟩ := ⟨hqd, hqc⟩
  clear hopsok Hcr hall hqd hqc
  go_upto_if 151 with fail
  go_cut [30, 31] (fun c1 c2 wx => ∃ lo hi : Int, c1 = .int .i64 lo ∧ c2 = .int .i64 hi ∧ lo ≤ hi ∧ w4 = wx)
  case first => as_aux_lemma =>
    by_cases hlh : lb < la
    · go_wp2
      go_meet
      case rel => exact ⟨lb, la, rfl, rfl, by omega, rfl⟩
    · go_wp2
      go_meet
      case rel => exact ⟨la, lb, rfl, rfl, by omega, rfl⟩
  case rest =>
    obtain ⟨lo, hi, rfl, rfl, hlh, rfl⟩ := hcut
    go_wp2_with fail
    refine (zops_any b1 b2 b3 b4 ops w4 hR (by omega)).mono ?_
    rintro e w5 ⟨O, M, pcs, rfl, hO5, hM5, hpc, k5⟩
    have hR5 := hR.non k5
    have k15 := k1.non k5
    clear hR k1 k5
    have Hpc : Hid (∀ j, j < (wplaces ops ops.length).length → pcs[j]? = some (.int .i64 ((wplaces ops ops.length).getD j 0))) := hpc
    clear hpc
    go_wp2_with fail
    have hQ6 : Blk (w5.alloc (.cells #[.int .i64 qn, .bool qw, .int .i64 qc, .bool qd] 32)) w5.heap.size (accs [⟨qn, qw, qc, qd⟩]) 32 := Blk.new _ _ _
    have hO6 : Blk (w5.alloc (.cells #[.int .i64 qn, .bool qw, .int .i64 qc, .bool qd] 32)) O (accs ops) 32 := hO5.alloc _
    have hM6 : Blk (w5.alloc (.cells #[.int .i64 qn, .bool qw, .int .i64 qc, .bool qd] 32)) M pcs 3 := hM5.alloc _
    have hR6 : Rows4 (w5.alloc (.cells #[.int .i64 qn, .bool qw, .int .i64 qc, .bool qd] 32)) b1 b2 b3 b4 ops := hR5.non ((Keep.refl _ _).alloc _)
    have k16 : Keep Non w (w5.alloc (.cells #[.int .i64 qn, .bool qw, .int .i64 qc, .bool qd] 32)) := k15.alloc _
    clear hO5 hM5 hR5 k15
    generalize w5.heap.size = Qb at *
    generalize w5.alloc (.cells #[.int .i64 qn, .bool qw, .int .i64 qc, .bool qd] 32) = w6 at *
    refine (newlog_any b b1 b2 b3 b4 ops M (wplaces ops ops.length).length ops.length N pcs w6 hR6 hM6 (by omega) (by omega)).mono ?_
    rintro e w7 ⟨L, T, A, O2, rfl, hlog, hT6, hA6, k7⟩
    have hGw7 : GoodLog b ops L T A N O2 M 0 w7 := ⟨pcs, _, hlog, by simp, fun z hz => by rw [List.eq_of_mem_replicate hz]; omega, Hpc.out⟩
    have lO := hO6.lt
    have lQ := hQ6.lt
    have lw := k16.size
    have hO7 := hO6.non k7
    have hQ7 := hQ6.non k7
    have k17 := k16.non k7
    clear hO6 hQ6 k16 hM6 hR6 hlog Hpc
    go_wp2_with fail
    refine (zp_stay b qn qw qc qd lo 0 ops L T A N O2 M w7 hGw7 (by omega) (by omega) (by omega) hb hb' Hopsok.out hqok).mono ?_
    rintro e w8 ⟨a1, e1, c1, d1, rfl, S1, hGw8, kw8⟩
    clear hGw7
    replace hO7 := hO7.keep kw8 (by omega)
    replace hQ7 := hQ7.keep kw8 (by omega)
    replace k17 : Keep Non w _ := k17.then kw8 (by rintro i hi (h | h) <;> omega)
    go_wp2_with fail
    refine (zp_stay b qn qw qc qd hi (0 + 1) ops L T A N O2 M w8 hGw8 (by omega) (by omega) (by omega) hb hb' Hopsok.out hqok).mono ?_
    rintro e w9 ⟨a2, e2, c2, d2, rfl, S2, hGw9, kw9⟩
    clear hGw8
    replace S1 := S1.later kw9
    replace hO7 := hO7.keep kw9 (by omega)
    replace hQ7 := hQ7.keep kw9 (by omega)
    replace k17 : Keep Non w _ := k17.then kw9 (by rintro i hi (h | h) <;> omega)
    go_wp2_with fail
    refine (zp_stay b qn qw qc qd ops.length (0 + 1 + 1) ops L T A N O2 M w9 hGw9 (by omega) (by omega) (by omega) hb hb' Hopsok.out hqok).mono ?_
    rintro e w10 ⟨a3, e3, c3, d3, rfl, S3, hGw10, kw10⟩
    clear hGw9
    replace S1 := S1.later kw10
    replace S2 := S2.later kw10
    replace hO7 := hO7.keep kw10 (by omega)
    replace hQ7 := hQ7.keep kw10 (by omega)
    replace k17 : Keep Non w _ := k17.then kw10 (by rintro i hi (h | h) <;> omega)
    go_upto_region 36 with fail
    go_cut [45, 46, 47] (fun x y z wx => ∃ (a4 e4 : Option Addr) (c4 d4 : Nat), x = .bool (Pl.foundL b ⟨qn, qw, qc, qd⟩ (ops.filter (Pl.wk ⟨qn, qw, qc, qd⟩)) lo) ∧ y = .slice a4 (Pl.fromL b ⟨qn, qw, qc, qd⟩ (ops.filter (Pl.wk ⟨qn, qw, qc, qd⟩)) lo).length c4 ∧
        z = .slice e4 (Pl.fromL b ⟨qn, qw, qc, qd⟩ (ops.filter (Pl.wk ⟨qn, qw, qc, qd⟩)) lo).length d4 ∧ Stay T A wx a4 e4 (Pl.fromL b ⟨qn, qw, qc, qd⟩ (ops.filter (Pl.wk ⟨qn, qw, qc, qd⟩)) lo) qn ∧ Keep (fun k => k = T ∨ k = A) w10 wx)
    case first => as_aux_lemma =>
      go_wp2_with fail
      refine (zp_stay b qn qw qc qd lo (0 + 1 + 1 + 1) ops L T A N O2 M w10 hGw10 (by omega) (by omega) (by omega) hb hb' Hopsok.out hqok).mono ?_
      rintro e w11 ⟨a4, e4, c4, d4, rfl, S4, _, kw11⟩
      go_wp2
      go_meet
      case rel => exact ⟨a4, e4, c4, d4, rfl, rfl, rfl, S4, kw11⟩
    obtain ⟨a4, e4, c4, d4, rfl, rfl, rfl, S4, kw11⟩ := hcut
    generalize wc = w11 at *
    replace S1 := S1.later kw11
    replace S2 := S2.later kw11
    replace S3 := S3.later kw11
    replace hO7 := hO7.keep kw11 (by omega)
    replace hQ7 := hQ7.keep kw11 (by omega)
    replace k17 : Keep Non w _ := k17.then kw11 (by rintro i hi (h | h) <;> omega)
    clear hGw10 kw8 kw9 kw10 kw11 hT6 hA6 lO lQ lw k7
    have hVl : ((ops.filter (Pl.wk ⟨qn, qw, qc, qd⟩)).length : Int) ≤ (ops.length : Int) := by have := List.length_filter_le (Pl.wk ⟨qn, qw, qc, qd⟩) ops; omega
    have hlen : ∀ lim, (Pl.fromL b ⟨qn, qw, qc, qd⟩ (ops.filter (Pl.wk ⟨qn, qw, qc, qd⟩)) lim).length ≤ 4096 := by
      intro lim
      have h1 := Pl.namesL_len b ⟨qn, qw, qc, qd⟩ ((ops.filter (Pl.wk ⟨qn, qw, qc, qd⟩)).drop ((ops.filter (Pl.wk ⟨qn, qw, qc, qd⟩)).length - lim.toNat))
      unfold Pl.fromL
      rw [List.length_drop] at h1
      omega
    have hP1 := Pl.fromL_prefix b ⟨qn, qw, qc, qd⟩ (ops.filter (Pl.wk ⟨qn, qw, qc, qd⟩)) hlh
    have hP2 : Pl.fromL b ⟨qn, qw, qc, qd⟩ (ops.filter (Pl.wk ⟨qn, qw, qc, qd⟩)) hi <+: Pl.fromL b ⟨qn, qw, qc, qd⟩ (ops.filter (Pl.wk ⟨qn, qw, qc, qd⟩)) ops.length := by
      by_cases hh : hi ≤ (ops.length : Int)
      · exact Pl.fromL_prefix b _ _ hh
      · rw [Pl.fromL_all b _ _ (n := hi) (m := ops.length) (by omega) hVl]
        exact List.prefix_refl _
    have hS := fun h => Pl.foundL_mono hb ⟨qn, qw, qc, qd⟩ (ops.filter (Pl.wk ⟨qn, qw, qc, qd⟩)) hlh h
    have hN' : (ops.length : Int) ≤ hi → Pl.foundL b ⟨qn, qw, qc, qd⟩ (ops.filter (Pl.wk ⟨qn, qw, qc, qd⟩)) hi = true ∧ Pl.fromL b ⟨qn, qw, qc, qd⟩ (ops.filter (Pl.wk ⟨qn, qw, qc, qd⟩)) hi = Pl.fromL b ⟨qn, qw, qc, qd⟩ (ops.filter (Pl.wk ⟨qn, qw, qc, qd⟩)) ops.length := fun h =>
      ⟨Pl.foundL_all b _ _ (by omega), Pl.fromL_all b _ _ (by omega) hVl⟩
    have hL : ∀ j, j < ops.length → Pl.wk ⟨qn, qw, qc, qd⟩ (at0 ops j) = true → (∀ k, j < k → k < ops.length → Pl.wk ⟨qn, qw, qc, qd⟩ (at0 ops k) = false) → Pl.conf b (at0 ops j) ⟨qn, qw, qc, qd⟩ = true →
        ∃ t, Pl.fromL b ⟨qn, qw, qc, qd⟩ (ops.filter (Pl.wk ⟨qn, qw, qc, qd⟩)) ops.length = (at0 ops j).tx :: t := by
      intro j hj hw hno hcf
      rw [at0_eq ops j hj] at hw hcf ⊢
      refine Pl.fromL_last b _ ops hVl j hj hw ?_ hcf
      rw [List.filter_eq_nil_iff]
      intro p hp
      obtain ⟨k, hk, rfl⟩ := List.getElem_of_mem hp
      rw [List.length_drop] at hk
      have := hno (j + 1 + k) (by omega) (by omega)
      rw [at0_eq ops (j + 1 + k) (by omega)] at this
      simpa using this
    rw [Pl.foundL_all b ⟨qn, qw, qc, qd⟩ (ops.filter (Pl.wk ⟨qn, qw, qc, qd⟩)) hVl]
    have R := Keep.refl (fun k => k = T ∨ k = A) w11
    go_step
    exact law4_tail _ rfl _ _ _ _ _ _ _ _ _ _ _ _ _ _ _ _ _ _ _ _ _ _ _ _ _ _ _ _ _ _ _ _ _ _ _ _ _ _ _ _ _ _ _ _ _ _ _ _ _ _ _ _ _ _ _ _ _ _ _ _ _ _ _ _ _ _ _ _ _ _ _ _ _ _ _ _ _ _ _ _ _ _ _ _ _ _ _ _ _ _ _ _ _ _ _ _ _ _ _ _ _ _ _ _ _ _ _ _ _ _ _ _ _ _ _ _ _ _ _ _ _ _ _ _ _ _ _ _ _ _ _ _ _ _ _ _ _ _ _ _ _ _ _ _ _ _ _ _ _ _ _ _ _ _ _ _ _ _ _ _ _ _ _ _ _ _ _ _ _ _ _ _ _ _ _ _ _ _ _ _ _ _ _ _ _ _ _ _ _ _ _ _ _ _ _ _ _ _ _ _ _ _ _ _ _ _ _ _ _ _ _ _ _ _ _ _ _ _ _ _ _ _ _ _ _ _ _ _ _ _ _ _ _ _ _ _ _ _ _ _ _ _ _ _ _ _ _ _ _ _ _ _ _ _ _ _ _ _ _ _ _ _ _ _ _ _ _ _ _ _ _ _ _ _ _ _ _ _ _ _ _ _ _ _ _ _ _ _ _ _ _ _ _ _ _ _ _ _ _ _ _ _ _ _ _ _ _ _ _ _ _ _ _ _ _ _ _ _ _ _ _ _ _ _ _ _ _ _ _ _ _ _ _ b qn qw qc qd hi ops O Qb N _ _ a1 e1 a2 e2 a3 e3 a4 e4 c1 d1 c2 d2 c3 d3 c4 d4 _ _ _ w w11 m1 Hopsok.out hqok hO7 hQ7 k17
      (S1 _ R).1 (S2 _ R).1 (S3 _ R).1 (S4 _ R).1 (S1 _ R).2 (S2 _ R).2 (S3 _ R).2 (S4 _ R).2 (hlen _) (hlen _) (hlen _) hP1 hP2 hS hN' hL

end Go.Proofs.Qxb6626002a
