import Derived.Test.Qxb6626002aL4b
namespace Go.Proofs.Qxb6626002a
open Go.RowKit
set_option linter.unusedVariables false

set_option maxRecDepth 100000 in
set_option maxHeartbeats 3200000 in
theorem law4_p3 (cd : Code) (hcd : cd = dropSeq 25 (Try.f4.body.getD .skip)) (x1 x2 x3 x4 x7 x8 x9 x10 x11 x12 x13 x14 x15 x16 x17 x18 x19 x20 x21 x22 x23 x24 x25 x26 x28 x29 x30 x33 x35 x38 x41 x42 x44 x45 x46 x47 x48 x49 x50 x51 x52 x53 x54 x55 x56 x57 x58 x59 x60 x61 x62 x63 x64 x65 x66 x67 x68 x69 x70 x71 x72 x73 x74 x75 x76 x77 x78 x79 x80 x81 x82 x83 x84 x85 x86 x87 x88 x89 x90 x91 x92 x93 x94 x95 x96 x97 x98 x99 x100 x101 x102 x103 x104 x105 x106 x107 x108 x109 x110 x111 x112 x113 x114 x115 x116 x117 x118 x119 x120 x121 x122 x123 x124 x125 x126 x127 x128 x129 x130 x131 x132 x133 x134 x135 x136 x137 x138 x139 x140 x141 x142 x143 x144 x145 x146 x147 x148 x149 x150 x151 x152 x153 x154 x155 x156 x157 x158 x159 x160 x161 x162 x163 x164 x165 x166 x167 x168 x169 x170 x171 x172 x173 x174 x175 x176 x177 x178 x179 x180 x181 x182 x183 x184 x185 x186 x187 x188 x189 x190 x191 x192 x193 x194 x195 x196 x197 x198 x199 x200 x201 x202 x203 x204 x205 x206 x207 x208 x209 x210 x211 x212 x213 x214 x215 x216 x217 x218 x219 x220 x221 x222 x223 x224 x225 x226 x227 x228 x229 x230 x231 x232 x233 x234 x235 x236 x237 x238 x239 x240 x241 x242 x243 x244 x245 x246 x247 x248 x249 x250 x251 x252 x253 x254 x255 x256 x257 x258 x259 x260 x261 x262 x263 x264 x265 x266 x267 x268 x269 x270 x271 x272 x273 x274 x275 x276 x277 x278 x279 x280 x281 x282 x283 x284 x285 x286 x287 x288 x289 x290 x291 x292 x293 x294 x295 x296 x297 x298 x299 x300 x301 x302 x303 x304 x305 x306 x307 x308 x309 x310 x311 x312 x313 x314 x315 x316 x317 x318 x319 x320 x321 x322 x323 x324 x325 x326 x327 x328 x329 x330 x331 x332 x333 x334 x335 x336 x337 x338 x339 x340 x341 x342 x343 x344 x345 x346 x347 x348 x349 x350 x351 : Value) (b : Int) (qn : Nat) (qw : Bool) (qc : Int) (qd : Bool) (hi : Int) (ops : List Pl.Acc) (O Qb N : Nat) (gLo gHi : Bool) (aLo aHi aAl : Option Addr) (cLo cHi cAl : Nat) (fLo fHi fAl : List Int) (w w8 : World)
    (hn : ops.length ≤ 4096) (hok : ∀ p ∈ ops, Pl.Acc.ok p ∧ 0 ≤ p.tx ∧ p.tx < N) (hq : Pl.Acc.ok ⟨qn, qw, qc, qd⟩) (hO8 : Blk w8 O (accs ops) 32) (hQ8 : Blk w8 Qb (accs [⟨qn, qw, qc, qd⟩]) 32) (k18 : Keep Non w w8) (ALo : Arr w8 aLo fLo.length (fun i => .int .i64 (fLo.getD i 0))) (AHi : Arr w8 aHi fHi.length (fun i => .int .i64 (fHi.getD i 0))) (AAl : Arr w8 aAl fAl.length (fun i => .int .i64 (fAl.getD i 0)))
    (nLo : fLo.length ≤ 4096) (nHi : fHi.length ≤ 4096) (nAl : fAl.length ≤ 4096) (hS : gLo = true → gHi = true ∧ fLo = fHi) (hN : (ops.length : Int) ≤ hi → gHi = true ∧ fHi = fAl)
    (hL : ∀ j, j < ops.length → Pl.wk ⟨qn, qw, qc, qd⟩ (at0 ops j) = true → (∀ k, j < k → k < ops.length → Pl.wk ⟨qn, qw, qc, qd⟩ (at0 ops k) = false) → Pl.conf b (at0 ops j) ⟨qn, qw, qc, qd⟩ = true → ∃ t, fAl = (at0 ops j).tx :: t) :
    Code.wp Try.prog cd (bodyPost Try.prog Try.f4 fun e w' => e = .returned (.bool true) ∧ Keep Non w w') ⟨List.toArray [.int .i64 b, x1, x2, x3, x4, .int .i64 qn, .bool qw, x7, x8, x9, x10, x11, x12, x13, x14, x15, x16, x17, x18, x19, x20, x21, x22, x23, x24, x25, x26, .int .i64 ops.length, x28, x29, x30, .int .i64 hi, .slice (some ⟨O, 0, none⟩) ops.length ops.length, x33, .pointer (some ⟨Qb, 0, none⟩), x35, .bool gLo, .slice aLo fLo.length cLo, x38, .bool gHi, .slice aHi fHi.length cHi, x41, x42, .slice aAl fAl.length cAl, x44, x45, x46, x47, x48, x49, x50, x51, x52, x53, x54, x55, x56, x57, x58, x59, x60, x61, x62, x63, x64, x65, x66, x67, x68, x69, x70, x71, x72, x73, x74, x75, x76, x77, x78, x79, x80, x81, x82, x83, x84, x85, x86, x87, x88, x89, x90, x91, x92, x93, x94, x95, x96, x97, x98, x99, x100, x101, x102, x103, x104, x105, x106, x107, x108, x109, x110, x111, x112, x113, x114, x115, x116, x117, x118, x119, x120, x121, x122, x123, x124, x125, x126, x127, x128, x129, x130, x131, x132, x133, x134, x135, x136, x137, x138, x139, x140, x141, x142, x143, x144, x145, x146, x147, x148, x149, x150, x151, x152, x153, x154, x155, x156, x157, x158, x159, x160, x161, x162, x163, x164, x165, x166, x167, x168, x169, x170, x171, x172, x173, x174, x175, x176, x177, x178, x179, x180, x181, x182, x183, x184, x185, x186, x187, x188, x189, x190, x191, x192, x193, x194, x195, x196, x197, x198, x199, x200, x201, x202, x203, x204, x205, x206, x207, x208, x209, x210, x211, x212, x213, x214, x215, x216, x217, x218, x219, x220, x221, x222, x223, x224, x225, x226, x227, x228, x229, x230, x231, x232, x233, x234, x235, x236, x237, x238, x239, x240, x241, x242, x243, x244, x245, x246, x247, x248, x249, x250, x251, x252, x253, x254, x255, x256, x257, x258, x259, x260, x261, x262, x263, x264, x265, x266, x267, x268, x269, x270, x271, x272, x273, x274, x275, x276, x277, x278, x279, x280, x281, x282, x283, x284, x285, x286, x287, x288, x289, x290, x291, x292, x293, x294, x295, x296, x297, x298, x299, x300, x301, x302, x303, x304, x305, x306, x307, x308, x309, x310, x311, x312, x313, x314, x315, x316, x317, x318, x319, x320, x321, x322, x323, x324, x325, x326, x327, x328, x329, x330, x331, x332, x333, x334, x335, x336, x337, x338, x339, x340, x341, x342, x343, x344, x345, x346, x347, x348, x349, x350, x351], []⟩ w8 := by
  subst hcd
  conv => arg 2; whnf
  conv => arg 4; zeta
  have Hok : Hid (∀ p ∈ ops, Pl.Acc.ok p ∧ 0 ≤ p.tx ∧ p.tx < N) := hok
  have HS : Hid (gLo = true → gHi = true ∧ fLo = fHi) := hS
  have HN : Hid ((ops.length : Int) ≤ hi → gHi = true ∧ fHi = fAl) := hN
  have HL : Hid (∀ j, j < ops.length → Pl.wk ⟨qn, qw, qc, qd⟩ (at0 ops j) = true → (∀ k, j < k → k < ops.length → Pl.wk ⟨qn, qw, qc, qd⟩ (at0 ops k) = false) → Pl.conf b (at0 ops j) ⟨qn, qw, qc, qd⟩ = true → ∃ t, fAl = (at0 ops j).tx :: t) := hL
  clear hok hS hN hL
  go_upto_region 47 with fail
  go_cut [297] (fun c wx => c = .bool false ∧ Keep Non w8 wx)
  case first => as_aux_lemma =>
    cases gLo
    · go_wp2
      go_meet
      case rel => exact ⟨rfl, Keep.refl _ _⟩
    · obtain ⟨rfl, rfl⟩ := HS.out rfl
      go_wp2_with fail
      refine (same_any aLo aHi fLo cLo cHi w8 ALo AHi (by omega)).mono ?_
      rintro e w1 ⟨rfl, k1⟩
      go_wp2
      go_meet
      case rel => exact ⟨rfl, k1⟩
  obtain ⟨rfl, k9⟩ := hcut
  replace hO8 := hO8.non k9
  replace hQ8 := hQ8.non k9
  replace k18 := k18.non k9
  replace AHi := AHi.non k9
  replace AAl := AAl.non k9
  clear ALo HS k9
  generalize wc = w12 at *
  go_upto_region 49 with fail
  go_cut [309] (fun c wx => c = .bool false ∧ Keep Non w12 wx)
  case first => as_aux_lemma =>
    by_cases hh : (ops.length : Int) ≤ hi
    · obtain ⟨rfl, rfl⟩ := HN.out hh
      go_wp2_with fail
      refine (same_any aHi aAl fHi cHi cAl w12 AHi AAl (by omega)).mono ?_
      rintro e w1 ⟨rfl, k1⟩
      go_wp2
      go_meet
      case rel => exact ⟨rfl, k1⟩
    · go_wp2
      go_meet
      case rel => exact ⟨rfl, Keep.refl _ _⟩
  obtain ⟨rfl, k9⟩ := hcut
  replace hO8 := hO8.non k9
  replace hQ8 := hQ8.non k9
  replace k18 := k18.non k9
  replace AAl := AAl.non k9
  clear AHi HN k9
  generalize wc = w13 at *
  go_upto_region 51 with fail
  go_cut [48] (fun c wx => c = .int .i64 ((ops.length : Int) - 1) ∧ w13 = wx)
  case first => as_aux_lemma =>
    go_wp2
    go_meet
    case rel => exact ⟨rfl, rfl⟩
  obtain ⟨rfl, rfl⟩ := hcut
  go_step
  exact law4_last _ rfl _ _ _ _ _ _ _ _ _ _ _ _ _ _ _ _ _ _ _ _ _ _ _ _ _ _ _ _ _ _ _ _ _ _ _ _ _ _ _ _ _ _ _ _ _ _ _ _ _ _ _ _ _ _ _ _ _ _ _ _ _ _ _ _ _ _ _ _ _ _ _ _ _ _ _ _ _ _ _ _ _ _ _ _ _ _ _ _ _ _ _ _ _ _ _ _ _ _ _ _ _ _ _ _ _ _ _ _ _ _ _ _ _ _ _ _ _ _ _ _ _ _ _ _ _ _ _ _ _ _ _ _ _ _ _ _ _ _ _ _ _ _ _ _ _ _ _ _ _ _ _ _ _ _ _ _ _ _ _ _ _ _ _ _ _ _ _ _ _ _ _ _ _ _ _ _ _ _ _ _ _ _ _ _ _ _ _ _ _ _ _ _ _ _ _ _ _ _ _ _ _ _ _ _ _ _ _ _ _ _ _ _ _ _ _ _ _ _ _ _ _ _ _ _ _ _ _ _ _ _ _ _ _ _ _ _ _ _ _ _ _ _ _ _ _ _ _ _ _ _ _ _ _ _ _ _ _ _ _ _ _ _ _ _ _ _ _ _ _ _ _ _ _ _ _ _ _ _ _ _ _ _ _ _ _ _ _ _ _ _ _ _ _ _ _ _ _ _ _ _ _ _ _ _ _ _ _ _ _ _ _ _ _ _ _ _ _ _ _ _ _ _ _ _ _ _ _ _ _ _ _ _ _ _ _ _ _ _ _ _ _ _ _ _ _ _ b qn qw qc qd ops O Qb N aAl cAl fAl w w13 hn Hok.out hq hO8 hQ8 k18 AAl nAl HL.out

end Go.Proofs.Qxb6626002a
