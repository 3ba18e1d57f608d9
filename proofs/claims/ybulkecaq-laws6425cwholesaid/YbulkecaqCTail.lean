import Derived.Test.YbulkecaqCBase2
import Derived.Deep.CutBlock
namespace Go.Proofs.Ybulkecaq
open Go.RowKit Go.Conc
set_option linter.unusedSimpArgs false
set_option linter.unusedVariables false

/-- the last loop -/
def LInv (w0 : World) (N nb T h0 h1 : Nat) (t h : Int) (c k : Value) (wr : World) : Prop :=
  ∃ k0 : Nat, k0 ≤ T ∧ k = .int .i64 (k0 : Int) ∧ c = .pointer (if k0 < T then sp N nb k0 else none) ∧ Chn w0 N nb T h0 h1 t h wr

/-- the code from region n on -/
def headIs (n : Nat) : Code → Bool
  | .region m _ _ => m == n
  | .seq a _ => headIs n a
  | _ => false
def dropTo (n : Nat) : Code → Option Code
  | .seq a b => if headIs n a = true then some (.seq a b) else dropTo n b
  | c => if headIs n c = true then some c else none

set_option maxHeartbeats 8000000 in
set_option maxRecDepth 1000000 in
theorem tail0 (c : Code) (hc : Yba.f5.body.bind (dropTo 62) = some c) (x0 x1 x2 x3 x4 x5 x6 x7 x8 x9 x10 x11 x12 x13 x14 x15 x16 x17 x18 x20 x21 x23 x24 x26 x29 x31 x42 x43 x44 x45 x46 x47 x48 x49 x50 x51 x52 x53 x54 x55 x56 x57 x58 x59 x60 x61 x62 x63 x64 x65 x66 x67 x68 x69 x70 x71 x72 x73 x74 x75 x76 x77 x78 x79 x80 x81 x82 x83 x84 x85 x86 x87 x88 x89 x90 x91 x92 x93 x94 x95 x96 x97 x98 x99 x100 x101 x102 x103 x104 x105 x106 x107 x108 x109 x110 x111 x112 x113 x114 x115 x116 x117 x118 x119 x120 x121 x122 x123 x124 x125 x126 x127 x128 x129 x130 x131 x132 x133 x134 x135 x136 x137 x138 x139 x140 x141 x142 x143 x144 x145 x146 x147 x148 x149 x150 x151 x152 x153 x154 x155 x156 x157 x158 x159 x160 x161 x162 x163 x164 x165 x166 x167 x168 x169 x170 x171 x172 x173 x174 x175 x176 x177 x178 x179 x180 x181 x182 x183 x184 x185 x186 x187 x188 x189 x190 x191 x192 x193 x194 x195 x196 x197 x198 x199 x200 x201 x202 x203 x204 x205 x206 x207 x208 x209 x210 x211 x212 x213 x214 x215 x216 x217 x218 x219 x220 x221 x222 x223 x224 x225 x226 x227 x228 x229 x230 x231 x232 x233 x234 x235 x236 x237 x238 x239 x240 x241 x242 x243 x244 x245 x246 x247 x248 x249 x250 x251 x252 x253 x254 x255 x256 x257 x258 x259 x260 x261 x262 x263 x264 x265 x266 x267 x268 x269 x270 x271 x272 x273 x274 x275 x276 x277 x278 x279 x280 x281 x282 x283 x284 x285 x286 x287 x288 x289 x290 x291 x292 x293 x294 x295 x296 x297 x298 x299 x300 x301 x302 x303 x304 x305 x306 x307 x308 x309 x310 x311 x312 x313 x314 x315 x316 x317 x318 x319 x320 x321 x322 x323 x324 x325 x326 x327 x328 x329 x330 x331 x332 x333 x334 x335 x336 x337 x338 x339 x340 x341 x342 x343 x344 x345 x346 x347 x348 x349 x350 x351 x352 x353 x354 x355 x356 x357 x358 x359 x360 x361 x362 x363 x364 x365 x366 x367 x368 x369 x370 x371 x372 x373 x374 x375 x376 x377 x378 : Value) (w0' wc : World) (N nb T' g' hr : Nat) (h : Nat) (a3 : Bool) (pl sg : Option Addr) (cl : Bool) (m' : Int)
    (n1 : 1 ≤ nb) (n6 : nb ≤ 6) (hr2 : hr < nb) (hT6 : T' ≤ 6) (kq : Chn w0' N nb T' g' hr m' (wd h a3) wc) :
    Code.wp Yba.prog c (bodyPost Yba.prog Yba.f5 fun e w' => e = .returned (.bool true) ∧ Below N w0' w') ⟨#[x0, x1, x2, x3, x4, x5, x6, x7, x8, x9, x10, x11, x12, x13, x14, x15, x16, x17, x18, .int .i64 (nb : Int), x20, x21, .int .i64 0, x23, x24, .slice (some ⟨N, 0, none⟩) nb nb, x26, .pointer (some ⟨N + 1 + 2 * nb, 0, none⟩), .pointer (some ⟨N + 2 + 2 * nb, 0, none⟩), x29, .int .u64 (wd h a3), x31, .int .i64 (hr : Int), .pointer pl, .pointer sg, .bool cl, .pointer pl, .pointer sg, .bool cl, .int .u64 m', .pointer (sp N nb g'), .int .i64 (T' : Int), x42, x43, x44, x45, x46, x47, x48, x49, x50, x51, x52, x53, x54, x55, x56, x57, x58, x59, x60, x61, x62, x63, x64, x65, x66, x67, x68, x69, x70, x71, x72, x73, x74, x75, x76, x77, x78, x79, x80, x81, x82, x83, x84, x85, x86, x87, x88, x89, x90, x91, x92, x93, x94, x95, x96, x97, x98, x99, x100, x101, x102, x103, x104, x105, x106, x107, x108, x109, x110, x111, x112, x113, x114, x115, x116, x117, x118, x119, x120, x121, x122, x123, x124, x125, x126, x127, x128, x129, x130, x131, x132, x133, x134, x135, x136, x137, x138, x139, x140, x141, x142, x143, x144, x145, x146, x147, x148, x149, x150, x151, x152, x153, x154, x155, x156, x157, x158, x159, x160, x161, x162, x163, x164, x165, x166, x167, x168, x169, x170, x171, x172, x173, x174, x175, x176, x177, x178, x179, x180, x181, x182, x183, x184, x185, x186, x187, x188, x189, x190, x191, x192, x193, x194, x195, x196, x197, x198, x199, x200, x201, x202, x203, x204, x205, x206, x207, x208, x209, x210, x211, x212, x213, x214, x215, x216, x217, x218, x219, x220, x221, x222, x223, x224, x225, x226, x227, x228, x229, x230, x231, x232, x233, x234, x235, x236, x237, x238, x239, x240, x241, x242, x243, x244, x245, x246, x247, x248, x249, x250, x251, x252, x253, x254, x255, x256, x257, x258, x259, x260, x261, x262, x263, x264, x265, x266, x267, x268, x269, x270, x271, x272, x273, x274, x275, x276, x277, x278, x279, x280, x281, x282, x283, x284, x285, x286, x287, x288, x289, x290, x291, x292, x293, x294, x295, x296, x297, x298, x299, x300, x301, x302, x303, x304, x305, x306, x307, x308, x309, x310, x311, x312, x313, x314, x315, x316, x317, x318, x319, x320, x321, x322, x323, x324, x325, x326, x327, x328, x329, x330, x331, x332, x333, x334, x335, x336, x337, x338, x339, x340, x341, x342, x343, x344, x345, x346, x347, x348, x349, x350, x351, x352, x353, x354, x355, x356, x357, x358, x359, x360, x361, x362, x363, x364, x365, x366, x367, x368, x369, x370, x371, x372, x373, x374, x375, x376, x377, x378], []⟩ wc := by
  conv at hc => lhs; whnf
  injection hc with hc
  subst hc
  obtain ⟨ct, ch', _⟩ := kq.rv.cells
  go_upto_region 62 with fail
  go_quiet ((go_at_call 9; first | exact Calls.quiet_of_same (load_u _ _ _ _ ct) | exact Calls.quiet_of_same (load_u _ _ _ _ ch')))
  have kq2 := kq.drewN nq
  generalize World.drewN _ nq = w30 at *
  clear ct ch' kq
  have hn70 := neq70o
  have hn86 := neq86o
  have c0 := kq2.ch.cells.1
  have c1 := kq2.ch.cells.2.1
  have p0 := kq2.isSeg g' kq2.h0T
  have p1 := kq2.isSeg hr kq2.h1T
  have rr := kq2.row hr hr2
  go_upto_region 69 with fail
  go_quiet ((go_at_call 15; first | exact Calls.quiet_of_same (load_p _ _ _ _ c0 p0) | exact Calls.quiet_of_same (load_p _ _ _ _ c1 p1)))
  have kq3 := kq2.drewN nq
  generalize World.drewN _ nq = w31 at *
  clear c0 c1 p0 p1 rr kq2
  go_wp2_with fail
  refine (load_p (N + 1 + 2 * nb) 4 none w31 kq3.ch.cells.2.2.1 (SegP.nil _)).mono ?_
  rintro e w32 ⟨rfl, rfl⟩
  have r0 := kq3.row 0 (by omega)
  go_wp2_with fail
  go_loopw [50, 51] (fun c k wr => LInv w0' N nb T' g' hr m' (wd h a3) c k wr) (fun _ k _ => T' - (intOf k).toNat)
  case atStart => exact ⟨0, Nat.zero_le _, rfl, by rw [if_pos (by have := kq3.h0T; omega)], kq3⟩
  case round =>
    obtain ⟨k0, hk0, rfl, rfl, kr⟩ := hrel
    clear kq3 r0
    by_cases hkT : k0 < T'
    · rw [if_pos hkT]
      have seg := kr.seg k0 hkT
      have d0 := seg.c0
      have d1 := seg.c1
      have hwl := wrap_ln k0 (by omega)
      have hst := start_ k0 (by omega)
      have hs0 := st_le (show k0 ≤ 5 by omega)
      have hl0 := ln_le (show k0 ≤ 5 by omega)
      generalize st k0 = S at *
      generalize ln k0 = L at *
      unfold sp
      go_upto_region 77 with fail
      go_quiet ((go_at_call 11; exact Calls.quiet_of_same (hst _)))
      have kr2 := kr.drewN nq
      generalize World.drewN _ nq = w33 at *
      clear seg d0 d1 hwl hst kr
      have c2 := (kr2.seg k0 hkT).c2
      have pn := kr2.isNx k0
      by_cases hkn : k0 < nb
      · have rk := kr2.row k0 hkn
        unfold sp at rk
        by_cases hk1 : k0 + 1 < T'
        · go_wp2_with fail
          refine (load_p _ 2 _ w33 c2 pn).mono ?_
          rintro e w34 ⟨rfl, rfl⟩
          go_wp2_with fail
          go_roundw
          case rel => exact ⟨k0 + 1, by omega, by go_num, by rw [if_pos hk1]; exact congrArg Value.pointer (nx_more hk1), kr2⟩
          case measure => simp [intOf]; omega
        · rw [nx_last (by omega)] at c2 pn
          go_wp2_with fail
          refine (load_p _ 2 _ w33 c2 pn).mono ?_
          rintro e w34 ⟨rfl, rfl⟩
          go_wp2_with fail
          go_roundw
          case rel => exact ⟨k0 + 1, by omega, by go_num, by rw [if_neg hk1], kr2⟩
          case measure => simp [intOf]; omega
      · by_cases hk1 : k0 + 1 < T'
        · go_wp2_with fail
          refine (load_p _ 2 _ w33 c2 pn).mono ?_
          rintro e w34 ⟨rfl, rfl⟩
          go_wp2_with fail
          go_roundw
          case rel => exact ⟨k0 + 1, by omega, by go_num, by rw [if_pos hk1]; exact congrArg Value.pointer (nx_more hk1), kr2⟩
          case measure => simp [intOf]; omega
        · rw [nx_last (by omega)] at c2 pn
          go_wp2_with fail
          refine (load_p _ 2 _ w33 c2 pn).mono ?_
          rintro e w34 ⟨rfl, rfl⟩
          go_wp2_with fail
          go_roundw
          case rel => exact ⟨k0 + 1, by omega, by go_num, by rw [if_neg hk1], kr2⟩
          case measure => simp [intOf]; omega
    · rw [if_neg hkT]
      go_wp2_with fail
      go_ret
      exact ⟨rfl, kr.bel⟩


set_option maxHeartbeats 8000000 in
set_option maxRecDepth 1000000 in
theorem tail1 (c : Code) (hc : Yba.f5.body.bind (dropTo 62) = some c) (x0 x1 x2 x3 x4 x5 x6 x7 x8 x9 x10 x11 x12 x13 x14 x15 x16 x17 x18 x20 x21 x23 x24 x26 x29 x31 x42 x43 x44 x45 x46 x47 x48 x49 x50 x51 x52 x53 x54 x55 x56 x57 x58 x59 x60 x61 x62 x63 x64 x65 x66 x67 x68 x69 x70 x71 x72 x73 x74 x75 x76 x77 x78 x79 x80 x81 x82 x83 x84 x85 x86 x87 x88 x89 x90 x91 x92 x93 x94 x95 x96 x97 x98 x99 x100 x101 x102 x103 x104 x105 x106 x107 x108 x109 x110 x111 x112 x113 x114 x115 x116 x117 x118 x119 x120 x121 x122 x123 x124 x125 x126 x127 x128 x129 x130 x131 x132 x133 x134 x135 x136 x137 x138 x139 x140 x141 x142 x143 x144 x145 x146 x147 x148 x149 x150 x151 x152 x153 x154 x155 x156 x157 x158 x159 x160 x161 x162 x163 x164 x165 x166 x167 x168 x169 x170 x171 x172 x173 x174 x175 x176 x177 x178 x179 x180 x181 x182 x183 x184 x185 x186 x187 x188 x189 x190 x191 x192 x193 x194 x195 x196 x197 x198 x199 x200 x201 x202 x203 x204 x205 x206 x207 x208 x209 x210 x211 x212 x213 x214 x215 x216 x217 x218 x219 x220 x221 x222 x223 x224 x225 x226 x227 x228 x229 x230 x231 x232 x233 x234 x235 x236 x237 x238 x239 x240 x241 x242 x243 x244 x245 x246 x247 x248 x249 x250 x251 x252 x253 x254 x255 x256 x257 x258 x259 x260 x261 x262 x263 x264 x265 x266 x267 x268 x269 x270 x271 x272 x273 x274 x275 x276 x277 x278 x279 x280 x281 x282 x283 x284 x285 x286 x287 x288 x289 x290 x291 x292 x293 x294 x295 x296 x297 x298 x299 x300 x301 x302 x303 x304 x305 x306 x307 x308 x309 x310 x311 x312 x313 x314 x315 x316 x317 x318 x319 x320 x321 x322 x323 x324 x325 x326 x327 x328 x329 x330 x331 x332 x333 x334 x335 x336 x337 x338 x339 x340 x341 x342 x343 x344 x345 x346 x347 x348 x349 x350 x351 x352 x353 x354 x355 x356 x357 x358 x359 x360 x361 x362 x363 x364 x365 x366 x367 x368 x369 x370 x371 x372 x373 x374 x375 x376 x377 x378 : Value) (w0' wc : World) (N nb T' g' hs : Nat) (t : Nat) (a2 : Bool) (pl sg : Option Addr) (cl : Bool) (m' : Int)
    (n1 : 1 ≤ nb) (n6 : nb ≤ 6) (hs2 : hs < nb) (hT6 : T' ≤ 6) (kq : Chn w0' N nb T' hs g' (wd t a2) m' wc) :
    Code.wp Yba.prog c (bodyPost Yba.prog Yba.f5 fun e w' => e = .returned (.bool true) ∧ Below N w0' w') ⟨#[x0, x1, x2, x3, x4, x5, x6, x7, x8, x9, x10, x11, x12, x13, x14, x15, x16, x17, x18, .int .i64 (nb : Int), x20, x21, .int .i64 1, x23, x24, .slice (some ⟨N, 0, none⟩) nb nb, x26, .pointer (some ⟨N + 1 + 2 * nb, 0, none⟩), .pointer (some ⟨N + 2 + 2 * nb, 0, none⟩), x29, .int .u64 (wd t a2), x31, .int .i64 (hs : Int), .pointer pl, .pointer sg, .bool cl, .pointer pl, .pointer sg, .bool cl, .int .u64 m', .pointer (sp N nb g'), .int .i64 (T' : Int), x42, x43, x44, x45, x46, x47, x48, x49, x50, x51, x52, x53, x54, x55, x56, x57, x58, x59, x60, x61, x62, x63, x64, x65, x66, x67, x68, x69, x70, x71, x72, x73, x74, x75, x76, x77, x78, x79, x80, x81, x82, x83, x84, x85, x86, x87, x88, x89, x90, x91, x92, x93, x94, x95, x96, x97, x98, x99, x100, x101, x102, x103, x104, x105, x106, x107, x108, x109, x110, x111, x112, x113, x114, x115, x116, x117, x118, x119, x120, x121, x122, x123, x124, x125, x126, x127, x128, x129, x130, x131, x132, x133, x134, x135, x136, x137, x138, x139, x140, x141, x142, x143, x144, x145, x146, x147, x148, x149, x150, x151, x152, x153, x154, x155, x156, x157, x158, x159, x160, x161, x162, x163, x164, x165, x166, x167, x168, x169, x170, x171, x172, x173, x174, x175, x176, x177, x178, x179, x180, x181, x182, x183, x184, x185, x186, x187, x188, x189, x190, x191, x192, x193, x194, x195, x196, x197, x198, x199, x200, x201, x202, x203, x204, x205, x206, x207, x208, x209, x210, x211, x212, x213, x214, x215, x216, x217, x218, x219, x220, x221, x222, x223, x224, x225, x226, x227, x228, x229, x230, x231, x232, x233, x234, x235, x236, x237, x238, x239, x240, x241, x242, x243, x244, x245, x246, x247, x248, x249, x250, x251, x252, x253, x254, x255, x256, x257, x258, x259, x260, x261, x262, x263, x264, x265, x266, x267, x268, x269, x270, x271, x272, x273, x274, x275, x276, x277, x278, x279, x280, x281, x282, x283, x284, x285, x286, x287, x288, x289, x290, x291, x292, x293, x294, x295, x296, x297, x298, x299, x300, x301, x302, x303, x304, x305, x306, x307, x308, x309, x310, x311, x312, x313, x314, x315, x316, x317, x318, x319, x320, x321, x322, x323, x324, x325, x326, x327, x328, x329, x330, x331, x332, x333, x334, x335, x336, x337, x338, x339, x340, x341, x342, x343, x344, x345, x346, x347, x348, x349, x350, x351, x352, x353, x354, x355, x356, x357, x358, x359, x360, x361, x362, x363, x364, x365, x366, x367, x368, x369, x370, x371, x372, x373, x374, x375, x376, x377, x378], []⟩ wc := by
  conv at hc => lhs; whnf
  injection hc with hc
  subst hc
  obtain ⟨ct, ch', _⟩ := kq.rv.cells
  go_upto_region 62 with fail
  go_quiet ((go_at_call 9; first | exact Calls.quiet_of_same (load_u _ _ _ _ ct) | exact Calls.quiet_of_same (load_u _ _ _ _ ch')))
  have kq1 := kq.drewN nq
  generalize World.drewN _ nq = w29 at *
  clear ct ch' kq
  obtain ⟨ct, ch', _⟩ := kq1.rv.cells
  go_upto_region 64 with fail
  go_quiet ((go_at_call 9; first | exact Calls.quiet_of_same (load_u _ _ _ _ ct) | exact Calls.quiet_of_same (load_u _ _ _ _ ch')))
  have kq2 := kq1.drewN nq
  generalize World.drewN _ nq = w30 at *
  clear ct ch' kq1
  have hn70 := neq70o
  have hn86 := neq86o
  have c0 := kq2.ch.cells.1
  have c1 := kq2.ch.cells.2.1
  have p0 := kq2.isSeg hs kq2.h0T
  have p1 := kq2.isSeg g' kq2.h1T
  have rr := kq2.row hs hs2
  go_upto_region 69 with fail
  go_quiet ((go_at_call 15; first | exact Calls.quiet_of_same (load_p _ _ _ _ c0 p0) | exact Calls.quiet_of_same (load_p _ _ _ _ c1 p1)))
  have kq3 := kq2.drewN nq
  generalize World.drewN _ nq = w31 at *
  clear c0 c1 p0 p1 rr kq2
  go_wp2_with fail
  refine (load_p (N + 1 + 2 * nb) 4 none w31 kq3.ch.cells.2.2.1 (SegP.nil _)).mono ?_
  rintro e w32 ⟨rfl, rfl⟩
  have r0 := kq3.row 0 (by omega)
  go_wp2_with fail
  go_loopw [50, 51] (fun c k wr => LInv w0' N nb T' hs g' (wd t a2) m' c k wr) (fun _ k _ => T' - (intOf k).toNat)
  case atStart => exact ⟨0, Nat.zero_le _, rfl, by rw [if_pos (by have := kq3.h0T; omega)], kq3⟩
  case round =>
    obtain ⟨k0, hk0, rfl, rfl, kr⟩ := hrel
    clear kq3 r0
    by_cases hkT : k0 < T'
    · rw [if_pos hkT]
      have seg := kr.seg k0 hkT
      have d0 := seg.c0
      have d1 := seg.c1
      have hwl := wrap_ln k0 (by omega)
      have hst := start_ k0 (by omega)
      have hs0 := st_le (show k0 ≤ 5 by omega)
      have hl0 := ln_le (show k0 ≤ 5 by omega)
      generalize st k0 = S at *
      generalize ln k0 = L at *
      unfold sp
      go_upto_region 77 with fail
      go_quiet ((go_at_call 11; exact Calls.quiet_of_same (hst _)))
      have kr2 := kr.drewN nq
      generalize World.drewN _ nq = w33 at *
      clear seg d0 d1 hwl hst kr
      have c2 := (kr2.seg k0 hkT).c2
      have pn := kr2.isNx k0
      by_cases hkn : k0 < nb
      · have rk := kr2.row k0 hkn
        unfold sp at rk
        by_cases hk1 : k0 + 1 < T'
        · go_wp2_with fail
          refine (load_p _ 2 _ w33 c2 pn).mono ?_
          rintro e w34 ⟨rfl, rfl⟩
          go_wp2_with fail
          go_roundw
          case rel => exact ⟨k0 + 1, by omega, by go_num, by rw [if_pos hk1]; exact congrArg Value.pointer (nx_more hk1), kr2⟩
          case measure => simp [intOf]; omega
        · rw [nx_last (by omega)] at c2 pn
          go_wp2_with fail
          refine (load_p _ 2 _ w33 c2 pn).mono ?_
          rintro e w34 ⟨rfl, rfl⟩
          go_wp2_with fail
          go_roundw
          case rel => exact ⟨k0 + 1, by omega, by go_num, by rw [if_neg hk1], kr2⟩
          case measure => simp [intOf]; omega
      · by_cases hk1 : k0 + 1 < T'
        · go_wp2_with fail
          refine (load_p _ 2 _ w33 c2 pn).mono ?_
          rintro e w34 ⟨rfl, rfl⟩
          go_wp2_with fail
          go_roundw
          case rel => exact ⟨k0 + 1, by omega, by go_num, by rw [if_pos hk1]; exact congrArg Value.pointer (nx_more hk1), kr2⟩
          case measure => simp [intOf]; omega
        · rw [nx_last (by omega)] at c2 pn
          go_wp2_with fail
          refine (load_p _ 2 _ w33 c2 pn).mono ?_
          rintro e w34 ⟨rfl, rfl⟩
          go_wp2_with fail
          go_roundw
          case rel => exact ⟨k0 + 1, by omega, by go_num, by rw [if_neg hk1], kr2⟩
          case measure => simp [intOf]; omega
    · rw [if_neg hkT]
      go_wp2_with fail
      go_ret
      exact ⟨rfl, kr.bel⟩


end Go.Proofs.Ybulkecaq
