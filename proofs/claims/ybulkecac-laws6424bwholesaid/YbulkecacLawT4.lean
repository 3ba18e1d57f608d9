import Derived.Test.YbulkecacLawP
namespace Go.Proofs.Ybulkecac
open Go.RowKit Go.Sort Go.Shelf
set_option linter.unusedSimpArgs false
set_option linter.unusedVariables false

theorem neq44 (w : World) (a : Addr) : (binOp .neq 44 (.pointer (some a)) (.pointer (some a))).run Yba.prog w = .ok (.bool false) w := by
  obtain ⟨j, hj⟩ : ∃ j, Yba.prog.info? 50 = some j := ⟨(Yba.prog.info? 50).get (by kernel_rfl), by kernel_rfl⟩
  exact Lib.run_neq_ptr_same w a Yba.underlying44 hj

/-- the rules that came in -/
def InR (w : World) (a : Option Addr) (n : Nat) (hd sp : Nat → Int) : Prop :=
  (∀ i, i < n → (0 ≤ hd i ∧ hd i ≤ 255) ∧ -2147483648 ≤ sp i ∧ sp i ≤ 2147483647) ∧ (0 < n → ∃ x, a = some x ∧ ∀ i, i < n → w.cell? (x.add (i * 2)) = some (.int .u8 (hd i)) ∧ w.cell? ((x.add (i * 2)).add 1) = some (.int .i32 (sp i)))

/-- what the last part reads -/
structure ST (w : World) (N k : Nat) (tt : Nat → Option Nat) (rs : List (Int × Nat)) (W : World) : Prop where
  hN : N = w.heap.size
  bel : Below N w W
  sc : ∀ i, i < k → W.cell? ⟨N, i, none⟩ = some (.pointer (some ⟨N + 1 + i, 0, none⟩))
  ti : ∀ i, i < k → W.cell? ⟨N + 1 + k, i, none⟩ = some (.int .i64 (match tt i with | none => -1 | some j => (j : Int)))
  tos : ∀ i, i < k → W.cell? ⟨N + 1 + i, 3, none⟩ = some (.pointer ((tt i).map fun j => ⟨N + 1 + j, 0, none⟩))
  rl : ∃ vr, W.cell? ⟨N + 5 + k, 3, none⟩ = some vr ∧ RulesAt N W vr rs
  toLt : ∀ i j, tt i = some j → i < j ∧ j < k
  k300 : k ≤ 300
  rs4 : rs.length ≤ 4096
  big : N + 6 + k ≤ W.heap.size

theorem belgrown {B : Nat} {w W W' : World} (h : Below B w W) (hg : W.grownBy W' none) (hB : B ≤ W.heap.size) : Below B w W' := h.grown hg hB (fun j hj => by cases hj)

theorem ST.kept {w W W' : World} {N k : Nat} {tt : Nat → Option Nat} {rs : List (Int × Nat)} (h : ST w N k tt rs W) (hg : W.grownBy W' none) : ST w N k tt rs W' := by
  obtain ⟨vr, h1, h2⟩ := h.rl
  have hB := h.big
  exact ⟨h.hN, belgrown h.bel hg (by omega), fun i hi => gcell hg (h.sc i hi), fun i hi => gcell hg (h.ti i hi), fun i hi => gcell hg (h.tos i hi), ⟨vr, gcell hg h1, h2.kept hg⟩, h.toLt, h.k300, h.rs4, Nat.le_trans hB hg.size⟩

set_option maxHeartbeats 16000000 in
set_option maxRecDepth 1000000 in
theorem lawT4 (c : Code) (hc : Yba.f5.body.bind (dropTo 86) = some c) (x0 x2 x3 x4 x5 x6 x8 x9 x11 x12 x13 x14 x15 x17 x18 x19 x20 x21 x22 x23 x24 x25 x26 x27 x28 x29 x30 x31 x32 x33 x34 x35 x36 x37 x38 x39 x40 x41 x42 x43 x44 x45 x46 x47 x48 x49 x50 x51 x52 x53 x54 x55 x56 x57 x58 x59 x60 x61 x62 x63 x64 x65 x66 x67 x68 x69 x70 x71 x72 x73 x74 x75 x76 x77 x78 x79 x80 x81 x82 x83 x84 x85 x86 x87 x88 x89 x90 x91 x92 x93 x94 x95 x96 x97 x98 x99 x100 x101 x102 x103 x104 x105 x106 x107 x108 x109 x110 x111 x112 x113 x114 x115 x116 x117 x118 x119 x120 x121 x122 x123 x124 x125 x126 x127 x128 x129 x130 x131 x132 x133 x134 x135 x136 x137 x138 x139 x140 x141 x142 x143 x144 x145 x146 x147 x148 x149 x150 x151 x152 x153 x154 x155 x156 x157 x158 x159 x160 x161 x162 x163 x164 x165 x166 x167 x168 x169 x170 x171 x172 x173 x174 x175 x176 x177 x178 x179 x180 x181 x182 x183 x184 x185 x186 x187 x188 x189 x190 x191 x192 x193 x194 x195 x196 x197 x198 x199 x200 x201 x202 x203 x204 x205 x206 x207 x208 x209 x210 x211 x212 x213 x214 x215 x216 x217 x218 x219 x220 x221 x222 x223 x224 x225 x226 x227 x228 x229 x230 x231 x232 x233 x234 x235 x236 x237 x238 x239 x240 x241 x242 x243 x244 x245 x246 x247 x248 x249 x250 x251 x252 x253 x254 x255 x256 x257 x258 x259 x260 x261 x262 x263 x264 x265 x266 x267 x268 x269 x270 x271 x272 x273 x274 x275 x276 x277 x278 x279 x280 x281 x282 x283 x284 x285 x286 x287 x288 x289 x290 x291 x292 x293 x294 x295 x296 x297 x298 x299 x300 x301 x302 x303 x304 x305 x306 x307 x308 x309 x310 x311 x312 x313 x314 x315 x316 x317 x318 x319 x320 x321 x322 x323 x324 x325 x326 x327 x328 x329 x330 x331 x332 x333 x334 x335 x336 x337 x338 x339 x340 x341 x342 x343 x344 x345 x346 x347 x348 x349 x350 x351 x352 x353 x354 x355 x356 x357 x358 x359 x360 x361 x362 x363 x364 x365 x366 x367 x368 x369 x370 x371 x372 x373 x374 x375 x376 x377 x378 x379 x380 x381 x382 x383 x384 x385 x386 x387 x388 x389 x390 x391 x392 x393 x394 x395 x396 x397 x398 x399 x400 x401 x402 x403 x404 x405 x406 x407 x408 x409 x410 x411 x412 x413 x414 x415 x416 x417 x418 x419 x420 x421 x422 x423 x424 x425 x426 x427 x428 : Value) (w wc : World) (N k : Nat) (tt : Nat → Option Nat) (rs : List (Int × Nat)) (a1 : Option Addr) (n1 c1 : Nat) (hd sp : Nat → Int)
    (S : ST w N k tt rs wc) (hin : InR w a1 n1 hd sp) (h1c : n1 ≤ c1) (hrl : rs.length ≤ n1 ∧ (0 < rs.length → 0 < k) ∧ ∀ i, i < rs.length → rs[i]! = (sp i, (hd i).toNat % k)) :
    Code.wp Yba.prog c (bodyPost Yba.prog Yba.f5 fun e w' => e = .returned (.bool true) ∧ Below w.heap.size w w') ⟨#[x0, .slice a1 n1 c1, x2, x3, x4, x5, x6, .int .i64 (k : Int), x8, x9, .slice (some ⟨N, 0, none⟩) k k, x11, x12, x13, x14, x15, .pointer (some ⟨N + 5 + k, 0, none⟩), x17, x18, x19, x20, x21, x22, x23, x24, x25, x26, x27, x28, x29, x30, x31, x32, x33, x34, x35, x36, x37, x38, x39, x40, x41, x42, x43, x44, x45, x46, x47, x48, x49, x50, x51, x52, x53, x54, x55, x56, x57, x58, x59, x60, x61, x62, x63, x64, x65, x66, x67, x68, x69, x70, x71, x72, x73, x74, x75, x76, x77, x78, x79, x80, x81, x82, x83, x84, x85, x86, x87, x88, x89, x90, x91, x92, x93, x94, x95, x96, x97, x98, x99, x100, x101, x102, x103, x104, x105, x106, x107, x108, x109, x110, x111, x112, x113, x114, x115, x116, x117, x118, x119, x120, x121, x122, x123, x124, x125, x126, x127, x128, x129, x130, x131, x132, x133, x134, x135, x136, x137, x138, x139, x140, x141, x142, x143, x144, x145, x146, x147, x148, x149, x150, x151, x152, x153, x154, x155, x156, x157, x158, x159, x160, x161, x162, x163, x164, x165, x166, x167, x168, x169, x170, x171, x172, x173, x174, x175, x176, x177, x178, x179, x180, x181, x182, x183, x184, x185, x186, x187, x188, x189, x190, x191, x192, x193, x194, x195, x196, x197, x198, x199, x200, x201, x202, x203, x204, x205, x206, x207, x208, x209, x210, x211, x212, x213, x214, x215, x216, x217, x218, x219, x220, x221, x222, x223, x224, x225, x226, x227, x228, x229, x230, x231, x232, x233, x234, x235, x236, x237, x238, x239, x240, x241, x242, x243, x244, x245, x246, x247, x248, x249, x250, x251, x252, x253, x254, x255, x256, x257, x258, x259, x260, x261, x262, x263, x264, x265, x266, x267, x268, x269, x270, x271, x272, x273, x274, x275, x276, x277, x278, x279, x280, x281, x282, x283, x284, x285, x286, x287, x288, x289, x290, x291, x292, x293, x294, x295, x296, x297, x298, x299, x300, x301, x302, x303, x304, x305, x306, x307, x308, x309, x310, x311, x312, x313, x314, x315, x316, x317, x318, x319, x320, x321, x322, x323, x324, x325, x326, x327, x328, x329, x330, x331, x332, x333, x334, x335, x336, x337, x338, x339, x340, x341, x342, x343, x344, x345, x346, x347, x348, x349, x350, x351, x352, x353, x354, x355, x356, x357, x358, x359, x360, x361, x362, x363, x364, x365, x366, x367, x368, x369, x370, x371, x372, x373, x374, x375, x376, x377, x378, x379, x380, x381, x382, x383, x384, x385, x386, x387, x388, x389, x390, x391, x392, x393, x394, x395, x396, x397, x398, x399, x400, x401, x402, x403, x404, x405, x406, x407, x408, x409, x410, x411, x412, x413, x414, x415, x416, x417, x418, x419, x420, x421, x422, x423, x424, x425, x426, x427, x428], []⟩ wc := by
  conv at hc => lhs; whnf
  injection hc with hc
  subst hc
  obtain ⟨vr, p3, hR⟩ := S.rl
  have S' : Hid _ := S
  have hrs := S.rs4
  have hk3 := S.k300
  clear S
  obtain ⟨nr, hnr, HNR⟩ : ∃ n, n ≤ 4096 ∧ Hid (n = rs.length) := ⟨_, hrs, rfl⟩
  obtain ⟨vra, vrc, rfl⟩ : ∃ a c, vr = .slice a nr c := by
    have hnr := HNR.out
    rcases hR with ⟨h1, rfl⟩ | ⟨g, cap, rfl, _⟩
    · rw [hnr, h1]; exact ⟨_, _, rfl⟩
    · rw [hnr]; exact ⟨_, _, rfl⟩
  have HR : Hid _ := hR
  have HIN : Hid _ := hin
  have HRS : Hid _ := hrl
  clear hR hrs hin hrl
  have hn44 := neq44
  go_wp2_with fail
  go_loopg [36, 37, 382] nr (fun g v36 v37 vi wr => ∃ i : Nat, vi = .int .i64 i ∧ i ≤ nr ∧ nr - i ≤ g ∧ Hid (wc.grownBy wr none))
  case atStart => exact ⟨0, rfl, by omega, by omega, grefl _ _⟩
  case round =>
    obtain ⟨i, rfl, hi, hgi, HG⟩ := hrel
    by_cases hlt : i < nr
    · have hz : (i : Int) < (nr : Int) := by omega
      obtain ⟨g, cap, e1, e2, e3⟩ : ∃ g cap, Value.slice vra nr vrc = .slice (some ⟨g, 0, none⟩) nr cap ∧ nr ≤ cap ∧ ∀ p, p < nr → ∃ R Q, wc.cell? ⟨g, p, none⟩ = some (.pointer (some ⟨R, 0, none⟩)) ∧ wc.cell? ⟨R, 3, none⟩ = some (.pointer (some ⟨N + 1 + (rs[p]!).2, 0, none⟩)) ∧
          wc.cell? ⟨R, 4, none⟩ = some (.slice (some ⟨Q, 0, none⟩) 1 1) ∧ wc.cell? ⟨Q, 0, none⟩ = some (.int .i32 (rs[p]!).1) := by
        have hnr := HNR.out
        rcases HR.out with ⟨h1, _⟩ | ⟨g, cap, h1, h2, h3⟩
        · rw [h1] at hnr; simp at hnr; omega
        · exact ⟨g, cap, by rw [h1, hnr], by omega, fun p hp => h3 p (by omega)⟩
      obtain ⟨rfl, rfl⟩ : vra = some ⟨g, 0, none⟩ ∧ vrc = cap := ⟨(Value.slice.inj e1).1, (Value.slice.inj e1).2.2⟩
      clear e1
      obtain ⟨R, Q, q1, q2, q3, q4⟩ := e3 i hlt
      have hrs := HRS.out
      have hk0 : 0 < k := hrs.2.1 (by have := HNR.out; omega)
      rw [hrs.2.2 i (by have := HNR.out; omega)] at q2 q4
      have hin1 : i < n1 := by have := HNR.out; omega
      obtain ⟨x, rfl, hx⟩ := HIN.out.2 (by omega)
      obtain ⟨x1, x2⟩ := hx i hin1
      obtain ⟨⟨hb1, hb2⟩, hb3, hb4⟩ := HIN.out.1 i hin1
      obtain ⟨h, HH, hh1, hh2⟩ : ∃ h : Nat, Hid (h = (hd i).toNat % k) ∧ (hd i) % (k : Int) = (h : Int) ∧ h < k := ⟨_, rfl, by rw [Int.natCast_emod]; congr 1; omega, Nat.mod_lt _ hk0⟩
      rw [← HH.out] at q2
      have hh3 : (hd i).tmod (k : Int) = (h : Int) := by rw [Int.tmod_eq_emod_of_nonneg hb1]; exact hh1
      have bel := (S'.out.kept HG.out).bel
      have hNw := S'.out.hN
      have y1 := (bel.cell (p := x.add (i * 2)) (by rw [hNw]; exact World.block_lt_of_cell? _ _ x1)).trans x1
      have y2 := (bel.cell (p := (x.add (i * 2)).add 1) (by rw [hNw]; exact World.block_lt_of_cell? _ _ x2)).trans x2
      replace y2 : wr.cell? ⟨(x.add (i * 2)).block, (x.add (i * 2)).off + 1, none⟩ = some (.int .i32 (sp i)) := y2
      replace q1 := gcell HG.out q1
      replace q2 := gcell HG.out q2
      replace q3 := gcell HG.out q3
      replace q4 := gcell HG.out q4
      have q5 := (S'.out.kept HG.out).sc h hh2
      have z1 : (h : Int) < (k : Int) := by omega
      have z2 : (i : Int) < (n1 : Int) := by omega
      have z3 : ¬ (k : Int) = 0 := by omega
      have v1 : IntKind.i64.wrap (hd i) = hd i := by rw [IntKind.wrap_i64]; omega
      have v2 : IntKind.i64.wrap (h : Int) = h := by rw [IntKind.wrap_i64]; omega
      obtain ⟨hdi, hhdi⟩ : ∃ z, z = hd i := ⟨_, rfl⟩
      obtain ⟨spi, hspi⟩ : ∃ z, z = sp i := ⟨_, rfl⟩
      rw [← hhdi] at y1 hh1 hh3 v1 hb1 hb2
      simp only [← hspi] at y2 q4
      clear hrs hx x1 x2 bel hNw hhdi hspi e3 hb3 hb4
      go_upto_region 89 with fail
      go_quiet (fail)
      generalize hw2 : World.drewN _ nq = w2
      have HG2 : Hid (wc.grownBy w2 none) := by rw [← hw2]; exact HG.out.trans (gdrewN _ _ _)
      clear hw2
      go_wp2
      go_roundg (nr - (i + 1))
      case measure => omega
      case rel => exact ⟨i + 1, by go_num, by omega, Nat.le_refl _, HG2⟩
    · have hz : ¬ (i : Int) < (nr : Int) := by omega
      go_wp2
      go_ret
      exact ⟨rfl, by have h := (S'.out.kept HG.out).bel; rw [S'.out.hN] at h; exact h⟩
end Go.Proofs.Ybulkecac
