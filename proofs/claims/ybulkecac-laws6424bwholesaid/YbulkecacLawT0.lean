import Derived.Test.YbulkecacLawT1
import Derived.Deep.RegionLaw
namespace Go.Proofs.Ybulkecac
open Go.RowKit Go.Sort Go.Shelf
set_option linter.unusedSimpArgs false
set_option linter.unusedVariables false

/-- the rules that have been laid -/
structure RL (k : Nat) (hd sp : Nat → Int) (i : Nat) (rs ml : List (Int × Nat)) : Prop where
  len : rs.length = i
  at_ : ∀ j, j < i → rs[j]! = (sp j, (hd j).toNat % k)
  ml : ml = rs.map fun p => (max p.1 (-1), p.2)
  kp : 0 < i → 0 < k

theorem RL.add {k : Nat} {hd sp : Nat → Int} {i : Nat} {rs ml : List (Int × Nat)} (h : RL k hd sp i rs ml) (hk : 0 < k) : RL k hd sp (i + 1) (rs ++ [(sp i, (hd i).toNat % k)]) (ml ++ [(max (sp i) (-1), (hd i).toNat % k)]) := by
  refine ⟨by simp [h.len], fun j hj => ?_, by rw [h.ml]; simp, fun _ => hk⟩
  by_cases e : j < i
  · rw [getElem!_pos _ j (by simp [h.len]; omega), List.getElem_append_left (by rw [h.len]; exact e)]
    have := h.at_ j e
    rw [getElem!_pos rs j (by rw [h.len]; exact e)] at this
    exact this
  · obtain rfl : j = i := by omega
    rw [getElem!_pos _ j (by simp [h.len])]
    simp [← h.len]

/-- one rule more -/
theorem RuS.add {N F : Nat} {tg tg' : Nat → Nat} {vr vr' : Value} {rs : List (Int × Nat)} {ps : List Value} {W W' : World} (hp : Rw tg 1 F 78 1 vr rs.length ps W)
    (hq : ∀ p, p < rs.length → ∃ R Q, ps[p]? = some (.pointer (some ⟨R, 0, none⟩)) ∧ Stc tg 0 F W ⟨R, 3, none⟩ (.pointer (some ⟨N + 1 + (rs[p]!).2, 0, none⟩)) ∧ Stc tg 0 F W ⟨R, 4, none⟩ (.slice (some ⟨Q, 0, none⟩) 1 1) ∧ Stc tg 0 F W ⟨Q, 0, none⟩ (.int .i32 (rs[p]!).1))
    (s : Stp F tg tg' 1 W W') {R Q : Nat} {x : Int} {hh : Nat}
    (hr : Rw tg' 1 F 78 1 vr' (rs.length + 1) (ps ++ [.pointer (some ⟨R, 0, none⟩)]) W')
    (a2 : Stc tg' 0 F W' ⟨R, 3, none⟩ (.pointer (some ⟨N + 1 + hh, 0, none⟩))) (a3 : Stc tg' 0 F W' ⟨R, 4, none⟩ (.slice (some ⟨Q, 0, none⟩) 1 1)) (a4 : Stc tg' 0 F W' ⟨Q, 0, none⟩ (.int .i32 x)) : RuS tg' N F vr' (rs ++ [(x, hh)]) W' := by
  have hpl : ps.length = rs.length := by have := hp.1.1; omega
  refine ⟨ps ++ [.pointer (some ⟨R, 0, none⟩)], by rw [List.length_append]; exact hr, fun p hlt => ?_⟩
  by_cases e : p < rs.length
  · obtain ⟨R', Q', b1, b2, b3, b4⟩ := hq p e
    have he : (rs ++ [(x, hh)])[p]! = rs[p]! := by rw [getElem!_pos _ p (by simp; omega), getElem!_pos rs p e, List.getElem_append_left e]
    rw [he]
    exact ⟨R', Q', by rw [List.getElem?_append_left (by omega)]; exact b1, b2.stp s (by omega), b3.stp s (by omega), b4.stp s (by omega)⟩
  · obtain rfl : p = rs.length := by simp at hlt; omega
    have he : (rs ++ [(x, hh)])[rs.length]! = (x, hh) := by rw [getElem!_pos _ _ (by simp)]; simp
    rw [he]
    exact ⟨R, Q, by rw [List.getElem?_append_right (by omega), hpl]; simp, a2, a3, a4⟩

/-- the tags behind a rule: the slots' block and the rule's stand; one block of garbage; perhaps a new row -/
def tgR (tg : Nat → Nat) (H : Nat) : Nat → Nat := fun b => if b < H then tg b else if b = H ∨ b = H + 1 then 0 else if b = H + 3 then 1 else 9
theorem tgR_0 (tg : Nat → Nat) (H : Nat) : tgR tg H H = 0 := by unfold tgR; rw [if_neg (by omega), if_pos (Or.inl rfl)]
theorem tgR_1 (tg : Nat → Nat) (H : Nat) : tgR tg H (H + 1) = 0 := by unfold tgR; rw [if_neg (by omega), if_pos (Or.inr rfl)]
theorem tgR_3 (tg : Nat → Nat) (H : Nat) : tgR tg H (H + 3) = 1 := by unfold tgR; rw [if_neg (by omega), if_neg (by omega), if_pos rfl]
theorem tgR_old {tg : Nat → Nat} {H b : Nat} (h : b < H) : tgR tg H b = tg b := if_pos h

set_option maxHeartbeats 16000000 in
set_option maxRecDepth 1000000 in
theorem lawT0 (c : Code) (hc : Yba.f5.body.bind (dropTo 31) = some c) (x0 x3 x4 x5 x6 x8 x9 x11 x13 x14 x17 x18 x19 x20 x21 x22 x23 x24 x25 x26 x27 x28 x29 x30 x31 x32 x33 x34 x35 x36 x37 x38 x39 x40 x41 x42 x43 x44 x45 x46 x47 x48 x49 x50 x51 x52 x53 x54 x55 x56 x57 x58 x59 x60 x61 x62 x63 x64 x65 x66 x67 x68 x69 x70 x71 x72 x73 x74 x75 x76 x77 x78 x79 x80 x81 x82 x83 x84 x85 x86 x87 x88 x89 x90 x91 x92 x93 x94 x95 x96 x97 x98 x99 x100 x101 x102 x103 x104 x105 x106 x107 x108 x109 x110 x111 x112 x113 x114 x115 x116 x117 x118 x119 x120 x121 x122 x123 x124 x125 x126 x127 x128 x129 x130 x131 x132 x133 x134 x135 x136 x137 x138 x139 x140 x141 x142 x143 x144 x145 x146 x147 x148 x149 x150 x151 x152 x153 x154 x155 x156 x157 x158 x159 x160 x161 x162 x163 x164 x165 x166 x167 x168 x169 x170 x171 x172 x173 x174 x175 x176 x177 x178 x179 x180 x181 x182 x183 x184 x185 x186 x187 x188 x189 x190 x191 x192 x193 x194 x195 x196 x197 x198 x199 x200 x201 x202 x203 x204 x205 x206 x207 x208 x209 x210 x211 x212 x213 x214 x215 x216 x217 x218 x219 x220 x221 x222 x223 x224 x225 x226 x227 x228 x229 x230 x231 x232 x233 x234 x235 x236 x237 x238 x239 x240 x241 x242 x243 x244 x245 x246 x247 x248 x249 x250 x251 x252 x253 x254 x255 x256 x257 x258 x259 x260 x261 x262 x263 x264 x265 x266 x267 x268 x269 x270 x271 x272 x273 x274 x275 x276 x277 x278 x279 x280 x281 x282 x283 x284 x285 x286 x287 x288 x289 x290 x291 x292 x293 x294 x295 x296 x297 x298 x299 x300 x301 x302 x303 x304 x305 x306 x307 x308 x309 x310 x311 x312 x313 x314 x315 x316 x317 x318 x319 x320 x321 x322 x323 x324 x325 x326 x327 x328 x329 x330 x331 x332 x333 x334 x335 x336 x337 x338 x339 x340 x341 x342 x343 x344 x345 x346 x347 x348 x349 x350 x351 x352 x353 x354 x355 x356 x357 x358 x359 x360 x361 x362 x363 x364 x365 x366 x367 x368 x369 x370 x371 x372 x373 x374 x375 x376 x377 x378 x379 x380 x381 x382 x383 x384 x385 x386 x387 x388 x389 x390 x391 x392 x393 x394 x395 x396 x397 x398 x399 x400 x401 x402 x403 x404 x405 x406 x407 x408 x409 x410 x411 x412 x413 x414 x415 x416 x417 x418 x419 x420 x421 x422 x423 x424 x425 x426 x427 x428 : Value) (w wc : World) (N k : Nat) (tt : Nat → Option Nat) (a1 : Option Addr) (n1 c1 : Nat) (hd sp : Nat → Int) (a2 : Option Addr) (n2 c2 : Nat) (bh bf : Nat → Bool) (br : Nat → Int) (pa : Nat → Option Addr) (pn pc : Nat → Nat) (pv : Nat → Nat → Int) (tg : Nat → Nat)
    (B0 : Bl w N k tt tg none (.slice none 0 0) (.slice none 0 0) (.slice none 0 0) (.slice none 0 0) [] [] 0 [] (fun _ => .none) wc) (hin : InR w a1 n1 hd sp) (h1c : n1 ≤ c1) (hn1 : n1 ≤ 4096) (hib : InB w a2 n2 bh bf br pa pn pc pv) (h2c : n2 ≤ c2) (hps : ∀ i, i ≤ n2 → i ≤ k → psum pn i ≤ 4096) :
    Code.wp Yba.prog c (bodyPost Yba.prog Yba.f5 fun e w' => e = .returned (.bool true) ∧ Below w.heap.size w w') ⟨#[x0, .slice a1 n1 c1, .slice a2 n2 c2, x3, x4, x5, x6, .int .i64 (k : Int), x8, x9, .slice (some ⟨N, 0, none⟩) k k, x11, .slice (some ⟨N + 1 + k, 0, none⟩) k k, x13, x14, .pointer (some ⟨N + 3 + k, 0, none⟩), .pointer (some ⟨N + 5 + k, 0, none⟩), x17, x18, x19, x20, x21, x22, x23, x24, x25, x26, x27, x28, x29, x30, x31, x32, x33, x34, x35, x36, x37, x38, x39, x40, x41, x42, x43, x44, x45, x46, x47, x48, x49, x50, x51, x52, x53, x54, x55, x56, x57, x58, x59, x60, x61, x62, x63, x64, x65, x66, x67, x68, x69, x70, x71, x72, x73, x74, x75, x76, x77, x78, x79, x80, x81, x82, x83, x84, x85, x86, x87, x88, x89, x90, x91, x92, x93, x94, x95, x96, x97, x98, x99, x100, x101, x102, x103, x104, x105, x106, x107, x108, x109, x110, x111, x112, x113, x114, x115, x116, x117, x118, x119, x120, x121, x122, x123, x124, x125, x126, x127, x128, x129, x130, x131, x132, x133, x134, x135, x136, x137, x138, x139, x140, x141, x142, x143, x144, x145, x146, x147, x148, x149, x150, x151, x152, x153, x154, x155, x156, x157, x158, x159, x160, x161, x162, x163, x164, x165, x166, x167, x168, x169, x170, x171, x172, x173, x174, x175, x176, x177, x178, x179, x180, x181, x182, x183, x184, x185, x186, x187, x188, x189, x190, x191, x192, x193, x194, x195, x196, x197, x198, x199, x200, x201, x202, x203, x204, x205, x206, x207, x208, x209, x210, x211, x212, x213, x214, x215, x216, x217, x218, x219, x220, x221, x222, x223, x224, x225, x226, x227, x228, x229, x230, x231, x232, x233, x234, x235, x236, x237, x238, x239, x240, x241, x242, x243, x244, x245, x246, x247, x248, x249, x250, x251, x252, x253, x254, x255, x256, x257, x258, x259, x260, x261, x262, x263, x264, x265, x266, x267, x268, x269, x270, x271, x272, x273, x274, x275, x276, x277, x278, x279, x280, x281, x282, x283, x284, x285, x286, x287, x288, x289, x290, x291, x292, x293, x294, x295, x296, x297, x298, x299, x300, x301, x302, x303, x304, x305, x306, x307, x308, x309, x310, x311, x312, x313, x314, x315, x316, x317, x318, x319, x320, x321, x322, x323, x324, x325, x326, x327, x328, x329, x330, x331, x332, x333, x334, x335, x336, x337, x338, x339, x340, x341, x342, x343, x344, x345, x346, x347, x348, x349, x350, x351, x352, x353, x354, x355, x356, x357, x358, x359, x360, x361, x362, x363, x364, x365, x366, x367, x368, x369, x370, x371, x372, x373, x374, x375, x376, x377, x378, x379, x380, x381, x382, x383, x384, x385, x386, x387, x388, x389, x390, x391, x392, x393, x394, x395, x396, x397, x398, x399, x400, x401, x402, x403, x404, x405, x406, x407, x408, x409, x410, x411, x412, x413, x414, x415, x416, x417, x418, x419, x420, x421, x422, x423, x424, x425, x426, x427, x428], []⟩ wc := by
  conv at hc => lhs; whnf
  injection hc with hc
  subst hc
  have hk3 := B0.bd.k300
  have B0' : Hid _ := B0
  have HIN : Hid _ := hin
  have HIB : Hid _ := hib
  have HPS : Hid _ := hps
  clear B0 hin hib hps
  go_upto_if 144 with fail
  go_cut [18, 20, 21, 22] from 144 to 185 (fun v18 v20 v21 v22 wx => ∃ (tg : Nat → Nat) (vr : Value) (rs ml : List (Int × Nat)) (i : Nat), i ≤ n1 ∧ Hid (Bl w N k tt tg none vr v18 (.slice none 0 0) (.slice none 0 0) rs ml 0 [] (fun _ => .none) wx) ∧ Hid (RL k hd sp i rs ml))
  case first =>
    rcases Nat.eq_zero_or_pos k with hk0 | hk0
    · have zk : ¬ (0 : Int) < (k : Int) := by omega
      have zk2 : decide ((k : Int) > 0) = false := decide_eq_false (by omega)
      clear hk0
      go_wp2_with fail
      go_meet
      case rel => exact ⟨tg, _, [], [], 0, by omega, B0', ⟨rfl, fun j hj => by omega, rfl, fun h => by omega⟩⟩
    · have zk : (0 : Int) < (k : Int) := by omega
      have zk2 : decide ((k : Int) > 0) = true := decide_eq_true (by omega)
      have zk3 : decide (0 < k) = true := decide_eq_true hk0
      go_wp2_with fail
      simp only [zk3]
      go_loopg [18, 20, 21, 22, 147] n1 (fun g v18 v20 v21 v22 vi wr => ∃ (tg : Nat → Nat) (vr : Value) (rs ml : List (Int × Nat)) (i : Nat), vi = .int .i64 i ∧ i ≤ n1 ∧ n1 - i ≤ g ∧ rs.length = i ∧ ml.length = i ∧ Hid (Bl w N k tt tg none vr v18 (.slice none 0 0) (.slice none 0 0) rs ml 0 [] (fun _ => .none) wr) ∧ Hid (RL k hd sp i rs ml))
      case atStart => exact ⟨tg, _, [], [], 0, rfl, by omega, by omega, rfl, rfl, B0', ⟨rfl, fun j hj => by omega, rfl, fun h => by omega⟩⟩
      case round =>
        clear B0'
        obtain ⟨tg, vr, rs, ml, i, rfl, hi, hgi, hrl, hmll, B1, L1⟩ := hrel
        by_cases hlt : i < n1
        · have hz : (i : Int) < (n1 : Int) := by omega
          obtain ⟨x, rfl, hx⟩ := HIN.out.2 (by omega)
          obtain ⟨x0, x1⟩ := hx i hlt
          obtain ⟨⟨hb1, hb2⟩, hb3, hb4⟩ := HIN.out.1 i hlt
          have hNw := B1.out.bd.hN
          have bel := B1.out.bd.bel
          have y0 := (bel.cell (p := x.add (i * 2)) (by rw [hNw]; exact World.block_lt_of_cell? _ _ x0)).trans x0
          have y1 : wr.cell? ⟨(x.add (i * 2)).block, (x.add (i * 2)).off + 1, none⟩ = some (.int .i32 (sp i)) := (bel.cell (p := (x.add (i * 2)).add 1) (by rw [hNw]; exact World.block_lt_of_cell? _ _ x1)).trans x1
          obtain ⟨hdi, hhdi⟩ : ∃ z, z = hd i := ⟨_, rfl⟩
          obtain ⟨spi, hspi⟩ : ∃ z, z = sp i := ⟨_, rfl⟩
          rw [← hhdi] at y0 hb1 hb2
          rw [← hspi] at y1 hb3 hb4
          obtain ⟨hh, HH, hh1, hh2⟩ : ∃ h : Nat, Hid (h = (hd i).toNat % k) ∧ hdi % (k : Int) = (h : Int) ∧ h < k := ⟨_, rfl, by rw [Int.natCast_emod, hhdi]; congr 1; omega, Nat.mod_lt _ hk0⟩
          have hh3 : hdi.tmod (k : Int) = (hh : Int) := by rw [Int.tmod_eq_emod_of_nonneg hb1]; exact hh1
          have HSP : Hid (spi = sp i) := hspi
          have z3 : ¬ (k : Int) = 0 := by omega
          have v1 : IntKind.i64.wrap hdi = hdi := by rw [IntKind.wrap_i64]; omega
          have v2 : IntKind.i64.wrap (hh : Int) = hh := by rw [IntKind.wrap_i64]; omega
          have q1 := B1.out.bd.sc hh hh2
          clear hx x0 x1 bel hhdi hspi
          go_upto_if 159 with fail
          generalize hwA : wr.alloc _ = wA
          have hgA : wr.grownBy wA none := by rw [← hwA]; exact World.grownBy_alloc _ _ _
          obtain ⟨rb, hrb⟩ : ∃ b, b = wr.heap.size := ⟨_, rfl⟩
          rw [← hrb]
          have r1 : wA.cell? ⟨rb, 1, none⟩ = some (.int .i32 spi) := by rw [← hwA, hrb]; simp
          have B2 : Hid (Bl w N k tt (tgN tg wr.heap.size 7) none vr u18 (.slice none 0 0) (.slice none 0 0) rs ml 0 [] (fun _ => .none) wA) := B1.out.stp (Stp.new 7 5 hgA) (by omega)
          have R1c : Hid (Stc (tgN tg wr.heap.size 7) 7 (N + 6 + k) wA ⟨rb, 1, none⟩ (.int .i32 spi)) := ⟨r1, by have := B1.out.bd.big; show N + 6 + k ≤ rb; omega, tgN_new (by show wr.heap.size ≤ rb; omega)⟩
          generalize tgN tg wr.heap.size 7 = tg2 at B2 R1c
          clear hwA hgA hrb y0 y1 B1 q1 hNw
          go_cut [22] from 158 to 159 (fun v22 wx => v22 = .int .i32 (max spi (-1)) ∧ wx = wA)
          case first =>
            by_cases hc : spi < -1
            · have hm : Hid (max spi (-1) = -1) := by show _ = _; omega
              go_wp2_with fail
              go_meet
              case rel => exact ⟨by rw [hm.out], rfl⟩
            · have hm : Hid (max spi (-1) = spi) := by show _ = _; omega
              go_wp2_with fail
              go_meet
              case rel => exact ⟨by rw [hm.out], rfl⟩
          case rest =>
            obtain ⟨rfl, rfl⟩ := hcut
            have q1 := B2.out.bd.sc hh hh2
            have q3 := B2.out.r3
            have f3 := B2.out.bd.frz (N + 5 + k) 3 (by omega) (by omega)
            have hbg := B2.out.bd.big
            have neR : ∀ ps, Rw tg2 1 (N + 6 + k) 78 1 vr rs.length ps wc → some (N + 5 + k) ≠ vr.ownBlock := fun ps h => h.ne (by omega)
            obtain ⟨ps0, hps0, hqs0⟩ := B2.out.rr
            have HQS0 : Hid _ := hqs0
            clear hqs0
            have HPS0 : Hid _ := hps0
            have neV := neR ps0 hps0
            have neB : some rb ≠ vr.ownBlock := hps0.ne' (by have := R1c.out.2.2; simp only at this; omega)
            have neN : some N ≠ vr.ownBlock := hps0.ne (by omega)
            clear neR hps0
            obtain ⟨O1, hO1⟩ : ∃ o : Obj, o = .cells #[.int .i32 spi] 21 := ⟨_, rfl⟩
            obtain ⟨O2, hO2⟩ : ∃ o : Obj, o = .cells #[.string ⟨#[]⟩, .int .i32 0, .slice none 0 0, .pointer (some ⟨N + 1 + hh, 0, none⟩), .slice (some ⟨wc.heap.size, 0, none⟩) 1 1, .slice none 0 0, .int .i64 0, .slice none 0 0, .slice none 0 0, .slice none 0 0, .int .i64 0] 85 := ⟨_, rfl⟩
            obtain ⟨O3, hO3⟩ : ∃ o : Obj, o = .cells #[.pointer (some ⟨wc.heap.size + 1, 0, none⟩)] 78 := ⟨_, rfl⟩
            have r1 := R1c.out.1
            have g1 := World.grownBy_alloc wc O1 none
            have g2 := g1.trans (World.grownBy_alloc _ O2 none)
            have g3 := g2.trans (World.grownBy_alloc _ O3 none)
            have k1 := gcell g1 q3
            have k2 := gcell g2 q3
            have k3 := gcell g3 q3
            have KF : Hid ((((wc.alloc O1).alloc O2).alloc O3).drew.frozen? ⟨N + 5 + k, 3, none⟩ = false) := (World.frozen?_of_block (g3.block (N + 5 + k) (by omega) (by simp))).trans f3
            have K3 : Hid _ := k3
            have M1 := gcell g1 q1
            have M2 := gcell g2 q1
            have M3 := gcell g3 q1
            have N1 := gcell g1 r1
            have N2 := gcell g2 r1
            have N3 := gcell g3 r1
            have HG3 : Hid _ := g3
            have ow3 : Hid ((((wc.alloc O1).alloc O2).alloc O3).drew.ownsRow (N + 6 + k) 78 1 vr rs.length ps0) := HPS0.out.1.kept (g3.trans (gdrew _ none)) (by cases vr.ownBlock <;> simp)
            have hsW : (wc.alloc O1).heap.size = wc.heap.size + 1 := by simp
            have KQ : Hid ((((wc.alloc O1).alloc O2).alloc O3).drew.cell? ⟨wc.heap.size, 0, none⟩ = some (.int .i32 spi)) := gcell (((World.grownBy_alloc (wc.alloc O1) O2 none).trans (World.grownBy_alloc _ O3 none)).trans (gdrew _ none)) (by rw [hO1]; simp)
            have hn2 := heap_alloc_new (wc.alloc O1) O2
            rw [hsW] at hn2
            have KR3 : Hid ((((wc.alloc O1).alloc O2).alloc O3).drew.cell? ⟨wc.heap.size + 1, 3, none⟩ = some (.pointer (some ⟨N + 1 + hh, 0, none⟩))) := gcell ((World.grownBy_alloc ((wc.alloc O1).alloc O2) O3 none).trans (gdrew _ none)) (by simp only [World.cell?, hn2]; rw [hO2]; rfl)
            have KR4 : Hid ((((wc.alloc O1).alloc O2).alloc O3).drew.cell? ⟨wc.heap.size + 1, 4, none⟩ = some (.slice (some ⟨wc.heap.size, 0, none⟩) 1 1)) := gcell ((World.grownBy_alloc ((wc.alloc O1).alloc O2) O3 none).trans (gdrew _ none)) (by simp only [World.cell?, hn2]; rw [hO2]; rfl)
            have neQ : some wc.heap.size ≠ vr.ownBlock := fun e => by have := (HPS0.out.1.lt _ e.symm).2; omega
            have neR1 : some (wc.heap.size + 1) ≠ vr.ownBlock := fun e => by have := (HPS0.out.1.lt _ e.symm).2; omega
            clear hn2 hsW
            rw [hO1, hO2, hO3] at ow3 KF K3 HG3 KQ KR3 KR4
            rw [hO1] at k1 M1 N1
            rw [hO1, hO2] at k2 M2 N2
            rw [hO1, hO2, hO3] at k3 M3 N3
            have KB : Hid ((((wc.alloc O1).alloc O2).alloc O3).drew.heap[wc.heap.size + 2]? = some O3) := by
              have h := heap_alloc_new ((wc.alloc O1).alloc O2) O3
              rw [show ((wc.alloc O1).alloc O2).heap.size = wc.heap.size + 2 by simp] at h
              exact h
            rw [hO1, hO2, hO3] at KB
            clear g1 g2 g3 hO1 hO2 hO3 O1 O2 O3
            go_upto_region 40 with fail
            go_cut [] from 160 to 178 (fun wx => ∃ (tg3 : Nat → Nat) (vr3 : Value), Hid (Bl w N k tt tg3 none vr3 u18 (.slice none 0 0) (.slice none 0 0) (rs ++ [(spi, hh)]) ml 0 [] (fun _ => .none) wx))
            case first =>
              go_region_law ((refine stepA A78 (by rfl) _ _ (by rfl) (N + 6 + k) _ _ _ (by rfl) ow3.out (wc.heap.size + 2) #[.pointer (some ⟨wc.heap.size + 1, 0, none⟩)] (by rfl) KB.out rfl (by simp [Value.oneCell']) (by omega) (by simp; omega) (wc.heap.size + 3) (by simp) ?_; intro gg cc w1 hown1 hgrow hat hlt1; have c7 := hgrow.cell K3.out neV; have f7 := (World.frozen?_of_block (hgrow.block (N + 5 + k) (by simp; omega) neV)).trans KF.out))
              all_goals
                have s1 : Stp (N + 6 + k) tg2 (tgR tg2 wc.heap.size) 1 wc w1 := ⟨vr.ownBlock, ⟨hgrow.os, hgrow.tape, hgrow.output, Nat.le_trans (HG3.out.trans (gdrew _ none)).size hgrow.size, fun b hb hne => (hgrow.block b (Nat.lt_of_lt_of_le hb (HG3.out.trans (gdrew _ none)).size) hne).trans ((HG3.out.trans (gdrew _ none)).block b hb (by simp))⟩, fun b hb => ⟨(HPS0.out.1.lt b hb).1, HPS0.out.2 b hb⟩, fun b hb => tgR_old hb⟩
                have r1' : Rw (tgR tg2 wc.heap.size) 1 (N + 6 + k) 78 1 (.slice (some ⟨gg, 0, none⟩) (rs.length + 1) cc) (rs.length + 1) (ps0 ++ [.pointer (some ⟨wc.heap.size + 1, 0, none⟩)]) w1 := Rw.app HPS0.out hat hown1 (fun b hb => tgR_old hb) (tgR_3 _ _)
                have ru : RuS (tgR tg2 wc.heap.size) N (N + 6 + k) (.slice (some ⟨gg, 0, none⟩) (rs.length + 1) cc) (rs ++ [(spi, hh)]) w1 := RuS.add HPS0.out HQS0.out s1 r1' ⟨hgrow.cell KR3.out neR1, by show N + 6 + k ≤ wc.heap.size + 1; omega, tgR_1 _ _⟩ ⟨hgrow.cell KR4.out neR1, by show N + 6 + k ≤ wc.heap.size + 1; omega, tgR_1 _ _⟩ ⟨hgrow.cell KQ.out neQ, by show N + 6 + k ≤ wc.heap.size; omega, tgR_0 _ _⟩
                have B3 : Hid _ := B2.out.appR s1 ru
                clear s1 r1' ru c7 f7 hgrow hown1
                simp only [hrl] at B3
                go_wp2_with fail
                go_meet
                case rel => exact ⟨_, _, B3⟩
            case rest =>
              clear KB KF K3 HG3 KQ KR3 KR4 neQ neR1 ow3 k1 k2 k3 M1 M2 M3 N1 N2 N3 r1 q1 q3 f3 B2 R1c neV neB neN HPS0 HQS0 hbg
              obtain ⟨tg3, vr3, B3⟩ := hcut
              have hbg := B3.out.bd.big
              go_wp2_with (at_builtin; refine wpA A87 (by rfl) _ _ (by rfl) (N + 6 + k) _ _ _ (by rfl) (B3.out.rm.1.alloc _) wc.heap.size #[.int .i32 (max spi (-1)), .int .i64 (hh : Int)] (by rfl) (heap_alloc_new wc _) rfl (by simp [Value.oneCell']) (by omega) (by simp; omega) (wc.heap.size + 1) (by simp) ?_; intro gg cc w7 hown1 hgrow hat hlt1)
              have s7 : Stp (N + 6 + k) tg3 (tgA tg3 wc.heap.size 2) 2 wc w7 := Stp.app B3.out.rm (World.grownBy_alloc wc _ none) hgrow
              have B7 : Hid _ := B3.out.appM s7 (ml' := ml ++ [(max spi (-1), hh)]) (vm' := .slice (some ⟨gg, 0, none⟩) (ml.length + 1) cc) (by rw [encM_snoc, List.length_append]; exact B3.out.rm.grow hat hown1)
              have L7 : Hid (RL k hd sp (i + 1) (rs ++ [(spi, hh)]) (ml ++ [(max spi (-1), hh)])) := by rw [HSP.out, HH.out]; exact L1.out.add hk0
              simp only [hmll] at B7
              clear s7 hown1 hgrow hat hlt1 B3
              go_roundg (n1 - (i + 1))
              case measure => omega
              case rel => exact ⟨_, vr3, _, _, i + 1, by go_num, by omega, Nat.le_refl _, by simp; omega, by simp; omega, B7, L7⟩
        · have hz : ¬ (i : Int) < (n1 : Int) := by omega
          go_wp2_with fail
          go_meet
          case rel => exact ⟨tg, vr, rs, ml, i, hi, B1, L1⟩
  case rest =>
    clear B0'
    obtain ⟨tg, vr, rs, ml, i, hi, B1, L1⟩ := hcut
    refine ‹∀ (a : Act) (w : World), Code.wp Yba.prog _ _ a w → _› _ _ ?_
    exact lawT1 _ (by kernel_rfl) _ _ _ _ _ _ _ _ _ _ _ _ _ _ _ _ _ _ _ _ _ _ _ _ _ _ _ _ _ _ _ _ _ _ _ _ _ _ _ _ _ _ _ _ _ _ _ _ _ _ _ _ _ _ _ _ _ _ _ _ _ _ _ _ _ _ _ _ _ _ _ _ _ _ _ _ _ _ _ _ _ _ _ _ _ _ _ _ _ _ _ _ _ _ _ _ _ _ _ _ _ _ _ _ _ _ _ _ _ _ _ _ _ _ _ _ _ _ _ _ _ _ _ _ _ _ _ _ _ _ _ _ _ _ _ _ _ _ _ _ _ _ _ _ _ _ _ _ _ _ _ _ _ _ _ _ _ _ _ _ _ _ _ _ _ _ _ _ _ _ _ _ _ _ _ _ _ _ _ _ _ _ _ _ _ _ _ _ _ _ _ _ _ _ _ _ _ _ _ _ _ _ _ _ _ _ _ _ _ _ _ _ _ _ _ _ _ _ _ _ _ _ _ _ _ _ _ _ _ _ _ _ _ _ _ _ _ _ _ _ _ _ _ _ _ _ _ _ _ _ _ _ _ _ _ _ _ _ _ _ _ _ _ _ _ _ _ _ _ _ _ _ _ _ _ _ _ _ _ _ _ _ _ _ _ _ _ _ _ _ _ _ _ _ _ _ _ _ _ _ _ _ _ _ _ _ _ _ _ _ _ _ _ _ _ _ _ _ _ _ _ _ _ _ _ _ _ _ _ _ _ _ _ _ _ _ _ _ _ _ _ _ _ _ _ _ _ _ _ _ _ _ _ _ _ _ _ _ _ _ _ _ _ _ _ _ _ _ _ _ _ _ _ _ _ _ _ _ _ _ _ _ _ _ _ _ _ _ _ _ _ _ _ _ _ _ _ _ _ _ _ _ _ _ _ _ _ _ _ _ _ _ _ _ _ _ _ _ _ _ _ w _ N k tt rs a1 n1 c1 hd sp a2 n2 c2 bh bf br pa pn pc pv tg vr _ ml B1.out HIN.out h1c ⟨by rw [L1.out.len]; exact hi, fun h => L1.out.kp (by rw [← L1.out.len]; exact h), fun j hj => L1.out.at_ j (by rw [← L1.out.len]; exact hj)⟩ (by rw [L1.out.len]; omega) (fun p hp => by obtain ⟨j, hj, rfl⟩ := List.getElem_of_mem hp; have h1 := L1.out.at_ j (by rw [← L1.out.len]; exact hj); rw [getElem!_pos rs j hj] at h1; rw [h1]; exact Nat.mod_lt _ (L1.out.kp (by rw [← L1.out.len]; omega))) HIB.out h2c HPS.out (fun x h => by rw [L1.out.ml]; unfold Said; simp only [List.mem_map, Prod.mk.injEq, BB.says]; constructor; rintro ⟨p, hp, rfl, rfl⟩; exact Or.inl ⟨p.1, hp, rfl⟩; rintro (⟨s, hs, rfl⟩ | ⟨_, h2⟩); exact ⟨(s, h), hs, rfl, rfl⟩; simp at h2) (by rw [L1.out.ml, List.length_map, L1.out.len]; omega)
end Go.Proofs.Ybulkecac
