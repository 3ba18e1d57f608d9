import Derived.Test.YbulkecacLawT4
import Derived.Test.YbulkecacLawQ
namespace Go.Proofs.Ybulkecac
open Go.RowKit Go.Sort Go.Shelf
set_option linter.unusedSimpArgs false
set_option linter.unusedVariables false

/-- the want rows from j on -/
structure Wr (wT : World) (k : Nat) (V : Nat → Value) (L : Nat → List Int) (j : Nat) (W : World) : Prop where
  kept : wT.grownBy W none
  cell : ∀ i, j ≤ i → i < k → W.cell? ⟨wT.heap.size, i, none⟩ = some (V i)
  row : ∀ i, j ≤ i → i < k → W.ownsRow (wT.heap.size + 1) 21 1 (V i) (L i).length ((L i).map (Value.int .i32))
  nil : ∀ i, i < k → L i = [] → V i = .slice none 0 0
  apart : ∀ i j, i < k → j < k → i ≠ j → (V i).ownBlock = none ∨ (V i).ownBlock ≠ (V j).ownBlock
  len : ∀ i, i < k → (L i).length ≤ 1300000

theorem Wr.step {wT W W' : World} {k j : Nat} {V : Nat → Value} {L : Nat → List Int} (h : Wr wT k V L j W) (hj : j < k) (hg : W.grownBy W' (V j).ownBlock) : Wr wT k V L (j + 1) W' := by
  have hb : ∀ b, (V j).ownBlock = some b → wT.heap.size + 1 ≤ b := fun b hb => ((h.row j (Nat.le_refl _) hj).lt b hb).1
  refine ⟨h.kept.andThen hg (fun b hb' => Or.inl (by have := hb b hb'; omega)), fun i hi hik => hg.cell (h.cell i (by omega) hik) (fun e => ?_), fun i hi hik => (h.row i (by omega) hik).kept hg ?_, h.nil, h.apart, h.len⟩
  · have := hb _ e.symm; simp only at this; omega
  · exact h.apart i j hik hj (by omega)

theorem Wr.cellj {wT W W' : World} {k j : Nat} {V : Nat → Value} {L : Nat → List Int} (h : Wr wT k V L j W) (hj : j < k) (hg : W.grownBy W' (V j).ownBlock) : W'.cell? ⟨wT.heap.size, j, none⟩ = some (V j) :=
  hg.cell (h.cell j (Nat.le_refl _) hj) (fun e => by have := ((h.row j (Nat.le_refl _) hj).lt _ e.symm).1; simp only at this; omega)

theorem Wr.grown {wT W W' : World} {k j : Nat} {V : Nat → Value} {L : Nat → List Int} (h : Wr wT k V L j W) (hg : W.grownBy W' none) : Wr wT k V L j W' :=
  ⟨h.kept.trans hg, fun i hi hik => gcell hg (h.cell i hi hik), fun i hi hik => (h.row i hi hik).kept hg (by cases (V i).ownBlock <;> simp), h.nil, h.apart, h.len⟩

/-- the speakers that arrangeSpeakers has left -/
def SpT (wT : World) (N k : Nat) (Vs : Nat → Value) (Ls : Nat → List Int) : Prop :=
  ∀ j, j < k → wT.cell? ⟨N + 1 + j, 11, none⟩ = some (Vs j) ∧ CellsI wT (Vs j) (Ls j) ∧ (∀ b, (Vs j).ownBlock = some b → b < wT.heap.size)

theorem gb_trans {a b c : World} {r : Option Nat} (h : a.grownBy b r) (k : b.grownBy c none) : a.grownBy c r :=
  ⟨k.os.trans h.os, k.tape.trans h.tape, k.output.trans h.output, Nat.le_trans h.size k.size, fun i hi hne => (k.block i (Nat.lt_of_lt_of_le hi h.size) (by simp)).trans (h.block i hi hne)⟩

set_option maxHeartbeats 16000000 in
set_option maxRecDepth 1000000 in
theorem lawT3 (c : Code) (hc : Yba.f5.body.bind (dropTo 74) = some c) (x0 x2 x3 x4 x5 x6 x8 x9 x11 x13 x14 x15 x17 x18 x19 x20 x21 x22 x23 x24 x25 x26 x27 x28 x29 x31 x32 x33 x34 x35 x36 x37 x38 x39 x40 x41 x42 x43 x44 x45 x46 x47 x48 x49 x50 x51 x52 x53 x54 x55 x56 x57 x58 x59 x60 x61 x62 x63 x64 x65 x66 x67 x68 x69 x70 x71 x72 x73 x74 x75 x76 x77 x78 x79 x80 x81 x82 x83 x84 x85 x86 x87 x88 x89 x90 x91 x92 x93 x94 x95 x96 x97 x98 x99 x100 x101 x102 x103 x104 x105 x106 x107 x108 x109 x110 x111 x112 x113 x114 x115 x116 x117 x118 x119 x120 x121 x122 x123 x124 x125 x126 x127 x128 x129 x130 x131 x132 x133 x134 x135 x136 x137 x138 x139 x140 x141 x142 x143 x144 x145 x146 x147 x148 x149 x150 x151 x152 x153 x154 x155 x156 x157 x158 x159 x160 x161 x162 x163 x164 x165 x166 x167 x168 x169 x170 x171 x172 x173 x174 x175 x176 x177 x178 x179 x180 x181 x182 x183 x184 x185 x186 x187 x188 x189 x190 x191 x192 x193 x194 x195 x196 x197 x198 x199 x200 x201 x202 x203 x204 x205 x206 x207 x208 x209 x210 x211 x212 x213 x214 x215 x216 x217 x218 x219 x220 x221 x222 x223 x224 x225 x226 x227 x228 x229 x230 x231 x232 x233 x234 x235 x236 x237 x238 x239 x240 x241 x242 x243 x244 x245 x246 x247 x248 x249 x250 x251 x252 x253 x254 x255 x256 x257 x258 x259 x260 x261 x262 x263 x264 x265 x266 x267 x268 x269 x270 x271 x272 x273 x274 x275 x276 x277 x278 x279 x280 x281 x282 x283 x284 x285 x286 x287 x288 x289 x290 x291 x292 x293 x294 x295 x296 x297 x298 x299 x300 x301 x302 x303 x304 x305 x306 x307 x308 x309 x310 x311 x312 x313 x314 x315 x316 x317 x318 x319 x320 x321 x322 x323 x324 x325 x326 x327 x328 x329 x330 x331 x332 x333 x334 x335 x336 x337 x338 x339 x340 x341 x342 x343 x344 x345 x346 x347 x348 x349 x350 x351 x352 x353 x354 x355 x356 x357 x358 x359 x360 x361 x362 x363 x364 x365 x366 x367 x368 x369 x370 x371 x372 x373 x374 x375 x376 x377 x378 x379 x380 x381 x382 x383 x384 x385 x386 x387 x388 x389 x390 x391 x392 x393 x394 x395 x396 x397 x398 x399 x400 x401 x402 x403 x404 x405 x406 x407 x408 x409 x410 x411 x412 x413 x414 x415 x416 x417 x418 x419 x420 x421 x422 x423 x424 x425 x426 x427 x428 : Value) (w wT wc : World) (N k : Nat) (tt : Nat → Option Nat) (rs : List (Int × Nat)) (a1 : Option Addr) (n1 c1 : Nat) (hd sp : Nat → Int) (V Vs : Nat → Value) (L Ls : Nat → List Int)
    (S : ST w N k tt rs wT) (hin : InR w a1 n1 hd sp) (h1c : n1 ≤ c1) (hrl : rs.length ≤ n1 ∧ (0 < rs.length → 0 < k) ∧ ∀ i, i < rs.length → rs[i]! = (sp i, (hd i).toNat % k)) (hsp : SpT wT N k Vs Ls) (heq : ∀ j, j < k → (Ls j).Pairwise (· < ·) ∧ ∀ x, x ∈ Ls j ↔ x ∈ L j) (hw : Wr wT k V L 0 wc) :
    Code.wp Yba.prog c (bodyPost Yba.prog Yba.f5 fun e w' => e = .returned (.bool true) ∧ Below w.heap.size w w') ⟨#[x0, .slice a1 n1 c1, x2, x3, x4, x5, x6, .int .i64 (k : Int), x8, x9, .slice (some ⟨N, 0, none⟩) k k, x11, .slice (some ⟨N + 1 + k, 0, none⟩) k k, x13, x14, x15, .pointer (some ⟨N + 5 + k, 0, none⟩), x17, x18, x19, x20, x21, x22, x23, x24, x25, x26, x27, x28, x29, .slice (some ⟨wT.heap.size, 0, none⟩) k k, x31, x32, x33, x34, x35, x36, x37, x38, x39, x40, x41, x42, x43, x44, x45, x46, x47, x48, x49, x50, x51, x52, x53, x54, x55, x56, x57, x58, x59, x60, x61, x62, x63, x64, x65, x66, x67, x68, x69, x70, x71, x72, x73, x74, x75, x76, x77, x78, x79, x80, x81, x82, x83, x84, x85, x86, x87, x88, x89, x90, x91, x92, x93, x94, x95, x96, x97, x98, x99, x100, x101, x102, x103, x104, x105, x106, x107, x108, x109, x110, x111, x112, x113, x114, x115, x116, x117, x118, x119, x120, x121, x122, x123, x124, x125, x126, x127, x128, x129, x130, x131, x132, x133, x134, x135, x136, x137, x138, x139, x140, x141, x142, x143, x144, x145, x146, x147, x148, x149, x150, x151, x152, x153, x154, x155, x156, x157, x158, x159, x160, x161, x162, x163, x164, x165, x166, x167, x168, x169, x170, x171, x172, x173, x174, x175, x176, x177, x178, x179, x180, x181, x182, x183, x184, x185, x186, x187, x188, x189, x190, x191, x192, x193, x194, x195, x196, x197, x198, x199, x200, x201, x202, x203, x204, x205, x206, x207, x208, x209, x210, x211, x212, x213, x214, x215, x216, x217, x218, x219, x220, x221, x222, x223, x224, x225, x226, x227, x228, x229, x230, x231, x232, x233, x234, x235, x236, x237, x238, x239, x240, x241, x242, x243, x244, x245, x246, x247, x248, x249, x250, x251, x252, x253, x254, x255, x256, x257, x258, x259, x260, x261, x262, x263, x264, x265, x266, x267, x268, x269, x270, x271, x272, x273, x274, x275, x276, x277, x278, x279, x280, x281, x282, x283, x284, x285, x286, x287, x288, x289, x290, x291, x292, x293, x294, x295, x296, x297, x298, x299, x300, x301, x302, x303, x304, x305, x306, x307, x308, x309, x310, x311, x312, x313, x314, x315, x316, x317, x318, x319, x320, x321, x322, x323, x324, x325, x326, x327, x328, x329, x330, x331, x332, x333, x334, x335, x336, x337, x338, x339, x340, x341, x342, x343, x344, x345, x346, x347, x348, x349, x350, x351, x352, x353, x354, x355, x356, x357, x358, x359, x360, x361, x362, x363, x364, x365, x366, x367, x368, x369, x370, x371, x372, x373, x374, x375, x376, x377, x378, x379, x380, x381, x382, x383, x384, x385, x386, x387, x388, x389, x390, x391, x392, x393, x394, x395, x396, x397, x398, x399, x400, x401, x402, x403, x404, x405, x406, x407, x408, x409, x410, x411, x412, x413, x414, x415, x416, x417, x418, x419, x420, x421, x422, x423, x424, x425, x426, x427, x428], []⟩ wc := by
  conv at hc => lhs; whnf
  injection hc with hc
  subst hc
  have ST' : Hid _ := S
  have HSP : Hid _ := hsp
  have HEQ : Hid _ := heq
  have hk3 := S.k300
  have HB := S.big
  have W0 : Hid _ := hw
  have HIN : Hid _ := hin
  have HRS : Hid _ := hrl
  have hn44 := neq44
  clear S hsp heq hw hin hrl
  go_upto_block 18 with fail
  go_cut [34, 35] from 324 to 376 (fun v34 v35 wx => Hid (wT.grownBy wx none))
  case first =>
    go_wp2_with fail
    go_loopg [34, 35] k (fun g vj v35 wr => ∃ j : Nat, vj = .int .i64 j ∧ j ≤ k ∧ k - j ≤ g ∧ Hid (Wr wT k V L j wr))
    case atStart => exact ⟨0, rfl, by omega, by omega, W0⟩
    case round =>
      clear W0
      obtain ⟨j, rfl, hj, hgj, W1⟩ := hrel
      by_cases hlt : j < k
      · have hz : (j : Int) < (k : Int) := by omega
        have c1 := W1.out.cell j (Nat.le_refl _) hlt
        have R1 := rowI_of_row (W1.out.row j (Nat.le_refl _) hlt) (W1.out.nil j hlt)
        have C1 : Hid _ := sortU wr (V j) (L j) R1 (by have := W1.out.len j hlt; omega)
        clear R1
        go_wp2_with fail
        refine Calls.mono C1.out ?_
        rintro e w2 ⟨rfl, hg2, d, hd1, hd2, hd3, R2⟩
        have c2 := W1.out.cellj hlt hg2
        have HG2 : Hid _ := hg2
        have HD : Hid _ := hd1
        have C2 : Hid _ := compactU w2 (V j) d R2 hd2 (by have := W1.out.len j hlt; omega)
        clear hg2 hd1 hd2 R2 c1 C1
        go_wp2_with fail
        refine Calls.mono C2.out ?_
        rintro e w3 ⟨hg3, v2, d2, rfl, hm2, hp2, hl2, R3⟩
        have hg13 : wr.grownBy w3 (V j).ownBlock := HG2.out.trans hg3
        have W2 : Hid (Wr wT k V L (j + 1) w3) := W1.out.step hlt hg13
        have hsp := HSP.out j hlt
        have S3 := ST'.out.kept W2.out.kept
        have hd2 : Ls j = d2 := inc_unique _ _ (HEQ.out j hlt).1 hp2 (fun x => by rw [(HEQ.out j hlt).2 x, hm2 x, HD.out x])
        have q1 := S3.sc j hlt
        have q2 : w3.cell? ⟨N + 1 + j, 11, none⟩ = some (Vs j) := gcell W2.out.kept hsp.1
        have U1 : CellsI w3 (Vs j) (Ls j) := hsp.2.1.kept (fun a u ha _ => gcell W2.out.kept ha)
        have C3 : Hid _ := equalU w3 (Vs j) v2 (Ls j) U1 (by rw [hd2]; exact R3) (by
          have h2 := W1.out.len j hlt
          rw [hd2]
          omega)
        clear hg3 hm2 hp2 hl2 hd3 R3 hg13 hsp S3 U1 hd2 C2 c2 HD HG2
        go_wp2_with fail
        refine Calls.mono C3.out ?_
        rintro e w4 ⟨rfl, hg4⟩
        have W3 : Hid (Wr wT k V L (j + 1) w4) := W2.out.grown hg4
        have S4 := ST'.out.kept W3.out.kept
        have q3 := S4.ti j hlt
        have q4 := S4.sc j hlt
        have q5 := S4.tos j hlt
        have SC4 : Hid (∀ i, i < k → w4.cell? ⟨N, i, none⟩ = some (.pointer (some ⟨N + 1 + i, 0, none⟩))) := S4.sc
        have TL : Hid _ := S4.toLt
        clear hg4 S4 C3 q1 q2 W2 W1
        cases htj : tt j with
        | none =>
          rw [htj] at q3 q5
          simp only [Option.map_none] at q3 q5
          go_wp2
          go_roundg (k - (j + 1))
          case measure => omega
          case rel => exact ⟨j + 1, by go_num, by omega, Nat.le_refl _, W3⟩
        | some t =>
          rw [htj] at q3 q5
          simp only [Option.map_some] at q3 q5
          have ht := TL.out j t htj
          have q6 := SC4.out t ht.2
          have z1 : (t : Int) < (k : Int) := by omega
          have z2 : ¬ (t : Int) < 0 := by omega
          go_upto_region 84 with fail
          go_quiet (fail)
          generalize hw5 : World.drewN _ nq = w5
          have W4 : Hid (Wr wT k V L (j + 1) w5) := by rw [← hw5]; exact W3.out.grown (gdrewN _ _ _)
          clear hw5
          go_wp2
          go_roundg (k - (j + 1))
          case measure => omega
          case rel => exact ⟨j + 1, by go_num, by omega, Nat.le_refl _, W4⟩
      · have hz : ¬ (j : Int) < (k : Int) := by omega
        go_wp2_with fail
        go_meet
        case rel => exact W1.out.kept
  case rest =>
    refine ‹∀ (a : Act) (w : World), Code.wp Yba.prog _ _ a w → _› _ _ ?_
    exact lawT4 _ (by kernel_rfl) _ _ _ _ _ _ _ _ _ _ _ _ _ _ _ _ _ _ _ _ _ _ _ _ _ _ _ _ _ _ _ _ _ _ _ _ _ _ _ _ _ _ _ _ _ _ _ _ _ _ _ _ _ _ _ _ _ _ _ _ _ _ _ _ _ _ _ _ _ _ _ _ _ _ _ _ _ _ _ _ _ _ _ _ _ _ _ _ _ _ _ _ _ _ _ _ _ _ _ _ _ _ _ _ _ _ _ _ _ _ _ _ _ _ _ _ _ _ _ _ _ _ _ _ _ _ _ _ _ _ _ _ _ _ _ _ _ _ _ _ _ _ _ _ _ _ _ _ _ _ _ _ _ _ _ _ _ _ _ _ _ _ _ _ _ _ _ _ _ _ _ _ _ _ _ _ _ _ _ _ _ _ _ _ _ _ _ _ _ _ _ _ _ _ _ _ _ _ _ _ _ _ _ _ _ _ _ _ _ _ _ _ _ _ _ _ _ _ _ _ _ _ _ _ _ _ _ _ _ _ _ _ _ _ _ _ _ _ _ _ _ _ _ _ _ _ _ _ _ _ _ _ _ _ _ _ _ _ _ _ _ _ _ _ _ _ _ _ _ _ _ _ _ _ _ _ _ _ _ _ _ _ _ _ _ _ _ _ _ _ _ _ _ _ _ _ _ _ _ _ _ _ _ _ _ _ _ _ _ _ _ _ _ _ _ _ _ _ _ _ _ _ _ _ _ _ _ _ _ _ _ _ _ _ _ _ _ _ _ _ _ _ _ _ _ _ _ _ _ _ _ _ _ _ _ _ _ _ _ _ _ _ _ _ _ _ _ _ _ _ _ _ _ _ _ _ _ _ _ _ _ _ _ _ _ _ _ _ _ _ _ _ _ _ _ _ _ _ _ _ _ _ _ _ _ _ _ _ _ _ _ _ _ _ _ _ _ _ _ _ _ _ _ _ _ w _ N k tt rs a1 n1 c1 hd sp (ST'.out.kept hcut.out) HIN.out h1c HRS.out
end Go.Proofs.Ybulkecac
