import Derived.Test.YbulkecacBld3
import Derived.Deep.RegionLaw
namespace Go.Proofs.Ybulkecac
open Go.RowKit Go.Sort Go.Shelf
set_option linter.unusedSimpArgs false
set_option linter.unusedVariables false

def psum (pn : Nat → Nat) (i : Nat) : Nat := ((List.range i).map pn).sum
theorem psum_succ (pn : Nat → Nat) (i : Nat) : psum pn (i + 1) = psum pn i + pn i := by simp [psum, List.range_succ]

theorem info90 : (Yba.prog.info? 90).map (fun i => (i.zero, i.size, i.bytes)) = some (some (.slice none 0 0), 1, 24) := by kernel_rfl

theorem mk48 (w : World) : (Instr.makeSlice 48 (.int .i64 1) (.int .i64 1)).run Yba.prog w = .ok (.slice (some ⟨w.heap.size, 0, none⟩) 1 1) (w.alloc (.cells #[.slice none 0 0] 90)) := by
  have h := run_make_row' (P := Yba.prog) 48 90 (.slice none 0 0) 24 Yba.underlying48 info90 rfl .i64 .i64 1 (by omega) (by omega) w
  rw [show madeCells #[Value.slice none 0 0] 1 = #[.slice none 0 0] by simp [madeCells]; exact ⟨0, by rfl, by rfl⟩] at h
  exact h

/-- the bare assertions that came in -/
structure InB (w : World) (a2 : Option Addr) (n2 : Nat) (bh bf : Nat → Bool) (br : Nat → Int) (pa : Nat → Option Addr) (pn pc : Nat → Nat) (pv : Nat → Nat → Int) : Prop where
  row : ∀ i, i < n2 → -2147483648 ≤ br i ∧ br i ≤ 2147483647
  cells : 0 < n2 → ∃ x, a2 = some x ∧ ∀ i, i < n2 → w.cell? (x.add (i * 4)) = some (.bool (bh i)) ∧ w.cell? ((x.add (i * 4)).add 1) = some (.bool (bf i)) ∧ w.cell? ((x.add (i * 4)).add 2) = some (.int .i32 (br i)) ∧ w.cell? ((x.add (i * 4)).add 3) = some (.slice (pa i) (pn i) (pc i))
  cap : ∀ i, i < n2 → pn i ≤ pc i
  prs : ∀ i, i < n2 → 0 < pn i → ∃ z, pa i = some z ∧ ∀ q, q < pn i → w.cell? (z.add q) = some (.int .i32 (pv i q)) ∧ -2147483648 ≤ pv i q ∧ pv i q ≤ 2147483647

/-- the plain side -/
structure Pl (k : Nat) (rs ml : List (Int × Nat)) (ts : List Int) (bs : Nat → BB) (pn : Nat → Nat) (i : Nat) : Prop where
  mem : ∀ x h, (x, h) ∈ ml ↔ Said k rs bs x h
  non : ∀ q, i ≤ q → bs q = .none
  bs4 : ∀ q, (bs q).says.length ≤ 4096
  bsW : ∀ q x, x ∈ (bs q).says → -2147483648 ≤ x ∧ x ≤ 2147483647
  len : ml.length ≤ 4096 + psum pn i + i
  tl : ts.length ≤ i

theorem Pl.skip {k : Nat} {rs ml : List (Int × Nat)} {ts : List Int} {bs : Nat → BB} {pn : Nat → Nat} {i : Nat} (h : Pl k rs ml ts bs pn i) : Pl k rs ml ts bs pn (i + 1) :=
  ⟨h.mem, fun q hq => h.non q (by omega), h.bs4, h.bsW, by have := h.len; rw [psum_succ]; omega, by have := h.tl; omega⟩

theorem Pl.add {k : Nat} {rs ml ml' : List (Int × Nat)} {ts : List Int} {bs : Nat → BB} {pn : Nat → Nat} {i : Nat} (h : Pl k rs ml ts bs pn i) (hi : i < k) (y : Int) (bb : BB) (hm : ∀ x h', (x, h') ∈ ml' ↔ (x, h') ∈ ml ∨ (h' = i ∧ x ∈ bb.says)) (h4 : bb.says.length ≤ 4096) (hW : ∀ x ∈ bb.says, -2147483648 ≤ x ∧ x ≤ 2147483647)
    (hl : ml'.length ≤ ml.length + pn i + 1) : Pl k rs ml' (ts ++ [y]) (Sk.upd bs i bb) pn (i + 1) := by
  refine ⟨fun x h' => ?_, fun q hq => ?_, fun q => ?_, fun q x hx => ?_, ?_, ?_⟩
  · rw [hm x h', h.mem x h']
    unfold Said Sk.upd
    by_cases e : h' = i
    · subst e
      have h0 : bs h' = .none := h.non h' (Nat.le_refl _)
      rw [if_pos rfl, h0]
      simp [BB.says, hi]
    · rw [if_neg e]
      simp [e]
  · unfold Sk.upd; rw [if_neg (by omega)]; exact h.non q (by omega)
  · unfold Sk.upd; split
    · exact h4
    · exact h.bs4 q
  · unfold Sk.upd at hx; split at hx
    · exact hW x hx
    · exact h.bsW q x hx
  · have := h.len; rw [psum_succ]; omega
  · have := h.tl; simp; omega

theorem mk90 (n : Nat) (hn : n ≤ 4096) (w : World) : ∃ cur : Array Value, cur.size = n * 1 ∧ (Instr.makeSlice 90 (.int .i64 0) (.int .i64 (n : Int))).run Yba.prog w = .ok (.slice (some ⟨w.heap.size, 0, none⟩) 0 n) (w.alloc (.cells cur 33)) := by
  have h0 : (Yba.prog.info? 33).map (fun i => (i.zero, i.size, i.bytes)) = some (some (.int .u64 0), 1, 8) := by kernel_rfl
  obtain ⟨i33, hi, he⟩ := Option.map_eq_some_iff.1 h0
  simp only [Prod.mk.injEq] at he
  obtain ⟨hz, hs, hb⟩ := he
  have h := run_make (P := Yba.prog) w 90 33 i33 (.int .u64 0) Yba.underlying90 hi hz .i64 .i64 0 (n : Int) (by omega) (by omega) (by rw [hb]; omega) (by omega)
  simp only [Int.toNat_natCast, hs] at h
  exact ⟨madeCells (Value.int .u64 0).cells (n * 1), by simp [madeCells, Value.cells], h⟩


set_option maxHeartbeats 16000000 in
set_option maxRecDepth 1000000 in
theorem lawT1 (c : Code) (hc : Yba.f5.body.bind (dropTo 43) = some c) (x0 x3 x4 x5 x6 x8 x9 x11 x13 x14 x17 x19 x20 x21 x22 x23 x24 x25 x26 x27 x28 x29 x30 x31 x32 x33 x34 x35 x36 x37 x38 x39 x40 x41 x42 x43 x44 x45 x46 x47 x48 x49 x50 x51 x52 x53 x54 x55 x56 x57 x58 x59 x60 x61 x62 x63 x64 x65 x66 x67 x68 x69 x70 x71 x72 x73 x74 x75 x76 x77 x78 x79 x80 x81 x82 x83 x84 x85 x86 x87 x88 x89 x90 x91 x92 x93 x94 x95 x96 x97 x98 x99 x100 x101 x102 x103 x104 x105 x106 x107 x108 x109 x110 x111 x112 x113 x114 x115 x116 x117 x118 x119 x120 x121 x122 x123 x124 x125 x126 x127 x128 x129 x130 x131 x132 x133 x134 x135 x136 x137 x138 x139 x140 x141 x142 x143 x144 x145 x146 x147 x148 x149 x150 x151 x152 x153 x154 x155 x156 x157 x158 x159 x160 x161 x162 x163 x164 x165 x166 x167 x168 x169 x170 x171 x172 x173 x174 x175 x176 x177 x178 x179 x180 x181 x182 x183 x184 x185 x186 x187 x188 x189 x190 x191 x192 x193 x194 x195 x196 x197 x198 x199 x200 x201 x202 x203 x204 x205 x206 x207 x208 x209 x210 x211 x212 x213 x214 x215 x216 x217 x218 x219 x220 x221 x222 x223 x224 x225 x226 x227 x228 x229 x230 x231 x232 x233 x234 x235 x236 x237 x238 x239 x240 x241 x242 x243 x244 x245 x246 x247 x248 x249 x250 x251 x252 x253 x254 x255 x256 x257 x258 x259 x260 x261 x262 x263 x264 x265 x266 x267 x268 x269 x270 x271 x272 x273 x274 x275 x276 x277 x278 x279 x280 x281 x282 x283 x284 x285 x286 x287 x288 x289 x290 x291 x292 x293 x294 x295 x296 x297 x298 x299 x300 x301 x302 x303 x304 x305 x306 x307 x308 x309 x310 x311 x312 x313 x314 x315 x316 x317 x318 x319 x320 x321 x322 x323 x324 x325 x326 x327 x328 x329 x330 x331 x332 x333 x334 x335 x336 x337 x338 x339 x340 x341 x342 x343 x344 x345 x346 x347 x348 x349 x350 x351 x352 x353 x354 x355 x356 x357 x358 x359 x360 x361 x362 x363 x364 x365 x366 x367 x368 x369 x370 x371 x372 x373 x374 x375 x376 x377 x378 x379 x380 x381 x382 x383 x384 x385 x386 x387 x388 x389 x390 x391 x392 x393 x394 x395 x396 x397 x398 x399 x400 x401 x402 x403 x404 x405 x406 x407 x408 x409 x410 x411 x412 x413 x414 x415 x416 x417 x418 x419 x420 x421 x422 x423 x424 x425 x426 x427 x428 : Value) (w wc : World) (N k : Nat) (tt : Nat → Option Nat) (rs : List (Int × Nat)) (a1 : Option Addr) (n1 c1 : Nat) (hd sp : Nat → Int) (a2 : Option Addr) (n2 c2 : Nat) (bh bf : Nat → Bool) (br : Nat → Int) (pa : Nat → Option Addr) (pn pc : Nat → Nat) (pv : Nat → Nat → Int) (tg : Nat → Nat) (vr vm : Value) (ml : List (Int × Nat))
    (B0 : Bl w N k tt tg none vr vm (.slice none 0 0) (.slice none 0 0) rs ml 0 [] (fun _ => .none) wc) (hin : InR w a1 n1 hd sp) (h1c : n1 ≤ c1) (hrl : rs.length ≤ n1 ∧ (0 < rs.length → 0 < k) ∧ ∀ i, i < rs.length → rs[i]! = (sp i, (hd i).toNat % k)) (rs4 : rs.length ≤ 4096) (rsk : ∀ p ∈ rs, p.2 < k) (hib : InB w a2 n2 bh bf br pa pn pc pv) (h2c : n2 ≤ c2) (hps : ∀ i, i ≤ n2 → i ≤ k → psum pn i ≤ 4096) (hmem : ∀ x h, (x, h) ∈ ml ↔ Said k rs (fun _ => (none : BB)) x h) (hml : ml.length ≤ 4096) :
    Code.wp Yba.prog c (bodyPost Yba.prog Yba.f5 fun e w' => e = .returned (.bool true) ∧ Below w.heap.size w w') ⟨#[x0, .slice a1 n1 c1, .slice a2 n2 c2, x3, x4, x5, x6, .int .i64 (k : Int), x8, x9, .slice (some ⟨N, 0, none⟩) k k, x11, .slice (some ⟨N + 1 + k, 0, none⟩) k k, x13, x14, .pointer (some ⟨N + 3 + k, 0, none⟩), .pointer (some ⟨N + 5 + k, 0, none⟩), x17, vm, x19, x20, x21, x22, x23, x24, x25, x26, x27, x28, x29, x30, x31, x32, x33, x34, x35, x36, x37, x38, x39, x40, x41, x42, x43, x44, x45, x46, x47, x48, x49, x50, x51, x52, x53, x54, x55, x56, x57, x58, x59, x60, x61, x62, x63, x64, x65, x66, x67, x68, x69, x70, x71, x72, x73, x74, x75, x76, x77, x78, x79, x80, x81, x82, x83, x84, x85, x86, x87, x88, x89, x90, x91, x92, x93, x94, x95, x96, x97, x98, x99, x100, x101, x102, x103, x104, x105, x106, x107, x108, x109, x110, x111, x112, x113, x114, x115, x116, x117, x118, x119, x120, x121, x122, x123, x124, x125, x126, x127, x128, x129, x130, x131, x132, x133, x134, x135, x136, x137, x138, x139, x140, x141, x142, x143, x144, x145, x146, x147, x148, x149, x150, x151, x152, x153, x154, x155, x156, x157, x158, x159, x160, x161, x162, x163, x164, x165, x166, x167, x168, x169, x170, x171, x172, x173, x174, x175, x176, x177, x178, x179, x180, x181, x182, x183, x184, x185, x186, x187, x188, x189, x190, x191, x192, x193, x194, x195, x196, x197, x198, x199, x200, x201, x202, x203, x204, x205, x206, x207, x208, x209, x210, x211, x212, x213, x214, x215, x216, x217, x218, x219, x220, x221, x222, x223, x224, x225, x226, x227, x228, x229, x230, x231, x232, x233, x234, x235, x236, x237, x238, x239, x240, x241, x242, x243, x244, x245, x246, x247, x248, x249, x250, x251, x252, x253, x254, x255, x256, x257, x258, x259, x260, x261, x262, x263, x264, x265, x266, x267, x268, x269, x270, x271, x272, x273, x274, x275, x276, x277, x278, x279, x280, x281, x282, x283, x284, x285, x286, x287, x288, x289, x290, x291, x292, x293, x294, x295, x296, x297, x298, x299, x300, x301, x302, x303, x304, x305, x306, x307, x308, x309, x310, x311, x312, x313, x314, x315, x316, x317, x318, x319, x320, x321, x322, x323, x324, x325, x326, x327, x328, x329, x330, x331, x332, x333, x334, x335, x336, x337, x338, x339, x340, x341, x342, x343, x344, x345, x346, x347, x348, x349, x350, x351, x352, x353, x354, x355, x356, x357, x358, x359, x360, x361, x362, x363, x364, x365, x366, x367, x368, x369, x370, x371, x372, x373, x374, x375, x376, x377, x378, x379, x380, x381, x382, x383, x384, x385, x386, x387, x388, x389, x390, x391, x392, x393, x394, x395, x396, x397, x398, x399, x400, x401, x402, x403, x404, x405, x406, x407, x408, x409, x410, x411, x412, x413, x414, x415, x416, x417, x418, x419, x420, x421, x422, x423, x424, x425, x426, x427, x428], []⟩ wc := by
  conv at hc => lhs; whnf
  injection hc with hc
  subst hc
  have hk3 := B0.bd.k300
  have B0' : Hid (Bl w N k tt tg none vr vm (.slice none 0 0) (.slice none 0 0) rs ml ([] : List Int).length [] (fun _ => .none) wc) := B0
  have P0 : Hid (Pl k rs ml [] (fun _ => (none : BB)) pn 0) := ⟨hmem, fun _ _ => rfl, fun _ => by simp [BB.says], fun q x hx => by simp [BB.says] at hx, by simp [psum]; exact hml, by simp⟩
  have HIB : Hid _ := hib
  have HPS : Hid _ := hps
  have HIN : Hid _ := hin
  have HRS : Hid _ := hrl
  have HRK : Hid _ := rsk
  clear B0 hib hmem hps hin hrl rsk hml
  go_upto_block 10 with fail
  go_cut [18, 23, 24, 25, 26, 27, 28, 29] from 186 to 293 (fun v18 v23 v24 v25 v26 v27 v28 v29 wx => ∃ (tg : Nat → Nat) (ve vt : Value) (ml : List (Int × Nat)) (ts : List Int) (bs : Nat → BB) (i : Nat), i ≤ k ∧ i ≤ n2 ∧ Hid (Bl w N k tt tg none vr v18 ve vt rs ml ts.length ts bs wx) ∧ Hid (Pl k rs ml ts bs pn i))
  case first =>
    go_wp2_with fail
    go_loopg [18, 23, 24, 25, 26, 27, 28, 29] k (fun g v18 v23 v24 v25 v26 v27 v28 v29 wr => ∃ (tg : Nat → Nat) (ve vt : Value) (ml : List (Int × Nat)) (ts : List Int) (bs : Nat → BB) (i : Nat), v23 = .int .i64 i ∧ i ≤ k ∧ i ≤ n2 ∧ k - i ≤ g ∧ Hid (Bl w N k tt tg none vr v18 ve vt rs ml ts.length ts bs wr) ∧ Hid (Pl k rs ml ts bs pn i))
    case atStart => exact ⟨tg, _, _, ml, [], _, 0, rfl, by omega, by omega, by omega, B0', P0⟩
    case round =>
      clear B0' P0
      obtain ⟨tg, ve, vt, ml, ts, bs, i, rfl, hik, hin2, hgi, B1, P1⟩ := hrel
      by_cases hlt : i < n2 ∧ i < k
      · obtain ⟨hi2, hi3⟩ := hlt
        have z1 : (i : Int) < (n2 : Int) := by omega
        have z2 : (i : Int) < (k : Int) := by omega
        obtain ⟨x, rfl, hx⟩ := HIB.out.cells (by omega)
        obtain ⟨x0, x1, x2, x3⟩ := hx i hi2
        have hNw := B1.out.bd.hN
        have bel := B1.out.bd.bel
        have y0 := (bel.cell (p := x.add (i * 4)) (by rw [hNw]; exact World.block_lt_of_cell? _ _ x0)).trans x0
        have y1 : wr.cell? ⟨(x.add (i * 4)).block, (x.add (i * 4)).off + 1, none⟩ = some (.bool (bf i)) := (bel.cell (p := (x.add (i * 4)).add 1) (by rw [hNw]; exact World.block_lt_of_cell? _ _ x1)).trans x1
        have y2 : wr.cell? ⟨(x.add (i * 4)).block, (x.add (i * 4)).off + 2, none⟩ = some (.int .i32 (br i)) := (bel.cell (p := (x.add (i * 4)).add 2) (by rw [hNw]; exact World.block_lt_of_cell? _ _ x2)).trans x2
        have y3 : wr.cell? ⟨(x.add (i * 4)).block, (x.add (i * 4)).off + 3, none⟩ = some (.slice (pa i) (pn i) (pc i)) := (bel.cell (p := (x.add (i * 4)).add 3) (by rw [hNw]; exact World.block_lt_of_cell? _ _ x3)).trans x3
        obtain ⟨bhi, hbh⟩ : ∃ z, z = bh i := ⟨_, rfl⟩
        obtain ⟨bfi, hbf⟩ : ∃ z, z = bf i := ⟨_, rfl⟩
        obtain ⟨bri, hbr⟩ : ∃ z, z = br i := ⟨_, rfl⟩
        obtain ⟨pai, hpa⟩ : ∃ z, z = pa i := ⟨_, rfl⟩
        obtain ⟨pni, hpn⟩ : ∃ z, z = pn i := ⟨_, rfl⟩
        obtain ⟨pci, hpc⟩ : ∃ z, z = pc i := ⟨_, rfl⟩
        rw [← hbh] at y0
        rw [← hbf] at y1
        rw [← hbr] at y2
        rw [← hpa, ← hpn, ← hpc] at y3
        have hbr1 := HIB.out.row i hi2
        rw [← hbr] at hbr1
        have hpn4 : pni ≤ 4096 := by have := HPS.out (i + 1) (by omega) (by omega); rw [psum_succ] at this; omega
        have hpcap : pni ≤ pci := by have := HIB.out.cap i hi2; omega
        have HPRS : Hid (0 < pni → ∃ z, pai = some z ∧ ∀ q, q < pni → w.cell? (z.add q) = some (.int .i32 (pv i q)) ∧ -2147483648 ≤ pv i q ∧ pv i q ≤ 2147483647) := by rw [hpn, hpa]; exact HIB.out.prs i hi2
        have HPN : Hid (pni = pn i) := hpn
        have hl18 := P1.out.len
        have hps2 := HPS.out i (by omega) (by omega)
        have hmlb : ml.length < 100000 := by omega
        have htsb : ts.length ≤ 300 := by have := P1.out.tl; omega
        clear hx x0 x1 x2 x3 hbh hbf hbr hpa hpn hpc hl18 hps2 bel
        go_upto_region 47 with fail
        generalize hwA : wr.alloc _ = wA
        have hgA : wr.grownBy wA none := by rw [← hwA]; exact World.grownBy_alloc _ _ _
        have hszA : wA.heap.size = wr.heap.size + 1 := by rw [← hwA]; simp
        obtain ⟨bb, hbb⟩ : ∃ b, b = wr.heap.size := ⟨_, rfl⟩
        rw [← hbb]
        have b0 : wA.cell? ⟨bb, 0, none⟩ = some (.bool bhi) := by rw [← hwA, hbb]; simp
        have b1 : wA.cell? ⟨bb, 1, none⟩ = some (.bool bfi) := by rw [← hwA, hbb]; simp
        have b2 : wA.cell? ⟨bb, 2, none⟩ = some (.int .i32 bri) := by rw [← hwA, hbb]; simp
        have b3 : wA.cell? ⟨bb, 3, none⟩ = some (.slice pai pni pci) := by rw [← hwA, hbb]; simp
        have hFb : N + 6 + k ≤ bb := by have := B1.out.bd.big; omega
        have B2 : Hid (Bl w N k tt (tgN tg wr.heap.size 7) none vr u18 ve vt rs ml ts.length ts bs wA) := B1.out.stp (Stp.new 7 5 hgA) (by omega)
        have T1c : Hid (Stc (tgN tg wr.heap.size 7) 7 (N + 6 + k) wA ⟨bb, 1, none⟩ (.bool bfi)) := ⟨b1, hFb, tgN_new (by show wr.heap.size ≤ bb; omega)⟩
        have T2c : Hid (Stc (tgN tg wr.heap.size 7) 7 (N + 6 + k) wA ⟨bb, 2, none⟩ (.int .i32 bri)) := ⟨b2, hFb, tgN_new (by show wr.heap.size ≤ bb; omega)⟩
        have T3c : Hid (Stc (tgN tg wr.heap.size 7) 7 (N + 6 + k) wA ⟨bb, 3, none⟩ (.slice pai pni pci)) := ⟨b3, hFb, tgN_new (by show wr.heap.size ≤ bb; omega)⟩
        generalize tgN tg wr.heap.size 7 = tg2 at B2 T1c T2c T3c
        clear hwA hgA hbb y0 y1 y2 y3 B1 hszA hNw b1 b3
        cases bhi with
        | false =>
          go_wp2
          go_roundg (k - (i + 1))
          case measure => omega
          case rel => exact ⟨tg2, ve, vt, ml, ts, bs, i + 1, by go_num, by omega, by omega, by omega, B2, P1.out.skip⟩
        | true =>
          have q1 := B2.out.bd.sc i hi3
          have q2 := B2.out.c0
          have q3 := B2.out.c2
          obtain ⟨ea, ec, rfl⟩ := row_form B2.out.re.1
          obtain ⟨ta, tc, rfl⟩ := row_form B2.out.rt.1
          obtain ⟨nt, HNT, hnt⟩ : ∃ n, Hid (n = ts.length) ∧ n ≤ 300 := ⟨_, rfl, htsb⟩
          simp only [← HNT.out] at q2 q3 B2
          have v1 : IntKind.i32.wrap (nt : Int) = nt := by rw [IntKind.wrap_i32]; omega
          have hbig := B2.out.bd.big
          have f0 := B2.out.bd.frz (N + 3 + k) 0 (by omega) (by omega)
          have neE := B2.out.re.ne (b := N + 3 + k) (by omega)
          have KA : Hid ((wA.alloc (.cells #[.int .i32 0, .int .i32 (nt : Int), .int .i32 0, .int .i32 0, .int .i32 0] 89)).drew.cell? ⟨N + 3 + k, 0, none⟩ = some (.slice ea nt ec) ∧ (wA.alloc (.cells #[.int .i32 0, .int .i32 (nt : Int), .int .i32 0, .int .i32 0, .int .i32 0] 89)).drew.frozen? ⟨N + 3 + k, 0, none⟩ = false) :=
            ⟨gcell (World.grownBy_alloc wA _ none) q2, (World.frozen?_of_block ((World.grownBy_alloc wA _ none).block (N + 3 + k) (by omega) (by simp))).trans f0⟩
          have kA1 : (wA.alloc (.cells #[.int .i32 0, .int .i32 (nt : Int), .int .i32 0, .int .i32 0, .int .i32 0] 89)).cell? ⟨N + 3 + k, 0, none⟩ = some (.slice ea nt ec) := KA.out.1
          go_upto_region 50 with fail
          go_cut [] from 214 to 229 (fun wx => ∃ (tg3 : Nat → Nat) (ve3 : Value), Hid (Bl w N k tt tg3 none vr u18 ve3 (.slice ta nt tc) rs ml (nt + 1) ts bs wx) ∧ Hid (Stc tg3 7 (N + 6 + k) wx ⟨bb, 1, none⟩ (.bool bfi)) ∧ Hid (Stc tg3 7 (N + 6 + k) wx ⟨bb, 2, none⟩ (.int .i32 bri)) ∧ Hid (Stc tg3 7 (N + 6 + k) wx ⟨bb, 3, none⟩ (.slice pai pni pci)))
          case first =>
            go_region_law ((refine stepA A89 (by rfl) _ _ (by rfl) (N + 6 + k) _ _ _ (by rfl) ((B2.out.re.1.alloc _).drew) wA.heap.size #[.int .i32 0, .int .i32 (nt : Int), .int .i32 0, .int .i32 0, .int .i32 0] (by rfl) (heap_alloc_new wA _) rfl (by simp [Value.oneCell']) (by omega) (by simp; omega) (wA.heap.size + 1) (by simp) ?_; intro gg cc w1 hown1 hgrow hat hlt1; have c7 := hgrow.cell KA.out.1 neE; have f7 := (World.frozen?_of_block (hgrow.block (N + 3 + k) (by simp; omega) neE)).trans KA.out.2))
            all_goals
              have s3 : Stp (N + 6 + k) tg2 (tgA tg2 wA.heap.size 3) 3 wA w1 := Stp.app B2.out.re ((World.grownBy_alloc wA _ none).trans (gdrew _ none)) hgrow
              have r3 : Rw (tgA tg2 wA.heap.size 3) 3 (N + 6 + k) 89 5 (.slice (some ⟨gg, 0, none⟩) (nt + 1) cc) (nt + 1) (encE (nt + 1)) w1 := by rw [encE_succ]; exact B2.out.re.grow hat hown1
              have B3 : Hid (Bl w N k tt (tgA tg2 wA.heap.size 3) none vr u18 (.slice (some ⟨gg, 0, none⟩) (nt + 1) cc) (.slice ta nt tc) rs ml (nt + 1) ts bs (w1.setCell ⟨N + 3 + k, 0, none⟩ (.slice (some ⟨gg, 0, none⟩) (nt + 1) cc))) := B2.out.appE s3 r3
              have t1 : Hid (Stc (tgA tg2 wA.heap.size 3) 7 (N + 6 + k) (w1.setCell ⟨N + 3 + k, 0, none⟩ (.slice (some ⟨gg, 0, none⟩) (nt + 1) cc)) ⟨bb, 1, none⟩ (.bool bfi)) := (T1c.out.stp s3 (by omega)).set (by omega)
              have t2 : Hid (Stc (tgA tg2 wA.heap.size 3) 7 (N + 6 + k) (w1.setCell ⟨N + 3 + k, 0, none⟩ (.slice (some ⟨gg, 0, none⟩) (nt + 1) cc)) ⟨bb, 2, none⟩ (.int .i32 bri)) := (T2c.out.stp s3 (by omega)).set (by omega)
              have t3 : Hid (Stc (tgA tg2 wA.heap.size 3) 7 (N + 6 + k) (w1.setCell ⟨N + 3 + k, 0, none⟩ (.slice (some ⟨gg, 0, none⟩) (nt + 1) cc)) ⟨bb, 3, none⟩ (.slice pai pni pci)) := (T3c.out.stp s3 (by omega)).set (by omega)
              clear s3 r3 c7 f7 hgrow hown1
              go_wp2_with fail
              go_meet
              case rel => exact ⟨_, _, B3, t1, t2, t3⟩
          case rest =>
            clear KA kA1 neE f0 q2 q3 q1 B2 T1c T2c T3c b2
            obtain ⟨tg3, ve3, B3, T1c, T2c, T3c⟩ := hcut
            have q2 := B3.out.c2
            have b2 := T2c.out.1
            have f2 := B3.out.bd.frz (N + 3 + k) 2 (by omega) (by omega)
            have neT := B3.out.rt.ne (b := N + 3 + k) (by omega)
            have hbg3 := B3.out.bd.big
            have KA : Hid ((wc.alloc (.cells #[.int .i32 bri] 21)).drew.cell? ⟨N + 3 + k, 2, none⟩ = some (.slice ta nt tc) ∧ (wc.alloc (.cells #[.int .i32 bri] 21)).drew.frozen? ⟨N + 3 + k, 2, none⟩ = false) :=
              ⟨gcell (World.grownBy_alloc wc _ none) q2, (World.frozen?_of_block ((World.grownBy_alloc wc _ none).block (N + 3 + k) (by omega) (by simp))).trans f2⟩
            have kA1 : (wc.alloc (.cells #[.int .i32 bri] 21)).cell? ⟨N + 3 + k, 2, none⟩ = some (.slice ta nt tc) := KA.out.1
            have hro : Hid (wc.ownsRow (N + 6 + k) 21 1 (.slice ta nt tc) nt (ts.map (Value.int .i32))) := by have := B3.out.rt.1; rw [← HNT.out] at this; exact this
            go_upto_region 51 with fail
            go_cut [] from 230 to 240 (fun wx => ∃ (tg3 : Nat → Nat) (vt3 : Value), Hid (Bl w N k tt tg3 none vr u18 ve3 vt3 rs ml (nt + 1) (ts ++ [bri]) bs wx) ∧ Hid (Stc tg3 7 (N + 6 + k) wx ⟨bb, 1, none⟩ (.bool bfi)) ∧ Hid (Stc tg3 7 (N + 6 + k) wx ⟨bb, 2, none⟩ (.int .i32 bri)) ∧ Hid (Stc tg3 7 (N + 6 + k) wx ⟨bb, 3, none⟩ (.slice pai pni pci)))
            case first =>
              go_region_law ((refine stepA A21 (by rfl) _ _ (by rfl) (N + 6 + k) _ _ _ (by rfl) ((hro.out.alloc _).drew) wc.heap.size #[.int .i32 bri] (by rfl) (heap_alloc_new wc _) rfl (by simp [Value.oneCell']) (by omega) (by simp; omega) (wc.heap.size + 1) (by simp) ?_; intro gg cc w1 hown1 hgrow hat hlt1; have c7 := hgrow.cell KA.out.1 neT; have f7 := (World.frozen?_of_block (hgrow.block (N + 3 + k) (by simp; omega) neT)).trans KA.out.2))
              all_goals
                have s3 : Stp (N + 6 + k) tg3 (tgA tg3 wc.heap.size 4) 4 wc w1 := Stp.app B3.out.rt ((World.grownBy_alloc wc _ none).trans (gdrew _ none)) hgrow
                have r3 : Rw (tgA tg3 wc.heap.size 4) 4 (N + 6 + k) 21 1 (.slice (some ⟨gg, 0, none⟩) (nt + 1) cc) (ts ++ [bri]).length ((ts ++ [bri]).map (Value.int .i32)) w1 := by
                  have := B3.out.rt.grow hat hown1
                  rw [List.length_append, List.map_append, ← HNT.out]
                  exact this
                have B4 : Hid (Bl w N k tt (tgA tg3 wc.heap.size 4) none vr u18 ve3 (.slice (some ⟨gg, 0, none⟩) (nt + 1) cc) rs ml (nt + 1) (ts ++ [bri]) bs (w1.setCell ⟨N + 3 + k, 2, none⟩ (.slice (some ⟨gg, 0, none⟩) (nt + 1) cc))) := B3.out.appT s3 bri r3
                have t1 : Hid (Stc (tgA tg3 wc.heap.size 4) 7 (N + 6 + k) (w1.setCell ⟨N + 3 + k, 2, none⟩ (.slice (some ⟨gg, 0, none⟩) (nt + 1) cc)) ⟨bb, 1, none⟩ (.bool bfi)) := (T1c.out.stp s3 (by omega)).set (by omega)
                have t2 : Hid (Stc (tgA tg3 wc.heap.size 4) 7 (N + 6 + k) (w1.setCell ⟨N + 3 + k, 2, none⟩ (.slice (some ⟨gg, 0, none⟩) (nt + 1) cc)) ⟨bb, 2, none⟩ (.int .i32 bri)) := (T2c.out.stp s3 (by omega)).set (by omega)
                have t3 : Hid (Stc (tgA tg3 wc.heap.size 4) 7 (N + 6 + k) (w1.setCell ⟨N + 3 + k, 2, none⟩ (.slice (some ⟨gg, 0, none⟩) (nt + 1) cc)) ⟨bb, 3, none⟩ (.slice pai pni pci)) := (T3c.out.stp s3 (by omega)).set (by omega)
                clear s3 r3 c7 f7 hgrow hown1
                go_wp2_with fail
                go_meet
                case rel => exact ⟨_, _, B4, t1, t2, t3⟩
            case rest =>
              clear KA kA1 neT f2 q2 b2 B3 T1c T2c T3c hro hbg3
              obtain ⟨tg4, vt4, B4, T1c, T2c, T3c⟩ := hcut
              have hbs : BSt tg4 N (N + 6 + k) (nt + 1) (ts ++ [bri]) wc i .none := by have := B4.out.ba i hi3 (by simp); rw [P1.out.non i (Nat.le_refl _)] at this; exact this
              have s5 := hbs.1
              have s9 := hbs.2
              have f5 := B4.out.bd.frz (N + 1 + i) 5 (by omega) (by omega)
              have hbg4 := B4.out.bd.big
              have kb1 : (wc.alloc (.cells #[.int .i32 (nt : Int)] 21)).cell? ⟨N + 1 + i, 5, none⟩ = some (.slice none 0 0) := gcell (World.grownBy_alloc wc _ none) s5
              have kb2 : (wc.alloc (.cells #[.int .i32 (nt : Int)] 21)).frozen? ⟨N + 1 + i, 5, none⟩ = false := (World.frozen?_of_block ((World.grownBy_alloc wc _ none).block (N + 1 + i) (by omega) (by simp))).trans f5
              go_upto_region 53 with fail
              generalize hw5 : World.setCell _ _ _ = w5
              obtain ⟨g, hg⟩ : ∃ g, g = wc.heap.size := ⟨_, rfl⟩
              have s5b : Stp (N + 6 + k) tg4 (tgN tg4 wc.heap.size 0) 5 wc (wc.alloc (.cells #[.int .i32 (nt : Int)] 21)) := Stp.new 0 5 (World.grownBy_alloc wc _ none)
              have B5 : Hid (Bl w N k tt (tgN tg4 wc.heap.size 0) (some i) vr u18 ve3 vt4 rs ml (nt + 1) (ts ++ [bri]) bs w5) := by rw [← hw5]; exact (B4.out.stp s5b (by omega)).setS hi3 (Or.inl rfl) (Or.inl rfl) _
              have G1 : Hid (Stc (tgN tg4 wc.heap.size 0) 0 (N + 6 + k) w5 ⟨g, 0, none⟩ (.int .i32 (nt : Nat))) := by rw [← hw5]; exact Stc.set ⟨by rw [hg]; simp, by show N + 6 + k ≤ g; omega, tgN_new (by show wc.heap.size ≤ g; omega)⟩ (by omega)
              have T1d : Hid (Stc (tgN tg4 wc.heap.size 0) 7 (N + 6 + k) w5 ⟨bb, 1, none⟩ (.bool bfi)) := by rw [← hw5]; exact (T1c.out.stp s5b (by omega)).set (by omega)
              have T2d : Hid (Stc (tgN tg4 wc.heap.size 0) 7 (N + 6 + k) w5 ⟨bb, 2, none⟩ (.int .i32 bri)) := by rw [← hw5]; exact (T2c.out.stp s5b (by omega)).set (by omega)
              have T3d : Hid (Stc (tgN tg4 wc.heap.size 0) 7 (N + 6 + k) w5 ⟨bb, 3, none⟩ (.slice pai pni pci)) := by rw [← hw5]; exact (T3c.out.stp s5b (by omega)).set (by omega)
              have S5d : Hid (w5.cell? ⟨N + 1 + i, 5, none⟩ = some (.slice (some ⟨g, 0, none⟩) 1 1)) := by show _ = _; rw [← hw5, hg]; exact World.cell?_setCell_same' _ _ _ (by rw [kb1]; rfl)
              have s9d : w5.cell? ⟨N + 1 + i, 9, none⟩ = some (.slice none 0 0) := by rw [← hw5, World.cell?_setCell_other _ _ _ _ (by intro e; simp only [Addr.mk.injEq] at e; omega)]; exact gcell (World.grownBy_alloc wc _ none) s9
              rw [← hg] at hw5
              generalize tgN tg4 wc.heap.size 0 = tg5 at B5 G1 T1d T2d T3d
              clear hw5 s5b hg kb1 kb2 s5 s9 f5 hbs B4 T1c T2c T3c hbg4
              have f9 := B5.out.bd.frz (N + 1 + i) 9 (by omega) (by omega)
              have hbg5 := B5.out.bd.big
              have hmk : (Instr.makeSlice 48 (.int .i64 1) (.int .i64 1)).run Yba.prog w5 = .ok (.slice (some ⟨w5.heap.size, 0, none⟩) 1 1) (w5.alloc (.cells #[.slice none 0 0] 90)) := mk48 w5
              have kc1 : (w5.alloc (.cells #[.slice none 0 0] 90)).cell? ⟨N + 1 + i, 9, none⟩ = some (.slice none 0 0) := gcell (World.grownBy_alloc w5 _ none) s9d
              have kc2 : (w5.alloc (.cells #[.slice none 0 0] 90)).frozen? ⟨N + 1 + i, 9, none⟩ = false := (World.frozen?_of_block ((World.grownBy_alloc w5 _ none).block (N + 1 + i) (by omega) (by simp))).trans f9
              go_upto_region 54 with fail
              clear hmk
              generalize hw6 : World.setCell _ _ _ = w6
              obtain ⟨g2, hg2⟩ : ∃ g, g = w5.heap.size := ⟨_, rfl⟩
              have s6b : Stp (N + 6 + k) tg5 (tgN tg5 w5.heap.size 6) 5 w5 (w5.alloc (.cells #[.slice none 0 0] 90)) := Stp.new 6 5 (World.grownBy_alloc w5 _ none)
              have B6 : Hid (Bl w N k tt (tgN tg5 w5.heap.size 6) (some i) vr u18 ve3 vt4 rs ml (nt + 1) (ts ++ [bri]) bs w6) := by rw [← hw6]; exact (B5.out.stp s6b (by omega)).setS hi3 (Or.inr rfl) (Or.inr rfl) _
              have G1d : Hid (Stc (tgN tg5 w5.heap.size 6) 0 (N + 6 + k) w6 ⟨g, 0, none⟩ (.int .i32 (nt : Nat))) := by rw [← hw6]; exact (G1.out.stp s6b (by omega)).set (by omega)
              have G2 : Hid (Stc (tgN tg5 w5.heap.size 6) 6 (N + 6 + k) w6 ⟨g2, 0, none⟩ (.slice none 0 0)) := by rw [← hw6]; exact Stc.set ⟨by rw [hg2]; simp, by show N + 6 + k ≤ g2; omega, tgN_new (by show w5.heap.size ≤ g2; omega)⟩ (by omega)
              have F2 : Hid (w6.frozen? ⟨g2, 0, none⟩ = false) := by show _ = _; rw [← hw6, World.frozen?_setCell, hg2]; simp
              have T1e : Hid (Stc (tgN tg5 w5.heap.size 6) 7 (N + 6 + k) w6 ⟨bb, 1, none⟩ (.bool bfi)) := by rw [← hw6]; exact (T1d.out.stp s6b (by omega)).set (by omega)
              have T2e : Hid (Stc (tgN tg5 w5.heap.size 6) 7 (N + 6 + k) w6 ⟨bb, 2, none⟩ (.int .i32 bri)) := by rw [← hw6]; exact (T2d.out.stp s6b (by omega)).set (by omega)
              have T3e : Hid (Stc (tgN tg5 w5.heap.size 6) 7 (N + 6 + k) w6 ⟨bb, 3, none⟩ (.slice pai pni pci)) := by rw [← hw6]; exact (T3d.out.stp s6b (by omega)).set (by omega)
              have S5e : Hid (w6.cell? ⟨N + 1 + i, 5, none⟩ = some (.slice (some ⟨g, 0, none⟩) 1 1)) := by show _ = _; rw [← hw6, World.cell?_setCell_other _ _ _ _ (by intro e; simp only [Addr.mk.injEq] at e; omega)]; exact gcell (World.grownBy_alloc w5 _ none) S5d.out
              have S9e : Hid (w6.cell? ⟨N + 1 + i, 9, none⟩ = some (.slice (some ⟨g2, 0, none⟩) 1 1)) := by show _ = _; rw [← hw6, hg2]; exact World.cell?_setCell_same' _ _ _ (by rw [kc1]; rfl)
              rw [← hg2] at hw6
              generalize tgN tg5 w5.heap.size 6 = tg6 at B6 G1d G2 T1e T2e T3e
              clear hw6 s6b hg2 kc1 kc2 s9d f9 B5 G1 T1d T2d T3d S5d hbg5
              have b1 := T1e.out.1
              have hbg6 := B6.out.bd.big
              cases bfi with
              | true =>
                have b2 := T2e.out.1
                go_wp2_with (at_builtin; refine wpA A87 (by rfl) _ _ (by rfl) (N + 6 + k) _ _ _ (by rfl) (B6.out.rm.1.alloc _) w6.heap.size #[.int .i32 bri, .int .i64 (i : Int)] (by rfl) (heap_alloc_new w6 _) rfl (by simp [Value.oneCell']) (by omega) (by simp; omega) (w6.heap.size + 1) (by simp) ?_; intro gg cc w7 hown1 hgrow hat hlt1)
                have s7 : Stp (N + 6 + k) tg6 (tgA tg6 w6.heap.size 2) 2 w6 w7 := Stp.app B6.out.rm (World.grownBy_alloc w6 _ none) hgrow
                have B7 := B6.out.appM s7 (ml' := ml ++ [(bri, i)]) (vm' := .slice (some ⟨gg, 0, none⟩) (ml.length + 1) cc) (by rw [encM_snoc, List.length_append]; exact B6.out.rm.grow hat hown1)
                have G27 := G2.out.stp s7 (by omega)
                have G17 := G1d.out.stp s7 (by omega)
                have c57 := s7.fixed S5e.out (by show N + 1 + i < _; omega)
                have c97 := s7.fixed S9e.out (by show N + 1 + i < _; omega)
                generalize tgA tg6 w6.heap.size 2 = tg7 at B7 G27 G17
                have hrt : ∀ b, tg7 b ≤ 4 → (fun b => if b = g2 then 0 else tg7 b) b = tg7 b := fun b hb => by
                  show (if b = g2 then 0 else tg7 b) = tg7 b
                  rw [if_neg]
                  intro e; subst e
                  have := G27.2.2; simp only at this; omega
                have B8 : Hid (Bl w N k tt (fun b => if b = g2 then 0 else tg7 b) none vr (.slice (some ⟨gg, 0, none⟩) (ml.length + 1) cc) ve3 vt4 rs (ml ++ [(bri, i)]) (ts ++ [bri]).length (ts ++ [bri]) (Sk.upd bs i (some (.inl bri))) w7) := by
                  have h8 := (B7.retag hrt).done (some (.inl bri)) ⟨g, g2, nt, c57, G17.retag (fun b hb => (hrt b (by omega)).trans hb), by omega, by rw [HNT.out]; simp, c97, ⟨G27.1, G27.2.1, by simp⟩⟩
                  rw [show (ts ++ [bri]).length = nt + 1 by rw [HNT.out]; simp]
                  exact h8
                have P8 : Hid (Pl k rs (ml ++ [(bri, i)]) (ts ++ [bri]) (Sk.upd bs i (some (.inl bri))) pn (i + 1)) := P1.out.add hi3 bri (some (.inl bri)) (fun x h' => by simp [BB.says]; constructor; rintro (h | ⟨h1, h2⟩); exact Or.inl h; exact Or.inr ⟨h2, h1⟩; rintro (h | ⟨h1, h2⟩); exact Or.inl h; exact Or.inr ⟨h2, h1⟩) (by simp [BB.says]) (fun x hx => by simp [BB.says] at hx; omega) (by simp)
                clear s7 B7 G27 G17 c57 c97 hown1 hgrow hat hlt1
                go_roundg (k - (i + 1))
                case measure => omega
                case rel => exact ⟨_, ve3, vt4, _, _, _, i + 1, by go_num, by omega, by omega, by omega, B8, P8⟩
              | false =>
                have b3 := T3e.out.1
                obtain ⟨cur, hcur, hmk⟩ := mk90 pni hpn4 w6
                go_upto_region 57 with fail
                clear hmk
                generalize hw7 : w6.alloc _ = w7
                obtain ⟨gp, hgp⟩ : ∃ g, g = w6.heap.size := ⟨_, rfl⟩
                rw [← hgp]
                have s7b : Stp (N + 6 + k) tg6 (tgN tg6 w6.heap.size 5) 5 w6 w7 := by rw [← hw7]; exact Stp.new 5 5 (World.grownBy_alloc w6 _ none)
                have B7 : Hid (Bl w N k tt (tgN tg6 w6.heap.size 5) (some i) vr u18 ve3 vt4 rs ml (nt + 1) (ts ++ [bri]) bs w7) := B6.out.stp s7b (by omega)
                have R7 : Hid (Rw (tgN tg6 w6.heap.size 5) 5 (N + 6 + k) 33 1 (.slice (some ⟨gp, 0, none⟩) 0 pni) 0 [] w7) := ⟨by rw [← hw7, hgp]; exact World.ownsRow_made w6 cur pni (by omega) (by simp only [maxLen]; omega) hcur, fun b hb => by
                  obtain rfl : gp = b := by simpa [Value.ownBlock] using hb
                  exact tgN_new (by omega)⟩
                have G1f : Hid (Stc (tgN tg6 w6.heap.size 5) 0 (N + 6 + k) w7 ⟨g, 0, none⟩ (.int .i32 (nt : Nat))) := G1d.out.stp s7b (by omega)
                have G2f : Hid (Stc (tgN tg6 w6.heap.size 5) 6 (N + 6 + k) w7 ⟨g2, 0, none⟩ (.slice none 0 0)) := G2.out.stp s7b (by omega)
                have F2f : Hid (w7.frozen? ⟨g2, 0, none⟩ = false) := by show _ = _; rw [← hw7]; exact (World.frozen?_of_block ((World.grownBy_alloc w6 _ none).block g2 (World.block_lt_of_cell? _ _ G2.out.1) (by simp))).trans F2.out
                have c3' : w7.cell? ⟨bb, 3, none⟩ = some (.slice pai pni pci) := (T3e.out.stp s7b (by omega)).1
                have S5f : Hid (w7.cell? ⟨N + 1 + i, 5, none⟩ = some (.slice (some ⟨g, 0, none⟩) 1 1)) := s7b.fixed S5e.out (by show N + 1 + i < _; omega)
                have S9f : Hid (w7.cell? ⟨N + 1 + i, 9, none⟩ = some (.slice (some ⟨g2, 0, none⟩) 1 1)) := s7b.fixed S9e.out (by show N + 1 + i < _; omega)
                generalize tgN tg6 w6.heap.size 5 = tg7 at B7 R7 G1f G2f
                clear hw7 s7b hgp hcur B6 G1d G2 F2 T1e T2e T3e S5e S9e b1 b3 hbg6
                go_wp2_with fail
                go_loopg [18, 27, 28, 29, 266] pni (fun g' v18 vp v28 v29 vq wr => ∃ (q : Nat) (tg : Nat → Nat) (ml2 : List (Int × Nat)) (ps : List Int), vq = .int .i64 q ∧ q ≤ pni ∧ pni - q ≤ g' ∧ ps.length = q ∧ ml2.length = ml.length + q ∧ Hid (ml2 = ml ++ ps.map fun x => (x, i)) ∧ Hid (∀ x ∈ ps, -2147483648 ≤ x ∧ x ≤ 2147483647) ∧ Hid (Bl w N k tt tg (some i) vr v18 ve3 vt4 rs ml2 (nt + 1) (ts ++ [bri]) bs wr) ∧
                  Hid (Rw tg 5 (N + 6 + k) 33 1 vp q ((List.range q).map fun j => Value.int .u64 (pairU ps[j]! j)) wr) ∧ Hid (vp ≠ .slice none 0 0) ∧ Hid (Stc tg 0 (N + 6 + k) wr ⟨g, 0, none⟩ (.int .i32 (nt : Nat))) ∧ Hid (Stc tg 6 (N + 6 + k) wr ⟨g2, 0, none⟩ (.slice none 0 0)) ∧ Hid (wr.frozen? ⟨g2, 0, none⟩ = false) ∧ Hid (wr.cell? ⟨N + 1 + i, 5, none⟩ = some (.slice (some ⟨g, 0, none⟩) 1 1)) ∧ Hid (wr.cell? ⟨N + 1 + i, 9, none⟩ = some (.slice (some ⟨g2, 0, none⟩) 1 1)))
                case atStart => exact ⟨0, tg7, ml, [], rfl, by omega, by omega, rfl, rfl, (show ml = ml ++ [] by simp), (fun x hx => by simp at hx), B7, R7, (show _ ≠ _ by simp), G1f, G2f, F2f, S5f, S9f⟩
                case round =>
                  clear B7 R7 G1f G2f F2f S5f S9f c3'
                  obtain ⟨q, tg8, ml2, ps, rfl, hq, hgq, hpl, hml2, HML, HPW, B8, R8, HNN, G1g, G2g, F2g, S5g, S9g⟩ := hrel
                  by_cases hqn : q < pni
                  · have zq : (q : Int) < (pni : Int) := by omega
                    obtain ⟨z, rfl, hz⟩ := HPRS.out (by omega)
                    obtain ⟨hz1, hz2, hz3⟩ := hz q hqn
                    have zc := (B8.out.bd.bel.cell (p := z.add q) (by rw [B8.out.bd.hN]; exact World.block_lt_of_cell? _ _ hz1)).trans hz1
                    obtain ⟨px, hpx⟩ : ∃ x, x = pv i q := ⟨_, rfl⟩
                    rw [← hpx] at zc hz2 hz3
                    obtain ⟨ux, hux⟩ : ∃ u : Nat, ((u : Nat) : Int) = IntKind.u32.wrap px := ⟨(IntKind.u32.wrap px).toNat, by rw [IntKind.wrap_u32]; omega⟩
                    have hux1 : ux < 4294967296 := by have := hux; rw [IntKind.wrap_u32] at this; omega
                    have e1 : IntKind.u32.wrap px = (ux : Int) := hux.symm
                    have e2 : IntKind.u64.wrap (ux : Int) = ux := by rw [IntKind.wrap_u64]; omega
                    have e3 : IntKind.u64.wrap ((ux : Int) * 4294967296) = (ux : Int) * 4294967296 := by rw [IntKind.wrap_u64]; omega
                    have e4 : IntKind.u64.wrap (q : Int) = q := by rw [IntKind.wrap_u64]; omega
                    have e5 : bits .or .u64 ((ux : Int) * 4294967296) (q : Int) = pairU px q := by
                      rw [show (ux : Int) * 4294967296 = ((ux * 4294967296 : Nat) : Int) by omega, bits_or_u64_nat _ _ (by omega) (by omega)]
                      unfold pairU
                      rw [← hux, show ux * 4294967296 = ux <<< 32 by rw [Nat.shiftLeft_eq], ← Nat.shiftLeft_add_eq_or_of_lt (show q < 2 ^ 32 by omega) ux]
                      rw [Nat.shiftLeft_eq]; omega
                    obtain ⟨pu, hpu⟩ : ∃ z, z = pairU px q := ⟨_, rfl⟩
                    rw [← hpu] at e5
                    have HPX : Hid (px = pv i q) := hpx
                    have HPU : Hid (pu = pairU px q) := hpu
                    clear hux hpx hpu hz hz1
                    have hbg8 := B8.out.bd.big
                    go_upto_region 61 with (at_builtin; refine wpA A33 (by rfl) _ _ (by rfl) (N + 6 + k) _ _ _ (by rfl) (R8.out.1.alloc _) wr.heap.size #[.int .u64 pu] (by rfl) (heap_alloc_new wr _) rfl (by simp [Value.oneCell']) (by omega) (by simp; omega) (wr.heap.size + 1) (by simp) ?_; intro gg cc w9 hown1 hgrow hat hlt1)
                    have s9 : Stp (N + 6 + k) tg8 (tgA tg8 wr.heap.size 5) 5 wr w9 := Stp.app R8.out (World.grownBy_alloc wr _ none) hgrow
                    have B9 : Hid (Bl w N k tt (tgA tg8 wr.heap.size 5) (some i) vr u18 ve3 vt4 rs ml2 (nt + 1) (ts ++ [bri]) bs w9) := B8.out.stp s9 (by omega)
                    have R9 : Hid (Rw (tgA tg8 wr.heap.size 5) 5 (N + 6 + k) 33 1 (.slice (some ⟨gg, 0, none⟩) (q + 1) cc) (q + 1) ((List.range (q + 1)).map fun j => Value.int .u64 (pairU (ps ++ [px])[j]! j)) w9) := by
                      have h9 := R8.out.grow hat hown1
                      have he : ((List.range (q + 1)).map fun j => Value.int .u64 (pairU (ps ++ [px])[j]! j)) = ((List.range q).map fun j => Value.int .u64 (pairU ps[j]! j)) ++ [.int .u64 pu] := by
                        rw [List.range_succ, List.map_append]
                        congr 1
                        · apply List.map_congr_left
                          intro j hj
                          rw [List.mem_range] at hj
                          rw [getElem!_pos (ps ++ [px]) j (by simp; omega), getElem!_pos ps j (by omega), List.getElem_append_left (by omega)]
                        · rw [HPU.out]
                          simp [← hpl]
                      rw [he]
                      exact h9
                    have G1h : Hid (Stc (tgA tg8 wr.heap.size 5) 0 (N + 6 + k) w9 ⟨g, 0, none⟩ (.int .i32 (nt : Nat))) := G1g.out.stp s9 (by omega)
                    have G2h : Hid (Stc (tgA tg8 wr.heap.size 5) 6 (N + 6 + k) w9 ⟨g2, 0, none⟩ (.slice none 0 0)) := G2g.out.stp s9 (by omega)
                    have F2h : Hid (w9.frozen? ⟨g2, 0, none⟩ = false) := (World.frozen?_of_block (((World.grownBy_alloc wr _ _).trans hgrow).block g2 (World.block_lt_of_cell? _ _ G2g.out.1) (R8.out.ne' (by have := G2g.out.2.2; simp only at this; omega)))).trans F2g.out
                    have S5h : Hid (w9.cell? ⟨N + 1 + i, 5, none⟩ = some (.slice (some ⟨g, 0, none⟩) 1 1)) := s9.fixed S5g.out (by show N + 1 + i < _; omega)
                    have S9h : Hid (w9.cell? ⟨N + 1 + i, 9, none⟩ = some (.slice (some ⟨g2, 0, none⟩) 1 1)) := s9.fixed S9g.out (by show N + 1 + i < _; omega)
                    generalize tgA tg8 wr.heap.size 5 = tg9 at B9 R9 G1h G2h
                    clear s9 hown1 hgrow hat hlt1 B8 R8 G1g G2g F2g S5g S9g hbg8 zc
                    have hbg9 := B9.out.bd.big
                    go_wp2_with (at_builtin; refine wpA A87 (by rfl) _ _ (by rfl) (N + 6 + k) _ _ _ (by rfl) (B9.out.rm.1.alloc _) w9.heap.size #[.int .i32 px, .int .i64 (i : Int)] (by rfl) (heap_alloc_new w9 _) rfl (by simp [Value.oneCell']) (by omega) (by simp; omega) (w9.heap.size + 1) (by simp) ?_; intro gg2 cc2 w10 hown1 hgrow hat hlt1)
                    have s10 : Stp (N + 6 + k) tg9 (tgA tg9 w9.heap.size 2) 2 w9 w10 := Stp.app B9.out.rm (World.grownBy_alloc w9 _ none) hgrow
                    have B10 : Hid (Bl w N k tt (tgA tg9 w9.heap.size 2) (some i) vr (.slice (some ⟨gg2, 0, none⟩) (ml2.length + 1) cc2) ve3 vt4 rs (ml2 ++ [(px, i)]) (nt + 1) (ts ++ [bri]) bs w10) := B9.out.appM s10 (by rw [encM_snoc, List.length_append]; exact B9.out.rm.grow hat hown1)
                    have R10 : Hid (Rw (tgA tg9 w9.heap.size 2) 5 (N + 6 + k) 33 1 (.slice (some ⟨gg, 0, none⟩) (q + 1) cc) (q + 1) ((List.range (q + 1)).map fun j => Value.int .u64 (pairU (ps ++ [px])[j]! j)) w10) := R9.out.stp s10 (by omega)
                    have G1k : Hid (Stc (tgA tg9 w9.heap.size 2) 0 (N + 6 + k) w10 ⟨g, 0, none⟩ (.int .i32 (nt : Nat))) := G1h.out.stp s10 (by omega)
                    have G2k : Hid (Stc (tgA tg9 w9.heap.size 2) 6 (N + 6 + k) w10 ⟨g2, 0, none⟩ (.slice none 0 0)) := G2h.out.stp s10 (by omega)
                    have F2k : Hid (w10.frozen? ⟨g2, 0, none⟩ = false) := (World.frozen?_of_block (((World.grownBy_alloc w9 _ _).trans hgrow).block g2 (World.block_lt_of_cell? _ _ G2h.out.1) (B9.out.rm.ne' (by have := G2h.out.2.2; simp only at this; omega)))).trans F2h.out
                    have S5k : Hid (w10.cell? ⟨N + 1 + i, 5, none⟩ = some (.slice (some ⟨g, 0, none⟩) 1 1)) := s10.fixed S5h.out (by show N + 1 + i < _; omega)
                    have S9k : Hid (w10.cell? ⟨N + 1 + i, 9, none⟩ = some (.slice (some ⟨g2, 0, none⟩) 1 1)) := s10.fixed S9h.out (by show N + 1 + i < _; omega)
                    rw [hml2] at B10
                    clear s10 hown1 hgrow hat hlt1 B9 R9 G1h G2h F2h S5h S9h hbg9
                    go_roundg (pni - (q + 1))
                    case measure => omega
                    case rel => exact ⟨q + 1, _, ml2 ++ [(px, i)], ps ++ [px], by go_num, by omega, Nat.le_refl _, by simp; omega, by simp; omega, (show _ = _ by rw [HML.out]; simp), (fun x hx => by
                      rcases List.mem_append.1 hx with hx | hx
                      · exact HPW.out x hx
                      · rw [List.mem_singleton] at hx; omega), B10, R10, (show _ ≠ _ by simp), G1k, G2k, F2k, S5k, S9k⟩
                  · have zq : ¬ (q : Int) < (pni : Int) := by omega
                    obtain rfl : q = pni := by omega
                    have c9 := S9g.out
                    have c2' := G2g.out.1
                    have f2' := F2g.out
                    have hg2F := G2g.out.2.1
                    simp only at hg2F
                    obtain ⟨ga, ca, rfl, hca⟩ : ∃ ga ca, u27 = .slice (some ⟨ga, 0, none⟩) q ca ∧ q ≤ ca := by
                      rcases R8.out.1.2 with ⟨h1, h2⟩ | ⟨g', cap', cur', h1, _, _, h2, _⟩
                      · exact absurd h1 HNN.out
                      · exact ⟨g', cap', h1, h2⟩
                    go_upto_region 63 with fail
                    go_wp2_with fail
                    have s11 : Stp (N + 6 + k) tg8 tg8 6 wr (wr.setCell ⟨g2, 0, none⟩ (.slice (some ⟨ga, 0, none⟩) q ca)) := ⟨some g2, set_grown wr g2 0 _, fun b hb => by cases hb; exact ⟨hg2F, G2g.out.2.2⟩, fun _ _ => rfl⟩
                    have B11 := B8.out.stp s11 (by omega)
                    have R11 := R8.out.stp s11 (by omega)
                    have G11 := G1g.out.stp s11 (by omega)
                    have c511 := s11.fixed S5g.out (by show N + 1 + i < _; omega)
                    have c911 := s11.fixed S9g.out (by show N + 1 + i < _; omega)
                    have cg2 : (wr.setCell ⟨g2, 0, none⟩ (.slice (some ⟨ga, 0, none⟩) q ca)).cell? ⟨g2, 0, none⟩ = some (.slice (some ⟨ga, 0, none⟩) q ca) := World.cell?_setCell_same' _ _ _ (by rw [c2']; rfl)
                    have hg26 := G2g.out.2.2
                    simp only at hg26
                    generalize hw11 : wr.setCell _ _ = w11 at B11 R11 G11 c511 c911 cg2 ⊢
                    have hrt : ∀ b, tg8 b ≤ 4 → (fun b => if b = g2 ∨ tg8 b = 5 then 0 else tg8 b) b = tg8 b := fun b hb => by
                      show (if b = g2 ∨ tg8 b = 5 then 0 else tg8 b) = tg8 b
                      rw [if_neg]
                      rintro (e | e)
                      · subst e; omega
                      · omega
                    have hgaF := (R11.1.lt ga rfl).1
                    have hga5 := R11.2 ga rfl
                    have hps : ps.length = q := hpl
                    have B12 : Hid (Bl w N k tt (fun b => if b = g2 ∨ tg8 b = 5 then 0 else tg8 b) none vr u18 ve3 vt4 rs ml2 (ts ++ [bri]).length (ts ++ [bri]) (Sk.upd bs i (some (.inr ps))) w11) := by
                      have h8 := (B11.retag hrt).done (some (.inr ps)) ⟨g, g2, ga, ca, c511, c911, ⟨by rw [hps]; exact cg2, hg2F, by show (if g2 = g2 ∨ _ then 0 else _) = 0; rw [if_pos (Or.inl rfl)]⟩, by omega, fun j hj => ⟨by
                        have := R11.1.cells (g := ga) rfl j (.int .u64 (pairU ps[j]! j)) (by rw [List.getElem?_map, List.getElem?_range (by omega)]; rfl)
                        rw [addr_add0] at this
                        exact this, hgaF, by show (if ga = g2 ∨ tg8 ga = 5 then 0 else _) = 0; rw [if_pos (Or.inr hga5)]⟩⟩
                      rw [show (ts ++ [bri]).length = nt + 1 by rw [HNT.out]; simp]
                      exact h8
                    have P12 : Hid (Pl k rs ml2 (ts ++ [bri]) (Sk.upd bs i (some (.inr ps))) pn (i + 1)) := P1.out.add hi3 bri (some (.inr ps)) (fun x h' => by rw [HML.out]; simp only [List.mem_append, List.mem_map, BB.says, Prod.mk.injEq]; constructor; rintro (h | ⟨y, hy, rfl, rfl⟩); exact Or.inl h; exact Or.inr ⟨rfl, hy⟩; rintro (h | ⟨rfl, h⟩); exact Or.inl h; exact Or.inr ⟨x, h, rfl, rfl⟩) (by show ps.length ≤ 4096; omega) HPW.out (by rw [hml2, ← HPN.out]; omega)
                    clear hw11 s11 B11 R11 G11 c511 c911 cg2 hg26 hrt hgaF hga5
                    go_roundg (k - (i + 1))
                    case measure => omega
                    case rel => exact ⟨_, ve3, vt4, _, _, _, i + 1, by go_num, by omega, by omega, by omega, B12, P12⟩
      · by_cases hi2 : i < n2
        · have z1 : (i : Int) < (n2 : Int) := by omega
          have z2 : ¬ (i : Int) < (k : Int) := by omega
          have z3 : decide ((i : Int) < (n2 : Int)) = true := decide_eq_true z1
          go_wp2_with fail
          go_meet
          case rel => exact ⟨tg, ve, vt, ml, ts, bs, i, hik, hin2, B1, P1⟩
        · have z1 : ¬ (i : Int) < (n2 : Int) := by omega
          have z3 : decide ((i : Int) < (n2 : Int)) = false := decide_eq_false z1
          go_wp2_with fail
          go_meet
          case rel => exact ⟨tg, ve, vt, ml, ts, bs, i, hik, hin2, B1, P1⟩
  case rest =>
    clear B0' P0
    obtain ⟨tg, ve, vt, ml, ts, bs, i, hik, hin2, B1, P1⟩ := hcut
    have hpi := HPS.out i hin2 hik
    have PS1 : PS N k tt rs bs wc := B1.out.ps (by have := P1.out.tl; omega) rs4 HRK.out P1.out.bs4 P1.out.bsW
    have C : Hid _ := arr_ N k tt rs bs wc PS1
    clear PS1
    go_upto_region 64 with fail
    go_cut [] from 294 to 295 (fun wx => Hid (ArrPost N k tt rs bs wc wx))
    case first =>
      go_wp2_with fail
      refine Calls.mono C.out ?_
      rintro o w2 ⟨rfl, hA⟩
      go_wp2_with fail
      go_meet
      case rel => exact hA
    case rest =>
      obtain ⟨Vs, Ls, hS, hL⟩ := hcut.out.spT
      refine ‹∀ (a : Act) (w : World), Code.wp Yba.prog _ _ a w → _› _ _ ?_
      exact lawT2 _ (by kernel_rfl) _ _ _ _ _ _ _ _ _ _ _ _ _ _ _ _ _ _ _ _ _ _ _ _ _ _ _ _ _ _ _ _ _ _ _ _ _ _ _ _ _ _ _ _ _ _ _ _ _ _ _ _ _ _ _ _ _ _ _ _ _ _ _ _ _ _ _ _ _ _ _ _ _ _ _ _ _ _ _ _ _ _ _ _ _ _ _ _ _ _ _ _ _ _ _ _ _ _ _ _ _ _ _ _ _ _ _ _ _ _ _ _ _ _ _ _ _ _ _ _ _ _ _ _ _ _ _ _ _ _ _ _ _ _ _ _ _ _ _ _ _ _ _ _ _ _ _ _ _ _ _ _ _ _ _ _ _ _ _ _ _ _ _ _ _ _ _ _ _ _ _ _ _ _ _ _ _ _ _ _ _ _ _ _ _ _ _ _ _ _ _ _ _ _ _ _ _ _ _ _ _ _ _ _ _ _ _ _ _ _ _ _ _ _ _ _ _ _ _ _ _ _ _ _ _ _ _ _ _ _ _ _ _ _ _ _ _ _ _ _ _ _ _ _ _ _ _ _ _ _ _ _ _ _ _ _ _ _ _ _ _ _ _ _ _ _ _ _ _ _ _ _ _ _ _ _ _ _ _ _ _ _ _ _ _ _ _ _ _ _ _ _ _ _ _ _ _ _ _ _ _ _ _ _ _ _ _ _ _ _ _ _ _ _ _ _ _ _ _ _ _ _ _ _ _ _ _ _ _ _ _ _ _ _ _ _ _ _ _ _ _ _ _ _ _ _ _ _ _ _ _ _ _ _ _ _ _ _ _ _ _ _ _ _ _ _ _ _ _ _ _ _ _ _ _ _ _ _ _ _ _ _ _ _ _ _ _ _ _ _ _ _ _ _ _ _ _ _ _ _ _ _ _ _ _ _ _ _ _ _ _ _ _ _ _ _ _ _ _ _ _ _ _ w _ N k tt rs a1 n1 c1 hd sp _ ml Vs Ls (B1.out.st hcut.out rs4) HIN.out h1c HRS.out hS (B1.out.cm hcut.out) (by have := P1.out.len; omega) (fun p hp => by rcases (P1.out.mem p.1 p.2).1 hp with ⟨s, hs, _⟩ | ⟨h, _⟩; exact HRK.out (s, p.2) hs; exact h) (fun j hj => ⟨(hL j hj).1, fun x => by rw [(hL j hj).2 x]; exact ⟨fun ⟨h, h1, h2⟩ => ⟨h, (P1.out.mem x h).2 h1, h2⟩, fun ⟨h, h1, h2⟩ => ⟨h, (P1.out.mem x h).1 h1, h2⟩⟩⟩)
end Go.Proofs.Ybulkecac
