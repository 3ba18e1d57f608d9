import Derived.Test.YbulkecacLawW
import Derived.Deep.RegionLaw
namespace Go.Proofs.Ybulkecac
open Go.RowKit Go.Sort Go.Shelf
set_option linter.unusedSimpArgs false
set_option linter.unusedVariables false

/-- the model's row, as read -/
def CellsM (W : World) (v : Value) (ml : List (Int × Nat)) : Prop :=
  (ml = [] ∧ v = .slice none 0 0) ∨ ∃ g c, v = .slice (some ⟨g, 0, none⟩) ml.length c ∧ ml.length ≤ c ∧ ∀ p, p < ml.length → W.cell? ⟨g, p * 2, none⟩ = some (.int .i32 (ml[p]!).1) ∧ W.cell? ⟨g, p * 2 + 1, none⟩ = some (.int .i64 ((ml[p]!).2 : Nat))

def toI : Option Nat → Int
  | none => -1
  | some j => (j : Int)

theorem info40 : (Yba.prog.info? 40).map (fun i => (i.zero, i.size, i.bytes)) = some (some (.slice none 0 0), 1, 24) := by kernel_rfl

set_option maxHeartbeats 16000000 in
set_option maxRecDepth 1000000 in
theorem lawT2 (c : Code) (hc : Yba.f5.body.bind (dropTo 65) = some c) (x0 x2 x3 x4 x5 x6 x8 x9 x11 x13 x14 x15 x17 x19 x20 x21 x22 x23 x24 x25 x26 x27 x28 x29 x30 x31 x32 x33 x34 x35 x36 x37 x38 x39 x40 x41 x42 x43 x44 x45 x46 x47 x48 x49 x50 x51 x52 x53 x54 x55 x56 x57 x58 x59 x60 x61 x62 x63 x64 x65 x66 x67 x68 x69 x70 x71 x72 x73 x74 x75 x76 x77 x78 x79 x80 x81 x82 x83 x84 x85 x86 x87 x88 x89 x90 x91 x92 x93 x94 x95 x96 x97 x98 x99 x100 x101 x102 x103 x104 x105 x106 x107 x108 x109 x110 x111 x112 x113 x114 x115 x116 x117 x118 x119 x120 x121 x122 x123 x124 x125 x126 x127 x128 x129 x130 x131 x132 x133 x134 x135 x136 x137 x138 x139 x140 x141 x142 x143 x144 x145 x146 x147 x148 x149 x150 x151 x152 x153 x154 x155 x156 x157 x158 x159 x160 x161 x162 x163 x164 x165 x166 x167 x168 x169 x170 x171 x172 x173 x174 x175 x176 x177 x178 x179 x180 x181 x182 x183 x184 x185 x186 x187 x188 x189 x190 x191 x192 x193 x194 x195 x196 x197 x198 x199 x200 x201 x202 x203 x204 x205 x206 x207 x208 x209 x210 x211 x212 x213 x214 x215 x216 x217 x218 x219 x220 x221 x222 x223 x224 x225 x226 x227 x228 x229 x230 x231 x232 x233 x234 x235 x236 x237 x238 x239 x240 x241 x242 x243 x244 x245 x246 x247 x248 x249 x250 x251 x252 x253 x254 x255 x256 x257 x258 x259 x260 x261 x262 x263 x264 x265 x266 x267 x268 x269 x270 x271 x272 x273 x274 x275 x276 x277 x278 x279 x280 x281 x282 x283 x284 x285 x286 x287 x288 x289 x290 x291 x292 x293 x294 x295 x296 x297 x298 x299 x300 x301 x302 x303 x304 x305 x306 x307 x308 x309 x310 x311 x312 x313 x314 x315 x316 x317 x318 x319 x320 x321 x322 x323 x324 x325 x326 x327 x328 x329 x330 x331 x332 x333 x334 x335 x336 x337 x338 x339 x340 x341 x342 x343 x344 x345 x346 x347 x348 x349 x350 x351 x352 x353 x354 x355 x356 x357 x358 x359 x360 x361 x362 x363 x364 x365 x366 x367 x368 x369 x370 x371 x372 x373 x374 x375 x376 x377 x378 x379 x380 x381 x382 x383 x384 x385 x386 x387 x388 x389 x390 x391 x392 x393 x394 x395 x396 x397 x398 x399 x400 x401 x402 x403 x404 x405 x406 x407 x408 x409 x410 x411 x412 x413 x414 x415 x416 x417 x418 x419 x420 x421 x422 x423 x424 x425 x426 x427 x428 : Value) (w wT : World) (N k : Nat) (tt : Nat → Option Nat) (rs : List (Int × Nat)) (a1 : Option Addr) (n1 c1 : Nat) (hd sp : Nat → Int) (vm : Value) (ml : List (Int × Nat)) (Vs : Nat → Value) (Ls : Nat → List Int)
    (S : ST w N k tt rs wT) (hin : InR w a1 n1 hd sp) (h1c : n1 ≤ c1) (hrl : rs.length ≤ n1 ∧ (0 < rs.length → 0 < k) ∧ ∀ i, i < rs.length → rs[i]! = (sp i, (hd i).toNat % k)) (hsp : SpT wT N k Vs Ls) (hcm : CellsM wT vm ml) (hml : ml.length ≤ 100000) (hmk : ∀ p ∈ ml, p.2 < k) (heq : ∀ j, j < k → (Ls j).Pairwise (· < ·) ∧ ∀ x, x ∈ Ls j ↔ ∃ h, (x, h) ∈ ml ∧ Rch tt h j) :
    Code.wp Yba.prog c (bodyPost Yba.prog Yba.f5 fun e w' => e = .returned (.bool true) ∧ Below w.heap.size w w') ⟨#[x0, .slice a1 n1 c1, x2, x3, x4, x5, x6, .int .i64 (k : Int), x8, x9, .slice (some ⟨N, 0, none⟩) k k, x11, .slice (some ⟨N + 1 + k, 0, none⟩) k k, x13, x14, x15, .pointer (some ⟨N + 5 + k, 0, none⟩), x17, vm, x19, x20, x21, x22, x23, x24, x25, x26, x27, x28, x29, x30, x31, x32, x33, x34, x35, x36, x37, x38, x39, x40, x41, x42, x43, x44, x45, x46, x47, x48, x49, x50, x51, x52, x53, x54, x55, x56, x57, x58, x59, x60, x61, x62, x63, x64, x65, x66, x67, x68, x69, x70, x71, x72, x73, x74, x75, x76, x77, x78, x79, x80, x81, x82, x83, x84, x85, x86, x87, x88, x89, x90, x91, x92, x93, x94, x95, x96, x97, x98, x99, x100, x101, x102, x103, x104, x105, x106, x107, x108, x109, x110, x111, x112, x113, x114, x115, x116, x117, x118, x119, x120, x121, x122, x123, x124, x125, x126, x127, x128, x129, x130, x131, x132, x133, x134, x135, x136, x137, x138, x139, x140, x141, x142, x143, x144, x145, x146, x147, x148, x149, x150, x151, x152, x153, x154, x155, x156, x157, x158, x159, x160, x161, x162, x163, x164, x165, x166, x167, x168, x169, x170, x171, x172, x173, x174, x175, x176, x177, x178, x179, x180, x181, x182, x183, x184, x185, x186, x187, x188, x189, x190, x191, x192, x193, x194, x195, x196, x197, x198, x199, x200, x201, x202, x203, x204, x205, x206, x207, x208, x209, x210, x211, x212, x213, x214, x215, x216, x217, x218, x219, x220, x221, x222, x223, x224, x225, x226, x227, x228, x229, x230, x231, x232, x233, x234, x235, x236, x237, x238, x239, x240, x241, x242, x243, x244, x245, x246, x247, x248, x249, x250, x251, x252, x253, x254, x255, x256, x257, x258, x259, x260, x261, x262, x263, x264, x265, x266, x267, x268, x269, x270, x271, x272, x273, x274, x275, x276, x277, x278, x279, x280, x281, x282, x283, x284, x285, x286, x287, x288, x289, x290, x291, x292, x293, x294, x295, x296, x297, x298, x299, x300, x301, x302, x303, x304, x305, x306, x307, x308, x309, x310, x311, x312, x313, x314, x315, x316, x317, x318, x319, x320, x321, x322, x323, x324, x325, x326, x327, x328, x329, x330, x331, x332, x333, x334, x335, x336, x337, x338, x339, x340, x341, x342, x343, x344, x345, x346, x347, x348, x349, x350, x351, x352, x353, x354, x355, x356, x357, x358, x359, x360, x361, x362, x363, x364, x365, x366, x367, x368, x369, x370, x371, x372, x373, x374, x375, x376, x377, x378, x379, x380, x381, x382, x383, x384, x385, x386, x387, x388, x389, x390, x391, x392, x393, x394, x395, x396, x397, x398, x399, x400, x401, x402, x403, x404, x405, x406, x407, x408, x409, x410, x411, x412, x413, x414, x415, x416, x417, x418, x419, x420, x421, x422, x423, x424, x425, x426, x427, x428], []⟩ wT := by
  conv at hc => lhs; whnf
  injection hc with hc
  subst hc
  have ST' : Hid _ := S
  have HSP : Hid _ := hsp
  have HEQ : Hid _ := heq
  have hk3 := S.k300
  have HIN : Hid _ := hin
  have HRS : Hid _ := hrl
  obtain ⟨n, HN, hn⟩ : ∃ n, Hid (n = ml.length) ∧ n ≤ 100000 := ⟨_, rfl, hml⟩
  obtain ⟨va, vc, rfl, HC⟩ : ∃ va vc, vm = .slice va n vc ∧ Hid (0 < n → ∃ g, va = some ⟨g, 0, none⟩ ∧ n ≤ vc ∧ ∀ p, p < n → wT.cell? ⟨g, p * 2, none⟩ = some (.int .i32 (ml[p]!).1) ∧ wT.cell? ⟨g, p * 2 + 1, none⟩ = some (.int .i64 ((ml[p]!).2 : Nat))) := by
    have hn := HN.out
    rcases hcm with ⟨h1, h2⟩ | ⟨g, c, h1, h2, h3⟩
    · rw [h1] at hn
      exact ⟨none, 0, by rw [h2, hn]; rfl, fun h => by simp at hn; omega⟩
    · exact ⟨some ⟨g, 0, none⟩, c, by rw [h1, hn], fun _ => ⟨g, rfl, by omega, fun p hp => h3 p (by omega)⟩⟩
  have HK2 : Hid _ := hmk
  have hmk47 := run_make_row' (P := Yba.prog) 47 40 (.slice none 0 0) 24 Yba.underlying47 info40 rfl .i64 .i64 k (by omega) (by omega) wT
  have rm := World.rowIs_made wT (.slice none 0 0) k 40
  have W0 : Hid (Wn wT k (fun _ => .slice none 0 0) (fun _ => []) (wT.alloc (.cells (madeCells #[.slice none 0 0] k) 40))) :=
    ⟨World.grownBy_alloc _ _ _, fun i hi => rm.cell hi, fun i hi => rm.frozen i, fun _ _ => World.ownsRow_nil _ _ _ _, fun _ _ _ => rfl, fun _ _ _ _ _ => Or.inl rfl, by simp⟩
  have P0 : Hid (Wsp tt k (ml.take 0) (fun _ => [])) := fun j hj => ⟨by simp, fun x => by simp⟩
  clear S hsp heq hin hrl hcm hmk hml rm
  go_upto_region 66 with fail
  clear hmk47
  generalize hwa : wT.alloc _ = wa at W0 ⊢
  clear hwa
  go_upto_block 14 with fail
  go_cut [32, 33] from 300 to 323 (fun v32 v33 wx => ∃ V L, Hid (Wn wT k V L wx) ∧ Hid (Wsp tt k ml L))
  case first =>
    go_wp2_with fail
    go_loopg [32, 33, 300] n (fun g v32 v33 vi wr => ∃ (i : Nat) (V : Nat → Value) (L : Nat → List Int), vi = .int .i64 i ∧ i ≤ n ∧ n - i ≤ g ∧ Hid (Wn wT k V L wr) ∧ Hid (Wsp tt k (ml.take i) L))
    case atStart => exact ⟨0, _, _, rfl, by omega, by omega, W0, P0⟩
    case round =>
      clear W0 P0
      obtain ⟨i, V, L, rfl, hi, hgi, W1, P1⟩ := hrel
      by_cases hlt : i < n
      · have hz : (i : Int) < (n : Int) := by omega
        obtain ⟨g, rfl, hgn, hcell⟩ := HC.out (by omega)
        obtain ⟨sp, hsp⟩ : ∃ x, x = (ml[i]!).1 := ⟨_, rfl⟩
        obtain ⟨hh, hhd⟩ : ∃ x, x = (ml[i]!).2 := ⟨_, rfl⟩
        obtain ⟨c1, c2⟩ := hcell i hlt
        rw [← hsp] at c1
        rw [← hhd] at c2
        replace c1 := gcell W1.out.kept c1
        replace c2 := gcell W1.out.kept c2
        have hmem : (sp, hh) ∈ ml := by
          have hl : i < ml.length := by have := HN.out; omega
          rw [hsp, hhd, getElem!_pos ml i hl]; exact List.getElem_mem hl
        have hdk : hh < k := HK2.out _ hmem
        have HTK : Hid (ml.take (i + 1) = ml.take i ++ [(sp, hh)]) := by
          show _ = _
          have hl : i < ml.length := by have := HN.out; omega
          rw [List.take_add_one, List.getElem?_eq_getElem hl, hsp, hhd, getElem!_pos ml i hl]
          rfl
        clear hcell hsp hhd hmem
        go_upto_block 16 with fail
        generalize hwb : wr.alloc _ = wb
        obtain ⟨mb, hmb⟩ : ∃ b, b = wr.heap.size := ⟨_, rfl⟩
        rw [← hmb]
        have hga : wr.grownBy wb none := by rw [← hwb]; exact World.grownBy_alloc _ _ _
        have s0 : wb.cell? ⟨mb, 0, none⟩ = some (.int .i32 sp) := by rw [← hwb, hmb]; simp
        have W2 : Hid (Wn wT k V L wb) := W1.out.grown hga
        have NE0 : Hid (∀ j, j < k → some mb ≠ (V j).ownBlock) := fun j hj e => by
          have := ((W1.out.row j hj).lt mb e.symm).2; omega
        have hmbS : wT.heap.size < mb := by have := W1.out.lt; omega
        have M0 : Hid (WsM tt k (ml.take i) sp hh (some hh) L) := P1.out.start sp hh
        clear hwb hga hmb W1 P1 c1 c2
        go_wp2_with fail
        go_loopg [33] (k - hh) (fun g v33 wr => ∃ (o : Option Nat) (V : Nat → Value) (L : Nat → List Int), v33 = .int .i64 (toI o) ∧ (∀ s, o = some s → s < k ∧ k - s ≤ g) ∧ wr.cell? ⟨mb, 0, none⟩ = some (.int .i32 sp) ∧ Hid (Wn wT k V L wr) ∧ Hid (WsM tt k (ml.take i) sp hh o L) ∧ Hid (∀ j, j < k → some mb ≠ (V j).ownBlock))
        case atStart => exact ⟨some hh, V, L, rfl, fun s e => by cases e; exact ⟨hdk, Nat.le_refl _⟩, s0, W2, M0, NE0⟩
        case round =>
          clear W2 M0 NE0 s0
          obtain ⟨o, V, L, rfl, hok, s0, W2, SM, NE⟩ := hrel
          cases o with
          | none =>
            simp only [toI]
            go_wp2
            go_roundg (n - (i + 1))
            case measure => omega
            case rel => exact ⟨i + 1, V, L, by go_num, by omega, Nat.le_refl _, W2, (show Wsp tt k (ml.take (i + 1)) L from by rw [HTK.out]; exact SM.out.fin)⟩
          | some s =>
            simp only [toI]
            obtain ⟨hsk, hgs2⟩ := hok s rfl
            have cs := W2.out.cell s hsk
            have fs := W2.out.frz s hsk
            have ct : wr.cell? ⟨N + 1 + k, s, none⟩ = some (.int .i64 (toI (tt s))) := by
              have := (ST'.out.kept W2.out.kept).ti s hsk
              rw [this]; cases tt s <;> rfl
            obtain ⟨m, HM, hm⟩ : ∃ m, Hid (m = (L s).length) ∧ m ≤ 100001 := ⟨_, rfl, by
              have := (SM.out.2 s hsk).1
              have h2 : (ml.take i).length ≤ i := by simp; omega
              split at this <;> omega⟩
            obtain ⟨a, c, hV⟩ : ∃ a c, V s = .slice a m c := by
              rcases (W2.out.row s hsk).2 with ⟨h1, h2⟩ | ⟨g, cap, cur, h1, _⟩
              · exact ⟨none, 0, by rw [h1, HM.out, h2]⟩
              · exact ⟨_, _, by rw [h1, HM.out]⟩
            have HV : Hid _ := hV
            rw [hV] at cs
            clear hV
            have neS := W2.out.ne hsk (b := wT.heap.size) (Nat.le_refl _)
            have neB := NE.out s hsk
            have hTl : N + 1 + k < wT.heap.size := by have := ST'.out.big; omega
            have neT := W2.out.ne hsk (b := N + 1 + k) (by omega)
            rw [HV.out] at neS neB neT
            have hszc := W2.out.lt
            have hro : Hid (wr.ownsRow (wT.heap.size + 1) 21 1 (.slice a m c) m ((L s).map (Value.int .i32))) := by have := W2.out.row s hsk; rw [HV.out, ← HM.out] at this; exact this
            have KA : Hid ((wr.alloc (.cells #[.int .i32 sp] 21)).drew.cell? ⟨wT.heap.size, s, none⟩ = some (.slice a m c) ∧ (wr.alloc (.cells #[.int .i32 sp] 21)).drew.cell? ⟨mb, 0, none⟩ = some (.int .i32 sp) ∧ (wr.alloc (.cells #[.int .i32 sp] 21)).drew.frozen? ⟨wT.heap.size, s, none⟩ = false) :=
              ⟨gcell (World.grownBy_alloc wr _ none) cs, gcell (World.grownBy_alloc wr _ none) s0, (World.frozen?_of_block ((World.grownBy_alloc wr _ none).block wT.heap.size hszc (by simp))).trans fs⟩
            have kA1 : (wr.alloc (.cells #[.int .i32 sp] 21)).cell? ⟨wT.heap.size, s, none⟩ = some (.slice a m c) := KA.out.1
            have z1 : (s : Int) < (k : Int) := by omega
            have z2 : (0 : Int) ≤ (s : Int) := by omega
            go_upto_region 72 with fail
            go_region_law ((refine stepA A21 (by rfl) _ _ (by rfl) (wT.heap.size + 1) _ _ _ (by rfl) ((hro.out.alloc _).drew) wr.heap.size #[.int .i32 sp] (by rfl) (heap_alloc_new wr _) rfl (by simp [Value.oneCell']) (by omega) (by simp; omega) (wr.heap.size + 1) (by simp) ?_; intro gg cc w1 hown1 hgrow hat hlt1; have c7 := hgrow.cell KA.out.1 neS; have f7 := (World.frozen?_of_block (hgrow.block wT.heap.size (by simp; omega) neS)).trans KA.out.2.2; have s7 := hgrow.cell KA.out.2.1 neB))
            all_goals
              have hsbl : mb < wr.heap.size := World.block_lt_of_cell? _ _ s0
              have W4 : Hid (Wn wT k (Sk.upd V s (.slice (some ⟨gg, 0, none⟩) (m + 1) cc)) (Sk.upd L s (L s ++ [sp])) (w1.setCell ⟨wT.heap.size, s, none⟩ (.slice (some ⟨gg, 0, none⟩) (m + 1) cc))) :=
                W2.out.app ((World.grownBy_alloc wr _ none).trans (gdrew _ none)) hsk sp (by rw [← HM.out]; exact hown1) (by rw [HV.out]; exact hgrow) (by rw [HV.out]; exact hat) (by omega)
              have NE4 : Hid (∀ j, j < k → some mb ≠ (Sk.upd V s (.slice (some ⟨gg, 0, none⟩) (m + 1) cc) j).ownBlock) := fun j hj => by
                unfold Sk.upd
                by_cases e : j = s
                · rw [if_pos e]
                  show some mb ≠ some gg
                  rcases hat with h | h
                  · rw [← h]; exact neB
                  · intro e'; cases e'; omega
                · rw [if_neg e]; exact NE.out j hj
              have s8 : (w1.setCell ⟨wT.heap.size, s, none⟩ (.slice (some ⟨gg, 0, none⟩) (m + 1) cc)).cell? ⟨mb, 0, none⟩ = some (.int .i32 sp) := by
                rw [World.cell?_setCell_other _ _ _ _ (by intro e; simp only [Addr.mk.injEq] at e; omega)]; exact s7
              have ct8 : (w1.setCell ⟨wT.heap.size, s, none⟩ (.slice (some ⟨gg, 0, none⟩) (m + 1) cc)).cell? ⟨N + 1 + k, s, none⟩ = some (.int .i64 (toI (tt s))) := by
                have := (ST'.out.kept W4.out.kept).ti s hsk
                rw [this]; cases tt s <;> rfl
              generalize hw9 : w1.setCell _ _ = w9 at W4 s8 ct8 ⊢
              clear hw9 c7 f7 s7 hown1 hgrow kA1 KA hro W2 s0 cs ct fs neS neB neT
              go_wp2
              go_roundg (k - s - 1)
              case measure => omega
              case rel => exact ⟨tt s, _, _, rfl, fun s' e => ⟨(ST'.out.toLt s s' e).2, by have := (ST'.out.toLt s s' e).1; omega⟩, s8, W4, SM.out.next ST'.out.toLt hsk, NE4⟩
      · have hz : ¬ (i : Int) < (n : Int) := by omega
        go_wp2_with fail
        go_meet
        case rel => exact ⟨V, L, W1, (show Wsp tt k ml L from by have := P1.out; rw [List.take_of_length_le (by have := HN.out; omega)] at this; exact this)⟩
  case rest =>
    obtain ⟨V, L, W3, P3⟩ := hcut
    refine ‹∀ (a : Act) (w : World), Code.wp Yba.prog _ _ a w → _› _ _ ?_
    exact lawT3 _ (by kernel_rfl) _ _ _ _ _ _ _ _ _ _ _ _ _ _ _ _ _ _ _ _ _ _ _ _ _ _ _ _ _ _ _ _ _ _ _ _ _ _ _ _ _ _ _ _ _ _ _ _ _ _ _ _ _ _ _ _ _ _ _ _ _ _ _ _ _ _ _ _ _ _ _ _ _ _ _ _ _ _ _ _ _ _ _ _ _ _ _ _ _ _ _ _ _ _ _ _ _ _ _ _ _ _ _ _ _ _ _ _ _ _ _ _ _ _ _ _ _ _ _ _ _ _ _ _ _ _ _ _ _ _ _ _ _ _ _ _ _ _ _ _ _ _ _ _ _ _ _ _ _ _ _ _ _ _ _ _ _ _ _ _ _ _ _ _ _ _ _ _ _ _ _ _ _ _ _ _ _ _ _ _ _ _ _ _ _ _ _ _ _ _ _ _ _ _ _ _ _ _ _ _ _ _ _ _ _ _ _ _ _ _ _ _ _ _ _ _ _ _ _ _ _ _ _ _ _ _ _ _ _ _ _ _ _ _ _ _ _ _ _ _ _ _ _ _ _ _ _ _ _ _ _ _ _ _ _ _ _ _ _ _ _ _ _ _ _ _ _ _ _ _ _ _ _ _ _ _ _ _ _ _ _ _ _ _ _ _ _ _ _ _ _ _ _ _ _ _ _ _ _ _ _ _ _ _ _ _ _ _ _ _ _ _ _ _ _ _ _ _ _ _ _ _ _ _ _ _ _ _ _ _ _ _ _ _ _ _ _ _ _ _ _ _ _ _ _ _ _ _ _ _ _ _ _ _ _ _ _ _ _ _ _ _ _ _ _ _ _ _ _ _ _ _ _ _ _ _ _ _ _ _ _ _ _ _ _ _ _ _ _ _ _ _ _ _ _ _ _ _ _ _ _ _ _ _ _ _ _ _ _ _ _ _ _ _ _ _ _ _ _ _ _ _ _ w wT _ N k tt rs a1 n1 c1 hd sp V Vs L Ls ST'.out HIN.out h1c HRS.out HSP.out (fun j hj => ⟨(HEQ.out j hj).1, fun x => by rw [(HEQ.out j hj).2 x, (P3.out j hj).2 x]⟩) ⟨W3.out.kept, fun i _ hi => W3.out.cell i hi, fun i _ hi => W3.out.row i hi, W3.out.nil, W3.out.apart, fun i hi => by have := (P3.out i hi).1; have := HN.out; omega⟩
end Go.Proofs.Ybulkecac
