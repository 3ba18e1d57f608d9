import Derived.Test.YbulkecacOrdA
import Derived.Test.YbulkecacLay
import Derived.Deep.CutBlock
import Derived.Sort.LotD1
import Derived.Sort.LotD5
import Derived.Laws.Bits64b
namespace Go.Proofs.Ybulkecac
open Go.RowKit Go.Sort Go.Shelf
set_option linter.unusedSimpArgs false
set_option linter.unusedVariables false

theorem len_ (n : Nat) (hn : n < 4611686018427387904) (w : World) : Calls Yba.prog 23 #[.int .u64 (n : Int)] w fun e w' => e = .returned (.int .i64 (bitsLen n : Nat)) ∧ w' = w := by
  have h := Any.bits_Len (SlLaysF0.n15.bits { Yba.lsf with }) (n : Int) w (by omega) (by omega)
  rw [Int.toNat_natCast, bitLen_eq _ (by omega)] at h
  exact h

theorem npow_ (n : Nat) (hn : n < 4611686018427387904) (w : World) : Calls Yba.prog 47 #[.int .i64 n] w fun e w' => e = .returned (.int .u64 ((1 <<< bitsLen n : Nat) : Int)) ∧ w' = w :=
  AnyF.nextPowerOfTwo { Yba.lsf with } n hn w

theorem xor_ (rb X : Nat) (hX : X < 18446744073709551616) (w : World) (hc : w.cell? ⟨rb, 0, none⟩ = some (.int .u64 X)) (hf : w.frozen? ⟨rb, 0, none⟩ = false) :
    Calls Yba.prog 48 #[.pointer (some ⟨rb, 0, none⟩)] w fun e w' => e = .returned (.int .u64 (xorNextN X : Nat)) ∧ w' = (w.setCell ⟨rb, 0, none⟩ (.int .u64 (xorNextN X : Nat))).drewN 3 :=
  AnyF.xorshift_Next { Yba.lsf with } rb 0 X hX w hc hf

/-- the random state at block c beside the row -/
structure Cu (w0 : World) (blk off : Nat) (d : Array Int) (c s : Nat) (W : World) : Prop where
  si : SI w0 blk off d W
  cell : W.cell? ⟨c, 0, none⟩ = some (.int .u64 s)
  froz : W.frozen? ⟨c, 0, none⟩ = false
  new : w0.heap.size ≤ c
  lt : c < W.heap.size

theorem Cu.step {w0 W : World} {blk off : Nat} {d : Array Int} {c s : Nat} (h : Cu w0 blk off d c s W) (t n : Nat) : Cu w0 blk off d c t ((W.setCell ⟨c, 0, none⟩ (.int .u64 t)).drewN n) :=
  ⟨(h.si.setNew c 0 _ h.new).drewN n, World.cell?_setCell_same' _ _ _ (by rw [h.cell]; rfl), (by rw [World.frozen?_setCell]; exact h.froz : (W.setCell ⟨c, 0, none⟩ (.int .u64 t)).frozen? ⟨c, 0, none⟩ = false), h.new, (by simpa using h.lt : c < (W.setCell ⟨c, 0, none⟩ (.int .u64 t)).heap.size)⟩

theorem Cu.swap {w0 W : World} {blk off : Nat} {d : Array Int} {c s : Nat} (h : Cu w0 blk off d c s W) (i j : Nat) (hi : i < d.size) (hj : j < d.size) :
    Cu w0 blk off (swp d i j) c s ((W.setCell ⟨blk, off + i, none⟩ (.int .i32 d[j]!)).setCell ⟨blk, off + j, none⟩ (.int .i32 d[i]!)).drew := by
  have hne : c ≠ blk := by have := h.si.blk0; have := h.new; omega
  refine ⟨(h.si.swap i j hi hj).drew, ?_, ?_, h.new, ?_⟩
  · show ((W.setCell _ _).setCell _ _).cell? _ = _
    rw [World.cell?_setCell_other _ _ _ _ (by intro e; simp only [Addr.mk.injEq] at e; exact hne e.1.symm), World.cell?_setCell_other _ _ _ _ (by intro e; simp only [Addr.mk.injEq] at e; exact hne e.1.symm)]
    exact h.cell
  · show ((W.setCell _ _).setCell _ _).frozen? _ = _
    rw [World.frozen?_setCell, World.frozen?_setCell]; exact h.froz
  · show c < ((W.setCell _ _).setCell _ _).heap.size
    simpa using h.lt

theorem Cu.start {w0 W : World} {blk off : Nat} {d : Array Int} (h : SI w0 blk off d W) (s : Nat) (T : TypeId) : Cu w0 blk off d W.heap.size s (W.alloc (.cells #[.int .u64 s] T)) :=
  ⟨h.alloc _, by simp, by simp, h.kept.size, by simp⟩

set_option maxRecDepth 100000 in
set_option maxHeartbeats 4000000 in
/-- slices.breakPatternsOrdered at int32: it permutes [a, b). -/
theorem break_ (w0 : World) (blk off cap a b : Nat) (d : Array Int) (w : World) (S : SI w0 blk off d w) (hab : a ≤ b) (hb : b ≤ d.size) (hsz : d.size < 2305843009213693952) :
    Calls Yba.prog 29 #[.slice (some ⟨blk, off, none⟩) d.size cap, .int .i64 a, .int .i64 b] w fun e w' =>
      e = .returned (.tuple #[]) ∧ ∃ d', PermIn a b d d' ∧ SI w0 blk off d' w' := by
  have S0 : Hid (SI w0 blk off d w) := S
  clear S
  obtain ⟨l, HL, hl1, hl2⟩ : ∃ l : Nat, Hid (l = b - a) ∧ (b : Int) - (a : Int) = (l : Int) ∧ l ≤ d.size := ⟨b - a, rfl, by omega, by omega⟩
  have v1 : IntKind.i64.wrap (l : Int) = l := by rw [IntKind.wrap_i64]; omega
  have v1' : IntKind.u64.wrap (l : Int) = l := by rw [IntKind.wrap_u64]; omega
  by_cases h8 : 8 ≤ l
  · have h8z : (8 : Int) ≤ (l : Int) := by omega
    obtain ⟨q, HQ, hq1, hq2⟩ : ∃ q : Nat, Hid (q = l / 4) ∧ (l : Int) / 4 = (q : Int) ∧ q ≤ d.size := ⟨l / 4, rfl, by omega, by omega⟩
    have hq3 : (l : Int).tdiv 4 = (q : Int) := by rw [Int.tdiv_eq_ediv_of_nonneg (by omega)]; exact hq1
    obtain ⟨j, HJ, hj1, hj2⟩ : ∃ i : Nat, Hid (i = a + q * 2) ∧ (a : Int) + (q : Int) * 2 = (i : Int) ∧ i + 1 < d.size := ⟨a + q * 2, rfl, by omega, by have := HQ.out; have := HL.out; omega⟩
    have RNG : Hid (a ≤ j - 1 ∧ j + 1 < b ∧ 1 ≤ j) := by show _ ∧ _; have := HQ.out; have := HL.out; have := HJ.out; omega
    have v2 : IntKind.i64.wrap (q : Int) = q := by rw [IntKind.wrap_i64]; omega
    have v3 : IntKind.i64.wrap ((q : Int) * 2) = (q : Int) * 2 := by rw [IntKind.wrap_i64]; omega
    have v6 : IntKind.i64.wrap (j : Int) = j := by rw [IntKind.wrap_i64]; omega
    obtain ⟨M, HM⟩ : ∃ M : Nat, Hid (M = 1 <<< bitsLen l) := ⟨_, rfl⟩
    have hM1 : 1 ≤ M := by rw [HM.out, Nat.one_shiftLeft]; exact Nat.two_pow_pos _
    have hM2 : M ≤ 2 * l := by rw [HM.out, Nat.one_shiftLeft]; exact two_pow_bitsLen_le (by omega)
    have S1 : Hid _ := Cu.start S0.out l 131
    have C1 : Hid (∀ W, _) := fun W => npow_ l (by omega) W
    rw [← HM.out] at C1
    go_enter Yba.func29, Yba.ntmps29
    go_wp2_with fail
    refine (C1.out _).mono ?_
    rintro e w1 ⟨rfl, rfl⟩
    clear C1 S0
    go_wp2_with fail
    have hj3 := RNG.out.2.2
    go_loopg [9] 3 (fun g v wr => ∃ (i X : Nat) (dk : Array Int), v = .int .i64 i ∧ j - 1 ≤ i ∧ i ≤ j + 2 ∧ j + 2 - i ≤ g ∧ X < 18446744073709551616 ∧ dk.size = d.size ∧ Hid (PermIn a b d dk) ∧ Hid (Cu w0 blk off dk w.heap.size X wr))
    case atStart => exact ⟨j - 1, l, d, by go_num, by omega, by omega, by omega, by omega, rfl, permIn_refl _ _ _, S1⟩
    case round =>
      clear S1
      obtain ⟨i, X, dk, rfl, hi1, hi2, hg, hX, hsk, HP, SC⟩ := hrel
      by_cases hlt : i ≤ j + 1
      · have hltz : (i : Int) ≤ (j : Int) + 1 := by omega
        have C2 : Hid _ := xor_ w.heap.size X hX wr SC.out.cell SC.out.froz
        obtain ⟨Y, HY, hY⟩ : ∃ Y : Nat, Hid (Y = xorNextN X) ∧ Y < 18446744073709551616 := ⟨_, rfl, xorNextN_lt X hX⟩
        rw [← HY.out] at C2
        have S2 : Hid _ := SC.out.step Y 3
        go_wp2_with fail
        refine Calls.mono C2.out ?_
        rintro e w2 ⟨rfl, hw2⟩
        rw [← hw2] at S2
        clear hw2 C2 SC
        obtain ⟨O, HO, hO⟩ : ∃ O : Nat, Hid (O = Y &&& (M - 1)) ∧ O ≤ M - 1 := ⟨_, rfl, Nat.and_le_right⟩
        have eAnd : bits .and .u64 (Y : Int) ((M : Int) - 1) = (O : Int) := by
          rw [show ((M : Int) - 1) = ((M - 1 : Nat) : Int) by omega, bits_and_u64_nat _ _ hY (by omega), HO.out]
        have v7 : IntKind.u64.wrap ((M : Int) - 1) = (M : Int) - 1 := by rw [IntKind.wrap_u64]; omega
        have v8 : IntKind.i64.wrap (O : Int) = O := by rw [IntKind.wrap_i64]; omega
        obtain ⟨O2, HO2, hO2⟩ : ∃ O2 : Nat, Hid (O2 = if l ≤ O then O - l else O) ∧ O2 < l := ⟨_, rfl, by split <;> omega⟩
        go_upto_if 43 with fail
        go_cut [10] from 43 to 46 (fun v wx => v = .int .i64 O2 ∧ wx = w2)
        case first =>
          by_cases hOl : l ≤ O
          · have z1 : (l : Int) ≤ (O : Int) := by omega
            have z2 : (O : Int) - (l : Int) = (O2 : Int) := by rw [HO2.out, if_pos hOl]; omega
            have z3 : IntKind.i64.wrap (O2 : Int) = O2 := by rw [IntKind.wrap_i64]; omega
            go_wp2_with fail
            go_meet
            case rel => exact ⟨rfl, rfl⟩
          · have z1 : ¬ (l : Int) ≤ (O : Int) := by omega
            have z2 : Hid ((O : Int) = (O2 : Int)) := by show _ = _; rw [HO2.out, if_neg hOl]
            go_wp2_with fail
            go_meet
            case rel => exact ⟨by rw [z2.out], rfl⟩
        case rest =>
          obtain ⟨rfl, rfl⟩ := hcut
          clear eAnd v7 v8 hO
          obtain ⟨p, HPP, hp1, hp2⟩ : ∃ p : Nat, Hid (p = a + O2) ∧ (a : Int) + (O2 : Int) = (p : Int) ∧ p < d.size := ⟨_, rfl, by omega, by have := HL.out; omega⟩
          have RP : Hid (a ≤ p ∧ p < b) := by show _ ∧ _; have := HPP.out; have := HL.out; omega
          have v9 : IntKind.i64.wrap (p : Int) = p := by rw [IntKind.wrap_i64]; omega
          have b1 : (i : Int) < (d.size : Int) := by omega
          have b2 : (p : Int) < (d.size : Int) := by omega
          obtain ⟨x, hx⟩ : ∃ x, x = dk[i]! := ⟨_, rfl⟩
          obtain ⟨y, hy⟩ : ∃ x, x = dk[p]! := ⟨_, rfl⟩
          have c1 := S2.out.si.cell i (by omega)
          have c2 := S2.out.si.cell p (by omega)
          have f1 := S2.out.si.froz i (by omega)
          have f2 := S2.out.si.froz p (by omega)
          obtain ⟨u, c3⟩ := S2.out.si.cell2 i p (by omega) (by omega) (.int .i32 y)
          have S3 := S2.out.swap i p (by omega) (by omega)
          rw [← hx] at c1 S3
          rw [← hy] at c2 S3
          have S4 : Hid _ := S3
          clear S3 S2 hx hy
          go_wp2_with fail
          go_big_region
          clear c1 c2 c3 f1 f2
          generalize World.drew _ = w5 at S4 ⊢
          go_wp2
          go_roundg (j + 2 - (i + 1))
          case measure => omega
          case rel => exact ⟨i + 1, Y, swp dk i p, by go_num, by omega, by omega, by omega, hY, by rw [size_swp]; exact hsk, permIn_trans _ _ _ _ _ HP.out (swp_permIn dk a b i p (by have := RNG.out; omega) (by have := RNG.out; omega) RP.out.1 RP.out.2 (by omega)), S4⟩
      · have hltz : ¬ (i : Int) ≤ (j : Int) + 1 := by omega
        go_wp2
        go_end0
        exact ⟨rfl, dk, HP.out, SC.out.si⟩
  · have h8z : ¬ (8 : Int) ≤ (l : Int) := by omega
    go_enter Yba.func29, Yba.ntmps29
    go_wp2
    go_end0
    exact ⟨rfl, d, permIn_refl _ _ _, S0.out⟩
end Go.Proofs.Ybulkecac
