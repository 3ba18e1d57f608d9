import Derived.Test.YbulkecacUWalk
namespace Go.Proofs.Ybulkecac
open Go.RowKit
set_option linter.unusedSimpArgs false
set_option linter.unusedVariables false

def copied (xs : List Int) : Array Value := (xs.map (Value.int .u8)).toArray

theorem add_plain (b o i : Nat) : (⟨b, o, none⟩ : Addr).add i = ⟨b, o + i, none⟩ := by unfold Addr.add; split <;> simp_all

theorem run_cpR (w : World) (a : Option Addr) (n cap : Nat) (xs : List Int) (h : Row w.heap.size w a n cap xs) (ty : TypeId) :
    (Builtin.copy_ #[22, 22] ty #[.slice (some ⟨w.heap.size, 0, none⟩) n n, .slice a n cap]).run Yba.prog (w.alloc (.cells (zeros n) 5)) = .ok (goInt n) (w.alloc (.cells (copied xs) 5)) := by
  obtain ⟨h1, h2, h3, h4, h5, h6⟩ := h
  rcases Nat.eq_zero_or_pos n with rfl | hp
  · obtain rfl : xs = [] := List.eq_nil_of_length_eq_zero h1
    have := run_copy_none (P := Yba.prog) (w.alloc (.cells (zeros 0) 5)) 22 22 ty 5 (some ⟨w.heap.size, 0, none⟩) a 0 0 0 cap Yba.underlying22 size5 (by simp)
    rw [this]
    have e : zeros 0 = copied [] := by simp [zeros, madeCells, copied]
    rw [e]
    rfl
  · obtain ⟨bb, off, rfl, hlt, hc⟩ := h5 hp
    have := run_cp w ⟨bb, off, none⟩ n cap xs (by omega) (.inr hlt) (fun i hi => by rw [add_plain]; exact hc i (by omega)) ty
    rw [this]
    have e : cpCells xs n = copied xs := by unfold cpCells copied; rw [List.take_of_length_le (by omega)]
    rw [e]

theorem conv_Row (b : Nat) (w : World) (a : Option Addr) (n c : Nat) (xs : List Int) (h : Row b w a n c xs) :
    (convert 22 9 (.slice a n c)).run Yba.prog w = .ok (.string (strOfNums xs)) w := by
  obtain ⟨h1, h2, h3, h4, h5, h6⟩ := h
  have ht : xs.take n = xs := List.take_of_length_le (by omega)
  cases a with
  | none =>
    have := h4 rfl
    obtain rfl : xs = [] := List.eq_nil_of_length_eq_zero (by omega)
    exact conv_nil w n c
  | some x =>
    have := conv_row w x n c xs (by omega) (fun i hi => by
      obtain ⟨bb, off, e, hlt, hc⟩ := h5 (by omega)
      cases e
      rw [add_plain]; exact hc i hi)
    rwa [ht] at this

theorem row_copied (w : World) (n : Nat) (xs : List Int) (h1 : xs.length = n) (hn : n ≤ 140737488351232) (h6 : ∀ y ∈ xs, 0 ≤ y ∧ y ≤ 255) :
    Row (w.heap.size + 1) (w.alloc (.cells (copied xs) 5)) (some ⟨w.heap.size, 0, none⟩) n n xs := by
  refine ⟨h1, Nat.le_refl _, hn, by simp, fun hp => ⟨w.heap.size, 0, rfl, Nat.lt_succ_self _, fun i hi => ?_⟩, h6⟩
  rw [cell_of_row _ _ _ _ _ _ (heap_alloc_new w _)]
  have : i < xs.length := by omega
  simp [copied, List.getD, this]

/-- what holds at each round's head -/
def SInv (b m n : Nat) (xs : List Int) (W0 : World) (pos short i : Value) (wr : World) : Prop :=
  ∃ (i0 p : Nat) (sh : Bool) (ys : List Int), i0 ≤ m ∧ pos = .int .i64 (p : Int) ∧ short = .bool sh ∧ i = .int .i64 (i0 : Int) ∧ p ≤ n ∧ RD b sh ys wr ∧ Below b W0 wr ∧ (sh = false → ys = xs.drop p)

theorem beOf_drop (xs : List Int) (p : Nat) : beOf (xs.drop p) = be4 (xs.getD p 0) (xs.getD (p + 1) 0) (xs.getD (p + 2) 0) (xs.getD (p + 3) 0) := by
  simp [beOf, List.getD, List.getElem?_drop]

/-- zzs6424abe at a place of the data, in a later world -/
theorem abe_at (b : Nat) (w : World) (a : Option Addr) (n c p : Nat) (xs : List Int) (h : Row b w a n c xs) (hp : p + 4 ≤ n) (hn : n ≤ 1048576) :
    Calls Yba.prog 11 #[.slice a n c, .int .i64 (p : Int)] w fun e w' => e = .returned (.int .u64 (beOf (xs.drop p))) ∧ ∃ m, w' = w.drewN m := by
  obtain ⟨h1, h2, h3, h4, h5, h6⟩ := h
  obtain ⟨bb, off, rfl, hlt, hc⟩ := h5 (by omega)
  rw [beOf_drop]
  exact abe bb off n c p _ _ _ _ w (getD_bd h6 _) (getD_bd h6 _) (getD_bd h6 _) (getD_bd h6 _) hp hn (hc p (by omega)) (hc (p + 1) (by omega)) (hc (p + 2) (by omega)) (hc (p + 3) (by omega))

set_option maxHeartbeats 4000000 in
set_option maxRecDepth 100000 in
theorem s_main (a0 : Option Addr) (n cap : Nat) (xs : List Int) (a1 : Option Addr) (m cap1 : Nat) (ss : List Int) (w : World) (hn : n ≤ 1048576) (hm : m ≤ 65536)
    (hD : Row w.heap.size w a0 n cap xs) (hS : Row w.heap.size w a1 m cap1 ss) :
    Calls Yba.prog 4 #[.slice a0 n cap, .slice a1 m cap1] w fun e w' => e = .returned (.bool true) ∧ Below w.heap.size w w' := by
  have hmk := run_mk w n (by omega)
  have hcp := run_cpR w a0 n cap xs hD
  have t1 : ¬ (65536 : Int) < (m : Int) := by omega
  have t2 : ¬ (1048576 : Int) < (n : Int) := by omega
  have hA1 : Below w.heap.size w (w.alloc (.cells (copied xs) 5)) := (Below.refl _ _).alloc (Nat.le_refl _) _
  have hD1 := hD.below hA1
  have hC1 := row_copied w n xs hD.1 (by omega) hD.2.2.2.2.2
  have hxl := hD.1
  go_enter Yba.func4, Yba.ntmps4
  go_wp2_with fail
  clear hmk hcp t1 t2
  go_loopw [7, 8, 9] (fun p s i wr => SInv (w.heap.size + 1) m n xs (w.alloc (.cells (copied xs) 5)) p s i wr) (fun _ _ i _ => m - (intOf i).toNat)
  case atStart =>
    have hA2 : Below (w.heap.size + 1) (w.alloc (.cells (copied xs) 5)) ((w.alloc (.cells (copied xs) 5)).alloc (.cells #[.slice a0 n cap, .bool false] 25)) := (Below.refl _ _).alloc (by simp) _
    refine ⟨0, 0, false, xs, by omega, rfl, rfl, rfl, by omega, ⟨by simp, by simp, by simp, a0, n, cap, by simp, ?_⟩, hA2, fun _ => by simp⟩
    have := hD1.below (hA2.mono (Nat.le_succ _))
    obtain ⟨g1, g2, g3, g4, g5, g6⟩ := this
    refine ⟨g1, g2, g3, g4, fun hp => ?_, g6⟩
    obtain ⟨bb, off, e, hlt, hc⟩ := g5 hp
    exact ⟨bb, off, e, by omega, hc⟩
  case round =>
    obtain ⟨i0, p, sh, ys, hi0, rfl, rfl, rfl, hp, hR, hB, hys⟩ := hrel
    by_cases hlt : i0 < m
    · have hS' := hS
      obtain ⟨r1, r2, r3, r4, r5, r6⟩ := hS'
      obtain ⟨b1, o1, rfl, hb1, hc1⟩ := r5 (by omega)
      have hcs : wr.cell? ⟨b1, o1 + i0, none⟩ = some (.int .u8 (ss.getD i0 0)) := by
        rw [hB.cell (p := ⟨b1, o1 + i0, none⟩) (by show b1 < _; omega), hA1.cell (p := ⟨b1, o1 + i0, none⟩) (by show b1 < _; omega)]
        exact hc1 i0 hlt
      obtain ⟨s0, s1⟩ := getD_bd r6 i0
      generalize ss.getD i0 0 = s at hcs s0 s1
      clear hc1 r5
      rcases (by omega : s % 3 = 0 ∨ s % 3 = 1 ∨ s % 3 = 2) with h3 | h3 | h3
      · have q0 : (s % 3 == 0) = true := by simp [h3]
        clear h3
        obtain ⟨k, hk⟩ := Int.eq_ofNat_of_zero_le (show 0 ≤ s / 3 % 8 by omega)
        have hk7 : k ≤ 7 := by omega
        cases sh
        · have hys' := hys rfl
          subst hys'
          clear hys
          by_cases hc : n - p < k
          · have q1 : (n : Int) - (p : Int) < (k : Int) := by omega
            go_wp2_with fail
            refine (next_no (w.heap.size + 1) k false _ wr hR (.inr (by simp; omega)) (by omega)).mono ?_
            rintro e w1 ⟨rfl, hR1, hB1⟩
            go_wp2_with fail
            go_roundw
            case rel => exact ⟨i0 + 1, p, true, _, by omega, rfl, rfl, by go_num, hp, hR1, hB.trans hB1, by simp⟩
            case measure => simp [intOf]; omega
          · have q1 : ¬ (n : Int) - (p : Int) < (k : Int) := by omega
            go_wp2_with fail
            refine (next_yes (w.heap.size + 1) k _ wr hR (by simp; omega)).mono ?_
            rintro e w1 ⟨⟨a, c, rfl, hr⟩, hR1, hB1⟩
            rw [List.drop_drop] at hR1
            go_wp2_with fail
            go_roundw
            case rel => exact ⟨i0 + 1, p + k, false, _, by omega, by go_num, rfl, by go_num, by omega, hR1, hB.trans hB1, fun _ => rfl⟩
            case measure => simp [intOf]; omega
        · go_wp2_with fail
          refine (next_no (w.heap.size + 1) k true _ wr hR (.inl rfl) (by omega)).mono ?_
          rintro e w1 ⟨rfl, hR1, hB1⟩
          go_wp2_with fail
          go_roundw
          case rel => exact ⟨i0 + 1, p, true, _, by omega, rfl, rfl, by go_num, hp, hR1, hB.trans hB1, by simp⟩
          case measure => simp [intOf]; omega
      · have q0 : (s % 3 == 0) = false := by simp [h3]
        have q0' : (s % 3 == 1) = true := by simp [h3]
        clear h3
        cases sh
        · have hys' := hys rfl
          subst hys'
          clear hys
          by_cases hc : n - p < 4
          · have q1 : (n : Int) - (p : Int) < 4 := by omega
            go_wp2_with fail
            refine (u32_no (w.heap.size + 1) false _ wr hR (.inr (by simp; omega))).mono ?_
            rintro e w1 ⟨rfl, hR1, hB1⟩
            go_wp2_with fail
            go_roundw
            case rel => exact ⟨i0 + 1, p, true, _, by omega, rfl, rfl, by go_num, hp, hR1, hB.trans hB1, by simp⟩
            case measure => simp [intOf]; omega
          · have q1 : ¬ (n : Int) - (p : Int) < 4 := by omega
            go_wp2_with fail
            refine (u32_yes (w.heap.size + 1) _ wr hR (by simp; omega)).mono ?_
            rintro e w1 ⟨rfl, hR1, hB1⟩
            rw [List.drop_drop] at hR1
            go_wp2_with fail
            go_roundw
            case rel => exact ⟨i0 + 1, p + 4, false, _, by omega, by go_num, rfl, by go_num, by omega, hR1, hB.trans hB1, fun _ => rfl⟩
            case measure => simp [intOf]; omega
        · go_wp2_with fail
          refine (u32_no (w.heap.size + 1) true _ wr hR (.inl rfl)).mono ?_
          rintro e w1 ⟨rfl, hR1, hB1⟩
          go_wp2_with fail
          go_roundw
          case rel => exact ⟨i0 + 1, p, true, _, by omega, rfl, rfl, by go_num, hp, hR1, hB.trans hB1, by simp⟩
          case measure => simp [intOf]; omega
      · have q0 : (s % 3 == 0) = false := by simp [h3]
        have q0' : (s % 3 == 1) = false := by simp [h3]
        clear h3
        cases sh
        · have hys' := hys rfl
          subst hys'
          clear hys
          by_cases hc : n - p < 4
          · have q1 : (n : Int) - (p : Int) < 4 := by omega
            go_wp2_with fail
            refine (str_no (w.heap.size + 1) false _ wr hR (.inr (by simp; omega))).mono ?_
            rintro e w1 ⟨⟨_, _, _, rfl⟩, hR1, hB1⟩
            go_wp2_with fail
            go_roundw
            case rel => exact ⟨i0 + 1, p, true, _, by omega, rfl, rfl, by go_num, hp, hR1, hB.trans hB1, by simp⟩
            case measure => simp [intOf]; omega
          · have q1 : ¬ (n : Int) - (p : Int) < 4 := by omega
            obtain ⟨v0, v1⟩ := beOf_bd hR.bd
            by_cases hv : ((n - p - 4 : Nat) : Int) < beOf (xs.drop p)
            · go_wp2_with fail
              refine (str_mid (w.heap.size + 1) _ wr hR (by simp; omega) (by simp; omega)).mono ?_
              rintro e w1 ⟨⟨_, _, _, rfl⟩, hR1, hB1⟩
              go_wp2_with fail
              refine (abe_at _ w1 a0 n cap p xs (hD1.below ((hB.trans hB1).mono (Nat.le_succ _))) (by omega) hn).mono ?_
              rintro e w2 ⟨rfl, m2, rfl⟩
              generalize beOf (xs.drop p) = v at v0 v1 hv
              go_wp2_with fail
              go_roundw
              case rel => exact ⟨i0 + 1, p + 4, true, _, by omega, by go_num, rfl, by go_num, by omega, hR1.below (below_drewN (Below.refl _ _) m2), below_drewN (hB.trans hB1) m2, by simp⟩
              case measure => simp [intOf]; omega
            · go_wp2_with fail
              refine (str_yes (w.heap.size + 1) _ wr hR (by simp; omega) (by simp; omega)).mono ?_
              rintro e w1 ⟨⟨_, _, _, rfl⟩, hR1, hB1⟩
              rw [List.drop_drop] at hR1
              go_wp2_with fail
              refine (abe_at _ w1 a0 n cap p xs (hD1.below ((hB.trans hB1).mono (Nat.le_succ _))) (by omega) hn).mono ?_
              rintro e w2 ⟨rfl, m2, rfl⟩
              obtain ⟨v, hv'⟩ := Int.eq_ofNat_of_zero_le v0
              rw [hv'] at v0 v1 hv hR1 ⊢
              have hvn : v ≤ n - p - 4 := by omega
              clear hv'
              go_wp2_with fail
              go_roundw
              case rel => exact ⟨i0 + 1, p + (4 + v), false, _, by omega, by go_num, rfl, by go_num, by omega, hR1.below (below_drewN (Below.refl _ _) m2), below_drewN (hB.trans hB1) m2, fun _ => rfl⟩
              case measure => simp [intOf]; omega
        · go_wp2_with fail
          refine (str_no (w.heap.size + 1) true _ wr hR (.inl rfl)).mono ?_
          rintro e w1 ⟨⟨_, _, _, rfl⟩, hR1, hB1⟩
          go_wp2_with fail
          go_roundw
          case rel => exact ⟨i0 + 1, p, true, _, by omega, rfl, rfl, by go_num, hp, hR1, hB.trans hB1, by simp⟩
          case measure => simp [intOf]; omega
    · have hl := hR.lt
      cases sh
      · have hys' := hys rfl
        subst hys'
        obtain ⟨k1, f0, f1, a, len, c, k0, hr⟩ := hR
        have hlen : len = n - p := by have := hr.1; simp at this; omega
        by_cases hpn : p = n
        · subst hpn
          obtain rfl : len = 0 := by omega
          clear hlen hys
          go_wp2_with fail
          refine (done_ok (w.heap.size + 1) a c _ k1 k0).mono ?_
          rintro e w3 ⟨rfl, rfl⟩
          go_wp2_with fail
          refine (equal_same _ _ _ _ (conv_Row _ _ _ _ _ _ (hD1.below (hB.mono (Nat.le_succ _)))) (conv_Row _ _ _ _ _ _ (hC1.below hB))).mono ?_
          rintro e w4 ⟨rfl, rfl⟩
          go_wp2_with fail
          go_ret
          exact ⟨rfl, hA1.trans (hB.mono (Nat.le_succ _))⟩
        · have q1 : ((p : Int) == (n : Int)) = false := by simp; omega
          have hpos : 0 < len := by omega
          have HL : Hid (len = n - p) := hlen
          clear hlen hys
          go_wp2_with fail
          refine (done_bad false (w.heap.size + 1) a len c _ k1 k0 (.inr hpos)).mono ?_
          rintro e w3 ⟨q, rfl, hb3⟩
          have e1 := (hb3.cell (p := ⟨w.heap.size + 1, 1, none⟩) hl).trans k1
          have e0 := (hb3.cell (p := ⟨w.heap.size + 1, 0, none⟩) hl).trans k0
          have hB3 := hB.trans (hb3.mono (Nat.le_of_lt hl))
          have q2 : ((len : Int) != (n : Int) - (p : Int)) = false := by have := HL.out; simp; omega
          go_wp2_with fail
          refine (equal_same _ _ _ _ (conv_Row _ _ _ _ _ _ (hD1.below (hB3.mono (Nat.le_succ _)))) (conv_Row _ _ _ _ _ _ (hC1.below hB3))).mono ?_
          rintro e w4 ⟨rfl, rfl⟩
          go_wp2_with fail
          go_ret
          exact ⟨rfl, hA1.trans (hB3.mono (Nat.le_succ _))⟩
      · go_wp2_with fail
        refine (done_short (w.heap.size + 1) _ hR.1).mono ?_
        rintro e w3 ⟨q, rfl, hb3⟩
        have e1 := (hb3.cell (p := ⟨w.heap.size + 1, 1, none⟩) hl).trans hR.1
        have hB3 := hB.trans (hb3.mono (Nat.le_of_lt hl))
        go_wp2_with fail
        refine (equal_same _ _ _ _ (conv_Row _ _ _ _ _ _ (hD1.below (hB3.mono (Nat.le_succ _)))) (conv_Row _ _ _ _ _ _ (hC1.below hB3))).mono ?_
        rintro e w4 ⟨rfl, rfl⟩
        go_wp2_with fail
        go_ret
        exact ⟨rfl, hA1.trans (hB3.mono (Nat.le_succ _))⟩

set_option maxHeartbeats 400000 in
set_option maxRecDepth 100000 in
theorem s_far (a0 : Option Addr) (n cap : Nat) (a1 : Option Addr) (m cap1 : Nat) (w : World) (hn : n ≤ 140737488351232) (hm : m ≤ 140737488351232) (h : 65536 < m ∨ 1048576 < n) :
    Calls Yba.prog 4 #[.slice a0 n cap, .slice a1 m cap1] w fun e w' => e = .returned (.bool true) ∧ Below w.heap.size w w' := by
  by_cases hm6 : 65536 < m
  · have t1 : (65536 : Int) < (m : Int) := by omega
    clear h
    go_enter Yba.func4, Yba.ntmps4
    go_wp2_with fail
    go_ret
    exact ⟨rfl, Below.refl _ _⟩
  · have t1 : ¬ (65536 : Int) < (m : Int) := by omega
    have t2 : (1048576 : Int) < (n : Int) := by omega
    clear h
    go_enter Yba.func4, Yba.ntmps4
    go_wp2_with fail
    go_ret
    exact ⟨rfl, Below.refl _ _⟩

theorem wf_u8 {n : Int} (h : (Lit.int .u8 n).wf = true) : 0 ≤ n ∧ n ≤ 255 := by
  have e0 : IntKind.u8.min = 0 := by decide
  have e1 : IntKind.u8.max = 255 := by decide
  simp [Lit.wf, e0, e1] at h
  exact h

theorem row_of {w : World} {a : Option Addr} {n cap : Nat} {zs : List Int} (h : IsRow .u8 w a n cap zs) : Row w.heap.size w a n cap (zs.take n) := by
  rcases h with ⟨rfl, rfl, rfl, rfl⟩ | ⟨x, rfl, hl, hb, hz, hc, hw⟩
  · exact ⟨rfl, by omega, by omega, fun _ => rfl, fun h => by omega, fun y hy => by cases hy⟩
  · refine ⟨by simp; omega, hl, hb, by simp, fun hp => ?_, fun y hy => wf_u8 (hw y (List.mem_of_mem_take hy))⟩
    have h0 := hc 0 (by omega)
    obtain ⟨bb, off, spot⟩ := x
    have hspot : spot = none := by simpa [Addr.add] using World.cell?_spot h0
    subst hspot
    refine ⟨bb, off, rfl, lt_of_cell h0, fun i hi => ?_⟩
    have := hc i (by omega)
    rw [add_plain] at this
    rw [this]
    simp [List.getD, List.getElem?_take, hi]

theorem s_walk (a0 : Option Addr) (n cap : Nat) (zs : List Int) (a1 : Option Addr) (m cap1 : Nat) (ss : List Int) (w : World) (h0 : IsRow .u8 w a0 n cap zs) (h1 : IsRow .u8 w a1 m cap1 ss) :
    Calls Yba.prog 4 #[.slice a0 n cap, .slice a1 m cap1] w fun e w' => e = .returned (.bool true) ∧ Below w.heap.size w w' := by
  have r0 := row_of h0
  have r1 := row_of h1
  by_cases h : 65536 < m ∨ 1048576 < n
  · exact s_far a0 n cap a1 m cap1 w (Nat.le_trans r0.2.1 r0.2.2.1) (Nat.le_trans r1.2.1 r1.2.2.1) h
  · exact s_main a0 n cap _ a1 m cap1 _ w (by omega) (by omega) r0 r1

end Go.Proofs.Ybulkecac
