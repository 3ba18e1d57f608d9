import Derived.Test.YbulkecaqCell
namespace Go.Proofs.Ybulkecaq
open Go.RowKit Go.Conc
set_option linter.unusedSimpArgs false
set_option linter.unusedVariables false

def ixOf (N nb : Nat) : Value → Nat
  | .pointer (some a) => if a.block < N + 2 + 2 * nb then (a.block - (N + 2)) / 2 else (a.block - (N + 4)) / 2
  | _ => 0
theorem ixOf_sb (N nb k : Nat) : ixOf N nb (.pointer (some ⟨sb N nb k, 0, none⟩)) = k := by
  unfold ixOf sb
  dsimp only
  by_cases h : k < nb
  · rw [if_pos h, if_pos (by omega)]; omega
  · rw [if_neg h, if_neg (by omega)]; omega

/-- which cell of a segment of l cells a position's offset gets -/
def pix (o l : Nat) : Nat := (o % 8) * (l / 8) + o / 8
theorem pix_lt (o m : Nat) (h : o < 8 * m) : pix o (8 * m) < 8 * m := by
  unfold pix
  rw [Nat.mul_div_cancel_left _ (by omega)]
  have h1 : o % 8 * m ≤ 7 * m := Nat.mul_le_mul_right m (by omega)
  omega
theorem ln8 (k : Nat) : ln k = 8 * (4 * 2 ^ k) := by unfold ln; omega

set_option maxHeartbeats 1000000 in
set_option maxRecDepth 100000 in
theorem place_before {w0 : World} {N nb T s g o : Nat} {mine theirs : Int} {w : World} (k : Chs w0 N nb T s g o mine theirs w) (p : Nat) (hp : p < st g) (hp2 : p ≤ 4096) (C : Nat) (hC : N + 1 + 2 * nb = C) :
    Calls Yba.prog 25 #[.pointer (some ⟨C, 0, none⟩), .int .i64 (s : Int), .int .u64 (p : Int)] w fun e w' => e = .returned (.tuple #[.pointer none, .pointer (some ⟨sb N nb g, 0, none⟩)]) ∧ w' = w := by
  have hh := k.hint
  rw [hC] at hh
  obtain ⟨hh1, hh2⟩ := hh
  have hs := k.le2
  have hg := k.gT
  have c0 := (k.seg g hg).c0
  have hsg := k.isSeg g hg
  unfold sp at hh1 hsg
  generalize sb N nb g = a at *
  generalize st g = S at *
  go_enter Yba.func25, Yba.ntmps25
  go_wp2_with fail
  refine (load_p C s _ w hh1 hsg).mono ?_
  rintro e w' ⟨rfl, rfl⟩
  go_wp2_with fail
  go_ret2
  exact ⟨rfl, rfl⟩

def CInv (w0 : World) (N nb T s g o : Nat) (mine theirs : Int) (j : Nat) (v : Value) (wr : World) : Prop :=
  ∃ i, g ≤ i ∧ i ≤ j ∧ v = .pointer (some ⟨sb N nb i, 0, none⟩) ∧ Chs w0 N nb (max T (i + 1)) s g o mine theirs wr

set_option maxHeartbeats 2000000 in
set_option maxRecDepth 100000 in
theorem place_at {w0 : World} {N nb T s g o : Nat} {mine theirs : Int} {w : World} (k : Chs w0 N nb T s g o mine theirs w) (p j : Nat) (hp : st g ≤ p) (hj : st j ≤ p) (hj1 : p < st (j + 1)) (hj5 : j ≤ 5) (hp2 : p ≤ 4096) (C : Nat) (hC : N + 1 + 2 * nb = C) :
    Calls Yba.prog 25 #[.pointer (some ⟨C, 0, none⟩), .int .i64 (s : Int), .int .u64 (p : Int)] w fun e w' => e = .returned (.tuple #[.pointer (some ⟨cb N nb j, pix (p - st j) (ln j) * 3, none⟩), .pointer (some ⟨sb N nb j, 0, none⟩)]) ∧
      Chs w0 N nb (max T (j + 1)) s j o mine theirs w' := by
  have hgj : g ≤ j := by
    rcases Nat.lt_or_ge j g with h | h
    · have := st_mono (show j + 1 ≤ g from h); omega
    · exact h
  have hh := k.hint
  rw [hC] at hh
  obtain ⟨hh1, hh2⟩ := hh
  have hs := k.le2
  have hg := k.gT
  have c0 := (k.seg g hg).c0
  have hsg := k.isSeg g hg
  unfold sp at hh1 hsg
  generalize hS : st g = S at *
  have HS : Hid _ := hS
  clear hS
  go_enter Yba.func25, Yba.ntmps25
  go_wp2_with fail
  refine (load_p C s _ w hh1 hsg).mono ?_
  rintro e w' ⟨rfl, rfl⟩
  go_wp2_with fail
  have hd : decide (p < S) = false := by simp; omega
  rw [hd]
  clear hd
  go_loopw [10] (fun v wr => CInv w0 N nb T s g o mine theirs j v wr) (fun v _ => j - ixOf N nb v)
  case atStart => exact ⟨g, Nat.le_refl _, hgj, rfl, by rw [Nat.max_eq_left (by omega)]; exact k⟩
  case round =>
    obtain ⟨i, hgi, hij, rfl, kr⟩ := hrel
    clear k hh1 hh2 c0 hsg
    have seg := kr.seg i (by omega)
    have d0 := seg.c0
    have d1 := seg.c1
    have hst := st_succ i
    have hli := ln_le (show i ≤ 5 by omega)
    have hsi := st_le (show i ≤ 5 by omega)
    by_cases hlt : i < j
    · have hle := st_mono (show i + 1 ≤ j from hlt)
      rw [hst] at hle
      have ht : st i + ln i ≤ p := by omega
      generalize st i = S1 at *
      generalize ln i = L1 at *
      clear hj hj1 hst hle seg hp
      go_wp2_with fail
      go_quiet (fail)
      go_wp2_with fail
      refine (next_any (kr.drewN nq) i (by omega) (by omega) C hC).mono ?_
      rintro e w2 ⟨rfl, k2⟩
      have e3 : max (max T (i + 1)) (i + 2) = max T (i + 1 + 1) := by omega
      rw [e3] at k2
      go_wp2_with fail
      go_roundw
      case rel => exact ⟨i + 1, by omega, by omega, rfl, k2⟩
      case measure =>
        have m1 := ixOf_sb N nb i
        have m2 := ixOf_sb N nb (i + 1)
        show j - ixOf N nb (.pointer (some ⟨sb N nb (i + 1), 0, none⟩)) < j - ixOf N nb (.pointer (some ⟨sb N nb i, 0, none⟩))
        rw [m1, m2]
        omega
    · obtain rfl : i = j := by omega
      rw [hst] at hj1
      generalize hS1 : st i = S1 at *
      generalize hL1 : ln i = L1 at *
      have HS1 : Hid _ := hS1
      have HL1 : Hid _ := hL1
      have hL8 := ln8 i
      rw [hL1] at hL8
      have hq0 := pix_lt (p - S1) (4 * 2 ^ i) (by omega)
      rw [← hL8] at hq0
      obtain ⟨q, hq⟩ : ∃ q : Nat, q = (p - S1) % 8 * (L1 / 8) := ⟨_, rfl⟩
      obtain ⟨r, hr⟩ : ∃ r : Nat, r = (p - S1) / 8 := ⟨_, rfl⟩
      have e0 : (p : Int) - (S1 : Int) = ((p - S1 : Nat) : Int) := by omega
      have hq2 : ((p : Int) - (S1 : Int)) % 8 * ((L1 : Int) / 8) = (q : Int) := by rw [hq, e0]; simp
      have hr2 : ((p : Int) - (S1 : Int)) / 8 = (r : Int) := by omega
      have hpx : pix (p - S1) L1 = q + r := by rw [hq, hr]; rfl
      rw [hpx] at hq0
      have HPX : Hid _ := hpx
      clear hq hr e0 hpx
      clear hst seg hp hS1 hL1 hL8
      go_wp2_with fail
      go_quiet (fail)
      have k2 := kr.drewN nq
      generalize wr.drewN nq = w2 at *
      clear d0 d1 kr
      have seg := k2.seg i (by omega)
      rw [HS1.out, HL1.out] at seg
      have segg := k2.seg g (by omega)
      have hh := k2.hint
      rw [hC] at hh
      unfold sp at hh
      by_cases hgi2 : g = i
      · subst hgi2
        have hne := neq70 w2
        clear segg hh
        have d0 := seg.c0
        have d1 := seg.c1
        have c6 := k2.shift
        rw [hC] at c6
        have h7 := i64_and7
        go_wp2_with fail
        go_ret2
        rw [HS1.out, HL1.out, HPX.out]
        exact ⟨rfl, k2⟩
      · have hne := neq70' w2 (sb N nb i) (sb N nb g) (fun e => hgi2 (sb_inj e).symm) seg.isSeg segg.isSeg
        clear segg
        go_wp2_with fail
        refine (cas_p C s _ _ w2 hh.1 hh.2 (k2.isSeg g (by omega)) (k2.isSeg i (by omega))).mono ?_
        rintro e w3 ⟨rfl, hw3⟩
        have k3 : Chs w0 N nb (max T (i + 1)) s i o mine theirs w3 := by
          rw [hw3, ← hC]; exact k2.setHint i (by omega)
        clear hw3 k2 hh seg hne
        have seg := k3.seg i (by omega)
        rw [HS1.out, HL1.out] at seg
        have d0 := seg.c0
        have d1 := seg.c1
        have c6 := k3.shift
        rw [hC] at c6
        have h7 := i64_and7
        go_wp2_with fail
        go_ret2
        rw [HS1.out, HL1.out, HPX.out]
        exact ⟨rfl, k3⟩

end Go.Proofs.Ybulkecaq
