import Derived.Test.YbulkecaqPast
namespace Go.Proofs.Ybulkecaq
open Go.RowKit Go.Conc
set_option linter.unusedSimpArgs false
set_option linter.unusedVariables false

/-- what holds at each round's head of wakeParkedPast -/
def PInv (N n k base d : Nat) (T : Nat → Int) (w : World) (p : Value) (wr : World) : Prop :=
  ∃ j : Nat, j ≤ d ∧ p = .int .u64 ((pos k (base + j) n : Nat) : Int) ∧ Ring N n k ((pos k (base + d) n : Nat) : Int) (stp base n T j).1 (stp base n T j).2 wr ∧ Keeps N w wr

set_option maxHeartbeats 2000000 in
set_option maxRecDepth 100000 in
theorem past_any {n k base d : Nat} (g : Geo n k base d) (N : Nat) (T : Nat → Int) (w : World) (hR : Ring N n k ((pos k (base + d) n : Nat) : Int) T (fun _ => false) w) :
    Calls Yba.prog 8 #[.pointer (some ⟨N + 6 + 2 * n, 0, none⟩), .int .u64 ((pos k base n : Nat) : Int)] w fun e w' => e = .returned (.tuple #[]) ∧ Ring N n k ((pos k (base + d) n : Nat) : Int) (stp base n T d).1 (stp base n T d).2 w' ∧ Keeps N w w' := by
  have g1 := g.n1
  have g2 := g.n64
  have g3 := g.d2
  have c129 := hR.c129
  go_enter Yba.func8, Yba.ntmps8
  go_wp2_with fail
  refine (load_u _ _ _ _ c129).mono ?_
  rintro e w0 ⟨rfl, hw0⟩
  subst hw0
  clear c129
  go_wp2_with fail
  go_loopw [5] (fun p wr => PInv N n k base d T w0 p wr) (fun p _ => pos k (base + d) n - (intOf p).toNat)
  case atStart => exact ⟨0, Nat.zero_le _, rfl, hR, Keeps.refl _ _⟩
  case round =>
    obtain ⟨j, hj, rfl, hRj, hKj⟩ := hrel
    clear hR
    go_wp2_with fail
    refine (dist_at g _ _ j hj _ hRj.c194 hRj.c196 hRj.c197 hRj.c198).mono ?_
    rintro e w1 ⟨rfl, m1, hw1⟩
    have hR1 : Ring N n k ((pos k (base + d) n : Nat) : Int) (stp base n T j).1 (stp base n T j).2 w1 := by rw [hw1]; exact hRj.drewN m1
    have hK1 : Keeps N w0 w1 := by rw [hw1]; exact hKj.drewN m1
    clear hw1 hRj hKj
    by_cases hlt : j < d
    · have t1 : (0 : Int) < (d : Int) - (j : Int) := by omega
      go_wp2_with fail
      refine (cell_at g _ _ j (by omega) _ hR1.c194 hR1.c196 hR1.c197).mono ?_
      rintro e w2 ⟨rfl, m2, hw2⟩
      have hR2 : Ring N n k ((pos k (base + d) n : Nat) : Int) (stp base n T j).1 (stp base n T j).2 w2 := by rw [hw2]; exact hR1.drewN m2
      have hK2 : Keeps N w0 w2 := by rw [hw2]; exact hK1.drewN m2
      clear hw2 hR1 hK1
      have hlap := g.lapAt j (by omega)
      have hI := Nat.mod_lt (base + j) (show 0 < n by omega)
      have hfree := stp_free base n T (fun i hi => g.lapAt i hi) j (by omega)
      have hand := and_pos g j (by omega)
      have hhit := stp_hit (base := base) (n := n) (T := T) (j := j)
      have hmiss := stp_miss (base := base) (n := n) (T := T) (j := j)
      generalize hLe : (base + j) / n = L at *
      generalize hIe : (base + j) % n = I at *
      have HL : Hid ((base + j) / n = L) := hLe
      have HI : Hid ((base + j) % n = I) := hIe
      clear hLe hIe
      have hct := hR2.turn I hI
      have hmk : ∀ x : Int, bits .or .u64 x 9223372036854775808 = mk x := fun _ => rfl
      have HF : Hid _ := hfree
      have HH : Hid _ := hhit
      have HM : Hid _ := hmiss
      have HA : Hid _ := hand
      clear hfree hhit hmiss hand
      by_cases hit : (stp base n T j).1 I = mk (2 * (L : Int))
      · rw [hit] at hct
        have hK0 := HF.out hit
        have hst := HH.out hit
        have HK : Hid ((stp base n T j).2 I = false) := hK0
        have HS : Hid _ := hst
        clear hit HF HH HM hK0 hst
        go_wp2_with fail
        refine (cas_u _ _ _ _ _ hct.1 hct.2).mono ?_
        rintro e w3 ⟨rfl, hw3⟩
        have hR3 : Ring N n k ((pos k (base + d) n : Nat) : Int) (upd (stp base n T j).1 I (2 * (L : Int))) (stp base n T j).2 w3 := by rw [hw3]; exact hR2.setTurn I hI _
        have hK3 : Keeps N w0 w3 := by rw [hw3]; exact hK2.trans (Keeps.setTurn N w2 _ _)
        clear hw3 hR2 hK2 hct
        go_wp2_with fail
        have hpk := hR3.park I hI
        have hcn := hR3.chan I hI
        rw [HK.out] at hpk hcn
        refine (wake_any _ (N + 4) (N + 7 + 2 * I) (N + 6 + 2 * I) _ (2 ^ k - 1) I n _ hI g2 HA.out (by omega) (by omega) (by omega) hR3.c197 hR3.c201 (by simpa using hpk.1) hpk.2 (hR3.wait I hI) (by simpa using hcn)).mono ?_
        rintro e w4 ⟨rfl, hw4⟩
        have hR4 : Ring N n k ((pos k (base + d) n : Nat) : Int) (upd (stp base n T j).1 I (2 * (L : Int))) (upd (stp base n T j).2 I true) w4 := by rw [hw4]; exact hR3.wake I hI HK.out
        have hK4 : Keeps N w0 w4 := by rw [hw4]; exact hK3.trans (Keeps.wake hR3 I hI)
        clear hw4 hR3 hK3 hpk hcn
        go_wp2_with fail
        refine (next_at g _ _ j (by omega) _ hR4.c194 hR4.c197).mono ?_
        rintro e w5 ⟨rfl, m5, hw5⟩
        have hR5 : Ring N n k ((pos k (base + d) n : Nat) : Int) (stp base n T (j + 1)).1 (stp base n T (j + 1)).2 w5 := by rw [hw5, HS.out]; exact hR4.drewN m5
        have hK5 : Keeps N w0 w5 := by rw [hw5]; exact hK4.drewN m5
        clear hw5 hR4 hK4
        have hp1 := pos_succ_lt k (base + j) n g1 g.nk
        have hp2 := pos_le k n g1 g.nk (base + (j + 1)) (d - (j + 1))
        have e1 : base + (j + 1) + (d - (j + 1)) = base + d := by omega
        rw [e1] at hp2
        go_wp2_with fail
        go_roundw
        case rel => exact ⟨j + 1, by omega, rfl, hR5, hK5⟩
        case measure =>
          simp [intOf]
          have e2 : base + j + 1 = base + (j + 1) := by omega
          rw [e2] at hp1
          omega
      · have hst := HM.out hit
        have HS : Hid _ := hst
        have HT : Hid (¬ (stp base n T j).1 I = mk (2 * (L : Int))) := hit
        clear hit HF HH HM hst
        go_wp2_with fail
        refine (cas_u_no _ _ _ _ _ _ hct.1 hct.2 HT.out).mono ?_
        rintro e w3 ⟨rfl, hw3⟩
        subst hw3
        clear hct
        go_wp2_with fail
        refine (next_at g _ _ j (by omega) _ hR2.c194 hR2.c197).mono ?_
        rintro e w5 ⟨rfl, m5, hw5⟩
        have hR5 : Ring N n k ((pos k (base + d) n : Nat) : Int) (stp base n T (j + 1)).1 (stp base n T (j + 1)).2 w5 := by rw [hw5, HS.out]; exact hR2.drewN m5
        have hK5 : Keeps N w0 w5 := by rw [hw5]; exact hK2.drewN m5
        clear hw5 hR2 hK2
        have hp1 := pos_succ_lt k (base + j) n g1 g.nk
        have hp2 := pos_le k n g1 g.nk (base + (j + 1)) (d - (j + 1))
        have e1 : base + (j + 1) + (d - (j + 1)) = base + d := by omega
        rw [e1] at hp2
        go_wp2_with fail
        go_roundw
        case rel => exact ⟨j + 1, by omega, rfl, hR5, hK5⟩
        case measure =>
          simp [intOf]
          have e2 : base + j + 1 = base + (j + 1) := by omega
          rw [e2] at hp1
          omega
    · have hjd : Hid (j = d) := show j = d by omega
      have t1 : ¬ (0 : Int) < (d : Int) - (j : Int) := by omega
      go_wp2_with fail
      go_end0
      have := hjd.out
      subst this
      exact ⟨rfl, hR1, hK1⟩

end Go.Proofs.Ybulkecaq
