import Derived.Test.YbulkecacOrdA
namespace Go.Proofs.Ybulkecac
open Go.RowKit Go.Sort
set_option linter.unusedSimpArgs false
set_option linter.unusedVariables false

set_option maxRecDepth 100000 in
set_option maxHeartbeats 4000000 in
/-- slices.insertionSortOrdered at int32. -/
theorem insertion_ (w0 : World) (blk off cap a b : Nat) (d : Array Int) (w : World) (S : SI w0 blk off d w) (hab : a ≤ b) (hb : b ≤ d.size) (hsz : d.size < 4611686018427387904) :
    Calls Yba.prog 27 #[.slice (some ⟨blk, off, none⟩) d.size cap, .int .i64 a, .int .i64 b] w fun e w' =>
      e = .returned (.tuple #[]) ∧ SI w0 blk off (Sort.insertionSort ltInt d a b) w' := by
  have S0 : Hid (SI w0 blk off d w) := S
  clear S
  go_enter Yba.func27, Yba.ntmps27
  go_wp2_with fail
  go_loopg [6] (b - a) (fun g vi wr => ∃ (i : Nat) (dk : Array Int), vi = .int .i64 i ∧ a < i ∧ i ≤ b + 1 ∧ b + 1 - i ≤ g + 1 ∧ dk.size = d.size ∧ Hid (SI w0 blk off dk wr) ∧ Hid (insOuter ltInt a b i dk = insOuter ltInt a b (a + 1) d))
  case atStart => exact ⟨a + 1, d, by go_num, by omega, by omega, by omega, rfl, S0, rfl⟩
  case round =>
    clear S0
    obtain ⟨i, dk, rfl, hai, hib, hg, hsk, S1, HO⟩ := hrel
    by_cases hlt : i < b
    · have hltz : (i : Int) < (b : Int) := by omega
      go_wp2_with fail
      go_loopg [7] i (fun g2 vj wr2 => ∃ (j : Nat) (dj : Array Int), vj = .int .i64 j ∧ a ≤ j ∧ j ≤ i ∧ j ≤ g2 ∧ dj.size = d.size ∧ Hid (SI w0 blk off dj wr2) ∧ Hid (insInner ltInt a j dj = insInner ltInt a i dk))
      case atStart => exact ⟨i, dk, rfl, by omega, Nat.le_refl _, Nat.le_refl _, hsk, S1, rfl⟩
      case round =>
        clear S1
        obtain ⟨j, dj, rfl, haj, hji, hg2, hsj, SJ, HI⟩ := hrel
        have OUT : Hid ((j ≤ a ∨ ltInt dj[j]! dj[j - 1]! = false) → insOuter ltInt a b (i + 1) dj = insOuter ltInt a b (a + 1) d) := fun hs => by
          rw [← HO.out, insOuter_go _ _ _ _ _ hlt, ← HI.out, insInner_stop _ _ _ _ hs]
        by_cases hja : a < j
        · obtain ⟨k, rfl⟩ : ∃ k, j = k + 1 := ⟨j - 1, by omega⟩
          have eN : ((k + 1 : Nat) : Int) = (k : Int) + 1 := by omega
          rw [eN]
          have g1 : decide ((k : Int) + 1 > (a : Int)) = true := decide_eq_true (by omega)
          have g2 : (a : Int) < (k : Int) + 1 := by omega
          have b1 : (k : Int) + 1 < (d.size : Int) := by omega
          have b2 : (k : Int) < (d.size : Int) := by omega
          have b3 : ((k : Int) + 1).toNat = k + 1 := by omega
          cases hlv : ltInt dj[k + 1]! dj[k]! with
          | true =>
            obtain ⟨x, hx⟩ : ∃ x, x = dj[k + 1]! := ⟨_, rfl⟩
            obtain ⟨y, hy⟩ : ∃ x, x = dj[k]! := ⟨_, rfl⟩
            have c1 := SJ.out.cell (k + 1) (by omega)
            have c2 := SJ.out.cell (k) (by omega)
            have hlx : ltInt x y = true := by rw [hx, hy]; exact hlv
            have HLV : Hid _ := hlv
            clear hlv
            rw [← hx] at c1
            rw [← hy] at c2
            clear hx hy
            go_wp2_with fail
            go_quiet ((go_at_call 33; exact Calls.quiet_of_same (less_ _ _ _)))
            have SK : Hid (SI w0 blk off dj _) := SJ.out.drewN nq
            clear SJ c1 c2
            generalize World.drewN _ nq = w2 at SK ⊢
            simp only [hlx]
            clear hlx
            have hlv := HLV.out
            clear HLV
            obtain ⟨x, hx⟩ : ∃ x, x = dj[k + 1]! := ⟨_, rfl⟩
            obtain ⟨y, hy⟩ : ∃ x, x = dj[k]! := ⟨_, rfl⟩
            have c1 := SK.out.cell (k + 1) (by omega)
            have c2 := SK.out.cell (k) (by omega)
            have f1 := SK.out.froz (k + 1) (by omega)
            have f2 := SK.out.froz (k) (by omega)
            obtain ⟨u, c3⟩ := SK.out.cell2 (k + 1) (k) (by omega) (by omega) (.int .i32 y)
            have S2 := SK.out.swap (k + 1) (k) (by omega) (by omega)
            rw [← hx] at c1 S2
            rw [← hy] at c2 S2
            have S3 : Hid _ := S2
            clear S2 hx hy SK
            go_wp2_with fail
            go_big_region
            have SL : Hid (SI w0 blk off (swp dj (k + 1) (k)) _) := S3.out.drew
            clear S3 c1 c2 c3 f1 f2
            generalize World.drew _ = w3 at SL ⊢

            go_wp2
            go_roundg k
            case measure => omega
            case rel => exact ⟨k, swp dj (k + 1) k, by first | rfl | go_num, by omega, by omega, Nat.le_refl _, by rw [size_swp]; exact hsj, SL, (show _ = _ from by rw [← HI.out, insInner_go ltInt a (k + 1) dj hja hlv]; exact rfl)⟩
          | false =>
            obtain ⟨x, hx⟩ : ∃ x, x = dj[k + 1]! := ⟨_, rfl⟩
            obtain ⟨y, hy⟩ : ∃ x, x = dj[k]! := ⟨_, rfl⟩
            have c1 := SJ.out.cell (k + 1) (by omega)
            have c2 := SJ.out.cell (k) (by omega)
            have hlx : ltInt x y = false := by rw [hx, hy]; exact hlv
            have HLV : Hid _ := hlv
            clear hlv
            rw [← hx] at c1
            rw [← hy] at c2
            clear hx hy
            go_wp2_with fail
            go_quiet ((go_at_call 33; exact Calls.quiet_of_same (less_ _ _ _)))
            have SK : Hid (SI w0 blk off dj _) := SJ.out.drewN nq
            clear SJ c1 c2
            generalize World.drewN _ nq = w2 at SK ⊢
            simp only [hlx]
            clear hlx
            have hlv := HLV.out
            clear HLV

            go_wp2
            go_roundg (b - (i + 1))
            case measure => omega
            case rel => exact ⟨i + 1, dj, by go_num, by omega, by omega, by omega, hsj, SK, OUT.out (Or.inr hlv)⟩
        · have g1 : decide ((j : Int) > (a : Int)) = false := decide_eq_false (by omega)
          have g2 : ¬ (a : Int) < (j : Int) := by omega
          go_wp2_with fail
          go_big_region
          have SK : Hid (SI w0 blk off dj _) := SJ.out.drew
          clear SJ
          generalize World.drew _ = w2 at SK ⊢
          go_wp2
          go_roundg (b - (i + 1))
          case measure => omega
          case rel => exact ⟨i + 1, dj, by go_num, by omega, by omega, by omega, hsj, SK, OUT.out (Or.inl (by omega))⟩
    · have hltz : ¬ (i : Int) < (b : Int) := by omega
      go_wp2
      go_end0
      exact ⟨rfl, by unfold Sort.insertionSort; rw [← HO.out, insOuter_stop _ _ _ _ _ hlt]; exact S1.out⟩
end Go.Proofs.Ybulkecac
