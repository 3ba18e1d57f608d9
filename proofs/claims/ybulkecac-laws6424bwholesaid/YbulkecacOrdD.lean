import Derived.Test.YbulkecacOrdC
import Derived.Sort.WalkC
import Derived.Sort.LotC
import Derived.Deep.CutBlock
namespace Go.Proofs.Ybulkecac
open Go.RowKit Go.Sort
set_option linter.unusedSimpArgs false
set_option linter.unusedVariables false

set_option maxRecDepth 100000 in
set_option maxHeartbeats 8000000 in
/-- slices.partitionEqualOrdered at int32. -/
theorem partEq_ (w0 : World) (blk off cap a b pivot : Nat) (d : Array Int) (w : World) (S : SI w0 blk off d w) (hap : a ≤ pivot) (hpb : pivot < b) (hb : b ≤ d.size) (hsz : d.size < 2305843009213693952) :
    Calls Yba.prog 34 #[.slice (some ⟨blk, off, none⟩) d.size cap, .int .i64 a, .int .i64 b, .int .i64 pivot] w fun e w' =>
      e = .returned (.int .i64 (Sort.partitionEqual ltInt d a b pivot).1) ∧ SI w0 blk off (Sort.partitionEqual ltInt d a b pivot).2 w' := by
  have S0 : Hid (SI w0 blk off d w) := S
  clear S
  have n1 : a < d.size := by omega
  have n2 : pivot < d.size := by omega
  have b1 : (a : Int) < (d.size : Int) := by omega
  have b2 : (pivot : Int) < (d.size : Int) := by omega
  go_enter Yba.func34, Yba.ntmps34
  go_wp2_with fail
  obtain ⟨x, hx⟩ : ∃ x, x = d[a]! := ⟨_, rfl⟩
  obtain ⟨y, hy⟩ : ∃ x, x = d[pivot]! := ⟨_, rfl⟩
  have c1 := S0.out.cell (a) (by omega)
  have c2 := S0.out.cell (pivot) (by omega)
  have f1 := S0.out.froz (a) (by omega)
  have f2 := S0.out.froz (pivot) (by omega)
  obtain ⟨u, c3⟩ := S0.out.cell2 (a) (pivot) (by omega) (by omega) (.int .i32 y)
  have S2 := S0.out.swap (a) (pivot) (by omega) (by omega)
  rw [← hx] at c1 S2
  rw [← hy] at c2 S2
  have S3 : Hid _ := S2
  clear S2 hx hy S0
  go_wp2_with fail
  go_big_region
  have SA : Hid (SI w0 blk off (swp d (a) (pivot)) _) := S3.out.drew
  clear S3 c1 c2 c3 f1 f2
  generalize World.drew _ = w1 at SA ⊢

  obtain ⟨d1, D1, hs1⟩ : ∃ d1, Hid (d1 = swp d a pivot) ∧ d1.size = d.size := ⟨_, rfl, size_swp _ _ _⟩
  have SB : Hid (SI w0 blk off d1 w1) := by rw [D1.out]; exact SA.out
  clear SA
  go_wp2_with fail
  go_loopg [9, 10] (b - a) (fun g vi vj wr => ∃ (i j : Nat) (dk : Array Int), vi = .int .i64 i ∧ vj = .int .i64 j ∧ a < i ∧ i ≤ j + 2 ∧ a ≤ j ∧ j < b ∧ j + 1 - i < g + 1 ∧ dk.size = d.size ∧ Hid (SI w0 blk off dk wr) ∧ Hid (partEqLoop ltInt a i j dk = partEqLoop ltInt a (a + 1) (b - 1) d1))
  case atStart => exact ⟨a + 1, b - 1, d1, by go_num, by go_num, by omega, by omega, by omega, by omega, by omega, hs1, SB, rfl⟩
  case round =>
    clear SB b1 b2
    obtain ⟨i, j, dk, rfl, rfl, hai, hij, haj, hjb, hg, hsk, SC, HL⟩ := hrel
    go_upto_block 2 with fail
    go_cut [9] from 29 to 45 (fun v wx => ∃ i2 : Nat, v = .int .i64 i2 ∧ (i ≤ i2 ∧ i2 ≤ j + 2) ∧ Hid (i2 = scanUp (fun x => !ltInt dk[a]! x) dk j i) ∧ Hid (SI w0 blk off dk wx))
    case first =>
      go_wp2_with fail
      go_loopg [9] (j + 2 - i) (fun g v wr => ∃ i2 : Nat, v = .int .i64 i2 ∧ (i ≤ i2 ∧ i2 ≤ j + 2) ∧ j + 2 - i2 ≤ g ∧ Hid (scanUp (fun x => !ltInt dk[a]! x) dk j i2 = scanUp (fun x => !ltInt dk[a]! x) dk j i) ∧ Hid (SI w0 blk off dk wr))
      case atStart => exact ⟨i, by first | rfl | go_num, by omega, by omega, rfl, SC⟩
      case round =>
        clear SC
        obtain ⟨i2, rfl, hr0, hm0, HF, S1⟩ := hrel
        by_cases hle : i2 ≤ j
        · have hz : (i2 : Int) ≤ (j : Int) := by omega
          have hzd : decide ((i2 : Int) ≤ (j : Int)) = true := decide_eq_true hz
          have b1 : (i2 : Int) < (d.size : Int) := by omega
          have b2 : (a : Int) < (d.size : Int) := by omega
          cases hlv : ltInt dk[a]! dk[i2]! with
          | false =>
            obtain ⟨x, hx⟩ : ∃ x, x = dk[a]! := ⟨_, rfl⟩
            obtain ⟨y, hy⟩ : ∃ x, x = dk[i2]! := ⟨_, rfl⟩
            have c1 := S1.out.cell (a) (by omega)
            have c2 := S1.out.cell (i2) (by omega)
            have hlx : ltInt x y = false := by rw [hx, hy]; exact hlv
            have HLV : Hid _ := hlv
            clear hlv
            rw [← hx] at c1
            rw [← hy] at c2
            clear hx hy
            go_wp2_with fail
            go_quiet ((go_at_call 33; exact Calls.quiet_of_same (less_ _ _ _)))
            have SK : Hid (SI w0 blk off dk _) := S1.out.drewN nq
            clear S1 c1 c2
            generalize World.drewN _ nq = w2 at SK ⊢
            simp only [hlx]
            clear hlx
            have hlv := HLV.out
            clear HLV

            go_wp2
            go_roundg (j + 2 - (i2 + 1))
            case measure => omega
            case rel => exact ⟨i2 + 1, by first | rfl | go_num, by omega, by omega, (scanUp_go (fun x => !ltInt dk[a]! x) dk j i2 hle (by simp [hlv])).symm.trans HF.out, SK⟩
          | true =>
            obtain ⟨x, hx⟩ : ∃ x, x = dk[a]! := ⟨_, rfl⟩
            obtain ⟨y, hy⟩ : ∃ x, x = dk[i2]! := ⟨_, rfl⟩
            have c1 := S1.out.cell (a) (by omega)
            have c2 := S1.out.cell (i2) (by omega)
            have hlx : ltInt x y = true := by rw [hx, hy]; exact hlv
            have HLV : Hid _ := hlv
            clear hlv
            rw [← hx] at c1
            rw [← hy] at c2
            clear hx hy
            go_wp2_with fail
            go_quiet ((go_at_call 33; exact Calls.quiet_of_same (less_ _ _ _)))
            have SK : Hid (SI w0 blk off dk _) := S1.out.drewN nq
            clear S1 c1 c2
            generalize World.drewN _ nq = w2 at SK ⊢
            simp only [hlx]
            clear hlx
            have hlv := HLV.out
            clear HLV

            go_wp2_with fail
            go_meet
            case rel => exact ⟨i2, rfl, hr0, (scanUp_end (fun x => !ltInt dk[a]! x) dk j i2 (Or.inr (by simp [hlv]))).symm.trans HF.out, SK⟩
        · have hz : ¬ (i2 : Int) ≤ (j : Int) := by omega
          have hzd : decide ((i2 : Int) ≤ (j : Int)) = false := decide_eq_false hz
          go_wp2_with fail
          go_big_region
          have SK : Hid (SI w0 blk off dk _) := S1.out.drew
          clear S1
          generalize World.drew _ = w2 at SK ⊢
          go_wp2_with fail
          go_meet
          case rel => exact ⟨i2, rfl, hr0, (scanUp_end (fun x => !ltInt dk[a]! x) dk j i2 (Or.inl hle)).symm.trans HF.out, SK⟩
    case rest =>
      clear SC
      obtain ⟨i2, rfl, hri2, Hi2, SD⟩ := hcut
      go_upto_block 4 with fail
      go_cut [10] from 46 to 61 (fun v wx => ∃ j2 : Nat, v = .int .i64 j2 ∧ (a ≤ j2 ∧ j2 ≤ j ∧ i2 ≤ j2 + 2) ∧ Hid (j2 = scanDown (fun x => ltInt dk[a]! x) dk i2 j) ∧ Hid (SI w0 blk off dk wx))
      case first =>
        go_wp2_with fail
        go_loopg [10] (j) (fun g v wr => ∃ j2 : Nat, v = .int .i64 j2 ∧ (a ≤ j2 ∧ j2 ≤ j ∧ i2 ≤ j2 + 2) ∧ j2 ≤ g ∧ Hid (scanDown (fun x => ltInt dk[a]! x) dk i2 j2 = scanDown (fun x => ltInt dk[a]! x) dk i2 j) ∧ Hid (SI w0 blk off dk wr))
        case atStart => exact ⟨j, by first | rfl | go_num, by omega, by omega, rfl, SD⟩
        case round =>
          clear SD
          obtain ⟨j2, rfl, hr0, hm0, HF, S1⟩ := hrel
          by_cases hle : i2 ≤ j2
          · have hz : (i2 : Int) ≤ (j2 : Int) := by omega
            have hzd : decide ((i2 : Int) ≤ (j2 : Int)) = true := decide_eq_true hz
            have b1 : (j2 : Int) < (d.size : Int) := by omega
            have b2 : (a : Int) < (d.size : Int) := by omega
            cases hlv : ltInt dk[a]! dk[j2]! with
            | true =>
              obtain ⟨x, hx⟩ : ∃ x, x = dk[a]! := ⟨_, rfl⟩
              obtain ⟨y, hy⟩ : ∃ x, x = dk[j2]! := ⟨_, rfl⟩
              have c1 := S1.out.cell (a) (by omega)
              have c2 := S1.out.cell (j2) (by omega)
              have hlx : ltInt x y = true := by rw [hx, hy]; exact hlv
              have HLV : Hid _ := hlv
              clear hlv
              rw [← hx] at c1
              rw [← hy] at c2
              clear hx hy
              go_wp2_with fail
              go_quiet ((go_at_call 33; exact Calls.quiet_of_same (less_ _ _ _)))
              have SK : Hid (SI w0 blk off dk _) := S1.out.drewN nq
              clear S1 c1 c2
              generalize World.drewN _ nq = w2 at SK ⊢
              simp only [hlx]
              clear hlx
              have hlv := HLV.out
              clear HLV

              go_wp2
              go_roundg (j2 - 1)
              case measure => omega
              case rel => exact ⟨j2 - 1, by first | rfl | go_num, by omega, by omega, (scanDown_go (fun x => ltInt dk[a]! x) dk i2 j2 hle (by omega) (by simp [hlv])).symm.trans HF.out, SK⟩
            | false =>
              obtain ⟨x, hx⟩ : ∃ x, x = dk[a]! := ⟨_, rfl⟩
              obtain ⟨y, hy⟩ : ∃ x, x = dk[j2]! := ⟨_, rfl⟩
              have c1 := S1.out.cell (a) (by omega)
              have c2 := S1.out.cell (j2) (by omega)
              have hlx : ltInt x y = false := by rw [hx, hy]; exact hlv
              have HLV : Hid _ := hlv
              clear hlv
              rw [← hx] at c1
              rw [← hy] at c2
              clear hx hy
              go_wp2_with fail
              go_quiet ((go_at_call 33; exact Calls.quiet_of_same (less_ _ _ _)))
              have SK : Hid (SI w0 blk off dk _) := S1.out.drewN nq
              clear S1 c1 c2
              generalize World.drewN _ nq = w2 at SK ⊢
              simp only [hlx]
              clear hlx
              have hlv := HLV.out
              clear HLV

              go_wp2_with fail
              go_meet
              case rel => exact ⟨j2, rfl, hr0, (scanDown_end (fun x => ltInt dk[a]! x) dk i2 j2 (Or.inr (by simp [hlv]))).symm.trans HF.out, SK⟩
          · have hz : ¬ (i2 : Int) ≤ (j2 : Int) := by omega
            have hzd : decide ((i2 : Int) ≤ (j2 : Int)) = false := decide_eq_false hz
            go_wp2_with fail
            go_big_region
            have SK : Hid (SI w0 blk off dk _) := S1.out.drew
            clear S1
            generalize World.drew _ = w2 at SK ⊢
            go_wp2_with fail
            go_meet
            case rel => exact ⟨j2, rfl, hr0, (scanDown_end (fun x => ltInt dk[a]! x) dk i2 j2 (Or.inl hle)).symm.trans HF.out, SK⟩
      case rest =>
        clear SD
        obtain ⟨j2, rfl, hrj2, Hj2, SE⟩ := hcut

        have HQ := partEqLoop_eq ltInt a i j dk
        rw [← Hi2.out, ← Hj2.out] at HQ
        by_cases hgt : i2 > j2
        · have hz : (j2 : Int) < (i2 : Int) := by omega
          rw [if_pos hgt, HL.out] at HQ
          have HQ' : Hid _ := HQ
          clear HQ
          go_wp2_with fail
          go_ret
          unfold Sort.partitionEqual
          rw [← D1.out, HQ'.out]
          exact ⟨rfl, SE.out⟩
        · have hz : ¬ (j2 : Int) < (i2 : Int) := by omega
          rw [if_neg hgt, HL.out] at HQ
          have HQ' : Hid _ := HQ
          clear HQ
          have b1 : (i2 : Int) < (d.size : Int) := by omega
          have b2 : (j2 : Int) < (d.size : Int) := by omega
          go_wp2_with fail
          obtain ⟨x, hx⟩ : ∃ x, x = dk[i2]! := ⟨_, rfl⟩
          obtain ⟨y, hy⟩ : ∃ x, x = dk[j2]! := ⟨_, rfl⟩
          have c1 := SE.out.cell (i2) (by omega)
          have c2 := SE.out.cell (j2) (by omega)
          have f1 := SE.out.froz (i2) (by omega)
          have f2 := SE.out.froz (j2) (by omega)
          obtain ⟨u, c3⟩ := SE.out.cell2 (i2) (j2) (by omega) (by omega) (.int .i32 y)
          have S2 := SE.out.swap (i2) (j2) (by omega) (by omega)
          rw [← hx] at c1 S2
          rw [← hy] at c2 S2
          have S3 : Hid _ := S2
          clear S2 hx hy SE
          go_wp2_with fail
          go_big_region
          have SF : Hid (SI w0 blk off (swp dk (i2) (j2)) _) := S3.out.drew
          clear S3 c1 c2 c3 f1 f2
          generalize World.drew _ = w5 at SF ⊢

          go_wp2
          go_roundg (j2 - 1 + 1 - (i2 + 1))
          case measure => omega
          case rel => exact ⟨i2 + 1, j2 - 1, swp dk i2 j2, by go_num, by go_num, by omega, by omega, by omega, by omega, by omega, by rw [size_swp]; exact hsk, SF, HQ'.out.symm⟩
end Go.Proofs.Ybulkecac
