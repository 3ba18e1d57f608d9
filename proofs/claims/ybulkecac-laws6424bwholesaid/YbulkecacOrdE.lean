import Derived.Test.YbulkecacOrdD
namespace Go.Proofs.Ybulkecac
open Go.RowKit Go.Sort
set_option linter.unusedSimpArgs false
set_option linter.unusedVariables false

theorem partition_eq (d : Array Int) (a b pivot i j : Nat) (d1 : Array Int) (h1 : d1 = swp d a pivot) (hi : i = scanUp (fun x => ltInt x d1[a]!) d1 (b - 1) (a + 1)) (hj : j = scanDown (fun x => !ltInt x d1[a]!) d1 i (b - 1)) :
    Sort.partition ltInt d a b pivot = if i > j then (j, true, swp d1 j a) else ((partLoop ltInt a (i + 1) (j - 1) (swp d1 i j)).1, false, swp (partLoop ltInt a (i + 1) (j - 1) (swp d1 i j)).2 (partLoop ltInt a (i + 1) (j - 1) (swp d1 i j)).1 a) := by
  subst h1 hi hj
  rfl

set_option maxRecDepth 100000 in
set_option maxHeartbeats 8000000 in
/-- slices.partitionOrdered at int32. -/
theorem part_ (w0 : World) (blk off cap a b pivot : Nat) (d : Array Int) (w : World) (S : SI w0 blk off d w) (hap : a ≤ pivot) (hpb : pivot < b) (hb : b ≤ d.size) (hsz : d.size < 2305843009213693952) :
    Calls Yba.prog 35 #[.slice (some ⟨blk, off, none⟩) d.size cap, .int .i64 a, .int .i64 b, .int .i64 pivot] w fun e w' =>
      e = .returned (.tuple #[.int .i64 (Sort.partition ltInt d a b pivot).1, .bool (Sort.partition ltInt d a b pivot).2.1]) ∧ SI w0 blk off (Sort.partition ltInt d a b pivot).2.2 w' := by
  have S0 : Hid (SI w0 blk off d w) := S
  clear S
  have n1 : a < d.size := by omega
  have n2 : pivot < d.size := by omega
  have b1 : (a : Int) < (d.size : Int) := by omega
  have b2 : (pivot : Int) < (d.size : Int) := by omega
  go_enter Yba.func35, Yba.ntmps35
  go_wp2_with fail
  obtain ⟨x, hx⟩ : ∃ x, x = d[a]! := ⟨_, rfl⟩
  obtain ⟨y, hy⟩ : ∃ x, x = d[pivot]! := ⟨_, rfl⟩
  have c1 := S0.out.cell (a) (by omega)
  have c2 := S0.out.cell (pivot) (by omega)
  have f1 := S0.out.froz (a) (by omega)
  have f2 := S0.out.froz (pivot) (by omega)
  obtain ⟨u, c3⟩ := S0.out.cell2 (a) (pivot) (by omega) (by omega) (.int .i32 y)
  have S2 := S0.out.swap (a) (pivot) (by omega) (by omega)
  rw [← hx] at c1 S2
  rw [← hy] at c2 S2
  have S3 : Hid _ := S2
  clear S2 hx hy S0
  go_wp2_with fail
  go_big_region
  have SA : Hid (SI w0 blk off (swp d (a) (pivot)) _) := S3.out.drew
  clear S3 c1 c2 c3 f1 f2
  generalize World.drew _ = w1 at SA ⊢

  obtain ⟨dk, D1, hsk⟩ : ∃ d1, Hid (d1 = swp d a pivot) ∧ d1.size = d.size := ⟨_, rfl, size_swp _ _ _⟩
  have SC : Hid (SI w0 blk off dk w1) := by rw [D1.out]; exact SA.out
  clear SA b1 b2
  obtain ⟨i, Hi, hai⟩ : ∃ i, Hid (i = a + 1) ∧ a < i := ⟨a + 1, rfl, by omega⟩
  obtain ⟨j, Hj, haj, hjb, hij⟩ : ∃ j, Hid (j = b - 1) ∧ a ≤ j ∧ j < b ∧ i ≤ j + 2 := ⟨b - 1, rfl, by omega, by omega, by have := Hi.out; omega⟩
  have zi : (a : Int) + 1 = (i : Int) := by have := Hi.out; omega
  have zj : (b : Int) - 1 = (j : Int) := by have := Hj.out; omega
  have ki : IntKind.i64.wrap (i : Int) = i := by rw [IntKind.wrap_i64]; omega
  have kj : IntKind.i64.wrap (j : Int) = j := by rw [IntKind.wrap_i64]; omega
  go_upto_block 0 with fail
  go_cut [10] from 30 to 45 (fun v wx => ∃ i2 : Nat, v = .int .i64 i2 ∧ (i ≤ i2 ∧ i2 ≤ j + 2) ∧ Hid (i2 = scanUp (fun x => ltInt x dk[a]!) dk j i) ∧ Hid (SI w0 blk off dk wx))
  case first =>
    go_wp2_with fail
    go_loopg [10] (j + 2 - i) (fun g v wr => ∃ i2 : Nat, v = .int .i64 i2 ∧ (i ≤ i2 ∧ i2 ≤ j + 2) ∧ j + 2 - i2 ≤ g ∧ Hid (scanUp (fun x => ltInt x dk[a]!) dk j i2 = scanUp (fun x => ltInt x dk[a]!) dk j i) ∧ Hid (SI w0 blk off dk wr))
    case atStart => exact ⟨i, by first | rfl | go_num, by omega, by omega, rfl, SC⟩
    case round =>
      clear SC
      obtain ⟨i2, rfl, hr0, hm0, HF, S1⟩ := hrel
      by_cases hle : i2 ≤ j
      · have hz : (i2 : Int) ≤ (j : Int) := by omega
        have hzd : decide ((i2 : Int) ≤ (j : Int)) = true := decide_eq_true hz
        have b1 : (i2 : Int) < (d.size : Int) := by omega
        have b2 : (a : Int) < (d.size : Int) := by omega
        cases hlv : ltInt dk[i2]! dk[a]! with
        | true =>
          obtain ⟨x, hx⟩ : ∃ x, x = dk[i2]! := ⟨_, rfl⟩
          obtain ⟨y, hy⟩ : ∃ x, x = dk[a]! := ⟨_, rfl⟩
          have c1 := S1.out.cell (i2) (by omega)
          have c2 := S1.out.cell (a) (by omega)
          have hlx : ltInt x y = true := by rw [hx, hy]; exact hlv
          have HLV : Hid _ := hlv
          clear hlv
          rw [← hx] at c1
          rw [← hy] at c2
          clear hx hy
          go_wp2_with fail
          go_quiet ((go_at_call 33; exact Calls.quiet_of_same (less_ _ _ _)))
          have SK : Hid (SI w0 blk off dk _) := S1.out.drewN nq
          clear S1 c1 c2
          generalize World.drewN _ nq = w2 at SK ⊢
          simp only [hlx]
          clear hlx
          have hlv := HLV.out
          clear HLV

          go_wp2
          go_roundg (j + 2 - (i2 + 1))
          case measure => omega
          case rel => exact ⟨i2 + 1, by first | rfl | go_num, by omega, by omega, (scanUp_go (fun x => ltInt x dk[a]!) dk j i2 hle (by simp [hlv])).symm.trans HF.out, SK⟩
        | false =>
          obtain ⟨x, hx⟩ : ∃ x, x = dk[i2]! := ⟨_, rfl⟩
          obtain ⟨y, hy⟩ : ∃ x, x = dk[a]! := ⟨_, rfl⟩
          have c1 := S1.out.cell (i2) (by omega)
          have c2 := S1.out.cell (a) (by omega)
          have hlx : ltInt x y = false := by rw [hx, hy]; exact hlv
          have HLV : Hid _ := hlv
          clear hlv
          rw [← hx] at c1
          rw [← hy] at c2
          clear hx hy
          go_wp2_with fail
          go_quiet ((go_at_call 33; exact Calls.quiet_of_same (less_ _ _ _)))
          have SK : Hid (SI w0 blk off dk _) := S1.out.drewN nq
          clear S1 c1 c2
          generalize World.drewN _ nq = w2 at SK ⊢
          simp only [hlx]
          clear hlx
          have hlv := HLV.out
          clear HLV

          go_wp2_with fail
          go_meet
          case rel => exact ⟨i2, rfl, hr0, (scanUp_end (fun x => ltInt x dk[a]!) dk j i2 (Or.inr (by simp [hlv]))).symm.trans HF.out, SK⟩
      · have hz : ¬ (i2 : Int) ≤ (j : Int) := by omega
        have hzd : decide ((i2 : Int) ≤ (j : Int)) = false := decide_eq_false hz
        go_wp2_with fail
        go_big_region
        have SK : Hid (SI w0 blk off dk _) := S1.out.drew
        clear S1
        generalize World.drew _ = w2 at SK ⊢
        go_wp2_with fail
        go_meet
        case rel => exact ⟨i2, rfl, hr0, (scanUp_end (fun x => ltInt x dk[a]!) dk j i2 (Or.inl hle)).symm.trans HF.out, SK⟩
  case rest =>
    clear SC
    obtain ⟨i2, rfl, hri2, Hi2, SD⟩ := hcut
    go_upto_block 2 with fail
    go_cut [11] from 46 to 62 (fun v wx => ∃ j2 : Nat, v = .int .i64 j2 ∧ (a ≤ j2 ∧ j2 ≤ j ∧ i2 ≤ j2 + 2) ∧ Hid (j2 = scanDown (fun x => !ltInt x dk[a]!) dk i2 j) ∧ Hid (SI w0 blk off dk wx))
    case first =>
      go_wp2_with fail
      go_loopg [11] (j) (fun g v wr => ∃ j2 : Nat, v = .int .i64 j2 ∧ (a ≤ j2 ∧ j2 ≤ j ∧ i2 ≤ j2 + 2) ∧ j2 ≤ g ∧ Hid (scanDown (fun x => !ltInt x dk[a]!) dk i2 j2 = scanDown (fun x => !ltInt x dk[a]!) dk i2 j) ∧ Hid (SI w0 blk off dk wr))
      case atStart => exact ⟨j, by first | rfl | go_num, by omega, by omega, rfl, SD⟩
      case round =>
        clear SD
        obtain ⟨j2, rfl, hr0, hm0, HF, S1⟩ := hrel
        by_cases hle : i2 ≤ j2
        · have hz : (i2 : Int) ≤ (j2 : Int) := by omega
          have hzd : decide ((i2 : Int) ≤ (j2 : Int)) = true := decide_eq_true hz
          have b1 : (j2 : Int) < (d.size : Int) := by omega
          have b2 : (a : Int) < (d.size : Int) := by omega
          cases hlv : ltInt dk[j2]! dk[a]! with
          | false =>
            obtain ⟨x, hx⟩ : ∃ x, x = dk[j2]! := ⟨_, rfl⟩
            obtain ⟨y, hy⟩ : ∃ x, x = dk[a]! := ⟨_, rfl⟩
            have c1 := S1.out.cell (j2) (by omega)
            have c2 := S1.out.cell (a) (by omega)
            have hlx : ltInt x y = false := by rw [hx, hy]; exact hlv
            have HLV : Hid _ := hlv
            clear hlv
            rw [← hx] at c1
            rw [← hy] at c2
            clear hx hy
            go_wp2_with fail
            go_quiet ((go_at_call 33; exact Calls.quiet_of_same (less_ _ _ _)))
            have SK : Hid (SI w0 blk off dk _) := S1.out.drewN nq
            clear S1 c1 c2
            generalize World.drewN _ nq = w2 at SK ⊢
            simp only [hlx]
            clear hlx
            have hlv := HLV.out
            clear HLV

            go_wp2
            go_roundg (j2 - 1)
            case measure => omega
            case rel => exact ⟨j2 - 1, by first | rfl | go_num, by omega, by omega, (scanDown_go (fun x => !ltInt x dk[a]!) dk i2 j2 hle (by omega) (by simp [hlv])).symm.trans HF.out, SK⟩
          | true =>
            obtain ⟨x, hx⟩ : ∃ x, x = dk[j2]! := ⟨_, rfl⟩
            obtain ⟨y, hy⟩ : ∃ x, x = dk[a]! := ⟨_, rfl⟩
            have c1 := S1.out.cell (j2) (by omega)
            have c2 := S1.out.cell (a) (by omega)
            have hlx : ltInt x y = true := by rw [hx, hy]; exact hlv
            have HLV : Hid _ := hlv
            clear hlv
            rw [← hx] at c1
            rw [← hy] at c2
            clear hx hy
            go_wp2_with fail
            go_quiet ((go_at_call 33; exact Calls.quiet_of_same (less_ _ _ _)))
            have SK : Hid (SI w0 blk off dk _) := S1.out.drewN nq
            clear S1 c1 c2
            generalize World.drewN _ nq = w2 at SK ⊢
            simp only [hlx]
            clear hlx
            have hlv := HLV.out
            clear HLV

            go_wp2_with fail
            go_meet
            case rel => exact ⟨j2, rfl, hr0, (scanDown_end (fun x => !ltInt x dk[a]!) dk i2 j2 (Or.inr (by simp [hlv]))).symm.trans HF.out, SK⟩
        · have hz : ¬ (i2 : Int) ≤ (j2 : Int) := by omega
          have hzd : decide ((i2 : Int) ≤ (j2 : Int)) = false := decide_eq_false hz
          go_wp2_with fail
          go_big_region
          have SK : Hid (SI w0 blk off dk _) := S1.out.drew
          clear S1
          generalize World.drew _ = w2 at SK ⊢
          go_wp2_with fail
          go_meet
          case rel => exact ⟨j2, rfl, hr0, (scanDown_end (fun x => !ltInt x dk[a]!) dk i2 j2 (Or.inl hle)).symm.trans HF.out, SK⟩
    case rest =>
      clear SD
      obtain ⟨j2, rfl, hrj2, Hj2, SE⟩ := hcut

      have HQ := partition_eq d a b pivot i2 j2 dk D1.out (by rw [← Hi.out, ← Hj.out]; exact Hi2.out) (by rw [← Hj.out]; exact Hj2.out)
      clear zi zj
      by_cases hgt : i2 > j2
      · have hz : (j2 : Int) < (i2 : Int) := by omega
        rw [if_pos hgt] at HQ
        have HQ' : Hid _ := HQ
        clear HQ
        have b1 : (a : Int) < (d.size : Int) := by omega
        have b2 : (j2 : Int) < (d.size : Int) := by omega
        go_wp2_with fail
        obtain ⟨x, hx⟩ : ∃ x, x = dk[j2]! := ⟨_, rfl⟩
        obtain ⟨y, hy⟩ : ∃ x, x = dk[a]! := ⟨_, rfl⟩
        have c1 := SE.out.cell (j2) (by omega)
        have c2 := SE.out.cell (a) (by omega)
        have f1 := SE.out.froz (j2) (by omega)
        have f2 := SE.out.froz (a) (by omega)
        obtain ⟨u, c3⟩ := SE.out.cell2 (j2) (a) (by omega) (by omega) (.int .i32 y)
        have S2 := SE.out.swap (j2) (a) (by omega) (by omega)
        rw [← hx] at c1 S2
        rw [← hy] at c2 S2
        have S3 : Hid _ := S2
        clear S2 hx hy SE
        go_wp2_with fail
        go_big_region
        have SF : Hid (SI w0 blk off (swp dk (j2) (a)) _) := S3.out.drew
        clear S3 c1 c2 c3 f1 f2
        generalize World.drew _ = w5 at SF ⊢

        go_wp2_with fail
        go_ret2
        rw [HQ'.out]
        exact ⟨rfl, SF.out⟩
      · have hz : ¬ (j2 : Int) < (i2 : Int) := by omega
        rw [if_neg hgt] at HQ
        have HQ' : Hid _ := HQ
        clear HQ
        have b1 : (i2 : Int) < (d.size : Int) := by omega
        have b2 : (j2 : Int) < (d.size : Int) := by omega
        go_wp2_with fail
        obtain ⟨x, hx⟩ : ∃ x, x = dk[i2]! := ⟨_, rfl⟩
        obtain ⟨y, hy⟩ : ∃ x, x = dk[j2]! := ⟨_, rfl⟩
        have c1 := SE.out.cell (i2) (by omega)
        have c2 := SE.out.cell (j2) (by omega)
        have f1 := SE.out.froz (i2) (by omega)
        have f2 := SE.out.froz (j2) (by omega)
        obtain ⟨u, c3⟩ := SE.out.cell2 (i2) (j2) (by omega) (by omega) (.int .i32 y)
        have S2 := SE.out.swap (i2) (j2) (by omega) (by omega)
        rw [← hx] at c1 S2
        rw [← hy] at c2 S2
        have S3 : Hid _ := S2
        clear S2 hx hy SE
        go_wp2_with fail
        go_big_region
        have SF : Hid (SI w0 blk off (swp dk (i2) (j2)) _) := S3.out.drew
        clear S3 c1 c2 c3 f1 f2
        generalize World.drew _ = w5 at SF ⊢

        obtain ⟨d2, D2, hs2⟩ : ∃ d2, Hid (d2 = swp dk i2 j2) ∧ d2.size = d.size := ⟨_, rfl, by rw [size_swp]; exact hsk⟩
        have SG : Hid (SI w0 blk off d2 w5) := by rw [D2.out]; exact SF.out
        clear SF b1 b2
        go_upto_block 4 with fail
        go_cut [10, 11] from 99 to 152 (fun vi vj wx => ∃ (j3 : Nat) (d3 : Array Int), vj = .int .i64 j3 ∧ a ≤ j3 ∧ j3 < b ∧ d3.size = d.size ∧ Hid (partLoop ltInt a (i2 + 1) (j2 - 1) d2 = (j3, d3)) ∧ Hid (SI w0 blk off d3 wx))
        case first =>
          go_wp2_with fail
          go_loopg [10, 11] (b - a) (fun g vi vj wr => ∃ (i j : Nat) (dk : Array Int), vi = .int .i64 i ∧ vj = .int .i64 j ∧ a < i ∧ i ≤ j + 2 ∧ a ≤ j ∧ j < b ∧ j + 1 - i < g + 1 ∧ dk.size = d.size ∧ Hid (SI w0 blk off dk wr) ∧ Hid (partLoop ltInt a i j dk = partLoop ltInt a (i2 + 1) (j2 - 1) d2))
          case atStart => exact ⟨i2 + 1, j2 - 1, d2, by go_num, by go_num, by omega, by omega, by omega, by omega, by omega, hs2, SG, rfl⟩
          case round =>
            clear SG Hi Hj ki kj
            obtain ⟨i5, j5, d5, rfl, rfl, hai5, hij5, haj5, hjb5, hg5, hsk5, SC, HL⟩ := hrel
            go_upto_block 6 with fail
            go_cut [10] from 99 to 114 (fun v wx => ∃ i6 : Nat, v = .int .i64 i6 ∧ (i5 ≤ i6 ∧ i6 ≤ j5 + 2) ∧ Hid (i6 = scanUp (fun x => ltInt x d5[a]!) d5 j5 i5) ∧ Hid (SI w0 blk off d5 wx))
            case first =>
              go_wp2_with fail
              go_loopg [10] (j5 + 2 - i5) (fun g v wr => ∃ i6 : Nat, v = .int .i64 i6 ∧ (i5 ≤ i6 ∧ i6 ≤ j5 + 2) ∧ j5 + 2 - i6 ≤ g ∧ Hid (scanUp (fun x => ltInt x d5[a]!) d5 j5 i6 = scanUp (fun x => ltInt x d5[a]!) d5 j5 i5) ∧ Hid (SI w0 blk off d5 wr))
              case atStart => exact ⟨i5, by first | rfl | go_num, by omega, by omega, rfl, SC⟩
              case round =>
                clear SC
                obtain ⟨i6, rfl, hr0, hm0, HF, S1⟩ := hrel
                by_cases hle : i6 ≤ j5
                · have hz : (i6 : Int) ≤ (j5 : Int) := by omega
                  have hzd : decide ((i6 : Int) ≤ (j5 : Int)) = true := decide_eq_true hz
                  have b1 : (i6 : Int) < (d.size : Int) := by omega
                  have b2 : (a : Int) < (d.size : Int) := by omega
                  cases hlv : ltInt d5[i6]! d5[a]! with
                  | true =>
                    obtain ⟨x, hx⟩ : ∃ x, x = d5[i6]! := ⟨_, rfl⟩
                    obtain ⟨y, hy⟩ : ∃ x, x = d5[a]! := ⟨_, rfl⟩
                    have c1 := S1.out.cell (i6) (by omega)
                    have c2 := S1.out.cell (a) (by omega)
                    have hlx : ltInt x y = true := by rw [hx, hy]; exact hlv
                    have HLV : Hid _ := hlv
                    clear hlv
                    rw [← hx] at c1
                    rw [← hy] at c2
                    clear hx hy
                    go_wp2_with fail
                    go_quiet ((go_at_call 33; exact Calls.quiet_of_same (less_ _ _ _)))
                    have SK : Hid (SI w0 blk off d5 _) := S1.out.drewN nq
                    clear S1 c1 c2
                    generalize World.drewN _ nq = w2 at SK ⊢
                    simp only [hlx]
                    clear hlx
                    have hlv := HLV.out
                    clear HLV

                    go_wp2
                    go_roundg (j5 + 2 - (i6 + 1))
                    case measure => omega
                    case rel => exact ⟨i6 + 1, by first | rfl | go_num, by omega, by omega, (scanUp_go (fun x => ltInt x d5[a]!) d5 j5 i6 hle (by simp [hlv])).symm.trans HF.out, SK⟩
                  | false =>
                    obtain ⟨x, hx⟩ : ∃ x, x = d5[i6]! := ⟨_, rfl⟩
                    obtain ⟨y, hy⟩ : ∃ x, x = d5[a]! := ⟨_, rfl⟩
                    have c1 := S1.out.cell (i6) (by omega)
                    have c2 := S1.out.cell (a) (by omega)
                    have hlx : ltInt x y = false := by rw [hx, hy]; exact hlv
                    have HLV : Hid _ := hlv
                    clear hlv
                    rw [← hx] at c1
                    rw [← hy] at c2
                    clear hx hy
                    go_wp2_with fail
                    go_quiet ((go_at_call 33; exact Calls.quiet_of_same (less_ _ _ _)))
                    have SK : Hid (SI w0 blk off d5 _) := S1.out.drewN nq
                    clear S1 c1 c2
                    generalize World.drewN _ nq = w2 at SK ⊢
                    simp only [hlx]
                    clear hlx
                    have hlv := HLV.out
                    clear HLV

                    go_wp2_with fail
                    go_meet
                    case rel => exact ⟨i6, rfl, hr0, (scanUp_end (fun x => ltInt x d5[a]!) d5 j5 i6 (Or.inr (by simp [hlv]))).symm.trans HF.out, SK⟩
                · have hz : ¬ (i6 : Int) ≤ (j5 : Int) := by omega
                  have hzd : decide ((i6 : Int) ≤ (j5 : Int)) = false := decide_eq_false hz
                  go_wp2_with fail
                  go_big_region
                  have SK : Hid (SI w0 blk off d5 _) := S1.out.drew
                  clear S1
                  generalize World.drew _ = w2 at SK ⊢
                  go_wp2_with fail
                  go_meet
                  case rel => exact ⟨i6, rfl, hr0, (scanUp_end (fun x => ltInt x d5[a]!) d5 j5 i6 (Or.inl hle)).symm.trans HF.out, SK⟩
            case rest =>
              clear SC
              obtain ⟨i6, rfl, hri6, Hi6, SD⟩ := hcut
              go_upto_block 8 with fail
              go_cut [11] from 115 to 131 (fun v wx => ∃ j6 : Nat, v = .int .i64 j6 ∧ (a ≤ j6 ∧ j6 ≤ j5 ∧ i6 ≤ j6 + 2) ∧ Hid (j6 = scanDown (fun x => !ltInt x d5[a]!) d5 i6 j5) ∧ Hid (SI w0 blk off d5 wx))
              case first =>
                go_wp2_with fail
                go_loopg [11] (j5) (fun g v wr => ∃ j6 : Nat, v = .int .i64 j6 ∧ (a ≤ j6 ∧ j6 ≤ j5 ∧ i6 ≤ j6 + 2) ∧ j6 ≤ g ∧ Hid (scanDown (fun x => !ltInt x d5[a]!) d5 i6 j6 = scanDown (fun x => !ltInt x d5[a]!) d5 i6 j5) ∧ Hid (SI w0 blk off d5 wr))
                case atStart => exact ⟨j5, by first | rfl | go_num, by omega, by omega, rfl, SD⟩
                case round =>
                  clear SD
                  obtain ⟨j6, rfl, hr0, hm0, HF, S1⟩ := hrel
                  by_cases hle : i6 ≤ j6
                  · have hz : (i6 : Int) ≤ (j6 : Int) := by omega
                    have hzd : decide ((i6 : Int) ≤ (j6 : Int)) = true := decide_eq_true hz
                    have b1 : (j6 : Int) < (d.size : Int) := by omega
                    have b2 : (a : Int) < (d.size : Int) := by omega
                    cases hlv : ltInt d5[j6]! d5[a]! with
                    | false =>
                      obtain ⟨x, hx⟩ : ∃ x, x = d5[j6]! := ⟨_, rfl⟩
                      obtain ⟨y, hy⟩ : ∃ x, x = d5[a]! := ⟨_, rfl⟩
                      have c1 := S1.out.cell (j6) (by omega)
                      have c2 := S1.out.cell (a) (by omega)
                      have hlx : ltInt x y = false := by rw [hx, hy]; exact hlv
                      have HLV : Hid _ := hlv
                      clear hlv
                      rw [← hx] at c1
                      rw [← hy] at c2
                      clear hx hy
                      go_wp2_with fail
                      go_quiet ((go_at_call 33; exact Calls.quiet_of_same (less_ _ _ _)))
                      have SK : Hid (SI w0 blk off d5 _) := S1.out.drewN nq
                      clear S1 c1 c2
                      generalize World.drewN _ nq = w2 at SK ⊢
                      simp only [hlx]
                      clear hlx
                      have hlv := HLV.out
                      clear HLV

                      go_wp2
                      go_roundg (j6 - 1)
                      case measure => omega
                      case rel => exact ⟨j6 - 1, by first | rfl | go_num, by omega, by omega, (scanDown_go (fun x => !ltInt x d5[a]!) d5 i6 j6 hle (by omega) (by simp [hlv])).symm.trans HF.out, SK⟩
                    | true =>
                      obtain ⟨x, hx⟩ : ∃ x, x = d5[j6]! := ⟨_, rfl⟩
                      obtain ⟨y, hy⟩ : ∃ x, x = d5[a]! := ⟨_, rfl⟩
                      have c1 := S1.out.cell (j6) (by omega)
                      have c2 := S1.out.cell (a) (by omega)
                      have hlx : ltInt x y = true := by rw [hx, hy]; exact hlv
                      have HLV : Hid _ := hlv
                      clear hlv
                      rw [← hx] at c1
                      rw [← hy] at c2
                      clear hx hy
                      go_wp2_with fail
                      go_quiet ((go_at_call 33; exact Calls.quiet_of_same (less_ _ _ _)))
                      have SK : Hid (SI w0 blk off d5 _) := S1.out.drewN nq
                      clear S1 c1 c2
                      generalize World.drewN _ nq = w2 at SK ⊢
                      simp only [hlx]
                      clear hlx
                      have hlv := HLV.out
                      clear HLV

                      go_wp2_with fail
                      go_meet
                      case rel => exact ⟨j6, rfl, hr0, (scanDown_end (fun x => !ltInt x d5[a]!) d5 i6 j6 (Or.inr (by simp [hlv]))).symm.trans HF.out, SK⟩
                  · have hz : ¬ (i6 : Int) ≤ (j6 : Int) := by omega
                    have hzd : decide ((i6 : Int) ≤ (j6 : Int)) = false := decide_eq_false hz
                    go_wp2_with fail
                    go_big_region
                    have SK : Hid (SI w0 blk off d5 _) := S1.out.drew
                    clear S1
                    generalize World.drew _ = w2 at SK ⊢
                    go_wp2_with fail
                    go_meet
                    case rel => exact ⟨j6, rfl, hr0, (scanDown_end (fun x => !ltInt x d5[a]!) d5 i6 j6 (Or.inl hle)).symm.trans HF.out, SK⟩
              case rest =>
                clear SD
                obtain ⟨j6, rfl, hrj6, Hj6, SE⟩ := hcut

                have HQ := partLoop_eq ltInt a i5 j5 d5
                rw [← Hi6.out, ← Hj6.out] at HQ
                by_cases hgt6 : i6 > j6
                · have hz : (j6 : Int) < (i6 : Int) := by omega
                  rw [if_pos hgt6, HL.out] at HQ
                  have HR : Hid _ := HQ
                  clear HQ
                  go_wp2_with fail
                  go_meet
                  case rel => exact ⟨j6, d5, rfl, by omega, by omega, hsk5, HR, SE⟩
                · have hz : ¬ (j6 : Int) < (i6 : Int) := by omega
                  rw [if_neg hgt6, HL.out] at HQ
                  have HR : Hid _ := HQ
                  clear HQ
                  have b1 : (i6 : Int) < (d.size : Int) := by omega
                  have b2 : (j6 : Int) < (d.size : Int) := by omega
                  go_wp2_with fail
                  obtain ⟨x, hx⟩ : ∃ x, x = d5[i6]! := ⟨_, rfl⟩
                  obtain ⟨y, hy⟩ : ∃ x, x = d5[j6]! := ⟨_, rfl⟩
                  have c1 := SE.out.cell (i6) (by omega)
                  have c2 := SE.out.cell (j6) (by omega)
                  have f1 := SE.out.froz (i6) (by omega)
                  have f2 := SE.out.froz (j6) (by omega)
                  obtain ⟨u, c3⟩ := SE.out.cell2 (i6) (j6) (by omega) (by omega) (.int .i32 y)
                  have S2 := SE.out.swap (i6) (j6) (by omega) (by omega)
                  rw [← hx] at c1 S2
                  rw [← hy] at c2 S2
                  have S3 : Hid _ := S2
                  clear S2 hx hy SE
                  go_wp2_with fail
                  go_big_region
                  have SF : Hid (SI w0 blk off (swp d5 (i6) (j6)) _) := S3.out.drew
                  clear S3 c1 c2 c3 f1 f2
                  generalize World.drew _ = w5 at SF ⊢

                  go_wp2
                  go_roundg (j6 - 1 + 1 - (i6 + 1))
                  case measure => omega
                  case rel => exact ⟨i6 + 1, j6 - 1, swp d5 i6 j6, by go_num, by go_num, by omega, by omega, by omega, by omega, by omega, by rw [size_swp]; exact hsk5, SF, HR.out.symm⟩
        case rest =>
          clear SG
          obtain ⟨j3, d3, rfl, ha3, hb3, hs3, HP3, SX⟩ := hcut
          have b1 : (a : Int) < (d.size : Int) := by omega
          have b2 : (j3 : Int) < (d.size : Int) := by omega
          go_wp2_with fail
          obtain ⟨x, hx⟩ : ∃ x, x = d3[j3]! := ⟨_, rfl⟩
          obtain ⟨y, hy⟩ : ∃ x, x = d3[a]! := ⟨_, rfl⟩
          have c1 := SX.out.cell (j3) (by omega)
          have c2 := SX.out.cell (a) (by omega)
          have f1 := SX.out.froz (j3) (by omega)
          have f2 := SX.out.froz (a) (by omega)
          obtain ⟨u, c3⟩ := SX.out.cell2 (j3) (a) (by omega) (by omega) (.int .i32 y)
          have S2 := SX.out.swap (j3) (a) (by omega) (by omega)
          rw [← hx] at c1 S2
          rw [← hy] at c2 S2
          have S3 : Hid _ := S2
          clear S2 hx hy SX
          go_wp2_with fail
          go_big_region
          have SF : Hid (SI w0 blk off (swp d3 (j3) (a)) _) := S3.out.drew
          clear S3 c1 c2 c3 f1 f2
          generalize World.drew _ = w7 at SF ⊢

          go_wp2_with fail
          go_ret2
          rw [HQ'.out, ← D2.out, HP3.out]
          exact ⟨rfl, SF.out⟩
end Go.Proofs.Ybulkecac
