import Derived.Test.YbulkecacOrdD
import Derived.Sort.LotA
namespace Go.Proofs.Ybulkecac
open Go.RowKit Go.Sort
set_option linter.unusedSimpArgs false
set_option linter.unusedVariables false

theorem ss_go (d : Array Int) (b i : Nat) (h : i < b) (hl : ltInt d[i]! d[i - 1]! = false) : scanSorted ltInt d b i = scanSorted ltInt d b (i + 1) := by
  rw [scanSorted, if_pos (by rw [hl]; simp [h])]
theorem ss_stop (d : Array Int) (b i : Nat) (h : ¬ i < b ∨ ltInt d[i]! d[i - 1]! = true) : scanSorted ltInt d b i = i := by
  rw [scanSorted, if_neg (by rcases h with h | h <;> simp [h])]
theorem sdn_go (j : Nat) (d : Array Int) (hl : ltInt d[j + 1]! d[j]! = true) : shiftDown ltInt (j + 1) d = shiftDown ltInt j (swp d (j + 1) j) := by
  rw [shiftDown, if_neg (by rw [hl]; simp)]
theorem sdn_stop (j : Nat) (d : Array Int) (hl : ltInt d[j + 1]! d[j]! = false) : shiftDown ltInt (j + 1) d = d := by
  rw [shiftDown, if_pos (by rw [hl]; simp)]
theorem sup_go (b j : Nat) (d : Array Int) (hj : j < b) (hl : ltInt d[j]! d[j - 1]! = true) : shiftUp ltInt b j d = shiftUp ltInt b (j + 1) (swp d j (j - 1)) := by
  rw [shiftUp, if_pos hj, if_neg (by rw [hl]; simp)]
theorem sup_stop (b j : Nat) (d : Array Int) (h : ¬ j < b ∨ ltInt d[j]! d[j - 1]! = false) : shiftUp ltInt b j d = d := by
  rw [shiftUp]
  by_cases hj : j < b
  · rw [if_pos hj, if_pos (by rcases h with h | h; exact absurd hj h; rw [h]; rfl)]
  · rw [if_neg hj]
theorem pins_step (a b s i k : Nat) (d : Array Int) (hk : k = scanSorted ltInt d b i) :
    partialIns ltInt a b (s + 1) i d = if k = b then (d, true) else if b - a < 50 then (d, false) else partialIns ltInt a b s k (fixUp ltInt b k (fixDown ltInt a k (swp d k (k - 1)))) := by
  rw [partialIns_succ, ← hk]

set_option maxRecDepth 100000 in
set_option maxHeartbeats 8000000 in
/-- slices.partialInsertionSortOrdered at int32. -/
theorem pins_ (w0 : World) (blk off cap a b : Nat) (d : Array Int) (w : World) (S : SI w0 blk off d w) (hab : a < b) (hb : b ≤ d.size) (hsz : d.size < 2305843009213693952) :
    Calls Yba.prog 32 #[.slice (some ⟨blk, off, none⟩) d.size cap, .int .i64 a, .int .i64 b] w fun e w' =>
      e = .returned (.bool (Sort.partialInsertionSort ltInt d a b).2) ∧ SI w0 blk off (Sort.partialInsertionSort ltInt d a b).1 w' := by
  have S0 : Hid (SI w0 blk off d w) := S
  clear S
  unfold Sort.partialInsertionSort
  obtain ⟨R, HR⟩ : ∃ R, Hid (R = partialIns ltInt a b 5 (a + 1) d) := ⟨_, rfl⟩
  rw [← HR.out]
  go_enter Yba.func32, Yba.ntmps32
  go_wp2_with fail
  go_loopg [7, 8] 5 (fun g vi vj wr => ∃ (i : Nat) (dk : Array Int), vi = .int .i64 i ∧ vj = .int .i64 (5 - (g : Int)) ∧ g ≤ 5 ∧ a < i ∧ i ≤ b ∧ dk.size = d.size ∧ Hid (SI w0 blk off dk wr) ∧ Hid (R = partialIns ltInt a b g i dk))
  case atStart => exact ⟨a + 1, d, by go_num, by first | rfl | go_num, by omega, by omega, by omega, rfl, S0, HR⟩
  case round =>
    clear S0 HR
    obtain ⟨i, dk, rfl, rfl, hg5, hai, hib, hsk, SC, HL⟩ := hrel
    rcases Nat.eq_zero_or_pos gk with h0 | h0
    · subst h0
      have HL' : Hid (R = (dk, false)) := HL.out
      clear HL
      go_wp2_with fail
      go_ret
      rw [HL'.out]
      exact ⟨rfl, SC.out⟩
    · obtain ⟨s, rfl⟩ : ∃ s, gk = s + 1 := ⟨gk - 1, by omega⟩
      obtain ⟨sz, hsz1, hsz2⟩ : ∃ z : Int, z = 5 - ((s + 1 : Nat) : Int) ∧ z < 5 := ⟨_, rfl, by omega⟩
      rw [← hsz1]
      have HSZ : Hid (sz = 4 - (s : Int)) := by show sz = 4 - (s : Int); omega
      have hsz3 : 0 ≤ sz := by omega
      clear hsz1
      go_upto_block 2 with fail
      go_cut [7] from 17 to 34 (fun v wx => ∃ k : Nat, v = .int .i64 k ∧ i ≤ k ∧ k ≤ b ∧ Hid (k = scanSorted ltInt dk b i) ∧ Hid (SI w0 blk off dk wx))
      case first =>
        go_wp2_with fail
        go_loopg [7] (b - i) (fun g v wr => ∃ k : Nat, v = .int .i64 k ∧ i ≤ k ∧ k ≤ b ∧ b - k ≤ g ∧ Hid (scanSorted ltInt dk b k = scanSorted ltInt dk b i) ∧ Hid (SI w0 blk off dk wr))
        case atStart => exact ⟨i, rfl, Nat.le_refl _, by omega, Nat.le_refl _, rfl, SC⟩
        case round =>
          clear SC
          obtain ⟨k, rfl, hik, hkb, hm, HF, S1⟩ := hrel
          by_cases hle : k < b
          · obtain ⟨m, rfl⟩ : ∃ m, k = m + 1 := ⟨k - 1, by omega⟩
            have eN : ((m + 1 : Nat) : Int) = (m : Int) + 1 := by omega
            rw [eN]
            have g1 : decide ((m : Int) + 1 < (b : Int)) = true := decide_eq_true (by omega)
            have g2 : (m : Int) + 1 < (b : Int) := by omega
            have b1 : (m : Int) + 1 < (d.size : Int) := by omega
            have b2 : (m : Int) < (d.size : Int) := by omega
            have b3 : ((m : Int) + 1).toNat = m + 1 := by omega
            cases hlv : ltInt dk[m + 1]! dk[m]! with
            | false =>
              obtain ⟨x, hx⟩ : ∃ x, x = dk[m + 1]! := ⟨_, rfl⟩
              obtain ⟨y, hy⟩ : ∃ x, x = dk[m]! := ⟨_, rfl⟩
              have c1 := S1.out.cell (m + 1) (by omega)
              have c2 := S1.out.cell (m) (by omega)
              have hlx : ltInt x y = false := by rw [hx, hy]; exact hlv
              have HLV : Hid _ := hlv
              clear hlv
              rw [← hx] at c1
              rw [← hy] at c2
              clear hx hy
              go_wp2_with fail
              go_quiet ((go_at_call 33; exact Calls.quiet_of_same (less_ _ _ _)))
              have SK : Hid (SI w0 blk off dk _) := S1.out.drewN nq
              clear S1 c1 c2
              generalize World.drewN _ nq = w2 at SK ⊢
              simp only [hlx]
              clear hlx
              have hlv := HLV.out
              clear HLV

              go_wp2
              go_roundg (b - (m + 1 + 1))
              case measure => omega
              case rel => exact ⟨m + 1 + 1, by go_num, by omega, by omega, Nat.le_refl _, (ss_go dk b (m + 1) hle hlv).symm.trans HF.out, SK⟩
            | true =>
              obtain ⟨x, hx⟩ : ∃ x, x = dk[m + 1]! := ⟨_, rfl⟩
              obtain ⟨y, hy⟩ : ∃ x, x = dk[m]! := ⟨_, rfl⟩
              have c1 := S1.out.cell (m + 1) (by omega)
              have c2 := S1.out.cell (m) (by omega)
              have hlx : ltInt x y = true := by rw [hx, hy]; exact hlv
              have HLV : Hid _ := hlv
              clear hlv
              rw [← hx] at c1
              rw [← hy] at c2
              clear hx hy
              go_wp2_with fail
              go_quiet ((go_at_call 33; exact Calls.quiet_of_same (less_ _ _ _)))
              have SK : Hid (SI w0 blk off dk _) := S1.out.drewN nq
              clear S1 c1 c2
              generalize World.drewN _ nq = w2 at SK ⊢
              simp only [hlx]
              clear hlx
              have hlv := HLV.out
              clear HLV

              go_wp2_with fail
              go_meet
              case rel => exact ⟨m + 1, by go_num, by omega, by omega, (ss_stop dk b (m + 1) (Or.inr hlv)).symm.trans HF.out, SK⟩
          · have g1 : decide ((k : Int) < (b : Int)) = false := decide_eq_false (by omega)
            have g2 : ¬ (k : Int) < (b : Int) := by omega
            go_wp2_with fail
            go_big_region
            have SK : Hid (SI w0 blk off dk _) := S1.out.drew
            clear S1
            generalize World.drew _ = w2 at SK ⊢
            go_wp2_with fail
            go_meet
            case rel => exact ⟨k, rfl, hik, hkb, (ss_stop dk b k (Or.inl hle)).symm.trans HF.out, SK⟩
      case rest =>
        clear SC
        obtain ⟨k, rfl, hik, hkb, HK, SD⟩ := hcut
        have HQ := HL.out
        rw [pins_step a b s i k dk HK.out] at HQ
        clear HL HK
        by_cases hkb2 : k = b
        · have hz : (k : Int) = (b : Int) := by omega
          rw [if_pos hkb2] at HQ
          have HQ' : Hid _ := HQ
          clear HQ
          rw [hz]
          clear hz
          go_wp2_with fail
          go_ret
          rw [HQ'.out]
          exact ⟨rfl, SD.out⟩
        · have hz : ¬ (k : Int) = (b : Int) := by omega
          rw [if_neg hkb2] at HQ
          by_cases h50 : b - a < 50
          · rw [if_pos h50] at HQ
            have h50z : (b : Int) - (a : Int) < 50 := by omega
            have HQ' : Hid _ := HQ
            clear HQ
            go_wp2_with fail
            go_ret
            rw [HQ'.out]
            exact ⟨rfl, SD.out⟩
          · rw [if_neg h50] at HQ
            have h50z : ¬ (b : Int) - (a : Int) < 50 := by omega
            have HQ' : Hid _ := HQ
            clear HQ
            obtain ⟨m, rfl⟩ : ∃ m, k = m + 1 := ⟨k - 1, by omega⟩
            have eN : ((m + 1 : Nat) : Int) = (m : Int) + 1 := by omega
            rw [eN] at hz ⊢
            have b1 : (m : Int) + 1 < (d.size : Int) := by omega
            have b2 : (m : Int) < (d.size : Int) := by omega
            have b3 : ((m : Int) + 1).toNat = m + 1 := by omega
            go_wp2_with fail
            obtain ⟨x, hx⟩ : ∃ x, x = dk[m + 1]! := ⟨_, rfl⟩
            obtain ⟨y, hy⟩ : ∃ x, x = dk[m]! := ⟨_, rfl⟩
            have c1 := SD.out.cell (m + 1) (by omega)
            have c2 := SD.out.cell (m) (by omega)
            have f1 := SD.out.froz (m + 1) (by omega)
            have f2 := SD.out.froz (m) (by omega)
            obtain ⟨u, c3⟩ := SD.out.cell2 (m + 1) (m) (by omega) (by omega) (.int .i32 y)
            have S2 := SD.out.swap (m + 1) (m) (by omega) (by omega)
            rw [← hx] at c1 S2
            rw [← hy] at c2 S2
            have S3 : Hid _ := S2
            clear S2 hx hy SD
            go_wp2_with fail
            go_big_region
            have SE : Hid (SI w0 blk off (swp dk (m + 1) (m)) _) := S3.out.drew
            clear S3 c1 c2 c3 f1 f2
            generalize World.drew _ = w3 at SE ⊢

            obtain ⟨d1, D1, hs1⟩ : ∃ d1, Hid (d1 = swp dk (m + 1) m) ∧ d1.size = d.size := ⟨_, rfl, by rw [size_swp]; exact hsk⟩
            have SF : Hid (SI w0 blk off d1 w3) := by rw [D1.out]; exact SE.out
            clear SE
            go_upto_if 61 with fail
            go_cut [9] from 62 to 94 (fun v wx => ∃ d2 : Array Int, d2.size = d.size ∧ Hid (d2 = fixDown ltInt a (m + 1) d1) ∧ Hid (SI w0 blk off d2 wx))
            case first =>
              by_cases hma : a < m
              · have hmz : 2 ≤ (m : Int) + 1 - (a : Int) := by omega
                have HD : Hid (fixDown ltInt a (m + 1) d1 = shiftDown ltInt m d1) := by show _ = _; unfold fixDown; rw [if_pos (by omega)]; rfl
                go_wp2_with fail
                go_loopg [9] m (fun g v wr => ∃ dj : Array Int, v = .int .i64 g ∧ g ≤ m ∧ dj.size = d.size ∧ Hid (shiftDown ltInt g dj = shiftDown ltInt m d1) ∧ Hid (SI w0 blk off dj wr))
                case atStart => exact ⟨d1, by first | rfl | go_num, Nat.le_refl _, hs1, rfl, SF⟩
                case round =>
                  clear SF
                  obtain ⟨dj, rfl, hgm, hsj, HF, S1⟩ := hrel
                  rcases Nat.eq_zero_or_pos gk with h0 | h0
                  · subst h0
                    go_wp2_with fail
                    go_meet
                    case rel => exact ⟨dj, hsj, (show _ = _ from by rw [HD.out]; exact HF.out), S1⟩
                  · obtain ⟨q, rfl⟩ : ∃ q, gk = q + 1 := ⟨gk - 1, by omega⟩
                    have eQ : ((q + 1 : Nat) : Int) = (q : Int) + 1 := by omega
                    rw [eQ]
                    have g2 : (1 : Int) ≤ (q : Int) + 1 := by omega
                    have b1 : (q : Int) + 1 < (d.size : Int) := by omega
                    have b2 : (q : Int) < (d.size : Int) := by omega
                    have b3 : ((q : Int) + 1).toNat = q + 1 := by omega
                    cases hlv : ltInt dj[q + 1]! dj[q]! with
                    | true =>
                      obtain ⟨x, hx⟩ : ∃ x, x = dj[q + 1]! := ⟨_, rfl⟩
                      obtain ⟨y, hy⟩ : ∃ x, x = dj[q]! := ⟨_, rfl⟩
                      have c1 := S1.out.cell (q + 1) (by omega)
                      have c2 := S1.out.cell (q) (by omega)
                      have hlx : ltInt x y = true := by rw [hx, hy]; exact hlv
                      have HLV : Hid _ := hlv
                      clear hlv
                      rw [← hx] at c1
                      rw [← hy] at c2
                      clear hx hy
                      go_wp2_with fail
                      go_quiet ((go_at_call 33; exact Calls.quiet_of_same (less_ _ _ _)))
                      have SK : Hid (SI w0 blk off dj _) := S1.out.drewN nq
                      clear S1 c1 c2
                      generalize World.drewN _ nq = w4 at SK ⊢
                      simp only [hlx]
                      clear hlx
                      have hlv := HLV.out
                      clear HLV
                      go_wp2_with fail
                      obtain ⟨x, hx⟩ : ∃ x, x = dj[q + 1]! := ⟨_, rfl⟩
                      obtain ⟨y, hy⟩ : ∃ x, x = dj[q]! := ⟨_, rfl⟩
                      have c1 := SK.out.cell (q + 1) (by omega)
                      have c2 := SK.out.cell (q) (by omega)
                      have f1 := SK.out.froz (q + 1) (by omega)
                      have f2 := SK.out.froz (q) (by omega)
                      obtain ⟨u, c3⟩ := SK.out.cell2 (q + 1) (q) (by omega) (by omega) (.int .i32 y)
                      have S2 := SK.out.swap (q + 1) (q) (by omega) (by omega)
                      rw [← hx] at c1 S2
                      rw [← hy] at c2 S2
                      have S3 : Hid _ := S2
                      clear S2 hx hy SK
                      go_wp2_with fail
                      go_big_region
                      have SL : Hid (SI w0 blk off (swp dj (q + 1) (q)) _) := S3.out.drew
                      clear S3 c1 c2 c3 f1 f2
                      generalize World.drew _ = w5 at SL ⊢

                      go_wp2
                      go_roundg q
                      case measure => omega
                      case rel => exact ⟨swp dj (q + 1) q, by first | rfl | go_num, by omega, by rw [size_swp]; exact hsj, (sdn_go q dj hlv).symm.trans HF.out, SL⟩
                    | false =>
                      obtain ⟨x, hx⟩ : ∃ x, x = dj[q + 1]! := ⟨_, rfl⟩
                      obtain ⟨y, hy⟩ : ∃ x, x = dj[q]! := ⟨_, rfl⟩
                      have c1 := S1.out.cell (q + 1) (by omega)
                      have c2 := S1.out.cell (q) (by omega)
                      have hlx : ltInt x y = false := by rw [hx, hy]; exact hlv
                      have HLV : Hid _ := hlv
                      clear hlv
                      rw [← hx] at c1
                      rw [← hy] at c2
                      clear hx hy
                      go_wp2_with fail
                      go_quiet ((go_at_call 33; exact Calls.quiet_of_same (less_ _ _ _)))
                      have SK : Hid (SI w0 blk off dj _) := S1.out.drewN nq
                      clear S1 c1 c2
                      generalize World.drewN _ nq = w4 at SK ⊢
                      simp only [hlx]
                      clear hlx
                      have hlv := HLV.out
                      clear HLV

                      go_wp2_with fail
                      go_meet
                      case rel => exact ⟨dj, hsj, (show _ = _ from by rw [HD.out, ← HF.out, sdn_stop q dj hlv]), SK⟩
              · have hmz : ¬ 2 ≤ (m : Int) + 1 - (a : Int) := by omega
                go_wp2_with fail
                go_meet
                case rel => exact ⟨d1, hs1, (show _ = _ from by unfold fixDown; rw [if_neg (by omega)]), SF⟩
            case rest =>
              clear SF
              obtain ⟨d2, hs2, D2, SG⟩ := hcut
              by_cases hmb : m + 2 < b
              · have hmz : 2 ≤ (b : Int) - ((m : Int) + 1) := by omega
                have HD : Hid (fixUp ltInt b (m + 1) d2 = shiftUp ltInt b (m + 2) d2) := by show _ = _; unfold fixUp; rw [if_pos (by omega)]
                go_wp2_with fail
                go_loopg [10] (b - (m + 2)) (fun g v wr => ∃ (k : Nat) (dj : Array Int), v = .int .i64 k ∧ m + 2 ≤ k ∧ k ≤ b ∧ b - k ≤ g ∧ dj.size = d.size ∧ Hid (shiftUp ltInt b k dj = shiftUp ltInt b (m + 2) d2) ∧ Hid (SI w0 blk off dj wr))
                case atStart => exact ⟨m + 2, d2, by first | rfl | go_num, Nat.le_refl _, by omega, Nat.le_refl _, hs2, rfl, SG⟩
                case round =>
                  clear SG
                  obtain ⟨k, dj, rfl, hmk, hkb, hgk, hsj, HF, S1⟩ := hrel
                  by_cases hlt : k < b
                  · obtain ⟨q, rfl⟩ : ∃ q, k = q + 1 := ⟨k - 1, by omega⟩
                    have eQ : ((q + 1 : Nat) : Int) = (q : Int) + 1 := by omega
                    rw [eQ]
                    have g2 : (q : Int) + 1 < (b : Int) := by omega
                    have b1 : (q : Int) + 1 < (d.size : Int) := by omega
                    have b2 : (q : Int) < (d.size : Int) := by omega
                    have b3 : ((q : Int) + 1).toNat = q + 1 := by omega
                    cases hlv : ltInt dj[q + 1]! dj[q]! with
                    | true =>
                      obtain ⟨x, hx⟩ : ∃ x, x = dj[q + 1]! := ⟨_, rfl⟩
                      obtain ⟨y, hy⟩ : ∃ x, x = dj[q]! := ⟨_, rfl⟩
                      have c1 := S1.out.cell (q + 1) (by omega)
                      have c2 := S1.out.cell (q) (by omega)
                      have hlx : ltInt x y = true := by rw [hx, hy]; exact hlv
                      have HLV : Hid _ := hlv
                      clear hlv
                      rw [← hx] at c1
                      rw [← hy] at c2
                      clear hx hy
                      go_wp2_with fail
                      go_quiet ((go_at_call 33; exact Calls.quiet_of_same (less_ _ _ _)))
                      have SK : Hid (SI w0 blk off dj _) := S1.out.drewN nq
                      clear S1 c1 c2
                      generalize World.drewN _ nq = w4 at SK ⊢
                      simp only [hlx]
                      clear hlx
                      have hlv := HLV.out
                      clear HLV
                      go_wp2_with fail
                      obtain ⟨x, hx⟩ : ∃ x, x = dj[q + 1]! := ⟨_, rfl⟩
                      obtain ⟨y, hy⟩ : ∃ x, x = dj[q]! := ⟨_, rfl⟩
                      have c1 := SK.out.cell (q + 1) (by omega)
                      have c2 := SK.out.cell (q) (by omega)
                      have f1 := SK.out.froz (q + 1) (by omega)
                      have f2 := SK.out.froz (q) (by omega)
                      obtain ⟨u, c3⟩ := SK.out.cell2 (q + 1) (q) (by omega) (by omega) (.int .i32 y)
                      have S2 := SK.out.swap (q + 1) (q) (by omega) (by omega)
                      rw [← hx] at c1 S2
                      rw [← hy] at c2 S2
                      have S3 : Hid _ := S2
                      clear S2 hx hy SK
                      go_wp2_with fail
                      go_big_region
                      have SL : Hid (SI w0 blk off (swp dj (q + 1) (q)) _) := S3.out.drew
                      clear S3 c1 c2 c3 f1 f2
                      generalize World.drew _ = w5 at SL ⊢

                      go_wp2
                      go_roundg (b - (q + 1 + 1))
                      case measure => omega
                      case rel => exact ⟨q + 1 + 1, swp dj (q + 1) q, by go_num, by omega, by omega, Nat.le_refl _, by rw [size_swp]; exact hsj, (sup_go b (q + 1) dj hlt hlv).symm.trans HF.out, SL⟩
                    | false =>
                      obtain ⟨x, hx⟩ : ∃ x, x = dj[q + 1]! := ⟨_, rfl⟩
                      obtain ⟨y, hy⟩ : ∃ x, x = dj[q]! := ⟨_, rfl⟩
                      have c1 := S1.out.cell (q + 1) (by omega)
                      have c2 := S1.out.cell (q) (by omega)
                      have hlx : ltInt x y = false := by rw [hx, hy]; exact hlv
                      have HLV : Hid _ := hlv
                      clear hlv
                      rw [← hx] at c1
                      rw [← hy] at c2
                      clear hx hy
                      go_wp2_with fail
                      go_quiet ((go_at_call 33; exact Calls.quiet_of_same (less_ _ _ _)))
                      have SK : Hid (SI w0 blk off dj _) := S1.out.drewN nq
                      clear S1 c1 c2
                      generalize World.drewN _ nq = w4 at SK ⊢
                      simp only [hlx]
                      clear hlx
                      have hlv := HLV.out
                      clear HLV

                      have D3 : Hid (dj = fixUp ltInt b (m + 1) d2) := by show _ = _; rw [HD.out, ← HF.out, sup_stop b (q + 1) dj (Or.inr hlv)]
                      go_wp2
                      go_roundg s
                      case measure => omega
                      case rel => exact ⟨m + 1, dj, by first | rfl | go_num, by have := HSZ.out; congr 1; omega, by omega, by omega, by omega, hsj, SK, (show _ = _ from by rw [HQ'.out, D3.out, D2.out, D1.out]; rfl)⟩
                  · have g2 : ¬ (k : Int) < (b : Int) := by omega
                    have D3 : Hid (dj = fixUp ltInt b (m + 1) d2) := by show _ = _; rw [HD.out, ← HF.out, sup_stop b k dj (Or.inl hlt)]
                    go_wp2
                    go_roundg s
                    case measure => omega
                    case rel => exact ⟨m + 1, dj, by first | rfl | go_num, by have := HSZ.out; congr 1; omega, by omega, by omega, by omega, hsj, S1, (show _ = _ from by rw [HQ'.out, D3.out, D2.out, D1.out]; rfl)⟩
              · have hmz : ¬ 2 ≤ (b : Int) - ((m : Int) + 1) := by omega
                have D3 : Hid (d2 = fixUp ltInt b (m + 1) d2) := by show _ = _; unfold fixUp; rw [if_neg (by omega)]
                go_wp2
                go_roundg s
                case measure => omega
                case rel => exact ⟨m + 1, d2, by first | rfl | go_num, by have := HSZ.out; congr 1; omega, by omega, by omega, by omega, hs2, SG, (show _ = _ from by rw [HQ'.out, D3.out, D2.out, D1.out]; rfl)⟩
end Go.Proofs.Ybulkecac
