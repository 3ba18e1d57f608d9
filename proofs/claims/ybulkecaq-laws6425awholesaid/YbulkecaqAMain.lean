import Derived.Test.YbulkecaqABase
namespace Go.Proofs.Ybulkecaq
open Go.RowKit Go.Conc
set_option linter.unusedSimpArgs false
set_option linter.unusedVariables false

set_option maxHeartbeats 4000000 in
set_option maxRecDepth 100000 in
theorem a_main (a0 a1 a2 a3 : Int) (x4 : Option Addr) (l4 c4 : Nat) (x5 : Option Addr) (l5 c5 : Nat) (n k m ti d base : Nat) (w : World)
   (h4 : l4 ≤ 1048576) (h5 : l5 ≤ 1048576) (b0 : 0 ≤ a0 ∧ a0 ≤ 255) (b1 : 0 ≤ a1 ∧ a1 ≤ 4294967295) (b2 : 0 ≤ a2 ∧ a2 ≤ 65535) (b3 : 0 ≤ a3 ∧ a3 ≤ 65535)
   (hn : 1 + a0 % 64 = (n : Int)) (n1 : 1 ≤ n) (n2 : n ≤ 64) (hk : IsK n k) (hm : a1 * (n : Int) = (m : Int)) (hm2 : m ≤ 274877906944) (hti : a2 % (n : Int) = (ti : Int)) (hti2 : ti < n) (hd : a3 % (2 * (n : Int) + 1) = (d : Int)) (hd2 : d ≤ 2 * n)
   (hbase : (m : Int) + (ti : Int) = (base : Int)) (g : Geo n k base d) (s4 : Src w .u8 x4 l4) (s5 : Src w .u64 x5 l5) :
    Calls Yba.prog 3 #[.int .u8 a0, .int .u32 a1, .int .u16 a2, .int .u16 a3, .slice x4 l4 c4, .slice x5 l5 c5] w fun e w' => e = .returned (.bool true) ∧ Below w.heap.size w w' := by
  have t1 : ¬ (1048576 : Int) < (l4 : Int) := by omega
  have t2 : ¬ (1048576 : Int) < (l5 : Int) := by omega
  have hk6 := hk.k6
  go_enter Yba.func3, Yba.ntmps3
  go_wp2_with fail
  clear t1 t2
  go_loop [15] (fun q => ∃ j : Nat, j ≤ k ∧ q = .int .u64 (j : Int)) (fun q => k - (intOf q).toNat)
  case atStart => exact ⟨0, Nat.zero_le _, rfl⟩
  case round =>
    obtain ⟨j, hj, rfl⟩ := hrel
    by_cases hjk : j < k
    · have hs := shr_more n j n1 (hk.below j hjk)
      go_wp2_with fail
      go_round
      case rel => exact ⟨j + 1, by omega, by go_num⟩
      case measure => simp [intOf]; omega
    · obtain rfl : j = k := by omega
      have hs := shr_done n j n1 hk.nk
      go_wp2_with fail
      refine (pos_at g 0 (by omega) _ rfl _).mono ?_
      rintro e w1 ⟨rfl, m1, hw1⟩
      have s41 : Src w1 .u8 x4 l4 := by rw [hw1]; exact s4
      have s51 : Src w1 .u64 x5 l5 := by rw [hw1]; exact s5
      have hB1 : Below w.heap.size w w1 := by rw [hw1]; exact below_drewN (Below.refl _ _) m1
      have hs1 : w1.heap.size = w.heap.size := by rw [hw1]; rfl
      clear hw1 s4 s5 hs
      go_wp2_with fail
      refine (pos_at g d (by omega) _ (by simp) _).mono ?_
      rintro e w2 ⟨rfl, m2, hw2⟩
      have s42 : Src w2 .u8 x4 l4 := by rw [hw2]; exact s41
      have s52 : Src w2 .u64 x5 l5 := by rw [hw2]; exact s51
      have hB2 : Below w.heap.size w w2 := by rw [hw2]; exact below_drewN hB1 m2
      have hs2 : Hid (w2.heap.size = w.heap.size) := by rw [hw2]; exact hs1
      clear hw2 s41 s51 hB1 hs1
      have hmk := mkU w2 n n2
      go_wp2_with fail
      clear hmk
      go_loopw [22] (fun i wr => TInv w2.heap.size n w2 i wr) (fun i _ => n - (intOf i).toNat)
      case atStart => exact ⟨0, fun _ => 0, Nat.zero_le _, rfl, arrU w2 n, (Below.refl _ _).alloc (Nat.le_refl _) _, by simp⟩
      case round =>
        obtain ⟨i0, T, hi0, rfl, hA, hB, hsz⟩ := hrel
        by_cases hin : i0 < n
        · have hc := hA i0 hin
          have hsz1 : w2.heap.size < wr.heap.size := by omega
          have HZ : Hid (wr.heap.size = w2.heap.size + 1) := hsz
          clear hsz
          by_cases q4 : i0 < l4
          · obtain ⟨bb4, o4, v4, rfl, hv4, wf4⟩ := s42.at hB i0 q4
            obtain ⟨v40, v41⟩ := wf_u8 wf4
            clear wf4
            by_cases q5 : i0 < l5
            · obtain ⟨bb5, o5, v5, rfl, hv5, wf5⟩ := s52.at hB i0 q5
              clear wf5
              go_wp2_with fail
              all_goals
                go_roundw
                case rel => exact TInv.next hin hA hB HZ.out _
                case measure => simp [intOf]; omega
            · go_wp2_with fail
              all_goals
                go_roundw
                case rel => exact TInv.next hin hA hB HZ.out _
                case measure => simp [intOf]; omega
          · by_cases q5 : i0 < l5
            · obtain ⟨bb5, o5, v5, rfl, hv5, wf5⟩ := s52.at hB i0 q5
              clear wf5
              go_wp2_with fail
              all_goals
                go_roundw
                case rel => exact TInv.next hin hA hB HZ.out _
                case measure => simp [intOf]; omega
            · go_wp2_with fail
              all_goals
                go_roundw
                case rel => exact TInv.next hin hA hB HZ.out _
                case measure => simp [intOf]; omega
        · obtain ⟨w3, hw3⟩ : ∃ w3, w3 = wr := ⟨_, rfl⟩
          subst hw3
          have hmkE := mkU w3 n n2
          obtain ⟨cs, hcp, hAE⟩ := cpU w3 w2.heap.size n (uOf T) (fun i _ => ⟨_, rfl⟩) hA (by omega)
          have hmkB := mkB (w3.alloc (.cells cs 26)) n n2
          have hAB := arrB (w3.alloc (.cells cs 26)) n
          have hA4 := (hA.alloc (.cells cs 26) (by omega)).alloc (.cells (zB n) 4) (by simp; omega)
          have hAE4 := hAE.alloc (.cells (zB n) 4) (by simp)
          have hB4 := (hB.alloc (by omega) (.cells cs 26)).alloc (by simp; omega) (.cells (zB n) 4)
          simp only [World.size_alloc, hsz] at hmkE hcp hmkB hAE4 hAB
          clear hA hAE hB
          go_wp2_with fail
          clear hmkE hcp hmkB
          go_loopw [28] (fun j wr => EInv w2.heap.size n base d T w2 j wr) (fun j _ => d - (intOf j).toNat)
          case atStart => exact ⟨0, Nat.zero_le _, rfl, hA4, hAE4, hAB, hB4, by simp [hsz]⟩
          case round =>
            obtain ⟨j0, hj0, rfl, hT, hE, hK, hBr, hszr⟩ := hrel
            clear hA4 hAE4 hAB hB4 hsz
            by_cases hjd : j0 < d
            · have hsz1 : w2.heap.size + 2 < wr.heap.size := by omega
              have HZ : Hid (wr.heap.size = w2.heap.size + 3) := hszr
              clear hszr
              have hlap := g.lapAt j0 (by omega)
              have hI := Nat.mod_lt (base + j0) (show 0 < n by omega)
              have hhit := stp_hit (base := base) (n := n) (T := T) (j := j0)
              have hmiss := stp_miss (base := base) (n := n) (T := T) (j := j0)
              have hq1 : ((base : Int) + (j0 : Int)) % (n : Int) = (((base + j0) % n : Nat) : Int) := by simp
              have hq2 : ((base : Int) + (j0 : Int)) / (n : Int) = (((base + j0) / n : Nat) : Int) := by simp
              generalize (base + j0) / n = L at *
              generalize (base + j0) % n = I at *
              have HH : Hid _ := hhit
              have HM : Hid _ := hmiss
              clear hhit hmiss
              have hce : wr.cell? ⟨w2.heap.size + 1, I, none⟩ = some (.int .u64 ((stp base n T j0).1 I)) := (hE I hI).1
              have hfe := (hE I hI).2
              have hck := (hK I hI).1
              have hfk := (hK I hI).2
              have hmk : ∀ x : Int, bits .or .u64 x 9223372036854775808 = mk x := fun _ => rfl
              by_cases hit : (stp base n T j0).1 I = mk (2 * (L : Int))
              · have hst := HH.out hit
                have tb : ((stp base n T j0).1 I == mk (2 * (L : Int))) = true := by simp [hit]
                have HS : Hid _ := hst
                clear hit HH HM hst
                go_wp2_with fail
                go_roundw
                case rel => exact EInv.hit hjd hI hT hE hK hBr HZ.out HS.out
                case measure => simp [intOf]; omega
              · have hst := HM.out hit
                have tb : ((stp base n T j0).1 I == mk (2 * (L : Int))) = false := by simp [hit]
                have HS : Hid _ := hst
                clear hit HH HM hst
                go_wp2_with fail
                go_roundw
                case rel => exact EInv.miss hjd hT hE hK hBr HZ.out HS.out
                case measure => simp [intOf]; omega
            · have hjd' : j0 = d := by omega
              rw [hjd'] at hE hK ⊢
              clear hjd hjd' hj0 j0
              obtain ⟨w5, hw5⟩ : ∃ w5, w5 = wr := ⟨_, rfl⟩
              subst hw5
              generalize hEe : (stp base n T d).1 = E at *
              generalize hKe : (stp base n T d).2 = K at *
              have HEe : Hid _ := hEe
              have HKe : Hid _ := hKe
              clear hEe hKe
              have hmkC := mkC w5 n n2
              have hmkP := mkP (w5.alloc (.cells (zC n) 38)) n n2
              have hmkW := mkP ((w5.alloc (.cells (zC n) 38)).alloc (.cells (zP n) 40)) n n2
              have hC6 := ((arrC w5 n).alloc (.cells (zP n) 40) (by simp)).alloc (.cells (zP n) 40) (by simp; omega)
              have hP6 := (arrP (w5.alloc (.cells (zC n) 38)) n).alloc (.cells (zP n) 40) (by simp)
              have hW6 := arrP ((w5.alloc (.cells (zC n) 38)).alloc (.cells (zP n) 40)) n
              have hT6 := ((hT.alloc (.cells (zC n) 38) (by omega)).alloc (.cells (zP n) 40) (by simp; omega)).alloc (.cells (zP n) 40) (by simp; omega)
              have hE6 := ((hE.alloc (.cells (zC n) 38) (by omega)).alloc (.cells (zP n) 40) (by simp; omega)).alloc (.cells (zP n) 40) (by simp; omega)
              have hK6 := ((hK.alloc (.cells (zC n) 38) (by omega)).alloc (.cells (zP n) 40) (by simp; omega)).alloc (.cells (zP n) 40) (by simp; omega)
              have hB6 := ((hBr.alloc (by omega) (.cells (zC n) 38)).alloc (by simp; omega) (.cells (zP n) 40)).alloc (by simp; omega) (.cells (zP n) 40)
              simp only [World.size_alloc, hszr] at hmkC hmkP hmkW hC6 hP6 hW6
              clear hT hE hK hBr
              go_wp2_with fail
              clear hmkC hmkP hmkW
              go_loopw [35] (fun i wr => ∃ i0 : Nat, i0 ≤ n ∧ i = .int .i64 (i0 : Int) ∧ Built w2.heap.size n T E K w2 i0 wr) (fun i _ => n - (intOf i).toNat)
              case atStart =>
                refine ⟨0, Nat.zero_le _, rfl, hT6, hE6, hK6, ?_, ?_, ?_, fun i hi => by omega, fun i hi => by omega, hB6, by simp [hszr]⟩
                · exact hC6.congr (fun i _ => by simp [cF])
                · exact hP6.congr (fun i _ => by simp [pF])
                · exact hW6.congr (fun i _ => by simp [pF])
              case round =>
                obtain ⟨i0, hi0, rfl, hb⟩ := hrel
                clear hC6 hP6 hW6 hT6 hE6 hK6 hB6 hszr
                by_cases hin : i0 < n
                · have hct : wr.cell? ⟨w2.heap.size, i0, none⟩ = some (.int .u64 (T i0)) := (hb.hT i0 hin).1
                  have hcc := (hb.hC (i0 * 2) (by omega)).1
                  have hfc := (hb.hC (i0 * 2) (by omega)).2
                  go_upto_region 51 with fail
                  go_region_with (go_at_call 7; refine (store_u (w2.heap.size + 3) (i0 * 2) (T i0) _ wr.drew hcc hfc).mono ?_; rintro e wc ⟨rfl, hwc⟩; have HWC : Hid _ := hwc; clear hwc)
                  have hzc : wc.heap.size = w2.heap.size + 6 + 2 * i0 := by rw [HWC.out]; simpa using hb.size
                  have hcv := (hb.hC (i0 * 2 + 1) (by omega))
                  have kv : wc.cell? ⟨w2.heap.size + 3, i0 * 2 + 1, none⟩ = some (cF T i0 (i0 * 2 + 1)) := by
                    rw [HWC.out]; exact (World.cell?_setCell_other wr.drew ⟨w2.heap.size + 3, i0 * 2, none⟩ ⟨w2.heap.size + 3, i0 * 2 + 1, none⟩ _ (fun h => by injection h with _ h2; omega)).trans hcv.1
                  have fv : wc.frozen? ⟨w2.heap.size + 3, i0 * 2 + 1, none⟩ = false := by rw [HWC.out, World.frozen?_setCell]; exact hcv.2
                  have kp : wc.cell? ⟨w2.heap.size + 3 + 1, i0, none⟩ = some (pF w2.heap.size i0 i0) := by
                    rw [HWC.out]; exact (World.cell?_setCell_other wr.drew ⟨w2.heap.size + 3, i0 * 2, none⟩ ⟨w2.heap.size + 4, i0, none⟩ _ (fun h => by injection h with h1 h2; omega)).trans (hb.hP i0 hin).1
                  have fp : wc.frozen? ⟨w2.heap.size + 3 + 1, i0, none⟩ = false := by rw [HWC.out, World.frozen?_setCell]; exact (hb.hP i0 hin).2
                  have kw : wc.cell? ⟨w2.heap.size + 3 + 1 + 1, i0, none⟩ = some (pF w2.heap.size i0 i0) := by
                    rw [HWC.out]; exact (World.cell?_setCell_other wr.drew ⟨w2.heap.size + 3, i0 * 2, none⟩ ⟨w2.heap.size + 5, i0, none⟩ _ (fun h => by injection h with h1 h2; omega)).trans (hb.hW i0 hin).1
                  have fw : wc.frozen? ⟨w2.heap.size + 3 + 1 + 1, i0, none⟩ = false := by rw [HWC.out, World.frozen?_setCell]; exact (hb.hW i0 hin).2
                  have z3 : w2.heap.size + 3 < wc.heap.size := by omega
                  have z4 : w2.heap.size + 3 + 1 < wc.heap.size := by omega
                  have z5 : w2.heap.size + 3 + 1 + 1 < wc.heap.size := by omega
                  have y4 : w2.heap.size + 3 + 1 < wc.heap.size + 1 := by omega
                  have y5 : w2.heap.size + 3 + 1 + 1 < wc.heap.size + 1 := by omega
                  have HZC : Hid _ := hzc
                  clear hcv hcc hfc hct hzc
                  have hmk1 := mk1
                  go_wp2_with fail
                  go_roundw
                  case rel => exact ⟨i0 + 1, by omega, by go_num, hb.next hin HWC.out⟩
                  case measure => simp [intOf]; omega
                · obtain ⟨w6, hw6⟩ : ∃ w6, w6 = wr := ⟨_, rfl⟩
                  subst hw6
                  obtain rfl : n = i0 := by omega
                  obtain ⟨z63, hz63, hs63, hz129, hz198⟩ := zero63
                  have hpw := wrap_pow j hk6
                  have hM1 := Nat.two_pow_pos j
                  have hM2 := pow_le j hk6
                  generalize hMe : 2 ^ j = M at hpw hM1 hM2
                  have HMe : Hid _ := hMe
                  clear hMe
                  go_upto_region 57 with fail
                  rw [hb.size]
                  have hnew := heap_alloc_new w6 (.cells (chanRow z63 (w2.heap.size + 3) (w2.heap.size + 4) n (j : Int) ((M : Int) - 1)) 63)
                  rw [hb.size] at hnew
                  have c129 := (cell_of_row _ _ 129 _ _ _ hnew).trans (chanRow_get z63 (w2.heap.size + 3) (w2.heap.size + 4) n (j : Int) ((M : Int) - 1) hs63 hz129 hz198).1
                  clear hz63 hpw
                  go_wp2_with fail
                  refine (store_u _ 129 _ _ _ c129 (World.frozen?_alloc_at _ 63 _ 129 hb.size.symm)).mono ?_
                  rintro e w8 ⟨rfl, hw8⟩
                  obtain ⟨g1, g2, g3, g4, g5, g6⟩ := chanRow_get z63 (w2.heap.size + 3) (w2.heap.size + 4) n (j : Int) ((M : Int) - 1) hs63 hz129 hz198
                  have hMk : ((M : Int) - 1) = ((2 ^ j - 1 : Nat) : Int) := by have := HMe.out; omega
                  replace g4 := g4.trans (by rw [hMk])
                  obtain ⟨hR8, hE8, hK8, hW8, hB8⟩ := hb.ring _ _ g1 g2 g3 g4 g5 g6 hw8
                  clear hw8 c129 hnew g1 g2 g3 g4 g5 g6 hs63 hz129 hz198 hMk HMe hM1 hM2 hb
                  go_wp2_with fail
                  refine (past_any g w2.heap.size T w8 hR8).mono ?_
                  rintro e w9 ⟨rfl, hR9, hK9⟩
                  rw [HEe.out, HKe.out] at hR9
                  have hRd : Reads w2.heap.size n j ((pos j (base + d) n : Nat) : Int) E K w2 w9 := by
                    refine ⟨hR9, fun i hi => ?_, fun i hi => ?_, fun i hi => ?_, hB8.trans hK9.1⟩
                    · rw [hK9.2 _ _ (by omega) (by omega)]; exact (hE8 i hi).1
                    · rw [hK9.2 _ _ (by omega) (by omega)]; exact (hK8 i hi).1
                    · rw [hK9.2 _ _ (by omega) (by omega)]; have := (hW8 i hi).1; simpa [pF, hi] using this
                  clear hR8 hE8 hK8 hW8 hB8 hR9 hK9 HEe HKe
                  go_wp2_with fail
                  refine (load_u _ _ _ _ hRd.ring.c129).mono ?_
                  rintro e w10 ⟨rfl, hw10⟩
                  subst hw10
                  go_wp2_with fail
                  go_loopw [38] (fun i wr => ∃ m0 : Nat, m0 ≤ n ∧ i = .int .i64 (m0 : Int) ∧ Reads w2.heap.size n j ((pos j (base + d) n : Nat) : Int) E K w2 wr) (fun i _ => n - (intOf i).toNat)
                  case atStart => exact ⟨0, Nat.zero_le _, rfl, hRd⟩
                  case round =>
                    obtain ⟨m0, hm0, rfl, hr⟩ := hrel
                    clear hRd
                    by_cases hmn : m0 < n
                    · have k194 := hr.ring.c194
                      have k201 := hr.ring.c201
                      have kt := (hr.ring.turn m0 hmn).1
                      have kv := hr.ring.val m0 hmn
                      have ke := hr.exp m0 hmn
                      have kk : wr.cell? ⟨w2.heap.size + 1 + 1, m0, none⟩ = some (.bool (K m0)) := hr.woke m0 hmn
                      have kp : wr.cell? ⟨w2.heap.size + 4, m0, none⟩ = some (.pointer (if K m0 = true then none else some ⟨w2.heap.size + 7 + 2 * m0, 0, none⟩)) := (hr.ring.park m0 hmn).1
                      have kw : wr.cell? ⟨w2.heap.size + 3 + 1 + 1, m0, none⟩ = some (.pointer (some ⟨w2.heap.size + 7 + 2 * m0, 0, none⟩)) := hr.ws m0 hmn
                      have kc := hr.ring.wait m0 hmn
                      have kh := hr.ring.chan m0 hmn
                      go_upto_region 64 with fail
                      go_quiet ((go_at_call 9; exact Calls.quiet_of_same (load_u _ _ _ _ kt)))
                      clear k194 k201 kt kv ke kk kp kw kc kh
                      generalize hw11 : wr.drewN nq = w11
                      have hr1 : Reads w2.heap.size n j ((pos j (base + d) n : Nat) : Int) E K w2 w11 := by rw [← hw11]; exact hr.drewN nq
                      clear hw11 hr
                      have k201 := hr1.ring.c201
                      have kk : w11.cell? ⟨w2.heap.size + 1 + 1, m0, none⟩ = some (.bool (K m0)) := hr1.woke m0 hmn
                      have kp : w11.cell? ⟨w2.heap.size + 4, m0, none⟩ = some (.pointer (if K m0 = true then none else some ⟨w2.heap.size + 7 + 2 * m0, 0, none⟩)) := (hr1.ring.park m0 hmn).1
                      have kw : w11.cell? ⟨w2.heap.size + 3 + 1 + 1, m0, none⟩ = some (.pointer (some ⟨w2.heap.size + 7 + 2 * m0, 0, none⟩)) := hr1.ws m0 hmn
                      have kc := hr1.ring.wait m0 hmn
                      have kh := hr1.ring.chan m0 hmn
                      cases hKm : K m0
                      · rw [hKm] at kk kp kh
                        simp at kp kh
                        have hlen0 := len_ch w11 _ _ _ _ _ _ kh
                        have hlen := fun (q : Nat) => len_ch (w11.drewN q) _ _ _ _ _ _ kh
                        have hps := neq40
                        clear hKm kh
                        go_wp2_with fail
                        go_quiet (fail)
                        go_wp2_with fail
                        go_roundw
                        case rel => exact ⟨m0 + 1, by omega, by go_num, hr1.drewN nq⟩
                        case measure => simp [intOf]; omega
                      · rw [hKm] at kk kp kh
                        simp at kp kh
                        have hlen0 := len_ch w11 _ _ _ _ _ _ kh
                        clear hKm kh
                        go_wp2_with fail
                        go_roundw
                        case rel => exact ⟨m0 + 1, by omega, by go_num, hr1⟩
                        case measure => simp [intOf]; omega
                    · go_wp2_with fail
                      go_ret
                      exact ⟨rfl, hB2.trans (hr.bel.mono (by rw [hs2.out]; exact Nat.le_refl _))⟩

end Go.Proofs.Ybulkecaq
