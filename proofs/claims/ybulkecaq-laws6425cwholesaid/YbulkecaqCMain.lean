import Derived.Test.YbulkecaqCTail
namespace Go.Proofs.Ybulkecaq
open Go.RowKit Go.Conc
set_option linter.unusedSimpArgs false
set_option linter.unusedVariables false

set_option maxHeartbeats 8000000 in
set_option maxRecDepth 100000 in
theorem c_main0 (a0 a1 : Int) (a2 a3 : Bool) (a4 a5 a6 a7 : Int) (a8 : Bool) (nb hs hr t h : Nat) (w : World)
    (b4 : 0 ≤ a4 ∧ a4 ≤ 255) (b5 : 0 ≤ a5 ∧ a5 ≤ 255) (b6 : 0 ≤ a6 ∧ a6 ≤ 255) (b7 : 0 ≤ a7 ∧ a7 ≤ 255)
    (hnb : 1 + a4 % 6 = (nb : Int)) (n1 : 1 ≤ nb) (n6 : nb ≤ 6) (hhs : a5 % (nb : Int) = (hs : Int)) (hs2 : hs < nb) (hhr : a6 % (nb : Int) = (hr : Int)) (hr2 : hr < nb) (hsd : a7 % 2 = 0)
    (ht : bits .and .u64 a0 1023 = (t : Int)) (t2 : t ≤ 1023) (hh : bits .and .u64 a1 1023 = (h : Int)) (h2 : h ≤ 1023) :
    Calls Yba.prog 5 #[.int .u64 a0, .int .u64 a1, .bool a2, .bool a3, .int .u8 a4, .int .u8 a5, .int .u8 a6, .int .u8 a7, .bool a8] w fun e w' => e = .returned (.bool true) ∧ Below w.heap.size w w' := by
  go_enter Yba.func5, Yba.ntmps5
  go_upto_if 70 with fail
  go_cut [23] from 71 to 72 (fun v wx => v = .int .u64 (wd t a2) ∧ wx = w)
  case first =>
    have ho := fl_or t (by omega)
    cases a2
    · go_wp2_with fail
      go_meet
      case rel => exact ⟨rfl, rfl⟩
    · go_wp2_with fail
      go_meet
      case rel => exact ⟨rfl, rfl⟩
  case rest =>
    obtain ⟨rfl, rfl⟩ := hcut
    go_upto_if 75 with fail
    go_cut [24] from 76 to 77 (fun v wx => v = .int .u64 (wd h a3) ∧ wx = wc)
    case first =>
      have ho := fl_or h (by omega)
      cases a3
      · go_wp2_with fail
        go_meet
        case rel => exact ⟨rfl, rfl⟩
      · go_wp2_with fail
        go_meet
        case rel => exact ⟨rfl, rfl⟩
    case rest =>
      obtain ⟨rfl, hwx⟩ := hcut
      subst hwx
      simp only [hnb, hhs, hhr, hsd, ht, hh]
      have HNB : Hid _ := hnb
      clear hnb hhs hhr hsd ht hh b4 b5 b6 b7
      have hmk := mkR wc nb (by omega)
      go_wp2_with fail
      clear hmk
      go_loopw [26] (fun k wr => ∃ k0 : Nat, k0 ≤ nb ∧ k = .int .i64 (k0 : Int) ∧ Bld wc wc.heap.size nb k0 wr) (fun k _ => nb - (intOf k).toNat)
      case atStart => exact ⟨0, Nat.zero_le _, rfl, Bld.start wc nb⟩
      case round =>
        obtain ⟨k0, hk0, rfl, hb⟩ := hrel
        by_cases hkn : k0 < nb
        · obtain ⟨z, hz, hzs, hz0, hz2⟩ := zero78
          have hrw1 := (hb.row k0 hkn).1
          have hrw2 := (hb.row k0 hkn).2
          have hst := start_ k0 (by omega)
          generalize hS : st k0 = S at hst
          have HS : Hid _ := hS
          have hze : ¬ z = #[] := by intro e; rw [e] at hzs; simp at hzs
          have H2 : Hid _ := hz0
          have H3 : Hid _ := hz2
          clear hS hz0 hz2
          have hsz := hb.size
          have hsz1 : wc.heap.size < wr.heap.size := by omega
          have HZ : Hid _ := hsz
          clear hsz
          have hwl := wrap_ln k0 (by omega)
          have hl := ln_le (show k0 ≤ 5 by omega)
          obtain ⟨Z, hmk⟩ := mkS (ln k0) (by omega)
          generalize hL : ln k0 = L at hwl hl hmk
          have HL : Hid _ := hL
          clear hL
          go_upto_region 15 with fail
          go_region_with (go_at_call 11; refine (hst _).mono ?_; rintro e wq ⟨rfl, rfl⟩)
          all_goals
            generalize hwm : World.drew _ = wm
            have hM : Mid wc wc.heap.size nb k0 wm := hb.lay hkn HS.out HL.out Z z hzs H3.out hwm.symm
            clear hwm hb hrw1 hrw2 hst hmk hz hze HS HL HZ H2 H3 hzs hwl hl hsz1
            rcases Nat.eq_zero_or_pos k0 with hk00 | hkp
            · subst hk00
              go_wp2_with fail
              go_roundw
              case rel => exact ⟨1, by omega, by go_num, hM.first⟩
              case measure => simp [intOf]; omega
            · obtain ⟨j, hj⟩ : ∃ j, j + 1 = k0 := ⟨k0 - 1, by omega⟩
              have hji : (k0 : Int) - 1 = (j : Int) := by omega
              have hjn : j < nb := by omega
              have hwj : IntKind.i64.wrap (j : Int) = (j : Int) := by rw [IntKind.wrap_i64]; omega
              have r1 := (hM.row j hjn).1
              have r2 := (hM.row k0 hkn).1
              dsimp only at r1 r2
              rw [if_pos (by omega)] at r1 r2
              have hsg := (hM.seg j (by omega)).c2
              have hfz := (hM.seg j (by omega)).fz 2
              have hnw := SegP.at hM.new.isSeg
              have HJ : Hid _ := hj
              clear hj
              go_upto_region 17 with fail
              go_region_with (go_at_call 12; refine (store_p (sb wc.heap.size nb j) 2 (some ⟨sb wc.heap.size nb k0, 0, none⟩) _ wm.drew hsg hfz hnw).mono ?_; rintro e wl ⟨rfl, hwl⟩; have HWL : Hid _ := hwl; clear hwl)
              all_goals
                have hB : Bld wc wc.heap.size nb (k0 + 1) wl := hM.drew.link hkn j HJ.out HWL.out
                clear HWL hM r1 r2 hsg hfz hnw
                go_wp2_with fail
                go_roundw
                case rel => exact ⟨k0 + 1, by omega, by go_num, hB⟩
                case measure => simp [intOf]; omega
        · obtain rfl : nb = k0 := by omega
          clear hk0 hkn
          obtain ⟨w0', hw0'⟩ : ∃ w0' : World, w0' = wc := ⟨_, rfl⟩
          rw [← hw0'] at hb ⊢
          generalize hN : w0'.heap.size = N at *
          obtain ⟨z3, hz3, hz3s, hz30, hz31, hz34⟩ := zero83
          have hsz := hb.size
          have hze : ¬ z3 = #[] := by intro e; rw [e] at hz3s; simp at hz3s
          go_upto_region 19 with fail
          generalize hw18 : World.alloc wr _ = w18
          have hC := hb.chain z3 hz3s hz30 hz31 hz34 hw18.symm
          clear hw18 hb hz3 hz3s hz30 hz31 hz34 hze hsz
          have r1 := hC.row hs hs2
          unfold sp at r1
          have c1 := hC.ch.cells.1
          have f1 := hC.ch.fz 0
          have g1 : SegP w18 (some ⟨sb N nb hs, 0, none⟩) := SegP.at (hC.seg hs hs2).isSeg
          go_region_with (go_at_call 12; refine (store_p (N + 1 + 2 * nb) 0 (some ⟨sb N nb hs, 0, none⟩) _ w18.drew c1 f1 g1).mono ?_; rintro e w19 ⟨rfl, hw19⟩; have HW19 : Hid _ := hw19; clear hw19)
          have hC1 := hC.drew.set0 _ HW19.out
          clear HW19 hC r1 c1 f1 g1
          have r1 := hC1.row hr hr2
          unfold sp at r1
          have c1 := hC1.ch.cells.2.1
          have f1 := hC1.ch.fz 1
          have g1 : SegP w19 (some ⟨sb N nb hr, 0, none⟩) := SegP.at (hC1.seg hr hr2).isSeg
          go_upto_region 20 with fail
          go_region_with (go_at_call 12; refine (store_p (N + 1 + 2 * nb) 1 (some ⟨sb N nb hr, 0, none⟩) _ w19.drew c1 f1 g1).mono ?_; rintro e w20 ⟨rfl, hw20⟩; have HW20 : Hid _ := hw20; clear hw20)
          have hC2 := hC1.drew.set1 _ HW20.out
          clear HW20 hC1 r1 c1 f1 g1
          obtain ⟨z5, hz5, hz5s, hz50, hz51⟩ := zero85
          have hsz := hC2.size
          have hze : ¬ z5 = #[] := by intro e; rw [e] at hz5s; simp at hz5s
          go_upto_region 22 with fail
          generalize hw21 : World.alloc w20 _ = w21
          have kc : Chn w0' N nb nb hs hr 0 0 w21 := hC2.rv n1 hs2 hr2 z5 hz5s hz50 hz51 hw21.symm
          clear hw21 hC2 hz5 hz5s hz50 hz51 hze hsz
          go_wp2_with fail
          refine (store_u (N + 2 + 2 * nb) 64 (wd t a2) _ w21 kc.rv.cells.1 (kc.rv.fz 64)).mono ?_
          rintro e w22 ⟨rfl, hw22⟩
          have kc2 : Chn w0' N nb nb hs hr (wd t a2) 0 w22 := by rw [hw22]; exact kc.setT _
          clear hw22 kc
          go_wp2_with fail
          refine (store_u (N + 2 + 2 * nb) 129 (wd h a3) _ w22 kc2.rv.cells.2.1 (kc2.rv.fz 129)).mono ?_
          rintro e w23 ⟨rfl, hw23⟩
          have kc3 : Chn w0' N nb nb hs hr (wd t a2) (wd h a3) w23 := by rw [hw23]; exact kc2.setH _
          clear hw23 kc2
          have ks : Chs w0' N nb nb 0 hs hr (wd t a2) (wd h a3) w23 := Or.inl ⟨rfl, kc3⟩
          clear kc3
          go_wp2_with fail
          refine (claim_any (s := 0) a8 ks (by omega) t2 h2 (N + 2 + 2 * nb) rfl).mono ?_
          rintro e w24 ⟨pl, sg, cl, T', g', m', rfl, ho, k4⟩
          clear ks
          obtain ⟨x0, x1, x2, x3, kx⟩ := k4.any
          have r1 := kx.row hs hs2
          unfold sp at r1
          clear kx
          go_wp2_with fail
          refine (start_ hs (by omega) _).mono ?_
          rintro e w25 ⟨rfl, rfl⟩
          go_upto_block 2 with fail
          go_cut [36, 37, 38, 39, 40, 41] from 43 to 259 (fun a b c d e f wx => a = .pointer pl ∧ b = .pointer sg ∧ c = .bool cl ∧ d = .int .u64 m' ∧ e = .pointer (sp N nb g') ∧ f = .int .i64 (T' : Int) ∧ Chs w0' N nb T' 0 g' hr m' (wd h a3) wx)
          case first =>
            have hn := wd_not h a3 (by omega)
            have hsth := st_le (show hs ≤ 5 by omega)
            rcases ho with ⟨hc, rfl, rfl, rfl, rfl, rfl, rfl⟩ | ⟨hc, hw, huv, rfl, rfl, rfl, rfl, rfl, rfl⟩ | ⟨hc, hw, huv, hg, hug, rfl, rfl, rfl, rfl, rfl, rfl⟩ | ⟨hc, huv, hg, hug, rfl, rfl, rfl, rfl, rfl, rfl⟩ | ⟨hc, huv, hg, hj, hj1, hj5, rfl, rfl, rfl, rfl, rfl⟩
            · subst hc
              have ha : bits .and .u64 (wd t true) 9223372036854775808 = 9223372036854775808 := fl_and' t (by omega)
              go_wp2_with fail
              go_meet
              exact ⟨rfl, rfl, rfl, rfl, rfl, rfl, k4⟩
            · subst hc hw
              rw [show wd t false = (t : Int) from rfl]
              have ha := fl_and t (by omega)
              go_wp2_with fail
              go_meet
              exact ⟨rfl, rfl, rfl, rfl, rfl, rfl, k4⟩
            · subst hc hw
              rw [show wd t false = (t : Int) from rfl]
              have ha := fl_and t (by omega)
              go_wp2_with fail
              go_meet
              exact ⟨rfl, rfl, rfl, rfl, rfl, rfl, k4⟩
            · subst hc
              rw [show wd t false = (t : Int) from rfl]
              have ha := fl_and t (by omega)
              have d1 := (k4.seg hs hs2).c1
              have hl := ln_pos hs
              cases a8
              · have q1 : t < h := by rcases huv with h' | h'; cases h'; exact h'
                have q2 : st hs < h := by rcases hug with h' | h'; cases h'; exact h'
                go_wp2_with fail
                go_meet
                exact ⟨rfl, rfl, rfl, rfl, rfl, rfl, k4⟩
              · go_wp2_with fail
                go_meet
                exact ⟨rfl, rfl, rfl, rfl, rfl, rfl, k4⟩
            · subst hc
              rw [show wd t false = (t : Int) from rfl]
              have ha := fl_and t (by omega)
              have hhj : hs ≤ g' := by
                rcases Nat.lt_or_ge g' hs with h' | h'
                · have := st_mono (show g' + 1 ≤ hs from h'); omega
                · exact h'
              obtain ⟨x4, x5, x6, x7, ky⟩ := k4.any
              have r0 := ky.row 0 (by omega)
              unfold sp at r0
              clear ky
              have hmax : nb ≤ max nb (g' + 1) := Nat.le_max_left _ _
              rcases (show a8 = true ∨ (a8 = false ∧ t < h) by cases a8; exact Or.inr ⟨rfl, by rcases huv with h' | h'; cases h'; exact h'⟩; exact Or.inl rfl) with rfl | ⟨rfl, q1⟩
              all_goals
                go_wp2_with fail
                try (simp only [show decide (h ≤ t) = false from by simp; omega])
                try (simp only [show decide (t < st hs) = false from by simp; omega])
                go_loopw [43] (fun v wr => ∃ j0 : Nat, j0 ≤ g' ∧ v = .int .i64 (j0 : Int) ∧ wr = w25) (fun v _ => g' - (intOf v).toNat)
                case atStart => exact ⟨0, Nat.zero_le _, rfl, rfl⟩
                case round =>
                  obtain ⟨j0, hj0, rfl, rfl⟩ := hrel
                  have hst := start_ (j0 + 1) (by omega) wr
                  rw [show ((j0 + 1 : Nat) : Int) = (j0 : Int) + 1 by omega] at hst
                  by_cases hjj : j0 < g'
                  · have hle := st_mono (show j0 + 1 ≤ g' from hjj)
                    have hle2 : st (j0 + 1) ≤ t := by omega
                    go_wp2_with fail
                    refine hst.mono ?_
                    rintro e w26 ⟨rfl, rfl⟩
                    go_wp2_with fail
                    go_roundw
                    case rel => exact ⟨j0 + 1, by omega, by go_num, by first | rfl | trivial⟩
                    case measure => simp [intOf]; omega
                  · obtain rfl : j0 = g' := by omega
                    go_wp2_with fail
                    refine hst.mono ?_
                    rintro e w26 ⟨rfl, rfl⟩
                    clear hst
                    go_wp2_with fail
                    refine (walk_ k4 j0 (by omega) hj5).mono ?_
                    rintro e w27 ⟨rfl, rfl⟩
                    go_wp2_with fail
                    refine (start_ j0 (by omega) _).mono ?_
                    rintro e w28 ⟨rfl, rfl⟩
                    have hjle : j0 ≤ 5 := hj5
                    have seg := k4.seg j0 (by omega)
                    have d1 := seg.c1
                    have hwl := wrap_ln j0 hj5
                    have hln := ln_le hj5
                    have hln1 := ln_pos j0
                    have hL8 := ln8 j0
                    have hsj := st_succ j0
                    rw [hsj] at hj1
                    have hq0 := pix_lt (t - st j0) (4 * 2 ^ j0) (by omega)
                    rw [← hL8] at hq0
                    clear hL8 hsj
                    generalize hS1 : st j0 = S1 at *
                    generalize hL1 : ln j0 = L1 at *
                    obtain ⟨q, hq⟩ : ∃ q : Nat, q = (t - S1) % 8 * (L1 / 8) := ⟨_, rfl⟩
                    obtain ⟨r, hr'⟩ : ∃ r : Nat, r = (t - S1) / 8 := ⟨_, rfl⟩
                    have e0 : (t : Int) - (S1 : Int) = ((t - S1 : Nat) : Int) := by omega
                    have hq2 : ((t : Int) - (S1 : Int)) % 8 * ((L1 : Int) / 8) = (q : Int) := by rw [hq, e0]; simp
                    have hr3 : ((t : Int) - (S1 : Int)) / 8 = (r : Int) := by omega
                    have hpx : pix (t - S1) L1 = q + r := by rw [hq, hr']; rfl
                    rw [hpx] at hq0
                    have HPX : Hid _ := hpx
                    have HS1 : Hid _ := hS1
                    have HL1 : Hid _ := hL1
                    clear hq hr' e0 hpx hS1 hL1 seg
                    go_wp2_with fail
                    all_goals
                      go_meet
                      refine ⟨?_, rfl, rfl, rfl, ?_, ?_, k4⟩
                      · first | rw [HPX.out] | rw [HS1.out, HL1.out, HPX.out]
                      · first | rfl | (have e5 : hs = j0 := by omega
                                       rw [e5]; rfl)
                      · first | (rw [Nat.max_eq_left (by omega)]) | (rw [Nat.max_eq_right (by omega)]; go_num)
          case rest =>
            obtain ⟨rfl, rfl, rfl, rfl, rfl, rfl, k5⟩ := hcut
            clear r1 k4
            have hT6 : T' ≤ 6 := by rcases ho with h | h | h | h | h <;> omega
            obtain ⟨hz0, kq⟩ | ⟨h01, _⟩ := k5
            case inr => cases h01
            clear hz0
            clear ho
            subst hN hw0'
            refine ‹∀ (a : Act) (w : World), Code.wp Yba.prog _ _ a w → _› _ _ ?_
            exact tail0 _ (by kernel_rfl) _ _ _ _ _ _ _ _ _ _ _ _ _ _ _ _ _ _ _ _ _ _ _ _ _ _ _ _ _ _ _ _ _ _ _ _ _ _ _ _ _ _ _ _ _ _ _ _ _ _ _ _ _ _ _ _ _ _ _ _ _ _ _ _ _ _ _ _ _ _ _ _ _ _ _ _ _ _ _ _ _ _ _ _ _ _ _ _ _ _ _ _ _ _ _ _ _ _ _ _ _ _ _ _ _ _ _ _ _ _ _ _ _ _ _ _ _ _ _ _ _ _ _ _ _ _ _ _ _ _ _ _ _ _ _ _ _ _ _ _ _ _ _ _ _ _ _ _ _ _ _ _ _ _ _ _ _ _ _ _ _ _ _ _ _ _ _ _ _ _ _ _ _ _ _ _ _ _ _ _ _ _ _ _ _ _ _ _ _ _ _ _ _ _ _ _ _ _ _ _ _ _ _ _ _ _ _ _ _ _ _ _ _ _ _ _ _ _ _ _ _ _ _ _ _ _ _ _ _ _ _ _ _ _ _ _ _ _ _ _ _ _ _ _ _ _ _ _ _ _ _ _ _ _ _ _ _ _ _ _ _ _ _ _ _ _ _ _ _ _ _ _ _ _ _ _ _ _ _ _ _ _ _ _ _ _ _ _ _ _ _ _ _ _ _ _ _ _ _ _ _ _ _ _ _ _ _ _ _ _ _ _ _ _ _ _ _ _ _ _ _ _ _ _ _ _ _ _ _ _ _ _ _ _ _ _ _ _ _ _ _ _ _ _ _ _ _ _ _ _ _ _ _ _ _ _ _ _ _ _ _ _ _ _ _ _ _ _ _ _ _ _ _ _ _ _ n1 n6 hr2 hT6 kq

end Go.Proofs.Ybulkecaq
