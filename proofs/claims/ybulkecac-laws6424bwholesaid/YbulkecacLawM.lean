import Derived.Test.YbulkecacLawT0
import Derived.Test.YbulkecacLawM1
namespace Go.Proofs.Ybulkecac
open Go.RowKit Go.Sort Go.Shelf
set_option linter.unusedSimpArgs false
set_option linter.unusedVariables false

open Go.ChangeMaps (setBlock)

def InT (w : World) (a : Option Addr) (n : Nat) (ts : Nat → Int) : Prop :=
  (∀ i, i < n → 0 ≤ ts i ∧ ts i ≤ 255) ∧ (0 < n → ∃ x, a = some x ∧ ∀ i, i < n → w.cell? (x.add i) = some (.int .u8 (ts i)))

theorem psum_mono (pn : Nat → Nat) {i j : Nat} (h : i ≤ j) : psum pn i ≤ psum pn j := by
  induction j with
  | zero => obtain rfl : i = 0 := by omega
            exact Nat.le_refl _
  | succ j ih =>
    rw [psum_succ]
    by_cases e : i = j + 1
    · subst e; rw [psum_succ]; exact Nat.le_refl _
    · have := ih (by omega); omega

theorem info44 : (Yba.prog.info? 44).map (fun i => (i.zero, i.size, i.bytes)) = some (some (.pointer none), 1, 8) := by kernel_rfl
theorem info3 : (Yba.prog.info? 3).map (fun i => (i.zero, i.size, i.bytes)) = some (some (.int .i64 0), 1, 8) := by kernel_rfl

set_option maxHeartbeats 16000000 in
set_option maxRecDepth 1000000 in
theorem law_far (w : World) (a0 : Option Addr) (n0 c0 : Nat) (a1 : Option Addr) (n1 c1 : Nat) (a2 : Option Addr) (n2 c2 : Nat) (h : 300 < n0 ∨ 4096 < n1) (h0 : n0 ≤ 9223372036854775807) (h1 : n1 ≤ 9223372036854775807) :
    Calls Yba.prog 5 #[.slice a0 n0 c0, .slice a1 n1 c1, .slice a2 n2 c2] w fun e w' => e = .returned (.bool true) ∧ Below w.heap.size w w' := by
  by_cases h3 : 300 < n0
  · have z : (300 : Int) < (n0 : Int) := by omega
    have z2 : decide ((n0 : Int) > 300) = true := decide_eq_true (by omega)
    go_enter Yba.func5, Yba.ntmps5
    go_wp2_with fail
    go_ret
    exact ⟨rfl, Below.refl _ _⟩
  · have z : ¬ (300 : Int) < (n0 : Int) := by omega
    have z2 : decide ((n0 : Int) > 300) = false := decide_eq_false (by omega)
    have z3 : (4096 : Int) < (n1 : Int) := by omega
    go_enter Yba.func5, Yba.ntmps5
    go_wp2_with fail
    go_ret
    exact ⟨rfl, Below.refl _ _⟩

set_option maxHeartbeats 16000000 in
set_option maxRecDepth 1000000 in
theorem law_near (w : World) (a0 : Option Addr) (n0 c0 : Nat) (ts : Nat → Int) (a1 : Option Addr) (n1 c1 : Nat) (hd sp : Nat → Int) (a2 : Option Addr) (n2 c2 : Nat) (bh bf : Nat → Bool) (br : Nat → Int) (pa : Nat → Option Addr) (pn pc : Nat → Nat) (pv : Nat → Nat → Int)
    (hT : InT w a0 n0 ts) (h0 : n0 ≤ 300) (hin : InR w a1 n1 hd sp) (h1c : n1 ≤ c1) (h1 : n1 ≤ 4096) (hib : InB w a2 n2 bh bf br pa pn pc pv) (h2c : n2 ≤ c2) (h2 : n2 ≤ 9223372036854775807) (hpn : ∀ i, i < n2 → pn i ≤ 9223372036854771711) :
    Calls Yba.prog 5 #[.slice a0 n0 c0, .slice a1 n1 c1, .slice a2 n2 c2] w fun e w' => e = .returned (.bool true) ∧ Below w.heap.size w w' := by
  have HT : Hid _ := hT
  have HIN : Hid _ := hin
  have HIB : Hid _ := hib
  have HPN : Hid _ := hpn
  have z : ¬ (300 : Int) < (n0 : Int) := by omega
  have z2 : decide ((n0 : Int) > 300) = false := decide_eq_false (by omega)
  have z3 : ¬ (4096 : Int) < (n1 : Int) := by omega
  clear hT hin hib hpn
  go_enter Yba.func5, Yba.ntmps5
  go_upto_block 0 with fail
  go_cut [8, 9] from 47 to 67 (fun v8 v9 wx => wx = w ∧ Hid (∀ i, i ≤ n2 → i ≤ n0 → psum pn i ≤ 4096))
  case first =>
    go_wp2_with fail
    go_loopg [8, 9] n0 (fun g v8 v9 wr => ∃ i s : Nat, v9 = .int .i64 i ∧ v8 = .int .i64 s ∧ Hid (s = psum pn i) ∧ i ≤ n0 ∧ i ≤ n2 ∧ n0 - i ≤ g ∧ wr = w ∧ s ≤ 4096)
    case atStart => exact ⟨0, 0, rfl, rfl, by simp [psum, Hid], by omega, by omega, by omega, rfl, by omega⟩
    case round =>
      obtain ⟨i, s, rfl, rfl, HS, hi0, hi2, hg, rfl, hs4⟩ := hrel
      by_cases hlt : i < n2
      · have y1 : (i : Int) < (n2 : Int) := by omega
        have y1d : decide ((i : Int) < (n2 : Int)) = true := decide_eq_true y1
        by_cases hlt0 : i < n0
        · have y2 : (i : Int) < (n0 : Int) := by omega
          obtain ⟨x, rfl, hx⟩ := HIB.out.cells (by omega)
          have y3 : wr.cell? ⟨(x.add (i * 4)).block, (x.add (i * 4)).off + 3, none⟩ = some (.slice (pa i) (pn i) (pc i)) := (hx i hlt).2.2.2
          have hpb := HPN.out i hlt
          obtain ⟨pni, hpni⟩ : ∃ z, z = pn i := ⟨_, rfl⟩
          rw [← hpni] at y3 hpb
          obtain ⟨pai, hpai⟩ : ∃ z, z = pa i := ⟨_, rfl⟩
          obtain ⟨pci, hpci⟩ : ∃ z, z = pc i := ⟨_, rfl⟩
          rw [← hpai, ← hpci] at y3
          have HP1 : Hid _ := hpni
          clear hx hpni hpai hpci
          by_cases hbig : 4096 < s + pni
          · have y4 : (4096 : Int) < (s : Int) + (pni : Int) := by omega
            go_wp2_with fail
            go_ret
            exact ⟨rfl, Below.refl _ _⟩
          · have y4 : ¬ (4096 : Int) < (s : Int) + (pni : Int) := by omega
            go_wp2
            go_roundg (n0 - (i + 1))
            case measure => omega
            case rel => exact ⟨i + 1, s + pni, by go_num, by go_num, (show _ = _ by rw [psum_succ, HS.out, HP1.out]), by omega, by omega, Nat.le_refl _, rfl, by omega⟩
        · have y2 : ¬ (i : Int) < (n0 : Int) := by omega
          go_wp2_with fail
          go_meet
          case rel => exact ⟨rfl, fun j h1 h2 => by have := psum_mono pn (show j ≤ i by omega); have := HS.out; omega⟩
      · have y1 : ¬ (i : Int) < (n2 : Int) := by omega
        have y1d : decide ((i : Int) < (n2 : Int)) = false := decide_eq_false y1
        go_wp2_with fail
        go_meet
        case rel => exact ⟨rfl, fun j h1 h2 => by have := psum_mono pn (show j ≤ i by omega); have := HS.out; omega⟩
  case rest =>
    obtain ⟨hw, HPS⟩ := hcut
    rw [hw]
    clear hw z z2 z3
    have hmk := run_make_row' (P := Yba.prog) 43 44 (.pointer none) 8 Yba.underlying43 info44 rfl .i64 .i64 n0 (by omega) (by omega) w
    have rm := World.rowIs_made w (.pointer none) n0 44
    have A0 : Hid (S2 w w.heap.size n0 0 (w.alloc (.cells (madeCells #[.pointer none] n0) 44))) :=
      ⟨rfl, (Below.refl _ _).alloc (Nat.le_refl _) _, by simp, fun j hj => by rw [if_neg (by omega)]; exact rm.cell hj, fun j hj => by omega, fun b o h1 h2 => (by have e : b = w.heap.size := (by omega); rw [e]; exact rm.frozen o)⟩
    clear rm
    go_upto_block 2 with fail
    clear hmk
    generalize hwa : w.alloc _ = wa at A0 ⊢
    clear hwa
    obtain ⟨N, hN⟩ : ∃ N, N = w.heap.size := ⟨_, rfl⟩
    simp only [← hN] at A0 ⊢
    have HN : Hid _ := hN
    clear hN
    go_cut [11] from 70 to 80 (fun v11 wx => Hid (S2 w N n0 n0 wx))
    case first =>
      go_wp2_with fail
      go_loopg [11] n0 (fun g v wr => ∃ i : Nat, v = .int .i64 i ∧ i ≤ n0 ∧ n0 - i ≤ g ∧ Hid (S2 w N n0 i wr))
      case atStart => exact ⟨0, rfl, by omega, by omega, A0⟩
      case round =>
        clear A0
        obtain ⟨i, rfl, hi, hg, A1⟩ := hrel
        by_cases hlt : i < n0
        · have y1 : (i : Int) < (n0 : Int) := by omega
          have hsz := A1.out.size
          have k0 := A1.out.arr i hlt
          rw [if_neg (by omega)] at k0
          have k1 : (wr.alloc (schO i)).cell? ⟨N, i, none⟩ = some (.pointer none) := gcell (World.grownBy_alloc wr _ none) k0
          have k2 : (wr.alloc (schO i)).frozen? ⟨N, i, none⟩ = false := (World.frozen?_of_block ((World.grownBy_alloc wr _ none).block N (by omega) (by simp))).trans (A1.out.frz N i (by omega) (by omega))
          simp only [schO] at k1 k2
          have A2 := A1.out.step hlt
          simp only [schO] at A2
          have A2' : Hid _ := A2
          clear A2
          go_wp2
          go_roundg (n0 - (i + 1))
          case measure => omega
          case rel => exact ⟨i + 1, by go_num, by omega, Nat.le_refl _, A2'⟩
        · have y1 : ¬ (i : Int) < (n0 : Int) := by omega
          obtain rfl : i = n0 := by omega
          go_wp2_with fail
          go_meet
          case rel => exact A1
    case rest =>
      clear A0
      have A1 : Hid (S2 w N n0 n0 wc) := hcut
      have hsz := A1.out.size
      have hmk := run_make_row' (P := Yba.prog) 51 3 (.int .i64 0) 8 Yba.underlying51 info3 rfl .i64 .i64 n0 (by omega) (by omega) wc
      have rm := World.rowIs_made wc (.int .i64 0) n0 3
      rw [hsz] at hmk rm
      have hg := World.grownBy_alloc wc (.cells (madeCells #[.int .i64 0] n0) 3) none
      have C0 : Hid (S3 w N n0 ts 0 (wc.alloc (.cells (madeCells #[.int .i64 0] n0) 3))) :=
        ⟨A1.out.hN, A1.out.bel.grown hg (by omega) (fun b hb => by cases hb), by simp; omega, fun j hj => by have := gcell hg (A1.out.arr j hj); rw [if_pos hj] at this; exact this, fun j hj => by rw [if_neg (by omega)]; exact rm.cell hj,
          fun j hj => by rw [if_neg (by omega)]; exact (A1.out.sch j hj).kept (fun h0 => gcell hg h0), fun b o h1 h2 => (by
            by_cases e : b = N + 1 + n0
            · rw [e]; exact rm.frozen o
            · exact (World.frozen?_of_block (hg.block b (by omega) (by simp))).trans (A1.out.frz b o h1 (by omega)))⟩
      clear rm hg
      go_upto_block 4 with fail
      clear hmk
      generalize hwa : wc.alloc _ = wb at C0 ⊢
      clear hwa hsz A1 hcut
      go_cut [13, 14] from 83 to 119 (fun v13 v14 wx => Hid (S3 w N n0 ts n0 wx))
      case first =>
        go_wp2_with fail
        go_loopg [13, 14] n0 (fun g v v14 wr => ∃ i : Nat, v = .int .i64 i ∧ i ≤ n0 ∧ n0 - i ≤ g ∧ Hid (S3 w N n0 ts i wr))
        case atStart => exact ⟨0, rfl, by omega, by omega, C0⟩
        case round =>
          clear C0
          obtain ⟨i, rfl, hi, hg, C1⟩ := hrel
          by_cases hlt : i < n0
          · have y1 : (i : Int) < (n0 : Int) := by omega
            obtain ⟨x, rfl, hx⟩ := HT.out.2 (by omega)
            have hx0 := hx i hlt
            have k0 := (C1.out.bel.cell (p := x.add i) (by rw [C1.out.hN]; exact World.block_lt_of_cell? _ _ hx0)).trans hx0
            have htb := HT.out.1 i hlt
            obtain ⟨tsi, htsi⟩ : ∃ z, z = ts i := ⟨_, rfl⟩
            rw [← htsi] at k0 htb
            obtain ⟨d, HD, hd1, hd2⟩ : ∃ d : Nat, Hid (d = n0 - i) ∧ (n0 : Int) - (i : Int) = (d : Int) ∧ 0 < d := ⟨n0 - i, rfl, by omega, by omega⟩
            obtain ⟨t, HTT, ht1, ht2⟩ : ∃ t : Nat, Hid (t = tsi.toNat % d) ∧ tsi % (d : Int) = (t : Int) ∧ t < d := ⟨_, rfl, by rw [Int.natCast_emod]; congr 1; omega, Nat.mod_lt _ hd2⟩
            have ht3 : tsi.tmod (d : Int) = (t : Int) := by rw [Int.tmod_eq_emod_of_nonneg htb.1]; exact ht1
            have v1 : IntKind.i64.wrap tsi = tsi := by rw [IntKind.wrap_i64]; omega
            have v2 : IntKind.i64.wrap (d : Int) = d := by rw [IntKind.wrap_i64]; omega
            have v3 : IntKind.i64.wrap (t : Int) = t := by rw [IntKind.wrap_i64]; omega
            have y3 : ¬ (d : Int) = 0 := by omega
            have htt : ttf ts n0 i = if t = 0 then none else some (i + t) := by
              unfold ttf; rw [if_pos hlt, ← htsi, ← HD.out, ← HTT.out]
            have HTTF : Hid _ := htt
            have kc := C1.out.ti i hlt
            rw [if_neg (by omega)] at kc
            have kf := C1.out.frz (N + 1 + n0) i (by omega) (by omega)
            clear hx hx0 htsi htt
            by_cases ht0 : t = 0
            · have y4 : (t : Int) = 0 := by omega
              have C2 : Hid _ := C1.out.step1 hlt (by rw [HTTF.out, if_pos ht0])
              subst ht0
              go_wp2
              go_roundg (n0 - (i + 1))
              case measure => omega
              case rel => exact ⟨i + 1, by go_num, by omega, Nat.le_refl _, C2⟩
            · have y4 : ¬ (t : Int) = 0 := by omega
              have y5 : ((t : Int) == 0) = false := by simp; omega
              obtain ⟨u, HU, hu1, hu2⟩ : ∃ u : Nat, Hid (u = i + t) ∧ (i : Int) + (t : Int) = (u : Int) ∧ u < n0 := ⟨_, rfl, by omega, by have := HD.out; omega⟩
              have v4 : IntKind.i64.wrap (u : Int) = u := by rw [IntKind.wrap_i64]; omega
              have y6 : (u : Int) < (n0 : Int) := by omega
              have C2 : Hid _ := C1.out.step2 hlt (t := u) (by rw [HTTF.out, if_neg ht0, HU.out])
              have ki := C1.out.arr i hlt
              have ku := C1.out.arr u hu2
              have k3 := (C1.out.sch i hlt).1
              rw [if_neg (by omega)] at k3
              have f3 := C1.out.frz (N + 1 + i) 3 (by omega) (by omega)
              have m1 : (wr.setCell ⟨N + 1 + n0, i, none⟩ (.int .i64 (u : Int))).cell? ⟨N, i, none⟩ = some (.pointer (some ⟨N + 1 + i, 0, none⟩)) := by rw [World.cell?_setCell_other _ _ _ _ (by intro e; simp only [Addr.mk.injEq] at e; omega)]; exact ki
              have m2 : (wr.setCell ⟨N + 1 + n0, i, none⟩ (.int .i64 (u : Int))).cell? ⟨N, u, none⟩ = some (.pointer (some ⟨N + 1 + u, 0, none⟩)) := by rw [World.cell?_setCell_other _ _ _ _ (by intro e; simp only [Addr.mk.injEq] at e; omega)]; exact ku
              have m3 : (wr.setCell ⟨N + 1 + n0, i, none⟩ (.int .i64 (u : Int))).cell? ⟨N + 1 + i, 3, none⟩ = some (.pointer none) := by rw [World.cell?_setCell_other _ _ _ _ (by intro e; simp only [Addr.mk.injEq] at e; omega)]; exact k3
              have m4 : (wr.setCell ⟨N + 1 + n0, i, none⟩ (.int .i64 (u : Int))).frozen? ⟨N + 1 + i, 3, none⟩ = false := by rw [World.frozen?_setCell]; exact f3
              clear ki ku k3 f3
              go_upto_region 24 with fail
              generalize hwd : wr.setCell _ _ = wd at m1 m2 m3 m4 C2 ⊢
              clear hwd
              go_big_region
              go_wp2
              go_roundg (n0 - (i + 1))
              case measure => omega
              case rel => exact ⟨i + 1, by go_num, by omega, Nat.le_refl _, C2⟩
          · have y1 : ¬ (i : Int) < (n0 : Int) := by omega
            obtain rfl : i = n0 := by omega
            go_wp2_with fail
            go_meet
            case rel => exact C1
      case rest =>
        clear C0
        have C1 : Hid (S3 w N n0 ts n0 wc) := hcut
        clear hcut
        have hsz := C1.out.size
        have hmm := @run_makeMap Yba.prog
        have D0 : Hid _ := C1.out.lay
        simp only [frmO, catO, prgO] at D0
        go_upto_block 6 with fail
        clear hmm
        simp only [show N + 2 + n0 + 1 = N + 3 + n0 by omega, show N + 3 + n0 + 1 = N + 4 + n0 by omega, show N + 4 + n0 + 1 = N + 5 + n0 by omega]
        generalize hwe : (((wc.alloc _).alloc _).alloc _).alloc _ = we at D0 ⊢
        clear hwe hsz C1
        go_cut [17] from 128 to 142 (fun v17 wx => Hid (S5 w N n0 ts n0 wx))
        case first =>
          go_wp2_with fail
          go_loopg [17] n0 (fun g v wr => ∃ i : Nat, v = .int .i64 i ∧ i ≤ n0 ∧ n0 - i ≤ g ∧ Hid (S5 w N n0 ts i wr))
          case atStart => exact ⟨0, rfl, by omega, by omega, D0⟩
          case round =>
            clear D0
            obtain ⟨i, rfl, hi, hg, D1⟩ := hrel
            by_cases hlt : i < n0
            · have y1 : (i : Int) < (n0 : Int) := by omega
              have k1 := D1.out.p2
              have k2 := D1.out.arr i hlt
              have hup := upd_ N i (N + 4 + n0) wr.drew D1.out.map
              simp only [shapeKey] at hup
              have D2 : Hid _ := D1.out.step
              go_upto_region 30 with fail
              go_region
              generalize hwf : setBlock _ _ _ = wf at D2 ⊢
              clear hwf hup k1 k2
              go_wp2
              go_roundg (n0 - (i + 1))
              case measure => omega
              case rel => exact ⟨i + 1, by go_num, by omega, Nat.le_refl _, D2⟩
            · have y1 : ¬ (i : Int) < (n0 : Int) := by omega
              obtain rfl : i = n0 := by omega
              go_wp2_with fail
              go_meet
              case rel => exact D1
        case rest =>
          clear D0
          refine ‹∀ (a : Act) (w : World), Code.wp Yba.prog _ _ a w → _› _ _ ?_
          exact lawT0 _ (by kernel_rfl) _ _ _ _ _ _ _ _ _ _ _ _ _ _ _ _ _ _ _ _ _ _ _ _ _ _ _ _ _ _ _ _ _ _ _ _ _ _ _ _ _ _ _ _ _ _ _ _ _ _ _ _ _ _ _ _ _ _ _ _ _ _ _ _ _ _ _ _ _ _ _ _ _ _ _ _ _ _ _ _ _ _ _ _ _ _ _ _ _ _ _ _ _ _ _ _ _ _ _ _ _ _ _ _ _ _ _ _ _ _ _ _ _ _ _ _ _ _ _ _ _ _ _ _ _ _ _ _ _ _ _ _ _ _ _ _ _ _ _ _ _ _ _ _ _ _ _ _ _ _ _ _ _ _ _ _ _ _ _ _ _ _ _ _ _ _ _ _ _ _ _ _ _ _ _ _ _ _ _ _ _ _ _ _ _ _ _ _ _ _ _ _ _ _ _ _ _ _ _ _ _ _ _ _ _ _ _ _ _ _ _ _ _ _ _ _ _ _ _ _ _ _ _ _ _ _ _ _ _ _ _ _ _ _ _ _ _ _ _ _ _ _ _ _ _ _ _ _ _ _ _ _ _ _ _ _ _ _ _ _ _ _ _ _ _ _ _ _ _ _ _ _ _ _ _ _ _ _ _ _ _ _ _ _ _ _ _ _ _ _ _ _ _ _ _ _ _ _ _ _ _ _ _ _ _ _ _ _ _ _ _ _ _ _ _ _ _ _ _ _ _ _ _ _ _ _ _ _ _ _ _ _ _ _ _ _ _ _ _ _ _ _ _ _ _ _ _ _ _ _ _ _ _ _ _ _ _ _ _ _ _ _ _ _ _ _ _ _ _ _ _ _ _ _ _ _ _ _ _ _ _ _ _ _ _ _ _ _ _ _ _ _ _ _ _ _ _ _ _ _ _ _ _ _ _ _ _ _ _ _ _ _ _ _ _ _ _ _ _ _ _ _ w _ N n0 (ttf ts n0) a1 n1 c1 hd sp a2 n2 c2 bh bf br pa pn pc pv (fun _ => 9) (hcut.out.bl h0) HIN.out h1c h1 HIB.out h2c HPS.out
end Go.Proofs.Ybulkecac
