import Derived.Test.YbulkecaqChain
namespace Go.Proofs.Ybulkecaq
open Go.RowKit Go.Conc
set_option linter.unusedSimpArgs false
set_option linter.unusedVariables false

set_option maxHeartbeats 1000000 in
set_option maxRecDepth 100000 in
theorem link_ (a b s c l s' c' l' : Nat) (w : World) (hs : Seg w a s c l none) (hn : Seg w b s' c' l' none) (hab : a ≠ b) (hl : l ≤ 4096) (hsl : s ≤ 4096) :
    Calls Yba.prog 34 #[.pointer (some ⟨a, 0, none⟩), .pointer (some ⟨b, 0, none⟩)] w fun e w' => e = .returned (.bool true) ∧ w' = ((w.setCell ⟨b, 0, none⟩ (.int .u64 ((s + l : Nat) : Int))).drew).setCell ⟨a, 2, none⟩ (.pointer (some ⟨b, 0, none⟩)) := by
  have c0 := hs.c0
  have c1 := hs.c1
  have d0 := hn.c0
  have f0 := hn.fz 0
  have e : ((s + l : Nat) : Int) = (s : Int) + (l : Int) := by simp
  have hs1 : Seg ((w.setCell ⟨b, 0, none⟩ (.int .u64 ((s : Int) + (l : Int)))).drew) a s c l none := hs.of_block (Below.heap_setCell w ⟨b, 0, none⟩ _ a hab)
  have hn1 : IsSeg ((w.setCell ⟨b, 0, none⟩ (.int .u64 ((s : Int) + (l : Int)))).drew) b := hn.isSeg.setCell b 0 _
  go_enter Yba.func34, Yba.ntmps34
  go_wp2_with fail
  go_region
  all_goals
    go_wp2_with fail
    refine (cas_p a 2 none (some ⟨b, 0, none⟩) _ hs1.c2 (hs1.fz 2) (SegP.nil _) (SegP.at hn1)).mono ?_
    rintro e w' ⟨rfl, hw'⟩
    go_wp2_with fail
    go_ret
    exact ⟨rfl, by rw [Int.natCast_add]; rfl⟩

/-- ### the chain grown by one -/
def newRow (z : Array Value) (c l : Nat) : Array Value := z.setIfInBounds 1 (.slice (some ⟨c, 0, none⟩) l l)

theorem nx_more {N nb T i : Nat} (h : i + 1 < T) : nx N nb T i = sp N nb (i + 1) := by unfold nx sp; rw [if_pos h]
theorem nx_last {N nb T i : Nat} (h : i + 1 = T) : nx N nb T i = none := by unfold nx; rw [if_neg (by omega)]

theorem new_seg (w : World) (Z z : Array Value) (l b : Nat) (hz : z.size = 135) (h0 : z[0]? = some (.int .u64 0)) (h2 : z[2]? = some (.pointer none)) (hb : b = w.heap.size + 1) :
    Seg ((w.alloc (.cells Z 91)).alloc (.cells (newRow z w.heap.size l) 78)) b 0 w.heap.size l none := by
  have hnew := heap_alloc_new (w.alloc (.cells Z 91)) (.cells (newRow z w.heap.size l) 78)
  rw [World.size_alloc, ← hb] at hnew
  exact ⟨_, hnew, by simp [newRow, hz], (sib_ne _ _ _ _ (by decide)).trans h0, sib_same _ _ _ (by rw [hz]; decide), (sib_ne _ _ _ _ (by decide)).trans h2⟩

theorem Chn.alloc {w0 : World} {N nb T h0 h1 : Nat} {t h : Int} {w : World} (k : Chn w0 N nb T h0 h1 t h w) (Z z : Array Value) :
   ∀ x, x < N + 3 + 2 * T → ((w.alloc (.cells Z 91)).alloc (.cells z 78)).heap[x]? = w.heap[x]? := fun x hx => by
  have := k.size
  rw [Below.heap_alloc _ _ _ (by simp; omega), Below.heap_alloc _ _ _ (by omega)]

theorem Chn.grow {w0 : World} {N nb T h0 h1 : Nat} {t h : Int} {w : World} (k : Chn w0 N nb T h0 h1 t h w) (i : Nat) (hi : i + 1 = T) (Z z : Array Value) (hz : z.size = 135) (z0 : z[0]? = some (.int .u64 0)) (z2 : z[2]? = some (.pointer none)) :
    Chn w0 N nb (T + 1) h0 h1 t h (((((w.alloc (.cells Z 91)).alloc (.cells (newRow z (cb N nb T) (ln T)) 78)).setCell ⟨sb N nb T, 0, none⟩ (.int .u64 ((st i + ln i : Nat) : Int))).drew).setCell ⟨sb N nb i, 2, none⟩ (.pointer (some ⟨sb N nb T, 0, none⟩))) := by
  have hsz := k.size
  have hT := k.le
  have hb := sb_new (N := N) hT
  have hc := cb_new (N := N) hT
  have hns := new_seg w Z z (ln T) (sb N nb T) hz z0 z2 (by omega)
  have hc' : w.heap.size = cb N nb T := by omega
  rw [hc'] at hns
  have old := k.alloc Z (newRow z (cb N nb T) (ln T))
  have hne : sb N nb i ≠ sb N nb T := fun e => by have := sb_inj e; omega
  have hsize : ((w.alloc (.cells Z 91)).alloc (.cells (newRow z (cb N nb T) (ln T)) 78)).heap.size = N + 3 + 2 * T + 2 := by simp; omega
  have hbel : Below N w0 ((w.alloc (.cells Z 91)).alloc (.cells (newRow z (cb N nb T) (ln T)) 78)) := (k.bel.alloc (by omega) _).alloc (by simp; omega) _
  generalize ((w.alloc (.cells Z 91)).alloc (.cells (newRow z (cb N nb T) (ln T)) 78)) = w1 at *
  have hst : st i + ln i = st T := by rw [← hi, st_succ]
  rw [hst]
  have oth : ∀ x, x ≠ sb N nb i → x ≠ sb N nb T → (((w1.setCell ⟨sb N nb T, 0, none⟩ (.int .u64 ((st T : Nat) : Int))).drew).setCell ⟨sb N nb i, 2, none⟩ (.pointer (some ⟨sb N nb T, 0, none⟩))).heap[x]? = w1.heap[x]? := fun x h1 h2 => by
    rw [Below.heap_setCell _ ⟨sb N nb i, 2, none⟩ _ x h1]
    exact Below.heap_setCell w1 ⟨sb N nb T, 0, none⟩ _ x h2
  refine ⟨fun j hj => ?_, ?_, ?_, fun j hj => ?_, k.one, by omega, by have := k.h0T; omega, by have := k.h1T; omega, ?_, ?_⟩
  · by_cases e1 : j = T
    · subst e1
      rw [nx_last rfl]
      have : Seg ((w1.setCell ⟨sb N nb j, 0, none⟩ (.int .u64 ((st j : Nat) : Int))).drew) (sb N nb j) (st j) (cb N nb j) (ln j) none := hns.setStart (st j)
      exact this.of_block (Below.heap_setCell _ ⟨sb N nb i, 2, none⟩ _ _ (fun e => hne e.symm))
    · have old1 := (k.seg j (by omega)).of_block (old _ (sb_lt (by omega)))
      by_cases e2 : j = i
      · subst e2
        rw [nx_more (by omega), hi]
        have : Seg ((w1.setCell ⟨sb N nb T, 0, none⟩ (.int .u64 ((st T : Nat) : Int))).drew) (sb N nb j) (st j) (cb N nb j) (ln j) (nx N nb T j) := old1.of_block (Below.heap_setCell w1 ⟨sb N nb T, 0, none⟩ _ _ hne)
        exact this.setNext (sp N nb T)
      · have e3 : nx N nb (T + 1) j = nx N nb T j := by rw [nx_more (by omega), nx_more (by omega)]
        rw [e3]
        exact old1.of_block (oth _ (fun e => e2 (sb_inj e)) (fun e => e1 (sb_inj e)))
  · exact (k.ch.of_block (old _ (by have := k.le; omega))).of_block (oth _ sb_ne_C.symm sb_ne_C.symm)
  · exact (k.rv.of_block (old _ (by have := k.le; omega))).of_block (oth _ sb_ne_R.symm sb_ne_R.symm)
  · have e4 := (oth N (Nat.ne_of_lt sb_gt) (Nat.ne_of_lt sb_gt)).trans (old N (by omega))
    exact (World.cell?_of_block (w := w) (a := ⟨N, j, none⟩) e4).trans (k.row j hj)
  · simp [hsize]; omega
  · exact ((hbel.setCell (p := ⟨sb N nb T, 0, none⟩) (Nat.le_of_lt sb_gt) _).drew).setCell (p := ⟨sb N nb i, 2, none⟩) (Nat.le_of_lt sb_gt) _

/-- next, there is one -/
theorem next_more {w0 : World} {N nb T h0 h1 : Nat} {t h : Int} {w : World} (k : Chn w0 N nb T h0 h1 t h w) (i : Nat) (hi : i + 1 < T) (C : Nat) :
    Calls Yba.prog 30 #[.pointer (some ⟨C, 0, none⟩), .pointer (some ⟨sb N nb i, 0, none⟩)] w fun e w' => e = .returned (.pointer (some ⟨sb N nb (i + 1), 0, none⟩)) ∧ w' = w := by
  have c2 := (k.seg i (by omega)).c2
  rw [nx_more hi] at c2
  have hp := k.isSeg (i + 1) hi
  generalize sb N nb i = a at *
  unfold sp at c2 hp
  generalize sb N nb (i + 1) = b at *
  clear k
  go_enter Yba.func30, Yba.ntmps30
  go_wp2_with fail
  refine (load_p a 2 _ w c2 hp).mono ?_
  rintro e w' ⟨rfl, rfl⟩
  go_wp2_with fail
  go_ret
  exact ⟨rfl, rfl⟩

/-- next, a new one is made -/
theorem next_grow {w0 : World} {N nb T h0 h1 : Nat} {t h : Int} {w : World} (k : Chn w0 N nb T h0 h1 t h w) (i : Nat) (hi : i + 1 = T) (hT : T ≤ 5) (C : Nat) (hC : N + 1 + 2 * nb = C) :
    Calls Yba.prog 30 #[.pointer (some ⟨C, 0, none⟩), .pointer (some ⟨sb N nb i, 0, none⟩)] w fun e w' => e = .returned (.pointer (some ⟨sb N nb T, 0, none⟩)) ∧ Chn w0 N nb T.succ h0 h1 t h w' := by
  have hseg := k.seg i (by omega)
  rw [nx_last hi] at hseg
  have c1 := hseg.c1
  have c2 := hseg.c2
  obtain ⟨_, _, k4, k5, _⟩ := k.ch.cells
  rw [hC] at k4 k5
  have hl : 2 * ln i = ln T := by rw [← hi, ln_succ]
  have hl2 := ln_le hT
  have hl3 := ln_pos i
  generalize hL : ln i = L at *
  generalize hM : ln T = M at *
  have HL : Hid _ := hL
  have HM : Hid _ := hM
  generalize hA : sb N nb i = a at *
  have HA : Hid _ := hA
  clear hL hM hA hseg
  go_enter Yba.func30, Yba.ntmps30
  go_wp2_with fail
  refine (load_p a 2 _ w c2 (SegP.nil _)).mono ?_
  rintro e w' ⟨rfl, rfl⟩
  go_wp2_with fail
  go_region
  all_goals
    go_wp2_with fail
    refine (swap_p C 4 none none w'.drew k4 (by have := k.ch.fz 4; rwa [hC] at this) (SegP.nil _) (SegP.nil _)).mono ?_
    rintro e w1 ⟨rfl, hw1⟩
    have kk : Chn w0 N nb T h0 h1 t h w1 := by
      rw [hw1, ← hC]; exact (k.drewN 1).set4
    clear hw1 k4 k5 c1 c2 k
    obtain ⟨Z, hmk0⟩ := mkS M (by omega)
    have hmk := hmk0 w1
    have eM : ((M : Nat) : Int) = 2 * (L : Int) := by omega
    rw [eM] at hmk
    have hsz := kk.size
    have hcb : w1.heap.size = cb N nb T := by have := cb_new (N := N) kk.le; omega
    have hsb : w1.heap.size + 1 = sb N nb T := by have := sb_new (N := N) kk.le; omega
    obtain ⟨z, hz, hzs, hz0, hz2⟩ := zero78
    have HZ : Hid _ := hsz
    have HC : Hid _ := hcb
    have HS : Hid _ := hsb
    clear hsz hcb hsb hmk0
    have hg := kk.grow i hi Z z hzs hz0 hz2
    rw [← HC.out, HM.out, ← HS.out, HA.out, HL.out] at hg
    have hn2 := new_seg w1 Z z M (w1.heap.size + 1) hzs hz0 hz2 rfl
    have hs2 : Seg ((w1.alloc (.cells Z 91)).alloc (.cells (newRow z w1.heap.size M) 78)) a (st i) (cb N nb i) L none := by
      have := (kk.seg i (by omega)).of_block (kk.alloc Z (newRow z w1.heap.size M) _ (sb_lt (by omega)))
      rwa [nx_last hi, HA.out, HL.out] at this
    have hne : a ≠ w1.heap.size + 1 := by
      have h1 := sb_lt (N := N) (nb := nb) (show i < T by omega)
      rw [HA.out] at h1
      have := kk.size
      omega
    have hst := st_le (show i ≤ 5 by omega)
    have HG : Hid _ := hg
    have HN : Hid _ := hn2
    have HS2 : Hid _ := hs2
    clear hg hn2 hs2
    go_wp2_with fail
    refine (link_ a (w1.heap.size + 1) (st i) (cb N nb i) L 0 w1.heap.size M _ HS2.out HN.out hne (by omega) (by omega)).mono ?_
    rintro e w2 ⟨rfl, hw2⟩
    have hg := HG.out
    have hG2 : Chn w0 N nb (T + 1) h0 h1 t h w2 := by rw [hw2]; exact hg
    clear hw2 hg HG HN HS2 hmk hz
    go_wp2_with fail
    go_ret
    exact ⟨by rw [← HS.out]; rfl, hG2⟩

end Go.Proofs.Ybulkecaq
