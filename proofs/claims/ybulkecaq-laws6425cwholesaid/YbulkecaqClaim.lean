import Derived.Test.YbulkecaqCell2
namespace Go.Proofs.Ybulkecaq
open Go.RowKit Go.Conc
set_option linter.unusedSimpArgs false
set_option linter.unusedVariables false

set_option maxHeartbeats 1000000 in
set_option maxRecDepth 100000 in
theorem counters_ (s : Nat) (hs : s < 2) (R : Nat) (w : World) :
    Calls Yba.prog 24 #[.pointer (some ⟨R, 0, none⟩), .int .i64 (s : Int)] w fun e w' => e = .returned (.tuple #[.pointer (some ⟨R, mo s, none⟩), .pointer (some ⟨R, mo (1 - s), none⟩)]) ∧ ∃ m, w' = w.drewN m := by
  rcases (by omega : s = 0 ∨ s = 1) with rfl | rfl
  · go_enter Yba.func24, Yba.ntmps24
    go_wp2_with fail
    go_quiet (fail)
    go_wp2_with fail
    go_ret2
    exact ⟨rfl, nq, rfl⟩
  · go_enter Yba.func24, Yba.ntmps24
    go_wp2_with fail
    go_quiet (fail)
    go_wp2_with fail
    go_ret2
    exact ⟨rfl, nq, rfl⟩

/-- a counter's word -/
def wd (v : Nat) (c : Bool) : Int := if c = true then (v : Int) + 9223372036854775808 else (v : Int)
theorem wd_not (v : Nat) (c : Bool) (h : v ≤ 4096) : bits .andNot .u64 (wd v c) 9223372036854775808 = (v : Int) := by
  unfold wd
  cases c
  · exact fl_not v h
  · exact fl_not' v h

def start6 (w1 : World) (v6 v7 : Value) (wr : World) : Prop := v6 = .pointer none ∧ v7 = .pointer none ∧ wr = w1

set_option maxHeartbeats 1000000 in
set_option maxRecDepth 100000 in
theorem claim_closed {w0 : World} {N nb T s g o v : Nat} {theirs : Int} {w : World} (wait : Bool) (k : Chs w0 N nb T s g o (wd v true) theirs w) (hv : v ≤ 4096) (R : Nat) (hR : N + 2 + 2 * nb = R) :
    Calls Yba.prog 13 #[.pointer (some ⟨R, 0, none⟩), .int .i64 (s : Int), .bool wait] w fun e w' => e = .returned (.tuple #[.pointer none, .pointer none, .bool true]) ∧ Chs w0 N nb T s g o (wd v true) theirs w' := by
  go_enter Yba.func13, Yba.ntmps13
  go_wp2_with fail
  refine (counters_ s k.le2 R w).mono ?_
  rintro e w1 ⟨rfl, m, hw1⟩
  have k1 : Chs w0 N nb T s g o (wd v true) theirs w1 := by rw [hw1]; exact k.drewN m
  clear hw1 k
  go_wp2_with fail
  go_loopw [6, 7] (fun v6 v7 wr => start6 w1 v6 v7 wr) (fun _ _ _ => 0)
  case atStart => exact ⟨rfl, rfl, rfl⟩
  case round =>
    obtain ⟨rfl, rfl, rfl⟩ := hrel
    have hm := k1.mine.1
    rw [hR] at hm
    go_wp2_with fail
    refine (load_u R (mo s) _ wr hm).mono ?_
    rintro e w2 ⟨rfl, rfl⟩
    have ha : bits .and .u64 (wd v true) 9223372036854775808 = 9223372036854775808 := fl_and' v hv
    go_wp2_with fail
    go_ret3
    exact ⟨rfl, k1⟩

set_option maxHeartbeats 1000000 in
set_option maxRecDepth 100000 in
theorem claim_none {w0 : World} {N nb T s g o v u : Nat} {d : Bool} {w : World} (k : Chs w0 N nb T s g o (v : Int) (wd u d) w) (hv : v ≤ 4096) (hu : u ≤ 4096) (huv : u ≤ v) (R : Nat) (hR : N + 2 + 2 * nb = R) :
    Calls Yba.prog 13 #[.pointer (some ⟨R, 0, none⟩), .int .i64 (s : Int), .bool false] w fun e w' => e = .returned (.tuple #[.pointer none, .pointer none, .bool false]) ∧ Chs w0 N nb T s g o (v : Int) (wd u d) w' := by
  go_enter Yba.func13, Yba.ntmps13
  go_wp2_with fail
  refine (counters_ s k.le2 R w).mono ?_
  rintro e w1 ⟨rfl, m, hw1⟩
  have k1 : Chs w0 N nb T s g o (v : Int) (wd u d) w1 := by rw [hw1]; exact k.drewN m
  clear hw1 k
  go_wp2_with fail
  go_loopw [6, 7] (fun v6 v7 wr => start6 w1 v6 v7 wr) (fun _ _ _ => 0)
  case atStart => exact ⟨rfl, rfl, rfl⟩
  case round =>
    obtain ⟨rfl, rfl, rfl⟩ := hrel
    have hm := k1.mine.1
    have ht := k1.theirs
    rw [hR] at hm ht
    go_wp2_with fail
    refine (load_u R (mo s) _ wr hm).mono ?_
    rintro e w2 ⟨rfl, rfl⟩
    have ha := fl_and v hv
    have hn := wd_not u d hu
    go_wp2_with fail
    refine (load_u R (mo (1 - s)) _ w2 ht).mono ?_
    rintro e w3 ⟨rfl, rfl⟩
    go_wp2_with fail
    go_ret3
    exact ⟨rfl, k1⟩

set_option maxHeartbeats 2000000 in
set_option maxRecDepth 100000 in
theorem claim_at {w0 : World} {N nb T s g o v u : Nat} {d : Bool} {w : World} (wait : Bool) (k : Chs w0 N nb T s g o (v : Int) (wd u d) w) (hv : v ≤ 1023) (hu : u ≤ 4096) (huv : wait = true ∨ v < u) (hg : st g ≤ v) (j : Nat) (hj : st j ≤ v) (hj1 : v < st (j + 1)) (hj5 : j ≤ 5) (R : Nat) (hR : N + 2 + 2 * nb = R) :
    Calls Yba.prog 13 #[.pointer (some ⟨R, 0, none⟩), .int .i64 (s : Int), .bool wait] w fun e w' =>
      e = .returned (.tuple #[.pointer (some ⟨cb N nb j, pix (v - st j) (ln j) * 3, none⟩), .pointer (some ⟨sb N nb j, 0, none⟩), .bool false]) ∧ Chs w0 N nb (max T (j + 1)) s j o ((v : Int) + 1) (wd u d) w' := by
  go_enter Yba.func13, Yba.ntmps13
  go_wp2_with fail
  refine (counters_ s k.le2 R w).mono ?_
  rintro e w1 ⟨rfl, m, hw1⟩
  have k1 : Chs w0 N nb T s g o (v : Int) (wd u d) w1 := by rw [hw1]; exact k.drewN m
  clear hw1 k
  go_wp2_with fail
  go_loopw [6, 7] (fun v6 v7 wr => start6 w1 v6 v7 wr) (fun _ _ _ => 0)
  case atStart => exact ⟨rfl, rfl, rfl⟩
  case round =>
    obtain ⟨rfl, rfl, rfl⟩ := hrel
    have hm := k1.mine.1
    have ht := k1.theirs
    have hpl := k1.places
    rw [hR] at hm ht hpl
    go_wp2_with fail
    refine (load_u R (mo s) _ wr hm).mono ?_
    rintro e w2 ⟨rfl, rfl⟩
    have ha := fl_and v (by omega)
    have hn := wd_not u d hu
    cases wait
    · have hvu : v < u := by rcases huv with h | h; cases h; exact h
      go_wp2_with fail
      refine (load_u R (mo (1 - s)) _ w2 ht).mono ?_
      rintro e w3 ⟨rfl, rfl⟩
      go_wp2_with fail
      refine (place_at k1 v j hg hj hj1 hj5 (by omega) _ rfl).mono ?_
      rintro e w4 ⟨rfl, k4⟩
      have hm4 := k4.mine
      rw [hR] at hm4
      go_wp2_with fail
      refine (cas_u R (mo s) _ _ w4 hm4.1 hm4.2).mono ?_
      rintro e w5 ⟨rfl, hw5⟩
      have k5 : Chs w0 N nb (max T (j + 1)) s j o ((v : Int) + 1) (wd u d) w5 := by rw [hw5, ← hR]; exact k4.setMine _
      clear hw5 hm4 k4
      go_wp2_with fail
      go_ret3
      exact ⟨rfl, k5⟩
    · go_wp2_with fail
      refine (place_at k1 v j hg hj hj1 hj5 (by omega) _ rfl).mono ?_
      rintro e w4 ⟨rfl, k4⟩
      have hm4 := k4.mine
      rw [hR] at hm4
      go_wp2_with fail
      refine (cas_u R (mo s) _ _ w4 hm4.1 hm4.2).mono ?_
      rintro e w5 ⟨rfl, hw5⟩
      have k5 : Chs w0 N nb (max T (j + 1)) s j o ((v : Int) + 1) (wd u d) w5 := by rw [hw5, ← hR]; exact k4.setMine _
      clear hw5 hm4 k4
      go_wp2_with fail
      go_ret3
      exact ⟨rfl, k5⟩

/-! ### the counter lies before the hint -/
def nilOf : Value → Nat
  | .pointer none => 1
  | _ => 0

def skip6 (w0 : World) (N nb T s g o v u : Nat) (d : Bool) (v6 v7 : Value) (wr : World) : Prop :=
  v6 = .pointer none ∧ ((v7 = .pointer none ∧ Chs w0 N nb T s g o (v : Int) (wd u d) wr) ∨ (v7 = .pointer (some ⟨sb N nb g, 0, none⟩) ∧ Chs w0 N nb T s g o (st g : Int) (wd u d) wr))

theorem st_after (g : Nat) : st g < st (g + 1) := st_lt (Nat.lt_succ_self g)
theorem pix0 (l : Nat) : pix 0 l = 0 := by simp [pix]

set_option maxHeartbeats 4000000 in
set_option maxRecDepth 100000 in
theorem claim_skip_wait {w0 : World} {N nb T s g o v u : Nat} {d : Bool} {w : World} (k : Chs w0 N nb T s g o (v : Int) (wd u d) w) (hg5 : g ≤ 5) (hu : u ≤ 4096) (hg : v < st g) (R : Nat) (hR : N + 2 + 2 * nb = R) :
    Calls Yba.prog 13 #[.pointer (some ⟨R, 0, none⟩), .int .i64 (s : Int), .bool true] w fun e w' =>
      e = .returned (.tuple #[.pointer (some ⟨cb N nb g, 0, none⟩), .pointer (some ⟨sb N nb g, 0, none⟩), .bool false]) ∧ Chs w0 N nb T s g o ((st g : Int) + 1) (wd u d) w' := by
  have hst := st_le hg5
  go_enter Yba.func13, Yba.ntmps13
  go_wp2_with fail
  refine (counters_ s k.le2 R w).mono ?_
  rintro e w1 ⟨rfl, m, hw1⟩
  have k1 : Chs w0 N nb T s g o (v : Int) (wd u d) w1 := by rw [hw1]; exact k.drewN m
  clear hw1 k
  go_wp2_with fail
  go_loopw [6, 7] (fun v6 v7 wr => skip6 w0 N nb T s g o v u d v6 v7 wr) (fun _ v7 _ => nilOf v7)
  case atStart => exact ⟨rfl, Or.inl ⟨rfl, k1⟩⟩
  case round =>
    obtain ⟨rfl, ⟨rfl, kr⟩ | ⟨rfl, kr⟩⟩ := hrel
    · clear k1
      have hm := kr.mine.1
      have ht := kr.theirs
      have hpl := kr.places
      rw [hR] at hm ht hpl
      go_wp2_with fail
      refine (load_u R (mo s) _ wr hm).mono ?_
      rintro e w2 ⟨rfl, rfl⟩
      have ha := fl_and v (by omega)
      have hn := wd_not u d hu
      go_wp2_with fail
      refine (place_before kr v hg (by omega) _ rfl).mono ?_
      rintro e w4 ⟨rfl, rfl⟩
      have hm4 := kr.mine
      rw [hR] at hm4
      have c0 := (kr.seg g kr.gT).c0
      go_wp2_with fail
      refine (cas_u R (mo s) _ _ w4 hm4.1 hm4.2).mono ?_
      rintro e w5 ⟨rfl, hw5⟩
      have k5 : Chs w0 N nb T s g o (st g : Int) (wd u d) w5 := by rw [hw5, ← hR]; exact kr.setMine _
      clear hw5 hm4 hm ht hpl c0
      go_wp2_with fail
      go_roundw
      case rel => exact ⟨rfl, Or.inr ⟨rfl, k5⟩⟩
      case measure => simp [nilOf]
    · clear k1
      have hm := kr.mine.1
      have ht := kr.theirs
      have hpl := kr.places
      rw [hR] at hm ht hpl
      go_wp2_with fail
      refine (load_u R (mo s) _ wr hm).mono ?_
      rintro e w2 ⟨rfl, rfl⟩
      have ha := fl_and (st g) (by omega)
      have hn := wd_not u d hu
      go_wp2_with fail
      refine (place_at kr (st g) g (Nat.le_refl _) (Nat.le_refl _) (st_after g) hg5 (by omega) _ rfl).mono ?_
      rw [Nat.sub_self, pix0, Nat.zero_mul]
      rintro e w4 ⟨rfl, k4⟩
      have hm4 := k4.mine
      rw [hR] at hm4
      go_wp2_with fail
      refine (cas_u R (mo s) _ _ w4 hm4.1 hm4.2).mono ?_
      rintro e w5 ⟨rfl, hw5⟩
      have k5 : Chs w0 N nb (max T (g + 1)) s g o ((st g : Int) + 1) (wd u d) w5 := by rw [hw5, ← hR]; exact k4.setMine _
      clear hw5 hm4 k4
      go_wp2_with fail
      go_ret3
      have hT := kr.gT
      rw [Nat.max_eq_left (by omega)] at k5
      exact ⟨rfl, k5⟩

set_option maxHeartbeats 4000000 in
set_option maxRecDepth 100000 in
theorem claim_skip_try {w0 : World} {N nb T s g o v u : Nat} {d : Bool} {w : World} (k : Chs w0 N nb T s g o (v : Int) (wd u d) w) (hg5 : g ≤ 5) (hu : u ≤ 4096) (hg : v < st g) (huv : v < u) (hug : st g < u) (R : Nat) (hR : N + 2 + 2 * nb = R) :
    Calls Yba.prog 13 #[.pointer (some ⟨R, 0, none⟩), .int .i64 (s : Int), .bool false] w fun e w' =>
      e = .returned (.tuple #[.pointer (some ⟨cb N nb g, 0, none⟩), .pointer (some ⟨sb N nb g, 0, none⟩), .bool false]) ∧ Chs w0 N nb T s g o ((st g : Int) + 1) (wd u d) w' := by
  have hst := st_le hg5
  go_enter Yba.func13, Yba.ntmps13
  go_wp2_with fail
  refine (counters_ s k.le2 R w).mono ?_
  rintro e w1 ⟨rfl, m, hw1⟩
  have k1 : Chs w0 N nb T s g o (v : Int) (wd u d) w1 := by rw [hw1]; exact k.drewN m
  clear hw1 k
  go_wp2_with fail
  go_loopw [6, 7] (fun v6 v7 wr => skip6 w0 N nb T s g o v u d v6 v7 wr) (fun _ v7 _ => nilOf v7)
  case atStart => exact ⟨rfl, Or.inl ⟨rfl, k1⟩⟩
  case round =>
    obtain ⟨rfl, ⟨rfl, kr⟩ | ⟨rfl, kr⟩⟩ := hrel
    · clear k1
      have hm := kr.mine.1
      have ht := kr.theirs
      have hpl := kr.places
      rw [hR] at hm ht hpl
      go_wp2_with fail
      refine (load_u R (mo s) _ wr hm).mono ?_
      rintro e w2 ⟨rfl, rfl⟩
      have ha := fl_and v (by omega)
      have hn := wd_not u d hu
      go_wp2_with fail
      refine (load_u R (mo (1 - s)) _ w2 ht).mono ?_
      rintro e w3 ⟨rfl, rfl⟩
      go_wp2_with fail
      refine (place_before kr v hg (by omega) _ rfl).mono ?_
      rintro e w4 ⟨rfl, rfl⟩
      have hm4 := kr.mine
      rw [hR] at hm4
      have c0 := (kr.seg g kr.gT).c0
      go_wp2_with fail
      refine (cas_u R (mo s) _ _ w4 hm4.1 hm4.2).mono ?_
      rintro e w5 ⟨rfl, hw5⟩
      have k5 : Chs w0 N nb T s g o (st g : Int) (wd u d) w5 := by rw [hw5, ← hR]; exact kr.setMine _
      clear hw5 hm4 hm ht hpl c0
      go_wp2_with fail
      go_roundw
      case rel => exact ⟨rfl, Or.inr ⟨rfl, k5⟩⟩
      case measure => simp [nilOf]
    · clear k1
      have hm := kr.mine.1
      have ht := kr.theirs
      have hpl := kr.places
      rw [hR] at hm ht hpl
      go_wp2_with fail
      refine (load_u R (mo s) _ wr hm).mono ?_
      rintro e w2 ⟨rfl, rfl⟩
      have ha := fl_and (st g) (by omega)
      have hn := wd_not u d hu
      go_wp2_with fail
      refine (load_u R (mo (1 - s)) _ w2 ht).mono ?_
      rintro e w3 ⟨rfl, rfl⟩
      go_wp2_with fail
      refine (place_at kr (st g) g (Nat.le_refl _) (Nat.le_refl _) (st_after g) hg5 (by omega) _ rfl).mono ?_
      rw [Nat.sub_self, pix0, Nat.zero_mul]
      rintro e w4 ⟨rfl, k4⟩
      have hm4 := k4.mine
      rw [hR] at hm4
      go_wp2_with fail
      refine (cas_u R (mo s) _ _ w4 hm4.1 hm4.2).mono ?_
      rintro e w5 ⟨rfl, hw5⟩
      have k5 : Chs w0 N nb (max T (g + 1)) s g o ((st g : Int) + 1) (wd u d) w5 := by rw [hw5, ← hR]; exact k4.setMine _
      clear hw5 hm4 k4
      go_wp2_with fail
      go_ret3
      have hT := kr.gT
      rw [Nat.max_eq_left (by omega)] at k5
      exact ⟨rfl, k5⟩

set_option maxHeartbeats 4000000 in
set_option maxRecDepth 100000 in
theorem claim_skip_none {w0 : World} {N nb T s g o v u : Nat} {d : Bool} {w : World} (k : Chs w0 N nb T s g o (v : Int) (wd u d) w) (hg5 : g ≤ 5) (hu : u ≤ 4096) (hg : v < st g) (huv : v < u) (hug : u ≤ st g) (R : Nat) (hR : N + 2 + 2 * nb = R) :
    Calls Yba.prog 13 #[.pointer (some ⟨R, 0, none⟩), .int .i64 (s : Int), .bool false] w fun e w' =>
      e = .returned (.tuple #[.pointer none, .pointer none, .bool false]) ∧ Chs w0 N nb T s g o (st g : Int) (wd u d) w' := by
  have hst := st_le hg5
  go_enter Yba.func13, Yba.ntmps13
  go_wp2_with fail
  refine (counters_ s k.le2 R w).mono ?_
  rintro e w1 ⟨rfl, m, hw1⟩
  have k1 : Chs w0 N nb T s g o (v : Int) (wd u d) w1 := by rw [hw1]; exact k.drewN m
  clear hw1 k
  go_wp2_with fail
  go_loopw [6, 7] (fun v6 v7 wr => skip6 w0 N nb T s g o v u d v6 v7 wr) (fun _ v7 _ => nilOf v7)
  case atStart => exact ⟨rfl, Or.inl ⟨rfl, k1⟩⟩
  case round =>
    obtain ⟨rfl, ⟨rfl, kr⟩ | ⟨rfl, kr⟩⟩ := hrel
    · clear k1
      have hm := kr.mine.1
      have ht := kr.theirs
      have hpl := kr.places
      rw [hR] at hm ht hpl
      go_wp2_with fail
      refine (load_u R (mo s) _ wr hm).mono ?_
      rintro e w2 ⟨rfl, rfl⟩
      have ha := fl_and v (by omega)
      have hn := wd_not u d hu
      go_wp2_with fail
      refine (load_u R (mo (1 - s)) _ w2 ht).mono ?_
      rintro e w3 ⟨rfl, rfl⟩
      go_wp2_with fail
      refine (place_before kr v hg (by omega) _ rfl).mono ?_
      rintro e w4 ⟨rfl, rfl⟩
      have hm4 := kr.mine
      rw [hR] at hm4
      have c0 := (kr.seg g kr.gT).c0
      go_wp2_with fail
      refine (cas_u R (mo s) _ _ w4 hm4.1 hm4.2).mono ?_
      rintro e w5 ⟨rfl, hw5⟩
      have k5 : Chs w0 N nb T s g o (st g : Int) (wd u d) w5 := by rw [hw5, ← hR]; exact kr.setMine _
      clear hw5 hm4 hm ht hpl c0
      go_wp2_with fail
      go_roundw
      case rel => exact ⟨rfl, Or.inr ⟨rfl, k5⟩⟩
      case measure => simp [nilOf]
    · clear k1
      have hm := kr.mine.1
      have ht := kr.theirs
      have hpl := kr.places
      rw [hR] at hm ht hpl
      go_wp2_with fail
      refine (load_u R (mo s) _ wr hm).mono ?_
      rintro e w2 ⟨rfl, rfl⟩
      have ha := fl_and (st g) (by omega)
      have hn := wd_not u d hu
      go_wp2_with fail
      refine (load_u R (mo (1 - s)) _ w2 ht).mono ?_
      rintro e w3 ⟨rfl, rfl⟩
      go_wp2_with fail
      go_ret3
      exact ⟨rfl, kr⟩

end Go.Proofs.Ybulkecaq
