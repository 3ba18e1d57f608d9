import Derived.Test.YbulkecaqPtr2
namespace Go.Proofs.Ybulkecaq
open Go.RowKit Go.Conc
set_option linter.unusedSimpArgs false
set_option linter.unusedVariables false

/-! ### plain numbers -/
/-- the k-th segment's first position, its size -/
def st (k : Nat) : Nat := 32 * (2 ^ k - 1)
def ln (k : Nat) : Nat := 32 * 2 ^ k
theorem k5 {k : Nat} (h : k ≤ 5) : k = 0 ∨ k = 1 ∨ k = 2 ∨ k = 3 ∨ k = 4 ∨ k = 5 := by omega
theorem st_succ (k : Nat) : st (k + 1) = st k + ln k := by
  have := Nat.two_pow_pos k
  unfold st ln
  rw [Nat.pow_succ]
  omega
theorem ln_succ (k : Nat) : ln (k + 1) = 2 * ln k := by unfold ln; rw [Nat.pow_succ]; omega
theorem ln_pos (k : Nat) : 32 ≤ ln k := by have := Nat.two_pow_pos k; unfold ln; omega
theorem ln_le {k : Nat} (h : k ≤ 5) : ln k ≤ 1024 := by rcases k5 h with rfl | rfl | rfl | rfl | rfl | rfl <;> decide
theorem st_le {k : Nat} (h : k ≤ 5) : st k ≤ 992 := by rcases k5 h with rfl | rfl | rfl | rfl | rfl | rfl <;> decide
theorem st_mono {a b : Nat} (h : a ≤ b) : st a ≤ st b := by
  induction h with
  | refl => exact Nat.le_refl _
  | step _ ih => rw [st_succ]; omega
theorem st_lt {a b : Nat} (h : a < b) : st a < st b := by
  have h1 : st (a + 1) ≤ st b := st_mono h
  rw [st_succ] at h1
  have := ln_pos a
  omega
theorem st_inj {a b : Nat} (h : st a = st b) : a = b := by
  rcases Nat.lt_trichotomy a b with h1 | h1 | h1
  · have := st_lt h1; omega
  · exact h1
  · have := st_lt h1; omega

/-- the blocks of the k-th segment: its cells; itself -/
def cb (N nb k : Nat) : Nat := if k < nb then N + 1 + 2 * k else N + 3 + 2 * k
def sb (N nb k : Nat) : Nat := if k < nb then N + 2 + 2 * k else N + 4 + 2 * k
theorem sb_inj {N nb a b : Nat} (h : sb N nb a = sb N nb b) : a = b := by unfold sb at h; split at h <;> split at h <;> omega
theorem sb_ne_C {N nb k : Nat} : sb N nb k ≠ N + 1 + 2 * nb := by unfold sb; split <;> omega
theorem sb_ne_R {N nb k : Nat} : sb N nb k ≠ N + 2 + 2 * nb := by unfold sb; split <;> omega
theorem sb_gt {N nb k : Nat} : N < sb N nb k := by unfold sb; split <;> omega
theorem sb_lt {N nb k T : Nat} (h : k < T) : sb N nb k < N + 3 + 2 * T := by unfold sb; split <;> omega
theorem sb_new {N nb T : Nat} (h : nb ≤ T) : sb N nb T = N + 3 + 2 * T + 1 := by unfold sb; split <;> omega
theorem cb_new {N nb T : Nat} (h : nb ≤ T) : cb N nb T = N + 3 + 2 * T := by unfold cb; split <;> omega

/-! ### the blocks -/
theorem sib_ne (A : Array Value) (i j : Nat) (v : Value) (h : i ≠ j) : (A.setIfInBounds i v)[j]? = A[j]? := by
  rw [Array.getElem?_setIfInBounds, if_neg h]
theorem sib_same (A : Array Value) (i : Nat) (v : Value) (h : i < A.size) : (A.setIfInBounds i v)[i]? = some v := by
  rw [Array.getElem?_setIfInBounds, if_pos rfl, if_pos h]
def Seg (w : World) (b s c l : Nat) (nx : Option Addr) : Prop :=
  ∃ A, w.heap[b]? = some (.cells A 78 (0, 0)) ∧ A.size = 135 ∧ A[0]? = some (.int .u64 (s : Int)) ∧ A[1]? = some (.slice (some ⟨c, 0, none⟩) l l) ∧ A[2]? = some (.pointer nx)
theorem Seg.isSeg {w : World} {b s c l : Nat} {nx : Option Addr} (h : Seg w b s c l nx) : IsSeg w b := by obtain ⟨A, h1, h2, _⟩ := h; exact ⟨A, h1, h2⟩
theorem Seg.c0 {w : World} {b s c l : Nat} {nx : Option Addr} (h : Seg w b s c l nx) : w.cell? ⟨b, 0, none⟩ = some (.int .u64 (s : Int)) := by
  obtain ⟨A, h1, h2, h3, h4, h5⟩ := h; rw [cell_of_row w b 0 A 78 (0, 0) h1]; exact h3
theorem Seg.c1 {w : World} {b s c l : Nat} {nx : Option Addr} (h : Seg w b s c l nx) : w.cell? ⟨b, 1, none⟩ = some (.slice (some ⟨c, 0, none⟩) l l) := by
  obtain ⟨A, h1, h2, h3, h4, h5⟩ := h; rw [cell_of_row w b 1 A 78 (0, 0) h1]; exact h4
theorem Seg.c2 {w : World} {b s c l : Nat} {nx : Option Addr} (h : Seg w b s c l nx) : w.cell? ⟨b, 2, none⟩ = some (.pointer nx) := by
  obtain ⟨A, h1, h2, h3, h4, h5⟩ := h; rw [cell_of_row w b 2 A 78 (0, 0) h1]; exact h5
theorem IsSeg.fz {w : World} {b : Nat} (h : IsSeg w b) (i : Nat) : w.frozen? ⟨b, i, none⟩ = false := by
  obtain ⟨A, h1, _⟩ := h; exact frozen_of_row w b i A 78 h1
theorem Seg.fz {w : World} {b s c l : Nat} {nx : Option Addr} (h : Seg w b s c l nx) (i : Nat) : w.frozen? ⟨b, i, none⟩ = false := h.isSeg.fz i
theorem Seg.of_block {w w' : World} {b s c l : Nat} {nx : Option Addr} (h : Seg w b s c l nx) (e : w'.heap[b]? = w.heap[b]?) : Seg w' b s c l nx := by
  obtain ⟨A, h1, h2⟩ := h; exact ⟨A, e.trans h1, h2⟩
theorem IsSeg.of_block {w w' : World} {b : Nat} (h : IsSeg w b) (e : w'.heap[b]? = w.heap[b]?) : IsSeg w' b := by
  obtain ⟨A, h1, h2⟩ := h; exact ⟨A, e.trans h1, h2⟩
theorem Seg.setNext {w : World} {b s c l : Nat} {nx : Option Addr} (h : Seg w b s c l nx) (p : Option Addr) : Seg (w.setCell ⟨b, 2, none⟩ (.pointer p)) b s c l p := by
  obtain ⟨A, h1, h2, h3, h4, h5⟩ := h
  exact ⟨A.setIfInBounds 2 (.pointer p), heap_setCell_same w b 2 A 78 _ h1, by simp [h2], (sib_ne _ _ _ _ (by decide)).trans h3, (sib_ne _ _ _ _ (by decide)).trans h4, sib_same _ _ _ (by rw [h2]; decide)⟩
theorem Seg.setStart {w : World} {b s c l : Nat} {nx : Option Addr} (h : Seg w b s c l nx) (s' : Nat) : Seg (w.setCell ⟨b, 0, none⟩ (.int .u64 (s' : Int))) b s' c l nx := by
  obtain ⟨A, h1, h2, h3, h4, h5⟩ := h
  exact ⟨A.setIfInBounds 0 (.int .u64 (s' : Int)), heap_setCell_same w b 0 A 78 _ h1, by simp [h2], sib_same _ _ _ (by rw [h2]; decide), (sib_ne _ _ _ _ (by decide)).trans h4, (sib_ne _ _ _ _ (by decide)).trans h5⟩

/-- the chain's own block: its two hints -/
def ChB (w : World) (C : Nat) (p0 p1 : Option Addr) : Prop :=
  ∃ A, w.heap[C]? = some (.cells A 83 (0, 0)) ∧ A.size = 7 ∧ A[0]? = some (.pointer p0) ∧ A[1]? = some (.pointer p1) ∧ A[4]? = some (.pointer none) ∧ A[5]? = some (.int .i64 2728) ∧ A[6]? = some (.int .u64 3)
theorem ChB.of_block {w w' : World} {C : Nat} {p0 p1 : Option Addr} (h : ChB w C p0 p1) (e : w'.heap[C]? = w.heap[C]?) : ChB w' C p0 p1 := by
  obtain ⟨A, h1, h2⟩ := h; exact ⟨A, e.trans h1, h2⟩
theorem ChB.fz {w : World} {C : Nat} {p0 p1 : Option Addr} (h : ChB w C p0 p1) (i : Nat) : w.frozen? ⟨C, i, none⟩ = false := by
  obtain ⟨A, h1, _⟩ := h; exact frozen_of_row w C i A 83 h1
theorem ChB.cells {w : World} {C : Nat} {p0 p1 : Option Addr} (h : ChB w C p0 p1) : w.cell? ⟨C, 0, none⟩ = some (.pointer p0) ∧ w.cell? ⟨C, 1, none⟩ = some (.pointer p1) ∧ w.cell? ⟨C, 4, none⟩ = some (.pointer none) ∧
    w.cell? ⟨C, 5, none⟩ = some (.int .i64 2728) ∧ w.cell? ⟨C, 6, none⟩ = some (.int .u64 3) := by
  obtain ⟨A, h1, h2, h3, h4, h5, h6, h7⟩ := h
  exact ⟨(cell_of_row w C 0 A 83 (0, 0) h1).trans h3, (cell_of_row w C 1 A 83 (0, 0) h1).trans h4, (cell_of_row w C 4 A 83 (0, 0) h1).trans h5, (cell_of_row w C 5 A 83 (0, 0) h1).trans h6, (cell_of_row w C 6 A 83 (0, 0) h1).trans h7⟩
theorem ChB.set0 {w : World} {C : Nat} {p0 p1 : Option Addr} (h : ChB w C p0 p1) (q : Option Addr) : ChB (w.setCell ⟨C, 0, none⟩ (.pointer q)) C q p1 := by
  obtain ⟨A, h1, h2, h3, h4, h5, h6, h7⟩ := h
  refine ⟨A.setIfInBounds 0 (.pointer q), heap_setCell_same w C 0 A 83 _ h1, by simp [h2], ?_, ?_, ?_, ?_, ?_⟩ <;> first | exact sib_same _ _ _ (by rw [h2]; decide) | exact (sib_ne _ _ _ _ (by decide)).trans (by assumption)
theorem ChB.set1 {w : World} {C : Nat} {p0 p1 : Option Addr} (h : ChB w C p0 p1) (q : Option Addr) : ChB (w.setCell ⟨C, 1, none⟩ (.pointer q)) C p0 q := by
  obtain ⟨A, h1, h2, h3, h4, h5, h6, h7⟩ := h
  refine ⟨A.setIfInBounds 1 (.pointer q), heap_setCell_same w C 1 A 83 _ h1, by simp [h2], ?_, ?_, ?_, ?_, ?_⟩ <;> first | exact sib_same _ _ _ (by rw [h2]; decide) | exact (sib_ne _ _ _ _ (by decide)).trans (by assumption)
theorem ChB.set4 {w : World} {C : Nat} {p0 p1 : Option Addr} (h : ChB w C p0 p1) : ChB (w.setCell ⟨C, 4, none⟩ (.pointer none)) C p0 p1 := by
  obtain ⟨A, h1, h2, h3, h4, h5, h6, h7⟩ := h
  refine ⟨A.setIfInBounds 4 (.pointer none), heap_setCell_same w C 4 A 83 _ h1, by simp [h2], ?_, ?_, ?_, ?_, ?_⟩ <;> first | exact sib_same _ _ _ (by rw [h2]; decide) | exact (sib_ne _ _ _ _ (by decide)).trans (by assumption)

/-- the rendezvous's block: its two counters -/
def RvB (w : World) (R C : Nat) (t h : Int) : Prop :=
  ∃ A, w.heap[R]? = some (.cells A 85 (0, 0)) ∧ A.size = 261 ∧ A[64]? = some (.int .u64 t) ∧ A[129]? = some (.int .u64 h) ∧ A[194]? = some (.pointer (some ⟨C, 0, none⟩))
theorem RvB.of_block {w w' : World} {R C : Nat} {t h : Int} (k : RvB w R C t h) (e : w'.heap[R]? = w.heap[R]?) : RvB w' R C t h := by
  obtain ⟨A, h1, h2⟩ := k; exact ⟨A, e.trans h1, h2⟩
theorem RvB.fz {w : World} {R C : Nat} {t h : Int} (k : RvB w R C t h) (i : Nat) : w.frozen? ⟨R, i, none⟩ = false := by
  obtain ⟨A, h1, _⟩ := k; exact frozen_of_row w R i A 85 h1
theorem RvB.cells {w : World} {R C : Nat} {t h : Int} (k : RvB w R C t h) : w.cell? ⟨R, 64, none⟩ = some (.int .u64 t) ∧ w.cell? ⟨R, 129, none⟩ = some (.int .u64 h) ∧ w.cell? ⟨R, 194, none⟩ = some (.pointer (some ⟨C, 0, none⟩)) := by
  obtain ⟨A, h1, h2, h3, h4, h5⟩ := k
  exact ⟨(cell_of_row w R 64 A 85 (0, 0) h1).trans h3, (cell_of_row w R 129 A 85 (0, 0) h1).trans h4, (cell_of_row w R 194 A 85 (0, 0) h1).trans h5⟩
theorem RvB.setT {w : World} {R C : Nat} {t h : Int} (k : RvB w R C t h) (y : Int) : RvB (w.setCell ⟨R, 64, none⟩ (.int .u64 y)) R C y h := by
  obtain ⟨A, h1, h2, h3, h4, h5⟩ := k
  refine ⟨A.setIfInBounds 64 (.int .u64 y), heap_setCell_same w R 64 A 85 _ h1, by simp [h2], ?_, ?_, ?_⟩ <;> first | exact sib_same _ _ _ (by rw [h2]; decide) | exact (sib_ne _ _ _ _ (by decide)).trans (by assumption)
theorem RvB.setH {w : World} {R C : Nat} {t h : Int} (k : RvB w R C t h) (y : Int) : RvB (w.setCell ⟨R, 129, none⟩ (.int .u64 y)) R C t y := by
  obtain ⟨A, h1, h2, h3, h4, h5⟩ := k
  refine ⟨A.setIfInBounds 129 (.int .u64 y), heap_setCell_same w R 129 A 85 _ h1, by simp [h2], ?_, ?_, ?_⟩ <;> first | exact sib_same _ _ _ (by rw [h2]; decide) | exact (sib_ne _ _ _ _ (by decide)).trans (by assumption)

/-! ### the whole: N the row of the law's own pointers; nb segments built ahead; T segments now; the hints; the counters -/
def nx (N nb T k : Nat) : Option Addr := if k + 1 < T then some ⟨sb N nb (k + 1), 0, none⟩ else none
def sp (N nb k : Nat) : Option Addr := some ⟨sb N nb k, 0, none⟩

structure Chn (w0 : World) (N nb T h0 h1 : Nat) (t h : Int) (w : World) : Prop where
  seg : ∀ k, k < T → Seg w (sb N nb k) (st k) (cb N nb k) (ln k) (nx N nb T k)
  ch : ChB w (N + 1 + 2 * nb) (sp N nb h0) (sp N nb h1)
  rv : RvB w (N + 2 + 2 * nb) (N + 1 + 2 * nb) t h
  row : ∀ k, k < nb → w.cell? ⟨N, k, none⟩ = some (.pointer (sp N nb k))
  one : 1 ≤ nb
  le : nb ≤ T
  h0T : h0 < T
  h1T : h1 < T
  size : w.heap.size = N + 3 + 2 * T
  bel : Below N w0 w

theorem Chn.drewN {w0 : World} {N nb T h0 h1 : Nat} {t h : Int} {w : World} (k : Chn w0 N nb T h0 h1 t h w) (m : Nat) : Chn w0 N nb T h0 h1 t h (w.drewN m) :=
  ⟨k.seg, k.ch, k.rv, k.row, k.one, k.le, k.h0T, k.h1T, k.size, below_drewN k.bel m⟩

theorem Chn.row_other {w : World} {N nb x o : Nat} (h : ∀ k, k < nb → w.cell? ⟨N, k, none⟩ = some (.pointer (sp N nb k))) (hx : x ≠ N) (v : Value) : ∀ k, k < nb → (w.setCell ⟨x, o, none⟩ v).cell? ⟨N, k, none⟩ = some (.pointer (sp N nb k)) := fun k hk => by
  rw [World.cell?_setCell_other w ⟨x, o, none⟩ ⟨N, k, none⟩ v (fun e => hx (by injection e))]
  exact h k hk

theorem Chn.setT {w0 : World} {N nb T h0 h1 : Nat} {t h : Int} {w : World} (k : Chn w0 N nb T h0 h1 t h w) (y : Int) : Chn w0 N nb T h0 h1 y h (w.setCell ⟨N + 2 + 2 * nb, 64, none⟩ (.int .u64 y)) :=
  ⟨fun i hi => (k.seg i hi).of_block (Below.heap_setCell w ⟨N + 2 + 2 * nb, 64, none⟩ _ _ sb_ne_R), k.ch.of_block (Below.heap_setCell w ⟨N + 2 + 2 * nb, 64, none⟩ _ _ (by show N + 1 + 2 * nb ≠ N + 2 + 2 * nb; omega)), k.rv.setT y, Chn.row_other k.row (by omega) _, k.one, k.le, k.h0T, k.h1T, by simpa using k.size,
    k.bel.setCell (p := ⟨N + 2 + 2 * nb, 64, none⟩) (by show N ≤ N + 2 + 2 * nb; omega) _⟩
theorem Chn.setH {w0 : World} {N nb T h0 h1 : Nat} {t h : Int} {w : World} (k : Chn w0 N nb T h0 h1 t h w) (y : Int) : Chn w0 N nb T h0 h1 t y (w.setCell ⟨N + 2 + 2 * nb, 129, none⟩ (.int .u64 y)) :=
  ⟨fun i hi => (k.seg i hi).of_block (Below.heap_setCell w ⟨N + 2 + 2 * nb, 129, none⟩ _ _ sb_ne_R), k.ch.of_block (Below.heap_setCell w ⟨N + 2 + 2 * nb, 129, none⟩ _ _ (by show N + 1 + 2 * nb ≠ N + 2 + 2 * nb; omega)), k.rv.setH y, Chn.row_other k.row (by omega) _, k.one, k.le, k.h0T, k.h1T, by simpa using k.size,
    k.bel.setCell (p := ⟨N + 2 + 2 * nb, 129, none⟩) (by show N ≤ N + 2 + 2 * nb; omega) _⟩
theorem Chn.set0 {w0 : World} {N nb T h0 h1 : Nat} {t h : Int} {w : World} (k : Chn w0 N nb T h0 h1 t h w) (j : Nat) (hj : j < T) : Chn w0 N nb T j h1 t h (w.setCell ⟨N + 1 + 2 * nb, 0, none⟩ (.pointer (sp N nb j))) :=
  ⟨fun i hi => (k.seg i hi).of_block (Below.heap_setCell w ⟨N + 1 + 2 * nb, 0, none⟩ _ _ sb_ne_C), k.ch.set0 _, k.rv.of_block (Below.heap_setCell w ⟨N + 1 + 2 * nb, 0, none⟩ _ _ (by show N + 2 + 2 * nb ≠ N + 1 + 2 * nb; omega)), Chn.row_other k.row (by omega) _, k.one, k.le, hj, k.h1T, by simpa using k.size,
    k.bel.setCell (p := ⟨N + 1 + 2 * nb, 0, none⟩) (by show N ≤ N + 1 + 2 * nb; omega) _⟩
theorem Chn.set1 {w0 : World} {N nb T h0 h1 : Nat} {t h : Int} {w : World} (k : Chn w0 N nb T h0 h1 t h w) (j : Nat) (hj : j < T) : Chn w0 N nb T h0 j t h (w.setCell ⟨N + 1 + 2 * nb, 1, none⟩ (.pointer (sp N nb j))) :=
  ⟨fun i hi => (k.seg i hi).of_block (Below.heap_setCell w ⟨N + 1 + 2 * nb, 1, none⟩ _ _ sb_ne_C), k.ch.set1 _, k.rv.of_block (Below.heap_setCell w ⟨N + 1 + 2 * nb, 1, none⟩ _ _ (by show N + 2 + 2 * nb ≠ N + 1 + 2 * nb; omega)), Chn.row_other k.row (by omega) _, k.one, k.le, k.h0T, hj, by simpa using k.size,
    k.bel.setCell (p := ⟨N + 1 + 2 * nb, 1, none⟩) (by show N ≤ N + 1 + 2 * nb; omega) _⟩
theorem Chn.set4 {w0 : World} {N nb T h0 h1 : Nat} {t h : Int} {w : World} (k : Chn w0 N nb T h0 h1 t h w) : Chn w0 N nb T h0 h1 t h (w.setCell ⟨N + 1 + 2 * nb, 4, none⟩ (.pointer none)) :=
  ⟨fun i hi => (k.seg i hi).of_block (Below.heap_setCell w ⟨N + 1 + 2 * nb, 4, none⟩ _ _ sb_ne_C), k.ch.set4, k.rv.of_block (Below.heap_setCell w ⟨N + 1 + 2 * nb, 4, none⟩ _ _ (by show N + 2 + 2 * nb ≠ N + 1 + 2 * nb; omega)), Chn.row_other k.row (by omega) _, k.one, k.le, k.h0T, k.h1T, by simpa using k.size,
    k.bel.setCell (p := ⟨N + 1 + 2 * nb, 4, none⟩) (by show N ≤ N + 1 + 2 * nb; omega) _⟩

theorem Chn.isSeg {w0 : World} {N nb T h0 h1 : Nat} {t h : Int} {w : World} (k : Chn w0 N nb T h0 h1 t h w) (i : Nat) (hi : i < T) : SegP w (sp N nb i) := SegP.at (k.seg i hi).isSeg
theorem Chn.isNx {w0 : World} {N nb T h0 h1 : Nat} {t h : Int} {w : World} (k : Chn w0 N nb T h0 h1 t h w) (i : Nat) : SegP w (nx N nb T i) := by
  unfold nx
  split
  · rename_i h; exact k.isSeg (i + 1) h
  · exact SegP.nil w

/-- the zero segment -/
theorem zero78 : ∃ cs : Array Value, (∀ w, (zeroValue 78).run Yba.prog w = .ok (.agg cs) w) ∧ cs.size = 135 ∧ cs[0]? = some (.int .u64 0) ∧ cs[2]? = some (.pointer none) := by
  have h : ((Yba.prog.info? 78).bind (fun i => i.zero)).map (fun v => ((match v with | .agg _ => true | _ => false), v.cells.size, v.cells[0]?, v.cells[2]?)) = some (true, 135, some (.int .u64 0), some (.pointer none)) := by kernel_rfl
  obtain ⟨v, hv, hq⟩ := Option.map_eq_some_iff.1 h
  obtain ⟨i, hi, hz⟩ := Option.bind_eq_some_iff.1 hv
  simp only [Prod.mk.injEq] at hq
  obtain ⟨q1, q2, q3, q4⟩ := hq
  cases v with
  | agg cs => exact ⟨cs, fun w => by simp [zeroValue, typeInfo, hi, hz], q2, q3, q4⟩
  | _ => cases q1

theorem info91 : (Yba.prog.info? 91).map (fun i => (i.zero.isSome, i.size, i.bytes)) = some (true, 3, 24) := by kernel_rfl
/-- the cells of a segment, just made: never read -/
theorem mkS (n : Nat) (hn : n ≤ 4096) : ∃ Z : Array Value, ∀ w : World, (Instr.makeSlice 72 (.int .i64 (n : Int)) (.int .i64 (n : Int))).run Yba.prog w = .ok (.slice (some ⟨w.heap.size, 0, none⟩) n n) (w.alloc (.cells Z 91)) := by
  obtain ⟨i, hi, hq⟩ := Option.map_eq_some_iff.1 info91
  simp only [Prod.mk.injEq] at hq
  obtain ⟨hz, hs, hb⟩ := hq
  obtain ⟨z, hz⟩ := Option.isSome_iff_exists.1 hz
  refine ⟨madeCells z.cells (n * i.size), fun w => ?_⟩
  rw [run_make (P := Yba.prog) w 72 91 i _ Yba.underlying72 hi hz .i64 .i64 (n : Int) (n : Int) (by omega) (by omega) (by rw [hb]; omega) (by omega)]
  simp

end Go.Proofs.Ybulkecaq
