import Derived.Test.YbulkecaqCBase
namespace Go.Proofs.Ybulkecaq
open Go.RowKit Go.Conc
set_option linter.unusedSimpArgs false
set_option linter.unusedVariables false

theorem zero83 : ∃ cs : Array Value, (∀ w, (zeroValue 83).run Yba.prog w = .ok (.agg cs) w) ∧ cs.size = 7 ∧ cs[0]? = some (.pointer none) ∧ cs[1]? = some (.pointer none) ∧ cs[4]? = some (.pointer none) := by
  have h : ((Yba.prog.info? 83).bind (fun i => i.zero)).map (fun v => ((match v with | .agg _ => true | _ => false), v.cells.size, v.cells[0]?, v.cells[1]?, v.cells[4]?)) = some (true, 7, some (.pointer none), some (.pointer none), some (.pointer none)) := by kernel_rfl
  obtain ⟨v, hv, hq⟩ := Option.map_eq_some_iff.1 h
  obtain ⟨i, hi, hz⟩ := Option.bind_eq_some_iff.1 hv
  simp only [Prod.mk.injEq] at hq
  obtain ⟨q1, q2, q3, q4, q5⟩ := hq
  cases v with
  | agg cs => exact ⟨cs, fun w => by simp [zeroValue, typeInfo, hi, hz], q2, q3, q4, q5⟩
  | _ => cases q1
theorem zero85 : ∃ cs : Array Value, (∀ w, (zeroValue 85).run Yba.prog w = .ok (.agg cs) w) ∧ cs.size = 261 ∧ cs[64]? = some (.int .u64 0) ∧ cs[129]? = some (.int .u64 0) := by
  have h : ((Yba.prog.info? 85).bind (fun i => i.zero)).map (fun v => ((match v with | .agg _ => true | _ => false), v.cells.size, v.cells[64]?, v.cells[129]?)) = some (true, 261, some (.int .u64 0), some (.int .u64 0)) := by kernel_rfl
  obtain ⟨v, hv, hq⟩ := Option.map_eq_some_iff.1 h
  obtain ⟨i, hi, hz⟩ := Option.bind_eq_some_iff.1 hv
  simp only [Prod.mk.injEq] at hq
  obtain ⟨q1, q2, q3, q4⟩ := hq
  cases v with
  | agg cs => exact ⟨cs, fun w => by simp [zeroValue, typeInfo, hi, hz], q2, q3, q4⟩
  | _ => cases q1

def chRow (z : Array Value) : Array Value := (z.setIfInBounds 5 (.int .i64 2728)).setIfInBounds 6 (.int .u64 3)
def rvRow (z : Array Value) (C : Nat) : Array Value := z.setIfInBounds 194 (.pointer (some ⟨C, 0, none⟩))

/-- the segments and the chain, no rendezvous yet -/
structure Cst (w0 : World) (N nb : Nat) (p0 p1 : Option Addr) (w : World) : Prop where
  seg : ∀ i, i < nb → Seg w (sb N nb i) (st i) (cb N nb i) (ln i) (nx N nb nb i)
  ch : ChB w (N + 1 + 2 * nb) p0 p1
  row : ∀ k, k < nb → w.cell? ⟨N, k, none⟩ = some (.pointer (sp N nb k))
  size : w.heap.size = N + 2 + 2 * nb
  bel : Below N w0 w
theorem Cst.drew {w0 : World} {N nb : Nat} {p0 p1 : Option Addr} {w : World} (h : Cst w0 N nb p0 p1 w) : Cst w0 N nb p0 p1 w.drew := ⟨h.seg, h.ch, h.row, h.size, h.bel.drew⟩

theorem Bld.chain {w0 : World} {N nb : Nat} {w w' : World} (h : Bld w0 N nb nb w) (z : Array Value) (hz : z.size = 7) (z0 : z[0]? = some (.pointer none)) (z1 : z[1]? = some (.pointer none)) (z4 : z[4]? = some (.pointer none))
    (hw : w' = w.alloc (.cells (chRow z) 83)) : Cst w0 N nb none none w' := by
  have hs := h.size
  have hnew := heap_alloc_new w (.cells (chRow z) 83)
  rw [hs] at hnew
  have old : ∀ x, x < N + 1 + 2 * nb → w'.heap[x]? = w.heap[x]? := fun x hx => by rw [hw, Below.heap_alloc _ _ _ (by omega)]
  refine ⟨fun i hi => ?_, ⟨chRow z, by rw [hw]; exact hnew, by simp [chRow, hz], ?_, ?_, ?_, ?_, ?_⟩, fun k hk => ?_, by rw [hw]; simp; omega, by rw [hw]; exact h.bel.alloc (by omega) _⟩
  · have e := sb_old (N := N) hi
    exact (h.seg i hi).of_block (old _ (by omega))
  · unfold chRow; rw [sib_ne _ _ _ _ (by decide), sib_ne _ _ _ _ (by decide)]; exact z0
  · unfold chRow; rw [sib_ne _ _ _ _ (by decide), sib_ne _ _ _ _ (by decide)]; exact z1
  · unfold chRow; rw [sib_ne _ _ _ _ (by decide), sib_ne _ _ _ _ (by decide)]; exact z4
  · unfold chRow; rw [sib_ne _ _ _ _ (by decide), sib_same _ _ _ (by rw [hz]; decide)]
  · unfold chRow; rw [sib_same _ _ _ (by simp [hz])]
  · have r := (h.row.of_block (old N (by omega)) k hk).1
    rw [if_pos hk] at r
    exact r
theorem Cst.set0 {w0 : World} {N nb : Nat} {p0 p1 : Option Addr} {w w' : World} (h : Cst w0 N nb p0 p1 w) (q : Option Addr) (hw : w' = w.setCell ⟨N + 1 + 2 * nb, 0, none⟩ (.pointer q)) : Cst w0 N nb q p1 w' := by
  subst hw
  exact ⟨fun i hi => (h.seg i hi).of_block (Below.heap_setCell w ⟨N + 1 + 2 * nb, 0, none⟩ _ _ sb_ne_C), h.ch.set0 q, Chn.row_other h.row (by omega) _, by simpa using h.size, h.bel.setCell (p := ⟨N + 1 + 2 * nb, 0, none⟩) (by show N ≤ N + 1 + 2 * nb; omega) _⟩
theorem Cst.set1 {w0 : World} {N nb : Nat} {p0 p1 : Option Addr} {w w' : World} (h : Cst w0 N nb p0 p1 w) (q : Option Addr) (hw : w' = w.setCell ⟨N + 1 + 2 * nb, 1, none⟩ (.pointer q)) : Cst w0 N nb p0 q w' := by
  subst hw
  exact ⟨fun i hi => (h.seg i hi).of_block (Below.heap_setCell w ⟨N + 1 + 2 * nb, 1, none⟩ _ _ sb_ne_C), h.ch.set1 q, Chn.row_other h.row (by omega) _, by simpa using h.size, h.bel.setCell (p := ⟨N + 1 + 2 * nb, 1, none⟩) (by show N ≤ N + 1 + 2 * nb; omega) _⟩
theorem Cst.rv {w0 : World} {N nb hs hr : Nat} {w w' : World} (h : Cst w0 N nb (sp N nb hs) (sp N nb hr) w) (n1 : 1 ≤ nb) (hhs : hs < nb) (hhr : hr < nb) (z : Array Value) (hz : z.size = 261) (z0 : z[64]? = some (.int .u64 0)) (z1 : z[129]? = some (.int .u64 0))
    (hw : w' = w.alloc (.cells (rvRow z (N + 1 + 2 * nb)) 85)) : Chn w0 N nb nb hs hr 0 0 w' := by
  have hs' := h.size
  have hnew := heap_alloc_new w (.cells (rvRow z (N + 1 + 2 * nb)) 85)
  rw [hs'] at hnew
  have old : ∀ x, x < N + 2 + 2 * nb → w'.heap[x]? = w.heap[x]? := fun x hx => by rw [hw, Below.heap_alloc _ _ _ (by omega)]
  refine ⟨fun i hi => ?_, h.ch.of_block (old _ (by omega)), ⟨rvRow z (N + 1 + 2 * nb), by rw [hw]; exact hnew, by simp [rvRow, hz], ?_, ?_, ?_⟩, fun k hk => ?_, n1, Nat.le_refl _, hhs, hhr, by rw [hw]; simp; omega, by rw [hw]; exact h.bel.alloc (by omega) _⟩
  · have e := sb_old (N := N) hi
    exact (h.seg i hi).of_block (old _ (by omega))
  · unfold rvRow; rw [sib_ne _ _ _ _ (by decide)]; exact z0
  · unfold rvRow; rw [sib_ne _ _ _ _ (by decide)]; exact z1
  · unfold rvRow; rw [sib_same _ _ _ (by rw [hz]; decide)]
  · exact (World.cell?_of_block (w := w) (a := ⟨N, k, none⟩) (old N (by omega))).trans (h.row k hk)

end Go.Proofs.Ybulkecaq
