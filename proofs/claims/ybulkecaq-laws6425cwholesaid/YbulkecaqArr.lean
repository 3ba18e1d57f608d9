import Derived.Test.YbulkecaqPast2
namespace Go.Proofs.Ybulkecaq
open Go.RowKit Go.Conc
set_option linter.unusedSimpArgs false
set_option linter.unusedVariables false

/-- block b is a row of n cells that may be written; cell i holds f i -/
def Arr (b n : Nat) (f : Nat → Value) (w : World) : Prop := ∀ i, i < n → w.cell? ⟨b, i, none⟩ = some (f i) ∧ w.frozen? ⟨b, i, none⟩ = false

theorem Arr.of_block {b n : Nat} {f : Nat → Value} {w w' : World} (h : Arr b n f w) (hb : w'.heap[b]? = w.heap[b]?) : Arr b n f w' := fun i hi =>
  ⟨(World.cell?_of_block (w := w) (a := ⟨b, i, none⟩) hb).trans (h i hi).1, (World.frozen?_of_block (w := w) (a := ⟨b, i, none⟩) hb).trans (h i hi).2⟩
theorem Arr.drewN {b n : Nat} {f : Nat → Value} {w : World} (h : Arr b n f w) (m : Nat) : Arr b n f (w.drewN m) := h
theorem Arr.set {b n : Nat} {f : Nat → Value} {w : World} (h : Arr b n f w) (i : Nat) (hi : i < n) (v : Value) : Arr b n (upd f i v) (w.setCell ⟨b, i, none⟩ v) := fun j hj => by
  by_cases e : j = i
  · subst e
    rw [upd_same]
    exact ⟨World.cell?_setCell_same _ _ _ (h j hj).1, by rw [World.frozen?_setCell]; exact (h j hj).2⟩
  · rw [upd_other _ _ e]
    exact ⟨(World.cell?_setCell_other w ⟨b, i, none⟩ ⟨b, j, none⟩ _ (fun h => e (by injection h with _ h2; exact h2.symm))).trans (h j hj).1, by rw [World.frozen?_setCell]; exact (h j hj).2⟩
theorem Arr.set_other {b n : Nat} {f : Nat → Value} {w : World} (h : Arr b n f w) (a : Addr) (v : Value) (hb : b ≠ a.block) : Arr b n f (w.setCell a v) := h.of_block (Below.heap_setCell w a v b hb)
theorem Arr.alloc {b n : Nat} {f : Nat → Value} {w : World} (h : Arr b n f w) (o : Obj) (hb : b < w.heap.size) : Arr b n f (w.alloc o) := h.of_block (Below.heap_alloc w o b hb)
theorem Arr.congr {b n : Nat} {f g : Nat → Value} {w : World} (h : Arr b n f w) (e : ∀ i, i < n → f i = g i) : Arr b n g w := fun i hi => by rw [← e i hi]; exact h i hi

theorem arr_new (w : World) (z : Array Value) (m : Nat) (e : TypeId) (f : Nat → Value) (hz : 0 < z.size) (hf : ∀ i, i < m → z[i % z.size]! = f i) : Arr w.heap.size m f (w.alloc (.cells (madeCells z m) e)) := fun i hi => by
  refine ⟨?_, by simp⟩
  rw [cell_of_row _ _ _ _ _ _ (heap_alloc_new w _)]
  simp [madeCells, hi, hf]

theorem info26 : (Yba.prog.info? 26).map (fun i => (i.zero, i.size, i.bytes)) = some (some (.int .u64 0), 1, 8) := by kernel_rfl
theorem info4 : (Yba.prog.info? 4).map (fun i => (i.zero, i.size, i.bytes)) = some (some (.bool false), 1, 1) := by kernel_rfl
theorem info38 : (Yba.prog.info? 38).map (fun i => (i.zero, i.size, i.bytes)) = some (some (.agg #[.int .u64 0, .int .i64 0]), 2, 16) := by kernel_rfl
theorem info40 : (Yba.prog.info? 40).map (fun i => (i.zero, i.size, i.bytes)) = some (some (.pointer none), 1, 8) := by kernel_rfl
theorem size26 : (Yba.prog.info? 26).map (fun i => i.size) = some 1 := by kernel_rfl

def zU (n : Nat) : Array Value := madeCells (Value.int .u64 0).cells (n * 1)
def zB (n : Nat) : Array Value := madeCells (Value.bool false).cells (n * 1)
def zC (n : Nat) : Array Value := madeCells (Value.agg #[.int .u64 0, .int .i64 0]).cells (n * 2)
def zP (n : Nat) : Array Value := madeCells (Value.pointer none).cells (n * 1)

theorem mkU (w : World) (n : Nat) (hn : n ≤ 64) : (Instr.makeSlice 25 (.int .i64 (n : Int)) (.int .i64 (n : Int))).run Yba.prog w = .ok (.slice (some ⟨w.heap.size, 0, none⟩) n n) (w.alloc (.cells (zU n) 26)) := by
  obtain ⟨i, hi, hz, hs, hb⟩ := info_parts info26
  rw [run_make (P := Yba.prog) w 25 26 i _ Yba.underlying25 hi hz .i64 .i64 (n : Int) (n : Int) (by omega) (by omega) (by rw [hb]; omega) (by omega), hs]
  simp [zU]
theorem mkB (w : World) (n : Nat) (hn : n ≤ 64) : (Instr.makeSlice 29 (.int .i64 (n : Int)) (.int .i64 (n : Int))).run Yba.prog w = .ok (.slice (some ⟨w.heap.size, 0, none⟩) n n) (w.alloc (.cells (zB n) 4)) := by
  obtain ⟨i, hi, hz, hs, hb⟩ := info_parts info4
  rw [run_make (P := Yba.prog) w 29 4 i _ Yba.underlying29 hi hz .i64 .i64 (n : Int) (n : Int) (by omega) (by omega) (by rw [hb]; omega) (by omega), hs]
  simp [zB]
theorem mkC (w : World) (n : Nat) (hn : n ≤ 64) : (Instr.makeSlice 30 (.int .i64 (n : Int)) (.int .i64 (n : Int))).run Yba.prog w = .ok (.slice (some ⟨w.heap.size, 0, none⟩) n n) (w.alloc (.cells (zC n) 38)) := by
  obtain ⟨i, hi, hz, hs, hb⟩ := info_parts info38
  rw [run_make (P := Yba.prog) w 30 38 i _ Yba.underlying30 hi hz .i64 .i64 (n : Int) (n : Int) (by omega) (by omega) (by rw [hb]; omega) (by omega), hs]
  simp [zC]
theorem mkP (w : World) (n : Nat) (hn : n ≤ 64) : (Instr.makeSlice 31 (.int .i64 (n : Int)) (.int .i64 (n : Int))).run Yba.prog w = .ok (.slice (some ⟨w.heap.size, 0, none⟩) n n) (w.alloc (.cells (zP n) 40)) := by
  obtain ⟨i, hi, hz, hs, hb⟩ := info_parts info40
  rw [run_make (P := Yba.prog) w 31 40 i _ Yba.underlying31 hi hz .i64 .i64 (n : Int) (n : Int) (by omega) (by omega) (by rw [hb]; omega) (by omega), hs]
  simp [zP]

theorem arrU (w : World) (n : Nat) : Arr w.heap.size n (fun _ => .int .u64 0) (w.alloc (.cells (zU n) 26)) := by
  have := arr_new w (Value.int .u64 0).cells (n * 1) 26 (fun _ => .int .u64 0) (by simp [Value.cells]) (fun i _ => by simp [Value.cells, Nat.mod_one])
  exact fun i hi => this i (by omega)
theorem arrB (w : World) (n : Nat) : Arr w.heap.size n (fun _ => .bool false) (w.alloc (.cells (zB n) 4)) := by
  have := arr_new w (Value.bool false).cells (n * 1) 4 (fun _ => .bool false) (by simp [Value.cells]) (fun i _ => by simp [Value.cells, Nat.mod_one])
  exact fun i hi => this i (by omega)
theorem arrP (w : World) (n : Nat) : Arr w.heap.size n (fun _ => .pointer none) (w.alloc (.cells (zP n) 40)) := by
  have := arr_new w (Value.pointer none).cells (n * 1) 40 (fun _ => .pointer none) (by simp [Value.cells]) (fun i _ => by simp [Value.cells, Nat.mod_one])
  exact fun i hi => this i (by omega)
theorem arrC (w : World) (n : Nat) : Arr w.heap.size (n * 2) (fun o => if o % 2 = 0 then .int .u64 0 else .int .i64 0) (w.alloc (.cells (zC n) 38)) := by
  refine arr_new w (Value.agg #[.int .u64 0, .int .i64 0]).cells (n * 2) 38 _ (by simp [Value.cells]) (fun i _ => ?_)
  rcases (by omega : i % 2 = 0 ∨ i % 2 = 1) with h | h
  · simp [Value.cells, h]
  · simp [Value.cells, h]

/-- 'copy(exp, turns)', exp just made: the world behind it a letter -/
theorem cpU (w : World) (b n : Nat) (f : Nat → Value) (hf : ∀ i, i < n → ∃ x, f i = .int .u64 x) (h : Arr b n f w) (hb : b < w.heap.size) : ∃ cs : Array Value,
    (∀ ty, (Builtin.copy_ #[25, 25] ty #[.slice (some ⟨w.heap.size, 0, none⟩) n n, .slice (some ⟨b, 0, none⟩) n n]).run Yba.prog (w.alloc (.cells (zU n) 26)) = .ok (goInt n) (w.alloc (.cells cs 26))) ∧
    Arr w.heap.size n f (w.alloc (.cells cs 26)) := by
  refine ⟨((List.range n).map f).toArray, fun ty => ?_, fun i hi => ⟨?_, by simp⟩⟩
  · have hsz : (zU n).size = n := by simp [zU, size_madeCells]
    have hl : ((List.range n).map f).length = n := by simp
    have := run_copy_row (P := Yba.prog) (w.alloc (.cells (zU n) 26)) 25 25 ty 26 w.heap.size 0 n n ⟨b, 0, none⟩ n n (zU n) 26 ((List.range n).map f) Yba.underlying25 size26
      (heap_alloc_new w _) (by simp) (fun j v hj => by
        have hjn : j < n := by
          rcases Nat.lt_or_ge j n with h' | h'
          · exact h'
          · rw [List.getElem?_eq_none (by omega)] at hj; cases hj
        have e : (⟨b, 0, none⟩ : Addr).add j = ⟨b, j, none⟩ := by unfold Addr.add; split <;> simp_all
        rw [e, World.cell?_of_block (w := w) (a := ⟨b, j, none⟩) (Below.heap_alloc w _ b hb), (h j hjn).1]
        rw [List.getElem?_map, List.getElem?_range hjn] at hj
        exact hj) (by rw [hl, hsz]; omega) (fun v hv => by
        simp only [List.mem_map, List.mem_range] at hv
        obtain ⟨a, ha, rfl⟩ := hv
        obtain ⟨x, hx⟩ := hf a ha
        rw [hx]; rfl)
    have e2 : ((zU n).toList.take 0 ++ (List.range n).map f ++ (zU n).toList.drop (0 + ((List.range n).map f).length)).toArray = ((List.range n).map f).toArray := by
      rw [List.take_zero, List.drop_of_length_le (by rw [Array.length_toList, hsz, hl]; omega)]
      simp
    have e3 : ∀ (w : World) (z c : Array Value) (t : TypeId), (w.alloc (.cells z t)).setRow w.heap.size c = w.alloc (.cells c t) := by
      intro w z c t
      unfold World.setRow World.alloc
      simp only [World.mk.injEq, and_true]
      apply Array.ext
      · simp
      · intro i h1 h2
        simp only [Array.getElem_modify]
        split
        · rename_i hk
          subst hk
          simp
        · rename_i hk
          have : i < w.heap.size := by simp at h2; omega
          simp [Array.getElem_push, this]
    rw [this, e3, e2, hl]
  · rw [cell_of_row _ _ _ _ _ _ (heap_alloc_new w _)]
    simp [hi]

end Go.Proofs.Ybulkecaq
