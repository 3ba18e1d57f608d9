import Derived.Test.YbulkecacBase
import Derived.Deep.QuietTactic
import Derived.BigQuiet
import Derived.Deep.LoopGhost
import Derived.Maps.AppendAt
import Derived.Sort.WalkA
namespace Go.Proofs.Ybulkecac
open Go.RowKit Go.Sort
set_option linter.unusedSimpArgs false
set_option linter.unusedVariables false

/-- cmp.isNaN at int32: never. -/
theorem nan_ (x : Int) (w : World) : Calls Yba.prog 26 #[.int .i32 x] w fun e w' => e = .returned (.bool false) ∧ w' = w := by
  go_enter Yba.func26, Yba.ntmps26
  go_wp2
  go_ret
  exact ⟨rfl, rfl⟩

/-- cmp.Less at int32. -/
theorem less_ (x y : Int) (w : World) : Calls Yba.prog 33 #[.int .i32 x, .int .i32 y] w fun e w' => e = .returned (.bool (ltInt x y)) ∧ w' = w := by
  go_enter Yba.func33, Yba.ntmps33
  go_wp2_with (go_at_call 26; refine (nan_ _ _).mono ?_; rintro e w' ⟨rfl, rfl⟩)
  go_ret
  exact ⟨by unfold ltInt; rfl, rfl⟩

/-- Inside the sort of the row at ⟨blk, off⟩, of a world w0: the row holds d; no block of w0's but the row's has been turned. -/
structure SI (w0 : World) (blk off : Nat) (d : Array Int) (W : World) : Prop where
  cell : ∀ i, i < d.size → W.cell? ⟨blk, off + i, none⟩ = some (.int .i32 d[i]!)
  froz : ∀ i, i < d.size → W.frozen? ⟨blk, off + i, none⟩ = false
  kept : w0.grownBy W (some blk)
  blk0 : blk < w0.heap.size

namespace SI
variable {w0 W : World} {blk off : Nat} {d : Array Int}

theorem lt (h : SI w0 blk off d W) : blk < W.heap.size := Nat.lt_of_lt_of_le h.blk0 h.kept.size

theorem drewN (h : SI w0 blk off d W) (n : Nat) : SI w0 blk off d (W.drewN n) :=
  ⟨h.cell, h.froz, h.kept.trans ⟨rfl, rfl, rfl, Nat.le_refl _, fun _ _ _ => rfl⟩, h.blk0⟩

theorem drew (h : SI w0 blk off d W) : SI w0 blk off d W.drew :=
  ⟨h.cell, h.froz, h.kept.trans ⟨rfl, rfl, rfl, Nat.le_refl _, fun _ _ _ => rfl⟩, h.blk0⟩

theorem alloc (h : SI w0 blk off d W) (o : Obj) : SI w0 blk off d (W.alloc o) := by
  have hl := h.lt
  have hb : (W.alloc o).heap[blk]? = W.heap[blk]? := (World.grownBy_alloc W o none).block blk hl (by simp)
  exact ⟨fun i hi => (World.cell?_of_block hb).trans (h.cell i hi), fun i hi => (World.frozen?_of_block hb).trans (h.froz i hi), h.kept.trans (World.grownBy_alloc W o _), h.blk0⟩

/-- a store into a block that is new against w0 -/
theorem setNew (h : SI w0 blk off d W) (c o : Nat) (v : Value) (hc : w0.heap.size ≤ c) : SI w0 blk off d (W.setCell ⟨c, o, none⟩ v) := by
  have hne : c ≠ blk := by have := h.blk0; omega
  refine ⟨fun i hi => ?_, fun i hi => ?_, ⟨?_, ?_, ?_, ?_, fun k hk hk' => ?_⟩, h.blk0⟩
  · rw [World.cell?_setCell_other _ _ _ _ (by intro e; simp only [Addr.mk.injEq] at e; exact hne e.1)]; exact h.cell i hi
  · rw [World.frozen?_setCell]; exact h.froz i hi
  · rw [← h.kept.os]; rfl
  · rw [← h.kept.tape]; rfl
  · rw [← h.kept.output]; rfl
  · have := h.kept.size; simpa using this
  · rw [← h.kept.block k hk hk']; exact heap_setCell_other _ _ _ _ (by show k ≠ c; omega)

theorem swap (h : SI w0 blk off d W) (i j : Nat) (hi : i < d.size) (hj : j < d.size) :
    SI w0 blk off (swp d i j) ((W.setCell ⟨blk, off + i, none⟩ (.int .i32 d[j]!)).setCell ⟨blk, off + j, none⟩ (.int .i32 d[i]!)) := by
  have ci := h.cell i hi
  have cj := h.cell j hj
  refine ⟨fun k hk => ?_, fun k hk => ?_, ⟨?_, ?_, ?_, ?_, fun k hk hk' => ?_⟩, h.blk0⟩
  · rw [size_swp] at hk
    by_cases e1 : k = j
    · subst e1
      rw [swp_right d i k hk]
      refine World.cell?_setCell_same' _ _ _ ?_
      by_cases e2 : k = i
      · subst e2; rw [World.cell?_setCell_same _ _ _ ci]; rfl
      · rw [World.cell?_setCell_other _ _ _ _ (by intro e; simp only [Addr.mk.injEq] at e; omega), cj]; rfl
    · rw [World.cell?_setCell_other _ _ _ _ (by intro e; simp only [Addr.mk.injEq] at e; omega)]
      by_cases e2 : k = i
      · subst e2; rw [swp_left d k j hk e1]; exact World.cell?_setCell_same' _ _ _ (by rw [ci]; rfl)
      · rw [swp_other d i j k e2 e1, World.cell?_setCell_other _ _ _ _ (by intro e; simp only [Addr.mk.injEq] at e; omega)]; exact h.cell k hk
  · rw [size_swp] at hk; rw [World.frozen?_setCell, World.frozen?_setCell]; exact h.froz k hk
  · rw [← h.kept.os]; rfl
  · rw [← h.kept.tape]; rfl
  · rw [← h.kept.output]; rfl
  · have := h.kept.size; simpa using this
  · rw [← h.kept.block k hk hk', heap_setCell_other _ _ _ _ (by intro e; exact hk' (by rw [e])), heap_setCell_other _ _ _ _ (by intro e; exact hk' (by rw [e]))]

/-- behind the first store of an exchange the second place still holds something -/
theorem cell2 (h : SI w0 blk off d W) (i j : Nat) (hi : i < d.size) (hj : j < d.size) (v : Value) :
    ∃ u, (W.setCell ⟨blk, off + i, none⟩ v).cell? ⟨blk, off + j, none⟩ = some u := by
  by_cases e : i = j
  · subst e; exact ⟨v, World.cell?_setCell_same _ _ _ (h.cell i hi)⟩
  · exact ⟨_, (World.cell?_setCell_other _ _ _ _ (by intro e'; simp only [Addr.mk.injEq] at e'; omega)).trans (h.cell j hj)⟩

end SI
end Go.Proofs.Ybulkecac
