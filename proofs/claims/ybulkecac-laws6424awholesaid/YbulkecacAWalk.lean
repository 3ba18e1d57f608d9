import Derived.Test.YbulkecacBase
import Derived.Deep.QuietTactic
import Derived.BigQuiet
namespace Go.Proofs.Ybulkecac
open Go.RowKit
set_option linter.unusedSimpArgs false
set_option linter.unusedVariables false

/-- the copy and the argument read as one text in every later world -/
theorem conv_both (w w2 w3 : World) (x : Addr) (n cap : Nat) (zs : List Int) (hn : n ≤ zs.length) (hlt : 0 < n → x.block < w.heap.size)
    (hc : ∀ i, i < zs.length → w.cell? (x.add i) = some (.int .u8 (zs.getD i 0)))
    (hb2 : Below (w.heap.size + 1) (w.alloc (.cells (cpCells zs n) 5)) w2) (hb3 : Below (w.heap.size + 1) w2 w3) :
    (convert 22 9 (.slice (some x) n cap)).run Yba.prog w3 = .ok (.string (strOfNums (zs.take n))) w3 ∧
    (convert 22 9 (.slice (some ⟨w.heap.size, 0, none⟩) n n)).run Yba.prog w3 = .ok (.string (strOfNums (zs.take n))) w3 := by
  have hB := hb2.trans hb3
  constructor
  · refine conv_row w3 x n cap zs hn fun i hi => ?_
    have hl := hlt (by omega)
    rw [hB.cell (by rw [add_block]; omega), World.cell?_of_block (w := w) (Below.heap_alloc w _ _ (by rw [add_block]; omega)), hc i (by omega)]
  · refine conv_row w3 _ n n zs hn fun i hi => ?_
    rw [hB.cell (by rw [add_block]; simp), cell_cp w zs n hn i hi]

set_option maxHeartbeats 400000 in
set_option maxRecDepth 100000 in
theorem a_pos (short : Bool) (x : Addr) (n cap : Nat) (zs : List Int) (w : World) (hn : n ≤ zs.length) (hb : n ≤ 140737488351232) (hpos : 0 < n)
    (hc : ∀ i, i < zs.length → w.cell? (x.add i) = some (.int .u8 (zs.getD i 0))) :
    Calls Yba.prog 3 #[.slice (some x) n cap, .bool short] w fun e w' => e = .returned (.bool true) ∧ Below w.heap.size w w' := by
  have hmk := run_mk w n hb
  have hlt : x.block < w.heap.size := by have := lt_of_cell (hc 0 (by omega)); rwa [add_block] at this
  have hcp := run_cp w x n cap zs hn (.inr hlt) hc
  have HC : Hid (∀ i, i < zs.length → w.cell? (x.add i) = some (.int .u8 (zs.getD i 0))) := hc
  clear hc
  have hnn : ((n : Int) == 0) = false := by simp; omega
  have hnp : decide (0 < (n : Int)) = true := by simp; omega
  have hsn := fun (w : World) (a : Option Addr) (n c n' c' : Nat) => Lib.run_eql_slice_nil (P := Yba.prog) w 22 5 a n c n' c' Yba.underlying22
  have hps := neq_same
  cases short
  all_goals
    go_enter Yba.func3, Yba.ntmps3
    go_wp2_with fail
    clear hmk hcp
    refine (done_bad _ (w.heap.size + 1) (some x) n cap _ (by simp; rfl) (by simp) (by first | exact .inr hpos | exact .inl rfl)).mono ?_
    rintro e w3 ⟨q, rfl, hb3⟩
    have hc1 := hb3.cell (p := ⟨w.heap.size + 1, 1, none⟩) (by simp)
    have hc0 := hb3.cell (p := ⟨w.heap.size + 1, 0, none⟩) (by simp)
    simp at hc1 hc0
    go_wp2_with fail
    go_quiet (fail)
    go_wp2_with fail
    have hcv := conv_both w _ (w3.drewN nq) x n cap zs hn (fun _ => hlt) HC.out ((Below.refl _ _).alloc (by simp) _) (below_drewN (hb3.mono (by simp)) nq)
    have hB : Below w.heap.size w (w3.drewN nq) := below_drewN ((((Below.refl _ _).alloc (Nat.le_refl _) _).alloc (by simp) _).trans (hb3.mono (by simp; omega))) nq
    refine (equal_same _ _ _ _ hcv.1 hcv.2).mono ?_
    rintro e w4 ⟨rfl, rfl⟩
    clear hcv
    go_wp2_with fail
    go_ret
    exact ⟨rfl, hB⟩

set_option maxHeartbeats 400000 in
set_option maxRecDepth 100000 in
theorem a_zero (short : Bool) (x : Addr) (cap : Nat) (zs : List Int) (w : World)
    (hc : ∀ i, i < zs.length → w.cell? (x.add i) = some (.int .u8 (zs.getD i 0))) :
    Calls Yba.prog 3 #[.slice (some x) 0 cap, .bool short] w fun e w' => e = .returned (.bool true) ∧ Below w.heap.size w w' := by
  have hmk : (Instr.makeSlice 22 (.int .i64 0) (.int .i64 0)).run Yba.prog w = .ok (.slice (some ⟨w.heap.size, 0, none⟩) 0 0) (w.alloc (.cells (zeros 0) 5)) := run_mk w 0 (by omega)
  have hcp := run_cp w x 0 cap zs (by omega) (.inl rfl) hc
  have HC : Hid (∀ i, i < zs.length → w.cell? (x.add i) = some (.int .u8 (zs.getD i 0))) := hc
  clear hc
  have hsn := fun (w : World) (a : Option Addr) (n c n' c' : Nat) => Lib.run_eql_slice_nil (P := Yba.prog) w 22 5 a n c n' c' Yba.underlying22
  cases short
  · go_enter Yba.func3, Yba.ntmps3
    go_wp2_with fail
    clear hmk hcp
    refine (done_ok (w.heap.size + 1) (some x) cap _ (by simp) (by simp)).mono ?_
    rintro e w3 ⟨rfl, rfl⟩
    go_wp2_with fail
    go_quiet (fail)
    go_wp2_with fail
    have hB3 : Below (w.heap.size + 1) (w.alloc (.cells (cpCells zs 0) 5)) (((w.alloc (.cells (cpCells zs 0) 5)).alloc (.cells #[.slice (some x) 0 cap, .bool false] 25)).drewN nq) := below_drewN ((Below.refl _ _).alloc (by simp) _) nq
    have hcv := conv_both w _ _ x 0 cap zs (by omega) (fun h => by omega) HC.out (Below.refl _ _) hB3
    have hB := ((Below.refl w.heap.size w).alloc (Nat.le_refl _) (.cells (cpCells zs 0) 5)).trans (hB3.mono (by omega))
    refine (equal_same _ _ _ _ hcv.1 hcv.2).mono ?_
    rintro e w4 ⟨rfl, rfl⟩
    clear hcv
    go_wp2_with fail
    go_ret
    exact ⟨rfl, hB⟩
  · go_enter Yba.func3, Yba.ntmps3
    go_wp2_with fail
    clear hmk hcp
    refine (done_bad true (w.heap.size + 1) (some x) 0 cap _ (by simp) (by simp) (.inl rfl)).mono ?_
    rintro e w3 ⟨q, rfl, hb3⟩
    have hc1 := hb3.cell (p := ⟨w.heap.size + 1, 1, none⟩) (by simp)
    have hc0 := hb3.cell (p := ⟨w.heap.size + 1, 0, none⟩) (by simp)
    simp at hc1 hc0
    go_wp2_with fail
    go_quiet (fail)
    go_wp2_with fail
    have hcv := conv_both w _ (w3.drewN nq) x 0 cap zs (by omega) (fun h => by omega) HC.out ((Below.refl _ _).alloc (by simp) _) (below_drewN (hb3.mono (by simp)) nq)
    have hB : Below w.heap.size w (w3.drewN nq) := below_drewN ((((Below.refl _ _).alloc (Nat.le_refl _) _).alloc (by simp) _).trans (hb3.mono (by simp; omega))) nq
    refine (equal_same _ _ _ _ hcv.1 hcv.2).mono ?_
    rintro e w4 ⟨rfl, rfl⟩
    clear hcv
    go_wp2_with fail
    go_ret
    exact ⟨rfl, hB⟩

set_option maxHeartbeats 400000 in
set_option maxRecDepth 100000 in
theorem a_nil (short : Bool) (w : World) :
    Calls Yba.prog 3 #[.slice none 0 0, .bool short] w fun e w' => e = .returned (.bool true) ∧ Below w.heap.size w w' := by
  have hsn := fun (w : World) (a : Option Addr) (n c n' c' : Nat) => Lib.run_eql_slice_nil (P := Yba.prog) w 22 5 a n c n' c' Yba.underlying22
  cases short
  · go_enter Yba.func3, Yba.ntmps3
    go_wp2_with fail
    refine (done_ok w.heap.size none 0 _ (by simp) (by simp)).mono ?_
    rintro e w3 ⟨rfl, rfl⟩
    go_wp2_with fail
    go_quiet (fail)
    go_wp2_with fail
    refine (equal_same _ _ _ _ (conv_nil _ 0 0) (conv_nil _ 0 0)).mono ?_
    rintro e w4 ⟨rfl, rfl⟩
    go_wp2_with fail
    go_ret
    exact ⟨rfl, below_drewN ((Below.refl _ _).alloc (Nat.le_refl _) _) nq⟩
  · go_enter Yba.func3, Yba.ntmps3
    go_wp2_with fail
    refine (done_bad true w.heap.size none 0 0 _ (by simp) (by simp) (.inl rfl)).mono ?_
    rintro e w3 ⟨q, rfl, hb3⟩
    have hc1 := hb3.cell (p := ⟨w.heap.size, 1, none⟩) (by simp)
    have hc0 := hb3.cell (p := ⟨w.heap.size, 0, none⟩) (by simp)
    simp at hc1 hc0
    go_wp2_with fail
    go_quiet (fail)
    go_wp2_with fail
    have hB : Below w.heap.size w (w3.drewN nq) := below_drewN (((Below.refl _ _).alloc (Nat.le_refl _) _).trans (hb3.mono (by simp))) nq
    refine (equal_same _ _ _ _ (conv_nil _ 0 0) (conv_nil _ 0 0)).mono ?_
    rintro e w4 ⟨rfl, rfl⟩
    go_wp2_with fail
    go_ret
    exact ⟨rfl, hB⟩

theorem a_walk (a0 : Option Addr) (n cap : Nat) (zs : List Int) (short : Bool) (w : World) (h : IsRow .u8 w a0 n cap zs) :
    Calls Yba.prog 3 #[.slice a0 n cap, .bool short] w fun e w' => e = .returned (.bool true) ∧ Below w.heap.size w w' := by
  rcases h with ⟨rfl, rfl, rfl, rfl⟩ | ⟨x, rfl, hl, hb, hz, hc, _⟩
  · exact a_nil short w
  · rcases Nat.eq_zero_or_pos n with rfl | hpos
    · exact a_zero short x cap zs w hc
    · exact a_pos short x n cap zs w (by omega) (by omega) hpos hc

end Go.Proofs.Ybulkecac
