import Derived.Test.YbulkecaqRingAny
namespace Go.Proofs.Ybulkecaq
open Go.RowKit Go.Conc
set_option linter.unusedSimpArgs false
set_option linter.unusedVariables false

theorem setChan_other' (w : World) (c c' cap : Nat) (buf : Array Value) (closed : Bool) (s r : Nat) (tm : Bool) (h : c ≠ c') : (w.setChan c cap buf closed s r tm).heap[c']? = w.heap[c']? := by
  simp [World.setChan, Array.getElem?_setIfInBounds_ne h]

/-- a store into a channel's block turns no cell -/
theorem cell_setChan' (w : World) (c cap cap0 : Nat) (buf buf0 : Array Value) (closed closed0 : Bool) (s r s0 r0 : Nat) (tm tm0 : Bool) (h : w.heap[c]? = some (.chan cap0 buf0 closed0 s0 r0 tm0)) (a : Addr) :
    (w.setChan c cap buf closed s r tm).cell? a = w.cell? a := by
  by_cases hc : c = a.block
  · have hlt : c < w.heap.size := (Array.getElem?_eq_some_iff.1 h).1
    have h1 := heap_setChan w c cap buf closed s r tm hlt
    rw [hc] at h h1
    rw [hc]
    simp [World.cell?, h, h1]
  · exact World.cell?_of_block (w := w) (a := a) (setChan_other' w c a.block cap buf closed s r tm hc)
theorem frozen_setChan' (w : World) (c cap cap0 : Nat) (buf buf0 : Array Value) (closed closed0 : Bool) (s r s0 r0 : Nat) (tm tm0 : Bool) (h : w.heap[c]? = some (.chan cap0 buf0 closed0 s0 r0 tm0)) (a : Addr) :
    (w.setChan c cap buf closed s r tm).frozen? a = w.frozen? a := by
  by_cases hc : c = a.block
  · have hlt : c < w.heap.size := (Array.getElem?_eq_some_iff.1 h).1
    have h1 := heap_setChan w c cap buf closed s r tm hlt
    rw [hc] at h h1
    rw [hc]
    simp [World.frozen?, h, h1]
  · exact World.frozen?_of_block (w := w) (a := a) (setChan_other' w c a.block cap buf closed s r tm hc)

set_option maxHeartbeats 400000 in
set_option maxRecDepth 100000 in
theorem signal_any (b c : Nat) (w : World) (h3 : w.cell? ⟨b, 3, none⟩ = some (.chan (some c))) (hc : w.heap[c]? = some (.chan 1 #[] false 0 0 false)) :
    Calls Yba.prog 29 #[.pointer (some ⟨b, 0, none⟩)] w fun e w' => e = .returned (.tuple #[]) ∧ w' = w.setChan c 1 #[.agg #[]] false 1 0 false := by
  go_enter Yba.func29, Yba.ntmps29
  go_upto_region 0 with fail
  refine RW_region ?_
  simp only [List.size_toArray, List.length_cons, List.length_nil, Nat.reduceAdd, Nat.zero_add, List.range, List.range.loop]
  iterate 5 (refine RW_k rfl rfl (fun K hK => ?_); go_simp; refine hK _ _ ?_; clear hK K)
  refine RW_send_at (c := c) (cap := 1) (buf := #[]) (s := 0) (r := 0) (tm := false) (v := .agg #[]) (z := .tuple #[]) (w' := w) rfl rfl (by simp [execOp, scase, Act.eval]) hc (by simp) ?_
  intro W hW
  refine RW_nil ?_
  walk_nrm
  go_wp2
  go_end0
  exact ⟨rfl, hW.out⟩

set_option maxHeartbeats 400000 in
set_option maxRecDepth 100000 in
theorem wake_any (b bp wb c p m I n : Nat) (w : World) (hI : I < n) (hn2 : n ≤ 64) (hp2 : bits .and .u64 (p : Int) (m : Int) = (I : Int)) (hne : bp ≠ b) (hnw : bp ≠ wb) (hnc : bp ≠ c)
    (c197 : w.cell? ⟨b, 197, none⟩ = some (.int .u64 (m : Int))) (c201 : w.cell? ⟨b, 201, none⟩ = some (.slice (some ⟨bp, 0, none⟩) n n)) (cp : w.cell? ⟨bp, I, none⟩ = some (.pointer (some ⟨wb, 0, none⟩))) (fp : w.frozen? ⟨bp, I, none⟩ = false)
    (h3 : w.cell? ⟨wb, 3, none⟩ = some (.chan (some c))) (hc : w.heap[c]? = some (.chan 1 #[] false 0 0 false)) :
    Calls Yba.prog 21 #[.pointer (some ⟨b, 0, none⟩), .int .u64 (p : Int)] w fun e w' => e = .returned (.tuple #[]) ∧ w' = (w.setCell ⟨bp, I, none⟩ (.pointer none)).setChan c 1 #[.agg #[]] false 1 0 false := by
  have hI2 : (I : Int) < (n : Int) := by omega
  have g3 : (w.setCell ⟨bp, I, none⟩ (.pointer none)).cell? ⟨wb, 3, none⟩ = some (.chan (some c)) := by
    rw [World.cell?_setCell_other w ⟨bp, I, none⟩ ⟨wb, 3, none⟩ _ (fun h => hnw (by injection h))]; exact h3
  have gc : (w.setCell ⟨bp, I, none⟩ (.pointer none)).heap[c]? = some (.chan 1 #[] false 0 0 false) := by
    rw [Below.heap_setCell w ⟨bp, I, none⟩ _ c (fun h => hnc h.symm)]; exact hc
  go_enter Yba.func21, Yba.ntmps21
  go_wp2_with fail
  refine (signal_any wb c _ g3 gc).mono ?_
  rintro e W ⟨rfl, hW⟩
  go_wp2_with fail
  go_end0
  exact ⟨rfl, rfl⟩

end Go.Proofs.Ybulkecaq
