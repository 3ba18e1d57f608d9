import Derived.Test.YbulkecaqComm
import Derived.Deep.Cut
namespace Go.Proofs.Ybulkecaq
open Go.RowKit Go.Conc
set_option linter.unusedSimpArgs false
set_option linter.unusedVariables false

theorem res_rr1 (a b : Nat) (z z' v : Value) (ok : Bool) : commResult #[rcase a z, rcase b z'] .select ((1 : Nat) : Int) v ok = .tuple #[goInt 1, .bool ok, z, v] := by
  simp [commResult, rcase, List.zipIdx_cons]
theorem res_rr0 (a b : Nat) (z z' v : Value) (ok : Bool) : commResult #[rcase a z, rcase b z'] .select ((0 : Nat) : Int) v ok = .tuple #[goInt 0, .bool ok, v, z'] := by
  simp [commResult, rcase, List.zipIdx_cons]

theorem eql_chan (w : World) (c : Option Nat) : (binOp .eql 105 (.chan c) (.chan none)).run Yba.prog w = .ok (.bool c.isNone) w := by
  cases c <;> kernel_rfl

set_option maxHeartbeats 400000 in
set_option maxRecDepth 100000 in
theorem wait_nil (b c : Nat) (w : World) (h3 : w.cell? ⟨b, 3, none⟩ = some (.chan (some c))) (hc : w.heap[c]? = some (.chan 1 #[.agg #[]] false 1 0 false)) :
    Calls Yba.prog 10 #[.pointer (some ⟨b, 0, none⟩), .chan none] w fun e w' => e = .returned (.bool true) ∧ w' = w.setChan c 1 #[] false 1 1 false := by
  have hq := eql_chan
  go_enter Yba.func10, Yba.ntmps10
  go_upto_region 2 with fail
  refine RW_region ?_
  simp only [List.size_toArray, List.length_cons, List.length_nil, Nat.reduceAdd, Nat.zero_add, List.range, List.range.loop]
  iterate 4 (refine RW_k rfl rfl (fun K hK => ?_); go_simp; refine hK _ _ ?_; clear hK K)
  refine RW_recv (c := c) (z := .agg #[]) (cap := 1) (buf := #[.agg #[]]) (s := 1) (r := 0) (tm := false) (closed := false) (w' := w) rfl rfl (by simp [go_sem, execOp, rcase, Act.eval]) hc (by simp) ?_
  refine RW_nil ?_
  walk_nrm
  go_wp2
  go_ret
  exact ⟨rfl, rfl⟩

theorem setChan_other (w : World) (c c' cap : Nat) (buf : Array Value) (closed : Bool) (s r : Nat) (tm : Bool) (h : c ≠ c') : (w.setChan c cap buf closed s r tm).heap[c']? = w.heap[c']? := by
  simp [World.setChan, Array.getElem?_setIfInBounds_ne h]

theorem cell_setChan (w : World) (c b o cap : Nat) (buf : Array Value) (closed : Bool) (s r : Nat) (tm : Bool) (h : c ≠ b) : (w.setChan c cap buf closed s r tm).cell? ⟨b, o, none⟩ = w.cell? ⟨b, o, none⟩ :=
  World.cell?_of_block (w := w) (a := ⟨b, o, none⟩) (setChan_other w c b cap buf closed s r tm h)

set_option maxHeartbeats 400000 in
set_option maxRecDepth 100000 in
/-- woken holds the signal, done is open and empty -/
theorem wait_sel0 (b c d : Nat) (cap : Nat) (w : World) (h3 : w.cell? ⟨b, 3, none⟩ = some (.chan (some c))) (hc : w.heap[c]? = some (.chan 1 #[.agg #[]] false 1 0 false)) (hd : w.heap[d]? = some (.chan cap #[] false 0 0 false)) :
    Calls Yba.prog 10 #[.pointer (some ⟨b, 0, none⟩), .chan (some d)] w fun e w' => e = .returned (.bool true) ∧ w' = w.setChan c 1 #[] false 1 1 false := by
  have hq := eql_chan
  go_enter Yba.func10, Yba.ntmps10
  go_upto_region 6 with fail
  refine RW_region ?_
  simp only [List.size_toArray, List.length_cons, List.length_nil, Nat.reduceAdd, Nat.zero_add, List.range, List.range.loop]
  refine RW_sel_buf (cases := #[rcase c (.agg #[]), rcase d (.agg #[])]) (m := 0) (c := c) (z := .agg #[]) (cap := 1) (buf := #[.agg #[]]) (s := 1) (r := 0) (tm := false) (closed := false) (blocking := true) (w' := w) rfl rfl (by simp [go_sem, execOp, rcase, Act.eval]) rfl (fun n c' hn hc' => ?_) hc (by simp) ?_
  · rcases n with _ | _ | n
    · exact absurd rfl hn
    · simp only [List.getElem?_toArray, List.getElem?_cons_succ, List.getElem?_cons_zero, Option.some.injEq] at hc'
      subst hc'
      exact noWay_recv hd
    · simp at hc'
  rw [res_rr0]
  walk_nrm
  iterate 3 (refine RW_k rfl rfl (fun K hK => ?_); go_simp; refine hK _ _ ?_; clear hK K)
  refine RW_nil ?_
  go_wp2
  go_ret
  exact ⟨rfl, rfl⟩

set_option maxHeartbeats 400000 in
set_option maxRecDepth 100000 in
/-- woken is empty, done is closed -/
theorem wait_sel1 (b c d : Nat) (cap : Nat) (w : World) (h3 : w.cell? ⟨b, 3, none⟩ = some (.chan (some c))) (hc : w.heap[c]? = some (.chan 1 #[] false 0 0 false)) (hd : w.heap[d]? = some (.chan cap #[] true 0 0 false)) :
    Calls Yba.prog 10 #[.pointer (some ⟨b, 0, none⟩), .chan (some d)] w fun e w' => e = .returned (.bool false) ∧ w' = w := by
  have hq := eql_chan
  go_enter Yba.func10, Yba.ntmps10
  go_upto_region 6 with fail
  refine RW_region ?_
  simp only [List.size_toArray, List.length_cons, List.length_nil, Nat.reduceAdd, Nat.zero_add, List.range, List.range.loop]
  refine RW_sel_shut (cases := #[rcase c (.agg #[]), rcase d (.agg #[])]) (m := 1) (c := d) (z := .agg #[]) (cap := cap) (s := 0) (r := 0) (tm := false) (blocking := true) (w' := w) rfl rfl (by simp [go_sem, execOp, rcase, Act.eval]) rfl (fun n c' hn hc' => ?_) hd ?_
  · rcases n with _ | _ | n
    · simp only [List.getElem?_toArray, List.getElem?_cons_zero, Option.some.injEq] at hc'
      subst hc'
      exact noWay_recv hc
    · exact absurd rfl hn
    · simp at hc'
  rw [res_rr1]
  walk_nrm
  iterate 3 (refine RW_k rfl rfl (fun K hK => ?_); go_simp; refine hK _ _ ?_; clear hK K)
  refine RW_nil ?_
  go_wp2
  go_ret
  exact ⟨rfl, rfl⟩

set_option maxHeartbeats 400000 in
set_option maxRecDepth 100000 in
/-- woken is empty, done holds a value -/
theorem wait_sel2 (b c d : Nat) (w : World) (h3 : w.cell? ⟨b, 3, none⟩ = some (.chan (some c))) (hc : w.heap[c]? = some (.chan 1 #[] false 0 0 false)) (hd : w.heap[d]? = some (.chan 1 #[.agg #[]] false 1 0 false)) :
    Calls Yba.prog 10 #[.pointer (some ⟨b, 0, none⟩), .chan (some d)] w fun e w' => e = .returned (.bool false) ∧ w' = w.setChan d 1 #[] false 1 1 false := by
  have hq := eql_chan
  go_enter Yba.func10, Yba.ntmps10
  go_upto_region 6 with fail
  refine RW_region ?_
  simp only [List.size_toArray, List.length_cons, List.length_nil, Nat.reduceAdd, Nat.zero_add, List.range, List.range.loop]
  refine RW_sel_buf (cases := #[rcase c (.agg #[]), rcase d (.agg #[])]) (m := 1) (c := d) (z := .agg #[]) (cap := 1) (buf := #[.agg #[]]) (s := 1) (r := 0) (tm := false) (closed := false) (blocking := true) (w' := w) rfl rfl (by simp [go_sem, execOp, rcase, Act.eval]) rfl (fun n c' hn hc' => ?_) hd (by simp) ?_
  · rcases n with _ | _ | n
    · simp only [List.getElem?_toArray, List.getElem?_cons_zero, Option.some.injEq] at hc'
      subst hc'
      exact noWay_recv hc
    · exact absurd rfl hn
    · simp at hc'
  rw [res_rr1]
  walk_nrm
  iterate 3 (refine RW_k rfl rfl (fun K hK => ?_); go_simp; refine hK _ _ ?_; clear hK K)
  refine RW_nil ?_
  go_wp2
  go_ret
  exact ⟨rfl, rfl⟩

theorem bytes32 : ∃ i, Yba.prog.info? 32 = some i ∧ i.bytes = 0 := by
  have h : (Yba.prog.info? 32).map (·.bytes) = some 0 := by kernel_rfl
  obtain ⟨i, hi, hb⟩ := Option.map_eq_some_iff.1 h
  exact ⟨i, hi, hb⟩
theorem mk1 (w : World) : (Instr.makeChan 41 (.int .i64 1)).run Yba.prog w = .ok (.chan (some w.heap.size)) (w.alloc (.chan 1 #[] false 0 0 false)) := by
  obtain ⟨i, hi, hb⟩ := bytes32
  simpa using run_makeChan (P := Yba.prog) (w := w) Yba.underlying41 hi .i64 1 (by omega) (by rw [hb]; omega)
theorem mk0 (w : World) : (Instr.makeChan 41 (.int .i64 0)).run Yba.prog w = .ok (.chan (some w.heap.size)) (w.alloc (.chan 0 #[] false 0 0 false)) := by
  obtain ⟨i, hi, hb⟩ := bytes32
  simpa using run_makeChan (P := Yba.prog) (w := w) Yba.underlying41 hi .i64 0 (by omega) (by rw [hb]; omega)
theorem neq_chan (w : World) (c : Option Nat) : (binOp .neq 41 (.chan c) (.chan none)).run Yba.prog w = .ok (.bool (!c.isNone)) w := by
  cases c <;> kernel_rfl

/-- what the tail of the law asks of the world behind 'wait' -/
def Good (q : Bool) (b c : Nat) (W : World) : Prop :=
  W.cell? ⟨b, 0, none⟩ = some (.pointer none) ∧ W.cell? ⟨b, 1, none⟩ = some (.pointer none) ∧ W.cell? ⟨b, 2, none⟩ = some (.bool q) ∧ W.cell? ⟨b, 3, none⟩ = some (.chan (some c))

theorem Good.setChan {q : Bool} {b c : Nat} {W : World} (h : Good q b c W) (d cap : Nat) (buf : Array Value) (closed : Bool) (s r : Nat) (tm : Bool) (hd : d ≠ b) : Good q b c (W.setChan d cap buf closed s r tm) := by
  obtain ⟨h0, h1, h2, h3⟩ := h
  exact ⟨by rw [cell_setChan _ _ _ _ _ _ _ _ _ _ hd]; exact h0, by rw [cell_setChan _ _ _ _ _ _ _ _ _ _ hd]; exact h1, by rw [cell_setChan _ _ _ _ _ _ _ _ _ _ hd]; exact h2, by rw [cell_setChan _ _ _ _ _ _ _ _ _ _ hd]; exact h3⟩

def W2 (w : World) (q : Bool) : World := (w.alloc (.chan 1 #[] false 0 0 false)).alloc (.cells #[.pointer none, .pointer none, .bool q, .chan (some w.heap.size)] 43)
theorem W2_chan (w : World) (q : Bool) : (W2 w q).heap[w.heap.size]? = some (.chan 1 #[] false 0 0 false) := by
  unfold W2
  rw [Below.heap_alloc _ _ _ (by simp)]
  exact heap_alloc_new w _
theorem W2_good (w : World) (q : Bool) : Good q (w.heap.size + 1) w.heap.size (W2 w q) := by
  unfold W2
  exact ⟨by simp, by simp, by simp, by simp⟩
theorem W2_below (w : World) (q : Bool) : Below w.heap.size w (W2 w q) := ((Below.refl _ w).alloc (Nat.le_refl _) _).alloc (by simp) _
theorem W2_size (w : World) (q : Bool) : (W2 w q).heap.size = w.heap.size + 2 := by simp [W2]

/-- behind one more channel -/
def W3 (w : World) (q : Bool) (cap : Nat) : World := (W2 w q).alloc (.chan cap #[] false 0 0 false)
theorem W3_chan (w : World) (q : Bool) (cap : Nat) : (W3 w q cap).heap[w.heap.size]? = some (.chan 1 #[] false 0 0 false) := by
  unfold W3
  rw [Below.heap_alloc _ _ _ (by rw [W2_size]; omega)]
  exact W2_chan w q
theorem W3_done (w : World) (q : Bool) (cap : Nat) : (W3 w q cap).heap[w.heap.size + 2]? = some (.chan cap #[] false 0 0 false) := by
  have := heap_alloc_new (W2 w q) (.chan cap #[] false 0 0 false)
  rwa [W2_size] at this
theorem W3_good (w : World) (q : Bool) (cap : Nat) : Good q (w.heap.size + 1) w.heap.size (W3 w q cap) := by
  obtain ⟨h0, h1, h2, h3⟩ := W2_good w q
  have hB : Below (w.heap.size + 2) (W2 w q) (W3 w q cap) := (Below.refl _ _).alloc (by rw [W2_size]; omega) _
  exact ⟨by rw [hB.cell (p := ⟨w.heap.size + 1, 0, none⟩) (Nat.lt_succ_self _)]; exact h0, by rw [hB.cell (p := ⟨w.heap.size + 1, 1, none⟩) (Nat.lt_succ_self _)]; exact h1, by rw [hB.cell (p := ⟨w.heap.size + 1, 2, none⟩) (Nat.lt_succ_self _)]; exact h2, by rw [hB.cell (p := ⟨w.heap.size + 1, 3, none⟩) (Nat.lt_succ_self _)]; exact h3⟩
theorem W3_below (w : World) (q : Bool) (cap : Nat) : Below w.heap.size w (W3 w q cap) := (W2_below w q).alloc (by rw [W2_size]; omega) _
theorem W3_size (w : World) (q : Bool) (cap : Nat) : (W3 w q cap).heap.size = w.heap.size + 3 := by simp [W3, W2_size]

theorem len_ch (w : World) (c cap s r : Nat) (buf : Array Value) (cl : Bool) (h : w.heap[c]? = some (.chan cap buf cl s r false)) (ty : TypeId) :
    (Builtin.len_ #[41] ty #[.chan (some c)]).run Yba.prog w = .ok (goInt buf.size) w := run_len_chan 41 ty Yba.underlying41 h
theorem cap_ch (w : World) (c cap s r : Nat) (buf : Array Value) (cl : Bool) (h : w.heap[c]? = some (.chan cap buf cl s r false)) (ty : TypeId) :
    (Builtin.cap_ #[41] ty #[.chan (some c)]).run Yba.prog w = .ok (goInt cap) w := run_cap_chan 41 ty Yba.underlying41 h

set_option maxHeartbeats 1000000 in
set_option maxRecDepth 100000 in
theorem b_0 (a : Int) (q : Bool) (w : World) (h0 : 0 ≤ a) (h1 : a ≤ 255) (hm : a % 4 = 0) :
    Calls Yba.prog 4 #[.int .u8 a, .bool q] w fun e w' => e = .returned (.bool true) ∧ Below w.heap.size w w' := by
  have hmk := mk1
  have hnc := neq_chan
  go_enter Yba.func4, Yba.ntmps4
  go_upto_region 8 with fail
  refine RW_region ?_
  simp only [List.size_toArray, List.length_cons, List.length_nil, Nat.reduceAdd, Nat.zero_add, List.range, List.range.loop]
  iterate 5 (refine RW_k rfl rfl (fun K hK => ?_); go_simp; refine hK _ _ ?_; clear hK K)
  refine RW_send_at (c := w.heap.size) (cap := 1) (buf := #[]) (s := 0) (r := 0) (tm := false) (v := .agg #[]) (z := .tuple #[]) (w' := W2 w q) rfl rfl (by simp [execOp, scase, Act.eval, W2]) (W2_chan w q) (by simp) ?_
  intro W hW
  have hc : W.heap[w.heap.size]? = some (.chan 1 #[.agg #[]] false 1 0 false) := by rw [hW.out]; exact heap_setChan _ _ _ _ _ _ _ _ (by rw [W2_size]; omega)
  have hG : Good q (w.heap.size + 1) w.heap.size W := by rw [hW.out]; exact (W2_good w q).setChan _ _ _ _ _ _ _ (by omega)
  have hB : Below w.heap.size w W := by rw [hW.out]; exact below_setChan (W2_below w q) (Nat.le_refl _) _ _ _ _ _ _
  clear hW
  refine RW_nil ?_
  walk_nrm
  go_wp2_with fail
  refine (wait_nil _ _ _ hG.2.2.2 hc).mono ?_
  rintro e W4 ⟨rfl, hW4⟩
  have hc4 : W4.heap[w.heap.size]? = some (.chan 1 #[] false 1 1 false) := by rw [hW4]; exact heap_setChan _ _ _ _ _ _ _ _ (by have := (Array.getElem?_eq_some_iff.1 hc).1; exact this)
  have hG4 : Good q (w.heap.size + 1) w.heap.size W4 := by rw [hW4]; exact hG.setChan _ _ _ _ _ _ _ (by omega)
  have hB4 : Below w.heap.size w W4 := by rw [hW4]; exact below_setChan hB (Nat.le_refl _) _ _ _ _ _ _
  clear hW4 hc hG hB
  have hlen := len_ch W4 _ _ _ _ _ _ hc4
  have hcap := cap_ch W4 _ _ _ _ _ _ hc4
  obtain ⟨k0, k1, k2, k3⟩ := hG4
  go_wp2_with fail
  go_ret
  exact ⟨rfl, hB4⟩

set_option maxHeartbeats 1000000 in
set_option maxRecDepth 100000 in
theorem b_1 (a : Int) (q : Bool) (w : World) (h0 : 0 ≤ a) (h1 : a ≤ 255) (hm : a % 4 = 1) :
    Calls Yba.prog 4 #[.int .u8 a, .bool q] w fun e w' => e = .returned (.bool true) ∧ Below w.heap.size w w' := by
  have hmk := mk1
  have hnc := neq_chan
  go_enter Yba.func4, Yba.ntmps4
  go_upto_region 11 with fail
  refine RW_region ?_
  simp only [List.size_toArray, List.length_cons, List.length_nil, Nat.reduceAdd, Nat.zero_add, List.range, List.range.loop]
  iterate 5 (refine RW_k rfl rfl (fun K hK => ?_); go_simp; refine hK _ _ ?_; clear hK K)
  refine RW_send_at (c := w.heap.size) (cap := 1) (buf := #[]) (s := 0) (r := 0) (tm := false) (v := .agg #[]) (z := .tuple #[]) (w' := W3 w q 1) rfl rfl (by simp [execOp, scase, Act.eval, W2, W3]) (W3_chan w q 1) (by simp) ?_
  intro W hW
  have hc : W.heap[w.heap.size]? = some (.chan 1 #[.agg #[]] false 1 0 false) := by rw [hW.out]; exact heap_setChan _ _ _ _ _ _ _ _ (by rw [W3_size]; omega)
  have hd : W.heap[w.heap.size + 2]? = some (.chan 1 #[] false 0 0 false) := by rw [hW.out, setChan_other _ _ _ _ _ _ _ _ _ (by omega)]; exact W3_done w q 1
  have hG : Good q (w.heap.size + 1) w.heap.size W := by rw [hW.out]; exact (W3_good w q 1).setChan _ _ _ _ _ _ _ (by omega)
  have hB : Below w.heap.size w W := by rw [hW.out]; exact below_setChan (W3_below w q 1) (Nat.le_refl _) _ _ _ _ _ _
  clear hW
  refine RW_nil ?_
  walk_nrm
  go_wp2_with fail
  refine (wait_sel0 _ w.heap.size (w.heap.size + 2) 1 _ hG.2.2.2 hc hd).mono ?_
  rintro e W4 ⟨rfl, hW4⟩
  have hc4 : W4.heap[w.heap.size]? = some (.chan 1 #[] false 1 1 false) := by rw [hW4]; exact heap_setChan _ _ _ _ _ _ _ _ (by have := (Array.getElem?_eq_some_iff.1 hc).1; exact this)
  have hd4 : W4.heap[w.heap.size + 2]? = some (.chan 1 #[] false 0 0 false) := by rw [hW4, setChan_other _ _ _ _ _ _ _ _ _ (by omega)]; exact hd
  have hG4 : Good q (w.heap.size + 1) w.heap.size W4 := by rw [hW4]; exact hG.setChan _ _ _ _ _ _ _ (by omega)
  have hB4 : Below w.heap.size w W4 := by rw [hW4]; exact below_setChan hB (Nat.le_refl _) _ _ _ _ _ _
  clear hW4 hc hd hG hB
  have hlen := len_ch W4 _ _ _ _ _ _ hc4
  have hcap := cap_ch W4 _ _ _ _ _ _ hc4
  have hlen2 := len_ch W4 _ _ _ _ _ _ hd4
  obtain ⟨k0, k1, k2, k3⟩ := hG4
  go_wp2_with fail
  go_ret
  exact ⟨rfl, hB4⟩

/-- behind 'close(done)' -/
def Wc (w : World) (q : Bool) : World := (W3 w q 0).setChan (w.heap.size + 2) 0 #[] true 0 0 false
theorem close_c (w : World) (q : Bool) (ats : Array TypeId) (ty : TypeId) :
    (Builtin.close_ ats ty #[.chan (some (w.heap.size + 1 + 1))]).run Yba.prog (((w.alloc (.chan 1 #[] false 0 0 false)).alloc (.cells #[.pointer none, .pointer none, .bool q, .chan (some w.heap.size)] 43)).alloc (.chan 0 #[] false 0 0 false)) = .ok (.tuple #[]) (Wc w q) :=
  run_close_open (P := Yba.prog) (w := W3 w q 0) ats ty (W3_done w q 0)

set_option maxHeartbeats 1000000 in
set_option maxRecDepth 100000 in
theorem b_2 (a : Int) (q : Bool) (w : World) (h0 : 0 ≤ a) (h1 : a ≤ 255) (hm : a % 4 = 2) :
    Calls Yba.prog 4 #[.int .u8 a, .bool q] w fun e w' => e = .returned (.bool true) ∧ Below w.heap.size w w' := by
  have hmk := mk1
  have hmk0 := mk0
  have hnc := neq_chan
  have hcl := close_c w q
  have hc : (Wc w q).heap[w.heap.size]? = some (.chan 1 #[] false 0 0 false) := by unfold Wc; rw [setChan_other _ _ _ _ _ _ _ _ _ (by omega)]; exact W3_chan w q 0
  have hd : (Wc w q).heap[w.heap.size + 2]? = some (.chan 0 #[] true 0 0 false) := heap_setChan _ _ _ _ _ _ _ _ (by rw [W3_size]; omega)
  have hG : Good q (w.heap.size + 1) w.heap.size (Wc w q) := (W3_good w q 0).setChan _ _ _ _ _ _ _ (by omega)
  have hB4 : Below w.heap.size w (Wc w q) := below_setChan (W3_below w q 0) (by omega) _ _ _ _ _ _
  have hlen := len_ch _ _ _ _ _ _ _ hc
  have hcap := cap_ch _ _ _ _ _ _ _ hc
  have hlen2 := len_ch _ _ _ _ _ _ _ hd
  go_enter Yba.func4, Yba.ntmps4
  go_wp2_with fail
  clear hcl hmk hmk0
  generalize Wc w q = W at *
  refine (wait_sel1 _ w.heap.size (w.heap.size + 2) 0 _ hG.2.2.2 hc hd).mono ?_
  rintro e W4 ⟨rfl, hW4⟩
  subst hW4
  obtain ⟨k0, k1, k2, k3⟩ := hG
  go_wp2_with fail
  go_ret
  exact ⟨rfl, hB4⟩

set_option maxHeartbeats 1000000 in
set_option maxRecDepth 100000 in
theorem b_3 (a : Int) (q : Bool) (w : World) (h0 : 0 ≤ a) (h1 : a ≤ 255) (hm : a % 4 = 3) :
    Calls Yba.prog 4 #[.int .u8 a, .bool q] w fun e w' => e = .returned (.bool true) ∧ Below w.heap.size w w' := by
  have hmk := mk1
  have hnc := neq_chan
  go_enter Yba.func4, Yba.ntmps4
  go_upto_region 6 with fail
  refine RW_region ?_
  simp only [List.size_toArray, List.length_cons, List.length_nil, Nat.reduceAdd, Nat.zero_add, List.range, List.range.loop]
  iterate 2 (refine RW_k rfl rfl (fun K hK => ?_); go_simp; refine hK _ _ ?_; clear hK K)
  refine RW_send_at (c := w.heap.size + 2) (cap := 1) (buf := #[]) (s := 0) (r := 0) (tm := false) (v := .agg #[]) (z := .tuple #[]) (w' := W3 w q 1) rfl rfl (by simp [execOp, scase, Act.eval, W2, W3]) (W3_done w q 1) (by simp) ?_
  intro W hW
  have hd : W.heap[w.heap.size + 2]? = some (.chan 1 #[.agg #[]] false 1 0 false) := by rw [hW.out]; exact heap_setChan _ _ _ _ _ _ _ _ (by rw [W3_size]; omega)
  have hc : W.heap[w.heap.size]? = some (.chan 1 #[] false 0 0 false) := by rw [hW.out, setChan_other _ _ _ _ _ _ _ _ _ (by omega)]; exact W3_chan w q 1
  have hG : Good q (w.heap.size + 1) w.heap.size W := by rw [hW.out]; exact (W3_good w q 1).setChan _ _ _ _ _ _ _ (by omega)
  have hB : Below w.heap.size w W := by rw [hW.out]; exact below_setChan (W3_below w q 1) (by omega) _ _ _ _ _ _
  clear hW
  refine RW_nil ?_
  walk_nrm
  go_wp2_with fail
  refine (wait_sel2 _ w.heap.size (w.heap.size + 2) _ hG.2.2.2 hc hd).mono ?_
  rintro e W4 ⟨rfl, hW4⟩
  have hd4 : W4.heap[w.heap.size + 2]? = some (.chan 1 #[] false 1 1 false) := by rw [hW4]; exact heap_setChan _ _ _ _ _ _ _ _ (by have := (Array.getElem?_eq_some_iff.1 hd).1; exact this)
  have hc4 : W4.heap[w.heap.size]? = some (.chan 1 #[] false 0 0 false) := by rw [hW4, setChan_other _ _ _ _ _ _ _ _ _ (by omega)]; exact hc
  have hG4 : Good q (w.heap.size + 1) w.heap.size W4 := by rw [hW4]; exact hG.setChan _ _ _ _ _ _ _ (by omega)
  have hB4 : Below w.heap.size w W4 := by rw [hW4]; exact below_setChan hB (by omega) _ _ _ _ _ _
  clear hW4 hc hd hG hB
  have hlen := len_ch W4 _ _ _ _ _ _ hc4
  have hcap := cap_ch W4 _ _ _ _ _ _ hc4
  have hlen2 := len_ch W4 _ _ _ _ _ _ hd4
  obtain ⟨k0, k1, k2, k3⟩ := hG4
  go_wp2_with fail
  go_ret
  exact ⟨rfl, hB4⟩

theorem b_walk (a : Int) (q : Bool) (w : World) (h0 : 0 ≤ a) (h1 : a ≤ 255) :
    Calls Yba.prog 4 #[.int .u8 a, .bool q] w fun e w' => e = .returned (.bool true) ∧ Below w.heap.size w w' := by
  rcases (by omega : a % 4 = 0 ∨ a % 4 = 1 ∨ a % 4 = 2 ∨ a % 4 = 3) with h | h | h | h
  · exact b_0 a q w h0 h1 h
  · exact b_1 a q w h0 h1 h
  · exact b_2 a q w h0 h1 h
  · exact b_3 a q w h0 h1 h

end Go.Proofs.Ybulkecaq
