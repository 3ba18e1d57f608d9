import Derived.Test.YbulkecacRows
import Derived.WalkKit
import Derived.WalkSpells
import Derived.WalkLawsBesides
import Derived.ProofKit
import Derived.SizedLaws
import Derived.Lib.Builder
namespace Go.Proofs.Ybulkecac
open Go.RowKit
set_option linter.unusedSimpArgs false
set_option linter.unusedVariables false

theorem own : ownKnob Yba.prog.godebug = none := by kernel_rfl
theorem laidOut : laidOutB Yba.prog = true := by kernel_rfl
theorem info5 : (Yba.prog.info? 5).map (fun i => (i.zero, i.size, i.bytes)) = some (some (.int .u8 0), 1, 1) := by kernel_rfl
theorem size5 : (Yba.prog.info? 5).map (fun i => i.size) = some 1 := by kernel_rfl
theorem bytes5 : Yba.prog.bytesOf 5 = 1 := by kernel_rfl

/-- A slice of integers that came in: nil; or it leads to a row of 'cap' cells. The reach is in it. -/
def IsRow (k : IntKind) (w : World) (a : Option Addr) (len cap : Nat) (zs : List Int) : Prop :=
  (a = none ∧ len = 0 ∧ cap = 0 ∧ zs = []) ∨
  ∃ x, a = some x ∧ len ≤ cap ∧ cap ≤ 140737488351232 ∧ zs.length = cap ∧ (∀ i, i < zs.length → w.cell? (x.add i) = some (.int k (zs.getD i 0))) ∧ ∀ n ∈ zs, (Lit.int k n).wf = true

theorem lt_of_cell {w : World} {a : Addr} {v : Value} (h : w.cell? a = some v) : a.block < w.heap.size := by
  rcases Nat.lt_or_ge a.block w.heap.size with h' | h'
  · exact h'
  · simp [World.cell?, Array.getElem?_eq_none h'] at h

theorem add_block (x : Addr) (j : Nat) : (x.add j).block = x.block := by unfold Addr.add; split <;> rfl

theorem setRow_alloc (w : World) (z c : Array Value) (t : TypeId) : (w.alloc (.cells z t)).setRow w.heap.size c = w.alloc (.cells c t) := by
  unfold World.setRow World.alloc
  simp only [World.mk.injEq, true_and, and_true]
  apply Array.ext
  · simp
  · intro i h1 h2
    simp only [Array.getElem_modify]
    split
    · rename_i hk
      subst hk
      simp
    · rename_i hk
      have : i < w.heap.size := by simp at h2; omega
      simp [Array.getElem_push, this]

/-- the cells of a copy -/
def cpCells (zs : List Int) (n : Nat) : Array Value := ((zs.take n).map (Value.int .u8)).toArray

theorem size_cpCells (zs : List Int) (n : Nat) (h : n ≤ zs.length) : (cpCells zs n).size = n := by simp [cpCells]; omega

def zeros (n : Nat) : Array Value := madeCells (Value.int .u8 0).cells (n * 1)

theorem run_mk (w : World) (n : Nat) (hn : n ≤ 140737488351232) :
    (Instr.makeSlice 22 (.int .i64 (n : Int)) (.int .i64 (n : Int))).run Yba.prog w = .ok (.slice (some ⟨w.heap.size, 0, none⟩) n n) (w.alloc (.cells (zeros n) 5)) := by
  obtain ⟨i, hi, hz, hs, hb⟩ := info_parts info5
  have := run_make (P := Yba.prog) w 22 5 i _ Yba.underlying22 hi hz .i64 .i64 (n : Int) (n : Int) (by omega) (by omega) (by rw [hb]; omega) (by omega)
  rw [this, hs]
  simp [zeros]

theorem run_cp (w : World) (x : Addr) (n cap : Nat) (zs : List Int) (hn : n ≤ zs.length) (hlt : n = 0 ∨ x.block < w.heap.size)
    (hc : ∀ i, i < zs.length → w.cell? (x.add i) = some (.int .u8 (zs.getD i 0))) (ty : TypeId) :
    (Builtin.copy_ #[22, 22] ty #[.slice (some ⟨w.heap.size, 0, none⟩) n n, .slice (some x) n cap]).run Yba.prog (w.alloc (.cells (zeros n) 5)) = .ok (goInt n) (w.alloc (.cells (cpCells zs n) 5)) := by
  have hsz : (zeros n).size = n := by simp [zeros, size_madeCells]
  have hl : ((zs.take n).map (Value.int .u8)).length = n := by simp; omega
  have := run_copy_row (P := Yba.prog) (w.alloc (.cells (zeros n) 5)) 22 22 ty 5 w.heap.size 0 n n x n cap (zeros n) 5 ((zs.take n).map (Value.int .u8)) Yba.underlying22 size5
    (heap_alloc_new w _) (by simp; omega) (fun j v hj => by
      have hjn : j < n := by
        rcases Nat.lt_or_ge j n with h | h
        · exact h
        · rw [List.getElem?_eq_none (by omega)] at hj; cases hj
      have hb : (x.add j).block = x.block := by unfold Addr.add; split <;> rfl
      rw [World.cell?_of_block (w := w) (Below.heap_alloc w _ _ (by omega)), hc j (by omega)]
      simp [List.getElem?_take, hjn] at hj
      obtain ⟨a, ha, rfl⟩ := hj
      simp [List.getD, ha]) (by rw [hl, hsz]; omega) (fun v hv => by
      simp only [List.mem_map] at hv
      obtain ⟨a, _, rfl⟩ := hv
      rfl)
  have e2 : ((zeros n).toList.take 0 ++ (zs.take n).map (Value.int .u8) ++ (zeros n).toList.drop (0 + ((zs.take n).map (Value.int .u8)).length)).toArray = cpCells zs n := by
    rw [List.take_zero, List.drop_of_length_le (by rw [Array.length_toList, hsz, hl]; omega)]
    simp [cpCells]
  rw [this, setRow_alloc, e2, hl]

theorem conv_row (w : World) (x : Addr) (n cap : Nat) (zs : List Int) (hn : n ≤ zs.length)
    (hc : ∀ i, i < n → w.cell? (x.add i) = some (.int .u8 (zs.getD i 0))) :
    (convert 22 9 (.slice (some x) n cap)).run Yba.prog w = .ok (.string (strOfNums (zs.take n))) w := by
  have hl : (loadCells x n).run Yba.prog w = .ok ((zs.take n).map (Value.int .u8)).toArray w := by
    have := run_loadCells_list (P := Yba.prog) w x ((zs.take n).map (Value.int .u8)) (fun j v hj => by
      have hjn : j < n := by
        rcases Nat.lt_or_ge j n with h | h
        · exact h
        · rw [List.getElem?_eq_none (by simp; omega)] at hj; cases hj
      rw [hc j hjn]
      simp [List.getElem?_take, hjn] at hj
      obtain ⟨a, ha, rfl⟩ := hj
      simp [List.getD, ha])
    have e : ((zs.take n).map (Value.int .u8)).length = n := by simp; omega
    rw [e] at this
    exact this
  rw [run_convert_bytes_string w 22 9 5 _ n cap Yba.underlying22 Yba.underlying5 Yba.underlying9, run_bytesToString w _ n cap (zs.take n) hl, foldl_push_bytes]
  simp [strOfNums, ByteArray.empty, ByteArray.emptyWithCapacity]
  rfl

theorem conv_nil (w : World) (l c : Nat) : (convert 22 9 (.slice none l c)).run Yba.prog w = .ok (.string ByteArray.empty) w :=
  run_convert_bytes_nil w 22 5 Yba.underlying22 Yba.underlying5 l c 9 Yba.underlying9

theorem cell_cp (w : World) (zs : List Int) (n : Nat) (hn : n ≤ zs.length) (i : Nat) (hi : i < n) :
    (w.alloc (.cells (cpCells zs n) 5)).cell? ((⟨w.heap.size, 0, none⟩ : Addr).add i) = some (.int .u8 (zs.getD i 0)) := by
  have e : (⟨w.heap.size, 0, none⟩ : Addr).add i = ⟨w.heap.size, i, none⟩ := by unfold Addr.add; split <;> simp_all
  rw [e, cell_of_row _ _ _ _ _ _ (heap_alloc_new w _)]
  have : i < zs.length := by omega
  simp [cpCells, List.getElem?_take, hi, List.getD, this]

theorem neq_same (w : World) (a : Addr) : (binOp .neq 29 (.pointer (some a)) (.pointer (some a))).run Yba.prog w = .ok (.bool false) w := by
  obtain ⟨i, hi, _⟩ := info_parts info5
  exact Lib.run_neq_ptr_same w a Yba.underlying29 hi

set_option maxHeartbeats 400000 in
/-- bytes.Equal of two values that read as the same text -/
theorem equal_same (u v : Value) (s : ByteArray) (w : World) (hu : (convert 22 9 u).run Yba.prog w = .ok (.string s) w) (hv : (convert 22 9 v).run Yba.prog w = .ok (.string s) w) :
    Calls Yba.prog 7 #[u, v] w fun e w' => e = .returned (.bool true) ∧ w' = w := by
  go_enter Yba.func7, Yba.ntmps7
  go_wp2
  go_ret
  exact ⟨rfl, rfl⟩

set_option maxHeartbeats 400000 in
/-- (*sshReader).done where short is set -/
theorem done_short (b : Nat) (w : World) (h1 : w.cell? ⟨b, 1, none⟩ = some (.bool true)) :
    Calls Yba.prog 6 #[.pointer (some ⟨b, 0, none⟩)] w fun e w' => ∃ q, e = .returned (.iface 109 q) ∧ Below w.heap.size w w' := by
  go_enter Yba.func6, Yba.ntmps6
  go_wp2
  go_ret
  exact ⟨_, rfl, (Below.refl _ _).alloc (Nat.le_refl _) _⟩

set_option maxHeartbeats 400000 in
/-- .. where bytes are left -/
theorem done_long (b : Nat) (a : Option Addr) (n c : Nat) (w : World) (h1 : w.cell? ⟨b, 1, none⟩ = some (.bool false)) (h0 : w.cell? ⟨b, 0, none⟩ = some (.slice a n c)) (hn : 0 < (n : Int)) :
    Calls Yba.prog 6 #[.pointer (some ⟨b, 0, none⟩)] w fun e w' => ∃ q, e = .returned (.iface 109 q) ∧ Below w.heap.size w w' := by
  go_enter Yba.func6, Yba.ntmps6
  go_wp2
  go_ret
  exact ⟨_, rfl, (Below.refl _ _).alloc (Nat.le_refl _) _⟩

set_option maxHeartbeats 400000 in
/-- .. where nothing is left -/
theorem done_ok (b : Nat) (a : Option Addr) (c : Nat) (w : World) (h1 : w.cell? ⟨b, 1, none⟩ = some (.bool false)) (h0 : w.cell? ⟨b, 0, none⟩ = some (.slice a 0 c)) :
    Calls Yba.prog 6 #[.pointer (some ⟨b, 0, none⟩)] w fun e w' => e = .returned .nilIface ∧ w' = w := by
  go_enter Yba.func6, Yba.ntmps6
  go_wp2
  go_ret
  exact ⟨rfl, rfl⟩

theorem done_bad (short : Bool) (b : Nat) (a : Option Addr) (n c : Nat) (w : World) (h1 : w.cell? ⟨b, 1, none⟩ = some (.bool short)) (h0 : w.cell? ⟨b, 0, none⟩ = some (.slice a n c)) (hn : short = true ∨ 0 < n) :
    Calls Yba.prog 6 #[.pointer (some ⟨b, 0, none⟩)] w fun e w' => ∃ q, e = .returned (.iface 109 q) ∧ Below w.heap.size w w' := by
  cases short
  · exact done_long b a n c w h1 h0 (by simpa using hn)
  · exact done_short b w h1

end Go.Proofs.Ybulkecac
