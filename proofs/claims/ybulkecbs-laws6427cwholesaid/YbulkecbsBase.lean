import Derived.Test.YbulkecbsRows
import Derived.WalkKit
import Derived.WalkSpells
import Derived.WalkLawsBesides
namespace Go.Proofs.Ybulkecbs
open Go.RowKit
set_option linter.unusedSimpArgs false
set_option linter.unusedVariables false

theorem own : ownKnob Yba.prog.godebug = none := by kernel_rfl
theorem laidOut : laidOutB Yba.prog = true := by kernel_rfl
theorem info4 : (Yba.prog.info? 4).map (fun i => (i.zero, i.size, i.bytes)) = some (some (.bool false), 1, 1) := by kernel_rfl
theorem size4 : (Yba.prog.info? 4).map (fun i => i.size) = some 1 := by kernel_rfl

theorem lt_of_cell {w : World} {a : Addr} {v : Value} (h : w.cell? a = some v) : a.block < w.heap.size := by
  rcases Nat.lt_or_ge a.block w.heap.size with h' | h'
  · exact h'
  · simp [World.cell?, Array.getElem?_eq_none h'] at h

theorem add_plain (b o i : Nat) : (⟨b, o, none⟩ : Addr).add i = ⟨b, o + i, none⟩ := by unfold Addr.add; split <;> simp_all

theorem setRow_alloc (w : World) (z c : Array Value) (t : TypeId) : (w.alloc (.cells z t)).setRow w.heap.size c = w.alloc (.cells c t) := by
  unfold World.setRow World.alloc
  simp only [World.mk.injEq, and_true]
  apply Array.ext
  · simp
  · intro i h1 h2
    simp only [Array.getElem_modify]
    split
    · rename_i hk
      subst hk
      simp
    · rename_i hk
      have : i < w.heap.size := by simp at h2; omega
      simp [Array.getElem_push, this]

/-- a slice of bools below block b -/
def BRow (b : Nat) (w : World) (a : Option Addr) (n cap : Nat) (bs : List Bool) : Prop :=
  bs.length = n ∧ (a = none → n = 0 ∧ cap = 0) ∧ (0 < n → ∃ bb off, a = some ⟨bb, off, none⟩ ∧ bb < b ∧ ∀ i, i < n → w.cell? ⟨bb, off + i, none⟩ = some (.bool (bs.getD i false)))

theorem BRow.below {b : Nat} {w w' : World} {a : Option Addr} {n cap : Nat} {bs : List Bool} (h : BRow b w a n cap bs) (hb : Below b w w') : BRow b w' a n cap bs := by
  obtain ⟨h1, h2, h5⟩ := h
  refine ⟨h1, h2, fun hp => ?_⟩
  obtain ⟨bb, off, rfl, hlt, hc⟩ := h5 hp
  exact ⟨bb, off, rfl, hlt, fun i hi => by rw [hb.cell (p := ⟨bb, off + i, none⟩) hlt]; exact hc i hi⟩

def zeros (n : Nat) : Array Value := madeCells (Value.bool false).cells (n * 1)
def copied (bs : List Bool) : Array Value := (bs.map Value.bool).toArray

theorem run_mk (w : World) (n : Nat) (hn : n ≤ 1048576) :
    (Instr.makeSlice 23 (.int .i64 (n : Int)) (.int .i64 (n : Int))).run Yba.prog w = .ok (.slice (some ⟨w.heap.size, 0, none⟩) n n) (w.alloc (.cells (zeros n) 4)) := by
  obtain ⟨i, hi, hz, hs, hb⟩ := info_parts info4
  have := run_make (P := Yba.prog) w 23 4 i _ Yba.underlying23 hi hz .i64 .i64 (n : Int) (n : Int) (by omega) (by omega) (by rw [hb]; omega) (by omega)
  rw [this, hs]
  simp [zeros]

theorem run_cp (w : World) (a : Option Addr) (n cap : Nat) (bs : List Bool) (h : BRow w.heap.size w a n cap bs) (ty : TypeId) :
    (Builtin.copy_ #[23, 23] ty #[.slice (some ⟨w.heap.size, 0, none⟩) n n, .slice a n cap]).run Yba.prog (w.alloc (.cells (zeros n) 4)) = .ok (goInt n) (w.alloc (.cells (copied bs) 4)) := by
  obtain ⟨h1, h2, h5⟩ := h
  rcases Nat.eq_zero_or_pos n with rfl | hp
  · obtain rfl : bs = [] := List.eq_nil_of_length_eq_zero h1
    have := run_copy_none (P := Yba.prog) (w.alloc (.cells (zeros 0) 4)) 23 23 ty 4 (some ⟨w.heap.size, 0, none⟩) a 0 0 0 cap Yba.underlying23 size4 (by simp)
    rw [this]
    have e : zeros 0 = copied [] := by simp [zeros, madeCells, copied]
    rw [e]
    rfl
  · obtain ⟨bb, off, rfl, hlt, hc⟩ := h5 hp
    have hsz : (zeros n).size = n := by simp [zeros, size_madeCells]
    have hl : (bs.map Value.bool).length = n := by simp; omega
    have := run_copy_row (P := Yba.prog) (w.alloc (.cells (zeros n) 4)) 23 23 ty 4 w.heap.size 0 n n ⟨bb, off, none⟩ n cap (zeros n) 4 (bs.map Value.bool) Yba.underlying23 size4
      (heap_alloc_new w _) (by simp; omega) (fun j v hj => by
        have hjn : j < n := by
          rcases Nat.lt_or_ge j n with h | h
          · exact h
          · rw [List.getElem?_eq_none (by omega)] at hj; cases hj
        rw [add_plain, World.cell?_of_block (w := w) (Below.heap_alloc w _ _ hlt), hc j hjn]
        rw [List.getElem?_map] at hj
        obtain ⟨a, ha, rfl⟩ := Option.map_eq_some_iff.1 hj
        simp [List.getD, ha]) (by rw [hl, hsz]; omega) (fun v hv => by
        simp only [List.mem_map] at hv
        obtain ⟨a, _, rfl⟩ := hv
        rfl)
    have e2 : ((zeros n).toList.take 0 ++ bs.map Value.bool ++ (zeros n).toList.drop (0 + (bs.map Value.bool).length)).toArray = copied bs := by
      rw [List.take_zero, List.drop_of_length_le (by rw [Array.length_toList, hsz, hl]; omega)]
      simp [copied]
    rw [this, setRow_alloc, e2, hl]

theorem row_copied (w : World) (n : Nat) (bs : List Bool) (h1 : bs.length = n) : BRow (w.heap.size + 1) (w.alloc (.cells (copied bs) 4)) (some ⟨w.heap.size, 0, none⟩) n n bs := by
  refine ⟨h1, by simp, fun hp => ⟨w.heap.size, 0, rfl, Nat.lt_succ_self _, fun i hi => ?_⟩⟩
  rw [cell_of_row _ _ _ _ _ _ (heap_alloc_new w _)]
  have : i < bs.length := by omega
  simp [copied, List.getD, this]

/-- the end of the run of digits from 'off' on -/
def IsEnd (s : ByteArray) (off E : Nat) : Prop :=
  off ≤ E ∧ (∀ i, off ≤ i → i < E → ∃ h : i < s.size, 48 ≤ s[i].toNat ∧ s[i].toNat ≤ 57) ∧ ∀ h : E < s.size, s[E].toNat < 48 ∨ 57 < s[E].toNat

theorem exists_end (s : ByteArray) (m off : Nat) (hm : s.size - off = m) : ∃ E, IsEnd s off E := by
  induction m generalizing off with
  | zero => exact ⟨off, Nat.le_refl _, fun i h1 h2 => by omega, fun h => by omega⟩
  | succ m ih =>
    have hlt : off < s.size := by omega
    by_cases hd : 48 ≤ s[off].toNat ∧ s[off].toNat ≤ 57
    · obtain ⟨E, h1, h2, h3⟩ := ih (off + 1) (by omega)
      refine ⟨E, by omega, fun i hi hE => ?_, h3⟩
      rcases Nat.eq_or_lt_of_le hi with rfl | hi
      · exact ⟨hlt, hd⟩
      · exact h2 i hi hE
    · exact ⟨off, Nat.le_refl _, fun i h1 h2 => by omega, fun h => by omega⟩

theorem IsEnd.le {s : ByteArray} {off E : Nat} (h : IsEnd s off E) : E ≤ off ∨ E ≤ s.size := by
  obtain ⟨h1, h2, _⟩ := h
  rcases Nat.eq_or_lt_of_le h1 with rfl | hlt
  · exact .inl (Nat.le_refl _)
  · obtain ⟨h, _⟩ := h2 (E - 1) (by omega) (by omega)
    omega

/-- what 'digits' leaves -/
def DPost (b off E : Nat) (w : World) (wr : World) : Prop :=
  Below b w wr ∧ (∀ o, o ≠ 1 → wr.cell? ⟨b, o, none⟩ = w.cell? ⟨b, o, none⟩) ∧ wr.frozen? ⟨b, 1, none⟩ = false ∧ ∃ i : Nat, off ≤ i ∧ i ≤ E ∧ wr.cell? ⟨b, 1, none⟩ = some (.int .i64 (i : Int))

def gtB (a b : Nat) : Bool := decide (a < b)
theorem ret_bool {a b : Bool} (h : a = b) : Ending.returned (.bool a) = .returned (.bool b) := by rw [h]

def at1 (b : Nat) (w : World) : Value := (w.cell? ⟨b, 1, none⟩).getD (.bool false)

set_option maxHeartbeats 400000 in
set_option maxRecDepth 100000 in
theorem digits_any (b off E : Nat) (s : ByteArray) (w : World) (hs : s.size ≤ 1048576) (ho : off ≤ 1048579) (hE : IsEnd s off E) (c0 : w.cell? ⟨b, 0, none⟩ = some (.string s)) (c1 : w.cell? ⟨b, 1, none⟩ = some (.int .i64 (off : Int))) (f1 : w.frozen? ⟨b, 1, none⟩ = false) :
    Calls Yba.prog 4 #[.pointer (some ⟨b, 0, none⟩)] w fun e w' => e = .returned (.bool (gtB off E)) ∧ DPost b E E w w' := by
  have hEl := hE.le
  obtain ⟨hE1, hE2, hE3⟩ := hE
  go_enter Yba.func4, Yba.ntmps4
  go_wp2_with fail
  go_loopw [8] (fun _ wr => DPost b off E w wr) (fun _ wr => E - (intOf (at1 b wr)).toNat)
  case atStart => exact ⟨Below.refl _ _, fun _ _ => rfl, f1, off, Nat.le_refl _, hE1, c1⟩
  case round =>
    obtain ⟨hB, hC, hf, i, hi1, hi2, hc1⟩ := hrel
    have hc0 := (hC 0 (by decide)).trans c0
    clear c0 c1 f1
    by_cases hlt : i < E
    · obtain ⟨hsz, d1, d2⟩ := hE2 i hi1 hlt
      have HC : Hid (∀ o, o ≠ 1 → wr.cell? ⟨b, o, none⟩ = w.cell? ⟨b, o, none⟩) := hC
      clear hC hE2 hE3
      go_wp2
      go_roundw
      case rel =>
        exact ⟨hB.setCell (p := ⟨b, 1, none⟩) (Nat.le_refl b) _, fun o ho => (World.cell?_setCell_other wr ⟨b, 1, none⟩ ⟨b, o, none⟩ _ (fun h => ho (by injection h with h1 h2; exact h2.symm))).trans (HC.out o ho), by simp [hf], i + 1, by omega, by omega, (World.cell?_setCell_same _ _ _ hc1).trans (by simp)⟩
      case measure =>
        have e1 : at1 b wr = .int .i64 (i : Int) := by unfold at1; rw [hc1]; rfl
        have e2 : at1 b (wr.setCell ⟨b, 1, none⟩ (.int .i64 ((i : Int) + 1))) = .int .i64 ((i : Int) + 1) := by unfold at1; rw [World.cell?_setCell_same _ _ _ hc1]; rfl
        rw [e1, e2]
        simp [intOf]; omega
    · obtain rfl : i = E := by omega
      have HC : Hid (∀ o, o ≠ 1 → wr.cell? ⟨b, o, none⟩ = w.cell? ⟨b, o, none⟩) := hC
      by_cases hsz : i < s.size
      · rcases hE3 hsz with hd | hd
        · have q1 : ¬ (48 : Int) ≤ (s[i].toNat : Int) := by omega
          clear hC hE2 hE3
          go_wp2
          go_ret
          exact ⟨ret_bool (by unfold gtB; first | rfl | simp), hB, HC.out, hf, i, by omega, by omega, hc1⟩
        · have q1 : (48 : Int) ≤ (s[i].toNat : Int) := by omega
          have q2 : ¬ (s[i].toNat : Int) ≤ 57 := by omega
          clear hC hE2 hE3
          go_wp2
          go_ret
          exact ⟨ret_bool (by unfold gtB; first | rfl | simp), hB, HC.out, hf, i, by omega, by omega, hc1⟩
      · clear hC hE2 hE3
        go_wp2
        go_ret
        exact ⟨ret_bool (by unfold gtB; first | rfl | simp), hB, HC.out, hf, i, by omega, by omega, hc1⟩

end Go.Proofs.Ybulkecbs
