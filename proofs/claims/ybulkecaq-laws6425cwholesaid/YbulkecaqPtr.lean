import Derived.Test.YbulkecaqAtom
import Derived.Lib.Builder
import Derived.LaidEqlPtr
namespace Go.Proofs.Ybulkecaq
open Go.RowKit Go.Conc
set_option linter.unusedSimpArgs false
set_option linter.unusedVariables false

theorem find23 : Extern.find Yba.f23 = some Extern.Atomic.storeT := by kernel_rfl
theorem find27 : Extern.find Yba.f27 = some (Extern.Atomic.loadT .ptr) := by kernel_rfl
theorem find35 : Extern.find Yba.f35 = some (Extern.Atomic.casT .ptr) := by kernel_rfl
theorem find36 : Extern.find Yba.f36 = some (Extern.Atomic.swapT .ptr) := by kernel_rfl

theorem stP (w : World) (a : Addr) (p : Option Addr) (u : Value) (hc : w.cell? a = some u) (hz : w.frozen? a = false) :
    (callFunc 23 #[.pointer (some a), .pointer p]).run Yba.prog w = .ok (.value (.tuple #[])) (w.setCell a (.pointer p)) := by
  rw [run_callFunc_extern Yba.func23 (by kernel_rfl) (by kernel_rfl) (by kernel_rfl) find23]
  change (Sem.run Yba.prog (do
    store (← asAddr (.pointer (some a))) (.pointer p) .atomic
    pure Extern.Atomic.none_) w).andThen _ = _
  simp [asAddr, hc, hz, run_store Yba.prog w a (.pointer p) .atomic rfl, Result.andThen, Extern.Atomic.none_]

theorem ldP (w : World) (a : Addr) (p : Option Addr) (hc : w.cell? a = some (.pointer p)) :
    (callFunc 27 #[.pointer (some a)]).run Yba.prog w = .ok (.value (.pointer p)) w := by
  rw [run_callFunc_extern Yba.func27 (by kernel_rfl) (by kernel_rfl) (by kernel_rfl) find27]
  change (Sem.run Yba.prog (do Extern.Atomic.read .ptr (← asAddr (.pointer (some a)))) w).andThen _ = _
  simp [Extern.Atomic.read, asAddr, hc, Result.andThen]

theorem swP (w : World) (a : Addr) (p q : Option Addr) (hc : w.cell? a = some (.pointer p)) (hz : w.frozen? a = false) :
    (callFunc 36 #[.pointer (some a), .pointer q]).run Yba.prog w = .ok (.value (.pointer p)) (w.setCell a (.pointer q)) := by
  rw [run_callFunc_extern Yba.func36 (by kernel_rfl) (by kernel_rfl) (by kernel_rfl) find36]
  change (Sem.run Yba.prog (do
    let a' ← asAddr (.pointer (some a))
    let old ← Extern.Atomic.read .ptr a'
    store a' (.pointer q) .atomic
    pure old) w).andThen _ = _
  simp [Extern.Atomic.read, asAddr, hc, hz, run_store Yba.prog w a (.pointer q) .atomic rfl, Result.andThen]

/-- the cell holds 'old' itself -/
theorem casP (w : World) (a : Addr) (p q : Option Addr) (hc : w.cell? a = some (.pointer p)) (hz : w.frozen? a = false) :
    (callFunc 35 #[.pointer (some a), .pointer p, .pointer q]).run Yba.prog w = .ok (.value (.bool true)) (w.setCell a (.pointer q)) := by
  have hs : (samePointer p p).run Yba.prog w = .ok true w := by
    cases p with
    | none => rfl
    | some x => simp [samePointer, run_sameAddr_same]
  obtain ⟨u, m, e⟩ : ∃ (u : Unsupported) (m : String), Extern.Atomic.casT .ptr #[.pointer (some a), .pointer p, .pointer q] = (do
      let a' ← asAddr (.pointer (some a))
      if ← Extern.Atomic.touchesFrozen a' then unsupported u
      let eq ← match Extern.Atomic.T.ptr, ← Extern.Atomic.read .ptr a', Value.pointer p with
        | _, .int _ x, .int _ y => pure (x == y)
        | .ptr, .pointer x, .pointer y => samePointer x y
        | .int _, .pointer (some _), .int _ 0 | .int _, .int _ 0, .pointer (some _) => pure false
        | .int _, .pointer (some _), _ | .int _, _, .pointer (some _) => unsupported .addressObserved
        | _, _, _ => stuck m
      if eq then store a' (.pointer q) .atomic
      pure (Value.bool eq)) := ⟨_, _, rfl⟩
  rw [run_callFunc_extern Yba.func35 (by kernel_rfl) (by kernel_rfl) (by kernel_rfl) find35, e]
  simp [Extern.Atomic.touchesFrozen, Extern.Atomic.read, asAddr, viewAt, World.shape?_isSome_of_cell? hc, hc, hz, hs, run_store Yba.prog w a (.pointer q) .atomic rfl, Result.andThen]

/-- a segment's block: what a turn to the untyped pointer and back wants of it -/
def IsSeg (w : World) (b : Nat) : Prop := ∃ A, w.heap[b]? = some (.cells A 78 (0, 0)) ∧ A.size = 135

theorem room78 : (Yba.prog.info? 78).map (fun i => decide (i.size = 0)) = some false := by kernel_rfl
theorem run_by {P : Program} {w : World} {X Y : Sem Value} {r : Result Value} (h : X = Y) (h2 : Sem.run P Y w = r) : Sem.run P X w = r := by rw [h]; exact h2
theorem to74 (w : World) (b : Nat) (h : IsSeg w b) : (convert 70 74 (.pointer (some ⟨b, 0, none⟩))).run Yba.prog w = .ok (.pointer (some ⟨b, 0, none⟩)) w := by
  obtain ⟨A, hA, hs⟩ := h
  have hc : ∃ v, w.cell? ⟨b, 0, none⟩ = some v := by
    rw [cell_of_row w b 0 A 78 (0, 0) hA]
    exact ⟨A[0], by simp [hs]⟩
  obtain ⟨v, hv⟩ := hc
  obtain ⟨t, n, hsh, hlt, hsp⟩ := World.shape?_of_cell? hv
  obtain ⟨i, hi, hz0⟩ := Option.map_eq_some_iff.1 room78
  have hz : i.size ≠ 0 := by simpa using hz0
  have hge : ¬ n = 0 := by
    have : (0 : Nat) < n := hlt
    omega
  simp only [convert, Sem.run_bind, run_underlying Yba.underlying70, run_underlying Yba.underlying74, Result.andThen]
  refine run_by (Y := underlying 70 >>= fun a => underlying 74 >>= fun b => _) rfl ?_
  simp [run_underlying Yba.underlying70, run_underlying Yba.underlying74, Conv.seenAt, viewAt, cellsIn, sizeOf, typeInfo, hi, hz, hsh, hge, Result.andThen]
theorem to74_nil (w : World) : (convert 70 74 (.pointer none)).run Yba.prog w = .ok (.pointer none) w := by
  kernel_rfl
theorem info78 : (Yba.prog.info? 78).isSome = true := by kernel_rfl
theorem from74 (w : World) (b : Nat) (h : IsSeg w b) : (convert 74 70 (.pointer (some ⟨b, 0, none⟩))).run Yba.prog w = .ok (.pointer (some ⟨b, 0, none⟩)) w := by
  obtain ⟨A, hA, hs⟩ := h
  obtain ⟨j, hj⟩ := Option.isSome_iff_exists.1 info78
  have hsh : w.shape? b = some (78, 135) := by simp [World.shape?, hA, hs]
  have hlies : liesAt Yba.prog Yba.prog.depth 78 (135 / Yba.prog.cellsOf 78) 0 78 1 = true := by kernel_rfl
  simp only [convert, Sem.run_bind, run_underlying Yba.underlying70, run_underlying Yba.underlying74, Result.andThen]
  refine run_by (Y := underlying 74 >>= fun a => underlying 70 >>= fun b => _) rfl ?_
  simp [run_underlying Yba.underlying70, run_underlying Yba.underlying74, Conv.seenAt, viewAt, hsh, variablesAt, hlies, sizeOf, typeInfo, hj]
theorem from74_nil (w : World) : (convert 74 70 (.pointer none)).run Yba.prog w = .ok (.pointer none) w := by
  kernel_rfl

end Go.Proofs.Ybulkecaq
