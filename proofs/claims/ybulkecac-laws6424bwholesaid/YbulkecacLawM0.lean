import Derived.Test.YbulkecacPS
import Derived.Laws.StructEq
namespace Go.Proofs.Ybulkecac
open Go.RowKit Go.Sort
open Go.ChangeMaps (setBlock)
set_option linter.unusedSimpArgs false
set_option linter.unusedVariables false

theorem eqKey (i j : Nat) (w : World) : (Op.equal 74 (shapeKey i) (shapeKey j)).run Yba.prog w = .ok (decide (i = j)) w := by
  have hS : Yba.prog.underlying 74 = some (.struct (Yba.prog.fieldsOf 74)) := by kernel_rfl
  have hp : Yba.prog.stoodInHeld 74 = false := by kernel_rfl
  unfold Op.equal Op.maxDepth shapeKey
  rw [show (10000 : Nat) = 9999 + 1 from rfl, run_equalIn_struct w 9999 74 _ _ hS hp]
  simp only [Program.fieldsOf, Yba.underlying74]
  have u3 := Yba.underlying3
  have a3 := Yba.isAgg3
  go_simp
  have h44 : (Op.equalIn 9999 44 (.pointer none) (.pointer none)).run Yba.prog w = .ok true w := by
    rw [show (9999 : Nat) = 9998 + 1 from rfl, Op.equalIn]
    simp only [Sem.run_bind, run_underlying Yba.underlying44, Result.andThen_ok]
    rfl
  rw [h44]
  by_cases h : i = j
  · subst h; simp [Result.andThen]
  · rw [if_neg (by omega)]; simp [h]

theorem checkOne (n : Nat) (t : TypeId) (d : TypeDesc) (v : Value) (w : World) (h : Yba.prog.underlying t = some d) (h1 : ∀ x, d ≠ .interface x) (h2 : ∀ a b, d ≠ .array a b) (h3 : ∀ f, d ≠ .struct f) : (Instr.checkKey false (n + 1) t v).run Yba.prog w = .ok () w := by
  rw [Instr.checkKey]
  simp only [Sem.run_bind, run_underlying h, Result.andThen_ok]
  cases d <;> first | rfl | exact absurd rfl (h1 _) | exact absurd rfl (h2 _ _) | exact absurd rfl (h3 _)

set_option maxRecDepth 10000 in
theorem checkKey_ (i : Nat) (w : World) : (Instr.checkKey false 10000 74 (shapeKey i)).run Yba.prog w = .ok () w := by
  have c9 : ∀ v w, (Instr.checkKey false 9999 9 v).run Yba.prog w = .ok () w := fun v w => checkOne 9998 9 _ v w Yba.underlying9 (by simp) (by simp) (by simp)
  have c3 : ∀ v w, (Instr.checkKey false 9999 3 v).run Yba.prog w = .ok () w := fun v w => checkOne 9998 3 _ v w Yba.underlying3 (by simp) (by simp) (by simp)
  have c44 : ∀ v w, (Instr.checkKey false 9999 44 v).run Yba.prog w = .ok () w := fun v w => checkOne 9998 44 _ v w Yba.underlying44 (by simp) (by simp) (by simp)
  have c5 : ∀ v w, (Instr.checkKey false 9999 5 v).run Yba.prog w = .ok () w := fun v w => checkOne 9998 5 _ v w Yba.underlying5 (by simp) (by simp) (by simp)
  have c4 : ∀ v w, (Instr.checkKey false 9999 4 v).run Yba.prog w = .ok () w := fun v w => checkOne 9998 4 _ v w Yba.underlying4 (by simp) (by simp) (by simp)
  unfold shapeKey
  rw [show (10000 : Nat) = 9999 + 1 from rfl, Instr.checkKey]
  simp only [Sem.run_bind, run_underlying Yba.underlying74, Result.andThen_ok]
  rw [← Array.forIn_toList]
  simp only [List.forIn_cons, List.forIn_nil]
  go_simp

theorem findAsk (i : Nat) (w : World) : ∀ (l : List MapEntry) (m : Nat), (∀ e ∈ l, ∃ j, j ≠ i ∧ e.key = shapeKey j) → (Instr.findAsking 74 (shapeKey i) l m).run Yba.prog w = .ok none w
  | [], m, _ => by rw [Instr.findAsking]; rfl
  | e :: l, m, h => by
    obtain ⟨j, hj, he⟩ := h e (by simp)
    rw [Instr.findAsking]
    simp only [Sem.run_bind, he, eqKey, Result.andThen_ok]
    rw [decide_eq_false (fun e => hj e.symm)]
    exact findAsk i w l (m + 1) (fun e he => h e (by simp [he]))

theorem findKey_ (N i : Nat) (w : World) : (Instr.findKey 74 (shapeKey i) (shapeEs N i).toList).run Yba.prog w = .ok none w := by
  have hall : ∀ e ∈ (shapeEs N i).toList, ∃ j, j ≠ i ∧ e.key = shapeKey j := by
    intro e he
    simp only [shapeEs, List.mem_map, List.mem_range] at he
    obtain ⟨j, hj, rfl⟩ := he
    exact ⟨j, by omega, rfl⟩
  generalize (shapeEs N i).toList = l at hall
  unfold Instr.findKey
  simp only [Sem.run_bind, run_underlying Yba.underlying74, Result.andThen_ok]
  cases l with
  | nil => rfl
  | cons e l =>
    obtain ⟨j, hj, he⟩ := hall e (by simp)
    have h0 : ∀ fs, Instr.findNow (.struct fs) (shapeKey i) (e :: l) 0 = none := fun fs => by
      rw [Instr.findNow]; rfl
    rw [h0]
    exact findAsk i w (e :: l) 0 hall

/-- prog.shapes[shape{name: "p", arity: i}] = schemas[i] -/
theorem upd_ (N i r : Nat) (w : World) (h : w.heap[r]? = some (.map (shapeEs N i) i)) : (Instr.mapUpdate 69 (.map (some r)) (shapeKey i) (.pointer (some ⟨N + 1 + i, 0, none⟩))).run Yba.prog w = .ok () (setBlock w r (.map (shapeEs N (i + 1)) (i + 1))) := by
  have he : (shapeEs N i).push { key := shapeKey i, val := .pointer (some ⟨N + 1 + i, 0, none⟩), born := i } = shapeEs N (i + 1) := by
    simp [shapeEs, List.range_succ]
  unfold Instr.mapUpdate
  simp only [Sem.run_bind, run_underlying Yba.underlying69, Result.andThen_ok, MapKept.run_getObj_map h, checkKey_, findKey_, he, MapKept.run_setObj_map _ h]
  rfl
end Go.Proofs.Ybulkecac
