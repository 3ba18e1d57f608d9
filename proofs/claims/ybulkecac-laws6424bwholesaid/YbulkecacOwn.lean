import Derived.Test.YbulkecacOrd
import Derived.Maps.Range
import Derived.Deep.AppendLies
import Derived.Deep.RegionHeld3
namespace Go.Proofs.Ybulkecac
open Go.RowKit Go.Sort
set_option linter.unusedSimpArgs false
set_option linter.unusedVariables false

/-- what append wants to know of a slice type t over elements e -/
structure AppT (t e : TypeId) (size bytes : Nat) : Prop where
  ht : Yba.prog.underlying t = some (.slice e)
  hi : ∃ i z, Yba.prog.info? e = some i ∧ i.zero = some z ∧ i.size = size ∧ i.bytes = bytes ∧ z.cells.size = size
  hs : 0 < size
  hb : bytes ≤ 1000

theorem appHi {e : TypeId} {size bytes : Nat} {z : Value} (h : (Yba.prog.info? e).map (fun i => (i.zero, i.size, i.bytes)) = some (some z, size, bytes)) (hz : z.cells.size = size) :
    ∃ i z, Yba.prog.info? e = some i ∧ i.zero = some z ∧ i.size = size ∧ i.bytes = bytes ∧ z.cells.size = size := by
  cases hi : Yba.prog.info? e with
  | none => rw [hi] at h; cases h
  | some i =>
    rw [hi] at h
    simp only [Option.map_some, Option.some.injEq, Prod.mk.injEq] at h
    exact ⟨i, z, rfl, h.1, h.2.1, h.2.2, hz⟩

theorem A102 : AppT 100 102 2 16 := ⟨by kernel_rfl, appHi (z := .agg #[.int .i32 0, .pointer none]) (by kernel_rfl) rfl, by decide, by decide⟩
theorem A87 : AppT 75 87 2 16 := ⟨by kernel_rfl, appHi (z := .agg #[.int .i32 0, .int .i64 0]) (by kernel_rfl) rfl, by decide, by decide⟩
theorem A21 : AppT 40 21 1 4 := ⟨by kernel_rfl, appHi (z := .int .i32 0) (by kernel_rfl) rfl, by decide, by decide⟩
theorem A78 : AppT 45 78 1 8 := ⟨by kernel_rfl, appHi (z := .pointer none) (by kernel_rfl) rfl, by decide, by decide⟩
theorem A89 : AppT 56 89 5 20 := ⟨by kernel_rfl, appHi (z := .agg #[.int .i32 0, .int .i32 0, .int .i32 0, .int .i32 0, .int .i32 0]) (by kernel_rfl) rfl, by decide, by decide⟩
theorem A33 : AppT 90 33 1 8 := ⟨by kernel_rfl, appHi (z := .int .u64 0) (by kernel_rfl) rfl, by decide, by decide⟩

/-- append of one element to a row of the call's own, at a step of a region that draws -/
theorem stepA {t e : TypeId} {size bytes : Nat} (T : AppT t e size bytes) {w : World} {ops : Array Oper} {o : Oper} {a : Act} {K : Act → World → Prop} {Q : Exit → Act → World → Prop} {E : Prop} (hgd : o.guard = none) (s x : Operand)
    (ho : o.op = .call { callee := .builtin .append, args := #[s, x], argTypes := #[t, t] })
    (B : Nat) (v : Value) (n : Nat) (xs : List Value) (hs : a.eval s = v) (hown : w.ownsRow B e size v n xs)
    (H0 : Nat) (cs : Array Value) (hx : a.eval x = .slice (some ⟨H0, 0, none⟩) 1 1) (hb : w.heap[H0]? = some (.cells cs e (0, 0))) (hc : cs.size = size) (h1 : ∀ u ∈ cs.toList, u.oneCell' = true)
    (hn : n < 4000000) (hbase : B ≤ w.heap.size) (H : Nat) (hH : w.heap.size = H)
    (h : ∀ g cap w', w'.ownsRow B e size (.slice (some ⟨g, 0, none⟩) (n + 1) cap) (n + 1) (xs ++ cs.toList) → w.grownBy w' v.ownBlock → (v.ownBlock = some g ∨ g = H) → g < w'.heap.size → K (a.put o.dst (.slice (some ⟨g, 0, none⟩) (n + 1) cap)) w') :
    if Region.wanted o (yielded ops a.tmps) = true then Oper.wp Yba.prog o a w K Q else E := by
  obtain ⟨i, z, hi, hz, hsz, hby, hzs⟩ := T.hi
  have hbb : (n + 1) * bytes ≤ 4000001 * 1000 := Nat.mul_le_mul (by omega) T.hb
  exact step_append_lies w hgd s x t ho B e i z size bytes T.ht hi hz hsz hby hzs T.hs v n xs hs hown ⟨H0, 0, none⟩ 1 1 cs.toList hx (by simp [hc]) (World.news_of_block hb) h1 (by omega) (by simp only [maxLen]; omega) (by omega) hbase H hH h

/-- .. in a plain region -/
theorem wpA {t e : TypeId} {size bytes : Nat} (T : AppT t e size bytes) {w : World} {ops : Array Oper} {rest : List Oper} {o : Oper} {a : Act} {Q : Exit → Act → World → Prop} (hgd : o.guard = none) (s x : Operand)
    (ho : o.op = .call { callee := .builtin .append, args := #[s, x], argTypes := #[t, t] })
    (B : Nat) (v : Value) (n : Nat) (xs : List Value) (hs : a.eval s = v) (hown : w.ownsRow B e size v n xs)
    (H0 : Nat) (cs : Array Value) (hx : a.eval x = .slice (some ⟨H0, 0, none⟩) 1 1) (hb : w.heap[H0]? = some (.cells cs e (0, 0))) (hc : cs.size = size) (h1 : ∀ u ∈ cs.toList, u.oneCell' = true)
    (hn : n < 4000000) (hbase : B ≤ w.heap.size) (H : Nat) (hH : w.heap.size = H)
    (h : ∀ g cap w', w'.ownsRow B e size (.slice (some ⟨g, 0, none⟩) (n + 1) cap) (n + 1) (xs ++ cs.toList) → w.grownBy w' v.ownBlock → (v.ownBlock = some g ∨ g = H) → g < w'.heap.size → wpList Yba.prog ops Q rest (a.put o.dst (.slice (some ⟨g, 0, none⟩) (n + 1) cap)) w') :
    wpList Yba.prog ops Q (o :: rest) a w := by
  obtain ⟨i, z, hi, hz, hsz, hby, hzs⟩ := T.hi
  have hbb : (n + 1) * bytes ≤ 4000001 * 1000 := Nat.mul_le_mul (by omega) T.hb
  exact wpList_append_lies w hgd s x t ho B e i z size bytes T.ht hi hz hsz hby hzs T.hs v n xs hs hown ⟨H0, 0, none⟩ 1 1 cs.toList hx (by simp [hc]) (World.news_of_block hb) h1 (by omega) (by simp only [maxLen]; omega) (by omega) hbase H hH h

end Go.Proofs.Ybulkecac
