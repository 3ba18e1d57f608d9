import Derived.Test.YbulkecacArrB
import Derived.Test.YbulkecacOrdJ
namespace Go.Proofs.Ybulkecac
open Go.RowKit Go.Sort Go.Shelf
set_option linter.unusedSimpArgs false
set_option linter.unusedVariables false

theorem compact_spec (d : Array Int) (hs : SortedIn ltInt 0 d.size d) : ∀ m, m ≤ d.size → (Lib.compactUpTo d m).Pairwise (· < ·) ∧ (∀ x, x ∈ Lib.compactUpTo d m ↔ ∃ j, j < m ∧ d[j]! = x) := by
  intro m
  induction m with
  | zero => intro _; exact ⟨.nil, fun x => by simp [Lib.compactUpTo]⟩
  | succ m ih =>
    intro hm
    obtain ⟨h1, h2⟩ := ih (by omega)
    rw [Lib.compactUpTo_succ]
    by_cases hk : Lib.keeps d m = true
    · rw [if_pos hk]
      refine ⟨List.pairwise_append.2 ⟨h1, List.pairwise_singleton _ _, fun a ha b hb => ?_⟩, fun x => ?_⟩
      · rw [List.mem_singleton] at hb
        subst hb
        obtain ⟨j, hj, rfl⟩ := (h2 a).1 ha
        have hne : d[m]! ≠ d[m - 1]! := by
          intro e
          simp [Lib.keeps, e] at hk
          omega
        have e1 := hs (m - 1) m (Nat.zero_le _) (by omega) (by omega)
        have e2 : j = m - 1 ∨ ltInt d[m - 1]! d[j]! = false := by
          by_cases e : j = m - 1
          · exact Or.inl e
          · exact Or.inr (hs j (m - 1) (Nat.zero_le _) (by omega) (by omega))
        simp only [ltInt, decide_eq_false_iff_not] at e1 e2
        rcases e2 with rfl | e2 <;> omega
      · rw [List.mem_append, List.mem_singleton, h2 x]
        constructor
        · rintro (⟨j, hj, rfl⟩ | rfl)
          · exact ⟨j, by omega, rfl⟩
          · exact ⟨m, by omega, rfl⟩
        · rintro ⟨j, hj, rfl⟩
          by_cases e : j = m
          · subst e; exact Or.inr rfl
          · exact Or.inl ⟨j, by omega, rfl⟩
    · rw [if_neg hk, List.append_nil]
      refine ⟨h1, fun x => ?_⟩
      rw [h2 x]
      constructor
      · rintro ⟨j, hj, rfl⟩; exact ⟨j, by omega, rfl⟩
      · rintro ⟨j, hj, rfl⟩
        by_cases e : j = m
        · subst e
          have hm0 : j ≠ 0 := fun e => hk (by subst e; simp [Lib.keeps])
          have he : d[j]! = d[j - 1]! := Decidable.byContradiction fun hne => hk (Lib.keeps_pos hne)
          exact ⟨j - 1, by omega, he.symm⟩
        · exact ⟨j, by omega, rfl⟩

theorem inc_unique : ∀ (l1 l2 : List Int), l1.Pairwise (· < ·) → l2.Pairwise (· < ·) → (∀ x, x ∈ l1 ↔ x ∈ l2) → l1 = l2
  | [], [], _, _, _ => rfl
  | [], b :: l2, _, _, h => by simpa using (h b).2 (by simp)
  | a :: l1, [], _, _, h => by simpa using (h a).1 (by simp)
  | a :: l1, b :: l2, h1, h2, h => by
    obtain ⟨ha, h1'⟩ := List.pairwise_cons.1 h1
    obtain ⟨hb, h2'⟩ := List.pairwise_cons.1 h2
    have hab : a = b := by
      rcases List.mem_cons.1 ((h a).1 (by simp)) with e | e
      · exact e
      · rcases List.mem_cons.1 ((h b).2 (by simp)) with e' | e'
        · exact e'.symm
        · have := hb a e; have := ha b e'; omega
    subst hab
    refine congrArg _ (inc_unique l1 l2 h1' h2' fun x => ?_)
    constructor
    · intro hx
      rcases List.mem_cons.1 ((h x).1 (by simp [hx])) with e | e
      · have := ha x hx; omega
      · exact e
    · intro hx
      rcases List.mem_cons.1 ((h x).2 (by simp [hx])) with e | e
      · have := hb x hx; omega
      · exact e

/-- slices.Compact of nothing. -/
theorem compact_zero (p : Option Addr) (c : Nat) (w : World) : Calls Yba.prog 14 #[.slice p 0 c] w fun e w' => e = .returned (.slice p 0 c) ∧ w' = w := by
  go_enter Yba.func14, Yba.ntmps14
  go_wp2
  go_ret
  exact ⟨rfl, rfl⟩

/-- slices.Equal of nothing and nothing. -/
theorem equal_zero (p q : Option Addr) (c d : Nat) (w : World) : Calls Yba.prog 15 #[.slice p 0 c, .slice q 0 d] w fun e w' => e = .returned (.bool true) ∧ w' = w := by
  go_enter Yba.func15, Yba.ntmps15
  go_wp2_with fail
  go_loopg [13] 0 (fun g v wr => v = .int .i64 0 ∧ wr = w)
  case atStart => exact ⟨rfl, rfl⟩
  case round =>
    obtain ⟨rfl, rfl⟩ := hrel
    go_wp2
    go_ret
    exact ⟨rfl, rfl⟩

end Go.Proofs.Ybulkecac
