import Derived.Test.YbulkecacLawP
namespace Go.Proofs.Ybulkecac
open Go.RowKit Go.Sort Go.Shelf
set_option linter.unusedSimpArgs false
set_option linter.unusedVariables false

/-- a slice of int32 that may be written, and what it holds -/
def RowI (W : World) (v : Value) (l : List Int) : Prop :=
  (l = [] ∧ v = .slice none 0 0) ∨ ∃ g c, v = .slice (some ⟨g, 0, none⟩) l.length c ∧ l.length ≤ c ∧ g < W.heap.size ∧ l ≠ [] ∧ Holds (Value.int .i32) W g 0 l.toArray

/-- .. that is read -/
def CellsI (W : World) (v : Value) (l : List Int) : Prop :=
  (l = [] ∧ ∃ p c, v = .slice p 0 c) ∨ ∃ g c, v = .slice (some ⟨g, 0, none⟩) l.length c ∧ l ≠ [] ∧ ∀ q, q < l.length → W.cell? ⟨g, q, none⟩ = some (.int .i32 l[q]!)

theorem RowI.cells {W : World} {v : Value} {l : List Int} (h : RowI W v l) : CellsI W v l := by
  rcases h with ⟨h1, h2⟩ | ⟨g, c, h1, h2, h3, h4, h5⟩
  · exact Or.inl ⟨h1, _, _, h2⟩
  · refine Or.inr ⟨g, c, h1, h4, fun q hq => ?_⟩
    have := (h5 q (by simpa using hq)).1
    simpa using this

theorem CellsI.kept {W W' : World} {v : Value} {l : List Int} (h : CellsI W v l) (hk : ∀ a u, W.cell? a = some u → some a.block = v.ownBlock → W'.cell? a = some u) : CellsI W' v l := by
  rcases h with h | ⟨g, c, h1, h2, h3⟩
  · exact Or.inl h
  · exact Or.inr ⟨g, c, h1, h2, fun q hq => hk _ _ (h3 q hq) (by rw [h1]; rfl)⟩

theorem cellsI_of_row {W : World} {B : Nat} {v : Value} {l : List Int} (h : W.ownsRow B 21 1 v l.length (l.map (Value.int .i32))) : CellsI W v l := by
  by_cases hl : l = []
  · left
    refine ⟨hl, ?_⟩
    rcases h.2 with ⟨h1, h2⟩ | ⟨g, cap, cur, h1, _⟩
    · exact ⟨_, _, h1⟩
    · rw [hl] at h1; exact ⟨_, _, h1⟩
  · right
    obtain ⟨g, cap, h1, h2, h3⟩ := h.form (List.length_pos_iff.2 hl)
    refine ⟨g, cap, h1, hl, fun q hq => ?_⟩
    have := h.cells (g := g) (by rw [h1]; rfl) q (.int .i32 l[q]!) (by rw [List.getElem?_map, List.getElem?_eq_getElem hq, getElem!_pos l q hq]; rfl)
    rw [addr_add0] at this
    exact this

theorem rowI_of_row {W : World} {B : Nat} {v : Value} {l : List Int} (h : W.ownsRow B 21 1 v l.length (l.map (Value.int .i32))) (hn : l = [] → v = .slice none 0 0) : RowI W v l := by
  by_cases hl : l = []
  · exact Or.inl ⟨hl, hn hl⟩
  · right
    have hc := cellsI_of_row h
    rcases h.2 with ⟨h1, h2⟩ | ⟨g, cap, cur, h1, hB, hg, hcap, _⟩
    · exact absurd (List.length_eq_zero_iff.1 h2) hl
    · refine ⟨g, cap, h1, hcap, (Array.getElem?_eq_some_iff.1 hg).1, hl, fun q hq => ⟨?_, by simp [World.frozen?, hg]⟩⟩
      rcases hc with ⟨h0, _⟩ | ⟨g', c', h1', _, h3⟩
      · exact absurd h0 hl
      · obtain rfl : g' = g := by rw [h1] at h1'; cases h1'; rfl
        have := h3 q (by simpa using hq)
        simpa using this

/-- slices.Sort, at nothing too. -/
theorem sortU (W : World) (v : Value) (l : List Int) (h : RowI W v l) (hlen : l.length < 2000000) :
    Calls Yba.prog 13 #[v] W fun e w' => e = .returned (.tuple #[]) ∧ W.grownBy w' v.ownBlock ∧ ∃ d : List Int, (∀ x, x ∈ d ↔ x ∈ l) ∧ SortedIn ltInt 0 d.length d.toArray ∧ d.length = l.length ∧ RowI w' v d := by
  rcases h with ⟨h1, h2⟩ | ⟨g, c, h1, h2, h3, h4, h5⟩
  · subst h1 h2
    refine (sort_nil W).mono ?_
    rintro e w' ⟨rfl, rfl⟩
    exact ⟨rfl, grefl _ _, [], by simp, fun i j _ _ h => by simp at h, rfl, Or.inl ⟨rfl, rfl⟩⟩
  · subst h1
    have S : SI W g 0 l.toArray W := ⟨fun i hi => by have := (h5 i hi).1; simpa using this, fun i hi => by have := (h5 i hi).2; simpa using this, grefl _ _, h3⟩
    have C := sort_ g 0 c l.toArray W S (by simp; omega)
    have C' : Calls Yba.prog 13 #[.slice (some ⟨g, 0, none⟩) l.length c] W _ := C
    refine C'.mono ?_
    rintro e w' ⟨rfl, d, hp, hs, S'⟩
    have hsz : d.size = l.length := by rw [hp.1]; simp
    have hperm : d.toList.Perm l := by
      have := hp.2.2
      rw [show l.toArray.size = l.length by simp] at this
      rw [show (d.extract 0 l.length) = d by rw [← hsz]; simp, show (l.toArray.extract 0 l.length) = l.toArray by simp] at this
      simpa using this
    refine ⟨rfl, S'.kept, d.toList, fun x => hperm.mem_iff, ?_, by simp [hsz], Or.inr ⟨g, c, by simp [hsz], by simp [hsz]; exact h2, S'.lt, ?_, ?_⟩⟩
    · rw [show l.toArray.size = d.toList.length by simp [hsz]] at hs
      simpa using hs
    · intro e
      have := congrArg List.length e
      simp [hsz] at this
      exact h4 this
    · intro q hq
      have hq' : q < d.size := by simpa using hq
      exact ⟨by have := S'.cell q hq'; simpa using this, by have := S'.froz q hq'; simpa using this⟩

/-- slices.Compact of a sorted row. -/
theorem compactU (W : World) (v : Value) (l : List Int) (h : RowI W v l) (hs : SortedIn ltInt 0 l.length l.toArray) (hlen : l.length < 2000000) :
    Calls Yba.prog 14 #[v] W fun e w' => W.grownBy w' v.ownBlock ∧ ∃ (v2 : Value) (d : List Int), e = .returned v2 ∧ (∀ x, x ∈ d ↔ x ∈ l) ∧ d.Pairwise (· < ·) ∧ d.length ≤ l.length ∧ CellsI w' v2 d := by
  rcases h with ⟨h1, h2⟩ | ⟨g, c, h1, h2, h3, h4, h5⟩
  · subst h1 h2
    refine (compact_zero none 0 W).mono ?_
    rintro e w' ⟨rfl, rfl⟩
    exact ⟨grefl _ _, _, [], rfl, by simp, .nil, by simp, Or.inl ⟨rfl, _, _, rfl⟩⟩
  · subst h1
    have C := AnyE.slices_Compact Yba.lco (Value.int .i32) (fun _ => rfl) (EqlAt.intD _ _ .i32) (NeqAt.intD _ _ .i32) 0 Yba.zeroValue21 g 0 c l.toArray W h5 (by simp; omega) (by simpa using h2)
    have C' : Calls Yba.prog 14 #[.slice (some ⟨g, 0, none⟩) l.length c] W _ := C
    refine C'.mono ?_
    rintro e w' ⟨rfl, q, rfl⟩
    obtain ⟨p1, p2⟩ := compact_spec l.toArray (by simpa using hs) l.length (by simp)
    have hsz : l.toArray.size = l.length := by simp
    rw [hsz]
    generalize hD : Lib.compactUpTo l.toArray l.length = D at p1 p2
    have hDl : D.length ≤ l.length := by
      rw [← hD]; unfold Lib.compactUpTo
      rw [List.length_map]
      exact Nat.le_trans (List.length_filter_le _ _) (by simp)
    have hmem : ∀ x, x ∈ D ↔ x ∈ l := fun x => by
      rw [p2 x]
      constructor
      · rintro ⟨j, hj, rfl⟩
        rw [getElem!_pos l.toArray j (by simpa using hj)]
        simp
      · intro hx
        obtain ⟨j, hj, rfl⟩ := List.getElem_of_mem hx
        exact ⟨j, hj, by rw [getElem!_pos l.toArray j (by simpa using hj)]; simp⟩
    have hDne : D ≠ [] := by
      intro e
      obtain ⟨x, hx⟩ := List.exists_mem_of_ne_nil l h4
      have := (hmem x).2 hx
      rw [e] at this
      simp at this
    have hH : Holds (Value.int .i32) (putRow (Value.int .i32) (Sort.ahead W q) g 0 (D ++ List.replicate (l.length - D.length) 0).toArray) g 0 (D ++ List.replicate (l.length - D.length) 0).toArray := by
      refine holds_putRow (Value.int .i32) (Sort.ahead W q) g 0 l.toArray _ ?_ (by simp; omega)
      exact h5
    refine ⟨?_, _, D, rfl, hmem, p1, hDl, Or.inr ⟨g, c, rfl, hDne, fun j hj => ?_⟩⟩
    · refine ⟨rfl, rfl, rfl, by simp, fun k hk hne => ?_⟩
      have : g ≠ k := fun e => hne (by rw [e]; rfl)
      simp [putRow, mapBlock, Sort.ahead, Array.getElem?_modify, this]
    · have := (hH j (by simp; omega)).1
      rw [Nat.zero_add] at this
      rw [this]
      congr 2
      rw [getElem!_pos _ j (by simp; omega), getElem!_pos D j hj]
      simp [List.getElem_append_left hj]

theorem allEq_self (l : List Int) : Lib.allEq (fun x y => decide (x = y)) l l = true := Lib.allEq_all _ _ _ rfl (fun j _ => by simp)

/-- slices.Equal of two rows that read alike. -/
theorem equalU (W : World) (u v : Value) (l : List Int) (hu : CellsI W u l) (hv : CellsI W v l) (hlen : l.length < 2000000) :
    Calls Yba.prog 15 #[u, v] W fun e w' => e = .returned (.bool true) ∧ W.grownBy w' none := by
  rcases hu with ⟨h1, p, c, rfl⟩ | ⟨g, c, rfl, h2, h3⟩
  · rcases hv with ⟨_, p', c', rfl⟩ | ⟨g', c', rfl, h2', h3'⟩
    · refine (equal_zero p p' c c' W).mono ?_
      rintro e w' ⟨rfl, rfl⟩
      exact ⟨rfl, grefl _ _⟩
    · exact absurd h1 h2'
  · rcases hv with ⟨h1', _⟩ | ⟨g', c', rfl, h2', h3'⟩
    · exact absurd h1' h2
    · have C := AnyE.slices_Equal Yba.leq (Value.int .i32) (fun x y => decide (x = y)) (NeqAt.intD _ _ .i32) g 0 l.length c g' 0 l.length c' l l W (Nat.le_refl _) (Nat.le_refl _) (by omega) (by omega) (fun j hj => by rw [Nat.zero_add]; exact h3 j hj) (fun j hj => by rw [Nat.zero_add]; exact h3' j hj)
      have C' : Calls Yba.prog 15 #[.slice (some ⟨g, 0, none⟩) l.length c, .slice (some ⟨g', 0, none⟩) l.length c'] W _ := C
      refine C'.mono ?_
      rintro e w' ⟨rfl, q, rfl⟩
      exact ⟨by rw [List.take_length, allEq_self], gdrewN _ _ _⟩

end Go.Proofs.Ybulkecac
