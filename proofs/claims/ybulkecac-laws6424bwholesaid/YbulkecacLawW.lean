import Derived.Test.YbulkecacLawT3
import Derived.Deep.OwnRows
namespace Go.Proofs.Ybulkecac
open Go.RowKit Go.Sort Go.Shelf
set_option linter.unusedSimpArgs false
set_option linter.unusedVariables false

/-- the want rows while they are filled -/
structure Wn (wT : World) (k : Nat) (V : Nat → Value) (L : Nat → List Int) (W : World) : Prop where
  kept : wT.grownBy W none
  cell : ∀ i, i < k → W.cell? ⟨wT.heap.size, i, none⟩ = some (V i)
  frz : ∀ i, i < k → W.frozen? ⟨wT.heap.size, i, none⟩ = false
  row : ∀ i, i < k → W.ownsRow (wT.heap.size + 1) 21 1 (V i) (L i).length ((L i).map (Value.int .i32))
  nil : ∀ i, i < k → L i = [] → V i = .slice none 0 0
  apart : ∀ i j, i < k → j < k → i ≠ j → (V i).ownBlock = none ∨ (V i).ownBlock ≠ (V j).ownBlock
  lt : wT.heap.size < W.heap.size

namespace Wn
variable {wT W W1 W2 : World} {k : Nat} {V : Nat → Value} {L : Nat → List Int}

theorem ne (h : Wn wT k V L W) {j b : Nat} (hj : j < k) (hb : b ≤ wT.heap.size) : some b ≠ (V j).ownBlock := fun e => by
  have := ((h.row j hj).lt b e.symm).1; omega

theorem grown (h : Wn wT k V L W) (hg : W.grownBy W1 none) : Wn wT k V L W1 :=
  ⟨h.kept.trans hg, fun j hj => gcell hg (h.cell j hj), fun j hj => (World.frozen?_of_block (hg.block _ h.lt (by simp))).trans (h.frz j hj), fun j hj => (h.row j hj).kept hg (by cases (V j).ownBlock <;> simp), h.nil, h.apart, Nat.lt_of_lt_of_le h.lt hg.size⟩

theorem app (h : Wn wT k V L W) (hg1 : W.grownBy W1 none) {s gg n cap H : Nat} (hs : s < k) (x : Int)
    (hr : W2.ownsRow (wT.heap.size + 1) 21 1 (.slice (some ⟨gg, 0, none⟩) n cap) ((L s).length + 1) ((L s).map (Value.int .i32) ++ [.int .i32 x]))
    (hg : W1.grownBy W2 (V s).ownBlock) (hat : (V s).ownBlock = some gg ∨ gg = H) (hH : W.heap.size ≤ H) :
    Wn wT k (Sk.upd V s (.slice (some ⟨gg, 0, none⟩) n cap)) (Sk.upd L s (L s ++ [x])) (W2.setCell ⟨wT.heap.size, s, none⟩ (.slice (some ⟨gg, 0, none⟩) n cap)) := by
  have h1 := h.grown hg1
  have hgg : wT.heap.size + 1 ≤ gg := by
    rcases hat with e | e
    · exact ((h.row s hs).lt gg e).1
    · have := h.lt; omega
  have hb : W2.heap[wT.heap.size]? = W1.heap[wT.heap.size]? := hg.block _ h1.lt (h1.ne hs (Nat.le_refl _))
  have hg3 : W2.grownBy (W2.setCell ⟨wT.heap.size, s, none⟩ (.slice (some ⟨gg, 0, none⟩) n cap)) (some wT.heap.size) := ⟨rfl, rfl, rfl, by simp, fun k _ hk => heap_setCell_other _ _ k _ (fun e => hk (by rw [e]))⟩
  have hk2 : wT.grownBy W2 none := h1.kept.andThen hg (fun b hb => Or.inl (by have := ((h1.row s hs).lt b hb).1; omega))
  refine ⟨hk2.andThen hg3 (fun b hb => by cases hb; exact Or.inl (Nat.le_refl _)), fun j hj => ?_, fun j hj => ?_, fun j hj => ?_, fun j hj hl => ?_, fun i j hi hj hij => ?_, ?_⟩
  · unfold Sk.upd
    by_cases e : j = s
    · subst e
      rw [if_pos rfl]
      exact World.cell?_setCell_same' _ _ _ (by rw [World.cell?_of_block hb, h1.cell j hj]; rfl)
    · rw [if_neg e, World.cell?_setCell_other _ _ _ _ (by intro e'; simp only [Addr.mk.injEq] at e'; omega), World.cell?_of_block hb]
      exact h1.cell j hj
  · rw [World.frozen?_setCell, World.frozen?_of_block hb]; exact h1.frz j hj
  · unfold Sk.upd
    by_cases e : j = s
    · subst e
      rw [if_pos rfl, if_pos rfl, List.length_append, List.map_append]
      exact hr.kept hg3 (Or.inr (by simp only [Value.ownBlock]; intro e; cases e; omega))
    · rw [if_neg e, if_neg e]
      refine ((h1.row j hj).kept hg (h.apart j s hj hs e)).kept hg3 (Or.inr (fun e' => ?_))
      have := ((h.row j hj).lt _ e').1; omega
  · unfold Sk.upd at hl ⊢
    by_cases e : j = s
    · rw [if_pos e] at hl; simp at hl
    · rw [if_neg e] at hl ⊢; exact h.nil j hj hl
  · unfold Sk.upd
    by_cases e1 : i = s
    · subst e1
      rw [if_pos rfl, if_neg (fun e => hij e.symm)]
      right
      show some gg ≠ (V j).ownBlock
      rcases hat with e | e
      · rw [← e]
        rcases h.apart j i hj hi (fun e => hij e.symm) with h0 | h0
        · rw [h0]; rw [e]; simp
        · exact h0.symm
      · intro e'
        have := ((h.row j hj).lt gg e'.symm).2; omega
    · rw [if_neg e1]
      by_cases e2 : j = s
      · subst e2
        rw [if_pos rfl]
        right
        show (V i).ownBlock ≠ some gg
        rcases hat with e | e
        · rw [← e]
          rcases h.apart i j hi hj hij with h0 | h0
          · rw [h0, e]; simp
          · exact h0
        · intro e'
          have := ((h.row i hi).lt gg e').2; omega
      · rw [if_neg e2]; exact h.apart i j hi hj hij
  · have h2 : wT.heap.size < W2.heap.size := Nat.lt_of_lt_of_le h1.lt hg.size
    simpa using h2

end Wn

open Classical

/-- what is wanted of schema j, behind the sayings ps -/
def Wsp (tt : Nat → Option Nat) (k : Nat) (ps : List (Int × Nat)) (L : Nat → List Int) : Prop :=
  ∀ j, j < k → (L j).length ≤ ps.length ∧ ∀ x, x ∈ L j ↔ ∃ h, (x, h) ∈ ps ∧ Rch tt h j

def WsM (tt : Nat → Option Nat) (k : Nat) (ps : List (Int × Nat)) (sp : Int) (h : Nat) (o : Option Nat) (L : Nat → List Int) : Prop :=
  (∀ s, o = some s → Rch tt h s) ∧ ∀ j, j < k → (L j).length ≤ ps.length + (if (∃ s, o = some s ∧ Rch tt s j) then 0 else 1) ∧
    ∀ x, x ∈ L j ↔ (∃ h', (x, h') ∈ ps ∧ Rch tt h' j) ∨ (x = sp ∧ Rch tt h j ∧ ¬ ∃ s, o = some s ∧ Rch tt s j)

theorem Wsp.start {tt : Nat → Option Nat} {k : Nat} {ps : List (Int × Nat)} {L : Nat → List Int} (H : Wsp tt k ps L) (sp : Int) (h : Nat) : WsM tt k ps sp h (some h) L := by
  refine ⟨fun s e => by cases e; exact .refl _, fun j hj => ?_⟩
  obtain ⟨h2, h3⟩ := H j hj
  refine ⟨by omega, fun x => ?_⟩
  rw [h3 x]
  constructor
  · exact Or.inl
  · rintro (h0 | ⟨_, hr, hn⟩)
    · exact h0
    · exact absurd ⟨h, rfl, hr⟩ hn

theorem WsM.fin {tt : Nat → Option Nat} {k : Nat} {ps : List (Int × Nat)} {sp : Int} {h : Nat} {L : Nat → List Int} (H : WsM tt k ps sp h none L) : Wsp tt k (ps ++ [(sp, h)]) L := by
  intro j hj
  obtain ⟨h2, h3⟩ := H.2 j hj
  refine ⟨by simp at h2 ⊢; exact h2, fun x => ?_⟩
  rw [h3 x]
  constructor
  · rintro (⟨h', hm, hr⟩ | ⟨rfl, hr, _⟩)
    · exact ⟨h', List.mem_append_left _ hm, hr⟩
    · exact ⟨h, by simp, hr⟩
  · rintro ⟨h', hm, hr⟩
    rcases List.mem_append.1 hm with hm | hm
    · exact Or.inl ⟨h', hm, hr⟩
    · rw [List.mem_singleton] at hm
      cases hm
      exact Or.inr ⟨rfl, hr, by simp⟩

theorem WsM.next {tt : Nat → Option Nat} {k : Nat} {ps : List (Int × Nat)} {sp : Int} {h s : Nat} {L : Nat → List Int} (H : WsM tt k ps sp h (some s) L) (ht : ∀ i j, tt i = some j → i < j ∧ j < k) (hs : s < k) :
    WsM tt k ps sp h (tt s) (Sk.upd L s (L s ++ [sp])) := by
  have hhead : ∀ j, Rch tt s j ↔ j = s ∨ ∃ c, tt s = some c ∧ Rch tt c j := fun j => ⟨Rch.head, by
    rintro (rfl | ⟨c, hc, r⟩)
    · exact .refl _
    · exact .cons hc r⟩
  have hself : ¬ ∃ c, tt s = some c ∧ Rch tt c s := by
    rintro ⟨c, hc, r⟩
    have := r.le (fun i j e => (ht i j e).1)
    have := (ht s c hc).1
    omega
  refine ⟨fun c hc => (H.1 s rfl).step hc, fun j hj => ?_⟩
  obtain ⟨h2, h3⟩ := H.2 j hj
  unfold Sk.upd
  by_cases e : j = s
  · subst e
    rw [if_pos rfl]
    have hss : ∃ s', some j = some s' ∧ Rch tt s' j := ⟨j, rfl, .refl _⟩
    rw [if_pos hss] at h2
    refine ⟨by rw [if_neg hself, List.length_append]; simp; exact h2, fun x => ?_⟩
    rw [List.mem_append, List.mem_singleton, h3 x]
    constructor
    · rintro ((h0 | ⟨_, _, hn⟩) | rfl)
      · exact Or.inl h0
      · exact absurd hss hn
      · exact Or.inr ⟨rfl, H.1 j rfl, hself⟩
    · rintro (h0 | ⟨rfl, _, _⟩)
      · exact Or.inl (Or.inl h0)
      · exact Or.inr rfl
  · rw [if_neg e]
    have hiff : (∃ s', some s = some s' ∧ Rch tt s' j) ↔ ∃ c, tt s = some c ∧ Rch tt c j := by
      constructor
      · rintro ⟨s', e', r⟩; cases e'
        rcases (hhead j).1 r with h0 | h0
        · exact absurd h0 e
        · exact h0
      · rintro h0; exact ⟨s, rfl, (hhead j).2 (Or.inr h0)⟩
    refine ⟨?_, fun x => ?_⟩
    · by_cases hq : ∃ c, tt s = some c ∧ Rch tt c j
      · rw [if_pos (hiff.2 hq)] at h2; rw [if_pos hq]; exact h2
      · rw [if_neg (fun h0 => hq (hiff.1 h0))] at h2; rw [if_neg hq]; exact h2
    · rw [h3 x, hiff]

end Go.Proofs.Ybulkecac
