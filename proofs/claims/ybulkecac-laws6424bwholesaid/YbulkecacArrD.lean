import Derived.Test.YbulkecacArrC
namespace Go.Proofs.Ybulkecac
open Go.RowKit Go.Sort
set_option linter.unusedSimpArgs false
set_option linter.unusedVariables false

/-- the speakers' phase: schema j's speakers are V j, which read as L j -/
structure Sk (wS : World) (N k : Nat) (V : Nat → Value) (L : Nat → List Int) (W : World) : Prop where
  cell : ∀ j, j < k → W.cell? ⟨N + 1 + j, 11, none⟩ = some (V j)
  frz : ∀ j, j < k → W.frozen? ⟨N + 1 + j, 11, none⟩ = false
  row : ∀ j, j < k → W.ownsRow wS.heap.size 21 1 (V j) (L j).length ((L j).map (Value.int .i32))
  apart : ∀ i j, i < k → j < k → i ≠ j → (V i).ownBlock = none ∨ (V i).ownBlock ≠ (V j).ownBlock
  other : ∀ b, b < wS.heap.size → ¬ (N + 1 ≤ b ∧ b < N + 1 + k) → W.heap[b]? = wS.heap[b]?
  sch : ∀ j, j < k → ∀ o, o ≠ 11 → W.cell? ⟨N + 1 + j, o, none⟩ = wS.cell? ⟨N + 1 + j, o, none⟩
  size : wS.heap.size ≤ W.heap.size
  os : W.os = wS.os
  tape : W.tape = wS.tape
  out : W.output = wS.output
  big : N + 6 + k ≤ wS.heap.size

namespace Sk
variable {wS W W1 W2 : World} {N k : Nat} {V : Nat → Value} {L : Nat → List Int}

theorem ne (h : Sk wS N k V L W) {j b : Nat} (hj : j < k) (hb : b < wS.heap.size) : some b ≠ (V j).ownBlock := fun e => by
  have := ((h.row j hj).lt b e.symm).1; omega

theorem grown (h : Sk wS N k V L W) (hg : W.grownBy W1 none) : Sk wS N k V L W1 := by
  have hb : ∀ b, b < wS.heap.size → W1.heap[b]? = W.heap[b]? := fun b hb => hg.block b (Nat.lt_of_lt_of_le hb h.size) (by simp)
  have hB := h.big
  exact ⟨fun j hj => gcell hg (h.cell j hj), fun j hj => (World.frozen?_of_block (hb (N + 1 + j) (by omega))).trans (h.frz j hj), fun j hj => (h.row j hj).kept hg (by cases (V j).ownBlock <;> simp),
    h.apart, fun b hb' hn => (hb b hb').trans (h.other b hb' hn), fun j hj o ho => (World.cell?_of_block (hb (N + 1 + j) (by omega))).trans (h.sch j hj o ho), Nat.le_trans h.size hg.size,
    hg.os.trans h.os, hg.tape.trans h.tape, hg.output.trans h.out, h.big⟩

def upd {α : Type} (f : Nat → α) (s : Nat) (a : α) : Nat → α := fun j => if j = s then a else f j

theorem app (h : Sk wS N k V L W) (hg1 : W.grownBy W1 none) {s gg n cap H : Nat} (hs : s < k) (x : Int)
    (hr : W2.ownsRow wS.heap.size 21 1 (.slice (some ⟨gg, 0, none⟩) n cap) ((L s).length + 1) ((L s).map (Value.int .i32) ++ [.int .i32 x]))
    (hg : W1.grownBy W2 (V s).ownBlock) (hat : (V s).ownBlock = some gg ∨ gg = H) (hH : W.heap.size ≤ H) :
    Sk wS N k (upd V s (.slice (some ⟨gg, 0, none⟩) n cap)) (upd L s (L s ++ [x])) (W2.setCell ⟨N + 1 + s, 11, none⟩ (.slice (some ⟨gg, 0, none⟩) n cap)) := by
  have h1 := h.grown hg1
  have hB := h.big
  have hgg : wS.heap.size ≤ gg := by
    rcases hat with e | e
    · exact ((h.row s hs).lt gg e).1
    · have := h.size; omega
  have hb : ∀ b, b < wS.heap.size → W2.heap[b]? = W1.heap[b]? := fun b hb => hg.block b (Nat.lt_of_lt_of_le hb h1.size) (h1.ne hs hb)
  have hc2 : ∀ j, j < k → ∀ o, W2.cell? ⟨N + 1 + j, o, none⟩ = W1.cell? ⟨N + 1 + j, o, none⟩ := fun j hj o => World.cell?_of_block (hb (N + 1 + j) (by omega))
  have hg3 : W2.grownBy (W2.setCell ⟨N + 1 + s, 11, none⟩ (.slice (some ⟨gg, 0, none⟩) n cap)) (some (N + 1 + s)) := ⟨rfl, rfl, rfl, by simp, fun k _ hk => heap_setCell_other _ _ k _ (fun e => hk (by rw [e]))⟩
  refine ⟨fun j hj => ?_, fun j hj => ?_, fun j hj => ?_, fun i j hi hj hij => ?_, fun b hb' hn => ?_, fun j hj o ho => ?_, ?_, ?_, ?_, ?_, h.big⟩
  · unfold upd
    by_cases e : j = s
    · subst e
      rw [if_pos rfl]
      exact World.cell?_setCell_same' _ _ _ (by rw [hc2 j hj, h1.cell j hj]; rfl)
    · rw [if_neg e, World.cell?_setCell_other _ _ _ _ (by intro e'; simp only [Addr.mk.injEq] at e'; omega), hc2 j hj]
      exact h1.cell j hj
  · rw [World.frozen?_setCell, World.frozen?_of_block (hb (N + 1 + j) (by omega))]; exact h1.frz j hj
  · unfold upd
    by_cases e : j = s
    · subst e
      rw [if_pos rfl, if_pos rfl, List.length_append, List.map_append]
      exact hr.kept hg3 (Or.inr (by simp only [Value.ownBlock]; intro e; cases e; omega))
    · rw [if_neg e, if_neg e]
      refine ((h1.row j hj).kept hg (h.apart j s hj hs e)).kept hg3 (Or.inr (fun e' => ?_))
      have := ((h.row j hj).lt _ e').1; omega
  · unfold upd
    by_cases e1 : i = s
    · subst e1
      rw [if_pos rfl, if_neg (fun e => hij e.symm)]
      right
      show some gg ≠ (V j).ownBlock
      rcases hat with e | e
      · rw [← e]
        rcases h.apart j i hj hi (fun e => hij e.symm) with h0 | h0
        · rw [h0]; rw [e]; simp
        · exact h0.symm
      · intro e'
        have := ((h.row j hj).lt gg e'.symm).2; omega
    · rw [if_neg e1]
      by_cases e2 : j = s
      · subst e2
        rw [if_pos rfl]
        right
        show (V i).ownBlock ≠ some gg
        rcases hat with e | e
        · rw [← e]
          rcases h.apart i j hi hj hij with h0 | h0
          · rw [h0, e]; simp
          · exact h0
        · intro e'
          have := ((h.row i hi).lt gg e').2; omega
      · rw [if_neg e2]; exact h.apart i j hi hj hij
  · rw [heap_setCell_other _ _ _ _ (by show b ≠ N + 1 + s; omega), hb b hb']; exact h1.other b hb' hn
  · rw [World.cell?_setCell_other _ _ _ _ (by intro e'; simp only [Addr.mk.injEq] at e'; omega), hc2 j hj]; exact h1.sch j hj o ho
  · simp; exact Nat.le_trans h1.size hg.size
  · exact hg.os.trans h1.os
  · exact hg.tape.trans h1.tape
  · exact hg.output.trans h1.out

end Sk

open Classical

/-- what schema j's speakers are, behind the says ps -/
def Spk (tt : Nat → Option Nat) (k : Nat) (ps : List (Int × Nat)) (L : Nat → List Int) : Prop :=
  ∀ j, j < k → (L j).Pairwise (· < ·) ∧ (L j).length ≤ ps.length ∧ ∀ x, x ∈ L j ↔ ∃ h, (x, h) ∈ ps ∧ Rch tt h j

/-- .. in the midst of the say (sp, h), which has come to o -/
def SpM (tt : Nat → Option Nat) (k : Nat) (ps : List (Int × Nat)) (sp : Int) (h : Nat) (o : Option Nat) (L : Nat → List Int) : Prop :=
  (∀ s, o = some s → Rch tt h s) ∧ ∀ j, j < k → (L j).Pairwise (· < ·) ∧ (L j).length ≤ ps.length + (if (∃ s, o = some s ∧ Rch tt s j) then 0 else 1) ∧
    ∀ x, x ∈ L j ↔ (∃ h', (x, h') ∈ ps ∧ Rch tt h' j) ∨ (x = sp ∧ Rch tt h j ∧ ¬ ∃ s, o = some s ∧ Rch tt s j)

theorem Spk.start {tt : Nat → Option Nat} {k : Nat} {ps : List (Int × Nat)} {L : Nat → List Int} (H : Spk tt k ps L) (sp : Int) (h : Nat) : SpM tt k ps sp h (some h) L := by
  refine ⟨fun s e => by cases e; exact .refl _, fun j hj => ?_⟩
  obtain ⟨h1, h2, h3⟩ := H j hj
  refine ⟨h1, by omega, fun x => ?_⟩
  rw [h3 x]
  constructor
  · exact Or.inl
  · rintro (h0 | ⟨_, hr, hn⟩)
    · exact h0
    · exact absurd ⟨h, rfl, hr⟩ hn

theorem SpM.fin {tt : Nat → Option Nat} {k : Nat} {ps : List (Int × Nat)} {sp : Int} {h : Nat} {L : Nat → List Int} (H : SpM tt k ps sp h none L) : Spk tt k (ps ++ [(sp, h)]) L := by
  intro j hj
  obtain ⟨h1, h2, h3⟩ := H.2 j hj
  refine ⟨h1, by simp at h2 ⊢; exact h2, fun x => ?_⟩
  rw [h3 x]
  constructor
  · rintro (⟨h', hm, hr⟩ | ⟨rfl, hr, _⟩)
    · exact ⟨h', List.mem_append_left _ hm, hr⟩
    · exact ⟨h, by simp, hr⟩
  · rintro ⟨h', hm, hr⟩
    rcases List.mem_append.1 hm with hm | hm
    · exact Or.inl ⟨h', hm, hr⟩
    · rw [List.mem_singleton] at hm
      cases hm
      exact Or.inr ⟨rfl, hr, by simp⟩

/-- broken off at a schema that has the speaker: so have all behind it -/
theorem SpM.brk {tt : Nat → Option Nat} {k : Nat} {ps : List (Int × Nat)} {sp : Int} {h s : Nat} {L : Nat → List Int} (H : SpM tt k ps sp h (some s) L) (hs : s < k) (hm : sp ∈ L s) : Spk tt k (ps ++ [(sp, h)]) L := by
  have hin : ∃ h', (sp, h') ∈ ps ∧ Rch tt h' s := by
    rcases ((H.2 s hs).2.2 sp).1 hm with h0 | ⟨_, _, hn⟩
    · exact h0
    · exact absurd ⟨s, rfl, .refl _⟩ hn
  obtain ⟨h', hm', hr'⟩ := hin
  intro j hj
  obtain ⟨h1, h2, h3⟩ := H.2 j hj
  refine ⟨h1, by simp; split at h2 <;> omega, fun x => ?_⟩
  rw [h3 x]
  constructor
  · rintro (⟨h', hm, hr⟩ | ⟨rfl, hr, _⟩)
    · exact ⟨h', List.mem_append_left _ hm, hr⟩
    · exact ⟨h, by simp, hr⟩
  · rintro ⟨h2, hm, hr⟩
    rcases List.mem_append.1 hm with hm | hm
    · exact Or.inl ⟨h2, hm, hr⟩
    · rw [List.mem_singleton] at hm
      cases hm
      by_cases hsj : Rch tt s j
      · exact Or.inl ⟨h', hm', hr'.trans hsj⟩
      · exact Or.inr ⟨rfl, hr, by rintro ⟨s', e, r⟩; cases e; exact hsj r⟩

/-- one schema on -/
theorem SpM.next {tt : Nat → Option Nat} {k : Nat} {ps : List (Int × Nat)} {sp : Int} {h s : Nat} {L : Nat → List Int} (H : SpM tt k ps sp h (some s) L) (ht : ∀ i j, tt i = some j → i < j ∧ j < k) (hs : s < k) (hlt : ∀ x ∈ L s, x < sp) :
    SpM tt k ps sp h (tt s) (Sk.upd L s (L s ++ [sp])) := by
  have hhead : ∀ j, Rch tt s j ↔ j = s ∨ ∃ c, tt s = some c ∧ Rch tt c j := fun j => ⟨Rch.head, by
    rintro (rfl | ⟨c, hc, r⟩)
    · exact .refl _
    · exact .cons hc r⟩
  have hself : ¬ ∃ c, tt s = some c ∧ Rch tt c s := by
    rintro ⟨c, hc, r⟩
    have := r.le (fun i j e => (ht i j e).1)
    have := (ht s c hc).1
    omega
  refine ⟨fun c hc => (H.1 s rfl).step hc, fun j hj => ?_⟩
  obtain ⟨h1, h2, h3⟩ := H.2 j hj
  unfold Sk.upd
  by_cases e : j = s
  · subst e
    rw [if_pos rfl]
    have hss : ∃ s', some j = some s' ∧ Rch tt s' j := ⟨j, rfl, .refl _⟩
    rw [if_pos hss] at h2
    refine ⟨List.pairwise_append.2 ⟨h1, List.pairwise_singleton _ _, fun a ha b hb => by rw [List.mem_singleton] at hb; subst hb; exact hlt a ha⟩, by rw [if_neg hself, List.length_append]; simp; exact h2, fun x => ?_⟩
    rw [List.mem_append, List.mem_singleton, h3 x]
    constructor
    · rintro ((h0 | ⟨_, _, hn⟩) | rfl)
      · exact Or.inl h0
      · exact absurd hss hn
      · exact Or.inr ⟨rfl, H.1 j rfl, hself⟩
    · rintro (h0 | ⟨rfl, _, _⟩)
      · exact Or.inl (Or.inl h0)
      · exact Or.inr rfl
  · rw [if_neg e]
    have hiff : (∃ s', some s = some s' ∧ Rch tt s' j) ↔ ∃ c, tt s = some c ∧ Rch tt c j := by
      constructor
      · rintro ⟨s', e', r⟩; cases e'
        rcases (hhead j).1 r with h0 | h0
        · exact absurd h0 e
        · exact h0
      · rintro h0; exact ⟨s, rfl, (hhead j).2 (Or.inr h0)⟩
    refine ⟨h1, ?_, fun x => ?_⟩
    · by_cases hq : ∃ c, tt s = some c ∧ Rch tt c j
      · rw [if_pos (hiff.2 hq)] at h2; rw [if_pos hq]; exact h2
      · rw [if_neg (fun h0 => hq (hiff.1 h0))] at h2; rw [if_neg hq]; exact h2
    · rw [h3 x, hiff]

end Go.Proofs.Ybulkecac
