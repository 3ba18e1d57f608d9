import Derived.Test.YbulkecacBld3
import Derived.Test.YbulkecacLawM0
namespace Go.Proofs.Ybulkecac
open Go.RowKit Go.Sort Go.Shelf
open Go.ChangeMaps (setBlock)
open Go.MapKept (heap_set)
set_option linter.unusedSimpArgs false
set_option linter.unusedVariables false

/-- where schema j leads -/
def ttf (ts : Nat → Int) (k j : Nat) : Option Nat := if j < k then (if (ts j).toNat % (k - j) = 0 then none else some (j + (ts j).toNat % (k - j))) else none

theorem ttf_lt {ts : Nat → Int} {k i j : Nat} (h : ttf ts k i = some j) : i < j ∧ j < k := by
  unfold ttf at h
  split at h
  · split at h
    · cases h
    · cases h
      have := Nat.mod_lt (ts i).toNat (show 0 < k - i by omega)
      omega
  · cases h

/-- a schema's cells that the law reads -/
def Sch (N j : Nat) (to_ : Option Nat) (W : World) : Prop :=
  W.cell? ⟨N + 1 + j, 3, none⟩ = some (.pointer (to_.map fun j => ⟨N + 1 + j, 0, none⟩)) ∧ W.cell? ⟨N + 1 + j, 5, none⟩ = some (.slice none 0 0) ∧ W.cell? ⟨N + 1 + j, 9, none⟩ = some (.slice none 0 0) ∧ W.cell? ⟨N + 1 + j, 11, none⟩ = some (.slice none 0 0)

theorem Sch.kept {N j : Nat} {o : Option Nat} {W W' : World} (h : Sch N j o W) (hk : ∀ {x : Nat} {v : Value}, W.cell? ⟨N + 1 + j, x, none⟩ = some v → W'.cell? ⟨N + 1 + j, x, none⟩ = some v) : Sch N j o W' := ⟨hk h.1, hk h.2.1, hk h.2.2.1, hk h.2.2.2⟩

/-- while the schemas are laid -/
structure S2 (w : World) (N k i : Nat) (W : World) : Prop where
  hN : N = w.heap.size
  bel : Below N w W
  size : W.heap.size = N + 1 + i
  arr : ∀ j, j < k → W.cell? ⟨N, j, none⟩ = some (.pointer (if j < i then some ⟨N + 1 + j, 0, none⟩ else none))
  sch : ∀ j, j < i → Sch N j none W
  frz : ∀ b o, N ≤ b → b < N + 1 + i → W.frozen? ⟨b, o, none⟩ = false

def schO (i : Nat) : Obj := .cells #[.int .i64 (i : Int), .int .i64 1, .int .i64 1, .pointer none, .pointer none, .slice none 0 0, .slice none 0 0, .slice none 0 0, .slice none 0 0, .slice none 0 0, .slice none 0 0, .slice none 0 0] 50

theorem S2.step {w W : World} {N k i : Nat} (h : S2 w N k i W) (hi : i < k) : S2 w N k (i + 1) ((W.alloc (schO i)).setCell ⟨N, i, none⟩ (.pointer (some ⟨N + 1 + i, 0, none⟩))) := by
  have hg := World.grownBy_alloc W (schO i) none
  have hs := h.size
  have hset := set_grown (W.alloc (schO i)) N i (.pointer (some ⟨N + 1 + i, 0, none⟩))
  have hother : ∀ {b x : Nat} {v : Value}, b ≠ N → (W.alloc (schO i)).cell? ⟨b, x, none⟩ = some v → ((W.alloc (schO i)).setCell ⟨N, i, none⟩ (.pointer (some ⟨N + 1 + i, 0, none⟩))).cell? ⟨b, x, none⟩ = some v := fun {b x v} hb h0 => hset.cell h0 (fun e => hb (by cases e; rfl))
  refine ⟨h.hN, (h.bel.grown hg (by omega) (fun b hb => by cases hb)).grown hset (by simp; omega) (fun b hb => by cases hb; omega), by simp; omega, fun j hj => ?_, fun j hj => ?_, fun b o h1 h2 => ?_⟩
  · by_cases e : j = i
    · subst e
      rw [if_pos (by omega)]
      exact World.cell?_setCell_same' _ _ _ (by rw [gcell hg (h.arr j hj)]; rfl)
    · rw [World.cell?_setCell_other _ _ _ _ (by intro e'; simp only [Addr.mk.injEq] at e'; omega), gcell hg (h.arr j hj)]
      by_cases e2 : j < i
      · rw [if_pos e2, if_pos (by omega)]
      · rw [if_neg e2, if_neg (by omega)]
  · by_cases e : j < i
    · exact (h.sch j e).kept (fun h0 => hother (by omega) (gcell hg h0))
    · obtain rfl : j = i := by omega
      have hn : (W.alloc (schO j)).heap[N + 1 + j]? = some (schO j) := by rw [← hs]; exact heap_alloc_new W _
      refine ⟨hother (by omega) ?_, hother (by omega) ?_, hother (by omega) ?_, hother (by omega) ?_⟩ <;> (simp only [World.cell?, hn]; rfl)
  · rw [World.frozen?_setCell]
    by_cases e : b < N + 1 + i
    · exact (World.frozen?_of_block (hg.block b (by omega) (by simp))).trans (h.frz b o h1 e)
    · obtain rfl : b = N + 1 + i := by omega
      have hn : (W.alloc (schO i)).heap[N + 1 + i]? = some (schO i) := by rw [← hs]; exact heap_alloc_new W _
      simp only [World.frozen?, hn]; rfl

/-- while 'to' is laid -/
structure S3 (w : World) (N k : Nat) (ts : Nat → Int) (i : Nat) (W : World) : Prop where
  hN : N = w.heap.size
  bel : Below N w W
  size : W.heap.size = N + 2 + k
  arr : ∀ j, j < k → W.cell? ⟨N, j, none⟩ = some (.pointer (some ⟨N + 1 + j, 0, none⟩))
  ti : ∀ j, j < k → W.cell? ⟨N + 1 + k, j, none⟩ = some (.int .i64 (if j < i then toI (ttf ts k j) else 0))
  sch : ∀ j, j < k → Sch N j (if j < i then ttf ts k j else none) W
  frz : ∀ b o, N ≤ b → b < N + 2 + k → W.frozen? ⟨b, o, none⟩ = false

theorem S3.step1 {w W : World} {N k i : Nat} {ts : Nat → Int} (h : S3 w N k ts i W) (hi : i < k) (ht : ttf ts k i = none) : S3 w N k ts (i + 1) (W.setCell ⟨N + 1 + k, i, none⟩ (.int .i64 (-1))) := by
  have hs := h.size
  have hset := set_grown W (N + 1 + k) i (.int .i64 (-1))
  have hother : ∀ {b x : Nat} {v : Value}, b ≠ N + 1 + k → W.cell? ⟨b, x, none⟩ = some v → (W.setCell ⟨N + 1 + k, i, none⟩ (.int .i64 (-1))).cell? ⟨b, x, none⟩ = some v := fun {b x v} hb h0 => hset.cell h0 (fun e => hb (by cases e; rfl))
  refine ⟨h.hN, h.bel.grown hset (by omega) (fun b hb => by cases hb; omega), by simpa using hs, fun j hj => hother (by omega) (h.arr j hj), fun j hj => ?_, fun j hj => ?_, fun b o h1 h2 => by rw [World.frozen?_setCell]; exact h.frz b o h1 h2⟩
  · by_cases e : j = i
    · subst e
      rw [if_pos (by omega), ht]
      exact World.cell?_setCell_same' _ _ _ (by rw [h.ti j hj]; rfl)
    · rw [World.cell?_setCell_other _ _ _ _ (by intro e'; simp only [Addr.mk.injEq] at e'; omega), h.ti j hj]
      by_cases e2 : j < i
      · rw [if_pos e2, if_pos (by omega)]
      · rw [if_neg e2, if_neg (by omega)]
  · have := (h.sch j hj).kept (W' := W.setCell ⟨N + 1 + k, i, none⟩ (.int .i64 (-1))) (fun h0 => hother (by omega) h0)
    by_cases e : j = i
    · subst e
      rw [if_neg (by omega)] at this
      rw [if_pos (by omega), ht]; exact this
    · by_cases e2 : j < i
      · rw [if_pos e2] at this; rw [if_pos (by omega)]; exact this
      · rw [if_neg e2] at this; rw [if_neg (by omega)]; exact this

theorem S3.step2 {w W : World} {N k i t : Nat} {ts : Nat → Int} (h : S3 w N k ts i W) (hi : i < k) (ht : ttf ts k i = some t) : S3 w N k ts (i + 1) ((W.setCell ⟨N + 1 + k, i, none⟩ (.int .i64 (t : Int))).setCell ⟨N + 1 + i, 3, none⟩ (.pointer (some ⟨N + 1 + t, 0, none⟩))).drew := by
  have hs := h.size
  have hset := set_grown W (N + 1 + k) i (.int .i64 (t : Int))
  have hset2 := set_grown (W.setCell ⟨N + 1 + k, i, none⟩ (.int .i64 (t : Int))) (N + 1 + i) 3 (.pointer (some ⟨N + 1 + t, 0, none⟩))
  have hother : ∀ {b x : Nat} {v : Value}, b ≠ N + 1 + k → W.cell? ⟨b, x, none⟩ = some v → (W.setCell ⟨N + 1 + k, i, none⟩ (.int .i64 (t : Int))).cell? ⟨b, x, none⟩ = some v := fun {b x v} hb h0 => hset.cell h0 (fun e => hb (by cases e; rfl))
  have hother2 : ∀ {b x : Nat} {v : Value}, (b ≠ N + 1 + i ∨ x ≠ 3) → (W.setCell ⟨N + 1 + k, i, none⟩ (.int .i64 (t : Int))).cell? ⟨b, x, none⟩ = some v → ((W.setCell ⟨N + 1 + k, i, none⟩ (.int .i64 (t : Int))).setCell ⟨N + 1 + i, 3, none⟩ (.pointer (some ⟨N + 1 + t, 0, none⟩))).cell? ⟨b, x, none⟩ = some v := fun {b x v} hb h0 => by
    rw [World.cell?_setCell_other _ _ _ _ (by intro e'; simp only [Addr.mk.injEq] at e'; omega)]; exact h0
  refine ⟨h.hN, ((h.bel.grown hset (by omega) (fun b hb => by cases hb; omega)).grown hset2 (by simp; omega) (fun b hb => by cases hb; omega)).drew, ?_, fun j hj => hother2 (by omega) (hother (by omega) (h.arr j hj)), fun j hj => ?_, fun j hj => ?_, fun b o h1 h2 => ?_⟩
  · show ((W.setCell _ _).setCell _ _).heap.size = _; simpa using hs
  · refine hother2 (b := N + 1 + k) (x := j) (by omega) ?_
    by_cases e : j = i
    · subst e
      rw [if_pos (by omega), ht]
      exact World.cell?_setCell_same' _ _ _ (by rw [h.ti j hj]; rfl)
    · rw [World.cell?_setCell_other _ _ _ _ (by intro e'; simp only [Addr.mk.injEq] at e'; omega), h.ti j hj]
      by_cases e2 : j < i
      · rw [if_pos e2, if_pos (by omega)]
      · rw [if_neg e2, if_neg (by omega)]
  · have h0 := h.sch j hj
    by_cases e : j = i
    · subst e
      rw [if_neg (by omega)] at h0
      rw [if_pos (by omega), ht]
      exact ⟨World.cell?_setCell_same' _ _ _ (by rw [hother (by omega) h0.1]; rfl), hother2 (Or.inr (by decide)) (hother (by omega) h0.2.1), hother2 (Or.inr (by decide)) (hother (by omega) h0.2.2.1), hother2 (Or.inr (by decide)) (hother (by omega) h0.2.2.2)⟩
    · have h1 := h0.kept (W' := ((W.setCell ⟨N + 1 + k, i, none⟩ (.int .i64 (t : Int))).setCell ⟨N + 1 + i, 3, none⟩ (.pointer (some ⟨N + 1 + t, 0, none⟩))).drew) (fun h0 => hother2 (Or.inl (by omega)) (hother (by omega) h0))
      by_cases e2 : j < i
      · rw [if_pos e2] at h1; rw [if_pos (by omega)]; exact h1
      · rw [if_neg e2] at h1; rw [if_neg (by omega)]; exact h1
  · show ((W.setCell _ _).setCell _ _).frozen? _ = _
    rw [World.frozen?_setCell, World.frozen?_setCell]; exact h.frz b o h1 h2

/-- while the map is laid -/
structure S5 (w : World) (N k : Nat) (ts : Nat → Int) (i : Nat) (W : World) : Prop where
  hN : N = w.heap.size
  bel : Below N w W
  size : W.heap.size = N + 6 + k
  arr : ∀ j, j < k → W.cell? ⟨N, j, none⟩ = some (.pointer (some ⟨N + 1 + j, 0, none⟩))
  ti : ∀ j, j < k → W.cell? ⟨N + 1 + k, j, none⟩ = some (.int .i64 (toI (ttf ts k j)))
  sch : ∀ j, j < k → Sch N j (ttf ts k j) W
  f0 : W.cell? ⟨N + 2 + k, 0, none⟩ = some (.string ⟨#[112]⟩)
  f1 : W.cell? ⟨N + 2 + k, 1, none⟩ = some (.int .i64 0)
  f2 : W.cell? ⟨N + 2 + k, 2, none⟩ = some (.string ⟨#[]⟩)
  c0 : W.cell? ⟨N + 3 + k, 0, none⟩ = some (.slice none 0 0)
  c2 : W.cell? ⟨N + 3 + k, 2, none⟩ = some (.slice none 0 0)
  c3 : W.cell? ⟨N + 3 + k, 3, none⟩ = some (.slice (some ⟨N + 2 + k, 0, none⟩) 1 1)
  map : W.heap[N + 4 + k]? = some (.map (shapeEs N i) i)
  p0 : W.cell? ⟨N + 5 + k, 0, none⟩ = some (.pointer (some ⟨N + 3 + k, 0, none⟩))
  p2 : W.cell? ⟨N + 5 + k, 2, none⟩ = some (.map (some (N + 4 + k)))
  p3 : W.cell? ⟨N + 5 + k, 3, none⟩ = some (.slice none 0 0)
  frz : ∀ b o, N ≤ b → b < N + 6 + k → W.frozen? ⟨b, o, none⟩ = false

theorem S5.step {w W : World} {N k i : Nat} {ts : Nat → Int} (h : S5 w N k ts i W) : S5 w N k ts (i + 1) (setBlock W.drew (N + 4 + k) (.map (shapeEs N (i + 1)) (i + 1))) := by
  have hm : W.drew.heap[N + 4 + k]? = some (.map (shapeEs N i) i) := h.map
  have hset := heap_set (o' := .map (shapeEs N (i + 1)) (i + 1)) hm
  have hs := h.size
  have hg : W.grownBy (setBlock W.drew (N + 4 + k) (.map (shapeEs N (i + 1)) (i + 1))) (some (N + 4 + k)) := ⟨rfl, rfl, rfl, by simp [setBlock], fun j _ hj => hset.2 j (fun e1 => hj (by rw [e1]))⟩
  have hc : ∀ {b x : Nat} {v : Value}, b ≠ N + 4 + k → W.cell? ⟨b, x, none⟩ = some v → (setBlock W.drew (N + 4 + k) (.map (shapeEs N (i + 1)) (i + 1))).cell? ⟨b, x, none⟩ = some v := fun {b x v} hb h0 => hg.cell h0 (fun e => hb (by cases e; rfl))
  refine ⟨h.hN, h.bel.grown hg (by omega) (fun b hb => by cases hb; omega), (by simp [setBlock]; exact hs), fun j hj => hc (by omega) (h.arr j hj), fun j hj => hc (by omega) (h.ti j hj), fun j hj => (h.sch j hj).kept (fun h0 => hc (by omega) h0), hc (by omega) h.f0, hc (by omega) h.f1, hc (by omega) h.f2, hc (by omega) h.c0, hc (by omega) h.c2, hc (by omega) h.c3, hset.1, hc (by omega) h.p0, hc (by omega) h.p2, hc (by omega) h.p3, fun b o h1 h2 => ?_⟩
  by_cases e : b = N + 4 + k
  · subst e
    have : (setBlock W.drew (N + 4 + k) (.map (shapeEs N (i + 1)) (i + 1))).heap[N + 4 + k]? = some (.map (shapeEs N (i + 1)) (i + 1)) := hset.1
    simp [World.frozen?, this]
  · exact (World.frozen?_of_block (hg.block b (by omega) (fun e' => e (by cases e'; rfl)))).trans (h.frz b o h1 h2)

def frmO : Obj := .cells #[.string ⟨#[112]⟩, .int .i64 0, .string ⟨#[]⟩] 54
def catO (b : Nat) : Obj := .cells #[.slice none 0 0, .slice none 0 0, .slice none 0 0, .slice (some ⟨b, 0, none⟩) 1 1, .map none, .slice none 0 0, .slice none 0 0, .slice none 0 0, .slice none 0 0, .int .i64 0, .int .i64 0, .slice none 0 0, .int .i64 0, .int .i64 0, .slice none 0 0, .int .i64 0, .int .i64 0, .slice none 0 0, .int .i64 0, .map none, .map none] 67
def prgO (b m : Nat) : Obj := .cells #[.pointer (some ⟨b, 0, none⟩), .slice none 0 0, .map (some m), .slice none 0 0, .slice none 0 0] 72

theorem S3.lay {w W : World} {N k : Nat} {ts : Nat → Int} (h : S3 w N k ts k W) : S5 w N k ts 0 ((((W.alloc frmO).alloc (catO (N + 2 + k))).alloc (.map #[] 0)).alloc (prgO (N + 3 + k) (N + 4 + k))) := by
  have hs := h.size
  have s1 : (W.alloc frmO).heap.size = N + 3 + k := by simp; omega
  have s2 : ((W.alloc frmO).alloc (catO (N + 2 + k))).heap.size = N + 4 + k := by simp; omega
  have s3 : (((W.alloc frmO).alloc (catO (N + 2 + k))).alloc (.map #[] 0)).heap.size = N + 5 + k := by simp; omega
  have n1 := heap_alloc_new W frmO
  have n2 := heap_alloc_new (W.alloc frmO) (catO (N + 2 + k))
  have n3 := heap_alloc_new ((W.alloc frmO).alloc (catO (N + 2 + k))) (.map #[] 0)
  have n4 := heap_alloc_new (((W.alloc frmO).alloc (catO (N + 2 + k))).alloc (.map #[] 0)) (prgO (N + 3 + k) (N + 4 + k))
  rw [hs] at n1
  rw [s1] at n2
  rw [s2] at n3
  rw [s3] at n4
  have g1 := World.grownBy_alloc W frmO none
  have g2 := World.grownBy_alloc (W.alloc frmO) (catO (N + 2 + k)) none
  have g3 := World.grownBy_alloc ((W.alloc frmO).alloc (catO (N + 2 + k))) (.map #[] 0) none
  have g4 := World.grownBy_alloc (((W.alloc frmO).alloc (catO (N + 2 + k))).alloc (.map #[] 0)) (prgO (N + 3 + k) (N + 4 + k)) none
  have e1 := ((g2.trans g3).trans g4).block (N + 2 + k) (by omega) (by simp)
  have e2 := (g3.trans g4).block (N + 3 + k) (by omega) (by simp)
  have e3 := g4.block (N + 4 + k) (by omega) (by simp)
  rw [n1] at e1
  rw [n2] at e2
  rw [n3] at e3
  have hg := ((g1.trans g2).trans g3).trans g4
  generalize hV : (((W.alloc frmO).alloc (catO (N + 2 + k))).alloc (.map #[] 0)).alloc (prgO (N + 3 + k) (N + 4 + k)) = V at *
  have hsV : V.heap.size = N + 6 + k := by rw [← hV]; simp; omega
  refine ⟨h.hN, h.bel.grown hg (by omega) (fun b hb => by cases hb), hsV, fun j hj => gcell hg (h.arr j hj), fun j hj => by have := gcell hg (h.ti j hj); rw [if_pos hj] at this; exact this, fun j hj => by have := (h.sch j hj).kept (fun h0 => gcell hg h0); rw [if_pos hj] at this; exact this,
    by simp only [World.cell?, e1]; rfl, by simp only [World.cell?, e1]; rfl, by simp only [World.cell?, e1]; rfl, by simp only [World.cell?, e2]; rfl, by simp only [World.cell?, e2]; rfl, by simp only [World.cell?, e2]; rfl, e3, by simp only [World.cell?, n4]; rfl, by simp only [World.cell?, n4]; rfl, by simp only [World.cell?, n4]; rfl, fun b o h1 h2 => ?_⟩
  by_cases c1 : b < N + 2 + k
  · exact (World.frozen?_of_block (hg.block b (by omega) (by simp))).trans (h.frz b o h1 c1)
  · rcases (show b = N + 2 + k ∨ b = N + 3 + k ∨ b = N + 4 + k ∨ b = N + 5 + k by omega) with rfl | rfl | rfl | rfl
    · simp only [World.frozen?, e1]; rfl
    · simp only [World.frozen?, e2]; rfl
    · simp only [World.frozen?, e3]
    · simp only [World.frozen?, n4]; rfl

/-- all is laid -/
theorem S5.bl {w W : World} {N k : Nat} {ts : Nat → Int} (h : S5 w N k ts k W) (hk : k ≤ 300) : Bl w N k (ttf ts k) (fun _ => 9) none (.slice none 0 0) (.slice none 0 0) (.slice none 0 0) (.slice none 0 0) [] [] 0 [] (fun _ => .none) W := by
  have hs := h.size
  have hr : ∀ (t : Nat) (e : TypeId) (size : Nat), Rw (fun _ => 9) t (N + 6 + k) e size (.slice none 0 0) 0 [] W := fun t e size => ⟨World.ownsRow_nil _ _ _ _, fun b hb => by simp [Value.ownBlock] at hb⟩
  refine ⟨⟨h.hN, h.bel, h.arr, fun j hj => ?_, fun j hj => (h.sch j hj).1, fun j hj => (h.sch j hj).2.2.2, h.p0, h.p2, h.map, h.c3, h.f0, h.f1, h.f2, h.frz, fun i j => ttf_lt, hk, by omega⟩, h.p3, h.c0, h.c2, ⟨[], hr 1 78 1, fun p hp => by simp at hp⟩, hr 2 87 2, hr 3 89 5, hr 4 21 1, fun q hq _ => ⟨(h.sch q hq).2.1, (h.sch q hq).2.2.1⟩⟩
  have := h.ti j hj
  rw [this]
  cases ttf ts k j <;> rfl
end Go.Proofs.Ybulkecac
