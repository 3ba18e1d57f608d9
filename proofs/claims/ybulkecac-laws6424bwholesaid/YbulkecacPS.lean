import Derived.Test.YbulkecacOwn
namespace Go.Proofs.Ybulkecac
open Go.RowKit Go.Sort
set_option linter.unusedSimpArgs false
set_option linter.unusedVariables false

/-- what the bare assertions of a schema say -/
abbrev BB := Option (Int ⊕ List Int)

theorem BB.elim {motive : BB → Prop} (b : BB) (none : motive none) (row : ∀ x, motive (some (.inl x))) (prs : ∀ ps, motive (some (.inr ps))) : motive b :=
  match b with
  | .none => none
  | .some (.inl x) => row x
  | .some (.inr ps) => prs ps

def BB.says : BB → List Int
  | .none => []
  | .some (.inl x) => [x]
  | .some (.inr ps) => ps

/-- a speaker and a place as one uint64 -/
def pairU (x : Int) (q : Nat) : Int := IntKind.u32.wrap x * 4294967296 + q

/-- n steps along 'to' -/
def along (to : Nat → Option Nat) : Nat → Nat → Option Nat
  | 0, h => some h
  | n + 1, h => (along to n h).bind to

/-- j can be come to from h along 'to' -/
def Rch (to : Nat → Option Nat) (h j : Nat) : Prop := ∃ n, along to n h = some j

theorem Rch.refl {to : Nat → Option Nat} (h : Nat) : Rch to h h := ⟨0, rfl⟩
theorem Rch.step {to : Nat → Option Nat} {h i j : Nat} (r : Rch to h i) (e : to i = some j) : Rch to h j := by
  obtain ⟨n, hn⟩ := r
  exact ⟨n + 1, by simp only [along, hn]; exact e⟩

theorem Rch.ind {to : Nat → Option Nat} {h : Nat} {motive : Nat → Prop} (refl : motive h) (step : ∀ {i j : Nat}, Rch to h i → to i = some j → motive i → motive j) {j : Nat} (r : Rch to h j) : motive j := by
  obtain ⟨n, hn⟩ := r
  induction n generalizing j with
  | zero => cases hn; exact refl
  | succ n ih =>
    simp only [along] at hn
    cases hc : along to n h with
    | none => rw [hc] at hn; cases hn
    | some i => rw [hc] at hn; exact step ⟨n, hc⟩ hn (ih hc)

theorem Rch.head {to : Nat → Option Nat} {h j : Nat} (r : Rch to h j) : j = h ∨ ∃ c, to h = some c ∧ Rch to c j :=
  Rch.ind (motive := fun j => j = h ∨ ∃ c, to h = some c ∧ Rch to c j) (Or.inl rfl) (fun {i j} r e ih => by
    rcases ih with rfl | ⟨c, hc, rc⟩
    · exact Or.inr ⟨_, e, .refl _⟩
    · exact Or.inr ⟨c, hc, rc.step e⟩) r

theorem Rch.cons {to : Nat → Option Nat} {h c j : Nat} (e : to h = some c) (r : Rch to c j) : Rch to h j :=
  Rch.ind (motive := fun j => Rch to h j) ((Rch.refl _).step e) (fun _ e' ih => ih.step e') r

theorem Rch.le {to : Nat → Option Nat} (ht : ∀ i j, to i = some j → i < j) {h j : Nat} (r : Rch to h j) : h ≤ j :=
  Rch.ind (motive := fun j => h ≤ j) (Nat.le_refl _) (fun _ e ih => by have := ht _ _ e; omega) r

theorem Rch.lt {to : Nat → Option Nat} {k : Nat} (ht : ∀ i j, to i = some j → j < k) {h j : Nat} (r : Rch to h j) (hh : h < k) : j < k :=
  Rch.ind (motive := fun j => j < k) hh (fun _ e _ => ht _ _ e) r

theorem Rch.trans {to : Nat → Option Nat} {a b c : Nat} (r : Rch to a b) (s : Rch to b c) : Rch to a c :=
  Rch.ind (motive := fun c => Rch to a c) r (fun _ e ih => ih.step e) s

theorem addr_add0 (b j : Nat) : (⟨b, 0, none⟩ : Addr).add j = ⟨b, j, none⟩ := by unfold Addr.add; split <;> simp_all

/-- the rules' row: each leads to a rule, whose head's schema and one slot are read -/
def RulesAt (N : Nat) (W : World) (vr : Value) (rs : List (Int × Nat)) : Prop :=
  (rs = [] ∧ vr = .slice none 0 0) ∨ ∃ g cap, vr = .slice (some ⟨g, 0, none⟩) rs.length cap ∧ rs.length ≤ cap ∧
    ∀ p, p < rs.length → ∃ R Q, W.cell? ⟨g, p, none⟩ = some (.pointer (some ⟨R, 0, none⟩)) ∧ W.cell? ⟨R, 3, none⟩ = some (.pointer (some ⟨N + 1 + (rs[p]!).2, 0, none⟩)) ∧
      W.cell? ⟨R, 4, none⟩ = some (.slice (some ⟨Q, 0, none⟩) 1 1) ∧ W.cell? ⟨Q, 0, none⟩ = some (.int .i32 (rs[p]!).1)

/-- the catalog's row of a bare assertion: entry e, whose terms begin at t; the term there is x -/
def EntAt (N k : Nat) (W : World) (e : Nat) (x : Int) : Prop :=
  ∃ ge le ce gt lt ct t, W.cell? ⟨N + 3 + k, 0, none⟩ = some (.slice (some ⟨ge, 0, none⟩) le ce) ∧ e < le ∧ le ≤ ce ∧
    W.cell? ⟨ge, e * 5, none⟩ = some (.int .i32 0) ∧ W.cell? ⟨ge, e * 5 + 1, none⟩ = some (.int .i32 (t : Nat)) ∧ (∃ y, W.cell? ⟨ge, e * 5 + 2, none⟩ = some (.int .i32 y)) ∧ (∃ y, W.cell? ⟨ge, e * 5 + 3, none⟩ = some (.int .i32 y)) ∧ (∃ y, W.cell? ⟨ge, e * 5 + 4, none⟩ = some (.int .i32 y)) ∧
    W.cell? ⟨N + 3 + k, 2, none⟩ = some (.slice (some ⟨gt, 0, none⟩) lt ct) ∧ t < lt ∧ lt ≤ ct ∧ ct ≤ maxLen ∧ t < 100000 ∧ W.cell? ⟨gt, t, none⟩ = some (.int .i32 x)

/-- the bare assertions of schema i -/
def BareAt (N k i : Nat) (W : World) : BB → Prop
  | .none => W.cell? ⟨N + 1 + i, 5, none⟩ = some (.slice none 0 0)
  | .some (.inl x) => ∃ g g2 e, W.cell? ⟨N + 1 + i, 5, none⟩ = some (.slice (some ⟨g, 0, none⟩) 1 1) ∧ W.cell? ⟨g, 0, none⟩ = some (.int .i32 (e : Nat)) ∧ e < 100000 ∧ EntAt N k W e x ∧
      W.cell? ⟨N + 1 + i, 9, none⟩ = some (.slice (some ⟨g2, 0, none⟩) 1 1) ∧ W.cell? ⟨g2, 0, none⟩ = some (.slice none 0 0)
  | .some (.inr ps) => ∃ g g2 g3 c3, W.cell? ⟨N + 1 + i, 5, none⟩ = some (.slice (some ⟨g, 0, none⟩) 1 1) ∧
      W.cell? ⟨N + 1 + i, 9, none⟩ = some (.slice (some ⟨g2, 0, none⟩) 1 1) ∧ W.cell? ⟨g2, 0, none⟩ = some (.slice (some ⟨g3, 0, none⟩) ps.length c3) ∧ ps.length ≤ c3 ∧
      ∀ q, q < ps.length → W.cell? ⟨g3, q, none⟩ = some (.int .u64 (pairU (ps[q]!) q))

/-- the map's key for arity i -/
def shapeKey (i : Nat) : Value := .agg #[.string ⟨#[112]⟩, .int .i64 i, .pointer none, .int .u8 0, .bool false]

def shapeEs (N k : Nat) : Array MapEntry := ((List.range k).map fun i => ({ key := shapeKey i, val := .pointer (some ⟨N + 1 + i, 0, none⟩), born := i } : MapEntry)).toArray

/-- the program as arrangeSpeakers reads it -/
structure PS (N k : Nat) (to : Nat → Option Nat) (rs : List (Int × Nat)) (bs : Nat → BB) (W : World) : Prop where
  p0 : W.cell? ⟨N + 5 + k, 0, none⟩ = some (.pointer (some ⟨N + 3 + k, 0, none⟩))
  p2 : W.cell? ⟨N + 5 + k, 2, none⟩ = some (.map (some (N + 4 + k)))
  p3 : ∃ vr, W.cell? ⟨N + 5 + k, 3, none⟩ = some vr ∧ RulesAt N W vr rs
  map : W.heap[N + 4 + k]? = some (.map (shapeEs N k) k)
  c3 : W.cell? ⟨N + 3 + k, 3, none⟩ = some (.slice (some ⟨N + 2 + k, 0, none⟩) 1 1)
  f0 : W.cell? ⟨N + 2 + k, 0, none⟩ = some (.string ⟨#[112]⟩)
  f1 : W.cell? ⟨N + 2 + k, 1, none⟩ = some (.int .i64 0)
  f2 : W.cell? ⟨N + 2 + k, 2, none⟩ = some (.string ⟨#[]⟩)
  bare : ∀ i, i < k → BareAt N k i W (bs i)
  tos : ∀ i, i < k → W.cell? ⟨N + 1 + i, 3, none⟩ = some (.pointer ((to i).map fun j => ⟨N + 1 + j, 0, none⟩))
  spk : ∀ i, i < k → W.cell? ⟨N + 1 + i, 11, none⟩ = some (.slice none 0 0)
  frz : ∀ i, i < k → W.frozen? ⟨N + 1 + i, 11, none⟩ = false
  toLt : ∀ i j, to i = some j → i < j ∧ j < k
  k300 : k ≤ 300
  rs4 : rs.length ≤ 4096
  rsk : ∀ p ∈ rs, p.2 < k
  bs4 : ∀ i, (bs i).says.length ≤ 4096
  bsW : ∀ i x, x ∈ (bs i).says → -2147483648 ≤ x ∧ x ≤ 2147483647

section
variable {N k : Nat} {W W' : World}

theorem gcell (hg : W.grownBy W' none) {a : Addr} {v : Value} (h : W.cell? a = some v) : W'.cell? a = some v := hg.cell h (by simp)

theorem RulesAt.kept {vr : Value} {rs : List (Int × Nat)} (h : RulesAt N W vr rs) (hg : W.grownBy W' none) : RulesAt N W' vr rs := by
  rcases h with h | ⟨g, cap, h1, h2, h3⟩
  · exact Or.inl h
  · refine Or.inr ⟨g, cap, h1, h2, fun p hp => ?_⟩
    obtain ⟨R, Q, a, b, c, d⟩ := h3 p hp
    exact ⟨R, Q, gcell hg a, gcell hg b, gcell hg c, gcell hg d⟩

theorem EntAt.kept {e : Nat} {x : Int} (h : EntAt N k W e x) (hg : W.grownBy W' none) : EntAt N k W' e x := by
  obtain ⟨ge, le, ce, gt, lt, ct, t, a1, a2, a3, a4, a5, ⟨y6, a6⟩, ⟨y7, a7⟩, ⟨y8, a8⟩, a9, b1, b2, b3, b4, b5⟩ := h
  exact ⟨ge, le, ce, gt, lt, ct, t, gcell hg a1, a2, a3, gcell hg a4, gcell hg a5, ⟨y6, gcell hg a6⟩, ⟨y7, gcell hg a7⟩, ⟨y8, gcell hg a8⟩, gcell hg a9, b1, b2, b3, b4, gcell hg b5⟩

theorem BareAt.kept {i : Nat} {b : BB} (h : BareAt N k i W b) (hg : W.grownBy W' none) : BareAt N k i W' b := by
  cases b using BB.elim with
  | none => exact gcell hg h
  | row x =>
    obtain ⟨g, g2, e, a1, a2, a3, a4, a5, a6⟩ := h
    exact ⟨g, g2, e, gcell hg a1, gcell hg a2, a3, a4.kept hg, gcell hg a5, gcell hg a6⟩
  | prs ps =>
    obtain ⟨g, g2, g3, c3, a1, a2, a3, a4, a5⟩ := h
    exact ⟨g, g2, g3, c3, gcell hg a1, gcell hg a2, gcell hg a3, a4, fun q hq => gcell hg (a5 q hq)⟩

theorem PS.kept {to : Nat → Option Nat} {rs : List (Int × Nat)} {bs : Nat → BB} (h : PS N k to rs bs W) (hg : W.grownBy W' none) : PS N k to rs bs W' := by
  obtain ⟨vr, h3, h3'⟩ := h.p3
  have hl : N + 4 + k < W.heap.size := (Array.getElem?_eq_some_iff.1 h.map).1
  exact ⟨gcell hg h.p0, gcell hg h.p2, ⟨vr, gcell hg h3, h3'.kept hg⟩, (hg.block _ hl (by simp)).trans h.map, gcell hg h.c3, gcell hg h.f0, gcell hg h.f1, gcell hg h.f2,
    fun i hi => (h.bare i hi).kept hg, fun i hi => gcell hg (h.tos i hi), fun i hi => gcell hg (h.spk i hi),
    fun i hi => (World.frozen?_of_block (hg.block _ (World.block_lt_of_cell? _ _ (h.spk i hi)) (by simp))).trans (h.frz i hi), h.toLt, h.k300, h.rs4, h.rsk, h.bs4, h.bsW⟩
end

/-- what is said: the rules' speakers (a variable as anything) and the bare assertions' -/
def Said (k : Nat) (rs : List (Int × Nat)) (bs : Nat → BB) (x : Int) (h : Nat) : Prop :=
  (∃ s, (s, h) ∈ rs ∧ x = max s (-1)) ∨ (h < k ∧ x ∈ (bs h).says)

def encS (N : Nat) (ss : List (Int × Nat)) : List Value := ss.flatMap fun p => [.int .i32 p.1, .pointer (some ⟨N + 1 + p.2, 0, none⟩)]

theorem encS_snoc (N : Nat) (ss : List (Int × Nat)) (x : Int) (h : Nat) : encS N (ss ++ [(x, h)]) = encS N ss ++ [.int .i32 x, .pointer (some ⟨N + 1 + h, 0, none⟩)] := by
  simp [encS]

end Go.Proofs.Ybulkecac
