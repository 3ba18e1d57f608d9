import Derived.Test.YbulkecacLawT2
namespace Go.Proofs.Ybulkecac
open Go.RowKit Go.Sort Go.Shelf
set_option linter.unusedSimpArgs false
set_option linter.unusedVariables false

/-- a step that turns, of the blocks that were there, none but one with the tag t; the tags stay -/
def Stp (F : Nat) (tg tg' : Nat → Nat) (t : Nat) (W W' : World) : Prop :=
  ∃ row, W.grownBy W' row ∧ (∀ b, row = some b → F ≤ b ∧ tg b = t) ∧ ∀ b, b < W.heap.size → tg' b = tg b

/-- a row of the call's own, under the tag t -/
def Rw (tg : Nat → Nat) (t F : Nat) (e : TypeId) (size : Nat) (v : Value) (n : Nat) (xs : List Value) (W : World) : Prop :=
  W.ownsRow F e size v n xs ∧ ∀ b, v.ownBlock = some b → tg b = t

/-- a cell of a block of tag t -/
def Stc (tg : Nat → Nat) (t F : Nat) (W : World) (a : Addr) (v : Value) : Prop := W.cell? a = some v ∧ F ≤ a.block ∧ tg a.block = t

section
variable {F : Nat} {tg tg' : Nat → Nat} {t t2 : Nat} {W W' : World}

theorem Stp.grown (h : W.grownBy W' none) (ht : ∀ b, b < W.heap.size → tg' b = tg b) : Stp F tg tg' t W W' := ⟨none, h, (fun b hb => by cases hb), ht⟩

theorem Rw.stp {e : TypeId} {size n : Nat} {v : Value} {xs : List Value} (h : Rw tg t F e size v n xs W) (s : Stp F tg tg' t2 W W') (ht : t ≠ t2) : Rw tg' t F e size v n xs W' := by
  obtain ⟨row, hg, hr, hT⟩ := s
  refine ⟨h.1.kept hg ?_, fun b hb => by rw [hT b (h.1.lt b hb).2]; exact h.2 b hb⟩
  cases hv : v.ownBlock with
  | none => exact Or.inl rfl
  | some b => exact Or.inr (fun e => ht (by rw [← h.2 b hv, (hr b e.symm).2]))

theorem Stc.stp {a : Addr} {v : Value} (h : Stc tg t F W a v) (s : Stp F tg tg' t2 W W') (ht : t ≠ t2) : Stc tg' t F W' a v := by
  obtain ⟨row, hg, hr, hT⟩ := s
  exact ⟨hg.cell h.1 (fun e => ht (by rw [← h.2.2, (hr _ e.symm).2])), h.2.1, by rw [hT _ (World.block_lt_of_cell? _ _ h.1)]; exact h.2.2⟩

theorem Stp.fixed (s : Stp F tg tg' t W W') {a : Addr} {v : Value} (h : W.cell? a = some v) (ha : a.block < F) : W'.cell? a = some v := by
  obtain ⟨row, hg, hr, hT⟩ := s
  exact hg.cell h (fun e => by have := (hr _ e.symm).1; omega)

theorem Stp.block (s : Stp F tg tg' t W W') {b : Nat} (hb : b < F) (hW : F ≤ W.heap.size) : W'.heap[b]? = W.heap[b]? := by
  obtain ⟨row, hg, hr, hT⟩ := s
  exact hg.block b (by omega) (fun e => by have := (hr _ e.symm).1; omega)

theorem Stp.size (s : Stp F tg tg' t W W') : W.heap.size ≤ W'.heap.size := by obtain ⟨row, hg, _⟩ := s; exact hg.size

theorem set_grown (W : World) (b o : Nat) (v : Value) : W.grownBy (W.setCell ⟨b, o, none⟩ v) (some b) := ⟨rfl, rfl, rfl, by simp, fun k _ hk => heap_setCell_other _ _ k _ (fun e => hk (by rw [e]))⟩

theorem Rw.set {e : TypeId} {size n : Nat} {v u : Value} {xs : List Value} {b o : Nat} (h : Rw tg t F e size v n xs W) (hb : b < F) : Rw tg t F e size v n xs (W.setCell ⟨b, o, none⟩ u) :=
  ⟨h.1.kept (set_grown W b o u) (by
    cases hv : v.ownBlock with
    | none => exact Or.inl rfl
    | some c => exact Or.inr (fun e => by have := (h.1.lt c hv).1; cases e; omega)), h.2⟩

theorem Stc.set {a : Addr} {v u : Value} {b o : Nat} (h : Stc tg t F W a v) (hb : b < F) : Stc tg t F (W.setCell ⟨b, o, none⟩ u) a v :=
  ⟨(set_grown W b o u).cell h.1 (fun e => by have := h.2.1; cases e; omega), h.2⟩

/-- a row that one element has been appended to -/
theorem Rw.app {e : TypeId} {size n gg c H t : Nat} {v : Value} {xs : List Value} (h : Rw tg t F e size v n xs W) (hat : v.ownBlock = some gg ∨ gg = H) {n' : Nat} {ys : List Value} (hr : W'.ownsRow F e size (.slice (some ⟨gg, 0, none⟩) n' c) n' ys)
    (hT : ∀ b, b < W.heap.size → tg' b = tg b) (hH : tg' H = t) : Rw tg' t F e size (.slice (some ⟨gg, 0, none⟩) n' c) n' ys W' := by
  refine ⟨hr, fun b hb => ?_⟩
  obtain rfl : gg = b := by simpa [Value.ownBlock] using hb
  rcases hat with h1 | h1
  · rw [hT _ (h.1.lt _ h1).2]; exact h.2 _ h1
  · rw [h1]; exact hH
end

def Mut (N k b o : Nat) : Prop := (b = N + 5 + k ∧ o = 3) ∨ (b = N + 3 + k ∧ (o = 0 ∨ o = 2)) ∨ (N + 1 ≤ b ∧ b < N + 1 + k ∧ (o = 5 ∨ o = 9))

/-- what the law has laid ahead of the rules, and does not turn while it lays them -/
structure Bd (w : World) (N k : Nat) (tt : Nat → Option Nat) (W : World) : Prop where
  hN : N = w.heap.size
  bel : Below N w W
  sc : ∀ i, i < k → W.cell? ⟨N, i, none⟩ = some (.pointer (some ⟨N + 1 + i, 0, none⟩))
  ti : ∀ i, i < k → W.cell? ⟨N + 1 + k, i, none⟩ = some (.int .i64 (match tt i with | none => -1 | some j => (j : Int)))
  tos : ∀ i, i < k → W.cell? ⟨N + 1 + i, 3, none⟩ = some (.pointer ((tt i).map fun j => ⟨N + 1 + j, 0, none⟩))
  spk : ∀ i, i < k → W.cell? ⟨N + 1 + i, 11, none⟩ = some (.slice none 0 0)
  p0 : W.cell? ⟨N + 5 + k, 0, none⟩ = some (.pointer (some ⟨N + 3 + k, 0, none⟩))
  p2 : W.cell? ⟨N + 5 + k, 2, none⟩ = some (.map (some (N + 4 + k)))
  map : W.heap[N + 4 + k]? = some (.map (shapeEs N k) k)
  c3 : W.cell? ⟨N + 3 + k, 3, none⟩ = some (.slice (some ⟨N + 2 + k, 0, none⟩) 1 1)
  f0 : W.cell? ⟨N + 2 + k, 0, none⟩ = some (.string ⟨#[112]⟩)
  f1 : W.cell? ⟨N + 2 + k, 1, none⟩ = some (.int .i64 0)
  f2 : W.cell? ⟨N + 2 + k, 2, none⟩ = some (.string ⟨#[]⟩)
  frz : ∀ b o, N ≤ b → b < N + 6 + k → W.frozen? ⟨b, o, none⟩ = false
  toLt : ∀ i j, tt i = some j → i < j ∧ j < k
  k300 : k ≤ 300
  big : N + 6 + k ≤ W.heap.size

theorem Bd.stp {w W W' : World} {N k : Nat} {tt : Nat → Option Nat} {tg tg' : Nat → Nat} {t : Nat} (h : Bd w N k tt W) (s : Stp (N + 6 + k) tg tg' t W W') : Bd w N k tt W' := by
  have hf : ∀ {a : Addr} {v : Value}, W.cell? a = some v → a.block < N + 6 + k → W'.cell? a = some v := fun h ha => s.fixed h ha
  have hb : ∀ b, b < N + 6 + k → W'.heap[b]? = W.heap[b]? := fun b hb => s.block hb h.big
  refine ⟨h.hN, ?_, fun i hi => hf (h.sc i hi) (by show N < _; omega), fun i hi => hf (h.ti i hi) (by show N + 1 + k < _; omega), fun i hi => hf (h.tos i hi) (by show N + 1 + i < _; omega), fun i hi => hf (h.spk i hi) (by show N + 1 + i < _; omega),
    hf h.p0 (by show N + 5 + k < _; omega), hf h.p2 (by show N + 5 + k < _; omega), (hb _ (by omega)).trans h.map, hf h.c3 (by show N + 3 + k < _; omega), hf h.f0 (by show N + 2 + k < _; omega), hf h.f1 (by show N + 2 + k < _; omega), hf h.f2 (by show N + 2 + k < _; omega),
    fun b o h1 h2 => (World.frozen?_of_block (hb b h2)).trans (h.frz b o h1 h2), h.toLt, h.k300, Nat.le_trans h.big s.size⟩
  obtain ⟨row, hg, hr, _⟩ := s
  exact h.bel.grown hg (by have := h.big; omega) (fun b hb => by have := (hr b hb).1; omega)

theorem Bd.set {w W : World} {N k b o : Nat} {tt : Nat → Option Nat} (h : Bd w N k tt W) (hm : Mut N k b o) (v : Value) : Bd w N k tt (W.setCell ⟨b, o, none⟩ v) := by
  have hne : b ≠ N + 4 + k := by rcases hm with h | h | h <;> omega
  have hNb : N ≤ b := by rcases hm with h | h | h <;> omega
  have hf : ∀ {b' o' : Nat} {u : Value}, W.cell? ⟨b', o', none⟩ = some u → (b' ≠ b ∨ o' ≠ o) → (W.setCell ⟨b, o, none⟩ v).cell? ⟨b', o', none⟩ = some u := fun {b' o' u} h0 hn => by
    rw [World.cell?_setCell_other _ _ _ _ (by intro e; simp only [Addr.mk.injEq] at e; omega)]; exact h0
  refine ⟨h.hN, ?_, fun i hi => hf (h.sc i hi) (by rcases hm with h | h | h <;> omega), fun i hi => hf (h.ti i hi) (by rcases hm with h | h | h <;> omega), fun i hi => hf (h.tos i hi) (by rcases hm with h | h | h <;> omega), fun i hi => hf (h.spk i hi) (by rcases hm with h | h | h <;> omega),
    hf h.p0 (by rcases hm with h | h | h <;> omega), hf h.p2 (by rcases hm with h | h | h <;> omega), (heap_setCell_other _ _ _ _ (fun e => hne (by simpa using e.symm))).trans h.map, hf h.c3 (by rcases hm with h | h | h <;> omega), hf h.f0 (by rcases hm with h | h | h <;> omega), hf h.f1 (by rcases hm with h | h | h <;> omega), hf h.f2 (by rcases hm with h | h | h <;> omega),
    fun b' o' h1 h2 => by rw [World.frozen?_setCell]; exact h.frz b' o' h1 h2, h.toLt, h.k300, by simpa using h.big⟩
  exact h.bel.grown (set_grown W b o v) (by have := h.big; omega) (fun c hc => by cases hc; exact hNb)

def encM (ml : List (Int × Nat)) : List Value := ml.flatMap fun p => [.int .i32 p.1, .int .i64 (p.2 : Nat)]
def encE (n : Nat) : List Value := (List.range n).flatMap fun q => [.int .i32 0, .int .i32 (q : Nat), .int .i32 0, .int .i32 0, .int .i32 0]

theorem encM_snoc (ml : List (Int × Nat)) (x : Int) (h : Nat) : encM (ml ++ [(x, h)]) = encM ml ++ [.int .i32 x, .int .i64 (h : Nat)] := by simp [encM]
theorem encE_succ (n : Nat) : encE (n + 1) = encE n ++ [.int .i32 0, .int .i32 (n : Nat), .int .i32 0, .int .i32 0, .int .i32 0] := by simp [encE, List.range_succ]

/-- the rules' row, and the rules -/
def RuS (tg : Nat → Nat) (N F : Nat) (vr : Value) (rs : List (Int × Nat)) (W : World) : Prop :=
  ∃ ps : List Value, Rw tg 1 F 78 1 vr rs.length ps W ∧ ∀ p, p < rs.length → ∃ R Q, ps[p]? = some (.pointer (some ⟨R, 0, none⟩)) ∧ Stc tg 0 F W ⟨R, 3, none⟩ (.pointer (some ⟨N + 1 + (rs[p]!).2, 0, none⟩)) ∧
    Stc tg 0 F W ⟨R, 4, none⟩ (.slice (some ⟨Q, 0, none⟩) 1 1) ∧ Stc tg 0 F W ⟨Q, 0, none⟩ (.int .i32 (rs[p]!).1)

/-- the bare assertions of schema q, as the law has laid them -/
def BSt (tg : Nat → Nat) (N F : Nat) (ne : Nat) (ts : List Int) (W : World) (q : Nat) : BB → Prop
  | .none => W.cell? ⟨N + 1 + q, 5, none⟩ = some (.slice none 0 0) ∧ W.cell? ⟨N + 1 + q, 9, none⟩ = some (.slice none 0 0)
  | .some (.inl x) => ∃ g g2 e, W.cell? ⟨N + 1 + q, 5, none⟩ = some (.slice (some ⟨g, 0, none⟩) 1 1) ∧ Stc tg 0 F W ⟨g, 0, none⟩ (.int .i32 (e : Nat)) ∧ e < ne ∧ ts[e]? = some x ∧
      W.cell? ⟨N + 1 + q, 9, none⟩ = some (.slice (some ⟨g2, 0, none⟩) 1 1) ∧ Stc tg 0 F W ⟨g2, 0, none⟩ (.slice none 0 0)
  | .some (.inr ps) => ∃ g g2 g3 c3, W.cell? ⟨N + 1 + q, 5, none⟩ = some (.slice (some ⟨g, 0, none⟩) 1 1) ∧
      W.cell? ⟨N + 1 + q, 9, none⟩ = some (.slice (some ⟨g2, 0, none⟩) 1 1) ∧ Stc tg 0 F W ⟨g2, 0, none⟩ (.slice (some ⟨g3, 0, none⟩) ps.length c3) ∧ ps.length ≤ c3 ∧
      ∀ j, j < ps.length → Stc tg 0 F W ⟨g3, j, none⟩ (.int .u64 (pairU (ps[j]!) j))

section
variable {N k F ne q b o : Nat} {tg tg' : Nat → Nat} {t : Nat} {W W' : World} {ts : List Int} {bb : BB} {vr : Value} {rs : List (Int × Nat)}

theorem RuS.stp (h : RuS tg N F vr rs W) (s : Stp F tg tg' t W W') (h0 : t ≠ 0) (h1 : t ≠ 1) : RuS tg' N F vr rs W' := by
  obtain ⟨ps, hr, hp⟩ := h
  refine ⟨ps, hr.stp s h1.symm, fun p hlt => ?_⟩
  obtain ⟨R, Q, a1, a2, a3, a4⟩ := hp p hlt
  exact ⟨R, Q, a1, a2.stp s h0.symm, a3.stp s h0.symm, a4.stp s h0.symm⟩

theorem RuS.set {u : Value} (h : RuS tg N F vr rs W) (hb : b < F) : RuS tg N F vr rs (W.setCell ⟨b, o, none⟩ u) := by
  obtain ⟨ps, hr, hp⟩ := h
  refine ⟨ps, hr.set hb, fun p hlt => ?_⟩
  obtain ⟨R, Q, a1, a2, a3, a4⟩ := hp p hlt
  exact ⟨R, Q, a1, a2.set hb, a3.set hb, a4.set hb⟩

theorem BSt.stp (h : BSt tg N F ne ts W q bb) (s : Stp F tg tg' t W W') (h0 : t ≠ 0) (hq : N + 1 + q < F) : BSt tg' N F ne ts W' q bb := by
  cases bb using BB.elim with
  | none => exact ⟨s.fixed h.1 hq, s.fixed h.2 hq⟩
  | row x =>
    obtain ⟨g, g2, e, a1, a2, a3, a4, a5, a6⟩ := h
    exact ⟨g, g2, e, s.fixed a1 hq, a2.stp s h0.symm, a3, a4, s.fixed a5 hq, a6.stp s h0.symm⟩
  | prs ps =>
    obtain ⟨g, g2, g3, c3, a1, a2, a3, a4, a5⟩ := h
    exact ⟨g, g2, g3, c3, s.fixed a1 hq, s.fixed a2 hq, a3.stp s h0.symm, a4, fun j hj => (a5 j hj).stp s h0.symm⟩

theorem BSt.set {u : Value} (h : BSt tg N F ne ts W q bb) (hb : b < F) (hne : b ≠ N + 1 + q) : BSt tg N F ne ts (W.setCell ⟨b, o, none⟩ u) q bb := by
  have hf : ∀ {o' : Nat} {x : Value}, W.cell? ⟨N + 1 + q, o', none⟩ = some x → (W.setCell ⟨b, o, none⟩ u).cell? ⟨N + 1 + q, o', none⟩ = some x := fun {o' x} h0 => by
    rw [World.cell?_setCell_other _ _ _ _ (by intro e; simp only [Addr.mk.injEq] at e; omega)]; exact h0
  cases bb using BB.elim with
  | none => exact ⟨hf h.1, hf h.2⟩
  | row x =>
    obtain ⟨g, g2, e, a1, a2, a3, a4, a5, a6⟩ := h
    exact ⟨g, g2, e, hf a1, a2.set hb, a3, a4, hf a5, a6.set hb⟩
  | prs ps =>
    obtain ⟨g, g2, g3, c3, a1, a2, a3, a4, a5⟩ := h
    exact ⟨g, g2, g3, c3, hf a1, hf a2, a3.set hb, a4, fun j hj => (a5 j hj).set hb⟩

theorem BSt.more (h : BSt tg N F ne ts W q bb) {ne' : Nat} (hn : ne ≤ ne') (us : List Int) : BSt tg N F ne' (ts ++ us) W q bb := by
  cases bb using BB.elim with
  | none => exact h
  | row x =>
    obtain ⟨g, g2, e, a1, a2, a3, a4, a5, a6⟩ := h
    exact ⟨g, g2, e, a1, a2, by omega, by rw [List.getElem?_append_left (List.getElem?_eq_some_iff.1 a4).1]; exact a4, a5, a6⟩
  | prs ps => exact h
end

/-- the whole of it; ex: the schema whose bare assertions are being laid -/
structure Bl (w : World) (N k : Nat) (tt : Nat → Option Nat) (tg : Nat → Nat) (ex : Option Nat) (vr vm ve vt : Value) (rs ml : List (Int × Nat)) (ne : Nat) (ts : List Int) (bs : Nat → BB) (W : World) : Prop where
  bd : Bd w N k tt W
  r3 : W.cell? ⟨N + 5 + k, 3, none⟩ = some vr
  c0 : W.cell? ⟨N + 3 + k, 0, none⟩ = some ve
  c2 : W.cell? ⟨N + 3 + k, 2, none⟩ = some vt
  rr : RuS tg N (N + 6 + k) vr rs W
  rm : Rw tg 2 (N + 6 + k) 87 2 vm ml.length (encM ml) W
  re : Rw tg 3 (N + 6 + k) 89 5 ve ne (encE ne) W
  rt : Rw tg 4 (N + 6 + k) 21 1 vt ts.length (ts.map (Value.int .i32)) W
  ba : ∀ q, q < k → ex ≠ some q → BSt tg N (N + 6 + k) ne ts W q (bs q)

section
variable {w W W' : World} {N k : Nat} {tt : Nat → Option Nat} {tg tg' : Nat → Nat} {ex : Option Nat} {vr vm ve vt : Value} {rs ml : List (Int × Nat)} {ne : Nat} {ts : List Int} {bs : Nat → BB} {t : Nat}

/-- a step that is none of its rows' -/
theorem Bl.stp (h : Bl w N k tt tg ex vr vm ve vt rs ml ne ts bs W) (s : Stp (N + 6 + k) tg tg' t W W') (ht : 5 ≤ t) : Bl w N k tt tg' ex vr vm ve vt rs ml ne ts bs W' :=
  ⟨h.bd.stp s, s.fixed h.r3 (by show N + 5 + k < _; omega), s.fixed h.c0 (by show N + 3 + k < _; omega), s.fixed h.c2 (by show N + 3 + k < _; omega), h.rr.stp s (by omega) (by omega), h.rm.stp s (by omega), h.re.stp s (by omega), h.rt.stp s (by omega), fun q hq he => (h.ba q hq he).stp s (by omega) (by omega)⟩

/-- the model's row has grown -/
theorem Bl.appM (h : Bl w N k tt tg ex vr vm ve vt rs ml ne ts bs W) (s : Stp (N + 6 + k) tg tg' 2 W W') {vm' : Value} {ml' : List (Int × Nat)} (hr : Rw tg' 2 (N + 6 + k) 87 2 vm' ml'.length (encM ml') W') : Bl w N k tt tg' ex vr vm' ve vt rs ml' ne ts bs W' :=
  ⟨h.bd.stp s, s.fixed h.r3 (by show N + 5 + k < _; omega), s.fixed h.c0 (by show N + 3 + k < _; omega), s.fixed h.c2 (by show N + 3 + k < _; omega), h.rr.stp s (by omega) (by omega), hr, h.re.stp s (by omega), h.rt.stp s (by omega), fun q hq he => (h.ba q hq he).stp s (by omega) (by omega)⟩

/-- the rules' row has grown, and is laid into the program -/
theorem Bl.appR (h : Bl w N k tt tg ex vr vm ve vt rs ml ne ts bs W) (s : Stp (N + 6 + k) tg tg' 1 W W') {vr' : Value} {rs' : List (Int × Nat)} (hr : RuS tg' N (N + 6 + k) vr' rs' W') : Bl w N k tt tg' ex vr' vm ve vt rs' ml ne ts bs (W'.setCell ⟨N + 5 + k, 3, none⟩ vr') := by
  have h3 := s.fixed h.r3 (by show N + 5 + k < _; omega)
  have hb : N + 5 + k < N + 6 + k := by omega
  refine ⟨(h.bd.stp s).set (Or.inl ⟨rfl, rfl⟩) _, World.cell?_setCell_same' _ _ _ (by rw [h3]; rfl), ?_, ?_, hr.set hb, (h.rm.stp s (by omega)).set hb, (h.re.stp s (by omega)).set hb, (h.rt.stp s (by omega)).set hb, fun q hq he => ((h.ba q hq he).stp s (by omega) (by omega)).set hb (by omega)⟩
  · rw [World.cell?_setCell_other _ _ _ _ (by intro e; simp only [Addr.mk.injEq] at e; omega)]; exact s.fixed h.c0 (by show N + 3 + k < _; omega)
  · rw [World.cell?_setCell_other _ _ _ _ (by intro e; simp only [Addr.mk.injEq] at e; omega)]; exact s.fixed h.c2 (by show N + 3 + k < _; omega)

/-- an entry more -/
theorem Bl.appE (h : Bl w N k tt tg ex vr vm ve vt rs ml ne ts bs W) (s : Stp (N + 6 + k) tg tg' 3 W W') {ve' : Value} (hr : Rw tg' 3 (N + 6 + k) 89 5 ve' (ne + 1) (encE (ne + 1)) W') : Bl w N k tt tg' ex vr vm ve' vt rs ml (ne + 1) ts bs (W'.setCell ⟨N + 3 + k, 0, none⟩ ve') := by
  have h3 := s.fixed h.c0 (by show N + 3 + k < _; omega)
  have hb : N + 3 + k < N + 6 + k := by omega
  refine ⟨(h.bd.stp s).set (Or.inr (Or.inl ⟨rfl, Or.inl rfl⟩)) _, ?_, World.cell?_setCell_same' _ _ _ (by rw [h3]; rfl), ?_, (h.rr.stp s (by omega) (by omega)).set hb, (h.rm.stp s (by omega)).set hb, hr.set hb, (h.rt.stp s (by omega)).set hb, fun q hq he => ?_⟩
  · rw [World.cell?_setCell_other _ _ _ _ (by intro e; simp only [Addr.mk.injEq] at e; omega)]; exact s.fixed h.r3 (by show N + 5 + k < _; omega)
  · rw [World.cell?_setCell_other _ _ _ _ (by intro e; simp only [Addr.mk.injEq] at e; omega)]; exact s.fixed h.c2 (by show N + 3 + k < _; omega)
  · have := (((h.ba q hq he).stp s (by omega) (by omega)).set (u := ve') (o := 0) hb (by omega)).more (Nat.le_succ ne) []
    rwa [List.append_nil] at this

/-- a term more -/
theorem Bl.appT (h : Bl w N k tt tg ex vr vm ve vt rs ml ne ts bs W) (s : Stp (N + 6 + k) tg tg' 4 W W') {vt' : Value} (x : Int) (hr : Rw tg' 4 (N + 6 + k) 21 1 vt' (ts ++ [x]).length ((ts ++ [x]).map (Value.int .i32)) W') : Bl w N k tt tg' ex vr vm ve vt' rs ml ne (ts ++ [x]) bs (W'.setCell ⟨N + 3 + k, 2, none⟩ vt') := by
  have h3 := s.fixed h.c2 (by show N + 3 + k < _; omega)
  have hb : N + 3 + k < N + 6 + k := by omega
  refine ⟨(h.bd.stp s).set (Or.inr (Or.inl ⟨rfl, Or.inr rfl⟩)) _, ?_, ?_, World.cell?_setCell_same' _ _ _ (by rw [h3]; rfl), (h.rr.stp s (by omega) (by omega)).set hb, (h.rm.stp s (by omega)).set hb, (h.re.stp s (by omega)).set hb, hr.set hb, fun q hq he => ?_⟩
  · rw [World.cell?_setCell_other _ _ _ _ (by intro e; simp only [Addr.mk.injEq] at e; omega)]; exact s.fixed h.r3 (by show N + 5 + k < _; omega)
  · rw [World.cell?_setCell_other _ _ _ _ (by intro e; simp only [Addr.mk.injEq] at e; omega)]; exact s.fixed h.c0 (by show N + 3 + k < _; omega)
  · exact (((h.ba q hq he).stp s (by omega) (by omega)).set (u := vt') (o := 2) hb (by omega)).more (Nat.le_refl ne) [x]

/-- a cell of the schema in hand -/
theorem Bl.setS {i : Nat} (h : Bl w N k tt tg ex vr vm ve vt rs ml ne ts bs W) (hi : i < k) (he : ex = none ∨ ex = some i) {o : Nat} (ho : o = 5 ∨ o = 9) (v : Value) : Bl w N k tt tg (some i) vr vm ve vt rs ml ne ts bs (W.setCell ⟨N + 1 + i, o, none⟩ v) := by
  have hb : N + 1 + i < N + 6 + k := by omega
  refine ⟨h.bd.set (Or.inr (Or.inr ⟨by omega, by omega, ho⟩)) v, ?_, ?_, ?_, h.rr.set hb, h.rm.set hb, h.re.set hb, h.rt.set hb, fun q hq hq' => ?_⟩
  · rw [World.cell?_setCell_other _ _ _ _ (by intro e; simp only [Addr.mk.injEq] at e; omega)]; exact h.r3
  · rw [World.cell?_setCell_other _ _ _ _ (by intro e; simp only [Addr.mk.injEq] at e; omega)]; exact h.c0
  · rw [World.cell?_setCell_other _ _ _ _ (by intro e; simp only [Addr.mk.injEq] at e; omega)]; exact h.c2
  · have hqi : q ≠ i := fun e => hq' (by rw [e])
    exact (h.ba q hq (by rcases he with rfl | rfl; simp; intro e; cases e; exact hqi rfl)).set hb (by omega)
end

end Go.Proofs.Ybulkecac
