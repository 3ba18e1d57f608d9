import Derived.Test.YbulkecacBld
namespace Go.Proofs.Ybulkecac
open Go.RowKit Go.Sort Go.Shelf
set_option linter.unusedSimpArgs false
set_option linter.unusedVariables false

theorem encE_get (n e j : Nat) (he : e < n) (hj : j < 5) : (encE n)[e * 5 + j]? = [Value.int .i32 0, .int .i32 (e : Nat), .int .i32 0, .int .i32 0, .int .i32 0][j]? := by
  have hl : ∀ m, (encE m).length = m * 5 := by
    intro m
    induction m with
    | zero => rfl
    | succ m ih => rw [encE_succ, List.length_append, ih]; simp; omega
  induction n with
  | zero => omega
  | succ n ih =>
    rw [encE_succ]
    by_cases h : e < n
    · rw [List.getElem?_append_left (by rw [hl]; omega)]; exact ih h
    · obtain rfl : e = n := by omega
      rw [List.getElem?_append_right (by rw [hl]; omega), hl, show e * 5 + j - e * 5 = j by omega]

theorem encM_get (ml : List (Int × Nat)) : ∀ p, p < ml.length → (encM ml)[p * 2]? = some (.int .i32 (ml[p]!).1) ∧ (encM ml)[p * 2 + 1]? = some (.int .i64 ((ml[p]!).2 : Nat)) := by
  induction ml with
  | nil => intro p hp; simp at hp
  | cons a l ih =>
    intro p hp
    cases p with
    | zero => simp [encM]
    | succ p =>
      have := ih p (by simpa using hp)
      have e : encM (a :: l) = [.int .i32 a.1, .int .i64 (a.2 : Nat)] ++ encM l := rfl
      rw [e, List.getElem?_append_right (by simp; omega), List.getElem?_append_right (by simp; omega)]
      rw [show (p + 1) * 2 - [Value.int .i32 a.1, .int .i64 (a.2 : Nat)].length = p * 2 by simp; omega, show (p + 1) * 2 + 1 - [Value.int .i32 a.1, .int .i64 (a.2 : Nat)].length = p * 2 + 1 by simp; omega]
      simpa using this

section
variable {w W W' : World} {N k : Nat} {tt : Nat → Option Nat} {tg : Nat → Nat} {vr vm ve vt : Value} {rs ml : List (Int × Nat)} {ts : List Int} {bs : Nat → BB}

theorem RuS.at {F : Nat} (h : RuS tg N F vr rs W) : RulesAt N W vr rs := by
  obtain ⟨ps, hr, hp⟩ := h
  have hc := fun g hg => hr.1.cells (g := g) hg
  rcases hr.1.2 with ⟨h1, h2⟩ | ⟨g, cap, cur, h1, hB, hg, hcap, _⟩
  · exact Or.inl ⟨List.length_eq_zero_iff.1 h2, h1⟩
  · refine Or.inr ⟨g, cap, h1, hcap, fun p hlt => ?_⟩
    obtain ⟨R, Q, a1, a2, a3, a4⟩ := hp p hlt
    have := hc g (by rw [h1]; rfl) p _ a1
    rw [addr_add0] at this
    exact ⟨R, Q, this, a2.1, a3.1, a4.1⟩

/-- what the program is when arrangeSpeakers is called -/
theorem Bl.ps (h : Bl w N k tt tg none vr vm ve vt rs ml ts.length ts bs W) (hts : ts.length < 100000) (rs4 : rs.length ≤ 4096) (rsk : ∀ p ∈ rs, p.2 < k) (bs4 : ∀ i, (bs i).says.length ≤ 4096)
    (bsW : ∀ i x, x ∈ (bs i).says → -2147483648 ≤ x ∧ x ≤ 2147483647) : PS N k tt rs bs W := by
  refine ⟨h.bd.p0, h.bd.p2, ⟨vr, h.r3, h.rr.at⟩, h.bd.map, h.bd.c3, h.bd.f0, h.bd.f1, h.bd.f2, fun i hi => ?_, h.bd.tos, h.bd.spk, fun i hi => h.bd.frz _ _ (by omega) (by omega), h.bd.toLt, h.bd.k300, rs4, rsk, bs4, bsW⟩
  have hb := h.ba i hi (by simp)
  generalize bs i = bb at hb
  cases bb using BB.elim with
  | none => exact hb.1
  | row x =>
    obtain ⟨g, g2, e, a1, a2, a3, a4, a5, a6⟩ := hb
    refine ⟨g, g2, e, a1, a2.1, by omega, ?_, a5, a6.1⟩
    obtain ⟨ge, ce, hve, _, _⟩ := h.re.1.form (by omega)
    obtain ⟨gt, ct, hvt, _, _⟩ := h.rt.1.form (by omega)
    have hce : ts.length ≤ ce := by
      rcases h.re.1.2 with ⟨h1, h2⟩ | ⟨g', cap', cur', h1, _, _, h2, _⟩
      · omega
      · rw [hve] at h1; cases h1; exact h2
    have hct : ts.length ≤ ct := by
      rcases h.rt.1.2 with ⟨h1, h2⟩ | ⟨g', cap', cur', h1, _, _, h2, _⟩
      · omega
      · rw [hvt] at h1; cases h1; exact h2
    have hcm : ct ≤ maxLen := by
      rcases h.rt.1.2 with ⟨h1, h2⟩ | ⟨g', cap', cur', h1, _, _, _, h2, _⟩
      · omega
      · rw [hvt] at h1; cases h1; exact h2
    have cE : ∀ j, j < 5 → W.cell? ⟨ge, e * 5 + j, none⟩ = [Value.int .i32 0, .int .i32 (e : Nat), .int .i32 0, .int .i32 0, .int .i32 0][j]? := fun j hj => by
      have hg := encE_get ts.length e j a3 hj
      obtain ⟨u, hu⟩ : ∃ u, [Value.int .i32 0, .int .i32 (e : Nat), .int .i32 0, .int .i32 0, .int .i32 0][j]? = some u := ⟨_, List.getElem?_eq_getElem (by simpa using hj)⟩
      have := h.re.1.cells (g := ge) (by rw [hve]; rfl) (e * 5 + j) u (by rw [hg, hu])
      rw [addr_add0] at this
      rw [this, hu]
    have cT : W.cell? ⟨gt, e, none⟩ = some (.int .i32 x) := by
      have := h.rt.1.cells (g := gt) (by rw [hvt]; rfl) e (.int .i32 x) (by rw [List.getElem?_map, a4]; rfl)
      rw [addr_add0] at this
      exact this
    refine ⟨ge, ts.length, ce, gt, ts.length, ct, e, by rw [h.c0, hve], a3, hce, cE 0 (by omega), cE 1 (by omega), ⟨0, cE 2 (by omega)⟩, ⟨0, cE 3 (by omega)⟩, ⟨0, cE 4 (by omega)⟩, by rw [h.c2, hvt], a3, hct, hcm, by omega, cT⟩
  | prs ps =>
    obtain ⟨g, g2, g3, c3, a1, a2, a3, a4, a5⟩ := hb
    exact ⟨g, g2, g3, c3, a1, a2, a3.1, a4, fun q hq => (a5 q hq).1⟩

/-- .. and behind arrangeSpeakers -/
theorem Bl.st (h : Bl w N k tt tg none vr vm ve vt rs ml ts.length ts bs W) (A : ArrPost N k tt rs bs W W') (rs4 : rs.length ≤ 4096) : ST w N k tt rs W' := by
  have hB := h.bd.big
  have ho : ∀ {a : Addr} {v : Value}, W.cell? a = some v → ¬ (N + 1 ≤ a.block ∧ a.block < N + 1 + k) → W'.cell? a = some v := fun {a v} h0 hn => (World.cell?_of_block (A.other a.block (World.block_lt_of_cell? _ _ h0) hn)).trans h0
  have hR : RulesAt N W' vr rs := by
    obtain ⟨ps, hr, hp⟩ := h.rr
    have hc := fun g hg => hr.1.cells (g := g) hg
    rcases hr.1.2 with ⟨h1, h2⟩ | ⟨g, cap, cur, h1, hB', hg, hcap, _⟩
    · exact Or.inl ⟨List.length_eq_zero_iff.1 h2, h1⟩
    · refine Or.inr ⟨g, cap, h1, hcap, fun p hlt => ?_⟩
      obtain ⟨R, Q, a1, a2, a3, a4⟩ := hp p hlt
      have := hc g (by rw [h1]; rfl) p _ a1
      rw [addr_add0] at this
      exact ⟨R, Q, ho this (by show ¬ (N + 1 ≤ g ∧ g < N + 1 + k); omega), ho a2.1 (by have := a2.2.1; omega), ho a3.1 (by have := a3.2.1; omega), ho a4.1 (by have := a4.2.1; omega)⟩
  refine ⟨h.bd.hN, ⟨A.os.trans h.bd.bel.os, A.tape.trans h.bd.bel.tape, A.out.trans h.bd.bel.output, Nat.le_trans h.bd.bel.size A.size, fun b hb => (A.other b (by omega) (by omega)).trans (h.bd.bel.block b hb)⟩, fun i hi => ho (h.bd.sc i hi) (by show ¬ (N + 1 ≤ N ∧ _); omega), fun i hi => ho (h.bd.ti i hi) (by show ¬ (N + 1 ≤ N + 1 + k ∧ N + 1 + k < N + 1 + k); omega),
    fun i hi => (A.sch i hi 3 (by decide)).trans (h.bd.tos i hi), ⟨vr, ho h.r3 (by show ¬ (N + 1 ≤ N + 5 + k ∧ N + 5 + k < N + 1 + k); omega), hR⟩, h.bd.toLt, h.bd.k300, rs4, Nat.le_trans hB A.size⟩

theorem Bl.cm (h : Bl w N k tt tg none vr vm ve vt rs ml ts.length ts bs W) (A : ArrPost N k tt rs bs W W') : CellsM W' vm ml := by
  have hc := fun g hg => h.rm.1.cells (g := g) hg
  rcases h.rm.1.2 with ⟨h1, h2⟩ | ⟨g, cap, cur, h1, hB', hg, hcap, _⟩
  · exact Or.inl ⟨List.length_eq_zero_iff.1 h2, h1⟩
  · have hgl : g < W.heap.size := (Array.getElem?_eq_some_iff.1 hg).1
    have hb := A.other g hgl (by omega)
    refine Or.inr ⟨g, cap, h1, hcap, fun p hlt => ?_⟩
    obtain ⟨e1, e2⟩ := encM_get ml p hlt
    have c1 := hc g (by rw [h1]; rfl) _ _ e1
    have c2 := hc g (by rw [h1]; rfl) _ _ e2
    rw [addr_add0] at c1 c2
    exact ⟨(World.cell?_of_block hb).trans c1, (World.cell?_of_block hb).trans c2⟩

theorem ArrPost.spT (A : ArrPost N k tt rs bs W W') : ∃ (Vs : Nat → Value) (Ls : Nat → List Int), SpT W' N k Vs Ls ∧ ∀ j, j < k → (Ls j).Pairwise (· < ·) ∧ ∀ x, x ∈ Ls j ↔ ∃ h, Said k rs bs x h ∧ Rch tt h j := by
  obtain ⟨V, L, h⟩ := A.spk
  exact ⟨V, L, fun j hj => ⟨(h j hj).1, cellsI_of_row (h j hj).2.1, fun b hb => ((h j hj).2.1.lt b hb).2⟩, fun j hj => (h j hj).2.2⟩
end

end Go.Proofs.Ybulkecac
