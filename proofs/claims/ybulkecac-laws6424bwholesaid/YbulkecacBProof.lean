import Derived.Test.YbulkecacLawM
import Derived.Test.YbulkecacOpen
namespace Go.Proofs.Ybulkecac.lawS6424BWhole
open Go.ChangeShapes Go.WideShapes Go.ChangeAt Go.RowKit
set_option linter.unusedVariables false

theorem walk (a0 : Option Addr) (n0 c0 : Nat) (ts : Nat → Int) (a1 : Option Addr) (n1 c1 : Nat) (hd sp : Nat → Int) (a2 : Option Addr) (n2 c2 : Nat) (bh bf : Nat → Bool) (br : Nat → Int) (pa : Nat → Option Addr) (pn pc : Nat → Nat) (pv : Nat → Nat → Int) (W : World)
    (hT : InT W a0 n0 ts) (h0 : n0 ≤ maxLen) (hin : InR W a1 n1 hd sp) (h1c : n1 ≤ c1) (h1 : n1 ≤ maxLen) (hib : InB W a2 n2 bh bf br pa pn pc pv) (h2c : n2 ≤ c2) (h2 : n2 ≤ maxLen) (hpn : ∀ i, i < n2 → pn i ≤ 9223372036854771711) :
    Calls Yba.prog 5 #[.slice a0 n0 c0, .slice a1 n1 c1, .slice a2 n2 c2] W fun e w' => e = .returned (.bool true) ∧ Below W.heap.size W w' := by
  simp only [maxLen] at h0 h1 h2
  by_cases h : 300 < n0 ∨ 4096 < n1
  · exact law_far W a0 n0 c0 a1 n1 c1 a2 n2 c2 h (by omega) (by omega)
  · exact law_near W a0 n0 c0 ts a1 n1 c1 hd sp a2 n2 c2 bh bf br pa pn pc pv hT (by omega) hin h1c (by omega) hib h2c (by omega) hpn

/-! ### THE ROW's STEP -/
set_option maxRecDepth 100000 in
theorem lifted (os : Os) (started : os.Started) (H : Type) (enc : TypeId × Value → H) :
    ReturnsInHanded {} Yba.checked os 5 .any (Rows.lawS6424BWholeSpec.pre6 enc Yba.prog Yba.f5 Rows.lawS6424BWholeRow.domain false) (Rows.lawS6424BWholeSpec.post enc Yba.prog Yba.f5 false true false false) := by
  refine returnsInHanded_of_change_sized (C := Yba.checked) own started (by kernel_rfl) Yba.func5
    (ChangeSpec.witness6 (enc := enc) (C := Yba.checked) false ⟨#[], #[.slice none 0 0, .slice none 0 0, .slice none 0 0], []⟩ 8 (by kernel_rfl) (by kernel_rfl) (by kernel_rfl) (by kernel_rfl)) ?_
  intro W base args ds gs before hval0 hW hcnd hsz0 _
  have hsz : (DataW.weightsEach Yba.prog (Yba.f5.params.toList ++ Rows.lawS6424BWholeSpec.plain.varTypes Yba.prog) (ds ++ gs)).all (· ≤ reachBytes) = true := hsz0
  clear hsz0
  have hval : ∀ (j : Nat) t v, Yba.f5.params[j]? = some t → args[j]? = some v → Value.okWide Yba.prog W .any base t v := hval0
  have hW' := hW
  obtain ⟨p, q, hA0, hV, rfl, hfz, hnd⟩ := hW
  have hA : DataW.TrodAll enc Yba.prog W 0 (fun _ => true) true Yba.f5.params.toList args.toList ds p := hA0
  rw [Yba.params5] at hA hval hsz
  obtain ⟨v0, vs0, d0, ds0, p0, q0, hargs, rfl, rfl, h0, r0⟩ := trodAll_cons hA
  obtain ⟨v1, vs1, d1, ds1, p1, q1, rfl, rfl, rfl, h1, r1⟩ := trodAll_cons r0
  obtain ⟨v2, vs2, d2, ds2, p2, q2, rfl, rfl, rfl, h2, r2⟩ := trodAll_cons r1
  obtain ⟨rfl, rfl, rfl⟩ := trodAll_nil r2
  obtain rfl : args = #[v0, v1, v2] := by cases args; simp_all
  obtain ⟨rfl, rfl⟩ := trodVars_none hV
  obtain ⟨x0, y0, z0, rfl⟩ := okWide_slice Yba.underlying22 (hval 0 22 v0 rfl rfl)
  obtain ⟨x1, y1, z1, rfl⟩ := okWide_slice Yba.underlying38 (hval 1 38 v1 rfl rfl)
  obtain ⟨x2, y2, z2, rfl⟩ := okWide_slice Yba.underlying39 (hval 2 39 v2 rfl rfl)
  have k0 := h0
  have k1 := h1
  have k2 := h2
  have lt0 : ∀ x ∈ p0, x.block < W.heap.size := by obtain ⟨m, hm⟩ := k0; exact DataW.trod_lt m _ _ _ hm
  have lt1 : ∀ x ∈ p1, x.block < W.heap.size := by obtain ⟨m, hm⟩ := k1; exact DataW.trod_lt m _ _ _ hm
  have lt2 : ∀ x ∈ p2, x.block < W.heap.size := by obtain ⟨m, hm⟩ := k2; exact DataW.trod_lt m _ _ _ hm
  have hw2 : ∀ y ∈ d2.weights Yba.prog 39, y ≤ reachBytes := fun y hy => by
    have := List.all_eq_true.1 hsz _ (DataW.weights_mem_each (j := 2) (t := 39) (d := d2) rfl rfl y hy)
    simpa using this
  obtain ⟨f0, t0⟩ := h0
  obtain ⟨f1, t1⟩ := h1
  obtain ⟨f2, t2⟩ := h2
  simp only [Value.cells] at t0 t1 t2
  obtain ⟨a0, n0, c0, ts, e0, l0, m0, _, w0, i0⟩ := open_row Yba.underlying22 Yba.underlying5 cells5 t0
  obtain ⟨a1, n1, c1, hd, sp, e1, l1, m1, i1⟩ := open_R t1
  obtain ⟨a2, n2, c2, bh, bf, br, pa, pn, pc, pv, e2, l2, m2, i2, s2⟩ := open_B t2
  have hpn : ∀ i, i < n2 → pn i ≤ 9223372036854771711 := fun i hi => by
    have := s2 hw2 i hi
    have := i2.cap i hi
    simp only [reachBytes] at *
    omega
  clear hA0 hval0
  rw [e0, e1, e2]
  refine (walk a0 n0 c0 ts a1 n1 c1 hd sp a2 n2 c2 bh bf br pa pn pc pv W ⟨fun i hi => wf8 (w0 i hi), i0⟩ (by omega) i1 l1 (by omega) i2 l2 (by omega) hpn).mono fun e W' ⟨he, bel⟩ => ?_
  subst he
  rw [← e0, ← e1, ← e2]
  exact ⟨_, rfl, _, _, _, [], _, [], hW', trodAll_mk1 (shut_bool Yba.underlying4 _), (trodAll_cons_mk (Below.trod laidOut (by kernel_rfl) (of_decide_eq_true (by kernel_rfl)) k0 bel lt0) (trodAll_cons_mk (Below.trod laidOut (by kernel_rfl) (of_decide_eq_true (by kernel_rfl)) k1 bel lt1) (trodAll_cons_mk (Below.trod laidOut (by kernel_rfl) (of_decide_eq_true (by kernel_rfl)) k2 bel lt2) trodAll_mk0))), rfl, bel.frame _, fun h => by cases h⟩

theorem over : Rows.lawS6424BWholeRow.holds Yba.pinned (OpenSpec.ofChange Rows.lawS6424BWholeSpec) :=
  OpenClaim.holds_of_wide 5 Yba.f5 rfl rfl rfl rfl rfl rfl rfl ⟨rfl, rfl, rfl, rfl, rfl⟩ rfl rfl rfl rfl rfl (by kernel_rfl) Yba.func5 (by kernel_rfl)
    (of_decide_eq_true (by kernel_rfl)) (by unfold Func.isWrapper; first | (rw [if_pos (by decide +kernel)]; kernel_rfl) | (rw [if_neg (by decide +kernel)]; exact ⟨rfl, rfl⟩))
    (fun os started H enc _ => lifted os started H enc)

theorem proved : Rows.LawS6424BWholeSaid := over
end Go.Proofs.Ybulkecac.lawS6424BWhole
