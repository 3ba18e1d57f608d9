import Derived.Test.YbulkecacLawT1
import Derived.WalkKit
import Derived.ProofKit
import Derived.OpenShut
import Derived.ShutString
import Derived.ChangeOld
import Derived.Below
import Derived.Deep.Slices
import Derived.Lib.SmallJoins
import Derived.SizedLaws
namespace Go.Proofs.Ybulkecac.lawS6424BWhole
open Go.ChangeShapes Go.WideShapes Go.ChangeAt Go.RowKit
set_option linter.unusedVariables false

theorem wf8 {n : Int} (h : (Lit.int .u8 n).wf = true) : 0 ≤ n ∧ n ≤ 255 := by
  have e0 : IntKind.u8.min = 0 := by decide
  have e1 : IntKind.u8.max = 255 := by decide
  simp [Lit.wf, e0, e1] at h
  exact h
theorem wf32 {n : Int} (h : (Lit.int .i32 n).wf = true) : -2147483648 ≤ n ∧ n ≤ 2147483647 := by
  have e0 : IntKind.i32.min = -2147483648 := by decide
  have e1 : IntKind.i32.max = 2147483647 := by decide
  simp [Lit.wf, e0, e1] at h
  exact h

theorem cells5 : Yba.prog.cellsOf 5 = 1 := by kernel_rfl
theorem cells21 : Yba.prog.cellsOf 21 = 1 := by kernel_rfl
theorem cells77 : Yba.prog.cellsOf 77 = 2 := by kernel_rfl
theorem cells42 : Yba.prog.cellsOf 42 = 4 := by kernel_rfl
theorem cells4 : Yba.prog.cellsOf 4 = 1 := by kernel_rfl
theorem cells40 : Yba.prog.cellsOf 40 = 1 := by kernel_rfl

variable {H : Type} {enc : TypeId × Value → H} {W : World}

/-- a row of integers of one cell each -/
theorem open_row {t e : TypeId} {k : IntKind} {fuel : Nat} {v : Value} {x : DataW H × List MemPlace} (ht : Yba.prog.underlying t = some (.slice e)) (he : Yba.prog.underlying e = some (.int k)) (hc : Yba.prog.cellsOf e = 1) (h : DataW.trod enc Yba.prog W 0 (fun _ => true) true fuel t [v] = some x) :
    ∃ (a : Option Addr) (n c : Nat) (ts : Nat → Int), v = .slice a n c ∧ n ≤ c ∧ c ≤ maxLen ∧ ((∀ y ∈ x.1.weights Yba.prog t, y ≤ reachBytes) → c * Yba.prog.bytesOf e ≤ reachBytes) ∧ (∀ i, i < n → (Lit.int k (ts i)).wf = true) ∧ (0 < n → ∃ z, a = some z ∧ ∀ i, i < n → W.cell? (z.add i) = some (.int k (ts i))) := by
  rcases Go.Deep.open_slice1 ht hc h with ⟨hcs, _⟩ | ⟨z, l, c, m, n, V, D, Pl, hcs, _, hl, hm, hmm, hxe, hcell⟩
  · simp at hcs
    exact ⟨none, 0, 0, fun _ => 0, hcs, Nat.le_refl _, by decide, fun _ => by omega, fun i hi => by omega, fun h => by omega⟩
  · simp at hcs
    have hmc : m = c := by simpa using hmm
    have hB : ∀ i, i < m → ∃ z : Int, V i = .int k z ∧ (Lit.int k z).wf = true := fun i hi => by
      obtain ⟨b, hb, _, hw⟩ := DataW.trod_int he (hcell i hi).2
      exact ⟨b, by simpa using hb, hw⟩
    obtain ⟨g, hg⟩ := Go.Deep.choose_lt hB
    refine ⟨some z, l, c, g, hcs, hl, hm, fun hw => (by
      have := hw ((l + (m - l)) * Yba.prog.bytesOf e) (by rw [hxe]; simp [DataW.weights, ht])
      rwa [show l + (m - l) = c by omega] at this), fun i hi => (hg i (by omega)).2, fun _ => ⟨z, rfl, fun i hi => ?_⟩⟩
    rw [(hcell i (by omega)).1, (hg i (by omega)).1]

theorem add_zero' (a : Addr) : a.add 0 = a := by unfold Addr.add; rw [if_pos rfl]

theorem open_R {fuel : Nat} {v : Value} {x : DataW H × List MemPlace} (h : DataW.trod enc Yba.prog W 0 (fun _ => true) true fuel 38 [v] = some x) :
    ∃ (a : Option Addr) (n c : Nat) (hd sp : Nat → Int), v = .slice a n c ∧ n ≤ c ∧ c ≤ maxLen ∧ InR W a n hd sp := by
  rcases Go.Deep.open_slice Yba.underlying38 h with ⟨hcs, _⟩ | ⟨z, l, c, m, n, D, Pl, hcs, _, hl, hm, hmm, _, hcell⟩
  · simp at hcs
    exact ⟨none, 0, 0, fun _ => 0, fun _ => 0, hcs, Nat.le_refl _, by decide, fun i hi => by omega, fun h => by omega⟩
  · simp at hcs
    have hmc : m = c := by simpa using hmm
    rw [cells77] at hcell
    have hB : ∀ i, i < m → ∃ z2 : Int × Int, (0 ≤ z2.1 ∧ z2.1 ≤ 255) ∧ (-2147483648 ≤ z2.2 ∧ z2.2 ≤ 2147483647) ∧ W.cell? (z.add (i * 2)) = some (.int .u8 z2.1) ∧ W.cell? ((z.add (i * 2)).add 1) = some (.int .i32 z2.2) := fun i hi => by
      obtain ⟨cs, h1, h2⟩ := hcell i hi
      obtain ⟨_, hlen, hc⟩ := World.cells?_some h1
      match cs, hlen with
      | [u0, u1], _ =>
        obtain ⟨y0, y1, n', _, _, t0, t1⟩ := trod_struct2 Yba.underlying77 h2
        simp only [cells5, cells21, List.drop_zero, List.take_succ_cons, List.take_zero, List.drop_succ_cons] at t0 t1
        obtain ⟨b0, e0, _, w0⟩ := DataW.trod_int Yba.underlying5 t0
        obtain ⟨b1, e1, _, w1⟩ := DataW.trod_int Yba.underlying21 t1
        simp at e0 e1
        have c0 := hc 0 (by omega)
        have c1 := hc 1 (by omega)
        rw [add_zero'] at c0
        exact ⟨(b0, b1), wf8 w0, wf32 w1, by rw [c0, e0]; rfl, by rw [c1, e1]; rfl⟩
    obtain ⟨g, hg⟩ := Go.Deep.choose_lt hB
    exact ⟨some z, l, c, fun i => (g i).1, fun i => (g i).2, hcs, hl, hm, fun i hi => ⟨(hg i (by omega)).1, (hg i (by omega)).2.1⟩, fun _ => ⟨z, rfl, fun i hi => (hg i (by omega)).2.2⟩⟩

structure BE where
  h : Bool
  f : Bool
  r : Int
  a : Option Addr
  n : Nat
  c : Nat
  v : Nat → Int

theorem bytes21 : Yba.prog.bytesOf 21 = 4 := by kernel_rfl
theorem mem_all {P : Program} {e : TypeId} {d : DataW H} : ∀ {l : List (DataW H)}, d ∈ l → ∀ {y : Nat}, y ∈ d.weights P e → y ∈ DataW.weightsAll P e l
  | [], h, _, _ => by simp at h
  | d0 :: l, h, y, hy => by
    simp only [DataW.weightsAll, List.mem_append]
    rcases List.mem_cons.1 h with rfl | h
    · exact .inl hy
    · exact .inr (mem_all h hy)

theorem open_B {fuel : Nat} {v : Value} {x : DataW H × List MemPlace} (h : DataW.trod enc Yba.prog W 0 (fun _ => true) true fuel 39 [v] = some x) :
    ∃ (a : Option Addr) (n c : Nat) (bh bf : Nat → Bool) (br : Nat → Int) (pa : Nat → Option Addr) (pn pc : Nat → Nat) (pv : Nat → Nat → Int), v = .slice a n c ∧ n ≤ c ∧ c ≤ maxLen ∧ InB W a n bh bf br pa pn pc pv ∧ ((∀ y ∈ x.1.weights Yba.prog 39, y ≤ reachBytes) → ∀ i, i < n → pc i * 4 ≤ reachBytes) := by
  rcases Go.Deep.open_slice Yba.underlying39 h with ⟨hcs, _⟩ | ⟨z, l, c, m, n, D, Pl, hcs, _, hl, hm, hmm, hxe, hcell⟩
  · simp at hcs
    exact ⟨none, 0, 0, fun _ => false, fun _ => false, fun _ => 0, fun _ => none, fun _ => 0, fun _ => 0, fun _ _ => 0, hcs, Nat.le_refl _, by decide, ⟨fun i hi => by omega, fun h => by omega, fun i hi => by omega, fun i hi => by omega⟩, fun _ i hi => by omega⟩
  · simp at hcs
    have hmc : m = c := by simpa using hmm
    rw [cells42] at hcell
    have hB : ∀ i, i < m → ∃ b : BE, (-2147483648 ≤ b.r ∧ b.r ≤ 2147483647) ∧ (W.cell? (z.add (i * 4)) = some (.bool b.h) ∧ W.cell? ((z.add (i * 4)).add 1) = some (.bool b.f) ∧ W.cell? ((z.add (i * 4)).add 2) = some (.int .i32 b.r) ∧ W.cell? ((z.add (i * 4)).add 3) = some (.slice b.a b.n b.c)) ∧ b.n ≤ b.c ∧ ((∀ y ∈ (D i).weights Yba.prog 42, y ≤ reachBytes) → b.c * 4 ≤ reachBytes) ∧
        (0 < b.n → ∃ y, b.a = some y ∧ ∀ q, q < b.n → W.cell? (y.add q) = some (.int .i32 (b.v q)) ∧ -2147483648 ≤ b.v q ∧ b.v q ≤ 2147483647) := fun i hi => by
      obtain ⟨cs, h1, h2⟩ := hcell i hi
      obtain ⟨_, hlen, hc⟩ := World.cells?_some h1
      match cs, hlen with
      | [u0, u1, u2, u3], _ =>
        obtain ⟨y0, y1, y2, y3, n', hd, _, t0, t1, t2, t3⟩ := Go.Joins.trod_struct4 Yba.underlying42 h2
        simp only [cells4, cells21, cells40, List.drop_zero, List.take_succ_cons, List.take_zero, List.drop_succ_cons] at t0 t1 t2 t3
        obtain ⟨b0, e0, _⟩ := DataW.trod_bool Yba.underlying4 t0
        obtain ⟨b1, e1, _⟩ := DataW.trod_bool Yba.underlying4 t1
        obtain ⟨b2, e2, _, w2⟩ := DataW.trod_int Yba.underlying21 t2
        obtain ⟨a3, n3, c3, v3, e3, l3, m3, s3, w3, k3⟩ := open_row Yba.underlying40 Yba.underlying21 cells21 t3
        simp at e0 e1 e2
        have c0 := hc 0 (by omega)
        have c1 := hc 1 (by omega)
        have c2 := hc 2 (by omega)
        have c3' := hc 3 (by omega)
        rw [add_zero'] at c0
        exact ⟨⟨b0, b1, b2, a3, n3, c3, v3⟩, wf32 w2, ⟨by rw [c0, e0]; rfl, by rw [c1, e1]; rfl, by rw [c2, e2]; rfl, by rw [c3', e3]; rfl⟩, l3, fun hw => (by
          rw [bytes21] at s3
          refine s3 fun y hy => hw y ?_
          rw [show D i = _ from congrArg Prod.fst hd]
          simp only [DataW.weights, Yba.underlying42]
          exact DataW.weights_mem_each (j := 3) rfl rfl y hy), fun h0 => by
          obtain ⟨y, hy, hq⟩ := k3 h0
          exact ⟨y, hy, fun q hq' => ⟨hq q hq', wf32 (w3 q hq')⟩⟩⟩
    obtain ⟨g, hg⟩ := @Go.Deep.choose_lt BE ⟨⟨false, false, 0, none, 0, 0, fun _ => 0⟩⟩ _ _ hB
    exact ⟨some z, l, c, fun i => (g i).h, fun i => (g i).f, fun i => (g i).r, fun i => (g i).a, fun i => (g i).n, fun i => (g i).c, fun i => (g i).v, hcs, hl, hm, ⟨fun i hi => (hg i (by omega)).1, fun _ => ⟨z, rfl, fun i hi => (hg i (by omega)).2.1⟩, fun i hi => (hg i (by omega)).2.2.1, fun i hi => (hg i (by omega)).2.2.2.2⟩, fun hw i hi => (hg i (by omega)).2.2.2.1 fun y hy => hw y (by
      rw [hxe]
      simp only [DataW.weights, Yba.underlying39, List.mem_cons, List.mem_append]
      exact .inr (.inl (mem_all (List.mem_map.2 ⟨i, List.mem_range.2 hi, rfl⟩) hy)))⟩

end Go.Proofs.Ybulkecac.lawS6424BWhole
