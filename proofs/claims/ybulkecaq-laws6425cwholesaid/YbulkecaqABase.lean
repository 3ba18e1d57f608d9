import Derived.Test.YbulkecaqArr
import Derived.Test.YbulkecaqBWalk
import Derived.Deep.RegionWith
import Derived.Lib.Builder
namespace Go.Proofs.Ybulkecaq
open Go.RowKit Go.Conc
set_option linter.unusedSimpArgs false
set_option linter.unusedVariables false

/-- a slice of integers that came in, cell by cell -/
def Src (w : World) (k : IntKind) (a : Option Addr) (l : Nat) : Prop :=
  0 < l → ∃ bb off, a = some ⟨bb, off, none⟩ ∧ bb < w.heap.size ∧ ∀ i, i < l → ∃ x, w.cell? ⟨bb, off + i, none⟩ = some (.int k x) ∧ (Lit.int k x).wf = true

theorem wf_u8 {n : Int} (h : (Lit.int .u8 n).wf = true) : 0 ≤ n ∧ n ≤ 255 := by
  have e0 : IntKind.u8.min = 0 := by decide
  have e1 : IntKind.u8.max = 255 := by decide
  simp [Lit.wf, e0, e1] at h
  exact h

/-- k is how many bits an index takes -/
structure IsK (n k : Nat) : Prop where
  k6 : k ≤ 6
  nk : n ≤ 2 ^ k
  below : ∀ j, j < k → 2 ^ j < n

theorem exists_k (n : Nat) (h1 : 1 ≤ n) (h64 : n ≤ 64) : ∃ k, IsK n k := by
  rcases (by omega : n = 1 ∨ n = 2 ∨ (3 ≤ n ∧ n ≤ 4) ∨ (5 ≤ n ∧ n ≤ 8) ∨ (9 ≤ n ∧ n ≤ 16) ∨ (17 ≤ n ∧ n ≤ 32) ∨ (33 ≤ n ∧ n ≤ 64)) with h | h | h | h | h | h | h
  · exact ⟨0, by omega, by omega, fun j hj => by omega⟩
  · exact ⟨1, by omega, by omega, fun j hj => by obtain rfl : j = 0 := by omega
                                                 omega⟩
  · exact ⟨2, by omega, by omega, fun j hj => by rcases (by omega : j = 0 ∨ j = 1) with rfl | rfl <;> omega⟩
  · exact ⟨3, by omega, by omega, fun j hj => by rcases (by omega : j = 0 ∨ j = 1 ∨ j = 2) with rfl | rfl | rfl <;> omega⟩
  · exact ⟨4, by omega, by omega, fun j hj => by rcases (by omega : j = 0 ∨ j = 1 ∨ j = 2 ∨ j = 3) with rfl | rfl | rfl | rfl <;> omega⟩
  · exact ⟨5, by omega, by omega, fun j hj => by rcases (by omega : j = 0 ∨ j = 1 ∨ j = 2 ∨ j = 3 ∨ j = 4) with rfl | rfl | rfl | rfl | rfl <;> omega⟩
  · exact ⟨6, by omega, by omega, fun j hj => by rcases (by omega : j = 0 ∨ j = 1 ∨ j = 2 ∨ j = 3 ∨ j = 4 ∨ j = 5) with rfl | rfl | rfl | rfl | rfl | rfl <;> omega⟩

theorem shr_more (n j : Nat) (hn : 1 ≤ n) (h : 2 ^ j < n) : (((n : Int) - 1) / 2 ^ j != 0) = true := by
  have e : ((n : Int) - 1) / 2 ^ j = (((n - 1) / 2 ^ j : Nat) : Int) := by
    rw [Int.natCast_ediv]; simp; congr 1; omega
  rw [e]
  have : 0 < (n - 1) / 2 ^ j := Nat.div_pos (by omega) (Nat.two_pow_pos j)
  generalize (n - 1) / 2 ^ j = x at this
  simp; omega
theorem shr_done (n j : Nat) (hn : 1 ≤ n) (h : n ≤ 2 ^ j) : (((n : Int) - 1) / 2 ^ j != 0) = false := by
  have e : ((n : Int) - 1) / 2 ^ j = (((n - 1) / 2 ^ j : Nat) : Int) := by
    rw [Int.natCast_ediv]; simp; congr 1; omega
  rw [e]
  have : (n - 1) / 2 ^ j = 0 := Nat.div_eq_of_lt (by have := Nat.two_pow_pos j; omega)
  rw [this]; rfl

def uOf (T : Nat → Int) : Nat → Value := fun i => .int .u64 (T i)
def bOf (K : Nat → Bool) : Nat → Value := fun i => .bool (K i)
theorem uOf_upd (T : Nat → Int) (i : Nat) (v : Int) : upd (uOf T) i (.int .u64 v) = uOf (upd T i v) := by
  funext j; by_cases h : j = i <;> simp [upd, uOf, h]
theorem bOf_upd (K : Nat → Bool) (i : Nat) (v : Bool) : upd (bOf K) i (.bool v) = bOf (upd K i v) := by
  funext j; by_cases h : j = i <;> simp [upd, bOf, h]

/-- loop 2: the turns -/
def TInv (N n : Nat) (w : World) (i : Value) (wr : World) : Prop :=
  ∃ (i0 : Nat) (T : Nat → Int), i0 ≤ n ∧ i = .int .i64 (i0 : Int) ∧ Arr N n (uOf T) wr ∧ Below N w wr ∧ wr.heap.size = N + 1

/-- loop 3: what is to be expected -/
def EInv (N n base d : Nat) (T : Nat → Int) (w : World) (j : Value) (wr : World) : Prop :=
  ∃ j0 : Nat, j0 ≤ d ∧ j = .int .u64 (j0 : Int) ∧ Arr N n (uOf T) wr ∧ Arr (N + 1) n (uOf (stp base n T j0).1) wr ∧ Arr (N + 2) n (bOf (stp base n T j0).2) wr ∧ Below N w wr ∧ wr.heap.size = N + 3

theorem EInv.hit {N n base d : Nat} {T : Nat → Int} {w wr : World} {j0 : Nat} {I : Nat} {L : Int} (hjd : j0 < d) (hI : I < n) (hT : Arr N n (uOf T) wr) (hE : Arr (N + 1) n (uOf (stp base n T j0).1) wr) (hK : Arr (N + 2) n (bOf (stp base n T j0).2) wr) (hB : Below N w wr) (hsz : wr.heap.size = N + 3)
    (hst : stp base n T (j0 + 1) = (upd (stp base n T j0).1 I (2 * L), upd (stp base n T j0).2 I true)) :
    EInv N n base d T w (.int .u64 ((j0 : Int) + 1)) ((wr.setCell ⟨N + 1, I, none⟩ (.int .u64 (2 * L))).setCell ⟨N + 2, I, none⟩ (.bool true)) := by
  refine ⟨j0 + 1, by omega, by simp, ?_, ?_, ?_, ?_, by simp [hsz]⟩
  · exact (hT.set_other _ _ (by show N ≠ N + 1; omega)).set_other _ _ (by show N ≠ N + 2; omega)
  · rw [hst, ← uOf_upd]
    exact (hE.set I hI _).set_other _ _ (by show N + 1 ≠ N + 2; omega)
  · rw [hst, ← bOf_upd]
    exact (hK.set_other _ _ (by show N + 2 ≠ N + 1; omega)).set I hI _
  · exact (hB.setCell (p := ⟨N + 1, I, none⟩) (by show N ≤ N + 1; omega) _).setCell (p := ⟨N + 2, I, none⟩) (by show N ≤ N + 2; omega) _
theorem EInv.miss {N n base d : Nat} {T : Nat → Int} {w wr : World} {j0 : Nat} (hjd : j0 < d) (hT : Arr N n (uOf T) wr) (hE : Arr (N + 1) n (uOf (stp base n T j0).1) wr) (hK : Arr (N + 2) n (bOf (stp base n T j0).2) wr) (hB : Below N w wr) (hsz : wr.heap.size = N + 3)
    (hst : stp base n T (j0 + 1) = stp base n T j0) : EInv N n base d T w (.int .u64 ((j0 : Int) + 1)) wr :=
  ⟨j0 + 1, by omega, by simp, hT, by rw [hst]; exact hE, by rw [hst]; exact hK, hB, hsz⟩

/-- loop 4: the cells of the ring, the waiters -/
def cF (T : Nat → Int) (i0 : Nat) : Nat → Value := fun o =>
  if o / 2 < i0 then (if o % 2 = 0 then .int .u64 (T (o / 2)) else .int .i64 ((o / 2 : Nat) : Int)) else (if o % 2 = 0 then .int .u64 0 else .int .i64 0)
def pF (N i0 : Nat) : Nat → Value := fun i => .pointer (if i < i0 then some ⟨N + 7 + 2 * i, 0, none⟩ else none)

structure Built (N n : Nat) (T E : Nat → Int) (K : Nat → Bool) (w : World) (i0 : Nat) (wr : World) : Prop where
  hT : Arr N n (uOf T) wr
  hE : Arr (N + 1) n (uOf E) wr
  hK : Arr (N + 2) n (bOf K) wr
  hC : Arr (N + 3) (n * 2) (cF T i0) wr
  hP : Arr (N + 4) n (pF N i0) wr
  hW : Arr (N + 5) n (pF N i0) wr
  ch : ∀ i, i < i0 → wr.heap[N + 6 + 2 * i]? = some (.chan 1 #[] false 0 0 false)
  wt : ∀ i, i < i0 → wr.cell? ⟨N + 7 + 2 * i, 3, none⟩ = some (.chan (some (N + 6 + 2 * i)))
  bel : Below N w wr
  size : wr.heap.size = N + 6 + 2 * i0

theorem Built.next {N n : Nat} {T E : Nat → Int} {K : Nat → Bool} {w wr wc : World} {i0 : Nat} (hb : Built N n T E K w i0 wr) (hin : i0 < n) (hwc : wc = wr.drew.setCell ⟨N + 3, i0 * 2, none⟩ (.int .u64 (T i0))) :
    Built N n T E K w (i0 + 1) (((((wc.setCell ⟨N + 3, i0 * 2 + 1, none⟩ (.int .i64 (i0 : Int))).setCell ⟨N + 4, i0, none⟩ (.pointer (some ⟨wc.heap.size + 1, 0, none⟩))).setCell ⟨N + 5, i0, none⟩ (.pointer (some ⟨wc.heap.size + 1, 0, none⟩))).alloc (.chan 1 #[] false 0 0 false)).alloc
      (.cells #[.pointer none, .pointer none, .bool false, .chan (some wc.heap.size)] 43)) := by
  have hZ : wc.heap.size = N + 6 + 2 * i0 := by rw [hwc]; simpa using hb.size
  rw [hZ]
  have hC1 : Arr (N + 3) (n * 2) (upd (cF T i0) (i0 * 2) (.int .u64 (T i0))) wc := by rw [hwc]; exact Arr.set (w := wr.drew) hb.hC (i0 * 2) (by omega) _
  have hoc : ∀ x, x ≠ N + 3 → wc.heap[x]? = wr.heap[x]? := fun x hx => by rw [hwc]; exact Below.heap_setCell wr.drew ⟨N + 3, i0 * 2, none⟩ _ x hx
  have hbc : Below N w wc := by rw [hwc]; exact Below.setCell (w := wr.drew) hb.bel.drew (p := ⟨N + 3, i0 * 2, none⟩) (by show N ≤ N + 3; omega) _
  clear hwc
  -- the three stores
  generalize hW1 : (wc.setCell ⟨N + 3, i0 * 2 + 1, none⟩ (.int .i64 (i0 : Int))) = W1
  have hz1 : W1.heap.size = N + 6 + 2 * i0 := by rw [← hW1]; simpa using hZ
  have hC2 : Arr (N + 3) (n * 2) (upd (upd (cF T i0) (i0 * 2) (.int .u64 (T i0))) (i0 * 2 + 1) (.int .i64 (i0 : Int))) W1 := by rw [← hW1]; exact hC1.set (i0 * 2 + 1) (by omega) _
  have ho1 : ∀ x, x ≠ N + 3 → W1.heap[x]? = wr.heap[x]? := fun x hx => by rw [← hW1, Below.heap_setCell wc ⟨N + 3, i0 * 2 + 1, none⟩ _ x hx]; exact hoc x hx
  have hb1 : Below N w W1 := by rw [← hW1]; exact hbc.setCell (p := ⟨N + 3, i0 * 2 + 1, none⟩) (by show N ≤ N + 3; omega) _
  have hP1 : Arr (N + 4) n (pF N i0) W1 := hb.hP.of_block (ho1 _ (by omega))
  have hQ1 : Arr (N + 5) n (pF N i0) W1 := hb.hW.of_block (ho1 _ (by omega))
  clear hW1 hC1 hoc hbc hZ
  generalize hW2 : (W1.setCell ⟨N + 4, i0, none⟩ (.pointer (some ⟨N + 6 + 2 * i0 + 1, 0, none⟩))) = W2
  have hz2 : W2.heap.size = N + 6 + 2 * i0 := by rw [← hW2]; simpa using hz1
  have hC3 := hC2.set_other ⟨N + 4, i0, none⟩ (.pointer (some ⟨N + 6 + 2 * i0 + 1, 0, none⟩)) (by show N + 3 ≠ N + 4; omega)
  have hP2 := hP1.set i0 hin (.pointer (some ⟨N + 6 + 2 * i0 + 1, 0, none⟩))
  have hQ2 := hQ1.set_other ⟨N + 4, i0, none⟩ (.pointer (some ⟨N + 6 + 2 * i0 + 1, 0, none⟩)) (by show N + 5 ≠ N + 4; omega)
  have ho2 : ∀ x, x ≠ N + 3 → x ≠ N + 4 → W2.heap[x]? = wr.heap[x]? := fun x h3 h4 => by rw [← hW2, Below.heap_setCell W1 ⟨N + 4, i0, none⟩ _ x h4]; exact ho1 x h3
  have hb2 : Below N w W2 := by rw [← hW2]; exact hb1.setCell (p := ⟨N + 4, i0, none⟩) (by show N ≤ N + 4; omega) _
  rw [hW2] at hC3 hP2 hQ2
  clear hW2 hC2 ho1 hb1 hP1 hQ1 hz1
  generalize hW3 : (W2.setCell ⟨N + 5, i0, none⟩ (.pointer (some ⟨N + 6 + 2 * i0 + 1, 0, none⟩))) = W3
  have hz3 : W3.heap.size = N + 6 + 2 * i0 := by rw [← hW3]; simpa using hz2
  have hC4 := hC3.set_other ⟨N + 5, i0, none⟩ (.pointer (some ⟨N + 6 + 2 * i0 + 1, 0, none⟩)) (by show N + 3 ≠ N + 5; omega)
  have hP3 := hP2.set_other ⟨N + 5, i0, none⟩ (.pointer (some ⟨N + 6 + 2 * i0 + 1, 0, none⟩)) (by show N + 4 ≠ N + 5; omega)
  have hQ3 := hQ2.set i0 hin (.pointer (some ⟨N + 6 + 2 * i0 + 1, 0, none⟩))
  have ho3 : ∀ x, x ≠ N + 3 → x ≠ N + 4 → x ≠ N + 5 → W3.heap[x]? = wr.heap[x]? := fun x h3 h4 h5 => by rw [← hW3, Below.heap_setCell W2 ⟨N + 5, i0, none⟩ _ x h5]; exact ho2 x h3 h4
  have hb3 : Below N w W3 := by rw [← hW3]; exact hb2.setCell (p := ⟨N + 5, i0, none⟩) (by show N ≤ N + 5; omega) _
  rw [hW3] at hC4 hP3 hQ3
  clear hW3 hC3 ho2 hb2 hP2 hQ2 hz2
  -- the two new blocks
  have al : ∀ x, x < N + 6 + 2 * i0 → ((W3.alloc (.chan 1 #[] false 0 0 false)).alloc (.cells #[.pointer none, .pointer none, .bool false, .chan (some (N + 6 + 2 * i0))] 43)).heap[x]? = W3.heap[x]? := fun x hx => by
    rw [Below.heap_alloc _ _ _ (by simp; omega), Below.heap_alloc _ _ _ (by omega)]
  refine ⟨?_, ?_, ?_, ?_, ?_, ?_, fun i hi => ?_, fun i hi => ?_, ?_, ?_⟩
  · exact (hb.hT.of_block (ho3 N (by omega) (by omega) (by omega))).of_block (al N (by omega))
  · exact (hb.hE.of_block (ho3 _ (by omega) (by omega) (by omega))).of_block (al _ (by omega))
  · exact (hb.hK.of_block (ho3 _ (by omega) (by omega) (by omega))).of_block (al _ (by omega))
  · refine (hC4.of_block (al _ (by omega))).congr fun o ho => ?_
    by_cases e1 : o = i0 * 2 + 1
    · subst e1
      rw [upd_same]
      have a1 : (i0 * 2 + 1) / 2 = i0 := by omega
      have a2 : (i0 * 2 + 1) % 2 = 1 := by omega
      simp [cF, a1, a2]
    · rw [upd_other _ _ e1]
      by_cases e2 : o = i0 * 2
      · subst e2
        rw [upd_same]
        have a1 : i0 * 2 / 2 = i0 := by omega
        have a2 : i0 * 2 % 2 = 0 := by omega
        simp [cF, a1, a2]
      · rw [upd_other _ _ e2]
        have e3 : (o / 2 < i0) = (o / 2 < i0 + 1) := by apply propext; omega
        simp only [cF, e3]
  · refine (hP3.of_block (al _ (by omega))).congr fun i hi => ?_
    by_cases e1 : i = i0
    · subst e1
      rw [upd_same]
      have e : N + 7 + 2 * i = N + 6 + 2 * i + 1 := by omega
      simp [pF, e]
    · rw [upd_other _ _ e1]
      have e3 : (i < i0) = (i < i0 + 1) := by apply propext; omega
      simp only [pF, e3]
  · refine (hQ3.of_block (al _ (by omega))).congr fun i hi => ?_
    by_cases e1 : i = i0
    · subst e1
      rw [upd_same]
      have e : N + 7 + 2 * i = N + 6 + 2 * i + 1 := by omega
      simp [pF, e]
    · rw [upd_other _ _ e1]
      have e3 : (i < i0) = (i < i0 + 1) := by apply propext; omega
      simp only [pF, e3]
  · by_cases e1 : i = i0
    · subst e1
      rw [Below.heap_alloc _ _ _ (by simp; omega)]
      have := heap_alloc_new W3 (.chan 1 #[] false 0 0 false)
      rwa [hz3] at this
    · rw [al _ (by omega), ho3 _ (by omega) (by omega) (by omega)]
      exact hb.ch i (by omega)
  · by_cases e1 : i = i0
    · subst e1
      have := heap_alloc_new (W3.alloc (.chan 1 #[] false 0 0 false)) (.cells #[.pointer none, .pointer none, .bool false, .chan (some (N + 6 + 2 * i))] 43)
      rw [World.size_alloc, hz3] at this
      have e : N + 7 + 2 * i = N + 6 + 2 * i + 1 := by omega
      rw [e, cell_of_row _ _ _ _ _ _ this]
      rfl
    · rw [World.cell?_of_block (w := W3) (a := ⟨N + 7 + 2 * i, 3, none⟩) (al _ (by show N + 7 + 2 * i < _; omega)), World.cell?_of_block (w := wr) (a := ⟨N + 7 + 2 * i, 3, none⟩) (ho3 _ (by show N + 7 + 2 * i ≠ N + 3; omega) (by show N + 7 + 2 * i ≠ N + 4; omega) (by show N + 7 + 2 * i ≠ N + 5; omega))]
      exact hb.wt i (by omega)
  · exact (hb3.alloc (by omega) _).alloc (by simp; omega) _
  · simp [hz3]; omega

/-- the zero Chan[int] -/
theorem zero63 : ∃ cs : Array Value, (∀ w, (zeroValue 63).run Yba.prog w = .ok (.agg cs) w) ∧ cs.size = 212 ∧ cs[129]? = some (.int .u64 0) ∧ cs[198]? = some (.pointer none) := by
  have h : ((Yba.prog.info? 63).bind (fun i => i.zero)).map (fun v => ((match v with | .agg _ => true | _ => false), v.cells.size, v.cells[129]?, v.cells[198]?)) = some (true, 212, some (.int .u64 0), some (.pointer none)) := by kernel_rfl
  obtain ⟨v, hv, hq⟩ := Option.map_eq_some_iff.1 h
  obtain ⟨i, hi, hz⟩ := Option.bind_eq_some_iff.1 hv
  simp only [Prod.mk.injEq] at hq
  obtain ⟨q1, q2, q3, q4⟩ := hq
  cases v with
  | agg cs => exact ⟨cs, fun w => by simp [zeroValue, typeInfo, hi, hz], q2, q3, q4⟩
  | _ => cases q1

theorem wrap_pow (j : Nat) (hj : j ≤ 6) : IntKind.u64.wrap ((2 : Int) ^ j) = ((2 ^ j : Nat) : Int) := by
  rcases k_cases hj with rfl | rfl | rfl | rfl | rfl | rfl | rfl <;> decide

/-- the cells of the Chan that the law lays -/
def chanRow (z : Array Value) (b1 b2 n : Nat) (k M : Int) : Array Value :=
  (((z.setIfInBounds 194 (.slice (some ⟨b1, 0, none⟩) n n)).setIfInBounds 201 (.slice (some ⟨b2, 0, none⟩) n n)).setIfInBounds 196 (.int .u64 k)).setIfInBounds 197 (.int .u64 M)

theorem chanRow_get (z : Array Value) (b1 b2 n : Nat) (k M : Int) (hs : z.size = 212) (h129 : z[129]? = some (.int .u64 0)) (h198 : z[198]? = some (.pointer none)) :
    (chanRow z b1 b2 n k M)[129]? = some (.int .u64 0) ∧ (chanRow z b1 b2 n k M)[194]? = some (.slice (some ⟨b1, 0, none⟩) n n) ∧ (chanRow z b1 b2 n k M)[196]? = some (.int .u64 k) ∧ (chanRow z b1 b2 n k M)[197]? = some (.int .u64 M) ∧
    (chanRow z b1 b2 n k M)[198]? = some (.pointer none) ∧ (chanRow z b1 b2 n k M)[201]? = some (.slice (some ⟨b2, 0, none⟩) n n) := by
  unfold chanRow
  have k1 := (Array.getElem?_eq_some_iff.1 h129).2
  have k2 := (Array.getElem?_eq_some_iff.1 h198).2
  refine ⟨?_, ?_, ?_, ?_, ?_, ?_⟩ <;> simp [Array.getElem?_setIfInBounds, hs, k1, k2]

theorem Built.ring {N n k : Nat} {T E : Nat → Int} {K : Nat → Bool} {w w6 w8 : World} (hb : Built N n T E K w n w6) (C : Array Value) (H : Int) (g1 : C[129]? = some (.int .u64 0)) (g2 : C[194]? = some (.slice (some ⟨N + 3, 0, none⟩) n n)) (g3 : C[196]? = some (.int .u64 (k : Int))) (g4 : C[197]? = some (.int .u64 ((2 ^ k - 1 : Nat) : Int))) (g5 : C[198]? = some (.pointer none)) (g6 : C[201]? = some (.slice (some ⟨N + 4, 0, none⟩) n n))
    (hw8 : w8 = (w6.alloc (.cells C 63)).setCell ⟨N + 6 + 2 * n, 129, none⟩ (.int .u64 H)) :
    Ring N n k H T (fun _ => false) w8 ∧ Arr (N + 1) n (uOf E) w8 ∧ Arr (N + 2) n (bOf K) w8 ∧ Arr (N + 5) n (pF N n) w8 ∧ Below N w w8 := by
  have hz := hb.size
  have hnew := heap_alloc_new w6 (.cells C 63)
  rw [hz] at hnew
  have cn : ∀ o, (w6.alloc (.cells C 63)).cell? ⟨N + 6 + 2 * n, o, none⟩ = C[o]? := fun o => cell_of_row _ _ _ _ _ _ hnew
  have old : ∀ x, x < N + 6 + 2 * n → w8.heap[x]? = w6.heap[x]? := fun x hx => by
    rw [hw8, Below.heap_setCell _ ⟨N + 6 + 2 * n, 129, none⟩ _ x (by show x ≠ N + 6 + 2 * n; omega), Below.heap_alloc _ _ _ (by omega)]
  have oth : ∀ o, o ≠ 129 → w8.cell? ⟨N + 6 + 2 * n, o, none⟩ = C[o]? := fun o ho => by
    rw [hw8, World.cell?_setCell_other _ ⟨N + 6 + 2 * n, 129, none⟩ ⟨N + 6 + 2 * n, o, none⟩ _ (fun h => ho (by injection h with _ h2; exact h2.symm))]
    exact cn o
  have c129 : w8.cell? ⟨N + 6 + 2 * n, 129, none⟩ = some (.int .u64 H) := by rw [hw8]; exact World.cell?_setCell_same _ _ _ ((cn 129).trans g1)
  have hC := hb.hC.of_block (old _ (by omega))
  have hP := hb.hP.of_block (old _ (by omega))
  refine ⟨⟨c129, (oth _ (by decide)).trans g2, (oth _ (by decide)).trans g3, (oth _ (by decide)).trans g4, (oth _ (by decide)).trans g5, (oth _ (by decide)).trans g6, fun i hi => ?_, fun i hi => ?_, fun i hi => ?_, fun i hi => ?_, fun i hi => ?_⟩, hb.hE.of_block (old _ (by omega)), hb.hK.of_block (old _ (by omega)), hb.hW.of_block (old _ (by omega)), ?_⟩
  · have := hC (i * 2) (by omega)
    have a1 : i * 2 / 2 = i := by omega
    have a2 : i * 2 % 2 = 0 := by omega
    simpa [cF, a1, a2, hi] using this
  · have := (hC (i * 2 + 1) (by omega)).1
    have a1 : (i * 2 + 1) / 2 = i := by omega
    have a2 : (i * 2 + 1) % 2 = 1 := by omega
    simpa [cF, a1, a2, hi] using this
  · have := hP i hi
    simpa [pF, hi] using this
  · rw [World.cell?_of_block (w := w6) (a := ⟨N + 7 + 2 * i, 3, none⟩) (old _ (by show N + 7 + 2 * i < _; omega))]
    exact hb.wt i hi
  · rw [old _ (by omega)]
    simpa using hb.ch i hi
  · rw [hw8]
    exact (hb.bel.alloc (by omega) _).setCell (p := ⟨N + 6 + 2 * n, 129, none⟩) (by show N ≤ N + 6 + 2 * n; omega) _

/-- loop 5: what the last loop reads -/
structure Reads (N n k : Nat) (H : Int) (E : Nat → Int) (K : Nat → Bool) (w wr : World) : Prop where
  ring : Ring N n k H E K wr
  exp : ∀ i, i < n → wr.cell? ⟨N + 1, i, none⟩ = some (.int .u64 (E i))
  woke : ∀ i, i < n → wr.cell? ⟨N + 2, i, none⟩ = some (.bool (K i))
  ws : ∀ i, i < n → wr.cell? ⟨N + 5, i, none⟩ = some (.pointer (some ⟨N + 7 + 2 * i, 0, none⟩))
  bel : Below N w wr
theorem Reads.drewN {N n k : Nat} {H : Int} {E : Nat → Int} {K : Nat → Bool} {w wr : World} (h : Reads N n k H E K w wr) (m : Nat) : Reads N n k H E K w (wr.drewN m) :=
  ⟨h.ring.drewN m, h.exp, h.woke, h.ws, below_drewN h.bel m⟩

theorem neq40 (w : World) (a : Addr) : (binOp .neq 40 (.pointer (some a)) (.pointer (some a))).run Yba.prog w = .ok (.bool false) w := by
  have h : (Yba.prog.info? 43).isSome = true := by kernel_rfl
  obtain ⟨i, hi⟩ := Option.isSome_iff_exists.1 h
  exact Lib.run_neq_ptr_same w a Yba.underlying40 hi

theorem TInv.next {N n : Nat} {w wr : World} {i0 : Nat} {T : Nat → Int} (hin : i0 < n) (hA : Arr N n (uOf T) wr) (hB : Below N w wr) (hsz : wr.heap.size = N + 1) (X : Int) :
    TInv N n w (.int .i64 ((i0 : Int) + 1)) (wr.setCell ⟨N, i0, none⟩ (.int .u64 X)) :=
  ⟨i0 + 1, upd T i0 X, by omega, by simp, by rw [← uOf_upd]; exact hA.set i0 hin _, hB.setCell (p := ⟨N, i0, none⟩) (Nat.le_refl N) _, by simp [hsz]⟩

/-- one element of a slice that came in, read in a later world -/
theorem Src.at {w wr : World} {k : IntKind} {a : Option Addr} {l : Nat} (h : Src w k a l) (hB : Below w.heap.size w wr) (i : Nat) (hi : i < l) :
    ∃ bb off x, a = some ⟨bb, off, none⟩ ∧ wr.cell? ⟨bb, off + i, none⟩ = some (.int k x) ∧ (Lit.int k x).wf = true := by
  obtain ⟨bb, off, rfl, hlt, hc⟩ := h (by omega)
  obtain ⟨x, hx, hw⟩ := hc i hi
  exact ⟨bb, off, x, rfl, (hB.cell (p := ⟨bb, off + i, none⟩) hlt).trans hx, hw⟩

theorem pos_at {n k base d : Nat} (g : Geo n k base d) (j : Nat) (hj : j ≤ 150) (x : Int) (hx : x = ((base + j : Nat) : Int)) (w : World) :
    Calls Yba.prog 6 #[.int .u64 x, .int .u64 (n : Int), .int .u64 (k : Int)] w fun e w' => e = .returned (.int .u64 ((pos k (base + j) n : Nat) : Int)) ∧ ∃ m, w' = w.drewN m := by
  subst hx
  have hn := g.n1
  have hm0 := Nat.mod_lt (base + j) (show 0 < n by omega)
  have hnk := g.nk
  exact pos_any (base + j) n k ((base + j) / n) ((base + j) % n) w g.k6 hn (by rw [Int.natCast_ediv]) (by rw [Int.natCast_emod]) (g.lapAt j (by omega)) (by omega)

theorem Src.drewN {w : World} {k : IntKind} {a : Option Addr} {l : Nat} (h : Src w k a l) (m : Nat) : Src (w.drewN m) k a l := h

end Go.Proofs.Ybulkecaq
