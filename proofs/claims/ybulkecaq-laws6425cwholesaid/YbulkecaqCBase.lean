import Derived.Test.YbulkecaqClaim
import Derived.Deep.RegionWith
namespace Go.Proofs.Ybulkecaq
open Go.RowKit Go.Conc
set_option linter.unusedSimpArgs false
set_option linter.unusedVariables false

theorem k6 {k : Nat} (h : k ≤ 6) : k = 0 ∨ k = 1 ∨ k = 2 ∨ k = 3 ∨ k = 4 ∨ k = 5 ∨ k = 6 := by omega

set_option maxHeartbeats 1000000 in
set_option maxRecDepth 100000 in
theorem start_ (k : Nat) (hk : k ≤ 6) (w : World) :
    Calls Yba.prog 11 #[.int .i64 (k : Int)] w fun e w' => e = .returned (.int .u64 (st k : Int)) ∧ w' = w := by
  rcases k6 hk with rfl | rfl | rfl | rfl | rfl | rfl | rfl
  all_goals
    go_enter Yba.func11, Yba.ntmps11
    go_wp2_with fail
    go_ret
    exact ⟨rfl, rfl⟩

def WInv (N nb j : Nat) (w : World) (v i : Value) (wr : World) : Prop := ∃ i0 : Nat, i0 ≤ j ∧ i = .int .i64 (i0 : Int) ∧ v = .pointer (some ⟨sb N nb i0, 0, none⟩) ∧ wr = w

set_option maxHeartbeats 1000000 in
set_option maxRecDepth 100000 in
theorem walk_ {w0 : World} {N nb T s g o : Nat} {mine theirs : Int} {w : World} (k : Chs w0 N nb T s g o mine theirs w) (j : Nat) (hj : j < T) (hj5 : j ≤ 5) :
    Calls Yba.prog 14 #[.pointer (some ⟨sb N nb 0, 0, none⟩), .int .i64 (j : Int)] w fun e w' => e = .returned (.pointer (some ⟨sb N nb j, 0, none⟩)) ∧ w' = w := by
  go_enter Yba.func14, Yba.ntmps14
  go_wp2_with fail
  go_loopw [0, 5] (fun v i wr => WInv N nb j w v i wr) (fun _ i _ => j - (intOf i).toNat)
  case atStart => exact ⟨0, Nat.zero_le _, rfl, rfl, rfl⟩
  case round =>
    obtain ⟨i0, hi0, rfl, rfl, rfl⟩ := hrel
    by_cases hlt : i0 < j
    · have c2 := (k.seg i0 (by omega)).c2
      rw [nx_more (by omega)] at c2
      have hp := k.isSeg (i0 + 1) (by omega)
      unfold sp at c2 hp
      go_wp2_with fail
      refine (load_p _ 2 _ wr c2 hp).mono ?_
      rintro e w2 ⟨rfl, rfl⟩
      go_wp2_with fail
      go_roundw
      case rel => exact ⟨i0 + 1, by omega, by go_num, rfl, rfl⟩
      case measure => simp [intOf]; omega
    · obtain rfl : i0 = j := by omega
      go_wp2_with fail
      go_ret
      exact ⟨rfl, rfl⟩

/-! ### what a claim gives -/
def Out (N nb g v : Nat) (c : Bool) (u : Nat) (wait : Bool) (pl sg : Option Addr) (cl : Bool) (T' g' : Nat) (m' : Int) : Prop :=
  (c = true ∧ none = pl ∧ none = sg ∧ true = cl ∧ nb = T' ∧ g = g' ∧ wd v true = m') ∨
  (c = false ∧ wait = false ∧ u ≤ v ∧ none = pl ∧ none = sg ∧ false = cl ∧ nb = T' ∧ g = g' ∧ (v : Int) = m') ∨
  (c = false ∧ wait = false ∧ v < u ∧ v < st g ∧ u ≤ st g ∧ none = pl ∧ none = sg ∧ false = cl ∧ nb = T' ∧ g = g' ∧ (st g : Int) = m') ∨
  (c = false ∧ (wait = true ∨ v < u) ∧ v < st g ∧ (wait = true ∨ st g < u) ∧ some ⟨cb N nb g, 0, none⟩ = pl ∧ some ⟨sb N nb g, 0, none⟩ = sg ∧ false = cl ∧ nb = T' ∧ g = g' ∧ (st g : Int) + 1 = m') ∨
  (c = false ∧ (wait = true ∨ v < u) ∧ st g ≤ v ∧ st g' ≤ v ∧ v < st (g' + 1) ∧ g' ≤ 5 ∧ some ⟨cb N nb g', pix (v - st g') (ln g') * 3, none⟩ = pl ∧ some ⟨sb N nb g', 0, none⟩ = sg ∧ false = cl ∧ max nb (g' + 1) = T' ∧ (v : Int) + 1 = m')

theorem exists_j (v : Nat) (h : v ≤ 1023) : ∃ j, st j ≤ v ∧ v < st (j + 1) ∧ j ≤ 5 := by
  rcases (by omega : v < 32 ∨ (32 ≤ v ∧ v < 96) ∨ (96 ≤ v ∧ v < 224) ∨ (224 ≤ v ∧ v < 480) ∨ (480 ≤ v ∧ v < 992) ∨ 992 ≤ v) with h | h | h | h | h | h
  · exact ⟨0, by show 0 ≤ v; omega, by show v < 32; omega, by omega⟩
  · exact ⟨1, by show 32 ≤ v; omega, by show v < 96; omega, by omega⟩
  · exact ⟨2, by show 96 ≤ v; omega, by show v < 224; omega, by omega⟩
  · exact ⟨3, by show 224 ≤ v; omega, by show v < 480; omega, by omega⟩
  · exact ⟨4, by show 480 ≤ v; omega, by show v < 992; omega, by omega⟩
  · exact ⟨5, by show 992 ≤ v; omega, by show v < 2016; omega, by omega⟩

theorem claim_any {w0 : World} {N nb s g o v u : Nat} {c d : Bool} {w : World} (wait : Bool) (k : Chs w0 N nb nb s g o (wd v c) (wd u d) w) (hg5 : g ≤ 5) (hv : v ≤ 1023) (hu : u ≤ 1023) (R : Nat) (hR : N + 2 + 2 * nb = R) :
    Calls Yba.prog 13 #[.pointer (some ⟨R, 0, none⟩), .int .i64 (s : Int), .bool wait] w fun e w' =>
      ∃ pl sg cl T' g' m', e = .returned (.tuple #[.pointer pl, .pointer sg, .bool cl]) ∧ Out N nb g v c u wait pl sg cl T' g' m' ∧ Chs w0 N nb T' s g' o m' (wd u d) w' := by
  cases c with
  | true =>
    refine (claim_closed wait k (by omega) R hR).mono ?_
    rintro e w' ⟨rfl, h⟩
    exact ⟨_, _, _, _, _, _, rfl, .inl ⟨rfl, rfl, rfl, rfl, rfl, rfl, rfl⟩, h⟩
  | false =>
    have k' : Chs w0 N nb nb s g o (v : Int) (wd u d) w := k
    cases wait with
    | true =>
      by_cases hg : v < st g
      · refine (claim_skip_wait k' hg5 (by omega) hg R hR).mono ?_
        rintro e w' ⟨rfl, h⟩
        exact ⟨_, _, _, _, _, _, rfl, .inr (.inr (.inr (.inl ⟨rfl, .inl rfl, hg, .inl rfl, rfl, rfl, rfl, rfl, rfl, rfl⟩))), h⟩
      · obtain ⟨j, hj, hj1, hj5⟩ := exists_j v hv
        refine (claim_at true k' hv (by omega) (.inl rfl) (by omega) j hj hj1 hj5 R hR).mono ?_
        rintro e w' ⟨rfl, h⟩
        exact ⟨_, _, _, _, j, _, rfl, .inr (.inr (.inr (.inr ⟨rfl, .inl rfl, by omega, hj, hj1, hj5, rfl, rfl, rfl, rfl, rfl⟩))), h⟩
    | false =>
      by_cases huv : u ≤ v
      · refine (claim_none k' (by omega) (by omega) huv R hR).mono ?_
        rintro e w' ⟨rfl, h⟩
        exact ⟨_, _, _, _, _, _, rfl, .inr (.inl ⟨rfl, rfl, huv, rfl, rfl, rfl, rfl, rfl, rfl⟩), h⟩
      · by_cases hg : v < st g
        · by_cases hug : u ≤ st g
          · refine (claim_skip_none k' hg5 (by omega) hg (by omega) hug R hR).mono ?_
            rintro e w' ⟨rfl, h⟩
            exact ⟨_, _, _, _, _, _, rfl, .inr (.inr (.inl ⟨rfl, rfl, by omega, hg, hug, rfl, rfl, rfl, rfl, rfl, rfl⟩)), h⟩
          · refine (claim_skip_try k' hg5 (by omega) hg (by omega) (by omega) R hR).mono ?_
            rintro e w' ⟨rfl, h⟩
            exact ⟨_, _, _, _, _, _, rfl, .inr (.inr (.inr (.inl ⟨rfl, .inr (by omega), hg, .inr (by omega), rfl, rfl, rfl, rfl, rfl, rfl⟩))), h⟩
        · obtain ⟨j, hj, hj1, hj5⟩ := exists_j v hv
          refine (claim_at false k' hv (by omega) (.inr (by omega)) (by omega) j hj hj1 hj5 R hR).mono ?_
          rintro e w' ⟨rfl, h⟩
          exact ⟨_, _, _, _, j, _, rfl, .inr (.inr (.inr (.inr ⟨rfl, .inr (by omega), by omega, hj, hj1, hj5, rfl, rfl, rfl, rfl, rfl⟩))), h⟩

/-- pointers that are one -/
theorem neq70o (w : World) (p : Option Addr) : (binOp .neq 70 (.pointer p) (.pointer p)).run Yba.prog w = .ok (.bool false) w := by
  cases p with
  | none => kernel_rfl
  | some a => exact neq70 w a
theorem neq86o (w : World) (p : Option Addr) : (binOp .neq 86 (.pointer p) (.pointer p)).run Yba.prog w = .ok (.bool false) w := by
  cases p with
  | none => kernel_rfl
  | some a => exact neq86 w a

theorem wrap_ln (k : Nat) (h : k ≤ 5) : IntKind.i64.wrap (32 * (2 : Int) ^ k) = (ln k : Int) := by
  rcases k5 h with rfl | rfl | rfl | rfl | rfl | rfl <;> decide

/-! ### the segments built ahead -/
structure Bld (w0 : World) (N nb k : Nat) (w : World) : Prop where
  seg : ∀ i, i < k → Seg w (sb N nb i) (st i) (cb N nb i) (ln i) (nx N nb k i)
  row : Arr N nb (fun i => .pointer (if i < k then some ⟨sb N nb i, 0, none⟩ else none)) w
  size : w.heap.size = N + 1 + 2 * k
  bel : Below N w0 w

theorem info70 : (Yba.prog.info? 70).map (fun i => (i.zero, i.size, i.bytes)) = some (some (.pointer none), 1, 8) := by kernel_rfl
theorem mkR (w : World) (n : Nat) (hn : n ≤ 64) : (Instr.makeSlice 69 (.int .i64 (n : Int)) (.int .i64 (n : Int))).run Yba.prog w = .ok (.slice (some ⟨w.heap.size, 0, none⟩) n n) (w.alloc (.cells (zP n) 70)) := by
  obtain ⟨i, hi, hz, hs, hb⟩ := info_parts info70
  rw [run_make (P := Yba.prog) w 69 70 i _ Yba.underlying69 hi hz .i64 .i64 (n : Int) (n : Int) (by omega) (by omega) (by rw [hb]; omega) (by omega), hs]
  simp [zP]
theorem Bld.start (w : World) (nb : Nat) : Bld w w.heap.size nb 0 (w.alloc (.cells (zP nb) 70)) := by
  refine ⟨fun i hi => by omega, ?_, by simp, (Below.refl _ _).alloc (Nat.le_refl _) _⟩
  have := arr_new w (Value.pointer none).cells (nb * 1) 70 (fun _ => .pointer none) (by simp [Value.cells]) (fun i _ => by simp [Value.cells, Nat.mod_one])
  exact fun i hi => by
    have h := this i (by omega)
    simpa [zP] using h
theorem Bld.drewN {w0 : World} {N nb k : Nat} {w : World} (h : Bld w0 N nb k w) (m : Nat) : Bld w0 N nb k (w.drewN m) := ⟨h.seg, h.row, h.size, below_drewN h.bel m⟩

theorem sb_old {N nb k : Nat} (h : k < nb) : sb N nb k = N + 2 + 2 * k := by unfold sb; rw [if_pos h]
theorem cb_old {N nb k : Nat} (h : k < nb) : cb N nb k = N + 1 + 2 * k := by unfold cb; rw [if_pos h]

/-- a new segment laid, not yet linked -/
structure Mid (w0 : World) (N nb k : Nat) (w : World) : Prop where
  seg : ∀ i, i < k → Seg w (sb N nb i) (st i) (cb N nb i) (ln i) (nx N nb k i)
  new : Seg w (sb N nb k) (st k) (cb N nb k) (ln k) none
  row : Arr N nb (fun i => .pointer (if i < k + 1 then some ⟨sb N nb i, 0, none⟩ else none)) w
  size : w.heap.size = N + 1 + 2 * (k + 1)
  bel : Below N w0 w

/-- the cells of a segment that the law lays -/
def segRow (z : Array Value) (s : Int) (c l : Nat) : Array Value := (z.setIfInBounds 0 (.int .u64 s)).setIfInBounds 1 (.slice (some ⟨c, 0, none⟩) l l)

theorem Bld.lay {w0 : World} {N nb k S L : Nat} {w w' : World} (h : Bld w0 N nb k w) (hk : k < nb) (hS : st k = S) (hL : ln k = L) (Z z : Array Value) (hz : z.size = 135) (z2 : z[2]? = some (.pointer none))
    (hw : w' = (((w.setCell ⟨N, k, none⟩ (.pointer (some ⟨w.heap.size + 1, 0, none⟩))).alloc (.cells Z 91)).alloc (.cells (segRow z (S : Int) w.heap.size L) 78)).drew) : Mid w0 N nb k w' := by
  have hs := h.size
  have hb := sb_old (N := N) hk
  have hc := cb_old (N := N) hk
  subst hS hL
  rw [hs] at hw
  have r2 := h.row.set k hk (.pointer (some ⟨N + 1 + 2 * k + 1, 0, none⟩))
  have o2 : ∀ x, x ≠ N → (w.setCell ⟨N, k, none⟩ (.pointer (some ⟨N + 1 + 2 * k + 1, 0, none⟩))).heap[x]? = w.heap[x]? := fun x hx => Below.heap_setCell w ⟨N, k, none⟩ _ x hx
  have b2 := h.bel.setCell (p := ⟨N, k, none⟩) (Nat.le_refl N) (.pointer (some ⟨N + 1 + 2 * k + 1, 0, none⟩))
  have s2 : (w.setCell ⟨N, k, none⟩ (.pointer (some ⟨N + 1 + 2 * k + 1, 0, none⟩))).heap.size = N + 1 + 2 * k := by simpa using hs
  generalize (w.setCell ⟨N, k, none⟩ (.pointer (some ⟨N + 1 + 2 * k + 1, 0, none⟩))) = w1 at *
  have old : ∀ x, x < N + 1 + 2 * k → w'.heap[x]? = w1.heap[x]? := fun x hx => by
    rw [hw]
    show ((w1.alloc _).alloc _).heap[x]? = _
    rw [Below.heap_alloc _ _ _ (by simp; omega), Below.heap_alloc _ _ _ (by omega)]
  have hnew := heap_alloc_new (w1.alloc (.cells Z 91)) (.cells (segRow z (st k : Int) (N + 1 + 2 * k) (ln k)) 78)
  rw [World.size_alloc, s2] at hnew
  refine ⟨fun i hi => ?_, ?_, ?_, ?_, ?_⟩
  · have e := sb_old (N := N) (show i < nb by omega)
    exact ((h.seg i hi).of_block (o2 _ (by omega))).of_block (old _ (by omega))
  · have e1 : sb N nb k = N + 1 + 2 * k + 1 := by omega
    rw [e1, hc]
    refine ⟨_, by rw [hw]; exact hnew, by simp [segRow, hz], ?_, ?_, ?_⟩
    · unfold segRow; rw [sib_ne _ _ _ _ (by decide), sib_same _ _ _ (by rw [hz]; decide)]
    · unfold segRow; rw [sib_same _ _ _ (by simp [hz])]
    · unfold segRow; rw [sib_ne _ _ _ _ (by decide), sib_ne _ _ _ _ (by decide)]; exact z2
  · refine (r2.of_block (old N (by omega))).congr fun i hi => ?_
    by_cases e : i = k
    · subst e
      rw [upd_same, hb]
      simp
    · rw [upd_other _ _ e]
      have e3 : (i < k) = (i < k + 1) := by apply propext; omega
      simp only [e3]
  · rw [hw]; simp; omega
  · rw [hw]; exact ((b2.alloc (by omega) _).alloc (by simp; omega) _).drew

theorem Mid.drew {w0 : World} {N nb k : Nat} {w : World} (h : Mid w0 N nb k w) : Mid w0 N nb k w.drew := ⟨h.seg, h.new, h.row, h.size, h.bel.drew⟩
theorem Mid.first {w0 : World} {N nb : Nat} {w : World} (h : Mid w0 N nb 0 w) : Bld w0 N nb 1 w := by
  refine ⟨fun i hi => ?_, h.row, h.size, h.bel⟩
  obtain rfl : i = 0 := by omega
  rw [nx_last (by omega)]
  exact h.new
theorem Mid.link {w0 : World} {N nb k : Nat} {w w' : World} (h : Mid w0 N nb k w) (hk : k < nb) (j : Nat) (hj : j + 1 = k) (hw : w' = w.setCell ⟨sb N nb j, 2, none⟩ (.pointer (some ⟨sb N nb k, 0, none⟩))) : Bld w0 N nb (k + 1) w' := by
  have hne : sb N nb k ≠ sb N nb j := fun e => by have := sb_inj e; omega
  have oth : ∀ x, x ≠ sb N nb j → w'.heap[x]? = w.heap[x]? := fun x hx => by rw [hw]; exact Below.heap_setCell w ⟨sb N nb j, 2, none⟩ _ x hx
  refine ⟨fun i hi => ?_, h.row.of_block (oth N (Nat.ne_of_lt sb_gt)), by rw [hw]; simpa using h.size, by rw [hw]; exact h.bel.setCell (p := ⟨sb N nb j, 2, none⟩) (Nat.le_of_lt sb_gt) _⟩
  by_cases e1 : i = k
  · subst e1
    rw [nx_last rfl]
    exact h.new.of_block (oth _ hne)
  · by_cases e2 : i = j
    · subst e2
      rw [nx_more (by omega), hj, hw]
      exact (h.seg i (by omega)).setNext (sp N nb k)
    · have e3 : nx N nb (k + 1) i = nx N nb k i := by rw [nx_more (by omega), nx_more (by omega)]
      rw [e3]
      exact (h.seg i (by omega)).of_block (oth _ (fun e => e2 (sb_inj e)))

end Go.Proofs.Ybulkecaq
