import Derived.Test.YbulkecaqWake
namespace Go.Proofs.Ybulkecaq
open Go.RowKit Go.Conc
set_option linter.unusedSimpArgs false
set_option linter.unusedVariables false

/-! ### the plain law: what a pass over the positions does -/
def mk (x : Int) : Int := bits .or .u64 x 9223372036854775808
def upd {α : Type} (f : Nat → α) (i : Nat) (v : α) : Nat → α := fun j => if j = i then v else f j
theorem upd_same {α : Type} (f : Nat → α) (i : Nat) (v : α) : upd f i v i = v := by simp [upd]
theorem upd_other {α : Type} (f : Nat → α) {i j : Nat} (v : α) (h : j ≠ i) : upd f i v j = f j := by simp [upd, h]

/-- the turns and who was woken, behind j positions from 'base' on -/
def stp (base n : Nat) (T : Nat → Int) : Nat → (Nat → Int) × (Nat → Bool)
  | 0 => (T, fun _ => false)
  | j + 1 =>
    if (stp base n T j).1 ((base + j) % n) = mk (2 * (((base + j) / n : Nat) : Int)) then
      (upd (stp base n T j).1 ((base + j) % n) (2 * (((base + j) / n : Nat) : Int)), upd (stp base n T j).2 ((base + j) % n) true)
    else stp base n T j

theorem stp_hit {base n : Nat} {T : Nat → Int} {j : Nat} (h : (stp base n T j).1 ((base + j) % n) = mk (2 * (((base + j) / n : Nat) : Int))) :
    stp base n T (j + 1) = (upd (stp base n T j).1 ((base + j) % n) (2 * (((base + j) / n : Nat) : Int)), upd (stp base n T j).2 ((base + j) % n) true) := by
  show (if _ then _ else _) = _
  rw [if_pos h]
theorem stp_miss {base n : Nat} {T : Nat → Int} {j : Nat} (h : ¬ (stp base n T j).1 ((base + j) % n) = mk (2 * (((base + j) / n : Nat) : Int))) :
    stp base n T (j + 1) = stp base n T j := by
  show (if _ then _ else _) = _
  rw [if_neg h]

theorem mk_big (L : Nat) (hL : L ≤ 8589934592) : (9223372036854775808 : Int) ≤ mk (2 * (L : Int)) := by
  unfold mk
  have e : (2 * (L : Int)) = ((2 * L : Nat) : Int) := by simp
  have e2 : (9223372036854775808 : Int) = ((9223372036854775808 : Nat) : Int) := rfl
  rw [e, e2, u64_or_nat _ _ (by omega) (by omega)]
  have := Nat.right_le_or (n := 2 * L) (m := 9223372036854775808)
  omega

/-- a cell that was woken bears no waiting bit -/
theorem stp_woken (base n : Nat) (T : Nat → Int) (hb : ∀ j, j ≤ 200 → (base + j) / n ≤ 8589934592) (j : Nat) (hj : j ≤ 200) (i : Nat) (h : (stp base n T j).2 i = true) : (stp base n T j).1 i < 9223372036854775808 := by
  induction j with
  | zero => simp [stp] at h
  | succ j ih =>
    by_cases hm : (stp base n T j).1 ((base + j) % n) = mk (2 * (((base + j) / n : Nat) : Int))
    · rw [stp_hit hm] at h ⊢
      dsimp only at h ⊢
      by_cases hi : i = (base + j) % n
      · subst hi
        rw [upd_same]
        have := hb j (by omega)
        omega
      · rw [upd_other _ _ hi] at h ⊢
        exact ih (by omega) h
    · rw [stp_miss hm] at h ⊢
      exact ih (by omega) h

theorem stp_free (base n : Nat) (T : Nat → Int) (hb : ∀ j, j ≤ 200 → (base + j) / n ≤ 8589934592) (j : Nat) (hj : j ≤ 200) (h : (stp base n T j).1 ((base + j) % n) = mk (2 * (((base + j) / n : Nat) : Int))) : (stp base n T j).2 ((base + j) % n) = false := by
  cases hk : (stp base n T j).2 ((base + j) % n) with
  | false => rfl
  | true =>
    have h1 := stp_woken base n T hb j hj _ hk
    have h2 := mk_big _ (hb j hj)
    rw [h] at h1
    omega

/-! ### the ring in memory -/
/-- N: the first of the law's own blocks: turns N, exp N+1, woke N+2, cells N+3, parked N+4, ws N+5; the i-th waiter's channel N+6+2i, the waiter N+7+2i; the Chan N+6+2n. -/
structure Ring (N n k : Nat) (H : Int) (E : Nat → Int) (K : Nat → Bool) (w : World) : Prop where
  c129 : w.cell? ⟨N + 6 + 2 * n, 129, none⟩ = some (.int .u64 H)
  c194 : w.cell? ⟨N + 6 + 2 * n, 194, none⟩ = some (.slice (some ⟨N + 3, 0, none⟩) n n)
  c196 : w.cell? ⟨N + 6 + 2 * n, 196, none⟩ = some (.int .u64 (k : Int))
  c197 : w.cell? ⟨N + 6 + 2 * n, 197, none⟩ = some (.int .u64 ((2 ^ k - 1 : Nat) : Int))
  c198 : w.cell? ⟨N + 6 + 2 * n, 198, none⟩ = some (.pointer none)
  c201 : w.cell? ⟨N + 6 + 2 * n, 201, none⟩ = some (.slice (some ⟨N + 4, 0, none⟩) n n)
  turn : ∀ i, i < n → w.cell? ⟨N + 3, i * 2, none⟩ = some (.int .u64 (E i)) ∧ w.frozen? ⟨N + 3, i * 2, none⟩ = false
  val : ∀ i, i < n → w.cell? ⟨N + 3, i * 2 + 1, none⟩ = some (.int .i64 (i : Int))
  park : ∀ i, i < n → w.cell? ⟨N + 4, i, none⟩ = some (.pointer (if K i = true then none else some ⟨N + 7 + 2 * i, 0, none⟩)) ∧ w.frozen? ⟨N + 4, i, none⟩ = false
  wait : ∀ i, i < n → w.cell? ⟨N + 7 + 2 * i, 3, none⟩ = some (.chan (some (N + 6 + 2 * i)))
  chan : ∀ i, i < n → w.heap[N + 6 + 2 * i]? = some (.chan 1 (if K i = true then #[.agg #[]] else #[]) false (if K i = true then 1 else 0) 0 false)

theorem Ring.drewN {N n k : Nat} {H : Int} {E : Nat → Int} {K : Nat → Bool} {w : World} (h : Ring N n k H E K w) (m : Nat) : Ring N n k H E K (w.drewN m) :=
  ⟨h.c129, h.c194, h.c196, h.c197, h.c198, h.c201, h.turn, h.val, h.park, h.wait, h.chan⟩

/-- a new turn -/
theorem Ring.setTurn {N n k : Nat} {H : Int} {E : Nat → Int} {K : Nat → Bool} {w : World} (h : Ring N n k H E K w) (I : Nat) (hI : I < n) (y : Int) : Ring N n k H (upd E I y) K (w.setCell ⟨N + 3, I * 2, none⟩ (.int .u64 y)) := by
  have oth : ∀ x o, ¬ (x = N + 3 ∧ o = I * 2) → (w.setCell ⟨N + 3, I * 2, none⟩ (.int .u64 y)).cell? ⟨x, o, none⟩ = w.cell? ⟨x, o, none⟩ := fun x o hx =>
    World.cell?_setCell_other w ⟨N + 3, I * 2, none⟩ ⟨x, o, none⟩ _ (fun e => hx (by injection e with e1 e2; exact ⟨e1.symm, e2.symm⟩))
  refine ⟨?_, ?_, ?_, ?_, ?_, ?_, fun i hi => ⟨?_, ?_⟩, fun i hi => ?_, fun i hi => ⟨?_, ?_⟩, fun i hi => ?_, fun i hi => ?_⟩
  · rw [oth _ _ (by omega)]; exact h.c129
  · rw [oth _ _ (by omega)]; exact h.c194
  · rw [oth _ _ (by omega)]; exact h.c196
  · rw [oth _ _ (by omega)]; exact h.c197
  · rw [oth _ _ (by omega)]; exact h.c198
  · rw [oth _ _ (by omega)]; exact h.c201
  · by_cases hiI : i = I
    · subst hiI
      rw [upd_same]
      exact World.cell?_setCell_same _ _ _ (h.turn i hi).1
    · rw [upd_other _ _ hiI, oth _ _ (by omega)]; exact (h.turn i hi).1
  · rw [World.frozen?_setCell]; exact (h.turn i hi).2
  · rw [oth _ _ (by omega)]; exact h.val i hi
  · rw [oth _ _ (by omega)]; exact (h.park i hi).1
  · rw [World.frozen?_setCell]; exact (h.park i hi).2
  · rw [oth _ _ (by omega)]; exact h.wait i hi
  · rw [Below.heap_setCell w ⟨N + 3, I * 2, none⟩ _ _ (by show _ ≠ N + 3; omega)]; exact h.chan i hi

/-- a waiter taken and signalled -/
theorem Ring.wake {N n k : Nat} {H : Int} {E : Nat → Int} {K : Nat → Bool} {w : World} (h : Ring N n k H E K w) (I : Nat) (hI : I < n) (hK : K I = false) :
    Ring N n k H E (upd K I true) ((w.setCell ⟨N + 4, I, none⟩ (.pointer none)).setChan (N + 6 + 2 * I) 1 #[.agg #[]] false 1 0 false) := by
  have hch : (w.setCell ⟨N + 4, I, none⟩ (.pointer none)).heap[N + 6 + 2 * I]? = some (.chan 1 #[] false 0 0 false) := by
    rw [Below.heap_setCell w ⟨N + 4, I, none⟩ _ _ (by show _ ≠ N + 4; omega)]
    have := h.chan I hI
    rw [hK] at this
    simpa using this
  have oth : ∀ x o, ¬ (x = N + 4 ∧ o = I) → ((w.setCell ⟨N + 4, I, none⟩ (.pointer none)).setChan (N + 6 + 2 * I) 1 #[.agg #[]] false 1 0 false).cell? ⟨x, o, none⟩ = w.cell? ⟨x, o, none⟩ := fun x o hx => by
    rw [cell_setChan' _ _ _ _ _ _ _ _ _ _ _ _ _ _ hch]
    exact World.cell?_setCell_other w ⟨N + 4, I, none⟩ ⟨x, o, none⟩ _ (fun e => hx (by injection e with e1 e2; exact ⟨e1.symm, e2.symm⟩))
  have frz : ∀ a, ((w.setCell ⟨N + 4, I, none⟩ (.pointer none)).setChan (N + 6 + 2 * I) 1 #[.agg #[]] false 1 0 false).frozen? a = w.frozen? a := fun a => by
    rw [frozen_setChan' _ _ _ _ _ _ _ _ _ _ _ _ _ _ hch, World.frozen?_setCell]
  refine ⟨?_, ?_, ?_, ?_, ?_, ?_, fun i hi => ⟨?_, ?_⟩, fun i hi => ?_, fun i hi => ⟨?_, ?_⟩, fun i hi => ?_, fun i hi => ?_⟩
  · rw [oth _ _ (by omega)]; exact h.c129
  · rw [oth _ _ (by omega)]; exact h.c194
  · rw [oth _ _ (by omega)]; exact h.c196
  · rw [oth _ _ (by omega)]; exact h.c197
  · rw [oth _ _ (by omega)]; exact h.c198
  · rw [oth _ _ (by omega)]; exact h.c201
  · rw [oth _ _ (by omega)]; exact (h.turn i hi).1
  · rw [frz]; exact (h.turn i hi).2
  · rw [oth _ _ (by omega)]; exact h.val i hi
  · by_cases hiI : i = I
    · subst hiI
      rw [upd_same, cell_setChan' _ _ _ _ _ _ _ _ _ _ _ _ _ _ hch]
      exact World.cell?_setCell_same _ _ _ (h.park i hi).1
    · rw [upd_other _ _ hiI, oth _ _ (by omega)]; exact (h.park i hi).1
  · rw [frz]; exact (h.park i hi).2
  · rw [oth _ _ (by omega)]; exact h.wait i hi
  · by_cases hiI : i = I
    · subst hiI
      rw [upd_same]
      exact heap_setChan _ _ _ _ _ _ _ _ (Array.getElem?_eq_some_iff.1 hch).1
    · rw [upd_other _ _ hiI, setChan_other' _ _ _ _ _ _ _ _ _ (by omega), Below.heap_setCell w ⟨N + 4, I, none⟩ _ _ (by show _ ≠ N + 4; omega)]
      exact h.chan i hi

/-- what stays: every cell outside 'cells' and 'parked' -/
def Keeps (N : Nat) (w w' : World) : Prop := Below N w w' ∧ ∀ x o, x ≠ N + 3 → x ≠ N + 4 → w'.cell? ⟨x, o, none⟩ = w.cell? ⟨x, o, none⟩

theorem Keeps.refl (N : Nat) (w : World) : Keeps N w w := ⟨Below.refl _ _, fun _ _ _ _ => rfl⟩
theorem Keeps.trans {N : Nat} {a b c : World} (h : Keeps N a b) (k : Keeps N b c) : Keeps N a c := ⟨h.1.trans k.1, fun x o h1 h2 => (k.2 x o h1 h2).trans (h.2 x o h1 h2)⟩
theorem Keeps.drewN {N : Nat} {a b : World} (h : Keeps N a b) (m : Nat) : Keeps N a (b.drewN m) := ⟨below_drewN h.1 m, h.2⟩
theorem Keeps.setTurn (N : Nat) (w : World) (o : Nat) (v : Value) : Keeps N w (w.setCell ⟨N + 3, o, none⟩ v) :=
  ⟨(Below.refl N w).setCell (p := ⟨N + 3, o, none⟩) (by show N ≤ N + 3; omega) _, fun x o' h1 _ => World.cell?_setCell_other w ⟨N + 3, o, none⟩ ⟨x, o', none⟩ _ (fun e => h1 (by injection e with e1; exact e1.symm))⟩
theorem Keeps.wake {N n k : Nat} {H : Int} {E : Nat → Int} {K : Nat → Bool} {w : World} (h : Ring N n k H E K w) (I : Nat) (hI : I < n) :
    Keeps N w ((w.setCell ⟨N + 4, I, none⟩ (.pointer none)).setChan (N + 6 + 2 * I) 1 #[.agg #[]] false 1 0 false) := by
  have hch := h.chan I hI
  rw [← Below.heap_setCell w ⟨N + 4, I, none⟩ (.pointer none) _ (by show _ ≠ N + 4; omega)] at hch
  refine ⟨below_setChan ((Below.refl N w).setCell (p := ⟨N + 4, I, none⟩) (by show N ≤ N + 4; omega) _) (by omega) _ _ _ _ _ _, fun x o h1 h2 => ?_⟩
  rw [cell_setChan' _ _ _ _ _ _ _ _ _ _ _ _ _ _ hch]
  exact World.cell?_setCell_other w ⟨N + 4, I, none⟩ ⟨x, o, none⟩ _ (fun e => h2 (by injection e with e1; exact e1.symm))

/-! ### positions, one behind the other -/
theorem succ_last (q n : Nat) (hn : 1 ≤ n) (h : q % n + 1 = n) : (q + 1) / n = q / n + 1 ∧ (q + 1) % n = 0 := by
  have e := Nat.div_add_mod q n
  have e1 : q + 1 = n * (q / n + 1) := by rw [Nat.mul_add, Nat.mul_one]; omega
  rw [e1, Nat.mul_div_cancel_left _ (by omega), Nat.mul_mod_right]
  exact ⟨rfl, rfl⟩
theorem succ_mid (q n : Nat) (hn : 1 ≤ n) (h : q % n + 1 < n) : (q + 1) / n = q / n ∧ (q + 1) % n = q % n + 1 := by
  have e := Nat.div_add_mod q n
  have e1 : q + 1 = n * (q / n) + (q % n + 1) := by omega
  constructor
  · calc (q + 1) / n = (n * (q / n) + (q % n + 1)) / n := by rw [← e1]
      _ = q / n := by rw [Nat.mul_add_div (by omega), Nat.div_eq_of_lt h, Nat.add_zero]
  · calc (q + 1) % n = (n * (q / n) + (q % n + 1)) % n := by rw [← e1]
      _ = q % n + 1 := by rw [Nat.mul_add_mod, Nat.mod_eq_of_lt h]

theorem pos_succ_lt (k q n : Nat) (hn : 1 ≤ n) (hnk : n ≤ 2 ^ k) : pos k q n < pos k (q + 1) n := by
  unfold pos
  have hm := Nat.mod_lt q (show 0 < n by omega)
  by_cases h : q % n + 1 = n
  · obtain ⟨h1, h2⟩ := succ_last q n hn h
    rw [h1, h2, Nat.add_mul, Nat.one_mul]
    omega
  · obtain ⟨h1, h2⟩ := succ_mid q n hn (by omega)
    rw [h1, h2]
    omega
theorem pos_le (k n : Nat) (hn : 1 ≤ n) (hnk : n ≤ 2 ^ k) (q i : Nat) : pos k q n ≤ pos k (q + i) n := by
  induction i with
  | zero => exact Nat.le_refl _
  | succ i ih => exact Nat.le_trans ih (Nat.le_of_lt (pos_succ_lt k (q + i) n hn hnk))

theorem dist_val (q q' n D : Nat) (hn : 1 ≤ n) (hD : q' / n = q / n + D) : (D : Int) * (n : Int) + ((q' % n : Nat) : Int) - ((q % n : Nat) : Int) = (q' : Int) - (q : Int) := by
  have e := Nat.div_add_mod q n
  have e' := Nat.div_add_mod q' n
  rw [hD, Nat.mul_add] at e'
  have : ((D * n : Nat) : Int) = (D : Int) * (n : Int) := by simp
  rw [← this]
  have c : n * D = D * n := Nat.mul_comm _ _
  omega

/-- the bounds under which the ring is walked -/
structure Geo (n k base d : Nat) : Prop where
  k6 : k ≤ 6
  n1 : 1 ≤ n
  n64 : n ≤ 64
  nk : n ≤ 2 ^ k
  d2 : d ≤ 2 * n
  lap : base / n ≤ 4294967296

theorem Geo.lapAt {n k base d : Nat} (g : Geo n k base d) (j : Nat) (hj : j ≤ 200) : (base + j) / n ≤ 8589934592 := by
  have h1 : (base + j) / n ≤ base / n + 200 := by
    have e := Nat.div_add_mod base n
    have hm := Nat.mod_lt base (show 0 < n by have := g.n1; omega)
    refine Nat.le_of_lt_succ ((Nat.div_lt_iff_lt_mul (by have := g.n1; omega)).2 ?_)
    have hn := g.n1
    have : 200 ≤ 200 * n := Nat.le_mul_of_pos_right 200 (by omega)
    calc base + j < n * (base / n) + n + 200 * n := by omega
      _ = (base / n + 200).succ * n := by rw [Nat.succ_eq_add_one, Nat.add_mul, Nat.add_mul, Nat.one_mul, Nat.mul_comm n]; omega
  have := g.lap
  omega

set_option maxHeartbeats 1000000 in
theorem dist_at {n k base d : Nat} (g : Geo n k base d) (b bc j : Nat) (hj : j ≤ d) (w : World)
    (c194 : w.cell? ⟨b, 194, none⟩ = some (.slice (some ⟨bc, 0, none⟩) n n)) (c196 : w.cell? ⟨b, 196, none⟩ = some (.int .u64 (k : Int))) (c197 : w.cell? ⟨b, 197, none⟩ = some (.int .u64 ((2 ^ k - 1 : Nat) : Int))) (c198 : w.cell? ⟨b, 198, none⟩ = some (.pointer none)) :
    Calls Yba.prog 17 #[.pointer (some ⟨b, 0, none⟩), .int .u64 ((pos k (base + d) n : Nat) : Int), .int .u64 ((pos k (base + j) n : Nat) : Int)] w fun e w' => e = .returned (.int .i64 ((d : Int) - (j : Int))) ∧ ∃ m, w' = w.drewN m := by
  have hn := g.n1
  have hm0 := Nat.mod_lt (base + j) (show 0 < n by omega)
  have hm1 := Nat.mod_lt (base + d) (show 0 < n by omega)
  have hnk := g.nk
  have h64 := g.n64
  have hle : (base + j) / n ≤ (base + d) / n := Nat.div_le_div_right (by omega)
  have hle2 : (base + d) / n ≤ (base + j) / n + 2 := by
    have : (base + d) / n ≤ (base + j + 2 * n) / n := Nat.div_le_div_right (by have := g.d2; omega)
    rwa [Nat.add_mul_div_right _ _ (by omega)] at this
  obtain ⟨D, hD⟩ : ∃ D, (base + d) / n = (base + j) / n + D := ⟨(base + d) / n - (base + j) / n, by omega⟩
  have hj200 : j ≤ 200 := by have := g.d2; omega
  have := distance_any b bc n k ((base + j) / n) ((base + j) % n) D ((base + d) % n) w g.k6 hn h64 (g.lapAt j hj200) (by omega) (by omega) (by omega) c194 c196 c197 c198
  rw [dist_val _ _ n D hn hD, ← hD] at this
  have e : ((base + d : Nat) : Int) - ((base + j : Nat) : Int) = (d : Int) - (j : Int) := by omega
  rw [e] at this
  exact this

theorem next_at {n k base d : Nat} (g : Geo n k base d) (b bc j : Nat) (hj : j ≤ 150) (w : World)
    (c194 : w.cell? ⟨b, 194, none⟩ = some (.slice (some ⟨bc, 0, none⟩) n n)) (c197 : w.cell? ⟨b, 197, none⟩ = some (.int .u64 ((2 ^ k - 1 : Nat) : Int))) :
    Calls Yba.prog 18 #[.pointer (some ⟨b, 0, none⟩), .int .u64 ((pos k (base + j) n : Nat) : Int)] w fun e w' => e = .returned (.int .u64 ((pos k (base + (j + 1)) n : Nat) : Int)) ∧ ∃ m, w' = w.drewN m := by
  have hn := g.n1
  have hm0 := Nat.mod_lt (base + j) (show 0 < n by omega)
  have hnk := g.nk
  by_cases h : (base + j) % n + 1 = n
  · obtain ⟨h1, h2⟩ := succ_last (base + j) n hn h
    have := next_any_last b bc n k ((base + j) / n) ((base + j) % n) w g.k6 hn g.n64 (g.lapAt j (by omega)) (by omega) h c194 c197
    have e : pos k (base + (j + 1)) n = ((base + j) / n + 1) * 2 ^ k := by unfold pos; rw [← Nat.add_assoc, h1, h2, Nat.add_zero]
    rw [e]
    exact this
  · obtain ⟨h1, h2⟩ := succ_mid (base + j) n hn (by omega)
    have := next_any_mid b bc n k ((base + j) / n) ((base + j) % n) w g.k6 hn g.n64 (g.lapAt j (by omega)) (by omega) (by omega) c194 c197
    have e : pos k (base + (j + 1)) n = (base + j) / n * 2 ^ k + ((base + j) % n + 1) := by unfold pos; rw [← Nat.add_assoc, h1, h2]
    rw [e]
    exact this

theorem cell_at {n k base d : Nat} (g : Geo n k base d) (b bc j : Nat) (hj : j ≤ 150) (w : World)
    (c194 : w.cell? ⟨b, 194, none⟩ = some (.slice (some ⟨bc, 0, none⟩) n n)) (c196 : w.cell? ⟨b, 196, none⟩ = some (.int .u64 (k : Int))) (c197 : w.cell? ⟨b, 197, none⟩ = some (.int .u64 ((2 ^ k - 1 : Nat) : Int))) :
    Calls Yba.prog 19 #[.pointer (some ⟨b, 0, none⟩), .int .u64 ((pos k (base + j) n : Nat) : Int)] w fun e w' => e = .returned (.tuple #[.pointer (some ⟨bc, (base + j) % n * 2, none⟩), .int .u64 (((base + j) / n : Nat) : Int)]) ∧ ∃ m, w' = w.drewN m := by
  have hn := g.n1
  have hm0 := Nat.mod_lt (base + j) (show 0 < n by omega)
  have hnk := g.nk
  exact cell_any b bc n k ((base + j) / n) ((base + j) % n) w g.k6 g.n64 (g.lapAt j (by omega)) (by omega) hm0 c194 c196 c197

theorem and_pos {n k base d : Nat} (g : Geo n k base d) (j : Nat) (hj : j ≤ 150) : bits .and .u64 ((pos k (base + j) n : Nat) : Int) ((2 ^ k - 1 : Nat) : Int) = (((base + j) % n : Nat) : Int) := by
  have hn := g.n1
  have hm0 := Nat.mod_lt (base + j) (show 0 < n by omega)
  have hnk := g.nk
  exact and_at k _ _ g.k6 (by omega) (by have := g.lapAt j (by omega); omega)

end Go.Proofs.Ybulkecaq
