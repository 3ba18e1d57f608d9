import Derived.Test.YbulkecacOrd
namespace Go.Proofs.Ybulkecac
open Go.RowKit Go.Sort
set_option linter.unusedSimpArgs false
set_option linter.unusedVariables false

/-- the counter 'swaps' at block c beside the row -/
structure Cn (w0 : World) (blk off : Nat) (d : Array Int) (c s : Nat) (W : World) : Prop where
  si : SI w0 blk off d W
  cell : W.cell? ⟨c, 0, none⟩ = some (.int .i64 s)
  froz : W.frozen? ⟨c, 0, none⟩ = false
  new : w0.heap.size ≤ c
  lt : c < W.heap.size

theorem Cn.drewN {w0 W : World} {blk off : Nat} {d : Array Int} {c s : Nat} (h : Cn w0 blk off d c s W) (n : Nat) : Cn w0 blk off d c s (W.drewN n) :=
  ⟨h.si.drewN n, h.cell, h.froz, h.new, h.lt⟩

theorem Cn.bump {w0 W : World} {blk off : Nat} {d : Array Int} {c s : Nat} (h : Cn w0 blk off d c s W) (t : Nat) : Cn w0 blk off d c t (W.setCell ⟨c, 0, none⟩ (.int .i64 t)) :=
  ⟨h.si.setNew c 0 _ h.new, World.cell?_setCell_same' _ _ _ (by rw [h.cell]; rfl), by rw [World.frozen?_setCell]; exact h.froz, h.new, by simpa using h.lt⟩

set_option maxRecDepth 100000 in
set_option maxHeartbeats 4000000 in
/-- slices.order2Ordered at int32: the two places, in one order or the other; the counter goes up by one at most. -/
theorem order2_ (w0 : World) (blk off cap a b c s : Nat) (d : Array Int) (w : World) (S : Cn w0 blk off d c s w) (ha : a < d.size) (hb : b < d.size) (hs : s < 1000) (hsz : d.size < 2305843009213693952) :
    Calls Yba.prog 54 #[.slice (some ⟨blk, off, none⟩) d.size cap, .int .i64 a, .int .i64 b, .pointer (some ⟨c, 0, none⟩)] w fun e w' =>
      ∃ x y t : Nat, e = .returned (.tuple #[.int .i64 x, .int .i64 y]) ∧ (∀ p : Nat → Prop, p a → p b → p x ∧ p y) ∧ t ≤ s + 1 ∧ Cn w0 blk off d c t w' := by
  have S0 : Hid (Cn w0 blk off d c s w) := S
  clear S
  obtain ⟨x, hx⟩ : ∃ x, x = d[a]! := ⟨_, rfl⟩
  obtain ⟨y, hy⟩ : ∃ x, x = d[b]! := ⟨_, rfl⟩
  have c1 := S0.out.si.cell a ha
  have c2 := S0.out.si.cell b hb
  have b1 : (a : Int) < (d.size : Int) := by omega
  have b2 : (b : Int) < (d.size : Int) := by omega
  rw [← hx] at c1
  rw [← hy] at c2
  clear hx hy
  go_enter Yba.func54, Yba.ntmps54
  go_wp2_with fail
  go_quiet ((go_at_call 33; exact Calls.quiet_of_same (less_ _ _ _)))
  have S1 : Hid (Cn w0 blk off d c s _) := S0.out.drewN nq
  clear S0 c1 c2
  generalize World.drewN _ nq = w2 at S1 ⊢
  have c3 := S1.out.cell
  have f3 := S1.out.froz
  have k3 : IntKind.i64.wrap ((s : Int) + 1) = (s : Int) + 1 := by rw [IntKind.wrap_i64]; omega
  cases hl : ltInt y x
  · go_wp2_with fail
    go_ret2
    exact ⟨a, b, s, rfl, fun p ha hb => ⟨ha, hb⟩, by omega, S1.out⟩
  · go_wp2_with fail
    go_ret2
    exact ⟨b, a, s + 1, rfl, fun p ha hb => ⟨hb, ha⟩, by omega, S1.out.bump (s + 1)⟩

set_option maxRecDepth 100000 in
set_option maxHeartbeats 4000000 in
/-- slices.medianOrdered at int32: one of the three places. -/
theorem median_ (w0 : World) (blk off cap a b c0 c s : Nat) (d : Array Int) (w : World) (S : Cn w0 blk off d c s w) (ha : a < d.size) (hb : b < d.size) (hc : c0 < d.size) (hs : s < 900) (hsz : d.size < 2305843009213693952) :
    Calls Yba.prog 50 #[.slice (some ⟨blk, off, none⟩) d.size cap, .int .i64 a, .int .i64 b, .int .i64 c0, .pointer (some ⟨c, 0, none⟩)] w fun e w' =>
      ∃ x t : Nat, e = .returned (.int .i64 x) ∧ (∀ p : Nat → Prop, p a → p b → p c0 → p x) ∧ t ≤ s + 3 ∧ Cn w0 blk off d c t w' := by
  have S0 : Hid (Cn w0 blk off d c s w) := S
  clear S
  go_enter Yba.func50, Yba.ntmps50
  go_wp2_with fail
  refine (order2_ w0 blk off cap a b c s d _ S0.out ha hb (by omega) hsz).mono ?_
  rintro e w1 ⟨x1, y1, t1, rfl, h1, ht1, S1⟩
  have H1 : Hid _ := h1
  have S1' : Hid _ := S1
  clear h1 S1 S0
  have l1 := H1.out (· < d.size) ha hb
  go_wp2_with fail
  refine (order2_ w0 blk off cap y1 c0 c t1 d _ S1'.out l1.2 hc (by omega) hsz).mono ?_
  rintro e w2 ⟨x2, y2, t2, rfl, h2, ht2, S2⟩
  have H2 : Hid _ := h2
  have S2' : Hid _ := S2
  clear h2 S2 S1'
  have l2 := H2.out (· < d.size) l1.2 hc
  go_wp2_with fail
  refine (order2_ w0 blk off cap x1 x2 c t2 d _ S2'.out l1.1 l2.1 (by omega) hsz).mono ?_
  rintro e w3 ⟨x3, y3, t3, rfl, h3, ht3, S3⟩
  have H3 : Hid _ := h3
  have S3' : Hid _ := S3
  clear h3 S3 S2'
  go_wp2_with fail
  go_ret
  refine ⟨y3, t3, rfl, fun p pa pb pc => ?_, by omega, S3'.out⟩
  have q1 := H1.out p pa pb
  have q2 := H2.out p q1.2 pc
  exact (H3.out p q1.1 q2.1).2

set_option maxRecDepth 100000 in
set_option maxHeartbeats 4000000 in
/-- slices.medianAdjacentOrdered at int32. -/
theorem medAdj_ (w0 : World) (blk off cap a c s : Nat) (d : Array Int) (w : World) (S : Cn w0 blk off d c s w) (ha : a + 2 < d.size) (hs : s < 900) (hsz : d.size < 2305843009213693952) :
    Calls Yba.prog 49 #[.slice (some ⟨blk, off, none⟩) d.size cap, .int .i64 ((a : Int) + 1), .pointer (some ⟨c, 0, none⟩)] w fun e w' =>
      ∃ x t : Nat, e = .returned (.int .i64 x) ∧ a ≤ x ∧ x ≤ a + 2 ∧ t ≤ s + 3 ∧ Cn w0 blk off d c t w' := by
  have S0 : Hid (Cn w0 blk off d c s w) := S
  clear S
  have h := fun W hW => median_ w0 blk off cap a (a + 1) (a + 2) c s d W hW (by omega) (by omega) (by omega) hs hsz
  rw [show ((a + 1 : Nat) : Int) = (a : Int) + 1 by omega, show ((a + 2 : Nat) : Int) = (a : Int) + 1 + 1 by omega] at h
  have H : Hid _ := h
  clear h
  go_enter Yba.func49, Yba.ntmps49
  go_wp2_with fail
  refine (H.out _ S0.out).mono ?_
  rintro e w1 ⟨x1, t1, rfl, h1, ht1, S1⟩
  have H1 : Hid _ := h1
  have S1' : Hid _ := S1
  clear h1 S1 S0 H
  go_wp2_with fail
  go_ret
  have q := H1.out (fun x => a ≤ x ∧ x ≤ a + 2) (by omega) (by omega) (by omega)
  exact ⟨x1, t1, rfl, q.1, q.2, ht1, S1'.out⟩
end Go.Proofs.Ybulkecac
