import Derived.Test.YbulkecacPS
import Derived.Deep.CutBlock
import Derived.Deep.RegionWith
namespace Go.Proofs.Ybulkecac
open Go.RowKit Go.Sort
set_option linter.unusedSimpArgs false
set_option linter.unusedVariables false

set_option maxRecDepth 100000 in
set_option maxHeartbeats 4000000 in
/-- (*catalog).row at a bare assertion's entry. -/
theorem row_ (N k e : Nat) (x : Int) (w : World) (he : e < 100000) (hE : EntAt N k w e x)
    (c3 : w.cell? ⟨N + 3 + k, 3, none⟩ = some (.slice (some ⟨N + 2 + k, 0, none⟩) 1 1)) (f0 : w.cell? ⟨N + 2 + k, 0, none⟩ = some (.string ⟨#[112]⟩))
    (f1 : w.cell? ⟨N + 2 + k, 1, none⟩ = some (.int .i64 0)) (f2 : w.cell? ⟨N + 2 + k, 2, none⟩ = some (.string ⟨#[]⟩)) :
    Calls Yba.prog 24 #[.pointer (some ⟨N + 3 + k, 0, none⟩), .int .i64 (e : Int)] w fun o w' =>
      (∃ gt t c, o = .returned (.slice (some ⟨gt, t, none⟩) 1 c) ∧ w'.cell? ⟨gt, t, none⟩ = some (.int .i32 x)) ∧ w.grownBy w' none := by
  obtain ⟨ge, le, ce, gt, lt, ct, t, a1, a2, a3, a4, a5, ⟨y6, a6⟩, ⟨y7, a7⟩, ⟨y8, a8⟩, a9, b1, b2, b3, b4, b5⟩ := hE
  simp only [maxLen] at b3
  have l1 := World.block_lt_of_cell? _ _ a1
  have l2 := World.block_lt_of_cell? _ _ a4
  have l3 := World.block_lt_of_cell? _ _ f0
  have l4 := World.block_lt_of_cell? _ _ b5
  have z1 : (e : Int) < (le : Int) := by omega
  simp only at l1 l2 l3 l4
  have B5 : Hid _ := b5
  clear b5
  go_enter Yba.func24, Yba.ntmps24
  go_wp2_with fail
  generalize hw1 : w.alloc _ = w1
  have hg1 : w.grownBy w1 none := by rw [← hw1]; exact World.grownBy_alloc _ _ _
  have n0 : w1.cell? ⟨w.heap.size, 0, none⟩ = some (.int .i32 0) := by rw [← hw1]; simp
  have n1 : w1.cell? ⟨w.heap.size, 1, none⟩ = some (.int .i32 (t : Int)) := by rw [← hw1]; simp
  have HG1 : Hid _ := hg1
  replace c3 := gcell hg1 c3
  replace f0 := gcell hg1 f0
  replace f1 := gcell hg1 f1
  replace f2 := gcell hg1 f2
  replace a9 := gcell hg1 a9
  clear hw1 a1 a4 a5 a6 a7 a8 hg1
  have hga := World.grownBy_alloc w1 (.cells #[.string ⟨#[]⟩, .int .i64 0, .string ⟨#[]⟩] 54) none
  have q0 := gcell hga n0
  have q1 := gcell hga c3
  have q2 := gcell hga f0
  have q3 := gcell hga f1
  have q4 := gcell hga f2
  clear hga
  go_region
  clear q0 q1 q2 q3 q4
  generalize hw2 : World.drew _ = w2
  have hg2 : w1.grownBy w2 none := by rw [← hw2]; exact (World.grownBy_alloc w1 _ none).trans ⟨rfl, rfl, rfl, Nat.le_refl _, fun _ _ _ => rfl⟩
  have m1 : w2.cell? ⟨w1.heap.size, 1, none⟩ = some (.int .i64 0) := by rw [← hw2]; simp
  have m2 : w2.cell? ⟨w1.heap.size, 2, none⟩ = some (.string ⟨#[]⟩) := by rw [← hw2]; simp
  have HG2 : Hid _ := hg2
  replace n1 := gcell hg2 n1
  replace a9 := gcell hg2 a9
  clear hw2 hg2 c3 f0 f1 f2 n0
  have z2 : (t : Int) + 1 ≤ (ct : Int) := by omega
  go_wp2_with fail
  go_quiet (fail)
  generalize hw3 : World.drewN _ nq = w3
  have hg3 : w2.grownBy w3 none := by rw [← hw3]; exact ⟨rfl, rfl, rfl, Nat.le_refl _, fun _ _ _ => rfl⟩
  go_wp2_with fail
  go_ret
  refine ⟨⟨gt, t, _, rfl, gcell hg3 (gcell HG2.out (gcell HG1.out B5.out))⟩, (HG1.out.trans HG2.out).trans hg3⟩

theorem gdrew (w : World) (r : Option Nat) : w.grownBy w.drew r := ⟨rfl, rfl, rfl, Nat.le_refl _, fun _ _ _ => rfl⟩
theorem gdrewN (w : World) (n : Nat) (r : Option Nat) : w.grownBy (w.drewN n) r := ⟨rfl, rfl, rfl, Nat.le_refl _, fun _ _ _ => rfl⟩
theorem grefl (w : World) (r : Option Nat) : w.grownBy w r := ⟨rfl, rfl, rfl, Nat.le_refl _, fun _ _ _ => rfl⟩

set_option maxRecDepth 100000 in
set_option maxHeartbeats 4000000 in
/-- (*program).bareRow at a schema's first bare assertion. -/
theorem bareRow_ (N k i e g : Nat) (x : Int) (w : World) (he : e < 100000) (hE : EntAt N k w e x)
    (p0 : w.cell? ⟨N + 5 + k, 0, none⟩ = some (.pointer (some ⟨N + 3 + k, 0, none⟩)))
    (c3 : w.cell? ⟨N + 3 + k, 3, none⟩ = some (.slice (some ⟨N + 2 + k, 0, none⟩) 1 1)) (f0 : w.cell? ⟨N + 2 + k, 0, none⟩ = some (.string ⟨#[112]⟩))
    (f1 : w.cell? ⟨N + 2 + k, 1, none⟩ = some (.int .i64 0)) (f2 : w.cell? ⟨N + 2 + k, 2, none⟩ = some (.string ⟨#[]⟩))
    (s5 : w.cell? ⟨N + 1 + i, 5, none⟩ = some (.slice (some ⟨g, 0, none⟩) 1 1)) (g0 : w.cell? ⟨g, 0, none⟩ = some (.int .i32 (e : Nat))) :
    Calls Yba.prog 18 #[.pointer (some ⟨N + 5 + k, 0, none⟩), .pointer (some ⟨N + 1 + i, 0, none⟩), .int .i32 0] w fun o w' =>
      (∃ gt t c, o = .returned (.slice (some ⟨gt, t, none⟩) 1 c) ∧ w'.cell? ⟨gt, t, none⟩ = some (.int .i32 x)) ∧ w.grownBy w' none := by
  have C : Hid _ := row_ N k e x w.drew he (hE.kept (gdrew w none)) c3 f0 f1 f2
  have hk : IntKind.i64.wrap (e : Int) = e := by rw [IntKind.wrap_i64]; omega
  clear hE c3 f0 f1 f2
  go_enter Yba.func18, Yba.ntmps18
  go_wp2_with fail
  go_region_with (go_at_call 24; refine Calls.mono C.out ?_; rintro o w1 ⟨⟨gt, t, c, rfl, hx⟩, hg⟩; have HX : Hid _ := hx; have HG : Hid _ := hg; clear hx hg)
  all_goals
    go_wp2_with fail
    go_ret
    exact ⟨⟨gt, t, c, rfl, HX.out⟩, (gdrew w none).trans HG.out⟩
end Go.Proofs.Ybulkecac
