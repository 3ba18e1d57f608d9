import Derived.Test.YbulkecacOrdG
namespace Go.Proofs.Ybulkecac
open Go.RowKit Go.Sort
set_option linter.unusedSimpArgs false
set_option linter.unusedVariables false

theorem Cn.start {w0 W : World} {blk off : Nat} {d : Array Int} (h : SI w0 blk off d W) (T : TypeId) : Cn w0 blk off d W.heap.size 0 (W.alloc (.cells #[.int .i64 0] T)) :=
  ⟨h.alloc _, by simp, by simp, h.kept.size, by simp⟩

set_option maxRecDepth 100000 in
set_option maxHeartbeats 4000000 in
/-- slices.choosePivotOrdered at int32: some place of [a, b), and some hint. -/
theorem pivot_ (w0 : World) (blk off cap a b : Nat) (d : Array Int) (w : World) (S : SI w0 blk off d w) (hab : a < b) (hb : b ≤ d.size) (hsz : d.size < 2305843009213693952) :
    Calls Yba.prog 30 #[.slice (some ⟨blk, off, none⟩) d.size cap, .int .i64 a, .int .i64 b] w fun e w' =>
      ∃ (x : Nat) (t : Int), e = .returned (.tuple #[.int .i64 x, .int .i64 t]) ∧ a ≤ x ∧ x < b ∧ SI w0 blk off d w' := by
  have S0 : Hid (SI w0 blk off d w) := S
  clear S
  obtain ⟨l, HL, hl1, hl2⟩ : ∃ l : Nat, Hid (l = b - a) ∧ (b : Int) - (a : Int) = (l : Int) ∧ l ≤ d.size := ⟨b - a, rfl, by omega, by omega⟩
  obtain ⟨q, HQ, hq1, hq2⟩ : ∃ q : Nat, Hid (q = l / 4) ∧ (l : Int) / 4 = (q : Int) ∧ q ≤ d.size := ⟨l / 4, rfl, by omega, by omega⟩
  have hq3 : (l : Int).tdiv 4 = (q : Int) := by rw [Int.tdiv_eq_ediv_of_nonneg (by omega)]; exact hq1
  obtain ⟨i, HI, hi1, hi2⟩ : ∃ i : Nat, Hid (i = a + q) ∧ (a : Int) + (q : Int) = (i : Int) ∧ i < d.size := ⟨a + q, rfl, by omega, by have := HQ.out; have := HL.out; omega⟩
  obtain ⟨j, HJ, hj1, hj2⟩ : ∃ i : Nat, Hid (i = a + q * 2) ∧ (a : Int) + (q : Int) * 2 = (i : Int) ∧ i < d.size := ⟨a + q * 2, rfl, by omega, by have := HQ.out; have := HL.out; omega⟩
  obtain ⟨k, HK, hk1, hk2⟩ : ∃ i : Nat, Hid (i = a + q * 3) ∧ (a : Int) + (q : Int) * 3 = (i : Int) ∧ i < d.size := ⟨a + q * 3, rfl, by omega, by have := HQ.out; have := HL.out; omega⟩
  have v1 : IntKind.i64.wrap (l : Int) = l := by rw [IntKind.wrap_i64]; omega
  have v2 : IntKind.i64.wrap (q : Int) = q := by rw [IntKind.wrap_i64]; omega
  have v3 : IntKind.i64.wrap ((q : Int) * 2) = (q : Int) * 2 := by rw [IntKind.wrap_i64]; omega
  have v4 : IntKind.i64.wrap ((q : Int) * 3) = (q : Int) * 3 := by rw [IntKind.wrap_i64]; omega
  have v5 : IntKind.i64.wrap (i : Int) = i := by rw [IntKind.wrap_i64]; omega
  have v6 : IntKind.i64.wrap (j : Int) = j := by rw [IntKind.wrap_i64]; omega
  have v7 : IntKind.i64.wrap (k : Int) = k := by rw [IntKind.wrap_i64]; omega
  have RNG : Hid (a ≤ j ∧ j < b) := by show _ ∧ _; have := HQ.out; have := HL.out; have := HJ.out; omega
  by_cases h8 : 8 ≤ l
  · have h8z : (8 : Int) ≤ (l : Int) := by omega
    by_cases h50 : 50 ≤ l
    · have h50z : (50 : Int) ≤ (l : Int) := by omega
      obtain ⟨ip, HIP, ip1⟩ : ∃ p : Nat, Hid (i = p + 1) ∧ (i : Int) = (p : Int) + 1 := ⟨i - 1, by show _ = _; have := HQ.out; have := HI.out; omega, by have := HQ.out; have := HI.out; omega⟩
      obtain ⟨jp, HJP, jp1⟩ : ∃ p : Nat, Hid (j = p + 1) ∧ (j : Int) = (p : Int) + 1 := ⟨j - 1, by show _ = _; have := HQ.out; have := HJ.out; omega, by have := HQ.out; have := HJ.out; omega⟩
      obtain ⟨kp, HKP, kp1⟩ : ∃ p : Nat, Hid (k = p + 1) ∧ (k : Int) = (p : Int) + 1 := ⟨k - 1, by show _ = _; have := HQ.out; have := HK.out; omega, by have := HQ.out; have := HK.out; omega⟩
      have B : Hid (a ≤ ip ∧ ip + 2 < b ∧ a ≤ jp ∧ jp + 2 < b ∧ a ≤ kp ∧ kp + 2 < b) := by
        show _ ∧ _
        have := HQ.out; have := HI.out; have := HJ.out; have := HK.out; have := HIP.out; have := HJP.out; have := HKP.out; have := HL.out
        omega
      have C1 : Hid (∀ W s, Cn w0 blk off d w.heap.size s W → s < 900 → _) := fun W s hW hs => medAdj_ w0 blk off cap ip w.heap.size s d W hW (by have := B.out; omega) hs hsz
      have C2 : Hid (∀ W s, Cn w0 blk off d w.heap.size s W → s < 900 → _) := fun W s hW hs => medAdj_ w0 blk off cap jp w.heap.size s d W hW (by have := B.out; omega) hs hsz
      have C3 : Hid (∀ W s, Cn w0 blk off d w.heap.size s W → s < 900 → _) := fun W s hW hs => medAdj_ w0 blk off cap kp w.heap.size s d W hW (by have := B.out; omega) hs hsz
      rw [← ip1] at C1
      rw [← jp1] at C2
      rw [← kp1] at C3
      clear ip1 jp1 kp1
      go_enter Yba.func30, Yba.ntmps30
      go_wp2_with fail
      refine (C1.out _ 0 (Cn.start S0.out 3) (by omega)).mono ?_
      rintro e w1 ⟨x1, t1, rfl, hx1, hx1', ht1, S1⟩
      have S1' : Hid _ := S1
      clear S1 S0 C1
      go_wp2_with fail
      refine (C2.out _ t1 S1'.out (by omega)).mono ?_
      rintro e w2 ⟨x2, t2, rfl, hx2, hx2', ht2, S2⟩
      have S2' : Hid _ := S2
      clear S2 S1' C2
      go_wp2_with fail
      refine (C3.out _ t2 S2'.out (by omega)).mono ?_
      rintro e w3 ⟨x3, t3, rfl, hx3, hx3', ht3, S3⟩
      have S3' : Hid _ := S3
      clear S3 S2' C3
      go_wp2_with fail
      refine (median_ w0 blk off cap x1 x2 x3 w.heap.size t3 d _ S3'.out (by have := B.out; omega) (by have := B.out; omega) (by have := B.out; omega) (by omega) hsz).mono ?_
      rintro e w4 ⟨x4, t4, rfl, hx4, ht4, S4⟩
      have H4 : Hid (a ≤ x4 ∧ x4 < b) := by
        have := B.out
        exact hx4 (fun x => a ≤ x ∧ x < b) (by omega) (by omega) (by omega)
      have S4' : Hid _ := S4
      clear hx4 S4 S3'
      have c4 := S4'.out.cell
      go_wp2_with fail
      all_goals
        go_ret2
        exact ⟨x4, _, rfl, H4.out.1, H4.out.2, S4'.out.si⟩
    · have h50z : ¬ (50 : Int) ≤ (l : Int) := by omega
      go_enter Yba.func30, Yba.ntmps30
      go_wp2_with fail
      refine (median_ w0 blk off cap i j k w.heap.size 0 d _ (Cn.start S0.out 3) hi2 hj2 hk2 (by omega) hsz).mono ?_
      rintro e w4 ⟨x4, t4, rfl, hx4, ht4, S4⟩
      have H4 : Hid (a ≤ x4 ∧ x4 < b) := by
        have := HQ.out; have := HI.out; have := HJ.out; have := HK.out; have := HL.out
        exact hx4 (fun x => a ≤ x ∧ x < b) (by omega) (by omega) (by omega)
      have S4' : Hid _ := S4
      clear hx4 S4 S0
      have c4 := S4'.out.cell
      go_wp2_with fail
      all_goals
        go_ret2
        exact ⟨x4, _, rfl, H4.out.1, H4.out.2, S4'.out.si⟩
  · have h8z : ¬ (8 : Int) ≤ (l : Int) := by omega
    have S4 : Hid _ := Cn.start S0.out 3
    have c4 := S4.out.cell
    go_enter Yba.func30, Yba.ntmps30
    go_wp2_with fail
    all_goals
      go_ret2
      first
        | exact ⟨j, _, rfl, RNG.out.1, RNG.out.2, S4.out.si⟩
        | exact ⟨j, _, RNG.out.1, RNG.out.2, S4.out.si⟩
        | exact ⟨_, _, RNG.out.1, RNG.out.2, S4.out.si⟩
        | exact ⟨j, ⟨_, rfl⟩, RNG.out.1, RNG.out.2, S4.out.si⟩
end Go.Proofs.Ybulkecac
