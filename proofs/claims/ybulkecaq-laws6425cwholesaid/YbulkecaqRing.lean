import Derived.Test.YbulkecaqAtom
namespace Go.Proofs.Ybulkecaq
open Go.RowKit Go.Conc
set_option linter.unusedSimpArgs false
set_option linter.unusedVariables false

theorem dist_eq (L D n I0 I1 : Nat) (hn2 : n ≤ 64) (hD : D ≤ 3) (h0 : I0 < 64) (h1 : I1 < 64) :
    wrap64 (wrap64 (wrap64 (((L : Int) + (D : Int) - (L : Int)) * (n : Int)) + (I1 : Int)) - (I0 : Int)) = (D : Int) * (n : Int) + (I1 : Int) - (I0 : Int) := by
  have e : (L : Int) + (D : Int) - (L : Int) = (D : Int) := by omega
  rw [e]
  have hX : 0 ≤ (D : Int) * (n : Int) ∧ (D : Int) * (n : Int) ≤ 192 := by
    rcases (by omega : D = 0 ∨ D = 1 ∨ D = 2 ∨ D = 3) with rfl | rfl | rfl | rfl <;> omega
  generalize (D : Int) * (n : Int) = X at hX
  have a1 : wrap64 X = X := IntWalk.wrap64_in _ (by omega)
  rw [a1]
  have a2 : wrap64 (X + (I1 : Int)) = X + (I1 : Int) := IntWalk.wrap64_in _ (by omega)
  rw [a2]
  exact IntWalk.wrap64_in _ (by omega)

theorem and_mask (k p : Nat) (hp : p < 18446744073709551616) (hk : k ≤ 6) : bits .and .u64 (p : Int) ((2 ^ k - 1 : Nat) : Int) = ((p % 2 ^ k : Nat) : Int) := by
  have h6 : 2 ^ k ≤ 2 ^ 6 := Nat.pow_le_pow_right (by omega) hk
  rw [u64_and_nat _ _ hp (by omega), Nat.and_two_pow_sub_one_eq_mod]

theorem or_mask (k L I : Nat) (hI : I < 2 ^ k) (hp : L * 2 ^ k + I < 18446744073709551616) (hk : k ≤ 6) (hp2 : L * 2 ^ k + 2 ^ k < 18446744073709551616) : bits .or .u64 ((L * 2 ^ k + I : Nat) : Int) ((2 ^ k - 1 : Nat) : Int) = ((L * 2 ^ k + (2 ^ k - 1) : Nat) : Int) := by
  have h6 : 2 ^ k ≤ 2 ^ 6 := Nat.pow_le_pow_right (by omega) hk
  rw [u64_or_nat _ _ hp (by omega)]
  congr 1
  have h1 : L * 2 ^ k + I = L * 2 ^ k ||| I := (nat_join k (L * 2 ^ k) I (by simp) hI).symm
  have h2 : L * 2 ^ k + (2 ^ k - 1) = L * 2 ^ k ||| (2 ^ k - 1) := (nat_join k (L * 2 ^ k) (2 ^ k - 1) (by simp) (by have := Nat.two_pow_pos k; omega)).symm
  rw [h1, h2, Nat.or_assoc]
  congr 1
  rw [Nat.or_comm]
  apply Nat.eq_of_testBit_eq
  intro i
  simp only [Nat.testBit_or, Nat.testBit_two_pow_sub_one]
  by_cases hi : i < k
  · simp [hi]
  · have : I.testBit i = false := Nat.testBit_lt_two_pow (Nat.lt_of_lt_of_le hI (Nat.pow_le_pow_right (by omega) (by omega)))
    simp [hi, this]

set_option maxHeartbeats 1000000 in
set_option maxRecDepth 100000 in
theorem distance_0 (b bc n L0 D : Nat) (w : World) (hn : 1 ≤ n) (hn2 : n ≤ 64) (hL : L0 ≤ 8589934592) (hD : D ≤ 3)
    (hp2 : bits .and .u64 (L0 : Int) 0 = 0) (hq2 : bits .and .u64 ((L0 : Int) + (D : Int)) 0 = 0)
    (c194 : w.cell? ⟨b, 194, none⟩ = some (.slice (some ⟨bc, 0, none⟩) n n)) (c196 : w.cell? ⟨b, 196, none⟩ = some (.int .u64 0)) (c197 : w.cell? ⟨b, 197, none⟩ = some (.int .u64 0)) (c198 : w.cell? ⟨b, 198, none⟩ = some (.pointer none)) :
    Calls Yba.prog 17 #[.pointer (some ⟨b, 0, none⟩), .int .u64 ((L0 : Int) + (D : Int)), .int .u64 (L0 : Int)] w fun e w' => e = .returned (.int .i64 ((D : Int) * (n : Int))) ∧ ∃ m, w' = w.drewN m := by
  go_enter Yba.func17, Yba.ntmps17
  go_wp2
  go_quiet (fail)
  go_wp2
  go_ret
  refine ⟨ret_int ?_, nq, rfl⟩
  have := dist_eq L0 D n 0 0 hn2 hD (by omega) (by omega)
  simpa using this

set_option maxHeartbeats 1000000 in
set_option maxRecDepth 100000 in
theorem distance_1 (b bc n p q L0 I0 D I1 : Nat) (w : World) (hn : 1 ≤ n) (hn2 : n ≤ 64) (hL : L0 ≤ 8589934592) (hD : D ≤ 3)
    (hp : (p : Int) / 2 = (L0 : Int)) (hp2 : bits .and .u64 (p : Int) 1 = (I0 : Int)) (hq : (q : Int) / 2 = (L0 : Int) + (D : Int)) (hq2 : bits .and .u64 (q : Int) 1 = (I1 : Int)) (h0 : I0 < 64) (h1 : I1 < 64)
    (c194 : w.cell? ⟨b, 194, none⟩ = some (.slice (some ⟨bc, 0, none⟩) n n)) (c196 : w.cell? ⟨b, 196, none⟩ = some (.int .u64 1)) (c197 : w.cell? ⟨b, 197, none⟩ = some (.int .u64 1)) (c198 : w.cell? ⟨b, 198, none⟩ = some (.pointer none)) :
    Calls Yba.prog 17 #[.pointer (some ⟨b, 0, none⟩), .int .u64 (q : Int), .int .u64 (p : Int)] w fun e w' => e = .returned (.int .i64 ((D : Int) * (n : Int) + (I1 : Int) - (I0 : Int))) ∧ ∃ m, w' = w.drewN m := by
  go_enter Yba.func17, Yba.ntmps17
  go_wp2
  go_quiet (fail)
  go_wp2
  go_ret
  exact ⟨ret_int (dist_eq L0 D n I0 I1 hn2 hD h0 h1), nq, rfl⟩

set_option maxHeartbeats 1000000 in
set_option maxRecDepth 100000 in
theorem distance_2 (b bc n p q L0 I0 D I1 : Nat) (w : World) (hn : 1 ≤ n) (hn2 : n ≤ 64) (hL : L0 ≤ 8589934592) (hD : D ≤ 3)
    (hp : (p : Int) / 4 = (L0 : Int)) (hp2 : bits .and .u64 (p : Int) 3 = (I0 : Int)) (hq : (q : Int) / 4 = (L0 : Int) + (D : Int)) (hq2 : bits .and .u64 (q : Int) 3 = (I1 : Int)) (h0 : I0 < 64) (h1 : I1 < 64)
    (c194 : w.cell? ⟨b, 194, none⟩ = some (.slice (some ⟨bc, 0, none⟩) n n)) (c196 : w.cell? ⟨b, 196, none⟩ = some (.int .u64 2)) (c197 : w.cell? ⟨b, 197, none⟩ = some (.int .u64 3)) (c198 : w.cell? ⟨b, 198, none⟩ = some (.pointer none)) :
    Calls Yba.prog 17 #[.pointer (some ⟨b, 0, none⟩), .int .u64 (q : Int), .int .u64 (p : Int)] w fun e w' => e = .returned (.int .i64 ((D : Int) * (n : Int) + (I1 : Int) - (I0 : Int))) ∧ ∃ m, w' = w.drewN m := by
  go_enter Yba.func17, Yba.ntmps17
  go_wp2
  go_quiet (fail)
  go_wp2
  go_ret
  exact ⟨ret_int (dist_eq L0 D n I0 I1 hn2 hD h0 h1), nq, rfl⟩

set_option maxHeartbeats 1000000 in
set_option maxRecDepth 100000 in
theorem distance_3 (b bc n p q L0 I0 D I1 : Nat) (w : World) (hn : 1 ≤ n) (hn2 : n ≤ 64) (hL : L0 ≤ 8589934592) (hD : D ≤ 3)
    (hp : (p : Int) / 8 = (L0 : Int)) (hp2 : bits .and .u64 (p : Int) 7 = (I0 : Int)) (hq : (q : Int) / 8 = (L0 : Int) + (D : Int)) (hq2 : bits .and .u64 (q : Int) 7 = (I1 : Int)) (h0 : I0 < 64) (h1 : I1 < 64)
    (c194 : w.cell? ⟨b, 194, none⟩ = some (.slice (some ⟨bc, 0, none⟩) n n)) (c196 : w.cell? ⟨b, 196, none⟩ = some (.int .u64 3)) (c197 : w.cell? ⟨b, 197, none⟩ = some (.int .u64 7)) (c198 : w.cell? ⟨b, 198, none⟩ = some (.pointer none)) :
    Calls Yba.prog 17 #[.pointer (some ⟨b, 0, none⟩), .int .u64 (q : Int), .int .u64 (p : Int)] w fun e w' => e = .returned (.int .i64 ((D : Int) * (n : Int) + (I1 : Int) - (I0 : Int))) ∧ ∃ m, w' = w.drewN m := by
  go_enter Yba.func17, Yba.ntmps17
  go_wp2
  go_quiet (fail)
  go_wp2
  go_ret
  exact ⟨ret_int (dist_eq L0 D n I0 I1 hn2 hD h0 h1), nq, rfl⟩

set_option maxHeartbeats 1000000 in
set_option maxRecDepth 100000 in
theorem distance_4 (b bc n p q L0 I0 D I1 : Nat) (w : World) (hn : 1 ≤ n) (hn2 : n ≤ 64) (hL : L0 ≤ 8589934592) (hD : D ≤ 3)
    (hp : (p : Int) / 16 = (L0 : Int)) (hp2 : bits .and .u64 (p : Int) 15 = (I0 : Int)) (hq : (q : Int) / 16 = (L0 : Int) + (D : Int)) (hq2 : bits .and .u64 (q : Int) 15 = (I1 : Int)) (h0 : I0 < 64) (h1 : I1 < 64)
    (c194 : w.cell? ⟨b, 194, none⟩ = some (.slice (some ⟨bc, 0, none⟩) n n)) (c196 : w.cell? ⟨b, 196, none⟩ = some (.int .u64 4)) (c197 : w.cell? ⟨b, 197, none⟩ = some (.int .u64 15)) (c198 : w.cell? ⟨b, 198, none⟩ = some (.pointer none)) :
    Calls Yba.prog 17 #[.pointer (some ⟨b, 0, none⟩), .int .u64 (q : Int), .int .u64 (p : Int)] w fun e w' => e = .returned (.int .i64 ((D : Int) * (n : Int) + (I1 : Int) - (I0 : Int))) ∧ ∃ m, w' = w.drewN m := by
  go_enter Yba.func17, Yba.ntmps17
  go_wp2
  go_quiet (fail)
  go_wp2
  go_ret
  exact ⟨ret_int (dist_eq L0 D n I0 I1 hn2 hD h0 h1), nq, rfl⟩

set_option maxHeartbeats 1000000 in
set_option maxRecDepth 100000 in
theorem distance_5 (b bc n p q L0 I0 D I1 : Nat) (w : World) (hn : 1 ≤ n) (hn2 : n ≤ 64) (hL : L0 ≤ 8589934592) (hD : D ≤ 3)
    (hp : (p : Int) / 32 = (L0 : Int)) (hp2 : bits .and .u64 (p : Int) 31 = (I0 : Int)) (hq : (q : Int) / 32 = (L0 : Int) + (D : Int)) (hq2 : bits .and .u64 (q : Int) 31 = (I1 : Int)) (h0 : I0 < 64) (h1 : I1 < 64)
    (c194 : w.cell? ⟨b, 194, none⟩ = some (.slice (some ⟨bc, 0, none⟩) n n)) (c196 : w.cell? ⟨b, 196, none⟩ = some (.int .u64 5)) (c197 : w.cell? ⟨b, 197, none⟩ = some (.int .u64 31)) (c198 : w.cell? ⟨b, 198, none⟩ = some (.pointer none)) :
    Calls Yba.prog 17 #[.pointer (some ⟨b, 0, none⟩), .int .u64 (q : Int), .int .u64 (p : Int)] w fun e w' => e = .returned (.int .i64 ((D : Int) * (n : Int) + (I1 : Int) - (I0 : Int))) ∧ ∃ m, w' = w.drewN m := by
  go_enter Yba.func17, Yba.ntmps17
  go_wp2
  go_quiet (fail)
  go_wp2
  go_ret
  exact ⟨ret_int (dist_eq L0 D n I0 I1 hn2 hD h0 h1), nq, rfl⟩

set_option maxHeartbeats 1000000 in
set_option maxRecDepth 100000 in
theorem distance_6 (b bc n p q L0 I0 D I1 : Nat) (w : World) (hn : 1 ≤ n) (hn2 : n ≤ 64) (hL : L0 ≤ 8589934592) (hD : D ≤ 3)
    (hp : (p : Int) / 64 = (L0 : Int)) (hp2 : bits .and .u64 (p : Int) 63 = (I0 : Int)) (hq : (q : Int) / 64 = (L0 : Int) + (D : Int)) (hq2 : bits .and .u64 (q : Int) 63 = (I1 : Int)) (h0 : I0 < 64) (h1 : I1 < 64)
    (c194 : w.cell? ⟨b, 194, none⟩ = some (.slice (some ⟨bc, 0, none⟩) n n)) (c196 : w.cell? ⟨b, 196, none⟩ = some (.int .u64 6)) (c197 : w.cell? ⟨b, 197, none⟩ = some (.int .u64 63)) (c198 : w.cell? ⟨b, 198, none⟩ = some (.pointer none)) :
    Calls Yba.prog 17 #[.pointer (some ⟨b, 0, none⟩), .int .u64 (q : Int), .int .u64 (p : Int)] w fun e w' => e = .returned (.int .i64 ((D : Int) * (n : Int) + (I1 : Int) - (I0 : Int))) ∧ ∃ m, w' = w.drewN m := by
  go_enter Yba.func17, Yba.ntmps17
  go_wp2
  go_quiet (fail)
  go_wp2
  go_ret
  exact ⟨ret_int (dist_eq L0 D n I0 I1 hn2 hD h0 h1), nq, rfl⟩

set_option maxHeartbeats 1000000 in
set_option maxRecDepth 100000 in
theorem next_last_0 (b bc n p r I0 : Nat) (w : World) (hn : 1 ≤ n) (hn2 : n ≤ 64) (hr : r ≤ 1099511627776) (hl : ((I0 : Int) == (n : Int) - 1) = true) (hp2 : bits .and .u64 (p : Int) 0 = (I0 : Int)) (hor : bits .or .u64 (p : Int) 0 = (r : Int))
    (c194 : w.cell? ⟨b, 194, none⟩ = some (.slice (some ⟨bc, 0, none⟩) n n)) (c197 : w.cell? ⟨b, 197, none⟩ = some (.int .u64 0)) :
    Calls Yba.prog 18 #[.pointer (some ⟨b, 0, none⟩), .int .u64 (p : Int)] w fun e w' => e = .returned (.int .u64 ((r : Int) + 1)) ∧ ∃ m, w' = w.drewN m := by
  go_enter Yba.func18, Yba.ntmps18
  go_wp2
  go_quiet (fail)
  go_wp2
  go_ret
  exact ⟨rfl, nq, rfl⟩

set_option maxHeartbeats 1000000 in
set_option maxRecDepth 100000 in
theorem next_mid_0 (b bc n p I0 : Nat) (w : World) (hn : 1 ≤ n) (hn2 : n ≤ 64) (hr : p ≤ 1099511627776) (hl : ((I0 : Int) == (n : Int) - 1) = false) (hp2 : bits .and .u64 (p : Int) 0 = (I0 : Int))
    (c194 : w.cell? ⟨b, 194, none⟩ = some (.slice (some ⟨bc, 0, none⟩) n n)) (c197 : w.cell? ⟨b, 197, none⟩ = some (.int .u64 0)) :
    Calls Yba.prog 18 #[.pointer (some ⟨b, 0, none⟩), .int .u64 (p : Int)] w fun e w' => e = .returned (.int .u64 ((p : Int) + 1)) ∧ ∃ m, w' = w.drewN m := by
  go_enter Yba.func18, Yba.ntmps18
  go_wp2
  go_quiet (fail)
  go_wp2
  go_ret
  exact ⟨rfl, nq, rfl⟩

set_option maxHeartbeats 1000000 in
set_option maxRecDepth 100000 in
theorem cell_0 (b bc n p I0 L0 : Nat) (w : World) (hn2 : n ≤ 64) (hI : I0 < n) (hp2 : bits .and .u64 (p : Int) 0 = (I0 : Int))
    (c194 : w.cell? ⟨b, 194, none⟩ = some (.slice (some ⟨bc, 0, none⟩) n n)) (c196 : w.cell? ⟨b, 196, none⟩ = some (.int .u64 0)) (c197 : w.cell? ⟨b, 197, none⟩ = some (.int .u64 0)) :
    Calls Yba.prog 19 #[.pointer (some ⟨b, 0, none⟩), .int .u64 (p : Int)] w fun e w' => e = .returned (.tuple #[.pointer (some ⟨bc, I0 * 2, none⟩), .int .u64 (p : Int)]) ∧ ∃ m, w' = w.drewN m := by
  have h63 : bits .and .u64 0 63 = 0 := by decide
  have hI2 : ((I0 : Int)) < (n : Int) := by omega
  go_enter Yba.func19, Yba.ntmps19
  go_wp2
  go_quiet (fail)
  go_wp2
  go_ret2
  exact ⟨rfl, nq, rfl⟩

set_option maxHeartbeats 1000000 in
set_option maxRecDepth 100000 in
theorem next_last_1 (b bc n p r I0 : Nat) (w : World) (hn : 1 ≤ n) (hn2 : n ≤ 64) (hr : r ≤ 1099511627776) (hl : ((I0 : Int) == (n : Int) - 1) = true) (hp2 : bits .and .u64 (p : Int) 1 = (I0 : Int)) (hor : bits .or .u64 (p : Int) 1 = (r : Int))
    (c194 : w.cell? ⟨b, 194, none⟩ = some (.slice (some ⟨bc, 0, none⟩) n n)) (c197 : w.cell? ⟨b, 197, none⟩ = some (.int .u64 1)) :
    Calls Yba.prog 18 #[.pointer (some ⟨b, 0, none⟩), .int .u64 (p : Int)] w fun e w' => e = .returned (.int .u64 ((r : Int) + 1)) ∧ ∃ m, w' = w.drewN m := by
  go_enter Yba.func18, Yba.ntmps18
  go_wp2
  go_quiet (fail)
  go_wp2
  go_ret
  exact ⟨rfl, nq, rfl⟩

set_option maxHeartbeats 1000000 in
set_option maxRecDepth 100000 in
theorem next_mid_1 (b bc n p I0 : Nat) (w : World) (hn : 1 ≤ n) (hn2 : n ≤ 64) (hr : p ≤ 1099511627776) (hl : ((I0 : Int) == (n : Int) - 1) = false) (hp2 : bits .and .u64 (p : Int) 1 = (I0 : Int))
    (c194 : w.cell? ⟨b, 194, none⟩ = some (.slice (some ⟨bc, 0, none⟩) n n)) (c197 : w.cell? ⟨b, 197, none⟩ = some (.int .u64 1)) :
    Calls Yba.prog 18 #[.pointer (some ⟨b, 0, none⟩), .int .u64 (p : Int)] w fun e w' => e = .returned (.int .u64 ((p : Int) + 1)) ∧ ∃ m, w' = w.drewN m := by
  go_enter Yba.func18, Yba.ntmps18
  go_wp2
  go_quiet (fail)
  go_wp2
  go_ret
  exact ⟨rfl, nq, rfl⟩

set_option maxHeartbeats 1000000 in
set_option maxRecDepth 100000 in
theorem cell_1 (b bc n p I0 L0 : Nat) (w : World) (hn2 : n ≤ 64) (hI : I0 < n) (hp2 : bits .and .u64 (p : Int) 1 = (I0 : Int)) (hp : (p : Int) / 2 = (L0 : Int))
    (c194 : w.cell? ⟨b, 194, none⟩ = some (.slice (some ⟨bc, 0, none⟩) n n)) (c196 : w.cell? ⟨b, 196, none⟩ = some (.int .u64 1)) (c197 : w.cell? ⟨b, 197, none⟩ = some (.int .u64 1)) :
    Calls Yba.prog 19 #[.pointer (some ⟨b, 0, none⟩), .int .u64 (p : Int)] w fun e w' => e = .returned (.tuple #[.pointer (some ⟨bc, I0 * 2, none⟩), .int .u64 (L0 : Int)]) ∧ ∃ m, w' = w.drewN m := by
  have h63 : bits .and .u64 1 63 = 1 := by decide
  have hI2 : ((I0 : Int)) < (n : Int) := by omega
  go_enter Yba.func19, Yba.ntmps19
  go_wp2
  go_quiet (fail)
  go_wp2
  go_ret2
  exact ⟨rfl, nq, rfl⟩

set_option maxHeartbeats 1000000 in
set_option maxRecDepth 100000 in
theorem next_last_2 (b bc n p r I0 : Nat) (w : World) (hn : 1 ≤ n) (hn2 : n ≤ 64) (hr : r ≤ 1099511627776) (hl : ((I0 : Int) == (n : Int) - 1) = true) (hp2 : bits .and .u64 (p : Int) 3 = (I0 : Int)) (hor : bits .or .u64 (p : Int) 3 = (r : Int))
    (c194 : w.cell? ⟨b, 194, none⟩ = some (.slice (some ⟨bc, 0, none⟩) n n)) (c197 : w.cell? ⟨b, 197, none⟩ = some (.int .u64 3)) :
    Calls Yba.prog 18 #[.pointer (some ⟨b, 0, none⟩), .int .u64 (p : Int)] w fun e w' => e = .returned (.int .u64 ((r : Int) + 1)) ∧ ∃ m, w' = w.drewN m := by
  go_enter Yba.func18, Yba.ntmps18
  go_wp2
  go_quiet (fail)
  go_wp2
  go_ret
  exact ⟨rfl, nq, rfl⟩

set_option maxHeartbeats 1000000 in
set_option maxRecDepth 100000 in
theorem next_mid_2 (b bc n p I0 : Nat) (w : World) (hn : 1 ≤ n) (hn2 : n ≤ 64) (hr : p ≤ 1099511627776) (hl : ((I0 : Int) == (n : Int) - 1) = false) (hp2 : bits .and .u64 (p : Int) 3 = (I0 : Int))
    (c194 : w.cell? ⟨b, 194, none⟩ = some (.slice (some ⟨bc, 0, none⟩) n n)) (c197 : w.cell? ⟨b, 197, none⟩ = some (.int .u64 3)) :
    Calls Yba.prog 18 #[.pointer (some ⟨b, 0, none⟩), .int .u64 (p : Int)] w fun e w' => e = .returned (.int .u64 ((p : Int) + 1)) ∧ ∃ m, w' = w.drewN m := by
  go_enter Yba.func18, Yba.ntmps18
  go_wp2
  go_quiet (fail)
  go_wp2
  go_ret
  exact ⟨rfl, nq, rfl⟩

set_option maxHeartbeats 1000000 in
set_option maxRecDepth 100000 in
theorem cell_2 (b bc n p I0 L0 : Nat) (w : World) (hn2 : n ≤ 64) (hI : I0 < n) (hp2 : bits .and .u64 (p : Int) 3 = (I0 : Int)) (hp : (p : Int) / 4 = (L0 : Int))
    (c194 : w.cell? ⟨b, 194, none⟩ = some (.slice (some ⟨bc, 0, none⟩) n n)) (c196 : w.cell? ⟨b, 196, none⟩ = some (.int .u64 2)) (c197 : w.cell? ⟨b, 197, none⟩ = some (.int .u64 3)) :
    Calls Yba.prog 19 #[.pointer (some ⟨b, 0, none⟩), .int .u64 (p : Int)] w fun e w' => e = .returned (.tuple #[.pointer (some ⟨bc, I0 * 2, none⟩), .int .u64 (L0 : Int)]) ∧ ∃ m, w' = w.drewN m := by
  have h63 : bits .and .u64 2 63 = 2 := by decide
  have hI2 : ((I0 : Int)) < (n : Int) := by omega
  go_enter Yba.func19, Yba.ntmps19
  go_wp2
  go_quiet (fail)
  go_wp2
  go_ret2
  exact ⟨rfl, nq, rfl⟩

set_option maxHeartbeats 1000000 in
set_option maxRecDepth 100000 in
theorem next_last_3 (b bc n p r I0 : Nat) (w : World) (hn : 1 ≤ n) (hn2 : n ≤ 64) (hr : r ≤ 1099511627776) (hl : ((I0 : Int) == (n : Int) - 1) = true) (hp2 : bits .and .u64 (p : Int) 7 = (I0 : Int)) (hor : bits .or .u64 (p : Int) 7 = (r : Int))
    (c194 : w.cell? ⟨b, 194, none⟩ = some (.slice (some ⟨bc, 0, none⟩) n n)) (c197 : w.cell? ⟨b, 197, none⟩ = some (.int .u64 7)) :
    Calls Yba.prog 18 #[.pointer (some ⟨b, 0, none⟩), .int .u64 (p : Int)] w fun e w' => e = .returned (.int .u64 ((r : Int) + 1)) ∧ ∃ m, w' = w.drewN m := by
  go_enter Yba.func18, Yba.ntmps18
  go_wp2
  go_quiet (fail)
  go_wp2
  go_ret
  exact ⟨rfl, nq, rfl⟩

set_option maxHeartbeats 1000000 in
set_option maxRecDepth 100000 in
theorem next_mid_3 (b bc n p I0 : Nat) (w : World) (hn : 1 ≤ n) (hn2 : n ≤ 64) (hr : p ≤ 1099511627776) (hl : ((I0 : Int) == (n : Int) - 1) = false) (hp2 : bits .and .u64 (p : Int) 7 = (I0 : Int))
    (c194 : w.cell? ⟨b, 194, none⟩ = some (.slice (some ⟨bc, 0, none⟩) n n)) (c197 : w.cell? ⟨b, 197, none⟩ = some (.int .u64 7)) :
    Calls Yba.prog 18 #[.pointer (some ⟨b, 0, none⟩), .int .u64 (p : Int)] w fun e w' => e = .returned (.int .u64 ((p : Int) + 1)) ∧ ∃ m, w' = w.drewN m := by
  go_enter Yba.func18, Yba.ntmps18
  go_wp2
  go_quiet (fail)
  go_wp2
  go_ret
  exact ⟨rfl, nq, rfl⟩

set_option maxHeartbeats 1000000 in
set_option maxRecDepth 100000 in
theorem cell_3 (b bc n p I0 L0 : Nat) (w : World) (hn2 : n ≤ 64) (hI : I0 < n) (hp2 : bits .and .u64 (p : Int) 7 = (I0 : Int)) (hp : (p : Int) / 8 = (L0 : Int))
    (c194 : w.cell? ⟨b, 194, none⟩ = some (.slice (some ⟨bc, 0, none⟩) n n)) (c196 : w.cell? ⟨b, 196, none⟩ = some (.int .u64 3)) (c197 : w.cell? ⟨b, 197, none⟩ = some (.int .u64 7)) :
    Calls Yba.prog 19 #[.pointer (some ⟨b, 0, none⟩), .int .u64 (p : Int)] w fun e w' => e = .returned (.tuple #[.pointer (some ⟨bc, I0 * 2, none⟩), .int .u64 (L0 : Int)]) ∧ ∃ m, w' = w.drewN m := by
  have h63 : bits .and .u64 3 63 = 3 := by decide
  have hI2 : ((I0 : Int)) < (n : Int) := by omega
  go_enter Yba.func19, Yba.ntmps19
  go_wp2
  go_quiet (fail)
  go_wp2
  go_ret2
  exact ⟨rfl, nq, rfl⟩

set_option maxHeartbeats 1000000 in
set_option maxRecDepth 100000 in
theorem next_last_4 (b bc n p r I0 : Nat) (w : World) (hn : 1 ≤ n) (hn2 : n ≤ 64) (hr : r ≤ 1099511627776) (hl : ((I0 : Int) == (n : Int) - 1) = true) (hp2 : bits .and .u64 (p : Int) 15 = (I0 : Int)) (hor : bits .or .u64 (p : Int) 15 = (r : Int))
    (c194 : w.cell? ⟨b, 194, none⟩ = some (.slice (some ⟨bc, 0, none⟩) n n)) (c197 : w.cell? ⟨b, 197, none⟩ = some (.int .u64 15)) :
    Calls Yba.prog 18 #[.pointer (some ⟨b, 0, none⟩), .int .u64 (p : Int)] w fun e w' => e = .returned (.int .u64 ((r : Int) + 1)) ∧ ∃ m, w' = w.drewN m := by
  go_enter Yba.func18, Yba.ntmps18
  go_wp2
  go_quiet (fail)
  go_wp2
  go_ret
  exact ⟨rfl, nq, rfl⟩

set_option maxHeartbeats 1000000 in
set_option maxRecDepth 100000 in
theorem next_mid_4 (b bc n p I0 : Nat) (w : World) (hn : 1 ≤ n) (hn2 : n ≤ 64) (hr : p ≤ 1099511627776) (hl : ((I0 : Int) == (n : Int) - 1) = false) (hp2 : bits .and .u64 (p : Int) 15 = (I0 : Int))
    (c194 : w.cell? ⟨b, 194, none⟩ = some (.slice (some ⟨bc, 0, none⟩) n n)) (c197 : w.cell? ⟨b, 197, none⟩ = some (.int .u64 15)) :
    Calls Yba.prog 18 #[.pointer (some ⟨b, 0, none⟩), .int .u64 (p : Int)] w fun e w' => e = .returned (.int .u64 ((p : Int) + 1)) ∧ ∃ m, w' = w.drewN m := by
  go_enter Yba.func18, Yba.ntmps18
  go_wp2
  go_quiet (fail)
  go_wp2
  go_ret
  exact ⟨rfl, nq, rfl⟩

set_option maxHeartbeats 1000000 in
set_option maxRecDepth 100000 in
theorem cell_4 (b bc n p I0 L0 : Nat) (w : World) (hn2 : n ≤ 64) (hI : I0 < n) (hp2 : bits .and .u64 (p : Int) 15 = (I0 : Int)) (hp : (p : Int) / 16 = (L0 : Int))
    (c194 : w.cell? ⟨b, 194, none⟩ = some (.slice (some ⟨bc, 0, none⟩) n n)) (c196 : w.cell? ⟨b, 196, none⟩ = some (.int .u64 4)) (c197 : w.cell? ⟨b, 197, none⟩ = some (.int .u64 15)) :
    Calls Yba.prog 19 #[.pointer (some ⟨b, 0, none⟩), .int .u64 (p : Int)] w fun e w' => e = .returned (.tuple #[.pointer (some ⟨bc, I0 * 2, none⟩), .int .u64 (L0 : Int)]) ∧ ∃ m, w' = w.drewN m := by
  have h63 : bits .and .u64 4 63 = 4 := by decide
  have hI2 : ((I0 : Int)) < (n : Int) := by omega
  go_enter Yba.func19, Yba.ntmps19
  go_wp2
  go_quiet (fail)
  go_wp2
  go_ret2
  exact ⟨rfl, nq, rfl⟩

set_option maxHeartbeats 1000000 in
set_option maxRecDepth 100000 in
theorem next_last_5 (b bc n p r I0 : Nat) (w : World) (hn : 1 ≤ n) (hn2 : n ≤ 64) (hr : r ≤ 1099511627776) (hl : ((I0 : Int) == (n : Int) - 1) = true) (hp2 : bits .and .u64 (p : Int) 31 = (I0 : Int)) (hor : bits .or .u64 (p : Int) 31 = (r : Int))
    (c194 : w.cell? ⟨b, 194, none⟩ = some (.slice (some ⟨bc, 0, none⟩) n n)) (c197 : w.cell? ⟨b, 197, none⟩ = some (.int .u64 31)) :
    Calls Yba.prog 18 #[.pointer (some ⟨b, 0, none⟩), .int .u64 (p : Int)] w fun e w' => e = .returned (.int .u64 ((r : Int) + 1)) ∧ ∃ m, w' = w.drewN m := by
  go_enter Yba.func18, Yba.ntmps18
  go_wp2
  go_quiet (fail)
  go_wp2
  go_ret
  exact ⟨rfl, nq, rfl⟩

set_option maxHeartbeats 1000000 in
set_option maxRecDepth 100000 in
theorem next_mid_5 (b bc n p I0 : Nat) (w : World) (hn : 1 ≤ n) (hn2 : n ≤ 64) (hr : p ≤ 1099511627776) (hl : ((I0 : Int) == (n : Int) - 1) = false) (hp2 : bits .and .u64 (p : Int) 31 = (I0 : Int))
    (c194 : w.cell? ⟨b, 194, none⟩ = some (.slice (some ⟨bc, 0, none⟩) n n)) (c197 : w.cell? ⟨b, 197, none⟩ = some (.int .u64 31)) :
    Calls Yba.prog 18 #[.pointer (some ⟨b, 0, none⟩), .int .u64 (p : Int)] w fun e w' => e = .returned (.int .u64 ((p : Int) + 1)) ∧ ∃ m, w' = w.drewN m := by
  go_enter Yba.func18, Yba.ntmps18
  go_wp2
  go_quiet (fail)
  go_wp2
  go_ret
  exact ⟨rfl, nq, rfl⟩

set_option maxHeartbeats 1000000 in
set_option maxRecDepth 100000 in
theorem cell_5 (b bc n p I0 L0 : Nat) (w : World) (hn2 : n ≤ 64) (hI : I0 < n) (hp2 : bits .and .u64 (p : Int) 31 = (I0 : Int)) (hp : (p : Int) / 32 = (L0 : Int))
    (c194 : w.cell? ⟨b, 194, none⟩ = some (.slice (some ⟨bc, 0, none⟩) n n)) (c196 : w.cell? ⟨b, 196, none⟩ = some (.int .u64 5)) (c197 : w.cell? ⟨b, 197, none⟩ = some (.int .u64 31)) :
    Calls Yba.prog 19 #[.pointer (some ⟨b, 0, none⟩), .int .u64 (p : Int)] w fun e w' => e = .returned (.tuple #[.pointer (some ⟨bc, I0 * 2, none⟩), .int .u64 (L0 : Int)]) ∧ ∃ m, w' = w.drewN m := by
  have h63 : bits .and .u64 5 63 = 5 := by decide
  have hI2 : ((I0 : Int)) < (n : Int) := by omega
  go_enter Yba.func19, Yba.ntmps19
  go_wp2
  go_quiet (fail)
  go_wp2
  go_ret2
  exact ⟨rfl, nq, rfl⟩

set_option maxHeartbeats 1000000 in
set_option maxRecDepth 100000 in
theorem next_last_6 (b bc n p r I0 : Nat) (w : World) (hn : 1 ≤ n) (hn2 : n ≤ 64) (hr : r ≤ 1099511627776) (hl : ((I0 : Int) == (n : Int) - 1) = true) (hp2 : bits .and .u64 (p : Int) 63 = (I0 : Int)) (hor : bits .or .u64 (p : Int) 63 = (r : Int))
    (c194 : w.cell? ⟨b, 194, none⟩ = some (.slice (some ⟨bc, 0, none⟩) n n)) (c197 : w.cell? ⟨b, 197, none⟩ = some (.int .u64 63)) :
    Calls Yba.prog 18 #[.pointer (some ⟨b, 0, none⟩), .int .u64 (p : Int)] w fun e w' => e = .returned (.int .u64 ((r : Int) + 1)) ∧ ∃ m, w' = w.drewN m := by
  go_enter Yba.func18, Yba.ntmps18
  go_wp2
  go_quiet (fail)
  go_wp2
  go_ret
  exact ⟨rfl, nq, rfl⟩

set_option maxHeartbeats 1000000 in
set_option maxRecDepth 100000 in
theorem next_mid_6 (b bc n p I0 : Nat) (w : World) (hn : 1 ≤ n) (hn2 : n ≤ 64) (hr : p ≤ 1099511627776) (hl : ((I0 : Int) == (n : Int) - 1) = false) (hp2 : bits .and .u64 (p : Int) 63 = (I0 : Int))
    (c194 : w.cell? ⟨b, 194, none⟩ = some (.slice (some ⟨bc, 0, none⟩) n n)) (c197 : w.cell? ⟨b, 197, none⟩ = some (.int .u64 63)) :
    Calls Yba.prog 18 #[.pointer (some ⟨b, 0, none⟩), .int .u64 (p : Int)] w fun e w' => e = .returned (.int .u64 ((p : Int) + 1)) ∧ ∃ m, w' = w.drewN m := by
  go_enter Yba.func18, Yba.ntmps18
  go_wp2
  go_quiet (fail)
  go_wp2
  go_ret
  exact ⟨rfl, nq, rfl⟩

set_option maxHeartbeats 1000000 in
set_option maxRecDepth 100000 in
theorem cell_6 (b bc n p I0 L0 : Nat) (w : World) (hn2 : n ≤ 64) (hI : I0 < n) (hp2 : bits .and .u64 (p : Int) 63 = (I0 : Int)) (hp : (p : Int) / 64 = (L0 : Int))
    (c194 : w.cell? ⟨b, 194, none⟩ = some (.slice (some ⟨bc, 0, none⟩) n n)) (c196 : w.cell? ⟨b, 196, none⟩ = some (.int .u64 6)) (c197 : w.cell? ⟨b, 197, none⟩ = some (.int .u64 63)) :
    Calls Yba.prog 19 #[.pointer (some ⟨b, 0, none⟩), .int .u64 (p : Int)] w fun e w' => e = .returned (.tuple #[.pointer (some ⟨bc, I0 * 2, none⟩), .int .u64 (L0 : Int)]) ∧ ∃ m, w' = w.drewN m := by
  have h63 : bits .and .u64 6 63 = 6 := by decide
  have hI2 : ((I0 : Int)) < (n : Int) := by omega
  go_enter Yba.func19, Yba.ntmps19
  go_wp2
  go_quiet (fail)
  go_wp2
  go_ret2
  exact ⟨rfl, nq, rfl⟩

end Go.Proofs.Ybulkecaq
