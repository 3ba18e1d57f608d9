import Derived.Test.YbulkecaqRing
namespace Go.Proofs.Ybulkecaq
open Go.RowKit Go.Conc
set_option linter.unusedSimpArgs false
set_option linter.unusedVariables false

/-- the position of the q-th turn of a ring of n cells whose index takes k bits -/
def pos (k q n : Nat) : Nat := q / n * 2 ^ k + q % n

theorem k_cases {k : Nat} (hk : k ≤ 6) : k = 0 ∨ k = 1 ∨ k = 2 ∨ k = 3 ∨ k = 4 ∨ k = 5 ∨ k = 6 := by omega

theorem pos_div (k L I : Nat) (hI : I < 2 ^ k) : (L * 2 ^ k + I) / 2 ^ k = L := by
  rw [Nat.mul_comm, Nat.mul_add_div (Nat.two_pow_pos k), Nat.div_eq_of_lt hI, Nat.add_zero]
theorem pos_mod (k L I : Nat) (hI : I < 2 ^ k) : (L * 2 ^ k + I) % 2 ^ k = I := by
  rw [Nat.mul_comm, Nat.mul_add_mod, Nat.mod_eq_of_lt hI]
theorem pos_lt (k L I : Nat) (hk : k ≤ 6) (hI : I < 2 ^ k) (hL : L ≤ 8589934592 + 3) : L * 2 ^ k + I < 1099511627776 := by
  rcases k_cases hk with rfl | rfl | rfl | rfl | rfl | rfl | rfl <;> omega
theorem pow_le (k : Nat) (hk : k ≤ 6) : 2 ^ k ≤ 64 := by
  rcases k_cases hk with rfl | rfl | rfl | rfl | rfl | rfl | rfl <;> omega

theorem and_at (k L I : Nat) (hk : k ≤ 6) (hI : I < 2 ^ k) (hL : L ≤ 8589934592 + 3) : bits .and .u64 ((L * 2 ^ k + I : Nat) : Int) ((2 ^ k - 1 : Nat) : Int) = (I : Int) := by
  rw [and_mask k _ (by have := pos_lt k L I hk hI hL; omega) hk, pos_mod k L I hI]

theorem div_at (k L I : Nat) (hI : I < 2 ^ k) : ((L * 2 ^ k + I : Nat) : Int) / ((2 ^ k : Nat) : Int) = (L : Int) := by
  rw [← Int.natCast_ediv, pos_div k L I hI]

set_option maxHeartbeats 1000000 in
set_option maxRecDepth 100000 in
theorem distance_any (b bc n k L0 I0 D I1 : Nat) (w : World) (hk : k ≤ 6) (hn : 1 ≤ n) (hn2 : n ≤ 64) (hL : L0 ≤ 8589934592) (hD : D ≤ 3) (h0 : I0 < 2 ^ k) (h1 : I1 < 2 ^ k)
    (c194 : w.cell? ⟨b, 194, none⟩ = some (.slice (some ⟨bc, 0, none⟩) n n)) (c196 : w.cell? ⟨b, 196, none⟩ = some (.int .u64 (k : Int))) (c197 : w.cell? ⟨b, 197, none⟩ = some (.int .u64 ((2 ^ k - 1 : Nat) : Int))) (c198 : w.cell? ⟨b, 198, none⟩ = some (.pointer none)) :
    Calls Yba.prog 17 #[.pointer (some ⟨b, 0, none⟩), .int .u64 (((L0 + D) * 2 ^ k + I1 : Nat) : Int), .int .u64 ((L0 * 2 ^ k + I0 : Nat) : Int)] w fun e w' => e = .returned (.int .i64 ((D : Int) * (n : Int) + (I1 : Int) - (I0 : Int))) ∧ ∃ m, w' = w.drewN m := by
  have a0 := and_at k L0 I0 hk h0 (by omega)
  have a1 := and_at k (L0 + D) I1 hk h1 (by omega)
  have d0 := div_at k L0 I0 h0
  have d1 := div_at k (L0 + D) I1 h1
  rw [Int.natCast_add] at d1
  have l0 : I0 < 64 := Nat.lt_of_lt_of_le h0 (pow_le k hk)
  have l1 : I1 < 64 := Nat.lt_of_lt_of_le h1 (pow_le k hk)
  rcases k_cases hk with rfl | rfl | rfl | rfl | rfl | rfl | rfl
  · obtain rfl : I0 = 0 := by omega
    obtain rfl : I1 = 0 := by omega
    have := distance_0 b bc n L0 D w hn hn2 hL hD (by simpa using a0) (by simpa using a1) c194 (by simpa using c196) (by simpa using c197) c198
    simpa using this
  · exact distance_1 b bc n _ _ L0 I0 D I1 w hn hn2 hL hD (by simpa using d0) (by simpa using a0) (by simpa using d1) (by simpa using a1) l0 l1 c194 (by simpa using c196) (by simpa using c197) c198
  · exact distance_2 b bc n _ _ L0 I0 D I1 w hn hn2 hL hD (by simpa using d0) (by simpa using a0) (by simpa using d1) (by simpa using a1) l0 l1 c194 (by simpa using c196) (by simpa using c197) c198
  · exact distance_3 b bc n _ _ L0 I0 D I1 w hn hn2 hL hD (by simpa using d0) (by simpa using a0) (by simpa using d1) (by simpa using a1) l0 l1 c194 (by simpa using c196) (by simpa using c197) c198
  · exact distance_4 b bc n _ _ L0 I0 D I1 w hn hn2 hL hD (by simpa using d0) (by simpa using a0) (by simpa using d1) (by simpa using a1) l0 l1 c194 (by simpa using c196) (by simpa using c197) c198
  · exact distance_5 b bc n _ _ L0 I0 D I1 w hn hn2 hL hD (by simpa using d0) (by simpa using a0) (by simpa using d1) (by simpa using a1) l0 l1 c194 (by simpa using c196) (by simpa using c197) c198
  · exact distance_6 b bc n _ _ L0 I0 D I1 w hn hn2 hL hD (by simpa using d0) (by simpa using a0) (by simpa using d1) (by simpa using a1) l0 l1 c194 (by simpa using c196) (by simpa using c197) c198

set_option maxHeartbeats 1000000 in
set_option maxRecDepth 100000 in
theorem next_any_last (b bc n k L I : Nat) (w : World) (hk : k ≤ 6) (hn : 1 ≤ n) (hn2 : n ≤ 64) (hL : L ≤ 8589934592) (hI : I < 2 ^ k) (hl : I + 1 = n)
    (c194 : w.cell? ⟨b, 194, none⟩ = some (.slice (some ⟨bc, 0, none⟩) n n)) (c197 : w.cell? ⟨b, 197, none⟩ = some (.int .u64 ((2 ^ k - 1 : Nat) : Int))) :
    Calls Yba.prog 18 #[.pointer (some ⟨b, 0, none⟩), .int .u64 ((L * 2 ^ k + I : Nat) : Int)] w fun e w' => e = .returned (.int .u64 (((L + 1) * 2 ^ k : Nat) : Int)) ∧ ∃ m, w' = w.drewN m := by
  have a0 := and_at k L I hk hI (by omega)
  have hlt := pos_lt k L I hk hI (by omega)
  have hlt2 := pos_lt k (L + 1) 0 hk (Nat.two_pow_pos k) (by omega)
  have e1 : (L + 1) * 2 ^ k = L * 2 ^ k + 2 ^ k := by rw [Nat.add_mul, Nat.one_mul]
  have o0 := or_mask k L I hI (by omega) hk (by omega)
  have hp := Nat.two_pow_pos k
  have hb : ((I : Int) == (n : Int) - 1) = true := by simp; omega
  have fin : ((L * 2 ^ k + (2 ^ k - 1) : Nat) : Int) + 1 = (((L + 1) * 2 ^ k : Nat) : Int) := by omega
  rw [← fin]
  rcases k_cases hk with rfl | rfl | rfl | rfl | rfl | rfl | rfl
  · exact next_last_0 b bc n _ _ I w hn hn2 (by omega) hb (by simpa using a0) (by simpa using o0) c194 (by simpa using c197)
  · exact next_last_1 b bc n _ _ I w hn hn2 (by omega) hb (by simpa using a0) (by simpa using o0) c194 (by simpa using c197)
  · exact next_last_2 b bc n _ _ I w hn hn2 (by omega) hb (by simpa using a0) (by simpa using o0) c194 (by simpa using c197)
  · exact next_last_3 b bc n _ _ I w hn hn2 (by omega) hb (by simpa using a0) (by simpa using o0) c194 (by simpa using c197)
  · exact next_last_4 b bc n _ _ I w hn hn2 (by omega) hb (by simpa using a0) (by simpa using o0) c194 (by simpa using c197)
  · exact next_last_5 b bc n _ _ I w hn hn2 (by omega) hb (by simpa using a0) (by simpa using o0) c194 (by simpa using c197)
  · exact next_last_6 b bc n _ _ I w hn hn2 (by omega) hb (by simpa using a0) (by simpa using o0) c194 (by simpa using c197)

set_option maxHeartbeats 1000000 in
set_option maxRecDepth 100000 in
theorem next_any_mid (b bc n k L I : Nat) (w : World) (hk : k ≤ 6) (hn : 1 ≤ n) (hn2 : n ≤ 64) (hL : L ≤ 8589934592) (hI : I < 2 ^ k) (hl : I + 1 < n)
    (c194 : w.cell? ⟨b, 194, none⟩ = some (.slice (some ⟨bc, 0, none⟩) n n)) (c197 : w.cell? ⟨b, 197, none⟩ = some (.int .u64 ((2 ^ k - 1 : Nat) : Int))) :
    Calls Yba.prog 18 #[.pointer (some ⟨b, 0, none⟩), .int .u64 ((L * 2 ^ k + I : Nat) : Int)] w fun e w' => e = .returned (.int .u64 ((L * 2 ^ k + (I + 1) : Nat) : Int)) ∧ ∃ m, w' = w.drewN m := by
  have a0 := and_at k L I hk hI (by omega)
  have hlt := pos_lt k L I hk hI (by omega)
  have hb : ((I : Int) == (n : Int) - 1) = false := by simp; omega
  have fin : ((L * 2 ^ k + I : Nat) : Int) + 1 = ((L * 2 ^ k + (I + 1) : Nat) : Int) := by omega
  rw [← fin]
  rcases k_cases hk with rfl | rfl | rfl | rfl | rfl | rfl | rfl
  · exact next_mid_0 b bc n _ I w hn hn2 (by omega) hb (by simpa using a0) c194 (by simpa using c197)
  · exact next_mid_1 b bc n _ I w hn hn2 (by omega) hb (by simpa using a0) c194 (by simpa using c197)
  · exact next_mid_2 b bc n _ I w hn hn2 (by omega) hb (by simpa using a0) c194 (by simpa using c197)
  · exact next_mid_3 b bc n _ I w hn hn2 (by omega) hb (by simpa using a0) c194 (by simpa using c197)
  · exact next_mid_4 b bc n _ I w hn hn2 (by omega) hb (by simpa using a0) c194 (by simpa using c197)
  · exact next_mid_5 b bc n _ I w hn hn2 (by omega) hb (by simpa using a0) c194 (by simpa using c197)
  · exact next_mid_6 b bc n _ I w hn hn2 (by omega) hb (by simpa using a0) c194 (by simpa using c197)

set_option maxHeartbeats 1000000 in
set_option maxRecDepth 100000 in
theorem cell_any (b bc n k L I : Nat) (w : World) (hk : k ≤ 6) (hn2 : n ≤ 64) (hL : L ≤ 8589934592) (hI : I < 2 ^ k) (hIn : I < n)
    (c194 : w.cell? ⟨b, 194, none⟩ = some (.slice (some ⟨bc, 0, none⟩) n n)) (c196 : w.cell? ⟨b, 196, none⟩ = some (.int .u64 (k : Int))) (c197 : w.cell? ⟨b, 197, none⟩ = some (.int .u64 ((2 ^ k - 1 : Nat) : Int))) :
    Calls Yba.prog 19 #[.pointer (some ⟨b, 0, none⟩), .int .u64 ((L * 2 ^ k + I : Nat) : Int)] w fun e w' => e = .returned (.tuple #[.pointer (some ⟨bc, I * 2, none⟩), .int .u64 (L : Int)]) ∧ ∃ m, w' = w.drewN m := by
  have a0 := and_at k L I hk hI (by omega)
  have d0 := div_at k L I hI
  rcases k_cases hk with rfl | rfl | rfl | rfl | rfl | rfl | rfl
  · obtain rfl : I = 0 := by omega
    have := cell_0 b bc n (L * 2 ^ 0 + 0) 0 0 w hn2 hIn (by simpa using a0) c194 (by simpa using c196) (by simpa using c197)
    simpa using this
  · exact cell_1 b bc n _ I L w hn2 hIn (by simpa using a0) (by simpa using d0) c194 (by simpa using c196) (by simpa using c197)
  · exact cell_2 b bc n _ I L w hn2 hIn (by simpa using a0) (by simpa using d0) c194 (by simpa using c196) (by simpa using c197)
  · exact cell_3 b bc n _ I L w hn2 hIn (by simpa using a0) (by simpa using d0) c194 (by simpa using c196) (by simpa using c197)
  · exact cell_4 b bc n _ I L w hn2 hIn (by simpa using a0) (by simpa using d0) c194 (by simpa using c196) (by simpa using c197)
  · exact cell_5 b bc n _ I L w hn2 hIn (by simpa using a0) (by simpa using d0) c194 (by simpa using c196) (by simpa using c197)
  · exact cell_6 b bc n _ I L w hn2 hIn (by simpa using a0) (by simpa using d0) c194 (by simpa using c196) (by simpa using c197)

end Go.Proofs.Ybulkecaq
