import Derived.Test.YbulkecaqAMain
namespace Go.Proofs.Ybulkecaq
open Go.RowKit Go.Conc
set_option linter.unusedSimpArgs false
set_option linter.unusedVariables false

set_option maxHeartbeats 400000 in
set_option maxRecDepth 100000 in
theorem a_far (a0 a1 a2 a3 : Int) (x4 : Option Addr) (l4 c4 : Nat) (x5 : Option Addr) (l5 c5 : Nat) (w : World) (m4 : l4 ≤ maxLen) (m5 : l5 ≤ maxLen) (h : 1048576 < l4 ∨ 1048576 < l5) :
    Calls Yba.prog 3 #[.int .u8 a0, .int .u32 a1, .int .u16 a2, .int .u16 a3, .slice x4 l4 c4, .slice x5 l5 c5] w fun e w' => e = .returned (.bool true) ∧ Below w.heap.size w w' := by
  unfold maxLen at m4 m5
  by_cases h6 : 1048576 < l4
  · have t1 : (1048576 : Int) < (l4 : Int) := by omega
    clear h
    go_enter Yba.func3, Yba.ntmps3
    go_wp2_with fail
    go_ret
    exact ⟨rfl, Below.refl _ _⟩
  · have t1 : ¬ (1048576 : Int) < (l4 : Int) := by omega
    have t2 : (1048576 : Int) < (l5 : Int) := by omega
    clear h
    go_enter Yba.func3, Yba.ntmps3
    go_wp2_with fail
    go_ret
    exact ⟨rfl, Below.refl _ _⟩

theorem lap_le (m ti n base : Nat) (hn : 1 ≤ n) (t : Nat) (ht : t ≤ 4294967295) (hm : m = t * n) (hti : ti < n) (hb : base = m + ti) : base / n ≤ 4294967296 := by
  subst hm hb
  have e : (t * n + ti) / n = t := by
    rw [Nat.mul_comm, Nat.mul_add_div (by omega), Nat.div_eq_of_lt hti, Nat.add_zero]
  omega

theorem a_walk (a0 a1 a2 a3 : Int) (x4 : Option Addr) (l4 c4 : Nat) (x5 : Option Addr) (l5 c5 : Nat) (w : World) (m4 : l4 ≤ maxLen) (m5 : l5 ≤ maxLen) (b0 : 0 ≤ a0 ∧ a0 ≤ 255) (b1 : 0 ≤ a1 ∧ a1 ≤ 4294967295) (b2 : 0 ≤ a2 ∧ a2 ≤ 65535) (b3 : 0 ≤ a3 ∧ a3 ≤ 65535)
    (s4 : Src w .u8 x4 l4) (s5 : Src w .u64 x5 l5) :
    Calls Yba.prog 3 #[.int .u8 a0, .int .u32 a1, .int .u16 a2, .int .u16 a3, .slice x4 l4 c4, .slice x5 l5 c5] w fun e w' => e = .returned (.bool true) ∧ Below w.heap.size w w' := by
  by_cases h : 1048576 < l4 ∨ 1048576 < l5
  · exact a_far a0 a1 a2 a3 x4 l4 c4 x5 l5 c5 w m4 m5 h
  · obtain ⟨n, hn⟩ := Int.eq_ofNat_of_zero_le (show 0 ≤ 1 + a0 % 64 by omega)
    have n1 : 1 ≤ n := by omega
    have n2 : n ≤ 64 := by omega
    obtain ⟨k, hk⟩ := exists_k n n1 n2
    obtain ⟨t, ht⟩ := Int.eq_ofNat_of_zero_le b1.1
    have ht2 : t ≤ 4294967295 := by omega
    obtain ⟨ti, hti⟩ := Int.eq_ofNat_of_zero_le (Int.emod_nonneg a2 (show (n : Int) ≠ 0 by omega))
    have hti2 : ti < n := by have := Int.emod_lt_of_pos a2 (show (0 : Int) < (n : Int) by omega); omega
    obtain ⟨d, hd⟩ := Int.eq_ofNat_of_zero_le (Int.emod_nonneg a3 (show (2 * (n : Int) + 1) ≠ 0 by omega))
    have hd2 : d ≤ 2 * n := by have := Int.emod_lt_of_pos a3 (show (0 : Int) < 2 * (n : Int) + 1 by omega); omega
    have hm : a1 * (n : Int) = ((t * n : Nat) : Int) := by rw [ht]; simp
    have hm2 : t * n ≤ 274877906944 := Nat.le_trans (Nat.mul_le_mul ht2 n2) (by omega)
    exact a_main a0 a1 a2 a3 x4 l4 c4 x5 l5 c5 n k (t * n) ti d (t * n + ti) w (by omega) (by omega) b0 b1 b2 b3 hn n1 n2 hk hm hm2 hti hti2 hd hd2 (by simp)
      ⟨hk.k6, n1, n2, hk.nk, hd2, lap_le (t * n) ti n (t * n + ti) n1 t ht2 rfl hti2 rfl⟩ s4 s5

end Go.Proofs.Ybulkecaq
