import Derived.Test.YbulkecaqCMain
import Derived.Test.YbulkecaqCMain1
namespace Go.Proofs.Ybulkecaq
open Go.RowKit Go.Conc
set_option linter.unusedSimpArgs false
set_option linter.unusedVariables false

theorem c_walk (a0 a1 : Int) (a2 a3 : Bool) (a4 a5 a6 a7 : Int) (a8 : Bool) (w : World) (b0 : 0 ≤ a0 ∧ a0 ≤ 18446744073709551615) (b1 : 0 ≤ a1 ∧ a1 ≤ 18446744073709551615) (b4 : 0 ≤ a4 ∧ a4 ≤ 255) (b5 : 0 ≤ a5 ∧ a5 ≤ 255) (b6 : 0 ≤ a6 ∧ a6 ≤ 255) (b7 : 0 ≤ a7 ∧ a7 ≤ 255) :
    Calls Yba.prog 5 #[.int .u64 a0, .int .u64 a1, .bool a2, .bool a3, .int .u8 a4, .int .u8 a5, .int .u8 a6, .int .u8 a7, .bool a8] w fun e w' => e = .returned (.bool true) ∧ Below w.heap.size w w' := by
  obtain ⟨nb, hnb⟩ := Int.eq_ofNat_of_zero_le (show 0 ≤ 1 + a4 % 6 by omega)
  have n1 : 1 ≤ nb := by omega
  have n6 : nb ≤ 6 := by omega
  obtain ⟨hs, hhs⟩ := Int.eq_ofNat_of_zero_le (Int.emod_nonneg a5 (show (nb : Int) ≠ 0 by omega))
  have hs2 : hs < nb := by have := Int.emod_lt_of_pos a5 (show (0 : Int) < (nb : Int) by omega); omega
  obtain ⟨hr, hhr⟩ := Int.eq_ofNat_of_zero_le (Int.emod_nonneg a6 (show (nb : Int) ≠ 0 by omega))
  have hr2 : hr < nb := by have := Int.emod_lt_of_pos a6 (show (0 : Int) < (nb : Int) by omega); omega
  rcases (by omega : a7 % 2 = 0 ∨ a7 % 2 = 1) with h7 | h7
  · exact c_main0 a0 a1 a2 a3 a4 a5 a6 a7 a8 nb hs hr (a0.toNat % 1024) (a1.toNat % 1024) w b4 b5 b6 b7 hnb n1 n6 hhs hs2 hhr hr2 h7 (and1023 a0 b0.1 (by omega)) (by omega) (and1023 a1 b1.1 (by omega)) (by omega)
  · exact c_main1 a0 a1 a2 a3 a4 a5 a6 a7 a8 nb hs hr (a0.toNat % 1024) (a1.toNat % 1024) w b4 b5 b6 b7 hnb n1 n6 hhs hs2 hhr hr2 h7 (and1023 a0 b0.1 (by omega)) (by omega) (and1023 a1 b1.1 (by omega)) (by omega)

end Go.Proofs.Ybulkecaq
