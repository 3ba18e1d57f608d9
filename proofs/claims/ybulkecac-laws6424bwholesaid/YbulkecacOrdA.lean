import Derived.Test.YbulkecacOrd
import Derived.Sort.Lot0
namespace Go.Proofs.Ybulkecac
open Go.RowKit Go.Sort
set_option linter.unusedSimpArgs false
set_option linter.unusedVariables false

set_option maxRecDepth 100000 in
set_option maxHeartbeats 4000000 in
/-- slices.reverseRangeOrdered at int32: it permutes [a, b). -/
theorem reverse_ (w0 : World) (blk off cap a b : Nat) (d : Array Int) (w : World) (S : SI w0 blk off d w) (hab : a ≤ b) (hb : b ≤ d.size) (hsz : d.size < 4611686018427387904) :
    Calls Yba.prog 31 #[.slice (some ⟨blk, off, none⟩) d.size cap, .int .i64 a, .int .i64 b] w fun e w' =>
      e = .returned (.tuple #[]) ∧ ∃ d', PermIn a b d d' ∧ SI w0 blk off d' w' := by
  have S0 : Hid (SI w0 blk off d w) := S
  clear S
  go_enter Yba.func31, Yba.ntmps31
  go_wp2_with fail
  go_loopg [6, 7] (b - a) (fun g vi vj wr => ∃ (i : Nat) (j : Int) (dk : Array Int), vi = .int .i64 i ∧ vj = .int .i64 j ∧ a ≤ i ∧ i ≤ b ∧ j < b ∧ (i : Int) ≤ j + 2 ∧ j - i < g ∧ dk.size = d.size ∧ Hid (PermIn a b d dk) ∧ Hid (SI w0 blk off dk wr))
  case atStart => exact ⟨a, (b : Int) - 1, d, rfl, by go_num, by omega, by omega, by omega, by omega, by omega, rfl, permIn_refl _ _ _, S0⟩
  case round =>
    clear S0
    obtain ⟨i, j, dk, rfl, rfl, hai, hib, hjb, hij, hg, hsk, HP, S1⟩ := hrel
    by_cases hlt : (i : Int) < j
    · obtain ⟨jn, rfl⟩ : ∃ q : Nat, j = (q : Int) := ⟨j.toNat, by omega⟩
      have bi : (i : Int) < (d.size : Int) := by omega
      have bj : (jn : Int) < (d.size : Int) := by omega
      obtain ⟨x, hx⟩ : ∃ x, x = dk[i]! := ⟨_, rfl⟩
      obtain ⟨y, hy⟩ : ∃ x, x = dk[jn]! := ⟨_, rfl⟩
      have c1 := S1.out.cell i (by omega)
      have c2 := S1.out.cell jn (by omega)
      have f1 := S1.out.froz i (by omega)
      have f2 := S1.out.froz jn (by omega)
      obtain ⟨u, c3⟩ := S1.out.cell2 i jn (by omega) (by omega) (.int .i32 y)
      have S2 := S1.out.swap i jn (by omega) (by omega)
      rw [← hx] at c1 S2
      rw [← hy] at c2 S2
      have S3 : Hid _ := S2
      clear S2 hx hy S1
      go_wp2_with fail
      go_big_region
      have S4 : Hid (SI w0 blk off (swp dk i jn) _) := S3.out.drew
      clear S3 c1 c2 c3 f1 f2
      generalize World.drew _ = w2 at S4 ⊢
      go_wp2
      go_roundg (gk - 1)
      case measure => omega
      case rel => exact ⟨i + 1, (jn : Int) - 1, swp dk i jn, by go_num, by go_num, by omega, by omega, by omega, by omega, by omega, by rw [size_swp]; exact hsk, permIn_trans _ _ _ _ _ HP.out (swp_permIn dk a b i jn (by omega) (by omega) (by omega) (by omega) (by omega)), S4⟩
    · go_wp2
      go_end0
      exact ⟨rfl, dk, HP.out, S1.out⟩
end Go.Proofs.Ybulkecac
