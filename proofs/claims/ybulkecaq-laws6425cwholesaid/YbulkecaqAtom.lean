import Derived.Test.YbulkecaqComm
import Derived.Laws.LoneSync
import Derived.Deep.Cut
import Derived.Deep.QuietTactic
import Derived.BigQuiet
namespace Go.Proofs.Ybulkecaq
open Go.RowKit Go.Conc
set_option linter.unusedSimpArgs false
set_option linter.unusedVariables false

theorem own : ownKnob Yba.prog.godebug = none := by kernel_rfl
theorem laidOut : laidOutB Yba.prog = true := by kernel_rfl

theorem find16 : Extern.find Yba.f16 = some Extern.Atomic.storeT := by kernel_rfl
theorem find22 : Extern.find Yba.f22 = some (Extern.Atomic.loadT (.int .u64)) := by kernel_rfl
theorem find28 : Extern.find Yba.f28 = some (Extern.Atomic.casT (.int .u64)) := by kernel_rfl

theorem st64 (w : World) (a : Addr) (y : Int) (u : Value) (hc : w.cell? a = some u) (hz : w.frozen? a = false) :
    (callFunc 16 #[.pointer (some a), .int .u64 y]).run Yba.prog w = .ok (.value (.tuple #[])) (w.setCell a (.int .u64 y)) :=
  run_call_store Yba.func16 (by kernel_rfl) (by kernel_rfl) (by kernel_rfl) find16 hc hz
theorem ld64 (w : World) (a : Addr) (x : Int) (hc : w.cell? a = some (.int .u64 x)) :
    (callFunc 22 #[.pointer (some a)]).run Yba.prog w = .ok (.value (.int .u64 x)) w :=
  run_call_load Yba.func22 (by kernel_rfl) (by kernel_rfl) (by kernel_rfl) .u64 find22 hc
theorem cas64 (w : World) (a : Addr) (x y : Int) (hc : w.cell? a = some (.int .u64 x)) (hz : w.frozen? a = false) :
    (callFunc 28 #[.pointer (some a), .int .u64 x, .int .u64 y]).run Yba.prog w = .ok (.value (.bool true)) (w.setCell a (.int .u64 y)) :=
  run_call_cas_hit Yba.func28 (by kernel_rfl) (by kernel_rfl) (by kernel_rfl) .u64 find28 hc hz
theorem cas64_no (w : World) (a : Addr) (x o y : Int) (hc : w.cell? a = some (.int .u64 x)) (hz : w.frozen? a = false) (hne : ¬ x = o) :
    (callFunc 28 #[.pointer (some a), .int .u64 o, .int .u64 y]).run Yba.prog w = .ok (.value (.bool false)) w :=
  run_call_cas_miss Yba.func28 (by kernel_rfl) (by kernel_rfl) (by kernel_rfl) .u64 find28 hc hz hne

set_option maxHeartbeats 400000 in
set_option maxRecDepth 100000 in
theorem store_u (b o : Nat) (y : Int) (u : Value) (w : World) (hc : w.cell? ⟨b, o, none⟩ = some u) (hz : w.frozen? ⟨b, o, none⟩ = false) :
    Calls Yba.prog 7 #[.pointer (some ⟨b, o, none⟩), .int .u64 y] w fun e w' => e = .returned (.tuple #[]) ∧ w' = w.setCell ⟨b, o, none⟩ (.int .u64 y) := by
  have h := st64 w ⟨b, o, none⟩ y u hc hz
  go_enter Yba.func7, Yba.ntmps7
  go_wp2
  go_end0
  exact ⟨rfl, rfl⟩

set_option maxHeartbeats 400000 in
set_option maxRecDepth 100000 in
theorem load_u (b o : Nat) (x : Int) (w : World) (hc : w.cell? ⟨b, o, none⟩ = some (.int .u64 x)) :
    Calls Yba.prog 9 #[.pointer (some ⟨b, o, none⟩)] w fun e w' => e = .returned (.int .u64 x) ∧ w' = w := by
  have h := ld64 w ⟨b, o, none⟩ x hc
  go_enter Yba.func9, Yba.ntmps9
  go_wp2
  go_ret
  exact ⟨rfl, rfl⟩

set_option maxHeartbeats 400000 in
set_option maxRecDepth 100000 in
theorem cas_u (b o : Nat) (x y : Int) (w : World) (hc : w.cell? ⟨b, o, none⟩ = some (.int .u64 x)) (hz : w.frozen? ⟨b, o, none⟩ = false) :
    Calls Yba.prog 20 #[.pointer (some ⟨b, o, none⟩), .int .u64 x, .int .u64 y] w fun e w' => e = .returned (.bool true) ∧ w' = w.setCell ⟨b, o, none⟩ (.int .u64 y) := by
  have h := cas64 w ⟨b, o, none⟩ x y hc hz
  go_enter Yba.func20, Yba.ntmps20
  go_wp2
  go_ret
  exact ⟨rfl, rfl⟩

set_option maxHeartbeats 400000 in
set_option maxRecDepth 100000 in
theorem cas_u_no (b o : Nat) (x q y : Int) (w : World) (hc : w.cell? ⟨b, o, none⟩ = some (.int .u64 x)) (hz : w.frozen? ⟨b, o, none⟩ = false) (hne : ¬ x = q) :
    Calls Yba.prog 20 #[.pointer (some ⟨b, o, none⟩), .int .u64 q, .int .u64 y] w fun e w' => e = .returned (.bool false) ∧ w' = w := by
  have h := cas64_no w ⟨b, o, none⟩ x q y hc hz hne
  go_enter Yba.func20, Yba.ntmps20
  go_wp2
  go_ret
  exact ⟨rfl, rfl⟩

theorem or_join (k L I : Nat) (hI : I < 2 ^ k) (h : L * 2 ^ k + I < 18446744073709551616) : bits .or .u64 ((L * 2 ^ k : Nat) : Int) (I : Int) = ((L * 2 ^ k + I : Nat) : Int) := by
  rw [u64_or_nat _ _ (by omega) (by omega), nat_join k (L * 2 ^ k) I (by simp) hI]

theorem ret_int {k : IntKind} {a b : Int} (h : a = b) : Ending.returned (.int k a) = .returned (.int k b) := by rw [h]

set_option maxHeartbeats 1000000 in
set_option maxRecDepth 100000 in
theorem pos_any (q n k L I : Nat) (w : World) (hk : k ≤ 6) (hn : 1 ≤ n) (hL : (q : Int) / (n : Int) = (L : Int)) (hI : (q : Int) % (n : Int) = (I : Int)) (hL2 : L ≤ 8589934592) (hI2 : I < 2 ^ k) :
    Calls Yba.prog 6 #[.int .u64 (q : Int), .int .u64 (n : Int), .int .u64 (k : Int)] w fun e w' => e = .returned (.int .u64 ((L * 2 ^ k + I : Nat) : Int)) ∧ ∃ m, w' = w.drewN m := by
  have hnz : ((n : Int) == 0) = false := by simp; omega
  have hor := or_join k L I hI2
  have h64 : I < 64 := Nat.lt_of_lt_of_le hI2 (show 2 ^ k ≤ 2 ^ 6 from Nat.pow_le_pow_right (by omega) hk)
  rcases (by omega : k = 0 ∨ k = 1 ∨ k = 2 ∨ k = 3 ∨ k = 4 ∨ k = 5 ∨ k = 6) with rfl | rfl | rfl | rfl | rfl | rfl | rfl
  all_goals
    have hor' := hor (by omega)
    clear hor
    have HO : Hid _ := hor'
    clear hor' hI2
    go_enter Yba.func6, Yba.ntmps6
    go_wp2
    go_quiet (fail)
    go_wp2
    go_ret
    refine ⟨ret_int ?_, nq, rfl⟩
    have := HO.out
    simpa using this

end Go.Proofs.Ybulkecaq
