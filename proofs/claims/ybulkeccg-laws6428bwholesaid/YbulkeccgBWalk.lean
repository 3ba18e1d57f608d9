import Derived.Test.YbulkeccgRows
import Derived.WalkKit
import Derived.WalkSpells
import Derived.WalkLawsBesides
namespace Go.Proofs.Ybulkeccg
open Go.RowKit
set_option linter.unusedSimpArgs false
set_option linter.unusedVariables false

def mBehind : ByteArray := ⟨#[106, 111, 105, 110, 105, 110, 103, 58, 32, 105, 116, 115, 32, 114, 101, 112, 108, 105, 99, 97, 115, 32, 104, 101, 114, 101, 32, 104, 97, 118, 101, 32, 110, 111, 116, 32, 99, 97, 117, 103, 104, 116, 32, 117, 112, 32, 119, 105, 116, 104, 32, 116, 104, 101, 32, 117, 112, 115, 116, 114, 101, 97, 109, 32, 115, 105, 110, 99, 101, 32, 116, 104, 101, 32, 115, 101, 114, 118, 101, 114, 32, 115, 116, 97, 114, 116, 101, 100]⟩
def mStep : ByteArray := ⟨#[106, 111, 105, 110, 105, 110, 103, 58, 32, 110, 111, 32, 115, 121, 110, 99, 32, 97, 99, 114, 111, 115, 115, 32, 116, 104, 101, 32, 110, 111, 100, 101, 115, 32, 104, 97, 115, 32, 98, 114, 111, 117, 103, 104, 116, 32, 105, 116, 115, 32, 114, 101, 112, 108, 105, 99, 97, 115, 32, 104, 101, 114, 101, 32, 105, 110, 32, 115, 116, 101, 112, 32, 119, 105, 116, 104, 32, 116, 104, 101, 32, 111, 116, 104, 101, 114, 32, 110, 111, 100, 101, 115, 39, 32, 121, 101, 116]⟩
def mIdle : ByteArray := ⟨#[110, 101, 105, 116, 104, 101, 114, 32, 115, 121, 110, 99, 101, 100, 32, 110, 111, 114, 32, 99, 104, 101, 99, 107, 101, 100, 32, 115, 105, 110, 99, 101, 32, 116, 104, 101, 32, 115, 101, 114, 118, 101, 114, 32, 115, 116, 97, 114, 116, 101, 100]⟩
def mFailed : ByteArray := ⟨#[105, 116, 115, 32, 108, 97, 115, 116, 32, 115, 121, 110, 99, 32, 111, 114, 32, 99, 104, 101, 99, 107, 32, 102, 97, 105, 108, 101, 100]⟩

/-- why a repository is not ready -/
def msg (j c : Bool) (s : ByteArray) : ByteArray :=
  if j = true then (if c = true then mStep else mBehind) else if (s.toList == [105, 100, 108, 101]) = true then mIdle else if (s.toList == [102, 97, 105, 108, 101, 100]) = true then mFailed else ⟨#[]⟩

theorem msg_tt (s : ByteArray) : msg true true s = mStep := rfl
theorem msg_tf (s : ByteArray) : msg true false s = mBehind := rfl
theorem msg_idle (c : Bool) (s : ByteArray) (h : (s.toList == [105, 100, 108, 101]) = true) : msg false c s = mIdle := by unfold msg; rw [if_neg (by simp), if_pos h]
theorem msg_failed (c : Bool) (s : ByteArray) (h : (s.toList == [105, 100, 108, 101]) = false) (h2 : (s.toList == [102, 97, 105, 108, 101, 100]) = true) : msg false c s = mFailed := by
  unfold msg; rw [if_neg (by simp), if_neg (by simp [h]), if_pos h2]
theorem msg_no (c : Bool) (s : ByteArray) (h : (s.toList == [105, 100, 108, 101]) = false) (h2 : (s.toList == [102, 97, 105, 108, 101, 100]) = false) : msg false c s = ⟨#[]⟩ := by
  unfold msg; rw [if_neg (by simp), if_neg (by simp [h]), if_neg (by simp [h2])]

theorem ret_str {a b : ByteArray} (h : a = b) : Ending.returned (.string a) = .returned (.string b) := by rw [h]

set_option maxHeartbeats 400000 in
set_option maxRecDepth 100000 in
theorem outcome_any (a : Int) (r : ByteArray) (w : World) (h0 : 0 ≤ a) (h1 : a ≤ 255) :
    Calls Yba.prog 4 #[.int .u8 a, .string r] w fun e w' => (∃ s, e = .returned (.string s)) ∧ w' = w := by
  go_enter Yba.func4, Yba.ntmps4
  go_wp2
  all_goals
    go_ret
    exact ⟨⟨_, rfl⟩, rfl⟩

set_option maxHeartbeats 400000 in
set_option maxRecDepth 100000 in
theorem model_any (j c : Bool) (s : ByteArray) (w : World) :
    Calls Yba.prog 6 #[.bool j, .bool c, .string s] w fun e w' => e = .returned (.string (msg j c s)) ∧ w' = w := by
  cases j
  · cases h1 : (s.toList == [105, 100, 108, 101])
    · cases h2 : (s.toList == [102, 97, 105, 108, 101, 100])
      · have HM : Hid (msg false c s = ⟨#[]⟩) := msg_no c s h1 h2
        go_enter Yba.func6, Yba.ntmps6
        go_wp2
        go_ret
        exact ⟨ret_str HM.out.symm, rfl⟩
      · have HM : Hid (msg false c s = mFailed) := msg_failed c s h1 h2
        go_enter Yba.func6, Yba.ntmps6
        go_wp2
        go_ret
        exact ⟨ret_str HM.out.symm, rfl⟩
    · have HM : Hid (msg false c s = mIdle) := msg_idle c s h1
      go_enter Yba.func6, Yba.ntmps6
      go_wp2
      go_ret
      exact ⟨ret_str HM.out.symm, rfl⟩
  · cases c
    · go_enter Yba.func6, Yba.ntmps6
      go_wp2
      go_ret
      exact ⟨ret_str (msg_tf s).symm, rfl⟩
    · go_enter Yba.func6, Yba.ntmps6
      go_wp2
      go_ret
      exact ⟨ret_str (msg_tt s).symm, rfl⟩

set_option maxHeartbeats 400000 in
set_option maxRecDepth 100000 in
theorem unready_any (b : Nat) (j c : Bool) (s : ByteArray) (w : World) (c4 : w.cell? ⟨b, 4, none⟩ = some (.bool j)) (c5 : w.cell? ⟨b, 5, none⟩ = some (.bool c)) (c16 : w.cell? ⟨b, 16, none⟩ = some (.string s)) :
    Calls Yba.prog 5 #[.pointer (some ⟨b, 0, none⟩)] w fun e w' => e = .returned (.string (msg j c s)) ∧ w' = w := by
  cases j
  · cases h1 : (s.toList == [105, 100, 108, 101])
    · cases h2 : (s.toList == [102, 97, 105, 108, 101, 100])
      · have HM : Hid (msg false c s = ⟨#[]⟩) := msg_no c s h1 h2
        go_enter Yba.func5, Yba.ntmps5
        go_wp2
        go_ret
        exact ⟨ret_str HM.out.symm, rfl⟩
      · have HM : Hid (msg false c s = mFailed) := msg_failed c s h1 h2
        go_enter Yba.func5, Yba.ntmps5
        go_wp2
        go_ret
        exact ⟨ret_str HM.out.symm, rfl⟩
    · have HM : Hid (msg false c s = mIdle) := msg_idle c s h1
      go_enter Yba.func5, Yba.ntmps5
      go_wp2
      go_ret
      exact ⟨ret_str HM.out.symm, rfl⟩
  · cases c
    · go_enter Yba.func5, Yba.ntmps5
      go_wp2
      go_ret
      exact ⟨ret_str (msg_tf s).symm, rfl⟩
    · go_enter Yba.func5, Yba.ntmps5
      go_wp2
      go_ret
      exact ⟨ret_str (msg_tt s).symm, rfl⟩

theorem neq_chan (w : World) : (binOp .neq 26 (.chan none) (.chan none)).run Yba.prog w = .ok (.bool false) w := by kernel_rfl

set_option maxHeartbeats 1000000 in
set_option maxRecDepth 100000 in
theorem law (a0 : Bool) (a1 : Bool) (a2 : Bool) (a3 : Bool) (a4 : Bool) (a5 : Int) (a6 : ByteArray) (a7 : ByteArray) (a8 : ByteArray) (a9 : ByteArray) (a10 : Int) (a11 : Int) (w : World) (h0 : 0 ≤ a5) (h1 : a5 ≤ 255) :
    Calls Yba.prog 3 #[.bool a0, .bool a1, .bool a2, .bool a3, .bool a4, .int .u8 a5, .string a6, .string a7, .string a8, .string a9, .int .i64 a10, .int .i64 a11] w fun e w' => e = .returned (.bool true) ∧ Grown w w' := by
  have hnc := neq_chan
  go_enter Yba.func3, Yba.ntmps3
  go_wp2_with fail
  refine (outcome_any _ _ _ h0 h1).mono ?_
  rintro e w1 ⟨⟨s, rfl⟩, hw1⟩
  subst hw1
  go_wp2_with fail
  refine (unready_any _ a0 a1 s _ (by simp) (by simp) (by simp)).mono ?_
  rintro e w2 ⟨rfl, hw2⟩
  subst hw2
  go_wp2_with fail
  refine (model_any _ _ _ _).mono ?_
  rintro e w3 ⟨rfl, hw3⟩
  subst hw3
  go_wp2_with fail
  go_ret
  exact ⟨rfl, by repeat (first | exact Grown.refl _ | apply Grown.drew | apply Grown.alloc)⟩
end Go.Proofs.Ybulkeccg
