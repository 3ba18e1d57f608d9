import Derived.Test.YbulkecbsBase
import Derived.Deep.QuietTactic
import Derived.BigQuiet
namespace Go.Proofs.Ybulkecbs
open Go.RowKit
set_option linter.unusedSimpArgs false
set_option linter.unusedVariables false

set_option maxHeartbeats 4000000 in
set_option maxRecDepth 100000 in
theorem c_some (s : ByteArray) (u : Int) (x : Addr) (n cap : Nat) (bs : List Bool) (io : Int) (im : ByteArray) (le : Bool) (br ne : Int) (w : World) (hs : s.size ≤ 1048576) (hn : n ≤ 1048576)
    (hu0 : 0 ≤ u) (hu1 : u ≤ 18446744073709551615) (hT : BRow w.heap.size w (some x) n cap bs) :
    Calls Yba.prog 3 #[.string s, .int .u64 u, .slice (some x) n cap, .int .i64 io, .string im, .bool le, .int .i64 br, .int .i64 ne] w fun e w' => e = .returned (.bool true) ∧ Below w.heap.size w w' := by
  obtain ⟨off, hoff⟩ := Int.eq_ofNat_of_zero_le (Int.emod_nonneg u (show (s.size : Int) + 3 ≠ 0 by omega))
  have hol : off < s.size + 3 := by have := Int.emod_lt_of_pos u (show (0 : Int) < (s.size : Int) + 3 by omega); omega
  obtain ⟨E, hE⟩ := exists_end s _ off rfl
  have HE : Hid (IsEnd s off E) := hE
  have hEl := hE.le
  obtain ⟨hE1, hE2, hE3⟩ := hE
  have hmk := run_mk w n hn
  have hcp := run_cp w (some x) n cap bs hT
  have hC1 := row_copied w n bs hT.1
  have hA1 : Below w.heap.size w (w.alloc (.cells (copied bs) 4)) := (Below.refl _ _).alloc (Nat.le_refl _) _
  have hT1 := hT.below hA1
  have t1 : ¬ (1048576 : Int) < (s.size : Int) := by omega
  have t2 : ¬ (1048576 : Int) < (n : Int) := by omega
  go_enter Yba.func3, Yba.ntmps3
  go_wp2_with fail
  clear hmk hcp t1 t2 hoff hu0 hu1
  go_loop [20, 21] (fun n i => ∃ j : Nat, off ≤ j ∧ j ≤ E ∧ n = .int .i64 ((j : Int) - (off : Int)) ∧ i = .int .i64 (j : Int)) (fun _ i => E - (intOf i).toNat)
  case atStart => exact ⟨off, Nat.le_refl _, hE1, by simp, rfl⟩
  case round =>
    obtain ⟨j, hj1, hj2, rfl, rfl⟩ := hrel
    by_cases hlt : j < E
    · obtain ⟨hsz, d1, d2⟩ := hE2 j hj1 hlt
      clear hE2 hE3
      go_wp2_with fail
      go_round
      case rel => exact ⟨j + 1, by omega, by omega, by go_num, by go_num⟩
      case measure => simp [intOf]; omega
    · obtain rfl : j = E := by omega
      have hor : (¬ j < s.size) ∨ ∃ h : j < s.size, s[j].toNat < 48 ∨ 57 < s[j].toNat := by
        by_cases h : j < s.size
        · exact .inr ⟨h, hE3 h⟩
        · exact .inl h
      clear hE2 hE3
      rcases hor with hsz | ⟨hsz, hd | hd⟩
      all_goals
        go_wp2_with fail
        refine (digits_any (w.heap.size + 1) off j s _ hs (by omega) HE.out (by simp) (by simp) (by simp)).mono ?_
        rintro e w2 ⟨rfl, hB2, hC2, hf2, i, hi1, hi2, k1⟩
        obtain rfl : i = j := by omega
        have k0 := hC2 0 (by decide)
        have k2 := hC2 2 (by decide)
        have k3 := hC2 3 (by decide)
        have k4 := hC2 4 (by decide)
        have k5 := hC2 5 (by decide)
        have k6 := hC2 6 (by decide)
        have k7 := hC2 7 (by decide)
        have k8 := hC2 8 (by decide)
        simp at k0 k2 k3 k4 k5 k6 k7 k8
        have hA2 : Below (w.heap.size + 1) (w.alloc (.cells (copied bs) 4)) w2 := ((Below.refl _ _).alloc (by simp) _).trans hB2
        have hsz2 : w.heap.size + 1 < w2.heap.size := lt_of_cell k1
        clear hC2 hf2
        have hT2 := hT1.below (hA2.mono (Nat.le_succ _))
        have hC2 := hC1.below hA2
        have hg : gtB off i = decide ((0 : Int) < (i : Int) - (off : Int)) := by unfold gtB; congr 1; apply propext; omega
        rw [hg]
        clear hg
        have q3 : ((i : Int) != (off : Int) + ((i : Int) - (off : Int))) = false := by simp; omega
        have hsn := fun (w : World) (a : Option Addr) (n c n' c' : Nat) => Lib.run_eql_slice_nil (P := Yba.prog) w 23 4 a n c n' c' Yba.underlying23
        go_wp2_with fail
        go_loopw [24] (fun jv wr => ∃ m : Nat, m ≤ n ∧ jv = .int .i64 (m : Int) ∧ Below (w.heap.size + 2) w2 wr) (fun jv _ => n - (intOf jv).toNat)
        case atStart => exact ⟨0, Nat.zero_le _, rfl, Below.refl _ _⟩
        case round =>
          obtain ⟨m, hm, rfl, hBr⟩ := hrel
          by_cases hmn : m < n
          · obtain ⟨_, _, g3⟩ := hT2
            obtain ⟨bb, o', hx, hbb, hcc⟩ := g3 (by omega)
            obtain rfl : x = ⟨bb, o', none⟩ := by simpa using hx
            obtain ⟨_, _, g4⟩ := hC2
            obtain ⟨bb2, o2, hx2, hbb2, hcc2⟩ := g4 (by omega)
            obtain ⟨rfl, rfl⟩ : w.heap.size = bb2 ∧ 0 = o2 := by simpa using hx2
            have l1 := (hBr.cell (p := ⟨bb, o' + m, none⟩) (by show bb < _; omega)).trans (hcc m hmn)
            have l2 := (hBr.cell (p := ⟨w.heap.size, 0 + m, none⟩) (by show w.heap.size < _; omega)).trans (hcc2 m hmn)
            have l3 := (hBr.cell (p := ⟨w.heap.size + 1, 3, none⟩) (by show w.heap.size + 1 < _; omega)).trans k3
            rw [Nat.zero_add] at l2
            clear hcc hcc2 g3 g4 hx hx2
            go_wp2_with fail
            go_quiet (fail)
            go_wp2_with fail
            go_roundw
            case rel => exact ⟨m + 1, by omega, by go_num, below_drewN hBr nq⟩
            case measure => simp [intOf]; omega
          · go_wp2_with fail
            go_ret
            exact ⟨rfl, hA1.trans ((hA2.mono (Nat.le_succ _)).trans (hBr.mono (by omega)))⟩

set_option maxHeartbeats 4000000 in
set_option maxRecDepth 100000 in
theorem c_nil (s : ByteArray) (u : Int) (io : Int) (im : ByteArray) (le : Bool) (br ne : Int) (w : World) (hs : s.size ≤ 1048576) (hu0 : 0 ≤ u) (hu1 : u ≤ 18446744073709551615) :
    Calls Yba.prog 3 #[.string s, .int .u64 u, .slice none 0 0, .int .i64 io, .string im, .bool le, .int .i64 br, .int .i64 ne] w fun e w' => e = .returned (.bool true) ∧ Below w.heap.size w w' := by
  obtain ⟨off, hoff⟩ := Int.eq_ofNat_of_zero_le (Int.emod_nonneg u (show (s.size : Int) + 3 ≠ 0 by omega))
  have hol : off < s.size + 3 := by have := Int.emod_lt_of_pos u (show (0 : Int) < (s.size : Int) + 3 by omega); omega
  obtain ⟨E, hE⟩ := exists_end s _ off rfl
  have HE : Hid (IsEnd s off E) := hE
  have hEl := hE.le
  obtain ⟨hE1, hE2, hE3⟩ := hE
  have t1 : ¬ (1048576 : Int) < (s.size : Int) := by omega
  go_enter Yba.func3, Yba.ntmps3
  go_wp2_with fail
  clear t1 hoff hu0 hu1
  go_loop [20, 21] (fun n i => ∃ j : Nat, off ≤ j ∧ j ≤ E ∧ n = .int .i64 ((j : Int) - (off : Int)) ∧ i = .int .i64 (j : Int)) (fun _ i => E - (intOf i).toNat)
  case atStart => exact ⟨off, Nat.le_refl _, hE1, by simp, rfl⟩
  case round =>
    obtain ⟨j, hj1, hj2, rfl, rfl⟩ := hrel
    by_cases hlt : j < E
    · obtain ⟨hsz, d1, d2⟩ := hE2 j hj1 hlt
      clear hE2 hE3
      go_wp2_with fail
      go_round
      case rel => exact ⟨j + 1, by omega, by omega, by go_num, by go_num⟩
      case measure => simp [intOf]; omega
    · obtain rfl : j = E := by omega
      have hor : (¬ j < s.size) ∨ ∃ h : j < s.size, s[j].toNat < 48 ∨ 57 < s[j].toNat := by
        by_cases h : j < s.size
        · exact .inr ⟨h, hE3 h⟩
        · exact .inl h
      clear hE2 hE3
      rcases hor with hsz | ⟨hsz, hd | hd⟩
      all_goals
        go_wp2_with fail
        refine (digits_any w.heap.size off j s _ hs (by omega) HE.out (by simp) (by simp) (by simp)).mono ?_
        rintro e w2 ⟨rfl, hB2, hC2, hf2, i, hi1, hi2, k1⟩
        obtain rfl : i = j := by omega
        have k0 := hC2 0 (by decide)
        have k2 := hC2 2 (by decide)
        have k3 := hC2 3 (by decide)
        have k4 := hC2 4 (by decide)
        have k5 := hC2 5 (by decide)
        have k6 := hC2 6 (by decide)
        have k7 := hC2 7 (by decide)
        have k8 := hC2 8 (by decide)
        simp at k0 k2 k3 k4 k5 k6 k7 k8
        have hA2 : Below w.heap.size w w2 := ((Below.refl _ _).alloc (by simp) _).trans hB2
        clear hC2 hf2
        have hg : gtB off i = decide ((0 : Int) < (i : Int) - (off : Int)) := by unfold gtB; congr 1; apply propext; omega
        rw [hg]
        clear hg
        have q3 : ((i : Int) != (off : Int) + ((i : Int) - (off : Int))) = false := by simp; omega
        have hsn := fun (w : World) (a : Option Addr) (n c n' c' : Nat) => Lib.run_eql_slice_nil (P := Yba.prog) w 23 4 a n c n' c' Yba.underlying23
        go_wp2_with fail
        go_loopw [24] (fun jv wr => jv = .int .i64 0 ∧ wr = w2) (fun _ _ => 0)
        case atStart => exact ⟨rfl, rfl⟩
        case round =>
          obtain ⟨rfl, rfl⟩ := hrel
          go_wp2_with fail
          go_ret
          exact ⟨rfl, hA2⟩

set_option maxHeartbeats 400000 in
set_option maxRecDepth 100000 in
theorem c_far (s : ByteArray) (u : Int) (a : Option Addr) (n cap : Nat) (io : Int) (im : ByteArray) (le : Bool) (br ne : Int) (w : World) (h : 1048576 < s.size ∨ 1048576 < n) (hsm : s.size ≤ maxLen) (hnm : n ≤ maxLen) :
    Calls Yba.prog 3 #[.string s, .int .u64 u, .slice a n cap, .int .i64 io, .string im, .bool le, .int .i64 br, .int .i64 ne] w fun e w' => e = .returned (.bool true) ∧ Below w.heap.size w w' := by
  unfold maxLen at hsm hnm
  by_cases h6 : 1048576 < s.size
  · have t1 : (1048576 : Int) < (s.size : Int) := by omega
    clear h
    go_enter Yba.func3, Yba.ntmps3
    go_wp2_with fail
    go_ret
    exact ⟨rfl, Below.refl _ _⟩
  · have t1 : ¬ (1048576 : Int) < (s.size : Int) := by omega
    have t2 : (1048576 : Int) < (n : Int) := by omega
    clear h
    go_enter Yba.func3, Yba.ntmps3
    go_wp2_with fail
    go_ret
    exact ⟨rfl, Below.refl _ _⟩

end Go.Proofs.Ybulkecbs
