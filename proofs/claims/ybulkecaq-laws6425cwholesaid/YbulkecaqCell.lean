import Derived.Test.YbulkecaqLink
import Derived.Laws.Bits128
namespace Go.Proofs.Ybulkecaq
open Go.RowKit Go.Conc
set_option linter.unusedSimpArgs false
set_option linter.unusedVariables false

/-! ### the closed flag -/
def flag : Nat := 9223372036854775808
theorem fl_and (v : Nat) (h : v ≤ 4096) : bits .and .u64 (v : Int) 9223372036854775808 = 0 := by
  have := u64_and_nat v 9223372036854775808 (by omega) (by omega)
  rw [show (9223372036854775808 : Nat) = 2 ^ 63 from rfl, nat_bit 63 v, Nat.div_eq_of_lt (by omega)] at this
  simpa using this
theorem fl_and' (v : Nat) (h : v ≤ 4096) : bits .and .u64 ((v : Int) + 9223372036854775808) 9223372036854775808 = 9223372036854775808 := by
  have := u64_and_nat (v + 9223372036854775808) 9223372036854775808 (by omega) (by omega)
  have e : (v + 9223372036854775808) / 2 ^ 63 = 1 := by omega
  have e2 : (v + 9223372036854775808) &&& 9223372036854775808 = 9223372036854775808 := by
    rw [show ((v + 9223372036854775808) &&& 9223372036854775808 : Nat) = (v + 9223372036854775808) &&& 2 ^ 63 from rfl, nat_bit 63, e]
  rw [e2] at this
  simpa using this
theorem fl_not (v : Nat) (h : v ≤ 4096) : bits .andNot .u64 (v : Int) 9223372036854775808 = (v : Int) := by
  have := u64_andNot_nat v 9223372036854775808 (by omega) (by omega)
  have e : v &&& (18446744073709551615 - 9223372036854775808) = v := by
    rw [show (18446744073709551615 - 9223372036854775808 : Nat) = 2 ^ 63 - 1 from rfl, Nat.and_two_pow_sub_one_eq_mod]
    omega
  rw [e] at this
  simpa using this
theorem fl_not' (v : Nat) (h : v ≤ 4096) : bits .andNot .u64 ((v : Int) + 9223372036854775808) 9223372036854775808 = (v : Int) := by
  have := u64_andNot_nat (v + 9223372036854775808) 9223372036854775808 (by omega) (by omega)
  have e : (v + 9223372036854775808) &&& (18446744073709551615 - 9223372036854775808) = v := by
    rw [show (18446744073709551615 - 9223372036854775808 : Nat) = 2 ^ 63 - 1 from rfl, Nat.and_two_pow_sub_one_eq_mod]
    omega
  rw [e] at this
  simpa using this
theorem fl_or (v : Nat) (h : v ≤ 4096) : bits .or .u64 (v : Int) 9223372036854775808 = (v : Int) + 9223372036854775808 := by
  have := u64_or_nat v 9223372036854775808 (by omega) (by omega)
  have e : v ||| 9223372036854775808 = v + 9223372036854775808 := by
    rw [Nat.or_comm, nat_join 63 9223372036854775808 v (by decide) (by omega)]
    omega
  rw [e] at this
  simpa using this
theorem and1023 (a : Int) (h0 : 0 ≤ a) (h1 : a < 18446744073709551616) : bits .and .u64 a 1023 = ((a.toNat % 1024 : Nat) : Int) := by
  obtain ⟨n, rfl⟩ := Int.eq_ofNat_of_zero_le h0
  have := u64_and_nat n 1023 (by omega) (by omega)
  rw [nat_mask10] at this
  simpa using this
theorem i64_and7 (n : Int) : bits .and .i64 n 7 = n % 8 := by
  have h127 : (BitVec.ofInt 64 7).toNat = 2 ^ 3 - 1 := by decide
  have key : (BitVec.ofInt 64 n &&& BitVec.ofInt 64 7).toNat = (n % ((2 ^ 64 : Nat) : Int)).toNat % 2 ^ 3 := by
    rw [BitVec.toNat_and, BitVec.toNat_ofInt, h127, Nat.and_two_pow_sub_one_eq_mod]
  show IntKind.i64.wrap ((BitVec.ofInt 64 n &&& BitVec.ofInt 64 7).toNat : Nat) = n % 8
  rw [key, IntKind.wrap_i64]
  omega

/-! ### the chain seen from side s: its hint g, the other's o; its counter, theirs -/
def Chs (w0 : World) (N nb T s g o : Nat) (mine theirs : Int) (w : World) : Prop :=
  (s = 0 ∧ Chn w0 N nb T g o mine theirs w) ∨ (s = 1 ∧ Chn w0 N nb T o g theirs mine w)

theorem Chs.any {w0 : World} {N nb T s g o : Nat} {mine theirs : Int} {w : World} (h : Chs w0 N nb T s g o mine theirs w) : ∃ h0 h1 t h, Chn w0 N nb T h0 h1 t h w := by
  rcases h with ⟨rfl, h⟩ | ⟨rfl, h⟩ <;> exact ⟨_, _, _, _, h⟩
theorem Chs.le2 {w0 : World} {N nb T s g o : Nat} {mine theirs : Int} {w : World} (h : Chs w0 N nb T s g o mine theirs w) : s < 2 := by
  rcases h with ⟨rfl, h⟩ | ⟨rfl, h⟩ <;> omega
theorem Chs.gT {w0 : World} {N nb T s g o : Nat} {mine theirs : Int} {w : World} (h : Chs w0 N nb T s g o mine theirs w) : g < T := by
  rcases h with ⟨rfl, h⟩ | ⟨rfl, h⟩
  · exact h.h0T
  · exact h.h1T
theorem Chs.nbT {w0 : World} {N nb T s g o : Nat} {mine theirs : Int} {w : World} (h : Chs w0 N nb T s g o mine theirs w) : nb ≤ T := by
  obtain ⟨_, _, _, _, k⟩ := h.any; exact k.le
theorem Chs.drewN {w0 : World} {N nb T s g o : Nat} {mine theirs : Int} {w : World} (h : Chs w0 N nb T s g o mine theirs w) (m : Nat) : Chs w0 N nb T s g o mine theirs (w.drewN m) := by
  rcases h with ⟨rfl, h⟩ | ⟨rfl, h⟩
  · exact Or.inl ⟨rfl, h.drewN m⟩
  · exact Or.inr ⟨rfl, h.drewN m⟩
theorem Chs.seg {w0 : World} {N nb T s g o : Nat} {mine theirs : Int} {w : World} (h : Chs w0 N nb T s g o mine theirs w) (k : Nat) (hk : k < T) : Seg w (sb N nb k) (st k) (cb N nb k) (ln k) (nx N nb T k) := by
  obtain ⟨_, _, _, _, h⟩ := h.any; exact h.seg k hk
theorem Chs.isSeg {w0 : World} {N nb T s g o : Nat} {mine theirs : Int} {w : World} (h : Chs w0 N nb T s g o mine theirs w) (k : Nat) (hk : k < T) : SegP w (sp N nb k) := by
  obtain ⟨_, _, _, _, h⟩ := h.any; exact h.isSeg k hk
theorem Chs.hint {w0 : World} {N nb T s g o : Nat} {mine theirs : Int} {w : World} (h : Chs w0 N nb T s g o mine theirs w) : w.cell? ⟨N + 1 + 2 * nb, s, none⟩ = some (.pointer (sp N nb g)) ∧ w.frozen? ⟨N + 1 + 2 * nb, s, none⟩ = false := by
  rcases h with ⟨rfl, h⟩ | ⟨rfl, h⟩
  · exact ⟨h.ch.cells.1, h.ch.fz 0⟩
  · exact ⟨h.ch.cells.2.1, h.ch.fz 1⟩
theorem Chs.shift {w0 : World} {N nb T s g o : Nat} {mine theirs : Int} {w : World} (h : Chs w0 N nb T s g o mine theirs w) : w.cell? ⟨N + 1 + 2 * nb, 6, none⟩ = some (.int .u64 3) := by
  obtain ⟨_, _, _, _, h⟩ := h.any; exact h.ch.cells.2.2.2.2
theorem Chs.places {w0 : World} {N nb T s g o : Nat} {mine theirs : Int} {w : World} (h : Chs w0 N nb T s g o mine theirs w) : w.cell? ⟨N + 2 + 2 * nb, 194, none⟩ = some (.pointer (some ⟨N + 1 + 2 * nb, 0, none⟩)) := by
  obtain ⟨_, _, _, _, h⟩ := h.any; exact h.rv.cells.2.2
theorem Chs.setHint {w0 : World} {N nb T s g o : Nat} {mine theirs : Int} {w : World} (h : Chs w0 N nb T s g o mine theirs w) (j : Nat) (hj : j < T) : Chs w0 N nb T s j o mine theirs (w.setCell ⟨N + 1 + 2 * nb, s, none⟩ (.pointer (sp N nb j))) := by
  rcases h with ⟨rfl, h⟩ | ⟨rfl, h⟩
  · exact Or.inl ⟨rfl, h.set0 j hj⟩
  · exact Or.inr ⟨rfl, h.set1 j hj⟩
/-- where side s counts -/
def mo (s : Nat) : Nat := if s = 0 then 64 else 129
theorem Chs.mine {w0 : World} {N nb T s g o : Nat} {mine theirs : Int} {w : World} (h : Chs w0 N nb T s g o mine theirs w) : w.cell? ⟨N + 2 + 2 * nb, mo s, none⟩ = some (.int .u64 mine) ∧ w.frozen? ⟨N + 2 + 2 * nb, mo s, none⟩ = false := by
  rcases h with ⟨rfl, h⟩ | ⟨rfl, h⟩
  · exact ⟨h.rv.cells.1, h.rv.fz _⟩
  · exact ⟨h.rv.cells.2.1, h.rv.fz _⟩
theorem Chs.theirs {w0 : World} {N nb T s g o : Nat} {mine theirs : Int} {w : World} (h : Chs w0 N nb T s g o mine theirs w) : w.cell? ⟨N + 2 + 2 * nb, mo (1 - s), none⟩ = some (.int .u64 theirs) := by
  rcases h with ⟨rfl, h⟩ | ⟨rfl, h⟩
  · exact h.rv.cells.2.1
  · exact h.rv.cells.1
theorem Chs.setMine {w0 : World} {N nb T s g o : Nat} {mine theirs : Int} {w : World} (h : Chs w0 N nb T s g o mine theirs w) (y : Int) : Chs w0 N nb T s g o y theirs (w.setCell ⟨N + 2 + 2 * nb, mo s, none⟩ (.int .u64 y)) := by
  rcases h with ⟨rfl, h⟩ | ⟨rfl, h⟩
  · exact Or.inl ⟨rfl, h.setT y⟩
  · exact Or.inr ⟨rfl, h.setH y⟩

/-- next, either way -/
theorem next_any {w0 : World} {N nb T s g o : Nat} {mine theirs : Int} {w : World} (k : Chs w0 N nb T s g o mine theirs w) (i : Nat) (hi : i < T) (h5 : i + 1 ≤ 5) (C : Nat) (hC : N + 1 + 2 * nb = C) :
    Calls Yba.prog 30 #[.pointer (some ⟨C, 0, none⟩), .pointer (some ⟨sb N nb i, 0, none⟩)] w fun e w' => e = .returned (.pointer (some ⟨sb N nb (i + 1), 0, none⟩)) ∧ Chs w0 N nb (max T (i + 2)) s g o mine theirs w' := by
  by_cases h : i + 1 < T
  · obtain ⟨_, _, _, _, k'⟩ := k.any
    refine (next_more k' i h C).mono ?_
    rintro e w' ⟨rfl, rfl⟩
    refine ⟨rfl, ?_⟩
    rw [Nat.max_eq_left (by omega)]
    exact k
  · have hT : i + 1 = T := by omega
    rw [Nat.max_eq_right (by omega), hT]
    have e2 : i + 2 = T.succ := by omega
    rw [e2]
    rcases k with ⟨hs, k⟩ | ⟨hs, k⟩
    · refine (next_grow k i hT (by omega) C hC).mono ?_
      rintro e w' ⟨rfl, k'⟩
      exact ⟨rfl, Or.inl ⟨hs, k'⟩⟩
    · refine (next_grow k i hT (by omega) C hC).mono ?_
      rintro e w' ⟨rfl, k'⟩
      exact ⟨rfl, Or.inr ⟨hs, k'⟩⟩

theorem info86 : (Yba.prog.info? 91).isSome = true := by kernel_rfl
theorem neq70 (w : World) (a : Addr) : (binOp .neq 70 (.pointer (some a)) (.pointer (some a))).run Yba.prog w = .ok (.bool false) w := by
  obtain ⟨i, hi⟩ := Option.isSome_iff_exists.1 info78
  exact Lib.run_neq_ptr_same w a Yba.underlying70 hi
theorem neq86 (w : World) (a : Addr) : (binOp .neq 86 (.pointer (some a)) (.pointer (some a))).run Yba.prog w = .ok (.bool false) w := by
  obtain ⟨i, hi⟩ := Option.isSome_iff_exists.1 info86
  exact Lib.run_neq_ptr_same w a Yba.underlying86 hi
theorem size78 : (Yba.prog.info? 78).map (fun i => i.size) = some 135 := by kernel_rfl
theorem neq70' (w : World) (a b : Nat) (hab : a ≠ b) (ha : IsSeg w a) (hb : IsSeg w b) : (binOp .neq 70 (.pointer (some ⟨a, 0, none⟩)) (.pointer (some ⟨b, 0, none⟩))).run Yba.prog w = .ok (.bool true) w := by
  obtain ⟨i, hi, hs⟩ := Option.map_eq_some_iff.1 size78
  obtain ⟨A, hA, _⟩ := ha
  obtain ⟨B, hB, _⟩ := hb
  have h : ∀ d : Nat, (Op.equalIn (d + 1) 70 (.pointer (some ⟨a, 0, none⟩)) (.pointer (some ⟨b, 0, none⟩))).run Yba.prog w = .ok false w := fun d => by
    simp [Op.equalIn, run_underlying Yba.underlying70, sizeOf, typeInfo, hi, hs, run_sameAddr_other w (show (⟨a, 0, none⟩ : Addr) ≠ ⟨b, 0, none⟩ from fun e => hab (by injection e)) hA hB]
  simp only [binOp]
  simp [Op.equal, Op.maxDepth, h 9999]

end Go.Proofs.Ybulkecaq
