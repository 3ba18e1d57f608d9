import Derived.Test.YbulkecacSWalk
namespace Go.Proofs.Ybulkecac
open Go.RowKit
set_option linter.unusedSimpArgs false
set_option linter.unusedVariables false

def be4 (y0 y1 y2 y3 : Int) : Int := y0 * 16777216 + y1 * 65536 + y2 * 256 + y3

theorem be4_bd (y0 y1 y2 y3 : Int) (h0 : 0 ≤ y0 ∧ y0 ≤ 255) (h1 : 0 ≤ y1 ∧ y1 ≤ 255) (h2 : 0 ≤ y2 ∧ y2 ≤ 255) (h3 : 0 ≤ y3 ∧ y3 ≤ 255) : 0 ≤ be4 y0 y1 y2 y3 ∧ be4 y0 y1 y2 y3 ≤ 4294967295 := by
  unfold be4; omega

theorem ret_int {k : IntKind} {a b : Int} (h : a = b) : Ending.returned (.int k a) = .returned (.int k b) := by rw [h]

theorem be32 (y0 y1 y2 y3 : Int) (h0 : 0 ≤ y0 ∧ y0 ≤ 255) (h1 : 0 ≤ y1 ∧ y1 ≤ 255) (h2 : 0 ≤ y2 ∧ y2 ≤ 255) (h3 : 0 ≤ y3 ∧ y3 ≤ 255) :
    bits .or .u32 (bits .or .u32 (bits .or .u32 y3 (y2 * 256)) (y1 * 65536)) (y0 * 16777216) = be4 y0 y1 y2 y3 := by
  obtain ⟨m0, rfl⟩ := Int.eq_ofNat_of_zero_le h0.1
  obtain ⟨m1, rfl⟩ := Int.eq_ofNat_of_zero_le h1.1
  obtain ⟨m2, rfl⟩ := Int.eq_ofNat_of_zero_le h2.1
  obtain ⟨m3, rfl⟩ := Int.eq_ofNat_of_zero_le h3.1
  have e2 : ((m2 : Int) * 256) = ((m2 * 256 : Nat) : Int) := by simp
  have e1 : ((m1 : Int) * 65536) = ((m1 * 65536 : Nat) : Int) := by simp
  have e0 : ((m0 : Int) * 16777216) = ((m0 * 16777216 : Nat) : Int) := by simp
  rw [e2, e1, e0, u32_or_nat _ _ (by omega) (by omega), Nat.or_comm, nat_join 8 (m2 * 256) m3 (by omega) (by omega),
    u32_or_nat _ _ (by omega) (by omega), Nat.or_comm, nat_join 16 (m1 * 65536) _ (by omega) (by omega),
    u32_or_nat _ _ (by omega) (by omega), Nat.or_comm, nat_join 24 (m0 * 16777216) _ (by omega) (by omega)]
  unfold be4
  omega

theorem be64 (y0 y1 y2 y3 : Int) (h0 : 0 ≤ y0 ∧ y0 ≤ 255) (h1 : 0 ≤ y1 ∧ y1 ≤ 255) (h2 : 0 ≤ y2 ∧ y2 ≤ 255) (h3 : 0 ≤ y3 ∧ y3 ≤ 255) :
    bits .or .u64 (bits .or .u64 (bits .or .u64 (y0 * 16777216) (y1 * 65536)) (y2 * 256)) y3 = be4 y0 y1 y2 y3 := by
  obtain ⟨m0, rfl⟩ := Int.eq_ofNat_of_zero_le h0.1
  obtain ⟨m1, rfl⟩ := Int.eq_ofNat_of_zero_le h1.1
  obtain ⟨m2, rfl⟩ := Int.eq_ofNat_of_zero_le h2.1
  obtain ⟨m3, rfl⟩ := Int.eq_ofNat_of_zero_le h3.1
  have e2 : ((m2 : Int) * 256) = ((m2 * 256 : Nat) : Int) := by simp
  have e1 : ((m1 : Int) * 65536) = ((m1 * 65536 : Nat) : Int) := by simp
  have e0 : ((m0 : Int) * 16777216) = ((m0 * 16777216 : Nat) : Int) := by simp
  rw [e2, e1, e0, u64_or_nat _ _ (by omega) (by omega), nat_join 24 (m0 * 16777216) _ (by omega) (by omega),
    u64_or_nat _ _ (by omega) (by omega), nat_join 16 (m0 * 16777216 + m1 * 65536) _ (by omega) (by omega),
    u64_or_nat _ _ (by omega) (by omega), nat_join 8 (m0 * 16777216 + m1 * 65536 + m2 * 256) m3 (by omega) (by omega)]
  unfold be4
  omega

set_option maxHeartbeats 400000 in
set_option maxRecDepth 100000 in
theorem U32 (bb off c : Nat) (y0 y1 y2 y3 : Int) (w : World) (h0 : 0 ≤ y0 ∧ y0 ≤ 255) (h1 : 0 ≤ y1 ∧ y1 ≤ 255) (h2 : 0 ≤ y2 ∧ y2 ≤ 255) (h3 : 0 ≤ y3 ∧ y3 ≤ 255) (hlt : bb < w.heap.size)
    (c0 : w.cell? ⟨bb, off, none⟩ = some (.int .u8 y0)) (c1 : w.cell? ⟨bb, off + 1, none⟩ = some (.int .u8 y1)) (c2 : w.cell? ⟨bb, off + 2, none⟩ = some (.int .u8 y2)) (c3 : w.cell? ⟨bb, off + 3, none⟩ = some (.int .u8 y3)) :
    Calls Yba.prog 17 #[.agg #[], .slice (some ⟨bb, off, none⟩) 4 c] w fun e w' => e = .returned (.int .u32 (be4 y0 y1 y2 y3)) ∧ Below w.heap.size w w' := by
  go_enter Yba.func17, Yba.ntmps17
  go_wp2
  go_quiet (fail)
  go_wp2
  go_ret
  exact ⟨ret_int (be32 _ _ _ _ h0 h1 h2 h3), below_drewN ((Below.refl _ _).alloc (Nat.le_refl _) _) nq⟩

set_option maxHeartbeats 400000 in
set_option maxRecDepth 100000 in
theorem abe (bb off n c : Nat) (p : Nat) (y0 y1 y2 y3 : Int) (w : World) (h0 : 0 ≤ y0 ∧ y0 ≤ 255) (h1 : 0 ≤ y1 ∧ y1 ≤ 255) (h2 : 0 ≤ y2 ∧ y2 ≤ 255) (h3 : 0 ≤ y3 ∧ y3 ≤ 255) (hp : p + 4 ≤ n) (hn : n ≤ 1048576)
    (c0 : w.cell? ⟨bb, off + p, none⟩ = some (.int .u8 y0)) (c1 : w.cell? ⟨bb, off + (p + 1), none⟩ = some (.int .u8 y1)) (c2 : w.cell? ⟨bb, off + (p + 2), none⟩ = some (.int .u8 y2)) (c3 : w.cell? ⟨bb, off + (p + 3), none⟩ = some (.int .u8 y3)) :
    Calls Yba.prog 11 #[.slice (some ⟨bb, off, none⟩) n c, .int .i64 (p : Int)] w fun e w' => e = .returned (.int .u64 (be4 y0 y1 y2 y3)) ∧ ∃ m, w' = w.drewN m := by
  go_enter Yba.func11, Yba.ntmps11
  go_wp2
  go_quiet (fail)
  go_wp2
  go_ret
  exact ⟨ret_int (be64 _ _ _ _ h0 h1 h2 h3), nq, rfl⟩

def beOf (ys : List Int) : Int := be4 (ys.getD 0 0) (ys.getD 1 0) (ys.getD 2 0) (ys.getD 3 0)

theorem getD_bd {ys : List Int} (h : ∀ y ∈ ys, 0 ≤ y ∧ y ≤ 255) (i : Nat) : 0 ≤ ys.getD i 0 ∧ ys.getD i 0 ≤ 255 := by
  rcases Nat.lt_or_ge i ys.length with hi | hi
  · rw [List.getD_eq_getElem?_getD, List.getElem?_eq_getElem hi]
    exact h _ (List.getElem_mem hi)
  · rw [List.getD_eq_getElem?_getD, List.getElem?_eq_none hi]
    simp

theorem beOf_bd {ys : List Int} (h : ∀ y ∈ ys, 0 ≤ y ∧ y ≤ 255) : 0 ≤ beOf ys ∧ beOf ys ≤ 4294967295 :=
  be4_bd _ _ _ _ (getD_bd h 0) (getD_bd h 1) (getD_bd h 2) (getD_bd h 3)

theorem RD.bd {b : Nat} {sh : Bool} {ys : List Int} {w : World} (h : RD b sh ys w) : ∀ y ∈ ys, 0 ≤ y ∧ y ≤ 255 := by
  obtain ⟨h1, f0, f1, a, len, c, h0, hr⟩ := h
  exact hr.2.2.2.2.2

theorem RD.lt {b : Nat} {sh : Bool} {ys : List Int} {w : World} (h : RD b sh ys w) : b < w.heap.size := lt_of_cell h.1

set_option maxHeartbeats 400000 in
set_option maxRecDepth 100000 in
theorem u32_yes (b : Nat) (ys : List Int) (w : World) (h : RD b false ys w) (hs : 4 ≤ ys.length) :
    Calls Yba.prog 9 #[.pointer (some ⟨b, 0, none⟩)] w fun e w' => e = .returned (.int .u32 (beOf ys)) ∧ RD b false (ys.drop 4) w' ∧ Below b w w' := by
  have hbd := h.bd
  go_enter Yba.func9, Yba.ntmps9
  go_wp2_with fail
  refine (next_yes b 4 ys w h hs).mono ?_
  rintro e w1 ⟨⟨a, c, rfl, hr⟩, hR, hB⟩
  have hc1 := hR.1
  go_wp2_with fail
  obtain ⟨r1, r2, r3, r4, r5, r6⟩ := hr
  obtain ⟨bb, off, rfl, hlt, hc⟩ := r5 (by omega)
  have k0 := hc 0 (by omega)
  have k1 := hc 1 (by omega)
  have k2 := hc 2 (by omega)
  have k3 := hc 3 (by omega)
  have e0 : (ys.take 4).getD 0 0 = ys.getD 0 0 := by simp [List.getD, List.getElem?_take]
  have e1 : (ys.take 4).getD 1 0 = ys.getD 1 0 := by simp [List.getD, List.getElem?_take]
  have e2 : (ys.take 4).getD 2 0 = ys.getD 2 0 := by simp [List.getD, List.getElem?_take]
  have e3 : (ys.take 4).getD 3 0 = ys.getD 3 0 := by simp [List.getD, List.getElem?_take]
  rw [e0] at k0; rw [e1] at k1; rw [e2] at k2; rw [e3] at k3
  refine (U32 bb off c _ _ _ _ w1 (getD_bd hbd 0) (getD_bd hbd 1) (getD_bd hbd 2) (getD_bd hbd 3) (by have := hR.lt; omega) k0 k1 k2 k3).mono ?_
  rintro e w2 ⟨rfl, hB2⟩
  have hl := hR.lt
  clear k0 k1 k2 k3 e0 e1 e2 e3 hc
  go_wp2_with fail
  go_ret
  exact ⟨rfl, hR.below (hB2.mono hl), hB.trans (hB2.mono (by omega))⟩

set_option maxHeartbeats 400000 in
set_option maxRecDepth 100000 in
theorem u32_no (b : Nat) (sh : Bool) (ys : List Int) (w : World) (h : RD b sh ys w) (hs : sh = true ∨ ys.length < 4) :
    Calls Yba.prog 9 #[.pointer (some ⟨b, 0, none⟩)] w fun e w' => e = .returned (.int .u32 0) ∧ RD b true ys w' ∧ Below b w w' := by
  go_enter Yba.func9, Yba.ntmps9
  go_wp2_with fail
  refine (next_no b 4 sh ys w h hs (by omega)).mono ?_
  rintro e w1 ⟨rfl, hR, hB⟩
  have hc1 := hR.1
  go_wp2_with fail
  go_ret
  exact ⟨rfl, hR, hB⟩

set_option maxHeartbeats 400000 in
set_option maxRecDepth 100000 in
theorem str_no (b : Nat) (sh : Bool) (ys : List Int) (w : World) (h : RD b sh ys w) (hs : sh = true ∨ ys.length < 4) :
    Calls Yba.prog 10 #[.pointer (some ⟨b, 0, none⟩)] w fun e w' => (∃ a n c, e = .returned (.slice a n c)) ∧ RD b true ys w' ∧ Below b w w' := by
  go_enter Yba.func10, Yba.ntmps10
  go_wp2_with fail
  refine (u32_no b sh ys w h hs).mono ?_
  rintro e w1 ⟨rfl, hR, hB⟩
  go_wp2_with fail
  refine (next_no b 0 true ys w1 hR (.inl rfl) (by omega)).mono ?_
  rintro e w2 ⟨rfl, hR2, hB2⟩
  go_wp2_with fail
  go_ret
  exact ⟨⟨_, _, _, rfl⟩, hR2, hB.trans hB2⟩

set_option maxHeartbeats 400000 in
set_option maxRecDepth 100000 in
theorem str_mid (b : Nat) (ys : List Int) (w : World) (h : RD b false ys w) (hs : 4 ≤ ys.length) (hv : ((ys.length - 4 : Nat) : Int) < beOf ys) :
    Calls Yba.prog 10 #[.pointer (some ⟨b, 0, none⟩)] w fun e w' => (∃ a n c, e = .returned (.slice a n c)) ∧ RD b true (ys.drop 4) w' ∧ Below b w w' := by
  obtain ⟨v0, v1⟩ := beOf_bd h.bd
  go_enter Yba.func10, Yba.ntmps10
  go_wp2_with fail
  refine (u32_yes b ys w h hs).mono ?_
  rintro e w1 ⟨rfl, hR, hB⟩
  go_wp2_with fail
  obtain ⟨k, hk⟩ := Int.eq_ofNat_of_zero_le v0
  rw [hk] at v1 hv
  rw [hk]
  refine (next_no b k false (ys.drop 4) w1 hR (.inr (by simp; omega)) (by omega)).mono ?_
  rintro e w2 ⟨rfl, hR2, hB2⟩
  clear hk
  go_wp2_with fail
  go_ret
  exact ⟨⟨_, _, _, rfl⟩, hR2, hB.trans hB2⟩

set_option maxHeartbeats 400000 in
set_option maxRecDepth 100000 in
theorem str_yes (b : Nat) (ys : List Int) (w : World) (h : RD b false ys w) (hs : 4 ≤ ys.length) (hv : beOf ys ≤ ((ys.length - 4 : Nat) : Int)) :
    Calls Yba.prog 10 #[.pointer (some ⟨b, 0, none⟩)] w fun e w' => (∃ a n c, e = .returned (.slice a n c)) ∧ RD b false (ys.drop (4 + (beOf ys).toNat)) w' ∧ Below b w w' := by
  obtain ⟨v0, v1⟩ := beOf_bd h.bd
  go_enter Yba.func10, Yba.ntmps10
  go_wp2_with fail
  refine (u32_yes b ys w h hs).mono ?_
  rintro e w1 ⟨rfl, hR, hB⟩
  go_wp2_with fail
  obtain ⟨k, hk⟩ := Int.eq_ofNat_of_zero_le v0
  rw [hk] at v1 hv
  have hR3 : Hid ((beOf ys).toNat = k) := show _ = _ by omega
  rw [hk]
  refine (next_yes b k (ys.drop 4) w1 hR (by simp; omega)).mono ?_
  rintro e w2 ⟨⟨a, c, rfl, hr⟩, hR2, hB2⟩
  clear hk
  rw [List.drop_drop] at hR2
  go_wp2_with fail
  go_ret
  exact ⟨⟨_, _, _, rfl⟩, by rw [hR3.out]; exact hR2, hB.trans hB2⟩

end Go.Proofs.Ybulkecac
