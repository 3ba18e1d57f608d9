import Derived.Test.YbulkecacBase
import Derived.Deep.QuietTactic
import Derived.BigQuiet
namespace Go.Proofs.Ybulkecac
open Go.RowKit
set_option linter.unusedSimpArgs false
set_option linter.unusedVariables false

/-- what a slice of bytes below block b reads as -/
def Row (b : Nat) (w : World) (a : Option Addr) (len c : Nat) (ys : List Int) : Prop :=
  ys.length = len ∧ len ≤ c ∧ c ≤ 140737488351232 ∧ (a = none → c = 0) ∧ (0 < len → ∃ bb off, a = some ⟨bb, off, none⟩ ∧ bb < b ∧ ∀ i, i < len → w.cell? ⟨bb, off + i, none⟩ = some (.int .u8 (ys.getD i 0))) ∧ ∀ y ∈ ys, 0 ≤ y ∧ y ≤ 255

/-- the reader at block b -/
def RD (b : Nat) (sh : Bool) (ys : List Int) (w : World) : Prop :=
  w.cell? ⟨b, 1, none⟩ = some (.bool sh) ∧ w.frozen? ⟨b, 0, none⟩ = false ∧ w.frozen? ⟨b, 1, none⟩ = false ∧ ∃ a len c, w.cell? ⟨b, 0, none⟩ = some (.slice a len c) ∧ Row b w a len c ys

theorem Row.below {b : Nat} {w w' : World} {a : Option Addr} {len c : Nat} {ys : List Int} (h : Row b w a len c ys) (hb : Below b w w') : Row b w' a len c ys := by
  obtain ⟨h1, h2, h3, h4, h5, h6⟩ := h
  refine ⟨h1, h2, h3, h4, fun hp => ?_, h6⟩
  obtain ⟨bb, off, rfl, hlt, hc⟩ := h5 hp
  exact ⟨bb, off, rfl, hlt, fun i hi => by rw [hb.cell (p := ⟨bb, off + i, none⟩) hlt]; exact hc i hi⟩

theorem RD.below {b : Nat} {sh : Bool} {ys : List Int} {w w' : World} (h : RD b sh ys w) (hb : Below (b + 1) w w') : RD b sh ys w' := by
  obtain ⟨h1, f0, f1, a, len, c, h0, hr⟩ := h
  have e0 := hb.cell (p := ⟨b, 0, none⟩) (Nat.lt_succ_self b)
  have e1 := hb.cell (p := ⟨b, 1, none⟩) (Nat.lt_succ_self b)
  have g0 := hb.frozen (p := ⟨b, 0, none⟩) (Nat.lt_succ_self b)
  have g1 := hb.frozen (p := ⟨b, 1, none⟩) (Nat.lt_succ_self b)
  exact ⟨by rw [e1, h1], by rw [g0, f0], by rw [g1, f1], a, len, c, by rw [e0, h0], hr.below (hb.mono (Nat.le_succ b))⟩

theorem Row.drop {b : Nat} {w : World} {bb off len c : Nat} {ys : List Int} (h : Row b w (some ⟨bb, off, none⟩) len c ys) (k : Nat) (hk : k ≤ len) :
    Row b w (some ⟨bb, if k = c then off else off + k, none⟩) (len - k) (c - k) (ys.drop k) := by
  obtain ⟨h1, h2, h3, h4, h5, h6⟩ := h
  refine ⟨by simp; omega, by omega, by omega, by simp, fun hp => ?_, fun y hy => h6 y (List.mem_of_mem_drop hy)⟩
  obtain ⟨bb', off', e, hlt, hc⟩ := h5 (by omega)
  simp at e
  obtain ⟨rfl, rfl⟩ := e
  refine ⟨bb, off + k, by rw [if_neg (by omega)], hlt, fun i hi => ?_⟩
  have := hc (k + i) (by omega)
  simpa [List.getD, List.getElem?_drop, Nat.add_assoc] using this

theorem Row.take {b : Nat} {w : World} {bb off len c : Nat} {ys : List Int} (h : Row b w (some ⟨bb, off, none⟩) len c ys) (k : Nat) (hk : k ≤ len) :
    Row b w (some ⟨bb, off, none⟩) k c (ys.take k) := by
  obtain ⟨h1, h2, h3, h4, h5, h6⟩ := h
  refine ⟨by simp; omega, by omega, by omega, by simp, fun hp => ?_, fun y hy => h6 y (List.mem_of_mem_take hy)⟩
  obtain ⟨bb', off', e, hlt, hc⟩ := h5 (by omega)
  simp at e
  obtain ⟨rfl, rfl⟩ := e
  refine ⟨bb, off, rfl, hlt, fun i hi => ?_⟩
  have := hc i (by omega)
  simpa [List.getD, List.getElem?_take, hi] using this

theorem RD.short {b : Nat} {sh : Bool} {ys : List Int} {w : World} (h : RD b sh ys w) : RD b true ys (w.setCell ⟨b, 1, none⟩ (.bool true)) ∧ Below b w (w.setCell ⟨b, 1, none⟩ (.bool true)) := by
  obtain ⟨h1, f0, f1, a, len, c, h0, hr⟩ := h
  have hB : Below b w (w.setCell ⟨b, 1, none⟩ (.bool true)) := (Below.refl b w).setCell (p := ⟨b, 1, none⟩) (Nat.le_refl b) _
  refine ⟨⟨?_, ?_, ?_, a, len, c, ?_, hr.below hB⟩, hB⟩
  · exact World.cell?_setCell_same _ _ _ h1
  · simp [f0]
  · simp [f1]
  · exact (World.cell?_setCell_other w ⟨b, 1, none⟩ ⟨b, 0, none⟩ _ (by simp)).trans h0

theorem RD.data {b : Nat} {sh : Bool} {ys ys' : List Int} {w : World} {a : Option Addr} {len c : Nat} (h : RD b sh ys w) (hr' : Row b w a len c ys') :
    RD b sh ys' (w.setCell ⟨b, 0, none⟩ (.slice a len c)) ∧ Below b w (w.setCell ⟨b, 0, none⟩ (.slice a len c)) := by
  obtain ⟨h1, f0, f1, a0, len0, c0, h0, hr⟩ := h
  have hB : Below b w (w.setCell ⟨b, 0, none⟩ (.slice a len c)) := (Below.refl b w).setCell (p := ⟨b, 0, none⟩) (Nat.le_refl b) _
  refine ⟨⟨?_, ?_, ?_, a, len, c, ?_, hr'.below hB⟩, hB⟩
  · exact (World.cell?_setCell_other w ⟨b, 0, none⟩ ⟨b, 1, none⟩ _ (by simp)).trans h1
  · simp [f0]
  · simp [f1]
  · exact World.cell?_setCell_same _ _ _ h0

set_option maxHeartbeats 400000 in
set_option maxRecDepth 100000 in
theorem next_no0 (b : Nat) (a : Option Addr) (len c : Nat) (k : Nat) (sh : Bool) (w : World) (h1 : w.cell? ⟨b, 1, none⟩ = some (.bool sh)) (h0 : w.cell? ⟨b, 0, none⟩ = some (.slice a len c))
    (f1 : w.frozen? ⟨b, 1, none⟩ = false) (h : sh = true ∨ len < k) (hk : k ≤ 4294967295) (hl : len ≤ 140737488351232) :
    Calls Yba.prog 8 #[.pointer (some ⟨b, 0, none⟩), .int .u64 (k : Int)] w fun e w' => e = .returned (.slice none 0 0) ∧ w' = w.setCell ⟨b, 1, none⟩ (.bool true) := by
  cases sh
  · have hlt : (len : Int) < (k : Int) := by simp at h; omega
    clear h
    go_enter Yba.func8, Yba.ntmps8
    go_wp2
    go_ret
    exact ⟨rfl, rfl⟩
  · clear h
    go_enter Yba.func8, Yba.ntmps8
    go_wp2
    go_ret
    exact ⟨rfl, rfl⟩

set_option maxHeartbeats 400000 in
set_option maxRecDepth 100000 in
theorem next_pos0 (b : Nat) (bb off len c : Nat) (k : Nat) (w : World) (h1 : w.cell? ⟨b, 1, none⟩ = some (.bool false)) (h0 : w.cell? ⟨b, 0, none⟩ = some (.slice (some ⟨bb, off, none⟩) len c))
    (f0 : w.frozen? ⟨b, 0, none⟩ = false) (hkl : k ≤ len) (hlc : len ≤ c) (hl : len ≤ 140737488351232) :
    Calls Yba.prog 8 #[.pointer (some ⟨b, 0, none⟩), .int .u64 (k : Int)] w fun e w' => e = .returned (.slice (some ⟨bb, off, none⟩) k c) ∧ w' = w.setCell ⟨b, 0, none⟩ (.slice (some ⟨bb, if k = c then off else off + k, none⟩) (len - k) (c - k)) := by
  have hlt : ¬ (len : Int) < (k : Int) := by omega
  go_enter Yba.func8, Yba.ntmps8
  go_wp2
  all_goals
    go_ret
    exact ⟨rfl, rfl⟩

def ZPost (b c : Nat) (w : World) (e : Ending) (w' : World) : Prop := ∃ a' a'', e = .returned (.slice a'' 0 c) ∧ (a' = none → c = 0) ∧ (a'' = none → c = 0) ∧ w' = w.setCell ⟨b, 0, none⟩ (.slice a' 0 c)

set_option maxHeartbeats 400000 in
set_option maxRecDepth 100000 in
theorem next_zero0 (b : Nat) (a : Option Addr) (c : Nat) (w : World) (h1 : w.cell? ⟨b, 1, none⟩ = some (.bool false)) (h0 : w.cell? ⟨b, 0, none⟩ = some (.slice a 0 c))
    (f0 : w.frozen? ⟨b, 0, none⟩ = false) (hn : a = none → c = 0) (hc : c ≤ 140737488351232) :
    Calls Yba.prog 8 #[.pointer (some ⟨b, 0, none⟩), .int .u64 0] w fun e w' => ZPost b c w e w' := by
  cases a
  · obtain rfl := hn rfl
    go_enter Yba.func8, Yba.ntmps8
    go_wp2
    go_ret
    exact ⟨_, _, rfl, fun _ => rfl, fun _ => rfl, rfl⟩
  · go_enter Yba.func8, Yba.ntmps8
    go_wp2
    all_goals
      go_ret
      exact ⟨_, _, rfl, by simp, by simp, rfl⟩

theorem next_no (b k : Nat) (sh : Bool) (ys : List Int) (w : World) (h : RD b sh ys w) (hs : sh = true ∨ ys.length < k) (hk : k ≤ 4294967295) :
    Calls Yba.prog 8 #[.pointer (some ⟨b, 0, none⟩), .int .u64 (k : Int)] w fun e w' => e = .returned (.slice none 0 0) ∧ RD b true ys w' ∧ Below b w w' := by
  have hS := h.short
  obtain ⟨h1, f0, f1, a, len, c, h0, hr⟩ := h
  obtain ⟨g1, g2, g3, g4, g5, g6⟩ := hr
  refine (next_no0 b a len c k sh w h1 h0 f1 (by rcases hs with h | h; exact .inl h; exact .inr (by omega)) hk (by omega)).mono ?_
  rintro e w' ⟨rfl, rfl⟩
  exact ⟨rfl, hS⟩

theorem next_yes (b k : Nat) (ys : List Int) (w : World) (h : RD b false ys w) (hs : k ≤ ys.length) :
    Calls Yba.prog 8 #[.pointer (some ⟨b, 0, none⟩), .int .u64 (k : Int)] w fun e w' => (∃ a c, e = .returned (.slice a k c) ∧ Row b w' a k c (ys.take k)) ∧ RD b false (ys.drop k) w' ∧ Below b w w' := by
  have hR := h
  obtain ⟨h1, f0, f1, a, len, c, h0, hr⟩ := h
  have hr0 := hr
  obtain ⟨g1, g2, g3, g4, g5, g6⟩ := hr
  rcases Nat.eq_zero_or_pos len with hz | hp
  · subst hz
    obtain rfl : k = 0 := by omega
    refine (next_zero0 b a c w h1 h0 f0 g4 g3).mono ?_
    rintro e w' ⟨a', a'', rfl, p1, p2, rfl⟩
    have hy : ys = [] := List.eq_nil_of_length_eq_zero g1
    subst hy
    have := hR.data (a := a') (len := 0) (c := c) (ys' := []) ⟨rfl, by omega, g3, p1, fun h => by omega, fun y hy => by cases hy⟩
    exact ⟨⟨a'', c, rfl, rfl, by omega, g3, p2, fun h => by omega, fun y hy => by cases hy⟩, this⟩
  · obtain ⟨bb, off, rfl, hlt, hc⟩ := g5 hp
    refine (next_pos0 b bb off len c k w h1 h0 f0 (by omega) g2 (by omega)).mono ?_
    rintro e w' ⟨rfl, rfl⟩
    have := hR.data (hr0.drop k (by omega))
    exact ⟨⟨_, _, rfl, (hr0.take k (by omega)).below this.2⟩, this⟩

end Go.Proofs.Ybulkecac
