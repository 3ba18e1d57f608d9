import Derived.Test.YbulkecaqPtr
import Derived.Test.YbulkecaqABase
namespace Go.Proofs.Ybulkecaq
open Go.RowKit Go.Conc
set_option linter.unusedSimpArgs false
set_option linter.unusedVariables false

/-- what may be turned to the untyped pointer and back -/
def SegP (w : World) (p : Option Addr) : Prop := p = none ∨ ∃ b, p = some ⟨b, 0, none⟩ ∧ IsSeg w b

theorem SegP.to {w : World} {p : Option Addr} (h : SegP w p) : (convert 70 74 (.pointer p)).run Yba.prog w = .ok (.pointer p) w := by
  rcases h with rfl | ⟨b, rfl, h⟩
  · exact to74_nil w
  · exact to74 w b h
theorem SegP.from {w : World} {p : Option Addr} (h : SegP w p) : (convert 74 70 (.pointer p)).run Yba.prog w = .ok (.pointer p) w := by
  rcases h with rfl | ⟨b, rfl, h⟩
  · exact from74_nil w
  · exact from74 w b h

theorem IsSeg.setCell {w : World} {b : Nat} (h : IsSeg w b) (x i : Nat) (v : Value) : IsSeg (w.setCell ⟨x, i, none⟩ v) b := by
  obtain ⟨A, hA, hs⟩ := h
  by_cases e : b = x
  · subst e
    exact ⟨A.setIfInBounds i v, heap_setCell_same w b i A 78 v hA, by simp [hs]⟩
  · exact ⟨A, by rw [Below.heap_setCell w ⟨x, i, none⟩ v b e]; exact hA, hs⟩
theorem SegP.setCell {w : World} {p : Option Addr} (h : SegP w p) (x i : Nat) (v : Value) : SegP (w.setCell ⟨x, i, none⟩ v) p := by
  rcases h with rfl | ⟨b, rfl, h⟩
  · exact Or.inl rfl
  · exact Or.inr ⟨b, rfl, h.setCell x i v⟩
theorem SegP.nil (w : World) : SegP w none := Or.inl rfl
theorem SegP.at {w : World} {b : Nat} (h : IsSeg w b) : SegP w (some ⟨b, 0, none⟩) := Or.inr ⟨b, rfl, h⟩

set_option maxHeartbeats 400000 in
set_option maxRecDepth 100000 in
theorem store_p (b o : Nat) (p : Option Addr) (u : Value) (w : World) (hc : w.cell? ⟨b, o, none⟩ = some u) (hz : w.frozen? ⟨b, o, none⟩ = false) (hp : SegP w p) :
    Calls Yba.prog 12 #[.pointer (some ⟨b, o, none⟩), .pointer p] w fun e w' => e = .returned (.tuple #[]) ∧ w' = w.setCell ⟨b, o, none⟩ (.pointer p) := by
  have h := stP w ⟨b, o, none⟩ p u hc hz
  have h2 := hp.to
  go_enter Yba.func12, Yba.ntmps12
  go_wp2
  go_end0
  exact ⟨rfl, rfl⟩

set_option maxHeartbeats 400000 in
set_option maxRecDepth 100000 in
theorem load_p (b o : Nat) (p : Option Addr) (w : World) (hc : w.cell? ⟨b, o, none⟩ = some (.pointer p)) (hp : SegP w p) :
    Calls Yba.prog 15 #[.pointer (some ⟨b, o, none⟩)] w fun e w' => e = .returned (.pointer p) ∧ w' = w := by
  have h := ldP w ⟨b, o, none⟩ p hc
  have h2 := hp.from
  go_enter Yba.func15, Yba.ntmps15
  go_wp2
  go_ret
  exact ⟨rfl, rfl⟩

set_option maxHeartbeats 400000 in
set_option maxRecDepth 100000 in
theorem swap_p (b o : Nat) (p q : Option Addr) (w : World) (hc : w.cell? ⟨b, o, none⟩ = some (.pointer p)) (hz : w.frozen? ⟨b, o, none⟩ = false) (hp : SegP w p) (hq : SegP w q) :
    Calls Yba.prog 33 #[.pointer (some ⟨b, o, none⟩), .pointer q] w fun e w' => e = .returned (.pointer p) ∧ w' = w.setCell ⟨b, o, none⟩ (.pointer q) := by
  have h := swP w ⟨b, o, none⟩ p q hc hz
  have h2 := hq.to
  have h3 := (hp.setCell b o (.pointer q)).from
  go_enter Yba.func33, Yba.ntmps33
  go_wp2
  go_ret
  exact ⟨rfl, rfl⟩

set_option maxHeartbeats 400000 in
set_option maxRecDepth 100000 in
theorem cas_p (b o : Nat) (p q : Option Addr) (w : World) (hc : w.cell? ⟨b, o, none⟩ = some (.pointer p)) (hz : w.frozen? ⟨b, o, none⟩ = false) (hp : SegP w p) (hq : SegP w q) :
    Calls Yba.prog 31 #[.pointer (some ⟨b, o, none⟩), .pointer p, .pointer q] w fun e w' => e = .returned (.bool true) ∧ w' = w.setCell ⟨b, o, none⟩ (.pointer q) := by
  have h := casP w ⟨b, o, none⟩ p q hc hz
  have h2 := hq.to
  have h3 := hp.to
  go_enter Yba.func31, Yba.ntmps31
  go_wp2
  go_ret
  exact ⟨rfl, rfl⟩

end Go.Proofs.Ybulkecaq
