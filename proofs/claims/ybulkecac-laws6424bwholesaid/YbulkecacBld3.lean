import Derived.Test.YbulkecacBld2
namespace Go.Proofs.Ybulkecac
open Go.RowKit Go.Sort Go.Shelf
set_option linter.unusedSimpArgs false
set_option linter.unusedVariables false

/-- the tags behind an append to a row of tag t: one block of garbage, perhaps a new row -/
def tgA (tg : Nat → Nat) (H t : Nat) : Nat → Nat := fun b => if b < H then tg b else if b = H + 1 then t else 9
/-- .. behind new blocks, all of tag t -/
def tgN (tg : Nat → Nat) (H t : Nat) : Nat → Nat := fun b => if b < H then tg b else t

theorem tgA_old {tg : Nat → Nat} {H t b : Nat} (h : b < H) : tgA tg H t b = tg b := if_pos h
theorem tgN_old {tg : Nat → Nat} {H t b : Nat} (h : b < H) : tgN tg H t b = tg b := if_pos h
theorem tgA_new (tg : Nat → Nat) (H t : Nat) : tgA tg H t (H + 1) = t := by unfold tgA; rw [if_neg (by omega), if_pos rfl]
theorem tgN_new {tg : Nat → Nat} {H t b : Nat} (h : H ≤ b) : tgN tg H t b = t := if_neg (by omega)

section
variable {F : Nat} {tg : Nat → Nat} {t : Nat} {W W1 W2 : World}

theorem Stp.app {v : Value} {e : TypeId} {size n : Nat} {xs : List Value} (h : Rw tg t F e size v n xs W) (h1 : W.grownBy W1 none) (hg : W1.grownBy W2 v.ownBlock) : Stp F tg (tgA tg W.heap.size t) t W W2 :=
  ⟨v.ownBlock, ⟨hg.os.trans h1.os, hg.tape.trans h1.tape, hg.output.trans h1.output, Nat.le_trans h1.size hg.size, fun b hb hne => (hg.block b (Nat.lt_of_lt_of_le hb h1.size) hne).trans (h1.block b hb (by simp))⟩,
    fun b hb => ⟨(h.1.lt b hb).1, h.2 b hb⟩, fun b hb => tgA_old hb⟩

theorem Stp.new (t' t : Nat) (h : W.grownBy W1 none) : Stp F tg (tgN tg W.heap.size t') t W W1 := Stp.grown h (fun b hb => tgN_old hb)

theorem Rw.grow {e : TypeId} {size n gg c : Nat} {v : Value} {xs : List Value} (h : Rw tg t F e size v n xs W) (hat : v.ownBlock = some gg ∨ gg = W.heap.size + 1) {n' : Nat} {ys : List Value} (hr : W2.ownsRow F e size (.slice (some ⟨gg, 0, none⟩) n' c) n' ys) :
    Rw (tgA tg W.heap.size t) t F e size (.slice (some ⟨gg, 0, none⟩) n' c) n' ys W2 :=
  h.app hat hr (fun b hb => tgA_old hb) (tgA_new _ _ _)
end

theorem row_form {W : World} {B : Nat} {e : TypeId} {size n : Nat} {v : Value} {xs : List Value} (h : W.ownsRow B e size v n xs) : ∃ a c, v = .slice a n c := by
  rcases h.2 with ⟨h1, h2⟩ | ⟨g, cap, cur, h1, _⟩
  · exact ⟨none, 0, by rw [h1, h2]⟩
  · exact ⟨_, _, h1⟩

theorem Rw.ne {tg : Nat → Nat} {t F : Nat} {e : TypeId} {size n b : Nat} {v : Value} {xs : List Value} {W : World} (h : Rw tg t F e size v n xs W) (hb : b < F) : some b ≠ v.ownBlock := fun e' => by
  have := (h.1.lt b e'.symm).1; omega

theorem Rw.ne' {tg : Nat → Nat} {t F : Nat} {e : TypeId} {size n b : Nat} {v : Value} {xs : List Value} {W : World} (h : Rw tg t F e size v n xs W) (hb : tg b ≠ t) : some b ≠ v.ownBlock := fun e' => hb (h.2 b e'.symm)

theorem Rw.retag {tg tg' : Nat → Nat} {t F : Nat} {e : TypeId} {size n : Nat} {v : Value} {xs : List Value} {W : World} (h : Rw tg t F e size v n xs W) (ht : ∀ b, tg b = t → tg' b = t) : Rw tg' t F e size v n xs W :=
  ⟨h.1, fun b hb => ht b (h.2 b hb)⟩
theorem Stc.retag {tg tg' : Nat → Nat} {t F : Nat} {a : Addr} {v : Value} {W : World} (h : Stc tg t F W a v) (ht : ∀ b, tg b = t → tg' b = t) : Stc tg' t F W a v := ⟨h.1, h.2.1, ht _ h.2.2⟩

section
variable {w W W' : World} {N k : Nat} {tt : Nat → Option Nat} {tg tg' : Nat → Nat} {ex : Option Nat} {vr vm ve vt : Value} {rs ml : List (Int × Nat)} {ne : Nat} {ts : List Int} {bs : Nat → BB}

theorem RuS.retag {F : Nat} (h : RuS tg N F vr rs W) (ht : ∀ b, tg b ≤ 4 → tg' b = tg b) : RuS tg' N F vr rs W := by
  obtain ⟨ps, hr, hp⟩ := h
  have h0 : ∀ b, tg b = 0 → tg' b = 0 := fun b hb => by rw [ht b (by omega), hb]
  refine ⟨ps, hr.retag (fun b hb => by rw [ht b (by omega), hb]), fun p hlt => ?_⟩
  obtain ⟨R, Q, a1, a2, a3, a4⟩ := hp p hlt
  exact ⟨R, Q, a1, a2.retag h0, a3.retag h0, a4.retag h0⟩

theorem BSt.retag {F q : Nat} {bb : BB} (h : BSt tg N F ne ts W q bb) (ht : ∀ b, tg b ≤ 4 → tg' b = tg b) : BSt tg' N F ne ts W q bb := by
  have h0 : ∀ b, tg b = 0 → tg' b = 0 := fun b hb => by rw [ht b (by omega), hb]
  cases bb using BB.elim with
  | none => exact h
  | row x =>
    obtain ⟨g, g2, e, a1, a2, a3, a4, a5, a6⟩ := h
    exact ⟨g, g2, e, a1, a2.retag h0, a3, a4, a5, a6.retag h0⟩
  | prs ps =>
    obtain ⟨g, g2, g3, c3, a1, a2, a3, a4, a5⟩ := h
    exact ⟨g, g2, g3, c3, a1, a2, a3.retag h0, a4, fun j hj => (a5 j hj).retag h0⟩

/-- blocks of a tag above 4 may be given another -/
theorem Bl.retag (h : Bl w N k tt tg ex vr vm ve vt rs ml ne ts bs W) (ht : ∀ b, tg b ≤ 4 → tg' b = tg b) : Bl w N k tt tg' ex vr vm ve vt rs ml ne ts bs W :=
  ⟨h.bd, h.r3, h.c0, h.c2, h.rr.retag ht, h.rm.retag (fun b hb => by rw [ht b (by omega), hb]), h.re.retag (fun b hb => by rw [ht b (by omega), hb]), h.rt.retag (fun b hb => by rw [ht b (by omega), hb]), fun q hq he => (h.ba q hq he).retag ht⟩

/-- the schema in hand is done -/
theorem Bl.done {i : Nat} (h : Bl w N k tt tg (some i) vr vm ve vt rs ml ne ts bs W) (bb : BB) (hb : BSt tg N (N + 6 + k) ne ts W i bb) : Bl w N k tt tg none vr vm ve vt rs ml ne ts (Sk.upd bs i bb) W := by
  refine ⟨h.bd, h.r3, h.c0, h.c2, h.rr, h.rm, h.re, h.rt, fun q hq _ => ?_⟩
  unfold Sk.upd
  by_cases e : q = i
  · rw [if_pos e, e]; exact hb
  · rw [if_neg e]; exact h.ba q hq (fun e' => e (by cases e'; rfl))

theorem Bl.same (h : Bl w N k tt tg none vr vm ve vt rs ml ne ts bs W) (i : Nat) : Bl w N k tt tg (some i) vr vm ve vt rs ml ne ts bs W :=
  ⟨h.bd, h.r3, h.c0, h.c2, h.rr, h.rm, h.re, h.rt, fun q hq _ => h.ba q hq (by simp)⟩
end
end Go.Proofs.Ybulkecac
