import Derived.Test.YbulkecaqRows
import Derived.WalkKit
import Derived.WalkSpells
import Derived.WalkLawsBesides
import Derived.Conc.LoneCalls
import Derived.Conc.LoneSelectN
namespace Go.Proofs.Ybulkecaq
open Go.RowKit Go.Conc
set_option linter.unusedSimpArgs false
set_option linter.unusedVariables false

/-- A region from its operation list 'l' on, said of the machine's own steps: so that a communication of a lone goroutine has its place in the walk. -/
def RW (P : Program) (ops : Array Oper) (Q : Exit → Act → World → Prop) (l : List Nat) (a : Act) (w : World) : Prop :=
  ∀ (b : Frame) (k : List Item) (cs : List Frame), ∃ e a' w', Q e a' w' ∧ Arrives P (lone (b.at a (.inRegion ops l :: k)) cs w) b k cs e a' w'

section
variable {P : Program} {ops : Array Oper} {Q : Exit → Act → World → Prop} {a : Act} {w : World} {i : Nat} {rest : List Nat} {o : Oper}

theorem RW_region {id : Nat} (h : RW P ops Q (List.range ops.size) a w) : (Code.region id ops false).wp P Q a w := fun b k cs => by
  obtain ⟨e, a', w', hq, harr⟩ := h b k cs
  exact ⟨e, a', w', hq, .of_steps (.one step_region) harr⟩

theorem RW_nil (h : Q .normal a w) : RW P ops Q [] a w := fun b k cs => ⟨.normal, a, w, h, .one step_region_end⟩

theorem fin_at (b : Frame) (k : List Item) (ho : ops[i]? = some o) (v : Value) :
    (b.at a (.inRegion ops (i :: rest) :: k)).finish v = b.at (a.put o.dst v) (.inRegion ops rest :: k) := by
  rw [Frame.finish_at, ho]; rfl

/-- one step that ends in the operation's value -/
theorem RW_value {v : Value} {w' : World} (ho : ops[i]? = some o) (hw : Region.wanted o (yielded ops a.tmps) = true) (hr : (execOp a.eval o).run P w = .ok (.value v) w')
    (h : RW P ops Q rest (a.put o.dst v) w') : RW P ops Q (i :: rest) a w := fun b k cs => by
  obtain ⟨e, a', w'', hq, harr⟩ := h b k cs
  refine ⟨e, a', w'', hq, .of_steps (.one (step_lone_go ?_)) harr⟩
  rw [stepG_op ho hw, ← fin_at b k ho]
  simp [stepG.apply, hr]

theorem RW_none {w' : World} (ho : ops[i]? = some o) (hw : Region.wanted o (yielded ops a.tmps) = true) (hr : (execOp a.eval o).run P w = .ok .skip w')
    (h : RW P ops Q rest (a.put o.dst undef) w') : RW P ops Q (i :: rest) a w := fun b k cs => by
  obtain ⟨e, a', w'', hq, harr⟩ := h b k cs
  refine ⟨e, a', w'', hq, .of_steps (.one (step_lone_go ?_)) harr⟩
  rw [stepG_op ho hw, ← fin_at b k ho]
  simp [stepG.apply, hr]

theorem RW_k (ho : ops[i]? = some o) (hw : Region.wanted o (yielded ops a.tmps) = true)
    (h : ∀ K : Act → World → Prop, (∀ a' w', RW P ops Q rest a' w' → K a' w') → uponK o a K ((execOp a.eval o).run P w)) : RW P ops Q (i :: rest) a w := by
  have h' := h (fun a' w' => RW P ops Q rest a' w') (fun _ _ x => x)
  cases hr : (execOp a.eval o).run P w with
  | ok x w' =>
    rw [hr] at h'
    cases x <;> first | exact h'.elim | exact RW_value ho hw hr h' | exact RW_none ho hw hr h'
  | halt x w' => rw [hr] at h'; exact h'.elim

/-- an operation that is a communication, in whatever frame -/
theorem comm_at {cases : Array CommCase} {blocking : Bool} {shape : CommShape} {w' : World} (b : Frame) (k : List Item) (cs : List Frame) (ho : ops[i]? = some o) (hw : Region.wanted o (yielded ops a.tmps) = true)
    (hr : (execOp a.eval o).run P w = .ok (.comm cases blocking shape) w') :
    ∃ es, stepG P true (G (b.at a (.inRegion ops (i :: rest) :: k)) cs) w = .comm (G (b.at a (.inRegion ops (i :: rest) :: k)) cs) cases blocking shape w' es := by
  have h := stepG_op (P := P) (b := b) (k := k) (cs := cs) (w := w) (rest := rest) ho hw
  obtain ⟨es, he⟩ : ∃ es, stepG.apply P true (b.at a (.inRegion ops (i :: rest) :: k)) cs none (execOp a.eval o) w = .comm (G (b.at a (.inRegion ops (i :: rest) :: k)) cs) cases blocking shape w' es := by
    simp [stepG.apply, hr, GStep.after, G]
  exact ⟨es, Eq.trans h he⟩

theorem RW_send {c cap s r : Nat} {buf : Array Value} {v z : Value} {tm : Bool} {w' : World} (ho : ops[i]? = some o) (hw : Region.wanted o (yielded ops a.tmps) = true)
    (hr : (execOp a.eval o).run P w = .ok (.comm #[scase c v z] true .send) w') (hc : w'.heap[c]? = some (.chan cap buf false s r tm)) (hroom : buf.size < cap)
    (h : RW P ops Q rest (a.put o.dst undef) (w'.setChan c cap (buf.push v) false (s + 1) r tm)) : RW P ops Q (i :: rest) a w := fun b k cs => by
  obtain ⟨e, a', w'', hq, harr⟩ := h b k cs
  obtain ⟨es, hes⟩ := comm_at (rest := rest) b k cs ho hw hr
  have hs := step_lone_send_room hes hc hroom
  rw [fin_at b k ho] at hs
  exact ⟨e, a', w'', hq, .of_steps (.one hs) harr⟩

/-- the same, the world behind it a letter -/
theorem RW_send_at {c cap s r : Nat} {buf : Array Value} {v z : Value} {tm : Bool} {w' : World} (ho : ops[i]? = some o) (hw : Region.wanted o (yielded ops a.tmps) = true)
    (hr : (execOp a.eval o).run P w = .ok (.comm #[scase c v z] true .send) w') (hc : w'.heap[c]? = some (.chan cap buf false s r tm)) (hroom : buf.size < cap)
    (h : ∀ W, Hid (W = w'.setChan c cap (buf.push v) false (s + 1) r tm) → RW P ops Q rest (a.put o.dst undef) W) : RW P ops Q (i :: rest) a w :=
  RW_send ho hw hr hc hroom (h _ rfl)

theorem RW_recv {c cap s r : Nat} {buf : Array Value} {z : Value} {tm closed : Bool} {w' : World} (ho : ops[i]? = some o) (hw : Region.wanted o (yielded ops a.tmps) = true)
    (hr : (execOp a.eval o).run P w = .ok (.comm #[rcase c z] true (.recv false)) w') (hc : w'.heap[c]? = some (.chan cap buf closed s r tm)) (hsome : 0 < buf.size)
    (h : RW P ops Q rest (a.put o.dst (buf.getD 0 undef)) (w'.setChan c cap (buf.extract 1 buf.size) closed s (r + 1) tm)) : RW P ops Q (i :: rest) a w := fun b k cs => by
  obtain ⟨e, a', w'', hq, harr⟩ := h b k cs
  obtain ⟨es, hes⟩ := comm_at (rest := rest) b k cs ho hw hr
  have hs := step_lone_recv_buf false hes hc hsome
  rw [fin_at b k ho] at hs
  exact ⟨e, a', w'', hq, .of_steps (.one hs) harr⟩

theorem RW_sel_buf {cases : Array CommCase} {m c cap s r : Nat} {buf : Array Value} {z : Value} {tm closed blocking : Bool} {w' : World} (ho : ops[i]? = some o) (hw : Region.wanted o (yielded ops a.tmps) = true)
    (hr : (execOp a.eval o).run P w = .ok (.comm cases blocking .select) w') (hk : cases[m]? = some (rcase c z)) (hno : ∀ (n : Nat) (c' : CommCase), n ≠ m → cases[n]? = some c' → NoWay w' c')
    (hc : w'.heap[c]? = some (.chan cap buf closed s r tm)) (hsome : 0 < buf.size)
    (h : RW P ops Q rest (a.put o.dst (commResult cases .select m (buf.getD 0 undef) true)) (w'.setChan c cap (buf.extract 1 buf.size) closed s (r + 1) tm)) : RW P ops Q (i :: rest) a w := fun b k cs => by
  obtain ⟨e, a', w'', hq, harr⟩ := h b k cs
  obtain ⟨es, hes⟩ := comm_at (rest := rest) b k cs ho hw hr
  have hs := step_lone_sel_recv_buf hes hk hno hc hsome
  rw [fin_at b k ho] at hs
  exact ⟨e, a', w'', hq, .of_steps (.one hs) harr⟩

theorem RW_sel_shut {cases : Array CommCase} {m c cap s r : Nat} {z : Value} {tm blocking : Bool} {w' : World} (ho : ops[i]? = some o) (hw : Region.wanted o (yielded ops a.tmps) = true)
    (hr : (execOp a.eval o).run P w = .ok (.comm cases blocking .select) w') (hk : cases[m]? = some (rcase c z)) (hno : ∀ (n : Nat) (c' : CommCase), n ≠ m → cases[n]? = some c' → NoWay w' c')
    (hc : w'.heap[c]? = some (.chan cap #[] true s r tm))
    (h : RW P ops Q rest (a.put o.dst (commResult cases .select m z false)) w') : RW P ops Q (i :: rest) a w := fun b k cs => by
  obtain ⟨e, a', w'', hq, harr⟩ := h b k cs
  obtain ⟨es, hes⟩ := comm_at (rest := rest) b k cs ho hw hr
  have hs := step_lone_sel_recv_shut hes hk hno hc
  rw [fin_at b k ho] at hs
  exact ⟨e, a', w'', hq, .of_steps (.one hs) harr⟩
end

end Go.Proofs.Ybulkecaq
