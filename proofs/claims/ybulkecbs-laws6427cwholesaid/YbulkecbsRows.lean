/-
  No cell of these rows narrows 'for every input' (looked for: loops, veiled, ifaces, maps, wideKeys, modest, calm, conditions, laid).
  DERIVED. THE GIVEN ROWS OF THIS SEAT. 1 by the template 'for every input the law returns true; each argument reads behind the call as it read before'; 0 by the template 'total and deterministic' (their statements: YbulkecbsTotals.lean).
  GIVEN WITH THE SEED: the statements are not yours to turn. If you find one false, say at which input.
  Laid BY PROGRAM, IN A SANDBOX (cutbox-rows.mjs): the forced cells as the released guide's own fill.sh prints them over the translation ff03c59eba77fe62… (all of the seat's roots in one cut). By AI agents, Wed Nov 11 2026. No macro, syntax, notation, axiom, sorry.
-/
import Derived.Test.YbulkecbsChecked
import GoSem.Claim
import GoSem.ClaimJoined
import GoSem.ClaimMapViews
import Derived.JoinedTies
import Derived.KernelRfl
namespace Go.Proofs.Ybulkecbs
/- THE CELL 'sum', in the pinned program and in every row, IS THE sha256 OF THE DUMP (.gsa) THAT YbulkecbsProg.lean LOADS. Nothing in Lean hashes anything: it is a label: what it is worth is what the hold of that sum in a sandbox is worth. -/
noncomputable def Yba.pinned : Pinned := { name := "ybulkecbs", sum := "ff03c59eba77fe6276e0bf9218eedfc97c0544d57bce6bf6c961cd94b5a848a4", checked := Yba.checked }
namespace Rows
def none {H : Type} : Left H := { results := [], args := [] }

/-- 'joist.LawS6427CWhole': WHATEVER THE INPUT: true; the input reads as it did. -/
def lawS6427CWholeSpec : ChangeSpec := { name := "lawS6427CWhole", fn := fun _ => fun
  | [d1, d2, d3, d4, d5, d6, d7, d8] => { results := [.lit (.bool true)], args := [d1, d2, d3, d4, d5, d6, d7, d8] }
  | _ => none }
def lawS6427CWholeRow : OpenClaim := { program := "ybulkecbs", sum := "ff03c59eba77fe6276e0bf9218eedfc97c0544d57bce6bf6c961cd94b5a848a4", func := "example.com/joist/joist.LawS6427CWhole", spec := "lawS6427CWhole", apart := false }
def LawS6427CWholeSaid : Prop := lawS6427CWholeRow.holds Yba.pinned (OpenSpec.ofChange lawS6427CWholeSpec)

/-- ITS FALSE NEIGHBOUR: 'it returns false'. Refute it at one input. -/
def lawS6427CWholeWrong : ChangeSpec := { name := "lawS6427CWhole", fn := fun _ => fun
  | [d1, d2, d3, d4, d5, d6, d7, d8] => { results := [.lit (.bool false)], args := [d1, d2, d3, d4, d5, d6, d7, d8] }
  | _ => none }
def LawS6427CWholeWrongFalsely : Prop := lawS6427CWholeRow.holds Yba.pinned (OpenSpec.ofChange lawS6427CWholeWrong)

end Rows
end Go.Proofs.Ybulkecbs
