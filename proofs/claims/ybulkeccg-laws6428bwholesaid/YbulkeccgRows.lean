/-
  No cell of these rows narrows 'for every input' (looked for: loops, veiled, ifaces, maps, wideKeys, modest, calm, conditions, laid).
  DERIVED. THE GIVEN ROWS OF THIS SEAT. 1 by the template 'for every input the law returns true; each argument reads behind the call as it read before'; 0 by the template 'total and deterministic' (their statements: YbulkeccgTotals.lean).
  GIVEN WITH THE SEED: the statements are not yours to turn. If you find one false, say at which input.
  Laid BY PROGRAM, IN A SANDBOX (cutbox-rows.mjs): the forced cells as the released guide's own fill.sh prints them over the translation 394843d9244e12d3… (all of the seat's roots in one cut). By AI agents, Wed Nov 11 2026. No macro, syntax, notation, axiom, sorry.
-/
import Derived.Test.YbulkeccgChecked
import GoSem.Claim
import GoSem.ClaimJoined
import GoSem.ClaimMapViews
import Derived.JoinedTies
import Derived.KernelRfl
namespace Go.Proofs.Ybulkeccg
/- THE CELL 'sum', in the pinned program and in every row, IS THE sha256 OF THE DUMP (.gsa) THAT YbulkeccgProg.lean LOADS. Nothing in Lean hashes anything: it is a label: what it is worth is what the hold of that sum in a sandbox is worth. -/
noncomputable def Yba.pinned : Pinned := { name := "ybulkeccg", sum := "394843d9244e12d33aade6ddcc6f4de6a7844e1b1e4b867ede1f5db0d12dc72e", checked := Yba.checked }
namespace Rows
def none {H : Type} : Left H := { results := [], args := [] }

/-- 'server.LawS6428BWhole': WHATEVER THE INPUT: true; the input reads as it did. -/
def lawS6428BWholeSpec : ChangeSpec := { name := "lawS6428BWhole", fn := fun _ => fun
  | [d1, d2, d3, d4, d5, d6, d7, d8, d9, d10, d11, d12] => { results := [.lit (.bool true)], args := [d1, d2, d3, d4, d5, d6, d7, d8, d9, d10, d11, d12] }
  | _ => none }
def lawS6428BWholeRow : OpenClaim := { program := "ybulkeccg", sum := "394843d9244e12d33aade6ddcc6f4de6a7844e1b1e4b867ede1f5db0d12dc72e", func := "example.com/driftline/driftline/internal/server.LawS6428BWhole", spec := "lawS6428BWhole", apart := false }
def LawS6428BWholeSaid : Prop := lawS6428BWholeRow.holds Yba.pinned (OpenSpec.ofChange lawS6428BWholeSpec)

/-- ITS FALSE NEIGHBOUR: 'it returns false'. Refute it at one input. -/
def lawS6428BWholeWrong : ChangeSpec := { name := "lawS6428BWhole", fn := fun _ => fun
  | [d1, d2, d3, d4, d5, d6, d7, d8, d9, d10, d11, d12] => { results := [.lit (.bool false)], args := [d1, d2, d3, d4, d5, d6, d7, d8, d9, d10, d11, d12] }
  | _ => none }
def LawS6428BWholeWrongFalsely : Prop := lawS6428BWholeRow.holds Yba.pinned (OpenSpec.ofChange lawS6428BWholeWrong)

end Rows
end Go.Proofs.Ybulkeccg
