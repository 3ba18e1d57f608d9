/-
  No cell of these rows narrows 'for every input' (looked for: loops, veiled, ifaces, maps, wideKeys, modest, calm, conditions, laid).
  DERIVED. THE GIVEN ROWS OF THIS SEAT. 3 by the template 'for every input the law returns true; each argument reads behind the call as it read before'; 0 by the template 'total and deterministic' (their statements: YbulkecacTotals.lean).
  GIVEN WITH THE SEED: the statements are not yours to turn. If you find one false, say at which input.
  Laid BY PROGRAM, IN A SANDBOX (cutbox-rows.mjs): the forced cells as the released guide's own fill.sh prints them over the translation 87e3976963747588… (all of the seat's roots in one cut). By AI agents, Wed Nov 11 2026. No macro, syntax, notation, axiom, sorry.
-/
import Derived.Test.YbulkecacChecked
import GoSem.Claim
import GoSem.ClaimJoined
import GoSem.ClaimMapViews
import Derived.JoinedTies
import Derived.KernelRfl
namespace Go.Proofs.Ybulkecac
/- THE CELL 'sum', in the pinned program and in every row, IS THE sha256 OF THE DUMP (.gsa) THAT YbulkecacProg.lean LOADS. Nothing in Lean hashes anything: it is a label: what it is worth is what the hold of that sum in a sandbox is worth. -/
noncomputable def Yba.pinned : Pinned := { name := "ybulkecac", sum := "87e3976963747588a6aba6b6948c13b3f904ed69d18e17a5baf9ff473769ed18", checked := Yba.checked }
namespace Rows
def none {H : Type} : Left H := { results := [], args := [] }

/-- 'hearsay.LawS6424AWhole': WHATEVER THE INPUT: true; the input reads as it did. -/
def lawS6424AWholeSpec : ChangeSpec := { name := "lawS6424AWhole", fn := fun _ => fun
  | [d1, d2] => { results := [.lit (.bool true)], args := [d1, d2] }
  | _ => none }
def lawS6424AWholeRow : OpenClaim := { program := "ybulkecac", sum := "87e3976963747588a6aba6b6948c13b3f904ed69d18e17a5baf9ff473769ed18", func := "example.com/hearsay/hearsay.LawS6424AWhole", spec := "lawS6424AWhole", plainKeys := false, apart := false }
def LawS6424AWholeSaid : Prop := lawS6424AWholeRow.holds Yba.pinned (OpenSpec.ofChange lawS6424AWholeSpec)

/-- ITS FALSE NEIGHBOUR: 'it returns false'. Refute it at one input. -/
def lawS6424AWholeWrong : ChangeSpec := { name := "lawS6424AWhole", fn := fun _ => fun
  | [d1, d2] => { results := [.lit (.bool false)], args := [d1, d2] }
  | _ => none }
def LawS6424AWholeWrongFalsely : Prop := lawS6424AWholeRow.holds Yba.pinned (OpenSpec.ofChange lawS6424AWholeWrong)

/-- 'hearsay.LawS6424AScript': WHATEVER THE INPUT: true; the input reads as it did. -/
def lawS6424AScriptSpec : ChangeSpec := { name := "lawS6424AScript", fn := fun _ => fun
  | [d1, d2] => { results := [.lit (.bool true)], args := [d1, d2] }
  | _ => none }
def lawS6424AScriptRow : OpenClaim := { program := "ybulkecac", sum := "87e3976963747588a6aba6b6948c13b3f904ed69d18e17a5baf9ff473769ed18", func := "example.com/hearsay/hearsay.LawS6424AScript", spec := "lawS6424AScript", named := ["encoding/binary.BigEndian"], plainKeys := false, apart := false }
def LawS6424AScriptSaid : Prop := lawS6424AScriptRow.holds Yba.pinned (OpenSpec.ofChange lawS6424AScriptSpec)

/-- ITS FALSE NEIGHBOUR: 'it returns false'. Refute it at one input. -/
def lawS6424AScriptWrong : ChangeSpec := { name := "lawS6424AScript", fn := fun _ => fun
  | [d1, d2] => { results := [.lit (.bool false)], args := [d1, d2] }
  | _ => none }
def LawS6424AScriptWrongFalsely : Prop := lawS6424AScriptRow.holds Yba.pinned (OpenSpec.ofChange lawS6424AScriptWrong)

/-- 'hearsay.LawS6424BWhole': WHATEVER THE INPUT: true; the input reads as it did. -/
def lawS6424BWholeSpec : ChangeSpec := { name := "lawS6424BWhole", fn := fun _ => fun
  | [d1, d2, d3] => { results := [.lit (.bool true)], args := [d1, d2, d3] }
  | _ => none }
def lawS6424BWholeRow : OpenClaim := { program := "ybulkecac", sum := "87e3976963747588a6aba6b6948c13b3f904ed69d18e17a5baf9ff473769ed18", func := "example.com/hearsay/hearsay.LawS6424BWhole", spec := "lawS6424BWhole", unfollowed := true, recurses := true, plainKeys := false, apart := false }
def LawS6424BWholeSaid : Prop := lawS6424BWholeRow.holds Yba.pinned (OpenSpec.ofChange lawS6424BWholeSpec)

/-- ITS FALSE NEIGHBOUR: 'it returns false'. Refute it at one input. -/
def lawS6424BWholeWrong : ChangeSpec := { name := "lawS6424BWhole", fn := fun _ => fun
  | [d1, d2, d3] => { results := [.lit (.bool false)], args := [d1, d2, d3] }
  | _ => none }
def LawS6424BWholeWrongFalsely : Prop := lawS6424BWholeRow.holds Yba.pinned (OpenSpec.ofChange lawS6424BWholeWrong)

end Rows
end Go.Proofs.Ybulkecac
