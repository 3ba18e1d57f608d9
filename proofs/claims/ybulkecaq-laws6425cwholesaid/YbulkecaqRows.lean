/-
  No cell of these rows narrows 'for every input' (looked for: loops, veiled, ifaces, maps, wideKeys, modest, calm, conditions, laid).
  DERIVED. THE GIVEN ROWS OF THIS SEAT. 3 by the template 'for every input the law returns true; each argument reads behind the call as it read before'; 0 by the template 'total and deterministic' (their statements: YbulkecaqTotals.lean).
  GIVEN WITH THE SEED: the statements are not yours to turn. If you find one false, say at which input.
  Laid BY PROGRAM, IN A SANDBOX (cutbox-rows.mjs): the forced cells as the released guide's own fill.sh prints them over the translation 488e0705a47d5b92… (all of the seat's roots in one cut). By AI agents, Wed Nov 11 2026. No macro, syntax, notation, axiom, sorry.
-/
import Derived.Test.YbulkecaqChecked
import GoSem.Claim
import GoSem.ClaimJoined
import GoSem.ClaimMapViews
import Derived.JoinedTies
import Derived.KernelRfl
namespace Go.Proofs.Ybulkecaq
/- THE CELL 'sum', in the pinned program and in every row, IS THE sha256 OF THE DUMP (.gsa) THAT YbulkecaqProg.lean LOADS. Nothing in Lean hashes anything: it is a label: what it is worth is what the hold of that sum in a sandbox is worth. -/
noncomputable def Yba.pinned : Pinned := { name := "ybulkecaq", sum := "488e0705a47d5b928b1e1d9ed0f298196b36bd49cba4800ae3a78282a7bdaa9a", checked := Yba.checked }
namespace Rows
def none {H : Type} : Left H := { results := [], args := [] }

/-- 'sluice.LawS6425AWhole': WHATEVER THE INPUT: true; the input reads as it did. -/
def lawS6425AWholeSpec : ChangeSpec := { name := "lawS6425AWhole", fn := fun _ => fun
  | [d1, d2, d3, d4, d5, d6] => { results := [.lit (.bool true)], args := [d1, d2, d3, d4, d5, d6] }
  | _ => none }
def lawS6425AWholeRow : OpenClaim := { program := "ybulkecaq", sum := "488e0705a47d5b928b1e1d9ed0f298196b36bd49cba4800ae3a78282a7bdaa9a", func := "example.com/sluice.LawS6425AWhole", spec := "lawS6425AWhole", inPlace := ["sync/atomic.StoreUint64", "sync/atomic.LoadUint64", "sync/atomic.CompareAndSwapUint64"], apart := false }
def LawS6425AWholeSaid : Prop := lawS6425AWholeRow.holds Yba.pinned (OpenSpec.ofChange lawS6425AWholeSpec)

/-- ITS FALSE NEIGHBOUR: 'it returns false'. Refute it at one input. -/
def lawS6425AWholeWrong : ChangeSpec := { name := "lawS6425AWhole", fn := fun _ => fun
  | [d1, d2, d3, d4, d5, d6] => { results := [.lit (.bool false)], args := [d1, d2, d3, d4, d5, d6] }
  | _ => none }
def LawS6425AWholeWrongFalsely : Prop := lawS6425AWholeRow.holds Yba.pinned (OpenSpec.ofChange lawS6425AWholeWrong)

/-- 'sluice.LawS6425BWhole': WHATEVER THE INPUT: true; the input reads as it did. -/
def lawS6425BWholeSpec : ChangeSpec := { name := "lawS6425BWhole", fn := fun _ => fun
  | [d1, d2] => { results := [.lit (.bool true)], args := [d1, d2] }
  | _ => none }
def lawS6425BWholeRow : OpenClaim := { program := "ybulkecaq", sum := "488e0705a47d5b928b1e1d9ed0f298196b36bd49cba4800ae3a78282a7bdaa9a", func := "example.com/sluice.LawS6425BWhole", spec := "lawS6425BWhole", apart := false }
def LawS6425BWholeSaid : Prop := lawS6425BWholeRow.holds Yba.pinned (OpenSpec.ofChange lawS6425BWholeSpec)

/-- ITS FALSE NEIGHBOUR: 'it returns false'. Refute it at one input. -/
def lawS6425BWholeWrong : ChangeSpec := { name := "lawS6425BWhole", fn := fun _ => fun
  | [d1, d2] => { results := [.lit (.bool false)], args := [d1, d2] }
  | _ => none }
def LawS6425BWholeWrongFalsely : Prop := lawS6425BWholeRow.holds Yba.pinned (OpenSpec.ofChange lawS6425BWholeWrong)

/-- 'sluice.LawS6425CWhole': WHATEVER THE INPUT: true; the input reads as it did. -/
def lawS6425CWholeSpec : ChangeSpec := { name := "lawS6425CWhole", fn := fun _ => fun
  | [d1, d2, d3, d4, d5, d6, d7, d8, d9] => { results := [.lit (.bool true)], args := [d1, d2, d3, d4, d5, d6, d7, d8, d9] }
  | _ => none }
def lawS6425CWholeRow : OpenClaim := { program := "ybulkecaq", sum := "488e0705a47d5b928b1e1d9ed0f298196b36bd49cba4800ae3a78282a7bdaa9a", func := "example.com/sluice.LawS6425CWhole", spec := "lawS6425CWhole", inPlace := ["sync/atomic.StorePointer", "sync/atomic.StoreUint64", "sync/atomic.LoadUint64", "sync/atomic.LoadPointer", "sync/atomic.SwapPointer", "sync/atomic.CompareAndSwapPointer", "sync/atomic.CompareAndSwapUint64", "runtime.Gosched"], unfollowed := true, recurses := true, apart := false }
def LawS6425CWholeSaid : Prop := lawS6425CWholeRow.holds Yba.pinned (OpenSpec.ofChange lawS6425CWholeSpec)

/-- ITS FALSE NEIGHBOUR: 'it returns false'. Refute it at one input. -/
def lawS6425CWholeWrong : ChangeSpec := { name := "lawS6425CWhole", fn := fun _ => fun
  | [d1, d2, d3, d4, d5, d6, d7, d8, d9] => { results := [.lit (.bool false)], args := [d1, d2, d3, d4, d5, d6, d7, d8, d9] }
  | _ => none }
def LawS6425CWholeWrongFalsely : Prop := lawS6425CWholeRow.holds Yba.pinned (OpenSpec.ofChange lawS6425CWholeWrong)

end Rows
end Go.Proofs.Ybulkecaq
