/-
  No cell of these rows narrows 'for every input' (looked for: loops, veiled, ifaces, maps, wideKeys, modest, calm, conditions, laid).
  DERIVED. THE GIVEN ROWS OF THIS SEAT. 2 by the template 'for every input the law returns true; each argument reads behind the call as it read before'; 0 by the template 'total and deterministic' (their statements: YbulkehxoTotals.lean).
  GIVEN WITH THE SEED: the statements are not yours to turn. If you find one false, say at which input.
  Laid BY PROGRAM, IN A SANDBOX (cutbox-rows.mjs): the forced cells as the released guide's own fill.sh prints them over the translation 899206cec7da2c4c… (all of the seat's roots in one cut). By AI agents, Wed Nov 11 2026. No macro, syntax, notation, axiom, sorry.
-/
import Derived.Test.YbulkehxoChecked
import GoSem.Claim
import GoSem.ClaimJoined
import GoSem.ClaimMapViews
import Derived.JoinedTies
import Derived.KernelRfl
namespace Go.Proofs.Ybulkehxo
/- THE CELL 'sum', in the pinned program and in every row, IS THE sha256 OF THE DUMP (.gsa) THAT YbulkehxoProg.lean LOADS. Nothing in Lean hashes anything: it is a label: what it is worth is what the hold of that sum in a sandbox is worth. -/
noncomputable def Yba.pinned : Pinned := { name := "ybulkehxo", sum := "899206cec7da2c4cfc2753c5f4e4e0724a29c23336659ef3e6a5e93b76258609", checked := Yba.checked }
namespace Rows
def none {H : Type} : Left H := { results := [], args := [] }

/-- 'lock.LawS6709BWhole': WHATEVER THE INPUT: true; the input reads as it did. -/
def lawS6709BWholeSpec : ChangeSpec := { name := "lawS6709BWhole", fn := fun _ => fun
  | [d1, d2, d3, d4, d5, d6, d7, d8, d9, d10, d11] => { results := [.lit (.bool true)], args := [d1, d2, d3, d4, d5, d6, d7, d8, d9, d10, d11] }
  | _ => none }
def lawS6709BWholeRow : OpenClaim := { program := "ybulkehxo", sum := "899206cec7da2c4cfc2753c5f4e4e0724a29c23336659ef3e6a5e93b76258609", func := "example.com/contendo/contendo/pkg/lock.LawS6709BWhole", spec := "lawS6709BWhole", apart := false }
def LawS6709BWholeSaid : Prop := lawS6709BWholeRow.holds Yba.pinned (OpenSpec.ofChange lawS6709BWholeSpec)

/-- ITS FALSE NEIGHBOUR: 'it returns false'. Refute it at one input. -/
def lawS6709BWholeWrong : ChangeSpec := { name := "lawS6709BWhole", fn := fun _ => fun
  | [d1, d2, d3, d4, d5, d6, d7, d8, d9, d10, d11] => { results := [.lit (.bool false)], args := [d1, d2, d3, d4, d5, d6, d7, d8, d9, d10, d11] }
  | _ => none }
def LawS6709BWholeWrongFalsely : Prop := lawS6709BWholeRow.holds Yba.pinned (OpenSpec.ofChange lawS6709BWholeWrong)

/-- 'replay.LawS6709CWhole': WHATEVER THE INPUT: true; the input reads as it did. -/
def lawS6709CWholeSpec : ChangeSpec := { name := "lawS6709CWhole", fn := fun _ => fun
  | [d1, d2, d3, d4] => { results := [.lit (.bool true)], args := [d1, d2, d3, d4] }
  | _ => none }
def lawS6709CWholeRow : OpenClaim := { program := "ybulkehxo", sum := "899206cec7da2c4cfc2753c5f4e4e0724a29c23336659ef3e6a5e93b76258609", func := "example.com/contendo/contendo/pkg/replay.LawS6709CWhole", spec := "lawS6709CWhole", inPlace := ["math.Float64bits", "math.Float64frombits", "slices.overlaps[example.com/contendo/contendo/pkg/replay.Event]"], unfollowed := true, recurses := true, apart := false }
def LawS6709CWholeSaid : Prop := lawS6709CWholeRow.holds Yba.pinned (OpenSpec.ofChange lawS6709CWholeSpec)

/-- ITS FALSE NEIGHBOUR: 'it returns false'. Refute it at one input. -/
def lawS6709CWholeWrong : ChangeSpec := { name := "lawS6709CWhole", fn := fun _ => fun
  | [d1, d2, d3, d4] => { results := [.lit (.bool false)], args := [d1, d2, d3, d4] }
  | _ => none }
def LawS6709CWholeWrongFalsely : Prop := lawS6709CWholeRow.holds Yba.pinned (OpenSpec.ofChange lawS6709CWholeWrong)

end Rows
end Go.Proofs.Ybulkehxo
