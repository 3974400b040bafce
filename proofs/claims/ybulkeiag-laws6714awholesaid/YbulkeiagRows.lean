/-
  No cell of these rows narrows 'for every input' (looked for: loops, veiled, ifaces, maps, wideKeys, modest, calm, conditions, laid).
  DERIVED. THE GIVEN ROWS OF THIS SEAT. 1 by the template 'for every input the law returns true; each argument reads behind the call as it read before'; 0 by the template 'total and deterministic' (their statements: YbulkeiagTotals.lean).
  GIVEN WITH THE SEED: the statements are not yours to turn. If you find one false, say at which input.
  Laid BY PROGRAM, IN A SANDBOX (cutbox-rows.mjs): the forced cells as the released guide's own fill.sh prints them over the translation 5d0cb67766a6d3e3… (all of the seat's roots in one cut). By AI agents, Wed Nov 11 2026. No macro, syntax, notation, axiom, sorry.
-/
import Derived.Test.YbulkeiagChecked
import GoSem.Claim
import GoSem.ClaimJoined
import GoSem.ClaimMapViews
import Derived.JoinedTies
import Derived.KernelRfl
namespace Go.Proofs.Ybulkeiag
/- THE CELL 'sum', in the pinned program and in every row, IS THE sha256 OF THE DUMP (.gsa) THAT YbulkeiagProg.lean LOADS. Nothing in Lean hashes anything: it is a label: what it is worth is what the hold of that sum in a sandbox is worth. -/
noncomputable def Yba.pinned : Pinned := { name := "ybulkeiag", sum := "5d0cb67766a6d3e382a5416f6e71bbc1ef9e96118896fc26b88ad0652f29f217", checked := Yba.checked }
namespace Rows
def none {H : Type} : Left H := { results := [], args := [] }

/-- 'store.LawS6714AWhole': WHATEVER THE INPUT: true; the input reads as it did. -/
def lawS6714AWholeSpec : ChangeSpec := { name := "lawS6714AWhole", fn := fun _ => fun
  | [d] => { results := [.lit (.bool true)], args := [d] }
  | _ => none }
def lawS6714AWholeRow : OpenClaim := { program := "ybulkeiag", sum := "5d0cb67766a6d3e382a5416f6e71bbc1ef9e96118896fc26b88ad0652f29f217", func := "example.com/shoal/shoal/store.LawS6714AWhole", spec := "lawS6714AWhole", unfollowed := true, recurses := true, apart := false }
def LawS6714AWholeSaid : Prop := lawS6714AWholeRow.holds Yba.pinned (OpenSpec.ofChange lawS6714AWholeSpec)

/-- ITS FALSE NEIGHBOUR: 'it returns false'. Refute it at one input. -/
def lawS6714AWholeWrong : ChangeSpec := { name := "lawS6714AWhole", fn := fun _ => fun
  | [d] => { results := [.lit (.bool false)], args := [d] }
  | _ => none }
def LawS6714AWholeWrongFalsely : Prop := lawS6714AWholeRow.holds Yba.pinned (OpenSpec.ofChange lawS6714AWholeWrong)

end Rows
end Go.Proofs.Ybulkeiag
