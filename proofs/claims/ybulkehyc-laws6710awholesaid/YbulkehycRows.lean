/-
  No cell of these rows narrows 'for every input' (looked for: loops, veiled, ifaces, maps, wideKeys, modest, calm, conditions, laid).
  DERIVED. THE GIVEN ROWS OF THIS SEAT. 2 by the template 'for every input the law returns true; each argument reads behind the call as it read before'; 0 by the template 'total and deterministic' (their statements: YbulkehycTotals.lean).
  GIVEN WITH THE SEED: the statements are not yours to turn. If you find one false, say at which input.
  Laid BY PROGRAM, IN A SANDBOX (cutbox-rows.mjs): the forced cells as the released guide's own fill.sh prints them over the translation c6066f357f77f27d… (all of the seat's roots in one cut). By AI agents, Wed Nov 11 2026. No macro, syntax, notation, axiom, sorry.
-/
import Derived.Test.YbulkehycChecked
import GoSem.Claim
import GoSem.ClaimJoined
import GoSem.ClaimMapViews
import Derived.JoinedTies
import Derived.KernelRfl
namespace Go.Proofs.Ybulkehyc
/- THE CELL 'sum', in the pinned program and in every row, IS THE sha256 OF THE DUMP (.gsa) THAT YbulkehycProg.lean LOADS. Nothing in Lean hashes anything: it is a label: what it is worth is what the hold of that sum in a sandbox is worth. -/
noncomputable def Yba.pinned : Pinned := { name := "ybulkehyc", sum := "c6066f357f77f27d34bbb28593b01059e0e1f30b414c201ed2e305abaae86c7b", checked := Yba.checked }
namespace Rows
def none {H : Type} : Left H := { results := [], args := [] }

/-- 'fieldline.LawS6710AWhole': WHATEVER THE INPUT: true; the input reads as it did. -/
def lawS6710AWholeSpec : ChangeSpec := { name := "lawS6710AWhole", fn := fun _ => fun
  | [d] => { results := [.lit (.bool true)], args := [d] }
  | _ => none }
def lawS6710AWholeRow : OpenClaim := { program := "ybulkehyc", sum := "c6066f357f77f27d34bbb28593b01059e0e1f30b414c201ed2e305abaae86c7b", func := "example.com/fieldline/fieldline.LawS6710AWhole", spec := "lawS6710AWhole", apart := false }
def LawS6710AWholeSaid : Prop := lawS6710AWholeRow.holds Yba.pinned (OpenSpec.ofChange lawS6710AWholeSpec)

/-- ITS FALSE NEIGHBOUR: 'it returns false'. Refute it at one input. -/
def lawS6710AWholeWrong : ChangeSpec := { name := "lawS6710AWhole", fn := fun _ => fun
  | [d] => { results := [.lit (.bool false)], args := [d] }
  | _ => none }
def LawS6710AWholeWrongFalsely : Prop := lawS6710AWholeRow.holds Yba.pinned (OpenSpec.ofChange lawS6710AWholeWrong)

/-- 'penlog.LawS6710CWhole': WHATEVER THE INPUT: true; the input reads as it did. -/
def lawS6710CWholeSpec : ChangeSpec := { name := "lawS6710CWhole", fn := fun _ => fun
  | [d1, d2, d3] => { results := [.lit (.bool true)], args := [d1, d2, d3] }
  | _ => none }
def lawS6710CWholeRow : OpenClaim := { program := "ybulkehyc", sum := "c6066f357f77f27d34bbb28593b01059e0e1f30b414c201ed2e305abaae86c7b", func := "example.com/fieldline/fieldline/penlog.LawS6710CWhole", spec := "lawS6710CWhole", apart := false }
def LawS6710CWholeSaid : Prop := lawS6710CWholeRow.holds Yba.pinned (OpenSpec.ofChange lawS6710CWholeSpec)

/-- ITS FALSE NEIGHBOUR: 'it returns false'. Refute it at one input. -/
def lawS6710CWholeWrong : ChangeSpec := { name := "lawS6710CWhole", fn := fun _ => fun
  | [d1, d2, d3] => { results := [.lit (.bool false)], args := [d1, d2, d3] }
  | _ => none }
def LawS6710CWholeWrongFalsely : Prop := lawS6710CWholeRow.holds Yba.pinned (OpenSpec.ofChange lawS6710CWholeWrong)

end Rows
end Go.Proofs.Ybulkehyc
