/-
  No cell of these rows narrows 'for every input' (looked for: loops, veiled, ifaces, maps, wideKeys, modest, calm, conditions, laid).
  DERIVED. THE GIVEN ROWS OF THIS SEAT. 1 by the template 'for every input the law returns true; each argument reads behind the call as it read before'; 0 by the template 'total and deterministic' (their statements: YbulkehxaFmtTotals.lean).
  GIVEN WITH THE SEED: the statements are not yours to turn. If you find one false, say at which input.
  Laid BY PROGRAM, IN A SANDBOX (cutbox-rows.mjs): the forced cells as the released guide's own fill.sh prints them over the translation 935801b20cc3c2d7… (all of the seat's roots in one cut). By AI agents, Wed Nov 11 2026. No macro, syntax, notation, axiom, sorry.
-/
import Derived.Test.YbulkehxaFmtChecked
import GoSem.Claim
import GoSem.ClaimJoined
import GoSem.ClaimMapViews
import Derived.JoinedTies
import Derived.KernelRfl
namespace Go.Proofs.YbulkehxaFmt
/- THE CELL 'sum', in the pinned program and in every row, IS THE sha256 OF THE DUMP (.gsa) THAT YbulkehxaFmtProg.lean LOADS. Nothing in Lean hashes anything: it is a label: what it is worth is what the hold of that sum in a sandbox is worth. -/
noncomputable def Ybaf.pinned : Pinned := { name := "ybulkehxafmt", sum := "935801b20cc3c2d7c96fee3198593bcb7c3ec6236b74d76e997f754cab68d648", checked := Ybaf.checked }
namespace Rows
def none {H : Type} : Left H := { results := [], args := [] }

/-- 'gramveil.LawS6708BPart': WHATEVER THE INPUT: true; the input reads as it did. -/
def lawS6708BPartSpec : ChangeSpec := { name := "lawS6708BPart", fn := fun _ => fun
  | [d1, d2, d3, d4, d5, d6, d7] => { results := [.lit (.bool true)], args := [d1, d2, d3, d4, d5, d6, d7] }
  | _ => none }
def lawS6708BPartRow : OpenClaim := { program := "ybulkehxafmt", sum := "935801b20cc3c2d7c96fee3198593bcb7c3ec6236b74d76e997f754cab68d648", func := "example.com/gramveil/gramveil.LawS6708BPart", spec := "lawS6708BPart", stops := ["fmt.Sprintf"], inPlace := ["fmt.Appendf", "fmt.Sprintf"], apart := false }
/-- NO THEOREM (fmt's text is open here; it may be false): for the released tool's asking of the row's closed facts alone. THE STATEMENT IS 'LawS6708BPartToldSaid' (YbulkehxaFmtCards.lean). -/
def LawS6708BPartFormAsk : Prop := lawS6708BPartRow.holds Ybaf.pinned (OpenSpec.ofChange lawS6708BPartSpec)

/-- ITS FALSE NEIGHBOUR: 'it returns false'. Refute it at one input. -/
def lawS6708BPartWrong : ChangeSpec := { name := "lawS6708BPart", fn := fun _ => fun
  | [d1, d2, d3, d4, d5, d6, d7] => { results := [.lit (.bool false)], args := [d1, d2, d3, d4, d5, d6, d7] }
  | _ => none }
def LawS6708BPartWrongFormAsk : Prop := lawS6708BPartRow.holds Ybaf.pinned (OpenSpec.ofChange lawS6708BPartWrong)

end Rows
end Go.Proofs.YbulkehxaFmt
