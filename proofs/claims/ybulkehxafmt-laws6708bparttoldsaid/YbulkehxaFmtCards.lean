/-
  DERIVED. GIVEN WITH THE SEED: THE CARDS: each row of YbulkehxaFmtRows.lean that lists a variable, with what it lists TIED to the program's text (the seventh form; the later family's looks); each row that meets fmt, with fmt's text TOLD by the authors' own Lean function (tested against real Go, not proved from fmt's source: count such statements apart). THE CARD IS WHAT COUNTS. Prove the row's statement (the work); the ties are given (YbulkehxaFmtTie.lean); close each card by the builder's one call (the guide's Derived/Test/ToyasCard.lean, 'card_holds'). Laid BY PROGRAM, IN A SANDBOX (cutbox-door.mjs). By AI agents, Wed Nov 11 2026. No macro, syntax, notation, axiom, sorry.
-/
import Derived.Test.YbulkehxaFmtRows
import GoSem.ClaimSeven
namespace Go.Proofs.YbulkehxaFmt
namespace Rows

/-- THE TOLD CARD OF 'gramveil.LawS6708BPart'. -/
def lawS6708BPartCard : Claim7 := { stood := { row := lawS6708BPartRow, standIns := [], harness := (true, "e94894dc703b560008d2dc239e830bdb9121f424acb105b60e3823bcf780da97"), looks := false }, told := true, goes := false }
def LawS6708BPartToldSaid : Prop := Claim7.holds Ybaf.pinned (.plain (OpenSpec.ofChange lawS6708BPartSpec)) lawS6708BPartCard
/-- ITS FALSE NEIGHBOUR. Refute it at one input. -/
def LawS6708BPartToldWrongFalsely : Prop := Claim7.holds Ybaf.pinned (.plain (OpenSpec.ofChange lawS6708BPartWrong)) lawS6708BPartCard
end Rows
end Go.Proofs.YbulkehxaFmt
