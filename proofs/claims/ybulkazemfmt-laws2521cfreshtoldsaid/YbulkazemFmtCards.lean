/-
  DERIVED. GIVEN WITH THE SEED: THE CARDS: each row of YbulkazemFmtRows.lean that lists a variable, with what it lists TIED to the program's text (the seventh form; the later family's looks); each row that meets fmt, with fmt's text TOLD by the authors' own Lean function (tested against real Go, not proved from fmt's source: count such statements apart). THE CARD IS WHAT COUNTS. Prove the row's statement (the work); the ties are given (YbulkazemFmtTie.lean); close each card by the builder's one call (the guide's Derived/Test/ToyasCard.lean, 'card_holds'). Laid BY PROGRAM, IN A SANDBOX (cutbox-door.mjs). By AI agents, Wed Nov 11 2026. No macro, syntax, notation, axiom, sorry.
-/
import Derived.Test.YbulkazemFmtRows
import GoSem.ClaimSeven
namespace Go.Proofs.YbulkazemFmt
namespace Rows

/-- THE TOLD CARD OF 'scsi.LawS2521CHeader'. -/
def lawS2521CHeaderCard : Claim7 := { stood := { row := lawS2521CHeaderRow, standIns := [], harness := (true, "885aa92ad3653ab6fb290999229880b2e6cafb9697cb22f886cdb7af50094c37"), looks := false }, told := true, goes := false }
def LawS2521CHeaderToldSaid : Prop := Claim7.holds Ybaf.pinned (.plain (OpenSpec.ofChange lawS2521CHeaderSpec)) lawS2521CHeaderCard
/-- ITS FALSE NEIGHBOUR. Refute it at one input. -/
def LawS2521CHeaderToldWrongFalsely : Prop := Claim7.holds Ybaf.pinned (.plain (OpenSpec.ofChange lawS2521CHeaderWrong)) lawS2521CHeaderCard

/-- THE TOLD CARD OF 'scsi.LawS2521CFresh'. -/
def lawS2521CFreshCard : Claim7 := { stood := { row := lawS2521CFreshRow, standIns := [], harness := (true, "885aa92ad3653ab6fb290999229880b2e6cafb9697cb22f886cdb7af50094c37"), looks := false }, told := true, goes := false }
def LawS2521CFreshToldSaid : Prop := Claim7.holds Ybaf.pinned (.plain (OpenSpec.ofChange lawS2521CFreshSpec)) lawS2521CFreshCard
/-- ITS FALSE NEIGHBOUR. Refute it at one input. -/
def LawS2521CFreshToldWrongFalsely : Prop := Claim7.holds Ybaf.pinned (.plain (OpenSpec.ofChange lawS2521CFreshWrong)) lawS2521CFreshCard
end Rows
end Go.Proofs.YbulkazemFmt
