/-
  No cell of these rows narrows 'for every input' (looked for: loops, veiled, ifaces, maps, wideKeys, modest, calm, conditions, laid).
  DERIVED. THE GIVEN ROWS OF THIS SEAT. 2 by the template 'for every input the law returns true; each argument reads behind the call as it read before'; 0 by the template 'total and deterministic' (their statements: YbulkazemFmtTotals.lean).
  GIVEN WITH THE SEED: the statements are not yours to turn. If you find one false, say at which input.
  Laid BY PROGRAM, IN A SANDBOX (cutbox-rows.mjs): the forced cells as the released guide's own fill.sh prints them over the translation 3b5ca09ffa7e0b8e… (all of the seat's roots in one cut). By AI agents, Wed Nov 11 2026. No macro, syntax, notation, axiom, sorry.
-/
import Derived.Test.YbulkazemFmtChecked
import GoSem.Claim
import GoSem.ClaimJoined
import GoSem.ClaimMapViews
import Derived.JoinedTies
import Derived.KernelRfl
namespace Go.Proofs.YbulkazemFmt
/- THE CELL 'sum', in the pinned program and in every row, IS THE sha256 OF THE DUMP (.gsa) THAT YbulkazemFmtProg.lean LOADS. Nothing in Lean hashes anything: it is a label: what it is worth is what the hold of that sum in a sandbox is worth. -/
noncomputable def Ybaf.pinned : Pinned := { name := "ybulkazemfmt", sum := "3b5ca09ffa7e0b8e3320fdd53ebc3ff07e69cc62d56f381ab17bf2ced08cdf29", checked := Ybaf.checked }
namespace Rows
def none {H : Type} : Left H := { results := [], args := [] }

/-- 'scsi.LawS2521CHeader': WHATEVER THE INPUT: true; the input reads as it did. -/
def lawS2521CHeaderSpec : ChangeSpec := { name := "lawS2521CHeader", fn := fun _ => fun
  | [d1, d2, d3, d4, d5, d6] => { results := [.lit (.bool true)], args := [d1, d2, d3, d4, d5, d6] }
  | _ => none }
def lawS2521CHeaderRow : OpenClaim := { program := "ybulkazemfmt", sum := "3b5ca09ffa7e0b8e3320fdd53ebc3ff07e69cc62d56f381ab17bf2ced08cdf29", func := "example.com/tapegantry/tapegantry/scsi.LawS2521CHeader", spec := "lawS2521CHeader", stops := ["fmt.Sprintf"], inPlace := ["fmt.Sprintf"], apart := false }
/-- NO THEOREM (fmt's text is open here; it may be false): for the released tool's asking of the row's closed facts alone. THE STATEMENT IS 'LawS2521CHeaderToldSaid' (YbulkazemFmtCards.lean). -/
def LawS2521CHeaderFormAsk : Prop := lawS2521CHeaderRow.holds Ybaf.pinned (OpenSpec.ofChange lawS2521CHeaderSpec)

/-- ITS FALSE NEIGHBOUR: 'it returns false'. Refute it at one input. -/
def lawS2521CHeaderWrong : ChangeSpec := { name := "lawS2521CHeader", fn := fun _ => fun
  | [d1, d2, d3, d4, d5, d6] => { results := [.lit (.bool false)], args := [d1, d2, d3, d4, d5, d6] }
  | _ => none }
def LawS2521CHeaderWrongFormAsk : Prop := lawS2521CHeaderRow.holds Ybaf.pinned (OpenSpec.ofChange lawS2521CHeaderWrong)

/-- 'scsi.LawS2521CFresh': WHATEVER THE INPUT: true; the input reads as it did. -/
def lawS2521CFreshSpec : ChangeSpec := { name := "lawS2521CFresh", fn := fun _ => fun
  | [d1, d2, d3, d4] => { results := [.lit (.bool true)], args := [d1, d2, d3, d4] }
  | _ => none }
def lawS2521CFreshRow : OpenClaim := { program := "ybulkazemfmt", sum := "3b5ca09ffa7e0b8e3320fdd53ebc3ff07e69cc62d56f381ab17bf2ced08cdf29", func := "example.com/tapegantry/tapegantry/scsi.LawS2521CFresh", spec := "lawS2521CFresh", stops := ["fmt.Sprintf"], inPlace := ["fmt.Sprintf"], apart := false }
/-- NO THEOREM (fmt's text is open here; it may be false): for the released tool's asking of the row's closed facts alone. THE STATEMENT IS 'LawS2521CFreshToldSaid' (YbulkazemFmtCards.lean). -/
def LawS2521CFreshFormAsk : Prop := lawS2521CFreshRow.holds Ybaf.pinned (OpenSpec.ofChange lawS2521CFreshSpec)

/-- ITS FALSE NEIGHBOUR: 'it returns false'. Refute it at one input. -/
def lawS2521CFreshWrong : ChangeSpec := { name := "lawS2521CFresh", fn := fun _ => fun
  | [d1, d2, d3, d4] => { results := [.lit (.bool false)], args := [d1, d2, d3, d4] }
  | _ => none }
def LawS2521CFreshWrongFormAsk : Prop := lawS2521CFreshRow.holds Ybaf.pinned (OpenSpec.ofChange lawS2521CFreshWrong)

end Rows
end Go.Proofs.YbulkazemFmt
