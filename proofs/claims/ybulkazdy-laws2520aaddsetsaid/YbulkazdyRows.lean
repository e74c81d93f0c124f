/-
  No cell of these rows narrows 'for every input' (looked for: loops, veiled, ifaces, maps, wideKeys, modest, calm, conditions, laid).
  DERIVED. THE GIVEN ROWS OF THIS SEAT. 1 by the template 'for every input the law returns true; each argument reads behind the call as it read before'; 0 by the template 'total and deterministic' (their statements: YbulkazdyTotals.lean).
  GIVEN WITH THE SEED: the statements are not yours to turn. If you find one false, say at which input.
  Laid BY PROGRAM, IN A SANDBOX (cutbox-rows.mjs): the forced cells as the released guide's own fill.sh prints them over the translation a3c9f6d41867b938… (all of the seat's roots in one cut). By AI agents, Wed Nov 11 2026. No macro, syntax, notation, axiom, sorry.
-/
import Derived.Test.YbulkazdyChecked
import GoSem.Claim
import GoSem.ClaimJoined
import GoSem.ClaimMapViews
import Derived.JoinedTies
import Derived.KernelRfl
namespace Go.Proofs.Ybulkazdy
/- THE CELL 'sum', in the pinned program and in every row, IS THE sha256 OF THE DUMP (.gsa) THAT YbulkazdyProg.lean LOADS. Nothing in Lean hashes anything: it is a label: what it is worth is what the hold of that sum in a sandbox is worth. -/
noncomputable def Yba.pinned : Pinned := { name := "ybulkazdy", sum := "a3c9f6d41867b9381c74b33d98497712a76ae76bd12962d80b0b5f3d62a38176", checked := Yba.checked }
namespace Rows
def none {H : Type} : Left H := { results := [], args := [] }

/-- 'repeat.LawS2520AAddSet': WHATEVER THE INPUT: true; the input reads as it did. -/
def lawS2520AAddSetSpec : ChangeSpec := { name := "lawS2520AAddSet", fn := fun _ => fun
  | [d1, d2] => { results := [.lit (.bool true)], args := [d1, d2] }
  | _ => none }
def lawS2520AAddSetRow : OpenClaim := { program := "ybulkazdy", sum := "a3c9f6d41867b9381c74b33d98497712a76ae76bd12962d80b0b5f3d62a38176", func := "example.com/kasane/kasane/internal/repeat.LawS2520AAddSet", spec := "lawS2520AAddSet", apart := false }
def LawS2520AAddSetSaid : Prop := lawS2520AAddSetRow.holds Yba.pinned (OpenSpec.ofChange lawS2520AAddSetSpec)

/-- ITS FALSE NEIGHBOUR: 'it returns false'. Refute it at one input. -/
def lawS2520AAddSetWrong : ChangeSpec := { name := "lawS2520AAddSet", fn := fun _ => fun
  | [d1, d2] => { results := [.lit (.bool false)], args := [d1, d2] }
  | _ => none }
def LawS2520AAddSetWrongFalsely : Prop := lawS2520AAddSetRow.holds Yba.pinned (OpenSpec.ofChange lawS2520AAddSetWrong)

end Rows
end Go.Proofs.Ybulkazdy
