/-
  No cell of these rows narrows 'for every input' (looked for: loops, veiled, ifaces, maps, wideKeys, modest, calm, conditions, laid).
  DERIVED. THE GIVEN ROWS OF THIS SEAT. 1 by the template 'for every input the law returns true; each argument reads behind the call as it read before'; 0 by the template 'total and deterministic' (their statements: YbulkazgcTotals.lean).
  GIVEN WITH THE SEED: the statements are not yours to turn. If you find one false, say at which input.
  Laid BY PROGRAM, IN A SANDBOX (cutbox-rows.mjs): the forced cells as the released guide's own fill.sh prints them over the translation 4c14dbd99ad5ec0b… (all of the seat's roots in one cut). By AI agents, Wed Nov 11 2026. No macro, syntax, notation, axiom, sorry.
-/
import Derived.Test.YbulkazgcChecked
import GoSem.Claim
import GoSem.ClaimJoined
import GoSem.ClaimMapViews
import Derived.JoinedTies
import Derived.KernelRfl
namespace Go.Proofs.Ybulkazgc
/- THE CELL 'sum', in the pinned program and in every row, IS THE sha256 OF THE DUMP (.gsa) THAT YbulkazgcProg.lean LOADS. Nothing in Lean hashes anything: it is a label: what it is worth is what the hold of that sum in a sandbox is worth. -/
noncomputable def Yba.pinned : Pinned := { name := "ybulkazgc", sum := "4c14dbd99ad5ec0b1890b95dea8168d7b89082aab7e590e600a87ad5ee8ade49", checked := Yba.checked }
namespace Rows
def none {H : Type} : Left H := { results := [], args := [] }

/-- 'history.LawS2524CShows': WHATEVER THE INPUT: true; the input reads as it did. -/
def lawS2524CShowsSpec : ChangeSpec := { name := "lawS2524CShows", fn := fun _ => fun
  | [d1, d2, d3, d4, d5, d6, d7, d8] => { results := [.lit (.bool true)], args := [d1, d2, d3, d4, d5, d6, d7, d8] }
  | _ => none }
def lawS2524CShowsRow : OpenClaim := { program := "ybulkazgc", sum := "4c14dbd99ad5ec0b1890b95dea8168d7b89082aab7e590e600a87ad5ee8ade49", func := "example.com/synodic/synodic/internal/history.LawS2524CShows", spec := "lawS2524CShows", apart := false }
def LawS2524CShowsSaid : Prop := lawS2524CShowsRow.holds Yba.pinned (OpenSpec.ofChange lawS2524CShowsSpec)

/-- ITS FALSE NEIGHBOUR: 'it returns false'. Refute it at one input. -/
def lawS2524CShowsWrong : ChangeSpec := { name := "lawS2524CShows", fn := fun _ => fun
  | [d1, d2, d3, d4, d5, d6, d7, d8] => { results := [.lit (.bool false)], args := [d1, d2, d3, d4, d5, d6, d7, d8] }
  | _ => none }
def LawS2524CShowsWrongFalsely : Prop := lawS2524CShowsRow.holds Yba.pinned (OpenSpec.ofChange lawS2524CShowsWrong)

end Rows
end Go.Proofs.Ybulkazgc
