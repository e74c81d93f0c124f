/-
  No cell of these rows narrows 'for every input' (looked for: loops, veiled, ifaces, maps, wideKeys, modest, calm, conditions, laid).
  DERIVED. THE GIVEN ROWS OF THIS SEAT. 2 by the template 'for every input the law returns true; each argument reads behind the call as it read before'; 0 by the template 'total and deterministic' (their statements: YbulkazfaTotals.lean).
  GIVEN WITH THE SEED: the statements are not yours to turn. If you find one false, say at which input.
  Laid BY PROGRAM, IN A SANDBOX (cutbox-rows.mjs): the forced cells as the released guide's own fill.sh prints them over the translation 42b5a62c2efd188a… (all of the seat's roots in one cut). By AI agents, Wed Nov 11 2026. No macro, syntax, notation, axiom, sorry.
-/
import Derived.Test.YbulkazfaChecked
import GoSem.Claim
import GoSem.ClaimJoined
import GoSem.ClaimMapViews
import Derived.JoinedTies
import Derived.KernelRfl
namespace Go.Proofs.Ybulkazfa
/- THE CELL 'sum', in the pinned program and in every row, IS THE sha256 OF THE DUMP (.gsa) THAT YbulkazfaProg.lean LOADS. Nothing in Lean hashes anything: it is a label: what it is worth is what the hold of that sum in a sandbox is worth. -/
noncomputable def Yba.pinned : Pinned := { name := "ybulkazfa", sum := "42b5a62c2efd188a1b988c459092196757082f624b19f3fd8eeac2c6c6ef8f8c", checked := Yba.checked }
namespace Rows
def none {H : Type} : Left H := { results := [], args := [] }

/-- 'gateway.LawS2522CQueue': WHATEVER THE INPUT: true; the input reads as it did. -/
def lawS2522CQueueSpec : ChangeSpec := { name := "lawS2522CQueue", fn := fun _ => fun
  | [d1, d2, d3] => { results := [.lit (.bool true)], args := [d1, d2, d3] }
  | _ => none }
def lawS2522CQueueRow : OpenClaim := { program := "ybulkazfa", sum := "42b5a62c2efd188a1b988c459092196757082f624b19f3fd8eeac2c6c6ef8f8c", func := "example.com/trunkline/trunkline/pkg/gateway.LawS2522CQueue", spec := "lawS2522CQueue", plainKeys := false, apart := false }
def LawS2522CQueueSaid : Prop := lawS2522CQueueRow.holds Yba.pinned (OpenSpec.ofChange lawS2522CQueueSpec)

/-- ITS FALSE NEIGHBOUR: 'it returns false'. Refute it at one input. -/
def lawS2522CQueueWrong : ChangeSpec := { name := "lawS2522CQueue", fn := fun _ => fun
  | [d1, d2, d3] => { results := [.lit (.bool false)], args := [d1, d2, d3] }
  | _ => none }
def LawS2522CQueueWrongFalsely : Prop := lawS2522CQueueRow.holds Yba.pinned (OpenSpec.ofChange lawS2522CQueueWrong)

/-- 'gateway.LawS2522CSequence': WHATEVER THE INPUT: true; the input reads as it did. -/
def lawS2522CSequenceSpec : ChangeSpec := { name := "lawS2522CSequence", fn := fun _ => fun
  | [d] => { results := [.lit (.bool true)], args := [d] }
  | _ => none }
def lawS2522CSequenceRow : OpenClaim := { program := "ybulkazfa", sum := "42b5a62c2efd188a1b988c459092196757082f624b19f3fd8eeac2c6c6ef8f8c", func := "example.com/trunkline/trunkline/pkg/gateway.LawS2522CSequence", spec := "lawS2522CSequence", plainKeys := false, apart := false }
def LawS2522CSequenceSaid : Prop := lawS2522CSequenceRow.holds Yba.pinned (OpenSpec.ofChange lawS2522CSequenceSpec)

/-- ITS FALSE NEIGHBOUR: 'it returns false'. Refute it at one input. -/
def lawS2522CSequenceWrong : ChangeSpec := { name := "lawS2522CSequence", fn := fun _ => fun
  | [d] => { results := [.lit (.bool false)], args := [d] }
  | _ => none }
def LawS2522CSequenceWrongFalsely : Prop := lawS2522CSequenceRow.holds Yba.pinned (OpenSpec.ofChange lawS2522CSequenceWrong)

end Rows
end Go.Proofs.Ybulkazfa
