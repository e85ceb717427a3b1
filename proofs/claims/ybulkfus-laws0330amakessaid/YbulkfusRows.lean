/-
  No cell of these rows narrows 'for every input' (looked for: loops, veiled, ifaces, maps, wideKeys, modest, calm, conditions, laid).
  DERIVED. THE GIVEN ROWS OF THIS SEAT. 2 by the template 'for every input the law returns true; each argument reads behind the call as it read before'; 0 by the template 'total and deterministic' (their statements: YbulkfusTotals.lean).
  GIVEN WITH THE SEED: the statements are not yours to turn. If you find one false, say at which input.
  Laid BY PROGRAM, IN A SANDBOX (cutbox-rows.mjs): the forced cells as the released guide's own fill.sh prints them over the translation a1a9dc975b009642… (all of the seat's roots in one cut). By AI agents, Wed Nov 11 2026. No macro, syntax, notation, axiom, sorry.
-/
import Derived.Test.YbulkfusChecked
import GoSem.Claim
import GoSem.ClaimJoined
import GoSem.ClaimMapViews
import Derived.JoinedTies
import Derived.KernelRfl
namespace Go.Proofs.Ybulkfus
/- THE CELL 'sum', in the pinned program and in every row, IS THE sha256 OF THE DUMP (.gsa) THAT YbulkfusProg.lean LOADS. Nothing in Lean hashes anything: it is a label: what it is worth is what the hold of that sum in a sandbox is worth. -/
noncomputable def Yba.pinned : Pinned := { name := "ybulkfus", sum := "a1a9dc975b009642b0b0100f7bf96bd70364ab7dab6f82ed614f30ab5d6cdebe", checked := Yba.checked }
namespace Rows
def none {H : Type} : Left H := { results := [], args := [] }

/-- 'joinfold.LawS0330AMakes': WHATEVER THE INPUT: true; the input reads as it did. -/
def lawS0330AMakesSpec : ChangeSpec := { name := "lawS0330AMakes", fn := fun _ => fun
  | [d] => { results := [.lit (.bool true)], args := [d] }
  | _ => none }
def lawS0330AMakesRow : OpenClaim := { program := "ybulkfus", sum := "a1a9dc975b009642b0b0100f7bf96bd70364ab7dab6f82ed614f30ab5d6cdebe", func := "example.com/joinfold/joinfold.LawS0330AMakes", spec := "lawS0330AMakes", plainKeys := false, apart := false }
def LawS0330AMakesSaid : Prop := lawS0330AMakesRow.holds Yba.pinned (OpenSpec.ofChange lawS0330AMakesSpec)

/-- ITS FALSE NEIGHBOUR: 'it returns false'. Refute it at one input. -/
def lawS0330AMakesWrong : ChangeSpec := { name := "lawS0330AMakes", fn := fun _ => fun
  | [d] => { results := [.lit (.bool false)], args := [d] }
  | _ => none }
def LawS0330AMakesWrongFalsely : Prop := lawS0330AMakesRow.holds Yba.pinned (OpenSpec.ofChange lawS0330AMakesWrong)

/-- 'joinfold.LawS0330AAgrees': WHATEVER THE INPUT: true; the input reads as it did. -/
def lawS0330AAgreesSpec : ChangeSpec := { name := "lawS0330AAgrees", fn := fun _ => fun
  | [d] => { results := [.lit (.bool true)], args := [d] }
  | _ => none }
def lawS0330AAgreesRow : OpenClaim := { program := "ybulkfus", sum := "a1a9dc975b009642b0b0100f7bf96bd70364ab7dab6f82ed614f30ab5d6cdebe", func := "example.com/joinfold/joinfold.LawS0330AAgrees", spec := "lawS0330AAgrees", plainKeys := false, apart := false }
def LawS0330AAgreesSaid : Prop := lawS0330AAgreesRow.holds Yba.pinned (OpenSpec.ofChange lawS0330AAgreesSpec)

/-- ITS FALSE NEIGHBOUR: 'it returns false'. Refute it at one input. -/
def lawS0330AAgreesWrong : ChangeSpec := { name := "lawS0330AAgrees", fn := fun _ => fun
  | [d] => { results := [.lit (.bool false)], args := [d] }
  | _ => none }
def LawS0330AAgreesWrongFalsely : Prop := lawS0330AAgreesRow.holds Yba.pinned (OpenSpec.ofChange lawS0330AAgreesWrong)

end Rows
end Go.Proofs.Ybulkfus
