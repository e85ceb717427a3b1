/-
  No cell of these rows narrows 'for every input' (looked for: loops, veiled, ifaces, maps, wideKeys, modest, calm, conditions, laid).
  DERIVED. THE GIVEN ROWS OF THIS SEAT. 1 by the template 'for every input the law returns true; each argument reads behind the call as it read before'; 0 by the template 'total and deterministic' (their statements: YbulkfiiTotals.lean).
  GIVEN WITH THE SEED: the statements are not yours to turn. If you find one false, say at which input.
  Laid BY PROGRAM, IN A SANDBOX (cutbox-rows.mjs): the forced cells as the released guide's own fill.sh prints them over the translation 319080edfc477d17… (all of the seat's roots in one cut). By AI agents, Wed Nov 11 2026. No macro, syntax, notation, axiom, sorry.
-/
import Derived.Test.YbulkfiiChecked
import GoSem.Claim
import GoSem.ClaimJoined
import GoSem.ClaimMapViews
import Derived.JoinedTies
import Derived.KernelRfl
namespace Go.Proofs.Ybulkfii
/- THE CELL 'sum', in the pinned program and in every row, IS THE sha256 OF THE DUMP (.gsa) THAT YbulkfiiProg.lean LOADS. Nothing in Lean hashes anything: it is a label: what it is worth is what the hold of that sum in a sandbox is worth. -/
noncomputable def Yba.pinned : Pinned := { name := "ybulkfii", sum := "319080edfc477d1733c72963aa3f7741927ba7e6bb8f41c4ea4359d7cacbeb56", checked := Yba.checked }
namespace Rows
def none {H : Type} : Left H := { results := [], args := [] }

/-- 'history.LawS0307AReturned': WHATEVER THE INPUT: true; the input reads as it did. -/
def lawS0307AReturnedSpec : ChangeSpec := { name := "lawS0307AReturned", fn := fun _ => fun
  | [d1, d2, d3, d4] => { results := [.lit (.bool true)], args := [d1, d2, d3, d4] }
  | _ => none }
def lawS0307AReturnedRow : OpenClaim := { program := "ybulkfii", sum := "319080edfc477d1733c72963aa3f7741927ba7e6bb8f41c4ea4359d7cacbeb56", func := "example.com/amalgam/amalgam/history.LawS0307AReturned", spec := "lawS0307AReturned", apart := false }
def LawS0307AReturnedSaid : Prop := lawS0307AReturnedRow.holds Yba.pinned (OpenSpec.ofChange lawS0307AReturnedSpec)

/-- ITS FALSE NEIGHBOUR: 'it returns false'. Refute it at one input. -/
def lawS0307AReturnedWrong : ChangeSpec := { name := "lawS0307AReturned", fn := fun _ => fun
  | [d1, d2, d3, d4] => { results := [.lit (.bool false)], args := [d1, d2, d3, d4] }
  | _ => none }
def LawS0307AReturnedWrongFalsely : Prop := lawS0307AReturnedRow.holds Yba.pinned (OpenSpec.ofChange lawS0307AReturnedWrong)

end Rows
end Go.Proofs.Ybulkfii
