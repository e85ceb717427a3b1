/-
  No cell of these rows narrows 'for every input' (looked for: loops, veiled, ifaces, maps, wideKeys, modest, calm, conditions, laid).
  DERIVED. THE GIVEN ROWS OF THIS SEAT. 2 by the template 'for every input the law returns true; each argument reads behind the call as it read before'; 0 by the template 'total and deterministic' (their statements: YbulkfjyTotals.lean).
  GIVEN WITH THE SEED: the statements are not yours to turn. If you find one false, say at which input.
  Laid BY PROGRAM, IN A SANDBOX (cutbox-rows.mjs): the forced cells as the released guide's own fill.sh prints them over the translation ad2c23b01ce00b4f… (all of the seat's roots in one cut). By AI agents, Wed Nov 11 2026. No macro, syntax, notation, axiom, sorry.
-/
import Derived.Test.YbulkfjyChecked
import GoSem.Claim
import GoSem.ClaimJoined
import GoSem.ClaimMapViews
import Derived.JoinedTies
import Derived.KernelRfl
namespace Go.Proofs.Ybulkfjy
/- THE CELL 'sum', in the pinned program and in every row, IS THE sha256 OF THE DUMP (.gsa) THAT YbulkfjyProg.lean LOADS. Nothing in Lean hashes anything: it is a label: what it is worth is what the hold of that sum in a sandbox is worth. -/
noncomputable def Yba.pinned : Pinned := { name := "ybulkfjy", sum := "ad2c23b01ce00b4f340079a216b8bc6914d69cad51f9f770bb8c2bf26b9b1e3f", checked := Yba.checked }
namespace Rows
def none {H : Type} : Left H := { results := [], args := [] }

/-- 'cc.LawS0310BTable': WHATEVER THE INPUT: true; the input reads as it did. -/
def lawS0310BTableSpec : ChangeSpec := { name := "lawS0310BTable", fn := fun _ => fun
  | [d1, d2, d3] => { results := [.lit (.bool true)], args := [d1, d2, d3] }
  | _ => none }
def lawS0310BTableRow : OpenClaim := { program := "ybulkfjy", sum := "ad2c23b01ce00b4f340079a216b8bc6914d69cad51f9f770bb8c2bf26b9b1e3f", func := "example.com/spanwright/spanwright/internal/cc.LawS0310BTable", spec := "lawS0310BTable", apart := false }
def LawS0310BTableSaid : Prop := lawS0310BTableRow.holds Yba.pinned (OpenSpec.ofChange lawS0310BTableSpec)

/-- ITS FALSE NEIGHBOUR: 'it returns false'. Refute it at one input. -/
def lawS0310BTableWrong : ChangeSpec := { name := "lawS0310BTable", fn := fun _ => fun
  | [d1, d2, d3] => { results := [.lit (.bool false)], args := [d1, d2, d3] }
  | _ => none }
def LawS0310BTableWrongFalsely : Prop := lawS0310BTableRow.holds Yba.pinned (OpenSpec.ofChange lawS0310BTableWrong)

/-- 'cc.LawS0310BSmall': WHATEVER THE INPUT: true; the input reads as it did. -/
def lawS0310BSmallSpec : ChangeSpec := { name := "lawS0310BSmall", fn := fun _ => fun
  | [d1, d2, d3] => { results := [.lit (.bool true)], args := [d1, d2, d3] }
  | _ => none }
def lawS0310BSmallRow : OpenClaim := { program := "ybulkfjy", sum := "ad2c23b01ce00b4f340079a216b8bc6914d69cad51f9f770bb8c2bf26b9b1e3f", func := "example.com/spanwright/spanwright/internal/cc.LawS0310BSmall", spec := "lawS0310BSmall", apart := false }
def LawS0310BSmallSaid : Prop := lawS0310BSmallRow.holds Yba.pinned (OpenSpec.ofChange lawS0310BSmallSpec)

/-- ITS FALSE NEIGHBOUR: 'it returns false'. Refute it at one input. -/
def lawS0310BSmallWrong : ChangeSpec := { name := "lawS0310BSmall", fn := fun _ => fun
  | [d1, d2, d3] => { results := [.lit (.bool false)], args := [d1, d2, d3] }
  | _ => none }
def LawS0310BSmallWrongFalsely : Prop := lawS0310BSmallRow.holds Yba.pinned (OpenSpec.ofChange lawS0310BSmallWrong)

end Rows
end Go.Proofs.Ybulkfjy
