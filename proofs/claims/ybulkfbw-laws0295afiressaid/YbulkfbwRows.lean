/-
  No cell of these rows narrows 'for every input' (looked for: loops, veiled, ifaces, maps, wideKeys, modest, calm, conditions, laid).
  DERIVED. THE GIVEN ROWS OF THIS SEAT. 4 by the template 'for every input the law returns true; each argument reads behind the call as it read before'; 0 by the template 'total and deterministic' (their statements: YbulkfbwTotals.lean).
  GIVEN WITH THE SEED: the statements are not yours to turn. If you find one false, say at which input.
  Laid BY PROGRAM, IN A SANDBOX (cutbox-rows.mjs): the forced cells as the released guide's own fill.sh prints them over the translation cb7fc2935d1617b0… (all of the seat's roots in one cut). By AI agents, Wed Nov 11 2026. No macro, syntax, notation, axiom, sorry.
-/
import Derived.Test.YbulkfbwChecked
import GoSem.Claim
import GoSem.ClaimJoined
import GoSem.ClaimMapViews
import Derived.JoinedTies
import Derived.KernelRfl
namespace Go.Proofs.Ybulkfbw
/- THE CELL 'sum', in the pinned program and in every row, IS THE sha256 OF THE DUMP (.gsa) THAT YbulkfbwProg.lean LOADS. Nothing in Lean hashes anything: it is a label: what it is worth is what the hold of that sum in a sandbox is worth. -/
noncomputable def Yba.pinned : Pinned := { name := "ybulkfbw", sum := "cb7fc2935d1617b0489e5551d2eca2e21be3a8f077c38b8a647274c32ff51f8f", checked := Yba.checked }
namespace Rows
def none {H : Type} : Left H := { results := [], args := [] }

/-- 'tree.LawS0295AFires': WHATEVER THE INPUT: true; the input reads as it did. -/
def lawS0295AFiresSpec : ChangeSpec := { name := "lawS0295AFires", fn := fun _ => fun
  | [d1, d2, d3] => { results := [.lit (.bool true)], args := [d1, d2, d3] }
  | _ => none }
def lawS0295AFiresRow : OpenClaim := { program := "ybulkfbw", sum := "cb7fc2935d1617b0489e5551d2eca2e21be3a8f077c38b8a647274c32ff51f8f", func := "example.com/quorumtree/quorumtree/internal/tree.LawS0295AFires", spec := "lawS0295AFires", inPlace := ["(*internal/sync.Mutex).Lock", "internal/race.Disable", "sync/atomic.CompareAndSwapInt32", "internal/race.Enable", "internal/race.Acquire", "(*internal/sync.Mutex).lockSlow", "internal/sync.runtime_canSpin", "internal/sync.runtime_doSpin", "internal/sync.throw", "internal/sync.runtime_nanotime", "internal/sync.runtime_SemacquireMutex", "sync/atomic.AddInt32", "(*internal/sync.Mutex).Unlock", "internal/race.ReleaseMerge", "(*internal/sync.Mutex).unlockSlow", "internal/sync.fatal", "internal/sync.runtime_Semrelease"], unfollowed := true, recurses := true, apart := false }
def LawS0295AFiresSaid : Prop := lawS0295AFiresRow.holds Yba.pinned (OpenSpec.ofChange lawS0295AFiresSpec)

/-- ITS FALSE NEIGHBOUR: 'it returns false'. Refute it at one input. -/
def lawS0295AFiresWrong : ChangeSpec := { name := "lawS0295AFires", fn := fun _ => fun
  | [d1, d2, d3] => { results := [.lit (.bool false)], args := [d1, d2, d3] }
  | _ => none }
def LawS0295AFiresWrongFalsely : Prop := lawS0295AFiresRow.holds Yba.pinned (OpenSpec.ofChange lawS0295AFiresWrong)

/-- 'proto.LawS0295BFrame': WHATEVER THE INPUT: true; the input reads as it did. -/
def lawS0295BFrameSpec : ChangeSpec := { name := "lawS0295BFrame", fn := fun _ => fun
  | [d] => { results := [.lit (.bool true)], args := [d] }
  | _ => none }
def lawS0295BFrameRow : OpenClaim := { program := "ybulkfbw", sum := "cb7fc2935d1617b0489e5551d2eca2e21be3a8f077c38b8a647274c32ff51f8f", func := "example.com/quorumtree/quorumtree/internal/proto.LawS0295BFrame", spec := "lawS0295BFrame", unfollowed := true, recurses := true, named := ["encoding/binary.BigEndian"], apart := false }
def LawS0295BFrameSaid : Prop := lawS0295BFrameRow.holds Yba.pinned (OpenSpec.ofChange lawS0295BFrameSpec)

/-- ITS FALSE NEIGHBOUR: 'it returns false'. Refute it at one input. -/
def lawS0295BFrameWrong : ChangeSpec := { name := "lawS0295BFrame", fn := fun _ => fun
  | [d] => { results := [.lit (.bool false)], args := [d] }
  | _ => none }
def LawS0295BFrameWrongFalsely : Prop := lawS0295BFrameRow.holds Yba.pinned (OpenSpec.ofChange lawS0295BFrameWrong)

/-- 'proto.LawS0295BError': WHATEVER THE INPUT: true; the input reads as it did. -/
def lawS0295BErrorSpec : ChangeSpec := { name := "lawS0295BError", fn := fun _ => fun
  | [d1, d2] => { results := [.lit (.bool true)], args := [d1, d2] }
  | _ => none }
def lawS0295BErrorRow : OpenClaim := { program := "ybulkfbw", sum := "cb7fc2935d1617b0489e5551d2eca2e21be3a8f077c38b8a647274c32ff51f8f", func := "example.com/quorumtree/quorumtree/internal/proto.LawS0295BError", spec := "lawS0295BError", unfollowed := true, recurses := true, named := ["encoding/binary.BigEndian"], apart := false }
def LawS0295BErrorSaid : Prop := lawS0295BErrorRow.holds Yba.pinned (OpenSpec.ofChange lawS0295BErrorSpec)

/-- ITS FALSE NEIGHBOUR: 'it returns false'. Refute it at one input. -/
def lawS0295BErrorWrong : ChangeSpec := { name := "lawS0295BError", fn := fun _ => fun
  | [d1, d2] => { results := [.lit (.bool false)], args := [d1, d2] }
  | _ => none }
def LawS0295BErrorWrongFalsely : Prop := lawS0295BErrorRow.holds Yba.pinned (OpenSpec.ofChange lawS0295BErrorWrong)

/-- 'ensemble.LawS0295CRecords': WHATEVER THE INPUT: true; the input reads as it did. -/
def lawS0295CRecordsSpec : ChangeSpec := { name := "lawS0295CRecords", fn := fun _ => fun
  | [d1, d2] => { results := [.lit (.bool true)], args := [d1, d2] }
  | _ => none }
def lawS0295CRecordsRow : OpenClaim := { program := "ybulkfbw", sum := "cb7fc2935d1617b0489e5551d2eca2e21be3a8f077c38b8a647274c32ff51f8f", func := "example.com/quorumtree/quorumtree/internal/ensemble.LawS0295CRecords", spec := "lawS0295CRecords", named := ["encoding/binary.BigEndian"], apart := false }
def LawS0295CRecordsSaid : Prop := lawS0295CRecordsRow.holds Yba.pinned (OpenSpec.ofChange lawS0295CRecordsSpec)

/-- ITS FALSE NEIGHBOUR: 'it returns false'. Refute it at one input. -/
def lawS0295CRecordsWrong : ChangeSpec := { name := "lawS0295CRecords", fn := fun _ => fun
  | [d1, d2] => { results := [.lit (.bool false)], args := [d1, d2] }
  | _ => none }
def LawS0295CRecordsWrongFalsely : Prop := lawS0295CRecordsRow.holds Yba.pinned (OpenSpec.ofChange lawS0295CRecordsWrong)

end Rows
end Go.Proofs.Ybulkfbw
