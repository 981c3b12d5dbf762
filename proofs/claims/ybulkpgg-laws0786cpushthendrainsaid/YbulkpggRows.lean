/-
  No cell of these rows narrows 'for every input' (looked for: loops, veiled, ifaces, maps, wideKeys, modest, calm, conditions, laid).
  DERIVED. THE GIVEN ROWS OF THIS SEAT. 4 by the template 'for every input the law returns true; each argument reads behind the call as it read before'; 0 by the template 'total and deterministic' (their statements: YbulkpggTotals.lean).
  GIVEN WITH THE SEED: the statements are not yours to turn. If you find one false, say at which input.
  Laid BY PROGRAM, IN A SANDBOX (cutbox-rows.mjs): the forced cells as the released guide's own fill.sh prints them over the translation b47535cdffc527cd… (all of the seat's roots in one cut). By AI agents, Wed Nov 11 2026. No macro, syntax, notation, axiom, sorry.
-/
import Derived.Test.YbulkpggChecked
import GoSem.Claim
import GoSem.ClaimJoined
import GoSem.ClaimMapViews
import Derived.JoinedTies
import Derived.KernelRfl
namespace Go.Proofs.Ybulkpgg
/- THE CELL 'sum', in the pinned program and in every row, IS THE sha256 OF THE DUMP (.gsa) THAT YbulkpggProg.lean LOADS. Nothing in Lean hashes anything: it is a label: what it is worth is what the hold of that sum in a sandbox is worth. -/
noncomputable def Yba.pinned : Pinned := { name := "ybulkpgg", sum := "b47535cdffc527cd3f9cb7739e628e68aa2508b4633760a4185c2e8ef4d8d8f0", checked := Yba.checked }
namespace Rows
def none {H : Type} : Left H := { results := [], args := [] }

/-- 'fairlatch.LawS0786BCounts': WHATEVER THE INPUT: true; the input reads as it did. -/
def lawS0786BCountsSpec : ChangeSpec := { name := "lawS0786BCounts", fn := fun _ => fun
  | [d1, d2] => { results := [.lit (.bool true)], args := [d1, d2] }
  | _ => none }
def lawS0786BCountsRow : OpenClaim := { program := "ybulkpgg", sum := "b47535cdffc527cd3f9cb7739e628e68aa2508b4633760a4185c2e8ef4d8d8f0", func := "example.com/fairlatch/fairlatch.LawS0786BCounts", spec := "lawS0786BCounts", inPlace := ["sync/atomic.StoreInt64", "sync/atomic.AddInt64", "sync/atomic.AddUint64", "sync/atomic.LoadInt64", "sync/atomic.LoadUint64"], apart := false }
def LawS0786BCountsSaid : Prop := lawS0786BCountsRow.holds Yba.pinned (OpenSpec.ofChange lawS0786BCountsSpec)

/-- ITS FALSE NEIGHBOUR: 'it returns false'. Refute it at one input. -/
def lawS0786BCountsWrong : ChangeSpec := { name := "lawS0786BCounts", fn := fun _ => fun
  | [d1, d2] => { results := [.lit (.bool false)], args := [d1, d2] }
  | _ => none }
def LawS0786BCountsWrongFalsely : Prop := lawS0786BCountsRow.holds Yba.pinned (OpenSpec.ofChange lawS0786BCountsWrong)

/-- 'fairlatch.LawS0786BMixed': WHATEVER THE INPUT: true; the input reads as it did. -/
def lawS0786BMixedSpec : ChangeSpec := { name := "lawS0786BMixed", fn := fun _ => fun
  | [d] => { results := [.lit (.bool true)], args := [d] }
  | _ => none }
def lawS0786BMixedRow : OpenClaim := { program := "ybulkpgg", sum := "b47535cdffc527cd3f9cb7739e628e68aa2508b4633760a4185c2e8ef4d8d8f0", func := "example.com/fairlatch/fairlatch.LawS0786BMixed", spec := "lawS0786BMixed", inPlace := ["sync/atomic.AddInt64", "sync/atomic.AddUint64", "sync/atomic.LoadUint64", "sync/atomic.LoadInt64"], apart := false }
def LawS0786BMixedSaid : Prop := lawS0786BMixedRow.holds Yba.pinned (OpenSpec.ofChange lawS0786BMixedSpec)

/-- ITS FALSE NEIGHBOUR: 'it returns false'. Refute it at one input. -/
def lawS0786BMixedWrong : ChangeSpec := { name := "lawS0786BMixed", fn := fun _ => fun
  | [d] => { results := [.lit (.bool false)], args := [d] }
  | _ => none }
def LawS0786BMixedWrongFalsely : Prop := lawS0786BMixedRow.holds Yba.pinned (OpenSpec.ofChange lawS0786BMixedWrong)

/-- 'fairlatch.LawS0786CLinkPlaces': WHATEVER THE INPUT: true; the input reads as it did. -/
def lawS0786CLinkPlacesSpec : ChangeSpec := { name := "lawS0786CLinkPlaces", fn := fun _ => fun
  | [d1, d2] => { results := [.lit (.bool true)], args := [d1, d2] }
  | _ => none }
def lawS0786CLinkPlacesRow : OpenClaim := { program := "ybulkpgg", sum := "b47535cdffc527cd3f9cb7739e628e68aa2508b4633760a4185c2e8ef4d8d8f0", func := "example.com/fairlatch/fairlatch.LawS0786CLinkPlaces", spec := "lawS0786CLinkPlaces", inPlace := ["sync/atomic.StoreInt64", "slices.overlaps[int]", "sync/atomic.LoadInt64"], apart := false }
def LawS0786CLinkPlacesSaid : Prop := lawS0786CLinkPlacesRow.holds Yba.pinned (OpenSpec.ofChange lawS0786CLinkPlacesSpec)

/-- ITS FALSE NEIGHBOUR: 'it returns false'. Refute it at one input. -/
def lawS0786CLinkPlacesWrong : ChangeSpec := { name := "lawS0786CLinkPlaces", fn := fun _ => fun
  | [d1, d2] => { results := [.lit (.bool false)], args := [d1, d2] }
  | _ => none }
def LawS0786CLinkPlacesWrongFalsely : Prop := lawS0786CLinkPlacesRow.holds Yba.pinned (OpenSpec.ofChange lawS0786CLinkPlacesWrong)

/-- 'fairlatch.LawS0786CPushThenDrain': WHATEVER THE INPUT: true; the input reads as it did. -/
def lawS0786CPushThenDrainSpec : ChangeSpec := { name := "lawS0786CPushThenDrain", fn := fun _ => fun
  | [d] => { results := [.lit (.bool true)], args := [d] }
  | _ => none }
def lawS0786CPushThenDrainRow : OpenClaim := { program := "ybulkpgg", sum := "b47535cdffc527cd3f9cb7739e628e68aa2508b4633760a4185c2e8ef4d8d8f0", func := "example.com/fairlatch/fairlatch.LawS0786CPushThenDrain", spec := "lawS0786CPushThenDrain", inPlace := ["sync/atomic.StoreInt64", "slices.overlaps[int]", "sync/atomic.LoadInt64"], apart := false }
def LawS0786CPushThenDrainSaid : Prop := lawS0786CPushThenDrainRow.holds Yba.pinned (OpenSpec.ofChange lawS0786CPushThenDrainSpec)

/-- ITS FALSE NEIGHBOUR: 'it returns false'. Refute it at one input. -/
def lawS0786CPushThenDrainWrong : ChangeSpec := { name := "lawS0786CPushThenDrain", fn := fun _ => fun
  | [d] => { results := [.lit (.bool false)], args := [d] }
  | _ => none }
def LawS0786CPushThenDrainWrongFalsely : Prop := lawS0786CPushThenDrainRow.holds Yba.pinned (OpenSpec.ofChange lawS0786CPushThenDrainWrong)

end Rows
end Go.Proofs.Ybulkpgg
