/-
  No cell of these rows narrows 'for every input' (looked for: loops, veiled, ifaces, maps, wideKeys, modest, calm, conditions, laid).
  DERIVED. THE GIVEN ROWS OF THIS SEAT. 1 by the template 'for every input the law returns true; each argument reads behind the call as it read before'; 0 by the template 'total and deterministic' (their statements: YbulkpecTotals.lean).
  GIVEN WITH THE SEED: the statements are not yours to turn. If you find one false, say at which input.
  Laid BY PROGRAM, IN A SANDBOX (cutbox-rows.mjs): the forced cells as the released guide's own fill.sh prints them over the translation 117c6444a500805a… (all of the seat's roots in one cut). By AI agents, Wed Nov 11 2026. No macro, syntax, notation, axiom, sorry.
-/
import Derived.Test.YbulkpecChecked
import GoSem.Claim
import GoSem.ClaimJoined
import GoSem.ClaimMapViews
import Derived.JoinedTies
import Derived.KernelRfl
namespace Go.Proofs.Ybulkpec
/- THE CELL 'sum', in the pinned program and in every row, IS THE sha256 OF THE DUMP (.gsa) THAT YbulkpecProg.lean LOADS. Nothing in Lean hashes anything: it is a label: what it is worth is what the hold of that sum in a sandbox is worth. -/
noncomputable def Yba.pinned : Pinned := { name := "ybulkpec", sum := "117c6444a500805a48426fe362023403ded1ee5c0eea3668dbd88af8689a5844", checked := Yba.checked }
namespace Rows
def none {H : Type} : Left H := { results := [], args := [] }

/-- 'election.LawS0782ALead': WHATEVER THE INPUT: true; the input reads as it did. -/
def lawS0782ALeadSpec : ChangeSpec := { name := "lawS0782ALead", fn := fun _ => fun
  | [d] => { results := [.lit (.bool true)], args := [d] }
  | _ => none }
def lawS0782ALeadRow : OpenClaim := { program := "ybulkpec", sum := "117c6444a500805a48426fe362023403ded1ee5c0eea3668dbd88af8689a5844", func := "example.com/votary/votary/internal/election.LawS0782ALead", spec := "lawS0782ALead", unfollowed := true, recurses := true, apart := false }
def LawS0782ALeadSaid : Prop := lawS0782ALeadRow.holds Yba.pinned (OpenSpec.ofChange lawS0782ALeadSpec)

/-- ITS FALSE NEIGHBOUR: 'it returns false'. Refute it at one input. -/
def lawS0782ALeadWrong : ChangeSpec := { name := "lawS0782ALead", fn := fun _ => fun
  | [d] => { results := [.lit (.bool false)], args := [d] }
  | _ => none }
def LawS0782ALeadWrongFalsely : Prop := lawS0782ALeadRow.holds Yba.pinned (OpenSpec.ofChange lawS0782ALeadWrong)

end Rows
end Go.Proofs.Ybulkpec
