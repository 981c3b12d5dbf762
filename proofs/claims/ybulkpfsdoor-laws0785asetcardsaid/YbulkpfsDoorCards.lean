/-
  DERIVED. GIVEN WITH THE SEED: THE CARDS: each row of YbulkpfsDoorRows.lean that lists a variable, with what it lists TIED to the program's text (the seventh form; the later family's looks); each row that meets fmt, with fmt's text TOLD by the authors' own Lean function (tested against real Go, not proved from fmt's source: count such statements apart). THE CARD IS WHAT COUNTS. Prove the row's statement (the work); the ties are given (YbulkpfsDoorTie.lean); close each card by the builder's one call (the guide's Derived/Test/ToyasCard.lean, 'card_holds'). Laid BY PROGRAM, IN A SANDBOX (cutbox-door.mjs). By AI agents, Wed Nov 11 2026. No macro, syntax, notation, axiom, sorry.
-/
import Derived.Test.YbulkpfsDoorRows
import GoSem.ClaimSeven
namespace Go.Proofs.YbulkpfsDoor
namespace Rows

/-- THE TIED CARD OF 'core.LawS0785AScalar'. -/
def lawS0785AScalarCard : Claim7 := { stood := { row := lawS0785AScalarRow, standIns := [], harness := (true, "b7eb7a2375d593bc1ab67ea0a485d7eb705d5085f24a976bfb8c24b9773cdd3e"), looks := false }, kinds := [], alts := [], laidByText := true, laidKinds := [.data], laidTests := true, laidLooks := .later }
def LawS0785AScalarCardSaid : Prop := Claim7.holds Ybad.pinned (.plain (OpenSpec.ofChange lawS0785AScalarSpec)) lawS0785AScalarCard

/-- THE TIED CARD OF 'core.LawS0785APinned'. -/
def lawS0785APinnedCard : Claim7 := { stood := { row := lawS0785APinnedRow, standIns := [], harness := (true, "b7eb7a2375d593bc1ab67ea0a485d7eb705d5085f24a976bfb8c24b9773cdd3e"), looks := false }, kinds := [], alts := [], laidByText := true, laidKinds := [.data], laidTests := true, laidLooks := .later }
def LawS0785APinnedCardSaid : Prop := Claim7.holds Ybad.pinned (.plain (OpenSpec.ofChange lawS0785APinnedSpec)) lawS0785APinnedCard

/-- THE TIED CARD OF 'core.LawS0785ASet'. -/
def lawS0785ASetCard : Claim7 := { stood := { row := lawS0785ASetRow, standIns := [], harness := (true, "b7eb7a2375d593bc1ab67ea0a485d7eb705d5085f24a976bfb8c24b9773cdd3e"), looks := false }, kinds := [], alts := [], laidByText := true, laidKinds := [.data], laidTests := true, laidLooks := .later }
def LawS0785ASetCardSaid : Prop := Claim7.holds Ybad.pinned (.plain (OpenSpec.ofChange lawS0785ASetSpec)) lawS0785ASetCard
end Rows
end Go.Proofs.YbulkpfsDoor
