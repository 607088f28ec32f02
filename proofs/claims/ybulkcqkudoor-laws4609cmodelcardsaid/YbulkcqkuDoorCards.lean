/-
  DERIVED. GIVEN WITH THE SEED: THE CARDS: each row of YbulkcqkuDoorRows.lean that lists a variable, with what it lists TIED to the program's text (the seventh form; the later family's looks); each row that meets fmt, with fmt's text TOLD by the authors' own Lean function (tested against real Go, not proved from fmt's source: count such statements apart). THE CARD IS WHAT COUNTS. Prove the row's statement (the work); the ties are given (YbulkcqkuDoorTie.lean); close each card by the builder's one call (the guide's Derived/Test/ToyasCard.lean, 'card_holds'). Laid BY PROGRAM, IN A SANDBOX (cutbox-door.mjs). By AI agents, Wed Nov 11 2026. No macro, syntax, notation, axiom, sorry.
-/
import Derived.Test.YbulkcqkuDoorRows
import GoSem.ClaimSeven
namespace Go.Proofs.YbulkcqkuDoor
namespace Rows

/-- THE TIED CARD OF 'parley.LawS4609CModel'. -/
def lawS4609CModelCard : Claim7 := { stood := { row := lawS4609CModelRow, standIns := [], harness := (true, "43b81908ed8fab0bb09befc61bae9bac99636d8ef18268649b409d45490aafaa"), looks := true }, kinds := [], alts := [], laidByText := true, laidKinds := [.sentinel], laidTests := true, laidLooks := .later }
def LawS4609CModelCardSaid : Prop := Claim7.holds Ybad.pinned (.plain (OpenSpec.ofChange lawS4609CModelSpec)) lawS4609CModelCard

/-- THE TIED CARD OF 'parley.LawS4609CRoundTrip'. -/
def lawS4609CRoundTripCard : Claim7 := { stood := { row := lawS4609CRoundTripRow, standIns := [], harness := (true, "43b81908ed8fab0bb09befc61bae9bac99636d8ef18268649b409d45490aafaa"), looks := true }, kinds := [], alts := [], laidByText := true, laidKinds := [.sentinel], laidTests := true, laidLooks := .later }
def LawS4609CRoundTripCardSaid : Prop := Claim7.holds Ybad.pinned (.plain (OpenSpec.ofChange lawS4609CRoundTripSpec)) lawS4609CRoundTripCard
end Rows
end Go.Proofs.YbulkcqkuDoor
