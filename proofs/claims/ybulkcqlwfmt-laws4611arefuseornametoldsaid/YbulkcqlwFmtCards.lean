/-
  DERIVED. GIVEN WITH THE SEED: THE CARDS: each row of YbulkcqlwFmtRows.lean that lists a variable, with what it lists TIED to the program's text (the seventh form; the later family's looks); each row that meets fmt, with fmt's text TOLD by the authors' own Lean function (tested against real Go, not proved from fmt's source: count such statements apart). THE CARD IS WHAT COUNTS. Prove the row's statement (the work); the ties are given (YbulkcqlwFmtTie.lean); close each card by the builder's one call (the guide's Derived/Test/ToyasCard.lean, 'card_holds'). Laid BY PROGRAM, IN A SANDBOX (cutbox-door.mjs). By AI agents, Wed Nov 11 2026. No macro, syntax, notation, axiom, sorry.
-/
import Derived.Test.YbulkcqlwFmtRows
import GoSem.ClaimSeven
namespace Go.Proofs.YbulkcqlwFmt
namespace Rows

/-- THE TOLD AND TIED CARD OF 'outyear.LawS4611ARefuseOrName'. -/
def lawS4611ARefuseOrNameCard : Claim7 := { stood := { row := lawS4611ARefuseOrNameRow, standIns := [], harness := (true, "f97a9c42f31f4f861c8664f5c700b252c30389daeae5084e8203315d92e59d02"), looks := false }, told := true, laidByText := true, laidKinds := [.widerDeep], laidTests := true, laidLooks := .later, goes := false }
def LawS4611ARefuseOrNameToldSaid : Prop := Claim7.holds Ybaf.pinned (.plain (OpenSpec.ofChange lawS4611ARefuseOrNameSpec)) lawS4611ARefuseOrNameCard
/-- ITS FALSE NEIGHBOUR. Refute it at one input. -/
def LawS4611ARefuseOrNameToldWrongFalsely : Prop := Claim7.holds Ybaf.pinned (.plain (OpenSpec.ofChange lawS4611ARefuseOrNameWrong)) lawS4611ARefuseOrNameCard

/-- THE TOLD AND TIED CARD OF 'outyear.LawS4611ANames'. -/
def lawS4611ANamesCard : Claim7 := { stood := { row := lawS4611ANamesRow, standIns := [], harness := (true, "f97a9c42f31f4f861c8664f5c700b252c30389daeae5084e8203315d92e59d02"), looks := false }, told := true, laidByText := true, laidKinds := [.widerDeep], laidTests := true, laidLooks := .later, goes := false }
def LawS4611ANamesToldSaid : Prop := Claim7.holds Ybaf.pinned (.plain (OpenSpec.ofChange lawS4611ANamesSpec)) lawS4611ANamesCard
/-- ITS FALSE NEIGHBOUR. Refute it at one input. -/
def LawS4611ANamesToldWrongFalsely : Prop := Claim7.holds Ybaf.pinned (.plain (OpenSpec.ofChange lawS4611ANamesWrong)) lawS4611ANamesCard

/-- THE TOLD AND TIED CARD OF 'outyear.LawS4611ARoundTrip'. -/
def lawS4611ARoundTripCard : Claim7 := { stood := { row := lawS4611ARoundTripRow, standIns := [], harness := (true, "f97a9c42f31f4f861c8664f5c700b252c30389daeae5084e8203315d92e59d02"), looks := false }, told := true, laidByText := true, laidKinds := [.widerDeep], laidTests := true, laidLooks := .later, goes := false }
def LawS4611ARoundTripToldSaid : Prop := Claim7.holds Ybaf.pinned (.plain (OpenSpec.ofChange lawS4611ARoundTripSpec)) lawS4611ARoundTripCard
/-- ITS FALSE NEIGHBOUR. Refute it at one input. -/
def LawS4611ARoundTripToldWrongFalsely : Prop := Claim7.holds Ybaf.pinned (.plain (OpenSpec.ofChange lawS4611ARoundTripWrong)) lawS4611ARoundTripCard

/-- THE TOLD AND TIED CARD OF 'outyear.LawS4611BIndex'. -/
def lawS4611BIndexCard : Claim7 := { stood := { row := lawS4611BIndexRow, standIns := [], harness := (true, "f97a9c42f31f4f861c8664f5c700b252c30389daeae5084e8203315d92e59d02"), looks := false }, told := true, laidByText := true, laidKinds := [.data, .data, .data], laidTests := true, laidLooks := .later, goes := false }
def LawS4611BIndexToldSaid : Prop := Claim7.holds Ybaf.pinned (.plain (OpenSpec.ofChange lawS4611BIndexSpec)) lawS4611BIndexCard
/-- ITS FALSE NEIGHBOUR. Refute it at one input. -/
def LawS4611BIndexToldWrongFalsely : Prop := Claim7.holds Ybaf.pinned (.plain (OpenSpec.ofChange lawS4611BIndexWrong)) lawS4611BIndexCard
end Rows
end Go.Proofs.YbulkcqlwFmt
