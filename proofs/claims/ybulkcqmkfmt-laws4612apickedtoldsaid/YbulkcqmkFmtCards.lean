/-
  DERIVED. GIVEN WITH THE SEED: THE CARDS: each row of YbulkcqmkFmtRows.lean that lists a variable, with what it lists TIED to the program's text (the seventh form; the later family's looks); each row that meets fmt, with fmt's text TOLD by the authors' own Lean function (tested against real Go, not proved from fmt's source: count such statements apart). THE CARD IS WHAT COUNTS. Prove the row's statement (the work); the ties are given (YbulkcqmkFmtTie.lean); close each card by the builder's one call (the guide's Derived/Test/ToyasCard.lean, 'card_holds'). Laid BY PROGRAM, IN A SANDBOX (cutbox-door.mjs). By AI agents, Wed Nov 11 2026. No macro, syntax, notation, axiom, sorry.
-/
import Derived.Test.YbulkcqmkFmtRows
import GoSem.ClaimSeven
namespace Go.Proofs.YbulkcqmkFmt
namespace Rows

/-- THE TOLD CARD OF 'fund.LawS4612ADirect'. -/
def lawS4612ADirectCard : Claim7 := { stood := { row := lawS4612ADirectRow, standIns := [], harness := (true, "8a361d9b6358a13c403c99a8a474f7d3bff20524e14ebc390471224f63a92381"), looks := false }, told := true, goes := false }
def LawS4612ADirectToldSaid : Prop := Claim7.holds Ybaf.pinned (.plain (OpenSpec.ofChange lawS4612ADirectSpec)) lawS4612ADirectCard
/-- ITS FALSE NEIGHBOUR. Refute it at one input. -/
def LawS4612ADirectToldWrongFalsely : Prop := Claim7.holds Ybaf.pinned (.plain (OpenSpec.ofChange lawS4612ADirectWrong)) lawS4612ADirectCard

/-- THE TOLD CARD OF 'fund.LawS4612APicked'. -/
def lawS4612APickedCard : Claim7 := { stood := { row := lawS4612APickedRow, standIns := [], harness := (true, "8a361d9b6358a13c403c99a8a474f7d3bff20524e14ebc390471224f63a92381"), looks := false }, told := true, goes := false }
def LawS4612APickedToldSaid : Prop := Claim7.holds Ybaf.pinned (.plain (OpenSpec.ofChange lawS4612APickedSpec)) lawS4612APickedCard
/-- ITS FALSE NEIGHBOUR. Refute it at one input. -/
def LawS4612APickedToldWrongFalsely : Prop := Claim7.holds Ybaf.pinned (.plain (OpenSpec.ofChange lawS4612APickedWrong)) lawS4612APickedCard
end Rows
end Go.Proofs.YbulkcqmkFmt
