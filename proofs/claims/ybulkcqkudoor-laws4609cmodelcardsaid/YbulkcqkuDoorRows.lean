/-
  NARROWER THAN 'FOR EVERY INPUT', by the rows' own cells (each row's printed sentence says how): LawS4609CModel: ifaces, laid · LawS4609CRoundTrip: ifaces, laid.
  DERIVED. THE GIVEN ROWS OF THIS SEAT. 2 by the template 'for every input the law returns true; each argument reads behind the call as it read before'; 0 by the template 'total and deterministic' (their statements: YbulkcqkuDoorTotals.lean).
  GIVEN WITH THE SEED: the statements are not yours to turn. If you find one false, say at which input.
  Laid BY PROGRAM, IN A SANDBOX (cutbox-rows.mjs): the forced cells as the released guide's own fill.sh prints them over the translation 478d93fc3bcc0e82… (all of the seat's roots in one cut). By AI agents, Wed Nov 11 2026. No macro, syntax, notation, axiom, sorry.
-/
import Derived.Test.YbulkcqkuDoorChecked
import GoSem.Claim
import GoSem.ClaimJoined
import GoSem.ClaimMapViews
import Derived.JoinedTies
import Derived.KernelRfl
namespace Go.Proofs.YbulkcqkuDoor
/- THE CELL 'sum', in the pinned program and in every row, IS THE sha256 OF THE DUMP (.gsa) THAT YbulkcqkuDoorProg.lean LOADS. Nothing in Lean hashes anything: it is a label: what it is worth is what the hold of that sum in a sandbox is worth. -/
noncomputable def Ybad.pinned : Pinned := { name := "ybulkcqkudoor", sum := "478d93fc3bcc0e82280d62b63d48a64c6993a38e59700def627f08d84d403c03", checked := Ybad.checked }
namespace Rows
def none {H : Type} : Left H := { results := [], args := [] }

/- WHAT THE LISTED PACKAGE-LEVEL VARIABLES READ AS WHEN THE CALL BEGINS. Each datum BY PROGRAM (the guide's laid-datum.mjs) off the statement by which the dump's own 'gosem.cut.vars' lays the variable. In a bare row this is a premise. The card (YbulkcqkuDoorCards.lean) ties it to the program's text. -/
def laid_example_com_parley_parley_errMalformed {H : Type} : DataW H := .iface "*errors.errorString" (.ptr (.agg [.lit (.string [109, 97, 108, 102, 111, 114, 109, 101, 100, 32, 109, 101, 115, 115, 97, 103, 101])]))

/-- 'parley.LawS4609CModel': WHATEVER THE INPUT: true; the input reads as it did. -/
def lawS4609CModelSpec : ChangeSpec := { name := "lawS4609CModel", vars := ["example.com/parley/parley.errMalformed"], fn := fun _ => fun
  | [d1, d2, d3, g1] => { results := [.lit (.bool true)], args := [d1, d2, d3], vars := [g1] }
  | _ => none }
def lawS4609CModelRow : OpenClaim := { program := "ybulkcqkudoor", sum := "478d93fc3bcc0e82280d62b63d48a64c6993a38e59700def627f08d84d403c03", func := "example.com/parley/parley.LawS4609CModel", spec := "lawS4609CModel", named := ["example.com/parley/parley.errMalformed"], ifaces := true, apart := false, laid := [("example.com/parley/parley.errMalformed", laid_example_com_parley_parley_errMalformed)] }
def LawS4609CModelSaid : Prop := lawS4609CModelRow.holds Ybad.pinned (OpenSpec.ofChange lawS4609CModelSpec)

/-- ITS FALSE NEIGHBOUR: 'it returns false'. Refute it at one input. -/
def lawS4609CModelWrong : ChangeSpec := { name := "lawS4609CModel", vars := ["example.com/parley/parley.errMalformed"], fn := fun _ => fun
  | [d1, d2, d3, g1] => { results := [.lit (.bool false)], args := [d1, d2, d3], vars := [g1] }
  | _ => none }
def LawS4609CModelWrongFalsely : Prop := lawS4609CModelRow.holds Ybad.pinned (OpenSpec.ofChange lawS4609CModelWrong)

/-- 'parley.LawS4609CRoundTrip': WHATEVER THE INPUT: true; the input reads as it did. -/
def lawS4609CRoundTripSpec : ChangeSpec := { name := "lawS4609CRoundTrip", vars := ["example.com/parley/parley.errMalformed"], fn := fun _ => fun
  | [d1, d2, d3, g1] => { results := [.lit (.bool true)], args := [d1, d2, d3], vars := [g1] }
  | _ => none }
def lawS4609CRoundTripRow : OpenClaim := { program := "ybulkcqkudoor", sum := "478d93fc3bcc0e82280d62b63d48a64c6993a38e59700def627f08d84d403c03", func := "example.com/parley/parley.LawS4609CRoundTrip", spec := "lawS4609CRoundTrip", named := ["example.com/parley/parley.errMalformed"], ifaces := true, apart := false, laid := [("example.com/parley/parley.errMalformed", laid_example_com_parley_parley_errMalformed)] }
def LawS4609CRoundTripSaid : Prop := lawS4609CRoundTripRow.holds Ybad.pinned (OpenSpec.ofChange lawS4609CRoundTripSpec)

/-- ITS FALSE NEIGHBOUR: 'it returns false'. Refute it at one input. -/
def lawS4609CRoundTripWrong : ChangeSpec := { name := "lawS4609CRoundTrip", vars := ["example.com/parley/parley.errMalformed"], fn := fun _ => fun
  | [d1, d2, d3, g1] => { results := [.lit (.bool false)], args := [d1, d2, d3], vars := [g1] }
  | _ => none }
def LawS4609CRoundTripWrongFalsely : Prop := lawS4609CRoundTripRow.holds Ybad.pinned (OpenSpec.ofChange lawS4609CRoundTripWrong)

end Rows
end Go.Proofs.YbulkcqkuDoor
