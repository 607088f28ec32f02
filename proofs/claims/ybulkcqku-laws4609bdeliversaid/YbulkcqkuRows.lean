/-
  No cell of these rows narrows 'for every input' (looked for: loops, veiled, ifaces, maps, wideKeys, modest, calm, conditions, laid).
  DERIVED. THE GIVEN ROWS OF THIS SEAT. 2 by the template 'for every input the law returns true; each argument reads behind the call as it read before'; 0 by the template 'total and deterministic' (their statements: YbulkcqkuTotals.lean).
  GIVEN WITH THE SEED: the statements are not yours to turn. If you find one false, say at which input.
  Laid BY PROGRAM, IN A SANDBOX (cutbox-rows.mjs): the forced cells as the released guide's own fill.sh prints them over the translation 805298fff3f50dfa… (all of the seat's roots in one cut). By AI agents, Wed Nov 11 2026. No macro, syntax, notation, axiom, sorry.
-/
import Derived.Test.YbulkcqkuChecked
import GoSem.Claim
import GoSem.ClaimJoined
import GoSem.ClaimMapViews
import Derived.JoinedTies
import Derived.KernelRfl
namespace Go.Proofs.Ybulkcqku
/- THE CELL 'sum', in the pinned program and in every row, IS THE sha256 OF THE DUMP (.gsa) THAT YbulkcqkuProg.lean LOADS. Nothing in Lean hashes anything: it is a label: what it is worth is what the hold of that sum in a sandbox is worth. -/
noncomputable def Yba.pinned : Pinned := { name := "ybulkcqku", sum := "805298fff3f50dfacd4ce66fac4443eee7a49db68a4f673cf0f6b7a116dfa5db", checked := Yba.checked }
namespace Rows
def none {H : Type} : Left H := { results := [], args := [] }

/-- 'parley.LawS4609AExact': WHATEVER THE INPUT: true; the input reads as it did. -/
def lawS4609AExactSpec : ChangeSpec := { name := "lawS4609AExact", fn := fun _ => fun
  | [d] => { results := [.lit (.bool true)], args := [d] }
  | _ => none }
def lawS4609AExactRow : OpenClaim := { program := "ybulkcqku", sum := "805298fff3f50dfacd4ce66fac4443eee7a49db68a4f673cf0f6b7a116dfa5db", func := "example.com/parley/parley.LawS4609AExact", spec := "lawS4609AExact", apart := false }
def LawS4609AExactSaid : Prop := lawS4609AExactRow.holds Yba.pinned (OpenSpec.ofChange lawS4609AExactSpec)

/-- ITS FALSE NEIGHBOUR: 'it returns false'. Refute it at one input. -/
def lawS4609AExactWrong : ChangeSpec := { name := "lawS4609AExact", fn := fun _ => fun
  | [d] => { results := [.lit (.bool false)], args := [d] }
  | _ => none }
def LawS4609AExactWrongFalsely : Prop := lawS4609AExactRow.holds Yba.pinned (OpenSpec.ofChange lawS4609AExactWrong)

/-- 'sim.LawS4609BDeliver': WHATEVER THE INPUT: true; the input reads as it did. -/
def lawS4609BDeliverSpec : ChangeSpec := { name := "lawS4609BDeliver", fn := fun _ => fun
  | [d1, d2] => { results := [.lit (.bool true)], args := [d1, d2] }
  | _ => none }
def lawS4609BDeliverRow : OpenClaim := { program := "ybulkcqku", sum := "805298fff3f50dfacd4ce66fac4443eee7a49db68a4f673cf0f6b7a116dfa5db", func := "example.com/parley/parley/internal/sim.LawS4609BDeliver", spec := "lawS4609BDeliver", unfollowed := true, recurses := true, apart := false }
def LawS4609BDeliverSaid : Prop := lawS4609BDeliverRow.holds Yba.pinned (OpenSpec.ofChange lawS4609BDeliverSpec)

/-- ITS FALSE NEIGHBOUR: 'it returns false'. Refute it at one input. -/
def lawS4609BDeliverWrong : ChangeSpec := { name := "lawS4609BDeliver", fn := fun _ => fun
  | [d1, d2] => { results := [.lit (.bool false)], args := [d1, d2] }
  | _ => none }
def LawS4609BDeliverWrongFalsely : Prop := lawS4609BDeliverRow.holds Yba.pinned (OpenSpec.ofChange lawS4609BDeliverWrong)

end Rows
end Go.Proofs.Ybulkcqku
