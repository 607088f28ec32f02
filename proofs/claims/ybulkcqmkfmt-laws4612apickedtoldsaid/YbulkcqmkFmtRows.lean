/-
  NARROWER THAN 'FOR EVERY INPUT', by the rows' own cells (each row's printed sentence says how): LawS4612ADirect: maps.
  DERIVED. THE GIVEN ROWS OF THIS SEAT. 2 by the template 'for every input the law returns true; each argument reads behind the call as it read before'; 0 by the template 'total and deterministic' (their statements: YbulkcqmkFmtTotals.lean).
  GIVEN WITH THE SEED: the statements are not yours to turn. If you find one false, say at which input.
  Laid BY PROGRAM, IN A SANDBOX (cutbox-rows.mjs): the forced cells as the released guide's own fill.sh prints them over the translation 6c5bd2365a0f6ab9… (all of the seat's roots in one cut). By AI agents, Wed Nov 11 2026. No macro, syntax, notation, axiom, sorry.
-/
import Derived.Test.YbulkcqmkFmtChecked
import GoSem.Claim
import GoSem.ClaimJoined
import GoSem.ClaimMapViews
import Derived.JoinedTies
import Derived.KernelRfl
namespace Go.Proofs.YbulkcqmkFmt
/- THE CELL 'sum', in the pinned program and in every row, IS THE sha256 OF THE DUMP (.gsa) THAT YbulkcqmkFmtProg.lean LOADS. Nothing in Lean hashes anything: it is a label: what it is worth is what the hold of that sum in a sandbox is worth. -/
noncomputable def Ybaf.pinned : Pinned := { name := "ybulkcqmkfmt", sum := "6c5bd2365a0f6ab94485850a5c2428d41fc2acb309b6a3307474ccf661d6b6e1", checked := Ybaf.checked }
namespace Rows
def none {H : Type} : Left H := { results := [], args := [] }

/-- 'fund.LawS4612ADirect': WHATEVER THE INPUT: true; the input reads as it did. -/
def lawS4612ADirectSpec : ChangeSpec := { name := "lawS4612ADirect", fn := fun _ => fun
  | [d1, d2, d3] => { results := [.lit (.bool true)], args := [d1, d2, d3] }
  | _ => none }
def lawS4612ADirectRow : OpenClaim := { program := "ybulkcqmkfmt", sum := "6c5bd2365a0f6ab94485850a5c2428d41fc2acb309b6a3307474ccf661d6b6e1", func := "example.com/tuoguan/tuoguan/fund.LawS4612ADirect", spec := "lawS4612ADirect", stops := ["fmt.Sprintf", "fmt.errorf"], inPlace := ["fmt.errorf", "fmt.Sprintf"], maps := true, apart := false }
/-- NO THEOREM (fmt's text is open here; it may be false): for the released tool's asking of the row's closed facts alone. THE STATEMENT IS 'LawS4612ADirectToldSaid' (YbulkcqmkFmtCards.lean). -/
def LawS4612ADirectFormAsk : Prop := lawS4612ADirectRow.holds Ybaf.pinned (OpenSpec.ofChange lawS4612ADirectSpec)

/-- ITS FALSE NEIGHBOUR: 'it returns false'. Refute it at one input. -/
def lawS4612ADirectWrong : ChangeSpec := { name := "lawS4612ADirect", fn := fun _ => fun
  | [d1, d2, d3] => { results := [.lit (.bool false)], args := [d1, d2, d3] }
  | _ => none }
def LawS4612ADirectWrongFormAsk : Prop := lawS4612ADirectRow.holds Ybaf.pinned (OpenSpec.ofChange lawS4612ADirectWrong)

/-- 'fund.LawS4612APicked': WHATEVER THE INPUT: true; the input reads as it did. -/
def lawS4612APickedSpec : ChangeSpec := { name := "lawS4612APicked", fn := fun _ => fun
  | [d1, d2, d3] => { results := [.lit (.bool true)], args := [d1, d2, d3] }
  | _ => none }
def lawS4612APickedRow : OpenClaim := { program := "ybulkcqmkfmt", sum := "6c5bd2365a0f6ab94485850a5c2428d41fc2acb309b6a3307474ccf661d6b6e1", func := "example.com/tuoguan/tuoguan/fund.LawS4612APicked", spec := "lawS4612APicked", stops := ["fmt.Sprintf", "fmt.errorf"], inPlace := ["fmt.errorf", "fmt.Sprintf"], apart := false }
/-- NO THEOREM (fmt's text is open here; it may be false): for the released tool's asking of the row's closed facts alone. THE STATEMENT IS 'LawS4612APickedToldSaid' (YbulkcqmkFmtCards.lean). -/
def LawS4612APickedFormAsk : Prop := lawS4612APickedRow.holds Ybaf.pinned (OpenSpec.ofChange lawS4612APickedSpec)

/-- ITS FALSE NEIGHBOUR: 'it returns false'. Refute it at one input. -/
def lawS4612APickedWrong : ChangeSpec := { name := "lawS4612APicked", fn := fun _ => fun
  | [d1, d2, d3] => { results := [.lit (.bool false)], args := [d1, d2, d3] }
  | _ => none }
def LawS4612APickedWrongFormAsk : Prop := lawS4612APickedRow.holds Ybaf.pinned (OpenSpec.ofChange lawS4612APickedWrong)

end Rows
end Go.Proofs.YbulkcqmkFmt
