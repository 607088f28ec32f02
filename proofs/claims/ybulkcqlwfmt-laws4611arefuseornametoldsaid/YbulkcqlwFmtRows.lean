/-
  NARROWER THAN 'FOR EVERY INPUT', by the rows' own cells (each row's printed sentence says how): LawS4611ARefuseOrName: laid · LawS4611ANames: laid · LawS4611ARoundTrip: laid · LawS4611BIndex: laid.
  DERIVED. THE GIVEN ROWS OF THIS SEAT. 4 by the template 'for every input the law returns true; each argument reads behind the call as it read before'; 0 by the template 'total and deterministic' (their statements: YbulkcqlwFmtTotals.lean).
  GIVEN WITH THE SEED: the statements are not yours to turn. If you find one false, say at which input.
  Laid BY PROGRAM, IN A SANDBOX (cutbox-rows.mjs): the forced cells as the released guide's own fill.sh prints them over the translation 1a28863ec7e4c006… (all of the seat's roots in one cut). By AI agents, Wed Nov 11 2026. No macro, syntax, notation, axiom, sorry.
-/
import Derived.Test.YbulkcqlwFmtChecked
import GoSem.Claim
import GoSem.ClaimJoined
import GoSem.ClaimMapViews
import Derived.JoinedTies
import Derived.KernelRfl
namespace Go.Proofs.YbulkcqlwFmt
/- THE CELL 'sum', in the pinned program and in every row, IS THE sha256 OF THE DUMP (.gsa) THAT YbulkcqlwFmtProg.lean LOADS. Nothing in Lean hashes anything: it is a label: what it is worth is what the hold of that sum in a sandbox is worth. -/
noncomputable def Ybaf.pinned : Pinned := { name := "ybulkcqlwfmt", sum := "1a28863ec7e4c0061f3e8ebf01c4f16ba49b6a8bb8694cafc699678af50a4f1e", checked := Ybaf.checked }
namespace Rows
def none {H : Type} : Left H := { results := [], args := [] }

/- WHAT THE LISTED PACKAGE-LEVEL VARIABLES READ AS WHEN THE CALL BEGINS. Each datum BY PROGRAM (the guide's laid-datum.mjs) off the statement by which the dump's own 'gosem.cut.vars' lays the variable. In a bare row this is a premise. The card (YbulkcqlwFmtCards.lean) ties it to the program's text. -/
def laid_example_com_outyear_outyear_dollarsNames {H : Type} : DataW H := .agg [.lit (.string [68, 111, 108, 108, 97, 114, 115]), .lit (.string [100, 111, 108, 108, 97, 114, 115]), .lit (.string [97, 32, 107, 105, 110, 100, 32, 111, 102, 32, 100, 111, 108, 108, 97, 114, 115]), .slice [.lit (.string [99, 111, 110, 115, 116, 97, 110, 116]), .lit (.string [116, 104, 101, 110, 45, 121, 101, 97, 114])] []]
def laid_math_bits_deBruijn32tab {H : Type} : DataW H := .agg [.lit (.int .u8 0), .lit (.int .u8 1), .lit (.int .u8 28), .lit (.int .u8 2), .lit (.int .u8 29), .lit (.int .u8 14), .lit (.int .u8 24), .lit (.int .u8 3), .lit (.int .u8 30), .lit (.int .u8 22), .lit (.int .u8 20), .lit (.int .u8 15), .lit (.int .u8 25), .lit (.int .u8 17), .lit (.int .u8 4), .lit (.int .u8 8), .lit (.int .u8 31), .lit (.int .u8 27), .lit (.int .u8 13), .lit (.int .u8 23), .lit (.int .u8 21), .lit (.int .u8 19), .lit (.int .u8 16), .lit (.int .u8 7), .lit (.int .u8 26), .lit (.int .u8 12), .lit (.int .u8 18), .lit (.int .u8 6), .lit (.int .u8 11), .lit (.int .u8 5), .lit (.int .u8 10), .lit (.int .u8 9)]
def laid_math_bits_deBruijn64tab {H : Type} : DataW H := .agg [.lit (.int .u8 0), .lit (.int .u8 1), .lit (.int .u8 56), .lit (.int .u8 2), .lit (.int .u8 57), .lit (.int .u8 49), .lit (.int .u8 28), .lit (.int .u8 3), .lit (.int .u8 61), .lit (.int .u8 58), .lit (.int .u8 42), .lit (.int .u8 50), .lit (.int .u8 38), .lit (.int .u8 29), .lit (.int .u8 17), .lit (.int .u8 4), .lit (.int .u8 62), .lit (.int .u8 47), .lit (.int .u8 59), .lit (.int .u8 36), .lit (.int .u8 45), .lit (.int .u8 43), .lit (.int .u8 51), .lit (.int .u8 22), .lit (.int .u8 53), .lit (.int .u8 39), .lit (.int .u8 33), .lit (.int .u8 30), .lit (.int .u8 24), .lit (.int .u8 18), .lit (.int .u8 12), .lit (.int .u8 5), .lit (.int .u8 63), .lit (.int .u8 55), .lit (.int .u8 48), .lit (.int .u8 27), .lit (.int .u8 60), .lit (.int .u8 41), .lit (.int .u8 37), .lit (.int .u8 16), .lit (.int .u8 46), .lit (.int .u8 35), .lit (.int .u8 44), .lit (.int .u8 21), .lit (.int .u8 52), .lit (.int .u8 32), .lit (.int .u8 23), .lit (.int .u8 11), .lit (.int .u8 54), .lit (.int .u8 26), .lit (.int .u8 40), .lit (.int .u8 15), .lit (.int .u8 34), .lit (.int .u8 20), .lit (.int .u8 31), .lit (.int .u8 10), .lit (.int .u8 25), .lit (.int .u8 14), .lit (.int .u8 19), .lit (.int .u8 9), .lit (.int .u8 13), .lit (.int .u8 8), .lit (.int .u8 7), .lit (.int .u8 6)]
def laid_internal_strconv_uint64pow10 {H : Type} : DataW H := .agg [.lit (.int .u64 1), .lit (.int .u64 10), .lit (.int .u64 100), .lit (.int .u64 1000), .lit (.int .u64 10000), .lit (.int .u64 100000), .lit (.int .u64 1000000), .lit (.int .u64 10000000), .lit (.int .u64 100000000), .lit (.int .u64 1000000000), .lit (.int .u64 10000000000), .lit (.int .u64 100000000000), .lit (.int .u64 1000000000000), .lit (.int .u64 10000000000000), .lit (.int .u64 100000000000000), .lit (.int .u64 1000000000000000), .lit (.int .u64 10000000000000000), .lit (.int .u64 100000000000000000), .lit (.int .u64 1000000000000000000), .lit (.int .u64 10000000000000000000)]

/-- 'outyear.LawS4611ARefuseOrName': WHATEVER THE INPUT: true; the input reads as it did. -/
def lawS4611ARefuseOrNameSpec : ChangeSpec := { name := "lawS4611ARefuseOrName", vars := ["example.com/outyear/outyear.dollarsNames"], fn := fun _ => fun
  | [d1, d2, g1] => { results := [.lit (.bool true)], args := [d1, d2], vars := [g1] }
  | _ => none }
def lawS4611ARefuseOrNameRow : OpenClaim := { program := "ybulkcqlwfmt", sum := "1a28863ec7e4c0061f3e8ebf01c4f16ba49b6a8bb8694cafc699678af50a4f1e", func := "example.com/outyear/outyear.LawS4611ARefuseOrName", spec := "lawS4611ARefuseOrName", stops := ["fmt.errorf", "fmt.Sprintf"], inPlace := ["internal/abi.NoEscape", "internal/bytealg.MakeNoZero", "fmt.errorf"], named := ["example.com/outyear/outyear.dollarsNames"], apart := false, laid := [("example.com/outyear/outyear.dollarsNames", laid_example_com_outyear_outyear_dollarsNames)] }
/-- NO THEOREM (fmt's text is open here; it may be false): for the released tool's asking of the row's closed facts alone. THE STATEMENT IS 'LawS4611ARefuseOrNameToldSaid' (YbulkcqlwFmtCards.lean). -/
def LawS4611ARefuseOrNameFormAsk : Prop := lawS4611ARefuseOrNameRow.holds Ybaf.pinned (OpenSpec.ofChange lawS4611ARefuseOrNameSpec)

/-- ITS FALSE NEIGHBOUR: 'it returns false'. Refute it at one input. -/
def lawS4611ARefuseOrNameWrong : ChangeSpec := { name := "lawS4611ARefuseOrName", vars := ["example.com/outyear/outyear.dollarsNames"], fn := fun _ => fun
  | [d1, d2, g1] => { results := [.lit (.bool false)], args := [d1, d2], vars := [g1] }
  | _ => none }
def LawS4611ARefuseOrNameWrongFormAsk : Prop := lawS4611ARefuseOrNameRow.holds Ybaf.pinned (OpenSpec.ofChange lawS4611ARefuseOrNameWrong)

/-- 'outyear.LawS4611ANames': WHATEVER THE INPUT: true; the input reads as it did. -/
def lawS4611ANamesSpec : ChangeSpec := { name := "lawS4611ANames", vars := ["example.com/outyear/outyear.dollarsNames"], fn := fun _ => fun
  | [d1, d2, g1] => { results := [.lit (.bool true)], args := [d1, d2], vars := [g1] }
  | _ => none }
def lawS4611ANamesRow : OpenClaim := { program := "ybulkcqlwfmt", sum := "1a28863ec7e4c0061f3e8ebf01c4f16ba49b6a8bb8694cafc699678af50a4f1e", func := "example.com/outyear/outyear.LawS4611ANames", spec := "lawS4611ANames", stops := ["fmt.errorf", "fmt.Sprintf"], inPlace := ["internal/abi.NoEscape", "internal/bytealg.MakeNoZero", "fmt.errorf"], named := ["example.com/outyear/outyear.dollarsNames"], apart := false, laid := [("example.com/outyear/outyear.dollarsNames", laid_example_com_outyear_outyear_dollarsNames)] }
/-- NO THEOREM (fmt's text is open here; it may be false): for the released tool's asking of the row's closed facts alone. THE STATEMENT IS 'LawS4611ANamesToldSaid' (YbulkcqlwFmtCards.lean). -/
def LawS4611ANamesFormAsk : Prop := lawS4611ANamesRow.holds Ybaf.pinned (OpenSpec.ofChange lawS4611ANamesSpec)

/-- ITS FALSE NEIGHBOUR: 'it returns false'. Refute it at one input. -/
def lawS4611ANamesWrong : ChangeSpec := { name := "lawS4611ANames", vars := ["example.com/outyear/outyear.dollarsNames"], fn := fun _ => fun
  | [d1, d2, g1] => { results := [.lit (.bool false)], args := [d1, d2], vars := [g1] }
  | _ => none }
def LawS4611ANamesWrongFormAsk : Prop := lawS4611ANamesRow.holds Ybaf.pinned (OpenSpec.ofChange lawS4611ANamesWrong)

/-- 'outyear.LawS4611ARoundTrip': WHATEVER THE INPUT: true; the input reads as it did. -/
def lawS4611ARoundTripSpec : ChangeSpec := { name := "lawS4611ARoundTrip", vars := ["example.com/outyear/outyear.dollarsNames"], fn := fun _ => fun
  | [d1, d2, g1] => { results := [.lit (.bool true)], args := [d1, d2], vars := [g1] }
  | _ => none }
def lawS4611ARoundTripRow : OpenClaim := { program := "ybulkcqlwfmt", sum := "1a28863ec7e4c0061f3e8ebf01c4f16ba49b6a8bb8694cafc699678af50a4f1e", func := "example.com/outyear/outyear.LawS4611ARoundTrip", spec := "lawS4611ARoundTrip", stops := ["fmt.errorf", "fmt.Sprintf"], inPlace := ["fmt.Sprintf", "fmt.errorf", "internal/abi.NoEscape", "internal/bytealg.MakeNoZero"], named := ["example.com/outyear/outyear.dollarsNames"], apart := false, laid := [("example.com/outyear/outyear.dollarsNames", laid_example_com_outyear_outyear_dollarsNames)] }
/-- NO THEOREM (fmt's text is open here; it may be false): for the released tool's asking of the row's closed facts alone. THE STATEMENT IS 'LawS4611ARoundTripToldSaid' (YbulkcqlwFmtCards.lean). -/
def LawS4611ARoundTripFormAsk : Prop := lawS4611ARoundTripRow.holds Ybaf.pinned (OpenSpec.ofChange lawS4611ARoundTripSpec)

/-- ITS FALSE NEIGHBOUR: 'it returns false'. Refute it at one input. -/
def lawS4611ARoundTripWrong : ChangeSpec := { name := "lawS4611ARoundTrip", vars := ["example.com/outyear/outyear.dollarsNames"], fn := fun _ => fun
  | [d1, d2, g1] => { results := [.lit (.bool false)], args := [d1, d2], vars := [g1] }
  | _ => none }
def LawS4611ARoundTripWrongFormAsk : Prop := lawS4611ARoundTripRow.holds Ybaf.pinned (OpenSpec.ofChange lawS4611ARoundTripWrong)

/-- 'outyear.LawS4611BIndex': WHATEVER THE INPUT: true; the input reads as it did. -/
def lawS4611BIndexSpec : ChangeSpec := { name := "lawS4611BIndex", fn := fun _ => fun
  | [d1, d2, d3, d4] => { results := [.lit (.bool true)], args := [d1, d2, d3, d4] }
  | _ => none }
def lawS4611BIndexRow : OpenClaim := { program := "ybulkcqlwfmt", sum := "1a28863ec7e4c0061f3e8ebf01c4f16ba49b6a8bb8694cafc699678af50a4f1e", func := "example.com/outyear/outyear.LawS4611BIndex", spec := "lawS4611BIndex", stops := ["fmt.errorf", "fmt.Sprintf"], inPlace := ["math.Float64bits", "math.Float64frombits", "fmt.errorf"], named := ["internal/strconv.uint64pow10", "math/bits.deBruijn32tab", "math/bits.deBruijn64tab"], apart := false, laid := [("math/bits.deBruijn32tab", laid_math_bits_deBruijn32tab), ("math/bits.deBruijn64tab", laid_math_bits_deBruijn64tab), ("internal/strconv.uint64pow10", laid_internal_strconv_uint64pow10)] }
/-- NO THEOREM (fmt's text is open here; it may be false): for the released tool's asking of the row's closed facts alone. THE STATEMENT IS 'LawS4611BIndexToldSaid' (YbulkcqlwFmtCards.lean). -/
def LawS4611BIndexFormAsk : Prop := lawS4611BIndexRow.holds Ybaf.pinned (OpenSpec.ofChange lawS4611BIndexSpec)

/-- ITS FALSE NEIGHBOUR: 'it returns false'. Refute it at one input. -/
def lawS4611BIndexWrong : ChangeSpec := { name := "lawS4611BIndex", fn := fun _ => fun
  | [d1, d2, d3, d4] => { results := [.lit (.bool false)], args := [d1, d2, d3, d4] }
  | _ => none }
def LawS4611BIndexWrongFormAsk : Prop := lawS4611BIndexRow.holds Ybaf.pinned (OpenSpec.ofChange lawS4611BIndexWrong)

end Rows
end Go.Proofs.YbulkcqlwFmt
