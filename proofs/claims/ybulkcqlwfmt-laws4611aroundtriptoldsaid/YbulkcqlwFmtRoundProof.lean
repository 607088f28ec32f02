/-
  THE TOLD AND TIED CARD OF LawS4611ARoundTrip.
-/
import Derived.Test.YbulkcqlwFmtLaid
import Derived.Test.YbulkcqlwFmtRound
import Derived.Test.YbulkcqlwFmtStops
import Derived.Test.YbulkcqlwFmtTie
import Derived.Test.YbulkcqlwFmtCards
import Derived.Deep.DeepWitnessRef
import Derived.Stop.JoinedTold
import Derived.SevenTiedAt
namespace Go.Proofs.YbulkcqlwFmt
open Go.ChangeShapes Go.WideShapes Go.ChangeAt Go.RowKit Go.Extern.Stop Go.Stop Go.Extern
set_option linter.unusedVariables false

theorem round_row (os : Os) {H : Type} (enc : TypeId × Value → H) : (OpenSpec.ofChange Rows.lawS4611ARoundTripSpec).preRow enc Ybaf.prog Ybaf.f5 [] false laidList ((World.doorLaid Ybaf.prog 30 os).forCall (fun _ _ => 0) ⟨#[], #[.int .u8 0, .int .i64 0], []⟩).memory #[.int .u8 0, .int .i64 0] :=
  OpenSpec.preRow_of_B rfl 8 (by kernel_rfl) (by kernel_rfl) (door_met os _)

set_option maxRecDepth 100000 in
theorem round_lifted (os : Os) (started : os.Started) (H : Type) (enc : TypeId × Value → H) :
    ReturnsInTold none {} Ybaf.checked os 5 .any Input.okWide ((OpenSpec.ofChange Rows.lawS4611ARoundTripSpec).preRow enc Ybaf.prog Ybaf.f5 [] false laidList) (fun F => ((OpenSpec.ofChange Rows.lawS4611ARoundTripSpec).at F).post enc Ybaf.prog Ybaf.f5 false true false false) (aloneAtReturn Ybaf.prog) nothingAlways := by
  refine returnsInTold_of_row (C := Ybaf.checked) (s := OpenSpec.ofChange Rows.lawS4611ARoundTripSpec) (by kernel_rfl) own started (by kernel_rfl) Ybaf.func5
    (OpenSpec.witness_stopped_atRef (enc := enc) (C := Ybaf.checked) false (World.doorLaid Ybaf.prog 30 os) #[.int .u8 0, .int .i64 0] rfl (by kernel_rfl) (by kernel_rfl) (by kernel_rfl) (round_row os enc)) ?_
  intro F W base args ds gs before _ hF hval0 hW _ _ hsz hL _
  have hval : ∀ (j : Nat) t v, Ybaf.f5.params[j]? = some t → args[j]? = some v → Value.okWide Ybaf.prog W .any base t v := hval0
  have hW' := hW
  obtain ⟨p, q, hA0, hV0, rfl, hfz, hnd⟩ := hW
  have hA : DataW.TrodAll enc Ybaf.prog W 0 (fun _ => true) true Ybaf.f5.params.toList args.toList ds p := hA0
  have hV : DataW.TrodVars enc Ybaf.prog W (fun _ => true) [tabName] gs q := hV0
  rw [Ybaf.params5] at hA hval
  obtain ⟨v0, v1, d0, d1, p0, p1, rfl, rfl, rfl, h0, h1⟩ := trodAll_two hA
  obtain ⟨x, rfl, rfl, rfl, wx⟩ := open_int Ybaf.underlying5 (hval 0 5 v0 rfl rfl) h0
  obtain ⟨m, rfl, rfl, rfl, wm⟩ := open_int Ybaf.underlying3 (hval 1 3 v1 rfl rfl) h1
  obtain ⟨g, o, hT⟩ := tab_of_laid hL
  have hb := bounds_u8 wx
  have hpos : 0 < W.heap.size := World.block_lt_of_cell? W _ hT.t0
  have hltq : ∀ y ∈ q, y.block < W.heap.size := fun y hy => by simpa using hW'.lt y (List.mem_append_right _ hy)
  have key : Calls Ybaf.prog 5 #[.int .u8 x, .int .i64 m] W fun e w' => e = .returned (.bool true) ∧ Below W.heap.size W w' := by
    cases he : (x % 2 == 1)
    · exact round_even x m g o W hT hb.1 hb.2 he
    · exact round_odd x m g o W hT hb.1 hb.2 he
  obtain ⟨d, rfl⟩ : ∃ d, gs = [d] := by
    obtain ⟨_, _, _, _, d, _, rfl, _⟩ := trodVars_one hV
    exact ⟨d, rfl⟩
  clear hA0 hval0 hV0
  refine key.mono fun e W' ⟨he, bel⟩ => ?_
  subst he
  exact ⟨_, rfl, _, _, _, [], _, q, hW', trodAll_mk1 (shut_bool Ybaf.underlying4 _), trodAll_mk2 (shut_int Ybaf.underlying5 wx) (shut_int Ybaf.underlying3 wm), vars_again hV bel hltq hpos, bel.frame _, fun h => by cases h⟩

theorem lawS4611ARoundTrip_card : Rows.LawS4611ARoundTripToldSaid :=
  Claim7.holds_of_told_tied_any_at   .later 5 Ybaf.f5 "fmt.errorf" ["fmt.Sprintf"] [] _ _ _ _ _ (by kernel_rfl) rfl rfl rfl laidOut (by kernel_rfl) rfl ⟨rfl, rfl, rfl, rfl, rfl, rfl, rfl⟩ rfl rfl (by kernel_rfl) (by kernel_rfl) Ybaf.func5 (by kernel_rfl)
    (of_decide_eq_true (by kernel_rfl)) (of_decide_eq_true (by kernel_rfl)) stopsAre.symm rfl knobsAre.symm (by kernel_rfl)
    (by kernel_rfl) (by kernel_rfl) (by kernel_rfl) (by kernel_rfl) (by kernel_rfl) (by kernel_rfl) (by kernel_rfl) (by kernel_rfl) (by kernel_rfl) rfl (by kernel_rfl) rfl rfl
    rfl rfl
    rfl (by kernel_rfl) (by kernel_rfl) (by kernel_rfl) (by decide) (by kernel_rfl) lawS4611ARoundTrip_row_tie
    (OpenClaim.moreEntering_of (by kernel_rfl) (by kernel_rfl) (by kernel_rfl) (by kernel_rfl) (by kernel_rfl) (by kernel_rfl) (by kernel_rfl) (by kernel_rfl) (by kernel_rfl) (by kernel_rfl))
    ⟨_, WideRow.started_initial, quietIs _⟩
    (fun os started _ H enc _ => round_lifted os started H enc)
end Go.Proofs.YbulkcqlwFmt
