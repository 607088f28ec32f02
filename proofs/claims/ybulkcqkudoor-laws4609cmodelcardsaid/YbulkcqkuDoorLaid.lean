/-
  WHAT THE CONDITION 'laid' GIVES: the sentinel's cell; a world that meets it.
-/
import Derived.Test.YbulkcqkuDoorRows
import Derived.WalkKit
import Derived.ProofKit
import Derived.LaidMore
import Derived.OpenShut
import Derived.ShutString
import Derived.ChangeOld
import Derived.Below
import Derived.WalkSmall
import Derived.Stop.Joined
import Derived.Stop.LaidErr
namespace Go.Proofs.YbulkcqkuDoor
open Go.ChangeShapes Go.WideShapes Go.ChangeAt Go.RowKit
set_option linter.unusedVariables false

/-- The variable's name, off the given row. -/
abbrev errName : String := Rows.lawS4609CRoundTripRow.named.headD ""
abbrev laidList : List (String × DataW Unit) := Rows.lawS4609CRoundTripRow.laid

theorem own : ownKnob Ybad.prog.godebug = none := by kernel_rfl
theorem laidOut : laidOutB Ybad.prog = true := by kernel_rfl
theorem gE : Ybad.prog.globalNamed errName = some 0 := by kernel_rfl
theorem tE : (Ybad.prog.globals[0]?).map (·.type) = some 27 := by kernel_rfl
/-- The dynamic type's name, off the given datum. -/
def nmOf : DataW Unit → String
  | .iface nm _ => nm
  | _ => ""
abbrev dynName : String := nmOf Rows.laid_example_com_parley_parley_errMalformed
theorem row39 (u : TypeId) (h : Ybad.prog.typeName? 3 u = some dynName) : u = 39 :=
  typeName_ptr_named (nm := "errors.errorString") (by kernel_rfl) (by kernel_rfl) (by decide) u (h.trans (congrArg some (by decide)))
theorem cells41 : Ybad.prog.cellsOf 41 = 1 := by kernel_rfl
theorem cells9 : Ybad.prog.cellsOf 9 = 1 := by kernel_rfl

theorem err_of_laid {W : World} (h : laidMetH Ybad.prog laidList W) : ∃ a : Addr, W.var? Ybad.prog errName = some #[.iface 39 (.pointer (some a))] := by
  rw [MakeChecks.laidMetH_plain _ _ _ (by kernel_rfl)] at h
  obtain ⟨a, s, hv, _⟩ := laid_sentinel h gE tE Ybad.underlying27 row39 Ybad.underlying39 Ybad.underlying41 rfl rfl Ybad.underlying9 cells41 cells9
  exact ⟨a, hv⟩

theorem door_met (os : Os) (args : Array Value) : laidMetH Ybad.prog laidList ((World.doorLaid Ybad.prog 28 os).forCall (fun _ _ => 0) ⟨#[], args, []⟩).memory :=
  laidMetH_of_parts3 (fuel := 8) (laidMet_of_run' 8 (by kernel_rfl) (by kernel_rfl)) (by kernel_rfl) (by kernel_rfl)
end Go.Proofs.YbulkcqkuDoor
