/-
  fmt's stops: Errorf at one and two strings, Sprintf at a string and an int.
-/
import Derived.Test.YbulkcqmkFmtRows
import Derived.WalkKit
import Derived.WalkSpells
import Derived.WalkLawsBesides
import Derived.Laws.IdiomStrings
import Derived.Deep.QuietTactic
import Derived.BigQuiet
import Derived.Deep.RegionHeld3
import Derived.Stop.CallBack
import Derived.Stop.IfaceNil
import Derived.Stop.FmtTextSlices
import Derived.Laws.Cells
import GoSem.ClaimData
namespace Go.Proofs.YbulkcqmkFmt
open Go.RowKit Go.Extern.Stop Go.Stop Go.Extern
set_option linter.unusedVariables false
/-- the format of: none listed -/
abbrev noneF : ByteArray := ⟨#[37, 115, 58, 32, 110, 111, 110, 101, 32, 108, 105, 115, 116, 101, 100]⟩
/-- the format of: missing -/
abbrev missF : ByteArray := ⟨#[37, 115, 58, 32, 109, 105, 115, 115, 105, 110, 103]⟩
/-- the format of: listed twice -/
abbrev twiceF : ByteArray := ⟨#[37, 115, 58, 32, 37, 115, 32, 108, 105, 115, 116, 101, 100, 32, 116, 119, 105, 99, 101]⟩
/-- the format of: not one of the profile -/
abbrev classF : ByteArray := ⟨#[37, 115, 58, 32, 37, 115, 32, 105, 115, 32, 110, 111, 116, 32, 111, 110, 101, 32, 111, 102, 32, 116, 104, 101, 32, 112, 114, 111, 102, 105, 108, 101, 39, 115, 32, 99, 108, 97, 115, 115, 101, 115]⟩
/-- the format of the field with its place -/
abbrev fieldF : ByteArray := ⟨#[37, 115, 91, 37, 100, 93]⟩
theorem call10 (args : Array Value) (w : World) : (callFunc 10 args).run Ybaf.prog w = ((FmtStop.errorf #[9, 35] #[25] args).run Ybaf.prog w).andThen fun v w' => .ok (.value v) w' :=
  run_callFunc_extern Ybaf.func10 (by kernel_rfl) (by kernel_rfl) (by kernel_rfl) (by kernel_rfl) args w
theorem call8 (args : Array Value) (w : World) : (callFunc 8 args).run Ybaf.prog w = ((FmtStop.sprintf #[9, 35] #[9] args).run Ybaf.prog w).andThen fun v w' => .ok (.value v) w' :=
  run_callFunc_extern Ybaf.func8 (by kernel_rfl) (by kernel_rfl) (by kernel_rfl) (by kernel_rfl) args w
theorem fguard (name : String) (w : World) : (FmtStop.guard name).run Ybaf.prog w = .ok () w := by kernel_rfl
theorem fp_none (w : World) : (FmtDoors.printed noneF 1).run Ybaf.prog w = .ok [(0, 115, false)] w := by kernel_rfl
theorem fp_miss (w : World) : (FmtDoors.printed missF 1).run Ybaf.prog w = .ok [(0, 115, false)] w := by kernel_rfl
theorem fp_twice (w : World) : (FmtDoors.printed twiceF 2).run Ybaf.prog w = .ok [(0, 115, false), (1, 115, false)] w := by kernel_rfl
theorem fp_class (w : World) : (FmtDoors.printed classF 2).run Ybaf.prog w = .ok [(0, 115, false), (1, 115, false)] w := by kernel_rfl
theorem fp_field : FmtStop.printed? fieldF 2 = some [(0, 115, false), (1, 100, false)] := by kernel_rfl
abbrev shape9 : List UInt8 := [12, 6, 0, 0, 0, 0, 0, 0, 0, 115, 116, 114, 105, 110, 103]
theorem op9 (name : String) (x : ByteArray) (w : World) : (FmtStop.operand name true 115 false (.iface 9 (.string x))).run Ybaf.prog w = .ok (shape9, FmtStop.pack x.data.toList) w := by kernel_rfl
theorem op9' (name : String) (x : ByteArray) (w : World) : (FmtStop.operand name false 115 false (.iface 9 (.string x))).run Ybaf.prog w = .ok (shape9, FmtStop.pack x.data.toList) w := by kernel_rfl
abbrev shape3 : List UInt8 := [5, 3, 0, 0, 0, 0, 0, 0, 0, 105, 110, 116]
theorem op3' (name : String) (x : Int) (w : World) : (FmtStop.operand name false 100 false (.iface 3 (.int .i64 x))).run Ybaf.prog w = .ok (shape3, digits 8 (x % 2 ^ 64).toNat) w := by kernel_rfl
theorem fptr (w : World) : (FmtStop.ptrTo "errors.errorString").run Ybaf.prog w = .ok 38 w := by kernel_rfl
theorem felem (w : World) : (elemOf 38).run Ybaf.prog w = .ok 40 w := by kernel_rfl

attribute [local go_sem] call10 fguard fp_none fp_miss fp_twice fp_class op9 fptr felem

set_option maxHeartbeats 1000000 in
theorem errorf_one (f : ByteArray) (hf : ∀ w, (FmtDoors.printed f 1).run Ybaf.prog w = .ok [(0, 115, false)] w) (b : Nat) (s0 : ByteArray) (w : World) (c0 : w.cell? ⟨b, 0, none⟩ = some (.iface 9 (.string s0))) :
    Calls Ybaf.prog 7 #[.string f, .slice (some ⟨b, 0, none⟩) 1 1] w fun e w' => ∃ a, e = .returned (.iface 38 (.pointer (some a))) ∧ Below w.heap.size w w' := by
  go_enter Ybaf.func7, Ybaf.ntmps7
  go_wp2
  go_ret
  exact ⟨_, rfl, ((Below.refl _ _).alloc (Nat.le_refl _) _).drew⟩

set_option maxHeartbeats 1000000 in
theorem errorf_two (f : ByteArray) (hf : ∀ w, (FmtDoors.printed f 2).run Ybaf.prog w = .ok [(0, 115, false), (1, 115, false)] w) (b : Nat) (s0 s1 : ByteArray) (w : World) (c0 : w.cell? ⟨b, 0, none⟩ = some (.iface 9 (.string s0))) (c1 : w.cell? ⟨b, 1, none⟩ = some (.iface 9 (.string s1))) :
    Calls Ybaf.prog 7 #[.string f, .slice (some ⟨b, 0, none⟩) 2 2] w fun e w' => ∃ a, e = .returned (.iface 38 (.pointer (some a))) ∧ Below w.heap.size w w' := by
  go_enter Ybaf.func7, Ybaf.ntmps7
  go_wp2
  go_ret
  exact ⟨_, rfl, ((Below.refl _ _).alloc (Nat.le_refl _) _).drew⟩

attribute [local go_sem] op9' op3'
/-- Sprintf of a string and an int, as a call's run: some text, one draw. -/
theorem sprintf_run (b : Nat) (s : ByteArray) (i : Int) (w : World) (c0 : w.cell? ⟨b, 0, none⟩ = some (.iface 9 (.string s))) (c1 : w.cell? ⟨b, 1, none⟩ = some (.iface 3 (.int .i64 i))) :
    ∃ t, (callFunc 8 #[.string fieldF, .slice (some ⟨b, 0, none⟩) 2 2]).run Ybaf.prog w = .ok (.value (.string t)) w.drew := by
  rw [call8]
  simp [go_sem, fguard, fp_field, c0, c1, op9', op3']
end Go.Proofs.YbulkcqmkFmt
