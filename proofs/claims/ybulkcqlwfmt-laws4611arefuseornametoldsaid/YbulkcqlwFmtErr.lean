/-
  fmt.Errorf's stop and choices: what the refusing way of value comes to.
-/
import Derived.Test.YbulkcqlwFmtWalks
import Derived.Deep.RegionHeld3
import Derived.Stop.CallBack
import Derived.Stop.IfaceNil
import Derived.Stop.FmtTextSlices
import Derived.Laws.Cells
import GoSem.ClaimData
namespace Go.Proofs.YbulkcqlwFmt
open Go.RowKit Go.Extern.Stop Go.Stop Go.Extern
set_option linter.unusedVariables false
abbrev fmtS : ByteArray := ⟨#[37, 115, 32, 37, 113, 58, 32, 119, 97, 110, 116, 32, 37, 115]⟩
theorem call27 (args : Array Value) (w : World) : (callFunc 27 args).run Ybaf.prog w = ((FmtStop.errorf #[9, 64] #[25] args).run Ybaf.prog w).andThen fun v w' => .ok (.value v) w' :=
  run_callFunc_extern Ybaf.func27 (by kernel_rfl) (by kernel_rfl) (by kernel_rfl) (by kernel_rfl) args w
theorem fguard (name : String) (w : World) : (FmtStop.guard name).run Ybaf.prog w = .ok () w := by kernel_rfl
theorem fprint (w : World) : (FmtDoors.printed fmtS 3).run Ybaf.prog w = .ok [(0, 115, false), (1, 113, false), (2, 115, false)] w := by kernel_rfl
abbrev shape9 : List UInt8 := [12, 6, 0, 0, 0, 0, 0, 0, 0, 115, 116, 114, 105, 110, 103]
theorem op9 (name : String) (x : ByteArray) (w : World) : (FmtStop.operand name true 115 false (.iface 9 (.string x))).run Ybaf.prog w = .ok (shape9, FmtStop.pack x.data.toList) w := by kernel_rfl
theorem fptr (w : World) : (FmtStop.ptrTo "errors.errorString").run Ybaf.prog w = .ok 75 w := by kernel_rfl
theorem felem (w : World) : (elemOf 75).run Ybaf.prog w = .ok 77 w := by kernel_rfl
theorem value5 (name : String) (x : Int) (w : World) : (FmtStop.value name FmtStop.depth 5 [.int .u8 x]).run Ybaf.prog w = .ok (digits 8 (x % 2 ^ 64).toNat) w := by kernel_rfl
theorem values5 (name : String) (w : World) : ∀ xs : List Int, (List.mapM ((fun c => FmtStop.value name FmtStop.depth 5 [c]) ∘ Value.int IntKind.u8) xs).run Ybaf.prog w = .ok (xs.map fun x => digits 8 (x % 18446744073709551616).toNat) w
  | [] => by simp [List.mapM_nil]
  | x :: xs => by
    have ih := values5 name w xs
    have h := value5 name x w
    simp [List.mapM_cons, h, ih, Result.andThen]
theorem opNil (name : String) (w : World) : (FmtStop.operand name true 113 false (.iface 22 (.slice none 0 0))).run Ybaf.prog w = .ok (13 :: (FmtStop.pack Ybaf.t22.str.toUTF8.data.toList ++ 6 :: FmtStop.pack Ybaf.t5.str.toUTF8.data.toList), [0]) w := by kernel_rfl
theorem opBytes (name : String) (a : Addr) (cap : Nat) (xs : List Int) (w : World) (hc : ∀ j v, (xs.map (Value.int .u8))[j]? = some v → w.cell? (a.add j) = some v) :
    (FmtStop.operand name true 113 false (.iface 22 (.slice (some a) xs.length cap))).run Ybaf.prog w = .ok (13 :: (FmtStop.pack Ybaf.t22.str.toUTF8.data.toList ++ 6 :: FmtStop.pack Ybaf.t5.str.toUTF8.data.toList), 1 :: (digits 8 xs.length ++ FmtText.intValues xs)) w := by
  have h1 : (typeStr 22).run Ybaf.prog w = .ok Ybaf.t22.str w := by kernel_rfl
  have d2 : Ybaf.t22.desc = .slice 5 := rfl
  have hb : (FmtStop.bare (FmtStop.asked true 113 false) 22).run Ybaf.prog w = .ok true w := by kernel_rfl
  have hs : (FmtStop.scalar 5).run Ybaf.prog w = .ok true w := by kernel_rfl
  have hy : (Extern.Stop.isByte 5).run Ybaf.prog w = .ok true w := by kernel_rfl
  have hw : Ybaf.prog.funcs.any (·.name == FmtStop.writeWord) = true := by kernel_rfl
  have hsh : (FmtStop.shape name (FmtStop.asked true 113 false) FmtStop.depth 5).run Ybaf.prog w = .ok (6 :: FmtStop.pack Ybaf.t5.str.toUTF8.data.toList) w := by kernel_rfl
  have hl := run_loadCells_list (P := Ybaf.prog) w a (xs.map (Value.int .u8)) hc
  rw [List.length_map] at hl
  simp [FmtStop.operand, h1, hb, hs, hy, hsh, hl, values5, FmtText.intValues]
  intro hno
  obtain ⟨i, hi, _, _, he⟩ := Array.any_iff_exists.1 hw
  exact absurd (by simpa using he) (hno i hi)

attribute [local go_sem] call27 fguard fprint op9 fptr felem

/-- What fmt is asked of the text, whatever it is: some reading, in every later world. -/
def Asked (w : World) (v : Value) : Prop := ∃ r : List UInt8 × List UInt8, ∀ w', Below w.heap.size w w' → ∀ name, (FmtStop.operand name true 113 false (.iface 22 v)).run Ybaf.prog w' = .ok r w'

set_option maxHeartbeats 1000000 in
theorem errorf_any (b : Nat) (s0 s2 : ByteArray) (v : Value) (w : World) (c0 : w.cell? ⟨b, 0, none⟩ = some (.iface 9 (.string s0))) (c1 : w.cell? ⟨b, 1, none⟩ = some (.iface 22 v)) (c2 : w.cell? ⟨b, 2, none⟩ = some (.iface 9 (.string s2))) (hA : Asked w v) :
    Calls Ybaf.prog 21 #[.string fmtS, .slice (some ⟨b, 0, none⟩) 3 3] w fun e w' => ∃ a, e = .returned (.iface 75 (.pointer (some a))) ∧ Below w.heap.size w w' := by
  obtain ⟨r, hr⟩ := hA
  have hr0 := hr w (Below.refl _ _)
  clear hr
  go_enter Ybaf.func21, Ybaf.ntmps21
  go_wp2
  go_ret
  exact ⟨_, rfl, ((Below.refl _ _).alloc (Nat.le_refl _) _).drew⟩

set_option maxHeartbeats 400000 in
theorem join_one (g o c : Nat) (sep s : ByteArray) (w : World) (hc : w.cell? ⟨g, o, none⟩ = some (.string s)) :
    Calls Ybaf.prog 29 #[.slice (some ⟨g, o, none⟩) 1 c, .string sep] w fun e w' => e = .returned (.string s) ∧ w' = w := by
  go_enter Ybaf.func29, Ybaf.ntmps29
  go_wp2
  go_ret
  exact ⟨rfl, rfl⟩

set_option maxHeartbeats 1000000 in
theorem choices_any (g o : Nat) (w : World) (hN : Names w g o) :
    Calls Ybaf.prog 23 #[.agg (tabV g o)] w fun e w' => ∃ (s : ByteArray) (q : Nat), e = .returned (.string s) ∧ w' = (w.alloc (.cells (tabV g o) 52)).drewN q := by
  have hb : Below w.heap.size w (w.alloc (.cells (tabV g o) 52)) := (Below.refl _ _).alloc (Nat.le_refl _) _
  obtain ⟨n0, n1⟩ := hN.later hb
  have hj := fun nn => join_one g o 2 ⟨#[44, 32]⟩ conS ((w.alloc (.cells (tabV g o) 52)).drewN nn) n0
  have HJ : Hid (∀ nn, Calls Ybaf.prog 29 #[.slice (some ⟨g, o, none⟩) 1 2, .string ⟨#[44, 32]⟩] ((w.alloc (.cells (tabV g o) 52)).drewN nn) fun e w' => e = .returned (.string conS) ∧ w' = (w.alloc (.cells (tabV g o) 52)).drewN nn) := hj
  clear hb hN hj
  go_enter Ybaf.func23, Ybaf.ntmps23
  go_wp2_with fail
  go_quiet ((go_at_call 29; exact Calls.quiet_of_same (HJ.out _)))
  go_wp2
  go_ret
  exact ⟨_, _, rfl, rfl⟩
end Go.Proofs.YbulkcqlwFmt
