/-
  THE NETWORK: its map as a table of values; deliver; send.
-/
import Derived.Test.YbulkcqkuSmall
import Derived.Maps.OwnSet
import Derived.Deep.RegionHeld3
import Derived.Deep.AppendLies
namespace Go.Proofs.Ybulkcqku
open Go.RowKit Go.Maps
set_option linter.unusedVariables false

/-- An element of the map, taken as it stands. -/
def RV (v : Value) : Option (DataW Value × List MemPlace) := some (.held v, [])
theorem law3 : Keyed Yba.prog 3 := int_keyed Yba.underlying3
/-- What stands at a round: nil where there is nothing. -/
def At (D : DataW Value) (r : Int) (v : Value) : Prop := D.atKey (.int .i64 r) (.held (.slice none 0 0)) = .held v

/-- The network's cells and its map. -/
structure Net (w : World) (nb mb m : Nat) (D : DataW Value) : Prop where
  gst : w.cell? ⟨nb, 0, none⟩ = some (.int .i64 0)
  maxd : w.cell? ⟨nb, 1, none⟩ = some (.int .i64 0)
  due : w.cell? ⟨nb, 3, none⟩ = some (.map (some mb))
  own : w.ownsMap Yba.prog 3 RV mb m D

theorem wf_small (r : Int) (h0 : 0 ≤ r) (h1 : r ≤ 4) : (Lit.int .i64 r).wf = true := WalkArith.wf_i64 (by omega)

theorem look_run {w : World} {mb m : Nat} {D : DataW Value} {r : Int} {v : Value} (h : w.ownsMap Yba.prog 3 RV mb m D) (h0 : 0 ≤ r) (h1 : r ≤ 4) (hv : At D r v) :
    (Instr.lookup 51 (.map (some mb)) (.int .i64 r) false).run Yba.prog w = .ok v w := by
  obtain ⟨v', ps, hrun, hR⟩ := h.lookup law3 Yba.underlying51 (Yba.zeroValue58 w) (zd := .held (.slice none 0 0)) (zp := []) rfl (keyOf_int_mk Yba.underlying3 (wf_small r h0 h1))
  unfold At at hv
  rw [hv] at hR
  simp only [RV, Option.some.injEq, Prod.mk.injEq, DataW.held.injEq] at hR
  obtain ⟨rfl, _⟩ := hR
  exact hrun

theorem look_ok_run {w : World} {mb m : Nat} {D : DataW Value} {r : Int} (h : w.ownsMap Yba.prog 3 RV mb m (D.del (.int .i64 r))) (h0 : 0 ≤ r) (h1 : r ≤ 4) :
    (Instr.lookup 51 (.map (some mb)) (.int .i64 r) true).run Yba.prog w = .ok (.tuple #[.slice none 0 0, .bool false]) w := by
  obtain ⟨v', ps, hrun, hR⟩ := h.look_ok law3 Yba.underlying51 (Yba.zeroValue58 w) (zd := .held (.slice none 0 0)) (zp := []) rfl (keyOf_int_mk Yba.underlying3 (wf_small r h0 h1))
  rw [atKey_del_same] at hR
  simp only [RV, Option.some.injEq, Prod.mk.injEq, DataW.held.injEq] at hR
  obtain ⟨rfl, _⟩ := hR
  rw [has_del_same] at hrun
  exact hrun

theorem At.del_same {D : DataW Value} {r : Int} : At (D.del (.int .i64 r)) r (.slice none 0 0) := atKey_del_same _
theorem At.del_other {D : DataW Value} {r r' : Int} {v : Value} (hne : r' ≠ r) (h : At D r' v) : At (D.del (.int .i64 r)) r' v := by
  unfold At
  rw [atKey_del_other (by simpa using hne)]
  exact h

set_option maxHeartbeats 400000 in
theorem deliver_any (nb mb m : Nat) (D : DataW Value) (q : Int) (v : Value) (w : World) (hN : Net w nb mb m D) (h0 : 0 ≤ q) (h1 : q ≤ 4) (hv : At D q v) (hne : nb ≠ mb) :
    Calls Yba.prog 9 #[.pointer (some ⟨nb, 0, none⟩), .int .i64 q] w fun e w' => e = .returned v ∧ w'.ownsMap Yba.prog 3 RV mb m (D.del (.int .i64 q)) ∧ w.mapTurned w' mb := by
  obtain ⟨c0, c1, c3, hown⟩ := hN
  have hrun := look_run hown h0 h1 hv
  have hkey := keyOf_int_mk Yba.underlying3 (wf_small q h0 h1)
  go_enter Yba.func9, Yba.ntmps9
  go_wp2_with (at_delete; refine wpList_delete_own _ rfl _ _ 51 3 rfl 58 law3 Yba.underlying51 _ mb m D rfl hown _ _ rfl hkey ?_; intro w1 hown1 hturn1)
  go_ret
  exact ⟨rfl, hown1, hturn1⟩

theorem info64 : (Yba.prog.info? 64).map (fun i => (i.zero, i.size, i.bytes)) = some (some (.agg #[.int .i64 0, .int .i64 0, .slice none 0 0, .bool false]), 4, 48) := by kernel_rfl

end Go.Proofs.Ybulkcqku
