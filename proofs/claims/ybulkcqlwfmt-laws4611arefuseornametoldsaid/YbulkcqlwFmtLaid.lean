/-
  WHAT THE CONDITION 'laid' GIVES: the table of names; a world that meets it; the variable read again.
-/
import Derived.Test.YbulkcqlwFmtWalks
import Derived.ProofKit
import Derived.LaidMore
import Derived.OpenShut
import Derived.ShutString
import Derived.ChangeOld
import Derived.Below
import Derived.WalkSmall
import Derived.SliceStrings
import Derived.Lib.SmallJoins
import Derived.Stop.Joined
namespace Go.Proofs.YbulkcqlwFmt
open Go.ChangeShapes Go.WideShapes Go.ChangeAt Go.RowKit Go.Joins
set_option linter.unusedVariables false

abbrev tabName : String := Rows.lawS4611ANamesRow.named.headD ""
abbrev laidList : List (String × DataW Unit) := Rows.lawS4611ANamesRow.laid

theorem own : ownKnob Ybaf.prog.godebug = none := by kernel_rfl
theorem laidOut : laidOutB Ybaf.prog = true := by kernel_rfl
theorem gT : Ybaf.prog.globalNamed tabName = some 0 := by kernel_rfl
theorem tT : (Ybaf.prog.globals[0]?).map (·.type) = some 52 := by kernel_rfl
theorem cells9 : Ybaf.prog.cellsOf 9 = 1 := by kernel_rfl
theorem cells35 : Ybaf.prog.cellsOf 35 = 1 := by kernel_rfl
theorem cells52 : Ybaf.prog.cellsOf 52 = 4 := by kernel_rfl
theorem cells5 : Ybaf.prog.cellsOf 5 = 1 := by kernel_rfl

theorem bytes_ext {s t : ByteArray} (h : s.data.toList = t.data.toList) : s = t := by
  cases s; cases t
  simp at h
  rw [h]

theorem list4 {α : Type} : ∀ {l : List α}, l.length = 4 → ∃ a b c d, l = [a, b, c, d]
  | [a, b, c, d], _ => ⟨a, b, c, d, rfl⟩

theorem tab_of_laid {W : World} (h : laidMetH Ybaf.prog laidList W) : ∃ g o, Tab W g o := by
  rw [MakeChecks.laidMetH_plain _ _ _ (by kernel_rfl)] at h
  obtain ⟨ps, ⟨g0, t0, cs0, f0, p0, q0, hg0, ht0, hv0, hd0, _, _⟩, _, _⟩ := h
  obtain rfl := Option.some.inj (gT.symm.trans hg0)
  obtain rfl := Option.some.inj (tT.symm.trans ht0)
  obtain ⟨y0, y1, y2, y3, n, hx, hlen, z0, z1, z2, z3⟩ := trod_struct4 Ybaf.underlying52 hd0
  rw [cells52] at hlen
  obtain ⟨l0⟩ := cs0
  obtain ⟨c0, c1, c2, c3, rfl⟩ := list4 hlen
  have k0 : DataW.trod (fun _ => ()) Ybaf.prog W 0 (fun _ => true) false n 9 (([c0, c1, c2, c3].drop 0).take (Ybaf.prog.cellsOf 9)) = some y0 := z0
  have k1 : DataW.trod (fun _ => ()) Ybaf.prog W 0 (fun _ => true) false n 9 (([c0, c1, c2, c3].drop 1).take (Ybaf.prog.cellsOf 9)) = some y1 := z1
  have k2 : DataW.trod (fun _ => ()) Ybaf.prog W 0 (fun _ => true) false n 9 (([c0, c1, c2, c3].drop 2).take (Ybaf.prog.cellsOf 9)) = some y2 := z2
  have k3 : DataW.trod (fun _ => ()) Ybaf.prog W 0 (fun _ => true) false n 35 (([c0, c1, c2, c3].drop 3).take (Ybaf.prog.cellsOf 35)) = some y3 := z3
  rw [cells9] at k0 k1 k2
  rw [cells35] at k3
  obtain ⟨s0, e0, x0, _⟩ := DataW.trod_string Ybaf.underlying9 (show DataW.trod (fun _ => ()) Ybaf.prog W 0 (fun _ => true) false n 9 [c0] = some y0 from k0)
  obtain ⟨s1, e1, x1, _⟩ := DataW.trod_string Ybaf.underlying9 (show DataW.trod (fun _ => ()) Ybaf.prog W 0 (fun _ => true) false n 9 [c1] = some y1 from k1)
  obtain ⟨s2, e2, x2, _⟩ := DataW.trod_string Ybaf.underlying9 (show DataW.trod (fun _ => ()) Ybaf.prog W 0 (fun _ => true) false n 9 [c2] = some y2 from k2)
  simp only [List.cons.injEq, and_true] at e0 e1 e2
  subst e0 e1 e2 x0 x1 x2
  simp only [Prod.mk.injEq, Rows.laid_example_com_outyear_outyear_dollarsNames, DataW.agg.injEq, List.cons.injEq, and_true] at hx
  obtain ⟨⟨d0, d1, d2, d3⟩, _⟩ := hx
  rcases open_strings Ybaf.underlying35 Ybaf.underlying9 cells9 (show DataW.trod (fun _ => ()) Ybaf.prog W 0 (fun _ => true) false n 35 [c3] = some y3 from k3) with ⟨_, hx⟩ | ⟨a, len, cap, ss, hcs, _, hl, _, hz, hx, hcell, _⟩
  · rw [hx] at d3
    simp at d3
  rw [hx] at d3
  simp only [DataW.slice.injEq] at d3
  simp only [if_true] at hz
  simp only [List.cons.injEq, and_true] at hcs
  subst hcs
  obtain ⟨d3, d4⟩ := d3
  have hlen2 : len = 2 := by
    have := congrArg List.length d3
    simp [strs] at this
    omega
  have hcap2 : cap = 2 := by
    have := congrArg List.length d4
    simp [strs] at this
    omega
  subst hlen2 hcap2
  match ss, hz with
  | [u0, u1], _ =>
    simp [strs] at d3
    obtain ⟨b, off, spot⟩ := a
    have hspot : spot = none := by simpa [Addr.add] using World.cell?_spot (hcell 0 (by simp))
    subst hspot
    have q0 := hcell 0 (by simp)
    have q1 := hcell 1 (by simp)
    simp only [Addr.add_lit] at q0 q1
    have v0 := World.var?_cell gT hv0
    refine ⟨b, off, ?_, ?_, ?_, ?_, ⟨?_, ?_⟩⟩
    · have := v0 0
      rw [this]
      simp
      exact bytes_ext (by simpa using d0.symm)
    · have := v0 1
      rw [this]
      simp
      exact bytes_ext (by simpa using d1.symm)
    · have := v0 2
      rw [this]
      simp
      exact bytes_ext (by simpa using d2.symm)
    · have := v0 3
      rw [this]
      simp
    · rw [show off = off + 0 from rfl, q0]
      simp
      exact bytes_ext (by simpa using d3.1.symm)
    · rw [q1]
      simp
      exact bytes_ext (by simpa using d3.2.symm)

/-- the variable reads behind the call as before it -/
theorem vars_again {H : Type} {enc : TypeId × Value → H} {W W' : World} {gs : List (DataW H)} {q : List MemPlace} (hV : DataW.TrodVars enc Ybaf.prog W (fun _ => true) [tabName] gs q) (bel : Below W.heap.size W W')
    (hlt : ∀ x ∈ q, x.block < W.heap.size) (hpos : 0 < W.heap.size) : DataW.TrodVars enc Ybaf.prog W' (fun b => decide (b < W.heap.size)) [tabName] gs q := by
  obtain ⟨g, t, cs, fuel, d, p, rfl, hg, ht, hv, hd, rfl⟩ := trodVars_one hV
  obtain rfl := Option.some.inj (gT.symm.trans hg)
  obtain rfl := Option.some.inj (tT.symm.trans ht)
  have h0 : DataW.Trod enc Ybaf.prog W 0 (fun _ => true) true 52 (.agg cs) d p := ⟨fuel, by simpa [Value.cells] using hd⟩
  obtain ⟨fuel', h1⟩ := Below.trod laidOut (by kernel_rfl) (of_decide_eq_true (by kernel_rfl)) h0 bel (fun x hx => hlt x (List.mem_append_right _ hx))
  exact trodVars_mk1 gT tT (var?_below bel gT hpos hv) (by simpa [Value.cells] using h1)

theorem door_met (os : Os) (args : Array Value) : laidMetH Ybaf.prog laidList ((World.doorLaid Ybaf.prog 30 os).forCall (fun _ _ => 0) ⟨#[], args, []⟩).memory :=
  laidMetH_of_parts3 (fuel := 8) (laidMet_of_run' 8 (by kernel_rfl) (by kernel_rfl)) (by kernel_rfl) (by kernel_rfl)
end Go.Proofs.YbulkcqlwFmt
