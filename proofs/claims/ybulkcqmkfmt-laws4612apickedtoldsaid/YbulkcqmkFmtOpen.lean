/-
  What came in: the map of bools as a look, the slice of strings as words; the program's closed facts.
-/
import Derived.Test.YbulkcqmkFmtDirect
import Derived.WideKeyElems2
import Derived.WideKeyArgs
import Derived.SliceStrings
import Derived.Stop.JoinedTold
namespace Go.Proofs.YbulkcqmkFmt
open Go.RowKit Go.Maps Go.ChangeShapes Go.WideShapes Go.Extern.Stop Go.Stop Go.Extern
set_option linter.unusedVariables false

theorem stopsAre : Ybaf.pinned.checked.prog.stops = ["fmt.Sprintf", "fmt.errorf"] := by kernel_rfl
theorem knobsAre : Ybaf.pinned.checked.prog.stopKnobs = [] := by kernel_rfl
theorem quietIs (os : Os) : Stop.quiet Ybaf.pinned.checked.prog os := by
  intro k hk
  rw [knobsAre] at hk
  cases hk
theorem own : ownKnob Ybaf.prog.godebug = none := by kernel_rfl
theorem laidOut : laidOutB Ybaf.pinned.checked.prog = true := by kernel_rfl

theorem looks_nil (W : World) : Looks W (.map none) (fun _ => false) := fun W' _ s hs t ht => by
  simpa using Maps.look_nil (w := W') false law9 ht (zero4 _) (WideMaps.keyOf_string_mk Ybaf.underlying9 hs)

/-- A datum that is the word true. -/
def saysTrue {H : Type} : DataW H → Bool
  | .lit (.bool b) => b
  | _ => false

theorem looks_map {H : Type} (enc : TypeId × Value → H) (W : World) (sp : Nat → Bool) (b n : Nat) (es : Array MapEntry) (clock : Nat) (hb : W.heap[b]? = some (.map es clock)) (F : WideElems.Fit Ybaf.prog 9 (WideElems.elemAt enc Ybaf.prog W 0 sp true n 4) es clock) :
    ∃ cls, Looks W (.map (some b)) cls := by
  have hown := World.ownsMap_of_fit (R := WideElems.elemAt enc Ybaf.prog W 0 sp true (n + 1) 4) hb F (fun x _ z hz => WideElems.elemAt_bool_any Ybaf.underlying4 hz)
  generalize DataW.map _ = D at hown
  refine ⟨fun s => saysTrue (D.atKey (.string s.data.toList) (.lit (.bool false))), fun W' hbel s hs t ht => ?_⟩
  have hown' : W'.ownsMap Ybaf.prog 9 (WideElems.elemAt enc Ybaf.prog W 0 sp true (n + 1) 4) b es.size D := by
    have hlt := hown.lt
    obtain ⟨es', clock', hbk, F1, hle, hD⟩ := hown
    exact ⟨es', clock', by rw [hbel.block b hlt]; exact hbk, F1, hle, hD⟩
  obtain ⟨v, ps, hrun, hv⟩ := hown'.lookup law9 ht (zero4 _) (WideElems.elemAt_bool_mk Ybaf.underlying4 W sp n false) (WideMaps.keyOf_string_mk Ybaf.underlying9 hs)
  obtain ⟨r, rfl, hz⟩ := WideElems.elemAt_bool Ybaf.underlying4 hv
  have hz1 : D.atKey (.string s.data.toList) (.lit (.bool false)) = .lit (.bool r) := congrArg Prod.fst hz
  rw [hrun]
  simp [hz1, saysTrue]

theorem words_of {W : World} {x : Addr} {len cap : Nat} {ss : List ByteArray} (hl : len ≤ cap) (hz : ss.length = cap) (hpos : 0 < len)
    (hcell : ∀ i, i < ss.length → W.cell? (x.add i) = some (.string (ss.getD i ByteArray.empty))) (hs : ∀ s ∈ ss, s.size ≤ maxLen) :
    ∃ b o, x = ⟨b, o, none⟩ ∧ Words W b o len ss := by
  obtain ⟨b, off, spot⟩ := x
  have hspot : spot = none := by simpa [Addr.add] using World.cell?_spot (hcell 0 (by omega))
  subst hspot
  refine ⟨b, off, rfl, ⟨fun j hj => ?_, fun j hj => ?_⟩⟩
  · have hc := hcell j (by omega)
    rw [Addr.add_lit] at hc
    exact hc
  · have hj' : j < ss.length := by omega
    have : at' ss j = ss[j] := by simp [at', List.getD, hj']
    rw [this]
    exact hs _ (List.getElem_mem hj')
end Go.Proofs.YbulkcqmkFmt
