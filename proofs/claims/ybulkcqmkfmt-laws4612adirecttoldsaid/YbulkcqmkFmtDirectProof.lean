/-
  THE TOLD CARD OF LawS4612ADirect.
-/
import Derived.Test.YbulkcqmkFmtOpen
import Derived.Test.YbulkcqmkFmtCards
import Derived.SevenToldRow
import Derived.ChangeMaps5
namespace Go.Proofs.YbulkcqmkFmt
open Go.ChangeShapes Go.WideShapes Go.RowKit Go.Extern.Stop Go.Stop Go.Extern
open Go.ChangeMaps (open_string shut_string)
set_option linter.unusedVariables false

set_option maxRecDepth 100000 in
theorem direct_lifted (os : Os) (started : os.Started) (H : Type) (enc : TypeId × Value → H) :
    ReturnsInTold none {} Ybaf.checked os 3 .any Input.okWide ((OpenSpec.ofChange Rows.lawS4612ADirectSpec).preRow enc Ybaf.prog Ybaf.f3 [] false []) (fun F => ((OpenSpec.ofChange Rows.lawS4612ADirectSpec).at F).post enc Ybaf.prog Ybaf.f3 false true false false) (aloneAtReturn Ybaf.prog) nothingAlways := by
  refine returnsInTold_of_row (C := Ybaf.checked) (s := OpenSpec.ofChange Rows.lawS4612ADirectSpec) (by kernel_rfl) own started (by kernel_rfl) Ybaf.func3
    (OpenSpec.witness_stopped (enc := enc) (C := Ybaf.checked) false ⟨#[], #[.string ⟨#[]⟩, .slice none 0 0, .map none], []⟩ 8 (by kernel_rfl) (by kernel_rfl) (by kernel_rfl) (by kernel_rfl)) ?_
  intro F W base args ds gs before _ hF hval0 hW _ _ hsz _ _
  have hval : ∀ (j : Nat) t v, Ybaf.f3.params[j]? = some t → args[j]? = some v → Value.okWide Ybaf.prog W .any base t v := hval0
  have hW' := hW
  obtain ⟨p, q, hA0, hV, rfl, hfz, hnd⟩ := hW
  have hA : DataW.TrodAll enc Ybaf.prog W 0 (fun _ => true) true Ybaf.f3.params.toList args.toList ds p := hA0
  rw [Ybaf.params3] at hA hval
  obtain ⟨v0, v1, v2, d0, d1, d2, p0, p1, p2, rfl, rfl, rfl, h0, h1, h2⟩ := trodAll_three hA
  obtain ⟨rfl, rfl⟩ := trodVars_none hV
  obtain ⟨t, rfl, rfl, rfl, wt⟩ := open_string Ybaf.underlying9 (hval 0 9 v0 rfl rfl) h0
  obtain ⟨a, len, cap, rfl⟩ := okWide_slice Ybaf.underlying22 (hval 1 22 v1 rfl rfl)
  obtain ⟨m, rfl⟩ := okWide_map Ybaf.underlying23 (hval 2 23 v2 rfl rfl)
  have k1 := h1
  have k2 := h2
  have lt1 : ∀ x ∈ p1, x.block < W.heap.size := by obtain ⟨n, hn⟩ := k1; exact DataW.trod_lt n _ _ _ hn
  have lt2 : ∀ x ∈ p2, x.block < W.heap.size := by obtain ⟨n, hn⟩ := k2; exact DataW.trod_lt n _ _ _ hn
  have hlook : ∃ cls, Looks W (.map m) cls := by
    obtain ⟨fuel, hf⟩ := h2
    rcases WideElems.open_map Ybaf.underlying23 hf with ⟨hcs, _⟩ | ⟨b, es, clock, n, _, hcs, hb, _, F, _⟩
    · simp [Value.cells] at hcs
      subst hcs
      exact ⟨_, looks_nil W⟩
    · simp [Value.cells] at hcs
      subst hcs
      exact looks_map enc W _ b n es clock hb F
  have key : Calls Ybaf.prog 3 #[.string t, .slice a len cap, .map m] W fun e w' => e = .returned (.bool true) ∧ Below W.heap.size W w' := by
    by_cases hs : len ≤ 1024
    · refine direct_any t a len cap m W hs ?_
      obtain ⟨cls, hL⟩ := hlook
      obtain ⟨fuel, hf⟩ := h1
      rcases open_strings Ybaf.underlying22 Ybaf.underlying9 (by kernel_rfl) hf with ⟨hcs, _⟩ | ⟨x, l, c, ss, hcs, _, hl, hm, hz, _, hcell, hwz⟩
      · simp [Value.cells] at hcs
        obtain ⟨rfl, rfl, rfl⟩ := hcs
        exact agree_nil W t _
      · simp [Value.cells] at hcs
        obtain ⟨rfl, rfl, rfl⟩ := hcs
        by_cases h00 : len = 0
        · subst h00
          exact agree_none W t x cap _
        · obtain ⟨b, o, rfl, hw⟩ := words_of hl (by simpa using hz) (by omega) hcell hwz
          exact agree_some W t b o len cap ss cls _ (by omega) (by omega) hw hL
    · exact direct_long t a len cap _ W (by omega)
  clear hA0 hval0
  refine key.mono fun e W' ⟨he, bel⟩ => ?_
  subst he
  exact ⟨_, rfl, _, _, _, [], _, [], hW', trodAll_mk1 (shut_bool Ybaf.underlying4 _), trodAll_mk3 (shut_string Ybaf.underlying9 wt) (Below.trod laidOut (by kernel_rfl) (of_decide_eq_true (by kernel_rfl)) k1 bel lt1) (Below.trod laidOut (by kernel_rfl) (of_decide_eq_true (by kernel_rfl)) k2 bel lt2), rfl, bel.frame _, fun h => by cases h⟩

theorem lawS4612ADirect_card : Rows.LawS4612ADirectToldSaid :=
  Claim7.holds_of_told_any 3 Ybaf.f3 "fmt.Sprintf" ["fmt.errorf"] [] _ _ _ (by kernel_rfl) rfl rfl rfl laidOut (by kernel_rfl) rfl ⟨rfl, rfl, rfl, rfl, rfl, rfl, rfl⟩ rfl rfl (by kernel_rfl) (by kernel_rfl) Ybaf.func3 (by kernel_rfl)
    (of_decide_eq_true (by kernel_rfl)) (of_decide_eq_true (by kernel_rfl)) stopsAre.symm rfl knobsAre.symm (by kernel_rfl)
    (by kernel_rfl) (by kernel_rfl) (by kernel_rfl) (by kernel_rfl) (by kernel_rfl) (by kernel_rfl) (by kernel_rfl) (by kernel_rfl) (by kernel_rfl) rfl (by kernel_rfl) rfl rfl
    rfl rfl
    rfl (by kernel_rfl) (by kernel_rfl) (by kernel_rfl) (by decide) (by kernel_rfl)
    (OpenClaim.moreEntering_of (by kernel_rfl) (by kernel_rfl) (by kernel_rfl) (by kernel_rfl) (by kernel_rfl) (by kernel_rfl) (by kernel_rfl) (by kernel_rfl) (by kernel_rfl) (by kernel_rfl))
    ⟨_, WideRow.started_initial, quietIs _⟩
    (fun os started _ H enc _ => direct_lifted os started H enc)
end Go.Proofs.YbulkcqmkFmt
