/-
  THE ROW AND THE TIED CARD OF LawS4609CModel.
-/
import Derived.Test.YbulkcqkuDoorModelTwo
import Derived.Test.YbulkcqkuDoorLaid
import Derived.Test.YbulkcqkuDoorTie
import Derived.Test.YbulkcqkuDoorCards
import Derived.SevenTiedAt
namespace Go.Proofs.YbulkcqkuDoor
open Go.ChangeShapes Go.WideShapes Go.ChangeAt Go.RowKit
set_option linter.unusedVariables false

/-- A slice of bytes that came in: nil, or a row of which the first 'len' cells are the elements. -/
theorem lies_of_ints3 {W : World} {x : Addr} {len cap : Nat} {zs : List Int} (hl : len ≤ cap) (hz : zs.length = cap)
    (hcell : ∀ i, i < zs.length → W.cell? (x.add i) = some (.int .u8 (zs.getD i 0))) (hwz : ∀ n ∈ zs, (Lit.int .u8 n).wf = true) :
    ∃ l : List UInt8, l.length = len ∧ Lies W (some x) l := by
  refine ⟨(zs.take len).map (fun z => z.toNat.toUInt8), by simp; omega, ?_⟩
  by_cases h0 : len = 0
  · subst h0; exact .inl (by simp)
  · obtain ⟨b, off, spot⟩ := x
    have hspot : spot = none := by simpa [Addr.add] using World.cell?_spot (hcell 0 (by omega))
    subst hspot
    refine .inr ⟨b, off, rfl, fun j hj => ?_⟩
    have hj' : j < len ∧ j < zs.length := by simp at hj; omega
    have hc := hcell j hj'.2
    rw [Addr.add_lit] at hc
    rw [hc]
    have hb := bounds_u8 (hwz _ (List.getElem_mem hj'.2))
    simp only [List.getD, List.getElem?_eq_getElem hj'.2, Option.getD_some, List.getElem_map, List.getElem_take]
    congr 2
    simp
    omega

set_option maxRecDepth 100000 in
theorem model_lifted (os : Os) (started : os.Started) (H : Type) (enc : TypeId × Value → H) :
    ReturnsInHanded {} Ybad.checked os 3 .any (fun w args => (Rows.lawS4609CModelSpec.pre enc Ybad.prog Ybad.f3 [] false w args ∧ laidMetH Ybad.prog laidList w) ∧ sizedMet enc Ybad.prog Ybad.f3 (OpenSpec.ofChange Rows.lawS4609CModelSpec) false w args)
      (Rows.lawS4609CModelSpec.post enc Ybad.prog Ybad.f3 false true false false) := by
  refine returnsInHanded_of_change_and (C := Ybad.checked) (X := fun w _ => laidMetH Ybad.prog laidList w) (fun _ _ _ hh h => h.of_heap hh) own started (by kernel_rfl) Ybad.func3
    (ChangeSpec.witness_shaped (enc := enc) (C := Ybad.checked) (os := os) (X := fun w _ => laidMetH Ybad.prog laidList w) false (World.doorLaid Ybad.prog 28 os) #[.slice none 0 0, .int .i64 0, .bool false] 8 rfl (World.shaped_of_RefB (by kernel_rfl) (by kernel_rfl)) (by kernel_rfl) (by kernel_rfl) (by kernel_rfl) (door_met os _)) ?_
  intro W base args ds gs before hval0 hW _ _ hL _
  have hval : ∀ (j : Nat) t v, Ybad.f3.params[j]? = some t → args[j]? = some v → Value.okWide Ybad.prog W .any base t v := hval0
  have hW' := hW
  obtain ⟨p, q, hA0, hV0, rfl, hfz, hnd⟩ := hW
  have hA : DataW.TrodAll enc Ybad.prog W 0 (fun _ => true) true Ybad.f3.params.toList args.toList ds p := hA0
  have hV : DataW.TrodVars enc Ybad.prog W (fun _ => true) [errName] gs q := hV0
  rw [Ybad.params3] at hA hval
  obtain ⟨v0, v1, v2, d0, d1, d2, p0, p1, p2, rfl, rfl, rfl, h0, h1, h2⟩ := trodAll_three hA
  obtain ⟨ea, hv0⟩ := err_of_laid hL
  obtain ⟨rfl, rfl⟩ := hV.unique (vars_read1 enc gE tE Ybad.underlying27 hv0 trivial _)
  obtain ⟨m, rfl, rfl, rfl, wm⟩ := open_int Ybad.underlying3 (hval 1 3 v1 rfl rfl) h1
  obtain ⟨pb, rfl, rfl, rfl⟩ := open_bool Ybad.underlying4 (hval 2 4 v2 rfl rfl) h2
  obtain ⟨a, len, cap, rfl⟩ := okWide_slice Ybad.underlying22 (hval 0 22 v0 rfl rfl)
  have k1 := h0
  have lt1 : ∀ x ∈ p0, x.block < W.heap.size := by obtain ⟨n, hn⟩ := k1; exact DataW.trod_lt n _ _ _ hn
  have hrow : ∃ l : List UInt8, l.length = len ∧ Lies W a l ∧ len ≤ cap ∧ (a = none → cap = 0) := by
    obtain ⟨fuel, hf⟩ := h0
    rcases open_ints Ybad.underlying22 Ybad.underlying5 (by kernel_rfl) hf with ⟨hcs, _⟩ | ⟨x, l, c, zs, hcs, _, hl, hm, hz, _, hcell, hwz⟩
    · simp [Value.cells] at hcs
      obtain ⟨rfl, rfl, rfl⟩ := hcs
      exact ⟨[], rfl, .inl rfl, Nat.le_refl _, fun _ => rfl⟩
    · simp [Value.cells] at hcs
      obtain ⟨rfl, rfl, rfl⟩ := hcs
      obtain ⟨l, hl1, hl2⟩ := lies_of_ints3 hl (by simpa using hz) hcell hwz
      exact ⟨l, hl1, hl2, hl, fun h => by cases h⟩
  obtain ⟨l, hl1, hl2, hl3, hl4⟩ := hrow
  have hcE : W.cell? ⟨0, 0, none⟩ = some (.iface 39 (.pointer (some ea))) := by simpa using World.var?_cell gE hv0 0
  have hpos : 0 < W.heap.size := by
    rcases Nat.lt_or_ge 0 W.heap.size with h | h
    · exact h
    · simp [World.cell?, Array.getElem?_eq_none h] at hcE
  clear hA0 hval0 hV0
  have key := model_walk a len cap m pb l ea W hl1 hl2 hl3 (fun h => by have := hl4 h; omega) hcE hpos
  refine key.mono fun e W' ⟨he, bel⟩ => ?_
  subst he
  exact ⟨_, rfl, _, _, _, [], _, [.cell 0 0], hW', trodAll_mk1 (shut_bool Ybad.underlying4 _), trodAll_mk3 (Below.trod laidOut (by kernel_rfl) (of_decide_eq_true (by kernel_rfl)) k1 bel lt1) (shut_int Ybad.underlying3 wm) (shut_bool Ybad.underlying4 pb), vars_read1 enc gE tE Ybad.underlying27 (var?_below bel gE hpos hv0) trivial _, bel.frame _, fun h => by cases h⟩

theorem model_holds : Rows.LawS4609CModelSaid :=
  OpenClaim.holds_of_wide 3 Ybad.f3 rfl rfl rfl rfl rfl rfl rfl ⟨rfl, rfl, rfl, rfl, rfl⟩ rfl rfl rfl rfl rfl (by kernel_rfl) Ybad.func3 (by kernel_rfl)
    (of_decide_eq_true (by kernel_rfl)) (by unfold Func.isWrapper; rw [if_neg (of_decide_eq_false (by kernel_rfl))]; exact ⟨rfl, rfl⟩)
    (fun os started H enc _ => model_lifted os started H enc)

/-- THE CARD. -/
theorem lawS4609CModel_card : Rows.LawS4609CModelCardSaid :=
  Claim7.holds_tied_plain_at .later [] [.sentinel] true (true, "43b81908ed8fab0bb09befc61bae9bac99636d8ef18268649b409d45490aafaa") true
    model_holds (fun _ h => by cases h) (by kernel_rfl) (fun _ h => by cases h) lawS4609CModel_row_tie rfl ⟨rfl, rfl⟩ (by kernel_rfl) rfl
    (fun f fn hf hfn => by
      obtain rfl : f = 3 := Option.some.inj ((show Ybad.prog.funcNamed Rows.lawS4609CModelRow.func = some 3 by kernel_rfl).symm.trans hf) |>.symm
      obtain rfl : fn = Ybad.f3 := (Option.some.inj (Ybad.func3.symm.trans hfn)).symm
      exact ⟨by kernel_rfl, fun j t ht => by
        rw [Ybad.params3] at ht
        have hm : t ∈ [22, 3, 4] := by simpa using Array.mem_of_getElem? ht
        have hall : ([22, 3, 4].all fun u => !Ybad.prog.wantsStandIn u) = true := by kernel_rfl
        exact (show Ybad.prog.wantsStandIn t = false by simpa using List.all_eq_true.1 hall t hm)⟩)
    (by kernel_rfl)
end Go.Proofs.YbulkcqkuDoor
