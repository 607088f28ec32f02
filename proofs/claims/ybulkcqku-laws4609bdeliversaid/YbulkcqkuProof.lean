/-
  THE ROW OF LawS4609BDeliver.
-/
import Derived.Test.YbulkcqkuWalk
import Derived.ProofKit
import Derived.OpenShut
import Derived.ShutString
import Derived.ChangeOld
import Derived.Below
import Derived.Deep.Slices
import Derived.Laws.BytesArg
namespace Go.Proofs.Ybulkcqku
open Go.ChangeShapes Go.WideShapes Go.ChangeAt Go.RowKit
set_option linter.unusedVariables false

theorem own : ownKnob Yba.prog.godebug = none := by kernel_rfl
theorem laidOut : laidOutB Yba.prog = true := by kernel_rfl
theorem cells56 : Yba.prog.cellsOf 56 = 5 := by kernel_rfl
theorem cells5 : Yba.prog.cellsOf 5 = 1 := by kernel_rfl
theorem cells3 : Yba.prog.cellsOf 3 = 1 := by kernel_rfl
theorem cells4 : Yba.prog.cellsOf 4 = 1 := by kernel_rfl
theorem cells27 : Yba.prog.cellsOf 27 = 1 := by kernel_rfl

theorem conv_any (w : World) (a : Addr) (len cap : Nat) (xs : List Int) (hlen : xs.length = len) (hcell : ∀ j, j < len → w.cell? (a.add j) = some (.int .u8 (xs.getD j 0))) :
    (convert 27 9 (.slice (some a) len cap)).run Yba.prog w = .ok (.string (xs.foldl (fun r n => r.push (UInt8.ofNat n.toNat)) ByteArray.empty)) w := by
  have hl : (loadCells a len).run Yba.prog w = .ok (xs.map (Value.int .u8)).toArray w := by
    have := run_loadCells_list (P := Yba.prog) w a (xs.map (Value.int .u8)) (fun j v hj => by
      have hjl : j < xs.length := by
        rcases Nat.lt_or_ge j xs.length with h | h
        · exact h
        · simp [List.getElem?_eq_none (show (xs.map (Value.int .u8)).length ≤ j by simpa using h)] at hj
      rw [hcell j (by omega)]
      simp [List.getElem?_eq_getElem hjl] at hj
      subst hj
      simp [List.getD, List.getElem?_eq_getElem hjl])
    simpa [hlen] using this
  rw [run_convert_bytes_string w 27 9 5 _ len cap Yba.underlying27 Yba.underlying5 Yba.underlying9, run_bytesToString w _ len cap xs hl]

theorem list5 {α : Type} : ∀ {l : List α}, l.length = 5 → ∃ a b c d e, l = [a, b, c, d, e]
  | [a, b, c, d, e], _ => ⟨a, b, c, d, e, rfl⟩

section
variable {H : Type} {enc : TypeId × Value → H} {w : World} {spare : Nat → Bool} {held : Bool}

/-- the bytes of a send can be read, now and later -/
theorem reads_of {fuel : Nat} {a : Option Addr} {n c : Nat} {y : DataW H × List MemPlace} (h : DataW.trod enc Yba.prog w 0 spare held fuel 27 [.slice a n c] = some y) (s : Snd) (hs : s.data = .slice a n c) : Reads w s := by
  unfold Reads
  rw [hs]
  rcases open_ints Yba.underlying27 Yba.underlying5 cells5 h with ⟨hcs, _⟩ | ⟨x, len, cap, zs, hcs, _, hl, _, hz, _, hcell, _⟩
  · simp at hcs
    obtain ⟨rfl, rfl, rfl⟩ := hcs
    exact ⟨ByteArray.empty, fun w' _ => run_convert_bytes_nil w' 27 5 Yba.underlying27 Yba.underlying5 0 0 9 Yba.underlying9⟩
  · simp at hcs
    obtain ⟨rfl, rfl, rfl⟩ := hcs
    have hz' : n ≤ zs.length := by rw [hz]; split <;> omega
    refine ⟨_, fun w' hb => conv_any w' x n c (zs.take n) (by simp; omega) (fun j hj => ?_)⟩
    rw [cell_later hb (hcell j (by omega))]
    simp [List.getD, hj]

/-- one element, opened -/
theorem elem_open {fuel : Nat} {cs : List Value} {x : DataW H × List MemPlace} (h : DataW.trod enc Yba.prog w 0 spare held fuel 56 cs = some x) :
    ∃ s : Snd, cs = s.five ∧ 0 ≤ s.rnd ∧ s.rnd ≤ 255 ∧ Reads w s := by
  obtain ⟨xs, n, _, _, hlen, hx5, hf⟩ := DataW.trod_struct Yba.underlying56 h
  rw [cells56] at hlen
  obtain ⟨y0, y1, y2, y3, y4, rfl⟩ := list5 hx5
  obtain ⟨c0, c1, c2, c3, c4, rfl⟩ := list5 hlen
  have f0 : DataW.trod enc Yba.prog w 0 spare held n 5 (([c0, c1, c2, c3, c4].drop 0).take (Yba.prog.cellsOf 5)) = some y0 := hf 0 _ rfl
  have f1 : DataW.trod enc Yba.prog w 0 spare held n 3 (([c0, c1, c2, c3, c4].drop 1).take (Yba.prog.cellsOf 3)) = some y1 := hf 1 _ rfl
  have f2 : DataW.trod enc Yba.prog w 0 spare held n 3 (([c0, c1, c2, c3, c4].drop 2).take (Yba.prog.cellsOf 3)) = some y2 := hf 2 _ rfl
  have f3 : DataW.trod enc Yba.prog w 0 spare held n 27 (([c0, c1, c2, c3, c4].drop 3).take (Yba.prog.cellsOf 27)) = some y3 := hf 3 _ rfl
  have f4 : DataW.trod enc Yba.prog w 0 spare held n 4 (([c0, c1, c2, c3, c4].drop 4).take (Yba.prog.cellsOf 4)) = some y4 := hf 4 _ rfl
  rw [cells5] at f0
  rw [cells3] at f1 f2
  rw [cells27] at f3
  rw [cells4] at f4
  obtain ⟨v0, e0, _, wf0⟩ := DataW.trod_int Yba.underlying5 (show DataW.trod enc Yba.prog w 0 spare held n 5 [c0] = some y0 from f0)
  obtain ⟨v1, e1, _, _⟩ := DataW.trod_int Yba.underlying3 (show DataW.trod enc Yba.prog w 0 spare held n 3 [c1] = some y1 from f1)
  obtain ⟨v2, e2, _, _⟩ := DataW.trod_int Yba.underlying3 (show DataW.trod enc Yba.prog w 0 spare held n 3 [c2] = some y2 from f2)
  have f3' : DataW.trod enc Yba.prog w 0 spare held n 27 [c3] = some y3 := f3
  obtain ⟨v4, e4, _⟩ := DataW.trod_bool Yba.underlying4 (show DataW.trod enc Yba.prog w 0 spare held n 4 [c4] = some y4 from f4)
  obtain ⟨a, l, c, e3⟩ : ∃ a l c, [c3] = [Value.slice a l c] := by
    rcases Go.Deep.open_slice Yba.underlying27 f3' with ⟨hcs, _⟩ | ⟨a', len', cap', _, _, _, _, hcs, _⟩
    · exact ⟨_, _, _, hcs⟩
    · exact ⟨_, _, _, hcs⟩
  simp only [List.cons.injEq, and_true] at e0 e1 e2 e3 e4
  subst e0 e1 e2 e3 e4
  have hb := bounds_u8 wf0
  exact ⟨⟨v0, v1, v2, a, l, c, v4⟩, rfl, hb.1, hb.2, reads_of f3' _ rfl⟩

/-- the sends that came in -/
theorem sends_open {fuel : Nat} {a : Option Addr} {len cap : Nat} {x : DataW H × List MemPlace} (h : DataW.trod enc Yba.prog w 0 spare held fuel 49 [.slice a len cap] = some x) :
    ∃ (ss : List Snd) (b o : Nat), ss.length = len ∧ Holds w b o ss ∧ (∀ s ∈ ss, Reads w s) ∧ (0 < len → a = some ⟨b, o, none⟩) := by
  rcases Go.Deep.open_slice Yba.underlying49 h with ⟨hcs, _⟩ | ⟨a', len', cap', m, n, D, Pl, hcs, _, hl, _, hm, _, hx⟩
  · simp at hcs
    obtain ⟨rfl, rfl, rfl⟩ := hcs
    exact ⟨[], 0, 0, rfl, fun i s hs => by simp at hs, fun s hs => by simp at hs, fun h => by omega⟩
  · simp at hcs
    obtain ⟨rfl, rfl, rfl⟩ := hcs
    have hml : len ≤ m := by rw [hm]; split <;> omega
    rw [cells56] at hx
    by_cases h0 : len = 0
    · subst h0
      exact ⟨[], 0, 0, rfl, fun i s hs => by simp at hs, fun s hs => by simp at hs, fun h => by omega⟩
    · have each : ∀ i, i < len → ∃ s : Snd, (w.cells? 0 (a'.add (i * 5)) 5 = some s.five) ∧ 0 ≤ s.rnd ∧ s.rnd ≤ 255 ∧ Reads w s := fun i hi => by
        obtain ⟨cs', h1, h2⟩ := hx i (by omega)
        obtain ⟨s, rfl, h3, h4, h5⟩ := elem_open h2
        exact ⟨s, h1, h3, h4, h5⟩
      obtain ⟨f, hf⟩ : ∃ f : Nat → Snd, ∀ i, i < len → (w.cells? 0 (a'.add (i * 5)) 5 = some (f i).five) ∧ 0 ≤ (f i).rnd ∧ (f i).rnd ≤ 255 ∧ Reads w (f i) := by
        refine ⟨fun i => if hi : i < len then Classical.choose (each i hi) else ⟨0, 0, 0, none, 0, 0, false⟩, fun i hi => ?_⟩
        simp only [dif_pos hi]
        exact Classical.choose_spec (each i hi)
      obtain ⟨b, o, spot⟩ := a'
      have hspot : spot = none := by
        have := (World.cells?_some (hf 0 (by omega)).1).2.2 0 (by omega)
        simpa [Addr.add] using World.cell?_spot this
      subst hspot
      refine ⟨(List.range len).map f, b, o, by simp, fun i s hs => ?_, fun s hs => ?_, fun _ => rfl⟩
      · have hi : i < len := by
          have := (List.getElem?_eq_some_iff.1 hs).1
          simpa using this
        have he : s = f i := by
          rw [List.getElem?_eq_getElem (by simpa using hi)] at hs
          simpa using hs.symm
        subst he
        obtain ⟨hc, h3, h4, _⟩ := hf i hi
        have hc' := (World.cells?_some hc).2.2
        have g := fun j (hj : j < 5) => hc' j hj
        simp only [Addr.add_lit] at g
        refine ⟨?_, ?_, ?_, ?_, ?_, h3, h4⟩
        · simpa using g 0 (by omega)
        · simpa using g 1 (by omega)
        · simpa using g 2 (by omega)
        · simpa using g 3 (by omega)
        · simpa using g 4 (by omega)
      · obtain ⟨i, hi, rfl⟩ := List.mem_map.1 hs
        exact (hf i (by simpa using hi)).2.2.2
end

set_option maxRecDepth 100000 in
theorem deliver_lifted (os : Os) (started : os.Started) (H : Type) (enc : TypeId × Value → H) :
    ReturnsInHanded {} Yba.checked os 4 .any (Rows.lawS4609BDeliverSpec.pre6 enc Yba.prog Yba.f4 Rows.lawS4609BDeliverRow.domain false) (Rows.lawS4609BDeliverSpec.post enc Yba.prog Yba.f4 false true false false) := by
  refine returnsInHanded_of_change (C := Yba.checked) own started (by kernel_rfl) Yba.func4
    (ChangeSpec.witness6 (enc := enc) (C := Yba.checked) false ⟨#[], #[.slice none 0 0, .int .u8 0], []⟩ 8 (by kernel_rfl) (by kernel_rfl) (by kernel_rfl) (by kernel_rfl)) ?_
  intro W base args ds gs before hval0 hW hcnd _
  have hval : ∀ (j : Nat) t v, Yba.f4.params[j]? = some t → args[j]? = some v → Value.okWide Yba.prog W .any base t v := hval0
  have hW' := hW
  obtain ⟨p, q, hA0, hV, rfl, hfz, hnd⟩ := hW
  have hA : DataW.TrodAll enc Yba.prog W 0 (fun _ => true) true Yba.f4.params.toList args.toList ds p := hA0
  rw [Yba.params4] at hA hval
  obtain ⟨v0, v1, d0, d1, p0, p1, rfl, rfl, rfl, h0, h1⟩ := trodAll_two hA
  obtain ⟨rfl, rfl⟩ := trodVars_none hV
  obtain ⟨a0, len0, cap0, rfl⟩ := okWide_slice Yba.underlying49 (hval 0 49 v0 rfl rfl)
  have k0 := h0
  have lt0 : ∀ x ∈ p0, x.block < W.heap.size := by obtain ⟨m, hm⟩ := k0; exact DataW.trod_lt m _ _ _ hm
  obtain ⟨x, rfl, rfl, rfl, wx⟩ := open_int Yba.underlying5 (hval 1 5 v1 rfl rfl) h1
  have hbx := bounds_u8 wx
  obtain ⟨ss, b, o, hl, hH, hR, hA1⟩ : ∃ (ss : List Snd) (b o : Nat), ss.length = len0 ∧ Holds W b o ss ∧ (∀ s ∈ ss, Reads W s) ∧ (0 < len0 → a0 = some ⟨b, o, none⟩) := by
    obtain ⟨fuel, hf⟩ := h0
    exact sends_open (by simpa [Value.cells] using hf)
  have key : Calls Yba.prog 4 #[.slice a0 len0 cap0, .int .u8 x] W fun e w' => e = .returned (.bool true) ∧ Below W.heap.size W w' := by
    by_cases hs : len0 ≤ 1024
    · exact law_walk a0 b o len0 cap0 ss x W hl hs hH hR hbx.1 hbx.2 hA1
    · exact law_long a0 len0 cap0 x W (by omega)
  clear hA0 hval0
  refine key.mono fun e W' ⟨he, bel⟩ => ?_
  subst he
  exact ⟨_, rfl, _, _, _, [], _, [], hW', trodAll_mk1 (shut_bool Yba.underlying4 _), trodAll_mk2 (Below.trod laidOut (by kernel_rfl) (of_decide_eq_true (by kernel_rfl)) k0 bel lt0) (shut_int Yba.underlying5 wx), rfl, bel.frame _, fun h => by cases h⟩

theorem lawS4609BDeliver_proved : Rows.LawS4609BDeliverSaid :=
  OpenClaim.holds_of_wide 4 Yba.f4 rfl rfl rfl rfl rfl rfl rfl ⟨rfl, rfl, rfl, rfl, rfl⟩ rfl rfl rfl rfl rfl (by kernel_rfl) Yba.func4 (by kernel_rfl)
    (of_decide_eq_true (by kernel_rfl)) (by unfold Func.isWrapper; rw [if_neg (of_decide_eq_false (by kernel_rfl))]; exact ⟨rfl, rfl⟩)
    (fun os started H enc _ => deliver_lifted os started H enc)
end Go.Proofs.Ybulkcqku
