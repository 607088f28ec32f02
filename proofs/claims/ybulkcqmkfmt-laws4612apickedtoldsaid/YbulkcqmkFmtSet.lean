/-
  A set of strings in memory; Distinct.Add.
-/
import Derived.Test.YbulkcqmkFmtErr
import Derived.Maps.OwnSet
import Derived.Maps.StringElems
namespace Go.Proofs.YbulkcqmkFmt
open Go.RowKit Go.Maps
set_option linter.unusedVariables false

/-- An element of a map, taken as it stands. -/
def RV (v : Value) : Option (DataW Value × List MemPlace) := some (.held v, [])
theorem law9 : Keyed Ybaf.prog 9 := string_keyed Ybaf.underlying9

/-- A set of strings in memory: a map block whose look gives f. -/
def Set (w : World) (b n : Nat) (f : ByteArray → Bool) : Prop :=
  ∃ D : DataW Value, w.ownsMap Ybaf.prog 9 RV b n D ∧ ∀ s : ByteArray, D.atKey (.string s.data.toList) (.held (.bool false)) = .held (.bool (f s))

theorem zero4 (w : World) : (zeroValue 4).run Ybaf.prog w = .ok (.bool false) w := by kernel_rfl

theorem Set.made (w : World) : Set (w.alloc (.map #[] 0)) w.heap.size 0 (fun _ => false) := ⟨.map [], World.ownsMap_made w _ _ _, fun s => rfl⟩

theorem Set.lt {w : World} {b n : Nat} {f : ByteArray → Bool} (h : Set w b n f) : b < w.heap.size := by
  obtain ⟨D, hD, _⟩ := h
  exact hD.lt

theorem Set.later {w w' : World} {b n B : Nat} {f : ByteArray → Bool} (h : Set w b n f) (hb : Below B w w') (hlt : b < B) : Set w' b n f := by
  obtain ⟨D, ⟨es, clock, h1, F, hs, hD⟩, hf⟩ := h
  exact ⟨D, ⟨es, clock, (hb.block b hlt).trans h1, F, hs, hD⟩, hf⟩

theorem Set.look {w : World} {b n : Nat} {f : ByteArray → Bool} (h : Set w b n f) (s : ByteArray) (hs : s.size ≤ maxLen) (t : TypeId) (ht : Ybaf.prog.underlying t = some (.map 9 4)) :
    (Instr.lookup t (.map (some b)) (.string s) false).run Ybaf.prog w = .ok (.bool (f s)) w := by
  obtain ⟨D, hD, hf⟩ := h
  obtain ⟨v', ps, hrun, hR⟩ := hD.lookup law9 ht (zero4 w) (zd := .held (.bool false)) (zp := []) rfl (WideMaps.keyOf_string_mk Ybaf.underlying9 hs)
  rw [hf s] at hR
  simp only [RV, Option.some.injEq, Prod.mk.injEq, DataW.held.injEq] at hR
  obtain ⟨rfl, _⟩ := hR
  exact hrun

theorem Set.put {w : World} {b n : Nat} {f : ByteArray → Bool} (h : Set w b n f) (s : ByteArray) (hs : s.size ≤ maxLen) (hn : n < maxLen) (t : TypeId) (ht : Ybaf.prog.underlying t = some (.map 9 4)) :
    ∃ w', (Instr.mapUpdate t (.map (some b)) (.string s) (.bool true)).run Ybaf.prog w = .ok () w' ∧ Set w' b (n + 1) (fun x => decide (x = s) || f x) ∧ Below b w w' := by
  obtain ⟨D, hD, hf⟩ := h
  obtain ⟨w', hrun, h1, h2⟩ := hD.update law9 ht hn (WideMaps.keyOf_string_mk Ybaf.underlying9 hs) (val := .bool true) (d := .held (.bool true)) (ps := []) rfl
  refine ⟨w', hrun, ⟨_, h1, fun x => ?_⟩, ⟨h2.os, h2.tape, h2.output, h2.size, fun k hk => h2.block k (Nat.lt_trans hk hD.lt) (by simp; omega)⟩⟩
  by_cases hx : x = s
  · subst hx
    rw [atKey_put_same hD.isMap (k := .string x.data.toList) trivial]
    simp
  · rw [atKey_put_other (by simpa using fun h => hx (ByteArray.ext (Array.toList_inj.1 h))), hf x]
    simp [hx]

set_option maxHeartbeats 1000000 in
theorem add_empty (b : Nat) (t : ByteArray) (w : World) :
    Calls Ybaf.prog 9 #[.map (some b), .string t, .string ⟨#[]⟩] w fun e w' => ∃ a, e = .returned (.iface 38 (.pointer (some a))) ∧ Below w.heap.size w w' := by
  go_enter Ybaf.func9, Ybaf.ntmps9
  go_wp2_with (go_at_call 7; refine (errorf_one missF fp_miss w.heap.size t _ (by simp [go_sem])).mono ?_; rintro e w' ⟨a9, rfl, hb9⟩)
  go_ret
  exact ⟨_, rfl, ((Below.refl _ _).alloc (Nat.le_refl _) _).trans (hb9.mono (by simp))⟩

set_option maxHeartbeats 1000000 in
theorem add_twice (b n : Nat) (f : ByteArray → Bool) (t s : ByteArray) (w : World) (h : Set w b n f) (hs : s.size ≤ maxLen) (hf : f s = true) (hne : s.toList.isEmpty = false) :
    Calls Ybaf.prog 9 #[.map (some b), .string t, .string s] w fun e w' => ∃ a, e = .returned (.iface 38 (.pointer (some a))) ∧ Below w.heap.size w w' := by
  have hl := h.look s hs 27 Ybaf.underlying27
  rw [hf] at hl
  clear h
  go_enter Ybaf.func9, Ybaf.ntmps9
  go_wp2_with (go_at_call 7; refine (errorf_two twiceF fp_twice w.heap.size t s _ (by simp [go_sem]) (by simp [go_sem])).mono ?_; rintro e w' ⟨a9, rfl, hb9⟩)
  go_ret
  exact ⟨_, rfl, ((Below.refl _ _).alloc (Nat.le_refl _) _).trans (hb9.mono (by simp))⟩

set_option maxHeartbeats 1000000 in
theorem add_new (b n : Nat) (f : ByteArray → Bool) (t s : ByteArray) (w : World) (h : Set w b n f) (hs : s.size ≤ maxLen) (hn : n < maxLen) (hf : f s = false) (hne : s.toList.isEmpty = false) :
    Calls Ybaf.prog 9 #[.map (some b), .string t, .string s] w fun e w' => e = .returned .nilIface ∧ Set w' b (n + 1) (fun x => decide (x = s) || f x) ∧ Below b w w' := by
  have hl := h.look s hs 27 Ybaf.underlying27
  obtain ⟨w1, hrun, h1, h2⟩ := h.put s hs hn 27 Ybaf.underlying27
  rw [hf] at hl
  have H1 : Hid (Set w1 b (n + 1) (fun x => decide (x = s) || f x)) := h1
  clear h h1
  go_enter Ybaf.func9, Ybaf.ntmps9
  go_wp2
  go_ret
  exact ⟨rfl, H1.out, h2⟩
end Go.Proofs.YbulkcqmkFmt
