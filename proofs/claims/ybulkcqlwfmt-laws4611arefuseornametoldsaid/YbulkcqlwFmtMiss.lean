/-
  value and UnmarshalText where the text is no name: an error, made by Errorf.
-/
import Derived.Test.YbulkcqlwFmtErr
namespace Go.Proofs.YbulkcqlwFmt
open Go.RowKit
set_option linter.unusedVariables false

theorem Asked.later {w w' : World} {v : Value} (h : Asked w v) (hb : Below w.heap.size w w') : Asked w' v := by
  obtain ⟨r, hr⟩ := h
  exact ⟨r, fun w'' h'' => hr w'' (hb.trans (h''.mono hb.size))⟩

/-- choices, the world behind it a letter -/
theorem choices_later (g o : Nat) (w : World) (hN : Names w g o) :
    Calls Ybaf.prog 23 #[.agg (tabV g o)] w fun e w' => ∃ (s : ByteArray), e = .returned (.string s) ∧ Below w.heap.size w w' := by
  refine (choices_any g o w hN).mono ?_
  rintro e w' ⟨s, q, rfl, rfl⟩
  exact ⟨s, rfl, below_drewN ((Below.refl _ _).alloc (Nat.le_refl _) _) q⟩

set_option maxRecDepth 100000 in
set_option maxHeartbeats 2000000 in
theorem value_miss (g o : Nat) (v : Value) (t : ByteArray) (w : World) (hN : Names w g o) (hT : Texts w v t) (hA : Asked w v) (h0 : ([99, 111, 110, 115, 116, 97, 110, 116] == t.toList) = false) (h1 : ([116, 104, 101, 110, 45, 121, 101, 97, 114] == t.toList) = false) :
    Calls Ybaf.prog 16 #[.agg (tabV g o), v] w fun e w' => ∃ a, e = .returned (.tuple #[.int .i64 0, .iface 75 (.pointer (some a))]) ∧ Below w.heap.size w w' := by
  have hb : Below w.heap.size w (w.alloc (.cells (tabV g o) 52)) := (Below.refl _ _).alloc (Nat.le_refl _) _
  obtain ⟨c0, c1⟩ := hN.later hb
  have hc := hT _ hb
  have HN : Hid (Names w g o) := hN
  have HA : Hid (Asked w v) := hA
  clear hT hb hN hA
  go_enter Ybaf.func16, Ybaf.ntmps16
  go_wp2
  refine wp_loop_rounds 3 ?_
  rw [rounds_succ]
  go_wp2
  rw [rounds_succ]
  go_wp2
  rw [rounds_succ]
  go_wp2_with fail
  have HN1 : Hid (Names (w.alloc (.cells (tabV g o) 52)).drew g o) := HN.out.later ((Below.refl _ _).alloc (Nat.le_refl _) _).drew
  have HB1 : Hid (Below w.heap.size w (w.alloc (.cells (tabV g o) 52)).drew) := ((Below.refl _ _).alloc (Nat.le_refl _) _).drew
  go_region_held3 (fun w' => w'.cell? ⟨w.heap.size, 0, none⟩ = some (.string typS) ∧ w'.cell? ⟨w.heap.size, 1, none⟩ = some (.string labS) ∧ w'.cell? ⟨w.heap.size, 2, none⟩ = some (.string nounS) ∧ w'.cell? ⟨w.heap.size, 3, none⟩ = some (.slice (some ⟨g, o, none⟩) 2 2))
    (first | go_keep | (go_split_ands; refine ⟨?_, ?_, ?_, ?_⟩ <;> exact cell_later hb9 (by assumption)) | (go_split_ands; refine ⟨?_, ?_, ?_, ?_⟩ <;> exact cell_later hbx (by assumption)) | (go_split_ands; refine ⟨?_, ?_, ?_, ?_⟩ <;> exact cell_later ((Below.refl _ _).alloc (Nat.le_refl _) _) (by assumption)))
    (first
      | (go_at_call 23; refine (choices_later g o _ HN1.out).mono ?_; rintro e w9 ⟨s9, rfl, hb9⟩)
      | (go_at_call 21; refine (errorf_any w9.heap.size labS s9 v _ (by simp [go_sem]) (by simp [go_sem]) (by simp [go_sem]) (HA.out.later ((HB1.out.trans (hb9.mono HB1.out.size)).alloc (HB1.out.trans (hb9.mono HB1.out.size)).size _))).mono ?_; rintro e wx ⟨ax, rfl, hbx⟩))
  go_wp2
  go_ret2
  exact ⟨ax, rfl, ((HB1.out.trans (hb9.mono HB1.out.size)).alloc (HB1.out.trans (hb9.mono HB1.out.size)).size _).trans (hbx.mono ((HB1.out.trans (hb9.mono HB1.out.size)).alloc (HB1.out.trans (hb9.mono HB1.out.size)).size _).size)⟩
end Go.Proofs.YbulkcqlwFmt
