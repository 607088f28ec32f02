/-
  The walk of LawS4611ARefuseOrName.
-/
import Derived.Test.YbulkcqlwFmtCopy
namespace Go.Proofs.YbulkcqlwFmt
open Go.RowKit
set_option linter.unusedVariables false
set_option maxRecDepth 100000 in
set_option maxHeartbeats 1000000 in
theorem refuse_some (x : Addr) (n c : Nat) (xs : List Int) (start : Int) (g o' : Nat) (w : World) (hT : Tab w g o') (hn : n ≤ 4096) (hl : xs.length = n) (hc : ∀ j (hj : j < xs.length), w.cell? (x.add j) = some (.int .u8 xs[j])) :
    Calls Ybaf.prog 3 #[.slice (some x) n c, .int .i64 start] w fun e w' => e = .returned (.bool true) ∧ Below w.heap.size w w' := by
  obtain ⟨w1, w2, hm, hcp, hb2, hs2, hcells⟩ := made_copy x n c xs w hl hn hc 3
  have hb3 : Below w2.heap.size w2 (w2.alloc (.cells #[.int .i64 start] 23)) := (Below.refl _ _).alloc (Nat.le_refl _) _
  have hc3 : ∀ j (hj : j < xs.length), (w2.alloc (.cells #[.int .i64 start] 23)).cell? ⟨w.heap.size, 0 + j, none⟩ = some (.int .u8 xs[j]) := fun j hj => cell_later hb3 (hcells j hj)
  obtain ⟨t, ht⟩ := texts_of w.heap.size n n xs _ hl hc3
  have ha := asked_of w.heap.size n n xs _ hl hc3
  have hd3 : (w2.alloc (.cells #[.int .i64 start] 23)).cell? ⟨w2.heap.size, 0, none⟩ = some (.int .i64 start) := by simp [go_sem]
  have hf3 : (w2.alloc (.cells #[.int .i64 start] 23)).frozen? ⟨w2.heap.size, 0, none⟩ = false := by simp [go_sem]
  have HU : Hid (Calls Ybaf.prog 7 #[.pointer (some ⟨w2.heap.size, 0, none⟩), .slice (some ⟨w.heap.size, 0, none⟩) n n] (w2.alloc (.cells #[.int .i64 start] 23)) fun e w' => Below w2.heap.size (w2.alloc (.cells #[.int .i64 start] 23)) w' ∧
      ((∃ a, e = .returned (.iface 75 (.pointer (some a))) ∧ w'.cell? ⟨w2.heap.size, 0, none⟩ = some (.int .i64 start)) ∨ (e = .returned .nilIface ∧ w'.cell? ⟨w2.heap.size, 0, none⟩ = some (.int .i64 1)) ∨ (e = .returned .nilIface ∧ w'.cell? ⟨w2.heap.size, 0, none⟩ = some (.int .i64 2)))) := unmarshal_any g o' w2.heap.size _ t start _ ((hT.later hb2).later hb3) hd3 hf3 ht ha
  have hS : ∀ w4, Below w2.heap.size (w2.alloc (.cells #[.int .i64 start] 23)) w4 → Calls Ybaf.prog 8 #[.slice (some ⟨w.heap.size, 0, none⟩) n n, .slice (some x) n c] w4 fun e w' => e = .returned (.bool true) ∧ ∃ q, w' = w4.drewN q := by
    intro w4 hb4
    have hb24 : Below w2.heap.size w2 w4 := hb3.trans hb4
    by_cases h0 : n = 0
    · subst h0
      exact same_zero _ _ _ _ w4
    · obtain ⟨b, off, spot⟩ := x
      have hspot : spot = none := by simpa [Addr.add] using World.cell?_spot (hc 0 (by omega))
      subst hspot
      refine same_any _ _ n n _ _ c xs w4 hl hn (fun j hj => cell_later hb24 (hcells j hj)) (fun j hj => cell_later (hb2.trans (hb24.mono hb2.size)) ?_)
      have hq := hc j hj
      rw [Addr.add_lit] at hq
      exact hq
  have HS : Hid (∀ w4, Below w2.heap.size (w2.alloc (.cells #[.int .i64 start] 23)) w4 → Calls Ybaf.prog 8 #[.slice (some ⟨w.heap.size, 0, none⟩) n n, .slice (some x) n c] w4 fun e w' => e = .returned (.bool true) ∧ ∃ q, w' = w4.drewN q) := hS
  have HB : Hid (∀ w4, Below w2.heap.size (w2.alloc (.cells #[.int .i64 start] 23)) w4 → Below w.heap.size w w4) := fun w4 hb4 => hb2.trans ((hb3.trans hb4).mono hb2.size)
  clear hS hb3 hc3 ht ha hd3 hf3 hcells hb2 hT hc hs2
  go_enter Ybaf.func3, Ybaf.ntmps3
  go_wp2_with (go_at_call 7; refine HU.out.mono ?_; rintro e w4 ⟨hb4, h⟩; rcases h with ⟨a9, rfl, h9⟩ | ⟨rfl, h9⟩ | ⟨rfl, h9⟩)
  all_goals clear HU
  all_goals go_wp2_with (go_at_call 8; refine (HS.out _ hb4).mono ?_; rintro e w5 ⟨rfl, q, rfl⟩)
  all_goals go_ret
  all_goals exact ⟨rfl, below_drewN (HB.out _ hb4) q⟩

theorem texts_nil (w : World) : Texts w (.slice none 0 0) ⟨#[]⟩ := by
  intro w' _
  kernel_rfl

theorem asked_nil (w : World) : Asked w (.slice none 0 0) := ⟨_, fun w' _ name => opNil name w'⟩

set_option maxRecDepth 100000 in
set_option maxHeartbeats 1000000 in
theorem refuse_nil (start : Int) (g o' : Nat) (w : World) (hT : Tab w g o') :
    Calls Ybaf.prog 3 #[.slice none 0 0, .int .i64 start] w fun e w' => e = .returned (.bool true) ∧ Below w.heap.size w w' := by
  have hb3 : Below w.heap.size w (w.alloc (.cells #[.int .i64 start] 23)) := (Below.refl _ _).alloc (Nat.le_refl _) _
  have hd3 : (w.alloc (.cells #[.int .i64 start] 23)).cell? ⟨w.heap.size, 0, none⟩ = some (.int .i64 start) := by simp [go_sem]
  have hf3 : (w.alloc (.cells #[.int .i64 start] 23)).frozen? ⟨w.heap.size, 0, none⟩ = false := by simp [go_sem]
  have HU : Hid (Calls Ybaf.prog 7 #[.pointer (some ⟨w.heap.size, 0, none⟩), .slice none 0 0] (w.alloc (.cells #[.int .i64 start] 23)) fun e w' => Below w.heap.size (w.alloc (.cells #[.int .i64 start] 23)) w' ∧
      ((∃ a, e = .returned (.iface 75 (.pointer (some a))) ∧ w'.cell? ⟨w.heap.size, 0, none⟩ = some (.int .i64 start)) ∨ (e = .returned .nilIface ∧ w'.cell? ⟨w.heap.size, 0, none⟩ = some (.int .i64 1)) ∨ (e = .returned .nilIface ∧ w'.cell? ⟨w.heap.size, 0, none⟩ = some (.int .i64 2)))) := unmarshal_any g o' w.heap.size (.slice none 0 0) ⟨#[]⟩ start _ (hT.later hb3) hd3 hf3 (texts_nil _) (asked_nil _)
  have HB : Hid (∀ w4, Below w.heap.size (w.alloc (.cells #[.int .i64 start] 23)) w4 → Below w.heap.size w w4) := fun w4 hb4 => hb3.trans hb4
  clear hb3 hd3 hf3 hT
  go_enter Ybaf.func3, Ybaf.ntmps3
  go_wp2_with (go_at_call 7; refine HU.out.mono ?_; rintro e w4 ⟨hb4, h⟩; rcases h with ⟨a9, rfl, h9⟩ | ⟨rfl, h9⟩ | ⟨rfl, h9⟩)
  all_goals clear HU
  all_goals go_wp2_with (go_at_call 8; refine (same_zero none none 0 0 _).mono ?_; rintro e w5 ⟨rfl, q, rfl⟩)
  all_goals go_ret
  all_goals exact ⟨rfl, below_drewN (HB.out _ hb4) q⟩
end Go.Proofs.YbulkcqlwFmt
