/-
  THE WALK OF send: one region that draws its order.
-/
import Derived.Test.YbulkcqkuNet
namespace Go.Proofs.Ybulkcqku
open Go.RowKit Go.Maps
set_option linter.unusedVariables false

set_option maxRecDepth 100000 in
set_option maxHeartbeats 3200000 in
theorem send_core (nb mb m base n : Nat) (D : DataW Value) (r frm dst : Int) (da : Option Addr) (dn dc : Nat) (cnt : Bool) (v : Value) (xs : List Value) (w : World) (hN : Net w nb mb m D) (h0 : 0 ≤ r) (h1 : r ≤ 4) (hv : At D r v) (hne : nb ≠ mb)
    (hown : w.ownsRow base 64 4 v n xs) (hbase : base ≤ w.heap.size) (hn : n ≤ 1024) (hm : m ≤ 1024) (ag : v.ownBlock ≠ some nb) (am : v.ownBlock ≠ some mb) (hft : (dst != frm) = false) :
    Calls Yba.prog 8 #[.pointer (some ⟨nb, 0, none⟩), .int .i64 r, .int .i64 frm, .int .i64 dst, .slice da dn dc, .bool cnt] w fun e w' => e = .returned (.tuple #[]) ∧
      ∃ g cap w1, w1.ownsRow base 64 4 (.slice (some ⟨g, 0, none⟩) (n + 1) cap) (n + 1) (xs ++ [.int .i64 dst, .int .i64 frm, .slice da dn dc, .bool cnt]) ∧ (v.ownBlock = some g ∨ g = w.heap.size + 1) ∧ g < w1.heap.size ∧
        (w.alloc (.cells #[.int .i64 dst, .int .i64 frm, .slice da dn dc, .bool cnt] 64)).drew.grownBy w1 v.ownBlock ∧ w'.ownsMap Yba.prog 3 RV mb (m + 1) (D.put (.int .i64 r) (.held (.slice (some ⟨g, 0, none⟩) (n + 1) cap))) ∧ w1.grownBy w' (some mb) := by
  obtain ⟨c0, c1, c3, hmap⟩ := hN
  obtain ⟨i0, hi0, hz0, hz1, hz2⟩ := info_parts info64
  have lg := World.block_lt_of_cell? w _ c3
  have hkey := keyOf_int_mk Yba.underlying3 (wf_small r h0 h1)
  have L0 := look_run (w := w.drew) hmap h0 h1 hv
  have L1 := fun o => look_run (w := (w.alloc o).drew) (hmap.alloc o) h0 h1 hv
  have hmL := hmap.lt
  have HM : Hid (w.ownsMap Yba.prog 3 RV mb m D) := hmap
  have HO : Hid (w.ownsRow base 64 4 v n xs) := hown
  have HK : Hid (keyOf Yba.prog 3 (Value.int IntKind.i64 r) = some (Lit.int IntKind.i64 r)) := hkey
  clear hmap hown hv hkey
  go_enter Yba.func8, Yba.ntmps8
  go_wp2
  go_region_held3 (fun w' => w'.cell? ⟨nb, 3, none⟩ = some (.map (some mb)))
    (first | go_keep | (rw [hgrow.cell_far _ (by simp; omega) (Ne.symm ag)]; assumption) | (rw [hg2.cell_far _ (by have := hgrow.size; simp at this; simp; omega) (by simpa using hne)]; assumption))
    ((refine step_append_lies _ (by rfl) _ _ _ (by rfl) base 64 i0 _ 4 48 Yba.underlying58 hi0 hz0 hz1 hz2 rfl (by omega) v n xs (by rfl) ((HO.out.alloc _).drew)
        ⟨w.heap.size, 0, none⟩ 1 1 [.int .i64 dst, .int .i64 frm, .slice da dn dc, .bool cnt] (by rfl) (by rfl) (World.news_of_block (cs := #[.int .i64 dst, .int .i64 frm, .slice da dn dc, .bool cnt]) (t := 64) (fr := (0, 0)) (heap_alloc_new w _)) (by simp [Value.oneCell'])
        (by omega) (by unfold maxLen; omega) (by omega) (by simp; omega) (w.heap.size + 1) (by simp) ?_; intro g cap w1 hown1 hgrow hat hlt; obtain ⟨w2, hrun2, hm2, hg2⟩ := (((HM.out.alloc _).drew).kept hgrow (Ne.symm am)).update law3 Yba.underlying51 (by unfold maxLen; omega) (val := .slice (some ⟨g, 0, none⟩) (n + 1) cap) (d := .held (.slice (some ⟨g, 0, none⟩) (n + 1) cap)) (ps := []) HK.out rfl))
  all_goals (go_end0; exact ⟨rfl, g, cap, w1, hown1, hat, hlt, hgrow, hm2, hg2⟩)

set_option maxRecDepth 100000 in
set_option maxHeartbeats 3200000 in
theorem send_other (nb mb m base n : Nat) (D : DataW Value) (r frm dst : Int) (da : Option Addr) (dn dc : Nat) (cnt : Bool) (v : Value) (xs : List Value) (w : World) (hN : Net w nb mb m D) (h0 : 0 ≤ r) (h1 : r ≤ 4) (hv : At D r v) (hne : nb ≠ mb)
    (hown : w.ownsRow base 64 4 v n xs) (hbase : base ≤ w.heap.size) (hn : n ≤ 1024) (hm : m ≤ 1024) (ag : v.ownBlock ≠ some nb) (am : v.ownBlock ≠ some mb) (hft : (dst != frm) = true) :
    Calls Yba.prog 8 #[.pointer (some ⟨nb, 0, none⟩), .int .i64 r, .int .i64 frm, .int .i64 dst, .slice da dn dc, .bool cnt] w fun e w' => e = .returned (.tuple #[]) ∧
      ∃ g cap w1, w1.ownsRow base 64 4 (.slice (some ⟨g, 0, none⟩) (n + 1) cap) (n + 1) (xs ++ [.int .i64 dst, .int .i64 frm, .slice da dn dc, .bool cnt]) ∧ (v.ownBlock = some g ∨ g = w.heap.size + 1) ∧ g < w1.heap.size ∧
        (w.alloc (.cells #[.int .i64 dst, .int .i64 frm, .slice da dn dc, .bool cnt] 64)).drew.grownBy w1 v.ownBlock ∧ w'.ownsMap Yba.prog 3 RV mb (m + 1) (D.put (.int .i64 r) (.held (.slice (some ⟨g, 0, none⟩) (n + 1) cap))) ∧ w1.grownBy w' (some mb) := by
  obtain ⟨c0, c1, c3, hmap⟩ := hN
  obtain ⟨i0, hi0, hz0, hz1, hz2⟩ := info_parts info64
  have lg := World.block_lt_of_cell? w _ c3
  have hkey := keyOf_int_mk Yba.underlying3 (wf_small r h0 h1)
  have L0 := look_run (w := w.drew) hmap h0 h1 hv
  have L1 := fun o => look_run (w := (w.alloc o).drew) (hmap.alloc o) h0 h1 hv
  have hmL := hmap.lt
  have HM : Hid (w.ownsMap Yba.prog 3 RV mb m D) := hmap
  have HO : Hid (w.ownsRow base 64 4 v n xs) := hown
  have HK : Hid (keyOf Yba.prog 3 (Value.int IntKind.i64 r) = some (Lit.int IntKind.i64 r)) := hkey
  clear hmap hown hv hkey
  go_enter Yba.func8, Yba.ntmps8
  go_wp2
  go_region_held3 (fun w' => w'.cell? ⟨nb, 3, none⟩ = some (.map (some mb)))
    (first | go_keep | (rw [hgrow.cell_far _ (by simp; omega) (Ne.symm ag)]; assumption) | (rw [hg2.cell_far _ (by have := hgrow.size; simp at this; simp; omega) (by simpa using hne)]; assumption))
    ((refine step_append_lies _ (by rfl) _ _ _ (by rfl) base 64 i0 _ 4 48 Yba.underlying58 hi0 hz0 hz1 hz2 rfl (by omega) v n xs (by rfl) ((HO.out.alloc _).drew)
        ⟨w.heap.size, 0, none⟩ 1 1 [.int .i64 dst, .int .i64 frm, .slice da dn dc, .bool cnt] (by rfl) (by rfl) (World.news_of_block (cs := #[.int .i64 dst, .int .i64 frm, .slice da dn dc, .bool cnt]) (t := 64) (fr := (0, 0)) (heap_alloc_new w _)) (by simp [Value.oneCell'])
        (by omega) (by unfold maxLen; omega) (by omega) (by simp; omega) (w.heap.size + 1) (by simp) ?_; intro g cap w1 hown1 hgrow hat hlt; obtain ⟨w2, hrun2, hm2, hg2⟩ := (((HM.out.alloc _).drew).kept hgrow (Ne.symm am)).update law3 Yba.underlying51 (by unfold maxLen; omega) (val := .slice (some ⟨g, 0, none⟩) (n + 1) cap) (d := .held (.slice (some ⟨g, 0, none⟩) (n + 1) cap)) (ps := []) HK.out rfl))
  all_goals (go_end0; exact ⟨rfl, g, cap, w1, hown1, hat, hlt, hgrow, hm2, hg2⟩)
end Go.Proofs.Ybulkcqku
