/-
  THE TABLE OF NAMES IN MEMORY; value and UnmarshalText where the text is one of the names.
-/
import Derived.Test.YbulkcqlwFmtRows
import Derived.WalkKit
import Derived.WalkSpells
import Derived.WalkLawsBesides
import Derived.Laws.BytesArg
import Derived.Laws.IdiomStrings
import Derived.Deep.QuietTactic
import Derived.BigQuiet
namespace Go.Proofs.YbulkcqlwFmt
open Go.RowKit
set_option linter.unusedVariables false

abbrev typS : ByteArray := ⟨#[68, 111, 108, 108, 97, 114, 115]⟩
abbrev labS : ByteArray := ⟨#[100, 111, 108, 108, 97, 114, 115]⟩
abbrev nounS : ByteArray := ⟨#[97, 32, 107, 105, 110, 100, 32, 111, 102, 32, 100, 111, 108, 108, 97, 114, 115]⟩
abbrev conS : ByteArray := ⟨#[99, 111, 110, 115, 116, 97, 110, 116]⟩
abbrev theS : ByteArray := ⟨#[116, 104, 101, 110, 45, 121, 101, 97, 114]⟩

/-- The four fields of the table, as one value. -/
abbrev tabV (g o : Nat) : Array Value := #[.string typS, .string labS, .string nounS, .slice (some ⟨g, o, none⟩) 2 2]

/-- The two names lie behind the table's slice. -/
structure Names (w : World) (g o : Nat) : Prop where
  n0 : w.cell? ⟨g, o, none⟩ = some (.string conS)
  n1 : w.cell? ⟨g, o + 1, none⟩ = some (.string theS)

/-- The table in its variable. -/
structure Tab (w : World) (g o : Nat) : Prop where
  t0 : w.cell? ⟨0, 0, none⟩ = some (.string typS)
  t1 : w.cell? ⟨0, 1, none⟩ = some (.string labS)
  t2 : w.cell? ⟨0, 2, none⟩ = some (.string nounS)
  t3 : w.cell? ⟨0, 3, none⟩ = some (.slice (some ⟨g, o, none⟩) 2 2)
  names : Names w g o

theorem Names.later {w w' : World} {g o : Nat} (h : Names w g o) (hb : Below w.heap.size w w') : Names w' g o := ⟨cell_later hb h.n0, cell_later hb h.n1⟩
theorem Tab.later {w w' : World} {g o : Nat} (h : Tab w g o) (hb : Below w.heap.size w w') : Tab w' g o := ⟨cell_later hb h.t0, cell_later hb h.t1, cell_later hb h.t2, cell_later hb h.t3, h.names.later hb⟩

/-- what string(text) gives, now and later -/
def Texts (w : World) (v : Value) (t : ByteArray) : Prop := ∀ w', Below w.heap.size w w' → (convert 22 9 v).run Ybaf.prog w' = .ok (.string t) w'
theorem Texts.later {w w' : World} {v : Value} {t : ByteArray} (h : Texts w v t) (hb : Below w.heap.size w w') : Texts w' v t := fun w'' h'' => h w'' (hb.trans (h''.mono hb.size))

set_option maxHeartbeats 400000 in
theorem value_con (g o : Nat) (v : Value) (w : World) (hN : Names w g o) (hT : Texts w v conS) :
    Calls Ybaf.prog 16 #[.agg (tabV g o), v] w fun e w' => e = .returned (.tuple #[.int .i64 1, .nilIface]) ∧ w' = w.alloc (.cells (tabV g o) 52) := by
  obtain ⟨n0, n1⟩ := hN
  have hb : Below w.heap.size w (w.alloc (.cells (tabV g o) 52)) := (Below.refl _ _).alloc (Nat.le_refl _) _
  have c0 := cell_later hb n0
  have hc := hT _ hb
  clear hT hb
  go_enter Ybaf.func16, Ybaf.ntmps16
  go_wp2
  refine wp_loop_rounds 1 ?_
  rw [rounds_succ]
  go_wp2
  go_ret2
  exact ⟨rfl, rfl⟩

set_option maxHeartbeats 400000 in
theorem value_the (g o : Nat) (v : Value) (w : World) (hN : Names w g o) (hT : Texts w v theS) :
    Calls Ybaf.prog 16 #[.agg (tabV g o), v] w fun e w' => e = .returned (.tuple #[.int .i64 2, .nilIface]) ∧ w' = w.alloc (.cells (tabV g o) 52) := by
  obtain ⟨n0, n1⟩ := hN
  have hb : Below w.heap.size w (w.alloc (.cells (tabV g o) 52)) := (Below.refl _ _).alloc (Nat.le_refl _) _
  have c0 := cell_later hb n0
  have c1 := cell_later hb n1
  have hc := hT _ hb
  clear hT hb
  go_enter Ybaf.func16, Ybaf.ntmps16
  go_wp2
  refine wp_loop_rounds 2 ?_
  rw [rounds_succ]
  go_wp2
  rw [rounds_succ]
  go_wp2
  go_ret2
  exact ⟨rfl, rfl⟩

/-- UnmarshalText where the text is a name: the number is stored. -/
theorem unmarshal_of (g o d : Nat) (v : Value) (k x : Int) (w : World) (hT : Tab w g o) (hd : w.cell? ⟨d, 0, none⟩ = some (.int .i64 x)) (hf : w.frozen? ⟨d, 0, none⟩ = false)
    (hv : ∀ w1, Names w1 g o → Below w.heap.size w w1 → Calls Ybaf.prog 16 #[.agg (tabV g o), v] w1 fun e w' => e = .returned (.tuple #[.int .i64 k, .nilIface]) ∧ w' = w1.alloc (.cells (tabV g o) 52)) :
    Calls Ybaf.prog 7 #[.pointer (some ⟨d, 0, none⟩), v] w fun e w' => e = .returned .nilIface ∧ w'.cell? ⟨d, 0, none⟩ = some (.int .i64 k) ∧ Below d w w' := by
  obtain ⟨t0, t1, t2, t3, hN⟩ := hT
  have HV := hv w hN (Below.refl _ _)
  have HV' : Hid (Calls Ybaf.prog 16 #[.agg (tabV g o), v] w fun e w' => e = .returned (.tuple #[.int .i64 k, .nilIface]) ∧ w' = w.alloc (.cells (tabV g o) 52)) := HV
  have hlt := World.block_lt_of_cell? w _ hd
  clear hv hN HV
  go_enter Ybaf.func7, Ybaf.ntmps7
  go_wp2_with (go_at_call 16; refine HV'.out.mono ?_; rintro e w' ⟨rfl, rfl⟩)
  go_ret
  have e1 : (w.setCell ⟨d, 0, none⟩ (.int .i64 k)).cell? ⟨d, 0, none⟩ = some (.int .i64 k) := World.cell?_setCell_same _ _ _ hd
  refine ⟨rfl, cell_later ((Below.refl _ _).alloc (Nat.le_refl _) _) e1, ?_⟩
  exact ((Below.refl d w).setCell (p := ⟨d, 0, none⟩) (Nat.le_refl d) _).alloc (by simp; omega) _

theorem strOfNums_self (s : ByteArray) : strOfNums (s.data.toList.map fun b => (b.toNat : Int)) = s := by
  unfold strOfNums
  rw [List.map_map]
  have e : ((fun n : Int => UInt8.ofNat n.toNat) ∘ fun b : UInt8 => (b.toNat : Int)) = id := by
    funext b
    simp
  rw [e, List.map_id]

/-- '[]byte(s)', just laid, reads as s again. -/
theorem texts_made (W : World) (s : ByteArray) (cap c : Nat) (fr : Nat × Nat) :
    Texts (W.alloc (.cells (bytesRow s cap) 5 fr)) (.slice (some ⟨W.heap.size, 0, none⟩) s.size c) s := by
  intro w' hb
  have h := run_convert_bytes_arg (P := Ybaf.prog) w' 22 5 Ybaf.underlying22 Ybaf.underlying5 W.heap.size 0 s.size c (s.data.toList.map fun b => (b.toNat : Int)) (by rw [List.length_map, Array.length_toList]; rfl) (fun i hi => ?_) 9 Ybaf.underlying9
  · rw [strOfNums_self] at h
    exact h
  · refine cell_later hb ?_
    rw [Nat.zero_add, World.cell?_alloc_mark]
    have hi' : i < s.data.size := hi
    unfold bytesRow
    rw [Array.getElem?_append_left (by simpa using hi')]
    simp [List.getD, Array.getElem?_eq_getElem hi']

/-- the world at the call of UnmarshalText: the receiver's block, the bytes' block -/
abbrev callW (w : World) (start : Int) (s : ByteArray) (cap : Nat) (fr : Nat × Nat) : World := ((w.alloc (.cells #[.int .i64 start] 23)).alloc (.cells (bytesRow s cap) 5 fr)).drew

theorem callW_facts (w : World) (start : Int) (s : ByteArray) (cap c : Nat) (fr : Nat × Nat) :
    Below w.heap.size w (callW w start s cap fr) ∧ (callW w start s cap fr).cell? ⟨w.heap.size, 0, none⟩ = some (.int .i64 start) ∧ (callW w start s cap fr).frozen? ⟨w.heap.size, 0, none⟩ = false ∧
      Texts (callW w start s cap fr) (.slice (some ⟨w.heap.size + 1, 0, none⟩) s.size c) s := by
  have e : (w.alloc (.cells #[.int .i64 start] 23)).heap.size = w.heap.size + 1 := by simp
  have ht := texts_made (w.alloc (.cells #[.int .i64 start] 23)) s cap c fr
  rw [e] at ht
  refine ⟨(((Below.refl _ _).alloc (Nat.le_refl _) _).alloc (by simp) _).drew, by simp [go_sem], by simp [go_sem], ht.later (Below.refl _ _).drew⟩

set_option maxHeartbeats 400000 in
theorem names_even (sel start : Int) (g o : Nat) (w : World) (hT : Tab w g o) (h0 : 0 ≤ sel) (h1 : sel ≤ 255) (he : (sel % 2 == 1) = false) :
    Calls Ybaf.prog 4 #[.int .u8 sel, .int .i64 start] w fun e w' => e = .returned (.bool true) ∧ Below w.heap.size w w' := by
  have kc := fun (w : World) (s : ByteArray) => run_bytes_of_string (P := Ybaf.prog) w 9 22 5 s Ybaf.underlying9 Ybaf.underlying22 Ybaf.underlying5
  go_enter Ybaf.func4, Ybaf.ntmps4
  go_wp2_with fail
  obtain ⟨fb, fc, ff, ft⟩ := callW_facts w start conS (grownCap (w.alloc (.cells #[.int .i64 start] 23)) 8 0 5) (grownCap (w.alloc (.cells #[.int .i64 start] 23)) 8 0 5) ((bytesRow conS (grownCap (w.alloc (.cells #[.int .i64 start] 23)) 8 0 5)).size, (bytesRow conS (grownCap (w.alloc (.cells #[.int .i64 start] 23)) 8 0 5)).size + 1)
  refine (unmarshal_of g o w.heap.size _ 1 start _ (hT.later fb) fc ff (fun w1 hN hb => value_con g o _ w1 hN (ft.later hb))).mono ?_
  rintro e w3 ⟨rfl, k0, kb⟩
  have kbw : Below w.heap.size w w3 := fb.trans kb
  clear fb fc ff ft kb kc
  go_wp2
  go_ret
  exact ⟨rfl, kbw⟩

set_option maxHeartbeats 400000 in
theorem names_odd (sel start : Int) (g o : Nat) (w : World) (hT : Tab w g o) (h0 : 0 ≤ sel) (h1 : sel ≤ 255) (he : (sel % 2 == 1) = true) :
    Calls Ybaf.prog 4 #[.int .u8 sel, .int .i64 start] w fun e w' => e = .returned (.bool true) ∧ Below w.heap.size w w' := by
  have kc := fun (w : World) (s : ByteArray) => run_bytes_of_string (P := Ybaf.prog) w 9 22 5 s Ybaf.underlying9 Ybaf.underlying22 Ybaf.underlying5
  go_enter Ybaf.func4, Ybaf.ntmps4
  go_wp2_with fail
  obtain ⟨fb, fc, ff, ft⟩ := callW_facts w start theS (grownCap (w.alloc (.cells #[.int .i64 start] 23)) 9 0 5) (grownCap (w.alloc (.cells #[.int .i64 start] 23)) 9 0 5) ((bytesRow theS (grownCap (w.alloc (.cells #[.int .i64 start] 23)) 9 0 5)).size, (bytesRow theS (grownCap (w.alloc (.cells #[.int .i64 start] 23)) 9 0 5)).size + 1)
  refine (unmarshal_of g o w.heap.size _ 2 start _ (hT.later fb) fc ff (fun w1 hN hb => value_the g o _ w1 hN (ft.later hb))).mono ?_
  rintro e w3 ⟨rfl, k0, kb⟩
  have kbw : Below w.heap.size w w3 := fb.trans kb
  clear fb fc ff ft kb kc
  go_wp2
  go_ret
  exact ⟨rfl, kbw⟩
end Go.Proofs.YbulkcqlwFmt
