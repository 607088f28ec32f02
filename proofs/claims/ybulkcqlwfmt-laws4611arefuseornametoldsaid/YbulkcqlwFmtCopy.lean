/-
  The copy of the text, UnmarshalText at any text, and the comparison of the bytes.
-/
import Derived.Test.YbulkcqlwFmtMiss
import Derived.OwnWalk
import Derived.RangeFuncRecord
import Derived.Laws.CopyOwn
import Derived.Deep.LoopGhost
namespace Go.Proofs.YbulkcqlwFmt
open Go.RowKit
set_option linter.unusedVariables false

theorem made_copy (x : Addr) (n c : Nat) (xs : List Int) (w : World) (hl : xs.length = n) (hn : n ≤ 4096) (hc : ∀ j (hj : j < xs.length), w.cell? (x.add j) = some (.int .u8 xs[j])) (ty : TypeId) :
    ∃ w1 w2, (Instr.makeSlice 22 (.int .i64 (n : Int)) (.int .i64 (n : Int))).run Ybaf.prog w = .ok (.slice (some ⟨w.heap.size, 0, none⟩) n n) w1 ∧
      (Builtin.copy_ #[22, 22] ty #[.slice (some ⟨w.heap.size, 0, none⟩) n n, .slice (some x) n c]).run Ybaf.prog w1 = .ok (.int .i64 n) w2 ∧
      Below w.heap.size w w2 ∧ w2.heap.size = w.heap.size + 1 ∧ ∀ j (hj : j < xs.length), w2.cell? ⟨w.heap.size, 0 + j, none⟩ = some (.int .u8 xs[j]) := by
  obtain ⟨z, hi, hz, hs, hb⟩ : ∃ z : Value, Ybaf.prog.info? 5 = some Ybaf.t5 ∧ Ybaf.t5.zero = some z ∧ Ybaf.t5.size = 1 ∧ Ybaf.t5.bytes = 1 := ⟨_, by kernel_rfl, rfl, rfl, rfl⟩
  have hm := run_make (P := Ybaf.prog) w 22 5 Ybaf.t5 z Ybaf.underlying22 hi hz .i64 .i64 n n (by omega) (Int.le_refl _) (by rw [hb]; omega) (by omega)
  simp only [Int.toNat_natCast, hs, Nat.mul_one] at hm
  have hb1 : Below w.heap.size w (w.alloc (.cells (madeCells z.cells n) 5)) := (Below.refl _ _).alloc (Nat.le_refl _) _
  have hsz : (madeCells z.cells n).size = n := size_madeCells _ _
  have hsz' : (Ybaf.prog.info? 5).map (·.size) = some 1 := by rw [hi]; rfl
  by_cases h0 : n = 0
  · subst h0
    have hx : xs = [] := List.eq_nil_of_length_eq_zero hl
    subst hx
    exact ⟨_, _, hm, run_copy_none (P := Ybaf.prog) _ 22 22 ty 5 _ _ 0 0 0 c Ybaf.underlying22 hsz' rfl, hb1, by simp, fun j hj => absurd hj (by simp)⟩
  · have hnew : (w.alloc (.cells (madeCells z.cells n) 5)).heap[w.heap.size]? = some (.cells (madeCells z.cells n) 5) := World.alloc_heap_new _ _
    have hr := run_copy_row (P := Ybaf.prog) (w.alloc (.cells (madeCells z.cells n) 5)) 22 22 ty 5 w.heap.size 0 n n x n c (madeCells z.cells n) 5 (xs.map (Value.int .u8)) Ybaf.underlying22 hsz' hnew (by simp [hl]) ?_ (by simp [hl, hsz]) (by simp [Value.oneCell'])
    · have e : (madeCells z.cells n).toList.take 0 ++ xs.map (Value.int .u8) ++ (madeCells z.cells n).toList.drop (0 + (xs.map (Value.int .u8)).length) = xs.map (Value.int .u8) := by
        rw [List.drop_eq_nil_of_le (by simp [hl, hsz])]
        simp
      rw [e] at hr
      have el : goInt (xs.map (Value.int .u8)).length = .int .i64 n := by simp [goInt, hl]
      rw [el] at hr
      refine ⟨_, _, hm, hr, below_setRow hb1 (Nat.le_refl _) _, by simp [World.setRow], ?_⟩
      intro j hj
      rw [Nat.zero_add]
      have hh := setRow_heap _ _ _ (xs.map (Value.int .u8)).toArray _ _ hnew
      unfold World.cell?
      simp only [hh]
      simp [hj]
    · intro j v hv
      obtain ⟨y, hx, rfl⟩ : ∃ y, xs[j]? = some y ∧ Value.int .u8 y = v := by simpa using hv
      obtain ⟨hj, rfl⟩ := List.getElem?_eq_some_iff.1 hx
      exact cell_later hb1 (hc j hj)

theorem unmarshal_miss (g o d : Nat) (v : Value) (x : Int) (w : World) (hT : Tab w g o) (hd : w.cell? ⟨d, 0, none⟩ = some (.int .i64 x))
    (hv : Calls Ybaf.prog 16 #[.agg (tabV g o), v] w fun e w' => ∃ a, e = .returned (.tuple #[.int .i64 0, .iface 75 (.pointer (some a))]) ∧ Below w.heap.size w w') :
    Calls Ybaf.prog 7 #[.pointer (some ⟨d, 0, none⟩), v] w fun e w' => ∃ a, e = .returned (.iface 75 (.pointer (some a))) ∧ Below w.heap.size w w' := by
  obtain ⟨t0, t1, t2, t3, hN⟩ := hT
  have HV' : Hid (Calls Ybaf.prog 16 #[.agg (tabV g o), v] w fun e w' => ∃ a, e = .returned (.tuple #[.int .i64 0, .iface 75 (.pointer (some a))]) ∧ Below w.heap.size w w') := hv
  clear hv hN
  go_enter Ybaf.func7, Ybaf.ntmps7
  go_wp2_with (go_at_call 16; refine HV'.out.mono ?_; rintro e w' ⟨a9, rfl, hb9⟩)
  go_ret
  exact ⟨_, rfl, hb9⟩

theorem same_zero (a1 a2 : Option Addr) (c d : Nat) (w : World) :
    Calls Ybaf.prog 8 #[.slice a1 0 c, .slice a2 0 d] w fun e w' => e = .returned (.bool true) ∧ ∃ q, w' = w.drewN q := by
  go_enter Ybaf.func8, Ybaf.ntmps8
  go_wp2
  refine wp_loop_rounds 1 ?_
  rw [rounds_succ]
  go_wp2
  go_ret
  exact ⟨rfl, 0, rfl⟩

set_option maxHeartbeats 2000000 in
theorem same_same (b1 o1 n c b2 o2 d : Nat) (f : Nat → Int) (w : World) (hbig : n ≤ 9223372036854775807)
    (hc1 : ∀ j, j < n → w.cell? ⟨b1, o1 + j, none⟩ = some (.int .u8 (f j))) (hc2 : ∀ j, j < n → w.cell? ⟨b2, o2 + j, none⟩ = some (.int .u8 (f j))) :
    Calls Ybaf.prog 8 #[.slice (some ⟨b1, o1, none⟩) n c, .slice (some ⟨b2, o2, none⟩) n d] w fun e w' => e = .returned (.bool true) ∧ ∃ q, w' = w.drewN q := by
  have A1 : Hid (∀ j, j < n → w.cell? ⟨b1, o1 + j, none⟩ = some (.int .u8 (f j))) := hc1
  have A2 : Hid (∀ j, j < n → w.cell? ⟨b2, o2 + j, none⟩ = some (.int .u8 (f j))) := hc2
  clear hc1 hc2
  go_enter Ybaf.func8, Ybaf.ntmps8
  go_wp2
  go_loopg [5] n (fun g s13 wr => ∃ k q : Nat, k ≤ n ∧ n - k ≤ g ∧ s13 = .int .i64 k ∧ wr = w.drewN q)
  case atStart => exact ⟨0, 0, Nat.zero_le _, by omega, rfl, rfl⟩
  case round =>
    obtain ⟨k, q, hk, hg, rfl, rfl⟩ := hrel
    by_cases hlt : k < n
    · have g1 := A1.out k hlt
      have g2 := A2.out k hlt
      generalize f k = x at g1 g2
      go_wp2_with fail
      go_region
      go_wp2
      go_roundg (n - (k + 1))
      case measure => omega
      case rel => exact ⟨k + 1, q + 1, by omega, by omega, by go_num, rfl⟩
    · go_wp2
      go_ret
      exact ⟨rfl, q, rfl⟩

/-- UnmarshalText at any text: an error and the receiver as it was, or one of the two kinds. -/
theorem unmarshal_any (g o d : Nat) (v : Value) (t : ByteArray) (x : Int) (w : World) (hT : Tab w g o) (hd : w.cell? ⟨d, 0, none⟩ = some (.int .i64 x)) (hf : w.frozen? ⟨d, 0, none⟩ = false) (hX : Texts w v t) (hA : Asked w v) :
    Calls Ybaf.prog 7 #[.pointer (some ⟨d, 0, none⟩), v] w fun e w' => Below d w w' ∧
      ((∃ a, e = .returned (.iface 75 (.pointer (some a))) ∧ w'.cell? ⟨d, 0, none⟩ = some (.int .i64 x)) ∨ (e = .returned .nilIface ∧ w'.cell? ⟨d, 0, none⟩ = some (.int .i64 1)) ∨ (e = .returned .nilIface ∧ w'.cell? ⟨d, 0, none⟩ = some (.int .i64 2))) := by
  have hlt : d < w.heap.size := World.block_lt_of_cell? w _ hd
  by_cases h1 : t = conS
  · subst h1
    refine (unmarshal_of g o d v 1 x w hT hd hf (fun w1 hN hb => value_con g o v w1 hN (hX.later hb))).mono ?_
    rintro e w' ⟨rfl, k, b⟩
    exact ⟨b, .inr (.inl ⟨rfl, k⟩)⟩
  by_cases h2 : t = theS
  · subst h2
    refine (unmarshal_of g o d v 2 x w hT hd hf (fun w1 hN hb => value_the g o v w1 hN (hX.later hb))).mono ?_
    rintro e w' ⟨rfl, k, b⟩
    exact ⟨b, .inr (.inr ⟨rfl, k⟩)⟩
  have ne : ∀ s : ByteArray, t ≠ s → (s.toList == t.toList) = false := by
    intro s hs
    rw [beq_eq_false_iff_ne]
    intro h
    apply hs
    have hd : ∀ u : ByteArray, u.toList = u.data.toList := fun u => ByteArray.toList_eq u
    rw [hd, hd] at h
    exact ByteArray.ext (Array.toList_inj.1 h.symm)
  have e1 := ne conS h1
  have e2 := ne theS h2
  refine (unmarshal_miss g o d v x w hT hd (value_miss g o v t w hT.names hX hA (by simpa using e1) (by simpa using e2))).mono ?_
  rintro e w' ⟨a, rfl, b⟩
  exact ⟨b.mono (by omega), .inl ⟨a, rfl, cell_later b hd⟩⟩

theorem texts_of (b n c : Nat) (xs : List Int) (w : World) (hl : xs.length = n) (hc : ∀ j (hj : j < xs.length), w.cell? ⟨b, 0 + j, none⟩ = some (.int .u8 xs[j])) :
    ∃ t, Texts w (.slice (some ⟨b, 0, none⟩) n c) t := by
  refine ⟨strOfNums xs, fun w' hb => ?_⟩
  refine run_convert_bytes_arg (P := Ybaf.prog) w' 22 5 Ybaf.underlying22 Ybaf.underlying5 b 0 n c xs hl (fun i hi => ?_) 9 Ybaf.underlying9
  refine cell_later hb ?_
  rw [hc i (by omega)]
  simp [List.getD, hl, hi]

theorem asked_of (b n c : Nat) (xs : List Int) (w : World) (hl : xs.length = n) (hc : ∀ j (hj : j < xs.length), w.cell? ⟨b, 0 + j, none⟩ = some (.int .u8 xs[j])) :
    Asked w (.slice (some ⟨b, 0, none⟩) n c) := by
  subst hl
  refine ⟨_, fun w' hb name => opBytes name ⟨b, 0, none⟩ c xs w' ?_⟩
  intro j v hv
  obtain ⟨x, hx, rfl⟩ : ∃ x, xs[j]? = some x ∧ Value.int .u8 x = v := by simpa using hv
  obtain ⟨hj, rfl⟩ := List.getElem?_eq_some_iff.1 hx
  have hq := cell_later hb (hc j hj)
  by_cases h00 : j = 0
  · subst h00
    simpa [Addr.add] using hq
  · simpa [Addr.add, h00] using hq

theorem same_any (b1 o1 n c b2 o2 d : Nat) (xs : List Int) (w : World) (hl : xs.length = n) (hn : n ≤ 4096)
    (hc1 : ∀ j (hj : j < xs.length), w.cell? ⟨b1, o1 + j, none⟩ = some (.int .u8 xs[j])) (hc2 : ∀ j (hj : j < xs.length), w.cell? ⟨b2, o2 + j, none⟩ = some (.int .u8 xs[j])) :
    Calls Ybaf.prog 8 #[.slice (some ⟨b1, o1, none⟩) n c, .slice (some ⟨b2, o2, none⟩) n d] w fun e w' => e = .returned (.bool true) ∧ ∃ q, w' = w.drewN q := by
  refine same_same b1 o1 n c b2 o2 d (fun j => xs.getD j 0) w (by omega) (fun j hj => ?_) (fun j hj => ?_)
  · rw [hc1 j (by omega)]
    simp [List.getD, hl, hj]
  · rw [hc2 j (by omega)]
    simp [List.getD, hl, hj]

set_option maxRecDepth 100000 in
set_option maxHeartbeats 1000000 in
theorem refuse_long (a : Option Addr) (n c : Nat) (start : Int) (w : World) (hn : 4096 < n) :
    Calls Ybaf.prog 3 #[.slice a n c, .int .i64 start] w fun e w' => e = .returned (.bool true) ∧ Below w.heap.size w w' := by
  go_enter Ybaf.func3, Ybaf.ntmps3
  go_wp2
  go_ret
  exact ⟨rfl, Below.refl _ _⟩

end Go.Proofs.YbulkcqlwFmt
