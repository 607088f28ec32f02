/-
  THE WALKS OF THE SEAT: slices.Equal and slices.Clone at bytes, the decoder's count.
-/
import Derived.Test.YbulkcqkuDoorRows
import Derived.Test.YbulkcqkuDoorShelf
import Derived.Test.YbulkcqkuDoorPlain
import Derived.WalkKit
import Derived.WalkSpells
import Derived.WalkLawsBesides
import Derived.Deep.LoopGhost
import Derived.Deep.QuietTactic
import Derived.BigQuiet
import Derived.Deep.Draws
import Derived.Lib.Walk
import Derived.Lib.Slices
import Derived.Lib.SliceRun
import Derived.LaidEql
namespace Go.Proofs.YbulkcqkuDoor
open Go.RowKit
set_option linter.unusedVariables false

/-- slices.Equal of two slices of no elements. -/
theorem equal_zero (a1 a2 : Option Addr) (c d : Nat) (w : World) :
    Calls Ybad.prog 8 #[.slice a1 0 c, .slice a2 0 d] w fun e w' => e = .returned (.bool true) ∧ ∃ q, w' = w.drewN q := by
  go_enter Ybad.func8, Ybad.ntmps8
  go_wp2
  refine wp_loop_rounds 1 ?_
  rw [rounds_succ]
  go_wp2
  go_ret
  exact ⟨rfl, 0, rfl⟩

set_option maxHeartbeats 2000000 in
/-- slices.Equal of two slices of the same bytes. -/
theorem equal_same (b1 o1 n c b2 o2 d : Nat) (f : Nat → Int) (w : World) (hbig : n ≤ 9223372036854775807)
    (hc1 : ∀ j, j < n → w.cell? ⟨b1, o1 + j, none⟩ = some (.int .u8 (f j))) (hc2 : ∀ j, j < n → w.cell? ⟨b2, o2 + j, none⟩ = some (.int .u8 (f j))) :
    Calls Ybad.prog 8 #[.slice (some ⟨b1, o1, none⟩) n c, .slice (some ⟨b2, o2, none⟩) n d] w fun e w' => e = .returned (.bool true) ∧ ∃ q, w' = w.drewN q := by
  have A1 : Hid (∀ j, j < n → w.cell? ⟨b1, o1 + j, none⟩ = some (.int .u8 (f j))) := hc1
  have A2 : Hid (∀ j, j < n → w.cell? ⟨b2, o2 + j, none⟩ = some (.int .u8 (f j))) := hc2
  clear hc1 hc2
  go_enter Ybad.func8, Ybad.ntmps8
  go_wp2
  go_loopg [13] n (fun g s13 wr => ∃ k q : Nat, k ≤ n ∧ n - k ≤ g ∧ s13 = .int .i64 k ∧ wr = w.drewN q)
  case atStart => exact ⟨0, 0, Nat.zero_le _, by omega, rfl, rfl⟩
  case round =>
    obtain ⟨k, q, hk, hg, rfl, rfl⟩ := hrel
    by_cases hlt : k < n
    · have g1 := A1.out k hlt
      have g2 := A2.out k hlt
      generalize f k = x at g1 g2
      go_wp2_with fail
      go_region
      go_wp2
      go_roundg (n - (k + 1))
      case measure => omega
      case rel => exact ⟨k + 1, q + 1, by omega, by omega, by go_num, rfl⟩
    · go_wp2
      go_ret
      exact ⟨rfl, q, rfl⟩

/-- What the slice's cells hold: nothing is asked of a slice of no elements. -/
def Lies (w : World) (a : Option Addr) (l : List UInt8) : Prop :=
  l = [] ∨ ∃ g o, a = some ⟨g, o, none⟩ ∧ ∀ j (hj : j < l.length), w.cell? ⟨g, o + j, none⟩ = some (.int .u8 (l[j]).toNat)

theorem uv_any (a : Option Addr) (n c : Nat) (l : List UInt8) (v : Nat) (k : Int) (w : World) (hl : l.length = n) (hd : Lib.uvarintDec l = (v, k)) (h : Lies w a l) :
    Calls Ybad.prog 13 #[.slice a n c] w fun e w' => e = .returned (.tuple #[.int .u64 v, .int .i64 k]) ∧ w' = w := by
  rcases h with rfl | ⟨g, o, rfl, hc⟩
  · subst hl
    have := Ybad.binary_Uvarint_empty a c w
    rw [hd] at this
    exact this
  · have := Ybad.binary_Uvarint g o n c l w hl hc
    rw [hd] at this
    exact this

set_option maxHeartbeats 400000 in
theorem fail_any (b : Nat) (ea : Addr) (s0 s2 : Value) (w : World) (hE : w.cell? ⟨0, 0, none⟩ = some (.iface 39 (.pointer (some ea)))) (_hb : 0 < b)
    (h0 : w.cell? ⟨b, 0, none⟩ = some s0) (h2 : w.cell? ⟨b, 2, none⟩ = some s2) (f0 : w.frozen? ⟨b, 0, none⟩ = false) (f2 : w.frozen? ⟨b, 2, none⟩ = false) :
    Calls Ybad.prog 12 #[.pointer (some ⟨b, 0, none⟩)] w fun e w' => e = .returned (.tuple #[]) ∧ w' = (w.setCell ⟨b, 2, none⟩ (.iface 39 (.pointer (some ea)))).setCell ⟨b, 0, none⟩ (.slice none 0 0) := by
  go_enter Ybad.func12, Ybad.ntmps12
  go_wp2
  go_end0
  exact ⟨rfl, rfl⟩

set_option maxHeartbeats 400000 in
/-- count behind an earlier error. -/
theorem count_pre (b : Nat) (ea : Addr) (m : Int) (w : World) (hM : 0 ≤ IntKind.u64.wrap m)
    (h2 : w.cell? ⟨b, 2, none⟩ = some (.iface 39 (.pointer (some ea)))) :
    Calls Ybad.prog 7 #[.pointer (some ⟨b, 0, none⟩), .int .i64 m] w fun e w' => e = .returned (.int .i64 0) ∧ w' = w := by
  go_enter Ybad.func7, Ybad.ntmps7
  go_wp2
  go_ret
  exact ⟨rfl, rfl⟩

set_option maxHeartbeats 400000 in
theorem count_none (b : Nat) (ea : Addr) (m : Int) (a : Option Addr) (n c : Nat) (l : List UInt8) (v : Nat) (k : Int) (w : World) (hE : w.cell? ⟨0, 0, none⟩ = some (.iface 39 (.pointer (some ea)))) (hb : 0 < b)
    (h0 : w.cell? ⟨b, 0, none⟩ = some (.slice a n c)) (h2 : w.cell? ⟨b, 2, none⟩ = some .nilIface) (f0 : w.frozen? ⟨b, 0, none⟩ = false) (f2 : w.frozen? ⟨b, 2, none⟩ = false)
    (hl : l.length = n) (hd : Lib.uvarintDec l = (v, k)) (hL : Lies w a l) (hk : k ≤ 0) (hM : 0 ≤ IntKind.u64.wrap m) :
    Calls Ybad.prog 7 #[.pointer (some ⟨b, 0, none⟩), .int .i64 m] w fun e w' => e = .returned (.int .i64 0) ∧ w' = (w.setCell ⟨b, 2, none⟩ (.iface 39 (.pointer (some ea)))).setCell ⟨b, 0, none⟩ (.slice none 0 0) := by
  have H1 : Hid (Lib.uvarintDec l = (v, k)) := hd
  have H2 : Hid (l.length = n) := hl
  clear hd hl
  go_enter Ybad.func7, Ybad.ntmps7
  go_wp2_with (first | (go_at_call 13; refine (uv_any _ _ _ _ _ _ _ H2.out H1.out hL).mono ?_; rintro e w' ⟨rfl, rfl⟩) | (go_at_call 12; refine (fail_any b ea _ _ _ hE hb h0 h2 f0 f2).mono ?_; rintro e w' ⟨rfl, rfl⟩) | go_in)
  go_ret
  exact ⟨rfl, rfl⟩

set_option maxHeartbeats 400000 in
/-- more than one byte, the last of them zero: refused. -/
theorem count_long (b : Nat) (ea : Addr) (m : Int) (g o n c : Nat) (l : List UInt8) (v k : Nat) (w : World) (hE : w.cell? ⟨0, 0, none⟩ = some (.iface 39 (.pointer (some ea)))) (hb : 0 < b)
    (h0 : w.cell? ⟨b, 0, none⟩ = some (.slice (some ⟨g, o, none⟩) n c)) (h2 : w.cell? ⟨b, 2, none⟩ = some .nilIface) (f0 : w.frozen? ⟨b, 0, none⟩ = false) (f2 : w.frozen? ⟨b, 2, none⟩ = false)
    (hl : l.length = n) (hd : Lib.uvarintDec l = (v, (k : Int))) (hL : Lies w (some ⟨g, o, none⟩) l) (hk : 1 < k) (hkn : k ≤ n) (hn : n ≤ 9223372036854775807) (hM : 0 ≤ IntKind.u64.wrap m)
    (hz : w.cell? ⟨g, o + (k - 1), none⟩ = some (.int .u8 0)) :
    Calls Ybad.prog 7 #[.pointer (some ⟨b, 0, none⟩), .int .i64 m] w fun e w' => e = .returned (.int .i64 0) ∧ w' = (w.setCell ⟨b, 2, none⟩ (.iface 39 (.pointer (some ea)))).setCell ⟨b, 0, none⟩ (.slice none 0 0) := by
  have H1 : Hid (Lib.uvarintDec l = (v, (k : Int))) := hd
  have H2 : Hid (l.length = n) := hl
  clear hd hl
  go_enter Ybad.func7, Ybad.ntmps7
  go_wp2_with (first | (go_at_call 13; refine (uv_any _ _ _ _ _ _ _ H2.out H1.out hL).mono ?_; rintro e w' ⟨rfl, rfl⟩) | (go_at_call 12; refine (fail_any b ea _ _ _ hE hb h0 h2 f0 f2).mono ?_; rintro e w' ⟨rfl, rfl⟩) | go_in)
  go_ret
  exact ⟨rfl, rfl⟩

set_option maxHeartbeats 400000 in
theorem count_good1 (b : Nat) (m : Int) (g o n c : Nat) (l : List UInt8) (v : Nat) (w : World)
    (h0 : w.cell? ⟨b, 0, none⟩ = some (.slice (some ⟨g, o, none⟩) n c)) (h2 : w.cell? ⟨b, 2, none⟩ = some .nilIface) (f0 : w.frozen? ⟨b, 0, none⟩ = false)
    (hl : l.length = n) (hd : Lib.uvarintDec l = (v, 1)) (hL : Lies w (some ⟨g, o, none⟩) l) (hkn : 1 ≤ n) (hnc : n ≤ c) (hn : n ≤ 9223372036854775807) (hM : (v : Int) ≤ IntKind.u64.wrap m)
    :
    Calls Ybad.prog 7 #[.pointer (some ⟨b, 0, none⟩), .int .i64 m] w fun e w' => e = .returned (.int .i64 (wrap64 v)) ∧ ∃ a', w' = w.setCell ⟨b, 0, none⟩ (.slice a' (n - 1) (c - 1)) ∧ (n - 1 ≠ 0 → a' = some ⟨g, o + 1, none⟩) := by
  have H1 : Hid (Lib.uvarintDec l = (v, 1)) := hd
  have H2 : Hid (l.length = n) := hl
  clear hd hl
  go_enter Ybad.func7, Ybad.ntmps7
  go_wp2_with (first | (go_at_call 13; refine (uv_any _ _ _ _ _ _ _ H2.out H1.out hL).mono ?_; rintro e w' ⟨rfl, rfl⟩) | go_in)
  all_goals (go_ret; exact ⟨rfl, _, rfl, fun h => by first | rfl | (exfalso; omega)⟩)

set_option maxHeartbeats 400000 in
theorem count_good2 (b : Nat) (m : Int) (g o n c : Nat) (l : List UInt8) (v k : Nat) (w : World)
    (h0 : w.cell? ⟨b, 0, none⟩ = some (.slice (some ⟨g, o, none⟩) n c)) (h2 : w.cell? ⟨b, 2, none⟩ = some .nilIface) (f0 : w.frozen? ⟨b, 0, none⟩ = false)
    (hl : l.length = n) (hd : Lib.uvarintDec l = (v, (k : Int))) (hL : Lies w (some ⟨g, o, none⟩) l) (hk : 1 < k) (hkn : k ≤ n) (hnc : n ≤ c) (hn : n ≤ 9223372036854775807) (hM : (v : Int) ≤ IntKind.u64.wrap m)
    (z : Int) (hz : w.cell? ⟨g, o + (k - 1), none⟩ = some (.int .u8 z)) (hz0 : (z == 0) = false) :
    Calls Ybad.prog 7 #[.pointer (some ⟨b, 0, none⟩), .int .i64 m] w fun e w' => e = .returned (.int .i64 (wrap64 v)) ∧ ∃ a', w' = w.setCell ⟨b, 0, none⟩ (.slice a' (n - k) (c - k)) ∧ (n - k ≠ 0 → a' = some ⟨g, o + k, none⟩) := by
  have H1 : Hid (Lib.uvarintDec l = (v, (k : Int))) := hd
  have H2 : Hid (l.length = n) := hl
  clear hd hl
  go_enter Ybad.func7, Ybad.ntmps7
  go_wp2_with (first | (go_at_call 13; refine (uv_any _ _ _ _ _ _ _ H2.out H1.out hL).mono ?_; rintro e w' ⟨rfl, rfl⟩) | go_in)
  all_goals (go_ret; exact ⟨rfl, _, rfl, fun h => by first | rfl | (exfalso; omega)⟩)

set_option maxHeartbeats 400000 in
theorem count_over1 (b : Nat) (m : Int) (g o n c : Nat) (l : List UInt8) (v : Nat) (w : World)
    (h0 : w.cell? ⟨b, 0, none⟩ = some (.slice (some ⟨g, o, none⟩) n c)) (h2 : w.cell? ⟨b, 2, none⟩ = some .nilIface) (f0 : w.frozen? ⟨b, 0, none⟩ = false)
    (hl : l.length = n) (hd : Lib.uvarintDec l = (v, 1)) (hL : Lies w (some ⟨g, o, none⟩) l) (hkn : 1 ≤ n) (hnc : n ≤ c) (hn : n ≤ 9223372036854775807) (hM : IntKind.u64.wrap m < (v : Int)) (hM0 : 0 ≤ IntKind.u64.wrap m)
    (ea : Addr) (hE : w.cell? ⟨0, 0, none⟩ = some (.iface 39 (.pointer (some ea)))) (hb : 0 < b) (f2 : w.frozen? ⟨b, 2, none⟩ = false) :
    Calls Ybad.prog 7 #[.pointer (some ⟨b, 0, none⟩), .int .i64 m] w fun e w' => e = .returned (.int .i64 0) ∧ ∃ x, w' = ((w.setCell ⟨b, 0, none⟩ x).setCell ⟨b, 2, none⟩ (.iface 39 (.pointer (some ea)))).setCell ⟨b, 0, none⟩ (.slice none 0 0) := by
  have H1 : Hid (Lib.uvarintDec l = (v, 1)) := hd
  have H2 : Hid (l.length = n) := hl
  clear hd hl
  go_enter Ybad.func7, Ybad.ntmps7
  go_wp2_with (first | (go_at_call 13; refine (uv_any _ _ _ _ _ _ _ H2.out H1.out hL).mono ?_; rintro e w' ⟨rfl, rfl⟩) | go_in)
  all_goals (go_end0; go_wp2; go_ret; exact ⟨rfl, _, rfl⟩)

set_option maxHeartbeats 400000 in
theorem count_over2 (b : Nat) (m : Int) (g o n c : Nat) (l : List UInt8) (v k : Nat) (w : World)
    (h0 : w.cell? ⟨b, 0, none⟩ = some (.slice (some ⟨g, o, none⟩) n c)) (h2 : w.cell? ⟨b, 2, none⟩ = some .nilIface) (f0 : w.frozen? ⟨b, 0, none⟩ = false)
    (hl : l.length = n) (hd : Lib.uvarintDec l = (v, (k : Int))) (hL : Lies w (some ⟨g, o, none⟩) l) (hk : 1 < k) (hkn : k ≤ n) (hnc : n ≤ c) (hn : n ≤ 9223372036854775807) (hM : IntKind.u64.wrap m < (v : Int)) (hM0 : 0 ≤ IntKind.u64.wrap m)
    (ea : Addr) (hE : w.cell? ⟨0, 0, none⟩ = some (.iface 39 (.pointer (some ea)))) (hb : 0 < b) (f2 : w.frozen? ⟨b, 2, none⟩ = false) (z : Int) (hz : w.cell? ⟨g, o + (k - 1), none⟩ = some (.int .u8 z)) (hz0 : (z == 0) = false) :
    Calls Ybad.prog 7 #[.pointer (some ⟨b, 0, none⟩), .int .i64 m] w fun e w' => e = .returned (.int .i64 0) ∧ ∃ x, w' = ((w.setCell ⟨b, 0, none⟩ x).setCell ⟨b, 2, none⟩ (.iface 39 (.pointer (some ea)))).setCell ⟨b, 0, none⟩ (.slice none 0 0) := by
  have H1 : Hid (Lib.uvarintDec l = (v, (k : Int))) := hd
  have H2 : Hid (l.length = n) := hl
  clear hd hl
  go_enter Ybad.func7, Ybad.ntmps7
  go_wp2_with (first | (go_at_call 13; refine (uv_any _ _ _ _ _ _ _ H2.out H1.out hL).mono ?_; rintro e w' ⟨rfl, rfl⟩) | go_in)
  all_goals (go_end0; go_wp2; go_ret; exact ⟨rfl, _, rfl⟩)


/-- What count leaves where it refuses. -/
def Refused (b : Nat) (ea : Addr) (w w' : World) : Prop :=
  w'.cell? ⟨b, 0, none⟩ = some (.slice none 0 0) ∧ w'.cell? ⟨b, 2, none⟩ = some (.iface 39 (.pointer (some ea))) ∧ Below b w w'

/-- What count leaves where it takes k bytes. -/
def Taken (b k g o n c : Nat) (w w' : World) : Prop :=
  ∃ a', w'.cell? ⟨b, 0, none⟩ = some (.slice a' (n - k) (c - k)) ∧ (n - k ≠ 0 → a' = some ⟨g, o + k, none⟩) ∧ w'.cell? ⟨b, 2, none⟩ = some .nilIface ∧ Below b w w'

theorem refused_of (b : Nat) (ea : Addr) (s0 s2 : Value) (w : World) (h0 : w.cell? ⟨b, 0, none⟩ = some s0) (h2 : w.cell? ⟨b, 2, none⟩ = some s2) :
    Refused b ea w ((w.setCell ⟨b, 2, none⟩ (.iface 39 (.pointer (some ea)))).setCell ⟨b, 0, none⟩ (.slice none 0 0)) := by
  have e : (w.setCell ⟨b, 2, none⟩ (.iface 39 (.pointer (some ea)))).cell? ⟨b, 0, none⟩ = some s0 := by
    rw [World.cell?_setCell_other _ _ _ _ (by simp)]; exact h0
  refine ⟨World.cell?_setCell_same _ _ _ e, ?_, ?_⟩
  · rw [World.cell?_setCell_other _ _ _ _ (by simp)]
    exact World.cell?_setCell_same _ _ _ h2
  · exact ((Below.refl b w).setCell (p := ⟨b, 2, none⟩) (Nat.le_refl b) _).setCell (p := ⟨b, 0, none⟩) (Nat.le_refl b) _

theorem refused_of' (b : Nat) (ea : Addr) (s0 s2 x : Value) (w : World) (h0 : w.cell? ⟨b, 0, none⟩ = some s0) (h2 : w.cell? ⟨b, 2, none⟩ = some s2) :
    Refused b ea w (((w.setCell ⟨b, 0, none⟩ x).setCell ⟨b, 2, none⟩ (.iface 39 (.pointer (some ea)))).setCell ⟨b, 0, none⟩ (.slice none 0 0)) := by
  have h2' : (w.setCell ⟨b, 0, none⟩ x).cell? ⟨b, 2, none⟩ = some s2 := by
    rw [World.cell?_setCell_other _ _ _ _ (by simp)]; exact h2
  obtain ⟨a1, a2, a3⟩ := refused_of b ea x s2 (w.setCell ⟨b, 0, none⟩ x) (World.cell?_setCell_same _ _ _ h0) h2'
  exact ⟨a1, a2, ((Below.refl b w).setCell (p := ⟨b, 0, none⟩) (Nat.le_refl b) _).trans a3⟩

theorem taken_of (b k g o n c : Nat) (s0 : Value) (a' : Option Addr) (w : World) (h0 : w.cell? ⟨b, 0, none⟩ = some s0) (h2 : w.cell? ⟨b, 2, none⟩ = some .nilIface) (ha : n - k ≠ 0 → a' = some ⟨g, o + k, none⟩) :
    Taken b k g o n c w (w.setCell ⟨b, 0, none⟩ (.slice a' (n - k) (c - k))) := by
  refine ⟨a', World.cell?_setCell_same _ _ _ h0, ha, ?_, (Below.refl b w).setCell (p := ⟨b, 0, none⟩) (Nat.le_refl b) _⟩
  rw [World.cell?_setCell_other _ _ _ _ (by simp)]; exact h2
/-- WHAT IS TAKEN: a whole varint within 64 bits, in its shortest form, at most M. -/
def Good (l : List UInt8) (M : Int) : Prop :=
  0 < (Lib.uvarintDec l).2 ∧ ¬ (1 < (Lib.uvarintDec l).2 ∧ (l.getD ((Lib.uvarintDec l).2.toNat - 1) 0).toNat = 0) ∧ ((Lib.uvarintDec l).1 : Int) ≤ M

theorem wrap_u64_nonneg (m : Int) : 0 ≤ IntKind.u64.wrap m := by rw [IntKind.wrap_u64]; omega

theorem from_le : ∀ (l : List UInt8) (i acc : Nat), (Lib.uvarintFrom i acc l).2 ≤ ((i + l.length : Nat) : Int)
  | [], i, acc => by simp only [Lib.uvarintFrom]; omega
  | x :: r, i, acc => by
    simp only [Lib.uvarintFrom, List.length_cons]
    split
    · simp only []; omega
    · split
      · split
        · simp only []; omega
        · simp only []; omega
      · have := from_le r (i + 1) (acc + x.toNat % 128 * 2 ^ (7 * i))
        omega

theorem dec_le (l : List UInt8) : (Lib.uvarintDec l).2 ≤ (l.length : Int) := by
  have := from_le l 0 0
  simpa [Lib.uvarintDec] using this

theorem lies_at {w : World} {g o : Nat} {l : List UInt8} (h : Lies w (some ⟨g, o, none⟩) l) (j : Nat) (hj : j < l.length) : w.cell? ⟨g, o + j, none⟩ = some (.int .u8 (l.getD j 0).toNat) := by
  rcases h with rfl | ⟨g', o', e, hc⟩
  · simp at hj
  · simp only [Option.some.injEq, Addr.mk.injEq] at e
    obtain ⟨rfl, rfl, _⟩ := e
    have := hc j hj
    simpa [List.getD, List.getElem?_eq_getElem hj] using this

theorem count_yes (b : Nat) (m : Int) (g o n c : Nat) (l : List UInt8) (w : World)
    (h0 : w.cell? ⟨b, 0, none⟩ = some (.slice (some ⟨g, o, none⟩) n c)) (h2 : w.cell? ⟨b, 2, none⟩ = some .nilIface) (f0 : w.frozen? ⟨b, 0, none⟩ = false)
    (hl : l.length = n) (hL : Lies w (some ⟨g, o, none⟩) l) (hnc : n ≤ c) (hn : n ≤ 9223372036854775807) (hg : Good l (IntKind.u64.wrap m)) :
    Calls Ybad.prog 7 #[.pointer (some ⟨b, 0, none⟩), .int .i64 m] w fun e w' => e = .returned (.int .i64 (wrap64 (Lib.uvarintDec l).1)) ∧ Taken b (Lib.uvarintDec l).2.toNat g o n c w w' := by
  obtain ⟨hk, hz, hM⟩ := hg
  have hle := dec_le l
  obtain ⟨v, k, hd⟩ : ∃ v k, Lib.uvarintDec l = (v, k) := ⟨_, _, rfl⟩
  rw [hd] at hk hz hM hle ⊢
  simp only [] at hk hz hM hle ⊢
  obtain ⟨k, rfl⟩ := Int.eq_ofNat_of_zero_le (by omega : 0 ≤ k)
  rw [Int.toNat_natCast] at hz ⊢
  by_cases h1 : k = 1
  · subst h1
    refine (count_good1 b m g o n c l v w h0 h2 f0 hl hd hL (by omega) hnc hn hM).mono ?_
    rintro e w' ⟨rfl, a', rfl, ha⟩
    exact ⟨rfl, taken_of b 1 g o n c _ a' w h0 h2 ha⟩
  · have hc := lies_at hL (k - 1) (by omega)
    refine (count_good2 b m g o n c l v k w h0 h2 f0 hl hd hL (by omega) (by omega) hnc hn hM _ hc ?_).mono ?_
    · rw [beq_eq_false_iff_ne]
      intro e
      exact hz ⟨by omega, by omega⟩
    · rintro e w' ⟨rfl, a', rfl, ha⟩
      exact ⟨rfl, taken_of b k g o n c _ a' w h0 h2 ha⟩

theorem count_no (b : Nat) (ea : Addr) (m : Int) (a : Option Addr) (n c : Nat) (l : List UInt8) (w : World) (hE : w.cell? ⟨0, 0, none⟩ = some (.iface 39 (.pointer (some ea)))) (hb : 0 < b)
    (h0 : w.cell? ⟨b, 0, none⟩ = some (.slice a n c)) (h2 : w.cell? ⟨b, 2, none⟩ = some .nilIface) (f0 : w.frozen? ⟨b, 0, none⟩ = false) (f2 : w.frozen? ⟨b, 2, none⟩ = false)
    (hl : l.length = n) (hL : Lies w a l) (hnc : n ≤ c) (hn : n ≤ 9223372036854775807) (hg : ¬ Good l (IntKind.u64.wrap m)) :
    Calls Ybad.prog 7 #[.pointer (some ⟨b, 0, none⟩), .int .i64 m] w fun e w' => e = .returned (.int .i64 0) ∧ Refused b ea w w' := by
  have hM0 := wrap_u64_nonneg m
  have hle := dec_le l
  unfold Good at hg
  obtain ⟨v, k, hd⟩ : ∃ v k, Lib.uvarintDec l = (v, k) := ⟨_, _, rfl⟩
  rw [hd] at hg hle
  simp only [] at hg hle
  by_cases hk : k ≤ 0
  · refine (count_none b ea m a n c l v k w hE hb h0 h2 f0 f2 hl hd hL hk hM0).mono ?_
    rintro e w' ⟨rfl, rfl⟩
    exact ⟨rfl, refused_of b ea _ _ w h0 h2⟩
  · obtain ⟨k, rfl⟩ := Int.eq_ofNat_of_zero_le (by omega : 0 ≤ k)
    rw [Int.toNat_natCast] at hg
    have hne : l ≠ [] := by
      rintro rfl
      simp at hle
      omega
    obtain ⟨g, o, rfl⟩ : ∃ g o, a = some ⟨g, o, none⟩ := by
      rcases hL with h | ⟨g, o, h, _⟩
      · exact absurd h hne
      · exact ⟨g, o, h⟩
    by_cases h1 : k = 1
    · subst h1
      refine (count_over1 b m g o n c l v w h0 h2 f0 hl hd hL (by omega) hnc hn ?_ hM0 ea hE hb f2).mono ?_
      · apply Int.not_le.1
        intro hv
        exact hg ⟨by omega, by omega, hv⟩
      · rintro e w' ⟨rfl, x, rfl⟩
        exact ⟨rfl, refused_of' b ea _ _ x w h0 h2⟩
    · have hc := lies_at hL (k - 1) (by omega)
      by_cases hz : (l.getD (k - 1) 0).toNat = 0
      · rw [hz] at hc
        refine (count_long b ea m g o n c l v k w hE hb h0 h2 f0 f2 hl hd hL (by omega) (by omega) hn hM0 hc).mono ?_
        rintro e w' ⟨rfl, rfl⟩
        exact ⟨rfl, refused_of b ea _ _ w h0 h2⟩
      · refine (count_over2 b m g o n c l v k w h0 h2 f0 hl hd hL (by omega) (by omega) hnc hn ?_ hM0 ea hE hb f2 _ hc ?_).mono ?_
        · apply Int.not_le.1
          intro hv
          exact hg ⟨by omega, fun h => hz h.2, hv⟩
        · rw [beq_eq_false_iff_ne]
          omega
        · rintro e w' ⟨rfl, x, rfl⟩
          exact ⟨rfl, refused_of' b ea _ _ x w h0 h2⟩
end Go.Proofs.YbulkcqkuDoor
