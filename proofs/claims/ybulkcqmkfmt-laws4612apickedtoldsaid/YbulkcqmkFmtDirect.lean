/-
  The model and checkFeeClasses agree; the walk of LawS4612ADirect.
-/
import Derived.Test.YbulkcqmkFmtCheck
namespace Go.Proofs.YbulkcqmkFmt
open Go.RowKit Go.Maps
set_option linter.unusedVariables false
attribute [local go_sem] eqlNil

set_option maxHeartbeats 1000000 in
theorem zz_nil (mv : Value) (w : World) :
    Calls Ybaf.prog 6 #[.slice none 0 0, mv] w fun e w' => e = .returned (.bool true) ∧ w' = w := by
  go_enter Ybaf.func6, Ybaf.ntmps6
  go_wp2
  go_ret
  exact ⟨rfl, rfl⟩

set_option maxHeartbeats 1000000 in
theorem zz_none (x : Addr) (c : Nat) (mv : Value) (w : World) :
    Calls Ybaf.prog 6 #[.slice (some x) 0 c, mv] w fun e w' => e = .returned (.bool false) ∧ w' = w := by
  go_enter Ybaf.func6, Ybaf.ntmps6
  go_wp2
  go_ret
  exact ⟨rfl, rfl⟩

/-- What checkFeeClasses and the model say of one list: the same. -/
structure Agree (w : World) (t : ByteArray) (v mv : Value) : Prop where
  ex : ∃ P : Prop, (Calls Ybaf.prog 5 #[.string t, v, mv] w fun e w' => ((e = .returned .nilIface ∧ P) ∨ (∃ a, e = .returned (.iface 38 (.pointer (some a))) ∧ ¬ P)) ∧ Below w.heap.size w w') ∧
    ∀ w', Below w.heap.size w w' → Calls Ybaf.prog 6 #[v, mv] w' fun e w'' => ((e = .returned (.bool true) ∧ P) ∨ (e = .returned (.bool false) ∧ ¬ P)) ∧ Below w'.heap.size w' w''

theorem agree_nil (w : World) (t : ByteArray) (mv : Value) : Agree w t (.slice none 0 0) mv := by
  refine ⟨True, (check_nil t mv w).mono ?_, fun w' _ => (zz_nil mv w').mono ?_⟩
  · rintro e w' ⟨rfl, hb⟩
    exact ⟨.inl ⟨rfl, trivial⟩, hb⟩
  · rintro e w' ⟨rfl, rfl⟩
    exact ⟨.inl ⟨rfl, trivial⟩, Below.refl _ _⟩

theorem agree_none (w : World) (t : ByteArray) (x : Addr) (c : Nat) (mv : Value) : Agree w t (.slice (some x) 0 c) mv := by
  refine ⟨False, (check_none t x c mv w).mono ?_, fun w' _ => (zz_none x c mv w').mono ?_⟩
  · rintro e w' ⟨a, rfl, hb⟩
    exact ⟨.inr ⟨a, rfl, id⟩, hb⟩
  · rintro e w' ⟨rfl, rfl⟩
    exact ⟨.inr ⟨rfl, id⟩, Below.refl _ _⟩

theorem agree_some (w : World) (t : ByteArray) (b o n c : Nat) (ss : List ByteArray) (cls : ByteArray → Bool) (mv : Value) (hn : 0 < n) (hbig : n ≤ 4096) (hW : Words w b o n ss) (hL : Looks w mv cls) :
    Agree w t (.slice (some ⟨b, o, none⟩) n c) mv := by
  refine ⟨∀ i, i < n → good cls ss i, (check_some t b o n c ss cls mv w hn hbig hW hL).mono ?_, fun w' hb' => (zz_some b o n c ss cls mv w' hn hbig (hW.later hb') (hL.later hb')).mono ?_⟩
  · rintro e w' ⟨⟨rfl, h⟩ | ⟨a, rfl, i, hi, h⟩, hb⟩
    · exact ⟨.inl ⟨rfl, h⟩, hb⟩
    · exact ⟨.inr ⟨a, rfl, fun hh => h (hh i hi)⟩, hb⟩
  · rintro e w' ⟨⟨rfl, h⟩ | ⟨rfl, i, hi, h⟩, q, rfl⟩
    · exact ⟨.inl ⟨rfl, h⟩, below_drewN (Below.refl _ _) q⟩
    · exact ⟨.inr ⟨rfl, fun hh => h (hh i hi)⟩, below_drewN (Below.refl _ _) q⟩

set_option maxRecDepth 100000 in
set_option maxHeartbeats 1000000 in
theorem direct_long (t : ByteArray) (a : Option Addr) (n c : Nat) (mv : Value) (w : World) (hn : 1024 < n) :
    Calls Ybaf.prog 3 #[.string t, .slice a n c, mv] w fun e w' => e = .returned (.bool true) ∧ Below w.heap.size w w' := by
  go_enter Ybaf.func3, Ybaf.ntmps3
  go_wp2
  go_ret
  exact ⟨rfl, Below.refl _ _⟩

set_option maxRecDepth 100000 in
set_option maxHeartbeats 1000000 in
theorem direct_any (t : ByteArray) (a : Option Addr) (n c : Nat) (m : Option Nat) (w : World) (hn : n ≤ 1024) (hA : Agree w t (.slice a n c) (.map m)) :
    Calls Ybaf.prog 3 #[.string t, .slice a n c, .map m] w fun e w' => e = .returned (.bool true) ∧ Below w.heap.size w w' := by
  obtain ⟨P, hc, hz⟩ := hA
  have HC : Hid (Calls Ybaf.prog 5 #[.string t, .slice a n c, .map m] w fun e w' => ((e = .returned .nilIface ∧ P) ∨ (∃ a, e = .returned (.iface 38 (.pointer (some a))) ∧ ¬ P)) ∧ Below w.heap.size w w') := hc
  have HZ : Hid (∀ w', Below w.heap.size w w' → Calls Ybaf.prog 6 #[.slice a n c, .map m] w' fun e w'' => ((e = .returned (.bool true) ∧ P) ∨ (e = .returned (.bool false) ∧ ¬ P)) ∧ Below w'.heap.size w' w'') := hz
  clear hc hz
  go_enter Ybaf.func3, Ybaf.ntmps3
  go_wp2_with (go_at_call 5; refine HC.out.mono ?_; rintro e w1 ⟨h1, hb1⟩; rcases h1 with ⟨rfl, hP⟩ | ⟨a1, rfl, hP⟩)
  all_goals clear HC
  · have HZ1 : Hid (Calls Ybaf.prog 6 #[.slice a n c, .map m] w1.drew fun e w'' => e = .returned (.bool true) ∧ Below w1.drew.heap.size w1.drew w'') := by
      refine (HZ.out _ hb1.drew).mono ?_
      rintro e w2 ⟨⟨rfl, _⟩ | ⟨_, h⟩, hb⟩
      · exact ⟨rfl, hb⟩
      · exact absurd hP h
    go_wp2_with fail
    go_region_held3 (fun _ => True) (first | go_keep | trivial) ((go_at_call 6; refine HZ1.out.mono ?_; rintro e w2 ⟨rfl, hb2⟩))
    go_wp2
    go_ret
    exact ⟨rfl, hb1.drew.trans (hb2.mono hb1.drew.size)⟩
  · have HZ1 : Hid (Calls Ybaf.prog 6 #[.slice a n c, .map m] w1.drew fun e w'' => e = .returned (.bool false) ∧ Below w1.drew.heap.size w1.drew w'') := by
      refine (HZ.out _ hb1.drew).mono ?_
      rintro e w2 ⟨⟨_, h⟩ | ⟨rfl, _⟩, hb⟩
      · exact absurd h hP
      · exact ⟨rfl, hb⟩
    go_wp2_with fail
    go_region_held3 (fun _ => True) (first | go_keep | trivial) ((go_at_call 6; refine HZ1.out.mono ?_; rintro e w2 ⟨rfl, hb2⟩))
    go_wp2
    go_ret
    exact ⟨rfl, hb1.drew.trans (hb2.mono hb1.drew.size)⟩
end Go.Proofs.YbulkcqmkFmt
