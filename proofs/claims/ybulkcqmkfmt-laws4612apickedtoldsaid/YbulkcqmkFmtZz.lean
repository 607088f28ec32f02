/-
  zzs4612aok, the law text own model; checkFeeClasses at nil and at no words.
-/
import Derived.Test.YbulkcqmkFmtSet
import Derived.Deep.LoopGhost
import Derived.Lib.SliceRun
namespace Go.Proofs.YbulkcqmkFmt
open Go.RowKit Go.Maps
set_option linter.unusedVariables false

theorem eqlNil (w : World) (a : Option Addr) (n c : Nat) : (binOp .eql 22 (.slice a n c) (.slice none 0 0)).run Ybaf.prog w = .ok (.bool a.isNone) w := Lib.run_eql_slice_nil w 22 9 a n c 0 0 Ybaf.underlying22
attribute [local go_sem] eqlNil

set_option maxHeartbeats 1000000 in
theorem check_nil (t : ByteArray) (mv : Value) (w : World) :
    Calls Ybaf.prog 5 #[.string t, .slice none 0 0, mv] w fun e w' => e = .returned .nilIface ∧ Below w.heap.size w w' := by
  go_enter Ybaf.func5, Ybaf.ntmps5
  go_wp2
  go_ret
  exact ⟨rfl, Below.refl _ _⟩

set_option maxHeartbeats 1000000 in
theorem check_none (t : ByteArray) (x : Addr) (c : Nat) (mv : Value) (w : World) :
    Calls Ybaf.prog 5 #[.string t, .slice (some x) 0 c, mv] w fun e w' => ∃ a, e = .returned (.iface 38 (.pointer (some a))) ∧ Below w.heap.size w w' := by
  go_enter Ybaf.func5, Ybaf.ntmps5
  go_wp2_with (go_at_call 7; refine (errorf_one noneF fp_none w.heap.size t _ (by simp [go_sem])).mono ?_; rintro e w' ⟨a9, rfl, hb9⟩)
  go_ret
  exact ⟨_, rfl, ((Below.refl _ _).alloc (Nat.le_refl _) _).trans (hb9.mono (by simp))⟩


/-- the word at place i -/
def at' (ss : List ByteArray) (i : Nat) : ByteArray := ss.getD i ⟨#[]⟩
/-- place i is taken: not empty, new, one of the profile -/
def good (cls : ByteArray → Bool) (ss : List ByteArray) (i : Nat) : Prop := (at' ss i).toList.isEmpty = false ∧ (∀ j, j < i → at' ss j ≠ at' ss i) ∧ cls (at' ss i) = true

/-- The words lie in memory. -/
structure Words (w : World) (b o n : Nat) (ss : List ByteArray) : Prop where
  cell : ∀ j, j < n → w.cell? ⟨b, o + j, none⟩ = some (.string (at' ss j))
  small : ∀ j, j < n → (at' ss j).size ≤ maxLen

/-- what a look into the map gives, now and later -/
def Looks (w : World) (mv : Value) (cls : ByteArray → Bool) : Prop := ∀ w', Below w.heap.size w w' → ∀ s : ByteArray, s.size ≤ maxLen → ∀ t, Ybaf.prog.underlying t = some (.map 9 4) → (Instr.lookup t mv (.string s) false).run Ybaf.prog w' = .ok (.bool (cls s)) w'

theorem Looks.later {w w' : World} {mv : Value} {cls : ByteArray → Bool} (h : Looks w mv cls) (hb : Below w.heap.size w w') : Looks w' mv cls := fun w'' h'' => h w'' (hb.trans (h''.mono hb.size))
theorem Words.later {w w' : World} {b o n : Nat} {ss : List ByteArray} (h : Words w b o n ss) (hb : Below w.heap.size w w') : Words w' b o n ss := ⟨fun j hj => cell_later hb (h.cell j hj), h.small⟩

theorem toList_ne {a b : ByteArray} (h : a ≠ b) : (a.toList == b.toList) = false := by
  rw [beq_eq_false_iff_ne]
  intro e
  apply h
  have hd : ∀ u : ByteArray, u.toList = u.data.toList := fun u => ByteArray.toList_eq u
  rw [hd, hd] at e
  exact ByteArray.ext (Array.toList_inj.1 e)

set_option maxHeartbeats 2000000 in
theorem zz_some (b o n c : Nat) (ss : List ByteArray) (cls : ByteArray → Bool) (mv : Value) (w : World) (hn : 0 < n) (hbig : n ≤ 4096) (hW : Words w b o n ss) (hL : Looks w mv cls) :
    Calls Ybaf.prog 6 #[.slice (some ⟨b, o, none⟩) n c, mv] w fun e w' => ((e = .returned (.bool true) ∧ ∀ i, i < n → good cls ss i) ∨ (e = .returned (.bool false) ∧ ∃ i, i < n ∧ ¬ good cls ss i)) ∧ ∃ q, w' = w.drewN q := by
  have HW : Hid (Words w b o n ss) := hW
  have HL : Hid (Looks w mv cls) := hL
  clear hW hL
  go_enter Ybaf.func6, Ybaf.ntmps6
  go_wp2_with fail
  go_loopg [5] n (fun g s5 wr => ∃ k q : Nat, k ≤ n ∧ n - k ≤ g ∧ s5 = .int .i64 k ∧ wr = w.drewN q ∧ ∀ i, i < k → good cls ss i)
  case atStart => exact ⟨0, 0, Nat.zero_le _, by omega, rfl, rfl, fun i hi => absurd hi (by omega)⟩
  case round =>
    obtain ⟨k, q, hk, hg, rfl, rfl, hgood⟩ := hrel
    have HG : Hid (∀ i, i < k → good cls ss i) := hgood
    clear hgood
    by_cases hlt : k < n
    · have g1 := HW.out.cell k hlt
      by_cases hemp : (at' ss k).toList.isEmpty = true
      · go_wp2
        go_ret
        exact ⟨.inr ⟨rfl, k, hlt, fun h => by simp [h.1] at hemp⟩, q, rfl⟩
      · have hemp' : (at' ss k).toList.isEmpty = false := by simpa using hemp
        go_wp2_with fail
        go_loopg [7] k (fun g s7 wr => ∃ j r : Nat, j ≤ k ∧ k - j ≤ g ∧ s7 = .int .i64 j ∧ wr = w.drewN r ∧ ∀ i, i < j → at' ss i ≠ at' ss k)
        case atStart => exact ⟨0, q, Nat.zero_le _, by omega, rfl, rfl, fun i hi => absurd hi (by omega)⟩
        case round =>
          obtain ⟨j, r, hj, hg2, rfl, rfl, hnew⟩ := hrel
          have HN : Hid (∀ i, i < j → at' ss i ≠ at' ss k) := hnew
          clear hnew
          by_cases hjk : j < k
          · have g2 := HW.out.cell j (by omega)
            by_cases heq : at' ss j = at' ss k
            · rw [heq] at g2
              go_wp2
              go_ret
              exact ⟨.inr ⟨rfl, k, hlt, fun h => h.2.1 j hjk heq⟩, r, rfl⟩
            · have hne := toList_ne heq
              go_wp2
              go_roundg (k - (j + 1))
              case measure => omega
              case rel =>
                refine ⟨j + 1, r, by omega, by omega, by go_num, rfl, ?_⟩
                intro i hi
                rcases Nat.lt_succ_iff_lt_or_eq.1 hi with h | rfl
                · exact HN.out i h
                · exact heq
          · obtain rfl : j = k := by omega
            have hl := HL.out (w.drewN r) (below_drewN (Below.refl _ _) r) (at' ss j) (HW.out.small j hlt) 23 Ybaf.underlying23
            by_cases hcls : cls (at' ss j) = true
            · rw [hcls] at hl
              go_wp2
              go_roundg (n - (j + 1))
              case measure => omega
              case rel =>
                refine ⟨j + 1, r, by omega, by omega, by go_num, rfl, ?_⟩
                intro i hi
                rcases Nat.lt_succ_iff_lt_or_eq.1 hi with h | rfl
                · exact HG.out i h
                · exact ⟨hemp', HN.out, hcls⟩
            · have hcls' : cls (at' ss j) = false := by simpa using hcls
              rw [hcls'] at hl
              go_wp2
              go_ret
              exact ⟨.inr ⟨rfl, j, hlt, fun h => hcls h.2.2⟩, r, rfl⟩
    · go_wp2
      go_ret
      obtain rfl : k = n := by omega
      exact ⟨.inl ⟨rfl, HG.out⟩, q, rfl⟩
end Go.Proofs.YbulkcqmkFmt
