/-
  THE SMALL CALLEES: bytes.Equal at one value, zzs4609bsame, zzs4609bcount.
-/
import Derived.Test.YbulkcqkuBase
import Derived.Deep.QuietTactic
import Derived.BigQuiet
namespace Go.Proofs.Ybulkcqku
open Go.RowKit
set_option linter.unusedVariables false

theorem equal_self (v : Value) (t : ByteArray) (w : World) (h : (convert 27 9 v).run Yba.prog w = .ok (.string t) w) :
    Calls Yba.prog 14 #[v, v] w fun e w' => e = .returned (.bool true) ∧ w' = w := by
  go_enter Yba.func14, Yba.ntmps14
  go_wp2
  go_ret
  exact ⟨rfl, rfl⟩

set_option maxHeartbeats 400000 in
theorem same_any (s : Snd) (w : World) (h : Reads w s) :
    Calls Yba.prog 10 #[.agg #[.int .i64 s.dst, .int .i64 s.frm, s.data, .bool s.cnt], .agg #[.int .u8 s.rnd, .int .i64 s.frm, .int .i64 s.dst, s.data, .bool s.cnt]] w fun e w' => e = .returned (.bool true) ∧ Below w.heap.size w w' := by
  obtain ⟨rnd, frm, dst, da, dn, dc, cnt⟩ := s
  obtain ⟨t, ht⟩ := h
  have HT : Hid (∀ w', Below w.heap.size w w' → (convert 27 9 (.slice da dn dc)).run Yba.prog w' = .ok (.string t) w') := ht
  clear ht
  simp only [Snd.data]
  go_enter Yba.func10, Yba.ntmps10
  go_wp2_with fail
  have hb : Below w.heap.size w ((w.alloc (.cells #[.int .i64 dst, .int .i64 frm, .slice da dn dc, .bool cnt] 64)).alloc (.cells #[.int .u8 rnd, .int .i64 frm, .int .i64 dst, .slice da dn dc, .bool cnt] 56)) := ((Below.refl _ _).alloc (Nat.le_refl _) _).alloc (by simp) _
  refine (equal_self _ t _ (HT.out _ hb)).mono ?_
  rintro e w' ⟨rfl, hw⟩
  rw [← hw] at hb
  clear hw
  go_wp2
  go_ret
  exact ⟨rfl, hb⟩

theorem count_zero (a : Option Addr) (c : Nat) (r : Int) (w : World) :
    Calls Yba.prog 11 #[.slice a 0 c, .int .i64 r] w fun e w' => e = .returned (.int .i64 0) ∧ w' = w := by
  go_enter Yba.func11, Yba.ntmps11
  go_wp2
  refine wp_loop_rounds 1 ?_
  rw [rounds_succ]
  go_wp2
  go_ret
  exact ⟨rfl, rfl⟩

set_option maxHeartbeats 1000000 in
theorem count_any (b o n c : Nat) (ss : List Snd) (r : Int) (w : World) (hl : ss.length = n) (hs : n ≤ 1024) (hH : Holds w b o ss) :
    Calls Yba.prog 11 #[.slice (some ⟨b, o, none⟩) n c, .int .i64 r] w fun e w' => e = .returned (.int .i64 ((grp ss r).length : Int)) ∧ w' = w := by
  have HL : Hid (ss.length = n) := hl
  have HH : Hid (Holds w b o ss) := hH
  clear hl hH
  go_enter Yba.func11, Yba.ntmps11
  go_wp2
  go_loop [5, 6] (fun vc vi => ∃ k : Nat, k ≤ n ∧ vi = .int .i64 k ∧ vc = .int .i64 ((grp (ss.take k) r).length : Int)) (fun _ vi => n - (intOf vi).toNat)
  case atStart => exact ⟨0, Nat.zero_le _, rfl, rfl⟩
  case round =>
    obtain ⟨k, hk, rfl, rfl⟩ := hrel
    have hg := grp_le (ss.take k) r
    have hg2 : (ss.take k).length ≤ k := List.length_take_le _ _
    by_cases hlt : k < n
    · obtain ⟨s, hs1⟩ : ∃ s, ss[k]? = some s := ⟨_, List.getElem?_eq_getElem (by rw [HL.out]; exact hlt)⟩
      have HS : Hid (ss.take (k + 1) = ss.take k ++ [s]) := by
        unfold Hid
        rw [List.take_add_one, hs1]
        rfl
      obtain ⟨h0, -, -, -, -, h5, h6⟩ := HH.out k s hs1
      have hki : (k : Int) < (n : Int) := by omega
      clear hs1
      by_cases hr : s.r4 = r
      · have HR : Hid ((grp (ss.take (k + 1)) r).length = (grp (ss.take k) r).length + 1) := by
          unfold Hid
          rw [HS.out, grp_snoc_same _ _ _ hr]
          simp
        have hq : (s.rnd % 4 == r) = true := by rw [beq_iff_eq]; exact hr
        clear hr
        generalize s.rnd = x at h0 h5 h6 hq
        go_wp2
        go_round
        case rel => exact ⟨k + 1, by omega, by go_num, by rw [HR.out]; go_num⟩
        case measure => simp [intOf]; omega
      · have HR : Hid ((grp (ss.take (k + 1)) r).length = (grp (ss.take k) r).length) := by
          unfold Hid
          rw [HS.out, grp_snoc_other _ _ _ hr]
        have hq : (s.rnd % 4 == r) = false := by rw [beq_eq_false_iff_ne]; exact hr
        clear hr
        generalize s.rnd = x at h0 h5 h6 hq
        go_wp2
        go_round
        case rel => exact ⟨k + 1, by omega, by go_num, by rw [HR.out]⟩
        case measure => simp [intOf]; omega
    · have hkn : k = n := by omega
      subst hkn
      have HT : Hid (ss.take k = ss) := List.take_of_length_le (by rw [HL.out]; exact Nat.le_refl _)
      go_wp2
      go_ret
      exact ⟨by rw [HT.out]; rfl, rfl⟩
end Go.Proofs.Ybulkcqku
