/-
  checkFeeClasses at a list of words.
-/
import Derived.Test.YbulkcqmkFmtZz
namespace Go.Proofs.YbulkcqmkFmt
open Go.RowKit Go.Maps
set_option linter.unusedVariables false
attribute [local go_sem] eqlNil

theorem mk27 (w : World) : (Instr.makeMap 27 none).run Ybaf.prog w = .ok (.map (some w.heap.size)) (w.alloc (.map #[] 0)) := by kernel_rfl

set_option maxHeartbeats 2000000 in
theorem check_some (t : ByteArray) (b o n c : Nat) (ss : List ByteArray) (cls : ByteArray → Bool) (mv : Value) (w : World) (hn : 0 < n) (hbig : n ≤ 4096) (hW : Words w b o n ss) (hL : Looks w mv cls) :
    Calls Ybaf.prog 5 #[.string t, .slice (some ⟨b, o, none⟩) n c, mv] w fun e w' => ((e = .returned .nilIface ∧ ∀ i, i < n → good cls ss i) ∨ (∃ a, e = .returned (.iface 38 (.pointer (some a))) ∧ ∃ i, i < n ∧ ¬ good cls ss i)) ∧ Below w.heap.size w w' := by
  have HW : Hid (Words w b o n ss) := hW
  have HL : Hid (Looks w mv cls) := hL
  have hmk := mk27 w
  have hn0 : ((n : Int) == 0) = false := by simp; omega
  clear hW hL
  go_enter Ybaf.func5, Ybaf.ntmps5
  go_wp2_with fail
  go_loopg [24] n (fun g s24 wr => ∃ k : Nat, k ≤ n ∧ n - k ≤ g ∧ s24 = .int .i64 k ∧ Set wr w.heap.size k (fun x => decide (∃ j, j < k ∧ x = at' ss j)) ∧ Below w.heap.size w wr ∧ ∀ i, i < k → good cls ss i)
  case atStart => exact ⟨0, Nat.zero_le _, by omega, rfl, by simpa using Set.made w, (Below.refl _ _).alloc (Nat.le_refl _) _, fun i hi => absurd hi (by omega)⟩
  case round =>
    obtain ⟨k, hk, hg, rfl, hset, hbel, hgood⟩ := hrel
    have HG : Hid (∀ i, i < k → good cls ss i) := hgood
    have HS : Hid (Set wr w.heap.size k (fun x => decide (∃ j, j < k ∧ x = at' ss j))) := hset
    have HB : Hid (Below w.heap.size w wr) := hbel
    clear hgood hset hbel hmk
    by_cases hlt : k < n
    · have g1 := (HW.out.later HB.out).cell k hlt
      obtain ⟨tx, hsp⟩ := sprintf_run wr.heap.size t k (wr.alloc (.cells #[.iface 9 (.string t), .iface 3 (.int .i64 k)] 20)) (by simp [go_sem]) (by simp [go_sem])
      go_wp2_with fail
      have hb1 : Below wr.heap.size wr (wr.alloc (.cells #[.iface 9 (.string t), .iface 3 (.int .i64 k)] 20)).drew := ((Below.refl _ _).alloc (Nat.le_refl _) _).drew
      have HB1 : Hid (Below w.heap.size w (wr.alloc (.cells #[.iface 9 (.string t), .iface 3 (.int .i64 k)] 20)).drew) := HB.out.trans (hb1.mono HB.out.size)
      have HS1 : Hid (Set (wr.alloc (.cells #[.iface 9 (.string t), .iface 3 (.int .i64 k)] 20)).drew w.heap.size k (fun x => decide (∃ j, j < k ∧ x = at' ss j))) := HS.out.later hb1 HS.out.lt
      clear hsp hb1 g1
      generalize (wr.alloc (.cells #[.iface 9 (.string t), .iface 3 (.int .i64 k)] 20)).drew = w1 at HB1 HS1 ⊢
      by_cases hemp : (at' ss k).toList.isEmpty = true
      · have he : at' ss k = ⟨#[]⟩ := by
          have hd : ∀ u : ByteArray, u.toList = u.data.toList := fun u => ByteArray.toList_eq u
          rw [hd, List.isEmpty_iff] at hemp
          exact ByteArray.ext (Array.toList_inj.1 hemp)
        rw [he]
        refine (add_empty w.heap.size tx w1).mono ?_
        rintro e w2 ⟨a2, rfl, hb2⟩
        go_wp2
        go_ret
        exact ⟨.inr ⟨a2, rfl, k, hlt, fun h => by simp [h.1] at hemp⟩, HB1.out.trans (hb2.mono HB1.out.size)⟩
      · have hemp' : (at' ss k).toList.isEmpty = false := by simpa using hemp
        by_cases hdup : ∃ j, j < k ∧ at' ss k = at' ss j
        · refine (add_twice w.heap.size k _ tx (at' ss k) w1 HS1.out (HW.out.small k hlt) (by simpa using hdup) hemp').mono ?_
          rintro e w2 ⟨a2, rfl, hb2⟩
          go_wp2
          go_ret
          exact ⟨.inr ⟨a2, rfl, k, hlt, fun h => by obtain ⟨j, hj, hjj⟩ := hdup; exact h.2.1 j hj hjj.symm⟩, HB1.out.trans (hb2.mono HB1.out.size)⟩
        · refine (add_new w.heap.size k _ tx (at' ss k) w1 HS1.out (HW.out.small k hlt) (by simp [maxLen]; omega) (by simpa using hdup) hemp').mono ?_
          rintro e w2 ⟨rfl, hs2, hb2⟩
          have HB2 : Hid (Below w.heap.size w w2) := HB1.out.trans hb2
          have HS2 : Hid (Set w2 w.heap.size (k + 1) (fun x => decide (∃ j, j < k + 1 ∧ x = at' ss j))) := by
            have e : (fun x => decide (x = at' ss k) || decide (∃ j, j < k ∧ x = at' ss j)) = (fun x => decide (∃ j, j < k + 1 ∧ x = at' ss j)) := by
              funext x
              rw [← Bool.decide_or, decide_eq_decide]
              constructor
              · rintro (h | ⟨j, hj, h⟩)
                · exact ⟨k, by omega, h⟩
                · exact ⟨j, by omega, h⟩
              · rintro ⟨j, hj, h⟩
                by_cases hjk : j = k
                · subst hjk; exact .inl h
                · exact .inr ⟨j, by omega, h⟩
            rw [e] at hs2
            exact hs2
          have hl := HL.out w2 HB2.out (at' ss k) (HW.out.small k hlt) 27 Ybaf.underlying27
          clear hs2 hb2
          by_cases hcls : cls (at' ss k) = true
          · rw [hcls] at hl
            go_wp2
            go_roundg (n - (k + 1))
            case measure => omega
            case rel =>
              refine ⟨k + 1, by omega, by omega, by go_num, HS2.out, HB2.out, ?_⟩
              intro i hi
              rcases Nat.lt_succ_iff_lt_or_eq.1 hi with h | rfl
              · exact HG.out i h
              · exact ⟨hemp', fun j hj h => hdup ⟨j, hj, h.symm⟩, hcls⟩
          · have hcls' : cls (at' ss k) = false := by simpa using hcls
            rw [hcls'] at hl
            go_wp2_with (go_at_call 7; refine (errorf_two classF fp_class w2.heap.size tx (at' ss k) _ (by simp [go_sem]) (by simp [go_sem])).mono ?_; rintro e w3 ⟨a3, rfl, hb3⟩)
            go_ret
            exact ⟨.inr ⟨a3, rfl, k, hlt, fun h => hcls h.2.2⟩, (HB2.out.alloc HB2.out.size _).trans (hb3.mono (HB2.out.alloc HB2.out.size _).size)⟩
    · go_wp2
      go_ret
      obtain rfl : k = n := by omega
      exact ⟨.inl ⟨rfl, HG.out⟩, HB.out⟩
end Go.Proofs.YbulkcqmkFmt
