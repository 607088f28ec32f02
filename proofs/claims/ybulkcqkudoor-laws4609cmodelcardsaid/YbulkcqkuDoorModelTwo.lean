/-
  THE WALK OF LawS4609CModel: what is taken; all ways together.
-/
import Derived.Test.YbulkcqkuDoorModel
namespace Go.Proofs.YbulkcqkuDoor
open Go.RowKit
set_option linter.unusedVariables false

set_option maxHeartbeats 1000000 in
/-- one byte, taken -/
theorem model_good1 (g o n c : Nat) (m : Int) (l : List UInt8) (ea : Addr) (v : Nat) (w : World) (hl : l.length = n) (hL : Lies w (some ⟨g, o, none⟩) l) (hs : n ≤ 4096) (hnc : n ≤ c)
    (hE : w.cell? ⟨0, 0, none⟩ = some (.iface 39 (.pointer (some ea)))) (hpos : 0 < w.heap.size) (hd : Lib.uvarintDec l = (v, 1)) (hkn : 1 ≤ n) (hm : (v : Int) ≤ IntKind.u64.wrap m) :
    Calls Ybad.prog 3 #[.slice (some ⟨g, o, none⟩) n c, .int .i64 m, .bool false] w fun e w' => e = .returned (.bool true) ∧ Below w.heap.size w w' := by
  have HL : Hid (l.length = n) := hl
  have HD : Hid (Lib.uvarintDec l = (v, 1)) := hd
  have hM0 := wrap_u64_nonneg m
  have hgood : Hid (Good l (IntKind.u64.wrap m)) := by
    unfold Hid Good
    rw [hd]
    exact ⟨by simp only []; omega, by rintro ⟨h, _⟩; simp only [] at h; omega, hm⟩
  clear hl hd
  go_enter Ybad.func3, Ybad.ntmps3
  go_wp2_with fail
  refine (clone_any (some ⟨g, o, none⟩) n c l _ HL.out hL hs (fun h => by cases h)).mono ?_
  rintro e w1 ⟨a1, cp, rfl, h1, h4, hb⟩
  have hE1 := (hb.cell (p := ⟨0, 0, none⟩) hpos).trans hE
  have hs1 := hb.size
  clear hE
  go_wp2_with fail
  refine (mc_yes l m a1 n cp v 1 w1 h4 HL.out HD.out h1 hs hgood.out).mono ?_
  rintro e w3 ⟨rfl, a3, c3, k0, k2, k3, kb⟩
  have k1 : Lies w3 (some ⟨g, o, none⟩) l := lies_later (lies_later hL hb) kb
  clear hE1 h4 hL
  go_wp2_with fail
  refine (zz_all _ n c l w3 HL.out (by omega) k1).mono ?_
  rintro e w4 ⟨he, rfl⟩
  rw [HD.out, zzR_yes v 1 (by omega)] at he
  subst he
  have kt : Lies w4 (some ⟨g, o + 1, none⟩) (l.drop 1) := lies_tail k1
  have HT : Hid ((l.drop 1).length = n - 1) := by unfold Hid; rw [List.length_drop, HL.out]
  have hle : (((n - 1 : Nat) : Int) == (n : Int) - 1) = true := by rw [beq_iff_eq]; omega
  have hw : (wrap64 (v : Int) == wrap64 (v : Int)) = true := by simp
  go_wp2_with fail
  by_cases hc : c = 1
  · have hnk : n = 1 := by omega
    subst hc
    subst hnk
    go_quiet ((go_at_call 8; exact Calls.quiet_of (equal_zero _ _ _ _ _)))
    go_wp2
    go_ret
    exact ⟨rfl, model_no_end _ _ _ hb kb _⟩
  · go_quiet ((go_at_call 8; exact Calls.quiet_of (equal_any _ _ _ _ _ (l.drop 1) _ HT.out (by omega) (lies_drewN _ k3) (lies_drewN _ kt))))
    go_wp2
    go_ret
    exact ⟨rfl, model_no_end _ _ _ hb kb _⟩

set_option maxHeartbeats 1000000 in
/-- more bytes, taken -/
theorem model_good2 (g o n c : Nat) (m : Int) (l : List UInt8) (ea : Addr) (v k : Nat) (w : World) (hl : l.length = n) (hL : Lies w (some ⟨g, o, none⟩) l) (hs : n ≤ 4096) (hnc : n ≤ c)
    (hE : w.cell? ⟨0, 0, none⟩ = some (.iface 39 (.pointer (some ea)))) (hpos : 0 < w.heap.size) (hd : Lib.uvarintDec l = (v, (k : Int))) (hk : 1 < k) (hkn : k ≤ n) (hz : (l.getD (k - 1) 0).toNat ≠ 0) (hm : (v : Int) ≤ IntKind.u64.wrap m) :
    Calls Ybad.prog 3 #[.slice (some ⟨g, o, none⟩) n c, .int .i64 m, .bool false] w fun e w' => e = .returned (.bool true) ∧ Below w.heap.size w w' := by
  have HL : Hid (l.length = n) := hl
  have HD : Hid (Lib.uvarintDec l = (v, (k : Int))) := hd
  have hM0 := wrap_u64_nonneg m
  have hgood : Hid (Good l (IntKind.u64.wrap m)) := by
    unfold Hid Good
    rw [hd]
    rw [Int.toNat_natCast]
    exact ⟨by simp only []; omega, fun h => hz h.2, hm⟩
  have HZ : Hid ((l.getD (k - 1) 0).toNat ≠ 0) := hz
  clear hz
  clear hl hd
  go_enter Ybad.func3, Ybad.ntmps3
  go_wp2_with fail
  refine (clone_any (some ⟨g, o, none⟩) n c l _ HL.out hL hs (fun h => by cases h)).mono ?_
  rintro e w1 ⟨a1, cp, rfl, h1, h4, hb⟩
  have hE1 := (hb.cell (p := ⟨0, 0, none⟩) hpos).trans hE
  have hs1 := hb.size
  clear hE
  go_wp2_with fail
  refine (mc_yes l m a1 n cp v k w1 h4 HL.out HD.out h1 hs hgood.out).mono ?_
  rintro e w3 ⟨rfl, a3, c3, k0, k2, k3, kb⟩
  have k1 : Lies w3 (some ⟨g, o, none⟩) l := lies_later (lies_later hL hb) kb
  clear hE1 h4 hL
  go_wp2_with fail
  refine (zz_all _ n c l w3 HL.out (by omega) k1).mono ?_
  rintro e w4 ⟨he, rfl⟩
  rw [HD.out, zzR_yes v (k : Int) (by omega)] at he
  subst he
  have kz := lies_at k1 (k - 1) (by rw [HL.out]; omega)
  have kz0 : (((l.getD (k - 1) 0).toNat : Int) == 0) = false := by rw [beq_eq_false_iff_ne]; have := HZ.out; omega
  generalize ((l.getD (k - 1) 0).toNat : Int) = z at kz kz0
  have kt : Lies w4 (some ⟨g, o + k, none⟩) (l.drop k) := lies_tail k1
  have HT : Hid ((l.drop k).length = n - k) := by unfold Hid; rw [List.length_drop, HL.out]
  have hle : (((n - k : Nat) : Int) == (n : Int) - (k : Int)) = true := by rw [beq_iff_eq]; omega
  have hw : (wrap64 (v : Int) == wrap64 (v : Int)) = true := by simp
  go_wp2_with fail
  by_cases hc : c = k
  · have hnk : n = k := by omega
    subst hc
    subst hnk
    go_quiet ((go_at_call 8; exact Calls.quiet_of (equal_zero _ _ _ _ _)))
    go_wp2
    go_ret
    exact ⟨rfl, model_no_end _ _ _ hb kb _⟩
  · go_quiet ((go_at_call 8; exact Calls.quiet_of (equal_any _ _ _ _ _ (l.drop k) _ HT.out (by omega) (lies_drewN _ k3) (lies_drewN _ kt))))
    go_wp2
    go_ret
    exact ⟨rfl, model_no_end _ _ _ hb kb _⟩

set_option maxHeartbeats 400000 in
theorem model_long_in (a : Option Addr) (n c : Nat) (m : Int) (p : Bool) (w : World) (hs : 4096 < n) :
    Calls Ybad.prog 3 #[.slice a n c, .int .i64 m, .bool p] w fun e w' => e = .returned (.bool true) ∧ Below w.heap.size w w' := by
  go_enter Ybad.func3, Ybad.ntmps3
  go_wp2
  go_ret
  exact ⟨rfl, Below.refl _ _⟩

theorem model_walk (a : Option Addr) (n c : Nat) (m : Int) (p : Bool) (l : List UInt8) (ea : Addr) (w : World) (hl : l.length = n) (hL : Lies w a l) (hnc : n ≤ c) (hn : a = none → n = 0)
    (hE : w.cell? ⟨0, 0, none⟩ = some (.iface 39 (.pointer (some ea)))) (hpos : 0 < w.heap.size) :
    Calls Ybad.prog 3 #[.slice a n c, .int .i64 m, .bool p] w fun e w' => e = .returned (.bool true) ∧ Below w.heap.size w w' := by
  by_cases hs : n ≤ 4096
  · cases p
    · obtain ⟨v, k, hd⟩ : ∃ v k, Lib.uvarintDec l = (v, k) := ⟨_, _, rfl⟩
      by_cases hk : k ≤ 0
      · exact model_none a n c m l ea v k w hl hL hs hn hE hpos hd hk
      · have hle := dec_le l
        rw [hd] at hle
        simp only [] at hle
        obtain ⟨k, rfl⟩ := Int.eq_ofNat_of_zero_le (by omega : 0 ≤ k)
        have hne : l ≠ [] := by
          rintro rfl
          simp at hle
          omega
        obtain ⟨g, o, rfl⟩ : ∃ g o, a = some ⟨g, o, none⟩ := by
          rcases hL with h | ⟨g, o, h, _⟩
          · exact absurd h hne
          · exact ⟨g, o, h⟩
        by_cases h1 : k = 1
        · subst h1
          by_cases hm : (v : Int) ≤ IntKind.u64.wrap m
          · exact model_good1 g o n c m l ea v w hl hL hs hnc hE hpos hd (by omega) hm
          · exact model_over1 g o n c m l ea v w hl hL hs hnc hE hpos hd (by omega) (by omega)
        · by_cases hz : (l.getD (k - 1) 0).toNat = 0
          · exact model_long g o n c m l ea v k w hl hL hs hnc hE hpos hd (by omega) (by omega) hz
          · by_cases hm : (v : Int) ≤ IntKind.u64.wrap m
            · exact model_good2 g o n c m l ea v k w hl hL hs hnc hE hpos hd (by omega) (by omega) hz hm
            · exact model_over2 g o n c m l ea v k w hl hL hs hnc hE hpos hd (by omega) (by omega) hz (by omega)
    · exact model_pre a n c m l w hl hL hs hn
  · exact model_long_in a n c m p w (by omega)
end Go.Proofs.YbulkcqkuDoor
