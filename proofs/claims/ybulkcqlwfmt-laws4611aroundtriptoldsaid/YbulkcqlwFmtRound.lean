/-
  MarshalText of the two named kinds; the walk of LawS4611ARoundTrip.
-/
import Derived.Test.YbulkcqlwFmtWalks
namespace Go.Proofs.YbulkcqlwFmt
open Go.RowKit
set_option linter.unusedVariables false

set_option maxHeartbeats 400000 in
theorem text_con (g o : Nat) (w : World) (hN : Names w g o) :
    Calls Ybaf.prog 25 #[.agg (tabV g o), .int .i64 1] w fun e w' => e = .returned (.string conS) ∧ w' = w.alloc (.cells (tabV g o) 52) := by
  have c0 := cell_later ((Below.refl _ w).alloc (Nat.le_refl _) (.cells (tabV g o) 52)) hN.n0
  go_enter Ybaf.func25, Ybaf.ntmps25
  go_wp2
  go_ret
  exact ⟨rfl, rfl⟩

set_option maxHeartbeats 400000 in
theorem check_con (g o : Nat) (w : World) :
    Calls Ybaf.prog 24 #[.agg (tabV g o), .int .i64 1] w fun e w' => e = .returned .nilIface ∧ w' = w.alloc (.cells (tabV g o) 52) := by
  go_enter Ybaf.func24, Ybaf.ntmps24
  go_wp2
  go_ret
  exact ⟨rfl, rfl⟩

set_option maxHeartbeats 1000000 in
theorem marshal_con (g o : Nat) (w : World) (hT : Tab w g o) :
    Calls Ybaf.prog 9 #[.int .i64 1] w fun e w' => ∃ b c, e = .returned (.tuple #[.slice (some ⟨b, 0, none⟩) 8 c, .nilIface]) ∧ Texts w' (.slice (some ⟨b, 0, none⟩) 8 c) conS ∧ Below w.heap.size w w' := by
  have kc := fun (w : World) (s : ByteArray) => run_bytes_of_string (P := Ybaf.prog) w 9 22 5 s Ybaf.underlying9 Ybaf.underlying22 Ybaf.underlying5
  obtain ⟨t0, t1, t2, t3, hN⟩ := hT
  have b3 : Below w.heap.size w (((w.alloc (.cells (tabV g o) 52)).alloc (.cells (tabV g o) 52)).alloc (.cells (tabV g o) 52)) := (((Below.refl _ _).alloc (Nat.le_refl _) _).alloc (by simp) _).alloc (by simp; omega) _
  have b2 : Below w.heap.size w ((w.alloc (.cells (tabV g o) 52)).alloc (.cells (tabV g o) 52)) := ((Below.refl _ _).alloc (Nat.le_refl _) _).alloc (by simp) _
  have hN2 := hN.later b2
  have HB3 : Hid (Below w.heap.size w (((w.alloc (.cells (tabV g o) 52)).alloc (.cells (tabV g o) 52)).alloc (.cells (tabV g o) 52))) := b3
  clear b2 b3
  go_enter Ybaf.func9, Ybaf.ntmps9
  go_wp2_with (first | (go_at_call 24; refine (check_con g o _).mono ?_; rintro e w' ⟨rfl, rfl⟩) | (go_at_call 25; refine (text_con g o _ hN2).mono ?_; rintro e w' ⟨rfl, rfl⟩) | go_in)
  go_ret2
  have ht := texts_made (((w.alloc (.cells (tabV g o) 52)).alloc (.cells (tabV g o) 52)).alloc (.cells (tabV g o) 52)) conS (grownCap (((w.alloc (.cells (tabV g o) 52)).alloc (.cells (tabV g o) 52)).alloc (.cells (tabV g o) 52)) 8 0 5) (grownCap (((w.alloc (.cells (tabV g o) 52)).alloc (.cells (tabV g o) 52)).alloc (.cells (tabV g o) 52)) 8 0 5) ((bytesRow conS (grownCap (((w.alloc (.cells (tabV g o) 52)).alloc (.cells (tabV g o) 52)).alloc (.cells (tabV g o) 52)) 8 0 5)).size, (bytesRow conS (grownCap (((w.alloc (.cells (tabV g o) 52)).alloc (.cells (tabV g o) 52)).alloc (.cells (tabV g o) 52)) 8 0 5)).size + 1)
  have e3 : (((w.alloc (.cells (tabV g o) 52)).alloc (.cells (tabV g o) 52)).alloc (.cells (tabV g o) 52)).heap.size = w.heap.size + 1 + 1 + 1 := by simp
  rw [e3] at ht
  exact ⟨_, _, rfl, ht.later (Below.refl _ _).drew, ((HB3.out.alloc HB3.out.size _).drew)⟩

set_option maxHeartbeats 400000 in
theorem text_the (g o : Nat) (w : World) (hN : Names w g o) :
    Calls Ybaf.prog 25 #[.agg (tabV g o), .int .i64 2] w fun e w' => e = .returned (.string theS) ∧ w' = w.alloc (.cells (tabV g o) 52) := by
  have c0 := cell_later ((Below.refl _ w).alloc (Nat.le_refl _) (.cells (tabV g o) 52)) hN.n1
  go_enter Ybaf.func25, Ybaf.ntmps25
  go_wp2
  go_ret
  exact ⟨rfl, rfl⟩

set_option maxHeartbeats 400000 in
theorem check_the (g o : Nat) (w : World) :
    Calls Ybaf.prog 24 #[.agg (tabV g o), .int .i64 2] w fun e w' => e = .returned .nilIface ∧ w' = w.alloc (.cells (tabV g o) 52) := by
  go_enter Ybaf.func24, Ybaf.ntmps24
  go_wp2
  go_ret
  exact ⟨rfl, rfl⟩

set_option maxHeartbeats 1000000 in
theorem marshal_the (g o : Nat) (w : World) (hT : Tab w g o) :
    Calls Ybaf.prog 9 #[.int .i64 2] w fun e w' => ∃ b c, e = .returned (.tuple #[.slice (some ⟨b, 0, none⟩) 9 c, .nilIface]) ∧ Texts w' (.slice (some ⟨b, 0, none⟩) 9 c) theS ∧ Below w.heap.size w w' := by
  have kc := fun (w : World) (s : ByteArray) => run_bytes_of_string (P := Ybaf.prog) w 9 22 5 s Ybaf.underlying9 Ybaf.underlying22 Ybaf.underlying5
  obtain ⟨t0, t1, t2, t3, hN⟩ := hT
  have b3 : Below w.heap.size w (((w.alloc (.cells (tabV g o) 52)).alloc (.cells (tabV g o) 52)).alloc (.cells (tabV g o) 52)) := (((Below.refl _ _).alloc (Nat.le_refl _) _).alloc (by simp) _).alloc (by simp; omega) _
  have b2 : Below w.heap.size w ((w.alloc (.cells (tabV g o) 52)).alloc (.cells (tabV g o) 52)) := ((Below.refl _ _).alloc (Nat.le_refl _) _).alloc (by simp) _
  have hN2 := hN.later b2
  have HB3 : Hid (Below w.heap.size w (((w.alloc (.cells (tabV g o) 52)).alloc (.cells (tabV g o) 52)).alloc (.cells (tabV g o) 52))) := b3
  clear b2 b3
  go_enter Ybaf.func9, Ybaf.ntmps9
  go_wp2_with (first | (go_at_call 24; refine (check_the g o _).mono ?_; rintro e w' ⟨rfl, rfl⟩) | (go_at_call 25; refine (text_the g o _ hN2).mono ?_; rintro e w' ⟨rfl, rfl⟩) | go_in)
  go_ret2
  have ht := texts_made (((w.alloc (.cells (tabV g o) 52)).alloc (.cells (tabV g o) 52)).alloc (.cells (tabV g o) 52)) theS (grownCap (((w.alloc (.cells (tabV g o) 52)).alloc (.cells (tabV g o) 52)).alloc (.cells (tabV g o) 52)) 9 0 5) (grownCap (((w.alloc (.cells (tabV g o) 52)).alloc (.cells (tabV g o) 52)).alloc (.cells (tabV g o) 52)) 9 0 5) ((bytesRow theS (grownCap (((w.alloc (.cells (tabV g o) 52)).alloc (.cells (tabV g o) 52)).alloc (.cells (tabV g o) 52)) 9 0 5)).size, (bytesRow theS (grownCap (((w.alloc (.cells (tabV g o) 52)).alloc (.cells (tabV g o) 52)).alloc (.cells (tabV g o) 52)) 9 0 5)).size + 1)
  have e3 : (((w.alloc (.cells (tabV g o) 52)).alloc (.cells (tabV g o) 52)).alloc (.cells (tabV g o) 52)).heap.size = w.heap.size + 1 + 1 + 1 := by simp
  rw [e3] at ht
  exact ⟨_, _, rfl, ht.later (Below.refl _ _).drew, ((HB3.out.alloc HB3.out.size _).drew)⟩

set_option maxHeartbeats 1000000 in
theorem round_even (sel start : Int) (g o : Nat) (w : World) (hT : Tab w g o) (h0 : 0 ≤ sel) (h1 : sel ≤ 255) (he : (sel % 2 == 1) = false) :
    Calls Ybaf.prog 5 #[.int .u8 sel, .int .i64 start] w fun e w' => e = .returned (.bool true) ∧ Below w.heap.size w w' := by
  have HT : Hid (Tab w g o) := hT
  clear hT
  go_enter Ybaf.func5, Ybaf.ntmps5
  go_wp2_with fail
  refine (marshal_con g o w HT.out).mono ?_
  rintro e w1 ⟨b, c, rfl, ht, hb⟩
  go_wp2_with fail
  have ba : Below w1.heap.size w1 (w1.alloc (.cells #[.int .i64 start] 23)) := (Below.refl _ _).alloc (Nat.le_refl _) _
  refine (unmarshal_of g o w1.heap.size _ 1 start _ ((HT.out.later hb).later ba) (by simp [go_sem]) (by simp [go_sem]) (fun w2 hN hb2 => value_con g o _ w2 hN ((ht.later ba).later hb2))).mono ?_
  rintro e w3 ⟨rfl, k0, kb⟩
  have kbw : Below w.heap.size w w3 := hb.trans ((ba.trans kb).mono hb.size)
  clear ht hb ba kb
  go_wp2
  go_ret
  exact ⟨rfl, kbw⟩

set_option maxHeartbeats 1000000 in
theorem round_odd (sel start : Int) (g o : Nat) (w : World) (hT : Tab w g o) (h0 : 0 ≤ sel) (h1 : sel ≤ 255) (he : (sel % 2 == 1) = true) :
    Calls Ybaf.prog 5 #[.int .u8 sel, .int .i64 start] w fun e w' => e = .returned (.bool true) ∧ Below w.heap.size w w' := by
  have HT : Hid (Tab w g o) := hT
  clear hT
  go_enter Ybaf.func5, Ybaf.ntmps5
  go_wp2_with fail
  refine (marshal_the g o w HT.out).mono ?_
  rintro e w1 ⟨b, c, rfl, ht, hb⟩
  go_wp2_with fail
  have ba : Below w1.heap.size w1 (w1.alloc (.cells #[.int .i64 start] 23)) := (Below.refl _ _).alloc (Nat.le_refl _) _
  refine (unmarshal_of g o w1.heap.size _ 2 start _ ((HT.out.later hb).later ba) (by simp [go_sem]) (by simp [go_sem]) (fun w2 hN hb2 => value_the g o _ w2 hN ((ht.later ba).later hb2))).mono ?_
  rintro e w3 ⟨rfl, k0, kb⟩
  have kbw : Below w.heap.size w w3 := hb.trans ((ba.trans kb).mono hb.size)
  clear ht hb ba kb
  go_wp2
  go_ret
  exact ⟨rfl, kbw⟩
end Go.Proofs.YbulkcqlwFmt
