/-
  THE WALK OF LawS4609CModel.
-/
import Derived.Test.YbulkcqkuDoorZz
namespace Go.Proofs.YbulkcqkuDoor
open Go.RowKit
set_option linter.unusedVariables false

theorem clone_nil (n c : Nat) (w : World) :
    Calls Ybad.prog 5 #[.slice none n c] w fun e w' => e = .returned (.slice none 0 0) ∧ w' = w := by
  have q22 : ∀ (w : World) (a : Option Addr) (n c n' c' : Nat), (binOp .eql 22 (.slice a n c) (.slice none n' c')).run Ybad.prog w = .ok (.bool a.isNone) w := fun w a n c n' c' => Lib.run_eql_slice_nil w _ _ a n c n' c' Ybad.underlying22
  go_enter Ybad.func5, Ybad.ntmps5
  go_wp2
  go_ret
  exact ⟨rfl, rfl⟩

set_option maxHeartbeats 1000000 in
theorem clone_some (ad : Addr) (n c : Nat) (l : List UInt8) (w : World) (hl : l.length = n) (hL : Lies w (some ad) l) (hs : n ≤ 4096) :
    Calls Ybad.prog 5 #[.slice (some ad) n c] w fun e w' => ∃ g cp, e = .returned (.slice (some ⟨g, 0, none⟩) n cp) ∧ n ≤ cp ∧ w.heap.size ≤ g ∧ g < w'.heap.size ∧ Lies w' (some ⟨g, 0, none⟩) l ∧ Below w.heap.size w w' := by
  obtain ⟨i0, hi, hz0, hz1, hz2⟩ := info_parts info5
  have q22 : ∀ (w : World) (a : Option Addr) (n c n' c' : Nat), (binOp .eql 22 (.slice a n c) (.slice none n' c')).run Ybad.prog w = .ok (.bool a.isNone) w := fun w a n c n' c' => Lib.run_eql_slice_nil w _ _ a n c n' c' Ybad.underlying22
  go_enter Ybad.func5, Ybad.ntmps5
  go_wp2_with (at_builtin; refine wpList_append_own _ rfl _ _ 22 rfl w.heap.size 5 i0 (.int .u8 0) 1 1 Ybad.underlying22 hi hz0 hz1 hz2 rfl (by decide) _ _ _ rfl (World.ownsRow_made w #[] 0 (Nat.le_refl _) (Nat.zero_le _) rfl) ad n c (Lib.byteCells l) rfl ?qc1 ?qc2 ?qc3 ?qc4 ?qc5 ?qc6 ?_)
  case qc1 => simp [Lib.byteCells, hl]
  case qc2 => exact news_lie (lies_later hL ((Below.refl _ _).alloc (Nat.le_refl _) _))
  case qc3 => intro u hu; obtain ⟨x, _, rfl⟩ := List.mem_map.1 hu; rfl
  case qc4 => unfold maxLen; omega
  case qc5 => omega
  case qc6 => simp
  intro v' w1 hown hgrow hnil
  have hb : Below w.heap.size w w1 := ((Below.refl _ w).alloc (Nat.le_refl _) _).grown hgrow (by simp) (by intro k hk; simp [Value.ownBlock] at hk; omega)
  have hform : ∃ g cp, v' = .slice (some ⟨g, 0, none⟩) n cp ∧ n ≤ cp ∧ w.heap.size ≤ g ∧ g < w1.heap.size ∧ Lies w1 (some ⟨g, 0, none⟩) l := by
    by_cases h0 : n = 0
    · rcases hown.2 with ⟨h, _⟩ | ⟨g, cap, cur, rfl, hb, hg, hnc, _, _, _⟩
      · exact absurd h hnil
      · have hlt : g < w1.heap.size := by
          rcases Nat.lt_or_ge g w1.heap.size with h' | h'
          · exact h'
          · simp [Array.getElem?_eq_none h'] at hg
        exact ⟨g, cap, rfl, hnc, hb, hlt, .inl (List.length_eq_zero_iff.1 (by omega))⟩
    · obtain ⟨g, c', e, h1, h2, h3, h4, _⟩ := own_lies (l := l) hown (by omega)
      exact ⟨g, c', e, h3, h1, h2, h4⟩
  obtain ⟨g, cp, hv, h1, h2, h3, h4⟩ := hform
  rw [hv]
  clear hown hnil hgrow hv
  go_wp2
  go_ret
  exact ⟨g, cp, rfl, h1, h2, h3, h4, hb⟩

theorem lies_drewN {w : World} {a : Option Addr} {l : List UInt8} (n : Nat) (h : Lies w a l) : Lies (w.drewN n) a l := h

theorem lies_tail {w : World} {g o k : Nat} {l : List UInt8} (h : Lies w (some ⟨g, o, none⟩) l) : Lies w (some ⟨g, o + k, none⟩) (l.drop k) := by
  by_cases hk : k ≤ l.length
  · exact lies_drop (l := l.take k) (by rw [List.take_append_drop]; exact h) (by simp; omega)
  · exact .inl (List.drop_eq_nil_of_le (by omega))

/-- the decoder's block, just laid -/
abbrev decV (a : Option Addr) (n c : Nat) : Obj := .cells #[.slice a n c, .pointer none, .nilIface] 29

theorem decV_cells (w : World) (a : Option Addr) (n c : Nat) : (w.alloc (decV a n c)).cell? ⟨w.heap.size, 0, none⟩ = some (.slice a n c) ∧ (w.alloc (decV a n c)).cell? ⟨w.heap.size, 2, none⟩ = some .nilIface ∧
    (w.alloc (decV a n c)).frozen? ⟨w.heap.size, 0, none⟩ = false ∧ (w.alloc (decV a n c)).frozen? ⟨w.heap.size, 2, none⟩ = false := by
  refine ⟨?_, ?_, ?_, ?_⟩ <;> simp [go_sem]

theorem mc_yes (l : List UInt8) (m : Int) (a : Option Addr) (n c v k : Nat) (w : World) (hL : Lies w a l) (hll : l.length = n) (hd : Lib.uvarintDec l = (v, (k : Int)))
    (hnc : n ≤ c) (hs : n ≤ 4096) (hgood : Good l (IntKind.u64.wrap m)) :
    Calls Ybad.prog 7 #[.pointer (some ⟨w.heap.size, 0, none⟩), .int .i64 m] (w.alloc (decV a n c)) fun e w' => e = .returned (.int .i64 (wrap64 v)) ∧
      ∃ a' c', w'.cell? ⟨w.heap.size, 0, none⟩ = some (.slice a' (n - k) c') ∧ w'.cell? ⟨w.heap.size, 2, none⟩ = some .nilIface ∧ Lies w' a' (l.drop k) ∧ Below w.heap.size w w' := by
  obtain ⟨c0, c2, f0, f2⟩ := decV_cells w a n c
  have hba : Below w.heap.size w (w.alloc (decV a n c)) := (Below.refl _ _).alloc (Nat.le_refl _) _
  have hne : l ≠ [] := by
    rintro rfl
    exact absurd hgood.1 (by decide)
  have hL1 := lies_later hL hba
  obtain ⟨g, o, ha⟩ : ∃ g o, a = some ⟨g, o, none⟩ := by
    rcases hL with h | ⟨g, o, h, _⟩
    · exact absurd h hne
    · exact ⟨g, o, h⟩
  subst ha
  refine (count_yes w.heap.size m g o n c l _ c0 c2 f0 hll hL1 hnc (by omega) hgood).mono ?_
  rintro e w' ⟨rfl, a', k0, ka, k2, kb⟩
  rw [hd] at k0 ka ⊢
  simp only [Int.toNat_natCast] at k0 ka ⊢
  refine ⟨trivial, a', c - k, k0, k2, ?_, hba.trans kb⟩
  by_cases h0 : n - k = 0
  · exact .inl (List.drop_eq_nil_of_le (by omega))
  · rw [ka h0]
    exact lies_later (lies_tail hL) (hba.trans kb)

theorem mc_no (l : List UInt8) (m : Int) (a : Option Addr) (n c : Nat) (ea : Addr) (w : World) (hL : Lies w a l) (hll : l.length = n)
    (hnc : n ≤ c) (hs : n ≤ 4096) (hE : w.cell? ⟨0, 0, none⟩ = some (.iface 39 (.pointer (some ea)))) (hpos : 0 < w.heap.size) (hgood : ¬ Good l (IntKind.u64.wrap m)) :
    Calls Ybad.prog 7 #[.pointer (some ⟨w.heap.size, 0, none⟩), .int .i64 m] (w.alloc (decV a n c)) fun e w' => e = .returned (.int .i64 0) ∧
      w'.cell? ⟨w.heap.size, 0, none⟩ = some (.slice none 0 0) ∧ w'.cell? ⟨w.heap.size, 2, none⟩ = some (.iface 39 (.pointer (some ea))) ∧ w'.cell? ⟨0, 0, none⟩ = some (.iface 39 (.pointer (some ea))) ∧ Below w.heap.size w w' := by
  obtain ⟨c0, c2, f0, f2⟩ := decV_cells w a n c
  have hba : Below w.heap.size w (w.alloc (decV a n c)) := (Below.refl _ _).alloc (Nat.le_refl _) _
  have hE' : (w.alloc (decV a n c)).cell? ⟨0, 0, none⟩ = some (.iface 39 (.pointer (some ea))) := (hba.cell (p := ⟨0, 0, none⟩) (by show 0 < _; omega)).trans hE
  refine (count_no w.heap.size ea m _ n c l _ hE' (by omega) c0 c2 f0 f2 hll (lies_later hL hba) hnc (by omega) hgood).mono ?_
  rintro e w' ⟨rfl, k0, k2, kb⟩
  exact ⟨rfl, k0, k2, ((hba.trans kb).cell (p := ⟨0, 0, none⟩) (by show 0 < _; omega)).trans hE, hba.trans kb⟩

theorem new_any (t : ByteArray) (w : World) :
    Calls Ybad.prog 6 #[.string t] w fun e w' => e = .returned (.iface 39 (.pointer (some ⟨w.heap.size, 0, none⟩))) ∧ w' = w.alloc (.cells #[.string t] 41) := by
  go_enter Ybad.func6, Ybad.ntmps6
  go_wp2
  go_ret
  exact ⟨rfl, rfl⟩

theorem clone_any (a : Option Addr) (n c : Nat) (l : List UInt8) (w : World) (hl : l.length = n) (hL : Lies w a l) (hs : n ≤ 4096) (hn : a = none → n = 0) :
    Calls Ybad.prog 5 #[.slice a n c] w fun e w' => ∃ a1 cp, e = .returned (.slice a1 n cp) ∧ n ≤ cp ∧ Lies w' a1 l ∧ Below w.heap.size w w' := by
  rcases a with _ | ad
  · obtain rfl := hn rfl
    refine (clone_nil 0 c w).mono ?_
    rintro e w' ⟨rfl, rfl⟩
    exact ⟨none, 0, rfl, Nat.le_refl _, .inl (List.length_eq_zero_iff.1 hl), Below.refl _ _⟩
  · refine (clone_some ad n c l w hl hL hs).mono ?_
    rintro e w' ⟨g, cp, rfl, h1, _, _, h4, hb⟩
    exact ⟨_, cp, rfl, h1, h4, hb⟩

/-- the world ahead of count, where an earlier error stands -/
abbrev preW (w : World) (a : Option Addr) (n c : Nat) (t : ByteArray) : World := (w.alloc (.cells #[.slice a n c, .pointer none, .iface 39 (.pointer (some ⟨w.heap.size + 1, 0, none⟩))] 29)).alloc (.cells #[.string t] 41)
theorem preW_facts (w : World) (a : Option Addr) (n c : Nat) (t : ByteArray) : (preW w a n c t).cell? ⟨w.heap.size, 2, none⟩ = some (.iface 39 (.pointer (some ⟨w.heap.size + 1, 0, none⟩))) ∧ (preW w a n c t).cell? ⟨w.heap.size, 0, none⟩ = some (.slice a n c) ∧ Below w.heap.size w (preW w a n c t) := by
  refine ⟨by simp [go_sem], by simp [go_sem], ((Below.refl _ _).alloc (Nat.le_refl _) _).alloc (by simp) _⟩

set_option maxHeartbeats 1000000 in
theorem model_pre (a : Option Addr) (n c : Nat) (m : Int) (l : List UInt8) (w : World) (hl : l.length = n) (hL : Lies w a l) (hs : n ≤ 4096) (hn : a = none → n = 0) :
    Calls Ybad.prog 3 #[.slice a n c, .int .i64 m, .bool true] w fun e w' => e = .returned (.bool true) ∧ Below w.heap.size w w' := by
  have hM := wrap_u64_nonneg m
  have HN : Hid (a = none → n = 0) := hn
  have HL : Hid (l.length = n) := hl
  clear hn hl
  go_enter Ybad.func3, Ybad.ntmps3
  go_wp2_with fail
  refine (clone_any a n c l _ HL.out hL hs HN.out).mono ?_
  rintro e w1 ⟨a1, cp, rfl, h1, h4, hb⟩
  go_wp2_with fail
  refine (new_any _ _).mono ?_
  rintro e w2 ⟨rfl, rfl⟩
  go_wp2_with fail
  obtain ⟨f2, f0, fb⟩ := preW_facts w1 a1 n cp ⟨#[101, 97, 114, 108, 105, 101, 114]⟩
  refine (count_pre _ _ m _ hM f2).mono ?_
  rintro e w3 ⟨rfl, hw3⟩
  rw [← hw3] at f2 f0 fb
  clear hw3
  have hq := eql_self ⟨w1.heap.size + 1, 0, none⟩
  have k1 : Lies w3 a1 l := lies_later h4 fb
  have k2 : Lies w3 a l := lies_later (lies_later hL hb) fb
  have kb : Below w.heap.size w w3 := hb.trans (fb.mono hb.size)
  clear h4 hL hb fb
  go_wp2_with (go_at_call 8; refine (equal_any _ _ _ _ _ l w3 HL.out (by omega) k1 k2).mono ?_; rintro e w4 ⟨rfl, q, rfl⟩)
  go_ret
  exact ⟨rfl, below_drewN kb q⟩

/-- what the walk of the law is told where count has refused -/
theorem model_no_end (w w1 w3 : World) (hb : Below w.heap.size w w1) (kb : Below w1.heap.size w1 w3) (q : Nat) : Below w.heap.size w (w3.drewN q) := below_drewN (hb.trans (kb.mono hb.size)) q

set_option maxHeartbeats 1000000 in
/-- no whole varint within 64 bits -/
theorem model_none (a : Option Addr) (n c : Nat) (m : Int) (l : List UInt8) (ea : Addr) (v : Nat) (k : Int) (w : World) (hl : l.length = n) (hL : Lies w a l) (hs : n ≤ 4096) (hn : a = none → n = 0)
    (hE : w.cell? ⟨0, 0, none⟩ = some (.iface 39 (.pointer (some ea)))) (hpos : 0 < w.heap.size) (hd : Lib.uvarintDec l = (v, k)) (hk : k ≤ 0) :
    Calls Ybad.prog 3 #[.slice a n c, .int .i64 m, .bool false] w fun e w' => e = .returned (.bool true) ∧ Below w.heap.size w w' := by
  have HN : Hid (a = none → n = 0) := hn
  have HL : Hid (l.length = n) := hl
  have HD : Hid (Lib.uvarintDec l = (v, k)) := hd
  have hgood : Hid (¬ Good l (IntKind.u64.wrap m)) := by
    rintro ⟨h, _⟩
    rw [hd] at h
    simp only [] at h
    omega
  clear hn hl hd
  go_enter Ybad.func3, Ybad.ntmps3
  go_wp2_with fail
  refine (clone_any a n c l _ HL.out hL hs HN.out).mono ?_
  rintro e w1 ⟨a1, cp, rfl, h1, h4, hb⟩
  have hE1 := (hb.cell (p := ⟨0, 0, none⟩) hpos).trans hE
  have hs1 := hb.size
  clear hE
  go_wp2_with fail
  refine (mc_no l m a1 n cp ea w1 h4 HL.out h1 hs hE1 (by omega) hgood.out).mono ?_
  rintro e w3 ⟨rfl, k0, k2, kE, kb⟩
  have k1 : Lies w3 a l := lies_later (lies_later hL hb) kb
  have q1 := eql_self ea
  have q2 := eql_nil
  clear hE1 h4 hL
  go_wp2_with fail
  refine (zz_all a n c l w3 HL.out (by omega) k1).mono ?_
  rintro e w4 ⟨he, rfl⟩
  rw [HD.out, zzR_no v k hk] at he
  subst he
  go_wp2_with fail
  go_quiet (fail)
  go_wp2
  go_ret
  exact ⟨rfl, model_no_end _ _ _ hb kb _⟩

set_option maxHeartbeats 1000000 in
/-- one byte, above max -/
theorem model_over1 (g o n c : Nat) (m : Int) (l : List UInt8) (ea : Addr) (v : Nat) (w : World) (hl : l.length = n) (hL : Lies w (some ⟨g, o, none⟩) l) (hs : n ≤ 4096) (hnc : n ≤ c)
    (hE : w.cell? ⟨0, 0, none⟩ = some (.iface 39 (.pointer (some ea)))) (hpos : 0 < w.heap.size) (hd : Lib.uvarintDec l = (v, 1)) (hkn : 1 ≤ n) (hm : IntKind.u64.wrap m < (v : Int)) :
    Calls Ybad.prog 3 #[.slice (some ⟨g, o, none⟩) n c, .int .i64 m, .bool false] w fun e w' => e = .returned (.bool true) ∧ Below w.heap.size w w' := by
  have HL : Hid (l.length = n) := hl
  have HD : Hid (Lib.uvarintDec l = (v, 1)) := hd
  have hM0 := wrap_u64_nonneg m
  have hgood : Hid (¬ Good l (IntKind.u64.wrap m)) := by
    unfold Hid Good
    rw [hd]
    rintro ⟨_, _, h⟩
    simp only [] at h
    omega
  clear hl hd
  go_enter Ybad.func3, Ybad.ntmps3
  go_wp2_with fail
  refine (clone_any (some ⟨g, o, none⟩) n c l _ HL.out hL hs (fun h => by cases h)).mono ?_
  rintro e w1 ⟨a1, cp, rfl, h1, h4, hb⟩
  have hE1 := (hb.cell (p := ⟨0, 0, none⟩) hpos).trans hE
  have hs1 := hb.size
  clear hE
  go_wp2_with fail
  refine (mc_no l m a1 n cp ea w1 h4 HL.out h1 hs hE1 (by omega) hgood.out).mono ?_
  rintro e w3 ⟨rfl, k0, k2, kE, kb⟩
  have k1 : Lies w3 (some ⟨g, o, none⟩) l := lies_later (lies_later hL hb) kb
  have q1 := eql_self ea
  have q2 := eql_nil
  clear hE1 h4 hL
  go_wp2_with fail
  refine (zz_all _ n c l w3 HL.out (by omega) k1).mono ?_
  rintro e w4 ⟨he, rfl⟩
  rw [HD.out, zzR_yes v 1 (by omega)] at he
  subst he
  go_wp2_with fail
  go_quiet (fail)
  go_wp2
  go_ret
  exact ⟨rfl, model_no_end _ _ _ hb kb _⟩

set_option maxHeartbeats 1000000 in
/-- more bytes, the last zero -/
theorem model_long (g o n c : Nat) (m : Int) (l : List UInt8) (ea : Addr) (v k : Nat) (w : World) (hl : l.length = n) (hL : Lies w (some ⟨g, o, none⟩) l) (hs : n ≤ 4096) (hnc : n ≤ c)
    (hE : w.cell? ⟨0, 0, none⟩ = some (.iface 39 (.pointer (some ea)))) (hpos : 0 < w.heap.size) (hd : Lib.uvarintDec l = (v, (k : Int))) (hk : 1 < k) (hkn : k ≤ n) (hz : (l.getD (k - 1) 0).toNat = 0) :
    Calls Ybad.prog 3 #[.slice (some ⟨g, o, none⟩) n c, .int .i64 m, .bool false] w fun e w' => e = .returned (.bool true) ∧ Below w.heap.size w w' := by
  have HL : Hid (l.length = n) := hl
  have HD : Hid (Lib.uvarintDec l = (v, (k : Int))) := hd
  have hM0 := wrap_u64_nonneg m
  have hgood : Hid (¬ Good l (IntKind.u64.wrap m)) := by
    unfold Hid Good
    rw [hd]
    rw [Int.toNat_natCast]
    rintro ⟨_, h, _⟩
    exact h ⟨by simp only []; omega, hz⟩
  have HZ : Hid ((l.getD (k - 1) 0).toNat = 0) := hz
  clear hz
  clear hl hd
  go_enter Ybad.func3, Ybad.ntmps3
  go_wp2_with fail
  refine (clone_any (some ⟨g, o, none⟩) n c l _ HL.out hL hs (fun h => by cases h)).mono ?_
  rintro e w1 ⟨a1, cp, rfl, h1, h4, hb⟩
  have hE1 := (hb.cell (p := ⟨0, 0, none⟩) hpos).trans hE
  have hs1 := hb.size
  clear hE
  go_wp2_with fail
  refine (mc_no l m a1 n cp ea w1 h4 HL.out h1 hs hE1 (by omega) hgood.out).mono ?_
  rintro e w3 ⟨rfl, k0, k2, kE, kb⟩
  have k1 : Lies w3 (some ⟨g, o, none⟩) l := lies_later (lies_later hL hb) kb
  have q1 := eql_self ea
  have q2 := eql_nil
  clear hE1 h4 hL
  go_wp2_with fail
  refine (zz_all _ n c l w3 HL.out (by omega) k1).mono ?_
  rintro e w4 ⟨he, rfl⟩
  rw [HD.out, zzR_yes v (k : Int) (by omega)] at he
  subst he
  have kz := lies_at k1 (k - 1) (by rw [HL.out]; omega)
  rw [HZ.out] at kz
  go_wp2_with fail
  go_quiet (fail)
  go_wp2
  go_ret
  exact ⟨rfl, model_no_end _ _ _ hb kb _⟩

set_option maxHeartbeats 1000000 in
/-- more bytes, above max -/
theorem model_over2 (g o n c : Nat) (m : Int) (l : List UInt8) (ea : Addr) (v k : Nat) (w : World) (hl : l.length = n) (hL : Lies w (some ⟨g, o, none⟩) l) (hs : n ≤ 4096) (hnc : n ≤ c)
    (hE : w.cell? ⟨0, 0, none⟩ = some (.iface 39 (.pointer (some ea)))) (hpos : 0 < w.heap.size) (hd : Lib.uvarintDec l = (v, (k : Int))) (hk : 1 < k) (hkn : k ≤ n) (hz : (l.getD (k - 1) 0).toNat ≠ 0) (hm : IntKind.u64.wrap m < (v : Int)) :
    Calls Ybad.prog 3 #[.slice (some ⟨g, o, none⟩) n c, .int .i64 m, .bool false] w fun e w' => e = .returned (.bool true) ∧ Below w.heap.size w w' := by
  have HL : Hid (l.length = n) := hl
  have HD : Hid (Lib.uvarintDec l = (v, (k : Int))) := hd
  have hM0 := wrap_u64_nonneg m
  have hgood : Hid (¬ Good l (IntKind.u64.wrap m)) := by
    unfold Hid Good
    rw [hd]
    rw [Int.toNat_natCast]
    rintro ⟨_, _, h⟩
    simp only [] at h
    omega
  have HZ : Hid ((l.getD (k - 1) 0).toNat ≠ 0) := hz
  clear hz
  clear hl hd
  go_enter Ybad.func3, Ybad.ntmps3
  go_wp2_with fail
  refine (clone_any (some ⟨g, o, none⟩) n c l _ HL.out hL hs (fun h => by cases h)).mono ?_
  rintro e w1 ⟨a1, cp, rfl, h1, h4, hb⟩
  have hE1 := (hb.cell (p := ⟨0, 0, none⟩) hpos).trans hE
  have hs1 := hb.size
  clear hE
  go_wp2_with fail
  refine (mc_no l m a1 n cp ea w1 h4 HL.out h1 hs hE1 (by omega) hgood.out).mono ?_
  rintro e w3 ⟨rfl, k0, k2, kE, kb⟩
  have k1 : Lies w3 (some ⟨g, o, none⟩) l := lies_later (lies_later hL hb) kb
  have q1 := eql_self ea
  have q2 := eql_nil
  clear hE1 h4 hL
  go_wp2_with fail
  refine (zz_all _ n c l w3 HL.out (by omega) k1).mono ?_
  rintro e w4 ⟨he, rfl⟩
  rw [HD.out, zzR_yes v (k : Int) (by omega)] at he
  subst he
  have kz := lies_at k1 (k - 1) (by rw [HL.out]; omega)
  have kz0 : (((l.getD (k - 1) 0).toNat : Int) == 0) = false := by rw [beq_eq_false_iff_ne]; have := HZ.out; omega
  generalize ((l.getD (k - 1) 0).toNat : Int) = z at kz kz0
  go_wp2_with fail
  go_quiet (fail)
  go_wp2
  go_ret
  exact ⟨rfl, model_no_end _ _ _ hb kb _⟩
end Go.Proofs.YbulkcqkuDoor
