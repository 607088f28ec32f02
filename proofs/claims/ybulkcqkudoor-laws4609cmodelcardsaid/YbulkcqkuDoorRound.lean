/-
  THE WALK OF LawS4609CRoundTrip.
-/
import Derived.Test.YbulkcqkuDoorWalks
import Derived.Laws.AppendOwnNone
import Derived.Lib.SmallJoins
namespace Go.Proofs.YbulkcqkuDoor
open Go.RowKit
set_option linter.unusedVariables false

theorem lies_later {w w' : World} {a : Option Addr} {l : List UInt8} (h : Lies w a l) (hb : Below w.heap.size w w') : Lies w' a l := by
  rcases h with h | ⟨g, o, e, hc⟩
  · exact .inl h
  · exact .inr ⟨g, o, e, fun j hj => cell_later hb (hc j hj)⟩

theorem lies_under {w w' : World} {g o B : Nat} {l : List UInt8} (h : Lies w (some ⟨g, o, none⟩) l) (hb : Below B w w') (hg : g < B) : Lies w' (some ⟨g, o, none⟩) l := by
  rcases h with h | ⟨g', o', e, hc⟩
  · exact .inl h
  · simp only [Option.some.injEq, Addr.mk.injEq, and_true] at e
    obtain ⟨rfl, rfl⟩ := e
    exact .inr ⟨g, o, rfl, fun j hj => by rw [hb.cell (p := ⟨g, o + j, none⟩) hg]; exact hc j hj⟩

theorem own_lies {w : World} {base n : Nat} {v : Value} {l : List UInt8} (h : w.ownsRow base 5 1 v n (Lib.byteCells l)) (hn : 0 < n) :
    ∃ g c, v = .slice (some ⟨g, 0, none⟩) n c ∧ base ≤ g ∧ g < w.heap.size ∧ n ≤ c ∧ Lies w (some ⟨g, 0, none⟩) l ∧ l.length = n := by
  have hlen : l.length = n := by simpa [Lib.byteCells] using h.1
  have hA := h
  rcases h.2 with ⟨_, h0⟩ | ⟨g, cap, cur, rfl, hb, hg, hnc, _, _, _⟩
  · omega
  · have hlt : g < w.heap.size := by
      rcases Nat.lt_or_ge g w.heap.size with h' | h'
      · exact h'
      · simp [Array.getElem?_eq_none h'] at hg
    refine ⟨g, cap, rfl, hb, hlt, hnc, .inr ⟨g, 0, rfl, fun j hj => ?_⟩, hlen⟩
    have := hA.cellAt j (by omega)
    rw [Nat.zero_add, this]
    simp [Lib.byteCells, List.getElem?_eq_getElem hj]

theorem info5 : (Ybad.prog.info? 5).map (fun i => (i.zero, i.size, i.bytes)) = some (some (.int .u8 0), 1, 1) := by kernel_rfl

theorem news_lie {w : World} {ad : Addr} {l : List UInt8} (h : Lies w (some ad) l) : ∀ j u, (Lib.byteCells l)[j]? = some u → w.cell? (ad.add j) = some u := by
  intro j u hj
  have hlt : j < l.length := by
    have := (List.getElem?_eq_some_iff.1 hj).1
    simpa [Lib.byteCells] using this
  rcases h with rfl | ⟨g, o, e, hc⟩
  · simp at hlt
  · simp only [Option.some.injEq] at e
    subst e
    have := hc j hlt
    rw [Addr.add_lit, this]
    rw [← hj]
    simp [Lib.byteCells, List.getElem?_eq_getElem hlt]

theorem own_block {w : World} {base n : Nat} {v : Value} {xs : List Value} (h : w.ownsRow base 5 1 v n xs) {k : Nat} (hk : v.ownBlock = some k) : base ≤ k := (h.lt k hk).1

theorem bytes_app (l r : List UInt8) : Lib.byteCells (l ++ r) = Lib.byteCells l ++ Lib.byteCells r := by simp [Lib.byteCells]

/-- slices.Equal of two slices that hold the same bytes, of whatever length. -/
theorem equal_any (a1 a2 : Option Addr) (n c d : Nat) (l : List UInt8) (w : World) (hl : l.length = n) (hbig : n ≤ 9223372036854775807) (h1 : Lies w a1 l) (h2 : Lies w a2 l) :
    Calls Ybad.prog 8 #[.slice a1 n c, .slice a2 n d] w fun e w' => e = .returned (.bool true) ∧ ∃ q, w' = w.drewN q := by
  by_cases h0 : n = 0
  · subst h0
    exact equal_zero a1 a2 c d w
  · rcases h1 with rfl | ⟨g1, o1, rfl, hc1⟩
    · simp at hl; omega
    · rcases h2 with rfl | ⟨g2, o2, rfl, hc2⟩
      · simp at hl; omega
      · refine equal_same g1 o1 n c g2 o2 d (fun j => ((l.getD j 0).toNat : Int)) w hbig (fun j hj => ?_) (fun j hj => ?_)
        · have := hc1 j (by omega)
          simpa [List.getD, List.getElem?_eq_getElem (show j < l.length by omega)] using this
        · have := hc2 j (by omega)
          simpa [List.getD, List.getElem?_eq_getElem (show j < l.length by omega)] using this

theorem lies_drop {w : World} {g o k : Nat} {l r : List UInt8} (h : Lies w (some ⟨g, o, none⟩) (l ++ r)) (hk : l.length = k) : Lies w (some ⟨g, o + k, none⟩) r := by
  by_cases hr : r = []
  · exact .inl hr
  · refine .inr ⟨g, o + k, rfl, fun j hj => ?_⟩
    have := lies_at h (k + j) (by rw [List.length_append]; omega)
    rw [← Nat.add_assoc] at this
    rw [this]
    simp [List.getD, List.getElem?_append_right (show l.length ≤ k + j by omega), hk, List.getElem?_eq_getElem hj]

/-- the decoder's block, just laid -/
abbrev dec (g n c : Nat) : Obj := .cells #[.slice (some ⟨g, 0, none⟩) n c, .pointer none, .nilIface] 29

theorem dec_cells (w : World) (g n c : Nat) : (w.alloc (dec g n c)).cell? ⟨w.heap.size, 0, none⟩ = some (.slice (some ⟨g, 0, none⟩) n c) ∧ (w.alloc (dec g n c)).cell? ⟨w.heap.size, 2, none⟩ = some .nilIface ∧
    (w.alloc (dec g n c)).frozen? ⟨w.heap.size, 0, none⟩ = false ∧ (w.alloc (dec g n c)).frozen? ⟨w.heap.size, 2, none⟩ = false := by
  refine ⟨?_, ?_, ?_, ?_⟩ <;> simp [go_sem]

theorem rt_yes (v : Nat) (hv : v < 18446744073709551616) (l : List UInt8) (m : Int) (g n c len : Nat) (w : World) (hg : g < w.heap.size) (hLg : Lies w (some ⟨g, 0, none⟩) (Lib.uvarint v ++ l)) (hll : l.length = len)
    (hn : n = (Lib.uvarint v).length + len) (hnc : n ≤ c) (hs : len ≤ 4096) (hm : (v : Int) ≤ IntKind.u64.wrap m) :
    Calls Ybad.prog 7 #[.pointer (some ⟨w.heap.size, 0, none⟩), .int .i64 m] (w.alloc (dec g n c)) fun e w' => e = .returned (.int .i64 (wrap64 v)) ∧
      ∃ a' c', w'.cell? ⟨w.heap.size, 0, none⟩ = some (.slice a' len c') ∧ w'.cell? ⟨w.heap.size, 2, none⟩ = some .nilIface ∧ Lies w' a' l ∧ Below w.heap.size w w' := by
  obtain ⟨c0, c2, f0, f2⟩ := dec_cells w g n c
  have hd := dec_uvarint v l hv
  have h10 := Lib.uvarint_length64 hv
  have h1 := Lib.uvarint_pos v
  have hba : Below w.heap.size w (w.alloc (dec g n c)) := (Below.refl _ _).alloc (Nat.le_refl _) _
  have hgood : Good (Lib.uvarint v ++ l) (IntKind.u64.wrap m) := by
    unfold Good
    rw [hd]
    refine ⟨by simp only []; omega, ?_, hm⟩
    rintro ⟨h2, h3⟩
    simp only [] at h2 h3
    obtain ⟨x, hx, hx0⟩ := uvarint_last64 v hv (by omega)
    rw [Int.toNat_natCast] at h3
    apply hx0
    rw [← h3]
    simp [List.getD, List.getElem?_append_left (show (Lib.uvarint v).length - 1 < (Lib.uvarint v).length by omega), hx]
  refine (count_yes w.heap.size m g 0 n c (Lib.uvarint v ++ l) _ c0 c2 f0 (by rw [List.length_append]; omega) (lies_under hLg hba hg) hnc (by omega) hgood).mono ?_
  rintro e w' ⟨rfl, a', k0, ka, k2, kb⟩
  rw [hd] at k0 ka ⊢
  simp only [Int.toNat_natCast] at k0 ka ⊢
  refine ⟨trivial, a', c - (Lib.uvarint v).length, ?_, k2, ?_, hba.trans kb⟩
  · rw [k0]
    congr 3
    omega
  · by_cases h0 : l = []
    · exact .inl h0
    · have hlp : 0 < l.length := List.length_pos_iff.2 h0
      rw [ka (by omega)]
      exact lies_under (lies_drop (o := 0) hLg rfl) (hba.trans kb) hg

theorem rt_no (v : Nat) (hv : v < 18446744073709551616) (l : List UInt8) (m : Int) (g n c len : Nat) (ea : Addr) (w : World) (hg : g < w.heap.size) (hLg : Lies w (some ⟨g, 0, none⟩) (Lib.uvarint v ++ l)) (hll : l.length = len)
    (hn : n = (Lib.uvarint v).length + len) (hnc : n ≤ c) (hs : len ≤ 4096) (hE : w.cell? ⟨0, 0, none⟩ = some (.iface 39 (.pointer (some ea)))) (hm : IntKind.u64.wrap m < (v : Int)) :
    Calls Ybad.prog 7 #[.pointer (some ⟨w.heap.size, 0, none⟩), .int .i64 m] (w.alloc (dec g n c)) fun e w' => e = .returned (.int .i64 0) ∧
      w'.cell? ⟨w.heap.size, 0, none⟩ = some (.slice none 0 0) ∧ w'.cell? ⟨w.heap.size, 2, none⟩ = some (.iface 39 (.pointer (some ea))) ∧ w'.cell? ⟨0, 0, none⟩ = some (.iface 39 (.pointer (some ea))) ∧ Below w.heap.size w w' := by
  obtain ⟨c0, c2, f0, f2⟩ := dec_cells w g n c
  have hd := dec_uvarint v l hv
  have h10 := Lib.uvarint_length64 hv
  have hba : Below w.heap.size w (w.alloc (dec g n c)) := (Below.refl _ _).alloc (Nat.le_refl _) _
  have hgood : ¬ Good (Lib.uvarint v ++ l) (IntKind.u64.wrap m) := by
    unfold Good
    rw [hd]
    rintro ⟨_, _, h⟩
    simp only [] at h
    omega
  have hE' : (w.alloc (dec g n c)).cell? ⟨0, 0, none⟩ = some (.iface 39 (.pointer (some ea))) := (hba.cell (p := ⟨0, 0, none⟩) (by show 0 < _; omega)).trans hE
  refine (count_no w.heap.size ea m _ n c (Lib.uvarint v ++ l) _ hE' (by omega) c0 c2 f0 f2 (by rw [List.length_append]; omega) (lies_under hLg hba hg) hnc (by omega) hgood).mono ?_
  rintro e w' ⟨rfl, k0, k2, kb⟩
  exact ⟨rfl, k0, k2, ((hba.trans kb).cell (p := ⟨0, 0, none⟩) (by show 0 < _; omega)).trans hE, hba.trans kb⟩

theorem comp39 : (Ybad.prog.info? 39).map (·.comparable) = some true := by kernel_rfl
theorem size41 : (Ybad.prog.info? 41).map (·.size) = some 1 := by kernel_rfl

/-- '==' of an error of errors.New's make with itself. -/
theorem eql_self (ea : Addr) (w : World) : (binOp .eql 27 (.iface 39 (.pointer (some ea))) (.iface 39 (.pointer (some ea)))).run Ybad.prog w = .ok (.bool true) w := by
  obtain ⟨i, hi, hc⟩ := Option.map_eq_some_iff.1 comp39
  obtain ⟨j, hj, _⟩ := Option.map_eq_some_iff.1 size41
  exact run_eql_iface_ptr_same w ea Ybad.underlying27 Ybad.underlying39 hi hc hj

theorem eql_nil (w : World) : (binOp .eql 22 (.slice none 0 0) (.slice none 0 0)).run Ybad.prog w = .ok (.bool true) w :=
  Lib.run_eql_slice_nil w _ _ none 0 0 0 0 Ybad.underlying22


set_option maxHeartbeats 1000000 in
theorem round_walk (v : Nat) (hv : v < 18446744073709551616) (a : Option Addr) (len cap : Nat) (m : Int) (l : List UInt8) (ea : Addr) (w : World)
    (hl : l.length = len) (hL : Lies w a l) (hlc : len ≤ cap) (hn : a = none → cap = 0) (hE : w.cell? ⟨0, 0, none⟩ = some (.iface 39 (.pointer (some ea)))) (hpos : 0 < w.heap.size) (hs : len ≤ 4096) :
    Calls Ybad.prog 4 #[.int .u64 v, .slice a len cap, .int .i64 m] w fun e w' => e = .returned (.bool true) ∧ Below w.heap.size w w' := by
  obtain ⟨i0, hi, hz0, hz1, hz2⟩ := info_parts info5
  have hL1 := Lib.uvarint_length64 hv
  have hL2 := Lib.uvarint_pos v
  rcases a with _ | ad
  · obtain rfl : cap = 0 := hn rfl
    obtain rfl : len = 0 := by omega
    have hl0 : l = [] := List.length_eq_zero_iff.1 hl
    subst hl0
    go_enter Ybad.func4, Ybad.ntmps4
    go_wp2_with fail
    refine (Ybad.binary_AppendUvarint w.heap.size 0 v hv (.slice none 0 0) [] _ (World.ownsRow_nil _ _ _ _) (Nat.le_refl _) (by omega)).mono ?_
    rintro e w1 ⟨v1, rfl, hown1, hb1⟩
    simp only [Nat.zero_add, List.nil_append] at hown1
    have hb2 : Below w.heap.size w w1 := hb1
    obtain ⟨g, c, hv2, hg1, hg2, hgc, hLg, hLl⟩ := own_lies hown1 (by omega)
    rw [← List.append_nil (Lib.uvarint v)] at hLg
    have hLt := lies_later hL hb2
    have hE2 : w1.cell? ⟨0, 0, none⟩ = some (.iface 39 (.pointer (some ea))) := (hb2.cell (p := ⟨0, 0, none⟩) hpos).trans hE
    have hs2 := hb2.size
    rw [hv2]
    have Hown : Hid (w1.ownsRow w.heap.size 5 1 (.slice (some ⟨g, 0, none⟩) (Lib.uvarint v).length c) (Lib.uvarint v).length (Lib.byteCells (Lib.uvarint v))) := hv2 ▸ hown1
    clear hown1 hv2 hE
    go_wp2_with (at_builtin; refine wpList_append_own_none rfl _ _ 22 rfl w.heap.size 5 i0 1 Ybad.underlying22 hi _ _ _ rfl Hown.out rfl ?_)
    by_cases hm : (v : Int) ≤ IntKind.u64.wrap m
    · refine (rt_yes v hv [] m g _ c 0 w1 hg2 hLg rfl (by omega) hgc (by omega) hm).mono ?_
      rintro e w3 ⟨rfl, a3, c3, k0, k2, kL, kb⟩
      have hLt3 : Lies w3 none [] := lies_later hLt kb
      have kbw : Below w.heap.size w w3 := hb2.trans (kb.mono hs2)
      clear hb1 hb2 kb hLg hLt hL
      go_wp2_with (go_at_call 8; refine (equal_any _ _ _ _ _ [] w3 rfl (by omega) kL hLt3).mono ?_; rintro e w4 ⟨rfl, q, rfl⟩)
      go_ret
      exact ⟨rfl, below_drewN kbw q⟩
    · refine (rt_no v hv [] m g _ c 0 ea w1 hg2 hLg rfl (by omega) hgc (by omega) hE2 (by omega)).mono ?_
      rintro e w3 ⟨rfl, k0, k2, kE, kb⟩
      have kbw : Below w.heap.size w w3 := hb2.trans (kb.mono hs2)
      have q1 := eql_self ea
      have q2 := eql_nil
      clear hb1 hb2 kb hLg hLt hL
      go_wp2_with fail
      go_quiet (fail)
      go_wp2
      go_ret
      exact ⟨rfl, below_drewN kbw _⟩
  · go_enter Ybad.func4, Ybad.ntmps4
    go_wp2_with fail
    refine (Ybad.binary_AppendUvarint w.heap.size 0 v hv (.slice none 0 0) [] _ (World.ownsRow_nil _ _ _ _) (Nat.le_refl _) (by omega)).mono ?_
    rintro e w1 ⟨v1, rfl, hown1, hb1⟩
    simp only [Nat.zero_add, List.nil_append] at hown1
    go_wp2_with (at_builtin; refine wpList_append_own _ rfl _ _ 22 rfl w.heap.size 5 i0 (.int .u8 0) 1 1 Ybad.underlying22 hi hz0 hz1 hz2 rfl (by decide) _ _ _ rfl hown1 ad len cap (Lib.byteCells l) rfl ?c1 ?c2 ?c3 ?c4 ?c5 ?c6 ?_)
    case c1 => simp [Lib.byteCells, hl]
    case c2 => exact news_lie (lies_later hL hb1)
    case c3 => intro u hu; obtain ⟨x, _, rfl⟩ := List.mem_map.1 hu; rfl
    case c4 => unfold maxLen; omega
    case c5 => omega
    case c6 => exact hb1.size
    intro v2 w2 hown2 hgrow _
    have hb2 : Below w.heap.size w w2 := hb1.grown hgrow hb1.size (fun k hk => own_block hown1 hk)
    rw [← bytes_app] at hown2
    obtain ⟨g, c, hv2, hg1, hg2, hgc, hLg, hLl⟩ := own_lies hown2 (by omega)
    have hLt := lies_later hL hb2
    have hE2 : w2.cell? ⟨0, 0, none⟩ = some (.iface 39 (.pointer (some ea))) := (hb2.cell (p := ⟨0, 0, none⟩) hpos).trans hE
    have hs2 := hb2.size
    rw [hv2]
    clear hown1 hown2 hv2 hE
    go_wp2_with fail
    by_cases hm : (v : Int) ≤ IntKind.u64.wrap m
    · refine (rt_yes v hv l m g _ c len w2 hg2 hLg hl (by omega) hgc (by omega) hm).mono ?_
      rintro e w3 ⟨rfl, a3, c3, k0, k2, kL, kb⟩
      have hLt3 : Lies w3 (some ad) l := lies_later hLt kb
      have kbw : Below w.heap.size w w3 := hb2.trans (kb.mono hs2)
      clear hb1 hb2 kb hLg hLt hL
      go_wp2_with (go_at_call 8; refine (equal_any _ _ _ _ _ l w3 hl (by omega) kL hLt3).mono ?_; rintro e w4 ⟨rfl, q, rfl⟩)
      go_ret
      exact ⟨rfl, below_drewN kbw q⟩
    · refine (rt_no v hv l m g _ c len ea w2 hg2 hLg hl (by omega) hgc (by omega) hE2 (by omega)).mono ?_
      rintro e w3 ⟨rfl, k0, k2, kE, kb⟩
      have kbw : Below w.heap.size w w3 := hb2.trans (kb.mono hs2)
      have q1 := eql_self ea
      have q2 := eql_nil
      clear hb1 hb2 kb hLg hLt hL
      go_wp2_with fail
      go_quiet (fail)
      go_wp2
      go_ret
      exact ⟨rfl, below_drewN kbw _⟩
end Go.Proofs.YbulkcqkuDoor
