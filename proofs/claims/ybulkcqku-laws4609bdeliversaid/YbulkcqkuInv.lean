/-
  THE INVARIANT: what the network holds behind some sends; send keeps it.
-/
import Derived.Test.YbulkcqkuSend
namespace Go.Proofs.Ybulkcqku
open Go.RowKit Go.Maps
set_option linter.unusedVariables false

theorem ownsMap_below {w w' : World} {B mb m : Nat} {D : DataW Value} (h : w.ownsMap Yba.prog 3 RV mb m D) (hb : Below B w w') (hm : mb < B) : w'.ownsMap Yba.prog 3 RV mb m D := by
  obtain ⟨es, clock, h1, h2⟩ := h
  exact ⟨es, clock, (hb.block mb hm).trans h1, h2⟩

theorem ownsRow_block {w w' : World} {base n : Nat} {v : Value} {xs : List Value} (h : w.ownsRow base 64 4 v n xs) (hb : ∀ g, v.ownBlock = some g → w'.heap[g]? = w.heap[g]?) : w'.ownsRow base 64 4 v n xs := by
  obtain ⟨h1, h2⟩ := h
  refine ⟨h1, ?_⟩
  rcases h2 with h2 | ⟨g, cap, cur, e, hg, hh, r⟩
  · exact .inl h2
  · subst e
    exact .inr ⟨g, cap, cur, rfl, hg, (hb g rfl).trans hh, r⟩

theorem ownsRow_lt {w : World} {base n : Nat} {v : Value} {xs : List Value} (h : w.ownsRow base 64 4 v n xs) {g : Nat} (hg : v.ownBlock = some g) : base ≤ g ∧ g < w.heap.size := h.lt g hg

theorem Net.below {w w' : World} {B nb mb m : Nat} {D : DataW Value} (h : Net w nb mb m D) (hb : Below B w w') (h1 : nb < B) (h2 : mb < B) : Net w' nb mb m D :=
  ⟨(hb.cell (p := ⟨nb, 0, none⟩) h1).trans h.gst, (hb.cell (p := ⟨nb, 1, none⟩) h1).trans h.maxd, (hb.cell (p := ⟨nb, 3, none⟩) h1).trans h.due, ownsMap_below h.own hb h2⟩

/-- What the network holds. -/
structure InvAt (w wr : World) (nb mb base k : Nat) (ss : List Snd) (D : DataW Value) (V : Int → Value) : Prop where
  net : Net wr nb mb k D
  at_ : ∀ r, 0 ≤ r → r ≤ 4 → At D r (V r)
  own : ∀ r, 0 ≤ r → r ≤ 4 → wr.ownsRow base 64 4 (V r) (grp ss r).length (cells (grp ss r))
  apart : ∀ r r', 0 ≤ r → r ≤ 4 → 0 ≤ r' → r' ≤ 4 → r ≠ r' → ∀ g, (V r).ownBlock = some g → (V r').ownBlock ≠ some g
  size : base ≤ wr.heap.size
  bel : Below w.heap.size w wr
  ne : nb ≠ mb
  nlt : nb < base
  mlt : mb < base
  nge : w.heap.size ≤ nb
  mge : w.heap.size ≤ mb

theorem InvAt.later {w wr w' : World} {nb mb base k : Nat} {ss : List Snd} {D : DataW Value} {V : Int → Value} (h : InvAt w wr nb mb base k ss D V) (hb : Below wr.heap.size wr w') : InvAt w w' nb mb base k ss D V := by
  have hs := hb.size
  have h1 := h.size
  have h2 := h.nlt
  have h3 := h.mlt
  refine ⟨h.net.below hb (by omega) (by omega), h.at_, fun r r0 r1 => ownsRow_block (h.own r r0 r1) (fun g hg => hb.block g (ownsRow_lt (h.own r r0 r1) hg).2), h.apart, by omega, h.bel.trans (hb.mono h.bel.size), h.ne, h.nlt, h.mlt, h.nge, h.mge⟩

theorem InvAt.start {w : World} : InvAt w ((w.alloc (.map #[] 0)).alloc (.cells #[.int .i64 0, .int .i64 0, .pointer none, .map (some w.heap.size)] 54)) (w.heap.size + 1) w.heap.size (w.heap.size + 2) 0 [] (.map []) (fun _ => .slice none 0 0) := by
  refine ⟨⟨by simp [go_sem], by simp [go_sem], by simp [go_sem], ?_⟩, fun r _ _ => rfl, fun r _ _ => ⟨rfl, .inl ⟨rfl, rfl⟩⟩, ?_, by simp, ((Below.refl _ _).alloc (Nat.le_refl _) _).alloc (by simp) _, by omega, by omega, by omega, by omega, by omega⟩
  · exact (World.ownsMap_made w Yba.prog 3 RV).alloc _
  · intro r r' _ _ _ _ _ g hg
    simp [Value.ownBlock] at hg

theorem send_any (w wr : World) (nb mb base k : Nat) (ss : List Snd) (D : DataW Value) (V : Int → Value) (s : Snd) (h : InvAt w wr nb mb base k ss D V) (hk : k ≤ 1024) (hl : ss.length ≤ 1024) :
    Calls Yba.prog 8 #[.pointer (some ⟨nb, 0, none⟩), .int .i64 s.r4, .int .i64 s.frm, .int .i64 s.dst, .slice s.da s.dn s.dc, .bool s.cnt] wr fun e w' => e = .returned (.tuple #[]) ∧
      ∃ D' V', InvAt w w' nb mb base (k + 1) (ss ++ [s]) D' V' := by
  have hr := s.r4_bd
  have hown := h.own s.r4 hr.1 (by omega)
  have hv := h.at_ s.r4 hr.1 (by omega)
  have hle := grp_le ss s.r4
  have h1 := h.size
  have h2 := h.nlt
  have h3 := h.mlt
  have ag : (V s.r4).ownBlock ≠ some nb := fun e => by have := (ownsRow_lt hown e).1; omega
  have am : (V s.r4).ownBlock ≠ some mb := fun e => by have := (ownsRow_lt hown e).1; omega
  have key : Calls Yba.prog 8 #[.pointer (some ⟨nb, 0, none⟩), .int .i64 s.r4, .int .i64 s.frm, .int .i64 s.dst, .slice s.da s.dn s.dc, .bool s.cnt] wr fun e w' => e = .returned (.tuple #[]) ∧
      ∃ g cap w1, w1.ownsRow base 64 4 (.slice (some ⟨g, 0, none⟩) ((grp ss s.r4).length + 1) cap) ((grp ss s.r4).length + 1) (cells (grp ss s.r4) ++ [.int .i64 s.dst, .int .i64 s.frm, .slice s.da s.dn s.dc, .bool s.cnt]) ∧ ((V s.r4).ownBlock = some g ∨ g = wr.heap.size + 1) ∧ g < w1.heap.size ∧
        (wr.alloc (.cells #[.int .i64 s.dst, .int .i64 s.frm, .slice s.da s.dn s.dc, .bool s.cnt] 64)).drew.grownBy w1 (V s.r4).ownBlock ∧ w'.ownsMap Yba.prog 3 RV mb (k + 1) (D.put (.int .i64 s.r4) (.held (.slice (some ⟨g, 0, none⟩) ((grp ss s.r4).length + 1) cap))) ∧ w1.grownBy w' (some mb) := by
    cases hft : (s.dst != s.frm)
    · exact send_core nb mb k base _ D s.r4 s.frm s.dst s.da s.dn s.dc s.cnt _ _ wr h.net hr.1 (by omega) hv h.ne hown h.size (by omega) hk ag am hft
    · exact send_other nb mb k base _ D s.r4 s.frm s.dst s.da s.dn s.dc s.cnt _ _ wr h.net hr.1 (by omega) hv h.ne hown h.size (by omega) hk ag am hft
  refine key.mono ?_
  rintro e w' ⟨rfl, g, cap, w1, o1, hat, hlt, hg1, om, hg2⟩
  refine ⟨rfl, D.put (.int .i64 s.r4) (.held (.slice (some ⟨g, 0, none⟩) ((grp ss s.r4).length + 1) cap)), fun r => if r = s.r4 then .slice (some ⟨g, 0, none⟩) ((grp ss s.r4).length + 1) cap else V r, ?_⟩
  have z1 := hg1.size
  have z2 := hg2.size
  simp at z1
  -- a block of the old world that is neither the row nor the map is as it was
  have hold : ∀ b, b < wr.heap.size → some b ≠ (V s.r4).ownBlock → b ≠ mb → w'.heap[b]? = wr.heap[b]? := by
    intro b hb hne hbm
    rw [hg2.block b (by omega) (by simpa using hbm), hg1.block b (by simp; omega) hne]
    exact Below.heap_alloc wr _ b hb
  have hgb : base ≤ g := by
    rcases hat with e | e
    · exact (ownsRow_lt hown e).1
    · omega
  have hbel : Below wr.heap.size wr (wr.alloc (.cells #[.int .i64 s.dst, .int .i64 s.frm, .slice s.da s.dn s.dc, .bool s.cnt] 64)).drew := ((Below.refl _ _).alloc (Nat.le_refl _) _).drew
  have hbw : Below w.heap.size w w' := by
    have q1 : Below w.heap.size w (wr.alloc (.cells #[.int .i64 s.dst, .int .i64 s.frm, .slice s.da s.dn s.dc, .bool s.cnt] 64)).drew := h.bel.trans (hbel.mono h.bel.size)
    have q2 := q1.grown hg1 q1.size (fun b hb => by have := (ownsRow_lt hown hb).1; have := h.nge; omega)
    exact q2.grown hg2 q2.size (fun b hb => by cases hb; exact h.mge)
  have hcell : ∀ o, w'.cell? ⟨nb, o, none⟩ = wr.cell? ⟨nb, o, none⟩ := fun o => World.cell?_of_block (hold nb (by omega) (Ne.symm ag) h.ne)
  refine ⟨⟨(hcell 0).trans h.net.gst, (hcell 1).trans h.net.maxd, (hcell 3).trans h.net.due, om⟩, ?_, ?_, ?_, by omega, hbw, h.ne, h.nlt, h.mlt, h.nge, h.mge⟩
  · intro r r0 r1
    by_cases e : r = s.r4
    · simp only [e, if_true]
      exact atKey_put_same h.net.own.isMap (by simp [WideAt.IsKeyLit]) _ _
    · simp only [e, if_false]
      unfold At
      rw [atKey_put_other (by simpa using e)]
      exact h.at_ r r0 r1
  · intro r r0 r1
    by_cases e : r = s.r4
    · simp only [e, if_true]
      rw [grp_snoc_same _ _ _ rfl, cells_snoc]
      simp only [List.length_append, List.length_cons, List.length_nil]
      exact ownsRow_block o1 (fun b hb => hg2.block b (by cases hb; exact hlt) (by cases hb; simp; omega))
    · simp only [e, if_false]
      rw [grp_snoc_other _ _ _ (fun e' => e e'.symm)]
      refine ownsRow_block (h.own r r0 r1) (fun b hb => ?_)
      have hb1 := ownsRow_lt (h.own r r0 r1) hb
      refine hold b hb1.2 ?_ (by omega)
      intro e2
      exact h.apart r s.r4 r0 r1 hr.1 (by omega) e b hb e2.symm
  · intro r r' r0 r1 r0' r1' hne b hb
    by_cases e : r = s.r4
    · have e' : r' ≠ s.r4 := fun x => hne (e.trans x.symm)
      simp only [e, if_true, Value.ownBlock, Option.some.injEq] at hb
      simp only [e', if_false]
      subst hb
      intro hb2
      have hb1 := ownsRow_lt (h.own r' r0' r1') hb2
      rcases hat with x | x
      · exact h.apart s.r4 r' hr.1 (by omega) r0' r1' (Ne.symm e') g x hb2
      · omega
    · simp only [e, if_false] at hb
      by_cases e' : r' = s.r4
      · simp only [e', if_true, Value.ownBlock]
        intro hb2
        simp only [Option.some.injEq] at hb2
        subst hb2
        have hb1 := ownsRow_lt (h.own r r0 r1) hb
        rcases hat with x | x
        · exact h.apart r s.r4 r0 r1 hr.1 (by omega) e _ hb x
        · omega
      · simp only [e', if_false]
        exact h.apart r r' r0 r1 r0' r1' hne b hb
end Go.Proofs.Ybulkcqku
