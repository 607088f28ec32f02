/-
  THE WALK OF LawS4609BDeliver.
-/
import Derived.Test.YbulkcqkuInv
namespace Go.Proofs.Ybulkcqku
open Go.RowKit Go.Maps
set_option linter.unusedVariables false

theorem take_snoc' {ss : List Snd} {k : Nat} {s : Snd} (h : ss[k]? = some s) : ss.take (k + 1) = ss.take k ++ [s] := by rw [List.take_add_one, h]; rfl

theorem grp_at {ss : List Snd} {k : Nat} {s : Snd} {r : Int} (h : ss[k]? = some s) (hr : s.r4 = r) : (grp ss r)[(grp (ss.take k) r).length]? = some s := by
  have e : ss = ss.take k ++ s :: ss.drop (k + 1) := by
    obtain ⟨hk, hs⟩ := List.getElem?_eq_some_iff.1 h
    rw [← hs, ← List.drop_eq_getElem_cons hk, List.take_append_drop]
  have e2 : grp ss r = grp (ss.take k) r ++ s :: grp (ss.drop (k + 1)) r := by
    rw [e]
    unfold grp
    rw [List.filter_append, ← e, List.filter_cons]
    simp [hr]
  rw [e2]
  simp

theorem row_form {w : World} {base n : Nat} {v : Value} {xs : List Value} (h : w.ownsRow base 64 4 v n xs) : ∃ a cp, v = .slice a n cp ∧ (0 < n → ∃ g, a = some ⟨g, 0, none⟩) := by
  rcases h.2 with ⟨rfl, rfl⟩ | ⟨g, cap, cur, rfl, _⟩
  · exact ⟨none, 0, rfl, fun h => by omega⟩
  · exact ⟨_, cap, rfl, fun _ => ⟨g, rfl⟩⟩

/-- the four cells of the k-th delivery of a row -/
theorem row_cells {w : World} {base g n cp k : Nat} {ss : List Snd} {s : Snd} (h : w.ownsRow base 64 4 (.slice (some ⟨g, 0, none⟩) n cp) n (cells ss)) (hk : ss[k]? = some s) :
    w.cell? ⟨g, k * 4, none⟩ = some (.int .i64 s.dst) ∧ w.cell? ⟨g, k * 4 + 1, none⟩ = some (.int .i64 s.frm) ∧ w.cell? ⟨g, k * 4 + 2, none⟩ = some s.data ∧ w.cell? ⟨g, k * 4 + 3, none⟩ = some (.bool s.cnt) := by
  have hlen : ss.length * 4 = n * 4 := by have := h.1; rw [cells_length] at this; exact this
  have hkl := (List.getElem?_eq_some_iff.1 hk).1
  refine ⟨?_, ?_, ?_, ?_⟩
  · have := h.cellAt (k * 4) (by omega)
    rw [this]
    simpa using cells_at ss k s 0 hk (by omega)
  · have := h.cellAt (k * 4 + 1) (by omega)
    rw [this]
    simpa using cells_at ss k s 1 hk (by omega)
  · have := h.cellAt (k * 4 + 2) (by omega)
    rw [this]
    simpa using cells_at ss k s 2 hk (by omega)
  · have := h.cellAt (k * 4 + 3) (by omega)
    rw [this]
    simpa using cells_at ss k s 3 hk (by omega)

/-- behind a delivery of round q -/
structure Gone (w w1 : World) (nb mb base m : Nat) (ss : List Snd) (D : DataW Value) (V : Int → Value) (q : Int) : Prop where
  net : Net w1 nb mb m D
  at_ : ∀ r, 0 ≤ r → r ≤ 4 → r ≠ q → At D r (V r)
  atq : At D q (.slice none 0 0)
  noq : (Instr.lookup 51 (.map (some mb)) (.int .i64 q) true).run Yba.prog w1 = .ok (.tuple #[.slice none 0 0, .bool false]) w1
  own : ∀ r, 0 ≤ r → r ≤ 4 → w1.ownsRow base 64 4 (V r) (grp ss r).length (cells (grp ss r))
  size : base ≤ w1.heap.size
  bel : Below w.heap.size w w1
  ne : nb ≠ mb
  nlt : nb < base
  mlt : mb < base
  del : ∃ D0 : DataW Value, D = D0.del (.int .i64 q)

theorem turned_row {w w' : World} {mb base n : Nat} {v : Value} {xs : List Value} (h : w.ownsRow base 64 4 v n xs) (ht : w.mapTurned w' mb) (hm : mb < base) : w'.ownsRow base 64 4 v n xs :=
  ownsRow_block h (fun g hg => by have := ownsRow_lt h hg; exact ht.grown.block g this.2 (by simp; omega))

theorem Net.turned {w w' : World} {nb mb m m' : Nat} {D D' : DataW Value} (h : Net w nb mb m D) (ht : w.mapTurned w' mb) (hn : nb < w.heap.size) (hne : nb ≠ mb) (hm : w'.ownsMap Yba.prog 3 RV mb m' D') : Net w' nb mb m' D' := by
  have e : ∀ o, w'.cell? ⟨nb, o, none⟩ = w.cell? ⟨nb, o, none⟩ := fun o => World.cell?_of_block (ht.grown.block nb hn (by simpa using hne))
  exact ⟨(e 0).trans h.gst, (e 1).trans h.maxd, (e 3).trans h.due, hm⟩

theorem InvAt.gone {w wr w1 : World} {nb mb base k : Nat} {ss : List Snd} {D : DataW Value} {V : Int → Value} {q : Int} (h : InvAt w wr nb mb base k ss D V) (h0 : 0 ≤ q) (h1 : q ≤ 4)
    (hm : w1.ownsMap Yba.prog 3 RV mb k (D.del (.int .i64 q))) (ht : wr.mapTurned w1 mb) : Gone w w1 nb mb base k ss (D.del (.int .i64 q)) V q := by
  have hs := ht.grown.size
  have z1 := h.size
  have z2 := h.nlt
  refine ⟨h.net.turned ht (by omega) h.ne hm, fun r r0 r1 hne => At.del_other hne (h.at_ r r0 r1), At.del_same, look_ok_run hm h0 h1, fun r r0 r1 => turned_row (h.own r r0 r1) ht h.mlt, by omega, ?_, h.ne, h.nlt, h.mlt, ⟨D, rfl⟩⟩
  exact h.bel.grown ht.grown h.bel.size (fun b hb => by cases hb; exact h.mge)

theorem Gone.later {w w1 w' : World} {nb mb base m : Nat} {ss : List Snd} {D : DataW Value} {V : Int → Value} {q : Int} (h : Gone w w1 nb mb base m ss D V q) (h0 : 0 ≤ q) (h1 : q ≤ 4) (hb : Below w1.heap.size w1 w') : Gone w w' nb mb base m ss D V q := by
  have hs := hb.size
  have z1 := h.size
  have z2 := h.nlt
  have z3 := h.mlt
  have hN := h.net.below hb (by omega) (by omega)
  obtain ⟨D0, hD⟩ := h.del
  refine ⟨hN, h.at_, h.atq, ?_, fun r r0 r1 => ownsRow_block (h.own r r0 r1) (fun g hg => hb.block g (ownsRow_lt (h.own r r0 r1) hg).2), by omega, h.bel.trans (hb.mono h.bel.size), h.ne, h.nlt, h.mlt, h.del⟩
  have := hN.own
  rw [hD] at this
  exact look_ok_run this h0 h1

theorem Gone.again {w w1 w2 : World} {nb mb base m : Nat} {ss : List Snd} {D : DataW Value} {V : Int → Value} {q : Int} (h : Gone w w1 nb mb base m ss D V q) (h0 : 0 ≤ q) (h1 : q ≤ 4) (hmge : w.heap.size ≤ mb)
    (hm : w2.ownsMap Yba.prog 3 RV mb m (D.del (.int .i64 q))) (ht : w1.mapTurned w2 mb) : Gone w w2 nb mb base m ss (D.del (.int .i64 q)) V q := by
  have hs := ht.grown.size
  have z1 := h.size
  have z2 := h.nlt
  refine ⟨h.net.turned ht (by omega) h.ne hm, fun r r0 r1 hne => At.del_other hne (h.at_ r r0 r1 hne), At.del_same, look_ok_run hm h0 h1, fun r r0 r1 => turned_row (h.own r r0 r1) ht h.mlt, by omega, ?_, h.ne, h.nlt, h.mlt, ⟨D, rfl⟩⟩
  exact h.bel.grown ht.grown h.bel.size (fun b hb => by cases hb; exact hmge)
end Go.Proofs.Ybulkcqku
