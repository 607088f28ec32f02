/-
  THE PLAIN SIDE: a send, its cells, the groups by round; no walk.
-/
import Derived.Test.YbulkcqkuRows
import Derived.WalkKit
import Derived.WalkSpells
import Derived.WalkLawsBesides
namespace Go.Proofs.Ybulkcqku
open Go.RowKit
set_option linter.unusedVariables false

/-- One send, as the five cells of its struct hold it. -/
structure Snd where
  rnd : Int
  frm : Int
  dst : Int
  da : Option Addr
  dn : Nat
  dc : Nat
  cnt : Bool

namespace Snd
/-- the round, cut to 0 .. 3 -/
def r4 (s : Snd) : Int := s.rnd % 4
abbrev data (s : Snd) : Value := .slice s.da s.dn s.dc
/-- the cells of the delivery -/
abbrev four (s : Snd) : List Value := [.int .i64 s.dst, .int .i64 s.frm, s.data, .bool s.cnt]
abbrev five (s : Snd) : List Value := [.int .u8 s.rnd, .int .i64 s.frm, .int .i64 s.dst, s.data, .bool s.cnt]
end Snd

theorem Snd.r4_bd (s : Snd) : 0 ≤ s.r4 ∧ s.r4 < 4 := by unfold Snd.r4; omega

/-- those sent in round r, in order -/
def grp (ss : List Snd) (r : Int) : List Snd := ss.filter fun s => s.r4 == r
def cells (ss : List Snd) : List Value := ss.flatMap Snd.four

theorem cells_length (ss : List Snd) : (cells ss).length = ss.length * 4 := by
  induction ss with
  | nil => rfl
  | cons s r ih => simp only [cells, List.flatMap_cons, List.length_append] at ih ⊢; simp only [List.length_cons, List.length_nil]; omega
theorem cells_snoc (ss : List Snd) (s : Snd) : cells (ss ++ [s]) = cells ss ++ s.four := by simp [cells]
theorem grp_snoc_same (ss : List Snd) (s : Snd) (r : Int) (h : s.r4 = r) : grp (ss ++ [s]) r = grp ss r ++ [s] := by simp [grp, h]
theorem grp_snoc_other (ss : List Snd) (s : Snd) (r : Int) (h : s.r4 ≠ r) : grp (ss ++ [s]) r = grp ss r := by simp [grp, h]
theorem grp_le (ss : List Snd) (r : Int) : (grp ss r).length ≤ ss.length := List.length_filter_le _ _
theorem grp_four (ss : List Snd) : grp ss 4 = [] := by
  unfold grp
  rw [List.filter_eq_nil_iff]
  intro s _
  have := s.r4_bd
  simp
  omega

/-- cell j of the i-th delivery -/
theorem cells_at : ∀ (ss : List Snd) (i : Nat) (s : Snd) (j : Nat), ss[i]? = some s → j < 4 → (cells ss)[i * 4 + j]? = s.four[j]?
  | [], i, s, j, h, _ => by simp at h
  | t :: r, 0, s, j, h, hj => by
    simp at h
    subst h
    rw [Nat.zero_mul, Nat.zero_add]
    show (t.four ++ cells r)[j]? = _
    rw [List.getElem?_append_left (by simpa using hj)]
  | t :: r, i + 1, s, j, h, hj => by
    have ih := cells_at r i s j (by simpa using h) hj
    show (t.four ++ cells r)[(i + 1) * 4 + j]? = _
    rw [List.getElem?_append_right (by simp; omega)]
    rw [← ih]
    congr 1
    simp
    omega

/-- the sends' own cells, in the memory that came in -/
def Holds (w : World) (b o : Nat) (ss : List Snd) : Prop :=
  ∀ i s, ss[i]? = some s → w.cell? ⟨b, o + i * 5, none⟩ = some (.int .u8 s.rnd) ∧ w.cell? ⟨b, o + i * 5 + 1, none⟩ = some (.int .i64 s.frm) ∧ w.cell? ⟨b, o + i * 5 + 2, none⟩ = some (.int .i64 s.dst) ∧
    w.cell? ⟨b, o + i * 5 + 3, none⟩ = some s.data ∧ w.cell? ⟨b, o + i * 5 + 4, none⟩ = some (.bool s.cnt) ∧ 0 ≤ s.rnd ∧ s.rnd ≤ 255

/-- a send's bytes can be read, in every later world -/
def Reads (w : World) (s : Snd) : Prop := ∃ t : ByteArray, ∀ w', Below w.heap.size w w' → (convert 27 9 s.data).run Yba.prog w' = .ok (.string t) w'

theorem Holds.later {w w' : World} {b o : Nat} {ss : List Snd} (h : Holds w b o ss) (hb : Below w.heap.size w w') : Holds w' b o ss := by
  intro i s hs
  obtain ⟨h0, h1, h2, h3, h4, h5⟩ := h i s hs
  exact ⟨cell_later hb h0, cell_later hb h1, cell_later hb h2, cell_later hb h3, cell_later hb h4, h5⟩
theorem Reads.later {w w' : World} {s : Snd} (h : Reads w s) (hb : Below w.heap.size w w') : Reads w' s := by
  obtain ⟨t, ht⟩ := h
  exact ⟨t, fun w'' h'' => ht w'' (hb.trans (h''.mono hb.size))⟩

theorem r4_wrap (x : Int) (h0 : 0 ≤ x) (h1 : x ≤ 255) : x % 4 = (x % 4) := rfl
end Go.Proofs.Ybulkcqku
