/-
  THE PLAIN LAWS OF THE SEAT: what is encoded is what is decoded; the last byte of a varint is not zero. No Go in sight.
-/
import Derived.Lib.Varint
import Derived.Lib.VarintDec
namespace Go.Proofs.YbulkcqkuDoor
open Go

/-- Behind 'i' bytes with 'acc' gathered: the varint of y, and whatever behind it, gives y's bits and its length. -/
theorem from_uvarint (t : List UInt8) : ∀ (f y i acc : Nat), y < 128 ^ f → i ≤ 9 → y * 2 ^ (7 * i) < 18446744073709551616 →
    Lib.uvarintFrom i acc (Lib.uvarint y ++ t) = (acc + y * 2 ^ (7 * i), ((i + (Lib.uvarint y).length : Nat) : Int))
  | 0, y, i, acc, hf, hi, hy => by
    have h0 : y = 0 := by simpa using hf
    subst h0
    rw [Lib.uvarint_small (by omega)]
    simp [Lib.uvarintFrom]
    omega
  | f + 1, y, i, acc, hf, hi, hy => by
    by_cases hs : y < 128
    · rw [Lib.uvarint_small hs]
      have hb : y.toUInt8.toNat = y := by simp; omega
      have h9 : ¬ (i = 9 ∧ 1 < y) := by
        rintro ⟨rfl, h1⟩
        have e : (2 : Nat) ^ (7 * 9) = 9223372036854775808 := by decide
        rw [e] at hy
        omega
      simp only [List.cons_append, List.nil_append, Lib.uvarintFrom, hb]
      rw [if_neg (by omega), if_pos hs, if_neg h9]
      simp
    · have hs' : 128 ≤ y := by omega
      rw [Lib.uvarint_big hs']
      have hb : (y % 128 + 128).toUInt8.toNat = y % 128 + 128 := by simp; omega
      have hi8 : i ≤ 8 := by
        rcases Nat.lt_or_ge i 9 with h | h
        · omega
        · have hp : (2 : Nat) ^ (7 * 9) ≤ 2 ^ (7 * i) := Nat.pow_le_pow_right (by decide) (by omega)
          have e : (2 : Nat) ^ (7 * 9) = 9223372036854775808 := by decide
          rw [e] at hp
          have := Nat.mul_le_mul hs' hp
          omega
      have e7 : (2 : Nat) ^ (7 * (i + 1)) = 128 * 2 ^ (7 * i) := by
        rw [Nat.mul_add, Nat.pow_add, Nat.mul_comm]
      have hdm := Nat.div_add_mod y 128
      have hyy : y * 2 ^ (7 * i) = y / 128 * 2 ^ (7 * (i + 1)) + y % 128 * 2 ^ (7 * i) := by
        rw [e7, ← Nat.mul_assoc, ← Nat.add_mul]
        congr 1
        omega
      have ih := from_uvarint t f (y / 128) (i + 1) (acc + y % 128 * 2 ^ (7 * i)) (by rw [Nat.pow_succ] at hf; exact Nat.div_lt_of_lt_mul (by rw [Nat.mul_comm]; exact hf)) (by omega) (by omega)
      simp only [List.cons_append, Lib.uvarintFrom, hb]
      rw [if_neg (by omega), if_neg (by omega)]
      have hm : (y % 128 + 128) % 128 = y % 128 := by omega
      rw [hm, ih, hyy]
      simp only [List.length_cons, Prod.mk.injEq]
      omega

/-- WHAT IS ENCODED IS WHAT IS DECODED, whatever follows. -/
theorem dec_uvarint (x : Nat) (t : List UInt8) (hx : x < 18446744073709551616) :
    Lib.uvarintDec (Lib.uvarint x ++ t) = (x, ((Lib.uvarint x).length : Int)) := by
  have h := from_uvarint t 10 x 0 0 (Nat.lt_of_lt_of_le hx (by decide)) (by omega) (by simpa using hx)
  simpa [Lib.uvarintDec] using h

/-- THE SHORTEST FORM: the last of two or more bytes is not zero. -/
theorem uvarint_last : ∀ (f y : Nat), y < 128 ^ f → 1 < (Lib.uvarint y).length → ∃ b, (Lib.uvarint y)[(Lib.uvarint y).length - 1]? = some b ∧ b.toNat ≠ 0
  | 0, y, hf, h1 => by
    have h0 : y = 0 := by simpa using hf
    subst h0
    rw [Lib.uvarint_small (by omega)] at h1
    simp at h1
  | f + 1, y, hf, h1 => by
    by_cases hs : y < 128
    · rw [Lib.uvarint_small hs] at h1
      simp at h1
    · have hs' : 128 ≤ y := by omega
      have hp := Lib.uvarint_pos (y / 128)
      rw [Lib.uvarint_big hs']
      simp only [List.length_cons, Nat.add_sub_cancel]
      by_cases h2 : y / 128 < 128
      · rw [Lib.uvarint_small h2]
        refine ⟨(y / 128).toUInt8, by simp, ?_⟩
        simp
        omega
      · have hq : y / 128 < 128 ^ f := by rw [Nat.pow_succ] at hf; exact Nat.div_lt_of_lt_mul (by rw [Nat.mul_comm]; exact hf)
        have h3 : 1 < (Lib.uvarint (y / 128)).length := by
          have := Lib.uvarint_pos (y / 128 / 128)
          rw [Lib.uvarint_big (by omega)]
          simp
          omega
        obtain ⟨b, hb, hne⟩ := uvarint_last f (y / 128) hq h3
        refine ⟨b, ?_, hne⟩
        obtain ⟨k, hk⟩ : ∃ k, (Lib.uvarint (y / 128)).length = k + 1 := ⟨(Lib.uvarint (y / 128)).length - 1, by omega⟩
        rw [hk] at hb ⊢
        simpa using hb

theorem uvarint_last64 (x : Nat) (hx : x < 18446744073709551616) (h1 : 1 < (Lib.uvarint x).length) : ∃ b, (Lib.uvarint x)[(Lib.uvarint x).length - 1]? = some b ∧ b.toNat ≠ 0 :=
  uvarint_last 10 x (Nat.lt_of_lt_of_le hx (by decide)) h1
end Go.Proofs.YbulkcqkuDoor
