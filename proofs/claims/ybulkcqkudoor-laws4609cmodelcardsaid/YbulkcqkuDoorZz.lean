/-
  THE WALK OF THE LAW's OWN READER zzs4609cuvarint: it answers as binary.Uvarint does, its refusals as (0, 0, false).
-/
import Derived.Test.YbulkcqkuDoorRound
import Derived.Lib.VarintBits
import Derived.Laws.Closers25b
namespace Go.Proofs.YbulkcqkuDoor
open Go.RowKit
set_option linter.unusedVariables false

/-- What the law's own reader answers, out of what binary.Uvarint answers. -/
def zzR (d : Nat × Int) : Ending :=
  if 0 < d.2 then .returned (.tuple #[.int .u64 d.1, .int .i64 d.2, .bool true]) else .returned (.tuple #[.int .u64 0, .int .i64 0, .bool false])
theorem zzR_yes (v : Nat) (k : Int) (h : 0 < k) : zzR (v, k) = .returned (.tuple #[.int .u64 v, .int .i64 k, .bool true]) := by simp [zzR, h]
theorem zzR_no (v : Nat) (k : Int) (h : k ≤ 0) : zzR (v, k) = .returned (.tuple #[.int .u64 0, .int .i64 0, .bool false]) := by
  simp only [zzR]; rw [if_neg (by omega)]
theorem zz_yes {d : Nat × Int} {v : Nat} {k : Int} {x y : Int} (hd : d = (v, k)) (h : 0 < k) (hx : x = v) (hy : y = k) : .returned (.tuple #[.int .u64 x, .int .i64 y, .bool true]) = zzR d := by
  rw [hd, zzR_yes v k h, hx, hy]
theorem zz_no {d : Nat × Int} {v : Nat} {k : Int} (hd : d = (v, k)) (h : k ≤ 0) : .returned (.tuple #[.int .u64 0, .int .i64 0, .bool false]) = zzR d := by
  rw [hd, zzR_no v k h]

set_option maxHeartbeats 32000000 in
set_option maxRecDepth 100000 in
theorem zz_any (g o n c : Nat) (l : List UInt8) (w : World) (hl : l.length = n) (hn : n ≤ 9223372036854775807) (hcell : ∀ j (hj : j < l.length), w.cell? ⟨g, o + j, none⟩ = some (.int .u8 (l[j]).toNat)) :
    Calls Ybad.prog 9 #[.slice (some ⟨g, o, none⟩) n c] w fun e w' => e = zzR (Lib.uvarintDec l) ∧ w' = w := by
  go_enter Ybad.func9, Ybad.ntmps9
  go_wp2
  go_loop [5, 6, 7] (fun vx vs vi => ∃ k acc : Nat, vi = .int .i64 k ∧ vs = .int .u64 ((7 * k : Nat) : Int) ∧ vx = .int .u64 acc ∧ k ≤ 10 ∧ k ≤ n ∧ acc < 2 ^ (7 * k) ∧ Hid (Lib.uvarintDec l = Lib.uvarintFrom k acc (l.drop k)))
    (fun _ _ vi => n - (intOf vi).toNat)
  case atStart => exact ⟨0, 0, rfl, rfl, rfl, by omega, by omega, by decide, rfl⟩
  case round =>
    obtain ⟨k, acc, rfl, rfl, rfl, hk10, hkn, hacc, hdec0⟩ := hrel
    have hdec := hdec0.out
    clear hdec0
    by_cases hk : k < n
    · have hc := hcell k (by omega)
      have hdrop : l.drop k = l[k]'(by omega) :: l.drop (k + 1) := List.drop_eq_getElem_cons (by omega)
      rw [hdrop] at hdec
      generalize l[k]'(by omega) = b at hc hdec
      have hb256 : b.toNat < 256 := b.toNat_lt
      clear hcell hdrop
      have hki : (k : Int) < (n : Int) := by omega
      have hks : k = 0 ∨ k = 1 ∨ k = 2 ∨ k = 3 ∨ k = 4 ∨ k = 5 ∨ k = 6 ∨ k = 7 ∨ k = 8 ∨ k = 9 ∨ k = 10 := by omega
      rcases hks with rfl | rfl | rfl | rfl | rfl | rfl | rfl | rfl | rfl | rfl | rfl
      · obtain rfl : acc = 0 := by simpa using hacc
        have hc0 : w.cell? ⟨g, o, none⟩ = some (.int .u8 b.toNat) := hc
        by_cases hb : b.toNat < 128
        · have hor : bits .or .u64 0 (b.toNat : Int) = ((b.toNat : Nat) : Int) := by
            rw [u64_orv0 _ _ (by omega) (by omega) (by omega) (by omega) (by omega)]
            omega
          have hF : Lib.uvarintFrom 0 0 (b :: l.drop (0 + 1)) = (b.toNat, 1) := by simp [Lib.uvarintFrom, hb]
          have HD : Hid (Lib.uvarintDec l = (b.toNat, 1)) := hdec.trans hF
          clear hdec hF
          go_wp2
          go_ret3
          exact ⟨zz_yes HD.out (by decide) (by first | rfl | omega) (by first | rfl | omega), rfl⟩
        · have hv : bits .or .u64 0 (IntKind.u64.wrap (IntKind.u64.wrap (bits .and .u8 (b.toNat : Int) 127))) = ((b.toNat % 128 : Nat) : Int) := by
            simp (disch := omega) only [u8_and127, u64_wrap_id, u64_orv0]
            omega
          have hF : Lib.uvarintFrom 0 0 (b :: l.drop (0 + 1)) = Lib.uvarintFrom 1 (b.toNat % 128) (l.drop (0 + 1)) := by simp [Lib.uvarintFrom, hb]
          have HD : Hid (Lib.uvarintDec l = Lib.uvarintFrom 1 (b.toNat % 128) (l.drop (0 + 1))) := hdec.trans hF
          clear hdec hF
          go_wp2
          refine ⟨⟨1, b.toNat % 128, rfl, rfl, (by first | rfl | (congr 1; omega)), by omega, by omega, ?_, HD⟩, by simp [intOf]; omega⟩
          show b.toNat % 128 < 2 ^ 7
          have e2 : (2 : Nat) ^ 7 = 128 := by decide
          omega
      · have hacc' : acc < 128 := by simpa using hacc
        by_cases hb : b.toNat < 128
        · have hor : bits .or .u64 (acc : Int) ((b.toNat : Int) * 128) = ((acc + b.toNat * 128 : Nat) : Int) := by
            rw [u64_orv7 _ _ (by omega) (by omega) (by omega) (by omega) (by omega)]
            omega
          have hF : Lib.uvarintFrom 1 acc (b :: l.drop (1 + 1)) = (acc + b.toNat * 128, 2) := by simp [Lib.uvarintFrom, hb]
          have HD : Hid (Lib.uvarintDec l = (acc + b.toNat * 128, 2)) := hdec.trans hF
          clear hdec hF
          go_wp2
          go_ret3
          exact ⟨zz_yes HD.out (by decide) (by first | rfl | omega) (by first | rfl | omega), rfl⟩
        · have hv : bits .or .u64 (acc : Int) (IntKind.u64.wrap (IntKind.u64.wrap (bits .and .u8 (b.toNat : Int) 127) * 128)) = ((acc + b.toNat % 128 * 128 : Nat) : Int) := by
            simp (disch := omega) only [u8_and127, u64_wrap_id, u64_orv7]
            omega
          have hF : Lib.uvarintFrom 1 acc (b :: l.drop (1 + 1)) = Lib.uvarintFrom 2 (acc + b.toNat % 128 * 128) (l.drop (1 + 1)) := by simp [Lib.uvarintFrom, hb]
          have HD : Hid (Lib.uvarintDec l = Lib.uvarintFrom 2 (acc + b.toNat % 128 * 128) (l.drop (1 + 1))) := hdec.trans hF
          clear hdec hF
          go_wp2
          refine ⟨⟨2, acc + b.toNat % 128 * 128, rfl, rfl, (by first | rfl | (congr 1; omega)), by omega, by omega, ?_, HD⟩, by simp [intOf]; omega⟩
          show acc + b.toNat % 128 * 128 < 2 ^ 14
          have e2 : (2 : Nat) ^ 14 = 16384 := by decide
          omega
      · have hacc' : acc < 16384 := by simpa using hacc
        by_cases hb : b.toNat < 128
        · have hor : bits .or .u64 (acc : Int) ((b.toNat : Int) * 16384) = ((acc + b.toNat * 16384 : Nat) : Int) := by
            rw [u64_orv14 _ _ (by omega) (by omega) (by omega) (by omega) (by omega)]
            omega
          have hF : Lib.uvarintFrom 2 acc (b :: l.drop (2 + 1)) = (acc + b.toNat * 16384, 3) := by simp [Lib.uvarintFrom, hb]
          have HD : Hid (Lib.uvarintDec l = (acc + b.toNat * 16384, 3)) := hdec.trans hF
          clear hdec hF
          go_wp2
          go_ret3
          exact ⟨zz_yes HD.out (by decide) (by first | rfl | omega) (by first | rfl | omega), rfl⟩
        · have hv : bits .or .u64 (acc : Int) (IntKind.u64.wrap (IntKind.u64.wrap (bits .and .u8 (b.toNat : Int) 127) * 16384)) = ((acc + b.toNat % 128 * 16384 : Nat) : Int) := by
            simp (disch := omega) only [u8_and127, u64_wrap_id, u64_orv14]
            omega
          have hF : Lib.uvarintFrom 2 acc (b :: l.drop (2 + 1)) = Lib.uvarintFrom 3 (acc + b.toNat % 128 * 16384) (l.drop (2 + 1)) := by simp [Lib.uvarintFrom, hb]
          have HD : Hid (Lib.uvarintDec l = Lib.uvarintFrom 3 (acc + b.toNat % 128 * 16384) (l.drop (2 + 1))) := hdec.trans hF
          clear hdec hF
          go_wp2
          refine ⟨⟨3, acc + b.toNat % 128 * 16384, rfl, rfl, (by first | rfl | (congr 1; omega)), by omega, by omega, ?_, HD⟩, by simp [intOf]; omega⟩
          show acc + b.toNat % 128 * 16384 < 2 ^ 21
          have e2 : (2 : Nat) ^ 21 = 2097152 := by decide
          omega
      · have hacc' : acc < 2097152 := by simpa using hacc
        by_cases hb : b.toNat < 128
        · have hor : bits .or .u64 (acc : Int) ((b.toNat : Int) * 2097152) = ((acc + b.toNat * 2097152 : Nat) : Int) := by
            rw [u64_orv21 _ _ (by omega) (by omega) (by omega) (by omega) (by omega)]
            omega
          have hF : Lib.uvarintFrom 3 acc (b :: l.drop (3 + 1)) = (acc + b.toNat * 2097152, 4) := by simp [Lib.uvarintFrom, hb]
          have HD : Hid (Lib.uvarintDec l = (acc + b.toNat * 2097152, 4)) := hdec.trans hF
          clear hdec hF
          go_wp2
          go_ret3
          exact ⟨zz_yes HD.out (by decide) (by first | rfl | omega) (by first | rfl | omega), rfl⟩
        · have hv : bits .or .u64 (acc : Int) (IntKind.u64.wrap (IntKind.u64.wrap (bits .and .u8 (b.toNat : Int) 127) * 2097152)) = ((acc + b.toNat % 128 * 2097152 : Nat) : Int) := by
            simp (disch := omega) only [u8_and127, u64_wrap_id, u64_orv21]
            omega
          have hF : Lib.uvarintFrom 3 acc (b :: l.drop (3 + 1)) = Lib.uvarintFrom 4 (acc + b.toNat % 128 * 2097152) (l.drop (3 + 1)) := by simp [Lib.uvarintFrom, hb]
          have HD : Hid (Lib.uvarintDec l = Lib.uvarintFrom 4 (acc + b.toNat % 128 * 2097152) (l.drop (3 + 1))) := hdec.trans hF
          clear hdec hF
          go_wp2
          refine ⟨⟨4, acc + b.toNat % 128 * 2097152, rfl, rfl, (by first | rfl | (congr 1; omega)), by omega, by omega, ?_, HD⟩, by simp [intOf]; omega⟩
          show acc + b.toNat % 128 * 2097152 < 2 ^ 28
          have e2 : (2 : Nat) ^ 28 = 268435456 := by decide
          omega
      · have hacc' : acc < 268435456 := by simpa using hacc
        by_cases hb : b.toNat < 128
        · have hor : bits .or .u64 (acc : Int) ((b.toNat : Int) * 268435456) = ((acc + b.toNat * 268435456 : Nat) : Int) := by
            rw [u64_orv28 _ _ (by omega) (by omega) (by omega) (by omega) (by omega)]
            omega
          have hF : Lib.uvarintFrom 4 acc (b :: l.drop (4 + 1)) = (acc + b.toNat * 268435456, 5) := by simp [Lib.uvarintFrom, hb]
          have HD : Hid (Lib.uvarintDec l = (acc + b.toNat * 268435456, 5)) := hdec.trans hF
          clear hdec hF
          go_wp2
          go_ret3
          exact ⟨zz_yes HD.out (by decide) (by first | rfl | omega) (by first | rfl | omega), rfl⟩
        · have hv : bits .or .u64 (acc : Int) (IntKind.u64.wrap (IntKind.u64.wrap (bits .and .u8 (b.toNat : Int) 127) * 268435456)) = ((acc + b.toNat % 128 * 268435456 : Nat) : Int) := by
            simp (disch := omega) only [u8_and127, u64_wrap_id, u64_orv28]
            omega
          have hF : Lib.uvarintFrom 4 acc (b :: l.drop (4 + 1)) = Lib.uvarintFrom 5 (acc + b.toNat % 128 * 268435456) (l.drop (4 + 1)) := by simp [Lib.uvarintFrom, hb]
          have HD : Hid (Lib.uvarintDec l = Lib.uvarintFrom 5 (acc + b.toNat % 128 * 268435456) (l.drop (4 + 1))) := hdec.trans hF
          clear hdec hF
          go_wp2
          refine ⟨⟨5, acc + b.toNat % 128 * 268435456, rfl, rfl, (by first | rfl | (congr 1; omega)), by omega, by omega, ?_, HD⟩, by simp [intOf]; omega⟩
          show acc + b.toNat % 128 * 268435456 < 2 ^ 35
          have e2 : (2 : Nat) ^ 35 = 34359738368 := by decide
          omega
      · have hacc' : acc < 34359738368 := by simpa using hacc
        by_cases hb : b.toNat < 128
        · have hor : bits .or .u64 (acc : Int) ((b.toNat : Int) * 34359738368) = ((acc + b.toNat * 34359738368 : Nat) : Int) := by
            rw [u64_orv35 _ _ (by omega) (by omega) (by omega) (by omega) (by omega)]
            omega
          have hF : Lib.uvarintFrom 5 acc (b :: l.drop (5 + 1)) = (acc + b.toNat * 34359738368, 6) := by simp [Lib.uvarintFrom, hb]
          have HD : Hid (Lib.uvarintDec l = (acc + b.toNat * 34359738368, 6)) := hdec.trans hF
          clear hdec hF
          go_wp2
          go_ret3
          exact ⟨zz_yes HD.out (by decide) (by first | rfl | omega) (by first | rfl | omega), rfl⟩
        · have hv : bits .or .u64 (acc : Int) (IntKind.u64.wrap (IntKind.u64.wrap (bits .and .u8 (b.toNat : Int) 127) * 34359738368)) = ((acc + b.toNat % 128 * 34359738368 : Nat) : Int) := by
            simp (disch := omega) only [u8_and127, u64_wrap_id, u64_orv35]
            omega
          have hF : Lib.uvarintFrom 5 acc (b :: l.drop (5 + 1)) = Lib.uvarintFrom 6 (acc + b.toNat % 128 * 34359738368) (l.drop (5 + 1)) := by simp [Lib.uvarintFrom, hb]
          have HD : Hid (Lib.uvarintDec l = Lib.uvarintFrom 6 (acc + b.toNat % 128 * 34359738368) (l.drop (5 + 1))) := hdec.trans hF
          clear hdec hF
          go_wp2
          refine ⟨⟨6, acc + b.toNat % 128 * 34359738368, rfl, rfl, (by first | rfl | (congr 1; omega)), by omega, by omega, ?_, HD⟩, by simp [intOf]; omega⟩
          show acc + b.toNat % 128 * 34359738368 < 2 ^ 42
          have e2 : (2 : Nat) ^ 42 = 4398046511104 := by decide
          omega
      · have hacc' : acc < 4398046511104 := by simpa using hacc
        by_cases hb : b.toNat < 128
        · have hor : bits .or .u64 (acc : Int) ((b.toNat : Int) * 4398046511104) = ((acc + b.toNat * 4398046511104 : Nat) : Int) := by
            rw [u64_orv42 _ _ (by omega) (by omega) (by omega) (by omega) (by omega)]
            omega
          have hF : Lib.uvarintFrom 6 acc (b :: l.drop (6 + 1)) = (acc + b.toNat * 4398046511104, 7) := by simp [Lib.uvarintFrom, hb]
          have HD : Hid (Lib.uvarintDec l = (acc + b.toNat * 4398046511104, 7)) := hdec.trans hF
          clear hdec hF
          go_wp2
          go_ret3
          exact ⟨zz_yes HD.out (by decide) (by first | rfl | omega) (by first | rfl | omega), rfl⟩
        · have hv : bits .or .u64 (acc : Int) (IntKind.u64.wrap (IntKind.u64.wrap (bits .and .u8 (b.toNat : Int) 127) * 4398046511104)) = ((acc + b.toNat % 128 * 4398046511104 : Nat) : Int) := by
            simp (disch := omega) only [u8_and127, u64_wrap_id, u64_orv42]
            omega
          have hF : Lib.uvarintFrom 6 acc (b :: l.drop (6 + 1)) = Lib.uvarintFrom 7 (acc + b.toNat % 128 * 4398046511104) (l.drop (6 + 1)) := by simp [Lib.uvarintFrom, hb]
          have HD : Hid (Lib.uvarintDec l = Lib.uvarintFrom 7 (acc + b.toNat % 128 * 4398046511104) (l.drop (6 + 1))) := hdec.trans hF
          clear hdec hF
          go_wp2
          refine ⟨⟨7, acc + b.toNat % 128 * 4398046511104, rfl, rfl, (by first | rfl | (congr 1; omega)), by omega, by omega, ?_, HD⟩, by simp [intOf]; omega⟩
          show acc + b.toNat % 128 * 4398046511104 < 2 ^ 49
          have e2 : (2 : Nat) ^ 49 = 562949953421312 := by decide
          omega
      · have hacc' : acc < 562949953421312 := by simpa using hacc
        by_cases hb : b.toNat < 128
        · have hor : bits .or .u64 (acc : Int) ((b.toNat : Int) * 562949953421312) = ((acc + b.toNat * 562949953421312 : Nat) : Int) := by
            rw [u64_orv49 _ _ (by omega) (by omega) (by omega) (by omega) (by omega)]
            omega
          have hF : Lib.uvarintFrom 7 acc (b :: l.drop (7 + 1)) = (acc + b.toNat * 562949953421312, 8) := by simp [Lib.uvarintFrom, hb]
          have HD : Hid (Lib.uvarintDec l = (acc + b.toNat * 562949953421312, 8)) := hdec.trans hF
          clear hdec hF
          go_wp2
          go_ret3
          exact ⟨zz_yes HD.out (by decide) (by first | rfl | omega) (by first | rfl | omega), rfl⟩
        · have hv : bits .or .u64 (acc : Int) (IntKind.u64.wrap (IntKind.u64.wrap (bits .and .u8 (b.toNat : Int) 127) * 562949953421312)) = ((acc + b.toNat % 128 * 562949953421312 : Nat) : Int) := by
            simp (disch := omega) only [u8_and127, u64_wrap_id, u64_orv49]
            omega
          have hF : Lib.uvarintFrom 7 acc (b :: l.drop (7 + 1)) = Lib.uvarintFrom 8 (acc + b.toNat % 128 * 562949953421312) (l.drop (7 + 1)) := by simp [Lib.uvarintFrom, hb]
          have HD : Hid (Lib.uvarintDec l = Lib.uvarintFrom 8 (acc + b.toNat % 128 * 562949953421312) (l.drop (7 + 1))) := hdec.trans hF
          clear hdec hF
          go_wp2
          refine ⟨⟨8, acc + b.toNat % 128 * 562949953421312, rfl, rfl, (by first | rfl | (congr 1; omega)), by omega, by omega, ?_, HD⟩, by simp [intOf]; omega⟩
          show acc + b.toNat % 128 * 562949953421312 < 2 ^ 56
          have e2 : (2 : Nat) ^ 56 = 72057594037927936 := by decide
          omega
      · have hacc' : acc < 72057594037927936 := by simpa using hacc
        by_cases hb : b.toNat < 128
        · have hor : bits .or .u64 (acc : Int) ((b.toNat : Int) * 72057594037927936) = ((acc + b.toNat * 72057594037927936 : Nat) : Int) := by
            rw [u64_orv56 _ _ (by omega) (by omega) (by omega) (by omega) (by omega)]
            omega
          have hF : Lib.uvarintFrom 8 acc (b :: l.drop (8 + 1)) = (acc + b.toNat * 72057594037927936, 9) := by simp [Lib.uvarintFrom, hb]
          have HD : Hid (Lib.uvarintDec l = (acc + b.toNat * 72057594037927936, 9)) := hdec.trans hF
          clear hdec hF
          go_wp2
          go_ret3
          exact ⟨zz_yes HD.out (by decide) (by first | rfl | omega) (by first | rfl | omega), rfl⟩
        · have hv : bits .or .u64 (acc : Int) (IntKind.u64.wrap (IntKind.u64.wrap (bits .and .u8 (b.toNat : Int) 127) * 72057594037927936)) = ((acc + b.toNat % 128 * 72057594037927936 : Nat) : Int) := by
            simp (disch := omega) only [u8_and127, u64_wrap_id, u64_orv56]
            omega
          have hF : Lib.uvarintFrom 8 acc (b :: l.drop (8 + 1)) = Lib.uvarintFrom 9 (acc + b.toNat % 128 * 72057594037927936) (l.drop (8 + 1)) := by simp [Lib.uvarintFrom, hb]
          have HD : Hid (Lib.uvarintDec l = Lib.uvarintFrom 9 (acc + b.toNat % 128 * 72057594037927936) (l.drop (8 + 1))) := hdec.trans hF
          clear hdec hF
          go_wp2
          refine ⟨⟨9, acc + b.toNat % 128 * 72057594037927936, rfl, rfl, (by first | rfl | (congr 1; omega)), by omega, by omega, ?_, HD⟩, by simp [intOf]; omega⟩
          show acc + b.toNat % 128 * 72057594037927936 < 2 ^ 63
          have e2 : (2 : Nat) ^ 63 = 9223372036854775808 := by decide
          omega
      · have hacc' : acc < 9223372036854775808 := by simpa using hacc
        by_cases hb : b.toNat < 128
        · by_cases hb1 : 1 < b.toNat
          · have hF : Lib.uvarintFrom 9 acc (b :: l.drop (9 + 1)) = (0, -10) := by simp [Lib.uvarintFrom, hb, hb1]
            have HD : Hid (Lib.uvarintDec l = (0, -10)) := hdec.trans hF
            clear hdec hF
            go_wp2
            go_ret3
            exact ⟨zz_no HD.out (by decide), rfl⟩
          · have hor : bits .or .u64 (acc : Int) ((b.toNat : Int) * 9223372036854775808) = ((acc + b.toNat * 9223372036854775808 : Nat) : Int) := by
              rw [u64_orv63 _ _ (by omega) (by omega) (by omega) (by omega) (by omega)]
              omega
            have hF : Lib.uvarintFrom 9 acc (b :: l.drop (9 + 1)) = (acc + b.toNat * 9223372036854775808, 10) := by simp [Lib.uvarintFrom, hb, hb1]
            have HD : Hid (Lib.uvarintDec l = (acc + b.toNat * 9223372036854775808, 10)) := hdec.trans hF
            clear hdec hF
            go_wp2
            go_ret3
            exact ⟨zz_yes HD.out (by decide) (by first | rfl | omega) (by first | rfl | omega), rfl⟩
        · obtain ⟨a2, ha2⟩ : ∃ a2 : Nat, bits .or .u64 (acc : Int) (IntKind.u64.wrap (IntKind.u64.wrap (bits .and .u8 (b.toNat : Int) 127) * 9223372036854775808)) = (a2 : Int) := ⟨_, (Int.toNat_of_nonneg (bits_lo_u64 _ _ _)).symm⟩
          have hhi := bits_hi_u64 .or (acc : Int) (IntKind.u64.wrap (IntKind.u64.wrap (bits .and .u8 (b.toNat : Int) 127) * 9223372036854775808))
          have hF : Lib.uvarintFrom 9 acc (b :: l.drop (9 + 1)) = Lib.uvarintFrom 10 a2 (l.drop (9 + 1)) := by
            rw [Lib.uvarintFrom_ten a2 (acc + b.toNat % 128 * 9223372036854775808)]
            simp [Lib.uvarintFrom, hb]
          have HD : Hid (Lib.uvarintDec l = Lib.uvarintFrom 10 a2 (l.drop (9 + 1))) := hdec.trans hF
          clear hdec hF
          go_wp2
          refine ⟨⟨10, a2, rfl, rfl, (by first | rfl | (congr 1; omega)), by omega, by omega, ?_, HD⟩, by simp [intOf]; omega⟩
          show a2 < 2 ^ 70
          have e2 : (2 : Nat) ^ 70 = 1180591620717411303424 := by decide
          omega
      · have hF : Lib.uvarintFrom 10 acc (b :: l.drop (10 + 1)) = (0, -11) := by simp [Lib.uvarintFrom]
        have HD : Hid (Lib.uvarintDec l = (0, -11)) := hdec.trans hF
        clear hdec hF
        go_wp2
        go_ret3
        exact ⟨zz_no HD.out (by decide), rfl⟩
    · have hF : Lib.uvarintFrom k acc (l.drop k) = (0, 0) := by rw [List.drop_eq_nil_of_le (by omega)]; rfl
      have HD : Hid (Lib.uvarintDec l = (0, 0)) := hdec.trans hF
      clear hdec hF
      go_wp2
      go_ret3
      exact ⟨zz_no HD.out (by decide), rfl⟩

theorem zz_zero (a : Option Addr) (c : Nat) (w : World) :
    Calls Ybad.prog 9 #[.slice a 0 c] w fun e w' => e = zzR (Lib.uvarintDec []) ∧ w' = w := by
  go_enter Ybad.func9, Ybad.ntmps9
  go_wp2
  refine wp_loop_rounds 1 ?_
  rw [rounds_succ]
  go_wp2
  go_ret3
  exact ⟨zz_no (v := 0) (k := 0) rfl (by decide), rfl⟩

theorem zz_all (a : Option Addr) (n c : Nat) (l : List UInt8) (w : World) (hl : l.length = n) (hn : n ≤ 9223372036854775807) (h : Lies w a l) :
    Calls Ybad.prog 9 #[.slice a n c] w fun e w' => e = zzR (Lib.uvarintDec l) ∧ w' = w := by
  rcases h with rfl | ⟨g, o, rfl, hc⟩
  · subst hl
    exact zz_zero a c w
  · exact zz_any g o n c l w hl hn hc
end Go.Proofs.YbulkcqkuDoor
