/-
  THE WALK OF LawS4609BDeliver, whole.
-/
import Derived.Test.YbulkcqkuLaw
namespace Go.Proofs.Ybulkcqku
open Go.RowKit Go.Maps
set_option linter.unusedVariables false

theorem count_all (a0 : Option Addr) (b o n c : Nat) (ss : List Snd) (r : Int) (w : World) (hl : ss.length = n) (hs : n ≤ 1024) (hH : Holds w b o ss) (hA : 0 < n → a0 = some ⟨b, o, none⟩) :
    Calls Yba.prog 11 #[.slice a0 n c, .int .i64 r] w fun e w' => e = .returned (.int .i64 ((grp ss r).length : Int)) ∧ w' = w := by
  by_cases h : 0 < n
  · rw [hA h]
    exact count_any b o n c ss r w hl hs hH
  · obtain rfl : n = 0 := by omega
    obtain rfl : ss = [] := List.length_eq_zero_iff.1 hl
    exact count_zero a0 c r w

set_option maxRecDepth 100000 in
set_option maxHeartbeats 4000000 in
theorem law_walk (a0 : Option Addr) (b o n c : Nat) (ss : List Snd) (q : Int) (w : World) (hl : ss.length = n) (hn : n ≤ 1024) (hH : Holds w b o ss) (hR : ∀ s ∈ ss, Reads w s) (h0 : 0 ≤ q) (h1 : q ≤ 255) (hA0 : 0 < n → a0 = some ⟨b, o, none⟩) :
    Calls Yba.prog 4 #[.slice a0 n c, .int .u8 q] w fun e w' => e = .returned (.bool true) ∧ Below w.heap.size w w' := by
  have HL : Hid (ss.length = n) := hl
  have HH : Hid (Holds w b o ss) := hH
  have HR : Hid (∀ s ∈ ss, Reads w s) := hR
  have HA0 : Hid (0 < n → a0 = some ⟨b, o, none⟩) := hA0
  clear hl hH hR hA0
  have hmm := @run_makeMap Yba.prog
  go_enter Yba.func4, Yba.ntmps4
  go_wp2
  go_loopw [6] (fun vi wr => ∃ k : Nat, k ≤ n ∧ vi = .int .i64 k ∧ ∃ D V, InvAt w wr (w.heap.size + 1) w.heap.size (w.heap.size + 2) k (ss.take k) D V) (fun vi _ => n - (intOf vi).toNat)
  case atStart => exact ⟨0, Nat.zero_le _, rfl, _, _, InvAt.start⟩
  case round =>
    obtain ⟨k, hk, rfl, D, V, hI⟩ := hrel
    by_cases hlt : k < n
    · obtain rfl := HA0.out (by omega)
      clear HA0
      obtain ⟨s, hs1⟩ : ∃ s, ss[k]? = some s := ⟨_, List.getElem?_eq_getElem (by rw [HL.out]; exact hlt)⟩
      obtain ⟨a0, a1, a2, a3, a4, a5, a6⟩ := (HH.out.later hI.bel) k s hs1
      have HT : Hid (ss.take (k + 1) = ss.take k ++ [s]) := take_snoc' hs1
      have HI : Hid (InvAt w wr (w.heap.size + 1) w.heap.size (w.heap.size + 2) k (ss.take k) D V) := hI
      have hki : (k : Int) < (n : Int) := by omega
      clear hs1 hI
      go_wp2_with fail
      refine (send_any w _ _ _ _ k (ss.take k) D V s (HI.out.later ((Below.refl _ _).alloc (Nat.le_refl _) _)) (by omega) (by have : (ss.take k).length ≤ k := List.length_take_le _ _; omega)).mono ?_
      rintro e w' ⟨rfl, D', V', hI'⟩
      have HI' : Hid (InvAt w w' (w.heap.size + 1) w.heap.size (w.heap.size + 2) (k + 1) (ss.take k ++ [s]) D' V') := hI'
      clear hI' a0 a1 a2 a3 a4
      go_wp2
      go_roundw
      case rel => exact ⟨k + 1, by omega, by go_num, D', V', by rw [HT.out]; exact HI'.out⟩
      case measure => simp [intOf]; omega
    · have hkn : k = n := by omega
      subst hkn
      have htk : ss.take k = ss := List.take_of_length_le (by rw [HL.out]; exact Nat.le_refl _)
      rw [htk] at hI
      have q0 : 0 ≤ q % 5 := by omega
      have q1 : q % 5 ≤ 4 := by omega
      have HI : Hid (InvAt w wr (w.heap.size + 1) w.heap.size (w.heap.size + 2) k ss D V) := hI
      clear hI htk hlt hmm
      go_wp2_with fail
      refine (deliver_any _ _ k D _ _ wr HI.out.net q0 q1 (HI.out.at_ _ q0 q1) HI.out.ne).mono ?_
      rintro e w1 ⟨rfl, hm1, ht1⟩
      have hG := HI.out.gone q0 q1 hm1 ht1
      obtain ⟨a, cp, hV, ha⟩ := row_form (hG.own _ q0 q1)
      have hOwn := hG.own _ q0 q1
      rw [hV] at hOwn ⊢
      have HG : Hid (Gone w w1 (w.heap.size + 1) w.heap.size (w.heap.size + 2) k ss (D.del (.int .i64 (q % 5))) V (q % 5)) := hG
      have HA : Hid (0 < (grp ss (q % 5)).length → ∃ g, a = some ⟨g, 0, none⟩) := ha
      have HO : Hid (w1.ownsRow (w.heap.size + 2) 64 4 (.slice a (grp ss (q % 5)).length cp) (grp ss (q % 5)).length (cells (grp ss (q % 5)))) := hOwn
      clear hG hm1 ht1 HI hV ha hOwn
      generalize hq : q % 5 = qq at *
      clear hq
      go_wp2_with fail
      go_loopw [10, 11] (fun vk vi wr2 => ∃ j : Nat, j ≤ k ∧ vi = .int .i64 j ∧ vk = .int .i64 ((grp (ss.take j) qq).length : Int) ∧ Below w1.heap.size w1 wr2) (fun _ vi _ => k - (intOf vi).toNat)
      case atStart => exact ⟨0, Nat.zero_le _, rfl, rfl, Below.refl _ _⟩
      case round =>
        obtain ⟨j, hj, rfl, rfl, hb2⟩ := hrel
        have hbw := HG.out.bel.trans (hb2.mono HG.out.bel.size)
        have hgl := grp_le (ss.take j) qq
        have hgl2 : (ss.take j).length ≤ j := List.length_take_le _ _
        have hgl3 := grp_le ss qq
        have HL2 := HL.out
        by_cases hlt : j < k
        · obtain rfl := HA0.out (by omega)
          clear HA0
          obtain ⟨s, hs1⟩ : ∃ s, ss[j]? = some s := ⟨_, List.getElem?_eq_getElem (by rw [HL.out]; exact hlt)⟩
          obtain ⟨a0, a1, a2, a3, a4, a5, a6⟩ := (HH.out.later hbw) j s hs1
          have hki : (j : Int) < (k : Int) := by omega
          have HT : Hid (ss.take (j + 1) = ss.take j ++ [s]) := take_snoc' hs1
          have HB : Hid (Below w1.heap.size w1 wr) := hb2
          by_cases hr : s.r4 = qq
          · have hgt := grp_at hs1 hr
            have hKN : (grp (ss.take j) qq).length < (grp ss qq).length := (List.getElem?_eq_some_iff.1 hgt).1
            obtain ⟨g, rfl⟩ := HA.out (by omega)
            have hrow := ownsRow_block HO.out (w' := wr) (fun g' hg' => hb2.block g' (ownsRow_lt HO.out hg').2)
            obtain ⟨b0, b1, b2, b3⟩ := row_cells hrow hgt
            have R0 : Hid (Reads wr.drew s) := (HR.out s (List.mem_of_getElem? hs1)).later hbw.drew
            have HN : Hid ((grp (ss.take (j + 1)) qq).length = (grp (ss.take j) qq).length + 1) := by
              unfold Hid
              rw [HT.out, grp_snoc_same _ _ _ hr]
              simp
            have hq2 : (s.rnd % 4 != qq) = false := by simp [show s.rnd % 4 = qq from hr]
            clear hs1 hr hgt hrow hbw hb2 HL2 HT
            clear HA HO
            generalize (grp ss qq).length = N at *
            generalize (grp (ss.take j) qq).length = K at *
            have hKNi : (K : Int) < (N : Int) := by omega
            have hK0 : (0 : Int) ≤ (K : Int) := by omega
            have hdK : decide (N ≤ K) = false := by simp; omega
            have hj0 : (0 : Int) ≤ (j : Int) := by omega
            go_wp2_with fail
            go_region_held3 (fun w' => w'.cell? ⟨g, K * 4, none⟩ = some (.int .i64 s.dst) ∧ w'.cell? ⟨g, K * 4 + 1, none⟩ = some (.int .i64 s.frm) ∧ w'.cell? ⟨g, K * 4 + 2, none⟩ = some s.data ∧ w'.cell? ⟨g, K * 4 + 3, none⟩ = some (.bool s.cnt) ∧
                w'.cell? ⟨b, o + j * 5, none⟩ = some (.int .u8 s.rnd) ∧ w'.cell? ⟨b, o + j * 5 + 1, none⟩ = some (.int .i64 s.frm) ∧ w'.cell? ⟨b, o + j * 5 + 2, none⟩ = some (.int .i64 s.dst) ∧ w'.cell? ⟨b, o + j * 5 + 3, none⟩ = some s.data ∧ w'.cell? ⟨b, o + j * 5 + 4, none⟩ = some (.bool s.cnt))
              (first | go_keep | (go_split_ands; refine ⟨?_, ?_, ?_, ?_, ?_, ?_, ?_, ?_, ?_⟩ <;> exact cell_later hb9 (by assumption)))
              ((go_at_call 10; refine (same_any s _ (by exact R0.out)).mono ?_; rintro e w9 ⟨rfl, hb9⟩))
            have HB9 : Hid (Below w1.heap.size w1 w9) := HB.out.drew.trans (hb9.mono HB.out.size)
            clear hb9 b0 b1 b2 b3 a0 a1 a2 a3 a4
            go_wp2
            go_roundw
            case rel => exact ⟨j + 1, by omega, by go_num, by rw [HN.out]; go_num, HB9.out⟩
            case measure => simp [intOf]; omega
          · have HN : Hid ((grp (ss.take (j + 1)) qq).length = (grp (ss.take j) qq).length) := by
              unfold Hid
              rw [HT.out, grp_snoc_other _ _ _ hr]
            have hq2 : (s.rnd % 4 != qq) = true := by simpa using (show ¬ s.rnd % 4 = qq from hr)
            clear hs1 hr hbw hb2 HL2 HT a1 a2 a3 a4
            generalize (grp (ss.take j) qq).length = K at *
            go_wp2
            go_roundw
            case rel => exact ⟨j + 1, by omega, by go_num, by rw [HN.out], HB.out⟩
            case measure => simp [intOf]; omega
        · have hjk : j = k := by omega
          subst hjk
          have htk : ss.take j = ss := List.take_of_length_le (by rw [HL.out]; exact Nat.le_refl _)
          rw [htk] at hgl
          have hG2 := HG.out.later q0 q1 hb2
          have HG2 : Hid (Gone w wr (w.heap.size + 1) w.heap.size (w.heap.size + 2) j ss (D.del (.int .i64 qq)) V qq) := hG2
          have hdue := hG2.net.due
          have hnoq := hG2.noq
          rw [htk]
          clear htk hbw hb2 HL2 hG2 HG HA HO hgl hgl2 hlt
          generalize (grp ss qq).length = N at *
          go_wp2_with fail
          refine (deliver_any _ _ j (D.del (.int .i64 qq)) qq (.slice none 0 0) wr HG2.out.net q0 q1 HG2.out.atq HG2.out.ne).mono ?_
          rintro e w3 ⟨rfl, hm3, ht3⟩
          have HG3 : Hid (Gone w w3 (w.heap.size + 1) w.heap.size (w.heap.size + 2) j ss ((D.del (.int .i64 qq)).del (.int .i64 qq)) V qq) := HG2.out.again q0 q1 (Nat.le_refl _) hm3 ht3
          clear hm3 ht3 HG2 hdue hnoq hgl3
          have hdue := HG3.out.net.due
          have HH3 : Hid (Holds w3 b o ss) := HH.out.later HG3.out.bel
          go_wp2_with fail
          go_loopw [14] (fun vr wr3 => ∃ (r jj : Nat), r ≤ 4 ∧ vr = .int .i64 r ∧ wr3 = w3.drewN jj) (fun vr _ => 4 - (intOf vr).toNat)
          case atStart => exact ⟨0, 0, by omega, rfl, rfl⟩
          case round =>
            obtain ⟨r, jj, hr, rfl, rfl⟩ := hrel
            by_cases hlt : r < 4
            · by_cases hrq : (r : Int) = qq
              · have hrq' : ((r : Int) == qq) = true := by rw [beq_iff_eq]; exact hrq
                clear hrq
                go_wp2
                go_roundw
                case rel => exact ⟨r + 1, jj, by omega, by go_num, rfl⟩
                case measure => simp [intOf]; omega
              · have hrq' : ((r : Int) == qq) = false := by rw [beq_eq_false_iff_ne]; exact hrq
                have hAt := HG3.out.at_ r (by omega) (by omega) hrq
                obtain ⟨ar, cr, hVr, _⟩ := row_form (HG3.out.own r (by omega) (by omega))
                rw [hVr] at hAt
                obtain ⟨w5, hw5⟩ : ∃ w5, w3.drewN jj = w5 := ⟨_, rfl⟩
                have hlook : ∀ nn, (Instr.lookup 51 (.map (some w.heap.size)) (.int .i64 (r : Int)) false).run Yba.prog (w5.drewN nn) = .ok (.slice ar (grp ss (r : Int)).length cr) (w5.drewN nn) := fun nn => by rw [← hw5]; exact look_run (w := (w3.drewN jj).drewN nn) HG3.out.net.own (by omega) (by omega) hAt
                have hdue5 : w5.cell? ⟨w.heap.size + 1, 3, none⟩ = some (.map (some w.heap.size)) := by rw [← hw5]; exact hdue
                have hcnt := fun nn => count_all a0 b o j c ss (r : Int) ((w3.drewN jj).drewN nn) HL.out hn HH3.out HA0.out
                rw [hw5] at hcnt ⊢
                have HC : Hid (∀ nn, Calls Yba.prog 11 #[.slice a0 j c, .int .i64 (r : Int)] (w5.drewN nn) fun e w' => e = .returned (.int .i64 ((grp ss (r : Int)).length : Int)) ∧ w' = w5.drewN nn) := hcnt
                have HW : Hid (w3.drewN jj = w5) := hw5
                clear hrq hAt hVr hcnt hw5
                generalize (grp ss (r : Int)).length = M at *
                go_wp2_with fail
                go_quiet ((go_at_call 11; exact Calls.quiet_of_same (HC.out _)))
                go_wp2
                go_roundw
                case rel => exact ⟨r + 1, jj + nq, by omega, by go_num, by rw [← HW.out, World.drewN_drewN]⟩
                case measure => simp [intOf]; omega
            · go_wp2
              go_ret
              exact ⟨rfl, ((below_drewN HG3.out.bel jj).alloc (below_drewN HG3.out.bel jj).size _)⟩

set_option maxHeartbeats 400000 in
theorem law_long (a0 : Option Addr) (n c : Nat) (q : Int) (w : World) (hs : 1024 < n) :
    Calls Yba.prog 4 #[.slice a0 n c, .int .u8 q] w fun e w' => e = .returned (.bool true) ∧ Below w.heap.size w w' := by
  go_enter Yba.func4, Yba.ntmps4
  go_wp2
  go_ret
  exact ⟨rfl, Below.refl _ _⟩
end Go.Proofs.Ybulkcqku
