/-
  The walk of LawS4612APicked.
-/
import Derived.Test.YbulkcqmkFmtDirect
import Derived.Deep.OwnRows
namespace Go.Proofs.YbulkcqmkFmt
open Go.RowKit Go.Maps
set_option linter.unusedVariables false
attribute [local go_sem] eqlNil

theorem mk23 (w : World) : (Instr.makeMap 23 none).run Ybaf.prog w = .ok (.map (some w.heap.size)) (w.alloc (.map #[] 0)) := by kernel_rfl

set_option maxRecDepth 100000 in
set_option maxHeartbeats 1000000 in
theorem picked_long1 (t : ByteArray) (a pa : Option Addr) (n c pn pc : Nat) (w : World) (hn : 1024 < n) :
    Calls Ybaf.prog 4 #[.string t, .slice a n c, .slice pa pn pc] w fun e w' => e = .returned (.bool true) ∧ Below w.heap.size w w' := by
  go_enter Ybaf.func4, Ybaf.ntmps4
  go_wp2
  go_ret
  exact ⟨rfl, Below.refl _ _⟩

set_option maxRecDepth 100000 in
set_option maxHeartbeats 1000000 in
theorem picked_long2 (t : ByteArray) (a pa : Option Addr) (n c pn pc : Nat) (w : World) (hn : n ≤ 1024) (hp : 1024 < pn) :
    Calls Ybaf.prog 4 #[.string t, .slice a n c, .slice pa pn pc] w fun e w' => e = .returned (.bool true) ∧ Below w.heap.size w w' := by
  go_enter Ybaf.func4, Ybaf.ntmps4
  go_wp2
  go_ret
  exact ⟨rfl, Below.refl _ _⟩


theorem set_step (ss : List ByteArray) (k : Nat) : (fun x => decide (x = at' ss k) || decide (∃ j, j < k ∧ x = at' ss j)) = (fun x => decide (∃ j, j < k + 1 ∧ x = at' ss j)) := by
  funext x
  rw [← Bool.decide_or, decide_eq_decide]
  constructor
  · rintro (h | ⟨j, hj, h⟩)
    · exact ⟨k, by omega, h⟩
    · exact ⟨j, by omega, h⟩
  · rintro ⟨j, hj, h⟩
    by_cases hjk : j = k
    · subst hjk; exact .inl h
    · exact .inr ⟨j, by omega, h⟩

theorem info9 : (Ybaf.prog.info? 9).map (fun i => (i.zero, i.size, i.bytes)) = some (some (.string ⟨#[]⟩), 1, 16) := by kernel_rfl

theorem made_facts (w : World) (n : Nat) : Below w.heap.size w (w.alloc (.cells (madeCells #[.string ⟨#[]⟩] n) 9)) ∧
    (∀ j, j < n → (w.alloc (.cells (madeCells #[.string ⟨#[]⟩] n) 9)).cell? ⟨w.heap.size, j, none⟩ = some (.string ⟨#[]⟩)) ∧
    (∀ j, j < n → (w.alloc (.cells (madeCells #[.string ⟨#[]⟩] n) 9)).frozen? ⟨w.heap.size, j, none⟩ = false) := by
  refine ⟨(Below.refl _ _).alloc (Nat.le_refl _) _, fun j hj => ?_, fun j hj => ?_⟩
  · rw [World.cell?_alloc_mark]
    rw [← Array.getElem?_toList, toList_madeCells_one]
    simp [hj]
  · simp [go_sem]

/-- the j-th word that is picked -/
def pick (ss : List ByteArray) (n : Nat) (ps : Nat → Nat) (j : Nat) : ByteArray := if n = 0 then ⟨#[120]⟩ else at' ss (ps j % n)

theorem looks_set {w : World} {b n : Nat} {f : ByteArray → Bool} (h : Set w b n f) : Looks w (.map (some b)) f := fun w' hb s hs t ht => (h.later hb h.lt).look s hs t ht

/-- The word is stored: one more stands. -/
theorem pick_step (g pn i : Nat) (P : Nat → ByteArray) (v : ByteArray) (w0 wr : World) (hv : v = P i) (hil : i < pn) (hX : Below g w0 wr) (hK : ∀ j, j < i → wr.cell? ⟨g, j, none⟩ = some (.string (P j)))
    (hY : ∀ j, j < pn → ∃ s, wr.cell? ⟨g, j, none⟩ = some (.string s)) (hF : ∀ j, j < pn → wr.frozen? ⟨g, j, none⟩ = false) :
    Below g w0 (wr.setCell ⟨g, i, none⟩ (.string v)) ∧ (∀ j, j < i + 1 → (wr.setCell ⟨g, i, none⟩ (.string v)).cell? ⟨g, j, none⟩ = some (.string (P j))) ∧
      (∀ j, j < pn → ∃ s, (wr.setCell ⟨g, i, none⟩ (.string v)).cell? ⟨g, j, none⟩ = some (.string s)) ∧ ∀ j, j < pn → (wr.setCell ⟨g, i, none⟩ (.string v)).frozen? ⟨g, j, none⟩ = false := by
  obtain ⟨s0, h0⟩ := hY i hil
  have hsame : (wr.setCell ⟨g, i, none⟩ (.string v)).cell? ⟨g, i, none⟩ = some (.string v) := World.cell?_setCell_same _ _ _ h0
  have hoth : ∀ j, j ≠ i → (wr.setCell ⟨g, i, none⟩ (.string v)).cell? ⟨g, j, none⟩ = wr.cell? ⟨g, j, none⟩ := fun j hj => World.cell?_setCell_other _ _ _ _ (by intro h; cases h; exact hj rfl)
  refine ⟨hX.setCell (p := ⟨g, i, none⟩) (Nat.le_refl _) _, fun j hj => ?_, fun j hj => ?_, fun j hj => ?_⟩
  · by_cases e : j = i
    · subst e; rw [hsame, hv]
    · rw [hoth j e]; exact hK j (by omega)
  · by_cases e : j = i
    · subst e; exact ⟨_, hsame⟩
    · rw [hoth j e]; exact hY j hj
  · rw [World.frozen?_setCell]; exact hF j hj

/-- the picked words, as a list -/
theorem picked_words (g pn k : Nat) (ss : List ByteArray) (ps : Nat → Nat) (wr : World) (hK : ∀ j, j < pn → wr.cell? ⟨g, j, none⟩ = some (.string (pick ss k ps j))) (hs : 0 < k → ∀ j, j < k → (at' ss j).size ≤ maxLen) :
    ∃ ss', Words wr g 0 pn ss' := by
  have e : ∀ j, j < pn → at' ((List.range pn).map (pick ss k ps)) j = pick ss k ps j := fun j hj => by simp [at', List.getD, hj]
  refine ⟨(List.range pn).map (pick ss k ps), ⟨fun j hj => ?_, fun j hj => ?_⟩⟩
  · rw [Nat.zero_add, e j hj]; exact hK j hj
  · rw [e j hj]
    unfold pick
    split
    · simp [maxLen, ByteArray.size]
    · exact hs (by omega) _ (Nat.mod_lt _ (by omega))

set_option maxRecDepth 100000 in
set_option maxHeartbeats 4000000 in
theorem picked_any (t : ByteArray) (a pa : Option Addr) (n c pn pc : Nat) (ss : List ByteArray) (ps : Nat → Nat) (w : World) (hn : n ≤ 1024) (hp : pn ≤ 1024)
    (hC : 0 < n → ∃ b o, a = some ⟨b, o, none⟩ ∧ Words w b o n ss)
    (hP : 0 < pn → ∃ b o, pa = some ⟨b, o, none⟩ ∧ ∀ j, j < pn → w.cell? ⟨b, o + j, none⟩ = some (.int .u8 (ps j : Nat)) ∧ ps j ≤ 255) :
    Calls Ybaf.prog 4 #[.string t, .slice a n c, .slice pa pn pc] w fun e w' => e = .returned (.bool true) ∧ Below w.heap.size w w' := by
  have hmk := mk23 w
  have hn1 : decide (1024 < (n : Int)) = false := by simp; omega
  have hp1 : decide (1024 < (pn : Int)) = false := by simp; omega
  have HC : Hid (0 < n → ∃ b o, a = some ⟨b, o, none⟩ ∧ Words w b o n ss) := hC
  have HP : Hid (0 < pn → ∃ b o, pa = some ⟨b, o, none⟩ ∧ ∀ j, j < pn → w.cell? ⟨b, o + j, none⟩ = some (.int .u8 (ps j : Nat)) ∧ ps j ≤ 255) := hP
  clear hC hP
  go_enter Ybaf.func4, Ybaf.ntmps4
  go_wp2_with fail
  go_loopg [8] n (fun g s8 wr => ∃ k : Nat, k ≤ n ∧ n - k ≤ g ∧ s8 = .int .i64 k ∧ Set wr w.heap.size k (fun x => decide (∃ j, j < k ∧ x = at' ss j)) ∧ Below w.heap.size w wr)
  case atStart => exact ⟨0, Nat.zero_le _, by omega, rfl, by simpa using Set.made w, (Below.refl _ _).alloc (Nat.le_refl _) _⟩
  case round =>
    obtain ⟨k, hk, hg, rfl, hset, hbel⟩ := hrel
    have HB : Hid (Below w.heap.size w wr) := hbel
    clear hbel hmk
    by_cases hlt : k < n
    · obtain ⟨b, o, rfl, hW⟩ := HC.out (by omega)
      have g1 := (hW.later HB.out).cell k hlt
      obtain ⟨w1, hrun, hs1, hb1⟩ := hset.put (at' ss k) (hW.small k hlt) (by simp [maxLen]; omega) 23 Ybaf.underlying23
      rw [set_step] at hs1
      have HS1 : Hid (Set w1 w.heap.size (k + 1) (fun x => decide (∃ j, j < k + 1 ∧ x = at' ss j))) := hs1
      have HB1 : Hid (Below w.heap.size w w1) := HB.out.trans hb1
      clear hset hs1 hb1 hW
      go_wp2
      go_roundg (n - (k + 1))
      case measure => omega
      case rel => exact ⟨k + 1, by omega, by omega, by go_num, HS1.out, HB1.out⟩
    · obtain rfl : k = n := by omega
      have HS : Hid (Set wr w.heap.size k (fun x => decide (∃ j, j < k ∧ x = at' ss j))) := hset
      clear hset
      obtain ⟨w0, hw0⟩ : ∃ w0, w0 = wr := ⟨_, rfl⟩
      subst hw0
      cases pa with
      | none =>
        obtain ⟨P, hc, hz⟩ := agree_nil w0 t (.map (some w.heap.size))
        have HB0 : Hid (Below w.heap.size w w0) := HB.out
        have HC5 : Hid (Calls Ybaf.prog 5 #[.string t, .slice none 0 0, .map (some w.heap.size)] w0 fun e w' => ((e = .returned .nilIface ∧ P) ∨ (∃ a, e = .returned (.iface 38 (.pointer (some a))) ∧ ¬ P)) ∧ Below w0.heap.size w0 w') := hc
        have HZ : Hid (∀ w', Below w0.heap.size w0 w' → Calls Ybaf.prog 6 #[.slice none 0 0, .map (some w.heap.size)] w' fun e w'' => ((e = .returned (.bool true) ∧ P) ∨ (e = .returned (.bool false) ∧ ¬ P)) ∧ Below w'.heap.size w' w'') := hz
        clear hc hz
        go_wp2_with (go_at_call 5; refine HC5.out.mono ?_; rintro e w1 ⟨h1, hb1⟩; rcases h1 with ⟨rfl, hP⟩ | ⟨a1, rfl, hP⟩)
        all_goals clear HC5
        · have HZ1 : Hid (Calls Ybaf.prog 6 #[.slice none 0 0, .map (some w.heap.size)] w1.drew fun e w'' => e = .returned (.bool true) ∧ Below w1.drew.heap.size w1.drew w'') := by
            refine (HZ.out _ hb1.drew).mono ?_
            rintro e w2 ⟨⟨rfl, _⟩ | ⟨_, h⟩, hb⟩
            · exact ⟨rfl, hb⟩
            · exact absurd hP h
          go_wp2_with fail
          go_region_held3 (fun _ => True) (first | go_keep | trivial) ((go_at_call 6; refine HZ1.out.mono ?_; rintro e w2 ⟨rfl, hb2⟩))
          go_wp2
          go_ret
          exact ⟨rfl, HB0.out.trans ((hb1.drew.trans (hb2.mono hb1.drew.size)).mono HB0.out.size)⟩
        · have HZ1 : Hid (Calls Ybaf.prog 6 #[.slice none 0 0, .map (some w.heap.size)] w1.drew fun e w'' => e = .returned (.bool false) ∧ Below w1.drew.heap.size w1.drew w'') := by
            refine (HZ.out _ hb1.drew).mono ?_
            rintro e w2 ⟨⟨_, h⟩ | ⟨rfl, _⟩, hb⟩
            · exact absurd h hP
            · exact ⟨rfl, hb⟩
          go_wp2_with fail
          go_region_held3 (fun _ => True) (first | go_keep | trivial) ((go_at_call 6; refine HZ1.out.mono ?_; rintro e w2 ⟨rfl, hb2⟩))
          go_wp2
          go_ret
          exact ⟨rfl, HB0.out.trans ((hb1.drew.trans (hb2.mono hb1.drew.size)).mono HB0.out.size)⟩
      | some px =>
        have hmk2 := run_make_row' (P := Ybaf.prog) 22 9 (.string ⟨#[]⟩) 16 Ybaf.underlying22 info9 rfl .i64 .i64 pn (by omega) (by omega) w0
        obtain ⟨m1, m2, m3⟩ := made_facts w0 pn
        generalize w0.alloc (.cells (madeCells #[.string ⟨#[]⟩] pn) 9) = w2 at hmk2 m1 m2 m3
        have M1 : Hid (Below w0.heap.size w0 w2) := m1
        have M2 : Hid (∀ j, j < pn → w2.cell? ⟨w0.heap.size, j, none⟩ = some (.string ⟨#[]⟩)) := m2
        have M3 : Hid (∀ j, j < pn → w2.frozen? ⟨w0.heap.size, j, none⟩ = false) := m3
        clear m1 m2 m3
        go_wp2_with fail
        go_loopg [10] pn (fun g s10 wr => ∃ i : Nat, i ≤ pn ∧ pn - i ≤ g ∧ s10 = .int .i64 i ∧ Below w0.heap.size w0 wr ∧ (∀ j, j < i → wr.cell? ⟨w0.heap.size, j, none⟩ = some (.string (pick ss k ps j))) ∧ (∀ j, j < pn → ∃ s, wr.cell? ⟨w0.heap.size, j, none⟩ = some (.string s)) ∧ ∀ j, j < pn → wr.frozen? ⟨w0.heap.size, j, none⟩ = false)
        case atStart => exact ⟨0, Nat.zero_le _, by omega, rfl, M1.out, fun j hj => absurd hj (by omega), fun j hj => ⟨_, M2.out j hj⟩, M3.out⟩
        case round =>
          obtain ⟨i, hi, hgi, rfl, hbx, hpk, hany, hfro⟩ := hrel
          have HX : Hid (Below w0.heap.size w0 wr) := hbx
          have HK : Hid (∀ j, j < i → wr.cell? ⟨w0.heap.size, j, none⟩ = some (.string (pick ss k ps j))) := hpk
          have HY : Hid (∀ j, j < pn → ∃ s, wr.cell? ⟨w0.heap.size, j, none⟩ = some (.string s)) := hany
          have HF : Hid (∀ j, j < pn → wr.frozen? ⟨w0.heap.size, j, none⟩ = false) := hfro
          clear hbx hpk hany hfro hmk2 M1 M2 M3
          by_cases hil : i < pn
          · obtain ⟨pb, po, hpx, hps⟩ := HP.out (by omega)
            cases hpx
            have gp := cell_later HX.out (cell_later HB.out (hps i hil).1)
            have gp1 := (hps i hil).2
            obtain ⟨s0, gs⟩ := HY.out i hil
            have gf := HF.out i hil
            clear hps
            by_cases hk0 : k = 0
            · subst hk0
              go_wp2
              go_roundg (pn - (i + 1))
              case measure => omega
              case rel =>
                obtain ⟨r1, r2, r3, r4⟩ := pick_step w0.heap.size pn i (pick ss 0 ps) ⟨#[120]⟩ w0 wr (by simp [pick]) hil HX.out HK.out HY.out HF.out
                exact ⟨i + 1, by omega, by omega, by go_num, r1, r2, r3, r4⟩
            · obtain ⟨b, o, rfl, hW⟩ := HC.out (by omega)
              have hmod : ps i % k < k := Nat.mod_lt _ (by omega)
              have gc := cell_later HX.out ((hW.later HB.out).cell (ps i % k) hmod)
              clear hW
              go_wp2
              go_roundg (pn - (i + 1))
              case measure => omega
              case rel =>
                obtain ⟨r1, r2, r3, r4⟩ := pick_step w0.heap.size pn i (pick ss k ps) (at' ss (ps i % k)) w0 wr (by simp [pick, hk0]) hil HX.out HK.out HY.out HF.out
                exact ⟨i + 1, by omega, by omega, by go_num, r1, r2, r3, r4⟩
          · obtain rfl : i = pn := by omega
            have hag : Agree wr t (.slice (some ⟨w0.heap.size, 0, none⟩) i i) (.map (some w.heap.size)) := by
              by_cases h0 : i = 0
              · subst h0
                exact agree_none wr t _ 0 _
              · obtain ⟨ss', hw'⟩ := picked_words w0.heap.size i k ss ps wr HK.out (fun hk1 j hj => by obtain ⟨_, _, _, hW⟩ := HC.out hk1; exact hW.small j hj)
                exact agree_some wr t _ 0 i i ss' _ _ (by omega) (by omega) hw' (looks_set (HS.out.later HX.out HS.out.lt))
            obtain ⟨P, hc, hz⟩ := hag
            have HB0 : Hid (Below w.heap.size w wr) := HB.out.trans (HX.out.mono HB.out.size)
            have HC5 : Hid (Calls Ybaf.prog 5 #[.string t, .slice (some ⟨w0.heap.size, 0, none⟩) i i, .map (some w.heap.size)] wr fun e w' => ((e = .returned .nilIface ∧ P) ∨ (∃ a, e = .returned (.iface 38 (.pointer (some a))) ∧ ¬ P)) ∧ Below wr.heap.size wr w') := hc
            have HZ : Hid (∀ w', Below wr.heap.size wr w' → Calls Ybaf.prog 6 #[.slice (some ⟨w0.heap.size, 0, none⟩) i i, .map (some w.heap.size)] w' fun e w'' => ((e = .returned (.bool true) ∧ P) ∨ (e = .returned (.bool false) ∧ ¬ P)) ∧ Below w'.heap.size w' w'') := hz
            clear hc hz
            go_wp2_with (go_at_call 5; refine HC5.out.mono ?_; rintro e w1 ⟨h1, hb1⟩; rcases h1 with ⟨rfl, hP⟩ | ⟨a1, rfl, hP⟩)
            all_goals clear HC5
            · have HZ1 : Hid (Calls Ybaf.prog 6 #[.slice (some ⟨w0.heap.size, 0, none⟩) i i, .map (some w.heap.size)] w1.drew fun e w'' => e = .returned (.bool true) ∧ Below w1.drew.heap.size w1.drew w'') := by
                refine (HZ.out _ hb1.drew).mono ?_
                rintro e w2 ⟨⟨rfl, _⟩ | ⟨_, h⟩, hb⟩
                · exact ⟨rfl, hb⟩
                · exact absurd hP h
              go_wp2_with fail
              go_region_held3 (fun _ => True) (first | go_keep | trivial) ((go_at_call 6; refine HZ1.out.mono ?_; rintro e w2 ⟨rfl, hb2⟩))
              go_wp2
              go_ret
              exact ⟨rfl, HB0.out.trans ((hb1.drew.trans (hb2.mono hb1.drew.size)).mono HB0.out.size)⟩
            · have HZ1 : Hid (Calls Ybaf.prog 6 #[.slice (some ⟨w0.heap.size, 0, none⟩) i i, .map (some w.heap.size)] w1.drew fun e w'' => e = .returned (.bool false) ∧ Below w1.drew.heap.size w1.drew w'') := by
                refine (HZ.out _ hb1.drew).mono ?_
                rintro e w2 ⟨⟨_, h⟩ | ⟨rfl, _⟩, hb⟩
                · exact absurd h hP
                · exact ⟨rfl, hb⟩
              go_wp2_with fail
              go_region_held3 (fun _ => True) (first | go_keep | trivial) ((go_at_call 6; refine HZ1.out.mono ?_; rintro e w2 ⟨rfl, hb2⟩))
              go_wp2
              go_ret
              exact ⟨rfl, HB0.out.trans ((hb1.drew.trans (hb2.mono hb1.drew.size)).mono HB0.out.size)⟩
end Go.Proofs.YbulkcqmkFmt
