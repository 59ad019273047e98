/-
  Seat b6602247a: zzDestModel_b1, and the walk of FnDestinationEndMatchesModel.
-/
import Derived.Test.Qxb6602247aBalance
import Derived.Test.Qxb6602247aLawShift
namespace Go.Proofs.Qxb6602247a
open Go.RowKit
set_option linter.unusedVariables false

set_option maxHeartbeats 2000000 in
set_option maxRecDepth 100000 in
/-- zzDestModel_b1 at a '<'. -/
theorem model_ang (s : ByteArray) (a : Nat) (w : World) (hs : s.size ≤ 1048576) (ha : a < s.size) (h60 : (nums s).getD a 0 = 60) :
    Calls Try.prog 10 #[.string s, .int .i64 a] w fun e w' => e = .returned (.int .i64 (dest (nums s) a)) ∧ w = w' := by
  have HL : Hid ((nums s).length = s.size) := nums_len s
  obtain ⟨E, hE⟩ : ∃ E, E = dest (nums s) a := ⟨_, rfl⟩
  rw [← hE]
  have HE : Hid (E = ang (a + 1) false ((nums s).drop (a + 1))) := by
    rw [hE]
    unfold dest
    exact if_pos ⟨by have := HL.out; omega, h60⟩
  have hx0 : ((s[a]'ha).toNat : Int) = 60 := by rw [nums_get s a ha]; exact h60
  have HG : Hid (∀ k (h : k < s.size), (s[k].toNat : Int) = (nums s).getD k 0) := nums_get s
  have HEs : Hid (∀ (i : Nat) (S J : Int), S = (a : Int) + 1 → J = (a : Int) + 1 + (i : Int) → i ≤ 1048577 → Calls Try.prog 17 #[.string s, .int .i64 S, .int .i64 J] w fun e w' => e = .returned (.bool (fl (nums s) (a + 1) i)) ∧ w = w') := fun i S J hS hJ hi => zzEscaped s (a + 1) i S J w hs (by omega) (by omega) (by omega) hi
  clear hE h60
  generalize nums s = xs at *
  go_enter Try.func10, Try.ntmps10
  go_wp2
  clear hx0
  go_loop [5] (fun jv => ∃ k : Nat, jv = .int .i64 ((a : Int) + 1 + (k : Int)) ∧ a + 1 + k ≤ s.size ∧ E = ang (a + 1 + k) (fl xs (a + 1) k) (xs.drop (a + 1 + k))) (fun jv => s.size - (intOf jv).toNat)
  case atStart => exact ⟨0, by go_num, by omega, HE.out⟩
  case round =>
    obtain ⟨k, rfl, hk, hEk⟩ := hrel
    have HEk : Hid (E = ang (a + 1 + k) (fl xs (a + 1) k) (xs.drop (a + 1 + k))) := hEk
    clear hEk
    by_cases hlt : a + 1 + k < s.size
    · have HIL : Hid (a + 1 + k < xs.length) := (by show a + 1 + k < xs.length; have := HL.out; omega)
      have HQ := HEs.out k ((a : Int) + 1) ((a : Int) + 1 + (k : Int)) rfl rfl (by omega)
      have hx := HG.out (a + 1 + k) hlt
      have hlt' : (a : Int) + 1 + (k : Int) < (s.size : Int) := by omega
      cases hf : fl xs (a + 1) k with
      | true =>
        have HF : Hid (E = ang (a + 1 + (k + 1)) (fl xs (a + 1) (k + 1)) (xs.drop (a + 1 + (k + 1)))) := by
          have e := HEk.out
          rw [ang_fl xs (a + 1) k HIL.out (fun h => by rw [hf] at h; cases h)] at e
          exact e
        rw [hf] at HQ
        clear hf hx
        go_wp2_with (go_at_call 17; refine HQ.mono ?_; rintro e w' ⟨rfl, rfl⟩)
        go_round
        case rel => exact ⟨k + 1, by go_num, by omega, HF.out⟩
        case measure => simp [intOf]; omega
      | false =>
        have HEk' : Hid (E = ang (a + 1 + k) false (xs.drop (a + 1 + k))) := by have e := HEk.out; rw [hf] at e; exact e
        rw [hf] at HQ
        rcases (show xs.getD (a + 1 + k) 0 = 62 ∨ xs.getD (a + 1 + k) 0 = 60 ∨ xs.getD (a + 1 + k) 0 = 10 ∨ xs.getD (a + 1 + k) 0 = 13 ∨ (xs.getD (a + 1 + k) 0 ≠ 62 ∧ xs.getD (a + 1 + k) 0 ≠ 60 ∧ xs.getD (a + 1 + k) 0 ≠ 10 ∧ xs.getD (a + 1 + k) 0 ≠ 13) by omega) with h | h | h | h | ⟨h1, h2, h3, h4⟩
        · have HF : Hid ((a : Int) + 1 + (k : Int) + 1 = E) := by
            have e := HEk'.out
            rw [ang_close xs (a + 1 + k) HIL.out h] at e
            show (a : Int) + 1 + (k : Int) + 1 = E
            omega
          rw [h] at hx
          clear h hf
          go_wp2_with (go_at_call 17; refine HQ.mono ?_; rintro e w' ⟨rfl, rfl⟩)
          go_ret
          exact ⟨ret_int HF.out, rfl⟩
        · have HF : Hid ((-1 : Int) = E) := by have e := HEk'.out; rw [ang_stop xs (a + 1 + k) HIL.out (.inl h)] at e; exact e.symm
          rw [h] at hx
          clear h hf
          go_wp2_with (go_at_call 17; refine HQ.mono ?_; rintro e w' ⟨rfl, rfl⟩)
          go_ret
          exact ⟨ret_int HF.out, rfl⟩
        · have HF : Hid ((-1 : Int) = E) := by have e := HEk'.out; rw [ang_stop xs (a + 1 + k) HIL.out (.inr (.inl h))] at e; exact e.symm
          rw [h] at hx
          clear h hf
          go_wp2_with (go_at_call 17; refine HQ.mono ?_; rintro e w' ⟨rfl, rfl⟩)
          go_ret
          exact ⟨ret_int HF.out, rfl⟩
        · have HF : Hid ((-1 : Int) = E) := by have e := HEk'.out; rw [ang_stop xs (a + 1 + k) HIL.out (.inr (.inr h))] at e; exact e.symm
          rw [h] at hx
          clear h hf
          go_wp2_with (go_at_call 17; refine HQ.mono ?_; rintro e w' ⟨rfl, rfl⟩)
          go_ret
          exact ⟨ret_int HF.out, rfl⟩
        · have HF : Hid (E = ang (a + 1 + (k + 1)) (fl xs (a + 1) (k + 1)) (xs.drop (a + 1 + (k + 1)))) := by
            have e := HEk.out
            rw [ang_fl xs (a + 1) k HIL.out (fun _ => ⟨h1, by omega⟩)] at e
            exact e
          have g1 : (xs.getD (a + 1 + k) 0 == 62) = false := by simpa using h1
          have g2 : (xs.getD (a + 1 + k) 0 == 60) = false := by simpa using h2
          have g3 : (xs.getD (a + 1 + k) 0 == 10) = false := by simpa using h3
          have g4 : (xs.getD (a + 1 + k) 0 == 13) = false := by simpa using h4
          clear h1 h2 h3 h4 hf
          generalize xs.getD (a + 1 + k) 0 = x at *
          go_wp2_with (go_at_call 17; refine HQ.mono ?_; rintro e w' ⟨rfl, rfl⟩)
          go_round
          case rel => exact ⟨k + 1, by go_num, by omega, HF.out⟩
          case measure => simp [intOf]; omega
    · have HF : Hid ((-1 : Int) = E) := by have e := HEk.out; rw [ang_end xs _ (by have := HL.out; omega)] at e; exact e.symm
      have hge : ¬ ((a : Int) + 1 + (k : Int) < (s.size : Int)) := by omega
      go_wp2
      go_ret
      exact ⟨ret_int HF.out, rfl⟩

theorem over_no40 (xs : List Int) (st k : Nat) (h : xs.getD (st + k) 0 ≠ 40) : over33 xs st k = false := by
  unfold over33
  rw [decide_eq_false (fun hh => h hh.1), Bool.and_false]
theorem over_esc (xs : List Int) (st k : Nat) (h : fl xs st k = true) : over33 xs st k = false := by simp [over33, h]
theorem over_plain (xs : List Int) (st k : Nat) (h : fl xs st k = false) (h40 : xs.getD (st + k) 0 = 40) : over33 xs st k = decide (32 < bal xs st (k + 1)) := by
  unfold over33
  rw [h, Bool.not_false, Bool.true_and, decide_eq_decide]
  exact ⟨fun hh => hh.2, fun hh => ⟨h40, hh⟩⟩

set_option maxHeartbeats 4000000 in
set_option maxRecDepth 100000 in
/-- zzDestModel_b1 elsewhere. -/
theorem model_bare (s : ByteArray) (a : Nat) (w : World) (hs : s.size ≤ 1048576) (ha : a ≤ s.size) (h60 : ¬ (a < s.size ∧ (nums s).getD a 0 = 60)) :
    Calls Try.prog 10 #[.string s, .int .i64 a] w fun e w' => e = .returned (.int .i64 (dest (nums s) a)) ∧ w = w' := by
  have HL : Hid ((nums s).length = s.size) := nums_len s
  obtain ⟨E, hE⟩ : ∃ E, E = dest (nums s) a := ⟨_, rfl⟩
  rw [← hE]
  have HE : Hid (E = BR (nums s) a 0) := by
    rw [hE]
    unfold dest
    exact if_neg (fun h => h60 ⟨by have := HL.out; omega, h.2⟩)
  have HX : Hid (∀ h : a < s.size, ((s[a]'h).toNat : Int) = (nums s).getD a 0 ∧ ((nums s).getD a 0 == 60) = false) := fun h => ⟨nums_get s a h, by simpa using fun e => h60 ⟨h, e⟩⟩
  have HG : Hid (∀ k (h : k < s.size), (s[k].toNat : Int) = (nums s).getD k 0) := nums_get s
  have HEs : Hid (∀ (i : Nat) (J : Int), J = (a : Int) + (i : Int) → i ≤ 1048577 → Calls Try.prog 17 #[.string s, .int .i64 a, .int .i64 J] w fun e w' => e = .returned (.bool (fl (nums s) a i)) ∧ w = w') := fun i J hJ hi => zzEscaped s a i a J w hs rfl (by omega) (by omega) hi
  have HBs : Hid (∀ (i : Nat) (J : Int), J = (a : Int) + (i : Int) → a + i ≤ s.size → Calls Try.prog 19 #[.string s, .int .i64 a, .int .i64 J] w fun e w' => e = .returned (.int .i64 (bal (nums s) a i)) ∧ w = w') := fun i J hJ hi => zzBalance s a i a J w hs rfl (by omega) hi
  have HTm := zzTerm s a w hs ha
  clear hE h60
  generalize nums s = xs at *
  rcases Nat.lt_or_ge a s.size with hal | hal
  · obtain ⟨hx0, hxe⟩ := HX.out hal
    clear HX
    generalize xs.getD a 0 = x0 at *
    have hal' : (a : Int) < (s.size : Int) := by omega
    go_enter Try.func10, Try.ntmps10
    go_wp2_with fail
    refine HTm.mono ?_
    rintro e w' ⟨rfl, k0, rfl, hk0, hter, hpt⟩
    have HT : Hid ((∀ i, i < k0 → stopsAt xs a i = false) ∧ (a + k0 < s.size → stopsAt xs a k0 = true)) := ⟨hter, hpt⟩
    clear HTm hter hpt
    go_wp2_with fail
    go_loop [8] (fun qv => ∃ i : Nat, qv = .int .i64 ((a : Int) + (i : Int)) ∧ i ≤ k0 ∧ E = BR xs a i ∧ 0 ≤ bal xs a i) (fun qv => (a + k0) - (intOf qv).toNat)
    case atStart => exact ⟨0, by go_num, by omega, HE.out, by simp [bal]⟩
    case round =>
      obtain ⟨i, rfl, hik, hEi, hbi⟩ := hrel
      have HEi : Hid (E = BR xs a i ∧ 0 ≤ bal xs a i) := ⟨hEi, hbi⟩
      clear hEi hbi
      by_cases hlt : i < k0
      · have hx := HG.out (a + i) (by omega)
        have HIL : Hid (a + i < xs.length) := (by show a + i < xs.length; have := HL.out; omega)
        have hlt' : (a : Int) + (i : Int) < (a : Int) + (k0 : Int) := by omega
        have HN : Hid (over33 xs a i = false → E = BR xs a (i + 1) ∧ 0 ≤ bal xs a (i + 1)) := fun ho => by
          have := br_step xs a i HIL.out (HT.out.1 i hlt) HEi.out.2 ho
          exact ⟨HEi.out.1.trans this.1, this.2⟩
        by_cases h40 : xs.getD (a + i) 0 = 40
        · have HQ := HEs.out i ((a : Int) + (i : Int)) rfl (by omega)
          cases hf : fl xs a i with
          | true =>
            have HF : Hid (E = BR xs a (i + 1) ∧ 0 ≤ bal xs a (i + 1)) := HN.out (over_esc xs a i hf)
            rw [hf] at HQ
            rw [h40] at hx
            clear hf h40
            go_wp2_with (go_at_call 17; refine HQ.mono ?_; rintro e w' ⟨rfl, rfl⟩)
            go_round
            case rel => exact ⟨i + 1, by go_num, by omega, HF.out.1, HF.out.2⟩
            case measure => simp [intOf]; omega
          | false =>
            have hov := over_plain xs a i hf h40
            have HB := HBs.out (i + 1) ((a : Int) + (i : Int) + 1) (by omega) (by omega)
            rw [hf] at HQ
            rw [h40] at hx
            clear hf h40
            by_cases h33 : 32 < bal xs a (i + 1)
            · have HF : Hid ((-1 : Int) = E) := by
                rw [decide_eq_true h33] at hov
                have := br_over xs a i HIL.out HEi.out.2 hov
                exact (HEi.out.1.trans this).symm
              clear hov
              generalize bal xs a (i + 1) = B at *
              go_wp2_with (first | (go_at_call 17; refine HQ.mono ?_; rintro e w' ⟨rfl, rfl⟩) | (go_at_call 19; refine HB.mono ?_; rintro e w' ⟨rfl, rfl⟩))
              go_ret
              exact ⟨ret_int HF.out, rfl⟩
            · have HF : Hid (E = BR xs a (i + 1) ∧ 0 ≤ bal xs a (i + 1)) := HN.out (by rw [hov]; exact decide_eq_false h33)
              clear hov
              obtain ⟨B, hB⟩ : ∃ B, B = bal xs a (i + 1) := ⟨_, rfl⟩
              rw [← hB] at HB h33
              clear hB
              go_wp2_with (first | (go_at_call 17; refine HQ.mono ?_; rintro e w' ⟨rfl, rfl⟩) | (go_at_call 19; refine HB.mono ?_; rintro e w' ⟨rfl, rfl⟩))
              go_round
              case rel => exact ⟨i + 1, by go_num, by omega, HF.out.1, HF.out.2⟩
              case measure => simp [intOf]; omega
        · have HF : Hid (E = BR xs a (i + 1) ∧ 0 ≤ bal xs a (i + 1)) := HN.out (over_no40 xs a i h40)
          have g1 : (xs.getD (a + i) 0 == 40) = false := by simpa using h40
          clear h40
          generalize xs.getD (a + i) 0 = x at *
          go_wp2
          go_round
          case rel => exact ⟨i + 1, by go_num, by omega, HF.out.1, HF.out.2⟩
          case measure => simp [intOf]; omega
      · obtain rfl : i = k0 := by omega
        have HB := HBs.out i ((a : Int) + (i : Int)) rfl hk0
        rcases Nat.lt_or_ge (a + i) s.size with hp | hp
        · have HF : Hid ((a : Int) + (i : Int) = E) := by
            have := br_stops xs a i (by have := HL.out; omega) HEi.out.2 (HT.out.2 hp)
            have e := HEi.out.1
            show (a : Int) + (i : Int) = E
            omega
          have hne : ((a : Int) + (i : Int) == (s.size : Int)) = false := by simp; omega
          clear HB
          go_wp2
          go_ret
          exact ⟨ret_int HF.out, rfl⟩
        · have hend := br_end xs a i (by have := HL.out; omega)
          rw [← HEi.out.1] at hend
          have heq : ((a : Int) + (i : Int) == (s.size : Int)) = true := by simp; omega
          by_cases hb : 0 < bal xs a i
          · rw [if_pos hb] at hend
            have HF : Hid ((-1 : Int) = E) := hend.symm
            clear hend HEi
            generalize bal xs a i = B at *
            go_wp2_with (go_at_call 19; refine HB.mono ?_; rintro e w' ⟨rfl, rfl⟩)
            go_ret
            exact ⟨ret_int HF.out, rfl⟩
          · rw [if_neg hb] at hend
            have HF : Hid ((a : Int) + (i : Int) = E) := (by show (a : Int) + (i : Int) = E; omega)
            clear hend HEi
            generalize bal xs a i = B at *
            go_wp2_with (go_at_call 19; refine HB.mono ?_; rintro e w' ⟨rfl, rfl⟩)
            go_ret
            exact ⟨ret_int HF.out, rfl⟩
  · have hal' : ¬ ((a : Int) < (s.size : Int)) := by omega
    clear HX
    go_enter Try.func10, Try.ntmps10
    go_wp2_with fail
    refine HTm.mono ?_
    rintro e w' ⟨rfl, k0, rfl, hk0, hter, hpt⟩
    have HT : Hid ((∀ i, i < k0 → stopsAt xs a i = false) ∧ (a + k0 < s.size → stopsAt xs a k0 = true)) := ⟨hter, hpt⟩
    clear HTm hter hpt
    go_wp2_with fail
    go_loop [8] (fun qv => ∃ i : Nat, qv = .int .i64 ((a : Int) + (i : Int)) ∧ i ≤ k0 ∧ E = BR xs a i ∧ 0 ≤ bal xs a i) (fun qv => (a + k0) - (intOf qv).toNat)
    case atStart => exact ⟨0, by go_num, by omega, HE.out, by simp [bal]⟩
    case round =>
      obtain ⟨i, rfl, hik, hEi, hbi⟩ := hrel
      have HEi : Hid (E = BR xs a i ∧ 0 ≤ bal xs a i) := ⟨hEi, hbi⟩
      clear hEi hbi
      by_cases hlt : i < k0
      · omega
      · obtain rfl : i = k0 := by omega
        have HB := HBs.out i ((a : Int) + (i : Int)) rfl hk0
        rcases Nat.lt_or_ge (a + i) s.size with hp | hp
        · have HF : Hid ((a : Int) + (i : Int) = E) := by
            have := br_stops xs a i (by have := HL.out; omega) HEi.out.2 (HT.out.2 hp)
            have e := HEi.out.1
            show (a : Int) + (i : Int) = E
            omega
          have hne : ((a : Int) + (i : Int) == (s.size : Int)) = false := by simp; omega
          clear HB
          go_wp2
          go_ret
          exact ⟨ret_int HF.out, rfl⟩
        · have hend := br_end xs a i (by have := HL.out; omega)
          rw [← HEi.out.1] at hend
          have heq : ((a : Int) + (i : Int) == (s.size : Int)) = true := by simp; omega
          by_cases hb : 0 < bal xs a i
          · rw [if_pos hb] at hend
            have HF : Hid ((-1 : Int) = E) := hend.symm
            clear hend HEi
            generalize bal xs a i = B at *
            go_wp2_with (go_at_call 19; refine HB.mono ?_; rintro e w' ⟨rfl, rfl⟩)
            go_ret
            exact ⟨ret_int HF.out, rfl⟩
          · rw [if_neg hb] at hend
            have HF : Hid ((a : Int) + (i : Int) = E) := (by show (a : Int) + (i : Int) = E; omega)
            clear hend HEi
            generalize bal xs a i = B at *
            go_wp2_with (go_at_call 19; refine HB.mono ?_; rintro e w' ⟨rfl, rfl⟩)
            go_ret
            exact ⟨ret_int HF.out, rfl⟩

/-- zzDestModel_b1 answers what 'dest' says. -/
theorem zzModel (s : ByteArray) (a : Nat) (w : World) (hs : s.size ≤ 1048576) (ha : a ≤ s.size) :
    Calls Try.prog 10 #[.string s, .int .i64 a] w fun e w' => e = .returned (.int .i64 (dest (nums s) a)) ∧ w = w' := by
  by_cases h : a < s.size ∧ (nums s).getD a 0 = 60
  · exact model_ang s a w hs h.1 h.2
  · exact model_bare s a w hs ha h

set_option maxHeartbeats 1000000 in
/-- The walk. -/
theorem walkModel (a0 : ByteArray) (a1 : Int) (w0 : a0.size ≤ maxLen) (w1 : (Lit.int .i64 a1).wf = true) (w : World) :
    Calls Try.prog 3 #[.string a0, .int .i64 a1] w fun e w' => e = .returned (.bool true) ∧ Grown w w' := by
  unfold maxLen at w0
  clear w1
  rcases Nat.lt_or_ge 4096 a0.size with hb0 | hb0
  · have hb : (4096 : Int) < (a0.size : Int) := by omega
    go_enter Try.func3, Try.ntmps3
    go_wp2
    all_goals go_ret
    all_goals exact ⟨rfl, Grown.refl _⟩
  by_cases hneg : a1 < 0
  · go_enter Try.func3, Try.ntmps3
    go_wp2
    go_ret
    exact ⟨rfl, Grown.refl _⟩
  by_cases hgt : (a0.size : Int) < a1
  · go_enter Try.func3, Try.ntmps3
    go_wp2
    go_ret
    exact ⟨rfl, Grown.refl _⟩
  obtain ⟨a, rfl⟩ : ∃ i : Nat, a1 = i := ⟨a1.toNat, by omega⟩
  have H1 := zzDest a0 a w (by omega) (by omega)
  have H2 := zzModel a0 a w (by omega) (by omega)
  generalize dest (nums a0) a = r at *
  go_enter Try.func3, Try.ntmps3
  go_wp2_with (first | (go_at_call 8; go_in) | (go_at_call 9; refine H1.mono ?_; rintro e w' ⟨rfl, rfl⟩) | (go_at_call 10; refine H2.mono ?_; rintro e w' ⟨rfl, rfl⟩))
  go_ret
  exact ⟨rfl, Grown.refl _⟩

end Go.Proofs.Qxb6602247a
