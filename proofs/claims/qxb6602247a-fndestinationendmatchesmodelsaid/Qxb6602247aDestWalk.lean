/-
  Seat b6602247a: destinationEnd.
-/
import Derived.Test.Qxb6602247aDest
namespace Go.Proofs.Qxb6602247a
open Go.RowKit
set_option linter.unusedVariables false

theorem head_drop (xs : List Int) (i : Nat) : (xs.drop (i + 1)).headD 0 = xs.getD (i + 1) 0 := by
  rw [List.headD_eq_head?_getD, List.head?_drop, List.getD_eq_getElem?_getD]

theorem ang_end (xs : List Int) (i : Nat) (h : xs.length ≤ i) (e : Bool) : ang i e (xs.drop i) = -1 := by
  rw [List.drop_of_length_le h]; cases e <;> rfl
theorem ang_close (xs : List Int) (i : Nat) (h : i < xs.length) (hx : xs.getD i 0 = 62) : ang i false (xs.drop i) = (i : Int) + 1 := by
  rw [drop_cons xs i h]; simp only [ang, if_pos hx]
theorem ang_esc (xs : List Int) (i : Nat) (h : i + 1 < xs.length) (hx : xs.getD i 0 = 92) (hp : punct (xs.getD (i + 1) 0) = true) : ang i false (xs.drop i) = ang (i + 2) false (xs.drop (i + 2)) := by
  have h62 : xs.getD i 0 ≠ 62 := by rw [hx]; decide
  have hc : xs.getD i 0 = 92 ∧ punct ((xs.drop (i + 1)).headD 0) = true := ⟨hx, by rw [head_drop]; exact hp⟩
  rw [drop_cons xs i (by omega)]
  simp only [ang, if_neg h62, if_pos hc]
  rw [drop_cons xs (i + 1) h]
  simp only [ang]
theorem ang_stop (xs : List Int) (i : Nat) (h : i < xs.length) (hx : xs.getD i 0 = 60 ∨ xs.getD i 0 = 10 ∨ xs.getD i 0 = 13) : ang i false (xs.drop i) = -1 := by
  have h62 : xs.getD i 0 ≠ 62 := by rcases hx with e | e | e <;> rw [e] <;> decide
  have h92 : ¬ (xs.getD i 0 = 92 ∧ punct ((xs.drop (i + 1)).headD 0) = true) := fun hh => by rcases hx with e | e | e <;> (rw [e] at hh; exact absurd hh.1 (by decide))
  rw [drop_cons xs i h]
  simp only [ang, if_neg h62, if_neg h92, if_pos hx]
theorem ang_next (xs : List Int) (i : Nat) (h : i < xs.length) (h1 : xs.getD i 0 ≠ 62) (h2 : ¬ (xs.getD i 0 = 92 ∧ punct (xs.getD (i + 1) 0) = true)) (h3 : ¬ (xs.getD i 0 = 60 ∨ xs.getD i 0 = 10 ∨ xs.getD i 0 = 13)) : ang i false (xs.drop i) = ang (i + 1) false (xs.drop (i + 1)) := by
  have h2' : ¬ (xs.getD i 0 = 92 ∧ punct ((xs.drop (i + 1)).headD 0) = true) := by rw [head_drop]; exact h2
  rw [drop_cons xs i h]
  simp only [ang, if_neg h1, if_neg h2', if_neg h3]
theorem getD_past (xs : List Int) (i : Nat) (h : xs.length ≤ i) : xs.getD i 0 = 0 := by
  rw [List.getD_eq_getElem?_getD, List.getElem?_eq_none h]; rfl

set_option maxHeartbeats 4000000 in
set_option maxRecDepth 100000 in
/-- destinationEnd at a '<'. -/
theorem dest_ang (s : ByteArray) (a : Nat) (w : World) (hs : s.size ≤ 1048576) (ha : a < s.size) (h60 : (nums s).getD a 0 = 60) :
    Calls Try.prog 16 #[.string s, .int .i64 a] w fun e w' => e = .returned (.int .i64 (dest (nums s) a)) ∧ w = w' := by
  have HL : Hid ((nums s).length = s.size) := nums_len s
  obtain ⟨E, hE⟩ : ∃ E, E = dest (nums s) a := ⟨_, rfl⟩
  rw [← hE]
  have HE : Hid (E = ang (a + 1) false ((nums s).drop (a + 1))) := by
    rw [hE]
    unfold dest
    exact if_pos ⟨by have := HL.out; omega, h60⟩
  have hx0 : ((s[a]'ha).toNat : Int) = 60 := by rw [nums_get s a ha]; exact h60
  have HG : Hid (∀ k (h : k < s.size), (s[k].toNat : Int) = (nums s).getD k 0) := nums_get s
  have HBy : Hid (∀ k, 0 ≤ (nums s).getD k 0 ∧ (nums s).getD k 0 ≤ 255) := nums_byte s
  clear hE h60
  generalize nums s = xs at *
  go_enter Try.func16, Try.ntmps16
  go_wp2
  clear hx0
  go_loop [5] (fun v => ∃ i : Nat, v = .int .i64 i ∧ a + 1 ≤ i ∧ i ≤ s.size ∧ E = ang i false (xs.drop i)) (fun v => s.size - (intOf v).toNat)
  case atStart => exact ⟨a + 1, by go_num, by omega, by omega, HE.out⟩
  case round =>
    obtain ⟨i, rfl, hai, hin, hEi⟩ := hrel
    have HEi : Hid (E = ang i false (xs.drop i)) := hEi
    clear hEi
    by_cases hlt : i < s.size
    · have HIL : Hid (i < xs.length) := (by show i < xs.length; have := HL.out; omega)
      have hx := HG.out i hlt
      rcases (show xs.getD i 0 = 62 ∨ xs.getD i 0 = 92 ∨ xs.getD i 0 = 60 ∨ xs.getD i 0 = 10 ∨ xs.getD i 0 = 13 ∨ (xs.getD i 0 ≠ 62 ∧ xs.getD i 0 ≠ 92 ∧ xs.getD i 0 ≠ 60 ∧ xs.getD i 0 ≠ 10 ∧ xs.getD i 0 ≠ 13) by omega) with h | h | h | h | h | ⟨h1, h2, h3, h4, h5⟩
      · -- the closing byte
        have HF : Hid ((i : Int) + 1 = E) := by have e := HEi.out; rw [ang_close xs i HIL.out h] at e; exact e.symm
        have hne : ((i : Int) == (s.size : Int)) = false := by simp; omega
        rw [h] at hx
        clear h
        go_wp2
        go_ret
        exact ⟨ret_int HF.out, rfl⟩
      · -- a backslash
        rcases Nat.lt_or_ge (i + 1) s.size with hl1 | hl1
        · have hy := HG.out (i + 1) hl1
          have hby := HBy.out (i + 1)
          cases hp : punct (xs.getD (i + 1) 0) with
          | true =>
            have HF : Hid (E = ang (i + 2) false (xs.drop (i + 2))) := by have e := HEi.out; rw [ang_esc xs i (by have := HL.out; omega) h hp] at e; exact e
            have HP := isPunct (xs.getD (i + 1) 0) w hby.1 hby.2
            rw [hp] at HP
            rw [h] at hx
            clear h hp
            generalize xs.getD (i + 1) 0 = y at *
            go_wp2_with (go_at_call 21; refine HP.mono ?_; rintro e w' ⟨rfl, rfl⟩)
            go_round
            case rel => exact ⟨i + 2, by go_num, by omega, by omega, HF.out⟩
            case measure => simp [intOf]; omega
          | false =>
            have HF : Hid (E = ang (i + 1) false (xs.drop (i + 1))) := by
              have e := HEi.out
              rw [ang_next xs i HIL.out (by rw [h]; decide) (fun hh => by rw [hp] at hh; exact absurd hh.2 (by decide)) (by rw [h]; decide)] at e
              exact e
            have HP := isPunct (xs.getD (i + 1) 0) w hby.1 hby.2
            rw [hp] at HP
            rw [h] at hx
            clear h hp
            generalize xs.getD (i + 1) 0 = y at *
            go_wp2_with (go_at_call 21; refine HP.mono ?_; rintro e w' ⟨rfl, rfl⟩)
            go_round
            case rel => exact ⟨i + 1, by go_num, by omega, by omega, HF.out⟩
            case measure => simp [intOf]; omega
        · have HF : Hid (E = ang (i + 1) false (xs.drop (i + 1))) := by
            have e := HEi.out
            rw [ang_next xs i HIL.out (by rw [h]; decide) (fun hh => by rw [getD_past xs (i + 1) (by have := HL.out; omega)] at hh; exact absurd hh.2 (by decide)) (by rw [h]; decide)] at e
            exact e
          have hl2 : ¬ ((i : Int) + 1 < (s.size : Int)) := by omega
          rw [h] at hx
          clear h
          go_wp2
          go_round
          case rel => exact ⟨i + 1, by go_num, by omega, by omega, HF.out⟩
          case measure => simp [intOf]; omega
      · have HF : Hid ((-1 : Int) = E) := by have e := HEi.out; rw [ang_stop xs i HIL.out (.inl h)] at e; exact e.symm
        rw [h] at hx
        clear h
        go_wp2
        go_ret
        exact ⟨ret_int HF.out, rfl⟩
      · have HF : Hid ((-1 : Int) = E) := by have e := HEi.out; rw [ang_stop xs i HIL.out (.inr (.inl h))] at e; exact e.symm
        rw [h] at hx
        clear h
        go_wp2
        go_ret
        exact ⟨ret_int HF.out, rfl⟩
      · have HF : Hid ((-1 : Int) = E) := by have e := HEi.out; rw [ang_stop xs i HIL.out (.inr (.inr h))] at e; exact e.symm
        rw [h] at hx
        clear h
        go_wp2
        go_ret
        exact ⟨ret_int HF.out, rfl⟩
      · have HF : Hid (E = ang (i + 1) false (xs.drop (i + 1))) := by
          have e := HEi.out
          rw [ang_next xs i HIL.out h1 (fun hh => h2 hh.1) (by omega)] at e
          exact e
        have g1 : (xs.getD i 0 != 62) = true := by simpa using h1
        have g2 : (xs.getD i 0 == 92) = false := by simpa using h2
        have g3 : (xs.getD i 0 == 60) = false := by simpa using h3
        have g4 : (xs.getD i 0 == 10) = false := by simpa using h4
        have g5 : (xs.getD i 0 == 13) = false := by simpa using h5
        clear h1 h2 h3 h4 h5
        generalize xs.getD i 0 = x at *
        go_wp2
        go_round
        case rel => exact ⟨i + 1, by go_num, by omega, by omega, HF.out⟩
        case measure => simp [intOf]; omega
    · obtain rfl : i = s.size := by omega
      have HF : Hid ((-1 : Int) = E) := by have e := HEi.out; rw [ang_end xs _ (by have := HL.out; omega)] at e; exact e.symm
      go_wp2
      go_ret
      exact ⟨ret_int HF.out, rfl⟩

theorem bare_end (xs : List Int) (i d : Nat) (h : xs.length ≤ i) (e : Bool) : bare i d e (xs.drop i) = if 0 < d then -1 else (i : Int) := by
  rw [List.drop_of_length_le h]; cases e <;> rfl
theorem bare_esc (xs : List Int) (i d : Nat) (h : i + 1 < xs.length) (hx : xs.getD i 0 = 92) (hp : punct (xs.getD (i + 1) 0) = true) : bare i d false (xs.drop i) = bare (i + 2) d false (xs.drop (i + 2)) := by
  have hc : xs.getD i 0 = 92 ∧ punct ((xs.drop (i + 1)).headD 0) = true := ⟨hx, by rw [head_drop]; exact hp⟩
  rw [drop_cons xs i (by omega)]
  simp only [bare, if_pos hc]
  rw [drop_cons xs (i + 1) h]
  simp only [bare]
theorem bare_open (xs : List Int) (i d : Nat) (h : i < xs.length) (hx : xs.getD i 0 = 40) : bare i d false (xs.drop i) = if 32 ≤ d then -1 else bare (i + 1) (d + 1) false (xs.drop (i + 1)) := by
  have hc : ¬ (xs.getD i 0 = 92 ∧ punct ((xs.drop (i + 1)).headD 0) = true) := fun hh => by rw [hx] at hh; exact absurd hh.1 (by decide)
  rw [drop_cons xs i h]
  simp only [bare, if_neg hc, if_pos hx]
theorem bare_stop (xs : List Int) (i d : Nat) (h : i < xs.length) (hx : (xs.getD i 0 = 41 ∧ d = 0) ∨ xs.getD i 0 ≤ 32 ∨ xs.getD i 0 = 127) : bare i d false (xs.drop i) = (i : Int) := by
  have hc : ¬ (xs.getD i 0 = 92 ∧ punct ((xs.drop (i + 1)).headD 0) = true) := fun hh => by omega
  have h40 : xs.getD i 0 ≠ 40 := by omega
  rw [drop_cons xs i h]
  simp only [bare, if_neg hc, if_neg h40, if_pos hx]
theorem bare_close (xs : List Int) (i d : Nat) (h : i < xs.length) (hx : xs.getD i 0 = 41) (hd : d ≠ 0) : bare i d false (xs.drop i) = bare (i + 1) (d - 1) false (xs.drop (i + 1)) := by
  have hc : ¬ (xs.getD i 0 = 92 ∧ punct ((xs.drop (i + 1)).headD 0) = true) := fun hh => by omega
  have h40 : xs.getD i 0 ≠ 40 := by omega
  have h3 : ¬ ((xs.getD i 0 = 41 ∧ d = 0) ∨ xs.getD i 0 ≤ 32 ∨ xs.getD i 0 = 127) := by omega
  rw [drop_cons xs i h]
  simp only [bare, if_neg hc, if_neg h40, if_neg h3, if_pos hx]
theorem bare_next (xs : List Int) (i d : Nat) (h : i < xs.length) (h1 : ¬ (xs.getD i 0 = 92 ∧ punct (xs.getD (i + 1) 0) = true)) (h2 : xs.getD i 0 ≠ 40) (h3 : xs.getD i 0 ≠ 41) (h4 : 32 < xs.getD i 0) (h5 : xs.getD i 0 ≠ 127) : bare i d false (xs.drop i) = bare (i + 1) d false (xs.drop (i + 1)) := by
  have hc : ¬ (xs.getD i 0 = 92 ∧ punct ((xs.drop (i + 1)).headD 0) = true) := by rw [head_drop]; exact h1
  have h6 : ¬ ((xs.getD i 0 = 41 ∧ d = 0) ∨ xs.getD i 0 ≤ 32 ∨ xs.getD i 0 = 127) := by omega
  rw [drop_cons xs i h]
  simp only [bare, if_neg hc, if_neg h2, if_neg h6, if_neg h3]

set_option maxHeartbeats 4000000 in
set_option maxRecDepth 100000 in
/-- destinationEnd elsewhere. -/
theorem dest_bare (s : ByteArray) (a : Nat) (w : World) (hs : s.size ≤ 1048576) (ha : a ≤ s.size) (h60 : ¬ (a < s.size ∧ (nums s).getD a 0 = 60)) :
    Calls Try.prog 16 #[.string s, .int .i64 a] w fun e w' => e = .returned (.int .i64 (dest (nums s) a)) ∧ w = w' := by
  have HL : Hid ((nums s).length = s.size) := nums_len s
  obtain ⟨E, hE⟩ : ∃ E, E = dest (nums s) a := ⟨_, rfl⟩
  rw [← hE]
  have HE : Hid (E = bare a 0 false ((nums s).drop a)) := by
    rw [hE]
    unfold dest
    exact if_neg (fun h => h60 ⟨by have := HL.out; omega, h.2⟩)
  have HX : Hid (∀ h : a < s.size, ((s[a]'h).toNat : Int) = (nums s).getD a 0 ∧ ((nums s).getD a 0 == 60) = false) := fun h => ⟨nums_get s a h, by simpa using fun e => h60 ⟨h, e⟩⟩
  have HG : Hid (∀ k (h : k < s.size), (s[k].toNat : Int) = (nums s).getD k 0) := nums_get s
  have HBy : Hid (∀ k, 0 ≤ (nums s).getD k 0 ∧ (nums s).getD k 0 ≤ 255) := nums_byte s
  clear hE h60
  generalize nums s = xs at *
  rcases Nat.lt_or_ge a s.size with hal | hal
  · obtain ⟨hx0, hxe⟩ := HX.out hal
    clear HX
    generalize xs.getD a 0 = x0 at *
    go_enter Try.func16, Try.ntmps16
    go_wp2
    clear hx0 hxe
    go_loop [5, 6] (fun v dv => ∃ i d : Nat, v = .int .i64 i ∧ dv = .int .i64 d ∧ a ≤ i ∧ i ≤ s.size ∧ d ≤ 32 ∧ E = bare i d false (xs.drop i)) (fun v _ => s.size - (intOf v).toNat)
    case atStart => exact ⟨a, 0, by go_num, rfl, by omega, by omega, by omega, HE.out⟩
    case round =>
      obtain ⟨i, d, rfl, rfl, hai, hin, hd32, hEi⟩ := hrel
      have HEi : Hid (E = bare i d false (xs.drop i)) := hEi
      clear hEi
      by_cases hlt : i < s.size
      · have HIL : Hid (i < xs.length) := (by show i < xs.length; have := HL.out; omega)
        have hx := HG.out i hlt
        rcases (show xs.getD i 0 = 92 ∨ xs.getD i 0 = 40 ∨ xs.getD i 0 = 41 ∨ xs.getD i 0 ≤ 32 ∨ xs.getD i 0 = 127 ∨ (xs.getD i 0 ≠ 92 ∧ xs.getD i 0 ≠ 40 ∧ xs.getD i 0 ≠ 41 ∧ 32 < xs.getD i 0 ∧ xs.getD i 0 ≠ 127) by omega) with h | h | h | h | h | ⟨h1, h2, h3, h4, h5⟩
        · -- a backslash
          rcases Nat.lt_or_ge (i + 1) s.size with hl1 | hl1
          · have hy := HG.out (i + 1) hl1
            have hby := HBy.out (i + 1)
            cases hp : punct (xs.getD (i + 1) 0) with
            | true =>
              have HF : Hid (E = bare (i + 2) d false (xs.drop (i + 2))) := by have e := HEi.out; rw [bare_esc xs i d (by have := HL.out; omega) h hp] at e; exact e
              have HP := isPunct (xs.getD (i + 1) 0) w hby.1 hby.2
              rw [hp] at HP
              rw [h] at hx
              clear h hp
              generalize xs.getD (i + 1) 0 = y at *
              go_wp2_with (go_at_call 21; refine HP.mono ?_; rintro e w' ⟨rfl, rfl⟩)
              go_round
              case rel => exact ⟨i + 2, d, by go_num, by go_num, by omega, by omega, by omega, HF.out⟩
              case measure => simp [intOf]; omega
            | false =>
              have HF : Hid (E = bare (i + 1) d false (xs.drop (i + 1))) := by
                have e := HEi.out
                rw [bare_next xs i d HIL.out (fun hh => by rw [hp] at hh; exact absurd hh.2 (by decide)) (by omega) (by omega) (by omega) (by omega)] at e
                exact e
              have HP := isPunct (xs.getD (i + 1) 0) w hby.1 hby.2
              rw [hp] at HP
              rw [h] at hx
              clear h hp
              generalize xs.getD (i + 1) 0 = y at *
              go_wp2_with (go_at_call 21; refine HP.mono ?_; rintro e w' ⟨rfl, rfl⟩)
              go_round
              case rel => exact ⟨i + 1, d, by go_num, by go_num, by omega, by omega, by omega, HF.out⟩
              case measure => simp [intOf]; omega
          · have HF : Hid (E = bare (i + 1) d false (xs.drop (i + 1))) := by
              have e := HEi.out
              rw [bare_next xs i d HIL.out (fun hh => by rw [getD_past xs (i + 1) (by have := HL.out; omega)] at hh; exact absurd hh.2 (by decide)) (by omega) (by omega) (by omega) (by omega)] at e
              exact e
            have hl2 : ¬ ((i : Int) + 1 < (s.size : Int)) := by omega
            rw [h] at hx
            clear h
            go_wp2
            go_round
            case rel => exact ⟨i + 1, d, by go_num, by go_num, by omega, by omega, by omega, HF.out⟩
            case measure => simp [intOf]; omega
        · -- (
          have hst := bare_open xs i d HIL.out h
          rw [← HEi.out] at hst
          rw [h] at hx
          clear h
          by_cases hd : 32 ≤ d
          · rw [if_pos hd] at hst
            have HF : Hid ((-1 : Int) = E) := hst.symm
            have hd' : (32 : Int) < (d : Int) + 1 := by omega
            clear hst
            go_wp2
            go_ret
            exact ⟨ret_int HF.out, rfl⟩
          · rw [if_neg hd] at hst
            have HF : Hid (E = bare (i + 1) (d + 1) false (xs.drop (i + 1))) := hst
            have hd' : ¬ (32 : Int) < (d : Int) + 1 := by omega
            clear hst
            go_wp2
            go_round
            case rel => exact ⟨i + 1, d + 1, by go_num, by go_num, by omega, by omega, by omega, HF.out⟩
            case measure => simp [intOf]; omega
        · -- )
          by_cases hd : d = 0
          · have HF : Hid ((i : Int) = E) := by have e := HEi.out; rw [bare_stop xs i d HIL.out (.inl ⟨h, hd⟩)] at e; exact e.symm
            subst hd
            rw [h] at hx
            clear h
            go_wp2
            go_ret
            exact ⟨ret_int HF.out, rfl⟩
          · have HF : Hid (E = bare (i + 1) (d - 1) false (xs.drop (i + 1))) := by have e := HEi.out; rw [bare_close xs i d HIL.out h hd] at e; exact e
            obtain ⟨d, rfl⟩ : ∃ m, d = m + 1 := ⟨d - 1, by omega⟩
            have hd2 : ((d : Int) + 1 == 0) = false := by simp; omega
            rw [h] at hx
            clear h hd
            go_wp2
            go_round
            case rel => exact ⟨i + 1, d, by go_num, by go_num, by omega, by omega, by omega, HF.out⟩
            case measure => simp [intOf]; omega
        · -- a space or a control byte
          have HF : Hid ((i : Int) = E) := by have e := HEi.out; rw [bare_stop xs i d HIL.out (.inr (.inl h))] at e; exact e.symm
          have g1 : (xs.getD i 0 == 92) = false := beq_eq_false_iff_ne.2 (by omega)
          have g2 : (xs.getD i 0 == 40) = false := beq_eq_false_iff_ne.2 (by omega)
          have g3 : (xs.getD i 0 == 41) = false := beq_eq_false_iff_ne.2 (by omega)
          generalize xs.getD i 0 = x at *
          go_wp2
          go_ret
          exact ⟨ret_int HF.out, rfl⟩
        · -- 0x7f
          have HF : Hid ((i : Int) = E) := by have e := HEi.out; rw [bare_stop xs i d HIL.out (.inr (.inr h))] at e; exact e.symm
          rw [h] at hx
          clear h
          go_wp2
          go_ret
          exact ⟨ret_int HF.out, rfl⟩
        · have HF : Hid (E = bare (i + 1) d false (xs.drop (i + 1))) := by
            have e := HEi.out
            rw [bare_next xs i d HIL.out (fun hh => h1 hh.1) h2 h3 h4 h5] at e
            exact e
          have g1 : (xs.getD i 0 == 92) = false := by simpa using h1
          have g2 : (xs.getD i 0 == 40) = false := by simpa using h2
          have g3 : (xs.getD i 0 == 41) = false := by simpa using h3
          have g4 : ¬ xs.getD i 0 ≤ 32 := by omega
          have g5 : (xs.getD i 0 == 127) = false := by simpa using h5
          clear h1 h2 h3 h4 h5
          generalize xs.getD i 0 = x at *
          go_wp2
          go_round
          case rel => exact ⟨i + 1, d, by go_num, by go_num, by omega, by omega, by omega, HF.out⟩
          case measure => simp [intOf]; omega
      · obtain rfl : i = s.size := by omega
        have hst := HEi.out
        rw [bare_end xs _ d (by have := HL.out; omega)] at hst
        by_cases hd : 0 < d
        · rw [if_pos hd] at hst
          have HF : Hid ((-1 : Int) = E) := hst.symm
          have hd' : (0 : Int) < (d : Int) := by omega
          clear hst
          go_wp2
          go_ret
          exact ⟨ret_int HF.out, rfl⟩
        · rw [if_neg hd] at hst
          have HF : Hid ((s.size : Int) = E) := hst.symm
          obtain rfl : d = 0 := by omega
          clear hst
          go_wp2
          go_ret
          exact ⟨ret_int HF.out, rfl⟩
  · have hal' : ¬ ((a : Int) < (s.size : Int)) := by omega
    clear HX
    go_enter Try.func16, Try.ntmps16
    go_wp2
    clear hal'
    go_loop [5, 6] (fun v dv => ∃ i d : Nat, v = .int .i64 i ∧ dv = .int .i64 d ∧ a ≤ i ∧ i ≤ s.size ∧ d ≤ 32 ∧ E = bare i d false (xs.drop i)) (fun v _ => s.size - (intOf v).toNat)
    case atStart => exact ⟨a, 0, by go_num, rfl, by omega, by omega, by omega, HE.out⟩
    case round =>
      obtain ⟨i, d, rfl, rfl, hai, hin, hd32, hEi⟩ := hrel
      have HEi : Hid (E = bare i d false (xs.drop i)) := hEi
      clear hEi
      by_cases hlt : i < s.size
      · omega
      · obtain rfl : i = s.size := by omega
        have hst := HEi.out
        rw [bare_end xs _ d (by have := HL.out; omega)] at hst
        by_cases hd : 0 < d
        · rw [if_pos hd] at hst
          have HF : Hid ((-1 : Int) = E) := hst.symm
          have hd' : (0 : Int) < (d : Int) := by omega
          clear hst
          go_wp2
          go_ret
          exact ⟨ret_int HF.out, rfl⟩
        · rw [if_neg hd] at hst
          have HF : Hid ((s.size : Int) = E) := hst.symm
          obtain rfl : d = 0 := by omega
          clear hst
          go_wp2
          go_ret
          exact ⟨ret_int HF.out, rfl⟩

end Go.Proofs.Qxb6602247a
