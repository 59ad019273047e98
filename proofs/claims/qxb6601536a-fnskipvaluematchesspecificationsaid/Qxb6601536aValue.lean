/-
  Seat b6601536a: skipValue, endsScalar.
-/
import Derived.Test.Qxb6601536aBase
import Derived.Test.Qxb6601536aVal
namespace Go.Proofs.Qxb6601536a
open Go.RowKit
set_option linter.unusedVariables false

theorem nest_quote (xs : List Int) (i d : Nat) (h : i < xs.length) (hd : d ≠ 0) (hx : xs.getD i 0 = 34) : i + nest d false false (xs.drop i) = strEnd xs i + nest d false false (xs.drop (strEnd xs i)) := by
  rw [drop_cons xs i h, hx]
  simp only [nest, if_true]
  rw [nest_str d hd, List.drop_drop]
  unfold strEnd
  omega
theorem nest_open (xs : List Int) (i d : Nat) (h : i < xs.length) (hx : xs.getD i 0 = 123 ∨ xs.getD i 0 = 91) : i + nest d false false (xs.drop i) = i + 1 + nest (d + 1) false false (xs.drop (i + 1)) := by
  rw [drop_cons xs i h]
  have h34 : xs.getD i 0 ≠ 34 := by rcases hx with e | e <;> rw [e] <;> decide
  simp only [nest, if_neg h34, if_pos hx]
  omega
theorem nest_close (xs : List Int) (i d : Nat) (h : i < xs.length) (hx : xs.getD i 0 = 125 ∨ xs.getD i 0 = 93) : i + nest d false false (xs.drop i) = if d = 1 then i + 1 else i + 1 + nest (d - 1) false false (xs.drop (i + 1)) := by
  rw [drop_cons xs i h]
  have h34 : xs.getD i 0 ≠ 34 := by rcases hx with e | e <;> rw [e] <;> decide
  have h2 : ¬ (xs.getD i 0 = 123 ∨ xs.getD i 0 = 91) := by rcases hx with e | e <;> rw [e] <;> decide
  simp only [nest, if_neg h34, if_neg h2, if_pos hx]
  split <;> omega
theorem nest_other (xs : List Int) (i d : Nat) (h : i < xs.length) (h1 : xs.getD i 0 ≠ 34) (h2 : ¬ (xs.getD i 0 = 123 ∨ xs.getD i 0 = 91)) (h3 : ¬ (xs.getD i 0 = 125 ∨ xs.getD i 0 = 93)) : i + nest d false false (xs.drop i) = i + 1 + nest d false false (xs.drop (i + 1)) := by
  rw [drop_cons xs i h]
  simp only [nest, if_neg h1, if_neg h2, if_neg h3]
  omega
theorem scal_step (xs : List Int) (i : Nat) (h : i < xs.length) : i + scal (xs.drop i) = if ends (xs.getD i 0) then i else i + 1 + scal (xs.drop (i + 1)) := by
  rw [drop_cons xs i h]
  simp only [scal]
  split <;> omega

theorem ends_no {x : Int} (h : ends x = false) : (x == 32) = false ∧ (x == 9) = false ∧ (x == 13) = false ∧ (x == 10) = false ∧ (x == 44) = false ∧ (x == 93) = false ∧ (x == 125) = false := by
  simp only [ends, Bool.or_eq_false_iff] at h
  obtain ⟨⟨⟨⟨⟨⟨a, b⟩, c⟩, d⟩, e⟩, f⟩, g⟩ := h
  exact ⟨a, b, c, d, e, f, g⟩
theorem ends_yes {x : Int} (h : ends x = true) : x = 32 ∨ x = 9 ∨ x = 13 ∨ x = 10 ∨ x = 44 ∨ x = 93 ∨ x = 125 := by
  simp only [ends, Bool.or_eq_true, beq_iff_eq] at h
  omega

/-- endsScalar. -/
theorem endsScalar (x : Int) (w : World) : Calls Try.prog 16 #[.int .u8 x] w fun e w' => e = .returned (.bool (ends x)) ∧ w = w' := by
  cases h : ends x with
  | false =>
    obtain ⟨h1, h2, h3, h4, h5, h6, h7⟩ := ends_no h
    clear h
    go_enter Try.func16, Try.ntmps16
    go_wp2
    go_ret
    exact ⟨rfl, rfl⟩
  | true =>
    rcases ends_yes h with rfl | rfl | rfl | rfl | rfl | rfl | rfl
    all_goals
      clear h
      go_enter Try.func16, Try.ntmps16
      go_wp2
      go_ret
      exact ⟨rfl, rfl⟩

set_option maxHeartbeats 4000000 in
set_option maxRecDepth 100000 in
/-- skipValue at a scalar. -/
theorem value_scal (b o n c s : Nat) (xs : List Int) (w : World) (h : Row w (some ⟨b, o, none⟩) n xs) (hn : n ≤ 1048576) (hs : s < n) (ho : ¬ opens (xs.getD s 0)) :
    Calls Try.prog 20 #[.slice (some ⟨b, o, none⟩) n c, .int .i64 s] w fun e w' => e = .returned (.int .i64 (valEnd xs s : Nat)) ∧ w = w' := by
  have hcs := h.cells
  have HL : Hid (xs.length = n) := h.len
  obtain ⟨E, hE⟩ : ∃ E, E = valEnd xs s := ⟨_, rfl⟩
  rw [← hE]
  have HE : Hid (E = s + scal (xs.drop s)) := by rw [hE]; exact valEnd_scal xs s ho
  have hc0 := hcs s hs
  have h34 : (xs.getD s 0 == 34) = false := by simpa using fun e => ho (.inl e)
  have h123 : (xs.getD s 0 == 123) = false := by simpa using fun e => ho (.inr (.inl e))
  have h91 : (xs.getD s 0 == 91) = false := by simpa using fun e => ho (.inr (.inr e))
  have HCS : Hid (∀ i, i < n → w.cell? ⟨b, o + i, none⟩ = some (.int .u8 (xs.getD i 0))) := hcs
  clear h hE ho hcs
  generalize xs.getD s 0 = x0 at *
  go_enter Try.func20, Try.ntmps20
  go_wp2
  clear hc0 h34 h123 h91
  go_loop [7] (fun v => ∃ i : Nat, v = .int .i64 i ∧ s ≤ i ∧ i ≤ n ∧ E = i + scal (xs.drop i)) (fun v => n - (intOf v).toNat)
  case atStart => exact ⟨s, by go_num, by omega, by omega, HE.out⟩
  case round =>
    obtain ⟨i, rfl, hsi, hin, hEi⟩ := hrel
    have HEi : Hid (E = i + scal (xs.drop i)) := hEi
    clear hEi
    by_cases hlt : i < n
    · have hc := HCS.out i hlt
      have hst := scal_step xs i (by have := HL.out; omega)
      rw [← HEi.out] at hst
      clear HEi
      cases hx : ends (xs.getD i 0) with
      | false =>
        rw [hx] at hst
        have HF : Hid (E = i + 1 + scal (xs.drop (i + 1))) := by rw [if_neg (by simp)] at hst; exact hst
        obtain ⟨h1, h2, h3, h4, h5, h6, h7⟩ := ends_no hx
        clear hst hx
        generalize xs.getD i 0 = x at *
        have h5' : (x != 44) = true := by simp [bne, h5]
        have h6' : (x != 93) = true := by simp [bne, h6]
        have h7' : (x != 125) = true := by simp [bne, h7]
        go_wp2
        go_round
        case rel => exact ⟨i + 1, by go_num, by omega, by omega, HF.out⟩
        case measure => simp [intOf]; omega
      | true =>
        rw [hx] at hst
        have HF : Hid ((i : Int) = (E : Int)) := by
          have : E = i := by simpa using hst
          show (i : Int) = (E : Int)
          omega
        have hy := ends_yes hx
        clear hst hx
        generalize xs.getD i 0 = x at *
        rcases hy with rfl | rfl | rfl | rfl | rfl | rfl | rfl
        all_goals
          go_wp2
          go_ret
          exact ⟨ret_int HF.out, rfl⟩
    · obtain rfl : i = n := by omega
      have HF : Hid ((i : Int) = (E : Int)) := by
        have e := HEi.out
        rw [List.drop_of_length_le (by have := HL.out; omega)] at e
        simp [scal] at e
        show (i : Int) = (E : Int)
        omega
      clear HEi
      go_wp2
      go_ret
      exact ⟨ret_int HF.out, rfl⟩

set_option maxHeartbeats 1000000 in
/-- skipValue at a quote. -/
theorem value_quote (b o n c s : Nat) (xs : List Int) (w : World) (h : Row w (some ⟨b, o, none⟩) n xs) (hnc : n ≤ c) (hn : n ≤ 1048576) (hs : s < n) (ho : xs.getD s 0 = 34) :
    Calls Try.prog 20 #[.slice (some ⟨b, o, none⟩) n c, .int .i64 s] w fun e w' => e = .returned (.int .i64 (valEnd xs s : Nat)) ∧ w = w' := by
  have HS := skipString b o n c s xs w h hnc hn hs
  have hc0 := h.cells s hs
  rw [ho] at hc0
  have e : valEnd xs s = strEnd xs s := by unfold valEnd; rw [if_pos ho]
  rw [e]
  clear e ho h
  generalize strEnd xs s = E at *
  go_enter Try.func20, Try.ntmps20
  go_wp2_with (go_at_call 19; refine HS.mono ?_; rintro e w' ⟨rfl, rfl⟩)
  go_ret
  exact ⟨rfl, rfl⟩

set_option maxHeartbeats 4000000 in
set_option maxRecDepth 100000 in
/-- skipValue at a brace or a bracket: the loop. -/
theorem value_open (b o n c s : Nat) (xs : List Int) (w : World) (h : Row w (some ⟨b, o, none⟩) n xs) (hnc : n ≤ c) (hn : n ≤ 1048576) (hs : s < n) (ho : xs.getD s 0 = 123 ∨ xs.getD s 0 = 91) :
    Calls Try.prog 20 #[.slice (some ⟨b, o, none⟩) n c, .int .i64 s] w fun e w' => e = .returned (.int .i64 (valEnd xs s : Nat)) ∧ w = w' := by
  have HL : Hid (xs.length = n) := h.len
  have HR : Hid (Row w (some ⟨b, o, none⟩) n xs) := h
  have HCS : Hid (∀ i, i < n → w.cell? ⟨b, o + i, none⟩ = some (.int .u8 (xs.getD i 0))) := h.cells
  obtain ⟨E, hE⟩ : ∃ E, E = valEnd xs s := ⟨_, rfl⟩
  rw [← hE]
  have HE : Hid (E = s + nest 0 false false (xs.drop s)) := by rw [hE]; exact valEnd_nest xs s (by have := HL.out; omega) (.inr ho)
  have HO : Hid (xs.getD s 0 = 123 ∨ xs.getD s 0 = 91) := ho
  have hc0 := h.cells s hs
  clear hE h
  rcases ho with ho | ho
  all_goals
    rw [ho] at hc0
    clear ho
    go_enter Try.func20, Try.ntmps20
    go_wp2
    clear hc0
    go_loop [5, 6] (fun dv iv => ∃ d i : Nat, dv = .int .i64 d ∧ iv = .int .i64 i ∧ s ≤ i ∧ i ≤ n ∧ d ≤ i ∧ (d = 0 → i = s) ∧ E = i + nest d false false (xs.drop i)) (fun _ iv => n - (intOf iv).toNat)
    case atStart => exact ⟨0, s, rfl, by go_num, by omega, by omega, by omega, fun _ => rfl, HE.out⟩
    case round =>
      obtain ⟨d, i, rfl, rfl, hsi, hin, hdi, hd0, hEi⟩ := hrel
      have HEi : Hid (E = i + nest d false false (xs.drop i)) := hEi
      have HD : Hid (d = 0 → i = s) := hd0
      clear hEi hd0
      by_cases hlt : i < n
      · have hc := HCS.out i hlt
        rcases (show xs.getD i 0 = 123 ∨ xs.getD i 0 = 91 ∨ xs.getD i 0 = 125 ∨ xs.getD i 0 = 93 ∨ xs.getD i 0 = 34 ∨ (xs.getD i 0 ≠ 123 ∧ xs.getD i 0 ≠ 91 ∧ xs.getD i 0 ≠ 125 ∧ xs.getD i 0 ≠ 93 ∧ xs.getD i 0 ≠ 34) by omega) with hx | hx | hx | hx | hx | ⟨h1, h2, h3, h4, h5⟩
        · -- {
          have HF : Hid (E = i + 1 + nest (d + 1) false false (xs.drop (i + 1))) := by
            have := nest_open xs i d (by have := HL.out; omega) (.inl hx)
            rw [← HEi.out] at this
            exact this
          rw [hx] at hc
          clear hx
          go_wp2
          go_round
          case rel => exact ⟨d + 1, i + 1, by go_num, by go_num, by omega, by omega, by omega, fun h => by omega, HF.out⟩
          case measure => simp [intOf]; omega
        · -- [
          have HF : Hid (E = i + 1 + nest (d + 1) false false (xs.drop (i + 1))) := by
            have := nest_open xs i d (by have := HL.out; omega) (.inr hx)
            rw [← HEi.out] at this
            exact this
          rw [hx] at hc
          clear hx
          go_wp2
          go_round
          case rel => exact ⟨d + 1, i + 1, by go_num, by go_num, by omega, by omega, by omega, fun h => by omega, HF.out⟩
          case measure => simp [intOf]; omega
        · -- }
          have hd0 : d ≠ 0 := fun h0 => by
            have := HD.out h0
            subst this
            rcases HO.out with e | e <;> rw [hx] at e <;> exact absurd e (by decide)
          have hst := nest_close xs i d (by have := HL.out; omega) (.inl hx)
          rw [← HEi.out] at hst
          rw [hx] at hc
          clear hx
          by_cases hd1 : d = 1
          · rw [if_pos hd1] at hst
            subst hd1
            have HF : Hid ((i : Int) + 1 = (E : Int)) := by show (i : Int) + 1 = (E : Int); omega
            clear hst hd0
            go_wp2
            go_ret
            exact ⟨ret_int HF.out, rfl⟩
          · rw [if_neg hd1] at hst
            have HF : Hid (E = i + 1 + nest (d - 1) false false (xs.drop (i + 1))) := hst
            obtain ⟨d, rfl⟩ : ∃ m, d = m + 1 := ⟨d - 1, by omega⟩
            have hd2 : ((d : Int) == 0) = false := by simp; omega
            have hd3 : 1 ≤ d := by omega
            clear hst hd0 hd1
            go_wp2
            go_round
            case rel => exact ⟨d, i + 1, by go_num, by go_num, by omega, by omega, by omega, fun h => by omega, HF.out⟩
            case measure => simp [intOf]; omega
        · -- ]
          have hd0 : d ≠ 0 := fun h0 => by
            have := HD.out h0
            subst this
            rcases HO.out with e | e <;> rw [hx] at e <;> exact absurd e (by decide)
          have hst := nest_close xs i d (by have := HL.out; omega) (.inr hx)
          rw [← HEi.out] at hst
          rw [hx] at hc
          clear hx
          by_cases hd1 : d = 1
          · rw [if_pos hd1] at hst
            subst hd1
            have HF : Hid ((i : Int) + 1 = (E : Int)) := by show (i : Int) + 1 = (E : Int); omega
            clear hst hd0
            go_wp2
            go_ret
            exact ⟨ret_int HF.out, rfl⟩
          · rw [if_neg hd1] at hst
            have HF : Hid (E = i + 1 + nest (d - 1) false false (xs.drop (i + 1))) := hst
            obtain ⟨d, rfl⟩ : ∃ m, d = m + 1 := ⟨d - 1, by omega⟩
            have hd2 : ((d : Int) == 0) = false := by simp; omega
            have hd3 : 1 ≤ d := by omega
            clear hst hd0 hd1
            go_wp2
            go_round
            case rel => exact ⟨d, i + 1, by go_num, by go_num, by omega, by omega, by omega, fun h => by omega, HF.out⟩
            case measure => simp [intOf]; omega
        · -- a quote
          have hd0 : d ≠ 0 := fun h0 => by
            have := HD.out h0
            subst this
            rcases HO.out with e | e <;> rw [hx] at e <;> exact absurd e (by decide)
          have hst := nest_quote xs i d (by have := HL.out; omega) hd0 hx
          rw [← HEi.out] at hst
          have HS := skipString b o n c i xs w HR.out hnc hn hlt
          have ht1 := strEnd_gt xs i
          have ht2 := strEnd_le xs i (by have := HL.out; omega)
          rw [HL.out] at ht2
          rw [hx] at hc
          have HF : Hid (E = strEnd xs i + nest d false false (xs.drop (strEnd xs i))) := hst
          clear hx hst
          generalize strEnd xs i = T at *
          go_wp2_with (go_at_call 19; refine HS.mono ?_; rintro e w' ⟨rfl, rfl⟩)
          go_round
          case rel => exact ⟨d, T, by go_num, by go_num, by omega, by omega, by omega, fun h => absurd h hd0, HF.out⟩
          case measure => simp [intOf]; omega
        · -- another byte
          have hd0 : d ≠ 0 := fun h0 => by
            have := HD.out h0
            subst this
            rcases HO.out with e | e
            · exact h1 e
            · exact h2 e
          have HF : Hid (E = i + 1 + nest d false false (xs.drop (i + 1))) := by
            have := nest_other xs i d (by have := HL.out; omega) h5 (by omega) (by omega)
            rw [← HEi.out] at this
            exact this
          have g1 : (xs.getD i 0 == 123) = false := by simpa using h1
          have g2 : (xs.getD i 0 == 91) = false := by simpa using h2
          have g3 : (xs.getD i 0 == 125) = false := by simpa using h3
          have g4 : (xs.getD i 0 == 93) = false := by simpa using h4
          have g5 : (xs.getD i 0 == 34) = false := by simpa using h5
          clear h1 h2 h3 h4 h5
          generalize xs.getD i 0 = x at *
          go_wp2
          go_round
          case rel => exact ⟨d, i + 1, by go_num, by go_num, by omega, by omega, by omega, fun h => absurd h hd0, HF.out⟩
          case measure => simp [intOf]; omega
      · obtain rfl : i = n := by omega
        have HF : Hid ((i : Int) = (E : Int)) := by
          have e := HEi.out
          rw [List.drop_of_length_le (by have := HL.out; omega)] at e
          simp [nest] at e
          show (i : Int) = (E : Int)
          omega
        clear HEi
        go_wp2
        go_ret
        exact ⟨ret_int HF.out, rfl⟩

end Go.Proofs.Qxb6601536a
