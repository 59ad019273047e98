/-
  Seat b6601536a: nestedEndModel.
-/
import Derived.Test.Qxb6601536aLawOwn
namespace Go.Proofs.Qxb6601536a
open Go.RowKit
set_option linter.unusedVariables false

theorem in_esc (xs : List Int) (i d : Nat) (h : i < xs.length) : i + nest d true true (xs.drop i) = i + 1 + nest d true false (xs.drop (i + 1)) := by
  rw [drop_cons xs i h]; simp only [nest]; omega
theorem in_back (xs : List Int) (i d : Nat) (h : i < xs.length) (hx : xs.getD i 0 = 92) : i + nest d true false (xs.drop i) = i + 1 + nest d true true (xs.drop (i + 1)) := by
  rw [drop_cons xs i h]; simp only [nest, if_pos hx]; omega
theorem in_quote (xs : List Int) (i d : Nat) (h : i < xs.length) (hx : xs.getD i 0 = 34) : i + nest d true false (xs.drop i) = if d = 0 then i + 1 else i + 1 + nest d false false (xs.drop (i + 1)) := by
  have h92 : xs.getD i 0 ≠ 92 := by rw [hx]; decide
  rw [drop_cons xs i h]; simp only [nest, if_neg h92, if_pos hx]; split <;> omega
theorem in_other (xs : List Int) (i d : Nat) (h : i < xs.length) (h1 : xs.getD i 0 ≠ 92) (h2 : xs.getD i 0 ≠ 34) : i + nest d true false (xs.drop i) = i + 1 + nest d true false (xs.drop (i + 1)) := by
  rw [drop_cons xs i h]; simp only [nest, if_neg h1, if_neg h2]; omega
theorem out_quote (xs : List Int) (i d : Nat) (h : i < xs.length) (hx : xs.getD i 0 = 34) : i + nest d false false (xs.drop i) = i + 1 + nest d true false (xs.drop (i + 1)) := by
  rw [drop_cons xs i h]; simp only [nest, if_pos hx]; omega

set_option maxHeartbeats 4000000 in
set_option maxRecDepth 100000 in
/-- nestedEndModel at a quote, brace or bracket. -/
theorem model (b o n c s : Nat) (xs : List Int) (w : World) (h : Row w (some ⟨b, o, none⟩) n xs) (hn : n ≤ 1048576) (hs : s < n) (ho : opens (xs.getD s 0)) :
    Calls Try.prog 15 #[.slice (some ⟨b, o, none⟩) n c, .int .i64 s] w fun e w' => e = .returned (.int .i64 (valEnd xs s : Nat)) ∧ w = w' := by
  have HL : Hid (xs.length = n) := h.len
  have HCS : Hid (∀ i, i < n → w.cell? ⟨b, o + i, none⟩ = some (.int .u8 (xs.getD i 0))) := h.cells
  obtain ⟨E, hE⟩ : ∃ E, E = valEnd xs s := ⟨_, rfl⟩
  rw [← hE]
  have HE : Hid (E = s + nest 0 false false (xs.drop s)) := by rw [hE]; exact valEnd_nest xs s (by have := HL.out; omega) ho
  have HO : Hid (opens (xs.getD s 0)) := ho
  clear hE h ho
  go_enter Try.func15, Try.ntmps15
  go_wp2
  go_loop [5, 6, 7, 8] (fun dv sv ev iv => ∃ d i : Nat, ∃ inS esc : Bool, dv = .int .i64 d ∧ sv = .bool inS ∧ ev = .bool esc ∧ iv = .int .i64 i ∧ s ≤ i ∧ i ≤ n ∧ d ≤ i ∧ (d = 0 → inS = true ∨ i = s) ∧ (inS = false → esc = false) ∧ E = i + nest d inS esc (xs.drop i)) (fun _ _ _ iv => n - (intOf iv).toNat)
  case atStart => exact ⟨0, s, false, false, rfl, rfl, rfl, by go_num, by omega, by omega, by omega, fun _ => .inr rfl, fun _ => rfl, HE.out⟩
  case round =>
    obtain ⟨d, i, inS, esc, rfl, rfl, rfl, rfl, hsi, hin, hdi, hd0, hes, hEi⟩ := hrel
    have HEi : Hid (E = i + nest d inS esc (xs.drop i)) := hEi
    have HD : Hid (d = 0 → inS = true ∨ i = s) := hd0
    clear hEi hd0
    by_cases hlt : i < n
    · have hc := HCS.out i hlt
      have hil : i < xs.length := by have := HL.out; omega
      have HIL : Hid (i < xs.length) := hil
      clear hil
      cases inS with
      | true =>
        clear hes
        cases esc with
        | true =>
          have HF : Hid (E = i + 1 + nest d true false (xs.drop (i + 1))) := by have := in_esc xs i d HIL.out; rw [← HEi.out] at this; exact this
          generalize xs.getD i 0 = x at *
          go_wp2
          go_round
          case rel => exact ⟨d, i + 1, true, false, by go_num, rfl, rfl, by go_num, by omega, by omega, by omega, fun _ => .inl rfl, fun _ => rfl, HF.out⟩
          case measure => simp [intOf]; omega
        | false =>
          rcases (show xs.getD i 0 = 92 ∨ xs.getD i 0 = 34 ∨ (xs.getD i 0 ≠ 92 ∧ xs.getD i 0 ≠ 34) by omega) with hx | hx | ⟨h1, h2⟩
          · have HF : Hid (E = i + 1 + nest d true true (xs.drop (i + 1))) := by have := in_back xs i d HIL.out hx; rw [← HEi.out] at this; exact this
            rw [hx] at hc
            clear hx
            go_wp2
            go_round
            case rel => exact ⟨d, i + 1, true, true, by go_num, rfl, rfl, by go_num, by omega, by omega, by omega, fun _ => .inl rfl, fun h => (by cases h), HF.out⟩
            case measure => simp [intOf]; omega
          · have hst := in_quote xs i d HIL.out hx
            rw [← HEi.out] at hst
            rw [hx] at hc
            clear hx
            by_cases hd1 : d = 0
            · rw [if_pos hd1] at hst
              subst hd1
              have HF : Hid ((i : Int) + 1 = (E : Int)) := by show (i : Int) + 1 = (E : Int); omega
              clear hst
              go_wp2
              go_ret
              exact ⟨ret_int HF.out, rfl⟩
            · rw [if_neg hd1] at hst
              have HF : Hid (E = i + 1 + nest d false false (xs.drop (i + 1))) := hst
              have hd2 : ((d : Int) == 0) = false := by simp; omega
              clear hst
              go_wp2
              go_round
              case rel => exact ⟨d, i + 1, false, false, by go_num, rfl, rfl, by go_num, by omega, by omega, by omega, fun h => absurd h hd1, fun _ => rfl, HF.out⟩
              case measure => simp [intOf]; omega
          · have HF : Hid (E = i + 1 + nest d true false (xs.drop (i + 1))) := by have := in_other xs i d HIL.out h1 h2; rw [← HEi.out] at this; exact this
            have g1 : (xs.getD i 0 == 92) = false := by simpa using h1
            have g2 : (xs.getD i 0 == 34) = false := by simpa using h2
            clear h1 h2
            generalize xs.getD i 0 = x at *
            go_wp2
            go_round
            case rel => exact ⟨d, i + 1, true, false, by go_num, rfl, rfl, by go_num, by omega, by omega, by omega, fun _ => .inl rfl, fun _ => rfl, HF.out⟩
            case measure => simp [intOf]; omega
      | false =>
        obtain rfl : esc = false := hes rfl
        clear hes
        have HD' : Hid (d = 0 → opens (xs.getD i 0)) := fun h0 => by
          rcases HD.out h0 with h | h
          · cases h
          · rw [h]; exact HO.out
        rcases (show xs.getD i 0 = 34 ∨ xs.getD i 0 = 123 ∨ xs.getD i 0 = 91 ∨ xs.getD i 0 = 125 ∨ xs.getD i 0 = 93 ∨ (xs.getD i 0 ≠ 123 ∧ xs.getD i 0 ≠ 91 ∧ xs.getD i 0 ≠ 125 ∧ xs.getD i 0 ≠ 93 ∧ xs.getD i 0 ≠ 34) by omega) with hx | hx | hx | hx | hx | ⟨h1, h2, h3, h4, h5⟩
        · have HF : Hid (E = i + 1 + nest d true false (xs.drop (i + 1))) := by have := out_quote xs i d HIL.out hx; rw [← HEi.out] at this; exact this
          rw [hx] at hc
          clear hx
          go_wp2
          go_round
          case rel => exact ⟨d, i + 1, true, false, by go_num, rfl, rfl, by go_num, by omega, by omega, by omega, fun _ => .inl rfl, fun _ => rfl, HF.out⟩
          case measure => simp [intOf]; omega
        · have HF : Hid (E = i + 1 + nest (d + 1) false false (xs.drop (i + 1))) := by have := nest_open xs i d HIL.out (.inl hx); rw [← HEi.out] at this; exact this
          rw [hx] at hc
          clear hx
          go_wp2
          go_round
          case rel => exact ⟨d + 1, i + 1, false, false, by go_num, rfl, rfl, by go_num, by omega, by omega, by omega, fun h => by omega, fun _ => rfl, HF.out⟩
          case measure => simp [intOf]; omega
        · have HF : Hid (E = i + 1 + nest (d + 1) false false (xs.drop (i + 1))) := by have := nest_open xs i d HIL.out (.inr hx); rw [← HEi.out] at this; exact this
          rw [hx] at hc
          clear hx
          go_wp2
          go_round
          case rel => exact ⟨d + 1, i + 1, false, false, by go_num, rfl, rfl, by go_num, by omega, by omega, by omega, fun h => by omega, fun _ => rfl, HF.out⟩
          case measure => simp [intOf]; omega
        · have hd0 : d ≠ 0 := fun h0 => by
            rcases HD'.out h0 with e | e | e <;> rw [hx] at e <;> exact absurd e (by decide)
          have hst := nest_close xs i d HIL.out (.inl hx)
          rw [← HEi.out] at hst
          rw [hx] at hc
          clear hx
          by_cases hd1 : d = 1
          · rw [if_pos hd1] at hst
            subst hd1
            have HF : Hid ((i : Int) + 1 = (E : Int)) := by show (i : Int) + 1 = (E : Int); omega
            clear hst hd0
            go_wp2
            go_ret
            exact ⟨ret_int HF.out, rfl⟩
          · rw [if_neg hd1] at hst
            have HF : Hid (E = i + 1 + nest (d - 1) false false (xs.drop (i + 1))) := hst
            obtain ⟨d, rfl⟩ : ∃ m, d = m + 1 := ⟨d - 1, by omega⟩
            have hd2 : ((d : Int) == 0) = false := by simp; omega
            have hd3 : 1 ≤ d := by omega
            clear hst hd0 hd1
            go_wp2
            go_round
            case rel => exact ⟨d, i + 1, false, false, by go_num, rfl, rfl, by go_num, by omega, by omega, by omega, fun h => by omega, fun _ => rfl, HF.out⟩
            case measure => simp [intOf]; omega
        · have hd0 : d ≠ 0 := fun h0 => by
            rcases HD'.out h0 with e | e | e <;> rw [hx] at e <;> exact absurd e (by decide)
          have hst := nest_close xs i d HIL.out (.inr hx)
          rw [← HEi.out] at hst
          rw [hx] at hc
          clear hx
          by_cases hd1 : d = 1
          · rw [if_pos hd1] at hst
            subst hd1
            have HF : Hid ((i : Int) + 1 = (E : Int)) := by show (i : Int) + 1 = (E : Int); omega
            clear hst hd0
            go_wp2
            go_ret
            exact ⟨ret_int HF.out, rfl⟩
          · rw [if_neg hd1] at hst
            have HF : Hid (E = i + 1 + nest (d - 1) false false (xs.drop (i + 1))) := hst
            obtain ⟨d, rfl⟩ : ∃ m, d = m + 1 := ⟨d - 1, by omega⟩
            have hd2 : ((d : Int) == 0) = false := by simp; omega
            have hd3 : 1 ≤ d := by omega
            clear hst hd0 hd1
            go_wp2
            go_round
            case rel => exact ⟨d, i + 1, false, false, by go_num, rfl, rfl, by go_num, by omega, by omega, by omega, fun h => by omega, fun _ => rfl, HF.out⟩
            case measure => simp [intOf]; omega
        · have hd0 : d ≠ 0 := fun h0 => by
            rcases HD'.out h0 with e | e | e
            · exact h5 e
            · exact h1 e
            · exact h2 e
          have HF : Hid (E = i + 1 + nest d false false (xs.drop (i + 1))) := by
            have := nest_other xs i d HIL.out h5 (by omega) (by omega)
            rw [← HEi.out] at this
            exact this
          have g1 : (xs.getD i 0 == 123) = false := by simpa using h1
          have g2 : (xs.getD i 0 == 91) = false := by simpa using h2
          have g3 : (xs.getD i 0 == 125) = false := by simpa using h3
          have g4 : (xs.getD i 0 == 93) = false := by simpa using h4
          have g5 : (xs.getD i 0 == 34) = false := by simpa using h5
          clear h1 h2 h3 h4 h5
          generalize xs.getD i 0 = x at *
          go_wp2
          go_round
          case rel => exact ⟨d, i + 1, false, false, by go_num, rfl, rfl, by go_num, by omega, by omega, by omega, fun h => absurd h hd0, fun _ => rfl, HF.out⟩
          case measure => simp [intOf]; omega
    · obtain rfl : i = n := by omega
      have HF : Hid ((i : Int) = (E : Int)) := by
        have e := HEi.out
        rw [List.drop_of_length_le (by have := HL.out; omega)] at e
        have e2 : nest d inS esc [] = 0 := by cases inS <;> cases esc <;> rfl
        rw [e2] at e
        show (i : Int) = (E : Int)
        omega
      clear HEi hes HD
      go_wp2
      go_ret
      exact ⟨ret_int HF.out, rfl⟩

end Go.Proofs.Qxb6601536a
