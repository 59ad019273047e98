/-
  Seat b6601536a: bytes.IndexByte at a row; a cut; skipString and stringEndForward.
-/
import Derived.Test.Qxb6601536aProg
import Derived.Test.Qxb6601536aStr
namespace Go.Proofs.Qxb6601536a
open Go.RowKit
set_option linter.unusedVariables false

theorem index_run (ao : Option Addr) (n c : Nat) (cv r : Int) (w : World) (h : (Extern.BytealgIndexByte.indexByte #[.slice ao n c, .int .u8 cv]).run Try.prog w = .ok (.int .i64 r) w) :
    Calls Try.prog 21 #[.slice ao n c, .int .u8 cv] w fun e w' => e = .returned (.int .i64 r) ∧ w' = w := by
  go_enter Try.func21, Try.ntmps21
  go_wp2
  rw [run_callFunc_extern Try.func23 (by kernel_rfl) (by kernel_rfl) (by kernel_rfl) (e := Extern.BytealgIndexByte.indexByte) (by kernel_rfl), h]
  simp only [Result.andThen]
  rw [Oper.upon_value]
  go_wp2
  go_ret
  exact ⟨rfl, rfl⟩

theorem index_row (ao : Option Addr) (n c : Nat) (xs : List Int) (cv : Int) (w : World) (h : Row w ao n xs) (hc : 0 ≤ cv ∧ cv ≤ 255) :
    Calls Try.prog 21 #[.slice ao n c, .int .u8 cv] w fun e w' => w = w' ∧ ((e = .returned (.int .i64 (-1)) ∧ ∀ i, i < n → xs.getD i 0 ≠ cv) ∨
      ∃ k : Nat, e = .returned (.int .i64 k) ∧ k < n ∧ xs.getD k 0 = cv ∧ ∀ i, i < k → xs.getD i 0 ≠ cv) := by
  refine (index_run ao n c cv _ w (run_idx h c cv)).mono ?_
  rintro e w' ⟨rfl, rfl⟩
  refine ⟨rfl, ?_⟩
  have := idx_spec cv hc xs h.bytes
  rw [h.len] at this
  rcases this with ⟨h1, h2⟩ | ⟨k, h1, h2⟩
  · exact .inl ⟨by rw [h1], h2⟩
  · exact .inr ⟨k, by rw [h1], h2⟩

theorem run_cut (ao : Option Addr) (n c i : Nat) (hi : i ≤ n) (w : World) :
    (Instr.slice 22 (.slice ao n c) (some (.int .i64 i)) none none).run Try.prog w = .ok (.slice (if c = i then ao else ao.map fun x => x.add i) (n - i) (c - i)) w := by
  have h0 : (i : Int) ≤ n := by omega
  by_cases hci : c = i
  · go_simp
  · go_simp

theorem fwd_step (xs : List Int) (j : Nat) (h : j < xs.length) : (xs.getD j 0 = 92 → j + 1 < xs.length → j + send false (xs.drop j) = j + 2 + send false (xs.drop (j + 2))) ∧ (xs.getD j 0 = 92 → ¬ j + 1 < xs.length → j + send false (xs.drop j) = xs.length) ∧
    (xs.getD j 0 ≠ 92 → xs.getD j 0 = 34 → j + send false (xs.drop j) = j + 1) ∧ (xs.getD j 0 ≠ 92 → xs.getD j 0 ≠ 34 → j + send false (xs.drop j) = j + 1 + send false (xs.drop (j + 1))) := by
  refine ⟨fun h1 h2 => ?_, fun h1 h2 => ?_, fun h1 h2 => ?_, fun h1 h2 => ?_⟩
  · show j + send false (xs.drop j) = j + 1 + 1 + send false (xs.drop (j + 1 + 1))
    rw [drop_cons xs j h, drop_cons xs (j + 1) h2, h1]
    simp [send]; omega
  · rw [drop_cons xs j h, List.drop_of_length_le (by omega), h1]
    simp [send]; omega
  · rw [drop_cons xs j h, h2]
    simp [send]
  · rw [drop_cons xs j h]
    simp only [send, if_neg h1, if_neg h2]; omega

set_option maxHeartbeats 1000000 in
/-- stringEndForward answers where the string ends. -/
theorem forward (b o n c s : Nat) (xs : List Int) (w : World) (h : Row w (some ⟨b, o, none⟩) n xs) (hn : n ≤ 1048576) (hs : s < n) :
    Calls Try.prog 10 #[.slice (some ⟨b, o, none⟩) n c, .int .i64 s] w fun e w' => e = .returned (.int .i64 (strEnd xs s : Nat)) ∧ w = w' := by
  have hcs := h.cells
  have HL : Hid (xs.length = n) := h.len
  obtain ⟨E, hE⟩ : ∃ E, E = strEnd xs s := ⟨_, rfl⟩
  rw [← hE]
  have HE : Hid (E = s + 1 + send false (xs.drop (s + 1))) := hE
  clear h hE
  go_enter Try.func10, Try.ntmps10
  go_wp2
  go_loop [5] (fun i => ∃ j : Nat, i = .int .i64 j ∧ ((j ≤ n ∧ E = j + send false (xs.drop j)) ∨ (j = n + 1 ∧ E = n))) (fun i => n + 1 - (intOf i).toNat)
  case atStart => exact ⟨s + 1, by go_num, .inl ⟨by omega, HE.out⟩⟩
  case round =>
    obtain ⟨j, rfl, hj⟩ := hrel
    have HJ : Hid ((j ≤ n ∧ E = j + send false (xs.drop j)) ∨ (j = n + 1 ∧ E = n)) := hj
    have hjn : j ≤ n + 1 := by rcases hj with ⟨h, _⟩ | ⟨h, _⟩ <;> omega
    clear hj
    by_cases hlt : j < n
    · have hc := hcs j hlt
      have hst := fwd_step xs j (by have := HL.out; omega)
      have HJ' : Hid (E = j + send false (xs.drop j)) := by
        rcases HJ.out with ⟨_, h⟩ | ⟨h, _⟩
        · exact h
        · omega
      clear HJ hcs
      by_cases h92 : xs.getD j 0 = 92
      · rw [h92] at hc
        have HST : Hid (if j + 1 < n then E = j + 2 + send false (xs.drop (j + 2)) else E = n) := by
          have e := HJ'.out
          have l := HL.out
          show if j + 1 < n then E = j + 2 + send false (xs.drop (j + 2)) else E = n
          split
          · rw [e]; exact hst.1 h92 (by omega)
          · rw [e, hst.2.1 h92 (by omega), l]
        clear hst h92
        go_wp2
        go_round
        case rel =>
          refine ⟨j + 2, by go_num, ?_⟩
          have t := HST.out
          by_cases h1 : j + 1 < n
          · rw [if_pos h1] at t; exact .inl ⟨by omega, t⟩
          · rw [if_neg h1] at t; exact .inr ⟨by omega, t⟩
        case measure => simp [intOf]; omega
      · have hne : (xs.getD j 0 == 92) = false := by simpa using h92
        by_cases h34 : xs.getD j 0 = 34
        · rw [h34] at hc
          have HST : Hid (((j + 1 : Nat) : Int) = (E : Int)) := by
            have : E = j + 1 := by rw [HJ'.out]; exact hst.2.2.1 h92 h34
            show ((j + 1 : Nat) : Int) = (E : Int)
            omega
          clear hst h92 h34 hne
          go_wp2
          go_ret
          exact ⟨ret_int HST.out, rfl⟩
        · have hne2 : (xs.getD j 0 == 34) = false := by simpa using h34
          have HST : Hid (E = j + 1 + send false (xs.drop (j + 1))) := by
            have : E = j + 1 + send false (xs.drop (j + 1)) := by rw [HJ'.out]; exact hst.2.2.2 h92 h34
            exact this
          clear hst h92 h34
          generalize xs.getD j 0 = y at *
          go_wp2
          go_round
          case rel => exact ⟨j + 1, by go_num, .inl ⟨by omega, HST.out⟩⟩
          case measure => simp [intOf]; omega
    · have HST : Hid ((n : Int) = (E : Int)) := by
        have l := HL.out
        rcases HJ.out with ⟨h1, h2⟩ | ⟨_, h2⟩
        · have : j = n := by omega
          subst this
          rw [List.drop_of_length_le (by omega)] at h2
          simp [send] at h2
          show (j : Int) = (E : Int)
          omega
        · show (n : Int) = (E : Int)
          omega
      clear HJ
      go_wp2
      go_ret
      exact ⟨ret_int HST.out, rfl⟩

set_option maxHeartbeats 1000000 in
/-- skipString answers where the string ends. -/
theorem skipString (b o n c s : Nat) (xs : List Int) (w : World) (h : Row w (some ⟨b, o, none⟩) n xs) (hnc : n ≤ c) (hn : n ≤ 1048576) (hs : s < n) :
    Calls Try.prog 19 #[.slice (some ⟨b, o, none⟩) n c, .int .i64 s] w fun e w' => e = .returned (.int .i64 (strEnd xs s : Nat)) ∧ w = w' := by
  have hcs := h.cells
  have HR : Hid (Row w (some ⟨b, o, none⟩) n xs) := h
  have HL : Hid (xs.length = n) := h.len
  obtain ⟨E, hE⟩ : ∃ E, E = strEnd xs s := ⟨_, rfl⟩
  rw [← hE]
  have HE : Hid (E = s + 1 + send false (xs.drop (s + 1))) := hE
  clear h hE
  go_enter Try.func19, Try.ntmps19
  go_wp2
  go_loop [5] (fun i => ∃ j : Nat, i = .int .i64 j ∧ s + 1 ≤ j ∧ j ≤ n ∧ (s + 1 < j → xs.getD (j - 1) 0 ≠ 92) ∧ E = j + send false (xs.drop j)) (fun i => n + 1 - (intOf i).toNat)
  case atStart => exact ⟨s + 1, by go_num, by omega, by omega, fun h => by omega, HE.out⟩
  case round =>
    obtain ⟨i, rfl, hsi, hin, hpre, hEi⟩ := hrel
    have HP : Hid (s + 1 < i → xs.getD (i - 1) 0 ≠ 92) := hpre
    have HEi : Hid (E = i + send false (xs.drop i)) := hEi
    clear hpre hEi
    obtain ⟨ro, hro⟩ : ∃ ro, ro = (if c = i then some ⟨b, o, none⟩ else (some (⟨b, o, none⟩ : Addr)).map fun x => x.add i) := ⟨_, rfl⟩
    have hsl := run_cut (some ⟨b, o, none⟩) n c i hin
    rw [← hro] at hsl
    have HO : Hid (Row w ro (n - i) (xs.drop i)) := by rw [hro]; exact HR.out.cutIf c i hnc
    clear hro
    go_wp2_with fail
    refine (index_row ro (n - i) (c - i) (xs.drop i) 34 w HO.out (by omega)).mono ?_
    rintro e w' ⟨rfl, ⟨rfl, hno⟩ | ⟨k, rfl, hk, hk10, hbef⟩⟩
    · have HF : Hid ((n : Int) = (E : Int)) := by
        have l := HL.out
        have := str_none xs i (by omega) (fun j hj => hno j (by have := HO.out.len; omega))
        have e := HEi.out
        show (n : Int) = (E : Int)
        omega
      clear hno
      go_wp2
      go_ret
      exact ⟨ret_int HF.out, rfl⟩
    · have HQ : Hid (xs.getD (i + k) 0 = 34 ∧ ∀ j, j < k → xs.getD (i + j) 0 ≠ 34) := by
        refine ⟨?_, fun j hj => ?_⟩
        · rw [← getD_drop]; exact hk10
        · rw [← getD_drop]; exact hbef j hj
      clear hk10 hbef hsl
      have hkn : i + k < n := by omega
      go_wp2_with fail
      go_loop [7] (fun v => ∃ e : Nat, v = .int .i64 e ∧ i ≤ e ∧ e ≤ i + k ∧ ∀ j, e ≤ j → j < i + k → xs.getD j 0 = 92) (fun v => (intOf v).toNat)
      case atStart => exact ⟨i + k, by go_num, by omega, by omega, fun j h1 h2 => by omega⟩
      case round =>
        obtain ⟨e, rfl, hie, hek, hrun⟩ := hrel
        have HRun : Hid (∀ j, e ≤ j → j < i + k → xs.getD j 0 = 92) := hrun
        clear hrun
        by_cases hA : s + 1 < e ∧ xs.getD (e - 1) 0 = 92
        · obtain ⟨hse, h92⟩ := hA
          have hei : i < e := by
            rcases Nat.lt_or_ge i e with h | h
            · exact h
            · have : e = i := by omega
              subst this
              exact absurd h92 (HP.out hse)
          obtain ⟨e, rfl⟩ : ∃ d, e = d + 1 := ⟨e - 1, by omega⟩
          rw [show e + 1 - 1 = e from rfl] at h92
          have hc := hcs e (by omega)
          rw [h92] at hc
          have H92 : Hid (xs.getD e 0 = 92) := h92
          clear h92
          have hse' : (s : Int) + 1 < (e : Int) + 1 := by omega
          go_wp2
          go_round
          case rel =>
            refine ⟨e, by go_num, by omega, by omega, fun j h1 h2 => ?_⟩
            rcases Nat.eq_or_lt_of_le h1 with rfl | h
            · exact H92.out
            · exact HRun.out j (by omega) h2
          case measure => simp [intOf]
        · have hq := str_quote xs i k e (by have := HL.out; omega) HQ.out.1 HQ.out.2 hie hek HRun.out (fun hlt h92 => by
            apply hA
            exact ⟨by omega, h92⟩)
          rw [← HEi.out] at hq
          have hexit : s + 1 < e → w.cell? ⟨b, o + (e - 1), none⟩ = some (.int .u8 (xs.getD (e - 1) 0)) ∧ (xs.getD (e - 1) 0 == 92) = false := fun h => by
            refine ⟨hcs (e - 1) (by omega), ?_⟩
            have : ¬ xs.getD (e - 1) 0 = 92 := fun h2 => hA ⟨h, h2⟩
            simpa using this
          clear hA hcs
          by_cases hpar : (i + k - e) % 2 = 0
          · rw [if_pos hpar] at hq
            have hpi : (((i : Int) + (k : Int) - (e : Int)) % 2 == 0) = true := by simp; omega
            have HF : Hid ((i : Int) + (k : Int) + 1 = (E : Int)) := by
              show (i : Int) + (k : Int) + 1 = (E : Int)
              omega
            clear hq hpar
            rcases Nat.lt_or_ge (s + 1) e with hse | hse
            · obtain ⟨hc, hne⟩ := hexit hse
              obtain ⟨e, rfl⟩ : ∃ d, e = d + 1 := ⟨e - 1, by omega⟩
              rw [show e + 1 - 1 = e from rfl] at hc hne
              have hse' : (s : Int) + 1 < (e : Int) + 1 := by omega
              clear hexit HRun
              generalize xs.getD e 0 = y at *
              go_wp2
              go_ret
              exact ⟨ret_int HF.out, rfl⟩
            · have hse' : ¬ (s : Int) + 1 < (e : Int) := by omega
              clear hexit HRun
              go_wp2
              go_ret
              exact ⟨ret_int HF.out, rfl⟩
          · rw [if_neg hpar] at hq
            have hpi : (((i : Int) + (k : Int) - (e : Int)) % 2 == 0) = false := by simp; omega
            have HF : Hid (E = i + k + 1 + send false (xs.drop (i + k + 1))) := hq
            clear hq hpar
            rcases Nat.lt_or_ge (s + 1) e with hse | hse
            · obtain ⟨hc, hne⟩ := hexit hse
              obtain ⟨e, rfl⟩ : ∃ d, e = d + 1 := ⟨e - 1, by omega⟩
              rw [show e + 1 - 1 = e from rfl] at hc hne
              have hse' : (s : Int) + 1 < (e : Int) + 1 := by omega
              clear hexit HRun
              generalize xs.getD e 0 = y at *
              go_wp2
              go_round
              case rel => exact ⟨i + k + 1, by go_num, by omega, by omega, fun _ => by rw [show i + k + 1 - 1 = i + k from rfl, HQ.out.1]; decide, HF.out⟩
              case measure => simp [intOf]; omega
            · have hse' : ¬ (s : Int) + 1 < (e : Int) := by omega
              clear hexit HRun
              go_wp2
              go_round
              case rel => exact ⟨i + k + 1, by go_num, by omega, by omega, fun _ => by rw [show i + k + 1 - 1 = i + k from rfl, HQ.out.1]; decide, HF.out⟩
              case measure => simp [intOf]; omega

end Go.Proofs.Qxb6601536a
