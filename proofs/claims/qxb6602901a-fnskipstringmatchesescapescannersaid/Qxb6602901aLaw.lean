/-
  Seat b6602901a: b1StringEnd, skipString, and the walk of FnSkipStringMatchesEscapeScanner.
-/
import Derived.Test.Qxb6602901aBase
import Derived.Test.Qxb6602901aScan
namespace Go.Proofs.Qxb6602901a
open Go.RowKit
set_option linter.unusedVariables false

/-- Past the data both answer -1. -/
theorem end_past (ao : Option Addr) (n c : Nat) (J : Int) (w : World) (h : (n : Int) ≤ J) :
    Calls Try.prog 17 #[.slice ao n c, .int .i64 J] w fun e w' => e = .returned (.int .i64 (-1)) ∧ w = w' := by
  go_enter Try.func17, Try.ntmps17
  go_wp2
  go_ret
  exact ⟨rfl, rfl⟩
theorem skip_past (ao : Option Addr) (n c : Nat) (J : Int) (w : World) (h : (n : Int) ≤ J) :
    Calls Try.prog 23 #[.slice ao n c, .int .i64 J] w fun e w' => e = .returned (.int .i64 (-1)) ∧ w = w' := by
  go_enter Try.func23, Try.ntmps23
  go_wp2
  go_ret
  exact ⟨rfl, rfl⟩
/-- At a byte that is no quote too. -/
theorem end_noq (b o n c s : Nat) (xs : List Int) (w : World) (h : Row w (some ⟨b, o, none⟩) n xs) (hn : n ≤ 1048576) (hs : s < n) (hq : xs.getD s 0 ≠ 34) :
    Calls Try.prog 17 #[.slice (some ⟨b, o, none⟩) n c, .int .i64 s] w fun e w' => e = .returned (.int .i64 (-1)) ∧ w = w' := by
  have hc := h.cells s hs
  have hne : (xs.getD s 0 != 34) = true := by simpa using hq
  have hlt : ¬ ((n : Int) ≤ (s : Int)) := by omega
  clear h hq
  generalize xs.getD s 0 = x at *
  go_enter Try.func17, Try.ntmps17
  go_wp2
  go_ret
  exact ⟨rfl, rfl⟩
theorem skip_noq (b o n c s : Nat) (xs : List Int) (w : World) (h : Row w (some ⟨b, o, none⟩) n xs) (hn : n ≤ 1048576) (hs : s < n) (hq : xs.getD s 0 ≠ 34) :
    Calls Try.prog 23 #[.slice (some ⟨b, o, none⟩) n c, .int .i64 s] w fun e w' => e = .returned (.int .i64 (-1)) ∧ w = w' := by
  have hc := h.cells s hs
  have hne : (xs.getD s 0 != 34) = true := by simpa using hq
  have hlt : ¬ ((n : Int) ≤ (s : Int)) := by omega
  clear h hq
  generalize xs.getD s 0 = x at *
  go_enter Try.func23, Try.ntmps23
  go_wp2
  go_ret
  exact ⟨rfl, rfl⟩

set_option maxHeartbeats 2000000 in
set_option maxRecDepth 100000 in
/-- b1StringEnd at a quote. -/
theorem end_quote (b o n c s : Nat) (xs : List Int) (w : World) (h : Row w (some ⟨b, o, none⟩) n xs) (hn : n ≤ 1048576) (hs : s < n) (hq : xs.getD s 0 = 34) :
    Calls Try.prog 17 #[.slice (some ⟨b, o, none⟩) n c, .int .i64 s] w fun e w' => e = .returned (.int .i64 (scan (s + 1) false (xs.drop (s + 1)))) ∧ w = w' := by
  have HL : Hid (xs.length = n) := h.len
  have HCS : Hid (∀ i, i < n → w.cell? ⟨b, o + i, none⟩ = some (.int .u8 (xs.getD i 0))) := h.cells
  obtain ⟨E, hE⟩ : ∃ E, E = scan (s + 1) false (xs.drop (s + 1)) := ⟨_, rfl⟩
  rw [← hE]
  have HE : Hid (E = scan (s + 1) false (xs.drop (s + 1))) := hE
  have hc0 := h.cells s hs
  rw [hq] at hc0
  have hlt0 : ¬ ((n : Int) ≤ (s : Int)) := by omega
  clear h hE hq
  go_enter Try.func17, Try.ntmps17
  go_wp2
  clear hc0
  go_loop [5, 6] (fun ev jv => ∃ (j : Nat) (e : Bool), ev = .bool e ∧ jv = .int .i64 j ∧ s + 1 ≤ j ∧ j ≤ n ∧ E = scan j e (xs.drop j)) (fun _ jv => n - (intOf jv).toNat)
  case atStart => exact ⟨s + 1, false, rfl, by go_num, by omega, by omega, HE.out⟩
  case round =>
    obtain ⟨j, e, rfl, rfl, hsj, hjn, hEj⟩ := hrel
    have HEj : Hid (E = scan j e (xs.drop j)) := hEj
    clear hEj
    by_cases hlt : j < n
    · have hc := HCS.out j hlt
      have HIL : Hid (j < xs.length) := (by show j < xs.length; have := HL.out; omega)
      cases e with
      | true =>
        have HF : Hid (E = scan (j + 1) false (xs.drop (j + 1))) := by have e := HEj.out; rw [scan_esc xs j HIL.out] at e; exact e
        generalize xs.getD j 0 = x at *
        go_wp2
        go_round
        case rel => exact ⟨j + 1, false, rfl, by go_num, by omega, by omega, HF.out⟩
        case measure => simp [intOf]; omega
      | false =>
        rcases (show xs.getD j 0 = 92 ∨ xs.getD j 0 = 34 ∨ (xs.getD j 0 ≠ 92 ∧ xs.getD j 0 ≠ 34) by omega) with hx | hx | ⟨h1, h2⟩
        · have HF : Hid (E = scan (j + 1) true (xs.drop (j + 1))) := by have e := HEj.out; rw [scan_back xs j HIL.out hx] at e; exact e
          rw [hx] at hc
          clear hx
          go_wp2
          go_round
          case rel => exact ⟨j + 1, true, rfl, by go_num, by omega, by omega, HF.out⟩
          case measure => simp [intOf]; omega
        · have HF : Hid ((j : Int) + 1 = E) := by have e := HEj.out; rw [scan_close xs j HIL.out hx] at e; exact e.symm
          rw [hx] at hc
          clear hx
          go_wp2
          go_ret
          exact ⟨ret_int HF.out, rfl⟩
        · have HF : Hid (E = scan (j + 1) false (xs.drop (j + 1))) := by have e := HEj.out; rw [scan_next xs j HIL.out h1 h2] at e; exact e
          have g1 : (xs.getD j 0 == 92) = false := by simpa using h1
          have g2 : (xs.getD j 0 == 34) = false := by simpa using h2
          clear h1 h2
          generalize xs.getD j 0 = x at *
          go_wp2
          go_round
          case rel => exact ⟨j + 1, false, rfl, by go_num, by omega, by omega, HF.out⟩
          case measure => simp [intOf]; omega
    · have HF : Hid ((-1 : Int) = E) := by have e := HEj.out; rw [scan_end xs j (by have := HL.out; omega)] at e; exact e.symm
      clear HEj
      go_wp2
      go_ret
      exact ⟨ret_int HF.out, rfl⟩

set_option maxHeartbeats 2000000 in
set_option maxRecDepth 100000 in
/-- skipString at a quote. -/
theorem skip_quote (b o n c s : Nat) (xs : List Int) (w : World) (h : Row w (some ⟨b, o, none⟩) n xs) (hnc : n ≤ c) (hn : n ≤ 1048576) (hs : s < n) (hq : xs.getD s 0 = 34) :
    Calls Try.prog 23 #[.slice (some ⟨b, o, none⟩) n c, .int .i64 s] w fun e w' => e = .returned (.int .i64 (scan (s + 1) false (xs.drop (s + 1)))) ∧ w = w' := by
  have HL : Hid (xs.length = n) := h.len
  have HR : Hid (Row w (some ⟨b, o, none⟩) n xs) := h
  have HCS : Hid (∀ i, i < n → w.cell? ⟨b, o + i, none⟩ = some (.int .u8 (xs.getD i 0))) := h.cells
  obtain ⟨E, hE⟩ : ∃ E, E = scan (s + 1) false (xs.drop (s + 1)) := ⟨_, rfl⟩
  rw [← hE]
  have HE : Hid (E = scan (s + 1) false (xs.drop (s + 1)) ∧ xs.getD s 0 = 34) := ⟨hE, hq⟩
  have hc0 := h.cells s hs
  rw [hq] at hc0
  have hlt0 : ¬ ((n : Int) ≤ (s : Int)) := by omega
  clear h hE hq
  go_enter Try.func23, Try.ntmps23
  go_wp2
  clear hc0
  go_loop [1] (fun v => ∃ i : Nat, v = .int .i64 i ∧ s + 1 ≤ i ∧ i ≤ n ∧ xs.getD (i - 1) 0 ≠ 92 ∧ E = scan i false (xs.drop i)) (fun v => n + 1 - (intOf v).toNat)
  case atStart => exact ⟨s + 1, by go_num, by omega, by omega, by rw [show s + 1 - 1 = s from rfl, HE.out.2]; decide, HE.out.1⟩
  case round =>
    obtain ⟨i, rfl, hsi, hin, hpre, hEi⟩ := hrel
    have HP : Hid (xs.getD (i - 1) 0 ≠ 92) := hpre
    have HEi : Hid (E = scan i false (xs.drop i)) := hEi
    clear hpre hEi
    obtain ⟨ro, hro⟩ : ∃ ro, ro = (if c = i then some ⟨b, o, none⟩ else (some (⟨b, o, none⟩ : Addr)).map fun x => x.add i) := ⟨_, rfl⟩
    have hsl := run_cut (some ⟨b, o, none⟩) n c i hin
    rw [← hro] at hsl
    have HO : Hid (Row w ro (n - i) (xs.drop i)) := by rw [hro]; exact HR.out.cutIf c i hnc
    clear hro
    go_wp2_with fail
    refine (index_row ro (n - i) (c - i) (xs.drop i) 34 w HO.out (by omega)).mono ?_
    rintro e w' ⟨rfl, ⟨rfl, hno⟩ | ⟨k, rfl, hk, hk10, hbef⟩⟩
    · have HF : Hid ((-1 : Int) = E) := by
        have e := HEi.out
        rw [scan_none xs i (fun j hj => hno j (by have := HO.out.len; omega))] at e
        exact e.symm
      clear hno
      go_wp2
      go_ret
      exact ⟨ret_int HF.out, rfl⟩
    · have HQ : Hid (xs.getD (i + k) 0 = 34 ∧ ∀ j, j < k → xs.getD (i + j) 0 ≠ 34) := by
        refine ⟨?_, fun j hj => ?_⟩
        · rw [← getD_drop]; exact hk10
        · rw [← getD_drop]; exact hbef j hj
      clear hk10 hbef hsl
      have hkn : i + k < n := by omega
      have hk0 : ¬ ((k : Int) < 0) := by omega
      go_wp2_with fail
      go_loop [6, 7] (fun cv jv => ∃ e : Nat, jv = .int .i64 ((e : Int) - 1) ∧ cv = .int .i64 (i + k - e : Nat) ∧ i ≤ e ∧ e ≤ i + k ∧ ∀ j, e ≤ j → j < i + k → xs.getD j 0 = 92) (fun _ jv => (intOf jv + 1).toNat)
      case atStart => exact ⟨i + k, by go_num, by go_num, by omega, by omega, fun j h1 h2 => by omega⟩
      case round =>
        obtain ⟨e, rfl, rfl, hie, hek, hrun⟩ := hrel
        have HRun : Hid (∀ j, e ≤ j → j < i + k → xs.getD j 0 = 92) := hrun
        clear hrun
        obtain ⟨d, rfl⟩ : ∃ d, e = d + 1 := ⟨e - 1, by omega⟩
        have hc := HCS.out d (by omega)
        have hrb : i + k - (d + 1) ≤ 1048576 := by omega
        by_cases h92 : xs.getD d 0 = 92
        · have hei : i ≤ d := by
            rcases Nat.lt_or_ge d i with h | h
            · have : d = i - 1 := by omega
              subst this
              exact absurd h92 HP.out
            · exact h
          have H92 : Hid (xs.getD d 0 = 92) := h92
          rw [h92] at hc
          clear h92
          generalize hr : i + k - (d + 1) = r at *
          have HRr : Hid (i + k - (d + 1) = r) := hr
          clear hr
          go_wp2
          go_round
          case rel =>
            refine ⟨d, by go_num, ?_, by omega, by omega, fun j h1 h2 => ?_⟩
            · have := HRr.out
              rw [show i + k - d = r + 1 by omega]
              go_num
            · rcases Nat.eq_or_lt_of_le h1 with rfl | h
              · exact H92.out
              · exact HRun.out j (by omega) h2
          case measure => simp [intOf]
        · have hq := scan_quote xs i k (d + 1) (by have := HL.out; omega) HQ.out.1 HQ.out.2 hie hek HRun.out (fun _ => h92)
          rw [← HEi.out] at hq
          have hne : (xs.getD d 0 == 92) = false := by simpa using h92
          generalize xs.getD d 0 = y at *
          generalize i + k - (d + 1) = r at *
          clear h92 HRun
          rcases Nat.mod_two_eq_zero_or_one r with hpar | hpar
          · rw [if_pos hpar] at hq
            have hpi : ((r : Int) % 2 == 0) = true := by simp; omega
            have HF : Hid ((i : Int) + (k : Int) + 1 = E) := (by show (i : Int) + (k : Int) + 1 = E; omega)
            clear hq hpar
            go_wp2
            go_ret
            exact ⟨ret_int HF.out, rfl⟩
          · rw [if_neg (by omega)] at hq
            have hpi : ((r : Int) % 2 == 0) = false := by simp; omega
            have HF : Hid (E = scan (i + k + 1) false (xs.drop (i + k + 1))) := hq
            clear hq hpar
            go_wp2
            go_round
            case rel => exact ⟨i + k + 1, by go_num, by omega, by omega, by rw [show i + k + 1 - 1 = i + k from rfl, HQ.out.1]; decide, HF.out⟩
            case measure => simp [intOf]; omega

/-- Both answer one and the same number. -/
theorem both (ao : Option Addr) (n c : Nat) (J : Int) (xs : List Int) (w : World) (h : Row w ao n xs) (hnc : n ≤ c) (hn : n ≤ 1048576) (hJ : 0 ≤ J) :
    ∃ E : Int, (Calls Try.prog 23 #[.slice ao n c, .int .i64 J] w fun e w' => e = .returned (.int .i64 E) ∧ w = w') ∧ (Calls Try.prog 17 #[.slice ao n c, .int .i64 J] w fun e w' => e = .returned (.int .i64 E) ∧ w = w') := by
  by_cases hlt : J < (n : Int)
  · obtain ⟨s, rfl⟩ : ∃ s : Nat, J = s := ⟨J.toNat, by omega⟩
    obtain ⟨b, o, rfl, _⟩ := h.at (by omega)
    by_cases hq : xs.getD s 0 = 34
    · exact ⟨_, skip_quote b o n c s xs w h hnc hn (by omega) hq, end_quote b o n c s xs w h hn (by omega) hq⟩
    · exact ⟨_, skip_noq b o n c s xs w h hn (by omega) hq, end_noq b o n c s xs w h hn (by omega) hq⟩
  · exact ⟨_, skip_past ao n c J w (by omega), end_past ao n c J w (by omega)⟩

set_option maxHeartbeats 1000000 in
/-- The walk: the law returns true and turns nothing that was there. -/
theorem walkEscape (a0 : Option Addr) (len0 cap0 : Nat) (z0 : List Int) (a1 : Int) (w : World) (w0 : IsRow .u8 w a0 len0 cap0 z0) (w1 : (Lit.int .i64 a1).wf = true) :
    Calls Try.prog 5 #[.slice a0 len0 cap0, .int .i64 a1] w fun e w' => e = .returned (.bool true) ∧ Below w.heap.size w w' := by
  clear w1
  rcases Nat.lt_or_ge 1048576 len0 with hbig | hbig
  · have hbig' : (1048576 : Int) < (len0 : Int) := by omega
    clear w0
    go_enter Try.func5, Try.ntmps5
    go_wp2
    go_ret
    exact ⟨rfl, Below.refl _ _⟩
  by_cases hneg : a1 < 0
  · clear w0
    go_enter Try.func5, Try.ntmps5
    go_wp2
    go_ret
    exact ⟨rfl, Below.refl _ _⟩
  have HC := clone_row a0 len0 cap0 z0 w w0 hbig
  clear w0
  go_enter Try.func5, Try.ntmps5
  go_wp2_with (go_at_call 15; go_in)
  refine HC.mono ?_
  clear HC
  rintro e wa ⟨ao, c, rfl, hc, hba, hrow⟩
  obtain ⟨E, H1, H2⟩ := both ao len0 c a1 (z0.take len0) wa hrow hc hbig (by omega)
  have HA : Hid (Below w.heap.size w wa) := hba
  clear hba hrow
  go_wp2_with (first | (go_at_call 16; go_in) | (go_at_call 23; refine H1.mono ?_; rintro e w' ⟨rfl, rfl⟩) | (go_at_call 17; refine H2.mono ?_; rintro e w' ⟨rfl, rfl⟩))
  go_ret
  exact ⟨rfl, HA.out⟩

end Go.Proofs.Qxb6602901a
