/-
  Seat b6602247a: zzPunct_b1, zzEscaped_b1, zzBalance_b1.
-/
import Derived.Test.Qxb6602247aEsc
namespace Go.Proofs.Qxb6602247a
open Go.RowKit
set_option linter.unusedVariables false

theorem ret_bool {a b : Bool} (h : a = b) : Ending.returned (.bool a) = .returned (.bool b) := by rw [h]

set_option maxHeartbeats 1000000 in
/-- zzPunct_b1. -/
theorem zzPunct (x : Int) (w : World) : Calls Try.prog 22 #[.int .u8 x] w fun e w' => e = .returned (.bool (punct x)) ∧ w = w' := by
  rcases (show x < 33 ∨ (33 ≤ x ∧ x ≤ 47) ∨ (47 < x ∧ x < 58) ∨ (58 ≤ x ∧ x ≤ 64) ∨ (64 < x ∧ x < 91) ∨ (91 ≤ x ∧ x ≤ 96) ∨ (96 < x ∧ x < 123) ∨ (123 ≤ x ∧ x ≤ 126) ∨ 126 < x by omega) with h | h | h | h | h | h | h | h | h
  all_goals
    first
      | (have hp : punct x = true := decide_eq_true (by omega)
         rw [hp]
         clear hp
         try (obtain ⟨h1, h2⟩ := h)
         go_enter Try.func22, Try.ntmps22
         go_wp2
         go_ret
         exact ⟨rfl, rfl⟩)
      | (have hp : punct x = false := decide_eq_false (by omega)
         rw [hp]
         clear hp
         try (obtain ⟨h1, h2⟩ := h)
         go_enter Try.func22, Try.ntmps22
         go_wp2
         go_ret
         first | exact ⟨rfl, rfl⟩ | exact ⟨ret_bool (decide_eq_false (by omega)), rfl⟩)

theorem fl_past (xs : List Int) (st k : Nat) (h : xs.length ≤ st + k) : fl xs st k = false := by
  cases k with
  | zero => rfl
  | succ k =>
    have hp : punct (xs.getD (st + k + 1) 0) = false := by rw [getD_past xs _ (by omega)]; decide
    show (_ && punct (xs.getD (st + k + 1) 0)) = false
    rw [hp]; simp

set_option maxHeartbeats 2000000 in
set_option maxRecDepth 100000 in
/-- zzEscaped_b1. -/
theorem zzEscaped (s : ByteArray) (st k : Nat) (S J : Int) (w : World) (hs : s.size ≤ 1048576) (hS : S = st) (hJ : J = (st + k : Nat)) (hst : st ≤ 1048577) (hk : k ≤ 1048577) :
    Calls Try.prog 17 #[.string s, .int .i64 S, .int .i64 J] w fun e w' => e = .returned (.bool (fl (nums s) st k)) ∧ w = w' := by
  subst hS hJ
  have HL : Hid ((nums s).length = s.size) := nums_len s
  have HG : Hid (∀ k (h : k < s.size), (s[k].toNat : Int) = (nums s).getD k 0) := nums_get s
  have HBy : Hid (∀ k, 0 ≤ (nums s).getD k 0 ∧ (nums s).getD k 0 ≤ 255) := nums_byte s
  generalize nums s = xs at *
  cases k with
  | zero =>
    have hf : fl xs st 0 = false := rfl
    rw [hf]
    clear hf
    have h1 : ((st + 0 : Nat) : Int) = (st : Int) := rfl
    rw [h1]
    clear h1
    go_enter Try.func17, Try.ntmps17
    go_wp2
    go_ret
    exact ⟨rfl, rfl⟩
  | succ m =>
    rw [show ((st + (m + 1) : Nat) : Int) = ((st + m : Nat) : Int) + 1 from by omega]
    have hgt : ¬ ((st : Int) + (m : Int) + 1 ≤ (st : Int)) := by omega
    rw [show ((st + m : Nat) : Int) = (st : Int) + (m : Int) from by omega]
    rcases Nat.lt_or_ge (st + m + 1) s.size with hl | hl
    · have hl' : ¬ ((s.size : Int) ≤ (st : Int) + (m : Int) + 1) := by omega
      have hx := HG.out (st + m) (by omega)
      have hy := HG.out (st + m + 1) hl
      by_cases h92 : xs.getD (st + m) 0 = 92
      · cases hp : punct (xs.getD (st + m + 1) 0) with
        | false =>
          have hf : fl xs st (m + 1) = false := by
            show (_ && punct (xs.getD (st + m + 1) 0)) = false
            rw [hp]; simp
          have HP := zzPunct (xs.getD (st + m + 1) 0) w
          rw [hp] at HP
          rw [hf]
          rw [h92] at hx
          clear h92 hp hf
          generalize xs.getD (st + m + 1) 0 = y at *
          go_enter Try.func17, Try.ntmps17
          go_wp2_with (go_at_call 22; refine HP.mono ?_; rintro e w' ⟨rfl, rfl⟩)
          go_ret
          exact ⟨rfl, rfl⟩
        | true =>
          have HP := zzPunct (xs.getD (st + m + 1) 0) w
          rw [hp] at HP
          have HPn : Hid (punct (xs.getD (st + m + 1) 0) = true) := hp
          have H92 : Hid (xs.getD (st + m) 0 = 92) := h92
          rw [h92] at hx
          clear h92 hp
          generalize hE : fl xs st (m + 1) = E
          have HE : Hid (fl xs st (m + 1) = E) := hE
          clear hE
          obtain ⟨y, hyy⟩ : ∃ y, xs.getD (st + m + 1) 0 = y := ⟨_, rfl⟩
          rw [hyy] at HP hy
          clear hyy
          go_enter Try.func17, Try.ntmps17
          go_wp2_with (go_at_call 22; refine HP.mono ?_; rintro e w' ⟨rfl, rfl⟩)
          clear hx hy HP
          go_loop [7, 8] (fun rv kv => ∃ q : Nat, kv = .int .i64 ((q : Int) - 1) ∧ rv = .int .i64 (st + m + 1 - q : Nat) ∧ st ≤ q ∧ q ≤ st + m + 1 ∧ ∀ j, q ≤ j → j ≤ st + m → xs.getD j 0 = 92) (fun _ kv => (intOf kv + 1).toNat)
          case atStart => exact ⟨st + m + 1, by go_num, by go_num, by omega, by omega, fun j h1 h2 => by omega⟩
          case round =>
            obtain ⟨q, rfl, rfl, hq1, hq2, hrun⟩ := hrel
            have HRun : Hid (∀ j, q ≤ j → j ≤ st + m → xs.getD j 0 = 92) := hrun
            clear hrun
            by_cases hA : st < q ∧ xs.getD (q - 1) 0 = 92
            · obtain ⟨hsq, h92⟩ := hA
              obtain ⟨p, rfl⟩ : ∃ p, q = p + 1 := ⟨q - 1, by omega⟩
              rw [show p + 1 - 1 = p from rfl] at h92
              have hx := HG.out p (by omega)
              rw [h92] at hx
              have H92' : Hid (xs.getD p 0 = 92) := h92
              clear h92
              generalize hr : st + m + 1 - (p + 1) = r
              have HR : Hid (st + m + 1 - (p + 1) = r) := hr
              have hrb : r ≤ 2097154 := by omega
              clear hr
              have hge : (st : Int) ≤ (p : Int) := by omega
              go_wp2
              go_round
              case rel =>
                refine ⟨p, by go_num, ?_, by omega, by omega, fun j h1 h2 => ?_⟩
                · have := HR.out
                  rw [show st + m + 1 - p = r + 1 by omega]
                  go_num
                · rcases Nat.eq_or_lt_of_le h1 with rfl | h
                  · exact H92'.out
                  · exact HRun.out j (by omega) h2
              case measure => simp [intOf]
            · have hfl := fl_run xs st (st + m + 1 - q) (m + 1) (by omega) (fun i hi => HRun.out _ (by omega) (by omega)) (fun hlt hh => by
                apply hA
                refine ⟨by omega, ?_⟩
                rw [show st + (m + 1) - 1 - (st + m + 1 - q) = q - 1 by omega] at hh
                exact hh)
              rw [show st + (m + 1) = st + m + 1 by omega, HPn.out, HE.out, Bool.and_true] at hfl
              have hexit : st < q → ((s[q - 1]'(by omega)).toNat : Int) = xs.getD (q - 1) 0 ∧ (xs.getD (q - 1) 0 == 92) = false := fun h => by
                refine ⟨HG.out (q - 1) (by omega), ?_⟩
                have : ¬ xs.getD (q - 1) 0 = 92 := fun h2 => hA ⟨h, h2⟩
                simpa using this
              clear hA
              have hrb : st + m + 1 - q ≤ 2097154 := by omega
              generalize st + m + 1 - q = r at *
              rcases Nat.mod_two_eq_zero_or_one r with hpar | hpar
              · obtain rfl : E = false := by rw [hfl, hpar]; rfl
                have hpi : ((r : Int) % 2 == 1) = false := by simp; omega
                clear hfl hpar
                rcases Nat.lt_or_ge st q with hsq | hsq
                · obtain ⟨hx, hne⟩ := hexit hsq
                  obtain ⟨p, rfl⟩ : ∃ p, q = p + 1 := ⟨q - 1, by omega⟩
                  have hx' : ((s[p]'(by omega)).toNat : Int) = xs.getD p 0 := hx
                  rw [show p + 1 - 1 = p from rfl] at hne
                  have hge : (st : Int) ≤ (p : Int) := by omega
                  clear hexit HRun hx
                  generalize xs.getD p 0 = y at *
                  go_wp2
                  go_ret
                  exact ⟨rfl, rfl⟩
                · have hge : ¬ ((st : Int) ≤ (q : Int) - 1) := by omega
                  clear hexit HRun
                  go_wp2
                  go_ret
                  exact ⟨rfl, rfl⟩
              · obtain rfl : E = true := by rw [hfl, hpar]; rfl
                have hpi : ((r : Int) % 2 == 1) = true := by simp; omega
                clear hfl hpar
                rcases Nat.lt_or_ge st q with hsq | hsq
                · obtain ⟨hx, hne⟩ := hexit hsq
                  obtain ⟨p, rfl⟩ : ∃ p, q = p + 1 := ⟨q - 1, by omega⟩
                  have hx' : ((s[p]'(by omega)).toNat : Int) = xs.getD p 0 := hx
                  rw [show p + 1 - 1 = p from rfl] at hne
                  have hge : (st : Int) ≤ (p : Int) := by omega
                  clear hexit HRun hx
                  generalize xs.getD p 0 = y at *
                  go_wp2
                  go_ret
                  exact ⟨rfl, rfl⟩
                · have hge : ¬ ((st : Int) ≤ (q : Int) - 1) := by omega
                  clear hexit HRun
                  go_wp2
                  go_ret
                  exact ⟨rfl, rfl⟩
      · have hf : fl xs st (m + 1) = false := by
          show (_ && decide (xs.getD (st + m) 0 = 92) && punct (xs.getD (st + m + 1) 0)) = false
          rw [decide_eq_false h92]; simp
        have g1 : (xs.getD (st + m) 0 != 92) = true := by simpa using h92
        rw [hf]
        clear h92 hf hy
        generalize xs.getD (st + m) 0 = x at *
        go_enter Try.func17, Try.ntmps17
        go_wp2
        go_ret
        exact ⟨rfl, rfl⟩
    · have hf := fl_past xs st (m + 1) (by have := HL.out; omega)
      have hl' : (s.size : Int) ≤ (st : Int) + (m : Int) + 1 := by omega
      rw [hf]
      clear hf
      go_enter Try.func17, Try.ntmps17
      go_wp2
      go_ret
      exact ⟨rfl, rfl⟩

end Go.Proofs.Qxb6602247a
