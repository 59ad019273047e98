/-
  Seat b6602247a: zzBalance_b1, zzDestTerminator_b1.
-/
import Derived.Test.Qxb6602247aModelWalk
namespace Go.Proofs.Qxb6602247a
open Go.RowKit
set_option linter.unusedVariables false

theorem bal_esc (xs : List Int) (st k : Nat) (h : fl xs st k = true) : bal xs st (k + 1) = bal xs st k := by simp [bal, h]
theorem bal_plain (xs : List Int) (st k : Nat) (h : fl xs st k = false) : bal xs st (k + 1) = bal xs st k + (if xs.getD (st + k) 0 = 40 then 1 else if xs.getD (st + k) 0 = 41 then -1 else 0) := by simp [bal, h]

set_option maxHeartbeats 2000000 in
set_option maxRecDepth 100000 in
/-- zzBalance_b1. -/
theorem zzBalance (s : ByteArray) (st k : Nat) (S J : Int) (w : World) (hs : s.size ≤ 1048576) (hS : S = st) (hJ : J = (st + k : Nat)) (hk : st + k ≤ s.size) :
    Calls Try.prog 19 #[.string s, .int .i64 S, .int .i64 J] w fun e w' => e = .returned (.int .i64 (bal (nums s) st k)) ∧ w = w' := by
  subst hS
  rw [show ((st + k : Nat) : Int) = (st : Int) + (k : Int) from by omega] at hJ
  subst hJ
  have HG : Hid (∀ k (h : k < s.size), (s[k].toNat : Int) = (nums s).getD k 0) := nums_get s
  have HEs : Hid (∀ (i : Nat) (J : Int), J = (st : Int) + (i : Int) → i ≤ 1048577 → Calls Try.prog 17 #[.string s, .int .i64 st, .int .i64 J] w fun e w' => e = .returned (.bool (fl (nums s) st i)) ∧ w = w') := fun i J hJ hi => zzEscaped s st i st J w hs rfl (by omega) (by omega) hi
  generalize nums s = xs at *
  go_enter Try.func19, Try.ntmps19
  go_wp2
  go_loop [7, 8] (fun bv kv => ∃ i : Nat, kv = .int .i64 ((st : Int) + (i : Int)) ∧ i ≤ k ∧ bv = .int .i64 (bal xs st i)) (fun _ kv => (st + k) - (intOf kv).toNat)
  case atStart => exact ⟨0, by go_num, by omega, rfl⟩
  case round =>
    obtain ⟨i, rfl, hik, rfl⟩ := hrel
    have hbd := bal_bd xs st i
    by_cases hlt : i < k
    · have HE := HEs.out i ((st : Int) + (i : Int)) rfl (by omega)
      have hx := HG.out (st + i) (by omega)
      have hlt' : (st : Int) + (i : Int) < (st : Int) + (k : Int) := by omega
      cases hf : fl xs st i with
      | true =>
        have HB : Hid (bal xs st (i + 1) = bal xs st i) := bal_esc xs st i hf
        rw [hf] at HE
        clear hf hx
        generalize bal xs st i = B at *
        go_wp2_with (go_at_call 17; refine HE.mono ?_; rintro e w' ⟨rfl, rfl⟩)
        go_round
        case rel => exact ⟨i + 1, by go_num, by omega, by rw [HB.out]⟩
        case measure => simp [intOf]; omega
      | false =>
        have hb := bal_plain xs st i hf
        rw [hf] at HE
        clear hf
        by_cases h40 : xs.getD (st + i) 0 = 40
        · rw [if_pos h40] at hb
          have HB : Hid (bal xs st (i + 1) = bal xs st i + 1) := hb
          rw [h40] at hx
          clear hb h40
          generalize bal xs st i = B at *
          go_wp2_with (go_at_call 17; refine HE.mono ?_; rintro e w' ⟨rfl, rfl⟩)
          go_round
          case rel => exact ⟨i + 1, by go_num, by omega, by rw [HB.out]⟩
          case measure => simp [intOf]; omega
        · rw [if_neg h40] at hb
          by_cases h41 : xs.getD (st + i) 0 = 41
          · rw [if_pos h41] at hb
            have HB : Hid (bal xs st (i + 1) = bal xs st i - 1) := hb
            rw [h41] at hx
            clear hb h40 h41
            generalize bal xs st i = B at *
            go_wp2_with (go_at_call 17; refine HE.mono ?_; rintro e w' ⟨rfl, rfl⟩)
            go_round
            case rel => exact ⟨i + 1, by go_num, by omega, by rw [HB.out]⟩
            case measure => simp [intOf]; omega
          · rw [if_neg h41, Int.add_zero] at hb
            have HB : Hid (bal xs st (i + 1) = bal xs st i) := hb
            have g1 : (xs.getD (st + i) 0 == 40) = false := by simpa using h40
            have g2 : (xs.getD (st + i) 0 == 41) = false := by simpa using h41
            clear hb h40 h41
            generalize bal xs st i = B at *
            generalize xs.getD (st + i) 0 = x at *
            go_wp2_with (go_at_call 17; refine HE.mono ?_; rintro e w' ⟨rfl, rfl⟩)
            go_round
            case rel => exact ⟨i + 1, by go_num, by omega, by rw [HB.out]⟩
            case measure => simp [intOf]; omega
    · obtain rfl : i = k := by omega
      go_wp2
      go_ret
      exact ⟨rfl, rfl⟩

theorem stopsAt_esc (xs : List Int) (st k : Nat) (h : fl xs st k = true) : stopsAt xs st k = false := by simp [stopsAt, h]
theorem stopsAt_plain (xs : List Int) (st k : Nat) (h : fl xs st k = false) : stopsAt xs st k = decide (xs.getD (st + k) 0 ≤ 32 ∨ xs.getD (st + k) 0 = 127 ∨ (xs.getD (st + k) 0 = 41 ∧ bal xs st k = 0)) := by simp [stopsAt, h]

set_option maxHeartbeats 2000000 in
set_option maxRecDepth 100000 in
/-- zzDestTerminator_b1: the first place that ends the destination, or the end. -/
theorem zzTerm (s : ByteArray) (a : Nat) (w : World) (hs : s.size ≤ 1048576) (ha : a ≤ s.size) :
    Calls Try.prog 18 #[.string s, .int .i64 a] w fun e w' => w = w' ∧ ∃ k : Nat, e = .returned (.int .i64 ((a : Int) + (k : Int))) ∧ a + k ≤ s.size ∧ (∀ i, i < k → stopsAt (nums s) a i = false) ∧ (a + k < s.size → stopsAt (nums s) a k = true) := by
  have HG : Hid (∀ k (h : k < s.size), (s[k].toNat : Int) = (nums s).getD k 0) := nums_get s
  have HEs : Hid (∀ (i : Nat) (J : Int), J = (a : Int) + (i : Int) → i ≤ 1048577 → Calls Try.prog 17 #[.string s, .int .i64 a, .int .i64 J] w fun e w' => e = .returned (.bool (fl (nums s) a i)) ∧ w = w') := fun i J hJ hi => zzEscaped s a i a J w hs rfl (by omega) (by omega) hi
  have HBs : Hid (∀ (i : Nat) (J : Int), J = (a : Int) + (i : Int) → a + i ≤ s.size → Calls Try.prog 19 #[.string s, .int .i64 a, .int .i64 J] w fun e w' => e = .returned (.int .i64 (bal (nums s) a i)) ∧ w = w') := fun i J hJ hi => zzBalance s a i a J w hs rfl (by omega) hi
  generalize nums s = xs at *
  go_enter Try.func18, Try.ntmps18
  go_wp2
  go_loop [5] (fun jv => ∃ k : Nat, jv = .int .i64 ((a : Int) + (k : Int)) ∧ a + k ≤ s.size ∧ ∀ i, i < k → stopsAt xs a i = false) (fun jv => s.size - (intOf jv).toNat)
  case atStart => exact ⟨0, by go_num, by omega, fun i hi => by omega⟩
  case round =>
    obtain ⟨k, rfl, hk, ht⟩ := hrel
    have HT : Hid (∀ i, i < k → stopsAt xs a i = false) := ht
    clear ht
    by_cases hlt : a + k < s.size
    · have HE := HEs.out k ((a : Int) + (k : Int)) rfl (by omega)
      have hx := HG.out (a + k) hlt
      have hlt' : (a : Int) + (k : Int) < (s.size : Int) := by omega
      cases hf : fl xs a k with
      | true =>
        have HTk : Hid (stopsAt xs a k = false) := stopsAt_esc xs a k hf
        rw [hf] at HE
        clear hf hx
        go_wp2_with (go_at_call 17; refine HE.mono ?_; rintro e w' ⟨rfl, rfl⟩)
        go_round
        case rel => exact ⟨k + 1, by go_num, by omega, fun i hi => (by
          rcases Nat.lt_or_ge i k with h | h
          · exact HT.out i h
          · obtain rfl : i = k := (by omega)
            exact HTk.out)⟩
        case measure => simp [intOf]; omega
      | false =>
        have hb := stopsAt_plain xs a k hf
        rw [hf] at HE
        clear hf
        rcases (show xs.getD (a + k) 0 ≤ 32 ∨ xs.getD (a + k) 0 = 127 ∨ xs.getD (a + k) 0 = 41 ∨ (32 < xs.getD (a + k) 0 ∧ xs.getD (a + k) 0 ≠ 127 ∧ xs.getD (a + k) 0 ≠ 41) by omega) with h | h | h | ⟨h1, h2, h3⟩
        · have HTk : Hid (stopsAt xs a k = true) := by rw [hb]; exact decide_eq_true (.inl h)
          clear hb
          generalize xs.getD (a + k) 0 = x at *
          go_wp2_with (go_at_call 17; refine HE.mono ?_; rintro e w' ⟨rfl, rfl⟩)
          go_ret
          exact ⟨rfl, k, rfl, hk, HT.out, fun _ => HTk.out⟩
        · have HTk : Hid (stopsAt xs a k = true) := by rw [hb]; exact decide_eq_true (.inr (.inl h))
          rw [h] at hx
          clear hb h
          go_wp2_with (go_at_call 17; refine HE.mono ?_; rintro e w' ⟨rfl, rfl⟩)
          go_ret
          exact ⟨rfl, k, rfl, hk, HT.out, fun _ => HTk.out⟩
        · have HB := HBs.out k ((a : Int) + (k : Int)) rfl hk
          by_cases hz : bal xs a k = 0
          · have HTk : Hid (stopsAt xs a k = true) := by rw [hb]; exact decide_eq_true (.inr (.inr ⟨h, hz⟩))
            rw [h] at hx
            rw [hz] at HB
            clear hb h hz
            go_wp2_with (first | (go_at_call 17; refine HE.mono ?_; rintro e w' ⟨rfl, rfl⟩) | (go_at_call 19; refine HB.mono ?_; rintro e w' ⟨rfl, rfl⟩))
            go_ret
            exact ⟨rfl, k, rfl, hk, HT.out, fun _ => HTk.out⟩
          · have HTk : Hid (stopsAt xs a k = false) := by rw [hb]; exact decide_eq_false (by omega)
            have hz' : (bal xs a k == 0) = false := by simpa using hz
            rw [h] at hx
            clear hb h hz
            generalize bal xs a k = B at *
            go_wp2_with (first | (go_at_call 17; refine HE.mono ?_; rintro e w' ⟨rfl, rfl⟩) | (go_at_call 19; refine HB.mono ?_; rintro e w' ⟨rfl, rfl⟩))
            go_round
            case rel => exact ⟨k + 1, by go_num, by omega, fun i hi => (by
              rcases Nat.lt_or_ge i k with h | h
              · exact HT.out i h
              · obtain rfl : i = k := (by omega)
                exact HTk.out)⟩
            case measure => simp [intOf]; omega
        · have HTk : Hid (stopsAt xs a k = false) := by rw [hb]; exact decide_eq_false (by omega)
          have g1 : ¬ xs.getD (a + k) 0 ≤ 32 := by omega
          have g2 : (xs.getD (a + k) 0 == 127) = false := by simpa using h2
          have g3 : (xs.getD (a + k) 0 == 41) = false := by simpa using h3
          clear hb h1 h2 h3
          generalize xs.getD (a + k) 0 = x at *
          go_wp2_with (go_at_call 17; refine HE.mono ?_; rintro e w' ⟨rfl, rfl⟩)
          go_round
          case rel => exact ⟨k + 1, by go_num, by omega, fun i hi => (by
            rcases Nat.lt_or_ge i k with h | h
            · exact HT.out i h
            · obtain rfl : i = k := (by omega)
              exact HTk.out)⟩
          case measure => simp [intOf]; omega
    · have hge : ¬ ((a : Int) + (k : Int) < (s.size : Int)) := by omega
      go_wp2
      go_ret
      exact ⟨rfl, k, ret_int (by omega), hk, HT.out, fun h => absurd h hlt⟩

end Go.Proofs.Qxb6602247a
