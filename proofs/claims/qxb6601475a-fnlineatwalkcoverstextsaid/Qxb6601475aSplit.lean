/-
  Seat b6601475a: countNewlines, equalBytes with its world told, lineSplits where it answers true.
-/
import Derived.Test.Qxb6601475aLoops
namespace Go.Proofs.Qxb6601475a
open Go.RowKit
set_option linter.unusedVariables false

theorem ret_int {k : IntKind} {a b : Int} (h : a = b) : Ending.returned (.int k a) = .returned (.int k b) := by rw [h]

/-- How many line feeds. -/
def cnt (xs : List Int) : Nat := xs.count 10
theorem cnt_le (xs : List Int) : cnt xs ≤ xs.length := List.count_le_length
theorem cnt_succ (xs : List Int) (k : Nat) (h : k < xs.length) : cnt (xs.take (k + 1)) = cnt (xs.take k) + if xs.getD k 0 = 10 then 1 else 0 := by
  have e : xs.getD k 0 = xs[k] := by simp [h]
  rw [e]
  unfold cnt
  rw [List.take_succ_eq_append_getElem h, List.count_append]
  congr 1
  by_cases hx : xs[k] = 10
  · simp [hx]
  · simp [hx]

set_option maxHeartbeats 1000000 in
theorem countNl (ao : Option Addr) (n c : Nat) (xs : List Int) (w : World) (h : Row w ao n xs) (hn : n ≤ 1048576) :
    Calls Try.prog 18 #[.slice ao n c] w fun e w' => e = .returned (.int .i64 (cnt xs)) ∧ w' = w := by
  rcases Nat.eq_zero_or_pos n with rfl | hp
  · have hx : xs = [] := List.eq_nil_of_length_eq_zero h.1
    subst hx
    clear h
    go_enter Try.func18, Try.ntmps18
    go_wp2
    refine wp_loop_rounds 1 ?_
    rw [rounds_succ]
    go_wp2
    go_ret
    exact ⟨rfl, rfl⟩
  · obtain ⟨b, o, rfl, hcs⟩ := h.at hp
    have HL : Hid (xs.length = n) := h.len
    have HE : Hid (cnt (xs.take n) = cnt xs) := by
      have : cnt (xs.take n) = cnt xs := by rw [List.take_of_length_le (by have := HL.out; omega)]
      exact this
    clear h
    go_enter Try.func18, Try.ntmps18
    go_wp2
    go_loop [3, 4] (fun t i => ∃ k : Nat, k ≤ n ∧ i = .int .i64 k ∧ t = .int .i64 (cnt (xs.take k))) (fun _ i => n - (intOf i).toNat)
    case atStart => exact ⟨0, Nat.zero_le _, rfl, rfl⟩
    case round =>
      obtain ⟨k, hk, rfl, rfl⟩ := hrel
      have hle := cnt_le (xs.take k)
      have hle2 : (xs.take k).length ≤ k := List.length_take_le _ _
      by_cases hlt : k < n
      · have hc := hcs k hlt
        have HS : Hid (cnt (xs.take (k + 1)) = cnt (xs.take k) + if xs.getD k 0 = 10 then 1 else 0) := cnt_succ xs k (by have := HL.out; omega)
        by_cases hnl : xs.getD k 0 = 10
        · rw [hnl] at hc
          have HS' : Hid (cnt (xs.take (k + 1)) = cnt (xs.take k) + 1) := by have := HS.out; rw [if_pos hnl] at this; exact this
          clear HS hnl hcs
          generalize cnt (xs.take k) = m at *
          go_wp2
          go_round
          case rel => exact ⟨k + 1, by omega, by go_num, by rw [HS'.out]; go_num⟩
          case measure => simp [intOf]; omega
        · have hne : (xs.getD k 0 == 10) = false := by simpa using hnl
          have HS' : Hid (cnt (xs.take (k + 1)) = cnt (xs.take k)) := by have := HS.out; rw [if_neg hnl] at this; exact this
          clear HS hnl hcs
          generalize xs.getD k 0 = y at *
          go_wp2
          go_round
          case rel => exact ⟨k + 1, by omega, by go_num, by rw [HS'.out]⟩
          case measure => simp [intOf]; omega
      · obtain rfl : k = n := by omega
        have HE' : Hid ((cnt (xs.take k) : Int) = (cnt xs : Int)) := by have := HE.out; rw [this]; exact rfl
        clear hle hle2 hcs
        generalize cnt (xs.take k) = m at *
        go_wp2
        go_ret
        exact ⟨ret_int HE'.out, rfl⟩

set_option maxHeartbeats 1000000 in
theorem equal_drew (ao bo : Option Addr) (n c d : Nat) (xs : List Int) (w : World) (h : Row w ao n xs) (h' : Row w bo n xs) (hn : n ≤ 1048576) :
    Calls Try.prog 21 #[.slice ao n c, .slice bo n d] w fun e w' => e = .returned (.bool true) ∧ ∃ q, w' = w.drewN q := by
  rcases Nat.eq_zero_or_pos n with rfl | hp
  · go_enter Try.func21, Try.ntmps21
    go_wp2
    refine wp_loop_rounds 1 ?_
    rw [rounds_succ]
    go_wp2
    go_ret
    exact ⟨rfl, 0, rfl⟩
  · obtain ⟨b, o, rfl, hcs⟩ := h.at hp
    obtain ⟨b', o', rfl, hcs'⟩ := h'.at hp
    clear h h'
    go_enter Try.func21, Try.ntmps21
    go_wp2
    go_loopw [5] (fun i wr => ∃ k q : Nat, k ≤ n ∧ i = .int .i64 k ∧ wr = w.drewN q) (fun i _ => n - (intOf i).toNat)
    case atStart => exact ⟨0, 0, Nat.zero_le _, rfl, rfl⟩
    case round =>
      obtain ⟨k, q, hk, rfl, rfl⟩ := hrel
      by_cases hlt : k < n
      · have hc := hcs k hlt
        have hc' := hcs' k hlt
        have hlt' : (k : Int) < (n : Int) := by omega
        generalize xs.getD k 0 = y at *
        clear hcs hcs'
        go_wp2
        go_quiet (fail)
        go_wp2
        go_roundw
        case rel => exact ⟨k + 1, _, by omega, by go_num, rfl⟩
        case measure => simp [intOf]; omega
      · go_wp2
        go_ret
        exact ⟨rfl, q, rfl⟩

set_option maxHeartbeats 2000000 in
/-- lineSplits at a piece that is a body, which holds no line feed, and its terminator. -/
theorem splits (b o p pc m bc : Nat) (bo : Option Addr) (ps : List Int) (broken : Bool) (w : World) (hp : Row w (some ⟨b, o, none⟩) p ps) (hb : Row w bo m (ps.take m)) (hpc : p ≤ pc) (hn : p ≤ 1048576) (hmp : m ≤ p)
    (hno : ∀ j, j < m → ps.getD j 0 ≠ 10)
    (hcase : (broken = true ∧ p = m + 1 ∧ ps.getD m 0 = 10 ∧ (0 < m → ps.getD (m - 1) 0 ≠ 13)) ∨ (broken = true ∧ p = m + 2 ∧ ps.getD m 0 = 13 ∧ ps.getD (m + 1) 0 = 10) ∨
      (broken = false ∧ p = m ∧ (0 < m → ps.getD (m - 1) 0 ≠ 13)) ∨ (broken = false ∧ p = m + 1 ∧ ps.getD m 0 = 13)) :
    Calls Try.prog 19 #[.slice (some ⟨b, o, none⟩) p pc, .slice bo m bc, .bool broken] w fun e w' => e = .returned (.bool true) ∧ ∃ q, w' = w.drewN q := by
  have H17 := hasNl_no bo m bc (ps.take m) w hb (by omega) (fun j hj => by rw [getD_take _ _ _ hj]; exact hno j hj)
  have H21 := equal_drew (some ⟨b, o, none⟩) bo m pc bc (ps.take m) w (hp.take m hmp) hb (by omega)
  have hcs := hp.cells
  have hbody : 0 < m → ∃ b' o', bo = some ⟨b', o', none⟩ ∧ w.cell? ⟨b', o' + (m - 1), none⟩ = some (.int .u8 (ps.getD (m - 1) 0)) := fun h => by
    obtain ⟨b', o', h1, h2⟩ := hb.at h
    refine ⟨b', o', h1, ?_⟩
    rw [h2 (m - 1) (by omega), getD_take _ _ _ (by omega)]
  clear hp hb hno
  rcases hcase with ⟨rfl, rfl, hm, hcr⟩ | ⟨rfl, rfl, hm, hm1⟩ | ⟨rfl, rfl, hcr⟩ | ⟨rfl, rfl, hm⟩
  · have hc0 := hcs m (by omega)
    rw [hm] at hc0
    clear hm hcs
    have hpm : ¬ pc = m := by omega
    rcases Nat.eq_zero_or_pos m with rfl | h0
    · clear hbody hcr
      rw [Nat.add_zero] at hc0
      go_enter Try.func19, Try.ntmps19
      go_wp2_with (first | (go_at_call 17; refine H17.mono ?_; rintro e w' ⟨rfl, rfl⟩) | (go_at_call 21; refine H21.mono ?_; rintro e w' ⟨rfl, q, rfl⟩))
      go_ret
      exact ⟨rfl, _, rfl⟩
    · obtain ⟨b', o', rfl, hcb⟩ := hbody h0
      obtain ⟨m, rfl⟩ : ∃ k, m = k + 1 := ⟨m - 1, by omega⟩
      rw [show m + 1 - 1 = m from rfl] at hcb
      have hne : (ps.getD m 0 == 13) = false := by simpa using hcr h0
      clear hcr
      generalize ps.getD m 0 = y at *
      clear hbody
      go_enter Try.func19, Try.ntmps19
      go_wp2_with (first | (go_at_call 17; refine H17.mono ?_; rintro e w' ⟨rfl, rfl⟩) | (go_at_call 21; refine H21.mono ?_; rintro e w' ⟨rfl, q, rfl⟩))
      go_ret
      exact ⟨rfl, _, rfl⟩
  · have hc0 := hcs m (by omega)
    have hc1 := hcs (m + 1) (by omega)
    rw [hm] at hc0
    rw [hm1, ← Nat.add_assoc] at hc1
    clear hm hm1 hcs
    have hpm : ¬ pc = m := by omega
    rcases Nat.eq_zero_or_pos m with rfl | h0
    · clear hbody
      rw [Nat.add_zero] at hc0 hc1
      go_enter Try.func19, Try.ntmps19
      go_wp2_with (first | (go_at_call 17; refine H17.mono ?_; rintro e w' ⟨rfl, rfl⟩) | (go_at_call 21; refine H21.mono ?_; rintro e w' ⟨rfl, q, rfl⟩))
      go_ret
      exact ⟨rfl, _, rfl⟩
    · obtain ⟨b', o', rfl, hcb⟩ := hbody h0
      obtain ⟨m, rfl⟩ : ∃ k, m = k + 1 := ⟨m - 1, by omega⟩
      rw [show m + 1 - 1 = m from rfl] at hcb
      generalize ps.getD m 0 = y at *
      clear hbody
      go_enter Try.func19, Try.ntmps19
      go_wp2_with (first | (go_at_call 17; refine H17.mono ?_; rintro e w' ⟨rfl, rfl⟩) | (go_at_call 21; refine H21.mono ?_; rintro e w' ⟨rfl, q, rfl⟩))
      go_ret
      exact ⟨rfl, _, rfl⟩
  · clear hcs
    rcases Nat.eq_or_lt_of_le hpc with rfl | hlt
    all_goals rcases Nat.eq_zero_or_pos p with rfl | h0
    · clear hbody hcr
      go_enter Try.func19, Try.ntmps19
      go_wp2_with (first | (go_at_call 17; refine H17.mono ?_; rintro e w' ⟨rfl, rfl⟩) | (go_at_call 21; refine H21.mono ?_; rintro e w' ⟨rfl, q, rfl⟩))
      go_ret
      exact ⟨rfl, _, rfl⟩
    · obtain ⟨b', o', rfl, hcb⟩ := hbody h0
      obtain ⟨m, rfl⟩ : ∃ k, p = k + 1 := ⟨p - 1, by omega⟩
      rw [show m + 1 - 1 = m from rfl] at hcb
      have hne : (ps.getD m 0 == 13) = false := by simpa using hcr h0
      clear hcr
      generalize ps.getD m 0 = y at *
      clear hbody
      go_enter Try.func19, Try.ntmps19
      go_wp2_with (first | (go_at_call 17; refine H17.mono ?_; rintro e w' ⟨rfl, rfl⟩) | (go_at_call 21; refine H21.mono ?_; rintro e w' ⟨rfl, q, rfl⟩))
      go_ret
      exact ⟨rfl, _, rfl⟩
    · clear hbody hcr
      go_enter Try.func19, Try.ntmps19
      go_wp2_with (first | (go_at_call 17; refine H17.mono ?_; rintro e w' ⟨rfl, rfl⟩) | (go_at_call 21; refine H21.mono ?_; rintro e w' ⟨rfl, q, rfl⟩))
      go_ret
      exact ⟨rfl, _, rfl⟩
    · obtain ⟨b', o', rfl, hcb⟩ := hbody h0
      obtain ⟨m, rfl⟩ : ∃ k, p = k + 1 := ⟨p - 1, by omega⟩
      rw [show m + 1 - 1 = m from rfl] at hcb
      have hne : (ps.getD m 0 == 13) = false := by simpa using hcr h0
      clear hcr
      generalize ps.getD m 0 = y at *
      clear hbody
      go_enter Try.func19, Try.ntmps19
      go_wp2_with (first | (go_at_call 17; refine H17.mono ?_; rintro e w' ⟨rfl, rfl⟩) | (go_at_call 21; refine H21.mono ?_; rintro e w' ⟨rfl, q, rfl⟩))
      go_ret
      exact ⟨rfl, _, rfl⟩
  · have hc0 := hcs m (by omega)
    rw [hm] at hc0
    clear hm hcs
    have hpm : ¬ pc = m := by omega
    rcases Nat.eq_zero_or_pos m with rfl | h0
    · clear hbody
      rw [Nat.add_zero] at hc0
      go_enter Try.func19, Try.ntmps19
      go_wp2_with (first | (go_at_call 17; refine H17.mono ?_; rintro e w' ⟨rfl, rfl⟩) | (go_at_call 21; refine H21.mono ?_; rintro e w' ⟨rfl, q, rfl⟩))
      go_ret
      exact ⟨rfl, _, rfl⟩
    · obtain ⟨b', o', rfl, hcb⟩ := hbody h0
      obtain ⟨m, rfl⟩ : ∃ k, m = k + 1 := ⟨m - 1, by omega⟩
      rw [show m + 1 - 1 = m from rfl] at hcb
      generalize ps.getD m 0 = y at *
      clear hbody
      go_enter Try.func19, Try.ntmps19
      go_wp2_with (first | (go_at_call 17; refine H17.mono ?_; rintro e w' ⟨rfl, rfl⟩) | (go_at_call 21; refine H21.mono ?_; rintro e w' ⟨rfl, q, rfl⟩))
      go_ret
      exact ⟨rfl, _, rfl⟩
end Go.Proofs.Qxb6601475a
