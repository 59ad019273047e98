/-
  Seat b6601475a: hasNewline, equalBytes, countNewlines.
-/
import Derived.Test.Qxb6601475aLine
namespace Go.Proofs.Qxb6601475a
open Go.RowKit
set_option linter.unusedVariables false

set_option maxHeartbeats 1000000 in
theorem hasNl_no (ao : Option Addr) (n c : Nat) (xs : List Int) (w : World) (h : Row w ao n xs) (hn : n ≤ 1048576) (hno : ∀ j, j < n → xs.getD j 0 ≠ 10) :
    Calls Try.prog 17 #[.slice ao n c] w fun e w' => e = .returned (.bool false) ∧ w' = w := by
  rcases Nat.eq_zero_or_pos n with rfl | hp
  · go_enter Try.func17, Try.ntmps17
    go_wp2
    refine wp_loop_rounds 1 ?_
    rw [rounds_succ]
    go_wp2
    go_ret
    exact ⟨rfl, rfl⟩
  · obtain ⟨b, o, rfl, hcs⟩ := h.at hp
    have HN : Hid (∀ j, j < n → xs.getD j 0 ≠ 10) := hno
    clear hno h
    go_enter Try.func17, Try.ntmps17
    go_wp2
    go_loop [3] (fun i => ∃ k : Nat, k ≤ n ∧ i = .int .i64 k) (fun i => n - (intOf i).toNat)
    case atStart => exact ⟨0, Nat.zero_le _, rfl⟩
    case round =>
      obtain ⟨k, hk, rfl⟩ := hrel
      by_cases hlt : k < n
      · have hc := hcs k hlt
        have hne : (xs.getD k 0 == 10) = false := by simpa using HN.out k hlt
        generalize xs.getD k 0 = y at *
        clear hcs
        go_wp2
        go_round
        case rel => exact ⟨k + 1, by omega, by go_num⟩
        case measure => simp [intOf]; omega
      · go_wp2
        go_ret
        exact ⟨rfl, rfl⟩

set_option maxHeartbeats 1000000 in
theorem equal_same (ao bo : Option Addr) (n c d : Nat) (xs : List Int) (w : World) (h : Row w ao n xs) (h' : Row w bo n xs) (hn : n ≤ 1048576) :
    Calls Try.prog 21 #[.slice ao n c, .slice bo n d] w fun e w' => e = .returned (.bool true) ∧ Below w.heap.size w w' := by
  rcases Nat.eq_zero_or_pos n with rfl | hp
  · go_enter Try.func21, Try.ntmps21
    go_wp2
    refine wp_loop_rounds 1 ?_
    rw [rounds_succ]
    go_wp2
    go_ret
    exact ⟨rfl, Below.refl _ _⟩
  · obtain ⟨b, o, rfl, hcs⟩ := h.at hp
    obtain ⟨b', o', rfl, hcs'⟩ := h'.at hp
    clear h h'
    go_enter Try.func21, Try.ntmps21
    go_wp2
    go_loopw [5] (fun i wr => ∃ k q : Nat, k ≤ n ∧ i = .int .i64 k ∧ wr = w.drewN q) (fun i _ => n - (intOf i).toNat)
    case atStart => exact ⟨0, 0, Nat.zero_le _, rfl, rfl⟩
    case round =>
      obtain ⟨k, q, hk, rfl, rfl⟩ := hrel
      by_cases hlt : k < n
      · have hc := hcs k hlt
        have hc' := hcs' k hlt
        have hlt' : (k : Int) < (n : Int) := by omega
        generalize xs.getD k 0 = y at *
        clear hcs hcs'
        go_wp2
        go_quiet (fail)
        go_wp2
        go_roundw
        case rel => exact ⟨k + 1, _, by omega, by go_num, rfl⟩
        case measure => simp [intOf]; omega
      · go_wp2
        go_ret
        exact ⟨rfl, Below.drewN' (Below.refl _ _) _⟩
end Go.Proofs.Qxb6601475a
