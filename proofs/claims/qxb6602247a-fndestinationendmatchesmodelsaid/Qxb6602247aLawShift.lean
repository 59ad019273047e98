/-
  Seat b6602247a: the walk of FnDestinationEndShiftsWithPrefix.
-/
import Derived.Test.Qxb6602247aDestWalk
import Derived.RowKit3
namespace Go.Proofs.Qxb6602247a
open Go.RowKit
set_option linter.unusedVariables false

/-- destinationEnd answers where the destination ends. -/
theorem destEnd (s : ByteArray) (a : Nat) (w : World) (hs : s.size ≤ 1048576) (ha : a ≤ s.size) :
    Calls Try.prog 16 #[.string s, .int .i64 a] w fun e w' => e = .returned (.int .i64 (dest (nums s) a)) ∧ w = w' := by
  by_cases h : a < s.size ∧ (nums s).getD a 0 = 60
  · exact dest_ang s a w hs h.1 h.2
  · exact dest_bare s a w hs ha h
/-- ZZdestinationEnd hands on. -/
theorem zzDest (s : ByteArray) (a : Nat) (w : World) (hs : s.size ≤ 1048576) (ha : a ≤ s.size) :
    Calls Try.prog 9 #[.string s, .int .i64 a] w fun e w' => e = .returned (.int .i64 (dest (nums s) a)) ∧ w = w' := by
  have H := destEnd s a w hs ha
  generalize dest (nums s) a = E at *
  go_enter Try.func9, Try.ntmps9
  go_wp2_with (go_at_call 16; refine H.mono ?_; rintro e w' ⟨rfl, rfl⟩)
  go_ret
  exact ⟨rfl, rfl⟩

theorem nums_append (p s : ByteArray) : nums (p ++ s) = nums p ++ nums s := by
  unfold nums
  rw [ByteArray.data_append, Array.toList_append, List.map_append]

set_option maxHeartbeats 1000000 in
/-- The walk. -/
theorem walkShift (a0 : ByteArray) (a1 : ByteArray) (a2 : Int) (w0 : a0.size ≤ maxLen) (w1 : a1.size ≤ maxLen) (w2 : (Lit.int .i64 a2).wf = true) (w : World) :
    Calls Try.prog 4 #[.string a0, .string a1, .int .i64 a2] w fun e w' => e = .returned (.bool true) ∧ Grown w w' := by
  unfold maxLen at w0 w1
  clear w2
  rcases Nat.lt_or_ge 65536 a0.size with hb0 | hb0
  · have hb : (65536 : Int) < (a0.size : Int) := by omega
    go_enter Try.func4, Try.ntmps4
    go_wp2
    all_goals go_ret
    all_goals exact ⟨rfl, Grown.refl _⟩
  rcases Nat.lt_or_ge 65536 a1.size with hb1 | hb1
  · have hb : (65536 : Int) < (a1.size : Int) := by omega
    go_enter Try.func4, Try.ntmps4
    go_wp2
    all_goals go_ret
    all_goals exact ⟨rfl, Grown.refl _⟩
  by_cases hneg : a2 < 0
  · go_enter Try.func4, Try.ntmps4
    go_wp2
    go_ret
    exact ⟨rfl, Grown.refl _⟩
  by_cases hgt : (a1.size : Int) < a2
  · go_enter Try.func4, Try.ntmps4
    go_wp2
    go_ret
    exact ⟨rfl, Grown.refl _⟩
  obtain ⟨a, rfl⟩ : ∃ i : Nat, a2 = i := ⟨a2.toNat, by omega⟩
  have H1 := zzDest a1 a w (by omega) (by omega)
  have H2 := zzDest (a0 ++ a1) (a0.size + a) w (by rw [ByteArray.size_append]; omega) (by rw [ByteArray.size_append]; omega)
  have hsh := dest_shift (nums a0) (nums a1) a
  rw [nums_len] at hsh
  rw [nums_append, hsh, show ((a0.size + a : Nat) : Int) = (a0.size : Int) + (a : Int) from by omega] at H2
  have hle := dest_le (nums a1) a (by rw [nums_len]; omega)
  rw [nums_len] at hle
  clear hsh
  generalize dest (nums a1) a = r at *
  by_cases hr : r < 0
  · rw [if_pos hr] at H2
    go_enter Try.func4, Try.ntmps4
    go_wp2_with (go_at_call 11; go_in)
    refine H1.mono ?_
    rintro e w' ⟨rfl, rfl⟩
    go_wp2_with fail
    refine H2.mono ?_
    rintro e w' ⟨rfl, rfl⟩
    go_wp2
    go_ret
    exact ⟨rfl, Grown.refl _⟩
  · rw [if_neg hr] at H2
    go_enter Try.func4, Try.ntmps4
    go_wp2_with (go_at_call 11; go_in)
    refine H1.mono ?_
    rintro e w' ⟨rfl, rfl⟩
    go_wp2_with fail
    refine H2.mono ?_
    rintro e w' ⟨rfl, rfl⟩
    go_wp2
    go_ret
    exact ⟨rfl, Grown.refl _⟩
end Go.Proofs.Qxb6602247a
