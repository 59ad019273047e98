/-
  Seat b6601475a: bytes.Equal, bytes.HasSuffix, bytes.TrimSuffix at the suffix of one carriage return.
-/
import Derived.Test.Qxb6601475aBase
namespace Go.Proofs.Qxb6601475a
open Go.RowKit
set_option linter.unusedVariables false

/-- Does the text end with a carriage return? -/
def cr (xs : List Int) : Bool := decide (0 < xs.length ∧ xs.getD (xs.length - 1) 0 = 13)
/-- The text without the one carriage return that ends it. -/
def trimLen (xs : List Int) : Nat := if cr xs then xs.length - 1 else xs.length
theorem trimLen_le (xs : List Int) : trimLen xs ≤ xs.length := by unfold trimLen; split <;> omega

theorem equal_run (v1 v2 : Value) (s t : ByteArray) (w : World)
    (h1 : (convert 22 9 v1).run Try.prog w = .ok (.string s) w) (h2 : (convert 22 9 v2).run Try.prog w = .ok (.string t) w) :
    Calls Try.prog 30 #[v1, v2] w fun e w' => e = .returned (.bool (s.toList == t.toList)) ∧ w' = w := by
  go_enter Try.func30, Try.ntmps30
  go_wp2
  go_ret
  exact ⟨rfl, rfl⟩

theorem one_eq (y : Int) (hy : 0 ≤ y ∧ y ≤ 255) : ((strOfNums [y]).toList == (strOfNums [13]).toList) = decide (y = 13) := by
  rw [Lib.strOfNums_toList, Lib.strOfNums_toList, Bool.eq_iff_iff]
  simp [Lib.bytesOf, ← UInt8.toNat_inj]
  omega

set_option maxHeartbeats 1000000 in
theorem suffix_cr (ao : Option Addr) (n c B : Nat) (xs : List Int) (w : World) (h : Row w ao n xs) (hnc : n ≤ c) (hn : n ≤ 1048576) (hB : w.cell? ⟨B, 0, none⟩ = some (.int .u8 13)) :
    Calls Try.prog 29 #[.slice ao n c, .slice (some ⟨B, 0, none⟩) 1 1] w fun e w' => e = .returned (.bool (cr xs)) ∧ w' = w := by
  have hlen := h.len
  by_cases h0 : n = 0
  · subst h0
    have hcr : cr xs = false := by simp [cr, hlen]
    rw [hcr]
    go_enter Try.func29, Try.ntmps29
    go_wp2
    go_ret
    exact ⟨rfl, rfl⟩
  · obtain ⟨b, o, rfl, hcs⟩ := h.at (by omega)
    have hy := byte_at h.bytes (n - 1)
    have hcr : cr xs = decide (xs.getD (n - 1) 0 = 13) := by
      unfold cr
      rw [hlen, decide_eq_decide]
      constructor
      · exact fun h => h.2
      · exact fun h => ⟨by omega, h⟩
    rw [hcr, ← one_eq _ hy]
    have g2 := run_convert_bytes_arg (P := Try.prog) w 22 5 Try.underlying22 Try.underlying5 B 0 1 1 [13] rfl (fun i hi => (by obtain rfl : i = 0 := (by omega); exact hB)) 9 Try.underlying9
    have g1 := fun d => run_convert_bytes_arg (P := Try.prog) w 22 5 Try.underlying22 Try.underlying5 b (o + (n - 1)) 1 d [xs.getD (n - 1) 0] rfl (fun i hi => (by obtain rfl : i = 0 := (by omega); exact hcs (n - 1) (by omega))) 9 Try.underlying9
    generalize xs.getD (n - 1) 0 = y at *
    obtain ⟨m, rfl⟩ : ∃ m, n = m + 1 := ⟨n - 1, by omega⟩
    rw [show m + 1 - 1 = m from rfl] at g1
    clear hcr hlen h hcs
    go_enter Try.func29, Try.ntmps29
    go_wp2_with (go_at_call 30; refine (equal_run _ _ _ _ _ (g1 _) g2).mono ?_; rintro e w' ⟨rfl, rfl⟩)
    go_ret
    exact ⟨rfl, rfl⟩

set_option maxHeartbeats 1000000 in
/-- bytes.TrimSuffix at the suffix of one carriage return: the same memory, one byte less where the text ends with it. -/
theorem trim_cr (ao : Option Addr) (n c B : Nat) (xs : List Int) (w : World) (h : Row w ao n xs) (hnc : n ≤ c) (hn : n ≤ 1048576) (hB : w.cell? ⟨B, 0, none⟩ = some (.int .u8 13)) :
    Calls Try.prog 26 #[.slice ao n c, .slice (some ⟨B, 0, none⟩) 1 1] w fun e w' => e = .returned (.slice ao (trimLen xs) c) ∧ w' = w := by
  have hs := suffix_cr ao n c B xs w h hnc hn hB
  have hlen := h.len
  cases hcr : cr xs with
  | false =>
    have ht : trimLen xs = n := by simp [trimLen, hcr, hlen]
    rw [ht]
    rw [hcr] at hs
    clear hlen hcr ht
    go_enter Try.func26, Try.ntmps26
    go_wp2_with (go_at_call 29; refine hs.mono ?_; rintro e w' ⟨rfl, rfl⟩)
    go_ret
    exact ⟨rfl, rfl⟩
  | true =>
    have ht : trimLen xs = n - 1 := by simp [trimLen, hcr, hlen]
    have hpos : 0 < n := by
      have := hcr
      simp [cr] at this
      omega
    obtain ⟨b, o, rfl, hcs⟩ := h.at hpos
    rw [ht]
    rw [hcr] at hs
    obtain ⟨m, rfl⟩ : ∃ m, n = m + 1 := ⟨n - 1, by omega⟩
    clear hlen hcr ht h hcs
    go_enter Try.func26, Try.ntmps26
    go_wp2_with (go_at_call 29; refine hs.mono ?_; rintro e w' ⟨rfl, rfl⟩)
    go_ret
    exact ⟨rfl, rfl⟩
end Go.Proofs.Qxb6601475a
