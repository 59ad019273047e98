/-
  Seat b6602247a: the bytes of a string as numbers; isPunctuation and zzPunct_b1; where a destination ends ('dest').
-/
import Derived.Test.Qxb6602247aProg
import Derived.WalkKit
import Derived.WalkSpells
import Derived.WalkLawsBesides
import Derived.Lib.Bytealg
import Derived.Lib.Walk
import Derived.Below
namespace Go.Proofs.Qxb6602247a
open Go.RowKit
set_option linter.unusedVariables false

theorem ret_int {k : IntKind} {a b : Int} (h : a = b) : Ending.returned (.int k a) = .returned (.int k b) := by rw [h]

/-- The bytes of a string, as numbers. -/
def nums (s : ByteArray) : List Int := s.data.toList.map fun b => (b.toNat : Int)
theorem nums_len (s : ByteArray) : (nums s).length = s.size := by
  unfold nums
  rw [List.length_map, Array.length_toList]
  rfl
theorem nums_get (s : ByteArray) (k : Nat) (h : k < s.size) : (s[k].toNat : Int) = (nums s).getD k 0 := by
  have h2 : k < s.data.toList.length := by rw [Array.length_toList]; exact h
  unfold nums
  rw [List.getD_eq_getElem?_getD, List.getElem?_map, List.getElem?_eq_getElem h2]
  rfl
theorem nums_byte (s : ByteArray) (k : Nat) : 0 ≤ (nums s).getD k 0 ∧ (nums s).getD k 0 ≤ 255 := by
  by_cases h : k < s.size
  · rw [← nums_get s k h]
    have := s[k].toNat_lt
    omega
  · have : (nums s).getD k 0 = 0 := by rw [List.getD_eq_getElem?_getD, List.getElem?_eq_none (by rw [nums_len]; omega)]; rfl
    rw [this]; omega

theorem drop_cons (xs : List Int) (j : Nat) (h : j < xs.length) : xs.drop j = xs.getD j 0 :: xs.drop (j + 1) := by
  have e : xs.getD j 0 = xs[j] := by simp [h]
  rw [e]
  exact List.drop_eq_getElem_cons h

/-- ASCII punctuation. -/
def punct (x : Int) : Bool := decide ((33 ≤ x ∧ x ≤ 47) ∨ (58 ≤ x ∧ x ≤ 64) ∨ (91 ≤ x ∧ x ≤ 96) ∨ (123 ≤ x ∧ x ≤ 126))

/-- strings.IndexByte. -/
theorem strIndex (t : ByteArray) (x : Int) (w : World) :
    Calls Try.prog 23 #[.string t, .int .u8 x] w fun e w' => e = .returned (.int .i64 (Lib.indexByte t.data.toList x.toNat.toUInt8)) ∧ w = w' := by
  go_enter Try.func23, Try.ntmps23
  go_wp2
  rw [run_callFunc_extern Try.func25 (by kernel_rfl) (by kernel_rfl) (by kernel_rfl) (e := Extern.BytealgIndexByte.indexByte) (by kernel_rfl), Lib.run_indexByteString]
  simp only [Result.andThen]
  rw [Oper.upon_value]
  go_wp2
  go_ret
  exact ⟨rfl, rfl⟩

theorem punct_table : ∀ n : Nat, n < 256 → decide (0 ≤ Lib.indexByte [33, 34, 35, 36, 37, 38, 39, 40, 41, 42, 43, 44, 45, 46, 47, 58, 59, 60, 61, 62, 63, 64, 91, 92, 93, 94, 95, 96, 123, 124, 125, 126] n.toUInt8) = punct (n : Int) := by
  decide +kernel

set_option maxHeartbeats 1000000 in
/-- isPunctuation. -/
theorem isPunct (x : Int) (w : World) (h0 : 0 ≤ x) (h1 : x ≤ 255) :
    Calls Try.prog 21 #[.int .u8 x] w fun e w' => e = .returned (.bool (punct x)) ∧ w = w' := by
  obtain ⟨n, rfl⟩ : ∃ n : Nat, x = n := ⟨x.toNat, by omega⟩
  have ht := punct_table n (by omega)
  rw [← ht]
  clear ht
  go_enter Try.func21, Try.ntmps21
  go_wp2_with (go_at_call 23; refine (strIndex _ _ _).mono ?_; rintro e w' ⟨rfl, rfl⟩)
  go_ret
  exact ⟨rfl, rfl⟩
end Go.Proofs.Qxb6602247a
