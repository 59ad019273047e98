/-
  Seat b6602901a: the plain law: where the string's scan closes, or -1.
-/
import Derived.Test.Qxb6602901aStr
namespace Go.Proofs.Qxb6602901a
open Go.RowKit
set_option linter.unusedVariables false

/-- A scanner with an escape flag; p: where the list's head stands. -/
def scan : Nat → Bool → List Int → Int
  | _, _, [] => -1
  | p, true, _ :: l => scan (p + 1) false l
  | p, false, x :: l => if x = 92 then scan (p + 1) true l else if x = 34 then (p : Int) + 1 else scan (p + 1) false l

theorem scan_noq (x : Int) (l : List Int) (p : Nat) (e : Bool) (h : x ≠ 34) : scan p e (x :: l) = scan (p + 1) (flag e x) l := by
  cases e with
  | true => simp [scan, flag]
  | false =>
    by_cases h92 : x = 92
    · simp [scan, flag, h92]
    · simp [scan, flag, h92, h]

theorem scan_app : ∀ (l1 l2 : List Int) (p : Nat) (e : Bool), (∀ x ∈ l1, x ≠ 34) → scan p e (l1 ++ l2) = scan (p + l1.length) (l1.foldl flag e) l2
  | [], l2, p, e, _ => by simp
  | x :: l1, l2, p, e, h => by
    rw [List.cons_append, scan_noq x _ p e (h x (List.mem_cons_self ..)), scan_app l1 l2 _ _ (fun y hy => h y (List.mem_cons_of_mem _ hy))]
    simp only [List.length_cons, List.foldl_cons]
    rw [show p + 1 + l1.length = p + (l1.length + 1) by omega]

theorem mem_get {l : List Int} {x : Int} (hx : x ∈ l) : ∃ j, j < l.length ∧ l.getD j 0 = x := by
  obtain ⟨j, hj, e⟩ := List.getElem_of_mem hx
  exact ⟨j, hj, by rw [List.getD_eq_getElem?_getD, List.getElem?_eq_getElem hj, Option.getD_some]; exact e⟩

/-- No quote from i on. -/
theorem scan_none (xs : List Int) (i : Nat) (h : ∀ j, j < (xs.drop i).length → (xs.drop i).getD j 0 ≠ 34) : scan i false (xs.drop i) = -1 := by
  have := scan_app (xs.drop i) [] i false (fun x hx => by
    obtain ⟨j, hj, e⟩ := mem_get hx
    rw [← e]; exact h j hj)
  rw [List.append_nil] at this
  rw [this]
  cases ((xs.drop i).foldl flag false) <;> rfl

/-- The first quote from i on, at i + k; the run of backslashes ahead of it begins at e ≥ i. -/
theorem scan_quote (xs : List Int) (i k e : Nat) (hk : i + k < xs.length) (hq : xs.getD (i + k) 0 = 34) (hno : ∀ j, j < k → xs.getD (i + j) 0 ≠ 34) (hie : i ≤ e) (hek : e ≤ i + k)
    (hrun : ∀ j, e ≤ j → j < i + k → xs.getD j 0 = 92) (hpre : i < e → xs.getD (e - 1) 0 ≠ 92) :
    scan i false (xs.drop i) = if (i + k - e) % 2 = 0 then ((i + k : Nat) : Int) + 1 else scan (i + k + 1) false (xs.drop (i + k + 1)) := by
  have e1 : xs.drop i = (xs.drop i).take k ++ xs.drop (i + k) := by
    rw [← List.drop_drop]
    exact (List.take_append_drop k (xs.drop i)).symm
  have hl : ((xs.drop i).take k).length = k := by simp; omega
  have g : ∀ j, j < k → ((xs.drop i).take k).getD j 0 = xs.getD (i + j) 0 := fun j hj => by rw [getD_take _ _ _ hj, getD_drop]
  have hsend := scan_app ((xs.drop i).take k) (xs.drop (i + k)) i false (fun x hx => by
    obtain ⟨j, hj, ej⟩ := mem_get hx
    rw [hl] at hj
    rw [← ej, g j hj]
    exact hno j hj)
  have hfl := flag_piece ((xs.drop i).take k) (e - i) (by omega) (fun j h1 h2 => by rw [g j (by omega)]; exact hrun (i + j) (by omega) (by omega)) (fun h0 => by
    rw [g _ (by omega), show i + (e - i - 1) = e - 1 by omega]; exact hpre (by omega))
  rw [← e1, hfl, hl] at hsend
  rw [hsend, drop_cons xs (i + k) hk, hq, show k - (e - i) = i + k - e by omega]
  rcases Nat.mod_two_eq_zero_or_one (i + k - e) with h | h
  · rw [if_pos h]; simp [h, scan]
  · rw [if_neg (by omega)]; simp [h, scan]

theorem scan_esc (xs : List Int) (j : Nat) (h : j < xs.length) : scan j true (xs.drop j) = scan (j + 1) false (xs.drop (j + 1)) := by
  rw [drop_cons xs j h]; simp only [scan]
theorem scan_back (xs : List Int) (j : Nat) (h : j < xs.length) (hx : xs.getD j 0 = 92) : scan j false (xs.drop j) = scan (j + 1) true (xs.drop (j + 1)) := by
  rw [drop_cons xs j h]; simp only [scan, if_pos hx]
theorem scan_close (xs : List Int) (j : Nat) (h : j < xs.length) (hx : xs.getD j 0 = 34) : scan j false (xs.drop j) = (j : Int) + 1 := by
  have h92 : xs.getD j 0 ≠ 92 := by rw [hx]; decide
  rw [drop_cons xs j h]; simp only [scan, if_neg h92, if_pos hx]
theorem scan_next (xs : List Int) (j : Nat) (h : j < xs.length) (h1 : xs.getD j 0 ≠ 92) (h2 : xs.getD j 0 ≠ 34) : scan j false (xs.drop j) = scan (j + 1) false (xs.drop (j + 1)) := by
  rw [drop_cons xs j h]; simp only [scan, if_neg h1, if_neg h2]
theorem scan_end (xs : List Int) (j : Nat) (h : xs.length ≤ j) (e : Bool) : scan j e (xs.drop j) = -1 := by
  rw [List.drop_of_length_le h]; cases e <;> rfl

end Go.Proofs.Qxb6602901a
