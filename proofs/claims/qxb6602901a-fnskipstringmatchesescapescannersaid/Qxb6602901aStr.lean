/-
  Seat b6602901a: the plain law of a JSON string's end, over lists of numbers: a scanner with an escape flag ('send'), and what counting the backslashes ahead of a quote says of its flag.
-/
import Derived.Test.Qxb6602901aKit
namespace Go.Proofs.Qxb6602901a
open Go.RowKit
set_option linter.unusedVariables false

theorem drop_cons (xs : List Int) (j : Nat) (h : j < xs.length) : xs.drop j = xs.getD j 0 :: xs.drop (j + 1) := by
  have e : xs.getD j 0 = xs[j] := by simp [h]
  rw [e]
  exact List.drop_eq_getElem_cons h

/-- How many bytes a string's scanner takes, the quote that closes it counted in; 'esc': the byte ahead was a backslash that takes the next one. -/
def send : Bool → List Int → Nat
  | _, [] => 0
  | true, _ :: l => send false l + 1
  | false, x :: l => if x = 92 then send true l + 1 else if x = 34 then 1 else send false l + 1

theorem send_le : ∀ (l : List Int) (e : Bool), send e l ≤ l.length
  | [], e => by cases e <;> simp [send]
  | x :: l, true => by have := send_le l false; simp [send]; omega
  | x :: l, false => by
    have h1 := send_le l false
    have h2 := send_le l true
    simp only [send, List.length_cons]
    split
    · omega
    · split <;> omega

/-- The flag behind a byte that is no quote. -/
def flag (e : Bool) (x : Int) : Bool := if e then false else decide (x = 92)

theorem send_noq (x : Int) (l : List Int) (e : Bool) (h : x ≠ 34) : send e (x :: l) = send (flag e x) l + 1 := by
  cases e with
  | true => simp [send, flag]
  | false =>
    by_cases h92 : x = 92
    · simp [send, flag, h92]
    · simp [send, flag, h92, h]

theorem send_app : ∀ (l1 l2 : List Int) (e : Bool), (∀ x ∈ l1, x ≠ 34) → send e (l1 ++ l2) = l1.length + send (l1.foldl flag e) l2
  | [], l2, e, _ => by simp
  | x :: l1, l2, e, h => by
    rw [List.cons_append, send_noq x _ e (h x (List.mem_cons_self ..)), send_app l1 l2 _ (fun y hy => h y (List.mem_cons_of_mem _ hy))]
    simp only [List.length_cons, List.foldl_cons]
    omega

theorem send_none : ∀ (l : List Int) (e : Bool), (∀ x ∈ l, x ≠ 34) → send e l = l.length := fun l e h => by
  have := send_app l [] e h
  rw [List.append_nil] at this
  rw [this]
  cases (l.foldl flag e) <;> simp [send]

theorem flag_run : ∀ (r : Nat) (e : Bool), (List.replicate r (92 : Int)).foldl flag e = if r % 2 = 0 then e else !e
  | 0, e => by simp
  | r + 1, e => by
    rw [List.replicate_succ, List.foldl_cons, flag_run r]
    have : flag e 92 = !e := by cases e <;> simp [flag]
    rw [this]
    rcases Nat.mod_two_eq_zero_or_one r with h | h
    · rw [if_pos h, if_neg (by omega)]
    · rw [if_neg (by omega), if_pos (by omega)]; simp

theorem flag_other (e : Bool) (x : Int) (h : x ≠ 92) : flag e x = false := by cases e <;> simp [flag, h]

/-- Over a piece [i, q) whose last r bytes are backslashes, the one ahead of them (if any) being none: the flag is r's parity. -/
theorem flag_piece (l : List Int) (e : Nat) (he : e ≤ l.length) (hrun : ∀ j, e ≤ j → j < l.length → l.getD j 0 = 92) (hpre : 0 < e → l.getD (e - 1) 0 ≠ 92) :
    l.foldl flag false = decide ((l.length - e) % 2 = 1) := by
  have e1 : l = l.take e ++ List.replicate (l.length - e) 92 := by
    apply List.ext_getElem
    · simp; omega
    · intro j h1 h2
      rw [List.getElem_append]
      by_cases hj : j < e
      · rw [dif_pos (by simp; omega)]; simp
      · rw [dif_neg (by simp; omega)]
        have := hrun j (by omega) h1
        simp [h1] at this
        simp [this]
  have e2 : (l.take e).foldl flag false = false := by
    rcases Nat.eq_zero_or_pos e with h0 | h0
    · rw [h0]; simp
    · have hl : e - 1 < l.length := by omega
      have e3 : l.take e = l.take (e - 1) ++ [l[e - 1]] := by
        have := List.take_succ_eq_append_getElem hl
        rw [show e - 1 + 1 = e by omega] at this
        exact this
      rw [e3, List.foldl_append]
      simp only [List.foldl_cons, List.foldl_nil]
      have := hpre h0
      simp [hl] at this
      exact flag_other _ _ this
  have : l.foldl flag false = (l.take e ++ List.replicate (l.length - e) 92).foldl flag false := congrArg (fun t => t.foldl flag false) e1
  rw [this, List.foldl_append, e2, flag_run]
  rcases Nat.mod_two_eq_zero_or_one (l.length - e) with h | h
  · rw [if_pos h]; simp [h]
  · rw [if_neg (by omega)]; simp [h]

/-- Where the string that opens at s ends. -/
def strEnd (xs : List Int) (s : Nat) : Nat := s + 1 + send false (xs.drop (s + 1))

theorem strEnd_le (xs : List Int) (s : Nat) (h : s < xs.length) : strEnd xs s ≤ xs.length := by
  have := send_le (xs.drop (s + 1)) false
  simp at this
  unfold strEnd
  omega
theorem strEnd_gt (xs : List Int) (s : Nat) : s < strEnd xs s := by unfold strEnd; omega

/-- No quote from i on. -/
theorem str_none (xs : List Int) (i : Nat) (hi : i ≤ xs.length) (h : ∀ j, j < (xs.drop i).length → (xs.drop i).getD j 0 ≠ 34) : i + send false (xs.drop i) = xs.length := by
  rw [send_none]
  · simp; omega
  · intro x hx
    obtain ⟨j, hj, e⟩ := List.getElem_of_mem hx
    have := h j hj
    simp only [List.getD_eq_getElem?_getD, List.getElem?_eq_getElem hj, Option.getD_some, e] at this
    exact this

/-- The first quote from i on, at i + k; the run of backslashes ahead of it begins at e ≥ i. -/
theorem str_quote (xs : List Int) (i k e : Nat) (hk : i + k < xs.length) (hq : xs.getD (i + k) 0 = 34) (hno : ∀ j, j < k → xs.getD (i + j) 0 ≠ 34) (hie : i ≤ e) (hek : e ≤ i + k)
    (hrun : ∀ j, e ≤ j → j < i + k → xs.getD j 0 = 92) (hpre : i < e → xs.getD (e - 1) 0 ≠ 92) :
    i + send false (xs.drop i) = if (i + k - e) % 2 = 0 then i + k + 1 else i + k + 1 + send false (xs.drop (i + k + 1)) := by
  have e1 : xs.drop i = (xs.drop i).take k ++ xs.drop (i + k) := by
    rw [← List.drop_drop]
    exact (List.take_append_drop k (xs.drop i)).symm
  have hl : ((xs.drop i).take k).length = k := by simp; omega
  have g : ∀ j, j < k → ((xs.drop i).take k).getD j 0 = xs.getD (i + j) 0 := fun j hj => by rw [getD_take _ _ _ hj, getD_drop]
  have hsend := send_app ((xs.drop i).take k) (xs.drop (i + k)) false (fun x hx => by
    obtain ⟨j, hj, ej⟩ := List.getElem_of_mem hx
    rw [hl] at hj
    have := g j hj
    simp only [List.getD_eq_getElem?_getD, List.getElem?_eq_getElem (show j < ((xs.drop i).take k).length by omega), Option.getD_some, ej] at this
    rw [this]
    have := hno j hj
    simpa using this)
  have hfl := flag_piece ((xs.drop i).take k) (e - i) (by omega) (fun j h1 h2 => by rw [g j (by omega)]; exact hrun (i + j) (by omega) (by omega)) (fun h0 => by
    rw [g _ (by omega), show i + (e - i - 1) = e - 1 by omega]; exact hpre (by omega))
  rw [← e1, hfl, hl] at hsend
  rw [hsend, drop_cons xs (i + k) hk, hq, show k - (e - i) = i + k - e by omega]
  rcases Nat.mod_two_eq_zero_or_one (i + k - e) with h | h
  · rw [if_pos h]; simp [h, send]; omega
  · rw [if_neg (by omega)]; simp [h, send]; omega

end Go.Proofs.Qxb6602901a
