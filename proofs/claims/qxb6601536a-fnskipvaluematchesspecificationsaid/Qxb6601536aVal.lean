/-
  Seat b6601536a: the plain law of a JSON value's end: the one-pass model ('nest'), a scalar's run ('scal'), and what both do under a cut and under another tail.
-/
import Derived.Test.Qxb6601536aStr
namespace Go.Proofs.Qxb6601536a
open Go.RowKit
set_option linter.unusedVariables false

/-- Does the byte end a scalar? -/
def ends (x : Int) : Bool := x == 32 || x == 9 || x == 13 || x == 10 || x == 44 || x == 93 || x == 125
def scal : List Int → Nat
  | [] => 0
  | x :: l => if ends x then 0 else scal l + 1

/-- One pass with a small state: the depth of open brackets, inside a string or not, an escape pending or not: how many bytes it takes till the value closes. -/
def nest : Nat → Bool → Bool → List Int → Nat
  | _, _, _, [] => 0
  | d, true, true, _ :: l => nest d true false l + 1
  | d, true, false, x :: l => if x = 92 then nest d true true l + 1 else if x = 34 then (if d = 0 then 1 else nest d false false l + 1) else nest d true false l + 1
  | d, false, _, x :: l => if x = 34 then nest d true false l + 1 else if x = 123 ∨ x = 91 then nest (d + 1) false false l + 1 else if x = 125 ∨ x = 93 then (if d = 1 then 1 else nest (d - 1) false false l + 1) else nest d false false l + 1

theorem scal_le : ∀ l : List Int, scal l ≤ l.length
  | [] => by simp [scal]
  | x :: l => by have := scal_le l; simp only [scal, List.length_cons]; split <;> omega

theorem nest_le : ∀ (l : List Int) (d : Nat) (s e : Bool), nest d s e l ≤ l.length
  | [], d, s, e => by cases s <;> cases e <;> simp [nest]
  | x :: l, d, true, true => by have := nest_le l d true false; simp only [nest, List.length_cons]; omega
  | x :: l, d, true, false => by
    have h1 := nest_le l d true true
    have h2 := nest_le l d false false
    have h3 := nest_le l d true false
    simp only [nest, List.length_cons]
    split
    · omega
    · split
      · split <;> omega
      · omega
  | x :: l, d, false, e => by
    have h1 := nest_le l d true false
    have h2 := nest_le l (d + 1) false false
    have h3 := nest_le l (d - 1) false false
    have h4 := nest_le l d false false
    cases e <;> simp only [nest, List.length_cons] <;> (split; · omega
                                                        · split
                                                          · omega
                                                          · split
                                                            · split <;> omega
                                                            · omega)

/-- Inside a string at a depth that is not 0: the string's end, then on. -/
theorem nest_str (d : Nat) (hd : d ≠ 0) : ∀ (l : List Int) (e : Bool), nest d true e l = send e l + nest d false false (l.drop (send e l))
  | [], e => by cases e <;> simp [nest, send]
  | x :: l, true => by
    have := nest_str d hd l false
    simp only [nest, send, List.drop_succ_cons]
    omega
  | x :: l, false => by
    have h1 := nest_str d hd l true
    have h2 := nest_str d hd l false
    simp only [nest, send]
    by_cases h92 : x = 92
    · simp only [if_pos h92, List.drop_succ_cons]; omega
    · by_cases h34 : x = 34
      · simp only [if_neg h92, if_pos h34, if_neg hd, List.drop_succ_cons, List.drop_zero]; omega
      · simp only [if_neg h92, if_neg h34, List.drop_succ_cons]; omega

theorem nest_str0 : ∀ (l : List Int) (e : Bool), nest 0 true e l = send e l
  | [], e => by cases e <;> simp [nest, send]
  | x :: l, true => by simp [nest, send, nest_str0 l false]
  | x :: l, false => by
    simp only [nest, send, nest_str0 l true, nest_str0 l false]
    by_cases h92 : x = 92
    · simp [h92]
    · by_cases h34 : x = 34
      · simp [h34]
      · simp [h92, h34]

/-- Where the value that begins at s ends. -/
def valEnd (xs : List Int) (s : Nat) : Nat :=
  if xs.getD s 0 = 34 then strEnd xs s else if xs.getD s 0 = 123 ∨ xs.getD s 0 = 91 then s + nest 0 false false (xs.drop s) else s + scal (xs.drop s)

/-- At a quote, brace or bracket it is the model's. -/
theorem valEnd_nest (xs : List Int) (s : Nat) (hs : s < xs.length) (h : xs.getD s 0 = 34 ∨ xs.getD s 0 = 123 ∨ xs.getD s 0 = 91) : valEnd xs s = s + nest 0 false false (xs.drop s) := by
  unfold valEnd
  by_cases h34 : xs.getD s 0 = 34
  · rw [if_pos h34, drop_cons xs s hs, h34]
    simp only [nest, if_true, nest_str0, strEnd]
    omega
  · rw [if_neg h34, if_pos (by rcases h with h | h; exact absurd h h34; exact h)]

/-- A cut just behind the value leaves the model's count. -/
theorem nest_take : ∀ (l : List Int) (d : Nat) (s e : Bool), nest d s e (l.take (nest d s e l)) = nest d s e l
  | [], d, s, e => by simp
  | x :: l, d, true, true => by
    have := nest_take l d true false
    simp only [nest, List.take_succ_cons]
    omega
  | x :: l, d, true, false => by
    have h1 := nest_take l d true true
    have h2 := nest_take l d false false
    have h3 := nest_take l d true false
    simp only [nest]
    by_cases h92 : x = 92
    · simp only [if_pos h92, List.take_succ_cons, nest]; omega
    · by_cases h34 : x = 34
      · by_cases hd : d = 0
        · simp only [if_neg h92, if_pos h34, if_pos hd, List.take_succ_cons, nest]
        · simp only [if_neg h92, if_pos h34, if_neg hd, List.take_succ_cons, nest]; omega
      · simp only [if_neg h92, if_neg h34, List.take_succ_cons, nest]; omega
  | x :: l, d, false, e => by
    have h1 := nest_take l d true false
    have h2 := nest_take l (d + 1) false false
    have h3 := nest_take l (d - 1) false false
    have h4 := nest_take l d false false
    have hn : ∀ m, nest d false e (x :: m) = if x = 34 then nest d true false m + 1 else if x = 123 ∨ x = 91 then nest (d + 1) false false m + 1 else if x = 125 ∨ x = 93 then (if d = 1 then 1 else nest (d - 1) false false m + 1) else nest d false false m + 1 := fun m => by cases e <;> rfl
    rw [hn l]
    by_cases c1 : x = 34
    · simp only [if_pos c1, List.take_succ_cons, hn]; omega
    · by_cases c2 : x = 123 ∨ x = 91
      · simp only [if_neg c1, if_pos c2, List.take_succ_cons, hn]; omega
      · by_cases c3 : x = 125 ∨ x = 93
        · by_cases hd : d = 1
          · simp only [if_neg c1, if_neg c2, if_pos c3, if_pos hd, List.take_succ_cons, hn]
          · simp only [if_neg c1, if_neg c2, if_pos c3, if_neg hd, List.take_succ_cons, hn]; omega
        · simp only [if_neg c1, if_neg c2, if_neg c3, List.take_succ_cons, hn]; omega

/-- A value that closes ahead of the end keeps its count whatever follows it. -/
theorem nest_tail (t : List Int) : ∀ (l : List Int) (d : Nat) (s e : Bool), nest d s e l < l.length → nest d s e (l.take (nest d s e l) ++ t) = nest d s e l
  | [], d, s, e => by simp
  | x :: l, d, true, true => by
    have := nest_tail t l d true false
    simp only [nest, List.take_succ_cons, List.length_cons, List.cons_append]
    omega
  | x :: l, d, true, false => by
    have h1 := nest_tail t l d true true
    have h2 := nest_tail t l d false false
    have h3 := nest_tail t l d true false
    simp only [nest, List.length_cons]
    by_cases h92 : x = 92
    · simp only [if_pos h92, List.take_succ_cons, List.cons_append, nest]; omega
    · by_cases h34 : x = 34
      · by_cases hd : d = 0
        · simp [h34, hd, nest]
        · simp only [if_neg h92, if_pos h34, if_neg hd, List.take_succ_cons, List.cons_append, nest]; omega
      · simp only [if_neg h92, if_neg h34, List.take_succ_cons, List.cons_append, nest]; omega
  | x :: l, d, false, e => by
    have h1 := nest_tail t l d true false
    have h2 := nest_tail t l (d + 1) false false
    have h3 := nest_tail t l (d - 1) false false
    have h4 := nest_tail t l d false false
    have hn : ∀ m, nest d false e (x :: m) = if x = 34 then nest d true false m + 1 else if x = 123 ∨ x = 91 then nest (d + 1) false false m + 1 else if x = 125 ∨ x = 93 then (if d = 1 then 1 else nest (d - 1) false false m + 1) else nest d false false m + 1 := fun m => by cases e <;> rfl
    rw [hn l, List.length_cons]
    by_cases c1 : x = 34
    · simp only [if_pos c1, List.take_succ_cons, List.cons_append, hn]; omega
    · by_cases c2 : x = 123 ∨ x = 91
      · simp only [if_neg c1, if_pos c2, List.take_succ_cons, List.cons_append, hn]; omega
      · by_cases c3 : x = 125 ∨ x = 93
        · by_cases hd : d = 1
          · simp only [if_neg c1, if_neg c2, if_pos c3, if_pos hd, List.take_succ_cons, List.cons_append, hn]; exact fun _ => trivial
          · simp only [if_neg c1, if_neg c2, if_pos c3, if_neg hd, List.take_succ_cons, List.cons_append, hn]; omega
        · simp only [if_neg c1, if_neg c2, if_neg c3, List.take_succ_cons, List.cons_append, hn]; omega

theorem scal_take : ∀ l : List Int, scal (l.take (scal l)) = scal l
  | [] => by simp
  | x :: l => by
    have := scal_take l
    simp only [scal]
    by_cases h : ends x = true
    · simp [h, scal]
    · simp only [if_neg h, List.take_succ_cons, scal]; omega

/-- No byte of the run ends a scalar; what stands behind it does. -/
theorem scal_run : ∀ (l : List Int) (j : Nat), j < scal l → ends (l.getD j 0) = false
  | [], j, h => by simp [scal] at h
  | x :: l, j, h => by
    simp only [scal] at h
    by_cases hx : ends x = true
    · simp [hx] at h
    · rw [if_neg hx] at h
      cases j with
      | zero => simpa using hx
      | succ j => simpa using scal_run l j (by omega)
theorem scal_stop : ∀ (l : List Int), scal l < l.length → ends (l.getD (scal l) 0) = true
  | [], h => by simp at h
  | x :: l, h => by
    simp only [scal, List.length_cons] at h ⊢
    by_cases hx : ends x = true
    · simp [hx]
    · rw [if_neg hx] at h ⊢
      simpa using scal_stop l (by omega)

def opens (x : Int) : Prop := x = 34 ∨ x = 123 ∨ x = 91

theorem valEnd_scal (xs : List Int) (s : Nat) (h : ¬ opens (xs.getD s 0)) : valEnd xs s = s + scal (xs.drop s) := by
  unfold valEnd
  rw [if_neg (fun e => h (.inl e)), if_neg (fun e => h (.inr e))]

theorem nest_pos (x : Int) (l : List Int) : 0 < nest 0 false false (x :: l) := by
  simp only [nest]
  split
  · omega
  · split
    · omega
    · split
      · split <;> omega
      · omega

theorem valEnd_bounds (xs : List Int) (s : Nat) (hs : s < xs.length) : s ≤ valEnd xs s ∧ valEnd xs s ≤ xs.length := by
  by_cases h : opens (xs.getD s 0)
  · rw [valEnd_nest xs s hs h]
    have := nest_le (xs.drop s) 0 false false
    simp at this
    omega
  · rw [valEnd_scal xs s h]
    have := scal_le (xs.drop s)
    simp at this
    omega

theorem valEnd_stay (xs : List Int) (s : Nat) (hs : s < xs.length) (h : valEnd xs s = s) : ends (xs.getD s 0) = true := by
  by_cases ho : opens (xs.getD s 0)
  · rw [valEnd_nest xs s hs ho, drop_cons xs s hs] at h
    have := nest_pos (xs.getD s 0) (xs.drop (s + 1))
    omega
  · rw [valEnd_scal xs s ho] at h
    have h0 : scal (xs.drop s) = 0 := by omega
    have := scal_stop (xs.drop s) (by simp; omega)
    rw [h0, getD_drop] at this
    exact this

theorem drop_take' (xs : List Int) (s r : Nat) : (xs.take r).drop s = (xs.drop s).take (r - s) := by rw [List.drop_take]

theorem valEnd_take (xs : List Int) (s : Nat) (hs : s < xs.length) (h : s < valEnd xs s) : valEnd (xs.take (valEnd xs s)) s = valEnd xs s := by
  have hb := valEnd_bounds xs s hs
  have hg : (xs.take (valEnd xs s)).getD s 0 = xs.getD s 0 := getD_take _ _ _ h
  by_cases ho : opens (xs.getD s 0)
  · have e := valEnd_nest xs s hs ho
    rw [valEnd_nest (xs.take (valEnd xs s)) s (by simp; omega) (by rw [hg]; exact ho), drop_take', show valEnd xs s - s = nest 0 false false (xs.drop s) by omega, nest_take]
    exact e.symm
  · have e := valEnd_scal xs s ho
    rw [valEnd_scal (xs.take (valEnd xs s)) s (by rw [hg]; exact ho), drop_take', show valEnd xs s - s = scal (xs.drop s) by omega, scal_take]
    exact e.symm

theorem valEnd_tail (xs t : List Int) (s : Nat) (hs : s < xs.length) (ho : opens (xs.getD s 0)) (h : s < valEnd xs s) (hr : valEnd xs s < xs.length) : valEnd (xs.take (valEnd xs s) ++ t) s = valEnd xs s := by
  have hl : (xs.take (valEnd xs s)).length = valEnd xs s := by simp; omega
  have hg : (xs.take (valEnd xs s) ++ t).getD s 0 = xs.getD s 0 := by
    rw [List.getD_eq_getElem?_getD, List.getElem?_append_left (by omega), ← List.getD_eq_getElem?_getD]
    exact getD_take _ _ _ h
  have e := valEnd_nest xs s hs ho
  rw [valEnd_nest _ s (by rw [List.length_append]; omega) (by rw [hg]; exact ho), List.drop_append_of_le_length (by omega), drop_take', show valEnd xs s - s = nest 0 false false (xs.drop s) by omega, nest_tail]
  · exact e.symm
  · simp; omega

/-- What a scalar's answer is: nothing in it ends a scalar, and it stops at the end or at a byte that does. -/
theorem valEnd_spec (xs : List Int) (s : Nat) (hs : s < xs.length) (h : ¬ opens (xs.getD s 0)) :
    (∀ j, s ≤ j → j < valEnd xs s → ends (xs.getD j 0) = false) ∧ (valEnd xs s < xs.length → ends (xs.getD (valEnd xs s) 0) = true) := by
  rw [valEnd_scal xs s h]
  refine ⟨fun j h1 h2 => ?_, fun h1 => ?_⟩
  · have := scal_run (xs.drop s) (j - s) (by omega)
    rw [getD_drop, show s + (j - s) = j by omega] at this
    exact this
  · have := scal_stop (xs.drop s) (by simp; omega)
    rw [getD_drop] at this
    exact this

end Go.Proofs.Qxb6601536a
