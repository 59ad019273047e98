/-
  Seat b6602247a: the plain law behind the model: whether a byte is taken by a backslash ('fl': the scanner's flag; an odd run of backslashes), the balance of parentheses ('bal'), and what both say of 'ang' and 'bare'.
-/
import Derived.Test.Qxb6602247aDestWalk
namespace Go.Proofs.Qxb6602247a
open Go.RowKit
set_option linter.unusedVariables false

/-- Is the byte at st + k, in a scan that begins at st, taken by a backslash? -/
def fl (xs : List Int) (st : Nat) : Nat → Bool
  | 0 => false
  | k + 1 => !fl xs st k && decide (xs.getD (st + k) 0 = 92) && punct (xs.getD (st + k + 1) 0)

/-- The run of backslashes just ahead tells it. -/
theorem fl_run (xs : List Int) (st : Nat) : ∀ (r k : Nat), r ≤ k → (∀ i, i < r → xs.getD (st + k - 1 - i) 0 = 92) → (r < k → xs.getD (st + k - 1 - r) 0 ≠ 92) → fl xs st k = (decide (r % 2 = 1) && punct (xs.getD (st + k) 0))
  | 0, 0, _, _, _ => rfl
  | 0, k + 1, _, _, h => by
    have h1 := h (by omega)
    rw [show st + (k + 1) - 1 - 0 = st + k by omega] at h1
    have h2 : decide (xs.getD (st + k) 0 = 92) = false := decide_eq_false h1
    show (!fl xs st k && decide (xs.getD (st + k) 0 = 92) && punct (xs.getD (st + k + 1) 0)) = _
    rw [h2]
    simp
  | r + 1, 0, hr, _, _ => by omega
  | r + 1, k + 1, hr, hrun, hpre => by
    have ih := fl_run xs st r k (by omega) (fun i hi => by
      have := hrun (i + 1) (by omega)
      rw [show st + (k + 1) - 1 - (i + 1) = st + k - 1 - i by omega] at this
      exact this) (fun hlt => by
      have := hpre (by omega)
      rw [show st + (k + 1) - 1 - (r + 1) = st + k - 1 - r by omega] at this
      exact this)
    have h92 : xs.getD (st + k) 0 = 92 := by
      have := hrun 0 (by omega)
      rw [show st + (k + 1) - 1 - 0 = st + k by omega] at this
      exact this
    have hp : punct 92 = true := by decide
    rw [h92, hp] at ih
    show (!fl xs st k && decide (xs.getD (st + k) 0 = 92) && punct (xs.getD (st + k + 1) 0)) = _
    rw [ih, h92, show st + (k + 1) = st + k + 1 by omega]
    rcases Nat.mod_two_eq_zero_or_one r with h | h
    · have h' : (r + 1) % 2 = 1 := by omega
      simp [h, h']
    · have h' : (r + 1) % 2 = 0 := by omega
      simp [h, h']

/-- The unescaped '(' less the unescaped ')' among the first k bytes from st on. -/
def bal (xs : List Int) (st : Nat) : Nat → Int
  | 0 => 0
  | k + 1 => bal xs st k + (if fl xs st k then 0 else if xs.getD (st + k) 0 = 40 then 1 else if xs.getD (st + k) 0 = 41 then -1 else 0)
theorem bal_bd (xs : List Int) (st : Nat) : ∀ k : Nat, -(k : Int) ≤ bal xs st k ∧ bal xs st k ≤ k
  | 0 => by simp [bal]
  | k + 1 => by
    have := bal_bd xs st k
    simp only [bal]
    split
    · omega
    · split
      · omega
      · split <;> omega

theorem fl_after (xs : List Int) (st k : Nat) (h : fl xs st k = true) : fl xs st (k + 1) = false := by
  show (!fl xs st k && _ && _) = _
  rw [h]; rfl
theorem fl_next (xs : List Int) (st k : Nat) (h : fl xs st k = false) : fl xs st (k + 1) = (decide (xs.getD (st + k) 0 = 92) && punct (xs.getD (st + k + 1) 0)) := by
  show (!fl xs st k && _ && _) = _
  rw [h]; rfl

/-- 'ang' goes on with the flag of the next place. -/
theorem ang_fl (xs : List Int) (st k : Nat) (h : st + k < xs.length) (hx : fl xs st k = false → xs.getD (st + k) 0 ≠ 62 ∧ ¬ (xs.getD (st + k) 0 = 60 ∨ xs.getD (st + k) 0 = 10 ∨ xs.getD (st + k) 0 = 13)) :
    ang (st + k) (fl xs st k) (xs.drop (st + k)) = ang (st + k + 1) (fl xs st (k + 1)) (xs.drop (st + k + 1)) := by
  cases hf : fl xs st k with
  | true =>
    rw [fl_after xs st k hf, drop_cons xs (st + k) h]
    simp only [ang]
  | false =>
    obtain ⟨h1, h2⟩ := hx hf
    rw [fl_next xs st k hf, drop_cons xs (st + k) h]
    by_cases hc : xs.getD (st + k) 0 = 92 ∧ punct ((xs.drop (st + k + 1)).headD 0) = true
    · have hp := hc.2
      rw [head_drop] at hp
      simp only [ang, if_neg h1, if_pos hc]
      rw [decide_eq_true hc.1, hp]
      rfl
    · simp only [ang, if_neg h1, if_neg hc, if_neg h2]
      have : (decide (xs.getD (st + k) 0 = 92) && punct (xs.getD (st + k + 1) 0)) = false := by
        rw [head_drop] at hc
        simp only [Bool.and_eq_false_iff, decide_eq_false_iff_not]
        by_cases h92 : xs.getD (st + k) 0 = 92
        · exact .inr (by simpa using fun hh => hc ⟨h92, hh⟩)
        · exact .inl h92
      rw [this]

/-- Does the destination end at st + k? -/
def stopsAt (xs : List Int) (st k : Nat) : Bool := !fl xs st k && decide (xs.getD (st + k) 0 ≤ 32 ∨ xs.getD (st + k) 0 = 127 ∨ (xs.getD (st + k) 0 = 41 ∧ bal xs st k = 0))
/-- Does an unescaped '(' at st + k open a 33rd level? -/
def over33 (xs : List Int) (st k : Nat) : Bool := !fl xs st k && decide (xs.getD (st + k) 0 = 40 ∧ 32 < bal xs st (k + 1))

def BR (xs : List Int) (st k : Nat) : Int := bare (st + k) (bal xs st k).toNat (fl xs st k) (xs.drop (st + k))

theorem br_step (xs : List Int) (st k : Nat) (h : st + k < xs.length) (ht : stopsAt xs st k = false) (hb : 0 ≤ bal xs st k) (ho : over33 xs st k = false) : BR xs st k = BR xs st (k + 1) ∧ 0 ≤ bal xs st (k + 1) := by
  unfold BR
  cases hf : fl xs st k with
  | true =>
    have hb1 : bal xs st (k + 1) = bal xs st k := by simp [bal, hf]
    rw [fl_after xs st k hf, drop_cons xs (st + k) h, hb1]
    exact ⟨by simp only [bare]; rfl, hb⟩
  | false =>
    simp only [stopsAt, hf, Bool.not_false, Bool.true_and, decide_eq_false_iff_not] at ht
    simp only [over33, hf, Bool.not_false, Bool.true_and, decide_eq_false_iff_not] at ho
    have hb1 : bal xs st (k + 1) = bal xs st k + (if xs.getD (st + k) 0 = 40 then 1 else if xs.getD (st + k) 0 = 41 then -1 else 0) := by simp [bal, hf]
    have hfn := fl_next xs st k hf
    have hno : ¬ (xs.getD (st + k) 0 = 92 ∧ punct (xs.getD (st + k + 1) 0) = true) → fl xs st (k + 1) = false := fun hc => by
      rw [hfn]
      simp only [Bool.and_eq_false_iff, decide_eq_false_iff_not]
      by_cases h92 : xs.getD (st + k) 0 = 92
      · exact .inr (by simpa using fun hh => hc ⟨h92, hh⟩)
      · exact .inl h92
    by_cases hc : xs.getD (st + k) 0 = 92 ∧ punct (xs.getD (st + k + 1) 0) = true
    · have hft : fl xs st (k + 1) = true := by rw [hfn, decide_eq_true hc.1, hc.2]; rfl
      have hb2 : bal xs st (k + 1) = bal xs st k := by rw [hb1, if_neg (by omega), if_neg (by omega)]; omega
      have hc' : xs.getD (st + k) 0 = 92 ∧ punct ((xs.drop (st + k + 1)).headD 0) = true := by rw [head_drop]; exact hc
      rw [hft, hb2, drop_cons xs (st + k) h]
      refine ⟨?_, hb⟩
      simp only [bare, if_pos hc']
      rfl
    · rw [hno hc]
      by_cases h40 : xs.getD (st + k) 0 = 40
      · rw [if_pos h40] at hb1
        have h33 : ¬ 32 < bal xs st (k + 1) := fun hh => ho ⟨h40, hh⟩
        refine ⟨?_, by omega⟩
        rw [bare_open xs (st + k) _ h h40, if_neg (by omega), hb1, show (bal xs st k + 1).toNat = (bal xs st k).toNat + 1 by omega]
        rfl
      · rw [if_neg h40] at hb1
        by_cases h41 : xs.getD (st + k) 0 = 41
        · rw [if_pos h41] at hb1
          have h0 : bal xs st k ≠ 0 := fun hh => ht (.inr (.inr ⟨h41, hh⟩))
          refine ⟨?_, by omega⟩
          rw [bare_close xs (st + k) _ h h41 (by omega), hb1, show (bal xs st k + -1).toNat = (bal xs st k).toNat - 1 by omega]
          rfl
        · rw [if_neg h41] at hb1
          refine ⟨?_, by omega⟩
          rw [bare_next xs (st + k) _ h hc h40 h41 (by omega) (by omega), hb1, show bal xs st k + 0 = bal xs st k by omega]
          rfl

theorem br_over (xs : List Int) (st k : Nat) (h : st + k < xs.length) (hb : 0 ≤ bal xs st k) (ho : over33 xs st k = true) : BR xs st k = -1 := by
  simp only [over33, Bool.and_eq_true, Bool.not_eq_true', decide_eq_true_eq] at ho
  obtain ⟨hf, h40, h33⟩ := ho
  have hb1 : bal xs st (k + 1) = bal xs st k + 1 := by simp only [bal, hf, Bool.false_eq_true, if_false, if_pos h40]
  unfold BR
  rw [hf, bare_open xs (st + k) _ h h40, if_pos (by omega)]
theorem br_stops (xs : List Int) (st k : Nat) (h : st + k < xs.length) (hb : 0 ≤ bal xs st k) (ht : stopsAt xs st k = true) : BR xs st k = ((st + k : Nat) : Int) := by
  simp only [stopsAt, Bool.and_eq_true, Bool.not_eq_true', decide_eq_true_eq] at ht
  obtain ⟨hf, hx⟩ := ht
  unfold BR
  rw [hf, bare_stop xs (st + k) _ h (by omega)]
theorem br_end (xs : List Int) (st k : Nat) (h : st + k = xs.length) : BR xs st k = if 0 < bal xs st k then -1 else ((st + k : Nat) : Int) := by
  unfold BR
  rw [bare_end xs (st + k) _ (by omega)]
  by_cases hb : 0 < bal xs st k
  · rw [if_pos hb, if_pos (by omega)]
  · rw [if_neg hb, if_neg (by omega)]

end Go.Proofs.Qxb6602247a
