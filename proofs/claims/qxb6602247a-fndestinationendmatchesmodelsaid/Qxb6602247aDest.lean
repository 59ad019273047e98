/-
  Seat b6602247a: where a link destination ends, over lists of numbers: in angle brackets ('ang'), bare ('bare'); what text put ahead does.
-/
import Derived.Test.Qxb6602247aBase
namespace Go.Proofs.Qxb6602247a
open Go.RowKit
set_option linter.unusedVariables false

/-- In angle brackets; p: where the list's head stands; the flag: the head is taken by a backslash. -/
def ang : Nat → Bool → List Int → Int
  | _, _, [] => -1
  | p, true, _ :: l => ang (p + 1) false l
  | p, false, x :: l => if x = 62 then (p : Int) + 1 else if x = 92 ∧ punct (l.headD 0) = true then ang (p + 1) true l else if x = 60 ∨ x = 10 ∨ x = 13 then -1 else ang (p + 1) false l

/-- Bare; d: how many parentheses are open. -/
def bare : Nat → Nat → Bool → List Int → Int
  | p, d, _, [] => if 0 < d then -1 else (p : Int)
  | p, d, true, _ :: l => bare (p + 1) d false l
  | p, d, false, x :: l => if x = 92 ∧ punct (l.headD 0) = true then bare (p + 1) d true l else if x = 40 then (if 32 ≤ d then -1 else bare (p + 1) (d + 1) false l)
    else if (x = 41 ∧ d = 0) ∨ x ≤ 32 ∨ x = 127 then (p : Int) else if x = 41 then bare (p + 1) (d - 1) false l else bare (p + 1) d false l

def dest (xs : List Int) (a : Nat) : Int := if a < xs.length ∧ xs.getD a 0 = 60 then ang (a + 1) false (xs.drop (a + 1)) else bare a 0 false (xs.drop a)

theorem ang_shift (q : Nat) : ∀ (l : List Int) (p : Nat) (e : Bool), ang (q + p) e l = if ang p e l < 0 then -1 else (q : Int) + ang p e l
  | [], p, e => by cases e <;> simp [ang]
  | x :: l, p, true => by
    have := ang_shift q l (p + 1) false
    show ang (q + p + 1) false l = if ang (p + 1) false l < 0 then -1 else (q : Int) + ang (p + 1) false l
    rw [Nat.add_assoc, this]
  | x :: l, p, false => by
    have h1 := ang_shift q l (p + 1) true
    have h2 := ang_shift q l (p + 1) false
    simp only [ang]
    by_cases c1 : x = 62
    · simp only [if_pos c1]
      rw [if_neg (by omega)]
      omega
    · simp only [if_neg c1]
      by_cases c2 : x = 92 ∧ punct (l.headD 0) = true
      · simp only [if_pos c2]; rw [Nat.add_assoc, h1]
      · simp only [if_neg c2]
        by_cases c3 : x = 60 ∨ x = 10 ∨ x = 13
        · simp only [if_pos c3]; rfl
        · simp only [if_neg c3]; rw [Nat.add_assoc, h2]

theorem bare_shift (q : Nat) : ∀ (l : List Int) (p d : Nat) (e : Bool), bare (q + p) d e l = if bare p d e l < 0 then -1 else (q : Int) + bare p d e l
  | [], p, d, e => by
    cases e <;> simp only [bare] <;> (split; · rfl
                                      · rw [if_neg (by omega)]; omega)
  | x :: l, p, d, true => by
    have := bare_shift q l (p + 1) d false
    show bare (q + p + 1) d false l = if bare (p + 1) d false l < 0 then -1 else (q : Int) + bare (p + 1) d false l
    rw [Nat.add_assoc, this]
  | x :: l, p, d, false => by
    have h1 := bare_shift q l (p + 1) d true
    have h2 := bare_shift q l (p + 1) d false
    have h3 := bare_shift q l (p + 1) (d + 1) false
    have h4 := bare_shift q l (p + 1) (d - 1) false
    simp only [bare]
    by_cases c2 : x = 92 ∧ punct (l.headD 0) = true
    · simp only [if_pos c2]; rw [Nat.add_assoc, h1]
    · simp only [if_neg c2]
      by_cases c3 : x = 40
      · simp only [if_pos c3]
        by_cases c4 : 32 ≤ d
        · simp only [if_pos c4]; rfl
        · simp only [if_neg c4]; rw [Nat.add_assoc, h3]
      · simp only [if_neg c3]
        by_cases c5 : (x = 41 ∧ d = 0) ∨ x ≤ 32 ∨ x = 127
        · simp only [if_pos c5]
          rw [if_neg (by omega)]
          omega
        · simp only [if_neg c5]
          by_cases c6 : x = 41
          · simp only [if_pos c6]; rw [Nat.add_assoc, h4]
          · simp only [if_neg c6]; rw [Nat.add_assoc, h2]

/-- Text put ahead moves the answer by its length. -/
theorem dest_shift (ps xs : List Int) (a : Nat) : dest (ps ++ xs) (ps.length + a) = if dest xs a < 0 then -1 else (ps.length : Int) + dest xs a := by
  have hg : (ps ++ xs).getD (ps.length + a) 0 = xs.getD a 0 := by
    rw [List.getD_eq_getElem?_getD, List.getElem?_append_right (by omega), List.getD_eq_getElem?_getD, show ps.length + a - ps.length = a by omega]
  have hd : ∀ k, (ps ++ xs).drop (ps.length + k) = xs.drop k := fun k => by
    rw [List.drop_append, List.drop_eq_nil_of_le (by omega), List.nil_append]
    congr 1
    omega
  unfold dest
  rw [hg, List.length_append, hd a, Nat.add_assoc, hd (a + 1)]
  by_cases h : a < xs.length ∧ xs.getD a 0 = 60
  · rw [if_pos ⟨by omega, h.2⟩]
    simp only [if_pos h]
    exact ang_shift ps.length _ _ _
  · rw [if_neg (fun e => h ⟨by omega, e.2⟩)]
    simp only [if_neg h]
    exact bare_shift ps.length _ _ _ _

theorem ang_le : ∀ (l : List Int) (p : Nat) (e : Bool), ang p e l ≤ (p : Int) + l.length
  | [], p, e => by cases e <;> simp only [ang, List.length_nil] <;> omega
  | x :: l, p, true => by
    have := ang_le l (p + 1) false
    simp only [ang, List.length_cons]
    omega
  | x :: l, p, false => by
    have h1 := ang_le l (p + 1) true
    have h2 := ang_le l (p + 1) false
    simp only [ang, List.length_cons]
    split
    · omega
    · split
      · omega
      · split <;> omega

theorem bare_le : ∀ (l : List Int) (p d : Nat) (e : Bool), bare p d e l ≤ (p : Int) + l.length
  | [], p, d, e => by cases e <;> simp only [bare, List.length_nil] <;> split <;> omega
  | x :: l, p, d, true => by
    have := bare_le l (p + 1) d false
    simp only [bare, List.length_cons]
    omega
  | x :: l, p, d, false => by
    have h1 := bare_le l (p + 1) d true
    have h2 := bare_le l (p + 1) d false
    have h3 := bare_le l (p + 1) (d + 1) false
    have h4 := bare_le l (p + 1) (d - 1) false
    simp only [bare, List.length_cons]
    split
    · omega
    · split
      · split <;> omega
      · split
        · omega
        · split <;> omega

theorem dest_le (xs : List Int) (a : Nat) (h : a ≤ xs.length) : dest xs a ≤ xs.length := by
  unfold dest
  split
  · next hh =>
    have := ang_le (xs.drop (a + 1)) (a + 1) false
    simp only [List.length_drop] at this
    omega
  · have := bare_le (xs.drop a) a 0 false
    simp only [List.length_drop] at this
    omega

end Go.Proofs.Qxb6602247a
