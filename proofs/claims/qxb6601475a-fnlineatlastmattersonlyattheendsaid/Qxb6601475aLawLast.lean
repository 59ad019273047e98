/-
  Seat b6601475a: the walk of FnLineAtLastMattersOnlyAtTheEnd.
-/
import Derived.Test.Qxb6601475aLoops
namespace Go.Proofs.Qxb6601475a
open Go.RowKit
set_option linter.unusedVariables false

set_option maxHeartbeats 2000000 in
/-- The walk: the law returns true and turns nothing that was there. -/
theorem walkLast (a0 : Option Addr) (len0 cap0 : Nat) (z0 : List Int) (a1 : Int) (a2 : Int) (w : World) (w0 : IsRow .u8 w a0 len0 cap0 z0) (w1 : (Lit.int .i64 a1).wf = true) (w2 : (Lit.int .i64 a2).wf = true) :
    Calls Try.prog 7 #[.slice a0 len0 cap0, .int .i64 a1, .int .i64 a2] w fun e w' => e = .returned (.bool true) ∧ Below w.heap.size w w' := by
  clear w1 w2
  rcases Nat.lt_or_ge 1048576 len0 with hbig | hbig
  · have hbig' : (1048576 : Int) < (len0 : Int) := by omega
    clear w0
    go_enter Try.func7, Try.ntmps7
    go_wp2
    go_ret
    exact ⟨rfl, Below.refl _ _⟩
  by_cases hneg : a2 < 0
  · clear w0
    go_enter Try.func7, Try.ntmps7
    go_wp2
    go_ret
    exact ⟨rfl, Below.refl _ _⟩
  by_cases hgt : (len0 : Int) < a2
  · clear w0
    go_enter Try.func7, Try.ntmps7
    go_wp2
    go_ret
    exact ⟨rfl, Below.refl _ _⟩
  obtain ⟨i, rfl⟩ : ∃ i : Nat, a2 = i := ⟨a2.toNat, by omega⟩
  have hi : i ≤ len0 := by omega
  have HC := clone_row a0 len0 cap0 z0 w w0 hbig
  clear w0
  go_enter Try.func7, Try.ntmps7
  go_wp2_with (first | (go_at_call 20; go_in) | fail)
  refine HC.mono ?_
  clear HC
  rintro e wa ⟨ao, c, rfl, hc, hba, hrow⟩
  have HA : Hid (Below w.heap.size w wa) := hba
  have HR : Hid (Row wa ao len0 (z0.take len0)) := hrow
  clear hba hrow
  generalize z0.take len0 = xs at *
  obtain ⟨ro, hro⟩ : ∃ ro, ro = (if c = i then ao else ao.map fun x => x.add i) := ⟨_, rfl⟩
  have hsl := run_cut ao len0 c i hi
  rw [← hro] at hsl
  have HO : Hid (∀ w', Row w' ao len0 xs → Row w' ro (len0 - i) (xs.drop i)) := fun w' h => by rw [hro]; exact h.cutIf c i hc
  clear hro
  go_wp2_with fail
  refine (zzLineAt len0 c i ao xs a1 false wa HR.out hc hbig hi).mono ?_
  rintro e wb ⟨hb, hl0⟩
  have HB : Hid (Below wa.heap.size wa wb) := hb
  clear hb
  have HR' : Hid (Row wb ao len0 xs) := HR.out.below HB.out
  have HBB : Hid (Below w.heap.size w wb) := HA.out.trans (HB.out.mono HA.out.size)
  have HL0 : Hid (LineOf (xs.drop i) len0 i false e wb) := hl0
  rcases hl0 with ⟨h1, h2, rfl⟩ | ⟨h1, h2, bo, c', rfl, h3⟩ | ⟨k, h1, h2, h3, bo, c', rfl, h4⟩
  · have HN : Hid (∀ j, j < (xs.drop i).length → (xs.drop i).getD j 0 ≠ 10) := h1
    clear h1 h2 HL0
    go_wp2_with fail
    refine (zzLineAt len0 c i ao xs a1 true wb HR'.out hc hbig hi).mono ?_
    rintro e wc ⟨hb2, hl1⟩
    have HC2 : Hid (Below w.heap.size w wc) := HBB.out.trans (hb2.mono HBB.out.size)
    have HRc : Hid (Row wc ao len0 xs) := HR'.out.below hb2
    clear hb2
    rcases hl1 with ⟨h1, h2, rfl⟩ | ⟨h1, h2, bo, c', rfl, h3⟩ | ⟨k, h1, h2, h3, bo, c', rfl, h4⟩
    · cases h2
    · clear h1 h2 h3
      generalize trimLen (xs.drop i) = m at *
      have HNL := hasNl_no ro (len0 - i) (c - i) (xs.drop i) wc (HO.out wc HRc.out) (by omega) (fun j hj => HN.out j (by have := (HO.out wc HRc.out).len; omega))
      go_wp2_with (go_at_call 17; refine HNL.mono ?_; rintro e w' ⟨rfl, rfl⟩)
      go_ret
      exact ⟨rfl, HC2.out⟩
    · exact absurd h2 (HN.out k h1)
  · cases h2
  · have HN : Hid (k < (xs.drop i).length ∧ (xs.drop i).getD k 0 = 10 ∧ ∀ j, j < k → (xs.drop i).getD j 0 ≠ 10) := ⟨h1, h2, h3⟩
    have HB4 : Hid (Row wb bo (trimLen ((xs.drop i).take k)) ((xs.drop i).take (trimLen ((xs.drop i).take k)))) := h4
    have HT : Hid (trimLen ((xs.drop i).take k) ≤ 1048576) := by
      have a1 := trimLen_le ((xs.drop i).take k)
      have a2 : ((xs.drop i).take k).length ≤ (xs.drop i).length := by simp; omega
      have a3 := HR.out.len
      have a4 : (xs.drop i).length ≤ xs.length := by simp
      have : trimLen ((xs.drop i).take k) ≤ 1048576 := by omega
      exact this
    clear h1 h2 h3 h4 HL0
    go_wp2_with fail
    refine (zzLineAt len0 c i ao xs a1 true wb HR'.out hc hbig hi).mono ?_
    rintro e wc ⟨hb2, hl1⟩
    have HC2 : Hid (Below w.heap.size w wc) := HBB.out.trans (hb2.mono HBB.out.size)
    have HRb : Hid (Row wc bo (trimLen ((xs.drop i).take k)) ((xs.drop i).take (trimLen ((xs.drop i).take k)))) := HB4.out.below hb2
    clear hb2
    rcases hl1 with ⟨h1, h2, rfl⟩ | ⟨h1, h2, bo2, c2, rfl, h3⟩ | ⟨k2, h1, h2, h3, bo2, c2, rfl, h4⟩
    · cases h2
    · exact absurd HN.out.2.1 (h1 k HN.out.1)
    · obtain rfl : k2 = k := by
        rcases Nat.lt_trichotomy k2 k with h | h | h
        · exact absurd h2 (HN.out.2.2 k2 h)
        · exact h
        · exact absurd HN.out.2.1 (h3 k h)
      have HE := equal_same bo bo2 _ c' c2 _ wc HRb.out h4 HT.out
      clear h1 h2 h3 h4
      generalize trimLen ((xs.drop i).take k2) = m at *
      go_wp2_with (go_at_call 21; refine HE.mono ?_; rintro e w' ⟨rfl, hbe⟩)
      go_ret
      exact ⟨rfl, HC2.out.trans (hbe.mono HC2.out.size)⟩
end Go.Proofs.Qxb6601475a
