/-
  Seat b6601536a: the walk of FnSkipValueMatchesSpecification.
-/
import Derived.Test.Qxb6601536aModel
namespace Go.Proofs.Qxb6601536a
open Go.RowKit
set_option linter.unusedVariables false

/-- ZZskipValue hands on. -/
theorem zzValue (b o n c s : Nat) (xs : List Int) (w : World) (h : Row w (some ⟨b, o, none⟩) n xs) (hnc : n ≤ c) (hn : n ≤ 1048576) (hs : s < n) :
    Calls Try.prog 14 #[.slice (some ⟨b, o, none⟩) n c, .int .i64 s] w fun e w' => e = .returned (.int .i64 (valEnd xs s : Nat)) ∧ w = w' := by
  have HS := skipValue b o n c s xs w h hnc hn hs
  generalize valEnd xs s = R at *
  clear h
  go_enter Try.func14, Try.ntmps14
  go_wp2_with (go_at_call 20; refine HS.mono ?_; rintro e w' ⟨rfl, rfl⟩)
  go_ret
  exact ⟨rfl, rfl⟩

set_option maxHeartbeats 4000000 in
set_option maxRecDepth 100000 in
/-- The walk: the law returns true and turns nothing that was there. -/
theorem walkSpec (a0 : Option Addr) (len0 cap0 : Nat) (z0 : List Int) (a1 : Int) (w : World) (w0 : IsRow .u8 w a0 len0 cap0 z0) (w1 : (Lit.int .i64 a1).wf = true) :
    Calls Try.prog 5 #[.slice a0 len0 cap0, .int .i64 a1] w fun e w' => e = .returned (.bool true) ∧ Below w.heap.size w w' := by
  clear w1
  rcases Nat.lt_or_ge 1048576 len0 with hbig | hbig
  · have hbig' : (1048576 : Int) < (len0 : Int) := by omega
    clear w0
    go_enter Try.func5, Try.ntmps5
    go_wp2
    go_ret
    exact ⟨rfl, Below.refl _ _⟩
  by_cases hneg : a1 < 0
  · clear w0
    go_enter Try.func5, Try.ntmps5
    go_wp2
    go_ret
    exact ⟨rfl, Below.refl _ _⟩
  by_cases hgt : (len0 : Int) ≤ a1
  · clear w0
    go_enter Try.func5, Try.ntmps5
    go_wp2
    go_ret
    exact ⟨rfl, Below.refl _ _⟩
  obtain ⟨s, rfl⟩ : ∃ i : Nat, a1 = i := ⟨a1.toNat, by omega⟩
  have hs : s < len0 := by omega
  obtain ⟨x, rfl⟩ : ∃ x, a0 = some x := by
    rcases w0 with ⟨_, h, _⟩ | ⟨x, h, _⟩
    · omega
    · exact ⟨x, h⟩
  obtain ⟨hl, hm, b, o, rfl, hb, hcs, hbs, hlen⟩ := w0.at (by omega)
  clear w0 hm
  obtain ⟨i0, hi, hz0, hz1, hz2⟩ := info_parts info5
  have q22 := fun (w : World) => run_neq_slice_nil_any (P := Try.prog) w 22 5 (some ⟨b, o, none⟩) len0 cap0 0 0 Try.underlying22
  have hbd0 : decide ((1048576 : Int) < (len0 : Int)) = false := by simp; omega
  go_enter Try.func5, Try.ntmps5
  go_wp2_with (first | (go_at_call 13; go_in) | (at_make; refine wpList_make_full _ rfl _ _ 22 rfl w.heap.size 5 i0 (.int .u8 0) 1 Try.underlying22 hi hz0 hz1 _ _ _ _ len0 rfl rfl rfl rfl (by rw [hz2]; omega) (by unfold maxLen; omega) (Nat.le_refl _) ?_; intro w1 hown hgrow))
  obtain ⟨w2, hcopy, hb2, hrow⟩ := copy_run w w1 b o len0 cap0 z0 _ hb hcs hbs hlen hown hgrow
  rw [hcopy]
  have HB : Hid (Below w.heap.size w w2) := hb2
  generalize z0.take len0 = xs at *
  have HR : Hid (Row w2 (some ⟨w.heap.size, 0, none⟩) len0 xs) := hrow
  have HL : Hid (xs.length = len0) := hrow.len
  have HS := zzValue w.heap.size 0 len0 len0 s xs w2 hrow (Nat.le_refl _) hbig hs
  have hbd := valEnd_bounds xs s (by have := HL.out; omega)
  rw [HL.out] at hbd
  have hc := hrow.cells s hs
  rw [Nat.zero_add] at hc
  clear hcopy hb2 hrow hown hgrow hcs hbs q22 hlen
  simp only [Result.andThen]
  rw [Oper.upon_value]
  by_cases hop : opens (xs.getD s 0)
  · have HM := model w.heap.size 0 len0 len0 s xs w2 HR.out hbig hs hop
    generalize valEnd xs s = R at *
    rcases hop with hx | hx | hx
    all_goals
      rw [hx] at hc
      clear hx
      go_wp2_with (first | (go_at_call 14; refine HS.mono ?_; rintro e w' ⟨rfl, rfl⟩) | (go_at_call 15; refine HM.mono ?_; rintro e w' ⟨rfl, rfl⟩))
      go_ret
      exact ⟨rfl, HB.out⟩
  · have hsp := valEnd_spec xs s (by have := HL.out; omega) hop
    rw [HL.out] at hsp
    have HSP : Hid ((∀ j, s ≤ j → j < valEnd xs s → ends (xs.getD j 0) = false) ∧ (valEnd xs s < len0 → ends (xs.getD (valEnd xs s) 0) = true)) := hsp
    have h34 : (xs.getD s 0 == 34) = false := by simpa using fun e => hop (.inl e)
    have h123 : (xs.getD s 0 == 123) = false := by simpa using fun e => hop (.inr (.inl e))
    have h91 : (xs.getD s 0 == 91) = false := by simpa using fun e => hop (.inr (.inr e))
    clear hsp hop
    generalize valEnd xs s = R at *
    generalize xs.getD s 0 = x0 at *
    obtain ⟨hsR, hRn⟩ := hbd
    have hRs : ¬ R < s := by omega
    have hnR : ¬ len0 < R := by omega
    go_wp2_with (first | (go_at_call 14; refine HS.mono ?_; rintro e w' ⟨rfl, rfl⟩))
    clear HS hc h34 h123 h91
    go_loopw [8] (fun v wr => ∃ j : Nat, v = .int .i64 j ∧ s ≤ j ∧ j ≤ R ∧ w2 = wr) (fun v _ => R - (intOf v).toNat)
    case atStart => exact ⟨s, by go_num, by omega, by omega, rfl⟩
    case round =>
      obtain ⟨j, rfl, hsj, hjR, rfl⟩ := hrel
      by_cases hlt : j < R
      · have hcj := HR.out.cells j (by omega)
        rw [Nat.zero_add] at hcj
        have HE := endsScalar (xs.getD j 0) w2
        rw [HSP.out.1 j hsj hlt] at HE
        generalize xs.getD j 0 = y at *
        go_wp2_with (go_at_call 16; refine HE.mono ?_; rintro e w' ⟨rfl, rfl⟩)
        go_roundw
        case rel => exact ⟨j + 1, by go_num, by omega, by omega, trivial⟩
        case measure => simp [intOf]; omega
      · obtain rfl : j = R := by omega
        rcases Nat.eq_or_lt_of_le hRn with rfl | hRl
        · go_wp2
          go_ret
          exact ⟨rfl, HB.out⟩
        · have hcj := HR.out.cells j hRl
          rw [Nat.zero_add] at hcj
          have HE := endsScalar (xs.getD j 0) w2
          rw [HSP.out.2 hRl] at HE
          have hne : ((j : Int) == (len0 : Int)) = false := by simp; omega
          clear HSP
          generalize xs.getD j 0 = y at *
          go_wp2_with (go_at_call 16; refine HE.mono ?_; rintro e w' ⟨rfl, rfl⟩)
          go_ret
          exact ⟨rfl, HB.out⟩

end Go.Proofs.Qxb6601536a
