/-
  Seat b6601475a: the walk of FnLineAtWalkCoversText.
-/
import Derived.Test.Qxb6601475aSplit
namespace Go.Proofs.Qxb6601475a
open Go.RowKit
set_option linter.unusedVariables false

theorem count_zero (ys : List Int) (h : ∀ j, j < ys.length → ys.getD j 0 ≠ 10) : cnt ys = 0 := by
  unfold cnt
  rw [List.count_eq_zero]
  intro hm
  obtain ⟨j, hj, e⟩ := List.getElem_of_mem hm
  exact h j hj (by simp [hj, e])
theorem cnt_rest (xs : List Int) (k : Nat) (h : ∀ j, j < (xs.drop k).length → (xs.drop k).getD j 0 ≠ 10) : cnt xs = cnt (xs.take k) := by
  have h0 := count_zero _ h
  have : cnt xs = cnt (xs.take k) + cnt (xs.drop k) := by
    unfold cnt
    rw [← List.count_append, List.take_append_drop]
  omega
theorem cnt_line (xs : List Int) (k j : Nat) (hj : j < (xs.drop k).length) (h1 : (xs.drop k).getD j 0 = 10) (h : ∀ i, i < j → (xs.drop k).getD i 0 ≠ 10) : cnt (xs.take (k + j + 1)) = cnt (xs.take k) + 1 := by
  have e : xs.take (k + j + 1) = xs.take k ++ (xs.drop k).take (j + 1) := by rw [Nat.add_assoc, List.take_add]
  have h2 := cnt_succ (xs.drop k) j hj
  rw [if_pos h1, count_zero ((xs.drop k).take j) (fun i hi => by
    have : i < j := by simp at hi; omega
    rw [getD_take _ _ _ this]; exact h i this)] at h2
  rw [e]
  unfold cnt at *
  rw [List.count_append, h2]

/-- The line that ends the text: body and terminator. -/
theorem case_last (ps : List Int) : (false = true ∧ ps.length = trimLen ps + 1 ∧ ps.getD (trimLen ps) 0 = 10 ∧ (0 < trimLen ps → ps.getD (trimLen ps - 1) 0 ≠ 13)) ∨ (false = true ∧ ps.length = trimLen ps + 2 ∧ ps.getD (trimLen ps) 0 = 13 ∧ ps.getD (trimLen ps + 1) 0 = 10) ∨
      (false = false ∧ ps.length = trimLen ps ∧ (0 < trimLen ps → ps.getD (trimLen ps - 1) 0 ≠ 13)) ∨ (false = false ∧ ps.length = trimLen ps + 1 ∧ ps.getD (trimLen ps) 0 = 13) := by
  cases h : cr ps with
  | true =>
    have ht : trimLen ps = ps.length - 1 := by simp [trimLen, h]
    simp only [cr, decide_eq_true_eq] at h
    exact .inr (.inr (.inr ⟨rfl, by omega, by rw [ht]; exact h.2⟩))
  | false =>
    have ht : trimLen ps = ps.length := by simp [trimLen, h]
    simp only [cr, decide_eq_false_iff_not, not_and] at h
    exact .inr (.inr (.inl ⟨rfl, by omega, fun h0 => by rw [ht]; exact h (by omega)⟩))
/-- A line that a break ends. -/
theorem case_line (ys : List Int) (j m : Nat) (hj : j < ys.length) (h1 : ys.getD j 0 = 10) (hm : m = trimLen (ys.take j)) :
    (true = true ∧ j + 1 = m + 1 ∧ (ys.take (j + 1)).getD m 0 = 10 ∧ (0 < m → (ys.take (j + 1)).getD (m - 1) 0 ≠ 13)) ∨ (true = true ∧ j + 1 = m + 2 ∧ (ys.take (j + 1)).getD m 0 = 13 ∧ (ys.take (j + 1)).getD (m + 1) 0 = 10) ∨
      (true = false ∧ j + 1 = m ∧ (0 < m → (ys.take (j + 1)).getD (m - 1) 0 ≠ 13)) ∨ (true = false ∧ j + 1 = m + 1 ∧ (ys.take (j + 1)).getD m 0 = 13) := by
  have hl : (ys.take j).length = j := by simp; omega
  cases h : cr (ys.take j) with
  | true =>
    have ht : m = j - 1 := by rw [hm]; simp [trimLen, h, hl]
    simp only [cr, decide_eq_true_eq, hl] at h
    obtain ⟨h0, h2⟩ := h
    rw [getD_take _ _ _ (by omega)] at h2
    refine .inr (.inl ⟨rfl, by omega, ?_, ?_⟩)
    · rw [getD_take _ _ _ (by omega), ht]; exact h2
    · rw [getD_take _ _ _ (by omega), show m + 1 = j by omega]; exact h1
  | false =>
    have ht : m = j := by rw [hm]; simp [trimLen, h, hl]
    simp only [cr, decide_eq_false_iff_not, not_and, hl] at h
    refine .inl ⟨rfl, by omega, ?_, fun h0 => ?_⟩
    · rw [getD_take _ _ _ (by omega), ht]; exact h1
    · have := h (by omega)
      rw [getD_take _ _ _ (by omega)] at this
      rw [getD_take _ _ _ (by omega), ht]; exact this

set_option maxHeartbeats 4000000 in
set_option maxRecDepth 100000 in
/-- The walk: the law returns true and turns nothing that was there. -/
theorem walkCovers (a0 : Option Addr) (len0 cap0 : Nat) (z0 : List Int) (a1 : Int) (a2 : Bool) (w : World) (w0 : IsRow .u8 w a0 len0 cap0 z0) (w1 : (Lit.int .i64 a1).wf = true) :
    Calls Try.prog 6 #[.slice a0 len0 cap0, .int .i64 a1, .bool a2] w fun e w' => e = .returned (.bool true) ∧ Below w.heap.size w w' := by
  clear w1
  rcases Nat.lt_or_ge 1048576 len0 with hbig | hbig
  · have hbig' : (1048576 : Int) < (len0 : Int) := by omega
    clear w0
    go_enter Try.func6, Try.ntmps6
    go_wp2
    go_ret
    exact ⟨rfl, Below.refl _ _⟩
  have HC := clone_row a0 len0 cap0 z0 w w0 hbig
  have hbd : ((1048576 : Int) < (len0 : Int)) = False := by simp; omega
  clear w0
  go_enter Try.func6, Try.ntmps6
  go_wp2_with (first | (go_at_call 15; go_in) | fail)
  refine HC.mono ?_
  clear HC
  rintro e wa ⟨ao, c, rfl, hc, hba, hrow⟩
  have HA : Hid (Below w.heap.size w wa) := hba
  have HR : Hid (Row wa ao len0 (z0.take len0)) := hrow
  clear hba hrow
  generalize z0.take len0 = xs at *
  go_wp2_with fail
  go_loopw [7, 8] (fun i t wr => ∃ k : Nat, k ≤ len0 ∧ i = .int .i64 k ∧ t = .int .i64 (cnt (xs.take k)) ∧ Below w.heap.size w wr ∧ Row wr ao len0 xs) (fun i _ _ => len0 - (intOf i).toNat)
  case atStart => exact ⟨0, Nat.zero_le _, rfl, rfl, HA.out, HR.out⟩
  case round =>
    obtain ⟨k, hk, rfl, rfl, hbl, hrow⟩ := hrel
    have HW : Hid (Below w.heap.size w wr) := hbl
    have HRr : Hid (Row wr ao len0 xs) := hrow
    clear hbl hrow HA HR
    have hcl : cnt (xs.take k) ≤ 1048576 := by
      have := cnt_le (xs.take k)
      have : (xs.take k).length ≤ k := List.length_take_le _ _
      omega
    by_cases hlt : k < len0
    · go_wp2_with fail
      refine (zzLineAt len0 c k ao xs a1 a2 wr HRr.out hc hbig hk).mono ?_
      rintro e wb ⟨hb, hl⟩
      have HB : Hid (Below w.heap.size w wb) := HW.out.trans (hb.mono HW.out.size)
      have HRb : Hid (Row wb ao len0 xs) := HRr.out.below hb
      clear hb HW HRr
      rcases hl with ⟨h1, rfl, rfl⟩ | ⟨h1, rfl, bo, c', rfl, h3⟩ | ⟨j, h1, h2, h3, bo, c', rfl, h4⟩
      · have hcn := cnt_rest xs k h1
        have H18 := countNl ao len0 c xs wb HRb.out hbig
        rw [hcn] at H18
        obtain ⟨ro, hro⟩ : ∃ ro, ro = (if c = k then ao else ao.map fun x => x.add k) := ⟨_, rfl⟩
        have hsl := run_cut ao len0 c k hk
        rw [← hro] at hsl
        have hr := HRb.out.cutIf c k hc
        rw [← hro] at hr
        have H17 := hasNl_no ro (len0 - k) (c - k) (xs.drop k) wb hr (by omega) (fun j hj => h1 j (by have := hr.len; omega))
        have q22 := fun (w : World) => run_neq_slice_nil_any (P := Try.prog) w 22 5 none 0 0 0 0 Try.underlying22
        clear hr hro hcn h1
        generalize cnt (xs.take k) = m at *
        go_wp2_with (first | (go_at_call 17; refine H17.mono ?_; rintro e w' ⟨rfl, rfl⟩) | (go_at_call 18; refine H18.mono ?_; rintro e w' ⟨rfl, rfl⟩))
        go_ret
        exact ⟨rfl, HB.out⟩
      · have hcn := cnt_rest xs k h1
        have hall : xs.take len0 = xs := List.take_of_length_le (by have := HRb.out.len; omega)
        have HCN : Hid (cnt (xs.take len0) = cnt (xs.take k)) := by
          have : cnt (xs.take len0) = cnt (xs.take k) := by rw [hall]; exact hcn
          exact this
        obtain ⟨b, o, rfl, _⟩ := HRb.out.at (by omega)
        have hr := HRb.out.drop' k
        have hdl : (xs.drop k).length = len0 - k := hr.len
        have hcs := case_last (xs.drop k)
        rw [hdl] at hcs
        have htl := trimLen_le (xs.drop k)
        have H19 := splits b (o + k) (len0 - k) (c - k) (trimLen (xs.drop k)) c' bo (xs.drop k) false wb hr h3 (by omega) (by omega) (by omega) (fun j hj => h1 j (by omega)) hcs
        clear hr hdl hcs htl hcn hall h1 h3
        generalize trimLen (xs.drop k) = m at *
        have hck : ¬ c = k := by omega
        go_wp2_with (go_at_call 19; refine H19.mono ?_; rintro e w' ⟨rfl, q, rfl⟩)
        go_roundw
        case rel => exact ⟨len0, Nat.le_refl _, by go_num, by rw [HCN.out], Below.drewN' HB.out _, HRb.out.same (fun _ => by simp)⟩
        case measure => simp [intOf]; omega
      · have HCN : Hid (cnt (xs.take (k + j + 1)) = cnt (xs.take k) + 1) := cnt_line xs k j h1 h2 h3
        obtain ⟨b, o, rfl, _⟩ := HRb.out.at (by omega)
        have hr0 := HRb.out.drop' k
        have hdl : (xs.drop k).length = len0 - k := hr0.len
        have hjl : j + 1 ≤ len0 - k := by omega
        have hr := hr0.take (j + 1) hjl
        have htl := trimLen_le ((xs.drop k).take j)
        have hlt2 : ((xs.drop k).take j).length ≤ j := List.length_take_le _ _
        have hcs := case_line (xs.drop k) j _ h1 h2 rfl
        have h4' : Row wb bo (trimLen ((xs.drop k).take j)) (((xs.drop k).take (j + 1)).take (trimLen ((xs.drop k).take j))) := by
          rw [List.take_take, Nat.min_eq_left (by omega)]; exact h4
        have H19 := splits b (o + k) (j + 1) (c - k) (trimLen ((xs.drop k).take j)) c' bo ((xs.drop k).take (j + 1)) true wb hr h4' (by omega) (by omega) (by omega) (fun i hi => by rw [getD_take _ _ _ (by omega)]; exact h3 i (by omega)) hcs
        have hjk : k + j + 1 ≤ len0 := by omega
        clear hr hr0 hdl hcs htl hlt2 h1 h2 h3 h4 h4' hjl
        generalize trimLen ((xs.drop k).take j) = m at *
        have hck : ¬ c = k := by omega
        rw [show j + 1 = k + j + 1 - k by omega] at H19
        go_wp2_with (go_at_call 19; refine H19.mono ?_; rintro e w' ⟨rfl, q, rfl⟩)
        go_roundw
        case rel => exact ⟨k + j + 1, by omega, by go_num, by rw [HCN.out]; go_num, Below.drewN' HB.out _, HRb.out.same (fun _ => by simp)⟩
        case measure => simp [intOf]; omega
    · obtain rfl : k = len0 := by omega
      go_wp2_with fail
      refine (zzLineAt k c k ao xs a1 a2 wr HRr.out hc hbig hk).mono ?_
      rintro e wb ⟨hb, hl⟩
      have HB : Hid (Below w.heap.size w wb) := HW.out.trans (hb.mono HW.out.size)
      have HRb : Hid (Row wb ao k xs) := HRr.out.below hb
      clear hb HW
      have hnil : xs.drop k = [] := List.drop_of_length_le (by have := HRr.out.len; omega)
      have hall : xs.take k = xs := List.take_of_length_le (by have := HRr.out.len; omega)
      have H18 := countNl ao k c xs wb HRb.out hbig
      rw [← hall] at H18
      rw [hnil] at hl
      clear HRr hnil hall
      rcases hl with ⟨h1, rfl, rfl⟩ | ⟨h1, rfl, bo, c', rfl, h3⟩ | ⟨j, h1, h2, h3, bo, c', rfl, h4⟩
      · clear h1
        have q22 := fun (w : World) => Lib.run_eql_slice_nil (P := Try.prog) w 22 5 none 0 0 0 0 Try.underlying22
        generalize cnt (xs.take k) = m at *
        go_wp2_with (first | (go_at_call 18; refine H18.mono ?_; rintro e w' ⟨rfl, rfl⟩))
        go_ret
        exact ⟨rfl, HB.out⟩
      · clear h1 h3
        have ht : trimLen [] = 0 := rfl
        rw [ht]
        generalize cnt (xs.take k) = m at *
        go_wp2_with (first | (go_at_call 18; refine H18.mono ?_; rintro e w' ⟨rfl, rfl⟩))
        go_ret
        exact ⟨rfl, HB.out⟩
      · simp at h1
end Go.Proofs.Qxb6601475a
