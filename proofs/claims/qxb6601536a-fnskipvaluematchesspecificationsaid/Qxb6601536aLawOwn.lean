/-
  Seat b6601536a: the walk of FnSkipValueDependsOnlyOnItsOwnBytes.
-/
import Derived.Test.Qxb6601536aValue
import Derived.Test.Qxb6601536aCopy
namespace Go.Proofs.Qxb6601536a
open Go.RowKit
set_option linter.unusedVariables false

/-- skipValue answers where the value ends. -/
theorem skipValue (b o n c s : Nat) (xs : List Int) (w : World) (h : Row w (some ⟨b, o, none⟩) n xs) (hnc : n ≤ c) (hn : n ≤ 1048576) (hs : s < n) :
    Calls Try.prog 20 #[.slice (some ⟨b, o, none⟩) n c, .int .i64 s] w fun e w' => e = .returned (.int .i64 (valEnd xs s : Nat)) ∧ w = w' := by
  by_cases h34 : xs.getD s 0 = 34
  · exact value_quote b o n c s xs w h hnc hn hs h34
  · by_cases hop : xs.getD s 0 = 123 ∨ xs.getD s 0 = 91
    · exact value_open b o n c s xs w h hnc hn hs hop
    · exact value_scal b o n c s xs w h hn hs (fun ho => by rcases ho with e | e; exact h34 e; exact hop e)

/-- A row of the call's own, as a row. -/
theorem row_of_owns {w : World} {base g m cap : Nat} {L : List Int} (h : w.ownsRow base 5 1 (.slice (some ⟨g, 0, none⟩) m cap) m (L.map (Value.int .u8))) (hb : Bytes L) : Row w (some ⟨g, 0, none⟩) m L := by
  have hl : L.length = m := by have := h.1; simpa using this
  refine Row.mk' hl hb (fun i hi => ?_)
  rw [Nat.zero_add, h.cellAt i (by omega)]
  have hi2 : i < L.length := by omega
  simp only [List.getElem?_map, List.getElem?_eq_getElem hi2, Option.map_some, List.getD_eq_getElem?_getD, Option.getD_some]

theorem news_len (L : List Int) (m : Nat) (h : L.length = m) : (L.map (Value.int .u8)).length = m * 1 := by rw [List.length_map, h, Nat.mul_one]
theorem news_one (L : List Int) : ∀ u ∈ L.map (Value.int .u8), u.oneCell' = true := fun v hv => by
  obtain ⟨x, _, rfl⟩ := List.mem_map.1 hv
  rfl
/-- What is appended out of a row lies there. -/
theorem news_row {w : World} {b o m : Nat} {L : List Int} (h : Row w (some ⟨b, o, none⟩) m L) : ∀ ad, some (⟨b, o, none⟩ : Addr) = some ad → ∀ j u, (L.map (Value.int .u8))[j]? = some u → w.cell? (ad.add j) = some u := by
  intro ad had j u hu
  cases had
  have hj : j < L.length := by have := (List.getElem?_eq_some_iff.1 hu).1; simpa using this
  rw [addr_add, h.cells j (by have := h.len; omega)]
  rw [List.getElem?_map, List.getElem?_eq_getElem hj, Option.map_some] at hu
  rw [← hu]
  simp only [List.getD_eq_getElem?_getD, List.getElem?_eq_getElem hj, Option.getD_some]
/-- .. and out of a slice that came in. -/
theorem news_arg {w w' : World} {a : Option Addr} {n c : Nat} {zs : List Int} (h : IsRow .u8 w a n c zs) (hb : Below w.heap.size w w') : ∀ ad, a = some ad → ∀ j u, ((zs.take n).map (Value.int .u8))[j]? = some u → w'.cell? (ad.add j) = some u := by
  intro ad had j u hu
  subst had
  have hj : j < (zs.take n).length := by have := (List.getElem?_eq_some_iff.1 hu).1; simpa using this
  have hjn : j < n := by simp at hj; omega
  obtain ⟨hl, hm, b, o, rfl, hbl, hcs, hbs, hlen⟩ := h.at (by omega)
  rw [addr_add, hb.cell (by exact hbl), hcs j hjn]
  rw [List.getElem?_map, List.getElem?_eq_getElem hj, Option.map_some] at hu
  rw [← hu, ← getD_take _ _ _ hjn]
  simp only [List.getD_eq_getElem?_getD, List.getElem?_eq_getElem hj, Option.getD_some]
theorem arg_none {w : World} {a : Option Addr} {n c : Nat} {zs : List Int} (h : IsRow .u8 w a n c zs) : a = none → n = 0 ∧ c = 0 := by
  intro ha
  rcases h with ⟨_, h1, h2, _⟩ | ⟨x, hx, _⟩
  · exact ⟨h1, h2⟩
  · rw [ha] at hx; cases hx
theorem arg_len {w : World} {a : Option Addr} {n c : Nat} {zs : List Int} (h : IsRow .u8 w a n c zs) : (zs.take n).length = n ∧ Bytes (zs.take n) := by
  rcases h with ⟨_, h1, h2, h3⟩ | ⟨x, hx, hl, hm, hz, hc, hw⟩
  · subst h1 h3; exact ⟨rfl, fun _ h => by simp at h⟩
  · exact ⟨by simp; omega, (Bytes.of_wf hw).take n⟩

set_option maxHeartbeats 4000000 in
set_option maxRecDepth 100000 in
/-- The walk: the law returns true and turns nothing that was there. -/
theorem walkOwn (a0 : Option Addr) (len0 cap0 : Nat) (z0 : List Int) (a1 : Int) (a2 : Option Addr) (len2 cap2 : Nat) (z2 : List Int) (w : World) (w0 : IsRow .u8 w a0 len0 cap0 z0) (w1 : (Lit.int .i64 a1).wf = true) (w2 : IsRow .u8 w a2 len2 cap2 z2) :
    Calls Try.prog 6 #[.slice a0 len0 cap0, .int .i64 a1, .slice a2 len2 cap2] w fun e w' => e = .returned (.bool true) ∧ Below w.heap.size w w' := by
  clear w1
  rcases Nat.lt_or_ge 1048576 len0 with hbig | hbig
  · have hbig' : (1048576 : Int) < (len0 : Int) := by omega
    clear w0 w2
    go_enter Try.func6, Try.ntmps6
    go_wp2
    go_ret
    exact ⟨rfl, Below.refl _ _⟩
  rcases Nat.lt_or_ge 1048576 len2 with hbig2 | hbig2
  · have hbig' : (1048576 : Int) < (len2 : Int) := by omega
    clear w0 w2
    go_enter Try.func6, Try.ntmps6
    go_wp2
    go_ret
    exact ⟨rfl, Below.refl _ _⟩
  rcases Nat.lt_or_ge 1048576 (len0 + len2) with hsum | hsum
  · have hbig' : (1048576 : Int) < (len0 : Int) + (len2 : Int) := by omega
    clear w0 w2
    go_enter Try.func6, Try.ntmps6
    go_wp2
    go_ret
    exact ⟨rfl, Below.refl _ _⟩
  by_cases hneg : a1 < 0
  · clear w0 w2
    go_enter Try.func6, Try.ntmps6
    go_wp2
    go_ret
    exact ⟨rfl, Below.refl _ _⟩
  by_cases hgt : (len0 : Int) ≤ a1
  · clear w0 w2
    go_enter Try.func6, Try.ntmps6
    go_wp2
    go_ret
    exact ⟨rfl, Below.refl _ _⟩
  obtain ⟨s, rfl⟩ : ∃ i : Nat, a1 = i := ⟨a1.toNat, by omega⟩
  have hs : s < len0 := by omega
  obtain ⟨x, rfl⟩ : ∃ x, a0 = some x := by
    rcases w0 with ⟨_, h, _⟩ | ⟨x, h, _⟩
    · omega
    · exact ⟨x, h⟩
  obtain ⟨hl, hm, b, o, rfl, hb, hcs, hbs, hlen⟩ := w0.at (by omega)
  have HA : Hid (IsRow .u8 w a2 len2 cap2 z2) := w2
  clear w0 hm w2
  obtain ⟨i0, hi, hz0, hz1, hz2⟩ := info_parts info5
  have q22 := fun (w : World) => run_neq_slice_nil_any (P := Try.prog) w 22 5 (some ⟨b, o, none⟩) len0 cap0 0 0 Try.underlying22
  go_enter Try.func6, Try.ntmps6
  go_wp2_with (first | (go_at_call 17; go_in) | (at_make; refine wpList_make_full _ rfl _ _ 22 rfl w.heap.size 5 i0 (.int .u8 0) 1 Try.underlying22 hi hz0 hz1 _ _ _ _ len0 rfl rfl rfl rfl (by rw [hz2]; omega) (by unfold maxLen; omega) (Nat.le_refl _) ?_; intro w1 hown hgrow))
  obtain ⟨w2, hcopy, hb2, hrow⟩ := copy_run w w1 b o len0 cap0 z0 _ hb hcs hbs hlen hown hgrow
  rw [hcopy]
  have HB : Hid (Below w.heap.size w w2) := hb2
  generalize z0.take len0 = xs at *
  have HR : Hid (Row w2 (some ⟨w.heap.size, 0, none⟩) len0 xs) := hrow
  have HL : Hid (xs.length = len0) := hrow.len
  have HS := skipValue w.heap.size 0 len0 len0 s xs w2 hrow (Nat.le_refl _) hbig hs
  have hbd := valEnd_bounds xs s (by have := HL.out; omega)
  rw [HL.out] at hbd
  have HST : Hid (valEnd xs s = s → ends (xs.getD s 0) = true) := valEnd_stay xs s (by have := HL.out; omega)
  have HTK : Hid (s < valEnd xs s → valEnd (xs.take (valEnd xs s)) s = valEnd xs s) := valEnd_take xs s (by have := HL.out; omega)
  have HTL : Hid (∀ t, opens (xs.getD s 0) → s < valEnd xs s → valEnd xs s < len0 → valEnd (xs.take (valEnd xs s) ++ t) s = valEnd xs s) := fun t h1 h2 h3 => valEnd_tail xs t s (by have := HL.out; omega) h1 h2 (by have := HL.out; omega)
  have hc := hrow.cells s hs
  rw [Nat.zero_add] at hc
  clear hcopy hb2 hrow hown hgrow hcs hbs q22 hlen
  generalize valEnd xs s = R at *
  obtain ⟨hsR, hRn⟩ := hbd
  simp only [Result.andThen]
  rw [Oper.upon_value]
  by_cases hRs : R = s
  · subst hRs
    have hE := endsScalar (xs.getD R 0) w2
    rw [HST.out rfl] at hE
    clear HST HTK HTL
    generalize xs.getD R 0 = x at *
    go_wp2_with (first | (go_at_call 14; go_in) | (go_at_call 20; refine HS.mono ?_; rintro e w' ⟨rfl, rfl⟩) | (go_at_call 16; refine hE.mono ?_; rintro e w' ⟨rfl, rfl⟩))
    go_ret
    exact ⟨rfl, HB.out⟩
  have hRs' : s < R := by omega
  have hRe : ((R : Int) == (s : Int)) = false := by simp; omega
  have HS2 := skipValue w.heap.size 0 R len0 s (xs.take R) w2 (HR.out.take R hRn) (by omega) (by omega) hRs'
  rw [HTK.out hRs'] at HS2
  clear HST HTK hRs
  go_wp2_with (go_at_call 14; go_in)
  refine HS.mono ?_
  rintro e w' ⟨rfl, rfl⟩
  clear HS
  go_wp2_with (go_at_call 14; go_in)
  refine HS2.mono ?_
  rintro e w' ⟨rfl, rfl⟩
  clear HS2
  rcases (show xs.getD s 0 = 34 ∨ xs.getD s 0 = 123 ∨ xs.getD s 0 = 91 ∨ (xs.getD s 0 ≠ 34 ∧ xs.getD s 0 ≠ 123 ∧ xs.getD s 0 ≠ 91) by omega) with hx | hx | hx | ⟨h1, h2, h3⟩
  · have HTL' : Hid (∀ t, R < len0 → valEnd (xs.take R ++ t) s = R) := fun t h => HTL.out t (.inl hx) hRs' h
    rw [hx] at hc
    clear hx HTL
    rcases Nat.eq_or_lt_of_le hRn with rfl | hlt
    · go_wp2
      go_ret
      exact ⟨rfl, HB.out⟩
    · have hne : ((R : Int) == (len0 : Int)) = false := by simp; omega
      have HR1 : Hid (Row w2 (some ⟨w.heap.size, 0, none⟩) R (xs.take R)) := HR.out.take R hRn
      have hal : Hid ((z2.take len2).length = len2 ∧ Bytes (z2.take len2)) := arg_len HA.out
      obtain ⟨Y, hY⟩ : ∃ Y, Y = xs.take R := ⟨_, rfl⟩
      obtain ⟨Z, hZ⟩ : ∃ Z, Z = z2.take len2 := ⟨_, rfl⟩
      have HNA : Hid (∀ w', Below w.heap.size w w' → ∀ ad, a2 = some ad → ∀ j u, (Z.map (Value.int .u8))[j]? = some u → w'.cell? (ad.add j) = some u) := fun w' h => by rw [hZ]; exact news_arg HA.out h
      have HNN : Hid (a2 = none → len2 = 0 ∧ cap2 = 0) := arg_none HA.out
      have HTT : Hid (valEnd (Y ++ Z) s = R) := by rw [hY]; exact HTL'.out Z hlt
      rw [← hY] at HR1
      rw [← hZ] at hal
      clear hY hZ HTL' HA HR
      go_wp2_with (first
        | (at_make; refine wpList_make_own _ rfl _ _ 22 rfl w2.heap.size 5 i0 (.int .u8 0) 1 Try.underlying22 hi hz0 hz1 _ _ _ (R + len2) rfl rfl (by omega) (by rw [hz2]; omega) (by unfold maxLen; omega) (Nat.le_refl _) ?_; intro w3 hown3 hgrow3; have HB3 : Hid (Below w2.heap.size w2 w3) := (Below.refl _ _).grown hgrow3 (Nat.le_refl _) (by intro k hk; cases hk); have HR3 : Hid (Row w3 (some ⟨w.heap.size, 0, none⟩) R Y) := HR1.out.below HB3.out; clear hgrow3)
        | (at_builtin; refine wpList_append_fits_any _ rfl (.tmp 97) (.tmp 100) 22 rfl w2.heap.size 5 i0 1 Try.underlying22 hi hz1 w2.heap.size 0 (R + len2) [] rfl hown3 _ R _ (Y.map (Value.int .u8)) rfl (news_len Y R HR3.out.len) (by intro h; cases h) (news_row HR3.out) (news_one _) (by omega) ?_; intro w4 hown4 hgrow4; simp only [Nat.zero_add, List.nil_append] at hown4; have HB4 : Hid (Below w.heap.size w w4) := ((HB.out.trans (HB3.out.mono HB.out.size)).grown hgrow4 (by have := HB.out.size; have := HB3.out.size; omega) (by intro k hk; cases hk; exact HB.out.size)); clear hgrow4 hown3)
        | (at_builtin; refine wpList_append_fits_any _ rfl (.tmp 102) (.tmp 103) 22 rfl w2.heap.size 5 i0 1 Try.underlying22 hi hz1 w2.heap.size R (R + len2) (Y.map (Value.int .u8)) rfl hown4 _ len2 _ (Z.map (Value.int .u8)) rfl (news_len Z len2 hal.out.1) HNN.out (HNA.out _ HB4.out) (news_one _) (by omega) ?_; intro w5 hown5 hgrow5; rw [← List.map_append] at hown5; have HB5 : Hid (Below w.heap.size w w5) := (HB4.out.grown hgrow5 (HB4.out.size) (by intro k hk; cases hk; exact HB.out.size)); have HR5 : Hid (Row w5 (some ⟨w2.heap.size, 0, none⟩) (R + len2) (Y ++ Z)) := row_of_owns hown5 (fun v hv => by rcases List.mem_append.1 hv with h | h; exact HR1.out.bytes v h; exact hal.out.2 v h); clear hgrow5 hown5 hown4)
        | (go_at_call 14; go_in))
      have HS3 := skipValue w2.heap.size 0 (R + len2) (R + len2) s (Y ++ Z) w5 HR5.out (Nat.le_refl _) (by omega) (by omega)
      rw [HTT.out] at HS3
      refine HS3.mono ?_
      rintro e w' ⟨rfl, rfl⟩
      go_wp2
      go_ret
      exact ⟨rfl, HB5.out⟩
  · have HTL' : Hid (∀ t, R < len0 → valEnd (xs.take R ++ t) s = R) := fun t h => HTL.out t (.inr (.inl hx)) hRs' h
    rw [hx] at hc
    clear hx HTL
    rcases Nat.eq_or_lt_of_le hRn with rfl | hlt
    · go_wp2
      go_ret
      exact ⟨rfl, HB.out⟩
    · have hne : ((R : Int) == (len0 : Int)) = false := by simp; omega
      have HR1 : Hid (Row w2 (some ⟨w.heap.size, 0, none⟩) R (xs.take R)) := HR.out.take R hRn
      have hal : Hid ((z2.take len2).length = len2 ∧ Bytes (z2.take len2)) := arg_len HA.out
      obtain ⟨Y, hY⟩ : ∃ Y, Y = xs.take R := ⟨_, rfl⟩
      obtain ⟨Z, hZ⟩ : ∃ Z, Z = z2.take len2 := ⟨_, rfl⟩
      have HNA : Hid (∀ w', Below w.heap.size w w' → ∀ ad, a2 = some ad → ∀ j u, (Z.map (Value.int .u8))[j]? = some u → w'.cell? (ad.add j) = some u) := fun w' h => by rw [hZ]; exact news_arg HA.out h
      have HNN : Hid (a2 = none → len2 = 0 ∧ cap2 = 0) := arg_none HA.out
      have HTT : Hid (valEnd (Y ++ Z) s = R) := by rw [hY]; exact HTL'.out Z hlt
      rw [← hY] at HR1
      rw [← hZ] at hal
      clear hY hZ HTL' HA HR
      go_wp2_with (first
        | (at_make; refine wpList_make_own _ rfl _ _ 22 rfl w2.heap.size 5 i0 (.int .u8 0) 1 Try.underlying22 hi hz0 hz1 _ _ _ (R + len2) rfl rfl (by omega) (by rw [hz2]; omega) (by unfold maxLen; omega) (Nat.le_refl _) ?_; intro w3 hown3 hgrow3; have HB3 : Hid (Below w2.heap.size w2 w3) := (Below.refl _ _).grown hgrow3 (Nat.le_refl _) (by intro k hk; cases hk); have HR3 : Hid (Row w3 (some ⟨w.heap.size, 0, none⟩) R Y) := HR1.out.below HB3.out; clear hgrow3)
        | (at_builtin; refine wpList_append_fits_any _ rfl (.tmp 97) (.tmp 100) 22 rfl w2.heap.size 5 i0 1 Try.underlying22 hi hz1 w2.heap.size 0 (R + len2) [] rfl hown3 _ R _ (Y.map (Value.int .u8)) rfl (news_len Y R HR3.out.len) (by intro h; cases h) (news_row HR3.out) (news_one _) (by omega) ?_; intro w4 hown4 hgrow4; simp only [Nat.zero_add, List.nil_append] at hown4; have HB4 : Hid (Below w.heap.size w w4) := ((HB.out.trans (HB3.out.mono HB.out.size)).grown hgrow4 (by have := HB.out.size; have := HB3.out.size; omega) (by intro k hk; cases hk; exact HB.out.size)); clear hgrow4 hown3)
        | (at_builtin; refine wpList_append_fits_any _ rfl (.tmp 102) (.tmp 103) 22 rfl w2.heap.size 5 i0 1 Try.underlying22 hi hz1 w2.heap.size R (R + len2) (Y.map (Value.int .u8)) rfl hown4 _ len2 _ (Z.map (Value.int .u8)) rfl (news_len Z len2 hal.out.1) HNN.out (HNA.out _ HB4.out) (news_one _) (by omega) ?_; intro w5 hown5 hgrow5; rw [← List.map_append] at hown5; have HB5 : Hid (Below w.heap.size w w5) := (HB4.out.grown hgrow5 (HB4.out.size) (by intro k hk; cases hk; exact HB.out.size)); have HR5 : Hid (Row w5 (some ⟨w2.heap.size, 0, none⟩) (R + len2) (Y ++ Z)) := row_of_owns hown5 (fun v hv => by rcases List.mem_append.1 hv with h | h; exact HR1.out.bytes v h; exact hal.out.2 v h); clear hgrow5 hown5 hown4)
        | (go_at_call 14; go_in))
      have HS3 := skipValue w2.heap.size 0 (R + len2) (R + len2) s (Y ++ Z) w5 HR5.out (Nat.le_refl _) (by omega) (by omega)
      rw [HTT.out] at HS3
      refine HS3.mono ?_
      rintro e w' ⟨rfl, rfl⟩
      go_wp2
      go_ret
      exact ⟨rfl, HB5.out⟩
  · have HTL' : Hid (∀ t, R < len0 → valEnd (xs.take R ++ t) s = R) := fun t h => HTL.out t (.inr (.inr hx)) hRs' h
    rw [hx] at hc
    clear hx HTL
    rcases Nat.eq_or_lt_of_le hRn with rfl | hlt
    · go_wp2
      go_ret
      exact ⟨rfl, HB.out⟩
    · have hne : ((R : Int) == (len0 : Int)) = false := by simp; omega
      have HR1 : Hid (Row w2 (some ⟨w.heap.size, 0, none⟩) R (xs.take R)) := HR.out.take R hRn
      have hal : Hid ((z2.take len2).length = len2 ∧ Bytes (z2.take len2)) := arg_len HA.out
      obtain ⟨Y, hY⟩ : ∃ Y, Y = xs.take R := ⟨_, rfl⟩
      obtain ⟨Z, hZ⟩ : ∃ Z, Z = z2.take len2 := ⟨_, rfl⟩
      have HNA : Hid (∀ w', Below w.heap.size w w' → ∀ ad, a2 = some ad → ∀ j u, (Z.map (Value.int .u8))[j]? = some u → w'.cell? (ad.add j) = some u) := fun w' h => by rw [hZ]; exact news_arg HA.out h
      have HNN : Hid (a2 = none → len2 = 0 ∧ cap2 = 0) := arg_none HA.out
      have HTT : Hid (valEnd (Y ++ Z) s = R) := by rw [hY]; exact HTL'.out Z hlt
      rw [← hY] at HR1
      rw [← hZ] at hal
      clear hY hZ HTL' HA HR
      go_wp2_with (first
        | (at_make; refine wpList_make_own _ rfl _ _ 22 rfl w2.heap.size 5 i0 (.int .u8 0) 1 Try.underlying22 hi hz0 hz1 _ _ _ (R + len2) rfl rfl (by omega) (by rw [hz2]; omega) (by unfold maxLen; omega) (Nat.le_refl _) ?_; intro w3 hown3 hgrow3; have HB3 : Hid (Below w2.heap.size w2 w3) := (Below.refl _ _).grown hgrow3 (Nat.le_refl _) (by intro k hk; cases hk); have HR3 : Hid (Row w3 (some ⟨w.heap.size, 0, none⟩) R Y) := HR1.out.below HB3.out; clear hgrow3)
        | (at_builtin; refine wpList_append_fits_any _ rfl (.tmp 97) (.tmp 100) 22 rfl w2.heap.size 5 i0 1 Try.underlying22 hi hz1 w2.heap.size 0 (R + len2) [] rfl hown3 _ R _ (Y.map (Value.int .u8)) rfl (news_len Y R HR3.out.len) (by intro h; cases h) (news_row HR3.out) (news_one _) (by omega) ?_; intro w4 hown4 hgrow4; simp only [Nat.zero_add, List.nil_append] at hown4; have HB4 : Hid (Below w.heap.size w w4) := ((HB.out.trans (HB3.out.mono HB.out.size)).grown hgrow4 (by have := HB.out.size; have := HB3.out.size; omega) (by intro k hk; cases hk; exact HB.out.size)); clear hgrow4 hown3)
        | (at_builtin; refine wpList_append_fits_any _ rfl (.tmp 102) (.tmp 103) 22 rfl w2.heap.size 5 i0 1 Try.underlying22 hi hz1 w2.heap.size R (R + len2) (Y.map (Value.int .u8)) rfl hown4 _ len2 _ (Z.map (Value.int .u8)) rfl (news_len Z len2 hal.out.1) HNN.out (HNA.out _ HB4.out) (news_one _) (by omega) ?_; intro w5 hown5 hgrow5; rw [← List.map_append] at hown5; have HB5 : Hid (Below w.heap.size w w5) := (HB4.out.grown hgrow5 (HB4.out.size) (by intro k hk; cases hk; exact HB.out.size)); have HR5 : Hid (Row w5 (some ⟨w2.heap.size, 0, none⟩) (R + len2) (Y ++ Z)) := row_of_owns hown5 (fun v hv => by rcases List.mem_append.1 hv with h | h; exact HR1.out.bytes v h; exact hal.out.2 v h); clear hgrow5 hown5 hown4)
        | (go_at_call 14; go_in))
      have HS3 := skipValue w2.heap.size 0 (R + len2) (R + len2) s (Y ++ Z) w5 HR5.out (Nat.le_refl _) (by omega) (by omega)
      rw [HTT.out] at HS3
      refine HS3.mono ?_
      rintro e w' ⟨rfl, rfl⟩
      go_wp2
      go_ret
      exact ⟨rfl, HB5.out⟩
  · have g1 : (xs.getD s 0 != 34) = true := by simpa using h1
    have g2 : (xs.getD s 0 != 123) = true := by simpa using h2
    have g3 : (xs.getD s 0 != 91) = true := by simpa using h3
    clear h1 h2 h3 HTL
    generalize xs.getD s 0 = x at *
    go_wp2
    go_ret
    exact ⟨rfl, HB.out⟩

end Go.Proofs.Qxb6601536a
