/-
  Seat b6601475a: (*records).lineAt and ZZLineAt.
-/
import Derived.Test.Qxb6601475aTrim
import Derived.Deep.QuietTactic
import Derived.BigQuiet
namespace Go.Proofs.Qxb6601475a
open Go.RowKit
set_option linter.unusedVariables false

theorem Below.drewN' {B : Nat} {a w : World} (h : Below B a w) (n : Nat) : Below B a (w.drewN n) := h.trans ⟨rfl, rfl, rfl, Nat.le_refl _, fun _ _ => rfl⟩

/-- What lineAt hands back, the rest of the text being 'ys' (from i on; the text has n bytes). -/
def LineOf (ys : List Int) (n i : Nat) (last : Bool) (e : Ending) (w' : World) : Prop :=
  ((∀ j, j < ys.length → ys.getD j 0 ≠ 10) ∧ last = false ∧ e = .returned (.tuple #[.slice none 0 0, .int .i64 i, .bool false, .bool false])) ∨
  ((∀ j, j < ys.length → ys.getD j 0 ≠ 10) ∧ last = true ∧ ∃ bo c', e = .returned (.tuple #[.slice bo (trimLen ys) c', .int .i64 n, .bool false, .bool true]) ∧ Row w' bo (trimLen ys) (ys.take (trimLen ys))) ∨
  ∃ k, k < ys.length ∧ ys.getD k 0 = 10 ∧ (∀ j, j < k → ys.getD j 0 ≠ 10) ∧ ∃ bo c', e = .returned (.tuple #[.slice bo (trimLen (ys.take k)) c', .int .i64 (i + k + 1 : Nat), .bool true, .bool true]) ∧ Row w' bo (trimLen (ys.take k)) (ys.take (trimLen (ys.take k)))

set_option maxHeartbeats 1000000 in
theorem lineAt_core (R n c i rn rc : Nat) (ao ro : Option Addr) (ys : List Int) (last : Bool) (w : World) (hR0 : w.cell? ⟨R, 0, none⟩ = some (.slice ao n c)) (hR2 : w.cell? ⟨R, 2, none⟩ = some (.bool last))
    (hsl : ∀ w, (Instr.slice 22 (.slice ao n c) (some (.int .i64 i)) none none).run Try.prog w = .ok (.slice ro rn rc) w) (hrow : Row w ro rn ys) (hrc : rn ≤ rc)
    (hn : n ≤ 1048576) (hi : i ≤ n) (hrn : rn + i ≤ n) :
    Calls Try.prog 23 #[.pointer (some ⟨R, 0, none⟩), .int .i64 i] w fun e w' => Below w.heap.size w w' ∧ LineOf ys n i last e w' := by
  have hRl := cell_lt hR0
  have hyl := hrow.len
  have HR : Hid (Row w ro rn ys) := hrow
  have HY : Hid (ys.length = rn) := hyl
  clear hrow hyl
  have hz := fun (w : World) (o : Obj) => (Below.refl w.heap.size w).alloc (Nat.le_refl _) o
  have HZ : Hid (∀ (w : World) (o : Obj), Below w.heap.size w (w.alloc o)) := hz
  clear hz
  cases last with
  | false =>
    go_enter Try.func23, Try.ntmps23
    go_wp2_with fail
    refine (index_row _ _ _ ys 10 _ HR.out (by omega)).mono ?_
    rintro e w' ⟨rfl, ⟨rfl, hno⟩ | ⟨k, rfl, hk, hk10, hbef⟩⟩
    · have HN : Hid (∀ i, i < rn → ys.getD i 0 ≠ 10) := hno
      clear hno
      go_wp2
      exact bodyPost_ret (v := .tuple #[.slice none 0 0, .int .i64 i, .bool false, .bool false]) (by simp [results, Try.results23, go_sem]) rfl ⟨Below.refl _ _, .inl ⟨by rw [HY.out]; exact HN.out, rfl, rfl⟩⟩
    · have HK : Hid (ys.getD k 0 = 10 ∧ ∀ i, i < k → ys.getD i 0 ≠ 10) := ⟨hk10, hbef⟩
      clear hk10 hbef
      have hr1 : Row (w.alloc (.cells #[.int .u8 13] 5)) ro k (ys.take k) := (HR.out.take k (by omega)).below (HZ.out _ _)
      have hcB : (w.alloc (.cells #[.int .u8 13] 5)).cell? ⟨w.heap.size, 0, none⟩ = some (.int .u8 13) := by simp
      have HT := trim_cr ro k rc w.heap.size _ _ hr1 (by omega) (by omega) hcB
      have htl := trimLen_le (ys.take k)
      have hr2 : Hid (Row (w.alloc (.cells #[.int .u8 13] 5)) ro (trimLen (ys.take k)) ((ys.take k).take (trimLen (ys.take k)))) := hr1.take _ (by have := hr1.len; omega)
      have hln : Hid ((ys.take k).length = k) := hr1.len
      clear hr1 hcB htl
      go_wp2_with (go_at_call 26; refine HT.mono ?_; rintro e w' ⟨rfl, rfl⟩)
      refine bodyPost_ret (v := .tuple #[.slice ro (trimLen (ys.take k)) rc, .int .i64 (i + k + 1 : Nat), .bool true, .bool true]) (by simp [results, Try.results23, go_sem]) rfl ⟨HZ.out _ _, .inr (.inr ⟨k, by rw [HY.out]; exact hk, HK.out.1, HK.out.2, ro, rc, rfl, ?_⟩)⟩
      have h2 := hr2.out
      rw [List.take_take, Nat.min_eq_left (by have := trimLen_le (ys.take k); have := hln.out; omega)] at h2
      exact h2
  | true =>
    go_enter Try.func23, Try.ntmps23
    go_wp2_with fail
    refine (index_row _ _ _ ys 10 _ HR.out (by omega)).mono ?_
    rintro e w' ⟨rfl, ⟨rfl, hno⟩ | ⟨k, rfl, hk, hk10, hbef⟩⟩
    · have HN : Hid (∀ i, i < rn → ys.getD i 0 ≠ 10) := hno
      clear hno
      have hr1 : Row (w.alloc (.cells #[.int .u8 13] 5)) ro rn ys := HR.out.below (HZ.out _ _)
      have hcB : (w.alloc (.cells #[.int .u8 13] 5)).cell? ⟨w.heap.size, 0, none⟩ = some (.int .u8 13) := by simp
      have HT := trim_cr ro rn rc w.heap.size _ _ hr1 (by omega) (by omega) hcB
      have htl := trimLen_le ys
      have hr2 : Hid (Row (w.alloc (.cells #[.int .u8 13] 5)) ro (trimLen ys) (ys.take (trimLen ys))) := hr1.take _ (by have := hr1.len; omega)
      clear hr1 hcB htl
      go_wp2_with (go_at_call 26; refine HT.mono ?_; rintro e w' ⟨rfl, rfl⟩)
      have hR0' : (w.alloc (.cells #[.int .u8 13] 5)).cell? ⟨R, 0, none⟩ = some (.slice ao n c) := ((HZ.out w _).cell hRl).trans hR0
      go_quiet (fail)
      go_wp2
      refine bodyPost_ret (v := .tuple #[.slice ro (trimLen ys) rc, .int .i64 n, .bool false, .bool true]) (by simp [results, Try.results23, go_sem]) rfl ⟨Below.drewN' (HZ.out _ _) _, .inr (.inl ⟨by rw [HY.out]; exact HN.out, rfl, ro, rc, rfl, ?_⟩)⟩
      exact hr2.out.same (fun _ => by simp)
    · have HK : Hid (ys.getD k 0 = 10 ∧ ∀ i, i < k → ys.getD i 0 ≠ 10) := ⟨hk10, hbef⟩
      clear hk10 hbef
      have hr1 : Row (w.alloc (.cells #[.int .u8 13] 5)) ro k (ys.take k) := (HR.out.take k (by omega)).below (HZ.out _ _)
      have hcB : (w.alloc (.cells #[.int .u8 13] 5)).cell? ⟨w.heap.size, 0, none⟩ = some (.int .u8 13) := by simp
      have HT := trim_cr ro k rc w.heap.size _ _ hr1 (by omega) (by omega) hcB
      have htl := trimLen_le (ys.take k)
      have hr2 : Hid (Row (w.alloc (.cells #[.int .u8 13] 5)) ro (trimLen (ys.take k)) ((ys.take k).take (trimLen (ys.take k)))) := hr1.take _ (by have := hr1.len; omega)
      have hln : Hid ((ys.take k).length = k) := hr1.len
      clear hr1 hcB htl
      go_wp2_with (go_at_call 26; refine HT.mono ?_; rintro e w' ⟨rfl, rfl⟩)
      refine bodyPost_ret (v := .tuple #[.slice ro (trimLen (ys.take k)) rc, .int .i64 (i + k + 1 : Nat), .bool true, .bool true]) (by simp [results, Try.results23, go_sem]) rfl ⟨HZ.out _ _, .inr (.inr ⟨k, by rw [HY.out]; exact hk, HK.out.1, HK.out.2, ro, rc, rfl, ?_⟩)⟩
      have h2 := hr2.out
      rw [List.take_take, Nat.min_eq_left (by have := trimLen_le (ys.take k); have := hln.out; omega)] at h2
      exact h2

/-- What the cut 'text[i:]' of a row gives. -/
theorem run_cut (ao : Option Addr) (n c i : Nat) (hi : i ≤ n) (w : World) :
    (Instr.slice 22 (.slice ao n c) (some (.int .i64 i)) none none).run Try.prog w = .ok (.slice (if c = i then ao else ao.map fun x => x.add i) (n - i) (c - i)) w := by
  have h0 : (i : Int) ≤ n := by omega
  by_cases hci : c = i
  · go_simp
  · go_simp

set_option maxHeartbeats 1000000 in
theorem zzLineAt (n c i : Nat) (ao : Option Addr) (xs : List Int) (line : Int) (last : Bool) (w : World) (hrow : Row w ao n xs) (hnc : n ≤ c) (hn : n ≤ 1048576) (hi : i ≤ n) :
    Calls Try.prog 16 #[.slice ao n c, .int .i64 line, .bool last, .int .i64 i] w fun e w' => Below w.heap.size w w' ∧ LineOf (xs.drop i) n i last e w' := by
  have hB := (Below.refl w.heap.size w).alloc (Nat.le_refl _) (.cells #[.slice ao n c, .int .i64 line, .bool last, .slice none 0 0, .slice none 0 0] 35)
  have hc0 : (w.alloc (.cells #[.slice ao n c, .int .i64 line, .bool last, .slice none 0 0, .slice none 0 0] 35)).cell? ⟨w.heap.size, 0, none⟩ = some (.slice ao n c) := by simp
  have hc2 : (w.alloc (.cells #[.slice ao n c, .int .i64 line, .bool last, .slice none 0 0, .slice none 0 0] 35)).cell? ⟨w.heap.size, 2, none⟩ = some (.bool last) := by simp
  have HC := lineAt_core w.heap.size n c i (n - i) (c - i) ao _ (xs.drop i) last _ hc0 hc2 (run_cut ao n c i hi) ((hrow.below hB).cutIf c i hnc) (by omega) hn hi (by omega)
  have HB : Hid (Below w.heap.size w (w.alloc (.cells #[.slice ao n c, .int .i64 line, .bool last, .slice none 0 0, .slice none 0 0] 35))) := hB
  clear hB hc0 hc2 hrow
  go_enter Try.func16, Try.ntmps16
  go_wp2_with fail
  refine HC.mono ?_
  clear HC
  rintro e w' ⟨hb, hl⟩
  have HB' : Hid (Below w.heap.size w w') := HB.out.trans (hb.mono (by simp))
  clear hb
  rcases hl with ⟨h1, h2, rfl⟩ | ⟨h1, h2, bo, c', rfl, h3⟩ | ⟨k, h1, h2, h3, bo, c', rfl, h4⟩
  · have HH : Hid (LineOf (xs.drop i) n i last (.returned (.tuple #[.slice none 0 0, .int .i64 i, .bool false, .bool false])) w') := .inl ⟨h1, h2, rfl⟩
    clear h1 h2
    go_wp2
    exact bodyPost_ret (v := .tuple #[.slice none 0 0, .int .i64 i, .bool false, .bool false]) (by simp [results, Try.results16, go_sem]) rfl ⟨HB'.out, HH.out⟩
  · have HH : Hid (LineOf (xs.drop i) n i last (.returned (.tuple #[.slice bo (trimLen (xs.drop i)) c', .int .i64 n, .bool false, .bool true])) w') := .inr (.inl ⟨h1, h2, bo, c', rfl, h3⟩)
    clear h1 h2 h3
    generalize trimLen (xs.drop i) = m at *
    go_wp2
    exact bodyPost_ret (v := .tuple #[.slice bo m c', .int .i64 n, .bool false, .bool true]) (by simp [results, Try.results16, go_sem]) rfl ⟨HB'.out, HH.out⟩
  · have HH : Hid (LineOf (xs.drop i) n i last (.returned (.tuple #[.slice bo (trimLen ((xs.drop i).take k)) c', .int .i64 (i + k + 1 : Nat), .bool true, .bool true])) w') := .inr (.inr ⟨k, h1, h2, h3, bo, c', rfl, h4⟩)
    clear h1 h2 h3 h4
    generalize trimLen ((xs.drop i).take k) = m at *
    generalize i + k + 1 = q at *
    go_wp2
    exact bodyPost_ret (v := .tuple #[.slice bo m c', .int .i64 q, .bool true, .bool true]) (by simp [results, Try.results16, go_sem]) rfl ⟨HB'.out, HH.out⟩
end Go.Proofs.Qxb6601475a
