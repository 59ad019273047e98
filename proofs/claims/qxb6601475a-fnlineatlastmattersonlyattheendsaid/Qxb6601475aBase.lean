/-
  Seat b6601475a: contracts of the small functions: cloneBytes, bytes.IndexByte at a row.
-/
import Derived.Test.Qxb6601475aProg
import Derived.Test.Qxb6601475aKit
import Derived.Laws.BytesArg
namespace Go.Proofs.Qxb6601475a
open Go.RowKit
set_option linter.unusedVariables false

theorem info5 : (Try.prog.info? 5).map (fun i => (i.zero, i.size, i.bytes)) = some (some (.int .u8 0), 1, 1) := by kernel_rfl

set_option maxHeartbeats 1000000 in
theorem clone_some (b off n c : Nat) (zs : List Int) (w : World) (hn : n ≤ 1048576) (hl : n ≤ c)
    (hcell : ∀ i, i < n → w.cell? ⟨b, off + i, none⟩ = some (.int .u8 (zs.getD i 0))) (hb : b < w.heap.size) :
    Calls Try.prog 9 #[.slice (some ⟨b, off, none⟩) n c] w fun e w' => e = .returned (.slice (some ⟨w.heap.size, 0, none⟩) n n) ∧ Below w.heap.size w w' ∧ w.heap.size < w'.heap.size ∧ (∀ i, i < n → w'.cell? ⟨w.heap.size, i, none⟩ = some (.int .u8 (zs.getD i 0))) := by
  obtain ⟨i0, hi, hz0, hz1, hz2⟩ := info_parts info5
  have q22 := fun (w : World) => Lib.run_eql_slice_nil (P := Try.prog) w 22 5 (some ⟨b, off, none⟩) n c 0 0 Try.underlying22
  go_enter Try.func9, Try.ntmps9
  go_wp2_with (at_make; refine wpList_make_full _ rfl _ _ 22 rfl w.heap.size 5 i0 (.int .u8 0) 1 Try.underlying22 hi hz0 hz1 _ _ _ _ n rfl rfl rfl rfl (by rw [hz2]; omega) (by unfold maxLen; omega) (Nat.le_refl _) ?_; intro w1 hown hgrow)
  have hsz : w.heap.size < w1.heap.size := by
    rcases hown.2 with ⟨h', _⟩ | ⟨g', cap', cur, h', _, hg, _⟩
    · simp at h'
    · simp only [Value.slice.injEq, Option.some.injEq, Addr.mk.injEq, and_true, true_and] at h'
      obtain ⟨rfl, rfl⟩ := h'
      exact (Array.getElem?_eq_some_iff.1 hg).1
  have hb1 : Below w.heap.size w w1 := (Below.refl _ _).grown hgrow (Nat.le_refl _) (by intro k hk; cases hk)
  rw [show (madeCells (Value.int .u8 0).cells (n * 1)).toList = part zs n 0 by rw [part_zero, Nat.mul_one]; exact toList_madeCells_one _ _] at hown
  clear hgrow q22
  go_loopw [4] (fun i wr => ∃ k : Nat, k ≤ n ∧ i = .int .i64 k ∧ wr.ownsRow w.heap.size 5 1 (.slice (some ⟨w.heap.size, 0, none⟩) n n) n (part zs n k) ∧ Below w.heap.size w wr ∧ w.heap.size < wr.heap.size)
    (fun i _ => n - (intOf i).toNat)
  case atStart => exact ⟨0, Nat.zero_le _, rfl, hown, hb1, hsz⟩
  case round =>
    obtain ⟨k, hk, rfl, ho, hbl, hs⟩ := hrel
    clear hown hb1 hsz
    by_cases hlt : k < n
    · have hcx : wr.cell? ⟨b, off + k, none⟩ = some (.int .u8 (zs.getD k 0)) := (hbl.cell (by exact hb)).trans (hcell k hlt)
      obtain ⟨v0, hv0⟩ := part_get0 zs n k hlt
      have hcy : wr.cell? ⟨w.heap.size, k, none⟩ = some (.int .u8 v0) := by rw [ho.cellAt k (by omega), hv0]
      have hfy : wr.frozen? ⟨w.heap.size, k, none⟩ = false := ho.frozenAt k
      go_wp2
      go_roundw
      case rel =>
        refine ⟨k + 1, by omega, by go_num, ?_, hbl.setCell (by simp) _, by simpa [World.setCell] using hs⟩
        have := (ho.stored k (.int .u8 (zs.getD k 0))).1
        rw [part_set] at this
        simpa using this
      case measure => simp [intOf]; omega
    · have hkn : k = n := by omega
      subst hkn
      go_wp2
      go_ret
      exact ⟨rfl, hbl, hs, fun i hi => by rw [ho.cellAt i (by omega), part_get _ _ _ hi]⟩

set_option maxHeartbeats 1000000 in
theorem clone_zero (x : Addr) (c : Nat) (w : World) :
    Calls Try.prog 9 #[.slice (some x) 0 c] w fun e w' => e = .returned (.slice (some ⟨w.heap.size, 0, none⟩) 0 0) ∧ Below w.heap.size w w' := by
  obtain ⟨i0, hi, hz0, hz1, hz2⟩ := info_parts info5
  have q22 := fun (w : World) => Lib.run_eql_slice_nil (P := Try.prog) w 22 5 (some x) 0 c 0 0 Try.underlying22
  go_enter Try.func9, Try.ntmps9
  go_wp2_with (at_make; refine wpList_make_full _ rfl _ _ 22 rfl w.heap.size 5 i0 (.int .u8 0) 1 Try.underlying22 hi hz0 hz1 _ _ _ _ 0 rfl rfl rfl rfl (by rw [hz2]; omega) (by unfold maxLen; omega) (Nat.le_refl _) ?_; intro w1 hown hgrow)
  have hb1 : Below w.heap.size w w1 := (Below.refl _ _).grown hgrow (Nat.le_refl _) (by intro k hk; cases hk)
  clear hgrow q22 hown
  refine wp_loop_rounds 1 ?_
  rw [rounds_succ]
  go_wp2
  go_ret
  exact ⟨rfl, hb1⟩

theorem clone_nil (w : World) :
    Calls Try.prog 9 #[.slice none 0 0] w fun e w' => e = .returned (.slice none 0 0) ∧ w' = w := by
  have q22 := fun (w : World) => Lib.run_eql_slice_nil (P := Try.prog) w 22 5 none 0 0 0 0 Try.underlying22
  go_enter Try.func9, Try.ntmps9
  go_wp2
  go_ret
  exact ⟨rfl, rfl⟩

/-- cloneBytes at whatever slice came in. -/
theorem clone_row (a0 : Option Addr) (n c0 : Nat) (zs : List Int) (w : World) (h : IsRow .u8 w a0 n c0 zs) (hn : n ≤ 1048576) :
    Calls Try.prog 9 #[.slice a0 n c0] w fun e w' => ∃ ao c, e = .returned (.slice ao n c) ∧ n ≤ c ∧ Below w.heap.size w w' ∧ Row w' ao n (zs.take n) := by
  cases a0 with
  | none =>
    rcases h with ⟨_, rfl, rfl, rfl⟩ | ⟨x, hx, _⟩
    · refine (clone_nil w).mono ?_
      rintro e w' ⟨rfl, rfl⟩
      exact ⟨none, 0, rfl, Nat.le_refl _, Below.refl _ _, Row.nil⟩
    · cases hx
  | some x =>
    rcases Nat.eq_zero_or_pos n with rfl | hp
    · refine (clone_zero x c0 w).mono ?_
      rintro e w' ⟨rfl, hb⟩
      exact ⟨_, 0, rfl, Nat.le_refl _, hb, Row.mk' (by simp) (fun _ h => by simp at h) (fun i hi => by omega)⟩
    · obtain ⟨hl, hm, b, o, rfl, hb, hcs, hbs, hlen⟩ := h.at hp
      refine (clone_some b o n c0 zs w hn hl hcs hb).mono ?_
      rintro e w' ⟨rfl, hbl, hs, hc⟩
      refine ⟨_, n, rfl, Nat.le_refl _, hbl, Row.mk' hlen (hbs.take n) (fun i hi => ?_)⟩
      rw [Nat.zero_add, getD_take _ _ _ hi]
      exact hc i hi

/-- bytes.IndexByte at a row. -/
theorem index_run (ao : Option Addr) (n c : Nat) (cv r : Int) (w : World) (h : (Extern.BytealgIndexByte.indexByte #[.slice ao n c, .int .u8 cv]).run Try.prog w = .ok (.int .i64 r) w) :
    Calls Try.prog 24 #[.slice ao n c, .int .u8 cv] w fun e w' => e = .returned (.int .i64 r) ∧ w' = w := by
  go_enter Try.func24, Try.ntmps24
  go_wp2
  rw [run_callFunc_extern Try.func27 (by kernel_rfl) (by kernel_rfl) (by kernel_rfl) (e := Extern.BytealgIndexByte.indexByte) (by kernel_rfl), h]
  simp only [Result.andThen]
  rw [Oper.upon_value]
  go_wp2
  go_ret
  exact ⟨rfl, rfl⟩

theorem index_row (ao : Option Addr) (n c : Nat) (xs : List Int) (cv : Int) (w : World) (h : Row w ao n xs) (hc : 0 ≤ cv ∧ cv ≤ 255) :
    Calls Try.prog 24 #[.slice ao n c, .int .u8 cv] w fun e w' => w = w' ∧ ((e = .returned (.int .i64 (-1)) ∧ ∀ i, i < n → xs.getD i 0 ≠ cv) ∨
      ∃ k : Nat, e = .returned (.int .i64 k) ∧ k < n ∧ xs.getD k 0 = cv ∧ ∀ i, i < k → xs.getD i 0 ≠ cv) := by
  refine (index_run ao n c cv _ w (run_idx h c cv)).mono ?_
  rintro e w' ⟨rfl, rfl⟩
  refine ⟨rfl, ?_⟩
  have := idx_spec cv hc xs h.bytes
  rw [h.len] at this
  rcases this with ⟨h1, h2⟩ | ⟨k, h1, h2⟩
  · exact .inl ⟨by rw [h1], h2⟩
  · exact .inr ⟨k, by rw [h1], h2⟩

end Go.Proofs.Qxb6601475a
