/-
  Seat b6601536a: the copy that each law makes of its data first.
-/
import Derived.Test.Qxb6601536aBase
import Derived.Laws.CopyOwn
namespace Go.Proofs.Qxb6601536a
open Go.RowKit
set_option linter.unusedVariables false

theorem info5 : (Try.prog.info? 5).map (fun i => (i.zero, i.size, i.bytes)) = some (some (.int .u8 0), 1, 1) := by kernel_rfl
theorem size5 : (Try.prog.info? 5).map (·.size) = some 1 := by kernel_rfl

/-- The row that a make has laid. -/
theorem made_row {w1 : World} {base g n : Nat} {xs : List Value} (h : w1.ownsRow base 5 1 (.slice (some ⟨g, 0, none⟩) n n) n xs) : ∃ cur : List Value, w1.heap[g]? = some (.cells cur.toArray 5 (0, 0)) ∧ cur.length = n := by
  rcases h.2 with ⟨h', _⟩ | ⟨g', cap', cur, h', _, hg, _, _, hs, _⟩
  · simp at h'
  · simp only [Value.slice.injEq, Option.some.injEq, Addr.mk.injEq, and_true, true_and] at h'
    obtain ⟨rfl, rfl⟩ := h'
    exact ⟨cur.toList, by simpa using hg, by simpa using hs⟩

/-- Behind the copy the row holds the data. -/
theorem copied_row {w2 : World} {g n : Nat} {zs : List Int} {cur : List Value} (hz : (zs.take n).length = n) (hb : Bytes zs) (hcl : cur.length = n) (h : w2.heap[g]? = some (.cells (splice cur 0 ((zs.take n).map (Value.int .u8))).toArray 5 (0, 0))) :
    Row w2 (some ⟨g, 0, none⟩) n (zs.take n) := by
  refine Row.mk' hz (hb.take n) (fun i hi => ?_)
  rw [Nat.zero_add, cell_of_row w2 g i _ 5 (0, 0) h]
  have e : splice cur 0 ((zs.take n).map (Value.int .u8)) = (zs.take n).map (Value.int .u8) := by
    unfold splice
    rw [List.drop_of_length_le (by rw [List.length_map, hz, hcl]; omega)]
    simp
  rw [e]
  have hi2 : i < (zs.take n).length := by omega
  simp only [List.getElem?_toArray, List.getElem?_map, List.getElem?_eq_getElem hi2, Option.map_some, List.getD_eq_getElem?_getD, Option.getD_some]

/-- make and copy: what the copy's run leaves. -/
theorem copy_run (w w1 : World) (b o n c : Nat) (zs : List Int) (base : List Value) (hb : b < w.heap.size) (hcs : ∀ i, i < n → w.cell? ⟨b, o + i, none⟩ = some (.int .u8 (zs.getD i 0))) (hbs : Bytes zs) (hlen : (zs.take n).length = n)
    (hown : w1.ownsRow w.heap.size 5 1 (.slice (some ⟨w.heap.size, 0, none⟩) n n) n base) (hgrow : w.grownBy w1 none) :
    ∃ w2, (Builtin.copy_ #[22, 22] 3 #[.slice (some ⟨w.heap.size, 0, none⟩) n n, .slice (some ⟨b, o, none⟩) n c]).run Try.prog w1 = .ok (.int .i64 n) w2 ∧ Below w.heap.size w w2 ∧ Row w2 (some ⟨w.heap.size, 0, none⟩) n (zs.take n) := by
  obtain ⟨cur, hg, hcl⟩ := made_row hown
  have hb1 : Below w.heap.size w w1 := (Below.refl _ _).grown hgrow (Nat.le_refl _) (by intro k hk; cases hk)
  have hll : ((zs.take n).map (Value.int .u8)).length = n := by rw [List.length_map, hlen]
  have hrun := run_copy_row (P := Try.prog) w1 22 22 3 5 w.heap.size 0 n n ⟨b, o, none⟩ n c cur.toArray 5 ((zs.take n).map (Value.int .u8)) Try.underlying22 size5 hg (by rw [hll]; exact (Nat.min_self n).symm)
    (fun j v hj => by
      have hjn : j < n := by
        have := (List.getElem?_eq_some_iff.1 hj).1
        omega
      rw [addr_add, hb1.cell (by exact hb), hcs j hjn]
      have h2 : j < (zs.take n).length := by omega
      rw [List.getElem?_map, List.getElem?_eq_getElem h2, Option.map_some] at hj
      rw [← hj]
      have e : (zs.take n)[j] = zs.getD j 0 := by
        have := getD_take zs n j hjn
        rw [← this]
        simp only [List.getD_eq_getElem?_getD, List.getElem?_eq_getElem h2, Option.getD_some]
      rw [e]) (by rw [hll]; simp [hcl]) (fun v hv => by
      obtain ⟨x, _, rfl⟩ := List.mem_map.1 hv
      rfl)
  refine ⟨_, by rw [hrun, hll]; rfl, below_setRow hb1 (Nat.le_refl _) _, ?_⟩
  refine copied_row (cur := cur) hlen hbs hcl ?_
  have := setRow_heap w1 w.heap.size cur.toArray (cur.take 0 ++ (List.map (Value.int .u8) (zs.take n)) ++ cur.drop (0 + ((zs.take n).map (Value.int .u8)).length)).toArray 5 (0, 0) hg
  have hmin : min n zs.length = n := by rw [← List.length_take]; exact hlen
  simpa [splice, hmin] using this

set_option maxHeartbeats 2000000 in
/-- The walk: the law returns true and turns nothing that was there. -/
theorem walkForward (a0 : Option Addr) (len0 cap0 : Nat) (z0 : List Int) (a1 : Int) (w : World) (w0 : IsRow .u8 w a0 len0 cap0 z0) (w1 : (Lit.int .i64 a1).wf = true) :
    Calls Try.prog 3 #[.slice a0 len0 cap0, .int .i64 a1] w fun e w' => e = .returned (.bool true) ∧ Below w.heap.size w w' := by
  clear w1
  rcases Nat.lt_or_ge 1048576 len0 with hbig | hbig
  · have hbig' : (1048576 : Int) < (len0 : Int) := by omega
    clear w0
    go_enter Try.func3, Try.ntmps3
    go_wp2
    go_ret
    exact ⟨rfl, Below.refl _ _⟩
  by_cases hneg : a1 < 0
  · clear w0
    go_enter Try.func3, Try.ntmps3
    go_wp2
    go_ret
    exact ⟨rfl, Below.refl _ _⟩
  by_cases hgt : (len0 : Int) ≤ a1
  · clear w0
    go_enter Try.func3, Try.ntmps3
    go_wp2
    go_ret
    exact ⟨rfl, Below.refl _ _⟩
  obtain ⟨s, rfl⟩ : ∃ i : Nat, a1 = i := ⟨a1.toNat, by omega⟩
  have hs : s < len0 := by omega
  obtain ⟨x, rfl⟩ : ∃ x, a0 = some x := by
    rcases w0 with ⟨_, h, _⟩ | ⟨x, h, _⟩
    · omega
    · exact ⟨x, h⟩
  obtain ⟨hl, hm, b, o, rfl, hb, hcs, hbs, hlen⟩ := w0.at (by omega)
  clear w0 hm
  obtain ⟨i0, hi, hz0, hz1, hz2⟩ := info_parts info5
  have q22 := fun (w : World) => run_neq_slice_nil_any (P := Try.prog) w 22 5 (some ⟨b, o, none⟩) len0 cap0 0 0 Try.underlying22
  go_enter Try.func3, Try.ntmps3
  go_wp2_with (first | (go_at_call 8; go_in) | (at_make; refine wpList_make_full _ rfl _ _ 22 rfl w.heap.size 5 i0 (.int .u8 0) 1 Try.underlying22 hi hz0 hz1 _ _ _ _ len0 rfl rfl rfl rfl (by rw [hz2]; omega) (by unfold maxLen; omega) (Nat.le_refl _) ?_; intro w1 hown hgrow))
  obtain ⟨w2, hcopy, hb2, hrow⟩ := copy_run w w1 b o len0 cap0 z0 _ hb hcs hbs hlen hown hgrow
  rw [hcopy]
  have HB : Hid (Below w.heap.size w w2) := hb2
  generalize z0.take len0 = xs at *
  have HF := forward w.heap.size 0 len0 len0 s xs w2 hrow hbig hs
  have HS := skipString w.heap.size 0 len0 len0 s xs w2 hrow (Nat.le_refl _) hbig hs
  clear hcopy hb2 hrow hown hgrow hcs hbs q22 hi hz0 hz1 hz2 hlen
  generalize strEnd xs s = E at *
  simp only [Result.andThen]
  rw [Oper.upon_value]
  go_wp2_with (first | (go_at_call 9; go_in) | (go_at_call 19; refine HS.mono ?_; rintro e w' ⟨rfl, rfl⟩) | (go_at_call 10; refine HF.mono ?_; rintro e w' ⟨rfl, rfl⟩))
  go_ret
  exact ⟨rfl, HB.out⟩

end Go.Proofs.Qxb6601536a
