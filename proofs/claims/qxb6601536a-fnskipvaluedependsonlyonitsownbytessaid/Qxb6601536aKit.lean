/-
  Seat b6601536a: words and laws of no program: what a row of bytes is ('Row'), what a copying loop has laid ('part'), what the first place of a byte is ('idx_spec').
-/
import Derived.WalkKit
import Derived.WalkSpells
import Derived.Lib.BytesEntry
import Derived.Lib.SliceRun
import Derived.Lib.Walk
import Derived.Below
namespace Go.Proofs.Qxb6601536a
open Go.RowKit
set_option linter.unusedVariables false

theorem cell_lt {w : World} {a : Addr} {v : Value} (h : w.cell? a = some v) : a.block < w.heap.size := by
  apply Classical.byContradiction
  intro hn
  have : w.heap[a.block]? = none := by simp; omega
  simp [World.cell?, this] at h

theorem ret_int {k : IntKind} {a b : Int} (h : a = b) : Ending.returned (.int k a) = .returned (.int k b) := by rw [h]

/-- What a loop that copies has laid after k rounds. -/
def part (zs : List Int) (n k : Nat) : List Value := (List.range n).map fun i => if i < k then Value.int .u8 (zs.getD i 0) else Value.int .u8 0

theorem part_zero (zs : List Int) (n : Nat) : part zs n 0 = List.replicate n (Value.int .u8 0) := by
  apply List.ext_getElem
  · simp [part]
  · intro i h1 h2; simp [part]
theorem part_len (zs : List Int) (n k : Nat) : (part zs n k).length = n := by simp [part]
theorem part_set (zs : List Int) (n k : Nat) : (part zs n k).set k (Value.int .u8 (zs.getD k 0)) = part zs n (k + 1) := by
  apply List.ext_getElem
  · simp [part]
  · intro i h1 h2
    simp only [part, List.getElem_set, List.getElem_map, List.getElem_range]
    by_cases h : k = i
    · subst h; simp
    · rw [if_neg h]
      by_cases h3 : i < k
      · rw [if_pos h3, if_pos (by omega)]
      · rw [if_neg h3, if_neg (by omega)]
theorem part_get (zs : List Int) (n i : Nat) (h : i < n) : (part zs n n)[i]? = some (Value.int .u8 (zs.getD i 0)) := by
  simp [part, h]
theorem part_get0 (zs : List Int) (n i : Nat) (h : i < n) : ∃ v, (part zs n i)[i]? = some (Value.int .u8 v) := by
  exact ⟨_, by simp [part, h]; rfl⟩

/-- Every number of the list is a byte. -/
def Bytes (xs : List Int) : Prop := ∀ x ∈ xs, 0 ≤ x ∧ x ≤ 255
theorem Bytes.drop {xs : List Int} (h : Bytes xs) (i : Nat) : Bytes (xs.drop i) := fun x hx => h x (List.mem_of_mem_drop hx)
theorem Bytes.take {xs : List Int} (h : Bytes xs) (i : Nat) : Bytes (xs.take i) := fun x hx => h x (List.mem_of_mem_take hx)
theorem Bytes.tail {x : Int} {xs : List Int} (h : Bytes (x :: xs)) : Bytes xs := fun y hy => h y (List.mem_cons_of_mem _ hy)
theorem Bytes.head {x : Int} {xs : List Int} (h : Bytes (x :: xs)) : 0 ≤ x ∧ x ≤ 255 := h x (List.mem_cons_self ..)
theorem Bytes.of_wf {xs : List Int} (h : ∀ n ∈ xs, (Lit.int .u8 n).wf = true) : Bytes xs := fun x hx => by
  have := h x hx
  simp [Lit.wf, IntKind.min, IntKind.max, IntKind.signed, IntKind.bits] at this
  omega

theorem byte_at {xs : List Int} (h : Bytes xs) (i : Nat) : 0 ≤ xs.getD i 0 ∧ xs.getD i 0 ≤ 255 := by
  by_cases hi : i < xs.length
  · have : xs.getD i 0 = xs[i] := by simp [hi]
    rw [this]
    exact h _ (List.getElem_mem _)
  · have : xs.getD i 0 = 0 := by simp [List.getElem?_eq_none (Nat.le_of_not_lt hi)]
    rw [this]; omega

/-- The slice (ao, n) holds the bytes xs in the world w. -/
def Row (w : World) (ao : Option Addr) (n : Nat) (xs : List Int) : Prop :=
  xs.length = n ∧ Bytes xs ∧ ((ao = none ∧ n = 0) ∨ ∃ b o, ao = some ⟨b, o, none⟩ ∧ ∀ i, i < n → w.cell? ⟨b, o + i, none⟩ = some (.int .u8 (xs.getD i 0)))

theorem Row.len {w : World} {ao : Option Addr} {n : Nat} {xs : List Int} (h : Row w ao n xs) : xs.length = n := h.1
theorem Row.bytes {w : World} {ao : Option Addr} {n : Nat} {xs : List Int} (h : Row w ao n xs) : Bytes xs := h.2.1
theorem Row.mk' {w : World} {b o n : Nat} {xs : List Int} (hl : xs.length = n) (hb : Bytes xs) (hc : ∀ i, i < n → w.cell? ⟨b, o + i, none⟩ = some (.int .u8 (xs.getD i 0))) : Row w (some ⟨b, o, none⟩) n xs :=
  ⟨hl, hb, .inr ⟨b, o, rfl, hc⟩⟩
theorem Row.nil {w : World} : Row w none 0 [] := ⟨rfl, fun _ h => by simp at h, .inl ⟨rfl, rfl⟩⟩
theorem Row.cells {w : World} {b o n : Nat} {xs : List Int} (h : Row w (some ⟨b, o, none⟩) n xs) : ∀ i, i < n → w.cell? ⟨b, o + i, none⟩ = some (.int .u8 (xs.getD i 0)) := by
  rcases h.2.2 with ⟨h1, _⟩ | ⟨b', o', h1, h2⟩
  · cases h1
  · cases h1; exact h2
/-- A row whose length is not 0 begins somewhere. -/
theorem Row.at {w : World} {ao : Option Addr} {n : Nat} {xs : List Int} (h : Row w ao n xs) (hn : 0 < n) : ∃ b o, ao = some ⟨b, o, none⟩ ∧ ∀ i, i < n → w.cell? ⟨b, o + i, none⟩ = some (.int .u8 (xs.getD i 0)) := by
  rcases h.2.2 with ⟨_, h1⟩ | h1
  · omega
  · exact h1
/-- A row stays where nothing below the heap's size has turned. -/
theorem Row.below {w w' : World} {ao : Option Addr} {n : Nat} {xs : List Int} (h : Row w ao n xs) (hb : Below w.heap.size w w') : Row w' ao n xs := by
  refine ⟨h.1, h.2.1, ?_⟩
  rcases h.2.2 with h1 | ⟨b, o, h1, h2⟩
  · exact .inl h1
  · exact .inr ⟨b, o, h1, fun i hi => by rw [hb.cell (by exact cell_lt (h2 i hi))]; exact h2 i hi⟩
theorem Row.same {w w' : World} {ao : Option Addr} {n : Nat} {xs : List Int} (h : Row w ao n xs) (hb : ∀ a : Addr, w'.cell? a = w.cell? a) : Row w' ao n xs := by
  refine ⟨h.1, h.2.1, ?_⟩
  rcases h.2.2 with h1 | ⟨b, o, h1, h2⟩
  · exact .inl h1
  · exact .inr ⟨b, o, h1, fun i hi => by rw [hb]; exact h2 i hi⟩

theorem getD_drop (xs : List Int) (i j : Nat) : (xs.drop i).getD j 0 = xs.getD (i + j) 0 := by
  simp [List.getD_eq_getElem?_getD, List.getElem?_drop]
theorem getD_take (xs : List Int) (i j : Nat) (h : j < i) : (xs.take i).getD j 0 = xs.getD j 0 := by
  simp [List.getD_eq_getElem?_getD, h]

/-- 's[i:]': the address stays where the cut falls at the very capacity. -/
theorem Row.drop {w : World} {b o n : Nat} {xs : List Int} (h : Row w (some ⟨b, o, none⟩) n xs) (c i : Nat) (hc : n ≤ c) : Row w (if c = i then some ⟨b, o, none⟩ else some ⟨b, o + i, none⟩) (n - i) (xs.drop i) := by
  have hcs := h.cells
  refine ⟨by simp [h.1], h.2.1.drop i, .inr ?_⟩
  by_cases hci : c = i
  · rw [if_pos hci]
    exact ⟨b, o, rfl, fun j hj => by omega⟩
  · rw [if_neg hci]
    exact ⟨b, o + i, rfl, fun j hj => by rw [getD_drop, Nat.add_assoc]; exact hcs (i + j) (by omega)⟩
theorem Row.drop' {w : World} {b o n : Nat} {xs : List Int} (h : Row w (some ⟨b, o, none⟩) n xs) (i : Nat) : Row w (some ⟨b, o + i, none⟩) (n - i) (xs.drop i) := by
  have hcs := h.cells
  exact ⟨by simp [h.1], h.2.1.drop i, .inr ⟨b, o + i, rfl, fun j hj => by rw [getD_drop, Nat.add_assoc]; exact hcs (i + j) (by omega)⟩⟩
theorem addr_add (b o i : Nat) : (⟨b, o, none⟩ : Addr).add i = ⟨b, o + i, none⟩ := by unfold Addr.add; split <;> simp_all
theorem Row.cut {w : World} {ao : Option Addr} {n : Nat} {xs : List Int} (h : Row w ao n xs) (i : Nat) : Row w (ao.map fun x => x.add i) (n - i) (xs.drop i) := by
  refine ⟨by simp [h.1], h.2.1.drop i, ?_⟩
  rcases h.2.2 with ⟨rfl, h2⟩ | ⟨b, o, rfl, h2⟩
  · exact .inl ⟨rfl, by omega⟩
  · exact .inr ⟨b, o + i, by simp [addr_add], fun j hj => by rw [getD_drop, Nat.add_assoc]; exact h2 (i + j) (by omega)⟩
/-- The same where the cut falls at the very capacity, so that the address stays. -/
theorem Row.cutIf {w : World} {ao : Option Addr} {n : Nat} {xs : List Int} (h : Row w ao n xs) (c i : Nat) (hc : n ≤ c) : Row w (if c = i then ao else ao.map fun x => x.add i) (n - i) (xs.drop i) := by
  by_cases hci : c = i
  · rw [if_pos hci]
    refine ⟨by simp [h.1], h.2.1.drop i, ?_⟩
    rcases h.2.2 with ⟨rfl, h2⟩ | ⟨b, o, rfl, h2⟩
    · exact .inl ⟨rfl, by omega⟩
    · exact .inr ⟨b, o, rfl, fun j hj => by omega⟩
  · rw [if_neg hci]; exact h.cut i
theorem Row.none' {w : World} {ao : Option Addr} {n : Nat} {xs : List Int} (h : Row w ao n xs) : Row w ao 0 [] := by
  refine ⟨rfl, fun _ h => by simp at h, ?_⟩
  rcases h.2.2 with ⟨rfl, h2⟩ | ⟨b, o, rfl, h2⟩
  · exact .inl ⟨rfl, rfl⟩
  · exact .inr ⟨b, o, rfl, fun j hj => by omega⟩
theorem Row.take {w : World} {ao : Option Addr} {n : Nat} {xs : List Int} (h : Row w ao n xs) (i : Nat) (hi : i ≤ n) : Row w ao i (xs.take i) := by
  refine ⟨by simp [h.1]; omega, h.2.1.take i, ?_⟩
  rcases h.2.2 with ⟨h1, h2⟩ | ⟨b, o, h1, h2⟩
  · exact .inl ⟨h1, by omega⟩
  · exact .inr ⟨b, o, h1, fun j hj => by rw [getD_take _ _ _ hj]; exact h2 j (by omega)⟩

/-- What the walk is told of a slice of integers that came in (the shell's own word). -/
def IsRow (k : IntKind) (w : World) (a : Option Addr) (len cap : Nat) (zs : List Int) : Prop :=
  (a = none ∧ len = 0 ∧ cap = 0 ∧ zs = []) ∨
  ∃ x, a = some x ∧ len ≤ cap ∧ cap ≤ maxLen ∧ zs.length = cap ∧ (∀ i, i < zs.length → w.cell? (x.add i) = some (.int k (zs.getD i 0))) ∧ ∀ n ∈ zs, (Lit.int k n).wf = true

/-- A slice that came in with an element in it: it is a row. -/
theorem IsRow.at {w : World} {x : Addr} {len cap : Nat} {zs : List Int} (h : IsRow .u8 w (some x) len cap zs) (hp : 0 < len) : len ≤ cap ∧ cap ≤ maxLen ∧ ∃ b o, x = ⟨b, o, none⟩ ∧ b < w.heap.size ∧ (∀ i, i < len → w.cell? ⟨b, o + i, none⟩ = some (.int .u8 (zs.getD i 0))) ∧ Bytes zs ∧ (zs.take len).length = len := by
  rcases h with ⟨h, _⟩ | ⟨x', hx, hl, hm, hz, hcell, hwz⟩
  · cases h
  · cases hx
    refine ⟨hl, hm, ?_⟩
    obtain ⟨b, off, spot⟩ := x
    have hc := hcell 0 (by omega)
    have hspot : spot = none := by simpa [Addr.add] using World.cell?_spot hc
    subst hspot
    refine ⟨b, off, rfl, ?_, fun i hi => ?_, Bytes.of_wf hwz, by simp; omega⟩
    · have := cell_lt hc
      rw [addr_add] at this
      exact this
    · have := hcell i (by omega)
      rw [addr_add] at this
      exact this

/-- The index of the first place, or -1: what the shelf's 'indexByte' says of numbers that are bytes. -/
theorem idx_spec (c : Int) (hc : 0 ≤ c ∧ c ≤ 255) : ∀ (xs : List Int), Bytes xs →
    (Lib.indexByte (Lib.bytesOf xs) c.toNat.toUInt8 = -1 ∧ ∀ i, i < xs.length → xs.getD i 0 ≠ c) ∨
    ∃ k : Nat, Lib.indexByte (Lib.bytesOf xs) c.toNat.toUInt8 = (k : Int) ∧ k < xs.length ∧ xs.getD k 0 = c ∧ ∀ i, i < k → xs.getD i 0 ≠ c
  | [], _ => .inl ⟨rfl, fun i hi => by simp at hi⟩
  | x :: xs, h => by
    have ih := idx_spec c hc xs h.tail
    have hx := h.head
    have e : (UInt8.ofNat x.toNat == c.toNat.toUInt8) = decide (x = c) := by
      rw [Bool.eq_iff_iff]
      simp [← UInt8.toNat_inj]
      omega
    show (Lib.indexByte (UInt8.ofNat x.toNat :: Lib.bytesOf xs) _ = -1 ∧ _) ∨ ∃ k : Nat, Lib.indexByte (UInt8.ofNat x.toNat :: Lib.bytesOf xs) _ = (k : Int) ∧ _
    unfold Lib.indexByte
    rw [e]
    by_cases hxc : x = c
    · subst hxc
      exact .inr ⟨0, by simp, by simp, by simp, fun i hi => by omega⟩
    · simp only [hxc, decide_false, Bool.false_eq_true, if_false]
      rcases ih with ⟨h1, h2⟩ | ⟨k, h1, h2, h3, h4⟩
      · refine .inl ⟨by rw [h1]; rfl, fun i hi => ?_⟩
        cases i with
        | zero => simpa using hxc
        | succ i => simpa using h2 i (by simpa using hi)
      · refine .inr ⟨k + 1, ?_, by simpa using h2, by simpa using h3, fun i hi => ?_⟩
        · have : ((Lib.indexByte (Lib.bytesOf xs) c.toNat.toUInt8) == -1) = false := by rw [h1]; simp
          rw [this, h1]; simp
        · cases i with
          | zero => simpa using hxc
          | succ i => simpa using h4 i (by omega)

/-- The entry internal/bytealg.IndexByte at a row. -/
theorem run_idx {P : Program} {w : World} {ao : Option Addr} {n : Nat} {xs : List Int} (h : Row w ao n xs) (c : Nat) (cv : Int) :
    (Extern.BytealgIndexByte.indexByte #[.slice ao n c, .int .u8 cv]).run P w = .ok (.int .i64 (Lib.indexByte (Lib.bytesOf xs) cv.toNat.toUInt8)) w := by
  rcases h.2.2 with ⟨rfl, rfl⟩ | ⟨b, o, rfl, h2⟩
  · have hx : xs = [] := List.eq_nil_of_length_eq_zero h.1
    subst hx
    exact Lib.run_indexByteNil w 0 c cv
  · exact Lib.run_indexByteSlice w b o n c xs h.1 h2 cv

end Go.Proofs.Qxb6601536a
