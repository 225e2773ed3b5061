import Derived.Test.YbulkqpuPlain
import Derived.Test.YbulkqpuShelf
import Derived.Sort.OwnSortedInts
/-! The library's functions on the road of 'LawS0852AMove', by the shelf's contracts, in the words of YbulkqpuMem. -/
namespace Go.Proofs.Ybulkqpu.mv
open Go.RowKit Go.Shelf Go.Sort
set_option linter.unusedVariables false

theorem encs_get {xs : List Nat} {j x : Nat} (h : xs[j]? = some x) : (encs xs)[j]? = some (.int .i64 (x : Int)) := by
  unfold encs enc; rw [List.getElem?_map, h]; rfl
theorem encs_ints (xs : List Nat) : encs xs = (xs.map fun n : Nat => (n : Int)).map (Value.int .i64) := by
  unfold encs enc; rw [List.map_map]; rfl
/-- The cells of a row that is owned. -/
theorem owns_cell {w : World} {base g n cap k x : Nat} {xs : List Nat} (h : w.ownsRow base 3 1 (.slice (some ⟨g, 0, none⟩) n cap) n (encs xs)) (hk : xs[k]? = some x) : w.cell? ⟨g, k, none⟩ = some (.int .i64 (x : Int)) := by
  have hl : k < xs.length := (List.getElem?_eq_some_iff.1 hk).1
  have hn : xs.length = n := by have := h.1; simpa [encs] using this
  rw [h.cellAt k (by omega)]
  exact encs_get hk
theorem owns_form {w : World} {base n : Nat} {v : Value} {xs : List Nat} (h : w.ownsRow base 3 1 v n (encs xs)) : (v = .slice none 0 0 ∧ n = 0) ∨ ∃ g cap, v = .slice (some ⟨g, 0, none⟩) n cap := by
  rcases h.2 with h | ⟨g, cap, cur, rfl, _⟩
  · exact .inl h
  · exact .inr ⟨g, cap, rfl⟩
theorem owns_cells {w : World} {base g n cap : Nat} {xs : List Nat} (h : w.ownsRow base 3 1 (.slice (some ⟨g, 0, none⟩) n cap) n (encs xs)) :
    ∀ j, j < (xs.map fun n : Nat => (n : Int)).length → w.cell? ⟨g, 0 + j, none⟩ = some (.int .i64 ((xs.map fun n : Nat => (n : Int)).getD j 0)) := fun j hj => by
  have hj' : j < xs.length := by simpa using hj
  rw [Nat.zero_add, owns_cell h (List.getElem?_eq_getElem hj')]
  simp [List.getD, hj']

/-! ### slices.Clone -/
theorem clone5 {w : World} {base : Nat} {v : Value} {xs : List Nat} (h : w.ownsRow base 3 1 v xs.length (encs xs)) (hl : xs.length ≤ 2000) :
    Calls Yba.prog 5 #[v] w fun e w' => ∃ v', e = .returned v' ∧ w'.ownsRow w.heap.size 3 1 v' xs.length (encs xs) ∧ Below w.heap.size w w' := by
  rcases owns_form h with ⟨rfl, h0⟩ | ⟨g, cap, rfl⟩
  · refine (Any.slices_Clone_int_nil Yba.laysNm215 0 0 w).mono ?_
    rintro e w' ⟨rfl, rfl⟩
    exact ⟨_, rfl, ⟨h.1, .inl ⟨rfl, h0⟩⟩, Below.refl _ _⟩
  · refine (Any.slices_Clone_int Yba.laysNm215 g 0 xs.length cap (xs.map fun n : Nat => (n : Int)) w (by simp) (by omega) (owns_cells h)).mono ?_
    rintro e w' ⟨v', rfl, ho, _, hb⟩
    rw [List.take_of_length_le (by simp), ← encs_ints] at ho
    exact ⟨v', rfl, ho, hb⟩
theorem sz5 (w : World) : (Go.sizeOf 5).run Yba.prog w = .ok 1 w := by kernel_rfl
theorem sz29 (w : World) : (Go.sizeOf 29).run Yba.prog w = .ok 1 w := by kernel_rfl
theorem clone6 {w : World} {g n cap : Nat} {f : Nat → Nat} (h : At w g ((List.range n).map fun i => Value.int .u8 (f i : Int)) 5) (hl : n ≤ 2000) :
    Calls Yba.prog 6 #[.slice (some ⟨g, 0, none⟩) n cap] w fun e w' => ∃ v', e = .returned v' ∧ w'.ownsRow w.heap.size 5 1 v' n ((List.range n).map fun i => Value.int .u8 (f i : Int)) ∧ v' ≠ .slice none 0 0 ∧ Below w.heap.size w w' := by
  obtain ⟨i0, hi0, hz0, hz1, hz2⟩ := info_parts info5
  exact AnyE.slices_Clone Yba.laysSlE041_f6 i0 _ 1 1 hi0 hz0 hz1 hz2 rfl (by omega) sz5 g 0 n cap _ w (by simp) (by unfold maxLen; omega) (by omega)
    (fun j u hu => by rw [Nat.zero_add]; exact h.cell hu) (fun u hu => by obtain ⟨i, _, rfl⟩ := List.mem_map.1 hu; rfl)
theorem clone4 {w : World} {g n cap : Nat} {f : Nat → Int} (h : At w g ((List.range n).map fun i => Value.int .i64 (f i)) 29) (hl : n ≤ 2000) :
    Calls Yba.prog 4 #[.slice (some ⟨g, 0, none⟩) n cap] w fun e w' => ∃ v', e = .returned v' ∧ w'.ownsRow w.heap.size 29 1 v' n ((List.range n).map fun i => Value.int .i64 (f i)) ∧ v' ≠ .slice none 0 0 ∧ Below w.heap.size w w' := by
  obtain ⟨i0, hi0, hz0, hz1, hz2⟩ := info_parts info29
  exact AnyE.slices_Clone Yba.laysSlE041_f4 i0 _ 1 8 hi0 hz0 hz1 hz2 rfl (by omega) sz29 g 0 n cap _ w (by simp) (by unfold maxLen; omega) (by omega)
    (fun j u hu => by rw [Nat.zero_add]; exact h.cell hu) (fun u hu => by obtain ⟨i, _, rfl⟩ := List.mem_map.1 hu; rfl)

/-! ### slices.Equal, where the two are equal -/
theorem equal10 {w : World} {b1 b2 : Nat} {v1 v2 : Value} {xs : List Nat} (h1 : w.ownsRow b1 3 1 v1 xs.length (encs xs)) (h2 : w.ownsRow b2 3 1 v2 xs.length (encs xs)) (hl : xs.length ≤ 2000) :
    Calls Yba.prog 10 #[v1, v2] w fun e w' => e = .returned (.bool true) ∧ ∃ q, w' = w.drewN q := by
  by_cases h0 : xs.length = 0
  · have f : ∀ {b v}, w.ownsRow b 3 1 v xs.length (encs xs) → ∃ a c, v = .slice a 0 c := fun h => by
      rcases owns_form h with ⟨rfl, _⟩ | ⟨g, cap, rfl⟩
      · exact ⟨_, _, rfl⟩
      · rw [h0]; exact ⟨_, _, rfl⟩
    obtain ⟨a1, c1, rfl⟩ := f h1
    obtain ⟨a2, c2, rfl⟩ := f h2
    refine (Any.slices_Equal_int_empty Yba.lays111 a1 a2 c1 0 c2 w (by omega)).mono ?_
    rintro e w' ⟨rfl, rfl⟩
    exact ⟨rfl, 0, rfl⟩
  · rcases owns_form h1 with ⟨_, h⟩ | ⟨g1, c1, rfl⟩
    · exact absurd h h0
    rcases owns_form h2 with ⟨_, h⟩ | ⟨g2, c2, rfl⟩
    · exact absurd h h0
    refine (Any.slices_Equal_int Yba.lays111 g1 0 xs.length c1 g2 0 xs.length c2 (xs.map fun n : Nat => (n : Int)) (xs.map fun n : Nat => (n : Int)) w (by simp) (by simp) (by omega) (by omega) (owns_cells h1) (owns_cells h2)).mono ?_
    rintro e w' ⟨rfl, hq⟩
    exact ⟨by simp, hq⟩
theorem allEq_self : ∀ l : List Int, Lib.allEq (fun x y => x == y) l l = true := by
  intro l
  induction l with
  | nil => rfl
  | cons x l ih => simp [Lib.allEq, ih]
theorem equal8 {w : World} {g1 g2 n c1 c2 : Nat} {f : Nat → Int} (h1 : ∀ j, j < n → w.cell? ⟨g1, j, none⟩ = some (.int .i64 (f j))) (h2 : ∀ j, j < n → w.cell? ⟨g2, j, none⟩ = some (.int .i64 (f j))) (hl : n ≤ 2000) :
    Calls Yba.prog 8 #[.slice (some ⟨g1, 0, none⟩) n c1, .slice (some ⟨g2, 0, none⟩) n c2] w fun e w' => e = .returned (.bool true) ∧ ∃ q, w' = w.drewN q := by
  have hc : ∀ {g}, (∀ j, j < n → w.cell? ⟨g, j, none⟩ = some (.int .i64 (f j))) → ∀ j, j < ((List.range n).map f).length → w.cell? ⟨g, 0 + j, none⟩ = some (Value.int .i64 ((List.range n).map f)[j]!) := fun h j hj => by
    have hj' : j < n := by simpa using hj
    rw [Nat.zero_add, h j hj']
    simp [hj']
  refine (AnyE.slices_Equal Yba.laysSlE33_f8 (Value.int .i64) (fun x y => x == y) (NeqAt.int _ _ _) g1 0 n c1 g2 0 n c2 ((List.range n).map f) ((List.range n).map f) w (by simp) (by simp) (by omega) (by omega) (hc h1) (hc h2)).mono ?_
  rintro e w' ⟨rfl, hq⟩
  exact ⟨by rw [allEq_self], hq⟩

/-! ### slices.Index, of what is there once -/
theorem index12 {w : World} {base g n cap k x : Nat} {xs : List Nat} (h : w.ownsRow base 3 1 (.slice (some ⟨g, 0, none⟩) n cap) n (encs xs)) (hl : xs.length ≤ 2000) (hk : xs[k]? = some x) (hne : ∀ j, j < k → xs[j]? ≠ some x) :
    Calls Yba.prog 12 #[.slice (some ⟨g, 0, none⟩) n cap, .int .i64 (x : Int)] w fun e w' => e = .returned (.int .i64 (k : Int)) ∧ w' = w := by
  have hkl : k < xs.length := (List.getElem?_eq_some_iff.1 hk).1
  have hn : xs.length = n := by have := h.1; simpa [encs] using this
  refine (Any.slices_Index_int Yba.lays108 g 0 n cap (xs.map fun n : Nat => (n : Int)) x w (by simp; omega) (by omega) (owns_cells h)).mono ?_
  rintro e w' ⟨rfl, rfl⟩
  refine ⟨?_, rfl⟩
  rw [Lib.idxOf_hit (xs.map fun n : Nat => (n : Int)) n k x (by omega) (by simp; omega) ?_ ?_]
  · simp [List.getD, hk]
  · intro j hj e
    have hj' : j < xs.length := by omega
    rw [List.getD, List.getElem?_map, List.getElem?_eq_getElem hj'] at e
    simp only [Option.map_some, Option.getD_some] at e
    exact hne j hj (by rw [List.getElem?_eq_getElem hj']; congr 1; omega)

/-! ### slices.Sort: what comes of a row whose elements, rising, are ys -/
theorem sorted_unique {xs ys : List Nat} (hp : xs.Perm ys) (hs : ys.Pairwise (· < ·)) :
    ((xs.map fun n : Nat => (n : Int)).mergeSort fun x y => decide (x ≤ y)) = ys.map fun n : Nat => (n : Int) := by
  refine List.Perm.eq_of_pairwise (le := fun x y : Int => x ≤ y) (fun a b _ _ h1 h2 => Int.le_antisymm h1 h2) ?_ ?_ ?_
  · have := List.pairwise_mergeSort (le := fun x y : Int => decide (x ≤ y)) (fun a b c h1 h2 => by simp at *; omega) (fun a b => by simp; omega) (xs.map fun n : Nat => (n : Int))
    exact this.imp fun h => by simpa using h
  · rw [List.pairwise_map]
    exact hs.imp fun h => by omega
  · exact (List.mergeSort_perm _ _).trans (hp.map _)
theorem sort11 {w : World} {base : Nat} {v : Value} {xs ys : List Nat} (h : w.ownsRow base 3 1 v xs.length (encs xs)) (hb : base ≤ w.heap.size) (hl : xs.length ≤ 2000) (hp : xs.Perm ys) (hs : ys.Pairwise (· < ·)) :
    Calls Yba.prog 11 #[v] w fun e w' => e = .returned (.tuple #[]) ∧ w'.ownsRow base 3 1 v ys.length (encs ys) ∧ Below base w w' := by
  have hly := hp.length_eq
  by_cases h0 : xs.length = 0
  · have f : ∃ a c, v = .slice a 0 c := by
      rcases owns_form h with ⟨rfl, _⟩ | ⟨g, cap, rfl⟩
      · exact ⟨_, _, rfl⟩
      · rw [h0]; exact ⟨_, _, rfl⟩
    have e1 : xs = [] := List.eq_nil_of_length_eq_zero h0
    have e2 : ys = [] := List.eq_nil_of_length_eq_zero (by omega)
    subst e1
    subst e2
    obtain ⟨a1, c1, rfl⟩ := f
    refine (Any.slices_Sort_int_none Yba.lays189 a1 c1 w).mono ?_
    rintro e w' ⟨rfl, rfl⟩
    exact ⟨rfl, h, Below.refl _ _⟩
  · rcases h.2 with ⟨_, h1⟩ | ⟨g, cap, cur, rfl, hbg, hg, hn, hc, hsz, ht⟩
    · exact absurd h1 h0
    have hH : Holds (Value.int .i64) w g 0 (xs.map fun n : Nat => (n : Int)).toArray := holds_of_blockI hg (by rw [List.length_map]; rw [Nat.mul_one] at ht; rw [ht]; exact encs_ints xs)
    have hc2 := Any.slices_Sort_int Yba.lays189 g 0 cap (xs.map fun n : Nat => (n : Int)) w hH (Array.getElem?_eq_some_iff.1 hg).1 (by simp; omega)
    rw [List.length_map] at hc2
    refine hc2.mono ?_
    rintro e w' ⟨rfl, nn, os, rfl⟩
    rw [sorted_unique hp hs]
    have ho := ownsRow_sortedI (w := w) (base := base) (g := g) (cap := cap) (n := nn) (e := 3) (os := os) (cur := cur) (ss := xs.map fun n : Nat => (n : Int)) (ts := ys.map fun n : Nat => (n : Int)) (by simp [hly]) hbg hg (by simpa using hn) hc hsz
    rw [← encs_ints, List.length_map, hly] at ho
    rw [hly]
    exact ⟨rfl, ho, (Below.refl base w).grown (grownBy_sortedI _) hb fun k hk => by cases hk; exact hbg⟩
end Go.Proofs.Ybulkqpu.mv
