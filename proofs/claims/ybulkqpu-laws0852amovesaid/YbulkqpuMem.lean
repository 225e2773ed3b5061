import Derived.Test.YbulkqpuBase
/-! The balancer in memory: six blocks, and a row of ints for each partition and each broker. -/
namespace Go.Proofs.Ybulkqpu.mv
open Go.RowKit
set_option linter.unusedVariables false

def enc (n : Nat) : Value := .int .i64 (n : Int)
def encs (l : List Nat) : List Value := l.map enc
def upd {α : Type} (f : Nat → α) (k : Nat) (v : α) : Nat → α := fun i => if i = k then v else f i
theorem upd_same {α : Type} (f : Nat → α) (k : Nat) (v : α) : upd f k v k = v := if_pos rfl
theorem upd_ne {α : Type} (f : Nat → α) (k : Nat) (v : α) {i : Nat} (h : i ≠ k) : upd f k v i = f i := if_neg h

/-- A row that is owned stays owned where its block is as it was. -/
theorem owns_of_block {w w' : World} {base n : Nat} {e : TypeId} {v : Value} {xs : List Value} (h : w.ownsRow base e 1 v n xs) (hb : ∀ g, v.ownBlock = some g → w'.heap[g]? = w.heap[g]?) : w'.ownsRow base e 1 v n xs := by
  refine ⟨h.1, ?_⟩
  rcases h.2 with hn | ⟨g, cap, cur, hv, h1, h2, rest⟩
  · exact .inl hn
  · exact .inr ⟨g, cap, cur, hv, h1, by rw [hb g (by rw [hv]; rfl)]; exact h2, rest⟩
theorem owns_base {w : World} {base n g : Nat} {e : TypeId} {v : Value} {xs : List Value} (h : w.ownsRow base e 1 v n xs) (hg : v.ownBlock = some g) : base ≤ g ∧ g < w.heap.size := by
  rcases h.2 with ⟨rfl, _⟩ | ⟨g', cap, cur, rfl, h1, h2, rest⟩
  · simp [Value.ownBlock] at hg
  · simp [Value.ownBlock] at hg; subst hg
    exact ⟨h1, (Array.getElem?_eq_some_iff.1 h2).1⟩

structure Bl where
  E : Nat
  B : Nat
  L : Nat
  R : Nat
  H : Nat
  U : Nat

structure Mem (base M np nb : Nat) (o : Bl) (ef : Nat → Nat) (ld us : Nat → Int) (F : Nat → Value) (xs : Nat → List Nat) (w : World) : Prop where
  hE : At w o.E ((List.range np).map fun i => Value.int .u8 (ef i : Int)) 5
  b4 : w.cell? ⟨o.B, 4, none⟩ = some (.slice (some ⟨o.L, 0, none⟩) np np)
  b5 : w.cell? ⟨o.B, 5, none⟩ = some (.slice (some ⟨o.R, 0, none⟩) np np)
  b6 : w.cell? ⟨o.B, 6, none⟩ = some (.slice (some ⟨o.H, 0, none⟩) nb nb)
  b7 : w.cell? ⟨o.B, 7, none⟩ = some (.slice (some ⟨o.U, 0, none⟩) nb nb)
  hL : At w o.L ((List.range np).map fun i => Value.int .i64 (ld i)) 29
  hR : At w o.R ((List.range np).map F) 32
  hH : At w o.H ((List.range nb).map fun b => F (np + b)) 32
  hU : At w o.U ((List.range nb).map fun b => Value.int .i64 (us b)) 29
  rows : ∀ j, j < np + nb → w.ownsRow base 3 1 (F j) (xs j).length (encs (xs j))
  apart : ∀ j k g, j < np + nb → k < np + nb → (F j).ownBlock = some g → (F k).ownBlock = some g → j = k
  off : ∀ j g, j < np + nb → (F j).ownBlock = some g → g ≠ o.E ∧ g ≠ o.B ∧ g ≠ o.L ∧ g ≠ o.R ∧ g ≠ o.H ∧ g ≠ o.U ∧ g < M
  nd : [o.E, o.B, o.L, o.R, o.H, o.U].Nodup
  lo : base ≤ o.E ∧ base ≤ o.B ∧ base ≤ o.L ∧ base ≤ o.R ∧ base ≤ o.H ∧ base ≤ o.U
  hi : o.E < M ∧ o.B < M ∧ o.L < M ∧ o.R < M ∧ o.H < M ∧ o.U < M
  hM : M ≤ w.heap.size

section
variable {base M np nb : Nat} {o : Bl} {ef : Nat → Nat} {ld us : Nat → Int} {F : Nat → Value} {xs : Nat → List Nat} {w w' : World}

theorem Mem.ne (h : Mem base M np nb o ef ld us F xs w) : o.E ≠ o.B ∧ o.E ≠ o.L ∧ o.E ≠ o.R ∧ o.E ≠ o.H ∧ o.E ≠ o.U ∧ o.B ≠ o.L ∧ o.B ≠ o.R ∧ o.B ≠ o.H ∧ o.B ≠ o.U ∧ o.L ≠ o.R ∧ o.L ≠ o.H ∧ o.L ≠ o.U ∧ o.R ≠ o.H ∧ o.R ≠ o.U ∧ o.H ≠ o.U := by
  have := h.nd
  simp at this
  omega

/-- What lies below M is as it was: all stands. -/
theorem Mem.below (h : Mem base M np nb o ef ld us F xs w) (hb : Below M w w') : Mem base M np nb o ef ld us F xs w' where
  hE := h.hE.below hb h.hi.1
  b4 := by rw [hb.cell (p := ⟨o.B, 4, none⟩) h.hi.2.1]; exact h.b4
  b5 := by rw [hb.cell (p := ⟨o.B, 5, none⟩) h.hi.2.1]; exact h.b5
  b6 := by rw [hb.cell (p := ⟨o.B, 6, none⟩) h.hi.2.1]; exact h.b6
  b7 := by rw [hb.cell (p := ⟨o.B, 7, none⟩) h.hi.2.1]; exact h.b7
  hL := h.hL.below hb h.hi.2.2.1
  hR := h.hR.below hb h.hi.2.2.2.1
  hH := h.hH.below hb h.hi.2.2.2.2.1
  hU := h.hU.below hb h.hi.2.2.2.2.2
  rows := fun j hj => owns_of_block (h.rows j hj) fun g hg => hb.block g (h.off j g hj hg).2.2.2.2.2.2
  apart := h.apart
  off := h.off
  nd := h.nd
  lo := h.lo
  hi := h.hi
  hM := Nat.le_trans h.hM hb.size

theorem Mem.draw (h : Mem base M np nb o ef ld us F xs w) : Mem base M np nb o ef ld us F xs w.drew := h.below (Below.refl _ _).drew

/-- A greater bound. -/
theorem Mem.up (h : Mem base M np nb o ef ld us F xs w) {M' : Nat} (h1 : M ≤ M') (h2 : M' ≤ w.heap.size) : Mem base M' np nb o ef ld us F xs w :=
  { h with
    off := fun j g hj hg => by obtain ⟨a, b, c, d, e, f, i⟩ := h.off j g hj hg; exact ⟨a, b, c, d, e, f, by omega⟩
    hi := by obtain ⟨a, b, c, d, e, f⟩ := h.hi; omega
    hM := h2 }

theorem cell_set_ne {w : World} {g g' k k' : Nat} {v u : Value} (h : w.cell? ⟨g, k, none⟩ = some v) (hne : g ≠ g') : (w.setCell ⟨g', k', none⟩ u).cell? ⟨g, k, none⟩ = some v := by
  rw [World.cell?_of_block (w := w) (a := ⟨g, k, none⟩) (Below.heap_setCell _ _ _ _ hne)]; exact h

theorem cell_alloc {w : World} {g k : Nat} {v : Value} (o : Obj) (h : w.cell? ⟨g, k, none⟩ = some v) : (w.alloc o).cell? ⟨g, k, none⟩ = some v := by
  rw [World.cell?_of_block (w := w) (a := ⟨g, k, none⟩) (Below.heap_alloc _ _ _ (World.block_lt_of_cell? _ _ h))]; exact h
theorem frozen_alloc {w : World} {g k : Nat} (o : Obj) (hl : g < w.heap.size) (h : w.frozen? ⟨g, k, none⟩ = false) : (w.alloc o).frozen? ⟨g, k, none⟩ = false := by
  rw [World.frozen?_of_block (w := w) (a := ⟨g, k, none⟩) (Below.heap_alloc _ _ _ hl)]; exact h

theorem Mem.setE (h : Mem base M np nb o ef ld us F xs w) (k v : Nat) : Mem base M np nb o (upd ef k v) ld us F xs (w.setCell ⟨o.E, k, none⟩ (.int .u8 (v : Int))) := by
  obtain ⟨n1, n2, n3, n4, n5, n6, n7, n8, n9, n10, n11, n12, n13, n14, n15⟩ := h.ne
  exact { h with
    hE := by
      have := h.hE.set k (.int .u8 (v : Int))
      rw [rm_set] at this
      refine (congrArg (fun l => At _ o.E l 5) (rm_congr fun i hi => ?_)).mp this
      unfold upd; split <;> rfl
    b4 := cell_set_ne h.b4 (Ne.symm n1)
    b5 := cell_set_ne h.b5 (Ne.symm n1)
    b6 := cell_set_ne h.b6 (Ne.symm n1)
    b7 := cell_set_ne h.b7 (Ne.symm n1)
    hL := h.hL.set_ne (Ne.symm n2) _ _
    hR := h.hR.set_ne (Ne.symm n3) _ _
    hH := h.hH.set_ne (Ne.symm n4) _ _
    hU := h.hU.set_ne (Ne.symm n5) _ _
    rows := fun j hj => owns_of_block (h.rows j hj) fun g hg => Below.heap_setCell _ _ _ _ (h.off j g hj hg).1
    hM := by simpa using h.hM }

theorem Mem.setL (h : Mem base M np nb o ef ld us F xs w) (k : Nat) (v : Int) : Mem base M np nb o ef (upd ld k v) us F xs (w.setCell ⟨o.L, k, none⟩ (.int .i64 v)) := by
  obtain ⟨n1, n2, n3, n4, n5, n6, n7, n8, n9, n10, n11, n12, n13, n14, n15⟩ := h.ne
  exact { h with
    hL := by
      have := h.hL.set k (.int .i64 v)
      rw [rm_set] at this
      refine (congrArg (fun l => At _ o.L l 29) (rm_congr fun i hi => ?_)).mp this
      unfold upd; split <;> rfl
    b4 := cell_set_ne h.b4 n6
    b5 := cell_set_ne h.b5 n6
    b6 := cell_set_ne h.b6 n6
    b7 := cell_set_ne h.b7 n6
    hE := h.hE.set_ne n2 _ _
    hR := h.hR.set_ne (Ne.symm n10) _ _
    hH := h.hH.set_ne (Ne.symm n11) _ _
    hU := h.hU.set_ne (Ne.symm n12) _ _
    rows := fun j hj => owns_of_block (h.rows j hj) fun g hg => Below.heap_setCell _ _ _ _ (h.off j g hj hg).2.2.1
    hM := by simpa using h.hM }

theorem Mem.setU (h : Mem base M np nb o ef ld us F xs w) (k : Nat) (v : Int) : Mem base M np nb o ef ld (upd us k v) F xs (w.setCell ⟨o.U, k, none⟩ (.int .i64 v)) := by
  obtain ⟨n1, n2, n3, n4, n5, n6, n7, n8, n9, n10, n11, n12, n13, n14, n15⟩ := h.ne
  exact { h with
    hU := by
      have := h.hU.set k (.int .i64 v)
      rw [rm_set] at this
      refine (congrArg (fun l => At _ o.U l 29) (rm_congr fun i hi => ?_)).mp this
      unfold upd; split <;> rfl
    b4 := cell_set_ne h.b4 n9
    b5 := cell_set_ne h.b5 n9
    b6 := cell_set_ne h.b6 n9
    b7 := cell_set_ne h.b7 n9
    hE := h.hE.set_ne n5 _ _
    hL := h.hL.set_ne n12 _ _
    hR := h.hR.set_ne n14 _ _
    hH := h.hH.set_ne n15 _ _
    rows := fun j hj => owns_of_block (h.rows j hj) fun g hg => Below.heap_setCell _ _ _ _ (h.off j g hj hg).2.2.2.2.2.1
    hM := by simpa using h.hM }

/-- The rows, with row j turned: what a new value in its place owes. -/
theorem Mem.row (h : Mem base M np nb o ef ld us F xs w) {j : Nat} (hj : j < np + nb) {v : Value} {ys : List Nat} {w2 w3 : World} {M' : Nat}
    (hr : w3.ownsRow base 3 1 v ys.length (encs ys)) (hsz : M ≤ M') (hM' : M' ≤ w3.heap.size)
    (hg : ∀ g, v.ownBlock = some g → (F j).ownBlock = some g ∨ (M ≤ g ∧ g < M'))
    (hkeep : ∀ k, k < M → some k ≠ (F j).ownBlock → k ≠ (if j < np then o.R else o.H) → w3.heap[k]? = w.heap[k]?)
    (hR : At w3 o.R ((List.range np).map (upd F j v)) 32) (hH : At w3 o.H ((List.range nb).map fun b => upd F j v (np + b)) 32) :
    Mem base M' np nb o ef ld us (upd F j v) (upd xs j ys) w3 := by
  obtain ⟨n1, n2, n3, n4, n5, n6, n7, n8, n9, n10, n11, n12, n13, n14, n15⟩ := h.ne
  obtain ⟨i1, i2, i3, i4, i5, i6⟩ := h.hi
  have own : ∀ g, (F j).ownBlock = some g → g ≠ o.E ∧ g ≠ o.B ∧ g ≠ o.L ∧ g ≠ o.R ∧ g ≠ o.H ∧ g ≠ o.U ∧ g < M := fun g => h.off j g hj
  have keepE : w3.heap[o.E]? = w.heap[o.E]? := hkeep _ i1 (fun e => (own _ e.symm).1 rfl) (by split <;> assumption)
  have keepB : w3.heap[o.B]? = w.heap[o.B]? := hkeep _ i2 (fun e => (own _ e.symm).2.1 rfl) (by split <;> assumption)
  have keepL : w3.heap[o.L]? = w.heap[o.L]? := hkeep _ i3 (fun e => (own _ e.symm).2.2.1 rfl) (by split <;> assumption)
  have keepU : w3.heap[o.U]? = w.heap[o.U]? := hkeep _ i6 (fun e => (own _ e.symm).2.2.2.2.2.1 rfl) (by split; exact Ne.symm n14; exact Ne.symm n15)
  have cB : ∀ k, w3.cell? ⟨o.B, k, none⟩ = w.cell? ⟨o.B, k, none⟩ := fun k => World.cell?_of_block (w := w) (a := ⟨o.B, k, none⟩) keepB
  refine { hE := ?_, b4 := by rw [cB]; exact h.b4, b5 := by rw [cB]; exact h.b5, b6 := by rw [cB]; exact h.b6, b7 := by rw [cB]; exact h.b7, hL := ?_, hR := hR, hH := hH, hU := ?_, rows := ?_, apart := ?_, off := ?_, nd := h.nd, lo := h.lo, hi := by omega, hM := hM' }
  · have := h.hE; unfold At at *; rw [keepE]; exact this
  · have := h.hL; unfold At at *; rw [keepL]; exact this
  · have := h.hU; unfold At at *; rw [keepU]; exact this
  · intro i hi
    by_cases e : i = j
    · subst e; rw [upd_same, upd_same]; exact hr
    · rw [upd_ne _ _ _ e, upd_ne _ _ _ e]
      refine owns_of_block (h.rows i hi) fun g hg' => hkeep g (h.off i g hi hg').2.2.2.2.2.2 (fun e' => e (h.apart i j g hi hj hg' e'.symm)) ?_
      have := h.off i g hi hg'
      split
      · exact this.2.2.2.1
      · exact this.2.2.2.2.1
  · intro i k g hi hk h1 h2
    by_cases e1 : i = j
    · by_cases e2 : k = j
      · rw [e1, e2]
      · rw [e1, upd_same] at h1
        rw [upd_ne _ _ _ e2] at h2
        rcases hg g h1 with h3 | h3
        · rw [e1]; exact h.apart j k g hj hk h3 h2
        · have := (h.off k g hk h2).2.2.2.2.2.2; omega
    · rw [upd_ne _ _ _ e1] at h1
      by_cases e2 : k = j
      · rw [e2, upd_same] at h2
        rcases hg g h2 with h3 | h3
        · rw [e2]; exact h.apart i j g hi hj h1 h3
        · have := (h.off i g hi h1).2.2.2.2.2.2; omega
      · rw [upd_ne _ _ _ e2] at h2
        exact h.apart i k g hi hk h1 h2
  · intro i g hi h1
    by_cases e1 : i = j
    · rw [e1, upd_same] at h1
      rcases hg g h1 with h3 | h3
      · obtain ⟨a, b, c, d, e, f, t⟩ := own g h3; exact ⟨a, b, c, d, e, f, by omega⟩
      · refine ⟨?_, ?_, ?_, ?_, ?_, ?_, h3.2⟩ <;> omega
    · rw [upd_ne _ _ _ e1] at h1
      obtain ⟨a, b, c, d, e, f, t⟩ := h.off i g hi h1; exact ⟨a, b, c, d, e, f, by omega⟩

theorem Mem.congr {ef' : Nat → Nat} {ld' us' : Nat → Int} {F' : Nat → Value} {xs' : Nat → List Nat} (h : Mem base M np nb o ef ld us F xs w)
    (he : ∀ i, i < np → ef i = ef' i) (hl : ∀ i, i < np → ld i = ld' i) (hu : ∀ b, b < nb → us b = us' b) (hF : ∀ j, j < np + nb → F j = F' j) (hx : ∀ j, j < np + nb → xs j = xs' j) :
    Mem base M np nb o ef' ld' us' F' xs' w where
  hE := by rw [← rm_congr (f := fun i => Value.int .u8 (ef i : Int)) (fun i hi => by rw [he i hi])]; exact h.hE
  b4 := h.b4
  b5 := h.b5
  b6 := h.b6
  b7 := h.b7
  hL := by rw [← rm_congr (f := fun i => Value.int .i64 (ld i)) (fun i hi => by rw [hl i hi])]; exact h.hL
  hR := by rw [← rm_congr (f := F) (fun i hi => hF i (by omega))]; exact h.hR
  hH := by rw [← rm_congr (f := fun b => F (np + b)) (fun i hi => hF _ (by omega))]; exact h.hH
  hU := by rw [← rm_congr (f := fun b => Value.int .i64 (us b)) (fun i hi => by rw [hu i hi])]; exact h.hU
  rows := fun j hj => by rw [← hF j hj, ← hx j hj]; exact h.rows j hj
  apart := fun j k g hj hk h1 h2 => h.apart j k g hj hk (by rw [hF j hj]; exact h1) (by rw [hF k hk]; exact h2)
  off := fun j g hj hg => h.off j g hj (by rw [hF j hj]; exact hg)
  nd := h.nd
  lo := h.lo
  hi := h.hi
  hM := h.hM

theorem encs_snoc (l : List Nat) (x : Nat) : encs l ++ [Value.int .i64 (x : Int)] = encs (l ++ [x]) := by simp [encs, enc]

/-- 'bl.replicas[i] = append(bl.replicas[i], x)'. -/
theorem Mem.pushR (h : Mem base M np nb o ef ld us F xs w) {i x g cap : Nat} {o1 : Obj} {w1 : World} (hi : i < np)
    (hown : w1.ownsRow base 3 1 (.slice (some ⟨g, 0, none⟩) ((xs i).length + 1) cap) ((xs i).length + 1) (encs (xs i) ++ [.int .i64 (x : Int)]))
    (hgrow : (w.alloc o1).drew.grownBy w1 (F i).ownBlock) (hat : (F i).ownBlock = some g ∨ g = w.heap.size + 1) (hlt : g < w1.heap.size) :
    Mem base w1.heap.size np nb o ef ld us (upd F i (.slice (some ⟨g, 0, none⟩) ((xs i).length + 1) cap)) (upd xs i (xs i ++ [x])) (w1.setCell ⟨o.R, i, none⟩ (.slice (some ⟨g, 0, none⟩) ((xs i).length + 1) cap)) ∧
      Below base w (w1.setCell ⟨o.R, i, none⟩ (.slice (some ⟨g, 0, none⟩) ((xs i).length + 1) cap)) := by
  have hj : i < np + nb := by omega
  have hM := h.hM
  obtain ⟨n1, n2, n3, n4, n5, n6, n7, n8, n9, n10, n11, n12, n13, n14, n15⟩ := h.ne
  obtain ⟨i1, i2, i3, i4, i5, i6⟩ := h.hi
  have sz := hgrow.size
  simp only [World.size_drew, World.size_alloc] at sz
  have gR : g ≠ o.R := by
    rcases hat with e | e
    · exact (h.off i g hj e).2.2.2.1
    · omega
  have keep : ∀ k, k < M → some k ≠ (F i).ownBlock → w1.heap[k]? = w.heap[k]? := fun k hk hne => by
    rw [hgrow.block k (by simp; omega) hne]
    exact Below.heap_alloc _ _ _ (by omega)
  have aR : At w1 o.R ((List.range np).map F) 32 := by
    have := h.hR; unfold At at *; rw [keep _ i4 (fun e => (h.off i _ hj e.symm).2.2.2.1 rfl)]; exact this
  have aH : At w1 o.H ((List.range nb).map fun b => F (np + b)) 32 := by
    have := h.hH; unfold At at *; rw [keep _ i5 (fun e => (h.off i _ hj e.symm).2.2.2.2.1 rfl)]; exact this
  refine ⟨h.row hj (w2 := w1) ?_ (by omega) (by simp) ?_ ?_ ?_ ?_, ?_⟩
  · rw [List.length_append, List.length_singleton, ← encs_snoc]
    exact owns_of_block hown fun g' hg' => by
      simp only [Value.ownBlock, Option.some.injEq] at hg'; subst hg'
      exact Below.heap_setCell _ _ _ _ gR
  · intro g' hg'
    simp only [Value.ownBlock, Option.some.injEq] at hg'; subst hg'
    rcases hat with e | e
    · exact .inl e
    · exact .inr ⟨by omega, hlt⟩
  · intro k hk hne hnR
    rw [if_pos hi] at hnR
    rw [Below.heap_setCell _ _ _ _ hnR]; exact keep k hk hne
  · have := aR.set i (.slice (some ⟨g, 0, none⟩) ((xs i).length + 1) cap)
    rw [rm_set] at this
    exact this
  · have := aH.set_ne (Ne.symm n13) i (.slice (some ⟨g, 0, none⟩) ((xs i).length + 1) cap)
    refine (congrArg (fun l => At _ o.H l 32) (rm_congr fun b hb => ?_)).mp this
    rw [upd_ne _ _ _ (by omega)]
  · refine Below.setCell (p := ⟨o.R, i, none⟩) ?_ h.lo.2.2.2.1 _
    refine Below.grown ((Below.refl base w).alloc (by have := h.lo; omega) o1).drew hgrow (by simp; have := h.lo; omega) fun k hk => (owns_base (h.rows i hj) hk).1

/-- 'bl.holds[b] = append(bl.holds[b], x)'. -/
theorem Mem.pushH (h : Mem base M np nb o ef ld us F xs w) {b x g cap : Nat} {o1 : Obj} {w1 : World} (hb : b < nb)
    (hown : w1.ownsRow base 3 1 (.slice (some ⟨g, 0, none⟩) ((xs (np + b)).length + 1) cap) ((xs (np + b)).length + 1) (encs (xs (np + b)) ++ [.int .i64 (x : Int)]))
    (hgrow : (w.alloc o1).drew.grownBy w1 (F (np + b)).ownBlock) (hat : (F (np + b)).ownBlock = some g ∨ g = w.heap.size + 1) (hlt : g < w1.heap.size) :
    Mem base w1.heap.size np nb o ef ld us (upd F (np + b) (.slice (some ⟨g, 0, none⟩) ((xs (np + b)).length + 1) cap)) (upd xs (np + b) (xs (np + b) ++ [x])) (w1.setCell ⟨o.H, b, none⟩ (.slice (some ⟨g, 0, none⟩) ((xs (np + b)).length + 1) cap)) ∧
      Below base w (w1.setCell ⟨o.H, b, none⟩ (.slice (some ⟨g, 0, none⟩) ((xs (np + b)).length + 1) cap)) := by
  have hj : np + b < np + nb := by omega
  have hM := h.hM
  obtain ⟨n1, n2, n3, n4, n5, n6, n7, n8, n9, n10, n11, n12, n13, n14, n15⟩ := h.ne
  obtain ⟨i1, i2, i3, i4, i5, i6⟩ := h.hi
  have sz := hgrow.size
  simp only [World.size_drew, World.size_alloc] at sz
  have gH : g ≠ o.H := by
    rcases hat with e | e
    · exact (h.off _ g hj e).2.2.2.2.1
    · omega
  have keep : ∀ k, k < M → some k ≠ (F (np + b)).ownBlock → w1.heap[k]? = w.heap[k]? := fun k hk hne => by
    rw [hgrow.block k (by simp; omega) hne]
    exact Below.heap_alloc _ _ _ (by omega)
  have aR : At w1 o.R ((List.range np).map F) 32 := by
    have := h.hR; unfold At at *; rw [keep _ i4 (fun e => (h.off _ _ hj e.symm).2.2.2.1 rfl)]; exact this
  have aH : At w1 o.H ((List.range nb).map fun b => F (np + b)) 32 := by
    have := h.hH; unfold At at *; rw [keep _ i5 (fun e => (h.off _ _ hj e.symm).2.2.2.2.1 rfl)]; exact this
  refine ⟨h.row hj (w2 := w1) ?_ (by omega) (by simp) ?_ ?_ ?_ ?_, ?_⟩
  · rw [List.length_append, List.length_singleton, ← encs_snoc]
    exact owns_of_block hown fun g' hg' => by
      simp only [Value.ownBlock, Option.some.injEq] at hg'; subst hg'
      exact Below.heap_setCell _ _ _ _ gH
  · intro g' hg'
    simp only [Value.ownBlock, Option.some.injEq] at hg'; subst hg'
    rcases hat with e | e
    · exact .inl e
    · exact .inr ⟨by omega, hlt⟩
  · intro k hk hne hnR
    rw [if_neg (by omega)] at hnR
    rw [Below.heap_setCell _ _ _ _ hnR]; exact keep k hk hne
  · have := aR.set_ne n13 b (.slice (some ⟨g, 0, none⟩) ((xs (np + b)).length + 1) cap)
    refine (congrArg (fun l => At _ o.R l 32) (rm_congr fun k hk => ?_)).mp this
    rw [upd_ne _ _ _ (by omega)]
  · have := aH.set b (.slice (some ⟨g, 0, none⟩) ((xs (np + b)).length + 1) cap)
    rw [rm_set] at this
    refine (congrArg (fun l => At _ o.H l 32) (rm_congr fun k hk => ?_)).mp this
    unfold upd
    by_cases e : k = b
    · subst e; simp
    · rw [if_neg e, if_neg (by omega)]
  · refine Below.setCell (p := ⟨o.H, b, none⟩) ?_ h.lo.2.2.2.2.1 _
    refine Below.grown ((Below.refl base w).alloc (by have := h.lo; omega) o1).drew hgrow (by simp; have := h.lo; omega) fun k hk => (owns_base (h.rows _ hj) hk).1

/-- The balancer as it is made: zeros and nil rows. -/
theorem mem_init {E B L R H U : Nat} (hE : At w E ((List.range np).map fun i => Value.int .u8 (ef i : Int)) 5)
    (b4 : w.cell? ⟨B, 4, none⟩ = some (.slice (some ⟨L, 0, none⟩) np np)) (b5 : w.cell? ⟨B, 5, none⟩ = some (.slice (some ⟨R, 0, none⟩) np np))
    (b6 : w.cell? ⟨B, 6, none⟩ = some (.slice (some ⟨H, 0, none⟩) nb nb)) (b7 : w.cell? ⟨B, 7, none⟩ = some (.slice (some ⟨U, 0, none⟩) nb nb))
    (hL : At w L ((List.range np).map fun _ => Value.int .i64 0) 29) (hR : At w R ((List.range np).map fun _ => Value.slice none 0 0) 32)
    (hH : At w H ((List.range nb).map fun _ => Value.slice none 0 0) 32) (hU : At w U ((List.range nb).map fun _ => Value.int .i64 0) 29)
    (nd : [E, B, L, R, H, U].Nodup) (lo : base ≤ E ∧ base ≤ B ∧ base ≤ L ∧ base ≤ R ∧ base ≤ H ∧ base ≤ U) :
    Mem base w.heap.size np nb ⟨E, B, L, R, H, U⟩ ef (fun _ => 0) (fun _ => 0) (fun _ => .slice none 0 0) (fun _ => []) w where
  hE := hE
  b4 := b4
  b5 := b5
  b6 := b6
  b7 := b7
  hL := hL
  hR := hR
  hH := hH
  hU := hU
  rows := fun j hj => ⟨rfl, .inl ⟨rfl, rfl⟩⟩
  apart := fun j k g _ _ h1 _ => by simp [Value.ownBlock] at h1
  off := fun j g _ h1 => by simp [Value.ownBlock] at h1
  nd := nd
  lo := lo
  hi := ⟨hE.lt, World.block_lt_of_cell? _ _ b4, hL.lt, hR.lt, hH.lt, hU.lt⟩
  hM := Nat.le_refl _
end
end Go.Proofs.Ybulkqpu.mv
