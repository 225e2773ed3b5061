import Derived.Test.YbulkqpuLib
import Derived.Test.YbulkqpuLast
/-! The balancer's rows written in place, and cut; what a callee leaves alone. -/
namespace Go.Proofs.Ybulkqpu.mv
open Go.RowKit
set_option linter.unusedVariables false

/-- Below 'base' and from M on nothing old has turned. -/
structure Ch (base M : Nat) (w w' : World) : Prop where
  bel : Below base w w'
  up : ∀ k, M ≤ k → k < w.heap.size → w'.heap[k]? = w.heap[k]?

theorem Ch.refl (base M : Nat) (w : World) : Ch base M w w := ⟨Below.refl _ _, fun _ _ _ => rfl⟩
theorem Ch.trans {base M : Nat} {a b c : World} (h : Ch base M a b) (k : Ch base M b c) : Ch base M a c :=
  ⟨h.bel.trans k.bel, fun i h1 h2 => (k.up i h1 (Nat.lt_of_lt_of_le h2 h.bel.size)).trans (h.up i h1 h2)⟩
theorem Ch.drew {base M : Nat} {a b : World} (h : Ch base M a b) : Ch base M a b.drew := ⟨h.bel.drew, h.up⟩
theorem Ch.cell {base M : Nat} {w w' : World} (h : Ch base M w w') {g k : Nat} {v : Value} (hg : M ≤ g) (hc : w.cell? ⟨g, k, none⟩ = some v) : w'.cell? ⟨g, k, none⟩ = some v := by
  rw [World.cell?_of_block (w := w) (a := ⟨g, k, none⟩) (h.up g hg (World.block_lt_of_cell? _ _ hc))]; exact hc
theorem Ch.at {base M : Nat} {w w' : World} (h : Ch base M w w') {g : Nat} {cs : List Value} {t : TypeId} (hg : M ≤ g) (ha : At w g cs t) : At w' g cs t := by
  have hl := ha.lt
  unfold At at *
  rw [h.up g hg hl]; exact ha
theorem Ch.owns {base M B0 n : Nat} {w w' : World} (h : Ch base M w w') {e : TypeId} {v : Value} {xs : List Value} (hB : M ≤ B0) (ho : w.ownsRow B0 e 1 v n xs) : w'.ownsRow B0 e 1 v n xs :=
  owns_of_block ho fun g hg => h.up g (Nat.le_trans hB (owns_base ho hg).1) (owns_base ho hg).2
theorem Ch.setCell {base M g k : Nat} {w : World} (h1 : base ≤ g) (h2 : g < M) (v : Value) : Ch base M w (w.setCell ⟨g, k, none⟩ v) :=
  ⟨(Below.refl base w).setCell (p := ⟨g, k, none⟩) h1 v, fun i hi _ => Below.heap_setCell _ _ _ _ (by show i ≠ g; omega)⟩
theorem Ch.of_below {base M : Nat} {w w' : World} (hb : base ≤ w.heap.size) (h : Below w.heap.size w w') : Ch base M w w' := ⟨h.mono hb, fun k _ hk => h.block k hk⟩

/-- The move, boxed. -/
def MvAt (MB p fm to : Nat) (w : World) : Prop :=
  w.cell? ⟨MB, 0, none⟩ = some (.int .i64 (p : Int)) ∧ w.cell? ⟨MB, 1, none⟩ = some (.int .i64 (fm : Int)) ∧ w.cell? ⟨MB, 2, none⟩ = some (.int .i64 (to : Int))
theorem Ch.mv {base M MB p fm to : Nat} {w w' : World} (h : Ch base M w w') (hM : M ≤ MB) (hm : MvAt MB p fm to w) : MvAt MB p fm to w' := ⟨h.cell hM hm.1, h.cell hM hm.2.1, h.cell hM hm.2.2⟩

theorem encs_set (l : List Nat) (k x : Nat) : (encs l).set k (.int .i64 (x : Int)) = encs (l.set k x) := by
  unfold encs enc; rw [List.map_set]
theorem encs_dropLast (l : List Nat) : encs l.dropLast = (encs l).take (l.length - 1) := by
  unfold encs; rw [List.dropLast_eq_take, List.map_take]
theorem encs_length (l : List Nat) : (encs l).length = l.length := by simp [encs]

section
variable {base M np nb : Nat} {o : Bl} {ef : Nat → Nat} {ld us : Nat → Int} {F : Nat → Value} {xs : Nat → List Nat} {w : World}

/-- A store into a row. -/
theorem Mem.rowSet (h : Mem base M np nb o ef ld us F xs w) {j k x g n cap : Nat} (hj : j < np + nb) (hF : F j = .slice (some ⟨g, 0, none⟩) n cap) :
    Mem base M np nb o ef ld us F (upd xs j ((xs j).set k x)) (w.setCell ⟨g, k, none⟩ (.int .i64 (x : Int))) ∧ base ≤ g ∧ g < M := by
  have hown : (F j).ownBlock = some g := by rw [hF]; rfl
  obtain ⟨o1, o2, o3, o4, o5, o6, o7⟩ := h.off j g hj hown
  have hb := (owns_base (h.rows j hj) hown).1
  refine ⟨?_, hb, o7⟩
  have hrow := h.rows j hj
  have hn : n = (xs j).length := by
    rcases hrow.2 with ⟨e, _⟩ | ⟨g', cap', cur, e, _⟩
    · rw [hF] at e; cases e
    · rw [hF] at e; cases e; rfl
  subst hn
  have hst := (((hF ▸ hrow : w.ownsRow base 3 1 (.slice (some ⟨g, 0, none⟩) (xs j).length cap) (xs j).length (encs (xs j))).stored k (.int .i64 (x : Int)))).1
  rw [encs_set] at hst
  have hR : At (w.setCell ⟨g, k, none⟩ (.int .i64 (x : Int))) o.R ((List.range np).map (upd F j (F j))) 32 := by
    have e : upd F j (F j) = F := funext fun i => by unfold upd; split <;> simp_all
    rw [e]; exact h.hR.set_ne (Ne.symm o4) _ _
  have hH : At (w.setCell ⟨g, k, none⟩ (.int .i64 (x : Int))) o.H ((List.range nb).map fun b => upd F j (F j) (np + b)) 32 := by
    have e : upd F j (F j) = F := funext fun i => by unfold upd; split <;> simp_all
    rw [e]; exact h.hH.set_ne (Ne.symm o5) _ _
  have := h.row hj (v := F j) (ys := (xs j).set k x) (w2 := w) (w3 := w.setCell ⟨g, k, none⟩ (.int .i64 (x : Int))) (M' := M) (by rw [List.length_set, hF]; exact hst) (Nat.le_refl _) (by simpa using h.hM)
    (fun g' hg' => .inl hg') (fun i hi hne _ => Below.heap_setCell _ _ _ _ (fun e => hne (by rw [hown]; exact congrArg some e))) hR hH
  refine this.congr (fun _ _ => rfl) (fun _ _ => rfl) (fun _ _ => rfl) (fun i _ => ?_) (fun _ _ => rfl)
  unfold upd; split <;> simp_all

/-- 'bl.holds[b] = holds[:len(holds)-1]'. -/
theorem Mem.cutH (h : Mem base M np nb o ef ld us F xs w) {b g n cap : Nat} (hb : b < nb) (hF : F (np + b) = .slice (some ⟨g, 0, none⟩) n cap) (hn : 1 ≤ n) :
    Mem base M np nb o ef ld us (upd F (np + b) (.slice (some ⟨g, 0, none⟩) (n - 1) cap)) (upd xs (np + b) (xs (np + b)).dropLast) (w.setCell ⟨o.H, b, none⟩ (.slice (some ⟨g, 0, none⟩) (n - 1) cap)) := by
  have hj : np + b < np + nb := by omega
  have hown : (F (np + b)).ownBlock = some g := by rw [hF]; rfl
  obtain ⟨o1, o2, o3, o4, o5, o6, o7⟩ := h.off _ g hj hown
  obtain ⟨n1, n2, n3, n4, n5, n6, n7, n8, n9, n10, n11, n12, n13, n14, n15⟩ := h.ne
  have hrow := h.rows _ hj
  rcases hrow.2 with ⟨e, _⟩ | ⟨g', cap', cur, e, hbg, hg, hnc, hcm, hcs, ht⟩
  · rw [hF] at e; cases e
  rw [hF] at e
  cases e
  refine h.row hj (w2 := w) (M' := M) ?_ (Nat.le_refl _) (by simpa using h.hM) (fun g' hg' => .inl (by rw [hown]; exact hg')) (fun i hi _ hne => ?_) ?_ ?_
  · have hl : (xs (np + b)).dropLast.length = (xs (np + b)).length - 1 := List.length_dropLast
    refine ⟨by rw [encs_length]; omega, .inr ⟨g, cap, cur, by rw [hl], hbg, by rw [Below.heap_setCell _ _ _ _ (by exact o5)]; exact hg, by omega, hcm, hcs, ?_⟩⟩
    rw [encs_dropLast, hl, Nat.mul_one, ← ht, Nat.mul_one, List.take_take]
    congr 1
    omega
  · rw [if_neg (by omega)] at hne
    exact Below.heap_setCell _ _ _ _ hne
  · have := h.hR.set_ne n13 b (.slice (some ⟨g, 0, none⟩) ((xs (np + b)).length - 1) cap)
    refine (congrArg (fun l => At _ o.R l 32) (rm_congr fun k hk => ?_)).mp this
    rw [upd_ne _ _ _ (by omega)]
  · have := h.hH.set b (.slice (some ⟨g, 0, none⟩) ((xs (np + b)).length - 1) cap)
    rw [rm_set] at this
    refine (congrArg (fun l => At _ o.H l 32) (rm_congr fun k hk => ?_)).mp this
    unfold upd
    by_cases e : k = b
    · subst e; simp
    · rw [if_neg e, if_neg (by omega)]
end
end Go.Proofs.Ybulkqpu.mv
