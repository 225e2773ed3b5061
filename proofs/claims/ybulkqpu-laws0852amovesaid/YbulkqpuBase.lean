import Derived.Test.YbulkqpuRows
import Derived.WalkKit
import Derived.ProofKit
import Derived.Deep.AppendLies
import Derived.Deep.Draws
import Derived.Laws.BitsAllLaws
import Derived.Laws.ShiftsVarLaws
/-! The memory of 'balance.LawS0852AMove': blocks that are known whole, the balancer's six blocks, its rows. -/
namespace Go.Proofs.Ybulkqpu.mv
open Go.RowKit
set_option linter.unusedVariables false

/-! ### Statements of a body -/
def stmt : Nat → Code → Code
  | 0, .seq a _ => a
  | n + 1, .seq _ b => stmt n b
  | _, c => c
def after : Nat → Code → Code
  | 0, c => c
  | n + 1, .seq _ b => after n b
  | _, c => c

/-! ### A block that is known whole -/
def At (w : World) (g : Nat) (cs : List Value) (t : TypeId) : Prop := w.heap[g]? = some (.cells cs.toArray t (0, 0))

section
variable {w w' : World} {g g' k : Nat} {cs : List Value} {t : TypeId} {v : Value}
theorem At.cell (h : At w g cs t) (hk : cs[k]? = some v) : w.cell? ⟨g, k, none⟩ = some v := by
  rw [cell_of_row w g k _ t _ h]; simpa using hk
theorem At.frozen (h : At w g cs t) (k : Nat) : w.frozen? ⟨g, k, none⟩ = false := by
  unfold At at h; simp [World.frozen?, h]
theorem At.lt (h : At w g cs t) : g < w.heap.size := (Array.getElem?_eq_some_iff.1 h).1
theorem At.set (h : At w g cs t) (k : Nat) (v : Value) : At (w.setCell ⟨g, k, none⟩ v) g (cs.set k v) t := by
  unfold At at *
  simp [World.setCell, Array.getElem?_modify, h]
theorem At.set_ne (h : At w g cs t) (hne : g ≠ g') (k : Nat) (v : Value) : At (w.setCell ⟨g', k, none⟩ v) g cs t := by
  unfold At at *
  rw [Below.heap_setCell _ _ _ _ hne]; exact h
theorem At.alloc (h : At w g cs t) (o : Obj) : At (w.alloc o) g cs t := by
  have hl := h.lt
  unfold At at *
  rw [Below.heap_alloc _ _ _ hl]; exact h
theorem At.drew (h : At w g cs t) : At w.drew g cs t := h
theorem At.drewN (h : At w g cs t) (n : Nat) : At (w.drewN n) g cs t := h
theorem At.below {B : Nat} (h : At w g cs t) (hb : Below B w w') (hg : g < B) : At w' g cs t := by
  unfold At at *
  rw [hb.block g hg]; exact h
theorem At.grown {row : Option Nat} (h : At w g cs t) (hg : w.grownBy w' row) (hne : row ≠ some g) : At w' g cs t := by
  have hl := h.lt
  unfold At at *
  rw [hg.block g hl (Ne.symm hne)]; exact h
theorem at_new (w : World) (cs : List Value) (t : TypeId) : At (w.alloc (.cells cs.toArray t)) w.heap.size cs t := by
  unfold At
  show (w.heap.push _)[w.heap.size]? = _
  simp
end

/-! ### Lists over a range -/
theorem rm_get {α : Type} (f : Nat → α) (n k : Nat) (h : k < n) : ((List.range n).map f)[k]? = some (f k) := by
  simp [h]
theorem rm_set {α : Type} (f : Nat → α) (n k : Nat) (v : α) : ((List.range n).map f).set k v = (List.range n).map fun i => if i = k then v else f i := by
  apply List.ext_getElem?
  intro i
  by_cases hi : i < n
  · by_cases hk : i = k
    · subst hk; simp [hi]
    · simp [hi, hk, Ne.symm hk]
  · have h1 : (((List.range n).map f).set k v)[i]? = none := by simp; omega
    have h2 : ((List.range n).map fun i => if i = k then v else f i)[i]? = none := by simp; omega
    rw [h1, h2]
theorem rm_replicate {α : Type} (n : Nat) (v : α) : (Array.replicate n v) = ((List.range n).map fun _ => v).toArray := by
  apply Array.ext'
  simp [List.map_const']
theorem rm_congr {α : Type} {f g : Nat → α} {n : Nat} (h : ∀ i, i < n → f i = g i) : (List.range n).map f = (List.range n).map g :=
  List.map_congr_left fun i hi => h i (List.mem_range.1 hi)

/-! ### make([]T, n, n) -/
theorem made {t e : TypeId} {z : Value} {by_ : Nat} (ht : Yba.prog.underlying t = some (.slice e)) (hinfo : (Yba.prog.info? e).map (fun i => (i.zero, i.size, i.bytes)) = some (some z, 1, by_)) (hz : z.cells = #[z])
    (n : Nat) (hn : by_ * n ≤ 281474976710656) (h63 : n ≤ 1024) (w : World) :
    (Instr.makeSlice t (.int .i64 (n : Int)) (.int .i64 (n : Int))).run Yba.prog w = .ok (.slice (some ⟨w.heap.size, 0, none⟩) n n) (w.alloc (.cells ((List.range n).map fun _ => z).toArray e)) := by
  obtain ⟨i0, hi, hz0, hz1, hz2⟩ := info_parts hinfo
  rw [run_make w t e i0 z ht hi hz0 .i64 .i64 n n (by omega) (Int.le_refl _) (by rw [hz2, ← Int.natCast_mul]; omega) (by omega)]
  rw [hz1, hz]
  have : madeCells #[z] ((n : Int).toNat * 1) = ((List.range n).map fun _ => z).toArray := by
    apply Array.ext'
    rw [toList_madeCells_one]
    simp [List.map_const']
  rw [this]
  simp
theorem info5 : (Yba.prog.info? 5).map (fun i => (i.zero, i.size, i.bytes)) = some (some (.int .u8 0), 1, 1) := by kernel_rfl
theorem info29 : (Yba.prog.info? 29).map (fun i => (i.zero, i.size, i.bytes)) = some (some (.int .i64 0), 1, 8) := by kernel_rfl
theorem info32 : (Yba.prog.info? 32).map (fun i => (i.zero, i.size, i.bytes)) = some (some (.slice none 0 0), 1, 24) := by kernel_rfl
theorem info3 : (Yba.prog.info? 3).map (fun i => (i.zero, i.size, i.bytes)) = some (some (.int .i64 0), 1, 8) := by kernel_rfl
theorem made22 (n : Nat) (h : n ≤ 1024) (w : World) : (Instr.makeSlice 22 (.int .i64 (n : Int)) (.int .i64 (n : Int))).run Yba.prog w = .ok (.slice (some ⟨w.heap.size, 0, none⟩) n n) (w.alloc (.cells ((List.range n).map fun _ => Value.int .u8 0).toArray 5)) :=
  made Yba.underlying22 info5 rfl n (by omega) h w
theorem made26 (n : Nat) (h : n ≤ 1024) (w : World) : (Instr.makeSlice 26 (.int .i64 (n : Int)) (.int .i64 (n : Int))).run Yba.prog w = .ok (.slice (some ⟨w.heap.size, 0, none⟩) n n) (w.alloc (.cells ((List.range n).map fun _ => Value.int .i64 0).toArray 29)) :=
  made Yba.underlying26 info29 rfl n (by omega) h w
theorem made27 (n : Nat) (h : n ≤ 1024) (w : World) : (Instr.makeSlice 27 (.int .i64 (n : Int)) (.int .i64 (n : Int))).run Yba.prog w = .ok (.slice (some ⟨w.heap.size, 0, none⟩) n n) (w.alloc (.cells ((List.range n).map fun _ => Value.slice none 0 0).toArray 32)) :=
  made Yba.underlying27 info32 rfl n (by omega) h w
end Go.Proofs.Ybulkqpu.mv
