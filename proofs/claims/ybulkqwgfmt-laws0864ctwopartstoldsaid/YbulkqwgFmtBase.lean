import Derived.Test.YbulkqwgFmtRows
import Derived.WalkKit
import Derived.ProofKit
import Derived.Below
import Derived.Deep.AppendLies
import Derived.Deep.Draws
import Derived.Deep.RegionHeld3
import Derived.BigRegion
import Derived.Laws.BitsAllLaws
import Derived.Laws.ShiftsVarLaws
/-! Blocks that are known whole, and what a call leaves alone. -/
namespace Go.Proofs.YbulkqwgFmt.sp
open Go.RowKit
set_option linter.unusedVariables false

theorem hid {p : Prop} (h : p) : Hid p := h

/-! ### A block that is known whole -/
def At (w : World) (g : Nat) (cs : List Value) (t : TypeId) : Prop := w.heap[g]? = some (.cells cs.toArray t (0, 0))

/-- The world has turned in the blocks S alone; new ones may have come. -/
structure Chg (S : Nat → Prop) (w w' : World) : Prop where
  os : w'.os = w.os
  tape : w'.tape = w.tape
  output : w'.output = w.output
  size : w.heap.size ≤ w'.heap.size
  block : ∀ g, g < w.heap.size → ¬ S g → w'.heap[g]? = w.heap[g]?

section
variable {w w' w'' : World} {g g' k : Nat} {cs : List Value} {t : TypeId} {v : Value} {S S' : Nat → Prop}
theorem At.cell (h : At w g cs t) (hk : cs[k]? = some v) : w.cell? ⟨g, k, none⟩ = some v := by
  rw [cell_of_row w g k _ t _ h]; simpa using hk
theorem At.frozen (h : At w g cs t) (k : Nat) : w.frozen? ⟨g, k, none⟩ = false := by
  unfold At at h; simp [World.frozen?, h]
theorem At.lt (h : At w g cs t) : g < w.heap.size := (Array.getElem?_eq_some_iff.1 h).1
theorem At.set (h : At w g cs t) (k : Nat) (v : Value) : At (w.setCell ⟨g, k, none⟩ v) g (cs.set k v) t := by
  unfold At at *
  simp [World.setCell, Array.getElem?_modify, h]
theorem At.set_ne (h : At w g cs t) (hne : g ≠ g') (k : Nat) (v : Value) : At (w.setCell ⟨g', k, none⟩ v) g cs t := by
  unfold At at *
  rw [Below.heap_setCell _ _ _ _ hne]; exact h
theorem At.alloc (h : At w g cs t) (o : Obj) : At (w.alloc o) g cs t := by
  have hl := h.lt
  unfold At at *
  rw [Below.heap_alloc _ _ _ hl]; exact h
theorem At.drew (h : At w g cs t) : At w.drew g cs t := h
theorem At.drewN (h : At w g cs t) (n : Nat) : At (w.drewN n) g cs t := h
theorem At.chg (h : At w g cs t) (hc : Chg S w w') (hg : ¬ S g) : At w' g cs t := by
  have hl := h.lt
  unfold At at *
  rw [hc.block g hl hg]; exact h
theorem at_new (w : World) (cs : List Value) (t : TypeId) : At (w.alloc (.cells cs.toArray t)) w.heap.size cs t := by
  unfold At
  show (w.heap.push _)[w.heap.size]? = _
  simp
theorem At.eq {cs' : List Value} (h : At w g cs t) (e : cs = cs') : At w g cs' t := e ▸ h

theorem Chg.refl (S : Nat → Prop) (w : World) : Chg S w w := ⟨rfl, rfl, rfl, Nat.le_refl _, fun _ _ _ => rfl⟩
theorem Chg.trans (h : Chg S w w') (k : Chg S w' w'') : Chg S w w'' :=
  ⟨k.os.trans h.os, k.tape.trans h.tape, k.output.trans h.output, Nat.le_trans h.size k.size, fun g hg hS => (k.block g (Nat.lt_of_lt_of_le hg h.size) hS).trans (h.block g hg hS)⟩
theorem Chg.mono (h : Chg S w w') (hs : ∀ g, g < w.heap.size → S g → S' g) : Chg S' w w' :=
  ⟨h.os, h.tape, h.output, h.size, fun g hg hS => h.block g hg fun e => hS (hs g hg e)⟩
theorem Chg.drew (h : Chg S w w') : Chg S w w'.drew := ⟨h.os, h.tape, h.output, h.size, h.block⟩
theorem Chg.drewN (h : Chg S w w') (n : Nat) : Chg S w (w'.drewN n) := ⟨h.os, h.tape, h.output, h.size, h.block⟩
theorem Chg.alloc (h : Chg S w w') (o : Obj) : Chg S w (w'.alloc o) :=
  ⟨h.os, h.tape, h.output, by simp; have := h.size; omega, fun g hg hS => by rw [Below.heap_alloc _ _ _ (Nat.lt_of_lt_of_le hg h.size)]; exact h.block g hg hS⟩
theorem Chg.setCell (h : Chg S w w') (hg : S g ∨ w.heap.size ≤ g) (k : Nat) (v : Value) : Chg S w (w'.setCell ⟨g, k, none⟩ v) :=
  ⟨h.os, h.tape, h.output, by simp; exact h.size, fun g' hg' hS => by
    rw [Below.heap_setCell _ _ _ _ (by show g' ≠ g; rintro rfl; rcases hg with h1 | h1; exact hS h1; omega)]; exact h.block g' hg' hS⟩
theorem Chg.below {B : Nat} (h : Chg S w w') (hs : ∀ g, g < B → ¬ S g) (hB : B ≤ w.heap.size) : Below B w w' :=
  ⟨h.os, h.tape, h.output, h.size, fun g hg => h.block g (Nat.lt_of_lt_of_le hg hB) (hs g hg)⟩
theorem Chg.of_below {B : Nat} (h : Below B w w') : Chg (fun g => B ≤ g) w w' :=
  ⟨h.os, h.tape, h.output, h.size, fun g hg hS => h.block g (by omega)⟩
end
end Go.Proofs.YbulkqwgFmt.sp
