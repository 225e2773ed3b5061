import Derived.Test.YbulkqwgFmtC3
import Derived.Maps.OwnSet
import Derived.Maps.Views
namespace Go.Proofs.YbulkqwgFmt.sp
open Go.RowKit Go.Maps Go.WideMaps
set_option linter.unusedVariables false
set_option maxRecDepth 100000

/-! ### The map of the partitions by name -/
/-- A pointer to a block's start, read as the block's number. -/
def ptrElem : Value → Option (DataW Unit × List MemPlace)
  | .pointer (some ⟨b, 0, none⟩) => some (.lit (.int .i64 (b : Int)), [])
  | .pointer none => some (.lit (.bool false), [])
  | _ => none
theorem ptrElem_some {v : Value} {b : Nat} {ps : List MemPlace} (h : ptrElem v = some (.lit (.int .i64 (b : Int)), ps)) : v = .pointer (some ⟨b, 0, none⟩) := by
  unfold ptrElem at h
  split at h
  · rename_i b'; simp at h; obtain rfl : b' = b := by omega
    rfl
  · simp at h
  · cases h
theorem ptrElem_none {v : Value} {ps : List MemPlace} (h : ptrElem v = some (.lit (.bool false), ps)) : v = .pointer none := by
  unfold ptrElem at h
  split at h
  · simp at h
  · rfl
  · cases h
theorem law9 : Keyed Ybaf.prog 9 := string_keyed Ybaf.underlying9
theorem zero53 (w : World) : (zeroValue 53).run Ybaf.prog w = .ok (.pointer none) w := by kernel_rfl
def sA : ByteArray := { data := #[65] }
def sB : ByteArray := { data := #[66] }
def sE : ByteArray := { data := #[] }
theorem keyA : keyOf Ybaf.prog 9 (.string { data := #[65] }) = some (.string [65]) := WideMaps.keyOf_string_mk Ybaf.underlying9 (by decide)
theorem keyB : keyOf Ybaf.prog 9 (.string { data := #[66] }) = some (.string [66]) := WideMaps.keyOf_string_mk Ybaf.underlying9 (by decide)
theorem keyE : keyOf Ybaf.prog 9 (.string { data := #[] }) = some (.string []) := WideMaps.keyOf_string_mk Ybaf.underlying9 (by decide)
def Names (w : World) (MB PA PB : Nat) : Prop :=
  w.ownsMap Ybaf.prog 9 ptrElem MB 2 (((DataW.map [] : DataW Unit).put (.string [65]) (.lit (.int .i64 (PA : Int)))).put (.string [66]) (.lit (.int .i64 (PB : Int))))
theorem Names.chg {S : Nat → Prop} {w w' : World} {MB PA PB : Nat} (h : Names w MB PA PB) (hc : Chg S w w') (hS : ¬ S MB) : Names w' MB PA PB := by
  have hlt := World.ownsMap.lt h
  obtain ⟨es, clock, hb, F, hs, hD⟩ := h
  exact ⟨es, clock, (hc.block MB hlt hS).trans hb, F, hs, hD⟩
theorem Names.at_empty {w : World} {MB PA PB : Nat} (h : Names w MB PA PB) : (Instr.lookup 72 (.map (some MB)) (.string { data := #[] }) false).run Ybaf.prog w = .ok (.pointer none) w := by
  obtain ⟨v, ps, hrun, hv⟩ := World.ownsMap.lookup h law9 Ybaf.underlying72 (zero53 w) (zd := .lit (.bool false)) (zp := []) rfl keyE
  rw [atKey_put_other (by simp), atKey_put_other (by simp)] at hv
  rw [hrun, ptrElem_none hv]
theorem Names.at_B {w : World} {MB PA PB : Nat} (h : Names w MB PA PB) : (Instr.lookup 72 (.map (some MB)) (.string { data := #[66] }) false).run Ybaf.prog w = .ok (.pointer (some ⟨PB, 0, none⟩)) w := by
  obtain ⟨v, ps, hrun, hv⟩ := World.ownsMap.lookup h law9 Ybaf.underlying72 (zero53 w) (zd := .lit (.bool false)) (zp := []) rfl keyB
  rw [atKey_put_same (IsMap.put isMap_empty _ _) (by simp [WideAt.IsKeyLit])] at hv
  rw [hrun, ptrElem_some hv]

/-! ### '(*Spool).partitionNamed' -/
theorem part25_empty {S MB PA PB D : Nat} {w : World} (h : Names w MB PA PB) (s4 : w.cell? ⟨S, 4, none⟩ = some (.map (some MB))) (s5 : w.cell? ⟨S, 5, none⟩ = some (.pointer (some ⟨D, 0, none⟩))) :
    Calls Ybaf.prog 25 #[.pointer (some ⟨S, 0, none⟩), .string { data := #[] }] w fun e w' => e = .returned (.pointer (some ⟨D, 0, none⟩)) ∧ w' = w := by
  have hl := h.at_empty
  clear h
  go_enter Ybaf.func25, Ybaf.ntmps25
  go_wp2
  go_ret
  exact ⟨rfl, rfl⟩
theorem part25_B {S MB PA PB : Nat} {w : World} (h : Names w MB PA PB) (s4 : w.cell? ⟨S, 4, none⟩ = some (.map (some MB))) :
    Calls Ybaf.prog 25 #[.pointer (some ⟨S, 0, none⟩), .string { data := #[66] }] w fun e w' => e = .returned (.pointer (some ⟨PB, 0, none⟩)) ∧ w' = w := by
  have hl := h.at_B
  clear h
  go_enter Ybaf.func25, Ybaf.ntmps25
  go_wp2
  go_ret
  exact ⟨rfl, rfl⟩
end Go.Proofs.YbulkqwgFmt.sp
