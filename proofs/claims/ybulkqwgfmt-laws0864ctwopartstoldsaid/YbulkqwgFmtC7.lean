import Derived.Test.YbulkqwgFmtC6
import Derived.Lib.SliceRun
import Derived.Deep.RegionLaw
namespace Go.Proofs.YbulkqwgFmt.sp
open Go.RowKit
set_option linter.unusedVariables false
set_option maxRecDepth 100000

theorem zero87 (w : World) : (zeroValue 87).run Ybaf.prog w = .ok (.agg #[.string { data := #[] }, .int .u64 0, .int .i64 0]) w := by kernel_rfl
theorem info87 : (Ybaf.prog.info? 87).map (fun i => (i.zero, i.size, i.bytes)) = some (some (.agg #[.string { data := #[] }, .int .u64 0, .int .i64 0]), 3, 32) := by kernel_rfl
theorem clear33 (w : World) (ty : TypeId) (g o c : Nat) (hc : ∀ j, j < 3 → (w.cell? ⟨g, o + j, none⟩).isSome = true) (hf : ∀ j, j < 3 → w.frozen? ⟨g, o + j, none⟩ = false) :
    (Builtin.clear_ #[33] ty #[.slice (some ⟨g, o, none⟩) 1 c]).run Ybaf.prog w = .ok (.tuple #[]) (w.setCells g o [.string { data := #[] }, .int .u64 0, .int .i64 0]) := by
  have hzc : (Builtin.zeroCells (Value.agg #[.string { data := #[] }, .int .u64 0, .int .i64 0]).cells 1).toList = [.string { data := #[] }, .int .u64 0, .int .i64 0] := by
    simp [Builtin.zeroCells, Value.cells, List.range_succ]
  have hst := run_storeCells_cells (P := Ybaf.prog) g o [.string { data := #[] }, .int .u64 0, .int .i64 0] 0 w (by simpa using hc) (by simpa using hf) (by intro v hv'; simp at hv'; rcases hv' with rfl | rfl | rfl <;> rfl)
  simp only [Nat.add_zero] at hst
  simp [Builtin.clear_, run_underlying Ybaf.underlying33, hzc, hst]

set_option maxHeartbeats 4000000 in
theorem del22_10 {g cap : Nat} {c0 c1 c2 : Value} {rest : List Value} {w : World} (hcap : 1 ≤ cap) (hcap2 : cap ≤ maxLen) (h : At w g (c0 :: c1 :: c2 :: rest) 87) :
    Calls Ybaf.prog 22 #[.slice (some ⟨g, 0, none⟩) 1 cap, .int .i64 0, .int .i64 1] w fun e w' => e = .returned (.slice (some ⟨g, 0, none⟩) 0 cap) ∧
      At w' g (.string { data := #[] } :: .int .u64 0 :: .int .i64 0 :: rest) 87 ∧ Chg (fun x => x = g) w w' := by
  obtain ⟨i0, hi0, hz0, hz1, hz2⟩ := info_parts info87
  obtain ⟨A, hA⟩ : ∃ A : Addr, (if cap = 1 then some ⟨g, 0, none⟩ else some ⟨g, 3, none⟩) = some A := by split <;> exact ⟨_, rfl⟩
  have h1 : At (w.drew.setCells g (0 + 0 * 3) []) g (c0 :: c1 :: c2 :: rest) 87 := by
    exact h.drew
  have hcl : ∀ ty, (Builtin.clear_ #[33] ty #[.slice (some ⟨g, 0, none⟩) 1 cap]).run Ybaf.prog (w.drew.setCells g (0 + 0 * 3) []) = .ok (.tuple #[]) ((w.drew.setCells g (0 + 0 * 3) []).setCells g 0 [.string { data := #[] }, .int .u64 0, .int .i64 0]) := fun ty => clear33 _ ty g 0 cap
    (fun j hj => by match j, hj with | 0, _ => rw [h1.cell (k := 0 + 0) rfl]; rfl | 1, _ => rw [h1.cell (k := 0 + 1) rfl]; rfl | 2, _ => rw [h1.cell (k := 0 + 2) rfl]; rfl) (fun j _ => h1.frozen _)
  have hsp : Hid (∀ j, j < 0 → (w.drew.cell? ⟨g, 0 + 0 * 3 + j, none⟩).isSome = true ∧ w.drew.frozen? ⟨g, 0 + 0 * 3 + j, none⟩ = false) := fun j hj => by
    exact absurd hj (by omega)
  have hnw : Hid (∀ j u, ([] : List Value)[j]? = some u → w.drew.cell? ((A : Addr).add j) = some u) := fun j u hu => by
    simp at hu
  have H := hid h
  have H1 := hid h1
  clear h h1
  go_enter Ybaf.func22, Ybaf.ntmps22
  go_wp2_with fail
  go_region_law (refine step_append_room rfl (.tmp 22) (.tmp 25) 33 rfl 87 i0 3 Ybaf.underlying33 hi0 hz1 g 0 0 cap (by simp [Act.eval, Act.put]) (A) 0 (cap - 1) [] (by simp [Act.eval, Act.put]) rfl hnw.out (by simp) (by omega) hsp.out ?_)
  go_wp2
  go_ret
  refine ⟨rfl, ?_, ?_⟩
  · exact ((H1.out.set 0 (.string { data := #[] })).set 1 (.int .u64 0)).set 2 (.int .i64 0)
  · exact Chg.setCell (Chg.setCell (Chg.setCell (Chg.refl (fun x => x = g) w).drew (.inl rfl) _ _) (.inl rfl) _ _) (.inl rfl) _ _
set_option maxHeartbeats 4000000 in
theorem del22_20 {g cap : Nat} {a0 a1 a2 b0 b1 b2 : Value} {rest : List Value} {w : World} (hcap : 2 ≤ cap) (hcap2 : cap ≤ maxLen) (h : At w g (a0 :: a1 :: a2 :: b0 :: b1 :: b2 :: rest) 87) (o0 : b0.oneCell' = true) (o1 : b1.oneCell' = true) (o2 : b2.oneCell' = true) :
    Calls Ybaf.prog 22 #[.slice (some ⟨g, 0, none⟩) 2 cap, .int .i64 0, .int .i64 1] w fun e w' => e = .returned (.slice (some ⟨g, 0, none⟩) 1 cap) ∧
      At w' g (b0 :: b1 :: b2 :: .string { data := #[] } :: .int .u64 0 :: .int .i64 0 :: rest) 87 ∧ Chg (fun x => x = g) w w' := by
  obtain ⟨i0, hi0, hz0, hz1, hz2⟩ := info_parts info87
  have hc1 : ¬ cap = 1 := by omega
  have hc2 : (1 : Int) ≤ (cap : Int) := by omega
  have hc3 : (2 : Int) ≤ (cap : Int) := by omega
  have h1 : At (w.drew.setCells g (0 + 0 * 3) [b0, b1, b2]) g (b0 :: b1 :: b2 :: b0 :: b1 :: b2 :: rest) 87 := by
    exact ((h.drew.set 0 b0).set 1 b1).set 2 b2
  have hcl : ∀ ty, (Builtin.clear_ #[33] ty #[.slice (some ⟨g, 3, none⟩) 1 (cap - 1)]).run Ybaf.prog (w.drew.setCells g (0 + 0 * 3) [b0, b1, b2]) = .ok (.tuple #[]) ((w.drew.setCells g (0 + 0 * 3) [b0, b1, b2]).setCells g 3 [.string { data := #[] }, .int .u64 0, .int .i64 0]) := fun ty => clear33 _ ty g 3 (cap - 1)
    (fun j hj => by match j, hj with | 0, _ => rw [h1.cell (k := 3 + 0) rfl]; rfl | 1, _ => rw [h1.cell (k := 3 + 1) rfl]; rfl | 2, _ => rw [h1.cell (k := 3 + 2) rfl]; rfl) (fun j _ => h1.frozen _)
  have hsp : Hid (∀ j, j < 3 → (w.drew.cell? ⟨g, 0 + 0 * 3 + j, none⟩).isSome = true ∧ w.drew.frozen? ⟨g, 0 + 0 * 3 + j, none⟩ = false) := fun j hj => by
    exact ⟨by match j, hj with | 0, _ => rw [h.drew.cell (k := 0 + 0 * 3 + 0) rfl]; rfl | 1, _ => rw [h.drew.cell (k := 0 + 0 * 3 + 1) rfl]; rfl | 2, _ => rw [h.drew.cell (k := 0 + 0 * 3 + 2) rfl]; rfl, h.drew.frozen _⟩
  have hnw : Hid (∀ j u, ([b0, b1, b2] : List Value)[j]? = some u → w.drew.cell? ((⟨g, 3, none⟩ : Addr).add j) = some u) := fun j u hu => by
    match j, hu with | 0, hu => (cases hu; exact h.drew.cell (k := 3) rfl) | 1, hu => (cases hu; exact h.drew.cell (k := 4) rfl) | 2, hu => (cases hu; exact h.drew.cell (k := 5) rfl) | j + 3, hu => simp at hu
  have H := hid h
  have H1 := hid h1
  clear h h1
  go_enter Ybaf.func22, Ybaf.ntmps22
  go_wp2_with fail
  go_region_law (refine step_append_room rfl (.tmp 22) (.tmp 25) 33 rfl 87 i0 3 Ybaf.underlying33 hi0 hz1 g 0 0 cap (by simp [Act.eval, Act.put]) (⟨g, 3, none⟩) 1 (cap - 1) [b0, b1, b2] (by simp [Act.eval, Act.put]) rfl hnw.out (by intro u hu; simp at hu; rcases hu with rfl | rfl | rfl <;> assumption) (by omega) hsp.out ?_)
  go_wp2
  go_ret
  refine ⟨rfl, ?_, ?_⟩
  · exact ((H1.out.set 3 (.string { data := #[] })).set 4 (.int .u64 0)).set 5 (.int .i64 0)
  · exact Chg.setCell (Chg.setCell (Chg.setCell (Chg.setCell (Chg.setCell (Chg.setCell (Chg.refl (fun x => x = g) w).drew (.inl rfl) _ _) (.inl rfl) _ _) (.inl rfl) _ _) (.inl rfl) _ _) (.inl rfl) _ _) (.inl rfl) _ _
set_option maxHeartbeats 4000000 in
theorem del22_21 {g cap : Nat} {a0 a1 a2 b0 b1 b2 : Value} {rest : List Value} {w : World} (hcap : 2 ≤ cap) (hcap2 : cap ≤ maxLen) (h : At w g (a0 :: a1 :: a2 :: b0 :: b1 :: b2 :: rest) 87) :
    Calls Ybaf.prog 22 #[.slice (some ⟨g, 0, none⟩) 2 cap, .int .i64 1, .int .i64 2] w fun e w' => e = .returned (.slice (some ⟨g, 0, none⟩) 1 cap) ∧
      At w' g (a0 :: a1 :: a2 :: .string { data := #[] } :: .int .u64 0 :: .int .i64 0 :: rest) 87 ∧ Chg (fun x => x = g) w w' := by
  obtain ⟨i0, hi0, hz0, hz1, hz2⟩ := info_parts info87
  have hc1 : ¬ cap = 1 := by omega
  have hc2 : (1 : Int) ≤ (cap : Int) := by omega
  have hc3 : (2 : Int) ≤ (cap : Int) := by omega
  obtain ⟨A, hA⟩ : ∃ A : Addr, (if cap = 2 then some ⟨g, 0, none⟩ else some ⟨g, 6, none⟩) = some A := by split <;> exact ⟨_, rfl⟩
  have h1 : At (w.drew.setCells g (0 + 1 * 3) []) g (a0 :: a1 :: a2 :: b0 :: b1 :: b2 :: rest) 87 := by
    exact h.drew
  have hcl : ∀ ty, (Builtin.clear_ #[33] ty #[.slice (some ⟨g, 3, none⟩) 1 (cap - 1)]).run Ybaf.prog (w.drew.setCells g (0 + 1 * 3) []) = .ok (.tuple #[]) ((w.drew.setCells g (0 + 1 * 3) []).setCells g 3 [.string { data := #[] }, .int .u64 0, .int .i64 0]) := fun ty => clear33 _ ty g 3 (cap - 1)
    (fun j hj => by match j, hj with | 0, _ => rw [h1.cell (k := 3 + 0) rfl]; rfl | 1, _ => rw [h1.cell (k := 3 + 1) rfl]; rfl | 2, _ => rw [h1.cell (k := 3 + 2) rfl]; rfl) (fun j _ => h1.frozen _)
  have hsp : Hid (∀ j, j < 0 → (w.drew.cell? ⟨g, 0 + 1 * 3 + j, none⟩).isSome = true ∧ w.drew.frozen? ⟨g, 0 + 1 * 3 + j, none⟩ = false) := fun j hj => by
    exact absurd hj (by omega)
  have hnw : Hid (∀ j u, ([] : List Value)[j]? = some u → w.drew.cell? ((A : Addr).add j) = some u) := fun j u hu => by
    simp at hu
  have H := hid h
  have H1 := hid h1
  clear h h1
  go_enter Ybaf.func22, Ybaf.ntmps22
  go_wp2_with fail
  go_region_law (refine step_append_room rfl (.tmp 22) (.tmp 25) 33 rfl 87 i0 3 Ybaf.underlying33 hi0 hz1 g 0 1 cap (by simp [Act.eval, Act.put]) (A) 0 (cap - 2) [] (by simp [Act.eval, Act.put]) rfl hnw.out (by simp) (by omega) hsp.out ?_)
  go_wp2
  go_ret
  refine ⟨rfl, ?_, ?_⟩
  · exact ((H1.out.set 3 (.string { data := #[] })).set 4 (.int .u64 0)).set 5 (.int .i64 0)
  · exact Chg.setCell (Chg.setCell (Chg.setCell (Chg.refl (fun x => x = g) w).drew (.inl rfl) _ _) (.inl rfl) _ _) (.inl rfl) _ _
end Go.Proofs.YbulkqwgFmt.sp
