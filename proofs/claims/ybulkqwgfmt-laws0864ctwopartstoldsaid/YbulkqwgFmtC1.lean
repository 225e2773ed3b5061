import Derived.Test.YbulkqwgFmtBase
namespace Go.Proofs.YbulkqwgFmt.sp
open Go.RowKit
set_option linter.unusedVariables false
set_option maxRecDepth 100000

set_option maxHeartbeats 2000000 in
/-- '(*file).hold'. -/
theorem hold46 {F U k : Nat} {m l : Int} {x0 x1 x2 x3 x4 x5 x6 x7 x10 x11 x12 x13 : Value} {w : World} (hk : k < 64) (hl : 1 ≤ l) (hl2 : l ≤ 5) (hne : F ≠ U)
    (hF : At w F [x0, x1, x2, x3, x4, x5, x6, x7, .slice (some ⟨U, 0, none⟩) 1 1, .int .i64 l, x10, x11, x12, x13] 68) (hU : At w U [.int .u64 m] 36) :
    Calls Ybaf.prog 46 #[.pointer (some ⟨F, 0, none⟩), .int .i64 (k : Int)] w fun e w' => e = .returned (.tuple #[]) ∧
      At w' F [x0, x1, x2, x3, x4, x5, x6, x7, .slice (some ⟨U, 0, none⟩) 1 1, .int .i64 (l - 1), x10, x11, x12, x13] 68 ∧ At w' U [.int .u64 (bits .or .u64 m (IntKind.u64.wrap (2 ^ k)))] 36 ∧ Chg (fun g => g = F ∨ g = U) w w' := by
  have c8 := hF.cell (k := 8) rfl
  have c9 := hF.cell (k := 9) rfl
  have u0 := hU.cell (k := 0) rfl
  have z9 := hF.frozen 9
  have z0 := hU.frozen 0
  have HF := hid hF
  have HU := hid hU
  clear hF hU
  have d1 : (k : Int).tdiv 64 = 0 := by rw [Int.tdiv_eq_ediv_of_nonneg (by omega)]; omega
  have d2 : (k : Int).tmod 64 = k := by rw [Int.tmod_eq_emod_of_nonneg (by omega)]; omega
  go_enter Ybaf.func46, Ybaf.ntmps46
  go_wp2
  go_region
  go_wp2
  go_end0
  refine ⟨rfl, ?_, ?_, ?_⟩
  · have h := (HF.out.set_ne hne 0 (.int .u64 (bits .or .u64 m (IntKind.u64.wrap (2 ^ k))))).set 9 (.int .i64 (l - 1))
    exact h
  · exact (HU.out.set 0 (.int .u64 (bits .or .u64 m (IntKind.u64.wrap (2 ^ k))))).set_ne (Ne.symm hne) 9 (.int .i64 (l - 1))
  · exact (((Chg.refl _ w).setCell (g := U) (.inl (.inr rfl)) 0 _).setCell (g := F) (.inl (.inl rfl)) 9 _).drew
end Go.Proofs.YbulkqwgFmt.sp
