import Derived.Test.YbulkqwgFmtC9
namespace Go.Proofs.YbulkqwgFmt.sp
open Go.RowKit
set_option linter.unusedVariables false
set_option maxRecDepth 100000

theorem or_0 {r : Nat} (h : r ≤ 1000) : bits .or .u64 0 (r : Int) = (r : Int) := by
  have := u64_or_nat 0 r (by omega) (by omega)
  simpa using this
theorem or_1 {r : Nat} (h : r ≤ 1000) : bits .or .u64 4294967296 (r : Int) = 4294967296 + (r : Int) := by
  have h1 := u64_or_nat 4294967296 r (by omega) (by omega)
  have hr : r < 2 ^ 32 := by have : (2 : Nat) ^ 32 = 4294967296 := by decide
                             omega
  have h2 := Nat.two_pow_add_eq_or_of_lt hr 1
  have e : (2 : Nat) ^ 32 * 1 = 4294967296 := by decide
  rw [e] at h2
  rw [← h2] at h1
  simpa using h1

set_option maxHeartbeats 4000000 in
theorem addr27_0 {r : Nat} {w : World} (hr : r ≤ 1000) : Calls Ybaf.prog 27 #[.int .i64 0, .int .i64 (r : Int)] w fun e w' => e = .returned (.int .u64 (r : Int)) ∧ w' = w := by
  go_enter Ybaf.func27, Ybaf.ntmps27
  go_wp2
  go_ret
  exact ⟨congrArg (fun x => Ending.returned (.int .u64 x)) (or_0 hr), rfl⟩
set_option maxHeartbeats 4000000 in
theorem addr27_1 {r : Nat} {w : World} (hr : r ≤ 1000) : Calls Ybaf.prog 27 #[.int .i64 1, .int .i64 (r : Int)] w fun e w' => e = .returned (.int .u64 (4294967296 + r : Int)) ∧ w' = w := by
  go_enter Ybaf.func27, Ybaf.ntmps27
  go_wp2
  go_ret
  exact ⟨congrArg (fun x => Ending.returned (.int .u64 x)) (or_1 hr), rfl⟩
set_option maxHeartbeats 4000000 in
theorem rec15_0 {b gs i : Nat} {f : Int} {v : Int} {w : World} (hg : 2 ≤ gs) (hg2 : gs ≤ 9) (s1 : w.cell? ⟨b + 12, 1, none⟩ = some (.int .i64 (gs : Int))) (hA : ∀ w : World, Calls Ybaf.prog 27 #[.int .i64 f, .int .i64 1] w fun e w' => e = .returned (.int .u64 v) ∧ w' = w) :
    Calls Ybaf.prog 15 #[.pointer (some ⟨b + 12, 0, none⟩), .agg #[.int .i64 f, .int .i64 0]] w fun e w' => e = .returned (.tuple #[.int .u64 v, .int .i64 ((gs : Int) - 1)]) ∧ Chg (fun _ => False) w w' := by
  have lS := World.block_lt_of_cell? _ _ s1
  have s1' := cell_alloc (.cells #[.int .i64 f, .int .i64 0] 79) s1
  go_enter Ybaf.func15, Ybaf.ntmps15
  go_wp2_with fail
  go_region
  go_wp2_with fail
  refine (hA _).mono ?_
  rintro e w' ⟨rfl, rfl⟩
  go_wp2
  go_ret2
  exact ⟨rfl, ((Chg.refl _ w).alloc _).drew⟩
set_option maxHeartbeats 4000000 in
theorem rec15_k {b gs i m : Nat} {f : Int} {v : Int} {w : World} (hg : 2 ≤ gs) (hg2 : gs ≤ 9) (hi : 1 ≤ i) (hi2 : i ≤ 5) (hm : i * gs = m) (s1 : w.cell? ⟨b + 12, 1, none⟩ = some (.int .i64 (gs : Int))) (hA : ∀ w : World, Calls Ybaf.prog 27 #[.int .i64 f, .int .i64 (m : Int)] w fun e w' => e = .returned (.int .u64 v) ∧ w' = w) :
    Calls Ybaf.prog 15 #[.pointer (some ⟨b + 12, 0, none⟩), .agg #[.int .i64 f, .int .i64 (i : Int)]] w fun e w' => e = .returned (.tuple #[.int .u64 v, .int .i64 (gs : Int)]) ∧ Chg (fun _ => False) w w' := by
  have lS := World.block_lt_of_cell? _ _ s1
  have s1' := cell_alloc (.cells #[.int .i64 f, .int .i64 (i : Int)] 79) s1
  have m1 : 1 ≤ m := by rw [← hm]; exact Nat.mul_pos (by omega) (by omega)
  have m2 : m ≤ 5 * 9 := by rw [← hm]; exact Nat.mul_le_mul hi2 hg2
  have hp : (i : Int) * (gs : Int) = (m : Int) := by rw [← hm, Int.natCast_mul]
  have hw : IntKind.i64.wrap ((i : Int) * (gs : Int)) = (m : Int) := by rw [hp]; simp [IntKind.wrap, IntKind.signed, IntKind.bits]; omega
  have hz : ((m : Int) == 0) = false := by simp; omega
  clear hm
  go_enter Ybaf.func15, Ybaf.ntmps15
  go_wp2_with fail
  go_region
  go_wp2_with fail
  refine (hA _).mono ?_
  rintro e w' ⟨rfl, rfl⟩
  go_wp2
  go_ret2
  exact ⟨rfl, ((Chg.refl _ w).alloc _).drew⟩
end Go.Proofs.YbulkqwgFmt.sp
