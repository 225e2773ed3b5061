/-
  errors.Is by its contracts at sentinels of the make of errors.New: the guide's worked SentryIs turned to this program's numbers (tools/isfacts.py).
-/
import Derived.Test.YbulkqwgFmtChecked
import Derived.WalkKit
import Derived.LaidEql
import Derived.Stop.Asserts
import Derived.RowKitTokens
namespace Go.Proofs.YbulkqwgFmt
set_option linter.unusedVariables false
open Go.RowKit Go.Extern.Stop Go.Stop Go.Extern

/-! ### CLOSED FACTS: what 'reflectlite.TypeOf(target).Comparable()' gives at such a target -/
theorem Ybaf.isTypeOf (v : Value) (w : World) : (callFunc 17 #[.iface 93 v]).run Ybaf.prog w = .ok (.value (.iface 112 (.agg #[.pointer (some ⟨3, 93, none⟩)]))) w := by kernel_rfl
theorem Ybaf.isComparable (w : World) : (callFunc 74 #[.agg #[.pointer (some ⟨3, 93, none⟩)]]).run Ybaf.prog w = .ok (.value (.bool true)) w := by kernel_rfl
theorem Ybaf.isMethodComparable (v : Value) (w : World) : (Go.method 314 112 v "Comparable").run Ybaf.prog w = .ok (74, v) w := by kernel_rfl
theorem Ybaf.isComp : (Ybaf.prog.info? 93).map (·.comparable) = some true := by kernel_rfl
theorem Ybaf.isSize : (Ybaf.prog.info? 95).map (·.size) = some 1 := by kernel_rfl

/-! ### CLOSED FACTS ON THE METHOD SETS: what errors.is's assertions find -/
theorem Ybaf.noIsE (v : Value) (xT : TypeId) (w : World) : (Instr.typeAssert (.iface 93 v) xT 114 true).run Ybaf.prog w = .ok (.tuple #[.nilIface, .bool false]) w := run_typeAssert_lacksB Ybaf.underlying114 (by kernel_rfl) (by kernel_rfl) v xT w
theorem Ybaf.noUnwrapE (v : Value) (xT : TypeId) (w : World) : (Instr.typeAssert (.iface 93 v) xT 117 true).run Ybaf.prog w = .ok (.tuple #[.nilIface, .bool false]) w := run_typeAssert_lacksB Ybaf.underlying117 (by kernel_rfl) (by kernel_rfl) v xT w
theorem Ybaf.noUnwrapsE (v : Value) (xT : TypeId) (w : World) : (Instr.typeAssert (.iface 93 v) xT 118 true).run Ybaf.prog w = .ok (.tuple #[.nilIface, .bool false]) w := run_typeAssert_lacksB Ybaf.underlying118 (by kernel_rfl) (by kernel_rfl) v xT w
theorem Ybaf.noIsW (v : Value) (xT : TypeId) (w : World) : (Instr.typeAssert (.iface 110 v) xT 114 true).run Ybaf.prog w = .ok (.tuple #[.nilIface, .bool false]) w := run_typeAssert_lacksB Ybaf.underlying114 (by kernel_rfl) (by kernel_rfl) v xT w
theorem Ybaf.hasUnwrapW (v : Value) (xT : TypeId) (w : World) : (Instr.typeAssert (.iface 110 v) xT 117 true).run Ybaf.prog w = .ok (.tuple #[.iface 110 v, .bool true]) w := run_typeAssert_hasB Ybaf.underlying117 (by kernel_rfl) v xT w
theorem Ybaf.methodUnwrap (v : Value) (w : World) : (Go.method 314 110 v "Unwrap").run Ybaf.prog w = .ok (70, v) w := by kernel_rfl

/-- errors.Is(x, x), x a pointer to an errors.errorString. -/
theorem is_same (a : Addr) (w : World) :
    Calls Ybaf.prog 7 #[.iface 93 (.pointer (some a)), .iface 93 (.pointer (some a))] w fun e w' => e = .returned (.bool true) ∧ w' = w := by
  obtain ⟨i, hi, hcmp⟩ := Option.map_eq_some_iff.1 Ybaf.isComp
  obtain ⟨j, hj, hjs⟩ := Option.map_eq_some_iff.1 Ybaf.isSize
  have tT := Ybaf.isTypeOf
  have cT := Ybaf.isComparable
  have mR := Ybaf.isMethodComparable
  have heq := run_eql_iface_ptr_same (P := Ybaf.prog) w a Ybaf.underlying39 Ybaf.underlying93 hi hcmp hj
  go_enter Ybaf.func7, Ybaf.ntmps7
  go_wp2
  refine wp_loop_rounds 1 ?_
  rw [rounds_succ]
  go_wp2
  go_ret
  exact ⟨rfl, rfl⟩

/-- errors.Is(x, y), two different pointers to errors.errorString: neither has Is nor Unwrap: false. -/
theorem is_other (a b : Addr) (ca cb : Array Value) (ta tb : TypeId) (w : World) (hne : a ≠ b) (ha : w.heap[a.block]? = some (.cells ca ta (0, 0))) (hb : w.heap[b.block]? = some (.cells cb tb (0, 0))) :
    Calls Ybaf.prog 7 #[.iface 93 (.pointer (some a)), .iface 93 (.pointer (some b))] w fun e w' => e = .returned (.bool false) ∧ w' = w := by
  obtain ⟨i, hi, hcmp⟩ := Option.map_eq_some_iff.1 Ybaf.isComp
  obtain ⟨j, hj, hjs⟩ := Option.map_eq_some_iff.1 Ybaf.isSize
  have tT := Ybaf.isTypeOf
  have cT := Ybaf.isComparable
  have mR := Ybaf.isMethodComparable
  have nE := Ybaf.noIsE
  have uE := Ybaf.noUnwrapE
  have vE := Ybaf.noUnwrapsE
  have nW := Ybaf.noIsW
  have uW := Ybaf.hasUnwrapW
  have mU := Ybaf.methodUnwrap
  have heq := run_eql_iface_ptr_other (P := Ybaf.prog) w Ybaf.underlying39 Ybaf.underlying93 hi hcmp hj (by rw [hjs]; decide) hne ha hb
  go_enter Ybaf.func7, Ybaf.ntmps7
  go_wp2
  refine wp_loop_rounds 1 ?_
  rw [rounds_succ]
  go_wp2
  go_ret
  exact ⟨rfl, rfl⟩

/-- errors.Is(e, x), e a *fmt.wrapError that wraps x itself: one Unwrap, then equal. -/
theorem is_wrap_same (pb po : Nat) (b : Addr) (w : World) (h1 : w.cell? ⟨pb, po + 1, none⟩ = some (.iface 93 (.pointer (some b)))) :
    Calls Ybaf.prog 7 #[.iface 110 (.pointer (some ⟨pb, po, none⟩)), .iface 93 (.pointer (some b))] w fun e w' => e = .returned (.bool true) ∧ w' = w := by
  obtain ⟨i, hi, hcmp⟩ := Option.map_eq_some_iff.1 Ybaf.isComp
  obtain ⟨j, hj, hjs⟩ := Option.map_eq_some_iff.1 Ybaf.isSize
  have tT := Ybaf.isTypeOf
  have cT := Ybaf.isComparable
  have mR := Ybaf.isMethodComparable
  have nE := Ybaf.noIsE
  have uE := Ybaf.noUnwrapE
  have vE := Ybaf.noUnwrapsE
  have nW := Ybaf.noIsW
  have uW := Ybaf.hasUnwrapW
  have mU := Ybaf.methodUnwrap
  have heq := run_eql_iface_ptr_same (P := Ybaf.prog) w b Ybaf.underlying39 Ybaf.underlying93 hi hcmp hj
  have hty := run_eql_iface_types (P := Ybaf.prog) 110 93 (.pointer (some ⟨pb, po, none⟩)) (.pointer (some b)) Ybaf.underlying39 (by decide) w
  go_enter Ybaf.func7, Ybaf.ntmps7
  go_wp2
  refine wp_loop_rounds 2 ?_
  rw [rounds_succ]
  go_wp2
  rw [rounds_succ]
  go_wp2
  go_ret
  exact ⟨rfl, rfl⟩

/-- errors.Is(e, x), e a *fmt.wrapError that wraps another error of errors.New's make. -/
theorem is_wrap_other (pb po : Nat) (b a : Addr) (ca cb : Array Value) (ta tb : TypeId) (w : World) (h1 : w.cell? ⟨pb, po + 1, none⟩ = some (.iface 93 (.pointer (some a)))) (hne : a ≠ b) (ha : w.heap[a.block]? = some (.cells ca ta (0, 0))) (hb : w.heap[b.block]? = some (.cells cb tb (0, 0))) :
    Calls Ybaf.prog 7 #[.iface 110 (.pointer (some ⟨pb, po, none⟩)), .iface 93 (.pointer (some b))] w fun e w' => e = .returned (.bool false) ∧ w' = w := by
  obtain ⟨i, hi, hcmp⟩ := Option.map_eq_some_iff.1 Ybaf.isComp
  obtain ⟨j, hj, hjs⟩ := Option.map_eq_some_iff.1 Ybaf.isSize
  have tT := Ybaf.isTypeOf
  have cT := Ybaf.isComparable
  have mR := Ybaf.isMethodComparable
  have nE := Ybaf.noIsE
  have uE := Ybaf.noUnwrapE
  have vE := Ybaf.noUnwrapsE
  have nW := Ybaf.noIsW
  have uW := Ybaf.hasUnwrapW
  have mU := Ybaf.methodUnwrap
  have heq := run_eql_iface_ptr_other (P := Ybaf.prog) w Ybaf.underlying39 Ybaf.underlying93 hi hcmp hj (by rw [hjs]; decide) hne ha hb
  have hty := run_eql_iface_types (P := Ybaf.prog) 110 93 (.pointer (some ⟨pb, po, none⟩)) (.pointer (some b)) Ybaf.underlying39 (by decide) w
  go_enter Ybaf.func7, Ybaf.ntmps7
  go_wp2
  refine wp_loop_rounds 2 ?_
  rw [rounds_succ]
  go_wp2
  rw [rounds_succ]
  go_wp2
  go_ret
  exact ⟨rfl, rfl⟩

end Go.Proofs.YbulkqwgFmt
