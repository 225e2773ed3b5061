/-
  The walks of 'rootlet.blocksFailed' and of the law 'LawS0865CNilIffZero'. The closed facts on fmt's stopped front are after the guide's worked SentryFmt, at this program's numbers.
-/
import Derived.Test.YbulkqwuFmtRows
import Derived.Test.YbulkqwuFmtIs
import Derived.WalkKit
import Derived.WalkSpells
import Derived.Stop.CallBack
import Derived.Stop.IfaceNil
import Derived.Stop.LaidErr
import Derived.Stop.LaidTwo
import GoSem.ClaimData
namespace Go.Proofs.YbulkqwuFmt
open Go.RowKit Go.Extern.Stop Go.Stop Go.Extern
set_option linter.unusedVariables false

/-! ### fmt.errorf, function 9: a plain stop; its format and its operands -/
theorem Ybaf.call9 (args : Array Value) (w : World) : (callFunc 9 args).run Ybaf.prog w = ((FmtStop.errorf #[9, 34] #[24] args).run Ybaf.prog w).andThen fun v w' => .ok (.value v) w' :=
  run_callFunc_extern Ybaf.func9 (by kernel_rfl) (by kernel_rfl) (by kernel_rfl) (by kernel_rfl) args w
theorem Ybaf.guard (name : String) (w : World) : (FmtStop.guard name).run Ybaf.prog w = .ok () w := by kernel_rfl
theorem Ybaf.fmt0 : FmtStop.printed? ⟨#[37, 100, 32, 111, 102, 32, 37, 100, 32, 98, 108, 111, 99, 107, 115, 32, 102, 97, 105, 108, 101, 100, 58, 32, 37, 119]⟩ 3 = some [(0, 100, false), (1, 100, false), (2, 119, false)] := by kernel_rfl
theorem Ybaf.fmt0r (w : World) : (FmtDoors.printed ⟨#[37, 100, 32, 111, 102, 32, 37, 100, 32, 98, 108, 111, 99, 107, 115, 32, 102, 97, 105, 108, 101, 100, 58, 32, 37, 119]⟩ 3).run Ybaf.prog w = .ok [(0, 100, false), (1, 100, false), (2, 119, false)] w := by kernel_rfl
def Ybaf.shape22 : List UInt8 := [9, 6, 0, 0, 0, 0, 0, 0, 0, 117, 105, 110, 116, 54, 52]
theorem Ybaf.op22_100w (name : String) (x : Int) (w : World) : (FmtStop.operand name true 100 false (.iface 22 (.int .u64 x))).run Ybaf.prog w = .ok (Ybaf.shape22, Go.Extern.Stop.digits 8 (x % 2 ^ 64).toNat) w := by kernel_rfl
theorem Ybaf.ptr48 (w : World) : (FmtStop.ptrTo "errors.errorString").run Ybaf.prog w = .ok 48 w := by kernel_rfl
theorem Ybaf.elem48 (w : World) : (elemOf 48).run Ybaf.prog w = .ok 50 w := by kernel_rfl
theorem Ybaf.isError48' (w : World) : (FmtDoors.textMethod 48 "Error").run Ybaf.prog w = .ok true w := by kernel_rfl
theorem Ybaf.ptr36 (w : World) : (FmtStop.ptrTo "fmt.wrapError").run Ybaf.prog w = .ok 36 w := by kernel_rfl
theorem Ybaf.elem36 (w : World) : (elemOf 36).run Ybaf.prog w = .ok 75 w := by kernel_rfl
theorem Ybaf.isError36' (w : World) : (FmtDoors.textMethod 36 "Error").run Ybaf.prog w = .ok true w := by kernel_rfl

/-- The spelt name of an interface's dynamic type in a datum: taken off the given rows, so that it need not be typed here. -/
def nameIn {H : Type} : DataW H → String
  | .iface n _ => n
  | _ => ""
abbrev Ybaf.errName : String := nameIn (H := Unit) Rows.laid_example_com_rootlet_rootlet_ErrTreeSize
def Ybaf.plain48 : List UInt8 := 14 :: FmtStop.pack Ybaf.errName.toUTF8.data.toList
theorem Ybaf.opPlain48_119w (name : String) (a : Addr) (s : ByteArray) (w : World) (hc : w.cell? a = some (.string s)) :
    (FmtStop.operand name true 119 false (.iface 48 (.pointer (some a)))).run Ybaf.prog w = .ok (Ybaf.plain48, s.data.toList) w := by
  have h1 : (typeStr 48).run Ybaf.prog w = .ok Ybaf.errName w := by kernel_rfl
  have d2 : Ybaf.t48.desc = .pointer 50 := rfl
  have d3 : Ybaf.t50.desc = .named "errors.errorString" 49 := rfl
  simp [FmtStop.operand, h1, d2, d3, run_load, hc, Ybaf.plain48]

attribute [local go_sem] Ybaf.call9 Ybaf.guard Ybaf.fmt0 Ybaf.fmt0r Ybaf.op22_100w Ybaf.ptr48 Ybaf.elem48 Ybaf.isError48' Ybaf.ptr36 Ybaf.elem36 Ybaf.isError36'

/-! ### 'blocksFailed' -/
theorem failed_nil (blocks : Int) (w : World) :
    Calls Ybaf.prog 4 #[.int .u64 0, .int .u64 blocks] w fun e w' => e = .returned .nilIface ∧ w' = w := by
  go_enter Ybaf.func4, Ybaf.ntmps4
  go_wp2
  go_ret
  exact ⟨rfl, rfl⟩

set_option maxHeartbeats 400000 in
theorem failed_bad (F : Interp) (bad blocks : Int) (a : Addr) (s : ByteArray) (w : World) (hF : F.answers w.tape) (hg : w.cell? ⟨0, 0, none⟩ = some (.iface 48 (.pointer (some a))))
    (hs : (w.alloc (.cells #[.iface 22 (.int .u64 bad), .iface 22 (.int .u64 blocks), .iface 48 (.pointer (some a))] 20)).cell? a = some (.string s)) (hb : (bad == 0) = false) :
    Calls Ybaf.prog 4 #[.int .u64 bad, .int .u64 blocks] w fun e w' => e = .returned (.iface 36 (.pointer (some ⟨w.heap.size + 1, 0, none⟩))) ∧ Below w.heap.size w w' ∧
      w'.cell? ⟨w.heap.size + 1, 0 + 1, none⟩ = some (.iface 48 (.pointer (some a))) := by
  have hF' := answers_open hF
  have hop := Ybaf.opPlain48_119w "fmt.errorf" a s _ hs
  go_enter Ybaf.func4, Ybaf.ntmps4
  go_wp2
  go_ret
  refine ⟨rfl, ?_, ?_⟩
  · exact (((Below.refl _ _).alloc (Nat.le_refl _) _).alloc (by simp) _).drew
  · go_simp

/-! ### The law -/
theorem hideC {P : Program} {f : FuncId} {args : Array Value} {w : World} {Q : Ending → World → Prop} (h : Calls P f args w Q) : Hid (Calls P f args w Q) := h
theorem law_nil (blocks : Int) (w : World) :
    Calls Ybaf.prog 3 #[.int .u64 0, .int .u64 blocks] w fun e w' => e = .returned (.bool true) ∧ w' = w := by
  go_enter Ybaf.func3, Ybaf.ntmps3
  go_wp2_with (go_at_call 4; refine (failed_nil _ _).mono ?_; rintro e w' ⟨rfl, rfl⟩)
  go_ret
  exact ⟨rfl, rfl⟩

set_option maxHeartbeats 1000000 in
theorem law_bad (F : Interp) (bad blocks : Int) (a0 a1 a2 a3 : Addr) (s : ByteArray) (c0 c1 c2 c3 : Array Value) (t0 t1 t2 t3 : TypeId) (w : World) (hF : F.answers w.tape)
    (hg0 : w.cell? ⟨0, 0, none⟩ = some (.iface 48 (.pointer (some a0)))) (hg1 : w.cell? ⟨1, 0, none⟩ = some (.iface 48 (.pointer (some a1))))
    (hg2 : w.cell? ⟨2, 0, none⟩ = some (.iface 48 (.pointer (some a2)))) (hg3 : w.cell? ⟨3, 0, none⟩ = some (.iface 48 (.pointer (some a3))))
    (hs : w.cell? a0 = some (.string s)) (n1 : a0 ≠ a1) (n2 : a0 ≠ a2) (n3 : a0 ≠ a3)
    (hb0 : w.heap[a0.block]? = some (.cells c0 t0 (0, 0))) (hb1 : w.heap[a1.block]? = some (.cells c1 t1 (0, 0))) (hb2 : w.heap[a2.block]? = some (.cells c2 t2 (0, 0))) (hb3 : w.heap[a3.block]? = some (.cells c3 t3 (0, 0)))
    (hb : (bad == 0) = false) :
    Calls Ybaf.prog 3 #[.int .u64 bad, .int .u64 blocks] w fun e w' => e = .returned (.bool true) ∧ Below w.heap.size w w' := by
  have hf := failed_bad F bad blocks a0 s w hF hg0 (cell?_alloc_old _ hs) hb
  have blt : ∀ {k : Nat} {o : Obj}, w.heap[k]? = some o → k < w.heap.size := fun h => (Array.getElem?_eq_some_iff.1 h).1
  have l0 := blt hb0
  have l1 := blt hb1
  have l2 := blt hb2
  have l3 := blt hb3
  have z0 := World.block_lt_of_cell? _ _ hg0
  have z1 := World.block_lt_of_cell? _ _ hg1
  have z2 := World.block_lt_of_cell? _ _ hg2
  have z3 := World.block_lt_of_cell? _ _ hg3
  go_enter Ybaf.func3, Ybaf.ntmps3
  go_wp2_with fail
  refine hf.mono ?_
  rintro e w' ⟨rfl, bel, hin⟩
  rw [← bel.cell z0] at hg0
  rw [← bel.cell z1] at hg1
  rw [← bel.cell z2] at hg2
  rw [← bel.cell z3] at hg3
  rw [← bel.block _ l0] at hb0
  rw [← bel.block _ l1] at hb1
  rw [← bel.block _ l2] at hb2
  rw [← bel.block _ l3] at hb3
  have I0 := is_wrap_same (w.heap.size + 1) 0 a0 w' hin
  have I1 := is_wrap_other (w.heap.size + 1) 0 a1 a0 c0 c1 t0 t1 w' hin n1 hb0 hb1
  have I2 := is_wrap_other (w.heap.size + 1) 0 a2 a0 c0 c2 t0 t2 w' hin n2 hb0 hb2
  have I3 := is_wrap_other (w.heap.size + 1) 0 a3 a0 c0 c3 t0 t3 w' hin n3 hb0 hb3
  have H0 := hideC I0
  have H1 := hideC I1
  have H2 := hideC I2
  have H3 := hideC I3
  have HB : Hid (Below w.heap.size w w') := bel
  clear I0 I1 I2 I3 hb0 hb1 hb2 hb3 n1 n2 n3 hin hs bel hf blt hF
  go_wp2_with fail
  refine H0.out.mono ?_
  rintro e w'' ⟨rfl, rfl⟩
  go_wp2_with fail
  refine H1.out.mono ?_
  rintro e w1 ⟨rfl, rfl⟩
  go_wp2_with fail
  refine H2.out.mono ?_
  rintro e w2 ⟨rfl, rfl⟩
  go_wp2_with fail
  refine H3.out.mono ?_
  rintro e w3 ⟨rfl, rfl⟩
  go_wp2_with fail
  go_ret
  exact ⟨rfl, HB.out⟩
end Go.Proofs.YbulkqwuFmt
