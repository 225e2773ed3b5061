import Derived.Test.YbulkqwgFmtE17
import Derived.Test.YbulkqwgFmtIs
import Derived.WalkSpells
import Derived.Stop.CallBack
import Derived.Stop.IfaceNil
import Derived.Stop.LaidErr
import Derived.Stop.LaidTwo
/-! The ctx of 'LawS0864CTwoParts', and fmt.Errorf at its error. The closed facts on fmt's stopped front are after the guide's worked SentryFmt, at this program's numbers. -/
namespace Go.Proofs.YbulkqwgFmt.sp
open Go.RowKit Go.MuLone Go.Extern.Stop Go.Stop Go.Extern
set_option linter.unusedVariables false
set_option maxRecDepth 100000

/-- The ctx, its closed channel and its error, behind the space. -/
structure Ctx (b n : Nat) (w : World) : Prop where
  cx : At w (b + 16) [.chan (some (b + 15)), .iface 93 (.pointer (some ⟨b + 14, 0, none⟩)), .int .i64 (n : Int)] 51
  ch : w.heap[b + 15]? = some (.chan 0 #[] true 0 0 false)
  er : At w (b + 14) [.string { data := #[122, 122, 32, 115, 116, 111, 112] }] 95
theorem Ctx.chg {b n : Nat} {w w' : World} {S : Nat → Prop} (h : Ctx b n w) (hc : Chg S w w') (h1 : ¬ S (b + 14)) (h2 : ¬ S (b + 15)) (h3 : ¬ S (b + 16)) : Ctx b n w' where
  cx := h.cx.chg hc h3
  ch := by have hl := (Array.getElem?_eq_some_iff.1 h.ch).1; rw [hc.block _ hl h2]; exact h.ch
  er := h.er.chg hc h1

theorem done65 {b n : Nat} {w : World} (hn : n ≤ 100000) (h : Ctx b n w) :
    Calls Ybaf.prog 65 #[.pointer (some ⟨b + 16, 0, none⟩)] w fun e w' => e = .returned (.chan (some (b + 15))) ∧ Ctx b (n + 1) w' ∧ Chg (fun x => x = b + 16) w w' := by
  have c0 := h.cx.cell (k := 0) rfl
  have c2 := h.cx.cell (k := 2) rfl
  have z2 := h.cx.frozen 2
  have H := hid h
  clear h
  go_enter Ybaf.func65, Ybaf.ntmps65
  go_wp2
  go_ret
  have K : Chg (fun x => x = b + 16) w (w.setCell ⟨b + 16, 2, none⟩ (.int .i64 ((n : Int) + 1))) := Chg.setCell (S := fun x => x = b + 16) (Chg.refl _ w) (.inl rfl) 2 _
  refine ⟨rfl, ⟨(H.out.cx.set 2 (.int .i64 ((n : Int) + 1))).eq ?_, ?_, H.out.er.chg K (by omega)⟩, K⟩
  · simp
  · have hl := (Array.getElem?_eq_some_iff.1 H.out.ch).1
    rw [K.block _ hl (by omega)]; exact H.out.ch
theorem err66 {b n : Nat} {w : World} (h : Ctx b n w) :
    Calls Ybaf.prog 66 #[.pointer (some ⟨b + 16, 0, none⟩)] w fun e w' => e = .returned (.iface 93 (.pointer (some ⟨b + 14, 0, none⟩))) ∧ w' = w := by
  have c1 := h.cx.cell (k := 1) rfl
  clear h
  go_enter Ybaf.func66, Ybaf.ntmps66
  go_wp2
  go_ret
  exact ⟨rfl, rfl⟩

/-! ### fmt.errorf, function 28: a plain stop; its format and its operands -/
theorem Ybaf.call28 (args : Array Value) (w : World) : (callFunc 28 args).run Ybaf.prog w = ((FmtStop.errorf #[9, 109] #[39] args).run Ybaf.prog w).andThen fun v w' => .ok (.value v) w' :=
  run_callFunc_extern Ybaf.func28 (by kernel_rfl) (by kernel_rfl) (by kernel_rfl) (by kernel_rfl) args w
theorem Ybaf.guard (name : String) (w : World) : (FmtStop.guard name).run Ybaf.prog w = .ok () w := by kernel_rfl
theorem Ybaf.fmt0 : FmtStop.printed? ⟨#[119, 97, 105, 116, 32, 102, 111, 114, 32, 97, 32, 102, 114, 101, 101, 32, 116, 114, 97, 99, 107, 32, 103, 114, 111, 117, 112, 32, 111, 102, 32, 115, 112, 111, 111, 108, 32, 112, 97, 114, 116, 105, 116, 105, 111, 110, 32, 37, 115, 58, 32, 37, 119]⟩ 2 = some [(0, 115, false), (1, 119, false)] := by kernel_rfl
theorem Ybaf.fmt0r (w : World) : (FmtDoors.printed ⟨#[119, 97, 105, 116, 32, 102, 111, 114, 32, 97, 32, 102, 114, 101, 101, 32, 116, 114, 97, 99, 107, 32, 103, 114, 111, 117, 112, 32, 111, 102, 32, 115, 112, 111, 111, 108, 32, 112, 97, 114, 116, 105, 116, 105, 111, 110, 32, 37, 115, 58, 32, 37, 119]⟩ 2).run Ybaf.prog w = .ok [(0, 115, false), (1, 119, false)] w := by kernel_rfl
theorem Ybaf.ptr93 (w : World) : (FmtStop.ptrTo "errors.errorString").run Ybaf.prog w = .ok 93 w := by kernel_rfl
theorem Ybaf.elem93 (w : World) : (elemOf 93).run Ybaf.prog w = .ok 95 w := by kernel_rfl
theorem Ybaf.isError93' (w : World) : (FmtDoors.textMethod 93 "Error").run Ybaf.prog w = .ok true w := by kernel_rfl
theorem Ybaf.ptr110 (w : World) : (FmtStop.ptrTo "fmt.wrapError").run Ybaf.prog w = .ok 110 w := by kernel_rfl
theorem Ybaf.elem110 (w : World) : (elemOf 110).run Ybaf.prog w = .ok 166 w := by kernel_rfl
theorem Ybaf.isError110' (w : World) : (FmtDoors.textMethod 110 "Error").run Ybaf.prog w = .ok true w := by kernel_rfl
/-- The name of the type that a datum behind an interface bears. -/
def nameIn {H : Type} : DataW H → String
  | .iface n _ => n
  | _ => ""
abbrev Ybaf.errName : String := nameIn (H := Unit) Rows.laid_example_com_spoolwright_spoolwright_internal_spool_ErrFull
def Ybaf.plain93 : List UInt8 := 14 :: FmtStop.pack Ybaf.errName.toUTF8.data.toList
theorem Ybaf.opPlain93_119w (name : String) (a : Addr) (s : ByteArray) (w : World) (hc : w.cell? a = some (.string s)) :
    (FmtStop.operand name true 119 false (.iface 93 (.pointer (some a)))).run Ybaf.prog w = .ok (Ybaf.plain93, s.data.toList) w := by
  have h1 : (typeStr 93).run Ybaf.prog w = .ok Ybaf.errName w := by kernel_rfl
  have d2 : Ybaf.t93.desc = .pointer 95 := rfl
  have d3 : Ybaf.t95.desc = .named "errors.errorString" 94 := rfl
  simp [FmtStop.operand, h1, d2, d3, run_load, hc, Ybaf.plain93]
def Ybaf.shape9 : List UInt8 := [12, 6, 0, 0, 0, 0, 0, 0, 0, 115, 116, 114, 105, 110, 103]
theorem Ybaf.op9_115w (name : String) (x : ByteArray) (w : World) : (FmtStop.operand name true 115 false (.iface 9 (.string x))).run Ybaf.prog w = .ok (Ybaf.shape9, FmtStop.pack x.data.toList) w := by kernel_rfl
attribute [local go_sem] Ybaf.call28 Ybaf.guard Ybaf.fmt0 Ybaf.fmt0r Ybaf.ptr93 Ybaf.elem93 Ybaf.isError93' Ybaf.ptr110 Ybaf.elem110 Ybaf.isError110' Ybaf.op9_115w

set_option maxHeartbeats 2000000 in
/-- fmt.Errorf of the name and the error: a *fmt.wrapError that holds it. -/
theorem errorf16 {F : Interp} {X : Nat} {a : Addr} {s : ByteArray} {w : World} (hF : F.answers w.tape) (hX : At w X [.iface 9 (.string { data := #[66] }), .iface 93 (.pointer (some a))] 20) (hs : w.cell? a = some (.string s)) :
    Calls Ybaf.prog 16 #[.string { data := #[119, 97, 105, 116, 32, 102, 111, 114, 32, 97, 32, 102, 114, 101, 101, 32, 116, 114, 97, 99, 107, 32, 103, 114, 111, 117, 112, 32, 111, 102, 32, 115, 112, 111, 111, 108, 32, 112, 97, 114, 116, 105, 116, 105, 111, 110, 32, 37, 115, 58, 32, 37, 119] }, .slice (some ⟨X, 0, none⟩) 2 2] w fun e w' => ∃ E, w.heap.size ≤ E ∧ e = .returned (.iface 110 (.pointer (some ⟨E, 0, none⟩))) ∧ w'.cell? ⟨E, 0 + 1, none⟩ = some (.iface 93 (.pointer (some a))) ∧ Chg (fun _ => False) w w' := by
  have hF' := answers_open hF
  have hop := Ybaf.opPlain93_119w "fmt.errorf" a s w hs
  have x0 := hX.cell (k := 0) rfl
  have x1 := hX.cell (k := 1) rfl
  clear hX
  go_enter Ybaf.func16, Ybaf.ntmps16
  go_wp2
  go_ret
  refine ⟨w.heap.size, Nat.le_refl _, rfl, ?_, ?_⟩
  · go_simp
  · exact ((Chg.refl _ w).alloc _).drew
end Go.Proofs.YbulkqwgFmt.sp
