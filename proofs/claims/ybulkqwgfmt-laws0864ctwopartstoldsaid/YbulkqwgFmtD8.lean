import Derived.Test.YbulkqwgFmtD7
import Derived.Conc.EventLaws
namespace Go.Proofs.YbulkqwgFmt.sp
open Go.RowKit Go.MuLone Go.Extern.Stop Go.Stop Go.Extern
set_option linter.unusedVariables false
set_option maxRecDepth 100000

/-! ### What 'LawS0864CTwoParts' lays ahead of its loop -/
abbrev zzStop : ByteArray := { data := #[122, 122, 32, 115, 116, 111, 112] }
abbrev space0 (b : Nat) : Obj := .cells #[.pointer (some ⟨b + 12, 0, none⟩), .int .i32 0, .int .u32 0, .slice none 0 0, .slice none 0 0, .bool false] 35
/-- errors.New. -/
theorem new9 {s : ByteArray} {w : World} : Calls Ybaf.prog 9 #[.string s] w fun e w' => e = .returned (.iface 93 (.pointer (some ⟨w.heap.size, 0, none⟩))) ∧ w' = w.alloc (.cells #[.string s] 95) := by
  go_enter Ybaf.func9, Ybaf.ntmps9
  go_wp2
  go_ret
  exact ⟨rfl, rfl⟩

/-- Behind errors.New. -/
structure Laid2 (b gs n0 n1 : Nat) (aF : Addr) (w0 w : World) : Prop where
  sp : Spool b gs n0 n1 0 0 0 aF w
  S : At w (b + 13) [.pointer (some ⟨b + 12, 0, none⟩), .int .i32 0, .int .u32 0, .slice none 0 0, .slice none 0 0, .bool false] 35
  er : At w (b + 14) [.string zzStop] 95
  chg : Chg (fun x => b ≤ x) w0 w
section
variable {b gs n0 n1 : Nat} {aF : Addr} {w0 w1 w w' : World}
theorem Laid2.to (h : Laid2 b gs n0 n1 aF w0 w) (hc : Chg (fun x => x = b + 15) w w') : Laid2 b gs n0 n1 aF w0 w' where
  sp := h.sp.chg hc fun g hg e => by omega
  S := h.S.chg hc (by omega)
  er := h.er.chg hc (by omega)
  chg := h.chg.trans (hc.mono fun x _ hx => by omega)
theorem new9_laid (hs : Spool b gs n0 n1 0 0 0 aF w1) (hz : w1.heap.size = b + 13) (hc : Chg (fun _ => False) w0 w1) :
    Calls Ybaf.prog 9 #[.string zzStop] (w1.alloc (space0 b)) fun e w' => e = .returned (.iface 93 (.pointer (some ⟨b + 14, 0, none⟩))) ∧ Laid2 b gs n0 n1 aF w0 w' ∧ w'.heap.size = b + 15 := by
  refine new9.mono ?_
  rintro e w' ⟨rfl, rfl⟩
  have e1 : (w1.alloc (space0 b)).heap.size = b + 14 := by simp [hz]
  refine ⟨by rw [e1], ⟨?_, ?_, ?_, ?_⟩, by simp [hz]⟩
  · exact hs.chg (((Chg.refl (fun _ => False) w1).alloc _).alloc _) (fun _ _ h => h)
  · have := (at_new w1 [.pointer (some ⟨b + 12, 0, none⟩), .int .i32 0, .int .u32 0, .slice none 0 0, .slice none 0 0, .bool false] 35).alloc (.cells #[.string zzStop] 95)
    rw [hz] at this; exact this
  · have := at_new (w1.alloc (space0 b)) [.string zzStop] 95
    rw [e1] at this; exact this
  · exact ((hc.mono fun _ _ h => h.elim).alloc _).alloc _
/-- make(chan struct{}) and close. -/
theorem closed (h : Laid2 b gs n0 n1 aF w0 w) (hz : w.heap.size = b + 15) :
    ∃ w3, (∀ ats ty, (Builtin.close_ ats ty #[.chan (some (b + 15))]).run Ybaf.prog (w.alloc (.chan 0 #[] false 0 0 false)) = .ok (.tuple #[]) w3) ∧ Laid2 b gs n0 n1 aF w0 w3 ∧ w3.heap[b + 15]? = some (.chan 0 #[] true 0 0 false) ∧ w3.heap.size = b + 16 := by
  have h1 : (w.alloc (.chan 0 #[] false 0 0 false)).heap[b + 15]? = some (.chan 0 #[] false 0 0 false) := by
    show (w.heap.push _)[b + 15]? = _
    rw [← hz]; simp
  refine ⟨_, fun ats ty => Go.run_close_open (P := Ybaf.prog) ats ty h1, h.to ⟨rfl, rfl, rfl, ?_, ?_⟩, ?_, ?_⟩
  · simp
  · intro g hg hS
    show ((w.heap.push _).setIfInBounds (b + 15) _)[g]? = _
    rw [Array.getElem?_setIfInBounds_ne (by omega), Array.getElem?_push_lt hg, Array.getElem?_eq_getElem hg]
  · show ((w.heap.push _).setIfInBounds (b + 15) _)[b + 15]? = _
    rw [Array.getElem?_setIfInBounds_self_of_lt (by simp [hz])]
  · simp [hz]
/-- The start of the loop. -/
theorem Two.start (h : Laid2 b gs n0 n1 aF w0 w) (hc : w.heap[b + 15]? = some (.chan 0 #[] true 0 0 false)) (hz : w.heap.size = b + 16) :
    Two b gs n0 n1 aF 1 0 0 1 0 0 0 w0 (w.alloc (.cells #[.chan (some (b + 15)), .iface 93 (.pointer (some ⟨b + 14, 0, none⟩)), .int .i64 0] 51)) where
  re0 := .inl ⟨rfl, rfl, rfl⟩
  re1 := .inl ⟨rfl, rfl, rfl⟩
  mem := ⟨.slice none 0 0, .slice none 0 0, [], [], {
      sp := h.sp.chg ((Chg.refl (fun _ => False) w).alloc _) (fun _ _ h => h)
      S := h.S.alloc _
      groups := ⟨rfl, .inl ⟨rfl, rfl⟩⟩
      free := ⟨rfl, .inl ⟨rfl, rfl⟩⟩
      apart := fun g hg => by simp [Value.ownBlock] at hg
      two := by simp
      hc := by omega
      sz := by simp [hz] }, .inl rfl, rfl, rfl, rfl, fun j hj => absurd hj (by simp)⟩
  ctx := {
    cx := by have := at_new w [.chan (some (b + 15)), .iface 93 (.pointer (some ⟨b + 14, 0, none⟩)), .int .i64 0] 51; rw [hz] at this; exact this
    ch := by rw [Below.heap_alloc _ _ _ (by omega)]; exact hc
    er := h.er.alloc _ }
  chg := h.chg.alloc _
end
end Go.Proofs.YbulkqwgFmt.sp
