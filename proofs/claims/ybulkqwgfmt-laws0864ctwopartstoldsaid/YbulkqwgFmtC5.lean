import Derived.Test.YbulkqwgFmtC4
import Derived.Test.YbulkqwgFmtLocks
import Derived.Conc.MuLone
namespace Go.Proofs.YbulkqwgFmt.sp
open Go.RowKit Go.Maps Go.WideMaps Go.MuLone
set_option linter.unusedVariables false
set_option maxRecDepth 100000

/-! ### The spool in memory: thirteen blocks from b on -/
def spoolCells (b gs : Nat) (mu : Int) : List Value :=
  [.int .i64 64, .int .i64 (gs : Int), .slice (some ⟨b + 8, 0, none⟩) 2 2, .slice (some ⟨b + 9, 0, none⟩) 2 2, .map (some (b + 10)), .pointer (some ⟨b, 0, none⟩), .int .i32 mu, .int .u32 0, .chan (some (b + 11))]
def partCells (nm : ByteArray) (d : Bool) (i fa : Nat) : List Value :=
  [.string nm, .bool d, .string ByteArray.empty, .int .i64 (i : Int), .slice (some ⟨fa, 0, none⟩) 1 1, .pointer none]
structure Spool (b gs n0 n1 k0 k1 : Nat) (mu : Int) (aF : Addr) (w : World) : Prop where
  S : At w (b + 12) (spoolCells b gs mu) 74
  A : At w b (partCells { data := #[65] } true 0 (b + 6)) 58
  B : At w (b + 1) (partCells { data := #[66] } false 1 (b + 7)) 58
  f0 : FileAt w (b + 3) (b + 2) 0 b n0 k0
  f1 : FileAt w (b + 5) (b + 4) 1 (b + 1) n1 k1
  FA : At w (b + 6) [.pointer (some ⟨b + 3, 0, none⟩)] 59
  FB : At w (b + 7) [.pointer (some ⟨b + 5, 0, none⟩)] 59
  FS : At w (b + 8) [.pointer (some ⟨b + 3, 0, none⟩), .pointer (some ⟨b + 5, 0, none⟩)] 59
  PS : At w (b + 9) [.pointer (some ⟨b, 0, none⟩), .pointer (some ⟨b + 1, 0, none⟩)] 53
  names : Names w (b + 10) b (b + 1)
  chan : w.heap[b + 11]? = some (.chan 0 #[] false 0 0 false)
  tab : Tab w
  full : w.cell? ⟨0, 0, none⟩ = some (.iface 93 (.pointer (some aF)))
  lo : 3 ≤ b
  n0 : n0 ≤ 5
  n1 : n1 ≤ 5

section
variable {b gs n0 n1 k0 k1 : Nat} {mu : Int} {aF : Addr} {w w' : World} {S : Nat → Prop}
theorem cell_chg {g k : Nat} {v : Value} (h : w.cell? ⟨g, k, none⟩ = some v) (hc : Chg S w w') (hS : ¬ S g) : w'.cell? ⟨g, k, none⟩ = some v := by
  rw [World.cell?_of_block (w := w) (a := ⟨g, k, none⟩) (hc.block g (World.block_lt_of_cell? _ _ h) hS)]; exact h
theorem Spool.chg (h : Spool b gs n0 n1 k0 k1 mu aF w) (hc : Chg S w w') (hS : ∀ g, g < b + 13 → ¬ S g) : Spool b gs n0 n1 k0 k1 mu aF w' where
  S := h.S.chg hc (hS _ (by omega))
  A := h.A.chg hc (hS _ (by omega))
  B := h.B.chg hc (hS _ (by omega))
  f0 := ⟨h.f0.1.chg hc (hS _ (by omega)), h.f0.2.chg hc (hS _ (by omega))⟩
  f1 := ⟨h.f1.1.chg hc (hS _ (by omega)), h.f1.2.chg hc (hS _ (by omega))⟩
  FA := h.FA.chg hc (hS _ (by omega))
  FB := h.FB.chg hc (hS _ (by omega))
  FS := h.FS.chg hc (hS _ (by omega))
  PS := h.PS.chg hc (hS _ (by omega))
  names := h.names.chg hc (hS _ (by omega))
  chan := by have hl := (Array.getElem?_eq_some_iff.1 h.chan).1; rw [hc.block _ hl (hS _ (by omega))]; exact h.chan
  tab := h.tab.chg hc (hS _ (by have := h.lo; omega))
  full := cell_chg h.full hc (hS _ (by have := h.lo; omega))
  lo := h.lo
  n0 := h.n0
  n1 := h.n1
/-- The lock's word turned. -/
theorem Spool.locked (h : Spool b gs n0 n1 k0 k1 mu aF w) (m : Int) : Spool b gs n0 n1 k0 k1 m aF (w.setCell ⟨b + 12, 6, none⟩ (.int .i32 m)) := by
  have hc : Chg (fun g => g = b + 12) w (w.setCell ⟨b + 12, 6, none⟩ (.int .i32 m)) := Chg.setCell (S := fun g => g = b + 12) (Chg.refl _ w) (.inl rfl) 6 _
  have lo := h.lo
  exact {
    S := (h.S.set 6 (.int .i32 m)).eq rfl
    A := h.A.chg hc (by omega)
    B := h.B.chg hc (by omega)
    f0 := ⟨h.f0.1.chg hc (by omega), h.f0.2.chg hc (by omega)⟩
    f1 := ⟨h.f1.1.chg hc (by omega), h.f1.2.chg hc (by omega)⟩
    FA := h.FA.chg hc (by omega)
    FB := h.FB.chg hc (by omega)
    FS := h.FS.chg hc (by omega)
    PS := h.PS.chg hc (by omega)
    names := h.names.chg hc (by omega)
    chan := by have hl := (Array.getElem?_eq_some_iff.1 h.chan).1; rw [hc.block _ hl (by omega)]; exact h.chan
    tab := h.tab.chg hc (by omega)
    full := cell_chg h.full hc (by omega)
    lo := h.lo
    n0 := h.n0
    n1 := h.n1 }
/-- File 0 turned. -/
theorem Spool.file0 (h : Spool b gs n0 n1 k0 k1 mu aF w) {k : Nat} (hf : FileAt w' (b + 3) (b + 2) 0 b n0 k) (hc : Chg (fun g => g = b + 3 ∨ g = b + 2) w w') : Spool b gs n0 n1 k k1 mu aF w' := by
  have lo := h.lo
  exact {
    S := h.S.chg hc (by omega)
    A := h.A.chg hc (by omega)
    B := h.B.chg hc (by omega)
    f0 := hf
    f1 := ⟨h.f1.1.chg hc (by omega), h.f1.2.chg hc (by omega)⟩
    FA := h.FA.chg hc (by omega)
    FB := h.FB.chg hc (by omega)
    FS := h.FS.chg hc (by omega)
    PS := h.PS.chg hc (by omega)
    names := h.names.chg hc (by omega)
    chan := by have hl := (Array.getElem?_eq_some_iff.1 h.chan).1; rw [hc.block _ hl (by omega)]; exact h.chan
    tab := h.tab.chg hc (by omega)
    full := cell_chg h.full hc (by omega)
    lo := h.lo
    n0 := h.n0
    n1 := h.n1 }
/-- File 1 turned. -/
theorem Spool.file1 (h : Spool b gs n0 n1 k0 k1 mu aF w) {k : Nat} (hf : FileAt w' (b + 5) (b + 4) 1 (b + 1) n1 k) (hc : Chg (fun g => g = b + 5 ∨ g = b + 4) w w') : Spool b gs n0 n1 k0 k mu aF w' := by
  have lo := h.lo
  exact {
    S := h.S.chg hc (by omega)
    A := h.A.chg hc (by omega)
    B := h.B.chg hc (by omega)
    f0 := ⟨h.f0.1.chg hc (by omega), h.f0.2.chg hc (by omega)⟩
    f1 := hf
    FA := h.FA.chg hc (by omega)
    FB := h.FB.chg hc (by omega)
    FS := h.FS.chg hc (by omega)
    PS := h.PS.chg hc (by omega)
    names := h.names.chg hc (by omega)
    chan := by have hl := (Array.getElem?_eq_some_iff.1 h.chan).1; rw [hc.block _ hl (by omega)]; exact h.chan
    tab := h.tab.chg hc (by omega)
    full := cell_chg h.full hc (by omega)
    lo := h.lo
    n0 := h.n0
    n1 := h.n1 }
end

/-- The spool's own blocks. -/
def InS (b g : Nat) : Prop := b ≤ g ∧ g < b + 13

set_option maxHeartbeats 8000000 in
/-- '(*Spool).takeGroup' of the default partition, a group free. -/
theorem group13_A {b gs n0 n1 k0 k1 : Nat} {aF : Addr} {cv : Value} {w : World} (hk : k0 < n0) (h : Spool b gs n0 n1 k0 k1 0 aF w) :
    Calls Ybaf.prog 13 #[.pointer (some ⟨b + 12, 0, none⟩), cv, .string { data := #[] }] w fun e w' => e = .returned (.tuple #[.agg #[.int .i64 0, .int .i64 (k0 : Int)], .nilIface]) ∧ Spool b gs n0 n1 (k0 + 1) k1 0 aF w' ∧ Chg (InS b) w w' := by
  have lS := h.S.lt
  have H0 := hid (h.chg ((Chg.refl (fun _ => False) w).alloc (.cells #[.int .i64 0, .int .i64 0] 79)) (fun _ _ h => h))
  have C0 := hid ((Chg.refl (InS b) w).alloc (.cells #[.int .i64 0, .int .i64 0] 79))
  clear h
  have R0 := hid (at_new w [Value.int .i64 0, .int .i64 0] 79)
  go_enter Ybaf.func13, Ybaf.ntmps13
  go_wp2
  go_loopw [12] (fun _ wr => wr = w.alloc (.cells #[.int .i64 0, .int .i64 0] 79)) (fun _ _ => 0)
  case atStart => rfl
  case round =>
    subst hrel
    have s6 := H0.out.S.cell (k := 6) rfl
    have z6 := H0.out.S.frozen 6
    go_wp2_with fail
    refine (lock_free Ybaf.muLib ⟨b + 12, 6, none⟩ _ s6 z6).mono ?_
    rintro e w1 ⟨rfl, e1⟩
    have H1 : Hid (Spool b gs n0 n1 k0 k1 1 aF w1) := by rw [e1]; exact H0.out.locked 1
    have C1 : Hid (Chg (InS b) w w1) := by rw [e1]; exact C0.out.setCell (.inl ⟨by omega, by omega⟩) 6 _
    have R1 : Hid (At w1 w.heap.size [.int .i64 0, .int .i64 0] 79) := by rw [e1]; exact R0.out.set_ne (by omega) 6 _
    clear e1 H0 C0 R0 s6 z6
    go_wp2_with fail
    refine (part25_empty H1.out.names (H1.out.S.cell (k := 4) rfl) (H1.out.S.cell (k := 5) rfl)).mono ?_
    rintro e w' ⟨rfl, rfl⟩
    go_wp2_with fail
    refine (take24 (D := 0) (by omega) hk H1.out.n0 (by omega) H1.out.tab H1.out.f0 (H1.out.S.cell (k := 3) rfl) (H1.out.A.cell (k := 4) rfl) (H1.out.FA.cell (k := 0) rfl)).mono ?_
    rintro e w2 ⟨rfl, hf, hc⟩
    have H2 := hid (H1.out.file0 hf hc)
    have C2 := hid (C1.out.trans (hc.mono (S' := InS b) (fun g _ hg => ⟨by omega, by omega⟩)))
    have R2 := hid (R1.out.chg hc (by omega))
    have l2 := H2.out.S.lt
    have l3 := R2.out.lt
    clear H1 C1 R1 hf hc
    have s8 := H2.out.S.cell (k := 8) rfl
    have s8' := cell_alloc (.cells #[.int .i64 0, .int .i64 0] 79) s8
    go_wp2_with fail
    have H3 := hid (H2.out.chg ((Chg.refl (fun _ => False) w2).alloc (.cells #[.int .i64 0, .int .i64 (k0 : Int)] 79)) (fun _ _ h => h))
    refine (unlock_held Ybaf.muLib ⟨b + 12, 6, none⟩ _ (H3.out.S.cell (k := 6) rfl) (H3.out.S.frozen 6)).mono ?_
    rintro e w4 ⟨rfl, e4⟩
    have H4 : Hid (Spool b gs n0 n1 (k0 + 1) k1 0 aF w4) := by rw [e4]; exact H3.out.locked 0
    have C4 : Hid (Chg (InS b) w w4) := by rw [e4]; exact (C2.out.alloc _).setCell (.inl ⟨by omega, by omega⟩) 6 _
    have R4 : At w4 w.heap.size [.int .i64 0, .int .i64 0] 79 := by rw [e4]; exact (R2.out.alloc _).set_ne (by omega) 6 _
    have G4 : At w4 w2.heap.size [.int .i64 0, .int .i64 (k0 : Int)] 79 := by rw [e4]; exact (at_new w2 _ 79).set_ne (by omega) 6 _
    have g0 := G4.cell (k := 0) rfl
    have g1 := G4.cell (k := 1) rfl
    have r0 := R4.cell (k := 0) rfl
    have r1 := R4.cell (k := 1) rfl
    have z0 := R4.frozen 0
    have z1 := R4.frozen 1
    clear e4 H2 C2 R2 H3 s8 s8' R4 G4
    go_wp2
    (try simp only [Exit.inBlock, Exit.then])
    refine bodyPost_ret (v := .tuple #[.agg #[.int .i64 0, .int .i64 (k0 : Int)], .nilIface]) ?_ rfl ⟨rfl, ?_, ?_⟩
    · rw [results_cell_tmp rfl]
      go_simp
    · exact H4.out.chg (Chg.setCell (Chg.setCell (Chg.refl (fun g => g = w.heap.size) w4) (.inl rfl) 0 _) (.inl rfl) 1 _) (by omega)
    · exact (C4.out.setCell (.inr (Nat.le_refl _)) 0 _).setCell (.inr (Nat.le_refl _)) 1 _
end Go.Proofs.YbulkqwgFmt.sp
