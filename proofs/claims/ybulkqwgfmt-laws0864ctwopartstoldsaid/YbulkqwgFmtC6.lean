import Derived.Test.YbulkqwgFmtC5
namespace Go.Proofs.YbulkqwgFmt.sp
open Go.RowKit Go.Maps Go.WideMaps Go.MuLone
set_option linter.unusedVariables false
set_option maxRecDepth 100000

set_option maxHeartbeats 8000000 in
/-- '(*Spool).takeGroup' of the other partition, a group free. -/
theorem group13_B {b gs n0 n1 k0 k1 : Nat} {aF : Addr} {cv : Value} {w : World} (hk : k1 < n1) (h : Spool b gs n0 n1 k0 k1 0 aF w) :
    Calls Ybaf.prog 13 #[.pointer (some ⟨b + 12, 0, none⟩), cv, .string { data := #[66] }] w fun e w' => e = .returned (.tuple #[.agg #[.int .i64 1, .int .i64 (k1 : Int)], .nilIface]) ∧ Spool b gs n0 n1 k0 (k1 + 1) 0 aF w' ∧ Chg (InS b) w w' := by
  have lS := h.S.lt
  have H0 := hid (h.chg ((Chg.refl (fun _ => False) w).alloc (.cells #[.int .i64 0, .int .i64 0] 79)) (fun _ _ h => h))
  have C0 := hid ((Chg.refl (InS b) w).alloc (.cells #[.int .i64 0, .int .i64 0] 79))
  clear h
  have R0 := hid (at_new w [Value.int .i64 0, .int .i64 0] 79)
  go_enter Ybaf.func13, Ybaf.ntmps13
  go_wp2
  go_loopw [12] (fun _ wr => wr = w.alloc (.cells #[.int .i64 0, .int .i64 0] 79)) (fun _ _ => 0)
  case atStart => rfl
  case round =>
    subst hrel
    have s6 := H0.out.S.cell (k := 6) rfl
    have z6 := H0.out.S.frozen 6
    go_wp2_with fail
    refine (lock_free Ybaf.muLib ⟨b + 12, 6, none⟩ _ s6 z6).mono ?_
    rintro e w1 ⟨rfl, e1⟩
    have H1 : Hid (Spool b gs n0 n1 k0 k1 1 aF w1) := by rw [e1]; exact H0.out.locked 1
    have C1 : Hid (Chg (InS b) w w1) := by rw [e1]; exact C0.out.setCell (.inl ⟨by omega, by omega⟩) 6 _
    have R1 : Hid (At w1 w.heap.size [.int .i64 0, .int .i64 0] 79) := by rw [e1]; exact R0.out.set_ne (by omega) 6 _
    clear e1 H0 C0 R0 s6 z6
    go_wp2_with fail
    refine (part25_B H1.out.names (H1.out.S.cell (k := 4) rfl)).mono ?_
    rintro e w' ⟨rfl, rfl⟩
    go_wp2_with fail
    refine (take24 (D := 0) (by omega) hk H1.out.n1 (by omega) H1.out.tab H1.out.f1 (H1.out.S.cell (k := 3) rfl) (H1.out.B.cell (k := 4) rfl) (H1.out.FB.cell (k := 0) rfl)).mono ?_
    rintro e w2 ⟨rfl, hf, hc⟩
    have H2 := hid (H1.out.file1 hf hc)
    have C2 := hid (C1.out.trans (hc.mono (S' := InS b) (fun g _ hg => ⟨by omega, by omega⟩)))
    have R2 := hid (R1.out.chg hc (by omega))
    have l2 := H2.out.S.lt
    have l3 := R2.out.lt
    clear H1 C1 R1 hf hc
    have s8 := H2.out.S.cell (k := 8) rfl
    have s8' := cell_alloc (.cells #[.int .i64 0, .int .i64 0] 79) s8
    go_wp2_with fail
    have H3 := hid (H2.out.chg ((Chg.refl (fun _ => False) w2).alloc (.cells #[.int .i64 1, .int .i64 (k1 : Int)] 79)) (fun _ _ h => h))
    refine (unlock_held Ybaf.muLib ⟨b + 12, 6, none⟩ _ (H3.out.S.cell (k := 6) rfl) (H3.out.S.frozen 6)).mono ?_
    rintro e w4 ⟨rfl, e4⟩
    have H4 : Hid (Spool b gs n0 n1 k0 (k1 + 1) 0 aF w4) := by rw [e4]; exact H3.out.locked 0
    have C4 : Hid (Chg (InS b) w w4) := by rw [e4]; exact (C2.out.alloc _).setCell (.inl ⟨by omega, by omega⟩) 6 _
    have R4 : At w4 w.heap.size [.int .i64 0, .int .i64 0] 79 := by rw [e4]; exact (R2.out.alloc _).set_ne (by omega) 6 _
    have G4 : At w4 w2.heap.size [.int .i64 1, .int .i64 (k1 : Int)] 79 := by rw [e4]; exact (at_new w2 _ 79).set_ne (by omega) 6 _
    have g0 := G4.cell (k := 0) rfl
    have g1 := G4.cell (k := 1) rfl
    have r0 := R4.cell (k := 0) rfl
    have r1 := R4.cell (k := 1) rfl
    have z0 := R4.frozen 0
    have z1 := R4.frozen 1
    clear e4 H2 C2 R2 H3 s8 s8' R4 G4
    go_wp2
    (try simp only [Exit.inBlock, Exit.then])
    refine bodyPost_ret (v := .tuple #[.agg #[.int .i64 1, .int .i64 (k1 : Int)], .nilIface]) ?_ rfl ⟨rfl, ?_, ?_⟩
    · rw [results_cell_tmp rfl]
      go_simp
    · exact H4.out.chg (Chg.setCell (Chg.setCell (Chg.refl (fun g => g = w.heap.size) w4) (.inl rfl) 0 _) (.inl rfl) 1 _) (by omega)
    · exact (C4.out.setCell (.inr (Nat.le_refl _)) 0 _).setCell (.inr (Nat.le_refl _)) 1 _
set_option maxHeartbeats 8000000 in
/-- '(*Spool).takeGroup' of the default partition, no group free. -/
theorem group13_full {b gs n0 n1 k1 : Nat} {aF : Addr} {cv : Value} {w : World} (h : Spool b gs n0 n1 n0 k1 0 aF w) :
    Calls Ybaf.prog 13 #[.pointer (some ⟨b + 12, 0, none⟩), cv, .string { data := #[] }] w fun e w' => e = .returned (.tuple #[.agg #[.int .i64 0, .int .i64 0], .iface 93 (.pointer (some aF))]) ∧ Spool b gs n0 n1 n0 k1 0 aF w' ∧ Chg (InS b) w w' := by
  have lS := h.S.lt
  have H0 := hid (h.chg ((Chg.refl (fun _ => False) w).alloc (.cells #[.int .i64 0, .int .i64 0] 79)) (fun _ _ h => h))
  have C0 := hid ((Chg.refl (InS b) w).alloc (.cells #[.int .i64 0, .int .i64 0] 79))
  clear h
  have R0 := hid (at_new w [Value.int .i64 0, .int .i64 0] 79)
  go_enter Ybaf.func13, Ybaf.ntmps13
  go_wp2
  go_loopw [12] (fun _ wr => wr = w.alloc (.cells #[.int .i64 0, .int .i64 0] 79)) (fun _ _ => 0)
  case atStart => rfl
  case round =>
    subst hrel
    have s6 := H0.out.S.cell (k := 6) rfl
    have z6 := H0.out.S.frozen 6
    go_wp2_with fail
    refine (lock_free Ybaf.muLib ⟨b + 12, 6, none⟩ _ s6 z6).mono ?_
    rintro e w1 ⟨rfl, e1⟩
    have H1 : Hid (Spool b gs n0 n1 n0 k1 1 aF w1) := by rw [e1]; exact H0.out.locked 1
    have C1 : Hid (Chg (InS b) w w1) := by rw [e1]; exact C0.out.setCell (.inl ⟨by omega, by omega⟩) 6 _
    have R1 : Hid (At w1 w.heap.size [.int .i64 0, .int .i64 0] 79) := by rw [e1]; exact R0.out.set_ne (by omega) 6 _
    clear e1 H0 C0 R0 s6 z6
    go_wp2_with fail
    refine (part25_empty H1.out.names (H1.out.S.cell (k := 4) rfl) (H1.out.S.cell (k := 5) rfl)).mono ?_
    rintro e w' ⟨rfl, rfl⟩
    go_wp2_with fail
    refine (take24_def H1.out.n0 H1.out.tab H1.out.f0 (H1.out.S.cell (k := 3) rfl) (H1.out.S.cell (k := 5) rfl) (H1.out.A.cell (k := 4) rfl) (H1.out.FA.cell (k := 0) rfl)).mono ?_
    rintro e w2 ⟨rfl, hc⟩
    have H2 := hid (H1.out.chg hc (fun _ _ h => h))
    have C2 := hid (C1.out.trans (hc.mono (S' := InS b) (fun g _ hg => hg.elim)))
    have R2 := hid (R1.out.chg hc (fun h => h))
    have l2 := H2.out.S.lt
    have l3 := R2.out.lt
    clear H1 C1 R1 hc
    have s8 := H2.out.S.cell (k := 8) rfl
    have s8' := cell_alloc (.cells #[.int .i64 0, .int .i64 0] 79) s8
    go_wp2_with fail
    have H3 := hid (H2.out.chg ((Chg.refl (fun _ => False) w2).alloc (.cells #[.int .i64 0, .int .i64 0] 79)) (fun _ _ h => h))
    refine (unlock_held Ybaf.muLib ⟨b + 12, 6, none⟩ _ (H3.out.S.cell (k := 6) rfl) (H3.out.S.frozen 6)).mono ?_
    rintro e w4 ⟨rfl, e4⟩
    have H4 : Hid (Spool b gs n0 n1 n0 k1 0 aF w4) := by rw [e4]; exact H3.out.locked 0
    have C4 : Hid (Chg (InS b) w w4) := by rw [e4]; exact (C2.out.alloc _).setCell (.inl ⟨by omega, by omega⟩) 6 _
    have R4 : At w4 w.heap.size [.int .i64 0, .int .i64 0] 79 := by rw [e4]; exact (R2.out.alloc _).set_ne (by omega) 6 _
    have G4 : At w4 w2.heap.size [.int .i64 0, .int .i64 0] 79 := by rw [e4]; exact (at_new w2 _ 79).set_ne (by omega) 6 _
    have g0 := G4.cell (k := 0) rfl
    have g1 := G4.cell (k := 1) rfl
    have r0 := R4.cell (k := 0) rfl
    have r1 := R4.cell (k := 1) rfl
    have z0 := R4.frozen 0
    have z1 := R4.frozen 1
    have gl := H4.out.full
    clear e4 H2 C2 R2 H3 s8 s8' R4 G4
    go_wp2
    go_region
    go_wp2
    (try simp only [Exit.inBlock, Exit.then])
    refine bodyPost_ret (v := .tuple #[.agg #[.int .i64 0, .int .i64 0], .iface 93 (.pointer (some aF))]) ?_ rfl ⟨rfl, ?_, ?_⟩
    · rw [results_cell_tmp rfl]
      go_simp
    · exact H4.out.chg (Chg.setCell (Chg.setCell (Chg.refl (fun g => g = w.heap.size) w4) (.inl rfl) 0 _) (.inl rfl) 1 _).drew (by omega)
    · exact ((C4.out.setCell (.inr (Nat.le_refl _)) 0 _).setCell (.inr (Nat.le_refl _)) 1 _).drew
end Go.Proofs.YbulkqwgFmt.sp
