import Derived.Test.YbulkqwgFmtD3
namespace Go.Proofs.YbulkqwgFmt.sp
open Go.RowKit Go.MuLone Go.Extern.Stop Go.Stop Go.Extern
set_option linter.unusedVariables false
set_option maxRecDepth 100000

set_option maxHeartbeats 8000000 in
/-- '(*Space).record': no record is left, and no group can be had: takeGroup's error is handed on. -/
theorem record6_wait {b c gs n0 n1 k0 k1 : Nat} {aF : Addr} {gv fv cv : Value} {gl : List (Nat × Nat)} {es : List Ent} {q : ByteArray} {t : TypeId} {I : World → Prop} {R : Value → World → World → Prop} {w : World}
    (hm : Miss es q) (h : Space b c gs n0 n1 k0 k1 aF gv fv gl es w)
    (hI0 : I w) (hI : ∀ w w', I w → Chg (fun x => x = b + 13) w w' → I w')
    (h13 : ∀ w, Space b c gs n0 n1 k0 k1 aF gv fv gl es w → I w → Calls Ybaf.prog 13 #[.pointer (some ⟨b + 12, 0, none⟩), cv, .string q] w fun e w' => ∃ x, e = .returned (.tuple #[.agg #[.int .i64 0, .int .i64 0], .iface t x]) ∧ Space b c gs n0 n1 k0 k1 aF gv fv gl es w' ∧ R x w w') :
    Calls Ybaf.prog 6 #[.pointer (some ⟨b + 13, 0, none⟩), cv, .string q] w fun e w' => ∃ x, e = .returned (.tuple #[.int .u64 0, .iface t x]) ∧
      Space b c gs n0 n1 k0 k1 aF gv fv gl es w' ∧ ∃ w1 w2, Chg (fun x => x = b + 13) w w1 ∧ R x w1 w2 ∧ Chg (fun _ => False) w2 w' := by
  have hc := h.hc
  have c1 := h.S.cell (k := 1) rfl
  have z1 := h.S.frozen 1
  have ltS := h.S.lt
  have H := hid h
  have H13 := hid h13
  have hF : ∀ g, fv.ownBlock = some g → c ≤ g := fun g hg => (h.free.lt hg).1
  have hG : ∀ g, gv.ownBlock = some g → c ≤ g := fun g hg => (owns_lt h.groups hg).1
  have HF := hid hF
  have HG := hid hG
  clear h hF hG h13
  go_enter Ybaf.func6, Ybaf.ntmps6
  go_wp2_with fail
  refine (lock_free Ybaf.muLib ⟨b + 13, 1, none⟩ _ c1 z1).mono ?_
  rintro e w1 ⟨rfl, e1⟩
  have K1 : Chg (fun x => x = b + 13) w w1 := by rw [e1]; exact Chg.setCell (S := fun x => x = b + 13) (Chg.refl _ w) (.inl rfl) 1 _
  have S1 : At w1 (b + 13) (spaceCells (b + 12) 1 gv fv) 35 := by rw [e1]; exact H.out.S.set 1 (.int .i32 1)
  have F1 : Free w1 c fv es := H.out.free.chg K1 fun g hg e => by have := HF.out g hg; omega
  have H11 := hid (free11_miss H.out.two hm S1 F1)
  have HK1 := hid K1
  have HS1 := hid S1
  clear e1 c1 z1 K1 S1 F1
  go_wp2_with fail
  refine H11.out.mono ?_
  rintro e w2 ⟨rfl, C2⟩
  have S2 := HS1.out.chg C2 (fun h => h)
  have c1 := S2.cell (k := 1) rfl
  have z1 := S2.frozen 1
  have HS2 := hid S2
  have HC2 := hid (HK1.out.trans (C2.mono fun _ _ h => h.elim))
  clear S2 C2 H11 HS1 HK1
  go_wp2_with fail
  refine (unlock_held Ybaf.muLib ⟨b + 13, 1, none⟩ _ c1 z1).mono ?_
  rintro e w3 ⟨rfl, e3⟩
  have a3 : Chg (fun x => x = b + 13) w w3 := by rw [e3]; exact HC2.out.setCell (.inl rfl) 1 _
  have s3 : At w3 (b + 13) (spaceCells (b + 12) 0 gv fv) 35 := by rw [e3]; exact HS2.out.set 1 (.int .i32 0)
  have X3 : Hid (Space b c gs n0 n1 k0 k1 aF gv fv gl es w3) := hid {
    sp := H.out.sp.chg a3 fun g hg e => by omega
    S := s3
    groups := owns_chg H.out.groups a3 fun g hg e => by have := HG.out g hg; omega
    free := H.out.free.chg a3 fun g hg e => by have := HF.out g hg; omega
    apart := H.out.apart
    two := H.out.two
    hc := hc
    sz := Nat.le_trans H.out.sz a3.size }
  have HA3 := hid a3
  have c0 := s3.cell (k := 0) rfl
  clear e3 c1 z1 a3 s3 HC2 HS2
  go_wp2_with fail
  refine (H13.out w3 X3.out (hI w w3 hI0 HA3.out)).mono ?_
  rintro e w4 ⟨x, rfl, X4, R4⟩
  have HX4 := hid X4
  have HR4 := hid R4
  clear X4 R4 X3 H13 c0
  go_wp2
  go_ret2
  refine ⟨x, rfl, HX4.out.chg ((Chg.refl (fun _ => False) w4).alloc _) (fun _ h => h), w3, w4, HA3.out, HR4.out, (Chg.refl _ w4).alloc _⟩


/-- '(*Space).record' of the other partition, full: the ctx's error, wrapped. -/
theorem record6_B_full {F : Interp} {b c gs n0 n1 k0 n : Nat} {aF : Addr} {gv fv : Value} {gl : List (Nat × Nat)} {es : List Ent} {w : World} (hF : F.answers w.tape) (hn : n ≤ 100000) (hm : Miss es { data := #[66] }) (hc17 : b + 17 ≤ c)
    (h : Space b c gs n0 n1 k0 n1 aF gv fv gl es w) (hx : Ctx b n w) :
    Calls Ybaf.prog 6 #[.pointer (some ⟨b + 13, 0, none⟩), .iface 49 (.pointer (some ⟨b + 16, 0, none⟩)), .string { data := #[66] }] w fun e w' => ∃ E, e = .returned (.tuple #[.int .u64 0, .iface 110 (.pointer (some ⟨E, 0, none⟩))]) ∧
      w'.cell? ⟨E, 0 + 1, none⟩ = some (.iface 93 (.pointer (some ⟨b + 14, 0, none⟩))) ∧ Space b c gs n0 n1 k0 n1 aF gv fv gl es w' ∧ Ctx b (n + 1) w' ∧ Chg (fun x => b ≤ x) w w' := by
  refine (record6_wait (t := 110) (I := fun w => Ctx b n w ∧ F.answers w.tape) (R := fun x w w' => ∃ E, x = .pointer (some ⟨E, 0, none⟩) ∧ w'.cell? ⟨E, 0 + 1, none⟩ = some (.iface 93 (.pointer (some ⟨b + 14, 0, none⟩))) ∧ Ctx b (n + 1) w' ∧ Chg (fun x => InS b x ∨ x = b + 16) w w') hm h ⟨hx, hF⟩ ?_ ?_).mono ?_
  · rintro w w' ⟨h1, h2⟩ hc
    exact ⟨h1.chg hc (by omega) (by omega) (by omega), by rw [hc.tape]; exact h2⟩
  · rintro w hs ⟨h1, h2⟩
    refine (group13_wait h2 hn hs.sp h1).mono ?_
    rintro e w' ⟨E, rfl, h3, h4, h5, h6⟩
    have hcc := hs.hc
    refine ⟨_, rfl, ⟨h4, hs.S.chg h6 ?_, owns_chg hs.groups h6 ?_, hs.free.chg h6 ?_, hs.apart, hs.two, hs.hc, Nat.le_trans hs.sz h6.size⟩, E, rfl, h3, h5, h6⟩
    · rintro (⟨_, h⟩ | h) <;> omega
    · rintro g hg (⟨_, h⟩ | h) <;> (have := (owns_lt hs.groups hg).1; omega)
    · rintro g hg (⟨_, h⟩ | h) <;> (have := (hs.free.lt hg).1; omega)
  · rintro e w' ⟨x, rfl, h1, w1, w2, c1, ⟨E, rfl, h3, h5, h6⟩, c3⟩
    refine ⟨E, rfl, cell_chg h3 c3 (fun h => h), h1, h5.chg c3 (fun h => h) (fun h => h) (fun h => h), ?_⟩
    exact ((c1.mono fun x _ hx => by omega).trans (h6.mono fun x _ hx => by rcases hx with ⟨h, _⟩ | h <;> omega)).trans (c3.mono fun x _ hx => hx.elim)
end Go.Proofs.YbulkqwgFmt.sp
