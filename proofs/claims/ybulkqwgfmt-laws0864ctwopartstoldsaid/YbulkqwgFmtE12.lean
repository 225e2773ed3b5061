import Derived.Test.YbulkqwgFmtE11
namespace Go.Proofs.YbulkqwgFmt.sp
open Go.RowKit Go.MuLone
set_option linter.unusedVariables false
set_option maxRecDepth 100000

set_option maxHeartbeats 8000000 in
/-- '(*Space).record': no record is left, and no group can be had: takeGroup's error is handed on. -/
theorem record6_err {b c gs n0 n1 k0 k1 : Nat} {aF : Addr} {gv fv cv : Value} {gl : List (Nat × Nat)} {es : List Ent} {q : ByteArray} {t : TypeId} {x : Value} {R : World → World → Prop} {w : World}
    (hm : Miss es q) (h : Space b c gs n0 n1 k0 k1 aF gv fv gl es w)
    (h13 : ∀ w, Space b c gs n0 n1 k0 k1 aF gv fv gl es w → Calls Ybaf.prog 13 #[.pointer (some ⟨b + 12, 0, none⟩), cv, .string q] w fun e w' => e = .returned (.tuple #[.agg #[.int .i64 0, .int .i64 0], .iface t x]) ∧ Space b c gs n0 n1 k0 k1 aF gv fv gl es w' ∧ R w w') :
    Calls Ybaf.prog 6 #[.pointer (some ⟨b + 13, 0, none⟩), cv, .string q] w fun e w' => e = .returned (.tuple #[.int .u64 0, .iface t x]) ∧
      Space b c gs n0 n1 k0 k1 aF gv fv gl es w' ∧ ∃ w1 w2, Chg (fun x => x = b + 13) w w1 ∧ R w1 w2 ∧ Chg (fun _ => False) w2 w' := by
  have hc := h.hc
  have c1 := h.S.cell (k := 1) rfl
  have z1 := h.S.frozen 1
  have ltS := h.S.lt
  have H := hid h
  have H13 := hid h13
  have hF : ∀ g, fv.ownBlock = some g → c ≤ g := fun g hg => (h.free.lt hg).1
  have hG : ∀ g, gv.ownBlock = some g → c ≤ g := fun g hg => (owns_lt h.groups hg).1
  have HF := hid hF
  have HG := hid hG
  clear h hF hG h13
  go_enter Ybaf.func6, Ybaf.ntmps6
  go_wp2_with fail
  refine (lock_free Ybaf.muLib ⟨b + 13, 1, none⟩ _ c1 z1).mono ?_
  rintro e w1 ⟨rfl, e1⟩
  have K1 : Chg (fun x => x = b + 13) w w1 := by rw [e1]; exact Chg.setCell (S := fun x => x = b + 13) (Chg.refl _ w) (.inl rfl) 1 _
  have S1 : At w1 (b + 13) (spaceCells (b + 12) 1 gv fv) 35 := by rw [e1]; exact H.out.S.set 1 (.int .i32 1)
  have F1 : Free w1 c fv es := H.out.free.chg K1 fun g hg e => by have := HF.out g hg; omega
  have H11 := hid (free11_miss H.out.two hm S1 F1)
  have HK1 := hid K1
  have HS1 := hid S1
  clear e1 c1 z1 K1 S1 F1
  go_wp2_with fail
  refine H11.out.mono ?_
  rintro e w2 ⟨rfl, C2⟩
  have S2 := HS1.out.chg C2 (fun h => h)
  have c1 := S2.cell (k := 1) rfl
  have z1 := S2.frozen 1
  have HS2 := hid S2
  have HC2 := hid (HK1.out.trans (C2.mono fun _ _ h => h.elim))
  clear S2 C2 H11 HS1 HK1
  go_wp2_with fail
  refine (unlock_held Ybaf.muLib ⟨b + 13, 1, none⟩ _ c1 z1).mono ?_
  rintro e w3 ⟨rfl, e3⟩
  have a3 : Chg (fun x => x = b + 13) w w3 := by rw [e3]; exact HC2.out.setCell (.inl rfl) 1 _
  have s3 : At w3 (b + 13) (spaceCells (b + 12) 0 gv fv) 35 := by rw [e3]; exact HS2.out.set 1 (.int .i32 0)
  have X3 : Hid (Space b c gs n0 n1 k0 k1 aF gv fv gl es w3) := hid {
    sp := H.out.sp.chg a3 fun g hg e => by omega
    S := s3
    groups := owns_chg H.out.groups a3 fun g hg e => by have := HG.out g hg; omega
    free := H.out.free.chg a3 fun g hg e => by have := HF.out g hg; omega
    apart := H.out.apart
    two := H.out.two
    hc := hc
    sz := Nat.le_trans H.out.sz a3.size }
  have HA3 := hid a3
  have c0 := s3.cell (k := 0) rfl
  clear e3 c1 z1 a3 s3 HC2 HS2
  go_wp2_with fail
  refine (H13.out w3 X3.out).mono ?_
  rintro e w4 ⟨rfl, X4, R4⟩
  have HX4 := hid X4
  have HR4 := hid R4
  clear X4 R4 X3 H13 c0
  go_wp2
  go_ret2
  refine ⟨rfl, HX4.out.chg ((Chg.refl (fun _ => False) w4).alloc _) (fun _ h => h), w3, w4, HA3.out, HR4.out, (Chg.refl _ w4).alloc _⟩

theorem group13_full' {b c gs n0 n1 k1 : Nat} {aF : Addr} {cv gv fv : Value} {gl : List (Nat × Nat)} {es : List Ent} {w : World} (h : Space b c gs n0 n1 n0 k1 aF gv fv gl es w) :
    Calls Ybaf.prog 13 #[.pointer (some ⟨b + 12, 0, none⟩), cv, .string { data := #[] }] w fun e w' => e = .returned (.tuple #[.agg #[.int .i64 0, .int .i64 0], .iface 93 (.pointer (some aF))]) ∧ Space b c gs n0 n1 n0 k1 aF gv fv gl es w' ∧ Chg (InS b) w w' := by
  have hc := h.hc
  refine (group13_full h.sp).mono ?_
  rintro e w' ⟨rfl, h1, h2⟩
  refine ⟨rfl, ⟨h1, h.S.chg h2 ?_, owns_chg h.groups h2 ?_, h.free.chg h2 ?_, h.apart, h.two, h.hc, Nat.le_trans h.sz h2.size⟩, h2⟩
  · rintro ⟨_, h⟩; omega
  · rintro g hg ⟨_, h3⟩; have := (owns_lt h.groups hg).1; omega
  · rintro g hg ⟨_, h3⟩; have := (h.free.lt hg).1; omega
/-- '(*Space).record' of the default partition, full. -/
theorem record6_full {b c gs n0 n1 k1 : Nat} {aF : Addr} {gv fv cv : Value} {gl : List (Nat × Nat)} {es : List Ent} {w : World} (hm : Miss es { data := #[] }) (h : Space b c gs n0 n1 n0 k1 aF gv fv gl es w) :
    Calls Ybaf.prog 6 #[.pointer (some ⟨b + 13, 0, none⟩), cv, .string { data := #[] }] w fun e w' => e = .returned (.tuple #[.int .u64 0, .iface 93 (.pointer (some aF))]) ∧
      Space b c gs n0 n1 n0 k1 aF gv fv gl es w' ∧ Chg (fun x => b ≤ x ∧ (x < b + 14 ∨ c ≤ x)) w w' := by
  refine (record6_err hm h fun w h => group13_full' h).mono ?_
  rintro e w' ⟨rfl, h1, w1, w2, c1, c2, c3⟩
  have hc := h.hc
  exact ⟨rfl, h1, ((c1.mono fun x _ hx => by omega).trans (c2.mono fun x _ hx => ⟨hx.1, .inl (by have := hx.2; omega)⟩)).trans (c3.mono fun x _ hx => hx.elim)⟩
end Go.Proofs.YbulkqwgFmt.sp
