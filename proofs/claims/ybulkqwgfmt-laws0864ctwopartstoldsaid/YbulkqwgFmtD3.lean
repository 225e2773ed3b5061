import Derived.Test.YbulkqwgFmtD1
import Derived.Test.YbulkqwgFmtD2
namespace Go.Proofs.YbulkqwgFmt.sp
open Go.RowKit Go.MuLone Go.Conc Go.Extern.Stop Go.Stop Go.Extern
set_option linter.unusedVariables false
set_option maxRecDepth 1000000

theorem methodDone (v : Value) (w : World) : (Go.method 314 49 v "Done").run Ybaf.prog w = .ok (65, v) w := by kernel_rfl
theorem methodErr (v : Value) (w : World) : (Go.method 314 49 v "Err").run Ybaf.prog w = .ok (66, v) w := by kernel_rfl

theorem res0 (a b : Nat) (z z' v : Value) (ok : Bool) : commResult #[rcase a z, rcase b z'] .select 0 v ok = .tuple #[goInt 0, .bool ok, v, z'] := by
  simp [commResult, rcase, List.zipIdx_cons]
set_option maxHeartbeats 20000000 in
/-- '(*Spool).takeGroup' of the other partition, no group free: it waits, and the ctx has ended. -/
theorem group13_wait {F : Interp} {b gs n0 n1 k0 n : Nat} {aF : Addr} {w : World} (hF : F.answers w.tape) (hn : n ≤ 100000) (h : Spool b gs n0 n1 k0 n1 0 aF w) (hx : Ctx b n w) :
    Calls Ybaf.prog 13 #[.pointer (some ⟨b + 12, 0, none⟩), .iface 49 (.pointer (some ⟨b + 16, 0, none⟩)), .string { data := #[66] }] w fun e w' => ∃ E, e = .returned (.tuple #[.agg #[.int .i64 0, .int .i64 0], .iface 110 (.pointer (some ⟨E, 0, none⟩))]) ∧
      w'.cell? ⟨E, 0 + 1, none⟩ = some (.iface 93 (.pointer (some ⟨b + 14, 0, none⟩))) ∧ Spool b gs n0 n1 k0 n1 0 aF w' ∧ Ctx b (n + 1) w' ∧ Chg (fun x => InS b x ∨ x = b + 16) w w' := by
  have lS := h.S.lt
  have lC := hx.cx.lt
  have H0 := hid (h.chg ((Chg.refl (fun _ => False) w).alloc (.cells #[.int .i64 0, .int .i64 0] 79)) (fun _ _ h => h))
  have X0 := hid (hx.chg ((Chg.refl (fun _ => False) w).alloc (.cells #[.int .i64 0, .int .i64 0] 79)) (fun h => h) (fun h => h) (fun h => h))
  have C0 := hid ((Chg.refl (fun x => InS b x ∨ x = b + 16) w).alloc (.cells #[.int .i64 0, .int .i64 0] 79))
  have R0 := hid (at_new w [Value.int .i64 0, .int .i64 0] 79)
  have HF := hid hF
  have hmD := methodDone
  have hmE := methodErr
  clear h hx hF
  refine calls_of_wpn Ybaf.func13 rfl ?_
  simp only [Ybaf.ntmps13, List.size_toArray, List.length_cons, List.length_nil, Nat.reduceAdd, Nat.reduceSub, Array.replicate_succ, Array.replicate_zero, List.push_toArray, List.append_toArray, List.nil_append, List.cons_append]
  refine wpn_seq (wpn_of_wp ?_)
  go_wp2
  refine wpn_block (wpn_loop1 (wpn_block ?_))
  have s6 := H0.out.S.cell (k := 6) rfl
  have z6 := H0.out.S.frozen 6
  refine wpn_seq (wpn_of_wp ?_)
  go_wp2_with fail
  refine (lock_free Ybaf.muLib ⟨b + 12, 6, none⟩ _ s6 z6).mono ?_
  rintro e w1 ⟨rfl, e1⟩
  have K1 : Chg (fun x => x = b + 12) (w.alloc (.cells #[.int .i64 0, .int .i64 0] 79)) w1 := by rw [e1]; exact Chg.setCell (S := fun x => x = b + 12) (Chg.refl _ _) (.inl rfl) 6 _
  have H1 : Hid (Spool b gs n0 n1 k0 n1 1 aF w1) := by rw [e1]; exact H0.out.locked 1
  have X1 := hid (X0.out.chg K1 (by omega) (by omega) (by omega))
  have C1 := hid (C0.out.trans (K1.mono (S' := fun x => InS b x ∨ x = b + 16) fun x _ hx => .inl ⟨by omega, by omega⟩))
  have R1 := hid (R0.out.chg K1 (by omega))
  clear e1 H0 C0 R0 X0 K1 s6 z6
  go_wp2
  refine wpn_seq (wpn_of_wp ?_)
  go_wp2_with fail
  refine (part25_B H1.out.names (H1.out.S.cell (k := 4) rfl)).mono ?_
  rintro e w' ⟨rfl, rfl⟩
  go_wp2_with fail
  refine (take24_wait H1.out.n1 (by omega : b + 1 ≠ b) H1.out.B H1.out.A H1.out.tab H1.out.f1 (H1.out.S.cell (k := 3) rfl) (H1.out.S.cell (k := 5) rfl) (H1.out.B.cell (k := 4) rfl) (H1.out.B.cell (k := 5) rfl) (H1.out.FB.cell (k := 0) rfl)).mono ?_
  rintro e w2 ⟨rfl, hc⟩
  have H2 := hid (H1.out.chg hc (fun _ _ h => h))
  have X2 := hid (X1.out.chg hc (fun h => h) (fun h => h) (fun h => h))
  have C2 := hid (C1.out.trans (hc.mono (S' := fun x => InS b x ∨ x = b + 16) (fun g _ hg => hg.elim)))
  have R2 := hid (R1.out.chg hc (fun h => h))
  have l2 := H2.out.S.lt
  have l3 := R2.out.lt
  clear H1 C1 R1 X1 hc
  have s8 := H2.out.S.cell (k := 8) rfl
  have s8' := cell_alloc (.cells #[.int .i64 0, .int .i64 0] 79) s8
  go_wp2
  refine wpn_seq (wpn_of_wp ?_)
  go_wp2
  refine wpn_seq (wpn_of_wp ?_)
  go_wp2_with fail
  have K3 : Chg (fun _ => False) w2 (w2.alloc (.cells #[.int .i64 0, .int .i64 0] 79)) := (Chg.refl _ w2).alloc _
  have H3 := hid (H2.out.chg K3 (fun _ _ h => h))
  refine (unlock_held Ybaf.muLib ⟨b + 12, 6, none⟩ _ (H3.out.S.cell (k := 6) rfl) (H3.out.S.frozen 6)).mono ?_
  rintro e w4 ⟨rfl, e4⟩
  have K4 : Chg (fun x => x = b + 12) w2 w4 := by rw [e4]; exact Chg.setCell (S := fun x => x = b + 12) (K3.mono fun _ _ h => h.elim) (.inl rfl) 6 _
  have H4 : Hid (Spool b gs n0 n1 k0 n1 0 aF w4) := by rw [e4]; exact H3.out.locked 0
  have X4 := hid (X2.out.chg K4 (by omega) (by omega) (by omega))
  have C4 := hid (C2.out.trans (K4.mono (S' := fun x => InS b x ∨ x = b + 16) fun x _ hx => .inl ⟨by omega, by omega⟩))
  have R4 := hid (R2.out.chg K4 (by omega))
  clear e4 H2 C2 R2 H3 s8 s8' K3 K4 X2
  go_wp2
  refine wpn_seq (wpn_of_wp ?_)
  go_wp2
  refine wpn_seq (wpn_of_wp ?_)
  go_wp2_with fail
  refine (done65 hn X4.out).mono ?_
  rintro e w5 ⟨rfl, x5, k5⟩
  have H5 := hid (H4.out.chg k5 (fun g hg e => by omega))
  have X5 := hid x5
  have C5 := hid (C4.out.trans (k5.mono (S' := fun x => InS b x ∨ x = b + 16) fun x _ hx => .inr hx))
  have R5 := hid (R4.out.chg k5 (by omega))
  clear H4 X4 C4 R4 x5 k5
  go_wp2
  refine wpn_seq ?_
  refine wpn_region_sel' (cases' := #[rcase (b + 15) (.agg #[]), rcase (b + 11) (.agg #[])]) (c := b + 15) (z := .agg #[]) (cap := 0) (s := 0) (r := 0) (tm := false) rfl (by simp [go_sem, execOp, rcase, Act.eval]) rfl (fun m c' hm hc' => ?_) X5.out.ch ?_
  · rcases m with _ | _ | m
    · exact absurd rfl hm
    · simp only [List.getElem?_toArray, List.getElem?_cons_succ, List.getElem?_cons_zero, Option.some.injEq] at hc'
      subst hc'
      exact noWay_recv H5.out.chan
    · simp at hc'
  · rw [res0]
    go_wp2
    refine wpn_of_wp ?_
    have k6 : Chg (fun _ => False) w5 (w5.alloc (.cells #[.iface 9 (.string { data := #[66] }), .iface 93 (.pointer (some ⟨b + 14, 0, none⟩))] 20)).drew := ((Chg.refl _ w5).alloc _).drew
    have Q25 := hid (part25_B (H5.out.chg (Chg.refl (fun _ => False) w5).drew (fun _ _ h => h)).names (H5.out.S.drew.cell (k := 4) rfl))
    have Q66 := hid (err66 (X5.out.chg (Chg.refl (fun _ => False) w5).drew (fun h => h) (fun h => h) (fun h => h)))
    have X6 := X5.out.chg k6 (fun h => h) (fun h => h) (fun h => h)
    have Q16 := hid (errorf16 (F := F) (X := w5.heap.size) (a := ⟨b + 14, 0, none⟩) (w := (w5.alloc (.cells #[.iface 9 (.string { data := #[66] }), .iface 93 (.pointer (some ⟨b + 14, 0, none⟩))] 20)).drew) (by rw [k6.tape, C5.out.tape]; exact HF.out) (at_new w5 _ 20).drew (X6.er.cell (k := 0) rfl))
    have p0 := H5.out.B.cell (k := 0) rfl
    have HK6 := hid k6
    have r0 := R5.out.cell (k := 0) rfl
    have r1 := R5.out.cell (k := 1) rfl
    clear k6 X6
    go_wp2_with fail
    refine wp_region_noPanic ?_
    go_region_with (first
      | (go_at_call 25; refine Q25.out.mono ?_; rintro e w' ⟨rfl, rfl⟩)
      | (go_at_call 66; refine Q66.out.mono ?_; rintro e w' ⟨rfl, rfl⟩)
      | (go_at_call 16; refine Q16.out.mono ?_; rintro e w7 ⟨E, hEE, rfl, hE, cE⟩; have R7 := (R5.out.chg HK6.out (fun h => h)).chg cE (fun h => h); have y0 := R7.cell (k := 0) rfl; have y1 := R7.cell (k := 1) rfl; have v0 := R7.frozen 0; have v1 := R7.frozen 1))
    all_goals
      refine NoPanic.normal ?_
      have HE := hid hE
      have l5 := R5.out.lt
      have HEE : Hid (w5.heap.size + 1 ≤ E) := hid (by simpa using hEE)
      have HCE := hid (HK6.out.trans cE)
      clear hE cE R7 hEE
      go_wp2
      (try simp only [Exit.inBlock, Exit.then])
      refine bodyPost_ret (v := .tuple #[.agg #[.int .i64 0, .int .i64 0], .iface 110 (.pointer (some ⟨E, 0, none⟩))]) ?_ rfl ⟨E, rfl, ?_, ?_, ?_, ?_⟩
      · rw [results_cell_tmp rfl]
        go_simp
      · exact cell_chg HE.out (Chg.setCell (Chg.setCell (Chg.refl (fun g => g = w.heap.size) w7) (.inl rfl) 0 _) (.inl rfl) 1 _) (by have := HEE.out; omega)
      · exact H5.out.chg ((HCE.out.mono (S' := fun x => x = w.heap.size) fun _ _ h => h.elim).trans (Chg.setCell (Chg.setCell (Chg.refl (fun g => g = w.heap.size) w7) (.inl rfl) 0 _) (.inl rfl) 1 _)) (by omega)
      · exact X5.out.chg ((HCE.out.mono (S' := fun x => x = w.heap.size) fun _ _ h => h.elim).trans (Chg.setCell (Chg.setCell (Chg.refl (fun g => g = w.heap.size) w7) (.inl rfl) 0 _) (.inl rfl) 1 _)) (by omega) (by omega) (by omega)
      · exact Chg.setCell (Chg.setCell (C5.out.trans (HCE.out.mono fun _ _ h => h.elim)) (.inr (Nat.le_refl _)) 0 _) (.inr (Nat.le_refl _)) 1 _
end Go.Proofs.YbulkqwgFmt.sp
