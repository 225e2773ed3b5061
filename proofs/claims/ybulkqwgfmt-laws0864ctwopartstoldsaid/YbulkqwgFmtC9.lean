import Derived.Test.YbulkqwgFmtC8
namespace Go.Proofs.YbulkqwgFmt.sp
open Go.RowKit
set_option linter.unusedVariables false
set_option maxRecDepth 100000

def spaceCells (S : Nat) (mu : Int) (gv fv : Value) : List Value := [.pointer (some ⟨S, 0, none⟩), .int .i32 mu, .int .u32 0, gv, fv, .bool false]
abbrev Ent := ByteArray × Nat × Nat
/-- The row of the free records. -/
def Free (w : World) (base : Nat) (fv : Value) (es : List Ent) : Prop := w.ownsRow base 87 3 fv es.length (ents es)
theorem ents_len (es : List Ent) : (ents es).length = es.length * 3 := by
  unfold ents; induction es with
  | nil => rfl
  | cons e l ih => simp [List.flatMap_cons, ih]; omega
theorem Free.form {w : World} {base : Nat} {fv : Value} {es : List Ent} (h : Free w base fv es) :
    (fv = .slice none 0 0 ∧ es = []) ∨ ∃ g cap rest, fv = .slice (some ⟨g, 0, none⟩) es.length cap ∧ base ≤ g ∧ At w g (ents es ++ rest) 87 ∧ es.length ≤ cap ∧ cap ≤ maxLen ∧ (ents es ++ rest).length = cap * 3 := by
  rcases h.2 with ⟨h1, h2⟩ | ⟨g, cap, cur, h1, h2, h3, h4, h5, h6, h7⟩
  · exact .inl ⟨h1, List.eq_nil_of_length_eq_zero h2⟩
  · refine .inr ⟨g, cap, cur.toList.drop (es.length * 3), h1, h2, ?_, h4, h5, ?_⟩
    · unfold At; rw [h3, ← h7, List.take_append_drop]
    · rw [← h7, List.take_append_drop, Array.length_toList]; exact h6
theorem Free.mk {w : World} {base g cap : Nat} {es : List Ent} {rest : List Value} (hb : base ≤ g) (h : At w g (ents es ++ rest) 87) (h1 : es.length ≤ cap) (h2 : cap ≤ maxLen) (h3 : (ents es ++ rest).length = cap * 3) :
    Free w base (.slice (some ⟨g, 0, none⟩) es.length cap) es := by
  refine ⟨ents_len es, .inr ⟨g, cap, (ents es ++ rest).toArray, rfl, hb, h, h1, h2, by simpa using h3, ?_⟩⟩
  rw [← ents_len]; simp
theorem Free.chg {S : Nat → Prop} {w w' : World} {base : Nat} {fv : Value} {es : List Ent} (h : Free w base fv es) (hc : Chg S w w') (hS : ∀ g, fv.ownBlock = some g → ¬ S g) : Free w' base fv es := by
  rcases h.form with ⟨rfl, rfl⟩ | ⟨g, cap, rest, rfl, hb, ha, h1, h2, h3⟩
  · exact ⟨rfl, .inl ⟨rfl, rfl⟩⟩
  · exact Free.mk hb (ha.chg hc (hS g rfl)) h1 h2 h3
theorem Free.lt {w : World} {base g : Nat} {fv : Value} {es : List Ent} (h : Free w base fv es) (hg : fv.ownBlock = some g) : base ≤ g ∧ g < w.heap.size := by
  rcases h.form with ⟨rfl, rfl⟩ | ⟨g', cap, rest, rfl, hb, ha, h1, h2, h3⟩
  · simp [Value.ownBlock] at hg
  · simp [Value.ownBlock] at hg; subst hg; exact ⟨hb, ha.lt⟩

/-- The index of the entry of a name. -/
def Hit (es : List Ent) (q : ByteArray) (r : Nat) : Prop := r < es.length ∧ ((es.getD r default).1.toList == q.toList) = true ∧ ∀ j, j < r → ((es.getD j default).1.toList == q.toList) = false
def Miss (es : List Ent) (q : ByteArray) : Prop := ∀ j, j < es.length → ((es.getD j default).1.toList == q.toList) = false

set_option maxHeartbeats 4000000 in
/-- '(*Space).freeRecord': no record is left. -/
theorem free11_miss {SP S base : Nat} {mu : Int} {q : ByteArray} {gv fv : Value} {es : List Ent} {w : World} (hn : es.length ≤ 2) (hm : Miss es q) (hS : At w SP (spaceCells S mu gv fv) 35) (hf : Free w base fv es) :
    Calls Ybaf.prog 11 #[.pointer (some ⟨SP, 0, none⟩), .string q] w fun e w' => e = .returned (.tuple #[.int .u64 0, .nilIface]) ∧ Chg (fun _ => False) w w' := by
  have c5 := (hS.alloc (.cells #[.string q] 9)).cell (k := 5) rfl
  have c4 := (hS.alloc (.cells #[.string q] 9)).cell (k := 4) rfl
  have aq := (at_new w [.string q] 9).cell (k := 0) rfl
  have H20 : Hid (Calls Ybaf.prog 20 #[fv, .func (.func 21) #[] #[.pointer (some ⟨w.heap.size, 0, none⟩)]] (w.alloc (.cells #[.string q] 9)) fun e w' => e = .returned (.int .i64 (-1)) ∧ Chg (fun _ => False) (w.alloc (.cells #[.string q] 9)) w') := by
    rcases hf.form with ⟨rfl, rfl⟩ | ⟨g, cap, rest, rfl, hb, ha, h1, h2, h3⟩
    · exact idx20_nil.mono fun e w' ⟨h1, h2⟩ => ⟨h1, h2 ▸ Chg.refl _ _⟩
    · exact idx20_miss hn aq (ha.alloc _) hm
  clear hS hf
  go_enter Ybaf.func11, Ybaf.ntmps11
  go_wp2_with fail
  refine H20.out.mono ?_
  rintro e w' ⟨rfl, hc⟩
  have HC := hid (((Chg.refl (fun _ => False) w).alloc _).trans hc)
  clear hc
  go_wp2
  go_ret2
  exact ⟨rfl, HC.out⟩

theorem ents_set {es : List Ent} {rest : List Value} {r nx l : Nat} {nm : ByteArray} {nx' l' : Nat} (hn : es.length ≤ 2) (hr : r < es.length) (he : es.getD r default = (nm, nx, l)) :
    ((ents es ++ rest).set (r * 3 + 1) (.int .u64 (nx' : Int))).set (r * 3 + 2) (.int .i64 (l' : Int)) = ents (es.set r (nm, nx', l')) ++ rest := by
  match es, hn, r, hr, he with
  | [e0], _, 0, _, he => cases he; rfl
  | [e0, e1], _, 0, _, he => cases he; rfl
  | [e0, e1], _, 1, _, he => cases he; rfl

set_option maxHeartbeats 4000000 in
/-- '(*Space).freeRecord': a record is left, and more behind it. -/
theorem free11_more {SP S base r nx l : Nat} {mu : Int} {q nm : ByteArray} {gv fv : Value} {es : List Ent} {w : World} (hn : es.length ≤ 2) (hh : Hit es q r) (he : es.getD r default = (nm, nx, l)) (hl : 2 ≤ l) (hl2 : l ≤ 9) (hx : nx ≤ 1099511627776)
    (hS : At w SP (spaceCells S mu gv fv) 35) (hf : Free w base fv es) (hne : fv.ownBlock ≠ some SP) :
    Calls Ybaf.prog 11 #[.pointer (some ⟨SP, 0, none⟩), .string q] w fun e w' => e = .returned (.tuple #[.int .u64 (nx : Int), .nilIface]) ∧
      At w' SP (spaceCells S mu gv fv) 35 ∧ Free w' base fv (es.set r (nm, nx + 1, l - 1)) ∧ Chg (fun x => fv.ownBlock = some x) w w' := by
  obtain ⟨hr, hh1, hh2⟩ := hh
  rcases hf.form with ⟨rfl, rfl⟩ | ⟨g, cap, rest, rfl, hb, ha, h1, h2, h3⟩
  · simp at hr
  have hgS : g ≠ SP := fun e => hne (by rw [e]; rfl)
  have c5 := (hS.alloc (.cells #[.string q] 9)).cell (k := 5) rfl
  have c4 := (hS.alloc (.cells #[.string q] 9)).cell (k := 4) rfl
  have aq := (at_new w [.string q] 9).cell (k := 0) rfl
  have H20 := hid (idx20 (cap := cap) hn aq (ha.alloc _) hr hh1 hh2)
  have HS := hid hS
  have HA := hid ha
  clear hS hf ha hh1 hh2
  go_enter Ybaf.func11, Ybaf.ntmps11
  go_wp2_with fail
  refine H20.out.mono ?_
  rintro e w1 ⟨rfl, hc⟩
  have HC := hid (((Chg.refl (fun _ => False) w).alloc _).trans hc)
  have HS1 := hid (HS.out.chg HC.out (fun h => h))
  have HA1 := hid (HA.out.chg HC.out (fun h => h))
  have d4 := HS1.out.cell (k := 4) rfl
  obtain ⟨d0, d1, d2⟩ := ents_cells hn HA1.out r hr
  rw [he] at d0 d1 d2
  have z1 := HA1.out.frozen (r * 3 + 1)
  have z2 := HA1.out.frozen (r * 3 + 2)
  have r0 : (0 : Int) ≤ (r : Int) := by omega
  have r1 : (r : Int) < (es.length : Int) := by omega
  clear hc HS HA H20 c5 c4 aq
  go_wp2
  go_ret2
  refine ⟨rfl, ?_, ?_, ?_⟩
  · exact (HS1.out.set_ne (Ne.symm hgS) _ _).set_ne (Ne.symm hgS) _ _
  · have h4 := ((HA1.out.set (r * 3 + 1) (.int .u64 ((nx + 1 : Nat) : Int))).set (r * 3 + 2) (.int .i64 ((l - 1 : Nat) : Int)))
    rw [ents_set hn hr he] at h4
    have h5 := Free.mk (cap := cap) hb h4 (by simpa using h1) h2 (by rw [← h3]; simp [ents_len])
    rw [List.length_set] at h5
    have e1 : ((nx : Int) + 1) = ((nx + 1 : Nat) : Int) := by omega
    have e2 : ((l : Int) - 1) = ((l - 1 : Nat) : Int) := by omega
    rw [e1, e2]
    exact h5
  · exact Chg.setCell (Chg.setCell (HC.out.mono (S' := fun x => (Value.slice (some ⟨g, 0, none⟩) es.length cap).ownBlock = some x) (fun _ _ h => h.elim)) (.inl rfl) _ _) (.inl rfl) _ _

theorem del22 {g cap r : Nat} {es : List Ent} {rest : List Value} {w : World} (hn : es.length ≤ 2) (hr : r < es.length) (h1 : es.length ≤ cap) (h2 : cap ≤ maxLen) (h : At w g (ents es ++ rest) 87) :
    Calls Ybaf.prog 22 #[.slice (some ⟨g, 0, none⟩) es.length cap, .int .i64 (r : Int), .int .i64 ((r : Int) + 1)] w fun e w' => e = .returned (.slice (some ⟨g, 0, none⟩) (es.eraseIdx r).length cap) ∧
      (∃ rest', At w' g (ents (es.eraseIdx r) ++ rest') 87 ∧ (ents (es.eraseIdx r) ++ rest').length = (ents es ++ rest).length) ∧ Chg (fun x => x = g) w w' := by
  match es, hn, r, hr, h, h1 with
  | [e0], _, 0, _, h, h1 =>
    refine (del22_10 h1 h2 h).mono ?_
    rintro e w' ⟨rfl, h3, h4⟩
    exact ⟨rfl, ⟨_, h3, rfl⟩, h4⟩
  | [e0, e1], _, 0, _, h, h1 =>
    refine (del22_20 h1 h2 h rfl rfl rfl).mono ?_
    rintro e w' ⟨rfl, h3, h4⟩
    exact ⟨rfl, ⟨_, h3, rfl⟩, h4⟩
  | [e0, e1], _, 1, _, h, h1 =>
    refine (del22_21 h1 h2 h).mono ?_
    rintro e w' ⟨rfl, h3, h4⟩
    exact ⟨rfl, ⟨_, h3, rfl⟩, h4⟩

set_option maxHeartbeats 4000000 in
/-- '(*Space).freeRecord': the last record that is left. -/
theorem free11_last {SP S base r nx : Nat} {mu : Int} {q nm : ByteArray} {gv fv : Value} {es : List Ent} {w : World} (hn : es.length ≤ 2) (hh : Hit es q r) (he : es.getD r default = (nm, nx, 1)) (hx : nx ≤ 1099511627776)
    (hS : At w SP (spaceCells S mu gv fv) 35) (hf : Free w base fv es) (hne : fv.ownBlock ≠ some SP) :
    Calls Ybaf.prog 11 #[.pointer (some ⟨SP, 0, none⟩), .string q] w fun e w' => e = .returned (.tuple #[.int .u64 (nx : Int), .nilIface]) ∧
      ∃ fv', At w' SP (spaceCells S mu gv fv') 35 ∧ Free w' base fv' (es.eraseIdx r) ∧ fv'.ownBlock = fv.ownBlock ∧ Chg (fun x => fv.ownBlock = some x ∨ x = SP) w w' := by
  obtain ⟨hr, hh1, hh2⟩ := hh
  rcases hf.form with ⟨rfl, rfl⟩ | ⟨g, cap, rest, rfl, hb, ha, h1, h2, h3⟩
  · simp at hr
  have hgS : g ≠ SP := fun e => hne (by rw [e]; rfl)
  have c5 := (hS.alloc (.cells #[.string q] 9)).cell (k := 5) rfl
  have c4 := (hS.alloc (.cells #[.string q] 9)).cell (k := 4) rfl
  have aq := (at_new w [.string q] 9).cell (k := 0) rfl
  have H20 := hid (idx20 (cap := cap) hn aq (ha.alloc _) hr hh1 hh2)
  have HS := hid hS
  have HA := hid ha
  clear hS hf ha hh1 hh2
  go_enter Ybaf.func11, Ybaf.ntmps11
  go_wp2_with fail
  refine H20.out.mono ?_
  rintro e w1 ⟨rfl, hc⟩
  have HC := hid (((Chg.refl (fun _ => False) w).alloc _).trans hc)
  have HS1 := hid (HS.out.chg HC.out (fun h => h))
  have HA1 := hid (HA.out.chg HC.out (fun h => h))
  have d4 := HS1.out.cell (k := 4) rfl
  obtain ⟨d0, d1, d2⟩ := ents_cells hn HA1.out r hr
  rw [he] at d0 d1 d2
  have z1 := HA1.out.frozen (r * 3 + 1)
  have z2 := HA1.out.frozen (r * 3 + 2)
  have r0 : (0 : Int) ≤ (r : Int) := by omega
  have r1 : (r : Int) < (es.length : Int) := by omega
  have H2 := HA1.out.set (r * 3 + 1) (.int .u64 ((nx + 1 : Nat) : Int)) |>.set (r * 3 + 2) (.int .i64 ((0 : Nat) : Int))
  rw [ents_set hn hr he] at H2
  have HD := hid (del22 (cap := cap) (es := es.set r (nm, nx + 1, 0)) (by simpa using hn) (by simpa using hr) (by simpa using h1) h2 H2)
  rw [List.length_set] at HD
  clear hc HS HA H20 c5 c4 aq H2
  have e1 : ((nx + 1 : Nat) : Int) = (nx : Int) + 1 := by omega
  have e2 : ((0 : Nat) : Int) = 0 := rfl
  rw [e1, e2] at HD
  clear e1 e2
  have e3 : (es.set r (nm, nx + 1, 0)).eraseIdx r = es.eraseIdx r := List.eraseIdx_set_eq
  rw [e3] at HD
  have e4 : (ents (es.set r (nm, nx + 1, 0)) ++ rest).length = cap * 3 := by rw [← h3]; simp [ents_len]
  rw [e4] at HD
  have e5 : (es.eraseIdx r).length ≤ cap := by rw [List.length_eraseIdx]; split <;> omega
  clear e3 e4
  obtain ⟨es', hes⟩ : ∃ x, x = es.eraseIdx r := ⟨_, rfl⟩
  rw [← hes] at HD e5
  have HE := hid hes
  clear hes
  go_wp2_with fail
  refine HD.out.mono ?_
  rintro e w3 ⟨rfl, ⟨rest', hA3, hl3⟩, hc3⟩
  have HS3 := hid (((HS1.out.set_ne (Ne.symm hgS) (r * 3 + 1) (.int .u64 ((nx : Int) + 1))).set_ne (Ne.symm hgS) (r * 3 + 2) (.int .i64 0)).chg hc3 (Ne.symm hgS))
  have C3 := hid ((Chg.setCell (Chg.setCell (HC.out.mono (S' := fun x => x = g) (fun _ _ h => h.elim)) (.inl rfl) (r * 3 + 1) (.int .u64 ((nx : Int) + 1))) (.inl rfl) (r * 3 + 2) (.int .i64 0)).trans hc3)
  have HA3 := hid hA3
  have s4 := HS3.out.cell (k := 4) rfl
  have sz := HS3.out.frozen 4
  clear hA3 hc3 HD HS1 HA1 HC
  go_wp2
  go_ret2
  refine ⟨rfl, _, (HS3.out.set 4 (.slice (some ⟨g, 0, none⟩) es'.length cap)), ?_, rfl, ?_⟩
  · rw [← HE.out]; exact Free.mk hb (HA3.out.set_ne hgS _ _) e5 h2 hl3
  · exact Chg.setCell (C3.out.mono (S' := fun x => (Value.slice (some ⟨g, 0, none⟩) es.length cap).ownBlock = some x ∨ x = SP) (fun x _ hx => .inl (by rw [hx]; rfl))) (.inl (.inr rfl)) _ _
end Go.Proofs.YbulkqwgFmt.sp
