import Derived.Test.YbulkqwgFmtE13
namespace Go.Proofs.YbulkqwgFmt.sp
open Go.RowKit Go.MuLone
set_option linter.unusedVariables false
set_option maxRecDepth 1000000

theorem Space.of3 {b c gs n0 n1 k0 k1 : Nat} {aF : Addr} {gv fv : Value} {gl : List (Nat × Nat)} {es : List Ent} {w w3 : World} (h : Space b c gs n0 n1 k0 k1 aF gv fv gl es w) (a3 : Chg (fun x => x = b + 13) w w3) (s3 : At w3 (b + 13) (spaceCells (b + 12) 0 gv fv) 35) : Space b c gs n0 n1 k0 k1 aF gv fv gl es w3 where
  sp := h.sp.chg a3 fun g hg e => by omega
  S := s3
  groups := owns_chg h.groups a3 fun g hg e => by have := (owns_lt h.groups hg).1; have := h.hc; omega
  free := h.free.chg a3 fun g hg e => by have := (h.free.lt hg).1; have := h.hc; omega
  apart := h.apart
  two := h.two
  hc := h.hc
  sz := Nat.le_trans h.sz a3.size

theorem Mid.done {b c gs n0 n1 k0 k1 : Nat} {aF : Addr} {gv fv : Value} {gl : List (Nat × Nat)} {es : List Ent} {G f k : Nat} {w : World} (h : Mid b c gs n0 n1 k0 k1 aF gv fv gl es G f k w) (h2 : es.length ≤ 2) : Space b c gs n0 n1 k0 k1 aF gv fv gl es (w.setCell ⟨b + 13, 1, none⟩ (.int .i32 0)) := by
  have K : Chg (fun x => x = b + 13) w (w.setCell ⟨b + 13, 1, none⟩ (.int .i32 0)) := Chg.setCell (S := fun x => x = b + 13) (Chg.refl _ w) (.inl rfl) 1 _
  exact {
    sp := h.sp.chg K fun g hg e => by omega
    S := h.S.set 1 (.int .i32 0)
    groups := owns_chg h.groups K fun g hg e => by have := (owns_lt h.groups hg).1; have := h.hcc; omega
    free := h.free.chg K fun g hg e => by have := (h.free.lt hg).1; have := h.hcc; omega
    apart := h.apart
    two := h2
    hc := h.hcc
    sz := Nat.le_trans (Nat.le_of_lt (Nat.lt_of_le_of_lt h.hG h.aG.lt)) K.size }
/-- 'sp.free = append(sp.free, ..)'. -/
theorem Mid.pushF {b c gs n0 n1 k0 k1 : Nat} {aF : Addr} {gv fv : Value} {gl : List (Nat × Nat)} {es : List Ent} {G f k gg cap : Nat} {o : Obj} {en : Ent} {w w1 : World} (h : Mid b c gs n0 n1 k0 k1 aF gv fv gl es G f k w)
    (hown : w1.ownsRow c 87 3 (.slice (some ⟨gg, 0, none⟩) (es.length + 1) cap) (es.length + 1) (ents es ++ [.string en.1, .int .u64 (en.2.1 : Int), .int .i64 (en.2.2 : Int)]))
    (hgrow : (w.alloc o).grownBy w1 fv.ownBlock) (hat : fv.ownBlock = some gg ∨ gg = w.heap.size + 1) :
    Mid b c gs n0 n1 k0 k1 aF gv (.slice (some ⟨gg, 0, none⟩) (es.length + 1) cap) gl (es ++ [en]) G f k (w1.setCell ⟨b + 13, 4, none⟩ (.slice (some ⟨gg, 0, none⟩) (es.length + 1) cap)) ∧ Chg (fun x => b ≤ x ∧ (x < b + 14 ∨ c ≤ x)) w (w1.setCell ⟨b + 13, 4, none⟩ (.slice (some ⟨gg, 0, none⟩) (es.length + 1) cap)) := by
  have hcc := h.hcc
  have hG : ∀ g, fv.ownBlock = some g → c ≤ g := fun g hg => (h.free.lt hg).1
  have hne : fv.ownBlock ≠ some (b + 13) := fun e => by have := hG _ e; omega
  have hGG := h.hG
  have lS := h.S.lt
  have lG := h.aG.lt
  have K8 : Chg (fun x => fv.ownBlock = some x ∨ x = b + 13) w (w1.setCell ⟨b + 13, 4, none⟩ (.slice (some ⟨gg, 0, none⟩) (es.length + 1) cap)) :=
    Chg.setCell (Chg.grown ((Chg.refl (fun x => fv.ownBlock = some x ∨ x = b + 13) w).alloc _) hgrow (fun x hx => .inl (.inl hx))) (.inl (.inr rfl)) 4 _
  have K7 : Chg (fun x => fv.ownBlock = some x) w w1 := Chg.grown ((Chg.refl (fun x => fv.ownBlock = some x) w).alloc _) hgrow (fun x hx => .inl hx)
  have hgg : c ≤ gg := by
    rcases hat with e | e
    · exact hG gg e
    · omega
  refine ⟨?_, K8.mono fun x _ hx => ?_⟩
  · exact {
      sp := h.sp.chg K8 (fun g hg e => by
        rcases e with e | e
        · have := hG g e; omega
        · omega)
      S := (h.S.chg K7 hne).set 4 _
      groups := owns_chg h.groups K8 (fun g hg e => by
        have := (owns_lt h.groups hg).1
        rcases e with e | e
        · exact h.apart g hg e
        · omega)
      free := by
        have e1 : ents es ++ [.string en.1, .int .u64 (en.2.1 : Int), .int .i64 (en.2.2 : Int)] = ents (es ++ [en]) := by simp [ents]
        rw [e1] at hown
        unfold Free
        rw [List.length_append, List.length_singleton]
        exact owns_chg hown (Chg.setCell (S := fun x => x = b + 13) (Chg.refl _ w1) (.inl rfl) 4 _) (fun g hg e => by
          simp only [Value.ownBlock, Option.some.injEq] at hg; omega)
      apart := fun g hg e => by
        simp only [Value.ownBlock, Option.some.injEq] at e
        subst e
        rcases hat with e | e
        · exact h.apart _ hg e
        · have := (owns_lt h.groups hg).2
          omega
      aG := h.aG.chg K8 (fun e => by
        rcases e with e | e
        · exact h.fG e
        · have := h.hG; omega)
      hG := h.hG
      gG := h.gG
      fG := fun e => by
        simp only [Value.ownBlock, Option.some.injEq] at e
        subst e
        rcases hat with e | e
        · exact h.fG e
        · omega
      hcc := hcc }
  · rcases hx with e | e
    · have := hG x e; omega
    · omega

set_option maxHeartbeats 20000000 in
/-- '(*Space).record': no record is left; a group is taken. -/
theorem record6_take {b c gs n0 n1 k0 k1 k0' k1' f k fst n : Nat} {aF : Addr} {gv fv cv : Value} {gl : List (Nat × Nat)} {es es' : List Ent} {q : ByteArray} {w : World} (hes' : es' = if n = 1 then es else es ++ [(q, fst + 1, n - 1)])
    (hm : Miss es q) (hes : es.length ≤ 1) (hgl : gl.length ≤ 100) (hn1 : 1 ≤ n) (hn2 : n ≤ 9) (hf1 : 1 ≤ fst) (hf2 : fst ≤ 1099511627776) (h : Space b c gs n0 n1 k0 k1 aF gv fv gl es w)
    (h13 : ∀ w, Space b c gs n0 n1 k0 k1 aF gv fv gl es w → Calls Ybaf.prog 13 #[.pointer (some ⟨b + 12, 0, none⟩), cv, .string q] w fun e w' => e = .returned (.tuple #[.agg #[.int .i64 (f : Int), .int .i64 (k : Int)], .nilIface]) ∧ Space b c gs n0 n1 k0' k1' aF gv fv gl es w' ∧ Chg (InS b) w w')
    (h15 : ∀ w, w.cell? ⟨b + 12, 1, none⟩ = some (.int .i64 (gs : Int)) → Calls Ybaf.prog 15 #[.pointer (some ⟨b + 12, 0, none⟩), .agg #[.int .i64 (f : Int), .int .i64 (k : Int)]] w fun e w' => e = .returned (.tuple #[.int .u64 (fst : Int), .int .i64 (n : Int)]) ∧ Chg (fun _ => False) w w') :
    Calls Ybaf.prog 6 #[.pointer (some ⟨b + 13, 0, none⟩), cv, .string q] w fun e w' => e = .returned (.tuple #[.int .u64 (fst : Int), .nilIface]) ∧
      (∃ gv' fv', Space b c gs n0 n1 k0' k1' aF gv' fv' (gl ++ [(f, k)]) es' w') ∧ Chg (fun x => b ≤ x ∧ (x < b + 14 ∨ c ≤ x)) w w' := by
  have hcc := h.hc
  have hsz : c ≤ w.heap.size := h.sz
  have c1 := h.S.cell (k := 1) rfl
  have z1 := h.S.frozen 1
  have H := hid h
  have H13 := hid h13
  have H15 := hid h15
  have HF : Hid (∀ g, fv.ownBlock = some g → c ≤ g) := fun g hg => (h.free.lt hg).1
  have HG : Hid (∀ g, gv.ownBlock = some g → c ≤ g) := fun g hg => (owns_lt h.groups hg).1
  have HM := hid hm
  have HE := hid hes'
  clear h h13 h15 hm hes'
  go_enter_defers Ybaf.func6, Ybaf.ntmps6
  go_wp2_with fail
  refine (lock_free Ybaf.muLib ⟨b + 13, 1, none⟩ _ c1 z1).mono ?_
  rintro e w1 ⟨rfl, e1⟩
  have K1 : Chg (fun x => x = b + 13) w w1 := by rw [e1]; exact Chg.setCell (S := fun x => x = b + 13) (Chg.refl _ w) (.inl rfl) 1 _
  have S1 : At w1 (b + 13) (spaceCells (b + 12) 1 gv fv) 35 := by rw [e1]; exact H.out.S.set 1 (.int .i32 1)
  have F1 : Free w1 c fv es := H.out.free.chg K1 fun g hg e => by have := HF.out g hg; omega
  have H11 := hid (free11_miss H.out.two HM.out S1 F1)
  have HK1 := hid K1
  have HS1 := hid S1
  clear e1 c1 z1 K1 S1 F1
  go_wp2_with fail
  refine H11.out.mono ?_
  rintro e w2 ⟨rfl, C2⟩
  have S2 := HS1.out.chg C2 (fun h => h)
  have c1 := S2.cell (k := 1) rfl
  have z1 := S2.frozen 1
  have HS2 := hid S2
  have HC2 := hid (HK1.out.trans (C2.mono fun _ _ h => h.elim))
  clear S2 C2 H11 HS1 HK1
  go_wp2_with fail
  refine (unlock_held Ybaf.muLib ⟨b + 13, 1, none⟩ _ c1 z1).mono ?_
  rintro e w3 ⟨rfl, e3⟩
  have a3 : Chg (fun x => x = b + 13) w w3 := by rw [e3]; exact HC2.out.setCell (.inl rfl) 1 _
  have s3 : At w3 (b + 13) (spaceCells (b + 12) 0 gv fv) 35 := by rw [e3]; exact HS2.out.set 1 (.int .i32 0)
  have X3 := hid (H.out.of3 a3 s3)
  have HA3 := hid (a3.mono (S' := fun x => b ≤ x ∧ (x < b + 14 ∨ c ≤ x)) fun x _ hx => by omega)
  have c0 := s3.cell (k := 0) rfl
  clear e3 c1 z1 a3 s3 HC2 HS2 H
  go_wp2_with fail
  refine (H13.out w3 X3.out).mono ?_
  rintro e w4 ⟨rfl, X4, R4⟩
  -- the group is taken: g's own block
  have HX4 := hid (X4.chg ((Chg.refl (fun _ => False) w4).alloc (.cells #[.int .i64 (f : Int), .int .i64 (k : Int)] 79)) (fun _ h => h))
  have HC4 := hid ((HA3.out.trans (R4.mono fun x _ hx => ⟨hx.1, .inl (by have := hx.2; omega)⟩)).alloc (.cells #[.int .i64 (f : Int), .int .i64 (k : Int)] 79))
  have HG4 := hid (at_new w4 [.int .i64 (f : Int), .int .i64 (k : Int)] 79)
  have l4 := X4.S.lt
  have l4' := X4.sz
  have HGl : Hid (∀ g, gv.ownBlock = some g → g < w4.heap.size) := fun g hg => (owns_lt X4.groups hg).2
  have HFl : Hid (∀ g, fv.ownBlock = some g → g < w4.heap.size) := fun g hg => (X4.free.lt hg).2
  have c0 := HX4.out.S.cell (k := 0) rfl
  have c1 := HX4.out.S.cell (k := 1) rfl
  have z1 := HX4.out.S.frozen 1
  clear X4 R4 X3 H13 HA3
  go_wp2_with fail
  refine (lock_free Ybaf.muLib ⟨b + 13, 1, none⟩ _ c1 z1).mono ?_
  rintro e w5 ⟨rfl, e5⟩
  have K5 : Chg (fun x => x = b + 13) (w4.alloc (.cells #[.int .i64 (f : Int), .int .i64 (k : Int)] 79)) w5 := by rw [e5]; exact Chg.setCell (S := fun x => x = b + 13) (Chg.refl _ _) (.inl rfl) 1 _
  have S5 : At w5 (b + 13) (spaceCells (b + 12) 1 gv fv) 35 := by rw [e5]; exact HX4.out.S.set 1 (.int .i32 1)
  have M5 : Mid b c gs n0 n1 k0' k1' aF gv fv gl es w4.heap.size f k w5 := {
    sp := HX4.out.sp.chg K5 fun g hg e => by omega
    S := S5
    groups := owns_chg HX4.out.groups K5 fun g hg e => by have := HG.out g hg; omega
    free := HX4.out.free.chg K5 fun g hg e => by have := HF.out g hg; omega
    apart := HX4.out.apart
    aG := HG4.out.chg K5 (by omega)
    hG := by omega
    gG := fun e => by have := HGl.out _ e; omega
    fG := fun e => by have := HFl.out _ e; omega
    hcc := hcc }
  have H11 := hid (free11_miss HX4.out.two HM.out M5.S M5.free)
  have HM5 := hid M5
  have HC5 := hid (HC4.out.trans (K5.mono (S' := fun x => b ≤ x ∧ (x < b + 14 ∨ c ≤ x)) fun x _ hx => by omega))
  clear e5 c0 c1 z1 K5 S5 M5 HX4 HC4 HG4
  go_wp2_with fail
  refine H11.out.mono ?_
  rintro e w6 ⟨rfl, C6⟩
  have HM6 := hid (HM5.out.chg C6 (fun _ h => h))
  have HC6 := hid (HC5.out.trans (C6.mono (S' := fun x => b ≤ x ∧ (x < b + 14 ∨ c ≤ x)) fun _ _ h => h.elim))
  clear C6 H11 HM5 HC5
  go_wp2_with fail
  refine r15 hgl HM6.out (hid ?_)
  rintro _ _ _ _ _ _ _ _ _ _ w8 ⟨⟨gv', M8⟩, C8⟩
  have HM8 := hid M8
  have HC8 := hid (HC6.out.trans C8)
  clear M8 C8 HM6 HC6
  go_wp2_with fail
  refine r16 HM8.out H15.out (hid ?_)
  rintro _ _ _ _ _ _ _ _ _ w9 ⟨M9, C9⟩
  have HM9 := hid M9
  have HC9 := hid (HC8.out.trans (C9.mono (S' := fun x => b ≤ x ∧ (x < b + 14 ∨ c ≤ x)) fun _ _ h => h.elim))
  have l9 := M9.S.lt
  have l9' : c ≤ w9.heap.size := Nat.le_of_lt (Nat.lt_of_le_of_lt M9.hG M9.aG.lt)
  clear M9 C9 HM8 HC8 H15
  have hz0 : ((n : Int) == 0) = false := by simp; omega
  by_cases hn : n = 1
  · have hz1 : ¬ ((1 : Int) < (n : Int)) := by omega
    have c1 := HM9.out.S.cell (k := 1) rfl
    have z1 := HM9.out.S.frozen 1
    have HN := hid hn
    clear hn
    go_wp2
    refine leaves_cons (f := 12) (args := #[.pointer (some ⟨b + 13, 1, none⟩)]) (by simp) (by simp [go_sem]) ?_
    refine (unlock_deferred Ybaf.muLib ⟨b + 13, 1, none⟩ .returning _ c1 z1).mono ?_
    rintro e u' w'' ⟨rfl, rfl, rfl⟩
    refine ⟨_, results_tmp2 rfl _ _ _, rfl, ⟨gv', fv, ?_⟩, HC9.out.setCell (.inl (by omega)) 1 _⟩
    rw [HE.out, if_pos HN.out]
    exact HM9.out.done (by omega)
  · have hz1 : (1 : Int) < (n : Int) := by omega
    have HN := hid hn
    clear hn
    have c4 := HM9.out.S.cell (k := 4) rfl
    have c4' := cell_alloc (.cells #[.string q, .int .u64 ((fst : Int) + 1), .int .i64 ((n : Int) - 1)] 87) c4
    have hne9 : fv.ownBlock ≠ some (b + 13) := fun e => by have := HF.out _ e; omega
    obtain ⟨i0, hi0, hy0, hy1, hy2⟩ := info_parts info87
    go_wp2_with (at_builtin; refine wpList_append_lies _ rfl _ _ _ rfl c 87 i0 _ 3 32 Ybaf.underlying33 hi0 hy0 hy1 hy2 rfl (by omega) fv es.length (ents es) rfl (HM9.out.free.alloc _) ⟨w9.heap.size, 0, none⟩ 1 1 [.string q, .int .u64 ((fst : Int) + 1), .int .i64 ((n : Int) - 1)] rfl rfl (World.news_of_block (cs := #[.string q, .int .u64 ((fst : Int) + 1), .int .i64 ((n : Int) - 1)]) (t := 87) (fr := (0, 0)) (heap_alloc_new w9 _)) (by simp [Value.oneCell']) (by omega) (by unfold maxLen; omega) (by omega) (by simp; omega) (w9.heap.size + 1) (by simp) ?_; intro gg cap w10 hown1 hgrow hat hlt; have s1 : w10.cell? ⟨b + 13, 4, none⟩ = some fv := (by rw [hgrow.cell_far ⟨b + 13, 4, none⟩ (by simp; omega) (Ne.symm hne9)]; exact c4'); have s2 : w10.frozen? ⟨b + 13, 4, none⟩ = false := (by rw [hgrow.frozen_far ⟨b + 13, 4, none⟩ (by simp; omega) (Ne.symm hne9)]; exact (HM9.out.S.alloc _).frozen 4))
    have e1 : ((fst : Int) + 1) = ((fst + 1 : Nat) : Int) := by omega
    have e2 : ((n : Int) - 1) = ((n - 1 : Nat) : Int) := by omega
    rw [e1, e2] at hown1
    obtain ⟨M10, C10⟩ := HM9.out.pushF (en := (q, fst + 1, n - 1)) hown1 hgrow hat
    refine leaves_cons (f := 12) (args := #[.pointer (some ⟨b + 13, 1, none⟩)]) (by simp) (by simp [go_sem]) ?_
    refine (unlock_deferred Ybaf.muLib ⟨b + 13, 1, none⟩ .returning _ (M10.S.cell (k := 1) rfl) (M10.S.frozen 1)).mono ?_
    rintro e u' w'' ⟨rfl, rfl, rfl⟩
    refine ⟨_, results_tmp2 rfl _ _ _, rfl, ⟨gv', .slice (some ⟨gg, 0, none⟩) (es.length + 1) cap, ?_⟩, (HC9.out.trans C10).setCell (.inl (by omega)) 1 _⟩
    rw [HE.out, if_neg HN.out]
    exact M10.done (by simp; omega)
end Go.Proofs.YbulkqwgFmt.sp
