import Derived.Test.YbulkqwgFmtE16
namespace Go.Proofs.YbulkqwgFmt.sp
open Go.RowKit Go.MuLone Go.Maps Go.WideMaps
set_option linter.unusedVariables false
set_option maxRecDepth 1000000

theorem alloc_facts {w w' : World} {b : Nat} {cs : List Value} {t : TypeId} (e : w' = w.alloc (.cells cs.toArray t)) (hb : w.heap.size = b) : w'.heap.size = b + 1 ∧ Chg (fun _ => False) w w' ∧ At w' b cs t := by
  subst hb; subst e
  exact ⟨by simp, (Chg.refl _ w).alloc _, at_new w cs t⟩
theorem file_facts {w w' : World} {b i p n : Nat} (hb : w.heap.size = b)
    (e : w' = (w.alloc (.cells #[.int .u64 0] 36)).alloc (.cells #[.string { data := #[] }, .string { data := #[] }, .bool false, .string { data := #[] }, .int .i64 (i : Int), .pointer (some ⟨p, 0, none⟩), .pointer none, .int .i64 (n : Int), .slice (some ⟨w.heap.size, 0, none⟩) 1 1, .int .i64 (n : Int), .int .i64 0, .int .u32 0, .int .i32 0, .int .u32 0] 68)) :
    w'.heap.size = b + 2 ∧ Chg (fun _ => False) w w' ∧ FileAt w' (b + 1) b i p n 0 := by
  subst hb; subst e
  refine ⟨by simp, ((Chg.refl _ w).alloc _).alloc _, ?_, ?_⟩
  · have := at_new (w.alloc (.cells #[.int .u64 0] 36)) [.string { data := #[] }, .string { data := #[] }, .bool false, .string { data := #[] }, .int .i64 (i : Int), .pointer (some ⟨p, 0, none⟩), .pointer none, .int .i64 (n : Int), .slice (some ⟨w.heap.size, 0, none⟩) 1 1, .int .i64 (n : Int), .int .i64 0, .int .u32 0, .int .i32 0, .int .u32 0] 68
    rw [World.size_alloc] at this
    refine this.eq ?_
    simp only [fileCells, Int.natCast_zero, Int.sub_zero]
    rfl
  · exact ((at_new w [.int .u64 0] 36).alloc _).eq (by simp)
theorem set_facts {w w' : World} {b p f : Nat} {v0 v1 v2 v3 v4 v5 : Value} (hb : w.heap.size = b) (ha : At w p [v0, v1, v2, v3, v4, v5] 58)
    (e : w' = (w.setCell ⟨p, 4, none⟩ (.slice (some ⟨w.heap.size, 0, none⟩) 1 1)).alloc (.cells #[.pointer (some ⟨f, 0, none⟩)] 59)) :
    w'.heap.size = b + 1 ∧ Chg (fun x => x = p) w w' ∧ At w' p [v0, v1, v2, v3, .slice (some ⟨b, 0, none⟩) 1 1, v5] 58 ∧ At w' b [.pointer (some ⟨f, 0, none⟩)] 59 := by
  subst hb; subst e
  refine ⟨by simp, (Chg.setCell (S := fun x => x = p) (Chg.refl _ w) (.inl rfl) 4 _).alloc _, (ha.set 4 _).alloc _, ?_⟩
  have := at_new (w.setCell ⟨p, 4, none⟩ (.slice (some ⟨w.heap.size, 0, none⟩) 1 1)) [.pointer (some ⟨f, 0, none⟩)] 59
  rw [World.size_setCell] at this
  exact this

set_option maxHeartbeats 20000000 in
/-- 'zzs0864cspool'. -/
theorem spool5 {b gs n0 n1 : Nat} {aF : Addr} {w : World} (hb : w.heap.size = b) (hg : gs ≤ 9) (h0 : 1 ≤ n0) (h0' : n0 ≤ 5) (h1 : 1 ≤ n1) (h1' : n1 ≤ 5) (hlo : 3 ≤ b) (hT : Tab w) (hF : w.cell? ⟨0, 0, none⟩ = some (.iface 93 (.pointer (some aF)))) :
    Calls Ybaf.prog 5 #[.int .i64 (gs : Int), .int .i64 (n0 : Int), .int .i64 (n1 : Int)] w fun e w' => e = .returned (.pointer (some ⟨b + 12, 0, none⟩)) ∧ Spool b gs n0 n1 0 0 0 aF w' ∧ w'.heap.size = b + 13 ∧ Chg (fun _ => False) w w' := by
  refine calls_of_wp Ybaf.func5 rfl ?_
  simp only [Ybaf.ntmps5, List.size_toArray, List.length_cons, List.length_nil, Nat.reduceAdd, Nat.reduceSub, Array.replicate_succ, Array.replicate_zero, List.push_toArray, List.append_toArray, List.nil_append, List.cons_append]
  refine glue (z0 (hid ?_))
  intro w0 e0
  rw [e0]
  clear e0 w0
  refine glue (z1 (hid ?_))
  intro _ _ _ w1 e1
  obtain ⟨s1, c1, aA⟩ := alloc_facts (cs := [.string { data := #[65] }, .bool true, .string { data := #[] }, .int .i64 0, .slice none 0 0, .pointer none]) e1 hb
  rw [hb]
  clear e1
  refine glue (z2 (hid ?_))
  intro _ _ _ w2 e2
  obtain ⟨s2, c2, aB⟩ := alloc_facts (cs := [.string { data := #[66] }, .bool false, .string { data := #[] }, .int .i64 1, .slice none 0 0, .pointer none]) e2 s1
  rw [s1]
  replace aA := aA.chg c2 (fun h => h)
  replace c2 := c1.trans c2
  clear e2 s1 c1
  refine glue (z3 h0 h0' (hid ?_))
  intro _ _ _ _ _ _ _ _ _ w3 e3
  obtain ⟨s3, c3, f0⟩ := file_facts (i := 0) s2 e3
  rw [s2]
  replace aA := aA.chg c3 (fun h => h)
  replace aB := aB.chg c3 (fun h => h)
  replace c3 := c2.trans c3
  clear e3 s2 c2
  refine glue (z4 h1 h1' (hid ?_))
  intro _ _ _ _ _ _ _ _ _ w4 e4
  obtain ⟨s4, c4, f1⟩ := file_facts (i := 1) s3 e4
  rw [s3]
  replace aA := aA.chg c4 (fun h => h)
  replace aB := aB.chg c4 (fun h => h)
  replace f0 : FileAt w4 (b + 3) (b + 2) 0 b n0 0 := ⟨f0.1.chg c4 (fun h => h), f0.2.chg c4 (fun h => h)⟩
  replace c4 := c3.trans c4
  clear e4 s3 c3
  refine glue (z5 (aA.cell (k := 4) rfl) (aA.frozen 4) (hid ?_))
  intro _ _ _ _ _ w5 e5
  obtain ⟨s5, c5, aA5, fa⟩ := set_facts s4 aA e5
  replace aB := aB.chg c5 (by omega)
  replace f0 : FileAt w5 (b + 3) (b + 2) 0 b n0 0 := ⟨f0.1.chg c5 (by omega), f0.2.chg c5 (by omega)⟩
  replace f1 : FileAt w5 (b + 5) (b + 4) 1 (b + 1) n1 0 := ⟨f1.1.chg c5 (by omega), f1.2.chg c5 (by omega)⟩
  replace c5 := (c4.mono (S' := fun x => b ≤ x) fun _ _ h => h.elim).trans (c5.mono fun x _ hx => by omega)
  clear e5 s4 c4 aA
  refine glue (z6 (aB.cell (k := 4) rfl) (aB.frozen 4) (hid ?_))
  intro _ _ _ _ _ w6 e6
  obtain ⟨s6, c6, aB6, fb⟩ := set_facts s5 aB e6
  replace aA5 := aA5.chg c6 (by omega)
  replace fa := fa.chg c6 (by omega)
  replace f0 : FileAt w6 (b + 3) (b + 2) 0 b n0 0 := ⟨f0.1.chg c6 (by omega), f0.2.chg c6 (by omega)⟩
  replace f1 : FileAt w6 (b + 5) (b + 4) 1 (b + 1) n1 0 := ⟨f1.1.chg c6 (by omega), f1.2.chg c6 (by omega)⟩
  replace c6 := c5.trans (c6.mono fun x _ hx => by omega)
  clear e6 s5 c5 aB
  refine glue (z7 (hid ?_))
  intro v6 _ _ _ _ _ _ _ _ _ _ _ _ _ _ _ _ w7 e7
  rw [s6] at e7
  obtain ⟨rfl, s7, c7, fs, ps, nm, ch, aS⟩ := e7
  have cc : Chg (fun _ => False) w w7 := (c6.trans (c7.mono fun _ _ h => h.elim)).mono fun x hx e => by omega
  go_wp2
  go_ret
  refine ⟨rfl, ?_, s7, cc⟩
  exact {
    S := aS
    A := aA5.chg c7 (fun h => h)
    B := aB6.chg c7 (fun h => h)
    f0 := ⟨f0.1.chg c7 (fun h => h), f0.2.chg c7 (fun h => h)⟩
    f1 := ⟨f1.1.chg c7 (fun h => h), f1.2.chg c7 (fun h => h)⟩
    FA := fa.chg c7 (fun h => h)
    FB := fb.chg c7 (fun h => h)
    FS := fs
    PS := ps
    names := nm
    chan := ch
    tab := hT.chg cc (fun h => h)
    full := cell_chg hF cc (fun h => h)
    lo := hlo
    n0 := h0'
    n1 := h1' }
end Go.Proofs.YbulkqwgFmt.sp
