import Derived.Test.YbulkqwgFmtE14
namespace Go.Proofs.YbulkqwgFmt.sp
open Go.RowKit Go.MuLone
set_option linter.unusedVariables false
set_option maxRecDepth 1000000

theorem info3 : (Ybaf.prog.info? 3).map (fun i => (i.zero, i.size, i.bytes)) = some (some (.int .i64 0), 1, 8) := by kernel_rfl
theorem made43 (w : World) : (Instr.makeSlice 43 (.int .i64 2) (.int .i64 2)).run Ybaf.prog w = .ok (.slice (some ⟨w.heap.size, 0, none⟩) 2 2) (w.alloc (.cells #[.int .i64 0, .int .i64 0] 3)) := by
  obtain ⟨i0, hi, hz0, hz1, hz2⟩ := info_parts info3
  rw [run_make w 43 3 i0 (.int .i64 0) Ybaf.underlying43 hi hz0 .i64 .i64 2 2 (by omega) (Int.le_refl _) (by rw [hz2]; omega) (by omega)]
  rw [hz1]
  have e : madeCells (Value.int .i64 0).cells (Int.toNat 2 * 1) = #[.int .i64 0, .int .i64 0] := by
    apply Array.ext'
    show (madeCells #[Value.int .i64 0] 2).toList = _
    rw [toList_madeCells_one]
    rfl
  rw [e]
  rfl
/-- How many of the groups lie in file i. -/
def cnt (i : Nat) (gl : List (Nat × Nat)) : Nat := gl.countP fun g => g.1 == i
theorem grps_cells {w : World} {base : Nat} {gv : Value} {gl : List (Nat × Nat)} (h : w.ownsRow base 79 2 gv gl.length (grps gl)) :
    ∃ a cap, gv = .slice a gl.length cap ∧ ∀ j, j < gl.length → ∃ g, a = some ⟨g, 0, none⟩ ∧ gv.ownBlock = some g ∧ w.cell? ⟨g, j * 2, none⟩ = some (.int .i64 ((gl.getD j default).1 : Int)) ∧ w.cell? ⟨g, j * 2 + 1, none⟩ = some (.int .i64 ((gl.getD j default).2 : Int)) := by
  have hx : ∀ j, j < gl.length → (grps gl)[j * 2]? = some (.int .i64 ((gl.getD j default).1 : Int)) ∧ (grps gl)[j * 2 + 1]? = some (.int .i64 ((gl.getD j default).2 : Int)) := by
    clear h
    induction gl with
    | nil => intro j hj; simp at hj
    | cons x l ih =>
      intro j hj
      match j, hj with
      | 0, _ => exact ⟨rfl, rfl⟩
      | j + 1, hj =>
        have := ih j (by simpa using hj)
        have e : grps (x :: l) = .int .i64 (x.1 : Int) :: .int .i64 (x.2 : Int) :: grps l := rfl
        rw [e, show (j + 1) * 2 = j * 2 + 2 by omega, show j * 2 + 2 + 1 = (j * 2 + 1) + 2 by omega]
        simpa using this
  rcases h.2 with ⟨h1, h2⟩ | ⟨g, cap, cur, h1, h2, h3, h4, h5, h6, h7⟩
  · exact ⟨none, 0, by rw [h1, h2], fun j hj => by omega⟩
  · refine ⟨_, cap, h1, fun j hj => ⟨g, rfl, by rw [h1]; rfl, ?_, ?_⟩⟩
    · rw [cell_of_row w g (j * 2) _ _ _ h3, ← Array.getElem?_toList, ← List.getElem?_take_of_lt (show j * 2 < gl.length * 2 by omega), h7]; exact (hx j hj).1
    · rw [cell_of_row w g (j * 2 + 1) _ _ _ h3, ← Array.getElem?_toList, ← List.getElem?_take_of_lt (show j * 2 + 1 < gl.length * 2 by omega), h7]; exact (hx j hj).2

set_option maxHeartbeats 20000000 in
/-- '(*Space).Held'. -/
theorem held8 {b c gs n0 n1 k0 k1 : Nat} {aF : Addr} {gv fv : Value} {gl : List (Nat × Nat)} {es : List Ent} {w : World} (hgl : gl.length ≤ 100) (hf : ∀ j, j < gl.length → (gl.getD j default).1 = 0 ∨ (gl.getD j default).1 = 1) (h : Space b c gs n0 n1 k0 k1 aF gv fv gl es w) :
    Calls Ybaf.prog 8 #[.pointer (some ⟨b + 13, 0, none⟩)] w fun e w' => ∃ B, e = .returned (.slice (some ⟨B, 0, none⟩) 2 2) ∧ At w' B [.int .i64 (cnt 0 gl : Int), .int .i64 (cnt 1 gl : Int)] 3 ∧ At w' (b + 13) (spaceCells (b + 12) 0 gv fv) 35 ∧ Chg (fun x => b ≤ x ∧ (x < b + 14 ∨ c ≤ x)) w w' := by
  have c1 := h.S.cell (k := 1) rfl
  have z1 := h.S.frozen 1
  have hcc := h.hc
  have lS := h.S.lt
  obtain ⟨a, cap, hgv, hcells⟩ := grps_cells h.groups
  have HG : Hid (∀ g, gv.ownBlock = some g → c ≤ g ∧ g < w.heap.size) := fun g hg => owns_lt h.groups hg
  have HC := hid hcells
  have HV := hid hgv
  have HF := hid hf
  have H := hid h
  clear h hcells hgv hf
  go_enter_defers Ybaf.func8, Ybaf.ntmps8
  go_wp2_with fail
  refine (lock_free Ybaf.muLib ⟨b + 13, 1, none⟩ _ c1 z1).mono ?_
  rintro e w1 ⟨rfl, e1⟩
  have K1 : Chg (fun x => x = b + 13) w w1 := by rw [e1]; exact Chg.setCell (S := fun x => x = b + 13) (Chg.refl _ w) (.inl rfl) 1 _
  have S1 : At w1 (b + 13) (spaceCells (b + 12) 1 gv fv) 35 := by rw [e1]; exact H.out.S.set 1 (.int .i32 1)
  have P1 := H.out.sp.chg K1 fun g hg e => by omega
  have HZ : Hid (w1.heap.size = w.heap.size) := by rw [e1]; show _ = _; simp
  have s0 := S1.cell (k := 0) rfl
  have s3 := S1.cell (k := 3) rfl
  have p3 := P1.S.cell (k := 3) rfl
  have s3' := cell_alloc (.cells #[.int .i64 0, .int .i64 0] 3) s3
  rw [HV.out] at s3'
  have hmk := made43 w1
  have HS1 := hid S1
  have HP1 := hid P1
  have HK1 := hid K1
  have HV1 := hid HV.out
  clear S1 P1 K1 e1 c1 z1 s3
  go_wp2
  go_loopw [27] (fun i wr => ∃ j : Nat, j ≤ gl.length ∧ i = .int .i64 j ∧ Hid (At wr w1.heap.size [.int .i64 (cnt 0 (gl.take j) : Int), .int .i64 (cnt 1 (gl.take j) : Int)] 3) ∧ Hid (Chg (fun x => x = w1.heap.size) (w1.alloc (.cells #[.int .i64 0, .int .i64 0] 3)) wr)) (fun i _ => gl.length - (intOf i).toNat)
  case atStart => exact ⟨0, Nat.zero_le _, rfl, hid (at_new w1 [.int .i64 0, .int .i64 0] 3), hid (Chg.refl _ _)⟩
  case round =>
    obtain ⟨j, hj, rfl, HA, HK⟩ := hrel
    by_cases hlt : j < gl.length
    · obtain ⟨g, ha, hob, d0, d1⟩ := HC.out j hlt
      have hgb := HG.out g hob
      have e0 := cell_chg (cell_alloc (.cells #[.int .i64 0, .int .i64 0] 3) (cell_chg d0 HK1.out (by omega))) HK.out (by have := HZ.out; omega)
      have e1 := cell_chg (cell_alloc (.cells #[.int .i64 0, .int .i64 0] 3) (cell_chg d1 HK1.out (by omega))) HK.out (by have := HZ.out; omega)
      obtain ⟨ek, hek⟩ : ∃ x, x = gl.getD j default := ⟨_, rfl⟩
      have hff := HF.out j hlt
      rw [← hek] at e0 e1 hff
      have HE := hid hek
      clear d0 d1 hek
      obtain ⟨fi, ix⟩ := ek
      simp only at hff e0 e1
      obtain ⟨z, hz⟩ : ∃ z : Int, z = (fi : Int) := ⟨_, rfl⟩
      rw [← hz] at e0
      have hzf : (z = 0 ∧ fi = 0) ∨ (z = 1 ∧ fi = 1) := by omega
      clear hff hz
      have CA : Chg (fun _ => False) wr (wr.alloc (.cells #[.int .i64 z, .int .i64 (ix : Int)] 79)) := (Chg.refl _ wr).alloc _
      have CC := ((((Chg.refl (fun _ => False) w1).alloc (.cells #[.int .i64 0, .int .i64 0] 3)).mono (S' := fun x => x = w1.heap.size) (fun _ _ h => h.elim)).trans HK.out).trans (CA.mono fun _ _ h => h.elim)
      have P2 := HP1.out.chg CC (fun g hg e => by have := HP1.out.S.lt; omega)
      have S2 := HS1.out.chg CC (by have := HZ.out; omega)
      have A2 := HA.out.chg CA (fun h => h)
      have G2 := at_new wr [.int .i64 z, .int .i64 (ix : Int)] 79
      have s0' := S2.cell (k := 0) rfl
      have p2 := P2.S.cell (k := 2) rfl
      have q0 := P2.FS.cell (k := 0) rfl
      have q1 := P2.FS.cell (k := 1) rfl
      have f0 := P2.f0.1.cell (k := 5) rfl
      have f1 := P2.f1.1.cell (k := 5) rfl
      have a3 := P2.A.cell (k := 3) rfl
      have b3 := P2.B.cell (k := 3) rfl
      have h0 := A2.cell (k := 0) rfl
      have h1 := A2.cell (k := 1) rfl
      have z0 := A2.frozen 0
      have z1 := A2.frozen 1
      have g0 := G2.cell (k := 0) rfl
      have HA2 := hid A2
      have HCA := hid CA
      clear S2 P2 CC A2 CA G2
      subst ha
      have b0 : cnt 0 (gl.take j) ≤ 100 := Nat.le_trans (List.countP_le_length) (by rw [List.length_take]; omega)
      have b1 : cnt 1 (gl.take j) ≤ 100 := Nat.le_trans (List.countP_le_length) (by rw [List.length_take]; omega)
      have t1 : ∀ i, cnt i (gl.take (j + 1)) = cnt i (gl.take j) + if fi = i then 1 else 0 := fun i => by
        have e : gl.take (j + 1) = gl.take j ++ [(fi, ix)] := by
          rw [List.take_add_one, List.getElem?_eq_getElem hlt]
          have := HE.out
          rw [List.getD, List.getElem?_eq_getElem hlt] at this
          simp only [Option.getD_some] at this
          rw [← this]; rfl
        rw [e]
        unfold cnt
        rw [List.countP_append]
        simp [List.countP_cons]
      have HT := hid t1
      clear t1
      rcases hzf with ⟨rfl, rfl⟩ | ⟨rfl, rfl⟩
      · go_wp2_with fail
        refine wp_region_noPanic ?_
        go_region
        refine NoPanic.normal ?_
        go_wp2
        go_roundw
        case rel =>
          refine ⟨j + 1, by omega, by go_num, hid ?_, hid (((HK.out.trans (HCA.out.mono fun _ _ h => h.elim)).setCell (.inl rfl) 0 _).drew)⟩
          refine ((HA2.out.set 0 (.int .i64 ((cnt 0 (gl.take j) : Int) + 1))).drew).eq ?_
          rw [HT.out 0, HT.out 1]
          simp
        case measure => simp [intOf]; omega
      · go_wp2_with fail
        refine wp_region_noPanic ?_
        go_region
        refine NoPanic.normal ?_
        go_wp2
        go_roundw
        case rel =>
          refine ⟨j + 1, by omega, by go_num, hid ?_, hid (((HK.out.trans (HCA.out.mono fun _ _ h => h.elim)).setCell (.inl rfl) 1 _).drew)⟩
          refine ((HA2.out.set 1 (.int .i64 ((cnt 1 (gl.take j) : Int) + 1))).drew).eq ?_
          rw [HT.out 0, HT.out 1]
          simp
        case measure => simp [intOf]; omega
    · obtain rfl : j = gl.length := by omega
      have CC := ((((Chg.refl (fun _ => False) w1).alloc (.cells #[.int .i64 0, .int .i64 0] 3)).mono (S' := fun x => x = w1.heap.size) (fun _ _ h => h.elim)).trans HK.out)
      have S2 := HS1.out.chg CC (by have := HZ.out; omega)
      have c1 := S2.cell (k := 1) rfl
      have z1 := S2.frozen 1
      have HS2 := hid S2
      have HC2 := hid ((HK1.out.mono (S' := fun x => b ≤ x ∧ (x < b + 14 ∨ c ≤ x)) fun x _ hx => by omega).trans (CC.mono fun x _ hx => by have := HZ.out; omega))
      clear S2 CC
      go_wp2
      refine leaves_cons (f := 12) (args := #[.pointer (some ⟨b + 13, 1, none⟩)]) (by simp) (by simp [go_sem]) ?_
      refine (unlock_deferred Ybaf.muLib ⟨b + 13, 1, none⟩ .returning _ c1 z1).mono ?_
      rintro e u' w'' ⟨rfl, rfl, rfl⟩
      refine ⟨_, results_tmp rfl _ _ _, w1.heap.size, rfl, ?_, HS2.out.set 1 (.int .i32 0), HC2.out.setCell (.inl (by omega)) 1 _⟩
      have h3 := HA.out
      rw [List.take_length] at h3
      exact h3.set_ne (by have := HZ.out; omega) 1 _
end Go.Proofs.YbulkqwgFmt.sp
