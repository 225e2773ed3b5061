import Derived.Test.YbulkqwgFmtE12
import Derived.Deep.RegionLaw
namespace Go.Proofs.YbulkqwgFmt.sp
open Go.RowKit Go.MuLone
set_option linter.unusedVariables false
set_option maxRecDepth 1000000

/-- The region of a number in a body. -/
def reg (n : Nat) : Code → Option Code
  | .region id ops d => if id = n then some (.region id ops d) else none
  | .seq a b => match reg n a with
    | some c => some c
    | none => reg n b
  | .cond _ a b => match reg n a with
    | some c => some c
    | none => reg n b
  | .loop c => reg n c
  | .block _ c => reg n c
  | .scope c => reg n c
  | _ => none
theorem Chg.grown {S : Nat → Prop} {w w1 w2 : World} {row : Option Nat} (h : Chg S w w1) (hg : w1.grownBy w2 row) (hr : ∀ x, row = some x → S x ∨ w.heap.size ≤ x) : Chg S w w2 :=
  ⟨hg.os.trans h.os, hg.tape.trans h.tape, hg.output.trans h.output, Nat.le_trans h.size hg.size, fun g hgl hS => by
    rw [hg.block g (Nat.lt_of_lt_of_le hgl h.size) (fun e => by rcases hr g e.symm with h1 | h1; exact hS h1; omega)]; exact h.block g hgl hS⟩
theorem info79 : (Ybaf.prog.info? 79).map (fun i => (i.zero, i.size, i.bytes)) = some (some (.agg #[.int .i64 0, .int .i64 0]), 2, 16) := by kernel_rfl
/-- The space while its lock is held and a group has been taken. -/
structure Mid (b c gs n0 n1 k0 k1 : Nat) (aF : Addr) (gv fv : Value) (gl : List (Nat × Nat)) (es : List Ent) (G f k : Nat) (w : World) : Prop where
  sp : Spool b gs n0 n1 k0 k1 0 aF w
  S : At w (b + 13) (spaceCells (b + 12) 1 gv fv) 35
  groups : w.ownsRow c 79 2 gv gl.length (grps gl)
  free : Free w c fv es
  apart : ∀ g, gv.ownBlock = some g → fv.ownBlock ≠ some g
  aG : At w G [.int .i64 (f : Int), .int .i64 (k : Int)] 79
  hG : c ≤ G
  gG : gv.ownBlock ≠ some G
  fG : fv.ownBlock ≠ some G
  hcc : b + 14 ≤ c
theorem Mid.chg {b c gs n0 n1 k0 k1 : Nat} {aF : Addr} {gv fv : Value} {gl : List (Nat × Nat)} {es : List Ent} {G f k : Nat} {w w' : World} {S : Nat → Prop} (h : Mid b c gs n0 n1 k0 k1 aF gv fv gl es G f k w) (hc : Chg S w w') (hS : ∀ g, ¬ S g) : Mid b c gs n0 n1 k0 k1 aF gv fv gl es G f k w' where
  sp := h.sp.chg hc fun g _ => hS g
  S := h.S.chg hc (hS _)
  groups := owns_chg h.groups hc fun g _ => hS g
  free := h.free.chg hc fun g _ => hS g
  apart := h.apart
  aG := h.aG.chg hc (hS _)
  hG := h.hG
  gG := h.gG
  fG := h.fG
  hcc := h.hcc

set_option maxHeartbeats 20000000 in
theorem r15 {b c gs n0 n1 k0 k1 : Nat} {aF : Addr} {gv fv : Value} {gl : List (Nat × Nat)} {es : List Ent} {G f k : Nat} {c1 c2 c3 c4 c5 c6 c7 c8 c9 c11 c12 c13 c14 c15 c16 c17 c18 c19 c20 c21 c22 c23 c24 c25 c26 c27 c28 c29 c30 c31 c32 c33 c34 c35 c36 c37 c38 c39 c40 c41 c42 c43 c44 c45 c46 c47 c48 c49 c50 c51 c52 c53 c54 c55 c56 c57 c58 c59 c60 c61 c62 c63 c64 c65 c66 c67 c68 c69 c70 c71 c72 c73 c74 c75 c76 c77 c78 c79 c80 c81 c82 c83 c84 c85 c86 c87 c88 c89 c90 c91 c92 c93 c94 c95 c96 c97 c98 c99 c100 c101 c102 c103 c104 c105 c106 c107 c108 c109 c110 c111 c112 c113 c114 c115 c116 c117 c118 : Value} {DF : List Deferred} {Q : Exit → Act → World → Prop} {w : World} (hgl : gl.length ≤ 100) (h : Mid b c gs n0 n1 k0 k1 aF gv fv gl es G f k w)
    (hK : Hid (∀ (u76 u77 u78 u79 u80 u81 u82 u83 u84 u85 : Value) (w' : World), (∃ gv', Mid b c gs n0 n1 k0 k1 aF gv' fv (gl ++ [(f, k)]) es G f k w') ∧ Chg (fun x => b ≤ x ∧ (x < b + 14 ∨ c ≤ x)) w w' → Q .normal ⟨#[.pointer (some ⟨b + 13, 0, none⟩), c1, c2, c3, c4, c5, c6, c7, c8, c9, .pointer (some ⟨G, 0, none⟩), c11, c12, c13, c14, c15, c16, c17, c18, c19, c20, c21, c22, c23, c24, c25, c26, c27, c28, c29, c30, c31, c32, c33, c34, c35, c36, c37, c38, c39, c40, c41, c42, c43, c44, c45, c46, c47, c48, c49, c50, c51, c52, c53, c54, c55, c56, c57, c58, c59, c60, c61, c62, c63, c64, c65, c66, c67, c68, c69, c70, c71, c72, c73, c74, c75, u76, u77, u78, u79, u80, u81, u82, u83, u84, u85, c86, c87, c88, c89, c90, c91, c92, c93, c94, c95, c96, c97, c98, c99, c100, c101, c102, c103, c104, c105, c106, c107, c108, c109, c110, c111, c112, c113, c114, c115, c116, c117, c118], DF⟩ w')) :
    Code.wp Ybaf.prog ((reg 15 (Ybaf.f6.body.getD .skip)).getD .skip) Q ⟨#[.pointer (some ⟨b + 13, 0, none⟩), c1, c2, c3, c4, c5, c6, c7, c8, c9, .pointer (some ⟨G, 0, none⟩), c11, c12, c13, c14, c15, c16, c17, c18, c19, c20, c21, c22, c23, c24, c25, c26, c27, c28, c29, c30, c31, c32, c33, c34, c35, c36, c37, c38, c39, c40, c41, c42, c43, c44, c45, c46, c47, c48, c49, c50, c51, c52, c53, c54, c55, c56, c57, c58, c59, c60, c61, c62, c63, c64, c65, c66, c67, c68, c69, c70, c71, c72, c73, c74, c75, c76, c77, c78, c79, c80, c81, c82, c83, c84, c85, c86, c87, c88, c89, c90, c91, c92, c93, c94, c95, c96, c97, c98, c99, c100, c101, c102, c103, c104, c105, c106, c107, c108, c109, c110, c111, c112, c113, c114, c115, c116, c117, c118], DF⟩ w := by
  conv => arg 2; whnf
  have hcc := h.hcc
  have HG : Hid (∀ g, gv.ownBlock = some g → c ≤ g) := fun g hg => (owns_lt h.groups hg).1
  have HFl : Hid (∀ g, fv.ownBlock = some g → c ≤ g ∧ g < w.heap.size) := fun g hg => h.free.lt hg
  have hne6 : gv.ownBlock ≠ some (b + 13) := fun e => by have := HG.out _ e; omega
  have c3 := h.S.cell (k := 3) rfl
  have c3' := cell_alloc (.cells #[.int .i64 (f : Int), .int .i64 (k : Int)] 79) c3
  have z3 := h.S.frozen 3
  have g0 := h.aG.cell (k := 0) rfl
  have g1 := h.aG.cell (k := 1) rfl
  have hGG := h.hG
  have lS := h.S.lt
  have lG := h.aG.lt
  have H := hid h
  clear h
  obtain ⟨i0, hi0, hz0, hz1, hz2⟩ := info_parts info79
  refine wp_region_noPanic ?_
  go_region_law
    ((refine step_append_lies _ (by rfl) _ _ _ (by rfl) c 79 i0 _ 2 16 Ybaf.underlying32 hi0 hz0 hz1 hz2 rfl (by omega) gv gl.length (grps gl) (by rfl) ((H.out.groups.alloc _).drew)
        ⟨w.heap.size, 0, none⟩ 1 1 [.int .i64 (f : Int), .int .i64 (k : Int)] (by rfl) (by rfl) (World.news_of_block (cs := #[.int .i64 (f : Int), .int .i64 (k : Int)]) (t := 79) (fr := (0, 0)) (heap_alloc_new w _)) (by simp [Value.oneCell'])
        (by omega) (by unfold maxLen; omega) (by omega) (by simp; omega) (w.heap.size + 1) (by simp) ?_; intro gg cap w7 hown1 hgrow hat hlt
      have s1 : w7.cell? ⟨b + 13, 3, none⟩ = some gv := by rw [hgrow.cell_far ⟨b + 13, 3, none⟩ (by simp; omega) (Ne.symm hne6)]; exact cell_alloc _ c3
      have s2 : w7.frozen? ⟨b + 13, 3, none⟩ = false := by rw [hgrow.frozen_far ⟨b + 13, 3, none⟩ (by simp; omega) (Ne.symm hne6)]; exact (H.out.S.alloc _).frozen 3))
  all_goals
    refine NoPanic.normal ?_
    refine hK.out _ _ _ _ _ _ _ _ _ _ _ ?_
    have hgl8 : grps gl ++ [.int .i64 (f : Int), .int .i64 (k : Int)] = grps (gl ++ [(f, k)]) := by simp [grps]
    rw [hgl8] at hown1
    have K8 : Chg (fun x => gv.ownBlock = some x ∨ x = b + 13) w (w7.setCell ⟨b + 13, 3, none⟩ (.slice (some ⟨gg, 0, none⟩) (gl.length + 1) cap)) :=
      Chg.setCell (Chg.grown (((Chg.refl (fun x => gv.ownBlock = some x ∨ x = b + 13) w).alloc _).drew) hgrow (fun x hx => .inl (.inl hx))) (.inl (.inr rfl)) 3 _
    have K7 : Chg (fun x => gv.ownBlock = some x) w w7 := Chg.grown (((Chg.refl (fun x => gv.ownBlock = some x) w).alloc _).drew) hgrow (fun x hx => .inl hx)
    have hgg : c ≤ gg := by
      rcases hat with e | e
      · exact HG.out gg e
      · omega
    refine ⟨⟨(.slice (some ⟨gg, 0, none⟩) (gl.length + 1) cap), ?_⟩, K8.mono fun x _ hx => ?_⟩
    · exact {
        sp := H.out.sp.chg K8 (fun g hg e => by
          rcases e with e | e
          · have := HG.out g e; omega
          · omega)
        S := (H.out.S.chg K7 hne6).set 3 _
        groups := by
          rw [List.length_append, List.length_singleton]
          exact owns_chg hown1 (Chg.setCell (S := fun x => x = b + 13) (Chg.refl _ w7) (.inl rfl) 3 _) (fun g hg e => by
            simp only [Value.ownBlock, Option.some.injEq] at hg; omega)
        free := H.out.free.chg K8 (fun g hg e => by
          have := HFl.out g hg
          rcases e with e | e
          · exact H.out.apart g e hg
          · omega)
        apart := fun g hg => by
          simp only [Value.ownBlock, Option.some.injEq] at hg
          subst hg
          rcases hat with e | e
          · exact H.out.apart _ e
          · intro h1
            have := HFl.out _ h1
            omega
        aG := H.out.aG.chg K8 (fun e => by
          rcases e with e | e
          · exact H.out.gG e
          · have := H.out.hG; omega)
        hG := H.out.hG
        gG := fun e => by
          simp only [Value.ownBlock, Option.some.injEq] at e
          subst e
          rcases hat with e | e
          · exact H.out.gG e
          · omega
        fG := H.out.fG
        hcc := hcc }
    · rcases hx with e | e
      · have := HG.out x e; omega
      · omega
set_option maxHeartbeats 20000000 in
theorem r16 {b c gs n0 n1 k0 k1 : Nat} {aF : Addr} {gv fv : Value} {gl : List (Nat × Nat)} {es : List Ent} {G f k : Nat} {fst n : Nat} {c1 c2 c3 c4 c5 c6 c7 c8 c9 c11 c12 c13 c14 c15 c16 c17 c18 c19 c20 c21 c22 c23 c24 c25 c26 c27 c28 c29 c30 c31 c32 c33 c34 c35 c36 c37 c38 c39 c40 c41 c42 c43 c44 c45 c46 c47 c48 c49 c50 c51 c52 c53 c54 c55 c56 c57 c58 c59 c60 c61 c62 c63 c64 c65 c66 c67 c68 c69 c70 c71 c72 c73 c74 c75 c76 c77 c78 c79 c80 c81 c82 c83 c84 c85 c86 c87 c88 c89 c90 c91 c92 c93 c94 c95 c96 c97 c98 c99 c100 c101 c102 c103 c104 c105 c106 c107 c108 c109 c110 c111 c112 c113 c114 c115 c116 c117 c118 : Value} {DF : List Deferred} {Q : Exit → Act → World → Prop} {w : World} (h : Mid b c gs n0 n1 k0 k1 aF gv fv gl es G f k w) (h15 : ∀ w, w.cell? ⟨b + 12, 1, none⟩ = some (.int .i64 (gs : Int)) → Calls Ybaf.prog 15 #[.pointer (some ⟨b + 12, 0, none⟩), .agg #[.int .i64 (f : Int), .int .i64 (k : Int)]] w fun e w' => e = .returned (.tuple #[.int .u64 (fst : Int), .int .i64 (n : Int)]) ∧ Chg (fun _ => False) w w')
    (hK : Hid (∀ (u86 u87 u88 u89 u90 u91 u92 u93 u94 : Value) (w' : World), Mid b c gs n0 n1 k0 k1 aF gv fv gl es G f k w' ∧ Chg (fun _ => False) w w' → Q .normal ⟨#[.pointer (some ⟨b + 13, 0, none⟩), c1, c2, c3, c4, c5, c6, c7, c8, c9, .pointer (some ⟨G, 0, none⟩), .int .u64 (fst : Int), .int .i64 (n : Int), c13, c14, c15, c16, c17, c18, c19, c20, c21, c22, c23, c24, c25, c26, c27, c28, c29, c30, c31, c32, c33, c34, c35, c36, c37, c38, c39, c40, c41, c42, c43, c44, c45, c46, c47, c48, c49, c50, c51, c52, c53, c54, c55, c56, c57, c58, c59, c60, c61, c62, c63, c64, c65, c66, c67, c68, c69, c70, c71, c72, c73, c74, c75, c76, c77, c78, c79, c80, c81, c82, c83, c84, c85, u86, u87, u88, u89, u90, u91, u92, u93, u94, c95, c96, c97, c98, c99, c100, c101, c102, c103, c104, c105, c106, c107, c108, c109, c110, c111, c112, c113, c114, c115, c116, c117, c118], DF⟩ w')) :
    Code.wp Ybaf.prog ((reg 16 (Ybaf.f6.body.getD .skip)).getD .skip) Q ⟨#[.pointer (some ⟨b + 13, 0, none⟩), c1, c2, c3, c4, c5, c6, c7, c8, c9, .pointer (some ⟨G, 0, none⟩), c11, c12, c13, c14, c15, c16, c17, c18, c19, c20, c21, c22, c23, c24, c25, c26, c27, c28, c29, c30, c31, c32, c33, c34, c35, c36, c37, c38, c39, c40, c41, c42, c43, c44, c45, c46, c47, c48, c49, c50, c51, c52, c53, c54, c55, c56, c57, c58, c59, c60, c61, c62, c63, c64, c65, c66, c67, c68, c69, c70, c71, c72, c73, c74, c75, c76, c77, c78, c79, c80, c81, c82, c83, c84, c85, c86, c87, c88, c89, c90, c91, c92, c93, c94, c95, c96, c97, c98, c99, c100, c101, c102, c103, c104, c105, c106, c107, c108, c109, c110, c111, c112, c113, c114, c115, c116, c117, c118], DF⟩ w := by
  conv => arg 2; whnf
  have H15 := hid (h15 w.drew (h.sp.S.drew.cell (k := 1) rfl))
  have c0 := h.S.cell (k := 0) rfl
  have g0 := h.aG.cell (k := 0) rfl
  have g1 := h.aG.cell (k := 1) rfl
  have H := hid h
  clear h h15
  refine wp_region_noPanic ?_
  go_region_with (go_at_call 15; refine H15.out.mono ?_; rintro e w9 ⟨rfl, C9⟩)
  all_goals
    refine NoPanic.normal ?_
    exact hK.out _ _ _ _ _ _ _ _ _ _ ⟨H.out.chg ((Chg.refl (fun _ => False) w).drew.trans C9) (fun _ h => h), (Chg.refl _ w).drew.trans C9⟩
end Go.Proofs.YbulkqwgFmt.sp
