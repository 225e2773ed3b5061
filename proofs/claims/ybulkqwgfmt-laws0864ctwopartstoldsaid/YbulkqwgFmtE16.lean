import Derived.Test.YbulkqwgFmtE15
import Derived.Conc.SmallLaws
namespace Go.Proofs.YbulkqwgFmt.sp
open Go.RowKit Go.MuLone Go.Maps Go.WideMaps
set_option linter.unusedVariables false
set_option maxRecDepth 1000000

def stmt : Nat → Code → Code
  | 0, .seq a _ => a
  | n + 1, .seq _ b => stmt n b
  | _, c => c
theorem glue {P : Program} {Q : Exit → Act → World → Prop} {x y : Code} {a : Act} {w : World} (h : x.wp P (Exit.then (fun a w => y.wp P Q a w) Q) a w) : (Code.seq x y).wp P Q a w := wp_seq h
theorem World.grownBy.trans' {a b c : World} {r : Option Nat} (h : a.grownBy b r) (k : b.grownBy c r) : a.grownBy c r :=
  ⟨k.os.trans h.os, k.tape.trans h.tape, k.output.trans h.output, Nat.le_trans h.size k.size, fun i hi hr => (k.block i (Nat.lt_of_lt_of_le hi h.size) hr).trans (h.block i hi hr)⟩
theorem info36 : (Ybaf.prog.info? 36).map (fun i => (i.zero, i.size, i.bytes)) = some (some (.int .u64 0), 1, 8) := by kernel_rfl
theorem info25 : (Ybaf.prog.info? 25).map (fun i => i.bytes) = some 0 := by kernel_rfl
theorem made60 (w : World) : (Instr.makeSlice 60 (.int .i64 1) (.int .i64 1)).run Ybaf.prog w = .ok (.slice (some ⟨w.heap.size, 0, none⟩) 1 1) (w.alloc (.cells #[.int .u64 0] 36)) := by
  obtain ⟨i0, hi, hz0, hz1, hz2⟩ := info_parts info36
  rw [run_make w 60 36 i0 (.int .u64 0) Ybaf.underlying60 hi hz0 .i64 .i64 1 1 (by omega) (Int.le_refl _) (by rw [hz2]; omega) (by omega)]
  rw [hz1]
  have e : madeCells (Value.int .u64 0).cells (Int.toNat 1 * 1) = #[.int .u64 0] := by
    apply Array.ext'
    show (madeCells #[Value.int .u64 0] 1).toList = _
    rw [toList_madeCells_one]
    rfl
  rw [e]
  rfl

set_option maxHeartbeats 4000000 in
theorem z0  {c0 c1 c2 c3 c4 c5 c6 c7 c8 c9 c10 c11 c12 c13 c14 c15 c16 c17 c18 c19 c20 c21 c22 c23 c24 c25 c26 c27 c28 c29 c30 c31 c32 c33 c34 c35 c36 c37 c38 c39 c40 c41 c42 c43 c44 c45 c46 c47 c48 c49 c50 c51 c52 c53 c54 c55 c56 c57 c58 c59 c60 : Value} {Q : Exit → Act → World → Prop} {K : Act → World → Prop} {w : World} 
    (hK : Hid (∀ (w' : World), w' = w → K ⟨#[c0, c1, c2, c3, c4, c5, .pointer none, c7, c8, c9, c10, c11, c12, c13, c14, c15, c16, c17, c18, c19, c20, c21, c22, c23, c24, c25, c26, c27, c28, c29, c30, c31, c32, c33, c34, c35, c36, c37, c38, c39, c40, c41, c42, c43, c44, c45, c46, c47, c48, c49, c50, c51, c52, c53, c54, c55, c56, c57, c58, c59, c60], []⟩ w')) :
    Code.wp Ybaf.prog (stmt 0 (Ybaf.f5.body.getD .skip)) (Exit.then K Q) ⟨#[c0, c1, c2, c3, c4, c5, c6, c7, c8, c9, c10, c11, c12, c13, c14, c15, c16, c17, c18, c19, c20, c21, c22, c23, c24, c25, c26, c27, c28, c29, c30, c31, c32, c33, c34, c35, c36, c37, c38, c39, c40, c41, c42, c43, c44, c45, c46, c47, c48, c49, c50, c51, c52, c53, c54, c55, c56, c57, c58, c59, c60], []⟩ w := by
  conv => arg 2; whnf
  go_wp2
  exact hK.out _ rfl
set_option maxHeartbeats 4000000 in
theorem z1  {c0 c1 c2 c3 c4 c5 c6 c7 c8 c9 c10 c11 c12 c13 c14 c15 c16 c17 c18 c19 c20 c21 c22 c23 c24 c25 c26 c27 c28 c29 c30 c31 c32 c33 c34 c35 c36 c37 c38 c39 c40 c41 c42 c43 c44 c45 c46 c47 c48 c49 c50 c51 c52 c53 c54 c55 c56 c57 c58 c59 c60 : Value} {Q : Exit → Act → World → Prop} {K : Act → World → Prop} {w : World} 
    (hK : Hid (∀ (u11 u12 u13 : Value) (w' : World), w' = w.alloc (.cells #[.string { data := #[65] }, .bool true, .string { data := #[] }, .int .i64 0, .slice none 0 0, .pointer none] 58) → K ⟨#[c0, c1, c2, c3, c4, c5, c6, .pointer (some ⟨w.heap.size, 0, none⟩), c8, c9, c10, u11, u12, u13, c14, c15, c16, c17, c18, c19, c20, c21, c22, c23, c24, c25, c26, c27, c28, c29, c30, c31, c32, c33, c34, c35, c36, c37, c38, c39, c40, c41, c42, c43, c44, c45, c46, c47, c48, c49, c50, c51, c52, c53, c54, c55, c56, c57, c58, c59, c60], []⟩ w')) :
    Code.wp Ybaf.prog (stmt 1 (Ybaf.f5.body.getD .skip)) (Exit.then K Q) ⟨#[c0, c1, c2, c3, c4, c5, c6, c7, c8, c9, c10, c11, c12, c13, c14, c15, c16, c17, c18, c19, c20, c21, c22, c23, c24, c25, c26, c27, c28, c29, c30, c31, c32, c33, c34, c35, c36, c37, c38, c39, c40, c41, c42, c43, c44, c45, c46, c47, c48, c49, c50, c51, c52, c53, c54, c55, c56, c57, c58, c59, c60], []⟩ w := by
  conv => arg 2; whnf
  go_wp2
  exact hK.out _ _ _ _ rfl
set_option maxHeartbeats 4000000 in
theorem z2  {c0 c1 c2 c3 c4 c5 c6 c7 c8 c9 c10 c11 c12 c13 c14 c15 c16 c17 c18 c19 c20 c21 c22 c23 c24 c25 c26 c27 c28 c29 c30 c31 c32 c33 c34 c35 c36 c37 c38 c39 c40 c41 c42 c43 c44 c45 c46 c47 c48 c49 c50 c51 c52 c53 c54 c55 c56 c57 c58 c59 c60 : Value} {Q : Exit → Act → World → Prop} {K : Act → World → Prop} {w : World} 
    (hK : Hid (∀ (u14 u15 u16 : Value) (w' : World), w' = w.alloc (.cells #[.string { data := #[66] }, .bool false, .string { data := #[] }, .int .i64 1, .slice none 0 0, .pointer none] 58) → K ⟨#[c0, c1, c2, c3, c4, c5, c6, c7, .pointer (some ⟨w.heap.size, 0, none⟩), c9, c10, c11, c12, c13, u14, u15, u16, c17, c18, c19, c20, c21, c22, c23, c24, c25, c26, c27, c28, c29, c30, c31, c32, c33, c34, c35, c36, c37, c38, c39, c40, c41, c42, c43, c44, c45, c46, c47, c48, c49, c50, c51, c52, c53, c54, c55, c56, c57, c58, c59, c60], []⟩ w')) :
    Code.wp Ybaf.prog (stmt 2 (Ybaf.f5.body.getD .skip)) (Exit.then K Q) ⟨#[c0, c1, c2, c3, c4, c5, c6, c7, c8, c9, c10, c11, c12, c13, c14, c15, c16, c17, c18, c19, c20, c21, c22, c23, c24, c25, c26, c27, c28, c29, c30, c31, c32, c33, c34, c35, c36, c37, c38, c39, c40, c41, c42, c43, c44, c45, c46, c47, c48, c49, c50, c51, c52, c53, c54, c55, c56, c57, c58, c59, c60], []⟩ w := by
  conv => arg 2; whnf
  go_wp2
  exact hK.out _ _ _ _ rfl
set_option maxHeartbeats 4000000 in
theorem z3 {p n : Nat} {c0 c2 c3 c4 c5 c6 c8 c9 c10 c11 c12 c13 c14 c15 c16 c17 c18 c19 c20 c21 c22 c23 c24 c25 c26 c27 c28 c29 c30 c31 c32 c33 c34 c35 c36 c37 c38 c39 c40 c41 c42 c43 c44 c45 c46 c47 c48 c49 c50 c51 c52 c53 c54 c55 c56 c57 c58 c59 c60 : Value} {Q : Exit → Act → World → Prop} {K : Act → World → Prop} {w : World} (h0 : 1 ≤ n) (h1 : n ≤ 5)
    (hK : Hid (∀ (u17 u18 u19 u20 u21 u22 u23 u24 u25 : Value) (w' : World), w' = (w.alloc (.cells #[.int .u64 0] 36)).alloc (.cells #[.string { data := #[] }, .string { data := #[] }, .bool false, .string { data := #[] }, .int .i64 0, .pointer (some ⟨p, 0, none⟩), .pointer none, .int .i64 (n : Int), .slice (some ⟨w.heap.size, 0, none⟩) 1 1, .int .i64 (n : Int), .int .i64 0, .int .u32 0, .int .i32 0, .int .u32 0] 68) → K ⟨#[c0, .int .i64 (n : Int), c2, c3, c4, c5, c6, .pointer (some ⟨p, 0, none⟩), c8, .pointer (some ⟨w.heap.size + 1, 0, none⟩), c10, c11, c12, c13, c14, c15, c16, u17, u18, u19, u20, u21, u22, u23, u24, u25, c26, c27, c28, c29, c30, c31, c32, c33, c34, c35, c36, c37, c38, c39, c40, c41, c42, c43, c44, c45, c46, c47, c48, c49, c50, c51, c52, c53, c54, c55, c56, c57, c58, c59, c60], []⟩ w')) :
    Code.wp Ybaf.prog (stmt 3 (Ybaf.f5.body.getD .skip)) (Exit.then K Q) ⟨#[c0, .int .i64 (n : Int), c2, c3, c4, c5, c6, .pointer (some ⟨p, 0, none⟩), c8, c9, c10, c11, c12, c13, c14, c15, c16, c17, c18, c19, c20, c21, c22, c23, c24, c25, c26, c27, c28, c29, c30, c31, c32, c33, c34, c35, c36, c37, c38, c39, c40, c41, c42, c43, c44, c45, c46, c47, c48, c49, c50, c51, c52, c53, c54, c55, c56, c57, c58, c59, c60], []⟩ w := by
  conv => arg 2; whnf
  have d0 : ((n : Int) + 63).tdiv 64 = 1 := by rw [Int.tdiv_eq_ediv_of_nonneg (by omega)]; omega
  have hmk := made60 w
  go_wp2
  exact hK.out _ _ _ _ _ _ _ _ _ _ rfl
set_option maxHeartbeats 4000000 in
theorem z4 {p n : Nat} {c0 c1 c3 c4 c5 c6 c7 c9 c10 c11 c12 c13 c14 c15 c16 c17 c18 c19 c20 c21 c22 c23 c24 c25 c26 c27 c28 c29 c30 c31 c32 c33 c34 c35 c36 c37 c38 c39 c40 c41 c42 c43 c44 c45 c46 c47 c48 c49 c50 c51 c52 c53 c54 c55 c56 c57 c58 c59 c60 : Value} {Q : Exit → Act → World → Prop} {K : Act → World → Prop} {w : World} (h0 : 1 ≤ n) (h1 : n ≤ 5)
    (hK : Hid (∀ (u26 u27 u28 u29 u30 u31 u32 u33 u34 : Value) (w' : World), w' = (w.alloc (.cells #[.int .u64 0] 36)).alloc (.cells #[.string { data := #[] }, .string { data := #[] }, .bool false, .string { data := #[] }, .int .i64 1, .pointer (some ⟨p, 0, none⟩), .pointer none, .int .i64 (n : Int), .slice (some ⟨w.heap.size, 0, none⟩) 1 1, .int .i64 (n : Int), .int .i64 0, .int .u32 0, .int .i32 0, .int .u32 0] 68) → K ⟨#[c0, c1, .int .i64 (n : Int), c3, c4, c5, c6, c7, .pointer (some ⟨p, 0, none⟩), c9, .pointer (some ⟨w.heap.size + 1, 0, none⟩), c11, c12, c13, c14, c15, c16, c17, c18, c19, c20, c21, c22, c23, c24, c25, u26, u27, u28, u29, u30, u31, u32, u33, u34, c35, c36, c37, c38, c39, c40, c41, c42, c43, c44, c45, c46, c47, c48, c49, c50, c51, c52, c53, c54, c55, c56, c57, c58, c59, c60], []⟩ w')) :
    Code.wp Ybaf.prog (stmt 4 (Ybaf.f5.body.getD .skip)) (Exit.then K Q) ⟨#[c0, c1, .int .i64 (n : Int), c3, c4, c5, c6, c7, .pointer (some ⟨p, 0, none⟩), c9, c10, c11, c12, c13, c14, c15, c16, c17, c18, c19, c20, c21, c22, c23, c24, c25, c26, c27, c28, c29, c30, c31, c32, c33, c34, c35, c36, c37, c38, c39, c40, c41, c42, c43, c44, c45, c46, c47, c48, c49, c50, c51, c52, c53, c54, c55, c56, c57, c58, c59, c60], []⟩ w := by
  conv => arg 2; whnf
  have d0 : ((n : Int) + 63).tdiv 64 = 1 := by rw [Int.tdiv_eq_ediv_of_nonneg (by omega)]; omega
  have hmk := made60 w
  go_wp2
  exact hK.out _ _ _ _ _ _ _ _ _ _ rfl
set_option maxHeartbeats 4000000 in
theorem z5 {p f : Nat} {v : Value} {c0 c1 c2 c3 c4 c5 c6 c8 c10 c11 c12 c13 c14 c15 c16 c17 c18 c19 c20 c21 c22 c23 c24 c25 c26 c27 c28 c29 c30 c31 c32 c33 c34 c35 c36 c37 c38 c39 c40 c41 c42 c43 c44 c45 c46 c47 c48 c49 c50 c51 c52 c53 c54 c55 c56 c57 c58 c59 c60 : Value} {Q : Exit → Act → World → Prop} {K : Act → World → Prop} {w : World} (hc : w.cell? ⟨p, 4, none⟩ = some v) (hz : w.frozen? ⟨p, 4, none⟩ = false)
    (hK : Hid (∀ (u35 u36 u37 u38 u39 : Value) (w' : World), w' = (w.setCell ⟨p, 4, none⟩ (.slice (some ⟨w.heap.size, 0, none⟩) 1 1)).alloc (.cells #[.pointer (some ⟨f, 0, none⟩)] 59) → K ⟨#[c0, c1, c2, c3, c4, c5, c6, .pointer (some ⟨p, 0, none⟩), c8, .pointer (some ⟨f, 0, none⟩), c10, c11, c12, c13, c14, c15, c16, c17, c18, c19, c20, c21, c22, c23, c24, c25, c26, c27, c28, c29, c30, c31, c32, c33, c34, u35, u36, u37, u38, u39, c40, c41, c42, c43, c44, c45, c46, c47, c48, c49, c50, c51, c52, c53, c54, c55, c56, c57, c58, c59, c60], []⟩ w')) :
    Code.wp Ybaf.prog (stmt 5 (Ybaf.f5.body.getD .skip)) (Exit.then K Q) ⟨#[c0, c1, c2, c3, c4, c5, c6, .pointer (some ⟨p, 0, none⟩), c8, .pointer (some ⟨f, 0, none⟩), c10, c11, c12, c13, c14, c15, c16, c17, c18, c19, c20, c21, c22, c23, c24, c25, c26, c27, c28, c29, c30, c31, c32, c33, c34, c35, c36, c37, c38, c39, c40, c41, c42, c43, c44, c45, c46, c47, c48, c49, c50, c51, c52, c53, c54, c55, c56, c57, c58, c59, c60], []⟩ w := by
  conv => arg 2; whnf
  have lp := World.block_lt_of_cell? _ _ hc
  have hc' := cell_alloc (.cells #[.pointer (some ⟨f, 0, none⟩)] 59) hc
  have hz' : (w.alloc (.cells #[.pointer (some ⟨f, 0, none⟩)] 59)).frozen? ⟨p, 4, none⟩ = false := by
    rw [World.frozen?_of_block (w := w) (a := ⟨p, 4, none⟩) (Below.heap_alloc _ _ _ lp)]; exact hz
  go_wp2
  exact hK.out _ _ _ _ _ _ rfl
set_option maxHeartbeats 4000000 in
theorem z6 {p f : Nat} {v : Value} {c0 c1 c2 c3 c4 c5 c6 c7 c9 c11 c12 c13 c14 c15 c16 c17 c18 c19 c20 c21 c22 c23 c24 c25 c26 c27 c28 c29 c30 c31 c32 c33 c34 c35 c36 c37 c38 c39 c40 c41 c42 c43 c44 c45 c46 c47 c48 c49 c50 c51 c52 c53 c54 c55 c56 c57 c58 c59 c60 : Value} {Q : Exit → Act → World → Prop} {K : Act → World → Prop} {w : World} (hc : w.cell? ⟨p, 4, none⟩ = some v) (hz : w.frozen? ⟨p, 4, none⟩ = false)
    (hK : Hid (∀ (u40 u41 u42 u43 u44 : Value) (w' : World), w' = (w.setCell ⟨p, 4, none⟩ (.slice (some ⟨w.heap.size, 0, none⟩) 1 1)).alloc (.cells #[.pointer (some ⟨f, 0, none⟩)] 59) → K ⟨#[c0, c1, c2, c3, c4, c5, c6, c7, .pointer (some ⟨p, 0, none⟩), c9, .pointer (some ⟨f, 0, none⟩), c11, c12, c13, c14, c15, c16, c17, c18, c19, c20, c21, c22, c23, c24, c25, c26, c27, c28, c29, c30, c31, c32, c33, c34, c35, c36, c37, c38, c39, u40, u41, u42, u43, u44, c45, c46, c47, c48, c49, c50, c51, c52, c53, c54, c55, c56, c57, c58, c59, c60], []⟩ w')) :
    Code.wp Ybaf.prog (stmt 6 (Ybaf.f5.body.getD .skip)) (Exit.then K Q) ⟨#[c0, c1, c2, c3, c4, c5, c6, c7, .pointer (some ⟨p, 0, none⟩), c9, .pointer (some ⟨f, 0, none⟩), c11, c12, c13, c14, c15, c16, c17, c18, c19, c20, c21, c22, c23, c24, c25, c26, c27, c28, c29, c30, c31, c32, c33, c34, c35, c36, c37, c38, c39, c40, c41, c42, c43, c44, c45, c46, c47, c48, c49, c50, c51, c52, c53, c54, c55, c56, c57, c58, c59, c60], []⟩ w := by
  conv => arg 2; whnf
  have lp := World.block_lt_of_cell? _ _ hc
  have hc' := cell_alloc (.cells #[.pointer (some ⟨f, 0, none⟩)] 59) hc
  have hz' : (w.alloc (.cells #[.pointer (some ⟨f, 0, none⟩)] 59)).frozen? ⟨p, 4, none⟩ = false := by
    rw [World.frozen?_of_block (w := w) (a := ⟨p, 4, none⟩) (Below.heap_alloc _ _ _ lp)]; exact hz
  go_wp2
  exact hK.out _ _ _ _ _ _ rfl
theorem turned_chg {w w' : World} {b : Nat} (h : w.mapTurned w' b) : Chg (fun x => x = b) w w' ∧ w'.heap.size = w.heap.size := by
  have hg := h.grown
  refine ⟨⟨hg.os, hg.tape, hg.output, hg.size, fun g hl hS => hg.block g hl (fun e => hS (by cases e; rfl))⟩, ?_⟩
  obtain ⟨es, clock, es', clock', _, rfl⟩ := h
  simp [ChangeMaps.setBlock]
set_option maxHeartbeats 4000000 in
theorem z7 {gs a b f g : Nat} {c1 c2 c3 c4 c5 c6 c11 c12 c13 c14 c15 c16 c17 c18 c19 c20 c21 c22 c23 c24 c25 c26 c27 c28 c29 c30 c31 c32 c33 c34 c35 c36 c37 c38 c39 c40 c41 c42 c43 c44 c45 c46 c47 c48 c49 c50 c51 c52 c53 c54 c55 c56 c57 c58 c59 c60 : Value} {Q : Exit → Act → World → Prop} {K : Act → World → Prop} {w : World} 
    (hK : Hid (∀ (w6 : Nat) (u45 u46 u47 u48 u49 u50 u51 u52 u53 u54 u55 u56 u57 u58 u59 u60 : Value) (w' : World), w6 = w.heap.size + 4 ∧ w'.heap.size = w.heap.size + 5 ∧ Chg (fun _ => False) w w' ∧ At w' w.heap.size [.pointer (some ⟨f, 0, none⟩), .pointer (some ⟨g, 0, none⟩)] 59 ∧ At w' (w.heap.size + 1) [.pointer (some ⟨a, 0, none⟩), .pointer (some ⟨b, 0, none⟩)] 53 ∧ Names w' (w.heap.size + 2) a b ∧ w'.heap[w.heap.size + 3]? = some (.chan 0 #[] false 0 0 false) ∧ At w' (w.heap.size + 4) [.int .i64 64, .int .i64 (gs : Int), .slice (some ⟨w.heap.size, 0, none⟩) 2 2, .slice (some ⟨w.heap.size + 1, 0, none⟩) 2 2, .map (some (w.heap.size + 2)), .pointer (some ⟨a, 0, none⟩), .int .i32 0, .int .u32 0, .chan (some (w.heap.size + 3))] 74 → K ⟨#[.int .i64 (gs : Int), c1, c2, c3, c4, c5, .pointer (some ⟨w6, 0, none⟩), .pointer (some ⟨a, 0, none⟩), .pointer (some ⟨b, 0, none⟩), .pointer (some ⟨f, 0, none⟩), .pointer (some ⟨g, 0, none⟩), c11, c12, c13, c14, c15, c16, c17, c18, c19, c20, c21, c22, c23, c24, c25, c26, c27, c28, c29, c30, c31, c32, c33, c34, c35, c36, c37, c38, c39, c40, c41, c42, c43, c44, u45, u46, u47, u48, u49, u50, u51, u52, u53, u54, u55, u56, u57, u58, u59, u60], []⟩ w')) :
    Code.wp Ybaf.prog (stmt 7 (Ybaf.f5.body.getD .skip)) (Exit.then K Q) ⟨#[.int .i64 (gs : Int), c1, c2, c3, c4, c5, c6, .pointer (some ⟨a, 0, none⟩), .pointer (some ⟨b, 0, none⟩), .pointer (some ⟨f, 0, none⟩), .pointer (some ⟨g, 0, none⟩), c11, c12, c13, c14, c15, c16, c17, c18, c19, c20, c21, c22, c23, c24, c25, c26, c27, c28, c29, c30, c31, c32, c33, c34, c35, c36, c37, c38, c39, c40, c41, c42, c43, c44, c45, c46, c47, c48, c49, c50, c51, c52, c53, c54, c55, c56, c57, c58, c59, c60], []⟩ w := by
  conv => arg 2; whnf
  obtain ⟨w0, hw0⟩ : ∃ x, x = (w.alloc (.cells #[.pointer (some ⟨f, 0, none⟩), .pointer (some ⟨g, 0, none⟩)] 59)).alloc (.cells #[.pointer (some ⟨a, 0, none⟩), .pointer (some ⟨b, 0, none⟩)] 53) := ⟨_, rfl⟩
  have hs0 : w0.heap.size = w.heap.size + 2 := by rw [hw0]; simp
  obtain ⟨wm1, hrun1, hm1, hg1⟩ := World.ownsMap.store (World.ownsMap_made w0 Ybaf.prog 9 ptrElem) law9 Ybaf.underlying72 (by unfold maxLen; omega) keyA (val := .pointer (some ⟨a, 0, none⟩)) (d := .lit (.int .i64 (a : Int))) (ps := []) rfl
  obtain ⟨wm2, hrun2, hm2, hg2⟩ := World.ownsMap.store hm1 law9 Ybaf.underlying72 (by unfold maxLen; omega) keyB (val := .pointer (some ⟨b, 0, none⟩)) (d := .lit (.int .i64 (b : Int))) (ps := []) rfl
  obtain ⟨j, hj, hjb⟩ := Option.map_eq_some_iff.1 info25
  have hmc := fun w => Go.Conc.run_makeChan (P := Ybaf.prog) (w := w) Ybaf.underlying48 hj .i64 0 (by omega) (by rw [hjb]; omega)
  have hmm := @run_makeMap Ybaf.prog
  have hz7 : w0.heap.size = w.heap.size + 1 + 1 := by rw [hw0]; simp
  have e3 : ((0 : Nat) : Int) = 0 := rfl
  simp only [e3] at hmc
  rw [hz7] at hrun1 hrun2
  have HM := hid hm2
  obtain ⟨t1, t2⟩ := turned_chg hg1
  obtain ⟨t3, t4⟩ := turned_chg hg2
  have HC := hid (t1.trans t3)
  have hsz : wm2.heap.size = w.heap.size + 3 := by rw [t4, t2, World.size_alloc, hs0]
  have HSZ := hid hsz
  have HZ := hid hs0
  have HW := hid hw0
  subst hw0
  clear hm1 hm2 hg1 hg2 hj hjb hs0 hz7 e3 t1 t2 t3 t4 hsz
  go_wp2
  have z1 := HSZ.out
  have z2 := HZ.out
  have C0 : Chg (fun _ => False) w (((w.alloc (.cells #[.pointer (some ⟨f, 0, none⟩), .pointer (some ⟨g, 0, none⟩)] 59)).alloc (.cells #[.pointer (some ⟨a, 0, none⟩), .pointer (some ⟨b, 0, none⟩)] 53)).alloc (.map #[] 0)) := (((Chg.refl _ w).alloc _).alloc _).alloc _
  have HC1 := HC.out
  rw [z2] at HC1
  have C1 : Chg (fun _ => False) w wm2 := ((C0.mono (S' := fun x => x = w.heap.size + 2) fun _ _ h => h.elim).trans HC1).mono fun x hx e => by omega
  have a1 := (((at_new w [.pointer (some ⟨f, 0, none⟩), .pointer (some ⟨g, 0, none⟩)] 59).alloc (.cells #[.pointer (some ⟨a, 0, none⟩), .pointer (some ⟨b, 0, none⟩)] 53)).alloc (.map #[] 0)).chg HC1 (by omega)
  have a2 := ((at_new (w.alloc (.cells #[.pointer (some ⟨f, 0, none⟩), .pointer (some ⟨g, 0, none⟩)] 59)) [.pointer (some ⟨a, 0, none⟩), .pointer (some ⟨b, 0, none⟩)] 53).alloc (.map #[] 0)).chg HC1 (by simp)
  rw [World.size_alloc] at a2
  have hm := HM.out
  rw [z2] at hm
  have hn : Names wm2 (w.heap.size + 2) a b := hm
  rw [z1]
  refine hK.out (w.heap.size + 4) _ _ _ _ _ _ _ _ _ _ _ _ _ _ _ _ _ ⟨rfl, by simp [z1], (C1.alloc _).alloc _, (a1.alloc _).alloc _, (a2.alloc _).alloc _, hn.chg (((Chg.refl (fun _ => False) wm2).alloc _).alloc _) (fun h => h), ?_, ?_⟩
  · rw [Below.heap_alloc _ _ _ (by simp [z1])]
    have := heap_alloc_new wm2 (.chan 0 #[] false 0 0 false)
    rw [z1] at this; exact this
  · have := at_new (wm2.alloc (.chan 0 #[] false 0 0 false)) [.int .i64 64, .int .i64 (gs : Int), .slice (some ⟨w.heap.size, 0, none⟩) 2 2, .slice (some ⟨w.heap.size + 1, 0, none⟩) 2 2, .map (some (w.heap.size + 2)), .pointer (some ⟨a, 0, none⟩), .int .i32 0, .int .u32 0, .chan (some (w.heap.size + 3))] 74
    rw [World.size_alloc, z1] at this; exact this
end Go.Proofs.YbulkqwgFmt.sp
