import Derived.Test.YbulkqpuMem2
import Derived.Deep.RegionHeld3
import Derived.BigRegion
namespace Go.Proofs.Ybulkqpu.mv
open Go.RowKit
set_option linter.unusedVariables false
set_option maxRecDepth 1000000
set_option maxHeartbeats 1000000 in
theorem q0 {p fm to : Nat} {g1 g2 : Int} {c0 c2 c3 c4 c5 c6 c7 c8 c9 c10 c11 c12 c13 c14 c15 c16 c17 c18 c19 c20 c21 c22 c23 c24 c25 c26 c27 c28 c29 c30 c31 c32 c33 c34 c35 c36 c37 c38 c39 c40 c41 c42 c43 c44 c45 c46 c47 c48 c49 c50 c51 c52 c53 c54 c55 c56 c57 c58 c59 c60 c61 c62 c63 c64 c65 c66 c67 c68 c69 c70 c71 c72 c73 c74 c75 c76 c77 c78 c79 c80 c81 c82 c83 c84 c85 c86 c87 c88 c89 c90 c91 c92 c93 c94 c95 c96 c97 c98 c99 c100 c101 c102 c103 c104 c105 : Value} {Q : Exit → Act → World → Prop} {K : Act → World → Prop} {w : World} 
    (hK : Hid (∀ (w' : World), w' = w.alloc (.cells #[.int .i64 (p : Int), .int .i64 (fm : Int), .int .i64 (to : Int), .int .i64 g1, .int .i64 g2] 40) → K ⟨#[c0, .agg #[.int .i64 (p : Int), .int .i64 (fm : Int), .int .i64 (to : Int), .int .i64 g1, .int .i64 g2], c2, .pointer (some ⟨w.heap.size, 0, none⟩), c4, c5, c6, c7, c8, c9, c10, c11, c12, c13, c14, c15, c16, c17, c18, c19, c20, c21, c22, c23, c24, c25, c26, c27, c28, c29, c30, c31, c32, c33, c34, c35, c36, c37, c38, c39, c40, c41, c42, c43, c44, c45, c46, c47, c48, c49, c50, c51, c52, c53, c54, c55, c56, c57, c58, c59, c60, c61, c62, c63, c64, c65, c66, c67, c68, c69, c70, c71, c72, c73, c74, c75, c76, c77, c78, c79, c80, c81, c82, c83, c84, c85, c86, c87, c88, c89, c90, c91, c92, c93, c94, c95, c96, c97, c98, c99, c100, c101, c102, c103, c104, c105], []⟩ w')) :
    Code.wp Yba.prog (stmt 0 (Yba.f7.body.getD .skip)) (Exit.then K Q) ⟨#[c0, .agg #[.int .i64 (p : Int), .int .i64 (fm : Int), .int .i64 (to : Int), .int .i64 g1, .int .i64 g2], c2, c3, c4, c5, c6, c7, c8, c9, c10, c11, c12, c13, c14, c15, c16, c17, c18, c19, c20, c21, c22, c23, c24, c25, c26, c27, c28, c29, c30, c31, c32, c33, c34, c35, c36, c37, c38, c39, c40, c41, c42, c43, c44, c45, c46, c47, c48, c49, c50, c51, c52, c53, c54, c55, c56, c57, c58, c59, c60, c61, c62, c63, c64, c65, c66, c67, c68, c69, c70, c71, c72, c73, c74, c75, c76, c77, c78, c79, c80, c81, c82, c83, c84, c85, c86, c87, c88, c89, c90, c91, c92, c93, c94, c95, c96, c97, c98, c99, c100, c101, c102, c103, c104, c105], []⟩ w := by
  conv => arg 2; whnf
  go_wp2
  exact hK.out _ rfl
set_option maxHeartbeats 1000000 in
theorem q1 {base M np nb : Nat} {o : Bl} {ef : Nat → Nat} {ld us : Nat → Int} {F : Nat → Value} {xs : Nat → List Nat} {MB p fm to : Nat} {c1 c2 c4 c5 c6 c7 c8 c9 c10 c11 c12 c13 c14 c15 c16 c17 c18 c19 c20 c21 c22 c23 c24 c25 c26 c27 c28 c29 c30 c31 c32 c33 c34 c35 c36 c37 c38 c39 c40 c41 c42 c43 c44 c45 c46 c47 c48 c49 c50 c51 c52 c53 c54 c55 c56 c57 c58 c59 c60 c61 c62 c63 c64 c65 c66 c67 c68 c69 c70 c71 c72 c73 c74 c75 c76 c77 c78 c79 c80 c81 c82 c83 c84 c85 c86 c87 c88 c89 c90 c91 c92 c93 c94 c95 c96 c97 c98 c99 c100 c101 c102 c103 c104 c105 : Value} {Q : Exit → Act → World → Prop} {K : Act → World → Prop} {w : World} (hp : p < np) (hfm : fm < nb) (hto : to < nb) (hnp : np ≤ 1024) (hnb : nb ≤ 8) (hMB : M ≤ MB) (hv : MvAt MB p fm to w) (hm : Mem base M np nb o ef ld us F xs w)
    (hK : Hid (∀ (u8 u9 u10 u11 u12 u13 u14 u15 : Value) (w' : World), w' = w.drew → K ⟨#[.pointer (some ⟨o.B, 0, none⟩), c1, c2, .pointer (some ⟨MB, 0, none⟩), .int .i64 (ld p), c5, c6, c7, u8, u9, u10, u11, u12, u13, u14, u15, c16, c17, c18, c19, c20, c21, c22, c23, c24, c25, c26, c27, c28, c29, c30, c31, c32, c33, c34, c35, c36, c37, c38, c39, c40, c41, c42, c43, c44, c45, c46, c47, c48, c49, c50, c51, c52, c53, c54, c55, c56, c57, c58, c59, c60, c61, c62, c63, c64, c65, c66, c67, c68, c69, c70, c71, c72, c73, c74, c75, c76, c77, c78, c79, c80, c81, c82, c83, c84, c85, c86, c87, c88, c89, c90, c91, c92, c93, c94, c95, c96, c97, c98, c99, c100, c101, c102, c103, c104, c105], []⟩ w')) :
    Code.wp Yba.prog (stmt 1 (Yba.f7.body.getD .skip)) (Exit.then K Q) ⟨#[.pointer (some ⟨o.B, 0, none⟩), c1, c2, .pointer (some ⟨MB, 0, none⟩), c4, c5, c6, c7, c8, c9, c10, c11, c12, c13, c14, c15, c16, c17, c18, c19, c20, c21, c22, c23, c24, c25, c26, c27, c28, c29, c30, c31, c32, c33, c34, c35, c36, c37, c38, c39, c40, c41, c42, c43, c44, c45, c46, c47, c48, c49, c50, c51, c52, c53, c54, c55, c56, c57, c58, c59, c60, c61, c62, c63, c64, c65, c66, c67, c68, c69, c70, c71, c72, c73, c74, c75, c76, c77, c78, c79, c80, c81, c82, c83, c84, c85, c86, c87, c88, c89, c90, c91, c92, c93, c94, c95, c96, c97, c98, c99, c100, c101, c102, c103, c104, c105], []⟩ w := by
  conv => arg 2; whnf
  obtain ⟨v0, v1, v2⟩ := hv
  have z1 : (0 : Int) ≤ (p : Int) := Int.natCast_nonneg _
  have z2 : (p : Int) < (np : Int) := by omega
  have z3 : (0 : Int) ≤ (fm : Int) := Int.natCast_nonneg _
  have z4 : (fm : Int) < (nb : Int) := by omega
  have z5 : (0 : Int) ≤ (to : Int) := Int.natCast_nonneg _
  have z6 : (to : Int) < (nb : Int) := by omega
  have k1 := hm.b4
  have k2 := hm.hL.cell (rm_get _ np p (by omega))
  clear hm
  refine wp_region_noPanic ?_
  go_region_held3 (fun w' => w'.cell? ⟨o.B, 4, none⟩ = some (.slice (some ⟨o.L, 0, none⟩) np np) ∧ w'.cell? ⟨MB, 0, none⟩ = some (.int .i64 (p : Int)) ∧ w'.cell? ⟨o.L, p, none⟩ = some (.int .i64 (ld p))) (go_keep) (fail)
  refine NoPanic.normal ?_
  exact hK.out _ _ _ _ _ _ _ _ _ rfl
set_option maxHeartbeats 1000000 in
theorem q4 {base M np nb : Nat} {o : Bl} {ef : Nat → Nat} {ld us : Nat → Int} {F : Nat → Value} {xs : Nat → List Nat} {MB p fm to : Nat} {c1 c2 c4 c5 c6 c7 c8 c9 c10 c11 c12 c13 c14 c15 c16 c17 c18 c19 c20 c21 c22 c23 c24 c25 c26 c27 c28 c29 c30 c31 c32 c33 c34 c35 c36 c37 c38 c39 c40 c41 c42 c43 c44 c45 c46 c47 c48 c49 c50 c51 c52 c53 c54 c55 c56 c57 c58 c59 c60 c61 c62 c63 c64 c65 c66 c67 c68 c69 c70 c71 c72 c73 c74 c75 c76 c77 c78 c79 c80 c81 c82 c83 c84 c85 c86 c87 c88 c89 c90 c91 c92 c93 c94 c95 c96 c97 c98 c99 c100 c101 c102 c103 c104 c105 : Value} {Q : Exit → Act → World → Prop} {K : Act → World → Prop} {w : World} (hp : p < np) (hfm : fm < nb) (hto : to < nb) (hnp : np ≤ 1024) (hnb : nb ≤ 8) (hMB : M ≤ MB) (hv : MvAt MB p fm to w) (hm : Mem base M np nb o ef ld us F xs w)
    (hK : Hid (∀ (u38 u39 u40 u41 u42 u43 u44 u45 : Value) (w' : World), w' = w.drew → K ⟨#[.pointer (some ⟨o.B, 0, none⟩), c1, c2, .pointer (some ⟨MB, 0, none⟩), c4, F p, c6, c7, c8, c9, c10, c11, c12, c13, c14, c15, c16, c17, c18, c19, c20, c21, c22, c23, c24, c25, c26, c27, c28, c29, c30, c31, c32, c33, c34, c35, c36, c37, u38, u39, u40, u41, u42, u43, u44, u45, c46, c47, c48, c49, c50, c51, c52, c53, c54, c55, c56, c57, c58, c59, c60, c61, c62, c63, c64, c65, c66, c67, c68, c69, c70, c71, c72, c73, c74, c75, c76, c77, c78, c79, c80, c81, c82, c83, c84, c85, c86, c87, c88, c89, c90, c91, c92, c93, c94, c95, c96, c97, c98, c99, c100, c101, c102, c103, c104, c105], []⟩ w')) :
    Code.wp Yba.prog (stmt 4 (Yba.f7.body.getD .skip)) (Exit.then K Q) ⟨#[.pointer (some ⟨o.B, 0, none⟩), c1, c2, .pointer (some ⟨MB, 0, none⟩), c4, c5, c6, c7, c8, c9, c10, c11, c12, c13, c14, c15, c16, c17, c18, c19, c20, c21, c22, c23, c24, c25, c26, c27, c28, c29, c30, c31, c32, c33, c34, c35, c36, c37, c38, c39, c40, c41, c42, c43, c44, c45, c46, c47, c48, c49, c50, c51, c52, c53, c54, c55, c56, c57, c58, c59, c60, c61, c62, c63, c64, c65, c66, c67, c68, c69, c70, c71, c72, c73, c74, c75, c76, c77, c78, c79, c80, c81, c82, c83, c84, c85, c86, c87, c88, c89, c90, c91, c92, c93, c94, c95, c96, c97, c98, c99, c100, c101, c102, c103, c104, c105], []⟩ w := by
  conv => arg 2; whnf
  obtain ⟨v0, v1, v2⟩ := hv
  have z1 : (0 : Int) ≤ (p : Int) := Int.natCast_nonneg _
  have z2 : (p : Int) < (np : Int) := by omega
  have z3 : (0 : Int) ≤ (fm : Int) := Int.natCast_nonneg _
  have z4 : (fm : Int) < (nb : Int) := by omega
  have z5 : (0 : Int) ≤ (to : Int) := Int.natCast_nonneg _
  have z6 : (to : Int) < (nb : Int) := by omega
  have k1 := hm.b5
  have k2 := hm.hR.cell (rm_get _ np p (by omega))
  clear hm
  refine wp_region_noPanic ?_
  go_region_held3 (fun w' => w'.cell? ⟨o.B, 5, none⟩ = some (.slice (some ⟨o.R, 0, none⟩) np np) ∧ w'.cell? ⟨MB, 0, none⟩ = some (.int .i64 (p : Int)) ∧ w'.cell? ⟨o.R, p, none⟩ = some (F p)) (go_keep) (fail)
  refine NoPanic.normal ?_
  exact hK.out _ _ _ _ _ _ _ _ _ rfl
set_option maxHeartbeats 1000000 in
theorem q6 {base M np nb : Nat} {o : Bl} {ef : Nat → Nat} {ld us : Nat → Int} {F : Nat → Value} {xs : Nat → List Nat} {MB p fm to : Nat} {c1 c2 c4 c5 c6 c7 c8 c9 c10 c11 c12 c13 c14 c15 c16 c17 c18 c19 c20 c21 c22 c23 c24 c25 c26 c27 c28 c29 c30 c31 c32 c33 c34 c35 c36 c37 c38 c39 c40 c41 c42 c43 c44 c45 c46 c47 c48 c49 c50 c51 c52 c53 c54 c55 c56 c57 c58 c59 c60 c61 c62 c63 c64 c65 c66 c67 c68 c69 c70 c71 c72 c73 c74 c75 c76 c77 c78 c79 c80 c81 c82 c83 c84 c85 c86 c87 c88 c89 c90 c91 c92 c93 c94 c95 c96 c97 c98 c99 c100 c101 c102 c103 c104 c105 : Value} {Q : Exit → Act → World → Prop} {K : Act → World → Prop} {w : World} (hp : p < np) (hfm : fm < nb) (hto : to < nb) (hnp : np ≤ 1024) (hnb : nb ≤ 8) (hMB : M ≤ MB) (hv : MvAt MB p fm to w) (hm : Mem base M np nb o ef ld us F xs w)
    (hK : Hid (∀ (u54 u55 u56 u57 u58 u59 u60 u61 : Value) (w' : World), w' = w.drew → K ⟨#[.pointer (some ⟨o.B, 0, none⟩), c1, c2, .pointer (some ⟨MB, 0, none⟩), c4, c5, F (np + fm), c7, c8, c9, c10, c11, c12, c13, c14, c15, c16, c17, c18, c19, c20, c21, c22, c23, c24, c25, c26, c27, c28, c29, c30, c31, c32, c33, c34, c35, c36, c37, c38, c39, c40, c41, c42, c43, c44, c45, c46, c47, c48, c49, c50, c51, c52, c53, u54, u55, u56, u57, u58, u59, u60, u61, c62, c63, c64, c65, c66, c67, c68, c69, c70, c71, c72, c73, c74, c75, c76, c77, c78, c79, c80, c81, c82, c83, c84, c85, c86, c87, c88, c89, c90, c91, c92, c93, c94, c95, c96, c97, c98, c99, c100, c101, c102, c103, c104, c105], []⟩ w')) :
    Code.wp Yba.prog (stmt 6 (Yba.f7.body.getD .skip)) (Exit.then K Q) ⟨#[.pointer (some ⟨o.B, 0, none⟩), c1, c2, .pointer (some ⟨MB, 0, none⟩), c4, c5, c6, c7, c8, c9, c10, c11, c12, c13, c14, c15, c16, c17, c18, c19, c20, c21, c22, c23, c24, c25, c26, c27, c28, c29, c30, c31, c32, c33, c34, c35, c36, c37, c38, c39, c40, c41, c42, c43, c44, c45, c46, c47, c48, c49, c50, c51, c52, c53, c54, c55, c56, c57, c58, c59, c60, c61, c62, c63, c64, c65, c66, c67, c68, c69, c70, c71, c72, c73, c74, c75, c76, c77, c78, c79, c80, c81, c82, c83, c84, c85, c86, c87, c88, c89, c90, c91, c92, c93, c94, c95, c96, c97, c98, c99, c100, c101, c102, c103, c104, c105], []⟩ w := by
  conv => arg 2; whnf
  obtain ⟨v0, v1, v2⟩ := hv
  have z1 : (0 : Int) ≤ (p : Int) := Int.natCast_nonneg _
  have z2 : (p : Int) < (np : Int) := by omega
  have z3 : (0 : Int) ≤ (fm : Int) := Int.natCast_nonneg _
  have z4 : (fm : Int) < (nb : Int) := by omega
  have z5 : (0 : Int) ≤ (to : Int) := Int.natCast_nonneg _
  have z6 : (to : Int) < (nb : Int) := by omega
  have k1 := hm.b6
  have k2 := hm.hH.cell (rm_get _ nb fm (by omega))
  clear hm
  refine wp_region_noPanic ?_
  go_region_held3 (fun w' => w'.cell? ⟨o.B, 6, none⟩ = some (.slice (some ⟨o.H, 0, none⟩) nb nb) ∧ w'.cell? ⟨MB, 1, none⟩ = some (.int .i64 (fm : Int)) ∧ w'.cell? ⟨o.H, fm, none⟩ = some (F (np + fm))) (go_keep) (fail)
  refine NoPanic.normal ?_
  exact hK.out _ _ _ _ _ _ _ _ _ rfl
set_option maxHeartbeats 4000000 in
theorem q2 {base M np nb : Nat} {o : Bl} {ef : Nat → Nat} {ld us : Nat → Int} {F : Nat → Value} {xs : Nat → List Nat} {MB p fm to : Nat} {lv : Int} {c1 c2 c5 c6 c7 c8 c9 c10 c11 c12 c13 c14 c15 c16 c17 c18 c19 c20 c21 c22 c23 c24 c25 c26 c27 c28 c29 c30 c31 c32 c33 c34 c35 c36 c37 c38 c39 c40 c41 c42 c43 c44 c45 c46 c47 c48 c49 c50 c51 c52 c53 c54 c55 c56 c57 c58 c59 c60 c61 c62 c63 c64 c65 c66 c67 c68 c69 c70 c71 c72 c73 c74 c75 c76 c77 c78 c79 c80 c81 c82 c83 c84 c85 c86 c87 c88 c89 c90 c91 c92 c93 c94 c95 c96 c97 c98 c99 c100 c101 c102 c103 c104 c105 : Value} {Q : Exit → Act → World → Prop} {K : Act → World → Prop} {w : World} (hp : p < np) (hfm : fm < nb) (hto : to < nb) (hnp : np ≤ 1024) (hnb : nb ≤ 8) (hMB : M ≤ MB) (hv : MvAt MB p fm to w) (hm : Mem base M np nb o ef ld us F xs w)
    (hK : Hid (∀ (u16 u17 u18 u19 u20 u21 u22 u23 u24 u25 u26 : Value) (w' : World), Mem base M np nb o ef ld (upd us fm (IntKind.i64.wrap (us fm - lv))) F xs w' ∧ Ch base M w w' → K ⟨#[.pointer (some ⟨o.B, 0, none⟩), c1, c2, .pointer (some ⟨MB, 0, none⟩), .int .i64 lv, c5, c6, c7, c8, c9, c10, c11, c12, c13, c14, c15, u16, u17, u18, u19, u20, u21, u22, u23, u24, u25, u26, c27, c28, c29, c30, c31, c32, c33, c34, c35, c36, c37, c38, c39, c40, c41, c42, c43, c44, c45, c46, c47, c48, c49, c50, c51, c52, c53, c54, c55, c56, c57, c58, c59, c60, c61, c62, c63, c64, c65, c66, c67, c68, c69, c70, c71, c72, c73, c74, c75, c76, c77, c78, c79, c80, c81, c82, c83, c84, c85, c86, c87, c88, c89, c90, c91, c92, c93, c94, c95, c96, c97, c98, c99, c100, c101, c102, c103, c104, c105], []⟩ w')) :
    Code.wp Yba.prog (stmt 2 (Yba.f7.body.getD .skip)) (Exit.then K Q) ⟨#[.pointer (some ⟨o.B, 0, none⟩), c1, c2, .pointer (some ⟨MB, 0, none⟩), .int .i64 lv, c5, c6, c7, c8, c9, c10, c11, c12, c13, c14, c15, c16, c17, c18, c19, c20, c21, c22, c23, c24, c25, c26, c27, c28, c29, c30, c31, c32, c33, c34, c35, c36, c37, c38, c39, c40, c41, c42, c43, c44, c45, c46, c47, c48, c49, c50, c51, c52, c53, c54, c55, c56, c57, c58, c59, c60, c61, c62, c63, c64, c65, c66, c67, c68, c69, c70, c71, c72, c73, c74, c75, c76, c77, c78, c79, c80, c81, c82, c83, c84, c85, c86, c87, c88, c89, c90, c91, c92, c93, c94, c95, c96, c97, c98, c99, c100, c101, c102, c103, c104, c105], []⟩ w := by
  conv => arg 2; whnf
  obtain ⟨v0, v1, v2⟩ := hv
  have z1 : (0 : Int) ≤ (p : Int) := Int.natCast_nonneg _
  have z2 : (p : Int) < (np : Int) := by omega
  have z3 : (0 : Int) ≤ (fm : Int) := Int.natCast_nonneg _
  have z4 : (fm : Int) < (nb : Int) := by omega
  have z5 : (0 : Int) ≤ (to : Int) := Int.natCast_nonneg _
  have z6 : (to : Int) < (nb : Int) := by omega
  have k1 := hm.b7
  have k2 := hm.hU.cell (rm_get _ nb fm (by omega))
  have k3 := hm.hU.frozen fm
  have HM : Hid (Mem base M np nb o ef ld us F xs w) := hm
  clear hm
  refine wp_region_noPanic ?_
  go_region
  all_goals
    refine NoPanic.normal ?_
    exact hK.out _ _ _ _ _ _ _ _ _ _ _ _ ⟨(HM.out.setU fm (IntKind.i64.wrap (us fm - lv))).draw, (Ch.setCell HM.out.lo.2.2.2.2.2 HM.out.hi.2.2.2.2.2 _).drew⟩
set_option maxHeartbeats 4000000 in
theorem q3 {base M np nb : Nat} {o : Bl} {ef : Nat → Nat} {ld us : Nat → Int} {F : Nat → Value} {xs : Nat → List Nat} {MB p fm to : Nat} {lv : Int} {c1 c2 c5 c6 c7 c8 c9 c10 c11 c12 c13 c14 c15 c16 c17 c18 c19 c20 c21 c22 c23 c24 c25 c26 c27 c28 c29 c30 c31 c32 c33 c34 c35 c36 c37 c38 c39 c40 c41 c42 c43 c44 c45 c46 c47 c48 c49 c50 c51 c52 c53 c54 c55 c56 c57 c58 c59 c60 c61 c62 c63 c64 c65 c66 c67 c68 c69 c70 c71 c72 c73 c74 c75 c76 c77 c78 c79 c80 c81 c82 c83 c84 c85 c86 c87 c88 c89 c90 c91 c92 c93 c94 c95 c96 c97 c98 c99 c100 c101 c102 c103 c104 c105 : Value} {Q : Exit → Act → World → Prop} {K : Act → World → Prop} {w : World} (hp : p < np) (hfm : fm < nb) (hto : to < nb) (hnp : np ≤ 1024) (hnb : nb ≤ 8) (hMB : M ≤ MB) (hv : MvAt MB p fm to w) (hm : Mem base M np nb o ef ld us F xs w)
    (hK : Hid (∀ (u27 u28 u29 u30 u31 u32 u33 u34 u35 u36 u37 : Value) (w' : World), Mem base M np nb o ef ld (upd us to (IntKind.i64.wrap (us to + lv))) F xs w' ∧ Ch base M w w' → K ⟨#[.pointer (some ⟨o.B, 0, none⟩), c1, c2, .pointer (some ⟨MB, 0, none⟩), .int .i64 lv, c5, c6, c7, c8, c9, c10, c11, c12, c13, c14, c15, c16, c17, c18, c19, c20, c21, c22, c23, c24, c25, c26, u27, u28, u29, u30, u31, u32, u33, u34, u35, u36, u37, c38, c39, c40, c41, c42, c43, c44, c45, c46, c47, c48, c49, c50, c51, c52, c53, c54, c55, c56, c57, c58, c59, c60, c61, c62, c63, c64, c65, c66, c67, c68, c69, c70, c71, c72, c73, c74, c75, c76, c77, c78, c79, c80, c81, c82, c83, c84, c85, c86, c87, c88, c89, c90, c91, c92, c93, c94, c95, c96, c97, c98, c99, c100, c101, c102, c103, c104, c105], []⟩ w')) :
    Code.wp Yba.prog (stmt 3 (Yba.f7.body.getD .skip)) (Exit.then K Q) ⟨#[.pointer (some ⟨o.B, 0, none⟩), c1, c2, .pointer (some ⟨MB, 0, none⟩), .int .i64 lv, c5, c6, c7, c8, c9, c10, c11, c12, c13, c14, c15, c16, c17, c18, c19, c20, c21, c22, c23, c24, c25, c26, c27, c28, c29, c30, c31, c32, c33, c34, c35, c36, c37, c38, c39, c40, c41, c42, c43, c44, c45, c46, c47, c48, c49, c50, c51, c52, c53, c54, c55, c56, c57, c58, c59, c60, c61, c62, c63, c64, c65, c66, c67, c68, c69, c70, c71, c72, c73, c74, c75, c76, c77, c78, c79, c80, c81, c82, c83, c84, c85, c86, c87, c88, c89, c90, c91, c92, c93, c94, c95, c96, c97, c98, c99, c100, c101, c102, c103, c104, c105], []⟩ w := by
  conv => arg 2; whnf
  obtain ⟨v0, v1, v2⟩ := hv
  have z1 : (0 : Int) ≤ (p : Int) := Int.natCast_nonneg _
  have z2 : (p : Int) < (np : Int) := by omega
  have z3 : (0 : Int) ≤ (fm : Int) := Int.natCast_nonneg _
  have z4 : (fm : Int) < (nb : Int) := by omega
  have z5 : (0 : Int) ≤ (to : Int) := Int.natCast_nonneg _
  have z6 : (to : Int) < (nb : Int) := by omega
  have k1 := hm.b7
  have k2 := hm.hU.cell (rm_get _ nb to (by omega))
  have k3 := hm.hU.frozen to
  have HM : Hid (Mem base M np nb o ef ld us F xs w) := hm
  clear hm
  refine wp_region_noPanic ?_
  go_region
  all_goals
    refine NoPanic.normal ?_
    exact hK.out _ _ _ _ _ _ _ _ _ _ _ _ ⟨(HM.out.setU to (IntKind.i64.wrap (us to + lv))).draw, (Ch.setCell HM.out.lo.2.2.2.2.2 HM.out.hi.2.2.2.2.2 _).drew⟩
set_option maxHeartbeats 1000000 in
theorem q5 {base M np nb : Nat} {o : Bl} {ef : Nat → Nat} {ld us : Nat → Int} {F : Nat → Value} {xs : Nat → List Nat} {MB p fm to : Nat} {g n cap kf : Nat} {c0 c1 c2 c4 c6 c7 c8 c9 c10 c11 c12 c13 c14 c15 c16 c17 c18 c19 c20 c21 c22 c23 c24 c25 c26 c27 c28 c29 c30 c31 c32 c33 c34 c35 c36 c37 c38 c39 c40 c41 c42 c43 c44 c45 c46 c47 c48 c49 c50 c51 c52 c53 c54 c55 c56 c57 c58 c59 c60 c61 c62 c63 c64 c65 c66 c67 c68 c69 c70 c71 c72 c73 c74 c75 c76 c77 c78 c79 c80 c81 c82 c83 c84 c85 c86 c87 c88 c89 c90 c91 c92 c93 c94 c95 c96 c97 c98 c99 c100 c101 c102 c103 c104 c105 : Value} {Q : Exit → Act → World → Prop} {K : Act → World → Prop} {w : World} (hp : p < np) (hfm : fm < nb) (hto : to < nb) (hnp : np ≤ 1024) (hnb : nb ≤ 8) (hMB : M ≤ MB) (hv : MvAt MB p fm to w) (hm : Mem base M np nb o ef ld us F xs w) (hF : F p = .slice (some ⟨g, 0, none⟩) n cap) (hkf : (xs p)[kf]? = some fm) (hne : ∀ j, j < kf → (xs p)[j]? ≠ some fm) (hl : (xs p).length ≤ 2000)
    (hK : Hid (∀ (u46 u47 u48 u49 u50 u51 u52 u53 : Value) (w' : World), Mem base M np nb o ef ld us F (upd xs p ((xs p).set kf to)) w' ∧ Ch base M w w' → K ⟨#[c0, c1, c2, .pointer (some ⟨MB, 0, none⟩), c4, .slice (some ⟨g, 0, none⟩) n cap, c6, c7, c8, c9, c10, c11, c12, c13, c14, c15, c16, c17, c18, c19, c20, c21, c22, c23, c24, c25, c26, c27, c28, c29, c30, c31, c32, c33, c34, c35, c36, c37, c38, c39, c40, c41, c42, c43, c44, c45, u46, u47, u48, u49, u50, u51, u52, u53, c54, c55, c56, c57, c58, c59, c60, c61, c62, c63, c64, c65, c66, c67, c68, c69, c70, c71, c72, c73, c74, c75, c76, c77, c78, c79, c80, c81, c82, c83, c84, c85, c86, c87, c88, c89, c90, c91, c92, c93, c94, c95, c96, c97, c98, c99, c100, c101, c102, c103, c104, c105], []⟩ w')) :
    Code.wp Yba.prog (stmt 5 (Yba.f7.body.getD .skip)) (Exit.then K Q) ⟨#[c0, c1, c2, .pointer (some ⟨MB, 0, none⟩), c4, .slice (some ⟨g, 0, none⟩) n cap, c6, c7, c8, c9, c10, c11, c12, c13, c14, c15, c16, c17, c18, c19, c20, c21, c22, c23, c24, c25, c26, c27, c28, c29, c30, c31, c32, c33, c34, c35, c36, c37, c38, c39, c40, c41, c42, c43, c44, c45, c46, c47, c48, c49, c50, c51, c52, c53, c54, c55, c56, c57, c58, c59, c60, c61, c62, c63, c64, c65, c66, c67, c68, c69, c70, c71, c72, c73, c74, c75, c76, c77, c78, c79, c80, c81, c82, c83, c84, c85, c86, c87, c88, c89, c90, c91, c92, c93, c94, c95, c96, c97, c98, c99, c100, c101, c102, c103, c104, c105], []⟩ w := by
  conv => arg 2; whnf
  obtain ⟨v0, v1, v2⟩ := hv
  have z1 : (0 : Int) ≤ (p : Int) := Int.natCast_nonneg _
  have z2 : (p : Int) < (np : Int) := by omega
  have z3 : (0 : Int) ≤ (fm : Int) := Int.natCast_nonneg _
  have z4 : (fm : Int) < (nb : Int) := by omega
  have z5 : (0 : Int) ≤ (to : Int) := Int.natCast_nonneg _
  have z6 : (to : Int) < (nb : Int) := by omega
  have hj : p < np + nb := by omega
  have hrow := hm.rows p hj
  rw [hF] at hrow
  have hn : n = (xs p).length := by
    rcases hrow.2 with ⟨e, _⟩ | ⟨g', cap', cur, e, _⟩
    · cases e
    · cases e; rfl
  subst hn
  have hkl : kf < (xs p).length := (List.getElem?_eq_some_iff.1 hkf).1
  have c1 : w.cell? ⟨g, kf, none⟩ = some (.int .i64 (fm : Int)) := owns_cell hrow hkf
  have c2 := hrow.frozenAt kf
  have hidx : ∀ w2 : World, w2 = w.drew → Calls Yba.prog 12 #[.slice (some ⟨g, 0, none⟩) (xs p).length cap, .int .i64 (fm : Int)] w2 fun e w' => e = .returned (.int .i64 (kf : Int)) ∧ w' = w2 := fun w2 e => by
    subst e; exact index12 (w := w.drew) hrow hl hkf hne
  have HI : Hid (∀ w2 : World, w2 = w.drew → Calls Yba.prog 12 #[.slice (some ⟨g, 0, none⟩) (xs p).length cap, .int .i64 (fm : Int)] w2 fun e w' => e = .returned (.int .i64 (kf : Int)) ∧ w' = w2) := hidx
  have gMB : MB ≠ g := by
    have := (hm.off p g hj (by rw [hF]; rfl)).2.2.2.2.2.2
    omega
  have z7 : (0 : Int) ≤ (kf : Int) := Int.natCast_nonneg _
  have z8 : (kf : Int) < ((xs p).length : Int) := by omega
  have HM : Hid (Mem base M np nb o ef ld us F xs w) := hm
  have HF : Hid (F p = .slice (some ⟨g, 0, none⟩) (xs p).length cap) := hF
  have HK1 := hid hkf
  clear hm hrow hF hidx hkf hne
  refine wp_region_noPanic ?_
  go_region_held3 (fun w' => w'.cell? ⟨MB, 1, none⟩ = some (.int .i64 (fm : Int)) ∧ w'.cell? ⟨MB, 2, none⟩ = some (.int .i64 (to : Int)))
    (first | exact ⟨cell_set_ne v1 gMB, cell_set_ne v2 gMB⟩ | go_keep)
    ((go_at_call 12; refine (HI.out _ rfl).mono ?_; rintro e w' ⟨rfl, rfl⟩))
  all_goals
    refine NoPanic.normal ?_
    obtain ⟨q1, q2, q3⟩ := HM.out.rowSet (k := kf) (x := to) hj HF.out
    exact hK.out _ _ _ _ _ _ _ _ _ ⟨q1.draw, (Ch.setCell q2 q3 _).drew⟩
set_option maxHeartbeats 1000000 in
theorem q7 {base M np nb : Nat} {o : Bl} {ef : Nat → Nat} {ld us : Nat → Int} {F : Nat → Value} {xs : Nat → List Nat} {MB p fm to : Nat} {g n cap kp : Nat} {c0 c1 c2 c4 c5 c7 c8 c9 c10 c11 c12 c13 c14 c15 c16 c17 c18 c19 c20 c21 c22 c23 c24 c25 c26 c27 c28 c29 c30 c31 c32 c33 c34 c35 c36 c37 c38 c39 c40 c41 c42 c43 c44 c45 c46 c47 c48 c49 c50 c51 c52 c53 c54 c55 c56 c57 c58 c59 c60 c61 c62 c63 c64 c65 c66 c67 c68 c69 c70 c71 c72 c73 c74 c75 c76 c77 c78 c79 c80 c81 c82 c83 c84 c85 c86 c87 c88 c89 c90 c91 c92 c93 c94 c95 c96 c97 c98 c99 c100 c101 c102 c103 c104 c105 : Value} {Q : Exit → Act → World → Prop} {K : Act → World → Prop} {w : World} (hp : p < np) (hfm : fm < nb) (hto : to < nb) (hnp : np ≤ 1024) (hnb : nb ≤ 8) (hMB : M ≤ MB) (hv : MvAt MB p fm to w) (hm : Mem base M np nb o ef ld us F xs w) (hF : F (np + fm) = .slice (some ⟨g, 0, none⟩) n cap) (hkf : (xs (np + fm))[kp]? = some p) (hne : ∀ j, j < kp → (xs (np + fm))[j]? ≠ some p) (hl : (xs (np + fm)).length ≤ 2000)
    (hK : Hid (∀ (u62 u63 u64 u65 : Value) (w' : World), w' = w → K ⟨#[c0, c1, c2, .pointer (some ⟨MB, 0, none⟩), c4, c5, .slice (some ⟨g, 0, none⟩) n cap, .int .i64 (kp : Int), c8, c9, c10, c11, c12, c13, c14, c15, c16, c17, c18, c19, c20, c21, c22, c23, c24, c25, c26, c27, c28, c29, c30, c31, c32, c33, c34, c35, c36, c37, c38, c39, c40, c41, c42, c43, c44, c45, c46, c47, c48, c49, c50, c51, c52, c53, c54, c55, c56, c57, c58, c59, c60, c61, u62, u63, u64, u65, c66, c67, c68, c69, c70, c71, c72, c73, c74, c75, c76, c77, c78, c79, c80, c81, c82, c83, c84, c85, c86, c87, c88, c89, c90, c91, c92, c93, c94, c95, c96, c97, c98, c99, c100, c101, c102, c103, c104, c105], []⟩ w')) :
    Code.wp Yba.prog (stmt 7 (Yba.f7.body.getD .skip)) (Exit.then K Q) ⟨#[c0, c1, c2, .pointer (some ⟨MB, 0, none⟩), c4, c5, .slice (some ⟨g, 0, none⟩) n cap, c7, c8, c9, c10, c11, c12, c13, c14, c15, c16, c17, c18, c19, c20, c21, c22, c23, c24, c25, c26, c27, c28, c29, c30, c31, c32, c33, c34, c35, c36, c37, c38, c39, c40, c41, c42, c43, c44, c45, c46, c47, c48, c49, c50, c51, c52, c53, c54, c55, c56, c57, c58, c59, c60, c61, c62, c63, c64, c65, c66, c67, c68, c69, c70, c71, c72, c73, c74, c75, c76, c77, c78, c79, c80, c81, c82, c83, c84, c85, c86, c87, c88, c89, c90, c91, c92, c93, c94, c95, c96, c97, c98, c99, c100, c101, c102, c103, c104, c105], []⟩ w := by
  conv => arg 2; whnf
  obtain ⟨v0, v1, v2⟩ := hv
  have z1 : (0 : Int) ≤ (p : Int) := Int.natCast_nonneg _
  have z2 : (p : Int) < (np : Int) := by omega
  have z3 : (0 : Int) ≤ (fm : Int) := Int.natCast_nonneg _
  have z4 : (fm : Int) < (nb : Int) := by omega
  have z5 : (0 : Int) ≤ (to : Int) := Int.natCast_nonneg _
  have z6 : (to : Int) < (nb : Int) := by omega
  have hj : np + fm < np + nb := by omega
  have hrow := hm.rows (np + fm) hj
  rw [hF] at hrow
  have hn : n = (xs (np + fm)).length := by
    rcases hrow.2 with ⟨e, _⟩ | ⟨g', cap', cur, e, _⟩
    · cases e
    · cases e; rfl
  subst hn
  have HI : Hid (Calls Yba.prog 12 #[.slice (some ⟨g, 0, none⟩) (xs (np + fm)).length cap, .int .i64 (p : Int)] w fun e w' => e = .returned (.int .i64 (kp : Int)) ∧ w' = w) := index12 hrow hl hkf hne
  clear hm hrow hF hkf hne
  go_wp2_with fail
  refine HI.out.mono ?_
  rintro e w' ⟨rfl, rfl⟩
  go_wp2
  exact hK.out _ _ _ _ _ rfl
set_option maxHeartbeats 1000000 in
theorem q8 {base M np nb : Nat} {o : Bl} {ef : Nat → Nat} {ld us : Nat → Int} {F : Nat → Value} {xs : Nat → List Nat} {MB p fm to : Nat} {g n cap kp y : Nat} {c0 c1 c2 c3 c4 c5 c8 c9 c10 c11 c12 c13 c14 c15 c16 c17 c18 c19 c20 c21 c22 c23 c24 c25 c26 c27 c28 c29 c30 c31 c32 c33 c34 c35 c36 c37 c38 c39 c40 c41 c42 c43 c44 c45 c46 c47 c48 c49 c50 c51 c52 c53 c54 c55 c56 c57 c58 c59 c60 c61 c62 c63 c64 c65 c66 c67 c68 c69 c70 c71 c72 c73 c74 c75 c76 c77 c78 c79 c80 c81 c82 c83 c84 c85 c86 c87 c88 c89 c90 c91 c92 c93 c94 c95 c96 c97 c98 c99 c100 c101 c102 c103 c104 c105 : Value} {Q : Exit → Act → World → Prop} {K : Act → World → Prop} {w : World} (hfm : fm < nb) (hF : F (np + fm) = .slice (some ⟨g, 0, none⟩) n cap) (hkp : kp < (xs (np + fm)).length) (hlast : (xs (np + fm))[(xs (np + fm)).length - 1]? = some y) (hl : (xs (np + fm)).length ≤ 2000) (hm : Mem base M np nb o ef ld us F xs w)
    (hK : Hid (∀ (u66 u67 u68 u69 u70 u71 u72 u73 u74 : Value) (w' : World), Mem base M np nb o ef ld us F (upd xs (np + fm) ((xs (np + fm)).set kp y)) w' ∧ Ch base M w w' → K ⟨#[c0, c1, c2, c3, c4, c5, .slice (some ⟨g, 0, none⟩) n cap, .int .i64 (kp : Int), c8, c9, c10, c11, c12, c13, c14, c15, c16, c17, c18, c19, c20, c21, c22, c23, c24, c25, c26, c27, c28, c29, c30, c31, c32, c33, c34, c35, c36, c37, c38, c39, c40, c41, c42, c43, c44, c45, c46, c47, c48, c49, c50, c51, c52, c53, c54, c55, c56, c57, c58, c59, c60, c61, c62, c63, c64, c65, u66, u67, u68, u69, u70, u71, u72, u73, u74, c75, c76, c77, c78, c79, c80, c81, c82, c83, c84, c85, c86, c87, c88, c89, c90, c91, c92, c93, c94, c95, c96, c97, c98, c99, c100, c101, c102, c103, c104, c105], []⟩ w')) :
    Code.wp Yba.prog (stmt 8 (Yba.f7.body.getD .skip)) (Exit.then K Q) ⟨#[c0, c1, c2, c3, c4, c5, .slice (some ⟨g, 0, none⟩) n cap, .int .i64 (kp : Int), c8, c9, c10, c11, c12, c13, c14, c15, c16, c17, c18, c19, c20, c21, c22, c23, c24, c25, c26, c27, c28, c29, c30, c31, c32, c33, c34, c35, c36, c37, c38, c39, c40, c41, c42, c43, c44, c45, c46, c47, c48, c49, c50, c51, c52, c53, c54, c55, c56, c57, c58, c59, c60, c61, c62, c63, c64, c65, c66, c67, c68, c69, c70, c71, c72, c73, c74, c75, c76, c77, c78, c79, c80, c81, c82, c83, c84, c85, c86, c87, c88, c89, c90, c91, c92, c93, c94, c95, c96, c97, c98, c99, c100, c101, c102, c103, c104, c105], []⟩ w := by
  conv => arg 2; whnf
  have hj : np + fm < np + nb := by omega
  have hrow := hm.rows (np + fm) hj
  rw [hF] at hrow
  have hn : n = (xs (np + fm)).length := by
    rcases hrow.2 with ⟨e, _⟩ | ⟨g', cap', cur, e, _⟩
    · cases e
    · cases e; rfl
  subst hn
  have c1 : w.cell? ⟨g, (xs (np + fm)).length - 1, none⟩ = some (.int .i64 (y : Int)) := owns_cell hrow hlast
  obtain ⟨x0, hx0⟩ : ∃ x0, (xs (np + fm))[kp]? = some x0 := ⟨_, List.getElem?_eq_getElem hkp⟩
  have c2 : w.cell? ⟨g, kp, none⟩ = some (.int .i64 (x0 : Int)) := owns_cell hrow hx0
  have c3 := hrow.frozenAt kp
  have HM : Hid (Mem base M np nb o ef ld us F xs w) := hm
  have HF := hid hF
  generalize hL : (xs (np + fm)).length = L at *
  obtain ⟨L', rfl⟩ : ∃ L', L = L' + 1 := ⟨L - 1, by omega⟩
  have HLl := hid hL
  simp only [Nat.add_sub_cancel] at c1
  clear hm hrow hF hL hlast hx0
  go_wp2
  obtain ⟨q1, q2, q3⟩ := HM.out.rowSet (k := kp) (x := y) hj HF.out
  exact hK.out _ _ _ _ _ _ _ _ _ _ ⟨q1, Ch.setCell q2 q3 _⟩
set_option maxHeartbeats 1000000 in
theorem q9 {base M np nb : Nat} {o : Bl} {ef : Nat → Nat} {ld us : Nat → Int} {F : Nat → Value} {xs : Nat → List Nat} {MB p fm to : Nat} {g n cap : Nat} {c1 c2 c4 c5 c7 c8 c9 c10 c11 c12 c13 c14 c15 c16 c17 c18 c19 c20 c21 c22 c23 c24 c25 c26 c27 c28 c29 c30 c31 c32 c33 c34 c35 c36 c37 c38 c39 c40 c41 c42 c43 c44 c45 c46 c47 c48 c49 c50 c51 c52 c53 c54 c55 c56 c57 c58 c59 c60 c61 c62 c63 c64 c65 c66 c67 c68 c69 c70 c71 c72 c73 c74 c75 c76 c77 c78 c79 c80 c81 c82 c83 c84 c85 c86 c87 c88 c89 c90 c91 c92 c93 c94 c95 c96 c97 c98 c99 c100 c101 c102 c103 c104 c105 : Value} {Q : Exit → Act → World → Prop} {K : Act → World → Prop} {w : World} (hp : p < np) (hfm : fm < nb) (hto : to < nb) (hnp : np ≤ 1024) (hnb : nb ≤ 8) (hMB : M ≤ MB) (hv : MvAt MB p fm to w) (hm : Mem base M np nb o ef ld us F xs w) (hF : F (np + fm) = .slice (some ⟨g, 0, none⟩) n cap) (hn1 : 1 ≤ n) (hn2 : n ≤ 2000) (hcap : n ≤ cap) (hcm : cap ≤ maxLen)
    (hK : Hid (∀ (u75 u76 u77 u78 u79 u80 u81 u82 u83 u84 u85 u86 : Value) (w' : World), Mem base M np nb o ef ld us (upd F (np + fm) (.slice (some ⟨g, 0, none⟩) (n - 1) cap)) (upd xs (np + fm) (xs (np + fm)).dropLast) w' ∧ Ch base M w w' → K ⟨#[.pointer (some ⟨o.B, 0, none⟩), c1, c2, .pointer (some ⟨MB, 0, none⟩), c4, c5, .slice (some ⟨g, 0, none⟩) n cap, c7, c8, c9, c10, c11, c12, c13, c14, c15, c16, c17, c18, c19, c20, c21, c22, c23, c24, c25, c26, c27, c28, c29, c30, c31, c32, c33, c34, c35, c36, c37, c38, c39, c40, c41, c42, c43, c44, c45, c46, c47, c48, c49, c50, c51, c52, c53, c54, c55, c56, c57, c58, c59, c60, c61, c62, c63, c64, c65, c66, c67, c68, c69, c70, c71, c72, c73, c74, u75, u76, u77, u78, u79, u80, u81, u82, u83, u84, u85, u86, c87, c88, c89, c90, c91, c92, c93, c94, c95, c96, c97, c98, c99, c100, c101, c102, c103, c104, c105], []⟩ w')) :
    Code.wp Yba.prog (stmt 9 (Yba.f7.body.getD .skip)) (Exit.then K Q) ⟨#[.pointer (some ⟨o.B, 0, none⟩), c1, c2, .pointer (some ⟨MB, 0, none⟩), c4, c5, .slice (some ⟨g, 0, none⟩) n cap, c7, c8, c9, c10, c11, c12, c13, c14, c15, c16, c17, c18, c19, c20, c21, c22, c23, c24, c25, c26, c27, c28, c29, c30, c31, c32, c33, c34, c35, c36, c37, c38, c39, c40, c41, c42, c43, c44, c45, c46, c47, c48, c49, c50, c51, c52, c53, c54, c55, c56, c57, c58, c59, c60, c61, c62, c63, c64, c65, c66, c67, c68, c69, c70, c71, c72, c73, c74, c75, c76, c77, c78, c79, c80, c81, c82, c83, c84, c85, c86, c87, c88, c89, c90, c91, c92, c93, c94, c95, c96, c97, c98, c99, c100, c101, c102, c103, c104, c105], []⟩ w := by
  conv => arg 2; whnf
  obtain ⟨v0, v1, v2⟩ := hv
  have z1 : (0 : Int) ≤ (p : Int) := Int.natCast_nonneg _
  have z2 : (p : Int) < (np : Int) := by omega
  have z3 : (0 : Int) ≤ (fm : Int) := Int.natCast_nonneg _
  have z4 : (fm : Int) < (nb : Int) := by omega
  have z5 : (0 : Int) ≤ (to : Int) := Int.natCast_nonneg _
  have z6 : (to : Int) < (nb : Int) := by omega
  have k1 := hm.b6
  have k2 := hm.hH.cell (rm_get _ nb fm (by omega))
  have k3 := hm.hH.frozen fm
  have nBH : o.B ≠ o.H := hm.ne.2.2.2.2.2.2.2.1
  have nMH : MB ≠ o.H := by have := hm.hi.2.2.2.2.1; omega
  have HM : Hid (Mem base M np nb o ef ld us F xs w) := hm
  have HF := hid hF
  obtain ⟨L', rfl⟩ : ∃ L', n = L' + 1 := ⟨n - 1, by omega⟩
  unfold maxLen at hcm
  have y1 : (0 : Int) ≤ (L' : Int) := Int.natCast_nonneg _
  have y2 : (L' : Int) ≤ (cap : Int) := by omega
  have y3 : IntKind.i64.wrap (L' : Int) = (L' : Int) := by rw [IntKind.wrap_i64]; omega
  have y5 : ¬ cap = 0 := by omega
  clear hm hF
  refine wp_region_noPanic ?_
  go_region_held3 (fun w' => w'.cell? ⟨o.B, 6, none⟩ = some (.slice (some ⟨o.H, 0, none⟩) nb nb) ∧ w'.cell? ⟨MB, 1, none⟩ = some (.int .i64 (fm : Int)))
    (first | exact ⟨cell_set_ne k1 nBH, cell_set_ne v1 nMH⟩ | go_keep) (fail)
  all_goals
    refine NoPanic.normal ?_
    have q1 := HM.out.cutH (by omega) HF.out (by omega)
    simp only [Nat.add_sub_cancel] at q1
    exact hK.out _ _ _ _ _ _ _ _ _ _ _ _ _ ⟨q1.draw, (Ch.setCell HM.out.lo.2.2.2.2.1 HM.out.hi.2.2.2.2.1 _).drew⟩
end Go.Proofs.Ybulkqpu.mv
