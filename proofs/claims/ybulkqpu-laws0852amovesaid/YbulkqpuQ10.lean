import Derived.Test.YbulkqpuMem2
import Derived.Deep.RegionHeld3
import Derived.BigRegion
namespace Go.Proofs.Ybulkqpu.mv
open Go.RowKit
set_option linter.unusedVariables false
set_option maxRecDepth 1000000
set_option linter.unusedSimpArgs false
set_option maxHeartbeats 4000000 in
theorem q10 {base M np nb : Nat} {o : Bl} {ef : Nat → Nat} {ld us : Nat → Int} {F : Nat → Value} {xs : Nat → List Nat} {MB p fm to : Nat} {c1 c2 c4 c5 c6 c7 c8 c9 c10 c11 c12 c13 c14 c15 c16 c17 c18 c19 c20 c21 c22 c23 c24 c25 c26 c27 c28 c29 c30 c31 c32 c33 c34 c35 c36 c37 c38 c39 c40 c41 c42 c43 c44 c45 c46 c47 c48 c49 c50 c51 c52 c53 c54 c55 c56 c57 c58 c59 c60 c61 c62 c63 c64 c65 c66 c67 c68 c69 c70 c71 c72 c73 c74 c75 c76 c77 c78 c79 c80 c81 c82 c83 c84 c85 c86 c87 c88 c89 c90 c91 c92 c93 c94 c95 c96 c97 c98 c99 c100 c101 c102 c103 c104 c105 : Value} {Q : Exit → Act → World → Prop} {K : Act → World → Prop} {w : World} (hp : p < np) (hfm : fm < nb) (hto : to < nb) (hnp : np ≤ 1024) (hnb : nb ≤ 8) (hMB : M ≤ MB) (hv : MvAt MB p fm to w) (hm : Mem base M np nb o ef ld us F xs w) (hlen : (xs (np + to)).length ≤ 2000)
    (hK : Hid (∀ (u87 u88 u89 u90 u91 u92 u93 u94 u95 u96 u97 u98 u99 u100 u101 u102 u103 u104 u105 : Value) (w' : World), (∃ v, Mem base w'.heap.size np nb o ef ld us (upd F (np + to) v) (upd xs (np + to) (xs (np + to) ++ [p])) w') ∧ Ch base M w w' → K ⟨#[.pointer (some ⟨o.B, 0, none⟩), c1, c2, .pointer (some ⟨MB, 0, none⟩), c4, c5, c6, c7, c8, c9, c10, c11, c12, c13, c14, c15, c16, c17, c18, c19, c20, c21, c22, c23, c24, c25, c26, c27, c28, c29, c30, c31, c32, c33, c34, c35, c36, c37, c38, c39, c40, c41, c42, c43, c44, c45, c46, c47, c48, c49, c50, c51, c52, c53, c54, c55, c56, c57, c58, c59, c60, c61, c62, c63, c64, c65, c66, c67, c68, c69, c70, c71, c72, c73, c74, c75, c76, c77, c78, c79, c80, c81, c82, c83, c84, c85, c86, u87, u88, u89, u90, u91, u92, u93, u94, u95, u96, u97, u98, u99, u100, u101, u102, u103, u104, u105], []⟩ w')) :
    Code.wp Yba.prog (stmt 10 (Yba.f7.body.getD .skip)) (Exit.then K Q) ⟨#[.pointer (some ⟨o.B, 0, none⟩), c1, c2, .pointer (some ⟨MB, 0, none⟩), c4, c5, c6, c7, c8, c9, c10, c11, c12, c13, c14, c15, c16, c17, c18, c19, c20, c21, c22, c23, c24, c25, c26, c27, c28, c29, c30, c31, c32, c33, c34, c35, c36, c37, c38, c39, c40, c41, c42, c43, c44, c45, c46, c47, c48, c49, c50, c51, c52, c53, c54, c55, c56, c57, c58, c59, c60, c61, c62, c63, c64, c65, c66, c67, c68, c69, c70, c71, c72, c73, c74, c75, c76, c77, c78, c79, c80, c81, c82, c83, c84, c85, c86, c87, c88, c89, c90, c91, c92, c93, c94, c95, c96, c97, c98, c99, c100, c101, c102, c103, c104, c105], []⟩ w := by
  conv => arg 2; whnf
  obtain ⟨v0, v1, v2⟩ := hv
  have z1 : (0 : Int) ≤ (p : Int) := Int.natCast_nonneg _
  have z2 : (p : Int) < (np : Int) := by omega
  have z3 : (0 : Int) ≤ (fm : Int) := Int.natCast_nonneg _
  have z4 : (fm : Int) < (nb : Int) := by omega
  have z5 : (0 : Int) ≤ (to : Int) := Int.natCast_nonneg _
  have z6 : (to : Int) < (nb : Int) := by omega
  have hj : np + to < np + nb := by omega
  obtain ⟨i0, hi0, hz0, hz1, hz2⟩ := info_parts info3
  have k1 := hm.b6
  have k2 := hm.hH.cell (rm_get _ nb to (by omega))
  have k3 := hm.hH.frozen to
  have hown := hm.rows (np + to) hj
  have lB : o.B < w.heap.size := Nat.lt_of_lt_of_le hm.hi.2.1 hm.hM
  have lX : o.H < w.heap.size := hm.hH.lt
  have lM : MB < w.heap.size := World.block_lt_of_cell? _ _ v0
  have oB : (F (np + to)).ownBlock ≠ some o.B := fun e => (hm.off _ _ hj e).2.1 rfl
  have oX : (F (np + to)).ownBlock ≠ some o.H := fun e => (hm.off _ _ hj e).2.2.2.2.1 rfl
  have oM : (F (np + to)).ownBlock ≠ some MB := fun e => by have := (hm.off _ _ hj e).2.2.2.2.2.2; omega
  have hbs : base ≤ w.heap.size := by have := hm.hM; have := hm.lo; have := hm.hi; omega
  have HM : Hid (Mem base M np nb o ef ld us F xs w) := hm
  have HO : Hid (w.ownsRow base 3 1 (F (np + to)) (xs (np + to)).length (encs (xs (np + to)))) := hown
  clear hm hown
  generalize hF : F (np + to) = f0 at *
  have HF : Hid (F (np + to) = f0) := hF
  clear hF
  refine wp_region_noPanic ?_
  refine wp_region_lastl (fun w' => w'.cell? ⟨o.B, 6, none⟩ = some (.slice (some ⟨o.H, 0, none⟩) nb nb) ∧ w'.cell? ⟨MB, 2, none⟩ = some (.int .i64 (to : Int)) ∧ w'.cell? ⟨MB, 0, none⟩ = some (.int .i64 (p : Int)) ∧ w'.cell? ⟨o.H, to, none⟩ = some f0) (by simp) (by kernel_rfl) (by kernel_rfl) ?_
  have hS : (fun w' => w'.cell? ⟨o.B, 6, none⟩ = some (.slice (some ⟨o.H, 0, none⟩) nb nb) ∧ w'.cell? ⟨MB, 2, none⟩ = some (.int .i64 (to : Int)) ∧ w'.cell? ⟨MB, 0, none⟩ = some (.int .i64 (p : Int)) ∧ w'.cell? ⟨o.H, to, none⟩ = some f0) w.drew := ⟨k1, v2, v0, k2⟩
  simp only [List.dropLast_cons_cons, List.dropLast_singleton, List.getLast_cons_cons, List.getLast_singleton, List.length_cons, List.length_nil, Nat.reduceAdd]
  refine takeH 0 87 (by simp) (v := ?v0) rfl (by kernel_rfl) (by kernel_rfl) (by kernel_rfl) (fun _ _ _ h => h) rfl ?y0 hS ?r0
  case y0 => (intro w2 hSw; (try dsimp only at hSw); go_simp; try with_reducible rfl)
  try simp only [Act.put, List.setIfInBounds_toArray, List.set_cons_zero, List.set_cons_succ]
  refine takeH 1 88 (by simp) (v := ?v1) rfl (by kernel_rfl) (by kernel_rfl) (by kernel_rfl) (fun _ _ _ h => h) rfl ?y1 hS ?r1
  case y1 => (intro w2 hSw; (try dsimp only at hSw); go_simp; try with_reducible rfl)
  try simp only [Act.put, List.setIfInBounds_toArray, List.set_cons_zero, List.set_cons_succ]
  refine takeH 2 89 (by simp) (v := ?v2) rfl (by kernel_rfl) (by kernel_rfl) (by kernel_rfl) (fun _ _ _ h => h) rfl ?y2 hS ?r2
  case y2 => (intro w2 hSw; (try dsimp only at hSw); go_simp; try with_reducible rfl)
  try simp only [Act.put, List.setIfInBounds_toArray, List.set_cons_zero, List.set_cons_succ]
  refine takeH 3 90 (by simp) (v := ?v3) rfl (by kernel_rfl) (by kernel_rfl) (by kernel_rfl) (fun _ _ _ h => h) rfl ?y3 hS ?r3
  case y3 => (intro w2 hSw; (try dsimp only at hSw); go_simp; try with_reducible rfl)
  try simp only [Act.put, List.setIfInBounds_toArray, List.set_cons_zero, List.set_cons_succ]
  refine takeH 4 91 (by simp) (v := ?v4) rfl (by kernel_rfl) (by kernel_rfl) (by kernel_rfl) (fun _ _ _ h => h) rfl ?y4 hS ?r4
  case y4 => (intro w2 hSw; (try dsimp only at hSw); go_simp; try with_reducible rfl)
  try simp only [Act.put, List.setIfInBounds_toArray, List.set_cons_zero, List.set_cons_succ]
  refine takeH 5 92 (by simp) (v := ?v5) rfl (by kernel_rfl) (by kernel_rfl) (by kernel_rfl) (fun _ _ _ h => h) rfl ?y5 hS ?r5
  case y5 => (intro w2 hSw; (try dsimp only at hSw); go_simp; try with_reducible rfl)
  try simp only [Act.put, List.setIfInBounds_toArray, List.set_cons_zero, List.set_cons_succ]
  refine takeH 6 93 (by simp) (v := ?v6) rfl (by kernel_rfl) (by kernel_rfl) (by kernel_rfl) (fun _ _ _ h => h) rfl ?y6 hS ?r6
  case y6 => (intro w2 hSw; (try dsimp only at hSw); go_simp; try with_reducible rfl)
  try simp only [Act.put, List.setIfInBounds_toArray, List.set_cons_zero, List.set_cons_succ]
  refine takeH 7 94 (by simp) (v := ?v7) rfl (by kernel_rfl) (by kernel_rfl) (by kernel_rfl) (fun _ _ _ h => h) rfl ?y7 hS ?r7
  case y7 => (intro w2 hSw; (try dsimp only at hSw); go_simp; try with_reducible rfl)
  try simp only [Act.put, List.setIfInBounds_toArray, List.set_cons_zero, List.set_cons_succ]
  refine takeH 8 95 (by simp) (v := ?v8) rfl (by kernel_rfl) (by kernel_rfl) (by kernel_rfl) (fun _ _ _ h => h) rfl ?y8 hS ?r8
  case y8 => (intro w2 hSw; (try dsimp only at hSw); go_simp; try with_reducible rfl)
  try simp only [Act.put, List.setIfInBounds_toArray, List.set_cons_zero, List.set_cons_succ]
  refine takeH 9 96 (by simp) (v := ?v9) rfl (by kernel_rfl) (by kernel_rfl) (by kernel_rfl) (fun _ _ _ h => h) rfl ?y9 hS ?r9
  case y9 => (intro w2 hSw; (try dsimp only at hSw); go_simp; try with_reducible rfl)
  try simp only [Act.put, List.setIfInBounds_toArray, List.set_cons_zero, List.set_cons_succ]
  refine takeH 10 97 (by simp) (v := ?v10) rfl (by kernel_rfl) (by kernel_rfl) (by kernel_rfl) (fun _ _ _ h => h) rfl ?y10 hS ?r10
  case y10 => (intro w2 hSw; (try dsimp only at hSw); go_simp; try with_reducible rfl)
  try simp only [Act.put, List.setIfInBounds_toArray, List.set_cons_zero, List.set_cons_succ]
  refine takeH 11 98 (by simp) (v := ?v11) rfl (by kernel_rfl) (by kernel_rfl) (by kernel_rfl) (fun _ _ _ h => h) rfl ?y11 hS ?r11
  case y11 => (intro w2 hSw; (try dsimp only at hSw); go_simp; try with_reducible rfl)
  try simp only [Act.put, List.setIfInBounds_toArray, List.set_cons_zero, List.set_cons_succ]
  refine takeH 12 99 (by simp) (v := ?v12) rfl (by kernel_rfl) (by kernel_rfl) (by kernel_rfl) (fun _ _ _ h => h) rfl ?y12 hS ?r12
  case y12 => (intro w2 hSw; (try dsimp only at hSw); go_simp; try with_reducible rfl)
  try simp only [Act.put, List.setIfInBounds_toArray, List.set_cons_zero, List.set_cons_succ]
  refine takeH 13 100 (by simp) (v := ?v13) rfl (by kernel_rfl) (by kernel_rfl) (by kernel_rfl) (fun _ _ _ h => h) rfl ?y13 hS ?r13
  case y13 => (intro w2 hSw; (try dsimp only at hSw); go_simp; try with_reducible rfl)
  try simp only [Act.put, List.setIfInBounds_toArray, List.set_cons_zero, List.set_cons_succ]
  refine takeH 14 101 (by simp) (v := ?v14) rfl (by kernel_rfl) (by kernel_rfl) (by kernel_rfl) (fun _ _ _ h => h) rfl ?y14 hS ?r14
  case y14 => (intro w2 hSw; (try dsimp only at hSw); go_simp; try with_reducible rfl)
  try simp only [Act.put, List.setIfInBounds_toArray, List.set_cons_zero, List.set_cons_succ]
  refine takeH 15 102 (by simp) (v := ?v15) rfl (by kernel_rfl) (by kernel_rfl) (by kernel_rfl) (fun _ _ _ h => h) rfl ?y15 hS ?r15
  case y15 => (intro w2 hSw; (try dsimp only at hSw); go_simp; try with_reducible rfl)
  try simp only [Act.put, List.setIfInBounds_toArray, List.set_cons_zero, List.set_cons_succ]
  refine wpAnyH_one 16 (by kernel_rfl) (by simp) rfl ?o16
  intro K16 h16
  go_simp
  have hS16 : (fun w' => w'.cell? ⟨o.B, 6, none⟩ = some (.slice (some ⟨o.H, 0, none⟩) nb nb) ∧ w'.cell? ⟨MB, 2, none⟩ = some (.int .i64 (to : Int)) ∧ w'.cell? ⟨MB, 0, none⟩ = some (.int .i64 (p : Int)) ∧ w'.cell? ⟨o.H, to, none⟩ = some f0) (w.alloc (.cells #[.int .i64 (p : Int)] 3)).drew := ⟨cell_alloc _ k1, cell_alloc _ v2, cell_alloc _ v0, cell_alloc _ k2⟩
  refine h16 _ _ hS16 ?c16
  try simp only [Act.put, List.setIfInBounds_toArray, List.set_cons_zero, List.set_cons_succ]
  clear h16
  refine wpAnyH_one 17 (by kernel_rfl) (by simp) rfl ?o17
  intro K17 h17
  refine wp_append_lies _ _ _ _ (by rfl) base 3 i0 _ 1 8 Yba.underlying32 hi0 hz0 hz1 hz2 rfl (by omega) f0 (xs (np + to)).length (encs (xs (np + to))) (by rfl) ((HO.out.alloc _).drew) ⟨w.heap.size, 0, none⟩ 1 1 [.int .i64 (p : Int)] (by rfl) (by rfl) (World.news_of_block (cs := #[.int .i64 (p : Int)]) (t := 3) (fr := (0, 0)) (heap_alloc_new w _)) (by simp [Value.oneCell']) (by omega) (by unfold maxLen; omega) (by omega) (by simp; omega) (w.heap.size + 1) (by simp) ?a17
  intro gg cap w1 hown1 hgrow hat hlt
  have f1 : w1.cell? ⟨o.B, 6, none⟩ = some (.slice (some ⟨o.H, 0, none⟩) nb nb) := by rw [hgrow.cell_far ⟨o.B, 6, none⟩ (by simp; omega) (Ne.symm oB)]; exact cell_alloc _ k1
  have f2 : w1.cell? ⟨MB, 2, none⟩ = some (.int .i64 (to : Int)) := by rw [hgrow.cell_far ⟨MB, 2, none⟩ (by simp; omega) (Ne.symm oM)]; exact cell_alloc _ v2
  have f3 : w1.cell? ⟨MB, 0, none⟩ = some (.int .i64 (p : Int)) := by rw [hgrow.cell_far ⟨MB, 0, none⟩ (by simp; omega) (Ne.symm oM)]; exact cell_alloc _ v0
  have f4 : w1.cell? ⟨o.H, to, none⟩ = some f0 := by rw [hgrow.cell_far ⟨o.H, to, none⟩ (by simp; omega) (Ne.symm oX)]; exact cell_alloc _ k2
  have f5 : w1.frozen? ⟨o.H, to, none⟩ = false := by rw [hgrow.frozen_far ⟨o.H, to, none⟩ (by simp; omega) (Ne.symm oX)]; exact frozen_alloc _ lX k3
  have hS17 : (fun w' => w'.cell? ⟨o.B, 6, none⟩ = some (.slice (some ⟨o.H, 0, none⟩) nb nb) ∧ w'.cell? ⟨MB, 2, none⟩ = some (.int .i64 (to : Int)) ∧ w'.cell? ⟨MB, 0, none⟩ = some (.int .i64 (p : Int)) ∧ w'.cell? ⟨o.H, to, none⟩ = some f0) w1 := ⟨f1, f2, f3, f4⟩
  refine h17 _ _ hS17 ?c17
  try simp only [Act.put, List.setIfInBounds_toArray, List.set_cons_zero, List.set_cons_succ]
  clear h17
  refine takeH 18 105 (by simp) (v := ?v18) rfl (by kernel_rfl) (by kernel_rfl) (by kernel_rfl) (fun _ _ _ h => h) rfl ?y18 hS17 ?r18
  case y18 => (intro w2 hSw; (try dsimp only at hSw); go_simp; try with_reducible rfl)
  try simp only [Act.put, List.setIfInBounds_toArray, List.set_cons_zero, List.set_cons_succ]
  refine wpAnyH_done (by kernel_rfl) ?d19 _
  show Oper.wp Yba.prog _ _ w1 (fun a' w' => NoPanic (Exit.then K Q) .normal a' w') (NoPanic (Exit.then K Q))
  go_simp
  refine NoPanic.normal ?n19
  obtain ⟨q1, q2⟩ := HM.out.pushH (x := p) (by omega) hown1 (by rw [HF.out]; exact hgrow) (by rw [HF.out]; exact hat) hlt
  refine hK.out _ _ _ _ _ _ _ _ _ _ _ _ _ _ _ _ _ _ _ _ ⟨⟨_, q1.up (Nat.le_of_eq (by simp)) (by simp)⟩, q2, fun k h1 h2 => ?_⟩
  have hMs := HM.out.hM
  have hh := HM.out.hi.2.2.2.2.1
  rw [Below.heap_setCell _ _ _ _ (by show k ≠ o.H; omega), hgrow.block k (by simp; omega) (fun e => by have := (HM.out.off _ k hj (by rw [HF.out]; exact e.symm)).2.2.2.2.2.2; omega)]
  exact Below.heap_alloc _ _ _ h2
end Go.Proofs.Ybulkqpu.mv
