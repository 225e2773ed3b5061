import Derived.Test.YbulkqpuMem
import Derived.Deep.RegionHeld3
import Derived.BigRegion
import Derived.Deep.RegionLaw
namespace Go.Proofs.Ybulkqpu.mv
open Go.RowKit
set_option linter.unusedVariables false
set_option maxRecDepth 1000000

/-- The region of a number in a body. -/
def reg (n : Nat) : Code → Option Code
  | .region id ops d => if id = n then some (.region id ops d) else none
  | .seq a b => match reg n a with
    | some c => some c
    | none => reg n b
  | .cond _ a b => match reg n a with
    | some c => some c
    | none => reg n b
  | .loop c => reg n c
  | .block _ c => reg n c
  | .scope c => reg n c
  | _ => none

set_option maxHeartbeats 20000000 in
theorem r37 {base M np nb : Nat} {o : Bl} {ef : Nat → Nat} {ld us : Nat → Int} {F : Nat → Value} {xs : Nat → List Nat} {i b : Nat} {c0 c1 c2 c3 c4 c5 c6 c7 c8 c9 c10 c11 c12 c13 c14 c15 c16 c17 c18 c19 c20 c22 c23 c26 c27 c28 c29 c30 c31 c32 c33 c34 c35 c36 c37 c38 c39 c40 c41 c42 c43 c44 c45 c46 c47 c48 c49 c50 c51 c52 c53 c54 c55 c56 c57 c58 c59 c60 c61 c62 c63 c64 c65 c66 c67 c68 c69 c70 c71 c72 c73 c74 c75 c76 c77 c78 c79 c80 c81 c82 c83 c84 c85 c86 c87 c88 c89 c90 c91 c92 c93 c94 c95 c96 c97 c98 c99 c100 c101 c102 c103 c104 c105 c106 c107 c108 c109 c110 c111 c112 c113 c114 c115 c116 c117 c118 c119 c120 c121 c122 c123 c124 c125 c126 c127 c128 c129 c130 c131 c132 c133 c134 c135 c136 c137 c138 c139 c140 c141 c142 c143 c144 c145 c146 c147 c148 c149 c150 c151 c152 c153 c154 c155 c156 c157 c158 c159 c160 c161 c162 c163 c164 c165 c166 c167 c168 c169 c170 c171 c172 c173 c174 c175 c176 c177 c178 c179 c180 c181 c182 c183 c184 c185 c186 c187 c188 c189 c190 c191 c192 c193 c194 c195 c196 c197 c198 c199 c200 c201 c202 c203 c204 c205 c206 c207 c208 c209 c210 c211 c212 c213 c214 c215 c216 c217 c218 c219 c220 c221 c222 c223 c224 c225 c226 c227 c228 c229 c230 c231 c232 c233 c234 c235 c236 c237 c238 c239 c240 c241 c242 c243 c244 c245 c246 c247 c248 c249 c250 c251 c252 c253 c254 c255 c256 c257 c258 c259 c260 c261 c262 c263 c264 c265 c266 c267 c268 c269 c270 c271 c272 c273 c274 c275 c276 c277 c278 c279 c280 c281 c282 c283 c284 c285 c286 c287 c288 c289 c290 c291 c292 c293 c294 c295 c296 c297 c298 c299 c300 c301 c302 c303 c304 c305 c306 c307 c308 c309 c310 c311 c312 c313 c314 c315 c316 c317 c318 c319 c320 c321 c322 c323 c324 c325 c326 c327 c328 c329 c330 c331 c332 c333 c334 c335 c336 c337 c338 c339 c340 c341 c342 c343 c344 c345 c346 c347 c348 c349 c350 c351 c352 c353 c354 c355 c356 c357 c358 c359 c360 c361 c362 c363 c364 c365 c366 c367 c368 c369 c370 c371 c372 c373 c374 c375 c376 c377 c378 c379 : Value} {Q : Exit → Act → World → Prop} {w : World} (hi : i < np) (hb : b < nb) (hnp : np ≤ 1024) (hnb : nb ≤ 8) (hlen : (xs (i)).length ≤ 2000) (hm : Mem base M np nb o ef ld us F xs w)
    (hK : Hid (∀ (u166 u167 u168 u169 u170 u171 u172 u173 u174 u175 u176 u177 u178 u179 u180 u181 : Value) (w' : World), (∃ v, Mem base w'.heap.size np nb o ef ld us (upd F (i) v) (upd xs (i) (xs (i) ++ [b])) w') ∧ Below base w w' → Q .normal ⟨#[c0, c1, c2, c3, c4, c5, c6, c7, c8, c9, c10, c11, c12, c13, c14, c15, c16, c17, c18, c19, c20, .pointer (some ⟨o.B, 0, none⟩), c22, c23, .int .i64 (i : Int), .int .i64 (b : Int), c26, c27, c28, c29, c30, c31, c32, c33, c34, c35, c36, c37, c38, c39, c40, c41, c42, c43, c44, c45, c46, c47, c48, c49, c50, c51, c52, c53, c54, c55, c56, c57, c58, c59, c60, c61, c62, c63, c64, c65, c66, c67, c68, c69, c70, c71, c72, c73, c74, c75, c76, c77, c78, c79, c80, c81, c82, c83, c84, c85, c86, c87, c88, c89, c90, c91, c92, c93, c94, c95, c96, c97, c98, c99, c100, c101, c102, c103, c104, c105, c106, c107, c108, c109, c110, c111, c112, c113, c114, c115, c116, c117, c118, c119, c120, c121, c122, c123, c124, c125, c126, c127, c128, c129, c130, c131, c132, c133, c134, c135, c136, c137, c138, c139, c140, c141, c142, c143, c144, c145, c146, c147, c148, c149, c150, c151, c152, c153, c154, c155, c156, c157, c158, c159, c160, c161, c162, c163, c164, c165, u166, u167, u168, u169, u170, u171, u172, u173, u174, u175, u176, u177, u178, u179, u180, u181, c182, c183, c184, c185, c186, c187, c188, c189, c190, c191, c192, c193, c194, c195, c196, c197, c198, c199, c200, c201, c202, c203, c204, c205, c206, c207, c208, c209, c210, c211, c212, c213, c214, c215, c216, c217, c218, c219, c220, c221, c222, c223, c224, c225, c226, c227, c228, c229, c230, c231, c232, c233, c234, c235, c236, c237, c238, c239, c240, c241, c242, c243, c244, c245, c246, c247, c248, c249, c250, c251, c252, c253, c254, c255, c256, c257, c258, c259, c260, c261, c262, c263, c264, c265, c266, c267, c268, c269, c270, c271, c272, c273, c274, c275, c276, c277, c278, c279, c280, c281, c282, c283, c284, c285, c286, c287, c288, c289, c290, c291, c292, c293, c294, c295, c296, c297, c298, c299, c300, c301, c302, c303, c304, c305, c306, c307, c308, c309, c310, c311, c312, c313, c314, c315, c316, c317, c318, c319, c320, c321, c322, c323, c324, c325, c326, c327, c328, c329, c330, c331, c332, c333, c334, c335, c336, c337, c338, c339, c340, c341, c342, c343, c344, c345, c346, c347, c348, c349, c350, c351, c352, c353, c354, c355, c356, c357, c358, c359, c360, c361, c362, c363, c364, c365, c366, c367, c368, c369, c370, c371, c372, c373, c374, c375, c376, c377, c378, c379], []⟩ w')) :
    Code.wp Yba.prog ((reg 37 (Yba.f3.body.getD .skip)).getD .skip) Q ⟨#[c0, c1, c2, c3, c4, c5, c6, c7, c8, c9, c10, c11, c12, c13, c14, c15, c16, c17, c18, c19, c20, .pointer (some ⟨o.B, 0, none⟩), c22, c23, .int .i64 (i : Int), .int .i64 (b : Int), c26, c27, c28, c29, c30, c31, c32, c33, c34, c35, c36, c37, c38, c39, c40, c41, c42, c43, c44, c45, c46, c47, c48, c49, c50, c51, c52, c53, c54, c55, c56, c57, c58, c59, c60, c61, c62, c63, c64, c65, c66, c67, c68, c69, c70, c71, c72, c73, c74, c75, c76, c77, c78, c79, c80, c81, c82, c83, c84, c85, c86, c87, c88, c89, c90, c91, c92, c93, c94, c95, c96, c97, c98, c99, c100, c101, c102, c103, c104, c105, c106, c107, c108, c109, c110, c111, c112, c113, c114, c115, c116, c117, c118, c119, c120, c121, c122, c123, c124, c125, c126, c127, c128, c129, c130, c131, c132, c133, c134, c135, c136, c137, c138, c139, c140, c141, c142, c143, c144, c145, c146, c147, c148, c149, c150, c151, c152, c153, c154, c155, c156, c157, c158, c159, c160, c161, c162, c163, c164, c165, c166, c167, c168, c169, c170, c171, c172, c173, c174, c175, c176, c177, c178, c179, c180, c181, c182, c183, c184, c185, c186, c187, c188, c189, c190, c191, c192, c193, c194, c195, c196, c197, c198, c199, c200, c201, c202, c203, c204, c205, c206, c207, c208, c209, c210, c211, c212, c213, c214, c215, c216, c217, c218, c219, c220, c221, c222, c223, c224, c225, c226, c227, c228, c229, c230, c231, c232, c233, c234, c235, c236, c237, c238, c239, c240, c241, c242, c243, c244, c245, c246, c247, c248, c249, c250, c251, c252, c253, c254, c255, c256, c257, c258, c259, c260, c261, c262, c263, c264, c265, c266, c267, c268, c269, c270, c271, c272, c273, c274, c275, c276, c277, c278, c279, c280, c281, c282, c283, c284, c285, c286, c287, c288, c289, c290, c291, c292, c293, c294, c295, c296, c297, c298, c299, c300, c301, c302, c303, c304, c305, c306, c307, c308, c309, c310, c311, c312, c313, c314, c315, c316, c317, c318, c319, c320, c321, c322, c323, c324, c325, c326, c327, c328, c329, c330, c331, c332, c333, c334, c335, c336, c337, c338, c339, c340, c341, c342, c343, c344, c345, c346, c347, c348, c349, c350, c351, c352, c353, c354, c355, c356, c357, c358, c359, c360, c361, c362, c363, c364, c365, c366, c367, c368, c369, c370, c371, c372, c373, c374, c375, c376, c377, c378, c379], []⟩ w := by
  conv => arg 2; whnf
  have hj : i < np + nb := by omega
  obtain ⟨i0, hi0, hz0, hz1, hz2⟩ := info_parts info3
  have k1 := hm.b5
  have k2 := hm.hR.cell (rm_get _ np i (by omega))
  have k3 := hm.hR.frozen i
  have hown := hm.rows (i) hj
  have lB : o.B < w.heap.size := Nat.lt_of_lt_of_le hm.hi.2.1 hm.hM
  have lX : o.R < w.heap.size := hm.hR.lt
  have oB : (F (i)).ownBlock ≠ some o.B := fun e => (hm.off _ _ hj e).2.1 rfl
  have oX : (F (i)).ownBlock ≠ some o.R := fun e => (hm.off _ _ hj e).2.2.2.1 rfl
  have nBX : o.B ≠ o.R := hm.ne.2.2.2.2.2.2.1
  have z1 : (0 : Int) ≤ (i : Int) := Int.natCast_nonneg _
  have z2 : (i : Int) < (np : Int) := by omega
  have hbs : base ≤ w.heap.size := by have := hm.hM; have := hm.lo; have := hm.hi; omega
  have HM : Hid (Mem base M np nb o ef ld us F xs w) := hm
  have HO : Hid (w.ownsRow base 3 1 (F (i)) (xs (i)).length (encs (xs (i)))) := hown
  clear hm hown
  generalize hF : F (i) = f0 at *
  have HF : Hid (F (i) = f0) := hF
  clear hF
  refine wp_region_noPanic ?_
  go_region_law
    ((refine step_append_lies _ (by rfl) _ _ _ (by rfl) base 3 i0 _ 1 8 Yba.underlying32 hi0 hz0 hz1 hz2 rfl (by omega) f0 (xs (i)).length (encs (xs (i))) (by rfl) ((HO.out.alloc _).drew)
        ⟨w.heap.size, 0, none⟩ 1 1 [.int .i64 (b : Int)] (by rfl) (by rfl) (World.news_of_block (cs := #[.int .i64 (b : Int)]) (t := 3) (fr := (0, 0)) (heap_alloc_new w _)) (by simp [Value.oneCell'])
        (by omega) (by unfold maxLen; omega) (by omega) (by simp; omega) (w.heap.size + 1) (by simp) ?_; intro gg cap w1 hown1 hgrow hat hlt
      have s1 : w1.cell? ⟨o.R, i, none⟩ = some f0 := by rw [hgrow.cell_far ⟨o.R, i, none⟩ (by simp; omega) (Ne.symm oX)]; exact cell_alloc _ k2
      have s2 : w1.frozen? ⟨o.R, i, none⟩ = false := by rw [hgrow.frozen_far ⟨o.R, i, none⟩ (by simp; omega) (Ne.symm oX)]; exact frozen_alloc _ lX k3
      have s3 : w1.cell? ⟨o.B, 5, none⟩ = some (.slice (some ⟨o.R, 0, none⟩) np np) := by rw [hgrow.cell_far ⟨o.B, 5, none⟩ (by simp; omega) (Ne.symm oB)]; exact cell_alloc _ k1))
  all_goals
    refine NoPanic.normal ?_
    obtain ⟨q1, q2⟩ := HM.out.pushR hi hown1 (by rw [HF.out]; exact hgrow) (by rw [HF.out]; exact hat) hlt
    exact hK.out _ _ _ _ _ _ _ _ _ _ _ _ _ _ _ _ _ ⟨⟨_, q1.up (Nat.le_of_eq (by simp)) (by simp)⟩, q2⟩
set_option maxHeartbeats 20000000 in
theorem r38 {base M np nb : Nat} {o : Bl} {ef : Nat → Nat} {ld us : Nat → Int} {F : Nat → Value} {xs : Nat → List Nat} {i b : Nat} {c0 c1 c2 c3 c4 c5 c6 c7 c8 c9 c10 c11 c12 c13 c14 c15 c16 c17 c18 c19 c20 c22 c23 c26 c27 c28 c29 c30 c31 c32 c33 c34 c35 c36 c37 c38 c39 c40 c41 c42 c43 c44 c45 c46 c47 c48 c49 c50 c51 c52 c53 c54 c55 c56 c57 c58 c59 c60 c61 c62 c63 c64 c65 c66 c67 c68 c69 c70 c71 c72 c73 c74 c75 c76 c77 c78 c79 c80 c81 c82 c83 c84 c85 c86 c87 c88 c89 c90 c91 c92 c93 c94 c95 c96 c97 c98 c99 c100 c101 c102 c103 c104 c105 c106 c107 c108 c109 c110 c111 c112 c113 c114 c115 c116 c117 c118 c119 c120 c121 c122 c123 c124 c125 c126 c127 c128 c129 c130 c131 c132 c133 c134 c135 c136 c137 c138 c139 c140 c141 c142 c143 c144 c145 c146 c147 c148 c149 c150 c151 c152 c153 c154 c155 c156 c157 c158 c159 c160 c161 c162 c163 c164 c165 c166 c167 c168 c169 c170 c171 c172 c173 c174 c175 c176 c177 c178 c179 c180 c181 c182 c183 c184 c185 c186 c187 c188 c189 c190 c191 c192 c193 c194 c195 c196 c197 c198 c199 c200 c201 c202 c203 c204 c205 c206 c207 c208 c209 c210 c211 c212 c213 c214 c215 c216 c217 c218 c219 c220 c221 c222 c223 c224 c225 c226 c227 c228 c229 c230 c231 c232 c233 c234 c235 c236 c237 c238 c239 c240 c241 c242 c243 c244 c245 c246 c247 c248 c249 c250 c251 c252 c253 c254 c255 c256 c257 c258 c259 c260 c261 c262 c263 c264 c265 c266 c267 c268 c269 c270 c271 c272 c273 c274 c275 c276 c277 c278 c279 c280 c281 c282 c283 c284 c285 c286 c287 c288 c289 c290 c291 c292 c293 c294 c295 c296 c297 c298 c299 c300 c301 c302 c303 c304 c305 c306 c307 c308 c309 c310 c311 c312 c313 c314 c315 c316 c317 c318 c319 c320 c321 c322 c323 c324 c325 c326 c327 c328 c329 c330 c331 c332 c333 c334 c335 c336 c337 c338 c339 c340 c341 c342 c343 c344 c345 c346 c347 c348 c349 c350 c351 c352 c353 c354 c355 c356 c357 c358 c359 c360 c361 c362 c363 c364 c365 c366 c367 c368 c369 c370 c371 c372 c373 c374 c375 c376 c377 c378 c379 : Value} {Q : Exit → Act → World → Prop} {w : World} (hi : i < np) (hb : b < nb) (hnp : np ≤ 1024) (hnb : nb ≤ 8) (hlen : (xs (np + b)).length ≤ 2000) (hm : Mem base M np nb o ef ld us F xs w)
    (hK : Hid (∀ (u182 u183 u184 u185 u186 u187 u188 u189 u190 u191 u192 u193 u194 u195 u196 u197 : Value) (w' : World), (∃ v, Mem base w'.heap.size np nb o ef ld us (upd F (np + b) v) (upd xs (np + b) (xs (np + b) ++ [i])) w') ∧ Below base w w' → Q .normal ⟨#[c0, c1, c2, c3, c4, c5, c6, c7, c8, c9, c10, c11, c12, c13, c14, c15, c16, c17, c18, c19, c20, .pointer (some ⟨o.B, 0, none⟩), c22, c23, .int .i64 (i : Int), .int .i64 (b : Int), c26, c27, c28, c29, c30, c31, c32, c33, c34, c35, c36, c37, c38, c39, c40, c41, c42, c43, c44, c45, c46, c47, c48, c49, c50, c51, c52, c53, c54, c55, c56, c57, c58, c59, c60, c61, c62, c63, c64, c65, c66, c67, c68, c69, c70, c71, c72, c73, c74, c75, c76, c77, c78, c79, c80, c81, c82, c83, c84, c85, c86, c87, c88, c89, c90, c91, c92, c93, c94, c95, c96, c97, c98, c99, c100, c101, c102, c103, c104, c105, c106, c107, c108, c109, c110, c111, c112, c113, c114, c115, c116, c117, c118, c119, c120, c121, c122, c123, c124, c125, c126, c127, c128, c129, c130, c131, c132, c133, c134, c135, c136, c137, c138, c139, c140, c141, c142, c143, c144, c145, c146, c147, c148, c149, c150, c151, c152, c153, c154, c155, c156, c157, c158, c159, c160, c161, c162, c163, c164, c165, c166, c167, c168, c169, c170, c171, c172, c173, c174, c175, c176, c177, c178, c179, c180, c181, u182, u183, u184, u185, u186, u187, u188, u189, u190, u191, u192, u193, u194, u195, u196, u197, c198, c199, c200, c201, c202, c203, c204, c205, c206, c207, c208, c209, c210, c211, c212, c213, c214, c215, c216, c217, c218, c219, c220, c221, c222, c223, c224, c225, c226, c227, c228, c229, c230, c231, c232, c233, c234, c235, c236, c237, c238, c239, c240, c241, c242, c243, c244, c245, c246, c247, c248, c249, c250, c251, c252, c253, c254, c255, c256, c257, c258, c259, c260, c261, c262, c263, c264, c265, c266, c267, c268, c269, c270, c271, c272, c273, c274, c275, c276, c277, c278, c279, c280, c281, c282, c283, c284, c285, c286, c287, c288, c289, c290, c291, c292, c293, c294, c295, c296, c297, c298, c299, c300, c301, c302, c303, c304, c305, c306, c307, c308, c309, c310, c311, c312, c313, c314, c315, c316, c317, c318, c319, c320, c321, c322, c323, c324, c325, c326, c327, c328, c329, c330, c331, c332, c333, c334, c335, c336, c337, c338, c339, c340, c341, c342, c343, c344, c345, c346, c347, c348, c349, c350, c351, c352, c353, c354, c355, c356, c357, c358, c359, c360, c361, c362, c363, c364, c365, c366, c367, c368, c369, c370, c371, c372, c373, c374, c375, c376, c377, c378, c379], []⟩ w')) :
    Code.wp Yba.prog ((reg 38 (Yba.f3.body.getD .skip)).getD .skip) Q ⟨#[c0, c1, c2, c3, c4, c5, c6, c7, c8, c9, c10, c11, c12, c13, c14, c15, c16, c17, c18, c19, c20, .pointer (some ⟨o.B, 0, none⟩), c22, c23, .int .i64 (i : Int), .int .i64 (b : Int), c26, c27, c28, c29, c30, c31, c32, c33, c34, c35, c36, c37, c38, c39, c40, c41, c42, c43, c44, c45, c46, c47, c48, c49, c50, c51, c52, c53, c54, c55, c56, c57, c58, c59, c60, c61, c62, c63, c64, c65, c66, c67, c68, c69, c70, c71, c72, c73, c74, c75, c76, c77, c78, c79, c80, c81, c82, c83, c84, c85, c86, c87, c88, c89, c90, c91, c92, c93, c94, c95, c96, c97, c98, c99, c100, c101, c102, c103, c104, c105, c106, c107, c108, c109, c110, c111, c112, c113, c114, c115, c116, c117, c118, c119, c120, c121, c122, c123, c124, c125, c126, c127, c128, c129, c130, c131, c132, c133, c134, c135, c136, c137, c138, c139, c140, c141, c142, c143, c144, c145, c146, c147, c148, c149, c150, c151, c152, c153, c154, c155, c156, c157, c158, c159, c160, c161, c162, c163, c164, c165, c166, c167, c168, c169, c170, c171, c172, c173, c174, c175, c176, c177, c178, c179, c180, c181, c182, c183, c184, c185, c186, c187, c188, c189, c190, c191, c192, c193, c194, c195, c196, c197, c198, c199, c200, c201, c202, c203, c204, c205, c206, c207, c208, c209, c210, c211, c212, c213, c214, c215, c216, c217, c218, c219, c220, c221, c222, c223, c224, c225, c226, c227, c228, c229, c230, c231, c232, c233, c234, c235, c236, c237, c238, c239, c240, c241, c242, c243, c244, c245, c246, c247, c248, c249, c250, c251, c252, c253, c254, c255, c256, c257, c258, c259, c260, c261, c262, c263, c264, c265, c266, c267, c268, c269, c270, c271, c272, c273, c274, c275, c276, c277, c278, c279, c280, c281, c282, c283, c284, c285, c286, c287, c288, c289, c290, c291, c292, c293, c294, c295, c296, c297, c298, c299, c300, c301, c302, c303, c304, c305, c306, c307, c308, c309, c310, c311, c312, c313, c314, c315, c316, c317, c318, c319, c320, c321, c322, c323, c324, c325, c326, c327, c328, c329, c330, c331, c332, c333, c334, c335, c336, c337, c338, c339, c340, c341, c342, c343, c344, c345, c346, c347, c348, c349, c350, c351, c352, c353, c354, c355, c356, c357, c358, c359, c360, c361, c362, c363, c364, c365, c366, c367, c368, c369, c370, c371, c372, c373, c374, c375, c376, c377, c378, c379], []⟩ w := by
  conv => arg 2; whnf
  have hj : np + b < np + nb := by omega
  obtain ⟨i0, hi0, hz0, hz1, hz2⟩ := info_parts info3
  have k1 := hm.b6
  have k2 := hm.hH.cell (rm_get _ nb b (by omega))
  have k3 := hm.hH.frozen b
  have hown := hm.rows (np + b) hj
  have lB : o.B < w.heap.size := Nat.lt_of_lt_of_le hm.hi.2.1 hm.hM
  have lX : o.H < w.heap.size := hm.hH.lt
  have oB : (F (np + b)).ownBlock ≠ some o.B := fun e => (hm.off _ _ hj e).2.1 rfl
  have oX : (F (np + b)).ownBlock ≠ some o.H := fun e => (hm.off _ _ hj e).2.2.2.2.1 rfl
  have nBX : o.B ≠ o.H := hm.ne.2.2.2.2.2.2.2.1
  have z1 : (0 : Int) ≤ (b : Int) := Int.natCast_nonneg _
  have z2 : (b : Int) < (nb : Int) := by omega
  have hbs : base ≤ w.heap.size := by have := hm.hM; have := hm.lo; have := hm.hi; omega
  have HM : Hid (Mem base M np nb o ef ld us F xs w) := hm
  have HO : Hid (w.ownsRow base 3 1 (F (np + b)) (xs (np + b)).length (encs (xs (np + b)))) := hown
  clear hm hown
  generalize hF : F (np + b) = f0 at *
  have HF : Hid (F (np + b) = f0) := hF
  clear hF
  refine wp_region_noPanic ?_
  go_region_law
    ((refine step_append_lies _ (by rfl) _ _ _ (by rfl) base 3 i0 _ 1 8 Yba.underlying32 hi0 hz0 hz1 hz2 rfl (by omega) f0 (xs (np + b)).length (encs (xs (np + b))) (by rfl) ((HO.out.alloc _).drew)
        ⟨w.heap.size, 0, none⟩ 1 1 [.int .i64 (i : Int)] (by rfl) (by rfl) (World.news_of_block (cs := #[.int .i64 (i : Int)]) (t := 3) (fr := (0, 0)) (heap_alloc_new w _)) (by simp [Value.oneCell'])
        (by omega) (by unfold maxLen; omega) (by omega) (by simp; omega) (w.heap.size + 1) (by simp) ?_; intro gg cap w1 hown1 hgrow hat hlt
      have s1 : w1.cell? ⟨o.H, b, none⟩ = some f0 := by rw [hgrow.cell_far ⟨o.H, b, none⟩ (by simp; omega) (Ne.symm oX)]; exact cell_alloc _ k2
      have s2 : w1.frozen? ⟨o.H, b, none⟩ = false := by rw [hgrow.frozen_far ⟨o.H, b, none⟩ (by simp; omega) (Ne.symm oX)]; exact frozen_alloc _ lX k3
      have s3 : w1.cell? ⟨o.B, 6, none⟩ = some (.slice (some ⟨o.H, 0, none⟩) nb nb) := by rw [hgrow.cell_far ⟨o.B, 6, none⟩ (by simp; omega) (Ne.symm oB)]; exact cell_alloc _ k1))
  all_goals
    refine NoPanic.normal ?_
    obtain ⟨q1, q2⟩ := HM.out.pushH hb hown1 (by rw [HF.out]; exact hgrow) (by rw [HF.out]; exact hat) hlt
    exact hK.out _ _ _ _ _ _ _ _ _ _ _ _ _ _ _ _ _ ⟨⟨_, q1.up (Nat.le_of_eq (by simp)) (by simp)⟩, q2⟩
end Go.Proofs.Ybulkqpu.mv
