import Derived.Test.YbulkqpuMem
import Derived.Test.YbulkqpuP2
import Derived.Deep.RegionHeld3
import Derived.BigRegion
namespace Go.Proofs.Ybulkqpu.mv
open Go.RowKit
set_option linter.unusedVariables false
set_option maxRecDepth 1000000
set_option maxHeartbeats 1000000 in
theorem p12 {base M np nb : Nat} {o : Bl} {ef : Nat → Nat} {ld us : Nat → Int} {F : Nat → Value} {xs : Nat → List Nat} {a2 : Option Addr} {len2 cap2 : Nat} {z2 : Nat → Int} {c0 c1 c3 c4 c5 c6 c7 c8 c9 c10 c11 c12 c13 c14 c15 c16 c18 c19 c20 c22 c23 c24 c25 c26 c27 c28 c29 c30 c31 c32 c33 c34 c35 c36 c37 c38 c39 c40 c41 c42 c43 c44 c45 c46 c47 c48 c49 c50 c51 c52 c53 c54 c55 c56 c57 c58 c59 c60 c61 c62 c63 c64 c65 c66 c67 c68 c69 c70 c71 c72 c73 c74 c75 c76 c77 c78 c79 c80 c81 c82 c83 c84 c85 c86 c87 c88 c89 c90 c91 c92 c93 c94 c95 c96 c97 c98 c99 c100 c101 c102 c103 c104 c105 c106 c107 c108 c109 c110 c111 c112 c113 c114 c115 c116 c117 c118 c119 c120 c121 c122 c123 c124 c125 c126 c127 c128 c129 c130 c131 c132 c133 c134 c135 c136 c137 c138 c139 c140 c141 c142 c143 c144 c145 c146 c147 c148 c149 c150 c151 c152 c153 c154 c155 c156 c157 c158 c159 c160 c161 c162 c163 c164 c165 c166 c167 c168 c169 c170 c171 c172 c173 c174 c175 c176 c177 c178 c179 c180 c181 c182 c183 c184 c185 c186 c187 c188 c189 c190 c191 c192 c193 c194 c195 c196 c197 c198 c199 c200 c201 c202 c203 c204 c205 c206 c207 c208 c209 c210 c211 c212 c213 c214 c215 c216 c217 c218 c219 c220 c221 c222 c223 c224 c225 c226 c227 c228 c229 c230 c231 c232 c233 c234 c235 c236 c237 c238 c239 c240 c241 c242 c243 c244 c245 c246 c247 c248 c249 c250 c251 c252 c253 c254 c255 c256 c257 c258 c259 c260 c261 c262 c263 c264 c265 c266 c267 c268 c269 c270 c271 c272 c273 c274 c275 c276 c277 c278 c279 c280 c281 c282 c283 c284 c285 c286 c287 c288 c289 c290 c291 c292 c293 c294 c295 c296 c297 c298 c299 c300 c301 c302 c303 c304 c305 c306 c307 c308 c309 c310 c311 c312 c313 c314 c315 c316 c317 c318 c319 c320 c321 c322 c323 c324 c325 c326 c327 c328 c329 c330 c331 c332 c333 c334 c335 c336 c337 c338 c339 c340 c341 c342 c343 c344 c345 c346 c347 c348 c349 c350 c351 c352 c353 c354 c355 c356 c357 c358 c359 c360 c361 c362 c363 c364 c365 c366 c367 c368 c369 c370 c371 c372 c373 c374 c375 c376 c377 c378 c379 : Value} {Q : Exit → Act → World → Prop} {K : Act → World → Prop} {w : World} (hcnt : np ≤ 1024) (hm : Mem base M np nb o ef ld us F xs w) (harg : Arg .i64 base w a2 len2 z2)
    (hK : Hid (∀ (u22 u109 u110 u111 u112 u113 u114 u115 u116 u117 u118 u119 u120 u121 u122 u123 u124 u125 u126 u127 : Value) (w' : World), Mem base M np nb o ef (fun i => if i < len2 then z2 i else ld i) us F xs w' ∧ Below base w w' → K ⟨#[c0, c1, .slice a2 len2 cap2, c3, c4, c5, c6, c7, c8, c9, c10, c11, c12, c13, c14, c15, c16, .int .i64 (np : Int), c18, c19, c20, .pointer (some ⟨o.B, 0, none⟩), u22, c23, c24, c25, c26, c27, c28, c29, c30, c31, c32, c33, c34, c35, c36, c37, c38, c39, c40, c41, c42, c43, c44, c45, c46, c47, c48, c49, c50, c51, c52, c53, c54, c55, c56, c57, c58, c59, c60, c61, c62, c63, c64, c65, c66, c67, c68, c69, c70, c71, c72, c73, c74, c75, c76, c77, c78, c79, c80, c81, c82, c83, c84, c85, c86, c87, c88, c89, c90, c91, c92, c93, c94, c95, c96, c97, c98, c99, c100, c101, c102, c103, c104, c105, c106, c107, c108, u109, u110, u111, u112, u113, u114, u115, u116, u117, u118, u119, u120, u121, u122, u123, u124, u125, u126, u127, c128, c129, c130, c131, c132, c133, c134, c135, c136, c137, c138, c139, c140, c141, c142, c143, c144, c145, c146, c147, c148, c149, c150, c151, c152, c153, c154, c155, c156, c157, c158, c159, c160, c161, c162, c163, c164, c165, c166, c167, c168, c169, c170, c171, c172, c173, c174, c175, c176, c177, c178, c179, c180, c181, c182, c183, c184, c185, c186, c187, c188, c189, c190, c191, c192, c193, c194, c195, c196, c197, c198, c199, c200, c201, c202, c203, c204, c205, c206, c207, c208, c209, c210, c211, c212, c213, c214, c215, c216, c217, c218, c219, c220, c221, c222, c223, c224, c225, c226, c227, c228, c229, c230, c231, c232, c233, c234, c235, c236, c237, c238, c239, c240, c241, c242, c243, c244, c245, c246, c247, c248, c249, c250, c251, c252, c253, c254, c255, c256, c257, c258, c259, c260, c261, c262, c263, c264, c265, c266, c267, c268, c269, c270, c271, c272, c273, c274, c275, c276, c277, c278, c279, c280, c281, c282, c283, c284, c285, c286, c287, c288, c289, c290, c291, c292, c293, c294, c295, c296, c297, c298, c299, c300, c301, c302, c303, c304, c305, c306, c307, c308, c309, c310, c311, c312, c313, c314, c315, c316, c317, c318, c319, c320, c321, c322, c323, c324, c325, c326, c327, c328, c329, c330, c331, c332, c333, c334, c335, c336, c337, c338, c339, c340, c341, c342, c343, c344, c345, c346, c347, c348, c349, c350, c351, c352, c353, c354, c355, c356, c357, c358, c359, c360, c361, c362, c363, c364, c365, c366, c367, c368, c369, c370, c371, c372, c373, c374, c375, c376, c377, c378, c379], []⟩ w')) :
    Code.wp Yba.prog (stmt 12 (Yba.f3.body.getD .skip)) (Exit.then K Q) ⟨#[c0, c1, .slice a2 len2 cap2, c3, c4, c5, c6, c7, c8, c9, c10, c11, c12, c13, c14, c15, c16, .int .i64 (np : Int), c18, c19, c20, .pointer (some ⟨o.B, 0, none⟩), c22, c23, c24, c25, c26, c27, c28, c29, c30, c31, c32, c33, c34, c35, c36, c37, c38, c39, c40, c41, c42, c43, c44, c45, c46, c47, c48, c49, c50, c51, c52, c53, c54, c55, c56, c57, c58, c59, c60, c61, c62, c63, c64, c65, c66, c67, c68, c69, c70, c71, c72, c73, c74, c75, c76, c77, c78, c79, c80, c81, c82, c83, c84, c85, c86, c87, c88, c89, c90, c91, c92, c93, c94, c95, c96, c97, c98, c99, c100, c101, c102, c103, c104, c105, c106, c107, c108, c109, c110, c111, c112, c113, c114, c115, c116, c117, c118, c119, c120, c121, c122, c123, c124, c125, c126, c127, c128, c129, c130, c131, c132, c133, c134, c135, c136, c137, c138, c139, c140, c141, c142, c143, c144, c145, c146, c147, c148, c149, c150, c151, c152, c153, c154, c155, c156, c157, c158, c159, c160, c161, c162, c163, c164, c165, c166, c167, c168, c169, c170, c171, c172, c173, c174, c175, c176, c177, c178, c179, c180, c181, c182, c183, c184, c185, c186, c187, c188, c189, c190, c191, c192, c193, c194, c195, c196, c197, c198, c199, c200, c201, c202, c203, c204, c205, c206, c207, c208, c209, c210, c211, c212, c213, c214, c215, c216, c217, c218, c219, c220, c221, c222, c223, c224, c225, c226, c227, c228, c229, c230, c231, c232, c233, c234, c235, c236, c237, c238, c239, c240, c241, c242, c243, c244, c245, c246, c247, c248, c249, c250, c251, c252, c253, c254, c255, c256, c257, c258, c259, c260, c261, c262, c263, c264, c265, c266, c267, c268, c269, c270, c271, c272, c273, c274, c275, c276, c277, c278, c279, c280, c281, c282, c283, c284, c285, c286, c287, c288, c289, c290, c291, c292, c293, c294, c295, c296, c297, c298, c299, c300, c301, c302, c303, c304, c305, c306, c307, c308, c309, c310, c311, c312, c313, c314, c315, c316, c317, c318, c319, c320, c321, c322, c323, c324, c325, c326, c327, c328, c329, c330, c331, c332, c333, c334, c335, c336, c337, c338, c339, c340, c341, c342, c343, c344, c345, c346, c347, c348, c349, c350, c351, c352, c353, c354, c355, c356, c357, c358, c359, c360, c361, c362, c363, c364, c365, c366, c367, c368, c369, c370, c371, c372, c373, c374, c375, c376, c377, c378, c379], []⟩ w := by
  conv => arg 2; whnf
  go_wp2
  go_loopw [22] (fun i wr => ∃ k : Nat, k ≤ np ∧ i = .int .i64 k ∧ Below base w wr ∧ Mem base M np nb o ef (fun i => if i < k ∧ i < len2 then z2 i else ld i) us F xs wr) (fun i _ => np - (intOf i).toNat)
  case atStart => exact ⟨0, Nat.zero_le _, rfl, Below.refl _ _, by simpa using hm⟩
  case round =>
    obtain ⟨k, hk, rfl, bel, h⟩ := hrel
    by_cases hlt : k < np
    · by_cases hlm : k < len2
      · rcases (harg.below bel) with h0 | ⟨b, off, rfl, hbb, hc⟩
        · omega
        have c1 := hc k hlm
        have c2 := h.hL.cell (rm_get _ np k hlt)
        have c3 := h.hL.frozen k
        have c4 := h.b4
        have l1 := h.lo.2.2.1
        have z1 : (0 : Int) ≤ (k : Int) := Int.natCast_nonneg _
        have z2' : (k : Int) < (np : Int) := by omega
        have z3 : (k : Int) < (len2 : Int) := by omega
        have nb1 : o.B ≠ o.L := h.ne.2.2.2.2.2.1
        have nb2 : b ≠ o.L := by omega
        have HM : Hid (Mem base M np nb o ef (fun i => if i < k ∧ i < len2 then z2 i else ld i) us F xs wr) := h
        clear hc harg hm h
        go_wp2
        refine wp_region_noPanic ?_
        go_region_held3 (fun w' => w'.cell? ⟨o.B, 4, none⟩ = some (.slice (some ⟨o.L, 0, none⟩) np np) ∧ w'.cell? ⟨b, off + k, none⟩ = some (.int .i64 (z2 k))) (first | exact ⟨cell_set_ne c4 nb1, cell_set_ne c1 nb2⟩ | go_keep) (fail)
        refine NoPanic.normal ?_
        go_wp2
        go_roundw
        case rel =>
          refine ⟨k + 1, by omega, by go_num, (bel.drew).setCell (p := ⟨o.L, k, none⟩) l1 _, ?_⟩
          have h2 := HM.out.draw.setL k (z2 k)
          refine Eq.mp (congrArg (fun f => Mem base M np nb o ef f us F xs _) (funext fun i => ?_)) h2
          unfold upd
          by_cases hik : i = k
          · subst hik; simp [hlm]
          · rw [if_neg hik]
            have : (i < k ∧ i < len2) ↔ (i < k + 1 ∧ i < len2) := by omega
            simp only [this]
        case measure => simp [intOf]; omega
      · have HM : Hid (Mem base M np nb o ef (fun i => if i < k ∧ i < len2 then z2 i else ld i) us F xs wr) := h
        clear harg hm h
        go_wp2
        go_roundw
        case rel =>
          refine ⟨k + 1, by omega, by go_num, bel, ?_⟩
          refine Eq.mp (congrArg (fun f => Mem base M np nb o ef f us F xs _) (funext fun i => ?_)) HM.out
          have : (i < k ∧ i < len2) ↔ (i < k + 1 ∧ i < len2) := by omega
          simp only [this]
        case measure => simp [intOf]; omega
    · have HM : Hid (Mem base M np nb o ef (fun i => if i < k ∧ i < len2 then z2 i else ld i) us F xs wr) := h
      clear harg hm h
      go_wp2
      refine hK.out _ _ _ _ _ _ _ _ _ _ _ _ _ _ _ _ _ _ _ _ _ ⟨(HM.out.congr (fun _ _ => rfl) (fun i hi => by have : (i < k ∧ i < len2) ↔ i < len2 := (by omega); simp only [this]) (fun _ _ => rfl) (fun _ _ => rfl) (fun _ _ => rfl)), bel⟩
set_option maxHeartbeats 1000000 in
theorem p13 {base M np nb : Nat} {o : Bl} {ef : Nat → Nat} {ld us : Nat → Int} {F : Nat → Value} {xs : Nat → List Nat} {a2 : Option Addr} {len2 cap2 : Nat} {z2 : Nat → Int} {c0 c1 c2 c4 c5 c6 c7 c8 c9 c10 c11 c12 c13 c14 c16 c17 c18 c19 c20 c22 c23 c24 c25 c26 c27 c28 c29 c30 c31 c32 c33 c34 c35 c36 c37 c38 c39 c40 c41 c42 c43 c44 c45 c46 c47 c48 c49 c50 c51 c52 c53 c54 c55 c56 c57 c58 c59 c60 c61 c62 c63 c64 c65 c66 c67 c68 c69 c70 c71 c72 c73 c74 c75 c76 c77 c78 c79 c80 c81 c82 c83 c84 c85 c86 c87 c88 c89 c90 c91 c92 c93 c94 c95 c96 c97 c98 c99 c100 c101 c102 c103 c104 c105 c106 c107 c108 c109 c110 c111 c112 c113 c114 c115 c116 c117 c118 c119 c120 c121 c122 c123 c124 c125 c126 c127 c128 c129 c130 c131 c132 c133 c134 c135 c136 c137 c138 c139 c140 c141 c142 c143 c144 c145 c146 c147 c148 c149 c150 c151 c152 c153 c154 c155 c156 c157 c158 c159 c160 c161 c162 c163 c164 c165 c166 c167 c168 c169 c170 c171 c172 c173 c174 c175 c176 c177 c178 c179 c180 c181 c182 c183 c184 c185 c186 c187 c188 c189 c190 c191 c192 c193 c194 c195 c196 c197 c198 c199 c200 c201 c202 c203 c204 c205 c206 c207 c208 c209 c210 c211 c212 c213 c214 c215 c216 c217 c218 c219 c220 c221 c222 c223 c224 c225 c226 c227 c228 c229 c230 c231 c232 c233 c234 c235 c236 c237 c238 c239 c240 c241 c242 c243 c244 c245 c246 c247 c248 c249 c250 c251 c252 c253 c254 c255 c256 c257 c258 c259 c260 c261 c262 c263 c264 c265 c266 c267 c268 c269 c270 c271 c272 c273 c274 c275 c276 c277 c278 c279 c280 c281 c282 c283 c284 c285 c286 c287 c288 c289 c290 c291 c292 c293 c294 c295 c296 c297 c298 c299 c300 c301 c302 c303 c304 c305 c306 c307 c308 c309 c310 c311 c312 c313 c314 c315 c316 c317 c318 c319 c320 c321 c322 c323 c324 c325 c326 c327 c328 c329 c330 c331 c332 c333 c334 c335 c336 c337 c338 c339 c340 c341 c342 c343 c344 c345 c346 c347 c348 c349 c350 c351 c352 c353 c354 c355 c356 c357 c358 c359 c360 c361 c362 c363 c364 c365 c366 c367 c368 c369 c370 c371 c372 c373 c374 c375 c376 c377 c378 c379 : Value} {Q : Exit → Act → World → Prop} {K : Act → World → Prop} {w : World} (hcnt : nb ≤ 1024) (hm : Mem base M np nb o ef ld us F xs w) (harg : Arg .i64 base w a2 len2 z2)
    (hK : Hid (∀ (u23 u128 u129 u130 u131 u132 u133 u134 u135 u136 u137 u138 u139 u140 u141 u142 u143 u144 u145 u146 : Value) (w' : World), Mem base M np nb o ef ld (fun i => if i < len2 then z2 i else us i) F xs w' ∧ Below base w w' → K ⟨#[c0, c1, c2, .slice a2 len2 cap2, c4, c5, c6, c7, c8, c9, c10, c11, c12, c13, c14, .int .i64 (nb : Int), c16, c17, c18, c19, c20, .pointer (some ⟨o.B, 0, none⟩), c22, u23, c24, c25, c26, c27, c28, c29, c30, c31, c32, c33, c34, c35, c36, c37, c38, c39, c40, c41, c42, c43, c44, c45, c46, c47, c48, c49, c50, c51, c52, c53, c54, c55, c56, c57, c58, c59, c60, c61, c62, c63, c64, c65, c66, c67, c68, c69, c70, c71, c72, c73, c74, c75, c76, c77, c78, c79, c80, c81, c82, c83, c84, c85, c86, c87, c88, c89, c90, c91, c92, c93, c94, c95, c96, c97, c98, c99, c100, c101, c102, c103, c104, c105, c106, c107, c108, c109, c110, c111, c112, c113, c114, c115, c116, c117, c118, c119, c120, c121, c122, c123, c124, c125, c126, c127, u128, u129, u130, u131, u132, u133, u134, u135, u136, u137, u138, u139, u140, u141, u142, u143, u144, u145, u146, c147, c148, c149, c150, c151, c152, c153, c154, c155, c156, c157, c158, c159, c160, c161, c162, c163, c164, c165, c166, c167, c168, c169, c170, c171, c172, c173, c174, c175, c176, c177, c178, c179, c180, c181, c182, c183, c184, c185, c186, c187, c188, c189, c190, c191, c192, c193, c194, c195, c196, c197, c198, c199, c200, c201, c202, c203, c204, c205, c206, c207, c208, c209, c210, c211, c212, c213, c214, c215, c216, c217, c218, c219, c220, c221, c222, c223, c224, c225, c226, c227, c228, c229, c230, c231, c232, c233, c234, c235, c236, c237, c238, c239, c240, c241, c242, c243, c244, c245, c246, c247, c248, c249, c250, c251, c252, c253, c254, c255, c256, c257, c258, c259, c260, c261, c262, c263, c264, c265, c266, c267, c268, c269, c270, c271, c272, c273, c274, c275, c276, c277, c278, c279, c280, c281, c282, c283, c284, c285, c286, c287, c288, c289, c290, c291, c292, c293, c294, c295, c296, c297, c298, c299, c300, c301, c302, c303, c304, c305, c306, c307, c308, c309, c310, c311, c312, c313, c314, c315, c316, c317, c318, c319, c320, c321, c322, c323, c324, c325, c326, c327, c328, c329, c330, c331, c332, c333, c334, c335, c336, c337, c338, c339, c340, c341, c342, c343, c344, c345, c346, c347, c348, c349, c350, c351, c352, c353, c354, c355, c356, c357, c358, c359, c360, c361, c362, c363, c364, c365, c366, c367, c368, c369, c370, c371, c372, c373, c374, c375, c376, c377, c378, c379], []⟩ w')) :
    Code.wp Yba.prog (stmt 13 (Yba.f3.body.getD .skip)) (Exit.then K Q) ⟨#[c0, c1, c2, .slice a2 len2 cap2, c4, c5, c6, c7, c8, c9, c10, c11, c12, c13, c14, .int .i64 (nb : Int), c16, c17, c18, c19, c20, .pointer (some ⟨o.B, 0, none⟩), c22, c23, c24, c25, c26, c27, c28, c29, c30, c31, c32, c33, c34, c35, c36, c37, c38, c39, c40, c41, c42, c43, c44, c45, c46, c47, c48, c49, c50, c51, c52, c53, c54, c55, c56, c57, c58, c59, c60, c61, c62, c63, c64, c65, c66, c67, c68, c69, c70, c71, c72, c73, c74, c75, c76, c77, c78, c79, c80, c81, c82, c83, c84, c85, c86, c87, c88, c89, c90, c91, c92, c93, c94, c95, c96, c97, c98, c99, c100, c101, c102, c103, c104, c105, c106, c107, c108, c109, c110, c111, c112, c113, c114, c115, c116, c117, c118, c119, c120, c121, c122, c123, c124, c125, c126, c127, c128, c129, c130, c131, c132, c133, c134, c135, c136, c137, c138, c139, c140, c141, c142, c143, c144, c145, c146, c147, c148, c149, c150, c151, c152, c153, c154, c155, c156, c157, c158, c159, c160, c161, c162, c163, c164, c165, c166, c167, c168, c169, c170, c171, c172, c173, c174, c175, c176, c177, c178, c179, c180, c181, c182, c183, c184, c185, c186, c187, c188, c189, c190, c191, c192, c193, c194, c195, c196, c197, c198, c199, c200, c201, c202, c203, c204, c205, c206, c207, c208, c209, c210, c211, c212, c213, c214, c215, c216, c217, c218, c219, c220, c221, c222, c223, c224, c225, c226, c227, c228, c229, c230, c231, c232, c233, c234, c235, c236, c237, c238, c239, c240, c241, c242, c243, c244, c245, c246, c247, c248, c249, c250, c251, c252, c253, c254, c255, c256, c257, c258, c259, c260, c261, c262, c263, c264, c265, c266, c267, c268, c269, c270, c271, c272, c273, c274, c275, c276, c277, c278, c279, c280, c281, c282, c283, c284, c285, c286, c287, c288, c289, c290, c291, c292, c293, c294, c295, c296, c297, c298, c299, c300, c301, c302, c303, c304, c305, c306, c307, c308, c309, c310, c311, c312, c313, c314, c315, c316, c317, c318, c319, c320, c321, c322, c323, c324, c325, c326, c327, c328, c329, c330, c331, c332, c333, c334, c335, c336, c337, c338, c339, c340, c341, c342, c343, c344, c345, c346, c347, c348, c349, c350, c351, c352, c353, c354, c355, c356, c357, c358, c359, c360, c361, c362, c363, c364, c365, c366, c367, c368, c369, c370, c371, c372, c373, c374, c375, c376, c377, c378, c379], []⟩ w := by
  conv => arg 2; whnf
  go_wp2
  go_loopw [23] (fun i wr => ∃ k : Nat, k ≤ nb ∧ i = .int .i64 k ∧ Below base w wr ∧ Mem base M np nb o ef ld (fun i => if i < k ∧ i < len2 then z2 i else us i) F xs wr) (fun i _ => nb - (intOf i).toNat)
  case atStart => exact ⟨0, Nat.zero_le _, rfl, Below.refl _ _, by simpa using hm⟩
  case round =>
    obtain ⟨k, hk, rfl, bel, h⟩ := hrel
    by_cases hlt : k < nb
    · by_cases hlm : k < len2
      · rcases (harg.below bel) with h0 | ⟨b, off, rfl, hbb, hc⟩
        · omega
        have c1 := hc k hlm
        have c2 := h.hU.cell (rm_get _ nb k hlt)
        have c3 := h.hU.frozen k
        have c4 := h.b7
        have l1 := h.lo.2.2.2.2.2
        have z1 : (0 : Int) ≤ (k : Int) := Int.natCast_nonneg _
        have z2' : (k : Int) < (nb : Int) := by omega
        have z3 : (k : Int) < (len2 : Int) := by omega
        have nb1 : o.B ≠ o.U := h.ne.2.2.2.2.2.2.2.2.1
        have nb2 : b ≠ o.U := by omega
        have HM : Hid (Mem base M np nb o ef ld (fun i => if i < k ∧ i < len2 then z2 i else us i) F xs wr) := h
        clear hc harg hm h
        go_wp2
        refine wp_region_noPanic ?_
        go_region_held3 (fun w' => w'.cell? ⟨o.B, 7, none⟩ = some (.slice (some ⟨o.U, 0, none⟩) nb nb) ∧ w'.cell? ⟨b, off + k, none⟩ = some (.int .i64 (z2 k))) (first | exact ⟨cell_set_ne c4 nb1, cell_set_ne c1 nb2⟩ | go_keep) (fail)
        refine NoPanic.normal ?_
        go_wp2
        go_roundw
        case rel =>
          refine ⟨k + 1, by omega, by go_num, (bel.drew).setCell (p := ⟨o.U, k, none⟩) l1 _, ?_⟩
          have h2 := HM.out.draw.setU k (z2 k)
          refine Eq.mp (congrArg (fun f => Mem base M np nb o ef ld f F xs _) (funext fun i => ?_)) h2
          unfold upd
          by_cases hik : i = k
          · subst hik; simp [hlm]
          · rw [if_neg hik]
            have : (i < k ∧ i < len2) ↔ (i < k + 1 ∧ i < len2) := by omega
            simp only [this]
        case measure => simp [intOf]; omega
      · have HM : Hid (Mem base M np nb o ef ld (fun i => if i < k ∧ i < len2 then z2 i else us i) F xs wr) := h
        clear harg hm h
        go_wp2
        go_roundw
        case rel =>
          refine ⟨k + 1, by omega, by go_num, bel, ?_⟩
          refine Eq.mp (congrArg (fun f => Mem base M np nb o ef ld f F xs _) (funext fun i => ?_)) HM.out
          have : (i < k ∧ i < len2) ↔ (i < k + 1 ∧ i < len2) := by omega
          simp only [this]
        case measure => simp [intOf]; omega
    · have HM : Hid (Mem base M np nb o ef ld (fun i => if i < k ∧ i < len2 then z2 i else us i) F xs wr) := h
      clear harg hm h
      go_wp2
      refine hK.out _ _ _ _ _ _ _ _ _ _ _ _ _ _ _ _ _ _ _ _ _ ⟨(HM.out.congr (fun _ _ => rfl) (fun _ _ => rfl) (fun i hi => by have : (i < k ∧ i < len2) ↔ i < len2 := (by omega); simp only [this]) (fun _ _ => rfl) (fun _ _ => rfl)), bel⟩
end Go.Proofs.Ybulkqpu.mv
