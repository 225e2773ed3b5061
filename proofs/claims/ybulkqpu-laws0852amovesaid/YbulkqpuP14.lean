import Derived.Test.YbulkqpuPlain
import Derived.Test.YbulkqpuR14
import Derived.Deep.RegionHeld3
import Derived.BigRegion
namespace Go.Proofs.Ybulkqpu.mv
open Go.RowKit
set_option linter.unusedVariables false
set_option maxRecDepth 1000000
set_option maxHeartbeats 1000000 in
theorem p14 {base M np nb : Nat} {o : Bl} {ef : Nat → Nat} {ld us : Nat → Int} {c0 c1 c2 c3 c4 c5 c6 c7 c8 c9 c10 c11 c12 c13 c14 c16 c19 c20 c22 c23 c24 c25 c26 c27 c28 c29 c30 c31 c32 c33 c34 c35 c36 c37 c38 c39 c40 c41 c42 c43 c44 c45 c46 c47 c48 c49 c50 c51 c52 c53 c54 c55 c56 c57 c58 c59 c60 c61 c62 c63 c64 c65 c66 c67 c68 c69 c70 c71 c72 c73 c74 c75 c76 c77 c78 c79 c80 c81 c82 c83 c84 c85 c86 c87 c88 c89 c90 c91 c92 c93 c94 c95 c96 c97 c98 c99 c100 c101 c102 c103 c104 c105 c106 c107 c108 c109 c110 c111 c112 c113 c114 c115 c116 c117 c118 c119 c120 c121 c122 c123 c124 c125 c126 c127 c128 c129 c130 c131 c132 c133 c134 c135 c136 c137 c138 c139 c140 c141 c142 c143 c144 c145 c146 c147 c148 c149 c150 c151 c152 c153 c154 c155 c156 c157 c158 c159 c160 c161 c162 c163 c164 c165 c166 c167 c168 c169 c170 c171 c172 c173 c174 c175 c176 c177 c178 c179 c180 c181 c182 c183 c184 c185 c186 c187 c188 c189 c190 c191 c192 c193 c194 c195 c196 c197 c198 c199 c200 c201 c202 c203 c204 c205 c206 c207 c208 c209 c210 c211 c212 c213 c214 c215 c216 c217 c218 c219 c220 c221 c222 c223 c224 c225 c226 c227 c228 c229 c230 c231 c232 c233 c234 c235 c236 c237 c238 c239 c240 c241 c242 c243 c244 c245 c246 c247 c248 c249 c250 c251 c252 c253 c254 c255 c256 c257 c258 c259 c260 c261 c262 c263 c264 c265 c266 c267 c268 c269 c270 c271 c272 c273 c274 c275 c276 c277 c278 c279 c280 c281 c282 c283 c284 c285 c286 c287 c288 c289 c290 c291 c292 c293 c294 c295 c296 c297 c298 c299 c300 c301 c302 c303 c304 c305 c306 c307 c308 c309 c310 c311 c312 c313 c314 c315 c316 c317 c318 c319 c320 c321 c322 c323 c324 c325 c326 c327 c328 c329 c330 c331 c332 c333 c334 c335 c336 c337 c338 c339 c340 c341 c342 c343 c344 c345 c346 c347 c348 c349 c350 c351 c352 c353 c354 c355 c356 c357 c358 c359 c360 c361 c362 c363 c364 c365 c366 c367 c368 c369 c370 c371 c372 c373 c374 c375 c376 c377 c378 c379 : Value} {Q : Exit → Act → World → Prop} {K : Act → World → Prop} {w : World} (hnp : np ≤ 1024) (hnb : nb ≤ 8) (hef : ∀ i, ef i < 256) (hm : Mem base M np nb o ef ld us (fun _ => .slice none 0 0) (fun _ => []) w)
    (hK : Hid (∀ (u24 u25 u147 u148 u149 u150 u151 u152 u153 u154 u155 u156 u157 u158 u159 u160 u161 u162 u163 u164 u165 u166 u167 u168 u169 u170 u171 u172 u173 u174 u175 u176 u177 u178 u179 u180 u181 u182 u183 u184 u185 u186 u187 u188 u189 u190 u191 u192 u193 u194 u195 u196 u197 : Value) (w' : World), (∃ M' F, Mem base M' np nb o ef ld us F (rowsF np nb ef) w') ∧ Below base w w' → K ⟨#[c0, c1, c2, c3, c4, c5, c6, c7, c8, c9, c10, c11, c12, c13, c14, .int .i64 (nb : Int), c16, .int .i64 (np : Int), .slice (some ⟨o.E, 0, none⟩) np np, c19, c20, .pointer (some ⟨o.B, 0, none⟩), c22, c23, u24, u25, c26, c27, c28, c29, c30, c31, c32, c33, c34, c35, c36, c37, c38, c39, c40, c41, c42, c43, c44, c45, c46, c47, c48, c49, c50, c51, c52, c53, c54, c55, c56, c57, c58, c59, c60, c61, c62, c63, c64, c65, c66, c67, c68, c69, c70, c71, c72, c73, c74, c75, c76, c77, c78, c79, c80, c81, c82, c83, c84, c85, c86, c87, c88, c89, c90, c91, c92, c93, c94, c95, c96, c97, c98, c99, c100, c101, c102, c103, c104, c105, c106, c107, c108, c109, c110, c111, c112, c113, c114, c115, c116, c117, c118, c119, c120, c121, c122, c123, c124, c125, c126, c127, c128, c129, c130, c131, c132, c133, c134, c135, c136, c137, c138, c139, c140, c141, c142, c143, c144, c145, c146, u147, u148, u149, u150, u151, u152, u153, u154, u155, u156, u157, u158, u159, u160, u161, u162, u163, u164, u165, u166, u167, u168, u169, u170, u171, u172, u173, u174, u175, u176, u177, u178, u179, u180, u181, u182, u183, u184, u185, u186, u187, u188, u189, u190, u191, u192, u193, u194, u195, u196, u197, c198, c199, c200, c201, c202, c203, c204, c205, c206, c207, c208, c209, c210, c211, c212, c213, c214, c215, c216, c217, c218, c219, c220, c221, c222, c223, c224, c225, c226, c227, c228, c229, c230, c231, c232, c233, c234, c235, c236, c237, c238, c239, c240, c241, c242, c243, c244, c245, c246, c247, c248, c249, c250, c251, c252, c253, c254, c255, c256, c257, c258, c259, c260, c261, c262, c263, c264, c265, c266, c267, c268, c269, c270, c271, c272, c273, c274, c275, c276, c277, c278, c279, c280, c281, c282, c283, c284, c285, c286, c287, c288, c289, c290, c291, c292, c293, c294, c295, c296, c297, c298, c299, c300, c301, c302, c303, c304, c305, c306, c307, c308, c309, c310, c311, c312, c313, c314, c315, c316, c317, c318, c319, c320, c321, c322, c323, c324, c325, c326, c327, c328, c329, c330, c331, c332, c333, c334, c335, c336, c337, c338, c339, c340, c341, c342, c343, c344, c345, c346, c347, c348, c349, c350, c351, c352, c353, c354, c355, c356, c357, c358, c359, c360, c361, c362, c363, c364, c365, c366, c367, c368, c369, c370, c371, c372, c373, c374, c375, c376, c377, c378, c379], []⟩ w')) :
    Code.wp Yba.prog (stmt 14 (Yba.f3.body.getD .skip)) (Exit.then K Q) ⟨#[c0, c1, c2, c3, c4, c5, c6, c7, c8, c9, c10, c11, c12, c13, c14, .int .i64 (nb : Int), c16, .int .i64 (np : Int), .slice (some ⟨o.E, 0, none⟩) np np, c19, c20, .pointer (some ⟨o.B, 0, none⟩), c22, c23, c24, c25, c26, c27, c28, c29, c30, c31, c32, c33, c34, c35, c36, c37, c38, c39, c40, c41, c42, c43, c44, c45, c46, c47, c48, c49, c50, c51, c52, c53, c54, c55, c56, c57, c58, c59, c60, c61, c62, c63, c64, c65, c66, c67, c68, c69, c70, c71, c72, c73, c74, c75, c76, c77, c78, c79, c80, c81, c82, c83, c84, c85, c86, c87, c88, c89, c90, c91, c92, c93, c94, c95, c96, c97, c98, c99, c100, c101, c102, c103, c104, c105, c106, c107, c108, c109, c110, c111, c112, c113, c114, c115, c116, c117, c118, c119, c120, c121, c122, c123, c124, c125, c126, c127, c128, c129, c130, c131, c132, c133, c134, c135, c136, c137, c138, c139, c140, c141, c142, c143, c144, c145, c146, c147, c148, c149, c150, c151, c152, c153, c154, c155, c156, c157, c158, c159, c160, c161, c162, c163, c164, c165, c166, c167, c168, c169, c170, c171, c172, c173, c174, c175, c176, c177, c178, c179, c180, c181, c182, c183, c184, c185, c186, c187, c188, c189, c190, c191, c192, c193, c194, c195, c196, c197, c198, c199, c200, c201, c202, c203, c204, c205, c206, c207, c208, c209, c210, c211, c212, c213, c214, c215, c216, c217, c218, c219, c220, c221, c222, c223, c224, c225, c226, c227, c228, c229, c230, c231, c232, c233, c234, c235, c236, c237, c238, c239, c240, c241, c242, c243, c244, c245, c246, c247, c248, c249, c250, c251, c252, c253, c254, c255, c256, c257, c258, c259, c260, c261, c262, c263, c264, c265, c266, c267, c268, c269, c270, c271, c272, c273, c274, c275, c276, c277, c278, c279, c280, c281, c282, c283, c284, c285, c286, c287, c288, c289, c290, c291, c292, c293, c294, c295, c296, c297, c298, c299, c300, c301, c302, c303, c304, c305, c306, c307, c308, c309, c310, c311, c312, c313, c314, c315, c316, c317, c318, c319, c320, c321, c322, c323, c324, c325, c326, c327, c328, c329, c330, c331, c332, c333, c334, c335, c336, c337, c338, c339, c340, c341, c342, c343, c344, c345, c346, c347, c348, c349, c350, c351, c352, c353, c354, c355, c356, c357, c358, c359, c360, c361, c362, c363, c364, c365, c366, c367, c368, c369, c370, c371, c372, c373, c374, c375, c376, c377, c378, c379], []⟩ w := by
  conv => arg 2; whnf
  go_wp2
  go_loopw [24] (fun i wr => ∃ k : Nat, k ≤ np ∧ i = .int .i64 k ∧ (∃ M' F, Mem base M' np nb o ef ld us F (rowsAt np nb ef k 0) wr) ∧ Below base w wr) (fun i _ => np - (intOf i).toNat)
  case atStart => exact ⟨0, Nat.zero_le _, rfl, ⟨M, _, hm.congr (fun _ _ => rfl) (fun _ _ => rfl) (fun _ _ => rfl) (fun _ _ => rfl) (fun j _ => rowsAt_start.symm)⟩, Below.refl _ _⟩
  case round =>
    obtain ⟨i, hi, rfl, ⟨M1, F1, h⟩, bel⟩ := hrel
    clear hm
    by_cases hlt : i < np
    · go_wp2
      go_loopw [25] (fun i' wr => ∃ k : Nat, k ≤ nb ∧ i' = .int .i64 k ∧ (∃ M' F, Mem base M' np nb o ef ld us F (rowsAt np nb ef i k) wr) ∧ Below base w wr) (fun i _ => nb - (intOf i).toNat)
      case atStart => exact ⟨0, Nat.zero_le _, rfl, ⟨M1, F1, h⟩, bel⟩
      case round =>
        clear h bel
        obtain ⟨b, hb, rfl, ⟨M2, F2, h2⟩, bel2⟩ := hrel
        by_cases hlt2 : b < nb
        · have t1 := h2.hE.cell (rm_get _ np i hlt)
          have te := hef i
          by_cases hbit : (ef i).testBit b = true
          · have tt : (bits .and .u8 ((ef i : Int) / 2 ^ b) 1 == 1) = true := by rw [bit_one _ _ te]; exact hbit
            have HB : Hid ((ef i).testBit b = true) := hbit
            have H2 : Hid (Mem base M2 np nb o ef ld us F2 (rowsAt np nb ef i b) wr) := h2
            clear hbit h2 hef
            go_wp2
            refine r37 hlt hlt2 hnp hnb (Nat.le_trans (rowsAt_len hlt hlt2 hnp hnb) (by omega)) H2.out (hid ?_)
            intro _ _ _ _ _ _ _ _ _ _ _ _ _ _ _ _ w3 ⟨⟨v3, h3⟩, bel3⟩
            have H3 : Hid (Mem base w3.heap.size np nb o ef ld us (upd F2 i v3) (upd (rowsAt np nb ef i b) i (rowsAt np nb ef i b i ++ [b])) w3) := h3
            clear h3 t1
            go_wp2
            refine r38 hlt hlt2 hnp hnb (by rw [upd_ne _ _ _ (by omega)]; exact Nat.le_trans (rowsAt_len hlt hlt2 hnp hnb) (by omega)) H3.out (hid ?_)
            intro _ _ _ _ _ _ _ _ _ _ _ _ _ _ _ _ w4 ⟨⟨v4, h4⟩, bel4⟩
            have H4 : Hid (Mem base w4.heap.size np nb o ef ld us (upd (upd F2 i v3) (np + b) v4) (rowsAt np nb ef i (b + 1)) w4) := h4.congr (fun _ _ => rfl) (fun _ _ => rfl) (fun _ _ => rfl) (fun _ _ => rfl) (fun j _ => rowsAt_hit hlt HB.out)
            clear h4
            go_wp2
            go_roundw
            case rel => exact ⟨b + 1, by omega, by go_num, ⟨_, _, H4.out⟩, (bel2.trans bel3).trans bel4⟩
            case measure => simp [intOf]; omega
          · have hbit' : (ef i).testBit b = false := by simpa using hbit
            have tt : (bits .and .u8 ((ef i : Int) / 2 ^ b) 1 == 1) = false := by rw [bit_one _ _ te]; exact hbit'
            have H2 : Hid (Mem base M2 np nb o ef ld us F2 (rowsAt np nb ef i (b + 1)) wr) := h2.congr (fun _ _ => rfl) (fun _ _ => rfl) (fun _ _ => rfl) (fun _ _ => rfl) (fun j _ => (rowsAt_skip hlt hbit').symm)
            clear hbit hbit' h2 hef
            go_wp2
            go_roundw
            case rel => exact ⟨b + 1, by omega, by go_num, ⟨_, _, H2.out⟩, bel2⟩
            case measure => simp [intOf]; omega
        · have H2 : Hid (Mem base M2 np nb o ef ld us F2 (rowsAt np nb ef (i + 1) 0) wr) := h2.congr (fun _ _ => rfl) (fun _ _ => rfl) (fun _ _ => rfl) (fun _ _ => rfl) (fun j hj => (congrArg (fun c => rowsAt np nb ef i c j) (show b = nb by omega)).trans (rowsAt_next hj))
          clear h2 hef
          go_wp2
          go_roundw
          case rel => exact ⟨i + 1, by omega, by go_num, ⟨_, _, H2.out⟩, bel2⟩
          case measure => simp [intOf]; omega
    · have H2 : Hid (Mem base M1 np nb o ef ld us F1 (rowsF np nb ef) _) := h.congr (fun _ _ => rfl) (fun _ _ => rfl) (fun _ _ => rfl) (fun _ _ => rfl) (fun j hj => (congrArg (fun c => rowsAt np nb ef c 0 j) (show i = np by omega)).trans (rowsAt_end hj))
      clear h hef
      go_wp2
      exact hK.out _ _ _ _ _ _ _ _ _ _ _ _ _ _ _ _ _ _ _ _ _ _ _ _ _ _ _ _ _ _ _ _ _ _ _ _ _ _ _ _ _ _ _ _ _ _ _ _ _ _ _ _ _ _ ⟨⟨_, _, H2.out⟩, bel⟩
end Go.Proofs.Ybulkqpu.mv
