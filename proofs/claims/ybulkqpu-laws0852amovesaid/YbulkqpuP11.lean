import Derived.Test.YbulkqpuMem
import Derived.Deep.RegionHeld3
import Derived.BigRegion
namespace Go.Proofs.Ybulkqpu.mv
open Go.RowKit
set_option linter.unusedVariables false
set_option maxRecDepth 1000000

section
variable (w : World) (A0 A1 A2 A3 A4 : Obj)
theorem new_at (o : Obj) : (w.alloc o).heap[w.heap.size]? = some o := by
  show (w.heap.push o)[w.heap.size]? = _
  simp
theorem five0 : ((((((w.alloc A0).alloc A1).alloc A2).alloc A3).alloc A4).drew).heap[w.heap.size]? = some A0 := by
  have h := new_at w A0
  show (((((w.alloc A0).alloc A1).alloc A2).alloc A3).alloc A4).heap[_]? = _
  rw [Below.heap_alloc _ _ _ (by simp only [World.size_alloc]; omega)]
  rw [Below.heap_alloc _ _ _ (by simp only [World.size_alloc]; omega)]
  rw [Below.heap_alloc _ _ _ (by simp only [World.size_alloc]; omega)]
  rw [Below.heap_alloc _ _ _ (by simp only [World.size_alloc]; omega)]
  exact h
theorem five1 : ((((((w.alloc A0).alloc A1).alloc A2).alloc A3).alloc A4).drew).heap[w.heap.size + 1]? = some A1 := by
  have h := new_at (w.alloc A0) A1
  simp only [World.size_alloc] at h
  show (((((w.alloc A0).alloc A1).alloc A2).alloc A3).alloc A4).heap[_]? = _
  rw [Below.heap_alloc _ _ _ (by simp only [World.size_alloc]; omega)]
  rw [Below.heap_alloc _ _ _ (by simp only [World.size_alloc]; omega)]
  rw [Below.heap_alloc _ _ _ (by simp only [World.size_alloc]; omega)]
  exact h
theorem five2 : ((((((w.alloc A0).alloc A1).alloc A2).alloc A3).alloc A4).drew).heap[w.heap.size + 1 + 1]? = some A2 := by
  have h := new_at ((w.alloc A0).alloc A1) A2
  simp only [World.size_alloc] at h
  show (((((w.alloc A0).alloc A1).alloc A2).alloc A3).alloc A4).heap[_]? = _
  rw [Below.heap_alloc _ _ _ (by simp only [World.size_alloc]; omega)]
  rw [Below.heap_alloc _ _ _ (by simp only [World.size_alloc]; omega)]
  exact h
theorem five3 : ((((((w.alloc A0).alloc A1).alloc A2).alloc A3).alloc A4).drew).heap[w.heap.size + 1 + 1 + 1]? = some A3 := by
  have h := new_at (((w.alloc A0).alloc A1).alloc A2) A3
  simp only [World.size_alloc] at h
  show (((((w.alloc A0).alloc A1).alloc A2).alloc A3).alloc A4).heap[_]? = _
  rw [Below.heap_alloc _ _ _ (by simp only [World.size_alloc]; omega)]
  exact h
theorem five4 : ((((((w.alloc A0).alloc A1).alloc A2).alloc A3).alloc A4).drew).heap[w.heap.size + 1 + 1 + 1 + 1]? = some A4 := by
  have h := new_at ((((w.alloc A0).alloc A1).alloc A2).alloc A3) A4
  simp only [World.size_alloc] at h
  show (((((w.alloc A0).alloc A1).alloc A2).alloc A3).alloc A4).heap[_]? = _
  exact h
theorem fiveB {b : Nat} (h : b ≤ w.heap.size) : Below b w ((((((w.alloc A0).alloc A1).alloc A2).alloc A3).alloc A4).drew) :=
  ((((((Below.refl b w).alloc h A0).alloc (by simp; omega) A1).alloc (by simp; omega) A2).alloc (by simp; omega) A3).alloc (by simp; omega) A4).drew
theorem fiveC {cs : Array Value} {t : TypeId} (k : Nat) : ((((((w.alloc A0).alloc A1).alloc A2).alloc A3).alloc (.cells cs t)).drew).cell? ⟨w.heap.size + 1 + 1 + 1 + 1, k, none⟩ = cs[k]? :=
  cell_of_row _ _ k cs t _ (five4 w A0 A1 A2 A3 _)
end
set_option maxHeartbeats 40000000 in
theorem p11 {base np nb E : Nat} {ef : Nat → Nat} {c0 c1 c2 c3 c4 c5 c6 c7 c8 c9 c10 c11 c12 c13 c14 c16 c18 c19 c20 c21 c22 c23 c24 c25 c26 c27 c28 c29 c30 c31 c32 c33 c34 c35 c36 c37 c38 c39 c40 c41 c42 c43 c44 c45 c46 c47 c48 c49 c50 c51 c52 c53 c54 c55 c56 c57 c58 c59 c60 c61 c62 c63 c64 c65 c66 c67 c68 c69 c70 c71 c72 c73 c74 c75 c76 c77 c78 c79 c80 c81 c82 c83 c84 c85 c86 c87 c88 c89 c90 c91 c92 c93 c94 c95 c96 c97 c98 c99 c100 c101 c102 c103 c104 c105 c106 c107 c108 c109 c110 c111 c112 c113 c114 c115 c116 c117 c118 c119 c120 c121 c122 c123 c124 c125 c126 c127 c128 c129 c130 c131 c132 c133 c134 c135 c136 c137 c138 c139 c140 c141 c142 c143 c144 c145 c146 c147 c148 c149 c150 c151 c152 c153 c154 c155 c156 c157 c158 c159 c160 c161 c162 c163 c164 c165 c166 c167 c168 c169 c170 c171 c172 c173 c174 c175 c176 c177 c178 c179 c180 c181 c182 c183 c184 c185 c186 c187 c188 c189 c190 c191 c192 c193 c194 c195 c196 c197 c198 c199 c200 c201 c202 c203 c204 c205 c206 c207 c208 c209 c210 c211 c212 c213 c214 c215 c216 c217 c218 c219 c220 c221 c222 c223 c224 c225 c226 c227 c228 c229 c230 c231 c232 c233 c234 c235 c236 c237 c238 c239 c240 c241 c242 c243 c244 c245 c246 c247 c248 c249 c250 c251 c252 c253 c254 c255 c256 c257 c258 c259 c260 c261 c262 c263 c264 c265 c266 c267 c268 c269 c270 c271 c272 c273 c274 c275 c276 c277 c278 c279 c280 c281 c282 c283 c284 c285 c286 c287 c288 c289 c290 c291 c292 c293 c294 c295 c296 c297 c298 c299 c300 c301 c302 c303 c304 c305 c306 c307 c308 c309 c310 c311 c312 c313 c314 c315 c316 c317 c318 c319 c320 c321 c322 c323 c324 c325 c326 c327 c328 c329 c330 c331 c332 c333 c334 c335 c336 c337 c338 c339 c340 c341 c342 c343 c344 c345 c346 c347 c348 c349 c350 c351 c352 c353 c354 c355 c356 c357 c358 c359 c360 c361 c362 c363 c364 c365 c366 c367 c368 c369 c370 c371 c372 c373 c374 c375 c376 c377 c378 c379 : Value} {Q : Exit → Act → World → Prop} {K : Act → World → Prop} {w : World} (hnp : np ≤ 1024) (h1 : 1 ≤ np) (hnb : nb ≤ 8) (hb : 2 ≤ nb) (hbase : base ≤ E) (hE : At w E ((List.range np).map fun i => Value.int .u8 (ef i : Int)) 5)
    (hK : Hid (∀ (o : Bl) (u99 u100 u101 u102 u103 u104 u105 u106 u107 u108 : Value) (w' : World), o.E = E ∧ Mem base w'.heap.size np nb o ef (fun _ => 0) (fun _ => 0) (fun _ => .slice none 0 0) (fun _ => []) w' ∧ Below base w w' → K ⟨#[c0, c1, c2, c3, c4, c5, c6, c7, c8, c9, c10, c11, c12, c13, c14, .int .i64 (nb : Int), c16, .int .i64 (np : Int), c18, c19, c20, .pointer (some ⟨o.B, 0, none⟩), c22, c23, c24, c25, c26, c27, c28, c29, c30, c31, c32, c33, c34, c35, c36, c37, c38, c39, c40, c41, c42, c43, c44, c45, c46, c47, c48, c49, c50, c51, c52, c53, c54, c55, c56, c57, c58, c59, c60, c61, c62, c63, c64, c65, c66, c67, c68, c69, c70, c71, c72, c73, c74, c75, c76, c77, c78, c79, c80, c81, c82, c83, c84, c85, c86, c87, c88, c89, c90, c91, c92, c93, c94, c95, c96, c97, c98, u99, u100, u101, u102, u103, u104, u105, u106, u107, u108, c109, c110, c111, c112, c113, c114, c115, c116, c117, c118, c119, c120, c121, c122, c123, c124, c125, c126, c127, c128, c129, c130, c131, c132, c133, c134, c135, c136, c137, c138, c139, c140, c141, c142, c143, c144, c145, c146, c147, c148, c149, c150, c151, c152, c153, c154, c155, c156, c157, c158, c159, c160, c161, c162, c163, c164, c165, c166, c167, c168, c169, c170, c171, c172, c173, c174, c175, c176, c177, c178, c179, c180, c181, c182, c183, c184, c185, c186, c187, c188, c189, c190, c191, c192, c193, c194, c195, c196, c197, c198, c199, c200, c201, c202, c203, c204, c205, c206, c207, c208, c209, c210, c211, c212, c213, c214, c215, c216, c217, c218, c219, c220, c221, c222, c223, c224, c225, c226, c227, c228, c229, c230, c231, c232, c233, c234, c235, c236, c237, c238, c239, c240, c241, c242, c243, c244, c245, c246, c247, c248, c249, c250, c251, c252, c253, c254, c255, c256, c257, c258, c259, c260, c261, c262, c263, c264, c265, c266, c267, c268, c269, c270, c271, c272, c273, c274, c275, c276, c277, c278, c279, c280, c281, c282, c283, c284, c285, c286, c287, c288, c289, c290, c291, c292, c293, c294, c295, c296, c297, c298, c299, c300, c301, c302, c303, c304, c305, c306, c307, c308, c309, c310, c311, c312, c313, c314, c315, c316, c317, c318, c319, c320, c321, c322, c323, c324, c325, c326, c327, c328, c329, c330, c331, c332, c333, c334, c335, c336, c337, c338, c339, c340, c341, c342, c343, c344, c345, c346, c347, c348, c349, c350, c351, c352, c353, c354, c355, c356, c357, c358, c359, c360, c361, c362, c363, c364, c365, c366, c367, c368, c369, c370, c371, c372, c373, c374, c375, c376, c377, c378, c379], []⟩ w')) :
    Code.wp Yba.prog (stmt 11 (Yba.f3.body.getD .skip)) (Exit.then K Q) ⟨#[c0, c1, c2, c3, c4, c5, c6, c7, c8, c9, c10, c11, c12, c13, c14, .int .i64 (nb : Int), c16, .int .i64 (np : Int), c18, c19, c20, c21, c22, c23, c24, c25, c26, c27, c28, c29, c30, c31, c32, c33, c34, c35, c36, c37, c38, c39, c40, c41, c42, c43, c44, c45, c46, c47, c48, c49, c50, c51, c52, c53, c54, c55, c56, c57, c58, c59, c60, c61, c62, c63, c64, c65, c66, c67, c68, c69, c70, c71, c72, c73, c74, c75, c76, c77, c78, c79, c80, c81, c82, c83, c84, c85, c86, c87, c88, c89, c90, c91, c92, c93, c94, c95, c96, c97, c98, c99, c100, c101, c102, c103, c104, c105, c106, c107, c108, c109, c110, c111, c112, c113, c114, c115, c116, c117, c118, c119, c120, c121, c122, c123, c124, c125, c126, c127, c128, c129, c130, c131, c132, c133, c134, c135, c136, c137, c138, c139, c140, c141, c142, c143, c144, c145, c146, c147, c148, c149, c150, c151, c152, c153, c154, c155, c156, c157, c158, c159, c160, c161, c162, c163, c164, c165, c166, c167, c168, c169, c170, c171, c172, c173, c174, c175, c176, c177, c178, c179, c180, c181, c182, c183, c184, c185, c186, c187, c188, c189, c190, c191, c192, c193, c194, c195, c196, c197, c198, c199, c200, c201, c202, c203, c204, c205, c206, c207, c208, c209, c210, c211, c212, c213, c214, c215, c216, c217, c218, c219, c220, c221, c222, c223, c224, c225, c226, c227, c228, c229, c230, c231, c232, c233, c234, c235, c236, c237, c238, c239, c240, c241, c242, c243, c244, c245, c246, c247, c248, c249, c250, c251, c252, c253, c254, c255, c256, c257, c258, c259, c260, c261, c262, c263, c264, c265, c266, c267, c268, c269, c270, c271, c272, c273, c274, c275, c276, c277, c278, c279, c280, c281, c282, c283, c284, c285, c286, c287, c288, c289, c290, c291, c292, c293, c294, c295, c296, c297, c298, c299, c300, c301, c302, c303, c304, c305, c306, c307, c308, c309, c310, c311, c312, c313, c314, c315, c316, c317, c318, c319, c320, c321, c322, c323, c324, c325, c326, c327, c328, c329, c330, c331, c332, c333, c334, c335, c336, c337, c338, c339, c340, c341, c342, c343, c344, c345, c346, c347, c348, c349, c350, c351, c352, c353, c354, c355, c356, c357, c358, c359, c360, c361, c362, c363, c364, c365, c366, c367, c368, c369, c370, c371, c372, c373, c374, c375, c376, c377, c378, c379], []⟩ w := by
  conv => arg 2; whnf
  have m1 := made26 np hnp
  have m2 := made27 np hnp
  have m3 := made26 nb (by omega)
  have m4 := made27 nb (by omega)
  have HE : Hid (At w E ((List.range np).map fun i => Value.int .u8 (ef i : Int)) 5) := hE
  have HL : Hid (E < w.heap.size) := hE.lt
  clear hE
  refine wp_region_noPanic ?_
  go_region_held3 (fun _ => True) (trivial) (fail)
  all_goals
    refine NoPanic.normal ?_
    refine hK.out ⟨E, _, _, _, _, _⟩ _ _ _ _ _ _ _ _ _ _ _ ⟨rfl, mem_init (HE.out.below (fiveB _ _ _ _ _ _ (Nat.le_refl _)) HL.out) (fiveC _ _ _ _ _ 4) (fiveC _ _ _ _ _ 5) (fiveC _ _ _ _ _ 6) (fiveC _ _ _ _ _ 7) ?_ ?_ ?_ ?_ (by have := HL.out; simp; omega) (by have := HL.out; omega), fiveB _ _ _ _ _ _ (by have := HL.out; omega)⟩
    all_goals first | exact five0 _ _ _ _ _ _ | exact five1 _ _ _ _ _ _ | exact five2 _ _ _ _ _ _ | exact five3 _ _ _ _ _ _
end Go.Proofs.Ybulkqpu.mv
