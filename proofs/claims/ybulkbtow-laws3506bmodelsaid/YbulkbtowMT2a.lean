/-
  BModel: the contacts are laid: the append to a bucket's row, in whatever order its operations come
-/
import Derived.Test.YbulkbtowMT2b
import Derived.Deep.RegionHeld3
namespace Go.Proofs.Ybulkbtow
open Go.RowKit
set_option linter.unusedVariables false

set_option maxRecDepth 100000 in
set_option maxHeartbeats 8000000 in
theorem r33 (u0 u1 u2 u3 u4 u5 u6 u7 u8 u9 u10 u11 u12 u13 u14 u21 u22 u23 u26 u27 u30 u31 u32 u33 u34 u35 u36 u37 u38 u39 u40 u41 u42 u43 u44 u45 u46 u47 u48 u49 u50 u51 u52 u53 u54 u55 u56 u57 u58 u59 u60 u61 u62 u63 u64 u65 u66 u67 u68 u69 u70 u71 u72 u73 u74 u75 u76 u77 u78 u79 u80 u81 u82 u83 u84 u85 u86 u87 u88 u89 u90 u91 u92 u93 u94 u95 u96 u97 u98 u99 u100 u101 u102 u103 u104 u105 u106 u107 u108 u109 u110 u111 u112 u113 u114 u115 u116 u117 u118 u119 u120 u121 u122 u123 u124 u125 u126 u127 u128 u129 u130 u131 u132 u133 u134 u135 u136 u137 u138 u139 u140 u141 u142 u143 u144 u145 u146 u147 u148 u149 u150 u151 u152 u153 u154 u155 u156 u157 u158 u159 u160 u161 u162 u163 u164 u165 u166 u167 u168 u169 u170 u171 u172 u173 u174 u175 u176 u177 u178 u179 u180 u181 u182 u183 u184 u185 u186 u187 u188 u189 u190 u191 u192 u193 u194 u195 u196 u197 u198 u199 u200 u201 u202 u203 u204 u205 u206 u207 u208 u209 u210 u211 u212 u213 u214 u215 u216 u217 u218 u219 u220 u221 u222 u223 u224 u225 u226 u227 u228 u229 u230 u231 u232 u233 u234 u235 u236 u237 u238 u239 u240 u241 u242 u243 u244 u245 u246 u247 u248 u249 u250 u251 u252 u253 u254 u255 u256 u257 u258 u259 u260 u261 u262 u263 u264 u265 u266 u267 u268 u269 u270 u271 u272 u273 u274 u275 u276 u277 u278 u279 u280 u281 u282 u283 u284 u285 u286 u287 u288 u289 u290 u291 u292 u293 u294 u295 u296 u297 u298 u299 u300 u301 u302 u303 u304 u305 u306 u307 u308 u309 u310 u311 u312 u313 u314 u315 u316 u317 u318 u319 u320 u321 u322 u323 u324 u325 u326 u327 u328 u329 u330 u331 u332 u333 u334 u335 u336 u337 u338 u339 u340 u341 u342 u343 u344 u345 u346 u347 u348 u349 u350 u351 u352 u353 u354 u355 u356 u357 u358 u359 u360 u361 u362 u363 u364 u365 u366 u367 u368 u369 u370 u371 u372 u373 u374 u375 u376 u377 u378 u379 u380 u381 u382 u383 u384 u385 u386 u387 u388 u389 u390 u391 u392 u393 u394 u395 u396 u397 u398 u399 u400 u401 u402 u403 u404 u405 u406 u407 u408 u409 u410 u411 u412 u413 u414 u415 u416 u417 u418 u419 u420 u421 u422 u423 u424 u425 u426 u427 u428 u429 u430 u431 u432 u433 u434 u435 u436 u437 u438 u439 u440 u441 u442 u443 u444 u445 u446 u447 u448 u449 u450 u451 u452 u453 u454 u455 u456 u457 u458 u459 u460 u461 u462 u463 u464 u465 u466 u467 u468 u469 u470 u471 u472 u473 u474 u475 u476 u477 u478 u479 u480 u481 u482 u483 u484 u485 u486 u487 u488 u489 u490 u491 u492 u493 u494 u495 : Value) (D : Dat) (H gt ct k p : Nat) (pv fv : Value) (ra : Option Addr) (rn rc : Nat) (xs tcs gcs bcs : List Value) (W : World) (Q : Exit → Act → World → Prop) (code : Code) (hcode : ((Yba.f3.body).bind (r2tail 6)).bind seqHead = some code)
    (hkn : k < D.nb) (htb : Blk W D.bt 54 tcs) (ht29 : tcs[29]? = some (.slice (some ⟨gt, 0, none⟩) D.nb ct)) (htt : Blk W gt 57 gcs) (hgk : gcs[k]? = some (ptr (D.B k))) (hbk : Blk W (D.B k) 60 bcs) (hb0 : bcs[0]? = some (.slice ra rn rc))
    (hrow : Lst W H 58 (.slice ra rn rc) xs) (hx : xs.length ≤ 1024) (hH : H ≤ W.heap.size)
    (hQ : ∀ (v196 v197 v198 v199 v200 v201 v202 v203 v204 v205 v206 v207 v208 v209 v210 v211 v212 v213 v214 v215 v216 v217 : Value) (qa : Option Addr) (qn qc : Nat) (w8 : World), Lst w8 H 58 (.slice qa qn qc) (xs ++ [ptr p]) → (W.drew.alloc (.cells #[ptr p] 58)).grownBy w8 (Value.slice ra rn rc).ownBlock → ((Value.slice qa qn qc).ownBlock = (Value.slice ra rn rc).ownBlock ∨ (Value.slice qa qn qc).ownBlock = some (W.drew.alloc (.cells #[ptr p] 58)).heap.size) → Q .normal ⟨#[u0, u1, u2, u3, u4, u5, u6, u7, u8, u9, u10, u11, u12, u13, u14, .int .i64 (D.nb : Int), ptr D.bn, ptr D.ba, ptr D.bt, .slice (some ⟨D.bo, 0, none⟩) D.nb D.nb, .slice (some ⟨D.bs, 0, none⟩) D.nb D.nb, u21, u22, u23, pv, fv, u26, u27, .int .i64 (k : Int), ptr p, u30, u31, u32, u33, u34, u35, u36, u37, u38, u39, u40, u41, u42, u43, u44, u45, u46, u47, u48, u49, u50, u51, u52, u53, u54, u55, u56, u57, u58, u59, u60, u61, u62, u63, u64, u65, u66, u67, u68, u69, u70, u71, u72, u73, u74, u75, u76, u77, u78, u79, u80, u81, u82, u83, u84, u85, u86, u87, u88, u89, u90, u91, u92, u93, u94, u95, u96, u97, u98, u99, u100, u101, u102, u103, u104, u105, u106, u107, u108, u109, u110, u111, u112, u113, u114, u115, u116, u117, u118, u119, u120, u121, u122, u123, u124, u125, u126, u127, u128, u129, u130, u131, u132, u133, u134, u135, u136, u137, u138, u139, u140, u141, u142, u143, u144, u145, u146, u147, u148, u149, u150, u151, u152, u153, u154, u155, u156, u157, u158, u159, u160, u161, u162, u163, u164, u165, u166, u167, u168, u169, u170, u171, u172, u173, u174, u175, u176, u177, u178, u179, u180, u181, u182, u183, u184, u185, u186, u187, u188, u189, u190, u191, u192, u193, u194, u195, v196, v197, v198, v199, v200, v201, v202, v203, v204, v205, v206, v207, v208, v209, v210, v211, v212, v213, v214, v215, v216, v217, u218, u219, u220, u221, u222, u223, u224, u225, u226, u227, u228, u229, u230, u231, u232, u233, u234, u235, u236, u237, u238, u239, u240, u241, u242, u243, u244, u245, u246, u247, u248, u249, u250, u251, u252, u253, u254, u255, u256, u257, u258, u259, u260, u261, u262, u263, u264, u265, u266, u267, u268, u269, u270, u271, u272, u273, u274, u275, u276, u277, u278, u279, u280, u281, u282, u283, u284, u285, u286, u287, u288, u289, u290, u291, u292, u293, u294, u295, u296, u297, u298, u299, u300, u301, u302, u303, u304, u305, u306, u307, u308, u309, u310, u311, u312, u313, u314, u315, u316, u317, u318, u319, u320, u321, u322, u323, u324, u325, u326, u327, u328, u329, u330, u331, u332, u333, u334, u335, u336, u337, u338, u339, u340, u341, u342, u343, u344, u345, u346, u347, u348, u349, u350, u351, u352, u353, u354, u355, u356, u357, u358, u359, u360, u361, u362, u363, u364, u365, u366, u367, u368, u369, u370, u371, u372, u373, u374, u375, u376, u377, u378, u379, u380, u381, u382, u383, u384, u385, u386, u387, u388, u389, u390, u391, u392, u393, u394, u395, u396, u397, u398, u399, u400, u401, u402, u403, u404, u405, u406, u407, u408, u409, u410, u411, u412, u413, u414, u415, u416, u417, u418, u419, u420, u421, u422, u423, u424, u425, u426, u427, u428, u429, u430, u431, u432, u433, u434, u435, u436, u437, u438, u439, u440, u441, u442, u443, u444, u445, u446, u447, u448, u449, u450, u451, u452, u453, u454, u455, u456, u457, u458, u459, u460, u461, u462, u463, u464, u465, u466, u467, u468, u469, u470, u471, u472, u473, u474, u475, u476, u477, u478, u479, u480, u481, u482, u483, u484, u485, u486, u487, u488, u489, u490, u491, u492, u493, u494, u495], []⟩ (w8.setCell ⟨D.B k, 0, none⟩ (.slice qa qn qc))) :
    code.wp Yba.prog Q ⟨#[u0, u1, u2, u3, u4, u5, u6, u7, u8, u9, u10, u11, u12, u13, u14, .int .i64 (D.nb : Int), ptr D.bn, ptr D.ba, ptr D.bt, .slice (some ⟨D.bo, 0, none⟩) D.nb D.nb, .slice (some ⟨D.bs, 0, none⟩) D.nb D.nb, u21, u22, u23, pv, fv, u26, u27, .int .i64 (k : Int), ptr p, u30, u31, u32, u33, u34, u35, u36, u37, u38, u39, u40, u41, u42, u43, u44, u45, u46, u47, u48, u49, u50, u51, u52, u53, u54, u55, u56, u57, u58, u59, u60, u61, u62, u63, u64, u65, u66, u67, u68, u69, u70, u71, u72, u73, u74, u75, u76, u77, u78, u79, u80, u81, u82, u83, u84, u85, u86, u87, u88, u89, u90, u91, u92, u93, u94, u95, u96, u97, u98, u99, u100, u101, u102, u103, u104, u105, u106, u107, u108, u109, u110, u111, u112, u113, u114, u115, u116, u117, u118, u119, u120, u121, u122, u123, u124, u125, u126, u127, u128, u129, u130, u131, u132, u133, u134, u135, u136, u137, u138, u139, u140, u141, u142, u143, u144, u145, u146, u147, u148, u149, u150, u151, u152, u153, u154, u155, u156, u157, u158, u159, u160, u161, u162, u163, u164, u165, u166, u167, u168, u169, u170, u171, u172, u173, u174, u175, u176, u177, u178, u179, u180, u181, u182, u183, u184, u185, u186, u187, u188, u189, u190, u191, u192, u193, u194, u195, u196, u197, u198, u199, u200, u201, u202, u203, u204, u205, u206, u207, u208, u209, u210, u211, u212, u213, u214, u215, u216, u217, u218, u219, u220, u221, u222, u223, u224, u225, u226, u227, u228, u229, u230, u231, u232, u233, u234, u235, u236, u237, u238, u239, u240, u241, u242, u243, u244, u245, u246, u247, u248, u249, u250, u251, u252, u253, u254, u255, u256, u257, u258, u259, u260, u261, u262, u263, u264, u265, u266, u267, u268, u269, u270, u271, u272, u273, u274, u275, u276, u277, u278, u279, u280, u281, u282, u283, u284, u285, u286, u287, u288, u289, u290, u291, u292, u293, u294, u295, u296, u297, u298, u299, u300, u301, u302, u303, u304, u305, u306, u307, u308, u309, u310, u311, u312, u313, u314, u315, u316, u317, u318, u319, u320, u321, u322, u323, u324, u325, u326, u327, u328, u329, u330, u331, u332, u333, u334, u335, u336, u337, u338, u339, u340, u341, u342, u343, u344, u345, u346, u347, u348, u349, u350, u351, u352, u353, u354, u355, u356, u357, u358, u359, u360, u361, u362, u363, u364, u365, u366, u367, u368, u369, u370, u371, u372, u373, u374, u375, u376, u377, u378, u379, u380, u381, u382, u383, u384, u385, u386, u387, u388, u389, u390, u391, u392, u393, u394, u395, u396, u397, u398, u399, u400, u401, u402, u403, u404, u405, u406, u407, u408, u409, u410, u411, u412, u413, u414, u415, u416, u417, u418, u419, u420, u421, u422, u423, u424, u425, u426, u427, u428, u429, u430, u431, u432, u433, u434, u435, u436, u437, u438, u439, u440, u441, u442, u443, u444, u445, u446, u447, u448, u449, u450, u451, u452, u453, u454, u455, u456, u457, u458, u459, u460, u461, u462, u463, u464, u465, u466, u467, u468, u469, u470, u471, u472, u473, u474, u475, u476, u477, u478, u479, u480, u481, u482, u483, u484, u485, u486, u487, u488, u489, u490, u491, u492, u493, u494, u495], []⟩ W := by
  obtain rfl : code = _ := Option.some.inj (hcode.symm.trans (show ((Yba.f3.body).bind (r2tail 6)).bind seqHead = some _ from rfl))
  clear hcode
  have hkI : (k : Int) < (D.nb : Int) := by omega
  have c29 := (htb.at 29).trans ht29
  have ck := (htt.at k).trans hgk
  have b0 := (hbk.at 0).trans hb0
  have HQ := hide hQ
  have HT29 := hide ht29
  have HGK := hide hgk
  have HB0 := hide hb0
  have HN1 := hide (hbk.ne htb (by decide))
  have HN2 := hide (hbk.ne htt (by decide))
  have HROW := hide (hrow.kept ((Kept.refl [] W).drew.alloc (.cells #[ptr p] 58)) (by simp))
  have HBK7 := hide (Blk.alloc (w := W.drew) hbk (.cells #[ptr p] 58))
  have HTB7 := hide (Blk.alloc (w := W.drew) htb (.cells #[ptr p] 58))
  have HTT7 := hide (Blk.alloc (w := W.drew) htt (.cells #[ptr p] 58))
  have HCELL := hide (show (W.drew.alloc (.cells #[ptr p] 58)).cell? ⟨W.heap.size, 0, none⟩ = some (ptr p) from by show (W.alloc (.cells #[ptr p] 58)).cell? ⟨W.heap.size, 0, none⟩ = some (ptr p); simp)
  have HHW := hide (show H ≤ (W.drew.alloc (.cells #[ptr p] 58)).heap.size from by show H ≤ (W.alloc (.cells #[ptr p] 58)).heap.size; simp; omega)
  have HLEN := hide (show xs.length ≤ 100000 by omega)
  have b0d : W.drew.cell? ⟨D.B k, 0, none⟩ = some (.slice ra rn rc) := b0
  have b0a : (W.drew.alloc (.cells #[ptr p] 58)).cell? ⟨D.B k, 0, none⟩ = some (.slice ra rn rc) := (HBK7.out.at 0).trans hb0
  have b0b : (W.alloc (.cells #[ptr p] 58)).cell? ⟨D.B k, 0, none⟩ = some (.slice ra rn rc) := b0a
  have g29 : (W.drew.alloc (.cells #[ptr p] 58)).cell? ⟨D.bt, 29, none⟩ = some (.slice (some ⟨gt, 0, none⟩) D.nb ct) := (HTB7.out.at 29).trans ht29
  have gk : (W.drew.alloc (.cells #[ptr p] 58)).cell? ⟨gt, k, none⟩ = some (ptr (D.B k)) := (HTT7.out.at k).trans hgk
  clear hQ ht29 hgk hb0 hrow hx hH hbk htb htt
  dsimp only
  refine wp_region_noPanic ?_
  refine wp_region_held_drew (S := fun w' => w'.cell? ⟨D.bt, 29, none⟩ = some (.slice (some ⟨gt, 0, none⟩) D.nb ct) ∧ w'.cell? ⟨gt, k, none⟩ = some (ptr (D.B k))) (by kernel_rfl) ⟨c29, ck⟩ (fun hHeld => ?_)
  refine wpAnyH_take (i := 0) (oi := { dst := some 196, op := Go.Op.move (Go.Operand.tmp 18), type := 45, pos := "zz_law_s3506b.go:63", after := #[], guard := none }) (v := ?v0) rfl (by kernel_rfl) (by kernel_rfl) (by kernel_rfl) (fun _ _ _ h => h) (Or.inl ⟨by rfl, ?h0⟩) (by assumption) ?r0
  case h0 => (intro w hSw; (try dsimp only at hSw); go_simp; all_goals with_reducible rfl)
  try simp only [Act.put, List.setIfInBounds_toArray, List.set_cons_zero, List.set_cons_succ]
  refine wpAnyH_take (i := 1) (oi := { dst := some 197, op := Go.Op.nilCheck (Go.Operand.tmp 196), type := 0, pos := "zz_law_s3506b.go:63", after := #[{ on := 0, ground := Go.Ground.data }], guard := none }) (v := ?v1) rfl (by kernel_rfl) (by kernel_rfl) (by kernel_rfl) (fun _ _ _ h => h) (Or.inl ⟨by rfl, ?h1⟩) (by assumption) ?r1
  case h1 => (intro w hSw; (try dsimp only at hSw); go_simp; all_goals with_reducible rfl)
  try simp only [Act.put, List.setIfInBounds_toArray, List.set_cons_zero, List.set_cons_succ]
  refine wpAnyH_take (i := 2) (oi := { dst := some 198, op := Go.Op.fieldAddr 54 (Go.Operand.tmp 197) 2, type := 0, pos := "zz_law_s3506b.go:63", after := #[{ on := 1, ground := Go.Ground.data }], guard := none }) (v := ?v2) rfl (by kernel_rfl) (by kernel_rfl) (by kernel_rfl) (fun _ _ _ h => h) (Or.inl ⟨by rfl, ?h2⟩) (by assumption) ?r2
  case h2 => (intro w hSw; (try dsimp only at hSw); go_simp; all_goals with_reducible rfl)
  try simp only [Act.put, List.setIfInBounds_toArray, List.set_cons_zero, List.set_cons_succ]
  refine wpAnyH_take (i := 3) (oi := { dst := some 199, op := Go.Op.load 51 (Go.Operand.tmp 198), type := 51, pos := "zz_law_s3506b.go:63", after := #[{ on := 2, ground := Go.Ground.data }], guard := none }) (v := ?v3) rfl (by kernel_rfl) (by kernel_rfl) (by kernel_rfl) (fun _ _ _ h => h) (Or.inl ⟨by rfl, ?h3⟩) (by assumption) ?r3
  case h3 => (intro w hSw; (try dsimp only at hSw); go_simp; all_goals with_reducible rfl)
  try simp only [Act.put, List.setIfInBounds_toArray, List.set_cons_zero, List.set_cons_succ]
  refine wpAnyH_take (i := 4) (oi := { dst := some 200, op := Go.Op.move (Go.Operand.tmp 28), type := 3, pos := "zz_law_s3506b.go:63", after := #[], guard := none }) (v := ?v4) rfl (by kernel_rfl) (by kernel_rfl) (by kernel_rfl) (fun _ _ _ h => h) (Or.inl ⟨by rfl, ?h4⟩) (by assumption) ?r4
  case h4 => (intro w hSw; (try dsimp only at hSw); go_simp; all_goals with_reducible rfl)
  try simp only [Act.put, List.setIfInBounds_toArray, List.set_cons_zero, List.set_cons_succ]
  refine wpAnyH_take (i := 5) (oi := { dst := some 201, op := Go.Op.indexAddr 51 (Go.Operand.tmp 199) (Go.Operand.tmp 200), type := 0, pos := "zz_law_s3506b.go:63", after := #[{ on := 3, ground := Go.Ground.data }, { on := 4, ground := Go.Ground.data }], guard := none }) (v := ?v5) rfl (by kernel_rfl) (by kernel_rfl) (by kernel_rfl) (fun _ _ _ h => h) (Or.inl ⟨by rfl, ?h5⟩) (by assumption) ?r5
  case h5 => (intro w hSw; (try dsimp only at hSw); go_simp; all_goals with_reducible rfl)
  try simp only [Act.put, List.setIfInBounds_toArray, List.set_cons_zero, List.set_cons_succ]
  refine wpAnyH_take (i := 6) (oi := { dst := some 202, op := Go.Op.load 57 (Go.Operand.tmp 201), type := 57, pos := "zz_law_s3506b.go:63", after := #[{ on := 5, ground := Go.Ground.data }], guard := none }) (v := ?v6) rfl (by kernel_rfl) (by kernel_rfl) (by kernel_rfl) (fun _ _ _ h => h) (Or.inl ⟨by rfl, ?h6⟩) (by assumption) ?r6
  case h6 => (intro w hSw; (try dsimp only at hSw); go_simp; all_goals with_reducible rfl)
  try simp only [Act.put, List.setIfInBounds_toArray, List.set_cons_zero, List.set_cons_succ]
  refine wpAnyH_take (i := 7) (oi := { dst := some 203, op := Go.Op.move (Go.Operand.tmp 18), type := 45, pos := "zz_law_s3506b.go:63", after := #[], guard := none }) (v := ?v7) rfl (by kernel_rfl) (by kernel_rfl) (by kernel_rfl) (fun _ _ _ h => h) (Or.inl ⟨by rfl, ?h7⟩) (by assumption) ?r7
  case h7 => (intro w hSw; (try dsimp only at hSw); go_simp; all_goals with_reducible rfl)
  try simp only [Act.put, List.setIfInBounds_toArray, List.set_cons_zero, List.set_cons_succ]
  refine wpAnyH_take (i := 8) (oi := { dst := some 204, op := Go.Op.nilCheck (Go.Operand.tmp 203), type := 0, pos := "zz_law_s3506b.go:63", after := #[{ on := 7, ground := Go.Ground.data }], guard := none }) (v := ?v8) rfl (by kernel_rfl) (by kernel_rfl) (by kernel_rfl) (fun _ _ _ h => h) (Or.inl ⟨by rfl, ?h8⟩) (by assumption) ?r8
  case h8 => (intro w hSw; (try dsimp only at hSw); go_simp; all_goals with_reducible rfl)
  try simp only [Act.put, List.setIfInBounds_toArray, List.set_cons_zero, List.set_cons_succ]
  refine wpAnyH_take (i := 9) (oi := { dst := some 205, op := Go.Op.fieldAddr 54 (Go.Operand.tmp 204) 2, type := 0, pos := "zz_law_s3506b.go:63", after := #[{ on := 8, ground := Go.Ground.data }], guard := none }) (v := ?v9) rfl (by kernel_rfl) (by kernel_rfl) (by kernel_rfl) (fun _ _ _ h => h) (Or.inl ⟨by rfl, ?h9⟩) (by assumption) ?r9
  case h9 => (intro w hSw; (try dsimp only at hSw); go_simp; all_goals with_reducible rfl)
  try simp only [Act.put, List.setIfInBounds_toArray, List.set_cons_zero, List.set_cons_succ]
  refine wpAnyH_take (i := 10) (oi := { dst := some 206, op := Go.Op.load 51 (Go.Operand.tmp 205), type := 51, pos := "zz_law_s3506b.go:63", after := #[{ on := 9, ground := Go.Ground.data }], guard := none }) (v := ?v10) rfl (by kernel_rfl) (by kernel_rfl) (by kernel_rfl) (fun _ _ _ h => h) (Or.inl ⟨by rfl, ?h10⟩) (by assumption) ?r10
  case h10 => (intro w hSw; (try dsimp only at hSw); go_simp; all_goals with_reducible rfl)
  try simp only [Act.put, List.setIfInBounds_toArray, List.set_cons_zero, List.set_cons_succ]
  refine wpAnyH_take (i := 11) (oi := { dst := some 207, op := Go.Op.move (Go.Operand.tmp 28), type := 3, pos := "zz_law_s3506b.go:63", after := #[], guard := none }) (v := ?v11) rfl (by kernel_rfl) (by kernel_rfl) (by kernel_rfl) (fun _ _ _ h => h) (Or.inl ⟨by rfl, ?h11⟩) (by assumption) ?r11
  case h11 => (intro w hSw; (try dsimp only at hSw); go_simp; all_goals with_reducible rfl)
  try simp only [Act.put, List.setIfInBounds_toArray, List.set_cons_zero, List.set_cons_succ]
  refine wpAnyH_take (i := 12) (oi := { dst := some 208, op := Go.Op.indexAddr 51 (Go.Operand.tmp 206) (Go.Operand.tmp 207), type := 0, pos := "zz_law_s3506b.go:63", after := #[{ on := 10, ground := Go.Ground.data }, { on := 11, ground := Go.Ground.data }], guard := none }) (v := ?v12) rfl (by kernel_rfl) (by kernel_rfl) (by kernel_rfl) (fun _ _ _ h => h) (Or.inl ⟨by rfl, ?h12⟩) (by assumption) ?r12
  case h12 => (intro w hSw; (try dsimp only at hSw); go_simp; all_goals with_reducible rfl)
  try simp only [Act.put, List.setIfInBounds_toArray, List.set_cons_zero, List.set_cons_succ]
  refine wpAnyH_take (i := 13) (oi := { dst := some 209, op := Go.Op.load 57 (Go.Operand.tmp 208), type := 57, pos := "zz_law_s3506b.go:63", after := #[{ on := 12, ground := Go.Ground.data }], guard := none }) (v := ?v13) rfl (by kernel_rfl) (by kernel_rfl) (by kernel_rfl) (fun _ _ _ h => h) (Or.inl ⟨by rfl, ?h13⟩) (by assumption) ?r13
  case h13 => (intro w hSw; (try dsimp only at hSw); go_simp; all_goals with_reducible rfl)
  try simp only [Act.put, List.setIfInBounds_toArray, List.set_cons_zero, List.set_cons_succ]
  refine wpAnyH_take (i := 14) (oi := { dst := some 210, op := Go.Op.nilCheck (Go.Operand.tmp 209), type := 0, pos := "zz_law_s3506b.go:63", after := #[{ on := 13, ground := Go.Ground.data }], guard := none }) (v := ?v14) rfl (by kernel_rfl) (by kernel_rfl) (by kernel_rfl) (fun _ _ _ h => h) (Or.inl ⟨by rfl, ?h14⟩) (by assumption) ?r14
  case h14 => (intro w hSw; (try dsimp only at hSw); go_simp; all_goals with_reducible rfl)
  try simp only [Act.put, List.setIfInBounds_toArray, List.set_cons_zero, List.set_cons_succ]
  refine wpAnyH_take (i := 15) (oi := { dst := some 211, op := Go.Op.fieldAddr 60 (Go.Operand.tmp 210) 0, type := 0, pos := "zz_law_s3506b.go:63", after := #[{ on := 14, ground := Go.Ground.data }], guard := none }) (v := ?v15) rfl (by kernel_rfl) (by kernel_rfl) (by kernel_rfl) (fun _ _ _ h => h) (Or.inl ⟨by rfl, ?h15⟩) (by assumption) ?r15
  case h15 => (intro w hSw; (try dsimp only at hSw); go_simp; all_goals with_reducible rfl)
  try simp only [Act.put, List.setIfInBounds_toArray, List.set_cons_zero, List.set_cons_succ]
  refine wpAnyH_take (i := 17) (oi := { dst := some 213, op := Go.Op.move (Go.Operand.tmp 29), type := 58, pos := "zz_law_s3506b.go:63", after := #[], guard := none }) (v := ?v17) rfl (by kernel_rfl) (by kernel_rfl) (by kernel_rfl) (fun _ _ _ h => h) (Or.inl ⟨by rfl, ?h17⟩) (by assumption) ?r17
  case h17 => (intro w hSw; (try dsimp only at hSw); go_simp; all_goals with_reducible rfl)
  try simp only [Act.put, List.setIfInBounds_toArray, List.set_cons_zero, List.set_cons_succ]
  refine wpAnyH_ready (rs := [16, 18]) (by kernel_rfl) (by simp) ?_
  refine AllReadyH.cons (o := { dst := some 212, op := Go.Op.load 56 (Go.Operand.tmp 211), type := 56, pos := "zz_law_s3506b.go:63", after := #[{ on := 15, ground := Go.Ground.data }], guard := none }) rfl (fun K hK => ?_) (AllReadyH.cons (o := { dst := some 214, op := Go.Op.buildSlice 56 1 #[(0, Go.Operand.tmp 213)], type := 56, pos := "zz_law_s3506b.go:63", after := #[{ on := 17, ground := Go.Ground.data }], guard := none }) rfl (fun K hK => ?_) AllReadyH.nil)
  · go_simp
    refine hK.out _ _ (And.intro c29 ck) (fun hHeld => ?_)
    clear hK K
    try simp only [Act.put, List.setIfInBounds_toArray, List.set_cons_zero, List.set_cons_succ]
    refine wpAnyH_ready (rs := [18]) (by kernel_rfl) (by simp) ?_
    refine AllReadyH.cons (o := { dst := some 214, op := Go.Op.buildSlice 56 1 #[(0, Go.Operand.tmp 213)], type := 56, pos := "zz_law_s3506b.go:63", after := #[{ on := 17, ground := Go.Ground.data }], guard := none }) rfl (fun K hK => ?_) AllReadyH.nil
    go_simp
    refine hK.out _ _ (And.intro g29 gk) (fun hHeld => ?_)
    clear hK K
    try simp only [Act.put, List.setIfInBounds_toArray, List.set_cons_zero, List.set_cons_succ]
    refine wpAnyH_ready (rs := [19]) (by kernel_rfl) (by simp) ?_
    refine AllReadyH.cons (o := { dst := some 215, op := Go.Op.call { callee := Go.Callee.builtin Go.Builtin.append, args := #[Go.Operand.tmp 212, Go.Operand.tmp 214], argTypes := #[56, 56] }, type := 56, pos := "zz_law_s3506b.go:63", after := #[{ on := 16, ground := Go.Ground.data }, { on := 18, ground := Go.Ground.data }], guard := none }) rfl (fun K hK => ?_) AllReadyH.nil
    refine step_app1s _ rfl (.tmp 212) (.tmp 214) 56 rfl H 58 (.pointer none) 8 info58 rfl (by decide) Yba.underlying56 (.slice ra rn rc) _ (by simp [Act.eval]) (by exact HROW.out) HLEN.out W.heap.size 1 (ptr p) (by simp [Act.eval]) (by exact HCELL.out) rfl (by exact HHW.out) ?_
    intro qa qn qc w8 hl8 hg8 hb8
    have F8 := grown_blk hg8 (by exact HBK7.out) (by exact own_ne HROW.out HBK7.out (by decide))
    have b8 := (F8.at 0).trans HB0.out
    have z8 := F8.free 0
    clear F8
    have q29 : w8.cell? ⟨D.bt, 29, none⟩ = some (.slice (some ⟨gt, 0, none⟩) D.nb ct) := ((grown_blk hg8 (by exact HTB7.out) (by exact own_ne HROW.out HTB7.out (by decide))).at 29).trans HT29.out
    have qk : w8.cell? ⟨gt, k, none⟩ = some (ptr (D.B k)) := ((grown_blk hg8 (by exact HTT7.out) (by exact own_ne HROW.out HTT7.out (by decide))).at k).trans HGK.out
    refine hK.out _ _ (And.intro q29 qk) (fun hHeld => ?_)
    clear hK K
    try simp only [Act.put, List.setIfInBounds_toArray, List.set_cons_zero, List.set_cons_succ]
    refine wpAnyH_take (i := 20) (oi := { dst := some 216, op := Go.Op.nilCheck (Go.Operand.tmp 202), type := 0, pos := "zz_law_s3506b.go:63", after := #[{ on := 6, ground := Go.Ground.data }, { on := 0, ground := Go.Ground.phase }, { on := 1, ground := Go.Ground.phase }, { on := 2, ground := Go.Ground.phase }, { on := 3, ground := Go.Ground.phase }, { on := 4, ground := Go.Ground.phase }, { on := 5, ground := Go.Ground.phase }, { on := 6, ground := Go.Ground.phase }, { on := 7, ground := Go.Ground.phase }, { on := 8, ground := Go.Ground.phase }, { on := 9, ground := Go.Ground.phase }, { on := 10, ground := Go.Ground.phase }, { on := 11, ground := Go.Ground.phase }, { on := 12, ground := Go.Ground.phase }, { on := 13, ground := Go.Ground.phase }, { on := 14, ground := Go.Ground.phase }, { on := 15, ground := Go.Ground.phase }, { on := 16, ground := Go.Ground.phase }, { on := 17, ground := Go.Ground.phase }, { on := 18, ground := Go.Ground.phase }, { on := 19, ground := Go.Ground.phase }], guard := none }) (v := ?v20a) rfl (by kernel_rfl) (by kernel_rfl) (by kernel_rfl) (fun _ _ _ h => h) (Or.inl ⟨by rfl, ?h20a⟩) (by assumption) ?r20a
    case h20a => (intro w hSw; (try dsimp only at hSw); go_simp; all_goals with_reducible rfl)
    try simp only [Act.put, List.setIfInBounds_toArray, List.set_cons_zero, List.set_cons_succ]
    refine wpAnyH_take (i := 21) (oi := { dst := some 217, op := Go.Op.fieldAddr 60 (Go.Operand.tmp 216) 0, type := 0, pos := "zz_law_s3506b.go:63", after := #[{ on := 20, ground := Go.Ground.data }, { on := 0, ground := Go.Ground.phase }, { on := 1, ground := Go.Ground.phase }, { on := 2, ground := Go.Ground.phase }, { on := 3, ground := Go.Ground.phase }, { on := 4, ground := Go.Ground.phase }, { on := 5, ground := Go.Ground.phase }, { on := 6, ground := Go.Ground.phase }, { on := 7, ground := Go.Ground.phase }, { on := 8, ground := Go.Ground.phase }, { on := 9, ground := Go.Ground.phase }, { on := 10, ground := Go.Ground.phase }, { on := 11, ground := Go.Ground.phase }, { on := 12, ground := Go.Ground.phase }, { on := 13, ground := Go.Ground.phase }, { on := 14, ground := Go.Ground.phase }, { on := 15, ground := Go.Ground.phase }, { on := 16, ground := Go.Ground.phase }, { on := 17, ground := Go.Ground.phase }, { on := 18, ground := Go.Ground.phase }, { on := 19, ground := Go.Ground.phase }], guard := none }) (v := ?v21a) rfl (by kernel_rfl) (by kernel_rfl) (by kernel_rfl) (fun _ _ _ h => h) (Or.inl ⟨by rfl, ?h21a⟩) (by assumption) ?r21a
    case h21a => (intro w hSw; (try dsimp only at hSw); go_simp; all_goals with_reducible rfl)
    try simp only [Act.put, List.setIfInBounds_toArray, List.set_cons_zero, List.set_cons_succ]
    refine wpAnyH_ready (rs := [22]) (by kernel_rfl) (by simp) ?_
    refine AllReadyH.cons (o := { dst := none, op := Go.Op.store 56 (Go.Operand.tmp 217) (Go.Operand.tmp 215), type := 0, pos := "zz_law_s3506b.go:63", after := #[{ on := 21, ground := Go.Ground.data }, { on := 19, ground := Go.Ground.data }, { on := 19, ground := Go.Ground.chain }, { on := 0, ground := Go.Ground.phase }, { on := 1, ground := Go.Ground.phase }, { on := 2, ground := Go.Ground.phase }, { on := 3, ground := Go.Ground.phase }, { on := 4, ground := Go.Ground.phase }, { on := 5, ground := Go.Ground.phase }, { on := 6, ground := Go.Ground.phase }, { on := 7, ground := Go.Ground.phase }, { on := 8, ground := Go.Ground.phase }, { on := 9, ground := Go.Ground.phase }, { on := 10, ground := Go.Ground.phase }, { on := 11, ground := Go.Ground.phase }, { on := 12, ground := Go.Ground.phase }, { on := 13, ground := Go.Ground.phase }, { on := 14, ground := Go.Ground.phase }, { on := 15, ground := Go.Ground.phase }, { on := 16, ground := Go.Ground.phase }, { on := 17, ground := Go.Ground.phase }, { on := 18, ground := Go.Ground.phase }, { on := 19, ground := Go.Ground.phase }], guard := none }) rfl (fun K hK => ?_) AllReadyH.nil
    go_simp
    refine hK.out _ _ (And.intro ((World.cell?_setCell_far _ ⟨D.B k, 0, none⟩ ⟨D.bt, 29, none⟩ _ HN1.out).trans q29) ((World.cell?_setCell_far _ ⟨D.B k, 0, none⟩ ⟨gt, k, none⟩ _ HN2.out).trans qk)) (fun hHeld2 => ?_)
    clear hK K
    try simp only [Act.put, List.setIfInBounds_toArray, List.set_cons_zero, List.set_cons_succ]
    refine wpAnyH_done (by kernel_rfl) ?_ _
    refine NoPanic.normal ?_
    exact HQ.out _ _ _ _ _ _ _ _ _ _ _ _ _ _ _ _ _ _ _ _ _ _ qa qn qc w8 hl8 hg8 hb8
  · go_simp
    refine hK.out _ _ (And.intro g29 gk) (fun hHeld => ?_)
    clear hK K
    try simp only [Act.put, List.setIfInBounds_toArray, List.set_cons_zero, List.set_cons_succ]
    refine wpAnyH_ready (rs := [16]) (by kernel_rfl) (by simp) ?_
    refine AllReadyH.cons (o := { dst := some 212, op := Go.Op.load 56 (Go.Operand.tmp 211), type := 56, pos := "zz_law_s3506b.go:63", after := #[{ on := 15, ground := Go.Ground.data }], guard := none }) rfl (fun K hK => ?_) AllReadyH.nil
    go_simp
    refine hK.out _ _ (And.intro g29 gk) (fun hHeld => ?_)
    clear hK K
    try simp only [Act.put, List.setIfInBounds_toArray, List.set_cons_zero, List.set_cons_succ]
    refine wpAnyH_ready (rs := [19]) (by kernel_rfl) (by simp) ?_
    refine AllReadyH.cons (o := { dst := some 215, op := Go.Op.call { callee := Go.Callee.builtin Go.Builtin.append, args := #[Go.Operand.tmp 212, Go.Operand.tmp 214], argTypes := #[56, 56] }, type := 56, pos := "zz_law_s3506b.go:63", after := #[{ on := 16, ground := Go.Ground.data }, { on := 18, ground := Go.Ground.data }], guard := none }) rfl (fun K hK => ?_) AllReadyH.nil
    refine step_app1s _ rfl (.tmp 212) (.tmp 214) 56 rfl H 58 (.pointer none) 8 info58 rfl (by decide) Yba.underlying56 (.slice ra rn rc) _ (by simp [Act.eval]) (by exact HROW.out) HLEN.out W.heap.size 1 (ptr p) (by simp [Act.eval]) (by exact HCELL.out) rfl (by exact HHW.out) ?_
    intro qa qn qc w8 hl8 hg8 hb8
    have F8 := grown_blk hg8 (by exact HBK7.out) (by exact own_ne HROW.out HBK7.out (by decide))
    have b8 := (F8.at 0).trans HB0.out
    have z8 := F8.free 0
    clear F8
    have q29 : w8.cell? ⟨D.bt, 29, none⟩ = some (.slice (some ⟨gt, 0, none⟩) D.nb ct) := ((grown_blk hg8 (by exact HTB7.out) (by exact own_ne HROW.out HTB7.out (by decide))).at 29).trans HT29.out
    have qk : w8.cell? ⟨gt, k, none⟩ = some (ptr (D.B k)) := ((grown_blk hg8 (by exact HTT7.out) (by exact own_ne HROW.out HTT7.out (by decide))).at k).trans HGK.out
    refine hK.out _ _ (And.intro q29 qk) (fun hHeld => ?_)
    clear hK K
    try simp only [Act.put, List.setIfInBounds_toArray, List.set_cons_zero, List.set_cons_succ]
    refine wpAnyH_take (i := 20) (oi := { dst := some 216, op := Go.Op.nilCheck (Go.Operand.tmp 202), type := 0, pos := "zz_law_s3506b.go:63", after := #[{ on := 6, ground := Go.Ground.data }, { on := 0, ground := Go.Ground.phase }, { on := 1, ground := Go.Ground.phase }, { on := 2, ground := Go.Ground.phase }, { on := 3, ground := Go.Ground.phase }, { on := 4, ground := Go.Ground.phase }, { on := 5, ground := Go.Ground.phase }, { on := 6, ground := Go.Ground.phase }, { on := 7, ground := Go.Ground.phase }, { on := 8, ground := Go.Ground.phase }, { on := 9, ground := Go.Ground.phase }, { on := 10, ground := Go.Ground.phase }, { on := 11, ground := Go.Ground.phase }, { on := 12, ground := Go.Ground.phase }, { on := 13, ground := Go.Ground.phase }, { on := 14, ground := Go.Ground.phase }, { on := 15, ground := Go.Ground.phase }, { on := 16, ground := Go.Ground.phase }, { on := 17, ground := Go.Ground.phase }, { on := 18, ground := Go.Ground.phase }, { on := 19, ground := Go.Ground.phase }], guard := none }) (v := ?v20b) rfl (by kernel_rfl) (by kernel_rfl) (by kernel_rfl) (fun _ _ _ h => h) (Or.inl ⟨by rfl, ?h20b⟩) (by assumption) ?r20b
    case h20b => (intro w hSw; (try dsimp only at hSw); go_simp; all_goals with_reducible rfl)
    try simp only [Act.put, List.setIfInBounds_toArray, List.set_cons_zero, List.set_cons_succ]
    refine wpAnyH_take (i := 21) (oi := { dst := some 217, op := Go.Op.fieldAddr 60 (Go.Operand.tmp 216) 0, type := 0, pos := "zz_law_s3506b.go:63", after := #[{ on := 20, ground := Go.Ground.data }, { on := 0, ground := Go.Ground.phase }, { on := 1, ground := Go.Ground.phase }, { on := 2, ground := Go.Ground.phase }, { on := 3, ground := Go.Ground.phase }, { on := 4, ground := Go.Ground.phase }, { on := 5, ground := Go.Ground.phase }, { on := 6, ground := Go.Ground.phase }, { on := 7, ground := Go.Ground.phase }, { on := 8, ground := Go.Ground.phase }, { on := 9, ground := Go.Ground.phase }, { on := 10, ground := Go.Ground.phase }, { on := 11, ground := Go.Ground.phase }, { on := 12, ground := Go.Ground.phase }, { on := 13, ground := Go.Ground.phase }, { on := 14, ground := Go.Ground.phase }, { on := 15, ground := Go.Ground.phase }, { on := 16, ground := Go.Ground.phase }, { on := 17, ground := Go.Ground.phase }, { on := 18, ground := Go.Ground.phase }, { on := 19, ground := Go.Ground.phase }], guard := none }) (v := ?v21b) rfl (by kernel_rfl) (by kernel_rfl) (by kernel_rfl) (fun _ _ _ h => h) (Or.inl ⟨by rfl, ?h21b⟩) (by assumption) ?r21b
    case h21b => (intro w hSw; (try dsimp only at hSw); go_simp; all_goals with_reducible rfl)
    try simp only [Act.put, List.setIfInBounds_toArray, List.set_cons_zero, List.set_cons_succ]
    refine wpAnyH_ready (rs := [22]) (by kernel_rfl) (by simp) ?_
    refine AllReadyH.cons (o := { dst := none, op := Go.Op.store 56 (Go.Operand.tmp 217) (Go.Operand.tmp 215), type := 0, pos := "zz_law_s3506b.go:63", after := #[{ on := 21, ground := Go.Ground.data }, { on := 19, ground := Go.Ground.data }, { on := 19, ground := Go.Ground.chain }, { on := 0, ground := Go.Ground.phase }, { on := 1, ground := Go.Ground.phase }, { on := 2, ground := Go.Ground.phase }, { on := 3, ground := Go.Ground.phase }, { on := 4, ground := Go.Ground.phase }, { on := 5, ground := Go.Ground.phase }, { on := 6, ground := Go.Ground.phase }, { on := 7, ground := Go.Ground.phase }, { on := 8, ground := Go.Ground.phase }, { on := 9, ground := Go.Ground.phase }, { on := 10, ground := Go.Ground.phase }, { on := 11, ground := Go.Ground.phase }, { on := 12, ground := Go.Ground.phase }, { on := 13, ground := Go.Ground.phase }, { on := 14, ground := Go.Ground.phase }, { on := 15, ground := Go.Ground.phase }, { on := 16, ground := Go.Ground.phase }, { on := 17, ground := Go.Ground.phase }, { on := 18, ground := Go.Ground.phase }, { on := 19, ground := Go.Ground.phase }], guard := none }) rfl (fun K hK => ?_) AllReadyH.nil
    go_simp
    refine hK.out _ _ (And.intro ((World.cell?_setCell_far _ ⟨D.B k, 0, none⟩ ⟨D.bt, 29, none⟩ _ HN1.out).trans q29) ((World.cell?_setCell_far _ ⟨D.B k, 0, none⟩ ⟨gt, k, none⟩ _ HN2.out).trans qk)) (fun hHeld2 => ?_)
    clear hK K
    try simp only [Act.put, List.setIfInBounds_toArray, List.set_cons_zero, List.set_cons_succ]
    refine wpAnyH_done (by kernel_rfl) ?_ _
    refine NoPanic.normal ?_
    exact HQ.out _ _ _ _ _ _ _ _ _ _ _ _ _ _ _ _ _ _ _ _ _ _ qa qn qc w8 hl8 hg8 hb8

end Go.Proofs.Ybulkbtow
