/-
  BModel: the law's loop over the buckets
-/
import Derived.Test.YbulkbtowMT9
namespace Go.Proofs.Ybulkbtow
open Go.RowKit
set_option linter.unusedVariables false

theorem st29 : Yba.prog.underlying 29 = some (.struct (Yba.prog.fieldsOf 29)) := by kernel_rfl
theorem si29 : Yba.prog.stoodInHeld 29 = false := by kernel_rfl
theorem eq27 (d : Nat) (w : World) : (Op.equalIn (d + 1) 27 (.pointer none) (.pointer none)).run Yba.prog w = .ok true w := by
  simp [Op.equalIn, run_underlying Yba.underlying27]
theorem neq29 (a b : Int) (w : World) : (binOp .neq 29 (.agg #[.int .u64 a, .int .i64 b, .pointer none]) (.agg #[.int .u64 a, .int .i64 b, .pointer none])).run Yba.prog w = .ok (.bool false) w := by
  have h27 := eq27
  rw [run_neq_struct, show (10000 : Nat) = 9999 + 1 from rfl, run_equalIn_agg w 9999 29 _ _ st29 si29]
  simp only [Program.fieldsOf, Yba.underlying29]
  go_simp
theorem guard29 : Yba.prog.eqGuardType Yba.prog.depth 29 = false := by kernel_rfl
theorem eg29 (op : BinOp) (x y : Operand) (xs ys : Array Value) (w : World) : (eqGuard op 29 x y (.agg xs) (.agg ys)).run Yba.prog w = .ok () w := run_eqGuard_agg w op 29 x y xs ys guard29

/-- The buckets as the law reads them at its end. -/
structure Ends (nb bt gt ct bo bs bn : Nat) (B len : Nat → Nat) (bv ov sv spv : Nat → Value) (tw tx : Nat → Int) (cb cb' : Nat → Nat → Nat) (na nx : Int) (w : World) : Prop where
  t29 : w.cell? ⟨bt, 29, none⟩ = some (.slice (some ⟨gt, 0, none⟩) nb ct)
  tc : ∀ k, k < nb → w.cell? ⟨gt, k, none⟩ = some (ptr (B k))
  b0 : ∀ k, k < nb → w.cell? ⟨B k, 0, none⟩ = some (bv k)
  b1 : ∀ k, k < nb → w.cell? ⟨B k, 1, none⟩ = some (sv k)
  b3 : ∀ k, k < nb → w.cell? ⟨B k, 3, none⟩ = some (.int .u64 (tw k))
  b4 : ∀ k, k < nb → w.cell? ⟨B k, 4, none⟩ = some (.int .i64 (tx k))
  b5 : ∀ k, k < nb → w.cell? ⟨B k, 5, none⟩ = some (.pointer none)
  oc : ∀ k, k < nb → w.cell? ⟨bo, k, none⟩ = some (ov k)
  sc : ∀ k, k < nb → w.cell? ⟨bs, k, none⟩ = some (spv k)
  n0 : w.cell? ⟨bn, 0, none⟩ = some (.int .u64 na)
  n1 : w.cell? ⟨bn, 1, none⟩ = some (.int .i64 nx)
  n2 : w.cell? ⟨bn, 2, none⟩ = some (.pointer none)
  rb : ∀ k, k < nb → RowV w (bv k) (len k) (fun j => ptr (cb' k j))
  ro : ∀ k, k < nb → RowV w (ov k) (len k) (fun j => ptr (cb k j))

theorem Ends.below {nb bt gt ct bo bs bn : Nat} {B len : Nat → Nat} {bv ov sv spv : Nat → Value} {tw tx : Nat → Int} {cb cb' : Nat → Nat → Nat} {na nx : Int} {w w' : World} (h : Ends nb bt gt ct bo bs bn B len bv ov sv spv tw tx cb cb' na nx w) (hb : Below w.heap.size w w') : Ends nb bt gt ct bo bs bn B len bv ov sv spv tw tx cb cb' na nx w' :=
  ⟨cell_below h.t29 hb, fun k hk => cell_below (h.tc k hk) hb, fun k hk => cell_below (h.b0 k hk) hb, fun k hk => cell_below (h.b1 k hk) hb, fun k hk => cell_below (h.b3 k hk) hb, fun k hk => cell_below (h.b4 k hk) hb, fun k hk => cell_below (h.b5 k hk) hb, fun k hk => cell_below (h.oc k hk) hb, fun k hk => cell_below (h.sc k hk) hb, cell_below h.n0 hb, cell_below h.n1 hb, cell_below h.n2 hb, fun k hk => (h.rb k hk).below hb, fun k hk => (h.ro k hk).below hb⟩

/-- The one place where they may differ. -/
structure Swap (nb : Nat) (len : Nat → Nat) (sv spv : Nat → Value) (tw tx : Nat → Int) (cb cb' : Nat → Nat → Nat) (na nx : Int) (rep : Bool) (hK hJ : Int) : Prop where
  shape : ∀ k, k < nb → spv k = .pointer none ∨ ∃ z, spv k = ptr z
  same : ∀ k, k < nb → ¬ (rep = true ∧ hK = (k : Int)) → sv k = spv k ∧ tw k = 0 ∧ tx k = 0
  turn : ∀ k, k < nb → rep = true → hK = (k : Int) → sv k = .pointer none ∧ tw k = na ∧ tx k = nx
  rest : ∀ k, k < nb → ∀ j, j < len k → ¬ (rep = true ∧ hK = (k : Int) ∧ hJ = (j : Int)) → cb' k j = cb k j
  place : ∀ k, k < nb → ∀ j, j < len k → rep = true → hK = (k : Int) → hJ = (j : Int) → spv k = ptr (cb' k j)

set_option maxRecDepth 100000 in
set_option maxHeartbeats 8000000 in
theorem m7 (u0 u1 u2 u3 u4 u5 u6 u7 u8 u9 u10 u11 u12 u13 u14 u17 u21 u22 u23 u26 u27 u28 u29 u30 u31 u32 u33 u36 u37 u40 u41 u42 u43 u44 u45 u46 u47 u48 u49 u50 u51 u52 u53 u54 u55 u56 u57 u58 u59 u60 u61 u62 u63 u64 u65 u66 u67 u68 u69 u70 u71 u72 u73 u74 u75 u76 u77 u78 u79 u80 u81 u82 u83 u84 u85 u86 u87 u88 u89 u90 u91 u92 u93 u94 u95 u96 u97 u98 u99 u100 u101 u102 u103 u104 u105 u106 u107 u108 u109 u110 u111 u112 u113 u114 u115 u116 u117 u118 u119 u120 u121 u122 u123 u124 u125 u126 u127 u128 u129 u130 u131 u132 u133 u134 u135 u136 u137 u138 u139 u140 u141 u142 u143 u144 u145 u146 u147 u148 u149 u150 u151 u152 u153 u154 u155 u156 u157 u158 u159 u160 u161 u162 u163 u164 u165 u166 u167 u168 u169 u170 u171 u172 u173 u174 u175 u176 u177 u178 u179 u180 u181 u182 u183 u184 u185 u186 u187 u188 u189 u190 u191 u192 u193 u194 u195 u196 u197 u198 u199 u200 u201 u202 u203 u204 u205 u206 u207 u208 u209 u210 u211 u212 u213 u214 u215 u216 u217 u218 u219 u220 u221 u222 u223 u224 u225 u226 u227 u228 u229 u230 u231 u232 u233 u234 u235 u236 u237 u238 u239 u240 u241 u242 u243 u244 u245 u246 u247 u248 u249 u250 u251 u252 u253 u254 u255 u256 u257 u258 u259 u260 u261 u262 u263 u264 u265 u266 u267 u268 u269 u270 u271 u272 u273 u274 u275 u276 u277 u278 u279 u280 u281 u282 u283 u284 u285 u286 u287 u288 u289 u290 u291 u292 u293 u294 u295 u296 u297 u298 u299 u300 u301 u302 u303 u304 u305 u306 u307 u308 u309 u310 u311 u312 u313 u314 u315 u316 u317 u318 u319 u320 u321 u322 u323 u324 u325 u326 u327 u328 u329 u330 u331 u332 u333 u334 u335 u336 u337 u338 u339 u340 u341 u342 u343 u344 u345 u346 u347 u348 u349 u350 u351 u352 u353 u354 u355 u356 u357 u358 u359 u360 u361 u362 u363 u364 u365 u366 u367 u368 u369 u370 u371 u372 u373 u374 u375 u376 u377 u378 u379 u380 u381 u382 u383 u384 u385 u386 u387 u388 u389 u390 u391 u392 u393 u394 u395 u396 u397 u398 u399 u400 u401 u402 u403 u404 u405 u406 u407 u408 u409 u410 u411 u412 u413 u414 u415 u416 u417 u418 u419 u420 u421 u422 u423 u424 u425 u426 u427 u428 u429 u430 u431 u432 u433 u434 u435 u436 u437 u438 u439 u440 u441 u442 u443 u444 u445 u446 u447 u448 u449 u450 u451 u452 u453 u454 u455 u456 u457 u458 u459 u460 u461 u462 u463 u464 u465 u466 u467 u468 u469 u470 u471 u472 u473 u474 u475 u476 u477 u478 u479 u480 u481 u482 u483 u484 u485 u486 u487 u488 u489 u490 u491 u492 u493 u494 u495 : Value) (nb bt gt ct bo bs bn : Nat) (B len : Nat → Nat) (bv ov sv spv : Nat → Value) (tw tx : Nat → Int) (cb cb' : Nat → Nat → Nat) (na nx : Int) (rep : Bool) (hK hJ : Int)
    (m i0 : Nat) (P : Nat → Nat) (fl : Nat → Int) (pv fv hp : Value) (W : World) (R : Ending → World → Prop) (code : Code) (hcode : (Yba.f3.body).bind (mtail 25) = some code)
    (hE : Ends nb bt gt ct bo bs bn B len bv ov sv spv tw tx cb cb' na nx W) (hS : Swap nb len sv spv tw tx cb cb' na nx rep hK hJ) (hnb : nb ≤ 4) (hlen : ∀ k, k < nb → len k ≤ 100000)
    (hm : m ≤ 1024) (hpv : RowV W pv m (fun i => ptr (P i))) (hfv : RowV W fv m (fun i => .int .i64 (fl i))) (hfl : ∀ i, i < m → -128 ≤ fl i ∧ fl i ≤ 127)
    (hB : ∀ i, i < m → ∃ cs, Blk W (P i) 66 cs) (hF : ∀ i, i < m → W.cell? ⟨P i, 30, none⟩ = some (.int .i64 (if i = i0 then fl i + 1 else fl i))) (hhp : (i0 < m ∧ hp = ptr (P i0)) ∨ (m ≤ i0 ∧ hp = .pointer none)) (hinj : ∀ i j, i < m → j < m → P i = P j → i = j)
    (hfin : ∀ w', Below W.heap.size W w' → R (.returned (.bool true)) w') :
    code.wp Yba.prog (Exit.noGoto (bodyPost Yba.prog Yba.f3 R)) ⟨#[u0, u1, u2, u3, u4, u5, u6, u7, u8, u9, u10, u11, u12, u13, u14, .int .i64 (nb : Int), ptr bn, u17, ptr bt, .slice (some ⟨bo, 0, none⟩) nb nb, .slice (some ⟨bs, 0, none⟩) nb nb, u21, u22, u23, pv, fv, u26, u27, u28, u29, u30, u31, u32, u33, .int .i64 hK, .int .i64 hJ, u36, u37, hp, .bool rep, u40, u41, u42, u43, u44, u45, u46, u47, u48, u49, u50, u51, u52, u53, u54, u55, u56, u57, u58, u59, u60, u61, u62, u63, u64, u65, u66, u67, u68, u69, u70, u71, u72, u73, u74, u75, u76, u77, u78, u79, u80, u81, u82, u83, u84, u85, u86, u87, u88, u89, u90, u91, u92, u93, u94, u95, u96, u97, u98, u99, u100, u101, u102, u103, u104, u105, u106, u107, u108, u109, u110, u111, u112, u113, u114, u115, u116, u117, u118, u119, u120, u121, u122, u123, u124, u125, u126, u127, u128, u129, u130, u131, u132, u133, u134, u135, u136, u137, u138, u139, u140, u141, u142, u143, u144, u145, u146, u147, u148, u149, u150, u151, u152, u153, u154, u155, u156, u157, u158, u159, u160, u161, u162, u163, u164, u165, u166, u167, u168, u169, u170, u171, u172, u173, u174, u175, u176, u177, u178, u179, u180, u181, u182, u183, u184, u185, u186, u187, u188, u189, u190, u191, u192, u193, u194, u195, u196, u197, u198, u199, u200, u201, u202, u203, u204, u205, u206, u207, u208, u209, u210, u211, u212, u213, u214, u215, u216, u217, u218, u219, u220, u221, u222, u223, u224, u225, u226, u227, u228, u229, u230, u231, u232, u233, u234, u235, u236, u237, u238, u239, u240, u241, u242, u243, u244, u245, u246, u247, u248, u249, u250, u251, u252, u253, u254, u255, u256, u257, u258, u259, u260, u261, u262, u263, u264, u265, u266, u267, u268, u269, u270, u271, u272, u273, u274, u275, u276, u277, u278, u279, u280, u281, u282, u283, u284, u285, u286, u287, u288, u289, u290, u291, u292, u293, u294, u295, u296, u297, u298, u299, u300, u301, u302, u303, u304, u305, u306, u307, u308, u309, u310, u311, u312, u313, u314, u315, u316, u317, u318, u319, u320, u321, u322, u323, u324, u325, u326, u327, u328, u329, u330, u331, u332, u333, u334, u335, u336, u337, u338, u339, u340, u341, u342, u343, u344, u345, u346, u347, u348, u349, u350, u351, u352, u353, u354, u355, u356, u357, u358, u359, u360, u361, u362, u363, u364, u365, u366, u367, u368, u369, u370, u371, u372, u373, u374, u375, u376, u377, u378, u379, u380, u381, u382, u383, u384, u385, u386, u387, u388, u389, u390, u391, u392, u393, u394, u395, u396, u397, u398, u399, u400, u401, u402, u403, u404, u405, u406, u407, u408, u409, u410, u411, u412, u413, u414, u415, u416, u417, u418, u419, u420, u421, u422, u423, u424, u425, u426, u427, u428, u429, u430, u431, u432, u433, u434, u435, u436, u437, u438, u439, u440, u441, u442, u443, u444, u445, u446, u447, u448, u449, u450, u451, u452, u453, u454, u455, u456, u457, u458, u459, u460, u461, u462, u463, u464, u465, u466, u467, u468, u469, u470, u471, u472, u473, u474, u475, u476, u477, u478, u479, u480, u481, u482, u483, u484, u485, u486, u487, u488, u489, u490, u491, u492, u493, u494, u495], []⟩ W := by
  obtain rfl : code = _ := Option.some.inj (hcode.symm.trans (show (Yba.f3.body).bind (mtail 25) = some _ from rfl))
  clear hcode
  have HM9 : Hid (∀ w', Below W.heap.size W w' → ∀ (u0 u1 u2 u3 u4 u5 u6 u7 u8 u9 u10 u11 u12 u13 u14 u15 u16 u17 u18 u19 u20 u21 u22 u23 u26 u27 u28 u29 u30 u31 u32 u33 u34 u35 u36 u37 u39 u40 u41 u42 u43 u44 u45 u46 u47 u48 u49 u50 u51 u52 u53 u54 u55 u56 u57 u58 u59 u60 u61 u62 u63 u64 u65 u66 u67 u68 u69 u70 u71 u72 u73 u74 u75 u76 u77 u78 u79 u80 u81 u82 u83 u84 u85 u86 u87 u88 u89 u90 u91 u92 u93 u94 u95 u96 u97 u98 u99 u100 u101 u102 u103 u104 u105 u106 u107 u108 u109 u110 u111 u112 u113 u114 u115 u116 u117 u118 u119 u120 u121 u122 u123 u124 u125 u126 u127 u128 u129 u130 u131 u132 u133 u134 u135 u136 u137 u138 u139 u140 u141 u142 u143 u144 u145 u146 u147 u148 u149 u150 u151 u152 u153 u154 u155 u156 u157 u158 u159 u160 u161 u162 u163 u164 u165 u166 u167 u168 u169 u170 u171 u172 u173 u174 u175 u176 u177 u178 u179 u180 u181 u182 u183 u184 u185 u186 u187 u188 u189 u190 u191 u192 u193 u194 u195 u196 u197 u198 u199 u200 u201 u202 u203 u204 u205 u206 u207 u208 u209 u210 u211 u212 u213 u214 u215 u216 u217 u218 u219 u220 u221 u222 u223 u224 u225 u226 u227 u228 u229 u230 u231 u232 u233 u234 u235 u236 u237 u238 u239 u240 u241 u242 u243 u244 u245 u246 u247 u248 u249 u250 u251 u252 u253 u254 u255 u256 u257 u258 u259 u260 u261 u262 u263 u264 u265 u266 u267 u268 u269 u270 u271 u272 u273 u274 u275 u276 u277 u278 u279 u280 u281 u282 u283 u284 u285 u286 u287 u288 u289 u290 u291 u292 u293 u294 u295 u296 u297 u298 u299 u300 u301 u302 u303 u304 u305 u306 u307 u308 u309 u310 u311 u312 u313 u314 u315 u316 u317 u318 u319 u320 u321 u322 u323 u324 u325 u326 u327 u328 u329 u330 u331 u332 u333 u334 u335 u336 u337 u338 u339 u340 u341 u342 u343 u344 u345 u346 u347 u348 u349 u350 u351 u352 u353 u354 u355 u356 u357 u358 u359 u360 u361 u362 u363 u364 u365 u366 u367 u368 u369 u370 u371 u372 u373 u374 u375 u376 u377 u378 u379 u380 u381 u382 u383 u384 u385 u386 u387 u388 u389 u390 u391 u392 u393 u394 u395 u396 u397 u398 u399 u400 u401 u402 u403 u404 u405 u406 u407 u408 u409 u410 u411 u412 u413 u414 u415 u416 u417 u418 u419 u420 u421 u422 u423 u424 u425 u426 u427 u428 u429 u430 u431 u432 u433 u434 u435 u436 u437 u438 u439 u440 u441 u442 u443 u444 u445 u446 u447 u448 u449 u450 u451 u452 u453 u454 u455 u456 u457 u458 u459 u460 u461 u462 u463 u464 u465 u466 u467 u468 u469 u470 u471 u472 u473 u474 u475 u476 u477 u478 u479 u480 u481 u482 u483 u484 u485 u486 u487 u488 u489 u490 u491 u492 u493 u494 u495 : Value) (code : Code) (hcode : (Yba.f3.body).bind (mtail 27) = some code), code.wp Yba.prog (Exit.noGoto (bodyPost Yba.prog Yba.f3 R)) ⟨#[u0, u1, u2, u3, u4, u5, u6, u7, u8, u9, u10, u11, u12, u13, u14, u15, u16, u17, u18, u19, u20, u21, u22, u23, pv, fv, u26, u27, u28, u29, u30, u31, u32, u33, u34, u35, u36, u37, hp, u39, u40, u41, u42, u43, u44, u45, u46, u47, u48, u49, u50, u51, u52, u53, u54, u55, u56, u57, u58, u59, u60, u61, u62, u63, u64, u65, u66, u67, u68, u69, u70, u71, u72, u73, u74, u75, u76, u77, u78, u79, u80, u81, u82, u83, u84, u85, u86, u87, u88, u89, u90, u91, u92, u93, u94, u95, u96, u97, u98, u99, u100, u101, u102, u103, u104, u105, u106, u107, u108, u109, u110, u111, u112, u113, u114, u115, u116, u117, u118, u119, u120, u121, u122, u123, u124, u125, u126, u127, u128, u129, u130, u131, u132, u133, u134, u135, u136, u137, u138, u139, u140, u141, u142, u143, u144, u145, u146, u147, u148, u149, u150, u151, u152, u153, u154, u155, u156, u157, u158, u159, u160, u161, u162, u163, u164, u165, u166, u167, u168, u169, u170, u171, u172, u173, u174, u175, u176, u177, u178, u179, u180, u181, u182, u183, u184, u185, u186, u187, u188, u189, u190, u191, u192, u193, u194, u195, u196, u197, u198, u199, u200, u201, u202, u203, u204, u205, u206, u207, u208, u209, u210, u211, u212, u213, u214, u215, u216, u217, u218, u219, u220, u221, u222, u223, u224, u225, u226, u227, u228, u229, u230, u231, u232, u233, u234, u235, u236, u237, u238, u239, u240, u241, u242, u243, u244, u245, u246, u247, u248, u249, u250, u251, u252, u253, u254, u255, u256, u257, u258, u259, u260, u261, u262, u263, u264, u265, u266, u267, u268, u269, u270, u271, u272, u273, u274, u275, u276, u277, u278, u279, u280, u281, u282, u283, u284, u285, u286, u287, u288, u289, u290, u291, u292, u293, u294, u295, u296, u297, u298, u299, u300, u301, u302, u303, u304, u305, u306, u307, u308, u309, u310, u311, u312, u313, u314, u315, u316, u317, u318, u319, u320, u321, u322, u323, u324, u325, u326, u327, u328, u329, u330, u331, u332, u333, u334, u335, u336, u337, u338, u339, u340, u341, u342, u343, u344, u345, u346, u347, u348, u349, u350, u351, u352, u353, u354, u355, u356, u357, u358, u359, u360, u361, u362, u363, u364, u365, u366, u367, u368, u369, u370, u371, u372, u373, u374, u375, u376, u377, u378, u379, u380, u381, u382, u383, u384, u385, u386, u387, u388, u389, u390, u391, u392, u393, u394, u395, u396, u397, u398, u399, u400, u401, u402, u403, u404, u405, u406, u407, u408, u409, u410, u411, u412, u413, u414, u415, u416, u417, u418, u419, u420, u421, u422, u423, u424, u425, u426, u427, u428, u429, u430, u431, u432, u433, u434, u435, u436, u437, u438, u439, u440, u441, u442, u443, u444, u445, u446, u447, u448, u449, u450, u451, u452, u453, u454, u455, u456, u457, u458, u459, u460, u461, u462, u463, u464, u465, u466, u467, u468, u469, u470, u471, u472, u473, u474, u475, u476, u477, u478, u479, u480, u481, u482, u483, u484, u485, u486, u487, u488, u489, u490, u491, u492, u493, u494, u495], []⟩ w') := by
    intro w' hb u0 u1 u2 u3 u4 u5 u6 u7 u8 u9 u10 u11 u12 u13 u14 u15 u16 u17 u18 u19 u20 u21 u22 u23 u26 u27 u28 u29 u30 u31 u32 u33 u34 u35 u36 u37 u39 u40 u41 u42 u43 u44 u45 u46 u47 u48 u49 u50 u51 u52 u53 u54 u55 u56 u57 u58 u59 u60 u61 u62 u63 u64 u65 u66 u67 u68 u69 u70 u71 u72 u73 u74 u75 u76 u77 u78 u79 u80 u81 u82 u83 u84 u85 u86 u87 u88 u89 u90 u91 u92 u93 u94 u95 u96 u97 u98 u99 u100 u101 u102 u103 u104 u105 u106 u107 u108 u109 u110 u111 u112 u113 u114 u115 u116 u117 u118 u119 u120 u121 u122 u123 u124 u125 u126 u127 u128 u129 u130 u131 u132 u133 u134 u135 u136 u137 u138 u139 u140 u141 u142 u143 u144 u145 u146 u147 u148 u149 u150 u151 u152 u153 u154 u155 u156 u157 u158 u159 u160 u161 u162 u163 u164 u165 u166 u167 u168 u169 u170 u171 u172 u173 u174 u175 u176 u177 u178 u179 u180 u181 u182 u183 u184 u185 u186 u187 u188 u189 u190 u191 u192 u193 u194 u195 u196 u197 u198 u199 u200 u201 u202 u203 u204 u205 u206 u207 u208 u209 u210 u211 u212 u213 u214 u215 u216 u217 u218 u219 u220 u221 u222 u223 u224 u225 u226 u227 u228 u229 u230 u231 u232 u233 u234 u235 u236 u237 u238 u239 u240 u241 u242 u243 u244 u245 u246 u247 u248 u249 u250 u251 u252 u253 u254 u255 u256 u257 u258 u259 u260 u261 u262 u263 u264 u265 u266 u267 u268 u269 u270 u271 u272 u273 u274 u275 u276 u277 u278 u279 u280 u281 u282 u283 u284 u285 u286 u287 u288 u289 u290 u291 u292 u293 u294 u295 u296 u297 u298 u299 u300 u301 u302 u303 u304 u305 u306 u307 u308 u309 u310 u311 u312 u313 u314 u315 u316 u317 u318 u319 u320 u321 u322 u323 u324 u325 u326 u327 u328 u329 u330 u331 u332 u333 u334 u335 u336 u337 u338 u339 u340 u341 u342 u343 u344 u345 u346 u347 u348 u349 u350 u351 u352 u353 u354 u355 u356 u357 u358 u359 u360 u361 u362 u363 u364 u365 u366 u367 u368 u369 u370 u371 u372 u373 u374 u375 u376 u377 u378 u379 u380 u381 u382 u383 u384 u385 u386 u387 u388 u389 u390 u391 u392 u393 u394 u395 u396 u397 u398 u399 u400 u401 u402 u403 u404 u405 u406 u407 u408 u409 u410 u411 u412 u413 u414 u415 u416 u417 u418 u419 u420 u421 u422 u423 u424 u425 u426 u427 u428 u429 u430 u431 u432 u433 u434 u435 u436 u437 u438 u439 u440 u441 u442 u443 u444 u445 u446 u447 u448 u449 u450 u451 u452 u453 u454 u455 u456 u457 u458 u459 u460 u461 u462 u463 u464 u465 u466 u467 u468 u469 u470 u471 u472 u473 u474 u475 u476 u477 u478 u479 u480 u481 u482 u483 u484 u485 u486 u487 u488 u489 u490 u491 u492 u493 u494 u495 code hcode
    exact m9 _ _ _ _ _ _ _ _ _ _ _ _ _ _ _ _ _ _ _ _ _ _ _ _ _ _ _ _ _ _ _ _ _ _ _ _ _ _ _ _ _ _ _ _ _ _ _ _ _ _ _ _ _ _ _ _ _ _ _ _ _ _ _ _ _ _ _ _ _ _ _ _ _ _ _ _ _ _ _ _ _ _ _ _ _ _ _ _ _ _ _ _ _ _ _ _ _ _ _ _ _ _ _ _ _ _ _ _ _ _ _ _ _ _ _ _ _ _ _ _ _ _ _ _ _ _ _ _ _ _ _ _ _ _ _ _ _ _ _ _ _ _ _ _ _ _ _ _ _ _ _ _ _ _ _ _ _ _ _ _ _ _ _ _ _ _ _ _ _ _ _ _ _ _ _ _ _ _ _ _ _ _ _ _ _ _ _ _ _ _ _ _ _ _ _ _ _ _ _ _ _ _ _ _ _ _ _ _ _ _ _ _ _ _ _ _ _ _ _ _ _ _ _ _ _ _ _ _ _ _ _ _ _ _ _ _ _ _ _ _ _ _ _ _ _ _ _ _ _ _ _ _ _ _ _ _ _ _ _ _ _ _ _ _ _ _ _ _ _ _ _ _ _ _ _ _ _ _ _ _ _ _ _ _ _ _ _ _ _ _ _ _ _ _ _ _ _ _ _ _ _ _ _ _ _ _ _ _ _ _ _ _ _ _ _ _ _ _ _ _ _ _ _ _ _ _ _ _ _ _ _ _ _ _ _ _ _ _ _ _ _ _ _ _ _ _ _ _ _ _ _ _ _ _ _ _ _ _ _ _ _ _ _ _ _ _ _ _ _ _ _ _ _ _ _ _ _ _ _ _ _ _ _ _ _ _ _ _ _ _ _ _ _ _ _ _ _ _ _ _ _ _ _ _ _ _ _ _ _ _ _ _ _ _ _ _ _ _ _ _ _ _ _ _ _ _ _ _ _ _ _ _ _ _ _ _ _ _ _ _ _ _ _ _ _ _ _ _ _ _ _ _ _ _ _ _ _ _ _ _ _ _ _ _ _ _ _ _ _ _ _ _ _ _ _ _ _ _ _ _ _ _ _ _ _ _ _ _ _ _ _ _ _ m i0 P fl pv fv hp w' R code hcode hm (hpv.below hb) (hfv.below hb) hfl (fun i hi => by obtain ⟨cs, h⟩ := hB i hi; exact ⟨cs, h.below hb h.lt⟩) (fun i hi => cell_below (hF i hi) hb) hhp hinj (hfin w' hb)
  have HE := hide hE
  have HS := hide hS
  have HLEN := hide hlen
  have t29 := hE.t29
  clear hE hS hlen hm hpv hfv hfl hB hF hhp hinj hfin
  have hg29 := eg29
  dsimp only
  refine wp_seq_rest fun K hK' => ?_
  go_wp2
  refine wp_seq_rest fun K hK' => ?_
  go_wp2
  go_loopw [43] (fun t wr => ∃ k : Nat, k ≤ nb ∧ t = .int .i64 (k : Int) ∧ Below W.heap.size W wr) (fun t _ => nb - (intOf t).toNat)
  case atStart => exact ⟨0, Nat.zero_le _, rfl, Below.refl _ _⟩
  case round =>
    obtain ⟨k, hkn, rfl, hbel⟩ := hrel
    clear t29
    have HBEL := hide hbel
    have HE2 := hide (HE.out.below hbel)
    clear hbel
    by_cases hlt : k < nb
    · have hltI : (k : Int) < (nb : Int) := by omega
      have t29 := HE2.out.t29
      have c0 := HE2.out.tc k hlt
      have b0 := HE2.out.b0 k hlt
      have oc := HE2.out.oc k hlt
      have sc := HE2.out.sc k hlt
      obtain ⟨ba, bc, eb, hrb⟩ := HE2.out.rb k hlt
      obtain ⟨oa, oc', eo, hro⟩ := HE2.out.ro k hlt
      rw [eb] at b0
      rw [eo] at oc
      obtain ⟨n, hn⟩ : ∃ n, len k = n := ⟨_, rfl⟩
      have hn5 : n ≤ 100000 := by rw [← hn]; exact HLEN.out k hlt
      rw [hn] at b0 oc
      have HN := hide hn
      have HRB := hide hrb
      have HRO := hide hro
      clear hn eb eo hrb hro
      go_wp2
      go_quiet (fail)
      have HE3 := hide (HE2.out.below (below_drewN (Below.refl _ _) nq))
      have HBEL3 := hide (below_drewN HBEL.out nq)
      clear HE2 HBEL t29 c0 b0 oc sc HRB HRO
      generalize wr.drewN nq = w5 at *
      have b0 := HE3.out.b0 k hlt
      have oc := HE3.out.oc k hlt
      have sc := HE3.out.sc k hlt
      obtain ⟨ba, bc, eb, hrb⟩ := HE3.out.rb k hlt
      obtain ⟨oa, oc', eo, hro⟩ := HE3.out.ro k hlt
      rw [eb, HN.out] at b0
      rw [eo, HN.out] at oc
      have HRB := hide hrb
      have HRO := hide hro
      clear eb eo hrb hro
      go_wp2
      go_loop [45] (fun t => ∃ j : Nat, j ≤ n ∧ t = .int .i64 (j : Int)) (fun t => n - (intOf t).toNat)
      case atStart => exact ⟨0, Nat.zero_le _, rfl⟩
      case round =>
        obtain ⟨j, hjn, rfl⟩ := hrel
        by_cases hltj : j < n
        · have hltjI : (j : Int) < (n : Int) := by omega
          have hlj : j < len k := by rw [HN.out]; exact hltj
          obtain ⟨bg, rfl, hbc⟩ := HRB.out (by omega)
          obtain ⟨og, rfl, hoc⟩ := HRO.out (by omega)
          have d1 := hbc j hlj
          have d2 := hoc j hlj
          dsimp only at d1 d2
          clear hbc hoc
          have hpn := pneq_same (cb' k j)
          by_cases hr : rep = true ∧ hK = (k : Int) ∧ hJ = (j : Int)
          · obtain ⟨rfl, rfl, rfl⟩ := hr
            rw [HS.out.place k hlt j hlj rfl rfl rfl] at sc
            go_wp2
            go_round
            case rel => exact ⟨j + 1, by omega, by go_num⟩
            case measure => simp [intOf]; omega
          · rw [← HS.out.rest k hlt j hlj hr] at d2
            cases hrp : rep with
            | false =>
              subst hrp
              go_wp2
              go_round
              case rel => exact ⟨j + 1, by omega, by go_num⟩
              case measure => simp [intOf]; omega
            | true =>
              subst hrp
              by_cases h1 : (k : Int) = hK
              · have h2 : ¬ (j : Int) = hJ := fun h => hr ⟨rfl, h1.symm, h.symm⟩
                obtain rfl : hK = (k : Int) := h1.symm
                clear h1
                go_wp2
                go_round
                case rel => exact ⟨j + 1, by omega, by go_num⟩
                case measure => simp [intOf]; omega
              · go_wp2
                go_round
                case rel => exact ⟨j + 1, by omega, by go_num⟩
                case measure => simp [intOf]; omega
        · have hltjI : ¬ (j : Int) < (n : Int) := by omega
          have b1 := HE3.out.b1 k hlt
          have b3 := HE3.out.b3 k hlt
          have b4 := HE3.out.b4 k hlt
          have b5 := HE3.out.b5 k hlt
          have n0 := HE3.out.n0
          have n1 := HE3.out.n1
          have n2 := HE3.out.n2
          have hBk := Go.block_lt_of_cell b1
          have hbn := Go.block_lt_of_cell n0
          dsimp only at hBk hbn
          have HREL : Hid (∀ o q, ∃ k' : Nat, k' ≤ nb ∧ Value.int .i64 ((k : Int) + 1) = .int .i64 (k' : Int) ∧ Below W.heap.size W (((w5.alloc o)).drewN q)) := fun o q => ⟨k + 1, by omega, by go_num, below_drewN (HBEL3.out.alloc HBEL3.out.size o) q⟩
          by_cases hr : rep = true ∧ hK = (k : Int)
          · obtain ⟨rfl, rfl⟩ := hr
            obtain ⟨e1, e2, e3⟩ := HS.out.turn k hlt rfl rfl
            rw [e1] at b1
            rw [e2] at b3
            rw [e3] at b4
            have hq := neq29 na nx
            clear e1 e2 e3
            go_wp2
            go_quiet (fail)
            go_wp2
            exact ⟨HREL.out _ _, by simp [intOf]; omega⟩
          · obtain ⟨e1, e2, e3⟩ := HS.out.same k hlt hr
            rw [e1] at b1
            rw [e2] at b3
            rw [e3] at b4
            have hq := neq29 0 0
            clear e1 e2 e3
            cases hrp : rep with
            | false =>
              subst hrp
              rcases HS.out.shape k hlt with h | ⟨z, h⟩
              · rw [h] at b1 sc
                go_wp2
                go_quiet (fail)
                go_wp2
                exact ⟨HREL.out _ _, by simp [intOf]; omega⟩
              · rw [h] at b1 sc
                have hpn := pneq_same z
                go_wp2
                go_quiet (fail)
                go_wp2
                exact ⟨HREL.out _ _, by simp [intOf]; omega⟩
            | true =>
              subst hrp
              have hne : ¬ (k : Int) = hK := fun h => hr ⟨rfl, h.symm⟩
              rcases HS.out.shape k hlt with h | ⟨z, h⟩
              · rw [h] at b1 sc
                go_wp2
                go_quiet (fail)
                go_wp2
                exact ⟨HREL.out _ _, by simp [intOf]; omega⟩
              · rw [h] at b1 sc
                have hpn := pneq_same z
                go_wp2
                go_quiet (fail)
                go_wp2
                exact ⟨HREL.out _ _, by simp [intOf]; omega⟩
    · have hltI : ¬ (k : Int) < (nb : Int) := by omega
      go_wp2
      exact HM9.out _ HBEL.out _ _ _ _ _ _ _ _ _ _ _ _ _ _ _ _ _ _ _ _ _ _ _ _ _ _ _ _ _ _ _ _ _ _ _ _ _ _ _ _ _ _ _ _ _ _ _ _ _ _ _ _ _ _ _ _ _ _ _ _ _ _ _ _ _ _ _ _ _ _ _ _ _ _ _ _ _ _ _ _ _ _ _ _ _ _ _ _ _ _ _ _ _ _ _ _ _ _ _ _ _ _ _ _ _ _ _ _ _ _ _ _ _ _ _ _ _ _ _ _ _ _ _ _ _ _ _ _ _ _ _ _ _ _ _ _ _ _ _ _ _ _ _ _ _ _ _ _ _ _ _ _ _ _ _ _ _ _ _ _ _ _ _ _ _ _ _ _ _ _ _ _ _ _ _ _ _ _ _ _ _ _ _ _ _ _ _ _ _ _ _ _ _ _ _ _ _ _ _ _ _ _ _ _ _ _ _ _ _ _ _ _ _ _ _ _ _ _ _ _ _ _ _ _ _ _ _ _ _ _ _ _ _ _ _ _ _ _ _ _ _ _ _ _ _ _ _ _ _ _ _ _ _ _ _ _ _ _ _ _ _ _ _ _ _ _ _ _ _ _ _ _ _ _ _ _ _ _ _ _ _ _ _ _ _ _ _ _ _ _ _ _ _ _ _ _ _ _ _ _ _ _ _ _ _ _ _ _ _ _ _ _ _ _ _ _ _ _ _ _ _ _ _ _ _ _ _ _ _ _ _ _ _ _ _ _ _ _ _ _ _ _ _ _ _ _ _ _ _ _ _ _ _ _ _ _ _ _ _ _ _ _ _ _ _ _ _ _ _ _ _ _ _ _ _ _ _ _ _ _ _ _ _ _ _ _ _ _ _ _ _ _ _ _ _ _ _ _ _ _ _ _ _ _ _ _ _ _ _ _ _ _ _ _ _ _ _ _ _ _ _ _ _ _ _ _ _ _ _ _ _ _ _ _ _ _ _ _ _ _ _ _ _ _ _ _ _ _ _ _ _ _ _ _ _ _ _ _ _ _ _ _ _ _ _ _ _ _ _ _ _ _ _ _ _ _ _ _ _ _ _ _ _ _ _ _ _ _ _ _ _ _ _ _ rfl

end Go.Proofs.Ybulkbtow
