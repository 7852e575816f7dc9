/-
  BModel: the call of 'failed' and what it hands back
-/
import Derived.Test.YbulkbtowMT9
import Derived.Test.YbulkbtowMNi
namespace Go.Proofs.Ybulkbtow
open Go.RowKit
set_option linter.unusedVariables false

/-- What 'failed' leaves behind. -/
def FPost (nb : Nat) (B gr : Nat → Nat) (bv : Nat → Value) (cb : Nat → Nat → Nat) (bt : Nat) (tcs : List Value) (gcs : List Nat) (gc L n : Nat) (f : Nat → Value) (p : Nat → Int) (tg na nx : Int) (k0 j0 : Nat) (x y f0 : Int) (L0 : Nat) (fr : Nat → Value) (z : Nat) (rep : Bool) (W w' : World) : Prop :=
  ∃ cv', Blk w' bt 54 (tcs.set 34 cv') ∧ CandOut w' cv' gc L n f p tg ∧
    ((k0 = nb ∧ rep = false ∧ Kept (bt :: gcs) W w') ∨
     (k0 < nb ∧ rep = false ∧ Kept (bt :: cb k0 j0 :: gcs) W w' ∧ Blk w' (cb k0 j0) 66 (conCells x y tg (f0 + 1))) ∨
     (k0 < nb ∧ rep = true ∧ Kept (bt :: cb k0 j0 :: B k0 :: gr k0 :: gcs) W w' ∧ Blk w' (cb k0 j0) 66 (conCells x y tg (f0 + 1)) ∧ Blk w' (B k0) 60 [bv k0, .pointer none, .pointer none, .int .u64 na, .int .i64 nx, .pointer none] ∧ Vf w' (gr k0) 58 L0 (upv fr j0 (ptr z))))

theorem wpList_lnb {ops : Array Oper} {rest : List Oper} {op : Oper} {a : Act} {w : World} {Q : Exit → Act → World → Prop} (hgd : op.guard = none) (x : Operand) (ho : op.op = .load 64 x) (b : Nat) (X Y p : Int) (hx : a.eval x = .pointer (some ⟨b, 0, none⟩)) (hb : Blk w b 64 (niCells X Y p))
    (h : wpList Yba.prog ops Q rest (a.put op.dst (niv X Y p)) w) : wpList Yba.prog ops Q (op :: rest) a w :=
  wpList_load_mid (P := Yba.prog) hgd 64 x ho b 0 hx (niCells X Y p) _ hb.range Yba.underlying64 rfl info64 h

theorem wpQuiet_lni {ops : Array Oper} {C : World → Prop} {Q : Act → Prop} {rest : List Oper} {o : Oper} {a : Act} (hgd : o.guard = none) (x : Operand) (ho : o.op = .load 64 x) (b : Nat) (X Y p : Int) (hx : a.eval x = .pointer (some ⟨b, 0, none⟩)) (hC : ∀ w, C w → w.rangeAt b 0 (niCells X Y p))
    (h : wpQuiet Yba.prog ops C Q rest (a.put o.dst (niv X Y p))) : wpQuiet Yba.prog ops C Q (o :: rest) a := by
  have hw : Region.wanted o (yielded ops a.tmps) = true := by simp [Region.wanted, hgd]
  show if Region.wanted o (yielded ops a.tmps) = true then _ else _
  rw [if_pos hw]
  refine ⟨niv X Y p, fun w hw => ?_, h⟩
  unfold Oper.quietAt execOp
  simp only [ho, hx, Instr.loadAt, Instr.sureAddr, Sem.run_bind, Sem.run_pure, Result.andThen_ok, run_loadVar_mid (P := Yba.prog) w b 0 64 (niCells X Y p) _ (hC w hw) Yba.underlying64 rfl info64]
  exact ⟨rfl, rfl⟩

theorem setCells_below {B : Nat} {w0 : World} {g : Nat} (hB : B ≤ g) : ∀ (vs : List Value) (o : Nat) (w : World), Below B w0 w → Below B w0 (w.setCells g o vs)
  | [], o, w, h => h
  | v :: r, o, w, h => setCells_below hB r (o + 1) _ (h.setCell (p := ⟨g, o, none⟩) hB v)

theorem failed_post (nb gt ct : Nat) (B len gr : Nat → Nat) (bv : Nat → Value) (cb : Nat → Nat → Nat) (port : Nat → Nat → Int) (bt : Nat) (tcs : List Value) (cv : Value) (gcs : List Nat) (gc L n : Nat) (f : Nat → Value) (b : Nat → Nat) (p : Nat → Int) (tg na nx : Int) (k0 j0 : Nat) (x y f0 : Int) (sv : Value) (tw tx : Int) (L0 : Nat) (fr : Nat → Value) (z : Nat) (xs ys ps : Int) (rep : Bool) (W : World)
    (hS : Scan nb gt ct B len gr bv cb port W) (hnb : nb ≤ 4) (hlen : ∀ k, k < nb → len k ≤ 100000) (hbt : Blk W bt 54 tcs) (t29 : tcs[29]? = some (.slice (some ⟨gt, 0, none⟩) nb ct)) (t34 : tcs[34]? = some cv)
    (hC : CandIn W cv gcs gc L n f b p)
    (hk0 : k0 ≤ nb) (hbef : ∀ k, k < k0 → ∀ j, j < len k → port k j ≠ tg) (hhit : k0 < nb → j0 < len k0 ∧ port k0 j0 = tg ∧ ∀ j, j < j0 → port k0 j ≠ tg)
    (hcon : k0 < nb → Blk W (cb k0 j0) 66 (conCells x y tg f0)) (hf0 : -128 ≤ f0 ∧ f0 ≤ 127)
    (hbk : k0 < nb → Blk W (B k0) 60 [bv k0, sv, .pointer none, .int .u64 tw, .int .i64 tx, .pointer none]) (hsv : sv = .pointer none ∨ sv = ptr z ∧ (k0 < nb → Blk W z 66 (conCells xs ys ps 0) ∧ z ≠ cb k0 j0))
    (hrow : k0 < nb → Vf W (gr k0) 58 L0 fr ∧ j0 < L0) (hrep : rep = true ↔ k0 < nb ∧ 2 ≤ f0 + 1 ∧ sv = ptr z) :
    Calls Yba.prog 8 #[ptr bt, .agg #[.int .u64 0, .int .u64 0, .pointer none, .int .u16 tg], .agg #[.int .u64 na, .int .i64 nx, .pointer none]] W fun e w' =>
      FPost nb B gr bv cb bt tcs gcs gc L n f p tg na nx k0 j0 x y f0 L0 fr z rep W w' ∧ e = .returned (.tuple #[if rep = true then niv xs ys ps else niv 0 0 0, .bool rep]) := by
  refine failed_any nb gt ct B len gr bv cb port bt tcs cv gcs gc L n f b p tg na nx k0 j0 x y f0 sv tw tx L0 fr z xs ys ps W _ hS hnb hlen hbt t29 t34 hC hk0 hbef hhit hcon hf0 hbk hsv hrow ?_ ?_ ?_
  · intro hk w' cv' h1 h2 h3
    have hr : rep = false := by
      cases rep with
      | false => rfl
      | true => have := (hrep.1 rfl).1; omega
    subst hr
    exact ⟨⟨cv', h2, h3, .inl ⟨hk, rfl, h1⟩⟩, rfl⟩
  · intro hk hn w' cv' h1 h2 h3 h4
    have hr : rep = false := by
      cases rep with
      | false => rfl
      | true => exact absurd (hrep.1 rfl).2 hn
    subst hr
    exact ⟨⟨cv', h2, h3, .inr (.inl ⟨hk, rfl, h1, h4⟩)⟩, rfl⟩
  · intro hk h2 hz w' cv' h1 h2' h3 h4 h5 h6
    have hr : rep = true := hrep.2 ⟨hk, h2, hz⟩
    subst hr
    exact ⟨⟨cv', h2', h3, .inr (.inr ⟨hk, rfl, h1, h4, h5, h6⟩)⟩, rfl⟩

set_option maxRecDepth 100000 in
set_option maxHeartbeats 8000000 in
theorem m5 (u0 u1 u2 u3 u4 u5 u6 u7 u8 u9 u10 u11 u12 u13 u14 u21 u22 u23 u26 u27 u28 u29 u31 u32 u33 u36 u37 u40 u41 u42 u43 u44 u45 u46 u47 u48 u49 u50 u51 u52 u53 u54 u55 u56 u57 u58 u59 u60 u61 u62 u63 u64 u65 u66 u67 u68 u69 u70 u71 u72 u73 u74 u75 u76 u77 u78 u79 u80 u81 u82 u83 u84 u85 u86 u87 u88 u89 u90 u91 u92 u93 u94 u95 u96 u97 u98 u99 u100 u101 u102 u103 u104 u105 u106 u107 u108 u109 u110 u111 u112 u113 u114 u115 u116 u117 u118 u119 u120 u121 u122 u123 u124 u125 u126 u127 u128 u129 u130 u131 u132 u133 u134 u135 u136 u137 u138 u139 u140 u141 u142 u143 u144 u145 u146 u147 u148 u149 u150 u151 u152 u153 u154 u155 u156 u157 u158 u159 u160 u161 u162 u163 u164 u165 u166 u167 u168 u169 u170 u171 u172 u173 u174 u175 u176 u177 u178 u179 u180 u181 u182 u183 u184 u185 u186 u187 u188 u189 u190 u191 u192 u193 u194 u195 u196 u197 u198 u199 u200 u201 u202 u203 u204 u205 u206 u207 u208 u209 u210 u211 u212 u213 u214 u215 u216 u217 u218 u219 u220 u221 u222 u223 u224 u225 u226 u227 u228 u229 u230 u231 u232 u233 u234 u235 u236 u237 u238 u239 u240 u241 u242 u243 u244 u245 u246 u247 u248 u249 u250 u251 u252 u253 u254 u255 u256 u257 u258 u259 u260 u261 u262 u263 u264 u265 u266 u267 u268 u269 u270 u271 u272 u273 u274 u275 u276 u277 u278 u279 u280 u281 u282 u283 u284 u285 u286 u287 u288 u289 u290 u291 u292 u293 u294 u295 u296 u297 u298 u299 u300 u301 u302 u303 u304 u305 u306 u307 u308 u309 u310 u311 u312 u313 u314 u315 u316 u317 u318 u319 u320 u321 u322 u323 u324 u325 u326 u327 u328 u329 u330 u331 u332 u333 u334 u335 u336 u337 u338 u339 u340 u341 u342 u343 u344 u345 u346 u347 u348 u349 u350 u351 u352 u353 u354 u355 u356 u357 u358 u359 u360 u361 u362 u363 u364 u365 u366 u367 u368 u369 u370 u371 u372 u373 u374 u375 u376 u377 u378 u379 u380 u381 u382 u383 u384 u385 u386 u387 u388 u389 u390 u391 u392 u393 u394 u395 u396 u397 u398 u399 u400 u401 u402 u403 u404 u405 u406 u407 u408 u409 u410 u411 u412 u413 u414 u415 u416 u417 u418 u419 u420 u421 u422 u423 u424 u425 u426 u427 u428 u429 u430 u431 u432 u433 u434 u435 u436 u437 u438 u439 u440 u441 u442 u443 u444 u445 u446 u447 u448 u449 u450 u451 u452 u453 u454 u455 u456 u457 u458 u459 u460 u461 u462 u463 u464 u465 u466 u467 u468 u469 u470 u471 u472 u473 u474 u475 u476 u477 u478 u479 u480 u481 u482 u483 u484 u485 u486 u487 u488 u489 u490 u491 u492 u493 u494 u495 : Value) (nb gt ct : Nat) (B len gr : Nat → Nat) (bv : Nat → Value) (cb : Nat → Nat → Nat) (port : Nat → Nat → Int) (bt : Nat) (tcs : List Value) (cv : Value) (gcs : List Nat) (gc L n : Nat) (f : Nat → Value) (b : Nat → Nat) (p : Nat → Int) (tg na nx : Int) (k0 j0 : Nat) (x y f0 : Int) (sv : Value) (tw tx : Int) (L0 : Nat) (fr : Nat → Value) (z : Nat) (xs ys ps : Int) (rep : Bool) (bn ba bo bs : Nat) (spv : Nat → Value) (hK hJ : Int) (pv fv hp wv : Value) (W : World) (R : Ending → World → Prop) (code : Code) (hcode : (Yba.f3.body).bind (mtail 20) = some code)
    (hS : Scan nb gt ct B len gr bv cb port W) (hnb : nb ≤ 4) (hlen : ∀ k, k < nb → len k ≤ 100000) (hbt : Blk W bt 54 tcs) (t29 : tcs[29]? = some (.slice (some ⟨gt, 0, none⟩) nb ct)) (t34 : tcs[34]? = some cv)
    (hC : CandIn W cv gcs gc L n f b p)
    (hk0 : k0 ≤ nb) (hbef : ∀ k, k < k0 → ∀ j, j < len k → port k j ≠ tg) (hhit : k0 < nb → j0 < len k0 ∧ port k0 j0 = tg ∧ ∀ j, j < j0 → port k0 j ≠ tg)
    (hcon : k0 < nb → Blk W (cb k0 j0) 66 (conCells x y tg f0)) (hf0 : -128 ≤ f0 ∧ f0 ≤ 127)
    (hbk : k0 < nb → Blk W (B k0) 60 [bv k0, sv, .pointer none, .int .u64 tw, .int .i64 tx, .pointer none]) (hsv : sv = .pointer none ∨ sv = ptr z ∧ (k0 < nb → Blk W z 66 (conCells xs ys ps 0) ∧ z ≠ cb k0 j0))
    (hrow : k0 < nb → Vf W (gr k0) 58 L0 fr ∧ j0 < L0) (hrep : rep = true ↔ k0 < nb ∧ 2 ≤ f0 + 1 ∧ sv = ptr z)
    (hba : Blk W ba 43 [.int .u64 0, .int .u64 0, .pointer none, .int .u16 tg]) (hbn : Blk W bn 29 [.int .u64 na, .int .i64 nx, .pointer none]) (hbs : Vf W bs 58 nb spv) (hbsg : k0 < nb → bs ≠ gr k0) (hspv : k0 < nb → sv = ptr z → spv k0 = ptr z) (hKk : rep = true → hK = (k0 : Int)) (hgcs : Alien W gcs [58, 66])
    (hcont : ∀ w1 w2, FPost nb B gr bv cb bt tcs gcs gc L n f p tg na nx k0 j0 x y f0 L0 fr z rep W w1 → Below w1.heap.size w1 w2 → ∀ (u0 u1 u2 u3 u4 u5 u6 u7 u8 u9 u10 u11 u12 u13 u14 u17 u21 u22 u23 u26 u27 u28 u29 u31 u32 u33 u36 u37 u40 u41 u42 u43 u44 u45 u46 u47 u48 u49 u50 u51 u52 u53 u54 u55 u56 u57 u58 u59 u60 u61 u62 u63 u64 u65 u66 u67 u68 u69 u70 u71 u72 u73 u74 u75 u76 u77 u78 u79 u80 u81 u82 u83 u84 u85 u86 u87 u88 u89 u90 u91 u92 u93 u94 u95 u96 u97 u98 u99 u100 u101 u102 u103 u104 u105 u106 u107 u108 u109 u110 u111 u112 u113 u114 u115 u116 u117 u118 u119 u120 u121 u122 u123 u124 u125 u126 u127 u128 u129 u130 u131 u132 u133 u134 u135 u136 u137 u138 u139 u140 u141 u142 u143 u144 u145 u146 u147 u148 u149 u150 u151 u152 u153 u154 u155 u156 u157 u158 u159 u160 u161 u162 u163 u164 u165 u166 u167 u168 u169 u170 u171 u172 u173 u174 u175 u176 u177 u178 u179 u180 u181 u182 u183 u184 u185 u186 u187 u188 u189 u190 u191 u192 u193 u194 u195 u196 u197 u198 u199 u200 u201 u202 u203 u204 u205 u206 u207 u208 u209 u210 u211 u212 u213 u214 u215 u216 u217 u218 u219 u220 u221 u222 u223 u224 u225 u226 u227 u228 u229 u230 u231 u232 u233 u234 u235 u236 u237 u238 u239 u240 u241 u242 u243 u244 u245 u246 u247 u248 u249 u250 u251 u252 u253 u254 u255 u256 u257 u258 u259 u260 u261 u262 u263 u264 u265 u266 u267 u268 u269 u270 u271 u272 u273 u274 u275 u276 u277 u278 u279 u280 u281 u282 u283 u284 u285 u286 u287 u288 u289 u290 u291 u292 u293 u294 u295 u296 u297 u298 u299 u300 u301 u302 u303 u304 u305 u306 u307 u308 u309 u310 u311 u312 u313 u314 u315 u316 u317 u318 u319 u320 u321 u322 u323 u324 u325 u326 u327 u328 u329 u330 u331 u332 u333 u334 u335 u336 u337 u338 u339 u340 u341 u342 u343 u344 u345 u346 u347 u348 u349 u350 u351 u352 u353 u354 u355 u356 u357 u358 u359 u360 u361 u362 u363 u364 u365 u366 u367 u368 u369 u370 u371 u372 u373 u374 u375 u376 u377 u378 u379 u380 u381 u382 u383 u384 u385 u386 u387 u388 u389 u390 u391 u392 u393 u394 u395 u396 u397 u398 u399 u400 u401 u402 u403 u404 u405 u406 u407 u408 u409 u410 u411 u412 u413 u414 u415 u416 u417 u418 u419 u420 u421 u422 u423 u424 u425 u426 u427 u428 u429 u430 u431 u432 u433 u434 u435 u436 u437 u438 u439 u440 u441 u442 u443 u444 u445 u446 u447 u448 u449 u450 u451 u452 u453 u454 u455 u456 u457 u458 u459 u460 u461 u462 u463 u464 u465 u466 u467 u468 u469 u470 u471 u472 u473 u474 u475 u476 u477 u478 u479 u480 u481 u482 u483 u484 u485 u486 u487 u488 u489 u490 u491 u492 u493 u494 u495 : Value) (code : Code) (hcode : (Yba.f3.body).bind (mtail 23) = some code), code.wp Yba.prog (Exit.noGoto (bodyPost Yba.prog Yba.f3 R)) ⟨#[u0, u1, u2, u3, u4, u5, u6, u7, u8, u9, u10, u11, u12, u13, u14, .int .i64 (nb : Int), ptr bn, u17, ptr bt, .slice (some ⟨bo, 0, none⟩) nb nb, .slice (some ⟨bs, 0, none⟩) nb nb, u21, u22, u23, pv, fv, u26, u27, u28, u29, wv, u31, u32, u33, .int .i64 hK, .int .i64 hJ, u36, u37, hp, .bool rep, u40, u41, u42, u43, u44, u45, u46, u47, u48, u49, u50, u51, u52, u53, u54, u55, u56, u57, u58, u59, u60, u61, u62, u63, u64, u65, u66, u67, u68, u69, u70, u71, u72, u73, u74, u75, u76, u77, u78, u79, u80, u81, u82, u83, u84, u85, u86, u87, u88, u89, u90, u91, u92, u93, u94, u95, u96, u97, u98, u99, u100, u101, u102, u103, u104, u105, u106, u107, u108, u109, u110, u111, u112, u113, u114, u115, u116, u117, u118, u119, u120, u121, u122, u123, u124, u125, u126, u127, u128, u129, u130, u131, u132, u133, u134, u135, u136, u137, u138, u139, u140, u141, u142, u143, u144, u145, u146, u147, u148, u149, u150, u151, u152, u153, u154, u155, u156, u157, u158, u159, u160, u161, u162, u163, u164, u165, u166, u167, u168, u169, u170, u171, u172, u173, u174, u175, u176, u177, u178, u179, u180, u181, u182, u183, u184, u185, u186, u187, u188, u189, u190, u191, u192, u193, u194, u195, u196, u197, u198, u199, u200, u201, u202, u203, u204, u205, u206, u207, u208, u209, u210, u211, u212, u213, u214, u215, u216, u217, u218, u219, u220, u221, u222, u223, u224, u225, u226, u227, u228, u229, u230, u231, u232, u233, u234, u235, u236, u237, u238, u239, u240, u241, u242, u243, u244, u245, u246, u247, u248, u249, u250, u251, u252, u253, u254, u255, u256, u257, u258, u259, u260, u261, u262, u263, u264, u265, u266, u267, u268, u269, u270, u271, u272, u273, u274, u275, u276, u277, u278, u279, u280, u281, u282, u283, u284, u285, u286, u287, u288, u289, u290, u291, u292, u293, u294, u295, u296, u297, u298, u299, u300, u301, u302, u303, u304, u305, u306, u307, u308, u309, u310, u311, u312, u313, u314, u315, u316, u317, u318, u319, u320, u321, u322, u323, u324, u325, u326, u327, u328, u329, u330, u331, u332, u333, u334, u335, u336, u337, u338, u339, u340, u341, u342, u343, u344, u345, u346, u347, u348, u349, u350, u351, u352, u353, u354, u355, u356, u357, u358, u359, u360, u361, u362, u363, u364, u365, u366, u367, u368, u369, u370, u371, u372, u373, u374, u375, u376, u377, u378, u379, u380, u381, u382, u383, u384, u385, u386, u387, u388, u389, u390, u391, u392, u393, u394, u395, u396, u397, u398, u399, u400, u401, u402, u403, u404, u405, u406, u407, u408, u409, u410, u411, u412, u413, u414, u415, u416, u417, u418, u419, u420, u421, u422, u423, u424, u425, u426, u427, u428, u429, u430, u431, u432, u433, u434, u435, u436, u437, u438, u439, u440, u441, u442, u443, u444, u445, u446, u447, u448, u449, u450, u451, u452, u453, u454, u455, u456, u457, u458, u459, u460, u461, u462, u463, u464, u465, u466, u467, u468, u469, u470, u471, u472, u473, u474, u475, u476, u477, u478, u479, u480, u481, u482, u483, u484, u485, u486, u487, u488, u489, u490, u491, u492, u493, u494, u495], []⟩ w2) :
    code.wp Yba.prog (Exit.noGoto (bodyPost Yba.prog Yba.f3 R)) ⟨#[u0, u1, u2, u3, u4, u5, u6, u7, u8, u9, u10, u11, u12, u13, u14, .int .i64 (nb : Int), ptr bn, ptr ba, ptr bt, .slice (some ⟨bo, 0, none⟩) nb nb, .slice (some ⟨bs, 0, none⟩) nb nb, u21, u22, u23, pv, fv, u26, u27, u28, u29, wv, u31, u32, u33, .int .i64 hK, .int .i64 hJ, u36, u37, hp, .bool rep, u40, u41, u42, u43, u44, u45, u46, u47, u48, u49, u50, u51, u52, u53, u54, u55, u56, u57, u58, u59, u60, u61, u62, u63, u64, u65, u66, u67, u68, u69, u70, u71, u72, u73, u74, u75, u76, u77, u78, u79, u80, u81, u82, u83, u84, u85, u86, u87, u88, u89, u90, u91, u92, u93, u94, u95, u96, u97, u98, u99, u100, u101, u102, u103, u104, u105, u106, u107, u108, u109, u110, u111, u112, u113, u114, u115, u116, u117, u118, u119, u120, u121, u122, u123, u124, u125, u126, u127, u128, u129, u130, u131, u132, u133, u134, u135, u136, u137, u138, u139, u140, u141, u142, u143, u144, u145, u146, u147, u148, u149, u150, u151, u152, u153, u154, u155, u156, u157, u158, u159, u160, u161, u162, u163, u164, u165, u166, u167, u168, u169, u170, u171, u172, u173, u174, u175, u176, u177, u178, u179, u180, u181, u182, u183, u184, u185, u186, u187, u188, u189, u190, u191, u192, u193, u194, u195, u196, u197, u198, u199, u200, u201, u202, u203, u204, u205, u206, u207, u208, u209, u210, u211, u212, u213, u214, u215, u216, u217, u218, u219, u220, u221, u222, u223, u224, u225, u226, u227, u228, u229, u230, u231, u232, u233, u234, u235, u236, u237, u238, u239, u240, u241, u242, u243, u244, u245, u246, u247, u248, u249, u250, u251, u252, u253, u254, u255, u256, u257, u258, u259, u260, u261, u262, u263, u264, u265, u266, u267, u268, u269, u270, u271, u272, u273, u274, u275, u276, u277, u278, u279, u280, u281, u282, u283, u284, u285, u286, u287, u288, u289, u290, u291, u292, u293, u294, u295, u296, u297, u298, u299, u300, u301, u302, u303, u304, u305, u306, u307, u308, u309, u310, u311, u312, u313, u314, u315, u316, u317, u318, u319, u320, u321, u322, u323, u324, u325, u326, u327, u328, u329, u330, u331, u332, u333, u334, u335, u336, u337, u338, u339, u340, u341, u342, u343, u344, u345, u346, u347, u348, u349, u350, u351, u352, u353, u354, u355, u356, u357, u358, u359, u360, u361, u362, u363, u364, u365, u366, u367, u368, u369, u370, u371, u372, u373, u374, u375, u376, u377, u378, u379, u380, u381, u382, u383, u384, u385, u386, u387, u388, u389, u390, u391, u392, u393, u394, u395, u396, u397, u398, u399, u400, u401, u402, u403, u404, u405, u406, u407, u408, u409, u410, u411, u412, u413, u414, u415, u416, u417, u418, u419, u420, u421, u422, u423, u424, u425, u426, u427, u428, u429, u430, u431, u432, u433, u434, u435, u436, u437, u438, u439, u440, u441, u442, u443, u444, u445, u446, u447, u448, u449, u450, u451, u452, u453, u454, u455, u456, u457, u458, u459, u460, u461, u462, u463, u464, u465, u466, u467, u468, u469, u470, u471, u472, u473, u474, u475, u476, u477, u478, u479, u480, u481, u482, u483, u484, u485, u486, u487, u488, u489, u490, u491, u492, u493, u494, u495], []⟩ W := by
  obtain rfl : code = _ := Option.some.inj (hcode.symm.trans (show (Yba.f3.body).bind (mtail 20) = some _ from rfl))
  clear hcode
  have HF := hide (failed_post nb gt ct B len gr bv cb port bt tcs cv gcs gc L n f b p tg na nx k0 j0 x y f0 sv tw tx L0 fr z xs ys ps rep W hS hnb hlen hbt t29 t34 hC hk0 hbef hhit hcon hf0 hbk hsv hrow hrep)
  have a0 := hba.at 0
  have a1 := hba.at 1
  have a2 := hba.at 2
  have a3 := hba.at 3
  have n0 := hbn.at 0
  have n1 := hbn.at 1
  have n2 := hbn.at 2
  simp only [List.getElem?_cons_zero, List.getElem?_cons_succ] at a0 a1 a2 a3 n0 n1 n2
  -- the spare behind the call
  have HZ : Hid (∀ w1, FPost nb B gr bv cb bt tcs gcs gc L n f p tg na nx k0 j0 x y f0 L0 fr z rep W w1 → rep = true → Blk w1 z 66 (conCells xs ys ps 0) ∧ w1.cell? ⟨bs, k0, none⟩ = some (ptr z)) := by
    intro w1 hp hr
    obtain ⟨cv', h1, h2, h3⟩ := hp
    have hk := (hrep.1 hr).1
    have hz := (hrep.1 hr).2.2
    have hzb : Blk W z 66 (conCells xs ys ps 0) ∧ z ≠ cb k0 j0 := by
      rcases hsv with h | ⟨_, h'⟩
      · rw [hz] at h; cases h
      · exact h' hk
    have hc := hcon hk
    rcases h3 with h | h | ⟨_, _, hkept, _, _, _⟩
    · rw [hr] at h; exact absurd h.2.1 (by decide)
    · rw [hr] at h; exact absurd h.2.1 (by decide)
    · have e1 : z ∉ (bt :: cb k0 j0 :: B k0 :: gr k0 :: gcs) := by
        simp only [List.mem_cons, not_or]
        exact ⟨hzb.1.ne hbt (by decide), hzb.2, hzb.1.ne (hbk hk) (by decide), hzb.1.ne (hrow hk).1 (by decide), hgcs.out hzb.1 (by simp)⟩
      have e2 : bs ∉ (bt :: cb k0 j0 :: B k0 :: gr k0 :: gcs) := by
        simp only [List.mem_cons, not_or]
        exact ⟨Blk.ne hbs hbt (by decide), Blk.ne hbs hc (by decide), Blk.ne hbs (hbk hk) (by decide), hbsg hk, hgcs.out hbs (by simp)⟩
      refine ⟨hkept.blk hzb.1 e1, ?_⟩
      have := (hbs.kept hkept e2).at hk
      rw [hspv hk hz] at this
      exact this
  have HKK := hide hKk
  have HCONT := hide hcont
  clear hS hlen hbt t29 t34 hC hbef hhit hcon hbk hsv hrow hrep hba hbn hbs hbsg hspv hKk hgcs hcont
  have hg64 := eg64
  dsimp only
  refine wp_seq_rest fun K hK' => ?_
  go_wp2_with fail
  refine HF.out.mono ?_
  rintro e w1 ⟨hp, rfl⟩
  have HP := hide hp
  clear hp HF a0 a1 a2 a3 n0 n1 n2
  cases rep with
  | false =>
    dsimp only
    simp only [Bool.false_eq_true, if_false]
    have hbr : Blk (w1.alloc (.cells niZero.toArray 64)) w1.heap.size 64 niZero := Blk.new w1 64 _
    have HBR := hide hbr
    clear hbr
    go_wp2_with (refine wpList_ni rfl _ _ rfl w1.heap.size 0 0 0 rfl rfl HBR.out ?_)
    have HBR2 := hide (ni_set HBR.out 0 0 0)
    have HBEL := hide (setCells_below (Nat.le_refl _) (niCells 0 0 0) 0 _ ((Below.refl w1.heap.size w1).alloc (Nat.le_refl _) (.cells niZero.toArray 64)))
    clear HBR
    have e : (w1.alloc (.cells niZero.toArray 64)).setCells w1.heap.size 0 (niCells 0 0 0) = (w1.alloc (.cells #[.int .u8 0, .int .u8 0, .int .u8 0, .int .u8 0, .int .u8 0, .int .u8 0, .int .u8 0, .int .u8 0, .int .u8 0, .int .u8 0, .int .u8 0, .int .u8 0, .int .u8 0, .int .u8 0, .int .u8 0, .int .u8 0, .int .u8 0, .int .u8 0, .int .u8 0, .int .u8 0, .int .u64 0, .int .u64 0, .pointer none, .int .u16 0] 64)).setCells w1.heap.size 0 (niCells 0 0 0) := rfl
    rw [e] at HBR2 HBEL
    clear e
    generalize (w1.alloc (.cells #[.int .u8 0, .int .u8 0, .int .u8 0, .int .u8 0, .int .u8 0, .int .u8 0, .int .u8 0, .int .u8 0, .int .u8 0, .int .u8 0, .int .u8 0, .int .u8 0, .int .u8 0, .int .u8 0, .int .u8 0, .int .u8 0, .int .u8 0, .int .u8 0, .int .u8 0, .int .u8 0, .int .u64 0, .int .u64 0, .pointer none, .int .u16 0] 64)).setCells w1.heap.size 0 (niCells 0 0 0) = w2 at *
    have hsm := ni_same 0 0 0
    refine wp_seq_rest fun K hK' => ?_
    go_wp2
    refine wp_seq_rest fun K hK' => ?_
    go_wp2_with (refine wpList_lnb rfl _ rfl w1.heap.size 0 0 0 rfl HBR2.out ?_)
    exact HCONT.out w1 w2 HP.out HBEL.out _ _ _ _ _ _ _ _ _ _ _ _ _ _ _ _ _ _ _ _ _ _ _ _ _ _ _ _ _ _ _ _ _ _ _ _ _ _ _ _ _ _ _ _ _ _ _ _ _ _ _ _ _ _ _ _ _ _ _ _ _ _ _ _ _ _ _ _ _ _ _ _ _ _ _ _ _ _ _ _ _ _ _ _ _ _ _ _ _ _ _ _ _ _ _ _ _ _ _ _ _ _ _ _ _ _ _ _ _ _ _ _ _ _ _ _ _ _ _ _ _ _ _ _ _ _ _ _ _ _ _ _ _ _ _ _ _ _ _ _ _ _ _ _ _ _ _ _ _ _ _ _ _ _ _ _ _ _ _ _ _ _ _ _ _ _ _ _ _ _ _ _ _ _ _ _ _ _ _ _ _ _ _ _ _ _ _ _ _ _ _ _ _ _ _ _ _ _ _ _ _ _ _ _ _ _ _ _ _ _ _ _ _ _ _ _ _ _ _ _ _ _ _ _ _ _ _ _ _ _ _ _ _ _ _ _ _ _ _ _ _ _ _ _ _ _ _ _ _ _ _ _ _ _ _ _ _ _ _ _ _ _ _ _ _ _ _ _ _ _ _ _ _ _ _ _ _ _ _ _ _ _ _ _ _ _ _ _ _ _ _ _ _ _ _ _ _ _ _ _ _ _ _ _ _ _ _ _ _ _ _ _ _ _ _ _ _ _ _ _ _ _ _ _ _ _ _ _ _ _ _ _ _ _ _ _ _ _ _ _ _ _ _ _ _ _ _ _ _ _ _ _ _ _ _ _ _ _ _ _ _ _ _ _ _ _ _ _ _ _ _ _ _ _ _ _ _ _ _ _ _ _ _ _ _ _ _ _ _ _ _ _ _ _ _ _ _ _ _ _ _ _ _ _ _ _ _ _ _ _ _ _ _ _ _ _ _ _ _ _ _ _ _ _ _ _ _ _ _ _ _ _ _ _ _ _ _ _ _ _ _ _ _ _ _ _ _ _ _ _ _ _ _ _ _ _ _ _ _ _ _ _ _ _ _ _ _ _ _ _ _ _ _ _ _ _ _ _ _ _ _ _ _ _ _ rfl
  | true =>
    dsimp only
    simp only [if_true]
    obtain ⟨hz1, hz2⟩ := HZ.out w1 HP.out rfl
    have hkk := HKK.out rfl
    subst hkk
    have hk0n : k0 < nb := by
      obtain ⟨cv', _, _, h⟩ := HP.out
      rcases h with h | h | h
      · exact absurd h.2.1 (by decide)
      · exact h.1
      · exact h.1
    have hk0I : (k0 : Int) < (nb : Int) := by omega
    have hbr : Blk (w1.alloc (.cells niZero.toArray 64)) w1.heap.size 64 niZero := Blk.new w1 64 _
    have HBR := hide hbr
    have HZ1 := hide hz1
    have HZ2 := hide hz2
    clear hbr hz1 hz2
    go_wp2_with (refine wpList_ni rfl _ _ rfl w1.heap.size xs ys ps rfl rfl HBR.out ?_)
    have HBR2 := hide (ni_set HBR.out xs ys ps)
    have HBEL := hide (setCells_below (Nat.le_refl _) (niCells xs ys ps) 0 _ ((Below.refl w1.heap.size w1).alloc (Nat.le_refl _) (.cells niZero.toArray 64)))
    have e : (w1.alloc (.cells niZero.toArray 64)).setCells w1.heap.size 0 (niCells xs ys ps) = (w1.alloc (.cells #[.int .u8 0, .int .u8 0, .int .u8 0, .int .u8 0, .int .u8 0, .int .u8 0, .int .u8 0, .int .u8 0, .int .u8 0, .int .u8 0, .int .u8 0, .int .u8 0, .int .u8 0, .int .u8 0, .int .u8 0, .int .u8 0, .int .u8 0, .int .u8 0, .int .u8 0, .int .u8 0, .int .u64 0, .int .u64 0, .pointer none, .int .u16 0] 64)).setCells w1.heap.size 0 (niCells xs ys ps) := rfl
    rw [e] at HBR2 HBEL
    clear e HBR
    have hz3 := HZ1.out.below HBEL.out HZ1.out.lt
    have hz4 := cell_below HZ2.out HBEL.out
    generalize (w1.alloc (.cells #[.int .u8 0, .int .u8 0, .int .u8 0, .int .u8 0, .int .u8 0, .int .u8 0, .int .u8 0, .int .u8 0, .int .u8 0, .int .u8 0, .int .u8 0, .int .u8 0, .int .u8 0, .int .u8 0, .int .u8 0, .int .u8 0, .int .u8 0, .int .u8 0, .int .u8 0, .int .u8 0, .int .u64 0, .int .u64 0, .pointer none, .int .u16 0] 64)).setCells w1.heap.size 0 (niCells xs ys ps) = w2 at *
    generalize hbr' : w1.heap.size = br at *
    have HR1 := hide HBR2.out.range
    have HR2 := hide (con_range hz3)
    have hsm := ni_same xs ys ps
    clear hz3 HZ1 HZ2 HZ
    refine wp_seq_rest fun K hK' => ?_
    go_wp2
    refine wp_seq_rest fun K hK' => ?_
    go_wp2
    refine wp_region_quiet_lit (by kernel_rfl) (by kernel_rfl) ?_
    refine wpQuiet_lni rfl _ rfl br xs ys ps rfl (fun w hw => by obtain ⟨q, rfl⟩ := hw; exact HR1.out) ?_
    simp only [Act.put, List.setIfInBounds_toArray, List.set_cons_zero, List.set_cons_succ]
    repeat (go_big_quiet_step (fail))
    refine wpQuiet_lni rfl _ rfl z xs ys ps rfl (fun w hw => by obtain ⟨q, rfl⟩ := hw; exact HR2.out) ?_
    simp only [Act.put, List.setIfInBounds_toArray, List.set_cons_zero, List.set_cons_succ]
    repeat (go_big_quiet_step (fail))
    refine wpQuiet_nil ?_
    intro w4 hw'
    obtain ⟨nq, rfl⟩ := hw'
    go_wp2
    exact HCONT.out w1 _ HP.out (by rw [hbr']; exact below_drewN HBEL.out nq) _ _ _ _ _ _ _ _ _ _ _ _ _ _ _ _ _ _ _ _ _ _ _ _ _ _ _ _ _ _ _ _ _ _ _ _ _ _ _ _ _ _ _ _ _ _ _ _ _ _ _ _ _ _ _ _ _ _ _ _ _ _ _ _ _ _ _ _ _ _ _ _ _ _ _ _ _ _ _ _ _ _ _ _ _ _ _ _ _ _ _ _ _ _ _ _ _ _ _ _ _ _ _ _ _ _ _ _ _ _ _ _ _ _ _ _ _ _ _ _ _ _ _ _ _ _ _ _ _ _ _ _ _ _ _ _ _ _ _ _ _ _ _ _ _ _ _ _ _ _ _ _ _ _ _ _ _ _ _ _ _ _ _ _ _ _ _ _ _ _ _ _ _ _ _ _ _ _ _ _ _ _ _ _ _ _ _ _ _ _ _ _ _ _ _ _ _ _ _ _ _ _ _ _ _ _ _ _ _ _ _ _ _ _ _ _ _ _ _ _ _ _ _ _ _ _ _ _ _ _ _ _ _ _ _ _ _ _ _ _ _ _ _ _ _ _ _ _ _ _ _ _ _ _ _ _ _ _ _ _ _ _ _ _ _ _ _ _ _ _ _ _ _ _ _ _ _ _ _ _ _ _ _ _ _ _ _ _ _ _ _ _ _ _ _ _ _ _ _ _ _ _ _ _ _ _ _ _ _ _ _ _ _ _ _ _ _ _ _ _ _ _ _ _ _ _ _ _ _ _ _ _ _ _ _ _ _ _ _ _ _ _ _ _ _ _ _ _ _ _ _ _ _ _ _ _ _ _ _ _ _ _ _ _ _ _ _ _ _ _ _ _ _ _ _ _ _ _ _ _ _ _ _ _ _ _ _ _ _ _ _ _ _ _ _ _ _ _ _ _ _ _ _ _ _ _ _ _ _ _ _ _ _ _ _ _ _ _ _ _ _ _ _ _ _ _ _ _ _ _ _ _ _ _ _ _ _ _ _ _ _ _ _ _ _ _ _ _ _ _ _ _ _ _ _ _ _ _ _ _ _ _ _ _ _ _ _ _ _ _ _ _ _ _ _ _ _ _ _ _ _ _ _ _ _ rfl

end Go.Proofs.Ybulkbtow
