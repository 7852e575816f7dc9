/-
  BModel: the tails put together, from the call on
-/
import Derived.Test.YbulkbtowMGlue1
namespace Go.Proofs.Ybulkbtow
open Go.RowKit
set_option linter.unusedVariables false

set_option maxRecDepth 100000 in
set_option maxHeartbeats 8000000 in
theorem g5 (u0 u1 u2 u3 u4 u5 u6 u7 u8 u9 u10 u11 u12 u13 u14 u21 u22 u23 u26 u27 u28 u29 u31 u32 u33 u36 u37 u40 u41 u42 u43 u44 u45 u46 u47 u48 u49 u50 u51 u52 u53 u54 u55 u56 u57 u58 u59 u60 u61 u62 u63 u64 u65 u66 u67 u68 u69 u70 u71 u72 u73 u74 u75 u76 u77 u78 u79 u80 u81 u82 u83 u84 u85 u86 u87 u88 u89 u90 u91 u92 u93 u94 u95 u96 u97 u98 u99 u100 u101 u102 u103 u104 u105 u106 u107 u108 u109 u110 u111 u112 u113 u114 u115 u116 u117 u118 u119 u120 u121 u122 u123 u124 u125 u126 u127 u128 u129 u130 u131 u132 u133 u134 u135 u136 u137 u138 u139 u140 u141 u142 u143 u144 u145 u146 u147 u148 u149 u150 u151 u152 u153 u154 u155 u156 u157 u158 u159 u160 u161 u162 u163 u164 u165 u166 u167 u168 u169 u170 u171 u172 u173 u174 u175 u176 u177 u178 u179 u180 u181 u182 u183 u184 u185 u186 u187 u188 u189 u190 u191 u192 u193 u194 u195 u196 u197 u198 u199 u200 u201 u202 u203 u204 u205 u206 u207 u208 u209 u210 u211 u212 u213 u214 u215 u216 u217 u218 u219 u220 u221 u222 u223 u224 u225 u226 u227 u228 u229 u230 u231 u232 u233 u234 u235 u236 u237 u238 u239 u240 u241 u242 u243 u244 u245 u246 u247 u248 u249 u250 u251 u252 u253 u254 u255 u256 u257 u258 u259 u260 u261 u262 u263 u264 u265 u266 u267 u268 u269 u270 u271 u272 u273 u274 u275 u276 u277 u278 u279 u280 u281 u282 u283 u284 u285 u286 u287 u288 u289 u290 u291 u292 u293 u294 u295 u296 u297 u298 u299 u300 u301 u302 u303 u304 u305 u306 u307 u308 u309 u310 u311 u312 u313 u314 u315 u316 u317 u318 u319 u320 u321 u322 u323 u324 u325 u326 u327 u328 u329 u330 u331 u332 u333 u334 u335 u336 u337 u338 u339 u340 u341 u342 u343 u344 u345 u346 u347 u348 u349 u350 u351 u352 u353 u354 u355 u356 u357 u358 u359 u360 u361 u362 u363 u364 u365 u366 u367 u368 u369 u370 u371 u372 u373 u374 u375 u376 u377 u378 u379 u380 u381 u382 u383 u384 u385 u386 u387 u388 u389 u390 u391 u392 u393 u394 u395 u396 u397 u398 u399 u400 u401 u402 u403 u404 u405 u406 u407 u408 u409 u410 u411 u412 u413 u414 u415 u416 u417 u418 u419 u420 u421 u422 u423 u424 u425 u426 u427 u428 u429 u430 u431 u432 u433 u434 u435 u436 u437 u438 u439 u440 u441 u442 u443 u444 u445 u446 u447 u448 u449 u450 u451 u452 u453 u454 u455 u456 u457 u458 u459 u460 u461 u462 u463 u464 u465 u466 u467 u468 u469 u470 u471 u472 u473 u474 u475 u476 u477 u478 u479 u480 u481 u482 u483 u484 u485 u486 u487 u488 u489 u490 u491 u492 u493 u494 u495 : Value) (D : Dat) (H gt ct : Nat) (tcs : List Value) (rv : Nat → Value) (pv fv cv wv : Value) (k0 j0 : Nat) (hK hJ : Int) (hp : Value) (rep : Bool) (W : World) (R : Ending → World → Prop) (code : Code) (hcode : (Yba.f3.body).bind (mtail 20) = some code)
    (h : Sys D H gt ct tcs rv pv fv cv wv W) (hk0 : k0 ≤ D.nb) (hbef : ∀ k, k < k0 → ∀ j, j < D.len k → D.port k j ≠ D.tg) (hhit : k0 < D.nb → j0 < D.len k0 ∧ D.port k0 j0 = D.tg ∧ ∀ j, j < j0 → D.port k0 j ≠ D.tg)
    (hKJ : (k0 < D.nb ∧ hK = (k0 : Int) ∧ hJ = (j0 : Int)) ∨ (k0 = D.nb ∧ hK = -1))
    (hpr : (k0 = D.nb ∧ hp = .pointer none ∧ rep = false) ∨ (k0 < D.nb ∧ hp = ptr (D.cb k0 j0) ∧ (rep = true ↔ 2 ≤ D.F k0 j0 + 1 ∧ D.spv k0 ≠ .pointer none)))
    (hfin : ∀ w', Below H W w' → R (.returned (.bool true)) w') :
    code.wp Yba.prog (Exit.noGoto (bodyPost Yba.prog Yba.f3 R)) ⟨#[u0, u1, u2, u3, u4, u5, u6, u7, u8, u9, u10, u11, u12, u13, u14, .int .i64 (D.nb : Int), ptr D.bn, ptr D.ba, ptr D.bt, .slice (some ⟨D.bo, 0, none⟩) D.nb D.nb, .slice (some ⟨D.bs, 0, none⟩) D.nb D.nb, u21, u22, u23, pv, fv, u26, u27, u28, u29, wv, u31, u32, u33, .int .i64 hK, .int .i64 hJ, u36, u37, hp, .bool rep, u40, u41, u42, u43, u44, u45, u46, u47, u48, u49, u50, u51, u52, u53, u54, u55, u56, u57, u58, u59, u60, u61, u62, u63, u64, u65, u66, u67, u68, u69, u70, u71, u72, u73, u74, u75, u76, u77, u78, u79, u80, u81, u82, u83, u84, u85, u86, u87, u88, u89, u90, u91, u92, u93, u94, u95, u96, u97, u98, u99, u100, u101, u102, u103, u104, u105, u106, u107, u108, u109, u110, u111, u112, u113, u114, u115, u116, u117, u118, u119, u120, u121, u122, u123, u124, u125, u126, u127, u128, u129, u130, u131, u132, u133, u134, u135, u136, u137, u138, u139, u140, u141, u142, u143, u144, u145, u146, u147, u148, u149, u150, u151, u152, u153, u154, u155, u156, u157, u158, u159, u160, u161, u162, u163, u164, u165, u166, u167, u168, u169, u170, u171, u172, u173, u174, u175, u176, u177, u178, u179, u180, u181, u182, u183, u184, u185, u186, u187, u188, u189, u190, u191, u192, u193, u194, u195, u196, u197, u198, u199, u200, u201, u202, u203, u204, u205, u206, u207, u208, u209, u210, u211, u212, u213, u214, u215, u216, u217, u218, u219, u220, u221, u222, u223, u224, u225, u226, u227, u228, u229, u230, u231, u232, u233, u234, u235, u236, u237, u238, u239, u240, u241, u242, u243, u244, u245, u246, u247, u248, u249, u250, u251, u252, u253, u254, u255, u256, u257, u258, u259, u260, u261, u262, u263, u264, u265, u266, u267, u268, u269, u270, u271, u272, u273, u274, u275, u276, u277, u278, u279, u280, u281, u282, u283, u284, u285, u286, u287, u288, u289, u290, u291, u292, u293, u294, u295, u296, u297, u298, u299, u300, u301, u302, u303, u304, u305, u306, u307, u308, u309, u310, u311, u312, u313, u314, u315, u316, u317, u318, u319, u320, u321, u322, u323, u324, u325, u326, u327, u328, u329, u330, u331, u332, u333, u334, u335, u336, u337, u338, u339, u340, u341, u342, u343, u344, u345, u346, u347, u348, u349, u350, u351, u352, u353, u354, u355, u356, u357, u358, u359, u360, u361, u362, u363, u364, u365, u366, u367, u368, u369, u370, u371, u372, u373, u374, u375, u376, u377, u378, u379, u380, u381, u382, u383, u384, u385, u386, u387, u388, u389, u390, u391, u392, u393, u394, u395, u396, u397, u398, u399, u400, u401, u402, u403, u404, u405, u406, u407, u408, u409, u410, u411, u412, u413, u414, u415, u416, u417, u418, u419, u420, u421, u422, u423, u424, u425, u426, u427, u428, u429, u430, u431, u432, u433, u434, u435, u436, u437, u438, u439, u440, u441, u442, u443, u444, u445, u446, u447, u448, u449, u450, u451, u452, u453, u454, u455, u456, u457, u458, u459, u460, u461, u462, u463, u464, u465, u466, u467, u468, u469, u470, u471, u472, u473, u474, u475, u476, u477, u478, u479, u480, u481, u482, u483, u484, u485, u486, u487, u488, u489, u490, u491, u492, u493, u494, u495], []⟩ W := by
  -- the row of the hit
  obtain ⟨L0, fr, hrow, hfr, hL0⟩ : ∃ L0 fr, (k0 < D.nb → Vf W (gblk (rv k0)) 58 L0 fr ∧ j0 < L0) ∧ (k0 < D.nb → ∀ j, j < D.len k0 → fr j = ptr (D.cb k0 j)) ∧ (k0 < D.nb → D.len k0 ≤ L0) := by
    by_cases hk : k0 < D.nb
    · rcases (h.rc k0 hk).fn with ⟨h1, h2⟩ | ⟨g, cap, f, hv, _, hc, _, hf, hx⟩
      · have e : D.len k0 = 0 := by rw [← D.xs_len, h2]; rfl
        have := (hhit hk).1
        omega
      · rw [D.xs_len] at hc hx
        refine ⟨cap, f, fun _ => ⟨by rw [gblk_of hv]; exact hf, by have := (hhit hk).1; omega⟩, fun _ j hj => ?_, fun _ => hc⟩
        have h1 := hx j hj
        rw [D.xs_at hj] at h1
        exact (Option.some.inj h1).symm
    · exact ⟨0, fun _ => .pointer none, fun h => absurd h hk, fun h => absurd h hk, fun h => absurd h hk⟩
  -- the candidates
  obtain ⟨gcs, gc, L, f, hC, hgA, hgH, hfC⟩ : ∃ gcs gc L f, CandIn W cv gcs gc L D.nc f D.C D.cd ∧ Alien W gcs [57, 60, 58, 66, 43, 29, 64, 56, 25, 3, 54, 70] ∧ (∀ g ∈ gcs, H ≤ g) ∧ (cv ≠ .slice none 0 0 → D.nc ≤ L ∧ ∀ i, i < D.nc → f i = ptr (D.C i)) := by
    have hlen : ((List.range D.nc).map (fun i => ptr (D.C i))).length = D.nc := by simp
    rcases h.rcv.fn with ⟨h1, h2⟩ | ⟨g, cap, f, hv, hH, hc, hm, hf, hx⟩
    · have e : D.nc = 0 := by rw [← hlen, h2]; rfl
      exact ⟨[], 0, 0, fun _ => .pointer none, .inl ⟨h1, e, rfl⟩, alien_nil _ _, by simp, fun hne => absurd h1 hne⟩
    · rw [hlen] at hv hc hx
      have hfp : ∀ i, i < D.nc → f i = ptr (D.C i) := fun i hi => by
        have h1 := hx i hi
        simp [hi] at h1
        exact h1.symm
      refine ⟨[g], g, cap, f, .inr ⟨hv, ⟨hf, hc, hfp, fun i hi => (h.cb i hi).1, fun i hi => (h.cb i hi).2⟩, by have := h.nc5; omega, hm, rfl⟩, alien_one hf (by decide) (alien_nil _ _), by simp; exact hH, fun _ => ⟨hc, hfp⟩⟩
  have hsvz : D.spv k0 = .pointer none ∨ D.spv k0 = ptr (D.Z k0) := by
    unfold Dat.spv
    by_cases e : D.hs k0 = true
    · rw [if_pos e]; exact .inr rfl
    · rw [if_neg e]; exact .inl rfl
  have hzs : k0 < D.nb → D.spv k0 = ptr (D.Z k0) → D.hs k0 = true := by
    intro hk e
    by_cases e' : D.hs k0 = true
    · exact e'
    · unfold Dat.spv at e
      rw [if_neg e'] at e
      cases e
  have hrep : rep = true ↔ k0 < D.nb ∧ 2 ≤ D.F k0 j0 + 1 ∧ D.spv k0 = ptr (D.Z k0) := by
    rcases hpr with ⟨e1, _, e3⟩ | ⟨e1, _, e3⟩
    · rw [e3]
      constructor
      · intro h; cases h
      · intro h; omega
    · rw [e3]
      constructor
      · rintro ⟨a, b⟩
        rcases hsvz with h | h
        · exact absurd h b
        · exact ⟨e1, a, h⟩
      · rintro ⟨_, a, b⟩
        exact ⟨a, by rw [b]; intro h; cases h⟩
  have hgrB : k0 < D.nb → (rv k0).ownBlock = some (gblk (rv k0)) := fun hk => by
    rcases (h.rc k0 hk).fn with ⟨h1, h2⟩ | ⟨g, cap, f, hv, _, _, _, hf, _⟩
    · have e : D.len k0 = 0 := by rw [← D.xs_len, h2]; rfl
      have := (hhit hk).1
      omega
    · rw [gblk_of hv, hv]; rfl
  have hF0 : -128 ≤ (if k0 < D.nb then D.F k0 j0 else 0) ∧ (if k0 < D.nb then D.F k0 j0 else 0) ≤ 127 := by
    by_cases hk : k0 < D.nb
    · rw [if_pos hk]
      exact h.flb _ (D.idx_lt (hhit hk).1)
    · rw [if_neg hk]
      omega
  have hcon : k0 < D.nb → Blk W (D.cb k0 j0) 66 (conCells (D.cx (D.idx k0 j0)) (D.cy (D.idx k0 j0)) D.tg (if k0 < D.nb then D.F k0 j0 else 0)) := fun hk => by
    have := h.con _ (D.idx_lt (hhit hk).1)
    rw [if_pos hk, ← (hhit hk).2.1]
    exact this
  refine m5 _ _ _ _ _ _ _ _ _ _ _ _ _ _ _ _ _ _ _ _ _ _ _ _ _ _ _ _ _ _ _ _ _ _ _ _ _ _ _ _ _ _ _ _ _ _ _ _ _ _ _ _ _ _ _ _ _ _ _ _ _ _ _ _ _ _ _ _ _ _ _ _ _ _ _ _ _ _ _ _ _ _ _ _ _ _ _ _ _ _ _ _ _ _ _ _ _ _ _ _ _ _ _ _ _ _ _ _ _ _ _ _ _ _ _ _ _ _ _ _ _ _ _ _ _ _ _ _ _ _ _ _ _ _ _ _ _ _ _ _ _ _ _ _ _ _ _ _ _ _ _ _ _ _ _ _ _ _ _ _ _ _ _ _ _ _ _ _ _ _ _ _ _ _ _ _ _ _ _ _ _ _ _ _ _ _ _ _ _ _ _ _ _ _ _ _ _ _ _ _ _ _ _ _ _ _ _ _ _ _ _ _ _ _ _ _ _ _ _ _ _ _ _ _ _ _ _ _ _ _ _ _ _ _ _ _ _ _ _ _ _ _ _ _ _ _ _ _ _ _ _ _ _ _ _ _ _ _ _ _ _ _ _ _ _ _ _ _ _ _ _ _ _ _ _ _ _ _ _ _ _ _ _ _ _ _ _ _ _ _ _ _ _ _ _ _ _ _ _ _ _ _ _ _ _ _ _ _ _ _ _ _ _ _ _ _ _ _ _ _ _ _ _ _ _ _ _ _ _ _ _ _ _ _ _ _ _ _ _ _ _ _ _ _ _ _ _ _ _ _ _ _ _ _ _ _ _ _ _ _ _ _ _ _ _ _ _ _ _ _ _ _ _ _ _ _ _ _ _ _ _ _ _ _ _ _ _ _ _ _ _ _ _ _ _ _ _ _ _ _ _ _ _ _ _ _ _ _ _ _ _ _ _ _ _ _ _ _ _ _ _ _ _ _ _ _ _ _ _ _ _ _ _ _ _ _ _ _ _ _ _ _ _ _ _ _ _ _ _ _ _ _ _ _ _ _ _ _ _ _ _ _ _ _ _ _ _ _ _ _ _ _ _ _ _ _ _ _ _ _ _ _ _ D.nb gt ct D.B D.len (fun k => gblk (rv k)) rv D.cb D.port D.bt tcs cv gcs gc L D.nc f D.C D.cd D.tg D.na D.nx k0 j0 (D.cx (D.idx k0 j0)) (D.cy (D.idx k0 j0)) (if k0 < D.nb then D.F k0 j0 else 0) (D.spv k0) 0 0 L0 fr (D.Z k0) 255 (k0 : Int) (D.spt k0) rep D.bn D.ba D.bo D.bs D.spv hK hJ pv fv hp wv W R code hcode
    h.scan h.nb4 (fun k _ => by have := D.len_le k; have := h.m5; omega) h.tb h.t29 h.t34 hC hk0 hbef hhit hcon hF0 (fun hk => h.bk k0 hk) ?_ hrow ?_ h.ba h.bn h.sp (fun hk e => (h.d1 k0 hk _ (hgrB hk)).1 e.symm) (fun _ e => e) ?_ (hgA.mono (by simp)) ?_
  · rcases hsvz with e | e
    · exact .inl e
    · exact .inr ⟨e, fun hk => ⟨h.zs k0 hk (hzs hk e), fun e' => h.pz _ _ (D.idx_lt (hhit hk).1) hk (hzs hk e) e'.symm⟩⟩
  · rw [hrep]
    constructor
    · rintro ⟨a, b, c⟩; exact ⟨a, by rw [if_pos a]; exact b, c⟩
    · rintro ⟨a, b, c⟩; rw [if_pos a] at b; exact ⟨a, b, c⟩
  · intro hr
    rcases hKJ with h1 | h1
    · exact h1.2.1
    · have := (hrep.1 hr).1; omega
  · intro w1 w2 hF hb2 u0 u1 u2 u3 u4 u5 u6 u7 u8 u9 u10 u11 u12 u13 u14 u17 u21 u22 u23 u26 u27 u28 u29 u31 u32 u33 u36 u37 u40 u41 u42 u43 u44 u45 u46 u47 u48 u49 u50 u51 u52 u53 u54 u55 u56 u57 u58 u59 u60 u61 u62 u63 u64 u65 u66 u67 u68 u69 u70 u71 u72 u73 u74 u75 u76 u77 u78 u79 u80 u81 u82 u83 u84 u85 u86 u87 u88 u89 u90 u91 u92 u93 u94 u95 u96 u97 u98 u99 u100 u101 u102 u103 u104 u105 u106 u107 u108 u109 u110 u111 u112 u113 u114 u115 u116 u117 u118 u119 u120 u121 u122 u123 u124 u125 u126 u127 u128 u129 u130 u131 u132 u133 u134 u135 u136 u137 u138 u139 u140 u141 u142 u143 u144 u145 u146 u147 u148 u149 u150 u151 u152 u153 u154 u155 u156 u157 u158 u159 u160 u161 u162 u163 u164 u165 u166 u167 u168 u169 u170 u171 u172 u173 u174 u175 u176 u177 u178 u179 u180 u181 u182 u183 u184 u185 u186 u187 u188 u189 u190 u191 u192 u193 u194 u195 u196 u197 u198 u199 u200 u201 u202 u203 u204 u205 u206 u207 u208 u209 u210 u211 u212 u213 u214 u215 u216 u217 u218 u219 u220 u221 u222 u223 u224 u225 u226 u227 u228 u229 u230 u231 u232 u233 u234 u235 u236 u237 u238 u239 u240 u241 u242 u243 u244 u245 u246 u247 u248 u249 u250 u251 u252 u253 u254 u255 u256 u257 u258 u259 u260 u261 u262 u263 u264 u265 u266 u267 u268 u269 u270 u271 u272 u273 u274 u275 u276 u277 u278 u279 u280 u281 u282 u283 u284 u285 u286 u287 u288 u289 u290 u291 u292 u293 u294 u295 u296 u297 u298 u299 u300 u301 u302 u303 u304 u305 u306 u307 u308 u309 u310 u311 u312 u313 u314 u315 u316 u317 u318 u319 u320 u321 u322 u323 u324 u325 u326 u327 u328 u329 u330 u331 u332 u333 u334 u335 u336 u337 u338 u339 u340 u341 u342 u343 u344 u345 u346 u347 u348 u349 u350 u351 u352 u353 u354 u355 u356 u357 u358 u359 u360 u361 u362 u363 u364 u365 u366 u367 u368 u369 u370 u371 u372 u373 u374 u375 u376 u377 u378 u379 u380 u381 u382 u383 u384 u385 u386 u387 u388 u389 u390 u391 u392 u393 u394 u395 u396 u397 u398 u399 u400 u401 u402 u403 u404 u405 u406 u407 u408 u409 u410 u411 u412 u413 u414 u415 u416 u417 u418 u419 u420 u421 u422 u423 u424 u425 u426 u427 u428 u429 u430 u431 u432 u433 u434 u435 u436 u437 u438 u439 u440 u441 u442 u443 u444 u445 u446 u447 u448 u449 u450 u451 u452 u453 u454 u455 u456 u457 u458 u459 u460 u461 u462 u463 u464 u465 u466 u467 u468 u469 u470 u471 u472 u473 u474 u475 u476 u477 u478 u479 u480 u481 u482 u483 u484 u485 u486 u487 u488 u489 u490 u491 u492 u493 u494 u495 code hcode
    have hE1 := h.ends hF (hgA.mono (by simp)) (fun hk => (hhit hk).1) hfr hL0
    obtain ⟨keepG, keepP⟩ : (∀ (g : Nat) (e : TypeId) (cs : List Value), Blk W g e cs → (e = 3 ∨ e = 25 ∨ e = 70) → Blk w1 g e cs) ∧ (∀ (g : Nat) (cs : List Value), Blk W g 58 cs → (k0 < D.nb → g ≠ gblk (rv k0)) → Blk w1 g 58 cs) := by
      have hr : k0 < D.nb → ∃ cs, Blk W (gblk (rv k0)) 58 cs := fun hk => ⟨_, (hrow hk).1⟩
      constructor
      · intro g e cs hb he
        refine hF.keeps hb (hb.ne h.tb (by rcases he with rfl | rfl | rfl <;> decide)) (hgA.out hb (by rcases he with rfl | rfl | rfl <;> simp)) (fun hk => hb.ne (hcon hk) (by rcases he with rfl | rfl | rfl <;> decide)) (fun hk _ => ⟨hb.ne (h.bk k0 hk) (by rcases he with rfl | rfl | rfl <;> decide), ?_⟩)
        exact hb.ne (hrow hk).1 (by rcases he with rfl | rfl | rfl <;> decide)
      · intro g cs hb hne
        exact hF.keeps hb (hb.ne h.tb (by decide)) (hgA.out hb (by simp)) (fun hk => hb.ne (hcon hk) (by decide)) (fun hk _ => ⟨hb.ne (h.bk k0 hk) (by decide), hne hk⟩)
    have hbH : Below H W w1 := hF.belowH h.hw h.hbt hgH (fun hk => h.hP _ (D.idx_lt (hhit hk).1)) (fun hk => ⟨h.hB k0 hk, by
      rcases (h.rc k0 hk).type (hgrB hk) with ⟨_, _, hh⟩
      exact hh⟩)
    have hfv1 : RowV w1 fv D.m (fun i => .int .i64 (D.fl i)) := (h.rf.again (fun g cs _ hb => keepG g 3 cs hb (by simp))).rowv (by simp) (fun j hj => by simp [hj])
    have hpv1 : RowV w1 pv D.m (fun i => ptr (D.P i)) := (h.rp.again (fun g cs hg' hb => keepP g cs hb (fun hk e => (h.d1 k0 hk _ (hgrB hk)).2.1 (by rw [hg', e])))).rowv (by simp) (fun j hj => by simp [hj])
    -- the contacts
    obtain ⟨i0, hi0⟩ : ∃ i0, i0 = if k0 < D.nb then D.idx k0 j0 else D.m := ⟨_, rfl⟩
    have hcon1 : ∀ i, i < D.m → ∃ cs, Blk w1 (D.P i) 66 cs ∧ cs[30]? = some (.int .i64 (if i = i0 then D.fl i + 1 else D.fl i)) := by
      intro i hi
      by_cases e : k0 < D.nb ∧ i = D.idx k0 j0
      · obtain ⟨hk, e⟩ := e
        have e0 : i = i0 := by rw [hi0, if_pos hk]; exact e
        rw [if_pos e0]
        obtain ⟨cv', _, _, h1 | h1 | h1⟩ := hF
        · omega
        · refine ⟨_, by rw [e]; exact h1.2.2.2, ?_⟩
          rw [if_pos hk, e]
          rfl
        · refine ⟨_, by rw [e]; exact h1.2.2.2.1, ?_⟩
          rw [if_pos hk, e]
          rfl
      · have e0 : i ≠ i0 := by
          intro e'
          rw [hi0] at e'
          by_cases hk : k0 < D.nb
          · rw [if_pos hk] at e'; exact e ⟨hk, e'⟩
          · rw [if_neg hk] at e'; omega
        rw [if_neg e0]
        have hb := h.con i hi
        refine ⟨_, hF.keeps hb (hb.ne h.tb (by decide)) (hgA.out hb (by simp)) (fun hk e' => e ⟨hk, h.pin _ _ hi (D.idx_lt (hhit hk).1) e'⟩) (fun hk _ => ⟨hb.ne (h.bk k0 hk) (by decide), hb.ne (hrow hk).1 (by decide)⟩), rfl⟩
    have hhp : (i0 < D.m ∧ hp = ptr (D.P i0)) ∨ (D.m ≤ i0 ∧ hp = .pointer none) := by
      rcases hpr with ⟨e1, e2, _⟩ | ⟨e1, e2, _⟩
      · exact .inr ⟨by rw [hi0, if_neg (by omega)]; exact Nat.le_refl _, e2⟩
      · rw [hi0, if_pos e1]
        exact .inl ⟨D.idx_lt (hhit e1).1, e2⟩
    have hSwap : Swap D.nb D.len (fun k => if rep = true ∧ k = k0 then .pointer none else D.spv k) D.spv (fun k => if rep = true ∧ k = k0 then D.na else 0) (fun k => if rep = true ∧ k = k0 then D.nx else 0) D.cb (fun k j => if rep = true ∧ k = k0 ∧ j = j0 then D.Z k0 else D.cb k j) D.na D.nx rep hK hJ := by
      have hKr : rep = true → hK = (k0 : Int) ∧ hJ = (j0 : Int) := fun hr => by
        rcases hKJ with h1 | h1
        · exact h1.2
        · have := (hrep.1 hr).1; omega
      refine ⟨fun k hk => ?_, fun k hk hne => ?_, fun k hk hr e => ?_, fun k hk j hj hne => ?_, fun k hk j hj hr e1 e2 => ?_⟩
      · unfold Dat.spv
        by_cases e : D.hs k = true
        · rw [if_pos e]; exact .inr ⟨_, rfl⟩
        · rw [if_neg e]; exact .inl rfl
      · have : ¬ (rep = true ∧ k = k0) := fun e => hne ⟨e.1, by rw [(hKr e.1).1, e.2]⟩
        simp only [if_neg this]
        exact ⟨trivial, trivial, trivial⟩
      · have e' : k = k0 := by have := (hKr hr).1; omega
        simp only [if_pos (show rep = true ∧ k = k0 from ⟨hr, e'⟩)]
        exact ⟨trivial, trivial, trivial⟩
      · rw [if_neg]
        rintro ⟨a, b, c⟩
        exact hne ⟨a, by rw [(hKr a).1, b], by rw [(hKr a).2, c]⟩
      · have ek : k = k0 := by have := (hKr hr).1; omega
        have ej : j = j0 := by have := (hKr hr).2; omega
        rw [if_pos ⟨hr, ek, ej⟩, ek]
        exact (hrep.1 hr).2.2
    -- the candidates that are left
    obtain ⟨sel, hsel⟩ : ∃ sel : Nat → Nat, ∀ i, i < D.nc → D.cd i ≠ D.tg → sel (cnt (fun i => D.cd i != D.tg) i) = i := ⟨fun x => (((List.range D.nc).filter (fun i => D.cd i != D.tg))[x]?).getD 0, fun i hi hne => by
      dsimp only
      rw [filter_at _ _ i hi (by simp [hne])]
      rfl⟩
    have hfind : ∀ x, x < cnt (fun i => D.cd i != D.tg) D.nc → ∃ i, i < D.nc ∧ D.cd i ≠ D.tg ∧ cnt (fun i => D.cd i != D.tg) i = x ∧ sel x = i := fun x hx => by
      obtain ⟨i, h1, h2, h3⟩ := cnt_find hx
      have h2' : D.cd i ≠ D.tg := by simpa using h2
      exact ⟨i, h1, h2', h3, by rw [← h3]; exact hsel i h1 h2'⟩
    have hwv1 : RowV w1 wv (cnt (fun i => D.cd i != D.tg) D.nc) (fun x => .int .u16 (D.cd (sel x))) := (h.rw'.again (fun g cs _ hb => keepG g 25 cs hb (by simp))).rowv (by rw [List.length_map, filter_cnt]) (fun x hx => by
      obtain ⟨i, h1, h2, h3, h4⟩ := hfind x hx
      rw [List.getElem?_map, ← h3, filter_at _ _ i h1 (by simp [h2]), h3, h4]
      rfl)
    have hap1 : ∀ x, x < cnt (fun i => D.cd i != D.tg) D.nc → ApAt w1 (D.C (sel x)) 20 (D.cd (sel x)) := fun x hx => by
      obtain ⟨i, h1, h2, h3, h4⟩ := hfind x hx
      rw [h4]
      obtain ⟨cs, hb⟩ := (h.cb i h1).1
      have hb1 := keepG _ 70 cs hb (by simp)
      have ha := (h.cb i h1).2
      exact ⟨by rw [blk_cell hb hb1]; exact ha.a0, by rw [blk_cell hb hb1]; exact ha.a1, by rw [blk_cell hb hb1]; exact ha.a2, by rw [blk_cell hb hb1]; exact ha.a3⟩
    obtain ⟨cv', hbt1, hco⟩ : ∃ cv', Blk w1 D.bt 54 (tcs.set 34 cv') ∧ CandOut w1 cv' gc L D.nc f D.cd D.tg := by obtain ⟨cv', h1, h2, _⟩ := hF; exact ⟨cv', h1, h2⟩
    have t34 : w1.cell? ⟨D.bt, 34, none⟩ = some cv' := by
      rw [hbt1.at 34, List.getElem?_set_self]
      have := h.t34
      rw [List.getElem?_eq_some_iff] at this
      exact this.1
    have hcv1 : RowV w1 cv' (cnt (fun i => D.cd i != D.tg) D.nc) (fun x => ptr (D.C (sel x))) := by
      rcases hco with ⟨e1, e2⟩ | ⟨e1, f', hv, hf'⟩
      · rw [e1, e2]
        exact ⟨none, 0, rfl, fun h => absurd h (by simp [cnt])⟩
      · rw [e1]
        refine ⟨_, _, rfl, fun hpos => ⟨gc, rfl, fun x hx => ?_⟩⟩
        have hne : cv ≠ .slice none 0 0 := by
          intro e
          rcases hC with ⟨_, hn, _⟩ | ⟨hc, _⟩
          · rw [hn] at hpos; simp [cnt] at hpos
          · rw [e] at hc; cases hc
        obtain ⟨hle, hfp⟩ := hfC hne
        obtain ⟨i, h1, h2, h3, h4⟩ := hfind x hx
        rw [hv.at (by have := cnt_le (fun i => D.cd i != D.tg) D.nc; omega), ← h3, hf' i h1 h2, hfp i h1, h3]
        show some (ptr (D.C i)) = some (ptr (D.C (sel x)))
        rw [h4]
    refine m6 _ _ _ _ _ _ _ _ _ _ _ _ _ _ _ _ _ _ _ _ _ _ _ _ _ _ _ _ _ _ _ _ _ _ _ _ _ _ _ _ _ _ _ _ _ _ _ _ _ _ _ _ _ _ _ _ _ _ _ _ _ _ _ _ _ _ _ _ _ _ _ _ _ _ _ _ _ _ _ _ _ _ _ _ _ _ _ _ _ _ _ _ _ _ _ _ _ _ _ _ _ _ _ _ _ _ _ _ _ _ _ _ _ _ _ _ _ _ _ _ _ _ _ _ _ _ _ _ _ _ _ _ _ _ _ _ _ _ _ _ _ _ _ _ _ _ _ _ _ _ _ _ _ _ _ _ _ _ _ _ _ _ _ _ _ _ _ _ _ _ _ _ _ _ _ _ _ _ _ _ _ _ _ _ _ _ _ _ _ _ _ _ _ _ _ _ _ _ _ _ _ _ _ _ _ _ _ _ _ _ _ _ _ _ _ _ _ _ _ _ _ _ _ _ _ _ _ _ _ _ _ _ _ _ _ _ _ _ _ _ _ _ _ _ _ _ _ _ _ _ _ _ _ _ _ _ _ _ _ _ _ _ _ _ _ _ _ _ _ _ _ _ _ _ _ _ _ _ _ _ _ _ _ _ _ _ _ _ _ _ _ _ _ _ _ _ _ _ _ _ _ _ _ _ _ _ _ _ _ _ _ _ _ _ _ _ _ _ _ _ _ _ _ _ _ _ _ _ _ _ _ _ _ _ _ _ _ _ _ _ _ _ _ _ _ _ _ _ _ _ _ _ _ _ _ _ _ _ _ _ _ _ _ _ _ _ _ _ _ _ _ _ _ _ _ _ _ _ _ _ _ _ _ _ _ _ _ _ _ _ _ _ _ _ _ _ _ _ _ _ _ _ _ _ _ _ _ _ _ _ _ _ _ _ _ _ _ _ _ _ _ _ _ _ _ _ _ _ _ _ _ _ _ _ _ _ _ _ _ _ _ _ _ _ _ _ _ _ _ _ _ _ _ _ _ _ _ _ _ _ _ _ _ _ _ _ _ _ _ _ _ _ _ _ _ _ _ _ _ _ _ _ _ _ D.bt D.nb D.bo D.bs D.bn hK hJ rep pv fv hp wv cv' (cnt (fun i => D.cd i != D.tg) D.nc) (fun x => D.C (sel x)) (fun x => D.cd (sel x)) w2 R code hcode (by have := cnt_le (fun i => D.cd i != D.tg) D.nc; have := h.nc5; omega) (cell_below t34 hb2) (hcv1.below hb2) (hwv1.below hb2) (fun x hx => (hap1 x hx).below hb2 (Go.block_lt_of_cell (hap1 x hx).a0)) ?_
    intro w3 hb3 u0 u1 u2 u3 u4 u5 u6 u7 u8 u9 u10 u11 u12 u13 u14 u17 u21 u22 u23 u26 u27 u28 u29 u30 u31 u32 u33 u36 u37 u40 u41 u42 u43 u44 u45 u46 u47 u48 u49 u50 u51 u52 u53 u54 u55 u56 u57 u58 u59 u60 u61 u62 u63 u64 u65 u66 u67 u68 u69 u70 u71 u72 u73 u74 u75 u76 u77 u78 u79 u80 u81 u82 u83 u84 u85 u86 u87 u88 u89 u90 u91 u92 u93 u94 u95 u96 u97 u98 u99 u100 u101 u102 u103 u104 u105 u106 u107 u108 u109 u110 u111 u112 u113 u114 u115 u116 u117 u118 u119 u120 u121 u122 u123 u124 u125 u126 u127 u128 u129 u130 u131 u132 u133 u134 u135 u136 u137 u138 u139 u140 u141 u142 u143 u144 u145 u146 u147 u148 u149 u150 u151 u152 u153 u154 u155 u156 u157 u158 u159 u160 u161 u162 u163 u164 u165 u166 u167 u168 u169 u170 u171 u172 u173 u174 u175 u176 u177 u178 u179 u180 u181 u182 u183 u184 u185 u186 u187 u188 u189 u190 u191 u192 u193 u194 u195 u196 u197 u198 u199 u200 u201 u202 u203 u204 u205 u206 u207 u208 u209 u210 u211 u212 u213 u214 u215 u216 u217 u218 u219 u220 u221 u222 u223 u224 u225 u226 u227 u228 u229 u230 u231 u232 u233 u234 u235 u236 u237 u238 u239 u240 u241 u242 u243 u244 u245 u246 u247 u248 u249 u250 u251 u252 u253 u254 u255 u256 u257 u258 u259 u260 u261 u262 u263 u264 u265 u266 u267 u268 u269 u270 u271 u272 u273 u274 u275 u276 u277 u278 u279 u280 u281 u282 u283 u284 u285 u286 u287 u288 u289 u290 u291 u292 u293 u294 u295 u296 u297 u298 u299 u300 u301 u302 u303 u304 u305 u306 u307 u308 u309 u310 u311 u312 u313 u314 u315 u316 u317 u318 u319 u320 u321 u322 u323 u324 u325 u326 u327 u328 u329 u330 u331 u332 u333 u334 u335 u336 u337 u338 u339 u340 u341 u342 u343 u344 u345 u346 u347 u348 u349 u350 u351 u352 u353 u354 u355 u356 u357 u358 u359 u360 u361 u362 u363 u364 u365 u366 u367 u368 u369 u370 u371 u372 u373 u374 u375 u376 u377 u378 u379 u380 u381 u382 u383 u384 u385 u386 u387 u388 u389 u390 u391 u392 u393 u394 u395 u396 u397 u398 u399 u400 u401 u402 u403 u404 u405 u406 u407 u408 u409 u410 u411 u412 u413 u414 u415 u416 u417 u418 u419 u420 u421 u422 u423 u424 u425 u426 u427 u428 u429 u430 u431 u432 u433 u434 u435 u436 u437 u438 u439 u440 u441 u442 u443 u444 u445 u446 u447 u448 u449 u450 u451 u452 u453 u454 u455 u456 u457 u458 u459 u460 u461 u462 u463 u464 u465 u466 u467 u468 u469 u470 u471 u472 u473 u474 u475 u476 u477 u478 u479 u480 u481 u482 u483 u484 u485 u486 u487 u488 u489 u490 u491 u492 u493 u494 u495 code hcode
    have hb13 : Below w1.heap.size w1 w3 := hb2.trans (hb3.mono hb2.size)
    refine m7 _ _ _ _ _ _ _ _ _ _ _ _ _ _ _ _ _ _ _ _ _ _ _ _ _ _ _ _ _ _ _ _ _ _ _ _ _ _ _ _ _ _ _ _ _ _ _ _ _ _ _ _ _ _ _ _ _ _ _ _ _ _ _ _ _ _ _ _ _ _ _ _ _ _ _ _ _ _ _ _ _ _ _ _ _ _ _ _ _ _ _ _ _ _ _ _ _ _ _ _ _ _ _ _ _ _ _ _ _ _ _ _ _ _ _ _ _ _ _ _ _ _ _ _ _ _ _ _ _ _ _ _ _ _ _ _ _ _ _ _ _ _ _ _ _ _ _ _ _ _ _ _ _ _ _ _ _ _ _ _ _ _ _ _ _ _ _ _ _ _ _ _ _ _ _ _ _ _ _ _ _ _ _ _ _ _ _ _ _ _ _ _ _ _ _ _ _ _ _ _ _ _ _ _ _ _ _ _ _ _ _ _ _ _ _ _ _ _ _ _ _ _ _ _ _ _ _ _ _ _ _ _ _ _ _ _ _ _ _ _ _ _ _ _ _ _ _ _ _ _ _ _ _ _ _ _ _ _ _ _ _ _ _ _ _ _ _ _ _ _ _ _ _ _ _ _ _ _ _ _ _ _ _ _ _ _ _ _ _ _ _ _ _ _ _ _ _ _ _ _ _ _ _ _ _ _ _ _ _ _ _ _ _ _ _ _ _ _ _ _ _ _ _ _ _ _ _ _ _ _ _ _ _ _ _ _ _ _ _ _ _ _ _ _ _ _ _ _ _ _ _ _ _ _ _ _ _ _ _ _ _ _ _ _ _ _ _ _ _ _ _ _ _ _ _ _ _ _ _ _ _ _ _ _ _ _ _ _ _ _ _ _ _ _ _ _ _ _ _ _ _ _ _ _ _ _ _ _ _ _ _ _ _ _ _ _ _ _ _ _ _ _ _ _ _ _ _ _ _ _ _ _ _ _ _ _ _ _ _ _ _ _ _ _ _ _ _ _ _ _ _ _ _ _ _ _ _ _ _ _ _ _ _ _ _ _ _ _ _ _ _ _ _ _ _ _ _ _ _ _ _ _ _ _ _ D.nb D.bt gt ct D.bo D.bs D.bn D.B D.len rv (fun k => rv (D.nb + k)) _ D.spv _ _ D.cb _ D.na D.nx rep hK hJ D.m i0 D.P D.fl pv fv hp w3 R code hcode (hE1.below hb13) hSwap h.nb4 (fun k _ => by have := D.len_le k; have := h.m5; omega) h.m5 (hpv1.below hb13) (hfv1.below hb13) h.flb (fun i hi => ?_) (fun i hi => ?_) hhp h.pin (fun w' hb => hfin w' ?_)
    · obtain ⟨cs, hb, _⟩ := hcon1 i hi
      exact ⟨cs, hb.below hb13 hb.lt⟩
    · obtain ⟨cs, hb, hc⟩ := hcon1 i hi
      exact cell_below ((hb.at 30).trans hc) hb13
    · exact (hbH.trans (hb13.mono (Nat.le_trans h.hw hbH.size))).trans (hb.mono (Nat.le_trans (Nat.le_trans h.hw hbH.size) hb13.size))

set_option maxRecDepth 100000 in
set_option maxHeartbeats 8000000 in
theorem g14 (u0 u1 u2 u3 u4 u5 u6 u7 u8 u9 u10 u11 u12 u13 u14 u21 u22 u23 u26 u27 u28 u29 u31 u32 u33 u34 u35 u36 u37 u38 u39 u40 u41 u42 u43 u44 u45 u46 u47 u48 u49 u50 u51 u52 u53 u54 u55 u56 u57 u58 u59 u60 u61 u62 u63 u64 u65 u66 u67 u68 u69 u70 u71 u72 u73 u74 u75 u76 u77 u78 u79 u80 u81 u82 u83 u84 u85 u86 u87 u88 u89 u90 u91 u92 u93 u94 u95 u96 u97 u98 u99 u100 u101 u102 u103 u104 u105 u106 u107 u108 u109 u110 u111 u112 u113 u114 u115 u116 u117 u118 u119 u120 u121 u122 u123 u124 u125 u126 u127 u128 u129 u130 u131 u132 u133 u134 u135 u136 u137 u138 u139 u140 u141 u142 u143 u144 u145 u146 u147 u148 u149 u150 u151 u152 u153 u154 u155 u156 u157 u158 u159 u160 u161 u162 u163 u164 u165 u166 u167 u168 u169 u170 u171 u172 u173 u174 u175 u176 u177 u178 u179 u180 u181 u182 u183 u184 u185 u186 u187 u188 u189 u190 u191 u192 u193 u194 u195 u196 u197 u198 u199 u200 u201 u202 u203 u204 u205 u206 u207 u208 u209 u210 u211 u212 u213 u214 u215 u216 u217 u218 u219 u220 u221 u222 u223 u224 u225 u226 u227 u228 u229 u230 u231 u232 u233 u234 u235 u236 u237 u238 u239 u240 u241 u242 u243 u244 u245 u246 u247 u248 u249 u250 u251 u252 u253 u254 u255 u256 u257 u258 u259 u260 u261 u262 u263 u264 u265 u266 u267 u268 u269 u270 u271 u272 u273 u274 u275 u276 u277 u278 u279 u280 u281 u282 u283 u284 u285 u286 u287 u288 u289 u290 u291 u292 u293 u294 u295 u296 u297 u298 u299 u300 u301 u302 u303 u304 u305 u306 u307 u308 u309 u310 u311 u312 u313 u314 u315 u316 u317 u318 u319 u320 u321 u322 u323 u324 u325 u326 u327 u328 u329 u330 u331 u332 u333 u334 u335 u336 u337 u338 u339 u340 u341 u342 u343 u344 u345 u346 u347 u348 u349 u350 u351 u352 u353 u354 u355 u356 u357 u358 u359 u360 u361 u362 u363 u364 u365 u366 u367 u368 u369 u370 u371 u372 u373 u374 u375 u376 u377 u378 u379 u380 u381 u382 u383 u384 u385 u386 u387 u388 u389 u390 u391 u392 u393 u394 u395 u396 u397 u398 u399 u400 u401 u402 u403 u404 u405 u406 u407 u408 u409 u410 u411 u412 u413 u414 u415 u416 u417 u418 u419 u420 u421 u422 u423 u424 u425 u426 u427 u428 u429 u430 u431 u432 u433 u434 u435 u436 u437 u438 u439 u440 u441 u442 u443 u444 u445 u446 u447 u448 u449 u450 u451 u452 u453 u454 u455 u456 u457 u458 u459 u460 u461 u462 u463 u464 u465 u466 u467 u468 u469 u470 u471 u472 u473 u474 u475 u476 u477 u478 u479 u480 u481 u482 u483 u484 u485 u486 u487 u488 u489 u490 u491 u492 u493 u494 u495 : Value) (D : Dat) (H gt ct : Nat) (tcs : List Value) (rv : Nat → Value) (pv fv cv wv : Value) (W : World) (R : Ending → World → Prop) (code : Code) (hcode : (Yba.f3.body).bind (mtail 14) = some code)
    (h : Sys D H gt ct tcs rv pv fv cv wv W) (hfin : ∀ w', Below H W w' → R (.returned (.bool true)) w') :
    code.wp Yba.prog (Exit.noGoto (bodyPost Yba.prog Yba.f3 R)) ⟨#[u0, u1, u2, u3, u4, u5, u6, u7, u8, u9, u10, u11, u12, u13, u14, .int .i64 (D.nb : Int), ptr D.bn, ptr D.ba, ptr D.bt, .slice (some ⟨D.bo, 0, none⟩) D.nb D.nb, .slice (some ⟨D.bs, 0, none⟩) D.nb D.nb, u21, u22, u23, pv, fv, u26, u27, u28, u29, wv, u31, u32, u33, u34, u35, u36, u37, u38, u39, u40, u41, u42, u43, u44, u45, u46, u47, u48, u49, u50, u51, u52, u53, u54, u55, u56, u57, u58, u59, u60, u61, u62, u63, u64, u65, u66, u67, u68, u69, u70, u71, u72, u73, u74, u75, u76, u77, u78, u79, u80, u81, u82, u83, u84, u85, u86, u87, u88, u89, u90, u91, u92, u93, u94, u95, u96, u97, u98, u99, u100, u101, u102, u103, u104, u105, u106, u107, u108, u109, u110, u111, u112, u113, u114, u115, u116, u117, u118, u119, u120, u121, u122, u123, u124, u125, u126, u127, u128, u129, u130, u131, u132, u133, u134, u135, u136, u137, u138, u139, u140, u141, u142, u143, u144, u145, u146, u147, u148, u149, u150, u151, u152, u153, u154, u155, u156, u157, u158, u159, u160, u161, u162, u163, u164, u165, u166, u167, u168, u169, u170, u171, u172, u173, u174, u175, u176, u177, u178, u179, u180, u181, u182, u183, u184, u185, u186, u187, u188, u189, u190, u191, u192, u193, u194, u195, u196, u197, u198, u199, u200, u201, u202, u203, u204, u205, u206, u207, u208, u209, u210, u211, u212, u213, u214, u215, u216, u217, u218, u219, u220, u221, u222, u223, u224, u225, u226, u227, u228, u229, u230, u231, u232, u233, u234, u235, u236, u237, u238, u239, u240, u241, u242, u243, u244, u245, u246, u247, u248, u249, u250, u251, u252, u253, u254, u255, u256, u257, u258, u259, u260, u261, u262, u263, u264, u265, u266, u267, u268, u269, u270, u271, u272, u273, u274, u275, u276, u277, u278, u279, u280, u281, u282, u283, u284, u285, u286, u287, u288, u289, u290, u291, u292, u293, u294, u295, u296, u297, u298, u299, u300, u301, u302, u303, u304, u305, u306, u307, u308, u309, u310, u311, u312, u313, u314, u315, u316, u317, u318, u319, u320, u321, u322, u323, u324, u325, u326, u327, u328, u329, u330, u331, u332, u333, u334, u335, u336, u337, u338, u339, u340, u341, u342, u343, u344, u345, u346, u347, u348, u349, u350, u351, u352, u353, u354, u355, u356, u357, u358, u359, u360, u361, u362, u363, u364, u365, u366, u367, u368, u369, u370, u371, u372, u373, u374, u375, u376, u377, u378, u379, u380, u381, u382, u383, u384, u385, u386, u387, u388, u389, u390, u391, u392, u393, u394, u395, u396, u397, u398, u399, u400, u401, u402, u403, u404, u405, u406, u407, u408, u409, u410, u411, u412, u413, u414, u415, u416, u417, u418, u419, u420, u421, u422, u423, u424, u425, u426, u427, u428, u429, u430, u431, u432, u433, u434, u435, u436, u437, u438, u439, u440, u441, u442, u443, u444, u445, u446, u447, u448, u449, u450, u451, u452, u453, u454, u455, u456, u457, u458, u459, u460, u461, u462, u463, u464, u465, u466, u467, u468, u469, u470, u471, u472, u473, u474, u475, u476, u477, u478, u479, u480, u481, u482, u483, u484, u485, u486, u487, u488, u489, u490, u491, u492, u493, u494, u495], []⟩ W := by
  refine m4 _ _ _ _ _ _ _ _ _ _ _ _ _ _ _ _ _ _ _ _ _ _ _ _ _ _ _ _ _ _ _ _ _ _ _ _ _ _ _ _ _ _ _ _ _ _ _ _ _ _ _ _ _ _ _ _ _ _ _ _ _ _ _ _ _ _ _ _ _ _ _ _ _ _ _ _ _ _ _ _ _ _ _ _ _ _ _ _ _ _ _ _ _ _ _ _ _ _ _ _ _ _ _ _ _ _ _ _ _ _ _ _ _ _ _ _ _ _ _ _ _ _ _ _ _ _ _ _ _ _ _ _ _ _ _ _ _ _ _ _ _ _ _ _ _ _ _ _ _ _ _ _ _ _ _ _ _ _ _ _ _ _ _ _ _ _ _ _ _ _ _ _ _ _ _ _ _ _ _ _ _ _ _ _ _ _ _ _ _ _ _ _ _ _ _ _ _ _ _ _ _ _ _ _ _ _ _ _ _ _ _ _ _ _ _ _ _ _ _ _ _ _ _ _ _ _ _ _ _ _ _ _ _ _ _ _ _ _ _ _ _ _ _ _ _ _ _ _ _ _ _ _ _ _ _ _ _ _ _ _ _ _ _ _ _ _ _ _ _ _ _ _ _ _ _ _ _ _ _ _ _ _ _ _ _ _ _ _ _ _ _ _ _ _ _ _ _ _ _ _ _ _ _ _ _ _ _ _ _ _ _ _ _ _ _ _ _ _ _ _ _ _ _ _ _ _ _ _ _ _ _ _ _ _ _ _ _ _ _ _ _ _ _ _ _ _ _ _ _ _ _ _ _ _ _ _ _ _ _ _ _ _ _ _ _ _ _ _ _ _ _ _ _ _ _ _ _ _ _ _ _ _ _ _ _ _ _ _ _ _ _ _ _ _ _ _ _ _ _ _ _ _ _ _ _ _ _ _ _ _ _ _ _ _ _ _ _ _ _ _ _ _ _ _ _ _ _ _ _ _ _ _ _ _ _ _ _ _ _ _ _ _ _ _ _ _ _ _ _ _ _ _ _ _ _ _ _ _ _ _ _ _ _ _ _ _ _ _ _ _ _ _ _ _ _ _ _ _ _ _ _ _ _ _ _ _ _ D.nb D.bn D.ba D.bt D.bo D.bs D.len (fun k => rv (D.nb + k)) D.cb D.port D.tg pv fv wv D.spv D.F W R code hcode h.look h.nb4 (fun k _ => by have := D.len_le k; have := h.m5; omega) (fun k hk => h.sp.at hk) (fun k hk => ?_) (fun k hk j hj => (h.con _ (D.idx_lt hj)).at 30) (fun k hk j hj => h.flb _ (D.idx_lt hj)) ?_
  · unfold Dat.spv
    by_cases e : D.hs k = true
    · rw [if_pos e]; exact .inr ⟨_, rfl⟩
    · rw [if_neg e]; exact .inl rfl
  · intro k0 j0 hK hJ q1 q2 q3 q4 hp rep m hpr u0 u1 u2 u3 u4 u5 u6 u7 u8 u9 u10 u11 u12 u13 u14 u21 u22 u23 u26 u27 u28 u29 u31 u32 u33 u36 u37 u40 u41 u42 u43 u44 u45 u46 u47 u48 u49 u50 u51 u52 u53 u54 u55 u56 u57 u58 u59 u60 u61 u62 u63 u64 u65 u66 u67 u68 u69 u70 u71 u72 u73 u74 u75 u76 u77 u78 u79 u80 u81 u82 u83 u84 u85 u86 u87 u88 u89 u90 u91 u92 u93 u94 u95 u96 u97 u98 u99 u100 u101 u102 u103 u104 u105 u106 u107 u108 u109 u110 u111 u112 u113 u114 u115 u116 u117 u118 u119 u120 u121 u122 u123 u124 u125 u126 u127 u128 u129 u130 u131 u132 u133 u134 u135 u136 u137 u138 u139 u140 u141 u142 u143 u144 u145 u146 u147 u148 u149 u150 u151 u152 u153 u154 u155 u156 u157 u158 u159 u160 u161 u162 u163 u164 u165 u166 u167 u168 u169 u170 u171 u172 u173 u174 u175 u176 u177 u178 u179 u180 u181 u182 u183 u184 u185 u186 u187 u188 u189 u190 u191 u192 u193 u194 u195 u196 u197 u198 u199 u200 u201 u202 u203 u204 u205 u206 u207 u208 u209 u210 u211 u212 u213 u214 u215 u216 u217 u218 u219 u220 u221 u222 u223 u224 u225 u226 u227 u228 u229 u230 u231 u232 u233 u234 u235 u236 u237 u238 u239 u240 u241 u242 u243 u244 u245 u246 u247 u248 u249 u250 u251 u252 u253 u254 u255 u256 u257 u258 u259 u260 u261 u262 u263 u264 u265 u266 u267 u268 u269 u270 u271 u272 u273 u274 u275 u276 u277 u278 u279 u280 u281 u282 u283 u284 u285 u286 u287 u288 u289 u290 u291 u292 u293 u294 u295 u296 u297 u298 u299 u300 u301 u302 u303 u304 u305 u306 u307 u308 u309 u310 u311 u312 u313 u314 u315 u316 u317 u318 u319 u320 u321 u322 u323 u324 u325 u326 u327 u328 u329 u330 u331 u332 u333 u334 u335 u336 u337 u338 u339 u340 u341 u342 u343 u344 u345 u346 u347 u348 u349 u350 u351 u352 u353 u354 u355 u356 u357 u358 u359 u360 u361 u362 u363 u364 u365 u366 u367 u368 u369 u370 u371 u372 u373 u374 u375 u376 u377 u378 u379 u380 u381 u382 u383 u384 u385 u386 u387 u388 u389 u390 u391 u392 u393 u394 u395 u396 u397 u398 u399 u400 u401 u402 u403 u404 u405 u406 u407 u408 u409 u410 u411 u412 u413 u414 u415 u416 u417 u418 u419 u420 u421 u422 u423 u424 u425 u426 u427 u428 u429 u430 u431 u432 u433 u434 u435 u436 u437 u438 u439 u440 u441 u442 u443 u444 u445 u446 u447 u448 u449 u450 u451 u452 u453 u454 u455 u456 u457 u458 u459 u460 u461 u462 u463 u464 u465 u466 u467 u468 u469 u470 u471 u472 u473 u474 u475 u476 u477 u478 u479 u480 u481 u482 u483 u484 u485 u486 u487 u488 u489 u490 u491 u492 u493 u494 u495 code hcode
    exact g5 _ _ _ _ _ _ _ _ _ _ _ _ _ _ _ _ _ _ _ _ _ _ _ _ _ _ _ _ _ _ _ _ _ _ _ _ _ _ _ _ _ _ _ _ _ _ _ _ _ _ _ _ _ _ _ _ _ _ _ _ _ _ _ _ _ _ _ _ _ _ _ _ _ _ _ _ _ _ _ _ _ _ _ _ _ _ _ _ _ _ _ _ _ _ _ _ _ _ _ _ _ _ _ _ _ _ _ _ _ _ _ _ _ _ _ _ _ _ _ _ _ _ _ _ _ _ _ _ _ _ _ _ _ _ _ _ _ _ _ _ _ _ _ _ _ _ _ _ _ _ _ _ _ _ _ _ _ _ _ _ _ _ _ _ _ _ _ _ _ _ _ _ _ _ _ _ _ _ _ _ _ _ _ _ _ _ _ _ _ _ _ _ _ _ _ _ _ _ _ _ _ _ _ _ _ _ _ _ _ _ _ _ _ _ _ _ _ _ _ _ _ _ _ _ _ _ _ _ _ _ _ _ _ _ _ _ _ _ _ _ _ _ _ _ _ _ _ _ _ _ _ _ _ _ _ _ _ _ _ _ _ _ _ _ _ _ _ _ _ _ _ _ _ _ _ _ _ _ _ _ _ _ _ _ _ _ _ _ _ _ _ _ _ _ _ _ _ _ _ _ _ _ _ _ _ _ _ _ _ _ _ _ _ _ _ _ _ _ _ _ _ _ _ _ _ _ _ _ _ _ _ _ _ _ _ _ _ _ _ _ _ _ _ _ _ _ _ _ _ _ _ _ _ _ _ _ _ _ _ _ _ _ _ _ _ _ _ _ _ _ _ _ _ _ _ _ _ _ _ _ _ _ _ _ _ _ _ _ _ _ _ _ _ _ _ _ _ _ _ _ _ _ _ _ _ _ _ _ _ _ _ _ _ _ _ _ _ _ _ _ _ _ _ _ _ _ _ _ _ _ _ _ _ _ _ _ _ _ _ _ _ _ _ _ _ _ _ _ _ _ _ _ _ _ _ _ _ _ _ _ _ _ _ _ _ _ _ _ _ _ _ _ _ _ _ _ _ _ _ _ _ _ _ D H gt ct tcs rv pv fv cv wv k0 j0 hK hJ hp rep (W.drewN m) R code hcode (h.drewN m) q1 q2 q3 q4 hpr (fun w' hb => hfin w' ((below_drewN (Below.refl H W) m).trans hb))

end Go.Proofs.Ybulkbtow
