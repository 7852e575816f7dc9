/-
  BModel: the buckets are laid: the loop
-/
import Derived.Test.YbulkbtowMT1r
namespace Go.Proofs.Ybulkbtow
open Go.RowKit
set_option linter.unusedVariables false

/-- The loop's relation. -/
def C1 (D : Dat) (H : Nat) (w0 : World) (t : Value) (w : World) : Prop :=
  ∃ (k : Nat) (B Z : Nat → Nat) (tcs : List Value) (tv : Value), k ≤ D.nb ∧ t = .int .i64 (k : Int) ∧ Below H w0 w ∧ Bks { D with B := B, Z := Z } H k tcs tv w

set_option maxRecDepth 100000 in
set_option maxHeartbeats 8000000 in
theorem m1 (u3 u4 u6 u7 u8 u9 u10 u11 u12 u13 u14 u21 u22 u23 u24 u25 u26 u27 u28 u29 u30 u31 u32 u33 u34 u35 u36 u37 u38 u39 u40 u41 u42 u43 u44 u45 u46 u47 u48 u49 u50 u51 u52 u53 u54 u55 u56 u57 u58 u59 u60 u61 u62 u63 u64 u65 u66 u67 u68 u69 u70 u71 u72 u73 u74 u75 u76 u77 u78 u79 u80 u81 u82 u83 u84 u85 u86 u87 u88 u89 u90 u91 u92 u93 u94 u95 u96 u97 u98 u99 u100 u101 u102 u103 u104 u105 u106 u107 u108 u109 u110 u111 u112 u113 u114 u115 u116 u117 u118 u119 u120 u121 u122 u123 u124 u125 u126 u127 u128 u129 u130 u131 u132 u133 u134 u135 u136 u137 u138 u139 u140 u141 u142 u143 u144 u145 u146 u147 u148 u149 u150 u151 u152 u153 u154 u155 u156 u157 u158 u159 u160 u161 u162 u163 u164 u165 u166 u167 u168 u169 u170 u171 u172 u173 u174 u175 u176 u177 u178 u179 u180 u181 u182 u183 u184 u185 u186 u187 u188 u189 u190 u191 u192 u193 u194 u195 u196 u197 u198 u199 u200 u201 u202 u203 u204 u205 u206 u207 u208 u209 u210 u211 u212 u213 u214 u215 u216 u217 u218 u219 u220 u221 u222 u223 u224 u225 u226 u227 u228 u229 u230 u231 u232 u233 u234 u235 u236 u237 u238 u239 u240 u241 u242 u243 u244 u245 u246 u247 u248 u249 u250 u251 u252 u253 u254 u255 u256 u257 u258 u259 u260 u261 u262 u263 u264 u265 u266 u267 u268 u269 u270 u271 u272 u273 u274 u275 u276 u277 u278 u279 u280 u281 u282 u283 u284 u285 u286 u287 u288 u289 u290 u291 u292 u293 u294 u295 u296 u297 u298 u299 u300 u301 u302 u303 u304 u305 u306 u307 u308 u309 u310 u311 u312 u313 u314 u315 u316 u317 u318 u319 u320 u321 u322 u323 u324 u325 u326 u327 u328 u329 u330 u331 u332 u333 u334 u335 u336 u337 u338 u339 u340 u341 u342 u343 u344 u345 u346 u347 u348 u349 u350 u351 u352 u353 u354 u355 u356 u357 u358 u359 u360 u361 u362 u363 u364 u365 u366 u367 u368 u369 u370 u371 u372 u373 u374 u375 u376 u377 u378 u379 u380 u381 u382 u383 u384 u385 u386 u387 u388 u389 u390 u391 u392 u393 u394 u395 u396 u397 u398 u399 u400 u401 u402 u403 u404 u405 u406 u407 u408 u409 u410 u411 u412 u413 u414 u415 u416 u417 u418 u419 u420 u421 u422 u423 u424 u425 u426 u427 u428 u429 u430 u431 u432 u433 u434 u435 u436 u437 u438 u439 u440 u441 u442 u443 u444 u445 u446 u447 u448 u449 u450 u451 u452 u453 u454 u455 u456 u457 u458 u459 u460 u461 u462 u463 u464 u465 u466 u467 u468 u469 u470 u471 u472 u473 u474 u475 u476 u477 u478 u479 u480 u481 u482 u483 u484 u485 u486 u487 u488 u489 u490 u491 u492 u493 u494 u495 : Value) (D : Dat) (H : Nat) (tcs : List Value) (a0 a1 a2 : Option Addr) (M cap0 ns cap1 nc cap2 : Nat) (W : World) (Q : Exit → Act → World → Prop) (code : Code) (hcode : (Yba.f3.body).bind (mtail 8) = some code)
    (h : Bks D H 0 tcs (.slice none 0 0) W) (nb1 : 0 < D.nb) (nb4 : D.nb ≤ 4) (hns : ns ≤ 1024) (hin2 : InRow2 W H a1 ns (fun i => .bool (D.hs i)) (fun i => .int .u16 (D.spt i))) (hhs : ∀ k, ns ≤ k → D.hs k = false)
    (hcont : ∀ B Z tcs tv w', Bks { D with B := B, Z := Z } H D.nb tcs tv w' → Below H W w' → ∀ (u1 u3 u4 u6 u7 u8 u9 u10 u11 u12 u13 u14 u21 u22 u23 u24 u25 u26 u27 u28 u29 u30 u31 u32 u33 u34 u35 u36 u37 u38 u39 u40 u41 u42 u43 u44 u45 u46 u47 u48 u49 u50 u51 u52 u53 u54 u55 u56 u57 u58 u59 u60 u61 u62 u63 u64 u65 u66 u67 u68 u69 u70 u71 u72 u73 u74 u75 u76 u77 u78 u79 u80 u81 u82 u83 u84 u85 u86 u87 u88 u89 u90 u91 u92 u93 u94 u95 u96 u97 u98 u99 u100 u101 u102 u103 u104 u105 u106 u107 u108 u109 u110 u111 u112 u113 u114 u115 u116 u117 u118 u119 u120 u121 u122 u123 u124 u125 u126 u127 u128 u129 u130 u131 u132 u133 u134 u135 u136 u137 u138 u139 u140 u141 u142 u143 u144 u145 u146 u147 u148 u149 u150 u151 u152 u153 u154 u155 u156 u157 u158 u159 u160 u161 u162 u163 u164 u165 u166 u167 u168 u169 u170 u171 u172 u173 u174 u175 u176 u177 u178 u179 u180 u181 u182 u183 u184 u185 u186 u187 u188 u189 u190 u191 u192 u193 u194 u195 u196 u197 u198 u199 u200 u201 u202 u203 u204 u205 u206 u207 u208 u209 u210 u211 u212 u213 u214 u215 u216 u217 u218 u219 u220 u221 u222 u223 u224 u225 u226 u227 u228 u229 u230 u231 u232 u233 u234 u235 u236 u237 u238 u239 u240 u241 u242 u243 u244 u245 u246 u247 u248 u249 u250 u251 u252 u253 u254 u255 u256 u257 u258 u259 u260 u261 u262 u263 u264 u265 u266 u267 u268 u269 u270 u271 u272 u273 u274 u275 u276 u277 u278 u279 u280 u281 u282 u283 u284 u285 u286 u287 u288 u289 u290 u291 u292 u293 u294 u295 u296 u297 u298 u299 u300 u301 u302 u303 u304 u305 u306 u307 u308 u309 u310 u311 u312 u313 u314 u315 u316 u317 u318 u319 u320 u321 u322 u323 u324 u325 u326 u327 u328 u329 u330 u331 u332 u333 u334 u335 u336 u337 u338 u339 u340 u341 u342 u343 u344 u345 u346 u347 u348 u349 u350 u351 u352 u353 u354 u355 u356 u357 u358 u359 u360 u361 u362 u363 u364 u365 u366 u367 u368 u369 u370 u371 u372 u373 u374 u375 u376 u377 u378 u379 u380 u381 u382 u383 u384 u385 u386 u387 u388 u389 u390 u391 u392 u393 u394 u395 u396 u397 u398 u399 u400 u401 u402 u403 u404 u405 u406 u407 u408 u409 u410 u411 u412 u413 u414 u415 u416 u417 u418 u419 u420 u421 u422 u423 u424 u425 u426 u427 u428 u429 u430 u431 u432 u433 u434 u435 u436 u437 u438 u439 u440 u441 u442 u443 u444 u445 u446 u447 u448 u449 u450 u451 u452 u453 u454 u455 u456 u457 u458 u459 u460 u461 u462 u463 u464 u465 u466 u467 u468 u469 u470 u471 u472 u473 u474 u475 u476 u477 u478 u479 u480 u481 u482 u483 u484 u485 u486 u487 u488 u489 u490 u491 u492 u493 u494 u495 : Value) (code : Code) (hcode : (Yba.f3.body).bind (mtail 9) = some code), code.wp Yba.prog Q ⟨#[.slice a0 M cap0, u1, .slice a2 nc cap2, u3, u4, .int .u16 D.tg, u6, u7, u8, u9, u10, u11, u12, u13, u14, .int .i64 (D.nb : Int), ptr D.bn, ptr D.ba, ptr D.bt, .slice (some ⟨D.bo, 0, none⟩) D.nb D.nb, .slice (some ⟨D.bs, 0, none⟩) D.nb D.nb, u21, u22, u23, u24, u25, u26, u27, u28, u29, u30, u31, u32, u33, u34, u35, u36, u37, u38, u39, u40, u41, u42, u43, u44, u45, u46, u47, u48, u49, u50, u51, u52, u53, u54, u55, u56, u57, u58, u59, u60, u61, u62, u63, u64, u65, u66, u67, u68, u69, u70, u71, u72, u73, u74, u75, u76, u77, u78, u79, u80, u81, u82, u83, u84, u85, u86, u87, u88, u89, u90, u91, u92, u93, u94, u95, u96, u97, u98, u99, u100, u101, u102, u103, u104, u105, u106, u107, u108, u109, u110, u111, u112, u113, u114, u115, u116, u117, u118, u119, u120, u121, u122, u123, u124, u125, u126, u127, u128, u129, u130, u131, u132, u133, u134, u135, u136, u137, u138, u139, u140, u141, u142, u143, u144, u145, u146, u147, u148, u149, u150, u151, u152, u153, u154, u155, u156, u157, u158, u159, u160, u161, u162, u163, u164, u165, u166, u167, u168, u169, u170, u171, u172, u173, u174, u175, u176, u177, u178, u179, u180, u181, u182, u183, u184, u185, u186, u187, u188, u189, u190, u191, u192, u193, u194, u195, u196, u197, u198, u199, u200, u201, u202, u203, u204, u205, u206, u207, u208, u209, u210, u211, u212, u213, u214, u215, u216, u217, u218, u219, u220, u221, u222, u223, u224, u225, u226, u227, u228, u229, u230, u231, u232, u233, u234, u235, u236, u237, u238, u239, u240, u241, u242, u243, u244, u245, u246, u247, u248, u249, u250, u251, u252, u253, u254, u255, u256, u257, u258, u259, u260, u261, u262, u263, u264, u265, u266, u267, u268, u269, u270, u271, u272, u273, u274, u275, u276, u277, u278, u279, u280, u281, u282, u283, u284, u285, u286, u287, u288, u289, u290, u291, u292, u293, u294, u295, u296, u297, u298, u299, u300, u301, u302, u303, u304, u305, u306, u307, u308, u309, u310, u311, u312, u313, u314, u315, u316, u317, u318, u319, u320, u321, u322, u323, u324, u325, u326, u327, u328, u329, u330, u331, u332, u333, u334, u335, u336, u337, u338, u339, u340, u341, u342, u343, u344, u345, u346, u347, u348, u349, u350, u351, u352, u353, u354, u355, u356, u357, u358, u359, u360, u361, u362, u363, u364, u365, u366, u367, u368, u369, u370, u371, u372, u373, u374, u375, u376, u377, u378, u379, u380, u381, u382, u383, u384, u385, u386, u387, u388, u389, u390, u391, u392, u393, u394, u395, u396, u397, u398, u399, u400, u401, u402, u403, u404, u405, u406, u407, u408, u409, u410, u411, u412, u413, u414, u415, u416, u417, u418, u419, u420, u421, u422, u423, u424, u425, u426, u427, u428, u429, u430, u431, u432, u433, u434, u435, u436, u437, u438, u439, u440, u441, u442, u443, u444, u445, u446, u447, u448, u449, u450, u451, u452, u453, u454, u455, u456, u457, u458, u459, u460, u461, u462, u463, u464, u465, u466, u467, u468, u469, u470, u471, u472, u473, u474, u475, u476, u477, u478, u479, u480, u481, u482, u483, u484, u485, u486, u487, u488, u489, u490, u491, u492, u493, u494, u495], []⟩ w') :
    code.wp Yba.prog Q ⟨#[.slice a0 M cap0, .slice a1 ns cap1, .slice a2 nc cap2, u3, u4, .int .u16 D.tg, u6, u7, u8, u9, u10, u11, u12, u13, u14, .int .i64 (D.nb : Int), ptr D.bn, ptr D.ba, ptr D.bt, .slice (some ⟨D.bo, 0, none⟩) D.nb D.nb, .slice (some ⟨D.bs, 0, none⟩) D.nb D.nb, u21, u22, u23, u24, u25, u26, u27, u28, u29, u30, u31, u32, u33, u34, u35, u36, u37, u38, u39, u40, u41, u42, u43, u44, u45, u46, u47, u48, u49, u50, u51, u52, u53, u54, u55, u56, u57, u58, u59, u60, u61, u62, u63, u64, u65, u66, u67, u68, u69, u70, u71, u72, u73, u74, u75, u76, u77, u78, u79, u80, u81, u82, u83, u84, u85, u86, u87, u88, u89, u90, u91, u92, u93, u94, u95, u96, u97, u98, u99, u100, u101, u102, u103, u104, u105, u106, u107, u108, u109, u110, u111, u112, u113, u114, u115, u116, u117, u118, u119, u120, u121, u122, u123, u124, u125, u126, u127, u128, u129, u130, u131, u132, u133, u134, u135, u136, u137, u138, u139, u140, u141, u142, u143, u144, u145, u146, u147, u148, u149, u150, u151, u152, u153, u154, u155, u156, u157, u158, u159, u160, u161, u162, u163, u164, u165, u166, u167, u168, u169, u170, u171, u172, u173, u174, u175, u176, u177, u178, u179, u180, u181, u182, u183, u184, u185, u186, u187, u188, u189, u190, u191, u192, u193, u194, u195, u196, u197, u198, u199, u200, u201, u202, u203, u204, u205, u206, u207, u208, u209, u210, u211, u212, u213, u214, u215, u216, u217, u218, u219, u220, u221, u222, u223, u224, u225, u226, u227, u228, u229, u230, u231, u232, u233, u234, u235, u236, u237, u238, u239, u240, u241, u242, u243, u244, u245, u246, u247, u248, u249, u250, u251, u252, u253, u254, u255, u256, u257, u258, u259, u260, u261, u262, u263, u264, u265, u266, u267, u268, u269, u270, u271, u272, u273, u274, u275, u276, u277, u278, u279, u280, u281, u282, u283, u284, u285, u286, u287, u288, u289, u290, u291, u292, u293, u294, u295, u296, u297, u298, u299, u300, u301, u302, u303, u304, u305, u306, u307, u308, u309, u310, u311, u312, u313, u314, u315, u316, u317, u318, u319, u320, u321, u322, u323, u324, u325, u326, u327, u328, u329, u330, u331, u332, u333, u334, u335, u336, u337, u338, u339, u340, u341, u342, u343, u344, u345, u346, u347, u348, u349, u350, u351, u352, u353, u354, u355, u356, u357, u358, u359, u360, u361, u362, u363, u364, u365, u366, u367, u368, u369, u370, u371, u372, u373, u374, u375, u376, u377, u378, u379, u380, u381, u382, u383, u384, u385, u386, u387, u388, u389, u390, u391, u392, u393, u394, u395, u396, u397, u398, u399, u400, u401, u402, u403, u404, u405, u406, u407, u408, u409, u410, u411, u412, u413, u414, u415, u416, u417, u418, u419, u420, u421, u422, u423, u424, u425, u426, u427, u428, u429, u430, u431, u432, u433, u434, u435, u436, u437, u438, u439, u440, u441, u442, u443, u444, u445, u446, u447, u448, u449, u450, u451, u452, u453, u454, u455, u456, u457, u458, u459, u460, u461, u462, u463, u464, u465, u466, u467, u468, u469, u470, u471, u472, u473, u474, u475, u476, u477, u478, u479, u480, u481, u482, u483, u484, u485, u486, u487, u488, u489, u490, u491, u492, u493, u494, u495], []⟩ W := by
  obtain rfl : code = _ := Option.some.inj (hcode.symm.trans (show (Yba.f3.body).bind (mtail 8) = some _ from rfl))
  clear hcode
  have HS := hide h
  have HIN := hide hin2
  have HHS := hide hhs
  have HC := hide hcont
  clear h hin2 hhs hcont
  dsimp only
  refine wp_seq_rest fun K hK' => ?_
  go_wp2
  go_loopw [21] (fun t wr => C1 D H W t wr) (fun t _ => D.nb - (intOf t).toNat)
  case atStart => exact ⟨0, D.B, D.Z, tcs, _, Nat.zero_le _, rfl, Below.refl _ _, HS.out⟩
  case round =>
    obtain ⟨k, B, Z, tcs1, tv, hkn, rfl, hbel, hbks⟩ := hrel
    have HB := hide hbel
    have HK := hide hbks
    clear hbel hbks
    by_cases hlt : k < D.nb
    · have hltI : (k : Int) < (D.nb : Int) := by omega
      have NOSP : Hid (D.hs k = false → (ns ≤ k ∨ ∃ x, a1 = some x ∧ k < ns ∧ wr.cell? (x.add (k * 2)) = some (.bool false))) := fun hf => by
        by_cases hn : k < ns
        · rcases HIN.out.below HB.out with h | ⟨x, h1, h2, h3⟩
          · omega
          · have := (h3 k hn).1
            dsimp only at this
            rw [hf] at this
            exact .inr ⟨x, h1, hn, this⟩
        · exact .inl (by omega)
      have hbt0 := HK.out.tb
      have hA0 : Alien wr (D.bt :: tv.ownBlock.toList) [60, 56, 66, 43, 29] := by
        have := alien_one HK.out.tb (es := [60, 56, 66, 43, 29]) (by decide) (alien_own HK.out.tr (by decide) (alien_nil _ _))
        simpa using this
      have hlx : ((List.range k).map (fun j => ptr (B j))).length ≤ 1024 := by simp; omega
      cases hsk : D.hs k with
      | false =>
        have HN6 : Hid (∀ b, b = wr.heap.size → ∀ w' tv', Lst w' H 57 tv' ((List.range k).map (fun j => ptr (B j)) ++ [ptr b]) → Blk w' D.bt 54 (tcs1.set 29 tv') → Kept (D.bt :: tv.ownBlock.toList) (wr.alloc (.cells #[.slice none 0 0, .pointer none, .pointer none, .int .u64 0, .int .i64 0, .pointer none] 60)) w' → C1 D H W (.int .i64 ((k : Int) + 1)) w') := by
          intro b hb w' tv' q1 q2 q3
          subst hb
          have hkF : Kept (D.bt :: tv.ownBlock.toList) wr w' := ((Kept.refl _ wr).alloc _).trans' q3 (fun g hg _ => hg)
          have hA6 : Alien (wr.alloc (.cells #[.slice none 0 0, .pointer none, .pointer none, .int .u64 0, .int .i64 0, .pointer none] 60)) (D.bt :: tv.ownBlock.toList) [60, 58] := by
            have := alien_one (HK.out.tb.alloc (.cells #[.slice none 0 0, .pointer none, .pointer none, .int .u64 0, .int .i64 0, .pointer none] 60)) (es := [60, 58]) (by decide) (alien_own (HK.out.tr.kept ((Kept.refl [] wr).alloc (.cells #[.slice none 0 0, .pointer none, .pointer none, .int .u64 0, .int .i64 0, .pointer none] 60)) (by simp)) (by decide) (alien_nil _ _))
            simpa using this
          have hbk : Blk (wr.alloc (.cells #[.slice none 0 0, .pointer none, .pointer none, .int .u64 0, .int .i64 0, .pointer none] 60)) wr.heap.size 60 [.slice none 0 0, .pointer none, .pointer none, .int .u64 0, .int .i64 0, .pointer none] := Blk.new wr 60 _
          have hsp : Vf (wr.alloc (.cells #[.slice none 0 0, .pointer none, .pointer none, .int .u64 0, .int .i64 0, .pointer none] 60)) D.bs 58 D.nb (fun j => if j < k then Dat.spv { D with B := B, Z := Z } j else .pointer none) := Blk.alloc HK.out.sp _
          have hbF : Below H wr w' := hkF.toBelow HK.out.hw (fun g hg => by
            rw [List.mem_cons] at hg
            rcases hg with rfl | hg
            · exact HK.out.hbt
            · rw [Option.mem_toList] at hg
              obtain ⟨_, _, hh⟩ := HK.out.tr.type hg
              exact hh)
          refine ⟨k + 1, upv B k wr.heap.size, upv Z k 0, tcs1.set 29 tv', tv', by omega, by go_num, HB.out.trans hbF, ?_⟩
          refine Bks.next (D := { D with B := B, Z := Z }) (spval := .pointer none) (z := 0) HK.out hkF hA0 hlt q2 q1 (q3.blk hbk (hA6.out hbk (by simp))) (Nat.le_refl _) ?_ (by show _ = if D.hs k = true then _ else _; rw [hsk]; rfl) (fun e => by have e' : D.hs k = true := e; rw [hsk] at e'; cases e')
          refine Vf.congr (q3.blk hsp (hA6.out hsp (by simp))) (fun j hj => ?_)
          by_cases e : j = k
          · subst e; rw [upv_same, if_neg (by omega)]
          · rw [upv_other _ _ e]
        have HT6 := hide (HK.out.tr.kept ((Kept.refl [] wr).alloc (.cells #[.slice none 0 0, .pointer none, .pointer none, .int .u64 0, .int .i64 0, .pointer none] 60)) (by simp))
        have HB6 := hide (HK.out.tb.alloc (.cells #[.slice none 0 0, .pointer none, .pointer none, .int .u64 0, .int .i64 0, .pointer none] 60))
        have hH6 : H ≤ (wr.alloc (.cells #[.slice none 0 0, .pointer none, .pointer none, .int .u64 0, .int .i64 0, .pointer none] 60)).heap.size := by have := HK.out.hw; simp; omega
        have t29' := HK.out.t29
        have HT29 := hide t29'
        clear t29' hbt0 hA0
        refine wp_seq_rest fun K1 hK1 => ?_
        go_wp2
        refine wp_seq_rest fun K2 hK2 => ?_
        refine wp_block ?_
        refine wp_seq_rest fun K3 hK3 => ?_
        go_wp2
        rcases NOSP.out hsk with hn | ⟨x, rfl, hn, hc⟩
        · have hnI : ¬ (k : Int) < (ns : Int) := by omega
          refine wp_seq_rest fun K4 hK4 => ?_
          go_wp2
          refine m1r _ _ _ _ _ _ _ _ _ _ _ _ _ _ _ _ _ _ _ _ _ _ _ _ _ _ _ _ _ _ _ _ _ _ _ _ _ _ _ _ _ _ _ _ _ _ _ _ _ _ _ _ _ _ _ _ _ _ _ _ _ _ _ _ _ _ _ _ _ _ _ _ _ _ _ _ _ _ _ _ _ _ _ _ _ _ _ _ _ _ _ _ _ _ _ _ _ _ _ _ _ _ _ _ _ _ _ _ _ _ _ _ _ _ _ _ _ _ _ _ _ _ _ _ _ _ _ _ _ _ _ _ _ _ _ _ _ _ _ _ _ _ _ _ _ _ _ _ _ _ _ _ _ _ _ _ _ _ _ _ _ _ _ _ _ _ _ _ _ _ _ _ _ _ _ _ _ _ _ _ _ _ _ _ _ _ _ _ _ _ _ _ _ _ _ _ _ _ _ _ _ _ _ _ _ _ _ _ _ _ _ _ _ _ _ _ _ _ _ _ _ _ _ _ _ _ _ _ _ _ _ _ _ _ _ _ _ _ _ _ _ _ _ _ _ _ _ _ _ _ _ _ _ _ _ _ _ _ _ _ _ _ _ _ _ _ _ _ _ _ _ _ _ _ _ _ _ _ _ _ _ _ _ _ _ _ _ _ _ _ _ _ _ _ _ _ _ _ _ _ _ _ _ _ _ _ _ _ _ _ _ _ _ _ _ _ _ _ _ _ _ _ _ _ _ _ _ _ _ _ _ _ _ _ _ _ _ _ _ _ _ _ _ _ _ _ _ _ _ _ _ _ _ _ _ _ _ _ _ _ _ _ _ _ _ _ _ _ _ _ _ _ _ _ _ _ _ _ _ _ _ _ _ _ _ _ _ _ _ _ _ _ _ _ _ _ _ _ _ _ _ _ _ _ _ _ _ _ _ _ _ _ _ _ _ _ _ _ _ _ _ _ _ _ _ _ _ _ _ _ _ _ _ _ _ _ _ _ _ _ _ _ _ _ _ _ _ _ _ _ _ _ _ _ _ _ _ _ _ _ _ _ _ _ _ _ _ _ _ _ _ _ _ _ _ _ _ _ _ _ _ _ _ _ _ _ _ _ _ D H wr.heap.size tcs1 tv _ _ _ _ rfl HB6.out HT29.out HT6.out hlx hH6 ?_
          intro v147 v148 v149 v150 v151 v152 v153 v154 v155 v156 w' tv' q1 q2 q3
          have HR := hide (HN6.out _ rfl w' tv' q1 q2 q3)
          clear q1 q2 q3 HN6
          dsimp only
          go_wp2
          dsimp only [Rest]
          go_wp2
          go_roundw
          case rel => exact HR.out
          case measure => simp [intOf]; omega
        · have hnI : (k : Int) < (ns : Int) := by omega
          have hc6 : (wr.alloc (.cells #[.slice none 0 0, .pointer none, .pointer none, .int .u64 0, .int .i64 0, .pointer none] 60)).cell? (x.add (k * 2)) = some (.bool false) := (World.cell?_alloc_lt _ _ _ (Go.block_lt_of_cell hc)).trans hc
          refine wp_seq_rest fun K4 hK4 => ?_
          go_wp2
          refine m1r _ _ _ _ _ _ _ _ _ _ _ _ _ _ _ _ _ _ _ _ _ _ _ _ _ _ _ _ _ _ _ _ _ _ _ _ _ _ _ _ _ _ _ _ _ _ _ _ _ _ _ _ _ _ _ _ _ _ _ _ _ _ _ _ _ _ _ _ _ _ _ _ _ _ _ _ _ _ _ _ _ _ _ _ _ _ _ _ _ _ _ _ _ _ _ _ _ _ _ _ _ _ _ _ _ _ _ _ _ _ _ _ _ _ _ _ _ _ _ _ _ _ _ _ _ _ _ _ _ _ _ _ _ _ _ _ _ _ _ _ _ _ _ _ _ _ _ _ _ _ _ _ _ _ _ _ _ _ _ _ _ _ _ _ _ _ _ _ _ _ _ _ _ _ _ _ _ _ _ _ _ _ _ _ _ _ _ _ _ _ _ _ _ _ _ _ _ _ _ _ _ _ _ _ _ _ _ _ _ _ _ _ _ _ _ _ _ _ _ _ _ _ _ _ _ _ _ _ _ _ _ _ _ _ _ _ _ _ _ _ _ _ _ _ _ _ _ _ _ _ _ _ _ _ _ _ _ _ _ _ _ _ _ _ _ _ _ _ _ _ _ _ _ _ _ _ _ _ _ _ _ _ _ _ _ _ _ _ _ _ _ _ _ _ _ _ _ _ _ _ _ _ _ _ _ _ _ _ _ _ _ _ _ _ _ _ _ _ _ _ _ _ _ _ _ _ _ _ _ _ _ _ _ _ _ _ _ _ _ _ _ _ _ _ _ _ _ _ _ _ _ _ _ _ _ _ _ _ _ _ _ _ _ _ _ _ _ _ _ _ _ _ _ _ _ _ _ _ _ _ _ _ _ _ _ _ _ _ _ _ _ _ _ _ _ _ _ _ _ _ _ _ _ _ _ _ _ _ _ _ _ _ _ _ _ _ _ _ _ _ _ _ _ _ _ _ _ _ _ _ _ _ _ _ _ _ _ _ _ _ _ _ _ _ _ _ _ _ _ _ _ _ _ _ _ _ _ _ _ _ _ _ _ _ _ _ _ _ _ _ _ _ _ _ _ _ _ _ _ _ _ _ _ _ _ _ _ _ _ D H wr.heap.size tcs1 tv _ _ _ _ rfl HB6.out HT29.out HT6.out hlx hH6 ?_
          intro v147 v148 v149 v150 v151 v152 v153 v154 v155 v156 w' tv' q1 q2 q3
          have HR := hide (HN6.out _ rfl w' tv' q1 q2 q3)
          clear q1 q2 q3 HN6
          dsimp only
          go_wp2
          dsimp only [Rest]
          go_wp2
          go_roundw
          case rel => exact HR.out
          case measure => simp [intOf]; omega
      | true =>
        obtain ⟨x, rfl, hx, hc⟩ : ∃ x, a1 = some x ∧ x.block < H ∧ ∀ i, i < ns → wr.cell? (x.add (i * 2)) = some (.bool (D.hs i)) ∧ wr.cell? ⟨(x.add (i * 2)).block, (x.add (i * 2)).off + 1, none⟩ = some (.int .u16 (D.spt i)) := by
          rcases HIN.out.below HB.out with h | h
          · exact absurd hsk (by rw [HHS.out k (by omega)]; decide)
          · exact h
        have hn : k < ns := by
          by_cases hn : k < ns
          · exact hn
          · exact absurd hsk (by rw [HHS.out k (by omega)]; decide)
        have hnI : (k : Int) < (ns : Int) := by omega
        obtain ⟨q1, q2⟩ := hc k hn
        rw [hsk] at q1
        clear hc
        have hc6 : (wr.alloc (.cells #[.slice none 0 0, .pointer none, .pointer none, .int .u64 0, .int .i64 0, .pointer none] 60)).cell? (x.add (k * 2)) = some (.bool true) := (World.cell?_alloc_lt _ _ _ (Go.block_lt_of_cell q1)).trans q1
        have hp6 : (wr.alloc (.cells #[.slice none 0 0, .pointer none, .pointer none, .int .u64 0, .int .i64 0, .pointer none] 60)).cell? ⟨(x.add (k * 2)).block, (x.add (k * 2)).off + 1, none⟩ = some (.int .u16 (D.spt k)) := (World.cell?_alloc_lt _ _ _ (Go.block_lt_of_cell q2)).trans q2
        have HP7 := hide (fun cs => (World.cell?_alloc_lt (wr.alloc (.cells #[.slice none 0 0, .pointer none, .pointer none, .int .u64 0, .int .i64 0, .pointer none] 60)) (.cells cs 66) _ (Go.block_lt_of_cell hp6)).trans hp6)
        have HCALL := hide (fun p w => ap_any p w)
        have HKx := hide HK.out
        clear hbt0 hA0 NOSP hp6 q1 q2 HIN HHS
        refine wp_seq_rest fun K1 hK1 => ?_
        go_wp2
        refine wp_seq_rest fun K2 hK2 => ?_
        refine wp_block ?_
        refine wp_seq_rest fun K3 hK3 => ?_
        go_wp2
        refine wp_seq_rest fun K4 hK4 => ?_
        refine wp_seq_rest fun K5 hK5 => ?_
        go_wp2
        clear hc6
        dsimp only [Rest]
        refine wp_cond_true rfl ?_
        refine wp_seq_rest fun K6 hK6 => ?_
        go_wp2
        refine wp_seq_rest fun K7 hK7 => ?_
        go_wp2
        refine wp_seq_rest fun K8 hK8 => ?_
        go_wp2
        have hp7 : ((wr.alloc (.cells #[.slice none 0 0, .pointer none, .pointer none, .int .u64 0, .int .i64 0, .pointer none] 60)).alloc (.cells #[.int .u8 255, .int .u8 (k : Int), .int .u8 0, .int .u8 0, .int .u8 0, .int .u8 0, .int .u8 0, .int .u8 0, .int .u8 0, .int .u8 0, .int .u8 0, .int .u8 0, .int .u8 0, .int .u8 0, .int .u8 0, .int .u8 0, .int .u8 0, .int .u8 0, .int .u8 0, .int .u8 0, .int .u64 0, .int .u64 0, .pointer none, .int .u16 0, .int .u64 0, .int .i64 0, .pointer none, .int .u64 0, .int .i64 0, .pointer none, .int .i64 0, .int .i64 0] 66)).cell? ⟨(x.add (k * 2)).block, (x.add (k * 2)).off + 1, none⟩ = some (.int .u16 (D.spt k)) := HP7.out _
        refine wp_seq_rest fun K9 hK9 => ?_
        go_wp2_with fail
        refine (HCALL.out _ _).mono ?_
        rintro e w5 ⟨rfl, hb5⟩
        clear hp7 HP7 HCALL
        have hw0 : wr.heap.size + 1 < ((wr.alloc (.cells #[.slice none 0 0, .pointer none, .pointer none, .int .u64 0, .int .i64 0, .pointer none] 60)).alloc (.cells #[.int .u8 255, .int .u8 (k : Int), .int .u8 0, .int .u8 0, .int .u8 0, .int .u8 0, .int .u8 0, .int .u8 0, .int .u8 0, .int .u8 0, .int .u8 0, .int .u8 0, .int .u8 0, .int .u8 0, .int .u8 0, .int .u8 0, .int .u8 0, .int .u8 0, .int .u8 0, .int .u8 0, .int .u64 0, .int .u64 0, .pointer none, .int .u16 0, .int .u64 0, .int .i64 0, .pointer none, .int .u64 0, .int .i64 0, .pointer none, .int .i64 0, .int .i64 0] 66)).heap.size := by simp
        have hw1 : wr.heap.size < ((wr.alloc (.cells #[.slice none 0 0, .pointer none, .pointer none, .int .u64 0, .int .i64 0, .pointer none] 60)).alloc (.cells #[.int .u8 255, .int .u8 (k : Int), .int .u8 0, .int .u8 0, .int .u8 0, .int .u8 0, .int .u8 0, .int .u8 0, .int .u8 0, .int .u8 0, .int .u8 0, .int .u8 0, .int .u8 0, .int .u8 0, .int .u8 0, .int .u8 0, .int .u8 0, .int .u8 0, .int .u8 0, .int .u8 0, .int .u64 0, .int .u64 0, .pointer none, .int .u16 0, .int .u64 0, .int .i64 0, .pointer none, .int .u64 0, .int .i64 0, .pointer none, .int .i64 0, .int .i64 0] 66)).heap.size := by simp; omega
        have hC4 : Blk ((wr.alloc (.cells #[.slice none 0 0, .pointer none, .pointer none, .int .u64 0, .int .i64 0, .pointer none] 60)).alloc (.cells #[.int .u8 255, .int .u8 (k : Int), .int .u8 0, .int .u8 0, .int .u8 0, .int .u8 0, .int .u8 0, .int .u8 0, .int .u8 0, .int .u8 0, .int .u8 0, .int .u8 0, .int .u8 0, .int .u8 0, .int .u8 0, .int .u8 0, .int .u8 0, .int .u8 0, .int .u8 0, .int .u8 0, .int .u64 0, .int .u64 0, .pointer none, .int .u16 0, .int .u64 0, .int .i64 0, .pointer none, .int .u64 0, .int .i64 0, .pointer none, .int .i64 0, .int .i64 0] 66)) (wr.heap.size + 1) 66 (conCells 255 (k : Int) 0 0) := by
          have := Blk.new (wr.alloc (.cells #[.slice none 0 0, .pointer none, .pointer none, .int .u64 0, .int .i64 0, .pointer none] 60)) 66 (conCells 255 (k : Int) 0 0)
          rw [show (wr.alloc (.cells #[.slice none 0 0, .pointer none, .pointer none, .int .u64 0, .int .i64 0, .pointer none] 60)).heap.size = wr.heap.size + 1 by simp] at this
          exact this
        have hB4 : Blk ((wr.alloc (.cells #[.slice none 0 0, .pointer none, .pointer none, .int .u64 0, .int .i64 0, .pointer none] 60)).alloc (.cells #[.int .u8 255, .int .u8 (k : Int), .int .u8 0, .int .u8 0, .int .u8 0, .int .u8 0, .int .u8 0, .int .u8 0, .int .u8 0, .int .u8 0, .int .u8 0, .int .u8 0, .int .u8 0, .int .u8 0, .int .u8 0, .int .u8 0, .int .u8 0, .int .u8 0, .int .u8 0, .int .u8 0, .int .u64 0, .int .u64 0, .pointer none, .int .u16 0, .int .u64 0, .int .i64 0, .pointer none, .int .u64 0, .int .i64 0, .pointer none, .int .i64 0, .int .i64 0] 66)) wr.heap.size 60 [.slice none 0 0, .pointer none, .pointer none, .int .u64 0, .int .i64 0, .pointer none] := Blk.alloc (Blk.new wr 60 [.slice none 0 0, .pointer none, .pointer none, .int .u64 0, .int .i64 0, .pointer none]) _
        have hK5 : Kept [] wr w5 := (((Kept.refl [] wr).alloc (.cells #[.slice none 0 0, .pointer none, .pointer none, .int .u64 0, .int .i64 0, .pointer none] 60)).alloc (.cells #[.int .u8 255, .int .u8 (k : Int), .int .u8 0, .int .u8 0, .int .u8 0, .int .u8 0, .int .u8 0, .int .u8 0, .int .u8 0, .int .u8 0, .int .u8 0, .int .u8 0, .int .u8 0, .int .u8 0, .int .u8 0, .int .u8 0, .int .u8 0, .int .u8 0, .int .u8 0, .int .u8 0, .int .u64 0, .int .u64 0, .pointer none, .int .u16 0, .int .u64 0, .int .i64 0, .pointer none, .int .u64 0, .int .i64 0, .pointer none, .int .i64 0, .int .i64 0] 66)).below (hb5.mono (by simp; omega))
        have hC5 := hC4.below hb5 hw0
        have hB5 := hB4.below hb5 hw1
        clear hb5 hC4 hB4 hw0 hw1
        have HK5 := hide hK5
        have HC5 := hide hC5
        have HB5 := hide hB5
        have e20 := hC5.at 20
        have e21 := hC5.at 21
        have e22 := hC5.at 22
        have e23 := hC5.at 23
        have z20 := hC5.free 20
        have z21 := hC5.free 21
        have z22 := hC5.free 22
        have z23 := hC5.free 23
        simp only [conCells, List.getElem?_cons_zero, List.getElem?_cons_succ] at e20 e21 e22 e23
        clear hK5 hC5 hB5
        obtain ⟨p, hpw⟩ : ∃ p, wr.heap.size + 1 = p := ⟨_, rfl⟩
        rw [hpw] at e20 e21 e22 e23 z20 z21 z22 z23 HC5
        rw [hpw]
        have hpw' : wr.heap.size ≤ p := by omega
        have hpb : p ≠ wr.heap.size := by omega
        have HPW := hide hpw'
        have HPB := hide hpb
        clear hpw hpw' hpb
        have HC6 := hide (con_set HC5.out (D.spt k))
        have HK6 := hide ((((HK5.out.setCell (p := ⟨p, 20, none⟩) (.inr HPW.out) (.int .u64 0)).setCell (p := ⟨p, 21, none⟩) (.inr HPW.out) (.int .u64 0)).setCell (p := ⟨p, 22, none⟩) (.inr HPW.out) (.pointer none)).setCell (p := ⟨p, 23, none⟩) (.inr HPW.out) (.int .u16 (D.spt k)))
        have HB6 := hide ((((HB5.out.other (a := ⟨p, 20, none⟩) HPB.out.symm (.int .u64 0)).other (a := ⟨p, 21, none⟩) HPB.out.symm (.int .u64 0)).other (a := ⟨p, 22, none⟩) HPB.out.symm (.pointer none)).other (a := ⟨p, 23, none⟩) HPB.out.symm (.int .u16 (D.spt k)))
        dsimp only
        go_wp2
        clear e20 e21 e22 e23 z20 z21 z22 z23 HC5 HK5 HB5
        generalize ((((w5.setCell ⟨p, 20, none⟩ (.int .u64 0)).setCell ⟨p, 21, none⟩ (.int .u64 0)).setCell ⟨p, 22, none⟩ (.pointer none)).setCell ⟨p, 23, none⟩ (.int .u16 (D.spt k))) = w6 at *
        -- the row of spares
        have hs6 : Vf w6 D.bs 58 D.nb (fun j => if j < k then Dat.spv { D with B := B, Z := Z } j else .pointer none) := HK6.out.blk HK.out.sp (by simp)
        have s6 := hs6.at hlt
        have f6 := hs6.free k
        rw [if_neg (by omega)] at s6
        have HS7 := hide (hs6.set k (ptr p))
        have nbs : D.bs < wr.heap.size := HK.out.sp.lt
        have HC7 := hide (HC6.out.other (a := ⟨D.bs, k, none⟩) (HC6.out.ne hs6 (by decide)) (ptr p))
        have HB7 := hide (HB6.out.other (a := ⟨D.bs, k, none⟩) (HB6.out.ne hs6 (by decide)) (ptr p))
        have HK7 := hide ((HK6.out.mono (T := [D.bs]) (by simp)).setCell (p := ⟨D.bs, k, none⟩) (.inl (by simp)) (ptr p))
        have HNE := hide (HB6.out.ne hs6 (by decide))
        clear hs6
        refine wp_seq_rest fun K10 hK10 => ?_
        go_wp2
        clear s6 f6 HC6 HB6 HK6
        generalize (w6.setCell ⟨D.bs, k, none⟩ (ptr p)) = w7 at *
        have s7 := HB7.out.at 1
        have f7 := HB7.out.free 1
        simp only [List.getElem?_cons_zero, List.getElem?_cons_succ] at s7
        have HB8 := hide (HB7.out.set 1 (ptr p))
        have HC8 := hide (HC7.out.other (a := ⟨wr.heap.size, 1, none⟩) HPB.out (ptr p))
        have HS8 := hide (Blk.other HS7.out (a := ⟨wr.heap.size, 1, none⟩) HNE.out.symm (ptr p))
        have HK8 := hide (HK7.out.setCell (p := ⟨wr.heap.size, 1, none⟩) (.inr (Nat.le_refl _)) (ptr p))
        dsimp only [Rest]
        go_wp2
        clear s7 f7 HB7 HC7 HS7 HK7
        generalize (w7.setCell ⟨wr.heap.size, 1, none⟩ (ptr p)) = w8 at *
        have hntb : D.bs ≠ D.bt := HK.out.sp.ne HK.out.tb (by decide)
        have HTB8 := hide (HK8.out.blk HK.out.tb (by simp; exact hntb.symm))
        have HTR8 := hide (HK.out.tr.kept HK8.out (fun g hg => by
          simp
          intro e
          subst e
          exact own_ne HK.out.tr HK.out.sp (by decide) hg))
        have hH8 : H ≤ w8.heap.size := Nat.le_trans HK.out.hw HK8.out.size
        refine m1r _ _ _ _ _ _ _ _ _ _ _ _ _ _ _ _ _ _ _ _ _ _ _ _ _ _ _ _ _ _ _ _ _ _ _ _ _ _ _ _ _ _ _ _ _ _ _ _ _ _ _ _ _ _ _ _ _ _ _ _ _ _ _ _ _ _ _ _ _ _ _ _ _ _ _ _ _ _ _ _ _ _ _ _ _ _ _ _ _ _ _ _ _ _ _ _ _ _ _ _ _ _ _ _ _ _ _ _ _ _ _ _ _ _ _ _ _ _ _ _ _ _ _ _ _ _ _ _ _ _ _ _ _ _ _ _ _ _ _ _ _ _ _ _ _ _ _ _ _ _ _ _ _ _ _ _ _ _ _ _ _ _ _ _ _ _ _ _ _ _ _ _ _ _ _ _ _ _ _ _ _ _ _ _ _ _ _ _ _ _ _ _ _ _ _ _ _ _ _ _ _ _ _ _ _ _ _ _ _ _ _ _ _ _ _ _ _ _ _ _ _ _ _ _ _ _ _ _ _ _ _ _ _ _ _ _ _ _ _ _ _ _ _ _ _ _ _ _ _ _ _ _ _ _ _ _ _ _ _ _ _ _ _ _ _ _ _ _ _ _ _ _ _ _ _ _ _ _ _ _ _ _ _ _ _ _ _ _ _ _ _ _ _ _ _ _ _ _ _ _ _ _ _ _ _ _ _ _ _ _ _ _ _ _ _ _ _ _ _ _ _ _ _ _ _ _ _ _ _ _ _ _ _ _ _ _ _ _ _ _ _ _ _ _ _ _ _ _ _ _ _ _ _ _ _ _ _ _ _ _ _ _ _ _ _ _ _ _ _ _ _ _ _ _ _ _ _ _ _ _ _ _ _ _ _ _ _ _ _ _ _ _ _ _ _ _ _ _ _ _ _ _ _ _ _ _ _ _ _ _ _ _ _ _ _ _ _ _ _ _ _ _ _ _ _ _ _ _ _ _ _ _ _ _ _ _ _ _ _ _ _ _ _ _ _ _ _ _ _ _ _ _ _ _ _ _ _ _ _ _ _ _ _ _ _ _ _ _ _ _ _ _ _ _ _ _ _ _ _ _ _ _ _ _ _ _ _ _ _ D H wr.heap.size tcs1 tv _ _ _ _ rfl HTB8.out HK.out.t29 HTR8.out hlx hH8 ?_
        intro v147 v148 v149 v150 v151 v152 v153 v154 v155 v156 w' tv' q1 q2 q3
        have HR := hide (show C1 D H W (.int .i64 ((k : Int) + 1)) w' from by
          have hkF : Kept (D.bs :: D.bt :: tv.ownBlock.toList) wr w' := (HK8.out.mono (T := D.bs :: D.bt :: tv.ownBlock.toList) (by simp; exact fun k _ h => .inl h)).trans' q3 (fun g hg _ => List.mem_cons_of_mem _ hg)
          have hA0 : Alien wr (D.bs :: D.bt :: tv.ownBlock.toList) [60, 56, 66, 43, 29] := alien_one HK.out.sp (by decide) (alien_one HK.out.tb (by decide) (by
            have := alien_own HK.out.tr (es := [60, 56, 66, 43, 29]) (by decide) (alien_nil _ _)
            simpa using this))
          have hA8 : Alien w8 (D.bt :: tv.ownBlock.toList) [60, 58, 66] := alien_one HTB8.out (by decide) (by
            have := alien_own HTR8.out (es := [60, 58, 66]) (by decide) (alien_nil _ _)
            simpa using this)
          have hbF : Below H wr w' := hkF.toBelow HK.out.hw (fun g hg => by
            rw [List.mem_cons, List.mem_cons] at hg
            rcases hg with rfl | rfl | hg
            · exact HK.out.hbs
            · exact HK.out.hbt
            · rw [Option.mem_toList] at hg
              obtain ⟨_, _, hh⟩ := HK.out.tr.type hg
              exact hh)
          refine ⟨k + 1, upv B k wr.heap.size, upv Z k p, tcs1.set 29 tv', tv', by omega, by go_num, HB.out.trans hbF, ?_⟩
          exact Bks.next (D := { D with B := B, Z := Z }) (spval := ptr p) (z := p) HK.out hkF hA0 hlt q2 q1 (q3.blk HB8.out (hA8.out HB8.out (by simp))) (Nat.le_refl _) (q3.blk HS8.out (hA8.out HS8.out (by simp))) (by show _ = if D.hs k = true then _ else _; rw [hsk]; rfl) (fun _ => q3.blk HC8.out (hA8.out HC8.out (by simp))))
        clear q1 q2 q3
        dsimp only
        go_wp2
        dsimp only [Rest]
        go_wp2
        go_roundw
        case rel => exact HR.out
        case measure => simp [intOf]; omega
    · have hltI : ¬ (k : Int) < (D.nb : Int) := by omega
      have hkk : k = D.nb := by omega
      subst hkk
      go_wp2
      exact HC.out B Z tcs1 tv _ HK.out HB.out _ _ _ _ _ _ _ _ _ _ _ _ _ _ _ _ _ _ _ _ _ _ _ _ _ _ _ _ _ _ _ _ _ _ _ _ _ _ _ _ _ _ _ _ _ _ _ _ _ _ _ _ _ _ _ _ _ _ _ _ _ _ _ _ _ _ _ _ _ _ _ _ _ _ _ _ _ _ _ _ _ _ _ _ _ _ _ _ _ _ _ _ _ _ _ _ _ _ _ _ _ _ _ _ _ _ _ _ _ _ _ _ _ _ _ _ _ _ _ _ _ _ _ _ _ _ _ _ _ _ _ _ _ _ _ _ _ _ _ _ _ _ _ _ _ _ _ _ _ _ _ _ _ _ _ _ _ _ _ _ _ _ _ _ _ _ _ _ _ _ _ _ _ _ _ _ _ _ _ _ _ _ _ _ _ _ _ _ _ _ _ _ _ _ _ _ _ _ _ _ _ _ _ _ _ _ _ _ _ _ _ _ _ _ _ _ _ _ _ _ _ _ _ _ _ _ _ _ _ _ _ _ _ _ _ _ _ _ _ _ _ _ _ _ _ _ _ _ _ _ _ _ _ _ _ _ _ _ _ _ _ _ _ _ _ _ _ _ _ _ _ _ _ _ _ _ _ _ _ _ _ _ _ _ _ _ _ _ _ _ _ _ _ _ _ _ _ _ _ _ _ _ _ _ _ _ _ _ _ _ _ _ _ _ _ _ _ _ _ _ _ _ _ _ _ _ _ _ _ _ _ _ _ _ _ _ _ _ _ _ _ _ _ _ _ _ _ _ _ _ _ _ _ _ _ _ _ _ _ _ _ _ _ _ _ _ _ _ _ _ _ _ _ _ _ _ _ _ _ _ _ _ _ _ _ _ _ _ _ _ _ _ _ _ _ _ _ _ _ _ _ _ _ _ _ _ _ _ _ _ _ _ _ _ _ _ _ _ _ _ _ _ _ _ _ _ _ _ _ _ _ _ _ _ _ _ _ _ _ _ _ _ _ _ _ _ _ _ _ _ _ _ _ _ _ _ _ _ _ _ _ _ _ _ _ _ _ _ _ _ _ _ _ _ _ _ _ _ _ _ _ _ _ _ _ _ _ _ rfl

end Go.Proofs.Ybulkbtow
