/-
  BModel: behind the target: the address, the table, the two rows; then the loops
-/
import Derived.Test.YbulkbtowMT1
import Derived.Test.YbulkbtowMT2
namespace Go.Proofs.Ybulkbtow
open Go.RowKit
set_option linter.unusedVariables false

/-- The zero table's 37 cells. -/
def tab0 : List Value := [.int .u8 0, .int .u8 0, .int .u8 0, .int .u8 0, .int .u8 0, .int .u8 0, .int .u8 0, .int .u8 0, .int .u8 0, .int .u8 0, .int .u8 0, .int .u8 0, .int .u8 0, .int .u8 0, .int .u8 0, .int .u8 0, .int .u8 0, .int .u8 0, .int .u8 0, .int .u8 0, .string ⟨#[]⟩, .slice none 0 0, .bool false, .int .i64 0, .bool false, .bool false, .int .i64 0, .bool false, .bool false, .slice none 0 0, .bool false, .int .u64 0, .int .i64 0, .pointer none, .slice none 0 0, .int .i64 0, .bool false]

theorem make55 (n : Nat) (hn : n ≤ 4) (w : World) : (Instr.makeSlice 55 (.int .i64 (n : Int)) (.int .i64 (n : Int))).run Yba.prog w =
    .ok (.slice (some ⟨w.heap.size, 0, none⟩) n n) (w.alloc (.cells (madeCells #[.slice none 0 0] n) 56)) := by
  obtain ⟨i, hi, hz0, hz1, hz2⟩ := info_parts info56
  have h := run_make (P := Yba.prog) w 55 56 i (.slice none 0 0) Yba.underlying55 hi hz0 .i64 .i64 (n : Int) (n : Int) (by omega) (by omega) (by rw [hz2]; omega) (by omega)
  rw [hz1] at h
  simpa [Value.cells] using h

theorem make56 (n : Nat) (hn : n ≤ 4) (w : World) : (Instr.makeSlice 56 (.int .i64 (n : Int)) (.int .i64 (n : Int))).run Yba.prog w =
    .ok (.slice (some ⟨w.heap.size, 0, none⟩) n n) (w.alloc (.cells (madeCells #[.pointer none] n) 58)) := by
  obtain ⟨i, hi, hz0, hz1, hz2⟩ := info_parts info58
  have h := run_make (P := Yba.prog) w 56 58 i (.pointer none) Yba.underlying56 hi hz0 .i64 .i64 (n : Int) (n : Int) (by omega) (by omega) (by rw [hz2]; omega) (by omega)
  rw [hz1] at h
  simpa [Value.cells] using h

theorem Vf.made (z : Value) (e : TypeId) (w : World) (n : Nat) : Vf (w.alloc (.cells (madeCells #[z] n) e)) w.heap.size e n (fun _ => z) := by
  rw [madeCells_one]
  have e' : ((List.range n).map fun _ => z) = List.replicate n z := by
    apply List.ext_getElem?
    intro k
    by_cases hk : k < n
    · simp [hk]
    · simp [hk]
  unfold Vf
  rw [e']
  exact Blk.new w e _

set_option maxRecDepth 100000 in
set_option maxHeartbeats 8000000 in
theorem mS (u3 u4 u6 u7 u8 u9 u10 u11 u12 u13 u14 u17 u18 u19 u20 u21 u22 u23 u24 u25 u26 u27 u28 u29 u30 u31 u32 u33 u34 u35 u36 u37 u38 u39 u40 u41 u42 u43 u44 u45 u46 u47 u48 u49 u50 u51 u52 u53 u54 u55 u56 u57 u58 u59 u60 u61 u62 u63 u64 u65 u66 u67 u68 u69 u70 u71 u72 u73 u74 u75 u76 u77 u78 u79 u80 u81 u82 u83 u84 u85 u86 u87 u88 u89 u90 u91 u92 u93 u94 u95 u96 u97 u98 u99 u100 u101 u102 u103 u104 u105 u106 u107 u108 u109 u110 u111 u112 u113 u114 u115 u116 u117 u118 u119 u120 u121 u122 u123 u124 u125 u126 u127 u128 u129 u130 u131 u132 u133 u134 u135 u136 u137 u138 u139 u140 u141 u142 u143 u144 u145 u146 u147 u148 u149 u150 u151 u152 u153 u154 u155 u156 u157 u158 u159 u160 u161 u162 u163 u164 u165 u166 u167 u168 u169 u170 u171 u172 u173 u174 u175 u176 u177 u178 u179 u180 u181 u182 u183 u184 u185 u186 u187 u188 u189 u190 u191 u192 u193 u194 u195 u196 u197 u198 u199 u200 u201 u202 u203 u204 u205 u206 u207 u208 u209 u210 u211 u212 u213 u214 u215 u216 u217 u218 u219 u220 u221 u222 u223 u224 u225 u226 u227 u228 u229 u230 u231 u232 u233 u234 u235 u236 u237 u238 u239 u240 u241 u242 u243 u244 u245 u246 u247 u248 u249 u250 u251 u252 u253 u254 u255 u256 u257 u258 u259 u260 u261 u262 u263 u264 u265 u266 u267 u268 u269 u270 u271 u272 u273 u274 u275 u276 u277 u278 u279 u280 u281 u282 u283 u284 u285 u286 u287 u288 u289 u290 u291 u292 u293 u294 u295 u296 u297 u298 u299 u300 u301 u302 u303 u304 u305 u306 u307 u308 u309 u310 u311 u312 u313 u314 u315 u316 u317 u318 u319 u320 u321 u322 u323 u324 u325 u326 u327 u328 u329 u330 u331 u332 u333 u334 u335 u336 u337 u338 u339 u340 u341 u342 u343 u344 u345 u346 u347 u348 u349 u350 u351 u352 u353 u354 u355 u356 u357 u358 u359 u360 u361 u362 u363 u364 u365 u366 u367 u368 u369 u370 u371 u372 u373 u374 u375 u376 u377 u378 u379 u380 u381 u382 u383 u384 u385 u386 u387 u388 u389 u390 u391 u392 u393 u394 u395 u396 u397 u398 u399 u400 u401 u402 u403 u404 u405 u406 u407 u408 u409 u410 u411 u412 u413 u414 u415 u416 u417 u418 u419 u420 u421 u422 u423 u424 u425 u426 u427 u428 u429 u430 u431 u432 u433 u434 u435 u436 u437 u438 u439 u440 u441 u442 u443 u444 u445 u446 u447 u448 u449 u450 u451 u452 u453 u454 u455 u456 u457 u458 u459 u460 u461 u462 u463 u464 u465 u466 u467 u468 u469 u470 u471 u472 u473 u474 u475 u476 u477 u478 u479 u480 u481 u482 u483 u484 u485 u486 u487 u488 u489 u490 u491 u492 u493 u494 u495 : Value) (nb : Nat) (kb : Nat → Nat) (pt fl : Nat → Int) (hs : Nat → Bool) (spt cd bkr : Nat → Int) (tg na nx : Int) (bn H : Nat) (a0 a1 a2 : Option Addr) (M cap0 ns cap1 nc cap2 : Nat) (W : World) (R : Ending → World → Prop) (code : Code) (hcode : (Yba.f3.body).bind (mtail 4) = some code)
    (hbn : Blk W bn 29 [.int .u64 na, .int .i64 nx, .pointer none]) (hH : H ≤ W.heap.size) (nb1 : 0 < nb) (nb4 : nb ≤ 4) (hM : M ≤ 1024) (hns : ns ≤ 1024) (hnc : nc ≤ 1024)
    (hin3 : InRow3 W H a0 M (fun i => .int .u8 (bkr i)) (fun i => .int .u16 (pt i)) (fun i => .int .i8 (fl i))) (hbk : ∀ i, i < M → 0 ≤ bkr i ∧ bkr i ≤ 255 ∧ ((kb i : Nat) : Int) = bkr i % (nb : Int)) (hfl : ∀ i, i < M → -128 ≤ fl i ∧ fl i ≤ 127)
    (hin2 : InRow2 W H a1 ns (fun i => .bool (hs i)) (fun i => .int .u16 (spt i))) (hhs : ∀ k, ns ≤ k → hs k = false) (hin : InRow W H a2 nc (fun i => .int .u16 (cd i))) (hfin : ∀ w', Below H W w' → R (.returned (.bool true)) w') :
    code.wp Yba.prog (Exit.noGoto (bodyPost Yba.prog Yba.f3 R)) ⟨#[.slice a0 M cap0, .slice a1 ns cap1, .slice a2 nc cap2, u3, u4, .int .u16 tg, u6, u7, u8, u9, u10, u11, u12, u13, u14, .int .i64 (nb : Int), .pointer (some ⟨bn, 0, none⟩), u17, u18, u19, u20, u21, u22, u23, u24, u25, u26, u27, u28, u29, u30, u31, u32, u33, u34, u35, u36, u37, u38, u39, u40, u41, u42, u43, u44, u45, u46, u47, u48, u49, u50, u51, u52, u53, u54, u55, u56, u57, u58, u59, u60, u61, u62, u63, u64, u65, u66, u67, u68, u69, u70, u71, u72, u73, u74, u75, u76, u77, u78, u79, u80, u81, u82, u83, u84, u85, u86, u87, u88, u89, u90, u91, u92, u93, u94, u95, u96, u97, u98, u99, u100, u101, u102, u103, u104, u105, u106, u107, u108, u109, u110, u111, u112, u113, u114, u115, u116, u117, u118, u119, u120, u121, u122, u123, u124, u125, u126, u127, u128, u129, u130, u131, u132, u133, u134, u135, u136, u137, u138, u139, u140, u141, u142, u143, u144, u145, u146, u147, u148, u149, u150, u151, u152, u153, u154, u155, u156, u157, u158, u159, u160, u161, u162, u163, u164, u165, u166, u167, u168, u169, u170, u171, u172, u173, u174, u175, u176, u177, u178, u179, u180, u181, u182, u183, u184, u185, u186, u187, u188, u189, u190, u191, u192, u193, u194, u195, u196, u197, u198, u199, u200, u201, u202, u203, u204, u205, u206, u207, u208, u209, u210, u211, u212, u213, u214, u215, u216, u217, u218, u219, u220, u221, u222, u223, u224, u225, u226, u227, u228, u229, u230, u231, u232, u233, u234, u235, u236, u237, u238, u239, u240, u241, u242, u243, u244, u245, u246, u247, u248, u249, u250, u251, u252, u253, u254, u255, u256, u257, u258, u259, u260, u261, u262, u263, u264, u265, u266, u267, u268, u269, u270, u271, u272, u273, u274, u275, u276, u277, u278, u279, u280, u281, u282, u283, u284, u285, u286, u287, u288, u289, u290, u291, u292, u293, u294, u295, u296, u297, u298, u299, u300, u301, u302, u303, u304, u305, u306, u307, u308, u309, u310, u311, u312, u313, u314, u315, u316, u317, u318, u319, u320, u321, u322, u323, u324, u325, u326, u327, u328, u329, u330, u331, u332, u333, u334, u335, u336, u337, u338, u339, u340, u341, u342, u343, u344, u345, u346, u347, u348, u349, u350, u351, u352, u353, u354, u355, u356, u357, u358, u359, u360, u361, u362, u363, u364, u365, u366, u367, u368, u369, u370, u371, u372, u373, u374, u375, u376, u377, u378, u379, u380, u381, u382, u383, u384, u385, u386, u387, u388, u389, u390, u391, u392, u393, u394, u395, u396, u397, u398, u399, u400, u401, u402, u403, u404, u405, u406, u407, u408, u409, u410, u411, u412, u413, u414, u415, u416, u417, u418, u419, u420, u421, u422, u423, u424, u425, u426, u427, u428, u429, u430, u431, u432, u433, u434, u435, u436, u437, u438, u439, u440, u441, u442, u443, u444, u445, u446, u447, u448, u449, u450, u451, u452, u453, u454, u455, u456, u457, u458, u459, u460, u461, u462, u463, u464, u465, u466, u467, u468, u469, u470, u471, u472, u473, u474, u475, u476, u477, u478, u479, u480, u481, u482, u483, u484, u485, u486, u487, u488, u489, u490, u491, u492, u493, u494, u495], []⟩ W := by
  obtain rfl : code = _ := Option.some.inj (hcode.symm.trans (show (Yba.f3.body).bind (mtail 4) = some _ from rfl))
  clear hcode
  have HCALL := hide (fun p w => ap_any p w)
  have HBN := hide hbn
  have HIN3 := hide hin3
  have HIN2 := hide hin2
  have HIN := hide hin
  have HBK := hide hbk
  have HFL := hide hfl
  have HHS := hide hhs
  have HFIN := hide hfin
  have HH := hide hH
  have HM := hide hM
  have HNS := hide hns
  have HNC := hide hnc
  have mk55 := make55 nb nb4
  have mk56 := make56 nb nb4
  clear hbn hin3 hin2 hin hbk hfl hhs hfin hH hM hns hnc
  dsimp only
  refine wp_seq_rest fun K hK' => ?_
  go_wp2_with fail
  refine (HCALL.out _ _).mono ?_
  rintro e w5 ⟨rfl, hb5⟩
  have HB5 := hide hb5
  clear hb5 HCALL
  have HA6 := hide (Blk.new w5 43 [.int .u64 0, .int .u64 0, .pointer none, .int .u16 tg])
  have HB6 := hide ((HB5.out.mono HH.out).alloc (Nat.le_trans HH.out HB5.out.size) (.cells #[.int .u64 0, .int .u64 0, .pointer none, .int .u16 tg] 43))
  have HN6 := hide (Blk.alloc (HBN.out.below HB5.out HBN.out.lt) (.cells #[.int .u64 0, .int .u64 0, .pointer none, .int .u16 tg] 43))
  have HZ6 := hide (show H ≤ w5.heap.size from Nat.le_trans HH.out HB5.out.size)
  go_wp2
  generalize w5.heap.size = ba at *
  replace HA6 : Hid (Blk (w5.alloc (.cells #[.int .u64 0, .int .u64 0, .pointer none, .int .u16 tg] 43)) ba 43 [.int .u64 0, .int .u64 0, .pointer none, .int .u16 tg]) := HA6
  generalize w5.alloc (.cells #[.int .u64 0, .int .u64 0, .pointer none, .int .u16 tg] 43) = w6 at *
  clear HB5 HBN
  -- the table
  have hz6 : H ≤ w6.heap.size := Nat.le_trans HH.out HB6.out.size
  have HZ7 := hide hz6
  have HT7 := hide (Blk.new w6 54 tab0)
  have HA7 := hide (HA6.out.alloc (.cells tab0.toArray 54))
  have HN7 := hide (HN6.out.alloc (.cells tab0.toArray 54))
  have HB7 := hide (HB6.out.alloc hz6 (.cells tab0.toArray 54))
  clear hz6 HA6 HN6 HB6
  refine wp_seq_rest fun K1 hK1' => ?_
  go_wp2
  generalize w6.heap.size = bt at *
  generalize hw7 : w6.alloc (.cells #[.int .u8 0, .int .u8 0, .int .u8 0, .int .u8 0, .int .u8 0, .int .u8 0, .int .u8 0, .int .u8 0, .int .u8 0, .int .u8 0, .int .u8 0, .int .u8 0, .int .u8 0, .int .u8 0, .int .u8 0, .int .u8 0, .int .u8 0, .int .u8 0, .int .u8 0, .int .u8 0, .string ⟨#[]⟩, .slice none 0 0, .bool false, .int .i64 0, .bool false, .bool false, .int .i64 0, .bool false, .bool false, .slice none 0 0, .bool false, .int .u64 0, .int .i64 0, .pointer none, .slice none 0 0, .int .i64 0, .bool false] 54) = w7 at *
  replace hw7 : w6.alloc (.cells tab0.toArray 54) = w7 := hw7
  rw [hw7] at HT7 HA7 HN7 HB7
  clear hw7
  -- the rows
  have hz7 : H ≤ w7.heap.size := Nat.le_trans HH.out HB7.out.size
  have HZ8 := hide hz7
  have HO8 := hide (Vf.made (.slice none 0 0) 56 w7 nb)
  have HT8 := hide (HT7.out.alloc (.cells (madeCells #[.slice none 0 0] nb) 56))
  have HA8 := hide (HA7.out.alloc (.cells (madeCells #[.slice none 0 0] nb) 56))
  have HN8 := hide (HN7.out.alloc (.cells (madeCells #[.slice none 0 0] nb) 56))
  have HB8 := hide (HB7.out.alloc hz7 (.cells (madeCells #[.slice none 0 0] nb) 56))
  clear hz7 HA7 HN7 HB7 HT7
  refine wp_seq_rest fun K2 hK2' => ?_
  go_wp2
  generalize w7.heap.size = bo at *
  generalize w7.alloc (.cells (madeCells #[.slice none 0 0] nb) 56) = w8 at *
  have hz8 : H ≤ w8.heap.size := Nat.le_trans HH.out HB8.out.size
  have HZ9 := hide hz8
  have HS9 := hide (Vf.made (.pointer none) 58 w8 nb)
  have HO9 := hide (Blk.alloc HO8.out (.cells (madeCells #[.pointer none] nb) 58))
  have HT9 := hide (HT8.out.alloc (.cells (madeCells #[.pointer none] nb) 58))
  have HA9 := hide (HA8.out.alloc (.cells (madeCells #[.pointer none] nb) 58))
  have HN9 := hide (HN8.out.alloc (.cells (madeCells #[.pointer none] nb) 58))
  have HB9 := hide (HB8.out.alloc hz8 (.cells (madeCells #[.pointer none] nb) 58))
  clear hz8 HA8 HN8 HB8 HT8 HO8
  refine wp_seq_rest fun K3 hK3' => ?_
  go_wp2
  generalize w8.heap.size = bs at *
  generalize w8.alloc (.cells (madeCells #[.pointer none] nb) 58) = w9 at *
  clear mk55 mk56
  have hbks : Bks { nb := nb, m := 0, nc := 0, kb := kb, pt := pt, fl := fl, cx := fun i => (i : Int) % 256, cy := fun i => (i : Int) / 256, hs := hs, spt := spt, cd := cd, tg := tg, na := na, nx := nx, bt := bt, bn := bn, ba := ba, bo := bo, bs := bs, B := fun _ => 0, Z := fun _ => 0, P := fun _ => 0, C := fun _ => 0 } H 0 tab0 (.slice none 0 0) w9 :=
    ⟨HT9.out, rfl, rfl, Lst.nil _ _ _, fun j hj => by omega, fun a b ha => by omega, HO9.out, Vf.congr HS9.out (fun j hj => by rw [if_neg (by omega)]), fun j hj => by omega, HA9.out, HN9.out, Nat.le_trans HH.out HB9.out.size, HZ7.out, HZ8.out, HZ9.out, fun j hj => by omega⟩
  refine m1 _ _ _ _ _ _ _ _ _ _ _ _ _ _ _ _ _ _ _ _ _ _ _ _ _ _ _ _ _ _ _ _ _ _ _ _ _ _ _ _ _ _ _ _ _ _ _ _ _ _ _ _ _ _ _ _ _ _ _ _ _ _ _ _ _ _ _ _ _ _ _ _ _ _ _ _ _ _ _ _ _ _ _ _ _ _ _ _ _ _ _ _ _ _ _ _ _ _ _ _ _ _ _ _ _ _ _ _ _ _ _ _ _ _ _ _ _ _ _ _ _ _ _ _ _ _ _ _ _ _ _ _ _ _ _ _ _ _ _ _ _ _ _ _ _ _ _ _ _ _ _ _ _ _ _ _ _ _ _ _ _ _ _ _ _ _ _ _ _ _ _ _ _ _ _ _ _ _ _ _ _ _ _ _ _ _ _ _ _ _ _ _ _ _ _ _ _ _ _ _ _ _ _ _ _ _ _ _ _ _ _ _ _ _ _ _ _ _ _ _ _ _ _ _ _ _ _ _ _ _ _ _ _ _ _ _ _ _ _ _ _ _ _ _ _ _ _ _ _ _ _ _ _ _ _ _ _ _ _ _ _ _ _ _ _ _ _ _ _ _ _ _ _ _ _ _ _ _ _ _ _ _ _ _ _ _ _ _ _ _ _ _ _ _ _ _ _ _ _ _ _ _ _ _ _ _ _ _ _ _ _ _ _ _ _ _ _ _ _ _ _ _ _ _ _ _ _ _ _ _ _ _ _ _ _ _ _ _ _ _ _ _ _ _ _ _ _ _ _ _ _ _ _ _ _ _ _ _ _ _ _ _ _ _ _ _ _ _ _ _ _ _ _ _ _ _ _ _ _ _ _ _ _ _ _ _ _ _ _ _ _ _ _ _ _ _ _ _ _ _ _ _ _ _ _ _ _ _ _ _ _ _ _ _ _ _ _ _ _ _ _ _ _ _ _ _ _ _ _ _ _ _ _ _ _ _ _ _ _ _ _ _ _ _ _ _ _ _ _ _ _ _ _ _ _ _ _ _ _ _ _ _ _ _ _ _ _ _ _ _ _ _ _ _ _ _ _ _ _ _ _ _ _ _ _ _ { nb := nb, m := 0, nc := 0, kb := kb, pt := pt, fl := fl, cx := fun i => (i : Int) % 256, cy := fun i => (i : Int) / 256, hs := hs, spt := spt, cd := cd, tg := tg, na := na, nx := nx, bt := bt, bn := bn, ba := ba, bo := bo, bs := bs, B := fun _ => 0, Z := fun _ => 0, P := fun _ => 0, C := fun _ => 0 } H tab0 a0 a1 a2 M cap0 ns cap1 nc cap2 w9 _ _ rfl hbks nb1 nb4 HNS.out (HIN2.out.below HB9.out) HHS.out ?_
  intro B Z tcs tv w' hb hbel u1 u3 u4 u6 u7 u8 u9 u10 u11 u12 u13 u14 u21 u22 u23 u24 u25 u26 u27 u28 u29 u30 u31 u32 u33 u34 u35 u36 u37 u38 u39 u40 u41 u42 u43 u44 u45 u46 u47 u48 u49 u50 u51 u52 u53 u54 u55 u56 u57 u58 u59 u60 u61 u62 u63 u64 u65 u66 u67 u68 u69 u70 u71 u72 u73 u74 u75 u76 u77 u78 u79 u80 u81 u82 u83 u84 u85 u86 u87 u88 u89 u90 u91 u92 u93 u94 u95 u96 u97 u98 u99 u100 u101 u102 u103 u104 u105 u106 u107 u108 u109 u110 u111 u112 u113 u114 u115 u116 u117 u118 u119 u120 u121 u122 u123 u124 u125 u126 u127 u128 u129 u130 u131 u132 u133 u134 u135 u136 u137 u138 u139 u140 u141 u142 u143 u144 u145 u146 u147 u148 u149 u150 u151 u152 u153 u154 u155 u156 u157 u158 u159 u160 u161 u162 u163 u164 u165 u166 u167 u168 u169 u170 u171 u172 u173 u174 u175 u176 u177 u178 u179 u180 u181 u182 u183 u184 u185 u186 u187 u188 u189 u190 u191 u192 u193 u194 u195 u196 u197 u198 u199 u200 u201 u202 u203 u204 u205 u206 u207 u208 u209 u210 u211 u212 u213 u214 u215 u216 u217 u218 u219 u220 u221 u222 u223 u224 u225 u226 u227 u228 u229 u230 u231 u232 u233 u234 u235 u236 u237 u238 u239 u240 u241 u242 u243 u244 u245 u246 u247 u248 u249 u250 u251 u252 u253 u254 u255 u256 u257 u258 u259 u260 u261 u262 u263 u264 u265 u266 u267 u268 u269 u270 u271 u272 u273 u274 u275 u276 u277 u278 u279 u280 u281 u282 u283 u284 u285 u286 u287 u288 u289 u290 u291 u292 u293 u294 u295 u296 u297 u298 u299 u300 u301 u302 u303 u304 u305 u306 u307 u308 u309 u310 u311 u312 u313 u314 u315 u316 u317 u318 u319 u320 u321 u322 u323 u324 u325 u326 u327 u328 u329 u330 u331 u332 u333 u334 u335 u336 u337 u338 u339 u340 u341 u342 u343 u344 u345 u346 u347 u348 u349 u350 u351 u352 u353 u354 u355 u356 u357 u358 u359 u360 u361 u362 u363 u364 u365 u366 u367 u368 u369 u370 u371 u372 u373 u374 u375 u376 u377 u378 u379 u380 u381 u382 u383 u384 u385 u386 u387 u388 u389 u390 u391 u392 u393 u394 u395 u396 u397 u398 u399 u400 u401 u402 u403 u404 u405 u406 u407 u408 u409 u410 u411 u412 u413 u414 u415 u416 u417 u418 u419 u420 u421 u422 u423 u424 u425 u426 u427 u428 u429 u430 u431 u432 u433 u434 u435 u436 u437 u438 u439 u440 u441 u442 u443 u444 u445 u446 u447 u448 u449 u450 u451 u452 u453 u454 u455 u456 u457 u458 u459 u460 u461 u462 u463 u464 u465 u466 u467 u468 u469 u470 u471 u472 u473 u474 u475 u476 u477 u478 u479 u480 u481 u482 u483 u484 u485 u486 u487 u488 u489 u490 u491 u492 u493 u494 u495 code hcode
  obtain ⟨gt, ct, rfl, hm⟩ := Bks.mids hb nb1
  exact m2 u1 u3 u4 u6 u7 u8 u9 u10 u11 u12 u13 u14 u21 u22 u23 u24 u25 u26 u27 u28 u29 u30 u31 u32 u33 u34 u35 u36 u37 u38 u39 u40 u41 u42 u43 u44 u45 u46 u47 u48 u49 u50 u51 u52 u53 u54 u55 u56 u57 u58 u59 u60 u61 u62 u63 u64 u65 u66 u67 u68 u69 u70 u71 u72 u73 u74 u75 u76 u77 u78 u79 u80 u81 u82 u83 u84 u85 u86 u87 u88 u89 u90 u91 u92 u93 u94 u95 u96 u97 u98 u99 u100 u101 u102 u103 u104 u105 u106 u107 u108 u109 u110 u111 u112 u113 u114 u115 u116 u117 u118 u119 u120 u121 u122 u123 u124 u125 u126 u127 u128 u129 u130 u131 u132 u133 u134 u135 u136 u137 u138 u139 u140 u141 u142 u143 u144 u145 u146 u147 u148 u149 u150 u151 u152 u153 u154 u155 u156 u157 u158 u159 u160 u161 u162 u163 u164 u165 u166 u167 u168 u169 u170 u171 u172 u173 u174 u175 u176 u177 u178 u179 u180 u181 u182 u183 u184 u185 u186 u187 u188 u189 u190 u191 u192 u193 u194 u195 u196 u197 u198 u199 u200 u201 u202 u203 u204 u205 u206 u207 u208 u209 u210 u211 u212 u213 u214 u215 u216 u217 u218 u219 u220 u221 u222 u223 u224 u225 u226 u227 u228 u229 u230 u231 u232 u233 u234 u235 u236 u237 u238 u239 u240 u241 u242 u243 u244 u245 u246 u247 u248 u249 u250 u251 u252 u253 u254 u255 u256 u257 u258 u259 u260 u261 u262 u263 u264 u265 u266 u267 u268 u269 u270 u271 u272 u273 u274 u275 u276 u277 u278 u279 u280 u281 u282 u283 u284 u285 u286 u287 u288 u289 u290 u291 u292 u293 u294 u295 u296 u297 u298 u299 u300 u301 u302 u303 u304 u305 u306 u307 u308 u309 u310 u311 u312 u313 u314 u315 u316 u317 u318 u319 u320 u321 u322 u323 u324 u325 u326 u327 u328 u329 u330 u331 u332 u333 u334 u335 u336 u337 u338 u339 u340 u341 u342 u343 u344 u345 u346 u347 u348 u349 u350 u351 u352 u353 u354 u355 u356 u357 u358 u359 u360 u361 u362 u363 u364 u365 u366 u367 u368 u369 u370 u371 u372 u373 u374 u375 u376 u377 u378 u379 u380 u381 u382 u383 u384 u385 u386 u387 u388 u389 u390 u391 u392 u393 u394 u395 u396 u397 u398 u399 u400 u401 u402 u403 u404 u405 u406 u407 u408 u409 u410 u411 u412 u413 u414 u415 u416 u417 u418 u419 u420 u421 u422 u423 u424 u425 u426 u427 u428 u429 u430 u431 u432 u433 u434 u435 u436 u437 u438 u439 u440 u441 u442 u443 u444 u445 u446 u447 u448 u449 u450 u451 u452 u453 u454 u455 u456 u457 u458 u459 u460 u461 u462 u463 u464 u465 u466 u467 u468 u469 u470 u471 u472 u473 u474 u475 u476 u477 u478 u479 u480 u481 u482 u483 u484 u485 u486 u487 u488 u489 u490 u491 u492 u493 u494 u495 { nb := nb, m := 0, nc := 0, kb := kb, pt := pt, fl := fl, cx := fun i => (i : Int) % 256, cy := fun i => (i : Int) / 256, hs := hs, spt := spt, cd := cd, tg := tg, na := na, nx := nx, bt := bt, bn := bn, ba := ba, bo := bo, bs := bs, B := B, Z := Z, P := fun _ => 0, C := fun _ => 0 } H gt ct tcs _ bkr a0 a2 M cap0 nc cap2 w' R code hcode hm rfl nb1 nb4 HM.out HNC.out hb.t29 hb.t34 (HIN3.out.below (HB9.out.trans hbel)) HBK.out HFL.out (fun _ => rfl) (fun _ => rfl) (HIN.out.below (HB9.out.trans hbel)) (fun w'' hb'' => HFIN.out w'' ((HB9.out.trans hbel).trans hb''))

end Go.Proofs.Ybulkbtow
