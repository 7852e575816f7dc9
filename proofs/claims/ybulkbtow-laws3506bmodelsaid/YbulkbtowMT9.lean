/-
  BModel: the law's last loop
-/
import Derived.Test.YbulkbtowMFailed
import Derived.WalkMore
import Derived.LaidEqlPtr
import Derived.Lib.Builder
namespace Go.Proofs.Ybulkbtow
open Go.RowKit
set_option linter.unusedVariables false

def inScope : Code → Option Code
  | .scope c => some c
  | _ => none
/-- What is left of the law's body from its k-th piece on. -/
def mtail (k : Nat) (c : Code) : Option Code := ((seqTail 1 c).bind inScope).bind (seqTail k)

/-- v is a slice of n elements, which read f 0, f 1, .. -/
def RowV (w : World) (v : Value) (n : Nat) (f : Nat → Value) : Prop := ∃ a c, v = .slice a n c ∧ (0 < n → ∃ g, a = some ⟨g, 0, none⟩ ∧ ∀ j, j < n → w.cell? ⟨g, j, none⟩ = some (f j))

theorem RowV.below {w w' : World} {v : Value} {n : Nat} {f : Nat → Value} (h : RowV w v n f) (hb : Below w.heap.size w w') : RowV w' v n f := by
  obtain ⟨a, c, e, h⟩ := h
  refine ⟨a, c, e, fun hn => ?_⟩
  obtain ⟨g, e2, h⟩ := h hn
  refine ⟨g, e2, fun j hj => ?_⟩
  have h1 := h j hj
  exact (hb.cell (p := ⟨g, j, none⟩) (Go.block_lt_of_cell h1)).trans h1

theorem i66 : ∃ j, Yba.prog.info? 66 = some j ∧ j.size ≠ 0 := by
  obtain ⟨j, hj, h⟩ := Option.map_eq_some_iff.1 info66
  exact ⟨j, hj, by rw [h]; decide⟩
theorem peq_same (b : Nat) (w : World) : (binOp .eql 58 (ptr b) (ptr b)).run Yba.prog w = .ok (.bool true) w := by
  obtain ⟨j, hj, _⟩ := i66
  exact run_eql_ptr_same w _ Yba.underlying58 hj
theorem pneq_same (b : Nat) (w : World) : (binOp .neq 58 (ptr b) (ptr b)).run Yba.prog w = .ok (.bool false) w := by
  obtain ⟨j, hj, _⟩ := i66
  exact Lib.run_neq_ptr_same w _ Yba.underlying58 hj
theorem peq_other {a b : Nat} {w : World} {cs cs' : List Value} (hne : a ≠ b) (ha : Blk w a 66 cs) (hb : Blk w b 66 cs') : (binOp .eql 58 (ptr a) (ptr b)).run Yba.prog w = .ok (.bool false) w := by
  obtain ⟨j, hj, h0⟩ := i66
  exact run_eql_ptr_other w Yba.underlying58 hj h0 (fun h => hne (by injection h)) ha hb

theorem cell_below {w w' : World} {g i : Nat} {v : Value} (h : w.cell? ⟨g, i, none⟩ = some v) (hb : Below w.heap.size w w') : w'.cell? ⟨g, i, none⟩ = some v := (hb.cell (p := ⟨g, i, none⟩) (Go.block_lt_of_cell h)).trans h

set_option maxRecDepth 100000 in
set_option maxHeartbeats 8000000 in
theorem m9 (u0 u1 u2 u3 u4 u5 u6 u7 u8 u9 u10 u11 u12 u13 u14 u15 u16 u17 u18 u19 u20 u21 u22 u23 u26 u27 u28 u29 u30 u31 u32 u33 u34 u35 u36 u37 u39 u40 u41 u42 u43 u44 u45 u46 u47 u48 u49 u50 u51 u52 u53 u54 u55 u56 u57 u58 u59 u60 u61 u62 u63 u64 u65 u66 u67 u68 u69 u70 u71 u72 u73 u74 u75 u76 u77 u78 u79 u80 u81 u82 u83 u84 u85 u86 u87 u88 u89 u90 u91 u92 u93 u94 u95 u96 u97 u98 u99 u100 u101 u102 u103 u104 u105 u106 u107 u108 u109 u110 u111 u112 u113 u114 u115 u116 u117 u118 u119 u120 u121 u122 u123 u124 u125 u126 u127 u128 u129 u130 u131 u132 u133 u134 u135 u136 u137 u138 u139 u140 u141 u142 u143 u144 u145 u146 u147 u148 u149 u150 u151 u152 u153 u154 u155 u156 u157 u158 u159 u160 u161 u162 u163 u164 u165 u166 u167 u168 u169 u170 u171 u172 u173 u174 u175 u176 u177 u178 u179 u180 u181 u182 u183 u184 u185 u186 u187 u188 u189 u190 u191 u192 u193 u194 u195 u196 u197 u198 u199 u200 u201 u202 u203 u204 u205 u206 u207 u208 u209 u210 u211 u212 u213 u214 u215 u216 u217 u218 u219 u220 u221 u222 u223 u224 u225 u226 u227 u228 u229 u230 u231 u232 u233 u234 u235 u236 u237 u238 u239 u240 u241 u242 u243 u244 u245 u246 u247 u248 u249 u250 u251 u252 u253 u254 u255 u256 u257 u258 u259 u260 u261 u262 u263 u264 u265 u266 u267 u268 u269 u270 u271 u272 u273 u274 u275 u276 u277 u278 u279 u280 u281 u282 u283 u284 u285 u286 u287 u288 u289 u290 u291 u292 u293 u294 u295 u296 u297 u298 u299 u300 u301 u302 u303 u304 u305 u306 u307 u308 u309 u310 u311 u312 u313 u314 u315 u316 u317 u318 u319 u320 u321 u322 u323 u324 u325 u326 u327 u328 u329 u330 u331 u332 u333 u334 u335 u336 u337 u338 u339 u340 u341 u342 u343 u344 u345 u346 u347 u348 u349 u350 u351 u352 u353 u354 u355 u356 u357 u358 u359 u360 u361 u362 u363 u364 u365 u366 u367 u368 u369 u370 u371 u372 u373 u374 u375 u376 u377 u378 u379 u380 u381 u382 u383 u384 u385 u386 u387 u388 u389 u390 u391 u392 u393 u394 u395 u396 u397 u398 u399 u400 u401 u402 u403 u404 u405 u406 u407 u408 u409 u410 u411 u412 u413 u414 u415 u416 u417 u418 u419 u420 u421 u422 u423 u424 u425 u426 u427 u428 u429 u430 u431 u432 u433 u434 u435 u436 u437 u438 u439 u440 u441 u442 u443 u444 u445 u446 u447 u448 u449 u450 u451 u452 u453 u454 u455 u456 u457 u458 u459 u460 u461 u462 u463 u464 u465 u466 u467 u468 u469 u470 u471 u472 u473 u474 u475 u476 u477 u478 u479 u480 u481 u482 u483 u484 u485 u486 u487 u488 u489 u490 u491 u492 u493 u494 u495 : Value) (m i0 : Nat) (P : Nat → Nat) (fl : Nat → Int) (pv fv hp : Value) (W : World) (R : Ending → World → Prop) (code : Code) (hcode : (Yba.f3.body).bind (mtail 27) = some code)
    (hm : m ≤ 1024) (hpv : RowV W pv m (fun i => ptr (P i))) (hfv : RowV W fv m (fun i => .int .i64 (fl i))) (hfl : ∀ i, i < m → -128 ≤ fl i ∧ fl i ≤ 127)
    (hB : ∀ i, i < m → ∃ cs, Blk W (P i) 66 cs) (hF : ∀ i, i < m → W.cell? ⟨P i, 30, none⟩ = some (.int .i64 (if i = i0 then fl i + 1 else fl i))) (hhp : (i0 < m ∧ hp = ptr (P i0)) ∨ (m ≤ i0 ∧ hp = .pointer none)) (hinj : ∀ i j, i < m → j < m → P i = P j → i = j)
    (hfin : R (.returned (.bool true)) W) :
    code.wp Yba.prog (Exit.noGoto (bodyPost Yba.prog Yba.f3 R)) ⟨#[u0, u1, u2, u3, u4, u5, u6, u7, u8, u9, u10, u11, u12, u13, u14, u15, u16, u17, u18, u19, u20, u21, u22, u23, pv, fv, u26, u27, u28, u29, u30, u31, u32, u33, u34, u35, u36, u37, hp, u39, u40, u41, u42, u43, u44, u45, u46, u47, u48, u49, u50, u51, u52, u53, u54, u55, u56, u57, u58, u59, u60, u61, u62, u63, u64, u65, u66, u67, u68, u69, u70, u71, u72, u73, u74, u75, u76, u77, u78, u79, u80, u81, u82, u83, u84, u85, u86, u87, u88, u89, u90, u91, u92, u93, u94, u95, u96, u97, u98, u99, u100, u101, u102, u103, u104, u105, u106, u107, u108, u109, u110, u111, u112, u113, u114, u115, u116, u117, u118, u119, u120, u121, u122, u123, u124, u125, u126, u127, u128, u129, u130, u131, u132, u133, u134, u135, u136, u137, u138, u139, u140, u141, u142, u143, u144, u145, u146, u147, u148, u149, u150, u151, u152, u153, u154, u155, u156, u157, u158, u159, u160, u161, u162, u163, u164, u165, u166, u167, u168, u169, u170, u171, u172, u173, u174, u175, u176, u177, u178, u179, u180, u181, u182, u183, u184, u185, u186, u187, u188, u189, u190, u191, u192, u193, u194, u195, u196, u197, u198, u199, u200, u201, u202, u203, u204, u205, u206, u207, u208, u209, u210, u211, u212, u213, u214, u215, u216, u217, u218, u219, u220, u221, u222, u223, u224, u225, u226, u227, u228, u229, u230, u231, u232, u233, u234, u235, u236, u237, u238, u239, u240, u241, u242, u243, u244, u245, u246, u247, u248, u249, u250, u251, u252, u253, u254, u255, u256, u257, u258, u259, u260, u261, u262, u263, u264, u265, u266, u267, u268, u269, u270, u271, u272, u273, u274, u275, u276, u277, u278, u279, u280, u281, u282, u283, u284, u285, u286, u287, u288, u289, u290, u291, u292, u293, u294, u295, u296, u297, u298, u299, u300, u301, u302, u303, u304, u305, u306, u307, u308, u309, u310, u311, u312, u313, u314, u315, u316, u317, u318, u319, u320, u321, u322, u323, u324, u325, u326, u327, u328, u329, u330, u331, u332, u333, u334, u335, u336, u337, u338, u339, u340, u341, u342, u343, u344, u345, u346, u347, u348, u349, u350, u351, u352, u353, u354, u355, u356, u357, u358, u359, u360, u361, u362, u363, u364, u365, u366, u367, u368, u369, u370, u371, u372, u373, u374, u375, u376, u377, u378, u379, u380, u381, u382, u383, u384, u385, u386, u387, u388, u389, u390, u391, u392, u393, u394, u395, u396, u397, u398, u399, u400, u401, u402, u403, u404, u405, u406, u407, u408, u409, u410, u411, u412, u413, u414, u415, u416, u417, u418, u419, u420, u421, u422, u423, u424, u425, u426, u427, u428, u429, u430, u431, u432, u433, u434, u435, u436, u437, u438, u439, u440, u441, u442, u443, u444, u445, u446, u447, u448, u449, u450, u451, u452, u453, u454, u455, u456, u457, u458, u459, u460, u461, u462, u463, u464, u465, u466, u467, u468, u469, u470, u471, u472, u473, u474, u475, u476, u477, u478, u479, u480, u481, u482, u483, u484, u485, u486, u487, u488, u489, u490, u491, u492, u493, u494, u495], []⟩ W := by
  obtain rfl : code = _ := Option.some.inj (hcode.symm.trans (show (Yba.f3.body).bind (mtail 27) = some _ from rfl))
  clear hcode
  obtain ⟨pa, pc, rfl, hp1⟩ := hpv
  obtain ⟨fa, fc, rfl, hf1⟩ := hfv
  have HP1 := hide hp1
  have HF1 := hide hf1
  have HFL := hide hfl
  have HF := hide hF
  have HHP := hide hhp
  have HB := hide hB
  have HINJ := hide hinj
  have HFIN := hide hfin
  clear hp1 hf1 hfl hF hhp hinj hfin hB
  dsimp only
  refine wp_seq_rest fun K hK => ?_
  go_wp2
  go_loop [475] (fun t => ∃ i : Nat, i ≤ m ∧ t = .int .i64 (i : Int)) (fun t => m - (intOf t).toNat)
  case atStart => exact ⟨0, Nat.zero_le _, rfl⟩
  case round =>
    obtain ⟨i, him, rfl⟩ := hrel
    by_cases hlt : i < m
    · have hltI : (i : Int) < (m : Int) := by omega
      obtain ⟨pg, rfl, hpc⟩ := HP1.out (by omega)
      obtain ⟨fg, rfl, hfc⟩ := HF1.out (by omega)
      have c1 := hpc i hlt
      have c2 := hfc i hlt
      have c3 := HF.out i hlt
      have hb := HFL.out i hlt
      clear hpc hfc
      by_cases e : i = i0
      · subst e
        rw [if_pos rfl] at c3
        have hpe : hp = ptr (P i) := by
          rcases HHP.out with h | h
          · exact h.2
          · omega
        subst hpe
        have hq := peq_same (P i) W
        go_wp2
        go_round
        case rel => exact ⟨i + 1, by omega, by go_num⟩
        case measure => simp [intOf]; omega
      · rw [if_neg e] at c3
        rcases HHP.out with ⟨h1, h2⟩ | ⟨h1, h2⟩
        · subst h2
          have hne : ¬ P i = P i0 := fun h => e (HINJ.out i i0 hlt h1 h)
          obtain ⟨cs1, hb1⟩ := HB.out i hlt
          obtain ⟨cs2, hb2⟩ := HB.out i0 h1
          have hq := peq_other hne hb1 hb2
          clear hb1 hb2
          go_wp2
          go_round
          case rel => exact ⟨i + 1, by omega, by go_num⟩
          case measure => simp [intOf]; omega
        · subst h2
          go_wp2
          go_round
          case rel => exact ⟨i + 1, by omega, by go_num⟩
          case measure => simp [intOf]; omega
    · have hltI : ¬ (i : Int) < (m : Int) := by omega
      go_wp2
      dsimp only [Rest]
      go_wp2
      exact HFIN.out

end Go.Proofs.Ybulkbtow
