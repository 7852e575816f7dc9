/-
  BModel: the contacts are laid
-/
import Derived.Test.YbulkbtowMT2a
namespace Go.Proofs.Ybulkbtow
open Go.RowKit
set_option linter.unusedVariables false

set_option maxRecDepth 100000 in
set_option maxHeartbeats 8000000 in
theorem m2 (u1 u3 u4 u6 u7 u8 u9 u10 u11 u12 u13 u14 u21 u22 u23 u24 u25 u26 u27 u28 u29 u30 u31 u32 u33 u34 u35 u36 u37 u38 u39 u40 u41 u42 u43 u44 u45 u46 u47 u48 u49 u50 u51 u52 u53 u54 u55 u56 u57 u58 u59 u60 u61 u62 u63 u64 u65 u66 u67 u68 u69 u70 u71 u72 u73 u74 u75 u76 u77 u78 u79 u80 u81 u82 u83 u84 u85 u86 u87 u88 u89 u90 u91 u92 u93 u94 u95 u96 u97 u98 u99 u100 u101 u102 u103 u104 u105 u106 u107 u108 u109 u110 u111 u112 u113 u114 u115 u116 u117 u118 u119 u120 u121 u122 u123 u124 u125 u126 u127 u128 u129 u130 u131 u132 u133 u134 u135 u136 u137 u138 u139 u140 u141 u142 u143 u144 u145 u146 u147 u148 u149 u150 u151 u152 u153 u154 u155 u156 u157 u158 u159 u160 u161 u162 u163 u164 u165 u166 u167 u168 u169 u170 u171 u172 u173 u174 u175 u176 u177 u178 u179 u180 u181 u182 u183 u184 u185 u186 u187 u188 u189 u190 u191 u192 u193 u194 u195 u196 u197 u198 u199 u200 u201 u202 u203 u204 u205 u206 u207 u208 u209 u210 u211 u212 u213 u214 u215 u216 u217 u218 u219 u220 u221 u222 u223 u224 u225 u226 u227 u228 u229 u230 u231 u232 u233 u234 u235 u236 u237 u238 u239 u240 u241 u242 u243 u244 u245 u246 u247 u248 u249 u250 u251 u252 u253 u254 u255 u256 u257 u258 u259 u260 u261 u262 u263 u264 u265 u266 u267 u268 u269 u270 u271 u272 u273 u274 u275 u276 u277 u278 u279 u280 u281 u282 u283 u284 u285 u286 u287 u288 u289 u290 u291 u292 u293 u294 u295 u296 u297 u298 u299 u300 u301 u302 u303 u304 u305 u306 u307 u308 u309 u310 u311 u312 u313 u314 u315 u316 u317 u318 u319 u320 u321 u322 u323 u324 u325 u326 u327 u328 u329 u330 u331 u332 u333 u334 u335 u336 u337 u338 u339 u340 u341 u342 u343 u344 u345 u346 u347 u348 u349 u350 u351 u352 u353 u354 u355 u356 u357 u358 u359 u360 u361 u362 u363 u364 u365 u366 u367 u368 u369 u370 u371 u372 u373 u374 u375 u376 u377 u378 u379 u380 u381 u382 u383 u384 u385 u386 u387 u388 u389 u390 u391 u392 u393 u394 u395 u396 u397 u398 u399 u400 u401 u402 u403 u404 u405 u406 u407 u408 u409 u410 u411 u412 u413 u414 u415 u416 u417 u418 u419 u420 u421 u422 u423 u424 u425 u426 u427 u428 u429 u430 u431 u432 u433 u434 u435 u436 u437 u438 u439 u440 u441 u442 u443 u444 u445 u446 u447 u448 u449 u450 u451 u452 u453 u454 u455 u456 u457 u458 u459 u460 u461 u462 u463 u464 u465 u466 u467 u468 u469 u470 u471 u472 u473 u474 u475 u476 u477 u478 u479 u480 u481 u482 u483 u484 u485 u486 u487 u488 u489 u490 u491 u492 u493 u494 u495 : Value) (D : Dat) (H gt ct : Nat) (tcs : List Value) (rv : Nat → Value) (bkr : Nat → Int) (a0 a2 : Option Addr) (M cap0 nc cap2 : Nat) (W : World) (R : Ending → World → Prop) (code : Code) (hcode : (Yba.f3.body).bind (mtail 9) = some code)
    (h : Mids { D with m := 0 } H gt tcs rv (.slice none 0 0) W) (hpv : rv (2 * D.nb) = .slice none 0 0) (nb1 : 0 < D.nb) (nb4 : D.nb ≤ 4) (hM : M ≤ 1024) (hnc : nc ≤ 1024) (t29 : tcs[29]? = some (.slice (some ⟨gt, 0, none⟩) D.nb ct)) (t34 : tcs[34]? = some (.slice none 0 0))
    (hin3 : InRow3 W H a0 M (fun i => .int .u8 (bkr i)) (fun i => .int .u16 (D.pt i)) (fun i => .int .i8 (D.fl i))) (hbk : ∀ i, i < M → 0 ≤ bkr i ∧ bkr i ≤ 255 ∧ ((D.kb i : Nat) : Int) = bkr i % (D.nb : Int)) (hfl : ∀ i, i < M → -128 ≤ D.fl i ∧ D.fl i ≤ 127) (hcx : ∀ i, D.cx i = (i : Int) % 256) (hcy : ∀ i, D.cy i = (i : Int) / 256)
    (hin : InRow W H a2 nc (fun i => .int .u16 (D.cd i))) (hfin : ∀ w', Below H W w' → R (.returned (.bool true)) w') :
    code.wp Yba.prog (Exit.noGoto (bodyPost Yba.prog Yba.f3 R)) ⟨#[.slice a0 M cap0, u1, .slice a2 nc cap2, u3, u4, .int .u16 D.tg, u6, u7, u8, u9, u10, u11, u12, u13, u14, .int .i64 (D.nb : Int), ptr D.bn, ptr D.ba, ptr D.bt, .slice (some ⟨D.bo, 0, none⟩) D.nb D.nb, .slice (some ⟨D.bs, 0, none⟩) D.nb D.nb, u21, u22, u23, u24, u25, u26, u27, u28, u29, u30, u31, u32, u33, u34, u35, u36, u37, u38, u39, u40, u41, u42, u43, u44, u45, u46, u47, u48, u49, u50, u51, u52, u53, u54, u55, u56, u57, u58, u59, u60, u61, u62, u63, u64, u65, u66, u67, u68, u69, u70, u71, u72, u73, u74, u75, u76, u77, u78, u79, u80, u81, u82, u83, u84, u85, u86, u87, u88, u89, u90, u91, u92, u93, u94, u95, u96, u97, u98, u99, u100, u101, u102, u103, u104, u105, u106, u107, u108, u109, u110, u111, u112, u113, u114, u115, u116, u117, u118, u119, u120, u121, u122, u123, u124, u125, u126, u127, u128, u129, u130, u131, u132, u133, u134, u135, u136, u137, u138, u139, u140, u141, u142, u143, u144, u145, u146, u147, u148, u149, u150, u151, u152, u153, u154, u155, u156, u157, u158, u159, u160, u161, u162, u163, u164, u165, u166, u167, u168, u169, u170, u171, u172, u173, u174, u175, u176, u177, u178, u179, u180, u181, u182, u183, u184, u185, u186, u187, u188, u189, u190, u191, u192, u193, u194, u195, u196, u197, u198, u199, u200, u201, u202, u203, u204, u205, u206, u207, u208, u209, u210, u211, u212, u213, u214, u215, u216, u217, u218, u219, u220, u221, u222, u223, u224, u225, u226, u227, u228, u229, u230, u231, u232, u233, u234, u235, u236, u237, u238, u239, u240, u241, u242, u243, u244, u245, u246, u247, u248, u249, u250, u251, u252, u253, u254, u255, u256, u257, u258, u259, u260, u261, u262, u263, u264, u265, u266, u267, u268, u269, u270, u271, u272, u273, u274, u275, u276, u277, u278, u279, u280, u281, u282, u283, u284, u285, u286, u287, u288, u289, u290, u291, u292, u293, u294, u295, u296, u297, u298, u299, u300, u301, u302, u303, u304, u305, u306, u307, u308, u309, u310, u311, u312, u313, u314, u315, u316, u317, u318, u319, u320, u321, u322, u323, u324, u325, u326, u327, u328, u329, u330, u331, u332, u333, u334, u335, u336, u337, u338, u339, u340, u341, u342, u343, u344, u345, u346, u347, u348, u349, u350, u351, u352, u353, u354, u355, u356, u357, u358, u359, u360, u361, u362, u363, u364, u365, u366, u367, u368, u369, u370, u371, u372, u373, u374, u375, u376, u377, u378, u379, u380, u381, u382, u383, u384, u385, u386, u387, u388, u389, u390, u391, u392, u393, u394, u395, u396, u397, u398, u399, u400, u401, u402, u403, u404, u405, u406, u407, u408, u409, u410, u411, u412, u413, u414, u415, u416, u417, u418, u419, u420, u421, u422, u423, u424, u425, u426, u427, u428, u429, u430, u431, u432, u433, u434, u435, u436, u437, u438, u439, u440, u441, u442, u443, u444, u445, u446, u447, u448, u449, u450, u451, u452, u453, u454, u455, u456, u457, u458, u459, u460, u461, u462, u463, u464, u465, u466, u467, u468, u469, u470, u471, u472, u473, u474, u475, u476, u477, u478, u479, u480, u481, u482, u483, u484, u485, u486, u487, u488, u489, u490, u491, u492, u493, u494, u495], []⟩ W := by
  obtain rfl : code = _ := Option.some.inj (hcode.symm.trans (show (Yba.f3.body).bind (mtail 9) = some _ from rfl))
  clear hcode
  have HS := hide h
  have HPV := hide hpv
  have HIN3 := hide hin3
  have HBK := hide hbk
  have HFL := hide hfl
  have HIN := hide hin
  have HFIN := hide hfin
  have HCX := hide hcx
  have HCY := hide hcy
  have T29 := hide t29
  have T34 := hide t34
  clear h hin3 hbk hfl hin hfin t29 t34 hpv hcx hcy
  dsimp only
  refine wp_seq_rest fun K hK' => ?_
  go_wp2
  refine wp_seq_rest fun K hK' => ?_
  go_wp2
  refine wp_seq_rest fun K hK' => ?_
  go_wp2
  go_loopw [24, 25, 159] (fun t1 t2 t3 wr => C2 D H gt tcs M W t1 t2 t3 wr) (fun t1 t2 t3 _ => M - (intOf t3).toNat)
  case atStart => exact ⟨0, rv, D.P, Nat.zero_le _, HPV.out.symm, rfl, Below.refl _ _, HS.out, fun a b h => by omega, fun a k h => by omega, fun a h => by omega⟩
  case round =>
    obtain ⟨i, rv1, P, hiM, rfl, rfl, hbel, hmid, hpin, hpz, hpH⟩ := hrel
    have HB := hide hbel
    have HMID := hide hmid
    have HPIN := hide hpin
    have HPZ := hide hpz
    have HPH := hide hpH
    clear hbel hmid hpin hpz hpH
    by_cases hlt : i < M
    · have hltI : (i : Int) < (M : Int) := by omega
      obtain ⟨x, rfl, hx, hc⟩ : ∃ x, a0 = some x ∧ x.block < H ∧ ∀ i, i < M → wr.cell? (x.add (i * 3)) = some (.int .u8 (bkr i)) ∧ wr.cell? ⟨(x.add (i * 3)).block, (x.add (i * 3)).off + 1, none⟩ = some (.int .u16 (D.pt i)) ∧ wr.cell? ⟨(x.add (i * 3)).block, (x.add (i * 3)).off + 2, none⟩ = some (.int .i8 (D.fl i)) := by
        rcases HIN3.out.below HB.out with h | h
        · omega
        · exact h
      obtain ⟨c1, c2, c3⟩ := hc i hlt
      obtain ⟨hb0, hb1, hbm⟩ := HBK.out i hlt
      have hf := HFL.out i hlt
      clear hc
      have HCALL := hide (fun p w => ap_any p w)
      refine wp_seq_rest fun K1 hK1 => ?_
      go_wp2
      refine wp_seq_rest fun K2 hK2 => ?_
      go_wp2
      refine wp_seq_rest fun K3 hK3 => ?_
      refine wp_block ?_
      refine wp_seq_rest fun K4 hK4 => ?_
      go_wp2
      refine wp_seq_rest fun K5 hK5' => ?_
      go_wp2
      refine wp_seq_rest fun K6 hK6' => ?_
      go_wp2
      refine wp_seq_rest fun K7 hK7' => ?_
      go_wp2
      refine wp_seq_rest fun K8 hK8' => ?_
      go_wp2
      refine wp_seq_rest fun K9 hK9' => ?_
      go_wp2_with fail
      have hx1 := HCX.out i
      have hy1 := HCY.out i
      rw [← hx1, ← hy1]
      rw [← hbm]
      clear hx1 hy1
      refine (HCALL.out _ _).mono ?_
      rintro e w5 ⟨rfl, hb5⟩
      have hw0 : wr.heap.size + 1 < ((wr.alloc (.cells #[.int .u8 (bkr i), .int .u16 (D.pt i), .int .i8 (D.fl i)] 34)).alloc (.cells (conCells (D.cx i) (D.cy i) 0 (D.fl i)).toArray 66)).heap.size := by simp
      have hC4 : Blk ((wr.alloc (.cells #[.int .u8 (bkr i), .int .u16 (D.pt i), .int .i8 (D.fl i)] 34)).alloc (.cells (conCells (D.cx i) (D.cy i) 0 (D.fl i)).toArray 66)) (wr.heap.size + 1) 66 (conCells (D.cx i) (D.cy i) 0 (D.fl i)) := by
        have := Blk.new (wr.alloc (.cells #[.int .u8 (bkr i), .int .u16 (D.pt i), .int .i8 (D.fl i)] 34)) 66 (conCells (D.cx i) (D.cy i) 0 (D.fl i))
        rw [show (wr.alloc (.cells #[.int .u8 (bkr i), .int .u16 (D.pt i), .int .i8 (D.fl i)] 34)).heap.size = wr.heap.size + 1 by simp] at this
        exact this
      have hK5 : Kept [] wr w5 := (((Kept.refl [] wr).alloc (.cells #[.int .u8 (bkr i), .int .u16 (D.pt i), .int .i8 (D.fl i)] 34)).alloc (.cells (conCells (D.cx i) (D.cy i) 0 (D.fl i)).toArray 66)).below (hb5.mono (by simp; omega))
      have hC5 : Blk w5 (wr.heap.size + 1) 66 (conCells (D.cx i) (D.cy i) 0 (D.fl i)) := hC4.below hb5 hw0
      have HK5 := hide hK5
      have HC5 := hide hC5
      have e20 := hC5.at 20
      have e21 := hC5.at 21
      have e22 := hC5.at 22
      have e23 := hC5.at 23
      have z20 := hC5.free 20
      have z21 := hC5.free 21
      have z22 := hC5.free 22
      have z23 := hC5.free 23
      simp only [conCells, List.getElem?_cons_zero, List.getElem?_cons_succ] at e20 e21 e22 e23
      obtain ⟨p, hpw⟩ : ∃ p, wr.heap.size + 1 = p := ⟨_, rfl⟩
      have HPW := hide hpw
      rw [hpw] at e20 e21 e22 e23 z20 z21 z22 z23 HC5
      clear hK5 hC5 hC4 hb5 hw0 HCALL c1 c2 c3
      rw [hpw]
      clear hpw
      have hpw : wr.heap.size ≤ p := by have := HPW.out; omega
      have HC6 := hide (con_set HC5.out (D.pt i))
      have HK6 := hide ((((HK5.out.setCell (p := ⟨p, 20, none⟩) (.inr hpw) (.int .u64 0)).setCell (p := ⟨p, 21, none⟩) (.inr hpw) (.int .u64 0)).setCell (p := ⟨p, 22, none⟩) (.inr hpw) (.pointer none)).setCell (p := ⟨p, 23, none⟩) (.inr hpw) (.int .u16 (D.pt i)))
      dsimp only
      go_wp2
      clear e20 e21 e22 e23 z20 z21 z22 z23 HC5 HK5
      generalize ((((w5.setCell ⟨p, 20, none⟩ (.int .u64 0)).setCell ⟨p, 21, none⟩ (.int .u64 0)).setCell ⟨p, 22, none⟩ (.pointer none)).setCell ⟨p, 23, none⟩ (.int .u16 (D.pt i))) = w6 at *
      obtain ⟨k, hk⟩ : ∃ k, D.kb i = k := ⟨_, rfl⟩
      have hkn : k < D.nb := by
        have := Int.emod_lt_of_pos (bkr i) (show (0 : Int) < (D.nb : Int) by omega)
        omega
      have HKB := hide hk
      rw [hk]
      rw [hk] at hbm
      have HBM := hide hbm
      clear hk hbm
      have hknI : (k : Int) < (D.nb : Int) := by omega
      -- the first row: the bucket's
      have M6 := hide (Mid.addCon (D := { D with m := i, P := P }) (Mid.kept0 HMID.out HK6.out) HC6.out)
      have hl0 : (rows { D with m := i, P := P } k).length ≤ 1024 := by
        show (if k < D.nb then Dat.xs { D with m := i, P := P } k else _).length ≤ 1024
        rw [if_pos hkn, Dat.xs_len]
        exact Nat.le_trans (Dat.len_le _ _) (by show i ≤ 1024; omega)
      obtain ⟨ra, rn, rc, hrv⟩ : ∃ ra rn rc, rv1 k = .slice ra rn rc := by obtain ⟨a, c, e⟩ := (M6.out.r.row k (show k < 2 * D.nb + 1 by omega)).shape; exact ⟨a, _, c, e⟩
      have ck := M6.out.tc k hkn
      obtain ⟨gcs, htt⟩ := M6.out.tt
      have hgk : gcs[k]? = some (ptr (D.B k)) := (htt.at k).symm.trans ck
      have HGK := hide hgk
      have HTT := hide htt
      have hH6 : H ≤ w6.heap.size := M6.out.hw
      have M7 := hide (Mid.kept0 M6.out ((Kept.refl [] w6).drew.alloc (.cells #[ptr p] 58)))
      have HROW := hide (show Lst (w6.drew.alloc (.cells #[ptr p] 58)) H 58 (.slice ra rn rc) (rows { D with m := i, P := P } k) from by rw [← hrv]; exact M7.out.r.row k (show k < 2 * D.nb + 1 by omega))
      have HHW := hide (show H ≤ (w6.drew.alloc (.cells #[ptr p] 58)).heap.size from by show H ≤ (w6.alloc (.cells #[ptr p] 58)).heap.size; simp; omega)
      have HRV := hide hrv
      have HROW0 := hide (show Lst w6 H 58 (.slice ra rn rc) (rows { D with m := i, P := P } k) from by rw [← hrv]; exact M6.out.r.row k (show k < 2 * D.nb + 1 by omega))
      have HL0 := hide hl0
      have HBK6 := hide (M6.out.bk k hkn)
      have HB0 := hide (show [rv1 k, Dat.spv { D with m := i, P := P } k, .pointer none, .int .u64 0, .int .i64 0, .pointer none][0]? = some (.slice ra rn rc) from by rw [hrv]; rfl)
      clear ck hgk htt hrv hl0
      refine wp_seq_rest fun K10 hK10' => ?_
      refine r33 _ _ _ _ _ _ _ _ _ _ _ _ _ _ _ _ _ _ _ _ _ _ _ _ _ _ _ _ _ _ _ _ _ _ _ _ _ _ _ _ _ _ _ _ _ _ _ _ _ _ _ _ _ _ _ _ _ _ _ _ _ _ _ _ _ _ _ _ _ _ _ _ _ _ _ _ _ _ _ _ _ _ _ _ _ _ _ _ _ _ _ _ _ _ _ _ _ _ _ _ _ _ _ _ _ _ _ _ _ _ _ _ _ _ _ _ _ _ _ _ _ _ _ _ _ _ _ _ _ _ _ _ _ _ _ _ _ _ _ _ _ _ _ _ _ _ _ _ _ _ _ _ _ _ _ _ _ _ _ _ _ _ _ _ _ _ _ _ _ _ _ _ _ _ _ _ _ _ _ _ _ _ _ _ _ _ _ _ _ _ _ _ _ _ _ _ _ _ _ _ _ _ _ _ _ _ _ _ _ _ _ _ _ _ _ _ _ _ _ _ _ _ _ _ _ _ _ _ _ _ _ _ _ _ _ _ _ _ _ _ _ _ _ _ _ _ _ _ _ _ _ _ _ _ _ _ _ _ _ _ _ _ _ _ _ _ _ _ _ _ _ _ _ _ _ _ _ _ _ _ _ _ _ _ _ _ _ _ _ _ _ _ _ _ _ _ _ _ _ _ _ _ _ _ _ _ _ _ _ _ _ _ _ _ _ _ _ _ _ _ _ _ _ _ _ _ _ _ _ _ _ _ _ _ _ _ _ _ _ _ _ _ _ _ _ _ _ _ _ _ _ _ _ _ _ _ _ _ _ _ _ _ _ _ _ _ _ _ _ _ _ _ _ _ _ _ _ _ _ _ _ _ _ _ _ _ _ _ _ _ _ _ _ _ _ _ _ _ _ _ _ _ _ _ _ _ _ _ _ _ _ _ _ _ _ _ _ _ _ _ _ _ _ _ _ _ _ _ _ _ _ _ _ _ _ _ _ _ _ _ _ _ _ _ _ _ _ _ _ _ _ _ _ _ _ _ _ _ _ _ _ _ _ _ _ _ _ _ _ _ _ _ _ _ _ _ _ _ _ _ _ _ _ _ _ _ { D with m := i, P := P } H gt ct k p _ _ ra rn rc _ tcs gcs _ w6 _ _ rfl hkn M6.out.tb T29.out HTT.out HGK.out HBK6.out HB0.out HROW0.out HL0.out hH6 ?_
      intro v196 v197 v198 v199 v200 v201 v202 v203 v204 v205 v206 v207 v208 v209 v210 v211 v212 v213 v214 v215 v216 v217 qa qn qc w8 hl8 hg8 hb8
      refine hK10' _ _ ?_
      · have M8 := Mid.grow M7.out (r := k) (show k < 2 * D.nb + 1 by omega) hl8 (by rw [HRV.out]; exact hg8) (by rw [HRV.out]; exact hb8)
        have M9 := hide (M8.setB hkn (.slice qa qn qc))
        have B9P : Below H wr (w8.setCell ⟨D.B k, 0, none⟩ (.slice qa qn qc)) := (((HK6.out.toBelow HMID.out.hw (by simp)).drew.alloc hH6 (.cells #[ptr p] 58)).trans ((grown_to hg8).toBelow (by exact HHW.out) (fun g hg => by rw [Option.mem_toList] at hg; obtain ⟨_, _, hh⟩ := HROW.out.type hg; exact hh))).setCell (p := ⟨D.B k, 0, none⟩) (M6.out.hB k hkn) _
        clear M8 hl8 hg8 hb8
        generalize w8.setCell ⟨D.B k, 0, none⟩ (.slice qa qn qc) = w9 at *
        have hpH : H ≤ p := Nat.le_trans HMID.out.hw hpw
        have B9 := hide (show Below H wr w9 from B9P)
        have HHQ : Hid (∀ w' (rv' : Nat → Value) (v25 : Value), Below H w9 w' → Mids { D with m := i + 1, P := upv P i p } H gt tcs rv' v25 w' → C2 D H gt tcs M W (rv' (2 * D.nb)) v25 (.int .i64 ((i : Int) + 1)) w') := by
          intro w' rv' v25 hb hm'
          refine ⟨i + 1, rv', upv P i p, by omega, rfl, by go_num, HB.out.trans (B9.out.trans hb), hm', fun a b ha hb' hab => ?_, fun a k' ha hk' hs => ?_, fun a ha => ?_⟩
          · have hP : ∀ a, a < i → P a < wr.heap.size := fun a ha => (HMID.out.con a ha).lt
            by_cases ea : a = i
            · subst ea
              rw [upv_same] at hab
              by_cases eb : b = a
              · exact eb.symm
              · rw [upv_other _ _ eb] at hab
                have := hP b (by omega)
                omega
            · rw [upv_other _ _ ea] at hab
              by_cases eb : b = i
              · subst eb
                rw [upv_same] at hab
                have := hP a (by omega)
                omega
              · rw [upv_other _ _ eb] at hab
                exact HPIN.out a b (by omega) (by omega) hab
          · by_cases ea : a = i
            · subst ea
              rw [upv_same]
              have := (HMID.out.zs k' hk' hs).lt
              intro e
              have e' : p = D.Z k' := e
              have : D.Z k' < wr.heap.size := this
              omega
            · rw [upv_other _ _ ea]
              exact HPZ.out a k' (by omega) hk' hs
          · by_cases ea : a = i
            · subst ea
              rw [upv_same]
              exact hpH
            · rw [upv_other _ _ ea]
              exact HPH.out a (by omega)
        refine m2b _ _ _ _ _ _ _ _ _ _ _ _ _ _ _ _ _ _ _ _ _ _ _ _ _ _ _ _ _ _ _ _ _ _ _ _ _ _ _ _ _ _ _ _ _ _ _ _ _ _ _ _ _ _ _ _ _ _ _ _ _ _ _ _ _ _ _ _ _ _ _ _ _ _ _ _ _ _ _ _ _ _ _ _ _ _ _ _ _ _ _ _ _ _ _ _ _ _ _ _ _ _ _ _ _ _ _ _ _ _ _ _ _ _ _ _ _ _ _ _ _ _ _ _ _ _ _ _ _ _ _ _ _ _ _ _ _ _ _ _ _ _ _ _ _ _ _ _ _ _ _ _ _ _ _ _ _ _ _ _ _ _ _ _ _ _ _ _ _ _ _ _ _ _ _ _ _ _ _ _ _ _ _ _ _ _ _ _ _ _ _ _ _ _ _ _ _ _ _ _ _ _ _ _ _ _ _ _ _ _ _ _ _ _ _ _ _ _ _ _ _ _ _ _ _ _ _ _ _ _ _ _ _ _ _ _ _ _ _ _ _ _ _ _ _ _ _ _ _ _ _ _ _ _ _ _ _ _ _ _ _ _ _ _ _ _ _ _ _ _ _ _ _ _ _ _ _ _ _ _ _ _ _ _ _ _ _ _ _ _ _ _ _ _ _ _ _ _ _ _ _ _ _ _ _ _ _ _ _ _ _ _ _ _ _ _ _ _ _ _ _ _ _ _ _ _ _ _ _ _ _ _ _ _ _ _ _ _ _ _ _ _ _ _ _ _ _ _ _ _ _ _ _ _ _ _ _ _ _ _ _ _ _ _ _ _ _ _ _ _ _ _ _ _ _ _ _ _ _ _ _ _ _ _ _ _ _ _ _ _ _ _ _ _ _ _ _ _ _ _ _ _ _ _ _ _ _ _ _ _ _ _ _ _ _ _ _ _ _ _ _ _ _ _ _ _ _ _ _ _ _ _ _ _ _ _ _ _ _ _ _ _ _ _ _ _ _ _ _ _ _ _ _ _ _ _ _ _ _ _ _ _ _ _ _ _ _ _ _ _ _ _ _ _ _ _ _ _ _ _ _ _ _ _ _ _ { D with m := i, P := P } H gt tcs rv1 _ _ _ k p w9 _ _ rfl M9.out rfl hkn HKB.out (by exact nb4) (by show i < 1024; omega) hpH ?_
        intro v24 v25 v218 v219 v220 v221 v222 v223 v224 v225 v226 v227 v228 v229 v230 v231 v232 v233 v234 v235 v236 v237 v238 w' rv' hb hv hm'
        subst hv
        have HR := hide (HHQ.out w' rv' v25 hb hm')
        clear HHQ M9
        dsimp only
        go_wp2
        dsimp only [Rest]
        go_wp2
        refine And.intro ?_ (by simp [intOf]; omega)
        iterate 7 apply Exists.intro
        refine And.intro HR.out ?_
        repeat apply Exists.intro
        rfl
    · have hltI : ¬ (i : Int) < (M : Int) := by omega
      have hii : i = M := by omega
      subst hii
      have HSYS := hide (Mids.sys (ct := ct) HMID.out nb1 nb4 hM (fun a ha => by
        have h3 := (HBK.out a ha).2.2
        have : D.kb a < D.nb := by
          have := Int.emod_lt_of_pos (bkr a) (show (0 : Int) < (D.nb : Int) by omega)
          omega
        exact this) HFL.out T29.out T34.out HPIN.out HPZ.out HPH.out)
      go_wp2
      exact m3 _ _ _ _ _ _ _ _ _ _ _ _ _ _ _ _ _ _ _ _ _ _ _ _ _ _ _ _ _ _ _ _ _ _ _ _ _ _ _ _ _ _ _ _ _ _ _ _ _ _ _ _ _ _ _ _ _ _ _ _ _ _ _ _ _ _ _ _ _ _ _ _ _ _ _ _ _ _ _ _ _ _ _ _ _ _ _ _ _ _ _ _ _ _ _ _ _ _ _ _ _ _ _ _ _ _ _ _ _ _ _ _ _ _ _ _ _ _ _ _ _ _ _ _ _ _ _ _ _ _ _ _ _ _ _ _ _ _ _ _ _ _ _ _ _ _ _ _ _ _ _ _ _ _ _ _ _ _ _ _ _ _ _ _ _ _ _ _ _ _ _ _ _ _ _ _ _ _ _ _ _ _ _ _ _ _ _ _ _ _ _ _ _ _ _ _ _ _ _ _ _ _ _ _ _ _ _ _ _ _ _ _ _ _ _ _ _ _ _ _ _ _ _ _ _ _ _ _ _ _ _ _ _ _ _ _ _ _ _ _ _ _ _ _ _ _ _ _ _ _ _ _ _ _ _ _ _ _ _ _ _ _ _ _ _ _ _ _ _ _ _ _ _ _ _ _ _ _ _ _ _ _ _ _ _ _ _ _ _ _ _ _ _ _ _ _ _ _ _ _ _ _ _ _ _ _ _ _ _ _ _ _ _ _ _ _ _ _ _ _ _ _ _ _ _ _ _ _ _ _ _ _ _ _ _ _ _ _ _ _ _ _ _ _ _ _ _ _ _ _ _ _ _ _ _ _ _ _ _ _ _ _ _ _ _ _ _ _ _ _ _ _ _ _ _ _ _ _ _ _ _ _ _ _ _ _ _ _ _ _ _ _ _ _ _ _ _ _ _ _ _ _ _ _ _ _ _ _ _ _ _ _ _ _ _ _ _ _ _ _ _ _ _ _ _ _ _ _ _ _ _ _ _ _ _ _ _ _ _ _ _ _ _ _ _ _ _ _ _ _ _ _ _ _ _ _ _ _ _ _ _ _ _ _ _ _ _ _ _ _ _ _ _ _ _ _ _ _ _ _ _ _ _ _ _ _ { D with m := i, P := P } H gt ct tcs rv1 (rv1 (2 * D.nb)) _ a2 nc cap2 _ R _ rfl HSYS.out hnc (HIN.out.below HB.out) (fun w' hb => HFIN.out w' (HB.out.trans hb))

end Go.Proofs.Ybulkbtow
