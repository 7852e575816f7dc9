/-
  BModel: the candidates are laid
-/
import Derived.Test.YbulkbtowMGrow
import Derived.Test.YbulkbtowMGlue2
namespace Go.Proofs.Ybulkbtow
open Go.RowKit
set_option linter.unusedVariables false

def canCells (p : Int) : List Value := [.int .u8 0, .int .u8 0, .int .u8 0, .int .u8 0, .int .u8 0, .int .u8 0, .int .u8 0, .int .u8 0, .int .u8 0, .int .u8 0, .int .u8 0, .int .u8 0, .int .u8 0, .int .u8 0, .int .u8 0, .int .u8 0, .int .u8 0, .int .u8 0, .int .u8 0, .int .u8 0,
  .int .u64 0, .int .u64 0, .pointer none, .int .u16 p, .int .u64 0, .int .i64 0, .pointer none, .int .u64 0, .int .i64 0, .pointer none, .int .i64 0, .bool false]

theorem add_block (x : Addr) (i : Nat) : (x.add i).block = x.block := by
  unfold Addr.add
  split <;> rfl

/-- A row that came in. -/
def InRow (w : World) (H : Nat) (a : Option Addr) (n : Nat) (f : Nat → Value) : Prop := n = 0 ∨ ∃ x, a = some x ∧ x.block < H ∧ ∀ i, i < n → w.cell? (x.add i) = some (f i)

theorem InRow.below {w w' : World} {H : Nat} {a : Option Addr} {n : Nat} {f : Nat → Value} (h : InRow w H a n f) (hb : Below H w w') : InRow w' H a n f := by
  rcases h with h | ⟨x, rfl, hx, hc⟩
  · exact .inl h
  · refine .inr ⟨x, rfl, hx, fun i hi => ?_⟩
    have : (x.add i).block < H := by rw [add_block]; exact hx
    exact (hb.cell this).trans (hc i hi)

theorem Sys.turn {D : Dat} {H gt ct : Nat} {tcs : List Value} {rv : Nat → Value} {pv fv cv wv : Value} {w w' : World} (h : Sys D H gt ct tcs rv pv fv cv wv w) {S : List Nat} (hk : Kept S w w') (hA : Alien w S [57, 60, 56, 58, 66, 3, 70, 43, 29]) {nc' : Nat} {C' : Nat → Nat} {tcs' : List Value} {cv' wv' : Value} (hnc : nc' ≤ 1024) (tb' : Blk w' D.bt 54 tcs') (t29' : tcs'[29]? = tcs[29]?) (t34' : tcs'[34]? = some cv')
    (rcv' : Lst w' H 68 cv' ((List.range nc').map (fun i => ptr (C' i)))) (cb' : ∀ i, i < nc' → (∃ cs, Blk w' (C' i) 70 cs) ∧ ApAt w' (C' i) 20 (D.cd i)) (rw'' : Lst w' H 25 wv' (((List.range nc').filter (fun i => D.cd i != D.tg)).map (fun i => Value.int .u16 (D.cd i)))) :
    Sys { D with nc := nc', C := C' } H gt ct tcs' rv pv fv cv' wv' w' := by
  obtain ⟨ts, hts⟩ := h.tt
  have keepB : ∀ {g : Nat} {e : TypeId} {cs : List Value}, Blk w g e cs → e ∈ [57, 60, 56, 58, 66, 3, 70, 43, 29] → Blk w' g e cs := fun hb he => hk.blk hb (hA.out hb he)
  have keepL : ∀ {e : TypeId} {v : Value} {xs : List Value}, Lst w H e v xs → e ∈ [57, 60, 56, 58, 66, 3, 70, 43, 29] → Lst w' H e v xs := fun hl he => hl.again (fun g cs _ hb => keepB hb he)
  exact ⟨h.nb1, h.nb4, h.m5, hnc, h.kbl, h.flb, tb', t29'.trans h.t29, t34', ⟨ts, keepB hts (by simp)⟩, fun k hk' => by rw [blk_cell hts (keepB hts (by simp))]; exact h.tc k hk', fun k hk' => keepB (h.bk k hk') (by simp), h.bi, keepB h.og (by simp), keepB h.sp (by simp), fun k hk' hs => keepB (h.zs k hk' hs) (by simp), fun k hk' => keepL (h.rc k hk') (by simp), fun k hk' => keepL (h.ro k hk') (by simp), keepL h.rp (by simp), h.d1, keepL h.rf (by simp), fun i hi => keepB (h.con i hi) (by simp), h.pin, h.pz, rcv', cb', rw'', keepB h.ba (by simp), keepB h.bn (by simp), Nat.le_trans h.hw hk.size, h.hbt, h.hB, h.hP⟩

/-- The loop's relation. -/
def C3 (D : Dat) (H gt ct : Nat) (rv : Nat → Value) (pv fv : Value) (nc : Nat) (w0 : World) (t1 t2 : Value) (w : World) : Prop :=
  ∃ (i : Nat) (tcs : List Value) (cv : Value) (C : Nat → Nat), i ≤ nc ∧ t2 = .int .i64 (i : Int) ∧ Below H w0 w ∧ Sys { D with nc := i, C := C } H gt ct tcs rv pv fv cv t1 w

theorem alien_own {w : World} {H : Nat} {e : TypeId} {v : Value} {xs : List Value} (h : Lst w H e v xs) {es : List TypeId} (he : e ∉ es) {S : List Nat} (hS : Alien w S es) : Alien w (v.ownBlock.toList ++ S) es := by
  cases ho : v.ownBlock with
  | none => simpa using hS
  | some g =>
    obtain ⟨cs, hb, _⟩ := h.type ho
    simpa using alien_one hb he hS

theorem own_ne {w : World} {H : Nat} {e e' : TypeId} {v : Value} {xs cs : List Value} {g : Nat} (h : Lst w H e v xs) (hb : Blk w g e' cs) (he : e ≠ e') : v.ownBlock ≠ some g := fun ho => by
  obtain ⟨cs', hb', _⟩ := h.type ho
  exact hb'.ne hb he rfl

/-- One candidate more: up to the store into the table. -/
theorem cand_step {D : Dat} {H gt ct i : Nat} {C : Nat → Nat} {tcs : List Value} {rv : Nat → Value} {pv fv cv wv v' : Value} {wr w6 w8 : World} {c : Nat} (h : Sys { D with nc := i, C := C } H gt ct tcs rv pv fv cv wv wr) (hi : i < 1024) (hk6 : Kept [] wr w6) (hc : Blk w6 c 70 (canCells (D.cd i))) (hc0 : wr.heap.size ≤ c)
    (hl8 : Lst w8 H 68 v' ((List.range i).map (fun j => ptr (C j)) ++ [ptr c])) (hg8 : (w6.alloc (.cells #[ptr c] 68)).grownBy w8 cv.ownBlock) :
    Blk w8 D.bt 54 tcs ∧ Below H wr (w8.setCell ⟨D.bt, 34, none⟩ v') ∧ Lst (w8.setCell ⟨D.bt, 34, none⟩ v') H 25 wv (((List.range i).filter (fun i => D.cd i != D.tg)).map (fun i => Value.int .u16 (D.cd i))) ∧
      ∀ {S wv' wF}, Kept S (w8.setCell ⟨D.bt, 34, none⟩ v') wF → (∀ g ∈ S, g < wr.heap.size → wv.ownBlock = some g) → (∀ g ∈ S, H ≤ g) → Alien (w8.setCell ⟨D.bt, 34, none⟩ v') S [54, 68, 70] → Lst wF H 25 wv' (((List.range (i + 1)).filter (fun i => D.cd i != D.tg)).map (fun i => Value.int .u16 (D.cd i))) →
        Below H wr wF ∧ Sys { D with nc := i + 1, C := upv C i c } H gt ct (tcs.set 34 v') rv pv fv v' wv' wF := by
  have hw := h.hw
  have hk8 : Kept (cv.ownBlock.toList ++ []) wr w8 := by
    rw [List.append_nil]
    exact ((hk6.mono (fun _ _ h => by simp at h)).alloc (.cells #[ptr c] 68)).trans' (grown_to hg8) (fun g hg _ => hg)
  have hA8 : Alien wr (cv.ownBlock.toList ++ []) [54, 57, 60, 56, 58, 66, 3, 70, 43, 29, 25] := alien_own h.rcv (by decide) (alien_nil _ _)
  have hcvH : ∀ g ∈ cv.ownBlock.toList, H ≤ g := by
    intro g hg
    rw [Option.mem_toList] at hg
    obtain ⟨_, _, hh⟩ := h.rcv.type hg
    exact hh
  have hbt8 : Blk w8 D.bt 54 tcs := hk8.blk h.tb (hA8.out h.tb (by simp))
  have hc8 : Blk w8 c 70 (canCells (D.cd i)) := by
    refine grown_blk hg8 (hc.alloc _) ?_
    have := (h.rcv.kept hk6 (by simp)).kept ((Kept.refl [] w6).alloc (.cells #[ptr c] 68)) (by simp)
    exact own_ne this (hc.alloc _) (by decide)
  have hk9 : Kept (D.bt :: (cv.ownBlock.toList ++ [])) wr (w8.setCell ⟨D.bt, 34, none⟩ v') := (hk8.mono (fun _ _ h => List.mem_cons_of_mem _ h)).setCell (p := ⟨D.bt, 34, none⟩) (.inl (by simp)) v'
  have hA9 : Alien wr (D.bt :: (cv.ownBlock.toList ++ [])) [57, 60, 56, 58, 66, 3, 70, 43, 29, 25] := alien_one h.tb (by decide) (hA8.mono (by simp))
  have hH9 : ∀ g ∈ (D.bt :: (cv.ownBlock.toList ++ [])), H ≤ g := by
    intro g hg
    rw [List.append_nil, List.mem_cons] at hg
    rcases hg with rfl | hg
    · exact h.hbt
    · exact hcvH g hg
  have hwv9 := h.rw'.again (fun g cs _ hb => hk9.blk hb (hA9.out hb (by simp)))
  have hbt9 : Blk (w8.setCell ⟨D.bt, 34, none⟩ v') D.bt 54 (tcs.set 34 v') := hbt8.set 34 v'
  have hcv9 : Lst (w8.setCell ⟨D.bt, 34, none⟩ v') H 68 v' ((List.range i).map (fun j => ptr (C j)) ++ [ptr c]) := hl8.kept ((Kept.refl [D.bt] w8).setCell (p := ⟨D.bt, 34, none⟩) (.inl (by simp)) v') (fun g hg => by
    simp
    intro e
    subst e
    exact own_ne hl8 hbt8 (by decide) hg)
  have hc9 : Blk (w8.setCell ⟨D.bt, 34, none⟩ v') c 70 (canCells (D.cd i)) := hc8.other (a := ⟨D.bt, 34, none⟩) (hc8.ne hbt8 (by decide)) v'
  refine ⟨hbt8, hk9.toBelow hw hH9, hwv9, fun {S wv' wF} hkF hSo hSH hAF hwF => ?_⟩
  have hkF' : Kept (wv.ownBlock.toList ++ (D.bt :: (cv.ownBlock.toList ++ []))) wr wF := (hk9.mono (fun _ _ h => List.mem_append_right _ h)).trans' hkF (fun g hg hlt => by
    refine List.mem_append_left _ ?_
    rw [Option.mem_toList]
    exact hSo g hg hlt)
  have hAF' : Alien wr (wv.ownBlock.toList ++ (D.bt :: (cv.ownBlock.toList ++ []))) [57, 60, 56, 58, 66, 3, 70, 43, 29] := alien_own h.rw' (by decide) (hA9.mono (by simp))
  have hbF : Below H wr wF := (hk9.toBelow hw hH9).trans (hkF.toBelow (Nat.le_trans hw hk9.size) hSH)
  refine ⟨hbF, ?_⟩
  refine Sys.turn (D := { D with nc := i, C := C }) h hkF' hAF' (by omega) (hkF.blk hbt9 (hAF.out hbt9 (by simp))) (by rw [List.getElem?_set_ne (by decide)]) ?_ ?_ ?_ hwF
  · rw [List.getElem?_set_self]
    have := h.t34
    rw [List.getElem?_eq_some_iff] at this
    exact this.1
  · have e : (List.range (i + 1)).map (fun j => ptr (upv C i c j)) = (List.range i).map (fun j => ptr (C j)) ++ [ptr c] := by
      rw [List.range_succ, List.map_append]
      congr 1
      · refine List.map_congr_left (fun j hj => ?_)
        rw [List.mem_range] at hj
        rw [upv_other _ _ (by omega)]
      · simp [upv_same]
    rw [e]
    exact hcv9.again (fun g cs _ hb => hkF.blk hb (hAF.out hb (by simp)))
  · intro j hj
    by_cases ej : j = i
    · subst ej
      rw [upv_same]
      have hcF := hkF.blk hc9 (hAF.out hc9 (by simp))
      exact ⟨⟨_, hcF⟩, ⟨hcF.at 20, hcF.at 21, hcF.at 22, hcF.at 23⟩⟩
    · rw [upv_other _ _ ej]
      obtain ⟨⟨cs, hb⟩, ha⟩ := h.cb j (show j < i by omega)
      have hb9 := hkF'.blk hb (hAF'.out hb (by simp))
      exact ⟨⟨cs, hb9⟩, ha.kept hkF' (hAF'.out hb (by simp))⟩

theorem ap_set {w : World} {c : Nat} (h : Blk w c 70 (canCells 0)) (q : Int) : Blk ((((w.setCell ⟨c, 20, none⟩ (.int .u64 0)).setCell ⟨c, 21, none⟩ (.int .u64 0)).setCell ⟨c, 22, none⟩ (.pointer none)).setCell ⟨c, 23, none⟩ (.int .u16 q)) c 70 (canCells q) := (((h.set 20 _).set 21 _).set 22 _).set 23 _

set_option maxRecDepth 100000 in
set_option maxHeartbeats 8000000 in
theorem m3 (u0 u1 u3 u4 u6 u7 u8 u9 u10 u11 u12 u13 u14 u21 u22 u23 u26 u27 u28 u29 u30 u31 u32 u33 u34 u35 u36 u37 u38 u39 u40 u41 u42 u43 u44 u45 u46 u47 u48 u49 u50 u51 u52 u53 u54 u55 u56 u57 u58 u59 u60 u61 u62 u63 u64 u65 u66 u67 u68 u69 u70 u71 u72 u73 u74 u75 u76 u77 u78 u79 u80 u81 u82 u83 u84 u85 u86 u87 u88 u89 u90 u91 u92 u93 u94 u95 u96 u97 u98 u99 u100 u101 u102 u103 u104 u105 u106 u107 u108 u109 u110 u111 u112 u113 u114 u115 u116 u117 u118 u119 u120 u121 u122 u123 u124 u125 u126 u127 u128 u129 u130 u131 u132 u133 u134 u135 u136 u137 u138 u139 u140 u141 u142 u143 u144 u145 u146 u147 u148 u149 u150 u151 u152 u153 u154 u155 u156 u157 u158 u159 u160 u161 u162 u163 u164 u165 u166 u167 u168 u169 u170 u171 u172 u173 u174 u175 u176 u177 u178 u179 u180 u181 u182 u183 u184 u185 u186 u187 u188 u189 u190 u191 u192 u193 u194 u195 u196 u197 u198 u199 u200 u201 u202 u203 u204 u205 u206 u207 u208 u209 u210 u211 u212 u213 u214 u215 u216 u217 u218 u219 u220 u221 u222 u223 u224 u225 u226 u227 u228 u229 u230 u231 u232 u233 u234 u235 u236 u237 u238 u239 u240 u241 u242 u243 u244 u245 u246 u247 u248 u249 u250 u251 u252 u253 u254 u255 u256 u257 u258 u259 u260 u261 u262 u263 u264 u265 u266 u267 u268 u269 u270 u271 u272 u273 u274 u275 u276 u277 u278 u279 u280 u281 u282 u283 u284 u285 u286 u287 u288 u289 u290 u291 u292 u293 u294 u295 u296 u297 u298 u299 u300 u301 u302 u303 u304 u305 u306 u307 u308 u309 u310 u311 u312 u313 u314 u315 u316 u317 u318 u319 u320 u321 u322 u323 u324 u325 u326 u327 u328 u329 u330 u331 u332 u333 u334 u335 u336 u337 u338 u339 u340 u341 u342 u343 u344 u345 u346 u347 u348 u349 u350 u351 u352 u353 u354 u355 u356 u357 u358 u359 u360 u361 u362 u363 u364 u365 u366 u367 u368 u369 u370 u371 u372 u373 u374 u375 u376 u377 u378 u379 u380 u381 u382 u383 u384 u385 u386 u387 u388 u389 u390 u391 u392 u393 u394 u395 u396 u397 u398 u399 u400 u401 u402 u403 u404 u405 u406 u407 u408 u409 u410 u411 u412 u413 u414 u415 u416 u417 u418 u419 u420 u421 u422 u423 u424 u425 u426 u427 u428 u429 u430 u431 u432 u433 u434 u435 u436 u437 u438 u439 u440 u441 u442 u443 u444 u445 u446 u447 u448 u449 u450 u451 u452 u453 u454 u455 u456 u457 u458 u459 u460 u461 u462 u463 u464 u465 u466 u467 u468 u469 u470 u471 u472 u473 u474 u475 u476 u477 u478 u479 u480 u481 u482 u483 u484 u485 u486 u487 u488 u489 u490 u491 u492 u493 u494 u495 : Value) (D : Dat) (H gt ct : Nat) (tcs : List Value) (rv : Nat → Value) (pv fv : Value) (a2 : Option Addr) (nc cap2 : Nat) (W : World) (R : Ending → World → Prop) (code : Code) (hcode : (Yba.f3.body).bind (mtail 12) = some code)
    (h : Sys { D with nc := 0 } H gt ct tcs rv pv fv (.slice none 0 0) (.slice none 0 0) W) (hnc : nc ≤ 1024) (hin : InRow W H a2 nc (fun i => .int .u16 (D.cd i)))
    (hfin : ∀ w', Below H W w' → R (.returned (.bool true)) w') :
    code.wp Yba.prog (Exit.noGoto (bodyPost Yba.prog Yba.f3 R)) ⟨#[u0, u1, .slice a2 nc cap2, u3, u4, .int .u16 D.tg, u6, u7, u8, u9, u10, u11, u12, u13, u14, .int .i64 (D.nb : Int), ptr D.bn, ptr D.ba, ptr D.bt, .slice (some ⟨D.bo, 0, none⟩) D.nb D.nb, .slice (some ⟨D.bs, 0, none⟩) D.nb D.nb, u21, u22, u23, pv, fv, u26, u27, u28, u29, u30, u31, u32, u33, u34, u35, u36, u37, u38, u39, u40, u41, u42, u43, u44, u45, u46, u47, u48, u49, u50, u51, u52, u53, u54, u55, u56, u57, u58, u59, u60, u61, u62, u63, u64, u65, u66, u67, u68, u69, u70, u71, u72, u73, u74, u75, u76, u77, u78, u79, u80, u81, u82, u83, u84, u85, u86, u87, u88, u89, u90, u91, u92, u93, u94, u95, u96, u97, u98, u99, u100, u101, u102, u103, u104, u105, u106, u107, u108, u109, u110, u111, u112, u113, u114, u115, u116, u117, u118, u119, u120, u121, u122, u123, u124, u125, u126, u127, u128, u129, u130, u131, u132, u133, u134, u135, u136, u137, u138, u139, u140, u141, u142, u143, u144, u145, u146, u147, u148, u149, u150, u151, u152, u153, u154, u155, u156, u157, u158, u159, u160, u161, u162, u163, u164, u165, u166, u167, u168, u169, u170, u171, u172, u173, u174, u175, u176, u177, u178, u179, u180, u181, u182, u183, u184, u185, u186, u187, u188, u189, u190, u191, u192, u193, u194, u195, u196, u197, u198, u199, u200, u201, u202, u203, u204, u205, u206, u207, u208, u209, u210, u211, u212, u213, u214, u215, u216, u217, u218, u219, u220, u221, u222, u223, u224, u225, u226, u227, u228, u229, u230, u231, u232, u233, u234, u235, u236, u237, u238, u239, u240, u241, u242, u243, u244, u245, u246, u247, u248, u249, u250, u251, u252, u253, u254, u255, u256, u257, u258, u259, u260, u261, u262, u263, u264, u265, u266, u267, u268, u269, u270, u271, u272, u273, u274, u275, u276, u277, u278, u279, u280, u281, u282, u283, u284, u285, u286, u287, u288, u289, u290, u291, u292, u293, u294, u295, u296, u297, u298, u299, u300, u301, u302, u303, u304, u305, u306, u307, u308, u309, u310, u311, u312, u313, u314, u315, u316, u317, u318, u319, u320, u321, u322, u323, u324, u325, u326, u327, u328, u329, u330, u331, u332, u333, u334, u335, u336, u337, u338, u339, u340, u341, u342, u343, u344, u345, u346, u347, u348, u349, u350, u351, u352, u353, u354, u355, u356, u357, u358, u359, u360, u361, u362, u363, u364, u365, u366, u367, u368, u369, u370, u371, u372, u373, u374, u375, u376, u377, u378, u379, u380, u381, u382, u383, u384, u385, u386, u387, u388, u389, u390, u391, u392, u393, u394, u395, u396, u397, u398, u399, u400, u401, u402, u403, u404, u405, u406, u407, u408, u409, u410, u411, u412, u413, u414, u415, u416, u417, u418, u419, u420, u421, u422, u423, u424, u425, u426, u427, u428, u429, u430, u431, u432, u433, u434, u435, u436, u437, u438, u439, u440, u441, u442, u443, u444, u445, u446, u447, u448, u449, u450, u451, u452, u453, u454, u455, u456, u457, u458, u459, u460, u461, u462, u463, u464, u465, u466, u467, u468, u469, u470, u471, u472, u473, u474, u475, u476, u477, u478, u479, u480, u481, u482, u483, u484, u485, u486, u487, u488, u489, u490, u491, u492, u493, u494, u495], []⟩ W := by
  obtain rfl : code = _ := Option.some.inj (hcode.symm.trans (show (Yba.f3.body).bind (mtail 12) = some _ from rfl))
  clear hcode
  have HS := hide h
  have HIN := hide hin
  have HFIN := hide hfin
  clear h hin hfin
  dsimp only
  refine wp_seq_rest fun K hK' => ?_
  go_wp2
  refine wp_seq_rest fun K hK' => ?_
  go_wp2
  go_loopw [30, 242] (fun t1 t2 wr => C3 D H gt ct rv pv fv nc W t1 t2 wr) (fun t1 t2 _ => nc - (intOf t2).toNat)
  case atStart => exact ⟨0, tcs, _, D.C, Nat.zero_le _, rfl, Below.refl _ _, HS.out⟩
  case round =>
    obtain ⟨i, tcs1, cv, C, hin', rfl, hbel, hsys⟩ := hrel
    have HB := hide hbel
    have HSY := hide hsys
    clear hbel hsys
    by_cases hlt : i < nc
    · have hltI : (i : Int) < (nc : Int) := by omega
      obtain ⟨x, rfl, hx, hc⟩ : ∃ x, a2 = some x ∧ x.block < H ∧ ∀ i, i < nc → wr.cell? (x.add i) = some (.int .u16 (D.cd i)) := by
        rcases HIN.out.below HB.out with h | h
        · omega
        · exact h
      have c1 := hc i hlt
      clear hc
      have HCALL := hide (fun p w => ap_any p w)
      refine wp_seq_rest fun K1 hK1 => ?_
      go_wp2
      refine wp_seq_rest fun K2 hK2 => ?_
      go_wp2
      refine wp_seq_rest fun K3 hK3 => ?_
      refine wp_block ?_
      refine wp_seq_rest fun K4 hK4 => ?_
      go_wp2
      refine wp_seq_rest fun K5 hK5' => ?_
      go_wp2
      refine wp_seq_rest fun K6 hK6' => ?_
      go_wp2_with fail
      refine (HCALL.out _ _).mono ?_
      rintro e w5 ⟨rfl, hb5⟩
      have hw0 : wr.heap.size < (wr.alloc (.cells (canCells 0).toArray 70)).heap.size := by simp
      have hK5 : Kept [] wr w5 := ((Kept.refl [] wr).alloc (.cells (canCells 0).toArray 70)).below (hb5.mono (by simp))
      have hC5 : Blk w5 wr.heap.size 70 (canCells 0) := Blk.below (Blk.new wr 70 (canCells 0)) hb5 hw0
      have HK5 := hide hK5
      have HC5 := hide hC5
      have e20 := hC5.at 20
      have e21 := hC5.at 21
      have e22 := hC5.at 22
      have e23 := hC5.at 23
      have z20 := hC5.free 20
      have z21 := hC5.free 21
      have z22 := hC5.free 22
      have z23 := hC5.free 23
      simp only [canCells, List.getElem?_cons_zero, List.getElem?_cons_succ] at e20 e21 e22 e23
      obtain ⟨c, hcw⟩ : ∃ c, wr.heap.size = c := ⟨_, rfl⟩
      have HCW := hide hcw
      rw [hcw] at e20 e21 e22 e23 z20 z21 z22 z23 HC5
      clear hK5 hC5 hb5 hw0 HCALL c1
      rw [hcw]
      clear hcw
      have HC6 := hide (ap_set HC5.out (D.cd i))
      have HK6 := hide ((((HK5.out.setCell (p := ⟨c, 20, none⟩) (.inr (Nat.le_of_eq HCW.out)) (.int .u64 0)).setCell (p := ⟨c, 21, none⟩) (.inr (Nat.le_of_eq HCW.out)) (.int .u64 0)).setCell (p := ⟨c, 22, none⟩) (.inr (Nat.le_of_eq HCW.out)) (.pointer none)).setCell (p := ⟨c, 23, none⟩) (.inr (Nat.le_of_eq HCW.out)) (.int .u16 (D.cd i)))
      dsimp only
      go_wp2
      clear e20 e21 e22 e23 z20 z21 z22 z23 HC5 HK5
      generalize ((((w5.setCell ⟨c, 20, none⟩ (.int .u64 0)).setCell ⟨c, 21, none⟩ (.int .u64 0)).setCell ⟨c, 22, none⟩ (.pointer none)).setCell ⟨c, 23, none⟩ (.int .u16 (D.cd i))) = w6 at *
      -- what stands at w6
      have hcH : H ≤ c := by have := HSY.out.hw; have := HCW.out; omega
      have hlen : ((List.range i).map (fun i => ptr (C i))).length = i := by simp
      have hbt6 := HK6.out.blk HSY.out.tb (by simp)
      have hcv6 := HSY.out.rcv.kept HK6.out (by simp)
      have HBT6 := hide hbt6
      have HCV7 := hide (hcv6.kept ((Kept.refl [] w6).alloc (.cells #[ptr c] 68)) (by simp))
      have c34 := (hbt6.at 34).trans HSY.out.t34
      have hH6 : H ≤ w6.heap.size := Nat.le_trans HSY.out.hw HK6.out.size
      clear hbt6 hcv6
      refine wp_seq_rest fun K7 hK7 => ?_
      go_wp2_with (at_builtin; refine wpList_app1 _ rfl (.tmp 258) (.tmp 260) 52 rfl H 68 (.pointer none) 8 info68 rfl (by decide) Yba.underlying52 cv _ rfl HCV7.out ?c2 w6.heap.size 1 (ptr c) rfl ?c3 rfl ?c4 ?_)
      case c2 => omega
      case c4 => omega
      intro v' w8 hl8 hg8 hb8
      obtain ⟨qa, qn, qc, rfl⟩ : ∃ qa qn qc, v' = .slice qa qn qc := by obtain ⟨a, c, e⟩ := hl8.shape; exact ⟨a, _, c, e⟩
      obtain ⟨v', hv'⟩ : ∃ v', Value.slice qa qn qc = v' := ⟨_, rfl⟩
      rw [hv'] at hl8
      obtain ⟨hbt8, hbel9, hwv9, hstep⟩ := cand_step HSY.out (by omega) HK6.out HC6.out (Nat.le_of_eq HCW.out) hl8 hg8
      have b34 := (hbt8.at 34).trans HSY.out.t34
      have z34 := hbt8.free 34
      have HB9 := hide hbel9
      have HWV := hide hwv9
      have HST := hide (fun S wv' wF => @hstep S wv' wF)
      have hH9 : H ≤ (w8.setCell ⟨D.bt, 34, none⟩ v').heap.size := Nat.le_trans HSY.out.hw HB9.out.size
      have hbt9 : Blk (w8.setCell ⟨D.bt, 34, none⟩ v') D.bt 54 (tcs1.set 34 v') := hbt8.set 34 v'
      clear hbel9 hwv9 hstep hl8 hg8 hb8 c34 hbt8 HCV7 HBT6
      subst hv'
      go_wp2
      generalize w8.setCell ⟨D.bt, 34, none⟩ (.slice qa qn qc) = w9 at *
      clear b34 z34 hbt9
      by_cases hq : D.cd i = D.tg
      · have HR := hide (show C3 D H gt ct rv pv fv nc W u30 (.int .i64 ((i : Int) + 1)) w9 from by
          obtain ⟨q1, q2⟩ := HST.out [] u30 w9 (Kept.refl _ _) (by simp) (by simp) (alien_nil _ _) (by
            have e : (List.range (i + 1)).filter (fun i => D.cd i != D.tg) = (List.range i).filter (fun i => D.cd i != D.tg) := by
              rw [List.range_succ, List.filter_append]
              simp [hq]
            rw [e]
            exact HWV.out)
          exact ⟨i + 1, _, _, _, by omega, by go_num, HB.out.trans q1, q2⟩)
        clear HST
        refine wp_seq_rest fun K8 hK8 => ?_
        go_wp2
        dsimp only [Rest]
        go_wp2
        dsimp only [Rest]
        go_wp2
        go_roundw
        case rel => exact HR.out
        case measure => simp [intOf]; omega
      · have HW10 := hide (HWV.out.kept ((Kept.refl [] w9).alloc (.cells #[.int .u16 (D.cd i)] 25)) (by simp))
        have hlw : (((List.range i).filter (fun i => D.cd i != D.tg)).map (fun i => Value.int .u16 (D.cd i))).length ≤ i := by
          rw [List.length_map]
          have := List.length_filter_le (fun i => D.cd i != D.tg) (List.range i)
          simpa using this
        refine wp_seq_rest fun K8 hK8 => ?_
        go_wp2
        dsimp only [Rest]
        go_wp2_with (at_builtin; refine wpList_app1 _ rfl (.tmp 267) (.tmp 269) 24 rfl H 25 (.int .u16 0) 2 info25 rfl (by decide) Yba.underlying24 _ _ rfl HW10.out ?e2 w9.heap.size 1 (.int .u16 (D.cd i)) rfl ?e3 rfl ?e4 ?_)
        case e2 => exact Nat.le_trans hlw (by omega)
        case e3 => simp
        case e4 => simp; omega
        intro v2 w11 hl2 hg2 hb2
        have HR := hide (show C3 D H gt ct rv pv fv nc W v2 (.int .i64 ((i : Int) + 1)) w11 from by
          obtain ⟨q1, q2⟩ := HST.out u30.ownBlock.toList v2 w11 ((((Kept.refl _ w9).alloc _)).trans' (grown_to hg2) (fun g hg _ => hg)) (fun g hg _ => by rwa [Option.mem_toList] at hg) (fun g hg => by
            rw [Option.mem_toList] at hg
            obtain ⟨_, _, hh⟩ := HWV.out.type hg
            exact hh) (by have := alien_own HWV.out (es := [54, 68, 70]) (by decide) (alien_nil _ _); simpa using this) (by
            have e : ((List.range (i + 1)).filter (fun i => D.cd i != D.tg)).map (fun i => Value.int .u16 (D.cd i)) = ((List.range i).filter (fun i => D.cd i != D.tg)).map (fun i => Value.int .u16 (D.cd i)) ++ [.int .u16 (D.cd i)] := by
              rw [List.range_succ, List.filter_append, List.map_append]
              simp [hq]
            rw [e]
            exact hl2)
          exact ⟨i + 1, _, _, _, by omega, by go_num, HB.out.trans q1, q2⟩)
        clear HST hl2 hg2 hb2
        go_wp2
        dsimp only [Rest]
        go_wp2
        go_roundw
        case rel => exact HR.out
        case measure => simp [intOf]; omega
    · have hltI : ¬ (i : Int) < (nc : Int) := by omega
      have hii : i = nc := by omega
      subst hii
      go_wp2
      exact g14 _ _ _ _ _ _ _ _ _ _ _ _ _ _ _ _ _ _ _ _ _ _ _ _ _ _ _ _ _ _ _ _ _ _ _ _ _ _ _ _ _ _ _ _ _ _ _ _ _ _ _ _ _ _ _ _ _ _ _ _ _ _ _ _ _ _ _ _ _ _ _ _ _ _ _ _ _ _ _ _ _ _ _ _ _ _ _ _ _ _ _ _ _ _ _ _ _ _ _ _ _ _ _ _ _ _ _ _ _ _ _ _ _ _ _ _ _ _ _ _ _ _ _ _ _ _ _ _ _ _ _ _ _ _ _ _ _ _ _ _ _ _ _ _ _ _ _ _ _ _ _ _ _ _ _ _ _ _ _ _ _ _ _ _ _ _ _ _ _ _ _ _ _ _ _ _ _ _ _ _ _ _ _ _ _ _ _ _ _ _ _ _ _ _ _ _ _ _ _ _ _ _ _ _ _ _ _ _ _ _ _ _ _ _ _ _ _ _ _ _ _ _ _ _ _ _ _ _ _ _ _ _ _ _ _ _ _ _ _ _ _ _ _ _ _ _ _ _ _ _ _ _ _ _ _ _ _ _ _ _ _ _ _ _ _ _ _ _ _ _ _ _ _ _ _ _ _ _ _ _ _ _ _ _ _ _ _ _ _ _ _ _ _ _ _ _ _ _ _ _ _ _ _ _ _ _ _ _ _ _ _ _ _ _ _ _ _ _ _ _ _ _ _ _ _ _ _ _ _ _ _ _ _ _ _ _ _ _ _ _ _ _ _ _ _ _ _ _ _ _ _ _ _ _ _ _ _ _ _ _ _ _ _ _ _ _ _ _ _ _ _ _ _ _ _ _ _ _ _ _ _ _ _ _ _ _ _ _ _ _ _ _ _ _ _ _ _ _ _ _ _ _ _ _ _ _ _ _ _ _ _ _ _ _ _ _ _ _ _ _ _ _ _ _ _ _ _ _ _ _ _ _ _ _ _ _ _ _ _ _ _ _ _ _ _ _ _ _ _ _ _ _ _ _ _ _ _ _ _ _ _ _ _ _ _ _ _ _ _ _ _ _ _ _ _ _ _ _ _ _ _ _ _ _ _ _ _ { D with nc := i, C := C } H gt ct tcs1 rv pv fv cv _ _ R _ rfl HSY.out (fun w' hb => HFIN.out w' (HB.out.trans hb))

end Go.Proofs.Ybulkbtow
