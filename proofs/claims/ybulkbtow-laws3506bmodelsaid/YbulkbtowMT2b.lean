/-
  BModel: the contacts are laid: laws
-/
import Derived.Test.YbulkbtowMMid
import Derived.Deep.RegionLaw
import Derived.Deep.RegionHeld3
namespace Go.Proofs.Ybulkbtow
open Go.RowKit
set_option linter.unusedVariables false

theorem R58.congr {H N bs : Nat} {rv rv' : Nat → Value} {rl rl' : Nat → List Value} {w : World} (h : R58 H N bs rv rl w) (h1 : ∀ r, r < N → rv r = rv' r) (h2 : ∀ r, r < N → rl r = rl' r) : R58 H N bs rv' rl' w :=
  ⟨fun r hr => by rw [← h1 r hr, ← h2 r hr]; exact h.row r hr, fun r r' hr hr' hne g hg => by rw [← h1 r hr] at hg; rw [← h1 r' hr']; exact h.dis r r' hr hr' hne g hg, fun r hr => by rw [← h1 r hr]; exact h.off r hr⟩

theorem Mid.congr {D : Dat} {H gt : Nat} {tcs : List Value} {rv : Nat → Value} {rl rl' : Nat → List Value} {bv bv' ov ov' : Nat → Value} {fv : Value} {fls fls' : List Value} {w : World} (h : Mid D H gt tcs rv rl bv ov fv fls w) (h1 : ∀ r, r < 2 * D.nb + 1 → rl r = rl' r) (h2 : ∀ k, k < D.nb → bv k = bv' k) (h3 : ∀ k, k < D.nb → ov k = ov' k) (h4 : fls = fls') : Mid D H gt tcs rv rl' bv' ov' fv fls' w :=
  ⟨h.tb, h.tt, h.tc, fun k hk => by rw [← h2 k hk]; exact h.bk k hk, h.bi, h.og.congr (fun k hk => h3 k hk), h.sp, h.zs, h.r.congr (fun _ _ => rfl) h1, by rw [← h4]; exact h.rf, h.con, h.ba, h.bn, h.hw, h.hbt, h.hB, h.hbo⟩

theorem xs_next (D : Dat) (p k : Nat) : Dat.xs { D with m := D.m + 1, P := upv D.P D.m p } k = if D.kb D.m = k then D.xs k ++ [ptr p] else D.xs k := by
  have e : ∀ l : List Nat, (∀ i ∈ l, i < D.m) → l.map (fun i => ptr (upv D.P D.m p i)) = l.map (fun i => ptr (D.P i)) := fun l hl => List.map_congr_left (fun i hi => by rw [upv_other _ _ (by have := hl i hi; omega)])
  show (lst D.kb k (D.m + 1)).map (fun i => ptr (upv D.P D.m p i)) = _
  rw [lst_succ]
  by_cases h : D.kb D.m = k
  · rw [if_pos h, if_pos h, List.map_append, e _ (fun i hi => (lst_mem hi).1)]
    simp [upv_same, Dat.xs]
  · rw [if_neg h, if_neg h, e _ (fun i hi => (lst_mem hi).1)]
    rfl

theorem Mids.next {D : Dat} {H gt p k : Nat} {tcs : List Value} {rv : Nat → Value} {fv v1 v2 v3 : Value} {w : World}
    (h : Mid { D with m := D.m + 1, P := upv D.P D.m p } H gt tcs (upv (upv (upv rv k v1) (D.nb + k) v2) (2 * D.nb) v3) (upv (upv (upv (rows D) k (rows D k ++ [ptr p])) (D.nb + k) (rows D (D.nb + k) ++ [ptr p])) (2 * D.nb) (rows D (2 * D.nb) ++ [ptr p])) (upv rv k v1) (upv (fun k => rv (D.nb + k)) k v2) fv ((List.range D.m).map (fun i => Value.int .i64 (D.fl i)) ++ [.int .i64 (D.fl D.m)]) w)
    (hk : k < D.nb) (hkb : D.kb D.m = k) : Mids { D with m := D.m + 1, P := upv D.P D.m p } H gt tcs (upv (upv (upv rv k v1) (D.nb + k) v2) (2 * D.nb) v3) fv w := by
  refine h.congr (fun r hr => ?_) (fun k' hk' => ?_) (fun k' hk' => ?_) ?_
  · have hr' : r < 2 * D.nb + 1 := hr
    have e2 : rows D (2 * D.nb) = (List.range D.m).map (fun i => ptr (D.P i)) := by unfold rows; rw [if_neg (by omega), if_neg (by omega)]
    have e1 : rows D (D.nb + k) = D.xs k := by unfold rows; rw [if_neg (by omega), if_pos (by omega), Nat.add_sub_cancel_left]
    have e0 : rows D k = D.xs k := by unfold rows; rw [if_pos hk]
    show _ = (if r < D.nb then Dat.xs { D with m := D.m + 1, P := upv D.P D.m p } r else if r < 2 * D.nb then Dat.xs { D with m := D.m + 1, P := upv D.P D.m p } (r - D.nb) else (List.range (D.m + 1)).map (fun i => ptr (upv D.P D.m p i)))
    by_cases c2 : r = 2 * D.nb
    · subst c2
      rw [upv_same, if_neg (by omega), if_neg (by omega), e2, List.range_succ, List.map_append]
      congr 1
      · exact List.map_congr_left (fun i hi => by rw [upv_other _ _ (by rw [List.mem_range] at hi; omega)])
      · simp [upv_same]
    · rw [upv_other _ _ c2]
      by_cases c1 : r = D.nb + k
      · subst c1
        rw [upv_same, if_neg (by omega), if_pos (by omega), Nat.add_sub_cancel_left, xs_next, if_pos hkb, e1]
      · rw [upv_other _ _ c1]
        by_cases c0 : r = k
        · subst c0
          rw [upv_same, if_pos hk, xs_next, if_pos hkb, e0]
        · rw [upv_other _ _ c0]
          unfold rows
          by_cases cA : r < D.nb
          · rw [if_pos cA, if_pos cA, xs_next, if_neg (by omega)]
          · rw [if_neg cA, if_neg cA, if_pos (by omega), if_pos (by omega), xs_next, if_neg (by omega)]
  · have hk'' : k' < D.nb := hk'
    show upv rv k v1 k' = upv (upv (upv rv k v1) (D.nb + k) v2) (2 * D.nb) v3 k'
    rw [upv_other (upv (upv rv k v1) (D.nb + k) v2) v3 (by omega), upv_other (upv rv k v1) v2 (by omega)]
  · have hk'' : k' < D.nb := hk'
    show upv (fun k => rv (D.nb + k)) k v2 k' = upv (upv (upv rv k v1) (D.nb + k) v2) (2 * D.nb) v3 (D.nb + k')
    rw [upv_other (upv (upv rv k v1) (D.nb + k) v2) v3 (by omega)]
    by_cases e : k' = k
    · subst e; rw [upv_same, upv_same]
    · rw [upv_other _ _ e, upv_other (upv rv k v1) v2 (by omega), upv_other _ _ (by omega)]
  · show _ = (List.range (D.m + 1)).map (fun i => Value.int .i64 (D.fl i))
    rw [List.range_succ, List.map_append]
    rfl

theorem step_app1s (w : World) {ops : Array Oper} {o : Oper} {a : Act} {K : Act → World → Prop} {Q : Exit → Act → World → Prop} {E : Prop} (hgd : o.guard = none) (s x : Operand) (t : TypeId)
    (ho : o.op = .call { callee := .builtin .append, args := #[s, x], argTypes := #[t, t] })
    (H : Nat) (e : TypeId) (z : Value) (bytes : Nat) (hinfo : (Yba.prog.info? e).map (fun i => (i.zero, i.size, i.bytes)) = some (some z, 1, bytes)) (hz : z.cells.size = 1) (hbs : bytes ≤ 24) (ht : Yba.prog.underlying t = some (.slice e))
    (v : Value) (xs : List Value) (hs : a.eval s = v) (hown : Lst w H e v xs) (hlen : xs.length ≤ 100000)
    (ad : Nat) (c : Nat) (y : Value) (hx : a.eval x = .slice (some ⟨ad, 0, none⟩) 1 c) (hy : w.cell? ⟨ad, 0, none⟩ = some y) (h1 : y.oneCell' = true) (hH : H ≤ w.heap.size)
    (h : ∀ qa qn qc w', Lst w' H e (.slice qa qn qc) (xs ++ [y]) → w.grownBy w' v.ownBlock → ((Value.slice qa qn qc).ownBlock = v.ownBlock ∨ (Value.slice qa qn qc).ownBlock = some w.heap.size) → K (a.put o.dst (.slice qa qn qc)) w') :
    if Region.wanted o (yielded ops a.tmps) = true then Oper.wp Yba.prog o a w K Q else E := by
  refine step_app1 w hgd s x t ho H e z bytes hinfo hz hbs ht v xs hs hown hlen ad c y hx hy h1 hH ?_
  intro v' w' q1 q2 q3
  obtain ⟨qa, qc, rfl⟩ := q1.shape
  exact h qa _ qc w' q1 q2 q3

theorem con_set {w : World} {c : Nat} {x y f : Int} (h : Blk w c 66 (conCells x y 0 f)) (q : Int) : Blk ((((w.setCell ⟨c, 20, none⟩ (.int .u64 0)).setCell ⟨c, 21, none⟩ (.int .u64 0)).setCell ⟨c, 22, none⟩ (.pointer none)).setCell ⟨c, 23, none⟩ (.int .u16 q)) c 66 (conCells x y q f) := (((h.set 20 _).set 21 _).set 22 _).set 23 _

/-- The loop's relation. -/
def C2 (D : Dat) (H gt : Nat) (tcs : List Value) (M : Nat) (w0 : World) (t1 t2 t3 : Value) (w : World) : Prop :=
  ∃ (i : Nat) (rv : Nat → Value) (P : Nat → Nat), i ≤ M ∧ t1 = rv (2 * D.nb) ∧ t3 = .int .i64 (i : Int) ∧ Below H w0 w ∧ Mids { D with m := i, P := P } H gt tcs rv t2 w ∧ (∀ a b, a < i → b < i → P a = P b → a = b) ∧ (∀ a k, a < i → k < D.nb → D.hs k = true → P a ≠ D.Z k) ∧ (∀ a, a < i → H ≤ P a)

/-- A row of contacts that came in: three cells each. -/
def InRow3 (w : World) (H : Nat) (a : Option Addr) (n : Nat) (f g h : Nat → Value) : Prop := n = 0 ∨ ∃ x, a = some x ∧ x.block < H ∧ ∀ i, i < n → w.cell? (x.add (i * 3)) = some (f i) ∧ w.cell? ⟨(x.add (i * 3)).block, (x.add (i * 3)).off + 1, none⟩ = some (g i) ∧ w.cell? ⟨(x.add (i * 3)).block, (x.add (i * 3)).off + 2, none⟩ = some (h i)

theorem InRow3.below {w w' : World} {H : Nat} {a : Option Addr} {n : Nat} {f g h : Nat → Value} (hr : InRow3 w H a n f g h) (hb : Below H w w') : InRow3 w' H a n f g h := by
  rcases hr with hr | ⟨x, rfl, hx, hc⟩
  · exact .inl hr
  · refine .inr ⟨x, rfl, hx, fun i hi => ?_⟩
    have hx' : (x.add (i * 3)).block < H := by rw [add_block]; exact hx
    obtain ⟨q1, q2, q3⟩ := hc i hi
    exact ⟨(hb.cell hx').trans q1, (hb.cell (p := ⟨(x.add (i * 3)).block, (x.add (i * 3)).off + 1, none⟩) hx').trans q2, (hb.cell (p := ⟨(x.add (i * 3)).block, (x.add (i * 3)).off + 2, none⟩) hx').trans q3⟩

def seqHead : Code → Option Code
  | .seq x _ => some x
  | _ => none
def inBlk : Code → Option Code
  | .block _ b => some b
  | _ => none
def inLoop : Code → Option Code
  | .loop b => some b
  | _ => none
/-- A round of the loop over the contacts, from its k-th piece on. -/
def r2tail (k : Nat) (c : Code) : Option Code := (((((((mtail 11 c).bind seqHead).bind (seqTail 1)).bind inBlk).bind inLoop).bind (seqTail 2)).bind seqHead).bind (fun c => (inBlk c).bind (seqTail k))

set_option maxRecDepth 100000 in
set_option maxHeartbeats 8000000 in
theorem m2b (u0 u1 u2 u3 u4 u5 u6 u7 u8 u9 u10 u11 u12 u13 u14 u21 u22 u23 u26 u27 u30 u31 u32 u33 u34 u35 u36 u37 u38 u39 u40 u41 u42 u43 u44 u45 u46 u47 u48 u49 u50 u51 u52 u53 u54 u55 u56 u57 u58 u59 u60 u61 u62 u63 u64 u65 u66 u67 u68 u69 u70 u71 u72 u73 u74 u75 u76 u77 u78 u79 u80 u81 u82 u83 u84 u85 u86 u87 u88 u89 u90 u91 u92 u93 u94 u95 u96 u97 u98 u99 u100 u101 u102 u103 u104 u105 u106 u107 u108 u109 u110 u111 u112 u113 u114 u115 u116 u117 u118 u119 u120 u121 u122 u123 u124 u125 u126 u127 u128 u129 u130 u131 u132 u133 u134 u135 u136 u137 u138 u139 u140 u141 u142 u143 u144 u145 u146 u147 u148 u149 u150 u151 u152 u153 u154 u155 u156 u157 u158 u159 u160 u161 u162 u163 u164 u165 u166 u167 u168 u169 u170 u171 u172 u173 u174 u175 u176 u177 u178 u179 u180 u181 u182 u183 u184 u185 u186 u187 u188 u189 u190 u191 u192 u193 u194 u195 u196 u197 u198 u199 u200 u201 u202 u203 u204 u205 u206 u207 u208 u209 u210 u211 u212 u213 u214 u215 u216 u217 u218 u219 u220 u221 u222 u223 u224 u225 u226 u227 u228 u229 u230 u231 u232 u233 u234 u235 u236 u237 u238 u239 u240 u241 u242 u243 u244 u245 u246 u247 u248 u249 u250 u251 u252 u253 u254 u255 u256 u257 u258 u259 u260 u261 u262 u263 u264 u265 u266 u267 u268 u269 u270 u271 u272 u273 u274 u275 u276 u277 u278 u279 u280 u281 u282 u283 u284 u285 u286 u287 u288 u289 u290 u291 u292 u293 u294 u295 u296 u297 u298 u299 u300 u301 u302 u303 u304 u305 u306 u307 u308 u309 u310 u311 u312 u313 u314 u315 u316 u317 u318 u319 u320 u321 u322 u323 u324 u325 u326 u327 u328 u329 u330 u331 u332 u333 u334 u335 u336 u337 u338 u339 u340 u341 u342 u343 u344 u345 u346 u347 u348 u349 u350 u351 u352 u353 u354 u355 u356 u357 u358 u359 u360 u361 u362 u363 u364 u365 u366 u367 u368 u369 u370 u371 u372 u373 u374 u375 u376 u377 u378 u379 u380 u381 u382 u383 u384 u385 u386 u387 u388 u389 u390 u391 u392 u393 u394 u395 u396 u397 u398 u399 u400 u401 u402 u403 u404 u405 u406 u407 u408 u409 u410 u411 u412 u413 u414 u415 u416 u417 u418 u419 u420 u421 u422 u423 u424 u425 u426 u427 u428 u429 u430 u431 u432 u433 u434 u435 u436 u437 u438 u439 u440 u441 u442 u443 u444 u445 u446 u447 u448 u449 u450 u451 u452 u453 u454 u455 u456 u457 u458 u459 u460 u461 u462 u463 u464 u465 u466 u467 u468 u469 u470 u471 u472 u473 u474 u475 u476 u477 u478 u479 u480 u481 u482 u483 u484 u485 u486 u487 u488 u489 u490 u491 u492 u493 u494 u495 : Value) (D : Dat) (H gt : Nat) (tcs : List Value) (rv : Nat → Value) (pv fv v1 : Value) (k p : Nat) (W : World) (Q : Exit → Act → World → Prop) (code : Code) (hcode : (Yba.f3.body).bind (r2tail 7) = some code)
    (h : Mid { D with m := D.m + 1, P := upv D.P D.m p } H gt tcs (upv rv k v1) (upv (rows D) k (rows D k ++ [ptr p])) (upv rv k v1) (fun k => rv (D.nb + k)) fv ((List.range D.m).map (fun i => Value.int .i64 (D.fl i))) W)
    (hpv : pv = rv (2 * D.nb)) (hkn : k < D.nb) (hkb : D.kb D.m = k) (hnb : D.nb ≤ 4) (hm : D.m < 1024) (hPH : H ≤ p)
    (hQ : ∀ (v24 v25 v218 v219 v220 v221 v222 v223 v224 v225 v226 v227 v228 v229 v230 v231 v232 v233 v234 v235 v236 v237 v238 : Value) (w' : World) (rv' : Nat → Value), Below H W w' → v24 = rv' (2 * D.nb) → Mids { D with m := D.m + 1, P := upv D.P D.m p } H gt tcs rv' v25 w' → Q .normal ⟨#[u0, u1, u2, u3, u4, u5, u6, u7, u8, u9, u10, u11, u12, u13, u14, .int .i64 (D.nb : Int), ptr D.bn, ptr D.ba, ptr D.bt, .slice (some ⟨D.bo, 0, none⟩) D.nb D.nb, .slice (some ⟨D.bs, 0, none⟩) D.nb D.nb, u21, u22, u23, v24, v25, u26, u27, .int .i64 (k : Int), ptr p, u30, u31, u32, u33, u34, u35, u36, u37, u38, u39, u40, u41, u42, u43, u44, u45, u46, u47, u48, u49, u50, u51, u52, u53, u54, u55, u56, u57, u58, u59, u60, u61, u62, u63, u64, u65, u66, u67, u68, u69, u70, u71, u72, u73, u74, u75, u76, u77, u78, u79, u80, u81, u82, u83, u84, u85, u86, u87, u88, u89, u90, u91, u92, u93, u94, u95, u96, u97, u98, u99, u100, u101, u102, u103, u104, u105, u106, u107, u108, u109, u110, u111, u112, u113, u114, u115, u116, u117, u118, u119, u120, u121, u122, u123, u124, u125, u126, u127, u128, u129, u130, u131, u132, u133, u134, u135, u136, u137, u138, u139, u140, u141, u142, u143, u144, u145, u146, u147, u148, u149, u150, u151, u152, u153, u154, u155, u156, u157, u158, u159, u160, u161, u162, u163, u164, u165, u166, u167, u168, u169, u170, u171, u172, u173, u174, u175, u176, u177, u178, u179, u180, u181, u182, u183, u184, u185, u186, u187, u188, u189, u190, u191, u192, u193, u194, u195, u196, u197, u198, u199, u200, u201, u202, u203, u204, u205, u206, u207, u208, u209, u210, u211, u212, u213, u214, u215, u216, u217, v218, v219, v220, v221, v222, v223, v224, v225, v226, v227, v228, v229, v230, v231, v232, v233, v234, v235, v236, v237, v238, u239, u240, u241, u242, u243, u244, u245, u246, u247, u248, u249, u250, u251, u252, u253, u254, u255, u256, u257, u258, u259, u260, u261, u262, u263, u264, u265, u266, u267, u268, u269, u270, u271, u272, u273, u274, u275, u276, u277, u278, u279, u280, u281, u282, u283, u284, u285, u286, u287, u288, u289, u290, u291, u292, u293, u294, u295, u296, u297, u298, u299, u300, u301, u302, u303, u304, u305, u306, u307, u308, u309, u310, u311, u312, u313, u314, u315, u316, u317, u318, u319, u320, u321, u322, u323, u324, u325, u326, u327, u328, u329, u330, u331, u332, u333, u334, u335, u336, u337, u338, u339, u340, u341, u342, u343, u344, u345, u346, u347, u348, u349, u350, u351, u352, u353, u354, u355, u356, u357, u358, u359, u360, u361, u362, u363, u364, u365, u366, u367, u368, u369, u370, u371, u372, u373, u374, u375, u376, u377, u378, u379, u380, u381, u382, u383, u384, u385, u386, u387, u388, u389, u390, u391, u392, u393, u394, u395, u396, u397, u398, u399, u400, u401, u402, u403, u404, u405, u406, u407, u408, u409, u410, u411, u412, u413, u414, u415, u416, u417, u418, u419, u420, u421, u422, u423, u424, u425, u426, u427, u428, u429, u430, u431, u432, u433, u434, u435, u436, u437, u438, u439, u440, u441, u442, u443, u444, u445, u446, u447, u448, u449, u450, u451, u452, u453, u454, u455, u456, u457, u458, u459, u460, u461, u462, u463, u464, u465, u466, u467, u468, u469, u470, u471, u472, u473, u474, u475, u476, u477, u478, u479, u480, u481, u482, u483, u484, u485, u486, u487, u488, u489, u490, u491, u492, u493, u494, u495], []⟩ w') :
    code.wp Yba.prog Q ⟨#[u0, u1, u2, u3, u4, u5, u6, u7, u8, u9, u10, u11, u12, u13, u14, .int .i64 (D.nb : Int), ptr D.bn, ptr D.ba, ptr D.bt, .slice (some ⟨D.bo, 0, none⟩) D.nb D.nb, .slice (some ⟨D.bs, 0, none⟩) D.nb D.nb, u21, u22, u23, pv, fv, u26, u27, .int .i64 (k : Int), ptr p, u30, u31, u32, u33, u34, u35, u36, u37, u38, u39, u40, u41, u42, u43, u44, u45, u46, u47, u48, u49, u50, u51, u52, u53, u54, u55, u56, u57, u58, u59, u60, u61, u62, u63, u64, u65, u66, u67, u68, u69, u70, u71, u72, u73, u74, u75, u76, u77, u78, u79, u80, u81, u82, u83, u84, u85, u86, u87, u88, u89, u90, u91, u92, u93, u94, u95, u96, u97, u98, u99, u100, u101, u102, u103, u104, u105, u106, u107, u108, u109, u110, u111, u112, u113, u114, u115, u116, u117, u118, u119, u120, u121, u122, u123, u124, u125, u126, u127, u128, u129, u130, u131, u132, u133, u134, u135, u136, u137, u138, u139, u140, u141, u142, u143, u144, u145, u146, u147, u148, u149, u150, u151, u152, u153, u154, u155, u156, u157, u158, u159, u160, u161, u162, u163, u164, u165, u166, u167, u168, u169, u170, u171, u172, u173, u174, u175, u176, u177, u178, u179, u180, u181, u182, u183, u184, u185, u186, u187, u188, u189, u190, u191, u192, u193, u194, u195, u196, u197, u198, u199, u200, u201, u202, u203, u204, u205, u206, u207, u208, u209, u210, u211, u212, u213, u214, u215, u216, u217, u218, u219, u220, u221, u222, u223, u224, u225, u226, u227, u228, u229, u230, u231, u232, u233, u234, u235, u236, u237, u238, u239, u240, u241, u242, u243, u244, u245, u246, u247, u248, u249, u250, u251, u252, u253, u254, u255, u256, u257, u258, u259, u260, u261, u262, u263, u264, u265, u266, u267, u268, u269, u270, u271, u272, u273, u274, u275, u276, u277, u278, u279, u280, u281, u282, u283, u284, u285, u286, u287, u288, u289, u290, u291, u292, u293, u294, u295, u296, u297, u298, u299, u300, u301, u302, u303, u304, u305, u306, u307, u308, u309, u310, u311, u312, u313, u314, u315, u316, u317, u318, u319, u320, u321, u322, u323, u324, u325, u326, u327, u328, u329, u330, u331, u332, u333, u334, u335, u336, u337, u338, u339, u340, u341, u342, u343, u344, u345, u346, u347, u348, u349, u350, u351, u352, u353, u354, u355, u356, u357, u358, u359, u360, u361, u362, u363, u364, u365, u366, u367, u368, u369, u370, u371, u372, u373, u374, u375, u376, u377, u378, u379, u380, u381, u382, u383, u384, u385, u386, u387, u388, u389, u390, u391, u392, u393, u394, u395, u396, u397, u398, u399, u400, u401, u402, u403, u404, u405, u406, u407, u408, u409, u410, u411, u412, u413, u414, u415, u416, u417, u418, u419, u420, u421, u422, u423, u424, u425, u426, u427, u428, u429, u430, u431, u432, u433, u434, u435, u436, u437, u438, u439, u440, u441, u442, u443, u444, u445, u446, u447, u448, u449, u450, u451, u452, u453, u454, u455, u456, u457, u458, u459, u460, u461, u462, u463, u464, u465, u466, u467, u468, u469, u470, u471, u472, u473, u474, u475, u476, u477, u478, u479, u480, u481, u482, u483, u484, u485, u486, u487, u488, u489, u490, u491, u492, u493, u494, u495], []⟩ W := by
  obtain rfl : code = _ := Option.some.inj (hcode.symm.trans (show (Yba.f3.body).bind (r2tail 7) = some _ from rfl))
  clear hcode
  subst hpv
  have M9 := hide h
  have HQ := hide hQ
  clear h hQ
  have hknI : (k : Int) < (D.nb : Int) := by omega
  have hx1 : (rows D (D.nb + k)).length ≤ 100000 := by
    unfold rows
    rw [if_neg (by omega), if_pos (by omega), Dat.xs_len]
    exact Nat.le_trans (Dat.len_le _ _) (by omega)
  have hx2 : (rows D (2 * D.nb)).length ≤ 100000 := by
    unfold rows
    rw [if_neg (by omega), if_neg (by omega)]
    simp
    omega
  have M10 := hide (Mid.kept0 M9.out ((Kept.refl [] W).alloc (.cells #[ptr p] 58)))
  have o9 := M9.out.og.at hkn
  dsimp only at o9
  have hrl2 : upv (rows D) k (rows D k ++ [ptr p]) (D.nb + k) = rows D (D.nb + k) := upv_other _ _ (by omega)
  have hrv2 : upv rv k v1 (D.nb + k) = rv (D.nb + k) := upv_other _ _ (by omega)
  have HROW2 := hide (show Lst (W.alloc (.cells #[ptr p] 58)) H 58 (rv (D.nb + k)) (rows D (D.nb + k)) from by rw [← hrl2, ← hrv2]; exact M10.out.r.row (D.nb + k) (show D.nb + k < 2 * D.nb + 1 by omega))
  have hH9 : H ≤ W.heap.size := M9.out.hw
  dsimp only
  refine wp_seq_rest fun K11 hK11' => ?_
  go_wp2_with (at_builtin; refine wpList_app1 _ rfl (.tmp 223) (.tmp 225) 56 rfl H 58 (.pointer none) 8 info58 rfl (by decide) Yba.underlying56 _ _ rfl HROW2.out hx1 W.heap.size 1 (ptr p) rfl (by simp) rfl (by simp; omega) ?_)
  intro v2 w11 hlB hgB hbB
  obtain ⟨qa2, qn2, qc2, rfl⟩ : ∃ qa qn qc, v2 = .slice qa qn qc := by obtain ⟨a, c, e⟩ := hlB.shape; exact ⟨a, _, c, e⟩
  have M11 := hide (Mid.grow M10.out (r := D.nb + k) (show D.nb + k < 2 * D.nb + 1 by omega) hlB (by rw [hrv2]; exact hgB) (by rw [hrv2]; simpa using hbB))
  have B11 := hide (((Below.refl H W).alloc hH9 (.cells #[ptr p] 58)).trans ((grown_to hgB).toBelow (by simp; omega) (fun g hg => by rw [Option.mem_toList] at hg; obtain ⟨_, _, hh⟩ := HROW2.out.type hg; exact hh)))
  have o11 := M11.out.og.at hkn
  dsimp only at o11
  have oz11 := M11.out.og.free k
  clear hlB hgB hbB o9
  have M12 := hide (Mid.setO M11.out k (.slice qa2 qn2 qc2))
  have B12 := hide (B11.out.setCell (p := ⟨D.bo, k, none⟩) M11.out.hbo (.slice qa2 qn2 qc2))
  go_wp2
  clear o11 oz11 M11 M10 HROW2 hH9 B11
  generalize w11.setCell ⟨D.bo, k, none⟩ (.slice qa2 qn2 qc2) = w12 at *
  generalize Value.slice qa2 qn2 qc2 = v2 at *
  -- the pointers
  have M13 := hide (Mid.kept0 M12.out ((Kept.refl [] w12).alloc (.cells #[ptr p] 58)))
  have hrl3 : upv (upv (rows D) k (rows D k ++ [ptr p])) (D.nb + k) (rows D (D.nb + k) ++ [ptr p]) (2 * D.nb) = rows D (2 * D.nb) := by rw [upv_other _ _ (by omega), upv_other _ _ (by omega)]
  have hrv3 : upv (upv rv k v1) (D.nb + k) v2 (2 * D.nb) = rv (2 * D.nb) := by rw [upv_other _ _ (by omega), upv_other _ _ (by omega)]
  have HROW3 := hide (show Lst (w12.alloc (.cells #[ptr p] 58)) H 58 (rv (2 * D.nb)) (rows D (2 * D.nb)) from by rw [← hrl3, ← hrv3]; exact M13.out.r.row (2 * D.nb) (show 2 * D.nb < 2 * D.nb + 1 by omega))
  have hH12 : H ≤ w12.heap.size := M12.out.hw
  refine wp_seq_rest fun K12 hK12' => ?_
  go_wp2_with (at_builtin; refine wpList_app1 _ rfl (.tmp 228) (.tmp 230) 56 rfl H 58 (.pointer none) 8 info58 rfl (by decide) Yba.underlying56 _ _ rfl HROW3.out hx2 w12.heap.size 1 (ptr p) rfl (by simp) rfl (by simp; omega) ?_)
  intro v3 w14 hlB hgB hbB
  have M14 := hide (Mid.grow M13.out (r := 2 * D.nb) (show 2 * D.nb < 2 * D.nb + 1 by omega) hlB (by rw [hrv3]; exact hgB) (by rw [hrv3]; simpa using hbB))
  have B14 := hide ((B12.out.alloc hH12 (.cells #[ptr p] 58)).trans ((grown_to hgB).toBelow (by simp; omega) (fun g hg => by rw [Option.mem_toList] at hg; obtain ⟨_, _, hh⟩ := HROW3.out.type hg; exact hh)))
  clear hlB hgB hbB M13 HROW3 B12
  go_wp2
  -- the fails
  have hcon := M14.out.con D.m (show D.m < D.m + 1 by omega)
  have hP : (upv D.P D.m p) D.m = p := upv_same _ _ _
  have f30 : w14.cell? ⟨p, 30, none⟩ = some (.int .i64 (D.fl D.m)) := by
    have := hcon.at 30
    rw [show ({ D with m := D.m + 1, P := upv D.P D.m p } : Dat).P D.m = p from hP] at this
    exact this
  have M15 := hide (Mid.kept0 M14.out ((Kept.refl [] w14).alloc (.cells #[.int .i64 (D.fl D.m)] 3)))
  have HROWF := hide (M15.out.rf)
  have hx3 : ((List.range D.m).map (fun i => Value.int .i64 (D.fl i))).length ≤ 100000 := by simp; omega
  have hH14 : H ≤ w14.heap.size := M14.out.hw
  clear hcon hP
  dsimp only [Rest]
  go_wp2_with (at_builtin; refine wpList_app1 _ rfl (.tmp 232) (.tmp 237) 48 rfl H 3 (.int .i64 0) 8 info3 rfl (by decide) Yba.underlying48 _ _ rfl HROWF.out hx3 w14.heap.size 1 (.int .i64 (D.fl D.m)) rfl (by simp) rfl (by simp; omega) ?_)
  intro v4 w16 hlB hgB hbB
  have M16 := hide (Mids.next (Mid.growF M15.out hlB hgB) hkn hkb)
  have B16 := hide ((B14.out.alloc hH14 (.cells #[.int .i64 (D.fl D.m)] 3)).trans ((grown_to hgB).toBelow (by simp; omega) (fun g hg => by rw [Option.mem_toList] at hg; obtain ⟨_, _, hh⟩ := HROWF.out.type hg; exact hh)))
  clear hlB hgB hbB M15 HROWF B14 f30
  go_wp2
  exact HQ.out _ _ _ _ _ _ _ _ _ _ _ _ _ _ _ _ _ _ _ _ _ _ _ _ _ B16.out (by rw [upv_same]) M16.out

end Go.Proofs.Ybulkbtow
