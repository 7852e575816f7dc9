/-
  THE STATEMENT's PROOF: the frame in the kit's own way at this function's number and types, the walk taken in.
-/
import Derived.Test.YbulkbtowRows
import Derived.Test.YbulkbtowMOpen
import Derived.Test.YbulkbtowMT0
import Derived.Test.YbulkbtowMT0g
import Derived.Test.YbulkbtowMTS
import Derived.WalkKit
import Derived.ProofKit
import Derived.OpenShut
import Derived.ShutString
import Derived.ChangeOld
import Derived.Below
namespace Go.Proofs.Ybulkbtow.lawS3506BModel
open Go.ChangeShapes Go.WideShapes Go.ChangeAt Go.RowKit
set_option linter.unusedVariables false

theorem own : ownKnob Yba.prog.godebug = none := by kernel_rfl
theorem laidOut : laidOutB Yba.prog = true := by kernel_rfl

theorem walk (a0 a1 a2 : Option Addr) (M cap0 ns cap1 nc cap2 : Nat) (bkr pt fl : Nat → Int) (hs : Nat → Bool) (spt cd : Nat → Int) (nbr pick tgt now : Int) (w : World)
    (h0 : M = 0 ∨ ∃ x, a0 = some x ∧ x.block < w.heap.size ∧ ∀ i, i < M → w.cell? (x.add (i * 3)) = some (.int .u8 (bkr i)) ∧ w.cell? ⟨(x.add (i * 3)).block, (x.add (i * 3)).off + 1, none⟩ = some (.int .u16 (pt i)) ∧ w.cell? ⟨(x.add (i * 3)).block, (x.add (i * 3)).off + 2, none⟩ = some (.int .i8 (fl i)))
    (h0' : ∀ i, i < M → (Lit.int .u8 (bkr i)).wf = true ∧ (Lit.int .i8 (fl i)).wf = true)
    (h1 : ns = 0 ∨ ∃ x, a1 = some x ∧ x.block < w.heap.size ∧ ∀ i, i < ns → w.cell? (x.add (i * 2)) = some (.bool (hs i)) ∧ w.cell? ⟨(x.add (i * 2)).block, (x.add (i * 2)).off + 1, none⟩ = some (.int .u16 (spt i)))
    (h2 : nc = 0 ∨ ∃ x, a2 = some x ∧ x.block < w.heap.size ∧ ∀ i, i < nc → w.cell? (x.add i) = some (.int .u16 (cd i)))
    (hn : (Lit.int .u8 nbr).wf = true) (hp : (Lit.int .u16 pick).wf = true) (ht : (Lit.int .i64 now).wf = true) :
    Calls Yba.prog 3 #[.slice a0 M cap0, .slice a1 ns cap1, .slice a2 nc cap2, .int .u8 nbr, .int .u16 pick, .int .u16 tgt, .int .i64 now] w fun e w' => e = .returned (.bool true) ∧ Below w.heap.size w w' := by
  by_cases hg : 1024 < M ∨ 1024 < ns ∨ 1024 < nc
  · exact m0g a0 a1 a2 M cap0 ns cap1 nc cap2 nbr pick tgt now w hg
  have hM : M ≤ 1024 := by omega
  have hns : ns ≤ 1024 := by omega
  have hnc : nc ≤ 1024 := by omega
  have hn := bounds_u8 hn
  have hp := bounds_u16 hp
  have ht := bounds_i64 ht
  obtain ⟨nb, hnb⟩ : ∃ nb : Nat, (nb : Int) = 1 + nbr % 4 := ⟨(1 + nbr % 4).toNat, Int.toNat_of_nonneg (by omega)⟩
  refine m0 a0 a1 a2 M cap0 ns cap1 nc cap2 nb pt nbr pick tgt now w _ hM hns hnc (by omega) hnb (by omega) (by omega) ?_ ?_
  · rcases h0 with h | ⟨x, h1, h2, h3⟩
    · exact .inl h
    · exact .inr ⟨x, h1, h2, fun i hi => (h3 i hi).2.1⟩
  intro u3 u4 u6 u7 u8 u9 u10 u11 u12 u13 u14 u17 u18 u19 u20 u21 u22 u23 u24 u25 u26 u27 u28 u29 u30 u31 u32 u33 u34 u35 u36 u37 u38 u39 u40 u41 u42 u43 u44 u45 u46 u47 u48 u49 u50 u51 u52 u53 u54 u55 u56 u57 u58 u59 u60 u61 u62 u63 u64 u65 u66 u67 u68 u69 u70 u71 u72 u73 u74 u75 u76 u77 u78 u79 u80 u81 u82 u83 u84 u85 u86 u87 u88 u89 u90 u91 u92 u93 u94 u95 u96 u97 u98 u99 u100 u101 u102 u103 u104 u105 u106 u107 u108 u109 u110 u111 u112 u113 u114 u115 u116 u117 u118 u119 u120 u121 u122 u123 u124 u125 u126 u127 u128 u129 u130 u131 u132 u133 u134 u135 u136 u137 u138 u139 u140 u141 u142 u143 u144 u145 u146 u147 u148 u149 u150 u151 u152 u153 u154 u155 u156 u157 u158 u159 u160 u161 u162 u163 u164 u165 u166 u167 u168 u169 u170 u171 u172 u173 u174 u175 u176 u177 u178 u179 u180 u181 u182 u183 u184 u185 u186 u187 u188 u189 u190 u191 u192 u193 u194 u195 u196 u197 u198 u199 u200 u201 u202 u203 u204 u205 u206 u207 u208 u209 u210 u211 u212 u213 u214 u215 u216 u217 u218 u219 u220 u221 u222 u223 u224 u225 u226 u227 u228 u229 u230 u231 u232 u233 u234 u235 u236 u237 u238 u239 u240 u241 u242 u243 u244 u245 u246 u247 u248 u249 u250 u251 u252 u253 u254 u255 u256 u257 u258 u259 u260 u261 u262 u263 u264 u265 u266 u267 u268 u269 u270 u271 u272 u273 u274 u275 u276 u277 u278 u279 u280 u281 u282 u283 u284 u285 u286 u287 u288 u289 u290 u291 u292 u293 u294 u295 u296 u297 u298 u299 u300 u301 u302 u303 u304 u305 u306 u307 u308 u309 u310 u311 u312 u313 u314 u315 u316 u317 u318 u319 u320 u321 u322 u323 u324 u325 u326 u327 u328 u329 u330 u331 u332 u333 u334 u335 u336 u337 u338 u339 u340 u341 u342 u343 u344 u345 u346 u347 u348 u349 u350 u351 u352 u353 u354 u355 u356 u357 u358 u359 u360 u361 u362 u363 u364 u365 u366 u367 u368 u369 u370 u371 u372 u373 u374 u375 u376 u377 u378 u379 u380 u381 u382 u383 u384 u385 u386 u387 u388 u389 u390 u391 u392 u393 u394 u395 u396 u397 u398 u399 u400 u401 u402 u403 u404 u405 u406 u407 u408 u409 u410 u411 u412 u413 u414 u415 u416 u417 u418 u419 u420 u421 u422 u423 u424 u425 u426 u427 u428 u429 u430 u431 u432 u433 u434 u435 u436 u437 u438 u439 u440 u441 u442 u443 u444 u445 u446 u447 u448 u449 u450 u451 u452 u453 u454 u455 u456 u457 u458 u459 u460 u461 u462 u463 u464 u465 u466 u467 u468 u469 u470 u471 u472 u473 u474 u475 u476 u477 u478 u479 u480 u481 u482 u483 u484 u485 u486 u487 u488 u489 u490 u491 u492 u493 u494 u495 tg na nx bn W code hcode hbn hbel
  have hin3 : InRow3 w w.heap.size a0 M (fun i => .int .u8 (bkr i)) (fun i => .int .u16 (pt i)) (fun i => .int .i8 (fl i)) := h0
  have hin2 : InRow2 w w.heap.size a1 ns (fun i => .bool (if i < ns then hs i else false)) (fun i => .int .u16 (spt i)) := by
    rcases h1 with h | ⟨x, h1, h2, h3⟩
    · exact .inl h
    · refine .inr ⟨x, h1, h2, fun i hi => ?_⟩
      dsimp only
      rw [if_pos hi]
      exact h3 i hi
  have hin : InRow w w.heap.size a2 nc (fun i => .int .u16 (cd i)) := h2
  refine mS u3 u4 u6 u7 u8 u9 u10 u11 u12 u13 u14 u17 u18 u19 u20 u21 u22 u23 u24 u25 u26 u27 u28 u29 u30 u31 u32 u33 u34 u35 u36 u37 u38 u39 u40 u41 u42 u43 u44 u45 u46 u47 u48 u49 u50 u51 u52 u53 u54 u55 u56 u57 u58 u59 u60 u61 u62 u63 u64 u65 u66 u67 u68 u69 u70 u71 u72 u73 u74 u75 u76 u77 u78 u79 u80 u81 u82 u83 u84 u85 u86 u87 u88 u89 u90 u91 u92 u93 u94 u95 u96 u97 u98 u99 u100 u101 u102 u103 u104 u105 u106 u107 u108 u109 u110 u111 u112 u113 u114 u115 u116 u117 u118 u119 u120 u121 u122 u123 u124 u125 u126 u127 u128 u129 u130 u131 u132 u133 u134 u135 u136 u137 u138 u139 u140 u141 u142 u143 u144 u145 u146 u147 u148 u149 u150 u151 u152 u153 u154 u155 u156 u157 u158 u159 u160 u161 u162 u163 u164 u165 u166 u167 u168 u169 u170 u171 u172 u173 u174 u175 u176 u177 u178 u179 u180 u181 u182 u183 u184 u185 u186 u187 u188 u189 u190 u191 u192 u193 u194 u195 u196 u197 u198 u199 u200 u201 u202 u203 u204 u205 u206 u207 u208 u209 u210 u211 u212 u213 u214 u215 u216 u217 u218 u219 u220 u221 u222 u223 u224 u225 u226 u227 u228 u229 u230 u231 u232 u233 u234 u235 u236 u237 u238 u239 u240 u241 u242 u243 u244 u245 u246 u247 u248 u249 u250 u251 u252 u253 u254 u255 u256 u257 u258 u259 u260 u261 u262 u263 u264 u265 u266 u267 u268 u269 u270 u271 u272 u273 u274 u275 u276 u277 u278 u279 u280 u281 u282 u283 u284 u285 u286 u287 u288 u289 u290 u291 u292 u293 u294 u295 u296 u297 u298 u299 u300 u301 u302 u303 u304 u305 u306 u307 u308 u309 u310 u311 u312 u313 u314 u315 u316 u317 u318 u319 u320 u321 u322 u323 u324 u325 u326 u327 u328 u329 u330 u331 u332 u333 u334 u335 u336 u337 u338 u339 u340 u341 u342 u343 u344 u345 u346 u347 u348 u349 u350 u351 u352 u353 u354 u355 u356 u357 u358 u359 u360 u361 u362 u363 u364 u365 u366 u367 u368 u369 u370 u371 u372 u373 u374 u375 u376 u377 u378 u379 u380 u381 u382 u383 u384 u385 u386 u387 u388 u389 u390 u391 u392 u393 u394 u395 u396 u397 u398 u399 u400 u401 u402 u403 u404 u405 u406 u407 u408 u409 u410 u411 u412 u413 u414 u415 u416 u417 u418 u419 u420 u421 u422 u423 u424 u425 u426 u427 u428 u429 u430 u431 u432 u433 u434 u435 u436 u437 u438 u439 u440 u441 u442 u443 u444 u445 u446 u447 u448 u449 u450 u451 u452 u453 u454 u455 u456 u457 u458 u459 u460 u461 u462 u463 u464 u465 u466 u467 u468 u469 u470 u471 u472 u473 u474 u475 u476 u477 u478 u479 u480 u481 u482 u483 u484 u485 u486 u487 u488 u489 u490 u491 u492 u493 u494 u495 nb (fun i => (bkr i % (nb : Int)).toNat) pt fl (fun i => if i < ns then hs i else false) spt cd bkr tg na nx bn w.heap.size a0 a1 a2 M cap0 ns cap1 nc cap2 W _ code hcode hbn hbel.size (by omega) (by omega) hM hns hnc (hin3.below hbel) (fun i hi => ?_) (fun i hi => ?_) (hin2.below hbel) (fun k hk => if_neg (by omega)) (hin.below hbel) (fun w' hb => ⟨rfl, hbel.trans hb⟩)
  · have := bounds_u8 (h0' i hi).1
    exact ⟨by omega, by omega, Int.toNat_of_nonneg (Int.emod_nonneg _ (by omega))⟩
  · have := bounds_i8 (h0' i hi).2
    omega

set_option maxRecDepth 100000 in
theorem lifted (os : Os) (started : os.Started) (H : Type) (enc : TypeId × Value → H) :
    ReturnsInHanded {} Yba.checked os 3 .any (Rows.lawS3506BModelSpec.pre6 enc Yba.prog Yba.f3 Rows.lawS3506BModelRow.domain false) (Rows.lawS3506BModelSpec.post enc Yba.prog Yba.f3 false true false false) := by
  refine returnsInHanded_of_change (C := Yba.checked) own started (by kernel_rfl) Yba.func3
    (ChangeSpec.witness6 (enc := enc) (C := Yba.checked) false ⟨#[], #[.slice none 0 0, .slice none 0 0, .slice none 0 0, .int .u8 0, .int .u16 0, .int .u16 0, .int .i64 0], []⟩ 8 (by kernel_rfl) (by kernel_rfl) (by kernel_rfl) (by kernel_rfl)) ?_
  intro W base args ds gs before hval0 hW hcnd _
  have hval : ∀ (j : Nat) t v, Yba.f3.params[j]? = some t → args[j]? = some v → Value.okWide Yba.prog W .any base t v := hval0
  have hW' := hW
  obtain ⟨p, q, hA0, hV, rfl, hfz, hnd⟩ := hW
  have hA : DataW.TrodAll enc Yba.prog W 0 (fun _ => true) true Yba.f3.params.toList args.toList ds p := hA0
  rw [Yba.params3] at hA hval
  obtain ⟨v0, vs0, d0, ds0, p0, q0, hargs, rfl, rfl, h0, r0⟩ := trodAll_cons hA
  obtain ⟨v1, vs1, d1, ds1, p1, q1, rfl, rfl, rfl, h1, r1⟩ := trodAll_cons r0
  obtain ⟨v2, vs2, d2, ds2, p2, q2, rfl, rfl, rfl, h2, r2⟩ := trodAll_cons r1
  obtain ⟨v3, vs3, d3, ds3, p3, q3, rfl, rfl, rfl, h3, r3⟩ := trodAll_cons r2
  obtain ⟨v4, vs4, d4, ds4, p4, q4, rfl, rfl, rfl, h4, r4⟩ := trodAll_cons r3
  obtain ⟨v5, vs5, d5, ds5, p5, q5, rfl, rfl, rfl, h5, r5⟩ := trodAll_cons r4
  obtain ⟨v6, vs6, d6, ds6, p6, q6, rfl, rfl, rfl, h6, r6⟩ := trodAll_cons r5
  obtain ⟨rfl, rfl, rfl⟩ := trodAll_nil r6
  obtain rfl : args = #[v0, v1, v2, v3, v4, v5, v6] := by cases args; simp_all
  obtain ⟨rfl, rfl⟩ := trodVars_none hV
  obtain ⟨a0, len0, cap0, rfl⟩ := okWide_slice Yba.underlying22 (hval 0 22 v0 rfl rfl)
  obtain ⟨a1, len1, cap1, rfl⟩ := okWide_slice Yba.underlying23 (hval 1 23 v1 rfl rfl)
  obtain ⟨a2, len2, cap2, rfl⟩ := okWide_slice Yba.underlying24 (hval 2 24 v2 rfl rfl)
  have k0 := h0
  have k1 := h1
  have k2 := h2
  have lt0 : ∀ x ∈ p0, x.block < W.heap.size := by obtain ⟨m, hm⟩ := k0; exact DataW.trod_lt m _ _ _ hm
  have lt1 : ∀ x ∈ p1, x.block < W.heap.size := by obtain ⟨m, hm⟩ := k1; exact DataW.trod_lt m _ _ _ hm
  have lt2 : ∀ x ∈ p2, x.block < W.heap.size := by obtain ⟨m, hm⟩ := k2; exact DataW.trod_lt m _ _ _ hm
  obtain ⟨bkr, pt, fl, w0, w0'⟩ : ∃ (f g k : Nat → Int), (len0 = 0 ∨ ∃ x, a0 = some x ∧ x.block < W.heap.size ∧ ∀ i, i < len0 → W.cell? (x.add (i * 3)) = some (.int .u8 (f i)) ∧ W.cell? ⟨(x.add (i * 3)).block, (x.add (i * 3)).off + 1, none⟩ = some (.int .u16 (g i)) ∧ W.cell? ⟨(x.add (i * 3)).block, (x.add (i * 3)).off + 2, none⟩ = some (.int .i8 (k i))) ∧
      ∀ i, i < len0 → (Lit.int .u8 (f i)).wf = true ∧ (Lit.int .i8 (k i)).wf = true := by
    obtain ⟨fuel, hf⟩ := h0
    exact open_contacts hf
  obtain ⟨hs, spt, w1⟩ : ∃ (f : Nat → Bool) (g : Nat → Int), (len1 = 0 ∨ ∃ x, a1 = some x ∧ x.block < W.heap.size ∧ ∀ i, i < len1 → W.cell? (x.add (i * 2)) = some (.bool (f i)) ∧ W.cell? ⟨(x.add (i * 2)).block, (x.add (i * 2)).off + 1, none⟩ = some (.int .u16 (g i))) := by
    obtain ⟨fuel, hf⟩ := h1
    exact open_spares hf
  obtain ⟨cd, w2⟩ : ∃ f : Nat → Int, (len2 = 0 ∨ ∃ x, a2 = some x ∧ x.block < W.heap.size ∧ ∀ i, i < len2 → W.cell? (x.add i) = some (.int .u16 (f i))) := by
    obtain ⟨fuel, hf⟩ := h2
    exact open_ports hf
  obtain ⟨nbr, rfl, rfl, rfl, w3⟩ := open_int Yba.underlying5 (hval 3 5 v3 rfl rfl) h3
  obtain ⟨pick, rfl, rfl, rfl, w4⟩ := open_int Yba.underlying25 (hval 4 25 v4 rfl rfl) h4
  obtain ⟨tgt, rfl, rfl, rfl, w5⟩ := open_int Yba.underlying25 (hval 5 25 v5 rfl rfl) h5
  obtain ⟨now, rfl, rfl, rfl, w6⟩ := open_int Yba.underlying2 (hval 6 2 v6 rfl rfl) h6
  clear hA0 hval0
  refine (walk a0 a1 a2 len0 cap0 len1 cap1 len2 cap2 bkr pt fl hs spt cd nbr pick tgt now W w0 w0' w1 w2 w3 w4 w6).mono fun e W' ⟨he, bel⟩ => ?_
  subst he
  exact ⟨_, rfl, _, _, _, [], _, [], hW', trodAll_mk1 (shut_bool Yba.underlying4 _), (trodAll_cons_mk (Below.trod laidOut (by kernel_rfl) (of_decide_eq_true (by kernel_rfl)) k0 bel lt0) (trodAll_cons_mk (Below.trod laidOut (by kernel_rfl) (of_decide_eq_true (by kernel_rfl)) k1 bel lt1) (trodAll_cons_mk (Below.trod laidOut (by kernel_rfl) (of_decide_eq_true (by kernel_rfl)) k2 bel lt2) (trodAll_cons_mk (shut_int Yba.underlying5 w3) (trodAll_cons_mk (shut_int Yba.underlying25 w4) (trodAll_cons_mk (shut_int Yba.underlying25 w5) (trodAll_cons_mk (shut_int Yba.underlying2 w6) trodAll_mk0))))))), rfl, bel.frame _, fun h => by cases h⟩

theorem over : Rows.lawS3506BModelRow.holds Yba.pinned (OpenSpec.ofChange Rows.lawS3506BModelSpec) :=
  OpenClaim.holds_of_wide 3 Yba.f3 rfl rfl rfl rfl rfl rfl rfl ⟨rfl, rfl, rfl, rfl, rfl⟩ rfl rfl rfl rfl rfl (by kernel_rfl) Yba.func3 (by kernel_rfl)
    (of_decide_eq_true (by kernel_rfl)) (by unfold Func.isWrapper; first | (rw [if_pos (by decide +kernel)]; kernel_rfl) | (rw [if_neg (by decide +kernel)]; exact ⟨rfl, rfl⟩))
    (fun os started H enc _ => lifted os started H enc)

/-- ████ THE STATEMENT ████ -/
theorem proved : Rows.LawS3506BModelSaid := over
#print axioms proved
end Go.Proofs.Ybulkbtow.lawS3506BModel
