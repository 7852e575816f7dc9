/-
  The law's walk: the row that is wanted is gathered.
-/
import Derived.Test.YbulkbtlqLawB
import Derived.OwnWalk
namespace Go.Proofs.Ybulkbtlq
open Go.RowKit
set_option linter.unusedVariables false

theorem make32z (n : Nat) (hn : n ≤ 1000000) (w : World) : (Instr.makeSlice 29 (.int .i64 0) (.int .i64 (n : Int))).run Yba.prog w =
    .ok (.slice (some ⟨w.heap.size, 0, none⟩) 0 n) (w.alloc (.cells (madeCells #[.int .i32 0] n) 21)) := by
  obtain ⟨i, hi, hz0, hz1, hz2⟩ := info_parts Yba.info21
  have h := run_make (P := Yba.prog) w 29 21 i (.int .i32 0) Yba.underlying29 hi hz0 .i64 .i64 0 (n : Int) (by omega) (by omega) (by rw [hz2]; omega) (by omega)
  rw [hz1] at h
  simpa [Value.cells] using h

theorem set_take_drop (l : List Value) (n : Nat) (v : Value) (h : n < l.length) : l.take n ++ [v] ++ l.drop (n + 1) = l.set n v := by
  apply List.ext_getElem?
  intro k
  rw [List.getElem?_set, List.append_assoc]
  by_cases h1 : k < n
  · rw [List.getElem?_append_left (by simp; omega), List.getElem?_take, if_pos h1, if_neg (by omega)]
  · rw [List.getElem?_append_right (by simp; omega)]
    have e : (l.take n).length = n := by simp; omega
    rw [e]
    by_cases h2 : n = k
    · subst h2
      simp [h]
    · rw [if_neg h2]
      obtain ⟨q, rfl⟩ : ∃ q, k = n + 1 + q := ⟨k - (n + 1), by omega⟩
      have e2 : n + 1 + q - n = q + 1 := by omega
      rw [e2]
      simp

/-- 'append(want, v)' where there is room: one cell turned. -/
theorem run_append1 (w : World) (g n cap : Nat) (f : Nat → Int) (ad : Addr) (v : Int) (ty : TypeId) (hF : Fn w g cap f) (hn : n < cap) (hc : w.cell? ad = some (.int .i32 v)) :
    ∃ w', (Builtin.append_ #[29, 29] ty #[.slice (some ⟨g, 0, none⟩) n cap, .slice (some ad) 1 1]).run Yba.prog w = .ok (.slice (some ⟨g, 0, none⟩) (n + 1) cap) w' ∧ Fn w' g cap (upd f n v) ∧ Kept [g] w w' := by
  obtain ⟨i, hi, hz0, hz1, hz2⟩ := info_parts Yba.info21
  have hb : w.heap[g]? = some (.cells ((List.range cap).map fun i => Value.int .i32 (f i)).toArray 21 (0, 0)) := hF
  have hr := run_append_room (P := Yba.prog) w 29 ty 21 i Yba.underlying29 hi g n cap _ hb ad 1 1 [.int .i32 v] (by rw [hz1]; rfl)
    (fun j u hj => by
      match j, hj with
      | 0, hj =>
        simp at hj
        subst hj
        have e : ad.add 0 = ad := by cases ad with | mk b o s => cases s <;> simp [Addr.add]
        rw [e]
        exact hc)
    (fun u hu => by simp at hu; subst hu; rfl) (by omega) (by rw [hz1]; simp; omega)
  refine ⟨_, hr, ?_, ⟨rfl, rfl, rfl, by simp, fun k hk hs => setRow_other w g k _ (by simpa using hs)⟩⟩
  unfold Fn Blk
  rw [setRow_heap w g _ _ _ _ hb, hz1]
  congr 2
  congr 1
  have h1 := set_take_drop ((List.range cap).map fun i => Value.int .i32 (f i)) n (.int .i32 v) (by simpa using hn)
  simp only [Nat.mul_one, List.length_singleton]
  rw [h1]
  apply List.ext_getElem?
  intro k
  rw [List.getElem?_set]
  by_cases hk : k < cap
  · by_cases e : n = k
    · subst e; simp [hk, upd]
    · have e' : ¬ k = n := fun h => e h.symm
      simp [hk, upd, e, e']
  · by_cases e : n = k
    · subst e; omega
    · have h1 : cap ≤ k := by omega
      simp [h1, e]

theorem wpList_append1 (w : World) {ops : Array Oper} {rest : List Oper} {oo : Oper} {a : Act} {Q : Exit → Act → World → Prop} (hgd : oo.guard = none) (s x : Operand)
    (ho : oo.op = .call { callee := .builtin .append, args := #[s, x], argTypes := #[29, 29] })
    (g n cap : Nat) (f : Nat → Int) (ad : Addr) (v : Int) (hs : a.eval s = .slice (some ⟨g, 0, none⟩) n cap) (hx : a.eval x = .slice (some ad) 1 1) (hF : Fn w g cap f) (hn : n < cap) (hc : w.cell? ad = some (.int .i32 v))
    (h : ∀ w', Fn w' g cap (upd f n v) → Kept [g] w w' → wpList Yba.prog ops Q rest (a.put oo.dst (.slice (some ⟨g, 0, none⟩) (n + 1) cap)) w') : wpList Yba.prog ops Q (oo :: rest) a w := by
  refine wpList_plain hgd fun K hK => ?_
  obtain ⟨w', hr, h2, h3⟩ := run_append1 w g n cap f ad v oo.type hF hn hc
  unfold Oper.wp execOp
  simp only [ho, resolve, invoke, builtin, Sem.run_bind, Sem.run_pure, Result.andThen_ok, List.map_toArray, List.map_cons, List.map_nil, hs, hx, hr]
  exact hK _ _ (h w' h2 h3)

theorem gd_gd (K : Nat → Bool) (I : Nat → Nat) (i : Nat) : gd (gd K I i) (fun _ => 0) 0 = gd K I i := by
  funext k
  simp [gd]

/-- What the gathered row is. -/
theorem want_eq {D : Ins} {count n i s d T : Nat} {f f3 : Nat → Int} (hi : i < n) (hs : start D.K D.I count i = s) (hd : cnt (gd D.K D.I i) count = d) (hG : Grouped D.κ D.K D.I count n n f3) (hf : Filled (gd D.K D.I i) (fun _ => 0) count 1 count f) :
    (∀ p, p < d → ∃ k, k < count ∧ f p = (k : Int)) ∧ (∀ k l, k < l → l < d → f k < f l) ∧ ∀ f', Srt D.κ f' 0 d → Same f f' 0 d → ∀ j, j < d → f3 (s + j) = f' j := by
  have h1 := hf.val 0 (by omega)
  have h2 := hf.asc 0 (by omega)
  have h3 := hf.all 0 (by omega)
  have e0 : start (gd D.K D.I i) (fun _ => 0) count 0 = 0 := rfl
  rw [e0, gd_gd, hd] at h1 h2 h3
  simp only [Nat.zero_add] at h1 h2 h3
  have es : start D.K D.I count (i + 1) = s + d := by rw [← hs, ← hd]; rfl
  refine ⟨fun p hp => ?_, fun k l h h' => h2 k l (by omega) h h', ?_⟩
  · obtain ⟨k, k1, k2, k3⟩ := h1 p (by omega) hp
    exact ⟨k, k1, k3⟩
  · intro f' hS hM j hj
    have g1 := hG.srt i hi hi
    have g2 := hG.val i hi
    have g3 := hG.all i hi
    rw [hs, es] at g1 g2 g3
    have hu := srt_unique (f := f3) (f' := f') (a := s) (a' := 0) (n := d) g1 (by rw [Nat.zero_add]; exact hS) ?_ ?_ j hj
    · rw [Nat.zero_add] at hu
      exact hu
    · intro x hx
      obtain ⟨k, k1, k2, k3⟩ := g2 (s + x) (by omega) (by omega)
      obtain ⟨p, p1, p2, p3⟩ := h3 k k1 k2
      obtain ⟨q, q1, q2, q3⟩ := hM.2.1 p (by omega) p2
      exact ⟨q, q2, by rw [k3, Nat.zero_add, q3, p3]⟩
    · intro x hx
      obtain ⟨p, p1, p2, p3⟩ := hM.1 x (by omega) hx
      obtain ⟨k, k1, k2, k3⟩ := h1 p (by omega) p2
      obtain ⟨q, q1, q2, q3⟩ := g3 k k1 k2
      refine ⟨q - s, by omega, ?_⟩
      rw [Nat.zero_add, p3, k3, ← q3]
      congr 1
      omega

set_option maxRecDepth 100000 in
set_option maxHeartbeats 4000000 in
theorem lawA (u0 u1 u2 u3 u7 u8 u18 u19 u20 u21 u22 u23 u24 u25 u26 u27 u28 u29 u30 u31 u32 u33 u34 u35 u36 u37 u38 u39 u40 u41 u42 u43 u44 u45 u46 u47 u48 u49 u50 u51 u52 u53 u54 u55 u56 u57 u58 u59 u60 u61 u62 u63 u64 u65 u66 u67 u68 u69 u70 u71 u72 u73 u74 u75 u76 u77 u78 u79 u80 u81 u82 u83 u84 u85 u86 u87 u88 u89 u90 u91 u92 u93 u94 u95 u96 u97 u98 u99 u100 u101 u102 u103 u104 u105 u106 u107 u108 u109 u110 u111 u112 u113 u114 u115 u116 u117 u118 u119 u120 u121 u122 u123 u124 u125 u126 u127 u128 u129 u130 u131 u132 u133 u134 u135 u136 u137 u138 u139 u140 u141 u142 : Value) (D : Ins) (B count bG i go o d cg s T : Nat) (f3 : Nat → Int) (W : World) (Q : Exit → Act → World → Prop) (code : Code) (hcode : (Yba.f3.body).bind (roundTail 2) = some code)
    (hE : Env D B W) (hin : i < D.n) (hc0 : count = D.len0) (hF3 : Fn W go T f3) (ho : 0 < d → o = s) (hsd : s + d ≤ T) (hc5 : count ≤ 512) (hs : start D.K D.I count i = s) (hd : cnt (gd D.K D.I i) count = d) (hG : Grouped D.κ D.K D.I count D.n D.n f3)
    (hQ : ∀ (v8 v17 v18 v19 v20 v21 v22 v23 v43 v44 v45 v46 v47 v48 v49 v50 v51 v52 v53 v54 v55 v56 v57 v58 v59 v60 v61 v62 v63 v64 v65 v66 v67 v68 v69 v70 v71 v72 v73 v74 v75 v76 v77 v78 v79 v80 v81 v82 v83 v84 v85 v86 v87 v88 v89 v90 v91 v92 v93 v94 v95 v96 v97 v98 v99 v100 v101 v102 v103 v104 v105 v106 v107 v108 v109 v110 v111 v112 v113 v114 v115 v116 v117 v118 v119 v120 v121 v122 v123 v124 v125 v126 v127 v128 v129 v130 v131 v132 v133 v134 v135 v136 v137 v138 v139 v140 v141 v142 : Value) (w' : World), Below W.heap.size W w' → Q .normal ⟨#[u0, u1, u2, u3, .pointer (some D.pinv), .pointer (some D.pkeep), .pointer (some D.pkey), u7, v8, .pointer (some D.pn), .int .i64 (count : Int), .func (.func 7) #[] #[], .func (.func 8) #[] #[.pointer (some D.pkeep)], .func (.func 9) #[] #[.pointer (some D.pinv), .pointer (some D.pn)], .func (.func 10) #[] #[.pointer (some D.pkey)], .pointer (some ⟨bG, 0, none⟩), .int .i64 (i : Int), v17, v18, v19, v20, v21, v22, v23, u24, u25, u26, u27, u28, u29, u30, u31, u32, u33, u34, u35, u36, u37, u38, u39, u40, u41, u42, v43, v44, v45, v46, v47, v48, v49, v50, v51, v52, v53, v54, v55, v56, v57, v58, v59, v60, v61, v62, v63, v64, v65, v66, v67, v68, v69, v70, v71, v72, v73, v74, v75, v76, v77, v78, v79, v80, v81, v82, v83, v84, v85, v86, v87, v88, v89, v90, v91, v92, v93, v94, v95, v96, v97, v98, v99, v100, v101, v102, v103, v104, v105, v106, v107, v108, v109, v110, v111, v112, v113, v114, v115, v116, v117, v118, v119, v120, v121, v122, v123, v124, v125, v126, v127, v128, v129, v130, v131, v132, v133, v134, v135, v136, v137, v138, v139, v140, v141, v142], []⟩ w') :
    code.wp Yba.prog Q ⟨#[u0, u1, u2, u3, .pointer (some D.pinv), .pointer (some D.pkeep), .pointer (some D.pkey), u7, u8, .pointer (some D.pn), .int .i64 (count : Int), .func (.func 7) #[] #[], .func (.func 8) #[] #[.pointer (some D.pkeep)], .func (.func 9) #[] #[.pointer (some D.pinv), .pointer (some D.pn)], .func (.func 10) #[] #[.pointer (some D.pkey)], .pointer (some ⟨bG, 0, none⟩), .int .i64 (i : Int), .slice (some ⟨go, o, none⟩) d cg, u18, u19, u20, u21, u22, u23, u24, u25, u26, u27, u28, u29, u30, u31, u32, u33, u34, u35, u36, u37, u38, u39, u40, u41, u42, u43, u44, u45, u46, u47, u48, u49, u50, u51, u52, u53, u54, u55, u56, u57, u58, u59, u60, u61, u62, u63, u64, u65, u66, u67, u68, u69, u70, u71, u72, u73, u74, u75, u76, u77, u78, u79, u80, u81, u82, u83, u84, u85, u86, u87, u88, u89, u90, u91, u92, u93, u94, u95, u96, u97, u98, u99, u100, u101, u102, u103, u104, u105, u106, u107, u108, u109, u110, u111, u112, u113, u114, u115, u116, u117, u118, u119, u120, u121, u122, u123, u124, u125, u126, u127, u128, u129, u130, u131, u132, u133, u134, u135, u136, u137, u138, u139, u140, u141, u142], []⟩ W := by
  obtain rfl : code = _ := Option.some.inj (hcode.symm.trans (show (Yba.f3.body).bind (roundTail 2) = some _ from rfl))
  clear hcode
  have hmk := make32z count (by omega)
  have hFo := Fn.made W count
  have hb1 : Below W.heap.size W (W.alloc (.cells (madeCells #[.int .i32 0] count) 21)) := (Below.refl _ _).alloc (Nat.le_refl _) _
  have hB0 := hE.bd
  have hgg : go ≠ W.heap.size := by have := hF3.lt; omega
  have HF3 := hide (show Fn (W.alloc (.cells (madeCells #[.int .i32 0] count) 21)) go T f3 from Blk.below hF3 hb1 hF3.lt)
  have HE := hide (hE.below (hb1.mono hE.bd))
  have HB1 := hide hb1
  have HFO := hide hFo
  have HO := hide ho
  have HS := hide hs
  have HD := hide hd
  have HG := hide hG
  have HQ := hide hQ
  have HC0 := hide hc0
  have hsz : W.heap.size ≤ (W.alloc (.cells (madeCells #[.int .i32 0] count) 21)).heap.size := hb1.size
  clear hE hF3 ho hs hd hG hQ hc0 hFo hb1
  dsimp only
  refine wp_seq_rest fun K hK => ?_
  go_wp2
  clear hmk
  generalize W.alloc (.cells (madeCells #[.int .i32 0] count) 21) = W2 at *
  generalize hgw : W.heap.size = gw at *
  refine wp_seq_rest fun K hK => ?_
  go_wp2
  go_loopw [18, 19] (fun t1 t2 wr => ∃ (m : Nat) (f : Nat → Int), m ≤ count ∧ t1 = .slice (some ⟨gw, 0, none⟩) (cnt (gd D.K D.I i) m) count ∧ t2 = .int .i64 (m : Int) ∧ Fn wr gw count f ∧ Kept [gw] W2 wr ∧ Filled (gd D.K D.I i) (fun _ => 0) count 1 m f) (fun t1 t2 _ => count - (intOf t2).toNat)
  case atStart => exact ⟨0, _, Nat.zero_le _, rfl, rfl, HFO.out, Kept.refl _ _, Filled.zero _ _⟩
  case round =>
    obtain ⟨m, f, hmc, rfl, rfl, hFm, hKm, hfl⟩ := hrel
    have HFm := hide hFm
    have HKm := hide hKm
    have Hfl := hide hfl
    clear hFm hKm hfl
    by_cases hlt : m < count
    · have hltI : (m : Int) < (count : Int) := by omega
      have hEm := HE.out.below (HKm.out.toBelow HE.out.bd (by simp; exact hB0))
      have HKP := hide (hEm.keep m)
      have HR := hide (hEm.inv m (by rw [← HC0.out]; exact hlt))
      clear hEm
      obtain ⟨c, hc⟩ : ∃ c, cnt (gd D.K D.I i) m = c := ⟨_, rfl⟩
      have hcm : c ≤ m := by rw [← hc]; exact cnt_le _ _
      have HC := hide hc
      rw [hc]
      clear hc
      cases hkm : D.K m with
      | false =>
        rw [hkm] at HKP
        go_wp2_with fail
        refine HKP.out.mono ?_
        rintro x w4 ⟨rfl, rfl⟩
        clear HKP HR
        go_wp2
        go_roundw
        case rel => exact ⟨m + 1, f, by omega, by rw [cnt_skip hkm, HC.out], by go_num, HFm.out, HKm.out, Hfl.out.skip (by simp [gd, hkm])⟩
        case measure => simp [intOf]; omega
      | true =>
        rw [hkm] at HKP
        by_cases hI : D.I m = i
        · rw [hI] at HR
          go_wp2_with fail
          refine HKP.out.mono ?_
          rintro x w4 ⟨rfl, rfl⟩
          go_wp2_with fail
          refine HR.out.mono ?_
          rintro x w5 ⟨rfl, dm, rfl⟩
          have HF5 := hide (HFm.out.drewN dm)
          have HK5 := hide (HKm.out.drewN dm)
          clear HFm HKm HKP HR
          dsimp only
          generalize w4.drewN dm = w5 at *
          have wm : IntKind.i32.wrap (m : Int) = (m : Int) := by rw [IntKind.wrap_i32]; omega
          have HNX : Hid (∀ w6, Fn w6 gw count (upd f c (m : Int)) → Kept [gw] W2 w6 → ∃ (m' : Nat) (f' : Nat → Int), m' ≤ count ∧ Value.slice (some ⟨gw, 0, none⟩) (c + 1) count = .slice (some ⟨gw, 0, none⟩) (cnt (gd D.K D.I i) m') count ∧ Value.int .i64 ((m : Int) + 1) = .int .i64 (m' : Int) ∧ Fn w6 gw count f' ∧ Kept [gw] W2 w6 ∧ Filled (gd D.K D.I i) (fun _ => 0) count 1 m' f') := by
            intro w6 h1 h2
            refine ⟨m + 1, _, by omega, by rw [cnt_put hkm hI, HC.out], by go_num, h1, h2, ?_⟩
            have := Hfl.out.put (by omega) (gd_iff.2 ⟨hkm, hI⟩) (by omega)
            have e0 : start (gd D.K D.I i) (fun _ => 0) count 0 = 0 := rfl
            rw [e0, gd_gd, HC.out, Nat.zero_add] at this
            exact this
          have hcc : c < count := by omega
          have HFA := hide (HF5.out.kept ((Kept.refl [] w5).alloc (.cells #[.int .i32 (m : Int)] 21)) (by simp))
          clear Hfl
          go_wp2_with (at_builtin; refine wpList_append1 _ rfl (.tmp 72) (.tmp 75) rfl gw c count f ⟨w5.heap.size, 0, none⟩ (m : Int) rfl rfl ?c1 hcc ?c2 ?_)
          case c1 => exact HFA.out
          case c2 => simp
          intro w6 h6 hk6
          have HR6 := hide (HNX.out w6 h6 ((HK5.out.alloc _).trans hk6))
          clear h6 hk6 HNX HFA HF5 HK5
          go_wp2
          go_roundw
          case rel => exact HR6.out
          case measure => simp [intOf]; omega
        · have hII : ¬ ((D.I m : Nat) : Int) = (i : Int) := by omega
          go_wp2_with fail
          refine HKP.out.mono ?_
          rintro x w4 ⟨rfl, rfl⟩
          go_wp2_with fail
          refine HR.out.mono ?_
          rintro x w5 ⟨rfl, dm, rfl⟩
          have HF5 := hide (HFm.out.drewN dm)
          have HK5 := hide (HKm.out.drewN dm)
          clear HFm HKm HKP HR
          dsimp only
          generalize w4.drewN dm = w5 at *
          go_wp2
          go_roundw
          case rel => exact ⟨m + 1, f, by omega, by rw [cnt_off hI, HC.out], by go_num, HF5.out, HK5.out, Hfl.out.skip (by
            cases h : gd D.K D.I i m with
            | false => rfl
            | true => exact absurd (gd_iff.1 h).2 hI)⟩
          case measure => simp [intOf]; omega
    · have hmm : m = count := by omega
      subst hmm
      have hltI : ¬ (m : Int) < (m : Int) := by omega
      have hEm := HE.out.below (HKm.out.toBelow HE.out.bd (by simp; exact hB0))
      have HEM := hide hEm
      clear hEm
      obtain ⟨q1, q2, q3⟩ := want_eq (D := D) (T := T) hin HS.out HD.out HG.out Hfl.out
      have HV := hide (show Small f 0 d from fun p _ hp => by obtain ⟨k, k1, k2⟩ := q1 p hp; rw [k2]; omega)
      have HQ2 := hide q2
      have HQ3 := hide q3
      have hdc : d ≤ m := by rw [← HD.out]; exact cnt_le _ _
      have HF3' := hide (HF3.out.kept HKm.out (by simp; exact hgg))
      rw [HD.out]
      clear q1 q2 q3
      have hc5' := hc5
      have hsd' := hsd
      have hB0' := hB0
      have hgg' := hgg
      go_wp2
      refine lawB _ _ _ _ _ _ _ _ _ _ _ _ _ _ _ _ _ _ _ _ _ _ _ _ _ _ _ _ _ _ _ _ _ _ _ _ _ _ _ _ _ _ _ _ _ _ _ _ _ _ _ _ _ _ _ _ _ _ _ _ _ _ _ _ _ _ _ _ _ _ _ _ _ _ _ _ _ _ _ _ _ _ _ _ _ _ _ _ _ _ _ _ _ _ _ _ _ _ _ _ _ _ _ _ _ _ _ _ _ _ _ _ _ _ _ _ _ _ _ _ _ _ _ _ _ _ _ _ _ _ D B gw m bG i go gw o d cg s T f f3 _ _ _ rfl HEM.out hB0' hgg' HFm.out HF3'.out HO.out hsd' hdc hc5' (Nat.le_trans hsz HKm.out.size) (Nat.le_refl _) HV.out HQ2.out HQ3.out ?_
      intro v8 v17 v18 v19 v20 v21 v22 v23 v43 v44 v45 v46 v47 v48 v49 v50 v51 v52 v53 v54 v55 v56 v57 v58 v59 v60 v61 v62 v63 v64 v65 v66 v67 v68 v69 v70 v71 v72 v73 v74 v75 v76 v77 v78 v79 v80 v81 v82 v83 v84 v85 v86 v87 v88 v89 v90 v91 v92 v93 v94 v95 v96 v97 v98 v99 v100 v101 v102 v103 v104 v105 v106 v107 v108 v109 v110 v111 v112 v113 v114 v115 v116 v117 v118 v119 v120 v121 v122 v123 v124 v125 v126 v127 v128 v129 v130 v131 v132 v133 v134 v135 v136 v137 v138 v139 v140 v141 v142 w2 hb2
      exact HQ.out v8 v17 v18 v19 v20 v21 v22 v23 v43 v44 v45 v46 v47 v48 v49 v50 v51 v52 v53 v54 v55 v56 v57 v58 v59 v60 v61 v62 v63 v64 v65 v66 v67 v68 v69 v70 v71 v72 v73 v74 v75 v76 v77 v78 v79 v80 v81 v82 v83 v84 v85 v86 v87 v88 v89 v90 v91 v92 v93 v94 v95 v96 v97 v98 v99 v100 v101 v102 v103 v104 v105 v106 v107 v108 v109 v110 v111 v112 v113 v114 v115 v116 v117 v118 v119 v120 v121 v122 v123 v124 v125 v126 v127 v128 v129 v130 v131 v132 v133 v134 v135 v136 v137 v138 v139 v140 v141 v142 w2 ((HB1.out.trans (HKm.out.toBelow hsz (by simp))).trans hb2)

end Go.Proofs.Ybulkbtlq
