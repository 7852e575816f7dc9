/-
  The law's walk: the row that is wanted is sorted by insertion.
-/
import Derived.Test.YbulkbtlqLawC
namespace Go.Proofs.Ybulkbtlq
open Go.RowKit
set_option linter.unusedVariables false

set_option maxRecDepth 100000 in
set_option maxHeartbeats 4000000 in
theorem lawB (u0 u1 u2 u3 u7 u8 u19 u20 u21 u22 u23 u24 u25 u26 u27 u28 u29 u30 u31 u32 u33 u34 u35 u36 u37 u38 u39 u40 u41 u42 u43 u44 u45 u46 u47 u48 u49 u50 u51 u52 u53 u54 u55 u56 u57 u58 u59 u60 u61 u62 u63 u64 u65 u66 u67 u68 u69 u70 u71 u72 u73 u74 u75 u76 u77 u78 u79 u80 u81 u82 u83 u84 u85 u86 u87 u88 u89 u90 u91 u92 u93 u94 u95 u96 u97 u98 u99 u100 u101 u102 u103 u104 u105 u106 u107 u108 u109 u110 u111 u112 u113 u114 u115 u116 u117 u118 u119 u120 u121 u122 u123 u124 u125 u126 u127 u128 u129 u130 u131 u132 u133 u134 u135 u136 u137 u138 u139 u140 u141 u142 : Value) (D : Ins) (B B0 count bG i go gw o d cg s T : Nat) (f f3 : Nat → Int) (W : World) (Q : Exit → Act → World → Prop) (code : Code) (hcode : (Yba.f3.body).bind (roundTail 4) = some code)
    (hE : Env D B W) (hBg : B ≤ gw) (hgg : go ≠ gw) (hF : Fn W gw count f) (hF3 : Fn W go T f3) (ho : 0 < d → o = s) (hsd : s + d ≤ T) (hdc : d ≤ count) (hc5 : count ≤ 512) (hB0 : B0 ≤ W.heap.size) (hB0g : B0 ≤ gw) (hv : Small f 0 d) (hasc : ∀ k l, k < l → l < d → f k < f l)
    (heq : ∀ f', Srt D.κ f' 0 d → Same f f' 0 d → ∀ j, j < d → f3 (s + j) = f' j)
    (hQ : ∀ (v8 v17 v18 v19 v20 v21 v22 v23 v43 v44 v45 v46 v47 v48 v49 v50 v51 v52 v53 v54 v55 v56 v57 v58 v59 v60 v61 v62 v63 v64 v65 v66 v67 v68 v69 v70 v71 v72 v73 v74 v75 v76 v77 v78 v79 v80 v81 v82 v83 v84 v85 v86 v87 v88 v89 v90 v91 v92 v93 v94 v95 v96 v97 v98 v99 v100 v101 v102 v103 v104 v105 v106 v107 v108 v109 v110 v111 v112 v113 v114 v115 v116 v117 v118 v119 v120 v121 v122 v123 v124 v125 v126 v127 v128 v129 v130 v131 v132 v133 v134 v135 v136 v137 v138 v139 v140 v141 v142 : Value) (w' : World), Below B0 W w' → Q .normal ⟨#[u0, u1, u2, u3, .pointer (some D.pinv), .pointer (some D.pkeep), .pointer (some D.pkey), u7, v8, .pointer (some D.pn), .int .i64 (count : Int), .func (.func 7) #[] #[], .func (.func 8) #[] #[.pointer (some D.pkeep)], .func (.func 9) #[] #[.pointer (some D.pinv), .pointer (some D.pn)], .func (.func 10) #[] #[.pointer (some D.pkey)], .pointer (some ⟨bG, 0, none⟩), .int .i64 (i : Int), v17, v18, v19, v20, v21, v22, v23, u24, u25, u26, u27, u28, u29, u30, u31, u32, u33, u34, u35, u36, u37, u38, u39, u40, u41, u42, v43, v44, v45, v46, v47, v48, v49, v50, v51, v52, v53, v54, v55, v56, v57, v58, v59, v60, v61, v62, v63, v64, v65, v66, v67, v68, v69, v70, v71, v72, v73, v74, v75, v76, v77, v78, v79, v80, v81, v82, v83, v84, v85, v86, v87, v88, v89, v90, v91, v92, v93, v94, v95, v96, v97, v98, v99, v100, v101, v102, v103, v104, v105, v106, v107, v108, v109, v110, v111, v112, v113, v114, v115, v116, v117, v118, v119, v120, v121, v122, v123, v124, v125, v126, v127, v128, v129, v130, v131, v132, v133, v134, v135, v136, v137, v138, v139, v140, v141, v142], []⟩ w') :
    code.wp Yba.prog Q ⟨#[u0, u1, u2, u3, .pointer (some D.pinv), .pointer (some D.pkeep), .pointer (some D.pkey), u7, u8, .pointer (some D.pn), .int .i64 (count : Int), .func (.func 7) #[] #[], .func (.func 8) #[] #[.pointer (some D.pkeep)], .func (.func 9) #[] #[.pointer (some D.pinv), .pointer (some D.pn)], .func (.func 10) #[] #[.pointer (some D.pkey)], .pointer (some ⟨bG, 0, none⟩), .int .i64 (i : Int), .slice (some ⟨go, o, none⟩) d cg, .slice (some ⟨gw, 0, none⟩) d count, u19, u20, u21, u22, u23, u24, u25, u26, u27, u28, u29, u30, u31, u32, u33, u34, u35, u36, u37, u38, u39, u40, u41, u42, u43, u44, u45, u46, u47, u48, u49, u50, u51, u52, u53, u54, u55, u56, u57, u58, u59, u60, u61, u62, u63, u64, u65, u66, u67, u68, u69, u70, u71, u72, u73, u74, u75, u76, u77, u78, u79, u80, u81, u82, u83, u84, u85, u86, u87, u88, u89, u90, u91, u92, u93, u94, u95, u96, u97, u98, u99, u100, u101, u102, u103, u104, u105, u106, u107, u108, u109, u110, u111, u112, u113, u114, u115, u116, u117, u118, u119, u120, u121, u122, u123, u124, u125, u126, u127, u128, u129, u130, u131, u132, u133, u134, u135, u136, u137, u138, u139, u140, u141, u142], []⟩ W := by
  obtain rfl : code = _ := Option.some.inj (hcode.symm.trans (show (Yba.f3.body).bind (roundTail 4) = some _ from rfl))
  clear hcode
  have HE := hide hE
  have HF := hide hF
  have HF3 := hide hF3
  have HO := hide ho
  have HEQ := hide heq
  have HQ := hide hQ
  have HV := hide hv
  have HA := hide hasc
  have HB0 := hide hB0
  clear hE hF hF3 ho heq hQ hv hasc hB0
  dsimp only
  refine wp_seq_rest fun K hK => ?_
  go_wp2
  go_loopw [20] (fun t wr => ∃ (x : Nat) (f' : Nat → Int), 0 < x ∧ (x ≤ d ∨ x = 1) ∧ t = .int .i64 (x : Int) ∧ Fn wr gw count f' ∧ Kept [gw] W wr ∧ Srt D.κ f' 0 x ∧ Same f f' 0 x) (fun t _ => d - (intOf t).toNat)
  case atStart => exact ⟨1, f, by omega, .inr rfl, by go_num, HF.out, Kept.refl _ _, fun i j h1 h2 h3 => by omega, Same.refl _ _ _⟩
  case round =>
    obtain ⟨x, f', hx0, hxd, rfl, hFi, hK0, hS, hM⟩ := hrel
    have HFi := hide hFi
    have HK0 := hide hK0
    have HS := hide hS
    have HM := hide hM
    clear hFi hK0 hS hM HF
    by_cases hlt : x < d
    · have hltI : (x : Int) < (d : Int) := by omega
      go_wp2
      go_loopw [21] (fun t wx => ∃ (j : Nat), j ≤ x ∧ t = .int .i64 (j : Int) ∧ Fn wx gw count (mvL f' x j) ∧ Kept [gw] W wx ∧ ∀ k, j ≤ k → k < x → Lt D.κ (f' x) (f' k)) (fun t _ => (intOf t).toNat)
      case atStart => exact ⟨x, Nat.le_refl _, rfl, HFi.out.congr (mvL_self _ _).symm, HK0.out, fun k h1 h2 => by omega⟩
      case round =>
        obtain ⟨j, hjx, rfl, hFj, hKj, hin⟩ := hrel
        have HFj := hide hFj
        have HKj := hide hKj
        have HIN := hide hin
        clear hFj hKj hin
        have hEj := HE.out.below (HKj.out.toBelow HE.out.bd (by simp; exact hBg))
        have c3 := hEj.c3
        have HKY := hide (fun (d : Int) (n : Nat) => key_any D.a2 D.len2 D.cap2 D.ky d (wr.drewN n) hEj.r2 hEj.kyb)
        clear hEj
        rcases Nat.eq_zero_or_pos j with e | hj0
        · subst e
          have hd : decide ((0 : Int) < ((0 : Nat) : Int)) = false := by simp
          obtain ⟨hd1, hd2⟩ := ins_done (f := f) (A := 0) (i := x) (j := 0) hx0 (Nat.le_refl _) (by omega) HS.out HM.out (fun k l h1 h2 h3 => HA.out k l h2 (by omega)) HIN.out (.inl rfl)
          have HD1 := hide hd1
          have HD2 := hide hd2
          clear HFi HK0 HS HM HIN hd1 hd2
          go_wp2
          go_quiet (fail)
          have HFQ := hide (HFj.out.drewN nq)
          have HKQ := hide (HKj.out.drewN nq)
          clear HFj HKj
          go_wp2
          go_roundw
          case rel => exact ⟨x + 1, _, by omega, .inl (by omega), by go_num, HFQ.out, HKQ.out, HD1.out, HD2.out⟩
          case measure => simp [intOf]; omega
        · obtain ⟨q, rfl⟩ : ∃ q, j = q + 1 := ⟨j - 1, by omega⟩
          have hj0I : (0 : Int) < (q : Int) + 1 := by omega
          have cj := HFj.out.at (i := q + 1) (by omega)
          have cq := HFj.out.at (i := q) (by omega)
          have ej : mvL f' x (q + 1) (q + 1) = f' x := by unfold mvL; rw [if_pos rfl]
          have eq : mvL f' x (q + 1) q = f' q := by unfold mvL; rw [if_neg (by omega), if_neg (by omega)]
          rw [ej] at cj
          rw [eq] at cq
          have zj := HFj.out.free (q + 1)
          have zq := HFj.out.free q
          have hv' := HV.out.same (HM.out.mono (Nat.le_refl _) (show x ≤ d by omega)) (Nat.le_refl _) (Nat.le_refl _)
          have b1 := hv' x (by omega) (by omega)
          have b2 := hv' q (by omega) (by omega)
          have wx : IntKind.i64.wrap (f' x) = f' x := by rw [IntKind.wrap_i64]; omega
          have wq : IntKind.i64.wrap (f' q) = f' q := by rw [IntKind.wrap_i64]; omega
          have iq : (q : Int) + 1 < (d : Int) := by omega
          have iq' : (q : Int) < (d : Int) := by omega
          have tq : ((q : Int) + 1).toNat = q + 1 := by omega
          have hqc : (q : Int) + 1 < (count : Int) := by omega
          by_cases hx : D.κ (f' x) < D.κ (f' q)
          · have hkk : kof D.ky D.len2 (f' x) < kof D.ky D.len2 (f' q) := hx
            have HSW : Hid (∀ n, Fn (((wr.drewN n).setCell ⟨gw, q, none⟩ (.int .i32 (f' x))).setCell ⟨gw, q + 1, none⟩ (.int .i32 (f' q))) gw count (mvL f' x q)) := by
              intro n
              exact (((HFj.out.drewN n).set q (f' x)).set (q + 1) (f' q)).congr (by
                have h := mvL_pred' f' x q (by omega)
                rw [ej, eq] at h
                exact h)
            have HKW := hide (fun n => ((HKj.out.drewN n).setCell (p := ⟨gw, q, none⟩) (.inl (by simp)) (.int .i32 (f' x))).setCell (p := ⟨gw, q + 1, none⟩) (.inl (by simp)) (.int .i32 (f' q)))
            have HIN2 : Hid (∀ k, q ≤ k → k < x → Lt D.κ (f' x) (f' k)) := by
              intro k hk hk'
              by_cases e : k = q
              · rw [e]; exact .inl hx
              · exact HIN.out k (by omega) hk'
            clear hv' ej eq HIN HFi HK0 HS HM hx HKj HFj b1 b2
            go_wp2
            go_quiet (first | (go_at_call 12; exact Calls.quiet_of_same (HKY.out _ _)))
            go_wp2
            clear HKY cj cq zj zq hkk
            go_roundw
            case rel => exact ⟨q, by omega, by go_num, HSW.out _, HKW.out _, HIN2.out⟩
            case measure => simp [intOf]
          · obtain ⟨hd1, hd2⟩ := ins_done (f := f) (A := 0) (i := x) (j := q + 1) hx0 (by omega) (by omega) HS.out HM.out (fun k l h1 h2 h3 => HA.out k l h2 (by omega)) HIN.out (.inr hx)
            have HD1 := hide hd1
            have HD2 := hide hd2
            have hkk : decide (kof D.ky D.len2 (f' x) < kof D.ky D.len2 (f' q)) = false := by
              simp only [decide_eq_false_iff_not]
              exact hx
            clear hv' ej eq HIN HFi HK0 HS HM hx hd1 hd2 b1 b2
            go_wp2
            go_quiet (first | (go_at_call 12; exact Calls.quiet_of_same (HKY.out _ _)))
            have HFQ := hide (HFj.out.drewN nq)
            have HKQ := hide (HKj.out.drewN nq)
            clear HFj HKj HKY cj cq zj zq
            go_wp2
            go_roundw
            case rel => exact ⟨x + 1, _, by omega, .inl (by omega), by go_num, HFQ.out, HKQ.out, HD1.out, HD2.out⟩
            case measure => simp [intOf]; omega
    · have hltI : ¬ (x : Int) < (d : Int) := by omega
      have HEE := hide (show ∀ j, j < d → f3 (s + j) = f' j from fun j hj => by
        obtain rfl : x = d := by omega
        exact HEQ.out f' HS.out HM.out j hj)
      have HF3' := hide (HF3.out.kept HK0.out (by simp; exact hgg))
      have hdc' := hdc
      have hc5' := hc5
      go_wp2
      refine wp_seq_rest fun K hK => ?_
      go_wp2
      refine lawC _ _ _ _ _ _ _ _ _ _ _ _ _ _ _ _ _ _ _ _ _ _ _ _ _ _ _ _ _ _ _ _ _ _ _ _ _ _ _ _ _ _ _ _ _ _ _ _ _ _ _ _ _ _ _ _ _ _ _ _ _ _ _ _ _ _ _ _ _ _ _ _ _ _ _ _ _ _ _ _ _ _ _ _ _ _ _ _ _ _ _ _ _ _ _ _ _ _ _ _ _ _ _ _ _ _ _ _ _ _ _ _ _ _ _ _ _ _ _ _ _ _ _ _ _ _ _ _ _ _ D B0 count bG i go gw o d cg s T f' f3 _ _ _ rfl HFi.out HF3'.out HO.out hsd hdc' hc5' (Nat.le_trans HB0.out HK0.out.size) HEE.out ?_
      intro v8 v17 v18 v19 v20 v21 v22 v23 v43 v44 v45 v46 v47 v48 v49 v50 v51 v52 v53 v54 v55 v56 v57 v58 v59 v60 v61 v62 v63 v64 v65 v66 v67 v68 v69 v70 v71 v72 v73 v74 v75 v76 v77 v78 v79 v80 v81 v82 v83 v84 v85 v86 v87 v88 v89 v90 v91 v92 v93 v94 v95 v96 v97 v98 v99 v100 v101 v102 v103 v104 v105 v106 v107 v108 v109 v110 v111 v112 v113 v114 v115 v116 v117 v118 v119 v120 v121 v122 v123 v124 v125 v126 v127 v128 v129 v130 v131 v132 v133 v134 v135 v136 v137 v138 v139 v140 v141 v142 w2 hb2
      exact HQ.out v8 v17 v18 v19 v20 v21 v22 v23 v43 v44 v45 v46 v47 v48 v49 v50 v51 v52 v53 v54 v55 v56 v57 v58 v59 v60 v61 v62 v63 v64 v65 v66 v67 v68 v69 v70 v71 v72 v73 v74 v75 v76 v77 v78 v79 v80 v81 v82 v83 v84 v85 v86 v87 v88 v89 v90 v91 v92 v93 v94 v95 v96 v97 v98 v99 v100 v101 v102 v103 v104 v105 v106 v107 v108 v109 v110 v111 v112 v113 v114 v115 v116 v117 v118 v119 v120 v121 v122 v123 v124 v125 v126 v127 v128 v129 v130 v131 v132 v133 v134 v135 v136 v137 v138 v139 v140 v141 v142 w2 ((HK0.out.toBelow HB0.out (by simp; exact hB0g)).trans hb2)

end Go.Proofs.Ybulkbtlq
