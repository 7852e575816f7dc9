/-
  The law's walk: one round of its loop.
-/
import Derived.Test.YbulkbtlqBy0
namespace Go.Proofs.Ybulkbtlq
open Go.RowKit
set_option linter.unusedVariables false

def seqHead : Code → Option Code
  | .seq x _ => some x
  | _ => none
def inBlk : Code → Option Code
  | .block _ b => some b
  | _ => none
def inLoop : Code → Option Code
  | .loop b => some b
  | _ => none
/-- What is left of a round of the law's loop from its k-th piece on. -/
def roundTail (k : Nat) (c : Code) : Option Code := (((((((seqTail 9 c).bind seqHead).bind (seqTail 1)).bind inBlk).bind inLoop).bind (seqTail 1)).bind seqHead).bind (fun c => (inBlk c).bind (seqTail k))

set_option maxRecDepth 100000 in
set_option maxHeartbeats 4000000 in
theorem lawC (u0 u1 u2 u3 u7 u8 u19 u20 u21 u22 u23 u24 u25 u26 u27 u28 u29 u30 u31 u32 u33 u34 u35 u36 u37 u38 u39 u40 u41 u42 u43 u44 u45 u46 u47 u48 u49 u50 u51 u52 u53 u54 u55 u56 u57 u58 u59 u60 u61 u62 u63 u64 u65 u66 u67 u68 u69 u70 u71 u72 u73 u74 u75 u76 u77 u78 u79 u80 u81 u82 u83 u84 u85 u86 u87 u88 u89 u90 u91 u92 u93 u94 u95 u96 u97 u98 u99 u100 u101 u102 u103 u104 u105 u106 u107 u108 u109 u110 u111 u112 u113 u114 u115 u116 u117 u118 u119 u120 u121 u122 u123 u124 u125 u126 u127 u128 u129 u130 u131 u132 u133 u134 u135 u136 u137 u138 u139 u140 u141 u142 : Value) (D : Ins) (B0 count bG i go gw o d cg s T : Nat) (f f3 : Nat → Int) (W : World) (Q : Exit → Act → World → Prop) (code : Code) (hcode : (Yba.f3.body).bind (roundTail 6) = some code)
    (hF : Fn W gw count f) (hF3 : Fn W go T f3) (ho : 0 < d → o = s) (hsd : s + d ≤ T) (hdc : d ≤ count) (hc5 : count ≤ 512) (hB0 : B0 ≤ W.heap.size) (heq : ∀ j, j < d → f3 (s + j) = f j)
    (hQ : ∀ (v8 v17 v18 v19 v20 v21 v22 v23 v43 v44 v45 v46 v47 v48 v49 v50 v51 v52 v53 v54 v55 v56 v57 v58 v59 v60 v61 v62 v63 v64 v65 v66 v67 v68 v69 v70 v71 v72 v73 v74 v75 v76 v77 v78 v79 v80 v81 v82 v83 v84 v85 v86 v87 v88 v89 v90 v91 v92 v93 v94 v95 v96 v97 v98 v99 v100 v101 v102 v103 v104 v105 v106 v107 v108 v109 v110 v111 v112 v113 v114 v115 v116 v117 v118 v119 v120 v121 v122 v123 v124 v125 v126 v127 v128 v129 v130 v131 v132 v133 v134 v135 v136 v137 v138 v139 v140 v141 v142 : Value) (w' : World), Below B0 W w' → Q .normal ⟨#[u0, u1, u2, u3, .pointer (some D.pinv), .pointer (some D.pkeep), .pointer (some D.pkey), u7, v8, .pointer (some D.pn), .int .i64 (count : Int), .func (.func 7) #[] #[], .func (.func 8) #[] #[.pointer (some D.pkeep)], .func (.func 9) #[] #[.pointer (some D.pinv), .pointer (some D.pn)], .func (.func 10) #[] #[.pointer (some D.pkey)], .pointer (some ⟨bG, 0, none⟩), .int .i64 (i : Int), v17, v18, v19, v20, v21, v22, v23, u24, u25, u26, u27, u28, u29, u30, u31, u32, u33, u34, u35, u36, u37, u38, u39, u40, u41, u42, v43, v44, v45, v46, v47, v48, v49, v50, v51, v52, v53, v54, v55, v56, v57, v58, v59, v60, v61, v62, v63, v64, v65, v66, v67, v68, v69, v70, v71, v72, v73, v74, v75, v76, v77, v78, v79, v80, v81, v82, v83, v84, v85, v86, v87, v88, v89, v90, v91, v92, v93, v94, v95, v96, v97, v98, v99, v100, v101, v102, v103, v104, v105, v106, v107, v108, v109, v110, v111, v112, v113, v114, v115, v116, v117, v118, v119, v120, v121, v122, v123, v124, v125, v126, v127, v128, v129, v130, v131, v132, v133, v134, v135, v136, v137, v138, v139, v140, v141, v142], []⟩ w') :
    code.wp Yba.prog Q ⟨#[u0, u1, u2, u3, .pointer (some D.pinv), .pointer (some D.pkeep), .pointer (some D.pkey), u7, u8, .pointer (some D.pn), .int .i64 (count : Int), .func (.func 7) #[] #[], .func (.func 8) #[] #[.pointer (some D.pkeep)], .func (.func 9) #[] #[.pointer (some D.pinv), .pointer (some D.pn)], .func (.func 10) #[] #[.pointer (some D.pkey)], .pointer (some ⟨bG, 0, none⟩), .int .i64 (i : Int), .slice (some ⟨go, o, none⟩) d cg, .slice (some ⟨gw, 0, none⟩) d count, u19, u20, u21, u22, u23, u24, u25, u26, u27, u28, u29, u30, u31, u32, u33, u34, u35, u36, u37, u38, u39, u40, u41, u42, u43, u44, u45, u46, u47, u48, u49, u50, u51, u52, u53, u54, u55, u56, u57, u58, u59, u60, u61, u62, u63, u64, u65, u66, u67, u68, u69, u70, u71, u72, u73, u74, u75, u76, u77, u78, u79, u80, u81, u82, u83, u84, u85, u86, u87, u88, u89, u90, u91, u92, u93, u94, u95, u96, u97, u98, u99, u100, u101, u102, u103, u104, u105, u106, u107, u108, u109, u110, u111, u112, u113, u114, u115, u116, u117, u118, u119, u120, u121, u122, u123, u124, u125, u126, u127, u128, u129, u130, u131, u132, u133, u134, u135, u136, u137, u138, u139, u140, u141, u142], []⟩ W := by
  obtain rfl : code = _ := Option.some.inj (hcode.symm.trans (show (Yba.f3.body).bind (roundTail 6) = some _ from rfl))
  clear hcode
  have HF := hide hF
  have HF3 := hide hF3
  have HO := hide ho
  have HEQ := hide heq
  have HQ := hide hQ
  have HB0 := hide hB0
  clear hF hF3 ho heq hQ hB0
  dsimp only
  go_wp2
  go_loopw [23] (fun t wr => ∃ (j : Nat), j ≤ d ∧ t = .int .i64 (j : Int) ∧ ∃ m, wr = W.drewN m) (fun t _ => d - (intOf t).toNat)
  case atStart => exact ⟨0, Nat.zero_le _, rfl, 0, rfl⟩
  case round =>
    obtain ⟨j, hjd, rfl, m, rfl⟩ := hrel
    by_cases hlt : j < d
    · have hltI : (j : Int) < (d : Int) := by omega
      have c1 := HF3.out.at (i := s + j) (by omega)
      have c2 := HF.out.at (i := j) (by omega)
      have e := HO.out (by omega)
      subst e
      rw [HEQ.out j hlt] at c1
      go_wp2
      go_quiet (fail)
      go_wp2
      go_roundw
      case rel => exact ⟨j + 1, by omega, by go_num, _, rfl⟩
      case measure => simp [intOf]; omega
    · have hltI : ¬ (j : Int) < (d : Int) := by omega
      go_wp2
      exact HQ.out _ _ _ _ _ _ _ _ _ _ _ _ _ _ _ _ _ _ _ _ _ _ _ _ _ _ _ _ _ _ _ _ _ _ _ _ _ _ _ _ _ _ _ _ _ _ _ _ _ _ _ _ _ _ _ _ _ _ _ _ _ _ _ _ _ _ _ _ _ _ _ _ _ _ _ _ _ _ _ _ _ _ _ _ _ _ _ _ _ _ _ _ _ _ _ _ _ _ _ _ _ _ _ _ _ _ _ _ _ (((Kept.refl [] W).drewN m).toBelow HB0.out (by simp))

end Go.Proofs.Ybulkbtlq
