/-
  The send on the wake channel that has room.
-/
import Derived.Test.YbulkbtowQueue
namespace Go.Proofs.Ybulkbtow
open Go.RowKit Go.Conc
set_option linter.unusedVariables false
def seqTail : Nat → Code → Option Code
  | 0, c => some c
  | n + 1, .seq _ y => seqTail n y
  | _, _ => none

def sendOf : Code → Option Code
  | .seq (.seq _ (.cond _ c _)) _ => some c
  | _ => none

set_option maxRecDepth 100000 in
set_option maxHeartbeats 1000000 in
theorem send_piece (u0 u1 u2 u3 u4 u5 u6 u7 u8 u9 u10 u11 u12 u13 u14 u15 u17 u18 u19 u20 u21 u22 u23 u24 u25 u26 u27 u28 u29 u30 u31 u32 u33 u34 u35 u36 u37 u38 u39 u40 u41 u42 u43 u44 u45 u46 u47 u48 u49 u50 u51 u52 u53 u54 u55 u56 u57 u58 u59 u60 u61 u62 u63 u64 u65 u66 u67 u68 u69 u70 u71 u72 u73 u74 u75 u76 u77 u78 u79 u80 u81 u82 u83 u84 u85 u86 u87 u88 u89 u90 u91 u92 u93 u94 u95 u96 u97 u98 u99 u100 u101 u102 u103 u104 u105 u106 u107 u108 u109 u110 u111 u112 u113 u114 u115 u116 u117 u118 u119 u120 u121 u122 u123 u124 u125 u126 u127 u128 u129 u130 u131 u132 u133 u134 u135 u136 u137 u138 u139 u140 u141 u142 u143 u144 u145 u146 u147 u148 u149 u150 u151 u152 u153 u154 u155 u156 u157 u158 u159 : Value) (fp gc s r : Nat) (w : World) (c : Code) (hcode : ((Yba.f4.body).bind (seqTail 10)).bind sendOf = some c) (hc : w.cell? ⟨fp, 12, none⟩ = some (.chan (some gc))) (hch : w.heap[gc]? = some (.chan 1 #[] false s r false)) (Q : Exit → Act → World → Prop)
    (hQ : Q .normal ⟨#[u0, u1, u2, u3, u4, u5, u6, u7, u8, u9, u10, u11, u12, u13, u14, u15, .pointer (some ⟨fp, 0, none⟩), u17, u18, u19, u20, u21, u22, u23, u24, u25, u26, u27, u28, u29, u30, u31, u32, u33, u34, u35, u36, u37, u38, u39, u40, u41, u42, u43, u44, u45, u46, u47, u48, u49, u50, u51, u52, u53, u54, u55, u56, u57, u58, u59, u60, u61, u62, u63, .pointer (some ⟨fp, 0, none⟩), .pointer (some ⟨fp, 0, none⟩), .pointer (some ⟨fp, 12, none⟩), .chan (some gc), .agg #[], u69, u70, u71, u72, u73, u74, u75, u76, u77, u78, u79, u80, u81, u82, u83, u84, u85, u86, u87, u88, u89, u90, u91, u92, u93, u94, u95, u96, u97, u98, u99, u100, u101, u102, u103, u104, u105, u106, u107, u108, u109, u110, u111, u112, u113, u114, u115, u116, u117, u118, u119, u120, u121, u122, u123, u124, u125, u126, u127, u128, u129, u130, u131, u132, u133, u134, u135, u136, u137, u138, u139, u140, u141, u142, u143, u144, u145, u146, u147, u148, u149, u150, u151, u152, u153, u154, u155, u156, u157, u158, u159], []⟩ (w.setChan gc 1 #[.agg #[]] false (s + 1) r false)) :
    WpAt Yba.prog (base 4) c Q ⟨#[u0, u1, u2, u3, u4, u5, u6, u7, u8, u9, u10, u11, u12, u13, u14, u15, .pointer (some ⟨fp, 0, none⟩), u17, u18, u19, u20, u21, u22, u23, u24, u25, u26, u27, u28, u29, u30, u31, u32, u33, u34, u35, u36, u37, u38, u39, u40, u41, u42, u43, u44, u45, u46, u47, u48, u49, u50, u51, u52, u53, u54, u55, u56, u57, u58, u59, u60, u61, u62, u63, u64, u65, u66, u67, u68, u69, u70, u71, u72, u73, u74, u75, u76, u77, u78, u79, u80, u81, u82, u83, u84, u85, u86, u87, u88, u89, u90, u91, u92, u93, u94, u95, u96, u97, u98, u99, u100, u101, u102, u103, u104, u105, u106, u107, u108, u109, u110, u111, u112, u113, u114, u115, u116, u117, u118, u119, u120, u121, u122, u123, u124, u125, u126, u127, u128, u129, u130, u131, u132, u133, u134, u135, u136, u137, u138, u139, u140, u141, u142, u143, u144, u145, u146, u147, u148, u149, u150, u151, u152, u153, u154, u155, u156, u157, u158, u159], []⟩ w := by
  obtain rfl : c = _ := Option.some.inj (hcode.symm.trans (show ((Yba.f4.body).bind (seqTail 10)).bind sendOf = some _ from rfl))
  refine WpAt.of_lone _ _ hQ ?_
  intro k cs
  refine LoneTo.goes (n := 6) ?_
  s_reg
  s_op
  s_op
  s_op
  s_op
  s_op
  s_stop
  refine LoneTo.step (step_lone_send_room (c := gc) (v := .agg #[]) (z' := .tuple #[]) (cap := 1) (buf := #[]) (s := s) (r := r) (tm := false) (stepG_comm (cases := #[scase gc (.agg #[]) (.tuple #[])]) (blocking := true) (shape := .send) (w' := w) rfl rfl (by decide) (by simp [go_sem, execOp, scase, Act.eval])) hch (by simp)) ?_
  rw [Frame.finish_at]
  walk_nrm
  refine LoneTo.goes (n := 1) ?_
  s_c stepG_region_end
  s_stop
  exact LoneTo.done ⟨rfl, rfl⟩


end Go.Proofs.Ybulkbtow
