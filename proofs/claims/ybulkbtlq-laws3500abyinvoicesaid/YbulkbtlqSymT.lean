/-
  slices.symMergeCmpFunc on a block of int32: the general case behind the search: the rotation and the two smaller merges.
-/
import Derived.Test.YbulkbtlqSym2
import Derived.Test.YbulkbtlqSym3
namespace Go.Proofs.Ybulkbtlq
open Go.RowKit
set_option linter.unusedVariables false

/-- symMerge's contract for rows of at most d values. -/
def SymOk (κ : Int → Int) (g s N c L : Nat) (pc pd : Addr) (d : Nat) : Prop := ∀ (a m b : Nat) (f : Nat → Int) (w : World), b - a ≤ d → a < m → m < b → b ≤ N → Fn w g L f → CmpOk κ g pc pd w → Small f (s + a) (s + b) → Srt κ f (s + a) (s + m) → Srt κ f (s + m) (s + b) → Sep f (s + a) (s + m) (s + b) →
  Calls Yba.prog 30 #[.slice (some ⟨g, s, none⟩) N c, .int .i64 (a : Int), .int .i64 (m : Int), .int .i64 (b : Int), .func (.func 20) #[] #[.pointer (some pc), .pointer (some pd)]] w fun e w' => e = .returned (.tuple #[]) ∧
    ∃ f', Fn w' g L f' ∧ Kept [g] w w' ∧ Srt κ f' (s + a) (s + b) ∧ Same f f' (s + a) (s + b)

def seqTail : Nat → Code → Option Code
  | 0, c => some c
  | n + 1, .seq _ y => seqTail n y
  | _, _ => none

set_option maxRecDepth 100000 in
set_option maxHeartbeats 4000000 in
theorem tailC (u5 u6 u7 u8 u9 u10 u11 u12 u13 u14 u15 u16 u17 u19 u21 u22 u23 u25 u26 u27 u28 u29 u30 u31 u32 u33 u34 u35 u36 u37 u38 u39 u40 u41 u42 u43 u44 u45 u46 u47 u48 u49 u50 u51 u52 u53 u54 u55 u56 u57 u58 u59 u60 u61 u62 u63 u64 u65 u66 u67 u68 u69 u70 u71 u72 u73 u74 u75 u76 u77 u78 u79 u80 u81 u82 u83 u84 u85 u86 u87 u88 u89 u90 u91 u92 u93 u94 u95 u96 u97 u98 u99 u100 u101 u102 u103 u104 u105 u106 u107 u108 u109 u110 u111 u112 u113 u114 u115 u116 u117 u118 u119 u120 u121 u122 u123 u124 u125 u126 u127 u128 u129 u130 u131 u132 u133 u134 u135 u136 u137 u138 u139 u140 u141 u142 u143 u144 u145 u146 u147 u148 u149 u150 u151 u152 u153 u154 u155 u156 u157 u158 u159 u160 u161 u162 u163 u164 u165 u166 u167 u168 u169 u170 u171 u172 u173 u174 u175 u176 u177 u178 u179 u180 u181 u182 u183 u184 u185 u186 u187 u188 u189 u190 u191 u192 u193 u194 u195 u196 u197 u198 u199 u200 u201 u202 u203 u204 u205 u206 u207 u208 u209 u210 u211 u212 u213 u214 u215 u216 u217 u218 u219 : Value) (κ : Int → Int) (g s N c L d a m b mid st e : Nat) (pc pd : Addr) (f2 : Nat → Int) (W : World) (R : Ending → World → Prop) (code : Code) (hcode : (Yba.f30.body).bind (seqTail 11) = some code)
    (ih : SymOk κ g s N c L pc pd d) (hF : Fn W g L f2) (hC : CmpOk κ g pc pd W) (hd : b - mid ≤ d) (b4 : e ≤ b) (b6 : mid ≤ e) (h3 : b ≤ N) (hv : Small f2 (s + mid) (s + b)) (u1 : Srt κ f2 (s + mid) (s + e)) (u2 : Srt κ f2 (s + e) (s + b)) (u3 : Sep f2 (s + mid) (s + e) (s + b))
    (hfin : ∀ f3 w3, Fn w3 g L f3 → Kept [g] W w3 → Same f2 f3 (s + mid) (s + b) → Srt κ f3 (s + mid) (s + b) → R (.returned (.tuple #[])) w3) :
    code.wp Yba.prog (bodyPost Yba.prog Yba.f30 R) ⟨#[.slice (some ⟨g, s, none⟩) N c, .int .i64 (a : Int), .int .i64 (m : Int), .int .i64 (b : Int), .func (.func 20) #[] #[.pointer (some pc), .pointer (some pd)], u5, u6, u7, u8, u9, u10, u11, u12, u13, u14, u15, u16, u17, .int .i64 (mid : Int), u19, .int .i64 (st : Int), u21, u22, u23, .int .i64 (e : Int), u25, u26, u27, u28, u29, u30, u31, u32, u33, u34, u35, u36, u37, u38, u39, u40, u41, u42, u43, u44, u45, u46, u47, u48, u49, u50, u51, u52, u53, u54, u55, u56, u57, u58, u59, u60, u61, u62, u63, u64, u65, u66, u67, u68, u69, u70, u71, u72, u73, u74, u75, u76, u77, u78, u79, u80, u81, u82, u83, u84, u85, u86, u87, u88, u89, u90, u91, u92, u93, u94, u95, u96, u97, u98, u99, u100, u101, u102, u103, u104, u105, u106, u107, u108, u109, u110, u111, u112, u113, u114, u115, u116, u117, u118, u119, u120, u121, u122, u123, u124, u125, u126, u127, u128, u129, u130, u131, u132, u133, u134, u135, u136, u137, u138, u139, u140, u141, u142, u143, u144, u145, u146, u147, u148, u149, u150, u151, u152, u153, u154, u155, u156, u157, u158, u159, u160, u161, u162, u163, u164, u165, u166, u167, u168, u169, u170, u171, u172, u173, u174, u175, u176, u177, u178, u179, u180, u181, u182, u183, u184, u185, u186, u187, u188, u189, u190, u191, u192, u193, u194, u195, u196, u197, u198, u199, u200, u201, u202, u203, u204, u205, u206, u207, u208, u209, u210, u211, u212, u213, u214, u215, u216, u217, u218, u219], []⟩ W := by
  obtain rfl : code = _ := Option.some.inj (hcode.symm.trans (show (Yba.f30.body).bind (seqTail 11) = some _ from rfl))
  clear hcode
  have HFIN := hide hfin
  have hcase : (mid < e ∧ e < b) ∨ (mid < e ∧ e = b) ∨ mid = e := by omega
  dsimp only
  rcases hcase with ⟨c1, c2⟩ | ⟨c1, c2⟩ | c1
  · have c1I : (mid : Int) < (e : Int) := by omega
    have c2I : (e : Int) < (b : Int) := by omega
    have HCALL := hide (ih mid e b f2 W hd c1 c2 h3 hF hC hv u1 u2 u3)
    clear ih hF hC hv u1 u2 u3 hfin
    go_wp2_with fail
    refine HCALL.out.mono ?_
    rintro x w1 ⟨rfl, f3, hF3, hK3, hS3, hM3⟩
    have HE := hide (HFIN.out f3 w1 hF3 hK3 hM3 hS3)
    clear hF3 hK3 hS3 hM3 HFIN HCALL
    go_wp2
    go_end0
    exact HE.out
  · have c1I : (mid : Int) < (e : Int) := by omega
    have c2I : ¬ (e : Int) < (b : Int) := by omega
    have HE := hide (HFIN.out f2 W hF (Kept.refl _ _) (Same.refl _ _ _) (c2 ▸ u1))
    clear ih hF hC hv u1 u2 u3 hfin HFIN c2
    go_wp2
    go_end0
    exact HE.out
  · have c1I : ¬ (mid : Int) < (e : Int) := by omega
    have HE := hide (HFIN.out f2 W hF (Kept.refl _ _) (Same.refl _ _ _) (by rw [c1]; exact u2))
    clear ih hF hC hv u1 u2 u3 hfin HFIN c1
    go_wp2
    go_end0
    exact HE.out

/-- What is left to walk, behind a name. -/
def Rest (P : Program) (y : Code) (Q : Exit → Act → World → Prop) (a : Act) (w : World) : Prop := y.wp P Q a w
theorem wp_seq_rest {P : Program} {x y : Code} {Q : Exit → Act → World → Prop} {a : Act} {w : World} (h : ∀ K : Act → World → Prop, (∀ a w, Rest P y Q a w → K a w) → x.wp P (Exit.then K Q) a w) : (Code.seq x y).wp P Q a w :=
  wp_seq (h _ fun _ _ h => h)

set_option maxRecDepth 100000 in
set_option maxHeartbeats 4000000 in
theorem tailB (u5 u6 u7 u8 u9 u10 u11 u12 u13 u14 u15 u16 u17 u19 u21 u22 u23 u25 u26 u27 u28 u29 u30 u31 u32 u33 u34 u35 u36 u37 u38 u39 u40 u41 u42 u43 u44 u45 u46 u47 u48 u49 u50 u51 u52 u53 u54 u55 u56 u57 u58 u59 u60 u61 u62 u63 u64 u65 u66 u67 u68 u69 u70 u71 u72 u73 u74 u75 u76 u77 u78 u79 u80 u81 u82 u83 u84 u85 u86 u87 u88 u89 u90 u91 u92 u93 u94 u95 u96 u97 u98 u99 u100 u101 u102 u103 u104 u105 u106 u107 u108 u109 u110 u111 u112 u113 u114 u115 u116 u117 u118 u119 u120 u121 u122 u123 u124 u125 u126 u127 u128 u129 u130 u131 u132 u133 u134 u135 u136 u137 u138 u139 u140 u141 u142 u143 u144 u145 u146 u147 u148 u149 u150 u151 u152 u153 u154 u155 u156 u157 u158 u159 u160 u161 u162 u163 u164 u165 u166 u167 u168 u169 u170 u171 u172 u173 u174 u175 u176 u177 u178 u179 u180 u181 u182 u183 u184 u185 u186 u187 u188 u189 u190 u191 u192 u193 u194 u195 u196 u197 u198 u199 u200 u201 u202 u203 u204 u205 u206 u207 u208 u209 u210 u211 u212 u213 u214 u215 u216 u217 u218 u219 : Value) (κ : Int → Int) (g s N c L d a m b mid st e : Nat) (pc pd : Addr) (f1 : Nat → Int) (W : World) (R : Ending → World → Prop) (code : Code) (hcode : (Yba.f30.body).bind (seqTail 10) = some code)
    (ih : SymOk κ g s N c L pc pd d) (hF : Fn W g L f1) (hC : CmpOk κ g pc pd W) (hd : b - a ≤ d + 1) (b0 : a < mid) (b0' : mid < b) (b1 : a ≤ st) (b5 : st ≤ mid) (b4 : e ≤ b) (b6 : mid ≤ e) (h3 : b ≤ N) (hv : Small f1 (s + a) (s + b)) (hH : Halves κ f1 (s + a) (s + st) (s + mid) (s + e) (s + b))
    (hfin : ∀ f3 w3, Fn w3 g L f3 → Kept [g] W w3 → Same f1 f3 (s + a) (s + b) → Srt κ f3 (s + a) (s + b) → R (.returned (.tuple #[])) w3) :
    code.wp Yba.prog (bodyPost Yba.prog Yba.f30 R) ⟨#[.slice (some ⟨g, s, none⟩) N c, .int .i64 (a : Int), .int .i64 (m : Int), .int .i64 (b : Int), .func (.func 20) #[] #[.pointer (some pc), .pointer (some pd)], u5, u6, u7, u8, u9, u10, u11, u12, u13, u14, u15, u16, u17, .int .i64 (mid : Int), u19, .int .i64 (st : Int), u21, u22, u23, .int .i64 (e : Int), u25, u26, u27, u28, u29, u30, u31, u32, u33, u34, u35, u36, u37, u38, u39, u40, u41, u42, u43, u44, u45, u46, u47, u48, u49, u50, u51, u52, u53, u54, u55, u56, u57, u58, u59, u60, u61, u62, u63, u64, u65, u66, u67, u68, u69, u70, u71, u72, u73, u74, u75, u76, u77, u78, u79, u80, u81, u82, u83, u84, u85, u86, u87, u88, u89, u90, u91, u92, u93, u94, u95, u96, u97, u98, u99, u100, u101, u102, u103, u104, u105, u106, u107, u108, u109, u110, u111, u112, u113, u114, u115, u116, u117, u118, u119, u120, u121, u122, u123, u124, u125, u126, u127, u128, u129, u130, u131, u132, u133, u134, u135, u136, u137, u138, u139, u140, u141, u142, u143, u144, u145, u146, u147, u148, u149, u150, u151, u152, u153, u154, u155, u156, u157, u158, u159, u160, u161, u162, u163, u164, u165, u166, u167, u168, u169, u170, u171, u172, u173, u174, u175, u176, u177, u178, u179, u180, u181, u182, u183, u184, u185, u186, u187, u188, u189, u190, u191, u192, u193, u194, u195, u196, u197, u198, u199, u200, u201, u202, u203, u204, u205, u206, u207, u208, u209, u210, u211, u212, u213, u214, u215, u216, u217, u218, u219], []⟩ W := by
  obtain rfl : code = _ := Option.some.inj (hcode.symm.trans (show (Yba.f30.body).bind (seqTail 10) = some _ from rfl))
  clear hcode
  have rest : ∀ f2 w2, Fn w2 g L f2 → Kept [g] W w2 → Same f1 f2 (s + a) (s + mid) → Srt κ f2 (s + a) (s + mid) →
      CmpOk κ g pc pd w2 ∧ b - mid ≤ d ∧ Small f2 (s + mid) (s + b) ∧ Srt κ f2 (s + mid) (s + e) ∧ Srt κ f2 (s + e) (s + b) ∧ Sep f2 (s + mid) (s + e) (s + b) ∧ ∀ f3 w3, Fn w3 g L f3 → Kept [g] w2 w3 → Same f2 f3 (s + mid) (s + b) → Srt κ f3 (s + mid) (s + b) → R (.returned (.tuple #[])) w3 := by
    intro f2 w2 hF2 hK2 hM2 hS2
    have eqv : ∀ k, s + mid ≤ k → f2 k = f1 k := fun k hk => hM2.2.2 k (.inr hk)
    refine ⟨hC.kept hK2, by omega, fun i hi hi' => by rw [eqv i hi]; exact hv i (by omega) hi', hH.u1.congr (fun i hi _ => eqv i hi), hH.u2.congr (fun i hi _ => eqv i (by omega)), fun i j h1 h2 h3 h4 => by rw [eqv i h1, eqv j (by omega)]; exact hH.u3 i j h1 h2 h3 h4, ?_⟩
    intro f3 w3 hF3 hK3 hM3 hS3
    obtain ⟨hd1, hd2⟩ := halves_done hH (by omega) (by omega) hM2 hS2 hM3 hS3
    exact hfin f3 w3 hF3 (hK2.trans hK3) hd2 hd1
  have HREST := hide rest
  have IH := hide ih
  have hcase : (a < st ∧ st < mid) ∨ (a < st ∧ st = mid) ∨ a = st := by omega
  dsimp only
  refine wp_seq_rest fun K hK => ?_
  rcases hcase with ⟨c1, c2⟩ | ⟨c1, c2⟩ | c1
  · have c1I : (a : Int) < (st : Int) := by omega
    have c2I : (st : Int) < (mid : Int) := by omega
    have HCALL := hide (ih a st mid f1 W (by omega) c1 c2 (by omega) hF hC (fun i hi hi' => hv i hi (by omega)) hH.l1 hH.l2 hH.l3)
    clear ih hF hC hv hH hfin rest
    go_wp2_with fail
    refine HCALL.out.mono ?_
    rintro x w1 ⟨rfl, f2, hF2, hK2, hS2, hM2⟩
    obtain ⟨q1, q2, q3, q4, q5, q6, q7⟩ := HREST.out f2 w1 hF2 hK2 hM2 hS2
    have HF2 := hide hF2
    have Q1 := hide q1
    have Q3 := hide q3
    have Q4 := hide q4
    have Q5 := hide q5
    have Q6 := hide q6
    have Q7 := hide q7
    clear hF2 hK2 hS2 hM2 HREST HCALL q1 q3 q4 q5 q6 q7
    go_wp2
    exact tailC _ _ _ _ _ _ _ _ _ _ _ _ _ _ _ _ _ _ _ _ _ _ _ _ _ _ _ _ _ _ _ _ _ _ _ _ _ _ _ _ _ _ _ _ _ _ _ _ _ _ _ _ _ _ _ _ _ _ _ _ _ _ _ _ _ _ _ _ _ _ _ _ _ _ _ _ _ _ _ _ _ _ _ _ _ _ _ _ _ _ _ _ _ _ _ _ _ _ _ _ _ _ _ _ _ _ _ _ _ _ _ _ _ _ _ _ _ _ _ _ _ _ _ _ _ _ _ _ _ _ _ _ _ _ _ _ _ _ _ _ _ _ _ _ _ _ _ _ _ _ _ _ _ _ _ _ _ _ _ _ _ _ _ _ _ _ _ _ _ _ _ _ _ _ _ _ _ _ _ _ _ _ _ _ _ _ _ _ _ _ _ _ _ _ _ _ _ _ _ _ _ _ _ _ _ _ _ _ _ _ _ _ κ g s N c L d a m b mid st e pc pd f2 w1 R _ rfl IH.out HF2.out Q1.out q2 b4 b6 h3 Q3.out Q4.out Q5.out Q6.out Q7.out
  · have c1I : (a : Int) < (st : Int) := by omega
    have c2I : ¬ (st : Int) < (mid : Int) := by omega
    obtain ⟨q1, q2, q3, q4, q5, q6, q7⟩ := rest f1 W hF (Kept.refl _ _) (Same.refl _ _ _) (c2 ▸ hH.l1)
    have HF2 := hide hF
    have Q1 := hide q1
    have Q3 := hide q3
    have Q4 := hide q4
    have Q5 := hide q5
    have Q6 := hide q6
    have Q7 := hide q7
    clear ih hF hC hv hH hfin rest HREST q1 q3 q4 q5 q6 q7 c2
    go_wp2
    exact tailC _ _ _ _ _ _ _ _ _ _ _ _ _ _ _ _ _ _ _ _ _ _ _ _ _ _ _ _ _ _ _ _ _ _ _ _ _ _ _ _ _ _ _ _ _ _ _ _ _ _ _ _ _ _ _ _ _ _ _ _ _ _ _ _ _ _ _ _ _ _ _ _ _ _ _ _ _ _ _ _ _ _ _ _ _ _ _ _ _ _ _ _ _ _ _ _ _ _ _ _ _ _ _ _ _ _ _ _ _ _ _ _ _ _ _ _ _ _ _ _ _ _ _ _ _ _ _ _ _ _ _ _ _ _ _ _ _ _ _ _ _ _ _ _ _ _ _ _ _ _ _ _ _ _ _ _ _ _ _ _ _ _ _ _ _ _ _ _ _ _ _ _ _ _ _ _ _ _ _ _ _ _ _ _ _ _ _ _ _ _ _ _ _ _ _ _ _ _ _ _ _ _ _ _ _ _ _ _ _ _ _ _ κ g s N c L d a m b mid st e pc pd f1 W R _ rfl IH.out HF2.out Q1.out q2 b4 b6 h3 Q3.out Q4.out Q5.out Q6.out Q7.out
  · have c1I : ¬ (a : Int) < (st : Int) := by omega
    obtain ⟨q1, q2, q3, q4, q5, q6, q7⟩ := rest f1 W hF (Kept.refl _ _) (Same.refl _ _ _) (by rw [c1]; exact hH.l2)
    have HF2 := hide hF
    have Q1 := hide q1
    have Q3 := hide q3
    have Q4 := hide q4
    have Q5 := hide q5
    have Q6 := hide q6
    have Q7 := hide q7
    clear ih hF hC hv hH hfin rest HREST q1 q3 q4 q5 q6 q7 c1
    go_wp2
    exact tailC _ _ _ _ _ _ _ _ _ _ _ _ _ _ _ _ _ _ _ _ _ _ _ _ _ _ _ _ _ _ _ _ _ _ _ _ _ _ _ _ _ _ _ _ _ _ _ _ _ _ _ _ _ _ _ _ _ _ _ _ _ _ _ _ _ _ _ _ _ _ _ _ _ _ _ _ _ _ _ _ _ _ _ _ _ _ _ _ _ _ _ _ _ _ _ _ _ _ _ _ _ _ _ _ _ _ _ _ _ _ _ _ _ _ _ _ _ _ _ _ _ _ _ _ _ _ _ _ _ _ _ _ _ _ _ _ _ _ _ _ _ _ _ _ _ _ _ _ _ _ _ _ _ _ _ _ _ _ _ _ _ _ _ _ _ _ _ _ _ _ _ _ _ _ _ _ _ _ _ _ _ _ _ _ _ _ _ _ _ _ _ _ _ _ _ _ _ _ _ _ _ _ _ _ _ _ _ _ _ _ _ _ κ g s N c L d a m b mid st e pc pd f1 W R _ rfl IH.out HF2.out Q1.out q2 b4 b6 h3 Q3.out Q4.out Q5.out Q6.out Q7.out

set_option maxRecDepth 100000 in
set_option maxHeartbeats 4000000 in
theorem tailA (u5 u6 u7 u8 u9 u10 u11 u12 u13 u14 u15 u16 u17 u19 u21 u22 u23 u25 u26 u27 u28 u29 u30 u31 u32 u33 u34 u35 u36 u37 u38 u39 u40 u41 u42 u43 u44 u45 u46 u47 u48 u49 u50 u51 u52 u53 u54 u55 u56 u57 u58 u59 u60 u61 u62 u63 u64 u65 u66 u67 u68 u69 u70 u71 u72 u73 u74 u75 u76 u77 u78 u79 u80 u81 u82 u83 u84 u85 u86 u87 u88 u89 u90 u91 u92 u93 u94 u95 u96 u97 u98 u99 u100 u101 u102 u103 u104 u105 u106 u107 u108 u109 u110 u111 u112 u113 u114 u115 u116 u117 u118 u119 u120 u121 u122 u123 u124 u125 u126 u127 u128 u129 u130 u131 u132 u133 u134 u135 u136 u137 u138 u139 u140 u141 u142 u143 u144 u145 u146 u147 u148 u149 u150 u151 u152 u153 u154 u155 u156 u157 u158 u159 u160 u161 u162 u163 u164 u165 u166 u167 u168 u169 u170 u171 u172 u173 u174 u175 u176 u177 u178 u179 u180 u181 u182 u183 u184 u185 u186 u187 u188 u189 u190 u191 u192 u193 u194 u195 u196 u197 u198 u199 u200 u201 u202 u203 u204 u205 u206 u207 u208 u209 u210 u211 u212 u213 u214 u215 u216 u217 u218 u219 : Value) (κ : Int → Int) (g s N c L d a m b mid st e : Nat) (pc pd : Addr) (f : Nat → Int) (W : World) (R : Ending → World → Prop) (code : Code) (hcode : (Yba.f30.body).bind (seqTail 9) = some code)
    (ih : SymOk κ g s N c L pc pd d) (hF : Fn W g L f) (hC : CmpOk κ g pc pd W) (hL : s + N ≤ L) (hN : N ≤ 100000) (hd : b - a ≤ d + 1) (b0 : a < mid) (b0' : mid < b) (b1 : a ≤ st) (b2 : st ≤ m) (b3 : m ≤ e) (b5 : st ≤ mid) (b4 : e ≤ b) (b6 : mid ≤ e) (h3 : b ≤ N) (hv : Small f (s + a) (s + b)) (hH : Halves κ (rot f (s + st) (s + m) (s + e)) (s + a) (s + st) (s + mid) (s + e) (s + b))
    (hfin : ∀ f3 w3, Fn w3 g L f3 → Kept [g] W w3 → Same f f3 (s + a) (s + b) → Srt κ f3 (s + a) (s + b) → R (.returned (.tuple #[])) w3) :
    code.wp Yba.prog (bodyPost Yba.prog Yba.f30 R) ⟨#[.slice (some ⟨g, s, none⟩) N c, .int .i64 (a : Int), .int .i64 (m : Int), .int .i64 (b : Int), .func (.func 20) #[] #[.pointer (some pc), .pointer (some pd)], u5, u6, u7, u8, u9, u10, u11, u12, u13, u14, u15, u16, u17, .int .i64 (mid : Int), u19, .int .i64 (st : Int), u21, u22, u23, .int .i64 (e : Int), u25, u26, u27, u28, u29, u30, u31, u32, u33, u34, u35, u36, u37, u38, u39, u40, u41, u42, u43, u44, u45, u46, u47, u48, u49, u50, u51, u52, u53, u54, u55, u56, u57, u58, u59, u60, u61, u62, u63, u64, u65, u66, u67, u68, u69, u70, u71, u72, u73, u74, u75, u76, u77, u78, u79, u80, u81, u82, u83, u84, u85, u86, u87, u88, u89, u90, u91, u92, u93, u94, u95, u96, u97, u98, u99, u100, u101, u102, u103, u104, u105, u106, u107, u108, u109, u110, u111, u112, u113, u114, u115, u116, u117, u118, u119, u120, u121, u122, u123, u124, u125, u126, u127, u128, u129, u130, u131, u132, u133, u134, u135, u136, u137, u138, u139, u140, u141, u142, u143, u144, u145, u146, u147, u148, u149, u150, u151, u152, u153, u154, u155, u156, u157, u158, u159, u160, u161, u162, u163, u164, u165, u166, u167, u168, u169, u170, u171, u172, u173, u174, u175, u176, u177, u178, u179, u180, u181, u182, u183, u184, u185, u186, u187, u188, u189, u190, u191, u192, u193, u194, u195, u196, u197, u198, u199, u200, u201, u202, u203, u204, u205, u206, u207, u208, u209, u210, u211, u212, u213, u214, u215, u216, u217, u218, u219], []⟩ W := by
  obtain rfl : code = _ := Option.some.inj (hcode.symm.trans (show (Yba.f30.body).bind (seqTail 9) = some _ from rfl))
  clear hcode
  have hM : Same f (rot f (s + st) (s + m) (s + e)) (s + a) (s + b) := (same_rot f (s + st) (s + m) (s + e) (by omega) (by omega)).mono (by omega) (by omega)
  have HV := hide (hv.same hM (Nat.le_refl _) (Nat.le_refl _))
  have HH := hide hH
  have IH := hide ih
  have HFIN := hide (fun f3 w3 hF3 hK3 hM3 hS3 => hfin f3 w3 hF3 hK3 (hM.trans hM3) hS3)
  have HC := hide hC
  have hcase : (st < m ∧ m < e) ∨ (st < m ∧ m = e) ∨ st = m := by omega
  dsimp only
  refine wp_seq_rest fun K hK => ?_
  rcases hcase with ⟨c1, c2⟩ | ⟨c1, c2⟩ | c1
  · have c1I : (st : Int) < (m : Int) := by omega
    have c2I : (m : Int) < (e : Int) := by omega
    have HCALL := hide (rotate_any g s N c L st m e (.func (.func 20) #[] #[.pointer (some pc), .pointer (some pd)]) f W hF hL c1 c2 (by omega) hN)
    clear ih hF hC hv hH hfin hM
    go_wp2_with fail
    refine HCALL.out.mono ?_
    rintro x w1 ⟨rfl, hF2, hK2⟩
    have HF2 := hide hF2
    have HC2 := hide (HC.out.kept hK2)
    have HFIN2 := hide (fun f3 w3 hF3 hK3 hM3 hS3 => HFIN.out f3 w3 hF3 (hK2.trans hK3) hM3 hS3)
    clear hF2 hK2 HCALL HFIN HC
    go_wp2
    exact tailB _ _ _ _ _ _ _ _ _ _ _ _ _ _ _ _ _ _ _ _ _ _ _ _ _ _ _ _ _ _ _ _ _ _ _ _ _ _ _ _ _ _ _ _ _ _ _ _ _ _ _ _ _ _ _ _ _ _ _ _ _ _ _ _ _ _ _ _ _ _ _ _ _ _ _ _ _ _ _ _ _ _ _ _ _ _ _ _ _ _ _ _ _ _ _ _ _ _ _ _ _ _ _ _ _ _ _ _ _ _ _ _ _ _ _ _ _ _ _ _ _ _ _ _ _ _ _ _ _ _ _ _ _ _ _ _ _ _ _ _ _ _ _ _ _ _ _ _ _ _ _ _ _ _ _ _ _ _ _ _ _ _ _ _ _ _ _ _ _ _ _ _ _ _ _ _ _ _ _ _ _ _ _ _ _ _ _ _ _ _ _ _ _ _ _ _ _ _ _ _ _ _ _ _ _ _ _ _ _ _ _ _ κ g s N c L d a m b mid st e pc pd _ w1 R _ rfl IH.out HF2.out HC2.out hd b0 b0' b1 b5 b4 b6 h3 HV.out HH.out HFIN2.out
  · have c1I : (st : Int) < (m : Int) := by omega
    have c2I : ¬ (m : Int) < (e : Int) := by omega
    have HF2 := hide (hF.congr (rot_none f (s + st) (s + m) (s + e) (.inr (by omega)) (by omega) (by omega)).symm)
    clear ih hF hC hv hH hfin hM c2
    go_wp2
    exact tailB _ _ _ _ _ _ _ _ _ _ _ _ _ _ _ _ _ _ _ _ _ _ _ _ _ _ _ _ _ _ _ _ _ _ _ _ _ _ _ _ _ _ _ _ _ _ _ _ _ _ _ _ _ _ _ _ _ _ _ _ _ _ _ _ _ _ _ _ _ _ _ _ _ _ _ _ _ _ _ _ _ _ _ _ _ _ _ _ _ _ _ _ _ _ _ _ _ _ _ _ _ _ _ _ _ _ _ _ _ _ _ _ _ _ _ _ _ _ _ _ _ _ _ _ _ _ _ _ _ _ _ _ _ _ _ _ _ _ _ _ _ _ _ _ _ _ _ _ _ _ _ _ _ _ _ _ _ _ _ _ _ _ _ _ _ _ _ _ _ _ _ _ _ _ _ _ _ _ _ _ _ _ _ _ _ _ _ _ _ _ _ _ _ _ _ _ _ _ _ _ _ _ _ _ _ _ _ _ _ _ _ _ κ g s N c L d a m b mid st e pc pd _ W R _ rfl IH.out HF2.out HC.out hd b0 b0' b1 b5 b4 b6 h3 HV.out HH.out HFIN.out
  · have c1I : ¬ (st : Int) < (m : Int) := by omega
    have HF2 := hide (hF.congr (rot_none f (s + st) (s + m) (s + e) (.inl (by omega)) (by omega) (by omega)).symm)
    clear ih hF hC hv hH hfin hM c1
    go_wp2
    exact tailB _ _ _ _ _ _ _ _ _ _ _ _ _ _ _ _ _ _ _ _ _ _ _ _ _ _ _ _ _ _ _ _ _ _ _ _ _ _ _ _ _ _ _ _ _ _ _ _ _ _ _ _ _ _ _ _ _ _ _ _ _ _ _ _ _ _ _ _ _ _ _ _ _ _ _ _ _ _ _ _ _ _ _ _ _ _ _ _ _ _ _ _ _ _ _ _ _ _ _ _ _ _ _ _ _ _ _ _ _ _ _ _ _ _ _ _ _ _ _ _ _ _ _ _ _ _ _ _ _ _ _ _ _ _ _ _ _ _ _ _ _ _ _ _ _ _ _ _ _ _ _ _ _ _ _ _ _ _ _ _ _ _ _ _ _ _ _ _ _ _ _ _ _ _ _ _ _ _ _ _ _ _ _ _ _ _ _ _ _ _ _ _ _ _ _ _ _ _ _ _ _ _ _ _ _ _ _ _ _ _ _ _ κ g s N c L d a m b mid st e pc pd _ W R _ rfl IH.out HF2.out HC.out hd b0 b0' b1 b5 b4 b6 h3 HV.out HH.out HFIN.out

set_option maxRecDepth 100000 in
set_option maxHeartbeats 4000000 in
theorem tailS (u5 u6 u7 u8 u9 u10 u11 u12 u13 u14 u15 u16 u17 u23 u24 u25 u26 u27 u28 u29 u30 u31 u32 u33 u34 u35 u36 u37 u38 u39 u40 u41 u42 u43 u44 u45 u46 u47 u48 u49 u50 u51 u52 u53 u54 u55 u56 u57 u58 u59 u60 u61 u62 u63 u64 u65 u66 u67 u68 u69 u70 u71 u72 u73 u74 u75 u76 u77 u78 u79 u80 u81 u82 u83 u84 u85 u86 u87 u88 u89 u90 u91 u92 u93 u94 u95 u96 u97 u98 u99 u100 u101 u102 u103 u104 u105 u106 u107 u108 u109 u110 u111 u112 u113 u114 u115 u116 u117 u118 u119 u120 u121 u122 u123 u124 u125 u126 u127 u128 u129 u130 u131 u132 u133 u134 u135 u136 u137 u138 u139 u140 u141 u142 u143 u144 u145 u146 u147 u148 u149 u150 u151 u152 u153 u154 u155 u156 u157 u158 u159 u160 u161 u162 u163 u164 u165 u166 u167 u168 u169 u170 u171 u172 u173 u174 u175 u176 u177 u178 u179 u180 u181 u182 u183 u184 u185 u186 u187 u188 u189 u190 u191 u192 u193 u194 u195 u196 u197 u198 u199 u200 u201 u202 u203 u204 u205 u206 u207 u208 u209 u210 u211 u212 u213 u214 u215 u216 u217 u218 u219 : Value) (κ : Int → Int) (g s N c L d a m b mid s0 r0 : Nat) (pc pd : Addr) (f : Nat → Int) (w : World) (R : Ending → World → Prop) (code : Code) (hcode : (Yba.f30.body).bind (seqTail 7) = some code)
    (ih : SymOk κ g s N c L pc pd d) (hF : Fn w g L f) (hC : CmpOk κ g pc pd w) (hL : s + N ≤ L) (hN : N ≤ 100000) (hd : b - a ≤ d + 1) (h1 : a < m) (h2 : m < b) (b0 : a < mid) (b0' : mid < b) (h3 : b ≤ N) (hmid : (a + b) / 2 = mid) (hdoor : Door a m b mid s0 r0) (hv : Small f (s + a) (s + b)) (hSL : Srt κ f (s + a) (s + m)) (hSR : Srt κ f (s + m) (s + b)) (hsep : Sep f (s + a) (s + m) (s + b))
    (hfin : ∀ f3 w3, Fn w3 g L f3 → Kept [g] w w3 → Same f f3 (s + a) (s + b) → Srt κ f3 (s + a) (s + b) → R (.returned (.tuple #[])) w3) :
    code.wp Yba.prog (bodyPost Yba.prog Yba.f30 R) ⟨#[.slice (some ⟨g, s, none⟩) N c, .int .i64 (a : Int), .int .i64 (m : Int), .int .i64 (b : Int), .func (.func 20) #[] #[.pointer (some pc), .pointer (some pd)], u5, u6, u7, u8, u9, u10, u11, u12, u13, u14, u15, u16, u17, .int .i64 (mid : Int), .int .i64 ((mid + m : Nat) : Int), .int .i64 (s0 : Int), .int .i64 (r0 : Int), .int .i64 ((mid + m - 1 : Nat) : Int), u23, u24, u25, u26, u27, u28, u29, u30, u31, u32, u33, u34, u35, u36, u37, u38, u39, u40, u41, u42, u43, u44, u45, u46, u47, u48, u49, u50, u51, u52, u53, u54, u55, u56, u57, u58, u59, u60, u61, u62, u63, u64, u65, u66, u67, u68, u69, u70, u71, u72, u73, u74, u75, u76, u77, u78, u79, u80, u81, u82, u83, u84, u85, u86, u87, u88, u89, u90, u91, u92, u93, u94, u95, u96, u97, u98, u99, u100, u101, u102, u103, u104, u105, u106, u107, u108, u109, u110, u111, u112, u113, u114, u115, u116, u117, u118, u119, u120, u121, u122, u123, u124, u125, u126, u127, u128, u129, u130, u131, u132, u133, u134, u135, u136, u137, u138, u139, u140, u141, u142, u143, u144, u145, u146, u147, u148, u149, u150, u151, u152, u153, u154, u155, u156, u157, u158, u159, u160, u161, u162, u163, u164, u165, u166, u167, u168, u169, u170, u171, u172, u173, u174, u175, u176, u177, u178, u179, u180, u181, u182, u183, u184, u185, u186, u187, u188, u189, u190, u191, u192, u193, u194, u195, u196, u197, u198, u199, u200, u201, u202, u203, u204, u205, u206, u207, u208, u209, u210, u211, u212, u213, u214, u215, u216, u217, u218, u219], []⟩ w := by
  obtain rfl : code = _ := Option.some.inj (hcode.symm.trans (show (Yba.f30.body).bind (seqTail 7) = some _ from rfl))
  clear hcode
  have HF := hide hF
  have HC := hide hC
  have HV := hide hv
  have HSL := hide hSL
  have HSR := hide hSR
  have HS := hide hsep
  have IH := hide ih
  have HMID := hide hmid
  have HD := hide hdoor
  have HFIN := hide hfin
  obtain ⟨d1, d2, d3, d4, d5, d6⟩ := door_bounds hmid h1 h2 hdoor
  have D5 := hide d5
  clear hF hC hv hSL hSR hsep ih hmid hdoor hfin d5
  dsimp only
  refine wp_seq_rest fun K hK => ?_
  go_wp2
  go_loopw [20, 21] (fun t1 t2 wr => ∃ (i j : Nat), (i ≤ j ∧ s0 ≤ i ∧ j ≤ r0) ∧ t1 = .int .i64 (i : Int) ∧ t2 = .int .i64 (j : Int) ∧ Fn wr g L f ∧ Kept [g] w wr ∧ LoS κ f s (mid + m - 1) s0 i ∧ HiS κ f s (mid + m - 1) j r0) (fun t1 t2 _ => (intOf t2).toNat - (intOf t1).toNat)
  case atStart => exact ⟨s0, r0, ⟨d2, Nat.le_refl _, Nat.le_refl _⟩, rfl, rfl, HF.out, Kept.refl _ _, fun c h1 h2 => by omega, fun c h1 h2 => by omega⟩
  case round =>
    clear HF
    obtain ⟨i, j, ⟨hij, hi, hj⟩, rfl, rfl, hFr, hKr, hlo, hhi⟩ := hrel
    have HF := hide hFr
    have HKr := hide hKr
    have HLO := hide hlo
    have HHI := hide hhi
    clear hFr hKr hlo hhi
    by_cases hlt : i < j
    · have hltI : (i : Int) < (j : Int) := by omega
      obtain ⟨h, hh⟩ : ∃ h : Nat, (i + j) / 2 = h := ⟨_, rfl⟩
      have hh1 : i ≤ h := by omega
      have hh2 : h < j := by omega
      have hhI : ((i : Int) + (j : Int)) / 2 = (h : Int) := by omega
      have hb := D5.out h (by omega) (by omega)
      have ehI : ((mid + m - 1 : Nat) : Int) - (h : Int) = ((mid + m - 1 - h : Nat) : Int) := by omega
      clear hh
      have ch := HF.out.at (i := s + h) (by omega)
      have cp := HF.out.at (i := s + (mid + m - 1 - h)) (by omega)
      have ihI : (h : Int) < (N : Int) := by omega
      have ipI : ((mid + m - 1 - h : Nat) : Int) < (N : Int) := by omega
      have HCQ := hide (fun n => HC.out _ (HKr.out.drewN n) (f (s + (mid + m - 1 - h))) (f (s + h)) (HV.out _ (by omega) (by omega)).1 (HV.out _ (by omega) (by omega)).2 (HV.out _ (by omega) (by omega)).1 (HV.out _ (by omega) (by omega)).2)
      by_cases hx : κ (f (s + (mid + m - 1 - h))) < κ (f (s + h))
      · have hcv : cmpv (κ (f (s + (mid + m - 1 - h)))) (κ (f (s + h))) < 0 := (cmpv_lt _ _).2 hx
        have HHI2 := hide (search_down HMID.out h1 h2 HD.out HSL.out HSR.out (h := h) (by omega) (by omega) hx)
        clear hx HHI
        generalize hq : mid + m - 1 - h = q at *
        go_wp2
        go_quiet (first | (go_at_call 20; exact Calls.quiet_of (HCQ.out _)))
        clear HCQ ch cp hcv
        go_wp2
        go_roundw
        case rel => exact ⟨i, h, ⟨by omega, by omega, by omega⟩, rfl, by go_num, HF.out.drewN _, HKr.out.drewN _, HLO.out, HHI2.out⟩
        case measure => simp [intOf]; omega
      · have hcv : decide (cmpv (κ (f (s + (mid + m - 1 - h)))) (κ (f (s + h))) < 0) = false := by
          simp only [decide_eq_false_iff_not]
          intro h
          exact hx ((cmpv_lt _ _).1 h)
        have HLO2 := hide (search_up HMID.out h1 h2 HD.out HSL.out HSR.out (h := h) (by omega) (by omega) hx)
        clear hx HLO
        generalize hq : mid + m - 1 - h = q at *
        go_wp2
        go_quiet (first | (go_at_call 20; exact Calls.quiet_of (HCQ.out _)))
        clear HCQ ch cp hcv
        go_wp2
        go_roundw
        case rel => exact ⟨h + 1, j, ⟨by omega, by omega, by omega⟩, by go_num, rfl, HF.out.drewN _, HKr.out.drewN _, HLO2.out, HHI.out⟩
        case measure => simp [intOf]; omega
    · obtain rfl : i = j := by omega
      obtain ⟨e, he⟩ : ∃ e, e = mid + m - i := ⟨_, rfl⟩
      have heI : (mid : Int) + (m : Int) - (i : Int) = (e : Int) := by omega
      obtain ⟨hH, b1, b2, b3, b4, b5, b6⟩ := search_end HMID.out h1 h2 HD.out HSL.out HSR.out HS.out hi hj he HLO.out HHI.out
      have HH := hide hH
      have HC2 := hide (HC.out.kept HKr.out)
      have HFIN2 := hide (fun f3 w3 hF3 hK3 hM3 hS3 => HFIN.out f3 w3 hF3 (HKr.out.trans hK3) hM3 hS3)
      clear HLO HHI HSL HSR HS hH HD D5 he HC HFIN HKr
      go_wp2
      refine wp_seq_rest fun K hK => ?_
      go_wp2
      exact tailA _ _ _ _ _ _ _ _ _ _ _ _ _ _ _ _ _ _ _ _ _ _ _ _ _ _ _ _ _ _ _ _ _ _ _ _ _ _ _ _ _ _ _ _ _ _ _ _ _ _ _ _ _ _ _ _ _ _ _ _ _ _ _ _ _ _ _ _ _ _ _ _ _ _ _ _ _ _ _ _ _ _ _ _ _ _ _ _ _ _ _ _ _ _ _ _ _ _ _ _ _ _ _ _ _ _ _ _ _ _ _ _ _ _ _ _ _ _ _ _ _ _ _ _ _ _ _ _ _ _ _ _ _ _ _ _ _ _ _ _ _ _ _ _ _ _ _ _ _ _ _ _ _ _ _ _ _ _ _ _ _ _ _ _ _ _ _ _ _ _ _ _ _ _ _ _ _ _ _ _ _ _ _ _ _ _ _ _ _ _ _ _ _ _ _ _ _ _ _ _ _ _ _ _ _ _ _ _ _ _ _ _ κ g s N c L d a m b mid i e pc pd f wr R _ rfl IH.out HF.out HC2.out hL hN hd b0 b0' b1 b2 b3 b5 b4 b6 h3 HV.out HH.out HFIN2.out

end Go.Proofs.Ybulkbtlq
