/-
  byInvoice's walk: the last loop: each group sorted.
-/
import Derived.Test.YbulkbtlqEnv
import Derived.Test.YbulkbtlqOi
import Derived.Laws.EntriesVeiled
namespace Go.Proofs.Ybulkbtlq
open Go.RowKit
set_option linter.unusedVariables false

/-- The blocks that byInvoice has made: the boxes, the result's cell, the struct. -/
structure Made (D : Ins) (B bd bc br bg : Nat) (gs : List Value) (w : World) : Prop where
  d : Blk w bd 25 [.func (.func 7) #[] #[]]
  c : Blk w bc 27 [.func (.func 10) #[] #[.pointer (some D.pkey)]]
  r : ∃ v0 v1 v2, Blk w br 31 [v0, v1, v2]
  g : Blk w bg 31 gs
  dB : B ≤ bd
  cB : B ≤ bc
  rB : B ≤ br
  gB : B ≤ bg
  rg : br ≠ bg

theorem Made.kept {D : Ins} {B bd bc br bg : Nat} {gs : List Value} {w w' : World} (h : Made D B bd bc br bg gs w) {S : List Nat} (hk : Kept S w w') (hd : bd ∉ S) (hc : bc ∉ S) (hr : br ∉ S) (hg : bg ∉ S) : Made D B bd bc br bg gs w' := by
  obtain ⟨v0, v1, v2, hv⟩ := h.r
  exact ⟨hk.blk h.d hd, hk.blk h.c hc, ⟨v0, v1, v2, hk.blk hv hr⟩, hk.blk h.g hg, h.dB, h.cB, h.rB, h.gB, h.rg⟩

theorem Blk.ne {w : World} {g g' : Nat} {e e' : TypeId} {cs cs' : List Value} (h : Blk w g e cs) (h' : Blk w g' e' cs') (he : e ≠ e') : g ≠ g' := by
  rintro rfl
  have h1 : w.heap[g]? = some (.cells cs.toArray e (0, 0)) := h
  have h2 : w.heap[g]? = some (.cells cs'.toArray e' (0, 0)) := h'
  rw [h1] at h2
  simp at h2
  exact he h2.2

/-- .. where the blocks of S hold int32s. -/
theorem Made.ints {D : Ins} {B bd bc br bg : Nat} {gs : List Value} {w w' : World} (h : Made D B bd bc br bg gs w) {g L : Nat} {f : Nat → Int} (hf : Fn w g L f) (hk : Kept [g] w w') : Made D B bd bc br bg gs w' := by
  obtain ⟨v0, v1, v2, hv⟩ := h.r
  exact h.kept hk (by simp; exact h.d.ne hf (by decide)) (by simp; exact h.c.ne hf (by decide)) (by simp; exact hv.ne hf (by decide)) (by simp; exact h.g.ne hf (by decide))

set_option maxRecDepth 100000 in
set_option maxHeartbeats 4000000 in
theorem by4 (u6 u7 u9 u10 u14 u15 u16 u17 u18 u19 u20 u21 u22 u23 u24 u25 u26 u27 u28 u29 u30 u31 u32 u33 u34 u35 u36 u37 u38 u39 u40 u41 u42 u43 u44 u45 u46 u47 u48 u49 u50 u51 u52 u53 u54 u55 u56 u57 u58 u59 u60 u61 u62 u63 u64 u65 u66 u67 u68 u69 u70 u71 u72 u73 u74 u75 u76 u77 u78 u79 u80 u81 u82 u83 u84 u85 u86 u87 u88 u89 u90 u91 u92 u93 u94 u95 u96 u97 u98 u99 u100 u101 u102 u103 u104 u105 u106 u107 u108 u109 u110 u111 u112 u113 u114 u115 u116 u117 u118 u119 u120 u121 u122 u123 u124 u125 : Value) (D : Ins) (B count bd bc br bg go ge T : Nat) (f1 f2 : Nat → Int) (W : World) (R : Ending → World → Prop) (code : Code) (hcode : (Yba.f13.body).bind (seqTail 9) = some code)
    (hE : Env D B W) (hM : Made D B bd bc br bg [.func (.func 7) #[] #[], .slice (some ⟨go, 0, none⟩) T T, .slice (some ⟨ge, 0, none⟩) D.n D.n] W) (hgo : B ≤ go) (hge : go ≠ ge) (hT : T = start D.K D.I count D.n) (hc5 : count ≤ 512) (hF1 : Fn W ge D.n f1) (hf1 : ∀ i, i < D.n → f1 i = ((start D.K D.I count (i + 1) : Nat) : Int)) (hF2 : Fn W go T f2) (hG : Grouped D.κ D.K D.I count D.n 0 f2)
    (hfin : ∀ f3 w3, Fn w3 go T f3 → Fn w3 ge D.n f1 → Grouped D.κ D.K D.I count D.n D.n f3 → Kept [go, br] W w3 → R (.returned (.agg #[.func (.func 7) #[] #[], .slice (some ⟨go, 0, none⟩) T T, .slice (some ⟨ge, 0, none⟩) D.n D.n])) w3) :
    code.wp Yba.prog (bodyPost Yba.prog Yba.f13 R) ⟨#[.int .i64 (D.n : Int), .int .i64 (count : Int), .func (.func 7) #[] #[], .func (.func 8) #[] #[.pointer (some D.pkeep)], .func (.func 9) #[] #[.pointer (some D.pinv), .pointer (some D.pn)], .func (.func 10) #[] #[.pointer (some D.pkey)], u6, u7, .pointer (some ⟨bd, 0, none⟩), u9, u10, .pointer (some ⟨bc, 0, none⟩), .pointer (some ⟨br, 0, none⟩), .pointer (some ⟨bg, 0, none⟩), u14, u15, u16, u17, u18, u19, u20, u21, u22, u23, u24, u25, u26, u27, u28, u29, u30, u31, u32, u33, u34, u35, u36, u37, u38, u39, u40, u41, u42, u43, u44, u45, u46, u47, u48, u49, u50, u51, u52, u53, u54, u55, u56, u57, u58, u59, u60, u61, u62, u63, u64, u65, u66, u67, u68, u69, u70, u71, u72, u73, u74, u75, u76, u77, u78, u79, u80, u81, u82, u83, u84, u85, u86, u87, u88, u89, u90, u91, u92, u93, u94, u95, u96, u97, u98, u99, u100, u101, u102, u103, u104, u105, u106, u107, u108, u109, u110, u111, u112, u113, u114, u115, u116, u117, u118, u119, u120, u121, u122, u123, u124, u125], []⟩ W := by
  obtain rfl : code = _ := Option.some.inj (hcode.symm.trans (show (Yba.f13.body).bind (seqTail 9) = some _ from rfl))
  clear hcode
  have HE := hide hE
  have HM := hide hM
  have HF1 := hide hF1
  have Hf1 := hide hf1
  have HF2 := hide hF2
  have HG := hide hG
  have HFIN := hide hfin
  have HT := hide hT
  have hn8 : D.n ≤ 8 := hE.n8
  have g1 := hM.g.at 1
  have g2 := hM.g.at 2
  simp only [List.getElem?_cons_zero, List.getElem?_cons_succ] at g1 g2
  clear hE hM hF1 hf1 hF2 hG hfin hT
  dsimp only
  go_wp2
  go_loopw [22, 108] (fun t1 t2 wr => ∃ (j : Nat) (f' : Nat → Int), j ≤ D.n ∧ t1 = .int .i32 ((start D.K D.I count j : Nat) : Int) ∧ t2 = .int .i64 (j : Int) ∧ Fn wr go T f' ∧ Kept [go] W wr ∧ Grouped D.κ D.K D.I count D.n j f') (fun t1 t2 _ => D.n - (intOf t2).toNat)
  case atStart => exact ⟨0, f2, Nat.zero_le _, rfl, rfl, HF2.out, Kept.refl _ _, HG.out⟩
  case round =>
    obtain ⟨j, f3, hjn, rfl, rfl, hF3, hK3, hG3⟩ := hrel
    have HF3 := hide hF3
    have HK3 := hide hK3
    have HG3 := hide hG3
    have HM3 := hide (HM.out.ints HF2.out hK3)
    have HE3 := hide (HE.out.below (hK3.toBelow HE.out.bd (by simp; exact hgo)))
    have HF13 := hide (HF1.out.kept hK3 (by simp; exact fun e => hge e.symm))
    clear hF3 hK3 hG3 g1 g2
    by_cases hlt : j < D.n
    · have hltI : (j : Int) < (D.n : Int) := by omega
      have g1 := HM3.out.g.at 1
      simp only [List.getElem?_cons_zero, List.getElem?_cons_succ] at g1
      obtain ⟨s, hs⟩ : ∃ s, start D.K D.I count j = s := ⟨_, rfl⟩
      obtain ⟨e, he⟩ : ∃ e, start D.K D.I count (j + 1) = e := ⟨_, rfl⟩
      have hse : s ≤ e := by rw [← hs, ← he]; exact start_mono (by omega)
      have heT : e ≤ T := by rw [← he, HT.out]; exact start_mono (by omega)
      have hT5 : T ≤ 512 := by rw [HT.out]; exact Nat.le_trans (start_le _) hc5
      have c1 := HF13.out.at hlt
      rw [Hf1.out j hlt, he] at c1
      have HS := hide hs
      have HEE := hide he
      rw [hs]
      clear hs he
      have hseI : (s : Int) ≤ (e : Int) := by omega
      have heTI : (e : Int) ≤ (T : Int) := by omega
      by_cases hbig : 1 < e - s
      · have hbI : (1 : Int) < ((e - s : Nat) : Int) := by omega
        have hTs : ¬ T = s := by omega
        have HCALL := hide (sort_any D.κ go s (e - s) (T - s) T ⟨bc, 0, none⟩ ⟨bd, 0, none⟩ f3 wr HF3.out (HE3.out.cmp hgo HM3.out.c HM3.out.d (HM3.out.c.ne HF3.out (by decide)) (HM3.out.d.ne HF3.out (by decide))) (by omega) (by omega)
          (fun p h1 h2 => by
            obtain ⟨k, k1, k2, k3⟩ := HG3.out.val j hlt p (by rw [HS.out]; exact h1) (by rw [HEE.out]; omega)
            rw [k3]; omega)
          (fun p q h1 h2 h3 => HG3.out.asc j (Nat.le_refl _) hlt p q (by rw [HS.out]; exact h1) h2 (by rw [HEE.out]; omega)))
        go_wp2_with fail
        refine HCALL.out.mono ?_
        rintro x w4 ⟨rfl, f4, hF4, hK4, hS4, hM4⟩
        have ese : s + (e - s) = e := by omega
        rw [ese] at hS4 hM4
        have HF4 := hide hF4
        have HK4 := hide (HK3.out.trans hK4)
        have HG4 := hide (HG3.out.next hlt (by rw [HS.out, HEE.out]; exact hS4) (by rw [HS.out, HEE.out]; exact hM4))
        clear hF4 hK4 hS4 hM4 HCALL HF3 HK3 HG3 HM3 HE3 HF13 g1 c1 ese
        go_wp2
        go_roundw
        case rel => exact ⟨j + 1, f4, by omega, by rw [HEE.out], by go_num, HF4.out, HK4.out, HG4.out⟩
        case measure => simp [intOf]; omega
      · have hS4 : Srt D.κ f3 (start D.K D.I count j) (start D.K D.I count (j + 1)) := by
          rw [HS.out, HEE.out]
          intro i k h1 h2 h3
          omega
        have HG4 := hide (HG3.out.next hlt hS4 (Same.refl _ _ _))
        have hbI : ¬ (1 : Int) < ((e - s : Nat) : Int) := by omega
        clear hS4 HG3 HM3 HE3 HF13
        by_cases hTs : T = s
        · have hes : e = s := by omega
          subst hTs
          subst hes
          go_wp2
          go_roundw
          case rel => exact ⟨j + 1, f3, by omega, by rw [HEE.out], by go_num, HF3.out, HK3.out, HG4.out⟩
          case measure => simp [intOf]; omega
        · go_wp2
          go_roundw
          case rel => exact ⟨j + 1, f3, by omega, by rw [HEE.out], by go_num, HF3.out, HK3.out, HG4.out⟩
          case measure => simp [intOf]; omega
    · have hjj : j = D.n := by omega
      have hltI : ¬ (j : Int) < (D.n : Int) := by omega
      have hG3 := HG3.out
      rw [hjj] at hG3
      have HG4 := hide hG3
      clear hG3 HG3 hjj
      have g0 := HM3.out.g.at 0
      have g1 := HM3.out.g.at 1
      have g2 := HM3.out.g.at 2
      obtain ⟨v0, v1, v2, hr⟩ := HM3.out.r
      have r0 := hr.at 0
      have r1 := hr.at 1
      have r2 := hr.at 2
      have z0 := hr.free 0
      have z1 := hr.free 1
      have z2 := hr.free 2
      simp only [List.getElem?_cons_zero, List.getElem?_cons_succ] at g0 g1 g2 r0 r1 r2
      have hbr := hr.ne HF3.out (by decide)
      have hbr2 := hr.ne HF13.out (by decide)
      clear hr
      have KS : Kept [br] wr (((wr.setCell ⟨br, 0, none⟩ (.func (.func 7) #[] #[])).setCell ⟨br, 1, none⟩ (.slice (some ⟨go, 0, none⟩) T T)).setCell ⟨br, 2, none⟩ (.slice (some ⟨ge, 0, none⟩) D.n D.n)) :=
        (((Kept.refl [br] wr).setCell (p := ⟨br, 0, none⟩) (.inl (by simp)) _).setCell (p := ⟨br, 1, none⟩) (.inl (by simp)) _).setCell (p := ⟨br, 2, none⟩) (.inl (by simp)) _
      have HEND := hide (HFIN.out f3 _ (HF3.out.kept KS (by simp; exact fun e => hbr e.symm)) (HF13.out.kept KS (by simp; exact fun e => hbr2 e.symm)) HG4.out ((HK3.out.mono (fun k _ hk => by simp at hk; simp [hk])).trans (KS.mono (fun k _ hk => by simp at hk; simp [hk]))))
      clear KS HFIN HF3 HF13 HG4 HK3 HM3 HE3 HE HM HF1 HF2 HG Hf1
      go_wp2
      exact bodyPost_ret (v := .agg #[.func (.func 7) #[] #[], .slice (some ⟨go, 0, none⟩) T T, .slice (some ⟨ge, 0, none⟩) D.n D.n]) (by simp [results, Yba.results13, go_sem, r0, r1, r2]) rfl HEND.out

end Go.Proofs.Ybulkbtlq
