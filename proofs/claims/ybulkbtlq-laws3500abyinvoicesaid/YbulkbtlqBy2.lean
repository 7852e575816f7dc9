/-
  byInvoice's walk: the loop of the starts.
-/
import Derived.Test.YbulkbtlqBy3
namespace Go.Proofs.Ybulkbtlq
open Go.RowKit
set_option linter.unusedVariables false

set_option maxRecDepth 100000 in
set_option maxHeartbeats 4000000 in
theorem by2 (u6 u7 u9 u10 u14 u15 u16 u17 u18 u19 u20 u21 u22 u23 u24 u25 u26 u27 u28 u29 u30 u31 u32 u33 u34 u35 u36 u37 u38 u39 u40 u41 u42 u43 u44 u45 u46 u47 u48 u49 u50 u51 u52 u53 u54 u55 u56 u57 u58 u59 u60 u61 u62 u63 u64 u65 u66 u67 u68 u69 u70 u71 u72 u73 u74 u75 u76 u77 u78 u79 u80 u81 u82 u83 u84 u85 u86 u87 u88 u89 u90 u91 u92 u93 u94 u95 u96 u97 u98 u99 u100 u101 u102 u103 u104 u105 u106 u107 u108 u109 u110 u111 u112 u113 u114 u115 u116 u117 u118 u119 u120 u121 u122 u123 u124 u125 : Value) (D : Ins) (B count bd bc br bg ge : Nat) (f1 : Nat → Int) (w W : World) (R : Ending → World → Prop) (code : Code) (hcode : (Yba.f13.body).bind (seqTail 5) = some code)
    (hE : Env D B W) (hbel : Below B w W) (hM : Made D B bd bc br bg [.func (.func 7) #[] #[], .slice none 0 0, .slice (some ⟨ge, 0, none⟩) D.n D.n] W) (hge : B ≤ ge) (hc0 : count = D.len0) (hc5 : count ≤ 512) (hF1 : Fn W ge D.n f1) (hf1 : ∀ i, i < D.n → f1 i = ((cnt (gd D.K D.I i) count : Nat) : Int))
    (hfin : ∀ T go f3 f1' w3, T = start D.K D.I count D.n → Fn w3 go T f3 → Fn w3 ge D.n f1' → (∀ i, i < D.n → f1' i = ((start D.K D.I count (i + 1) : Nat) : Int)) → Grouped D.κ D.K D.I count D.n D.n f3 → Below B w w3 → R (.returned (.agg #[.func (.func 7) #[] #[], .slice (some ⟨go, 0, none⟩) T T, .slice (some ⟨ge, 0, none⟩) D.n D.n])) w3) :
    code.wp Yba.prog (bodyPost Yba.prog Yba.f13 R) ⟨#[.int .i64 (D.n : Int), .int .i64 (count : Int), .func (.func 7) #[] #[], .func (.func 8) #[] #[.pointer (some D.pkeep)], .func (.func 9) #[] #[.pointer (some D.pinv), .pointer (some D.pn)], .func (.func 10) #[] #[.pointer (some D.pkey)], u6, u7, .pointer (some ⟨bd, 0, none⟩), u9, u10, .pointer (some ⟨bc, 0, none⟩), .pointer (some ⟨br, 0, none⟩), .pointer (some ⟨bg, 0, none⟩), u14, u15, u16, u17, u18, u19, u20, u21, u22, u23, u24, u25, u26, u27, u28, u29, u30, u31, u32, u33, u34, u35, u36, u37, u38, u39, u40, u41, u42, u43, u44, u45, u46, u47, u48, u49, u50, u51, u52, u53, u54, u55, u56, u57, u58, u59, u60, u61, u62, u63, u64, u65, u66, u67, u68, u69, u70, u71, u72, u73, u74, u75, u76, u77, u78, u79, u80, u81, u82, u83, u84, u85, u86, u87, u88, u89, u90, u91, u92, u93, u94, u95, u96, u97, u98, u99, u100, u101, u102, u103, u104, u105, u106, u107, u108, u109, u110, u111, u112, u113, u114, u115, u116, u117, u118, u119, u120, u121, u122, u123, u124, u125], []⟩ W := by
  obtain rfl : code = _ := Option.some.inj (hcode.symm.trans (show (Yba.f13.body).bind (seqTail 5) = some _ from rfl))
  clear hcode
  have hn8 : D.n ≤ 8 := hE.n8
  have g2 := hM.g.at 2
  simp only [List.getElem?_cons_zero, List.getElem?_cons_succ] at g2
  have HE := hide hE
  have HM := hide hM
  have HF1 := hide hF1
  have Hf1 := hide hf1
  have HFIN := hide hfin
  have HBEL := hide hbel
  have HC0 := hide hc0
  clear hE hM hF1 hf1 hfin hbel hc0
  dsimp only
  refine wp_seq_rest fun K hK => ?_
  go_wp2
  refine wp_seq_rest fun K hK => ?_
  go_wp2
  go_loopw [16, 57] (fun t1 t2 wr => ∃ (j : Nat) (f' : Nat → Int), j ≤ D.n ∧ t1 = .int .i32 ((start D.K D.I count j : Nat) : Int) ∧ t2 = .int .i64 (j : Int) ∧ Fn wr ge D.n f' ∧ Kept [ge] W wr ∧ (∀ i, i < D.n → f' i = (((if i < j then start D.K D.I count i else cnt (gd D.K D.I i) count) : Nat) : Int))) (fun t1 t2 _ => D.n - (intOf t2).toNat)
  case atStart => exact ⟨0, f1, Nat.zero_le _, rfl, rfl, HF1.out, Kept.refl _ _, fun i hi => by rw [Hf1.out i hi, if_neg (by omega)]⟩
  case round =>
    obtain ⟨j, f3, hjn, rfl, rfl, hF3, hK3, hf3⟩ := hrel
    have HF3 := hide hF3
    have HK3 := hide hK3
    have Hf3 := hide hf3
    have HM3 := hide (HM.out.ints HF1.out hK3)
    clear hF3 hK3 hf3 g2
    have g2 := HM3.out.g.at 2
    simp only [List.getElem?_cons_zero, List.getElem?_cons_succ] at g2
    by_cases hlt : j < D.n
    · have hltI : (j : Int) < (D.n : Int) := by omega
      obtain ⟨s, hs⟩ : ∃ s, start D.K D.I count j = s := ⟨_, rfl⟩
      obtain ⟨c, hc⟩ : ∃ c, cnt (gd D.K D.I j) count = c := ⟨_, rfl⟩
      have hsc : s + c ≤ 512 := by
        have h1 : start D.K D.I count (j + 1) = s + c := by rw [← hs, ← hc]; rfl
        have h2 := start_le (K := D.K) (I := D.I) (count := count) (j + 1)
        omega
      have c1 := HF3.out.at hlt
      have z1 := HF3.out.free j
      rw [Hf3.out j hlt, if_neg (Nat.lt_irrefl j), hc] at c1
      have HS := hide hs
      have HC := hide hc
      rw [hs]
      clear hs hc
      have wp1 : IntKind.i32.wrap ((s : Int) + (c : Int)) = (s : Int) + (c : Int) := by rw [IntKind.wrap_i32]; omega
      go_wp2
      go_roundw
      case rel =>
        refine ⟨j + 1, upd f3 j (s : Int), by omega, ?_, by go_num, HF3.out.set j _, HK3.out.setCell (p := ⟨ge, j, none⟩) (.inl (by simp)) _, ?_⟩
        · have : start D.K D.I count (j + 1) = s + c := by rw [← HS.out, ← HC.out]; rfl
          rw [this]
          push_cast
          rfl
        · intro i hi
          unfold upd
          by_cases e : i = j
          · rw [if_pos e, if_pos (by omega), e, HS.out]
          · rw [if_neg e, Hf3.out i hi]
            by_cases h : i < j
            · rw [if_pos h, if_pos (by omega)]
            · rw [if_neg h, if_neg (by omega)]
      case measure => simp [intOf]; omega
    · have hjj : j = D.n := by omega
      have hltI : ¬ (j : Int) < (D.n : Int) := by omega
      have HE3 := hide (HE.out.below (HK3.out.toBelow HE.out.bd (by simp; exact hge)))
      have HB3 := hide (HBEL.out.trans (HK3.out.toBelow HE.out.bd (by simp; exact hge)))
      have Hff := hide (show ∀ i, i < D.n → f3 i = ((start D.K D.I count i : Nat) : Int) from fun i hi => by rw [Hf3.out i hi, if_pos (by omega)])
      obtain ⟨s, hs⟩ : ∃ s, start D.K D.I count j = s := ⟨_, rfl⟩
      have HS := hide (show s = start D.K D.I count D.n by rw [← hjj]; exact hs.symm)
      rw [hs]
      clear hs
      have hge' := hge
      go_wp2
      refine by3 _ _ _ _ _ _ _ _ _ _ _ _ _ _ _ _ _ _ _ _ _ _ _ _ _ _ _ _ _ _ _ _ _ _ _ _ _ _ _ _ _ _ _ _ _ _ _ _ _ _ _ _ _ _ _ _ _ _ _ _ _ _ _ _ _ _ _ _ _ _ _ _ _ _ _ _ _ _ _ _ _ _ _ _ _ _ _ _ _ _ _ _ _ _ _ _ _ _ _ _ _ _ _ _ _ _ _ _ _ _ _ _ _ _ _ D B count bd bc br bg ge s f3 w _ R _ rfl HE3.out HB3.out HM3.out hge' HS.out HC0.out hc5 HF3.out Hff.out ?_
      intro go f5 f1' w5 h1 h2 h3 h4 h5
      exact HFIN.out s go f5 f1' w5 HS.out h1 h2 h3 h4 h5

end Go.Proofs.Ybulkbtlq
