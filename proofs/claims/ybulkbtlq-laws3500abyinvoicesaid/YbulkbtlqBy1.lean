/-
  byInvoice's walk: the counting loop.
-/
import Derived.Test.YbulkbtlqBy2
import Derived.Deep.RegionWith
namespace Go.Proofs.Ybulkbtlq
open Go.RowKit
set_option linter.unusedVariables false

set_option maxRecDepth 100000 in
set_option maxHeartbeats 4000000 in
theorem by1 (u6 u7 u9 u10 u14 u15 u16 u17 u18 u19 u20 u21 u22 u23 u24 u25 u26 u27 u28 u29 u30 u31 u32 u33 u34 u35 u36 u37 u38 u39 u40 u41 u42 u43 u44 u45 u46 u47 u48 u49 u50 u51 u52 u53 u54 u55 u56 u57 u58 u59 u60 u61 u62 u63 u64 u65 u66 u67 u68 u69 u70 u71 u72 u73 u74 u75 u76 u77 u78 u79 u80 u81 u82 u83 u84 u85 u86 u87 u88 u89 u90 u91 u92 u93 u94 u95 u96 u97 u98 u99 u100 u101 u102 u103 u104 u105 u106 u107 u108 u109 u110 u111 u112 u113 u114 u115 u116 u117 u118 u119 u120 u121 u122 u123 u124 u125 : Value) (D : Ins) (B count bd bc br bg : Nat) (w W : World) (R : Ending → World → Prop) (code : Code) (hcode : (Yba.f13.body).bind (seqTail 3) = some code)
    (hE : Env D B W) (hbel : Below B w W) (hM : Made D B bd bc br bg [.func (.func 7) #[] #[], .slice none 0 0, .slice none 0 0] W) (hc0 : count = D.len0) (hc5 : count ≤ 512)
    (hfin : ∀ T ge go f3 f1' w3, T = start D.K D.I count D.n → Fn w3 go T f3 → Fn w3 ge D.n f1' → (∀ i, i < D.n → f1' i = ((start D.K D.I count (i + 1) : Nat) : Int)) → Grouped D.κ D.K D.I count D.n D.n f3 → Below B w w3 → R (.returned (.agg #[.func (.func 7) #[] #[], .slice (some ⟨go, 0, none⟩) T T, .slice (some ⟨ge, 0, none⟩) D.n D.n])) w3) :
    code.wp Yba.prog (bodyPost Yba.prog Yba.f13 R) ⟨#[.int .i64 (D.n : Int), .int .i64 (count : Int), .func (.func 7) #[] #[], .func (.func 8) #[] #[.pointer (some D.pkeep)], .func (.func 9) #[] #[.pointer (some D.pinv), .pointer (some D.pn)], .func (.func 10) #[] #[.pointer (some D.pkey)], u6, u7, .pointer (some ⟨bd, 0, none⟩), u9, u10, .pointer (some ⟨bc, 0, none⟩), .pointer (some ⟨br, 0, none⟩), .pointer (some ⟨bg, 0, none⟩), u14, u15, u16, u17, u18, u19, u20, u21, u22, u23, u24, u25, u26, u27, u28, u29, u30, u31, u32, u33, u34, u35, u36, u37, u38, u39, u40, u41, u42, u43, u44, u45, u46, u47, u48, u49, u50, u51, u52, u53, u54, u55, u56, u57, u58, u59, u60, u61, u62, u63, u64, u65, u66, u67, u68, u69, u70, u71, u72, u73, u74, u75, u76, u77, u78, u79, u80, u81, u82, u83, u84, u85, u86, u87, u88, u89, u90, u91, u92, u93, u94, u95, u96, u97, u98, u99, u100, u101, u102, u103, u104, u105, u106, u107, u108, u109, u110, u111, u112, u113, u114, u115, u116, u117, u118, u119, u120, u121, u122, u123, u124, u125], []⟩ W := by
  obtain rfl : code = _ := Option.some.inj (hcode.symm.trans (show (Yba.f13.body).bind (seqTail 3) = some _ from rfl))
  clear hcode
  have hn8 : D.n ≤ 8 := hE.n8
  have hmk := make32n D.n (by omega)
  have g2 := hM.g.at 2
  have z2 := hM.g.free 2
  simp only [List.getElem?_cons_zero, List.getElem?_cons_succ] at g2
  have hgo := hE.bd
  have hbgL := hM.g.lt
  have hM1 := hM.setG 2 (.slice (some ⟨W.heap.size, 0, none⟩) D.n D.n)
  have hsz : (W.setCell ⟨bg, 2, none⟩ (.slice (some ⟨W.heap.size, 0, none⟩) D.n D.n)).heap.size = W.heap.size := by simp [World.setCell]
  have hb1 : Below (W.setCell ⟨bg, 2, none⟩ (.slice (some ⟨W.heap.size, 0, none⟩) D.n D.n)).heap.size (W.setCell ⟨bg, 2, none⟩ (.slice (some ⟨W.heap.size, 0, none⟩) D.n D.n)) ((W.setCell ⟨bg, 2, none⟩ (.slice (some ⟨W.heap.size, 0, none⟩) D.n D.n)).alloc (.cells (madeCells #[.int .i32 0] D.n) 21)) := (Below.refl _ _).alloc (Nat.le_refl _) _
  have hM2 : Made D B bd bc br bg [.func (.func 7) #[] #[], .slice none 0 0, .slice (some ⟨W.heap.size, 0, none⟩) D.n D.n] _ := hM1.below hb1
  have hFo := Fn.made (W.setCell ⟨bg, 2, none⟩ (.slice (some ⟨W.heap.size, 0, none⟩) D.n D.n)) D.n
  rw [hsz] at hFo
  have hbB : Below B w ((W.setCell ⟨bg, 2, none⟩ (.slice (some ⟨W.heap.size, 0, none⟩) D.n D.n)).alloc (.cells (madeCells #[.int .i32 0] D.n) 21)) := (hbel.setCell (p := ⟨bg, 2, none⟩) hM.gB _).alloc (by rw [hsz]; exact hE.bd) _
  have hE2 := hE.below (((Below.refl B W).setCell (p := ⟨bg, 2, none⟩) hM.gB (.slice (some ⟨W.heap.size, 0, none⟩) D.n D.n)).alloc (by rw [hsz]; exact hE.bd) (.cells (madeCells #[.int .i32 0] D.n) 21))
  have HE := hide hE2
  have HM := hide hM2
  have HFO := hide hFo
  have HFIN := hide hfin
  have HBEL := hide hbB
  have HC0 := hide hc0
  clear hE hM hfin hbel hM1 hM2 hFo hbB hE2 hb1 hc0 hsz
  dsimp only
  refine wp_seq_rest fun K hK => ?_
  go_wp2
  clear hmk g2 z2
  generalize (W.setCell ⟨bg, 2, none⟩ (.slice (some ⟨W.heap.size, 0, none⟩) D.n D.n)).alloc (.cells (madeCells #[.int .i32 0] D.n) 21) = W2 at *
  generalize W.heap.size = ge at *
  refine wp_seq_rest fun K hK => ?_
  go_wp2
  go_loopw [35] (fun t wr => ∃ (m : Nat) (f1' : Nat → Int), m ≤ count ∧ t = .int .i64 (m : Int) ∧ Fn wr ge D.n f1' ∧ (∀ i, i < D.n → f1' i = ((cnt (gd D.K D.I i) m : Nat) : Int)) ∧ Kept [ge] W2 wr) (fun t _ => count - (intOf t).toNat)
  case atStart => exact ⟨0, _, Nat.zero_le _, rfl, HFO.out, fun i hi => rfl, Kept.refl _ _⟩
  case round =>
    obtain ⟨m, f3, hmc, rfl, hF3, hf3, hK3⟩ := hrel
    have HE3 := hide (HE.out.below (hK3.toBelow HE.out.bd (by simp; exact hgo)))
    have HM3 := hide (HM.out.ints HFO.out hK3)
    have HF3 := hide hF3
    have Hf3 := hide hf3
    have HK3 := hide hK3
    clear hF3 hf3 hK3
    by_cases hlt : m < count
    · have hltI : (m : Int) < (count : Int) := by omega
      have d0 := HM3.out.d.at 0
      simp only [List.getElem?_cons_zero] at d0
      have HDOC := hide (fun x w => doc_any x w)
      have HKP := hide (HE3.out.keep m)
      cases hkm : D.K m with
      | false =>
        rw [hkm] at HKP
        go_wp2_with fail
        refine (HDOC.out _ _).mono ?_
        rintro x w4 ⟨rfl, rfl⟩
        go_wp2_with fail
        refine HKP.out.mono ?_
        rintro x w4 ⟨rfl, rfl⟩
        go_wp2
        go_roundw
        case rel => exact ⟨m + 1, f3, by omega, by go_num, HF3.out, fun i hi => by rw [Hf3.out i hi, cnt_skip hkm], HK3.out⟩
        case measure => simp [intOf]; omega
      | true =>
        rw [hkm] at HKP
        go_wp2_with fail
        refine (HDOC.out _ _).mono ?_
        rintro x w4 ⟨rfl, rfl⟩
        go_wp2_with fail
        refine HKP.out.mono ?_
        rintro x w4 ⟨rfl, rfl⟩
        have HR := hide ((HE3.out.below (((Kept.refl [ge] w4).drew).toBelow HE3.out.bd (by simp; exact hgo))).inv m (by rw [← HC0.out]; exact hlt))
        obtain ⟨i, hi⟩ : ∃ i, D.I m = i := ⟨_, rfl⟩
        have hin : i < D.n := by rw [← hi]; exact HE3.out.I_lt m
        rw [hi] at HR
        have HI := hide hi
        clear hi HDOC HKP d0
        obtain ⟨p, hp⟩ : ∃ p, cnt (gd D.K D.I i) m = p := ⟨_, rfl⟩
        have hp5 : p ≤ 512 := by have := cnt_le (gd D.K D.I i) m; omega
        have hinI : (i : Int) < (D.n : Int) := by omega
        have wp1 : IntKind.i32.wrap ((p : Int) + 1) = (p : Int) + 1 := by rw [IntKind.wrap_i32]; omega
        have g2 := HM3.out.g.at 2
        simp only [List.getElem?_cons_zero, List.getElem?_cons_succ] at g2
        have c1 := HF3.out.at hin
        have z1 := HF3.out.free i
        rw [Hf3.out i hin, hp] at c1
        have HP := hide hp
        clear hp
        have hgebg : ¬ bg = ge := HM3.out.g.ne HF3.out (by decide)
        go_wp2_with fail
        go_region_with (first | (go_at_call 9; refine HR.out.mono ?_; rintro x w5 ⟨rfl, dm, rfl⟩))
        all_goals
          have HF7 := hide (HF3.out.drewN (1 + dm))
          have HK7 := hide (HK3.out.drewN (1 + dm))
          clear HF3 HK3 HM3 HE3 c1 z1 g2 HR
          generalize w4.drewN (1 + dm) = w5 at *
          go_wp2
          go_roundw
          case rel =>
            refine ⟨m + 1, upd f3 i ((p : Int) + 1), by omega, by go_num, HF7.out.set i _, ?_, HK7.out.setCell (p := ⟨ge, i, none⟩) (.inl (by simp)) _⟩
            intro i' hi'
            have e1 := HI.out
            have e2 := HP.out
            unfold upd
            by_cases e : i' = i
            · rw [if_pos e, e, cnt_put hkm e1]
              omega
            · rw [if_neg e, Hf3.out i' hi', cnt_off (fun h => e (h.symm.trans e1))]
          case measure => simp [intOf]; omega
    · have hmm : m = count := by omega
      have hltI : ¬ (m : Int) < (count : Int) := by omega
      have Hff := hide (show ∀ i, i < D.n → f3 i = ((cnt (gd D.K D.I i) count : Nat) : Int) from fun i hi => by rw [Hf3.out i hi, hmm])
      have HB3 := hide (HBEL.out.trans (HK3.out.toBelow HE.out.bd (by simp; exact hgo)))
      have hgo' := hgo
      go_wp2
      refine by2 _ _ _ _ _ _ _ _ _ _ _ _ _ _ _ _ _ _ _ _ _ _ _ _ _ _ _ _ _ _ _ _ _ _ _ _ _ _ _ _ _ _ _ _ _ _ _ _ _ _ _ _ _ _ _ _ _ _ _ _ _ _ _ _ _ _ _ _ _ _ _ _ _ _ _ _ _ _ _ _ _ _ _ _ _ _ _ _ _ _ _ _ _ _ _ _ _ _ _ _ _ _ _ _ _ _ _ _ _ _ _ _ _ _ _ _ D B count bd bc br bg ge f3 w _ R _ rfl HE3.out HB3.out HM3.out hgo' HC0.out hc5 HF3.out Hff.out ?_
      intro T go f5 f1' w5 h0 h1 h2 h3 h4 h5
      exact HFIN.out T ge go f5 f1' w5 h0 h1 h2 h3 h4 h5

end Go.Proofs.Ybulkbtlq
