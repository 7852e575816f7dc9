/-
  byInvoice's walk: the loop that fills the groups.
-/
import Derived.Test.YbulkbtlqBy4
import Derived.Test.YbulkbtlqSlices
namespace Go.Proofs.Ybulkbtlq
open Go.RowKit
set_option linter.unusedVariables false

/-- 'make([]int32, total)', the length an int32. -/
theorem make32i (n : Nat) (hn : n ≤ 1000000) (w : World) : (Instr.makeSlice 29 (.int .i32 (n : Int)) (.int .i32 (n : Int))).run Yba.prog w =
    .ok (.slice (some ⟨w.heap.size, 0, none⟩) n n) (w.alloc (.cells (madeCells #[.int .i32 0] n) 21)) := by
  obtain ⟨i, hi, hz0, hz1, hz2⟩ := info_parts Yba.info21
  have h := run_make (P := Yba.prog) w 29 21 i (.int .i32 0) Yba.underlying29 hi hz0 .i32 .i32 (n : Int) (n : Int) (by omega) (by omega) (by rw [hz2]; omega) (by omega)
  rw [hz1] at h
  simpa [Value.cells] using h

theorem make32n (n : Nat) (hn : n ≤ 1000000) (w : World) : (Instr.makeSlice 29 (.int .i64 (n : Int)) (.int .i64 (n : Int))).run Yba.prog w =
    .ok (.slice (some ⟨w.heap.size, 0, none⟩) n n) (w.alloc (.cells (madeCells #[.int .i32 0] n) 21)) := by
  obtain ⟨i, hi, hz0, hz1, hz2⟩ := info_parts Yba.info21
  have h := run_make (P := Yba.prog) w 29 21 i (.int .i32 0) Yba.underlying29 hi hz0 .i64 .i64 (n : Int) (n : Int) (by omega) (by omega) (by rw [hz2]; omega) (by omega)
  rw [hz1] at h
  simpa [Value.cells] using h

theorem Fn.made (w : World) (n : Nat) : Fn (w.alloc (.cells (madeCells #[.int .i32 0] n) 21)) w.heap.size n (fun _ => 0) := by
  rw [madeCells_one]
  have e : ((List.range n).map fun _ => Value.int .i32 0) = List.replicate n (.int .i32 0) := by
    apply List.ext_getElem?
    intro k
    by_cases hk : k < n
    · simp [hk]
    · simp [hk]
  unfold Fn
  rw [e]
  exact Blk.new w 21 _

theorem Made.below {D : Ins} {B bd bc br bg : Nat} {gs : List Value} {w w' : World} (h : Made D B bd bc br bg gs w) (hb : Below w.heap.size w w') : Made D B bd bc br bg gs w' := by
  obtain ⟨v0, v1, v2, hv⟩ := h.r
  exact ⟨h.d.below hb h.d.lt, h.c.below hb h.c.lt, ⟨v0, v1, v2, hv.below hb hv.lt⟩, h.g.below hb h.g.lt, h.dB, h.cB, h.rB, h.gB, h.rg⟩

theorem Made.setG {D : Ins} {B bd bc br bg : Nat} {gs : List Value} {w : World} (h : Made D B bd bc br bg gs w) (i : Nat) (v : Value) : Made D B bd bc br bg (gs.set i v) (w.setCell ⟨bg, i, none⟩ v) := by
  obtain ⟨v0, v1, v2, hv⟩ := h.r
  exact ⟨h.d.other (a := ⟨bg, i, none⟩) (h.d.ne h.g (by decide)) v, h.c.other (a := ⟨bg, i, none⟩) (h.c.ne h.g (by decide)) v, ⟨v0, v1, v2, hv.other (a := ⟨bg, i, none⟩) h.rg v⟩, h.g.set i v, h.dB, h.cB, h.rB, h.gB, h.rg⟩

/-- .. where two blocks of int32s alone have turned. -/
theorem Made.ints2 {D : Ins} {B bd bc br bg : Nat} {gs : List Value} {w w' : World} (h : Made D B bd bc br bg gs w) {g L g' L' : Nat} {f f' : Nat → Int} (hf : Fn w g L f) (hf' : Fn w g' L' f') (hk : Kept [g, g'] w w') : Made D B bd bc br bg gs w' := by
  obtain ⟨v0, v1, v2, hv⟩ := h.r
  exact h.kept hk (by simp; exact ⟨h.d.ne hf (by decide), h.d.ne hf' (by decide)⟩) (by simp; exact ⟨h.c.ne hf (by decide), h.c.ne hf' (by decide)⟩) (by simp; exact ⟨hv.ne hf (by decide), hv.ne hf' (by decide)⟩) (by simp; exact ⟨h.g.ne hf (by decide), h.g.ne hf' (by decide)⟩)

theorem cnt_skip {K : Nat → Bool} {I : Nat → Nat} {i m : Nat} (h : K m = false) : cnt (gd K I i) (m + 1) = cnt (gd K I i) m := by
  show _ + (if gd K I i m = true then 1 else 0) = _
  rw [if_neg (by rw [gd_iff, h]; simp), Nat.add_zero]
theorem cnt_put {K : Nat → Bool} {I : Nat → Nat} {i m : Nat} (h : K m = true) (hi : I m = i) : cnt (gd K I i) (m + 1) = cnt (gd K I i) m + 1 := by
  show _ + (if gd K I i m = true then 1 else 0) = _
  rw [if_pos (gd_iff.2 ⟨h, hi⟩)]
theorem cnt_off {K : Nat → Bool} {I : Nat → Nat} {i m : Nat} (hi : I m ≠ i) : cnt (gd K I i) (m + 1) = cnt (gd K I i) m := by
  show _ + (if gd K I i m = true then 1 else 0) = _
  rw [if_neg (by rw [gd_iff]; exact fun h => hi h.2), Nat.add_zero]

set_option maxRecDepth 100000 in
set_option maxHeartbeats 4000000 in
theorem by3 (u6 u7 u9 u10 u14 u15 u17 u18 u19 u20 u21 u22 u23 u24 u25 u26 u27 u28 u29 u30 u31 u32 u33 u34 u35 u36 u37 u38 u39 u40 u41 u42 u43 u44 u45 u46 u47 u48 u49 u50 u51 u52 u53 u54 u55 u56 u57 u58 u59 u60 u61 u62 u63 u64 u65 u66 u67 u68 u69 u70 u71 u72 u73 u74 u75 u76 u77 u78 u79 u80 u81 u82 u83 u84 u85 u86 u87 u88 u89 u90 u91 u92 u93 u94 u95 u96 u97 u98 u99 u100 u101 u102 u103 u104 u105 u106 u107 u108 u109 u110 u111 u112 u113 u114 u115 u116 u117 u118 u119 u120 u121 u122 u123 u124 u125 : Value) (D : Ins) (B count bd bc br bg ge T : Nat) (f1 : Nat → Int) (w W : World) (R : Ending → World → Prop) (code : Code) (hcode : (Yba.f13.body).bind (seqTail 7) = some code)
    (hE : Env D B W) (hbel : Below B w W) (hM : Made D B bd bc br bg [.func (.func 7) #[] #[], .slice none 0 0, .slice (some ⟨ge, 0, none⟩) D.n D.n] W) (hge : B ≤ ge) (hT : T = start D.K D.I count D.n) (hc0 : count = D.len0) (hc5 : count ≤ 512) (hF1 : Fn W ge D.n f1) (hf1 : ∀ i, i < D.n → f1 i = ((start D.K D.I count i : Nat) : Int))
    (hfin : ∀ go f3 f1' w3, Fn w3 go T f3 → Fn w3 ge D.n f1' → (∀ i, i < D.n → f1' i = ((start D.K D.I count (i + 1) : Nat) : Int)) → Grouped D.κ D.K D.I count D.n D.n f3 → Below B w w3 → R (.returned (.agg #[.func (.func 7) #[] #[], .slice (some ⟨go, 0, none⟩) T T, .slice (some ⟨ge, 0, none⟩) D.n D.n])) w3) :
    code.wp Yba.prog (bodyPost Yba.prog Yba.f13 R) ⟨#[.int .i64 (D.n : Int), .int .i64 (count : Int), .func (.func 7) #[] #[], .func (.func 8) #[] #[.pointer (some D.pkeep)], .func (.func 9) #[] #[.pointer (some D.pinv), .pointer (some D.pn)], .func (.func 10) #[] #[.pointer (some D.pkey)], u6, u7, .pointer (some ⟨bd, 0, none⟩), u9, u10, .pointer (some ⟨bc, 0, none⟩), .pointer (some ⟨br, 0, none⟩), .pointer (some ⟨bg, 0, none⟩), u14, u15, .int .i32 (T : Int), u17, u18, u19, u20, u21, u22, u23, u24, u25, u26, u27, u28, u29, u30, u31, u32, u33, u34, u35, u36, u37, u38, u39, u40, u41, u42, u43, u44, u45, u46, u47, u48, u49, u50, u51, u52, u53, u54, u55, u56, u57, u58, u59, u60, u61, u62, u63, u64, u65, u66, u67, u68, u69, u70, u71, u72, u73, u74, u75, u76, u77, u78, u79, u80, u81, u82, u83, u84, u85, u86, u87, u88, u89, u90, u91, u92, u93, u94, u95, u96, u97, u98, u99, u100, u101, u102, u103, u104, u105, u106, u107, u108, u109, u110, u111, u112, u113, u114, u115, u116, u117, u118, u119, u120, u121, u122, u123, u124, u125], []⟩ W := by
  obtain rfl : code = _ := Option.some.inj (hcode.symm.trans (show (Yba.f13.body).bind (seqTail 7) = some _ from rfl))
  clear hcode
  have hT5 : T ≤ 512 := by rw [hT]; exact Nat.le_trans (start_le _) hc5
  have hmk := make32i T (by omega)
  have hn8 : D.n ≤ 8 := hE.n8
  have g1 := hM.g.at 1
  have z1 := hM.g.free 1
  simp only [List.getElem?_cons_zero, List.getElem?_cons_succ] at g1
  have hgo := hE.bd
  have hgeL := hF1.lt
  have hbgL := hM.g.lt
  have hM1 := hM.setG 1 (.slice (some ⟨W.heap.size, 0, none⟩) T T)
  have kg : Kept [bg] W (W.setCell ⟨bg, 1, none⟩ (.slice (some ⟨W.heap.size, 0, none⟩) T T)) := (Kept.refl _ _).setCell (.inl (by simp)) _
  have hsz : (W.setCell ⟨bg, 1, none⟩ (.slice (some ⟨W.heap.size, 0, none⟩) T T)).heap.size = W.heap.size := by simp [World.setCell]
  have hb1 : Below (W.setCell ⟨bg, 1, none⟩ (.slice (some ⟨W.heap.size, 0, none⟩) T T)).heap.size (W.setCell ⟨bg, 1, none⟩ (.slice (some ⟨W.heap.size, 0, none⟩) T T)) ((W.setCell ⟨bg, 1, none⟩ (.slice (some ⟨W.heap.size, 0, none⟩) T T)).alloc (.cells (madeCells #[.int .i32 0] T) 21)) := (Below.refl _ _).alloc (Nat.le_refl _) _
  have hM2 : Made D B bd bc br bg [.func (.func 7) #[] #[], .slice (some ⟨W.heap.size, 0, none⟩) T T, .slice (some ⟨ge, 0, none⟩) D.n D.n] _ := hM1.below hb1
  have hFo := Fn.made (W.setCell ⟨bg, 1, none⟩ (.slice (some ⟨W.heap.size, 0, none⟩) T T)) T
  rw [hsz] at hFo
  have hF2 := hF1.kept kg (by simp; exact fun e => hM.g.ne hF1 (by decide) e.symm)
  have hF1' : Fn ((W.setCell ⟨bg, 1, none⟩ (.slice (some ⟨W.heap.size, 0, none⟩) T T)).alloc (.cells (madeCells #[.int .i32 0] T) 21)) ge D.n f1 := Blk.below hF2 hb1 hF2.lt
  have hbB : Below B w ((W.setCell ⟨bg, 1, none⟩ (.slice (some ⟨W.heap.size, 0, none⟩) T T)).alloc (.cells (madeCells #[.int .i32 0] T) 21)) := (hbel.setCell (p := ⟨bg, 1, none⟩) hM.gB _).alloc (by rw [hsz]; exact hE.bd) _
  have hE2 := hE.below (((Below.refl B W).setCell (p := ⟨bg, 1, none⟩) hM.gB (.slice (some ⟨W.heap.size, 0, none⟩) T T)).alloc (by rw [hsz]; exact hE.bd) (.cells (madeCells #[.int .i32 0] T) 21))
  have HE := hide hE2
  have HM := hide hM2
  have HF1 := hide hF1'
  have HFO := hide hFo
  have Hf1 := hide hf1
  have HFIN := hide hfin
  have HT := hide hT
  have HBEL := hide hbB
  have HC0 := hide hc0
  clear hE hM hF1 hf1 hfin hT hbel hM1 hM2 kg hFo hF1' hF2 hbB hE2 hb1 hc0 hsz
  dsimp only
  refine wp_seq_rest fun K hK => ?_
  go_wp2
  clear hmk g1 z1
  have hgoge : W.heap.size ≠ ge := by omega
  generalize (W.setCell ⟨bg, 1, none⟩ (.slice (some ⟨W.heap.size, 0, none⟩) T T)).alloc (.cells (madeCells #[.int .i32 0] T) 21) = W2 at *
  generalize W.heap.size = go at *
  refine wp_seq_rest fun K hK => ?_
  go_wp2
  go_loopw [75] (fun t wr => ∃ (m : Nat) (f1' f2' : Nat → Int), m ≤ count ∧ t = .int .i64 (m : Int) ∧ Fn wr ge D.n f1' ∧ (∀ i, i < D.n → f1' i = ((start D.K D.I count i + cnt (gd D.K D.I i) m : Nat) : Int)) ∧ Fn wr go T f2' ∧ Filled D.K D.I count D.n m f2' ∧ Kept [ge, go] W2 wr) (fun t _ => count - (intOf t).toNat)
  case atStart => exact ⟨0, f1, _, Nat.zero_le _, rfl, HF1.out, fun i hi => by rw [Hf1.out i hi]; simp [cnt], HFO.out, Filled.zero _ _, Kept.refl _ _⟩
  case round =>
    obtain ⟨m, f3, f4, hmc, rfl, hF3, hf3, hF4, hfl, hK3⟩ := hrel
    have hgeS : B ≤ ge := hge
    have HE3 := hide (HE.out.below (hK3.toBelow HE.out.bd (by simp; exact ⟨hgeS, hgo⟩)))
    have HM3 := hide (HM.out.ints2 HF1.out HFO.out hK3)
    have HF3 := hide hF3
    have Hf3 := hide hf3
    have HF4 := hide hF4
    have Hfl := hide hfl
    have HK3 := hide hK3
    clear hF3 hf3 hF4 hfl hK3
    by_cases hlt : m < count
    · have hltI : (m : Int) < (count : Int) := by omega
      have d0 := HM3.out.d.at 0
      simp only [List.getElem?_cons_zero] at d0
      have HDOC := hide (fun x w => doc_any x w)
      have HKP := hide (HE3.out.keep m)
      have HR := hide (HE3.out.inv m (by rw [← HC0.out]; exact hlt))
      cases hkm : D.K m with
      | false =>
        rw [hkm] at HKP
        go_wp2_with fail
        refine (HDOC.out _ _).mono ?_
        rintro x w4 ⟨rfl, rfl⟩
        go_wp2_with fail
        refine HKP.out.mono ?_
        rintro x w4 ⟨rfl, rfl⟩
        go_wp2
        go_roundw
        case rel => exact ⟨m + 1, f3, f4, by omega, by go_num, HF3.out, fun i hi => by rw [Hf3.out i hi, cnt_skip hkm], HF4.out, Hfl.out.skip hkm, HK3.out⟩
        case measure => simp [intOf]; omega
      | true =>
        rw [hkm] at HKP
        go_wp2_with fail
        refine (HDOC.out _ _).mono ?_
        rintro x w4 ⟨rfl, rfl⟩
        go_wp2_with fail
        refine HKP.out.mono ?_
        rintro x w4 ⟨rfl, rfl⟩
        go_wp2_with fail
        refine HR.out.mono ?_
        rintro x w5 ⟨rfl, dm, rfl⟩
        obtain ⟨i, hi⟩ : ∃ i, D.I m = i := ⟨_, rfl⟩
        have hin : i < D.n := by rw [← hi]; exact HE3.out.I_lt m
        obtain ⟨p, hp⟩ : ∃ p, start D.K D.I count i + cnt (gd D.K D.I i) m = p := ⟨_, rfl⟩
        have hpT : p < T := by
          have h1 : cnt (gd D.K D.I i) (m + 1) ≤ cnt (gd D.K D.I i) count := cnt_mono _ (by omega)
          have h2 : cnt (gd D.K D.I i) (m + 1) = cnt (gd D.K D.I i) m + 1 := cnt_put hkm hi
          have h3 := start_next (K := D.K) (I := D.I) (count := count) hin
          have h4 := HT.out
          omega
        have HF5 := hide (HF3.out.drewN dm)
        have HF6 := hide (HF4.out.drewN dm)
        have HK5 := hide (HK3.out.drewN dm)
        have HM5 := hide (HM3.out.ints HF3.out ((Kept.refl [ge] w4).drewN dm))
        clear HF3 HF4 HK3 HM3 HE3 d0 HDOC HKP HR
        dsimp only
        generalize w4.drewN dm = w5 at *
        rw [hi]
        have c1 := HF5.out.at hin
        have z1 := HF5.out.free i
        rw [Hf3.out i hin, hp] at c1
        have c2 := HF6.out.at hpT
        have z2 := HF6.out.free p
        have g1 := HM5.out.g.at 1
        have g2 := HM5.out.g.at 2
        simp only [List.getElem?_cons_zero, List.getElem?_cons_succ] at g1 g2
        have HI := hide hi
        have HP := hide hp
        clear hi hp
        have hinI : (i : Int) < (D.n : Int) := by omega
        have hpTI : (p : Int) < (T : Int) := by omega
        have wp1 : IntKind.i32.wrap ((p : Int) + 1) = (p : Int) + 1 := by rw [IntKind.wrap_i32]; omega
        have wp2 : IntKind.i32.wrap (m : Int) = (m : Int) := by rw [IntKind.wrap_i32]; omega
        go_wp2_with fail
        go_region
        have HF7 := hide ((HF6.out.set p (m : Int)).drew)
        have HF8 := hide (show Fn ((w5.setCell ⟨go, p, none⟩ (.int .i32 (m : Int))).drew) ge D.n f3 from HF5.out.kept ((Kept.refl [go] w5).setCell (p := ⟨go, p, none⟩) (.inl (by simp)) (.int .i32 (m : Int))).drew (by simp; exact fun e => hgoge e.symm))
        have HK7 := hide ((HK5.out.setCell (p := ⟨go, p, none⟩) (.inl (by simp)) (.int .i32 (m : Int))).drew)
        have HM7 := hide (HM5.out.ints HF6.out ((Kept.refl [go] w5).setCell (p := ⟨go, p, none⟩) (.inl (by simp)) (.int .i32 (m : Int))).drew)
        clear HF5 HF6 HK5 HM5 c1 z1 c2 z2 g1 g2
        generalize (w5.setCell ⟨go, p, none⟩ (.int .i32 (m : Int))).drew = w6 at *
        have c1 := HF8.out.at hin
        have z1 := HF8.out.free i
        rw [Hf3.out i hin, HP.out] at c1
        have g2 := HM7.out.g.at 2
        simp only [List.getElem?_cons_zero, List.getElem?_cons_succ] at g2
        go_wp2
        go_roundw
        case rel =>
          refine ⟨m + 1, upd f3 i ((p : Int) + 1), upd f4 p (m : Int), by omega, by go_num, HF8.out.set i _, ?_, HF7.out.kept ((Kept.refl [ge] w6).setCell (p := ⟨ge, i, none⟩) (.inl (by simp)) _) (by simp; exact hgoge), ?_, HK7.out.setCell (p := ⟨ge, i, none⟩) (.inl (by simp)) _⟩
          · intro i' hi'
            have e1 := HI.out
            have e2 := HP.out
            unfold upd
            by_cases e : i' = i
            · rw [if_pos e, e, cnt_put hkm e1]
              omega
            · rw [if_neg e, Hf3.out i' hi', cnt_off (fun h => e (h.symm.trans e1))]
          · have := Hfl.out.put hlt hkm (by rw [HI.out]; exact hin)
            rw [HI.out, HP.out] at this
            exact this
        case measure => simp [intOf]; omega
    · have hmm : m = count := by omega
      have hltI : ¬ (m : Int) < (count : Int) := by omega
      have HG := hide (show Grouped D.κ D.K D.I count D.n 0 f4 from Filled.grouped (by have := Hfl.out; rw [hmm] at this; exact this))
      have Hff := hide (show ∀ i, i < D.n → f3 i = ((start D.K D.I count (i + 1) : Nat) : Int) from fun i hi => by rw [Hf3.out i hi, hmm]; rfl)
      have HB3 := hide (HBEL.out.trans (HK3.out.toBelow HE.out.bd (by simp; exact ⟨hgeS, hgo⟩)))
      have hgo' := hgo
      go_wp2
      refine by4 _ _ _ _ _ _ _ _ _ _ _ _ _ _ _ _ _ _ _ _ _ _ _ _ _ _ _ _ _ _ _ _ _ _ _ _ _ _ _ _ _ _ _ _ _ _ _ _ _ _ _ _ _ _ _ _ _ _ _ _ _ _ _ _ _ _ _ _ _ _ _ _ _ _ _ _ _ _ _ _ _ _ _ _ _ _ _ _ _ _ _ _ _ _ _ _ _ _ _ _ _ _ _ _ _ _ _ _ _ _ _ _ _ _ _ _ D B count bd bc br bg go ge T f3 f4 _ R _ rfl HE3.out HM3.out hgo' hgoge HT.out hc5 HF3.out Hff.out HF4.out HG.out ?_
      intro f5 w5 hF5 hF5' hG5 hK5
      exact HFIN.out go f5 f3 w5 hF5 hF5' Hff.out hG5 (HB3.out.trans (hK5.toBelow HE3.out.bd (by simp; exact ⟨hgo', HM3.out.rB⟩)))

end Go.Proofs.Ybulkbtlq
