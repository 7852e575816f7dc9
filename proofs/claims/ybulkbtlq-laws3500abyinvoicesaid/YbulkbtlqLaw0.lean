/-
  The law whole.
-/
import Derived.Test.YbulkbtlqLawA
import Derived.WalkSpells
namespace Go.Proofs.Ybulkbtlq
open Go.RowKit
set_option linter.unusedVariables false

theorem neq29 (w : World) : (binOp .neq 29 (.slice none 0 0) (.slice none 0 0)).run Yba.prog w = .ok (.bool false) w := run_neq_slice_nil_any w _ _ none 0 0 0 0 Yba.underlying29

theorem Row.lt {w : World} {a : Option Addr} {len : Nat} {f : Nat → Value} (h : Row w a len f) : ∀ x, a = some x → 0 < len → x.block < w.heap.size := by
  intro x hx hl
  rcases h with ⟨h1, h2⟩ | ⟨y, hy, hc⟩
  · omega
  · have e : y = x := Option.some.inj (hy.symm.trans hx)
    subst e
    have := Go.block_lt_of_cell (hc 0 hl)
    rwa [Go.ChangeShapes.block_add] at this

theorem Env.start {a0 a1 a2 : Option Addr} {len0 len1 len2 : Nat} (cap0 cap1 cap2 n : Nat) {iv : Nat → Int} {kp : Nat → Bool} {ky : Nat → Int} {w : World} (hn1 : 0 < n) (hn8 : n ≤ 8) (h0 : Row w a0 len0 (fun i => .int .u8 (iv i))) (h0' : ∀ i, i < len0 → 0 ≤ iv i ∧ iv i ≤ 255)
    (h1 : Row w a1 len1 (fun i => .bool (kp i))) (h2 : Row w a2 len2 (fun i => .int .i8 (ky i))) (h2' : ∀ i, i < len2 → -128 ≤ ky i ∧ ky i ≤ 127) :
    Env ⟨a0, a1, a2, len0, cap0, len1, cap1, len2, cap2, iv, kp, ky, n, ⟨w.heap.size, 0, none⟩, ⟨w.heap.size + 1, 0, none⟩, ⟨w.heap.size + 1 + 1, 0, none⟩, ⟨w.heap.size + 1 + 1 + 1, 0, none⟩⟩ (w.heap.size + 4) ((((w.alloc (.cells #[.slice a0 len0 cap0] 22)).alloc (.cells #[.slice a1 len1 cap1] 23)).alloc (.cells #[.slice a2 len2 cap2] 24)).alloc (.cells #[.int .i64 (n : Int)] 3)) ∧ Below w.heap.size w ((((w.alloc (.cells #[.slice a0 len0 cap0] 22)).alloc (.cells #[.slice a1 len1 cap1] 23)).alloc (.cells #[.slice a2 len2 cap2] 24)).alloc (.cells #[.int .i64 (n : Int)] 3)) := by
  have hb : Below w.heap.size w ((((w.alloc (.cells #[.slice a0 len0 cap0] 22)).alloc (.cells #[.slice a1 len1 cap1] 23)).alloc (.cells #[.slice a2 len2 cap2] 24)).alloc (.cells #[.int .i64 (n : Int)] 3)) := ((((Below.refl _ _).alloc (Nat.le_refl _) _).alloc (by simp) _).alloc (by simp; omega) _).alloc (by simp; omega) _
  have b1 : Blk (w.alloc (.cells #[.slice a0 len0 cap0] 22)) w.heap.size 22 [.slice a0 len0 cap0] := Blk.new w 22 _
  have b2 : Blk ((w.alloc (.cells #[.slice a0 len0 cap0] 22)).alloc (.cells #[.slice a1 len1 cap1] 23)) (w.heap.size + 1) 23 [.slice a1 len1 cap1] := by
    have := Blk.new (w.alloc (.cells #[.slice a0 len0 cap0] 22)) 23 [.slice a1 len1 cap1]
    simpa using this
  have b3 : Blk (((w.alloc (.cells #[.slice a0 len0 cap0] 22)).alloc (.cells #[.slice a1 len1 cap1] 23)).alloc (.cells #[.slice a2 len2 cap2] 24)) (w.heap.size + 1 + 1) 24 [.slice a2 len2 cap2] := by
    have := Blk.new ((w.alloc (.cells #[.slice a0 len0 cap0] 22)).alloc (.cells #[.slice a1 len1 cap1] 23)) 24 [.slice a2 len2 cap2]
    simpa using this
  have b4 : Blk ((((w.alloc (.cells #[.slice a0 len0 cap0] 22)).alloc (.cells #[.slice a1 len1 cap1] 23)).alloc (.cells #[.slice a2 len2 cap2] 24)).alloc (.cells #[.int .i64 (n : Int)] 3)) (w.heap.size + 1 + 1 + 1) 3 [.int .i64 (n : Int)] := by
    have := Blk.new (((w.alloc (.cells #[.slice a0 len0 cap0] 22)).alloc (.cells #[.slice a1 len1 cap1] 23)).alloc (.cells #[.slice a2 len2 cap2] 24)) 3 [.int .i64 (n : Int)]
    simpa using this
  refine ⟨⟨by simp, hn1, hn8, h0', h2', by simp, by simp, by simp, by simp, (((b1.alloc _).alloc _).alloc _).at 0, ((b2.alloc _).alloc _).at 0, (b3.alloc _).at 0, b4.at 0, h0.below h0.lt hb, h1.below h1.lt hb, h2.below h2.lt hb, fun x hx hl => ?_, fun x hx hl => ?_, fun x hx hl => ?_⟩, hb⟩
  · have := h0.lt x hx hl
    show x.block < w.heap.size + 4
    omega
  · have := h1.lt x hx hl
    show x.block < w.heap.size + 4
    omega
  · have := h2.lt x hx hl
    show x.block < w.heap.size + 4
    omega

set_option maxRecDepth 100000 in
set_option maxHeartbeats 4000000 in
theorem law_walk (a0 a1 a2 : Option Addr) (len0 cap0 len1 cap1 len2 cap2 : Nat) (iv : Nat → Int) (kp : Nat → Bool) (ky : Nat → Int) (nr : Int) (w : World) (h0 : Row w a0 len0 (fun i => .int .u8 (iv i))) (h0' : ∀ i, i < len0 → 0 ≤ iv i ∧ iv i ≤ 255)
    (h1 : Row w a1 len1 (fun i => .bool (kp i))) (h2 : Row w a2 len2 (fun i => .int .i8 (ky i))) (h2' : ∀ i, i < len2 → -128 ≤ ky i ∧ ky i ≤ 127) (hn : 0 ≤ nr ∧ nr ≤ 255) :
    Calls Yba.prog 3 #[.slice a0 len0 cap0, .slice a1 len1 cap1, .slice a2 len2 cap2, .int .u8 nr] w fun e w' => e = .returned (.bool true) ∧ Below w.heap.size w w' := by
  obtain ⟨n, hnn, hn1, hn8⟩ : ∃ n : Nat, (n : Int) = nr % 8 + 1 ∧ 0 < n ∧ n ≤ 8 := ⟨(nr % 8 + 1).toNat, by omega, by omega, by omega⟩
  have wn : IntKind.i64.wrap nr = nr := by rw [IntKind.wrap_i64]; omega
  have H0 := hide h0
  have H1 := hide h1
  have H2 := hide h2
  have H0' := hide h0'
  have H2' := hide h2'
  clear h0 h1 h2 h0' h2'
  by_cases h512 : 512 < len0
  · have hI : (512 : Int) < (len0 : Int) := by omega
    go_enter Yba.func3, Yba.ntmps3
    go_wp2
    go_ret
    exact ⟨rfl, (((Below.refl _ _).alloc (Nat.le_refl _) _).alloc (by simp) _).alloc (by simp; omega) _⟩
  · have hI : ¬ (512 : Int) < (len0 : Int) := by omega
    go_enter Yba.func3, Yba.ntmps3
    refine wp_seq_rest fun K hK => ?_
    go_wp2
    refine wp_seq_rest fun K hK => ?_
    go_wp2
    refine wp_seq_rest fun K hK => ?_
    go_wp2
    rw [← hnn]
    obtain ⟨hE, hB⟩ := Env.start cap0 cap1 cap2 n hn1 hn8 H0.out H0'.out H1.out H2.out H2'.out
    clear H0 H1 H2 H0' H2' hnn wn hn
    have hBH : w.heap.size ≤ w.heap.size + 4 := by omega
    generalize ((((w.alloc (.cells #[.slice a0 len0 cap0] 22)).alloc (.cells #[.slice a1 len1 cap1] 23)).alloc (.cells #[.slice a2 len2 cap2] 24)).alloc (.cells #[.int .i64 (n : Int)] 3)) = W at *
    generalize w.heap.size + 4 = B at *
    generalize (⟨w.heap.size + 1 + 1 + 1, 0, none⟩ : Addr) = pn at *
    generalize (⟨w.heap.size + 1 + 1, 0, none⟩ : Addr) = pkey at *
    generalize (⟨w.heap.size + 1, 0, none⟩ : Addr) = pkeep at *
    generalize (⟨w.heap.size, 0, none⟩ : Addr) = pinv at *
    obtain ⟨D, hDD⟩ : ∃ D : Ins, D = ⟨a0, a1, a2, len0, cap0, len1, cap1, len2, cap2, iv, kp, ky, n, pinv, pkeep, pkey, pn⟩ := ⟨_, rfl⟩
    rw [← hDD] at hE
    obtain rfl : D.a0 = a0 := by rw [hDD]
    obtain rfl : D.a1 = a1 := by rw [hDD]
    obtain rfl : D.a2 = a2 := by rw [hDD]
    obtain rfl : D.len0 = len0 := by rw [hDD]
    obtain rfl : D.cap0 = cap0 := by rw [hDD]
    obtain rfl : D.len1 = len1 := by rw [hDD]
    obtain rfl : D.cap1 = cap1 := by rw [hDD]
    obtain rfl : D.len2 = len2 := by rw [hDD]
    obtain rfl : D.cap2 = cap2 := by rw [hDD]
    obtain rfl : D.n = n := by rw [hDD]
    obtain rfl : D.pinv = pinv := by rw [hDD]
    obtain rfl : D.pkeep = pkeep := by rw [hDD]
    obtain rfl : D.pkey = pkey := by rw [hDD]
    obtain rfl : D.pn = pn := by rw [hDD]
    clear hDD
    have c1 := hE.c1
    have c4 := hE.c4
    have HBY := hide (by_any D B D.len0 W hE rfl (by omega))
    have HE := hide hE
    have HB := hide hB
    clear hE hB
    dsimp only [Rest]
    go_wp2_with fail
    refine HBY.out.mono ?_
    rintro e w2 ⟨hb2, hout⟩
    clear HBY c1 c4
    have HE2 := hide (HE.out.below hb2)
    have HB2 := hide (HB.out.trans (hb2.mono hBH))
    clear hb2 HE HB
    rcases hout with ⟨hz, rfl⟩ | ⟨hpos, T, ge, go, f3, f1', hT, hF3, hF1, hf1, hG, rfl⟩
    · have hb3 : Below w2.heap.size w2 (w2.alloc (.cells #[.func (.func 7) #[] #[], .slice none 0 0, .slice none 0 0] 31)) := (Below.refl _ _).alloc (Nat.le_refl _) _
      have HBK := hide (Blk.new w2 31 [.func (.func 7) #[] #[], .slice none 0 0, .slice none 0 0])
      have hBB : B ≤ w2.heap.size := HE2.out.bd
      have HE3 := hide (HE2.out.below (hb3.mono hBB))
      have HB3 := hide (HB2.out.trans (hb3.mono (Nat.le_trans hBH hBB)))
      have hBS : B ≤ (w2.alloc (.cells #[.func (.func 7) #[] #[], .slice none 0 0, .slice none 0 0] 31)).heap.size := HE3.out.bd
      clear hb3 HE2 HB2
      go_wp2_with fail
      generalize w2.alloc (.cells #[.func (.func 7) #[] #[], .slice none 0 0, .slice none 0 0] 31) = W3 at *
      generalize w2.heap.size = bG at *
      go_loopw [16] (fun t wr => ∃ (i : Nat), i ≤ D.n ∧ t = .int .i64 (i : Int) ∧ Below W3.heap.size W3 wr) (fun t _ => D.n - (intOf t).toNat)
      case atStart => exact ⟨0, Nat.zero_le _, rfl, Below.refl _ _⟩
      case round =>
        obtain ⟨i, hin, rfl, hb⟩ := hrel
        have HK := hide hb
        have hE4 := HE3.out.below (hb.mono hBS)
        have c4 := hE4.c4
        have hG := HBK.out.below hb HBK.out.lt
        have g0 := hG.at 0
        have g1 := hG.at 1
        have g2 := hG.at 2
        simp only [List.getElem?_cons_zero, List.getElem?_cons_succ] at g0 g1 g2
        clear hb hE4 hG
        by_cases hlt : i < D.n
        · have hltI : (i : Int) < (D.n : Int) := by omega
          have HOF := hide (oi_empty (.func (.func 7) #[] #[]) none 0 0 (i : Int) wr)
          go_wp2_with fail
          refine HOF.out.mono ?_
          rintro e w5 ⟨rfl, hb5⟩
          have HK5 := hide (HK.out.trans (hb5.mono HK.out.size))
          clear hb5 HOF HK c4 g0 g1 g2
          have hnl := neq29
          go_wp2
          go_roundw
          case rel => exact ⟨i + 1, by omega, by go_num, HK5.out⟩
          case measure => simp [intOf]; omega
        · have hltI : ¬ (i : Int) < (D.n : Int) := by omega
          have HEND := hide (HB3.out.trans (HK.out.mono (Nat.le_trans hBH hBS)))
          clear HK HB3 HE3
          go_wp2
          go_ret
          exact ⟨rfl, HEND.out⟩
    · have hb3 : Below w2.heap.size w2 (w2.alloc (.cells #[.func (.func 7) #[] #[], .slice (some ⟨go, 0, none⟩) T T, .slice (some ⟨ge, 0, none⟩) D.n D.n] 31)) := (Below.refl _ _).alloc (Nat.le_refl _) _
      have HBK := hide (Blk.new w2 31 [.func (.func 7) #[] #[], .slice (some ⟨go, 0, none⟩) T T, .slice (some ⟨ge, 0, none⟩) D.n D.n])
      have hBB : B ≤ w2.heap.size := HE2.out.bd
      have HE3 := hide (HE2.out.below (hb3.mono hBB))
      have HB3 := hide (HB2.out.trans (hb3.mono (Nat.le_trans hBH hBB)))
      have hBS : B ≤ (w2.alloc (.cells #[.func (.func 7) #[] #[], .slice (some ⟨go, 0, none⟩) T T, .slice (some ⟨ge, 0, none⟩) D.n D.n] 31)).heap.size := HE3.out.bd
      have HF3 := hide (show Fn (w2.alloc (.cells #[.func (.func 7) #[] #[], .slice (some ⟨go, 0, none⟩) T T, .slice (some ⟨ge, 0, none⟩) D.n D.n] 31)) go T f3 from Blk.below hF3 hb3 hF3.lt)
      have HF1 := hide (show Fn (w2.alloc (.cells #[.func (.func 7) #[] #[], .slice (some ⟨go, 0, none⟩) T T, .slice (some ⟨ge, 0, none⟩) D.n D.n] 31)) ge D.n f1' from Blk.below hF1 hb3 hF1.lt)
      have HT := hide hT
      have Hf1 := hide hf1
      have HG := hide hG
      obtain ⟨count, hcount⟩ : ∃ count, D.len0 = count := ⟨_, rfl⟩
      have HC := hide hcount.symm
      rw [hcount] at HT Hf1 HG hpos h512 hI
      rw [hcount]
      have hc5 : count ≤ 512 := by omega
      have hcI : ¬ (count : Int) = 0 := by omega
      clear hcount
      clear hb3 HE2 HB2 hT hf1 hG hF3 hF1
      go_wp2_with fail
      generalize w2.alloc (.cells #[.func (.func 7) #[] #[], .slice (some ⟨go, 0, none⟩) T T, .slice (some ⟨ge, 0, none⟩) D.n D.n] 31) = W3 at *
      generalize w2.heap.size = bG at *
      go_loopw [16] (fun t wr => ∃ (i : Nat), i ≤ D.n ∧ t = .int .i64 (i : Int) ∧ Below W3.heap.size W3 wr) (fun t _ => D.n - (intOf t).toNat)
      case atStart => exact ⟨0, Nat.zero_le _, rfl, Below.refl _ _⟩
      case round =>
        obtain ⟨i, hin, rfl, hb⟩ := hrel
        have HK := hide hb
        have HE4 := hide (HE3.out.below (hb.mono hBS))
        have c4 := HE4.out.c4
        have HG4 := hide (HBK.out.below hb HBK.out.lt)
        have HF34 := hide (show Fn wr go T f3 from Blk.below HF3.out hb HF3.out.lt)
        have HF14 := hide (show Fn wr ge D.n f1' from Blk.below HF1.out hb HF1.out.lt)
        have g0 := HG4.out.at 0
        have g1 := HG4.out.at 1
        have g2 := HG4.out.at 2
        simp only [List.getElem?_cons_zero, List.getElem?_cons_succ] at g0 g1 g2
        clear hb
        by_cases hlt : i < D.n
        · have hltI : (i : Int) < (D.n : Int) := by omega
          obtain ⟨s, hs⟩ : ∃ s, start D.K D.I count i = s := ⟨_, rfl⟩
          obtain ⟨d, hd⟩ : ∃ d, cnt (gd D.K D.I i) count = d := ⟨_, rfl⟩
          have es : start D.K D.I count (i + 1) = s + d := by rw [← hs, ← hd]; rfl
          have hsdT : s + d ≤ T := by rw [← es, HT.out]; exact start_mono (by omega)
          have hT5 : T ≤ 512 := by rw [HT.out]; exact Nat.le_trans (start_le _) hc5
          have HOF := hide (oi_cut (.func (.func 7) #[] #[]) go ge T T D.n i s d wr hlt (by
            by_cases h0 : i = 0
            · exact .inl ⟨h0, by rw [← hs, h0]; rfl⟩
            · refine .inr ⟨by omega, ?_⟩
              have := HF14.out.at (i := i - 1) (by omega)
              rw [Hf1.out (i - 1) (by omega), show i - 1 + 1 = i by omega, hs] at this
              exact this) (by
              have := HF14.out.at hlt
              rw [Hf1.out i hlt, es] at this
              exact this) HF14.out.lt hsdT (by omega) (by omega))
          have HS := hide hs
          have HD := hide hd
          clear hs hd es
          refine wp_seq_rest fun K1 hK1 => ?_
          go_wp2_with fail
          refine wp_seq_rest fun K2 hK2 => ?_
          refine wp_block ?_
          refine wp_seq_rest fun K3 hK3 => ?_
          go_wp2_with fail
          refine HOF.out.mono ?_
          rintro e w5 ⟨o, rfl, ho, hb5⟩
          have HK5 := hide (HK.out.trans (hb5.mono HK.out.size))
          have HE5 := hide (HE4.out.below (hb5.mono HE4.out.bd))
          have HF35 := hide (show Fn w5 go T f3 from Blk.below HF34.out hb5 HF34.out.lt)
          have HO := hide ho
          clear hb5 ho HOF HK c4 g0 g1 g2 HE4 HG4 HF34 HF14
          have hsd' := hsdT
          have hc5' := hc5
          have hlt' := hlt
          go_wp2_with fail
          refine wp_seq_rest fun K4 hK4 => ?_
          go_wp2
          refine lawA _ _ _ _ _ _ _ _ _ _ _ _ _ _ _ _ _ _ _ _ _ _ _ _ _ _ _ _ _ _ _ _ _ _ _ _ _ _ _ _ _ _ _ _ _ _ _ _ _ _ _ _ _ _ _ _ _ _ _ _ _ _ _ _ _ _ _ _ _ _ _ _ _ _ _ _ _ _ _ _ _ _ _ _ _ _ _ _ _ _ _ _ _ _ _ _ _ _ _ _ _ _ _ _ _ _ _ _ _ _ _ _ _ _ _ _ _ _ _ _ _ _ _ _ _ _ _ _ _ _ _ D B count bG i go o d _ s T f3 _ _ _ rfl HE5.out hlt' HC.out HF35.out HO.out hsd' hc5' HS.out HD.out HG.out ?_
          intro v8 v17 v18 v19 v20 v21 v22 v23 v43 v44 v45 v46 v47 v48 v49 v50 v51 v52 v53 v54 v55 v56 v57 v58 v59 v60 v61 v62 v63 v64 v65 v66 v67 v68 v69 v70 v71 v72 v73 v74 v75 v76 v77 v78 v79 v80 v81 v82 v83 v84 v85 v86 v87 v88 v89 v90 v91 v92 v93 v94 v95 v96 v97 v98 v99 v100 v101 v102 v103 v104 v105 v106 v107 v108 v109 v110 v111 v112 v113 v114 v115 v116 v117 v118 v119 v120 v121 v122 v123 v124 v125 v126 v127 v128 v129 v130 v131 v132 v133 v134 v135 v136 v137 v138 v139 v140 v141 v142 w6 hb6
          have HK6 := hide (HK5.out.trans (hb6.mono HK5.out.size))
          clear hb6 HK5
          dsimp only
          go_wp2_with fail
          dsimp only [Rest]
          go_wp2
          refine ⟨?rr, ?measure⟩
          case rr =>
            repeat apply Exists.intro
            refine ⟨?rel, rfl⟩
            exact ⟨i + 1, by omega, by go_num, HK6.out⟩
          case measure => simp [intOf]; omega
        · have hltI : ¬ (i : Int) < (D.n : Int) := by omega
          have HEND := hide (HB3.out.trans (HK.out.mono (Nat.le_trans hBH hBS)))
          clear HK HB3 HE3
          go_wp2
          go_ret
          exact ⟨rfl, HEND.out⟩

end Go.Proofs.Ybulkbtlq
