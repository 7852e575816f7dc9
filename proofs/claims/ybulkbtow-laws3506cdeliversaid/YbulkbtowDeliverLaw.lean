/-
  LawS3506CDeliver's walk, up to the call of deliver.
-/
import Derived.Test.YbulkbtowTail1
namespace Go.Proofs.Ybulkbtow
open Go.RowKit Go.Conc
set_option linter.unusedVariables false

set_option maxRecDepth 100000 in
set_option maxHeartbeats 2000000 in
theorem deliver_law (a0 : Option Addr) (len0 cap0 : Nat) (zs : List Int) (a1 a2 : Int) (a3 a4 a5 : Bool) (w : World) (hz : zs.length = len0) (hin : a0 = none ∧ len0 = 0 ∨ ∃ x, a0 = some x ∧ Bytes w x zs)
    (h10 : 0 ≤ a1) (h11 : a1 ≤ 65535) (h20 : 0 ≤ a2) (h21 : a2 ≤ 65535) (hlen : len0 ≤ 4096) :
    Calls Yba.prog 4 #[.slice a0 len0 cap0, .int .u16 a1, .int .u16 a2, .bool a3, .bool a4, .bool a5] w fun e w' => e = .returned (.bool true) ∧ Below w.heap.size w w' := by
  have hcl : Hid (∀ w', w' = w → Calls Yba.prog 9 #[.slice a0 len0 cap0] w' fun e w1 => ∃ ba bc, e = .returned (.slice ba len0 bc) ∧ Below w.heap.size w w1 ∧ Held w1 ba len0 zs) := by
    rintro w' rfl
    rcases hin with ⟨rfl, rfl⟩ | ⟨x, rfl, hx⟩
    · refine (clone_nil 0 cap0 w').mono ?_
      rintro e w1 ⟨rfl, rfl⟩
      exact ⟨none, 0, rfl, Below.refl _ _, .inl ⟨rfl, rfl, List.length_eq_zero_iff.mp hz⟩⟩
    · subst hz
      refine (clone_some x cap0 zs w' hlen hx).mono ?_
      rintro e w1 ⟨qa, qc, rfl, h2, h3⟩
      exact ⟨qa, qc, rfl, h3.toBelow (Nat.le_refl _) (by simp), Held.of_own h2⟩
  have HIN := hide hin
  have HZ := hide hz
  have hleI : (4096 : Int) < (len0 : Int) ↔ False := by simp; omega
  have hmc := mkWake
  clear hin hz
  refine calls_of_wpAt Yba.func4 rfl ?_
  simp only [Yba.ntmps4, List.size_toArray, List.length_cons, List.length_nil, Nat.reduceAdd, Nat.reduceSub, Array.replicate_succ, Array.replicate_zero, List.push_toArray, List.append_toArray, List.nil_append, List.cons_append]
  refine WpAt.seq_wp fun K hK => ?_
  go_wp2
  refine WpAt.seq_wp fun K hK => ?_
  go_wp2
  refine WpAt.seq_wp fun K hK => ?_
  go_wp2
  refine WpAt.seq_wp fun K hK => ?_
  go_cut [13] (fun s wx => w = wx ∧ ∃ k : Nat, k ≤ 1029 ∧ s = .int .i64 k)
  case first =>
    obtain ⟨k1, hk1⟩ : ∃ k : Nat, a2 % 1030 = (k : Int) := ⟨(a2 % 1030).toNat, by omega⟩
    obtain ⟨k2, hk2⟩ : ∃ k : Nat, a2 % 8 = (k : Int) := ⟨(a2 % 8).toNat, by omega⟩
    cases a3
    · go_wp2
      go_meet
      case rel => exact ⟨rfl, k1, by omega, by rw [← hk1]⟩
    · go_wp2
      go_meet
      case rel => exact ⟨rfl, 1020 + k2, by omega, by go_num⟩
  case rest =>
    obtain ⟨rfl, n, hn, rfl⟩ := hcut
    go_wp2
    refine WpAt.seq_wp fun K hK => ?_
    go_wp2_with fail
    refine (hcl.out _ rfl).mono ?_
    rintro e w1 ⟨ba, bc, rfl, hbel1, hheld⟩
    have HB1 := hide hbel1
    have HH := hide hheld
    clear hbel1 hheld hcl
    go_wp2
    refine WpAt.seq_wp fun K hK => ?_
    go_wp2_with fail
    refine (cap_lit _ _).mono ?_
    rintro e w2 ⟨rfl, hb2⟩
    have hX := Blk.new w2 43 [.int .u64 0, .int .u64 0, .pointer none, .int .u16 a1]
    have hb3 : Below w.heap.size w (w2.alloc (.cells #[.int .u64 0, .int .u64 0, .pointer none, .int .u16 a1] 43)) := (HB1.out.trans (hb2.mono HB1.out.size)).alloc (by have := HB1.out.size; have := hb2.size; omega) _
    have hh3 : Held (w2.alloc (.cells #[.int .u64 0, .int .u64 0, .pointer none, .int .u16 a1] 43)) ba len0 zs := HH.out.keep (hb2.trans ((Below.refl _ _).alloc hb2.size _))
    have hxs : w.heap.size ≤ w2.heap.size := by have := HB1.out.size; have := hb2.size; omega
    obtain ⟨gf, hgf⟩ : ∃ gf, w2.heap.size = gf := ⟨_, rfl⟩
    rw [hgf] at hX hxs
    have HX := hide hX
    have HB3 := hide hb3
    have HH3 := hide hh3
    have HGF := hide hgf
    clear hb2 HB1 HH hX hb3 hh3 hgf
    go_wp2
    refine WpAt.seq_wp fun K hK => ?_
    rw [HGF.out]
    generalize w2.alloc (.cells #[.int .u64 0, .int .u64 0, .pointer none, .int .u16 a1] 43) = W at *
    clear HGF w2 w1
    go_cut [16] (fun s wx => ∃ (fp gc : Nat) (p : Int), s = .pointer (some ⟨fp, 0, none⟩) ∧ Blk wx fp 89 (connCells p 0 (.slice none 0 0) a4 gc) ∧ Wake wx gc 0 ∧ w.heap.size ≤ fp ∧ w.heap.size ≤ gc ∧ Below W.heap.size W wx)
    case first =>
      go_region_held3 (fun _ => True) (trivial) (first | (go_at_call 10; refine (cap_lit _ _).mono ?_; rintro e w1 ⟨rfl, hb1⟩))
      · have hbw : Below W.heap.size W w1 := below_of_drew hb1
        have hs1 := hbw.size
        have hWs := HB3.out.size
        have hF := Blk.new (w1.alloc (.chan 1 #[] false 0 0 false)) 89 (connCells (bits BinOp.xor IntKind.u16 IntKind.u16.max a1) 0 (.slice none 0 0) a4 w1.heap.size)
        have hWk : Wake (w1.alloc (.chan 1 #[] false 0 0 false)) w1.heap.size 0 := ⟨#[], 0, 0, heap_alloc_new w1 _, rfl⟩
        have hWk2 := hWk.keep ((Kept.refl [] _).alloc (.cells (connCells (bits BinOp.xor IntKind.u16 IntKind.u16.max a1) 0 (.slice none 0 0) a4 w1.heap.size).toArray 89)) (by simp)
        have hb9 := (hbw.alloc hs1 (.chan 1 #[] false 0 0 false)).alloc (by simp; omega) (.cells (connCells (bits BinOp.xor IntKind.u16 IntKind.u16.max a1) 0 (.slice none 0 0) a4 w1.heap.size).toArray 89)
        simp only [World.size_alloc] at hF
        have hq1 : w.heap.size ≤ w1.heap.size + 1 := by omega
        have hq2 : w.heap.size ≤ w1.heap.size := by omega
        have H := hide (show _ ∧ _ ∧ _ from ⟨hF, hWk2, hb9⟩)
        clear hb1 hF hWk hWk2 hb9 hbw hs1 hWs
        go_wp2
        go_meet
        case rel => exact ⟨_, _, _, rfl, H.out.1, H.out.2.1, hq1, hq2, H.out.2.2⟩
      · have hb0 : Below W.heap.size W (W.alloc (.chan 1 #[] false 0 0 false)) := (Below.refl _ _).alloc (Nat.le_refl _) _
        have hb1' : Below (W.alloc (.chan 1 #[] false 0 0 false)).heap.size (W.alloc (.chan 1 #[] false 0 0 false)) w1 := below_of_drew hb1
        have hs1 := hb1'.size
        have hWs := HB3.out.size
        simp only [World.size_alloc] at hs1
        have hF := Blk.new w1 89 (connCells (bits BinOp.xor IntKind.u16 IntKind.u16.max a1) 0 (.slice none 0 0) a4 W.heap.size)
        have hWk : Wake w1 W.heap.size 0 := ⟨#[], 0, 0, (hb1'.block W.heap.size (by simp)).trans (heap_alloc_new W _), rfl⟩
        have hWk2 := hWk.keep ((Kept.refl [] _).alloc (.cells (connCells (bits BinOp.xor IntKind.u16 IntKind.u16.max a1) 0 (.slice none 0 0) a4 W.heap.size).toArray 89)) (by simp)
        have hb9 := (hb0.trans (hb1'.mono (by simp))).alloc (by omega) (.cells (connCells (bits BinOp.xor IntKind.u16 IntKind.u16.max a1) 0 (.slice none 0 0) a4 W.heap.size).toArray 89)
        have hq1 : w.heap.size ≤ w1.heap.size := by omega
        have H := hide (show _ ∧ _ ∧ _ from ⟨hF, hWk2, hb9⟩)
        clear hb1 hF hWk hWk2 hb9 hb0 hb1' hs1
        go_wp2
        go_meet
        case rel => exact ⟨_, _, _, rfl, H.out.1, H.out.2.1, hq1, hWs, H.out.2.2⟩
    case rest =>
      obtain ⟨fp, gc, p, rfl, hF, hW, hfp, hgc, hbW⟩ := hcut
      have HX' := hide (HX.out.below' hbW)
      have HB' := hide (HB3.out.trans (hbW.mono HB3.out.size))
      have HH' := hide (HH3.out.keep hbW)
      have HF := hide hF
      have HW := hide hW
      clear hmc HX HB3 HH3 hF hW hbW
      go_wp2
      refine WpAt.seq_wp fun K hK => ?_
      have hmk := make87 n (by omega)
      obtain ⟨cs0, hQ0, hqi0⟩ := made87 n wc
      have hB0 : Below wc.heap.size wc (wc.alloc (.cells (madeCells #[.slice none 0 0, .int .u64 0, .int .u64 0, .pointer none, .int .u16 0] (n * 5)) 91)) := (Below.refl _ _).alloc (Nat.le_refl _) _
      have HX1 := hide (HX'.out.below' hB0)
      have HH1 := hide (HH'.out.keep hB0)
      have HF1 := hide (HF.out.below' hB0)
      have HW1 := hide (HW.out.below hB0)
      have HB1 := hide (HB'.out.trans (hB0.mono HB'.out.size))
      have hgq := HB'.out.size
      have HQ1 := hide hQ0
      have HQI := hide hqi0
      clear HX' HH' HF HW HB' hB0 hQ0 hqi0
      go_wp2
      clear hmk
      refine WpAt.seq_wp fun K hK => ?_
      generalize wc.alloc (.cells (madeCells #[.slice none 0 0, .int .u64 0, .int .u64 0, .pointer none, .int .u16 0] (n * 5)) 91) = W2 at *
      generalize wc.heap.size = gq at *
      go_wp2
      go_loopw [18] (fun t wr => ∃ j : Nat, j ≤ n ∧ t = .int .i64 j ∧ ∃ cs, Blk wr gq 91 cs ∧ QI cs n j ∧ Kept [gq] W2 wr) (fun t _ => n - (intOf t).toNat)
      case atStart => exact ⟨0, Nat.zero_le _, rfl, cs0, HQ1.out, HQI.out, Kept.refl _ _⟩
      case round =>
        obtain ⟨j, hj, rfl, cs, hQ, hQI, hK1⟩ := hrel
        by_cases hlt : j < n
        · have HQ := hide hQ
          have HQI' := hide hQI
          have HK1 := hide hK1
          have hltI : (j : Int) < (n : Int) := by omega
          have wu16 : IntKind.u16.wrap (j : Int) = (j : Int) := by rw [IntKind.wrap_u16]; omega
          clear hQ hQI hK1 HQ1 HQI HX1 HH1 HF1 HW1 HB1 HIN HZ
          go_wp2_with fail
          refine (cap_lit _ _).mono ?_
          rintro e w1 ⟨rfl, hb1⟩
          have hQ2 := HQ.out.below' hb1
          obtain ⟨c0, c1, c2, c3, c4⟩ := HQI'.out.2 j hlt
          rw [← hQ2.at] at c1 c2 c3 c4
          have z1 := hQ2.free (j * 5 + 1)
          have z2 := hQ2.free (j * 5 + 2)
          have z3 := hQ2.free (j * 5 + 3)
          have z4 := hQ2.free (j * 5 + 4)
          have HQ3 := hide ((((hQ2.set (j * 5 + 1) (.int .u64 0)).set (j * 5 + 2) (.int .u64 0)).set (j * 5 + 3) (.pointer none)).set (j * 5 + 4) (.int .u16 (j : Int)))
          have HK3 := hide (((((HK1.out.below (hb1.mono HK1.out.size)).setCell (p := ⟨gq, j * 5 + 1, none⟩) (.inl (by simp)) (.int .u64 0)).setCell (p := ⟨gq, j * 5 + 2, none⟩) (.inl (by simp)) (.int .u64 0)).setCell (p := ⟨gq, j * 5 + 3, none⟩) (.inl (by simp)) (.pointer none)).setCell (p := ⟨gq, j * 5 + 4, none⟩) (.inl (by simp)) (.int .u16 (j : Int)))
          have HQI3 := hide (HQI'.out.step hlt)
          clear hQ2 HQ HQI' HK1 hb1 c0
          go_wp2
          go_roundw
          case rel => exact ⟨j + 1, by omega, by go_num, _, HQ3.out, HQI3.out, HK3.out⟩
          case measure => simp [intOf]; omega
        · obtain rfl : n = j := by omega
          have HQ := hide hQ
          have HQI' := hide hQI
          have HK1 := hide hK1
          clear hQ hQI hK1 HQI
          go_wp2
          have HK2 : Hid (Below W2.heap.size W2 W2) := Below.refl _ _
          have hXq := HX1.out.ne HQ1.out (by decide)
          have HX2 := hide (HK1.out.blk HX1.out (by simp; exact HX1.out.ne HQ1.out (by decide)))
          have HF2 := hide (HK1.out.blk HF1.out (by simp; exact HF1.out.ne HQ1.out (by decide)))
          have HW2 := hide (HW1.out.keep HK1.out (by simp; exact fun e => chan_ne HQ1.out HW1.out e.symm))
          have HH2 := hide (HH1.out.kept HK1.out HQ1.out (by decide))
          have HB2 := hide (HB1.out.trans (HK1.out.toBelow HB1.out.size (by simp; exact hgq)))
          have f7 := HF2.out.at 7
          have z7 := HF2.out.free 7
          simp only [connCells, List.getElem?_cons_zero, List.getElem?_cons_succ] at f7
          have hO : wr.ownsRow w.heap.size 91 5 (.slice (some ⟨gq, 0, none⟩) n n) n cs := ⟨HQI'.out.1, .inr ⟨gq, n, cs.toArray, rfl, hgq, HQ.out, Nat.le_refl _, by unfold maxLen; omega, by simp [HQI'.out.1], by rw [← HQI'.out.1]; simp⟩⟩
          have hF4 : Blk (wr.setCell ⟨fp, 7, none⟩ (.slice (some ⟨gq, 0, none⟩) n n)) fp 89 (connCells p 0 (.slice (some ⟨gq, 0, none⟩) n n) a4 gc) := HF2.out.set 7 _
          have K4 : Kept [fp] wr (wr.setCell ⟨fp, 7, none⟩ (.slice (some ⟨gq, 0, none⟩) n n)) := (Kept.refl _ _).setCell (.inl (by simp)) _
          have HC4 : Hid (Conn (wr.setCell ⟨fp, 7, none⟩ (.slice (some ⟨gq, 0, none⟩) n n)) w.heap.size fp gc p a4 (.slice (some ⟨gq, 0, none⟩) n n) n cs) :=
            ⟨hF4, ownsRow_kept hO K4 (fun j hj hm => by simp at hm; subst hm; exact own_ne hO HF2.out (by decide) hj), hfp⟩
          have HX4 := hide (K4.blk HX2.out (by simp; exact HX2.out.ne HF2.out (by decide)))
          have HH4 := hide (HH2.out.kept K4 HF2.out (by decide))
          have HB4 := hide (HB2.out.trans (K4.toBelow HB2.out.size (by simp; exact hfp)))
          have HW4 := hide (HW2.out.keep K4 (by simp; exact fun e => chan_ne HF2.out HW2.out e.symm))
          have f12 := hF4.at 12
          simp only [connCells, List.getElem?_cons_zero, List.getElem?_cons_succ] at f12
          clear hO hF4 K4 HX1 HH1 HF1 HW1 HB1 HQ1 HX2 HH2 HF2 HW2 HB2 HK1 HK2 HQ hXq
          refine WpAt.seq_wp fun K hK => ?_
          go_wp2
          clear f7 z7
          generalize wr.setCell ⟨fp, 7, none⟩ (.slice (some ⟨gq, 0, none⟩) n n) = W4 at *
          cases a5
          · refine WpAt.seq_wp fun K hK => ?_
            go_wp2
            exact tail1 _ _ _ _ _ _ _ _ _ _ _ _ _ _ _ _ _ _ _ _ _ _ _ _ _ _ _ _ _ _ _ _ _ _ _ _ _ _ _ _ _ _ _ _ _ _ _ _ _ _ _ _ _ _ _ _ _ _ _ _ _ _ _ _ _ _ _ _ _ _ _ _ _ _ _ _ _ _ _ _ _ _ _ _ _ _ _ _ _ _ _ _ _ _ _ _ _ _ _ _ _ _ _ _ _ _ _ _ _ _ _ _ _ _ _ _ _ _ _ _ _ _ _ _ _ _ _ _ _ _ _ _ _ _ _ _ _ _ _ _ _ _ _ _ _ _ _ _ _ a0 len0 cap0 zs a1 a2 a3 a4 _ ba bc gf fp gc gq n 0 p cs w _ _ rfl HZ.out HIN.out hlen hn HB4.out HX4.out HH4.out HC4.out HW4.out (by omega) hgc hgq HQI'.out
          · refine WpAt.seq (WpAt.seq_wp fun K hK => ?_)
            go_wp2
            obtain ⟨buf, ks, kr, hch, hbuf⟩ := HW4.out
            obtain rfl : buf = #[] := Array.eq_empty_of_size_eq_zero hbuf
            refine WpAt.cond_true rfl ?_
            have hK5 := kept_setChan W4 gc 1 #[.agg #[]] false (ks + 1) kr false
            have hfg : fp ≠ gc := chan_ne HC4.out.1 HW4.out
            have HC5 : Hid (Conn (W4.setChan gc 1 #[.agg #[]] false (ks + 1) kr false) w.heap.size fp gc p a4 (.slice (some ⟨gq, 0, none⟩) n n) n cs) :=
              ⟨hK5.blk HC4.out.1 (by simp; exact hfg), ownsRow_kept HC4.out.2.1 hK5 (fun j hj hm => by simp at hm; subst hm; exact own_chan HC4.out.2.1 HW4.out hj), hfp⟩
            have HX5 := hide (hK5.blk HX4.out (by simp; exact chan_ne HX4.out HW4.out))
            have HH5 := hide (HH4.out.kept3 hK5 (fun g cs' hg hm => by simp at hm; subst hm; exact chan_ne hg HW4.out rfl))
            have HB5 := hide (HB4.out.trans (hK5.toBelow HB4.out.size (by simp; exact hgc)))
            have HW5 : Hid (Wake (W4.setChan gc 1 #[.agg #[]] false (ks + 1) kr false) gc 1) := ⟨#[.agg #[]], ks + 1, kr, heap_setChan W4 gc 1 _ false (ks + 1) kr false (lt_of_block hch), rfl⟩
            refine send_piece _ _ _ _ _ _ _ _ _ _ _ _ _ _ _ _ _ _ _ _ _ _ _ _ _ _ _ _ _ _ _ _ _ _ _ _ _ _ _ _ _ _ _ _ _ _ _ _ _ _ _ _ _ _ _ _ _ _ _ _ _ _ _ _ _ _ _ _ _ _ _ _ _ _ _ _ _ _ _ _ _ _ _ _ _ _ _ _ _ _ _ _ _ _ _ _ _ _ _ _ _ _ _ _ _ _ _ _ _ _ _ _ _ _ _ _ _ _ _ _ _ _ _ _ _ _ _ _ _ _ _ _ _ _ _ _ _ _ _ _ _ _ _ _ _ _ _ _ _ _ _ _ _ _ _ _ _ _ _ fp gc ks kr _ _ rfl f12 hch _ ?_
            exact tail1 _ _ _ _ _ _ _ _ _ _ _ _ _ _ _ _ _ _ _ _ _ _ _ _ _ _ _ _ _ _ _ _ _ _ _ _ _ _ _ _ _ _ _ _ _ _ _ _ _ _ _ _ _ _ _ _ _ _ _ _ _ _ _ _ _ _ _ _ _ _ _ _ _ _ _ _ _ _ _ _ _ _ _ _ _ _ _ _ _ _ _ _ _ _ _ _ _ _ _ _ _ _ _ _ _ _ _ _ _ _ _ _ _ _ _ _ _ _ _ _ _ _ _ _ _ _ _ _ _ _ _ _ _ _ _ _ _ _ _ _ _ _ _ _ _ _ _ _ _ a0 len0 cap0 zs a1 a2 a3 a4 _ ba bc gf fp gc gq n 1 p cs w _ _ rfl HZ.out HIN.out hlen hn HB5.out HX5.out HH5.out HC5.out HW5.out (by omega) hgc hgq HQI'.out

end Go.Proofs.Ybulkbtow
