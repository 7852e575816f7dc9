/-
  LawS3500ASlices: the walk.
-/
import Derived.Test.YbulkbtlqOf
import Derived.Test.YbulkbtlqPre
import Derived.Laws.EntriesVeiled
namespace Go.Proofs.Ybulkbtlq
open Go.RowKit
set_option linter.unusedVariables false

theorem Yba.info21 : (Yba.prog.info? 21).map (fun i => (i.zero, i.size, i.bytes)) = some (some (.int .i32 0), 1, 4) := by kernel_rfl

/-- 'make([]int32, n)'. -/
theorem make32 (n : Nat) (hn : n ≤ 1000000) (w : World) : (Instr.makeSlice 29 (.int .i64 (n : Int)) (.int .i64 (n : Int))).run Yba.prog w =
    .ok (.slice (some ⟨w.heap.size, 0, none⟩) n n) (w.alloc (.cells (madeCells (Value.int .i32 0).cells n) 21)) := by
  obtain ⟨i, hi, hz0, hz1, hz2⟩ := info_parts Yba.info21
  have h := run_make (P := Yba.prog) w 29 21 i (.int .i32 0) Yba.underlying29 hi hz0 .i64 .i64 (n : Int) (n : Int) (by omega) (by omega) (by rw [hz2]; omega) (by omega)
  rw [hz1] at h
  simpa using h

set_option maxRecDepth 100000 in
set_option maxHeartbeats 1000000 in
theorem slices_pos (b off len cap : Nat) (zs : List Int) (w : World) (hl : len ≤ zs.length) (hlen : 0 < len) (h300 : len ≤ 300)
    (hc : ∀ i, i < len → w.cell? ⟨b, off + i, none⟩ = some (.int .u8 (zs.getD i 0))) (hz : ∀ z ∈ zs, 0 ≤ z ∧ z ≤ 255) :
    Calls Yba.prog 4 #[.slice (some ⟨b, off, none⟩) len cap] w fun e w' => e = .returned (.bool true) ∧ Below w.heap.size w w' := by
  have hbw : b < w.heap.size := block_lt_of_cell (hc 0 hlen)
  have hg : ¬ (300 : Int) < (len : Int) := by omega
  have hpos : (0 : Int) < (len : Int) := by omega
  have hmk := make32 len (by omega)
  have HC : Hid (∀ i, i < len → w.cell? ⟨b, off + i, none⟩ = some (.int .u8 (zs.getD i 0))) := hc
  clear hc
  go_enter Yba.func4, Yba.ntmps4
  go_wp2
  go_loop [3, 23] (fun t i => ∃ k : Nat, k ≤ len ∧ i = .int .i64 k ∧ t = .int .i64 (pre zs k)) (fun _ i => len - (intOf i).toNat)
  case atStart => exact ⟨0, Nat.zero_le _, rfl, by rw [pre_zero]⟩
  case round =>
    obtain ⟨k, hk, rfl, rfl⟩ := hrel
    have hpb := pre_bd zs hz k (by omega)
    by_cases hlt : k < len
    · have hck := HC.out k hlt
      have hzb := getD_bd zs hz k (by omega)
      have hps : Hid (pre zs (k + 1) = pre zs k + zs.getD k 0) := pre_succ zs k (by omega)
      generalize zs.getD k 0 = z at *
      go_wp2
      go_round
      case rel => exact ⟨k + 1, by omega, by go_num, by rw [hps.out]⟩
      case measure => simp [intOf]; omega
    · obtain rfl : len = k := by omega
      have hlast := hpb
      go_wp2
      have B0 : Below w.heap.size w (w.alloc (.cells (madeCells #[Value.int .i32 0] len) 21)) := (Below.refl _ _).alloc (Nat.le_refl _) _
      have I0 : Ints (w.alloc (.cells (madeCells #[Value.int .i32 0] len) 21)) w.heap.size 21 .i32 (List.replicate len 0) := Ints.made w 21 .i32 len
      go_loopw [7, 40] (fun r i wr => ∃ k : Nat, k ≤ len ∧ i = .int .i64 k ∧ r = .int .i64 (pre zs k) ∧ Below w.heap.size w wr ∧ wr.heap.size = w.heap.size + 1 ∧
          ∃ xs : List Int, Ints wr w.heap.size 21 .i32 xs ∧ xs.length = len ∧ ∀ j, j < k → xs.getD j 0 = pre zs (j + 1)) (fun _ i _ => len - (intOf i).toNat)
      case atStart => exact ⟨0, Nat.zero_le _, rfl, by rw [pre_zero], B0, by simp, _, I0, by simp, fun j hj => by omega⟩
      case round =>
        clear B0 I0 hmk
        obtain ⟨k, hk, rfl, rfl, hbel, hsz, xs, hI, hxl, hxs⟩ := hrel
        have hpb := pre_bd zs hz k (by omega)
        by_cases hlt : k < len
        · have hck := (hbel.cell (p := ⟨b, off + k, none⟩) hbw).trans (HC.out k hlt)
          have hzb := getD_bd zs hz k (by omega)
          have hps : Hid (pre zs (k + 1) = pre zs k + zs.getD k 0) := pre_succ zs k (by omega)
          generalize zs.getD k 0 = z at *
          have hold := hI.at (i := k) (by omega)
          have hfr := hI.free k
          generalize xs.getD k 0 = old at hold
          have HI : Hid (Ints wr w.heap.size 21 .i32 xs) := hI
          have HX : Hid (∀ j, j < k → xs.getD j 0 = pre zs (j + 1)) := hxs
          clear hI hxs
          go_wp2
          go_roundw
          case rel =>
            refine ⟨k + 1, by omega, by go_num, by rw [hps.out], hbel.setCell (Nat.le_refl _) _, by simp [World.setCell, hsz], xs.set k (pre zs k + z), HI.out.set k _, by simpa using hxl, fun j hj => ?_⟩
            rw [getD_set _ _ _ _ (by omega)]
            split
            · next h => subst h; exact hps.out.symm
            · exact HX.out j (by omega)
          case measure => simp [intOf]; omega
        · obtain rfl : len = k := by omega
          obtain ⟨T, hT⟩ : ∃ T : Nat, pre zs len = (T : Int) := ⟨(pre zs len).toNat, by omega⟩
          have hTb : T ≤ 76500 := by omega
          have HT : Hid (pre zs len = (T : Int)) := hT
          rw [hT]
          have HI : Hid (Ints wr w.heap.size 21 .i32 xs) := hI
          have HX : Hid (∀ j, j < len → xs.getD j 0 = pre zs (j + 1)) := hxs
          clear hT hI hxs hpb hlast
          have hmk := make32 T (by omega)
          go_wp2
          have B1 : Below w.heap.size w (wr.alloc (.cells (madeCells #[Value.int .i32 0] T) 21)) := hbel.alloc (by omega) _
          have S1 : (wr.alloc (.cells (madeCells #[Value.int .i32 0] T) 21)).heap.size = w.heap.size + 2 := by simp [hsz]
          have I1 : Ints (wr.alloc (.cells (madeCells #[Value.int .i32 0] T) 21)) w.heap.size 21 .i32 xs := HI.out.alloc _
          have J1 : Ints (wr.alloc (.cells (madeCells #[Value.int .i32 0] T) 21)) (w.heap.size + 1) 21 .i32 (List.replicate T 0) := by rw [← hsz]; exact Ints.made wr 21 .i32 T
          go_loopw [11] (fun i w2 => ∃ k : Nat, k ≤ T ∧ i = .int .i64 k ∧ Below w.heap.size w w2 ∧ w2.heap.size = w.heap.size + 2 ∧ Ints w2 w.heap.size 21 .i32 xs ∧
              ∃ ys : List Int, Ints w2 (w.heap.size + 1) 21 .i32 ys ∧ ys.length = T ∧ ∀ j : Nat, j < k → ys.getD j 0 = (j : Int) * 7 + 3) (fun i _ => T - (intOf i).toNat)
          case atStart => exact ⟨0, Nat.zero_le _, rfl, B1, S1, I1, _, J1, by simp, fun j hj => by omega⟩
          case round =>
            clear B1 S1 I1 J1 hmk HI hbel hsz
            obtain ⟨k, hk, rfl, hbel, hsz, hI, ys, hJ, hyl, hys⟩ := hrel
            have HI : Hid (Ints wr w.heap.size 21 .i32 xs) := hI
            have HJ : Hid (Ints wr (w.heap.size + 1) 21 .i32 ys) := hJ
            have HY : Hid (∀ j : Nat, j < k → ys.getD j 0 = (j : Int) * 7 + 3) := hys
            clear hI hys
            by_cases hlt : k < T
            · have hold := hJ.at (i := k) (by omega)
              have hfr := hJ.free k
              generalize ys.getD k 0 = old at hold
              clear hJ
              go_wp2
              go_roundw
              case rel =>
                refine ⟨k + 1, by omega, by go_num, hbel.setCell (by simp) _, by simp [World.setCell, hsz], HI.out.other (by simp) _, ys.set k ((k : Int) * 7 + 3), HJ.out.set k _, by simpa using hyl, fun j hj => ?_⟩
                rw [getD_set _ _ _ _ (by omega)]
                split
                · next h => subst h; rfl
                · exact HY.out j (by omega)
              case measure => simp [intOf]; omega
            · obtain rfl : T = k := by omega
              clear hJ
              go_wp2
              have B2 := hbel.alloc (by omega) (.cells #[Value.nilFunc, Value.slice (some ⟨w.heap.size + 1, 0, none⟩) T T, Value.slice (some ⟨w.heap.size, 0, none⟩) len len] 37)
              have I2 := HI.out.alloc (.cells #[Value.nilFunc, Value.slice (some ⟨w.heap.size + 1, 0, none⟩) T T, Value.slice (some ⟨w.heap.size, 0, none⟩) len len] 37)
              have J2 := HJ.out.alloc (.cells #[Value.nilFunc, Value.slice (some ⟨w.heap.size + 1, 0, none⟩) T T, Value.slice (some ⟨w.heap.size, 0, none⟩) len len] 37)
              have K2 := Blk.new wr 37 [Value.nilFunc, Value.slice (some ⟨w.heap.size + 1, 0, none⟩) T T, Value.slice (some ⟨w.heap.size, 0, none⟩) len len]
              rw [hsz] at K2
              have Z2 : w.heap.size + 2 < (wr.alloc (.cells #[Value.nilFunc, Value.slice (some ⟨w.heap.size + 1, 0, none⟩) T T, Value.slice (some ⟨w.heap.size, 0, none⟩) len len] 37)).heap.size := by simp [hsz]
              go_loopw [13, 85] (fun o i w2 => ∃ k : Nat, k ≤ len ∧ i = .int .i64 k ∧ o = .int .i64 (pre zs k) ∧ Below w.heap.size w w2 ∧ w.heap.size + 2 < w2.heap.size ∧ Ints w2 w.heap.size 21 .i32 xs ∧ Ints w2 (w.heap.size + 1) 21 .i32 ys ∧
                  Blk w2 (w.heap.size + 2) 37 [Value.nilFunc, Value.slice (some ⟨w.heap.size + 1, 0, none⟩) T T, Value.slice (some ⟨w.heap.size, 0, none⟩) len len]) (fun _ i _ => len - (intOf i).toNat)
              case atStart => exact ⟨0, Nat.zero_le _, rfl, by rw [pre_zero], B2, Z2, I2, J2, K2⟩
              case round =>
                clear B2 I2 J2 K2 Z2 HI HJ hbel hsz
                obtain ⟨k, hk, rfl, rfl, hbel, hsz, hI, hJ, hB⟩ := hrel
                by_cases hlt : k < len
                · have hpb := pre_bd zs hz k (by omega)
                  have hzb := getD_bd zs hz k (by omega)
                  have hps := pre_succ zs k (by omega)
                  have hmono := pre_mono zs hz (k + 1) len (by omega) hl
                  have hck := (hbel.cell (p := ⟨b, off + k, none⟩) hbw).trans (HC.out k hlt)
                  obtain ⟨s, hs⟩ : ∃ s : Nat, pre zs k = (s : Int) := ⟨(pre zs k).toNat, by omega⟩
                  obtain ⟨d, hd⟩ : ∃ d : Nat, zs.getD k 0 = (d : Int) := ⟨(zs.getD k 0).toNat, by omega⟩
                  rw [hs, hd] at hps
                  have hTT := HT.out
                  have hsd : s + d ≤ T := by omega
                  have hd8 : d ≤ 255 := by omega
                  have HPS : Hid (pre zs (k + 1) = (s : Int) + (d : Int)) := hps
                  have c1 : xs.getD k 0 = ((s + d : Nat) : Int) := by rw [HX.out k hlt, hps]; omega
                  have c0 : k = 0 ∧ s = 0 ∨ 0 < k ∧ wr.cell? ⟨w.heap.size, k - 1, none⟩ = some (.int .i32 s) := by
                    by_cases hk0 : k = 0
                    · subst hk0; rw [pre_zero] at hs; exact .inl ⟨rfl, by omega⟩
                    · refine .inr ⟨by omega, ?_⟩
                      rw [hI.at (i := k - 1) (by omega), HX.out (k - 1) (by omega), show k - 1 + 1 = k by omega, hs]
                  have c1' := hI.at (i := k) (by omega)
                  rw [c1] at c1'
                  have hof := of_cut .nilFunc (w.heap.size + 1) w.heap.size T T len k s d wr hlt c0 c1' (by omega) hsd (by omega) (by omega)
                  have HOF := hide hof
                  have f0 := hB.at 0
                  have f1 := hB.at 1
                  have f2 := hB.at 2
                  simp only [List.getElem?_cons_zero, List.getElem?_cons_succ] at f0 f1 f2
                  have HI : Hid (Ints wr w.heap.size 21 .i32 xs) := hI
                  have HJ : Hid (Ints wr (w.heap.size + 1) 21 .i32 ys) := hJ
                  have HB := hide hB
                  rw [hs]
                  rw [hd] at hck
                  clear hof hI hJ hB c0 c1 c1' hps hzb hpb hmono hTT hs hd
                  go_wp2_with fail
                  refine HOF.out.mono ?_
                  rintro e w' ⟨o, rfl, ho, hb'⟩
                  have hbel' : Below w.heap.size w w' := hbel.trans (hb'.mono (by omega))
                  have hsz' : w.heap.size + 2 < w'.heap.size := by have := hb'.size; omega
                  have HI' := hide (HI.out.below hb' (by omega))
                  have HJ' := hide (HJ.out.below hb' (by omega))
                  have HB' := hide (HB.out.below hb' (by omega))
                  have HO := hide ho
                  clear HI HJ HB hb' ho hbel HOF hck f0 f1 f2
                  go_wp2
                  go_loop [17] (fun j => ∃ q : Nat, q ≤ d ∧ j = .int .i64 q) (fun j => d - (intOf j).toNat)
                  case atStart => exact ⟨0, Nat.zero_le _, rfl⟩
                  case round =>
                    obtain ⟨q, hq, rfl⟩ := hrel
                    by_cases hqd : q < d
                    · have hcell : w'.cell? ⟨w.heap.size + 1, o + q, none⟩ = some (.int .i32 (((s : Int) + (q : Int)) * 7 + 3)) := by
                        rw [HO.out (by omega), HJ'.out.at (i := s + q) (by omega), HY.out (s + q) (by omega)]
                        congr 2
                      go_wp2
                      go_round
                      case rel => exact ⟨q + 1, by omega, by go_num⟩
                      case measure => simp [intOf]; omega
                    · obtain rfl : d = q := by omega
                      have HBE := hide hbel'
                      have HSZ := hide hsz'
                      clear hbel' hsz'
                      go_wp2
                      refine ⟨⟨u2, _, _, _, _, _, _, ⟨k + 1, by omega, ?_, ?_, HBE.out, HSZ.out, HI'.out, HJ'.out, HB'.out⟩, rfl, rfl, rfl, rfl, rfl, rfl, rfl⟩, ?_⟩
                      · go_num
                      · rw [HPS.out]
                      · simp [intOf]; omega
                · clear hI hJ hB
                  go_wp2
                  go_ret
                  exact ⟨rfl, hbel⟩

end Go.Proofs.Ybulkbtlq
