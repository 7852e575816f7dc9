/-
  LawS3503CLayout: the walk behind build.
-/
import Derived.Test.YbulkbtngBuild
namespace Go.Proofs.Ybulkbtng
open Go.RowKit
set_option linter.unusedVariables false

/-- What build leaves, as a hypothesis of the walks. -/
def Built (w : World) (v : Value) : Prop :=
  Calls Yba.prog 5 #[v] w fun e w' => ∃ (mv : Value) (q xs : List Int) (L head : Nat) (bv : Value), e = .returned (.tuple #[.pointer (some ⟨w.heap.size, 0, none⟩), mv]) ∧
      q.length ≤ 1024 ∧ L ≤ 2048 ∧ Fifo w' w.heap.size L head xs q bv ∧ Shows w' mv q (own w.heap.size bv) ∧ Below w.heap.size w w'

/-- 'make([]int, L)', then a copy of the whole of xs into it. -/
theorem copy_made (w1 : World) (g L : Nat) (xs : List Int) (hl : xs.length = L) (hx : Ints w1 g 3 .i64 xs) :
    ∃ w3, (Builtin.copy_ #[24, 24] 3 #[.slice (some ⟨w1.heap.size, 0, none⟩) L L, .slice (some ⟨g, 0, none⟩) L L]).run Yba.prog (w1.alloc (.cells (madeCells #[Value.int .i64 0] L) 3)) = .ok (goInt L) w3 ∧
      Ints w3 w1.heap.size 3 .i64 xs ∧ Below w1.heap.size w1 w3 ∧ w1.heap.size < w3.heap.size := by
  have hx2 : Ints (w1.alloc (.cells (madeCells #[Value.int .i64 0] L) 3)) g 3 .i64 xs := hx.alloc _
  have hg : (w1.alloc (.cells (madeCells #[Value.int .i64 0] L) 3)).heap[w1.heap.size]? = some (.cells (madeCells #[Value.int .i64 0] L) 3 (0, 0)) := heap_alloc_new w1 _
  have hcs : ∀ j v, (xs.map (Value.int .i64))[j]? = some v → (w1.alloc (.cells (madeCells #[Value.int .i64 0] L) 3)).cell? ((⟨g, 0, none⟩ : Addr).add j) = some v := by
    have h := ints_cells hx2 0 L
    rw [List.drop_zero, List.take_of_length_le (by omega)] at h
    exact h
  have hr := run_copy_row Yba.prog (w1.alloc (.cells (madeCells #[Value.int .i64 0] L) 3)) 24 24 3 3 w1.heap.size 0 L L ⟨g, 0, none⟩ L L (madeCells #[Value.int .i64 0] L) 3 (xs.map (Value.int .i64)) Yba.underlying24 Yba.size3 hg
    (by show _ = min L L; simp [hl]) hcs (by simp [size_madeCells, hl]) (ints_oneCell .i64 xs)
  have e : (madeCells #[Value.int .i64 0] L).toList.take 0 ++ xs.map (Value.int .i64) ++ (madeCells #[Value.int .i64 0] L).toList.drop (0 + (xs.map (Value.int .i64)).length) = xs.map (Value.int .i64) := by
    rw [List.drop_eq_nil_of_le (by simp [size_madeCells, hl])]
    simp
  rw [e] at hr
  have e2 : (xs.map (Value.int .i64)).length = L := by simp [hl]
  rw [e2] at hr
  exact ⟨_, hr, setRow_heap _ _ _ _ 3 _ hg, below_setRow ((Below.refl _ _).alloc (Nat.le_refl _) _) (Nat.le_refl _) _, by simp⟩

set_option maxRecDepth 100000 in
theorem layout_big (a : Option Addr) (len cap : Nat) (w : World) (h : 1024 < len) :
    Calls Yba.prog 3 #[.slice a len cap] w fun e w' => e = .returned (.bool true) ∧ Below w.heap.size w w' := by
  have hg : (1024 : Int) < (len : Int) := by omega
  go_enter Yba.func3, Yba.ntmps3
  go_wp2
  go_ret
  exact ⟨rfl, Below.refl _ _⟩

set_option maxRecDepth 100000 in
set_option maxHeartbeats 2000000 in
theorem layout_small (a : Option Addr) (len cap : Nat) (w : World) (h : ¬ 1024 < len) (hB : Hid (Built w (.slice a len cap))) :
    Calls Yba.prog 3 #[.slice a len cap] w fun e w' => e = .returned (.bool true) ∧ Below w.heap.size w w' := by
  have hg : ¬ (1024 : Int) < (len : Int) := by omega
  go_enter Yba.func3, Yba.ntmps3
  go_wp2_with fail
  refine hB.out.mono ?_
  rintro e w1 ⟨mv, q, xs, L, head, bv, rfl, hq, hL, hF, -, hbel⟩
  have f0 := hF.1.at 0
  have f1 := hF.1.at 1
  have f2 := hF.1.at 2
  simp only [List.getElem?_cons_zero, List.getElem?_cons_succ] at f0 f1 f2
  have HF := hide hF
  have HBEL := hide hbel
  have hmk := make64 L (by omega)
  obtain ⟨h1, h2, h3, h4, hd⟩ := hF
  rcases hd with ⟨rfl, hbv, rfl⟩ | ⟨g, hbv, hg1, hi, hh, h8, hp⟩
  · rw [hbv] at f0 HF
    have hcp := fun (W : World) => run_copy_none (P := Yba.prog) W 24 24 3 3 (some ⟨w1.heap.size, 0, none⟩) none 0 0 0 0 Yba.underlying24 Yba.size3 rfl
    have hlt1 := HF.out.lt
    have hF3 := hide (HF.out.keep (S := []) ((Kept.refl _ w1).alloc (.cells (madeCells #[Value.int .i64 0] 0) 3)) (by simp))
    have HB3 := hide (HBEL.out.alloc HBEL.out.size (.cells (madeCells #[Value.int .i64 0] 0) 3))
    simp only [Int.natCast_zero] at hmk f1
    clear hB h1 hbel h2 h4
    go_wp2_with fail
    refine (fifo_grow _ w.heap.size 0 0 xs q _ hF3.out (by omega)).mono ?_
    rintro e w4 ⟨rfl, hk4, hs4, M, hM, hF4⟩
    obtain rfl : M = 8 := hM
    rw [if_pos rfl] at hF4
    obtain ⟨b4, l4, n4, r4, hd4⟩ := hF4
    rcases hd4 with ⟨h0, _⟩ | ⟨g4, hbv4, hlt4, hi4, _, _, _⟩
    · omega
    simp only [Value.slice.injEq, Option.some.injEq, Addr.mk.injEq] at hbv4
    obtain ⟨⟨hg4, _⟩, _⟩ := hbv4
    rw [hg4] at b4
    clear hg4
    have HI4 := hide hi4
    have HB4 := hide (HB3.out.trans (hk4.toBelow HB3.out.size (by simp)))
    have t0 := b4.at 0
    have t1 := b4.at 1
    have t2 := b4.at 2
    simp only [List.getElem?_cons_zero, List.getElem?_cons_succ] at t0 t1 t2
    have hw8 : decide ((0 : Int) < 8) = true := by decide
    clear hk4 hF3 HB3 b4 r4 l4 n4 hi4 f0 f1 f2 hcp hmk HBEL HF hs4
    go_wp2
    go_loop [10] (fun t => ∃ i : Nat, i ≤ 8 ∧ t = .int .i64 i) (fun t => 8 - (intOf t).toNat)
    case atStart => exact ⟨0, Nat.zero_le _, rfl⟩
    case round =>
      obtain ⟨i, hi, rfl⟩ := hrel
      by_cases hlt : i < 8
      · have c1 := HI4.out.at (i := i) (by simpa using hlt)
        have hz : (List.replicate 8 (0 : Int)).getD i 0 = 0 := by
          rw [List.getD_eq_getElem?_getD, List.getElem?_replicate]; split <;> rfl
        rw [hz] at c1
        clear hz
        have hltI : (i : Int) < 8 := by omega
        have hi0 : ¬ (i : Int) < 0 := by omega
        go_wp2
        go_round
        case rel => exact ⟨i + 1, by omega, by go_num⟩
        case measure => simp [intOf]; omega
      · go_wp2
        refine wp_loop_rounds 1 ?_
        rw [rounds_succ]
        go_wp2
        go_ret
        exact ⟨rfl, HB4.out⟩
  · rw [hbv] at f0 HF
    clear hB h1 hbel
    have HI := hide hi
    have HL2 := hide h2
    have hgl := hi.lt
    clear hi h2 h4 hp
    obtain ⟨w3, hcp, hI3, hb3, hs3⟩ := copy_made w1 g L xs HL2.out HI.out
    have hF3 := hide (HF.out.keep (S := []) ⟨hb3.os, hb3.tape, hb3.output, hb3.size, fun k hk _ => hb3.block k hk⟩ (by simp))
    have HI3 := hide hI3
    have HIg := hide (HI.out.below hb3 hgl)
    have HB3 := hide (HBEL.out.trans (hb3.mono (by have := HF.out.lt; omega)))
    have hlt1 := HF.out.lt
    clear hI3 hb3
    go_wp2_with fail
    have hgrow := fifo_grow w3 w.heap.size L head xs q _ hF3.out hL
    refine hgrow.mono ?_
    rintro e w4 ⟨rfl, hk4, hs4, M, hM, hF4⟩
    rw [if_neg (by omega)] at hF4
    obtain ⟨b4, l4, n4, r4, hd4⟩ := hF4
    rcases hd4 with ⟨h0, _⟩ | ⟨g4, hbv4, hlt4, hi4, _, _, _⟩
    · omega
    simp only [Value.slice.injEq, Option.some.injEq, Addr.mk.injEq] at hbv4
    obtain ⟨⟨rfl, _⟩, _⟩ := hbv4
    have hlw3 : g < w3.heap.size := by omega
    have HI4 := hide hi4
    have HG4 := hide (hk4.ints HIg.out (by simp; omega))
    have HC4 := hide (hk4.ints HI3.out (by simp; omega))
    have HB4 := hide (HB3.out.trans (hk4.toBelow (by omega) (by simp)))
    have t0 := b4.at 0
    have t1 := b4.at 1
    have t2 := b4.at 2
    simp only [List.getElem?_cons_zero, List.getElem?_cons_succ] at t0 t1 t2
    have hM2 : M = 2 * L := by omega
    subst hM2
    have hw8 : decide (2 * (L : Int) < 8) = false := by simp; omega
    have htest : ((2 * L : Nat) : Int) = 2 * (L : Int) := by omega
    clear hM hk4 hF3 HI3 HIg HB3 hgrow b4 r4 l4 n4 hi4 f0 f1 f2 hcp hmk HBEL HF
    go_wp2
    go_loop [10] (fun t => ∃ i : Nat, i ≤ 2 * L ∧ t = .int .i64 i) (fun t => 2 * L - (intOf t).toNat)
    case atStart => exact ⟨0, Nat.zero_le _, rfl⟩
    case round =>
      obtain ⟨i, hi, rfl⟩ := hrel
      by_cases hlt : i < 2 * L
      · have c1 := HI4.out.at (i := i) (by rw [rot_length L head xs HL2.out (by omega)]; exact hlt)
        have hltI : (i : Int) < 2 * (L : Int) := by omega
        by_cases hiL : i < L
        · rw [rot_at L head xs HL2.out hh i hiL] at c1
          have hmI : ((head : Int) + (i : Int)) % (L : Int) = (((head + i) % L : Nat) : Int) := by rw [Int.natCast_emod, Int.natCast_add]
          have hml : (head + i) % L < L := Nat.mod_lt _ (by omega)
          generalize (head + i) % L = p at *
          have c2 := HG4.out.at (i := p) (by rw [HL2.out]; exact hml)
          generalize xs.getD p 0 = u at *
          go_wp2
          go_round
          case rel => exact ⟨i + 1, by omega, by go_num⟩
          case measure => simp [intOf]; omega
        · rw [rot_zero L head xs HL2.out (by omega) i (by omega)] at c1
          go_wp2
          go_round
          case rel => exact ⟨i + 1, by omega, by go_num⟩
          case measure => simp [intOf]; omega
      · go_wp2
        go_loopw [12] (fun t wr => ∃ (i n : Nat), i ≤ L ∧ t = .int .i64 i ∧ wr = w4.drewN n) (fun t _ => L - (intOf t).toNat)
        case atStart => exact ⟨0, 0, Nat.zero_le _, rfl, rfl⟩
        case round =>
          obtain ⟨j, n, hj, rfl, rfl⟩ := hrel
          by_cases hjl : j < L
          · have c1 := HG4.out.at (i := j) (by rw [HL2.out]; exact hjl)
            have c2 := HC4.out.at (i := j) (by rw [HL2.out]; exact hjl)
            have hjI : (j : Int) < (L : Int) := by omega
            have hjI0 : (0 : Int) ≤ (j : Int) := by omega
            generalize xs.getD j 0 = u at *
            go_wp2
            go_quiet (fail)
            go_wp2
            go_roundw
            case rel => exact ⟨j + 1, _, by omega, by go_num, rfl⟩
            case measure => simp [intOf]; omega
          · go_wp2
            go_ret
            exact ⟨rfl, below_drewN HB4.out _⟩

end Go.Proofs.Ybulkbtng
