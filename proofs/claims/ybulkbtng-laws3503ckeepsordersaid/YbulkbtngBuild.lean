/-
  'zzs3503cbuild' by its contract: the fifo and the plain model of what it holds.
-/
import Derived.Test.YbulkbtngFifo
import Derived.Test.YbulkbtngAppend
namespace Go.Proofs.Ybulkbtng
open Go.RowKit
set_option linter.unusedVariables false

/-- The loop's head: M: all that was pushed; fr of them have come out. -/
def BInv (w wr : World) (k : Nat) (v : Value) (fr : Nat) : Prop :=
  ∃ (M xs : List Int) (L head : Nat) (bv : Value), fr ≤ M.length ∧ M.length ≤ k ∧ L ≤ 2048 ∧ Fifo wr w.heap.size L head xs (M.drop fr) bv ∧
    wr.ownsRow (w.heap.size + 1) 3 1 v M.length (M.map (Value.int .i64)) ∧ (∀ j, v.ownBlock = some j → j ∉ own w.heap.size bv) ∧ Below w.heap.size w wr

/-- A slice value that shows q, in memory apart from S. -/
def Shows (w : World) (v : Value) (q : List Int) (S : List Nat) : Prop :=
  ∃ a c, v = .slice a q.length c ∧ (q ≠ [] → ∃ b o, a = some ⟨b, o, none⟩ ∧ b ∉ S ∧ b < w.heap.size ∧ ∀ i, i < q.length → w.cell? ⟨b, o + i, none⟩ = some (.int .i64 (q.getD i 0)))

theorem BInv.start (w : World) : BInv w (w.alloc (.cells #[.slice none 0 0, .int .i64 0, .int .i64 0] 28)) 0 (.slice none 0 0) 0 :=
  ⟨[], [], 0, 0, .slice none 0 0, by simp, by simp, by omega, ⟨Blk.new w 28 _, rfl, by simp, Ring.nil _ _ _, .inl ⟨rfl, rfl, rfl⟩⟩, World.ownsRow_nil _ _ _ _, fun j hj => by simp [Value.ownBlock] at hj, (Below.refl _ _).alloc (Nat.le_refl _) _⟩

theorem ownsRow_kept {S : List Nat} {w w' : World} {base : Nat} {e : TypeId} {size : Nat} {v : Value} {n : Nat} {xs : List Value} (h : w.ownsRow base e size v n xs) (hk : Kept S w w') (hS : ∀ j, v.ownBlock = some j → j ∉ S) : w'.ownsRow base e size v n xs := by
  obtain ⟨h1, h2⟩ := h
  refine ⟨h1, ?_⟩
  rcases h2 with h2 | ⟨g, cap, cur, hv, hg, hh, r⟩
  · exact .inl h2
  · refine .inr ⟨g, cap, cur, hv, hg, ?_, r⟩
    rw [hk.block g (lt_of_block hh) (hS g (by rw [hv]; rfl))]
    exact hh

theorem BInv.none {w wr : World} {k fr : Nat} {v : Value} (h : BInv w wr k v fr) : BInv w wr (k + 1) v fr := by
  obtain ⟨M, xs, L, head, bv, hfr, hMk, r⟩ := h
  exact ⟨M, xs, L, head, bv, hfr, by omega, r⟩

theorem BInv.popped {w wr w1 : World} {k fr L head head' : Nat} {v bv : Value} {M xs xs' : List Int} (hfr : fr < M.length) (hMk : M.length ≤ k) (hL : L ≤ 2048) (hO : wr.ownsRow (w.heap.size + 1) 3 1 v M.length (M.map (Value.int .i64)))
    (hD : ∀ j, v.ownBlock = some j → j ∉ own w.heap.size bv) (hbel : Below w.heap.size w wr) (hF : Fifo wr w.heap.size L head xs (M.drop fr) bv) (hk : Kept (own w.heap.size bv) wr w1) (hF1 : Fifo w1 w.heap.size L head' xs' (M.drop (fr + 1)) bv) : BInv w w1 (k + 1) v (fr + 1) :=
  ⟨M, xs', L, head', bv, hfr, by omega, hL, hF1, ownsRow_kept hO hk hD, hD, hbel.trans (hk.toBelow (by have := hbel.size; omega) (fun j hj => (hF.own_lt j hj).1))⟩

theorem BInv.pushed {w wr w1 w2 : World} {k fr L head L' head' : Nat} {v v' bv bv' : Value} {M xs xs' : List Int} {z : Int} (hfr : fr ≤ M.length) (hMk : M.length ≤ k) (hO : wr.ownsRow (w.heap.size + 1) 3 1 v M.length (M.map (Value.int .i64)))
    (hD : ∀ j, v.ownBlock = some j → j ∉ own w.heap.size bv) (hbel : Below w.heap.size w wr) (hF : Fifo wr w.heap.size L head xs (M.drop fr) bv) (hk : Kept (own w.heap.size bv) wr w1)
    (hL' : L' ≤ 2048) (hF1 : Fifo w1 w.heap.size L' head' xs' (M.drop fr ++ [z]) bv') (hbv : bv'.ownBlock = bv.ownBlock ∨ bv'.ownBlock = some wr.heap.size)
    (o : Obj) (hO2 : w2.ownsRow (w.heap.size + 1) 3 1 v' (M.length + 1) (M.map (Value.int .i64) ++ [Value.int .i64 z])) (hg : (w1.alloc o).grownBy w2 v.ownBlock) (hv' : v'.ownBlock = v.ownBlock ∨ v'.ownBlock = some (w1.heap.size + 1)) : BInv w w2 (k + 1) v' fr := by
  have hD' : ∀ j, v.ownBlock = some j → j ∉ own w.heap.size bv' := by
    intro j hj
    have h1 := hD j hj
    have h2 := hO.lt j hj
    intro hm
    rcases hbv with e | e
    · exact h1 (by simpa [own, e] using hm)
    · simp [own, e] at hm
      omega
  have hk2 : Kept v.ownBlock.toList (w1.alloc o) w2 := ⟨hg.os, hg.tape, hg.output, hg.size, fun j hj hs => hg.block j hj (fun e => hs (by rw [← e]; simp))⟩
  have hF2 : Fifo w2 w.heap.size L' head' xs' (M.drop fr ++ [z]) bv' := by
    have hF1' : Fifo (w1.alloc o) w.heap.size L' head' xs' (M.drop fr ++ [z]) bv' := hF1.keep (S := []) ((Kept.refl _ _).alloc o) (by simp)
    refine hF1'.keep hk2 (fun j hj hm => ?_)
    have : v.ownBlock = some j := by
      cases hvb : v.ownBlock with
      | none => rw [hvb] at hm; simp at hm
      | some x => rw [hvb] at hm; simp at hm; rw [hm]
    exact hD' j this hj
  have hsz := hbel.size
  have hb1 : Below w.heap.size w w1 := hbel.trans (hk.toBelow (by omega) (fun j hj => (hF.own_lt j hj).1))
  have hb2 : Below w.heap.size w w2 := by
    have ha : Below w.heap.size w (w1.alloc o) := hb1.alloc hb1.size o
    refine ha.trans (hk2.toBelow ha.size (fun j hj => ?_))
    have : v.ownBlock = some j := by
      cases hvb : v.ownBlock with
      | none => rw [hvb] at hj; simp at hj
      | some x => rw [hvb] at hj; simp at hj; rw [hj]
    have := (hO.lt j this).1
    omega
  refine ⟨M ++ [z], xs', L', head', bv', by simp; omega, by simp; omega, hL', ?_, by simpa using hO2, ?_, hb2⟩
  · rw [List.drop_append_of_le_length hfr]
    exact hF2
  · intro j hj
    rcases hv' with e | e
    · exact hD' j (by rw [← e]; exact hj)
    · rw [e] at hj
      simp at hj
      intro hm
      have := (hF1.own_lt j hm).2
      omega

theorem drop_cons (M : List Int) (fr : Nat) (h : fr < M.length) : M.drop fr = M.getD fr 0 :: M.drop (fr + 1) := by
  rw [List.drop_eq_getElem_cons h]
  simp [h]

set_option maxRecDepth 100000 in
set_option maxHeartbeats 2000000 in
theorem build_pos (b off len cap : Nat) (zs : List Int) (w : World) (hlen : 0 < len) (h1k : len ≤ 1024)
    (hc : ∀ i, i < len → w.cell? ⟨b, off + i, none⟩ = some (.int .i16 (zs.getD i 0))) (hz : ∀ i, -32768 ≤ zs.getD i 0 ∧ zs.getD i 0 ≤ 32767) :
    Calls Yba.prog 5 #[.slice (some ⟨b, off, none⟩) len cap] w fun e w' => ∃ (mv : Value) (q xs : List Int) (L head : Nat) (bv : Value), e = .returned (.tuple #[.pointer (some ⟨w.heap.size, 0, none⟩), mv]) ∧
      q.length ≤ 1024 ∧ L ≤ 2048 ∧ Fifo w' w.heap.size L head xs q bv ∧ Shows w' mv q (own w.heap.size bv) ∧ Below w.heap.size w w' := by
  have hbw : b < w.heap.size := block_lt_of_cell (hc 0 hlen)
  have HC := hide hc
  have HZ := hide hz
  clear hc hz
  obtain ⟨i0, hi0, hz0, hz1, hz2⟩ := info_parts Yba.info3
  have HI0 := hide hi0
  have HZ0 := hide hz0
  have HZ1 := hide hz1
  have HZ2 := hide hz2
  clear hi0 hz0 hz1 hz2
  go_enter Yba.func5, Yba.ntmps5
  go_wp2
  go_loopw [5, 6, 13] (fun v f i wr => ∃ k fr : Nat, k ≤ len ∧ i = .int .i64 k ∧ f = .int .i64 fr ∧ BInv w wr k v fr) (fun _ _ i _ => len - (intOf i).toNat)
  case atStart => exact ⟨0, 0, Nat.zero_le _, rfl, rfl, BInv.start w⟩
  case round =>
    obtain ⟨k, fr, hk, rfl, rfl, hB⟩ := hrel
    obtain ⟨M, xs, L, head, bv, hfr, hMk, hL, hF, hO, hD, hbel⟩ := hB
    have f2 := hF.1.at 2
    simp only [List.getElem?_cons_zero, List.getElem?_cons_succ] at f2
    have HF := hide hF
    have HO := hide hO
    have HD := hide hD
    clear hF hO hD
    by_cases hlt : k < len
    · have hck := (hbel.cell (p := ⟨b, off + k, none⟩) hbw).trans (HC.out k hlt)
      have hzb := HZ.out k
      generalize zs.getD k 0 = z at *
      by_cases hneg : z < 0
      · by_cases hn : M.length = fr
        · -- a pop of nothing
          have hq : (M.drop fr).length = 0 := by simp; omega
          rw [hq] at f2
          go_wp2
          go_roundw
          case rel => exact ⟨k + 1, fr, by omega, by go_num, rfl, M, xs, L, head, bv, hfr, by omega, hL, HF.out, HO.out, HD.out, hbel⟩
          case measure => simp [intOf]; omega
        · -- a pop
          have hq := drop_cons M fr (by omega)
          have hpop := hide (fifo_pop wr w.heap.size L head xs (M.drop (fr + 1)) bv (M.getD fr 0) (by rw [← hq]; exact HF.out) (by omega))
          have hql : (M.drop fr).length = M.length - fr := by simp
          rw [hql] at f2
          generalize M.getD fr 0 = u at *
          clear hq hql
          have hpos : 0 < M.length - fr := by omega
          go_wp2_with fail
          refine hpop.out.mono ?_
          rintro e w1 ⟨rfl, hk1, hF1⟩
          have hR := hide (BInv.popped (by omega) hMk hL HO.out HD.out hbel HF.out hk1 hF1)
          clear hk1 hF1 f2 hck hpop
          go_wp2
          go_roundw
          case rel => exact ⟨k + 1, fr + 1, by omega, by go_num, by go_num, hR.out⟩
          case measure => simp [intOf]; omega
      · -- a push
        have hql : (M.drop fr).length ≤ 1024 := by simp; omega
        have hpush := hide (fifo_push wr w.heap.size L head xs (M.drop fr) bv z HF.out (by omega) hql)
        clear f2
        go_wp2_with fail
        refine hpush.out.mono ?_
        rintro e w1 ⟨rfl, hk1, L', head', xs', bv', _, hL', hF1, hbv⟩
        have HK1 := hide hk1
        have HF1 := hide hF1
        have HBV := hide hbv
        have HL' := hide hL'
        have hO1 := hide (ownsRow_kept HO.out hk1 HD.out)
        have hw1 : w.heap.size + 1 ≤ w1.heap.size := by have := hF1.lt; omega
        clear hk1 hF1 hbv hL' hck hpush
        go_wp2_with (at_builtin; refine wpList_append_own2 _ rfl (.tmp 32) (.tmp 35) 24 rfl (w.heap.size + 1) 3 i0 (.int .i64 0) 1 8 Yba.underlying24 HI0.out HZ0.out HZ1.out HZ2.out rfl (by decide) _ _ _ rfl (hO1.out.alloc _) ⟨w1.heap.size, 0, none⟩ 1 1 [.int .i64 z] rfl rfl ?c1 ?c2 ?c3 ?c4 ?c5 ?_)
        case c1 =>
          intro j u hj
          match j, hj with
          | 0, hj => simp at hj; subst hj; simp [Addr.add]
        case c2 => intro u hu; simp at hu; subst hu; rfl
        case c3 => unfold maxLen; omega
        case c4 => omega
        case c5 => simp; omega
        intro v' w2 hO2 hg2 hb2
        have hR := hide (BInv.pushed hfr hMk HO.out HD.out hbel HF.out HK1.out (HL'.out hL) HF1.out HBV.out _ hO2 hg2 hb2)
        clear hO2 hg2 hb2
        go_wp2
        go_roundw
        case rel => exact ⟨k + 1, fr, by omega, by go_num, rfl, hR.out⟩
        case measure => simp [intOf]; omega
    · -- the end
      clear f2
      have hfin : ∀ (n : Nat) (mv : Value), Shows wr mv (M.drop fr) (own w.heap.size bv) → ∃ (mv' : Value) (q xs : List Int) (L head : Nat) (bv : Value), Ending.returned (.tuple #[.pointer (some ⟨w.heap.size, 0, none⟩), mv]) = .returned (.tuple #[.pointer (some ⟨w.heap.size, 0, none⟩), mv']) ∧
          q.length ≤ 1024 ∧ L ≤ 2048 ∧ Fifo (wr.drewN n) w.heap.size L head xs q bv ∧ Shows (wr.drewN n) mv' q (own w.heap.size bv) ∧ Below w.heap.size w (wr.drewN n) :=
        fun n mv hS => ⟨mv, M.drop fr, xs, L, head, bv, rfl, by simp; omega, hL, HF.out.drewN n, hS, below_drewN hbel n⟩
      have HFIN := hide hfin
      clear hfin
      have hex := HO.out.2
      rcases hex with ⟨hv, hM0⟩ | ⟨g, cp, cur, hv, hg0, hgh, hnc, hcm, hcs, htk⟩
      · obtain rfl : fr = 0 := by omega
        rw [hv]
        go_wp2
        go_quiet (fail)
        go_wp2
        go_ret2
        refine HFIN.out _ _ ⟨none, 0, ?_, fun h => absurd ?_ h⟩
        · simp [hM0]
        · apply List.eq_nil_of_length_eq_zero; simp [hM0]
      · rw [hv]
        have hfrI : (fr : Int) ≤ (M.length : Int) := by omega
        have hcell : ∀ i, i < M.length → wr.cell? ⟨g, i, none⟩ = some (.int .i64 (M.getD i 0)) := by
          intro i hi
          have h := HO.out
          rw [hv] at h
          rw [h.cellAt i (by omega)]
          simp [hi]
        have HCELL := hide hcell
        have hgD := HD.out g (by rw [hv]; rfl)
        have hgl := lt_of_block hgh
        clear hcell hgh hcs htk hcm
        have hv' := hide hv
        clear hv
        by_cases hcf : cp = fr
        · go_wp2
          go_quiet (fail)
          go_wp2
          go_ret2
          refine HFIN.out _ _ ⟨some ⟨g, 0, none⟩, 0, by simp, fun h => absurd ?_ h⟩
          apply List.eq_nil_of_length_eq_zero
          simp
          omega
        · go_wp2
          go_quiet (fail)
          go_wp2
          go_ret2
          refine HFIN.out _ _ ⟨some ⟨g, fr, none⟩, cp - fr, by simp, fun _ => ⟨g, fr, rfl, hgD, hgl, fun i hi => ?_⟩⟩
          simp at hi
          rw [HCELL.out (fr + i) (by omega)]
          simp

set_option maxRecDepth 100000 in
set_option maxHeartbeats 2000000 in
theorem build_zero (a : Option Addr) (cap : Nat) (w : World) :
    Calls Yba.prog 5 #[.slice a 0 cap] w fun e w' => ∃ (mv : Value) (q xs : List Int) (L head : Nat) (bv : Value), e = .returned (.tuple #[.pointer (some ⟨w.heap.size, 0, none⟩), mv]) ∧
      q.length ≤ 1024 ∧ L ≤ 2048 ∧ Fifo w' w.heap.size L head xs q bv ∧ Shows w' mv q (own w.heap.size bv) ∧ Below w.heap.size w w' := by
  go_enter Yba.func5, Yba.ntmps5
  go_wp2
  refine wp_loop_rounds 1 ?_
  rw [rounds_succ]
  go_wp2
  go_quiet (fail)
  go_wp2
  go_ret2
  refine ⟨.slice none 0 0, [], [], 0, 0, .slice none 0 0, rfl, by simp, by omega, ?_, ⟨none, 0, rfl, fun h => absurd rfl h⟩, below_drewN ((Below.refl _ _).alloc (Nat.le_refl _) _) _⟩
  exact Fifo.drewN (w := w.alloc (.cells #[.slice none 0 0, .int .i64 0, .int .i64 0] 28)) ⟨Blk.new w 28 _, rfl, by simp, Ring.nil _ _ _, .inl ⟨rfl, rfl, rfl⟩⟩ _

end Go.Proofs.Ybulkbtng
