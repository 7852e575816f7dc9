/-
  '(*fifo[int]).push', '.pop', '.len' by their contracts.
-/
import Derived.Test.YbulkbtngGrow
namespace Go.Proofs.Ybulkbtng
open Go.RowKit
set_option linter.unusedVariables false

theorem cell_other (g fp : Nat) (h : fp ≠ g) (w : World) (o p : Nat) (v : Value) : (w.setCell ⟨g, o, none⟩ v).cell? ⟨fp, p, none⟩ = w.cell? ⟨fp, p, none⟩ :=
  World.cell?_of_block (w := w) (Below.heap_setCell w ⟨g, o, none⟩ v fp h)

theorem len_low (fp n : Nat) (w : World) (bv hv : Value) (hfp : Blk w fp 28 [bv, hv, .int .i64 n]) :
    Calls Yba.prog 7 #[.pointer (some ⟨fp, 0, none⟩)] w fun e w' => e = .returned (.int .i64 n) ∧ w' = w := by
  have f2 := hfp.at 2
  simp only [List.getElem?_cons_zero, List.getElem?_cons_succ] at f2
  clear hfp
  go_enter Yba.func7, Yba.ntmps7
  go_wp2
  go_ret
  exact ⟨rfl, rfl⟩

set_option maxRecDepth 100000 in
set_option maxHeartbeats 1000000 in
/-- A push where there is room. -/
theorem push_low (fp g L head n : Nat) (v : Int) (xs : List Int) (w : World) (hfp : Blk w fp 28 [.slice (some ⟨g, 0, none⟩) L L, .int .i64 head, .int .i64 n]) (hx : Ints w g 3 .i64 xs) (hl : xs.length = L) (hh : head < L) (hn : n < L) (hL : L ≤ 1000000) (hp : Pow L) (hne : fp ≠ g) :
    Calls Yba.prog 9 #[.pointer (some ⟨fp, 0, none⟩), .int .i64 v] w fun e w' => e = .returned (.tuple #[]) ∧ Kept [fp, g] w w' ∧ Ints w' g 3 .i64 (xs.set ((head + n) % L) v) ∧
      Blk w' fp 28 [.slice (some ⟨g, 0, none⟩) L L, .int .i64 head, .int .i64 ((n + 1 : Nat) : Int)] := by
  have f0 := hfp.at 0
  have f1 := hfp.at 1
  have f2 := hfp.at 2
  have r2 := hfp.free 2
  simp only [List.getElem?_cons_zero, List.getElem?_cons_succ] at f0 f1 f2
  have hmask := hp.mask hL (head + n) (by omega)
  have ecast : ((head + n : Nat) : Int) = (head : Int) + (n : Int) := by omega
  rw [ecast] at hmask
  clear ecast
  have hplt : (head + n) % L < L := Nat.mod_lt _ (by omega)
  generalize (head + n) % L = p at *
  have hd : ((n : Int) == (L : Int)) = false := beq_eq_false_iff_ne.2 (by omega)
  have hpi : (p : Int) < (L : Int) := by omega
  have hpi0 : (0 : Int) ≤ (p : Int) := by omega
  have hc := hx.at (i := p) (by omega)
  have hfz := hx.free p
  generalize xs.getD p 0 = old at hc
  have wr1 : IntKind.i64.wrap ((head : Int) + (n : Int)) = (head : Int) + (n : Int) := by rw [IntKind.wrap_i64]; omega
  have wr2 : IntKind.i64.wrap ((L : Int) - 1) = (L : Int) - 1 := by rw [IntKind.wrap_i64]; omega
  have hso := cell_other g fp hne
  have HFP := hide hfp
  have HX := hide hx
  clear hfp hx hp
  go_enter Yba.func9, Yba.ntmps9
  go_wp2
  go_quiet (fail)
  go_wp2
  go_region_held3 (fun w' => w'.cell? ⟨fp, 0, none⟩ = some (.slice (some ⟨g, 0, none⟩) L L) ∧ w'.cell? ⟨fp, 1, none⟩ = some (.int .i64 head) ∧ w'.cell? ⟨fp, 2, none⟩ = some (.int .i64 n)) (go_keep) (fail)
  go_wp2
  go_end0
  refine ⟨rfl, ?_, ?_, ?_⟩
  · exact (((Kept.refl [fp, g] w).drewN _).setCell (.inl (by simp)) _).setCell (.inl (by simp)) _
  · have hgf : g ≠ fp := fun e => hne e.symm
    exact Ints.other (a := ⟨fp, 2, none⟩) ((HX.out.drewN _).set p v) hgf _
  · exact ((HFP.out.drewN _).other (a := ⟨g, p, none⟩) hne _).set 2 _

set_option maxRecDepth 100000 in
set_option maxHeartbeats 1000000 in
/-- A push where the buffer is full: 'hgr' says what grow leaves. -/
theorem push_full (fp L M : Nat) (v : Int) (bv hv : Value) (ys : List Int) (w : World) (hfp : Blk w fp 28 [bv, hv, .int .i64 L]) (hbv : ∃ a, bv = .slice a L L) (hy : ys.length = M) (hM : L < M) (hM2 : M ≤ 1000000) (hp : Pow M)
    (hgr : ∀ nq : Nat, Calls Yba.prog 6 #[.pointer (some ⟨fp, 0, none⟩)] (w.drewN nq) fun e w' => e = .returned (.tuple #[]) ∧ Kept [fp] w w' ∧ w.heap.size < w'.heap.size ∧ Ints w' w.heap.size 3 .i64 ys ∧ Blk w' fp 28 [.slice (some ⟨w.heap.size, 0, none⟩) M M, .int .i64 0, .int .i64 L]) :
    Calls Yba.prog 9 #[.pointer (some ⟨fp, 0, none⟩), .int .i64 v] w fun e w' => e = .returned (.tuple #[]) ∧ Kept [fp] w w' ∧ w.heap.size < w'.heap.size ∧ Ints w' w.heap.size 3 .i64 (ys.set L v) ∧
      Blk w' fp 28 [.slice (some ⟨w.heap.size, 0, none⟩) M M, .int .i64 0, .int .i64 ((L + 1 : Nat) : Int)] := by
  obtain ⟨a, rfl⟩ := hbv
  have f0 := hfp.at 0
  have f2 := hfp.at 2
  have hlt := hfp.lt
  simp only [List.getElem?_cons_zero, List.getElem?_cons_succ] at f0 f2
  have hmask := hp.mask hM2 L (by omega)
  rw [Nat.mod_eq_of_lt hM] at hmask
  have hd : ((L : Int) == (L : Int)) = true := by simp
  have HG := hide hgr
  clear hgr hfp hp
  have wr0 : IntKind.i64.wrap ((L : Int)) = (L : Int) := by rw [IntKind.wrap_i64]; omega
  have wr2 : IntKind.i64.wrap ((M : Int) - 1) = (M : Int) - 1 := by rw [IntKind.wrap_i64]; omega
  go_enter Yba.func9, Yba.ntmps9
  go_wp2
  go_quiet (fail)
  go_wp2_with fail
  refine (HG.out _).mono ?_
  rintro e w1 ⟨rfl, hk, hs1, hi1, hb1⟩
  clear f0 f2 HG
  have f0 := hb1.at 0
  have f1 := hb1.at 1
  have f2 := hb1.at 2
  have r2 := hb1.free 2
  simp only [List.getElem?_cons_zero, List.getElem?_cons_succ] at f0 f1 f2
  have hc := hi1.at (i := L) (by omega)
  have hfz := hi1.free L
  generalize ys.getD L 0 = old at hc
  have hne : fp ≠ w.heap.size := by omega
  have hso := cell_other w.heap.size fp hne
  have HK := hide hk
  have HI := hide hi1
  have HB := hide hb1
  have HS := hide hs1
  clear hk hi1 hb1 hs1
  have hLM : (L : Int) < (M : Int) := by omega
  go_wp2
  go_region_held3 (fun w' => w'.cell? ⟨fp, 0, none⟩ = some (.slice (some ⟨w.heap.size, 0, none⟩) M M) ∧ w'.cell? ⟨fp, 1, none⟩ = some (.int .i64 0) ∧ w'.cell? ⟨fp, 2, none⟩ = some (.int .i64 L)) (go_keep) (fail)
  go_wp2
  go_end0
  refine ⟨rfl, ?_, ?_, ?_, ?_⟩
  · exact ((HK.out.drew.setCell (.inr (Nat.le_refl _)) _).setCell (.inl (by simp)) _)
  · simp only [World.setCell, Array.size_modify, World.drew]
    exact HS.out
  · have hgf : w.heap.size ≠ fp := fun e => hne e.symm
    exact Ints.other (a := ⟨fp, 2, none⟩) (HI.out.drew.set L v) hgf _
  · exact (HB.out.drew.other (a := ⟨w.heap.size, L, none⟩) hne _).set 2 _

set_option maxRecDepth 100000 in
set_option maxHeartbeats 1000000 in
theorem pop_low (fp g L head n : Nat) (v : Int) (xs : List Int) (w : World) (hfp : Blk w fp 28 [.slice (some ⟨g, 0, none⟩) L L, .int .i64 head, .int .i64 ((n + 1 : Nat) : Int)]) (hx : Ints w g 3 .i64 xs) (hl : xs.length = L) (hh : head < L) (hn : n < L) (hL : L ≤ 1000000) (hp : Pow L) (hne : fp ≠ g) (hv : xs.getD head 0 = v) :
    Calls Yba.prog 8 #[.pointer (some ⟨fp, 0, none⟩)] w fun e w' => e = .returned (.int .i64 v) ∧ Kept [fp, g] w w' ∧ Ints w' g 3 .i64 (xs.set head 0) ∧
      Blk w' fp 28 [.slice (some ⟨g, 0, none⟩) L L, .int .i64 (((head + 1) % L : Nat) : Int), .int .i64 n] := by
  have f0 := hfp.at 0
  have f1 := hfp.at 1
  have f2 := hfp.at 2
  have r1 := hfp.free 1
  have r2 := hfp.free 2
  simp only [List.getElem?_cons_zero, List.getElem?_cons_succ] at f0 f1 f2
  have hmask := hp.mask hL (head + 1) (by omega)
  have ecast : ((head + 1 : Nat) : Int) = (head : Int) + 1 := by omega
  rw [ecast] at hmask
  clear ecast
  have hplt : (head + 1) % L < L := Nat.mod_lt _ (by omega)
  generalize (head + 1) % L = p at *
  have hpi : (head : Int) < (L : Int) := by omega
  have hpi0 : (0 : Int) ≤ (head : Int) := by omega
  have hc := hx.at (i := head) (by omega)
  rw [hv] at hc
  have hfz := hx.free head
  have wr1 : IntKind.i64.wrap ((head : Int) + 1) = (head : Int) + 1 := by rw [IntKind.wrap_i64]; omega
  have wr2 : IntKind.i64.wrap ((L : Int) - 1) = (L : Int) - 1 := by rw [IntKind.wrap_i64]; omega
  have hso := cell_other g fp hne
  have ecast : ((n + 1 : Nat) : Int) = (n : Int) + 1 := by omega
  have HFP := hide hfp
  have HX := hide hx
  rw [ecast] at f2
  clear hfp hx hp hv ecast
  go_enter Yba.func8, Yba.ntmps8
  go_wp2
  go_quiet (fail)
  go_wp2
  go_region_held3 (fun w' => w'.cell? ⟨fp, 0, none⟩ = some (.slice (some ⟨g, 0, none⟩) L L) ∧ w'.cell? ⟨fp, 1, none⟩ = some (.int .i64 head)) (go_keep) (fail)
  go_wp2
  have K1 := hide ((((Kept.refl [fp, g] w).drewN (nq + 1)).setCell (p := ⟨g, head, none⟩) (.inl (by simp)) (.int .i64 0)))
  have I1 := hide ((HX.out.drewN (nq + 1)).set head 0)
  have F1 := hide ((HFP.out.drewN (nq + 1)).other (a := ⟨g, head, none⟩) hne (.int .i64 0))
  generalize (w.drewN (nq + 1)).setCell ⟨g, head, none⟩ (.int .i64 0) = w1 at *
  have f0' := F1.out.at 0
  have f1' := F1.out.at 1
  have f2' := F1.out.at 2
  have r1' := F1.out.free 1
  have r2' := F1.out.free 2
  have ecast : ((n + 1 : Nat) : Int) = (n : Int) + 1 := by omega
  simp only [List.getElem?_cons_zero, List.getElem?_cons_succ, ecast] at f0' f1' f2'
  clear f0 f1 f2 r1 r2 hso hc hfz ecast
  go_region
  go_wp2
  go_ret
  have hgf : g ≠ fp := fun e => hne e.symm
  refine ⟨rfl, ?_, ?_, ?_⟩
  · exact ((K1.out.drew.setCell (.inl (by simp)) _).setCell (.inl (by simp)) _)
  · exact Ints.other (a := ⟨fp, 2, none⟩) (Ints.other (a := ⟨fp, 1, none⟩) I1.out.drew hgf _) hgf _
  · exact (F1.out.drew.set 1 _).set 2 _

end Go.Proofs.Ybulkbtng
