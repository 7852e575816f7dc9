/-
  '(*fifo[int]).grow' by its contract.
-/
import Derived.Test.YbulkbtngRows
import Derived.Test.YbulkbtngMask
import Derived.Laws.CopyOwn
import Derived.Deep.RegionLaw
import Derived.Deep.RegionHeld3
import Derived.BigRegion
import Derived.Deep.QuietTactic
import Derived.BigQuiet
namespace Go.Proofs.Ybulkbtng
open Go.RowKit
set_option linter.unusedVariables false

theorem Yba.info3 : (Yba.prog.info? 3).map (fun i => (i.zero, i.size, i.bytes)) = some (some (.int .i64 0), 1, 8) := by kernel_rfl
theorem Yba.size3 : (Yba.prog.info? 3).map (·.size) = some 1 := by kernel_rfl

/-- 'make([]int, n)'. -/
theorem make64 (n : Nat) (hn : n ≤ 10000000) (w : World) : (Instr.makeSlice 24 (.int .i64 (n : Int)) (.int .i64 (n : Int))).run Yba.prog w =
    .ok (.slice (some ⟨w.heap.size, 0, none⟩) n n) (w.alloc (.cells (madeCells (Value.int .i64 0).cells n) 3)) := by
  obtain ⟨i, hi, hz0, hz1, hz2⟩ := info_parts Yba.info3
  have h := run_make (P := Yba.prog) w 24 3 i (.int .i64 0) Yba.underlying24 hi hz0 .i64 .i64 (n : Int) (n : Int) (by omega) (by omega) (by rw [hz2]; omega) (by omega)
  rw [hz1] at h
  simpa using h

/-- A copy that moves nothing, as one step of a region that draws its order. -/
theorem step_copy_zero {P : Program} {ops : Array Oper} {o : Oper} {a : Act} {w : World} {K : Act → World → Prop} {Q : Exit → Act → World → Prop} {E : Prop} (hgd : o.guard = none) (d s : Operand) (dT sT : TypeId)
    (ho : o.op = .call { callee := .builtin .copy, args := #[d, s], argTypes := #[dT, sT] }) (elem : TypeId) (hu : P.underlying dT = some (.slice elem)) (hsz : (P.info? elem).map (·.size) = some 1)
    (dp sp : Option Addr) (dLen dCap sLen sCap : Nat) (hd : a.eval d = .slice dp dLen dCap) (hs : a.eval s = .slice sp sLen sCap) (hn : Nat.min sLen dLen = 0)
    (h : K (a.put o.dst (goInt 0)) w) : if Region.wanted o (yielded ops a.tmps) = true then Oper.wp P o a w K Q else E := by
  have hw : Region.wanted o (yielded ops a.tmps) = true := by simp [Region.wanted, hgd]
  rw [if_pos hw]
  have hrun := run_copy_none (P := P) w dT sT o.type elem dp sp dLen dCap sLen sCap hu hsz hn
  unfold Oper.wp
  simp [execOp, ho, resolve, invoke, builtin, hd, hs, hrun, Result.andThen]
  exact h

/-- The cells of a block of integers from place 'off' on. -/
theorem ints_cells {w : World} {g : Nat} {xs : List Int} (h : Ints w g 3 .i64 xs) (off m : Nat) : ∀ j v, (((xs.drop off).take m).map (Value.int .i64))[j]? = some v → w.cell? ((⟨g, off, none⟩ : Addr).add j) = some v := by
  intro j v hj
  rw [Addr.add_lit, Blk.at h (off + j)]
  simp only [List.getElem?_map, List.getElem?_take] at hj ⊢
  split at hj
  · rw [List.getElem?_drop] at hj
    exact hj
  · simp at hj

theorem splice_at (Z X : List Value) (off : Nat) (h : off + X.length ≤ Z.length) (j : Nat) : (splice Z off X)[j]? = if off ≤ j ∧ j < off + X.length then X[j - off]? else Z[j]? := by
  unfold splice
  by_cases h1 : j < off
  · rw [List.getElem?_append_left (by simp; omega), if_neg (by omega)]
    simp [h1]
  · rw [List.getElem?_append_right (by simp; omega)]
    simp only [List.length_take, Nat.min_eq_left (show off ≤ Z.length by omega)]
    by_cases h2 : j < off + X.length
    · rw [if_pos (by omega), List.getElem?_append_left (by omega)]
    · rw [if_neg (by omega), List.getElem?_append_right (by omega), List.getElem?_drop]
      congr 1
      omega

/-- Two splices fill the new buffer. -/
theorem splice_rot (xs : List Int) (L head : Nat) (hl : xs.length = L) (hh : head ≤ L) :
    splice (splice (List.replicate (2 * L) (Value.int .i64 0)) 0 ((xs.drop head).map (Value.int .i64))) (L - head) ((xs.take head).map (Value.int .i64)) = (xs.drop head ++ xs.take head ++ List.replicate L 0).map (Value.int .i64) := by
  apply List.ext_getElem?
  intro j
  rw [splice_at _ _ _ (by rw [length_splice _ _ _ (by simp; omega)]; simp; omega), splice_at _ _ _ (by simp; omega)]
  simp only [List.length_map, List.length_take, List.length_drop, hl, Nat.min_eq_left hh]
  by_cases h1 : j < L - head
  · rw [if_neg (by omega), if_pos (by omega)]
    simp only [List.getElem?_map, Nat.sub_zero]
    rw [List.append_assoc, List.getElem?_append_left (by simp; omega)]
  · by_cases h2 : j < L
    · rw [if_pos (by omega)]
      simp only [List.getElem?_map]
      rw [List.append_assoc, List.getElem?_append_right (by simp; omega), List.getElem?_append_left (by simp; omega)]
      simp [hl]
    · rw [if_neg (by omega), if_neg (by omega)]
      simp only [List.getElem?_map]
      rw [List.getElem?_append_right (by simp; omega)]
      simp only [List.length_append, List.length_drop, List.length_take, hl, Nat.min_eq_left hh, List.getElem?_replicate]
      by_cases h3 : j < 2 * L
      · rw [if_pos h3, if_pos (by omega)]; rfl
      · rw [if_neg h3, if_neg (by omega)]; rfl

set_option maxRecDepth 100000 in
set_option maxHeartbeats 1000000 in
theorem grow_some (fp g L head n : Nat) (xs : List Int) (w : World) (hfp : Blk w fp 28 [.slice (some ⟨g, 0, none⟩) L L, .int .i64 head, .int .i64 n]) (hx : Ints w g 3 .i64 xs) (hl : xs.length = L) (hh : head < L) (h8 : 8 ≤ L) (hL : L ≤ 1000000) (hne : fp ≠ g) :
    Calls Yba.prog 6 #[.pointer (some ⟨fp, 0, none⟩)] w fun e w' => e = .returned (.tuple #[]) ∧ Kept [fp] w w' ∧ w.heap.size < w'.heap.size ∧ Ints w' w.heap.size 3 .i64 (xs.drop head ++ xs.take head ++ List.replicate L 0) ∧
      Blk w' fp 28 [.slice (some ⟨w.heap.size, 0, none⟩) (2 * L) (2 * L), .int .i64 0, .int .i64 n] := by
  have f0 := hfp.at 0
  have f1 := hfp.at 1
  have f2 := hfp.at 2
  have hlt := hfp.lt
  have hgt := hx.lt
  simp only [List.getElem?_cons_zero, List.getElem?_cons_succ] at f0 f1 f2
  have hmk := make64 (2 * L) (by omega)
  have e2 : ((2 * L : Nat) : Int) = 2 * (L : Int) := by omega
  rw [e2] at hmk
  clear e2
  have HFP := hide hfp
  have HX := hide hx
  have HL := hide hl
  clear hfp hx hl
  go_enter Yba.func6, Yba.ntmps6
  go_wp2
  have K1 : Hid (Kept [fp] w (w.alloc (.cells (madeCells #[Value.int .i64 0] (2 * L)) 3))) := (Kept.refl _ _).alloc _
  have S1 : Hid ((w.alloc (.cells (madeCells #[Value.int .i64 0] (2 * L)) 3)).heap.size = w.heap.size + 1) := by show _ = _; simp
  have Z1 : Hid ((w.alloc (.cells (madeCells #[Value.int .i64 0] (2 * L)) 3)).heap[w.heap.size]? = some (.cells (List.replicate (2 * L) (Value.int .i64 0)).toArray 3 (0, 0))) := by
    show _ = _
    rw [madeCells_one]
    exact heap_alloc_new w _
  have X1 := hide (HX.out.alloc (.cells (madeCells #[Value.int .i64 0] (2 * L)) 3))
  have F1 := hide (HFP.out.alloc (.cells (madeCells #[Value.int .i64 0] (2 * L)) 3))
  generalize w.alloc (.cells (madeCells #[Value.int .i64 0] (2 * L)) 3) = w1 at *
  have f0' := F1.out.at 0
  have f1' := F1.out.at 1
  have r0 := F1.out.free 0
  have r1 := F1.out.free 1
  simp only [List.getElem?_cons_zero, List.getElem?_cons_succ] at f0' f1'
  clear f0 f1 f2 hmk
  have hs1 := hide (ints_cells X1.out head (L - head))
  have hs2 := hide (ints_cells X1.out 0 head)
  obtain ⟨A1, hA1⟩ : ∃ A1, A1 = ((xs.drop head).take (L - head)).map (Value.int .i64) := ⟨_, rfl⟩
  obtain ⟨A2, hA2⟩ : ∃ A2, A2 = ((xs.drop 0).take head).map (Value.int .i64) := ⟨_, rfl⟩
  rw [← hA1] at hs1
  rw [← hA2] at hs2
  have hl1 : Hid (A1.length = L - head) := by show A1.length = L - head; rw [hA1]; simp [HL.out]
  have hl2 : Hid (A2.length = head) := by show A2.length = head; rw [hA2]; simp [HL.out]; omega
  have ho1 := hide (fun (v : Value) (hv : v ∈ A1) => ints_oneCell .i64 _ v (by rw [hA1] at hv; exact hv))
  have ho2 := hide (fun (v : Value) (hv : v ∈ A2) => ints_oneCell .i64 _ v (by rw [hA2] at hv; exact hv))
  have hrot := splice_rot xs L head HL.out (by omega)
  have a1 : A1 = (xs.drop head).map (Value.int .i64) := by rw [hA1, List.take_of_length_le (by simp [HL.out])]
  have a2 : A2 = (xs.take head).map (Value.int .i64) := by rw [hA2]; simp
  rw [← a1, ← a2] at hrot
  clear a1 a2 hA1 hA2
  obtain ⟨Z, hZ⟩ : ∃ Z, Z = List.replicate (2 * L) (Value.int .i64 0) := ⟨_, rfl⟩
  rw [← hZ] at Z1 hrot
  have hZl : Hid (Z.length = 2 * L) := by show _ = _; rw [hZ]; simp
  have HR := hide hrot
  clear hZ hrot
  obtain ⟨m, hm⟩ : ∃ m, m = L - head := ⟨_, rfl⟩
  have hm0 : 0 < m := by omega
  have hmL : m ≤ L := by omega
  have hm2 : m + head = L := by omega
  rw [← hm] at hl1 HR
  have HM := hide hm
  have HM2 := hide hm2
  clear hm hm2
  have hn1 : Hid (A1.length = Nat.min m (2 * L)) := by show A1.length = min m (2 * L); rw [hl1.out]; omega
  have hn2 : Hid (A2.length = Nat.min head (2 * L - m)) := by show A2.length = min head (2 * L - m); rw [hl2.out]; omega
  have hb1 : Hid (0 + A1.length ≤ Z.length) := by show 0 + A1.length ≤ Z.length; rw [hl1.out, hZl.out]; omega
  have hle : head ≤ L := by omega
  have hnl : ¬ L = head := by omega
  have hLm : L - head = m := HM.out.symm
  go_region_held3 (fun w' => w'.cell? ⟨fp, 0, none⟩ = some (.slice (some ⟨g, 0, none⟩) L L) ∧ w'.cell? ⟨fp, 1, none⟩ = some (.int .i64 head)) (go_keep) (first | (refine step_copy_splice rfl (.tmp 12) (.tmp 21) 24 24 rfl 3 Yba.underlying24 Yba.size3 (some ⟨w.heap.size, 0, none⟩) (some ⟨g, head, none⟩) (2 * L) (2 * L) m m (by simp [Act.eval]) (by simp [Act.eval]) w.heap.size 0 Z 3 Z1.out A1 hn1.out (fun _ => ⟨rfl, _, rfl, hs1.out⟩) hb1.out ho1.out w.heap.size w1 (Below.refl _ _).drew (Nat.le_refl _) ?_; intro w2 hg2 hb2; have q0 := (hb2.cell (p := ⟨fp, 0, none⟩) hlt).trans f0'; have q1 := (hb2.cell (p := ⟨fp, 1, none⟩) hlt).trans f1'))
  clear hnl hLm
  rw [hl1.out]
  have hs2' := hide (fun j v hj => (hb2.cell (p := (⟨g, 0, none⟩ : Addr).add j) (by rw [Addr.add_lit]; exact hgt)).trans (hs2.out j v hj))
  obtain ⟨Z2, hZ2⟩ : ∃ Z2, Z2 = splice Z 0 A1 := ⟨_, rfl⟩
  have hZ2l : Hid (Z2.length = 2 * L) := by show _ = _; rw [hZ2, length_splice _ _ _ hb1.out]; exact hZl.out
  rw [← hZ2] at hg2 HR
  clear hZ2
  have hb2' : Hid (m + A2.length ≤ Z2.length) := by show m + A2.length ≤ Z2.length; rw [hl2.out, hZ2l.out]; have := HM2.out; omega
  have HB2 := hide hb2
  clear hb2
  have hm3 : m ≤ 2 * L := by omega
  have hm4 : ¬ 2 * L = m := by omega
  have hm5 : (m : Int) ≤ 2 * (L : Int) := by omega
  go_wp2
  go_region_held3 (fun w' => w'.cell? ⟨fp, 0, none⟩ = some (.slice (some ⟨g, 0, none⟩) L L) ∧ w'.cell? ⟨fp, 1, none⟩ = some (.int .i64 head)) (go_keep) (first | (refine step_copy_splice rfl (.tmp 25) (.tmp 34) 24 24 rfl 3 Yba.underlying24 Yba.size3 (some ⟨w.heap.size, m, none⟩) (some ⟨g, 0, none⟩) (2 * L - m) (2 * L - m) head L (by simp [Act.eval]) (by simp [Act.eval]) w.heap.size m Z2 3 hg2.out A2 hn2.out (fun _ => ⟨rfl, _, rfl, hs2'.out⟩) hb2'.out ho2.out w.heap.size w1 HB2.out.drew (Nat.le_refl _) ?_; intro w3 hg3 hb3; have p0 := (hb3.cell (p := ⟨fp, 0, none⟩) hlt).trans f0'; have p1 := (hb3.cell (p := ⟨fp, 1, none⟩) hlt).trans f1'))
  have t0 := (hb3.frozen (p := ⟨fp, 0, none⟩) hlt).trans r0
  have t1 := (hb3.frozen (p := ⟨fp, 1, none⟩) hlt).trans r1
  have HB3 := hide hb3
  clear hb3
  go_wp2
  go_end0
  have F3 : Blk w3 fp 28 [.slice (some ⟨g, 0, none⟩) L L, .int .i64 head, .int .i64 n] := F1.out.below HB3.out hlt
  refine ⟨rfl, ?_, ?_, ?_, ?_⟩
  · exact (((K1.out.below HB3.out).setCell (.inl (by simp)) _).setCell (.inl (by simp)) _)
  · have h1 := HB3.out.size
    have h2 := S1.out
    simp only [World.setCell, Array.size_modify]
    omega
  · have h3 : Blk w3 w.heap.size 3 ((xs.drop head ++ xs.take head ++ List.replicate L 0).map (Value.int .i64)) := by rw [← HR.out]; exact hg3.out
    have hne2 : w.heap.size ≠ fp := by omega
    exact (Blk.other h3 hne2 _).other hne2 _
  · exact (F3.set 0 _).set 1 _

set_option maxRecDepth 100000 in
set_option maxHeartbeats 1000000 in
theorem grow_nil (fp n : Nat) (w : World) (hfp : Blk w fp 28 [.slice none 0 0, .int .i64 0, .int .i64 n]) :
    Calls Yba.prog 6 #[.pointer (some ⟨fp, 0, none⟩)] w fun e w' => e = .returned (.tuple #[]) ∧ Kept [fp] w w' ∧ w.heap.size < w'.heap.size ∧ Ints w' w.heap.size 3 .i64 (List.replicate 8 0) ∧
      Blk w' fp 28 [.slice (some ⟨w.heap.size, 0, none⟩) 8 8, .int .i64 0, .int .i64 n] := by
  have f0 := hfp.at 0
  have f1 := hfp.at 1
  have hlt := hfp.lt
  simp only [List.getElem?_cons_zero, List.getElem?_cons_succ] at f0 f1
  have hmk := make64 8 (by omega)
  have e2 : ((8 : Nat) : Int) = 8 := rfl
  rw [e2] at hmk
  clear e2
  have HFP := hide hfp
  clear hfp
  go_enter Yba.func6, Yba.ntmps6
  go_wp2
  have K1 : Hid (Kept [fp] w (w.alloc (.cells (madeCells #[Value.int .i64 0] 8) 3))) := (Kept.refl _ _).alloc _
  have S1 : Hid ((w.alloc (.cells (madeCells #[Value.int .i64 0] 8) 3)).heap.size = w.heap.size + 1) := by show _ = _; simp
  have I1 : Hid (Ints (w.alloc (.cells (madeCells #[Value.int .i64 0] 8) 3)) w.heap.size 3 .i64 (List.replicate 8 0)) := Ints.made w 3 .i64 8
  have F1 := hide (HFP.out.alloc (.cells (madeCells #[Value.int .i64 0] 8) 3))
  generalize w.alloc (.cells (madeCells #[Value.int .i64 0] 8) 3) = w1 at *
  have f0' := F1.out.at 0
  have f1' := F1.out.at 1
  have r0 := F1.out.free 0
  have r1 := F1.out.free 1
  simp only [List.getElem?_cons_zero, List.getElem?_cons_succ] at f0' f1'
  clear f0 f1 hmk
  go_region_held3 (fun w' => w'.cell? ⟨fp, 0, none⟩ = some (.slice none 0 0) ∧ w'.cell? ⟨fp, 1, none⟩ = some (.int .i64 0)) (go_keep) (first | (refine step_copy_zero rfl (.tmp 12) (.tmp 21) 24 24 rfl 3 Yba.underlying24 Yba.size3 (some ⟨w.heap.size, 0, none⟩) none 8 8 0 0 (by simp [Act.eval]) (by simp [Act.eval]) rfl ?_))
  go_wp2
  go_region_held3 (fun w' => w'.cell? ⟨fp, 0, none⟩ = some (.slice none 0 0) ∧ w'.cell? ⟨fp, 1, none⟩ = some (.int .i64 0)) (go_keep) (first | (refine step_copy_zero rfl (.tmp 25) (.tmp 34) 24 24 rfl 3 Yba.underlying24 Yba.size3 (some ⟨w.heap.size, 0, none⟩) none 8 8 0 0 (by simp [Act.eval]) (by simp [Act.eval]) rfl ?_))
  go_wp2
  go_end0
  have hne2 : w.heap.size ≠ fp := by omega
  refine ⟨rfl, ?_, ?_, ?_, ?_⟩
  · exact ((K1.out.drew.drew.setCell (.inl (by simp)) _).setCell (.inl (by simp)) _)
  · have h2 := S1.out
    simp only [World.setCell, Array.size_modify, World.drew]
    omega
  · exact Ints.other (a := ⟨fp, 1, none⟩) (Ints.other (a := ⟨fp, 0, none⟩) I1.out.drew.drew hne2 _) hne2 _
  · exact (F1.out.drew.drew.set 0 _).set 1 _

end Go.Proofs.Ybulkbtng
