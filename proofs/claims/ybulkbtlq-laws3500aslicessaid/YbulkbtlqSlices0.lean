/-
  LawS3500ASlices: the walk at a slice of length 0 and at one of more than 300.
-/
import Derived.Test.YbulkbtlqSlices
import Derived.Lib.SliceRun
namespace Go.Proofs.Ybulkbtlq
open Go.RowKit
set_option linter.unusedVariables false

set_option maxRecDepth 100000 in
theorem slices_big (a : Option Addr) (len cap : Nat) (w : World) (h : 300 < len) :
    Calls Yba.prog 4 #[.slice a len cap] w fun e w' => e = .returned (.bool true) ∧ Below w.heap.size w w' := by
  have hg : (300 : Int) < (len : Int) := by omega
  go_enter Yba.func4, Yba.ntmps4
  go_wp2
  go_ret
  exact ⟨rfl, Below.refl _ _⟩

set_option maxRecDepth 100000 in
set_option maxHeartbeats 1000000 in
theorem slices_zero (a : Option Addr) (cap : Nat) (w : World) :
    Calls Yba.prog 4 #[.slice a 0 cap] w fun e w' => e = .returned (.bool true) ∧ Below w.heap.size w w' := by
  have hmk := make32 0 (by omega)
  have q29 : ∀ (w : World), (binOp .eql 29 (.slice none 0 0) (.slice none 0 0)).run Yba.prog w = .ok (.bool true) w := fun w => Lib.run_eql_slice_nil w _ _ none 0 0 0 0 Yba.underlying29
  simp only [Int.natCast_zero] at hmk
  go_enter Yba.func4, Yba.ntmps4
  go_wp2
  refine wp_loop_rounds 1 ?_
  rw [rounds_succ]
  go_wp2
  refine wp_loop_rounds 1 ?_
  rw [rounds_succ]
  go_wp2
  refine wp_loop_rounds 1 ?_
  rw [rounds_succ]
  go_wp2_with fail
  refine (of_empty _ _ _ _ _ _).mono ?_
  rintro e w1 ⟨rfl, hb1⟩
  have hz : w.heap.size + 1 < w1.heap.size := by have := hb1.size; simp at this; omega
  obtain ⟨hc, hf⟩ := bcell hb1
  have f0 := hc (w.heap.size + 1) 0 (by simp)
  have f1 := hc (w.heap.size + 1) 1 (by simp)
  have f2 := hc (w.heap.size + 1) 2 (by simp)
  clear hc hf
  simp at f0 f1 f2
  have HB := hide hb1
  clear hb1
  go_wp2_with fail
  refine (of_empty _ _ _ _ _ _).mono ?_
  rintro e w2 ⟨rfl, hb2⟩
  have HB2 := hide hb2
  clear hb2
  go_wp2
  go_ret
  refine ⟨rfl, ?_⟩
  exact ((((Below.refl _ _).alloc (Nat.le_refl _) _).alloc (by simp) _).trans (HB.out.mono (by simp; omega))).trans (HB2.out.mono (by omega))

end Go.Proofs.Ybulkbtlq
