/-
  BModel: the law's guard: more than 1024 of a kind
-/
import Derived.Test.YbulkbtowMT3
namespace Go.Proofs.Ybulkbtow
open Go.RowKit
set_option linter.unusedVariables false

set_option maxRecDepth 100000 in
set_option maxHeartbeats 8000000 in
theorem m0g (a0 a1 a2 : Option Addr) (M cap0 ns cap1 nc cap2 : Nat) (nbr pick tgt now : Int) (w : World) (h : 1024 < M ∨ 1024 < ns ∨ 1024 < nc) :
    Calls Yba.prog 3 #[.slice a0 M cap0, .slice a1 ns cap1, .slice a2 nc cap2, .int .u8 nbr, .int .u16 pick, .int .u16 tgt, .int .i64 now] w fun e w' => e = .returned (.bool true) ∧ Below w.heap.size w w' := by
  by_cases h1 : 1024 < M
  · have h1I : (1024 : Int) < (M : Int) := by omega
    go_enter Yba.func3, Yba.ntmps3
    refine wp_seq_rest fun K hK => ?_
    go_wp2
    dsimp only [Rest]
    go_step3
    go_wp2
    exact ⟨rfl, .bool true, by simp [results, Yba.results3, go_sem], rfl, Below.refl _ _⟩
  · have h1I : ¬ (1024 : Int) < (M : Int) := by omega
    by_cases h2 : 1024 < ns
    · have h2I : (1024 : Int) < (ns : Int) := by omega
      go_enter Yba.func3, Yba.ntmps3
      refine wp_seq_rest fun K hK => ?_
      go_wp2
      dsimp only [Rest]
      go_step3
      go_wp2
      exact ⟨rfl, .bool true, by simp [results, Yba.results3, go_sem], rfl, Below.refl _ _⟩
    · have h2I : ¬ (1024 : Int) < (ns : Int) := by omega
      have h3I : (1024 : Int) < (nc : Int) := by omega
      go_enter Yba.func3, Yba.ntmps3
      refine wp_seq_rest fun K hK => ?_
      go_wp2
      dsimp only [Rest]
      go_step3
      go_wp2
      exact ⟨rfl, .bool true, by simp [results, Yba.results3, go_sem], rfl, Below.refl _ _⟩

end Go.Proofs.Ybulkbtow
