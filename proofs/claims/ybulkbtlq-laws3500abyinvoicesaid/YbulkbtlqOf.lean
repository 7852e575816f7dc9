/-
  '(groups[string]).of' by its contract.
-/
import Derived.Test.YbulkbtlqRows
import Derived.Test.YbulkbtlqHeap
import Derived.Deep.QuietTactic
import Derived.BigQuiet
namespace Go.Proofs.Ybulkbtlq
open Go.RowKit
set_option linter.unusedVariables false

theorem below_drewN {B : Nat} {a w : World} (h : Below B a w) (n : Nat) : Below B a (w.drewN n) := ⟨h.os, h.tape, h.output, h.size, h.block⟩

set_option maxHeartbeats 400000 in
theorem of_empty (f : Value) (oa : Option Addr) (n c : Nat) (i : Int) (w : World) :
    Calls Yba.prog 15 #[.agg #[f, .slice oa n c, .slice none 0 0], .int .i64 i] w fun e w' => e = .returned (.slice none 0 0) ∧ Below w.heap.size w w' := by
  go_enter Yba.func15, Yba.ntmps15
  go_wp2
  go_ret
  exact ⟨rfl, (Below.refl _ _).alloc (Nat.le_refl _) _⟩

set_option maxHeartbeats 400000 in
theorem of_first (f : Value) (go ge n c m e0 : Nat) (w : World) (hm : 0 < m) (hc : w.cell? ⟨ge, 0, none⟩ = some (.int .i32 e0)) (hlt : ge < w.heap.size)
    (h1 : e0 ≤ c) (hcc : c ≤ 100000000) :
    Calls Yba.prog 15 #[.agg #[f, .slice (some ⟨go, 0, none⟩) n c, .slice (some ⟨ge, 0, none⟩) m m], .int .i64 0] w fun e w' => e = .returned (.slice (some ⟨go, 0, none⟩) e0 c) ∧ Below w.heap.size w w' := by
  have hm0 : ((m : Int) == 0) = false := beq_eq_false_iff_ne.2 (by omega)
  have hm1 : (0 : Int) < (m : Int) := by omega
  go_enter Yba.func15, Yba.ntmps15
  go_wp2
  go_quiet (fail)
  go_wp2
  go_ret
  exact ⟨rfl, below_drewN ((Below.refl _ _).alloc (Nat.le_refl _) _) _⟩

set_option maxHeartbeats 400000 in
theorem of_next (f : Value) (go ge n c m i s t : Nat) (w : World) (hm : i + 1 < m) (hs : w.cell? ⟨ge, i, none⟩ = some (.int .i32 s)) (hc : w.cell? ⟨ge, i + 1, none⟩ = some (.int .i32 t)) (hlt : ge < w.heap.size)
    (h0 : s ≤ t) (h1 : t ≤ c) (hcc : c ≤ 100000000) (hmm : m ≤ 100000000) :
    Calls Yba.prog 15 #[.agg #[f, .slice (some ⟨go, 0, none⟩) n c, .slice (some ⟨ge, 0, none⟩) m m], .int .i64 ((i : Int) + 1)] w fun e w' =>
      e = .returned (.slice (some ⟨go, if c = s then 0 else s, none⟩) (t - s) (c - s)) ∧ Below w.heap.size w w' := by
  have hm0 : ((m : Int) == 0) = false := beq_eq_false_iff_ne.2 (by omega)
  have hm1 : (0 : Int) < (m : Int) := by omega
  by_cases hcs : c = s
  · obtain rfl : t = s := by omega
    obtain rfl : c = t := hcs
    simp only [if_true, Nat.sub_self]
    go_enter Yba.func15, Yba.ntmps15
    go_wp2
    go_quiet (fail)
    go_wp2
    go_ret
    exact ⟨rfl, below_drewN ((Below.refl _ _).alloc (Nat.le_refl _) _) _⟩
  · simp only [hcs, if_false]
    go_enter Yba.func15, Yba.ntmps15
    go_wp2
    go_quiet (fail)
    go_wp2
    go_ret
    exact ⟨rfl, below_drewN ((Below.refl _ _).alloc (Nat.le_refl _) _) _⟩

/-- 'g.of(i)' wherever i is an index of ends: the cells of order from s (the end before, or 0) up to t. -/
theorem of_at (f : Value) (go ge n c m i s t : Nat) (w : World) (hm : i < m) (hs : i = 0 ∧ s = 0 ∨ 0 < i ∧ w.cell? ⟨ge, i - 1, none⟩ = some (.int .i32 s)) (hc : w.cell? ⟨ge, i, none⟩ = some (.int .i32 t)) (hlt : ge < w.heap.size)
    (h0 : s ≤ t) (h1 : t ≤ c) (hcc : c ≤ 100000000) (hmm : m ≤ 100000000) :
    Calls Yba.prog 15 #[.agg #[f, .slice (some ⟨go, 0, none⟩) n c, .slice (some ⟨ge, 0, none⟩) m m], .int .i64 (i : Int)] w fun e w' =>
      e = .returned (.slice (some ⟨go, if c = s then 0 else s, none⟩) (t - s) (c - s)) ∧ Below w.heap.size w w' := by
  rcases hs with ⟨rfl, rfl⟩ | ⟨hi, hs⟩
  · have h := of_first f go ge n c m t w hm hc hlt h1 hcc
    simpa using h
  · obtain ⟨j, rfl⟩ : ∃ j, i = j + 1 := ⟨i - 1, by omega⟩
    have e : ((j + 1 : Nat) : Int) = (j : Int) + 1 := by omega
    rw [e]
    exact of_next f go ge n c m j s t w hm hs hc hlt h0 h1 hcc hmm

/-- The same with what is of use of the address. -/
theorem of_cut (f : Value) (go ge n c m i s d : Nat) (w : World) (hm : i < m) (hs : i = 0 ∧ s = 0 ∨ 0 < i ∧ w.cell? ⟨ge, i - 1, none⟩ = some (.int .i32 s)) (hc : w.cell? ⟨ge, i, none⟩ = some (.int .i32 ((s + d : Nat) : Int))) (hlt : ge < w.heap.size)
    (h1 : s + d ≤ c) (hcc : c ≤ 100000000) (hmm : m ≤ 100000000) :
    Calls Yba.prog 15 #[.agg #[f, .slice (some ⟨go, 0, none⟩) n c, .slice (some ⟨ge, 0, none⟩) m m], .int .i64 (i : Int)] w fun e w' =>
      ∃ o, e = .returned (.slice (some ⟨go, o, none⟩) d (c - s)) ∧ (0 < d → o = s) ∧ Below w.heap.size w w' := by
  refine (of_at f go ge n c m i s (s + d) w hm hs hc hlt (by omega) h1 hcc hmm).mono ?_
  rintro e w' ⟨rfl, hb⟩
  refine ⟨if c = s then 0 else s, ?_, ?_, hb⟩
  · rw [Nat.add_sub_cancel_left]
  · intro hd
    rw [if_neg (by omega)]

end Go.Proofs.Ybulkbtlq
