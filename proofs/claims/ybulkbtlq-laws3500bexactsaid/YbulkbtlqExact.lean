/-
  RateShare and the law LawS3500BExact: the walks.
-/
import Derived.Test.YbulkbtlqLeapDays
import Derived.WalkSpells
namespace Go.Proofs.Ybulkbtlq
open Go.RowKit
set_option linter.unusedVariables false

theorem rate_per (g : Nat) (from_ to_ : Int) (w : World) (h1 : w.cell? ⟨g, 1, none⟩ = some (.bool true)) :
    Calls Yba.prog 16 #[.pointer (some ⟨g, 0, none⟩), .int .i64 from_, .int .i64 to_] w fun e w' => e = .returned (.tuple #[.int .i64 1, .int .i64 1]) ∧ w' = w := by
  go_enter Yba.func16, Yba.ntmps16
  go_wp2
  go_ret2
  exact ⟨rfl, rfl⟩

theorem rate_365 (g : Nat) (f t : Int) (w : World) (h1 : w.cell? ⟨g, 1, none⟩ = some (.bool false)) (h2 : w.cell? ⟨g, 2, none⟩ = some (.bool false))
    (f0 : -800000 ≤ f) (f1 : f ≤ 800000) (t0 : -1600000 ≤ t) (t1 : t ≤ 1600000) :
    Calls Yba.prog 16 #[.pointer (some ⟨g, 0, none⟩), .int .i64 f, .int .i64 t] w fun e w' => e = .returned (.tuple #[.int .i64 (t - f), .int .i64 365]) ∧ w' = w := by
  have hd := hide (daysSince_any t f w (by omega) (by omega) (by omega) (by omega))
  go_enter Yba.func16, Yba.ntmps16
  go_wp2_with fail
  refine hd.out.mono ?_
  rintro e1 w1 ⟨rfl, rfl⟩
  go_wp2
  go_ret2
  exact ⟨rfl, rfl⟩

theorem rate_act (g : Nat) (f t C : Int) (w : World) (h1 : w.cell? ⟨g, 1, none⟩ = some (.bool false)) (h2 : w.cell? ⟨g, 2, none⟩ = some (.bool true))
    (f0 : -800000 ≤ f) (f1 : f ≤ 800000) (t0 : -1600000 ≤ t) (t1 : t ≤ 1600000) (hC : leapC f t = C) :
    Calls Yba.prog 16 #[.pointer (some ⟨g, 0, none⟩), .int .i64 f, .int .i64 t] w fun e w' => e = .returned (.tuple #[.int .i64 ((t - f - C) * 366 + C * 365), .int .i64 133590]) ∧ w' = w := by
  have hd := hide (daysSince_any t f w (by omega) (by omega) (by omega) (by omega))
  have hl := leapSince_any t f w f0 f1 t0 t1
  have hb := leapC_bd f t
  rw [hC] at hl hb
  have HL := hide hl
  clear hl hC
  have hb2 : 0 ≤ C ∧ C ≤ 3000000 := by omega
  clear hb
  go_enter Yba.func16, Yba.ntmps16
  go_wp2_with fail
  refine hd.out.mono ?_
  rintro e1 w1 ⟨rfl, rfl⟩
  go_wp2_with fail
  refine HL.out.mono ?_
  rintro e1 w1 ⟨rfl, rfl⟩
  go_wp2
  go_ret2
  exact ⟨rfl, rfl⟩

theorem exact_out (p a : Bool) (f s : Int) (w : World) (h : f < -800000 ∨ 800000 < f ∨ s < -800000 ∨ 800000 < s) :
    Calls Yba.prog 5 #[.bool p, .bool a, .int .i64 f, .int .i64 s] w fun e w' => e = .returned (.bool true) ∧ Grown w w' := by
  by_cases h1 : f < -800000
  · go_enter Yba.func5, Yba.ntmps5
    go_wp2
    go_ret
    exact ⟨rfl, Grown.refl _⟩
  by_cases h2 : 800000 < f
  · go_enter Yba.func5, Yba.ntmps5
    go_wp2
    go_ret
    exact ⟨rfl, Grown.refl _⟩
  by_cases h3 : s < -800000
  · go_enter Yba.func5, Yba.ntmps5
    go_wp2
    go_ret
    exact ⟨rfl, Grown.refl _⟩
  have h4 : 800000 < s := by omega
  clear h
  go_enter Yba.func5, Yba.ntmps5
  go_wp2
  go_ret
  exact ⟨rfl, Grown.refl _⟩

theorem neq40 (w : World) : (binOp .neq 40 (.slice none 0 0) (.slice none 0 0)).run Yba.prog w = .ok (.bool false) w := run_neq_slice_nil_any w _ _ none 0 0 0 0 Yba.underlying40

theorem exact_per (a : Bool) (f s : Int) (w : World) (h1 : ¬ f < -800000) (h2 : ¬ 800000 < f) (h3 : ¬ s < -800000) (h4 : ¬ 800000 < s) :
    Calls Yba.prog 5 #[.bool true, .bool a, .int .i64 f, .int .i64 s] w fun e w' => e = .returned (.bool true) ∧ Grown w w' := by
  have q40 := neq40
  cases a
  all_goals
    go_enter Yba.func5, Yba.ntmps5
    go_wp2_with fail
    refine (rate_per _ _ _ _ (by simp)).mono ?_
    rintro e1 w1 ⟨rfl, rfl⟩
    go_wp2
    go_ret
    exact ⟨rfl, (Grown.refl _).alloc _ _⟩

theorem exact_365 (f s : Int) (w : World) (h1 : ¬ f < -800000) (h2 : ¬ 800000 < f) (h3 : ¬ s < -800000) (h4 : ¬ 800000 < s) :
    Calls Yba.prog 5 #[.bool false, .bool false, .int .i64 f, .int .i64 s] w fun e w' => e = .returned (.bool true) ∧ Grown w w' := by
  have q40 := neq40
  have hs : Hid (f + s - f = s) := by show f + s - f = s; omega
  go_enter Yba.func5, Yba.ntmps5
  go_wp2_with fail
  refine (rate_365 _ _ _ _ (by simp) (by simp) (by omega) (by omega) (by omega) (by omega)).mono ?_
  rintro e1 w1 ⟨rfl, rfl⟩
  rw [hs.out]
  go_wp2
  go_ret
  exact ⟨rfl, (Grown.refl _).alloc _ _⟩

theorem exact_act (f s : Int) (w : World) (h1 : ¬ f < -800000) (h2 : ¬ 800000 < f) (h3 : ¬ s < -800000) (h4 : ¬ 800000 < s) :
    Calls Yba.prog 5 #[.bool false, .bool true, .int .i64 f, .int .i64 s] w fun e w' => e = .returned (.bool true) ∧ Grown w w' := by
  have q40 := neq40
  have hs : Hid (f + s - f = s) := by show f + s - f = s; omega
  obtain ⟨C, hC⟩ : ∃ C, leapC f (f + s) = C := ⟨_, rfl⟩
  have hl := fun w => leapDays_any f (f + s) w (by omega) (by omega) (by omega) (by omega)
  have hb := leapC_bd f (f + s)
  rw [hC] at hb
  simp only [hC] at hl
  have hb2 : 0 ≤ C ∧ C ≤ 3000000 := by omega
  have HL := hide hl
  have HC := hide hC
  clear hl hC hb
  go_enter Yba.func5, Yba.ntmps5
  go_wp2_with fail
  refine (rate_act _ _ _ C _ (by simp) (by simp) (by omega) (by omega) (by omega) (by omega) HC.out).mono ?_
  rintro e1 w1 ⟨rfl, rfl⟩
  rw [hs.out]
  go_wp2_with fail
  refine (HL.out _).mono ?_
  rintro e1 w1 ⟨rfl, rfl⟩
  go_wp2
  go_ret
  exact ⟨rfl, (Grown.refl _).alloc _ _⟩

theorem exact_any (p a : Bool) (f s : Int) (w : World) :
    Calls Yba.prog 5 #[.bool p, .bool a, .int .i64 f, .int .i64 s] w fun e w' => e = .returned (.bool true) ∧ Grown w w' := by
  by_cases h : f < -800000 ∨ 800000 < f ∨ s < -800000 ∨ 800000 < s
  · exact exact_out p a f s w h
  cases p
  · cases a
    · exact exact_365 f s w (by omega) (by omega) (by omega) (by omega)
    · exact exact_act f s w (by omega) (by omega) (by omega) (by omega)
  · exact exact_per a f s w (by omega) (by omega) (by omega) (by omega)

end Go.Proofs.Ybulkbtlq
