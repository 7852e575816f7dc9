/-
  The small functions of package civil and of the law's own text, each by its contract.
-/
import Derived.Test.YbulkbtlqRows
import Derived.Test.YbulkbtlqHeap
import Derived.Test.YbulkbtlqCal
namespace Go.Proofs.Ybulkbtlq
open Go.RowKit
set_option linter.unusedVariables false

theorem tmod_zero (y k : Int) : (y.tmod k == 0) = decide (y % k = 0) := by
  rw [Bool.eq_iff_iff]
  simp only [beq_iff_eq, decide_eq_true_eq]
  rw [← Int.dvd_iff_tmod_eq_zero, Int.dvd_iff_emod_eq_zero]

theorem tmod_ne (y k : Int) : (y.tmod k != 0) = !decide (y % k = 0) := by
  show (!(y.tmod k == 0)) = _
  rw [tmod_zero]

set_option maxHeartbeats 400000 in
theorem isLeap_any (y : Int) (w : World) (h0 : -10000 ≤ y) (h1 : y ≤ 10000) :
    Calls Yba.prog 28 #[.int .i64 y] w fun e w' => e = .returned (.bool (lpB y)) ∧ w' = w := by
  have e4 := tmod_zero y 4
  have e100 := tmod_ne y 100
  have e400 := tmod_zero y 400
  unfold lpB
  by_cases a4 : y % 4 = 0 <;> by_cases a100 : y % 100 = 0 <;> by_cases a400 : y % 400 = 0
  all_goals
    simp only [a4, a100, a400, decide_true, decide_false, Bool.not_true, Bool.not_false, Bool.true_and, Bool.false_and, Bool.true_or, Bool.false_or] at e4 e100 e400 ⊢
    go_enter Yba.func28, Yba.ntmps28
    go_wp2
    go_ret
    exact ⟨rfl, rfl⟩

set_option maxHeartbeats 400000 in
theorem bleap_any (y : Int) (w : World) (h0 : -10000 ≤ y) (h1 : y ≤ 10000) :
    Calls Yba.prog 24 #[.int .i64 y] w fun e w' => e = .returned (.bool (lpB y)) ∧ w' = w := by
  have e4 := tmod_zero y 4
  have e100 := tmod_ne y 100
  have e400 := tmod_zero y 400
  unfold lpB
  by_cases a4 : y % 4 = 0 <;> by_cases a100 : y % 100 = 0 <;> by_cases a400 : y % 400 = 0
  all_goals
    simp only [a4, a100, a400, decide_true, decide_false, Bool.not_true, Bool.not_false, Bool.true_and, Bool.false_and, Bool.true_or, Bool.false_or] at e4 e100 e400 ⊢
    go_enter Yba.func24, Yba.ntmps24
    go_wp2
    go_ret
    exact ⟨rfl, rfl⟩

theorem bylen_any (y : Int) (w : World) (h0 : -10000 ≤ y) (h1 : y ≤ 10000) :
    Calls Yba.prog 23 #[.int .i64 y] w fun e w' => e = .returned (.int .i64 (yl y)) ∧ w' = w := by
  have hb := bleap_any y w h0 h1
  unfold yl
  cases hl : lpB y <;> rw [hl] at hb <;> clear hl
  all_goals
    have HB := hide hb
    clear hb
    go_enter Yba.func23, Yba.ntmps23
    go_wp2_with fail
    refine HB.out.mono ?_
    rintro e w' ⟨rfl, rfl⟩
    go_wp2
    go_ret
    exact ⟨rfl, rfl⟩

theorem tdiv_neg (a b : Int) (ha : a < 0) (hb : 0 < b) : (if a.tmod b < 0 then a.tdiv b - 1 else a.tdiv b) = a / b := by
  have h1 := Int.tmod_add_mul_tdiv a b
  have h2 := Int.emod_add_mul_ediv a b
  have h3 := Int.emod_nonneg a (by omega : b ≠ 0)
  have h4 := Int.emod_lt_of_pos a hb
  have h5 : -b < a.tmod b := by
    have e := Int.neg_tmod (-a) b
    rw [Int.neg_neg] at e
    have := Int.tmod_lt_of_pos (-a) hb
    omega
  have h6 : a.tmod b ≤ 0 := by
    have e := Int.neg_tmod (-a) b
    rw [Int.neg_neg] at e
    have := Int.tmod_nonneg b (by omega : 0 ≤ -a)
    omega
  split
  · next h =>
    have e : b * (a / b - (a.tdiv b - 1)) = a.tmod b + b - a % b := by rw [Int.mul_sub, Int.mul_sub]; omega
    have lo : -1 < a / b - (a.tdiv b - 1) := by
      rcases Int.lt_or_le (-1) (a / b - (a.tdiv b - 1)) with h | h
      · exact h
      · have := Int.mul_le_mul_of_nonneg_left h (by omega : 0 ≤ b); omega
    have hi : a / b - (a.tdiv b - 1) < 1 := by
      rcases Int.lt_or_le (a / b - (a.tdiv b - 1)) 1 with h | h
      · exact h
      · have := Int.mul_le_mul_of_nonneg_left h (by omega : 0 ≤ b); omega
    omega
  · next h =>
    have e0 : a.tmod b = 0 := by omega
    have e : b * (a / b - a.tdiv b) = - (a % b) := by rw [Int.mul_sub]; omega
    have lo : -1 < a / b - a.tdiv b := by
      rcases Int.lt_or_le (-1) (a / b - a.tdiv b) with h | h
      · exact h
      · have := Int.mul_le_mul_of_nonneg_left h (by omega : 0 ≤ b); omega
    have hi : a / b - a.tdiv b < 1 := by
      rcases Int.lt_or_le (a / b - a.tdiv b) 1 with h | h
      · exact h
      · have := Int.mul_le_mul_of_nonneg_left h (by omega : 0 ≤ b); omega
    omega

set_option maxHeartbeats 400000 in
theorem floorDiv_pos (a b : Int) (w : World) (h0 : 0 ≤ a) (h1 : a ≤ 100000000) (hb : b = 400 ∨ b = 146097) :
    Calls Yba.prog 34 #[.int .i64 a, .int .i64 b] w fun e w' => e = .returned (.int .i64 (a / b)) ∧ w' = w := by
  rcases hb with rfl | rfl
  all_goals
    go_enter Yba.func34, Yba.ntmps34
    go_wp2
    go_ret
    exact ⟨rfl, rfl⟩

theorem tdiv_bd (a b : Int) (h0 : a < 0) (h1 : -100000000 ≤ a) (hb : 0 < b) : -100000001 ≤ a.tdiv b ∧ a.tdiv b ≤ 0 := by
  have h := tdiv_neg a b h0 hb
  have e := Int.emod_add_mul_ediv a b
  have h3 := Int.emod_nonneg a (by omega : b ≠ 0)
  have h4 := Int.emod_lt_of_pos a hb
  have lo : a ≤ a / b := by
    rcases Int.lt_or_le (a / b) a with h | h
    · have := Int.mul_le_mul_of_nonneg_left (show a / b ≤ a - 1 by omega) (by omega : 0 ≤ b)
      have h5 : b * a ≤ 1 * a := Int.mul_le_mul_of_nonpos_right (by omega) (by omega)
      have h6 : b * (a - 1) = b * a - b := by rw [Int.mul_sub, Int.mul_one]
      omega
    · exact h
  have hi : a / b < 0 := Int.ediv_neg_of_neg_of_pos h0 hb
  split at h <;> omega

set_option maxHeartbeats 400000 in
theorem floorDiv_neg (a b : Int) (w : World) (h0 : a < 0) (h1 : -100000000 ≤ a) (hb : b = 400 ∨ b = 146097) :
    Calls Yba.prog 34 #[.int .i64 a, .int .i64 b] w fun e w' => e = .returned (.int .i64 (a / b)) ∧ w' = w := by
  rcases hb with rfl | rfl
  · have h := tdiv_neg a 400 h0 (by omega)
    have hbd := tdiv_bd a 400 h0 h1 (by omega)
    by_cases hm : a.tmod 400 < 0
    · rw [if_pos hm] at h
      rw [← h]
      clear h
      go_enter Yba.func34, Yba.ntmps34
      go_wp2
      go_ret
      exact ⟨rfl, rfl⟩
    · rw [if_neg hm] at h
      rw [← h]
      clear h
      go_enter Yba.func34, Yba.ntmps34
      go_wp2
      go_ret
      exact ⟨rfl, rfl⟩
  · have h := tdiv_neg a 146097 h0 (by omega)
    have hbd := tdiv_bd a 146097 h0 h1 (by omega)
    by_cases hm : a.tmod 146097 < 0
    · rw [if_pos hm] at h
      rw [← h]
      clear h
      go_enter Yba.func34, Yba.ntmps34
      go_wp2
      go_ret
      exact ⟨rfl, rfl⟩
    · rw [if_neg hm] at h
      rw [← h]
      clear h
      go_enter Yba.func34, Yba.ntmps34
      go_wp2
      go_ret
      exact ⟨rfl, rfl⟩

theorem floorDiv_any (a b : Int) (w : World) (h0 : -100000000 ≤ a) (h1 : a ≤ 100000000) (hb : b = 400 ∨ b = 146097) :
    Calls Yba.prog 34 #[.int .i64 a, .int .i64 b] w fun e w' => e = .returned (.int .i64 (a / b)) ∧ w' = w := by
  by_cases h : 0 ≤ a
  · exact floorDiv_pos a b w h h1 hb
  · exact floorDiv_neg a b w (by omega) h0 hb

set_option maxHeartbeats 400000 in
/-- 'fromCivil(y, 1, 1)': the day number of 1 January. -/
theorem fromCivil_jan (y : Int) (w : World) (h0 : -10000 ≤ y) (h1 : y ≤ 10000) :
    Calls Yba.prog 32 #[.int .i64 y, .int .i64 1, .int .i64 1] w fun e w' => e = .returned (.int .i64 (jan y)) ∧ w' = w := by
  have hf := floorDiv_any (y - 1) 400 w (by omega) (by omega) (.inl rfl)
  have HF := hide hf
  clear hf
  have hj : Hid (jan y = (y - 1) / 400 * 146097 + ((y - 1 - (y - 1) / 400 * 400) * 365 + (y - 1 - (y - 1) / 400 * 400) / 4 - (y - 1 - (y - 1) / 400 * 400) / 100 + 306) - 719468) := by
    have h := mar_jan ((y - 1) / 400) (y - 1 - (y - 1) / 400 * 400) (by omega) (by omega)
    rw [show (y - 1) / 400 * 400 + (y - 1 - (y - 1) / 400 * 400) + 1 = y by omega] at h
    show jan y = _
    rw [h]
    omega
  go_enter Yba.func32, Yba.ntmps32
  go_wp2_with fail
  refine HF.out.mono ?_
  rintro e w' ⟨rfl, rfl⟩
  go_wp2
  go_ret
  exact ⟨ret_int hj.out.symm, rfl⟩

theorem newYear_any (y : Int) (w : World) (h0 : -10000 ≤ y) (h1 : y ≤ 10000) :
    Calls Yba.prog 27 #[.int .i64 y] w fun e w' => e = .returned (.int .i64 (jan y)) ∧ w' = w := by
  go_enter Yba.func27, Yba.ntmps27
  go_wp2_with fail
  refine (fromCivil_jan y _ h0 h1).mono ?_
  rintro e w' ⟨rfl, rfl⟩
  go_wp2
  go_ret
  exact ⟨rfl, rfl⟩

theorem mon_yes (dy : Int) (h : 306 ≤ dy) (h1 : dy ≤ 365) : ((5 * dy + 2) / 153 + 2) % 12 + 1 ≤ 2 := by
  have h2 : 10 ≤ (5 * dy + 2) / 153 ∧ (5 * dy + 2) / 153 ≤ 11 := by omega
  generalize (5 * dy + 2) / 153 = m at *
  omega
theorem mon_no (dy : Int) (h0 : 0 ≤ dy) (h : ¬ 306 ≤ dy) : ¬ ((5 * dy + 2) / 153 + 2) % 12 + 1 ≤ 2 := by
  have h2 : 0 ≤ (5 * dy + 2) / 153 ∧ (5 * dy + 2) / 153 ≤ 9 := by omega
  generalize (5 * dy + 2) / 153 = m at *
  omega

set_option maxHeartbeats 1000000 in
theorem civil_any (d : Int) (w : World) (h0 : -10000000 ≤ d) (h1 : d ≤ 10000000) :
    Calls Yba.prog 31 #[.int .i64 d] w fun e w' => ∃ m q, e = .returned (.tuple #[.int .i64 (yearOf d), .int .i64 m, .int .i64 q]) ∧ w' = w := by
  have hf := floorDiv_any (d + 719468) 146097 w (by omega) (by omega) (.inr rfl)
  have HF := hide hf
  clear hf
  have hdoe : d + 719468 - (d + 719468) / 146097 * 146097 = doeOf d := by unfold doeOf; omega
  have hb : 0 ≤ doeOf d ∧ doeOf d < 146097 := by unfold doeOf; omega
  have hy := yoe_law (doeOf d) hb.1 hb.2
  have hyo : yearOf d = if 306 ≤ doyOf (doeOf d) then eraOf d * 400 + yoeOf (doeOf d) + 1 else eraOf d * 400 + yoeOf (doeOf d) := rfl
  have hera : eraOf d = (d + 719468) / 146097 := rfl
  have hyoe : (doeOf d - doeOf d / 1460 + doeOf d / 36524 - doeOf d / 146096) / 365 = yoeOf (doeOf d) := rfl
  have hdoy : doeOf d - (yoeOf (doeOf d) * 365 + yoeOf (doeOf d) / 4 - yoeOf (doeOf d) / 100) = doyOf (doeOf d) := rfl
  rw [hera] at hyo
  clear hera
  generalize doyOf (doeOf d) = dy at *
  generalize yoeOf (doeOf d) = y at *
  generalize doeOf d = e at *
  generalize yearOf d = yr at *
  obtain ⟨y0, y1, dy0, dy1, hlast⟩ := hy
  clear hlast
  by_cases h306 : 306 ≤ dy
  · rw [if_pos h306] at hyo
    have hmon := mon_yes dy h306 dy1
    have HYO := hide hyo
    clear hyo
    go_enter Yba.func31, Yba.ntmps31
    go_wp2_with fail
    refine HF.out.mono ?_
    rintro e w' ⟨rfl, rfl⟩
    clear HF
    go_wp2
    go_ret3
    exact ⟨((5 * dy + 2) / 153 + 2) % 12 + 1, dy - (153 * ((5 * dy + 2) / 153) + 2) / 5 + 1, by rw [HYO.out]; rfl, rfl⟩
  · rw [if_neg h306] at hyo
    have hmon := mon_no dy dy0 h306
    have HYO := hide hyo
    clear hyo
    go_enter Yba.func31, Yba.ntmps31
    go_wp2_with fail
    refine HF.out.mono ?_
    rintro e w' ⟨rfl, rfl⟩
    clear HF
    go_wp2
    go_ret3
    exact ⟨((5 * dy + 2) / 153 + 2) % 12 + 1, dy - (153 * ((5 * dy + 2) / 153) + 2) / 5 + 1, by rw [HYO.out]; rfl, rfl⟩

theorem year_any (d : Int) (w : World) (h0 : -10000000 ≤ d) (h1 : d ≤ 10000000) :
    Calls Yba.prog 26 #[.int .i64 d] w fun e w' => e = .returned (.int .i64 (yearOf d)) ∧ w' = w := by
  have hc := hide (civil_any d w h0 h1)
  go_enter Yba.func26, Yba.ntmps26
  go_wp2_with fail
  refine hc.out.mono ?_
  rintro e w' ⟨m, q, rfl, rfl⟩
  go_wp2
  go_ret
  exact ⟨rfl, rfl⟩

theorem daysSince_any (a b : Int) (w : World) (h0 : -10000000 ≤ a) (h1 : a ≤ 10000000) (h2 : -10000000 ≤ b) (h3 : b ≤ 10000000) :
    Calls Yba.prog 21 #[.int .i64 a, .int .i64 b] w fun e w' => e = .returned (.int .i64 (a - b)) ∧ w' = w := by
  go_enter Yba.func21, Yba.ntmps21
  go_wp2
  go_ret
  exact ⟨rfl, rfl⟩

end Go.Proofs.Ybulkbtlq
