/-
  The calendar's plain mathematics. No Go here.
-/
namespace Go.Proofs.Ybulkbtlq
set_option linter.unusedVariables false

/-- Is y a leap year? -/
def lpB (y : Int) : Bool := decide (y % 4 = 0) && (!decide (y % 100 = 0) || decide (y % 400 = 0))

/-- The day number of 1 January of year y (1970: 0). -/
def jan (y : Int) : Int := 365 * (y - 1970) + (y - 1) / 4 - (y - 1) / 100 + (y - 1) / 400 - 477

/-- The days of year y. -/
def yl (y : Int) : Int := if lpB y then 366 else 365

theorem lpB_iff (y : Int) : lpB y = true ↔ y % 4 = 0 ∧ (¬ y % 100 = 0 ∨ y % 400 = 0) := by simp [lpB]

theorem yl_bd (y : Int) : 365 ≤ yl y ∧ yl y ≤ 366 := by unfold yl; split <;> omega

theorem jan_succ (y : Int) : jan (y + 1) = jan y + yl y := by
  have h := lpB_iff y
  unfold jan yl
  split
  · next hb => have := h.1 hb; omega
  · next hb =>
    have : ¬ (y % 4 = 0 ∧ (¬ y % 100 = 0 ∨ y % 400 = 0)) := fun e => hb (h.2 e)
    omega

theorem jan_1970 : jan 1970 = 0 := by decide

theorem jan_lt (y z : Int) (h : y < z) : jan y + 365 ≤ jan z := by unfold jan; omega

theorem jan_bd (y : Int) (h1 : -1000000 ≤ jan y) (h2 : jan y ≤ 2000000) : -900 ≤ y ∧ y ≤ 7600 := by unfold jan at *; omega

theorem jan_of_bd (y : Int) (h1 : -1000 ≤ y) (h2 : y ≤ 7700) : -1100000 ≤ jan y ∧ jan y ≤ 2100000 := by unfold jan; omega

/-- The year of a day is one. -/
theorem jan_unique (y z d : Int) (h1 : jan y ≤ d) (h2 : d < jan (y + 1)) (h3 : jan z ≤ d) (h4 : d < jan (z + 1)) : y = z := by
  rcases Int.lt_trichotomy y z with h | h | h
  · have a : jan (y + 1) ≤ jan z := by
      by_cases e : y + 1 = z
      · rw [e]; omega
      · have := jan_lt (y + 1) z (by omega); omega
    omega
  · exact h
  · have a : jan (z + 1) ≤ jan y := by
      by_cases e : z + 1 = y
      · rw [e]; omega
      · have := jan_lt (z + 1) y (by omega); omega
    omega

/-- The leap days among lo .. b, lo in year y: the years one by one. -/
def cntF : Nat → Int → Int → Int → Int
  | 0, _, _, _ => 0
  | n + 1, y, lo, b => if lo ≤ b then (if lpB y then min b (jan (y + 1) - 1) - lo + 1 else 0) + cntF n (y + 1) (min b (jan (y + 1) - 1) + 1) b else 0

theorem cntF_stop (n : Nat) (y lo b : Int) (h : b < lo) : cntF n y lo b = 0 := by
  cases n with
  | zero => rfl
  | succ n => simp [cntF]; omega

theorem cntF_go (n : Nat) (y lo b : Int) (h : lo ≤ b) : cntF (n + 1) y lo b = (if lpB y then min b (jan (y + 1) - 1) - lo + 1 else 0) + cntF n (y + 1) (min b (jan (y + 1) - 1) + 1) b := by
  simp [cntF, h]

/-- 0 .. the days counted. -/
theorem cntF_bd (n : Nat) : ∀ (y lo b : Int), lo ≤ b + 1 → jan y ≤ lo → (lo ≤ b → lo < jan (y + 1)) → 0 ≤ cntF n y lo b ∧ cntF n y lo b ≤ b - lo + 1 := by
  induction n with
  | zero => intro y lo b h _ _; simp [cntF]; omega
  | succ n ih =>
    intro y lo b h hj hk
    by_cases hlo : lo ≤ b
    · rw [cntF_go n y lo b hlo]
      have hk := hk hlo
      by_cases hm : b ≤ jan (y + 1) - 1
      · rw [Int.min_eq_left hm, cntF_stop n _ _ _ (by omega)]
        split <;> omega
      · rw [Int.min_eq_right (by omega)]
        have := ih (y + 1) (jan (y + 1) - 1 + 1) b (by omega) (by omega) (fun _ => by have := jan_lt (y + 1) (y + 1 + 1) (by omega); omega)
        split <;> omega
    · rw [cntF_stop _ _ _ _ (by omega)]; omega

/-! ### the year of a day, as date.go reckons it -/
def eraOf (d : Int) : Int := (d + 719468) / 146097
def doeOf (d : Int) : Int := (d + 719468) % 146097
def yoeOf (e : Int) : Int := (e - e / 1460 + e / 36524 - e / 146096) / 365
def doyOf (e : Int) : Int := e - (yoeOf e * 365 + yoeOf e / 4 - yoeOf e / 100)

theorem yoe_at (c q r a : Int) (hc : 0 ≤ c ∧ c ≤ 3) (hq : 0 ≤ q ∧ q ≤ 24) (hr : 0 ≤ r ∧ r ≤ 1460) (hv : c ≤ 2 → q = 24 → r ≤ 1459) (ha0 : 0 ≤ a ∧ a ≤ 3) (ha1 : 365 * a ≤ r) (ha2 : a ≤ 2 → r < 365 * (a + 1)) :
    yoeOf (36524 * c + 1461 * q + r) = 100 * c + 4 * q + a := by
  unfold yoeOf
  obtain ⟨hq0, hq1⟩ := hq
  have h3 : (36524 * c + 1461 * q + r) / 36524 - (36524 * c + 1461 * q + r) / 146096 = c := by
    by_cases e : c = 3 ∧ q = 24 ∧ r = 1460
    · obtain ⟨rfl, rfl, rfl⟩ := e; decide
    · have a1 : (36524 * c + 1461 * q + r) / 36524 = c := by omega
      have a2 : (36524 * c + 1461 * q + r) / 146096 = 0 := by omega
      omega
  by_cases hd : 1460 ≤ 24 * c + q + r
  · have f : (36524 * c + 1461 * q + r) / 1460 = 25 * c + q + 1 := by omega
    have : a = 3 := by omega
    have e : 36524 * c + 1461 * q + r - (36524 * c + 1461 * q + r) / 1460 + (36524 * c + 1461 * q + r) / 36524 - (36524 * c + 1461 * q + r) / 146096 = 365 * (100 * c + 4 * q) + (r - 1) := by omega
    rw [e]
    omega
  · have f : (36524 * c + 1461 * q + r) / 1460 = 25 * c + q := by omega
    have e : 36524 * c + 1461 * q + r - (36524 * c + 1461 * q + r) / 1460 + (36524 * c + 1461 * q + r) / 36524 - (36524 * c + 1461 * q + r) / 146096 = 365 * (100 * c + 4 * q) + r := by omega
    rw [e]
    omega

theorem doe_split (e : Int) (h0 : 0 ≤ e) (h1 : e < 146097) : ∃ c q r a : Int, e = 36524 * c + 1461 * q + r ∧ (0 ≤ c ∧ c ≤ 3) ∧ (0 ≤ q ∧ q ≤ 24) ∧ (0 ≤ r ∧ r ≤ 1460) ∧ (c ≤ 2 → q = 24 → r ≤ 1459) ∧ (0 ≤ a ∧ a ≤ 3) ∧ 365 * a ≤ r ∧ (a ≤ 2 → r < 365 * (a + 1)) := by
  obtain ⟨c, hc⟩ : ∃ c : Int, c = min (e / 36524) 3 := ⟨_, rfl⟩
  obtain ⟨q, hq⟩ : ∃ q : Int, q = (e - 36524 * c) / 1461 := ⟨_, rfl⟩
  obtain ⟨r, hr⟩ : ∃ r : Int, r = e - 36524 * c - 1461 * q := ⟨_, rfl⟩
  refine ⟨c, q, r, min (r / 365) 3, by omega, by omega, by omega, by omega, by omega, by omega, by omega, by omega⟩

theorem yoe_law (e : Int) (h0 : 0 ≤ e) (h1 : e < 146097) : 0 ≤ yoeOf e ∧ yoeOf e ≤ 399 ∧ 0 ≤ doyOf e ∧ doyOf e ≤ 365 ∧ (yoeOf e ≤ 398 → e < (yoeOf e + 1) * 365 + (yoeOf e + 1) / 4 - (yoeOf e + 1) / 100) := by
  obtain ⟨c, q, r, a, rfl, hc, hq, hr, hv, ha0, ha1, ha2⟩ := doe_split e h0 h1
  have hy := yoe_at c q r a hc hq hr hv ha0 ha1 ha2
  unfold doyOf
  rw [hy]
  have q4 : (100 * c + 4 * q + a) / 4 = 25 * c + q := by omega
  have q100 : (100 * c + 4 * q + a) / 100 = c := by omega
  rw [q4, q100]
  refine ⟨by omega, by omega, by omega, by omega, fun h => ?_⟩
  by_cases e3 : a = 3
  · subst e3
    have q4' : (100 * c + 4 * q + 3 + 1) / 4 = 25 * c + q + 1 := by omega
    by_cases e24 : q = 24
    · subst e24
      have : (100 * c + 4 * 24 + 3 + 1) / 100 = c + 1 := by omega
      omega
    · have : (100 * c + 4 * q + 3 + 1) / 100 = c := by omega
      omega
  · have q4' : (100 * c + 4 * q + a + 1) / 4 = 25 * c + q := by omega
    have : (100 * c + 4 * q + a + 1) / 100 = c := by omega
    omega

/-- What civil() hands back as the year: the March year, one more in January and February. -/
def yearOf (d : Int) : Int := if 306 ≤ doyOf (doeOf d) then eraOf d * 400 + yoeOf (doeOf d) + 1 else eraOf d * 400 + yoeOf (doeOf d)

theorem mar_jan (er y : Int) (h0 : 0 ≤ y) (h1 : y ≤ 399) : jan (er * 400 + y + 1) = er * 146097 + 365 * y + y / 4 - y / 100 - 719162 := by
  unfold jan
  have a : (er * 400 + y + 1 - 1) / 4 = 100 * er + y / 4 := by omega
  have b : (er * 400 + y + 1 - 1) / 100 = 4 * er + y / 100 := by omega
  have c : (er * 400 + y + 1 - 1) / 400 = er := by omega
  rw [a, b, c]
  omega

theorem year_law (d : Int) : jan (yearOf d) ≤ d ∧ d < jan (yearOf d + 1) := by
  have hd : d = eraOf d * 146097 + doeOf d - 719468 := by unfold eraOf doeOf; omega
  have h0 : 0 ≤ doeOf d ∧ doeOf d < 146097 := by unfold doeOf; omega
  have hy := yoe_law (doeOf d) h0.1 h0.2
  have hdoy : doyOf (doeOf d) = doeOf d - (yoeOf (doeOf d) * 365 + yoeOf (doeOf d) / 4 - yoeOf (doeOf d) / 100) := rfl
  have hm := mar_jan (eraOf d) (yoeOf (doeOf d)) hy.1 hy.2.1
  have hs := jan_succ (eraOf d * 400 + yoeOf (doeOf d) + 1)
  have hp := jan_succ (eraOf d * 400 + yoeOf (doeOf d))
  have b1 := yl_bd (eraOf d * 400 + yoeOf (doeOf d) + 1)
  have b2 := yl_bd (eraOf d * 400 + yoeOf (doeOf d))
  unfold yearOf
  split
  · omega
  · omega

theorem yearOf_bd (d : Int) (h1 : -900000 ≤ d) (h2 : d ≤ 1900000) : -900 ≤ yearOf d ∧ yearOf d ≤ 7600 := by
  have h := year_law d
  have := jan_bd (yearOf d) (by have := jan_succ (yearOf d); have := yl_bd (yearOf d); omega) (by omega)
  exact this

end Go.Proofs.Ybulkbtlq
