/-
  The plain law of the stable sort: runs of bs values, merged two by two.
-/
import Derived.Test.YbulkbtlqMerge
namespace Go.Proofs.Ybulkbtlq
set_option linter.unusedVariables false

/-- [s, s + n) in runs of bs (from place q on; ahead of q runs of 2 bs): within a run sorted, the values of a run under those of the next. -/
def Runs (κ : Int → Int) (f : Nat → Int) (s n bs : Nat) : Prop := ∀ i j, i < j → j < n → (i / bs = j / bs → Lt κ (f (s + i)) (f (s + j))) ∧ (i / bs < j / bs → f (s + i) < f (s + j))

/-- Half way: up to q (a multiple of 2 bs) in runs of 2 bs, behind it in runs of bs; all of the one under all of the other. -/
structure Half (κ : Int → Int) (f : Nat → Int) (s n bs q : Nat) : Prop where
  lo : Runs κ f s q (2 * bs)
  hi : ∀ i j, q ≤ i → i < j → j < n → (i / bs = j / bs → Lt κ (f (s + i)) (f (s + j))) ∧ (i / bs < j / bs → f (s + i) < f (s + j))
  x : ∀ i j, i < q → q ≤ j → j < n → f (s + i) < f (s + j)

section
variable {κ : Int → Int} {f f' : Nat → Int} {s n bs q : Nat}

theorem Half.start (h : Runs κ f s n bs) : Half κ f s n bs 0 := ⟨fun i j h1 h2 => by omega, fun i j _ h1 h2 => h i j h1 h2, fun i j h1 => by omega⟩

theorem div_lo {q bs i t : Nat} (hbs : 0 < bs) (hq : q = t * bs) (h1 : q ≤ i) (h2 : i < q + bs) : i / bs = t := by
  subst hq
  rw [Nat.div_eq_of_lt_le] <;> (try rw [Nat.succ_mul]) <;> omega

/-- The rows that a merge at [q, q + bs) and [q + bs, e) is handed. -/
theorem Half.ready (h : Half κ f s n bs q) (hbs : 0 < bs) {t e : Nat} (hq : q = t * (2 * bs)) (he : e ≤ q + 2 * bs) (hen : e ≤ n) (hm : q + bs ≤ e) :
    Srt κ f (s + q) (s + (q + bs)) ∧ Srt κ f (s + (q + bs)) (s + e) ∧ Sep f (s + q) (s + (q + bs)) (s + e) := by
  have hq2 : q = (2 * t) * bs := by rw [hq, ← Nat.mul_assoc, Nat.mul_comm t 2]
  have hq3 : q + bs = (2 * t + 1) * bs := by rw [Nat.succ_mul, ← hq2]
  refine ⟨?_, ?_, ?_⟩
  · intro i j hi hij hj
    obtain ⟨i', rfl⟩ : ∃ i', i = s + i' := ⟨i - s, by omega⟩
    obtain ⟨j', rfl⟩ : ∃ j', j = s + j' := ⟨j - s, by omega⟩
    refine (h.hi i' j' (by omega) (by omega) (by omega)).1 ?_
    rw [div_lo hbs hq2 (by omega) (by omega), div_lo hbs hq2 (by omega) (by omega)]
  · intro i j hi hij hj
    obtain ⟨i', rfl⟩ : ∃ i', i = s + i' := ⟨i - s, by omega⟩
    obtain ⟨j', rfl⟩ : ∃ j', j = s + j' := ⟨j - s, by omega⟩
    refine (h.hi i' j' (by omega) (by omega) (by omega)).1 ?_
    rw [div_lo hbs hq3 (by omega) (by omega), div_lo hbs hq3 (by omega) (by omega)]
  · intro i j hi hi' hj hj'
    obtain ⟨i', rfl⟩ : ∃ i', i = s + i' := ⟨i - s, by omega⟩
    obtain ⟨j', rfl⟩ : ∃ j', j = s + j' := ⟨j - s, by omega⟩
    refine (h.hi i' j' (by omega) (by omega) (by omega)).2 ?_
    rw [div_lo hbs hq2 (by omega) (by omega), div_lo hbs hq3 (by omega) (by omega)]
    omega

/-- The row [q, e) sorted: half way up to e. -/
theorem Half.next (h : Half κ f s n bs q) (hbs : 0 < bs) {t e : Nat} (hq : q = t * (2 * bs)) (hqe : q ≤ e) (he : e ≤ q + 2 * bs) (hen : e ≤ n) (hfull : e = q + 2 * bs ∨ e = n) (hS : Srt κ f' (s + q) (s + e)) (hM : Same f f' (s + q) (s + e)) : Half κ f' s n bs e := by
  have out : ∀ i, i < q ∨ e ≤ i → f' (s + i) = f (s + i) := fun i hi => hM.2.2 (s + i) (by omega)
  have inn : ∀ i, q ≤ i → i < e → ∃ j, q ≤ j ∧ j < e ∧ f' (s + i) = f (s + j) := by
    intro i hi hi'
    obtain ⟨j, h1, h2, h3⟩ := hM.1 (s + i) (by omega) (by omega)
    exact ⟨j - s, by omega, by omega, by rw [h3]; congr 1; omega⟩
  have hq2 : q = (2 * t) * bs := by rw [hq, ← Nat.mul_assoc, Nat.mul_comm t 2]
  refine ⟨?_, ?_, ?_⟩
  · intro i j hij hj
    by_cases cj : j < q
    · rw [out i (.inl (by omega)), out j (.inl cj)]
      exact h.lo i j hij cj
    · have dj : j / (2 * bs) = t := div_lo (by omega) hq (by omega) (by omega)
      by_cases ci : i < q
      · have di : i / (2 * bs) < t := by
          rw [Nat.div_lt_iff_lt_mul (by omega)]
          omega
        refine ⟨fun he => by omega, fun _ => ?_⟩
        obtain ⟨k, k1, k2, k3⟩ := inn j (by omega) hj
        rw [out i (.inl ci), k3]
        exact h.x i k ci k1 (by omega)
      · have di : i / (2 * bs) = t := div_lo (by omega) hq (by omega) (by omega)
        exact ⟨fun _ => hS _ _ (by omega) (by omega) (by omega), fun h => by omega⟩
  · intro i j hi hij hj
    rw [out i (.inr hi), out j (.inr (by omega))]
    exact h.hi i j (by omega) hij hj
  · intro i j hi hj hj'
    rcases hfull with hf | hf
    · rw [out j (.inr hj)]
      by_cases ci : i < q
      · rw [out i (.inl ci)]
        exact h.x i j ci (by omega) hj'
      · obtain ⟨k, k1, k2, k3⟩ := inn i (by omega) hi
        rw [k3]
        refine (h.hi k j k1 (by omega) hj').2 ?_
        have d1 : k / bs < 2 * t + 2 := by
          rw [Nat.div_lt_iff_lt_mul hbs, Nat.add_mul, ← hq2]
          omega
        have d2 : 2 * t + 2 ≤ j / bs := by
          rw [Nat.le_div_iff_mul_le hbs, Nat.add_mul, ← hq2]
          omega
        omega
    · omega

/-- What is left behind q is one run: half way is the whole way. -/
theorem Half.done (h : Half κ f s n bs q) (hbs : 0 < bs) {t : Nat} (hq : q = t * (2 * bs)) (hqn : q ≤ n) (hn : n ≤ q + bs) : Runs κ f s n (2 * bs) := by
  have hq2 : q = (2 * t) * bs := by rw [hq, ← Nat.mul_assoc, Nat.mul_comm t 2]
  intro i j hij hj
  by_cases cj : j < q
  · exact h.lo i j hij cj
  · have dj : j / (2 * bs) = t := div_lo (by omega) hq (by omega) (by omega)
    by_cases ci : i < q
    · have di : i / (2 * bs) < t := by
        rw [Nat.div_lt_iff_lt_mul (by omega)]
        omega
      exact ⟨fun he => by omega, fun _ => h.x i j ci (by omega) hj⟩
    · have di : i / (2 * bs) = t := div_lo (by omega) hq (by omega) (by omega)
      refine ⟨fun _ => (h.hi i j (by omega) hij hj).1 ?_, fun h => by omega⟩
      rw [div_lo hbs hq2 (by omega) (by omega), div_lo hbs hq2 (by omega) (by omega)]

theorem Runs.done (h : Runs κ f s n bs) (hn : n ≤ bs) : Srt κ f s (s + n) := by
  intro i j hi hij hj
  obtain ⟨i', rfl⟩ : ∃ i', i = s + i' := ⟨i - s, by omega⟩
  obtain ⟨j', rfl⟩ : ∃ j', j = s + j' := ⟨j - s, by omega⟩
  refine (h i' j' (by omega) (by omega)).1 ?_
  rw [Nat.div_eq_of_lt (by omega), Nat.div_eq_of_lt (by omega)]

/-- Half way at the end is the whole way. -/
theorem Half.full (h : Half κ f s n bs n) : Runs κ f s n (2 * bs) := h.lo
end
end Go.Proofs.Ybulkbtlq
