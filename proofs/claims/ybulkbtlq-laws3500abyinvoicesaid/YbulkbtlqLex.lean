/-
  The plain law of the stable sort: a row as a function of the place; keys; blocks sorted by key and then by value.
-/
namespace Go.Proofs.Ybulkbtlq
set_option linter.unusedVariables false

def upd (f : Nat → Int) (j : Nat) (v : Int) : Nat → Int := fun k => if k = j then v else f k

/-- The places A.. and B.., n of each, changed for one another. -/
def swp (f : Nat → Int) (A B n : Nat) : Nat → Int := fun k => if A ≤ k ∧ k < A + n then f (k - A + B) else if B ≤ k ∧ k < B + n then f (k - B + A) else f k

/-- The rows [A, M) and [M, E) changed for one another. -/
def rot (f : Nat → Int) (A M E : Nat) : Nat → Int := fun k => if A ≤ k ∧ k < A + (E - M) then f (k - A + M) else if A + (E - M) ≤ k ∧ k < E then f (k - (A + (E - M)) + A) else f k

theorem swp_zero (f : Nat → Int) (A B : Nat) : swp f A B 0 = f := by
  funext k
  unfold swp
  rw [if_neg (by omega), if_neg (by omega)]

theorem swp_succ (f : Nat → Int) (A B n i : Nat) (hi : i < n) (h : A + n ≤ B) : upd (upd (swp f A B i) (A + i) (swp f A B i (B + i))) (B + i) (swp f A B i (A + i)) = swp f A B (i + 1) := by
  funext k
  unfold upd swp
  repeat' split
  all_goals first | rfl | (exfalso; omega) | (congr 1; omega)

theorem swp_succ' (f : Nat → Int) (A B n i : Nat) (hi : i < n) (h : A + n ≤ B) : upd (upd (swp f A B i) (B + i) (swp f A B i (A + i))) (A + i) (swp f A B i (B + i)) = swp f A B (i + 1) := by
  rw [← swp_succ f A B n i hi h]
  funext k
  unfold upd
  repeat' split
  all_goals first | rfl | (exfalso; omega)

theorem rot_left (f : Nat → Int) (M i j : Nat) (hi : i ≤ M) (h : j < i) (hj : 0 < j) : rot (swp f (M - i) M j) (M - i + j) M (M + j) = rot f (M - i) M (M + j) := by
  funext k
  unfold rot swp
  repeat' split
  all_goals first | rfl | (exfalso; omega) | (congr 1; omega)

theorem rot_right (f : Nat → Int) (M i j : Nat) (hi : i ≤ M) (h : i < j) (h0 : 0 < i) : rot (swp f (M - i) (M + j - i) i) (M - i) M (M + (j - i)) = rot f (M - i) M (M + j) := by
  funext k
  unfold rot swp
  repeat' split
  all_goals first | rfl | (exfalso; omega) | (congr 1; omega)

theorem rot_end (f : Nat → Int) (M i : Nat) (hi : i ≤ M) : swp f (M - i) M i = rot f (M - i) M (M + i) := by
  funext k
  unfold rot swp
  repeat' split
  all_goals first | rfl | (exfalso; omega) | (congr 1; omega)

section
variable (κ : Int → Int)

/-- By key, and then by value. -/
def Lt (x y : Int) : Prop := κ x < κ y ∨ (κ x = κ y ∧ x < y)

def Srt (f : Nat → Int) (a b : Nat) : Prop := ∀ i j, a ≤ i → i < j → j < b → Lt κ (f i) (f j)
end

/-- The same values in [a, b), and nothing else changed. -/
def Same (f f' : Nat → Int) (a b : Nat) : Prop :=
  (∀ i, a ≤ i → i < b → ∃ j, a ≤ j ∧ j < b ∧ f' i = f j) ∧ (∀ j, a ≤ j → j < b → ∃ i, a ≤ i ∧ i < b ∧ f' i = f j) ∧ ∀ i, i < a ∨ b ≤ i → f' i = f i

theorem Same.refl (f : Nat → Int) (a b : Nat) : Same f f a b := ⟨fun i h1 h2 => ⟨i, h1, h2, rfl⟩, fun i h1 h2 => ⟨i, h1, h2, rfl⟩, fun _ _ => rfl⟩

theorem Same.trans {f g h : Nat → Int} {a b : Nat} (h1 : Same f g a b) (h2 : Same g h a b) : Same f h a b := by
  refine ⟨fun i hi hi' => ?_, fun j hj hj' => ?_, fun i hi => (h2.2.2 i hi).trans (h1.2.2 i hi)⟩
  · obtain ⟨j, h3, h4, e⟩ := h2.1 i hi hi'
    obtain ⟨k, h5, h6, e'⟩ := h1.1 j h3 h4
    exact ⟨k, h5, h6, e.trans e'⟩
  · obtain ⟨i, h3, h4, e⟩ := h1.2.1 j hj hj'
    obtain ⟨k, h5, h6, e'⟩ := h2.2.1 i h3 h4
    exact ⟨k, h5, h6, e'.trans e⟩

theorem Same.mono {f f' : Nat → Int} {a b a' b' : Nat} (h : Same f f' a b) (ha : a' ≤ a) (hb : b ≤ b') : Same f f' a' b' := by
  refine ⟨fun i hi hi' => ?_, fun j hj hj' => ?_, fun i hi => h.2.2 i (by omega)⟩
  · by_cases hc : a ≤ i ∧ i < b
    · obtain ⟨j, h3, h4, e⟩ := h.1 i hc.1 hc.2
      exact ⟨j, by omega, by omega, e⟩
    · exact ⟨i, hi, hi', h.2.2 i (by omega)⟩
  · by_cases hc : a ≤ j ∧ j < b
    · obtain ⟨i, h3, h4, e⟩ := h.2.1 j hc.1 hc.2
      exact ⟨i, by omega, by omega, e⟩
    · exact ⟨j, hj, hj', h.2.2 j (by omega)⟩

theorem same_rot (f : Nat → Int) (A M E : Nat) (h1 : A ≤ M) (h2 : M ≤ E) : Same f (rot f A M E) A E := by
  refine ⟨fun i hi hi' => ?_, fun j hj hj' => ?_, fun i hi => ?_⟩
  · unfold rot
    split
    · exact ⟨_, by omega, by omega, rfl⟩
    · split
      · exact ⟨_, by omega, by omega, rfl⟩
      · exact ⟨i, hi, hi', rfl⟩
  · by_cases hc : j < M
    · refine ⟨j + (E - M), by omega, by omega, ?_⟩
      unfold rot
      rw [if_neg (by omega), if_pos (by omega)]
      congr 1
      omega
    · refine ⟨j - (M - A), by omega, by omega, ?_⟩
      unfold rot
      rw [if_pos (by omega)]
      congr 1
      omega
  · unfold rot
    rw [if_neg (by omega), if_neg (by omega)]

section
variable {κ : Int → Int}

theorem Lt.trans {x y z : Int} (h1 : Lt κ x y) (h2 : Lt κ y z) : Lt κ x z := by
  unfold Lt at *
  omega

theorem Lt.irrefl {x : Int} (h : Lt κ x x) : False := by
  unfold Lt at h
  omega

theorem Lt.total (x y : Int) : Lt κ x y ∨ x = y ∨ Lt κ y x := by
  unfold Lt
  omega

theorem Lt.asymm {x y : Int} (h1 : Lt κ x y) (h2 : Lt κ y x) : False := (h1.trans h2).irrefl

theorem Srt.congr {f f' : Nat → Int} {a b : Nat} (h : Srt κ f a b) (he : ∀ i, a ≤ i → i < b → f' i = f i) : Srt κ f' a b := by
  intro i j hi hij hj
  rw [he i hi (by omega), he j (by omega) hj]
  exact h i j hi hij hj

/-- Two sorted rows of the same values are one row. -/
theorem srt_unique {f f' : Nat → Int} {a a' n : Nat} (h : Srt κ f a (a + n)) (h' : Srt κ f' a' (a' + n)) (h1 : ∀ i, i < n → ∃ j, j < n ∧ f (a + i) = f' (a' + j)) (h2 : ∀ j, j < n → ∃ i, i < n ∧ f (a + i) = f' (a' + j)) :
    ∀ i, i < n → f (a + i) = f' (a' + i) := by
  intro i
  induction i using Nat.strongRecOn with
  | ind i ih =>
    intro hi
    obtain ⟨j, hj, ej⟩ := h1 i hi
    obtain ⟨k, hk, ek⟩ := h2 i hi
    have hji : i ≤ j := by
      apply Nat.le_of_not_lt
      intro hlt
      have e := ih j hlt hj
      have := h (a + j) (a + i) (by omega) (by omega) (by omega)
      rw [e, ← ej] at this
      exact this.irrefl
    have hki : i ≤ k := by
      apply Nat.le_of_not_lt
      intro hlt
      have e := ih k hlt hk
      have := h' (a' + k) (a' + i) (by omega) (by omega) (by omega)
      rw [← e, ek] at this
      exact this.irrefl
    by_cases e1 : j = i
    · subst e1; exact ej
    · by_cases e2 : k = i
      · subst e2; exact ek
      · have l1 := h' (a' + i) (a' + j) (by omega) (by omega) (by omega)
        have l2 := h (a + i) (a + k) (by omega) (by omega) (by omega)
        rw [← ej] at l1
        rw [ek] at l2
        exact absurd (l1.trans l2) (fun h => h.irrefl)

end
end Go.Proofs.Ybulkbtlq
