/-
  The plain law of the stable sort: insertion, and the merge of two sorted rows by a rotation and two smaller merges.
-/
import Derived.Test.YbulkbtlqLex
namespace Go.Proofs.Ybulkbtlq
set_option linter.unusedVariables false

/-- The value at p moved right to q (p ≤ q); those between move one left. -/
def mvR (f : Nat → Int) (p q : Nat) : Nat → Int := fun k => if p ≤ k ∧ k < q then f (k + 1) else if k = q then f p else f k
/-- The value at p moved left to q (q ≤ p); those between move one right. -/
def mvL (f : Nat → Int) (p q : Nat) : Nat → Int := fun k => if k = q then f p else if q < k ∧ k ≤ p then f (k - 1) else f k

theorem mvR_self (f : Nat → Int) (p : Nat) : mvR f p p = f := by
  funext k
  unfold mvR
  repeat' split
  all_goals first | rfl | (exfalso; omega) | (congr 1; omega)

theorem mvL_self (f : Nat → Int) (p : Nat) : mvL f p p = f := by
  funext k
  unfold mvL
  repeat' split
  all_goals first | rfl | (exfalso; omega) | (congr 1; omega)

theorem mvR_succ (f : Nat → Int) (p q : Nat) (h : p ≤ q) : upd (upd (mvR f p q) q (mvR f p q (q + 1))) (q + 1) (mvR f p q q) = mvR f p (q + 1) := by
  funext k
  unfold upd mvR
  repeat' split
  all_goals first | rfl | (exfalso; omega) | (congr 1; omega)

theorem mvR_succ' (f : Nat → Int) (p q : Nat) (h : p ≤ q) : upd (upd (mvR f p q) (q + 1) (mvR f p q q)) q (mvR f p q (q + 1)) = mvR f p (q + 1) := by
  funext k
  unfold upd mvR
  repeat' split
  all_goals first | rfl | (exfalso; omega) | (congr 1; omega)

theorem mvL_pred (f : Nat → Int) (p q : Nat) (h : q + 1 ≤ p) : upd (upd (mvL f p (q + 1)) (q + 1) (mvL f p (q + 1) q)) q (mvL f p (q + 1) (q + 1)) = mvL f p q := by
  funext k
  unfold upd mvL
  repeat' split
  all_goals first | rfl | (exfalso; omega) | (congr 1; omega)

theorem mvL_pred' (f : Nat → Int) (p q : Nat) (h : q + 1 ≤ p) : upd (upd (mvL f p (q + 1)) q (mvL f p (q + 1) (q + 1))) (q + 1) (mvL f p (q + 1) q) = mvL f p q := by
  funext k
  unfold upd mvL
  repeat' split
  all_goals first | rfl | (exfalso; omega) | (congr 1; omega)

theorem same_mvR (f : Nat → Int) (p q : Nat) (h : p ≤ q) : Same f (mvR f p q) p (q + 1) := by
  refine ⟨fun i hi hi' => ?_, fun j hj hj' => ?_, fun i hi => ?_⟩
  · unfold mvR
    repeat' split
    · exact ⟨_, by omega, by omega, rfl⟩
    · exact ⟨_, by omega, by omega, rfl⟩
    · exact ⟨_, by omega, by omega, rfl⟩
  · by_cases hc : j = p
    · exact ⟨q, by omega, by omega, by unfold mvR; rw [if_neg (by omega), if_pos rfl, hc]⟩
    · refine ⟨j - 1, by omega, by omega, ?_⟩
      unfold mvR
      rw [if_pos (by omega)]
      congr 1
      omega
  · unfold mvR
    rw [if_neg (by omega), if_neg (by omega)]

theorem same_mvL (f : Nat → Int) (p q : Nat) (h : q ≤ p) : Same f (mvL f p q) q (p + 1) := by
  refine ⟨fun i hi hi' => ?_, fun j hj hj' => ?_, fun i hi => ?_⟩
  · unfold mvL
    repeat' split
    · exact ⟨_, by omega, by omega, rfl⟩
    · exact ⟨_, by omega, by omega, rfl⟩
    · exact ⟨_, by omega, by omega, rfl⟩
  · by_cases hc : j = p
    · exact ⟨q, by omega, by omega, by unfold mvL; rw [if_pos rfl, hc]⟩
    · refine ⟨j + 1, by omega, by omega, ?_⟩
      unfold mvL
      rw [if_neg (by omega), if_pos (by omega)]
      congr 1
  · unfold mvL
    rw [if_neg (by omega), if_neg (by omega)]

section
variable {κ : Int → Int}

theorem Srt.key {f : Nat → Int} {a b : Nat} (h : Srt κ f a b) {i j : Nat} (hi : a ≤ i) (hij : i ≤ j) (hj : j < b) : κ (f i) ≤ κ (f j) := by
  by_cases e : i = j
  · subst e; exact Int.le_refl _
  · have := h i j hi (by omega) hj
    unfold Lt at this
    omega

theorem ins_left {f : Nat → Int} {a p q : Nat} (h : Srt κ f a p) (hq : a ≤ q) (hqp : q ≤ p) (h1 : ∀ k, a ≤ k → k < q → Lt κ (f k) (f p)) (h2 : ∀ k, q ≤ k → k < p → Lt κ (f p) (f k)) : Srt κ (mvL f p q) a (p + 1) := by
  intro i j hi hij hj
  unfold mvL
  by_cases e1 : i = q
  · rw [if_pos e1, if_neg (by omega), if_pos (by omega)]
    exact h2 _ (by omega) (by omega)
  · rw [if_neg e1]
    by_cases e2 : j = q
    · rw [if_neg (by omega), if_pos e2]
      exact h1 _ hi (by omega)
    · rw [if_neg e2]
      by_cases e3 : q < i ∧ i ≤ p
      · rw [if_pos e3, if_pos (by omega)]
        exact h _ _ (by omega) (by omega) (by omega)
      · rw [if_neg e3]
        by_cases e4 : q < j ∧ j ≤ p
        · rw [if_pos e4]
          exact h _ _ (by omega) (by omega) (by omega)
        · rw [if_neg e4]
          exact h _ _ (by omega) (by omega) (by omega)

theorem ins_right {f : Nat → Int} {b p q : Nat} (h : Srt κ f (p + 1) b) (hpq : p ≤ q) (hq : q < b) (h1 : ∀ k, p < k → k ≤ q → Lt κ (f k) (f p)) (h2 : ∀ k, q < k → k < b → Lt κ (f p) (f k)) : Srt κ (mvR f p q) p b := by
  intro i j hi hij hj
  unfold mvR
  by_cases e1 : i < q
  · rw [if_pos ⟨hi, e1⟩]
    by_cases e2 : j < q
    · rw [if_pos (by omega)]
      exact h _ _ (by omega) (by omega) (by omega)
    · rw [if_neg (by omega)]
      by_cases e3 : j = q
      · rw [if_pos e3]
        exact h1 _ (by omega) (by omega)
      · rw [if_neg e3]
        exact h _ _ (by omega) (by omega) (by omega)
  · rw [if_neg (show ¬ (p ≤ i ∧ i < q) by omega), if_neg (show ¬ (p ≤ j ∧ j < q) by omega), if_neg (show ¬ j = q by omega)]
    by_cases e3 : i = q
    · rw [if_pos e3]
      exact h2 _ (by omega) hj
    · rw [if_neg e3]
      exact h _ _ (by omega) (by omega) (by omega)

/-- The values of [a, m) lie under those of [m, b). -/
def Sep (f : Nat → Int) (a m b : Nat) : Prop := ∀ i j, a ≤ i → i < m → m ≤ j → j < b → f i < f j

theorem srt_glue {f : Nat → Int} {a m b : Nat} (h1 : Srt κ f a m) (h2 : Srt κ f m b) (hx : ∀ i j, a ≤ i → i < m → m ≤ j → j < b → Lt κ (f i) (f j)) : Srt κ f a b := by
  intro i j hi hij hj
  by_cases e1 : j < m
  · exact h1 i j hi hij e1
  · by_cases e2 : i < m
    · exact hx i j hi e2 (by omega) hj
    · exact h2 i j (by omega) hij hj

theorem rot_lo {f : Nat → Int} {s m e k : Nat} (h1 : k < s) : rot f s m e k = f k := by
  unfold rot
  rw [if_neg (by omega), if_neg (by omega)]
theorem rot_a {f : Nat → Int} {s m e k : Nat} (h1 : s ≤ k) (h2 : k < s + (e - m)) : rot f s m e k = f (k - s + m) := by
  unfold rot
  rw [if_pos (by omega)]
theorem rot_b {f : Nat → Int} {s m e k : Nat} (h1 : s + (e - m) ≤ k) (h2 : k < e) : rot f s m e k = f (k - (s + (e - m)) + s) := by
  unfold rot
  rw [if_neg (by omega), if_pos (by omega)]
theorem rot_hi {f : Nat → Int} {s m e k : Nat} (h0 : s ≤ m) (h0' : m ≤ e) (h1 : e ≤ k) : rot f s m e k = f k := by
  unfold rot
  rw [if_neg (by omega), if_neg (by omega)]

/-- What the rotation has done: two halves, each of two sorted rows, the values of the one under those of the other; all of the lower half comes ahead of all of the upper. -/
structure Halves (κ : Int → Int) (g : Nat → Int) (a s mid e b : Nat) : Prop where
  l1 : Srt κ g a s
  l2 : Srt κ g s mid
  l3 : Sep g a s mid
  u1 : Srt κ g mid e
  u2 : Srt κ g e b
  u3 : Sep g mid e b
  x : ∀ i j, a ≤ i → i < mid → mid ≤ j → j < b → Lt κ (g i) (g j)

theorem halves {f : Nat → Int} {a s m mid e b : Nat} (hL : Srt κ f a m) (hR : Srt κ f m b) (hS : Sep f a m b) (h1 : a ≤ s) (h2 : s ≤ m) (h3 : m ≤ e) (h4 : e ≤ b) (hm : mid = s + (e - m))
    (x1 : s = a ∨ e = b ∨ Lt κ (f (s - 1)) (f e)) (x2 : s = m ∨ e = m ∨ Lt κ (f (e - 1)) (f s)) : Halves κ (rot f s m e) a s mid e b := by
  subst hm
  refine ⟨?_, ?_, ?_, ?_, ?_, ?_, ?_⟩
  · intro i j hi hij hj
    rw [rot_lo (by omega), rot_lo (by omega)]
    exact hL i j hi hij (by omega)
  · intro i j hi hij hj
    rw [rot_a hi (by omega), rot_a (by omega) hj]
    exact hR _ _ (by omega) (by omega) (by omega)
  · intro i j hi hi' hj hj'
    rw [rot_lo (by omega), rot_a hj hj']
    exact hS _ _ hi (by omega) (by omega) (by omega)
  · intro i j hi hij hj
    rw [rot_b hi (by omega), rot_b (by omega) hj]
    exact hL _ _ (by omega) (by omega) (by omega)
  · intro i j hi hij hj
    rw [rot_hi h2 h3 hi, rot_hi h2 h3 (by omega)]
    exact hR _ _ (by omega) (by omega) (by omega)
  · intro i j hi hi' hj hj'
    rw [rot_b hi hi', rot_hi h2 h3 hj]
    exact hS _ _ (by omega) (by omega) (by omega) (by omega)
  · have lt_le : ∀ i, a ≤ i → i < s → f i = f (s - 1) ∨ Lt κ (f i) (f (s - 1)) := by
      intro i hi hi'
      by_cases e1 : i = s - 1
      · exact .inl (by rw [e1])
      · exact .inr (hL i (s - 1) hi (by omega) (by omega))
    have e_le : ∀ j, e ≤ j → j < b → f j = f e ∨ Lt κ (f e) (f j) := by
      intro j hj hj'
      by_cases e1 : j = e
      · exact .inl (by rw [e1])
      · exact .inr (hR e j (by omega) (by omega) hj')
    have e1_le : ∀ j, m ≤ j → j < e → f j = f (e - 1) ∨ Lt κ (f j) (f (e - 1)) := by
      intro j hj hj'
      by_cases e1 : j = e - 1
      · exact .inl (by rw [e1])
      · exact .inr (hR j (e - 1) hj (by omega) (by omega))
    have s_le : ∀ i, s ≤ i → i < m → f i = f s ∨ Lt κ (f s) (f i) := by
      intro i hi hi'
      by_cases e1 : i = s
      · exact .inl (by rw [e1])
      · exact .inr (hL s i (by omega) (by omega) hi')
    intro i j hi hi' hj hj'
    by_cases ci : i < s
    · rw [rot_lo ci]
      by_cases cj : j < e
      · rw [rot_b hj cj]
        exact hL _ _ hi (by omega) (by omega)
      · rw [rot_hi h2 h3 (by omega)]
        have x : Lt κ (f (s - 1)) (f e) := by
          rcases x1 with h | h | h
          · omega
          · omega
          · exact h
        rcases lt_le i hi ci with h5 | h5 <;> rcases e_le j (by omega) hj' with h6 | h6
        · rw [h5, h6]; exact x
        · rw [h5]; exact x.trans h6
        · rw [h6]; exact h5.trans x
        · exact (h5.trans x).trans h6
    · rw [rot_a (by omega) hi']
      by_cases cj : j < e
      · rw [rot_b hj cj]
        have x : Lt κ (f (e - 1)) (f s) := by
          rcases x2 with h | h | h
          · omega
          · omega
          · exact h
        rcases e1_le (i - s + m) (by omega) (by omega) with h5 | h5 <;> rcases s_le (j - (s + (e - m)) + s) (by omega) (by omega) with h6 | h6
        · rw [h5, h6]; exact x
        · rw [h5]; exact x.trans h6
        · rw [h6]; exact h5.trans x
        · exact (h5.trans x).trans h6
      · rw [rot_hi h2 h3 (by omega)]
        exact hR _ _ (by omega) (by omega) hj'

/-- The two smaller merges done, the whole is sorted. -/
theorem halves_done {g g1 g2 : Nat → Int} {a s mid e b : Nat} (H : Halves κ g a s mid e b) (h1 : a ≤ mid) (h2 : mid ≤ b) (m1 : Same g g1 a mid) (s1 : Srt κ g1 a mid) (m2 : Same g1 g2 mid b) (s2 : Srt κ g2 mid b) :
    Srt κ g2 a b ∧ Same g g2 a b := by
  constructor
  · refine srt_glue (m := mid) ?_ s2 ?_
    · exact s1.congr (fun i hi hi' => m2.2.2 i (by omega))
    · intro i j hi hi' hj hj'
      rw [m2.2.2 i (by omega)]
      obtain ⟨i', hi1, hi2, e1⟩ := m1.1 i hi hi'
      obtain ⟨j', hj1, hj2, e2⟩ := m2.1 j hj hj'
      rw [e1, e2, m1.2.2 j' (by omega)]
      exact H.x _ _ hi1 hi2 hj1 hj2
  · exact (m1.mono (Nat.le_refl _) h2).trans (m2.mono h1 (Nat.le_refl _))

end
end Go.Proofs.Ybulkbtlq
