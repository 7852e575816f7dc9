/-
  slices.symMergeCmpFunc on a block of int32: the plain facts of the general case.
-/
import Derived.Test.YbulkbtlqMerge
namespace Go.Proofs.Ybulkbtlq
set_option linter.unusedVariables false

/-- The search over c: the left value at c against the right value at p - c. -/
def LoS (κ : Int → Int) (f : Nat → Int) (s p s0 i : Nat) : Prop := ∀ c, s0 ≤ c → c < i → ¬ κ (f (s + (p - c))) < κ (f (s + c))
def HiS (κ : Int → Int) (f : Nat → Int) (s p j r0 : Nat) : Prop := ∀ c, j ≤ c → c < r0 → κ (f (s + (p - c))) < κ (f (s + c))

/-- Where the search starts and ends. -/
def Door (a m b mid s0 r0 : Nat) : Prop := (mid < m ∧ s0 = mid + m - b ∧ r0 = mid) ∨ (m ≤ mid ∧ s0 = a ∧ r0 = m)

section
variable {κ : Int → Int} {f : Nat → Int} {s a m b mid s0 r0 : Nat}

theorem door_bounds (hm : (a + b) / 2 = mid) (h1 : a < m) (h2 : m < b) (hd : Door a m b mid s0 r0) : a ≤ s0 ∧ s0 ≤ r0 ∧ r0 ≤ m ∧ r0 ≤ mid ∧ (∀ c, s0 ≤ c → c < r0 → m ≤ mid + m - 1 - c ∧ mid + m - 1 - c < b) ∧ mid + m - s0 ≤ b := by
  unfold Door at hd
  refine ⟨by omega, by omega, by omega, by omega, fun c h3 h4 => by omega, by omega⟩

theorem search_up (hm : (a + b) / 2 = mid) (h1 : a < m) (h2 : m < b) (hd : Door a m b mid s0 r0) (hL : Srt κ f (s + a) (s + m)) (hR : Srt κ f (s + m) (s + b)) {h : Nat} (hh : s0 ≤ h) (hh' : h < r0) (hx : ¬ κ (f (s + (mid + m - 1 - h))) < κ (f (s + h))) : LoS κ f s (mid + m - 1) s0 (h + 1) := by
  obtain ⟨d1, d2, d3, d4, d5, d6⟩ := door_bounds hm h1 h2 hd
  intro c hc hc'
  have b1 := d5 c hc (by omega)
  have b2 := d5 h hh hh'
  have k1 := hL.key (i := s + c) (j := s + h) (by omega) (by omega) (by omega)
  have k2 := hR.key (i := s + (mid + m - 1 - h)) (j := s + (mid + m - 1 - c)) (by omega) (by omega) (by omega)
  omega

theorem search_down (hm : (a + b) / 2 = mid) (h1 : a < m) (h2 : m < b) (hd : Door a m b mid s0 r0) (hL : Srt κ f (s + a) (s + m)) (hR : Srt κ f (s + m) (s + b)) {h : Nat} (hh : s0 ≤ h) (hh' : h < r0) (hx : κ (f (s + (mid + m - 1 - h))) < κ (f (s + h))) : HiS κ f s (mid + m - 1) h r0 := by
  obtain ⟨d1, d2, d3, d4, d5, d6⟩ := door_bounds hm h1 h2 hd
  intro c hc hc'
  have b1 := d5 c (by omega) hc'
  have b2 := d5 h hh hh'
  have k1 := hL.key (i := s + h) (j := s + c) (by omega) (by omega) (by omega)
  have k2 := hR.key (i := s + (mid + m - 1 - c)) (j := s + (mid + m - 1 - h)) (by omega) (by omega) (by omega)
  omega

theorem search_end (hm : (a + b) / 2 = mid) (h1 : a < m) (h2 : m < b) (hd : Door a m b mid s0 r0) (hL : Srt κ f (s + a) (s + m)) (hR : Srt κ f (s + m) (s + b)) (hS : Sep f (s + a) (s + m) (s + b)) {st e : Nat} (h3 : s0 ≤ st) (h4 : st ≤ r0) (he : e = mid + m - st)
    (lo : LoS κ f s (mid + m - 1) s0 st) (hi : HiS κ f s (mid + m - 1) st r0) :
    Halves κ (rot f (s + st) (s + m) (s + e)) (s + a) (s + st) (s + mid) (s + e) (s + b) ∧ a ≤ st ∧ st ≤ m ∧ m ≤ e ∧ e ≤ b ∧ st ≤ mid ∧ mid ≤ e := by
  obtain ⟨d1, d2, d3, d4, d5, d6⟩ := door_bounds hm h1 h2 hd
  refine ⟨halves hL hR hS (by omega) (by omega) (by omega) (by omega) (by omega) ?_ ?_, by omega, by omega, by omega, by omega, by omega, by omega⟩
  · by_cases hc : st = s0
    · unfold Door at hd
      rcases hd with hd | hd
      · exact .inr (.inl (by omega))
      · exact .inl (by omega)
    · refine .inr (.inr ?_)
      have hx := lo (st - 1) (by omega) (by omega)
      have b1 := d5 (st - 1) (by omega) (by omega)
      have hv := hS (s + (st - 1)) (s + e) (by omega) (by omega) (by omega) (by omega)
      rw [show mid + m - 1 - (st - 1) = e by omega] at hx
      rw [show s + st - 1 = s + (st - 1) by omega]
      unfold Lt
      omega
  · by_cases hc : st = r0
    · unfold Door at hd
      rcases hd with hd | hd
      · exact .inr (.inl (by omega))
      · exact .inl (by omega)
    · refine .inr (.inr ?_)
      have hx := hi st (Nat.le_refl _) (by omega)
      rw [show mid + m - 1 - st = e - 1 by omega] at hx
      rw [show s + e - 1 = s + (e - 1) by omega]
      exact .inl hx
end

theorem rot_none (f : Nat → Int) (A M E : Nat) (h : A = M ∨ M = E) (h1 : A ≤ M) (h2 : M ≤ E) : rot f A M E = f := by
  funext k
  unfold rot
  repeat' split
  all_goals first | rfl | (exfalso; omega) | (congr 1; omega)

end Go.Proofs.Ybulkbtlq
