/-
  Sums of the first k numbers of a list. No Go here.
-/
namespace Go.Proofs.Ybulkbtlq
set_option linter.unusedVariables false

def pre (zs : List Int) (k : Nat) : Int := (zs.take k).sum

theorem pre_zero (zs : List Int) : pre zs 0 = 0 := by simp [pre]

theorem pre_succ (zs : List Int) (k : Nat) (h : k < zs.length) : pre zs (k + 1) = pre zs k + zs.getD k 0 := by
  unfold pre
  rw [List.take_succ_eq_append_getElem h, List.sum_append]
  simp [h]

theorem pre_bd (zs : List Int) (h : ∀ z ∈ zs, 0 ≤ z ∧ z ≤ 255) (k : Nat) (hk : k ≤ zs.length) : 0 ≤ pre zs k ∧ pre zs k ≤ 255 * k := by
  induction k with
  | zero => simp [pre_zero]
  | succ k ih =>
    have hlt : k < zs.length := hk
    have i := ih (by omega)
    rw [pre_succ zs k hlt]
    have hz : zs.getD k 0 ∈ zs := by simp [hlt]
    have := h _ hz
    omega

theorem getD_bd (zs : List Int) (h : ∀ z ∈ zs, 0 ≤ z ∧ z ≤ 255) (k : Nat) (hlt : k < zs.length) : 0 ≤ zs.getD k 0 ∧ zs.getD k 0 ≤ 255 := by
  have hz : zs.getD k 0 ∈ zs := by simp [hlt]
  exact h _ hz

theorem pre_mono (zs : List Int) (h : ∀ z ∈ zs, 0 ≤ z ∧ z ≤ 255) (j k : Nat) (hjk : j ≤ k) (hk : k ≤ zs.length) : pre zs j ≤ pre zs k := by
  induction k with
  | zero => obtain rfl : j = 0 := by omega
            omega
  | succ k ih =>
    by_cases e : j = k + 1
    · subst e; omega
    · have := ih (by omega) (by omega)
      have hlt : k < zs.length := hk
      rw [pre_succ zs k hlt]
      have := getD_bd zs h k hlt
      omega

theorem getD_set (l : List Int) (i j : Nat) (v : Int) (hi : i < l.length) : (l.set i v).getD j 0 = if i = j then v else l.getD j 0 := by
  by_cases h : i = j
  · subst h; simp [hi]
  · simp [h]

end Go.Proofs.Ybulkbtlq
