/-
  A ring read round from its head. No Go here.
-/
namespace Go.Proofs.Ybulkbtng
set_option linter.unusedVariables false

theorem mod_step (h i L : Nat) (hh : h < L) (hi : i < L) : (h + i) % L = if h + i < L then h + i else h + i - L := by
  split
  · exact Nat.mod_eq_of_lt (by assumption)
  · rw [Nat.mod_eq_sub_mod (by omega), Nat.mod_eq_of_lt (by omega)]

theorem mod_inj (h i j L : Nat) (hh : h < L) (hi : i < L) (hj : j < L) (e : (h + i) % L = (h + j) % L) : i = j := by
  rw [mod_step h i L hh hi, mod_step h j L hh hj] at e
  split at e <;> split at e <;> omega

theorem getD_set (l : List Int) (i j : Nat) (v : Int) (hi : i < l.length) : (l.set i v).getD j 0 = if i = j then v else l.getD j 0 := by
  by_cases h : i = j
  · subst h; simp [hi]
  · simp [h]

/-- The ring xs, of L places, read from head on, holds q. -/
def Ring (L head : Nat) (xs q : List Int) : Prop := ∀ i, i < q.length → xs.getD ((head + i) % L) 0 = q.getD i 0

theorem Ring.push {L head : Nat} {xs q : List Int} (h : Ring L head xs q) (v : Int) (hl : xs.length = L) (hh : head < L) (hn : q.length < L) : Ring L head (xs.set ((head + q.length) % L) v) (q ++ [v]) := by
  intro i hi
  have hm : (head + q.length) % L < L := Nat.mod_lt _ (by omega)
  rw [getD_set _ _ _ _ (by omega)]
  simp only [List.length_append, List.length_cons, List.length_nil] at hi
  by_cases e : i = q.length
  · subst e
    rw [if_pos rfl]
    simp
  · rw [if_neg (fun x => e (mod_inj head q.length i L hh hn (by omega) x).symm), h i (by omega)]
    have : i < q.length := by omega
    simp [List.getElem?_append_left this]

theorem Ring.pop {L head : Nat} {xs q : List Int} {v : Int} (h : Ring L head xs (v :: q)) (hl : xs.length = L) (hh : head < L) (hn : q.length < L) : xs.getD head 0 = v ∧ Ring L ((head + 1) % L) (xs.set head 0) q := by
  constructor
  · have := h 0 (by simp)
    rw [Nat.add_zero, Nat.mod_eq_of_lt hh] at this
    simpa using this
  · intro i hi
    have e1 : ((head + 1) % L + i) % L = (head + (i + 1)) % L := by rw [Nat.mod_add_mod]; congr 1; omega
    rw [e1, getD_set _ _ _ _ (by omega)]
    have hne : ¬ head = (head + (i + 1)) % L := fun e => by
      have e0 : (head + 0) % L = (head + (i + 1)) % L := by rw [Nat.add_zero, Nat.mod_eq_of_lt hh]; exact e
      have := mod_inj head 0 (i + 1) L hh (by omega) (by omega) e0
      omega
    rw [if_neg hne]
    have := h (i + 1) (by simp; omega)
    simpa using this

/-- What grow lays: the old ring from its head on, then zeros. -/
def rot (L head : Nat) (xs : List Int) : List Int := xs.drop head ++ xs.take head ++ List.replicate L 0

theorem rot_length (L head : Nat) (xs : List Int) (hl : xs.length = L) (hh : head ≤ L) : (rot L head xs).length = 2 * L := by
  unfold rot; simp [hl]; omega

theorem rot_at (L head : Nat) (xs : List Int) (hl : xs.length = L) (hh : head < L) (i : Nat) (hi : i < L) : (rot L head xs).getD i 0 = xs.getD ((head + i) % L) 0 := by
  rw [mod_step head i L hh hi]
  unfold rot
  split
  · next h =>
    have e : (xs.drop head ++ xs.take head ++ List.replicate L 0)[i]? = xs[head + i]? := by
      rw [List.append_assoc, List.getElem?_append_left (by simp; omega), List.getElem?_drop]
    rw [List.getD_eq_getElem?_getD, List.getD_eq_getElem?_getD, e]
  · next h =>
    have e : (xs.drop head ++ xs.take head ++ List.replicate L 0)[i]? = xs[head + i - L]? := by
      rw [List.append_assoc, List.getElem?_append_right (by simp; omega), List.getElem?_append_left (by simp; omega)]
      simp only [List.length_drop, hl]
      rw [List.getElem?_take_of_lt (by omega)]
      congr 1
      omega
    rw [List.getD_eq_getElem?_getD, List.getD_eq_getElem?_getD, e]

theorem rot_zero (L head : Nat) (xs : List Int) (hl : xs.length = L) (hh : head ≤ L) (i : Nat) (hi : L ≤ i) : (rot L head xs).getD i 0 = 0 := by
  unfold rot
  rw [List.getD_eq_getElem?_getD, List.getElem?_append_right (by simp; omega)]
  simp only [List.length_append, List.length_drop, List.length_take, hl, List.getElem?_replicate]
  split <;> rfl

theorem Ring.grow {L head : Nat} {xs q : List Int} (h : Ring L head xs q) (hl : xs.length = L) (hh : head < L) (hn : q.length ≤ L) : Ring (2 * L) 0 (rot L head xs) q := by
  intro i hi
  rw [Nat.zero_add, Nat.mod_eq_of_lt (by omega), rot_at L head xs hl hh i (by omega)]
  exact h i hi

theorem Ring.nil (L head : Nat) (xs : List Int) : Ring L head xs [] := fun i hi => by simp at hi

end Go.Proofs.Ybulkbtng
