/-
  The plain law of the grouping: counts, starts, the filling of the groups in order of their places.
-/
import Derived.Test.YbulkbtlqMerge
namespace Go.Proofs.Ybulkbtlq
set_option linter.unusedVariables false

def cnt (p : Nat → Bool) : Nat → Nat
  | 0 => 0
  | m + 1 => cnt p m + (if p m = true then 1 else 0)

theorem cnt_le (p : Nat → Bool) (m : Nat) : cnt p m ≤ m := by
  induction m with
  | zero => exact Nat.le_refl _
  | succ m ih => unfold cnt; split <;> omega

theorem cnt_mono (p : Nat → Bool) {m m' : Nat} (h : m ≤ m') : cnt p m ≤ cnt p m' := by
  induction m' with
  | zero => have : m = 0 := by omega
            subst this; exact Nat.le_refl _
  | succ m' ih =>
    by_cases e : m = m' + 1
    · subst e; exact Nat.le_refl _
    · have := ih (by omega)
      show _ ≤ cnt p m' + _
      omega

section
variable (K : Nat → Bool) (I : Nat → Nat)

/-- Place k is kept and is of group i. -/
def gd (i : Nat) : Nat → Bool := fun k => K k && (I k == i)

def start (count : Nat) : Nat → Nat
  | 0 => 0
  | i + 1 => start count i + cnt (gd K I i) count
end

section
variable {K : Nat → Bool} {I : Nat → Nat} {count : Nat}

theorem gd_iff {i k : Nat} : gd K I i k = true ↔ K k = true ∧ I k = i := by simp [gd]

theorem start_mono {i j : Nat} (h : i ≤ j) : start K I count i ≤ start K I count j := by
  induction j with
  | zero => have : i = 0 := by omega
            subst this; exact Nat.le_refl _
  | succ j ih =>
    by_cases e : i = j + 1
    · subst e; exact Nat.le_refl _
    · have := ih (by omega)
      show _ ≤ start K I count j + _
      omega

theorem start_next {i j : Nat} (h : i < j) : start K I count i + cnt (gd K I i) count ≤ start K I count j := by
  have := start_mono (K := K) (I := I) (count := count) (i := i + 1) (j := j) h
  simpa [start] using this

/-- The counts of m places, added up, are at most m. -/
def tot (K : Nat → Bool) (I : Nat → Nat) (m : Nat) : Nat → Nat
  | 0 => 0
  | i + 1 => tot K I m i + cnt (gd K I i) m

theorem tot_step (m n : Nat) : tot K I (m + 1) n = tot K I m n + (if K m = true ∧ I m < n then 1 else 0) := by
  induction n with
  | zero => simp [tot]
  | succ n ih =>
    unfold tot
    rw [ih]
    have e : cnt (gd K I n) (m + 1) = cnt (gd K I n) m + (if gd K I n m = true then 1 else 0) := rfl
    rw [e]
    by_cases hk : K m = true
    · rcases Nat.lt_trichotomy (I m) n with h | h | h
      · have h1 : ¬ gd K I n m = true := by rw [gd_iff]; omega
        rw [if_pos ⟨hk, h⟩, if_neg h1, if_pos ⟨hk, by omega⟩]
        omega
      · have h1 : gd K I n m = true := by rw [gd_iff]; exact ⟨hk, h⟩
        rw [if_neg (by omega), if_pos h1, if_pos ⟨hk, by omega⟩]
        omega
      · have h1 : ¬ gd K I n m = true := by rw [gd_iff]; omega
        rw [if_neg (by omega), if_neg h1, if_neg (by omega)]
        omega
    · have h1 : ¬ gd K I n m = true := by rw [gd_iff]; exact fun h => hk h.1
      rw [if_neg (fun h => hk h.1), if_neg h1, if_neg (fun h => hk h.1)]
      omega

theorem tot_le (m n : Nat) : tot K I m n ≤ m := by
  induction m with
  | zero => induction n with
    | zero => exact Nat.le_refl _
    | succ n ih => simp only [tot, cnt]; omega
  | succ m ih => rw [tot_step]; split <;> omega

theorem start_tot (i : Nat) : start K I count i = tot K I count i := by
  induction i with
  | zero => rfl
  | succ i ih => simp only [start, tot, ih]

theorem start_le (i : Nat) : start K I count i ≤ count := by rw [start_tot]; exact tot_le _ _

/-- The groups hold, each in order, the places below m. -/
structure Filled (K : Nat → Bool) (I : Nat → Nat) (count n m : Nat) (f : Nat → Int) : Prop where
  val : ∀ i, i < n → ∀ p, start K I count i ≤ p → p < start K I count i + cnt (gd K I i) m → ∃ k, k < m ∧ gd K I i k = true ∧ f p = (k : Int)
  asc : ∀ i, i < n → ∀ p q, start K I count i ≤ p → p < q → q < start K I count i + cnt (gd K I i) m → f p < f q
  all : ∀ i, i < n → ∀ k, k < m → gd K I i k = true → ∃ p, start K I count i ≤ p ∧ p < start K I count i + cnt (gd K I i) m ∧ f p = (k : Int)

theorem Filled.zero (n : Nat) (f : Nat → Int) : Filled K I count n 0 f := ⟨fun i hi p h1 h2 => by simp only [cnt] at h2; omega, fun i hi p q h1 h2 h3 => by simp only [cnt] at h3; omega, fun i hi k h => by omega⟩

theorem Filled.skip {n m : Nat} {f : Nat → Int} (h : Filled K I count n m f) (hK : K m = false) : Filled K I count n (m + 1) f := by
  have e : ∀ i, cnt (gd K I i) (m + 1) = cnt (gd K I i) m := by
    intro i
    have h1 : ¬ gd K I i m = true := by rw [gd_iff, hK]; simp
    show _ + (if gd K I i m = true then 1 else 0) = _
    rw [if_neg h1, Nat.add_zero]
  refine ⟨?_, ?_, ?_⟩
  · intro i hi p h1 h2
    rw [e] at h2
    obtain ⟨k, k1, k2, k3⟩ := h.val i hi p h1 h2
    exact ⟨k, by omega, k2, k3⟩
  · intro i hi p q h1 h2 h3
    rw [e] at h3
    exact h.asc i hi p q h1 h2 h3
  · intro i hi k hk hg
    rw [e]
    by_cases ek : k = m
    · subst ek
      rw [gd_iff, hK] at hg
      simp at hg
    · exact h.all i hi k (by omega) hg

theorem Filled.put {n m : Nat} {f : Nat → Int} (h : Filled K I count n m f) (hm : m < count) (hK : K m = true) (hI : I m < n) :
    Filled K I count n (m + 1) (upd f (start K I count (I m) + cnt (gd K I (I m)) m) (m : Int)) := by
  have e0 : cnt (gd K I (I m)) (m + 1) = cnt (gd K I (I m)) m + 1 := by
    show _ + (if gd K I (I m) m = true then 1 else 0) = _
    rw [if_pos (gd_iff.2 ⟨hK, rfl⟩)]
  have e1 : ∀ i, i ≠ I m → cnt (gd K I i) (m + 1) = cnt (gd K I i) m := by
    intro i hi
    show _ + (if gd K I i m = true then 1 else 0) = _
    rw [if_neg (by rw [gd_iff]; exact fun h => hi h.2.symm), Nat.add_zero]
  have room : cnt (gd K I (I m)) m + 1 ≤ cnt (gd K I (I m)) count := by rw [← e0]; exact cnt_mono _ (by omega)
  have far : ∀ i p, i ≠ I m → start K I count i ≤ p → p < start K I count i + cnt (gd K I i) m → p ≠ start K I count (I m) + cnt (gd K I (I m)) m := by
    intro i p hi h1 h2 he
    have hc := cnt_mono (gd K I i) (show m ≤ count by omega)
    rcases Nat.lt_or_gt_of_ne hi with hlt | hgt
    · have := start_next (K := K) (I := I) (count := count) hlt
      omega
    · have := start_next (K := K) (I := I) (count := count) hgt
      omega
  refine ⟨?_, ?_, ?_⟩
  · intro i hi p h1 h2
    by_cases ei : i = I m
    · subst ei
      rw [e0] at h2
      unfold upd
      by_cases ep : p = start K I count (I m) + cnt (gd K I (I m)) m
      · rw [if_pos ep]
        exact ⟨m, by omega, gd_iff.2 ⟨hK, rfl⟩, rfl⟩
      · rw [if_neg ep]
        obtain ⟨k, k1, k2, k3⟩ := h.val _ hi p h1 (by omega)
        exact ⟨k, by omega, k2, k3⟩
    · rw [e1 i ei] at h2
      unfold upd
      rw [if_neg (far i p ei h1 h2)]
      obtain ⟨k, k1, k2, k3⟩ := h.val i hi p h1 h2
      exact ⟨k, by omega, k2, k3⟩
  · intro i hi p q h1 h2 h3
    by_cases ei : i = I m
    · subst ei
      rw [e0] at h3
      unfold upd
      rw [if_neg (by omega)]
      by_cases eq : q = start K I count (I m) + cnt (gd K I (I m)) m
      · rw [if_pos eq]
        obtain ⟨k, k1, k2, k3⟩ := h.val _ hi p h1 (by omega)
        rw [k3]
        omega
      · rw [if_neg eq]
        exact h.asc _ hi p q h1 h2 (by omega)
    · rw [e1 i ei] at h3
      unfold upd
      rw [if_neg (far i p ei h1 (by omega)), if_neg (far i q ei (by omega) h3)]
      exact h.asc i hi p q h1 h2 h3
  · intro i hi k hk hg
    by_cases ei : i = I m
    · subst ei
      rw [e0]
      by_cases ek : k = m
      · refine ⟨start K I count (I m) + cnt (gd K I (I m)) m, by omega, by omega, ?_⟩
        unfold upd
        rw [if_pos rfl, ek]
      · obtain ⟨p, p1, p2, p3⟩ := h.all _ hi k (by omega) hg
        refine ⟨p, p1, by omega, ?_⟩
        unfold upd
        rw [if_neg (by omega)]
        exact p3
    · rw [e1 i ei]
      have ek : k ≠ m := by
        rintro rfl
        exact ei (gd_iff.1 hg).2.symm
      obtain ⟨p, p1, p2, p3⟩ := h.all i hi k (by omega) hg
      refine ⟨p, p1, p2, ?_⟩
      unfold upd
      rw [if_neg (far i p ei p1 p2)]
      exact p3

/-- The groups, those ahead of j sorted, the others as they were filled. -/
structure Grouped (κ : Int → Int) (K : Nat → Bool) (I : Nat → Nat) (count n j : Nat) (f : Nat → Int) : Prop where
  val : ∀ i, i < n → ∀ p, start K I count i ≤ p → p < start K I count (i + 1) → ∃ k, k < count ∧ gd K I i k = true ∧ f p = (k : Int)
  all : ∀ i, i < n → ∀ k, k < count → gd K I i k = true → ∃ p, start K I count i ≤ p ∧ p < start K I count (i + 1) ∧ f p = (k : Int)
  asc : ∀ i, j ≤ i → i < n → ∀ p q, start K I count i ≤ p → p < q → q < start K I count (i + 1) → f p < f q
  srt : ∀ i, i < j → i < n → Srt κ f (start K I count i) (start K I count (i + 1))

theorem Filled.grouped {κ : Int → Int} {n : Nat} {f : Nat → Int} (h : Filled K I count n count f) : Grouped κ K I count n 0 f :=
  ⟨fun i hi p h1 h2 => h.val i hi p h1 h2, fun i hi k hk hg => h.all i hi k hk hg, fun i _ hi p q h1 h2 h3 => h.asc i hi p q h1 h2 h3, fun i hi => by omega⟩

theorem Grouped.next {κ : Int → Int} {n j : Nat} {f f' : Nat → Int} (h : Grouped κ K I count n j f) (hj : j < n) (hS : Srt κ f' (start K I count j) (start K I count (j + 1))) (hM : Same f f' (start K I count j) (start K I count (j + 1))) : Grouped κ K I count n (j + 1) f' := by
  have out : ∀ i p, i ≠ j → start K I count i ≤ p → p < start K I count (i + 1) → f' p = f p := by
    intro i p hi h1 h2
    refine hM.2.2 p ?_
    rcases Nat.lt_or_gt_of_ne hi with hlt | hgt
    · have := start_mono (K := K) (I := I) (count := count) (show i + 1 ≤ j from hlt)
      omega
    · have := start_mono (K := K) (I := I) (count := count) (show j + 1 ≤ i from hgt)
      omega
  refine ⟨?_, ?_, ?_, ?_⟩
  · intro i hi p h1 h2
    by_cases e : i = j
    · subst e
      obtain ⟨q, q1, q2, q3⟩ := hM.1 p h1 h2
      rw [q3]
      exact h.val i hi q q1 q2
    · rw [out i p e h1 h2]
      exact h.val i hi p h1 h2
  · intro i hi k hk hg
    obtain ⟨p, p1, p2, p3⟩ := h.all i hi k hk hg
    by_cases e : i = j
    · subst e
      obtain ⟨q, q1, q2, q3⟩ := hM.2.1 p p1 p2
      exact ⟨q, q1, q2, by rw [q3, p3]⟩
    · exact ⟨p, p1, p2, by rw [out i p e p1 p2, p3]⟩
  · intro i hi hi' p q h1 h2 h3
    rw [out i p (by omega) h1 (by omega), out i q (by omega) (by omega) h3]
    exact h.asc i (by omega) hi' p q h1 h2 h3
  · intro i hi hi'
    by_cases e : i = j
    · subst e; exact hS
    · exact (h.srt i (by omega) hi').congr (fun p h1 h2 => out i p e h1 h2)
end
end Go.Proofs.Ybulkbtlq
