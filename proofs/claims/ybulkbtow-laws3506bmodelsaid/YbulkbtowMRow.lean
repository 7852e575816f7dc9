/-
  BModel: a block seen as a function of the place.
-/
import Derived.Test.YbulkbtowRows
import Derived.Test.YbulkbtowHeap
import Derived.Test.YbulkbtowAppend
import Derived.Laws.IdiomCopy
namespace Go.Proofs.Ybulkbtow
open Go.RowKit
set_option linter.unusedVariables false

def upv {α : Type} (f : Nat → α) (j : Nat) (v : α) : Nat → α := fun k => if k = j then v else f k
theorem upv_same {α : Type} (f : Nat → α) (j : Nat) (v : α) : upv f j v j = v := by simp [upv]
theorem upv_other {α : Type} (f : Nat → α) {j k : Nat} (v : α) (h : k ≠ j) : upv f j v k = f k := by simp [upv, h]

/-- The block g of L cells: f 0, f 1, .. -/
def Vf (w : World) (g : Nat) (e : TypeId) (L : Nat) (f : Nat → Value) : Prop := Blk w g e ((List.range L).map f)

theorem Blk.ne {w : World} {g g' : Nat} {e e' : TypeId} {cs cs' : List Value} (h : Blk w g e cs) (h' : Blk w g' e' cs') (he : e ≠ e') : g ≠ g' := by
  rintro rfl
  have h1 : w.heap[g]? = some (.cells cs.toArray e (0, 0)) := h
  have h2 : w.heap[g]? = some (.cells cs'.toArray e' (0, 0)) := h'
  rw [h1] at h2
  simp at h2
  exact he h2.2

theorem Vf.lt {w : World} {g : Nat} {e : TypeId} {L : Nat} {f : Nat → Value} (h : Vf w g e L f) : g < w.heap.size := Blk.lt h
theorem Vf.at {w : World} {g : Nat} {e : TypeId} {L : Nat} {f : Nat → Value} (h : Vf w g e L f) {i : Nat} (hi : i < L) : w.cell? ⟨g, i, none⟩ = some (f i) := by
  rw [Blk.at h i]
  simp [hi]
theorem Vf.free {w : World} {g : Nat} {e : TypeId} {L : Nat} {f : Nat → Value} (h : Vf w g e L f) (i : Nat) : w.frozen? ⟨g, i, none⟩ = false := Blk.free h i
theorem Vf.set {w : World} {g : Nat} {e : TypeId} {L : Nat} {f : Nat → Value} (h : Vf w g e L f) (j : Nat) (v : Value) : Vf (w.setCell ⟨g, j, none⟩ v) g e L (upv f j v) := by
  unfold Vf
  have e : ((List.range L).map (upv f j v)) = ((List.range L).map f).set j v := by
    apply List.ext_getElem?
    intro k
    rw [List.getElem?_set]
    by_cases hk : k < L
    · by_cases e : j = k
      · subst e; simp [hk, upv]
      · have e' : ¬ k = j := fun h => e h.symm
        simp [hk, upv, e, e']
    · have h1 : L ≤ k := by omega
      by_cases e : j = k
      · subst e; simp [hk]
      · simp [h1, e]
  rw [e]
  exact Blk.set h j _
theorem Vf.drewN {w : World} {g : Nat} {e : TypeId} {L : Nat} {f : Nat → Value} (h : Vf w g e L f) (n : Nat) : Vf (w.drewN n) g e L f := h
theorem Vf.kept {S : List Nat} {w w' : World} {g : Nat} {e : TypeId} {L : Nat} {f : Nat → Value} (h : Vf w g e L f) (hk : Kept S w w') (hg : g ∉ S) : Vf w' g e L f := hk.blk h hg
theorem Vf.below {w w' : World} {B : Nat} {g : Nat} {e : TypeId} {L : Nat} {f : Nat → Value} (h : Vf w g e L f) (hb : Below B w w') (hg : g < B) : Vf w' g e L f := Blk.below h hb hg
theorem Vf.congr {w : World} {g : Nat} {e : TypeId} {L : Nat} {f f' : Nat → Value} (h : Vf w g e L f) (he : ∀ i, i < L → f i = f' i) : Vf w g e L f' := by
  unfold Vf
  have : (List.range L).map f' = (List.range L).map f := List.map_congr_left (fun i hi => (he i (by simpa using hi)).symm)
  rw [this]
  exact h

theorem Vf.setCells {g : Nat} {e : TypeId} {L : Nat} : ∀ (vs : List Value) (o : Nat) (w : World) (f : Nat → Value), Vf w g e L f → ∃ f', Vf (w.setCells g o vs) g e L f' ∧ (∀ i, i < o → f' i = f i) ∧ Kept [g] w (w.setCells g o vs)
  | [], o, w, f, h => ⟨f, h, fun _ _ => rfl, Kept.refl _ _⟩
  | v :: r, o, w, f, h => by
    obtain ⟨f', h1, h2, h3⟩ := Vf.setCells r (o + 1) (w.setCell ⟨g, o, none⟩ v) _ (h.set o v)
    refine ⟨f', h1, fun i hi => ?_, ((Kept.refl [g] w).setCell (p := ⟨g, o, none⟩) (.inl (by simp)) v).trans h3⟩
    rw [h2 i (by omega), upv_other _ _ (by omega)]

/-! ### rows that the call owns -/
/-- v is a slice of the call's own that holds xs. -/
def Lst (w : World) (H : Nat) (e : TypeId) (v : Value) (xs : List Value) : Prop := w.ownsRow H e 1 v xs.length xs

theorem Lst.fn {w : World} {H : Nat} {e : TypeId} {v : Value} {xs : List Value} (h : Lst w H e v xs) :
    (v = .slice none 0 0 ∧ xs = []) ∨ ∃ g cap f, v = .slice (some ⟨g, 0, none⟩) xs.length cap ∧ H ≤ g ∧ xs.length ≤ cap ∧ cap ≤ maxLen ∧ Vf w g e cap f ∧ ∀ j, j < xs.length → xs[j]? = some (f j) := by
  rcases h.2 with ⟨h1, h2⟩ | ⟨g, cap, cur, hv, hb, hg, hn, hc, hs, ht⟩
  · exact .inl ⟨h1, List.eq_nil_of_length_eq_zero h2⟩
  · refine .inr ⟨g, cap, fun i => cur[i]?.getD (.pointer none), hv, hb, hn, hc, ?_, ?_⟩
    · unfold Vf Blk
      rw [hg]
      congr 2
      apply Array.ext
      · simp [hs]
      · intro i h1 h2
        simp [h1]
    · intro j hj
      have e : (cur.toList.take (xs.length * 1))[j]? = xs[j]? := by rw [ht]
      rw [← e, Nat.mul_one, List.getElem?_take, if_pos hj, Array.getElem?_toList]
      have : j < cur.size := by omega
      simp [this]

theorem Lst.mk {w : World} {H : Nat} {e : TypeId} {g cap n : Nat} {f : Nat → Value} {xs : List Value} (hH : H ≤ g) (hn : xs.length = n) (hc : n ≤ cap) (hm : cap ≤ maxLen) (hf : Vf w g e cap f) (hx : ∀ j, j < n → xs[j]? = some (f j)) : Lst w H e (.slice (some ⟨g, 0, none⟩) n cap) xs := by
  subst hn
  refine ⟨by simp, .inr ⟨g, cap, ((List.range cap).map f).toArray, rfl, hH, hf, hc, hm, by simp, ?_⟩⟩
  apply List.ext_getElem?
  intro j
  by_cases hj : j < xs.length
  · rw [hx j hj, Nat.mul_one, List.getElem?_take, if_pos hj]
    have : j < cap := by omega
    simp [this]
  · rw [List.getElem?_take, if_neg (by omega), List.getElem?_eq_none (by omega)]

theorem Lst.nil (w : World) (H : Nat) (e : TypeId) : Lst w H e (.slice none 0 0) [] := ⟨rfl, .inl ⟨rfl, rfl⟩⟩

theorem Lst.kept {w w' : World} {H : Nat} {e : TypeId} {v : Value} {xs : List Value} (h : Lst w H e v xs) {S : List Nat} (hk : Kept S w w') (hS : ∀ j, v.ownBlock = some j → j ∉ S) : Lst w' H e v xs := by
  rcases h.2 with ⟨h1, h2⟩ | ⟨g, cap, cur, hv, hb, hg, hn, hc, hs, ht⟩
  · exact ⟨h.1, .inl ⟨h1, h2⟩⟩
  · refine ⟨h.1, .inr ⟨g, cap, cur, hv, hb, ?_, hn, hc, hs, ht⟩⟩
    rw [hk.block g (lt_of_block hg) (hS g (by rw [hv]; rfl))]
    exact hg

theorem Lst.shape {w : World} {H : Nat} {e : TypeId} {v : Value} {xs : List Value} (h : Lst w H e v xs) : ∃ a c, v = .slice a xs.length c := own_shape h

theorem Lst.type {w : World} {H : Nat} {e : TypeId} {v : Value} {xs : List Value} (h : Lst w H e v xs) {j : Nat} (hj : v.ownBlock = some j) : ∃ cs, Blk w j e cs ∧ H ≤ j := by
  rcases h.fn with ⟨h1, h2⟩ | ⟨g, cap, f, hv, hb, _, _, hf, _⟩
  · rw [h1] at hj; simp [Value.ownBlock] at hj
  · rw [hv] at hj
    simp only [Value.ownBlock, Option.some.injEq] at hj
    subst hj
    exact ⟨_, hf, hb⟩

theorem Lst.below {w w' : World} {H B : Nat} {e : TypeId} {v : Value} {xs : List Value} (h : Lst w H e v xs) (hb : Below B w w') (hB : w.heap.size ≤ B) : Lst w' H e v xs := by
  rcases h.2 with ⟨h1, h2⟩ | ⟨g, cap, cur, hv, hbb, hg, hn, hc, hs, ht⟩
  · exact ⟨h.1, .inl ⟨h1, h2⟩⟩
  · refine ⟨h.1, .inr ⟨g, cap, cur, hv, hbb, ?_, hn, hc, hs, ht⟩⟩
    rw [hb.block g (Nat.lt_of_lt_of_le (lt_of_block hg) hB)]
    exact hg

def cnt (p : Nat → Bool) : Nat → Nat
  | 0 => 0
  | m + 1 => cnt p m + (if p m = true then 1 else 0)

theorem cnt_le (p : Nat → Bool) (m : Nat) : cnt p m ≤ m := by
  induction m with
  | zero => exact Nat.le_refl _
  | succ m ih => unfold cnt; split <;> omega

theorem cnt_mono (p : Nat → Bool) {m m' : Nat} (h : m ≤ m') : cnt p m ≤ cnt p m' := by
  induction m' with
  | zero => have : m = 0 := by omega
            subst this; exact Nat.le_refl _
  | succ m' ih =>
    by_cases e : m = m' + 1
    · subst e; exact Nat.le_refl _
    · have := ih (by omega)
      show _ ≤ cnt p m' + _
      omega

theorem cnt_all {p : Nat → Bool} {m : Nat} (h : ∀ i, i < m → p i = true) : cnt p m = m := by
  induction m with
  | zero => rfl
  | succ m ih =>
    show cnt p m + (if p m = true then 1 else 0) = m + 1
    rw [ih (fun i hi => h i (by omega)), if_pos (h m (by omega))]

theorem cnt_put {p : Nat → Bool} {m : Nat} (h : p m = true) : cnt p (m + 1) = cnt p m + 1 := by
  show cnt p m + (if p m = true then 1 else 0) = _
  rw [if_pos h]
theorem cnt_skip {p : Nat → Bool} {m : Nat} (h : p m = false) : cnt p (m + 1) = cnt p m := by
  show cnt p m + (if p m = true then 1 else 0) = _
  rw [if_neg (by simp [h]), Nat.add_zero]

theorem cnt_find {p : Nat → Bool} {m x : Nat} (h : x < cnt p m) : ∃ i, i < m ∧ p i = true ∧ cnt p i = x := by
  induction m with
  | zero => simp only [cnt] at h; omega
  | succ m ih =>
    cases hp : p m with
    | false =>
      rw [cnt_skip hp] at h
      obtain ⟨i, h1, h2, h3⟩ := ih h
      exact ⟨i, by omega, h2, h3⟩
    | true =>
      rw [cnt_put hp] at h
      by_cases e : x < cnt p m
      · obtain ⟨i, h1, h2, h3⟩ := ih e
        exact ⟨i, by omega, h2, h3⟩
      · exact ⟨m, by omega, hp, by omega⟩

end Go.Proofs.Ybulkbtow
