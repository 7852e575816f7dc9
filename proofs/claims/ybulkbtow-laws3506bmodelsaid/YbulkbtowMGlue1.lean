/-
  BModel: the tails put together over the built heap
-/
import Derived.Test.YbulkbtowMSys
import Derived.Test.YbulkbtowMT6
import Derived.Test.YbulkbtowMT4
namespace Go.Proofs.Ybulkbtow
open Go.RowKit
set_option linter.unusedVariables false

section
variable {nb : Nat} {B gr : Nat → Nat} {bv : Nat → Value} {cb : Nat → Nat → Nat} {bt : Nat} {tcs : List Value} {gcs : List Nat} {gc L n : Nat} {f : Nat → Value} {p : Nat → Int} {tg na nx : Int} {k0 j0 : Nat} {x y f0 : Int} {L0 : Nat} {fr : Nat → Value} {z : Nat} {rep : Bool} {W w' : World}

/-- What 'failed' does not touch. -/
theorem FPost.keeps (h : FPost nb B gr bv cb bt tcs gcs gc L n f p tg na nx k0 j0 x y f0 L0 fr z rep W w') {g : Nat} {e : TypeId} {cs : List Value} (hb : Blk W g e cs) (h1 : g ≠ bt) (h2 : g ∉ gcs) (h3 : k0 < nb → g ≠ cb k0 j0) (h4 : k0 < nb → rep = true → g ≠ B k0 ∧ g ≠ gr k0) : Blk w' g e cs := by
  obtain ⟨cv', _, _, h | h | h⟩ := h
  · exact h.2.2.blk hb (by simp; exact ⟨h1, h2⟩)
  · exact h.2.2.1.blk hb (by simp; exact ⟨h1, h3 h.1, h2⟩)
  · exact h.2.2.1.blk hb (by simp; exact ⟨h1, h3 h.1, (h4 h.1 h.2.1).1, (h4 h.1 h.2.1).2, h2⟩)

theorem FPost.belowH (h : FPost nb B gr bv cb bt tcs gcs gc L n f p tg na nx k0 j0 x y f0 L0 fr z rep W w') {H : Nat} (hW : H ≤ W.heap.size) (h1 : H ≤ bt) (h2 : ∀ g ∈ gcs, H ≤ g) (h3 : k0 < nb → H ≤ cb k0 j0) (h4 : k0 < nb → H ≤ B k0 ∧ H ≤ gr k0) : Below H W w' := by
  obtain ⟨cv', _, _, h | h | h⟩ := h
  · refine h.2.2.toBelow hW ?_
    intro k hk
    simp only [List.mem_cons] at hk
    rcases hk with rfl | hk
    · exact h1
    · exact h2 k hk
  · refine h.2.2.1.toBelow hW ?_
    intro k hk
    simp only [List.mem_cons] at hk
    rcases hk with rfl | rfl | hk
    · exact h1
    · exact h3 h.1
    · exact h2 k hk
  · refine h.2.2.1.toBelow hW ?_
    intro k hk
    simp only [List.mem_cons] at hk
    rcases hk with rfl | rfl | rfl | rfl | hk
    · exact h1
    · exact h3 h.1
    · exact (h4 h.1).1
    · exact (h4 h.1).2
    · exact h2 k hk
end

theorem blk_cell {w w' : World} {g i : Nat} {e : TypeId} {cs : List Value} (h : Blk w g e cs) (h' : Blk w' g e cs) : w'.cell? ⟨g, i, none⟩ = w.cell? ⟨g, i, none⟩ := by rw [h.at, h'.at]

/-- A row read anew where its block is as it was. -/
theorem Lst.again {w w' : World} {H : Nat} {e : TypeId} {v : Value} {xs : List Value} (h : Lst w H e v xs) (hk : ∀ g cs, v.ownBlock = some g → Blk w g e cs → Blk w' g e cs) : Lst w' H e v xs := by
  rcases h.2 with ⟨h1, h2⟩ | ⟨g, cap, cur, hv, hb, hg, hn, hc, hs, ht⟩
  · exact ⟨h.1, .inl ⟨h1, h2⟩⟩
  · have := hk g cur.toList (by rw [hv]; rfl) (by unfold Blk; rw [hg])
    exact ⟨h.1, .inr ⟨g, cap, cur, hv, hb, by unfold Blk at this; simpa using this, hn, hc, hs, ht⟩⟩

/-- The buckets as they are left, read at the end. -/
theorem Sys.ends {D : Dat} {H gt ct : Nat} {tcs : List Value} {rv : Nat → Value} {pv fv cv wv : Value} {W w1 : World} (h : Sys D H gt ct tcs rv pv fv cv wv W) {gcs : List Nat} {gc L : Nat} {f : Nat → Value} {k0 j0 : Nat} {x y f0 : Int} {L0 : Nat} {fr : Nat → Value} {rep : Bool}
    (hF : FPost D.nb D.B (fun k => gblk (rv k)) rv D.cb D.bt tcs gcs gc L D.nc f D.cd D.tg D.na D.nx k0 j0 x y f0 L0 fr (D.Z k0) rep W w1)
    (hg : Alien W gcs [57, 60, 58, 66, 43, 29, 64, 56, 25, 3, 54]) (hj : k0 < D.nb → j0 < D.len k0) (hfr : k0 < D.nb → ∀ j, j < D.len k0 → fr j = ptr (D.cb k0 j)) (hL : k0 < D.nb → D.len k0 ≤ L0) :
    Ends D.nb D.bt gt ct D.bo D.bs D.bn D.B D.len rv (fun k => rv (D.nb + k)) (fun k => if rep = true ∧ k = k0 then .pointer none else D.spv k) D.spv (fun k => if rep = true ∧ k = k0 then D.na else 0) (fun k => if rep = true ∧ k = k0 then D.nx else 0) D.cb (fun k j => if rep = true ∧ k = k0 ∧ j = j0 then D.Z k0 else D.cb k j) D.na D.nx w1 := by
  have hcon : k0 < D.nb → Blk W (D.cb k0 j0) 66 _ := fun hk => h.con _ (D.idx_lt (hj hk))
  have hrow : k0 < D.nb → ∃ cs, Blk W (gblk (rv k0)) 58 cs := fun hk => by
    rcases (h.rc k0 hk).fn with ⟨h1, h2⟩ | ⟨g, cap, f, hv, _, _, _, hf, _⟩
    · have e : D.len k0 = 0 := by rw [← D.xs_len, h2]; rfl
      have := hj hk
      omega
    · rw [gblk_of hv]; exact ⟨_, hf⟩
  have hgb : k0 < D.nb → (rv k0).ownBlock = some (gblk (rv k0)) := fun hk => by
    rcases (h.rc k0 hk).fn with ⟨h1, h2⟩ | ⟨g, cap, f, hv, _, _, _, hf, _⟩
    · have e : D.len k0 = 0 := by rw [← D.xs_len, h2]; rfl
      have := hj hk
      omega
    · rw [gblk_of hv, hv]; rfl
  -- a block of a type that nothing touches
  have keep : ∀ (g : Nat) (e : TypeId) (cs : List Value), Blk W g e cs → (e = 57 ∨ e = 56 ∨ e = 29 ∨ e = 43 ∨ e = 25 ∨ e = 3) → Blk w1 g e cs := by
    intro g e cs hb he
    refine hF.keeps hb (hb.ne h.tb (by rcases he with rfl | rfl | rfl | rfl | rfl | rfl <;> decide)) (hg.out hb (by rcases he with rfl | rfl | rfl | rfl | rfl | rfl <;> simp)) (fun hk => hb.ne (hcon hk) (by rcases he with rfl | rfl | rfl | rfl | rfl | rfl <;> decide)) (fun hk _ => ⟨hb.ne (h.bk k0 hk) (by rcases he with rfl | rfl | rfl | rfl | rfl | rfl <;> decide), ?_⟩)
    obtain ⟨cs', hr⟩ := hrow hk
    exact hb.ne hr (by rcases he with rfl | rfl | rfl | rfl | rfl | rfl <;> decide)
  have keep58 : ∀ (g : Nat) (cs : List Value), Blk W g 58 cs → (k0 < D.nb → rep = true → g ≠ gblk (rv k0)) → Blk w1 g 58 cs := by
    intro g cs hb hne
    exact hF.keeps hb (hb.ne h.tb (by decide)) (hg.out hb (by simp)) (fun hk => hb.ne (hcon hk) (by decide)) (fun hk hr => ⟨hb.ne (h.bk k0 hk) (by decide), hne hk hr⟩)
  have keep60 : ∀ k, k < D.nb → ¬ (rep = true ∧ k = k0) → Blk w1 (D.B k) 60 [rv k, D.spv k, .pointer none, .int .u64 0, .int .i64 0, .pointer none] := by
    intro k hk hne
    have hb := h.bk k hk
    refine hF.keeps hb (hb.ne h.tb (by decide)) (hg.out hb (by simp)) (fun hk' => hb.ne (hcon hk') (by decide)) (fun hk' hr => ⟨fun e => hne ⟨hr, h.bi k k0 hk hk' e⟩, ?_⟩)
    obtain ⟨cs', hr'⟩ := hrow hk'
    exact hb.ne hr' (by decide)
  have turn60 : ∀ k, k < D.nb → rep = true → k = k0 → Blk w1 (D.B k) 60 [rv k, .pointer none, .pointer none, .int .u64 D.na, .int .i64 D.nx, .pointer none] := by
    intro k hk hr e
    subst e
    obtain ⟨cv', _, _, h1 | h1 | h1⟩ := hF
    · rw [hr] at h1; exact absurd h1.2.1 (by decide)
    · rw [hr] at h1; exact absurd h1.2.1 (by decide)
    · exact h1.2.2.2.2.1
  have hbt1 : ∃ cv', Blk w1 D.bt 54 (tcs.set 34 cv') := by obtain ⟨cv', hb, _⟩ := hF; exact ⟨cv', hb⟩
  obtain ⟨cv', hbt1⟩ := hbt1
  obtain ⟨tcs', htt⟩ := h.tt
  refine ⟨?_, fun k hk => ?_, fun k hk => ?_, fun k hk => ?_, fun k hk => ?_, fun k hk => ?_, fun k hk => ?_, fun k hk => ?_, fun k hk => ?_, ?_, ?_, ?_, fun k hk => ?_, fun k hk => ?_⟩
  · rw [hbt1.at 29, List.getElem?_set_ne (by decide)]; exact h.t29
  · rw [blk_cell htt (keep gt 57 _ htt (by simp))]; exact h.tc k hk
  · by_cases hr : rep = true ∧ k = k0
    · exact (turn60 k hk hr.1 hr.2).at 0
    · exact (keep60 k hk hr).at 0
  · by_cases hr : rep = true ∧ k = k0
    · rw [if_pos hr]; exact (turn60 k hk hr.1 hr.2).at 1
    · rw [if_neg hr]; exact (keep60 k hk hr).at 1
  · by_cases hr : rep = true ∧ k = k0
    · rw [if_pos hr]; exact (turn60 k hk hr.1 hr.2).at 3
    · rw [if_neg hr]; exact (keep60 k hk hr).at 3
  · by_cases hr : rep = true ∧ k = k0
    · rw [if_pos hr]; exact (turn60 k hk hr.1 hr.2).at 4
    · rw [if_neg hr]; exact (keep60 k hk hr).at 4
  · by_cases hr : rep = true ∧ k = k0
    · exact (turn60 k hk hr.1 hr.2).at 5
    · exact (keep60 k hk hr).at 5
  · rw [blk_cell h.og (keep D.bo 56 _ h.og (by simp))]; exact h.og.at hk
  · rw [blk_cell h.sp (keep58 D.bs _ h.sp (fun hk' _ e => (h.d1 k0 hk' _ (hgb hk')).1 e.symm))]; exact h.sp.at hk
  · exact (keep D.bn 29 _ h.bn (by simp)).at 0
  · exact (keep D.bn 29 _ h.bn (by simp)).at 1
  · exact (keep D.bn 29 _ h.bn (by simp)).at 2
  · by_cases hr : rep = true ∧ k = k0
    · obtain ⟨hr1, rfl⟩ := hr
      obtain ⟨cv', _, _, h1 | h1 | h1⟩ := hF
      · rw [hr1] at h1; exact absurd h1.2.1 (by decide)
      · rw [hr1] at h1; exact absurd h1.2.1 (by decide)
      · have hv := h1.2.2.2.2.2
        rcases (h.rc k hk).fn with ⟨e1, e2⟩ | ⟨g, cap, f', hv', _, _, _, _, _⟩
        · have e : D.len k = 0 := by rw [← D.xs_len, e2]; rfl
          have := hj hk
          omega
        · rw [D.xs_len] at hv'
          have eg := gblk_of hv'
          refine ⟨_, _, hv', fun _ => ⟨g, rfl, fun j hj' => ?_⟩⟩
          have := hL hk
          simp only [eg] at hv
          rw [hv.at (by omega)]
          by_cases ej : j = j0
          · rw [ej, upv_same]; simp [hr1]
          · rw [upv_other _ _ ej, hfr hk j hj']; simp [ej]
    · have hR : Lst w1 H 58 (rv k) (D.xs k) := (h.rc k hk).again (fun g cs hg' hb => keep58 g cs hb (fun hk' hr' e => by
        have hkk : k ≠ k0 := fun e' => hr ⟨hr', e'⟩
        exact ((h.d1 k0 hk' _ (hgb hk')).2.2 k hk).2 hkk (by rw [hg', e])))
      refine hR.rowv (D.xs_len k) (fun j hj' => ?_)
      rw [D.xs_at hj', if_neg (fun h => hr ⟨h.1, h.2.1⟩)]
  · have hR : Lst w1 H 58 (rv (D.nb + k)) (D.xs k) := (h.ro k hk).again (fun g cs hg' hb => keep58 g cs hb (fun hk' hr' e => ((h.d1 k0 hk' _ (hgb hk')).2.2 k hk).1 (by rw [hg', e])))
    exact hR.rowv (D.xs_len k) (fun j hj' => D.xs_at hj')

end Go.Proofs.Ybulkbtow
