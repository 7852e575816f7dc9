/-
  slices.insertionSortCmpFunc on a block of int32.
-/
import Derived.Test.YbulkbtlqSwap
import Derived.Test.YbulkbtlqCmp
namespace Go.Proofs.Ybulkbtlq
open Go.RowKit
set_option linter.unusedVariables false

/-- The comparing function answers by the keys κ, in every world that differs from w in block g alone. -/
def CmpOk (κ : Int → Int) (g : Nat) (pc pd : Addr) (w : World) : Prop := ∀ w', Kept [g] w w' → ∀ x y : Int, 0 ≤ x → x ≤ 100000 → 0 ≤ y → y ≤ 100000 →
  Calls Yba.prog 20 #[.int .i32 x, .int .i32 y, .pointer (some pc), .pointer (some pd)] w' fun e w'' => e = .returned (.int .i64 (cmpv (κ x) (κ y))) ∧ ∃ n, w'' = w'.drewN n

theorem CmpOk.kept {κ : Int → Int} {g : Nat} {pc pd : Addr} {w w1 : World} (h : CmpOk κ g pc pd w) (hk : Kept [g] w w1) : CmpOk κ g pc pd w1 := fun w' h' => h w' (hk.trans h')

/-- The values of [a, b) are small. -/
def Small (f : Nat → Int) (a b : Nat) : Prop := ∀ i, a ≤ i → i < b → 0 ≤ f i ∧ f i ≤ 100000

theorem Small.same {f f' : Nat → Int} {a b a' b' : Nat} (h : Small f a b) (hs : Same f f' a' b') (ha : a ≤ a') (hb : b' ≤ b) : Small f' a b := by
  intro i hi hi'
  by_cases hc : a' ≤ i ∧ i < b'
  · obtain ⟨j, h1, h2, e⟩ := hs.1 i hc.1 hc.2
    rw [e]
    exact h j (by omega) (by omega)
  · rw [hs.2.2 i (by omega)]
    exact h i hi hi'

theorem cmpv_lt (x y : Int) : cmpv x y < 0 ↔ x < y := by
  unfold cmpv
  by_cases h : x < y
  · simp [h]
  · by_cases h2 : y < x
    · simp [h, h2]
    · simp [h, h2]

/-- One step of the insertion: where the moved value stands at its place the row is sorted. -/
theorem ins_done {κ : Int → Int} {f f' : Nat → Int} {A i j : Nat} (hAi : A < i) (hAj : A ≤ j) (hji : j ≤ i) (hs : Srt κ f' A i) (hm : Same f f' A i) (hasc : ∀ k l, A ≤ k → k < l → l ≤ i → f k < f l)
    (hin : ∀ k, j ≤ k → k < i → Lt κ (f' i) (f' k)) (hstop : j = A ∨ ¬ κ (f' i) < κ (f' (j - 1))) : Srt κ (mvL f' i j) A (i + 1) ∧ Same f (mvL f' i j) A (i + 1) := by
  constructor
  · refine ins_left hs hAj hji ?_ hin
    intro k hk hk'
    have hkey : κ (f' k) ≤ κ (f' i) := by
      rcases hstop with h | h
      · omega
      · have := hs.key (i := k) (j := j - 1) hk (by omega) (by omega)
        omega
    obtain ⟨l, hl1, hl2, e⟩ := hm.1 k hk (by omega)
    have e2 : f' i = f i := hm.2.2 i (by omega)
    have hval : f' k < f' i := by
      rw [e, e2]
      exact hasc l i hl1 hl2 (Nat.le_refl _)
    unfold Lt
    omega
  · exact (hm.mono (Nat.le_refl _) (by omega)).trans ((same_mvL f' i j hji).mono hAj (Nat.le_refl _))

set_option maxRecDepth 100000 in
set_option maxHeartbeats 4000000 in
theorem ins_any (κ : Int → Int) (g s N c L a b : Nat) (pc pd : Addr) (f : Nat → Int) (w : World) (hF : Fn w g L f) (hC : CmpOk κ g pc pd w) (hL : s + N ≤ L) (h1 : a < b) (h3 : b ≤ N) (hN : N ≤ 100000) (hv : Small f (s + a) (s + b)) (hasc : ∀ k l, s + a ≤ k → k < l → l < s + b → f k < f l) :
    Calls Yba.prog 29 #[.slice (some ⟨g, s, none⟩) N c, .int .i64 (a : Int), .int .i64 (b : Int), .func (.func 20) #[] #[.pointer (some pc), .pointer (some pd)]] w fun e w' => e = .returned (.tuple #[]) ∧
      ∃ f', Fn w' g L f' ∧ Kept [g] w w' ∧ Srt κ f' (s + a) (s + b) ∧ Same f f' (s + a) (s + b) := by
  have HF := hide hF
  have HC := hide hC
  have HV := hide hv
  have HA := hide hasc
  clear hF hC hv hasc
  go_enter Yba.func29, Yba.ntmps29
  go_wp2
  go_loopw [8] (fun t wr => ∃ (i : Nat) (f' : Nat → Int), a < i ∧ i ≤ b ∧ t = .int .i64 (i : Int) ∧ Fn wr g L f' ∧ Kept [g] w wr ∧ Srt κ f' (s + a) (s + i) ∧ Same f f' (s + a) (s + i)) (fun t _ => b - (intOf t).toNat)
  case atStart => exact ⟨a + 1, f, by omega, by omega, by go_num, HF.out, Kept.refl _ _, fun i j h1 h2 h3 => by omega, Same.refl _ _ _⟩
  case round =>
    clear HF
    obtain ⟨i, f', hai, hib, rfl, hFi, hK, hS, hM⟩ := hrel
    have HFi := hide hFi
    have HK := hide hK
    have HS := hide hS
    have HM := hide hM
    clear hFi hK hS hM
    by_cases hlt : i < b
    · have hltI : (i : Int) < (b : Int) := by omega
      go_wp2
      go_loopw [9] (fun t wx => ∃ (j : Nat), a ≤ j ∧ j ≤ i ∧ t = .int .i64 (j : Int) ∧ Fn wx g L (mvL f' (s + i) (s + j)) ∧ Kept [g] w wx ∧ ∀ k, s + j ≤ k → k < s + i → Lt κ (f' (s + i)) (f' k)) (fun t _ => (intOf t).toNat)
      case atStart => exact ⟨i, by omega, Nat.le_refl _, rfl, HFi.out.congr (mvL_self _ _).symm, HK.out, fun k h1 h2 => by omega⟩
      case round =>
        obtain ⟨j, haj, hji, rfl, hFj, hKj, hin⟩ := hrel
        have HFj := hide hFj
        have HKj := hide hKj
        have HIN := hide hin
        clear hFj hKj hin
        rcases Nat.eq_or_lt_of_le haj with e | haj'
        · subst e
          have hd : decide ((a : Int) < (a : Int)) = false := by simp
          obtain ⟨hd1, hd2⟩ := ins_done (f := f) (A := s + a) (i := s + i) (j := s + a) (by omega) (Nat.le_refl _) (by omega) HS.out HM.out (fun k l h1 h2 h3 => HA.out k l h1 h2 (by omega)) HIN.out (.inl rfl)
          have HD1 := hide hd1
          have HD2 := hide hd2
          clear HFi HK HS HM HIN hd1 hd2
          go_wp2
          go_quiet (fail)
          have HFQ := hide (HFj.out.drewN nq)
          have HKQ := hide (HKj.out.drewN nq)
          clear HFj HKj
          go_wp2
          go_roundw
          case rel => exact ⟨i + 1, _, by omega, by omega, by go_num, HFQ.out, HKQ.out, HD1.out, HD2.out⟩
          case measure => simp [intOf]; omega
        · obtain ⟨q, rfl⟩ : ∃ q, j = q + 1 := ⟨j - 1, by omega⟩
          have hja : (a : Int) < (q : Int) + 1 := by omega
          have cj := HFj.out.at (i := s + (q + 1)) (by omega)
          have cq := HFj.out.at (i := s + q) (by omega)
          have ej : mvL f' (s + i) (s + (q + 1)) (s + (q + 1)) = f' (s + i) := by unfold mvL; rw [if_pos rfl]
          have eq : mvL f' (s + i) (s + (q + 1)) (s + q) = f' (s + q) := by unfold mvL; rw [if_neg (by omega), if_neg (by omega)]
          rw [ej] at cj
          rw [eq] at cq
          have zj := HFj.out.free (s + (q + 1))
          have zq := HFj.out.free (s + q)
          have hv' := HV.out.same (HM.out.mono (Nat.le_refl _) (show s + i ≤ s + b by omega)) (Nat.le_refl _) (Nat.le_refl _)
          have HCQ := hide (fun n => HC.out _ (HKj.out.drewN n) (f' (s + i)) (f' (s + q)) (hv' _ (by omega) (by omega)).1 (hv' _ (by omega) (by omega)).2 (hv' _ (by omega) (by omega)).1 (hv' _ (by omega) (by omega)).2)
          have iq : (q : Int) + 1 < (N : Int) := by omega
          have iq' : (q : Int) < (N : Int) := by omega
          have nq0 : (0 : Int) ≤ (q : Int) + 1 := by omega
          have tq : ((q : Int) + 1).toNat = q + 1 := by omega
          by_cases hx : κ (f' (s + i)) < κ (f' (s + q))
          · have HX := hide hx
            have hcv : cmpv (κ (f' (s + i))) (κ (f' (s + q))) < 0 := (cmpv_lt _ _).2 hx
            have HSW : Hid (∀ n, Fn (((wr.drewN n).setCell ⟨g, s + (q + 1), none⟩ (.int .i32 (f' (s + q)))).setCell ⟨g, s + q, none⟩ (.int .i32 (f' (s + i)))) g L (mvL f' (s + i) (s + q))) := by
              intro n
              exact (((HFj.out.drewN n).set (s + (q + 1)) (f' (s + q))).set (s + q) (f' (s + i))).congr (by
                have h := mvL_pred f' (s + i) (s + q) (by omega)
                rw [show s + q + 1 = s + (q + 1) by omega, ej, eq] at h
                exact h)
            have HKW := hide (fun n => ((HKj.out.drewN n).setCell (p := ⟨g, s + (q + 1), none⟩) (.inl (by simp)) (.int .i32 (f' (s + q)))).setCell (p := ⟨g, s + q, none⟩) (.inl (by simp)) (.int .i32 (f' (s + i))))
            have HIN2 : Hid (∀ k, s + q ≤ k → k < s + i → Lt κ (f' (s + i)) (f' k)) := by
              intro k hk hk'
              by_cases e : k = s + q
              · rw [e]; exact .inl hx
              · exact HIN.out k (by omega) hk'
            clear hv' ej eq HIN HFi HK HS HM hx HX HKj HFj
            go_wp2
            go_quiet (first | (go_at_call 20; exact Calls.quiet_of (HCQ.out _)))
            go_wp2
            go_region
            clear HCQ cj cq zj zq hcv
            go_wp2
            go_roundw
            case rel => exact ⟨q, by omega, by omega, by go_num, HSW.out _, HKW.out _, HIN2.out⟩
            case measure => simp [intOf]
          · obtain ⟨hd1, hd2⟩ := ins_done (f := f) (A := s + a) (i := s + i) (j := s + (q + 1)) (by omega) (by omega) (by omega) HS.out HM.out (fun k l h1 h2 h3 => HA.out k l h1 h2 (by omega)) HIN.out (.inr hx)
            have HD1 := hide hd1
            have HD2 := hide hd2
            have hcv : decide (cmpv (κ (f' (s + i))) (κ (f' (s + q))) < 0) = false := by
              simp only [decide_eq_false_iff_not]
              intro h
              exact hx ((cmpv_lt _ _).1 h)
            clear hv' ej eq HIN HFi HK HS HM hx hd1 hd2
            go_wp2
            go_quiet (first | (go_at_call 20; exact Calls.quiet_of (HCQ.out _)))
            have HFQ := hide (HFj.out.drewN nq)
            have HKQ := hide (HKj.out.drewN nq)
            clear HFj HKj HCQ cj cq zj zq
            go_wp2
            go_roundw
            case rel => exact ⟨i + 1, _, by omega, by omega, by go_num, HFQ.out, HKQ.out, HD1.out, HD2.out⟩
            case measure => simp [intOf]; omega
    · obtain rfl : b = i := by omega
      go_wp2
      go_end0
      exact ⟨rfl, f', HFi.out, HK.out, HS.out, HM.out⟩

end Go.Proofs.Ybulkbtlq
