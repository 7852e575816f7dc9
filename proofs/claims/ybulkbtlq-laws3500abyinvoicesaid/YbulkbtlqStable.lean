/-
  slices.stableCmpFunc and slices.SortStableFunc on a block of int32.
-/
import Derived.Test.YbulkbtlqSym
import Derived.Test.YbulkbtlqRuns
namespace Go.Proofs.Ybulkbtlq
open Go.RowKit
set_option linter.unusedVariables false

/-- Up to q in sorted runs of 20, behind it as it came: ascending. -/
structure Insd (κ : Int → Int) (f : Nat → Int) (s n q : Nat) : Prop where
  lo : Runs κ f s q 20
  hi : ∀ i j, q ≤ i → i < j → j < n → f (s + i) < f (s + j)
  x : ∀ i j, i < q → q ≤ j → j < n → f (s + i) < f (s + j)

theorem Insd.start {κ : Int → Int} {f : Nat → Int} {s n : Nat} (h : ∀ k l, s ≤ k → k < l → l < s + n → f k < f l) : Insd κ f s n 0 := ⟨fun i j h1 h2 => by omega, fun i j _ h1 h2 => h _ _ (by omega) (by omega) (by omega), fun i j h1 => by omega⟩

theorem Insd.next {κ : Int → Int} {f f' : Nat → Int} {s n q t e : Nat} (h : Insd κ f s n q) (hq : q = t * 20) (hqe : q ≤ e) (he : e ≤ q + 20) (hen : e ≤ n) (hS : Srt κ f' (s + q) (s + e)) (hM : Same f f' (s + q) (s + e)) : Insd κ f' s n e := by
  have out : ∀ i, i < q ∨ e ≤ i → f' (s + i) = f (s + i) := fun i hi => hM.2.2 (s + i) (by omega)
  have inn : ∀ i, q ≤ i → i < e → ∃ j, q ≤ j ∧ j < e ∧ f' (s + i) = f (s + j) := by
    intro i hi hi'
    obtain ⟨j, h1, h2, h3⟩ := hM.1 (s + i) (by omega) (by omega)
    exact ⟨j - s, by omega, by omega, by rw [h3]; congr 1; omega⟩
  refine ⟨?_, ?_, ?_⟩
  · intro i j hij hj
    by_cases cj : j < q
    · rw [out i (.inl (by omega)), out j (.inl cj)]
      exact h.lo i j hij cj
    · by_cases ci : i < q
      · refine ⟨fun he => by omega, fun _ => ?_⟩
        obtain ⟨k, k1, k2, k3⟩ := inn j (by omega) hj
        rw [out i (.inl ci), k3]
        exact h.x i k ci k1 (by omega)
      · exact ⟨fun _ => hS _ _ (by omega) (by omega) (by omega), fun h => by omega⟩
  · intro i j hi hij hj
    rw [out i (.inr hi), out j (.inr (by omega))]
    exact h.hi i j (by omega) hij hj
  · intro i j hi hj hj'
    rw [out j (.inr hj)]
    by_cases ci : i < q
    · rw [out i (.inl ci)]
      exact h.x i j ci (by omega) hj'
    · obtain ⟨k, k1, k2, k3⟩ := inn i (by omega) hi
      rw [k3]
      exact h.hi k j k1 (by omega) hj'

set_option maxRecDepth 100000 in
theorem ins_zero (d : Value) (a : Nat) (F : Value) (w : World) (ha : a ≤ 100000) : Calls Yba.prog 29 #[d, .int .i64 (a : Int), .int .i64 (a : Int), F] w fun e w' => e = .returned (.tuple #[]) ∧ w' = w := by
  have h : ¬ (a : Int) + 1 < (a : Int) := by omega
  go_enter Yba.func29, Yba.ntmps29
  go_wp2
  refine wp_loop_rounds 1 ?_
  rw [rounds_succ]
  go_wp2
  go_end0
  exact ⟨rfl, rfl⟩

/-- insertion sort of [a, b), a ≤ b. -/
theorem ins_le (κ : Int → Int) (g s N c L a b : Nat) (pc pd : Addr) (f : Nat → Int) (w : World) (hF : Fn w g L f) (hC : CmpOk κ g pc pd w) (hL : s + N ≤ L) (h1 : a ≤ b) (h3 : b ≤ N) (hN : N ≤ 100000) (hv : Small f (s + a) (s + b)) (hasc : ∀ k l, s + a ≤ k → k < l → l < s + b → f k < f l) :
    Calls Yba.prog 29 #[.slice (some ⟨g, s, none⟩) N c, .int .i64 (a : Int), .int .i64 (b : Int), .func (.func 20) #[] #[.pointer (some pc), .pointer (some pd)]] w fun e w' => e = .returned (.tuple #[]) ∧
      ∃ f', Fn w' g L f' ∧ Kept [g] w w' ∧ Srt κ f' (s + a) (s + b) ∧ Same f f' (s + a) (s + b) := by
  by_cases e : a = b
  · subst e
    refine (ins_zero _ a _ w (by omega)).mono ?_
    rintro e w' ⟨rfl, rfl⟩
    exact ⟨rfl, f, hF, Kept.refl _ _, fun i j h1 h2 h3 => by omega, Same.refl _ _ _⟩
  · exact ins_any κ g s N c L a b pc pd f w hF hC hL (by omega) h3 hN hv hasc

theorem Small.sub {f : Nat → Int} {a b a' b' : Nat} (h : Small f a b) (ha : a ≤ a') (hb : b' ≤ b) : Small f a' b' := fun i hi hi' => h i (by omega) (by omega)

set_option maxRecDepth 100000 in
set_option maxHeartbeats 4000000 in
theorem stable_any (κ : Int → Int) (g s n c L : Nat) (pc pd : Addr) (f : Nat → Int) (w : World) (hF : Fn w g L f) (hC : CmpOk κ g pc pd w) (hL : s + n ≤ L) (hN : n ≤ 100000) (hv : Small f s (s + n)) (hasc : ∀ k l, s ≤ k → k < l → l < s + n → f k < f l) :
    Calls Yba.prog 25 #[.slice (some ⟨g, s, none⟩) n c, .int .i64 (n : Int), .func (.func 20) #[] #[.pointer (some pc), .pointer (some pd)]] w fun e w' => e = .returned (.tuple #[]) ∧
      ∃ f', Fn w' g L f' ∧ Kept [g] w w' ∧ Srt κ f' s (s + n) ∧ Same f f' s (s + n) := by
  have HF := hide hF
  have HC := hide hC
  have HV := hide hv
  have HI := hide (Insd.start (κ := κ) hasc)
  clear hF hC hv hasc
  go_enter Yba.func25, Yba.ntmps25
  go_wp2
  go_loopw [7, 8] (fun t1 t2 wr => ∃ (q t : Nat) (f' : Nat → Int), q = t * 20 ∧ q ≤ n ∧ t1 = .int .i64 (q : Int) ∧ t2 = .int .i64 ((q + 20 : Nat) : Int) ∧ Fn wr g L f' ∧ Kept [g] w wr ∧ Insd κ f' s n q ∧ Same f f' s (s + n)) (fun t1 t2 _ => n - (intOf t1).toNat)
  case atStart => exact ⟨0, 0, f, rfl, Nat.zero_le _, rfl, by go_num, HF.out, Kept.refl _ _, HI.out, Same.refl _ _ _⟩
  case round =>
    clear HF HI
    obtain ⟨q, t, f1, hq, hqn, rfl, rfl, hF1, hK1, hI1, hM1⟩ := hrel
    have HQ := hide hq
    have HV1 := hide (HV.out.same hM1 (Nat.le_refl _) (Nat.le_refl _))
    have HC1 := hide (HC.out.kept hK1)
    have HF1 := hide hF1
    have HK1 := hide hK1
    have HI1 := hide hI1
    have HM1 := hide hM1
    clear hq hF1 hK1 hI1 hM1
    by_cases hlt : q + 20 ≤ n
    · have hltI : (q : Int) + 20 ≤ (n : Int) := by omega
      have HCALL := hide (ins_le κ g s n c L q (q + 20) pc pd f1 wr HF1.out HC1.out hL (by omega) hlt hN (HV1.out.sub (by omega) (by omega)) (fun k l h1 h2 h3 => by
        have := HI1.out.hi (k - s) (l - s) (by omega) (by omega) (by omega)
        rwa [show s + (k - s) = k by omega, show s + (l - s) = l by omega] at this))
      go_wp2_with fail
      refine HCALL.out.mono ?_
      rintro x w2 ⟨rfl, f2, hF2, hK2, hS2, hM2⟩
      have HF2 := hide hF2
      have HK2 := hide (HK1.out.trans hK2)
      have HI2 := hide (HI1.out.next HQ.out (by omega) (Nat.le_refl _) hlt hS2 hM2)
      have HM2 := hide (HM1.out.trans (hM2.mono (show s ≤ s + q by omega) (show s + (q + 20) ≤ s + n by omega)))
      clear hF2 hK2 hS2 hM2 HF1 HK1 HI1 HM1 HCALL HV1 HC1
      go_wp2
      go_roundw
      case rel => exact ⟨q + 20, t + 1, f2, by have := HQ.out; omega, hlt, by go_num, by go_num, HF2.out, HK2.out, HI2.out, HM2.out⟩
      case measure => simp [intOf]; omega
    · have hltI : ¬ (q : Int) + 20 ≤ (n : Int) := by omega
      have HCALL := hide (ins_le κ g s n c L q n pc pd f1 wr HF1.out HC1.out hL hqn (Nat.le_refl _) hN (HV1.out.sub (by omega) (by omega)) (fun k l h1 h2 h3 => by
        have := HI1.out.hi (k - s) (l - s) (by omega) (by omega) (by omega)
        rwa [show s + (k - s) = k by omega, show s + (l - s) = l by omega] at this))
      go_wp2_with fail
      refine HCALL.out.mono ?_
      rintro x w2 ⟨rfl, f2, hF2, hK2, hS2, hM2⟩
      have HF2 := hide hF2
      have HK2 := hide (HK1.out.trans hK2)
      have HR2 := hide (HI1.out.next HQ.out hqn (by omega) (Nat.le_refl _) hS2 hM2).lo
      have HM2 := hide (HM1.out.trans (hM2.mono (show s ≤ s + q by omega) (show s + n ≤ s + n by omega)))
      clear hF2 hK2 hS2 hM2 HF1 HK1 HI1 HM1 HCALL HV1 HC1 HQ
      go_wp2
      go_loopw [6] (fun t1 wx => ∃ (bs : Nat) (f' : Nat → Int), 0 < bs ∧ bs ≤ 200000 ∧ t1 = .int .i64 (bs : Int) ∧ Fn wx g L f' ∧ Kept [g] w wx ∧ Runs κ f' s n bs ∧ Same f f' s (s + n)) (fun t1 _ => n - (intOf t1).toNat)
      case atStart => exact ⟨20, f2, by omega, by omega, rfl, HF2.out, HK2.out, HR2.out, HM2.out⟩
      case round =>
        clear HF2 HK2 HR2 HM2
        obtain ⟨bs, f3, hbs, hbs2, rfl, hF3, hK3, hR3, hM3⟩ := hrel
        have HF3 := hide hF3
        have HK3 := hide hK3
        have HR3 := hide hR3
        have HM3 := hide hM3
        clear hF3 hK3 hR3 hM3
        by_cases hbn : bs < n
        · have hbnI : (bs : Int) < (n : Int) := by omega
          go_wp2
          go_loopw [7, 8] (fun t1 t2 wy => ∃ (q t : Nat) (f' : Nat → Int), q = t * (2 * bs) ∧ q ≤ n ∧ t1 = .int .i64 (q : Int) ∧ t2 = .int .i64 ((q + 2 * bs : Nat) : Int) ∧ Fn wy g L f' ∧ Kept [g] w wy ∧ Half κ f' s n bs q ∧ Same f f' s (s + n)) (fun t1 t2 _ => n - (intOf t1).toNat)
          case atStart => exact ⟨0, 0, f3, by omega, Nat.zero_le _, rfl, by go_num, HF3.out, HK3.out, Half.start HR3.out, HM3.out⟩
          case round =>
            clear HF3 HK3 HR3 HM3
            obtain ⟨q, t, f4, hq, hqn, rfl, rfl, hF4, hK4, hH4, hM4⟩ := hrel
            have HQ := hide hq
            have HV4 := hide (HV.out.same hM4 (Nat.le_refl _) (Nat.le_refl _))
            have HC4 := hide (HC.out.kept hK4)
            have HF4 := hide hF4
            have HK4 := hide hK4
            have HH4 := hide hH4
            have HM4 := hide hM4
            clear hq hF4 hK4 hH4 hM4
            by_cases hlt2 : q + 2 * bs ≤ n
            · have hltI2 : (q : Int) + 2 * (bs : Int) ≤ (n : Int) := by omega
              obtain ⟨r1, r2, r3⟩ := HH4.out.ready hbs HQ.out (Nat.le_refl _) hlt2 (by omega)
              have HCALL := hide (sym_any κ g s n c L pc pd hL hN _ q (q + bs) (q + 2 * bs) f4 wr (Nat.le_refl _) (by omega) (by omega) hlt2 HF4.out HC4.out (HV4.out.sub (by omega) (by omega)) r1 r2 r3)
              clear r1 r2 r3
              go_wp2_with fail
              refine HCALL.out.mono ?_
              rintro x w5 ⟨rfl, f5, hF5, hK5, hS5, hM5⟩
              have HF5 := hide hF5
              have HK5 := hide (HK4.out.trans hK5)
              have HH5 := hide (HH4.out.next hbs HQ.out (by omega) (Nat.le_refl _) hlt2 (.inl rfl) hS5 hM5)
              have HM5 := hide (HM4.out.trans (hM5.mono (show s ≤ s + q by omega) (show s + (q + 2 * bs) ≤ s + n by omega)))
              clear hF5 hK5 hS5 hM5 HF4 HK4 HH4 HM4 HCALL HV4 HC4
              go_wp2
              go_roundw
              case rel => exact ⟨q + 2 * bs, t + 1, f5, by rw [HQ.out]; exact (Nat.succ_mul _ _).symm, hlt2, by go_num, by go_num, HF5.out, HK5.out, HH5.out, HM5.out⟩
              case measure => simp [intOf]; omega
            · have hltI2 : ¬ (q : Int) + 2 * (bs : Int) ≤ (n : Int) := by omega
              by_cases hm : q + bs < n
              · have hmI : (q : Int) + (bs : Int) < (n : Int) := by omega
                obtain ⟨r1, r2, r3⟩ := HH4.out.ready hbs HQ.out (show n ≤ q + 2 * bs by omega) (Nat.le_refl _) (by omega)
                have HCALL := hide (sym_any κ g s n c L pc pd hL hN _ q (q + bs) n f4 wr (Nat.le_refl _) (by omega) hm (Nat.le_refl _) HF4.out HC4.out (HV4.out.sub (by omega) (Nat.le_refl _)) r1 r2 r3)
                clear r1 r2 r3
                go_wp2_with fail
                refine HCALL.out.mono ?_
                rintro x w5 ⟨rfl, f5, hF5, hK5, hS5, hM5⟩
                have HF5 := hide hF5
                have HK5 := hide (HK4.out.trans hK5)
                have HR5 := hide (HH4.out.next hbs HQ.out (by omega) (by omega) (Nat.le_refl _) (.inr rfl) hS5 hM5).full
                have HM5 := hide (HM4.out.trans (hM5.mono (show s ≤ s + q by omega) (Nat.le_refl _)))
                clear hF5 hK5 hS5 hM5 HF4 HK4 HH4 HM4 HCALL HV4 HC4
                go_wp2
                exact ⟨⟨2 * bs, f5, by omega, by omega, by go_num, HF5.out, HK5.out, HR5.out, HM5.out⟩, by simp [intOf]; omega⟩
              · have hmI : ¬ (q : Int) + (bs : Int) < (n : Int) := by omega
                have HR5 := hide (HH4.out.done hbs HQ.out hqn (by omega))
                clear HH4 HV4 HC4
                go_wp2
                exact ⟨⟨2 * bs, f4, by omega, by omega, by go_num, HF4.out, HK4.out, HR5.out, HM4.out⟩, by simp [intOf]; omega⟩
        · have hbnI : ¬ (bs : Int) < (n : Int) := by omega
          have HD := hide (HR3.out.done (by omega))
          clear HR3
          go_wp2
          go_end0
          exact ⟨rfl, f3, HF3.out, HK3.out, HD.out, HM3.out⟩

set_option maxRecDepth 100000 in
/-- slices.SortStableFunc: the row sorted, the same values, nothing else turned. -/
theorem sort_any (κ : Int → Int) (g s n c L : Nat) (pc pd : Addr) (f : Nat → Int) (w : World) (hF : Fn w g L f) (hC : CmpOk κ g pc pd w) (hL : s + n ≤ L) (hN : n ≤ 100000) (hv : Small f s (s + n)) (hasc : ∀ k l, s ≤ k → k < l → l < s + n → f k < f l) :
    Calls Yba.prog 19 #[.slice (some ⟨g, s, none⟩) n c, .func (.func 20) #[] #[.pointer (some pc), .pointer (some pd)]] w fun e w' => e = .returned (.tuple #[]) ∧
      ∃ f', Fn w' g L f' ∧ Kept [g] w w' ∧ Srt κ f' s (s + n) ∧ Same f f' s (s + n) := by
  have HCALL := hide (stable_any κ g s n c L pc pd f w hF hC hL hN hv hasc)
  clear hF hC hv hasc
  go_enter Yba.func19, Yba.ntmps19
  go_wp2_with fail
  refine HCALL.out.mono ?_
  rintro x w1 ⟨rfl, h⟩
  have H := hide h
  clear h HCALL
  go_wp2
  go_end0
  exact ⟨rfl, H.out⟩

end Go.Proofs.Ybulkbtlq
