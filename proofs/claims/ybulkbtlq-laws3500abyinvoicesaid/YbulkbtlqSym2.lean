/-
  slices.symMergeCmpFunc on a block of int32: one value on the right.
-/
import Derived.Test.YbulkbtlqSym1
namespace Go.Proofs.Ybulkbtlq
open Go.RowKit
set_option linter.unusedVariables false

/-- v does not lie under the keys of [A, B); lies under them. -/
def LoG (κ : Int → Int) (f : Nat → Int) (A B : Nat) (v : Int) : Prop := ∀ k, A ≤ k → k < B → ¬ v < κ (f k)
def HiG (κ : Int → Int) (f : Nat → Int) (A B : Nat) (v : Int) : Prop := ∀ k, A ≤ k → k < B → v < κ (f k)

theorem sym2_done {κ : Int → Int} {f : Nat → Int} {A I M : Nat} (hI : A ≤ I) (hIM : I ≤ M) (h2 : Srt κ f A M) (hsep : Sep f A M (M + 1)) (lo : LoG κ f A I (κ (f M))) (hi : HiG κ f I M (κ (f M))) :
    Srt κ (mvL f M I) A (M + 1) ∧ Same f (mvL f M I) A (M + 1) := by
  constructor
  · refine ins_left h2 hI hIM ?_ ?_
    · intro k hk hk'
      have h3 := lo k hk hk'
      have h4 := hsep k M hk (by omega) (Nat.le_refl _) (by omega)
      unfold Lt
      omega
    · intro k hk hk'
      exact .inl (hi k hk hk')
  · exact (same_mvL f M I hIM).mono hI (Nat.le_refl _)

set_option maxRecDepth 100000 in
set_option maxHeartbeats 4000000 in
theorem sym2 (κ : Int → Int) (g s N c L a m : Nat) (pc pd : Addr) (f : Nat → Int) (w : World) (hF : Fn w g L f) (hC : CmpOk κ g pc pd w) (hL : s + N ≤ L) (h2 : a + 1 < m) (h3 : m + 1 ≤ N) (hN : N ≤ 100000) (hv : Small f (s + a) (s + (m + 1))) (hR : Srt κ f (s + a) (s + m)) (hsep : Sep f (s + a) (s + m) (s + (m + 1))) :
    Calls Yba.prog 30 #[.slice (some ⟨g, s, none⟩) N c, .int .i64 (a : Int), .int .i64 (m : Int), .int .i64 ((m + 1 : Nat) : Int), .func (.func 20) #[] #[.pointer (some pc), .pointer (some pd)]] w fun e w' => e = .returned (.tuple #[]) ∧
      ∃ f', Fn w' g L f' ∧ Kept [g] w w' ∧ Srt κ f' (s + a) (s + (m + 1)) ∧ Same f f' (s + a) (s + (m + 1)) := by
  have HF := hide hF
  have HC := hide hC
  have HV := hide hv
  have HR := hide hR
  have HS := hide hsep
  have hne : ¬ (m : Int) - (a : Int) = 1 := by omega
  clear hF hC hv hR hsep
  go_enter Yba.func30, Yba.ntmps30
  go_wp2
  go_loopw [14, 15] (fun t1 t2 wr => ∃ (i j : Nat), (i ≤ j ∧ a ≤ i ∧ j ≤ m) ∧ t1 = .int .i64 (i : Int) ∧ t2 = .int .i64 (j : Int) ∧ Fn wr g L f ∧ Kept [g] w wr ∧ LoG κ f (s + a) (s + i) (κ (f (s + m))) ∧ HiG κ f (s + j) (s + m) (κ (f (s + m)))) (fun t1 t2 _ => (intOf t2).toNat - (intOf t1).toNat)
  case atStart => exact ⟨a, m, ⟨by omega, Nat.le_refl _, Nat.le_refl _⟩, rfl, rfl, HF.out, Kept.refl _ _, fun k h1 h2 => by omega, fun k h1 h2 => by omega⟩
  case round =>
    clear HF
    obtain ⟨i, j, ⟨hij, hi, hj⟩, rfl, rfl, hFr, hKr, hlo, hhi⟩ := hrel
    have HF := hide hFr
    have HKr := hide hKr
    clear hFr hKr
    have HLO := hide hlo
    have HHI := hide hhi
    clear hlo hhi
    by_cases hlt : i < j
    · have hltI : (i : Int) < (j : Int) := by omega
      obtain ⟨h, hh⟩ : ∃ h : Nat, (i + j) / 2 = h := ⟨_, rfl⟩
      have hh1 : i ≤ h := by omega
      have hh2 : h < j := by omega
      have hhI : ((i : Int) + (j : Int)) / 2 = (h : Int) := by omega
      clear hh
      have ch := HF.out.at (i := s + h) (by omega)
      have cm := HF.out.at (i := s + m) (by omega)
      have ih : (h : Int) < (N : Int) := by omega
      have im : (m : Int) < (N : Int) := by omega
      have HCQ := hide (fun n => HC.out _ (HKr.out.drewN n) (f (s + m)) (f (s + h)) (HV.out _ (by omega) (by omega)).1 (HV.out _ (by omega) (by omega)).2 (HV.out _ (by omega) (by omega)).1 (HV.out _ (by omega) (by omega)).2)
      by_cases hx : κ (f (s + m)) < κ (f (s + h))
      · have hcv : cmpv (κ (f (s + m))) (κ (f (s + h))) < 0 := (cmpv_lt _ _).2 hx
        have HHI2 : Hid (HiG κ f (s + h) (s + m) (κ (f (s + m)))) := by
          intro k hk hk'
          have := HR.out.key (i := s + h) (j := k) (by omega) hk hk'
          omega
        clear hx HHI
        go_wp2
        go_quiet (first | (go_at_call 20; exact Calls.quiet_of (HCQ.out _)))
        clear HCQ ch cm hcv
        go_wp2
        go_roundw
        case rel => exact ⟨i, h, ⟨by omega, by omega, by omega⟩, rfl, by go_num, HF.out.drewN _, HKr.out.drewN _, HLO.out, HHI2.out⟩
        case measure => simp [intOf]; omega
      · have hcv : decide (cmpv (κ (f (s + m))) (κ (f (s + h))) < 0) = false := by
          simp only [decide_eq_false_iff_not]
          intro h
          exact hx ((cmpv_lt _ _).1 h)
        have HLO2 : Hid (LoG κ f (s + a) (s + (h + 1)) (κ (f (s + m)))) := by
          intro k hk hk'
          have := HR.out.key (i := k) (j := s + h) hk (by omega) (by omega)
          omega
        clear hx HLO
        go_wp2
        go_quiet (first | (go_at_call 20; exact Calls.quiet_of (HCQ.out _)))
        clear HCQ ch cm hcv
        go_wp2
        go_roundw
        case rel => exact ⟨h + 1, j, ⟨by omega, by omega, by omega⟩, by go_num, rfl, HF.out.drewN _, HKr.out.drewN _, HLO2.out, HHI.out⟩
        case measure => simp [intOf]; omega
    · obtain rfl : i = j := by omega
      obtain ⟨hd1, hd2⟩ := sym2_done (κ := κ) (f := f) (A := s + a) (I := s + i) (M := s + m) (by omega) (by omega) HR.out HS.out HLO.out HHI.out
      have HD1 := hide hd1
      have HD2 := hide hd2
      clear HLO HHI HC HV HR HS hd1 hd2
      go_wp2
      go_loopw [17] (fun t wx => ∃ k : Nat, (i ≤ k ∧ k ≤ m) ∧ t = .int .i64 (k : Int) ∧ Fn wx g L (mvL f (s + m) (s + k)) ∧ Kept [g] w wx) (fun t _ => (intOf t).toNat)
      case atStart => exact ⟨m, ⟨by omega, Nat.le_refl _⟩, rfl, HF.out.congr (mvL_self _ _).symm, HKr.out⟩
      case round =>
        obtain ⟨k, ⟨hak, hkq⟩, rfl, hFk, hKk⟩ := hrel
        have HFk := hide hFk
        have HKk := hide hKk
        clear hFk hKk
        by_cases hlt2 : i < k
        · obtain ⟨q, rfl⟩ : ∃ q, k = q + 1 := ⟨k - 1, by omega⟩
          have hltI : (i : Int) < (q : Int) + 1 := by omega
          have ck := HFk.out.at (i := s + q) (by omega)
          have ck1 := HFk.out.at (i := s + (q + 1)) (by omega)
          have zk := HFk.out.free (s + q)
          have zk1 := HFk.out.free (s + (q + 1))
          have ik : (q : Int) < (N : Int) := by omega
          have ik1 : (q : Int) + 1 < (N : Int) := by omega
          have nk1 : (0 : Int) ≤ (q : Int) + 1 := by omega
          have tk1 : ((q : Int) + 1).toNat = q + 1 := by omega
          generalize hu : mvL f (s + m) (s + (q + 1)) (s + q) = u at ck
          generalize hu' : mvL f (s + m) (s + (q + 1)) (s + (q + 1)) = u' at ck1
          have HSW : Hid (Fn (((wr.setCell ⟨g, s + (q + 1), none⟩ (.int .i32 u)).setCell ⟨g, s + q, none⟩ (.int .i32 u')).drew) g L (mvL f (s + m) (s + q))) :=
            ((HFk.out.set (s + (q + 1)) u).set (s + q) u').congr (by rw [← hu, ← hu']; exact mvL_pred f (s + m) (s + q) (by omega))
          have HKW := hide (((HKk.out.setCell (p := ⟨g, s + (q + 1), none⟩) (.inl (by simp)) (.int .i32 u)).setCell (p := ⟨g, s + q, none⟩) (.inl (by simp)) (.int .i32 u')).drew)
          clear hu hu' HFk HKk
          go_wp2
          go_region
          clear ck ck1 zk zk1
          go_wp2
          go_roundw
          case rel => exact ⟨q, ⟨by omega, by omega⟩, by go_num, HSW.out, HKW.out⟩
          case measure => simp [intOf]
        · obtain rfl : i = k := by omega
          go_wp2
          (try simp only [Exit.inBlock, Exit.then])
          refine bodyPost_ret (results_none rfl _ _ _) rfl ?_
          exact ⟨rfl, _, HFk.out, HKk.out, HD1.out, HD2.out⟩

end Go.Proofs.Ybulkbtlq
