/-
  slices.symMergeCmpFunc on a block of int32: one value on the left.
-/
import Derived.Test.YbulkbtlqIns
namespace Go.Proofs.Ybulkbtlq
open Go.RowKit
set_option linter.unusedVariables false

/-- The keys of [A, B) lie under v; do not lie under v. -/
def LoK (κ : Int → Int) (f : Nat → Int) (A B : Nat) (v : Int) : Prop := ∀ k, A ≤ k → k < B → κ (f k) < v
def HiK (κ : Int → Int) (f : Nat → Int) (A B : Nat) (v : Int) : Prop := ∀ k, A ≤ k → k < B → ¬ κ (f k) < v

theorem sym1_done {κ : Int → Int} {f : Nat → Int} {A I B : Nat} (hI : A + 1 ≤ I) (hIB : I ≤ B) (h2 : Srt κ f (A + 1) B) (hsep : Sep f A (A + 1) B) (lo : ∀ k, A + 1 ≤ k → k < I → κ (f k) < κ (f A)) (hi : ∀ k, I ≤ k → k < B → ¬ κ (f k) < κ (f A)) :
    Srt κ (mvR f A (I - 1)) A B ∧ Same f (mvR f A (I - 1)) A B := by
  constructor
  · refine ins_right h2 (by omega) (by omega) ?_ ?_
    · intro k hk hk'
      exact .inl (lo k (by omega) (by omega))
    · intro k hk hk'
      have h3 := hi k (by omega) hk'
      have h4 := hsep A k (Nat.le_refl _) (by omega) (by omega) hk'
      unfold Lt
      omega
  · exact (same_mvR f A (I - 1) (by omega)).mono (Nat.le_refl _) (by omega)

set_option maxRecDepth 100000 in
set_option maxHeartbeats 4000000 in
theorem sym1 (κ : Int → Int) (g s N c L a b : Nat) (pc pd : Addr) (f : Nat → Int) (w : World) (hF : Fn w g L f) (hC : CmpOk κ g pc pd w) (hL : s + N ≤ L) (h2 : a + 1 < b) (h3 : b ≤ N) (hN : N ≤ 100000) (hv : Small f (s + a) (s + b)) (hR : Srt κ f (s + (a + 1)) (s + b)) (hsep : Sep f (s + a) (s + (a + 1)) (s + b)) :
    Calls Yba.prog 30 #[.slice (some ⟨g, s, none⟩) N c, .int .i64 (a : Int), .int .i64 ((a + 1 : Nat) : Int), .int .i64 (b : Int), .func (.func 20) #[] #[.pointer (some pc), .pointer (some pd)]] w fun e w' => e = .returned (.tuple #[]) ∧
      ∃ f', Fn w' g L f' ∧ Kept [g] w w' ∧ Srt κ f' (s + a) (s + b) ∧ Same f f' (s + a) (s + b) := by
  have HF := hide hF
  have HC := hide hC
  have HV := hide hv
  have HR := hide hR
  have HS := hide hsep
  clear hF hC hv hR hsep
  go_enter Yba.func30, Yba.ntmps30
  go_wp2
  go_loopw [10, 11] (fun t1 t2 wr => ∃ (i j : Nat), (i ≤ j ∧ a + 1 ≤ i ∧ j ≤ b) ∧ t1 = .int .i64 (i : Int) ∧ t2 = .int .i64 (j : Int) ∧ Fn wr g L f ∧ Kept [g] w wr ∧ LoK κ f (s + (a + 1)) (s + i) (κ (f (s + a))) ∧ HiK κ f (s + j) (s + b) (κ (f (s + a)))) (fun t1 t2 _ => (intOf t2).toNat - (intOf t1).toNat)
  case atStart => exact ⟨a + 1, b, ⟨by omega, Nat.le_refl _, Nat.le_refl _⟩, by go_num, rfl, HF.out, Kept.refl _ _, fun k h1 h2 => by omega, fun k h1 h2 => by omega⟩
  case round =>
    clear HF
    obtain ⟨i, j, ⟨hij, hi, hj⟩, rfl, rfl, hFr, hKr, hlo, hhi⟩ := hrel
    have HF := hide hFr
    have HKr := hide hKr
    clear hFr hKr
    have HLO := hide hlo
    have HHI := hide hhi
    clear hlo hhi
    by_cases hlt : i < j
    · have hltI : (i : Int) < (j : Int) := by omega
      obtain ⟨h, hh⟩ : ∃ h : Nat, (i + j) / 2 = h := ⟨_, rfl⟩
      have hh1 : i ≤ h := by omega
      have hh2 : h < j := by omega
      have hhI : ((i : Int) + (j : Int)) / 2 = (h : Int) := by omega
      clear hh
      have ch := HF.out.at (i := s + h) (by omega)
      have ca := HF.out.at (i := s + a) (by omega)
      have ih : (h : Int) < (N : Int) := by omega
      have ia : (a : Int) < (N : Int) := by omega
      have HCQ := hide (fun m => HC.out _ (HKr.out.drewN m) (f (s + h)) (f (s + a)) (HV.out _ (by omega) (by omega)).1 (HV.out _ (by omega) (by omega)).2 (HV.out _ (by omega) (by omega)).1 (HV.out _ (by omega) (by omega)).2)
      by_cases hx : κ (f (s + h)) < κ (f (s + a))
      · have hcv : cmpv (κ (f (s + h))) (κ (f (s + a))) < 0 := (cmpv_lt _ _).2 hx
        have HLO2 : Hid (LoK κ f (s + (a + 1)) (s + (h + 1)) (κ (f (s + a)))) := by
          intro k hk hk'
          have := HR.out.key (i := k) (j := s + h) hk (by omega) (by omega)
          omega
        clear hx HLO
        go_wp2
        go_quiet (first | (go_at_call 20; exact Calls.quiet_of (HCQ.out _)))
        clear HCQ ch ca hcv
        go_wp2
        go_roundw
        case rel => exact ⟨h + 1, j, ⟨by omega, by omega, by omega⟩, by go_num, rfl, HF.out.drewN _, HKr.out.drewN _, HLO2.out, HHI.out⟩
        case measure => simp [intOf]; omega
      · have hcv : decide (cmpv (κ (f (s + h))) (κ (f (s + a))) < 0) = false := by
          simp only [decide_eq_false_iff_not]
          intro h
          exact hx ((cmpv_lt _ _).1 h)
        have HHI2 : Hid (HiK κ f (s + h) (s + b) (κ (f (s + a)))) := by
          intro k hk hk'
          have := HR.out.key (i := s + h) (j := k) (by omega) hk hk'
          omega
        clear hx HHI
        go_wp2
        go_quiet (first | (go_at_call 20; exact Calls.quiet_of (HCQ.out _)))
        clear HCQ ch ca hcv
        go_wp2
        go_roundw
        case rel => exact ⟨i, h, ⟨by omega, by omega, by omega⟩, rfl, by go_num, HF.out.drewN _, HKr.out.drewN _, HLO.out, HHI2.out⟩
        case measure => simp [intOf]; omega
    · obtain rfl : i = j := by omega
      obtain ⟨hd1, hd2⟩ := sym1_done (κ := κ) (f := f) (A := s + a) (I := s + i) (B := s + b) (by omega) (by omega) HR.out HS.out HLO.out HHI.out
      have HD1 := hide hd1
      have HD2 := hide hd2
      clear HLO HHI HC HV HR HS hd1 hd2
      obtain ⟨q, rfl⟩ : ∃ q, i = q + 1 := ⟨i - 1, by omega⟩
      go_wp2
      go_loopw [13] (fun t wx => ∃ k : Nat, a ≤ k ∧ k ≤ q ∧ t = .int .i64 (k : Int) ∧ Fn wx g L (mvR f (s + a) (s + k)) ∧ Kept [g] w wx) (fun t _ => q - (intOf t).toNat)
      case atStart => exact ⟨a, Nat.le_refl _, by omega, rfl, HF.out.congr (mvR_self _ _).symm, HKr.out⟩
      case round =>
        clear HF
        obtain ⟨k, hak, hkq, rfl, hFk, hKk⟩ := hrel
        have HFk := hide hFk
        have HKk := hide hKk
        clear hFk hKk
        by_cases hlt2 : k < q
        · have hltI : (k : Int) < (q : Int) := by omega
          have ck := HFk.out.at (i := s + k) (by omega)
          have ck1 := HFk.out.at (i := s + (k + 1)) (by omega)
          have zk := HFk.out.free (s + k)
          have zk1 := HFk.out.free (s + (k + 1))
          have ik : (k : Int) < (N : Int) := by omega
          have ik1 : (k : Int) + 1 < (N : Int) := by omega
          have nk1 : (0 : Int) ≤ (k : Int) + 1 := by omega
          have tk1 : ((k : Int) + 1).toNat = k + 1 := by omega
          generalize hu : mvR f (s + a) (s + k) (s + k) = u at ck
          generalize hu' : mvR f (s + a) (s + k) (s + (k + 1)) = u' at ck1
          have HSW : Hid (Fn (((wr.setCell ⟨g, s + k, none⟩ (.int .i32 u')).setCell ⟨g, s + (k + 1), none⟩ (.int .i32 u)).drew) g L (mvR f (s + a) (s + (k + 1)))) :=
            ((HFk.out.set (s + k) u').set (s + (k + 1)) u).congr (by rw [← hu, ← hu']; exact mvR_succ f (s + a) (s + k) (by omega))
          have HKW := hide (((HKk.out.setCell (p := ⟨g, s + k, none⟩) (.inl (by simp)) (.int .i32 u')).setCell (p := ⟨g, s + (k + 1), none⟩) (.inl (by simp)) (.int .i32 u)).drew)
          clear hu hu' HFk HKk
          go_wp2
          go_region
          clear ck ck1 zk zk1
          go_wp2
          go_roundw
          case rel => exact ⟨k + 1, by omega, by omega, by go_num, HSW.out, HKW.out⟩
          case measure => simp [intOf]; omega
        · obtain rfl : q = k := by omega
          have e : s + (q + 1) - 1 = s + q := by omega
          have HD1' : Hid (Srt κ (mvR f (s + a) (s + q)) (s + a) (s + b)) := e ▸ HD1.out
          have HD2' : Hid (Same f (mvR f (s + a) (s + q)) (s + a) (s + b)) := e ▸ HD2.out
          clear e HD1 HD2
          go_wp2
          (try simp only [Exit.inBlock, Exit.then])
          refine bodyPost_ret (results_none rfl _ _ _) rfl ?_
          exact ⟨rfl, _, HFk.out, HKk.out, HD1'.out, HD2'.out⟩

end Go.Proofs.Ybulkbtlq
