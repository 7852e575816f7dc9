/-
  slices.symMergeCmpFunc on a block of int32: the whole.
-/
import Derived.Test.YbulkbtlqSymT
namespace Go.Proofs.Ybulkbtlq
open Go.RowKit
set_option linter.unusedVariables false

set_option maxRecDepth 100000 in
set_option maxHeartbeats 8000000 in
theorem sym3 (κ : Int → Int) (g s N c L d a m b : Nat) (pc pd : Addr) (ih : SymOk κ g s N c L pc pd d) (f : Nat → Int) (w : World) (hF : Fn w g L f) (hC : CmpOk κ g pc pd w) (hL : s + N ≤ L) (hd : b - a ≤ d + 1) (h1 : a + 1 < m) (h2 : m + 1 < b) (h3 : b ≤ N) (hN : N ≤ 100000) (hv : Small f (s + a) (s + b)) (hSL : Srt κ f (s + a) (s + m)) (hSR : Srt κ f (s + m) (s + b)) (hsep : Sep f (s + a) (s + m) (s + b)) :
    Calls Yba.prog 30 #[.slice (some ⟨g, s, none⟩) N c, .int .i64 (a : Int), .int .i64 (m : Int), .int .i64 (b : Int), .func (.func 20) #[] #[.pointer (some pc), .pointer (some pd)]] w fun e w' => e = .returned (.tuple #[]) ∧
      ∃ f', Fn w' g L f' ∧ Kept [g] w w' ∧ Srt κ f' (s + a) (s + b) ∧ Same f f' (s + a) (s + b) := by
  have HF := hide hF
  have HC := hide hC
  have HV := hide hv
  have HSL := hide hSL
  have HSR := hide hSR
  have HS := hide hsep
  have IH := hide ih
  have hne1 : ¬ (m : Int) - (a : Int) = 1 := by omega
  have hne2 : ¬ (b : Int) - (m : Int) = 1 := by omega
  obtain ⟨mid, hmid⟩ : ∃ mid, (a + b) / 2 = mid := ⟨_, rfl⟩
  have HMID := hide hmid
  have hm1 : a < mid := by omega
  have hm2 : mid < b := by omega
  have hmidI : ((a : Int) + (b : Int)) / 2 = (mid : Int) := by omega
  have hpI : (mid : Int) + (m : Int) - 1 = ((mid + m - 1 : Nat) : Int) := by omega
  clear hF hC hv hSL hSR hsep ih hmid
  go_enter Yba.func30, Yba.ntmps30
  refine wp_seq_rest fun K hK => ?_
  go_wp2
  refine wp_seq_rest fun K hK => ?_
  go_wp2
  refine wp_seq_rest fun K hK => ?_
  go_wp2
  refine wp_seq_rest fun K hK => ?_
  go_wp2
  refine wp_seq_rest fun K hK => ?_
  go_wp2
  refine wp_seq_rest fun K hK => ?_
  by_cases hc : mid < m
  · have hcI : (mid : Int) < (m : Int) := by omega
    have e1 : (mid : Int) + (m : Int) - (b : Int) = ((mid + m - b : Nat) : Int) := by have := HMID.out; omega
    go_wp2
    refine wp_seq_rest fun K hK => ?_
    go_wp2
    exact tailS _ _ _ _ _ _ _ _ _ _ _ _ _ _ _ _ _ _ _ _ _ _ _ _ _ _ _ _ _ _ _ _ _ _ _ _ _ _ _ _ _ _ _ _ _ _ _ _ _ _ _ _ _ _ _ _ _ _ _ _ _ _ _ _ _ _ _ _ _ _ _ _ _ _ _ _ _ _ _ _ _ _ _ _ _ _ _ _ _ _ _ _ _ _ _ _ _ _ _ _ _ _ _ _ _ _ _ _ _ _ _ _ _ _ _ _ _ _ _ _ _ _ _ _ _ _ _ _ _ _ _ _ _ _ _ _ _ _ _ _ _ _ _ _ _ _ _ _ _ _ _ _ _ _ _ _ _ _ _ _ _ _ _ _ _ _ _ _ _ _ _ _ _ _ _ _ _ _ _ _ _ _ _ _ _ _ _ _ _ _ _ _ _ _ _ _ _ _ _ _ _ _ _ _ _ _ _ _ _ _ κ g s N c L d a m b mid (mid + m - b) mid pc pd f w _ _ rfl IH.out HF.out HC.out hL hN hd (by omega) (by omega) hm1 hm2 h3 HMID.out (.inl ⟨hc, rfl, rfl⟩) HV.out HSL.out HSR.out HS.out (fun f3 w3 q1 q2 q3 q4 => ⟨rfl, f3, q1, q2, q4, q3⟩)
  · have hcI : ¬ (mid : Int) < (m : Int) := by omega
    go_wp2
    refine wp_seq_rest fun K hK => ?_
    go_wp2
    exact tailS _ _ _ _ _ _ _ _ _ _ _ _ _ _ _ _ _ _ _ _ _ _ _ _ _ _ _ _ _ _ _ _ _ _ _ _ _ _ _ _ _ _ _ _ _ _ _ _ _ _ _ _ _ _ _ _ _ _ _ _ _ _ _ _ _ _ _ _ _ _ _ _ _ _ _ _ _ _ _ _ _ _ _ _ _ _ _ _ _ _ _ _ _ _ _ _ _ _ _ _ _ _ _ _ _ _ _ _ _ _ _ _ _ _ _ _ _ _ _ _ _ _ _ _ _ _ _ _ _ _ _ _ _ _ _ _ _ _ _ _ _ _ _ _ _ _ _ _ _ _ _ _ _ _ _ _ _ _ _ _ _ _ _ _ _ _ _ _ _ _ _ _ _ _ _ _ _ _ _ _ _ _ _ _ _ _ _ _ _ _ _ _ _ _ _ _ _ _ _ _ _ _ _ _ _ _ _ _ _ _ κ g s N c L d a m b mid a m pc pd f w _ _ rfl IH.out HF.out HC.out hL hN hd (by omega) (by omega) hm1 hm2 h3 HMID.out (.inr ⟨by omega, rfl, rfl⟩) HV.out HSL.out HSR.out HS.out (fun f3 w3 q1 q2 q3 q4 => ⟨rfl, f3, q1, q2, q4, q3⟩)

/-- symMerge merges two sorted rows. -/
theorem sym_any (κ : Int → Int) (g s N c L : Nat) (pc pd : Addr) (hL : s + N ≤ L) (hN : N ≤ 100000) : ∀ d, SymOk κ g s N c L pc pd d := by
  intro d
  induction d with
  | zero => intro a m b f w h1 h2 h3; omega
  | succ d ih =>
    intro a m b f w hd h1 h2 h3 hF hC hv hSL hSR hsep
    by_cases e1 : m = a + 1
    · subst e1
      exact sym1 κ g s N c L a b pc pd f w hF hC hL h2 h3 hN hv hSR hsep
    · by_cases e2 : b = m + 1
      · subst e2
        exact sym2 κ g s N c L a m pc pd f w hF hC hL (by omega) h3 hN hv hSL hsep
      · exact sym3 κ g s N c L d a m b pc pd ih f w hF hC hL hd (by omega) (by omega) h3 hN hv hSL hSR hsep

end Go.Proofs.Ybulkbtlq
