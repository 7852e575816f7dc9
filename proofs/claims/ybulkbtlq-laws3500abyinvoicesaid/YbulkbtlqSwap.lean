/-
  slices.swapRangeCmpFunc and slices.rotateCmpFunc on a block of int32.
-/
import Derived.Test.YbulkbtlqFn
import Derived.Deep.QuietTactic
import Derived.BigQuiet
import Derived.BigRegion
import Derived.Deep.DeepCutAuto
namespace Go.Proofs.Ybulkbtlq
open Go.RowKit
set_option linter.unusedVariables false

set_option maxRecDepth 100000 in
set_option maxHeartbeats 2000000 in
theorem swap_any (g s N c L a b n : Nat) (F : Value) (f : Nat → Int) (w : World) (hF : Fn w g L f) (hL : s + N ≤ L) (h1 : a + n ≤ b) (h2 : b + n ≤ N) (hN : N ≤ 100000) :
    Calls Yba.prog 35 #[.slice (some ⟨g, s, none⟩) N c, .int .i64 (a : Int), .int .i64 (b : Int), .int .i64 (n : Int), F] w fun e w' => e = .returned (.tuple #[]) ∧ Fn w' g L (swp f (s + a) (s + b) n) ∧ Kept [g] w w' := by
  have HF := hide hF
  clear hF
  go_enter Yba.func35, Yba.ntmps35
  go_wp2
  go_loopw [10] (fun t wr => ∃ i : Nat, i ≤ n ∧ t = .int .i64 (i : Int) ∧ Fn wr g L (swp f (s + a) (s + b) i) ∧ Kept [g] w wr) (fun t _ => n - (intOf t).toNat)
  case atStart => exact ⟨0, Nat.zero_le _, rfl, HF.out.congr (swp_zero _ _ _).symm, Kept.refl _ _⟩
  case round =>
    clear HF
    obtain ⟨i, hi, rfl, hFi, hK⟩ := hrel
    by_cases hlt : i < n
    · have ca := hFi.at (i := s + (a + i)) (by omega)
      have cb := hFi.at (i := s + (b + i)) (by omega)
      have za := hFi.free (s + (a + i))
      have zb := hFi.free (s + (b + i))
      have na : (0 : Int) ≤ (a : Int) + (i : Int) := by omega
      have nb : (0 : Int) ≤ (b : Int) + (i : Int) := by omega
      have ia : (a : Int) + (i : Int) < (N : Int) := by omega
      have ib : (b : Int) + (i : Int) < (N : Int) := by omega
      have wa : IntKind.i64.wrap ((a : Int) + (i : Int)) = (a : Int) + (i : Int) := by rw [IntKind.wrap_i64]; omega
      have wb : IntKind.i64.wrap ((b : Int) + (i : Int)) = (b : Int) + (i : Int) := by rw [IntKind.wrap_i64]; omega
      have hne1 : ¬ a = b := by omega
      have hne2 : ¬ b = a := by omega
      have ta : ((a : Int) + (i : Int)).toNat = a + i := by omega
      have tb : ((b : Int) + (i : Int)).toNat = b + i := by omega
      have HFi := hide hFi
      have HK := hide hK
      have hltI : (i : Int) < (n : Int) := by omega
      generalize hva : swp f (s + a) (s + b) i (s + (a + i)) = va at ca
      generalize hvb : swp f (s + a) (s + b) i (s + (b + i)) = vb at cb
      have HVA := hide hva
      have HVB := hide hvb
      clear hFi hK hva hvb
      go_wp2
      go_region
      have HR : Hid (Fn (((wr.setCell ⟨g, s + (a + i), none⟩ (.int .i32 vb)).setCell ⟨g, s + (b + i), none⟩ (.int .i32 va)).drew) g L (swp f (s + a) (s + b) (i + 1))) :=
        ((HFi.out.set _ vb).set _ va).congr (by rw [← swp_succ f (s + a) (s + b) n i hlt (by omega), ← HVA.out, ← HVB.out]; simp only [Nat.add_assoc])
      have HKR := hide (((HK.out.setCell (p := ⟨g, s + (a + i), none⟩) (.inl (by simp)) (.int .i32 vb)).setCell (p := ⟨g, s + (b + i), none⟩) (.inl (by simp)) (.int .i32 va)).drew)
      clear ca cb za zb HFi HK HVA HVB
      go_wp2
      go_roundw
      case rel => exact ⟨i + 1, by omega, by go_num, HR.out, HKR.out⟩
      case measure => simp [intOf]; omega
    · obtain rfl : n = i := by omega
      have HFi := hide hFi
      have HK := hide hK
      clear hFi hK
      go_wp2
      go_end0
      exact ⟨rfl, HFi.out, HK.out⟩

set_option maxRecDepth 100000 in
set_option maxHeartbeats 2000000 in
theorem rotate_any (g s N c L a m b : Nat) (F : Value) (f : Nat → Int) (w : World) (hF : Fn w g L f) (hL : s + N ≤ L) (h1 : a < m) (h2 : m < b) (h3 : b ≤ N) (hN : N ≤ 100000) :
    Calls Yba.prog 33 #[.slice (some ⟨g, s, none⟩) N c, .int .i64 (a : Int), .int .i64 (m : Int), .int .i64 (b : Int), F] w fun e w' => e = .returned (.tuple #[]) ∧ Fn w' g L (rot f (s + a) (s + m) (s + b)) ∧ Kept [g] w w' := by
  have HF := hide hF
  clear hF
  have em : (m : Int) - (a : Int) = ((m - a : Nat) : Int) := by omega
  have eb : (b : Int) - (m : Int) = ((b - m : Nat) : Int) := by omega
  go_enter Yba.func33, Yba.ntmps33
  go_wp2
  go_loopw [10, 11] (fun t1 t2 wr => ∃ (i j : Nat) (f' : Nat → Int), 0 < i ∧ 0 < j ∧ i ≤ m ∧ m + j ≤ N ∧ t1 = .int .i64 (i : Int) ∧ t2 = .int .i64 (j : Int) ∧ Fn wr g L f' ∧ Kept [g] w wr ∧ rot f' (s + m - i) (s + m) (s + m + j) = rot f (s + a) (s + m) (s + b)) (fun t1 t2 _ => (intOf t1).toNat + (intOf t2).toNat)
  case atStart => exact ⟨m - a, b - m, f, by omega, by omega, by omega, by omega, by go_num, by go_num, HF.out, Kept.refl _ _, by congr 1 <;> omega⟩
  case round =>
    clear HF
    obtain ⟨i, j, f', hi0, hj0, him, hjm, rfl, rfl, hFi, hK, hrot⟩ := hrel
    have HFi := hide hFi
    have HK := hide hK
    have HR := hide hrot
    clear hFi hK hrot
    rcases Nat.lt_trichotomy i j with hlt | heq | hgt
    · have hd1 : ¬ (i : Int) = (j : Int) := by omega
      have hd2 : ¬ (j : Int) < (i : Int) := by omega
      have e1 : (m : Int) - (i : Int) = ((m - i : Nat) : Int) := by omega
      have e2 : (m : Int) + (j : Int) - (i : Int) = ((m + j - i : Nat) : Int) := by omega
      have HC := hide (fun wx (h : wx = wr) => swap_any g s N c L (m - i) (m + j - i) i F f' wx (h ▸ HFi.out) hL (by omega) (by omega) hN)
      have e3 : (j : Int) - (i : Int) = ((j - i : Nat) : Int) := by omega
      go_wp2_with fail
      refine (HC.out _ rfl).mono ?_
      rintro e w1 ⟨rfl, hF1, hK1⟩
      have HF1 := hide hF1
      have HK1 := hide (HK.out.trans hK1)
      have HR1 : Hid (rot (swp f' (s + (m - i)) (s + (m + j - i)) i) (s + m - i) (s + m) (s + m + (j - i)) = rot f (s + a) (s + m) (s + b)) := by
        show _ = _
        rw [← HR.out, ← rot_right f' (s + m) i j (by omega) hlt hi0]
        congr 2 <;> omega
      clear hF1 hK1 HFi HK HR HC
      go_wp2
      go_roundw
      case rel => exact ⟨i, j - i, _, hi0, by omega, him, by omega, rfl, by go_num, HF1.out, HK1.out, HR1.out⟩
      case measure => simp [intOf]; omega
    · subst heq
      have e1 : (m : Int) - (i : Int) = ((m - i : Nat) : Int) := by omega
      have HC := hide (fun wx (h : wx = wr) => swap_any g s N c L (m - i) m i F f' wx (h ▸ HFi.out) hL (by omega) (by omega) hN)
      go_wp2_with fail
      refine (HC.out _ rfl).mono ?_
      rintro e w1 ⟨rfl, hF1, hK1⟩
      have HK1 := hide (HK.out.trans hK1)
      have HF1 : Hid (Fn w1 g L (rot f (s + a) (s + m) (s + b))) := hF1.congr (by
        rw [← HR.out, ← rot_end f' (s + m) i (by omega)]
        congr 1
        omega)
      clear hF1 hK1 HFi HK HR HC
      go_wp2
      go_end0
      exact ⟨rfl, HF1.out, HK1.out⟩
    · have hd1 : ¬ (i : Int) = (j : Int) := by omega
      have hd2 : (j : Int) < (i : Int) := by omega
      have e1 : (m : Int) - (i : Int) = ((m - i : Nat) : Int) := by omega
      have HC := hide (fun wx (h : wx = wr) => swap_any g s N c L (m - i) m j F f' wx (h ▸ HFi.out) hL (by omega) (by omega) hN)
      have e3 : (i : Int) - (j : Int) = ((i - j : Nat) : Int) := by omega
      go_wp2_with fail
      refine (HC.out _ rfl).mono ?_
      rintro e w1 ⟨rfl, hF1, hK1⟩
      have HF1 := hide hF1
      have HK1 := hide (HK.out.trans hK1)
      have HR1 : Hid (rot (swp f' (s + (m - i)) (s + m) j) (s + m - (i - j)) (s + m) (s + m + j) = rot f (s + a) (s + m) (s + b)) := by
        show _ = _
        rw [← HR.out, ← rot_left f' (s + m) i j (by omega) hgt hj0]
        congr 2 <;> omega
      clear hF1 hK1 HFi HK HR HC
      go_wp2
      go_roundw
      case rel => exact ⟨i - j, j, _, by omega, hj0, by omega, hjm, by go_num, rfl, HF1.out, HK1.out, HR1.out⟩
      case measure => simp [intOf]; omega

end Go.Proofs.Ybulkbtlq
