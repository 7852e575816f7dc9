/-
  BModel: the small functions: zzs3506bap, bad, Time.Add.
-/
import Derived.Test.YbulkbtowRows
import Derived.Test.YbulkbtowHeap
import Derived.BigQuiet
import Derived.Laws.Bits64b
import Derived.Deep.QuietTactic
namespace Go.Proofs.Ybulkbtow
open Go.RowKit
set_option linter.unusedVariables false

/-- The AddrPort of a port, and its cells. -/
def apv (p : Int) : Value := .agg #[.int .u64 0, .int .u64 0, .pointer none, .int .u16 p]

theorem ap_any (p : Int) (w : World) : Calls Yba.prog 7 #[.int .u16 p] w fun e w' => e = .returned (.agg #[.int .u64 0, .int .u64 0, .pointer none, .int .u16 p]) ∧ Below w.heap.size w w' := by
  go_enter Yba.func7, Yba.ntmps7
  go_wp2
  exact bodyPost_ret (v := .agg #[.int .u64 0, .int .u64 0, .pointer none, .int .u16 p]) (by simp [results, Yba.results19, go_sem]) rfl (by
    dsimp only
    go_wp2
    exact bodyPost_ret (v := .agg #[.int .u64 0, .int .u64 0, .pointer none, .int .u16 p]) (by simp [results, Yba.results7, go_sem]) rfl ⟨rfl, (((Below.refl _ _).alloc (Nat.le_refl _) _).alloc (by simp) _).alloc (by simp; omega) _⟩)

theorem bad_any (g : Nat) (f : Int) (w : World) (hc : w.cell? ⟨g, 30, none⟩ = some (.int .i64 f)) : Calls Yba.prog 22 #[.pointer (some ⟨g, 0, none⟩)] w fun e w' => e = .returned (.bool (decide (2 ≤ f))) ∧ w' = w := by
  go_enter Yba.func22, Yba.ntmps22
  go_wp2
  go_ret
  exact ⟨rfl, rfl⟩

theorem and0 : bits .and .u64 0 1073741823 = 0 := by
  have := bits_and_u64_nat 0 1073741823 (by omega) (by omega)
  simpa using this
theorem andhi (N : Nat) (h : N < 1073741824) : bits .and .u64 (N : Int) 9223372036854775808 = 0 := by
  have h1 := bits_and_u64_nat N 9223372036854775808 (by omega) (by omega)
  have e : N &&& 9223372036854775808 = 0 := by
    apply Nat.eq_of_testBit_eq
    intro i
    rw [show (9223372036854775808 : Nat) = 2 ^ 63 by decide, Nat.testBit_and, Nat.testBit_two_pow]
    by_cases hi : 63 = i
    · subst hi
      rw [Nat.testBit_lt_two_pow (Nat.lt_of_lt_of_le h (by decide))]
      simp
    · simp [hi]
  rw [e] at h1
  exact h1
theorem or0 (N : Nat) (h : N < 1073741824) : bits .or .u64 0 (N : Int) = (N : Int) := by
  have := bits_or_u64_nat 0 N (by omega) (by omega)
  simpa using this
theorem andn0 : bits .andNot .u64 0 1073741823 = 0 := by decide

set_option maxRecDepth 100000 in
theorem nsec_zero (g : Nat) (w : World) (hc : w.cell? ⟨g, 0, none⟩ = some (.int .u64 0)) : Calls Yba.prog 16 #[.pointer (some ⟨g, 0, none⟩)] w fun e w' => e = .returned (.int .i32 0) ∧ w' = w := by
  have h0 := and0
  go_enter Yba.func16, Yba.ntmps16
  go_wp2
  go_ret
  exact ⟨rfl, rfl⟩

set_option maxRecDepth 100000 in
theorem addSec_any (g N : Nat) (d : Int) (w : World) (hN : N < 1073741824) (hd : -9223372036854775808 ≤ d ∧ d ≤ 9223372036854775807) (hc : w.cell? ⟨g, 0, none⟩ = some (.int .u64 (N : Int))) (hc1 : w.cell? ⟨g, 1, none⟩ = some (.int .i64 0)) (hf : w.frozen? ⟨g, 1, none⟩ = false) :
    Calls Yba.prog 17 #[.pointer (some ⟨g, 0, none⟩), .int .i64 d] w fun e w' => e = .returned (.tuple #[]) ∧ w' = w.setCell ⟨g, 1, none⟩ (.int .i64 d) := by
  have h0 := andhi N hN
  have hw : IntKind.i64.wrap d = d := by rw [IntKind.wrap_i64]; omega
  go_enter Yba.func17, Yba.ntmps17
  go_wp2
  go_end0
  exact ⟨rfl, rfl⟩

set_option maxRecDepth 100000 in
theorem add_any (d : Int) (w : World) (hd : -9223372036854775808 ≤ d ∧ d ≤ 9223372036854775807) :
    Calls Yba.prog 6 #[.agg #[.int .u64 0, .int .i64 0, .pointer none], .int .i64 d] w fun e w' => (∃ a b, e = .returned (.agg #[.int .u64 a, .int .i64 b, .pointer none])) ∧ Below w.heap.size w w' := by
  have HN := hide (fun g w h => nsec_zero g w h)
  have HA := hide (fun g N d w h1 h2 h3 h4 h5 => addSec_any g N d w h1 h2 h3 h4 h5)
  have h1 := andn0
  obtain ⟨r, hr⟩ : ∃ r, d.tmod 1000000000 = r := ⟨_, rfl⟩
  obtain ⟨q, hq⟩ : ∃ q, d.tdiv 1000000000 = q := ⟨_, rfl⟩
  have hb1 : -1000000000 < r ∧ r < 1000000000 := by
    rw [← hr]
    have := Int.tmod_lt_of_pos d (show (0 : Int) < 1000000000 by decide)
    have := Int.lt_tmod_of_pos d (show (0 : Int) < 1000000000 by decide)
    omega
  have hb2 : -9223372037 ≤ q ∧ q ≤ 9223372037 := by
    have := Int.mul_tdiv_add_tmod d 1000000000
    omega
  have w1 : wrap32 r = r := by unfold wrap32; omega
  by_cases hneg : r < 0
  · obtain ⟨N, hN⟩ : ∃ N : Nat, r + 1000000000 = (N : Int) := ⟨(r + 1000000000).toNat, by omega⟩
    have w2 : wrap32 (N : Int) = (N : Int) := by unfold wrap32; omega
    have h2 := or0 N (by omega)
    have h3 := andhi N (by omega)
    go_enter Yba.func6, Yba.ntmps6
    go_wp2_with fail
    refine (HN.out _ _ (by simp)).mono ?_
    rintro e w1 ⟨rfl, rfl⟩
    go_wp2_with fail
    refine (HA.out _ N (q - 1) _ (by omega) (by omega) (by simp) (by simp) (by simp)).mono ?_
    rintro e w2 ⟨rfl, rfl⟩
    clear HA HN
    go_wp2
    exact bodyPost_ret (v := .agg #[.int .u64 (N : Int), .int .i64 (q - 1), .pointer none]) (by simp [results, Yba.results6, go_sem]) rfl ⟨⟨_, _, rfl⟩, ((Below.refl _ _).alloc (Nat.le_refl _) _).alloc (by simp) _⟩
  · obtain ⟨N, hN0⟩ : ∃ N : Nat, r = (N : Int) := ⟨r.toNat, by omega⟩
    have HN0 := hide hN0
    have h2 : bits .or .u64 0 r = r := by rw [hN0]; exact or0 N (by omega)
    have h3 : bits .and .u64 r 9223372036854775808 = 0 := by rw [hN0]; exact andhi N (by omega)
    clear hN0
    go_enter Yba.func6, Yba.ntmps6
    go_wp2_with fail
    refine (HN.out _ _ (by simp)).mono ?_
    rintro e w1 ⟨rfl, rfl⟩
    go_wp2_with fail
    refine (HA.out _ N q _ (by have := HN0.out; omega) (by omega) (by simp [HN0.out]) (by simp) (by simp)).mono ?_
    rintro e w2 ⟨rfl, rfl⟩
    clear HA HN
    go_wp2
    exact bodyPost_ret (v := .agg #[.int .u64 r, .int .i64 q, .pointer none]) (by simp [results, Yba.results6, go_sem]) rfl ⟨⟨_, _, rfl⟩, ((Below.refl _ _).alloc (Nat.le_refl _) _).alloc (by simp) _⟩

end Go.Proofs.Ybulkbtow
