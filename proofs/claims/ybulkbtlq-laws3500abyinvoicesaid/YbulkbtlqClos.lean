/-
  The closures keepf and invf.
-/
import Derived.Test.YbulkbtlqCmp
namespace Go.Proofs.Ybulkbtlq
open Go.RowKit
set_option linter.unusedVariables false

/-- Whether place k is kept. -/
def kept (kp : Nat → Bool) (len1 k : Nat) : Bool := if k < len1 then kp k else true

set_option maxRecDepth 100000 in
theorem keep_any (pk : Addr) (a1 : Option Addr) (len1 cap1 : Nat) (kp : Nat → Bool) (k : Nat) (w : World) (hp : w.cell? pk = some (.slice a1 len1 cap1)) (hr : Row w a1 len1 (fun i => .bool (kp i))) :
    Calls Yba.prog 8 #[.int .i64 (k : Int), .pointer (some pk)] w fun e w' => e = .returned (.bool (kept kp len1 k)) ∧ w' = w := by
  have h0 : ¬ (k : Int) < 0 := by omega
  unfold kept
  by_cases h1 : k < len1
  · rw [if_pos h1]
    rcases hr with ⟨_, h⟩ | ⟨x, rfl, hc⟩
    · omega
    · have c := hc k h1
      have h2 : (k : Int) < (len1 : Int) := by omega
      have ti : ((k : Int)).toNat = k := by omega
      clear hc
      go_enter Yba.func8, Yba.ntmps8
      go_wp2
      go_ret
      have hd : decide (len1 ≤ k) = false := by simp; omega
      exact ⟨by show Ending.returned (Value.bool (decide (len1 ≤ k) || kp k)) = _; rw [hd, Bool.false_or], rfl⟩
  · rw [if_neg h1]
    have h2 : ¬ (k : Int) < (len1 : Int) := by omega
    clear hr
    go_enter Yba.func8, Yba.ntmps8
    go_wp2
    go_ret
    exact ⟨rfl, rfl⟩

set_option maxRecDepth 100000 in
theorem inv_any (pi pn : Addr) (a0 : Option Addr) (len0 cap0 n : Nat) (iv : Nat → Int) (k : Nat) (w : World) (hk : k < len0) (hn : 0 < n) (hn8 : n ≤ 8) (hp : w.cell? pi = some (.slice a0 len0 cap0)) (hpn : w.cell? pn = some (.int .i64 (n : Int))) (hr : Row w a0 len0 (fun i => .int .u8 (iv i))) (hb : 0 ≤ iv k ∧ iv k ≤ 255) :
    Calls Yba.prog 9 #[.int .i64 (k : Int), .pointer (some pi), .pointer (some pn)] w fun e w' => e = .returned (.int .i64 (iv k % (n : Int))) ∧ ∃ m, w' = w.drewN m := by
  rcases hr with ⟨_, h⟩ | ⟨x, rfl, hc⟩
  · omega
  · have c := hc k hk
    have h2 : (k : Int) < (len0 : Int) := by omega
    have ti : ((k : Int)).toNat = k := by omega
    have wb : IntKind.i64.wrap (iv k) = iv k := by rw [IntKind.wrap_i64]; omega
    have hn0 : ¬ (n : Int) = 0 := by omega
    have hrem : Int.tmod (iv k) (n : Int) = iv k % (n : Int) := Int.tmod_eq_emod_of_nonneg hb.1
    clear hc
    go_enter Yba.func9, Yba.ntmps9
    go_wp2_with fail
    go_quiet (fail)
    go_wp2
    go_ret
    exact ⟨by first | rfl | (rw [hrem]), nq, rfl⟩

end Go.Proofs.Ybulkbtlq
