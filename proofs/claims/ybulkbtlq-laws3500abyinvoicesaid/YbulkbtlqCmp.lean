/-
  The comparing function that the sort is handed, and what it calls.
-/
import Derived.Test.YbulkbtlqFn
import Derived.Test.YbulkbtlqOpen
import Derived.Deep.QuietTactic
import Derived.BigQuiet
import Derived.Deep.DeepCutAuto
namespace Go.Proofs.Ybulkbtlq
open Go.RowKit
set_option linter.unusedVariables false

/-- The key of d: ky at that place where there is one, else 0. -/
def kof (ky : Nat → Int) (len : Nat) (d : Int) : Int := if 0 ≤ d ∧ d < (len : Int) then ky d.toNat else 0
def cmpv (x y : Int) : Int := if x < y then -1 else if y < x then 1 else 0

set_option maxRecDepth 100000 in
theorem isNaN_any (x : Int) (w : World) : Calls Yba.prog 18 #[.int .i64 x] w fun e w' => e = .returned (.bool false) ∧ w' = w := by
  go_enter Yba.func18, Yba.ntmps18
  go_wp2
  go_ret
  exact ⟨rfl, rfl⟩

set_option maxRecDepth 100000 in
theorem compare_any (x y : Int) (w : World) : Calls Yba.prog 11 #[.int .i64 x, .int .i64 y] w fun e w' => e = .returned (.int .i64 (cmpv x y)) ∧ w' = w := by
  have h1 := hide (isNaN_any x w)
  have h2 := hide (isNaN_any y w)
  unfold cmpv
  rcases Int.lt_trichotomy x y with h | h | h
  · rw [if_pos h]
    go_enter Yba.func11, Yba.ntmps11
    go_wp2_with fail
    refine h1.out.mono ?_
    rintro e w1 ⟨rfl, rfl⟩
    go_wp2_with fail
    refine h2.out.mono ?_
    rintro e w2 ⟨rfl, rfl⟩
    go_wp2
    go_ret
    exact ⟨rfl, rfl⟩
  · subst h
    have h' : ¬ x < x := by omega
    rw [if_neg h', if_neg h']
    go_enter Yba.func11, Yba.ntmps11
    go_wp2_with fail
    refine h1.out.mono ?_
    rintro e w1 ⟨rfl, rfl⟩
    go_wp2_with fail
    refine h2.out.mono ?_
    rintro e w2 ⟨rfl, rfl⟩
    go_wp2
    go_ret
    exact ⟨rfl, rfl⟩
  · have h' : ¬ x < y := by omega
    rw [if_neg h', if_pos h]
    go_enter Yba.func11, Yba.ntmps11
    go_wp2_with fail
    refine h1.out.mono ?_
    rintro e w1 ⟨rfl, rfl⟩
    go_wp2_with fail
    refine h2.out.mono ?_
    rintro e w2 ⟨rfl, rfl⟩
    go_wp2
    go_ret
    exact ⟨rfl, rfl⟩

set_option maxRecDepth 100000 in
theorem key_any (a2 : Option Addr) (len2 cap2 : Nat) (ky : Nat → Int) (d : Int) (w : World) (hr : Row w a2 len2 (fun i => .int .i8 (ky i))) (hk : ∀ i, i < len2 → -128 ≤ ky i ∧ ky i ≤ 127) :
    Calls Yba.prog 12 #[.slice a2 len2 cap2, .int .i64 d] w fun e w' => e = .returned (.int .i64 (kof ky len2 d)) ∧ w' = w := by
  unfold kof
  by_cases h0 : 0 ≤ d
  · by_cases h1 : d < (len2 : Int)
    · rw [if_pos ⟨h0, h1⟩]
      obtain ⟨i, rfl⟩ : ∃ i : Nat, d = (i : Int) := ⟨d.toNat, by omega⟩
      have hi : i < len2 := by omega
      rcases hr with ⟨_, h⟩ | ⟨x, rfl, hc⟩
      · omega
      · have c := hc i hi
        have b := hk i hi
        have wb : IntKind.i64.wrap (ky i) = ky i := by rw [IntKind.wrap_i64]; omega
        have ti : ((i : Int)).toNat = i := by omega
        clear hc hk
        go_enter Yba.func12, Yba.ntmps12
        go_wp2
        go_ret
        exact ⟨rfl, rfl⟩
    · rw [if_neg (by omega)]
      clear hr hk
      go_enter Yba.func12, Yba.ntmps12
      go_wp2
      go_ret
      exact ⟨rfl, rfl⟩
  · rw [if_neg (by omega)]
    clear hr hk
    go_enter Yba.func12, Yba.ntmps12
    go_wp2
    go_ret
    exact ⟨rfl, rfl⟩

theorem doc_any (x : Int) (w : World) : Calls Yba.prog 7 #[.int .i64 x] w fun e w' => e = .returned (.int .i64 x) ∧ w' = w := by
  go_enter Yba.func7, Yba.ntmps7
  go_wp2
  go_ret
  exact ⟨rfl, rfl⟩

set_option maxRecDepth 100000 in
theorem cmpf_any (pk : Addr) (a2 : Option Addr) (len2 cap2 : Nat) (ky : Nat → Int) (x y : Int) (w : World) (hp : w.cell? pk = some (.slice a2 len2 cap2)) (hr : Row w a2 len2 (fun i => .int .i8 (ky i))) (hk : ∀ i, i < len2 → -128 ≤ ky i ∧ ky i ≤ 127) :
    Calls Yba.prog 10 #[.int .i64 x, .int .i64 y, .pointer (some pk)] w fun e w' => e = .returned (.int .i64 (cmpv (kof ky len2 x) (kof ky len2 y))) ∧ ∃ n, w' = w.drewN n := by
  have HKY := hide (fun (d : Int) (n : Nat) => key_any a2 len2 cap2 ky d (w.drewN n) hr hk)
  have HCM := hide (fun (p q : Int) (n : Nat) => compare_any p q (w.drewN n))
  clear hr hk
  go_enter Yba.func10, Yba.ntmps10
  go_wp2_with fail
  go_quiet (first | (go_at_call 12; exact Calls.quiet_of_same (HKY.out _ _)) | (go_at_call 11; exact Calls.quiet_of_same (HCM.out _ _ _)))
  go_wp2
  go_ret
  exact ⟨rfl, nq, rfl⟩

set_option maxRecDepth 100000 in
theorem cmp_any (pc pd pk : Addr) (a2 : Option Addr) (len2 cap2 : Nat) (ky : Nat → Int) (x y : Int) (w : World) (hx : -2147483648 ≤ x ∧ x ≤ 2147483647) (hy : -2147483648 ≤ y ∧ y ≤ 2147483647) (hc : w.cell? pc = some (.func (.func 10) #[] #[.pointer (some pk)])) (hd : w.cell? pd = some (.func (.func 7) #[] #[])) (hp : w.cell? pk = some (.slice a2 len2 cap2)) (hr : Row w a2 len2 (fun i => .int .i8 (ky i))) (hk : ∀ i, i < len2 → -128 ≤ ky i ∧ ky i ≤ 127) :
    Calls Yba.prog 20 #[.int .i32 x, .int .i32 y, .pointer (some pc), .pointer (some pd)] w fun e w' => e = .returned (.int .i64 (cmpv (kof ky len2 x) (kof ky len2 y))) ∧ ∃ n, w' = w.drewN n := by
  have HKY := hide (fun (p q : Int) (n : Nat) => cmpf_any pk a2 len2 cap2 ky p q (w.drewN n) hp hr hk)
  have HD := hide (fun (p : Int) (n : Nat) => doc_any p (w.drewN n))
  have wx : IntKind.i64.wrap x = x := by rw [IntKind.wrap_i64]; omega
  have wy : IntKind.i64.wrap y = y := by rw [IntKind.wrap_i64]; omega
  clear hr hk hp
  go_enter Yba.func20, Yba.ntmps20
  go_wp2_with fail
  go_quiet (first | (go_at_call 7; exact Calls.quiet_of_same (HD.out _ _)) | (go_at_call 10; exact Calls.quiet_of (HKY.out _ _ _)))
  go_wp2
  go_ret
  exact ⟨rfl, nq, rfl⟩

end Go.Proofs.Ybulkbtlq
