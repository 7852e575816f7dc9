/-
  'netip.AddrPortFrom(netip.Addr{}, p)' by its contract.
-/
import Derived.Test.YbulkbtowRows
import Derived.Test.YbulkbtowHeap
import Derived.Laws.StructEq
namespace Go.Proofs.Ybulkbtow
open Go.RowKit
set_option linter.unusedVariables false

/-- The address of port p, no host: its four cells. -/
def apCells (p : Int) : List Value := [.int .u64 0, .int .u64 0, .pointer none, .int .u16 p]
def ap (p : Int) : Value := .agg #[.int .u64 0, .int .u64 0, .pointer none, .int .u16 p]

set_option maxHeartbeats 400000 in
theorem from_any (p : Int) (w : World) :
    Calls Yba.prog 19 #[.agg #[.int .u64 0, .int .u64 0, .pointer none], .int .u16 p] w fun e w' => e = .returned (ap p) ∧ Below w.heap.size w w' := by
  unfold ap
  go_enter Yba.func19, Yba.ntmps19
  go_wp2
  exact bodyPost_ret (v := .agg #[.int .u64 0, .int .u64 0, .pointer none, .int .u16 p]) (by simp [results, Yba.results19, go_sem]) rfl ⟨rfl, by
    repeat (first | exact Below.refl _ _ | refine Below.setCell ?_ (by simp) _ | refine Below.alloc ?_ (by simp) _)⟩

set_option maxHeartbeats 400000 in
theorem cap_any (p : Int) (w : World) :
    Calls Yba.prog 10 #[.int .u16 p] w fun e w' => e = .returned (ap p) ∧ Below w.heap.size w w' := by
  have hf := hide (fun (w : World) => from_any p w)
  unfold ap at hf ⊢
  go_enter Yba.func10, Yba.ntmps10
  go_wp2_with fail
  refine (hf.out _).mono ?_
  rintro e w1 ⟨rfl, hb⟩
  have hz : w.heap.size < w1.heap.size := by have := hb.size; simp at this; omega
  have c0 := hb.cell (p := ⟨w.heap.size, 0, none⟩) (by simp)
  have c1 := hb.cell (p := ⟨w.heap.size, 1, none⟩) (by simp)
  have c2 := hb.cell (p := ⟨w.heap.size, 2, none⟩) (by simp)
  have c3 := hb.cell (p := ⟨w.heap.size, 3, none⟩) (by simp)
  have f0 := hb.frozen (p := ⟨w.heap.size, 0, none⟩) (by simp)
  have f1 := hb.frozen (p := ⟨w.heap.size, 1, none⟩) (by simp)
  have f2 := hb.frozen (p := ⟨w.heap.size, 2, none⟩) (by simp)
  have f3 := hb.frozen (p := ⟨w.heap.size, 3, none⟩) (by simp)
  simp at c0 c1 c2 c3 f0 f1 f2 f3
  have HB := hide hb
  clear hb
  go_wp2
  exact bodyPost_ret (v := .agg #[.int .u64 0, .int .u64 0, .pointer none, .int .u16 p]) (by simp [results, Yba.results10, go_sem, c0, c1, c2, c3]) rfl ⟨rfl,
    ((((((Below.refl _ _).alloc (Nat.le_refl _) _).trans (HB.out.mono (by simp))).setCell (Nat.le_refl _) _).setCell (Nat.le_refl _) _).setCell (Nat.le_refl _) _).setCell (Nat.le_refl _) _⟩

theorem st43 : Yba.prog.underlying 43 = some (.struct (Yba.prog.fieldsOf 43)) := by kernel_rfl
theorem st41 : Yba.prog.underlying 41 = some (.struct (Yba.prog.fieldsOf 41)) := by kernel_rfl
theorem st36 : Yba.prog.underlying 36 = some (.struct (Yba.prog.fieldsOf 36)) := by kernel_rfl
theorem st39 : Yba.prog.underlying 39 = some (.struct (Yba.prog.fieldsOf 39)) := by kernel_rfl
theorem si43 : Yba.prog.stoodInHeld 43 = false := by kernel_rfl
theorem si41 : Yba.prog.stoodInHeld 41 = false := by kernel_rfl
theorem si36 : Yba.prog.stoodInHeld 36 = false := by kernel_rfl
theorem si39 : Yba.prog.stoodInHeld 39 = false := by kernel_rfl

theorem eq36 (d : Nat) (a b a' b' : Int) (w : World) : (Op.equalIn (d + 2) 36 (.agg #[.int .u64 a, .int .u64 b]) (.agg #[.int .u64 a', .int .u64 b'])).run Yba.prog w = .ok (a == a' && b == b') w := by
  rw [run_equalIn_agg w (d + 1) 36 _ _ st36 si36]
  simp only [Program.fieldsOf, Yba.underlying36]
  go_simp
  by_cases h1 : a = a' <;> by_cases h2 : b = b' <;> simp [h1, h2]

theorem eq37 (d : Nat) (w : World) : (Op.equalIn (d + 1) 37 (.pointer none) (.pointer none)).run Yba.prog w = .ok true w := by
  simp [Op.equalIn, run_underlying Yba.underlying37]

theorem eq39 (d : Nat) (w : World) : (Op.equalIn (d + 2) 39 (.agg #[.pointer none]) (.agg #[.pointer none])).run Yba.prog w = .ok true w := by
  have h37 := eq37
  rw [run_equalIn_agg w (d + 1) 39 _ _ st39 si39]
  simp only [Program.fieldsOf, Yba.underlying39]
  go_simp

theorem eq41 (d : Nat) (w : World) : (Op.equalIn (d + 3) 41 (.agg #[.int .u64 0, .int .u64 0, .pointer none]) (.agg #[.int .u64 0, .int .u64 0, .pointer none])).run Yba.prog w = .ok true w := by
  have h36 := eq36 d 0 0 0 0
  have h39 := eq39 d
  rw [run_equalIn_agg w (d + 2) 41 _ _ st41 si41]
  simp only [Program.fieldsOf, Yba.underlying41]
  go_simp

theorem eq43 (p q : Int) (w : World) : (Op.equalIn 10000 43 (.agg #[.int .u64 0, .int .u64 0, .pointer none, .int .u16 p]) (.agg #[.int .u64 0, .int .u64 0, .pointer none, .int .u16 q])).run Yba.prog w = .ok (p == q) w := by
  have h41 := eq41 9996
  rw [show (10000 : Nat) = 9999 + 1 from rfl, run_equalIn_agg w 9999 43 _ _ st43 si43]
  simp only [Program.fieldsOf, Yba.underlying43]
  go_simp
  by_cases h1 : p = q <;> simp [h1]

/-- Two addresses without a host are compared by their ports. -/
theorem ap_neq (p q : Int) (w : World) : (binOp .neq 43 (.agg #[.int .u64 0, .int .u64 0, .pointer none, .int .u16 p]) (.agg #[.int .u64 0, .int .u64 0, .pointer none, .int .u16 q])).run Yba.prog w = .ok (.bool (p != q)) w := by
  rw [run_neq_struct, eq43]
  rfl

theorem ap_eql (p q : Int) (w : World) : (binOp .eql 43 (.agg #[.int .u64 0, .int .u64 0, .pointer none, .int .u16 p]) (.agg #[.int .u64 0, .int .u64 0, .pointer none, .int .u16 q])).run Yba.prog w = .ok (.bool (p == q)) w := by
  rw [run_eql_struct, eq43]
  rfl

theorem ap_same (p : Int) (w : World) : (binOp .neq 43 (.agg #[.int .u64 0, .int .u64 0, .pointer none, .int .u16 p]) (.agg #[.int .u64 0, .int .u64 0, .pointer none, .int .u16 p])).run Yba.prog w = .ok (.bool false) w := by
  rw [ap_neq]
  simp

theorem guard43 : Yba.prog.eqGuardType Yba.prog.depth 43 = false := by kernel_rfl

theorem eg43 (op : BinOp) (x y : Operand) (xs ys : Array Value) (w : World) : (eqGuard op 43 x y (.agg xs) (.agg ys)).run Yba.prog w = .ok () w := run_eqGuard_agg w op 43 x y xs ys guard43

end Go.Proofs.Ybulkbtow
