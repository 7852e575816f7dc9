/-
  BModel: two NodeInfos compared.
-/
import Derived.Test.YbulkbtowMFailed
import Derived.ChangeKeysEq
import Derived.OwnWalk
namespace Go.Proofs.Ybulkbtow
open Go.RowKit
set_option linter.unusedVariables false

theorem st64 : Yba.prog.underlying 64 = some (.struct (Yba.prog.fieldsOf 64)) := by kernel_rfl
theorem si64 : Yba.prog.stoodInHeld 64 = false := by kernel_rfl
theorem guard64 : Yba.prog.eqGuardType Yba.prog.depth 64 = false := by kernel_rfl
theorem eg64 (op : BinOp) (x y : Operand) (xs ys : Array Value) (w : World) : (eqGuard op 64 x y (.agg xs) (.agg ys)).run Yba.prog w = .ok () w := run_eqGuard_agg w op 64 x y xs ys guard64

theorem eq5 (d : Nat) (x : Int) (w : World) : (Op.equalIn (d + 1) 5 (.int .u8 x) (.int .u8 x)).run Yba.prog w = .ok true w := by
  rw [run_equalIn_int w d 5 .u8 .u8 x x Yba.underlying5]
  simp

theorem info5' : ∃ i, Yba.prog.info? 5 = some i := by
  have h5 : (Yba.prog.info? 5).map (fun i => (i.zero, i.size, i.bytes)) = some (some (.int .u8 0), 1, 1) := by kernel_rfl
  obtain ⟨i, h, _⟩ := info_parts h5
  exact ⟨i, h⟩
theorem cells5 : Yba.prog.cellsOf 5 = 1 := by kernel_rfl

set_option maxRecDepth 100000 in
set_option maxHeartbeats 2000000 in
theorem eq47 (d : Nat) (x y : Int) (w : World) : (Op.equalIn (d + 2) 47 (.agg #[.int .u8 x, .int .u8 y, .int .u8 0, .int .u8 0, .int .u8 0, .int .u8 0, .int .u8 0, .int .u8 0, .int .u8 0, .int .u8 0, .int .u8 0, .int .u8 0, .int .u8 0, .int .u8 0, .int .u8 0, .int .u8 0, .int .u8 0, .int .u8 0, .int .u8 0, .int .u8 0]) (.agg #[.int .u8 x, .int .u8 y, .int .u8 0, .int .u8 0, .int .u8 0, .int .u8 0, .int .u8 0, .int .u8 0, .int .u8 0, .int .u8 0, .int .u8 0, .int .u8 0, .int .u8 0, .int .u8 0, .int .u8 0, .int .u8 0, .int .u8 0, .int .u8 0, .int .u8 0, .int .u8 0])).run Yba.prog w = .ok true w := by
  obtain ⟨i, hi⟩ := info5'
  have h5 := eq5 d
  rw [run_equalIn_array w (d + 1) _ _ Yba.underlying47 hi, cells5, show List.range 20 = [0, 1, 2, 3, 4, 5, 6, 7, 8, 9, 10, 11, 12, 13, 14, 15, 16, 17, 18, 19] from rfl]
  simp only [Op.eqItems]
  go_simp

set_option maxRecDepth 100000 in
set_option maxHeartbeats 2000000 in
theorem ni_same (x y p : Int) (w : World) : (binOp .neq 64 (niv x y p) (niv x y p)).run Yba.prog w = .ok (.bool false) w := by
  have h47 := eq47 9997 x y
  have h43 : ∀ w, (Op.equalIn 9999 43 (.agg #[.int .u64 0, .int .u64 0, .pointer none, .int .u16 p]) (.agg #[.int .u64 0, .int .u64 0, .pointer none, .int .u16 p])).run Yba.prog w = .ok true w := by
    intro w
    have h41 := eq41 9995
    rw [show (9999 : Nat) = 9998 + 1 from rfl, run_equalIn_agg w 9998 43 _ _ st43 si43]
    simp only [Program.fieldsOf, Yba.underlying43]
    go_simp
  rw [run_neq_struct, show (10000 : Nat) = 9999 + 1 from rfl, run_equalIn_agg w 9999 64 _ _ st64 si64]
  simp only [Program.fieldsOf, Yba.underlying64]
  go_simp

end Go.Proofs.Ybulkbtow
