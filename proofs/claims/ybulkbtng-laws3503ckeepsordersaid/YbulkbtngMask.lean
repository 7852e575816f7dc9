/-
  A mask by a power of two less one is a remainder; and Go's int holds what we reckon.
-/
import Derived.Test.YbulkbtngHeap
import Derived.Laws.Bits128
namespace Go.Proofs.Ybulkbtng
open Go.RowKit
set_option linter.unusedVariables false

theorem mask_nat (x k : Nat) (hx : x < 4611686018427387904) (hk : 2 ^ k ≤ 4611686018427387904) : bits .and .i64 (x : Int) (((2 ^ k : Nat) : Int) - 1) = ((x % 2 ^ k : Nat) : Int) := by
  have hpos : 0 < 2 ^ k := Nat.two_pow_pos k
  have e : (((2 ^ k : Nat) : Int) - 1) = ((2 ^ k - 1 : Nat) : Int) := by omega
  rw [e]
  have h1 : (BitVec.ofInt 64 (x : Int)).toNat = x := by
    rw [BitVec.ofInt_natCast, BitVec.toNat_ofNat]; exact Nat.mod_eq_of_lt (by omega)
  have h2 : (BitVec.ofInt 64 ((2 ^ k - 1 : Nat) : Int)).toNat = 2 ^ k - 1 := by
    rw [BitVec.ofInt_natCast, BitVec.toNat_ofNat]; exact Nat.mod_eq_of_lt (by omega)
  show IntKind.i64.wrap ((BitVec.ofInt 64 (x : Int) &&& BitVec.ofInt 64 ((2 ^ k - 1 : Nat) : Int)).toNat : Int) = _
  rw [BitVec.toNat_and, h1, h2, Nat.and_two_pow_sub_one_eq_mod, IntKind.wrap_i64]
  have : x % 2 ^ k < 2 ^ k := Nat.mod_lt _ hpos
  omega

/-- L is a buffer's length: a power of two, not great. -/
def Pow (L : Nat) : Prop := ∃ k, L = 2 ^ k

theorem Pow.pos {L : Nat} (h : Pow L) : 0 < L := by obtain ⟨k, rfl⟩ := h; exact Nat.two_pow_pos k
theorem Pow.two {L : Nat} (h : Pow L) : Pow (2 * L) := by obtain ⟨k, rfl⟩ := h; exact ⟨k + 1, by rw [Nat.pow_succ]; omega⟩
theorem Pow.eight : Pow 8 := ⟨3, rfl⟩

theorem Pow.mask {L : Nat} (h : Pow L) (hL : L ≤ 1000000) (x : Nat) (hx : x ≤ 10000000) : bits .and .i64 (x : Int) ((L : Int) - 1) = ((x % L : Nat) : Int) := by
  obtain ⟨k, rfl⟩ := h
  exact mask_nat x k (by omega) (by omega)

end Go.Proofs.Ybulkbtng
