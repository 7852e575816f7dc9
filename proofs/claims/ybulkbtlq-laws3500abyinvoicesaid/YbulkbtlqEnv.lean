/-
  What the closures read, and that it stays.
-/
import Derived.Test.YbulkbtlqStable
import Derived.Test.YbulkbtlqClos
import Derived.Test.YbulkbtlqGroup
namespace Go.Proofs.Ybulkbtlq
open Go.RowKit
set_option linter.unusedVariables false

/-- The data of a run: the three rows that came in, and where their boxes lie. -/
structure Ins where
  a0 : Option Addr
  a1 : Option Addr
  a2 : Option Addr
  len0 : Nat
  cap0 : Nat
  len1 : Nat
  cap1 : Nat
  len2 : Nat
  cap2 : Nat
  iv : Nat → Int
  kp : Nat → Bool
  ky : Nat → Int
  n : Nat
  pinv : Addr
  pkeep : Addr
  pkey : Addr
  pn : Addr

/-- It all lies in blocks below B, and reads so in w. -/
structure Env (D : Ins) (B : Nat) (w : World) : Prop where
  bd : B ≤ w.heap.size
  n1 : 0 < D.n
  n8 : D.n ≤ 8
  ivb : ∀ i, i < D.len0 → 0 ≤ D.iv i ∧ D.iv i ≤ 255
  kyb : ∀ i, i < D.len2 → -128 ≤ D.ky i ∧ D.ky i ≤ 127
  b1 : D.pinv.block < B
  b2 : D.pkeep.block < B
  b3 : D.pkey.block < B
  b4 : D.pn.block < B
  c1 : w.cell? D.pinv = some (.slice D.a0 D.len0 D.cap0)
  c2 : w.cell? D.pkeep = some (.slice D.a1 D.len1 D.cap1)
  c3 : w.cell? D.pkey = some (.slice D.a2 D.len2 D.cap2)
  c4 : w.cell? D.pn = some (.int .i64 (D.n : Int))
  r0 : Row w D.a0 D.len0 (fun i => .int .u8 (D.iv i))
  r1 : Row w D.a1 D.len1 (fun i => .bool (D.kp i))
  r2 : Row w D.a2 D.len2 (fun i => .int .i8 (D.ky i))
  x0 : ∀ x, D.a0 = some x → 0 < D.len0 → x.block < B
  x1 : ∀ x, D.a1 = some x → 0 < D.len1 → x.block < B
  x2 : ∀ x, D.a2 = some x → 0 < D.len2 → x.block < B

theorem Row.below {w w' : World} {a : Option Addr} {len : Nat} {f : Nat → Value} {B : Nat} (h : Row w a len f) (hx : ∀ x, a = some x → 0 < len → x.block < B) (hb : Below B w w') : Row w' a len f := by
  rcases h with h | ⟨x, rfl, hc⟩
  · exact .inl h
  · refine .inr ⟨x, rfl, fun i hi => ?_⟩
    have hblk : (x.add i).block < B := by
      rw [Go.ChangeShapes.block_add]
      exact hx x rfl (by omega)
    exact (hb.cell hblk).trans (hc i hi)

theorem Env.below {D : Ins} {B : Nat} {w w' : World} (h : Env D B w) (hb : Below B w w') : Env D B w' :=
  { h with
    bd := Nat.le_trans h.bd hb.size
    c1 := (hb.cell h.b1).trans h.c1
    c2 := (hb.cell h.b2).trans h.c2
    c3 := (hb.cell h.b3).trans h.c3
    c4 := (hb.cell h.b4).trans h.c4
    r0 := h.r0.below h.x0 hb
    r1 := h.r1.below h.x1 hb
    r2 := h.r2.below h.x2 hb }

/-- Kept places, groups, keys. -/
def Ins.K (D : Ins) : Nat → Bool := fun k => kept D.kp D.len1 k
def Ins.I (D : Ins) : Nat → Nat := fun k => (D.iv k % (D.n : Int)).toNat
def Ins.κ (D : Ins) : Int → Int := fun d => kof D.ky D.len2 d

theorem Env.keep {D : Ins} {B : Nat} {w : World} (h : Env D B w) (k : Nat) : Calls Yba.prog 8 #[.int .i64 (k : Int), .pointer (some D.pkeep)] w fun e w' => e = .returned (.bool (D.K k)) ∧ w' = w :=
  keep_any D.pkeep D.a1 D.len1 D.cap1 D.kp k w h.c2 h.r1

theorem Env.inv {D : Ins} {B : Nat} {w : World} (h : Env D B w) (k : Nat) (hk : k < D.len0) : Calls Yba.prog 9 #[.int .i64 (k : Int), .pointer (some D.pinv), .pointer (some D.pn)] w fun e w' => e = .returned (.int .i64 ((D.I k : Nat) : Int)) ∧ ∃ m, w' = w.drewN m := by
  refine (inv_any D.pinv D.pn D.a0 D.len0 D.cap0 D.n D.iv k w hk h.n1 h.n8 h.c1 h.c4 h.r0 (h.ivb k hk)).mono ?_
  rintro e w' ⟨rfl, m, rfl⟩
  refine ⟨?_, m, rfl⟩
  have hb := h.ivb k hk
  have hn := h.n1
  have : ((D.I k : Nat) : Int) = D.iv k % (D.n : Int) := by
    show (((D.iv k % (D.n : Int)).toNat : Nat) : Int) = _
    have := Int.emod_nonneg (D.iv k) (show (D.n : Int) ≠ 0 by omega)
    omega
  rw [this]

theorem Env.I_lt {D : Ins} {B : Nat} {w : World} (h : Env D B w) (k : Nat) : D.I k < D.n := by
  have hn := h.n1
  have h1 := Int.emod_nonneg (D.iv k) (show (D.n : Int) ≠ 0 by omega)
  have h2 := Int.emod_lt_of_pos (D.iv k) (show (0 : Int) < (D.n : Int) by omega)
  show (D.iv k % (D.n : Int)).toNat < D.n
  omega

theorem Env.cmp {D : Ins} {B : Nat} {w : World} (h : Env D B w) {bc bd g : Nat} (hg : B ≤ g) (hc : Blk w bc 27 [.func (.func 10) #[] #[.pointer (some D.pkey)]]) (hd : Blk w bd 25 [.func (.func 7) #[] #[]]) (hcg : bc ≠ g) (hdg : bd ≠ g) : CmpOk D.κ g ⟨bc, 0, none⟩ ⟨bd, 0, none⟩ w := by
  intro w' hk x y hx0 hx1 hy0 hy1
  have hb : Below B w w' := hk.toBelow h.bd (by simp; exact hg)
  have h' := h.below hb
  have c := (hk.blk hc (by simp; exact hcg)).at 0
  have d := (hk.blk hd (by simp; exact hdg)).at 0
  exact cmp_any ⟨bc, 0, none⟩ ⟨bd, 0, none⟩ D.pkey D.a2 D.len2 D.cap2 D.ky x y w' (by omega) (by omega) c d h'.c3 h'.r2 h.kyb

end Go.Proofs.Ybulkbtlq
