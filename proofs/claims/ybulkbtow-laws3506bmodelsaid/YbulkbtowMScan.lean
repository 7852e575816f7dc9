/-
  BModel: the buckets as 'failed' reads them.
-/
import Derived.Test.YbulkbtowMDel
namespace Go.Proofs.Ybulkbtow
open Go.RowKit
set_option linter.unusedVariables false

abbrev ptr (b : Nat) : Value := .pointer (some ⟨b, 0, none⟩)

/-- A contact's 32 cells. -/
def conCells (x y p f : Int) : List Value := [.int .u8 x, .int .u8 y, .int .u8 0, .int .u8 0, .int .u8 0, .int .u8 0, .int .u8 0, .int .u8 0, .int .u8 0, .int .u8 0, .int .u8 0, .int .u8 0, .int .u8 0, .int .u8 0, .int .u8 0, .int .u8 0, .int .u8 0, .int .u8 0, .int .u8 0, .int .u8 0,
  .int .u64 0, .int .u64 0, .pointer none, .int .u16 p, .int .u64 0, .int .i64 0, .pointer none, .int .u64 0, .int .i64 0, .pointer none, .int .i64 f, .int .i64 0]
/-- A NodeInfo. -/
abbrev niv (x y p : Int) : Value := .agg #[.int .u8 x, .int .u8 y, .int .u8 0, .int .u8 0, .int .u8 0, .int .u8 0, .int .u8 0, .int .u8 0, .int .u8 0, .int .u8 0, .int .u8 0, .int .u8 0, .int .u8 0, .int .u8 0, .int .u8 0, .int .u8 0, .int .u8 0, .int .u8 0, .int .u8 0, .int .u8 0,
  .int .u64 0, .int .u64 0, .pointer none, .int .u16 p]

theorem con_ap {w : World} {b : Nat} {x y p f : Int} (h : Blk w b 66 (conCells x y p f)) : ApAt w b 20 p := ⟨h.at 20, h.at 21, h.at 22, h.at 23⟩

/-- The buckets: the row of pointers tv to the blocks B k; the slice bv k of bucket k: len k pointers to the blocks cb k j, whose ports are port k j. -/
structure Scan (nb : Nat) (gt ct : Nat) (B len gr : Nat → Nat) (bv : Nat → Value) (cb : Nat → Nat → Nat) (port : Nat → Nat → Int) (w : World) : Prop where
  tt : ∃ cs, Blk w gt 57 cs
  tc : ∀ k, k < nb → w.cell? ⟨gt, k, none⟩ = some (ptr (B k))
  bt : ∀ k, k < nb → ∃ cs, Blk w (B k) 60 cs ∧ cs[0]? = some (bv k)
  sl : ∀ k, k < nb → ∃ a c, bv k = .slice a (len k) c ∧ (0 < len k → a = some ⟨gr k, 0, none⟩)
  rt : ∀ k, k < nb → 0 < len k → ∃ cs, Blk w (gr k) 58 cs
  rc : ∀ k, k < nb → ∀ j, j < len k → w.cell? ⟨gr k, j, none⟩ = some (ptr (cb k j))
  ct : ∀ k, k < nb → ∀ j, j < len k → ∃ cs, Blk w (cb k j) 66 cs
  ap : ∀ k, k < nb → ∀ j, j < len k → ApAt w (cb k j) 20 (port k j)

theorem cell_kept {S : List Nat} {w w' : World} (hk : Kept S w w') {g i : Nat} {e : TypeId} {cs : List Value} (hb : Blk w g e cs) (hg : g ∉ S) : w'.cell? ⟨g, i, none⟩ = w.cell? ⟨g, i, none⟩ := World.cell?_of_block (hk.block g hb.lt hg)

/-- S's blocks are of other types than e. -/
def Alien (w : World) (S : List Nat) (es : List TypeId) : Prop := ∀ g ∈ S, ∀ e ∈ es, ∀ cs, ¬ Blk w g e cs

theorem Alien.out {w : World} {S : List Nat} {es : List TypeId} (h : Alien w S es) {g : Nat} {e : TypeId} {cs : List Value} (hb : Blk w g e cs) (he : e ∈ es) : g ∉ S := fun hg => h g hg e he cs hb

theorem Scan.kept {nb gt ct : Nat} {B len gr : Nat → Nat} {bv : Nat → Value} {cb : Nat → Nat → Nat} {port : Nat → Nat → Int} {w w' : World} (h : Scan nb gt ct B len gr bv cb port w) {S : List Nat} (hk : Kept S w w') (ha : Alien w S [57, 60, 58, 66]) : Scan nb gt ct B len gr bv cb port w' := by
  obtain ⟨ts, hts⟩ := h.tt
  refine ⟨⟨ts, hk.blk hts (ha.out hts (by simp))⟩, fun k hk' => ?_, fun k hk' => ?_, h.sl, fun k hk' hl => ?_, fun k hk' j hj => ?_, fun k hk' j hj => ?_, fun k hk' j hj => ?_⟩
  · rw [cell_kept hk hts (ha.out hts (by simp))]
    exact h.tc k hk'
  · obtain ⟨cs, h1, h2⟩ := h.bt k hk'
    exact ⟨cs, hk.blk h1 (ha.out h1 (by simp)), h2⟩
  · obtain ⟨cs, h1⟩ := h.rt k hk' hl
    exact ⟨cs, hk.blk h1 (ha.out h1 (by simp))⟩
  · obtain ⟨cs, h1⟩ := h.rt k hk' (by omega)
    rw [cell_kept hk h1 (ha.out h1 (by simp))]
    exact h.rc k hk' j hj
  · obtain ⟨cs, h1⟩ := h.ct k hk' j hj
    exact ⟨cs, hk.blk h1 (ha.out h1 (by simp))⟩
  · obtain ⟨cs, h1⟩ := h.ct k hk' j hj
    exact (h.ap k hk' j hj).kept hk (ha.out h1 (by simp))

theorem Scan.drewN {nb gt ct : Nat} {B len gr : Nat → Nat} {bv : Nat → Value} {cb : Nat → Nat → Nat} {port : Nat → Nat → Int} {w : World} (h : Scan nb gt ct B len gr bv cb port w) (n : Nat) : Scan nb gt ct B len gr bv cb port (w.drewN n) :=
  h.kept ((Kept.refl [] w).drewN n) (by intro g hg; simp at hg)

theorem alien_nil (w : World) (es : List TypeId) : Alien w [] es := by intro g hg; simp at hg

theorem alien_one {w : World} {g : Nat} {e : TypeId} {cs : List Value} (h : Blk w g e cs) {S : List Nat} {es : List TypeId} (he : e ∉ es) (hS : Alien w S es) : Alien w (g :: S) es := by
  intro g' hg' e' he' cs' hb
  simp only [List.mem_cons] at hg'
  rcases hg' with rfl | hg'
  · by_cases ee : e = e'
    · subst ee; exact he he'
    · exact h.ne hb ee rfl
  · exact hS g' hg' e' he' cs' hb

end Go.Proofs.Ybulkbtow
