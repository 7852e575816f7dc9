/-
  A block of int32 seen as a function of the place; a frame.
-/
import Derived.Test.YbulkbtlqRows
import Derived.Test.YbulkbtlqHeap
import Derived.Test.YbulkbtlqMerge
import Derived.Deep.Draws
namespace Go.Proofs.Ybulkbtlq
open Go.RowKit
set_option linter.unusedVariables false

/-! ### a frame: nothing but the blocks of a list has turned -/
structure Kept (S : List Nat) (w w' : World) : Prop where
  os : w'.os = w.os
  tape : w'.tape = w.tape
  output : w'.output = w.output
  size : w.heap.size ≤ w'.heap.size
  block : ∀ k, k < w.heap.size → k ∉ S → w'.heap[k]? = w.heap[k]?

theorem Kept.refl (S : List Nat) (w : World) : Kept S w w := ⟨rfl, rfl, rfl, Nat.le_refl _, fun _ _ _ => rfl⟩

theorem Kept.trans {S : List Nat} {a b c : World} (h : Kept S a b) (k : Kept S b c) : Kept S a c :=
  ⟨k.os.trans h.os, k.tape.trans h.tape, k.output.trans h.output, Nat.le_trans h.size k.size, fun i hi hs => (k.block i (Nat.lt_of_lt_of_le hi h.size) hs).trans (h.block i hi hs)⟩

theorem Kept.mono {S T : List Nat} {a b : World} (h : Kept S a b) (hs : ∀ k, k < a.heap.size → k ∈ S → k ∈ T) : Kept T a b :=
  ⟨h.os, h.tape, h.output, h.size, fun i hi ht => h.block i hi (fun e => ht (hs i hi e))⟩

theorem Kept.alloc {S : List Nat} {a w : World} (h : Kept S a w) (o : Obj) : Kept S a (w.alloc o) :=
  h.trans ⟨rfl, rfl, rfl, by simp, fun k hk _ => Below.heap_alloc _ _ _ hk⟩

theorem Kept.setCell {S : List Nat} {a w : World} (h : Kept S a w) {p : Addr} (hp : p.block ∈ S ∨ a.heap.size ≤ p.block) (u : Value) : Kept S a (w.setCell p u) :=
  ⟨h.os, h.tape, h.output, by simpa [World.setCell] using h.size, fun k hk hs => by
    rw [Below.heap_setCell _ _ _ _ (fun e => by subst e; rcases hp with hp | hp; exact hs hp; omega)]
    exact h.block k hk hs⟩

theorem Kept.drew {S : List Nat} {a w : World} (h : Kept S a w) : Kept S a w.drew := ⟨h.os, h.tape, h.output, h.size, h.block⟩
theorem Kept.drewN {S : List Nat} {a w : World} (h : Kept S a w) (n : Nat) : Kept S a (w.drewN n) := ⟨h.os, h.tape, h.output, h.size, h.block⟩

theorem Kept.toBelow {S : List Nat} {a w : World} (h : Kept S a w) {B : Nat} (hB : B ≤ a.heap.size) (hS : ∀ k ∈ S, B ≤ k) : Below B a w :=
  ⟨h.os, h.tape, h.output, h.size, fun k hk => h.block k (by omega) (fun e => by have := hS k e; omega)⟩

theorem Kept.blk {S : List Nat} {w w' : World} (h : Kept S w w') {g : Nat} {e : TypeId} {cs : List Value} (hb : Blk w g e cs) (hg : g ∉ S) : Blk w' g e cs := (h.block g hb.lt hg).trans hb

theorem Kept.cell {S : List Nat} {w w' : World} (h : Kept S w w') {p : Addr} (hp : p.block < w.heap.size) (hs : p.block ∉ S) : w'.cell? p = w.cell? p := World.cell?_of_block (w := w) (h.block p.block hp hs)

/-- The block g of L int32s: f 0, f 1, .. -/
def Fn (w : World) (g L : Nat) (f : Nat → Int) : Prop := Blk w g 21 ((List.range L).map fun i => Value.int .i32 (f i))

theorem Fn.lt {w : World} {g L : Nat} {f : Nat → Int} (h : Fn w g L f) : g < w.heap.size := Blk.lt h
theorem Fn.at {w : World} {g L : Nat} {f : Nat → Int} (h : Fn w g L f) {i : Nat} (hi : i < L) : w.cell? ⟨g, i, none⟩ = some (.int .i32 (f i)) := by
  rw [Blk.at h i]
  simp [hi]
theorem Fn.free {w : World} {g L : Nat} {f : Nat → Int} (h : Fn w g L f) (i : Nat) : w.frozen? ⟨g, i, none⟩ = false := Blk.free h i
theorem Fn.set {w : World} {g L : Nat} {f : Nat → Int} (h : Fn w g L f) (j : Nat) (v : Int) : Fn (w.setCell ⟨g, j, none⟩ (.int .i32 v)) g L (upd f j v) := by
  unfold Fn
  have e : ((List.range L).map fun i => Value.int .i32 (upd f j v i)) = ((List.range L).map fun i => Value.int .i32 (f i)).set j (.int .i32 v) := by
    apply List.ext_getElem?
    intro k
    rw [List.getElem?_set]
    by_cases hk : k < L
    · by_cases e : j = k
      · subst e; simp [hk, upd]
      · have e' : ¬ k = j := fun h => e h.symm
        simp [hk, upd, e, e']
    · have h1 : L ≤ k := by omega
      by_cases e : j = k
      · subst e; simp [hk]
      · simp [h1, e]
  rw [e]
  exact Blk.set h j _
theorem Fn.drewN {w : World} {g L : Nat} {f : Nat → Int} (h : Fn w g L f) (n : Nat) : Fn (w.drewN n) g L f := h
theorem Fn.drew {w : World} {g L : Nat} {f : Nat → Int} (h : Fn w g L f) : Fn w.drew g L f := h
theorem Fn.congr {w : World} {g L : Nat} {f f' : Nat → Int} (h : Fn w g L f) (e : f = f') : Fn w g L f' := e ▸ h
theorem Fn.kept {S : List Nat} {w w' : World} {g L : Nat} {f : Nat → Int} (h : Fn w g L f) (hk : Kept S w w') (hg : g ∉ S) : Fn w' g L f := hk.blk h hg

end Go.Proofs.Ybulkbtlq
