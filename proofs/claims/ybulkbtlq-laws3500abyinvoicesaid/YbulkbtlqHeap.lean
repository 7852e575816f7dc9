/-
  Small laws on blocks of cells that a call makes: a block known whole, as a list of values or of integers.
-/
import Derived.WalkKit
import Derived.Below
import Derived.Laws.Rows
import Derived.Laws.MakeOwn
import Derived.Deep.Draws
namespace Go.Proofs.Ybulkbtlq
open Go.RowKit

theorem hide {p : Prop} (h : p) : Hid p := h

/-- Block g holds just the cells cs (none of them frozen). -/
def Blk (w : World) (g : Nat) (e : TypeId) (cs : List Value) : Prop := w.heap[g]? = some (.cells cs.toArray e (0, 0))

theorem Blk.lt {w : World} {g : Nat} {e : TypeId} {cs : List Value} (h : Blk w g e cs) : g < w.heap.size := lt_of_block h

theorem Blk.at {w : World} {g : Nat} {e : TypeId} {cs : List Value} (h : Blk w g e cs) (i : Nat) : w.cell? ⟨g, i, none⟩ = cs[i]? := by
  rw [cell_of_row w g i _ e _ h]; simp

theorem Blk.free {w : World} {g : Nat} {e : TypeId} {cs : List Value} (h : Blk w g e cs) (i : Nat) : w.frozen? ⟨g, i, none⟩ = false :=
  frozen_of_row w g i _ e h

theorem Blk.set {w : World} {g : Nat} {e : TypeId} {cs : List Value} (h : Blk w g e cs) (i : Nat) (v : Value) : Blk (w.setCell ⟨g, i, none⟩ v) g e (cs.set i v) := by
  unfold Blk
  rw [heap_setCell_same w g i _ e v h]
  simp

theorem Blk.other {w : World} {g : Nat} {e : TypeId} {cs : List Value} (h : Blk w g e cs) {a : Addr} (ha : g ≠ a.block) (u : Value) : Blk (w.setCell a u) g e cs := by
  unfold Blk
  rw [heap_setCell_other w a g u ha]
  exact h

theorem Blk.alloc {w : World} {g : Nat} {e : TypeId} {cs : List Value} (h : Blk w g e cs) (o : Obj) : Blk (w.alloc o) g e cs := by
  unfold Blk
  rw [Below.heap_alloc w o g h.lt]
  exact h

theorem Blk.drew {w : World} {g : Nat} {e : TypeId} {cs : List Value} (h : Blk w g e cs) : Blk w.drew g e cs := h

theorem Blk.drewN {w : World} {g : Nat} {e : TypeId} {cs : List Value} (h : Blk w g e cs) (n : Nat) : Blk (w.drewN n) g e cs := h

theorem Blk.below {w w' : World} {g B : Nat} {e : TypeId} {cs : List Value} (h : Blk w g e cs) (hb : Below B w w') (hg : g < B) : Blk w' g e cs := (hb.block g hg).trans h

theorem Blk.new (w : World) (e : TypeId) (cs : List Value) : Blk (w.alloc (.cells cs.toArray e)) w.heap.size e cs := heap_alloc_new w _

theorem madeCells_one (z : Value) (n : Nat) : madeCells #[z] n = (List.replicate n z).toArray := by
  unfold madeCells
  apply Array.ext
  · simp
  · intro i h1 h2
    simp [Nat.mod_one]

/-! ### a block of integers -/
def Ints (w : World) (g : Nat) (e : TypeId) (k : IntKind) (xs : List Int) : Prop := Blk w g e (xs.map (Value.int k))

theorem Ints.lt {w : World} {g : Nat} {e : TypeId} {k : IntKind} {xs : List Int} (h : Ints w g e k xs) : g < w.heap.size := Blk.lt h

theorem Ints.at {w : World} {g : Nat} {e : TypeId} {k : IntKind} {xs : List Int} (h : Ints w g e k xs) {i : Nat} (hi : i < xs.length) : w.cell? ⟨g, i, none⟩ = some (.int k (xs.getD i 0)) := by
  rw [Blk.at h i]
  simp [hi]

theorem Ints.free {w : World} {g : Nat} {e : TypeId} {k : IntKind} {xs : List Int} (h : Ints w g e k xs) (i : Nat) : w.frozen? ⟨g, i, none⟩ = false := Blk.free h i

theorem Ints.set {w : World} {g : Nat} {e : TypeId} {k : IntKind} {xs : List Int} (h : Ints w g e k xs) (i : Nat) (v : Int) : Ints (w.setCell ⟨g, i, none⟩ (.int k v)) g e k (xs.set i v) := by
  unfold Ints
  rw [List.map_set]
  exact Blk.set h i _

theorem Ints.other {w : World} {g : Nat} {e : TypeId} {k : IntKind} {xs : List Int} (h : Ints w g e k xs) {a : Addr} (ha : g ≠ a.block) (u : Value) : Ints (w.setCell a u) g e k xs := Blk.other h ha u

theorem Ints.alloc {w : World} {g : Nat} {e : TypeId} {k : IntKind} {xs : List Int} (h : Ints w g e k xs) (o : Obj) : Ints (w.alloc o) g e k xs := Blk.alloc h o

theorem Ints.drew {w : World} {g : Nat} {e : TypeId} {k : IntKind} {xs : List Int} (h : Ints w g e k xs) : Ints w.drew g e k xs := h

theorem Ints.below {w w' : World} {g B : Nat} {e : TypeId} {k : IntKind} {xs : List Int} (h : Ints w g e k xs) (hb : Below B w w') (hg : g < B) : Ints w' g e k xs := Blk.below h hb hg

theorem Ints.made (w : World) (e : TypeId) (k : IntKind) (n : Nat) : Ints (w.alloc (.cells (madeCells (Value.int k 0).cells n) e)) w.heap.size e k (List.replicate n 0) := by
  have h1 : (Value.int k 0).cells = #[Value.int k 0] := rfl
  rw [h1, madeCells_one]
  unfold Ints
  rw [List.map_replicate]
  exact Blk.new w e _

theorem bcell {B : Nat} {W w1 : World} (hb : Below B W w1) : (∀ b o, b < B → w1.cell? ⟨b, o, none⟩ = W.cell? ⟨b, o, none⟩) ∧ (∀ b o, b < B → w1.frozen? ⟨b, o, none⟩ = W.frozen? ⟨b, o, none⟩) :=
  ⟨fun b o h => hb.cell (p := ⟨b, o, none⟩) h, fun b o h => hb.frozen (p := ⟨b, o, none⟩) h⟩

theorem ret_int {k : IntKind} {a b : Int} (h : a = b) : Ending.returned (.int k a) = .returned (.int k b) := by rw [h]

end Go.Proofs.Ybulkbtlq
