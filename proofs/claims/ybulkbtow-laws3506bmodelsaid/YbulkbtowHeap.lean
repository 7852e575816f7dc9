/-
  Small laws on blocks of cells that a call makes: a block known whole, as a list of values or of integers.
-/
import Derived.WalkKit
import Derived.Below
import Derived.Laws.Rows
import Derived.Laws.MakeOwn
import Derived.Deep.Draws
namespace Go.Proofs.Ybulkbtow
open Go.RowKit

theorem hide {p : Prop} (h : p) : Hid p := h

/-- Block g holds just the cells cs (none of them frozen). -/
def Blk (w : World) (g : Nat) (e : TypeId) (cs : List Value) : Prop := w.heap[g]? = some (.cells cs.toArray e (0, 0))

theorem Blk.lt {w : World} {g : Nat} {e : TypeId} {cs : List Value} (h : Blk w g e cs) : g < w.heap.size := lt_of_block h

theorem Blk.at {w : World} {g : Nat} {e : TypeId} {cs : List Value} (h : Blk w g e cs) (i : Nat) : w.cell? ⟨g, i, none⟩ = cs[i]? := by
  rw [cell_of_row w g i _ e _ h]; simp

theorem Blk.free {w : World} {g : Nat} {e : TypeId} {cs : List Value} (h : Blk w g e cs) (i : Nat) : w.frozen? ⟨g, i, none⟩ = false :=
  frozen_of_row w g i _ e h

theorem Blk.set {w : World} {g : Nat} {e : TypeId} {cs : List Value} (h : Blk w g e cs) (i : Nat) (v : Value) : Blk (w.setCell ⟨g, i, none⟩ v) g e (cs.set i v) := by
  unfold Blk
  rw [heap_setCell_same w g i _ e v h]
  simp

theorem Blk.other {w : World} {g : Nat} {e : TypeId} {cs : List Value} (h : Blk w g e cs) {a : Addr} (ha : g ≠ a.block) (u : Value) : Blk (w.setCell a u) g e cs := by
  unfold Blk
  rw [heap_setCell_other w a g u ha]
  exact h

theorem Blk.alloc {w : World} {g : Nat} {e : TypeId} {cs : List Value} (h : Blk w g e cs) (o : Obj) : Blk (w.alloc o) g e cs := by
  unfold Blk
  rw [Below.heap_alloc w o g h.lt]
  exact h

theorem Blk.drew {w : World} {g : Nat} {e : TypeId} {cs : List Value} (h : Blk w g e cs) : Blk w.drew g e cs := h

theorem Blk.drewN {w : World} {g : Nat} {e : TypeId} {cs : List Value} (h : Blk w g e cs) (n : Nat) : Blk (w.drewN n) g e cs := h

theorem Blk.below {w w' : World} {g B : Nat} {e : TypeId} {cs : List Value} (h : Blk w g e cs) (hb : Below B w w') (hg : g < B) : Blk w' g e cs := (hb.block g hg).trans h

theorem Blk.new (w : World) (e : TypeId) (cs : List Value) : Blk (w.alloc (.cells cs.toArray e)) w.heap.size e cs := heap_alloc_new w _

theorem madeCells_one (z : Value) (n : Nat) : madeCells #[z] n = (List.replicate n z).toArray := by
  unfold madeCells
  apply Array.ext
  · simp
  · intro i h1 h2
    simp [Nat.mod_one]

/-! ### a block of integers -/
def Ints (w : World) (g : Nat) (e : TypeId) (k : IntKind) (xs : List Int) : Prop := Blk w g e (xs.map (Value.int k))

theorem Ints.lt {w : World} {g : Nat} {e : TypeId} {k : IntKind} {xs : List Int} (h : Ints w g e k xs) : g < w.heap.size := Blk.lt h

theorem Ints.at {w : World} {g : Nat} {e : TypeId} {k : IntKind} {xs : List Int} (h : Ints w g e k xs) {i : Nat} (hi : i < xs.length) : w.cell? ⟨g, i, none⟩ = some (.int k (xs.getD i 0)) := by
  rw [Blk.at h i]
  simp [hi]

theorem Ints.free {w : World} {g : Nat} {e : TypeId} {k : IntKind} {xs : List Int} (h : Ints w g e k xs) (i : Nat) : w.frozen? ⟨g, i, none⟩ = false := Blk.free h i

theorem Ints.set {w : World} {g : Nat} {e : TypeId} {k : IntKind} {xs : List Int} (h : Ints w g e k xs) (i : Nat) (v : Int) : Ints (w.setCell ⟨g, i, none⟩ (.int k v)) g e k (xs.set i v) := by
  unfold Ints
  rw [List.map_set]
  exact Blk.set h i _

theorem Ints.other {w : World} {g : Nat} {e : TypeId} {k : IntKind} {xs : List Int} (h : Ints w g e k xs) {a : Addr} (ha : g ≠ a.block) (u : Value) : Ints (w.setCell a u) g e k xs := Blk.other h ha u

theorem Ints.alloc {w : World} {g : Nat} {e : TypeId} {k : IntKind} {xs : List Int} (h : Ints w g e k xs) (o : Obj) : Ints (w.alloc o) g e k xs := Blk.alloc h o

theorem Ints.drew {w : World} {g : Nat} {e : TypeId} {k : IntKind} {xs : List Int} (h : Ints w g e k xs) : Ints w.drew g e k xs := h

theorem Ints.drewN {w : World} {g : Nat} {e : TypeId} {k : IntKind} {xs : List Int} (h : Ints w g e k xs) (n : Nat) : Ints (w.drewN n) g e k xs := h

theorem Ints.below {w w' : World} {g B : Nat} {e : TypeId} {k : IntKind} {xs : List Int} (h : Ints w g e k xs) (hb : Below B w w') (hg : g < B) : Ints w' g e k xs := Blk.below h hb hg

theorem Ints.made (w : World) (e : TypeId) (k : IntKind) (n : Nat) : Ints (w.alloc (.cells (madeCells (Value.int k 0).cells n) e)) w.heap.size e k (List.replicate n 0) := by
  have h1 : (Value.int k 0).cells = #[Value.int k 0] := rfl
  rw [h1, madeCells_one]
  unfold Ints
  rw [List.map_replicate]
  exact Blk.new w e _

theorem bcell {B : Nat} {W w1 : World} (hb : Below B W w1) : (∀ b o, b < B → w1.cell? ⟨b, o, none⟩ = W.cell? ⟨b, o, none⟩) ∧ (∀ b o, b < B → w1.frozen? ⟨b, o, none⟩ = W.frozen? ⟨b, o, none⟩) :=
  ⟨fun b o h => hb.cell (p := ⟨b, o, none⟩) h, fun b o h => hb.frozen (p := ⟨b, o, none⟩) h⟩

theorem ret_int {k : IntKind} {a b : Int} (h : a = b) : Ending.returned (.int k a) = .returned (.int k b) := by rw [h]

theorem below_drewN {B : Nat} {a w : World} (h : Below B a w) (n : Nat) : Below B a (w.drewN n) := ⟨h.os, h.tape, h.output, h.size, h.block⟩

/-! ### a frame: nothing but the blocks of a list has turned -/
structure Kept (S : List Nat) (w w' : World) : Prop where
  os : w'.os = w.os
  tape : w'.tape = w.tape
  output : w'.output = w.output
  size : w.heap.size ≤ w'.heap.size
  block : ∀ k, k < w.heap.size → k ∉ S → w'.heap[k]? = w.heap[k]?

theorem Kept.refl (S : List Nat) (w : World) : Kept S w w := ⟨rfl, rfl, rfl, Nat.le_refl _, fun _ _ _ => rfl⟩

theorem Kept.trans {S : List Nat} {a b c : World} (h : Kept S a b) (k : Kept S b c) : Kept S a c :=
  ⟨k.os.trans h.os, k.tape.trans h.tape, k.output.trans h.output, Nat.le_trans h.size k.size, fun i hi hs => (k.block i (Nat.lt_of_lt_of_le hi h.size) hs).trans (h.block i hi hs)⟩

theorem Kept.mono {S T : List Nat} {a b : World} (h : Kept S a b) (hs : ∀ k, k < a.heap.size → k ∈ S → k ∈ T) : Kept T a b :=
  ⟨h.os, h.tape, h.output, h.size, fun i hi ht => h.block i hi (fun e => ht (hs i hi e))⟩

theorem Kept.alloc {S : List Nat} {a w : World} (h : Kept S a w) (o : Obj) : Kept S a (w.alloc o) :=
  h.trans ⟨rfl, rfl, rfl, by simp, fun k hk _ => Below.heap_alloc _ _ _ hk⟩

theorem Kept.setCell {S : List Nat} {a w : World} (h : Kept S a w) {p : Addr} (hp : p.block ∈ S ∨ a.heap.size ≤ p.block) (u : Value) : Kept S a (w.setCell p u) :=
  ⟨h.os, h.tape, h.output, by simpa [World.setCell] using h.size, fun k hk hs => by
    rw [Below.heap_setCell _ _ _ _ (fun e => by subst e; rcases hp with hp | hp; exact hs hp; omega)]
    exact h.block k hk hs⟩

theorem Kept.drew {S : List Nat} {a w : World} (h : Kept S a w) : Kept S a w.drew := ⟨h.os, h.tape, h.output, h.size, h.block⟩

theorem Kept.drewN {S : List Nat} {a w : World} (h : Kept S a w) (n : Nat) : Kept S a (w.drewN n) := ⟨h.os, h.tape, h.output, h.size, h.block⟩

theorem Kept.below {S : List Nat} {a w w' : World} (h : Kept S a w) (hb : Below a.heap.size w w') : Kept S a w' :=
  ⟨hb.os.trans h.os, hb.tape.trans h.tape, hb.output.trans h.output, Nat.le_trans h.size hb.size, fun k hk hs => (hb.block k hk).trans (h.block k hk hs)⟩

theorem Kept.toBelow {S : List Nat} {a w : World} (h : Kept S a w) {B : Nat} (hB : B ≤ a.heap.size) (hS : ∀ k ∈ S, B ≤ k) : Below B a w :=
  ⟨h.os, h.tape, h.output, h.size, fun k hk => h.block k (by omega) (fun e => by have := hS k e; omega)⟩

theorem Kept.blk {S : List Nat} {w w' : World} (h : Kept S w w') {g : Nat} {e : TypeId} {cs : List Value} (hb : Blk w g e cs) (hg : g ∉ S) : Blk w' g e cs := (h.block g hb.lt hg).trans hb

theorem Kept.ints {S : List Nat} {w w' : World} (h : Kept S w w') {g : Nat} {e : TypeId} {k : IntKind} {xs : List Int} (hb : Ints w g e k xs) (hg : g ∉ S) : Ints w' g e k xs := h.blk hb hg

theorem grown_kept {w w' : World} {v : Value} (h : w.grownBy w' v.ownBlock) {g : Nat} (hg : ∀ k, v.ownBlock = some k → k = g) : Kept [g] w w' :=
  ⟨h.os, h.tape, h.output, h.size, fun k hk hs => h.block k hk (fun e => hs (by simp [hg k e.symm]))⟩

end Go.Proofs.Ybulkbtow
