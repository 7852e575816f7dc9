/-
  What comes in: a row of cells, seen as a function of the place.
-/
import Derived.Test.YbulkbtlqRows
import Derived.WalkKit
import Derived.ProofKit
import Derived.OpenShut
import Derived.Below
namespace Go.Proofs.Ybulkbtlq
open Go.ChangeShapes Go.WideShapes Go.ChangeAt Go.RowKit
set_option linter.unusedVariables false

/-- A slice that came in: no element, or a row of cells f 0, f 1, .. -/
def Row (w : World) (a : Option Addr) (len : Nat) (f : Nat → Value) : Prop := (a = none ∧ len = 0) ∨ ∃ x, a = some x ∧ ∀ i, i < len → w.cell? (x.add i) = some (f i)

section
variable {H : Type} {enc : TypeId × Value → H} {P : Program} {w : World} {base : Nat} {spare : Nat → Bool} {held : Bool}

theorem pick_fn {α : Type} (d : α) (p : Nat → α → Prop) (n : Nat) (h : ∀ i, i < n → ∃ x, p i x) : ∃ f : Nat → α, ∀ i, i < n → p i (f i) := by
  refine ⟨fun i => if hi : i < n then Classical.choose (h i hi) else d, fun i hi => ?_⟩
  simp only [hi, dif_pos]
  exact Classical.choose_spec (h i hi)

theorem open_bools {t e : TypeId} {fuel : Nat} {a : Option Addr} {len cap : Nat} {x : DataW H × List MemPlace} (ht : P.underlying t = some (.slice e)) (he : P.underlying e = some .bool) (hc : P.cellsOf e = 1)
    (h : DataW.trod enc P w base spare held fuel t [.slice a len cap] = some x) : ∃ f : Nat → Bool, Row w a len (fun i => .bool (f i)) := by
  rcases DataW.trod_slice ht h with ⟨h0, _⟩ | ⟨a', len', cap', elems, rest, n, _, hcs, rfl, hb, hl, hm, hlen, hel, hsp, hns⟩
  · simp at h0
    exact ⟨fun _ => false, .inl ⟨h0.1, h0.2.1⟩⟩
  · simp at hcs
    obtain ⟨rfl, rfl, rfl⟩ := hcs
    obtain ⟨f, hf⟩ := pick_fn false (fun i b => w.cell? (a'.add i) = some (.bool b)) len (by
      intro i hi
      have hE := hel i hi
      rw [hc, Nat.mul_one] at hE
      have hs : elems[i]? = some elems[i] := List.getElem?_eq_getElem (by omega)
      rw [hs, Option.bind_eq_some_iff] at hE
      obtain ⟨cs', hcs, hy⟩ := hE
      obtain ⟨b, rfl, _⟩ := DataW.trod_bool he hy
      exact ⟨b, cell_of_cells?_one hcs⟩)
    exact ⟨f, .inr ⟨a', rfl, hf⟩⟩

theorem open_nums {t e : TypeId} {k : IntKind} {fuel : Nat} {a : Option Addr} {len cap : Nat} {x : DataW H × List MemPlace} (ht : P.underlying t = some (.slice e)) (he : P.underlying e = some (.int k)) (hc : P.cellsOf e = 1)
    (h : DataW.trod enc P w base spare held fuel t [.slice a len cap] = some x) : ∃ f : Nat → Int, Row w a len (fun i => .int k (f i)) ∧ ∀ i, i < len → (Lit.int k (f i)).wf = true := by
  rcases DataW.trod_slice ht h with ⟨h0, _⟩ | ⟨a', len', cap', elems, rest, n, _, hcs, rfl, hb, hl, hm, hlen, hel, hsp, hns⟩
  · simp at h0
    exact ⟨fun _ => 0, .inl ⟨h0.1, h0.2.1⟩, fun i hi => by omega⟩
  · simp at hcs
    obtain ⟨rfl, rfl, rfl⟩ := hcs
    obtain ⟨f, hf⟩ := pick_fn (0 : Int) (fun i z => w.cell? (a'.add i) = some (.int k z) ∧ (Lit.int k z).wf = true) len (by
      intro i hi
      have hE := hel i hi
      rw [hc, Nat.mul_one] at hE
      have hs : elems[i]? = some elems[i] := List.getElem?_eq_getElem (by omega)
      rw [hs, Option.bind_eq_some_iff] at hE
      obtain ⟨cs', hcs, hy⟩ := hE
      obtain ⟨m, rfl, _, hw⟩ := DataW.trod_int he hy
      exact ⟨m, cell_of_cells?_one hcs, hw⟩)
    exact ⟨f, .inr ⟨a', rfl, fun i hi => (hf i hi).1⟩, fun i hi => (hf i hi).2⟩
end
end Go.Proofs.Ybulkbtlq
