/-
  BModel: what comes in, opened: rows of contacts, of spares and of ports
-/
import Derived.Test.YbulkbtowRows
import Derived.WalkKit
import Derived.ProofKit
import Derived.OpenShut
import Derived.Below
namespace Go.Proofs.Ybulkbtow
open Go.ChangeShapes Go.WideShapes Go.ChangeAt Go.RowKit
set_option linter.unusedVariables false

section
variable {H : Type} {enc : TypeId × Value → H} {w : World} {base : Nat} {spare : Nat → Bool} {held : Bool}

theorem pick_fn {α : Type} (d : α) (p : Nat → α → Prop) (n : Nat) (h : ∀ i, i < n → ∃ x, p i x) : ∃ f : Nat → α, ∀ i, i < n → p i (f i) := by
  refine ⟨fun i => if hi : i < n then Classical.choose (h i hi) else d, fun i hi => ?_⟩
  simp only [hi, dif_pos]
  exact Classical.choose_spec (h i hi)

theorem cells34 : Yba.prog.cellsOf 34 = 3 := by kernel_rfl
theorem cells62 : Yba.prog.cellsOf 62 = 2 := by kernel_rfl
theorem cells25 : Yba.prog.cellsOf 25 = 1 := by kernel_rfl
theorem cells5 : Yba.prog.cellsOf 5 = 1 := by kernel_rfl
theorem cells32 : Yba.prog.cellsOf 32 = 1 := by kernel_rfl
theorem cells4 : Yba.prog.cellsOf 4 = 1 := by kernel_rfl

/-- A cell beside another. -/
theorem beside {v : Value} {a : Addr} {k : Nat} (hk : k ≠ 0) (h : w.cell? (a.add k) = some v) : w.cell? ⟨a.block, a.off + k, none⟩ = some v := by
  have e : a.add k = ⟨a.block, a.off + k, none⟩ := by simp [Addr.add, hk]
  rw [← e]
  exact h
theorem beside0 {v : Value} {a : Addr} (h : w.cell? (a.add 0) = some v) : w.cell? a = some v := by
  have e : a.add 0 = a := by simp [Addr.add]
  rw [← e]
  exact h
theorem len2 {α : Type} {l : List α} (h : l.length = 2) : ∃ a b, l = [a, b] := by
  match l, h with
  | [a, b], _ => exact ⟨a, b, rfl⟩
theorem len3 {α : Type} {l : List α} (h : l.length = 3) : ∃ a b c, l = [a, b, c] := by
  match l, h with
  | [a, b, c], _ => exact ⟨a, b, c, rfl⟩

theorem open_ports {fuel : Nat} {a : Option Addr} {len cap : Nat} {x : DataW H × List MemPlace} (h : DataW.trod enc Yba.prog w base spare held fuel 24 [.slice a len cap] = some x) :
    ∃ f : Nat → Int, (len = 0 ∨ ∃ x, a = some x ∧ x.block < w.heap.size ∧ ∀ i, i < len → w.cell? (x.add i) = some (.int .u16 (f i))) := by
  rcases DataW.trod_slice Yba.underlying24 h with ⟨h0, _⟩ | ⟨a', len', cap', elems, rest, n, _, hcs, rfl, hb, hl, hm, hlen, hel, hsp, hns⟩
  · simp at h0
    exact ⟨fun _ => 0, .inl h0.2.1⟩
  · simp at hcs
    obtain ⟨rfl, rfl, rfl⟩ := hcs
    obtain ⟨f, hf⟩ := pick_fn (0 : Int) (fun i z => w.cell? (a'.add i) = some (.int .u16 z)) len (by
      intro i hi
      have hE := hel i hi
      rw [cells25, Nat.mul_one] at hE
      have hs : elems[i]? = some elems[i] := List.getElem?_eq_getElem (by omega)
      rw [hs, Option.bind_eq_some_iff] at hE
      obtain ⟨cs', hcs, hy⟩ := hE
      obtain ⟨m, rfl, _, hw⟩ := DataW.trod_int Yba.underlying25 hy
      exact ⟨m, cell_of_cells?_one hcs⟩)
    refine ⟨f, ?_⟩
    by_cases h0 : len = 0
    · exact .inl h0
    · exact .inr ⟨a', rfl, Go.block_lt_of_cell (hf 0 (by omega)), hf⟩

theorem open_spares {fuel : Nat} {a : Option Addr} {len cap : Nat} {x : DataW H × List MemPlace} (h : DataW.trod enc Yba.prog w base spare held fuel 23 [.slice a len cap] = some x) :
    ∃ (f : Nat → Bool) (g : Nat → Int), (len = 0 ∨ ∃ x, a = some x ∧ x.block < w.heap.size ∧ ∀ i, i < len → w.cell? (x.add (i * 2)) = some (.bool (f i)) ∧ w.cell? ⟨(x.add (i * 2)).block, (x.add (i * 2)).off + 1, none⟩ = some (.int .u16 (g i))) := by
  rcases DataW.trod_slice Yba.underlying23 h with ⟨h0, _⟩ | ⟨a', len', cap', elems, rest, n, _, hcs, rfl, hb, hl, hm, hlen, hel, hsp, hns⟩
  · simp at h0
    exact ⟨fun _ => false, fun _ => 0, .inl h0.2.1⟩
  · simp at hcs
    obtain ⟨rfl, rfl, rfl⟩ := hcs
    obtain ⟨f, hf⟩ := pick_fn ((false, 0) : Bool × Int) (fun i z => w.cell? (a'.add (i * 2)) = some (.bool z.1) ∧ w.cell? ⟨(a'.add (i * 2)).block, (a'.add (i * 2)).off + 1, none⟩ = some (.int .u16 z.2)) len (by
      intro i hi
      have hE := hel i hi
      rw [cells62] at hE
      have hs : elems[i]? = some elems[i] := List.getElem?_eq_getElem (by omega)
      rw [hs, Option.bind_eq_some_iff] at hE
      obtain ⟨cs', hcs, hy⟩ := hE
      obtain ⟨_, hcl, hc⟩ := World.cells?_some hcs
      obtain ⟨ys, m, _, _, _, hyl, hyf⟩ := DataW.trod_struct Yba.underlying62 hy
      obtain ⟨c0, c1, rfl⟩ := len2 hcl
      · have hyl' : ys.length = 2 := hyl
        have y0 : DataW.trod enc Yba.prog w base spare held m 4 (([c0, c1].drop 0).take (Yba.prog.cellsOf 4)) = ys[0]? := hyf 0 _ rfl
        rw [cells4] at y0
        have y0 : DataW.trod enc Yba.prog w base spare held m 4 [c0] = ys[0]? := y0
        have y1 : DataW.trod enc Yba.prog w base spare held m 25 (([c0, c1].drop 1).take (Yba.prog.cellsOf 25)) = ys[1]? := hyf 1 _ rfl
        rw [cells25] at y1
        have y1 : DataW.trod enc Yba.prog w base spare held m 25 [c1] = ys[1]? := y1
        have l0 : ys[0]? = some (ys[0]'(by omega)) := List.getElem?_eq_getElem _
        have l1 : ys[1]? = some (ys[1]'(by omega)) := List.getElem?_eq_getElem _
        rw [l0] at y0
        rw [l1] at y1
        obtain ⟨b, hb, _⟩ := DataW.trod_bool Yba.underlying4 y0
        obtain ⟨q, hq, _⟩ := DataW.trod_int Yba.underlying25 y1
        simp at hb hq
        subst hb
        subst hq
        have d0 := hc 0 (by decide)
        have d1 := hc 1 (by decide)
        exact ⟨(b, q), beside0 d0, beside (by decide) d1⟩)
    refine ⟨fun i => (f i).1, fun i => (f i).2, ?_⟩
    by_cases h0 : len = 0
    · exact .inl h0
    · exact .inr ⟨a', rfl, by have := Go.block_lt_of_cell (hf 0 (by omega)).1; simpa [Addr.add] using this, hf⟩

theorem open_contacts {fuel : Nat} {a : Option Addr} {len cap : Nat} {x : DataW H × List MemPlace} (h : DataW.trod enc Yba.prog w base spare held fuel 22 [.slice a len cap] = some x) :
    ∃ (f g k : Nat → Int), (len = 0 ∨ ∃ x, a = some x ∧ x.block < w.heap.size ∧ ∀ i, i < len → w.cell? (x.add (i * 3)) = some (.int .u8 (f i)) ∧ w.cell? ⟨(x.add (i * 3)).block, (x.add (i * 3)).off + 1, none⟩ = some (.int .u16 (g i)) ∧ w.cell? ⟨(x.add (i * 3)).block, (x.add (i * 3)).off + 2, none⟩ = some (.int .i8 (k i))) ∧
      ∀ i, i < len → (Lit.int .u8 (f i)).wf = true ∧ (Lit.int .i8 (k i)).wf = true := by
  rcases DataW.trod_slice Yba.underlying22 h with ⟨h0, _⟩ | ⟨a', len', cap', elems, rest, n, _, hcs, rfl, hb, hl, hm, hlen, hel, hsp, hns⟩
  · simp at h0
    exact ⟨fun _ => 0, fun _ => 0, fun _ => 0, .inl h0.2.1, fun i hi => by omega⟩
  · simp at hcs
    obtain ⟨rfl, rfl, rfl⟩ := hcs
    obtain ⟨f, hf⟩ := pick_fn ((0, 0, 0) : Int × Int × Int) (fun i z => (w.cell? (a'.add (i * 3)) = some (.int .u8 z.1) ∧ w.cell? ⟨(a'.add (i * 3)).block, (a'.add (i * 3)).off + 1, none⟩ = some (.int .u16 z.2.1) ∧ w.cell? ⟨(a'.add (i * 3)).block, (a'.add (i * 3)).off + 2, none⟩ = some (.int .i8 z.2.2)) ∧ (Lit.int .u8 z.1).wf = true ∧ (Lit.int .i8 z.2.2).wf = true) len (by
      intro i hi
      have hE := hel i hi
      rw [cells34] at hE
      have hs : elems[i]? = some elems[i] := List.getElem?_eq_getElem (by omega)
      rw [hs, Option.bind_eq_some_iff] at hE
      obtain ⟨cs', hcs, hy⟩ := hE
      obtain ⟨_, hcl, hc⟩ := World.cells?_some hcs
      obtain ⟨ys, m, _, _, _, hyl, hyf⟩ := DataW.trod_struct Yba.underlying34 hy
      obtain ⟨c0, c1, c2, rfl⟩ := len3 hcl
      · have hyl' : ys.length = 3 := hyl
        have y0 : DataW.trod enc Yba.prog w base spare held m 5 (([c0, c1, c2].drop 0).take (Yba.prog.cellsOf 5)) = ys[0]? := hyf 0 _ rfl
        rw [cells5] at y0
        have y0 : DataW.trod enc Yba.prog w base spare held m 5 [c0] = ys[0]? := y0
        have y1 : DataW.trod enc Yba.prog w base spare held m 25 (([c0, c1, c2].drop 1).take (Yba.prog.cellsOf 25)) = ys[1]? := hyf 1 _ rfl
        rw [cells25] at y1
        have y1 : DataW.trod enc Yba.prog w base spare held m 25 [c1] = ys[1]? := y1
        have y2 : DataW.trod enc Yba.prog w base spare held m 32 (([c0, c1, c2].drop 2).take (Yba.prog.cellsOf 32)) = ys[2]? := hyf 2 _ rfl
        rw [cells32] at y2
        have y2 : DataW.trod enc Yba.prog w base spare held m 32 [c2] = ys[2]? := y2
        have l0 : ys[0]? = some (ys[0]'(by omega)) := List.getElem?_eq_getElem _
        have l1 : ys[1]? = some (ys[1]'(by omega)) := List.getElem?_eq_getElem _
        have l2 : ys[2]? = some (ys[2]'(by omega)) := List.getElem?_eq_getElem _
        rw [l0] at y0
        rw [l1] at y1
        rw [l2] at y2
        obtain ⟨p, hp, _, wp⟩ := DataW.trod_int Yba.underlying5 y0
        obtain ⟨q, hq, _, wq⟩ := DataW.trod_int Yba.underlying25 y1
        obtain ⟨r, hr, _, wr⟩ := DataW.trod_int Yba.underlying32 y2
        simp at hp hq hr
        subst hp
        subst hq
        subst hr
        have d0 := hc 0 (by decide)
        have d1 := hc 1 (by decide)
        have d2 := hc 2 (by decide)
        exact ⟨(p, q, r), ⟨beside0 d0, beside (by decide) d1, beside (by decide) d2⟩, wp, wr⟩)
    refine ⟨fun i => (f i).1, fun i => (f i).2.1, fun i => (f i).2.2, ?_, fun i hi => (hf i hi).2⟩
    by_cases h0 : len = 0
    · exact .inl h0
    · exact .inr ⟨a', rfl, by have := Go.block_lt_of_cell (hf 0 (by omega)).1.1; simpa [Addr.add] using this, fun i hi => (hf i hi).1⟩
end
end Go.Proofs.Ybulkbtow
