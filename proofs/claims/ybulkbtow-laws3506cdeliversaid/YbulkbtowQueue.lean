/-
  LawS3506CDeliver: the plain facts of its walk: the bytes' copy, the queue's cells.
-/
import Derived.Test.YbulkbtowTry
import Derived.Test.YbulkbtowFill
namespace Go.Proofs.Ybulkbtow
open Go.RowKit Go.Conc
set_option linter.unusedVariables false

/-- The copy of the bytes that came in: nil, or a row of a block that the call made. -/
def Held (w : World) (ba : Option Addr) (len : Nat) (zs : List Int) : Prop :=
  (ba = none ∧ len = 0 ∧ zs = []) ∨ ∃ g cs, ba = some ⟨g, 0, none⟩ ∧ Blk w g 5 cs ∧ zs.length = len ∧ ∀ i, i < len → cs[i]? = some (.int .u8 (zs.getD i 0))

theorem Held.of_own {w : World} {B : Nat} {qa : Option Addr} {qc len : Nat} {zs : List Int} (h : w.ownsRow B 5 1 (.slice qa len qc) len (zs.map (Value.int .u8))) : Held w qa len zs := by
  obtain ⟨h1, h2⟩ := h
  rcases h2 with ⟨hv, hn⟩ | ⟨g, cap, cur, hv, _, hh, hnc, _, hcs, htk⟩
  · simp only [Value.slice.injEq] at hv
    subst hn
    simp at h1
    exact .inl ⟨hv.1, rfl, h1⟩
  · simp only [Value.slice.injEq] at hv
    simp at h1
    refine .inr ⟨g, cur.toList, hv.1, hh, h1, fun i hi => ?_⟩
    have h3 : (cur.toList.take (len * 1))[i]? = cur.toList[i]? := by rw [List.getElem?_take, if_pos (by omega)]
    rw [← h3, htk]
    have hi' : i < zs.length := by omega
    simp [hi']

theorem Held.keep {w w' : World} {ba : Option Addr} {len : Nat} {zs : List Int} (h : Held w ba len zs) (hb : Below w.heap.size w w') : Held w' ba len zs := by
  rcases h with h | ⟨g, cs, h1, h2, h3⟩
  · exact .inl h
  · exact .inr ⟨g, cs, h1, h2.below hb h2.lt, h3⟩

theorem Held.kept {w w' : World} {ba : Option Addr} {len : Nat} {zs : List Int} {g : Nat} {e : TypeId} {cs : List Value} (h : Held w ba len zs) (hk : Kept [g] w w') (hb : Blk w g e cs) (he : (5 : TypeId) ≠ e) : Held w' ba len zs := by
  rcases h with h | ⟨g', cs', h1, h2, h3⟩
  · exact .inl h
  · exact .inr ⟨g', cs', h1, hk.blk h2 (by simp; exact h2.ne hb he), h3⟩

/-- The queue's cells: no bytes, and the ports 0, 1, .. of the first j. -/
def QI (cs : List Value) (n j : Nat) : Prop :=
  cs.length = n * 5 ∧ ∀ i, i < n → cs[i * 5]? = some (.slice none 0 0) ∧ cs[i * 5 + 1]? = some (.int .u64 0) ∧ cs[i * 5 + 2]? = some (.int .u64 0) ∧ cs[i * 5 + 3]? = some (.pointer none) ∧ cs[i * 5 + 4]? = some (.int .u16 (if i < j then (i : Int) else 0))

theorem QI.step {cs : List Value} {n j : Nat} (h : QI cs n j) (hj : j < n) : QI ((((cs.set (j * 5 + 1) (.int .u64 0)).set (j * 5 + 2) (.int .u64 0)).set (j * 5 + 3) (.pointer none)).set (j * 5 + 4) (.int .u16 (j : Int))) n (j + 1) := by
  obtain ⟨hl, hc⟩ := h
  refine ⟨by simp [hl], fun i hi => ?_⟩
  obtain ⟨c0, c1, c2, c3, c4⟩ := hc i hi
  simp only [List.getElem?_set, List.length_set]
  have hl1 : j * 5 + 1 < cs.length := by omega
  have hl2 : j * 5 + 2 < cs.length := by omega
  have hl3 : j * 5 + 3 < cs.length := by omega
  have hl4 : j * 5 + 4 < cs.length := by omega
  simp only [hl1, hl2, hl3, hl4, if_true]
  by_cases hij : i = j
  · subst hij
    refine ⟨?_, ?_, ?_, ?_, ?_⟩
    · rw [if_neg (by omega), if_neg (by omega), if_neg (by omega), if_neg (by omega)]; exact c0
    · rw [if_neg (by omega), if_neg (by omega), if_neg (by omega), if_pos rfl]
    · rw [if_neg (by omega), if_neg (by omega), if_pos rfl]
    · rw [if_neg (by omega), if_pos rfl]
    · rw [if_pos rfl, if_pos (by omega)]
  · have e : (if i < j + 1 then (i : Int) else 0) = if i < j then (i : Int) else 0 := by
      by_cases h : i < j
      · rw [if_pos h, if_pos (by omega)]
      · rw [if_neg h, if_neg (by omega)]
    rw [e]
    refine ⟨?_, ?_, ?_, ?_, ?_⟩ <;> (rw [if_neg (by omega), if_neg (by omega), if_neg (by omega), if_neg (by omega)]; assumption)

/-- 'make([]memoryDatagram, n)'. -/
theorem make87 (n : Nat) (hn : n ≤ 1030) (w : World) : (Instr.makeSlice 87 (.int .i64 (n : Int)) (.int .i64 (n : Int))).run Yba.prog w =
    .ok (.slice (some ⟨w.heap.size, 0, none⟩) n n) (w.alloc (.cells (madeCells #[.slice none 0 0, .int .u64 0, .int .u64 0, .pointer none, .int .u16 0] (n * 5)) 91)) := by
  obtain ⟨i, hi, hz0, hz1, hz2⟩ := info_parts Yba.info91
  have h := run_make (P := Yba.prog) w 87 91 i _ Yba.underlying87 hi hz0 .i64 .i64 (n : Int) (n : Int) (by omega) (by omega) (by rw [hz2]; omega) (by omega)
  have e : (Value.agg #[.slice none 0 0, .int .u64 0, .int .u64 0, .pointer none, .int .u16 0]).cells = #[.slice none 0 0, .int .u64 0, .int .u64 0, .pointer none, .int .u16 0] := by rfl
  rw [e] at h
  simpa [hz1] using h

/-- The block that it makes. -/
theorem made87 (n : Nat) (w : World) : ∃ cs, Blk (w.alloc (.cells (madeCells #[.slice none 0 0, .int .u64 0, .int .u64 0, .pointer none, .int .u16 0] (n * 5)) 91)) w.heap.size 91 cs ∧ QI cs n 0 := by
  refine ⟨(madeCells #[.slice none 0 0, .int .u64 0, .int .u64 0, .pointer none, .int .u16 0] (n * 5)).toList, heap_alloc_new w _, by simp [size_madeCells], fun i hi => ?_⟩
  have hat : ∀ c v, c < 5 → (#[Value.slice none 0 0, .int .u64 0, .int .u64 0, .pointer none, .int .u16 0] : Array Value)[c]? = some v → (madeCells #[.slice none 0 0, .int .u64 0, .int .u64 0, .pointer none, .int .u16 0] (n * 5)).toList[i * 5 + c]? = some v := by
    intro c v hc hv
    unfold madeCells
    have hlt : i * 5 + c < n * 5 := by omega
    simp [hlt]
    rw [Nat.mod_eq_of_lt hc]
    simp at hv
    rw [hv]
    rfl
  refine ⟨hat 0 _ (by omega) rfl, hat 1 _ (by omega) rfl, hat 2 _ (by omega) rfl, hat 3 _ (by omega) rfl, ?_⟩
  rw [if_neg (by omega)]
  exact hat 4 _ (by omega) rfl

theorem Blk.below' {w w' : World} {g : Nat} {e : TypeId} {cs : List Value} (h : Blk w g e cs) (hb : Below w.heap.size w w') : Blk w' g e cs := h.below hb h.lt

end Go.Proofs.Ybulkbtow
