/-
  BModel: the rows of contacts: one of them grows, the others stay.
-/
import Derived.Test.YbulkbtowMSys
namespace Go.Proofs.Ybulkbtow
open Go.RowKit
set_option linter.unusedVariables false

/-- N rows of pointers to contacts, no two in one block, none in block bs. -/
structure R58 (H N bs : Nat) (rv : Nat → Value) (rl : Nat → List Value) (w : World) : Prop where
  row : ∀ r, r < N → Lst w H 58 (rv r) (rl r)
  dis : ∀ r r', r < N → r' < N → r ≠ r' → ∀ g, (rv r).ownBlock = some g → (rv r').ownBlock ≠ some g
  off : ∀ r, r < N → (rv r).ownBlock ≠ some bs

theorem grown_to {w w' : World} {row : Option Nat} (h : w.grownBy w' row) : Kept row.toList w w' :=
  ⟨h.os, h.tape, h.output, h.size, fun k hk hs => h.block k hk (fun e => hs (by rw [← e]; simp))⟩

theorem Lst.lt {w : World} {H : Nat} {e : TypeId} {v : Value} {xs : List Value} (h : Lst w H e v xs) {g : Nat} (hg : v.ownBlock = some g) : g < w.heap.size := by
  obtain ⟨cs, hb, _⟩ := h.type hg
  exact hb.lt

theorem R58.kept {H N bs : Nat} {rv : Nat → Value} {rl : Nat → List Value} {w w' : World} (h : R58 H N bs rv rl w) {S : List Nat} (hk : Kept S w w') (hS : ∀ r, r < N → ∀ g, (rv r).ownBlock = some g → g ∉ S) : R58 H N bs rv rl w' :=
  ⟨fun r hr => (h.row r hr).kept hk (fun g hg => hS r hr g hg), h.dis, h.off⟩

/-- One row has grown by an append. -/
theorem R58.grow {H N bs : Nat} {rv : Nat → Value} {rl : Nat → List Value} {w w' : World} (h : R58 H N bs rv rl w) {r : Nat} (hr : r < N) {v' : Value} {ys : List Value} (hbs : bs < w.heap.size) (ho : Lst w' H 58 v' ys) (hg : w.grownBy w' (rv r).ownBlock) (hb : v'.ownBlock = (rv r).ownBlock ∨ v'.ownBlock = some w.heap.size) : R58 H N bs (upv rv r v') (upv rl r ys) w' := by
  have fresh : ∀ r', r' < N → r' ≠ r → ∀ g, (rv r').ownBlock = some g → v'.ownBlock ≠ some g := by
    intro r' hr' hne g hg' hv
    rcases hb with e | e
    · rw [e] at hv
      exact h.dis r r' hr hr' (fun e => hne e.symm) g hv hg'
    · rw [e] at hv
      have := (h.row r' hr').lt hg'
      simp at hv
      omega
  refine ⟨fun r' hr' => ?_, fun a b ha hb' hab g hg' => ?_, fun a ha => ?_⟩
  · by_cases e : r' = r
    · subst e
      rw [upv_same, upv_same]
      exact ho
    · rw [upv_other _ _ e, upv_other _ _ e]
      refine (h.row r' hr').kept (grown_to hg) (fun g hg' => ?_)
      simp only [Option.mem_toList]
      intro e'
      exact h.dis r' r hr' hr e g hg' e'
  · by_cases ea : a = r
    · subst ea
      rw [upv_same] at hg'
      rw [upv_other _ _ (fun e => hab e.symm)]
      intro e'
      exact fresh b hb' (fun e => hab e.symm) g e' hg'
    · rw [upv_other _ _ ea] at hg'
      by_cases eb : b = r
      · subst eb
        rw [upv_same]
        exact fresh a ha ea g hg'
      · rw [upv_other _ _ eb]
        exact h.dis a b ha hb' hab g hg'
  · by_cases e : a = r
    · subst e
      rw [upv_same]
      rcases hb with e | e
      · rw [e]; exact h.off a ha
      · rw [e]; simp; omega
    · rw [upv_other _ _ e]
      exact h.off a ha

theorem info58 : (Yba.prog.info? 58).map (fun i => (i.zero, i.size, i.bytes)) = some (some (.pointer none), 1, 8) := by kernel_rfl
theorem info57 : (Yba.prog.info? 57).map (fun i => (i.zero, i.size, i.bytes)) = some (some (.pointer none), 1, 8) := by kernel_rfl
theorem info68 : (Yba.prog.info? 68).map (fun i => (i.zero, i.size, i.bytes)) = some (some (.pointer none), 1, 8) := by kernel_rfl
theorem info3 : (Yba.prog.info? 3).map (fun i => (i.zero, i.size, i.bytes)) = some (some (.int .i64 0), 1, 8) := by kernel_rfl
theorem info25 : (Yba.prog.info? 25).map (fun i => (i.zero, i.size, i.bytes)) = some (some (.int .u16 0), 1, 2) := by kernel_rfl
theorem info56 : (Yba.prog.info? 56).map (fun i => (i.zero, i.size, i.bytes)) = some (some (.slice none 0 0), 1, 24) := by kernel_rfl

/-- 'append(v, x)' on a row of the call's own, x a one-cell value that lies alone in a block. -/
theorem wpList_app1 (w : World) {ops : Array Oper} {rest : List Oper} {o : Oper} {a : Act} {Q : Exit → Act → World → Prop} (hgd : o.guard = none) (s x : Operand) (t : TypeId)
    (ho : o.op = .call { callee := .builtin .append, args := #[s, x], argTypes := #[t, t] })
    (H : Nat) (e : TypeId) (z : Value) (bytes : Nat) (hinfo : (Yba.prog.info? e).map (fun i => (i.zero, i.size, i.bytes)) = some (some z, 1, bytes)) (hz : z.cells.size = 1) (hbs : bytes ≤ 24) (ht : Yba.prog.underlying t = some (.slice e))
    (v : Value) (xs : List Value) (hs : a.eval s = v) (hown : Lst w H e v xs) (hlen : xs.length ≤ 100000)
    (ad : Nat) (c : Nat) (y : Value) (hx : a.eval x = .slice (some ⟨ad, 0, none⟩) 1 c) (hy : w.cell? ⟨ad, 0, none⟩ = some y) (h1 : y.oneCell' = true) (hH : H ≤ w.heap.size)
    (h : ∀ v' w', Lst w' H e v' (xs ++ [y]) → w.grownBy w' v.ownBlock → (v'.ownBlock = v.ownBlock ∨ v'.ownBlock = some w.heap.size) → wpList Yba.prog ops Q rest (a.put o.dst v') w') : wpList Yba.prog ops Q (o :: rest) a w := by
  obtain ⟨i, hi, hz0, hz1, hz2⟩ := info_parts hinfo
  refine wpList_append_own2 w hgd s x t ho H e i z 1 bytes ht hi hz0 hz1 hz2 hz (by decide) v xs.length xs hs hown ⟨ad, 0, none⟩ 1 c [y] hx rfl ?_ ?_ ?_ ?_ hH ?_
  · intro j u hj
    match j, hj with
    | 0, hj =>
      simp at hj
      subst hj
      exact hy
  · intro u hu
    simp at hu
    subst hu
    exact h1
  · unfold maxLen; omega
  · have : (xs.length + 1) * bytes ≤ (xs.length + 1) * 24 := Nat.mul_le_mul_left _ hbs
    omega
  · intro v' w' h1 h2 h3
    refine h v' w' ?_ h2 h3
    unfold Lst
    simpa using h1

theorem step_app1 (w : World) {ops : Array Oper} {o : Oper} {a : Act} {K : Act → World → Prop} {Q : Exit → Act → World → Prop} {E : Prop} (hgd : o.guard = none) (s x : Operand) (t : TypeId)
    (ho : o.op = .call { callee := .builtin .append, args := #[s, x], argTypes := #[t, t] })
    (H : Nat) (e : TypeId) (z : Value) (bytes : Nat) (hinfo : (Yba.prog.info? e).map (fun i => (i.zero, i.size, i.bytes)) = some (some z, 1, bytes)) (hz : z.cells.size = 1) (hbs : bytes ≤ 24) (ht : Yba.prog.underlying t = some (.slice e))
    (v : Value) (xs : List Value) (hs : a.eval s = v) (hown : Lst w H e v xs) (hlen : xs.length ≤ 100000)
    (ad : Nat) (c : Nat) (y : Value) (hx : a.eval x = .slice (some ⟨ad, 0, none⟩) 1 c) (hy : w.cell? ⟨ad, 0, none⟩ = some y) (h1 : y.oneCell' = true) (hH : H ≤ w.heap.size)
    (h : ∀ v' w', Lst w' H e v' (xs ++ [y]) → w.grownBy w' v.ownBlock → (v'.ownBlock = v.ownBlock ∨ v'.ownBlock = some w.heap.size) → K (a.put o.dst v') w') :
    if Region.wanted o (yielded ops a.tmps) = true then Oper.wp Yba.prog o a w K Q else E := by
  obtain ⟨i, hi, hz0, hz1, hz2⟩ := info_parts hinfo
  refine step_append_own2 hgd s x t ho H e i z 1 bytes ht hi hz0 hz1 hz2 hz (by decide) v xs.length xs hs hown ⟨ad, 0, none⟩ 1 c [y] hx rfl ?_ ?_ ?_ ?_ hH ?_
  · intro j u hj
    match j, hj with
    | 0, hj =>
      simp at hj
      subst hj
      exact hy
  · intro u hu
    simp at hu
    subst hu
    exact h1
  · unfold maxLen; omega
  · have : (xs.length + 1) * bytes ≤ (xs.length + 1) * 24 := Nat.mul_le_mul_left _ hbs
    omega
  · intro v' w' h1 h2 h3
    refine h v' w' ?_ h2 h3
    unfold Lst
    simpa using h1

end Go.Proofs.Ybulkbtow
