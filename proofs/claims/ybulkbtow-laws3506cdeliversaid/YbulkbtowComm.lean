/-
  A walk at a fixed frame ('WpAt'): for a function in which a channel is sent to or selected on, between pieces that the plain walk takes.
-/
import Derived.Test.YbulkbtowRows
import Derived.Test.YbulkbtowHeap
import Derived.Conc.LoneCalls
import Derived.Conc.LoneSelectN
namespace Go.Proofs.Ybulkbtow
open Go.RowKit Go.Conc
set_option linter.unusedVariables false

def WpAt (P : Program) (b : Frame) (c : Code) (Q : Exit → Act → World → Prop) (a : Act) (w : World) : Prop :=
  ∀ (k : List Item) (cs : List Frame), ∃ e a' w', Q e a' w' ∧ Arrives P (lone (b.at a (.code c :: k)) cs w) b k cs e a' w'

section
variable {P : Program} {b : Frame} {Q : Exit → Act → World → Prop} {a : Act} {w : World}

theorem WpAt.of_wp {c : Code} (h : c.wp P Q a w) : WpAt P b c Q a w := fun k cs => h b k cs

theorem WpAt.seq {x y : Code} (h : WpAt P b x (Exit.then (WpAt P b y Q) Q) a w) : WpAt P b (.seq x y) Q a w := by
  intro k cs
  obtain ⟨e, a₁, w₁, hq, harr⟩ := h (.code y :: k) cs
  cases e with
  | normal =>
    obtain ⟨e₂, a₂, w₂, hq₂, harr₂⟩ := hq k cs
    exact ⟨e₂, a₂, w₂, hq₂, .of_steps (.head step_seq harr) harr₂⟩
  | exit id => exact ⟨_, a₁, w₁, hq, .of_steps (.one step_seq) (.pass (x := .code y) rfl (fun _ _ => .inl (by simp)) harr)⟩
  | goto l => exact ⟨_, a₁, w₁, hq, .of_steps (.one step_seq) (.pass (x := .code y) rfl (fun _ _ => .inl (by simp)) harr)⟩
  | ret => exact ⟨_, a₁, w₁, hq, .of_steps (.one step_seq) (.pass (x := .code y) rfl (fun _ _ => .inl (by simp)) harr)⟩
  | panic ch => exact ⟨_, a₁, w₁, hq, .of_steps (.one step_seq) (.pass (x := .code y) rfl (fun _ _ => .inl (by simp)) harr)⟩
  | outgrown => exact ⟨_, a₁, w₁, hq, .of_steps (.one step_seq) (.pass (x := .code y) rfl (fun _ _ => .inl (by simp)) harr)⟩

/-- The first piece by the plain walk; what follows is asked through a letter, so that the walk stops there. -/
theorem WpAt.seq_wp {x y : Code} (h : ∀ K : Act → World → Prop, (∀ a w, WpAt P b y Q a w → K a w) → x.wp P (Exit.then K Q) a w) : WpAt P b (.seq x y) Q a w :=
  WpAt.seq (WpAt.of_wp (h _ fun _ _ h => h))

theorem WpAt.cond_true {c : Operand} {x y : Code} (hc : a.eval c = .bool true) (h : WpAt P b x Q a w) : WpAt P b (.cond c x y) Q a w :=
  fun k cs => let ⟨e, a', w', q, r⟩ := h k cs; ⟨e, a', w', q, .of_steps (.one (step_cond hc)) r⟩

theorem WpAt.mono {c : Code} {Q' : Exit → Act → World → Prop} (h : WpAt P b c Q a w) (hq : ∀ e a w, Q e a w → Q' e a w) : WpAt P b c Q' a w :=
  fun k cs => let ⟨e, a', w', q, r⟩ := h k cs; ⟨e, a', w', hq _ _ _ q, r⟩

/-- A piece by the machine's own steps. -/
theorem WpAt.of_lone {c : Code} (a' : Act) (w' : World) (hQ : Q .normal a' w')
    (h : ∀ k cs, LoneTo P (fun g₁ w₁ => g₁ = G (b.at a' k) cs ∧ w₁ = w') (G (b.at a (.code c :: k)) cs) w) : WpAt P b c Q a w := by
  intro k cs
  obtain ⟨g₁, w₁, hs, rfl, rfl⟩ := h k cs
  exact ⟨.normal, a', w₁, hQ, hs⟩
end

theorem calls_of_wpAt {P : Program} {f : FuncId} {fn : Func} {c : Code} {args : Array Value} {w : World} {R : Ending → World → Prop}
    (hf : P.funcs[f]? = some fn) (hb : fn.body = some c)
    (h : WpAt P (base f) c (bodyPost P fn R) { tmps := args ++ Array.replicate (fn.ntmps - args.size) undef, defers := [] } w) :
    Calls P f args w R := by
  intro cs
  have henter : Frame.enter P f args .normal =
      (base f).at { tmps := args ++ Array.replicate (fn.ntmps - args.size) undef, defers := [] } [.code c] := by
    simp [Frame.enter, Frame.at, hf, hb, base]
  obtain ⟨e, a', w', hq, harr⟩ := h [] cs
  rw [← henter] at harr
  cases e with
  | normal =>
    obtain ⟨hd, v, hr, hR⟩ := hq
    exact ⟨.returned v, w', _, hR, Steps.trans harr (.one step_end), rfl, rfl, hd, rfl, fn, hf, hr⟩
  | ret =>
    obtain ⟨hd, v, hr, hR⟩ := hq
    obtain ⟨todo, hs⟩ := harr
    exact ⟨.returned v, w', _, hR, hs, rfl, rfl, hd, rfl, fn, hf, hr⟩
  | panic chain =>
    obtain ⟨hd, hR⟩ := hq
    obtain ⟨todo, hs⟩ := harr
    exact ⟨.panicked chain, w', _, hR, hs, rfl, rfl, hd, fn, hf⟩
  | exit id => exact hq.elim
  | goto l => exact hq.elim
  | outgrown => exact ⟨.outgrown, w', base f, hq, harr.resolve_left (by simp [base]), rfl, trivial⟩

end Go.Proofs.Ybulkbtow
