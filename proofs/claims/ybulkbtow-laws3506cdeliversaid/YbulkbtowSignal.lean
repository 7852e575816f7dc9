/-
  '(*memoryConn).signal' by its contract: behind it the wake channel, of capacity one, holds one signal.
-/
import Derived.Test.YbulkbtowComm
namespace Go.Proofs.Ybulkbtow
open Go.RowKit Go.Conc
set_option linter.unusedVariables false

theorem res_s0 (c : Nat) (v z : Value) : commResult #[scase c v z] .select ((0 : Nat) : Int) undef false = .tuple #[goInt 0, .bool false] := by
  simp [commResult, scase]
theorem res_sdef (c : Nat) (v z : Value) : commResult #[scase c v z] .select (-1) undef false = .tuple #[goInt (-1), .bool false] := by
  simp [commResult, scase]

set_option maxRecDepth 100000 in
theorem signal_room (fp gc s r : Nat) (w : World) (hc : w.cell? ⟨fp, 12, none⟩ = some (.chan (some gc))) (hch : w.heap[gc]? = some (.chan 1 #[] false s r false)) :
    Calls Yba.prog 24 #[.pointer (some ⟨fp, 0, none⟩)] w fun e w' => e = .returned (.tuple #[]) ∧ w' = w.setChan gc 1 #[.agg #[]] false (s + 1) r false := by
  refine calls_of_wpAt Yba.func24 rfl ?_
  simp only [Yba.ntmps24, List.size_toArray, List.length_cons, List.length_nil, Nat.reduceAdd, Nat.reduceSub, Array.replicate_succ, Array.replicate_zero, List.push_toArray, List.append_toArray, List.nil_append, List.cons_append]
  refine WpAt.seq_wp fun K hK => ?_
  go_wp2
  refine WpAt.seq (WpAt.of_lone ⟨#[.pointer (some ⟨fp, 0, none⟩), undef, .pointer (some ⟨fp, 0, none⟩), .pointer (some ⟨fp, 0, none⟩), .pointer (some ⟨fp, 12, none⟩), .chan (some gc), .agg #[], .tuple #[.int .i64 0, .bool false], .int .i64 0, .bool true], []⟩ (w.setChan gc 1 #[.agg #[]] false (s + 1) r false) ?_ ?_)
  · refine WpAt.of_wp ?_
    go_wp2
    go_end0
    exact ⟨rfl, rfl⟩
  · intro k cs
    refine LoneTo.goes (n := 1) ?_
    s_reg
    s_stop
    refine LoneTo.step (step_lone_sel_send_room (k := 0) (c := gc) (v := .agg #[]) (z := .agg #[]) (cap := 1) (buf := #[]) (s := s) (r := r) (tm := false) (stepG_comm (cases := #[scase gc (.agg #[]) (.agg #[])]) (blocking := false) (shape := .select) (w' := w) rfl rfl (by decide) (by simp [go_sem, execOp, scase, Act.eval])) rfl (fun m c' hm hc' => ?_) hch (by simp)) ?_
    · rcases m with _ | m
      · exact absurd rfl hm
      · simp at hc'
    rw [Frame.finish_at, res_s0]
    walk_nrm
    refine LoneTo.goes (n := 3) ?_
    s_op
    s_op
    s_c stepG_region_end
    s_stop
    exact LoneTo.done ⟨rfl, rfl⟩

set_option maxRecDepth 100000 in
theorem signal_full (fp gc s r : Nat) (u : Value) (w : World) (hc : w.cell? ⟨fp, 12, none⟩ = some (.chan (some gc))) (hch : w.heap[gc]? = some (.chan 1 #[u] false s r false)) :
    Calls Yba.prog 24 #[.pointer (some ⟨fp, 0, none⟩)] w fun e w' => e = .returned (.tuple #[]) ∧ w' = w := by
  refine calls_of_wpAt Yba.func24 rfl ?_
  simp only [Yba.ntmps24, List.size_toArray, List.length_cons, List.length_nil, Nat.reduceAdd, Nat.reduceSub, Array.replicate_succ, Array.replicate_zero, List.push_toArray, List.append_toArray, List.nil_append, List.cons_append]
  refine WpAt.seq_wp fun K hK => ?_
  go_wp2
  refine WpAt.seq (WpAt.of_lone ⟨#[.pointer (some ⟨fp, 0, none⟩), undef, .pointer (some ⟨fp, 0, none⟩), .pointer (some ⟨fp, 0, none⟩), .pointer (some ⟨fp, 12, none⟩), .chan (some gc), .agg #[], .tuple #[.int .i64 (-1), .bool false], .int .i64 (-1), .bool false], []⟩ (w) ?_ ?_)
  · refine WpAt.of_wp ?_
    go_wp2
    go_end0
    exact ⟨rfl, rfl⟩
  · intro k cs
    refine LoneTo.goes (n := 1) ?_
    s_reg
    s_stop
    refine LoneTo.step (step_lone_sel_default (stepG_comm (cases := #[scase gc (.agg #[]) (.agg #[])]) (blocking := false) (shape := .select) (w' := w) rfl rfl (by decide) (by simp [go_sem, execOp, scase, Act.eval])) (fun cc hcc => ?_)) ?_
    · simp only [List.mem_toArray, List.mem_cons, List.not_mem_nil, or_false] at hcc
      subst hcc
      exact noWay_send hch (by simp)
    rw [Frame.finish_at, res_sdef]
    walk_nrm
    refine LoneTo.goes (n := 3) ?_
    s_op
    s_op
    s_c stepG_region_end
    s_stop
    exact LoneTo.done ⟨rfl, rfl⟩

/-- The wake channel at block g, of capacity one, holds n signals. -/
def Wake (w : World) (g n : Nat) : Prop := ∃ buf s r, w.heap[g]? = some (.chan 1 buf false s r false) ∧ buf.size = n

theorem kept_setChan (w : World) (c cap : Nat) (buf : Array Value) (cl : Bool) (s r : Nat) (tm : Bool) : Kept [c] w (w.setChan c cap buf cl s r tm) :=
  ⟨rfl, rfl, rfl, by simp [World.setChan], fun k hk hs => by simp only [World.setChan]; rw [Array.getElem?_setIfInBounds_ne (by simp at hs; omega)]⟩

theorem Wake.keep {w w' : World} {g n : Nat} {S : List Nat} (h : Wake w g n) (hk : Kept S w w') (hS : g ∉ S) : Wake w' g n := by
  obtain ⟨buf, s, r, hc, hn⟩ := h
  exact ⟨buf, s, r, (hk.block g (lt_of_block hc) hS).trans hc, hn⟩

theorem Wake.lt {w : World} {g n : Nat} (h : Wake w g n) : g < w.heap.size := by
  obtain ⟨buf, s, r, hc, hn⟩ := h
  exact lt_of_block hc

/-- signal: the channel holds one signal behind it. -/
theorem signal_any (fp gc n : Nat) (w : World) (hc : w.cell? ⟨fp, 12, none⟩ = some (.chan (some gc))) (hw : Wake w gc n) (hn : n ≤ 1) :
    Calls Yba.prog 24 #[.pointer (some ⟨fp, 0, none⟩)] w fun e w' => e = .returned (.tuple #[]) ∧ Kept [gc] w w' ∧ Wake w' gc 1 := by
  obtain ⟨buf, s, r, hch, hb⟩ := hw
  by_cases h0 : n = 0
  · obtain rfl : buf = #[] := Array.eq_empty_of_size_eq_zero (by omega)
    refine (signal_room fp gc s r w hc hch).mono ?_
    rintro e w' ⟨rfl, rfl⟩
    exact ⟨rfl, kept_setChan _ _ _ _ _ _ _ _, #[.agg #[]], s + 1, r, heap_setChan w gc 1 _ false (s + 1) r false (lt_of_block hch), rfl⟩
  · obtain ⟨u, rfl⟩ : ∃ u, buf = #[u] := by
      have h1 : buf.size = 1 := by omega
      exact ⟨buf[0], by apply Array.ext; simp [h1]; intro i h2 h3; simp at h3; subst h3; simp⟩
    refine (signal_full fp gc s r u w hc hch).mono ?_
    rintro e w' ⟨rfl, rfl⟩
    exact ⟨rfl, Kept.refl _ _, #[u], s, r, hch, rfl⟩

end Go.Proofs.Ybulkbtow
