/-
  The fifo as a queue: push, pop, grow at the level of what it holds.
-/
import Derived.Test.YbulkbtngOps
import Derived.Test.YbulkbtngRing
namespace Go.Proofs.Ybulkbtng
open Go.RowKit
set_option linter.unusedVariables false

/-- The fifo at block fp, its buffer bv of L places laid with xs, holds q, front first. -/
def Fifo (w : World) (fp L head : Nat) (xs q : List Int) (bv : Value) : Prop :=
  Blk w fp 28 [bv, .int .i64 head, .int .i64 q.length] ∧ xs.length = L ∧ q.length ≤ L ∧ Ring L head xs q ∧
  ((L = 0 ∧ bv = .slice none 0 0 ∧ head = 0) ∨ (∃ g, bv = .slice (some ⟨g, 0, none⟩) L L ∧ fp < g ∧ Ints w g 3 .i64 xs ∧ head < L ∧ 8 ≤ L ∧ Pow L))

/-- The blocks that a fifo's methods may write. -/
def own (fp : Nat) (bv : Value) : List Nat := fp :: bv.ownBlock.toList

theorem Kept.of_drewN {S : List Nat} {w w' : World} {n : Nat} (h : Kept S (w.drewN n) w') : Kept S w w' := ⟨h.os, h.tape, h.output, h.size, h.block⟩

theorem Fifo.lt {w : World} {fp L head : Nat} {xs q : List Int} {bv : Value} (h : Fifo w fp L head xs q bv) : fp < w.heap.size := h.1.lt

theorem Fifo.own_lt {w : World} {fp L head : Nat} {xs q : List Int} {bv : Value} (h : Fifo w fp L head xs q bv) : ∀ k ∈ own fp bv, fp ≤ k ∧ k < w.heap.size := by
  intro k hk
  have h0 := h.lt
  obtain ⟨_, _, _, _, hd⟩ := h
  rcases hd with ⟨_, rfl, _⟩ | ⟨g, rfl, hg, hi, _⟩
  · simp [own, Value.ownBlock] at hk; omega
  · have := hi.lt
    simp [own, Value.ownBlock] at hk
    omega

theorem Fifo.keep {w w' : World} {fp L head : Nat} {xs q : List Int} {bv : Value} (h : Fifo w fp L head xs q bv) {S : List Nat} (hk : Kept S w w') (hS : ∀ k ∈ own fp bv, k ∉ S) : Fifo w' fp L head xs q bv := by
  obtain ⟨h1, h2, h3, h4, hd⟩ := h
  refine ⟨hk.blk h1 (hS fp (by simp [own])), h2, h3, h4, ?_⟩
  rcases hd with hd | ⟨g, rfl, hg, hi, r⟩
  · exact .inl hd
  · exact .inr ⟨g, rfl, hg, hk.ints hi (hS g (by simp [own, Value.ownBlock])), r⟩

theorem Fifo.drewN {w : World} {fp L head : Nat} {xs q : List Int} {bv : Value} (h : Fifo w fp L head xs q bv) (n : Nat) : Fifo (w.drewN n) fp L head xs q bv := h

theorem Fifo.drew {w : World} {fp L head : Nat} {xs q : List Int} {bv : Value} (h : Fifo w fp L head xs q bv) : Fifo w.drew fp L head xs q bv := h

/-- grow: the same queue in a buffer of max(2L, 8). -/
theorem fifo_grow (w : World) (fp L head : Nat) (xs q : List Int) (bv : Value) (h : Fifo w fp L head xs q bv) (hL : L ≤ 2048) :
    Calls Yba.prog 6 #[.pointer (some ⟨fp, 0, none⟩)] w fun e w' => e = .returned (.tuple #[]) ∧ Kept [fp] w w' ∧ w.heap.size < w'.heap.size ∧
      ∃ M, M = max (2 * L) 8 ∧ Fifo w' fp M 0 (if L = 0 then List.replicate 8 0 else rot L head xs) q (.slice (some ⟨w.heap.size, 0, none⟩) M M) := by
  have hlt := h.lt
  obtain ⟨h1, h2, h3, h4, hd⟩ := h
  rcases hd with ⟨rfl, rfl, rfl⟩ | ⟨g, rfl, hg, hi, hh, h8, hp⟩
  · obtain rfl : q = [] := List.eq_nil_of_length_eq_zero (by omega)
    refine (grow_nil fp 0 w h1).mono ?_
    rintro e w' ⟨rfl, hk, hs, hi', hb'⟩
    refine ⟨rfl, hk, hs, 8, rfl, ?_⟩
    exact ⟨hb', by simp, by simp, Ring.nil _ _ _, .inr ⟨w.heap.size, rfl, hlt, hi', by omega, by omega, Pow.eight⟩⟩
  · refine (grow_some fp g L head q.length xs w h1 hi h2 hh h8 (by omega) (by omega)).mono ?_
    rintro e w' ⟨rfl, hk, hs, hi', hb'⟩
    refine ⟨rfl, hk, hs, 2 * L, by omega, ?_⟩
    rw [if_neg (by omega)]
    exact ⟨hb', rot_length L head xs h2 (by omega), by omega, h4.grow h2 hh h3, .inr ⟨w.heap.size, rfl, hlt, hi', by omega, by omega, hp.two⟩⟩

/-- push: v behind what was held. -/
theorem fifo_push (w : World) (fp L head : Nat) (xs q : List Int) (bv : Value) (v : Int) (h : Fifo w fp L head xs q bv) (hL : L ≤ 4096) (hq : q.length ≤ 1024) :
    Calls Yba.prog 9 #[.pointer (some ⟨fp, 0, none⟩), .int .i64 v] w fun e w' => e = .returned (.tuple #[]) ∧ Kept (own fp bv) w w' ∧
      ∃ L' head' xs' bv', L' ≤ 4096 ∧ (L ≤ 2048 → L' ≤ 2048) ∧ Fifo w' fp L' head' xs' (q ++ [v]) bv' ∧ (bv'.ownBlock = bv.ownBlock ∨ bv'.ownBlock = some w.heap.size) := by
  by_cases hfull : q.length = L
  · -- it grows first
    have hgr : ∀ nq : Nat, Calls Yba.prog 6 #[.pointer (some ⟨fp, 0, none⟩)] (w.drewN nq) fun e w' => e = .returned (.tuple #[]) ∧ Kept [fp] w w' ∧ w.heap.size < w'.heap.size ∧ Ints w' w.heap.size 3 .i64 (if L = 0 then List.replicate 8 0 else rot L head xs) ∧ Blk w' fp 28 [.slice (some ⟨w.heap.size, 0, none⟩) (max (2 * L) 8) (max (2 * L) 8), .int .i64 0, .int .i64 L] := by
      intro nq
      refine (fifo_grow (w.drewN nq) fp L head xs q bv (h.drewN nq) (by omega)).mono ?_
      rintro e w' ⟨rfl, hk, hs, M, rfl, hF⟩
      obtain ⟨f1, f2, f3, f4, fd⟩ := hF
      rw [hfull] at f1
      rcases fd with ⟨e, _⟩ | ⟨g, e, _, hi, _⟩
      · omega
      · simp only [Value.slice.injEq, Option.some.injEq, Addr.mk.injEq] at e
        obtain ⟨⟨e1, _⟩, _⟩ := e
        rw [← e1] at hi
        exact ⟨rfl, hk.of_drewN, hs, hi, f1⟩
    have hlt := h.lt
    have hfr : Ring (max (2 * L) 8) 0 (if L = 0 then List.replicate 8 0 else rot L head xs) q ∧ (if L = 0 then List.replicate 8 0 else rot L head xs).length = max (2 * L) 8 ∧ Pow (max (2 * L) 8) := by
      obtain ⟨h1, h2, h3, h4, hd⟩ := h
      rcases hd with ⟨rfl, rfl, rfl⟩ | ⟨g, rfl, hg, hi, hh, h8, hp⟩
      · obtain rfl : q = [] := List.eq_nil_of_length_eq_zero hfull
        exact ⟨Ring.nil _ _ _, by simp, Pow.eight⟩
      · rw [if_neg (by omega), show max (2 * L) 8 = 2 * L by omega]
        exact ⟨h4.grow h2 hh h3, rot_length L head xs h2 (by omega), hp.two⟩
    obtain ⟨hR, hlen, hPow⟩ := hfr
    have hbv : ∃ a, bv = .slice a L L := by
      obtain ⟨_, _, _, _, hd⟩ := h
      rcases hd with ⟨rfl, rfl, _⟩ | ⟨g, rfl, _⟩
      · exact ⟨_, rfl⟩
      · exact ⟨_, rfl⟩
    have hb : Blk w fp 28 [bv, .int .i64 head, .int .i64 L] := by have := h.1; rwa [hfull] at this
    generalize (if L = 0 then List.replicate 8 0 else rot L head xs) = ys at *
    refine (push_full fp L (max (2 * L) 8) v bv (.int .i64 head) ys w hb hbv hlen (by omega) (by omega) hPow hgr).mono ?_
    rintro e w' ⟨rfl, hk, hs, hi', hb'⟩
    refine ⟨rfl, hk.mono (fun k _ hk => by simp at hk; subst hk; simp [own]), max (2 * L) 8, 0, ys.set L v, .slice (some ⟨w.heap.size, 0, none⟩) (max (2 * L) 8) (max (2 * L) 8), by omega, by omega, ?_, .inr rfl⟩
    have hR' := hR.push v hlen (by omega) (by omega)
    rw [Nat.zero_add, hfull, Nat.mod_eq_of_lt (by omega)] at hR'
    refine ⟨?_, by simpa using hlen, by simp; omega, hR', .inr ⟨w.heap.size, rfl, hlt, hi', by omega, by omega, hPow⟩⟩
    simpa [hfull] using hb'
  · obtain ⟨h1, h2, h3, h4, hd⟩ := h
    rcases hd with ⟨rfl, rfl, rfl⟩ | ⟨g, rfl, hg, hi, hh, h8, hp⟩
    · omega
    · refine (push_low fp g L head q.length v xs w h1 hi h2 hh (by omega) (by omega) hp (by omega)).mono ?_
      rintro e w' ⟨rfl, hk, hi', hb'⟩
      refine ⟨rfl, by simpa [own, Value.ownBlock] using hk, L, head, xs.set ((head + q.length) % L) v, _, hL, id, ?_, .inl rfl⟩
      exact ⟨by simpa using hb', by simpa using h2, by simp; omega, h4.push v h2 hh (by omega), .inr ⟨g, rfl, hg, hi', hh, h8, hp⟩⟩

/-- pop: the front comes out. -/
theorem fifo_pop (w : World) (fp L head : Nat) (xs q : List Int) (bv : Value) (v : Int) (h : Fifo w fp L head xs (v :: q) bv) (hL : L ≤ 8192) :
    Calls Yba.prog 8 #[.pointer (some ⟨fp, 0, none⟩)] w fun e w' => e = .returned (.int .i64 v) ∧ Kept (own fp bv) w w' ∧ Fifo w' fp L ((head + 1) % L) (xs.set head 0) q bv := by
  obtain ⟨h1, h2, h3, h4, hd⟩ := h
  simp only [List.length_cons] at h1 h3
  rcases hd with ⟨rfl, rfl, rfl⟩ | ⟨g, rfl, hg, hi, hh, h8, hp⟩
  · omega
  · have hr := h4.pop h2 hh (by omega)
    refine (pop_low fp g L head q.length v xs w h1 hi h2 hh (by omega) (by omega) hp (by omega) hr.1).mono ?_
    rintro e w' ⟨rfl, hk, hi', hb'⟩
    refine ⟨rfl, by simpa [own, Value.ownBlock] using hk, ?_⟩
    exact ⟨hb', by simpa using h2, by omega, hr.2, .inr ⟨g, rfl, hg, hi', Nat.mod_lt _ (by omega), h8, hp⟩⟩

theorem fifo_len (w : World) (fp L head : Nat) (xs q : List Int) (bv : Value) (h : Fifo w fp L head xs q bv) :
    Calls Yba.prog 7 #[.pointer (some ⟨fp, 0, none⟩)] w fun e w' => e = .returned (.int .i64 q.length) ∧ w' = w := len_low fp q.length w bv _ h.1

end Go.Proofs.Ybulkbtng
