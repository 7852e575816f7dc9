/-
  BModel: the buckets are laid
-/
import Derived.Test.YbulkbtowMT2b
import Derived.WalkMore
namespace Go.Proofs.Ybulkbtow
open Go.RowKit
set_option linter.unusedVariables false

/-- The table's 37 cells. -/
def tabCells (tv : Value) (pol : List Value) : List Value := List.replicate 20 (.int .u8 0) ++ pol ++ [tv]

/-- A row of spares that came in: two cells each. -/
def InRow2 (w : World) (H : Nat) (a : Option Addr) (n : Nat) (f g : Nat → Value) : Prop := n = 0 ∨ ∃ x, a = some x ∧ x.block < H ∧ ∀ i, i < n → w.cell? (x.add (i * 2)) = some (f i) ∧ w.cell? ⟨(x.add (i * 2)).block, (x.add (i * 2)).off + 1, none⟩ = some (g i)

theorem InRow2.below {w w' : World} {H : Nat} {a : Option Addr} {n : Nat} {f g : Nat → Value} (hr : InRow2 w H a n f g) (hb : Below H w w') : InRow2 w' H a n f g := by
  rcases hr with hr | ⟨x, rfl, hx, hc⟩
  · exact .inl hr
  · refine .inr ⟨x, rfl, hx, fun i hi => ?_⟩
    have hx' : (x.add (i * 2)).block < H := by rw [add_block]; exact hx
    obtain ⟨q1, q2⟩ := hc i hi
    exact ⟨(hb.cell hx').trans q1, (hb.cell (p := ⟨(x.add (i * 2)).block, (x.add (i * 2)).off + 1, none⟩) hx').trans q2⟩

/-- The heap when k buckets are laid. -/
structure Bks (D : Dat) (H k : Nat) (tcs : List Value) (tv : Value) (w : World) : Prop where
  tb : Blk w D.bt 54 tcs
  t29 : tcs[29]? = some tv
  t34 : tcs[34]? = some (.slice none 0 0)
  tr : Lst w H 57 tv ((List.range k).map (fun j => ptr (D.B j)))
  bk : ∀ j, j < k → Blk w (D.B j) 60 [.slice none 0 0, D.spv j, .pointer none, .int .u64 0, .int .i64 0, .pointer none]
  bi : ∀ a b, a < k → b < k → D.B a = D.B b → a = b
  og : Vf w D.bo 56 D.nb (fun _ => .slice none 0 0)
  sp : Vf w D.bs 58 D.nb (fun j => if j < k then D.spv j else .pointer none)
  zs : ∀ j, j < k → D.hs j = true → Blk w (D.Z j) 66 (conCells 255 (j : Int) (D.spt j) 0)
  ba : Blk w D.ba 43 [.int .u64 0, .int .u64 0, .pointer none, .int .u16 D.tg]
  bn : Blk w D.bn 29 [.int .u64 D.na, .int .i64 D.nx, .pointer none]
  hw : H ≤ w.heap.size
  hbt : H ≤ D.bt
  hbo : H ≤ D.bo
  hbs : H ≤ D.bs
  hB : ∀ j, j < k → H ≤ D.B j

/-- All buckets laid: no contact yet. -/
theorem Bks.mids {D : Dat} {H : Nat} {tcs : List Value} {tv : Value} {w : World} (h : Bks D H D.nb tcs tv w) (hnb : 0 < D.nb) : ∃ gt ct, tv = .slice (some ⟨gt, 0, none⟩) D.nb ct ∧ Mids { D with m := 0 } H gt tcs (fun _ => .slice none 0 0) (.slice none 0 0) w := by
  have hlen : ((List.range D.nb).map (fun j => ptr (D.B j))).length = D.nb := by simp
  rcases h.tr.fn with ⟨h1, h2⟩ | ⟨g, cap, f, hv, _, hc, _, hf, hx⟩
  · rw [h2] at hlen
    simp at hlen
    omega
  · rw [hlen] at hv hc hx
    refine ⟨g, cap, hv, h.tb, ⟨_, hf⟩, fun k hk => ?_, h.bk, h.bi, h.og, h.sp.congr (fun j hj => by rw [if_pos hj]; rfl), h.zs, ⟨fun r hr => ?_, fun r r' _ _ _ g' hg => by simp [Value.ownBlock] at hg, fun r _ => by simp [Value.ownBlock]⟩, Lst.nil _ _ _, fun i hi => by have : i < 0 := hi; omega, h.ba, h.bn, h.hw, h.hbt, h.hB, h.hbo⟩
    · have hk' : k < D.nb := hk
      have h1 := hx k hk'
      simp [hk'] at h1
      rw [hf.at (by omega)]
      exact congrArg some h1.symm
    · have e : rows { D with m := 0 } r = [] := by
        unfold rows
        split
        · rfl
        · split <;> rfl
      rw [e]
      exact Lst.nil _ _ _

/-- One bucket more. -/
theorem Bks.next {D : Dat} {H k b z : Nat} {tcs : List Value} {tv tv' spval : Value} {w w' : World} (h : Bks D H k tcs tv w) {S : List Nat} (hk : Kept S w w') (hA : Alien w S [60, 56, 66, 43, 29]) (hkn : k < D.nb) (tb' : Blk w' D.bt 54 (tcs.set 29 tv')) (tr' : Lst w' H 57 tv' ((List.range k).map (fun j => ptr (D.B j)) ++ [ptr b])) (bk' : Blk w' b 60 [.slice none 0 0, spval, .pointer none, .int .u64 0, .int .i64 0, .pointer none]) (hb : w.heap.size ≤ b)
    (sp' : Vf w' D.bs 58 D.nb (upv (fun j => if j < k then D.spv j else .pointer none) k spval)) (hz : spval = if D.hs k = true then ptr z else .pointer none) (zs' : D.hs k = true → Blk w' z 66 (conCells 255 (k : Int) (D.spt k) 0)) :
    Bks { D with B := upv D.B k b, Z := upv D.Z k z } H (k + 1) (tcs.set 29 tv') tv' w' := by
  have keepB : ∀ {g : Nat} {e : TypeId} {cs : List Value}, Blk w g e cs → e ∈ [60, 56, 66, 43, 29] → Blk w' g e cs := fun hb he => hk.blk hb (hA.out hb he)
  have hspo : ∀ j, j ≠ k → Dat.spv { D with B := upv D.B k b, Z := upv D.Z k z } j = D.spv j := fun j hj => by
    show (if D.hs j = true then ptr (upv D.Z k z j) else _) = _
    rw [upv_other _ _ hj]
    rfl
  have hspk : Dat.spv { D with B := upv D.B k b, Z := upv D.Z k z } k = spval := by
    show (if D.hs k = true then ptr (upv D.Z k z k) else _) = _
    rw [upv_same, hz]
  have hBlt : ∀ j, j < k → D.B j < w.heap.size := fun j hj => (h.bk j hj).lt
  refine ⟨tb', ?_, ?_, ?_, fun j hj => ?_, fun a c ha hc hac => ?_, keepB h.og (by simp), ?_, fun j hj hs => ?_, keepB h.ba (by simp), keepB h.bn (by simp), Nat.le_trans h.hw hk.size, h.hbt, h.hbo, h.hbs, fun j hj => ?_⟩
  · rw [List.getElem?_set_self]
    have := h.t29
    rw [List.getElem?_eq_some_iff] at this
    exact this.1
  · rw [List.getElem?_set_ne (by decide)]
    exact h.t34
  · have e : (List.range (k + 1)).map (fun j => ptr (upv D.B k b j)) = (List.range k).map (fun j => ptr (D.B j)) ++ [ptr b] := by
      rw [List.range_succ, List.map_append]
      congr 1
      · exact List.map_congr_left (fun j hj => by rw [List.mem_range] at hj; rw [upv_other _ _ (by omega)])
      · simp [upv_same]
    show Lst w' H 57 tv' ((List.range (k + 1)).map (fun j => ptr (upv D.B k b j)))
    rw [e]
    exact tr'
  · show Blk w' (upv D.B k b j) 60 _
    by_cases e : j = k
    · subst e
      rw [upv_same, hspk]
      exact bk'
    · rw [upv_other _ _ e, hspo j e]
      exact keepB (h.bk j (by omega)) (by simp)
  · have hac' : upv D.B k b a = upv D.B k b c := hac
    by_cases ea : a = k
    · subst ea
      rw [upv_same] at hac'
      by_cases ec : c = a
      · exact ec.symm
      · rw [upv_other _ _ ec] at hac'
        have := hBlt c (by omega)
        omega
    · rw [upv_other _ _ ea] at hac'
      by_cases ec : c = k
      · subst ec
        rw [upv_same] at hac'
        have := hBlt a (by omega)
        omega
      · rw [upv_other _ _ ec] at hac'
        exact h.bi a c (by omega) (by omega) hac'
  · refine sp'.congr (fun j hj => ?_)
    by_cases e : j = k
    · subst e
      rw [upv_same, if_pos (by omega), hspk]
    · rw [upv_other _ _ e, hspo j e]
      by_cases e2 : j < k
      · rw [if_pos e2, if_pos (by omega)]
      · rw [if_neg e2, if_neg (by omega)]
  · show Blk w' (upv D.Z k z j) 66 _
    by_cases e : j = k
    · subst e
      rw [upv_same]
      exact zs' hs
    · rw [upv_other _ _ e]
      exact keepB (h.zs j (by omega) hs) (by simp)
  · show H ≤ upv D.B k b j
    by_cases e : j = k
    · subst e
      rw [upv_same]
      exact Nat.le_trans h.hw hb
    · rw [upv_other _ _ e]
      exact h.hB j (by omega)

end Go.Proofs.Ybulkbtow
