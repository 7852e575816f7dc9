/-
  BModel: the heap while the contacts are laid.
-/
import Derived.Test.YbulkbtowMT3
namespace Go.Proofs.Ybulkbtow
open Go.RowKit
set_option linter.unusedVariables false

structure Mid (D : Dat) (H gt : Nat) (tcs : List Value) (rv : Nat → Value) (rl : Nat → List Value) (bv ov : Nat → Value) (fv : Value) (fls : List Value) (w : World) : Prop where
  tb : Blk w D.bt 54 tcs
  tt : ∃ cs, Blk w gt 57 cs
  tc : ∀ k, k < D.nb → w.cell? ⟨gt, k, none⟩ = some (ptr (D.B k))
  bk : ∀ k, k < D.nb → Blk w (D.B k) 60 [bv k, D.spv k, .pointer none, .int .u64 0, .int .i64 0, .pointer none]
  bi : ∀ k k', k < D.nb → k' < D.nb → D.B k = D.B k' → k = k'
  og : Vf w D.bo 56 D.nb ov
  sp : Vf w D.bs 58 D.nb D.spv
  zs : ∀ k, k < D.nb → D.hs k = true → Blk w (D.Z k) 66 (conCells 255 (k : Int) (D.spt k) 0)
  r : R58 H (2 * D.nb + 1) D.bs rv rl w
  rf : Lst w H 3 fv fls
  con : ∀ i, i < D.m → Blk w (D.P i) 66 (conCells (D.cx i) (D.cy i) (D.pt i) (D.fl i))
  ba : Blk w D.ba 43 [.int .u64 0, .int .u64 0, .pointer none, .int .u16 D.tg]
  bn : Blk w D.bn 29 [.int .u64 D.na, .int .i64 D.nx, .pointer none]
  hw : H ≤ w.heap.size
  hbt : H ≤ D.bt
  hB : ∀ k, k < D.nb → H ≤ D.B k
  hbo : H ≤ D.bo

section
variable {D : Dat} {H gt : Nat} {tcs : List Value} {rv : Nat → Value} {rl : Nat → List Value} {bv ov : Nat → Value} {fv : Value} {fls : List Value} {w w' : World}

theorem Mid.turn (h : Mid D H gt tcs rv rl bv ov fv fls w) {S : List Nat} (hk : Kept S w w') (hA : Alien w S [54, 57, 66, 43, 29]) {rv' : Nat → Value} {rl' : Nat → List Value} {bv' ov' : Nat → Value} {fv' : Value} {fls' : List Value}
    (bk' : ∀ k, k < D.nb → Blk w' (D.B k) 60 [bv' k, D.spv k, .pointer none, .int .u64 0, .int .i64 0, .pointer none]) (og' : Vf w' D.bo 56 D.nb ov') (sp' : Vf w' D.bs 58 D.nb D.spv) (r' : R58 H (2 * D.nb + 1) D.bs rv' rl' w') (rf' : Lst w' H 3 fv' fls') : Mid D H gt tcs rv' rl' bv' ov' fv' fls' w' := by
  obtain ⟨ts, hts⟩ := h.tt
  have keepB : ∀ {g : Nat} {e : TypeId} {cs : List Value}, Blk w g e cs → e ∈ [54, 57, 66, 43, 29] → Blk w' g e cs := fun hb he => hk.blk hb (hA.out hb he)
  exact ⟨keepB h.tb (by simp), ⟨ts, keepB hts (by simp)⟩, fun k hk' => by rw [blk_cell hts (keepB hts (by simp))]; exact h.tc k hk', bk', h.bi, og', sp', fun k hk' hs => keepB (h.zs k hk' hs) (by simp), r', rf', fun i hi => keepB (h.con i hi) (by simp), keepB h.ba (by simp), keepB h.bn (by simp), Nat.le_trans h.hw hk.size, h.hbt, h.hB, h.hbo⟩

/-- Nothing old has turned. -/
theorem Mid.kept0 (h : Mid D H gt tcs rv rl bv ov fv fls w) (hk : Kept [] w w') : Mid D H gt tcs rv rl bv ov fv fls w' :=
  h.turn hk (alien_nil _ _) (fun k hk' => hk.blk (h.bk k hk') (by simp)) (hk.blk h.og (by simp)) (hk.blk h.sp (by simp)) (h.r.kept hk (by simp)) (h.rf.kept hk (by simp))

/-- A contact's block is there. -/
theorem Mid.addCon (h : Mid D H gt tcs rv rl bv ov fv fls w) {p : Nat} (hp : Blk w p 66 (conCells (D.cx D.m) (D.cy D.m) (D.pt D.m) (D.fl D.m))) : Mid { D with m := D.m + 1, P := upv D.P D.m p } H gt tcs rv rl bv ov fv fls w := by
  refine ⟨h.tb, h.tt, h.tc, h.bk, h.bi, h.og, h.sp, h.zs, h.r, h.rf, fun i hi => ?_, h.ba, h.bn, h.hw, h.hbt, h.hB, h.hbo⟩
  by_cases e : i = D.m
  · subst e
    show Blk w (upv D.P D.m p D.m) 66 _
    rw [upv_same]
    exact hp
  · show Blk w (upv D.P D.m p i) 66 _
    rw [upv_other _ _ e]
    exact h.con i (by have : i < D.m + 1 := hi; omega)

/-- One row has grown. -/
theorem Mid.grow (h : Mid D H gt tcs rv rl bv ov fv fls w) {r : Nat} (hr : r < 2 * D.nb + 1) {v' : Value} {ys : List Value} (ho : Lst w' H 58 v' ys) (hg : w.grownBy w' (rv r).ownBlock) (hb : v'.ownBlock = (rv r).ownBlock ∨ v'.ownBlock = some w.heap.size) : Mid D H gt tcs (upv rv r v') (upv rl r ys) bv ov fv fls w' := by
  have hA : Alien w ((rv r).ownBlock.toList ++ []) [54, 57, 66, 43, 29, 60, 56, 3] := alien_own (h.r.row r hr) (by decide) (alien_nil _ _)
  rw [List.append_nil] at hA
  have hk := grown_to hg
  refine h.turn hk (hA.mono (by simp)) (fun k hk' => hk.blk (h.bk k hk') (hA.out (h.bk k hk') (by simp))) (hk.blk h.og (hA.out h.og (by simp))) (hk.blk h.sp ?_) (h.r.grow hr h.sp.lt ho hg hb) (h.rf.again (fun g cs _ hb => hk.blk hb (hA.out hb (by simp))))
  rw [Option.mem_toList]
  exact h.r.off r hr

/-- The fails have grown. -/
theorem Mid.growF (h : Mid D H gt tcs rv rl bv ov fv fls w) {v' : Value} {ys : List Value} (ho : Lst w' H 3 v' ys) (hg : w.grownBy w' fv.ownBlock) : Mid D H gt tcs rv rl bv ov v' ys w' := by
  have hA : Alien w (fv.ownBlock.toList ++ []) [54, 57, 66, 43, 29, 60, 56, 58] := alien_own h.rf (by decide) (alien_nil _ _)
  rw [List.append_nil] at hA
  have hk := grown_to hg
  exact h.turn hk (hA.mono (by simp)) (fun k hk' => hk.blk (h.bk k hk') (hA.out (h.bk k hk') (by simp))) (hk.blk h.og (hA.out h.og (by simp))) (hk.blk h.sp (hA.out h.sp (by simp))) ⟨fun r hr => (h.r.row r hr).again (fun g cs _ hb => hk.blk hb (hA.out hb (by simp))), h.r.dis, h.r.off⟩ ho

/-- A bucket's slice is stored. -/
theorem Mid.setB (h : Mid D H gt tcs rv rl bv ov fv fls w) {k : Nat} (hk0 : k < D.nb) (v : Value) : Mid D H gt tcs rv rl (upv bv k v) ov fv fls (w.setCell ⟨D.B k, 0, none⟩ v) := by
  have hb := h.bk k hk0
  have hA : Alien w [D.B k] [54, 57, 66, 43, 29, 56, 58, 3] := alien_one hb (by decide) (alien_nil _ _)
  have hk : Kept [D.B k] w (w.setCell ⟨D.B k, 0, none⟩ v) := (Kept.refl _ _).setCell (.inl (by simp)) v
  refine h.turn hk (hA.mono (by simp)) (fun k' hk' => ?_) (hk.blk h.og (hA.out h.og (by simp))) (hk.blk h.sp (hA.out h.sp (by simp))) ⟨fun r hr => (h.r.row r hr).again (fun g cs _ hb => hk.blk hb (hA.out hb (by simp))), h.r.dis, h.r.off⟩ (h.rf.again (fun g cs _ hb => hk.blk hb (hA.out hb (by simp))))
  by_cases e : k' = k
  · subst e
    rw [upv_same]
    exact hb.set 0 v
  · rw [upv_other _ _ e]
    exact hk.blk (h.bk k' hk') (by simp; exact fun e' => e (h.bi k' k hk' hk0 e'))

/-- An element of orig is stored. -/
theorem Mid.setO (h : Mid D H gt tcs rv rl bv ov fv fls w) (k : Nat) (v : Value) : Mid D H gt tcs rv rl bv (upv ov k v) fv fls (w.setCell ⟨D.bo, k, none⟩ v) := by
  have hA : Alien w [D.bo] [54, 57, 66, 43, 29, 60, 58, 3] := alien_one h.og (by decide) (alien_nil _ _)
  have hk : Kept [D.bo] w (w.setCell ⟨D.bo, k, none⟩ v) := (Kept.refl _ _).setCell (.inl (by simp)) v
  exact h.turn hk (hA.mono (by simp)) (fun k' hk' => hk.blk (h.bk k' hk') (hA.out (h.bk k' hk') (by simp))) (h.og.set k v) (hk.blk h.sp (hA.out h.sp (by simp))) ⟨fun r hr => (h.r.row r hr).again (fun g cs _ hb => hk.blk hb (hA.out hb (by simp))), h.r.dis, h.r.off⟩ (h.rf.again (fun g cs _ hb => hk.blk hb (hA.out hb (by simp))))
end

/-- The rows' contents when m contacts are laid: the buckets', the copies of them, the pointers. -/
def rows (D : Dat) (r : Nat) : List Value := if r < D.nb then D.xs r else if r < 2 * D.nb then D.xs (r - D.nb) else (List.range D.m).map (fun i => ptr (D.P i))

/-- The state between two contacts. -/
def Mids (D : Dat) (H gt : Nat) (tcs : List Value) (rv : Nat → Value) (fv : Value) (w : World) : Prop :=
  Mid D H gt tcs rv (rows D) rv (fun k => rv (D.nb + k)) fv ((List.range D.m).map (fun i => Value.int .i64 (D.fl i))) w

theorem Mids.sys {D : Dat} {H gt ct : Nat} {tcs : List Value} {rv : Nat → Value} {fv : Value} {w : World} (h : Mids D H gt tcs rv fv w) (nb1 : 0 < D.nb) (nb4 : D.nb ≤ 4) (m5 : D.m ≤ 1024) (kbl : ∀ i, i < D.m → D.kb i < D.nb) (flb : ∀ i, i < D.m → -128 ≤ D.fl i ∧ D.fl i ≤ 127) (t29 : tcs[29]? = some (.slice (some ⟨gt, 0, none⟩) D.nb ct)) (t34 : tcs[34]? = some (.slice none 0 0)) (pin : ∀ i j, i < D.m → j < D.m → D.P i = D.P j → i = j) (pz : ∀ i k, i < D.m → k < D.nb → D.hs k = true → D.P i ≠ D.Z k) (hP : ∀ i, i < D.m → H ≤ D.P i) :
    Sys { D with nc := 0 } H gt ct tcs rv (rv (2 * D.nb)) fv (.slice none 0 0) (.slice none 0 0) w := by
  have hr := h.r
  refine ⟨nb1, nb4, m5, Nat.zero_le _, kbl, flb, h.tb, t29, t34, h.tt, h.tc, h.bk, h.bi, h.og, h.sp, h.zs, fun k hk => ?_, fun k hk => ?_, ?_, fun k hk g hg => ?_, h.rf, h.con, pin, pz, Lst.nil _ _ _, fun i hi => by have : i < 0 := hi; omega, Lst.nil _ _ _, h.ba, h.bn, h.hw, h.hbt, h.hB, hP⟩
  · have hk' : k < D.nb := hk
    have := hr.row k (by omega)
    unfold rows at this
    rw [if_pos hk'] at this
    exact this
  · have hk' : k < D.nb := hk
    have := hr.row (D.nb + k) (by omega)
    unfold rows at this
    rw [if_neg (by omega), if_pos (by omega), Nat.add_sub_cancel_left] at this
    exact this
  · have := hr.row (2 * D.nb) (by omega)
    unfold rows at this
    rw [if_neg (by omega), if_neg (by omega)] at this
    exact this
  · have hk' : k < D.nb := hk
    refine ⟨fun e => hr.off k (by omega) (by rw [hg, e]), hr.dis k (2 * D.nb) (by omega) (by omega) (by omega) g hg, fun k2 hk2 => ?_⟩
    have hk2' : k2 < D.nb := hk2
    exact ⟨hr.dis k (D.nb + k2) (by omega) (by omega) (by omega) g hg, fun hne => hr.dis k k2 (by omega) (by omega) (fun e => hne e.symm) g hg⟩

end Go.Proofs.Ybulkbtow
