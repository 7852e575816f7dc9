/-
  '(*memoryConn).deliver' by its contract.
-/
import Derived.Test.YbulkbtowMu
import Derived.Test.YbulkbtowSignal
import Derived.Test.YbulkbtowAddr
import Derived.Test.YbulkbtowAppend
import Derived.Deep.RegionLaw
import Derived.Deep.RegionHeld3
import Derived.Deep.DeepCutAuto
import Derived.Laws.EntriesVeiled
namespace Go.Proofs.Ybulkbtow
open Go.RowKit
set_option linter.unusedVariables false

theorem Yba.info91 : (Yba.prog.info? 91).map (fun i => (i.zero, i.size, i.bytes)) = some (some (.agg #[.slice none 0 0, .int .u64 0, .int .u64 0, .pointer none, .int .u16 0]), 5, 56) := by kernel_rfl

/-- The conn's thirteen cells: the lock's state, the queue, the closed flag and the wake channel as told. -/
def connCells (p : Int) (st : Int) (qv : Value) (closed : Bool) (gc : Nat) : List Value :=
  [.int .u64 0, .int .u64 0, .pointer none, .int .u16 p, .map none, .int .i32 st, .int .u32 0, qv, .int .u64 0, .int .i64 0, .pointer none, .bool closed, .chan (some gc)]

def Conn (w : World) (B fp gc : Nat) (p : Int) (closed : Bool) (qv : Value) (n : Nat) (xs : List Value) : Prop :=
  Blk w fp 89 (connCells p 0 qv closed gc) ∧ w.ownsRow B 91 5 qv n xs ∧ B ≤ fp

theorem chan_ne {w : World} {fp gc n : Nat} {e : TypeId} {cs : List Value} (h : Blk w fp e cs) (hw : Wake w gc n) : fp ≠ gc := by
  rintro rfl
  obtain ⟨buf, s, r, hc, _⟩ := hw
  have h' : w.heap[fp]? = some (.cells cs.toArray e (0, 0)) := h
  rw [h'] at hc
  simp at hc

theorem Blk.ne {w : World} {g g' : Nat} {e e' : TypeId} {cs cs' : List Value} (h : Blk w g e cs) (h' : Blk w g' e' cs') (he : e ≠ e') : g ≠ g' := by
  rintro rfl
  have h1 : w.heap[g]? = some (.cells cs.toArray e (0, 0)) := h
  have h2 : w.heap[g]? = some (.cells cs'.toArray e' (0, 0)) := h'
  rw [h1] at h2
  simp at h2
  exact he h2.2

theorem own_ne {w : World} {base : Nat} {e : TypeId} {size : Nat} {v : Value} {n : Nat} {xs : List Value} (h : w.ownsRow base e size v n xs) {g : Nat} {e' : TypeId} {cs : List Value} (hb : Blk w g e' cs) (he : e ≠ e') : v.ownBlock ≠ some g := by
  intro hv
  obtain ⟨cur, hc⟩ := own_type h hv
  have h1 : w.heap[g]? = some (.cells cs.toArray e' (0, 0)) := hb
  rw [h1] at hc
  simp at hc
  exact he hc.2.symm

theorem own_chan {w : World} {base : Nat} {e : TypeId} {size : Nat} {v : Value} {n m : Nat} {xs : List Value} (h : w.ownsRow base e size v n xs) {g : Nat} (hw : Wake w g m) : v.ownBlock ≠ some g := by
  intro hv
  obtain ⟨cur, hc⟩ := own_type h hv
  obtain ⟨buf, s, r, hch, _⟩ := hw
  rw [hch] at hc
  simp at hc

theorem not_mem_own {v : Value} {g : Nat} (h : v.ownBlock ≠ some g) : g ∉ v.ownBlock.toList := by
  intro hm
  cases hv : v.ownBlock with
  | none => rw [hv] at hm; simp at hm
  | some x => rw [hv] at hm; simp at hm; exact h (by rw [hv, hm])

theorem new_cells (w : World) (cs : List Value) (e : TypeId) : ∀ j u, cs[j]? = some u → (w.alloc (.cells cs.toArray e)).cell? ((⟨w.heap.size, 0, none⟩ : Addr).add j) = some u := by
  intro j u hj
  rw [Addr.add_lit, Nat.zero_add, (Blk.new w e cs).at j]
  exact hj

theorem one5 (ba : Option Addr) (bl bc : Nat) (q : Int) : ∀ u ∈ [Value.slice ba bl bc, .int .u64 0, .int .u64 0, .pointer none, .int .u16 q], u.oneCell' = true := by
  intro u hu
  simp at hu
  rcases hu with rfl | rfl | rfl | rfl <;> rfl

set_option maxRecDepth 100000 in
set_option maxHeartbeats 2000000 in
theorem deliver_accept (B fp gc k : Nat) (p q : Int) (qa ba : Option Addr) (qc n bl bc : Nat) (xs : List Value) (w : World) (hC : Conn w B fp gc p false (.slice qa n qc) n xs) (hW : Wake w gc k) (hk1 : k ≤ 1) (hn : n < 1024) :
    Calls Yba.prog 11 #[.pointer (some ⟨fp, 0, none⟩), .slice ba bl bc, .agg #[.int .u64 0, .int .u64 0, .pointer none, .int .u16 q]] w fun e w' => e = .returned (.tuple #[]) ∧
      ∃ qa' qc', Conn w' B fp gc p false (.slice qa' (n + 1) qc') (n + 1) (xs ++ [.slice ba bl bc, .int .u64 0, .int .u64 0, .pointer none, .int .u16 q]) ∧ Wake w' gc 1 ∧ Kept (fp :: gc :: (Value.slice qa n qc).ownBlock.toList) w w' := by
  obtain ⟨hF, hO, hBf⟩ := hC
  obtain ⟨i0, hi0, hz0, hz1, hz2⟩ := info_parts Yba.info91
  have HI0 := hide hi0
  have HZ0 := hide hz0
  have HZ1 := hide hz1
  have HZ2 := hide hz2
  have HF := hide hF
  have HO := hide hO
  have HW := hide hW
  have hlt := hF.lt
  have A1 := hF.alloc (.cells #[.int .u64 0, .int .u64 0, .pointer none, .int .u16 q] 43)
  have c5 := A1.at 5
  have z5 := A1.free 5
  simp only [connCells, List.getElem?_cons_zero, List.getElem?_cons_succ] at c5
  have K1 : Hid (Kept [fp] w ((w.alloc (.cells #[.int .u64 0, .int .u64 0, .pointer none, .int .u16 q] 43)).setCell ⟨fp, 5, none⟩ (.int .i32 1))) := ((Kept.refl [fp] w).alloc _).setCell (.inl (by simp)) _
  have F1 : Hid (Blk ((w.alloc (.cells #[.int .u64 0, .int .u64 0, .pointer none, .int .u16 q] 43)).setCell ⟨fp, 5, none⟩ (.int .i32 1)) fp 89 (connCells p 1 (.slice qa n qc) false gc)) := A1.set 5 _
  have X1 : Hid (Blk ((w.alloc (.cells #[.int .u64 0, .int .u64 0, .pointer none, .int .u16 q] 43)).setCell ⟨fp, 5, none⟩ (.int .i32 1)) w.heap.size 43 [.int .u64 0, .int .u64 0, .pointer none, .int .u16 q]) :=
    (Blk.new w 43 [.int .u64 0, .int .u64 0, .pointer none, .int .u16 q]).other (a := ⟨fp, 5, none⟩) (by show w.heap.size ≠ fp; omega) _
  have hS1 : w.heap.size < ((w.alloc (.cells #[.int .u64 0, .int .u64 0, .pointer none, .int .u16 q] 43)).setCell ⟨fp, 5, none⟩ (.int .i32 1)).heap.size := X1.out.lt
  clear hi0 hz0 hz1 hz2 hF hO hW A1
  go_enter Yba.func11, Yba.ntmps11
  go_wp2_with fail
  refine (lock_any fp 5 _ c5 z5).mono ?_
  rintro e w1 ⟨rfl, rfl⟩
  generalize (w.alloc (.cells #[.int .u64 0, .int .u64 0, .pointer none, .int .u16 q] 43)).setCell ⟨fp, 5, none⟩ (.int .i32 1) = w1 at *
  clear c5 z5
  have hqf : (Value.slice qa n qc).ownBlock ≠ some fp := own_ne HO.out HF.out (by decide)
  have hqg : (Value.slice qa n qc).ownBlock ≠ some gc := own_chan HO.out HW.out
  have hfg : fp ≠ gc := chan_ne HF.out HW.out
  have O1 := hide (ownsRow_kept HO.out K1.out (fun j hj hm => by simp at hm; subst hm; exact hqf hj))
  have W1 := hide (HW.out.keep K1.out (by simp; exact fun e => hfg e.symm))
  have hqx : (Value.slice qa n qc).ownBlock ≠ some w.heap.size := own_ne O1.out X1.out (by decide)
  have f7 := F1.out.at 7
  have f11 := F1.out.at 11
  have x0 := X1.out.at 0
  have x1 := X1.out.at 1
  have x2 := X1.out.at 2
  have x3 := X1.out.at 3
  simp only [connCells, List.getElem?_cons_zero, List.getElem?_cons_succ] at f7 f11 x0 x1 x2 x3
  have HQF := hide hqf
  have HQG := hide hqg
  have hnI : (n : Int) < 1024 := by omega
  clear hqf hqg HF HO HW
  go_wp2
  have hl1 : fp < w1.heap.size := by omega
  have hN1 := hide (new_cells w1 [.slice ba bl bc, .int .u64 0, .int .u64 0, .pointer none, .int .u16 q] 91)
  have hO1 := hide (one5 ba bl bc q)
  have h63 : Hid (n + 1 ≤ maxLen) := by show n + 1 ≤ maxLen; unfold maxLen; omega
  have hby : Hid ((n + 1) * 56 ≤ 140737488355328) := by show (n + 1) * 56 ≤ 140737488355328; omega
  have hBw : Hid (B ≤ (w1.alloc (.cells #[.slice ba bl bc, .int .u64 0, .int .u64 0, .pointer none, .int .u16 q] 91)).heap.size) := by show B ≤ _; simp; omega
  go_region_law (refine step_append_slice rfl (.tmp 27) (.tmp 31) 87 rfl B 91 i0 (.agg #[.slice none 0 0, .int .u64 0, .int .u64 0, .pointer none, .int .u16 0]) 5 56 Yba.underlying87 HI0.out HZ0.out HZ1.out HZ2.out rfl (by decide) (.slice qa n qc) n xs (by simp [Act.eval]) (by exact O1.out.alloc _) ⟨w1.heap.size, 0, none⟩ 1 1 [.slice ba bl bc, .int .u64 0, .int .u64 0, .pointer none, .int .u16 q] (by simp [Act.eval]) rfl (by exact hN1.out) hO1.out h63.out hby.out (by exact hBw.out) ?_; intro qa' qc' w2 hO2 hg2 hb2; have F2 := grown_blk hg2 (by exact F1.out.alloc _) HQF.out; have e7 := F2.at 7; have z7 := F2.free 7; simp only [connCells, List.getElem?_cons_zero, List.getElem?_cons_succ] at e7; have HF2 := hide F2; clear F2)
  all_goals
    have hqf2 : (Value.slice qa' (n + 1) qc').ownBlock ≠ some fp := own_ne hO2 HF2.out (by decide)
    have K2 : Kept (fp :: gc :: (Value.slice qa n qc).ownBlock.toList) w w2 :=
      (((K1.out.mono (fun j _ hj => by simp at hj; simp [hj])).alloc _).drew).trans ⟨hg2.os, hg2.tape, hg2.output, hg2.size, fun j hj hs => hg2.block j hj (fun e => hs (by rw [← e]; simp))⟩
    have W2 : Wake w2 gc k := by
      obtain ⟨buf, s, r, hc, hb⟩ := (W1.out.keep (S := []) ((Kept.refl [] w1).alloc (.cells #[.slice ba bl bc, .int .u64 0, .int .u64 0, .pointer none, .int .u16 q] 91)) (by simp))
      exact ⟨buf, s, r, (hg2.block gc (lt_of_block hc) (fun e => HQG.out e.symm)).trans hc, hb⟩
    have F3 : Hid (Blk (w2.setCell ⟨fp, 7, none⟩ (.slice qa' (n + 1) qc')) fp 89 (connCells p 1 (.slice qa' (n + 1) qc') false gc)) := HF2.out.set 7 _
    have K23 : Kept [fp] w2 (w2.setCell ⟨fp, 7, none⟩ (.slice qa' (n + 1) qc')) := (Kept.refl _ _).setCell (.inl (by simp)) _
    have O3 := hide (ownsRow_kept hO2 K23 (fun j hj hm => by simp at hm; subst hm; exact hqf2 hj))
    have K3 := hide (K2.trans (K23.mono (fun j _ hj => by simp at hj; simp [hj])))
    have W3 := hide (W2.keep K23 (by simp; exact fun e => hfg e.symm))
    clear hO2 hg2 hb2 K2 W2 K23 e7 z7 HF2 f7 f11 x0 x1 x2 x3 hqf2 hqx HI0 HZ0 HZ1 HZ2 X1 O1 W1 F1 K1 hN1 hO1 h63 hby hBw
    generalize w2.setCell ⟨fp, 7, none⟩ (.slice qa' (n + 1) qc') = w3 at *
    have c5 := F3.out.at 5
    have z5 := F3.out.free 5
    simp only [connCells, List.getElem?_cons_zero, List.getElem?_cons_succ] at c5
    go_wp2_with fail
    refine (unlock_any fp 5 _ c5 z5).mono ?_
    rintro e w4 ⟨rfl, rfl⟩
    have F4 : Hid (Blk (w3.setCell ⟨fp, 5, none⟩ (.int .i32 0)) fp 89 (connCells p 0 (.slice qa' (n + 1) qc') false gc)) := F3.out.set 5 _
    have K34 : Kept [fp] w3 (w3.setCell ⟨fp, 5, none⟩ (.int .i32 0)) := (Kept.refl _ _).setCell (.inl (by simp)) _
    have O4 := hide (ownsRow_kept O3.out K34 (fun j hj hm => by simp at hm; subst hm; exact own_ne O3.out F3.out (by decide) hj))
    have K4 := hide (K3.out.trans (K34.mono (fun j _ hj => by simp at hj; simp [hj])))
    have W4 := hide (W3.out.keep K34 (by simp; exact fun e => hfg e.symm))
    clear K34 O3 K3 W3 F3 c5 z5
    generalize w3.setCell ⟨fp, 5, none⟩ (.int .i32 0) = w4 at *
    have c12 := F4.out.at 12
    simp only [connCells, List.getElem?_cons_zero, List.getElem?_cons_succ] at c12
    go_wp2_with fail
    refine (signal_any fp gc k _ c12 W4.out hk1).mono ?_
    rintro e w5 ⟨rfl, hk5, hW5⟩
    have FIN : Hid (∃ qa' qc', Conn w5 B fp gc p false (.slice qa' (n + 1) qc') (n + 1) (xs ++ [.slice ba bl bc, .int .u64 0, .int .u64 0, .pointer none, .int .u16 q]) ∧ Wake w5 gc 1 ∧ Kept (fp :: gc :: (Value.slice qa n qc).ownBlock.toList) w w5) :=
      ⟨qa', qc', ⟨hk5.blk F4.out (by simp; exact hfg), ownsRow_kept O4.out hk5 (fun j hj hm => by simp at hm; subst hm; exact own_chan O4.out W4.out hj), hBf⟩, hW5, K4.out.trans (hk5.mono (fun j _ hj => by simp at hj; simp [hj]))⟩
    clear hk5 hW5 F4 O4 K4 W4 c12
    go_wp2
    go_end0
    exact ⟨rfl, FIN.out⟩

set_option maxRecDepth 100000 in
set_option maxHeartbeats 2000000 in
theorem deliver_drop (B fp gc k : Nat) (p q : Int) (closed : Bool) (qa ba : Option Addr) (qc n bl bc : Nat) (xs : List Value) (w : World) (hC : Conn w B fp gc p closed (.slice qa n qc) n xs) (hW : Wake w gc k) (hk1 : k ≤ 1) (hn : closed = true ∨ 1024 ≤ n) :
    Calls Yba.prog 11 #[.pointer (some ⟨fp, 0, none⟩), .slice ba bl bc, .agg #[.int .u64 0, .int .u64 0, .pointer none, .int .u16 q]] w fun e w' => e = .returned (.tuple #[]) ∧
      Conn w' B fp gc p closed (.slice qa n qc) n xs ∧ Wake w' gc 1 ∧ Kept [fp, gc] w w' := by
  obtain ⟨hF, hO, hBf⟩ := hC
  have HF := hide hF
  have HO := hide hO
  have HW := hide hW
  have hlt := hF.lt
  have A1 := hF.alloc (.cells #[.int .u64 0, .int .u64 0, .pointer none, .int .u16 q] 43)
  have c5 := A1.at 5
  have z5 := A1.free 5
  simp only [connCells, List.getElem?_cons_zero, List.getElem?_cons_succ] at c5
  have K1 : Hid (Kept [fp] w ((w.alloc (.cells #[.int .u64 0, .int .u64 0, .pointer none, .int .u16 q] 43)).setCell ⟨fp, 5, none⟩ (.int .i32 1))) := ((Kept.refl [fp] w).alloc _).setCell (.inl (by simp)) _
  have F1 : Hid (Blk ((w.alloc (.cells #[.int .u64 0, .int .u64 0, .pointer none, .int .u16 q] 43)).setCell ⟨fp, 5, none⟩ (.int .i32 1)) fp 89 (connCells p 1 (.slice qa n qc) closed gc)) := A1.set 5 _
  have X1 : Hid (Blk ((w.alloc (.cells #[.int .u64 0, .int .u64 0, .pointer none, .int .u16 q] 43)).setCell ⟨fp, 5, none⟩ (.int .i32 1)) w.heap.size 43 [.int .u64 0, .int .u64 0, .pointer none, .int .u16 q]) :=
    (Blk.new w 43 [.int .u64 0, .int .u64 0, .pointer none, .int .u16 q]).other (a := ⟨fp, 5, none⟩) (by show w.heap.size ≠ fp; omega) _
  have hS1 : w.heap.size < ((w.alloc (.cells #[.int .u64 0, .int .u64 0, .pointer none, .int .u16 q] 43)).setCell ⟨fp, 5, none⟩ (.int .i32 1)).heap.size := X1.out.lt
  clear hF hO hW A1
  go_enter Yba.func11, Yba.ntmps11
  go_wp2_with fail
  refine (lock_any fp 5 _ c5 z5).mono ?_
  rintro e w1 ⟨rfl, rfl⟩
  generalize (w.alloc (.cells #[.int .u64 0, .int .u64 0, .pointer none, .int .u16 q] 43)).setCell ⟨fp, 5, none⟩ (.int .i32 1) = w1 at *
  clear c5 z5
  have hqf : (Value.slice qa n qc).ownBlock ≠ some fp := own_ne HO.out HF.out (by decide)
  have hqg : (Value.slice qa n qc).ownBlock ≠ some gc := own_chan HO.out HW.out
  have hfg : fp ≠ gc := chan_ne HF.out HW.out
  have O1 := hide (ownsRow_kept HO.out K1.out (fun j hj hm => by simp at hm; subst hm; exact hqf hj))
  have W1 := hide (HW.out.keep K1.out (by simp; exact fun e => hfg e.symm))
  have f7 := F1.out.at 7
  have f11 := F1.out.at 11
  have c5 := F1.out.at 5
  have z5 := F1.out.free 5
  simp only [connCells, List.getElem?_cons_zero, List.getElem?_cons_succ] at f7 f11 c5
  have HQF := hide hqf
  have HQG := hide hqg
  clear hqf hqg HF HO HW
  have hcase : (closed = true) ∨ (closed = false ∧ ¬ (n : Int) < 1024) := by
    cases closed
    · rcases hn with h | h
      · exact absurd h (by decide)
      · exact .inr ⟨rfl, by omega⟩
    · exact .inl rfl
  have F4 : Hid (Blk (w1.setCell ⟨fp, 5, none⟩ (.int .i32 0)) fp 89 (connCells p 0 (.slice qa n qc) closed gc)) := F1.out.set 5 _
  have K34 : Kept [fp] w1 (w1.setCell ⟨fp, 5, none⟩ (.int .i32 0)) := (Kept.refl _ _).setCell (.inl (by simp)) _
  have O4 := hide (ownsRow_kept O1.out K34 (fun j hj hm => by simp at hm; subst hm; exact HQF.out hj))
  have K4 := hide ((K1.out.mono (fun j _ hj => by simp at hj; simp [hj])).trans (K34.mono (fun j _ hj => by simp at hj; simp [hj])) : Kept [fp, gc] w (w1.setCell ⟨fp, 5, none⟩ (.int .i32 0)))
  have W4 := hide (W1.out.keep K34 (by simp; exact fun e => hfg e.symm))
  clear K34 O1 K1 W1 X1
  rcases hcase with rfl | ⟨rfl, hnI⟩
  all_goals
    go_wp2_with fail
    refine (unlock_any fp 5 _ c5 z5).mono ?_
    rintro e w4 ⟨rfl, rfl⟩
    clear c5 z5 f7 f11 F1
    generalize w1.setCell ⟨fp, 5, none⟩ (.int .i32 0) = w4 at *
    have c12 := F4.out.at 12
    simp only [connCells, List.getElem?_cons_zero, List.getElem?_cons_succ] at c12
    go_wp2_with fail
    refine (signal_any fp gc k _ c12 W4.out hk1).mono ?_
    rintro e w5 ⟨rfl, hk5, hW5⟩
    have C5 := hide (hk5.blk F4.out (by simp; exact hfg))
    have O5 := hide (ownsRow_kept O4.out hk5 (fun j hj hm => by simp at hm; subst hm; exact HQG.out hj))
    have K5 := hide (K4.out.trans (hk5.mono (fun j _ hj => by simp at hj; simp [hj])))
    have HW5 := hide hW5
    clear hk5 hW5 F4 O4 K4 W4 c12
    go_wp2
    go_end0
    exact ⟨rfl, ⟨C5.out, O5.out, hBf⟩, HW5.out, K5.out⟩

end Go.Proofs.Ybulkbtow
