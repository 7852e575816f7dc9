/-
  BModel: '(*table).failed' whole.
-/
import Derived.Test.YbulkbtowMFail
namespace Go.Proofs.Ybulkbtow
open Go.RowKit
set_option linter.unusedVariables false

theorem Kept.trans' {S T : List Nat} {a b c : World} (h : Kept S a b) (k : Kept T b c) (hT : ∀ g ∈ T, g < a.heap.size → g ∈ S) : Kept S a c :=
  ⟨k.os.trans h.os, k.tape.trans h.tape, k.output.trans h.output, Nat.le_trans h.size k.size, fun i hi hs => (k.block i (Nat.lt_of_lt_of_le hi h.size) (fun ht => hs (hT i ht hi))).trans (h.block i hi hs)⟩

/-- The candidates as they come in: none, or a row of the block gc. -/
def CandIn (w : World) (cv : Value) (gcs : List Nat) (gc L n : Nat) (f : Nat → Value) (b : Nat → Nat) (p : Nat → Int) : Prop :=
  (cv = .slice none 0 0 ∧ n = 0 ∧ gcs = []) ∨ (cv = .slice (some ⟨gc, 0, none⟩) n L ∧ Cands w gc L n f b p ∧ n ≤ 100000 ∧ L ≤ maxLen ∧ gcs = [gc])
/-- .. and as they are left. -/
def CandOut (w : World) (cv : Value) (gc L n : Nat) (f : Nat → Value) (p : Nat → Int) (t : Int) : Prop :=
  (cv = .slice none 0 0 ∧ n = 0) ∨ (cv = .slice (some ⟨gc, 0, none⟩) (cnt (fun i => p i != t) n) L ∧ ∃ f', Vf w gc 68 L f' ∧ ∀ i, i < n → p i ≠ t → f' (cnt (fun i => p i != t) i) = f i)

theorem CandOut.kept {w w' : World} {cv : Value} {gc L n : Nat} {f : Nat → Value} {p : Nat → Int} {t : Int} (h : CandOut w cv gc L n f p t) {S : List Nat} (hk : Kept S w w') (hS : Alien w S [68]) : CandOut w' cv gc L n f p t := by
  rcases h with h | ⟨h1, f', h2, h3⟩
  · exact .inl h
  · exact .inr ⟨h1, f', h2.kept hk (hS.out h2 (by simp)), h3⟩

theorem Cands.kept {w w' : World} {g L n : Nat} {f : Nat → Value} {b : Nat → Nat} {p : Nat → Int} (h : Cands w g L n f b p) {S : List Nat} (hk : Kept S w w') (hS : Alien w S [68, 70]) : Cands w' g L n f b p := by
  refine ⟨h.row.kept hk (hS.out h.row (by simp)), h.nL, h.ptr, fun i hi => ?_, fun i hi => ?_⟩
  · obtain ⟨cs, hc⟩ := h.typ i hi
    exact ⟨cs, hk.blk hc (hS.out hc (by simp))⟩
  · obtain ⟨cs, hc⟩ := h.typ i hi
    exact (h.at' i hi).kept hk (hS.out hc (by simp))

theorem Alien.mono {w : World} {S : List Nat} {es es' : List TypeId} (h : Alien w S es) (hs : ∀ e ∈ es', e ∈ es) : Alien w S es' := fun g hg e he => h g hg e (hs e he)

set_option maxRecDepth 100000 in
set_option maxHeartbeats 4000000 in
theorem failed_any (nb gt ct : Nat) (B len gr : Nat → Nat) (bv : Nat → Value) (cb : Nat → Nat → Nat) (port : Nat → Nat → Int) (bt : Nat) (tcs : List Value) (cv : Value) (gcs : List Nat) (gc L n : Nat) (f : Nat → Value) (b : Nat → Nat) (p : Nat → Int) (tg na nx : Int) (k0 j0 : Nat) (x y f0 : Int) (sv : Value) (tw tx : Int) (L0 : Nat) (fr : Nat → Value) (z : Nat) (xs ys ps : Int)
    (w : World) (R : Ending → World → Prop)
    (hS : Scan nb gt ct B len gr bv cb port w) (hnb : nb ≤ 4) (hlen : ∀ k, k < nb → len k ≤ 100000) (hbt : Blk w bt 54 tcs) (t29 : tcs[29]? = some (.slice (some ⟨gt, 0, none⟩) nb ct)) (t34 : tcs[34]? = some cv)
    (hC : CandIn w cv gcs gc L n f b p)
    (hk0 : k0 ≤ nb) (hbef : ∀ k, k < k0 → ∀ j, j < len k → port k j ≠ tg) (hhit : k0 < nb → j0 < len k0 ∧ port k0 j0 = tg ∧ ∀ j, j < j0 → port k0 j ≠ tg)
    (hcon : k0 < nb → Blk w (cb k0 j0) 66 (conCells x y tg f0)) (hf0 : -128 ≤ f0 ∧ f0 ≤ 127)
    (hbk : k0 < nb → Blk w (B k0) 60 [bv k0, sv, .pointer none, .int .u64 tw, .int .i64 tx, .pointer none]) (hsv : sv = .pointer none ∨ sv = ptr z ∧ (k0 < nb → Blk w z 66 (conCells xs ys ps 0) ∧ z ≠ cb k0 j0))
    (hrow : k0 < nb → Vf w (gr k0) 58 L0 fr ∧ j0 < L0)
    (hnone : k0 = nb → ∀ w' cv', Kept (bt :: gcs) w w' → Blk w' bt 54 (tcs.set 34 cv') → CandOut w' cv' gc L n f p tg → R (.returned (.tuple #[niv 0 0 0, .bool false])) w')
    (hkeep : k0 < nb → ¬ (2 ≤ f0 + 1 ∧ sv = ptr z) → ∀ w' cv', Kept (bt :: cb k0 j0 :: gcs) w w' → Blk w' bt 54 (tcs.set 34 cv') → CandOut w' cv' gc L n f p tg → Blk w' (cb k0 j0) 66 (conCells x y tg (f0 + 1)) → R (.returned (.tuple #[niv 0 0 0, .bool false])) w')
    (hrepl : k0 < nb → 2 ≤ f0 + 1 → sv = ptr z → ∀ w' cv', Kept (bt :: cb k0 j0 :: B k0 :: gr k0 :: gcs) w w' → Blk w' bt 54 (tcs.set 34 cv') → CandOut w' cv' gc L n f p tg → Blk w' (cb k0 j0) 66 (conCells x y tg (f0 + 1)) → Blk w' (B k0) 60 [bv k0, .pointer none, .pointer none, .int .u64 na, .int .i64 nx, .pointer none] → Vf w' (gr k0) 58 L0 (upv fr j0 (ptr z)) → R (.returned (.tuple #[niv xs ys ps, .bool true])) w') :
    Calls Yba.prog 8 #[ptr bt, .agg #[.int .u64 0, .int .u64 0, .pointer none, .int .u16 tg], .agg #[.int .u64 na, .int .i64 nx, .pointer none]] w R := by
  have HS := hide hS
  have HLEN := hide hlen
  have HBT := hide hbt
  have T29 := hide t29
  have T34 := hide t34
  have HC := hide hC
  have HBEF := hide hbef
  have HHIT := hide hhit
  have HCON := hide hcon
  have HBK := hide hbk
  have HSV := hide hsv
  have HROW := hide hrow
  have HNONE := hide hnone
  have HKEEP := hide hkeep
  have HREPL := hide hrepl
  clear hS hlen hbt t29 t34 hC hbef hhit hcon hbk hsv hrow hnone hkeep hrepl
  go_enter Yba.func8, Yba.ntmps8
  refine wp_seq_rest fun K hK => ?_
  go_wp2
  have b1 : Blk (w.alloc (.cells #[.int .u64 0, .int .u64 0, .pointer none, .int .u16 tg] 43)) w.heap.size 43 [.int .u64 0, .int .u64 0, .pointer none, .int .u16 tg] := Blk.new w 43 _
  have b2 : Blk ((w.alloc (.cells #[.int .u64 0, .int .u64 0, .pointer none, .int .u16 tg] 43)).alloc (.cells #[.int .u64 na, .int .i64 nx, .pointer none] 29)) (w.heap.size + 1) 29 [.int .u64 na, .int .i64 nx, .pointer none] := by
    have := Blk.new (w.alloc (.cells #[.int .u64 0, .int .u64 0, .pointer none, .int .u16 tg] 43)) 29 [.int .u64 na, .int .i64 nx, .pointer none]
    simpa using this
  have b3 : Blk (((w.alloc (.cells #[.int .u64 0, .int .u64 0, .pointer none, .int .u16 tg] 43)).alloc (.cells #[.int .u64 na, .int .i64 nx, .pointer none] 29)).alloc (.cells #[.int .u8 0, .int .u8 0, .int .u8 0, .int .u8 0, .int .u8 0, .int .u8 0, .int .u8 0, .int .u8 0, .int .u8 0, .int .u8 0, .int .u8 0, .int .u8 0, .int .u8 0, .int .u8 0, .int .u8 0, .int .u8 0, .int .u8 0, .int .u8 0, .int .u8 0, .int .u8 0, .int .u64 0, .int .u64 0, .pointer none, .int .u16 0] 64)) (w.heap.size + 1 + 1) 64 niZero := by
    have := Blk.new ((w.alloc (.cells #[.int .u64 0, .int .u64 0, .pointer none, .int .u16 tg] 43)).alloc (.cells #[.int .u64 na, .int .i64 nx, .pointer none] 29)) 64 niZero
    rw [show ((w.alloc (.cells #[.int .u64 0, .int .u64 0, .pointer none, .int .u16 tg] 43)).alloc (.cells #[.int .u64 na, .int .i64 nx, .pointer none] 29)).heap.size = w.heap.size + 1 + 1 by simp] at this
    exact this
  have KW : Kept [] w (((w.alloc (.cells #[.int .u64 0, .int .u64 0, .pointer none, .int .u16 tg] 43)).alloc (.cells #[.int .u64 na, .int .i64 nx, .pointer none] 29)).alloc (.cells #[.int .u8 0, .int .u8 0, .int .u8 0, .int .u8 0, .int .u8 0, .int .u8 0, .int .u8 0, .int .u8 0, .int .u8 0, .int .u8 0, .int .u8 0, .int .u8 0, .int .u8 0, .int .u8 0, .int .u8 0, .int .u8 0, .int .u8 0, .int .u8 0, .int .u8 0, .int .u8 0, .int .u64 0, .int .u64 0, .pointer none, .int .u16 0] 64)) := (((Kept.refl [] w).alloc _).alloc _).alloc _
  have HBA := hide ((b1.alloc (.cells #[.int .u64 na, .int .i64 nx, .pointer none] 29)).alloc (.cells #[.int .u8 0, .int .u8 0, .int .u8 0, .int .u8 0, .int .u8 0, .int .u8 0, .int .u8 0, .int .u8 0, .int .u8 0, .int .u8 0, .int .u8 0, .int .u8 0, .int .u8 0, .int .u8 0, .int .u8 0, .int .u8 0, .int .u8 0, .int .u8 0, .int .u8 0, .int .u8 0, .int .u64 0, .int .u64 0, .pointer none, .int .u16 0] 64))
  have HBN := hide (b2.alloc (.cells #[.int .u8 0, .int .u8 0, .int .u8 0, .int .u8 0, .int .u8 0, .int .u8 0, .int .u8 0, .int .u8 0, .int .u8 0, .int .u8 0, .int .u8 0, .int .u8 0, .int .u8 0, .int .u8 0, .int .u8 0, .int .u8 0, .int .u8 0, .int .u8 0, .int .u8 0, .int .u8 0, .int .u64 0, .int .u64 0, .pointer none, .int .u16 0] 64))
  have HBR := hide b3
  have HKW := hide KW
  clear b1 b2 b3 KW
  have hbaH : w.heap.size ≤ w.heap.size := Nat.le_refl _
  have hbrH : w.heap.size ≤ w.heap.size + 1 + 1 := by omega
  generalize (((w.alloc (.cells #[.int .u64 0, .int .u64 0, .pointer none, .int .u16 tg] 43)).alloc (.cells #[.int .u64 na, .int .i64 nx, .pointer none] 29)).alloc (.cells #[.int .u8 0, .int .u8 0, .int .u8 0, .int .u8 0, .int .u8 0, .int .u8 0, .int .u8 0, .int .u8 0, .int .u8 0, .int .u8 0, .int .u8 0, .int .u8 0, .int .u8 0, .int .u8 0, .int .u8 0, .int .u8 0, .int .u8 0, .int .u8 0, .int .u8 0, .int .u8 0, .int .u64 0, .int .u64 0, .pointer none, .int .u16 0] 64)) = W1 at *
  generalize hbr' : w.heap.size + 1 + 1 = br at *
  generalize hbn' : w.heap.size + 1 = bn at *
  generalize hba' : w.heap.size = ba at *
  have HS1 := hide (HS.out.kept HKW.out (alien_nil _ _))
  have HBT1 := hide (HKW.out.blk HBT.out (by simp))
  have HCON1 := hide (fun h => HKW.out.blk (HCON.out h) (by simp))
  have HBK1 := hide (fun h => HKW.out.blk (HBK.out h) (by simp))
  have HSV1 := hide (show sv = .pointer none ∨ sv = ptr z ∧ (k0 < nb → Blk W1 z 66 (conCells xs ys ps 0) ∧ z ≠ cb k0 j0) from by
    rcases HSV.out with h | ⟨h, h'⟩
    · exact .inl h
    · exact .inr ⟨h, fun hk => ⟨HKW.out.blk (h' hk).1 (by simp), (h' hk).2⟩⟩)
  have HROW1 := hide (fun h => (⟨(HROW.out h).1.kept HKW.out (by simp), (HROW.out h).2⟩ : Vf W1 (gr k0) 58 L0 fr ∧ j0 < L0))
  have c34 := (HBT1.out.at 34).trans T34.out
  have z34 := HBT1.out.free 34
  have HAP := hide (show ApAt W1 ba 0 tg from ⟨HBA.out.at 0, HBA.out.at 1, HBA.out.at 2, HBA.out.at 3⟩)
  -- what both ways share
  have HGO : Hid (∀ w2 cv', Kept (bt :: gcs) W1 w2 → Alien W1 (bt :: gcs) [57, 60, 58, 66, 43, 29, 64] → Blk w2 bt 54 (tcs.set 34 cv') → CandOut w2 cv' gc L n f p tg → 
      ∀ (u1 u2 u3 u8 u9 u10 u11 u12 u13 u14 u15 u16 u17 u18 u19 u20 u21 u22 u23 u24 u25 u26 u27 u28 u29 u30 u31 u32 u33 u34 u35 u36 u37 u38 u39 u40 u41 u42 u43 u44 u45 u46 u47 u48 u49 u50 u51 u52 u53 u54 u55 u56 u57 u58 u59 u60 u61 u62 u63 u64 u65 u66 u67 u68 u69 u70 u71 u72 u73 u74 u75 u76 u77 u78 u79 u80 u81 u82 u83 u84 u85 u86 u87 u88 u89 u90 u91 u92 u93 : Value) (code : Code) (hcode : (Yba.f8.body).bind (seqTail 2) = some code), code.wp Yba.prog (bodyPost Yba.prog Yba.f8 R) ⟨#[ptr bt, u1, u2, u3, ptr ba, ptr bn, ptr br, .bool false, u8, u9, u10, u11, u12, u13, u14, u15, u16, u17, u18, u19, u20, u21, u22, u23, u24, u25, u26, u27, u28, u29, u30, u31, u32, u33, u34, u35, u36, u37, u38, u39, u40, u41, u42, u43, u44, u45, u46, u47, u48, u49, u50, u51, u52, u53, u54, u55, u56, u57, u58, u59, u60, u61, u62, u63, u64, u65, u66, u67, u68, u69, u70, u71, u72, u73, u74, u75, u76, u77, u78, u79, u80, u81, u82, u83, u84, u85, u86, u87, u88, u89, u90, u91, u92, u93], []⟩ w2) := by
    intro w2 cv' hk ha hbt hco u1 u2 u3 u8 u9 u10 u11 u12 u13 u14 u15 u16 u17 u18 u19 u20 u21 u22 u23 u24 u25 u26 u27 u28 u29 u30 u31 u32 u33 u34 u35 u36 u37 u38 u39 u40 u41 u42 u43 u44 u45 u46 u47 u48 u49 u50 u51 u52 u53 u54 u55 u56 u57 u58 u59 u60 u61 u62 u63 u64 u65 u66 u67 u68 u69 u70 u71 u72 u73 u74 u75 u76 u77 u78 u79 u80 u81 u82 u83 u84 u85 u86 u87 u88 u89 u90 u91 u92 u93 code hcode
    have hbr2 := hk.blk HBR.out (ha.out HBR.out (by simp))
    refine ftail _ _ _ _ _ _ _ _ _ _ _ _ _ _ _ _ _ _ _ _ _ _ _ _ _ _ _ _ _ _ _ _ _ _ _ _ _ _ _ _ _ _ _ _ _ _ _ _ _ _ _ _ _ _ _ _ _ _ _ _ _ _ _ _ _ _ _ _ _ _ _ _ _ _ _ _ _ _ _ _ _ _ _ _ _ _ _ _ _ nb gt ct B len gr bv cb port bt ba bn br tg na nx k0 j0 x y f0 sv tw tx L0 fr z xs ys ps w2 R code hcode (HS1.out.kept hk (ha.mono (by simp))) hnb HLEN.out ?_ ⟨_, hbt⟩ (hk.blk HBA.out (ha.out HBA.out (by simp))) (hk.blk HBN.out (ha.out HBN.out (by simp))) hbr2 hk0 HBEF.out HHIT.out (fun h => hk.blk (HCON1.out h) (ha.out (HCON1.out h) (by simp))) hf0 (fun h => hk.blk (HBK1.out h) (ha.out (HBK1.out h) (by simp))) ?_ (fun h => ⟨(HROW1.out h).1.kept hk (ha.out (HROW1.out h).1 (by simp)), (HROW1.out h).2⟩) ?_ ?_ ?_
    · rw [hbt.at 29, List.getElem?_set_ne (by decide)]
      exact T29.out
    · rcases HSV1.out with h | ⟨h, h'⟩
      · exact .inl h
      · exact .inr ⟨h, fun hk' => ⟨hk.blk (h' hk').1 (ha.out (h' hk').1 (by simp)), (h' hk').2⟩⟩
    · intro hkn w' hk'
      have hal : Alien w2 [br] [68] := alien_one hbr2 (by decide) (alien_nil _ _)
      refine HNONE.out hkn w' cv' ?_ (hk'.blk hbt (by simp; exact hbt.ne hbr2 (by decide))) (hco.kept hk' hal)
      exact ((HKW.out.mono (fun k _ h => by simp at h)).trans' hk (fun g hg _ => hg)).trans' hk' (fun g hg hlt => by simp at hg; subst hg; omega)
    · intro hkn hnr w' hk' hcn
      have hc2 := hk.blk (HCON1.out hkn) (ha.out (HCON1.out hkn) (by simp))
      have hal : Alien w2 [br, cb k0 j0] [68] := alien_one hbr2 (by decide) (alien_one hc2 (by decide) (alien_nil _ _))
      refine HKEEP.out hkn hnr w' cv' ?_ (hk'.blk hbt (by simp; exact ⟨hbt.ne hbr2 (by decide), hbt.ne hc2 (by decide)⟩)) (hco.kept hk' hal) hcn
      exact ((HKW.out.mono (fun k _ h => by simp at h)).trans' hk (fun g hg _ => by simp at hg; rcases hg with h | h <;> simp [h])).trans' hk' (fun g hg hlt => by
        simp at hg
        rcases hg with h | h
        · subst h; omega
        · simp [h])
    · intro hkn h2 hz w' hk' hcn hbn hvn
      have hc2 := hk.blk (HCON1.out hkn) (ha.out (HCON1.out hkn) (by simp))
      have hb2 := hk.blk (HBK1.out hkn) (ha.out (HBK1.out hkn) (by simp))
      have hv2 := (HROW1.out hkn).1.kept hk (ha.out (HROW1.out hkn).1 (by simp))
      have hal : Alien w2 [br, cb k0 j0, B k0, gr k0] [68] := alien_one hbr2 (by decide) (alien_one hc2 (by decide) (alien_one hb2 (by decide) (alien_one hv2 (by decide) (alien_nil _ _))))
      refine HREPL.out hkn h2 hz w' cv' ?_ (hk'.blk hbt (by simp; exact ⟨hbt.ne hbr2 (by decide), hbt.ne hc2 (by decide), hbt.ne hb2 (by decide), hbt.ne hv2 (by decide)⟩)) (hco.kept hk' hal) hcn hbn hvn
      exact ((HKW.out.mono (fun k _ h => by simp at h)).trans' hk (fun g hg _ => by simp at hg; rcases hg with h | h <;> simp [h])).trans' hk' (fun g hg hlt => by
        simp at hg
        rcases hg with h | h | h | h
        · subst h; omega
        · simp [h]
        · simp [h]
        · simp [h])
  refine wp_seq_rest fun K hK => ?_
  rcases HC.out with ⟨rfl, rfl, rfl⟩ | ⟨rfl, hcs, hn5, hLm, rfl⟩
  · have HD := hide (delf_nil ba W1)
    have hset : Blk (W1.setCell ⟨bt, 34, none⟩ (.slice none 0 0)) bt 54 (tcs.set 34 (.slice none 0 0)) := HBT1.out.set 34 _
    have HX := hide (HGO.out (W1.setCell ⟨bt, 34, none⟩ (.slice none 0 0)) (.slice none 0 0) ((Kept.refl [bt] W1).setCell (p := ⟨bt, 34, none⟩) (.inl (by simp)) _) (alien_one HBT1.out (by decide) (alien_nil _ _)) hset (.inl ⟨rfl, rfl⟩))
    clear HGO HS HLEN HBT T29 T34 HC HBEF HHIT HCON HBK HSV HROW HNONE HKEEP HREPL HS1 HBT1 HCON1 HBK1 HSV1 HROW1 HAP HBA HBN HBR hset
    go_wp2_with fail
    refine HD.out.mono ?_
    rintro e w2 ⟨rfl, rfl⟩
    go_wp2
    exact HX.out _ _ _ _ _ _ _ _ _ _ _ _ _ _ _ _ _ _ _ _ _ _ _ _ _ _ _ _ _ _ _ _ _ _ _ _ _ _ _ _ _ _ _ _ _ _ _ _ _ _ _ _ _ _ _ _ _ _ _ _ _ _ _ _ _ _ _ _ _ _ _ _ _ _ _ _ _ _ _ _ _ _ _ _ _ _ _ _ _ _ rfl
  · have HCS := hide (hcs.kept HKW.out (alien_nil _ _))
    have HD := hide (delf_any gc L n f b p ba tg W1 HCS.out hn5 hLm HAP.out (HBA.out.ne HCS.out.row (by decide)))
    clear hcs
    go_wp2_with fail
    refine HD.out.mono ?_
    rintro e w2 ⟨hk2, f', rfl, hv2, hf2⟩
    have hbg : bt ≠ gc := HBT1.out.ne HCS.out.row (by decide)
    have hbt2 := hk2.blk HBT1.out (by simp; exact hbg)
    have hset : Blk (w2.setCell ⟨bt, 34, none⟩ (.slice (some ⟨gc, 0, none⟩) (cnt (fun i => p i != tg) n) L)) bt 54 (tcs.set 34 (.slice (some ⟨gc, 0, none⟩) (cnt (fun i => p i != tg) n) L)) := hbt2.set 34 _
    have HX := hide (HGO.out (w2.setCell ⟨bt, 34, none⟩ (.slice (some ⟨gc, 0, none⟩) (cnt (fun i => p i != tg) n) L)) _ ((hk2.mono (fun k _ h => by simp at h; simp [h])).setCell (p := ⟨bt, 34, none⟩) (.inl (by simp)) _) (alien_one HBT1.out (by decide) (alien_one HCS.out.row (by decide) (alien_nil _ _))) hset (.inr ⟨rfl, f', Blk.other hv2 (a := ⟨bt, 34, none⟩) (fun h => hbg h.symm) _, hf2⟩))
    have c34' := (hbt2.at 34).trans T34.out
    have z34' := hbt2.free 34
    clear HGO HS HLEN HBT T29 T34 HC HBEF HHIT HCON HBK HSV HROW HNONE HKEEP HREPL HS1 HBT1 HCON1 HBK1 HSV1 HROW1 HAP HBA HBN HBR hset hbt2 hv2 hf2 hk2 HD HCS c34 z34
    go_wp2
    exact HX.out _ _ _ _ _ _ _ _ _ _ _ _ _ _ _ _ _ _ _ _ _ _ _ _ _ _ _ _ _ _ _ _ _ _ _ _ _ _ _ _ _ _ _ _ _ _ _ _ _ _ _ _ _ _ _ _ _ _ _ _ _ _ _ _ _ _ _ _ _ _ _ _ _ _ _ _ _ _ _ _ _ _ _ _ _ _ _ _ _ _ rfl

end Go.Proofs.Ybulkbtow
