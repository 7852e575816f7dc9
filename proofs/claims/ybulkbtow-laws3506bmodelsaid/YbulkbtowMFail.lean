/-
  BModel: '(*table).failed' from its loop on.
-/
import Derived.Test.YbulkbtowMScan
import Derived.BigRegion
import Derived.Deep.MidRow
namespace Go.Proofs.Ybulkbtow
open Go.RowKit
set_option linter.unusedVariables false

def seqTail : Nat → Code → Option Code
  | 0, c => some c
  | n + 1, .seq _ y => seqTail n y
  | _, _ => none
/-- What is left to walk, behind a name. -/
def Rest (P : Program) (y : Code) (Q : Exit → Act → World → Prop) (a : Act) (w : World) : Prop := y.wp P Q a w
theorem wp_seq_rest {P : Program} {x y : Code} {Q : Exit → Act → World → Prop} {a : Act} {w : World} (h : ∀ K : Act → World → Prop, (∀ a w, Rest P y Q a w → K a w) → x.wp P (Exit.then K Q) a w) : (Code.seq x y).wp P Q a w :=
  wp_seq (h _ fun _ _ h => h)

/-- The zero NodeInfo's 24 cells. -/
def niZero : List Value := [.int .u8 0, .int .u8 0, .int .u8 0, .int .u8 0, .int .u8 0, .int .u8 0, .int .u8 0, .int .u8 0, .int .u8 0, .int .u8 0, .int .u8 0, .int .u8 0, .int .u8 0, .int .u8 0, .int .u8 0, .int .u8 0, .int .u8 0, .int .u8 0, .int .u8 0, .int .u8 0,
  .int .u64 0, .int .u64 0, .pointer none, .int .u16 0]

def niCells (x y p : Int) : List Value := [.int .u8 x, .int .u8 y, .int .u8 0, .int .u8 0, .int .u8 0, .int .u8 0, .int .u8 0, .int .u8 0, .int .u8 0, .int .u8 0, .int .u8 0, .int .u8 0, .int .u8 0, .int .u8 0, .int .u8 0, .int .u8 0, .int .u8 0, .int .u8 0, .int .u8 0, .int .u8 0, .int .u64 0, .int .u64 0, .pointer none, .int .u16 p]

theorem Blk.setCells {g : Nat} {e : TypeId} : ∀ (vs : List Value) (o : Nat) (w : World) (cs : List Value), Blk w g e cs → o + vs.length ≤ cs.length → Blk (w.setCells g o vs) g e (cs.take o ++ vs ++ cs.drop (o + vs.length))
  | [], o, w, cs, h, hl => by
    have e : cs.take o ++ [] ++ cs.drop (o + ([] : List Value).length) = cs := by simp
    rw [e]
    exact h
  | v :: r, o, w, cs, h, hl => by
    simp only [List.length_cons] at hl
    have h1 := Blk.setCells r (o + 1) (w.setCell ⟨g, o, none⟩ v) (cs.set o v) (h.set o v) (by simp; omega)
    have e : (cs.set o v).take (o + 1) ++ r ++ (cs.set o v).drop (o + 1 + r.length) = cs.take o ++ (v :: r) ++ cs.drop (o + (v :: r).length) := by
      rw [List.take_set, List.drop_set, if_pos (by omega), List.take_succ_eq_append_getElem (by omega), List.set_append_right _ _ (by simp; omega)]
      simp only [List.length_cons, List.length_take]
      have e1 : min o cs.length = o := by omega
      have e2 : o + 1 + r.length = o + (r.length + 1) := by omega
      rw [e1, Nat.sub_self, e2]
      simp
    rw [e] at h1
    exact h1

theorem ni_set {w : World} {br : Nat} (h : Blk w br 64 niZero) (x y p : Int) : Blk (w.setCells br 0 (niCells x y p)) br 64 (niCells x y p) := by
  have := Blk.setCells (niCells x y p) 0 w niZero h (by simp [niCells, niZero])
  simpa [niCells, niZero] using this

theorem setCells_kept {S : List Nat} {w0 : World} {br : Nat} (hS : br ∈ S) : ∀ (vs : List Value) (o : Nat) (w : World), Kept S w0 w → Kept S w0 (w.setCells br o vs)
  | [], o, w, h => h
  | v :: r, o, w, h => setCells_kept hS r (o + 1) _ (h.setCell (p := ⟨br, o, none⟩) (.inl hS) v)

theorem info64 : (Yba.prog.info? 64).map (·.size) = some 24 := by kernel_rfl
theorem info66 : (Yba.prog.info? 66).map (·.size) = some 32 := by kernel_rfl

theorem Blk.range {w : World} {g : Nat} {e : TypeId} {cs : List Value} (h : Blk w g e cs) : w.rangeAt g 0 cs := fun j v hv => by
  rw [Nat.zero_add, h.at j]
  exact hv
theorem Blk.there {w : World} {g : Nat} {e : TypeId} {cs : List Value} (h : Blk w g e cs) {o n : Nat} (hn : o + n ≤ cs.length) : w.there g o n := fun j hj => by
  refine ⟨?_, h.free _⟩
  rw [h.at (o + j), List.getElem?_eq_getElem (by omega)]
  rfl

/-- The store of a NodeInfo into its own block. -/
theorem ni_store {w : World} {br : Nat} (h : Blk w br 64 niZero) (x y p : Int) : (Instr.storeAt 64 (.pointer (some ⟨br, 0, none⟩)) (niv x y p)).run Yba.prog w = .ok () (w.setCells br 0 (niCells x y p)) :=
  run_storeAt_mid (P := Yba.prog) w br 0 64 (niCells x y p).toArray (h.there (by simp [niCells, niZero])) info64 (by simp [niCells, Value.oneCell'])

theorem wpList_ni {ops : Array Oper} {rest : List Oper} {op : Oper} {a : Act} {w : World} {Q : Exit → Act → World → Prop} (hgd : op.guard = none) (x y : Operand) (ho : op.op = .store 64 x y) (br : Nat) (X Y p : Int) (hx : a.eval x = .pointer (some ⟨br, 0, none⟩)) (hy : a.eval y = niv X Y p) (hb : Blk w br 64 niZero)
    (h : wpList Yba.prog ops Q rest (a.put op.dst undef) (w.setCells br 0 (niCells X Y p))) : wpList Yba.prog ops Q (op :: rest) a w :=
  wpList_store_mid (P := Yba.prog) hgd 64 x y ho br 0 (niCells X Y p).toArray hx hy (hb.there (by simp [niCells, niZero])) info64 (by simp [niCells, Value.oneCell']) h

theorem con_range {w : World} {b : Nat} {x y p f : Int} (h : Blk w b 66 (conCells x y p f)) : w.rangeAt b 0 (niCells x y p) := fun j v hv => by
  rw [Nat.zero_add, h.at j]
  have e : conCells x y p f = niCells x y p ++ [.int .u64 0, .int .i64 0, .pointer none, .int .u64 0, .int .i64 0, .pointer none, .int .i64 f, .int .i64 0] := rfl
  rw [e, List.getElem?_append_left (by rw [List.getElem?_eq_some_iff] at hv; exact hv.1)]
  exact hv

theorem wpList_lni {ops : Array Oper} {rest : List Oper} {op : Oper} {a : Act} {w : World} {Q : Exit → Act → World → Prop} (hgd : op.guard = none) (x : Operand) (ho : op.op = .load 64 x) (b : Nat) (X Y p f : Int) (hx : a.eval x = .pointer (some ⟨b, 0, none⟩)) (hb : Blk w b 66 (conCells X Y p f))
    (h : wpList Yba.prog ops Q rest (a.put op.dst (niv X Y p)) w) : wpList Yba.prog ops Q (op :: rest) a w :=
  wpList_load_mid (P := Yba.prog) hgd 64 x ho b 0 hx (niCells X Y p) _ (con_range hb) Yba.underlying64 rfl info64 h

theorem results_ni {w : World} {br : Nat} {x y p : Int} {bb : Bool} {tmps : Array Value} (hb : Blk w br 64 (niCells x y p)) (h6 : tmps.getD 6 undef = ptr br) (h7 : tmps.getD 7 undef = .bool bb) : (results Yba.f8 tmps).run Yba.prog w = .ok (.tuple #[niv x y p, .bool bb]) w := by
  have hl : (loadVar 64 ⟨br, 0, none⟩).run Yba.prog w = .ok (niv x y p) w := run_loadVar_mid (P := Yba.prog) w br 0 64 (niCells x y p) _ hb.range Yba.underlying64 rfl info64
  have e6 : tmps[6]?.getD undef = ptr br := by simpa using h6
  have e7 : tmps[7]?.getD undef = .bool bb := by simpa using h7
  simp [results, Yba.results8, e6, e7, asAddr, hl]

theorem ret8 {R : Ending → World → Prop} {tmps : Array Value} {w : World} {br : Nat} {x y p : Int} {bb : Bool} (hb : Blk w br 64 niZero) (h6 : tmps.getD 6 undef = ptr br) (h7 : tmps.getD 7 undef = .bool bb) (hR : ∀ w', Kept [br] w w' → R (.returned (.tuple #[niv x y p, .bool bb])) w') :
    bodyPost Yba.prog Yba.f8 R .ret ⟨tmps, []⟩ (w.setCells br 0 (niCells x y p)) :=
  bodyPost_ret (v := .tuple #[niv x y p, .bool bb]) (results_ni (ni_set hb x y p) h6 h7) rfl (hR _ (setCells_kept (by simp) _ _ _ (Kept.refl _ _)))

set_option maxRecDepth 100000 in
set_option maxHeartbeats 4000000 in
theorem ftail (u1 u2 u3 u8 u9 u10 u11 u12 u13 u14 u15 u16 u17 u18 u19 u20 u21 u22 u23 u24 u25 u26 u27 u28 u29 u30 u31 u32 u33 u34 u35 u36 u37 u38 u39 u40 u41 u42 u43 u44 u45 u46 u47 u48 u49 u50 u51 u52 u53 u54 u55 u56 u57 u58 u59 u60 u61 u62 u63 u64 u65 u66 u67 u68 u69 u70 u71 u72 u73 u74 u75 u76 u77 u78 u79 u80 u81 u82 u83 u84 u85 u86 u87 u88 u89 u90 u91 u92 u93 : Value) (nb gt ct : Nat) (B len gr : Nat → Nat) (bv : Nat → Value) (cb : Nat → Nat → Nat) (port : Nat → Nat → Int) (bt ba bn br : Nat) (tg na nx : Int) (k0 j0 : Nat) (x y f0 : Int) (sv : Value) (tw tx : Int) (L0 : Nat) (fr : Nat → Value) (z : Nat) (xs ys ps : Int)
    (W : World) (R : Ending → World → Prop) (code : Code) (hcode : (Yba.f8.body).bind (seqTail 2) = some code)
    (hS : Scan nb gt ct B len gr bv cb port W) (hnb : nb ≤ 4) (hlen : ∀ k, k < nb → len k ≤ 100000) (t29 : W.cell? ⟨bt, 29, none⟩ = some (.slice (some ⟨gt, 0, none⟩) nb ct)) (hbtT : ∃ cs, Blk W bt 54 cs)
    (hba : Blk W ba 43 [.int .u64 0, .int .u64 0, .pointer none, .int .u16 tg]) (hbn : Blk W bn 29 [.int .u64 na, .int .i64 nx, .pointer none]) (hbr : Blk W br 64 niZero)
    (hk0 : k0 ≤ nb) (hbef : ∀ k, k < k0 → ∀ j, j < len k → port k j ≠ tg) (hhit : k0 < nb → j0 < len k0 ∧ port k0 j0 = tg ∧ ∀ j, j < j0 → port k0 j ≠ tg)
    (hcon : k0 < nb → Blk W (cb k0 j0) 66 (conCells x y tg f0)) (hf0 : -128 ≤ f0 ∧ f0 ≤ 127)
    (hbk : k0 < nb → Blk W (B k0) 60 [bv k0, sv, .pointer none, .int .u64 tw, .int .i64 tx, .pointer none]) (hsv : sv = .pointer none ∨ sv = ptr z ∧ (k0 < nb → Blk W z 66 (conCells xs ys ps 0) ∧ z ≠ cb k0 j0))
    (hrow : k0 < nb → Vf W (gr k0) 58 L0 fr ∧ j0 < L0)
    (hnone : k0 = nb → ∀ w', Kept [br] W w' → R (.returned (.tuple #[niv 0 0 0, .bool false])) w')
    (hkeep : k0 < nb → ¬ (2 ≤ f0 + 1 ∧ sv = ptr z) → ∀ w', Kept [br, cb k0 j0] W w' → Blk w' (cb k0 j0) 66 (conCells x y tg (f0 + 1)) → R (.returned (.tuple #[niv 0 0 0, .bool false])) w')
    (hrepl : k0 < nb → 2 ≤ f0 + 1 → sv = ptr z → ∀ w', Kept [br, cb k0 j0, B k0, gr k0] W w' → Blk w' (cb k0 j0) 66 (conCells x y tg (f0 + 1)) → Blk w' (B k0) 60 [bv k0, .pointer none, .pointer none, .int .u64 na, .int .i64 nx, .pointer none] → Vf w' (gr k0) 58 L0 (upv fr j0 (ptr z)) → R (.returned (.tuple #[niv xs ys ps, .bool true])) w') :
    code.wp Yba.prog (bodyPost Yba.prog Yba.f8 R) ⟨#[ptr bt, u1, u2, u3, ptr ba, ptr bn, ptr br, .bool false, u8, u9, u10, u11, u12, u13, u14, u15, u16, u17, u18, u19, u20, u21, u22, u23, u24, u25, u26, u27, u28, u29, u30, u31, u32, u33, u34, u35, u36, u37, u38, u39, u40, u41, u42, u43, u44, u45, u46, u47, u48, u49, u50, u51, u52, u53, u54, u55, u56, u57, u58, u59, u60, u61, u62, u63, u64, u65, u66, u67, u68, u69, u70, u71, u72, u73, u74, u75, u76, u77, u78, u79, u80, u81, u82, u83, u84, u85, u86, u87, u88, u89, u90, u91, u92, u93], []⟩ W := by
  obtain rfl : code = _ := Option.some.inj (hcode.symm.trans (show (Yba.f8.body).bind (seqTail 2) = some _ from rfl))
  clear hcode
  have HS := hide hS
  have HLEN := hide hlen
  have HBT := hide hbtT
  have HBA := hide hba
  have HBN := hide hbn
  have HBR := hide hbr
  have HBEF := hide hbef
  have HHIT := hide hhit
  have HCON := hide hcon
  have HBK := hide hbk
  have HSV := hide hsv
  have HROW := hide hrow
  have HNONE := hide hnone
  have HKEEP := hide hkeep
  have HREPL := hide hrepl
  clear hS hlen hbtT hba hbn hbr hbef hhit hcon hbk hsv hrow hnone hkeep hrepl
  have hapn := ap_neq
  have hg := eg43
  dsimp only
  go_wp2
  go_loopw [26] (fun t wr => ∃ (k : Nat), k ≤ k0 ∧ t = .int .i64 (k : Int) ∧ ∃ m, wr = W.drewN m) (fun t _ => nb - (intOf t).toNat)
  case atStart => exact ⟨0, Nat.zero_le _, rfl, 0, rfl⟩
  case round =>
    obtain ⟨k, hkk0, rfl, m, rfl⟩ := hrel
    by_cases hlt : k < nb
    · have hltI : (k : Int) < (nb : Int) := by omega
      have c1 := HS.out.tc k hlt
      obtain ⟨cs, hb1, hb2⟩ := HS.out.bt k hlt
      have c2 := (hb1.at 0).trans hb2
      obtain ⟨a, c, e, ha⟩ := HS.out.sl k hlt
      rw [e] at c2
      have HAA := hide ha
      have HE := hide e
      clear hb1 hb2 e ha
      obtain ⟨n, hn⟩ : ∃ n, len k = n := ⟨_, rfl⟩
      have HN := hide hn
      rw [hn] at c2
      clear hn
      have hn5 : n ≤ 100000 := by have := HLEN.out k hlt; rw [HN.out] at this; exact this
      go_wp2
      go_loopw [35] (fun t wr => ∃ (j : Nat), j ≤ n ∧ (k = k0 → j ≤ j0) ∧ t = .int .i64 (j : Int) ∧ ∃ m, wr = W.drewN m) (fun t _ => n - (intOf t).toNat)
      case atStart => exact ⟨0, Nat.zero_le _, fun _ => Nat.zero_le _, rfl, _, rfl⟩
      case round =>
        obtain ⟨j, hjn, hjj, rfl, m2, rfl⟩ := hrel
        by_cases hltj : j < n
        · have hltjI : (j : Int) < (n : Int) := by omega
          have ha := HAA.out (by rw [HN.out]; omega)
          have c3 := HS.out.rc k hlt j (by rw [HN.out]; exact hltj)
          have c4 := HS.out.ap k hlt j (by rw [HN.out]; exact hltj)
          obtain ⟨d0, d1, d2, d3⟩ := c4
          simp only [Nat.reduceAdd] at d1 d2 d3
          have e0 := HBA.out.at 0
          have e1 := HBA.out.at 1
          have e2 := HBA.out.at 2
          have e3 := HBA.out.at 3
          simp only [List.getElem?_cons_zero, List.getElem?_cons_succ] at e0 e1 e2 e3
          subst ha
          have hgr : (0 : Nat) + j = j := by omega
          by_cases hp : port k j = tg
          · have hk : k = k0 := by
              rcases Nat.lt_or_ge k k0 with h | h
              · exact absurd hp (HBEF.out k h j (by rw [HN.out]; exact hltj))
              · omega
            have hj : j = j0 := by
              subst hk
              rcases Nat.lt_or_ge j j0 with h | h
              · exact absurd hp ((HHIT.out hlt).2.2 j h)
              · have := hjj rfl
                omega
            subst hk
            subst hj
            have hpb : (port k j != tg) = false := by simp [hp]
            have hC := HCON.out hlt
            have hB := HBK.out hlt
            obtain ⟨hV, hjL⟩ := HROW.out hlt
            have hBc : B k ≠ cb k j := hB.ne hC (by decide)
            have hRc : br ≠ cb k j := HBR.out.ne hC (by decide)
            have hNc : bn ≠ cb k j := HBN.out.ne hC (by decide)
            have hGc : gr k ≠ cb k j := fun h => Blk.ne hV hC (by decide) h
            have f30 := hC.at 30
            have fz30 := hC.free 30
            simp only [conCells, List.getElem?_cons_zero, List.getElem?_cons_succ] at f30
            have wf : IntKind.i64.wrap (f0 + 1) = f0 + 1 := by rw [IntKind.wrap_i64]; omega
            have HC1 := hide (fun q => show Blk ((W.drewN q).setCell ⟨cb k j, 30, none⟩ (.int .i64 (f0 + 1))) (cb k j) 66 (conCells x y tg (f0 + 1)) from (hC.drewN q).set 30 _)
            have HB1 := hide (fun q => (hB.drewN q).other (a := ⟨cb k j, 30, none⟩) hBc (.int .i64 (f0 + 1)))
            have HV1 := hide (fun q => show Vf ((W.drewN q).setCell ⟨cb k j, 30, none⟩ (.int .i64 (f0 + 1))) (gr k) 58 L0 fr from Blk.other (Blk.drewN hV q) (a := ⟨cb k j, 30, none⟩) hGc (.int .i64 (f0 + 1)))
            have HR1 := hide (fun q => (HBR.out.drewN q).other (a := ⟨cb k j, 30, none⟩) hRc (.int .i64 (f0 + 1)))
            have HN1 := hide (fun q => (HBN.out.drewN q).other (a := ⟨cb k j, 30, none⟩) hNc (.int .i64 (f0 + 1)))
            have HK1 := hide (fun q => ((Kept.refl [br, cb k j] W).drewN q).setCell (p := ⟨cb k j, 30, none⟩) (.inl (by simp)) (.int .i64 (f0 + 1)))
            have HZ1 := hide (show ∀ q, sv = .pointer none ∨ sv = ptr z ∧ Blk ((W.drewN q).setCell ⟨cb k j, 30, none⟩ (.int .i64 (f0 + 1))) z 66 (conCells xs ys ps 0) from fun q => by
              rcases HSV.out with h | ⟨h, h'⟩
              · exact .inl h
              · exact .inr ⟨h, ((h' hlt).1.drewN q).other (a := ⟨cb k j, 30, none⟩) (h' hlt).2 _⟩)
            have HKE := hide (HKEEP.out hlt)
            have HRE := hide (HREPL.out hlt)
            clear hC hB hV HS HLEN HBT HBEF HHIT HCON HBK HSV HROW HNONE HKEEP HREPL HBR HBA HBN
            have hp' := hp
            clear hp
            go_wp2
            go_quiet (fail)
            go_wp2_with fail
            refine (bad_any (cb k j) (f0 + 1) _ ((HC1.out _).at 30)).mono ?_
            rintro e w2 ⟨rfl, rfl⟩
            have HC1 := hide (HC1.out (m2 + nq))
            have HB1 := hide (HB1.out (m2 + nq))
            have HV1 := hide (HV1.out (m2 + nq))
            have HR1 := hide (HR1.out (m2 + nq))
            have HN1 := hide (HN1.out (m2 + nq))
            have HK1 := hide (HK1.out (m2 + nq))
            have HZ1 := hide (HZ1.out (m2 + nq))
            dsimp only
            clear f30 fz30 c3 d0 d1 d2 d3 e0 e1 e2 e3 c1 c2
            generalize (W.drewN (m2 + nq)).setCell ⟨cb k j, 30, none⟩ (.int .i64 (f0 + 1)) = W1 at *
            have g0 := HB1.out.at 0
            have g1 := HB1.out.at 1
            have gz1 := HB1.out.free 1
            simp only [List.getElem?_cons_zero, List.getElem?_cons_succ] at g0 g1
            rw [HE.out, HN.out] at g0
            by_cases hbad : 2 ≤ f0 + 1
            · have hbd : decide (2 ≤ f0 + 1) = true := by simp [hbad]
              rw [hbd]
              rcases HZ1.out with hz | ⟨hz, hzb⟩
              · rw [hz] at g1
                have HKX := hide (HKE.out (fun h => by rw [hz] at h; simp at h))
                clear HRE HKE hbd HZ1
                go_wp2_with (refine wpList_ni rfl _ _ rfl br 0 0 0 rfl rfl HR1.out ?_)
                refine ret8 HR1.out ?_ ?_ (fun w' hk => HKX.out w' (HK1.out.trans (hk.mono (fun k _ h => by simp at h; simp [h]))) (hk.blk HC1.out (by simp; exact fun h => hRc h.symm)))
                · rfl
                · rfl
              · rw [hz] at g1
                have HZB := hide hzb
                have HRX := hide (HRE.out hbad hz)
                have s1 := HV1.out.at hjL
                have sz1 := HV1.out.free j
                have hBg : B k ≠ gr k := HB1.out.ne HV1.out (by decide)
                have q1 : (W1.setCell ⟨gr k, j, none⟩ (ptr z)).cell? ⟨B k, 1, none⟩ = some (ptr z) := (World.cell?_setCell_other _ _ _ _ (fun h => hBg (by injection h with h1; exact h1.symm))).trans g1
                have q2 : (W1.setCell ⟨B k, 1, none⟩ (.pointer none)).cell? ⟨gr k, j, none⟩ = some (fr j) := (World.cell?_setCell_other _ _ _ _ (fun h => hBg (by injection h))).trans s1
                clear HRE HKE hbd HZ1 hzb
                go_wp2_with fail
                go_region
                clear q1 q2 g0 g1 gz1 s1 sz1
                have hcg : cb k j ≠ gr k := fun h => hGc h.symm
                have hcB : cb k j ≠ B k := fun h => hBc h.symm
                have hrg : br ≠ gr k := HR1.out.ne HV1.out (by decide)
                have hrB : br ≠ B k := HR1.out.ne HB1.out (by decide)
                have hng : bn ≠ gr k := HN1.out.ne HV1.out (by decide)
                have hnB : bn ≠ B k := HN1.out.ne HB1.out (by decide)
                have hzg : z ≠ gr k := HZB.out.ne HV1.out (by decide)
                have hzB : z ≠ B k := HZB.out.ne HB1.out (by decide)
                have HC2 := hide (show Blk (((W1.setCell ⟨gr k, j, none⟩ (ptr z)).setCell ⟨B k, 1, none⟩ (.pointer none)).drew) (cb k j) 66 (conCells x y tg (f0 + 1)) from ((HC1.out.other (a := ⟨gr k, j, none⟩) hcg _).other (a := ⟨B k, 1, none⟩) hcB _).drew)
                have HB2 := hide (show Blk (((W1.setCell ⟨gr k, j, none⟩ (ptr z)).setCell ⟨B k, 1, none⟩ (.pointer none)).drew) (B k) 60 [bv k, .pointer none, .pointer none, .int .u64 tw, .int .i64 tx, .pointer none] from (((HB1.out.other (a := ⟨gr k, j, none⟩) hBg _).set 1 _)).drew)
                have HV2 := hide (show Vf (((W1.setCell ⟨gr k, j, none⟩ (ptr z)).setCell ⟨B k, 1, none⟩ (.pointer none)).drew) (gr k) 58 L0 (upv fr j (ptr z)) from Blk.drew (Blk.other (HV1.out.set j (ptr z)) (a := ⟨B k, 1, none⟩) (fun h => hBg h.symm) _))
                have HR2 := hide (show Blk (((W1.setCell ⟨gr k, j, none⟩ (ptr z)).setCell ⟨B k, 1, none⟩ (.pointer none)).drew) br 64 niZero from ((HR1.out.other (a := ⟨gr k, j, none⟩) hrg _).other (a := ⟨B k, 1, none⟩) hrB _).drew)
                have HN2 := hide (show Blk (((W1.setCell ⟨gr k, j, none⟩ (ptr z)).setCell ⟨B k, 1, none⟩ (.pointer none)).drew) bn 29 [.int .u64 na, .int .i64 nx, .pointer none] from ((HN1.out.other (a := ⟨gr k, j, none⟩) hng _).other (a := ⟨B k, 1, none⟩) hnB _).drew)
                have HZ2 := hide (show Blk (((W1.setCell ⟨gr k, j, none⟩ (ptr z)).setCell ⟨B k, 1, none⟩ (.pointer none)).drew) z 66 (conCells xs ys ps 0) from ((HZB.out.other (a := ⟨gr k, j, none⟩) hzg _).other (a := ⟨B k, 1, none⟩) hzB _).drew)
                have HK2 := hide (show Kept [br, cb k j, B k, gr k] W (((W1.setCell ⟨gr k, j, none⟩ (ptr z)).setCell ⟨B k, 1, none⟩ (.pointer none)).drew) from (((HK1.out.mono (fun k' _ h => by simp at h; rcases h with h | h <;> simp [h])).setCell (p := ⟨gr k, j, none⟩) (.inl (by simp)) _).setCell (p := ⟨B k, 1, none⟩) (.inl (by simp)) _).drew)
                clear HC1 HB1 HV1 HR1 HN1 HZB HK1
                generalize ((W1.setCell ⟨gr k, j, none⟩ (ptr z)).setCell ⟨B k, 1, none⟩ (.pointer none)).drew = W2 at *
                have b0 := HB2.out.at 0
                have b3 := HB2.out.at 3
                have b4 := HB2.out.at 4
                have b5 := HB2.out.at 5
                have bz3 := HB2.out.free 3
                have bz4 := HB2.out.free 4
                have bz5 := HB2.out.free 5
                have n0 := HN2.out.at 0
                have n1 := HN2.out.at 1
                have n2 := HN2.out.at 2
                have v0 := HV2.out.at hjL
                rw [upv_same] at v0
                simp only [List.getElem?_cons_zero, List.getElem?_cons_succ] at b0 b3 b4 b5 n0 n1 n2
                rw [HE.out, HN.out] at b0
                have HB3 := hide (show Blk (((W2.setCell ⟨B k, 3, none⟩ (.int .u64 na)).setCell ⟨B k, 4, none⟩ (.int .i64 nx)).setCell ⟨B k, 5, none⟩ (.pointer none)) (B k) 60 [bv k, .pointer none, .pointer none, .int .u64 na, .int .i64 nx, .pointer none] from ((HB2.out.set 3 _).set 4 _).set 5 _)
                have HR3 := hide (show Blk (((W2.setCell ⟨B k, 3, none⟩ (.int .u64 na)).setCell ⟨B k, 4, none⟩ (.int .i64 nx)).setCell ⟨B k, 5, none⟩ (.pointer none)) br 64 niZero from ((HR2.out.other (a := ⟨B k, 3, none⟩) hrB _).other (a := ⟨B k, 4, none⟩) hrB _).other (a := ⟨B k, 5, none⟩) hrB _)
                have HZ3 := hide (show Blk (((W2.setCell ⟨B k, 3, none⟩ (.int .u64 na)).setCell ⟨B k, 4, none⟩ (.int .i64 nx)).setCell ⟨B k, 5, none⟩ (.pointer none)) z 66 (conCells xs ys ps 0) from ((HZ2.out.other (a := ⟨B k, 3, none⟩) hzB _).other (a := ⟨B k, 4, none⟩) hzB _).other (a := ⟨B k, 5, none⟩) hzB _)
                have HC3 := hide (show Blk (((W2.setCell ⟨B k, 3, none⟩ (.int .u64 na)).setCell ⟨B k, 4, none⟩ (.int .i64 nx)).setCell ⟨B k, 5, none⟩ (.pointer none)) (cb k j) 66 (conCells x y tg (f0 + 1)) from ((HC2.out.other (a := ⟨B k, 3, none⟩) hcB _).other (a := ⟨B k, 4, none⟩) hcB _).other (a := ⟨B k, 5, none⟩) hcB _)
                have HV3 := hide (show Vf (((W2.setCell ⟨B k, 3, none⟩ (.int .u64 na)).setCell ⟨B k, 4, none⟩ (.int .i64 nx)).setCell ⟨B k, 5, none⟩ (.pointer none)) (gr k) 58 L0 (upv fr j (ptr z)) from Blk.other (Blk.other (Blk.other HV2.out (a := ⟨B k, 3, none⟩) (fun h => hBg h.symm) _) (a := ⟨B k, 4, none⟩) (fun h => hBg h.symm) _) (a := ⟨B k, 5, none⟩) (fun h => hBg h.symm) _)
                have HK3 := hide (show Kept [br, cb k j, B k, gr k] W (((W2.setCell ⟨B k, 3, none⟩ (.int .u64 na)).setCell ⟨B k, 4, none⟩ (.int .i64 nx)).setCell ⟨B k, 5, none⟩ (.pointer none)) from ((HK2.out.setCell (p := ⟨B k, 3, none⟩) (.inl (by simp)) _).setCell (p := ⟨B k, 4, none⟩) (.inl (by simp)) _).setCell (p := ⟨B k, 5, none⟩) (.inl (by simp)) _)
                have v3 : (((W2.setCell ⟨B k, 3, none⟩ (.int .u64 na)).setCell ⟨B k, 4, none⟩ (.int .i64 nx)).setCell ⟨B k, 5, none⟩ (.pointer none)).cell? ⟨gr k, j, none⟩ = some (ptr z) := by have := HV3.out.at hjL; rw [upv_same] at this; exact this
                have b03 : (((W2.setCell ⟨B k, 3, none⟩ (.int .u64 na)).setCell ⟨B k, 4, none⟩ (.int .i64 nx)).setCell ⟨B k, 5, none⟩ (.pointer none)).cell? ⟨B k, 0, none⟩ = some (.slice (some ⟨gr k, 0, none⟩) n c) := by have := HB3.out.at 0; simp only [List.getElem?_cons_zero] at this; rw [HE.out, HN.out] at this; exact this
                clear HC2 HV2 HR2 HN2 HZ2 HK2
                go_wp2_with (first | (refine wpList_ni rfl _ _ rfl br xs ys ps rfl rfl HR3.out ?_) | (refine wpList_lni rfl _ rfl z xs ys ps 0 rfl HZ3.out ?_))
                refine ret8 HR3.out ?_ ?_ (fun w' hk => HRX.out w' (HK3.out.trans (hk.mono (fun k' _ h => by simp at h; simp [h]))) (hk.blk HC3.out (by simp; exact fun h => hRc h.symm)) (hk.blk HB3.out (by simp; exact fun h => hrB h.symm)) (HV3.out.kept hk (by simp; exact fun h => hrg h.symm)))
                · rfl
                · rfl
            · have hbd : decide (2 ≤ f0 + 1) = false := by simp [hbad]
              rw [hbd]
              have HKX := hide (HKE.out (fun h => hbad h.1))
              clear HRE HKE hbd HZ1
              go_wp2_with (refine wpList_ni rfl _ _ rfl br 0 0 0 rfl rfl HR1.out ?_)
              refine ret8 HR1.out ?_ ?_ (fun w' hk => HKX.out w' (HK1.out.trans (hk.mono (fun k _ h => by simp at h; simp [h]))) (hk.blk HC1.out (by simp; exact fun h => hRc h.symm)))
              · rfl
              · rfl
          · have hpb : (port k j != tg) = true := by simp [hp]
            have HP := hide hp
            clear hp
            go_wp2
            go_quiet (fail)
            go_wp2
            go_roundw
            case rel =>
              refine ⟨j + 1, by omega, fun h => ?_, by go_num, _, rfl⟩
              have h1 := hjj h
              rcases Nat.lt_or_ge j j0 with h2 | h2
              · omega
              · have e : j = j0 := by omega
                subst e
                subst h
                exact absurd (HHIT.out hlt).2.1 HP.out
            case measure => simp [intOf]; omega
        · have hltjI : ¬ (j : Int) < (n : Int) := by omega
          have hkne : k ≠ k0 := by
            intro h
            have h1 := hjj h
            subst h
            have := (HHIT.out hlt).1
            rw [HN.out] at this
            omega
          go_wp2
          go_roundw
          case rel => exact ⟨k + 1, by omega, by go_num, _, rfl⟩
          case measure => simp [intOf]; omega
    · have hltI : ¬ (k : Int) < (nb : Int) := by omega
      have hk : k0 = nb := by omega
      have HN := hide (HNONE.out hk)
      clear HS HLEN HBT HBA HBN HBEF HHIT HCON HBK HSV HROW HNONE HKEEP HREPL
      go_wp2_with (refine wpList_ni rfl _ _ rfl br 0 0 0 rfl rfl (HBR.out.drewN m) ?_)
      refine ret8 (HBR.out.drewN m) ?_ ?_ (fun w' hk => HN.out w' (((Kept.refl _ _).drewN m).trans hk))
      · rfl
      · rfl

end Go.Proofs.Ybulkbtow
