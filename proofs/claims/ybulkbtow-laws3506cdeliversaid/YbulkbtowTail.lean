/-
  LawS3506CDeliver's walk from the call of deliver on.
-/
import Derived.Test.YbulkbtowSend
import Derived.WalkSpells
namespace Go.Proofs.Ybulkbtow
open Go.RowKit Go.Conc
set_option linter.unusedVariables false

theorem equal_held {w : World} {ba a0 : Option Addr} {len : Nat} {zs : List Int} (bc c0 : Nat) (hl : len ≤ 4096) (hz : zs.length = len) (h : Held w ba len zs) (hin : a0 = none ∧ len = 0 ∨ ∃ x, a0 = some x ∧ Bytes w x zs) :
    Calls Yba.prog 14 #[.slice ba len bc, .slice a0 len c0] w fun e w' => e = .returned (.bool true) ∧ ∃ k, w' = w.drewN k := by
  by_cases h0 : len = 0
  · subst h0
    exact equal_zero ba a0 w bc c0
  · rcases hin with ⟨_, h1⟩ | ⟨x, rfl, hx⟩
    · exact absurd h1 h0
    · rcases h with ⟨_, h1, _⟩ | ⟨g, cs, rfl, hb, _, hc⟩
      · exact absurd h1 h0
      · exact equal_same ⟨g, 0, none⟩ x zs len bc c0 w hz hl (fun i hi => by rw [Addr.add_lit, Nat.zero_add, hb.at]; exact hc i (by omega)) hx

theorem neq74 (a : Option Addr) (n c : Nat) (w : World) : (binOp .neq 74 (.slice a n c) (.slice none 0 0)).run Yba.prog w = .ok (.bool (!a.isNone)) w := run_neq_slice_nil_any w _ _ a n c 0 0 Yba.underlying74

/-- An entry of the queue at block g: no bytes, port i. -/
def EntryAt (w : World) (g i : Nat) : Prop :=
  w.cell? ⟨g, i * 5, none⟩ = some (.slice none 0 0) ∧ w.cell? ⟨g, i * 5 + 1, none⟩ = some (.int .u64 0) ∧ w.cell? ⟨g, i * 5 + 2, none⟩ = some (.int .u64 0) ∧ w.cell? ⟨g, i * 5 + 3, none⟩ = some (.pointer none) ∧ w.cell? ⟨g, i * 5 + 4, none⟩ = some (.int .u16 (i : Int))

/-- The entry that deliver has put behind them. -/
def LastAt (w : World) (g i : Nat) (ba : Option Addr) (len bc : Nat) (q : Int) : Prop :=
  w.cell? ⟨g, i * 5, none⟩ = some (.slice ba len bc) ∧ w.cell? ⟨g, i * 5 + 1, none⟩ = some (.int .u64 0) ∧ w.cell? ⟨g, i * 5 + 2, none⟩ = some (.int .u64 0) ∧ w.cell? ⟨g, i * 5 + 3, none⟩ = some (.pointer none) ∧ w.cell? ⟨g, i * 5 + 4, none⟩ = some (.int .u16 q)

set_option maxRecDepth 100000 in
set_option maxHeartbeats 4000000 in
theorem tail2 (u6 u7 u8 u9 u10 u11 u17 u18 u21 u22 u23 u24 u25 u26 u27 u28 u29 u30 u31 u32 u33 u34 u35 u36 u37 u38 u39 u40 u41 u42 u43 u44 u45 u46 u47 u48 u49 u50 u51 u52 u53 u54 u55 u56 u57 u58 u59 u60 u61 u62 u63 u64 u65 u66 u67 u68 u69 u70 u71 u72 u73 u74 u75 u76 u77 u78 u79 u80 u81 u82 u83 u84 u85 u86 u87 u88 u89 u90 u91 u92 u93 u94 u95 u96 u97 u98 u99 u100 u101 u102 u103 u104 u105 u106 u107 u108 u109 u110 u111 u112 u113 u114 u115 u116 u117 u118 u119 u120 u121 u122 u123 u124 u125 u126 u127 u128 u129 u130 u131 u132 u133 u134 u135 u136 u137 u138 u139 u140 u141 u142 u143 u144 u145 u146 u147 u148 u149 u150 u151 u152 u153 u154 u155 u156 u157 u158 u159 : Value) (a0 : Option Addr) (len0 cap0 : Nat) (zs : List Int) (a1 a2 : Int) (a3 a4 a5 acc : Bool) (ba qa : Option Addr) (bc gf fp n m qc : Nat) (w W : World) (c : Code) (hcode : (Yba.f4.body).bind (seqTail 18) = some c)
    (hz : zs.length = len0) (hin : a0 = none ∧ len0 = 0 ∨ ∃ x, a0 = some x ∧ Bytes w x zs) (hlen : len0 ≤ 4096) (hn : n ≤ 1029) (hm : m = n + (if acc = true then 1 else 0))
    (hB : Below w.heap.size w W) (hX : Blk W gf 43 [.int .u64 0, .int .u64 0, .pointer none, .int .u16 a1]) (hH : Held W ba len0 zs) (hfl : fp < W.heap.size) (f7 : W.cell? ⟨fp, 7, none⟩ = some (.slice qa m qc))
    (hE : ∀ i, i < n → ∃ g, qa = some ⟨g, 0, none⟩ ∧ g < W.heap.size ∧ EntryAt W g i) (hL : acc = true → ∃ g, qa = some ⟨g, 0, none⟩ ∧ g < W.heap.size ∧ LastAt W g n ba len0 bc a1) :
    c.wp Yba.prog (bodyPost Yba.prog Yba.f4 fun e w' => e = Ending.returned (.bool true) ∧ Below w.heap.size w w') ⟨#[.slice a0 len0 cap0, .int .u16 a1, .int .u16 a2, .bool a3, .bool a4, .bool a5, u6, u7, u8, u9, u10, u11, .bool false, .int .i64 (n : Int), .slice ba len0 bc, .pointer (some ⟨gf, 0, none⟩), .pointer (some ⟨fp, 0, none⟩), u17, u18, .bool acc, .int .i64 (m : Int), u21, u22, u23, u24, u25, u26, u27, u28, u29, u30, u31, u32, u33, u34, u35, u36, u37, u38, u39, u40, u41, u42, u43, u44, u45, u46, u47, u48, u49, u50, u51, u52, u53, u54, u55, u56, u57, u58, u59, u60, u61, u62, u63, u64, u65, u66, u67, u68, u69, u70, u71, u72, u73, u74, u75, u76, u77, u78, u79, u80, u81, u82, u83, u84, u85, u86, u87, u88, u89, u90, u91, u92, u93, u94, u95, u96, u97, u98, u99, u100, u101, u102, u103, u104, u105, u106, u107, u108, u109, u110, u111, u112, u113, u114, u115, u116, u117, u118, u119, u120, u121, u122, u123, u124, u125, u126, u127, u128, u129, u130, u131, u132, u133, u134, u135, u136, u137, u138, u139, u140, u141, u142, u143, u144, u145, u146, u147, u148, u149, u150, u151, u152, u153, u154, u155, u156, u157, u158, u159], []⟩ W := by
  obtain rfl : c = _ := Option.some.inj (hcode.symm.trans (show (Yba.f4.body).bind (seqTail 18) = some _ from rfl))
  clear hcode
  have HB := hide hB
  have HX := hide hX
  have HH := hide hH
  have HE := hide hE
  have HL := hide hL
  have HIN := hide hin
  have HZ := hide hz
  have HM := hide hm
  clear hB hX hH hE hL hin hz hm
  dsimp only
  go_wp2
  go_loopw [21] (fun t wr => ∃ i : Nat, i ≤ n ∧ t = .int .i64 i ∧ Below W.heap.size W wr) (fun t _ => n - (intOf t).toNat)
  case atStart => exact ⟨0, Nat.zero_le _, rfl, Below.refl _ _⟩
  case round =>
    obtain ⟨i, hi, rfl, hbx⟩ := hrel
    by_cases hlt : i < n
    · obtain ⟨g, rfl, hgl, g0, g1, g2, g3, g4⟩ := HE.out i hlt
      have t0 := (hbx.cell (p := ⟨g, i * 5, none⟩) hgl).trans g0
      have t1 := (hbx.cell (p := ⟨g, i * 5 + 1, none⟩) hgl).trans g1
      have t2 := (hbx.cell (p := ⟨g, i * 5 + 2, none⟩) hgl).trans g2
      have t3 := (hbx.cell (p := ⟨g, i * 5 + 3, none⟩) hgl).trans g3
      have t4 := (hbx.cell (p := ⟨g, i * 5 + 4, none⟩) hgl).trans g4
      have t7 := (hbx.cell (p := ⟨fp, 7, none⟩) hfl).trans f7
      have hg2 : g < wr.heap.size := by have := hbx.size; omega
      have hf2 : fp < wr.heap.size := by have := hbx.size; omega
      have HBX := hide hbx
      have hltI : (i : Int) < (n : Int) := by omega
      have him : i < m := by have := HM.out; split at this <;> omega
      have himI : (i : Int) < (m : Int) := by omega
      clear g0 g1 g2 g3 g4 f7 hbx hgl hfl HB HX HH HE HL HIN HZ
      have hneq := fun w => ap_same (i : Int) w
      have hnil := neq74
      have heg := eg43
      have wu16 : IntKind.u16.wrap (i : Int) = (i : Int) := by rw [IntKind.wrap_u16]; omega
      go_wp2
      go_region_held3 (fun w' => w'.cell? ⟨fp, 7, none⟩ = some (.slice (some ⟨g, 0, none⟩) m qc) ∧ w'.cell? ⟨g, i * 5, none⟩ = some (.slice none 0 0) ∧ w'.cell? ⟨g, i * 5 + 1, none⟩ = some (.int .u64 0) ∧ w'.cell? ⟨g, i * 5 + 2, none⟩ = some (.int .u64 0) ∧ w'.cell? ⟨g, i * 5 + 3, none⟩ = some (.pointer none) ∧ w'.cell? ⟨g, i * 5 + 4, none⟩ = some (.int .u16 (i : Int))) (go_keep) (first | (go_at_call 10; refine (cap_lit _ _).mono ?_; rintro e w6 ⟨rfl, hb6⟩; have k7 := (hb6.cell (p := ⟨fp, 7, none⟩) hf2).trans t7; have k0 := (hb6.cell (p := ⟨g, i * 5, none⟩) hg2).trans t0; have k1 := (hb6.cell (p := ⟨g, i * 5 + 1, none⟩) hg2).trans t1; have k2 := (hb6.cell (p := ⟨g, i * 5 + 2, none⟩) hg2).trans t2; have k3 := (hb6.cell (p := ⟨g, i * 5 + 3, none⟩) hg2).trans t3; have k4 := (hb6.cell (p := ⟨g, i * 5 + 4, none⟩) hg2).trans t4))
      have HR := hide (HBX.out.trans ((below_of_drew hb6).mono HBX.out.size))
      clear hb6 k7 k0 k1 k2 k3 k4 t0 t1 t2 t3 t4 t7 hneq hnil heg HBX HM
      go_wp2
      go_roundw
      case rel => exact ⟨i + 1, by omega, by go_num, HR.out⟩
      case measure => simp [intOf]; omega
    · obtain rfl : n = i := by omega
      clear HE
      have HBX := hide (HB.out.trans (hbx.mono HB.out.size))
      cases acc
      · clear hbx HL HX HH f7 HM HB HIN HZ
        go_wp2
        go_ret
        exact ⟨rfl, HBX.out⟩
      · obtain ⟨g, rfl, hgl, g0, g1, g2, g3, g4⟩ := HL.out rfl
        have t0 := (hbx.cell (p := ⟨g, n * 5, none⟩) hgl).trans g0
        have t1 := (hbx.cell (p := ⟨g, n * 5 + 1, none⟩) hgl).trans g1
        have t2 := (hbx.cell (p := ⟨g, n * 5 + 2, none⟩) hgl).trans g2
        have t3 := (hbx.cell (p := ⟨g, n * 5 + 3, none⟩) hgl).trans g3
        have t4 := (hbx.cell (p := ⟨g, n * 5 + 4, none⟩) hgl).trans g4
        have t7 := (hbx.cell (p := ⟨fp, 7, none⟩) hfl).trans f7
        have hX2 := HX.out.below' hbx
        have x0 := hX2.at 0
        have x1 := hX2.at 1
        have x2 := hX2.at 2
        have x3 := hX2.at 3
        simp only [List.getElem?_cons_zero, List.getElem?_cons_succ] at x0 x1 x2 x3
        have him : n < m := by have := HM.out; simp at this; omega
        have himI : (n : Int) < (m : Int) := by omega
        have hbD : Below wr.heap.size wr (wr.alloc (.cells #[.slice ba len0 bc, .int .u64 0, .int .u64 0, .pointer none, .int .u16 a1] 91)) := (Below.refl _ _).alloc (Nat.le_refl _) _
        have HEQ := hide (equal_held bc cap0 hlen HZ.out ((HH.out.keep hbx).keep hbD) (by
          rcases HIN.out with h | ⟨x, hx, hy⟩
          · exact .inl h
          · exact .inr ⟨x, hx, hy.below (HBX.out.trans (hbD.mono HBX.out.size))⟩))
        have HBD := hide (HBX.out.trans (hbD.mono HBX.out.size))
        have hgf := hX2.lt
        have hX3 := hX2.below' hbD
        have y0 := hX3.at 0
        have y1 := hX3.at 1
        have y2 := hX3.at 2
        have y3 := hX3.at 3
        simp only [List.getElem?_cons_zero, List.getElem?_cons_succ] at y0 y1 y2 y3
        have D := Blk.new wr 91 [.slice ba len0 bc, .int .u64 0, .int .u64 0, .pointer none, .int .u16 a1]
        have d0 := D.at 0
        have d1 := D.at 1
        have d2 := D.at 2
        have d3 := D.at 3
        have d4 := D.at 4
        simp only [List.getElem?_cons_zero, List.getElem?_cons_succ] at d0 d1 d2 d3 d4
        have hneq := fun w => ap_same a1 w
        have heg := eg43
        clear g0 g1 g2 g3 g4 f7 hbx hX2 hX3 hbD D HM HB HX HH HL HIN HZ HBX
        go_wp2_with fail
        refine HEQ.out.mono ?_
        rintro e w9 ⟨rfl, k, rfl⟩
        have HFIN := hide (below_drewN HBD.out k)
        clear HEQ HBD
        go_wp2
        go_ret
        exact ⟨rfl, HFIN.out⟩

end Go.Proofs.Ybulkbtow
