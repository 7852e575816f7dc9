/-
  LawS3506CDeliver's walk from the call of deliver on: the first part.
-/
import Derived.Test.YbulkbtowTail
namespace Go.Proofs.Ybulkbtow
open Go.RowKit Go.Conc
set_option linter.unusedVariables false

theorem own_some {w : World} {B : Nat} {e : TypeId} {qa : Option Addr} {m qc : Nat} {xs : List Value} (h : w.ownsRow B e 5 (.slice qa m qc) m xs) (hm : 0 < m) : ∃ g, qa = some ⟨g, 0, none⟩ ∧ g < w.heap.size ∧ ∀ k, k < m * 5 → w.cell? ⟨g, k, none⟩ = xs[k]? := by
  have h' := h
  rcases h'.2 with ⟨_, hn⟩ | ⟨g, cp, cur, hv, hg0, hgh, hnc, hcm, hcs, htk⟩
  · omega
  · simp only [Value.slice.injEq] at hv
    obtain ⟨rfl, _, rfl⟩ := hv
    exact ⟨g, rfl, lt_of_block hgh, fun k hk => h.cellAt k hk⟩

theorem entries_of {w : World} {B n m : Nat} {qa : Option Addr} {qc : Nat} {cs ex : List Value} (h : w.ownsRow B 91 5 (.slice qa m qc) m (cs ++ ex)) (hq : QI cs n n) (hm : n ≤ m) : ∀ i, i < n → ∃ g, qa = some ⟨g, 0, none⟩ ∧ g < w.heap.size ∧ EntryAt w g i := by
  intro i hi
  obtain ⟨g, hg, hl, hc⟩ := own_some h (by omega)
  obtain ⟨hlen, hcs⟩ := hq
  obtain ⟨c0, c1, c2, c3, c4⟩ := hcs i hi
  have hat : ∀ k, k < 5 → w.cell? ⟨g, i * 5 + k, none⟩ = cs[i * 5 + k]? := by
    intro k hk
    rw [hc _ (by omega), List.getElem?_append_left (by omega)]
  rw [if_pos hi] at c4
  exact ⟨g, hg, hl, (hat 0 (by omega)).trans c0, (hat 1 (by omega)).trans c1, (hat 2 (by omega)).trans c2, (hat 3 (by omega)).trans c3, (hat 4 (by omega)).trans c4⟩

theorem last_of {w : World} {B n : Nat} {qa ba : Option Addr} {qc len bc : Nat} {q : Int} {cs : List Value} (h : w.ownsRow B 91 5 (.slice qa (n + 1) qc) (n + 1) (cs ++ [.slice ba len bc, .int .u64 0, .int .u64 0, .pointer none, .int .u16 q])) (hq : QI cs n n) : ∃ g, qa = some ⟨g, 0, none⟩ ∧ g < w.heap.size ∧ LastAt w g n ba len bc q := by
  obtain ⟨g, hg, hl, hc⟩ := own_some h (by omega)
  obtain ⟨hlen, _⟩ := hq
  have hat : ∀ k, k < 5 → w.cell? ⟨g, n * 5 + k, none⟩ = [Value.slice ba len bc, .int .u64 0, .int .u64 0, .pointer none, .int .u16 q][k]? := by
    intro k hk
    rw [hc _ (by omega), List.getElem?_append_right (by omega), hlen]
    congr 1
    omega
  exact ⟨g, hg, hl, hat 0 (by omega), hat 1 (by omega), hat 2 (by omega), hat 3 (by omega), hat 4 (by omega)⟩

/-- deliver, whether it takes the bytes or not. -/
theorem deliver_both (B fp gc gq k : Nat) (p q : Int) (closed : Bool) (ba : Option Addr) (n bl bc : Nat) (cs : List Value) (w : World) (hC : Conn w B fp gc p closed (.slice (some ⟨gq, 0, none⟩) n n) n cs) (hW : Wake w gc k) (hk1 : k ≤ 1) :
    Calls Yba.prog 11 #[.pointer (some ⟨fp, 0, none⟩), .slice ba bl bc, .agg #[.int .u64 0, .int .u64 0, .pointer none, .int .u16 q]] w fun e w' => e = .returned (.tuple #[]) ∧
      ∃ (acc : Bool) (qa : Option Addr) (m qc : Nat) (ex : List Value), acc = (!closed && decide (n < 1024)) ∧ m = n + (if acc = true then 1 else 0) ∧ (acc = true → ex = [.slice ba bl bc, .int .u64 0, .int .u64 0, .pointer none, .int .u16 q]) ∧
        Conn w' B fp gc p closed (.slice qa m qc) m (cs ++ ex) ∧ Wake w' gc 1 ∧ Kept [fp, gc, gq] w w' := by
  by_cases h : closed = false ∧ n < 1024
  · obtain ⟨rfl, hn⟩ := h
    refine (deliver_accept B fp gc k p q (some ⟨gq, 0, none⟩) ba n n bl bc cs w hC hW hk1 hn).mono ?_
    rintro e w' ⟨rfl, qa, qc, hC', hW', hK'⟩
    exact ⟨rfl, true, qa, n + 1, qc, _, by simp [hn], rfl, fun _ => rfl, hC', hW', hK'.mono (fun j _ hj => by simpa [Value.ownBlock] using hj)⟩
  · have h' : closed = true ∨ 1024 ≤ n := by
      cases closed
      · exact .inr (by simp at h; omega)
      · exact .inl rfl
    refine (deliver_drop B fp gc k p q closed (some ⟨gq, 0, none⟩) ba n n bl bc cs w hC hW hk1 h').mono ?_
    rintro e w' ⟨rfl, hC', hW', hK'⟩
    refine ⟨rfl, false, some ⟨gq, 0, none⟩, n, n, [], ?_, by simp, (fun h => by cases h), by rw [List.append_nil]; exact hC', hW', hK'.mono (fun j _ hj => by simp at hj; simp; omega)⟩
    rcases h' with rfl | h'
    · rfl
    · have : ¬ n < 1024 := by omega
      simp [this]

theorem Held.kept3 {w w' : World} {ba : Option Addr} {len : Nat} {zs : List Int} {S : List Nat} (h : Held w ba len zs) (hk : Kept S w w') (hS : ∀ g cs, Blk w g 5 cs → g ∉ S) : Held w' ba len zs := by
  rcases h with h | ⟨g', cs', h1, h2, h3⟩
  · exact .inl h
  · exact .inr ⟨g', cs', h1, hk.blk h2 (hS _ _ h2), h3⟩

set_option maxRecDepth 100000 in
set_option maxHeartbeats 4000000 in
theorem tail1 (u6 u7 u8 u9 u10 u11 u17 u18 u19 u20 u21 u22 u23 u24 u25 u26 u27 u28 u29 u30 u31 u32 u33 u34 u35 u36 u37 u38 u39 u40 u41 u42 u43 u44 u45 u46 u47 u48 u49 u50 u51 u52 u53 u54 u55 u56 u57 u58 u59 u60 u61 u62 u63 u64 u65 u66 u67 u68 u69 u70 u71 u72 u73 u74 u75 u76 u77 u78 u79 u80 u81 u82 u83 u84 u85 u86 u87 u88 u89 u90 u91 u92 u93 u94 u95 u96 u97 u98 u99 u100 u101 u102 u103 u104 u105 u106 u107 u108 u109 u110 u111 u112 u113 u114 u115 u116 u117 u118 u119 u120 u121 u122 u123 u124 u125 u126 u127 u128 u129 u130 u131 u132 u133 u134 u135 u136 u137 u138 u139 u140 u141 u142 u143 u144 u145 u146 u147 u148 u149 u150 u151 u152 u153 u154 u155 u156 u157 u158 u159 : Value) (a0 : Option Addr) (len0 cap0 : Nat) (zs : List Int) (a1 a2 : Int) (a3 a4 a5 : Bool) (ba : Option Addr) (bc gf fp gc gq n k : Nat) (p : Int) (cs : List Value) (w W : World) (c : Code) (hcode : (Yba.f4.body).bind (seqTail 11) = some c)
    (hz : zs.length = len0) (hin : a0 = none ∧ len0 = 0 ∨ ∃ x, a0 = some x ∧ Bytes w x zs) (hlen : len0 ≤ 4096) (hn : n ≤ 1029)
    (hB : Below w.heap.size w W) (hX : Blk W gf 43 [.int .u64 0, .int .u64 0, .pointer none, .int .u16 a1]) (hH : Held W ba len0 zs) (hC : Conn W w.heap.size fp gc p a4 (.slice (some ⟨gq, 0, none⟩) n n) n cs) (hW : Wake W gc k) (hk1 : k ≤ 1)
    (hgc : w.heap.size ≤ gc) (hgq : w.heap.size ≤ gq) (hqi : QI cs n n) :
    WpAt Yba.prog (base 4) c (bodyPost Yba.prog Yba.f4 fun e w' => e = Ending.returned (.bool true) ∧ Below w.heap.size w w') ⟨#[.slice a0 len0 cap0, .int .u16 a1, .int .u16 a2, .bool a3, .bool a4, .bool a5, u6, u7, u8, u9, u10, u11, .bool false, .int .i64 (n : Int), .slice ba len0 bc, .pointer (some ⟨gf, 0, none⟩), .pointer (some ⟨fp, 0, none⟩), u17, u18, u19, u20, u21, u22, u23, u24, u25, u26, u27, u28, u29, u30, u31, u32, u33, u34, u35, u36, u37, u38, u39, u40, u41, u42, u43, u44, u45, u46, u47, u48, u49, u50, u51, u52, u53, u54, u55, u56, u57, u58, u59, u60, u61, u62, u63, u64, u65, u66, u67, u68, u69, u70, u71, u72, u73, u74, u75, u76, u77, u78, u79, u80, u81, u82, u83, u84, u85, u86, u87, u88, u89, u90, u91, u92, u93, u94, u95, u96, u97, u98, u99, u100, u101, u102, u103, u104, u105, u106, u107, u108, u109, u110, u111, u112, u113, u114, u115, u116, u117, u118, u119, u120, u121, u122, u123, u124, u125, u126, u127, u128, u129, u130, u131, u132, u133, u134, u135, u136, u137, u138, u139, u140, u141, u142, u143, u144, u145, u146, u147, u148, u149, u150, u151, u152, u153, u154, u155, u156, u157, u158, u159], []⟩ W := by
  obtain rfl : c = _ := Option.some.inj (hcode.symm.trans (show (Yba.f4.body).bind (seqTail 11) = some _ from rfl))
  clear hcode
  have x0 := hX.at 0
  have x1 := hX.at 1
  have x2 := hX.at 2
  have x3 := hX.at 3
  simp only [List.getElem?_cons_zero, List.getElem?_cons_succ] at x0 x1 x2 x3
  have HB := hide hB
  have HX := hide hX
  have HH := hide hH
  have HC := hide hC
  have HW := hide hW
  have HIN := hide hin
  have HZ := hide hz
  have HQI := hide hqi
  clear hB hX hH hC hW hin hz hqi
  dsimp only
  refine WpAt.seq_wp fun K hK => ?_
  go_wp2_with fail
  refine (deliver_both w.heap.size fp gc gq k p a1 a4 ba n len0 bc cs W HC.out HW.out hk1).mono ?_
  rintro e w3 ⟨rfl, acc, qa, m, qc, ex, hacc, hm, hex, ⟨hF3, hO3, hBf⟩, hW3, hK3⟩
  have hne5 : ∀ g cs', Blk W g 5 cs' → g ∉ [fp, gc, gq] := by
    intro g cs' hg hmem
    obtain ⟨hF, hO, _⟩ := HC.out
    simp only [List.mem_cons, List.not_mem_nil, or_false] at hmem
    rcases hmem with e | e | e
    · exact hg.ne hF (by decide) e
    · exact chan_ne hg HW.out e
    · exact own_ne hO hg (by decide) (by rw [e]; rfl)
  have hnx : gf ∉ [fp, gc, gq] := by
    intro hmem
    obtain ⟨hF, hO, _⟩ := HC.out
    simp only [List.mem_cons, List.not_mem_nil, or_false] at hmem
    rcases hmem with e | e | e
    · exact HX.out.ne hF (by decide) e
    · exact chan_ne HX.out HW.out e
    · exact own_ne hO HX.out (by decide) (by rw [e]; rfl)
  have HX3 := hide (hK3.blk HX.out hnx)
  have HH3 := hide (HH.out.kept3 hK3 hne5)
  have HB3 := hide (HB.out.trans (hK3.toBelow HB.out.size (by simp; exact ⟨hBf, hgc, hgq⟩)))
  have hXf : gf ≠ fp := fun e => hnx (by simp [e])
  obtain ⟨buf, ks, kr, hch, hbuf⟩ := hW3
  have hlenC := run_len_chan (P := Yba.prog) (w := w3) 77 3 Yba.underlying77 hch
  rw [hbuf] at hlenC
  have f5 := hF3.at 5
  have z5 := hF3.free 5
  have f11 := hF3.at 11
  have f12 := hF3.at 12
  simp only [connCells, List.getElem?_cons_zero, List.getElem?_cons_succ] at f5 f11 f12
  have HF3 := hide hF3
  have HO3 := hide hO3
  have HACC := hide hacc
  have HM := hide hm
  have HEX := hide hex
  clear hnx hne5 x0 x1 x2 x3 HB HX HH HC HW hF3 hO3 hch hbuf hacc hm hex hK3
  go_wp2
  refine WpAt.seq_wp fun K hK => ?_
  go_wp2
  refine WpAt.seq_wp fun K hK => ?_
  go_wp2_with fail
  refine (try_free fp 5 w3 f5 z5).mono ?_
  rintro e w4 ⟨rfl, rfl⟩
  have hF4 : Blk (w3.setCell ⟨fp, 5, none⟩ (.int .i32 1)) fp 89 (connCells p 1 (.slice qa m qc) a4 gc) := HF3.out.set 5 _
  have K34 : Kept [fp] w3 (w3.setCell ⟨fp, 5, none⟩ (.int .i32 1)) := (Kept.refl _ _).setCell (.inl (by simp)) _
  have g5 := hF4.at 5
  have y5 := hF4.free 5
  simp only [connCells, List.getElem?_cons_zero, List.getElem?_cons_succ] at g5
  have hF5 : Blk ((w3.setCell ⟨fp, 5, none⟩ (.int .i32 1)).setCell ⟨fp, 5, none⟩ (.int .i32 0)) fp 89 (connCells p 0 (.slice qa m qc) a4 gc) := hF4.set 5 _
  have K35 := K34.setCell (p := ⟨fp, 5, none⟩) (.inl (by simp)) (.int .i32 0)
  have HF5 := hide hF5
  have HX5 := hide (K35.blk HX3.out (by simp; exact hXf))
  have HH5 := hide (HH3.out.kept K35 HF3.out (by decide))
  have HB5 := hide (HB3.out.trans (K35.toBelow HB3.out.size (by simp; exact hBf)))
  have HO5 := hide (ownsRow_kept HO3.out K35 (fun j hj hm => by simp at hm; subst hm; exact own_ne HO3.out HF3.out (by decide) hj))
  clear hF4 K34 hF5 K35 HX3 HH3 HB3 HO3 HF3 f5 z5 f11 f12 hlenC
  generalize w3.setCell ⟨fp, 5, none⟩ (.int .i32 1) = w4 at *
  go_wp2
  refine WpAt.seq_wp fun K hK => ?_
  go_wp2_with fail
  refine (unlock_any fp 5 w4 g5 y5).mono ?_
  rintro e w5 ⟨rfl, rfl⟩
  generalize w4.setCell ⟨fp, 5, none⟩ (.int .i32 0) = w5 at *
  clear g5 y5
  have f7 := HF5.out.at 7
  simp only [connCells, List.getElem?_cons_zero, List.getElem?_cons_succ] at f7
  have HE := hide (entries_of HO5.out HQI.out (by have := HM.out; split at this <;> omega))
  have HL : Hid (acc = true → ∃ g, qa = some ⟨g, 0, none⟩ ∧ g < w5.heap.size ∧ LastAt w5 g n ba len0 bc a1) := by
    intro h
    have hO := HO5.out
    have hm := HM.out
    rw [HEX.out h] at hO
    rw [if_pos h] at hm
    subst hm
    exact last_of hO HQI.out
  clear HO5
  go_wp2
  refine WpAt.seq_wp fun K hK => ?_
  have hcase : a4 = true ∨ (a4 = false ∧ (n : Int) < 1024) ∨ (a4 = false ∧ ¬ (n : Int) < 1024) := by
    cases a4
    · by_cases h : (n : Int) < 1024
      · exact .inr (.inl ⟨rfl, h⟩)
      · exact .inr (.inr ⟨rfl, h⟩)
    · exact .inl rfl
  rcases hcase with rfl | ⟨rfl, h⟩ | ⟨rfl, h⟩
  · obtain rfl : acc = false := by rw [HACC.out]; rfl
    obtain rfl : m = n := by have := HM.out; simpa using this
    go_wp2
    refine WpAt.seq_wp fun K hK => ?_
    go_wp2
    refine WpAt.seq_wp fun K hK => ?_
    go_wp2
    refine WpAt.of_wp ?_
    exact tail2 _ _ _ _ _ _ _ _ _ _ _ _ _ _ _ _ _ _ _ _ _ _ _ _ _ _ _ _ _ _ _ _ _ _ _ _ _ _ _ _ _ _ _ _ _ _ _ _ _ _ _ _ _ _ _ _ _ _ _ _ _ _ _ _ _ _ _ _ _ _ _ _ _ _ _ _ _ _ _ _ _ _ _ _ _ _ _ _ _ _ _ _ _ _ _ _ _ _ _ _ _ _ _ _ _ _ _ _ _ _ _ _ _ _ _ _ _ _ _ _ _ _ _ _ _ _ _ _ _ _ _ _ _ _ _ _ _ _ _ _ _ _ _ _ _ _ _ a0 len0 cap0 zs a1 a2 a3 _ a5 _ ba qa bc gf fp _ _ qc w w5 _ rfl HZ.out HIN.out hlen hn HM.out HB5.out HX5.out HH5.out HF5.out.lt f7 HE.out (fun h => by first | exact HL.out h | exact HL.out trivial)
  · obtain rfl : acc = true := by rw [HACC.out]; simp; omega
    obtain rfl : m = n + 1 := by have := HM.out; simpa using this
    go_wp2
    refine WpAt.seq_wp fun K hK => ?_
    go_wp2
    refine WpAt.seq_wp fun K hK => ?_
    go_wp2
    refine WpAt.of_wp ?_
    exact tail2 _ _ _ _ _ _ _ _ _ _ _ _ _ _ _ _ _ _ _ _ _ _ _ _ _ _ _ _ _ _ _ _ _ _ _ _ _ _ _ _ _ _ _ _ _ _ _ _ _ _ _ _ _ _ _ _ _ _ _ _ _ _ _ _ _ _ _ _ _ _ _ _ _ _ _ _ _ _ _ _ _ _ _ _ _ _ _ _ _ _ _ _ _ _ _ _ _ _ _ _ _ _ _ _ _ _ _ _ _ _ _ _ _ _ _ _ _ _ _ _ _ _ _ _ _ _ _ _ _ _ _ _ _ _ _ _ _ _ _ _ _ _ _ _ _ _ _ a0 len0 cap0 zs a1 a2 a3 _ a5 _ ba qa bc gf fp _ _ qc w w5 _ rfl HZ.out HIN.out hlen hn HM.out HB5.out HX5.out HH5.out HF5.out.lt f7 HE.out (fun h => by first | exact HL.out h | exact HL.out trivial)
  · obtain rfl : acc = false := by rw [HACC.out]; simp; omega
    obtain rfl : m = n := by have := HM.out; simpa using this
    go_wp2
    refine WpAt.seq_wp fun K hK => ?_
    go_wp2
    refine WpAt.seq_wp fun K hK => ?_
    go_wp2
    refine WpAt.of_wp ?_
    exact tail2 _ _ _ _ _ _ _ _ _ _ _ _ _ _ _ _ _ _ _ _ _ _ _ _ _ _ _ _ _ _ _ _ _ _ _ _ _ _ _ _ _ _ _ _ _ _ _ _ _ _ _ _ _ _ _ _ _ _ _ _ _ _ _ _ _ _ _ _ _ _ _ _ _ _ _ _ _ _ _ _ _ _ _ _ _ _ _ _ _ _ _ _ _ _ _ _ _ _ _ _ _ _ _ _ _ _ _ _ _ _ _ _ _ _ _ _ _ _ _ _ _ _ _ _ _ _ _ _ _ _ _ _ _ _ _ _ _ _ _ _ _ _ _ _ _ _ _ a0 len0 cap0 zs a1 a2 a3 _ a5 _ ba qa bc gf fp _ _ qc w w5 _ rfl HZ.out HIN.out hlen hn HM.out HB5.out HX5.out HH5.out HF5.out.lt f7 HE.out (fun h => by first | exact HL.out h | exact HL.out trivial)

end Go.Proofs.Ybulkbtow
