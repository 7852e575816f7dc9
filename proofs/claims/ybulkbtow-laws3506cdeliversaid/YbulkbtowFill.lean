/-
  LawS3506CFill: the walk.
-/
import Derived.Test.YbulkbtowDeliver
namespace Go.Proofs.Ybulkbtow
open Go.RowKit Go.Conc
set_option linter.unusedVariables false

/-- The five cells of the i-th datagram kept: its one byte lies in block b, its sender is port i. -/
def entry (i b : Nat) : List Value := [.slice (some ⟨b, 0, none⟩) 1 1, .int .u64 0, .int .u64 0, .pointer none, .int .u16 i]
def fillCells : Nat → List Nat → List Value
  | _, [] => []
  | i, b :: r => entry i b ++ fillCells (i + 1) r

theorem fillCells_snoc (bs : List Nat) : ∀ (i b : Nat), fillCells i (bs ++ [b]) = fillCells i bs ++ entry (i + bs.length) b := by
  induction bs with
  | nil => intro i b; simp [fillCells]
  | cons x r ih =>
    intro i b
    simp only [List.cons_append, fillCells, ih, List.append_assoc, List.length_cons]
    congr 3
    omega

theorem fillCells_length (bs : List Nat) : ∀ i, (fillCells i bs).length = bs.length * 5 := by
  induction bs with
  | nil => intro i; rfl
  | cons x r ih => intro i; simp only [fillCells, List.length_append, ih, List.length_cons]; simp [entry]; omega

theorem fillCells_at (bs : List Nat) : ∀ (s i c : Nat), i < bs.length → c < 5 → (fillCells s bs)[i * 5 + c]? = (entry (s + i) (bs.getD i 0))[c]? := by
  induction bs with
  | nil => intro s i c h; simp at h
  | cons x r ih =>
    intro s i c h hc
    have hl : (entry s x).length = 5 := rfl
    cases i with
    | zero =>
      simp only [fillCells, Nat.zero_mul, Nat.zero_add, Nat.add_zero]
      rw [List.getElem?_append_left (by omega)]
      simp
    | succ i =>
      simp only [fillCells]
      rw [List.getElem?_append_right (by omega), hl, show (i + 1) * 5 + c - 5 = i * 5 + c by omega, ih (s + 1) i c (by simpa using h) hc]
      simp only [List.getD_cons_succ]
      congr 2
      omega

/-- The first loop's head, behind j deliveries. -/
def FInv (w wr : World) (fp gc j : Nat) : Prop :=
  ∃ (bs : List Nat) (qa : Option Addr) (qc : Nat), bs.length = min j 1024 ∧ Conn wr w.heap.size fp gc 65535 false (.slice qa bs.length qc) bs.length (fillCells 0 bs) ∧
    (∀ i, i < bs.length → Blk wr (bs.getD i 0) 5 [.int .u8 ((i % 256 : Nat) : Int)]) ∧ Wake wr gc (min j 1) ∧ w.heap.size ≤ gc ∧ Below w.heap.size w wr

/-- One delivery more. -/
theorem FInv.step {w wr w1 w2 : World} {fp gc j bb : Nat} {bs : List Nat} {qa : Option Addr} {qc : Nat} (hbs : bs.length = min j 1024)
    (hC : Conn wr w.heap.size fp gc 65535 false (.slice qa bs.length qc) bs.length (fillCells 0 bs)) (hB : ∀ i, i < bs.length → Blk wr (bs.getD i 0) 5 [.int .u8 ((i % 256 : Nat) : Int)]) (hgc : w.heap.size ≤ gc) (hbel : Below w.heap.size w wr) (hW : Wake wr gc (min j 1))
    (hb1 : Below wr.heap.size wr w1) (hbb : Blk w1 bb 5 [.int .u8 ((j % 256 : Nat) : Int)])
    (hK : Kept (fp :: gc :: (Value.slice qa bs.length qc).ownBlock.toList) w1 w2) (hW2 : Wake w2 gc 1)
    (hC2 : (bs.length < 1024 ∧ ∃ qa' qc', Conn w2 w.heap.size fp gc 65535 false (.slice qa' (bs.length + 1) qc') (bs.length + 1) (fillCells 0 bs ++ entry j bb)) ∨ (1024 ≤ bs.length ∧ Conn w2 w.heap.size fp gc 65535 false (.slice qa bs.length qc) bs.length (fillCells 0 bs))) : FInv w w2 fp gc (j + 1) := by
  have hsz := hbel.size
  have hO1 : w1.ownsRow w.heap.size 91 5 (.slice qa bs.length qc) bs.length (fillCells 0 bs) := ownsRow_kept hC.2.1 (S := []) ⟨hb1.os, hb1.tape, hb1.output, hb1.size, fun k hk _ => hb1.block k hk⟩ (by simp)
  have hF1 : Blk w1 fp 89 (connCells 65535 0 (.slice qa bs.length qc) false gc) := hC.1.below hb1 hC.1.lt
  have hW1 : Wake w1 gc (min j 1) := hW.keep (S := []) ⟨hb1.os, hb1.tape, hb1.output, hb1.size, fun k hk _ => hb1.block k hk⟩ (by simp)
  have keep : ∀ (g : Nat) (cs : List Value), Blk w1 g 5 cs → Blk w2 g 5 cs := by
    intro g cs hg
    refine hK.blk hg (fun hm => ?_)
    simp only [List.mem_cons] at hm
    rcases hm with e | e | e
    · exact hg.ne hF1 (by decide) e
    · exact chan_ne hg hW1 e
    · exact not_mem_own (own_ne hO1 hg (by decide)) e
  have hB2 : ∀ i, i < bs.length → Blk w2 (bs.getD i 0) 5 [.int .u8 ((i % 256 : Nat) : Int)] := fun i hi => keep _ _ ((hB i hi).below hb1 (hB i hi).lt)
  have hbel2 : Below w.heap.size w w2 := by
    refine (hbel.trans (hb1.mono hsz)).trans (hK.toBelow (by have := hb1.size; omega) (fun k hk => ?_))
    simp only [List.mem_cons] at hk
    rcases hk with rfl | rfl | e
    · exact hC.2.2
    · exact hgc
    · have : (Value.slice qa bs.length qc).ownBlock = some k := by
        cases hv : (Value.slice qa bs.length qc).ownBlock with
        | none => rw [hv] at e; simp at e
        | some x => rw [hv] at e; simp at e; rw [e]
      exact (hC.2.1.lt k this).1
  rcases hC2 with ⟨hn, qa', qc', hC2⟩ | ⟨hn, hC2⟩
  · have hj : bs.length = j := by omega
    refine ⟨bs ++ [bb], qa', qc', by simp; omega, ?_, ?_, by rw [show min (j + 1) 1 = 1 by omega]; exact hW2, hgc, hbel2⟩
    · rw [List.length_append, List.length_singleton, fillCells_snoc, Nat.zero_add, hj]
      rw [hj] at hC2
      exact hC2
    · intro i hi
      simp at hi
      by_cases h : i < bs.length
      · have e : (bs ++ [bb]).getD i 0 = bs.getD i 0 := by rw [List.getD_eq_getElem?_getD, List.getElem?_append_left h, ← List.getD_eq_getElem?_getD]
        rw [e]
        exact hB2 i h
      · obtain rfl : i = bs.length := by omega
        have e : (bs ++ [bb]).getD bs.length 0 = bb := by simp
        rw [e, hj]
        exact keep _ _ hbb
  · exact ⟨bs, qa, qc, by omega, hC2, hB2, by rw [show min (j + 1) 1 = 1 by omega]; exact hW2, hgc, hbel2⟩

theorem cap_lit (p : Int) (w : World) : Calls Yba.prog 10 #[.int .u16 p] w fun e w' => e = .returned (.agg #[.int .u64 0, .int .u64 0, .pointer none, .int .u16 p]) ∧ Below w.heap.size w w' := cap_any p w

theorem below_of_drew {B : Nat} {a w : World} (h : Below B a.drew w) : Below B a w := ⟨h.os, h.tape, h.output, h.size, h.block⟩

theorem Conn.below {w w' : World} {B fp gc : Nat} {p : Int} {closed : Bool} {qv : Value} {n : Nat} {xs : List Value} (h : Conn w B fp gc p closed qv n xs) (hb : Below w.heap.size w w') : Conn w' B fp gc p closed qv n xs :=
  ⟨h.1.below hb h.1.lt, ownsRow_kept h.2.1 (S := []) ⟨hb.os, hb.tape, hb.output, hb.size, fun k hk _ => hb.block k hk⟩ (by simp), h.2.2⟩

theorem Wake.below {w w' : World} {g n : Nat} (h : Wake w g n) (hb : Below w.heap.size w w') : Wake w' g n := h.keep (S := []) ⟨hb.os, hb.tape, hb.output, hb.size, fun k hk _ => hb.block k hk⟩ (by simp)

/-- A conn just made: nothing in its queue, no signal. -/
theorem FInv.start {w W : World} {gc : Nat} (hb : Below w.heap.size w W) (hw : Wake W gc 0) (hgc : w.heap.size ≤ gc) :
    FInv w (W.alloc (.cells #[.int .u64 0, .int .u64 0, .pointer none, .int .u16 65535, .map none, .int .i32 0, .int .u32 0, .slice none 0 0, .int .u64 0, .int .i64 0, .pointer none, .bool false, .chan (some gc)] 89)) W.heap.size gc 0 :=
  ⟨[], none, 0, by simp, ⟨Blk.new W 89 _, World.ownsRow_nil _ _ _ _, hb.size⟩, fun i hi => by simp at hi, hw.keep ((Kept.refl [] W).alloc _) (by simp), hgc, hb.alloc hb.size _⟩

theorem Yba.bytes80 : ∃ i, Yba.prog.info? 80 = some i ∧ i.bytes = 0 := by
  have h : (Yba.prog.info? 80).map (·.bytes) = some 0 := by kernel_rfl
  obtain ⟨i, hi, hb⟩ := Option.map_eq_some_iff.1 h
  exact ⟨i, hi, hb⟩
theorem mkWake (w : World) : (Instr.makeChan 77 (.int .i64 1)).run Yba.prog w = .ok (.chan (some w.heap.size)) (w.alloc (.chan 1 #[] false 0 0 false)) := by
  obtain ⟨i, hi, hb⟩ := Yba.bytes80
  simpa using run_makeChan (P := Yba.prog) (w := w) Yba.underlying77 hi .i64 1 (by omega) (by rw [hb]; omega)

set_option maxRecDepth 100000 in
set_option maxHeartbeats 2000000 in
theorem fill_any (c : Int) (big : Bool) (w : World) (hc0 : 0 ≤ c) (hc1 : c ≤ 65535) :
    Calls Yba.prog 5 #[.int .u16 c, .bool big] w fun e w' => e = .returned (.bool true) ∧ Below w.heap.size w w' := by
  have hmc := mkWake
  go_enter Yba.func5, Yba.ntmps5
  go_upto_if 14 with (fail)
  go_cut [5] (fun s wx => w = wx ∧ ∃ k : Nat, k ≤ 1100 ∧ s = .int .i64 k)
  case first =>
    obtain ⟨k1, hk1⟩ : ∃ k : Nat, c % 1100 = (k : Int) := ⟨(c % 1100).toNat, by omega⟩
    obtain ⟨k2, hk2⟩ : ∃ k : Nat, c % 64 = (k : Int) := ⟨(c % 64).toNat, by omega⟩
    cases big
    · go_wp2
      go_meet
      case rel => exact ⟨rfl, k1, by omega, by rw [← hk1]⟩
    · go_wp2
      go_meet
      case rel => exact ⟨rfl, 1000 + k2, by omega, by go_num⟩
  case rest =>
    obtain ⟨rfl, k, hk, rfl⟩ := hcut
    go_wp2
    go_cut [6] (fun s wx => ∃ fp gc : Nat, s = .pointer (some ⟨fp, 0, none⟩) ∧ FInv w wx fp gc 0)
    case first =>
      go_region_held3 (fun _ => True) (trivial) (first | (go_at_call 10; refine (cap_lit _ _).mono ?_; rintro e w1 ⟨rfl, hb1⟩))
      · have h := FInv.start (w := w) (W := w1.alloc (.chan 1 #[] false 0 0 false)) (gc := w1.heap.size) ((below_of_drew hb1 : Below w.heap.size w w1).alloc (below_of_drew hb1 : Below w.heap.size w w1).size _) ⟨#[], 0, 0, heap_alloc_new w1 _, rfl⟩ (below_of_drew hb1 : Below w.heap.size w w1).size
        simp only [World.size_alloc] at h
        have H := hide h
        clear h hb1
        go_wp2
        go_meet
        case rel => exact ⟨_, _, rfl, H.out⟩
      · have hb0 : Below w.heap.size w (w.alloc (.chan 1 #[] false 0 0 false)) := (Below.refl _ _).alloc (Nat.le_refl _) _
        have hb1' : Below (w.alloc (.chan 1 #[] false 0 0 false)).heap.size (w.alloc (.chan 1 #[] false 0 0 false)) w1 := below_of_drew hb1
        have h := FInv.start (w := w) (W := w1) (gc := w.heap.size) (hb0.trans (hb1'.mono (by simp))) ⟨#[], 0, 0, (hb1'.block w.heap.size (by simp)).trans (heap_alloc_new w _), rfl⟩ (Nat.le_refl _)
        have H := hide h
        clear h hb1 hb0 hb1'
        go_wp2
        go_meet
        case rel => exact ⟨_, _, rfl, H.out⟩
    case rest =>
      obtain ⟨fp, gc, rfl, hFI⟩ := hcut
      have HFI := hide hFI
      clear hFI hmc
      go_wp2
      go_loopw [7] (fun t wr => ∃ j : Nat, j ≤ k ∧ t = .int .i64 j ∧ FInv w wr fp gc j) (fun t _ => k - (intOf t).toNat)
      case atStart => exact ⟨0, Nat.zero_le _, rfl, HFI.out⟩
      case round =>
        clear HFI
        obtain ⟨j, hj, rfl, hFI⟩ := hrel
        by_cases hlt : j < k
        · obtain ⟨bs, qa, qc, hbs, hC, hB, hW, hgc, hbel⟩ := hFI
          have HC := hide hC
          have HB := hide hB
          have HW := hide hW
          have HBS := hide hbs
          have HGC := hide hgc
          have HBEL := hide hbel
          clear hC hB hW hbs hgc hbel
          go_wp2_with fail
          refine (cap_lit _ _).mono ?_
          rintro e w1 ⟨rfl, hb1⟩
          have hb1' : Below wr.heap.size wr w1 := ((Below.refl _ _).alloc (Nat.le_refl _) _).trans (hb1.mono (by simp))
          have hbb : Blk w1 wr.heap.size 5 [.int .u8 ((j % 256 : Nat) : Int)] := (Blk.new wr 5 [.int .u8 ((j : Int) % 256)]).below hb1 (by simp)
          have HC1 := hide (HC.out.below hb1')
          have HW1 := hide (HW.out.below hb1')
          have HST := hide (fun w2 => FInv.step (w2 := w2) HBS.out HC.out HB.out HGC.out HBEL.out HW.out hb1' hbb)
          clear hb1 hb1' hbb HC HB HW HBEL
          by_cases hn : bs.length < 1024
          · go_wp2_with fail
            refine (deliver_accept w.heap.size fp gc (min j 1) 65535 j qa _ qc bs.length _ _ _ w1 HC1.out HW1.out (by omega) hn).mono ?_
            rintro e w2 ⟨rfl, qa', qc', hC2, hW2, hK2⟩
            have HR := hide (HST.out w2 hK2 hW2 (.inl ⟨hn, qa', qc', hC2⟩))
            clear hC2 hW2 hK2 HC1 HW1 HST
            go_wp2
            go_roundw
            case rel => exact ⟨j + 1, by omega, by go_num, HR.out⟩
            case measure => simp [intOf]; omega
          · go_wp2_with fail
            refine (deliver_drop w.heap.size fp gc (min j 1) 65535 j false qa _ qc bs.length _ _ _ w1 HC1.out HW1.out (by omega) (.inr (by omega))).mono ?_
            rintro e w2 ⟨rfl, hC2, hW2, hK2⟩
            have HR := hide (HST.out w2 (hK2.mono (fun x _ hx => by simp at hx; simp; omega)) hW2 (.inr ⟨by omega, hC2⟩))
            clear hC2 hW2 hK2 HC1 HW1 HST
            go_wp2
            go_roundw
            case rel => exact ⟨j + 1, by omega, by go_num, HR.out⟩
            case measure => simp [intOf]; omega
        · obtain rfl : k = j := by omega
          obtain ⟨bs, qa, qc, hbs, ⟨hF, hO, hBf⟩, hB, hW, hgc, hbel⟩ := hFI
          have f7 := hF.at 7
          have f12 := hF.at 12
          simp only [connCells, List.getElem?_cons_zero, List.getElem?_cons_succ] at f7 f12
          have HO := hide hO
          have HB := hide hB
          have HF := hide hF
          have HBEL := hide hbel
          obtain ⟨buf, cs, cr, hch, hbuf⟩ := hW
          have hlen := run_len_chan (P := Yba.prog) (w := wr) 77 3 Yba.underlying77 hch
          rw [hbuf] at hlen
          clear hF hO hB hch hbuf
          obtain ⟨m, hm⟩ : ∃ m, m = bs.length := ⟨_, rfl⟩
          rw [← hm] at f7 hbs
          have HM := hide hm
          have HMK := hide hbs
          clear hm hbs
          go_upto_if 38 with (fail)
          go_cut [8] (fun s wx => wr = wx ∧ s = .int .i64 (m : Int))
          case first =>
            have hmk := HMK.out
            by_cases hbig : 1024 < k
            · have hbI : (1024 : Int) < (k : Int) := by omega
              obtain rfl : m = 1024 := by omega
              clear hmk HMK
              go_wp2
              go_meet
              case rel => exact ⟨rfl, rfl⟩
            · have hbI : ¬ (1024 : Int) < (k : Int) := by omega
              obtain rfl : m = k := by omega
              clear hmk HMK
              go_wp2
              go_meet
              case rel => exact ⟨rfl, rfl⟩
          case rest =>
            obtain ⟨rfl, rfl⟩ := hcut
            have hmk := HMK.out
            have hm1 : m ≤ 1024 := by omega
            have hmk0 : 0 < m → 0 < k := by omega
            have hwk : k = 0 ∨ 0 < k := by omega
            clear hmk
            have hcells : ∀ i, i < m → ∃ g b : Nat, qa = some ⟨g, 0, none⟩ ∧ g < wr.heap.size ∧ Blk wr b 5 [.int .u8 ((i % 256 : Nat) : Int)] ∧ wr.cell? ⟨g, i * 5, none⟩ = some (.slice (some ⟨b, 0, none⟩) 1 1) ∧ wr.cell? ⟨g, i * 5 + 1, none⟩ = some (.int .u64 0) ∧
                wr.cell? ⟨g, i * 5 + 2, none⟩ = some (.int .u64 0) ∧ wr.cell? ⟨g, i * 5 + 3, none⟩ = some (.pointer none) ∧ wr.cell? ⟨g, i * 5 + 4, none⟩ = some (.int .u16 i) := by
              intro i hi
              have hO := HO.out
              rw [← HM.out] at hO
              rcases hO.2 with ⟨hv, hn⟩ | ⟨g, cp, cur, hv, hg0, hgh, hnc, hcm, hcs, htk⟩
              · omega
              · simp only [Value.slice.injEq] at hv
                obtain ⟨rfl, _, rfl⟩ := hv
                have hat : ∀ c, c < 5 → wr.cell? ⟨g, i * 5 + c, none⟩ = (entry i (bs.getD i 0))[c]? := by
                  intro c hc
                  rw [hO.cellAt (i * 5 + c) (by omega), fillCells_at bs 0 i c (by have := HM.out; omega) hc, Nat.zero_add]
                exact ⟨g, bs.getD i 0, rfl, lt_of_block hgh, HB.out i (by have := HM.out; omega), hat 0 (by omega), hat 1 (by omega), hat 2 (by omega), hat 3 (by omega), hat 4 (by omega)⟩
            have HCE := hide hcells
            clear hcells HO HB
            rcases hwk with h0 | hpos
            · subst h0
              obtain rfl : m = 0 := by omega
              have e1 : min 0 1 = 0 := by omega
              rw [e1] at hlen
              clear e1 HCE HMK HM hmk0
              go_wp2
              refine wp_loop_rounds 1 ?_
              rw [rounds_succ]
              go_wp2
              go_ret
              exact ⟨rfl, HBEL.out⟩
            · have e1 : min k 1 = 1 := by omega
              rw [e1] at hlen
              have hposI : (0 : Int) < (k : Int) := by omega
              clear e1
              go_wp2
              have hfl := HF.out.lt
              clear hlen hmk0 HMK HM
              go_loopw [9] (fun t wx => ∃ i : Nat, i ≤ m ∧ t = .int .i64 i ∧ Below wr.heap.size wr wx) (fun t _ => m - (intOf t).toNat)
              case atStart => exact ⟨0, Nat.zero_le _, rfl, Below.refl _ _⟩
              case round =>
                obtain ⟨i, hi, rfl, hbx⟩ := hrel
                by_cases hlt2 : i < m
                · obtain ⟨g, b, rfl, hgl, hbb, g0, g1, g2, g3, g4⟩ := HCE.out i hlt2
                  have t0 := (hbx.cell (p := ⟨g, i * 5, none⟩) hgl).trans g0
                  have t1 := (hbx.cell (p := ⟨g, i * 5 + 1, none⟩) hgl).trans g1
                  have t2 := (hbx.cell (p := ⟨g, i * 5 + 2, none⟩) hgl).trans g2
                  have t3 := (hbx.cell (p := ⟨g, i * 5 + 3, none⟩) hgl).trans g3
                  have t4 := (hbx.cell (p := ⟨g, i * 5 + 4, none⟩) hgl).trans g4
                  have t7 := (hbx.cell (p := ⟨fp, 7, none⟩) hfl).trans f7
                  have hbb' := hbb.below hbx hbb.lt
                  have hbl := hbb'.lt
                  have tb := hbb'.at 0
                  have eb : ((i % 256 : Nat) : Int) = (i : Int) % 256 := by omega
                  simp only [List.getElem?_cons_zero, eb] at tb
                  clear eb
                  have HBX := hide hbx
                  have hltI : (i : Int) < (m : Int) := by omega
                  clear g0 g1 g2 g3 g4 f7 f12 hbb hbb' hbx hgl
                  go_wp2
                  have D := Blk.new wr 91 [.slice (some ⟨b, 0, none⟩) 1 1, .int .u64 0, .int .u64 0, .pointer none, .int .u16 (i : Int)]
                  have hbw := (hide ((Below.refl wr.heap.size wr).alloc (Nat.le_refl _) (.cells #[.slice (some ⟨b, 0, none⟩) 1 1, .int .u64 0, .int .u64 0, .pointer none, .int .u16 (i : Int)] 91)))
                  have tb' := (hbw.out.cell (p := ⟨b, 0, none⟩) hbl).trans tb
                  have hDl := D.lt
                  have hbl' : b < (wr.alloc (.cells #[.slice (some ⟨b, 0, none⟩) 1 1, .int .u64 0, .int .u64 0, .pointer none, .int .u16 (i : Int)] 91)).heap.size := by simp; omega
                  have d0 := D.at 0
                  have d1 := D.at 1
                  have d2 := D.at 2
                  have d3 := D.at 3
                  have d4 := D.at 4
                  simp only [List.getElem?_cons_zero, List.getElem?_cons_succ] at d0 d1 d2 d3 d4
                  obtain ⟨dN, hdN⟩ : ∃ dN, wr.heap.size = dN := ⟨_, rfl⟩
                  rw [hdN] at d0 d1 d2 d3 d4 hDl
                  have HDN := hide hdN
                  clear t0 t1 t2 t3 t4 t7 tb D hbl
                  rw [hdN]
                  clear hdN
                  generalize wr.alloc (.cells #[.slice (some ⟨b, 0, none⟩) 1 1, .int .u64 0, .int .u64 0, .pointer none, .int .u16 (i : Int)] 91) = w5 at *
                  have hneq := fun w => ap_same (i : Int) w
                  have heg := eg43
                  have wu16 : IntKind.u16.wrap (i : Int) = (i : Int) := by rw [IntKind.wrap_u16]; omega
                  have wu8 : IntKind.u8.wrap (i : Int) = (i : Int) % 256 := by rw [IntKind.wrap_u8]
                  go_region_held3 (fun w' => w'.cell? ⟨dN, 0, none⟩ = some (.slice (some ⟨b, 0, none⟩) 1 1) ∧ w'.cell? ⟨dN, 1, none⟩ = some (.int .u64 0) ∧ w'.cell? ⟨dN, 2, none⟩ = some (.int .u64 0) ∧ w'.cell? ⟨dN, 3, none⟩ = some (.pointer none) ∧ w'.cell? ⟨dN, 4, none⟩ = some (.int .u16 (i : Int)) ∧ w'.cell? ⟨b, 0, none⟩ = some (.int .u8 ((i : Int) % 256))) (go_keep) (first | (go_at_call 10; refine (cap_lit _ _).mono ?_; rintro e w6 ⟨rfl, hb6⟩; have k0 := (hb6.cell (p := ⟨dN, 0, none⟩) hDl).trans d0; have k1 := (hb6.cell (p := ⟨dN, 1, none⟩) hDl).trans d1; have k2 := (hb6.cell (p := ⟨dN, 2, none⟩) hDl).trans d2; have k3 := (hb6.cell (p := ⟨dN, 3, none⟩) hDl).trans d3; have k4 := (hb6.cell (p := ⟨dN, 4, none⟩) hDl).trans d4; have kb := (hb6.cell (p := ⟨b, 0, none⟩) hbl').trans tb'))
                  have hb56 : Below wr.heap.size wr w6 := hbw.out.trans ((below_of_drew hb6).mono hbw.out.size)
                  have HR := hide (HBX.out.trans (hb56.mono HBX.out.size))
                  clear hb6 k0 k1 k2 k3 k4 kb d0 d1 d2 d3 d4 tb' hbw hb56 HBX hDl hbl' hneq heg wu16 wu8
                  go_wp2
                  go_roundw
                  case rel => exact ⟨i + 1, by omega, by go_num, HR.out⟩
                  case measure => simp [intOf]; omega
                · go_wp2
                  go_ret
                  exact ⟨rfl, HBEL.out.trans (hbx.mono (by have := HBEL.out.size; omega))⟩

end Go.Proofs.Ybulkbtow
