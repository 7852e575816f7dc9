/-
  BModel: slices.DeleteFunc and slices.IndexFunc over the row of candidates.
-/
import Derived.Test.YbulkbtowMRow
import Derived.Test.YbulkbtowMLeaf
import Derived.Test.YbulkbtowAddr
import Derived.Lib.SliceRun
namespace Go.Proofs.Ybulkbtow
open Go.RowKit
set_option linter.unusedVariables false

/-- Cells o .. o+3 of block b hold the AddrPort of port p. -/
structure ApAt (w : World) (b o : Nat) (p : Int) : Prop where
  a0 : w.cell? ⟨b, o, none⟩ = some (.int .u64 0)
  a1 : w.cell? ⟨b, o + 1, none⟩ = some (.int .u64 0)
  a2 : w.cell? ⟨b, o + 2, none⟩ = some (.pointer none)
  a3 : w.cell? ⟨b, o + 3, none⟩ = some (.int .u16 p)

theorem ApAt.kept {w w' : World} {b o : Nat} {p : Int} (h : ApAt w b o p) {S : List Nat} (hk : Kept S w w') (hb : b ∉ S) : ApAt w' b o p := by
  have hlt : b < w.heap.size := Go.block_lt_of_cell h.a0
  exact ⟨(World.cell?_of_block (hk.block b hlt hb)).trans h.a0, (World.cell?_of_block (hk.block b hlt hb)).trans h.a1, (World.cell?_of_block (hk.block b hlt hb)).trans h.a2, (World.cell?_of_block (hk.block b hlt hb)).trans h.a3⟩

theorem ApAt.below {w w' : World} {b o : Nat} {p : Int} (h : ApAt w b o p) {B : Nat} (hk : Below B w w') (hb : b < B) : ApAt w' b o p :=
  ⟨(hk.cell (p := ⟨b, o, none⟩) hb).trans h.a0, (hk.cell (p := ⟨b, o + 1, none⟩) hb).trans h.a1, (hk.cell (p := ⟨b, o + 2, none⟩) hb).trans h.a2, (hk.cell (p := ⟨b, o + 3, none⟩) hb).trans h.a3⟩

theorem ApAt.drewN {w : World} {b o : Nat} {p : Int} (h : ApAt w b o p) (n : Nat) : ApAt (w.drewN n) b o p := ⟨h.a0, h.a1, h.a2, h.a3⟩

set_option maxRecDepth 100000 in
theorem del_any (b ba : Nat) (p t : Int) (w : World) (h1 : ApAt w b 20 p) (h2 : ApAt w ba 0 t) :
    Calls Yba.prog 21 #[.pointer (some ⟨b, 0, none⟩), .pointer (some ⟨ba, 0, none⟩)] w fun e w' => e = .returned (.bool (p == t)) ∧ ∃ n, w' = w.drewN n := by
  obtain ⟨a0, a1, a2, a3⟩ := h1
  obtain ⟨c0, c1, c2, c3⟩ := h2
  simp only [Nat.zero_add, Nat.reduceAdd] at a1 a2 a3 c1 c2 c3
  have hq := ap_eql p t
  have hg := eg43
  go_enter Yba.func21, Yba.ntmps21
  go_wp2
  go_quiet (fail)
  go_wp2
  go_ret
  exact ⟨rfl, nq, rfl⟩

/-- The row of candidates: n pointers at the head of block g, each to a block of type 70 with its port. -/
structure Cands (w : World) (g L n : Nat) (f : Nat → Value) (b : Nat → Nat) (p : Nat → Int) : Prop where
  row : Vf w g 68 L f
  nL : n ≤ L
  ptr : ∀ i, i < n → f i = .pointer (some ⟨b i, 0, none⟩)
  typ : ∀ i, i < n → ∃ cs, Blk w (b i) 70 cs
  at' : ∀ i, i < n → ApAt w (b i) 20 (p i)

set_option maxRecDepth 100000 in
set_option maxHeartbeats 1000000 in
theorem idx_any (g L n c : Nat) (f : Nat → Value) (b : Nat → Nat) (p : Nat → Int) (ba : Nat) (t : Int) (w : World) (hC : Cands w g L n f b p) (hn : n ≤ 100000) (hA : ApAt w ba 0 t) :
    Calls Yba.prog 28 #[.slice (some ⟨g, 0, none⟩) n c, .func (.func 21) #[] #[.pointer (some ⟨ba, 0, none⟩)]] w fun e w' => (∃ m, w' = w.drewN m) ∧
      ((e = .returned (.int .i64 (-1)) ∧ ∀ i, i < n → p i ≠ t) ∨ ∃ i : Nat, i < n ∧ e = .returned (.int .i64 (i : Int)) ∧ p i = t ∧ ∀ j, j < i → p j ≠ t) := by
  have HC := hide hC
  have HA := hide hA
  clear hC hA
  go_enter Yba.func28, Yba.ntmps28
  go_wp2
  go_loopw [8] (fun x wr => ∃ (i : Nat), i ≤ n ∧ x = .int .i64 (i : Int) ∧ (∃ m, wr = w.drewN m) ∧ ∀ j, j < i → p j ≠ t) (fun x _ => n - (intOf x).toNat)
  case atStart => exact ⟨0, Nat.zero_le _, rfl, ⟨0, rfl⟩, fun j hj => by omega⟩
  case round =>
    obtain ⟨i, hin, rfl, ⟨m, rfl⟩, hne⟩ := hrel
    have HNE := hide hne
    clear hne
    by_cases hlt : i < n
    · have hltI : (i : Int) < (n : Int) := by omega
      have hnL := HC.out.nL
      have c1 := HC.out.row.at (i := i) (by omega)
      rw [HC.out.ptr i hlt] at c1
      have HCALL := hide (del_any (b i) ba (p i) t (w.drewN m) ((HC.out.at' i hlt).drewN m) (HA.out.drewN m))
      by_cases hp : p i = t
      · have hpb : (p i == t) = true := by simp [hp]
        rw [hpb] at HCALL
        have HP := hide hp
        clear hp hpb
        go_wp2_with fail
        refine HCALL.out.mono ?_
        rintro x w2 ⟨rfl, k, rfl⟩
        clear HCALL c1
        go_wp2
        go_ret
        exact ⟨⟨m + k, by simp⟩, .inr ⟨i, hlt, rfl, HP.out, HNE.out⟩⟩
      · have hpb : (p i == t) = false := by simp [hp]
        rw [hpb] at HCALL
        have HP := hide hp
        clear hp hpb
        go_wp2_with fail
        refine HCALL.out.mono ?_
        rintro x w2 ⟨rfl, k, rfl⟩
        clear HCALL c1
        go_wp2
        go_roundw
        case rel => exact ⟨i + 1, by omega, by go_num, ⟨m + k, by simp⟩, fun j hj => by
          by_cases e : j = i
          · subst e; exact HP.out
          · exact HNE.out j (by omega)⟩
        case measure => simp [intOf]; omega
    · have hltI : ¬ (i : Int) < (n : Int) := by omega
      go_wp2
      go_ret
      exact ⟨⟨m, rfl⟩, .inl ⟨rfl, fun j hj => HNE.out j (by omega)⟩⟩

theorem zero68 (w : World) : (zeroValue 68).run Yba.prog w = .ok (.pointer none) w := by kernel_rfl

set_option maxRecDepth 100000 in
set_option maxHeartbeats 2000000 in
/-- What is left of the row: the candidates of other ports, in order. -/
theorem delf_any (g L n : Nat) (f : Nat → Value) (b : Nat → Nat) (p : Nat → Int) (ba : Nat) (t : Int) (w : World) (hC : Cands w g L n f b p) (hn : n ≤ 100000) (hL : L ≤ maxLen) (hA : ApAt w ba 0 t) (hag : ba ≠ g) :
    Calls Yba.prog 20 #[.slice (some ⟨g, 0, none⟩) n L, .func (.func 21) #[] #[.pointer (some ⟨ba, 0, none⟩)]] w fun e w' => Kept [g] w w' ∧
      ∃ f', e = .returned (.slice (some ⟨g, 0, none⟩) (cnt (fun i => p i != t) n) L) ∧ Vf w' g 68 L f' ∧ ∀ i, i < n → p i ≠ t → f' (cnt (fun i => p i != t) i) = f i := by
  have HI := hide (idx_any g L n L f b p ba t w hC hn hA)
  have HC := hide hC
  have HA := hide hA
  clear hC hA
  go_enter Yba.func20, Yba.ntmps20
  go_wp2_with fail
  refine HI.out.mono ?_
  rintro x w1 ⟨⟨m, rfl⟩, ⟨rfl, hnone⟩ | ⟨i0, hi0, rfl, hpi, hbef⟩⟩
  · have e : cnt (fun i => p i != t) n = n := cnt_all (fun i hi => by simp [hnone i hi])
    have HE := hide (show Kept [g] w (w.drewN m) ∧ ∃ f', Ending.returned (.slice (some ⟨g, 0, none⟩) n L) = .returned (.slice (some ⟨g, 0, none⟩) (cnt (fun i => p i != t) n) L) ∧ Vf (w.drewN m) g 68 L f' ∧ ∀ i, i < n → p i ≠ t → f' (cnt (fun i => p i != t) i) = f i from
      ⟨(Kept.refl _ _).drewN m, f, by rw [e], HC.out.row.drewN m, fun i hi h => by rw [cnt_all (fun j hj => by simp [hnone j (by omega)])]⟩)
    clear HI HC HA e hnone
    go_wp2
    go_ret
    exact HE.out
  · have e0 : cnt (fun i => p i != t) i0 = i0 := cnt_all (fun i hi => by simp [hbef i hi])
    have e1 : cnt (fun i => p i != t) (i0 + 1) = i0 := by rw [cnt_skip (by simp [hpi]), e0]
    have HB := hide hbef
    have HE1 := hide e1
    clear hbef e0 e1 HI
    go_wp2
    go_loopw [5, 6] (fun x y wr => ∃ (j : Nat) (f' : Nat → Value), j ≤ n ∧ i0 < j ∧ x = .int .i64 ((cnt (fun i => p i != t) j : Nat) : Int) ∧ y = .int .i64 (j : Int) ∧ Kept [g] w wr ∧ Vf wr g 68 L f' ∧ (∀ i, j ≤ i → i < n → f' i = f i) ∧ (∀ i, i < j → p i ≠ t → f' (cnt (fun i => p i != t) i) = f i) ∧ cnt (fun i => p i != t) j < j) (fun x y _ => n - (intOf y).toNat)
    case atStart =>
      refine ⟨i0 + 1, f, by omega, by omega, by rw [HE1.out], by go_num, (Kept.refl _ _).drewN m, HC.out.row.drewN m, fun _ _ _ => rfl, ?_, by rw [HE1.out]; omega⟩
      intro i hi hp
      have hlt : i < i0 := by
        rcases Nat.lt_or_ge i i0 with h | h
        · exact h
        · have : i = i0 := by omega
          subst this
          exact absurd hpi hp
      rw [cnt_all (fun j hj => by simp [HB.out j (by omega)])]
    case round =>
      obtain ⟨j, f', hjn, hij, rfl, rfl, hK, hF, hrest, hdone, hcj⟩ := hrel
      have HK := hide hK
      have HF := hide hF
      have HR := hide hrest
      have HD := hide hdone
      clear hK hF hrest hdone
      obtain ⟨q, hq⟩ : ∃ q, cnt (fun i => p i != t) j = q := ⟨_, rfl⟩
      have HQ := hide hq
      rw [hq] at hcj
      rw [hq]
      clear hq
      have hnL := HC.out.nL
      by_cases hlt : j < n
      · have hltI : (j : Int) < (n : Int) := by omega
        have c1 := HF.out.at (i := j) (by omega)
        rw [HR.out j (Nat.le_refl _) hlt, HC.out.ptr j hlt] at c1
        have hbg : b j ≠ g := by
          obtain ⟨cs, hcs⟩ := HC.out.typ j hlt
          exact hcs.ne HC.out.row (by decide)
        have HCALL := hide (del_any (b j) ba (p j) t wr ((HC.out.at' j hlt).kept HK.out (by simp; exact hbg)) (HA.out.kept HK.out (by simp; exact hag)))
        by_cases hp : p j = t
        · have hpb : (p j == t) = true := by simp [hp]
          rw [hpb] at HCALL
          have HP := hide hp
          clear hp hpb
          go_wp2_with fail
          refine HCALL.out.mono ?_
          rintro x w2 ⟨rfl, k, rfl⟩
          have HK2 := hide (HK.out.drewN k)
          have HF2 := hide (HF.out.drewN k)
          clear HCALL c1 HK HF
          dsimp only
          generalize wr.drewN k = w2 at *
          go_wp2
          go_roundw
          case rel =>
            have ec : cnt (fun i => p i != t) (j + 1) = q := by rw [cnt_skip (by simp [HP.out]), HQ.out]
            refine ⟨j + 1, f', by omega, by omega, by rw [ec], by go_num, HK2.out, HF2.out, fun i h1 h2 => HR.out i (by omega) h2, ?_, by rw [ec]; omega⟩
            intro i hi hpi
            have : i < j := by
              rcases Nat.lt_or_ge i j with h | h
              · exact h
              · have e : i = j := by omega
                subst e
                exact absurd HP.out hpi
            exact HD.out i this hpi
          case measure => simp [intOf]; omega
        · have hpb : (p j == t) = false := by simp [hp]
          rw [hpb] at HCALL
          have HP := hide hp
          clear hp hpb
          go_wp2_with fail
          refine HCALL.out.mono ?_
          rintro x w2 ⟨rfl, k, rfl⟩
          have HK2 := hide (HK.out.drewN k)
          have HF2 := hide (HF.out.drewN k)
          clear HCALL c1 HK HF
          dsimp only
          generalize wr.drewN k = w2 at *
          have c2 := HF2.out.at (i := q) (by omega)
          have z2 := HF2.out.free q
          have hqn : (q : Int) < (n : Int) := by omega
          go_wp2
          go_roundw
          case rel =>
            have ec : cnt (fun i => p i != t) (j + 1) = q + 1 := by rw [cnt_put (by simp [HP.out]), HQ.out]
            refine ⟨j + 1, upv f' q (.pointer (some ⟨b j, 0, none⟩)), by omega, by omega, by rw [ec]; go_num, by go_num, HK2.out.setCell (p := ⟨g, q, none⟩) (.inl (by simp)) _, HF2.out.set q _, fun i h1 h2 => ?_, ?_, by rw [ec]; omega⟩
            · rw [upv_other _ _ (by omega)]
              exact HR.out i (by omega) h2
            · intro i hi hpi
              by_cases e : i = j
              · subst e
                rw [HQ.out, upv_same, HC.out.ptr i hlt]
              · have h1 : cnt (fun i => p i != t) (i + 1) ≤ cnt (fun i => p i != t) j := cnt_mono _ (by omega)
                rw [cnt_put (by simp [hpi]), HQ.out] at h1
                rw [upv_other _ _ (by omega)]
                exact HD.out i (by omega) hpi
          case measure => simp [intOf]; omega
      · have hjj : j = n := by omega
        subst hjj
        have hltI : ¬ (j : Int) < (j : Int) := by omega
        have hqI : (q : Int) ≤ (j : Int) := by omega
        have hjL : (j : Int) ≤ (L : Int) := by omega
        have hLq : ¬ L = q := by omega
        have hcl : ∀ ty, (Builtin.clear_ #[52] ty #[.slice (some ⟨g, q, none⟩) (j - q) (L - q)]).run Yba.prog wr = .ok (.tuple #[]) (wr.setCells g q (List.replicate (j - q) (.pointer none))) :=
          fun ty => Lib.run_clear_slice wr 52 68 ty (.pointer none) Yba.underlying52 zero68 rfl rfl g q (j - q) (L - q) (by omega) (fun i hi => by rw [HF.out.at (by omega)]; rfl) (fun i hi => HF.out.free _)
        obtain ⟨f2, k1, k2, k3⟩ := HF.out.setCells (List.replicate (j - q) (.pointer none)) q
        have HFIN := hide (show Kept [g] w (wr.setCells g q (List.replicate (j - q) (.pointer none))) ∧ ∃ f', Ending.returned (.slice (some ⟨g, 0, none⟩) q L) = .returned (.slice (some ⟨g, 0, none⟩) (cnt (fun i => p i != t) j) L) ∧ Vf (wr.setCells g q (List.replicate (j - q) (.pointer none))) g 68 L f' ∧ ∀ i, i < j → p i ≠ t → f' (cnt (fun i => p i != t) i) = f i from by
          refine ⟨HK.out.trans k3, f2, by rw [HQ.out], k1, fun i hi hpi => ?_⟩
          have h1 : cnt (fun i => p i != t) (i + 1) ≤ cnt (fun i => p i != t) j := cnt_mono _ (by omega)
          rw [cnt_put (by simp [hpi]), HQ.out] at h1
          rw [k2 _ (by omega)]
          exact HD.out i hi hpi)
        clear k1 k2 k3 HD HR HF HK
        go_wp2_with (simp only [hcl])
        go_ret
        obtain ⟨k1, f2', e2, k2, k3⟩ := HFIN.out
        exact ⟨k1, e2, f2', k2, k3⟩

set_option maxRecDepth 100000 in
theorem idx_nil (ba : Nat) (w : World) : Calls Yba.prog 28 #[.slice none 0 0, .func (.func 21) #[] #[.pointer (some ⟨ba, 0, none⟩)]] w fun e w' => w' = w ∧ e = .returned (.int .i64 (-1)) := by
  go_enter Yba.func28, Yba.ntmps28
  go_wp2
  go_loopw [8] (fun x wr => x = .int .i64 0 ∧ wr = w) (fun x _ => 0)
  case atStart => exact ⟨rfl, rfl⟩
  case round =>
    obtain ⟨rfl, rfl⟩ := hrel
    go_wp2
    go_ret
    exact ⟨rfl, rfl⟩

theorem delf_nil (ba : Nat) (w : World) : Calls Yba.prog 20 #[.slice none 0 0, .func (.func 21) #[] #[.pointer (some ⟨ba, 0, none⟩)]] w fun e w' => w' = w ∧ e = .returned (.slice none 0 0) := by
  have HI := hide (idx_nil ba w)
  go_enter Yba.func20, Yba.ntmps20
  go_wp2_with fail
  refine HI.out.mono ?_
  rintro x w1 ⟨rfl, rfl⟩
  go_wp2
  go_ret
  exact ⟨rfl, rfl⟩

end Go.Proofs.Ybulkbtow
