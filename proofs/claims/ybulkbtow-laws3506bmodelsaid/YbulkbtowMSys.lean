/-
  BModel: the heap as the law has built it.
-/
import Derived.Test.YbulkbtowMT7
import Derived.Test.YbulkbtowMT5
import Derived.Test.YbulkbtowMT4b
namespace Go.Proofs.Ybulkbtow
open Go.RowKit
set_option linter.unusedVariables false

/-- What came in, and where what was made of it lies. -/
structure Dat where
  nb : Nat
  m : Nat
  nc : Nat
  kb : Nat → Nat
  pt : Nat → Int
  fl : Nat → Int
  cx : Nat → Int
  cy : Nat → Int
  hs : Nat → Bool
  spt : Nat → Int
  cd : Nat → Int
  tg : Int
  na : Int
  nx : Int
  bt : Nat
  bn : Nat
  ba : Nat
  bo : Nat
  bs : Nat
  B : Nat → Nat
  Z : Nat → Nat
  P : Nat → Nat
  C : Nat → Nat

/-- The contacts of bucket k among the first m, in order. -/
def lst (kb : Nat → Nat) (k m : Nat) : List Nat := (List.range m).filter (fun i => kb i == k)

theorem lst_mem {kb : Nat → Nat} {k m i : Nat} (h : i ∈ lst kb k m) : i < m ∧ kb i = k := by
  simp only [lst, List.mem_filter, List.mem_range, beq_iff_eq] at h
  exact h
theorem lst_nodup (kb : Nat → Nat) (k m : Nat) : (lst kb k m).Nodup := List.nodup_range.sublist List.filter_sublist
theorem lst_succ (kb : Nat → Nat) (k m : Nat) : lst kb k (m + 1) = if kb m = k then lst kb k m ++ [m] else lst kb k m := by
  unfold lst
  rw [List.range_succ, List.filter_append]
  by_cases h : kb m = k
  · simp [h]
  · simp [h]
theorem lst_len (kb : Nat → Nat) (k m : Nat) : (lst kb k m).length ≤ m := by
  have := List.length_filter_le (fun i => kb i == k) (List.range m)
  simpa [lst] using this

def Dat.len (D : Dat) (k : Nat) : Nat := (lst D.kb k D.m).length
def Dat.idx (D : Dat) (k j : Nat) : Nat := (lst D.kb k D.m)[j]?.getD 0
def Dat.cb (D : Dat) (k j : Nat) : Nat := D.P (D.idx k j)
def Dat.port (D : Dat) (k j : Nat) : Int := D.pt (D.idx k j)
def Dat.F (D : Dat) (k j : Nat) : Int := D.fl (D.idx k j)
def Dat.spv (D : Dat) (k : Nat) : Value := if D.hs k = true then ptr (D.Z k) else .pointer none
def Dat.xs (D : Dat) (k : Nat) : List Value := (lst D.kb k D.m).map (fun i => ptr (D.P i))

theorem Dat.idx_mem (D : Dat) {k j : Nat} (h : j < D.len k) : D.idx k j ∈ lst D.kb k D.m := by
  unfold Dat.idx Dat.len at *
  rw [List.getElem?_eq_getElem h]
  exact List.getElem_mem h
theorem Dat.idx_lt (D : Dat) {k j : Nat} (h : j < D.len k) : D.idx k j < D.m := (lst_mem (D.idx_mem h)).1
theorem Dat.idx_kb (D : Dat) {k j : Nat} (h : j < D.len k) : D.kb (D.idx k j) = k := (lst_mem (D.idx_mem h)).2
theorem Dat.xs_at (D : Dat) {k j : Nat} (h : j < D.len k) : (D.xs k)[j]? = some (ptr (D.cb k j)) := by
  unfold Dat.xs Dat.cb Dat.idx Dat.len at *
  rw [List.getElem?_map, List.getElem?_eq_getElem h]
  rfl
theorem Dat.xs_len (D : Dat) (k : Nat) : (D.xs k).length = D.len k := by simp [Dat.xs, Dat.len]
theorem Dat.len_le (D : Dat) (k : Nat) : D.len k ≤ D.m := lst_len _ _ _

def gblk (v : Value) : Nat := v.ownBlock.getD 0

theorem Lst.rowv {w : World} {H : Nat} {e : TypeId} {v : Value} {xs : List Value} (h : Lst w H e v xs) {n : Nat} {f : Nat → Value} (hn : xs.length = n) (hf : ∀ j, j < n → xs[j]? = some (f j)) :
    RowV w v n f := by
  subst hn
  rcases h.fn with ⟨rfl, rfl⟩ | ⟨g, cap, f', rfl, hH, hc, hm, hv, hx⟩
  · exact ⟨none, 0, rfl, fun h => absurd h (by simp)⟩
  · refine ⟨_, _, rfl, fun _ => ⟨g, rfl, fun j hj => ?_⟩⟩
    rw [hv.at (by omega)]
    have h1 := hx j hj
    rw [hf j hj] at h1
    exact h1.symm

/-- The heap when all is built. -/
structure Sys (D : Dat) (H gt ct : Nat) (tcs : List Value) (rv : Nat → Value) (pv fv cv wv : Value) (w : World) : Prop where
  nb1 : 0 < D.nb
  nb4 : D.nb ≤ 4
  m5 : D.m ≤ 1024
  nc5 : D.nc ≤ 1024
  kbl : ∀ i, i < D.m → D.kb i < D.nb
  flb : ∀ i, i < D.m → -128 ≤ D.fl i ∧ D.fl i ≤ 127
  tb : Blk w D.bt 54 tcs
  t29 : tcs[29]? = some (.slice (some ⟨gt, 0, none⟩) D.nb ct)
  t34 : tcs[34]? = some cv
  tt : ∃ cs, Blk w gt 57 cs
  tc : ∀ k, k < D.nb → w.cell? ⟨gt, k, none⟩ = some (ptr (D.B k))
  bk : ∀ k, k < D.nb → Blk w (D.B k) 60 [rv k, D.spv k, .pointer none, .int .u64 0, .int .i64 0, .pointer none]
  bi : ∀ k k', k < D.nb → k' < D.nb → D.B k = D.B k' → k = k'
  og : Vf w D.bo 56 D.nb (fun k => rv (D.nb + k))
  sp : Vf w D.bs 58 D.nb D.spv
  zs : ∀ k, k < D.nb → D.hs k = true → Blk w (D.Z k) 66 (conCells 255 (k : Int) (D.spt k) 0)
  rc : ∀ k, k < D.nb → Lst w H 58 (rv k) (D.xs k)
  ro : ∀ k, k < D.nb → Lst w H 58 (rv (D.nb + k)) (D.xs k)
  rp : Lst w H 58 pv ((List.range D.m).map (fun i => ptr (D.P i)))
  d1 : ∀ k, k < D.nb → ∀ g, (rv k).ownBlock = some g → g ≠ D.bs ∧ pv.ownBlock ≠ some g ∧ ∀ k', k' < D.nb → (rv (D.nb + k')).ownBlock ≠ some g ∧ (k' ≠ k → (rv k').ownBlock ≠ some g)
  rf : Lst w H 3 fv ((List.range D.m).map (fun i => Value.int .i64 (D.fl i)))
  con : ∀ i, i < D.m → Blk w (D.P i) 66 (conCells (D.cx i) (D.cy i) (D.pt i) (D.fl i))
  pin : ∀ i j, i < D.m → j < D.m → D.P i = D.P j → i = j
  pz : ∀ i k, i < D.m → k < D.nb → D.hs k = true → D.P i ≠ D.Z k
  rcv : Lst w H 68 cv ((List.range D.nc).map (fun i => ptr (D.C i)))
  cb : ∀ i, i < D.nc → (∃ cs, Blk w (D.C i) 70 cs) ∧ ApAt w (D.C i) 20 (D.cd i)
  rw' : Lst w H 25 wv (((List.range D.nc).filter (fun i => D.cd i != D.tg)).map (fun i => Value.int .u16 (D.cd i)))
  ba : Blk w D.ba 43 [.int .u64 0, .int .u64 0, .pointer none, .int .u16 D.tg]
  bn : Blk w D.bn 29 [.int .u64 D.na, .int .i64 D.nx, .pointer none]
  hw : H ≤ w.heap.size
  hbt : H ≤ D.bt
  hB : ∀ k, k < D.nb → H ≤ D.B k
  hP : ∀ i, i < D.m → H ≤ D.P i

theorem Sys.drewN {D : Dat} {H gt ct : Nat} {tcs : List Value} {rv : Nat → Value} {pv fv cv wv : Value} {w : World} (h : Sys D H gt ct tcs rv pv fv cv wv w) (n : Nat) : Sys D H gt ct tcs rv pv fv cv wv (w.drewN n) :=
  ⟨h.nb1, h.nb4, h.m5, h.nc5, h.kbl, h.flb, h.tb, h.t29, h.t34, h.tt, h.tc, h.bk, h.bi, h.og, h.sp, h.zs, h.rc, h.ro, h.rp, h.d1, h.rf, h.con, h.pin, h.pz, h.rcv, fun i hi => ⟨(h.cb i hi).1, (h.cb i hi).2.drewN n⟩, h.rw', h.ba, h.bn, h.hw, h.hbt, h.hB, h.hP⟩

section
variable {D : Dat} {H gt ct : Nat} {tcs : List Value} {rv : Nat → Value} {pv fv cv wv : Value} {w : World}

theorem gblk_of {v : Value} {g n c : Nat} (h : v = .slice (some ⟨g, 0, none⟩) n c) : gblk v = g := by subst h; rfl

theorem Sys.scan (h : Sys D H gt ct tcs rv pv fv cv wv w) : Scan D.nb gt ct D.B D.len (fun k => gblk (rv k)) rv D.cb D.port w := by
  refine ⟨h.tt, h.tc, fun k hk => ⟨_, h.bk k hk, rfl⟩, fun k hk => ?_, fun k hk hl => ?_, fun k hk j hj => ?_, fun k hk j hj => ⟨_, h.con _ (D.idx_lt hj)⟩, fun k hk j hj => con_ap (h.con _ (D.idx_lt hj))⟩
  · rcases (h.rc k hk).fn with ⟨h1, h2⟩ | ⟨g, cap, f, hv, _, _, _, _, _⟩
    · have e : D.len k = 0 := by rw [← D.xs_len, h2]; rfl
      exact ⟨none, 0, by rw [h1, e], fun hl => by omega⟩
    · rw [D.xs_len] at hv
      exact ⟨_, _, hv, fun _ => by rw [gblk_of hv]⟩
  · rcases (h.rc k hk).fn with ⟨h1, h2⟩ | ⟨g, cap, f, hv, _, _, _, hf, _⟩
    · have e : D.len k = 0 := by rw [← D.xs_len, h2]; rfl
      omega
    · rw [gblk_of hv]
      exact ⟨_, hf⟩
  · rcases (h.rc k hk).fn with ⟨h1, h2⟩ | ⟨g, cap, f, hv, _, hc, _, hf, hx⟩
    · have e : D.len k = 0 := by rw [← D.xs_len, h2]; rfl
      omega
    · rw [D.xs_len] at hc hx
      have h1 := hx j hj
      rw [D.xs_at hj] at h1
      show w.cell? ⟨gblk (rv k), j, none⟩ = _
      rw [gblk_of hv, hf.at (by omega)]
      exact h1.symm

theorem Sys.look (h : Sys D H gt ct tcs rv pv fv cv wv w) : Look D.nb D.bo D.ba D.len (fun k => rv (D.nb + k)) D.cb D.port D.tg w :=
  ⟨fun k hk => h.og.at hk, fun k hk => (h.ro k hk).rowv (D.xs_len k) (fun j hj => D.xs_at hj), fun k hk j hj => con_ap (h.con _ (D.idx_lt hj)), ⟨h.ba.at 0, h.ba.at 1, h.ba.at 2, h.ba.at 3⟩⟩

theorem filter_cnt (p : Nat → Bool) : ∀ n, ((List.range n).filter p).length = cnt p n
  | 0 => rfl
  | n + 1 => by
    rw [List.range_succ, List.filter_append, List.length_append, filter_cnt p n]
    show _ = cnt p n + (if p n = true then 1 else 0)
    cases hp : p n <;> simp [hp]

theorem filter_at (p : Nat → Bool) : ∀ n i, i < n → p i = true → ((List.range n).filter p)[cnt p i]? = some i
  | 0, i, h, _ => by omega
  | n + 1, i, h, hp => by
    rw [List.range_succ, List.filter_append]
    by_cases e : i = n
    · subst e
      rw [List.getElem?_append_right (by rw [filter_cnt]; exact Nat.le_refl _), filter_cnt, Nat.sub_self]
      simp [hp]
    · have h1 : cnt p i < ((List.range n).filter p).length := by
        rw [filter_cnt]
        have := cnt_mono p (show i + 1 ≤ n by omega)
        rw [cnt_put hp] at this
        omega
      rw [List.getElem?_append_left h1]
      exact filter_at p n i (by omega) hp
end
end Go.Proofs.Ybulkbtow
