/-
  sync.Mutex's TryLock on a free lock; slices.Clone and slices.Equal on bytes.
-/
import Derived.Test.YbulkbtowDeliver
import Derived.Lib.SliceRun
import Derived.Deep.QuietTactic
import Derived.BigQuiet
namespace Go.Proofs.Ybulkbtow
open Go.RowKit Go.MuLone
set_option linter.unusedVariables false

set_option maxRecDepth 100000 in
set_option maxHeartbeats 800000 in
theorem itry_free (b o : Nat) (w : World) (hc : w.cell? ⟨b, o, none⟩ = some (.int .i32 0)) (hz : w.frozen? ⟨b, o, none⟩ = false) :
    Calls Yba.prog 25 #[.pointer (some ⟨b, o, none⟩)] w fun e w' => e = .returned (.bool true) ∧ w' = w.setCell ⟨b, o, none⟩ (.int .i32 1) := by
  have hd : ∀ w, (callFunc 30 #[]).run Yba.prog w = .ok (.value (.tuple #[])) w := disable muLib
  have he : ∀ w, (callFunc 31 #[]).run Yba.prog w = .ok (.value (.tuple #[])) w := enable muLib
  have ha : ∀ a w, (callFunc 33 #[.pointer (some a)]).run Yba.prog w = .ok (.value (.tuple #[])) w := acquire muLib
  have hcas := run_call_cas_hit (P := Yba.prog) muLib.f_cas32 (by kernel_rfl) (by kernel_rfl) (by kernel_rfl) .i32 (by kernel_rfl) (y := 1) hc hz
  have hc' : (w.setCell ⟨b, o, none⟩ (.int .i32 1)).cell? ⟨b, o, none⟩ = some (.int .i32 1) := by simp [go_sem, hc]
  have hcv := run_convert_to_unsafe (P := Yba.prog) (src := 106) (dst := 110) muLib.underlying_tPIMutex muLib.underlying_tUP muLib.room_tIMutex hc'
  have h5 : bits .and .i32 0 5 = 0 := by decide
  have h1 : bits .or .i32 0 1 = 1 := by decide
  go_enter Yba.func25, Yba.ntmps25
  go_wp2
  go_ret
  exact ⟨rfl, rfl⟩

theorem try_free (b o : Nat) (w : World) (hc : w.cell? ⟨b, o, none⟩ = some (.int .i32 0)) (hz : w.frozen? ⟨b, o, none⟩ = false) :
    Calls Yba.prog 12 #[.pointer (some ⟨b, o, none⟩)] w fun e w' => e = .returned (.bool true) ∧ w' = w.setCell ⟨b, o, none⟩ (.int .i32 1) := by
  have hI := hide (itry_free b o w hc hz)
  clear hc hz
  go_enter Yba.func12, Yba.ntmps12
  go_wp2_with fail
  refine hI.out.mono ?_
  rintro e w' ⟨rfl, rfl⟩
  go_wp2
  go_ret
  exact ⟨rfl, rfl⟩

theorem Yba.info5 : (Yba.prog.info? 5).map (fun i => (i.zero, i.size, i.bytes)) = some (some (.int .u8 0), 1, 1) := by kernel_rfl

theorem eql74 (a : Option Addr) (n c : Nat) (w : World) : (binOp .eql 74 (.slice a n c) (.slice none 0 0)).run Yba.prog w = .ok (.bool a.isNone) w := Lib.run_eql_slice_nil w _ _ a n c 0 0 Yba.underlying74

/-- A row of bytes that came in: its elements are zs. -/
def Bytes (w : World) (x : Addr) (zs : List Int) : Prop := ∀ i, i < zs.length → w.cell? (x.add i) = some (.int .u8 (zs.getD i 0))

theorem Bytes.cells {w : World} {x : Addr} {zs : List Int} (h : Bytes w x zs) : ∀ j u, (zs.map (Value.int .u8))[j]? = some u → w.cell? (x.add j) = some u := by
  intro j u hj
  simp at hj
  obtain ⟨z, hz, rfl⟩ := hj
  have hlt := (List.getElem?_eq_some_iff.mp hz).1
  rw [h j hlt, List.getD_eq_getElem?_getD, hz]
  rfl

theorem lt_of_cell' {w : World} {x : Addr} {v : Value} (h : w.cell? x = some v) : x.block < w.heap.size := by
  apply Classical.byContradiction
  intro hn
  have h1 : w.heap[x.block]? = none := by simp; omega
  simp [World.cell?, h1] at h

theorem Bytes.below {w w' : World} {x : Addr} {zs : List Int} (h : Bytes w x zs) (hb : Below w.heap.size w w') : Bytes w' x zs := fun i hi => (hb.cell (lt_of_cell' (h i hi))).trans (h i hi)

theorem clone_nil (len cap : Nat) (w : World) :
    Calls Yba.prog 9 #[.slice none len cap] w fun e w' => e = .returned (.slice none 0 0) ∧ w' = w := by
  have hq := eql74
  go_enter Yba.func9, Yba.ntmps9
  go_wp2
  go_ret
  exact ⟨rfl, rfl⟩

set_option maxRecDepth 100000 in
theorem clone_some (x : Addr) (cap : Nat) (zs : List Int) (w : World) (hl : zs.length ≤ 4096) (hb : Bytes w x zs) :
    Calls Yba.prog 9 #[.slice (some x) zs.length cap] w fun e w' => ∃ qa qc, e = .returned (.slice qa zs.length qc) ∧ w'.ownsRow w.heap.size 5 1 (.slice qa zs.length qc) zs.length (zs.map (Value.int .u8)) ∧ Kept [] w w' := by
  obtain ⟨i0, hi0, hz0, hz1, hz2⟩ := info_parts Yba.info5
  have HI0 := hide hi0
  have HZ0 := hide hz0
  have HZ1 := hide hz1
  have HZ2 := hide hz2
  have hb1 : Hid (∀ j u, (zs.map (Value.int .u8))[j]? = some u → (w.alloc (.cells #[] 5)).cell? (x.add j) = some u) := by
    intro j u hj
    have hc := hb.cells j u hj
    rw [World.cell?_alloc_lt _ _ _ (lt_of_cell' hc)]
    exact hc
  have hO0 : Hid ((w.alloc (.cells #[] 5)).ownsRow w.heap.size 5 1 (.slice (some ⟨w.heap.size, 0, none⟩) 0 0) 0 []) := by
    refine ⟨rfl, .inr ⟨w.heap.size, 0, #[], rfl, Nat.le_refl _, ?_, ?_⟩⟩
    · exact heap_alloc_new w _
    · simp [maxLen]
  have h1 : Hid (∀ u ∈ zs.map (Value.int .u8), u.oneCell' = true) := by
    intro u hu
    simp at hu
    obtain ⟨z, _, rfl⟩ := hu
    rfl
  have HL := hide hl
  have hq := eql74
  clear hi0 hz0 hz1 hz2 hb hl
  go_enter Yba.func9, Yba.ntmps9
  go_wp2_with (at_builtin; refine wpList_append_own2 _ rfl (.tmp 5) (.tmp 6) 74 rfl w.heap.size 5 i0 (.int .u8 0) 1 1 Yba.underlying74 HI0.out HZ0.out HZ1.out HZ2.out rfl (by decide) (.slice (some ⟨w.heap.size,0,none⟩) 0 0) 0 [] rfl hO0.out x zs.length cap (zs.map (Value.int .u8)) rfl (by simp) (by exact hb1.out) h1.out (by have := HL.out; unfold maxLen; omega) (by have := HL.out; omega) (by simp) ?_)
  intro v' w' h2 h3 h4
  obtain ⟨qa, qc, rfl⟩ := own_shape h2
  have H2 := hide h2
  have HK : Hid (Kept [] w w') := by
    refine ⟨h3.os, h3.tape, h3.output, ?_, fun k hk _ => ?_⟩
    · have := h3.size; simp at this; omega
    · rw [h3.block k (by simp; omega) (fun e => by simp [Value.ownBlock] at e; omega)]
      exact Below.heap_alloc _ _ _ hk
  clear h2 h3 h4 hb1 hO0 h1 HI0 HZ0 HZ1 HZ2
  go_wp2
  go_ret
  exact ⟨_, _, rfl, H2.out, HK.out⟩

set_option maxRecDepth 100000 in
theorem equal_zero (a b : Option Addr) (w : World) (c1 c2 : Nat) : Calls Yba.prog 14 #[.slice a 0 c1, .slice b 0 c2] w fun e w' => e = .returned (.bool true) ∧ ∃ k, w' = w.drewN k := by
  go_enter Yba.func14, Yba.ntmps14
  go_wp2
  refine wp_loop_rounds 1 ?_
  rw [rounds_succ]
  go_wp2
  go_ret
  exact ⟨rfl, 0, rfl⟩

set_option maxRecDepth 100000 in
theorem equal_same (x y : Addr) (zs : List Int) (n c1 c2 : Nat) (w : World) (hn : zs.length = n) (hn2 : n ≤ 4096) (hx : Bytes w x zs) (hy : Bytes w y zs) :
    Calls Yba.prog 14 #[.slice (some x) n c1, .slice (some y) n c2] w fun e w' => e = .returned (.bool true) ∧ ∃ k, w' = w.drewN k := by
  have HX := hide hx
  have HY := hide hy
  have HN := hide hn
  clear hx hy hn
  go_enter Yba.func14, Yba.ntmps14
  go_wp2
  go_loopw [13] (fun t wx => ∃ i k : Nat, i ≤ n ∧ t = .int .i64 i ∧ wx = w.drewN k) (fun t _ => n - (intOf t).toNat)
  case atStart => exact ⟨0, 0, Nat.zero_le _, rfl, rfl⟩
  case round =>
    obtain ⟨i, k, hi, rfl, rfl⟩ := hrel
    by_cases hlt : i < n
    · have hc1 : w.cell? (x.add i) = some (.int .u8 (zs.getD i 0)) := HX.out i (by have := HN.out; omega)
      have hc2 : w.cell? (y.add i) = some (.int .u8 (zs.getD i 0)) := HY.out i (by have := HN.out; omega)
      go_wp2
      go_quiet (fail)
      go_wp2
      go_roundw
      case rel => exact ⟨i + 1, _, by omega, by go_num, rfl⟩
      case measure => simp [intOf]; omega
    · obtain rfl : n = i := by omega
      go_wp2
      go_ret
      exact ⟨rfl, _, rfl⟩

end Go.Proofs.Ybulkbtow
