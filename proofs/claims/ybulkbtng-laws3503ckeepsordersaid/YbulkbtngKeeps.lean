/-
  LawS3503CKeepsOrder: the walk behind build.
-/
import Derived.Test.YbulkbtngLayout
namespace Go.Proofs.Ybulkbtng
open Go.RowKit
set_option linter.unusedVariables false

theorem Kept.cell {S : List Nat} {w w' : World} (h : Kept S w w') {b : Nat} (hb : b < w.heap.size) (hS : b ∉ S) (o : Nat) : w'.cell? ⟨b, o, none⟩ = w.cell? ⟨b, o, none⟩ :=
  World.cell?_of_block (w := w) (h.block b hb hS)

set_option maxRecDepth 100000 in
theorem keeps_big (a : Option Addr) (len cap : Nat) (x : Int) (w : World) (h : 1024 < len) :
    Calls Yba.prog 4 #[.slice a len cap, .int .i64 x] w fun e w' => e = .returned (.bool true) ∧ Below w.heap.size w w' := by
  have hg : (1024 : Int) < (len : Int) := by omega
  go_enter Yba.func4, Yba.ntmps4
  go_wp2
  go_ret
  exact ⟨rfl, Below.refl _ _⟩

/-- The loop's head: i of the queue's values have come out. -/
def PInv (w w4 wr : World) (q : List Int) (M : Nat) (bv : Value) (i : Nat) : Prop :=
  ∃ head xs, Fifo wr w.heap.size M head xs (q.drop i) bv ∧ Kept (own w.heap.size bv) w4 wr

set_option maxRecDepth 100000 in
set_option maxHeartbeats 2000000 in
theorem keeps_small (a : Option Addr) (len cap : Nat) (x : Int) (w : World) (h : ¬ 1024 < len) (hB : Hid (Built w (.slice a len cap))) :
    Calls Yba.prog 4 #[.slice a len cap, .int .i64 x] w fun e w' => e = .returned (.bool true) ∧ Below w.heap.size w w' := by
  have hg : ¬ (1024 : Int) < (len : Int) := by omega
  go_enter Yba.func4, Yba.ntmps4
  go_wp2_with fail
  refine hB.out.mono ?_
  rintro e w1 ⟨mv, q, xs, L, head, bv, rfl, hq, hL, hF, ⟨ma, mc, hmv, hms⟩, hbel⟩
  rw [hmv]
  clear hmv hB
  have HF := hide hF
  have HBEL := hide hbel
  have HMS := hide hms
  have hNlt := hF.lt
  clear hF hbel hms
  go_wp2_with fail
  refine (fifo_grow w1 w.heap.size L head xs q bv HF.out hL).mono ?_
  rintro e w4 ⟨rfl, hk4, hs4, M, hM, hF4⟩
  have HF4 := hide hF4
  have hM2 : M ≤ 4096 := by omega
  have hMS4 : q ≠ [] → ∃ b o, ma = some ⟨b, o, none⟩ ∧ b ∉ own w.heap.size (.slice (some ⟨w1.heap.size, 0, none⟩) M M) ∧ b < w4.heap.size ∧ ∀ i, i < q.length → w4.cell? ⟨b, o + i, none⟩ = some (.int .i64 (q.getD i 0)) := by
    intro hne
    obtain ⟨b, o, ha, hbo, hbl, hbc⟩ := HMS.out hne
    have hbN : b ≠ w.heap.size := fun e => hbo (by simp [own, e])
    refine ⟨b, o, ha, ?_, by omega, fun i hi => ?_⟩
    · simp [own, Value.ownBlock]
      omega
    · rw [hk4.cell hbl (by simp; exact hbN)]
      exact hbc i hi
  have HMS4 := hide hMS4
  have HB4 := hide (HBEL.out.trans (hk4.toBelow (by omega) (by simp)))
  clear hF4 hk4 hMS4 HMS HBEL HF hM
  go_wp2_with fail
  refine (fifo_len w4 w.heap.size M 0 _ q _ HF4.out).mono ?_
  rintro e w5 ⟨rfl, rfl⟩
  go_wp2
  have hP0 : Hid (PInv w w5 w5 q M (.slice (some ⟨w1.heap.size, 0, none⟩) M M) 0) := ⟨0, _, by simpa using HF4.out, Kept.refl _ _⟩
  clear HF4
  go_loopw [7] (fun t wr => ∃ i : Nat, i ≤ q.length ∧ t = .int .i64 i ∧ PInv w w5 wr q M (.slice (some ⟨w1.heap.size, 0, none⟩) M M) i) (fun t _ => q.length - (intOf t).toNat)
  case atStart => exact ⟨0, Nat.zero_le _, rfl, hP0.out⟩
  case round =>
    clear hP0
    obtain ⟨i, hi, rfl, head', xs', hFr, hKr⟩ := hrel
    by_cases hlt : i < q.length
    · obtain ⟨b, o, ha, hbo, hbl, hbc⟩ := HMS4.out (fun e => by rw [e] at hlt; simp at hlt)
      subst ha
      have hcw := hKr.cell hbl hbo (o + i)
      rw [hbc i hlt] at hcw
      have hbr : b < wr.heap.size := by have := hKr.size; omega
      have hdr := drop_cons q i hlt
      rw [hdr] at hFr
      generalize q.getD i 0 = u at *
      have HFr := hide hFr
      have HKr := hide hKr
      have hltI : (i : Int) < (q.length : Int) := by omega
      have hI0 : (0 : Int) ≤ (i : Int) := by omega
      clear hFr hKr hdr hbc
      go_wp2
      go_region_held3 (fun w' => w'.cell? ⟨b, o + i, none⟩ = some (.int .i64 u)) (go_keep) (first | (go_at_call 8; refine (fifo_pop _ w.heap.size M head' xs' (q.drop (i + 1)) _ u HFr.out.drew (by omega)).mono ?_; rintro e w6 ⟨rfl, hk6, hF6⟩; have hc6 := (hk6.cell hbr hbo (o + i)).trans hcw))
      have hR : Hid (PInv w w5 w6 q M (.slice (some ⟨w1.heap.size, 0, none⟩) M M) (i + 1)) := ⟨_, _, hF6, HKr.out.drew.trans hk6⟩
      clear hk6 hF6 hc6 HFr HKr hcw
      go_wp2
      go_roundw
      case rel => exact ⟨i + 1, by omega, by go_num, hR.out⟩
      case measure => simp [intOf]; omega
    · obtain rfl : q.length = i := by omega
      rw [List.drop_length] at hFr
      have HFr := hide hFr
      have HKr := hide hKr
      have hwr : w.heap.size < wr.heap.size := hFr.lt
      clear hFr hKr
      go_wp2_with fail
      refine (fifo_len wr w.heap.size M head' xs' [] _ HFr.out).mono ?_
      rintro e w6 ⟨rfl, rfl⟩
      go_wp2_with fail
      refine (fifo_push w6 w.heap.size M head' xs' [] _ x HFr.out hM2 (by simp)).mono ?_
      rintro e w7 ⟨rfl, hk7, L7, head7, xs7, bv7, hL7, _, hF7, hbv7⟩
      have HF7 := hide hF7
      have HB7 := hide ((HB4.out.trans (HKr.out.toBelow (by have := HB4.out.size; omega) (by simp [own, Value.ownBlock]; omega))).trans (hk7.toBelow (by omega) (by simp [own, Value.ownBlock]; omega)))
      clear hk7 hF7 hbv7 HFr HKr
      go_wp2_with fail
      refine (fifo_len w7 w.heap.size L7 head7 xs7 ([] ++ [x]) _ HF7.out).mono ?_
      rintro e w8 ⟨rfl, rfl⟩
      go_wp2_with fail
      refine (fifo_pop w8 w.heap.size L7 head7 xs7 [] _ x HF7.out (by omega)).mono ?_
      rintro e w9 ⟨rfl, hk9, hF9⟩
      have HB9 := hide (HB7.out.trans (hk9.toBelow (by have := HB7.out.size; omega) (fun k hk => (HF7.out.own_lt k hk).1)))
      clear hk9 hF9
      go_wp2
      go_ret
      exact ⟨rfl, HB9.out⟩

end Go.Proofs.Ybulkbtng
