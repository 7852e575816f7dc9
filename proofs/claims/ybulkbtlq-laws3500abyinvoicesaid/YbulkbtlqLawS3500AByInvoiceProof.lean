/-
  THE STATEMENT's PROOF: the frame in the kit's own way at this function's number and types, the walk taken in.
-/
import Derived.Test.YbulkbtlqRows
import Derived.Test.YbulkbtlqOpen
import Derived.Test.YbulkbtlqLaw0
import Derived.WalkKit
import Derived.ProofKit
import Derived.OpenShut
import Derived.ShutString
import Derived.ChangeOld
import Derived.Below
namespace Go.Proofs.Ybulkbtlq.lawS3500AByInvoice
open Go.ChangeShapes Go.WideShapes Go.ChangeAt Go.RowKit
set_option linter.unusedVariables false

theorem own : ownKnob Yba.prog.godebug = none := by kernel_rfl
theorem laidOut : laidOutB Yba.prog = true := by kernel_rfl

theorem walk (a0 a1 a2 : Option Addr) (len0 cap0 len1 cap1 len2 cap2 : Nat) (iv : Nat → Int) (kp : Nat → Bool) (ky : Nat → Int) (nr : Int) (w : World) (h0 : Row w a0 len0 (fun i => .int .u8 (iv i))) (h0' : ∀ i, i < len0 → (Lit.int .u8 (iv i)).wf = true)
    (h1 : Row w a1 len1 (fun i => .bool (kp i))) (h2 : Row w a2 len2 (fun i => .int .i8 (ky i))) (h2' : ∀ i, i < len2 → (Lit.int .i8 (ky i)).wf = true) (hn : (Lit.int .u8 nr).wf = true) :
    Calls Yba.prog 3 #[.slice a0 len0 cap0, .slice a1 len1 cap1, .slice a2 len2 cap2, .int .u8 nr] w fun e w' => e = .returned (.bool true) ∧ Below w.heap.size w w' := by
  exact law_walk a0 a1 a2 len0 cap0 len1 cap1 len2 cap2 iv kp ky nr w h0 (fun i hi => bounds_u8 (h0' i hi)) h1 h2 (fun i hi => bounds_i8 (h2' i hi)) (bounds_u8 hn)

set_option maxRecDepth 100000 in
theorem lifted (os : Os) (started : os.Started) (H : Type) (enc : TypeId × Value → H) :
    ReturnsInHanded {} Yba.checked os 3 .any (Rows.lawS3500AByInvoiceSpec.pre6 enc Yba.prog Yba.f3 Rows.lawS3500AByInvoiceRow.domain false) (Rows.lawS3500AByInvoiceSpec.post enc Yba.prog Yba.f3 false true false false) := by
  refine returnsInHanded_of_change (C := Yba.checked) own started (by kernel_rfl) Yba.func3
    (ChangeSpec.witness6 (enc := enc) (C := Yba.checked) false ⟨#[], #[.slice none 0 0, .slice none 0 0, .slice none 0 0, .int .u8 0], []⟩ 8 (by kernel_rfl) (by kernel_rfl) (by kernel_rfl) (by kernel_rfl)) ?_
  intro W base args ds gs before hval0 hW hcnd _
  have hval : ∀ (j : Nat) t v, Yba.f3.params[j]? = some t → args[j]? = some v → Value.okWide Yba.prog W .any base t v := hval0
  have hW' := hW
  obtain ⟨p, q, hA0, hV, rfl, hfz, hnd⟩ := hW
  have hA : DataW.TrodAll enc Yba.prog W 0 (fun _ => true) true Yba.f3.params.toList args.toList ds p := hA0
  rw [Yba.params3] at hA hval
  obtain ⟨v0, vs0, d0, ds0, p0, q0, hargs, rfl, rfl, h0, r0⟩ := trodAll_cons hA
  obtain ⟨v1, vs1, d1, ds1, p1, q1, rfl, rfl, rfl, h1, r1⟩ := trodAll_cons r0
  obtain ⟨v2, vs2, d2, ds2, p2, q2, rfl, rfl, rfl, h2, r2⟩ := trodAll_cons r1
  obtain ⟨v3, vs3, d3, ds3, p3, q3, rfl, rfl, rfl, h3, r3⟩ := trodAll_cons r2
  obtain ⟨rfl, rfl, rfl⟩ := trodAll_nil r3
  obtain rfl : args = #[v0, v1, v2, v3] := by cases args; simp_all
  obtain ⟨rfl, rfl⟩ := trodVars_none hV
  obtain ⟨a0, len0, cap0, rfl⟩ := okWide_slice Yba.underlying22 (hval 0 22 v0 rfl rfl)
  obtain ⟨a1, len1, cap1, rfl⟩ := okWide_slice Yba.underlying23 (hval 1 23 v1 rfl rfl)
  obtain ⟨a2, len2, cap2, rfl⟩ := okWide_slice Yba.underlying24 (hval 2 24 v2 rfl rfl)
  have k0 := h0
  have k1 := h1
  have k2 := h2
  have lt0 : ∀ x ∈ p0, x.block < W.heap.size := by obtain ⟨m, hm⟩ := k0; exact DataW.trod_lt m _ _ _ hm
  have lt1 : ∀ x ∈ p1, x.block < W.heap.size := by obtain ⟨m, hm⟩ := k1; exact DataW.trod_lt m _ _ _ hm
  have lt2 : ∀ x ∈ p2, x.block < W.heap.size := by obtain ⟨m, hm⟩ := k2; exact DataW.trod_lt m _ _ _ hm
  obtain ⟨iv, w0, w0'⟩ : ∃ f : Nat → Int, Row W a0 len0 (fun i => .int .u8 (f i)) ∧ ∀ i, i < len0 → (Lit.int .u8 (f i)).wf = true := by
    obtain ⟨fuel, hf⟩ := h0
    exact open_nums Yba.underlying22 Yba.underlying5 (by kernel_rfl) hf
  obtain ⟨kp, w1⟩ : ∃ f : Nat → Bool, Row W a1 len1 (fun i => .bool (f i)) := by
    obtain ⟨fuel, hf⟩ := h1
    exact open_bools Yba.underlying23 Yba.underlying4 (by kernel_rfl) hf
  obtain ⟨ky, w2, w2'⟩ : ∃ f : Nat → Int, Row W a2 len2 (fun i => .int .i8 (f i)) ∧ ∀ i, i < len2 → (Lit.int .i8 (f i)).wf = true := by
    obtain ⟨fuel, hf⟩ := h2
    exact open_nums Yba.underlying24 Yba.underlying50 (by kernel_rfl) hf
  obtain ⟨nr, rfl, rfl, rfl, w3⟩ := open_int Yba.underlying5 (hval 3 5 v3 rfl rfl) h3
  clear hA0 hval0
  refine (walk a0 a1 a2 len0 cap0 len1 cap1 len2 cap2 iv kp ky nr W w0 w0' w1 w2 w2' w3).mono fun e W' ⟨he, bel⟩ => ?_
  subst he
  exact ⟨_, rfl, _, _, _, [], _, [], hW', trodAll_mk1 (shut_bool Yba.underlying4 _), (trodAll_cons_mk (Below.trod laidOut (by kernel_rfl) (of_decide_eq_true (by kernel_rfl)) k0 bel lt0) (trodAll_cons_mk (Below.trod laidOut (by kernel_rfl) (of_decide_eq_true (by kernel_rfl)) k1 bel lt1) (trodAll_cons_mk (Below.trod laidOut (by kernel_rfl) (of_decide_eq_true (by kernel_rfl)) k2 bel lt2) (trodAll_cons_mk (shut_int Yba.underlying5 w3) trodAll_mk0)))), rfl, bel.frame _, fun h => by cases h⟩

theorem over : Rows.lawS3500AByInvoiceRow.holds Yba.pinned (OpenSpec.ofChange Rows.lawS3500AByInvoiceSpec) :=
  OpenClaim.holds_of_wide 3 Yba.f3 rfl rfl rfl rfl rfl rfl rfl ⟨rfl, rfl, rfl, rfl, rfl⟩ rfl rfl rfl rfl rfl (by kernel_rfl) Yba.func3 (by kernel_rfl)
    (of_decide_eq_true (by kernel_rfl)) (by unfold Func.isWrapper; first | (rw [if_pos (by decide +kernel)]; kernel_rfl) | (rw [if_neg (by decide +kernel)]; exact ⟨rfl, rfl⟩))
    (fun os started H enc _ => lifted os started H enc)

/-- ████ THE STATEMENT ████ -/
theorem proved : Rows.LawS3500AByInvoiceSaid := over
#print axioms proved
end Go.Proofs.Ybulkbtlq.lawS3500AByInvoice
