/-
  byInvoice whole.
-/
import Derived.Test.YbulkbtlqBy1
namespace Go.Proofs.Ybulkbtlq
open Go.RowKit
set_option linter.unusedVariables false

/-- What byInvoice hands back. -/
def ByOut (D : Ins) (count : Nat) (e : Ending) (w' : World) : Prop :=
  (count = 0 ∧ e = .returned (.agg #[.func (.func 7) #[] #[], .slice none 0 0, .slice none 0 0])) ∨
  (0 < count ∧ ∃ T ge go f3 f1', T = start D.K D.I count D.n ∧ Fn w' go T f3 ∧ Fn w' ge D.n f1' ∧ (∀ i, i < D.n → f1' i = ((start D.K D.I count (i + 1) : Nat) : Int)) ∧ Grouped D.κ D.K D.I count D.n D.n f3 ∧
    e = .returned (.agg #[.func (.func 7) #[] #[], .slice (some ⟨go, 0, none⟩) T T, .slice (some ⟨ge, 0, none⟩) D.n D.n]))

set_option maxRecDepth 100000 in
set_option maxHeartbeats 4000000 in
theorem by_any (D : Ins) (B count : Nat) (w : World) (hE : Env D B w) (hc0 : count = D.len0) (hc5 : count ≤ 512) :
    Calls Yba.prog 13 #[.int .i64 (D.n : Int), .int .i64 (count : Int), .func (.func 7) #[] #[], .func (.func 8) #[] #[.pointer (some D.pkeep)], .func (.func 9) #[] #[.pointer (some D.pinv), .pointer (some D.pn)], .func (.func 10) #[] #[.pointer (some D.pkey)]] w fun e w' => Below B w w' ∧ ByOut D count e w' := by
  have hn8 : D.n ≤ 8 := hE.n8
  have hbd := hE.bd
  have HE := hide hE
  have HC0 := hide hc0
  have hbelow0 := Below.refl B w
  clear hE hc0
  go_enter Yba.func13, Yba.ntmps13
  refine wp_seq_rest fun K hK => ?_
  go_wp2
  refine wp_seq_rest fun K hK => ?_
  go_wp2
  have hbel : Below B w ((((w.alloc (.cells #[.func (.func 7) #[] #[]] 25)).alloc (.cells #[.func (.func 10) #[] #[.pointer (some D.pkey)]] 27)).alloc (.cells #[.nilFunc, .slice none 0 0, .slice none 0 0] 31)).alloc (.cells #[.func (.func 7) #[] #[], .slice none 0 0, .slice none 0 0] 31)) := (((hbelow0.alloc hbd _).alloc (by simp; omega) _).alloc (by simp; omega) _).alloc (by simp; omega) _
  have hM : Made D B w.heap.size (w.heap.size + 1) (w.heap.size + 1 + 1) (w.heap.size + 1 + 1 + 1) [.func (.func 7) #[] #[], .slice none 0 0, .slice none 0 0] ((((w.alloc (.cells #[.func (.func 7) #[] #[]] 25)).alloc (.cells #[.func (.func 10) #[] #[.pointer (some D.pkey)]] 27)).alloc (.cells #[.nilFunc, .slice none 0 0, .slice none 0 0] 31)).alloc (.cells #[.func (.func 7) #[] #[], .slice none 0 0, .slice none 0 0] 31)) := by
    have b1 : Blk (w.alloc (.cells #[.func (.func 7) #[] #[]] 25)) w.heap.size 25 [.func (.func 7) #[] #[]] := Blk.new w 25 _
    have b2 : Blk ((w.alloc (.cells #[.func (.func 7) #[] #[]] 25)).alloc (.cells #[.func (.func 10) #[] #[.pointer (some D.pkey)]] 27)) (w.heap.size + 1) 27 [.func (.func 10) #[] #[.pointer (some D.pkey)]] := by
      have := Blk.new (w.alloc (.cells #[.func (.func 7) #[] #[]] 25)) 27 [.func (.func 10) #[] #[.pointer (some D.pkey)]]
      simpa using this
    have b3 : Blk (((w.alloc (.cells #[.func (.func 7) #[] #[]] 25)).alloc (.cells #[.func (.func 10) #[] #[.pointer (some D.pkey)]] 27)).alloc (.cells #[.nilFunc, .slice none 0 0, .slice none 0 0] 31)) (w.heap.size + 1 + 1) 31 [.nilFunc, .slice none 0 0, .slice none 0 0] := by
      have := Blk.new ((w.alloc (.cells #[.func (.func 7) #[] #[]] 25)).alloc (.cells #[.func (.func 10) #[] #[.pointer (some D.pkey)]] 27)) 31 [.nilFunc, .slice none 0 0, .slice none 0 0]
      simpa using this
    have b4 : Blk ((((w.alloc (.cells #[.func (.func 7) #[] #[]] 25)).alloc (.cells #[.func (.func 10) #[] #[.pointer (some D.pkey)]] 27)).alloc (.cells #[.nilFunc, .slice none 0 0, .slice none 0 0] 31)).alloc (.cells #[.func (.func 7) #[] #[], .slice none 0 0, .slice none 0 0] 31)) (w.heap.size + 1 + 1 + 1) 31 [.func (.func 7) #[] #[], .slice none 0 0, .slice none 0 0] := by
      have := Blk.new (((w.alloc (.cells #[.func (.func 7) #[] #[]] 25)).alloc (.cells #[.func (.func 10) #[] #[.pointer (some D.pkey)]] 27)).alloc (.cells #[.nilFunc, .slice none 0 0, .slice none 0 0] 31)) 31 [.func (.func 7) #[] #[], .slice none 0 0, .slice none 0 0]
      simpa using this
    exact ⟨((b1.alloc _).alloc _).alloc _, (b2.alloc _).alloc _, ⟨_, _, _, b3.alloc _⟩, b4, by omega, by omega, by omega, by omega, by omega⟩
  have hE4 := HE.out.below hbel
  have HM := hide hM
  have HE4 := hide hE4
  have HB := hide hbel
  clear HE hM hE4 hbel hbelow0
  by_cases h0 : count = 0
  · subst h0
    have HR := hide (show ∀ w', Below B ((((w.alloc (.cells #[.func (.func 7) #[] #[]] 25)).alloc (.cells #[.func (.func 10) #[] #[.pointer (some D.pkey)]] 27)).alloc (.cells #[.nilFunc, .slice none 0 0, .slice none 0 0] 31)).alloc (.cells #[.func (.func 7) #[] #[], .slice none 0 0, .slice none 0 0] 31)) w' → Below B w w' ∧ ByOut D 0 (.returned (.agg #[.func (.func 7) #[] #[], .slice none 0 0, .slice none 0 0])) w' from fun w' h => ⟨HB.out.trans h, .inl ⟨rfl, rfl⟩⟩)
    obtain ⟨v0, v1, v2, hr⟩ := HM.out.r
    have g0 := HM.out.g.at 0
    have g1 := HM.out.g.at 1
    have g2 := HM.out.g.at 2
    have r0 := hr.at 0
    have r1 := hr.at 1
    have r2 := hr.at 2
    have z0 := hr.free 0
    have z1 := hr.free 1
    have z2 := hr.free 2
    simp only [List.getElem?_cons_zero, List.getElem?_cons_succ] at g0 g1 g2 r0 r1 r2
    have hrB := HM.out.rB
    clear hr HM HE4 HB
    generalize ((((w.alloc (.cells #[.func (.func 7) #[] #[]] 25)).alloc (.cells #[.func (.func 10) #[] #[.pointer (some D.pkey)]] 27)).alloc (.cells #[.nilFunc, .slice none 0 0, .slice none 0 0] 31)).alloc (.cells #[.func (.func 7) #[] #[], .slice none 0 0, .slice none 0 0] 31)) = W at *
    generalize w.heap.size + 1 + 1 + 1 = bg at *
    generalize w.heap.size + 1 + 1 = br at *
    dsimp only [Rest]
    go_wp2
    exact bodyPost_ret (v := .agg #[.func (.func 7) #[] #[], .slice none 0 0, .slice none 0 0]) (by simp [results, Yba.results13, go_sem, r0, r1, r2]) rfl (HR.out _ ((((Below.refl B W).setCell (p := ⟨br, 0, none⟩) hrB _).setCell (p := ⟨br, 1, none⟩) hrB _).setCell (p := ⟨br, 2, none⟩) hrB _))
  · have hI : ¬ (count : Int) = 0 := by omega
    have HFIN := hide (show ∀ T ge go f3 f1' w3, T = start D.K D.I count D.n → Fn w3 go T f3 → Fn w3 ge D.n f1' → (∀ i, i < D.n → f1' i = ((start D.K D.I count (i + 1) : Nat) : Int)) → Grouped D.κ D.K D.I count D.n D.n f3 → Below B w w3 → Below B w w3 ∧ ByOut D count (.returned (.agg #[.func (.func 7) #[] #[], .slice (some ⟨go, 0, none⟩) T T, .slice (some ⟨ge, 0, none⟩) D.n D.n])) w3 from
      fun T ge go f3 f1' w3 h0' h1 h2 h3 h4 h5 => ⟨h5, .inr ⟨by omega, T, ge, go, f3, f1', h0', h1, h2, h3, h4, rfl⟩⟩)
    generalize ((((w.alloc (.cells #[.func (.func 7) #[] #[]] 25)).alloc (.cells #[.func (.func 10) #[] #[.pointer (some D.pkey)]] 27)).alloc (.cells #[.nilFunc, .slice none 0 0, .slice none 0 0] 31)).alloc (.cells #[.func (.func 7) #[] #[], .slice none 0 0, .slice none 0 0] 31)) = W at *
    generalize w.heap.size + 1 + 1 + 1 = bg at *
    generalize w.heap.size + 1 + 1 = br at *
    generalize w.heap.size + 1 = bc at *
    generalize w.heap.size = bd at *
    refine wp_seq_rest fun K hK => ?_
    go_wp2
    exact by1 _ _ _ _ _ _ _ _ _ _ _ _ _ _ _ _ _ _ _ _ _ _ _ _ _ _ _ _ _ _ _ _ _ _ _ _ _ _ _ _ _ _ _ _ _ _ _ _ _ _ _ _ _ _ _ _ _ _ _ _ _ _ _ _ _ _ _ _ _ _ _ _ _ _ _ _ _ _ _ _ _ _ _ _ _ _ _ _ _ _ _ _ _ _ _ _ _ _ _ _ _ _ _ _ _ _ _ _ _ _ _ _ _ _ _ _ D B count bd bc br bg w W _ _ rfl HE4.out HB.out HM.out HC0.out hc5 HFIN.out

end Go.Proofs.Ybulkbtlq
