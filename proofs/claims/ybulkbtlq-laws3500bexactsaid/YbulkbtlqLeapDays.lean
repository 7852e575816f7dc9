/-
  DaysInLeapYearsSince and the law's own count of leap days: both come to one plain count.
-/
import Derived.Test.YbulkbtlqCivil
namespace Go.Proofs.Ybulkbtlq
open Go.RowKit
set_option linter.unusedVariables false

/-- The leap days among e + 1 .. d. -/
def leapC (e d : Int) : Int := cntF (d - e).toNat (yearOf (e + 1)) (e + 1) d

/-- What a loop's head holds: the days counted so far and those that are left make C. -/
def LInv (C e0 d y e c : Int) : Prop :=
  (∃ n : Nat, d - e ≤ n ∧ c + cntF n y (e + 1) d = C) ∧ e0 ≤ e ∧ (e ≤ d ∨ e = e0) ∧ (e < d → jan y ≤ e + 1 ∧ e + 1 < jan (y + 1)) ∧ 0 ≤ c ∧ c ≤ e - e0

theorem LInv.start (e0 d : Int) : LInv (leapC e0 d) e0 d (yearOf (e0 + 1)) e0 0 :=
  ⟨⟨(d - e0).toNat, by omega, by simp [leapC]⟩, by omega, .inr rfl, fun _ => year_law (e0 + 1), by omega, by omega⟩

theorem LInv.year {C e0 d y e c : Int} (h : LInv C e0 d y e c) (hlt : e < d) (h0 : -800000 ≤ e0) (h1 : d ≤ 1600000) : -900 ≤ y ∧ y ≤ 7600 := by
  obtain ⟨_, a, b, k, _, _⟩ := h
  obtain ⟨k1, k2⟩ := k hlt
  have s := jan_succ y
  have l := yl_bd y
  exact jan_bd y (by omega) (by omega)

/-- One year on: the year's days up to 'en' are counted. -/
theorem LInv.step {C e0 d y e c en : Int} (h : LInv C e0 d y e c) (hlt : e < d) (hen : en = min d (jan (y + 1) - 1)) : LInv C e0 d (y + 1) en (if lpB y then c + (en - e) else c) := by
  obtain ⟨⟨n, hn, hc⟩, a, b, k, c0, c1⟩ := h
  obtain ⟨k1, k2⟩ := k hlt
  obtain ⟨m, rfl⟩ : ∃ m, n = m + 1 := ⟨n - 1, by omega⟩
  rw [cntF_go m y (e + 1) d (by omega), ← hen] at hc
  have s := jan_succ (y + 1)
  have l := yl_bd (y + 1)
  refine ⟨⟨m, by omega, ?_⟩, by omega, .inl (by omega), fun hd => by omega, ?_, ?_⟩
  · split <;> simp_all <;> omega
  · split <;> omega
  · split <;> omega

theorem LInv.done {C e0 d y e c : Int} (h : LInv C e0 d y e c) (hge : ¬ e < d) : c = C := by
  obtain ⟨⟨n, hn, hc⟩, _⟩ := h
  rw [cntF_stop n y (e + 1) d (by omega)] at hc
  omega

set_option maxHeartbeats 1000000 in
theorem leapSince_any (d e0 : Int) (w : World) (h0 : -800000 ≤ e0) (h1 : e0 ≤ 800000) (h2 : -1600000 ≤ d) (h3 : d ≤ 1600000) :
    Calls Yba.prog 22 #[.int .i64 d, .int .i64 e0] w fun e w' => e = .returned (.int .i64 (leapC e0 d)) ∧ w' = w := by
  have hst := LInv.start e0 d
  generalize leapC e0 d = C at *
  have hy := hide (year_any (e0 + 1) w (by omega) (by omega))
  generalize yearOf (e0 + 1) = y0 at *
  have HST := hide hst
  clear hst
  go_enter Yba.func22, Yba.ntmps22
  go_wp2_with fail
  refine hy.out.mono ?_
  rintro e w' ⟨rfl, rfl⟩
  go_wp2
  go_loop [1, 5, 6] (fun a b c => ∃ e q y : Int, LInv C e0 d y e q ∧ a = .int .i64 e ∧ b = .int .i64 q ∧ c = .int .i64 y) (fun a _ _ => (d - intOf a).toNat)
  case atStart => exact ⟨_, _, _, HST.out, rfl, rfl, rfl⟩
  case round =>
    obtain ⟨e, q, y, hI, rfl, rfl, rfl⟩ := hrel
    have HI := hide hI
    by_cases hlt : e < d
    · have hyr := hI.year hlt h0 h3
      obtain ⟨_, a0, a1, a2, c0, c1⟩ := hI
      obtain ⟨j0, j1⟩ := a2 hlt
      have hsu := jan_succ y
      have hyl := yl_bd y
      have hN := hide (newYear_any (y + 1) w' (by omega) (by omega))
      have hL := hide (isLeap_any y w' (by omega) (by omega))
      obtain ⟨J, hJ⟩ : ∃ J, jan (y + 1) = J := ⟨_, rfl⟩
      rw [hJ] at hN j1 hsu
      have hJb : -900000 ≤ J ∧ J ≤ 1700000 := by omega
      have HJ := hide hJ
      clear hJ hsu hyl j0 a2 a1
      by_cases hm : d ≤ J - 1
      · have hS := hide (HI.out.step hlt (en := d) (by rw [HJ.out]; omega))
        cases hl : lpB y
        · rw [hl] at hL hS
          clear hl
          go_wp2_with fail
          refine hN.out.mono ?_
          rintro e1 w1 ⟨rfl, rfl⟩
          go_wp2_with fail
          refine hL.out.mono ?_
          rintro e1 w1 ⟨rfl, rfl⟩
          go_wp2
          go_round
          case rel => exact ⟨_, _, _, hS.out, rfl, rfl, rfl⟩
          case measure => simp [intOf]; omega
        · rw [hl] at hL hS
          clear hl
          have hD := hide (daysSince_any d e w' (by omega) (by omega) (by omega) (by omega))
          go_wp2_with fail
          refine hN.out.mono ?_
          rintro e1 w1 ⟨rfl, rfl⟩
          go_wp2_with fail
          refine hL.out.mono ?_
          rintro e1 w1 ⟨rfl, rfl⟩
          go_wp2_with fail
          refine hD.out.mono ?_
          rintro e1 w1 ⟨rfl, rfl⟩
          go_wp2
          go_round
          case rel => exact ⟨_, _, _, hS.out, rfl, rfl, rfl⟩
          case measure => simp [intOf]; omega
      · have hS := hide (HI.out.step hlt (en := J - 1) (by rw [HJ.out]; omega))
        cases hl : lpB y
        · rw [hl] at hL hS
          clear hl
          go_wp2_with fail
          refine hN.out.mono ?_
          rintro e1 w1 ⟨rfl, rfl⟩
          go_wp2_with fail
          refine hL.out.mono ?_
          rintro e1 w1 ⟨rfl, rfl⟩
          go_wp2
          go_round
          case rel => exact ⟨_, _, _, hS.out, rfl, rfl, rfl⟩
          case measure => simp [intOf]; omega
        · rw [hl] at hL hS
          clear hl
          have hD := hide (daysSince_any (J - 1) e w' (by omega) (by omega) (by omega) (by omega))
          go_wp2_with fail
          refine hN.out.mono ?_
          rintro e1 w1 ⟨rfl, rfl⟩
          go_wp2_with fail
          refine hL.out.mono ?_
          rintro e1 w1 ⟨rfl, rfl⟩
          go_wp2_with fail
          refine hD.out.mono ?_
          rintro e1 w1 ⟨rfl, rfl⟩
          go_wp2
          go_round
          case rel => exact ⟨_, _, _, hS.out, rfl, rfl, rfl⟩
          case measure => simp [intOf]; omega
    · clear hI
      go_wp2
      go_ret
      exact ⟨ret_int (HI.out.done (by omega)), rfl⟩

/-! ### the law's own count: 'zzs3500bleapdays' -/

/-- Its third loop's head: lo is the next day to count (past b where all are counted), s its year's 1 January. -/
def KInv (C a b y s lo c : Int) : Prop :=
  (∃ n : Nat, b + 1 - lo ≤ n ∧ c + cntF n y lo b = C) ∧ a + 1 ≤ lo ∧ s = jan y ∧ (s ≤ lo ∧ lo < jan (y + 1)) ∧ 0 ≤ c ∧ c ≤ lo - a - 1 ∧ c ≤ b - a ∧ jan y ≤ b + 366

theorem KInv.start (a b y : Int) (h : a < b) (h1 : jan y ≤ a + 1) (h2 : a + 1 < jan (y + 1)) : KInv (leapC a b) a b y (jan y) (a + 1) 0 := by
  have e : y = yearOf (a + 1) := jan_unique y (yearOf (a + 1)) (a + 1) h1 h2 (year_law (a + 1)).1 (year_law (a + 1)).2
  refine ⟨⟨(b - a).toNat, by omega, ?_⟩, by omega, rfl, ⟨h1, h2⟩, by omega, by omega, by omega, by omega⟩
  rw [e]
  simp [leapC]

theorem KInv.year {C a b y s lo c : Int} (h : KInv C a b y s lo c) (h0 : -800000 ≤ a) (h1 : b ≤ 1600000) : -900 ≤ y ∧ y ≤ 7600 := by
  obtain ⟨_, k0, rfl, ⟨k1, k2⟩, _, _, _, k3⟩ := h
  have s := jan_succ y
  have l := yl_bd y
  exact jan_bd y (by omega) (by omega)

theorem KInv.step {C a b y s lo c hi : Int} (h : KInv C a b y s lo c) (hlt : lo ≤ b) (hhi : hi = min b (jan (y + 1) - 1)) : KInv C a b (y + 1) (jan (y + 1)) (jan (y + 1)) (if lpB y then c + (hi - lo + 1) else c) := by
  obtain ⟨⟨n, hn, hc⟩, k0, rfl, ⟨k1, k2⟩, c0, c1, c2, k3⟩ := h
  obtain ⟨m, rfl⟩ : ∃ m, n = m + 1 := ⟨n - 1, by omega⟩
  rw [cntF_go m y lo b hlt, ← hhi] at hc
  have s := jan_succ (y + 1)
  have l := yl_bd (y + 1)
  have s' := jan_succ y
  have l' := yl_bd y
  have hc' : (if lpB y then c + (hi - lo + 1) else c) + cntF m (y + 1) (hi + 1) b = C := by
    split <;> simp_all <;> omega
  refine ⟨⟨m, by omega, ?_⟩, by omega, rfl, ⟨by omega, by omega⟩, ?_, ?_, ?_, by omega⟩
  · by_cases hb : b ≤ jan (y + 1) - 1
    · rw [cntF_stop m _ _ _ (by omega)]
      rw [cntF_stop m _ _ _ (by omega)] at hc'
      exact hc'
    · rw [show hi + 1 = jan (y + 1) by omega] at hc'
      exact hc'
  · split <;> omega
  · split <;> omega
  · split <;> omega

theorem KInv.done {C a b y s lo c : Int} (h : KInv C a b y s lo c) (hge : ¬ lo ≤ b) : c = C := by
  obtain ⟨⟨n, hn, hc⟩, _⟩ := h
  rw [cntF_stop n y lo b (by omega)] at hc
  omega

theorem leapDays_none (a b : Int) (w : World) (h : b ≤ a) (h0 : -800000 ≤ a) (h1 : a ≤ 800000) (h2 : -1600000 ≤ b) (h3 : b ≤ 1600000) :
    Calls Yba.prog 17 #[.int .i64 a, .int .i64 b] w fun e w' => e = .returned (.int .i64 (leapC a b)) ∧ w' = w := by
  have hz : leapC a b = 0 := cntF_stop _ _ _ _ (by omega)
  rw [hz]
  clear hz
  go_enter Yba.func17, Yba.ntmps17
  go_wp2
  go_ret
  exact ⟨rfl, rfl⟩

set_option maxHeartbeats 1000000 in
theorem leapDays_some (a b : Int) (w : World) (h : a < b) (h0 : -800000 ≤ a) (h1 : a ≤ 800000) (h3 : b ≤ 1600000) :
    Calls Yba.prog 17 #[.int .i64 a, .int .i64 b] w fun e w' => e = .returned (.int .i64 (leapC a b)) ∧ w' = w := by
  have hst := hide (KInv.start a b)
  generalize leapC a b = C at *
  have hnot : ¬ b ≤ a := by omega
  go_enter Yba.func17, Yba.ntmps17
  go_wp2
  go_loop [5, 6] (fun p q => ∃ y s : Int, s = jan y ∧ -801000 ≤ s ∧ s ≤ 0 ∧ p = .int .i64 y ∧ q = .int .i64 s) (fun _ q => (intOf q - a).toNat)
  case atStart => exact ⟨1970, 0, jan_1970.symm, by omega, by omega, rfl, rfl⟩
  case round =>
    obtain ⟨y, s, hs, s0, s1, rfl, rfl⟩ := hrel
    have hyr := jan_bd y (by omega) (by omega)
    have HS := hide hs
    by_cases hlt : a + 1 < s
    · have hp := jan_succ (y - 1)
      rw [show y - 1 + 1 = y by omega, ← hs] at hp
      have hl := yl_bd (y - 1)
      have hN := hide (bylen_any (y - 1) w (by omega) (by omega))
      obtain ⟨L, hL⟩ : ∃ L, yl (y - 1) = L := ⟨_, rfl⟩
      rw [hL] at hp hl hN
      have HP := hide hp
      clear hs hp hL
      go_wp2_with fail
      refine hN.out.mono ?_
      rintro e1 w1 ⟨rfl, rfl⟩
      go_wp2
      go_round
      case rel => exact ⟨y - 1, s - L, by have := HP.out; omega, by omega, by omega, rfl, rfl⟩
      case measure => simp [intOf]; omega
    · clear hs
      go_wp2
      go_loop [5, 6] (fun p q => ∃ y s : Int, s = jan y ∧ -801000 ≤ s ∧ s ≤ a + 1 ∧ p = .int .i64 y ∧ q = .int .i64 s) (fun _ q => (a + 1 - intOf q).toNat)
      case atStart => exact ⟨_, _, HS.out, by omega, by omega, rfl, rfl⟩
      case round =>
        clear HS hyr s0 s1 hlt
        obtain ⟨y, s, hs, s0, s1, rfl, rfl⟩ := hrel
        have hyr := jan_bd y (by omega) (by omega)
        have hp := jan_succ y
        have hl := yl_bd y
        have hN := hide (bylen_any y w (by omega) (by omega))
        have HL : Hid (yl y = yl y) := rfl
        obtain ⟨L, hL⟩ : ∃ L, yl y = L := ⟨_, rfl⟩
        rw [hL] at hp hl hN
        rw [← hs] at hp
        have HP := hide hp
        have HS := hide hs
        clear HL hL hp hs
        by_cases hlt : s + L ≤ a + 1
        · go_wp2_with fail
          refine hN.out.mono ?_
          rintro e1 w1 ⟨rfl, rfl⟩
          go_wp2_with fail
          refine hN.out.mono ?_
          rintro e1 w1 ⟨rfl, rfl⟩
          go_wp2
          go_round
          case rel => exact ⟨y + 1, s + L, HP.out.symm, by omega, by omega, rfl, rfl⟩
          case measure => simp [intOf]; omega
        · have hK := hide (hst.out y h (by rw [← HS.out]; omega) (by rw [HP.out]; omega))
          rw [← HS.out] at hK
          go_wp2_with fail
          refine hN.out.mono ?_
          rintro e1 w1 ⟨rfl, rfl⟩
          go_wp2
          clear hN HS HP hlt hl hyr s0 s1 hst
          go_loop [5, 6, 7, 8] (fun p q r t => ∃ y s lo c : Int, KInv C a b y s lo c ∧ p = .int .i64 y ∧ q = .int .i64 s ∧ r = .int .i64 lo ∧ t = .int .i64 c) (fun _ _ r _ => (b + 1 - intOf r).toNat)
          case atStart => exact ⟨_, _, _, _, hK.out, rfl, rfl, rfl, rfl⟩
          case round =>
            clear hK
            obtain ⟨y, s, lo, c, hI, rfl, rfl, rfl, rfl⟩ := hrel
            have HI := hide hI
            have hyr := hI.year h0 h3
            obtain ⟨_, k0, k1, ⟨k2, k3⟩, c0, c1, c2, k4⟩ := hI
            have hp := jan_succ y
            have hl := yl_bd y
            have hN := hide (bylen_any y w1 (by omega) (by omega))
            have hB := hide (bleap_any y w1 (by omega) (by omega))
            obtain ⟨L, hL⟩ : ∃ L, yl y = L := ⟨_, rfl⟩
            rw [hL] at hp hl hN
            rw [← k1] at hp k4
            rw [hp] at k3
            have HP := hide hp
            clear hL hp k1
            by_cases hlt : lo ≤ b
            · by_cases hm : b ≤ s + L - 1
              · have hS := hide (HI.out.step hlt (hi := b) (by rw [HP.out]; omega))
                rw [HP.out] at hS
                cases hlp : lpB y
                · rw [hlp] at hB hS
                  clear hlp
                  go_wp2_with fail
                  refine hN.out.mono ?_
                  rintro e1 w2 ⟨rfl, rfl⟩
                  go_wp2_with fail
                  refine hB.out.mono ?_
                  rintro e1 w2 ⟨rfl, rfl⟩
                  go_wp2
                  go_round
                  case rel => exact ⟨y + 1, s + L, s + L, _, hS.out, rfl, by go_num, by go_num, rfl⟩
                  case measure => simp [intOf]; omega
                · rw [hlp] at hB hS
                  clear hlp
                  go_wp2_with fail
                  refine hN.out.mono ?_
                  rintro e1 w2 ⟨rfl, rfl⟩
                  go_wp2_with fail
                  refine hB.out.mono ?_
                  rintro e1 w2 ⟨rfl, rfl⟩
                  go_wp2
                  go_round
                  case rel => exact ⟨y + 1, s + L, s + L, _, hS.out, rfl, by go_num, by go_num, rfl⟩
                  case measure => simp [intOf]; omega
              · have hS := hide (HI.out.step hlt (hi := s + L - 1) (by rw [HP.out]; omega))
                rw [HP.out] at hS
                cases hlp : lpB y
                · rw [hlp] at hB hS
                  clear hlp
                  go_wp2_with fail
                  refine hN.out.mono ?_
                  rintro e1 w2 ⟨rfl, rfl⟩
                  go_wp2_with fail
                  refine hB.out.mono ?_
                  rintro e1 w2 ⟨rfl, rfl⟩
                  go_wp2
                  go_round
                  case rel => exact ⟨y + 1, s + L, s + L, _, hS.out, rfl, by go_num, by go_num, rfl⟩
                  case measure => simp [intOf]; omega
                · rw [hlp] at hB hS
                  clear hlp
                  go_wp2_with fail
                  refine hN.out.mono ?_
                  rintro e1 w2 ⟨rfl, rfl⟩
                  go_wp2_with fail
                  refine hB.out.mono ?_
                  rintro e1 w2 ⟨rfl, rfl⟩
                  go_wp2
                  go_round
                  case rel => exact ⟨y + 1, s + L, s + L, _, hS.out, rfl, by go_num, by go_num, rfl⟩
                  case measure => simp [intOf]; omega
            · clear hN hB
              go_wp2
              go_ret
              exact ⟨ret_int (HI.out.done (by omega)), rfl⟩

theorem leapDays_any (a b : Int) (w : World) (h0 : -800000 ≤ a) (h1 : a ≤ 800000) (h2 : -1600000 ≤ b) (h3 : b ≤ 1600000) :
    Calls Yba.prog 17 #[.int .i64 a, .int .i64 b] w fun e w' => e = .returned (.int .i64 (leapC a b)) ∧ w' = w := by
  by_cases h : b ≤ a
  · exact leapDays_none a b w h h0 h1 h2 h3
  · exact leapDays_some a b w (by omega) h0 h1 h3

theorem leapC_bd (a b : Int) : 0 ≤ leapC a b ∧ (leapC a b = 0 ∨ leapC a b ≤ b - a) := by
  by_cases h : b ≤ a
  · have : leapC a b = 0 := cntF_stop _ _ _ _ (by omega)
    omega
  · have h2 := cntF_bd (b - a).toNat (yearOf (a + 1)) (a + 1) b (by omega) (year_law (a + 1)).1 (fun _ => (year_law (a + 1)).2)
    unfold leapC
    omega

end Go.Proofs.Ybulkbtlq
