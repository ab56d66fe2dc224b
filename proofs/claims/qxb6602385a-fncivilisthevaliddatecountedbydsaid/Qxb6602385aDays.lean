/-
  The walks of zzFloorDiv (22), zzLeapCount (20), zzDaysBeforeMonth (21), zzDaysFromCivil (16).
-/
import Derived.Test.Qxb6602385aRows
import Derived.Test.Qxb6602385aMonths
import Derived.WalkKit
import Derived.ProofKit
namespace Go.Proofs.Qxb6602385a
open Go.RowKit

theorem tdiv_neg (a k : Int) (h : a < 0) : a.tdiv k = -((-a) / k) := by
  rw [← Int.tdiv_eq_ediv_of_nonneg (by omega), Int.neg_tdiv, Int.neg_neg]

theorem floor4 (a : Int) (w : World) (_h0 : -6000001 ≤ a) (_h1 : a ≤ 6000001) :
    Calls Try.prog 22 #[.int .i64 a, .int .i64 4] w fun e w' => e = .returned (.int .i64 (a / 4)) ∧ w' = w := by
  by_cases hn : a < 0
  · have ht := tdiv_neg a 4 hn
    have hmod : a.tmod 4 = a - 4 * a.tdiv 4 := by rw [Int.tmod_def]
    obtain ⟨q, hq⟩ : ∃ q, a / 4 = q := ⟨_, rfl⟩
    have q0 : -2000000 ≤ q := by omega
    have q1 : q ≤ 0 := by omega
    by_cases hz : a % 4 = 0
    · have e1 : a.tdiv 4 = q := by omega
      have em : (a.tmod 4 != 0) = false := by rw [bne_eq_false_iff_eq]; omega
      have HQ : Hid (a / 4 = q) := hq
      clear ht hmod hq hz
      go_enter Try.func22, Try.ntmps22
      go_wp2
      go_ret
      exact ⟨ret_int15 HQ.out.symm, rfl⟩
    · have e1 : a.tdiv 4 = q + 1 := by omega
      have em : (a.tmod 4 != 0) = true := by rw [bne_iff_ne]; omega
      have HQ : Hid (a / 4 = q) := hq
      clear ht hmod hq hz
      go_enter Try.func22, Try.ntmps22
      go_wp2
      go_ret
      exact ⟨ret_int15 (by rw [HQ.out]), rfl⟩
  · by_cases hz : a % 4 = 0
    · have em : (a % 4 != 0) = false := by rw [bne_eq_false_iff_eq]; exact hz
      clear hz
      go_enter Try.func22, Try.ntmps22
      go_wp2
      go_ret
      exact ⟨rfl, rfl⟩
    · have em : (a % 4 != 0) = true := by rw [bne_iff_ne]; exact hz
      clear hz
      go_enter Try.func22, Try.ntmps22
      go_wp2
      go_ret
      exact ⟨rfl, rfl⟩

theorem floor100 (a : Int) (w : World) (_h0 : -6000001 ≤ a) (_h1 : a ≤ 6000001) :
    Calls Try.prog 22 #[.int .i64 a, .int .i64 100] w fun e w' => e = .returned (.int .i64 (a / 100)) ∧ w' = w := by
  by_cases hn : a < 0
  · have ht := tdiv_neg a 100 hn
    have hmod : a.tmod 100 = a - 100 * a.tdiv 100 := by rw [Int.tmod_def]
    obtain ⟨q, hq⟩ : ∃ q, a / 100 = q := ⟨_, rfl⟩
    have q0 : -2000000 ≤ q := by omega
    have q1 : q ≤ 0 := by omega
    by_cases hz : a % 100 = 0
    · have e1 : a.tdiv 100 = q := by omega
      have em : (a.tmod 100 != 0) = false := by rw [bne_eq_false_iff_eq]; omega
      have HQ : Hid (a / 100 = q) := hq
      clear ht hmod hq hz
      go_enter Try.func22, Try.ntmps22
      go_wp2
      go_ret
      exact ⟨ret_int15 HQ.out.symm, rfl⟩
    · have e1 : a.tdiv 100 = q + 1 := by omega
      have em : (a.tmod 100 != 0) = true := by rw [bne_iff_ne]; omega
      have HQ : Hid (a / 100 = q) := hq
      clear ht hmod hq hz
      go_enter Try.func22, Try.ntmps22
      go_wp2
      go_ret
      exact ⟨ret_int15 (by rw [HQ.out]), rfl⟩
  · by_cases hz : a % 100 = 0
    · have em : (a % 100 != 0) = false := by rw [bne_eq_false_iff_eq]; exact hz
      clear hz
      go_enter Try.func22, Try.ntmps22
      go_wp2
      go_ret
      exact ⟨rfl, rfl⟩
    · have em : (a % 100 != 0) = true := by rw [bne_iff_ne]; exact hz
      clear hz
      go_enter Try.func22, Try.ntmps22
      go_wp2
      go_ret
      exact ⟨rfl, rfl⟩

theorem floor400 (a : Int) (w : World) (_h0 : -6000001 ≤ a) (_h1 : a ≤ 6000001) :
    Calls Try.prog 22 #[.int .i64 a, .int .i64 400] w fun e w' => e = .returned (.int .i64 (a / 400)) ∧ w' = w := by
  by_cases hn : a < 0
  · have ht := tdiv_neg a 400 hn
    have hmod : a.tmod 400 = a - 400 * a.tdiv 400 := by rw [Int.tmod_def]
    obtain ⟨q, hq⟩ : ∃ q, a / 400 = q := ⟨_, rfl⟩
    have q0 : -2000000 ≤ q := by omega
    have q1 : q ≤ 0 := by omega
    by_cases hz : a % 400 = 0
    · have e1 : a.tdiv 400 = q := by omega
      have em : (a.tmod 400 != 0) = false := by rw [bne_eq_false_iff_eq]; omega
      have HQ : Hid (a / 400 = q) := hq
      clear ht hmod hq hz
      go_enter Try.func22, Try.ntmps22
      go_wp2
      go_ret
      exact ⟨ret_int15 HQ.out.symm, rfl⟩
    · have e1 : a.tdiv 400 = q + 1 := by omega
      have em : (a.tmod 400 != 0) = true := by rw [bne_iff_ne]; omega
      have HQ : Hid (a / 400 = q) := hq
      clear ht hmod hq hz
      go_enter Try.func22, Try.ntmps22
      go_wp2
      go_ret
      exact ⟨ret_int15 (by rw [HQ.out]), rfl⟩
  · by_cases hz : a % 400 = 0
    · have em : (a % 400 != 0) = false := by rw [bne_eq_false_iff_eq]; exact hz
      clear hz
      go_enter Try.func22, Try.ntmps22
      go_wp2
      go_ret
      exact ⟨rfl, rfl⟩
    · have em : (a % 400 != 0) = true := by rw [bne_iff_ne]; exact hz
      clear hz
      go_enter Try.func22, Try.ntmps22
      go_wp2
      go_ret
      exact ⟨rfl, rfl⟩

theorem lc_any (x : Int) (w : World) (h0 : -6000001 ≤ x) (h1 : x ≤ 6000001) :
    Calls Try.prog 20 #[.int .i64 x] w fun e w' => e = .returned (.int .i64 (Cal.lc x)) ∧ w' = w := by
  have HL : Hid (Cal.lc x = x / 4 - x / 100 + x / 400) := rfl
  obtain ⟨q1, e1⟩ : ∃ q, x / 4 = q := ⟨_, rfl⟩
  obtain ⟨q2, e2⟩ : ∃ q, x / 100 = q := ⟨_, rfl⟩
  obtain ⟨q3, e3⟩ : ∃ q, x / 400 = q := ⟨_, rfl⟩
  have b1 : -2000000 ≤ q1 ∧ q1 ≤ 2000000 := by omega
  have b2 : -2000000 ≤ q2 ∧ q2 ≤ 2000000 := by omega
  have b3 : -2000000 ≤ q3 ∧ q3 ≤ 2000000 := by omega
  have E1 : Hid (x / 4 = q1) := e1
  have E2 : Hid (x / 100 = q2) := e2
  have E3 : Hid (x / 400 = q3) := e3
  clear e1 e2 e3
  go_enter Try.func20, Try.ntmps20
  go_wp2_with fail
  refine (floor4 x _ h0 h1).mono ?_
  rintro e w' ⟨rfl, hw⟩
  rw [hw, E1.out]
  clear hw w'
  go_wp2_with fail
  refine (floor100 x _ h0 h1).mono ?_
  rintro e w' ⟨rfl, hw⟩
  rw [hw, E2.out]
  clear hw w'
  go_wp2_with fail
  refine (floor400 x _ h0 h1).mono ?_
  rintro e w' ⟨rfl, hw⟩
  rw [hw, E3.out]
  clear hw w'
  go_wp2
  go_ret
  exact ⟨ret_int15 (by rw [HL.out, E1.out, E2.out, E3.out]), rfl⟩

theorem dbm_any (m : Int) (w : World) (m0 : 1 ≤ m) (m1 : m ≤ 12) :
    Calls Try.prog 21 #[.int .i64 m] w fun e w' => e = .returned (.int .i64 (Cal.dbm m)) ∧ w' = w := by
  have hc : m = 1 ∨ m = 2 ∨ m = 3 ∨ m = 4 ∨ m = 5 ∨ m = 6 ∨ m = 7 ∨ m = 8 ∨ m = 9 ∨ m = 10 ∨ m = 11 ∨ m = 12 := by omega
  rcases hc with rfl | rfl | rfl | rfl | rfl | rfl | rfl | rfl | rfl | rfl | rfl | rfl
  all_goals
    go_enter Try.func21, Try.ntmps21
    go_wp2
    go_ret
    exact ⟨rfl, rfl⟩

theorem dbm_bd (m : Int) : 0 ≤ Cal.dbm m ∧ Cal.dbm m ≤ 334 := by
  unfold Cal.dbm; repeat (split <;> try omega)

theorem lc_bd (x : Int) (_h0 : -6000001 ≤ x) (_h1 : x ≤ 6000001) : -5000000 ≤ Cal.lc x ∧ Cal.lc x ≤ 5000000 := by
  unfold Cal.lc; omega

theorem cnt_any (y m d : Int) (w : World) (h0 : -6000000 ≤ y) (h1 : y ≤ 6000000) (m0 : 1 ≤ m) (m1 : m ≤ 12) (d0 : 1 ≤ d) (d1 : d ≤ 31) :
    Calls Try.prog 16 #[.int .i64 y, .int .i64 m, .int .i64 d] w fun e w' => e = .returned (.int .i64 (Cal.cnt y m d)) ∧ w' = w := by
  obtain ⟨L, eL⟩ : ∃ q, Cal.lc (y - 1) = q := ⟨_, rfl⟩
  obtain ⟨K, eK⟩ : ∃ q, Cal.lc 1969 = q := ⟨_, rfl⟩
  obtain ⟨B, eB⟩ : ∃ q, Cal.dbm m = q := ⟨_, rfl⟩
  have bL := lc_bd (y - 1) (by omega) (by omega)
  have bK := lc_bd 1969 (by omega) (by omega)
  have bB := dbm_bd m
  have HC : Hid (Cal.cnt y m d = 365 * (y - 1970) + L - K + B + (if 2 < m ∧ Cal.leap y = true then 1 else 0) + d - 1) := by
    show Cal.cnt y m d = _
    unfold Cal.cnt; rw [eL, eK, eB]
  rw [eL] at bL
  rw [eK] at bK
  rw [eB] at bB
  have EL : Hid (Cal.lc (y - 1) = L) := eL
  have EK : Hid (Cal.lc 1969 = K) := eK
  have EB : Hid (Cal.dbm m = B) := eB
  clear eL eK eB
  by_cases h2 : 2 < m
  · rcases Bool.eq_false_or_eq_true (Cal.leap y) with hl | hl
    · have HF : Hid (Cal.cnt y m d = 365 * (y - 1970) + L - K + B + 1 + d - 1) := by
        rw [HC.out, if_pos ⟨h2, hl⟩]; rfl
      have HL : Hid (Cal.leap y = true) := hl
      clear hl
      go_enter Try.func16, Try.ntmps16
      go_wp2_with fail
      refine (lc_any (y - 1) _ (by omega) (by omega)).mono ?_
      rintro e w' ⟨rfl, hw⟩
      rw [hw, EL.out]
      clear hw w'
      go_wp2_with fail
      refine (lc_any 1969 _ (by omega) (by omega)).mono ?_
      rintro e w' ⟨rfl, hw⟩
      rw [hw, EK.out]
      clear hw w'
      go_wp2_with fail
      refine (dbm_any m _ m0 m1).mono ?_
      rintro e w' ⟨rfl, hw⟩
      rw [hw, EB.out]
      clear hw w'
      go_wp2_with fail
      refine (leap_any y _ h0 h1).mono ?_
      rintro e w' ⟨rfl, hw⟩
      rw [hw, HL.out]
      clear hw w'
      go_wp2
      go_ret
      exact ⟨ret_int15 HF.out.symm, rfl⟩
    · have HF : Hid (Cal.cnt y m d = 365 * (y - 1970) + L - K + B + d - 1) := by
        rw [HC.out, if_neg (by simp [hl]), Int.add_zero]; rfl
      have HL : Hid (Cal.leap y = false) := hl
      clear hl
      go_enter Try.func16, Try.ntmps16
      go_wp2_with fail
      refine (lc_any (y - 1) _ (by omega) (by omega)).mono ?_
      rintro e w' ⟨rfl, hw⟩
      rw [hw, EL.out]
      clear hw w'
      go_wp2_with fail
      refine (lc_any 1969 _ (by omega) (by omega)).mono ?_
      rintro e w' ⟨rfl, hw⟩
      rw [hw, EK.out]
      clear hw w'
      go_wp2_with fail
      refine (dbm_any m _ m0 m1).mono ?_
      rintro e w' ⟨rfl, hw⟩
      rw [hw, EB.out]
      clear hw w'
      go_wp2_with fail
      refine (leap_any y _ h0 h1).mono ?_
      rintro e w' ⟨rfl, hw⟩
      rw [hw, HL.out]
      clear hw w'
      go_wp2
      go_ret
      exact ⟨ret_int15 HF.out.symm, rfl⟩
  · have HF : Hid (Cal.cnt y m d = 365 * (y - 1970) + L - K + B + d - 1) := by
      rw [HC.out, if_neg (fun h => h2 h.1), Int.add_zero]; rfl
    have h2' : decide (2 < m) = false := by simpa using h2
    go_enter Try.func16, Try.ntmps16
    go_wp2_with fail
    refine (lc_any (y - 1) _ (by omega) (by omega)).mono ?_
    rintro e w' ⟨rfl, hw⟩
    rw [hw, EL.out]
    clear hw w'
    go_wp2_with fail
    refine (lc_any 1969 _ (by omega) (by omega)).mono ?_
    rintro e w' ⟨rfl, hw⟩
    rw [hw, EK.out]
    clear hw w'
    go_wp2_with fail
    refine (dbm_any m _ m0 m1).mono ?_
    rintro e w' ⟨rfl, hw⟩
    rw [hw, EB.out]
    clear hw w'
    go_wp2
    go_ret
    exact ⟨ret_int15 HF.out.symm, rfl⟩

end Go.Proofs.Qxb6602385a
