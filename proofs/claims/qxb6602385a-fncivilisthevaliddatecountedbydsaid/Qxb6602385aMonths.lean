/-
  The walks of zzIsLeap (19) and zzDaysInMonth (15).
-/
import Derived.Test.Qxb6602385aRows
import Derived.Test.Qxb6602385aCount
import Derived.Test.Qxb6602385aCivil
import Derived.WalkKit
import Derived.ProofKit
namespace Go.Proofs.Qxb6602385a
open Go.RowKit

theorem tmod_zero (y k : Int) : y.tmod k = 0 ↔ y % k = 0 :=
  ⟨fun h => Int.emod_eq_zero_of_dvd (Int.dvd_of_tmod_eq_zero h), fun h => Int.tmod_eq_zero_of_dvd (Int.dvd_of_emod_eq_zero h)⟩

theorem ret_bool19 {a b : Bool} (h : a = b) : Ending.returned (.bool a) = .returned (.bool b) := by rw [h]
theorem ret_int15 {a b : Int} (h : a = b) : Ending.returned (.int .i64 a) = .returned (.int .i64 b) := by rw [h]

theorem leap_any (y : Int) (w : World) (_h0 : -6000000 ≤ y) (_h1 : y ≤ 6000000) :
    Calls Try.prog 19 #[.int .i64 y] w fun e w' => e = .returned (.bool (Cal.leap y)) ∧ w' = w := by
  by_cases h4 : y % 4 = 0
  · have e4 : (y.tmod 4 == 0) = true := beq_iff_eq.2 ((tmod_zero y 4).2 h4)
    by_cases h100 : y % 100 = 0
    · have e100 : (y.tmod 100 != 0) = false := by rw [bne_eq_false_iff_eq]; exact (tmod_zero y 100).2 h100
      by_cases h400 : y % 400 = 0
      · have e400 : (y.tmod 400 == 0) = true := beq_iff_eq.2 ((tmod_zero y 400).2 h400)
        have HL : Hid (Cal.leap y = true) := Cal.leap_true.2 (by omega)
        clear h4 h100 h400
        go_enter Try.func19, Try.ntmps19
        go_wp2
        go_ret
        exact ⟨ret_bool19 HL.out.symm, rfl⟩
      · have e400 : (y.tmod 400 == 0) = false := beq_eq_false_iff_ne.2 (fun h => h400 ((tmod_zero y 400).1 h))
        have HL : Hid (Cal.leap y = false) := Cal.leap_false.2 (by omega)
        clear h4 h100 h400
        go_enter Try.func19, Try.ntmps19
        go_wp2
        go_ret
        exact ⟨ret_bool19 HL.out.symm, rfl⟩
    · have e100 : (y.tmod 100 != 0) = true := by rw [bne_iff_ne]; exact fun h => h100 ((tmod_zero y 100).1 h)
      have HL : Hid (Cal.leap y = true) := Cal.leap_true.2 (by omega)
      clear h4 h100
      go_enter Try.func19, Try.ntmps19
      go_wp2
      go_ret
      exact ⟨ret_bool19 HL.out.symm, rfl⟩
  · have e4 : (y.tmod 4 == 0) = false := beq_eq_false_iff_ne.2 (fun h => h4 ((tmod_zero y 4).1 h))
    have HL : Hid (Cal.leap y = false) := Cal.leap_false.2 (by omega)
    clear h4
    go_enter Try.func19, Try.ntmps19
    go_wp2
    go_ret
    exact ⟨ret_bool19 HL.out.symm, rfl⟩

theorem dim_any (y m : Int) (w : World) (h0 : -6000000 ≤ y) (h1 : y ≤ 6000000) (m0 : 1 ≤ m) (m1 : m ≤ 12) :
    Calls Try.prog 15 #[.int .i64 y, .int .i64 m] w fun e w' => e = .returned (.int .i64 (Cal.dim y m)) ∧ w' = w := by
  by_cases hm2 : m = 2
  · subst hm2
    have HD : Hid (Cal.dim y 2 = if Cal.leap y then 29 else 28) := rfl
    by_cases hl : Cal.leap y = true
    · go_enter Try.func15, Try.ntmps15
      go_wp2_with fail
      refine (leap_any y _ h0 h1).mono ?_
      rintro e w' ⟨rfl, hw⟩
      rw [hw, hl]
      clear hw w'
      go_wp2
      go_ret
      exact ⟨ret_int15 (by rw [HD.out, hl]; rfl), rfl⟩
    · have hl' : Cal.leap y = false := by simpa using hl
      clear hl
      go_enter Try.func15, Try.ntmps15
      go_wp2_with fail
      refine (leap_any y _ h0 h1).mono ?_
      rintro e w' ⟨rfl, hw⟩
      rw [hw, hl']
      clear hw w'
      go_wp2
      go_ret
      exact ⟨ret_int15 (by rw [HD.out, hl']; rfl), rfl⟩
  · have e2 : (m == 2) = false := beq_eq_false_iff_ne.2 hm2
    have HD : Hid (Cal.dim y m = if m = 4 ∨ m = 6 ∨ m = 9 ∨ m = 11 then 30 else 31) := by
      show Cal.dim y m = _
      unfold Cal.dim; rw [if_neg hm2]
    by_cases h4 : m = 4
    · subst h4
      go_enter Try.func15, Try.ntmps15
      go_wp2
      go_ret
      exact ⟨ret_int15 (by rw [HD.out]; rfl), rfl⟩
    · by_cases h6 : m = 6
      · subst h6
        go_enter Try.func15, Try.ntmps15
        go_wp2
        go_ret
        exact ⟨ret_int15 (by rw [HD.out]; rfl), rfl⟩
      · by_cases h9 : m = 9
        · subst h9
          go_enter Try.func15, Try.ntmps15
          go_wp2
          go_ret
          exact ⟨ret_int15 (by rw [HD.out]; rfl), rfl⟩
        · by_cases h11 : m = 11
          · subst h11
            go_enter Try.func15, Try.ntmps15
            go_wp2
            go_ret
            exact ⟨ret_int15 (by rw [HD.out]; rfl), rfl⟩
          · have HE : Hid (Cal.dim y m = 31) := by rw [HD.out, if_neg (by omega)]; rfl
            have e4 : (m == 4) = false := beq_eq_false_iff_ne.2 h4
            have e6 : (m == 6) = false := beq_eq_false_iff_ne.2 h6
            have e9 : (m == 9) = false := beq_eq_false_iff_ne.2 h9
            have e11 : (m == 11) = false := beq_eq_false_iff_ne.2 h11
            clear hm2 h4 h6 h9 h11
            go_enter Try.func15, Try.ntmps15
            go_wp2
            go_ret
            exact ⟨ret_int15 HE.out.symm, rfl⟩

end Go.Proofs.Qxb6602385a
