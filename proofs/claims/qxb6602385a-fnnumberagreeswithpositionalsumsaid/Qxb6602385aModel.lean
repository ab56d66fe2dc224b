/-
  The walks of zzNumberModel (11) and of the guard zzBytes (9).
-/
import Derived.Test.Qxb6602385aRows
import Derived.Test.Qxb6602385aSum
import Derived.Test.Qxb6602385aNumber
import Derived.WalkKit
import Derived.ProofKit
namespace Go.Proofs.Qxb6602385a
open Go.RowKit

theorem ret_bool9 {a b : Bool} (h : a = b) : Ending.returned (.bool a) = .returned (.bool b) := by rw [h]

theorem zzBytes9 (s : ByteArray) (v z : Int) (w : World) (hs : s.size ≤ maxLen) :
    Calls Try.prog 9 #[.string s, .int .i64 v, .int .i64 z] w fun e w' => e = .returned (.bool (decide (s.size ≤ 1048576))) ∧ w' = w := by
  unfold maxLen at hs
  by_cases h1 : (1048576 : Int) < s.size
  · go_enter Try.func9, Try.ntmps9
    go_wp2
    go_ret
    exact ⟨ret_bool9 (decide_eq_false (by omega)).symm, rfl⟩
  · go_enter Try.func9, Try.ntmps9
    go_wp2
    go_ret
    exact ⟨ret_bool9 (decide_eq_true (by omega)).symm, rfl⟩

theorem model_short (s : ByteArray) (a n : Int) (w : World) (_ha : 0 ≤ a) (_hn : 0 ≤ n) (_hs : s.size ≤ 1048576) (_hsum : a + n ≤ 9223372036854775807) (h : (s.size : Int) < a + n) :
    Calls Try.prog 11 #[.string s, .int .i64 a, .int .i64 n] w fun e w' => e = .returned (.tuple #[.int .i64 0, .bool false]) ∧ w' = w := by
  by_cases h1 : (s.size : Int) < a
  · go_enter Try.func11, Try.ntmps11
    go_wp2
    go_ret2
    exact ⟨rfl, rfl⟩
  · have h2 : (s.size : Int) - a < n := by omega
    go_enter Try.func11, Try.ntmps11
    go_wp2
    go_ret2
    exact ⟨rfl, rfl⟩

set_option maxHeartbeats 1000000 in
set_option maxRecDepth 10000 in
theorem model_in (s : ByteArray) (a n : Nat) (w : World) (hs : s.size ≤ 1048576) (h : a + n ≤ s.size) :
    Calls Try.prog 11 #[.string s, .int .i64 a, .int .i64 n] w fun e w' => e = .returned (.tuple #[.int .i64 (Num.res s a n), .bool (Num.ok s a n)]) ∧ w' = w := by
  have q1 : decide (s.size < a) = false := by simp; omega
  have q2 : decide ((s.size : Int) - (a : Int) < (n : Int)) = false := by simp; omega
  have HR : Hid (Num.res s a n = if (Num.seg s a n).all Num.dig then Num.val 0 (Num.seg s a n) else 0) := by
    show Num.res s a n = _
    unfold Num.res Num.ok; simp [h]
  have HO : Hid (Num.ok s a n = (Num.seg s a n).all Num.dig) := by
    show Num.ok s a n = _
    unfold Num.ok; simp [h]
  go_enter Try.func11, Try.ntmps11
  go_wp2
  go_loop [8, 9, 10] (fun vv pp i => ∃ m j : Nat, ∃ v p : Int, vv = .int .i64 v ∧ pp = .int .i64 p ∧ i = .int .i64 ((j : Int) - 1) ∧ a ≤ j ∧ j ≤ a + n ∧ Hid (j + m = a + n) ∧ Hid (v = wrap64 (Num.ev (Num.seg s j m))) ∧ Hid (p = wrap64 (10 ^ m)) ∧ Hid ((Num.seg s j m).all Num.dig = true)) (fun _ _ i => (intOf i + 1).toNat)
  case atStart =>
    exact ⟨0, a + n, 0, 1, rfl, rfl, by go_num, by omega, by omega, by show a + n + 0 = a + n; omega, by show (0 : Int) = wrap64 (Num.ev (Num.seg s (a + n) 0)); unfold Num.seg; simp [Num.ev, wrap64], by show (1 : Int) = wrap64 (10 ^ 0); simp [wrap64], by show (Num.seg s (a + n) 0).all Num.dig = true; unfold Num.seg; simp⟩
  case round =>
    obtain ⟨m, j, v, p, rfl, rfl, rfl, haj, hjn, HM, HV, HP, HA⟩ := hrel
    by_cases hlt : a < j
    · obtain ⟨q, hq⟩ : ∃ q, j = q + 1 := ⟨j - 1, by omega⟩
      subst hq
      have hq1 : (((q + 1 : Nat) : Int) - 1) = (q : Int) := by omega
      rw [hq1]
      have hqs : q < s.size := by omega
      have haq : a ≤ q := by omega
      have HC : Hid (Num.seg s q (m + 1) = s[q] :: Num.seg s (q + 1) m) := Num.seg_cons s q m hqs
      have HL : Hid ((Num.seg s (q + 1) m).length = m) := Num.seg_length s (q + 1) m (by have := HM.out; omega)
      have hb : (s[q].toNat : Int) < 256 := by have := s[q].toNat_lt; omega
      clear hq1
      by_cases hd : Num.dig s[q] = true
      · have HS : Hid (wrap64 (v + wrap64 (((s[q].toNat : Int) - 48) * p)) = wrap64 (Num.ev (Num.seg s q (m + 1)))) := by
          show wrap64 _ = _
          rw [HC.out]
          exact Num.sum_step s[q] (Num.seg s (q + 1) m) v p HV.out (by rw [HL.out]; exact HP.out)
        have HP2 : Hid (wrap64 (p * 10) = wrap64 (10 ^ (m + 1))) := Num.pow_step m p HP.out
        have HA2 : Hid ((Num.seg s q (m + 1)).all Num.dig = true) := by
          show (Num.seg s q (m + 1)).all Num.dig = true
          rw [HC.out, List.all_cons, hd, HA.out]; rfl
        obtain ⟨h48, h57⟩ := Num.dig_true.1 hd
        clear hd
        go_wp2
        go_round
        case rel => exact ⟨m + 1, q, _, _, rfl, rfl, rfl, haq, by omega, by have := HM.out; show q + (m + 1) = a + n; omega, HS, HP2, HA2⟩
        case measure => simp [intOf]
      · have HF : Hid ((Num.seg s a n).all Num.dig = false) := Num.seg_not s a n q haq (by omega) h (by simpa using hd)
        have hn := mt Num.dig_true.2 hd
        clear hd
        by_cases h48 : (s[q].toNat : Int) < 48
        · go_wp2
          go_ret2
          exact ⟨ret2_int (by rw [HR.out, HF.out]; rfl) (by rw [HO.out, HF.out]), rfl⟩
        · have h57 : 57 < (s[q].toNat : Int) := by omega
          go_wp2
          go_ret2
          exact ⟨ret2_int (by rw [HR.out, HF.out]; rfl) (by rw [HO.out, HF.out]), rfl⟩
    · have hja : a = j := by omega
      subst hja
      have hmn : n = m := by have := HM.out; omega
      subst hmn
      go_wp2
      go_ret2
      exact ⟨ret2_int (by rw [HR.out, HA.out, HV.out, Num.val_ev]; rfl) (by rw [HO.out, HA.out]), rfl⟩

theorem model_any (s : ByteArray) (a n : Int) (w : World) (ha : 0 ≤ a) (hn : 0 ≤ n) (hs : s.size ≤ 1048576) (hsum : a + n ≤ 9223372036854775807) :
    Calls Try.prog 11 #[.string s, .int .i64 a, .int .i64 n] w fun e w' => e = .returned (.tuple #[.int .i64 (Num.res s a.toNat n.toNat), .bool (Num.ok s a.toNat n.toNat)]) ∧ w' = w := by
  by_cases h : (s.size : Int) < a + n
  · refine (model_short s a n w ha hn hs hsum h).mono ?_
    rintro e w' ⟨rfl, rfl⟩
    have ho : Num.ok s a.toNat n.toNat = false := by
      unfold Num.ok
      rw [decide_eq_false (by omega)]; rfl
    refine ⟨ret2_int ?_ ho.symm, rfl⟩
    unfold Num.res; rw [ho]; rfl
  · obtain ⟨a', rfl⟩ := Int.eq_ofNat_of_zero_le ha
    obtain ⟨n', rfl⟩ := Int.eq_ofNat_of_zero_le hn
    rw [Int.toNat_natCast, Int.toNat_natCast]
    exact model_in s a' n' w hs (by omega)

end Go.Proofs.Qxb6602385a
