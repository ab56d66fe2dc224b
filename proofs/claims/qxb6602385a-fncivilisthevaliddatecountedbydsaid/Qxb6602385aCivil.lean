/-
  The walks of (date.Date).civil (18) and date.ZZCivil (14): each returns the plain calendar's numbers (Cal), and the world stands.
-/
import Derived.Test.Qxb6602385aRows
import Derived.Test.Qxb6602385aCal
import Derived.WalkKit
import Derived.ProofKit
namespace Go.Proofs.Qxb6602385a
open Go.RowKit

theorem ret3_int {a b c a' b' c' : Int} (h1 : a = a') (h2 : b = b') (h3 : c = c') :
    Ending.returned (.tuple #[.int .i64 a, .int .i64 b, .int .i64 c]) = .returned (.tuple #[.int .i64 a', .int .i64 b', .int .i64 c']) := by rw [h1, h2, h3]

/-- the numbers of civil, each under a name: what the walk takes for rules -/
theorem civil_facts (d : Int) (h0 : -2147483648 ≤ d) (h1 : d ≤ 2147483647) : ∃ cy o y t f dd : Int,
    Hid (Cal.cyc d = cy) ∧ Hid (d + 719468 - cy * 146097 = o) ∧ Hid ((o - o / 1460 + o / 36524 - o / 146096) / 365 = y) ∧
    Hid (o - (365 * y + y / 4 - y / 100) = t) ∧ Hid ((5 * t + 2) / 153 = f) ∧ Hid (t - (153 * f + 2) / 5 + 1 = dd) ∧
    -15000 ≤ cy ∧ cy ≤ 15000 ∧ 0 ≤ o ∧ o ≤ 146096 ∧ 0 ≤ y ∧ y ≤ 399 ∧ 0 ≤ t ∧ t ≤ 365 ∧ 0 ≤ f ∧ f ≤ 11 ∧
    Hid (Cal.D d = dd) ∧ Hid (Cal.M d = if 12 < f + 3 then f + 3 - 12 else f + 3) ∧ Hid (Cal.Y d = if 12 < f + 3 then cy * 400 + y + 1 else cy * 400 + y) := by
  have ho := Cal.oc_bd d
  have hy := Cal.yoc_bd d
  have ht := Cal.oy_bd d
  have hf := Cal.fm_bd d
  refine ⟨Cal.cyc d, Cal.oc d, Cal.yoc (Cal.oc d), Cal.oy (Cal.oc d), Cal.fm (Cal.oy (Cal.oc d)), Cal.D d, rfl, ?_, rfl, rfl, rfl, rfl, ?_, ?_, ho.1, ho.2, hy.1, hy.2, ht.1, ht.2, hf.1, hf.2, rfl, rfl, rfl⟩
  · show d + 719468 - Cal.cyc d * 146097 = Cal.oc d
    unfold Cal.cyc Cal.oc; omega
  · unfold Cal.cyc; omega
  · unfold Cal.cyc; omega

set_option maxHeartbeats 1000000 in
theorem civil_any (d : Int) (w : World) (h0 : -2147483648 ≤ d) (h1 : d ≤ 2147483647) :
    Calls Try.prog 18 #[.int .i32 d] w fun e w' => e = .returned (.tuple #[.int .i64 (Cal.Y d), .int .i64 (Cal.M d), .int .i64 (Cal.D d)]) ∧ w' = w := by
  obtain ⟨cy, o, y, t, f, dd, H1, H2, H3, H4, H5, H6, bc0, bc1, bo0, bo1, by0, by1, bt0, bt1, bf0, bf1, HD, HM, HY⟩ := civil_facts d h0 h1
  have e2 := H2.out
  have e3 := H3.out
  have e4 := H4.out
  have e5 := H5.out
  have e6 := H6.out
  by_cases hn : d + 719468 < 0
  · have hneg : (d + 719468).tdiv 146097 = -((-(d + 719468)) / 146097) := by
      rw [← Int.tdiv_eq_ediv_of_nonneg (by omega), Int.neg_tdiv, Int.neg_neg]
    have hmod : (d + 719468).tmod 146097 = (d + 719468) - 146097 * (d + 719468).tdiv 146097 := by
      rw [Int.tmod_def]
    have hcy : cy = (d + 719468) / 146097 := H1.out.symm
    by_cases hm : (d + 719468) % 146097 = 0
    · have e1 : (d + 719468).tdiv 146097 = cy := by omega
      have em : ((d + 719468).tmod 146097 != 0) = false := by
        rw [bne_eq_false_iff_eq]; omega
      have ho : o = 0 := by omega
      have h12 : ¬ 12 < f + 3 := by omega
      clear hneg hmod hcy ho
      · go_enter Try.func18, Try.ntmps18
        go_wp2
        go_ret3
        exact ⟨ret3_int (by rw [HY.out, if_neg (by omega)]) (by rw [HM.out, if_neg (by omega)]) (by rw [HD.out]), rfl⟩
    · have e1 : (d + 719468).tdiv 146097 = cy + 1 := by omega
      have em : ((d + 719468).tmod 146097 != 0) = true := by
        rw [bne_iff_ne]; omega
      clear hneg hmod hcy
      by_cases h12 : 12 < f + 3
      · go_enter Try.func18, Try.ntmps18
        go_wp2
        go_ret3
        exact ⟨ret3_int (by rw [HY.out, if_pos (by omega)]) (by rw [HM.out, if_pos (by omega)]) (by rw [HD.out]), rfl⟩
      · go_enter Try.func18, Try.ntmps18
        go_wp2
        go_ret3
        exact ⟨ret3_int (by rw [HY.out, if_neg (by omega)]) (by rw [HM.out, if_neg (by omega)]) (by rw [HD.out]), rfl⟩
  · have e1 : (d + 719468) / 146097 = cy := H1.out
    by_cases h12 : 12 < f + 3
    · go_enter Try.func18, Try.ntmps18
      go_wp2
      go_ret3
      exact ⟨ret3_int (by rw [HY.out, if_pos (by omega)]) (by rw [HM.out, if_pos (by omega)]) (by rw [HD.out]), rfl⟩
    · go_enter Try.func18, Try.ntmps18
      go_wp2
      go_ret3
      exact ⟨ret3_int (by rw [HY.out, if_neg (by omega)]) (by rw [HM.out, if_neg (by omega)]) (by rw [HD.out]), rfl⟩

theorem zzcivil_any (d : Int) (w : World) (h0 : -2147483648 ≤ d) (h1 : d ≤ 2147483647) :
    Calls Try.prog 14 #[.int .i32 d] w fun e w' => e = .returned (.tuple #[.int .i64 (Cal.Y d), .int .i64 (Cal.M d), .int .i64 (Cal.D d)]) ∧ w' = w := by
  go_enter Try.func14, Try.ntmps14
  go_wp2_with (go_at_call 18; refine (civil_any _ _ h0 h1).mono ?_; rintro e w' ⟨rfl, rfl⟩)
  go_ret3
  exact ⟨rfl, rfl⟩

end Go.Proofs.Qxb6602385a
