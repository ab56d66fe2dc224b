/-
  The walks of digitAt (19), magnitudeCmp (17), signOf (16), modelCmp (10).
-/
import Derived.Test.Qxb6602496aRows
import Derived.Test.Qxb6602496aPlaces
import Derived.WalkKit
import Derived.ProofKit
import Derived.WalkSpells
import Derived.WalkLawsBesides
namespace Go.Proofs.Qxb6602496a
open Go.RowKit

theorem ret_intM {k : IntKind} {a b : Int} (h : a = b) : Ending.returned (.int k a) = .returned (.int k b) := by rw [h]

theorem dA_bd (s : ByteArray) (j : Int) : 0 ≤ Ord.dA s j ∧ Ord.dA s j < 256 := by
  unfold Ord.dA Ord.pad
  split
  · have := (((s.data.toList)[j.toNat]?).getD 48).toNat_lt; omega
  · omega

set_option maxRecDepth 10000 in
theorem digitAt_any (s : ByteArray) (p t : Int) (w : World) (_hs : s.size ≤ 1048576) (_p0 : -2305843009213693952 ≤ p) (_p1 : p ≤ 2305843009213693952) (_t0 : -4305843009213693952 ≤ t) (_t1 : t ≤ 4305843009213693952) :
    Calls Try.prog 19 #[.string s, .int .i64 p, .int .i64 t] w fun e w' => e = .returned (.int .u8 (Ord.dA s (p - 1 - t))) ∧ w' = w := by
  obtain ⟨j, hj⟩ : ∃ j, p - 1 - t = j := ⟨_, rfl⟩
  rw [hj]
  by_cases h0 : j < 0
  · have HD : Hid (Ord.dA s j = 48) := by show Ord.dA s j = 48; unfold Ord.dA; rw [if_neg (by omega)]
    go_enter Try.func19, Try.ntmps19
    go_wp2
    go_ret
    exact ⟨ret_intM HD.out.symm, rfl⟩
  · obtain ⟨q, rfl⟩ := Int.eq_ofNat_of_zero_le (by omega : 0 ≤ j)
    have HQ : Hid (Ord.dA s (q : Int) = Ord.pad s.data.toList q) := by show Ord.dA s (q : Int) = _; unfold Ord.dA; rw [if_pos (by omega)]; rfl
    by_cases h1 : (s.size : Int) ≤ (q : Int)
    · have HD : Hid (Ord.dA s (q : Int) = 48) := by
        rw [HQ.out]; show Ord.pad s.data.toList q = 48; unfold Ord.pad; rw [List.getElem?_eq_none (by simp; omega)]; rfl
      clear HQ
      go_enter Try.func19, Try.ntmps19
      go_wp2
      go_ret
      exact ⟨ret_intM HD.out.symm, rfl⟩
    · have hq : q < s.size := by omega
      have HD : Hid (Ord.dA s (q : Int) = (s[q].toNat : Int)) := by rw [HQ.out]; exact Ord.pad_at s q hq
      clear HQ
      go_enter Try.func19, Try.ntmps19
      go_wp2
      go_ret
      exact ⟨ret_intM HD.out.symm, rfl⟩

theorem signOf_any (n : Bool) (s : ByteArray) (w : World) : Calls Try.prog 16 #[.bool n, .string s] w fun e w' => e = .returned (.int .i64 (Ord.sgn n s)) ∧ w' = w := by
  have HS : Hid (Ord.sgn n s = if s.toList.isEmpty then 0 else if n then -1 else 1) := rfl
  rcases Bool.eq_false_or_eq_true (s.toList.isEmpty) with hs | hs
  · go_enter Try.func16, Try.ntmps16
    go_wp2
    go_ret
    exact ⟨ret_intM (by rw [HS.out, hs]; rfl), rfl⟩
  · cases n
    · go_enter Try.func16, Try.ntmps16
      go_wp2
      go_ret
      exact ⟨ret_intM (by rw [HS.out, hs]; rfl), rfl⟩
    · go_enter Try.func16, Try.ntmps16
      go_wp2
      go_ret
      exact ⟨ret_intM (by rw [HS.out, hs]; rfl), rfl⟩

set_option maxHeartbeats 1000000 in
theorem mag_any {n1 n2 : Bool} {s1 s2 : ByteArray} {p1 p2 : Int} (h1 : Canon n1 s1 p1) (h2 : Canon n2 s2 p2) (z1 : 0 < s1.size) (z2 : 0 < s2.size) (w : World)
    (l1 : s1.size ≤ 1048576) (l2 : s2.size ≤ 1048576) (a0 : -2305843009213693952 ≤ p1) (a1 : p1 ≤ 2305843009213693952) (b0 : -2305843009213693952 ≤ p2) (b1 : p2 ≤ 2305843009213693952) :
    Calls Try.prog 17 #[.string s1, .int .i64 p1, .string s2, .int .i64 p2] w fun e w' => e = .returned (.int .i64 (Ord.sizeCmp s1 p1 s2 p2)) ∧ w' = w := by
  have C1 : Hid (Canon n1 s1 p1) := h1
  have C2 : Hid (Canon n2 s2 p2) := h2
  clear h1 h2
  obtain ⟨T, hT⟩ : ∃ T, Ord.top p1 p2 = T := ⟨_, rfl⟩
  have t0 : -2305843009213693952 ≤ T := by rw [← hT]; unfold Ord.top; split <;> omega
  have t1 : T ≤ 2305843009213693952 := by rw [← hT]; unfold Ord.top; split <;> omega
  have HT : Hid (Ord.top p1 p2 = T) := hT
  have HX : Hid ((p1 < p2 → T = p2) ∧ (¬ p1 < p2 → T = p1)) := by
    rw [← hT]; unfold Ord.top; exact ⟨fun h => if_pos h, fun h => if_neg h⟩
  clear hT
  by_cases hl : p1 < p2
  · have e1 : T = p2 := HX.out.1 hl
    clear HX
    subst e1
    go_enter Try.func17, Try.ntmps17
    go_wp2
    go_loop [11] (fun i => ∃ k : Nat, k ≤ s1.size + s2.size ∧ i = .int .i64 k ∧ Hid (∀ i, i < k → Ord.hA s1 p1 T i = Ord.hA s2 T T i)) (fun i => s1.size + s2.size - (intOf i).toNat)
    case atStart => exact ⟨0, Nat.zero_le _, rfl, fun i hi => by omega⟩
    case round =>
      obtain ⟨k, hk, rfl, HE⟩ := hrel
      have HE' : Hid (∀ i, i < k → Ord.hA s1 p1 (Ord.top p1 T) i = Ord.hA s2 T (Ord.top p1 T) i) := by rw [HT.out]; exact HE.out
      by_cases hlt : k < s1.size + s2.size
      · obtain ⟨x, hx⟩ : ∃ x, Ord.hA s1 p1 T k = x := ⟨_, rfl⟩
        obtain ⟨y, hy⟩ : ∃ y, Ord.hA s2 T T k = y := ⟨_, rfl⟩
        have X : Hid (Ord.dA s1 (p1 - 1 - (T - 1 - (k : Int))) = x) := hx
        have Y : Hid (Ord.dA s2 (T - 1 - (T - 1 - (k : Int))) = y) := hy
        have X' : Hid (Ord.hA s1 p1 T k = x) := hx
        have Y' : Hid (Ord.hA s2 T T k = y) := hy
        have bx : 0 ≤ x ∧ x < 256 := by rw [← hx]; exact dA_bd _ _
        have b_y : 0 ≤ y ∧ y < 256 := by rw [← hy]; exact dA_bd _ _
        clear hx hy
        by_cases hxy : x < y
        · have HS : Hid (Ord.sizeCmp s1 p1 s2 T = -1) := Ord.places_lt C1.out C2.out z1 z2 k HE'.out (by rw [HT.out, X'.out, Y'.out]; exact hxy)
          go_wp2_with fail
          refine (digitAt_any s1 p1 (T - 1 - (k : Int)) _ l1 (by omega) (by omega) (by omega) (by omega)).mono ?_
          rintro e w' ⟨rfl, hw⟩
          rw [hw, X.out]
          clear hw w'
          go_wp2_with fail
          refine (digitAt_any s2 T (T - 1 - (k : Int)) _ l2 (by omega) (by omega) (by omega) (by omega)).mono ?_
          rintro e w' ⟨rfl, hw⟩
          rw [hw, Y.out]
          clear hw w'
          go_wp2
          go_ret
          exact ⟨ret_intM HS.out.symm, rfl⟩
        · by_cases hyx : y < x
          · have HS : Hid (Ord.sizeCmp s1 p1 s2 T = 1) := Ord.places_gt C1.out C2.out z1 z2 k HE'.out (by rw [HT.out, X'.out, Y'.out]; exact hyx)
            go_wp2_with fail
            refine (digitAt_any s1 p1 (T - 1 - (k : Int)) _ l1 (by omega) (by omega) (by omega) (by omega)).mono ?_
            rintro e w' ⟨rfl, hw⟩
            rw [hw, X.out]
            clear hw w'
            go_wp2_with fail
            refine (digitAt_any s2 T (T - 1 - (k : Int)) _ l2 (by omega) (by omega) (by omega) (by omega)).mono ?_
            rintro e w' ⟨rfl, hw⟩
            rw [hw, Y.out]
            clear hw w'
            go_wp2
            go_ret
            exact ⟨ret_intM HS.out.symm, rfl⟩
          · have HN : Hid (∀ i, i < k + 1 → Ord.hA s1 p1 T i = Ord.hA s2 T T i) := by
              intro i hi
              by_cases e : i = k
              · rw [e, X'.out, Y'.out]; omega
              · exact HE.out i (by omega)
            go_wp2_with fail
            refine (digitAt_any s1 p1 (T - 1 - (k : Int)) _ l1 (by omega) (by omega) (by omega) (by omega)).mono ?_
            rintro e w' ⟨rfl, hw⟩
            rw [hw, X.out]
            clear hw w'
            go_wp2_with fail
            refine (digitAt_any s2 T (T - 1 - (k : Int)) _ l2 (by omega) (by omega) (by omega) (by omega)).mono ?_
            rintro e w' ⟨rfl, hw⟩
            rw [hw, Y.out]
            clear hw w'
            go_wp2
            go_round
            case rel => exact ⟨k + 1, by omega, by go_num, HN⟩
            case measure => simp [intOf]; omega
      · have HS : Hid (Ord.sizeCmp s1 p1 s2 T = 0) := Ord.places_eq C1.out C2.out z1 z2 k HE'.out (by omega)
        go_wp2
        go_ret
        exact ⟨ret_intM HS.out.symm, rfl⟩
  · have e1 : T = p1 := HX.out.2 hl
    clear HX
    subst e1
    go_enter Try.func17, Try.ntmps17
    go_wp2
    go_loop [11] (fun i => ∃ k : Nat, k ≤ s1.size + s2.size ∧ i = .int .i64 k ∧ Hid (∀ i, i < k → Ord.hA s1 T T i = Ord.hA s2 p2 T i)) (fun i => s1.size + s2.size - (intOf i).toNat)
    case atStart => exact ⟨0, Nat.zero_le _, rfl, fun i hi => by omega⟩
    case round =>
      obtain ⟨k, hk, rfl, HE⟩ := hrel
      have HE' : Hid (∀ i, i < k → Ord.hA s1 T (Ord.top T p2) i = Ord.hA s2 p2 (Ord.top T p2) i) := by rw [HT.out]; exact HE.out
      by_cases hlt : k < s1.size + s2.size
      · obtain ⟨x, hx⟩ : ∃ x, Ord.hA s1 T T k = x := ⟨_, rfl⟩
        obtain ⟨y, hy⟩ : ∃ y, Ord.hA s2 p2 T k = y := ⟨_, rfl⟩
        have X : Hid (Ord.dA s1 (T - 1 - (T - 1 - (k : Int))) = x) := hx
        have Y : Hid (Ord.dA s2 (p2 - 1 - (T - 1 - (k : Int))) = y) := hy
        have X' : Hid (Ord.hA s1 T T k = x) := hx
        have Y' : Hid (Ord.hA s2 p2 T k = y) := hy
        have bx : 0 ≤ x ∧ x < 256 := by rw [← hx]; exact dA_bd _ _
        have b_y : 0 ≤ y ∧ y < 256 := by rw [← hy]; exact dA_bd _ _
        clear hx hy
        by_cases hxy : x < y
        · have HS : Hid (Ord.sizeCmp s1 T s2 p2 = -1) := Ord.places_lt C1.out C2.out z1 z2 k HE'.out (by rw [HT.out, X'.out, Y'.out]; exact hxy)
          go_wp2_with fail
          refine (digitAt_any s1 T (T - 1 - (k : Int)) _ l1 (by omega) (by omega) (by omega) (by omega)).mono ?_
          rintro e w' ⟨rfl, hw⟩
          rw [hw, X.out]
          clear hw w'
          go_wp2_with fail
          refine (digitAt_any s2 p2 (T - 1 - (k : Int)) _ l2 (by omega) (by omega) (by omega) (by omega)).mono ?_
          rintro e w' ⟨rfl, hw⟩
          rw [hw, Y.out]
          clear hw w'
          go_wp2
          go_ret
          exact ⟨ret_intM HS.out.symm, rfl⟩
        · by_cases hyx : y < x
          · have HS : Hid (Ord.sizeCmp s1 T s2 p2 = 1) := Ord.places_gt C1.out C2.out z1 z2 k HE'.out (by rw [HT.out, X'.out, Y'.out]; exact hyx)
            go_wp2_with fail
            refine (digitAt_any s1 T (T - 1 - (k : Int)) _ l1 (by omega) (by omega) (by omega) (by omega)).mono ?_
            rintro e w' ⟨rfl, hw⟩
            rw [hw, X.out]
            clear hw w'
            go_wp2_with fail
            refine (digitAt_any s2 p2 (T - 1 - (k : Int)) _ l2 (by omega) (by omega) (by omega) (by omega)).mono ?_
            rintro e w' ⟨rfl, hw⟩
            rw [hw, Y.out]
            clear hw w'
            go_wp2
            go_ret
            exact ⟨ret_intM HS.out.symm, rfl⟩
          · have HN : Hid (∀ i, i < k + 1 → Ord.hA s1 T T i = Ord.hA s2 p2 T i) := by
              intro i hi
              by_cases e : i = k
              · rw [e, X'.out, Y'.out]; omega
              · exact HE.out i (by omega)
            go_wp2_with fail
            refine (digitAt_any s1 T (T - 1 - (k : Int)) _ l1 (by omega) (by omega) (by omega) (by omega)).mono ?_
            rintro e w' ⟨rfl, hw⟩
            rw [hw, X.out]
            clear hw w'
            go_wp2_with fail
            refine (digitAt_any s2 p2 (T - 1 - (k : Int)) _ l2 (by omega) (by omega) (by omega) (by omega)).mono ?_
            rintro e w' ⟨rfl, hw⟩
            rw [hw, Y.out]
            clear hw w'
            go_wp2
            go_round
            case rel => exact ⟨k + 1, by omega, by go_num, HN⟩
            case measure => simp [intOf]; omega
      · have HS : Hid (Ord.sizeCmp s1 T s2 p2 = 0) := Ord.places_eq C1.out C2.out z1 z2 k HE'.out (by omega)
        go_wp2
        go_ret
        exact ⟨ret_intM HS.out.symm, rfl⟩

theorem nil_of_size (s : ByteArray) (h : s.size = 0) : s.data.toList = [] := by
  have : s.data.toList.length = s.size := by simp
  exact List.eq_nil_of_length_eq_zero (by omega)
theorem sgn_pos {n : Bool} {s : ByteArray} (h : 0 < s.size) : Ord.sgn n s = if n then -1 else 1 := by
  unfold Ord.sgn; rw [empty_false s (by omega)]; rfl
theorem sgn_zero {n : Bool} {s : ByteArray} (h : s.size = 0) : Ord.sgn n s = 0 := by
  unfold Ord.sgn; rw [empty_true s h]; rfl
theorem size_zero {n : Bool} {s : ByteArray} (h : Ord.sgn n s = 0) : s.size = 0 := by
  rcases Nat.eq_zero_or_pos s.size with e | e
  · exact e
  · rw [sgn_pos e] at h; cases n <;> simp at h
theorem size_pos {n : Bool} {s : ByteArray} (h : ¬ Ord.sgn n s = 0) : 0 < s.size := by
  rcases Nat.eq_zero_or_pos s.size with e | e
  · exact absurd (sgn_zero e) h
  · exact e

set_option maxHeartbeats 1000000 in
theorem model_any {n1 n2 : Bool} {s1 s2 : ByteArray} {p1 p2 : Int} (h1 : Canon n1 s1 p1) (h2 : Canon n2 s2 p2) (w : World)
    (l1 : s1.size ≤ 1048576) (l2 : s2.size ≤ 1048576) (a0 : -2305843009213693952 ≤ p1) (a1 : p1 ≤ 2305843009213693952) (b0 : -2305843009213693952 ≤ p2) (b1 : p2 ≤ 2305843009213693952) :
    Calls Try.prog 10 #[.bool n1, .string s1, .int .i64 p1, .bool n2, .string s2, .int .i64 p2] w fun e w' => e = .returned (.int .i64 (Ord.cmpD n1 s1 p1 n2 s2 p2)) ∧ w' = w := by
  have C1 : Hid (Canon n1 s1 p1) := h1
  have C2 : Hid (Canon n2 s2 p2) := h2
  clear h1 h2
  have HC : Hid (Ord.cmpD n1 s1 p1 n2 s2 p2 = if Ord.sgn n1 s1 = Ord.sgn n2 s2 then (if n1 then -(Ord.sizeCmp s1 p1 s2 p2) else Ord.sizeCmp s1 p1 s2 p2) else if Ord.sgn n1 s1 < Ord.sgn n2 s2 then -1 else 1) := rfl
  obtain ⟨x1, hx1⟩ : ∃ x, Ord.sgn n1 s1 = x := ⟨_, rfl⟩
  obtain ⟨x2, hx2⟩ : ∃ x, Ord.sgn n2 s2 = x := ⟨_, rfl⟩
  rw [hx1, hx2] at HC
  have X1 : Hid (Ord.sgn n1 s1 = x1) := hx1
  have X2 : Hid (Ord.sgn n2 s2 = x2) := hx2
  have bx1 : -1 ≤ x1 ∧ x1 ≤ 1 := by rw [← hx1]; exact Ord.sgn_bd _ _
  have bx2 : -1 ≤ x2 ∧ x2 ≤ 1 := by rw [← hx2]; exact Ord.sgn_bd _ _
  clear hx1 hx2
  by_cases hlt : x1 < x2
  · have HF : Hid (Ord.cmpD n1 s1 p1 n2 s2 p2 = -1) := by rw [HC.out, if_neg (by omega), if_pos hlt]; rfl
    clear HC
    go_enter Try.func10, Try.ntmps10
    go_wp2_with fail
    refine (signOf_any n1 s1 _).mono ?_
    rintro e w' ⟨rfl, hw⟩
    rw [hw, X1.out]
    clear hw w'
    go_wp2_with fail
    refine (signOf_any n2 s2 _).mono ?_
    rintro e w' ⟨rfl, hw⟩
    rw [hw, X2.out]
    clear hw w'
    go_wp2
    go_ret
    exact ⟨ret_intM HF.out.symm, rfl⟩
  · by_cases hgt : x2 < x1
    · have HF : Hid (Ord.cmpD n1 s1 p1 n2 s2 p2 = 1) := by rw [HC.out, if_neg (by omega), if_neg hlt]; rfl
      clear HC
      go_enter Try.func10, Try.ntmps10
      go_wp2_with fail
      refine (signOf_any n1 s1 _).mono ?_
      rintro e w' ⟨rfl, hw⟩
      rw [hw, X1.out]
      clear hw w'
      go_wp2_with fail
      refine (signOf_any n2 s2 _).mono ?_
      rintro e w' ⟨rfl, hw⟩
      rw [hw, X2.out]
      clear hw w'
      go_wp2
      go_ret
      exact ⟨ret_intM HF.out.symm, rfl⟩
    · have hxx : x1 = x2 := by omega
      subst hxx
      have HF : Hid (Ord.cmpD n1 s1 p1 n2 s2 p2 = if n1 then -(Ord.sizeCmp s1 p1 s2 p2) else Ord.sizeCmp s1 p1 s2 p2) := by rw [HC.out, if_pos rfl]; rfl
      clear HC
      by_cases h0 : x1 = 0
      · have HG : Hid (Ord.cmpD n1 s1 p1 n2 s2 p2 = 0) := by
          rw [h0] at X1 X2
          have f1 := C1.out.zero (size_zero X1.out)
          have f2 := C2.out.zero (size_zero X2.out)
          have e : s1 = s2 := by
            apply Ord.bytes_ext
            rw [nil_of_size s1 (size_zero X1.out), nil_of_size s2 (size_zero X2.out)]
          exact (Ord.cmpD_zero C1.out C2.out).2 ⟨by rw [f1.1, f2.1], e, by rw [f1.2, f2.2]⟩
        have q0 : (x1 == 0) = true := by simp [h0]
        clear HF
        subst h0
        go_enter Try.func10, Try.ntmps10
        go_wp2_with fail
        refine (signOf_any n1 s1 _).mono ?_
        rintro e w' ⟨rfl, hw⟩
        rw [hw, X1.out]
        clear hw w'
        go_wp2_with fail
        refine (signOf_any n2 s2 _).mono ?_
        rintro e w' ⟨rfl, hw⟩
        rw [hw, X2.out]
        clear hw w'
        go_wp2
        go_ret
        exact ⟨ret_intM HG.out.symm, rfl⟩
      · have q0 : (x1 == 0) = false := beq_eq_false_iff_ne.2 h0
        have z1 : 0 < s1.size := size_pos (by rw [X1.out]; exact h0)
        have z2 : 0 < s2.size := size_pos (by rw [X2.out]; exact h0)
        have hz := Ord.sizeCmp_bd s1 p1 s2 p2
        obtain ⟨z, hzz⟩ : ∃ z, Ord.sizeCmp s1 p1 s2 p2 = z := ⟨_, rfl⟩
        have HZ : Hid (Ord.sizeCmp s1 p1 s2 p2 = z) := hzz
        rw [hzz] at HF hz
        clear hzz
        have hsg : x1 = if n1 then -1 else 1 := by rw [← X1.out]; exact sgn_pos z1
        have HN : Hid ((x1 < 0 → n1 = true) ∧ (¬ x1 < 0 → n1 = false)) := by
          rw [hsg]; cases n1 <;> exact ⟨by simp, by simp⟩
        clear hsg h0
        by_cases hneg : x1 < 0
        · have HG : Hid (Ord.cmpD n1 s1 p1 n2 s2 p2 = -z) := by rw [HF.out, HN.out.1 hneg]; rfl
          clear HF HN
          go_enter Try.func10, Try.ntmps10
          go_wp2_with fail
          refine (signOf_any n1 s1 _).mono ?_
          rintro e w' ⟨rfl, hw⟩
          rw [hw, X1.out]
          clear hw w'
          go_wp2_with fail
          refine (signOf_any n2 s2 _).mono ?_
          rintro e w' ⟨rfl, hw⟩
          rw [hw, X2.out]
          clear hw w'
          go_wp2_with fail
          refine (mag_any C1.out C2.out z1 z2 _ l1 l2 a0 a1 b0 b1).mono ?_
          rintro e w' ⟨rfl, hw⟩
          rw [hw, HZ.out]
          clear hw w'
          go_wp2
          go_ret
          exact ⟨ret_intM HG.out.symm, rfl⟩
        · have HG : Hid (Ord.cmpD n1 s1 p1 n2 s2 p2 = z) := by rw [HF.out, HN.out.2 hneg]; rfl
          clear HF HN
          go_enter Try.func10, Try.ntmps10
          go_wp2_with fail
          refine (signOf_any n1 s1 _).mono ?_
          rintro e w' ⟨rfl, hw⟩
          rw [hw, X1.out]
          clear hw w'
          go_wp2_with fail
          refine (signOf_any n2 s2 _).mono ?_
          rintro e w' ⟨rfl, hw⟩
          rw [hw, X2.out]
          clear hw w'
          go_wp2_with fail
          refine (mag_any C1.out C2.out z1 z2 _ l1 l2 a0 a1 b0 b1).mono ?_
          rintro e w' ⟨rfl, hw⟩
          rw [hw, HZ.out]
          clear hw w'
          go_wp2
          go_ret
          exact ⟨ret_intM HG.out.symm, rfl⟩

end Go.Proofs.Qxb6602496a
