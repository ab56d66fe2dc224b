/-
  The walks of (Decimal).Sign (14), ZZMake (8), internal/bytealg.CompareString (18), strings.Compare (15), (Decimal).Cmp (9).
-/
import Derived.Test.Qxb6602496aRows
import Derived.Test.Qxb6602496aOrd
import Derived.WalkKit
import Derived.ProofKit
import Derived.WalkSpells
import Derived.WalkLawsBesides
import Derived.Lib.Bytealg
import Derived.Deep.RegionWith
import Derived.BigRegion
import Derived.Deep.DeepCutAuto
namespace Go.Proofs.Qxb6602496a
open Go.RowKit
theorem ret_int {a b : Int} (h : a = b) : Ending.returned (.int .i64 a) = .returned (.int .i64 b) := by rw [h]
set_option maxHeartbeats 400000 in
theorem sign_any (n : Bool) (s : ByteArray) (p : Int) (w : World) :
    Calls Try.prog 14 #[.agg #[.bool n, .string s, .int .i64 p]] w fun e w' => e = .returned (.int .i64 (Ord.sgn n s)) ∧ w' = w.alloc (.cells #[.bool n, .string s, .int .i64 p] 25) := by
  have HS : Hid (Ord.sgn n s = if s.toList.isEmpty then 0 else if n then -1 else 1) := rfl
  rcases Bool.eq_false_or_eq_true (s.toList.isEmpty) with hs | hs
  · go_enter Try.func14, Try.ntmps14
    go_wp2
    go_ret
    exact ⟨ret_int (by rw [HS.out, hs]; rfl), rfl⟩
  · cases n
    · go_enter Try.func14, Try.ntmps14
      go_wp2
      go_ret
      exact ⟨ret_int (by rw [HS.out, hs]; rfl), rfl⟩
    · go_enter Try.func14, Try.ntmps14
      go_wp2
      go_ret
      exact ⟨ret_int (by rw [HS.out, hs]; rfl), rfl⟩

theorem make_any (n : Bool) (s : ByteArray) (p : Int) (w : World) :
    Calls Try.prog 8 #[.bool n, .string s, .int .i64 p] w fun e w' => e = .returned (.agg #[.bool n, .string s, .int .i64 p]) ∧ w' = w.alloc (.cells #[.bool n, .string s, .int .i64 p] 25) := by
  go_enter Try.func8, Try.ntmps8
  go_wp2
  exact bodyPost_ret (v := .agg #[.bool n, .string s, .int .i64 p]) (by simp [results, Try.results8, go_sem]) rfl ⟨rfl, rfl⟩

theorem cmpstr (a b : ByteArray) (w : World) : Calls Try.prog 18 #[.string a, .string b] w fun e w' => e = .returned (.int .i64 (Lib.compareBytes a.data.toList b.data.toList)) ∧ w' = w := by
  go_enter Try.func18, Try.ntmps18
  go_wp2
  rw [run_callFunc_extern Try.func20 (by kernel_rfl) (by kernel_rfl) (by kernel_rfl) (e := Extern.BytealgCompare.compare) (by kernel_rfl), Lib.run_compareString]
  simp only [Result.andThen]
  rw [Oper.upon_value]
  go_wp2
  go_ret
  exact ⟨rfl, rfl⟩

theorem compare_any (a b : ByteArray) (w : World) : Calls Try.prog 15 #[.string a, .string b] w fun e w' => e = .returned (.int .i64 (Lib.compareBytes a.data.toList b.data.toList)) ∧ w' = w := by
  go_enter Try.func15, Try.ntmps15
  go_wp2_with (go_at_call 18; refine (cmpstr _ _ _).mono ?_; rintro e w' ⟨rfl, rfl⟩)
  go_ret
  exact ⟨rfl, rfl⟩

/-- the two boxes of Cmp's parameters, in a world that has grown since -/
structure Boxes (w : World) (n1 : Bool) (s1 : ByteArray) (p1 : Int) (n2 : Bool) (s2 : ByteArray) (p2 : Int) (wx : World) : Prop where
  a0 : wx.cell? ⟨w.heap.size, 0, none⟩ = some (.bool n1)
  a1 : wx.cell? ⟨w.heap.size, 1, none⟩ = some (.string s1)
  a2 : wx.cell? ⟨w.heap.size, 2, none⟩ = some (.int .i64 p1)
  b0 : wx.cell? ⟨w.heap.size + 1, 0, none⟩ = some (.bool n2)
  b1 : wx.cell? ⟨w.heap.size + 1, 1, none⟩ = some (.string s2)
  b2 : wx.cell? ⟨w.heap.size + 1, 2, none⟩ = some (.int .i64 p2)
  size : w.heap.size + 2 ≤ wx.heap.size
  bel : Below w.heap.size w wx

theorem Boxes.start (w : World) (n1 : Bool) (s1 : ByteArray) (p1 : Int) (n2 : Bool) (s2 : ByteArray) (p2 : Int) :
    Boxes w n1 s1 p1 n2 s2 p2 ((w.alloc (.cells #[.bool n1, .string s1, .int .i64 p1] 25)).alloc (.cells #[.bool n2, .string s2, .int .i64 p2] 25)) := by
  refine ⟨?_, ?_, ?_, ?_, ?_, ?_, by simp, ((Below.refl _ _).alloc (Nat.le_refl _) _).alloc (by simp) _⟩ <;> simp [go_sem]

theorem Boxes.alloc {w : World} {n1 : Bool} {s1 : ByteArray} {p1 : Int} {n2 : Bool} {s2 : ByteArray} {p2 : Int} {wx : World} (h : Boxes w n1 s1 p1 n2 s2 p2 wx) (o : Obj) :
    Boxes w n1 s1 p1 n2 s2 p2 (wx.alloc o) := by
  have hb : Below (w.heap.size + 2) wx (wx.alloc o) := (Below.refl _ _).alloc h.size o
  have hc : ∀ b j, b < w.heap.size + 2 → (wx.alloc o).cell? ⟨b, j, none⟩ = wx.cell? ⟨b, j, none⟩ := fun b j hbj => hb.cell (p := ⟨b, j, none⟩) hbj
  refine ⟨by rw [hc _ _ (by omega)]; exact h.a0, by rw [hc _ _ (by omega)]; exact h.a1, by rw [hc _ _ (by omega)]; exact h.a2, by rw [hc _ _ (by omega)]; exact h.b0, by rw [hc _ _ (by omega)]; exact h.b1, by rw [hc _ _ (by omega)]; exact h.b2, by have := h.size; simp; omega, h.bel.alloc (by have := h.size; omega) o⟩

theorem Boxes.drew {w : World} {n1 : Bool} {s1 : ByteArray} {p1 : Int} {n2 : Bool} {s2 : ByteArray} {p2 : Int} {wx : World} (h : Boxes w n1 s1 p1 n2 s2 p2 wx) :
    Boxes w n1 s1 p1 n2 s2 p2 wx.drew := ⟨h.a0, h.a1, h.a2, h.b0, h.b1, h.b2, h.size, h.bel.drew⟩

set_option maxHeartbeats 1000000 in
theorem cmp_any (n1 : Bool) (s1 : ByteArray) (p1 : Int) (n2 : Bool) (s2 : ByteArray) (p2 : Int) (w : World) :
    Calls Try.prog 9 #[.agg #[.bool n1, .string s1, .int .i64 p1], .agg #[.bool n2, .string s2, .int .i64 p2]] w fun e w' => e = .returned (.int .i64 (Ord.cmpD n1 s1 p1 n2 s2 p2)) ∧ Below w.heap.size w w' := by
  have HC : Hid (Ord.cmpD n1 s1 p1 n2 s2 p2 = if Ord.sgn n1 s1 = Ord.sgn n2 s2 then (if n1 then -(Ord.sizeCmp s1 p1 s2 p2) else Ord.sizeCmp s1 p1 s2 p2) else if Ord.sgn n1 s1 < Ord.sgn n2 s2 then -1 else 1) := rfl
  have HS1 : ∀ w, Calls Try.prog 14 #[.agg #[.bool n1, .string s1, .int .i64 p1]] w fun e w' => e = .returned (.int .i64 (Ord.sgn n1 s1)) ∧ w' = w.alloc (.cells #[.bool n1, .string s1, .int .i64 p1] 25) := sign_any n1 s1 p1
  have HS2 : ∀ w, Calls Try.prog 14 #[.agg #[.bool n2, .string s2, .int .i64 p2]] w fun e w' => e = .returned (.int .i64 (Ord.sgn n2 s2)) ∧ w' = w.alloc (.cells #[.bool n2, .string s2, .int .i64 p2] 25) := sign_any n2 s2 p2
  generalize Ord.sgn n1 s1 = x1 at *
  generalize Ord.sgn n2 s2 = x2 at *
  have H1 := (show Hid _ from HS1)
  have H2 := (show Hid _ from HS2)
  clear HS1 HS2
  have B0 := Boxes.start w n1 s1 p1 n2 s2 p2
  have HB := (show Hid _ from B0)
  clear B0
  go_enter Try.func9, Try.ntmps9
  go_upto_region 1 with fail
  go_cut [10] from 6 to 10 (fun s10 wx => s10 = .bool (x1 != x2) ∧ Boxes w n1 s1 p1 n2 s2 p2 wx)
  case first =>
    go_region_with (first | (go_at_call_of 14 (s1); refine (H1.out _).mono ?_; rintro e w3 ⟨rfl, rfl⟩) | (go_at_call_of 14 (s2); refine (H2.out _).mono ?_; rintro e w3 ⟨rfl, rfl⟩))
    all_goals
      go_wp2_with fail
      go_meet
      exact ⟨rfl, ((HB.out.alloc _).alloc _).drew⟩
  case rest =>
    obtain ⟨rfl, hbx⟩ := hcut
    have g0 := hbx.a0
    have g1 := hbx.a1
    have g2 := hbx.a2
    have k0 := hbx.b0
    have k1 := hbx.b1
    have k2 := hbx.b2
    have hbel := hbx.bel
    by_cases hx : x1 = x2
    · have e0 : (x1 != x2) = false := by simp [hx]
      rw [e0]
      clear e0
      have HCE : Hid (Ord.cmpD n1 s1 p1 n2 s2 p2 = if n1 then -(Ord.sizeCmp s1 p1 s2 p2) else Ord.sizeCmp s1 p1 s2 p2) := by rw [HC.out, if_pos hx]; rfl
      have hzb := Ord.sizeCmp_bd s1 p1 s2 p2
      clear hx HC H1 H2
      by_cases hp : p1 = p2
      · have HZ : Hid (Ord.sizeCmp s1 p1 s2 p2 = Lib.compareBytes s1.data.toList s2.data.toList) := by
          show Ord.sizeCmp s1 p1 s2 p2 = _
          unfold Ord.sizeCmp; rw [if_pos hp]
        have ep : (p1 != p2) = false := by simp [hp]
        clear hp
        generalize hz : Ord.sizeCmp s1 p1 s2 p2 = z at *
        clear hz
        cases n1
        · go_wp2_with (go_at_call 15; refine (compare_any _ _ _).mono ?_; rintro e w3 ⟨rfl, rfl⟩; rw [← HZ.out])
          go_ret
          exact ⟨ret_int (by rw [HCE.out]; rfl), hbel⟩
        · go_wp2_with (go_at_call 15; refine (compare_any _ _ _).mono ?_; rintro e w3 ⟨rfl, rfl⟩; rw [← HZ.out])
          go_ret
          exact ⟨ret_int (by rw [HCE.out]; rfl), hbel⟩
      · have ep : (p1 != p2) = true := by simpa using hp
        by_cases hl : p1 < p2
        · have HZ : Hid (Ord.sizeCmp s1 p1 s2 p2 = -1) := by
            show Ord.sizeCmp s1 p1 s2 p2 = _
            unfold Ord.sizeCmp; rw [if_neg hp, if_pos hl]
          clear hp
          cases n1
          · go_wp2
            go_ret
            exact ⟨ret_int (by rw [HCE.out, HZ.out]; rfl), hbel⟩
          · go_wp2
            go_ret
            exact ⟨ret_int (by rw [HCE.out, HZ.out]; rfl), hbel⟩
        · have HZ : Hid (Ord.sizeCmp s1 p1 s2 p2 = 1) := by
            show Ord.sizeCmp s1 p1 s2 p2 = _
            unfold Ord.sizeCmp; rw [if_neg hp, if_neg hl]
          clear hp
          cases n1
          · go_wp2
            go_ret
            exact ⟨ret_int (by rw [HCE.out, HZ.out]; rfl), hbel⟩
          · go_wp2
            go_ret
            exact ⟨ret_int (by rw [HCE.out, HZ.out]; rfl), hbel⟩
    · have e0 : (x1 != x2) = true := by simpa using hx
      rw [e0]
      clear e0
      have m0 := fun o => (hbx.alloc o).b0
      have m1 := fun o => (hbx.alloc o).b1
      have m2 := fun o => (hbx.alloc o).b2
      go_upto_region 2 with fail
      go_cut [15] from 11 to 15 (fun s15 wx => s15 = .bool (decide (x1 < x2)) ∧ Boxes w n1 s1 p1 n2 s2 p2 wx)
      case first =>
        go_region_with (first | (go_at_call_of 14 (s1); refine (H1.out _).mono ?_; rintro e w3 ⟨rfl, rfl⟩) | (go_at_call_of 14 (s2); refine (H2.out _).mono ?_; rintro e w3 ⟨rfl, rfl⟩))
        all_goals
          go_wp2_with fail
          go_meet
          exact ⟨rfl, ((hbx.alloc _).alloc _).drew⟩
      case rest =>
        obtain ⟨rfl, hbx2⟩ := hcut
        have hbel2 := hbx2.bel
        by_cases hl : x1 < x2
        · go_wp2
          go_ret
          exact ⟨ret_int (by rw [HC.out, if_neg hx, if_pos hl]), hbel2⟩
        · go_wp2
          go_ret
          exact ⟨ret_int (by rw [HC.out, if_neg hx, if_neg (by omega)]), hbel2⟩
end Go.Proofs.Qxb6602496a
