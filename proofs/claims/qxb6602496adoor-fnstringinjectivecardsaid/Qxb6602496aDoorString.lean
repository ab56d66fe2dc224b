/-
  The walk of (Decimal).String (16), over the shelf's contract for strconv.FormatInt at base 10 (25).
-/
import Derived.Test.Qxb6602496aDoorWay
import Derived.Test.Qxb6602496aDoorShelf
import Derived.Lib.ItoaLen
import Derived.Lib.AppendIntMem
import Derived.Deep.RegionHeld
import Derived.Deep.DeepCutAuto
namespace Go.Proofs.Qxb6602496aDoor
open Go.RowKit

/-- the table's name, as the row bears it -/
def pow10Name : String := Rows.fnStringInjectiveRow.named.headD ""

theorem format_any (n : Int) (h0 : -9223372036854775808 ≤ n) (h1 : n ≤ 9223372036854775807) (w : World) (htab : Lib.TabIs Tryd.prog w pow10Name .u64 Lib.pow10Tab) :
    Calls Tryd.prog 25 #[.int .i64 n, .int .i64 10] w fun e w' => e = .returned (.string ⟨(Lib.itoa n).toArray⟩) ∧ Below w.heap.size w w' := by
  have hF : Calls Tryd.prog 25 #[.int .i64 n, .int .i64 10] w fun e w' => e = .returned (.string ⟨(Lib.itoa n).toArray⟩) ∧ ∃ k os, w' = Go.Sort.grow (w.drewN k) os := Any.strconv_FormatInt_10 Tryd.laysM173 n h0 h1 w htab
  refine hF.mono ?_
  rintro e w' ⟨rfl, k, os, rfl⟩
  exact ⟨rfl, Lib.below_grow _ _ (Nat.le_refl _) _ _⟩

theorem bytes_ext {a b : ByteArray} (h : a.data.toList = b.data.toList) : a = b := by
  obtain ⟨a⟩ := a; obtain ⟨b⟩ := b
  congr 1
  exact Array.toList_inj.1 h

theorem ret_string {a b : ByteArray} (h : a = b) : Ending.returned (.string a) = .returned (.string b) := by rw [h]

theorem boxcells (w : World) (n : Bool) (s : ByteArray) (p : Int) (wx : World) (hb : Below (w.heap.size + 1) (w.alloc (.cells #[.bool n, .string s, .int .i64 p] 25)) wx) :
    wx.cell? ⟨w.heap.size, 0, none⟩ = some (.bool n) ∧ wx.cell? ⟨w.heap.size, 1, none⟩ = some (.string s) ∧ wx.cell? ⟨w.heap.size, 2, none⟩ = some (.int .i64 p) := by
  refine ⟨?_, ?_, ?_⟩
  · rw [hb.cell (p := ⟨w.heap.size, 0, none⟩) (by simp)]; simp [go_sem]
  · rw [hb.cell (p := ⟨w.heap.size, 1, none⟩) (by simp)]; simp [go_sem]
  · rw [hb.cell (p := ⟨w.heap.size, 2, none⟩) (by simp)]; simp [go_sem]

theorem boxgrown (w : World) (n : Bool) (s : ByteArray) (p : Int) (w5 : World)
    (hb : Below (w.alloc (.cells #[.bool n, .string s, .int .i64 p] 25)).drew.heap.size (w.alloc (.cells #[.bool n, .string s, .int .i64 p] 25)).drew w5) :
    Below (w.heap.size + 1) (w.alloc (.cells #[.bool n, .string s, .int .i64 p] 25)) w5 :=
  ((Below.refl _ _).drew).trans (hb.mono (by simp))

set_option maxHeartbeats 1000000 in
theorem string_any (n : Bool) (s : ByteArray) (p : Int) (w : World) (hs : s.size ≤ 1048576) (_b0 : -9223372036854775808 ≤ p) (_b1 : p ≤ 9223372036854775807) (htab : Lib.TabIs Tryd.prog w pow10Name .u64 Lib.pow10Tab) :
    Calls Tryd.prog 16 #[.agg #[.bool n, .string s, .int .i64 p]] w fun e w' => e = .returned (.string ⟨(Txt.text n s.data.toList p).toArray⟩) ∧ Below w.heap.size w w' := by
  by_cases h0 : s.size = 0
  · have he := empty_true s h0
    have HT : Hid (Txt.text n s.data.toList p = [48]) := by
      show Txt.text n s.data.toList p = [48]
      unfold Txt.text
      rw [← Lib.toList_data, he]; rfl
    go_enter Tryd.func16, Tryd.ntmps16
    go_wp2
    go_ret
    exact ⟨ret_string (by rw [HT.out]), (Below.refl _ _).alloc (Nat.le_refl _) _⟩
  · have he := empty_false s h0
    obtain ⟨m, hm⟩ : ∃ m, wrap64 (p - (s.size : Int)) = m := ⟨_, rfl⟩
    have m0 : -9223372036854775808 ≤ m := by rw [← hm]; unfold wrap64; omega
    have m1 : m ≤ 9223372036854775807 := by rw [← hm]; unfold wrap64; omega
    obtain ⟨t, ht⟩ : ∃ t : ByteArray, (⟨(Lib.itoa m).toArray⟩ : ByteArray) = t := ⟨_, rfl⟩
    have htl : t.size ≤ 21 := by rw [← ht]; have := Lib.itoa_length_le m m0 m1; simpa [ByteArray.size] using this
    have HF : Hid (∀ wx, Below w.heap.size w wx → Calls Tryd.prog 25 #[.int .i64 m, .int .i64 10] wx fun e w' => e = .returned (.string t) ∧ Below wx.heap.size wx w') := by
      intro wx hb
      rw [← ht]
      exact format_any m m0 m1 wx (Lib.tabBelow_of_tabIs htab wx hb)
    clear htab
    have HB0 : Hid (Below w.heap.size w (w.alloc (.cells #[.bool n, .string s, .int .i64 p] 25)).drew) := ((Below.refl _ _).alloc (Nat.le_refl _) _).drew
    have HX : Hid (Txt.text n s.data.toList p = if n then 45 :: (s.data.toList ++ 101 :: Lib.itoa m) else s.data.toList ++ 101 :: Lib.itoa m) := by
      show Txt.text n s.data.toList p = _
      unfold Txt.text
      have hl : s.data.toList.length = s.size := by simp
      rw [← hm, hl, ← Lib.toList_data, he]; rfl
    have HTT : Hid (t.data.toList = Lib.itoa m) := by rw [← ht]; rfl
    clear ht
    have HM : Hid (IntKind.i64.wrap (p - (s.size : Int)) = m) := by show IntKind.i64.wrap _ = m; rw [← hm, IntKind.wrap_i64, wrap64]
    go_enter Tryd.func16, Tryd.ntmps16
    go_upto_region 3 with fail
    go_cut [3] from 7 to 17 (fun s3 wx => s3 = .string (s ++ ⟨#[101]⟩ ++ t) ∧ Below (w.heap.size + 1) (w.alloc (.cells #[.bool n, .string s, .int .i64 p] 25)) wx)
    case first =>
      go_region_held (fun w' => w'.cell? ⟨w.heap.size, 1, none⟩ = some (.string s) ∧ w'.cell? ⟨w.heap.size, 2, none⟩ = some (.int .i64 p)) (go_keep)
        (first | (go_at_call 25; (try rw [HM.out]); refine (HF.out _ HB0.out).mono ?_; rintro e w5 ⟨rfl, hb5⟩; have hb6 := boxgrown w n s p w5 hb5; clear hb5; obtain ⟨k0, k1, k2⟩ := boxcells w n s p w5 hb6))
      all_goals
        go_wp2_with fail
        go_meet
        exact ⟨rfl, hb6⟩
    case rest =>
      obtain ⟨rfl, hbx⟩ := hcut
      obtain ⟨k0, k1, k2⟩ := boxcells w n s p _ hbx
      have hbw : Below w.heap.size w wc := ((Below.refl _ _).alloc (Nat.le_refl _) _).trans (hbx.mono (by omega))
      clear hbx
      cases n
      · go_wp2
        go_ret
        exact ⟨ret_string (bytes_ext (by rw [HX.out]; simp [HTT.out])), hbw⟩
      · go_wp2
        go_ret
        exact ⟨ret_string (bytes_ext (by rw [HX.out]; simp [HTT.out])), hbw⟩
end Go.Proofs.Qxb6602496aDoor
