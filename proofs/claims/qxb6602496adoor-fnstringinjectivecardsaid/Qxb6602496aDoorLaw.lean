/-
  The walk of FnStringInjective (6), out of the contracts of String, writtenOneWay, ZZMake.
-/
import Derived.Test.Qxb6602496aDoorString
namespace Go.Proofs.Qxb6602496aDoor
open Go.RowKit

theorem str_beq {l1 l2 : List UInt8} : ((⟨l1.toArray⟩ : ByteArray).toList == (⟨l2.toArray⟩ : ByteArray).toList) = decide (l1 = l2) := by
  rw [Lib.toList_data, Lib.toList_data, Bool.eq_iff_iff]
  simp

theorem data_inj {a b : ByteArray} : a.data.toList = b.data.toList ↔ a = b := ⟨bytes_ext, fun h => by rw [h]⟩

theorem way1 {x : Bool} {n1 n2 : Bool} {s1 s2 : ByteArray} {p1 p2 : Int} (h : x = true ↔ (n1 = n2 ∧ s1 = s2 ∧ p1 = p2)) (hn : n1 = n2) (hs : s1.toList = s2.toList) : (x == (p1 == p2)) = true := by
  have hs' : s1 = s2 := bytes_ext (by rw [← Lib.toList_data, ← Lib.toList_data]; exact hs)
  by_cases hp : p1 = p2
  · have : x = true := h.2 ⟨hn, hs', hp⟩
    simp [this, hp]
  · have : x = false := Bool.eq_false_iff.2 (fun e => hp (h.1 e).2.2)
    rw [this, beq_eq_false_iff_ne.2 hp]; rfl
theorem way2 {x : Bool} {n1 n2 : Bool} {s1 s2 : ByteArray} {p1 p2 : Int} (h : x = true ↔ (n1 = n2 ∧ s1 = s2 ∧ p1 = p2)) (hs : ¬ s1.toList = s2.toList) : (!x) = true := by
  have : x = false := Bool.eq_false_iff.2 (fun e => hs (by rw [(h.1 e).2.1]))
  rw [this]; rfl
theorem way3 {x : Bool} {n1 n2 : Bool} {s1 s2 : ByteArray} {p1 p2 : Int} (h : x = true ↔ (n1 = n2 ∧ s1 = s2 ∧ p1 = p2)) (hn : ¬ n1 = n2) : (!x) = true := by
  have : x = false := Bool.eq_false_iff.2 (fun e => hn (h.1 e).1)
  rw [this]; rfl

set_option maxHeartbeats 1000000 in
theorem long (n1 : Bool) (s1 : ByteArray) (p1 : Int) (n2 : Bool) (s2 : ByteArray) (p2 : Int) (w : World) (hp : s1.size + s2.size ≤ 1048576)
    (a0 : -9223372036854775808 ≤ p1) (a1 : p1 ≤ 9223372036854775807) (b0 : -9223372036854775808 ≤ p2) (b1 : p2 ≤ 9223372036854775807) (htab : Lib.TabIs Tryd.prog w pow10Name .u64 Lib.pow10Tab) :
    Calls Tryd.prog 6 #[.bool n1, .string s1, .int .i64 p1, .bool n2, .string s2, .int .i64 p2] w fun e w' => e = .returned (.bool true) ∧ Below w.heap.size w w' := by
  have HTB : Hid (∀ wx, Below w.heap.size w wx → Lib.TabIs Tryd.prog wx pow10Name .u64 Lib.pow10Tab) := Lib.tabBelow_of_tabIs htab
  clear htab
  by_cases hl1 : (524288 : Int) < s1.size
  · have hg : decide (s1.size + s2.size ≤ 1048576) = true := by simp [hp]
    go_enter Tryd.func6, Tryd.ntmps6
    go_wp2_with fail
    refine (zzBytes17 _ s1 _ _ s2 _ _ (by unfold maxLen; omega) (by unfold maxLen; omega)).mono ?_
    rintro e w' ⟨rfl, hw⟩
    rw [hg, hw]
    clear hw w' hg
    go_wp2
    go_ret
    exact ⟨rfl, Below.refl _ _⟩
  by_cases hl2 : (524288 : Int) < s2.size
  · have hg : decide (s1.size + s2.size ≤ 1048576) = true := by simp [hp]
    go_enter Tryd.func6, Tryd.ntmps6
    go_wp2_with fail
    refine (zzBytes17 _ s1 _ _ s2 _ _ (by unfold maxLen; omega) (by unfold maxLen; omega)).mono ?_
    rintro e w' ⟨rfl, hw⟩
    rw [hg, hw]
    clear hw w' hg
    go_wp2
    go_ret
    exact ⟨rfl, Below.refl _ _⟩
  have hg : decide (s1.size + s2.size ≤ 1048576) = true := by simp [hp]
  have hs1 : s1.size ≤ 1048576 := by omega
  have hs2 : s2.size ≤ 1048576 := by omega
  go_enter Tryd.func6, Tryd.ntmps6
  go_wp2_with fail
  refine (zzBytes17 _ s1 _ _ s2 _ _ (by unfold maxLen; omega) (by unfold maxLen; omega)).mono ?_
  rintro e w' ⟨rfl, hw⟩
  rw [hg, hw]
  clear hw w' hg
  go_wp2_with fail
  refine (way_any n1 s1 p1 _ hs1).mono ?_
  rintro e w' ⟨b1', rfl, hc1, hw⟩
  rw [hw]
  clear hw w'
  cases b1'
  · clear hc1
    go_wp2_with fail
    go_ret
    exact ⟨rfl, Below.refl _ _⟩
  have C1 : Hid (Txt.OneWay n1 s1.data.toList p1) := hc1 rfl
  clear hc1
  go_wp2_with fail
  refine (way_any n2 s2 p2 _ hs2).mono ?_
  rintro e w' ⟨b2', rfl, hc2, hw⟩
  rw [hw]
  clear hw w'
  cases b2'
  · clear hc2
    go_wp2_with fail
    go_ret
    exact ⟨rfl, Below.refl _ _⟩
  have C2 : Hid (Txt.OneWay n2 s2.data.toList p2) := hc2 rfl
  clear hc2
  have HZ : Hid (∀ x : Bool, x = ((⟨(Txt.text n1 s1.data.toList p1).toArray⟩ : ByteArray).toList == (⟨(Txt.text n2 s2.data.toList p2).toArray⟩ : ByteArray).toList) → (x = true ↔ (n1 = n2 ∧ s1 = s2 ∧ p1 = p2))) := by
    intro x hx
    have h := Txt.text_inj C1.out C2.out a0 a1 b0 b1
    rw [hx, str_beq, decide_eq_true_iff, h, data_inj]
  clear C1 C2
  obtain ⟨t1, ht1⟩ : ∃ t : ByteArray, (⟨(Txt.text n1 s1.data.toList p1).toArray⟩ : ByteArray) = t := ⟨_, rfl⟩
  obtain ⟨t2, ht2⟩ : ∃ t : ByteArray, (⟨(Txt.text n2 s2.data.toList p2).toArray⟩ : ByteArray) = t := ⟨_, rfl⟩
  have HS1 : Hid (∀ wx, Below w.heap.size w wx → Calls Tryd.prog 16 #[.agg #[.bool n1, .string s1, .int .i64 p1]] wx fun e w' => e = .returned (.string t1) ∧ Below wx.heap.size wx w') := by
    intro wx hb
    rw [← ht1]
    exact string_any n1 s1 p1 wx hs1 a0 a1 (HTB.out wx hb)
  have HS2 : Hid (∀ wx, Below w.heap.size w wx → Calls Tryd.prog 16 #[.agg #[.bool n2, .string s2, .int .i64 p2]] wx fun e w' => e = .returned (.string t2) ∧ Below wx.heap.size wx w') := by
    intro wx hb
    rw [← ht2]
    exact string_any n2 s2 p2 wx hs2 b0 b1 (HTB.out wx hb)
  have HZ' : Hid ((t1.toList == t2.toList) = true ↔ (n1 = n2 ∧ s1 = s2 ∧ p1 = p2)) := HZ.out _ (by rw [ht1, ht2])
  clear ht1 ht2 HZ HTB
  go_wp2_with fail
  refine (make_any n1 s1 p1 _).mono ?_
  rintro e w' ⟨rfl, hw⟩
  rw [hw]
  clear hw w'
  go_wp2_with fail
  refine (HS1.out _ ((Below.refl _ _).alloc (Nat.le_refl _) _)).mono ?_
  rintro e wa ⟨rfl, hba⟩
  have hbw : Below w.heap.size w wa := ((Below.refl _ _).alloc (Nat.le_refl _) _).trans (hba.mono (by simp))
  clear hba
  go_wp2_with fail
  refine (make_any n2 s2 p2 _).mono ?_
  rintro e w' ⟨rfl, hw⟩
  rw [hw]
  clear hw w'
  have hbx : Below w.heap.size w (wa.alloc (.cells #[.bool n2, .string s2, .int .i64 p2] 25)) := hbw.alloc hbw.size _
  go_wp2_with fail
  refine (HS2.out _ hbx).mono ?_
  rintro e wb ⟨rfl, hbb⟩
  have hbz : Below w.heap.size w wb := hbx.trans (hbb.mono hbx.size)
  clear hbb hbx hbw HS1 HS2
  go_wp2
  · go_ret
    exact ⟨ret_boolC (way1 HZ'.out ‹_› ‹_›), hbz⟩
  · go_ret
    exact ⟨ret_boolC (way2 HZ'.out ‹_›), hbz⟩
  · go_ret
    exact ⟨ret_boolC (way3 HZ'.out ‹_›), hbz⟩

theorem walk (a0 : Bool) (a1 : ByteArray) (a2 : Int) (a3 : Bool) (a4 : ByteArray) (a5 : Int) (w1 : a1.size ≤ maxLen) (w4 : a4.size ≤ maxLen)
    (b20 : -9223372036854775808 ≤ a2) (b21 : a2 ≤ 9223372036854775807) (b50 : -9223372036854775808 ≤ a5) (b51 : a5 ≤ 9223372036854775807) (w : World) (htab : Lib.TabIs Tryd.prog w pow10Name .u64 Lib.pow10Tab) :
    Calls Tryd.prog 6 #[.bool a0, .string a1, .int .i64 a2, .bool a3, .string a4, .int .i64 a5] w fun e w' => e = .returned (.bool true) ∧ Below w.heap.size w w' := by
  by_cases hp : a1.size + a4.size ≤ 1048576
  · exact long a0 a1 a2 a3 a4 a5 w hp b20 b21 b50 b51 htab
  · have hg : decide (a1.size + a4.size ≤ 1048576) = false := by simp; omega
    clear htab
    go_enter Tryd.func6, Tryd.ntmps6
    go_wp2_with fail
    refine (zzBytes17 _ a1 _ _ a4 _ _ w1 w4).mono ?_
    rintro e w' ⟨rfl, hw⟩
    rw [hg, hw]
    clear hw w' hg
    go_wp2
    go_ret
    exact ⟨rfl, Below.refl _ _⟩

end Go.Proofs.Qxb6602496aDoor
