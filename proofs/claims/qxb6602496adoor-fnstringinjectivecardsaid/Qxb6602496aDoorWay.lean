/-
  The walks of isDigit (19), writtenOneWay (18), ZZMake (15) and of the guard zzBytes (17).
-/
import Derived.Test.Qxb6602496aDoorRows
import Derived.Test.Qxb6602496aDoorText
import Derived.WalkKit
import Derived.ProofKit
import Derived.WalkSpells
import Derived.WalkLawsBesides
import Derived.Lib.Strings
namespace Go.Proofs.Qxb6602496aDoor
open Go.RowKit

theorem ret_boolC {a b : Bool} (h : a = b) : Ending.returned (.bool a) = .returned (.bool b) := by rw [h]

theorem digit_any (c : UInt8) (w : World) : Calls Tryd.prog 19 #[.int .u8 (c.toNat : Int)] w fun e w' => e = .returned (.bool (Txt.dig c)) ∧ w' = w := by
  have hb : (c.toNat : Int) < 256 := by have := c.toNat_lt; omega
  by_cases h1 : 48 ≤ (c.toNat : Int)
  · by_cases h2 : (c.toNat : Int) ≤ 57
    · have HD : Hid (Txt.dig c = true) := Txt.dig_true.2 ⟨h1, h2⟩
      generalize (c.toNat : Int) = x at *
      go_enter Tryd.func19, Tryd.ntmps19
      go_wp2
      go_ret
      exact ⟨ret_boolC HD.out.symm, rfl⟩
    · have HD : Hid (Txt.dig c = false) := Txt.dig_false.2 (fun h => h2 h.2)
      generalize (c.toNat : Int) = x at *
      go_enter Tryd.func19, Tryd.ntmps19
      go_wp2
      go_ret
      exact ⟨ret_boolC HD.out.symm, rfl⟩
  · have HD : Hid (Txt.dig c = false) := Txt.dig_false.2 (fun h => h1 h.1)
    generalize (c.toNat : Int) = x at *
    go_enter Tryd.func19, Tryd.ntmps19
    go_wp2
    go_ret
    exact ⟨ret_boolC HD.out.symm, rfl⟩

theorem zzBytes17 (n1 : Bool) (p : ByteArray) (x1 : Int) (n2 : Bool) (s : ByteArray) (x2 : Int) (w : World) (hp : p.size ≤ maxLen) (hs : s.size ≤ maxLen) :
    Calls Tryd.prog 17 #[.bool n1, .string p, .int .i64 x1, .bool n2, .string s, .int .i64 x2] w fun e w' => e = .returned (.bool (decide (p.size + s.size ≤ 1048576))) ∧ w' = w := by
  unfold maxLen at hp hs
  by_cases h1 : (1048576 : Int) < p.size
  · go_enter Tryd.func17, Tryd.ntmps17
    go_wp2
    go_ret
    exact ⟨ret_boolC (decide_eq_false (by omega)).symm, rfl⟩
  · by_cases h2 : (1048576 : Int) < s.size
    · go_enter Tryd.func17, Tryd.ntmps17
      go_wp2
      go_ret
      exact ⟨ret_boolC (decide_eq_false (by omega)).symm, rfl⟩
    · by_cases h3 : (1048576 : Int) < p.size + s.size
      · go_enter Tryd.func17, Tryd.ntmps17
        go_wp2
        go_ret
        exact ⟨ret_boolC (decide_eq_false (by omega)).symm, rfl⟩
      · go_enter Tryd.func17, Tryd.ntmps17
        go_wp2
        go_ret
        exact ⟨ret_boolC (decide_eq_true (by omega)).symm, rfl⟩

theorem make_any (n : Bool) (s : ByteArray) (p : Int) (w : World) :
    Calls Tryd.prog 15 #[.bool n, .string s, .int .i64 p] w fun e w' => e = .returned (.agg #[.bool n, .string s, .int .i64 p]) ∧ w' = w.alloc (.cells #[.bool n, .string s, .int .i64 p] 25) := by
  go_enter Tryd.func15, Tryd.ntmps15
  go_wp2
  exact bodyPost_ret (v := .agg #[.bool n, .string s, .int .i64 p]) (by simp [results, Tryd.results15, go_sem]) rfl ⟨rfl, rfl⟩

theorem empty_true (s : ByteArray) (h : s.size = 0) : s.toList.isEmpty = true := by
  rw [Lib.toList_data, List.isEmpty_iff, ← List.length_eq_zero_iff]
  have : s.data.toList.length = s.size := by simp
  omega
theorem empty_false (s : ByteArray) (h : ¬ s.size = 0) : s.toList.isEmpty = false := by
  rw [Lib.toList_data]
  have : s.data.toList.length = s.size := by simp
  cases hl : s.data.toList with
  | nil => rw [hl] at this; simp at this; omega
  | cons a l => rfl

theorem take_snoc (s : ByteArray) (k : Nat) (h : k < s.size) : s.data.toList.take (k + 1) = s.data.toList.take k ++ [s[k]] := by
  rw [List.take_succ_eq_append_getElem (by simpa using h)]; rfl

/-- writtenOneWay answers some bool, and true at fields written one way alone; the world stands -/
def WayPost (n : Bool) (s : ByteArray) (p : Int) (w : World) (e : Ending) (w' : World) : Prop := ∃ b : Bool, e = .returned (.bool b) ∧ (b = true → Txt.OneWay n s.data.toList p) ∧ w' = w
theorem wayPost_mk {n : Bool} {s : ByteArray} {p : Int} {w : World} (b : Bool) (h : b = true → Txt.OneWay n s.data.toList p) : WayPost n s p w (.returned (.bool b)) w := ⟨b, rfl, h, rfl⟩

set_option maxHeartbeats 1000000 in
set_option maxRecDepth 10000 in
theorem way_any (n : Bool) (s : ByteArray) (p : Int) (w : World) (hs : s.size ≤ 1048576) :
    Calls Tryd.prog 18 #[.bool n, .string s, .int .i64 p] w (WayPost n s p w) := by
  have hl : s.data.toList.length = s.size := by simp
  by_cases h0 : s.size = 0
  · have he := empty_true s h0
    have HZ : Hid (∀ b : Bool, (b = true → n = false ∧ p = 0) → b = true → Txt.OneWay n s.data.toList p) := by
      intro b hb hbt
      have hn : s.data.toList = [] := List.eq_nil_of_length_eq_zero (by omega)
      exact ⟨fun _ => hb hbt, by rw [hn]; rfl⟩
    clear h0 hl
    cases n
    · go_enter Tryd.func18, Tryd.ntmps18
      go_wp2
      go_ret
      exact wayPost_mk _ (HZ.out _ (fun h => by simpa using h))
    · go_enter Tryd.func18, Tryd.ntmps18
      go_wp2
      go_ret
      exact wayPost_mk _ (HZ.out _ (fun h => by simp at h))
  · have he := empty_false s h0
    have HZ : Hid (s.data.toList.all Txt.dig = true → Txt.OneWay n s.data.toList p) := by
      intro ha
      exact ⟨fun h => by rw [h] at hl; simp at hl; omega, ha⟩
    clear hl
    go_enter Tryd.func18, Tryd.ntmps18
    go_wp2
    go_loop [7] (fun i => ∃ k : Nat, k ≤ s.size ∧ i = .int .i64 k ∧ Hid ((s.data.toList.take k).all Txt.dig = true)) (fun i => s.size - (intOf i).toNat)
    case atStart => exact ⟨0, Nat.zero_le _, rfl, rfl⟩
    case round =>
      obtain ⟨k, hk, rfl, HA⟩ := hrel
      by_cases hlt : k < s.size
      · have HT : Hid (s.data.toList.take (k + 1) = s.data.toList.take k ++ [s[k]]) := take_snoc s k hlt
        by_cases hd : Txt.dig s[k] = true
        · have HD : Hid (Txt.dig s[k] = true) := hd
          clear hd
          go_wp2_with (go_at_call 19; refine (digit_any _ _).mono ?_; rintro e w3 ⟨rfl, rfl⟩; rw [HD.out])
          go_round
          case rel => exact ⟨k + 1, by omega, by go_num, by show (s.data.toList.take (k + 1)).all Txt.dig = true; rw [HT.out, List.all_append, HA.out]; simp [HD.out]⟩
          case measure => simp [intOf]; omega
        · have HD : Hid (Txt.dig s[k] = false) := Bool.eq_false_iff.2 hd
          clear hd
          go_wp2_with (go_at_call 19; refine (digit_any _ _).mono ?_; rintro e w3 ⟨rfl, rfl⟩; rw [HD.out])
          go_ret
          exact wayPost_mk _ (fun h => by simp at h)
      · have HE : Hid (s.data.toList.all Txt.dig = true) := by
          have h1 := HA.out
          rw [List.take_of_length_le (by simp; omega)] at h1
          exact h1
        go_wp2
        go_ret
        exact wayPost_mk _ (fun _ => HZ.out HE.out)

end Go.Proofs.Qxb6602496aDoor
