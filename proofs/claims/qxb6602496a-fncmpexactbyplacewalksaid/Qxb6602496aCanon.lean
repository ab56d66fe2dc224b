/-
  The walks of isDigit (13), canonicalDecimal (7) and of the guards zzBytes (6, 11).
-/
import Derived.Test.Qxb6602496aRows
import Derived.Test.Qxb6602496aOrd
import Derived.WalkKit
import Derived.ProofKit
import Derived.WalkSpells
import Derived.WalkLawsBesides
import Derived.Lib.Strings
import Derived.Lib.PathFns
namespace Go.Proofs.Qxb6602496a
open Go.RowKit

theorem ret_boolC {a b : Bool} (h : a = b) : Ending.returned (.bool a) = .returned (.bool b) := by rw [h]

theorem digit_any (c : UInt8) (w : World) : Calls Try.prog 13 #[.int .u8 (c.toNat : Int)] w fun e w' => e = .returned (.bool (Ord.dig c)) ∧ w' = w := by
  have hb : (c.toNat : Int) < 256 := by have := c.toNat_lt; omega
  by_cases h1 : 48 ≤ (c.toNat : Int)
  · by_cases h2 : (c.toNat : Int) ≤ 57
    · have HD : Hid (Ord.dig c = true) := Ord.dig_true.2 ⟨h1, h2⟩
      generalize (c.toNat : Int) = x at *
      go_enter Try.func13, Try.ntmps13
      go_wp2
      go_ret
      exact ⟨ret_boolC HD.out.symm, rfl⟩
    · have HD : Hid (Ord.dig c = false) := Ord.dig_false.2 (fun h => h2 h.2)
      generalize (c.toNat : Int) = x at *
      go_enter Try.func13, Try.ntmps13
      go_wp2
      go_ret
      exact ⟨ret_boolC HD.out.symm, rfl⟩
  · have HD : Hid (Ord.dig c = false) := Ord.dig_false.2 (fun h => h1 h.1)
    generalize (c.toNat : Int) = x at *
    go_enter Try.func13, Try.ntmps13
    go_wp2
    go_ret
    exact ⟨ret_boolC HD.out.symm, rfl⟩

/-- the documented invariant of a Decimal -/
structure Canon (n : Bool) (s : ByteArray) (p : Int) : Prop where
  zero : s.size = 0 → n = false ∧ p = 0
  digs : s.data.toList.all Ord.dig = true
  first : ∀ h : 0 < s.size, (s[0].toNat : Int) ≠ 48
  last : ∀ h : 0 < s.size, (s[s.size - 1].toNat : Int) ≠ 48

theorem take_snoc (s : ByteArray) (k : Nat) (h : k < s.size) : s.data.toList.take (k + 1) = s.data.toList.take k ++ [s[k]] := by
  rw [List.take_succ_eq_append_getElem (by simpa using h)]; rfl

/-- canonicalDecimal answers some bool, and true at canonical fields alone; the world stands -/
def CanonPost (n : Bool) (s : ByteArray) (p : Int) (w : World) (e : Ending) (w' : World) : Prop := ∃ b : Bool, e = .returned (.bool b) ∧ (b = true → Canon n s p) ∧ w' = w
theorem canonPost_mk {n : Bool} {s : ByteArray} {p : Int} {w : World} (b : Bool) (h : b = true → Canon n s p) : CanonPost n s p w (.returned (.bool b)) w := ⟨b, rfl, h, rfl⟩

theorem empty_true (s : ByteArray) (h : s.size = 0) : s.toList.isEmpty = true := by
  rw [Lib.toList_data, List.isEmpty_iff, ← List.length_eq_zero_iff]
  have : s.data.toList.length = s.size := by simp
  omega
theorem empty_false (s : ByteArray) (h : ¬ s.size = 0) : s.toList.isEmpty = false := by
  rw [Lib.toList_data]
  have : s.data.toList.length = s.size := by simp
  cases hl : s.data.toList with
  | nil => rw [hl] at this; simp at this; omega
  | cons a l => rfl

set_option maxHeartbeats 1000000 in
set_option maxRecDepth 10000 in
theorem canon_any (n : Bool) (s : ByteArray) (p : Int) (w : World) (hs : s.size ≤ 1048576) :
    Calls Try.prog 7 #[.bool n, .string s, .int .i64 p] w (CanonPost n s p w) := by
  by_cases h0 : s.size = 0
  · have he := empty_true s h0
    have HZ : Hid (∀ b : Bool, (b = true → n = false ∧ p = 0) → b = true → Canon n s p) := by
      intro b hb hbt
      have hl : s.data.toList = [] := by
        rw [← List.length_eq_zero_iff]
        have : s.data.toList.length = s.size := by simp
        omega
      exact ⟨fun _ => hb hbt, by rw [hl]; rfl, fun h => by omega, fun h => by omega⟩
    clear h0
    cases n
    · go_enter Try.func7, Try.ntmps7
      go_wp2
      go_ret
      exact canonPost_mk _ (HZ.out _ (fun h => by simpa using h))
    · go_enter Try.func7, Try.ntmps7
      go_wp2
      go_ret
      exact canonPost_mk _ (HZ.out _ (fun h => by simp at h))
  · have he := empty_false s h0
    have hpos : 0 < s.size := by omega
    have HZ : Hid (∀ b : Bool, s.data.toList.all Ord.dig = true → (b = true → (s[0].toNat : Int) ≠ 48 ∧ (s[s.size - 1].toNat : Int) ≠ 48) → b = true → Canon n s p) := by
      intro b ha hb hbt
      exact ⟨fun h => absurd h h0, ha, fun _ => (hb hbt).1, fun _ => (hb hbt).2⟩
    go_enter Try.func7, Try.ntmps7
    go_wp2
    go_loop [7] (fun i => ∃ k : Nat, k ≤ s.size ∧ i = .int .i64 k ∧ Hid ((s.data.toList.take k).all Ord.dig = true)) (fun i => s.size - (intOf i).toNat)
    case atStart => exact ⟨0, Nat.zero_le _, rfl, rfl⟩
    case round =>
      obtain ⟨k, hk, rfl, HA⟩ := hrel
      by_cases hlt : k < s.size
      · have HT : Hid (s.data.toList.take (k + 1) = s.data.toList.take k ++ [s[k]]) := take_snoc s k hlt
        by_cases hd : Ord.dig s[k] = true
        · have HD : Hid (Ord.dig s[k] = true) := hd
          clear hd
          go_wp2_with (go_at_call 13; refine (digit_any _ _).mono ?_; rintro e w3 ⟨rfl, rfl⟩; rw [HD.out])
          go_round
          case rel => exact ⟨k + 1, by omega, by go_num, by show (s.data.toList.take (k + 1)).all Ord.dig = true; rw [HT.out, List.all_append, HA.out]; simp [HD.out]⟩
          case measure => simp [intOf]; omega
        · have HD : Hid (Ord.dig s[k] = false) := Bool.eq_false_iff.2 hd
          clear hd
          go_wp2_with (go_at_call 13; refine (digit_any _ _).mono ?_; rintro e w3 ⟨rfl, rfl⟩; rw [HD.out])
          go_ret
          exact canonPost_mk _ (fun h => by simp at h)
      · have HE : Hid (s.data.toList.all Ord.dig = true) := by
          have h1 := HA.out
          rw [List.take_of_length_le (by simp; omega)] at h1
          exact h1
        go_wp2
        · go_ret
          exact canonPost_mk _ (fun h => by simp at h)
        · go_ret
          exact canonPost_mk _ (HZ.out _ HE.out (fun h => by simpa using h))

theorem zzBytes6 (n1 : Bool) (p : ByteArray) (x1 : Int) (n2 : Bool) (s : ByteArray) (x2 : Int) (w : World) (hp : p.size ≤ maxLen) (hs : s.size ≤ maxLen) :
    Calls Try.prog 6 #[.bool n1, .string p, .int .i64 x1, .bool n2, .string s, .int .i64 x2] w fun e w' => e = .returned (.bool (decide (p.size + s.size ≤ 1048576))) ∧ w' = w := by
  unfold maxLen at hp hs
  by_cases h1 : (1048576 : Int) < p.size
  · go_enter Try.func6, Try.ntmps6
    go_wp2
    go_ret
    exact ⟨ret_boolC (decide_eq_false (by omega)).symm, rfl⟩
  · by_cases h2 : (1048576 : Int) < s.size
    · go_enter Try.func6, Try.ntmps6
      go_wp2
      go_ret
      exact ⟨ret_boolC (decide_eq_false (by omega)).symm, rfl⟩
    · by_cases h3 : (1048576 : Int) < p.size + s.size
      · go_enter Try.func6, Try.ntmps6
        go_wp2
        go_ret
        exact ⟨ret_boolC (decide_eq_false (by omega)).symm, rfl⟩
      · go_enter Try.func6, Try.ntmps6
        go_wp2
        go_ret
        exact ⟨ret_boolC (decide_eq_true (by omega)).symm, rfl⟩

theorem zzBytes11 (n1 : Bool) (p : ByteArray) (x1 : Int) (n2 : Bool) (s : ByteArray) (x2 : Int) (w : World) (hp : p.size ≤ maxLen) (hs : s.size ≤ maxLen) :
    Calls Try.prog 11 #[.bool n1, .string p, .int .i64 x1, .bool n2, .string s, .int .i64 x2] w fun e w' => e = .returned (.bool (decide (p.size + s.size ≤ 1048576))) ∧ w' = w := by
  unfold maxLen at hp hs
  by_cases h1 : (1048576 : Int) < p.size
  · go_enter Try.func11, Try.ntmps11
    go_wp2
    go_ret
    exact ⟨ret_boolC (decide_eq_false (by omega)).symm, rfl⟩
  · by_cases h2 : (1048576 : Int) < s.size
    · go_enter Try.func11, Try.ntmps11
      go_wp2
      go_ret
      exact ⟨ret_boolC (decide_eq_false (by omega)).symm, rfl⟩
    · by_cases h3 : (1048576 : Int) < p.size + s.size
      · go_enter Try.func11, Try.ntmps11
        go_wp2
        go_ret
        exact ⟨ret_boolC (decide_eq_false (by omega)).symm, rfl⟩
      · go_enter Try.func11, Try.ntmps11
        go_wp2
        go_ret
        exact ⟨ret_boolC (decide_eq_true (by omega)).symm, rfl⟩

end Go.Proofs.Qxb6602496a
