/-
  Plain: what String writes, and that two Decimals are written alike just where they are the same. No Go in sight ('Lib.itoa' is the shelf's decimal numeral).
-/
import Derived.RowKit
import Derived.Lib.ItoaNum
import Derived.Lib.Strings
namespace Go.Proofs.Qxb6602496aDoor.Txt
open Go.RowKit (wrap64)

def dig (c : UInt8) : Bool := decide (48 ≤ (c.toNat : Int) ∧ (c.toNat : Int) ≤ 57)
theorem dig_true {c : UInt8} : dig c = true ↔ (48 ≤ (c.toNat : Int) ∧ (c.toNat : Int) ≤ 57) := by unfold dig; simp
theorem dig_false {c : UInt8} : dig c = false ↔ ¬ (48 ≤ (c.toNat : Int) ∧ (c.toNat : Int) ≤ 57) := by unfold dig; simp

/-! ### the decimal numeral is one-to-one -/
def dval (l : List UInt8) : Nat := l.foldl (fun v c => v * 10 + (c.toNat - 48)) 0
theorem dval_snoc (l : List UInt8) (c : UInt8) : dval (l ++ [c]) = dval l * 10 + (c.toNat - 48) := by
  unfold dval; rw [List.foldl_append]; rfl
theorem byte48 (k : Nat) (h : k < 10) : (UInt8.ofNat (48 + k)).toNat = 48 + k := by
  rw [UInt8.toNat_ofNat']; omega

theorem dval_dec (n : Nat) : ∀ u, u ≤ n → dval (Lib.decDigits u) = u := by
  induction n with
  | zero =>
    intro u hu
    obtain rfl : u = 0 := by omega
    rw [Lib.decDigits, dif_pos (by omega)]
    rfl
  | succ n ih =>
    intro u hu
    rw [Lib.decDigits]
    by_cases h : u < 10
    · rw [dif_pos h]
      show dval ([] ++ [UInt8.ofNat (48 + u)]) = u
      rw [dval_snoc, byte48 u h]
      show 0 * 10 + _ = _
      omega
    · rw [dif_neg h, dval_snoc, ih (u / 10) (by omega), byte48 (u % 10) (by omega)]
      omega

theorem dec_digs (n : Nat) : ∀ u, u ≤ n → (Lib.decDigits u).all dig = true := by
  induction n with
  | zero =>
    intro u hu
    obtain rfl : u = 0 := by omega
    rw [Lib.decDigits, dif_pos (by omega)]
    rfl
  | succ n ih =>
    intro u hu
    rw [Lib.decDigits]
    by_cases h : u < 10
    · rw [dif_pos h]
      have : dig (UInt8.ofNat (48 + u)) = true := by rw [dig_true, byte48 u h]; omega
      rw [List.all_cons, this]; rfl
    · have : dig (UInt8.ofNat (48 + u % 10)) = true := by rw [dig_true, byte48 (u % 10) (by omega)]; omega
      rw [dif_neg h, List.all_append, ih (u / 10) (by omega), List.all_cons, this]; rfl

theorem dec_inj {u v : Nat} (h : Lib.decDigits u = Lib.decDigits v) : u = v := by
  rw [← dval_dec u u (Nat.le_refl _), ← dval_dec v v (Nat.le_refl _), h]

theorem dec_no45 (u : Nat) (l : List UInt8) (h : Lib.decDigits u = 45 :: l) : False := by
  have := dec_digs u u (Nat.le_refl _)
  rw [h, List.all_cons, Bool.and_eq_true] at this
  have h2 := dig_true.1 this.1
  have : (45 : UInt8).toNat = 45 := rfl
  omega

theorem itoa_inj {a b : Int} (h : Lib.itoa a = Lib.itoa b) : a = b := by
  unfold Lib.itoa at h
  by_cases ha : a < 0
  · rw [if_pos ha] at h
    by_cases hb : b < 0
    · rw [if_pos hb] at h
      injection h with _ h
      have := dec_inj h
      omega
    · rw [if_neg hb] at h
      exact (dec_no45 _ _ h.symm).elim
  · rw [if_neg ha] at h
    by_cases hb : b < 0
    · rw [if_pos hb] at h
      exact (dec_no45 _ _ h).elim
    · rw [if_neg hb] at h
      have := dec_inj h
      omega

/-! ### what String writes -/
def text (neg : Bool) (s : List UInt8) (p : Int) : List UInt8 :=
  if s.isEmpty then [48] else if neg then 45 :: (s ++ 101 :: Lib.itoa (wrap64 (p - (s.length : Int)))) else s ++ 101 :: Lib.itoa (wrap64 (p - (s.length : Int)))

/-- the weaker condition: digits alone, and zero is the zero value -/
structure OneWay (neg : Bool) (s : List UInt8) (p : Int) : Prop where
  zero : s = [] → neg = false ∧ p = 0
  digs : s.all dig = true

theorem sep : ∀ (a b t u : List UInt8), a.all dig = true → b.all dig = true → a ++ 101 :: t = b ++ 101 :: u → a = b ∧ t = u
  | [], [], _, _, _, _, h => by injection h with _ h; exact ⟨rfl, h⟩
  | [], y :: lb, _, _, _, hb, h => by
    injection h with h _
    rw [List.all_cons, Bool.and_eq_true] at hb
    have h2 := dig_true.1 hb.1
    rw [← h] at h2
    have : (101 : UInt8).toNat = 101 := rfl
    omega
  | x :: la, [], _, _, ha, _, h => by
    injection h with h _
    rw [List.all_cons, Bool.and_eq_true] at ha
    have h2 := dig_true.1 ha.1
    rw [h] at h2
    have : (101 : UInt8).toNat = 101 := rfl
    omega
  | x :: la, y :: lb, t, u, ha, hb, h => by
    injection h with h1 h2
    rw [List.all_cons, Bool.and_eq_true] at ha hb
    obtain ⟨e1, e2⟩ := sep la lb t u ha.2 hb.2 h2
    exact ⟨by rw [h1, e1], e2⟩

theorem no45 {s : List UInt8} {t l : List UInt8} (h0 : s ≠ []) (hd : s.all dig = true) (h : s ++ t = 45 :: l) : False := by
  cases s with
  | nil => exact h0 rfl
  | cons x s =>
    injection h with h _
    rw [List.all_cons, Bool.and_eq_true] at hd
    have h2 := dig_true.1 hd.1
    rw [h] at h2
    have : (45 : UInt8).toNat = 45 := rfl
    omega

theorem no48 {n : Bool} {s : List UInt8} {p : Int} (h0 : s ≠ []) (h : text n s p = [48]) : False := by
  have hm : (101 : UInt8) ∈ text n s p := by
    unfold text
    have he : s.isEmpty = false := by cases s with
      | nil => exact absurd rfl h0
      | cons a l => rfl
    rw [he]
    cases n <;> simp
  rw [h] at hm
  simp at hm

theorem text_inj {n1 n2 : Bool} {s1 s2 : List UInt8} {p1 p2 : Int} (h1 : OneWay n1 s1 p1) (h2 : OneWay n2 s2 p2)
    (a0 : -9223372036854775808 ≤ p1) (a1 : p1 ≤ 9223372036854775807) (b0 : -9223372036854775808 ≤ p2) (b1 : p2 ≤ 9223372036854775807) :
    text n1 s1 p1 = text n2 s2 p2 ↔ (n1 = n2 ∧ s1 = s2 ∧ p1 = p2) := by
  constructor
  · intro h
    by_cases e1 : s1 = []
    · have t1 : text n1 s1 p1 = [48] := by rw [e1]; rfl
      rw [t1] at h
      by_cases e2 : s2 = []
      · have z1 := h1.zero e1
        have z2 := h2.zero e2
        exact ⟨by rw [z1.1, z2.1], by rw [e1, e2], by rw [z1.2, z2.2]⟩
      · exact (no48 e2 h.symm).elim
    · by_cases e2 : s2 = []
      · have t2 : text n2 s2 p2 = [48] := by rw [e2]; rfl
        rw [t2] at h
        exact (no48 e1 h).elim
      · unfold text at h
        have i1 : s1.isEmpty = false := by cases s1 with
          | nil => exact absurd rfl e1
          | cons a l => rfl
        have i2 : s2.isEmpty = false := by cases s2 with
          | nil => exact absurd rfl e2
          | cons a l => rfl
        rw [i1, i2] at h
        have fin : s1 ++ 101 :: Lib.itoa (wrap64 (p1 - (s1.length : Int))) = s2 ++ 101 :: Lib.itoa (wrap64 (p2 - (s2.length : Int))) → s1 = s2 ∧ p1 = p2 := by
          intro h
          obtain ⟨es, et⟩ := sep _ _ _ _ h1.digs h2.digs h
          refine ⟨es, ?_⟩
          have := itoa_inj et
          rw [es] at this
          unfold wrap64 at this
          omega
        cases n1 <;> cases n2 <;> simp at h
        · exact ⟨rfl, fin h⟩
        · exact (no45 e1 h1.digs h).elim
        · exact (no45 e2 h2.digs h.symm).elim
        · exact ⟨rfl, fin h⟩
  · intro h
    rw [h.1, h.2.1, h.2.2]

end Go.Proofs.Qxb6602496aDoor.Txt
