/-
  Plain: Cmp turns round with its arguments, and is 0 at one Decimal alone. No Go in sight.
-/
import Derived.Test.Qxb6602496aCanon
namespace Go.Proofs.Qxb6602496a.Ord

theorem compare_anti : ∀ a b : List UInt8, Lib.compareBytes b a = -Lib.compareBytes a b
  | [], [] => by unfold Lib.compareBytes; omega
  | [], _ :: _ => by unfold Lib.compareBytes; omega
  | _ :: _, [] => by unfold Lib.compareBytes; omega
  | a :: la, b :: lb => by
    unfold Lib.compareBytes
    rcases Nat.lt_trichotomy a.toNat b.toNat with h | h | h
    · have h1 : a < b := UInt8.lt_iff_toNat_lt.2 h
      have h2 : ¬ b < a := fun hh => by have := UInt8.lt_iff_toNat_lt.1 hh; omega
      simp [h1, h2]
    · have h1 : ¬ a < b := fun hh => by have := UInt8.lt_iff_toNat_lt.1 hh; omega
      have h2 : ¬ b < a := fun hh => by have := UInt8.lt_iff_toNat_lt.1 hh; omega
      simp only [h1, h2, if_false]
      exact compare_anti la lb
    · have h1 : b < a := UInt8.lt_iff_toNat_lt.2 h
      have h2 : ¬ a < b := fun hh => by have := UInt8.lt_iff_toNat_lt.1 hh; omega
      simp [h1, h2]

theorem compare_zero : ∀ a b : List UInt8, Lib.compareBytes a b = 0 ↔ a = b
  | [], [] => by simp [Lib.compareBytes]
  | [], _ :: _ => by simp [Lib.compareBytes]
  | _ :: _, [] => by simp [Lib.compareBytes]
  | a :: la, b :: lb => by
    unfold Lib.compareBytes
    rcases Nat.lt_trichotomy a.toNat b.toNat with h | h | h
    · have h1 : a < b := UInt8.lt_iff_toNat_lt.2 h
      simp only [h1, if_true]
      constructor
      · intro h2; omega
      · intro h2; injection h2 with h3 _; rw [h3] at h; omega
    · have h1 : ¬ a < b := fun hh => by have := UInt8.lt_iff_toNat_lt.1 hh; omega
      have h2 : ¬ b < a := fun hh => by have := UInt8.lt_iff_toNat_lt.1 hh; omega
      simp only [h1, h2, if_false]
      rw [compare_zero la lb]
      have : a = b := UInt8.toNat_inj.1 h
      subst this
      simp
    · have h1 : b < a := UInt8.lt_iff_toNat_lt.2 h
      have h2 : ¬ a < b := fun hh => by have := UInt8.lt_iff_toNat_lt.1 hh; omega
      simp only [h1, h2, if_true, if_false]
      constructor
      · intro h2; omega
      · intro h2; injection h2 with h3 _; rw [h3] at h; omega

theorem bytes_ext {a b : ByteArray} (h : a.data.toList = b.data.toList) : a = b := by
  obtain ⟨a⟩ := a; obtain ⟨b⟩ := b
  congr 1
  exact Array.toList_inj.1 h

theorem sizeCmp_anti (s1 : ByteArray) (p1 : Int) (s2 : ByteArray) (p2 : Int) : sizeCmp s2 p2 s1 p1 = -sizeCmp s1 p1 s2 p2 := by
  unfold sizeCmp
  by_cases h : p1 = p2
  · rw [if_pos h, if_pos h.symm]; exact compare_anti _ _
  · rw [if_neg h, if_neg (fun e => h e.symm)]
    by_cases hl : p1 < p2
    · rw [if_pos hl, if_neg (by omega)]; omega
    · rw [if_neg hl, if_pos (by omega)]

theorem sizeCmp_zero (s1 : ByteArray) (p1 : Int) (s2 : ByteArray) (p2 : Int) : sizeCmp s1 p1 s2 p2 = 0 ↔ (s1 = s2 ∧ p1 = p2) := by
  unfold sizeCmp
  by_cases h : p1 = p2
  · rw [if_pos h, compare_zero]
    exact ⟨fun e => ⟨bytes_ext e, h⟩, fun e => by rw [e.1]⟩
  · rw [if_neg h]
    by_cases hl : p1 < p2
    · rw [if_pos hl]; exact ⟨fun e => by omega, fun e => absurd e.2 h⟩
    · rw [if_neg hl]; exact ⟨fun e => by omega, fun e => absurd e.2 h⟩

/-- of one sign: both zero, or of one 'neg' -/
theorem sgn_eq {n1 : Bool} {s1 : ByteArray} {p1 : Int} {n2 : Bool} {s2 : ByteArray} {p2 : Int} (h1 : Canon n1 s1 p1) (h2 : Canon n2 s2 p2) (h : sgn n1 s1 = sgn n2 s2) : n1 = n2 := by
  unfold sgn at h
  by_cases e1 : s1.size = 0
  · have f1 := h1.zero e1
    by_cases e2 : s2.size = 0
    · have f2 := h2.zero e2
      rw [f1.1, f2.1]
    · rw [empty_true s1 e1, empty_false s2 e2] at h
      cases n2 <;> simp at h
  · by_cases e2 : s2.size = 0
    · rw [empty_true s2 e2, empty_false s1 e1] at h
      cases n1 <;> simp at h
    · rw [empty_false s2 e2, empty_false s1 e1] at h
      cases n1 <;> cases n2 <;> simp at h <;> rfl

theorem cmpD_bd (n1 : Bool) (s1 : ByteArray) (p1 : Int) (n2 : Bool) (s2 : ByteArray) (p2 : Int) : -1 ≤ cmpD n1 s1 p1 n2 s2 p2 ∧ cmpD n1 s1 p1 n2 s2 p2 ≤ 1 := by
  have := sizeCmp_bd s1 p1 s2 p2
  unfold cmpD
  split
  · split <;> omega
  · split <;> omega

theorem cmpD_anti {n1 : Bool} {s1 : ByteArray} {p1 : Int} {n2 : Bool} {s2 : ByteArray} {p2 : Int} (h1 : Canon n1 s1 p1) (h2 : Canon n2 s2 p2) : cmpD n2 s2 p2 n1 s1 p1 = -cmpD n1 s1 p1 n2 s2 p2 := by
  unfold cmpD
  by_cases h : sgn n1 s1 = sgn n2 s2
  · have hn := sgn_eq h1 h2 h
    rw [if_pos h, if_pos h.symm, sizeCmp_anti s1 p1 s2 p2, hn]
    split <;> omega
  · rw [if_neg h, if_neg (fun e => h e.symm)]
    by_cases hl : sgn n1 s1 < sgn n2 s2
    · rw [if_pos hl, if_neg (by omega)]; omega
    · rw [if_neg hl, if_pos (by omega)]

theorem cmpD_zero {n1 : Bool} {s1 : ByteArray} {p1 : Int} {n2 : Bool} {s2 : ByteArray} {p2 : Int} (h1 : Canon n1 s1 p1) (h2 : Canon n2 s2 p2) : cmpD n1 s1 p1 n2 s2 p2 = 0 ↔ (n1 = n2 ∧ s1 = s2 ∧ p1 = p2) := by
  unfold cmpD
  by_cases h : sgn n1 s1 = sgn n2 s2
  · have hn := sgn_eq h1 h2 h
    rw [if_pos h]
    have hz := sizeCmp_zero s1 p1 s2 p2
    constructor
    · intro e
      have : sizeCmp s1 p1 s2 p2 = 0 := by
        revert e; split <;> intro e <;> omega
      exact ⟨hn, hz.1 this⟩
    · intro e
      rw [hz.2 e.2]; split <;> rfl
  · rw [if_neg h]
    constructor
    · intro e; revert e; split <;> intro e <;> omega
    · intro e; exact absurd (by rw [e.1, e.2.1]) h

theorem beq_bytes (a b : ByteArray) : (a.toList == b.toList) = decide (a = b) := by
  rw [Lib.toList_data, Lib.toList_data, Bool.eq_iff_iff]
  simp only [beq_iff_eq, decide_eq_true_eq]
  exact ⟨fun h => bytes_ext h, fun h => by rw [h]⟩

end Go.Proofs.Qxb6602496a.Ord
