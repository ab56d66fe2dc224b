/-
  Plain: the walk over the places finds the order of sizes. No Go in sight.
-/
import Derived.Test.Qxb6602496aAnti
namespace Go.Proofs.Qxb6602496a.Ord

/-- the i-th byte of l, '0' behind its end -/
def pad (l : List UInt8) (i : Nat) : Int := (((l[i]?).getD 48).toNat : Int)
/-- the digit at index j of s, '0' outside -/
def dA (s : ByteArray) (j : Int) : Int := if 0 ≤ j then pad s.data.toList j.toNat else 48

theorem pad_nil (i : Nat) : pad [] i = 48 := by simp [pad]
theorem pad_zero (x : UInt8) (l : List UInt8) : pad (x :: l) 0 = (x.toNat : Int) := rfl
theorem pad_succ (x : UInt8) (l : List UInt8) (i : Nat) : pad (x :: l) (i + 1) = pad l i := by simp [pad]
theorem pad_ge {l : List UInt8} (h : l.all dig = true) (i : Nat) : 48 ≤ pad l i := by
  unfold pad
  cases hx : l[i]? with
  | none => simp
  | some x =>
    have hm := List.mem_of_getElem? hx
    have := List.all_eq_true.1 h x hm
    have := dig_true.1 this
    simp
    omega

theorem lex_lt : ∀ (a b : List UInt8) (k : Nat), a.all dig = true → (∀ i, i < k → pad a i = pad b i) → pad a k < pad b k → Lib.compareBytes a b = -1
  | [], [], k, _, _, h => by rw [pad_nil] at h; omega
  | [], _ :: _, _, _, _, _ => by unfold Lib.compareBytes; rfl
  | x :: la, [], k, ha, _, h => by have := pad_ge ha k; rw [pad_nil] at h; omega
  | x :: la, y :: lb, k, ha, he, h => by
    unfold Lib.compareBytes
    cases k with
    | zero =>
      rw [pad_zero, pad_zero] at h
      have h1 : x < y := UInt8.lt_iff_toNat_lt.2 (by omega)
      rw [if_pos h1]
    | succ k =>
      have h0 := he 0 (by omega)
      rw [pad_zero, pad_zero] at h0
      have hxy : x = y := UInt8.toNat_inj.1 (by omega)
      subst hxy
      have h1 : ¬ x < x := fun hh => by have := UInt8.lt_iff_toNat_lt.1 hh; omega
      rw [if_neg h1, if_neg h1]
      rw [List.all_cons, Bool.and_eq_true] at ha
      refine lex_lt la lb k ha.2 (fun i hi => ?_) ?_
      · have := he (i + 1) (by omega)
        rw [pad_succ, pad_succ] at this
        exact this
      · rw [pad_succ, pad_succ] at h; exact h

theorem lex_gt (a b : List UInt8) (k : Nat) (hb : b.all dig = true) (he : ∀ i, i < k → pad a i = pad b i) (h : pad b k < pad a k) : Lib.compareBytes a b = 1 := by
  rw [compare_anti b a, lex_lt b a k hb (fun i hi => (he i hi).symm) h]; omega

/-- no zero at the end of either: alike at every place, so the same -/
theorem lex_eq (a b : List UInt8) (ha : a ≠ [] → pad a (a.length - 1) ≠ 48) (hb : b ≠ [] → pad b (b.length - 1) ≠ 48) (he : ∀ i, i < a.length + b.length → pad a i = pad b i) : a = b := by
  have hout : ∀ (l : List UInt8) i, l.length ≤ i → pad l i = 48 := fun l i hi => by unfold pad; rw [List.getElem?_eq_none hi]; rfl
  have hlen : a.length = b.length := by
    rcases Nat.lt_trichotomy a.length b.length with h | h | h
    · exfalso
      have hb0 : b ≠ [] := fun e => by rw [e] at h; simp at h
      have h1 := he (b.length - 1) (by omega)
      rw [hout a _ (by omega)] at h1
      exact hb hb0 h1.symm
    · exact h
    · exfalso
      have ha0 : a ≠ [] := fun e => by rw [e] at h; simp at h
      have h1 := he (a.length - 1) (by omega)
      rw [hout b _ (by omega)] at h1
      exact ha ha0 h1
  apply List.ext_getElem hlen
  intro i h1 h2
  have := he i (by omega)
  unfold pad at this
  rw [List.getElem?_eq_getElem h1, List.getElem?_eq_getElem h2] at this
  simp at this
  exact UInt8.toNat_inj.1 (by omega)

theorem pad_at (s : ByteArray) (q : Nat) (h : q < s.size) : pad s.data.toList q = (s[q].toNat : Int) := by
  unfold pad
  have hl : q < s.data.toList.length := by simpa using h
  rw [List.getElem?_eq_getElem hl]
  rfl

theorem pad_last {n : Bool} {s : ByteArray} {p : Int} (h : Canon n s p) (h0 : s.data.toList ≠ []) : pad s.data.toList (s.data.toList.length - 1) ≠ 48 := by
  have hl : s.data.toList.length = s.size := by simp
  have hp : 0 < s.size := by
    rw [← hl]; exact List.length_pos_iff.2 h0
  rw [hl, pad_at s (s.size - 1) (by omega)]
  exact h.last hp

/-- the heads of what the walk compares: at step k, with 'top' the greater point -/
def hA (s : ByteArray) (p top : Int) (k : Nat) : Int := dA s (p - 1 - (top - 1 - (k : Int)))

theorem hA_eq (s : ByteArray) (p : Int) (k : Nat) : hA s p p k = pad s.data.toList k := by
  unfold hA dA
  have : p - 1 - (p - 1 - (k : Int)) = (k : Int) := by omega
  rw [this, if_pos (by omega)]
  rfl

theorem head_hi {n : Bool} {s : ByteArray} {p : Int} (h : Canon n s p) (h0 : 0 < s.size) : 48 < hA s p p 0 := by
  rw [hA_eq]
  have h1 := pad_ge h.digs 0
  rw [pad_at s 0 h0] at *
  have := h.first h0
  omega
theorem head_lo (s : ByteArray) (p top : Int) (h : p < top) : hA s p top 0 = 48 := by
  unfold hA dA
  rw [if_neg (by omega)]

def top (p1 p2 : Int) : Int := if p1 < p2 then p2 else p1

theorem places_lt {n1 n2 : Bool} {s1 s2 : ByteArray} {p1 p2 : Int} (h1 : Canon n1 s1 p1) (_h2 : Canon n2 s2 p2) (z1 : 0 < s1.size) (_z2 : 0 < s2.size) (k : Nat)
    (he : ∀ i, i < k → hA s1 p1 (top p1 p2) i = hA s2 p2 (top p1 p2) i) (h : hA s1 p1 (top p1 p2) k < hA s2 p2 (top p1 p2) k) : sizeCmp s1 p1 s2 p2 = -1 := by
  unfold sizeCmp
  unfold top at *
  by_cases hp : p1 = p2
  · subst hp
    rw [if_pos rfl]
    rw [if_neg (by omega)] at h he
    rw [hA_eq, hA_eq] at h
    exact lex_lt _ _ k h1.digs (fun i hi => by have := he i hi; rw [hA_eq, hA_eq] at this; exact this) h
  · rw [if_neg hp]
    by_cases hl : p1 < p2
    · rw [if_pos hl]
    · rw [if_neg hl] at h he
      have a1 := head_hi h1 z1
      have a2 := head_lo s2 p2 p1 (by omega)
      cases k with
      | zero => omega
      | succ k => have := he 0 (by omega); omega

theorem places_gt {n1 n2 : Bool} {s1 s2 : ByteArray} {p1 p2 : Int} (_h1 : Canon n1 s1 p1) (h2 : Canon n2 s2 p2) (_z1 : 0 < s1.size) (z2 : 0 < s2.size) (k : Nat)
    (he : ∀ i, i < k → hA s1 p1 (top p1 p2) i = hA s2 p2 (top p1 p2) i) (h : hA s2 p2 (top p1 p2) k < hA s1 p1 (top p1 p2) k) : sizeCmp s1 p1 s2 p2 = 1 := by
  unfold sizeCmp
  unfold top at *
  by_cases hp : p1 = p2
  · subst hp
    rw [if_pos rfl]
    rw [if_neg (by omega)] at h he
    rw [hA_eq, hA_eq] at h
    exact lex_gt _ _ k h2.digs (fun i hi => by have := he i hi; rw [hA_eq, hA_eq] at this; exact this) h
  · rw [if_neg hp]
    by_cases hl : p1 < p2
    · rw [if_pos hl] at h he
      have a1 := head_hi h2 z2
      have a2 := head_lo s1 p1 p2 (by omega)
      cases k with
      | zero => omega
      | succ k => have := he 0 (by omega); omega
    · rw [if_neg hl]

theorem places_eq {n1 n2 : Bool} {s1 s2 : ByteArray} {p1 p2 : Int} (h1 : Canon n1 s1 p1) (h2 : Canon n2 s2 p2) (z1 : 0 < s1.size) (z2 : 0 < s2.size) (k : Nat)
    (he : ∀ i, i < k → hA s1 p1 (top p1 p2) i = hA s2 p2 (top p1 p2) i) (hk : s1.size + s2.size ≤ k) : sizeCmp s1 p1 s2 p2 = 0 := by
  unfold sizeCmp
  unfold top at *
  by_cases hp : p1 = p2
  · subst hp
    rw [if_pos rfl]
    rw [if_neg (by omega)] at he
    rw [compare_zero]
    refine lex_eq _ _ (fun h => pad_last h1 h) (fun h => pad_last h2 h) (fun i hi => ?_)
    have l1 : s1.data.toList.length = s1.size := by simp
    have l2 : s2.data.toList.length = s2.size := by simp
    have := he i (by omega)
    rw [hA_eq, hA_eq] at this
    exact this
  · exfalso
    by_cases hl : p1 < p2
    · rw [if_pos hl] at he
      have a1 := head_hi h2 z2
      have a2 := head_lo s1 p1 p2 (by omega)
      have := he 0 (by omega)
      omega
    · rw [if_neg hl] at he
      have a1 := head_hi h1 z1
      have a2 := head_lo s2 p2 p1 (by omega)
      have := he 0 (by omega)
      omega

end Go.Proofs.Qxb6602496a.Ord
