/-
  Plain: the positional sum from the right is the number read from the left, in int's own wrapping arithmetic. No Go in sight.
-/
import Derived.Test.Qxb6602385aNum
namespace Go.Proofs.Qxb6602385a.Num
open Go.RowKit (wrap64)

theorem wrap_add_mul (x k : Int) : wrap64 (x + 18446744073709551616 * k) = wrap64 x := by unfold wrap64; omega
theorem wrap_form (b : Int) : ∃ q, wrap64 b = b + 18446744073709551616 * q :=
  ⟨-((b + 9223372036854775808) / 18446744073709551616), by unfold wrap64; omega⟩

/-- the exact number that l writes -/
def ev (l : List UInt8) : Int := l.foldl (fun v c => v * 10 + ((c.toNat : Int) - 48)) 0

theorem ev_gen (l : List UInt8) : ∀ v : Int, l.foldl (fun v c => v * 10 + ((c.toNat : Int) - 48)) v = v * 10 ^ l.length + ev l := by
  induction l with
  | nil => intro v; simp [ev]
  | cons c l ih =>
    intro v
    unfold ev
    rw [List.foldl_cons, List.foldl_cons, ih, ih (0 * 10 + ((c.toNat : Int) - 48)), List.length_cons, Int.pow_succ]
    generalize (10 : Int) ^ l.length = t
    rw [Int.zero_mul, Int.zero_add, Int.add_mul, Int.mul_assoc v 10 t, Int.mul_comm 10 t, Int.add_assoc]

theorem ev_cons (c : UInt8) (l : List UInt8) : ev (c :: l) = ((c.toNat : Int) - 48) * 10 ^ l.length + ev l := by
  have h : ev (c :: l) = l.foldl (fun v c => v * 10 + ((c.toNat : Int) - 48)) (0 * 10 + ((c.toNat : Int) - 48)) := rfl
  rw [h, ev_gen, Int.zero_mul, Int.zero_add]

theorem val_gen (l : List UInt8) : ∀ v x : Int, v = wrap64 x → val v l = wrap64 (l.foldl (fun v c => v * 10 + ((c.toNat : Int) - 48)) x) := by
  induction l with
  | nil => intro v x h; exact h
  | cons c l ih =>
    intro v x h
    have hc : val v (c :: l) = val (wrap64 (v * 10 + ((c.toNat : Int) - 48))) l := rfl
    rw [hc, List.foldl_cons]
    refine ih _ _ ?_
    rw [h]
    unfold wrap64
    omega

theorem val_ev (l : List UInt8) : val 0 l = wrap64 (ev l) := val_gen l 0 0 (by unfold wrap64; omega)

/-- one step of the sum from the right: v + digit x p, all wrapping -/
theorem sum_step (c : UInt8) (l : List UInt8) (v p : Int) (hv : v = wrap64 (ev l)) (hp : p = wrap64 (10 ^ l.length)) :
    wrap64 (v + wrap64 (((c.toNat : Int) - 48) * p)) = wrap64 (ev (c :: l)) := by
  rw [ev_cons]
  obtain ⟨q1, h1⟩ := wrap_form (ev l)
  obtain ⟨q2, h2⟩ := wrap_form (10 ^ l.length)
  rw [hv, hp, h1, h2]
  generalize (c.toNat : Int) - 48 = d
  generalize (10 : Int) ^ l.length = t
  obtain ⟨q3, h3⟩ := wrap_form (d * (t + 18446744073709551616 * q2))
  rw [h3, Int.mul_add, Int.mul_left_comm]
  have e : ev l + 18446744073709551616 * q1 + (d * t + 18446744073709551616 * (d * q2) + 18446744073709551616 * q3) = (d * t + ev l) + 18446744073709551616 * (q1 + d * q2 + q3) := by
    rw [Int.mul_add, Int.mul_add]; omega
  rw [e, wrap_add_mul]

theorem pow_step (m : Nat) (p : Int) (hp : p = wrap64 (10 ^ m)) : wrap64 (p * 10) = wrap64 (10 ^ (m + 1)) := by
  rw [hp, Int.pow_succ]
  generalize (10 : Int) ^ m = t
  unfold wrap64
  omega

/-- the bytes of s from j, m of them -/
theorem seg_cons (s : ByteArray) (q m : Nat) (hq : q < s.size) : seg s q (m + 1) = s[q] :: seg s (q + 1) m := by
  unfold seg
  have hl : q < s.data.toList.length := by simpa using hq
  rw [List.drop_eq_getElem_cons hl, List.take_succ_cons]
  rfl

theorem seg_not (s : ByteArray) (a n q : Nat) (ha : a ≤ q) (hq : q < a + n) (hs : a + n ≤ s.size) (hd : dig (s[q]'(by omega)) = false) : (seg s a n).all dig = false := by
  rw [List.all_eq_false]
  have hl : q < s.data.toList.length := by have : s.data.toList.length = s.size := by simp
                                           omega
  have e : (seg s a n)[q - a]? = some (s[q]'(by omega)) := by
    unfold seg
    rw [List.getElem?_take, if_pos (by omega), List.getElem?_drop]
    have : a + (q - a) = q := by omega
    rw [this, List.getElem?_eq_getElem hl]
    rfl
  exact ⟨_, List.mem_of_getElem? e, by rw [hd]; simp⟩

end Go.Proofs.Qxb6602385a.Num
