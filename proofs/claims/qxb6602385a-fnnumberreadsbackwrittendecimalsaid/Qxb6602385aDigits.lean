/-
  Plain: a number written in decimal reads back. No Go in sight.
-/
import Derived.Test.Qxb6602385aNum
namespace Go.Proofs.Qxb6602385a.Num
open Go.RowKit (wrap64)

/-- the i-th digit of V, from the right, as a byte -/
def digit (V i : Nat) : UInt8 := UInt8.ofNat (48 + V / 10 ^ i % 10)
theorem digit_toNat (V i : Nat) : (digit V i).toNat = 48 + V / 10 ^ i % 10 := by
  unfold digit
  rw [UInt8.toNat_ofNat']
  omega
theorem digit_dig (V i : Nat) : dig (digit V i) = true := by
  rw [dig_true, digit_toNat]; omega

/-- the first m of the k digits of V, from the left -/
def dm (V k : Nat) : Nat → List UInt8
  | 0 => []
  | m + 1 => dm V k m ++ [digit V (k - 1 - m)]

theorem dm_length (V k : Nat) : ∀ m, (dm V k m).length = m
  | 0 => rfl
  | m + 1 => by unfold dm; rw [List.length_append, dm_length V k m]; rfl
theorem dm_all (V k : Nat) : ∀ m, (dm V k m).all dig = true
  | 0 => rfl
  | m + 1 => by unfold dm; rw [List.all_append, dm_all V k m]; simp [digit_dig]

theorem div_step (V i : Nat) : V / 10 ^ (i + 1) * 10 + V / 10 ^ i % 10 = V / 10 ^ i := by
  rw [Nat.pow_succ, ← Nat.div_div_eq_div_mul]
  generalize V / 10 ^ i = x
  omega

theorem val_dm (V k : Nat) (hV : (V : Int) ≤ 9223372036854775807) (hk : V < 10 ^ k) : ∀ m, m ≤ k → val 0 (dm V k m) = ((V / 10 ^ (k - m) : Nat) : Int)
  | 0, _ => by
    have : V / 10 ^ (k - 0) = 0 := by rw [Nat.sub_zero]; exact Nat.div_eq_of_lt hk
    rw [this]; rfl
  | m + 1, h => by
    unfold dm
    rw [val_snoc, val_dm V k hV hk m (by omega), digit_toNat]
    have e1 : k - m = (k - 1 - m) + 1 := by omega
    have e2 : k - (m + 1) = k - 1 - m := by omega
    have hs := div_step V (k - 1 - m)
    have hle : V / 10 ^ (k - 1 - m) ≤ V := Nat.div_le_self _ _
    rw [e1, e2, wrap_id _ (by omega) (by omega)]
    omega

theorem val_zeros : ∀ (z : Nat) (l : List UInt8), val 0 (List.replicate z 48 ++ l) = val 0 l
  | 0, _ => rfl
  | z + 1, l => by
    rw [List.replicate_succ, List.cons_append]
    have hc : ∀ (c : UInt8) (m : List UInt8), val 0 (c :: m) = val (wrap64 (0 * 10 + ((c.toNat : Int) - 48))) m := fun _ _ => rfl
    have : wrap64 (0 * 10 + (((48 : UInt8).toNat : Int) - 48)) = 0 := by simp [wrap64]
    rw [hc, this, val_zeros z l]

/-- written behind z zeros, between p and s, V reads back -/
theorem reads_back (p s : List UInt8) (V z k : Nat) (t : ByteArray) (ht : t.data.toList = p ++ List.replicate z 48 ++ dm V k k ++ s) (hV : (V : Int) ≤ 9223372036854775807) (hk : V < 10 ^ k) :
    ok t p.length (z + k) = true ∧ res t p.length (z + k) = V := by
  have hseg : seg t p.length (z + k) = List.replicate z 48 ++ dm V k k := by
    unfold seg
    rw [ht, List.append_assoc, List.append_assoc, List.drop_left, ← List.append_assoc]
    have : z + k = (List.replicate z (48 : UInt8) ++ dm V k k).length := by
      rw [List.length_append, List.length_replicate, dm_length]
    rw [this, List.take_left]
  have hsz : t.size = p.length + z + k + s.length := by
    have : t.size = t.data.toList.length := by simp
    rw [this, ht]; simp [dm_length]; omega
  have ho : ok t p.length (z + k) = true := by
    unfold ok
    rw [hseg, List.all_append, dm_all, decide_eq_true (by omega)]
    simp [dig_true]
  refine ⟨ho, ?_⟩
  unfold res
  rw [if_pos ho, hseg, val_zeros, val_dm V k hV hk k (Nat.le_refl _), Nat.sub_self]
  simp

theorem few_digits (V k : Nat) (hV : (V : Int) ≤ 9223372036854775807) (h : 0 < V / 10 ^ k) : k ≤ 18 := by
  apply Classical.byContradiction
  intro hk
  have h1 : 10 ^ 19 ≤ 10 ^ k := Nat.pow_le_pow_right (by omega) (by omega)
  have h2 : V / 10 ^ k = 0 := Nat.div_eq_of_lt (by omega)
  omega

theorem lt_pow (V k : Nat) (h : V / 10 ^ k = 0) : V < 10 ^ k := by
  have hp : 0 < 10 ^ k := Nat.pow_pos (by omega)
  rcases Nat.lt_or_ge V (10 ^ k) with h1 | h1
  · exact h1
  · have := Nat.div_pos h1 hp; omega

end Go.Proofs.Qxb6602385a.Num
