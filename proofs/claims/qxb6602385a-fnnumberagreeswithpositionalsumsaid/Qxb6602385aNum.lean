/-
  Plain: the number that digits write; no Go in sight ('wrap64' is the kit's name for int's own wrapping).
-/
import Derived.RowKit
namespace Go.Proofs.Qxb6602385a.Num
open Go.RowKit (wrap64)

def dig (c : UInt8) : Bool := decide (48 ≤ (c.toNat : Int) ∧ (c.toNat : Int) ≤ 57)
/-- what the digits l write behind v, from the left, in int's own wrapping arithmetic -/
def val (v : Int) (l : List UInt8) : Int := l.foldl (fun v c => wrap64 (v * 10 + ((c.toNat : Int) - 48))) v

theorem dig_true {c : UInt8} : dig c = true ↔ (48 ≤ (c.toNat : Int) ∧ (c.toNat : Int) ≤ 57) := by unfold dig; simp
theorem dig_false {c : UInt8} : dig c = false ↔ ¬ (48 ≤ (c.toNat : Int) ∧ (c.toNat : Int) ≤ 57) := by unfold dig; simp

theorem val_snoc (v : Int) (l : List UInt8) (c : UInt8) : val v (l ++ [c]) = wrap64 (val v l * 10 + ((c.toNat : Int) - 48)) := by
  unfold val; rw [List.foldl_append]; rfl

theorem wrap_add (a b : Int) : wrap64 (wrap64 a + b) = wrap64 (a + b) := by unfold wrap64; omega
theorem wrap_id (a : Int) (h0 : -9223372036854775808 ≤ a) (h1 : a ≤ 9223372036854775807) : wrap64 a = a := by unfold wrap64; omega

/-- the n bytes of s from 'at' -/
def seg (s : ByteArray) (a n : Nat) : List UInt8 := (s.data.toList.drop a).take n

theorem seg_length (s : ByteArray) (a n : Nat) (h : a + n ≤ s.size) : (seg s a n).length = n := by
  unfold seg
  have : s.data.toList.length = s.size := by simp
  rw [List.length_take, List.length_drop]; omega

/-- what number answers, of the n bytes from 'at' -/
def ok (s : ByteArray) (a n : Nat) : Bool := decide (a + n ≤ s.size) && (seg s a n).all dig
def res (s : ByteArray) (a n : Nat) : Int := if ok s a n then val 0 (seg s a n) else 0

end Go.Proofs.Qxb6602385a.Num
