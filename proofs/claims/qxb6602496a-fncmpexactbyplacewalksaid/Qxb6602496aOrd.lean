/-
  Plain: signs, canonical digits, the order of decimals. No Go in sight ('Lib.compareBytes' is the shelf's name for the order of bytes).
-/
import Derived.Lib.Bytealg
namespace Go.Proofs.Qxb6602496a.Ord

def sgn (neg : Bool) (s : ByteArray) : Int := if s.toList.isEmpty then 0 else if neg then -1 else 1
def dig (c : UInt8) : Bool := decide (48 ≤ (c.toNat : Int) ∧ (c.toNat : Int) ≤ 57)

theorem dig_true {c : UInt8} : dig c = true ↔ (48 ≤ (c.toNat : Int) ∧ (c.toNat : Int) ≤ 57) := by unfold dig; simp
theorem dig_false {c : UInt8} : dig c = false ↔ ¬ (48 ≤ (c.toNat : Int) ∧ (c.toNat : Int) ≤ 57) := by unfold dig; simp

theorem sgn_bd (n : Bool) (s : ByteArray) : -1 ≤ sgn n s ∧ sgn n s ≤ 1 := by
  unfold sgn; split
  · omega
  · split <;> omega

/-- sizes, then bytes -/
def sizeCmp (s1 : ByteArray) (p1 : Int) (s2 : ByteArray) (p2 : Int) : Int :=
  if p1 = p2 then Lib.compareBytes s1.data.toList s2.data.toList else if p1 < p2 then -1 else 1
def cmpD (n1 : Bool) (s1 : ByteArray) (p1 : Int) (n2 : Bool) (s2 : ByteArray) (p2 : Int) : Int :=
  if sgn n1 s1 = sgn n2 s2 then (if n1 then -(sizeCmp s1 p1 s2 p2) else sizeCmp s1 p1 s2 p2) else if sgn n1 s1 < sgn n2 s2 then -1 else 1

theorem compare_bd : ∀ a b : List UInt8, -1 ≤ Lib.compareBytes a b ∧ Lib.compareBytes a b ≤ 1
  | [], [] => by unfold Lib.compareBytes; omega
  | [], _ :: _ => by unfold Lib.compareBytes; omega
  | _ :: _, [] => by unfold Lib.compareBytes; omega
  | a :: as, b :: bs => by
    unfold Lib.compareBytes
    split
    · omega
    · split
      · omega
      · exact compare_bd as bs

theorem sizeCmp_bd (s1 : ByteArray) (p1 : Int) (s2 : ByteArray) (p2 : Int) : -1 ≤ sizeCmp s1 p1 s2 p2 ∧ sizeCmp s1 p1 s2 p2 ≤ 1 := by
  unfold sizeCmp; split
  · exact compare_bd _ _
  · split <;> omega

end Go.Proofs.Qxb6602496a.Ord
