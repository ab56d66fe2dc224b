/-
  The walks of date.number (17) and date.ZZNumber (10).
-/
import Derived.Test.Qxb6602385aRows
import Derived.Test.Qxb6602385aNum
import Derived.WalkKit
import Derived.ProofKit
import Derived.Below
import Derived.Laws.IdiomStrings
namespace Go.Proofs.Qxb6602385a
open Go.RowKit

theorem ret2_int {a b : Int} {x y : Bool} (h1 : a = b) (h2 : x = y) :
    Ending.returned (.tuple #[.int .i64 a, .bool x]) = .returned (.tuple #[.int .i64 b, .bool y]) := by rw [h1, h2]

theorem number_short (s : ByteArray) (a n : Int) (w : World) (_ha : 0 ≤ a) (_hn : 0 ≤ n) (_hs : s.size ≤ 4194304) (_hsum : a + n ≤ 9223372036854775807) (h : (s.size : Int) < a + n) :
    Calls Try.prog 17 #[.string s, .int .i64 a, .int .i64 n] w fun e w' => e = .returned (.tuple #[.int .i64 0, .bool false]) ∧ w' = w := by
  go_enter Try.func17, Try.ntmps17
  go_wp2
  go_ret2
  exact ⟨rfl, rfl⟩

/-- '[]byte(s[a:a+n])': the two operations, and what the new row holds -/
theorem seg_conv (s : ByteArray) (a n : Nat) (w : World) (h : a + n ≤ s.size) : ∃ (t : ByteArray) (cap : Nat) (C : Array Value),
    (∀ wx, (Instr.slice 9 (.string s) (some (.int .i64 (a : Int))) (some (.int .i64 ((a : Int) + (n : Int)))) none).run Try.prog wx = .ok (.string t) wx) ∧
    (convert 9 28 (.string t)).run Try.prog w = .ok (.slice (some ⟨w.heap.size, 0, none⟩) n cap) (w.drew.alloc (.cells C 5 (C.size, C.size + 1))) ∧
    ∀ j (hj : j < (Num.seg s a n).length), (w.alloc (.cells C 5 (C.size, C.size + 1))).cell? ⟨w.heap.size, j, none⟩ = some (.int .u8 ((Num.seg s a n)[j].toNat : Int)) := by
  have hsz : (s.extract a (a + n)).size = n := by rw [ByteArray.size_extract]; omega
  have hseg : (s.extract a (a + n)).data.toList = Num.seg s a n := by
    unfold Num.seg
    simp [List.take_drop]
  refine ⟨s.extract a (a + n), grownCap w n 0 5, bytesRow (s.extract a (a + n)) (grownCap w n 0 5), fun wx => ?_, ?_, fun j hj => ?_⟩
  · rw [run_slice_string wx 9 s .i64 .i64 (a : Int) ((a : Int) + (n : Int)) Try.underlying9 (by omega) (by omega) (by omega)]
    have e1 : ((a : Int)).toNat = a := by omega
    have e2 : ((a : Int) + (n : Int)).toNat = a + n := by omega
    rw [e1, e2]
  · have := run_bytes_of_string (P := Try.prog) w 9 28 5 (s.extract a (a + n)) Try.underlying9 Try.underlying28 Try.underlying5
    rw [hsz] at this
    exact this
  · have hj' : j < (s.extract a (a + n)).data.size := by
      rw [← Array.length_toList, hseg]; exact hj
    rw [World.cell?_alloc_mark, bytesRow_at _ _ j hj']
    congr 3
    rw [← Array.getElem_toList]
    simp only [hseg]

set_option maxHeartbeats 1000000 in
theorem number_in (s : ByteArray) (a n : Nat) (w : World) (hs : s.size ≤ 4194304) (h : a + n ≤ s.size) :
    Calls Try.prog 17 #[.string s, .int .i64 a, .int .i64 n] w fun e w' => e = .returned (.tuple #[.int .i64 (Num.res s a n), .bool (Num.ok s a n)]) ∧ Below w.heap.size w w' := by
  obtain ⟨t, cap, C, hsl, hconv, hcell0⟩ := seg_conv s a n w h
  have hx : ¬ (s.size : Int) < (a : Int) + n := by omega
  have hlen := Num.seg_length s a n h
  have hbel : Below w.heap.size w (w.alloc (.cells C 5 (C.size, C.size + 1))).drew := ((Below.refl _ _).alloc (Nat.le_refl _) _).drew
  have HR : Hid (Num.res s a n = if (Num.seg s a n).all Num.dig then Num.val 0 (Num.seg s a n) else 0) := by
    show Num.res s a n = _
    unfold Num.res Num.ok; simp [h]
  have HO : Hid (Num.ok s a n = (Num.seg s a n).all Num.dig) := by
    show Num.ok s a n = _
    unfold Num.ok; simp [h]
  generalize Num.seg s a n = l at *
  have hcell : ∀ j (hj : j < n), (w.alloc (.cells C 5 (C.size, C.size + 1))).cell? ⟨w.heap.size, j, none⟩ = some (.int .u8 ((l[j]'(by omega)).toNat : Int)) := fun j hj => hcell0 j (by omega)
  clear hcell0
  have HL : Hid (l.length = n) := hlen
  have hn4 : n ≤ 4194304 := by omega
  go_enter Try.func17, Try.ntmps17
  go_wp2
  go_loop [8, 25] (fun v i => ∃ k : Nat, k ≤ n ∧ i = .int .i64 k ∧ v = .int .i64 (Num.val 0 (l.take k)) ∧ (l.take k).all Num.dig = true) (fun _ i => n - (intOf i).toNat)
  case atStart => exact ⟨0, Nat.zero_le _, rfl, rfl, rfl⟩
  case round =>
    obtain ⟨k, hk, rfl, rfl, hall⟩ := hrel
    by_cases hlt : k < n
    · have hkl : k < l.length := by have := HL.out; omega
      have hck := hcell k hlt
      have HT : Hid (l.take (k + 1) = l.take k ++ [l[k]]) := List.take_succ_eq_append_getElem hkl
      have HV : Hid (Num.val 0 (l.take (k + 1)) = wrap64 (Num.val 0 (l.take k) * 10 + ((l[k].toNat : Int) - 48))) := by
        show Num.val 0 (l.take (k + 1)) = _
        rw [HT.out, Num.val_snoc]
      have hb : (l[k].toNat : Int) < 256 := by have := l[k].toNat_lt; omega
      by_cases hd : Num.dig l[k] = true
      · have HA : Hid ((l.take (k + 1)).all Num.dig = true) := by
          show (l.take (k + 1)).all Num.dig = true
          rw [HT.out, List.all_append, hall]; simp [hd]
        obtain ⟨h48, h57⟩ := Num.dig_true.1 hd
        have HD : Hid (Num.dig l[k] = true) := hd
        clear hd hcell HT hall
        generalize (l[k].toNat : Int) = x at *
        generalize hvk : Num.val 0 (l.take k) = vk at *
        clear hvk
        go_wp2
        go_round
        case rel => exact ⟨k + 1, by omega, by go_num, by rw [HV.out, Num.wrap_add], HA.out⟩
        case measure => simp [intOf]; omega
      · have HF : Hid (l.all Num.dig = false) := by
          show l.all Num.dig = false
          rw [← List.take_append_drop (k + 1) l, List.all_append, HT.out, List.all_append]; simp [hd]
        have hn := mt Num.dig_true.2 hd
        clear hd hcell HT hall
        generalize (l[k].toNat : Int) = x at *
        generalize hvk : Num.val 0 (l.take k) = vk at *
        clear hvk
        by_cases h48 : x < 48
        · go_wp2
          go_ret2
          exact ⟨ret2_int (by rw [HR.out, HF.out]; rfl) (by rw [HO.out, HF.out]), hbel⟩
        · have h57 : 57 < x := by omega
          go_wp2
          go_ret2
          exact ⟨ret2_int (by rw [HR.out, HF.out]; rfl) (by rw [HO.out, HF.out]), hbel⟩
    · have HA : Hid (l.take k = l) := List.take_of_length_le (by have := HL.out; omega)
      rw [HA.out] at hall
      have HG : Hid (l.all Num.dig = true) := hall
      clear hall hcell
      go_wp2
      go_ret2
      exact ⟨ret2_int (by rw [HR.out, HG.out, HA.out]; rfl) (by rw [HO.out, HG.out]), hbel⟩

/-- date.number, whole -/
theorem number_any (s : ByteArray) (a n : Int) (w : World) (ha : 0 ≤ a) (hn : 0 ≤ n) (hs : s.size ≤ 4194304) (hsum : a + n ≤ 9223372036854775807) :
    Calls Try.prog 17 #[.string s, .int .i64 a, .int .i64 n] w fun e w' => e = .returned (.tuple #[.int .i64 (Num.res s a.toNat n.toNat), .bool (Num.ok s a.toNat n.toNat)]) ∧ Below w.heap.size w w' := by
  by_cases h : (s.size : Int) < a + n
  · refine (number_short s a n w ha hn hs hsum h).mono ?_
    rintro e w' ⟨rfl, rfl⟩
    have ho : Num.ok s a.toNat n.toNat = false := by
      unfold Num.ok
      rw [decide_eq_false (by omega)]; rfl
    refine ⟨ret2_int ?_ ho.symm, Below.refl _ _⟩
    unfold Num.res; rw [ho]; rfl
  · obtain ⟨a', rfl⟩ := Int.eq_ofNat_of_zero_le ha
    obtain ⟨n', rfl⟩ := Int.eq_ofNat_of_zero_le hn
    rw [Int.toNat_natCast, Int.toNat_natCast]
    exact number_in s a' n' w hs (by omega)

theorem zznumber_any (s : ByteArray) (a n : Int) (w : World) (ha : 0 ≤ a) (hn : 0 ≤ n) (hs : s.size ≤ 4194304) (hsum : a + n ≤ 9223372036854775807) :
    Calls Try.prog 10 #[.string s, .int .i64 a, .int .i64 n] w fun e w' => e = .returned (.tuple #[.int .i64 (Num.res s a.toNat n.toNat), .bool (Num.ok s a.toNat n.toNat)]) ∧ Below w.heap.size w w' := by
  go_enter Try.func10, Try.ntmps10
  go_wp2_with fail
  refine (number_any s a n _ ha hn hs hsum).mono ?_
  rintro e w' ⟨rfl, hb⟩
  go_wp2
  go_ret2
  exact ⟨rfl, hb⟩

end Go.Proofs.Qxb6602385a
