/-
  What the walk of FnNumberReadsBackWrittenDecimal stands on: the array of digits in memory; the guard zzBytes (13).
-/
import Derived.Test.Qxb6602385aRows
import Derived.Test.Qxb6602385aDigits
import Derived.Test.Qxb6602385aNumber
import Derived.WalkKit
import Derived.ProofKit
import Derived.Lib.AppendStr
namespace Go.Proofs.Qxb6602385a
open Go.RowKit

theorem ret_bool {a b : Bool} (h : a = b) : Ending.returned (.bool a) = .returned (.bool b) := by rw [h]

theorem zzBytes13 (p s : ByteArray) (v z : Int) (w : World) (hp : p.size ≤ maxLen) (hs : s.size ≤ maxLen) :
    Calls Try.prog 13 #[.string p, .string s, .int .i64 v, .int .i64 z] w fun e w' => e = .returned (.bool (decide (p.size + s.size ≤ 1048576))) ∧ w' = w := by
  unfold maxLen at hp hs
  by_cases h1 : (1048576 : Int) < p.size
  · go_enter Try.func13, Try.ntmps13
    go_wp2
    go_ret
    exact ⟨ret_bool (decide_eq_false (by omega)).symm, rfl⟩
  · by_cases h2 : (1048576 : Int) < s.size
    · go_enter Try.func13, Try.ntmps13
      go_wp2
      go_ret
      exact ⟨ret_bool (decide_eq_false (by omega)).symm, rfl⟩
    · by_cases h3 : (1048576 : Int) < p.size + s.size
      · go_enter Try.func13, Try.ntmps13
        go_wp2
        go_ret
        exact ⟨ret_bool (decide_eq_false (by omega)).symm, rfl⟩
      · go_enter Try.func13, Try.ntmps13
        go_wp2
        go_ret
        exact ⟨ret_bool (decide_eq_true (by omega)).symm, rfl⟩

/-- block B holds the array 'rev', its first k cells the k digits of V from the right; below B nothing has turned -/
structure Rev (B V k : Nat) (w wr : World) : Prop where
  cells : ∀ j, j < 20 → ∃ u, wr.cell? ⟨B, j, none⟩ = some (.int .u8 u)
  digs : ∀ j, j < k → wr.cell? ⟨B, j, none⟩ = some (.int .u8 ((Num.digit V j).toNat : Int))
  froz : ∀ j, wr.frozen? ⟨B, j, none⟩ = false
  size : wr.heap.size = B + 1
  bel : Below B w wr

theorem Rev.store {B V k : Nat} {w wr : World} (h : Rev B V k w wr) (hk : k < 20) {x : Int} (hx : x = ((Num.digit V k).toNat : Int)) :
    Rev B V (k + 1) w (wr.setCell ⟨B, k, none⟩ (.int .u8 x)) := by
  subst hx
  have same : (wr.setCell ⟨B, k, none⟩ (.int .u8 ((Num.digit V k).toNat : Int))).cell? ⟨B, k, none⟩ = some (.int .u8 ((Num.digit V k).toNat : Int)) := by
    obtain ⟨u, hu⟩ := h.cells k hk
    exact World.cell?_setCell_same _ _ _ hu
  have other : ∀ j, j ≠ k → (wr.setCell ⟨B, k, none⟩ (.int .u8 ((Num.digit V k).toNat : Int))).cell? ⟨B, j, none⟩ = wr.cell? ⟨B, j, none⟩ := fun j hj =>
    World.cell?_setCell_other _ _ _ _ (by intro e; injection e with _ e2; exact hj e2.symm)
  refine ⟨fun j hj => ?_, fun j hj => ?_, fun j => ?_, ?_, h.bel.setCell (Nat.le_refl _) _⟩
  · by_cases e : j = k
    · subst e; exact ⟨_, same⟩
    · rw [other j e]; exact h.cells j hj
  · by_cases e : j = k
    · subst e; exact same
    · rw [other j e]; exact h.digs j (by omega)
  · rw [World.frozen?_setCell]; exact h.froz j
  · rw [← h.size]; simp [World.setCell]

theorem Rev.start (V : Nat) (w : World) (C : Array Value) (hC : ∀ j, j < 20 → ∃ u, C[j]? = some (.int .u8 u)) : Rev w.heap.size V 0 w (w.alloc (.cells C 27)) := by
  refine ⟨fun j hj => ?_, fun j hj => by omega, fun j => ?_, by simp, (Below.refl _ _).alloc (Nat.le_refl _) _⟩
  · obtain ⟨u, hu⟩ := hC j hj
    exact ⟨u, by rw [World.cell?_alloc_mark, hu]⟩
  · rw [World.frozen?_alloc_mark]; simp

theorem twenty (j : Nat) (hj : j < 20) : ∃ u, (#[Value.int .u8 0, .int .u8 0, .int .u8 0, .int .u8 0, .int .u8 0, .int .u8 0, .int .u8 0, .int .u8 0, .int .u8 0, .int .u8 0,
    .int .u8 0, .int .u8 0, .int .u8 0, .int .u8 0, .int .u8 0, .int .u8 0, .int .u8 0, .int .u8 0, .int .u8 0, .int .u8 0] : Array Value)[j]? = some (.int .u8 u) := by
  match j, hj with
  | 0, _ | 1, _ | 2, _ | 3, _ | 4, _ | 5, _ | 6, _ | 7, _ | 8, _ | 9, _ | 10, _ | 11, _ | 12, _ | 13, _ | 14, _ | 15, _ | 16, _ | 17, _ | 18, _ | 19, _ => exact ⟨0, rfl⟩
  | j + 20, h => omega

theorem Rev.start0 (w : World) (C : Array Value) (hC : ∀ j, j < 20 → ∃ u, C[j]? = some (.int .u8 u)) (h0 : C[0]? = some (.int .u8 48)) : Rev w.heap.size 0 1 w (w.alloc (.cells C 27)) := by
  have h := Rev.start 0 w C hC
  refine ⟨h.cells, fun j hj => ?_, h.froz, h.size, h.bel⟩
  obtain rfl : j = 0 := by omega
  rw [World.cell?_alloc_mark, h0, Num.digit_toNat]; rfl

theorem twenty0 (j : Nat) (hj : j < 20) : ∃ u, (#[Value.int .u8 48, .int .u8 0, .int .u8 0, .int .u8 0, .int .u8 0, .int .u8 0, .int .u8 0, .int .u8 0, .int .u8 0, .int .u8 0,
    .int .u8 0, .int .u8 0, .int .u8 0, .int .u8 0, .int .u8 0, .int .u8 0, .int .u8 0, .int .u8 0, .int .u8 0, .int .u8 0] : Array Value)[j]? = some (.int .u8 u) := by
  match j, hj with
  | 0, _ => exact ⟨48, rfl⟩
  | 1, _ | 2, _ | 3, _ | 4, _ | 5, _ | 6, _ | 7, _ | 8, _ | 9, _ | 10, _ | 11, _ | 12, _ | 13, _ | 14, _ | 15, _ | 16, _ | 17, _ | 18, _ | 19, _ => exact ⟨0, rfl⟩
  | j + 20, h => omega

theorem info5 : (Try.prog.info? 5).map (fun i => (i.zero, i.size, i.bytes)) = some (some (.int .u8 0), 1, 1) := by kernel_rfl

/-- bytes as cells -/
def cl (l : List UInt8) : List Value := l.map fun b => Value.int .u8 b.toNat
theorem cl_str (s : ByteArray) : Lib.strCells s = cl s.data.toList := rfl
theorem cl_app (l m : List UInt8) : cl (l ++ m) = cl l ++ cl m := by unfold cl; rw [List.map_append]
theorem cl_length (l : List UInt8) : (cl l).length = l.length := by unfold cl; rw [List.length_map]

/-- one byte appended to the call's own row -/
theorem own_step {base n : Nat} {w0 wr w5 : World} {o : Obj} {b v5 : Value} {L : List UInt8} (c : UInt8) (hsz : base ≤ w0.heap.size)
    (hown : wr.ownsRow base 5 1 b n (cl L)) (hbel : Below base w0 wr) (h5 : w5.ownsRow base 5 1 v5 (n + 1) (cl L ++ [.int .u8 (c.toNat : Int)])) (hg : (wr.alloc o).grownBy w5 b.ownBlock) :
    w5.ownsRow base 5 1 v5 (n + 1) (cl (L ++ [c])) ∧ Below base w0 w5 := by
  have hs := hbel.size
  refine ⟨by rw [cl_app]; exact h5, (hbel.alloc (by omega) o).grown hg (by simp; omega) (fun k hk => (hown.lt k hk).1)⟩

/-- a string appended to the call's own row -/
theorem own_str {base n : Nat} {w0 wr w5 : World} {b v5 : Value} {L : List UInt8} (s : ByteArray) (hsz : base ≤ w0.heap.size)
    (hown : wr.ownsRow base 5 1 b n (cl L)) (hbel : Below base w0 wr) (h5 : w5.ownsRow base 5 1 v5 (n + s.size) (cl L ++ Lib.strCells s)) (hg : wr.grownBy w5 b.ownBlock) :
    w5.ownsRow base 5 1 v5 (n + s.size) (cl (L ++ s.data.toList)) ∧ Below base w0 w5 := by
  have hs := hbel.size
  refine ⟨by rw [cl_app, ← cl_str]; exact h5, hbel.grown hg (by omega) (fun k hk => (hown.lt k hk).1)⟩

/-- 'string(buf)' of the call's own row -/
theorem own_back {base n : Nat} {wr : World} {b : Value} {L : List UInt8} (hn : 0 < n) (hown : wr.ownsRow base 5 1 b n (cl L)) :
    ∃ g cap t, b = .slice (some ⟨g, 0, none⟩) n cap ∧ (convert 28 9 (.slice (some ⟨g, 0, none⟩) n cap)).run Try.prog wr = .ok (.string t) wr ∧ t.data.toList = L := by
  have hl : L.length = n := by have := hown.1; rw [cl_length] at this; omega
  rcases hown.2 with ⟨_, h0⟩ | ⟨g, cap, cur, hv, hrest⟩
  · omega
  · subst hv
    refine ⟨g, cap, ⟨L.toArray⟩, rfl, ?_, rfl⟩
    have hc : ∀ j (hj : j < L.length), wr.cell? ((⟨g, 0, none⟩ : Addr).add j) = some (.int .u8 (L[j].toNat : Int)) := fun j hj =>
      hown.cells (g := g) rfl j _ (by unfold cl; rw [List.getElem?_map, List.getElem?_eq_getElem hj]; rfl)
    have := run_convert_bytes_back (P := Try.prog) wr 28 9 5 ⟨g, 0, none⟩ cap L Try.underlying28 Try.underlying5 Try.underlying9 hc
    rw [hl] at this
    exact this

end Go.Proofs.Qxb6602385a
