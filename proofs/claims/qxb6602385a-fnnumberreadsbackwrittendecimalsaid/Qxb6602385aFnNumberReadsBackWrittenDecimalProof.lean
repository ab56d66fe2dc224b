/-
  'Rows.FnNumberReadsBackWrittenDecimalSaid': the walk (three loops; the array, the row of bytes); the row's frame by the guide's shell, the world told by 'Below' ('[]byte(s)' lays a marked row, of which 'Grown' does not hold).
-/
import Derived.Test.Qxb6602385aRows
import Derived.Test.Qxb6602385aWritten
import Derived.WalkKit
import Derived.ProofKit
import Derived.OpenShut
import Derived.ShutString
namespace Go.Proofs.Qxb6602385a.fnNumberReadsBackWrittenDecimal
open Go.ChangeShapes Go.WideShapes Go.ChangeAt Go.RowKit
open Go.ChangeMaps (open_string shut_string)
set_option linter.unusedVariables false      -- a walk need not use every 'w<i>' (that an integer argument fits its kind)

theorem own : ownKnob Try.prog.godebug = none := by kernel_rfl

-- the long way: the number is written and read back
set_option maxHeartbeats 1000000 in
theorem rb (p s : ByteArray) (V : Nat) (z : Nat) (w : World) (hp : p.size + s.size ≤ 1048576) (hV : (V : Int) ≤ 9223372036854775807) (hz : z ≤ 4096) :
    Calls Try.prog 5 #[.string p, .string s, .int .i64 V, .int .i64 z] w fun e w' => e = .returned (.bool true) ∧ Below w.heap.size w w' := by
  have hg : decide (p.size + s.size ≤ 1048576) = true := by simp [hp]
  have q1 : decide ((1048576 : Int) < p.size) = false := by simp; omega
  have q2 : decide ((1048576 : Int) - p.size < s.size) = false := by simp; omega
  have q3 : decide ((V : Int) < 0) = false := by simp
  have q4 : decide ((z : Int) < 0) = false := by simp
  have q5 : decide ((4096 : Int) < z) = false := by simp; omega
  have HS := Rev.start V w _ twenty
  have HS0 : Hid (V = 0 → Rev w.heap.size V 1 w (w.alloc (.cells #[Value.int .u8 48, .int .u8 0, .int .u8 0, .int .u8 0, .int .u8 0, .int .u8 0, .int .u8 0, .int .u8 0, .int .u8 0, .int .u8 0,
      .int .u8 0, .int .u8 0, .int .u8 0, .int .u8 0, .int .u8 0, .int .u8 0, .int .u8 0, .int .u8 0, .int .u8 0, .int .u8 0] 27))) := fun h => by
    subst h; exact Rev.start0 w _ twenty0 rfl
  rcases Bool.eq_false_or_eq_true ((V : Int) == 0) with hV0 | hV0
  all_goals
    go_enter Try.func5, Try.ntmps5
    go_wp2_with fail
    refine (zzBytes13 p s _ _ _ (by unfold maxLen; omega) (by unfold maxLen; omega)).mono ?_
    rintro e w' ⟨rfl, hw⟩
    rw [hg, hw]
    clear hw w' hg
    go_wp2
    go_loopw [10, 11] (fun kk xx wr => ∃ k X : Nat, kk = .int .i64 k ∧ xx = .int .i64 X ∧ Hid (X = V / 10 ^ k) ∧ (0 < X ∨ 1 ≤ k) ∧ k ≤ 19 ∧ Rev w.heap.size V k w wr) (fun _ xx _ => (intOf xx).toNat)
    case atStart =>
      first
        | (have h0 : V = 0 := by simpa using hV0
           refine ⟨1, V, rfl, rfl, ?_, .inr (by omega), by omega, HS0.out h0⟩
           show V = V / 10 ^ 1
           rw [h0])
        | (have h0 : 0 < V := by
             have : (V : Int) ≠ 0 := by simpa using hV0
             omega
           refine ⟨0, V, rfl, rfl, ?_, .inl h0, by omega, HS⟩
           show V = V / 10 ^ 0
           simp)
    case round =>
      rename World => w1
      obtain ⟨k, X, rfl, rfl, HX, hkx, hk, hrev⟩ := hrel
      clear HS HS0
      have hXb : (X : Int) ≤ 9223372036854775807 := by have := HX.out; have := Nat.div_le_self V (10 ^ k); omega
      by_cases hlt : 0 < X
      · have hk18 := Num.few_digits V k hV (by have := HX.out; omega)
        have R := hrev.store (k := k) (by omega) (x := 48 + (X : Int) % 10) (by rw [Num.digit_toNat, ← HX.out]; omega)
        obtain ⟨c0, hc0⟩ := hrev.cells k (by omega)
        have hf0 := hrev.froz k
        go_wp2
        go_roundw
        case rel =>
          refine ⟨k + 1, X / 10, by go_num, by go_num, ?_, .inr (by omega), by omega, ?_⟩
          · show X / 10 = V / 10 ^ (k + 1)
            rw [HX.out, Nat.pow_succ, Nat.div_div_eq_div_mul]
          · exact R
        case measure => simp [intOf]; omega
      · have hk1 : 1 ≤ k := by omega
        have HK : Hid (V < 10 ^ k) := Num.lt_pow V k (by have := HX.out; omega)
        obtain ⟨i0, hi, hz0, hz1, hz2⟩ := info_parts info5
        obtain ⟨w2, hmk, hown2, hgr2⟩ := run_make_own (P := Try.prog) w1 (w.heap.size + 1) 28 5 i0 (.int .u8 0) 1 Try.underlying28 hi hz0 hz1 .i64 .i64 (p.size + z + k + s.size) (by rw [hz2]; omega) (by unfold maxLen; omega) (by rw [hrev.size]; omega)
        have ec : ((p.size + z + k + s.size : Nat) : Int) = (p.size : Int) + z + k + s.size := by omega
        rw [ec] at hmk
        have hb2 : Below (w.heap.size + 1) w1 w2 := (Below.refl _ _).grown hgr2 (by rw [hrev.size]; omega) (fun _ h => by cases h)
        clear ec hgr2
        have hxx : ¬ (0 : Int) < X := by omega
        go_wp2_with (first
          | (at_builtin; refine Lib.wpList_append_own_string _ rfl _ _ 28 9 rfl (w.heap.size + 1) 5 i0 Try.underlying28 Try.underlying9 hi hz0 hz1 hz2 _ 0 [] rfl hown2 p rfl ?c1 ?c2 ?c3 ?_)
          | go_in)
        case c1 => unfold maxLen; omega
        case c2 => omega
        case c3 => have := hb2.size; rw [hrev.size] at this; omega
        intro v3 w3 hown3 hgr3 _
        have hsz : w.heap.size + 1 ≤ w1.heap.size := by rw [hrev.size]; omega
        obtain ⟨hown3, hb3⟩ := own_str (L := []) (n := 0) (v5 := v3) (w0 := w1) p hsz hown2 hb2 (by rw [Nat.zero_add]; exact hown3) hgr3
        rw [Nat.zero_add, List.nil_append] at hown3
        clear hgr3 hown2 hmk hb2
        have hdig := hrev.digs
        have hbw := hrev.bel
        clear hrev
        go_wp2
        go_loopw [12, 13] (fun b i wx => ∃ m : Nat, m ≤ z ∧ i = .int .i64 m ∧ wx.ownsRow (w.heap.size + 1) 5 1 b (p.size + m) (cl (p.data.toList ++ List.replicate m 48)) ∧ Below (w.heap.size + 1) w1 wx) (fun _ i _ => z - (intOf i).toNat)
        case atStart => exact ⟨0, Nat.zero_le _, rfl, by simpa using hown3, hb3⟩
        case round =>
          rename World => w4
          obtain ⟨m, hm, rfl, hown4, hb4⟩ := hrel
          clear hown3 hb3
          by_cases hmz : m < z
          · go_wp2_with (first
              | (at_builtin; refine wpList_append_own _ rfl _ _ 28 rfl (w.heap.size + 1) 5 i0 (.int .u8 0) 1 1 Try.underlying28 hi hz0 hz1 hz2 rfl (by decide) _ _ _ rfl (hown4.alloc _) ⟨w4.heap.size, 0, none⟩ 1 1 [.int .u8 48] rfl rfl ?c1 ?c2 ?c3 ?c4 ?c5 ?_)
              | go_in)
            case c1 =>
              intro j u hj
              match j, hj with
              | 0, hj => simp at hj; subst hj; simp [Addr.add]
            case c2 => intro u hu; simp at hu; subst hu; rfl
            case c3 => unfold maxLen; omega
            case c4 => omega
            case c5 => have := hb4.size; simp; omega
            intro v5 w5 hown5 hgr5 _
            have R := own_step (w0 := w1) 48 hsz hown4 hb4 hown5 hgr5
            rw [List.append_assoc, ← List.replicate_succ'] at R
            clear hown5 hgr5 hown4 hb4
            go_wp2
            go_roundw
            case rel => exact ⟨m + 1, by omega, by go_num, R.1, R.2⟩
            case measure => simp [intOf]; omega
          · have hme : z = m := by omega
            subst hme
            go_wp2
            go_loopw [12, 14] (fun b i wx => ∃ m r : Nat, m + r = k ∧ i = .int .i64 ((r : Int) - 1) ∧ wx.ownsRow (w.heap.size + 1) 5 1 b (p.size + z + m) (cl (p.data.toList ++ (List.replicate z 48 ++ Num.dm V k m))) ∧ Below (w.heap.size + 1) w1 wx) (fun _ i _ => (intOf i + 1).toNat)
            case atStart => exact ⟨0, k, by omega, rfl, by simpa [Num.dm] using hown4, hb4⟩
            case round =>
              rename World => w6
              obtain ⟨m, r, hmr, rfl, hown6, hb6⟩ := hrel
              clear hown4 hb4
              have HMR : Hid (m + r = k) := hmr
              have hmk' : m ≤ k := by omega
              clear hmr
              rcases r with _ | q
              · have hmk : k = m := by have := HMR.out; omega
                subst hmk
                go_wp2_with (first
                  | (at_builtin; refine Lib.wpList_append_own_string _ rfl _ _ 28 9 rfl (w.heap.size + 1) 5 i0 Try.underlying28 Try.underlying9 hi hz0 hz1 hz2 _ _ _ rfl hown6 s rfl ?c1 ?c2 ?c3 ?_)
                  | go_in)
                case c1 => unfold maxLen; omega
                case c2 => omega
                case c3 => have := hb6.size; omega
                intro v7 w7 hown7 hgr7 _
                obtain ⟨hown7, hb7⟩ := own_str (w0 := w1) s hsz hown6 hb6 hown7 hgr7
                obtain ⟨g, cap, t, hv7, hconv, ht⟩ := own_back (by omega) hown7
                rw [hv7]
                have hrb := Num.reads_back p.data.toList s.data.toList V z k t (by rw [ht]; simp) hV HK.out
                have hpl : p.data.toList.length = p.size := by simp
                have hsl : s.data.toList.length = s.size := by simp
                have hts : t.size ≤ 4194304 := by
                  have e1 : t.size = t.data.toList.length := by simp
                  rw [e1, ht, List.length_append, List.length_append, List.length_append, List.length_replicate, Num.dm_length, hpl, hsl]
                  omega
                rw [hpl] at hrb
                have HO : Hid (Num.ok t p.size (z + k) = true) := hrb.1
                have HV : Hid (Num.res t p.size (z + k) = V) := hrb.2
                clear hrb ht hpl hsl hown7
                have hbw7 : Below w.heap.size w w7 := hbw.trans (hb7.mono (by omega))
                have hle : w.heap.size ≤ w7.heap.size := hbw7.size
                go_wp2_with fail
                refine (zznumber_any t (p.size : Int) ((z : Int) + k) _ (by omega) (by omega) hts (by omega)).mono ?_
                rintro e w9 ⟨rfl, hb9⟩
                rw [show ((p.size : Int)).toNat = p.size from by omega, show ((z : Int) + (k : Int)).toNat = z + k from by omega, HO.out, HV.out]
                go_wp2
                go_ret
                exact ⟨by simp, hbw7.trans (hb9.mono hle)⟩
              · have hq : (((q + 1 : Nat) : Int) - 1) = (q : Int) := by omega
                rw [hq]
                have hqk : q < k := by have := HMR.out; omega
                have hcq : w6.cell? ⟨w.heap.size, q, none⟩ = some (.int .u8 ((Num.digit V q).toNat : Int)) := (hb6.cell (p := ⟨w.heap.size, q, none⟩) (by simp)).trans (hdig q hqk)
                have HQ : Hid (k - 1 - m = q) := by have := HMR.out; show k - 1 - m = q; omega
                clear hq hdig
                go_wp2_with (first
                  | (at_builtin; refine wpList_append_own _ rfl _ _ 28 rfl (w.heap.size + 1) 5 i0 (.int .u8 0) 1 1 Try.underlying28 hi hz0 hz1 hz2 rfl (by decide) _ _ _ rfl (hown6.alloc _) ⟨w6.heap.size, 0, none⟩ 1 1 [.int .u8 ((Num.digit V q).toNat : Int)] rfl rfl ?c1 ?c2 ?c3 ?c4 ?c5 ?_)
                  | go_in)
                case c1 =>
                  intro j u hj
                  match j, hj with
                  | 0, hj => simp at hj; subst hj; simp [Addr.add]
                case c2 => intro u hu; simp at hu; subst hu; rfl
                case c3 => unfold maxLen; omega
                case c4 => omega
                case c5 => have := hb6.size; simp; omega
                intro v8 w8 hown8 hgr8 _
                have R := own_step (w0 := w1) (Num.digit V q) hsz hown6 hb6 hown8 hgr8
                have HR : Hid (Num.dm V k (m + 1) = Num.dm V k m ++ [Num.digit V q]) := by
                  show Num.dm V k (m + 1) = _
                  rw [← HQ.out]; rfl
                rw [List.append_assoc, List.append_assoc, ← HR.out] at R
                clear hown8 hgr8 hown6 hb6 hcq
                go_wp2
                go_roundw
                case rel => exact ⟨m + 1, q, by have := HMR.out; omega, by go_num, R.1, R.2⟩
                case measure => simp [intOf]
/-! ### THE WALK -/
theorem walk (a0 : ByteArray) (a1 : ByteArray) (a2 : Int) (a3 : Int) (w0 : a0.size ≤ maxLen) (w1 : a1.size ≤ maxLen) (w2 : (Lit.int .i64 a2).wf = true) (w3 : (Lit.int .i64 a3).wf = true) (w : World) :
    Calls Try.prog 5 #[.string a0, .string a1, .int .i64 a2, .int .i64 a3] w fun e w' => e = .returned (.bool true) ∧ Below w.heap.size w w' := by
  obtain ⟨b20, b21⟩ := bounds_i64 w2
  by_cases hp : a0.size + a1.size ≤ 1048576
  · by_cases hv : a2 < 0
    · have hg : decide (a0.size + a1.size ≤ 1048576) = true := by simp [hp]
      go_enter Try.func5, Try.ntmps5
      go_wp2_with fail
      refine (zzBytes13 a0 a1 _ _ _ w0 w1).mono ?_
      rintro e w' ⟨rfl, hw⟩
      rw [hg, hw]
      clear hw w' hg
      go_wp2
      go_ret
      exact ⟨rfl, Below.refl _ _⟩
    · by_cases hz : a3 < 0
      · have hg : decide (a0.size + a1.size ≤ 1048576) = true := by simp [hp]
        go_enter Try.func5, Try.ntmps5
        go_wp2_with fail
        refine (zzBytes13 a0 a1 _ _ _ w0 w1).mono ?_
        rintro e w' ⟨rfl, hw⟩
        rw [hg, hw]
        clear hw w' hg
        go_wp2
        go_ret
        exact ⟨rfl, Below.refl _ _⟩
      · by_cases hz2 : 4096 < a3
        · have hg : decide (a0.size + a1.size ≤ 1048576) = true := by simp [hp]
          go_enter Try.func5, Try.ntmps5
          go_wp2_with fail
          refine (zzBytes13 a0 a1 _ _ _ w0 w1).mono ?_
          rintro e w' ⟨rfl, hw⟩
          rw [hg, hw]
          clear hw w' hg
          go_wp2
          go_ret
          exact ⟨rfl, Below.refl _ _⟩
        · obtain ⟨V, rfl⟩ := Int.eq_ofNat_of_zero_le (by omega : 0 ≤ a2)
          obtain ⟨z, rfl⟩ := Int.eq_ofNat_of_zero_le (by omega : 0 ≤ a3)
          exact rb a0 a1 V z w hp b21 (by omega)
  · have hg : decide (a0.size + a1.size ≤ 1048576) = false := by simp; omega
    go_enter Try.func5, Try.ntmps5
    go_wp2_with fail
    refine (zzBytes13 a0 a1 _ _ _ w0 w1).mono ?_
    rintro e w' ⟨rfl, hw⟩
    rw [hg, hw]
    clear hw w' hg
    go_wp2
    go_ret
    exact ⟨rfl, Below.refl _ _⟩

/-! ### THE ROW's STEP: WRITTEN OUT: LEAVE IT -/
set_option maxRecDepth 100000 in
theorem lifted (os : Os) (started : os.Started) (H : Type) (enc : TypeId × Value → H) :
    ReturnsInHanded {} Try.checked os 5 .any (Rows.fnNumberReadsBackWrittenDecimalSpec.pre6 enc Try.prog Try.f5 Rows.fnNumberReadsBackWrittenDecimalRow.domain false) (Rows.fnNumberReadsBackWrittenDecimalSpec.post enc Try.prog Try.f5 false true false false) := by
  refine returnsInHanded_of_change (C := Try.checked) own started (by kernel_rfl) Try.func5
    (ChangeSpec.witness6 (enc := enc) (C := Try.checked) false ⟨#[], #[.string ByteArray.empty, .string ByteArray.empty, .int .i64 0, .int .i64 0], []⟩ 8 (by kernel_rfl) (by kernel_rfl) (by kernel_rfl) (by kernel_rfl)) ?_
  intro W base args ds gs before hval0 hW hcnd _
  have hval : ∀ (j : Nat) t v, Try.f5.params[j]? = some t → args[j]? = some v → Value.okWide Try.prog W .any base t v := hval0
  have hW' := hW
  obtain ⟨p, q, hA0, hV, rfl, hfz, hnd⟩ := hW
  have hA : DataW.TrodAll enc Try.prog W 0 (fun _ => true) true Try.f5.params.toList args.toList ds p := hA0
  rw [Try.params5] at hA hval
  obtain ⟨v0, vs0, d0, ds0, p0, q0, hargs, rfl, rfl, h0, r0⟩ := trodAll_cons hA
  obtain ⟨v1, vs1, d1, ds1, p1, q1, rfl, rfl, rfl, h1, r1⟩ := trodAll_cons r0
  obtain ⟨v2, vs2, d2, ds2, p2, q2, rfl, rfl, rfl, h2, r2⟩ := trodAll_cons r1
  obtain ⟨v3, vs3, d3, ds3, p3, q3, rfl, rfl, rfl, h3, r3⟩ := trodAll_cons r2
  obtain ⟨rfl, rfl, rfl⟩ := trodAll_nil r3
  obtain rfl : args = #[v0, v1, v2, v3] := by cases args; simp_all
  obtain ⟨rfl, rfl⟩ := trodVars_none hV
  obtain ⟨a0, rfl, rfl, rfl, w0⟩ := open_string Try.underlying9 (hval 0 9 v0 rfl rfl) h0
  obtain ⟨a1, rfl, rfl, rfl, w1⟩ := open_string Try.underlying9 (hval 1 9 v1 rfl rfl) h1
  obtain ⟨a2, rfl, rfl, rfl, w2⟩ := open_int Try.underlying3 (hval 2 3 v2 rfl rfl) h2
  obtain ⟨a3, rfl, rfl, rfl, w3⟩ := open_int Try.underlying3 (hval 3 3 v3 rfl rfl) h3
  clear hA0 hval0
  simp only [List.append_nil] at hW'
  refine (walk a0 a1 a2 a3 w0 w1 w2 w3 W).mono fun e W' ⟨he, hg⟩ => ?_
  subst he
  exact ⟨_, rfl, _, _, _, [], [], [], hW', trodAll_mk1 (shut_bool Try.underlying4 _), (trodAll_cons_mk (shut_string Try.underlying9 w0) (trodAll_cons_mk (shut_string Try.underlying9 w1) (trodAll_cons_mk (shut_int Try.underlying3 w2) (trodAll_cons_mk (shut_int Try.underlying3 w3) trodAll_mk0)))), rfl, hg.frame _, fun h => by cases h⟩

theorem over : Rows.fnNumberReadsBackWrittenDecimalRow.holds Try.pinned (OpenSpec.ofChange Rows.fnNumberReadsBackWrittenDecimalSpec) :=
  OpenClaim.holds_of_wide 5 Try.f5 rfl rfl rfl rfl rfl rfl rfl ⟨rfl, rfl, rfl, rfl, rfl⟩ rfl rfl rfl rfl rfl (by kernel_rfl) Try.func5 (by kernel_rfl)
    (of_decide_eq_true (by kernel_rfl)) (by unfold Func.isWrapper; first | (rw [if_pos (by decide +kernel)]; kernel_rfl) | (rw [if_neg (by decide +kernel)]; exact ⟨rfl, rfl⟩))
    (fun os started H enc _ => lifted os started H enc)

/-- ████ THE STATEMENT ████ -/
theorem proved : Rows.FnNumberReadsBackWrittenDecimalSaid :=
  over
end Go.Proofs.Qxb6602385a.fnNumberReadsBackWrittenDecimal
