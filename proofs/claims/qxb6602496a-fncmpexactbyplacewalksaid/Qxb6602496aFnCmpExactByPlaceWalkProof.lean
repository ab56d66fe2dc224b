/-
  'Rows.FnCmpExactByPlaceWalkSaid': the walk out of the contracts of Cmp, canonicalDecimal and modelCmp; the row's frame by the guide's shell, the world told by 'Below'.
-/
import Derived.Test.Qxb6602496aRows
import Derived.Test.Qxb6602496aModel
import Derived.Test.Qxb6602496aCmp
import Derived.WalkKit
import Derived.ProofKit
import Derived.OpenShut
import Derived.ShutString
namespace Go.Proofs.Qxb6602496a.fnCmpExactByPlaceWalk
open Go.ChangeShapes Go.WideShapes Go.ChangeAt Go.RowKit
open Go.ChangeMaps (open_string shut_string)
set_option linter.unusedVariables false      -- a walk need not use every 'w<i>' (that an integer argument fits its kind)

theorem own : ownKnob Try.prog.godebug = none := by kernel_rfl

/-! ### THE WALK -/
theorem out_of (a0 : Bool) (a1 : ByteArray) (a2 : Int) (a3 : Bool) (a4 : ByteArray) (a5 : Int) (w : World) (hp : a1.size + a4.size ≤ 1048576)
    (h : (524288 : Int) < a1.size ∨ (524288 : Int) < a4.size ∨ 2305843009213693952 < a2 ∨ a2 < -2305843009213693952 ∨ 2305843009213693952 < a5 ∨ a5 < -2305843009213693952) :
    Calls Try.prog 3 #[.bool a0, .string a1, .int .i64 a2, .bool a3, .string a4, .int .i64 a5] w fun e w' => e = .returned (.bool true) ∧ Below w.heap.size w w' := by
  have hg : decide (a1.size + a4.size ≤ 1048576) = true := by simp [hp]
  by_cases q1 : (524288 : Int) < a1.size
  · go_enter Try.func3, Try.ntmps3
    go_wp2_with fail
    refine (zzBytes6 _ a1 _ _ a4 _ _ (by unfold maxLen; omega) (by unfold maxLen; omega)).mono ?_
    rintro e w' ⟨rfl, hw⟩
    rw [hg, hw]
    clear hw w' hg
    go_wp2
    go_ret
    exact ⟨rfl, Below.refl _ _⟩
  by_cases q2 : (524288 : Int) < a4.size
  · go_enter Try.func3, Try.ntmps3
    go_wp2_with fail
    refine (zzBytes6 _ a1 _ _ a4 _ _ (by unfold maxLen; omega) (by unfold maxLen; omega)).mono ?_
    rintro e w' ⟨rfl, hw⟩
    rw [hg, hw]
    clear hw w' hg
    go_wp2
    go_ret
    exact ⟨rfl, Below.refl _ _⟩
  by_cases q3 : 2305843009213693952 < a2
  · go_enter Try.func3, Try.ntmps3
    go_wp2_with fail
    refine (zzBytes6 _ a1 _ _ a4 _ _ (by unfold maxLen; omega) (by unfold maxLen; omega)).mono ?_
    rintro e w' ⟨rfl, hw⟩
    rw [hg, hw]
    clear hw w' hg
    go_wp2
    go_ret
    exact ⟨rfl, Below.refl _ _⟩
  by_cases q4 : a2 < -2305843009213693952
  · go_enter Try.func3, Try.ntmps3
    go_wp2_with fail
    refine (zzBytes6 _ a1 _ _ a4 _ _ (by unfold maxLen; omega) (by unfold maxLen; omega)).mono ?_
    rintro e w' ⟨rfl, hw⟩
    rw [hg, hw]
    clear hw w' hg
    go_wp2
    go_ret
    exact ⟨rfl, Below.refl _ _⟩
  by_cases q5 : 2305843009213693952 < a5
  · go_enter Try.func3, Try.ntmps3
    go_wp2_with fail
    refine (zzBytes6 _ a1 _ _ a4 _ _ (by unfold maxLen; omega) (by unfold maxLen; omega)).mono ?_
    rintro e w' ⟨rfl, hw⟩
    rw [hg, hw]
    clear hw w' hg
    go_wp2
    go_ret
    exact ⟨rfl, Below.refl _ _⟩
  have q6 : a5 < -2305843009213693952 := by omega
  · go_enter Try.func3, Try.ntmps3
    go_wp2_with fail
    refine (zzBytes6 _ a1 _ _ a4 _ _ (by unfold maxLen; omega) (by unfold maxLen; omega)).mono ?_
    rintro e w' ⟨rfl, hw⟩
    rw [hg, hw]
    clear hw w' hg
    go_wp2
    go_ret
    exact ⟨rfl, Below.refl _ _⟩

set_option maxHeartbeats 1000000 in
theorem long (a0 : Bool) (a1 : ByteArray) (a2 : Int) (a3 : Bool) (a4 : ByteArray) (a5 : Int) (w : World) (hp : a1.size + a4.size ≤ 1048576)
    (q1 : ¬ (524288 : Int) < a1.size) (q2 : ¬ (524288 : Int) < a4.size) (q3 : ¬ 2305843009213693952 < a2) (q4 : ¬ a2 < -2305843009213693952) (q5 : ¬ 2305843009213693952 < a5) (q6 : ¬ a5 < -2305843009213693952) :
    Calls Try.prog 3 #[.bool a0, .string a1, .int .i64 a2, .bool a3, .string a4, .int .i64 a5] w fun e w' => e = .returned (.bool true) ∧ Below w.heap.size w w' := by
  have hg : decide (a1.size + a4.size ≤ 1048576) = true := by simp [hp]
  have hs1 : a1.size ≤ 1048576 := by omega
  have hs2 : a4.size ≤ 1048576 := by omega
  go_enter Try.func3, Try.ntmps3
  go_wp2_with fail
  refine (zzBytes6 _ a1 _ _ a4 _ _ (by unfold maxLen; omega) (by unfold maxLen; omega)).mono ?_
  rintro e w' ⟨rfl, hw⟩
  rw [hg, hw]
  clear hw w' hg
  go_wp2_with fail
  refine (canon_any a0 a1 a2 _ hs1).mono ?_
  rintro e w' ⟨b1, rfl, hc1, hw⟩
  rw [hw]
  clear hw w'
  cases b1
  · clear hc1
    go_wp2_with fail
    go_ret
    exact ⟨rfl, Below.refl _ _⟩
  have C1 : Hid (Canon a0 a1 a2) := hc1 rfl
  clear hc1
  go_wp2_with fail
  refine (canon_any a3 a4 a5 _ hs2).mono ?_
  rintro e w' ⟨b2, rfl, hc2, hw⟩
  rw [hw]
  clear hw w'
  cases b2
  · clear hc2
    go_wp2_with fail
    go_ret
    exact ⟨rfl, Below.refl _ _⟩
  have C2 : Hid (Canon a3 a4 a5) := hc2 rfl
  clear hc2
  go_wp2_with fail
  refine (make_any a0 a1 a2 _).mono ?_
  rintro e w' ⟨rfl, hw⟩
  rw [hw]
  clear hw w'
  go_wp2_with fail
  refine (make_any a3 a4 a5 _).mono ?_
  rintro e w' ⟨rfl, hw⟩
  rw [hw]
  clear hw w'
  go_wp2_with fail
  refine (cmp_any a0 a1 a2 a3 a4 a5 _).mono ?_
  rintro e wa ⟨rfl, hba⟩
  have hbw : Below w.heap.size w wa := (((Below.refl _ _).alloc (Nat.le_refl _) _).alloc (by simp) _).trans (hba.mono (by simp; omega))
  clear hba
  go_wp2_with fail
  refine (model_any C1.out C2.out _ hs1 hs2 (by omega) (by omega) (by omega) (by omega)).mono ?_
  rintro e w' ⟨rfl, hw⟩
  rw [hw]
  clear hw w'
  generalize Ord.cmpD a0 a1 a2 a3 a4 a5 = x
  go_wp2
  go_ret
  exact ⟨by simp, hbw⟩

theorem walk (a0 : Bool) (a1 : ByteArray) (a2 : Int) (a3 : Bool) (a4 : ByteArray) (a5 : Int) (w1 : a1.size ≤ maxLen) (w2 : (Lit.int .i64 a2).wf = true) (w4 : a4.size ≤ maxLen) (w5 : (Lit.int .i64 a5).wf = true) (w : World) :
    Calls Try.prog 3 #[.bool a0, .string a1, .int .i64 a2, .bool a3, .string a4, .int .i64 a5] w fun e w' => e = .returned (.bool true) ∧ Below w.heap.size w w' := by
  by_cases hp : a1.size + a4.size ≤ 1048576
  · by_cases h : (524288 : Int) < a1.size ∨ (524288 : Int) < a4.size ∨ 2305843009213693952 < a2 ∨ a2 < -2305843009213693952 ∨ 2305843009213693952 < a5 ∨ a5 < -2305843009213693952
    · exact out_of a0 a1 a2 a3 a4 a5 w hp h
    · exact long a0 a1 a2 a3 a4 a5 w hp (by omega) (by omega) (by omega) (by omega) (by omega) (by omega)
  · have hg : decide (a1.size + a4.size ≤ 1048576) = false := by simp; omega
    go_enter Try.func3, Try.ntmps3
    go_wp2_with fail
    refine (zzBytes6 _ a1 _ _ a4 _ _ w1 w4).mono ?_
    rintro e w' ⟨rfl, hw⟩
    rw [hg, hw]
    clear hw w' hg
    go_wp2
    go_ret
    exact ⟨rfl, Below.refl _ _⟩

/-! ### THE ROW's STEP: WRITTEN OUT: LEAVE IT -/
set_option maxRecDepth 100000 in
theorem lifted (os : Os) (started : os.Started) (H : Type) (enc : TypeId × Value → H) :
    ReturnsInHanded {} Try.checked os 3 .any (Rows.fnCmpExactByPlaceWalkSpec.pre6 enc Try.prog Try.f3 Rows.fnCmpExactByPlaceWalkRow.domain false) (Rows.fnCmpExactByPlaceWalkSpec.post enc Try.prog Try.f3 false true false false) := by
  refine returnsInHanded_of_change (C := Try.checked) own started (by kernel_rfl) Try.func3
    (ChangeSpec.witness6 (enc := enc) (C := Try.checked) false ⟨#[], #[.bool false, .string ByteArray.empty, .int .i64 0, .bool false, .string ByteArray.empty, .int .i64 0], []⟩ 8 (by kernel_rfl) (by kernel_rfl) (by kernel_rfl) (by kernel_rfl)) ?_
  intro W base args ds gs before hval0 hW hcnd _
  have hval : ∀ (j : Nat) t v, Try.f3.params[j]? = some t → args[j]? = some v → Value.okWide Try.prog W .any base t v := hval0
  have hW' := hW
  obtain ⟨p, q, hA0, hV, rfl, hfz, hnd⟩ := hW
  have hA : DataW.TrodAll enc Try.prog W 0 (fun _ => true) true Try.f3.params.toList args.toList ds p := hA0
  rw [Try.params3] at hA hval
  obtain ⟨v0, vs0, d0, ds0, p0, q0, hargs, rfl, rfl, h0, r0⟩ := trodAll_cons hA
  obtain ⟨v1, vs1, d1, ds1, p1, q1, rfl, rfl, rfl, h1, r1⟩ := trodAll_cons r0
  obtain ⟨v2, vs2, d2, ds2, p2, q2, rfl, rfl, rfl, h2, r2⟩ := trodAll_cons r1
  obtain ⟨v3, vs3, d3, ds3, p3, q3, rfl, rfl, rfl, h3, r3⟩ := trodAll_cons r2
  obtain ⟨v4, vs4, d4, ds4, p4, q4, rfl, rfl, rfl, h4, r4⟩ := trodAll_cons r3
  obtain ⟨v5, vs5, d5, ds5, p5, q5, rfl, rfl, rfl, h5, r5⟩ := trodAll_cons r4
  obtain ⟨rfl, rfl, rfl⟩ := trodAll_nil r5
  obtain rfl : args = #[v0, v1, v2, v3, v4, v5] := by cases args; simp_all
  obtain ⟨rfl, rfl⟩ := trodVars_none hV
  obtain ⟨a0, rfl, rfl, rfl⟩ := open_bool Try.underlying4 (hval 0 4 v0 rfl rfl) h0
  obtain ⟨a1, rfl, rfl, rfl, w1⟩ := open_string Try.underlying9 (hval 1 9 v1 rfl rfl) h1
  obtain ⟨a2, rfl, rfl, rfl, w2⟩ := open_int Try.underlying2 (hval 2 2 v2 rfl rfl) h2
  obtain ⟨a3, rfl, rfl, rfl⟩ := open_bool Try.underlying4 (hval 3 4 v3 rfl rfl) h3
  obtain ⟨a4, rfl, rfl, rfl, w4⟩ := open_string Try.underlying9 (hval 4 9 v4 rfl rfl) h4
  obtain ⟨a5, rfl, rfl, rfl, w5⟩ := open_int Try.underlying2 (hval 5 2 v5 rfl rfl) h5
  clear hA0 hval0
  simp only [List.append_nil] at hW'
  refine (walk a0 a1 a2 a3 a4 a5 w1 w2 w4 w5 W).mono fun e W' ⟨he, hg⟩ => ?_
  subst he
  exact ⟨_, rfl, _, _, _, [], [], [], hW', trodAll_mk1 (shut_bool Try.underlying4 _), (trodAll_cons_mk (shut_bool Try.underlying4 _) (trodAll_cons_mk (shut_string Try.underlying9 w1) (trodAll_cons_mk (shut_int Try.underlying2 w2) (trodAll_cons_mk (shut_bool Try.underlying4 _) (trodAll_cons_mk (shut_string Try.underlying9 w4) (trodAll_cons_mk (shut_int Try.underlying2 w5) trodAll_mk0)))))), rfl, hg.frame _, fun h => by cases h⟩

theorem over : Rows.fnCmpExactByPlaceWalkRow.holds Try.pinned (OpenSpec.ofChange Rows.fnCmpExactByPlaceWalkSpec) :=
  OpenClaim.holds_of_wide 3 Try.f3 rfl rfl rfl rfl rfl rfl rfl ⟨rfl, rfl, rfl, rfl, rfl⟩ rfl rfl rfl rfl rfl (by kernel_rfl) Try.func3 (by kernel_rfl)
    (of_decide_eq_true (by kernel_rfl)) (by unfold Func.isWrapper; first | (rw [if_pos (by decide +kernel)]; kernel_rfl) | (rw [if_neg (by decide +kernel)]; exact ⟨rfl, rfl⟩))
    (fun os started H enc _ => lifted os started H enc)

/-- ████ THE STATEMENT ████ -/
theorem proved : Rows.FnCmpExactByPlaceWalkSaid :=
  over
end Go.Proofs.Qxb6602496a.fnCmpExactByPlaceWalk
