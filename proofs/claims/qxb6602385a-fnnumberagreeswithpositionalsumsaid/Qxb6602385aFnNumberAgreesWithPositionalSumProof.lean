/-
  'Rows.FnNumberAgreesWithPositionalSumSaid': the walk out of the contracts of date.number and of the model; the row's frame by the guide's shell, the world told by 'Below'.
-/
import Derived.Test.Qxb6602385aRows
import Derived.Test.Qxb6602385aModel
import Derived.WalkKit
import Derived.ProofKit
import Derived.OpenShut
import Derived.ShutString
namespace Go.Proofs.Qxb6602385a.fnNumberAgreesWithPositionalSum
open Go.ChangeShapes Go.WideShapes Go.ChangeAt Go.RowKit
open Go.ChangeMaps (open_string shut_string)
set_option linter.unusedVariables false      -- a walk need not use every 'w<i>' (that an integer argument fits its kind)

theorem own : ownKnob Try.prog.godebug = none := by kernel_rfl

/-! ### THE WALK -/
theorem guarded (a0 : ByteArray) (a1 : Int) (a2 : Int) (w : World) (hs : a0.size ≤ 1048576) (_b1 : a1 ≤ 9223372036854775807) (_b2 : a2 ≤ 9223372036854775807) (h : a1 < 0 ∨ a2 < 0 ∨ (0 ≤ a2 ∧ 9223372036854775807 - a2 < a1)) :
    Calls Try.prog 3 #[.string a0, .int .i64 a1, .int .i64 a2] w fun e w' => e = .returned (.bool true) ∧ Below w.heap.size w w' := by
  have hg : decide (a0.size ≤ 1048576) = true := by simp [hs]
  by_cases h1 : a1 < 0
  · go_enter Try.func3, Try.ntmps3
    go_wp2_with fail
    refine (zzBytes9 a0 _ _ _ (by unfold maxLen; omega)).mono ?_
    rintro e w' ⟨rfl, hw⟩
    rw [hg, hw]
    clear hw w' hg
    go_wp2
    go_ret
    exact ⟨rfl, Below.refl _ _⟩
  · by_cases h2 : a2 < 0
    · go_enter Try.func3, Try.ntmps3
      go_wp2_with fail
      refine (zzBytes9 a0 _ _ _ (by unfold maxLen; omega)).mono ?_
      rintro e w' ⟨rfl, hw⟩
      rw [hg, hw]
      clear hw w' hg
      go_wp2
      go_ret
      exact ⟨rfl, Below.refl _ _⟩
    · have h3 : 9223372036854775807 - a2 < a1 := by omega
      go_enter Try.func3, Try.ntmps3
      go_wp2_with fail
      refine (zzBytes9 a0 _ _ _ (by unfold maxLen; omega)).mono ?_
      rintro e w' ⟨rfl, hw⟩
      rw [hg, hw]
      clear hw w' hg
      go_wp2
      go_ret
      exact ⟨rfl, Below.refl _ _⟩

theorem walk (a0 : ByteArray) (a1 : Int) (a2 : Int) (w0 : a0.size ≤ maxLen) (w1 : (Lit.int .i64 a1).wf = true) (w2 : (Lit.int .i64 a2).wf = true) (w : World) :
    Calls Try.prog 3 #[.string a0, .int .i64 a1, .int .i64 a2] w fun e w' => e = .returned (.bool true) ∧ Below w.heap.size w w' := by
  by_cases hs : a0.size ≤ 1048576
  · by_cases hq : a1 < 0 ∨ a2 < 0 ∨ (0 ≤ a2 ∧ 9223372036854775807 - a2 < a1)
    · exact guarded a0 a1 a2 w hs (bounds_i64 w1).2 (bounds_i64 w2).2 hq
    · have hg : decide (a0.size ≤ 1048576) = true := by simp [hs]
      have h1 : ¬ a1 < 0 := by omega
      have h2 : ¬ a2 < 0 := by omega
      have h3 : ¬ 9223372036854775807 - a2 < a1 := by omega
      obtain ⟨_, b1⟩ := bounds_i64 w1
      obtain ⟨_, b2⟩ := bounds_i64 w2
      clear hq
      go_enter Try.func3, Try.ntmps3
      go_wp2_with fail
      refine (zzBytes9 a0 _ _ _ (by unfold maxLen; omega)).mono ?_
      rintro e w' ⟨rfl, hw⟩
      rw [hg, hw]
      clear hw w' hg
      go_wp2_with fail
      refine (zznumber_any a0 a1 a2 _ (by omega) (by omega) (by omega) (by omega)).mono ?_
      rintro e w1 ⟨rfl, hb⟩
      go_wp2_with fail
      refine (model_any a0 a1 a2 _ (by omega) (by omega) hs (by omega)).mono ?_
      rintro e w2 ⟨rfl, hw2⟩
      rw [hw2]
      clear hw2 w2
      generalize Num.res a0 a1.toNat a2.toNat = r
      generalize Num.ok a0 a1.toNat a2.toNat = o
      go_wp2
      go_ret
      exact ⟨by simp, hb⟩
  · have hg : decide (a0.size ≤ 1048576) = false := by simp; omega
    go_enter Try.func3, Try.ntmps3
    go_wp2_with fail
    refine (zzBytes9 a0 _ _ _ w0).mono ?_
    rintro e w' ⟨rfl, hw⟩
    rw [hg, hw]
    clear hw w' hg
    go_wp2
    go_ret
    exact ⟨rfl, Below.refl _ _⟩

/-! ### THE ROW's STEP: WRITTEN OUT: LEAVE IT -/
set_option maxRecDepth 100000 in
theorem lifted (os : Os) (started : os.Started) (H : Type) (enc : TypeId × Value → H) :
    ReturnsInHanded {} Try.checked os 3 .any (Rows.fnNumberAgreesWithPositionalSumSpec.pre6 enc Try.prog Try.f3 Rows.fnNumberAgreesWithPositionalSumRow.domain false) (Rows.fnNumberAgreesWithPositionalSumSpec.post enc Try.prog Try.f3 false true false false) := by
  refine returnsInHanded_of_change (C := Try.checked) own started (by kernel_rfl) Try.func3
    (ChangeSpec.witness6 (enc := enc) (C := Try.checked) false ⟨#[], #[.string ByteArray.empty, .int .i64 0, .int .i64 0], []⟩ 8 (by kernel_rfl) (by kernel_rfl) (by kernel_rfl) (by kernel_rfl)) ?_
  intro W base args ds gs before hval0 hW hcnd _
  have hval : ∀ (j : Nat) t v, Try.f3.params[j]? = some t → args[j]? = some v → Value.okWide Try.prog W .any base t v := hval0
  have hW' := hW
  obtain ⟨p, q, hA0, hV, rfl, hfz, hnd⟩ := hW
  have hA : DataW.TrodAll enc Try.prog W 0 (fun _ => true) true Try.f3.params.toList args.toList ds p := hA0
  rw [Try.params3] at hA hval
  obtain ⟨v0, vs0, d0, ds0, p0, q0, hargs, rfl, rfl, h0, r0⟩ := trodAll_cons hA
  obtain ⟨v1, vs1, d1, ds1, p1, q1, rfl, rfl, rfl, h1, r1⟩ := trodAll_cons r0
  obtain ⟨v2, vs2, d2, ds2, p2, q2, rfl, rfl, rfl, h2, r2⟩ := trodAll_cons r1
  obtain ⟨rfl, rfl, rfl⟩ := trodAll_nil r2
  obtain rfl : args = #[v0, v1, v2] := by cases args; simp_all
  obtain ⟨rfl, rfl⟩ := trodVars_none hV
  obtain ⟨a0, rfl, rfl, rfl, w0⟩ := open_string Try.underlying9 (hval 0 9 v0 rfl rfl) h0
  obtain ⟨a1, rfl, rfl, rfl, w1⟩ := open_int Try.underlying3 (hval 1 3 v1 rfl rfl) h1
  obtain ⟨a2, rfl, rfl, rfl, w2⟩ := open_int Try.underlying3 (hval 2 3 v2 rfl rfl) h2
  clear hA0 hval0
  simp only [List.append_nil] at hW'
  refine (walk a0 a1 a2 w0 w1 w2 W).mono fun e W' ⟨he, hg⟩ => ?_
  subst he
  exact ⟨_, rfl, _, _, _, [], [], [], hW', trodAll_mk1 (shut_bool Try.underlying4 _), (trodAll_cons_mk (shut_string Try.underlying9 w0) (trodAll_cons_mk (shut_int Try.underlying3 w1) (trodAll_cons_mk (shut_int Try.underlying3 w2) trodAll_mk0))), rfl, hg.frame _, fun h => by cases h⟩

theorem over : Rows.fnNumberAgreesWithPositionalSumRow.holds Try.pinned (OpenSpec.ofChange Rows.fnNumberAgreesWithPositionalSumSpec) :=
  OpenClaim.holds_of_wide 3 Try.f3 rfl rfl rfl rfl rfl rfl rfl ⟨rfl, rfl, rfl, rfl, rfl⟩ rfl rfl rfl rfl rfl (by kernel_rfl) Try.func3 (by kernel_rfl)
    (of_decide_eq_true (by kernel_rfl)) (by unfold Func.isWrapper; first | (rw [if_pos (by decide +kernel)]; kernel_rfl) | (rw [if_neg (by decide +kernel)]; exact ⟨rfl, rfl⟩))
    (fun os started H enc _ => lifted os started H enc)

/-- ████ THE STATEMENT ████ -/
theorem proved : Rows.FnNumberAgreesWithPositionalSumSaid :=
  over
end Go.Proofs.Qxb6602385a.fnNumberAgreesWithPositionalSum
