/-
  'Rows.FnCmpAntisymmetricEqualIffSameSaid': the walk out of the contracts of Cmp and canonicalDecimal; the row's frame by the guide's shell, the world told by 'Below'.
-/
import Derived.Test.Qxb6602496aRows
import Derived.Test.Qxb6602496aAnti
import Derived.Test.Qxb6602496aCmp
import Derived.WalkKit
import Derived.ProofKit
import Derived.OpenShut
import Derived.ShutString
namespace Go.Proofs.Qxb6602496a.fnCmpAntisymmetricEqualIffSame
open Go.ChangeShapes Go.WideShapes Go.ChangeAt Go.RowKit
open Go.ChangeMaps (open_string shut_string)
set_option linter.unusedVariables false      -- a walk need not use every 'w<i>' (that an integer argument fits its kind)

theorem own : ownKnob Try.prog.godebug = none := by kernel_rfl

/-! ### THE WALK -/
theorem bcell {W w1 : World} (hb : Below W.heap.size W w1) : (∀ b o, b < W.heap.size → w1.cell? ⟨b, o, none⟩ = W.cell? ⟨b, o, none⟩) ∧ (∀ b o, b < W.heap.size → w1.frozen? ⟨b, o, none⟩ = W.frozen? ⟨b, o, none⟩) :=
  ⟨fun b o h => hb.cell (p := ⟨b, o, none⟩) h, fun b o h => hb.frozen (p := ⟨b, o, none⟩) h⟩

theorem boxed (w : World) (n1 : Bool) (s1 : ByteArray) (p1 : Int) (n2 : Bool) (s2 : ByteArray) (p2 : Int) (wa : World)
    (hb : Below ((((w.alloc (.cells #[.bool n1, .string s1, .int .i64 p1] 25)).alloc (.cells #[.bool n1, .string s1, .int .i64 p1] 25)).alloc (.cells #[.bool n2, .string s2, .int .i64 p2] 25)).alloc (.cells #[.bool n2, .string s2, .int .i64 p2] 25)).heap.size ((((w.alloc (.cells #[.bool n1, .string s1, .int .i64 p1] 25)).alloc (.cells #[.bool n1, .string s1, .int .i64 p1] 25)).alloc (.cells #[.bool n2, .string s2, .int .i64 p2] 25)).alloc (.cells #[.bool n2, .string s2, .int .i64 p2] 25)) wa) :
    wa.cell? ⟨w.heap.size + 1, 0, none⟩ = some (.bool n1) ∧ wa.cell? ⟨w.heap.size + 1, 1, none⟩ = some (.string s1) ∧ wa.cell? ⟨w.heap.size + 1, 2, none⟩ = some (.int .i64 p1) ∧
    wa.cell? ⟨w.heap.size + 1 + 1 + 1, 0, none⟩ = some (.bool n2) ∧ wa.cell? ⟨w.heap.size + 1 + 1 + 1, 1, none⟩ = some (.string s2) ∧ wa.cell? ⟨w.heap.size + 1 + 1 + 1, 2, none⟩ = some (.int .i64 p2) ∧ Below w.heap.size w wa := by
  obtain ⟨hc, _⟩ := bcell hb
  refine ⟨?_, ?_, ?_, ?_, ?_, ?_, ?_⟩
  · rw [hc _ _ (by simp)]; simp [go_sem]
  · rw [hc _ _ (by simp)]; simp [go_sem]
  · rw [hc _ _ (by simp)]; simp [go_sem]
  · rw [hc _ _ (by simp)]; simp [go_sem]
  · rw [hc _ _ (by simp)]; simp [go_sem]
  · rw [hc _ _ (by simp)]; simp [go_sem]
  · exact (((((Below.refl _ _).alloc (Nat.le_refl _) _).alloc (by simp) _).alloc (by simp; omega) _).alloc (by simp; omega) _).trans (hb.mono (by simp; omega))

theorem way1 {x : Int} {n1 n2 : Bool} {s1 s2 : ByteArray} {p1 p2 : Int} (h : x = 0 ↔ (n1 = n2 ∧ s1 = s2 ∧ p1 = p2)) (hn : n1 = n2) (hs : s1.toList = s2.toList) : ((x == 0) == (p1 == p2)) = true := by
  have hs' : s1 = s2 := Ord.bytes_ext (by rw [← Lib.toList_data, ← Lib.toList_data]; exact hs)
  by_cases hp : p1 = p2
  · have : x = 0 := h.2 ⟨hn, hs', hp⟩
    simp [this, hp]
  · have : ¬ x = 0 := fun e => hp (h.1 e).2.2
    rw [beq_eq_false_iff_ne.2 this, beq_eq_false_iff_ne.2 hp]; rfl
theorem way2 {x : Int} {n1 n2 : Bool} {s1 s2 : ByteArray} {p1 p2 : Int} (h : x = 0 ↔ (n1 = n2 ∧ s1 = s2 ∧ p1 = p2)) (hs : ¬ s1.toList = s2.toList) : (!(x == 0)) = true := by
  have : ¬ x = 0 := fun e => hs (by rw [(h.1 e).2.1])
  simp [this]
theorem way3 {x : Int} {n1 n2 : Bool} {s1 s2 : ByteArray} {p1 p2 : Int} (h : x = 0 ↔ (n1 = n2 ∧ s1 = s2 ∧ p1 = p2)) (hn : ¬ n1 = n2) : (!(x == 0)) = true := by
  have : ¬ x = 0 := fun e => hn (h.1 e).1
  simp [this]

set_option maxHeartbeats 1000000 in
theorem long (n1 : Bool) (s1 : ByteArray) (p1 : Int) (n2 : Bool) (s2 : ByteArray) (p2 : Int) (w : World) (hp : s1.size + s2.size ≤ 1048576) :
    Calls Try.prog 4 #[.bool n1, .string s1, .int .i64 p1, .bool n2, .string s2, .int .i64 p2] w fun e w' => e = .returned (.bool true) ∧ Below w.heap.size w w' := by
  by_cases hl1 : (524288 : Int) < s1.size
  · have hg : decide (s1.size + s2.size ≤ 1048576) = true := by simp [hp]
    go_enter Try.func4, Try.ntmps4
    go_wp2_with fail
    refine (zzBytes11 _ s1 _ _ s2 _ _ (by unfold maxLen; omega) (by unfold maxLen; omega)).mono ?_
    rintro e w' ⟨rfl, hw⟩
    rw [hg, hw]
    clear hw w' hg
    go_wp2
    go_ret
    exact ⟨rfl, Below.refl _ _⟩
  · by_cases hl2 : (524288 : Int) < s2.size
    · have hg : decide (s1.size + s2.size ≤ 1048576) = true := by simp [hp]
      go_enter Try.func4, Try.ntmps4
      go_wp2_with fail
      refine (zzBytes11 _ s1 _ _ s2 _ _ (by unfold maxLen; omega) (by unfold maxLen; omega)).mono ?_
      rintro e w' ⟨rfl, hw⟩
      rw [hg, hw]
      clear hw w' hg
      go_wp2
      go_ret
      exact ⟨rfl, Below.refl _ _⟩
    · have hg : decide (s1.size + s2.size ≤ 1048576) = true := by simp [hp]
      have hs1 : s1.size ≤ 1048576 := by omega
      have hs2 : s2.size ≤ 1048576 := by omega
      go_enter Try.func4, Try.ntmps4
      go_wp2_with fail
      refine (zzBytes11 _ s1 _ _ s2 _ _ (by unfold maxLen; omega) (by unfold maxLen; omega)).mono ?_
      rintro e w' ⟨rfl, hw⟩
      rw [hg, hw]
      clear hw w' hg
      go_wp2_with fail
      refine (canon_any n1 s1 p1 _ hs1).mono ?_
      rintro e w' ⟨b1, rfl, hc1, hw⟩
      rw [hw]
      clear hw w'
      cases b1
      · clear hc1
        go_wp2_with fail
        go_ret
        exact ⟨rfl, Below.refl _ _⟩
      have C1 : Hid (Canon n1 s1 p1) := hc1 rfl
      clear hc1
      go_wp2_with fail
      refine (canon_any n2 s2 p2 _ hs2).mono ?_
      rintro e w' ⟨b2, rfl, hc2, hw⟩
      rw [hw]
      clear hw w'
      cases b2
      · clear hc2
        go_wp2_with fail
        go_ret
        exact ⟨rfl, Below.refl _ _⟩
      have C2 : Hid (Canon n2 s2 p2) := hc2 rfl
      clear hc2
      have HB := (show Hid _ from Ord.cmpD_bd n1 s1 p1 n2 s2 p2)
      have HA := (show Hid _ from Ord.cmpD_anti C1.out C2.out)
      have HZ := (show Hid _ from Ord.cmpD_zero C1.out C2.out)
      go_wp2_with fail
      refine (make_any n1 s1 p1 _).mono ?_
      rintro e w' ⟨rfl, hw⟩
      rw [hw]
      clear hw w'
      go_wp2_with fail
      refine (make_any n2 s2 p2 _).mono ?_
      rintro e w' ⟨rfl, hw⟩
      rw [hw]
      clear hw w'
      go_wp2_with fail
      refine (cmp_any n1 s1 p1 n2 s2 p2 _).mono ?_
      rintro e wa ⟨rfl, hba⟩
      obtain ⟨a0, a1, a2, c0, c1, c2, hbw⟩ := boxed w n1 s1 p1 n2 s2 p2 wa hba
      clear hba
      go_wp2_with fail
      refine (cmp_any n2 s2 p2 n1 s1 p1 _).mono ?_
      rintro e wb ⟨rfl, hbb⟩
      rw [HA.out]
      have hbb' : Below w.heap.size w wb := hbw.trans (hbb.mono hbw.size)
      obtain ⟨x, hx⟩ : ∃ x, Ord.cmpD n1 s1 p1 n2 s2 p2 = x := ⟨_, rfl⟩
      have hB := HB.out
      rw [hx] at hB ⊢
      have HZ' : Hid (x = 0 ↔ (n1 = n2 ∧ s1 = s2 ∧ p1 = p2)) := by rw [← hx]; exact HZ.out
      clear hx HZ HA HB a0 a1 a2 c0 c1 c2 hbb hbw C1 C2
      go_wp2
      · go_ret
        exact ⟨ret_boolC (way1 HZ'.out ‹_› ‹_›), hbb'⟩
      · go_ret
        exact ⟨ret_boolC (way2 HZ'.out ‹_›), hbb'⟩
      · go_ret
        exact ⟨ret_boolC (way3 HZ'.out ‹_›), hbb'⟩
theorem walk (a0 : Bool) (a1 : ByteArray) (a2 : Int) (a3 : Bool) (a4 : ByteArray) (a5 : Int) (w1 : a1.size ≤ maxLen) (w2 : (Lit.int .i64 a2).wf = true) (w4 : a4.size ≤ maxLen) (w5 : (Lit.int .i64 a5).wf = true) (w : World) :
    Calls Try.prog 4 #[.bool a0, .string a1, .int .i64 a2, .bool a3, .string a4, .int .i64 a5] w fun e w' => e = .returned (.bool true) ∧ Below w.heap.size w w' := by
  by_cases hp : a1.size + a4.size ≤ 1048576
  · exact long a0 a1 a2 a3 a4 a5 w hp
  · have hg : decide (a1.size + a4.size ≤ 1048576) = false := by simp; omega
    go_enter Try.func4, Try.ntmps4
    go_wp2_with fail
    refine (zzBytes11 _ a1 _ _ a4 _ _ w1 w4).mono ?_
    rintro e w' ⟨rfl, hw⟩
    rw [hg, hw]
    clear hw w' hg
    go_wp2
    go_ret
    exact ⟨rfl, Below.refl _ _⟩

/-! ### THE ROW's STEP: WRITTEN OUT: LEAVE IT -/
set_option maxRecDepth 100000 in
theorem lifted (os : Os) (started : os.Started) (H : Type) (enc : TypeId × Value → H) :
    ReturnsInHanded {} Try.checked os 4 .any (Rows.fnCmpAntisymmetricEqualIffSameSpec.pre6 enc Try.prog Try.f4 Rows.fnCmpAntisymmetricEqualIffSameRow.domain false) (Rows.fnCmpAntisymmetricEqualIffSameSpec.post enc Try.prog Try.f4 false true false false) := by
  refine returnsInHanded_of_change (C := Try.checked) own started (by kernel_rfl) Try.func4
    (ChangeSpec.witness6 (enc := enc) (C := Try.checked) false ⟨#[], #[.bool false, .string ByteArray.empty, .int .i64 0, .bool false, .string ByteArray.empty, .int .i64 0], []⟩ 8 (by kernel_rfl) (by kernel_rfl) (by kernel_rfl) (by kernel_rfl)) ?_
  intro W base args ds gs before hval0 hW hcnd _
  have hval : ∀ (j : Nat) t v, Try.f4.params[j]? = some t → args[j]? = some v → Value.okWide Try.prog W .any base t v := hval0
  have hW' := hW
  obtain ⟨p, q, hA0, hV, rfl, hfz, hnd⟩ := hW
  have hA : DataW.TrodAll enc Try.prog W 0 (fun _ => true) true Try.f4.params.toList args.toList ds p := hA0
  rw [Try.params4] at hA hval
  obtain ⟨v0, vs0, d0, ds0, p0, q0, hargs, rfl, rfl, h0, r0⟩ := trodAll_cons hA
  obtain ⟨v1, vs1, d1, ds1, p1, q1, rfl, rfl, rfl, h1, r1⟩ := trodAll_cons r0
  obtain ⟨v2, vs2, d2, ds2, p2, q2, rfl, rfl, rfl, h2, r2⟩ := trodAll_cons r1
  obtain ⟨v3, vs3, d3, ds3, p3, q3, rfl, rfl, rfl, h3, r3⟩ := trodAll_cons r2
  obtain ⟨v4, vs4, d4, ds4, p4, q4, rfl, rfl, rfl, h4, r4⟩ := trodAll_cons r3
  obtain ⟨v5, vs5, d5, ds5, p5, q5, rfl, rfl, rfl, h5, r5⟩ := trodAll_cons r4
  obtain ⟨rfl, rfl, rfl⟩ := trodAll_nil r5
  obtain rfl : args = #[v0, v1, v2, v3, v4, v5] := by cases args; simp_all
  obtain ⟨rfl, rfl⟩ := trodVars_none hV
  obtain ⟨a0, rfl, rfl, rfl⟩ := open_bool Try.underlying4 (hval 0 4 v0 rfl rfl) h0
  obtain ⟨a1, rfl, rfl, rfl, w1⟩ := open_string Try.underlying9 (hval 1 9 v1 rfl rfl) h1
  obtain ⟨a2, rfl, rfl, rfl, w2⟩ := open_int Try.underlying2 (hval 2 2 v2 rfl rfl) h2
  obtain ⟨a3, rfl, rfl, rfl⟩ := open_bool Try.underlying4 (hval 3 4 v3 rfl rfl) h3
  obtain ⟨a4, rfl, rfl, rfl, w4⟩ := open_string Try.underlying9 (hval 4 9 v4 rfl rfl) h4
  obtain ⟨a5, rfl, rfl, rfl, w5⟩ := open_int Try.underlying2 (hval 5 2 v5 rfl rfl) h5
  clear hA0 hval0
  simp only [List.append_nil] at hW'
  refine (walk a0 a1 a2 a3 a4 a5 w1 w2 w4 w5 W).mono fun e W' ⟨he, hg⟩ => ?_
  subst he
  exact ⟨_, rfl, _, _, _, [], [], [], hW', trodAll_mk1 (shut_bool Try.underlying4 _), (trodAll_cons_mk (shut_bool Try.underlying4 _) (trodAll_cons_mk (shut_string Try.underlying9 w1) (trodAll_cons_mk (shut_int Try.underlying2 w2) (trodAll_cons_mk (shut_bool Try.underlying4 _) (trodAll_cons_mk (shut_string Try.underlying9 w4) (trodAll_cons_mk (shut_int Try.underlying2 w5) trodAll_mk0)))))), rfl, hg.frame _, fun h => by cases h⟩

theorem over : Rows.fnCmpAntisymmetricEqualIffSameRow.holds Try.pinned (OpenSpec.ofChange Rows.fnCmpAntisymmetricEqualIffSameSpec) :=
  OpenClaim.holds_of_wide 4 Try.f4 rfl rfl rfl rfl rfl rfl rfl ⟨rfl, rfl, rfl, rfl, rfl⟩ rfl rfl rfl rfl rfl (by kernel_rfl) Try.func4 (by kernel_rfl)
    (of_decide_eq_true (by kernel_rfl)) (by unfold Func.isWrapper; first | (rw [if_pos (by decide +kernel)]; kernel_rfl) | (rw [if_neg (by decide +kernel)]; exact ⟨rfl, rfl⟩))
    (fun os started H enc _ => lifted os started H enc)

/-- ████ THE STATEMENT ████ -/
theorem proved : Rows.FnCmpAntisymmetricEqualIffSameSaid :=
  over
end Go.Proofs.Qxb6602496a.fnCmpAntisymmetricEqualIffSame
