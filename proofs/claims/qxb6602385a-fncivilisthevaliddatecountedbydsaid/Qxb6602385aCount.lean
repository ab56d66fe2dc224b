/-
  Plain: the day after; the days counted from 1970-01-01. No Go in sight.
-/
import Derived.Test.Qxb6602385aCal
namespace Go.Proofs.Qxb6602385a.Cal

/-- the next day of the month, else the 1st of the next month, else 1 January -/
theorem next_in (d : Int) (h : D d < dim (Y d) (M d)) : Y (d + 1) = Y d ∧ M (d + 1) = M d ∧ D (d + 1) = D d + 1 := by
  obtain ⟨cy, c, k, j, t, hp⟩ := pos_ex d
  obtain ⟨hY, hM, hD⟩ := hp.civil
  have hl := hp.leap
  have t0 := hp.t0; have t1 := hp.t1
  by_cases ht : t + 1 ≤ 364 ∨ (t + 1 = 365 ∧ j = 3 ∧ (k ≤ 23 ∨ c = 3))
  · obtain ⟨hY2, hM2, hD2⟩ := (hp.next ht).civil
    rw [hY, hM, hD] at h
    rw [hY2, hM2, hD2, hY, hM, hD]
    clear hY hM hD hY2 hM2 hD2 hp
    have hf := fm_cases t0 (by omega : t ≤ 365)
    have hu : fm t = (5 * t + 2) / 153 := rfl
    have hv : fm (t + 1) = (5 * (t + 1) + 2) / 153 := rfl
    unfold dayOf dim at *
    have hs : fm (t + 1) = fm t := by
      rcases hf with e | e | e | e | e | e | e | e | e | e | e | e <;> rw [e] at hu h ⊢ <;> simp at h <;> omega
    rw [hs]
    refine ⟨rfl, rfl, ?_⟩
    omega
  · exfalso
    rw [hY, hM, hD] at h
    have hf : fm t = 11 := by unfold fm; omega
    unfold dayOf dim at h
    rw [hf] at h
    simp at h
    rw [hl] at h
    split at h <;> rename_i hh <;> simp at hh <;> omega

theorem next_out (d : Int) (h : dim (Y d) (M d) ≤ D d) :
    D (d + 1) = 1 ∧ (M d < 12 → Y (d + 1) = Y d ∧ M (d + 1) = M d + 1) ∧ (¬ M d < 12 → Y (d + 1) = Y d + 1 ∧ M (d + 1) = 1) := by
  obtain ⟨cy, c, k, j, t, hp⟩ := pos_ex d
  obtain ⟨hY, hM, hD⟩ := hp.civil
  have hl := hp.leap
  have t0 := hp.t0; have t1 := hp.t1
  by_cases ht : t + 1 ≤ 364 ∨ (t + 1 = 365 ∧ j = 3 ∧ (k ≤ 23 ∨ c = 3))
  · obtain ⟨hY2, hM2, hD2⟩ := (hp.next ht).civil
    rw [hY, hM, hD] at h
    rw [hY2, hM2, hD2, hY, hM]
    clear hY hM hD hY2 hM2 hD2 hp
    have hf := fm_cases t0 (by omega : t ≤ 365)
    have hu : fm t = (5 * t + 2) / 153 := rfl
    have hv : fm (t + 1) = (5 * (t + 1) + 2) / 153 := rfl
    unfold dayOf dim at *
    have hs : fm (t + 1) = fm t + 1 ∧ fm t ≤ 10 := by
      rcases hf with e | e | e | e | e | e | e | e | e | e | e | e <;> rw [e] at hu h ⊢ <;> simp at h <;> (try omega)
      rw [hl] at h
      split at h <;> rename_i hh <;> simp at hh <;> omega
    obtain ⟨hs, hs10⟩ := hs
    rw [hs]
    rcases hf with e | e | e | e | e | e | e | e | e | e | e | e <;> rw [e] at hu h hs hs10 ⊢ <;> simp at h ⊢ <;> omega
  · obtain ⟨cy', c', k', j', hp2, hyy⟩ := hp.nextYear ht
    obtain ⟨hY2, hM2, hD2⟩ := hp2.civil
    have hf : fm t = 11 := by unfold fm; omega
    have hf0 : fm 0 = 0 := by decide
    rw [hY2, hM2, hD2, hY, hM, hf, hf0]
    unfold dayOf
    rw [hf0]
    simp
    omega

/-! ### the days counted from 1970-01-01 -/
def lc (x : Int) : Int := x / 4 - x / 100 + x / 400
def dbm (m : Int) : Int := if m = 1 then 0 else if m = 2 then 31 else if m = 3 then 59 else if m = 4 then 90 else if m = 5 then 120 else if m = 6 then 151 else if m = 7 then 181 else if m = 8 then 212 else if m = 9 then 243 else if m = 10 then 273 else if m = 11 then 304 else 334
def cnt (y m d : Int) : Int := 365 * (y - 1970) + lc (y - 1) - lc 1969 + dbm m + (if 2 < m ∧ leap y = true then 1 else 0) + d - 1

theorem lc_leap (y : Int) : lc (y - 1) + (if leap y = true then 1 else 0) = lc y := by
  unfold lc
  by_cases h : leap y = true
  · rw [if_pos h]
    have := leap_true.1 h
    omega
  · rw [if_neg h]
    have h' : leap y = false := by simpa using h
    have := leap_false.1 h'
    omega

theorem lc_pos (cy c k j : Int) (c0 : 0 ≤ c) (c1 : c ≤ 3) (k0 : 0 ≤ k) (k1 : k ≤ 24) (j0 : 0 ≤ j) (j1 : j ≤ 3) : lc (cy * 400 + (100 * c + 4 * k + j)) = 97 * cy + 24 * c + k := by
  unfold lc
  have e1 : (cy * 400 + (100 * c + 4 * k + j)) / 4 = 100 * cy + 25 * c + k := by omega
  have e2 : (cy * 400 + (100 * c + 4 * k + j)) / 100 = 4 * cy + c := by omega
  have e3 : (cy * 400 + (100 * c + 4 * k + j)) / 400 = cy := by omega
  rw [e1, e2, e3]; omega

theorem count (d : Int) : cnt (Y d) (M d) (D d) = d := by
  obtain ⟨cy, c, k, j, t, hp⟩ := pos_ex d
  obtain ⟨hY, hM, hD⟩ := hp.civil
  rw [hY, hM, hD]
  clear hY hM hD
  obtain ⟨c0, c1, k0, k1, j0, j1, t0, t1, eq⟩ := hp
  have hlc := lc_pos cy c k j c0 c1 k0 k1 j0 j1
  have h69 : lc 1969 = 477 := by decide
  have hf := fm_cases t0 (by omega : t ≤ 365)
  have hu : fm t = (5 * t + 2) / 153 := rfl
  have hll := lc_leap (cy * 400 + (100 * c + 4 * k + j))
  unfold cnt dayOf
  rw [h69]
  rcases hf with e | e | e | e | e | e | e | e | e | e | e | e <;> rw [e] at hu ⊢ <;> simp [dbm, Int.add_sub_cancel] <;> omega

end Go.Proofs.Qxb6602385a.Cal
