/-
  The plain calendar: no Go in sight. 'civil' as numbers, and what it comes to.
-/
namespace Go.Proofs.Qxb6602385a.Cal

/-- the 400-year cycle of day d (counted from 0000-03-01), rounded down -/
def cyc (d : Int) : Int := (d + 719468) / 146097
/-- the day of the cycle -/
def oc (d : Int) : Int := (d + 719468) % 146097
/-- the year of the cycle, of a day of the cycle -/
def yoc (o : Int) : Int := (o - o / 1460 + o / 36524 - o / 146096) / 365
/-- the day of the March year, of a day of the cycle -/
def oy (o : Int) : Int := o - (365 * yoc o + yoc o / 4 - yoc o / 100)
/-- the month from March, of a day of the March year -/
def fm (t : Int) : Int := (5 * t + 2) / 153
def dayOf (t : Int) : Int := t - (153 * fm t + 2) / 5 + 1
def D (d : Int) : Int := dayOf (oy (oc d))
def M (d : Int) : Int := if 12 < fm (oy (oc d)) + 3 then fm (oy (oc d)) + 3 - 12 else fm (oy (oc d)) + 3
def Y (d : Int) : Int := if 12 < fm (oy (oc d)) + 3 then cyc d * 400 + yoc (oc d) + 1 else cyc d * 400 + yoc (oc d)

/-- a day's place in the count: cycle cy, century c, four years k, March year j, day t of that year -/
structure Pos (d cy c k j t : Int) : Prop where
  c0 : 0 ≤ c
  c1 : c ≤ 3
  k0 : 0 ≤ k
  k1 : k ≤ 24
  j0 : 0 ≤ j
  j1 : j ≤ 3
  t0 : 0 ≤ t
  t1 : t ≤ 364 ∨ (t = 365 ∧ j = 3 ∧ (k ≤ 23 ∨ c = 3))
  eq : d + 719468 = 146097 * cy + 36524 * c + 1461 * k + 365 * j + t

theorem pos_ex (d : Int) : ∃ cy c k j t, Pos d cy c k j t := by
  by_cases h : (d + 719468) % 146097 / 36524 = 4
  · exact ⟨(d + 719468) / 146097, 3, 24, 3, 365, by omega, by omega, by omega, by omega, by omega, by omega, by omega, by omega, by omega⟩
  · by_cases h2 : (d + 719468) % 146097 % 36524 % 1461 / 365 = 4
    · exact ⟨(d + 719468) / 146097, (d + 719468) % 146097 / 36524, (d + 719468) % 146097 % 36524 / 1461, 3, 365, by omega, by omega, by omega, by omega, by omega, by omega, by omega, by omega, by omega⟩
    · exact ⟨(d + 719468) / 146097, (d + 719468) % 146097 / 36524, (d + 719468) % 146097 % 36524 / 1461, (d + 719468) % 146097 % 36524 % 1461 / 365, (d + 719468) % 146097 % 36524 % 1461 % 365, by omega, by omega, by omega, by omega, by omega, by omega, by omega, by omega, by omega⟩

theorem Pos.cyc {d cy c k j t : Int} (h : Pos d cy c k j t) : cyc d = cy := by
  obtain ⟨c0, c1, k0, k1, j0, j1, t0, t1, eq⟩ := h
  unfold Cal.cyc; omega

theorem Pos.oc {d cy c k j t : Int} (h : Pos d cy c k j t) : oc d = 36524 * c + 1461 * k + 365 * j + t := by
  obtain ⟨c0, c1, k0, k1, j0, j1, t0, t1, eq⟩ := h
  unfold Cal.oc; omega

theorem Pos.yoc {d cy c k j t : Int} (h : Pos d cy c k j t) : yoc (Cal.oc d) = 100 * c + 4 * k + j := by
  have ho := h.oc
  obtain ⟨c0, c1, k0, k1, j0, j1, t0, t1, eq⟩ := h
  clear eq
  generalize Cal.oc d = o at ho
  unfold Cal.yoc
  by_cases hl : o = 146096
  · subst hl
    have : c = 3 := by omega
    have : k = 24 := by omega
    have : j = 3 := by omega
    omega
  · have ec : o / 36524 = c := by omega
    have ee : o / 146096 = 0 := by omega
    rw [ec, ee]
    by_cases hv : 24 * c + k + 365 * j + t < 1460
    · have eq : o / 1460 = 25 * c + k := by omega
      rw [eq]; omega
    · have eq : o / 1460 = 25 * c + k + 1 := by omega
      rw [eq]; omega

theorem Pos.oy {d cy c k j t : Int} (h : Pos d cy c k j t) : oy (Cal.oc d) = t := by
  have ho := h.oc
  have hy := h.yoc
  unfold Cal.oy
  rw [hy, ho]
  obtain ⟨c0, c1, k0, k1, j0, j1, t0, t1, eq⟩ := h
  have e1 : (100 * c + 4 * k + j) / 4 = 25 * c + k := by omega
  have e2 : (100 * c + 4 * k + j) / 100 = c := by omega
  rw [e1, e2]; omega

/-- what the walk wants: every number on the road stays small -/
theorem yoc_bd (d : Int) : 0 ≤ yoc (oc d) ∧ yoc (oc d) ≤ 399 := by
  obtain ⟨cy, c, k, j, t, h⟩ := pos_ex d
  have := h.yoc; have := h.c0; have := h.c1; have := h.k0; have := h.k1; have := h.j0; have := h.j1
  omega
theorem oy_bd (d : Int) : 0 ≤ oy (oc d) ∧ oy (oc d) ≤ 365 := by
  obtain ⟨cy, c, k, j, t, h⟩ := pos_ex d
  have := h.oy; have := h.t0; have := h.t1
  omega
theorem oc_bd (d : Int) : 0 ≤ oc d ∧ oc d ≤ 146096 := by unfold oc; omega

/-! ### 400 years later -/
theorem cyc_400 (d : Int) : cyc (d + 146097) = cyc d + 1 := by unfold cyc; omega
theorem oc_400 (d : Int) : oc (d + 146097) = oc d := by unfold oc; omega
theorem Y_400 (d : Int) : Y (d + 146097) = Y d + 400 := by
  unfold Y; rw [oc_400, cyc_400]; split <;> omega
theorem M_400 (d : Int) : M (d + 146097) = M d := by unfold M; rw [oc_400]
theorem D_400 (d : Int) : D (d + 146097) = D d := by unfold D; rw [oc_400]

/-! ### bounds -/
theorem fm_bd (d : Int) : 0 ≤ fm (oy (oc d)) ∧ fm (oy (oc d)) ≤ 11 := by
  have := oy_bd d; unfold fm; omega
theorem M_bd (d : Int) : 1 ≤ M d ∧ M d ≤ 12 := by
  have := fm_bd d; unfold M; split <;> omega
theorem D_bd (d : Int) : 1 ≤ D d ∧ D d ≤ 31 := by
  have := oy_bd d; unfold D dayOf fm; omega
theorem Y_bd (d : Int) (h0 : -2147483648 ≤ d) (h1 : d ≤ 2147483647) : -6000000 ≤ Y d ∧ Y d ≤ 6000000 := by
  have := yoc_bd d; unfold Y cyc; split <;> omega

/-! ### leap years and months -/
def leap (y : Int) : Bool := decide (y % 4 = 0 ∧ (y % 100 ≠ 0 ∨ y % 400 = 0))
def dim (y m : Int) : Int := if m = 2 then (if leap y then 29 else 28) else if m = 4 ∨ m = 6 ∨ m = 9 ∨ m = 11 then 30 else 31

theorem leap_true {y : Int} : leap y = true ↔ (y % 4 = 0 ∧ (y % 100 ≠ 0 ∨ y % 400 = 0)) := by unfold leap; simp
theorem leap_false {y : Int} : leap y = false ↔ ¬ (y % 4 = 0 ∧ (y % 100 ≠ 0 ∨ y % 400 = 0)) := by unfold leap; simp

/-- the calendar year behind a March year is a leap year just where her last day is the 366th -/
theorem Pos.leap {d cy c k j t : Int} (h : Pos d cy c k j t) :
    Cal.leap (cy * 400 + (100 * c + 4 * k + j) + 1) = decide (j = 3 ∧ (k ≤ 23 ∨ c = 3)) := by
  obtain ⟨c0, c1, k0, k1, j0, j1, t0, t1, eq⟩ := h
  rw [Bool.eq_iff_iff, leap_true, decide_eq_true_iff]
  omega

theorem fm_cases {t : Int} (h0 : 0 ≤ t) (h1 : t ≤ 365) : fm t = 0 ∨ fm t = 1 ∨ fm t = 2 ∨ fm t = 3 ∨ fm t = 4 ∨ fm t = 5 ∨ fm t = 6 ∨ fm t = 7 ∨ fm t = 8 ∨ fm t = 9 ∨ fm t = 10 ∨ fm t = 11 := by
  unfold fm; omega

/-- civil out of the place -/
theorem Pos.civil {d cy c k j t : Int} (h : Pos d cy c k j t) :
    Y d = (if 9 < fm t then cy * 400 + (100 * c + 4 * k + j) + 1 else cy * 400 + (100 * c + 4 * k + j)) ∧
    M d = (if 9 < fm t then fm t - 9 else fm t + 3) ∧ D d = dayOf t := by
  have h1 := h.oy; have h2 := h.yoc; have h3 := h.cyc
  unfold Y M D
  rw [h1, h2, h3]
  refine ⟨?_, ?_, rfl⟩
  · by_cases hf : 9 < fm t
    · rw [if_pos (by omega), if_pos hf]
    · rw [if_neg (by omega), if_neg hf]
  · by_cases hf : 9 < fm t
    · rw [if_pos (by omega), if_pos hf]; omega
    · rw [if_neg (by omega), if_neg hf]

/-- the day is within its month -/
theorem D_le (d : Int) : D d ≤ dim (Y d) (M d) := by
  obtain ⟨cy, c, k, j, t, h⟩ := pos_ex d
  obtain ⟨hY, hM, hD⟩ := h.civil
  have hl := h.leap
  rw [hY, hM, hD]
  have t0 := h.t0; have t1 := h.t1; clear hY hM hD h
  have hf := fm_cases t0 (by omega : t ≤ 365)
  unfold dayOf dim
  have hu : fm t = (5 * t + 2) / 153 := rfl
  rcases hf with e | e | e | e | e | e | e | e | e | e | e | e <;> rw [e] at hu ⊢ <;> simp <;> (try omega)
  rw [hl]
  split <;> rename_i hh <;> simp at hh <;> omega

/-! ### the next day -/
theorem Pos.next {d cy c k j t : Int} (h : Pos d cy c k j t) (ht : t + 1 ≤ 364 ∨ (t + 1 = 365 ∧ j = 3 ∧ (k ≤ 23 ∨ c = 3))) : Pos (d + 1) cy c k j (t + 1) := by
  obtain ⟨c0, c1, k0, k1, j0, j1, t0, t1, eq⟩ := h
  exact ⟨c0, c1, k0, k1, j0, j1, by omega, ht, by omega⟩

theorem Pos.nextYear {d cy c k j t : Int} (h : Pos d cy c k j t) (ht : ¬ (t + 1 ≤ 364 ∨ (t + 1 = 365 ∧ j = 3 ∧ (k ≤ 23 ∨ c = 3)))) :
    ∃ cy' c' k' j', Pos (d + 1) cy' c' k' j' 0 ∧ cy' * 400 + (100 * c' + 4 * k' + j') = cy * 400 + (100 * c + 4 * k + j) + 1 := by
  obtain ⟨c0, c1, k0, k1, j0, j1, t0, t1, eq⟩ := h
  by_cases hj : j = 3
  · by_cases hk : k = 24
    · by_cases hc : c = 3
      · exact ⟨cy + 1, 0, 0, 0, ⟨by omega, by omega, by omega, by omega, by omega, by omega, by omega, by omega, by omega⟩, by omega⟩
      · exact ⟨cy, c + 1, 0, 0, ⟨by omega, by omega, by omega, by omega, by omega, by omega, by omega, by omega, by omega⟩, by omega⟩
    · exact ⟨cy, c, k + 1, 0, ⟨by omega, by omega, by omega, by omega, by omega, by omega, by omega, by omega, by omega⟩, by omega⟩
  · exact ⟨cy, c, k, j + 1, ⟨by omega, by omega, by omega, by omega, by omega, by omega, by omega, by omega, by omega⟩, by omega⟩

end Go.Proofs.Qxb6602385a.Cal
