/- The plain calendar: no Go in sight. -/
namespace Go.Proofs.Qxb6619407a.Cal
/-- leap years before y -/
def leaps (y : Int) : Int := (y + 3) / 4 - (y + 99) / 100 + (y + 399) / 400
def lpB (y : Int) : Bool := y % 400 == 0 || (!(y % 100 == 0) && y % 4 == 0)
def lp (y : Int) : Int := if lpB y then 1 else 0
def dbm (m : Int) : Int := if m = 2 then 31 else if m = 3 then 59 else if m = 4 then 90 else if m = 5 then 120 else if m = 6 then 151 else if m = 7 then 181 else if m = 8 then 212 else if m = 9 then 243 else if m = 10 then 273 else if m = 11 then 304 else if m = 12 then 334 else 0
def dim (y m : Int) : Int := if m = 2 then 28 + lp y else if m = 4 ∨ m = 6 ∨ m = 9 ∨ m = 11 then 30 else if 1 ≤ m ∧ m ≤ 12 then 31 else 0
def dayOf (y m d : Int) : Int := 365 * y + leaps y + dbm m + d - 1 + (if 2 < m ∧ lpB y = true then 1 else 0) - 719528
def fromD (y m d : Int) : Int :=
  (if m < 3 then y - 1 else y) / 400 * 146097 + (365 * ((if m < 3 then y - 1 else y) - (if m < 3 then y - 1 else y) / 400 * 400) + ((if m < 3 then y - 1 else y) - (if m < 3 then y - 1 else y) / 400 * 400) / 4 - ((if m < 3 then y - 1 else y) - (if m < 3 then y - 1 else y) / 400 * 400) / 100 + ((153 * ((if m < 3 then m + 12 else m) - 3) + 2) / 5 + d - 1)) - 719468

theorem lp_eq (y : Int) : lpB y = true ↔ (y % 400 = 0 ∨ (y % 100 ≠ 0 ∧ y % 4 = 0)) := by
  unfold lpB; simp
theorem lp01 (y : Int) : 0 ≤ lp y ∧ lp y ≤ 1 := by unfold lp; split <;> omega

theorem leaps_succ (y : Int) : leaps (y + 1) = leaps y + lp y := by
  unfold leaps lp
  by_cases h : lpB y = true
  · rw [if_pos h]; rw [lp_eq] at h; omega
  · rw [if_neg h]; rw [lp_eq] at h; omega

/-- the year counted from March -/
theorem fromD_lo (y m d : Int) (h : m = 1 ∨ m = 2) : fromD y m d = dayOf y m d := by
  unfold fromD dayOf dbm
  have e : leaps y = (y - 1) / 400 * 97 + ((y - 1) - (y - 1) / 400 * 400) / 4 - ((y - 1) - (y - 1) / 400 * 400) / 100 + 1 := by unfold leaps; omega
  rcases h with rfl | rfl <;> simp <;> omega
theorem fromD_hi (y m d : Int) (h : 3 ≤ m) (h' : m ≤ 12) : fromD y m d = dayOf y m d := by
  have e : leaps y + lp y = y / 400 * 97 + (y - y / 400 * 400) / 4 - (y - y / 400 * 400) / 100 + 1 := by
    rw [← leaps_succ]; unfold leaps; omega
  unfold fromD dayOf
  have hm : ¬ m < 3 := by omega
  have hm2 : 2 < m := by omega
  simp only [hm, if_false, hm2, true_and]
  have e2 : (if lpB y = true then (1 : Int) else 0) = lp y := rfl
  rw [e2]
  have e3 : (153 * (m - 3) + 2) / 5 = dbm m - 59 := by
    have : m = 3 ∨ m = 4 ∨ m = 5 ∨ m = 6 ∨ m = 7 ∨ m = 8 ∨ m = 9 ∨ m = 10 ∨ m = 11 ∨ m = 12 := by omega
    rcases this with rfl | rfl | rfl | rfl | rfl | rfl | rfl | rfl | rfl | rfl <;> simp [dbm]
  rw [e3]
  omega
theorem fromD_eq (y m d : Int) (h : 1 ≤ m) (h' : m ≤ 12) : fromD y m d = dayOf y m d := by
  by_cases hm : 3 ≤ m
  · exact fromD_hi y m d hm h'
  · exact fromD_lo y m d (by omega)
def yoe (e : Int) : Int := (e - e / 1460 + e / 36524 - e / 146096) / 365
theorem yoe_lo (e : Int) (h0 : 0 ≤ e) (h1 : e < 146097) : 0 ≤ yoe e ∧ yoe e ≤ 399 := by
  unfold yoe; omega
/-- the day in the year, counted from March -/
def doy (e : Int) : Int := e - (365 * yoe e + yoe e / 4 - yoe e / 100)
theorem yoe_core (e q r c j y : Int) (hq : e = 1460 * q + r) (r0 : 0 ≤ r) (r1 : r < 1460) (c0 : 0 ≤ c) (c1 : c ≤ 3) (hc : 36524 * c ≤ e) (hc' : e < 36524 * (c + 1)) (hj : 365 * j ≤ r - q + c) (hj' : r - q + c < 365 * j + 365) (hy : y = 4 * q + j) :
    0 ≤ e - (365 * y + y / 4 - y / 100) ∧ e - (365 * y + y / 4 - y / 100) ≤ 365 ∧ (e - (365 * y + y / 4 - y / 100) = 365 → y % 4 = 3 ∧ y % 100 ≠ 99) := by
  have hcc : c = 0 ∨ c = 1 ∨ c = 2 ∨ c = 3 := by omega
  have hjj : j = -1 ∨ j = 0 ∨ j = 1 ∨ j = 2 ∨ j = 3 := by omega
  rcases hcc with rfl | rfl | rfl | rfl <;> rcases hjj with rfl | rfl | rfl | rfl | rfl <;> subst hy <;> omega
theorem yoe_last : yoe 146096 = 399 := by decide
theorem doy_bd (e : Int) (h0 : 0 ≤ e) (h1 : e < 146097) : 0 ≤ doy e ∧ doy e ≤ 365 ∧ (doy e = 365 → yoe e % 4 = 3 ∧ (yoe e % 100 ≠ 99 ∨ yoe e = 399)) := by
  by_cases hl : e = 146096
  · subst hl; unfold doy; rw [yoe_last]; decide
  · have hc := yoe_core e (e / 1460) (e % 1460) (e / 36524) ((e % 1460 - e / 1460 + e / 36524) / 365) (yoe e) (by omega) (by omega) (by omega) (by omega) (by omega) (by omega) (by omega) (by omega) (by omega) (by unfold yoe; omega)
    unfold doy
    exact ⟨hc.1, hc.2.1, fun h => ⟨(hc.2.2 h).1, .inl (hc.2.2 h).2⟩⟩
def dateM0 (iy : Int) : Int := (5 * iy + 2) / 153
def era (n : Int) : Int := (n + 719468) / 146097
def doe (n : Int) : Int := n + 719468 - era n * 146097
def mp (n : Int) : Int := dateM0 (doy (doe n))
def dateY (n : Int) : Int := if 12 < mp n + 3 then yoe (doe n) + era n * 400 + 1 else yoe (doe n) + era n * 400
def dateM (n : Int) : Int := if 12 < mp n + 3 then mp n + 3 - 12 else mp n + 3
def dateD (n : Int) : Int := doy (doe n) - (153 * mp n + 2) / 5 + 1
def valid (y m d : Int) : Prop := 1 ≤ m ∧ m ≤ 12 ∧ 1 ≤ d ∧ d ≤ dim y m
theorem doe_bd (n : Int) : 0 ≤ doe n ∧ doe n < 146097 := by unfold doe era; omega
theorem mp_bd (n : Int) : 0 ≤ mp n ∧ mp n ≤ 11 := by
  have h := doe_bd n
  have h2 := doy_bd (doe n) h.1 h.2
  unfold mp dateM0; omega
theorem lp_399 (y : Int) (h : y % 4 = 3 ∧ (y % 100 ≠ 99 ∨ y % 400 = 399)) : lp (y + 1) = 1 := by
  unfold lp
  rw [if_pos]
  rw [lp_eq]; omega
theorem date_valid (n : Int) : valid (dateY n) (dateM n) (dateD n) := by
  have h := doe_bd n
  have h2 := doy_bd (doe n) h.1 h.2
  have h4 := yoe_lo (doe n) h.1 h.2
  have h3 := mp_bd n
  have hl := lp01 (dateY n)
  have hm : mp n = (5 * doy (doe n) + 2) / 153 := rfl
  have hlp : doy (doe n) = 365 → lp (yoe (doe n) + era n * 400 + 1) = 1 := by
    intro e
    apply lp_399
    have := h2.2.2 e
    omega
  unfold valid dim dateD
  unfold dateY at *
  unfold dateM
  have hc : mp n = 0 ∨ mp n = 1 ∨ mp n = 2 ∨ mp n = 3 ∨ mp n = 4 ∨ mp n = 5 ∨ mp n = 6 ∨ mp n = 7 ∨ mp n = 8 ∨ mp n = 9 ∨ mp n = 10 ∨ mp n = 11 := by omega
  rcases hc with e | e | e | e | e | e | e | e | e | e | e | e <;> rw [e] at hm ⊢ <;> simp [e] at hl ⊢ <;> omega
theorem date_from (n : Int) : fromD (dateY n) (dateM n) (dateD n) = n := by
  have h := doe_bd n
  have h4 := yoe_lo (doe n) h.1 h.2
  have h3 := mp_bd n
  have hd : doe n = n + 719468 - era n * 146097 := rfl
  unfold fromD dateD dateY dateM
  have hy : doy (doe n) = doe n - (365 * yoe (doe n) + yoe (doe n) / 4 - yoe (doe n) / 100) := rfl
  by_cases c : 12 < mp n + 3
  · simp only [c, if_true]
    have c2 : mp n + 3 - 12 < 3 := by omega
    simp only [c2, if_true]
    have e1 : yoe (doe n) + era n * 400 + 1 - 1 = yoe (doe n) + era n * 400 := by omega
    have e2 : (yoe (doe n) + era n * 400) / 400 = era n := by omega
    have e3 : mp n + 3 - 12 + 12 - 3 = mp n := by omega
    rw [e1, e2, e3]
    have e4 : yoe (doe n) + era n * 400 - era n * 400 = yoe (doe n) := by omega
    rw [e4]
    omega
  · simp only [c, if_false]
    have c2 : ¬ mp n + 3 < 3 := by omega
    simp only [c2, if_false]
    have e2 : (yoe (doe n) + era n * 400) / 400 = era n := by omega
    have e3 : mp n + 3 - 3 = mp n := by omega
    rw [e2, e3]
    have e4 : yoe (doe n) + era n * 400 - era n * 400 = yoe (doe n) := by omega
    rw [e4]
    omega
theorem date_day (n : Int) : dayOf (dateY n) (dateM n) (dateD n) = n := by
  have v := date_valid n
  rw [← fromD_eq _ _ _ v.1 v.2.1]; exact date_from n

/-! uniqueness -/
theorem leaps_mono (a b : Int) (h : a ≤ b) : leaps a ≤ leaps b := by
  unfold leaps
  omega
theorem start_mono (a b : Int) (h : a < b) : dayOf a 1 1 < dayOf b 1 1 := by
  have := leaps_mono a b (by omega)
  unfold dayOf dbm; simp; omega
/-- the days of the months ahead -/
theorem cum_succ (y m : Int) (h1 : 1 ≤ m) (h2 : m ≤ 11) : dayOf y (m + 1) 1 = dayOf y m 1 + dim y m := by
  have : m = 1 ∨ m = 2 ∨ m = 3 ∨ m = 4 ∨ m = 5 ∨ m = 6 ∨ m = 7 ∨ m = 8 ∨ m = 9 ∨ m = 10 ∨ m = 11 := by omega
  unfold dayOf dim lp dbm
  rcases this with rfl | rfl | rfl | rfl | rfl | rfl | rfl | rfl | rfl | rfl | rfl <;> simp <;> omega
theorem cum_last (y : Int) : dayOf (y + 1) 1 1 = dayOf y 12 1 + dim y 12 := by
  have := leaps_succ y
  unfold dayOf dim dbm
  unfold lp at this
  simp
  omega
theorem dim_pos (y m : Int) (h1 : 1 ≤ m) (h2 : m ≤ 12) : 28 ≤ dim y m ∧ dim y m ≤ 31 := by
  have := lp01 y
  unfold dim
  split
  · omega
  · split
    · omega
    · omega
theorem day_add (y m d : Int) : dayOf y m d = dayOf y m 1 + d - 1 := by unfold dayOf; omega
theorem month_mono (y a b : Int) (h1 : 1 ≤ a) (h : a < b) (h2 : b ≤ 12) : dayOf y a 1 + dim y a ≤ dayOf y b 1 := by
  have key : ∀ k : Nat, ∀ b : Int, b = a + 1 + k → b ≤ 12 → dayOf y a 1 + dim y a ≤ dayOf y b 1 := by
    intro k
    induction k with
    | zero => intro b hb hb2; subst hb; have := cum_succ y a h1 (by omega); simp; omega
    | succ k ih =>
      intro b hb hb2
      have i := ih (a + 1 + k) rfl (by omega)
      have c := cum_succ y (a + 1 + k) (by omega) (by omega)
      have p := dim_pos y (a + 1 + k) (by omega) (by omega)
      have : b = a + 1 + k + 1 := by omega
      rw [this]; omega
  exact key (b - a - 1).toNat b (by omega) h2
theorem start_le (y m : Int) (h1 : 1 ≤ m) (h2 : m ≤ 12) : dayOf y 1 1 ≤ dayOf y m 1 := by
  by_cases h : m = 1
  · subst h; omega
  · have := month_mono y 1 m (by omega) (by omega) h2
    have := dim_pos y 1 (by omega) (by omega)
    omega
theorem end_le (y m : Int) (h1 : 1 ≤ m) (h2 : m ≤ 12) : dayOf y m 1 + dim y m ≤ dayOf (y + 1) 1 1 := by
  rw [cum_last]
  by_cases h : m = 12
  · subst h; omega
  · have := month_mono y m 12 (by omega) (by omega) (by omega)
    have := dim_pos y 12 (by omega) (by omega)
    omega
theorem in_year (y m d : Int) (v : valid y m d) : dayOf y 1 1 ≤ dayOf y m d ∧ dayOf y m d < dayOf (y + 1) 1 1 := by
  obtain ⟨a, b, c, e⟩ := v
  have s := start_le y m a b
  have t := end_le y m a b
  rw [day_add y m d]; omega
theorem uniq (y m d y' m' d' : Int) (v : valid y m d) (v' : valid y' m' d') (h : dayOf y m d = dayOf y' m' d') : y = y' ∧ m = m' ∧ d = d' := by
  have i := in_year y m d v
  have i' := in_year y' m' d' v'
  have hy : y = y' := by
    rcases Int.lt_trichotomy y y' with l | l | l
    · have : dayOf (y + 1) 1 1 ≤ dayOf y' 1 1 := by
        by_cases e : y + 1 = y'
        · rw [e]; omega
        · have := start_mono (y + 1) y' (by omega); omega
      omega
    · exact l
    · have : dayOf (y' + 1) 1 1 ≤ dayOf y 1 1 := by
        by_cases e : y' + 1 = y
        · rw [e]; omega
        · have := start_mono (y' + 1) y (by omega); omega
      omega
  subst hy
  obtain ⟨a, b, c, e⟩ := v
  obtain ⟨a', b', c', e'⟩ := v'
  rw [day_add y m d, day_add y m' d'] at h
  have hm : m = m' := by
    rcases Int.lt_trichotomy m m' with l | l | l
    · have := month_mono y m m' a l b'; omega
    · exact l
    · have := month_mono y m' m a' l b; omega
  subst hm
  exact ⟨rfl, rfl, by omega⟩
end Go.Proofs.Qxb6619407a.Cal
