/-
  The calendar, in plain numbers: leap years, the days of months, the days to a year; the year, the month and the day of a number of days.
-/
import Derived.Lib.Hide
set_option linter.unusedVariables false
namespace Go.Cal

def leapB (y : Int) : Bool := decide (y % 4 = 0 ∧ (y % 100 ≠ 0 ∨ y % 400 = 0))
def lp (y : Int) : Int := if leapB y then 1 else 0
def mdays (m y : Int) : Int := if m = 2 then 28 + lp y else if m = 4 ∨ m = 6 ∨ m = 9 ∨ m = 11 then 30 else 31
def daysTo (y : Int) : Int := 365 * (y - 1) + (y - 1) / 4 - (y - 1) / 100 + (y - 1) / 400
/-- The days of the months from 1 on, so many. -/
def cum (y : Int) : Nat → Int
  | 0 => 0
  | n + 1 => cum y n + mdays (n + 1) y
theorem lp_01 (y : Int) : lp y = 0 ∨ lp y = 1 := by unfold lp; split <;> simp
theorem lp_iff (y : Int) : lp y = 1 ↔ (y % 4 = 0 ∧ (y % 100 ≠ 0 ∨ y % 400 = 0)) := by unfold lp leapB; split <;> simp_all
theorem leapB_lp (y : Int) : leapB y = (lp y == 1) := by unfold lp; cases leapB y <;> rfl
theorem daysTo_succ (y : Int) : daysTo (y + 1) = daysTo y + 365 + lp y := by
  have h := lp_iff y
  have h2 := lp_01 y
  unfold daysTo
  rcases h2 with e | e
  · have : ¬ (y % 4 = 0 ∧ (y % 100 ≠ 0 ∨ y % 400 = 0)) := fun hh => by rw [h.2 hh] at e; omega
    rw [e]; omega
  · have := h.1 e
    rw [e]; omega
theorem mdays_bd (m y : Int) : 28 ≤ mdays m y ∧ mdays m y ≤ 31 := by
  have := lp_01 y
  unfold mdays
  split
  · omega
  · split <;> omega

/-! ### A division that rounds to zero, and one that rounds down -/
theorem floor_t {a b : Int} (hb : 0 < b) (h : a.tmod b < 0) : a.tdiv b - 1 = a / b := by
  have h1 := Int.mul_tdiv_add_tmod a b
  have h2 := Int.mul_ediv_add_emod a b
  have h3 := Int.emod_nonneg a (show b ≠ 0 by omega)
  have h4 := Int.emod_lt_of_pos a hb
  have h5 : -b < a.tmod b := by
    have := Int.lt_tmod_of_pos a hb
    omega
  have h6 : b * (a.tdiv b - 1) = b * (a.tdiv b) - b := by rw [Int.mul_sub, Int.mul_one]
  have h7 : b * (a / b - (a.tdiv b - 1)) = a.tmod b + b - a % b := by rw [Int.mul_sub, h6]; omega
  have h8 : a / b - (a.tdiv b - 1) = 0 := by
    rcases Int.lt_trichotomy (a / b - (a.tdiv b - 1)) 0 with hh | hh | hh
    · have : b * (a / b - (a.tdiv b - 1)) ≤ b * (-1) := Int.mul_le_mul_of_nonneg_left (by omega) (by omega)
      omega
    · exact hh
    · have : b * 1 ≤ b * (a / b - (a.tdiv b - 1)) := Int.mul_le_mul_of_nonneg_left (by omega) (by omega)
      omega
  omega
theorem floor_f {a b : Int} (hb : 0 < b) (h : ¬ a.tmod b < 0) : a.tdiv b = a / b := by
  have h1 := Int.mul_tdiv_add_tmod a b
  have h2 := Int.mul_ediv_add_emod a b
  have h3 := Int.emod_nonneg a (show b ≠ 0 by omega)
  have h4 := Int.emod_lt_of_pos a hb
  have h5 := Int.tmod_lt_of_pos a hb
  have h7 : b * (a / b - a.tdiv b) = a.tmod b - a % b := by rw [Int.mul_sub]; omega
  have h8 : a / b - a.tdiv b = 0 := by
    rcases Int.lt_trichotomy (a / b - a.tdiv b) 0 with hh | hh | hh
    · have : b * (a / b - a.tdiv b) ≤ b * (-1) := Int.mul_le_mul_of_nonneg_left (by omega) (by omega)
      omega
    · exact hh
    · have : b * 1 ≤ b * (a / b - a.tdiv b) := Int.mul_le_mul_of_nonneg_left (by omega) (by omega)
      omega
  omega

/-! ### The year and the day of the year of a number of days -/
def cen (d : Int) : Int := if (d % 146097) / 36524 = 4 then 3 else (d % 146097) / 36524
def d2 (d : Int) : Int := d % 146097 - cen d * 36524
def one (d : Int) : Int := if (d2 d % 1461) / 365 = 4 then 3 else (d2 d % 1461) / 365
def yearOf (d : Int) : Int := 400 * (d / 146097) + 100 * cen d + 4 * (d2 d / 1461) + one d + 1
def ydayOf (d : Int) : Int := d2 d % 1461 - one d * 365
theorem split_spec (d : Int) : daysTo (yearOf d) + ydayOf d = d ∧ 0 ≤ ydayOf d ∧ ydayOf d < 365 + lp (yearOf d) := by
  have e1 : daysTo (yearOf d + 1) = _ := daysTo_succ (yearOf d)
  have hc : cen d = 0 ∨ cen d = 1 ∨ cen d = 2 ∨ cen d = 3 := by unfold cen; split <;> omega
  have hc2 : 0 ≤ d2 d ∧ d2 d < 36524 + (if cen d = 3 then 1 else 0) := by
    unfold d2 cen
    split <;> (split <;> omega)
  have ho : one d = 0 ∨ one d = 1 ∨ one d = 2 ∨ one d = 3 := by unfold one; split <;> omega
  have ho2 : 0 ≤ ydayOf d ∧ ydayOf d ≤ 365 ∧ (ydayOf d = 365 → one d = 3) ∧ (one d = 3 → ydayOf d < 366) := by
    unfold ydayOf one
    split <;> omega
  have key : daysTo (yearOf d) + ydayOf d = d := by
    have h1 : d = 146097 * (d / 146097) + cen d * 36524 + 1461 * (d2 d / 1461) + one d * 365 + ydayOf d := by
      unfold ydayOf; unfold d2; omega
    generalize hq : d / 146097 = q at *
    generalize hf : d2 d / 1461 = f at *
    have hf2 : 0 ≤ f ∧ f ≤ 24 ∧ (cen d < 3 → f ≤ 24) := by
      have := hc2; split at this <;> omega
    have hy : yearOf d = 400 * q + 100 * cen d + 4 * f + one d + 1 := by unfold yearOf; rw [hq, hf]
    rw [hy]; unfold daysTo
    rcases hc with e | e | e | e <;> rcases ho with e' | e' | e' | e' <;> rw [e, e'] at h1 ⊢ <;> omega
  refine ⟨key, ho2.1, ?_⟩
  have h365 : ydayOf d < 365 ∨ ydayOf d = 365 := by omega
  rcases h365 with h | h
  · rcases lp_01 (yearOf d) with e | e <;> omega
  · have ho3 := ho2.2.2.1 h
    have : lp (yearOf d) = 1 := by
      rw [lp_iff]
      have hq := hc2
      have hlast : d2 d % 1461 = 1460 := by have : ydayOf d = d2 d % 1461 - one d * 365 := rfl; omega
      have hy : yearOf d = 400 * (d / 146097) + 100 * cen d + 4 * (d2 d / 1461) + one d + 1 := rfl
      rcases hc with e | e | e | e <;> simp only [e] at hq hy <;> simp at hq <;> omega
    omega
theorem daysTo_mono {a b : Int} (h : a ≤ b) : daysTo a ≤ daysTo b := by unfold daysTo; omega
/-- A day lies in one year alone. -/
theorem year_unique {d y k : Int} (h : daysTo y + k = d) (h0 : 0 ≤ k) (h1 : k < 365 + lp y) : yearOf d = y ∧ ydayOf d = k := by
  obtain ⟨s1, s2, s3⟩ := split_spec d
  have e1 := daysTo_succ y
  have e2 := daysTo_succ (yearOf d)
  have : yearOf d = y := by
    rcases Int.lt_trichotomy (yearOf d) y with hh | hh | hh
    · have := daysTo_mono (show yearOf d + 1 ≤ y by omega); omega
    · exact hh
    · have := daysTo_mono (show y + 1 ≤ yearOf d by omega); omega
  rw [this] at s1
  exact ⟨this, by omega⟩

/-! ### The month and the day of the month -/
def monGo (y : Int) : Nat → Int → Int → Int × Int
  | 0, m, d => (m, d)
  | n + 1, m, d => if mdays m y ≤ d then monGo y n (m + 1) (d - mdays m y) else (m, d)
def monthOf (d : Int) : Int := (monGo (yearOf d) 12 1 (ydayOf d)).1
def mdayOf (d : Int) : Int := (monGo (yearOf d) 12 1 (ydayOf d)).2 + 1
theorem cum_12 (y : Int) : cum y 12 = 365 + lp y := by
  have h := lp_01 y
  simp only [cum, mdays]
  simp
  omega
theorem cum_mono (y : Int) (j : Nat) : ∀ i, j ≤ i → cum y j ≤ cum y i := by
  intro i h
  induction i with
  | zero => rw [Nat.le_zero.1 h]; exact Int.le_refl _
  | succ i ih =>
    rcases Nat.lt_or_ge j (i + 1) with h' | h'
    · have := ih (by omega); have := mdays_bd (i + 1) y; simp only [cum]; omega
    · rw [show j = i + 1 by omega]; exact Int.le_refl _
theorem mon_from {y D : Int} {j : Nat} (hj : j ≤ 11) (h0 : cum y j ≤ D) : ∀ i, i ≤ j → monGo y (12 - i) ((i : Int) + 1) (D - cum y i) = monGo y 12 1 D := by
  intro i
  induction i with
  | zero => intro _; simp [cum]
  | succ i ih =>
    intro hi
    rw [← ih (by omega), show 12 - i = (12 - (i + 1)) + 1 by omega]
    have h2 := cum_mono y (i + 1) j hi
    have e : cum y (i + 1) = cum y i + mdays (i + 1) y := rfl
    conv => rhs; simp only [monGo]
    rw [if_pos (by omega), e]
    rw [show ((i + 1 : Nat) : Int) + 1 = (i : Int) + 1 + 1 by omega, show D - (cum y i + mdays (i + 1) y) = D - cum y i - mdays (i + 1) y by omega]
theorem mon_unique {y D : Int} {j : Nat} (hj : j ≤ 11) (h0 : cum y j ≤ D) (h1 : D < cum y (j + 1)) : monGo y 12 1 D = ((j : Int) + 1, D - cum y j) := by
  rw [← mon_from hj h0 j (Nat.le_refl _), show 12 - j = (11 - j) + 1 by omega]
  have e : cum y (j + 1) = cum y j + mdays (j + 1) y := rfl
  simp only [monGo]
  rw [if_neg (by omega)]
theorem mon_ex {y D : Int} (h0 : 0 ≤ D) (h1 : D < 365 + lp y) : ∃ j : Nat, j ≤ 11 ∧ cum y j ≤ D ∧ D < cum y (j + 1) := by
  have key : ∀ n, D < cum y n → ∃ j, j < n ∧ cum y j ≤ D ∧ D < cum y (j + 1) := by
    intro n
    induction n with
    | zero => intro h; simp [cum] at h; omega
    | succ n ih =>
      intro h
      by_cases hn : cum y n ≤ D
      · exact ⟨n, by omega, hn, h⟩
      · obtain ⟨j, a, b, c⟩ := ih (by omega)
        exact ⟨j, by omega, b, c⟩
  obtain ⟨j, a, b, c⟩ := key 12 (by rw [cum_12]; exact h1)
  exact ⟨j, by omega, b, c⟩
/-- The number of the day, from the beginning of year 1, of a day of a month of a year; the month may lie outside of its range. -/
def dayNo (y m d : Int) : Int := daysTo (y + (m - 1) / 12) + cum (y + (m - 1) / 12) ((m - 1) % 12).toNat + d - 1
theorem cum_bd (y : Int) : ∀ j : Nat, 0 ≤ cum y j ∧ cum y j ≤ 31 * (j : Int) := by
  intro j
  induction j with
  | zero => simp [cum]
  | succ j ih =>
    have := mdays_bd ((j : Int) + 1) y
    simp only [cum]; omega
theorem month_bd (d : Int) : 1 ≤ monthOf d ∧ monthOf d ≤ 12 ∧ 1 ≤ mdayOf d ∧ mdayOf d ≤ 31 := by
  obtain ⟨_, h0, h1⟩ := split_spec d
  obtain ⟨j, hj, ha, hb⟩ := mon_ex h0 h1
  have e := mon_unique hj ha hb
  have hm := mdays_bd ((j : Int) + 1) (yearOf d)
  unfold monthOf mdayOf
  rw [e]
  simp only [cum] at hb
  simp only
  omega
theorem year_le (d : Int) (h : d ≤ 5000000) : yearOf d ≤ 14000 := by
  obtain ⟨e, h0, h1⟩ := split_spec d
  unfold daysTo at e
  omega
/-- The day of a date is its number. -/
theorem dayNo_of (d k : Int) : dayNo (yearOf d + 0) (monthOf d + 0) (mdayOf d + k) = d + k := by
  obtain ⟨e, h0, h1⟩ := split_spec d
  obtain ⟨j, hj, ha, hb⟩ := mon_ex h0 h1
  have u := mon_unique hj ha hb
  have hm : monthOf d = (j : Int) + 1 := by unfold monthOf; rw [u]
  have hd : mdayOf d = ydayOf d - cum (yearOf d) j + 1 := by unfold mdayOf; rw [u]
  unfold dayNo
  rw [hm, hd]
  have q : ((j : Int) + 1 + 0 - 1) / 12 = 0 := by omega
  have r : ((j : Int) + 1 + 0 - 1) % 12 = j := by omega
  rw [q, r]
  simp only [Int.add_zero, Int.toNat_natCast]
  omega
/-- The days of a year by their months: the day's month and its day of the month. -/
theorem date_unique {y D : Int} {j : Nat} (hj : j ≤ 11) (h0 : cum y j ≤ D) (h1 : D < cum y (j + 1)) : yearOf (daysTo y + D) = y ∧ ydayOf (daysTo y + D) = D ∧ monthOf (daysTo y + D) = (j : Int) + 1 ∧ mdayOf (daysTo y + D) = D - cum y j + 1 := by
  have hc0 := (cum_bd y j).1
  have hc1 := cum_mono y (j + 1) 12 (by omega)
  rw [cum_12] at hc1
  obtain ⟨e1, e2⟩ := year_unique (d := daysTo y + D) (y := y) (k := D) rfl (by omega) (by omega)
  have u := mon_unique (y := y) hj h0 h1
  refine ⟨e1, e2, ?_, ?_⟩
  · unfold monthOf; rw [e1, e2, u]
  · unfold mdayOf; rw [e1, e2, u]
theorem dayNo_last (m y : Int) (hm : 1 ≤ m ∧ m ≤ 12) (hy : 1 ≤ y ∧ y ≤ 10000) : (0 ≤ dayNo y (m + 1) 0 ∧ dayNo y (m + 1) 0 ≤ 5000000) ∧ mdayOf (dayNo y (m + 1) 0) = mdays m y := by
  obtain ⟨j, rfl⟩ : ∃ j : Nat, m = (j : Int) + 1 := ⟨(m - 1).toNat, by omega⟩
  have hj : j ≤ 11 := by omega
  have hmd := mdays_bd ((j : Int) + 1) y
  have hcs : cum y (j + 1) = cum y j + mdays ((j : Int) + 1) y := rfl
  have hcb := cum_bd y j
  have key : dayNo y ((j : Int) + 1 + 1) 0 = daysTo y + (cum y (j + 1) - 1) := by
    unfold dayNo
    rcases Nat.lt_or_ge j 11 with h | h
    · have q : ((j : Int) + 1 + 1 - 1) / 12 = 0 := by omega
      have r : ((j : Int) + 1 + 1 - 1) % 12 = ((j + 1 : Nat) : Int) := by omega
      rw [q, r, Int.toNat_natCast]; simp only [Int.add_zero]; omega
    · obtain rfl : j = 11 := by omega
      have := daysTo_succ y
      have := cum_12 y
      show daysTo (y + 1) + cum (y + 1) 0 + 0 - 1 = daysTo y + (cum y 12 - 1)
      simp only [cum.eq_1] at *
      omega
  have hd := date_unique (y := y) (D := cum y (j + 1) - 1) hj (by omega) (by omega)
  rw [key]
  have hb : 0 ≤ daysTo y ∧ daysTo y ≤ 4000000 := by unfold daysTo; omega
  exact ⟨by omega, by rw [hd.2.2.2]; omega⟩
end Go.Cal
