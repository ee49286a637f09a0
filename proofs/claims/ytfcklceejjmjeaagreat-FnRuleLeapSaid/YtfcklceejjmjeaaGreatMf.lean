/-
  Laws of a period's days: their bounds; what an output adds.
-/
import Derived.Test.YtfcklceejjmjeaaGreatSt
import Derived.Test.YtfcklceejjmjeaaGreatOut
set_option linter.unusedVariables false
namespace Go.Proofs.YtfcklceejjmjeaaGreat
open Go.Md Go.Tab
theorem rg_all : (∀ j : Nat, j < 13 → [0, 31, 60, 91, 121, 152, 182, 213, 244, 274, 305, 335, 366].getD j 0 = ([0, 31, 60, 91, 121, 152, 182, 213, 244, 274, 305, 335, 366] : List Int)[j]!) := by decide
theorem rg_len (y : Int) : (rgY y).length = 13 := by unfold rgY; split <;> rfl
theorem rg_get {y : Int} {j : Nat} (h : j < 13) : (rgY y)[j]? = some ((rgY y).getD j 0) := by
  have hl := rg_len y
  rw [List.getD_eq_getElem?_getD, List.getElem?_eq_getElem (by omega)]; rfl
theorem rg_bd {y : Int} {j : Nat} (h : j < 12) : 0 ≤ (rgY y).getD j 0 ∧ (rgY y).getD j 0 + 28 ≤ (rgY y).getD (j + 1) 0 ∧ (rgY y).getD (j + 1) 0 ≤ (rgY y).getD j 0 + 31 ∧ (rgY y).getD (j + 1) 0 ≤ 365 + Cal.lp y := by
  unfold rgY Cal.lp
  split
  · revert j; decide
  · revert j; decide
theorem rg_cum {y : Int} {j : Nat} (h : j ≤ 12) : (rgY y).getD j 0 = Cal.cum y j := by
  have key : ∀ j : Nat, j ≤ 12 → (if Cal.leapB y then ([0, 31, 60, 91, 121, 152, 182, 213, 244, 274, 305, 335, 366] : List Int) else [0, 31, 59, 90, 120, 151, 181, 212, 243, 273, 304, 334, 365]).getD j 0 = Cal.cum y j := by
    intro j hj
    have e : j = 0 ∨ j = 1 ∨ j = 2 ∨ j = 3 ∨ j = 4 ∨ j = 5 ∨ j = 6 ∨ j = 7 ∨ j = 8 ∨ j = 9 ∨ j = 10 ∨ j = 11 ∨ j = 12 := by omega
    rcases e with rfl | rfl | rfl | rfl | rfl | rfl | rfl | rfl | rfl | rfl | rfl | rfl | rfl <;> (simp only [Cal.cum, Cal.mdays, Cal.lp]; cases Cal.leapB y <;> rfl)
  exact key j h
theorem day_no_bd {y m d : Int} (hy : 1 ≤ y ∧ y ≤ 10000) (hm : 1 ≤ m ∧ m ≤ 12) (hd : 1 ≤ d ∧ d ≤ 1000) : 0 ≤ Cal.dayNo y m d ∧ Cal.dayNo y m d ≤ 5000000 := by
  have h1 := Cal.cum_bd y (m - 1).toNat
  have hq : (m - 1) / 12 = 0 := by omega
  have hr : (m - 1) % 12 = m - 1 := by omega
  unfold Cal.dayNo
  rw [hq, hr, Int.add_zero]
  have hb : 0 ≤ Cal.daysTo y ∧ Cal.daysTo y ≤ 4000000 := by unfold Cal.daysTo; omega
  omega
/-- The day of the year of a date that there is. -/
theorem yday_eq {y m d : Int} (hm : 1 ≤ m ∧ m ≤ 12) (hd : 1 ≤ d ∧ d ≤ Cal.mdays m y) : Cal.dayNo y m d = Cal.daysTo y + (Cal.cum y (m - 1).toNat + d - 1) ∧ Cal.yearOf (Cal.dayNo y m d) = y ∧ Cal.ydayOf (Cal.dayNo y m d) = Cal.cum y (m - 1).toNat + d - 1 ∧ Cal.monthOf (Cal.dayNo y m d) = m ∧ Cal.mdayOf (Cal.dayNo y m d) = d := by
  obtain ⟨j, rfl⟩ : ∃ j : Nat, m = (j : Int) + 1 := ⟨(m - 1).toNat, by omega⟩
  have hq : ((j : Int) + 1 - 1) / 12 = 0 := by omega
  have hr : ((j : Int) + 1 - 1) % 12 = j := by omega
  have ht : ((j : Int) + 1 - 1).toNat = j := by omega
  have hs : Cal.cum y (j + 1) = Cal.cum y j + Cal.mdays ((j : Int) + 1) y := rfl
  have e : Cal.dayNo y ((j : Int) + 1) d = Cal.daysTo y + (Cal.cum y j + d - 1) := by
    unfold Cal.dayNo; rw [hq, hr, Int.add_zero, Int.toNat_natCast]; omega
  have u := Cal.date_unique (y := y) (D := Cal.cum y j + d - 1) (j := j) (by omega) (by omega) (by omega)
  rw [ht, e]
  exact ⟨rfl, u.1, u.2.1, u.2.2.1, by rw [u.2.2.2]; omega⟩
theorem yday_bd {y m d : Int} (hm : 1 ≤ m ∧ m ≤ 12) (hd : 1 ≤ d ∧ d ≤ Cal.mdays m y) : 0 ≤ Cal.ydayOf (Cal.dayNo y m d) ∧ Cal.ydayOf (Cal.dayNo y m d) < 365 + Cal.lp y := by
  obtain ⟨e1, e2, e3, _⟩ := yday_eq hm hd
  have h1 := Cal.split_spec (Cal.dayNo y m d)
  rw [e2] at h1
  exact ⟨h1.2.1, h1.2.2⟩
theorem span_bd {r : Ru} {s : It} (hr : RuOk r) (hk : ItOk r s) : 0 ≤ (span r s).1 ∧ (span r s).1 < (span r s).2 ∧ (span r s).2 ≤ 372 + Cal.lp s.ly ∧ (span r s).2 ≤ (span r s).1 + 366 ∧ (r.freq < 2 → (span r s).2 ≤ 365 + Cal.lp s.ly) ∧ (2 ≤ r.freq → (span r s).2 ≤ (span r s).1 + 7) := by
  have hlp := Cal.lp_01 s.ly
  have hf := hr.freq
  unfold span
  by_cases h0 : r.freq = 0
  · rw [if_pos h0]; simp only; omega
  · by_cases h1 : r.freq = 1
    · rw [if_neg h0, if_pos h1]
      have hm := hk.mo
      have hb := rg_bd (y := s.ly) (j := (s.mo - 1).toNat) (by omega)
      rw [show (s.mo - 1).toNat + 1 = s.mo.toNat by omega] at hb
      simp only; omega
    · rw [if_neg h0, if_neg h1]
      have hb := yday_bd hk.mo ⟨hk.d.1, hk.day (by omega)⟩
      rw [hk.ly] at hlp ⊢
      by_cases h2 : r.freq = 2
      · simp only [if_pos h2]; omega
      · simp only [if_neg h2]; omega
/-- The tables of a period's days. -/
theorem tabs_bd {r : Ru} {s : It} (hr : RuOk r) (hk : ItOk r s) : (r.weekno.length ≠ 0 → (span r s).2 ≤ s.wno.length) ∧ (s.nwm.length ≠ 0 → (span r s).2 ≤ s.nwm.length) ∧ (r.easter.length ≠ 0 → (span r s).2 ≤ s.eas.length) := by
  obtain ⟨h1, h2, h3, h4, h5, h6⟩ := span_bd hr hk
  have hny := nY_lp s.ly
  refine ⟨fun h => ?_, fun h => ?_, fun h => ?_⟩
  · rw [hk.wno, hr.wnoF h]; omega
  · by_cases hn : r.nwd.length = 0
    · rw [hk.nwm, hr.nwmF0 hn] at h; exact absurd rfl h
    · have := hr.nwmF hn s.ly s.lm
      rw [hk.nwm, this]
      refine h5 ?_
      rcases Int.lt_or_le r.freq 2 with h' | h'
      · exact h'
      · exact absurd (hr.nwd h') hn
  · rw [hk.eas, hr.easF h]; omega
/-- What an output adds to the count of dates. -/
theorem emit_total (r : Ru) (o : It) (t : Int) : (emit r o t).total - (emit r o t).rem.length = o.total - o.rem.length := by
  unfold emit
  split
  · rfl
  · split
    · rfl
    · split
      · rfl
      · split <;> (simp only [List.length_append, List.length_singleton]; omega)
theorem emits_total (r : Ru) : ∀ (l : List Int) (o : It), (emits r o l).total - (emits r o l).rem.length = o.total - o.rem.length
  | [], o => rfl
  | t :: l, o => (emits_total r l (emit r o t)).trans (emit_total r o t)
theorem emit_count_bd (r : Ru) (o : It) (t : Int) (h : 0 ≤ o.count ∧ o.count ≤ 9223372036854775807) : 0 ≤ (emit r o t).count ∧ (emit r o t).count ≤ 9223372036854775807 := by
  unfold emit
  split
  · exact h
  · split
    · exact h
    · split
      · exact h
      · split
        · exact h
        · simp only; omega
theorem emits_count_bd (r : Ru) : ∀ (l : List Int) (o : It), 0 ≤ o.count ∧ o.count ≤ 9223372036854775807 → 0 ≤ (emits r o l).count ∧ (emits r o l).count ≤ 9223372036854775807
  | [], o, h => h
  | t :: l, o, h => emits_count_bd r l (emit r o t) (emit_count_bd r o t h)
theorem outTo_total (r : Ru) (s : It) (a : Int) : ∀ k, (outTo r s a k).total - (outTo r s a k).rem.length = s.total - s.rem.length
  | 0 => rfl
  | k + 1 => by
    rw [outTo_succ]
    unfold outDay
    split
    · exact outTo_total r s a k
    · rw [emits_total]; exact outTo_total r s a k
theorem outTo_count_bd (r : Ru) (s : It) (a : Int) (h : 0 ≤ s.count ∧ s.count ≤ 9223372036854775807) : ∀ k, 0 ≤ (outTo r s a k).count ∧ (outTo r s a k).count ≤ 9223372036854775807
  | 0 => h
  | k + 1 => by
    rw [outTo_succ]
    unfold outDay
    split
    · exact outTo_count_bd r s a h k
    · exact emits_count_bd r _ _ (outTo_count_bd r s a h k)
theorem out_total (r : Ru) (s : It) : (out r s).total - (out r s).rem.length = s.total - s.rem.length := by
  unfold out
  split
  · exact emits_total r _ s
  · exact outTo_total r s _ _
theorem out_count_bd (r : Ru) (s : It) (h : 0 ≤ s.count ∧ s.count ≤ 9223372036854775807) : 0 ≤ (out r s).count ∧ (out r s).count ≤ 9223372036854775807 := by
  unfold out
  split
  · exact emits_count_bd r _ s h
  · exact outTo_count_bd r s _ h _
theorem out_same (r : Ru) (s : It) : Same s (out r s) := by
  unfold out
  split
  · exact emits_same r _ s
  · exact outTo_same r s _ _
end Go.Proofs.YtfcklceejjmjeaaGreat
