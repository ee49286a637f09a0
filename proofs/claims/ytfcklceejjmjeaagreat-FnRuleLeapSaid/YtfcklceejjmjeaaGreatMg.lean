/-
  A round leaves the iterator's numbers in their ranges.
-/
import Derived.Test.YtfcklceejjmjeaaGreatNext
set_option linter.unusedVariables false
namespace Go.Proofs.YtfcklceejjmjeaaGreat
open Go.Md Go.Tab
theorem emit_rem (r : Ru) (o : It) (t : Int) : o.rem.length ≤ (emit r o t).rem.length ∧ (emit r o t).total - o.total = (emit r o t).rem.length - o.rem.length := by
  unfold emit
  split
  · omega
  · split
    · simp only; omega
    · split
      · omega
      · split <;> (simp only [List.length_append, List.length_singleton]; omega)
theorem out_ok {r : Ru} {s : It} (hk : ItOk r s) (hrem : s.rem = []) : ItOk r (out r s) where
  y := by rw [(out_same r s).y]; exact hk.y
  ly := by rw [(out_same r s).ly, (out_same r s).y]; exact hk.ly
  mo := by rw [(out_same r s).mo]; exact hk.mo
  d := by rw [(out_same r s).d]; exact hk.d
  day := by rw [(out_same r s).d, (out_same r s).mo, (out_same r s).y]; exact hk.day
  wd := by rw [(out_same r s).wd]; exact hk.wd
  hr := by rw [(out_same r s).h]; exact hk.hr
  mn := by rw [(out_same r s).mi]; exact hk.mn
  sec := by rw [(out_same r s).s]; exact hk.sec
  ts := by rw [(out_same r s).ts]; exact hk.ts
  tsn := by rw [(out_same r s).ts]; exact hk.tsn
  total := by
    have h := out_total r s
    have h2 := hk.total
    rw [hrem] at h h2
    simp only [List.length_nil] at h h2
    omega
  count := out_count_bd r s hk.count
  wno := by rw [(out_same r s).wno, (out_same r s).ly]; exact hk.wno
  nwm := by rw [(out_same r s).nwm, (out_same r s).ly, (out_same r s).lm]; exact hk.nwm
  eas := by rw [(out_same r s).eas, (out_same r s).ly]; exact hk.eas
  lm := by rw [(out_same r s).lm, (out_same r s).mo]; exact hk.lm
/-- What the tables are like: all but the numbers of the date. -/
structure Msk (r : Ru) (s : It) : Prop where
  wno : s.wno = r.wnoF s.ly
  nwm : s.nwm = r.nwmF s.ly s.lm
  eas : s.eas = r.easF s.ly
theorem reb_msk {r : Ru} {s : It} (h : Msk r s) (y m : Int) : Msk r (reb r s y m) where
  wno := by
    unfold reb; simp only
    split
    · rename_i e; rw [h.wno, e]
    · rfl
  nwm := by
    unfold reb; simp only
    split
    · rename_i e; rw [h.nwm, e.1, e.2]
    · rfl
  eas := rfl
/-- What does not hang on the date. -/
structure Rest (s o : It) : Prop where
  h : o.h = s.h
  mi : o.mi = s.mi
  sec : o.s = s.s
  wd : o.wd = s.wd
  ts : o.ts = s.ts
  total : o.total = s.total
  count : o.count = s.count
  rem : o.rem = s.rem
theorem Rest.refl (s : It) : Rest s s := ⟨rfl, rfl, rfl, rfl, rfl, rfl, rfl, rfl⟩
theorem fixGo_ok {r : Ru} : ∀ (n : Nat) (s : It), 1 ≤ s.d → s.d ≤ n → (1 ≤ s.mo ∧ s.mo ≤ 12) → (1 ≤ s.y ∧ s.y ≤ 9999) → Msk r s → (fixGo r n s).fin = false →
    (1 ≤ (fixGo r n s).d ∧ (fixGo r n s).d ≤ Cal.mdays (fixGo r n s).mo (fixGo r n s).y) ∧ (1 ≤ (fixGo r n s).mo ∧ (fixGo r n s).mo ≤ 12) ∧ (1 ≤ (fixGo r n s).y ∧ (fixGo r n s).y ≤ 9999) ∧ (fixGo r n s).ly = (fixGo r n s).y ∧ (fixGo r n s).lm = (fixGo r n s).mo ∧ Msk r (fixGo r n s) ∧ Rest s (fixGo r n s)
  | 0, s, h1, h2, _, _, _, _ => by omega
  | n + 1, s, h1, h2, hm, hy, hk, hf => by
    have hmd := Cal.mdays_bd s.mo s.y
    unfold fixGo at hf ⊢
    by_cases hd : s.d ≤ Cal.mdays s.mo s.y
    · rw [if_pos hd] at hf ⊢
      exact ⟨⟨h1, hd⟩, hm, hy, rfl, rfl, reb_msk hk _ _, ⟨rfl, rfl, rfl, rfl, rfl, rfl, rfl, rfl⟩⟩
    · rw [if_neg hd] at hf ⊢
      by_cases h13 : s.mo + 1 = 13
      · rw [if_pos h13] at hf ⊢
        by_cases hb : 9999 < s.y + 1
        · rw [if_pos hb] at hf; cases hf
        · rw [if_neg hb] at hf ⊢
          obtain ⟨a1, a2, a3, a4, a5, a6, a7⟩ := fixGo_ok (r := r) n { s with d := s.d - Cal.mdays s.mo s.y, mo := 1, y := s.y + 1 } (by simp only; omega) (by simp only; omega) (by simp only; omega) (by simp only; omega) ⟨hk.wno, hk.nwm, hk.eas⟩ hf
          exact ⟨a1, a2, a3, a4, a5, a6, ⟨a7.h, a7.mi, a7.sec, a7.wd, a7.ts, a7.total, a7.count, a7.rem⟩⟩
      · rw [if_neg h13] at hf ⊢
        obtain ⟨a1, a2, a3, a4, a5, a6, a7⟩ := fixGo_ok (r := r) n { s with d := s.d - Cal.mdays s.mo s.y, mo := s.mo + 1 } (by simp only; omega) (by simp only; omega) (by simp only; omega) hy ⟨hk.wno, hk.nwm, hk.eas⟩ hf
        exact ⟨a1, a2, a3, a4, a5, a6, ⟨a7.h, a7.mi, a7.sec, a7.wd, a7.ts, a7.total, a7.count, a7.rem⟩⟩
/-- The days of a month that are past its end are put right; where nothing was to be done, the tables stand. -/
theorem fix_ok {r : Ru} {s : It} (h1 : 1 ≤ s.d) (hm : 1 ≤ s.mo ∧ s.mo ≤ 12) (hy : 1 ≤ s.y ∧ s.y ≤ 9999) (hly : s.ly = s.y) (hk : Msk r s) (hf : (fix r s).fin = false) :
    (1 ≤ (fix r s).d ∧ (fix r s).d ≤ Cal.mdays (fix r s).mo (fix r s).y) ∧ (1 ≤ (fix r s).mo ∧ (fix r s).mo ≤ 12) ∧ (1 ≤ (fix r s).y ∧ (fix r s).y ≤ 9999) ∧ (fix r s).ly = (fix r s).y ∧ Msk r (fix r s) ∧ Rest s (fix r s) := by
  have hmd := Cal.mdays_bd s.mo s.y
  unfold fix at hf ⊢
  split at hf
  · rename_i h
    rw [if_pos h]
    exact ⟨⟨h1, by omega⟩, hm, hy, hly, hk, Rest.refl s⟩
  · rename_i h
    rw [if_neg h]
    obtain ⟨a1, a2, a3, a4, a5, a6, a7⟩ := fixGo_ok (r := r) s.d.toNat s h1 (by omega) hm hy hk hf
    exact ⟨a1, a2, a3, a4, a6, a7⟩
theorem pres_plain {r : Ru} (hr : RuOk r) (hp : Plain r) : Pres r := by
  intro s hk hrem hfin hf
  have ho := out_ok hk hrem
  have hof : (out r s).fin = false := by
    cases h : (out r s).fin with
    | false => rfl
    | true => rw [round_out h, h] at hf; cases hf
  rw [round_adv hof] at hf ⊢
  have hiv := hr.interval
  have hwk := hr.wkst
  have hmk : Msk r (out r s) := ⟨ho.wno, ho.nwm, ho.eas⟩
  have hy := ho.y
  have hd := ho.d
  have hwd := ho.wd
  have fixed : ∀ s2 : It, (1 ≤ s2.d) → s2.mo = (out r s).mo → s2.y = (out r s).y → s2.ly = (out r s).ly → s2.lm = (out r s).lm → s2.wno = (out r s).wno → s2.nwm = (out r s).nwm → s2.eas = (out r s).eas → (0 ≤ s2.wd ∧ s2.wd ≤ 6) → s2.h = (out r s).h → s2.mi = (out r s).mi → s2.s = (out r s).s → s2.ts = (out r s).ts → s2.total = (out r s).total → s2.count = (out r s).count → s2.rem = (out r s).rem → r.freq ≠ 1 → (fix r s2).fin = false → ItOk r (fix r s2) := by
    intro s2 h1 e1 e2 e3 e4 e5 e6 e7 e8 e9 e10 e11 e12 e13 e14 e15 e16 hf2
    obtain ⟨a1, a2, a3, a4, a5, a6⟩ := fix_ok (r := r) (s := s2) h1 (by rw [e1]; exact ho.mo) (by rw [e2]; exact ho.y) (by rw [e3, e2]; exact ho.ly) ⟨by rw [e5, e3]; exact ho.wno, by rw [e6, e3, e4]; exact ho.nwm, by rw [e7, e3]; exact ho.eas⟩ hf2
    have hmd := Cal.mdays_bd (fix r s2).mo (fix r s2).y
    exact ⟨a3, a4, a2, ⟨a1.1, by omega⟩, fun _ => a1.2, by rw [a6.wd]; exact e8, by rw [a6.h, e9]; exact ho.hr, by rw [a6.mi, e10]; exact ho.mn, by rw [a6.sec, e11]; exact ho.sec, by rw [a6.ts, e12]; exact ho.ts, by rw [a6.ts, e12]; exact ho.tsn, by rw [a6.total, a6.rem, e13, e15]; exact ho.total, by rw [a6.count, e14]; exact ho.count, a5.wno, a5.nwm, a5.eas, fun h => absurd h e16⟩
  unfold adv at hf ⊢
  rcases hp.freq with hq | hq | hq
  · rw [if_pos hq] at hf ⊢
    by_cases hb : 9999 < (out r s).y + r.interval
    · rw [if_pos hb] at hf; cases hf
    · rw [if_neg hb] at hf ⊢
      have hm := reb_msk (s := { out r s with y := (out r s).y + r.interval }) ⟨hmk.wno, hmk.nwm, hmk.eas⟩ ((out r s).y + r.interval) (out r s).mo
      exact ⟨by show 1 ≤ (out r s).y + r.interval ∧ (out r s).y + r.interval ≤ 9999; omega, rfl, ho.mo, ho.d, fun h => by omega, ho.wd, ho.hr, ho.mn, ho.sec, ho.ts, ho.tsn, ho.total, ho.count, hm.wno, hm.nwm, hm.eas, fun h => by omega⟩
  · rw [if_neg (by omega), if_neg (by omega), if_pos hq] at hf ⊢
    refine fixed _ ?_ rfl rfl rfl rfl rfl rfl rfl hwk rfl rfl rfl rfl rfl rfl rfl (by omega) hf
    simp only
    split <;> omega
  · rw [if_neg (by omega), if_neg (by omega), if_neg (by omega), if_pos hq] at hf ⊢
    exact fixed _ (by simp only; omega) rfl rfl rfl rfl rfl rfl rfl ho.wd rfl rfl rfl rfl rfl rfl rfl (by omega) hf
theorem Gen.mono {r : Ru} {n : Nat} {s e : It} (h : Gen r n s e) : ∀ {m : Nat}, n ≤ m → Gen r m s e := by
  induction h with
  | done h => intro m _; exact .done h
  | fin h hf =>
    intro m hm
    obtain ⟨j, rfl⟩ : ∃ j, m = j + 1 := ⟨m - 1, by omega⟩
    exact .fin h hf
  | more h hf _ ih =>
    intro m hm
    obtain ⟨j, rfl⟩ : ∃ j, m = j + 1 := ⟨m - 1, by omega⟩
    exact .more h hf (ih (by omega))
theorem GenTo.mono {r : Ru} {n m : Nat} {s e : It} (h : GenTo r n s e) (hm : n ≤ m) : GenTo r m s e := by
  rcases h with h | ⟨h1, h2, h3⟩
  · exact .inl h
  · exact .inr ⟨h1, Gen.mono h2 hm, h3⟩
end Go.Proofs.YtfcklceejjmjeaaGreat
