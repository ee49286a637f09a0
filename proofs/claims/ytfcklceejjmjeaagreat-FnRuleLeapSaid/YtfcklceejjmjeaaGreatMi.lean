/-
  The 29th of February, year by year.
-/
import Derived.Test.YtfcklceejjmjeaaGreatMh
set_option linter.unusedVariables false
set_option maxRecDepth 100000
namespace Go.Proofs.YtfcklceejjmjeaaGreat
open Go.Md Go.Tab Go.Fr
def leapRu (D step : Int) : Ru := ⟨0, step, 0, D * 86400, D * 86400 + 9223372036, 854775807, [], [2], [29], [], [], [], [], [], [0], [0], [0], [], wN, nN, wN⟩
def stL (W k T : Int) (l : List Int) : It := ⟨k, 2, 29, 0, 0, 0, W, k, 2, [], [], [], [0], T, 0, l, false⟩
theorem leap_ru {D step : Int} (hm : Cal.monthOf D = 2) (hd : Cal.mdayOf D = 29) : RuB 0 (D * 86400) step = leapRu D step := by
  have e1 : D * 86400 / 86400 = D := by omega
  have e2 : D * 86400 % 86400 = 0 := by omega
  have h1 : month' (optOf (bare 0 (D * 86400) step)) = [2] := by
    unfold month'
    rw [if_pos (show noDays (optOf (bare 0 (D * 86400) step)) = true ∧ (optOf (bare 0 (D * 86400) step)).freq = 0 ∧ (optOf (bare 0 (D * 86400) step)).month.length = 0 from ⟨rfl, rfl, rfl⟩)]
    show [Cal.monthOf (D * 86400 / 86400)] = _
    rw [e1, hm]
  have h2 : mday' (optOf (bare 0 (D * 86400) step)) = [29] := by
    unfold mday'
    rw [if_pos (show noDays (optOf (bare 0 (D * 86400) step)) = true ∧ ((optOf (bare 0 (D * 86400) step)).freq = 0 ∨ (optOf (bare 0 (D * 86400) step)).freq = 1) from ⟨rfl, .inl rfl⟩)]
    show [Cal.mdayOf (D * 86400 / 86400)] = _
    rw [e1, hd]
  have h3 : wday' (optOf (bare 0 (D * 86400) step)) = [] := by
    unfold wday'
    rw [if_neg (fun h => absurd h.2 (by show ¬ (0 : Int) = 2; decide))]; rfl
  have h4 : hour' (optOf (bare 0 (D * 86400) step)) = [0] := by
    unfold hour'
    rw [if_pos (show (optOf (bare 0 (D * 86400) step)).hour.length = 0 from rfl), if_pos (show (optOf (bare 0 (D * 86400) step)).freq < 4 from by show (0 : Int) < 4; decide)]
    show [D * 86400 % 86400 / 3600] = _
    rw [e2]; rfl
  have h5 : minute' (optOf (bare 0 (D * 86400) step)) = [0] := by
    unfold minute'
    rw [if_pos (show (optOf (bare 0 (D * 86400) step)).minute.length = 0 from rfl), if_pos (show (optOf (bare 0 (D * 86400) step)).freq < 5 from by show (0 : Int) < 5; decide)]
    show [D * 86400 % 86400 / 60 % 60] = _
    rw [e2]; rfl
  have h6 : second' (optOf (bare 0 (D * 86400) step)) = [0] := by
    unfold second'
    rw [if_pos (show (optOf (bare 0 (D * 86400) step)).second.length = 0 from rfl), if_pos (show (optOf (bare 0 (D * 86400) step)).freq < 6 from by show (0 : Int) < 6; decide)]
    show [D * 86400 % 86400 % 60] = _
    rw [e2]; rfl
  unfold RuB ruOf
  rw [h1, h2, h3, h4, h5, h6]
  rfl
theorem leap_it {D y step : Int} (hy : Cal.yearOf D = y) (hm : Cal.monthOf D = 2) (hd : Cal.mdayOf D = 29) : it0 (optOf (bare 0 (D * 86400) step)) (RuB 0 (D * 86400) step) = stL (((D + 1) % 7 + 6) % 7) y 0 [] := by
  have e1 : D * 86400 / 86400 = D := by omega
  have e2 : D * 86400 % 86400 = 0 := by omega
  have ht : tset (optOf (bare 0 (D * 86400) step)) = [0] := by
    have hr := leap_ru (step := step) hm hd
    have h4 : hour' (optOf (bare 0 (D * 86400) step)) = [0] := congrArg Ru.hour hr
    have h5 : minute' (optOf (bare 0 (D * 86400) step)) = [0] := congrArg Ru.minute hr
    have h6 : second' (optOf (bare 0 (D * 86400) step)) = [0] := congrArg Ru.second hr
    unfold tset raw
    rw [if_pos (show (optOf (bare 0 (D * 86400) step)).freq < 4 from by show (0 : Int) < 4; decide), h4, h5, h6]
    exact sort1 0
  unfold it0
  rw [ht]
  show It.mk (Cal.yearOf (D * 86400 / 86400)) (Cal.monthOf (D * 86400 / 86400)) (Cal.mdayOf (D * 86400 / 86400)) (D * 86400 % 86400 / 3600) (D * 86400 % 86400 / 60 % 60) (D * 86400 % 86400 % 60) (((D * 86400 / 86400 + 1) % 7 + 6) % 7) (Cal.yearOf (D * 86400 / 86400)) (Cal.monthOf (D * 86400 / 86400)) [] [] [] [0] 0 0 [] false = _
  rw [e1, e2, hy, hm, hd]
  rfl
theorem tab366 : (List.range 366).all (fun j => ((!(2 == mm366.getD j 0)) || (!(29 == md366.getD j 0))) == !(j == 59)) = true := by kernel_rfl
theorem tab365 : (List.range 365).all (fun j => ((!(2 == mm365.getD j 0)) || (!(29 == md365.getD j 0))) == true) = true := by kernel_rfl
theorem leap_bad {D step W k T : Int} {l : List Int} {j : Nat} (hj : (j : Int) < 365 + Cal.lp k) : bad (leapRu D step) (stL W k T l) (0 + j) = !(Cal.leapB k && (j == 59)) := by
  have e : bad (leapRu D step) (stL W k T l) (0 + j) = ((!(2 == (mmY k).getD j 0)) || (!(29 == (mdY k).getD j 0))) := by
    unfold bad badA badB badC badD badE badF badG leapRu stL
    simp
  rw [e]
  unfold mmY mdY Cal.lp at *
  cases hl : Cal.leapB k with
  | true =>
    rw [hl] at hj
    simp only [if_true] at hj ⊢
    have := List.all_eq_true.1 tab366 j (List.mem_range.2 (by omega))
    simpa using beq_iff_eq.1 this
  | false =>
    rw [hl] at hj
    simp only [if_false, Bool.false_eq_true] at hj ⊢
    have := List.all_eq_true.1 tab365 j (List.mem_range.2 (by omega))
    simpa using beq_iff_eq.1 this
theorem outTo_bad {r : Ru} {s : It} {a : Int} : ∀ {k : Nat}, (∀ j, j < k → bad r s (a + (j : Int)) = true) → outTo r s a k = s
  | 0, _ => rfl
  | k + 1, h => by
    rw [outTo_succ, outTo_bad (k := k) (fun j hj => h j (by omega))]
    unfold outDay
    rw [if_pos (h k (by omega))]
theorem outTo_rest {r : Ru} {s : It} {a : Int} {m : Nat} : ∀ {k : Nat}, m ≤ k → (∀ j, m ≤ j → j < k → bad r s (a + (j : Int)) = true) → outTo r s a k = outTo r s a m
  | 0, hm, _ => by obtain rfl : m = 0 := by omega
                   rfl
  | k + 1, hm, h => by
    rcases Nat.lt_or_ge m (k + 1) with h' | h'
    · rw [outTo_succ, outTo_rest (k := k) (by omega) (fun j h1 h2 => h j h1 (by omega))]
      unfold outDay
      rw [if_pos (by rw [Same.bad (outTo_same r s a m)]; exact h k (by omega) (by omega))]
    · obtain rfl : m = k + 1 := by omega
      rfl
theorem leap_span {D step W k T : Int} {l : List Int} : span (leapRu D step) (stL W k T l) = (0, 365 + Cal.lp k) := rfl
theorem leap_out {D step W k T : Int} (h0 : D ≤ Cal.daysTo k + 59) (h1 : (Cal.daysTo k + 59) * 86400 ≤ D * 86400 + 9223372036) : out (leapRu D step) (stL W k T []) = if Cal.leapB k then stL W k (T + 1) [(Cal.daysTo k + 59) * 86400] else stL W k T [] := by
  rw [out_outTo _ _ (.inl rfl), outDays_outTo, leap_span]
  have hlp := Cal.lp_01 k
  have hn : ((365 + Cal.lp k - 0).toNat : Int) = 365 + Cal.lp k := by omega
  cases hl : Cal.leapB k with
  | false =>
    rw [if_neg (by decide)]
    exact outTo_bad fun j hj => by rw [leap_bad (by simp only at hj; omega), hl]; rfl
  | true =>
    rw [if_pos rfl]
    have e1 : Cal.lp k = 1 := by unfold Cal.lp; rw [hl]; rfl
    have h60 : outTo (leapRu D step) (stL W k T []) 0 60 = stL W k (T + 1) [(Cal.daysTo k + 59) * 86400] := by
      rw [outTo_succ, outTo_bad (k := 59) (fun j hj => by rw [leap_bad (by omega), hl]; simp; omega)]
      unfold outDay
      rw [if_neg (by rw [leap_bad (j := 59) (by omega), hl]; decide)]
      show emits _ _ (cand [0] k (0 + 59)) = _
      have ec : cand [0] k (0 + 59) = [(Cal.daysTo k + 59) * 86400] := by unfold cand; simp
      rw [ec]
      show emit (leapRu D step) (stL W k T []) ((Cal.daysTo k + 59) * 86400) = _
      rw [emit_free rfl (by show ¬ D * 86400 + 9223372036 < _; omega) (by show ¬ _ < D * 86400; omega) rfl]
      rfl
    rw [← h60]
    exact outTo_rest (by simp only; omega) fun j h2 h3 => by
      rw [leap_bad (by simp only at h3; omega), hl]
      simp; omega
theorem leap_round {D step W k T : Int} (hs : 1 ≤ step ∧ k + step ≤ 9999) (h0 : D ≤ Cal.daysTo k + 59) (h1 : (Cal.daysTo k + 59) * 86400 ≤ D * 86400 + 9223372036) : round (leapRu D step) (stL W k T []) = if Cal.leapB k then stL W (k + step) (T + 1) [(Cal.daysTo k + 59) * 86400] else stL W (k + step) T [] := by
  have ho := leap_out (step := step) (W := W) (T := T) h0 h1
  have key : ∀ (T' : Int) (l : List Int) (b : Bool), adv (leapRu D step) b (stL W k T' l) = stL W (k + step) T' l := by
    intro T' l b
    unfold adv
    rw [if_pos (show (leapRu D step).freq = 0 from rfl), if_neg (show ¬ 9999 < (stL W k T' l).y + (leapRu D step).interval from by show ¬ 9999 < k + step; omega)]
    unfold reb stL leapRu
    simp
  cases hl : Cal.leapB k with
  | true =>
    rw [hl, if_pos rfl] at ho
    rw [if_pos rfl, round_adv (by rw [ho]; rfl), ho, key]
  | false =>
    rw [hl, if_neg (by decide)] at ho
    rw [if_neg (by decide), round_adv (by rw [ho]; rfl), ho, key]
theorem stL_ok {D step W k T : Int} (hk : 1 ≤ k ∧ k ≤ 9999) (hT : 0 ≤ T ∧ T ≤ 1000) (hW : 0 ≤ W ∧ W ≤ 6) : ItOk (leapRu D step) (stL W k T []) where
  y := hk
  ly := rfl
  mo := by show (1 : Int) ≤ 2 ∧ (2 : Int) ≤ 12; decide
  d := by show (1 : Int) ≤ 29 ∧ (29 : Int) ≤ 31; decide
  day := fun h => absurd h (by show ¬ (2 : Int) ≤ 0; decide)
  wd := hW
  hr := by show (0 : Int) ≤ 0 ∧ (0 : Int) ≤ 23; decide
  mn := by show (0 : Int) ≤ 0 ∧ (0 : Int) ≤ 59; decide
  sec := by show (0 : Int) ≤ 0 ∧ (0 : Int) ≤ 59; decide
  ts := fun t h => by simp [stL] at h; omega
  tsn := by show (1 : Nat) ≤ 100000; decide
  total := by show 0 ≤ T ∧ T ≤ 1000000000000 + ((0 : Nat) : Int); omega
  count := by show (0 : Int) ≤ 0 ∧ (0 : Int) ≤ 9223372036854775807; decide
  wno := rfl
  nwm := rfl
  eas := rfl
  lm := fun _ => rfl
/-- The leap years from k on, by steps, ahead of a year, so many. -/
def wantF (step hi : Int) : Nat → Int → Nat → List Int
  | 0, _, _ => []
  | f + 1, k, n => if n = 0 ∨ hi ≤ k then [] else if Cal.leapB k then (Cal.daysTo k + 59) * 86400 :: wantF step hi f (k + step) (n - 1) else wantF step hi f (k + step) n
theorem wantF_len (step hi : Int) : ∀ (f : Nat) (k : Int) (n : Nat), (wantF step hi f k n).length ≤ n
  | 0, _, _ => Nat.zero_le _
  | f + 1, k, n => by
    unfold wantF
    split
    · exact Nat.zero_le _
    · split
      · have := wantF_len step hi f (k + step) (n - 1)
        simp only [List.length_cons]; omega
      · exact wantF_len step hi f (k + step) n
theorem Tells.mono {r : Ru} {N : Nat} {s : It} {k : Nat} {l : List Int} (h : Tells r N s k l) {M : Nat} (hm : N ≤ M) : Tells r M s k l := by
  induction h with
  | zero => exact .zero
  | stop h hr => exact .stop (h.mono hm) hr
  | more h hr _ ih => exact .more (h.mono hm) hr ih
theorem leap_tells {D step W y : Int} (hD : D = Cal.daysTo y + 59) (hy : 1 ≤ y ∧ y ≤ 8100) (hs : 1 ≤ step ∧ step ≤ 1000) (hW : 0 ≤ W ∧ W ≤ 6) : ∀ (f : Nat) (k T : Int) (n : Nat), y ≤ k → (0 ≤ T ∧ T + n ≤ 1000) →
    Tells (leapRu D step) f (stL W k T []) (wantF step (y + 290) f k n).length (wantF step (y + 290) f k n)
  | 0, k, T, n, _, _ => .zero
  | f + 1, k, T, n, hk, hT => by
    unfold wantF
    by_cases h0 : n = 0 ∨ y + 290 ≤ k
    · rw [if_pos h0]; exact .zero
    · rw [if_neg h0]
      have hb : D ≤ Cal.daysTo k + 59 ∧ (Cal.daysTo k + 59) * 86400 ≤ D * 86400 + 9223372036 := by
        have h1 := Cal.daysTo_mono hk
        have h2 : Cal.daysTo k ≤ Cal.daysTo y + 290 * 365 + 73 := by unfold Cal.daysTo; omega
        omega
      have hr := leap_round (W := W) (T := T) (step := step) (k := k) ⟨hs.1, by omega⟩ hb.1 hb.2
      have hok := stL_ok (D := D) (step := step) (W := W) (k := k) (T := T) (by omega) (by omega) hW
      by_cases hl : Cal.leapB k = true
      · rw [if_pos hl]
        rw [hl, if_pos rfl] at hr
        have ih := leap_tells hD hy hs hW f (k + step) (T + 1) (n - 1) (by omega) (by omega)
        refine .more (e := stL W (k + step) (T + 1) [(Cal.daysTo k + 59) * 86400]) (.inr ⟨rfl, ?_, hok⟩) rfl (ih.mono (Nat.le_succ f))
        have := Gen.more (r := leapRu D step) (n := f) (it := stL W k T []) (it' := round (leapRu D step) (stL W k T [])) rfl (by rw [hr]; rfl) (.done (by rw [hr]; exact List.cons_ne_nil _ _))
        rw [hr] at this
        exact this
      · have hl' : Cal.leapB k = false := by simpa using hl
        rw [if_neg hl]
        rw [hl', if_neg (by decide)] at hr
        have ih := leap_tells hD hy hs hW f (k + step) T n (by omega) hT
        generalize wantF step (y + 290) f (k + step) n = L at *
        generalize hm : L.length = m at *
        cases ih with
        | zero => exact .zero
        | stop h hre => simp at hm
        | more h hre ht =>
          refine .more ?_ hre (ht.mono (Nat.le_succ f))
          rcases h with ⟨hf, _⟩ | ⟨hf, hg, hi⟩
          · cases hf
          · refine .inr ⟨rfl, ?_, hok⟩
            have := Gen.more (r := leapRu D step) (n := f) (it := stL W k T []) rfl (by rw [hr]; rfl) (by rw [hr]; exact hg)
            exact this
theorem feb29 {y : Int} (hl : Cal.leapB y = true) : Cal.yearOf (Cal.daysTo y + 59) = y ∧ Cal.monthOf (Cal.daysTo y + 59) = 2 ∧ Cal.mdayOf (Cal.daysTo y + 59) = 29 := by
  have e : Cal.lp y = 1 := by unfold Cal.lp; rw [hl]; rfl
  have c1 : Cal.cum y 1 = 31 := rfl
  have c2 : Cal.cum y 2 = 60 := by
    show 0 + Cal.mdays 1 y + Cal.mdays 2 y = 60
    unfold Cal.mdays; simp [e]
  have := Cal.date_unique (y := y) (D := 59) (j := 1) (by decide) (by omega) (by show 59 < Cal.cum y 2; omega)
  exact ⟨this.1, this.2.2.1, by rw [this.2.2.2]; omega⟩
end Go.Proofs.YtfcklceejjmjeaaGreat
