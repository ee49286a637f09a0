/-
  A rule without parts: its numbers are in their ranges; the 29th of February, year by year; three days in a row.
-/
import Derived.Test.YtfcklceejjmjeaaGreatMg
import Derived.Test.YtfcklceejjmjeaaGreatSpec
set_option linter.unusedVariables false
set_option maxRecDepth 100000
namespace Go.Proofs.YtfcklceejjmjeaaGreat
open Go.Md Go.Tab Go.Fr
def bare (f st iv : Int) : Rul := ⟨f, true, st, iv, 0, 0, false, 0, [], [], [], [], [], [], [], [], [], []⟩
def xN : Av := ⟨none, none, none, none, none, none, none, none, none, none, 0, 0, 0, 0, 0, 0, 0, 0, 0, 0, none, none, none, none, none, none, none, none, none, none, none, 0, 0, 0, 0, 0, 0, 0, 0, 0, 0, 0⟩
abbrev wN : Int → List Int := fun _ => []
abbrev nN : Int → Int → List Int := fun _ _ => []
abbrev RuB (f st iv : Int) : Ru := ruOf (optOf (bare f st iv)) wN nN wN
section
variable {f st iv : Int}
theorem bare_rk (hf : 0 ≤ f ∧ f ≤ 6) : RulOk (bare f st iv) := ⟨by show 0 ≤ f ∧ f ≤ 255; omega, rfl, Nat.zero_le _⟩
theorem bare_ok (hf : 0 ≤ f ∧ f ≤ 6) (hs : 1 ≤ st ∧ st ≤ 400000000000) (hi : 1 ≤ iv ∧ iv ≤ 1000) : OpOk (optOf (bare f st iv)) where
  freq := hf
  d := hs
  interval := hi
  count := ⟨Int.le_refl _, by show (0 : Int) ≤ _; decide⟩
  u := ⟨Int.le_refl _, by show (0 : Int) ≤ _; decide⟩
  mday := Nat.zero_le _
  wday := Nat.zero_le _
  hour := Nat.zero_le _
  minute := Nat.zero_le _
  second := Nat.zero_le _
  hours := fun x h => absurd h (by show x ∉ ([] : List Int); simp)
  minutes := fun x h => absurd h (by show x ∉ ([] : List Int); simp)
  seconds := fun x h => absurd h (by show x ∉ ([] : List Int); simp)
theorem bare_vbL (i : Nat) : vbL (optOf (bare f st iv)) i = [] := by
  unfold vbL
  split <;> rfl
theorem bare_vk (hi : 1 ≤ iv) : VbOk (optOf (bare f st iv)) where
  nums := fun i _ y h => by rw [bare_vbL] at h; simp at h
  days := fun y h => absurd h (by show y ∉ ([] : List (Int × Int)); simp)
  interval := by show 0 ≤ iv; omega
  lens := fun i _ => by rw [bare_vbL]; exact Nat.zero_le _
  wlen := Nat.zero_le _
theorem bare_mon : (month' (optOf (bare f st iv))).length ≤ 1 := by unfold month'; split <;> simp [optOf, bare]
theorem bare_mda : (mday' (optOf (bare f st iv))).length ≤ 1 := by unfold mday'; split <;> simp [optOf, bare]
theorem bare_wda : (wday' (optOf (bare f st iv))).length ≤ 1 := by unfold wday'; split <;> simp [optOf, bare]
theorem bare_hou : (hour' (optOf (bare f st iv))).length ≤ 1 := by unfold hour'; split; split; all_goals simp [optOf, bare]
theorem bare_min : (minute' (optOf (bare f st iv))).length ≤ 1 := by unfold minute'; split; split; all_goals simp [optOf, bare]
theorem bare_sec : (second' (optOf (bare f st iv))).length ≤ 1 := by unfold second'; split; split; all_goals simp [optOf, bare]
theorem bare_len : RuLen (RuB f st iv) where
  l46 := Nat.zero_le _
  l47 := Nat.le_trans bare_mon (by decide)
  l48 := Nat.le_trans (List.length_filter_le _ _) (Nat.le_trans bare_mda (by decide))
  l49 := Nat.le_trans (List.length_filter_le _ _) (Nat.le_trans bare_mda (by decide))
  l50 := Nat.zero_le _
  l51 := Nat.zero_le _
  l52 := by show (List.map _ _).length ≤ _; rw [List.length_map]; exact Nat.le_trans (List.length_filter_le _ _) (Nat.le_trans bare_wda (by decide))
  l54 := Nat.le_trans bare_hou (by decide)
  l55 := Nat.le_trans bare_min (by decide)
  l56 := Nat.le_trans bare_sec (by decide)
  l57 := Nat.zero_le _
theorem bare_nwd : (RuB f st iv).nwd.length = 0 := by
  show ((wday' (optOf (bare f st iv))).filter fun x => !plainW f x).length = 0
  unfold wday'
  split
  · simp [plainW]
  · rfl
theorem bare_hr (hf : 0 ≤ f ∧ f ≤ 6) (hs : 1 ≤ st ∧ st ≤ 400000000000) (hi : 1 ≤ iv ∧ iv ≤ 1000) : RuOk (RuB f st iv) where
  freq := hf
  interval := hi
  wkst := ⟨Int.le_refl _, by show (0 : Int) ≤ 6; decide⟩
  until0 := fun h => absurd h.2 (by show ¬ (854775807 : Int) = 0; decide)
  until1 := by show (0 : Int) ≤ 854775807; decide
  hour := mem_hour' (bare_ok hf hs hi)
  minute := mem_minute' (bare_ok hf hs hi)
  second := mem_second' (bare_ok hf hs hi)
  wnoF := fun h => absurd rfl h
  nwmF := fun h => absurd bare_nwd h
  easF := fun h => absurd rfl h
  wnoF0 := fun _ _ => rfl
  nwmF0 := fun _ _ _ => rfl
  easF0 := fun _ _ => rfl
  nwd := fun _ => bare_nwd
theorem bare_hp (hf : f = 0 ∨ f = 2 ∨ f = 3) : Plain (RuB f st iv) := ⟨hf, rfl, rfl, bare_nwd, rfl⟩
theorem bare_raw : (raw (optOf (bare f st iv))).length ≤ 1 := by
  unfold raw
  have h1 := @bare_hou f st iv
  have h2 := @bare_min f st iv
  have h3 := @bare_sec f st iv
  generalize hour' (optOf (bare f st iv)) = hs at *
  generalize minute' (optOf (bare f st iv)) = ms at *
  generalize second' (optOf (bare f st iv)) = ss at *
  match hs, h1 with
  | [], _ => simp
  | [h], _ =>
    match ms, h2 with
    | [], _ => simp
    | [m], _ => simpa using h3
theorem bare_in (w : World) : InL w (bare f st iv) xN := ⟨Ints.nil, Ints.nil, Ints.nil, Ints.nil, Ints.nil, ⟨none, 0, rfl, fun i x h => by simp [bare] at h⟩, Ints.nil, Ints.nil, Ints.nil, Ints.nil⟩
/-- The first dates of a rule without parts. -/
theorem bare_first (hf : f = 0 ∨ f = 2 ∨ f = 3) (hs : 1 ≤ st ∧ st < 315537897600) (hi : 1 ≤ iv ∧ iv ≤ 1000) {most N : Nat} (hm : most ≤ 1000000) {l : List Int} (hT : Tells (RuB f st iv) N (it0 (optOf (bare f st iv)) (RuB f st iv)) most l) (w : World) :
    Calls Go.Proofs.Tryz.prog 6 #[.agg (rulC (bare f st iv) xN).toArray, .int .i64 most] w fun e w' => ∃ p c, e = .returned (.tuple #[.slice p l.length c, .bool true]) ∧ NewRow w w' (.slice p l.length c) 2 1 l.length (l.map (.int .i64)) :=
  first_calls (x := xN) (bare_ok (by omega) (by omega) hi) (by show f < 4; omega) rfl bare_nwd rfl (fun _ => rfl) (fun _ _ => rfl) (fun _ => rfl) bare_len (bare_rk (by omega)) (bare_vk hi.1) hs.2 (fun F w0 => sort_one bare_raw F w0) (bare_hr (by omega) (by omega) hi) (bare_hp hf) (pres_plain (bare_hr (by omega) (by omega) hi) (bare_hp hf)) hm hT w (bare_in w)
end
/-! ### Three days in a row -/
theorem sort1 (x : Int) : sortI [x] = [x] := by unfold sortI; simp
abbrev RA : Ru := RuB 3 86400 1
def dayS (d T : Int) (l : List Int) : It := ⟨1, 1, d, 0, 0, 0, 1, 1, 1, [], [], [], [0], T, 0, l, false⟩
theorem awk0 : it0 (optOf (bare 3 86400 1)) RA = dayS 2 0 [] := by
  have h : tset (optOf (bare 3 86400 1)) = [0] := by
    unfold tset
    rw [if_pos (by decide), show raw (optOf (bare 3 86400 1)) = [0] by decide, sort1]
  unfold it0
  rw [h]
  rfl
theorem day_round (d T : Int) (h : d = 2 ∨ d = 3 ∨ d = 4) : round RA (dayS d T []) = dayS (d + 1) (T + 1) [(d - 1) * 86400] := by
  rcases h with rfl | rfl | rfl <;> rfl
theorem dayS_ok (d T : Int) (h : d = 2 ∨ d = 3 ∨ d = 4) (hT : 0 ≤ T ∧ T ≤ 10) : ItOk RA (dayS d T []) where
  y := by show (1 : Int) ≤ 1 ∧ (1 : Int) ≤ 9999; decide
  ly := rfl
  mo := by show (1 : Int) ≤ 1 ∧ (1 : Int) ≤ 12; decide
  d := by show 1 ≤ d ∧ d ≤ 31; omega
  day := fun _ => by show d ≤ Cal.mdays 1 1; have : Cal.mdays 1 1 = 31 := by decide
                     omega
  wd := by show (0 : Int) ≤ 1 ∧ (1 : Int) ≤ 6; decide
  hr := by show (0 : Int) ≤ 0 ∧ (0 : Int) ≤ 23; decide
  mn := by show (0 : Int) ≤ 0 ∧ (0 : Int) ≤ 59; decide
  sec := by show (0 : Int) ≤ 0 ∧ (0 : Int) ≤ 59; decide
  ts := fun t h => by simp [dayS] at h; omega
  tsn := by show (1 : Nat) ≤ 100000; decide
  total := by show 0 ≤ T ∧ T ≤ 1000000000000 + ((0 : Nat) : Int); omega
  count := by show (0 : Int) ≤ 0 ∧ (0 : Int) ≤ 9223372036854775807; decide
  wno := rfl
  nwm := rfl
  eas := rfl
  lm := fun _ => rfl
theorem day_gen (d T : Int) (h : d = 2 ∨ d = 3 ∨ d = 4) (hT : 0 ≤ T ∧ T ≤ 10) : GenTo RA 1 (dayS d T []) (dayS (d + 1) (T + 1) [(d - 1) * 86400]) := by
  have e := day_round d T h
  refine .inr ⟨rfl, ?_, dayS_ok d T h hT⟩
  have := Gen.more (r := RA) (n := 0) (it := dayS d T []) (it' := round RA (dayS d T [])) rfl (by rw [e]; rfl) (.done (by rw [e]; exact List.cons_ne_nil _ _))
  rw [e] at this
  exact this
theorem awk_tells : Tells RA 1 (it0 (optOf (bare 3 86400 1)) RA) 3 [86400, 172800, 259200] := by
  rw [awk0]
  exact .more (day_gen 2 0 (by decide) (by decide)) rfl (.more (day_gen 3 1 (by decide) (by decide)) rfl (.more (day_gen 4 2 (by decide) (by decide)) rfl .zero))
end Go.Proofs.YtfcklceejjmjeaaGreat
