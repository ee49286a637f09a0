import Derived.Test.YtdbbifbmkfmbkaaGreatRaj
set_option linter.unusedVariables false
set_option linter.unusedSimpArgs false
set_option maxRecDepth 100000
set_option maxHeartbeats 8000000
namespace Go.Proofs.YtdbbifbmkfmbkaaGreat
open Go.Md Go.Tab Go.Fr
theorem jB {y m d : Int} (hm : 1 ≤ m ∧ m ≤ 12) : Cal.dayNo y m d = Cal.daysTo y + Cal.cum y (m - 1).toNat + d - 1 := by
 unfold Cal.dayNo
 rw [show (m - 1) / 12 = 0 by omega, show (m - 1) % 12 = m - 1 by omega, Int.add_zero]
theorem aFx {y m : Int} (hm : 1 ≤ m) : Cal.cum y m.toNat = Cal.cum y (m - 1).toNat + Cal.mdays m y := by
 obtain ⟨j, rfl⟩ : ∃ j : Nat, m = (j : Int) + 1 := ⟨(m - 1).toNat, by omega⟩
 rw [show ((j : Int) + 1 - 1).toNat = j by omega, show ((j : Int) + 1).toNat = j + 1 by omega]
 rfl
theorem aD3 {y m d : Int} (hm : 1 ≤ m ∧ m ≤ 11) : Cal.dayNo y (m + 1) (d - Cal.mdays m y) = Cal.dayNo y m d := by
 rw [jB oM, jB oM, show m + 1 - 1 = m by omega, aFx hm.1]; omega
theorem aFu {y d : Int} : Cal.dayNo (y + 1) 1 (d - Cal.mdays 12 y) = Cal.dayNo y 12 d := by
 rw [jB oM, jB oM]
 have h1 := Cal.cum_12 y
 have h2 : Cal.cum y 12 = Cal.cum y 11 + Cal.mdays 12 y := rfl
 have h3 := Cal.daysTo_succ y
 have h4 : Cal.cum (y + 1) 0 = 0 := rfl
 show Cal.daysTo (y + 1) + Cal.cum (y + 1) 0 + _ - 1 = Cal.daysTo y + Cal.cum y 11 + d - 1
 omega
theorem tU {y m d : Int} (hy : 1 ≤ y ∧ y ≤ 9999) (hm : 1 ≤ m ∧ m ≤ 12) (hd : 1 ≤ d ∧ d ≤ Cal.mdays m y) : 0 ≤ Cal.dayNo y m d ∧ Cal.dayNo y m d < 3652059 := by
 obtain ⟨e1, e2, e3, _⟩ := pL hm hd
 have hb := n5 hm hd
 have h1 := Cal.split_spec (Cal.dayNo y m d)
 rw [e2] at h1
 have h2 := Cal.daysTo_succ y
 have h3 := Cal.daysTo_mono (a := y + 1) (b := 10000) oM
 have h4 : Cal.daysTo 10000 = 3652059 := by decide
 have h5 := Cal.daysTo_mono (a := 1) (b := y) oM
 have h6 : Cal.daysTo 1 = 0 := by decide
 omega
theorem rC {r : Ru} : ∀ (n : Nat) (s : It), 1 ≤ s.d → s.d ≤ n → (1 ≤ s.mo ∧ s.mo ≤ 12) → (1 ≤ s.y ∧ s.y ≤ 9999) → s.fin = false →
  ((d9 r n s).fin = false → Cal.dayNo (d9 r n s).y (d9 r n s).mo (d9 r n s).d = Cal.dayNo s.y s.mo s.d) ∧ ((d9 r n s).fin = true → 3652059 ≤ Cal.dayNo s.y s.mo s.d)
 | 0, s, h1, h2, _, _, _ => by omega
 | n + 1, s, h1, h2, hm, hy, hf => by
  have hmd := Cal.mdays_bd s.mo s.y
  unfold d9
  by_cases hd : s.d ≤ Cal.mdays s.mo s.y
  ·rw [if_pos hd]
   exact ⟨fun _ => rfl, fun h => by rw [show (reb r s s.y s.mo).fin = s.fin from rfl, hf] at h; cases h⟩
  ·rw [if_neg hd]
   by_cases h13 : s.mo + 1 = 13
   ·have e12 : s.mo = 12 := by omega
    rw [if_pos h13]
    by_cases hb : 9999 < s.y + 1
    ·rw [if_pos hb]
     refine ⟨fun h => (by cases h), fun _ => ?_⟩
     have e9 : s.y = 9999 := by omega
     rw [e12, e9] at hd ⊢
     rw [jB oM]
     have h4 : Cal.daysTo 9999 = 3651694 := by decide
     have h5 : Cal.cum 9999 (12 - 1 : Int).toNat = 334 := by decide
     have h6 : Cal.mdays 12 9999 = 31 := by decide
     omega
    ·rw [if_neg hb]
     have ih := rC (r := r) n { s with d := s.d - Cal.mdays s.mo s.y, mo := 1, y := s.y + 1 } sO sO sO sO hf
     simp only at ih
     have e := aFu (y := s.y) (d := s.d)
     rw [← e12] at e
     rw [e] at ih
     exact ih
   ·rw [if_neg h13]
    have ih := rC (r := r) n { s with d := s.d - Cal.mdays s.mo s.y, mo := s.mo + 1 } sO sO sO hy hf
    simp only at ih
    rw [aD3 oM] at ih
    exact ih
theorem aBz {r : Ru} {s : It} (h1 : 1 ≤ s.d) (hm : 1 ≤ s.mo ∧ s.mo ≤ 12) (hy : 1 ≤ s.y ∧ s.y ≤ 9999) (hf : s.fin = false) :
  ((fix r s).fin = false → Cal.dayNo (fix r s).y (fix r s).mo (fix r s).d = Cal.dayNo s.y s.mo s.d) ∧ ((fix r s).fin = true → 3652059 ≤ Cal.dayNo s.y s.mo s.d) := by
 unfold fix
 split
 ·exact ⟨fun _ => rfl, fun h => by rw [hf] at h; cases h⟩
 ·exact rC _ s h1 oM hm hy hf
theorem o4 {r : Ru} : ∀ (n : Nat) (s : It), Rest s (d9 r n s)
 | 0, s => Rest.refl s
 | n + 1, s => by
  unfold d9
  split
  ·exact ⟨rfl, rfl, rfl, rfl, rfl, rfl, rfl, rfl⟩
  ·split
   ·split
    ·exact ⟨rfl, rfl, rfl, rfl, rfl, rfl, rfl, rfl⟩
    ·have a7 := o4 (r := r) n { s with d := s.d - Cal.mdays s.mo s.y, mo := 1, y := s.y + 1 }
     exact ⟨a7.h, a7.mi, a7.sec, a7.wd, a7.ts, a7.total, a7.count, a7.rem⟩
   ·have a7 := o4 (r := r) n { s with d := s.d - Cal.mdays s.mo s.y, mo := s.mo + 1 }
    exact ⟨a7.h, a7.mi, a7.sec, a7.wd, a7.ts, a7.total, a7.count, a7.rem⟩
theorem x6 {r : Ru} (s : It) : Rest s (fix r s) := by
 unfold fix
 split
 ·exact Rest.refl s
 ·exact o4 _ s
theorem s8 {q : Rul} (hf : 2 ≤ q.freq) (hi : 1 ≤ q.interval) (k : Int) (h : eK q k) : eK q (k + 1) := by
 rcases h with ⟨h, _⟩ | ⟨h, _⟩ | h
 ·omega
 ·omega
 ·refine .inr (.inr ?_)
  have e2 : 7 * (k + 1) * q.interval = 7 * k * q.interval + 7 * q.interval := by rw [Int.mul_add, Int.add_mul]; omega
  have e1 : (k + 1) * q.interval = k * q.interval + q.interval := by rw [Int.add_mul]; omega
  have e3 : (k * q.interval + q.interval) * UN q.freq = k * q.interval * UN q.freq + q.interval * UN q.freq := Int.add_mul ..
  have e4 : 0 ≤ q.interval * UN q.freq := Int.mul_nonneg oM (by unfold UN; split; omega; split <;> omega)
  unfold cF pAt at *
  rw [if_neg oM, if_neg oM] at h ⊢
  rw [e2, e1, e3]
  split
  ·rename_i h2; rw [if_pos h2] at h; omega
  ·rename_i h2
   rw [if_neg h2] at h
   split
   ·rename_i h3; rw [if_pos h3] at h; omega
   ·rename_i h3; rw [if_neg h3] at h; omega
theorem rU (a : Nat) : ∀ b, List.range (a + b) = List.range a ++ (List.range b).map (a + ·)
 | 0 => by simp
 | b + 1 => by rw [← Nat.add_assoc, List.range_succ, rU a b, List.range_succ, List.map_append, List.append_assoc]; rfl
theorem aC0 {r : Ru} {s : It} {q : Rul} {dayF : Int → Bool} {first : Int} {sh m : Nat} (hn : (aW r s).2 - (aW r s).1 = m) (hd : Cal.daysTo s.ly + (aW r s).1 = first + sh) (h0 : 0 ≤ first + sh) (hbad : ∀ j : Nat, j < m → bad r s ((aW r s).1 + j) = !dayF (Cal.daysTo s.ly + ((aW r s).1 + j)))
  (hts : s.ts = l6 q.hour q.minute q.second) (h1 : PartOk q.hour 24) (h2 : PartOk q.minute 60) (h3 : PartOk q.second 60) : ∃ L1, jL q dayF first (sh + m) = L1 ++ gQ r s ∧ (∀ t ∈ L1, t < (first + sh) * 86400) ∧ (sh = 0 → L1 = []) := by
 refine ⟨jL q dayF first sh, ?_, fun t ht => ?_, fun h => by rw [h]; rfl⟩
 ·unfold jL
  rw [rU, List.flatMap_append, List.flatMap_map, nU, hn, Int.toNat_natCast]
  congr 1
  unfold List.flatMap
  congr 1
  refine List.map_congr_left fun j hj => ?_
  have hj := List.mem_range.1 hj
  have e : first + ((sh + j : Nat) : Int) = Cal.daysTo s.ly + ((aW r s).1 + j) := by omega
  unfold iX
  rw [hbad j hj, e]
  cases hD : dayF (Cal.daysTo s.ly + ((aW r s).1 + j)) with
  | false => rw [if_neg (fun h => by cases h.2), if_pos (show (!false) = true from rfl)]
  | true =>
   rw [if_pos ⟨by omega, rfl⟩, if_neg dE, vT h1 h2 h3, ← hts]
   rfl
 ·unfold jL at ht
  obtain ⟨i, hi, ht⟩ := l4.1 ht
  unfold iX at ht
  split at ht
  ·have := kU.1 ht
   omega
  ·simp at ht
theorem sR (l : List Int) {at_ : List Int} (h : at_.length = 0) : dJ l at_ = l := by unfold dJ; rw [if_pos h]
theorem aBt {o : Opn} (h : o.freq < 4) : lW o = l6 (cL o) (bA o) (bI o) := by unfold lW; rw [if_pos h]; rfl
def R23 (r : Rul) (k : Int) (s : It) : Prop := s.ts = lW (aE r) ∧ Cal.dayNo s.y s.mo s.d = (if r.freq = 2 ∧ k = 0 then r.start / 86400 else cF (aZ r) k) ∧ (r.freq = 2 → s.wd = Cal.dayNo s.y s.mo s.d % 7)
theorem wN {r : Rul} (hf : r.freq = 2) (k : Int) : cF (aZ r) k = r.start / 86400 - (r.start / 86400 % 7 - r.wkst + 7) % 7 + 7 * (k * r.interval) := by
 obtain ⟨e1, e2, e3, e4, _⟩ := dG r
 unfold cF
 rw [e1, e2, e3, e4, if_neg oM, if_neg oM, if_pos hf, Int.mul_assoc]
theorem qV {r : Rul} (hf : r.freq = 3) (k : Int) : cF (aZ r) k = r.start / 86400 + k * r.interval := by
 obtain ⟨e1, e2, e3, e4, _⟩ := dG r
 unfold cF
 rw [e1, e2, e3, if_neg oM, if_neg oM, if_neg oM, if_pos hf]
theorem uE {r : Rul} (hf : 2 ≤ r.freq) (k : Int) : eK (aZ r) k ↔ 3652059 ≤ cF (aZ r) k := by
 obtain ⟨e1, e2, _⟩ := dG r
 unfold eK
 rw [e2]
 constructor
 ·rintro (⟨h, _⟩ | ⟨h, _⟩ | h)
  ·omega
  ·omega
  ·exact h
 ·exact fun h => .inr (.inr h)
theorem aD4 {r : Rul} {wF : Int → List Int} {nF : Int → Int → List Int} {eF : Int → List Int} (rp : RightP r) (hf : r.freq = 2 ∨ r.freq = 3) (hw : ∀ y m, nF y m = []) : Fits (bH (aE r) wF nF eF) (aZ r) (cW (aZ r)) (R23 r) where
 over := fun k _ h => s8 (by rw [(dG r).2.1]; omega) (by rw [(dG r).2.2.1]; exact rp.t1.interval.1) k h
 same := fun k s s' h hs => ⟨by rw [hs.ts]; exact h.1, by rw [hs.y, hs.mo, hs.d]; exact h.2.1, by rw [hs.wd, hs.y, hs.mo, hs.d]; exact h.2.2⟩
 pos := fun k s h0 hR hi ho => by
  obtain ⟨hts, hday, hwd⟩ := hR
  obtain ⟨e1, e2, e3, e4, e5, e6, _⟩ := dG r
  obtain ⟨_, _, _, f4, f5, f6⟩ := sM r
  obtain ⟨p1, p2, p3⟩ := m7 rp
  have hst := rp.t1.start
  have hwk := rp.t1.wkst
  have hfr : (bH (aE r) wF nF eF).freq = r.freq := rfl
  have hsp : (bH (aE r) wF nF eF).setpos = r.setpos := rfl
  have hts2 : s.ts = l6 (aZ r).hour (aZ r).minute (aZ r).second := by rw [hts, aBt (show r.freq < 4 by omega), f4, f5, f6]
  have P1 : PartOk (aZ r).hour 24 := by rw [f4]; exact p1 oM
  have P2 : PartOk (aZ r).minute 60 := by rw [f5]; exact p2 oM
  have P3 : PartOk (aZ r).second 60 := by rw [f6]; exact p3 oM
  have hSI : SI s.ts := by rw [hts2]; exact oD P1 P2 P3
  have hnw : s.nwm = [] := by rw [hi.nwm]; exact hw _ _
  obtain ⟨d1, d2, d3, _⟩ := pL hi.mo ⟨hi.d.1, hi.day (by rw [hfr]; omega)⟩
  have db := n5 hi.mo ⟨hi.d.1, hi.day (by rw [hfr]; omega)⟩
  have ds := Cal.split_spec (Cal.dayNo s.y s.mo s.d)
  have dl := tU hi.y hi.mo ⟨hi.d.1, hi.day (by rw [hfr]; omega)⟩
  rw [d2] at ds
  have hlp := Cal.lp_01 s.ly
  have hly := hi.ly
  have hlpe : Cal.lp s.ly = Cal.lp s.y := by rw [hly]
  have hdy : Cal.daysTo s.ly = Cal.daysTo s.y := by rw [hly]
  have hout := zS (r := bH (aE r) wF nF eF) hSI hi.ts (xE rp.t3.h9)
  rw [hout, hsp, e6]
  have main : ∀ (first : Int) (sh m : Nat), (iS (aZ r) k).toNat = sh + m → first = cF (aZ r) k → (aW (bH (aE r) wF nF eF) s).2 - (aW (bH (aE r) wF nF eF) s).1 = m → Cal.dayNo s.y s.mo s.d = first + sh → (aW (bH (aE r) wF nF eF) s).1 = Cal.ydayOf (Cal.dayNo s.y s.mo s.d) → m ≤ 7 → (0 < sh → r.setpos.length = 0 ∧ (first + sh) * 86400 ≤ r.start) →
    ∃ L1 L2, dJ (eJ (aZ r) (cW (aZ r)) k) r.setpos = L1 ++ L2 ∧ (∀ t ∈ L1, t < (bH (aE r) wF nF eF).d0) ∧ dB (bH (aE r) wF nF eF) s (dJ (gQ (bH (aE r) wF nF eF) s) r.setpos) = dB (bH (aE r) wF nF eF) s L2 := by
   intro first sh m h1 h2 h3 h4 h5 h6 h7
   obtain ⟨L1, g1, g2, g3⟩ := aC0 (q := aZ r) (dayF := cW (aZ r)) (first := first) (sh := sh) h3 (by rw [h5, hly]; omega) oM (fun j hj => aH2 rp oM hnw oM oM) hts2 P1 P2 P3
   have hp : eJ (aZ r) (cW (aZ r)) k = L1 ++ gQ (bH (aE r) wF nF eF) s := by
    unfold eJ
    rw [if_neg (by rw [e2]; omega), h1, ← h2]; exact g1
   rw [hp]
   rcases Nat.eq_zero_or_pos sh with hz | hz
   ·exact ⟨[], _, by rw [g3 hz]; rfl, fun t ht => by simp at ht, rfl⟩
   ·obtain ⟨k1, k2⟩ := h7 hz
    rw [sR _ k1, sR _ k1]
    exact ⟨L1, _, rfl, fun t ht => by have := g2 t ht; show t < r.start; omega, rfl⟩
  have hyw : ywd s.ly = Cal.daysTo s.ly % 7 := rfl
  rcases hf with hf | hf
  ·have hpm : iS (aZ r) k = 7 := by unfold iS; rw [e2, if_neg oM, if_neg oM, if_pos hf]
   have hsn : aW (bH (aE r) wF nF eF) s = (Cal.ydayOf (Cal.dayNo s.y s.mo s.d), Cal.ydayOf (Cal.dayNo s.y s.mo s.d) + 1 + (r.wkst - ywd s.ly - Cal.ydayOf (Cal.dayNo s.y s.mo s.d) - 1) % 7) := by
    unfold aW
    rw [hfr, if_neg oM, if_neg oM]
    simp only
    rw [if_pos hf]; rfl
   have hF := wN hf k
   have hD : Cal.dayNo s.y s.mo s.d = if k = 0 then r.start / 86400 else cF (aZ r) k := by
    rw [hday]
    by_cases hk : k = 0
    ·rw [if_pos ⟨hf, hk⟩, if_pos hk]
    ·rw [if_neg (fun h => hk h.2), if_neg hk]
   refine main (cF (aZ r) k) ((Cal.dayNo s.y s.mo s.d - r.wkst) % 7).toNat (7 - (Cal.dayNo s.y s.mo s.d - r.wkst) % 7).toNat oM rfl (by rw [hsn]; simp only; omega) ?_ (by rw [hsn]) oM (fun hpos => ?_)
   ·by_cases hk : k = 0
    ·rw [if_pos hk] at hD
     rw [hF, hk]; omega
    ·rw [if_neg hk] at hD
     rw [hD, hF]; omega
   ·by_cases hk : k = 0
    ·rw [if_pos hk] at hD
     refine ⟨?_, by rw [hF, hk]; omega⟩
     rcases Nat.eq_zero_or_pos r.setpos.length with h | h
     ·exact h
     ·have := rp.t7 hf h; omega
    ·rw [if_neg hk] at hD
     rw [hD, hF] at hpos; omega
  ·have hpm : iS (aZ r) k = 1 := by unfold iS; rw [e2, if_neg oM, if_neg oM, if_neg oM]
   have hsn : aW (bH (aE r) wF nF eF) s = (Cal.ydayOf (Cal.dayNo s.y s.mo s.d), Cal.ydayOf (Cal.dayNo s.y s.mo s.d) + 1) := by
    unfold aW
    rw [hfr, if_neg oM, if_neg oM]
    simp only
    rw [if_neg oM]
   rw [if_neg oM] at hday
   exact main (cF (aZ r) k) 0 1 oM rfl (by rw [hsn]; simp only; omega) oM (by rw [hsn]) oM (fun h => by omega)
 adv := fun k s h0 hR hi ho hfin => by
  obtain ⟨hts, hday, hwd⟩ := hR
  have hiv := rp.t1.interval
  have hwk := rp.t1.wkst
  have hd := hi.d
  have ek : (k + 1) * r.interval = k * r.interval + r.interval := by rw [Int.add_mul]; omega
  refine ⟨k + 1, by omega, fun j h1 h2 => by omega, ?_⟩
  have main : ∀ s2 : It, adv (bH (aE r) wF nF eF) (cO (bH (aE r) wF nF eF) s) s = fix (bH (aE r) wF nF eF) s2 → s2.ts = s.ts → s2.y = s.y → s2.mo = s.mo → s2.ly = s.ly → Msk (bH (aE r) wF nF eF) s2 → s2.fin = s.fin → 1 ≤ s2.d → Cal.dayNo s.y s.mo s.d + (s2.d - s.d) = cF (aZ r) (k + 1) → (r.freq = 2 → s2.wd = cF (aZ r) (k + 1) % 7) →
    ((adv (bH (aE r) wF nF eF) (cO (bH (aE r) wF nF eF) s) s).fin = false → R23 r (k + 1) (adv (bH (aE r) wF nF eF) (cO (bH (aE r) wF nF eF) s) s) ∧ ¬eK (aZ r) (k + 1)) ∧ ((adv (bH (aE r) wF nF eF) (cO (bH (aE r) wF nF eF) s) s).fin = true → eK (aZ r) (k + 1)) := by
   intro s2 ea b1 b2 b3 b4 b5 b6 b7 b8 b9
   rw [ea]
   have hmo := hi.mo
   have hy := hi.y
   obtain ⟨c1, c2⟩ := aBz (r := bH (aE r) wF nF eF) (s := s2) b7 oM oM (by rw [b6]; exact hfin)
   have hrest := x6 (r := bH (aE r) wF nF eF) s2
   have hdn : Cal.dayNo s2.y s2.mo s2.d = cF (aZ r) (k + 1) := by
    rw [b2, b3, ← b8, jB hmo, jB hmo]; omega
   rw [hdn] at c1 c2
   refine ⟨fun h => ?_, fun h => (uE oM _).2 (c2 h)⟩
   have c3 := c1 h
   obtain ⟨g1, g2, g3, _⟩ := xH (r := bH (aE r) wF nF eF) (s := s2) b7 oM oM (by rw [b4, b2]; exact hi.ly) b5 h
   have gl := tU g3 g2 g1
   rw [c3] at gl
   refine ⟨⟨by rw [hrest.ts, b1]; exact hts, by rw [c3, if_neg oM], fun h2 => by rw [hrest.wd, c3]; exact b9 h2⟩, fun hov => ?_⟩
   have := (uE (r := r) oM _).1 hov
   omega
  unfold adv at main ⊢
  have hfr : (bH (aE r) wF nF eF).freq = r.freq := rfl
  have hwr : (bH (aE r) wF nF eF).wkst = r.wkst := rfl
  have hir : (bH (aE r) wF nF eF).interval = r.interval := rfl
  rcases hf with hf | hf
  ·have hf0 : ¬ (bH (aE r) wF nF eF).freq = 0 := by omega
   have hf1 : ¬ (bH (aE r) wF nF eF).freq = 1 := by omega
   have hf2 : (bH (aE r) wF nF eF).freq = 2 := by omega
   have hF := wN hf (k + 1)
   have hF0 := wN hf k
   have hwd := hwd hf
   have hb : Cal.dayNo s.y s.mo s.d + (-((Cal.dayNo s.y s.mo s.d - r.wkst) % 7) + r.interval * 7) = cF (aZ r) (k + 1) := by
    rw [hF, hday]
    by_cases hk : k = 0
    ·rw [if_pos ⟨hf, hk⟩, hk]; omega
    ·rw [if_neg (fun h => hk h.2), hF0, ek]; omega
   rw [if_neg hf0, if_neg hf1, if_pos hf2] at main ⊢
   refine main _ rfl rfl rfl rfl rfl ⟨hi.wno, hi.nwm, hi.eas⟩ rfl ?_ ?_ (fun _ => ?_)
   ·simp only; split <;> omega
   ·simp only
    rw [← hb]
    split <;> omega
   ·show r.wkst = _
    omega
  ·have hf0 : ¬ (bH (aE r) wF nF eF).freq = 0 := by omega
   have hf1 : ¬ (bH (aE r) wF nF eF).freq = 1 := by omega
   have hf2 : ¬ (bH (aE r) wF nF eF).freq = 2 := by omega
   have hf3 : (bH (aE r) wF nF eF).freq = 3 := by omega
   rw [if_neg hf0, if_neg hf1, if_neg hf2, if_pos hf3] at main ⊢
   refine main _ rfl rfl rfl rfl rfl ⟨hi.wno, hi.nwm, hi.eas⟩ rfl ?_ ?_ (fun h => by omega)
   ·simp only; omega
   ·simp only
    rw [hday, if_neg oM, qV hf, qV hf, ek]; omega
theorem wA {b : Int} : ∀ {l : List Int} {a : Int}, SI l → (∀ x ∈ l, a ≤ x ∧ x < b) → a ≤ b → (l.length : Int) ≤ b - a
 | [], a, _, _, h => by simp only [List.length_nil]; omega
 | x :: l, a, h, hb, hab => by
  obtain ⟨h1, h2⟩ := List.pairwise_cons.1 h
  have hx := hb x (List.mem_cons_self ..)
  have := wA (a := x + 1) (b := b) h2 (fun y hy => ⟨by have := h1 y hy; omega, (hb y (List.mem_cons_of_mem _ hy)).2⟩) oM
  simp only [List.length_cons]; omega
theorem vO {q : Rul} {dayF : Int → Bool} {en most : Int} {k : Int} {o l : List Int} (h : DatesP q dayF en most k o l) : (o.length : Int) ≤ most → (l.length : Int) ≤ most := by
 induction h with
 | over _ => exact id
 | stop h hs => intro hm; unfold dS; exact i6 _ _ _ _ _ _ hm
 | more h hs hn ih => intro hm; exact ih (by unfold dS; exact i6 _ _ _ _ _ _ hm)
theorem z6 {r : Rul} {ts : List Int} {wF : Int → List Int} {nF : Int → Int → List Int} {eF : Int → List Int} (rp : RightP r) (ht : (ts).length ≤ 100000 ∧ ∀ t ∈ ts, 0 ≤ t ∧ t < 86400) (hmeet : 4 ≤ r.freq → ∀ b, ∃ K, iK (bH (aE r) wF nF eF) b (it1 (aE r) (bH (aE r) wF nF eF) ts) = some K ∧ (K : Int) ≤ dC r.freq) : ItOk (bH (aE r) wF nF eF) (it1 (aE r) (bH (aE r) wF nF eF) ts) := by
 have hst := rp.t1.start
 have hd9 : Cal.daysTo 9000 = 3286817 := by decide
 have hs : 0 ≤ r.start / 86400 ∧ r.start / 86400 < 3286817 := by omega
 obtain ⟨s1, s2, s3⟩ := Cal.split_spec (r.start / 86400)
 obtain ⟨j, hj, c1, c2⟩ := Cal.mon_ex s2 s3
 obtain ⟨_, _, m1, m2⟩ := Cal.date_unique hj c1 c2
 have hc : Cal.cum (Cal.yearOf (r.start / 86400)) (j + 1) = Cal.cum (Cal.yearOf (r.start / 86400)) j + Cal.mdays ((j : Int) + 1) (Cal.yearOf (r.start / 86400)) := rfl
 rw [s1] at m1 m2
 have hy : 1 ≤ Cal.yearOf (r.start / 86400) ∧ Cal.yearOf (r.start / 86400) ≤ 9999 := by
  constructor
  ·rcases Int.lt_or_le (Cal.yearOf (r.start / 86400)) 1 with h | h
   ·have := Cal.daysTo_succ (Cal.yearOf (r.start / 86400))
    have := Cal.daysTo_mono (a := Cal.yearOf (r.start / 86400) + 1) (b := 1) oM
    have h1 : Cal.daysTo 1 = 0 := by decide
    omega
   ·exact h
  ·rcases Int.lt_or_le 9999 (Cal.yearOf (r.start / 86400)) with h | h
   ·have := Cal.daysTo_mono (a := 10000) (b := Cal.yearOf (r.start / 86400)) oM
    have h1 : Cal.daysTo 10000 = 3652059 := by decide
    omega
   ·exact h
 have hmb := Cal.month_bd (r.start / 86400)
 exact {
  y := hy
  ly := rfl
  mo := ⟨hmb.1, hmb.2.1⟩
  d := ⟨hmb.2.2.1, hmb.2.2.2⟩
  day := fun _ => by show Cal.mdayOf (r.start / 86400) ≤ Cal.mdays (Cal.monthOf (r.start / 86400)) (Cal.yearOf (r.start / 86400)); rw [m1, m2]; omega
  wd := by show 0 ≤ ((r.start / 86400 + 1) % 7 + 6) % 7 ∧ ((r.start / 86400 + 1) % 7 + 6) % 7 ≤ 6; omega
  hr := by show 0 ≤ r.start % 86400 / 3600 ∧ r.start % 86400 / 3600 ≤ 23; omega
  mn := by show 0 ≤ r.start % 86400 / 60 % 60 ∧ r.start % 86400 / 60 % 60 ≤ 59; omega
  sec := by show 0 ≤ r.start % 86400 % 60 ∧ r.start % 86400 % 60 ≤ 59; omega
  ts := ht.2
  tsn := ht.1
  total := ⟨Int.le_refl _, by show (0 : Int) ≤ 1000000000000 + ((0 : Nat) : Int); omega⟩
  count := by have := rp.t1.count; show 0 ≤ r.count ∧ r.count ≤ _; omega
  wno := rfl
  nwm := rfl
  eas := rfl
  lm := fun _ => rfl
  meet := hmeet }
theorem aBw {r : Rul} (rp : RightP r) (hf : r.freq < 4) : (lW (aE r)).length ≤ 100000 ∧ ∀ t ∈ lW (aE r), 0 ≤ t ∧ t < 86400 := by
 obtain ⟨p1, p2, p3⟩ := m7 rp
 rw [aBt (show (aE r).freq < 4 from hf)]
 have hb : ∀ t ∈ l6 (cL (aE r)) (bA (aE r)) (bI (aE r)), 0 ≤ t ∧ t < 86400 := fun t ht => by
  have := (nT (p1 hf) (p2 oM) (p3 oM)).1 ht
  exact ⟨this.1, this.2.1⟩
 have := wA (oD (p1 hf) (p2 oM) (p3 oM)) hb oM
 exact ⟨by omega, hb⟩
theorem aGg {r : Rul} (rp : RightP r) (wF : Int → List Int) (nF : Int → Int → List Int) (eF : Int → List Int) : (bH (aE r) wF nF eF).u0 = dM r := by
 show until0 (aE r) = _
 unfold until0 dM
 obtain ⟨h1, h2⟩ := rp.t2
 by_cases hu : r.hasUntil = true
 ·have e : (aE r).u = r.untl := by unfold aE; simp only; rw [if_pos hu]
  have := (h2 hu).2.1
  rw [if_pos hu, if_neg (by rw [e]; omega), e]
 ·have e : (aE r).u = 0 := by unfold aE; simp only; rw [if_neg hu]
  rw [if_neg hu, if_pos e]; rfl
theorem qZ {r : Rul} {ts : List Int} {wF : Int → List Int} {nF : Int → Int → List Int} {eF : Int → List Int} {dayF : Int → Bool} {R : Int → It → Prop} (rp : RightP r) (fits : Fits (bH (aE r) wF nF eF) (aZ r) dayF R) (hpres : vA (bH (aE r) wF nF eF))
  (hi : ItOk (bH (aE r) wF nF eF) (it1 (aE r) (bH (aE r) wF nF eF) ts)) (hR : R 0 (it1 (aE r) (bH (aE r) wF nF eF) ts)) (ho : ¬eK (aZ r) 0) {most : Nat} (hm : most ≤ 1000000) {l : List Int} (h : lI r dayF most l) : ∃ N, Tells (bH (aE r) wF nF eF) N (it1 (aE r) (bH (aE r) wF nF eF) ts) most l := by
 obtain ⟨e1, e2, e3, e4, e5, e6, _⟩ := dG r
 unfold lI at h
 rcases Nat.eq_zero_or_pos most with h0 | h0
 ·subst h0
  have := vO h (by simp)
  have hl : l = [] := List.eq_nil_of_length_eq_zero oM
  subst hl
  exact ⟨0, .zero⟩
 ·have hcnt := rp.t1.count
  obtain ⟨N, l', h1, h2⟩ := x5 fits hpres (by rw [e5]; exact hcnt.1) (by rw [e1]; rfl) (aGg rp wF nF eF) oM h (Int.le_refl _) 0 _ (Int.le_refl _) (fun j h1 h2 => by omega) hR ho hi rfl rfl rfl (by simp only [List.length_nil]; omega) ⟨fun h => by rw [e5] at h; exact h, fun h => by rw [e5] at h ⊢; exact ⟨by show r.count = r.count - ((0 : Nat) : Int); omega, by simp only [List.length_nil]; omega⟩⟩
  rw [List.nil_append] at h1
  subst h1
  rw [show ((most : Int) - (([] : List Int).length : Int)).toNat = most by simp] at h2
  exact ⟨N, h2⟩
end Go.Proofs.YtdbbifbmkfmbkaaGreat
namespace Go.Proofs.YtdbbifbmkfmbkaaGreat
open Go.RowKit Go.Fr Go.Tab
section
variable {F : Nat → Prop} {w0 : World} {B : LN} {H : LV} {S : LS}
open Go.Md Go.ChangeShapes Go.WideShapes Go.Deep
theorem aEt {H : Type} {enc : TypeId × Value → H} {P : Program} {w : World} {base : Nat} {sp : Nat → Bool} {hd : Bool} {t : TypeId} {fs : Array Field} {fuel : Nat} {cs : List Value} {x : DataW H × List MemPlace} (ht : P.underlying t = some (.struct fs)) (h : DataW.trod enc P w base sp hd fuel t cs = some x) :
  ∃ n, cs.length = P.cellsOf t ∧ ∀ (i : Nat) (f : Field) (c : Value), fs[i]? = some f → P.cellsOf f.type = 1 → cs[f.offset]? = some c → ∃ y, DataW.trod enc P w base sp hd n f.type [c] = some y := by
 obtain ⟨xs, n, _, _, hl, hx, hf⟩ := DataW.trod_struct ht h
 refine ⟨n, hl, fun i f c h1 h2 h3 => ?_⟩
 have hi := (Array.getElem?_eq_some_iff.1 h1).1
 have h4 := hf i f h1
 obtain ⟨ho, rfl⟩ := List.getElem?_eq_some_iff.1 h3
 rw [h2, List.drop_eq_getElem_cons ho, List.take_succ_cons, List.take_zero] at h4
 exact ⟨_, h4.trans (List.getElem?_eq_getElem oM)⟩
theorem vQ {w : World} {a : Addr} {v : Value} (h : w.cell? a = some v) : a.spot = none := by
 unfold World.cell? at h
 cases hs : a.spot with
 | none => rfl
 | some s =>
  rw [hs] at h
  split at h
  ·simp at h
  ·cases h
def mV : Value → Int
 | .int _ n => n
 | _ => 0
theorem iJ {H : Type} {enc : TypeId × Value → H} {P : Program} {w : World} {sp : Nat → Bool} {hd : Bool} {t e : TypeId} {fuel : Nat} {c : Value} {x : DataW H × List MemPlace} (ht : P.underlying t = some (.slice e)) (he : P.underlying e = some (.int .i64)) (hc : P.cellsOf e = 1) (h : DataW.trod enc P w 0 sp hd fuel t [c] = some x) :
  ∃ (p : Option Addr) (k : Nat) (xs : List Int), c = .slice p xs.length k ∧ xs.length ≤ k ∧ xs.length ≤ maxLen ∧ Ints w (.slice p xs.length k) xs := by
 rcases open_slice1 ht hc h with ⟨h1, _⟩ | ⟨a, len, cap, m, n, V, D, Pl, h1, _, h2, h3, hm, _, h4⟩
 ·injection h1 with h1 _
  exact ⟨none, 0, [], h1, Nat.le_refl _, Nat.zero_le _, Ints.nil⟩
 ·injection h1 with h1 _
  have hlm : len ≤ m := by rw [hm]; split <;> omega
  have hv : ∀ i, i < len → w.cell? (a.add i) = some (iV (mV (V i))) := fun i hi => by
   obtain ⟨g1, g2⟩ := h4 i oM
   obtain ⟨k, g3, _, _⟩ := DataW.trod_int he g2
   injection g3 with g3 _
   rw [g1, g3]; rfl
  have hl : ((List.range len).map fun i => mV (V i)).length = len := by simp
  refine ⟨some a, cap, (List.range len).map fun i => mV (V i), by rw [hl]; exact h1, by rw [hl]; exact h2, by rw [hl]; omega, some a, cap, rfl, fun i y hy => ?_⟩
  have hi := (List.getElem?_eq_some_iff.1 hy).1
  rw [hl] at hi
  have hy2 : mV (V i) = y := by
   rw [List.getElem?_map, List.getElem?_range hi] at hy
   exact Option.some.inj hy
  have hcell := hv i hi
  rw [hy2] at hcell
  have hsp : a.spot = none := vQ (hv 0 oM)
  obtain ⟨ab, ao, sq⟩ := a
  cases sq with
  | none => exact ⟨ab, ao, rfl, by rw [add_plain] at hcell; exact hcell⟩
  | some s => cases hsp
theorem aFd {H : Type} {enc : TypeId × Value → H} {P : Program} {w : World} {sp : Nat → Bool} {hd : Bool} {t e : TypeId} {f0 f1 : Field} {fuel : Nat} {c : Value} {x : DataW H × List MemPlace} (ht : P.underlying t = some (.slice e)) (he : P.underlying e = some (.struct #[f0, f1])) (ce : P.cellsOf e = 2) (o0 : f0.offset = 0) (o1 : f1.offset = 1) (c0 : P.cellsOf f0.type = 1) (c1 : P.cellsOf f1.type = 1)
  (i0 : P.underlying f0.type = some (.int .i64)) (i1 : P.underlying f1.type = some (.int .i64)) (h : DataW.trod enc P w 0 sp hd fuel t [c] = some x) :
  ∃ (p : Option Addr) (k : Nat) (xs : List (Int × Int)), c = .slice p xs.length k ∧ xs.length ≤ k ∧ xs.length ≤ maxLen ∧ Prs w (.slice p xs.length k) xs := by
 rcases open_slice_pairs ht he ce o0 o1 c0 c1 h with ⟨h1, _⟩ | ⟨a, len, cap, m, n, V0, V1, D0, D1, P0, P1, h1, _, h2, h3, hm, _, h4⟩
 ·injection h1 with h1 _
  exact ⟨none, 0, [], h1, Nat.le_refl _, Nat.zero_le _, none, 0, rfl, fun i x h => by simp at h⟩
 ·injection h1 with h1 _
  have hlm : len ≤ m := by rw [hm]; split <;> omega
  have hv : ∀ i, i < len → w.cell? (a.add (i * 2)) = some (iV (mV (V0 i))) ∧ w.cell? (a.add (i * 2 + 1)) = some (iV (mV (V1 i))) := fun i hi => by
   obtain ⟨g1, g2, g3, g4⟩ := h4 i oM
   obtain ⟨k, q1, _, _⟩ := DataW.trod_int i0 g3
   obtain ⟨k', q2, _, _⟩ := DataW.trod_int i1 g4
   injection q1 with q1 _
   injection q2 with q2 _
   rw [g1, g2, q1, q2]; exact ⟨rfl, rfl⟩
  have hl : ((List.range len).map fun i => (mV (V0 i), mV (V1 i))).length = len := by simp
  refine ⟨some a, cap, (List.range len).map fun i => (mV (V0 i), mV (V1 i)), by rw [hl]; exact h1, by rw [hl]; exact h2, by rw [hl]; omega, some a, cap, rfl, fun i y hy => ?_⟩
  have hi := (List.getElem?_eq_some_iff.1 hy).1
  rw [hl] at hi
  have hy2 : (mV (V0 i), mV (V1 i)) = y := by
   rw [List.getElem?_map, List.getElem?_range hi] at hy
   exact Option.some.inj hy
  obtain ⟨g1, g2⟩ := hv i hi
  subst hy2
  have hsp : a.spot = none := by have := vQ (hv 0 oM).1; rwa [Nat.zero_mul] at this
  obtain ⟨ab, ao, sq⟩ := a
  cases sq with
  | none => exact ⟨ab, ao, rfl, by rw [add_plain] at g1; rw [Nat.mul_comm]; exact g1, by rw [add_plain] at g2; rw [Nat.mul_comm]; exact g2⟩
  | some s => cases hsp
theorem aFq {n : Int} (h : (Lit.int .i64 n).wf = true) : -9223372036854775808 ≤ n ∧ n ≤ 9223372036854775807 := by
 simp only [Lit.wf, Bool.and_eq_true, decide_eq_true_eq] at h
 have h1 : IntKind.i64.min = -9223372036854775808 := by decide
 have h2 : IntKind.i64.max = 9223372036854775807 := by decide
 omega
theorem wf8 {n : Int} (h : (Lit.int .u8 n).wf = true) : 0 ≤ n ∧ n ≤ 255 := by
 simp only [Lit.wf, Bool.and_eq_true, decide_eq_true_eq] at h
 have h1 : IntKind.u8.min = 0 := by decide
 have h2 : IntKind.u8.max = 255 := by decide
 omega
structure RIn (W : World) (r : Rul) (x : Av) : Prop where
 freq : 0 ≤ r.freq ∧ r.freq ≤ 255
 start : -9223372036854775808 ≤ r.start ∧ r.start ≤ 9223372036854775807
 interval : -9223372036854775808 ≤ r.interval ∧ r.interval ≤ 9223372036854775807
 wkst : -9223372036854775808 ≤ r.wkst ∧ r.wkst ≤ 9223372036854775807
 count : -9223372036854775808 ≤ r.count ∧ r.count ≤ 9223372036854775807
 untl : -9223372036854775808 ≤ r.untl ∧ r.untl ≤ 9223372036854775807
 inl : InL W r x
 big : r.setpos.length ≤ x.c9 ∧ r.setpos.length ≤ maxLen ∧ r.month.length ≤ x.c10 ∧ r.month.length ≤ maxLen ∧ r.mday.length ≤ x.c11 ∧ r.mday.length ≤ maxLen ∧ r.yday.length ≤ x.c12 ∧ r.yday.length ≤ maxLen ∧ r.weekno.length ≤ x.c13 ∧ r.weekno.length ≤ maxLen ∧ r.wday.length ≤ x.c14 ∧ r.wday.length ≤ maxLen ∧ r.hour.length ≤ x.c15 ∧ r.hour.length ≤ maxLen ∧ r.minute.length ≤ x.c16 ∧ r.minute.length ≤ maxLen ∧ r.second.length ≤ x.c17 ∧ r.second.length ≤ maxLen ∧ r.easter.length ≤ x.c18 ∧ r.easter.length ≤ maxLen
theorem open_rule {H : Type} {enc : TypeId × Value → H} {W : World} {base : Nat} {sp : Nat → Bool} {hd : Bool} {v : Value} {d : DataW H} {ps : List MemPlace} (hval : Value.okWide Tryz.prog W .any base 27 v) (h : DataW.Trod enc Tryz.prog W 0 sp hd 27 v d ps) : ∃ (r : Rul) (x : Av), v = .agg (bC r x).toArray ∧ RIn W r x := by
 obtain ⟨cs, rfl, _⟩ := okWide_struct Tryz.underlying27 hval
 obtain ⟨l, rfl⟩ : ∃ l : List Value, cs = l.toArray := ⟨cs.toList, by simp⟩
 obtain ⟨fuel, h⟩ := h
 have h : DataW.trod enc Tryz.prog W 0 sp hd fuel 27 l = some (d, ps) := h
 obtain ⟨n, hl, hf⟩ := aEt Tryz.underlying27 h
 have hl : l.length = 18 := hl.trans kR
 match l, hl with
 | [k0, k1, k2, k3, k4, k5, k6, k7, k8, k9, k10, k11, k12, k13, k14, k15, k16, k17], _ =>
  obtain ⟨y0, t0⟩ := hf 0 _ k0 rfl kR rfl
  obtain ⟨v0, e0, _, w0⟩ := DataW.trod_int Tryz.underlying5 t0
  injection e0 with e0 _
  subst e0
  obtain ⟨y1, t1⟩ := hf 1 _ k1 rfl kR rfl
  obtain ⟨v1, e1, _⟩ := DataW.trod_bool Tryz.underlying4 t1
  injection e1 with e1 _
  subst e1
  obtain ⟨y2, t2⟩ := hf 2 _ k2 rfl kR rfl
  obtain ⟨v2, e2, _, w2⟩ := DataW.trod_int Tryz.underlying2 t2
  injection e2 with e2 _
  subst e2
  obtain ⟨y3, t3⟩ := hf 3 _ k3 rfl kR rfl
  obtain ⟨v3, e3, _, w3⟩ := DataW.trod_int Tryz.underlying3 t3
  injection e3 with e3 _
  subst e3
  obtain ⟨y4, t4⟩ := hf 4 _ k4 rfl kR rfl
  obtain ⟨v4, e4, _, w4⟩ := DataW.trod_int Tryz.underlying3 t4
  injection e4 with e4 _
  subst e4
  obtain ⟨y5, t5⟩ := hf 5 _ k5 rfl kR rfl
  obtain ⟨v5, e5, _, w5⟩ := DataW.trod_int Tryz.underlying3 t5
  injection e5 with e5 _
  subst e5
  obtain ⟨y6, t6⟩ := hf 6 _ k6 rfl kR rfl
  obtain ⟨v6, e6, _⟩ := DataW.trod_bool Tryz.underlying4 t6
  injection e6 with e6 _
  subst e6
  obtain ⟨y7, t7⟩ := hf 7 _ k7 rfl kR rfl
  obtain ⟨v7, e7, _, w7⟩ := DataW.trod_int Tryz.underlying2 t7
  injection e7 with e7 _
  subst e7
  obtain ⟨y8, t8⟩ := hf 8 _ k8 rfl kR rfl
  obtain ⟨p8, c8, v8, rfl, a8, b8, i8⟩ := iJ Tryz.underlying24 Tryz.underlying3 kR t8
  obtain ⟨y9, t9⟩ := hf 9 _ k9 rfl kR rfl
  obtain ⟨p9, c9, v9, rfl, a9, b9, i9⟩ := iJ Tryz.underlying24 Tryz.underlying3 kR t9
  obtain ⟨y10, t10⟩ := hf 10 _ k10 rfl kR rfl
  obtain ⟨p10, c10, v10, rfl, a10, b10, i10⟩ := iJ Tryz.underlying24 Tryz.underlying3 kR t10
  obtain ⟨y11, t11⟩ := hf 11 _ k11 rfl kR rfl
  obtain ⟨p11, c11, v11, rfl, a11, b11, i11⟩ := iJ Tryz.underlying24 Tryz.underlying3 kR t11
  obtain ⟨y12, t12⟩ := hf 12 _ k12 rfl kR rfl
  obtain ⟨p12, c12, v12, rfl, a12, b12, i12⟩ := iJ Tryz.underlying24 Tryz.underlying3 kR t12
  obtain ⟨y13, t13⟩ := hf 13 _ k13 rfl kR rfl
  obtain ⟨p13, c13, v13, rfl, a13, b13, i13⟩ := aFd Tryz.underlying25 Tryz.underlying47 kR rfl rfl kR kR Tryz.underlying3 Tryz.underlying3 t13
  obtain ⟨y14, t14⟩ := hf 14 _ k14 rfl kR rfl
  obtain ⟨p14, c14, v14, rfl, a14, b14, i14⟩ := iJ Tryz.underlying24 Tryz.underlying3 kR t14
  obtain ⟨y15, t15⟩ := hf 15 _ k15 rfl kR rfl
  obtain ⟨p15, c15, v15, rfl, a15, b15, i15⟩ := iJ Tryz.underlying24 Tryz.underlying3 kR t15
  obtain ⟨y16, t16⟩ := hf 16 _ k16 rfl kR rfl
  obtain ⟨p16, c16, v16, rfl, a16, b16, i16⟩ := iJ Tryz.underlying24 Tryz.underlying3 kR t16
  obtain ⟨y17, t17⟩ := hf 17 _ k17 rfl kR rfl
  obtain ⟨p17, c17, v17, rfl, a17, b17, i17⟩ := iJ Tryz.underlying24 Tryz.underlying3 kR t17
  refine ⟨⟨v0, v1, v2, v3, v4, v5, v6, v7, v8, v9, v10, v11, v12, v13, v14, v15, v16, v17⟩, ⟨p8, p9, p10, p11, p12, p13, p14, p15, p16, p17, c8, c9, c10, c11, c12, c13, c14, c15, c16, c17, none, none, none, none, none, none, none, none, none, none, none, 0, 0, 0, 0, 0, 0, 0, 0, 0, 0, 0⟩, rfl, ?_⟩
  exact ⟨wf8 w0, aFq w2, aFq w3, aFq w4, aFq w5, aFq w7, ⟨i8, i9, i10, i11, i12, i13, i14, i15, i16, i17⟩, ⟨a8, b8, a9, b9, a10, b10, a11, b11, a12, b12, a13, b13, a14, b14, a15, b15, a16, b16, a17, b17⟩⟩
theorem CapL.of {r : Rul} {x : Av} {W : World} (h : RIn W r x) : CapL r x := by
 obtain ⟨a1, _, a2, _, a3, _, a4, _, a5, _, a6, _, a7, _, a8, _, a9, _, a10, _⟩ := h.big
 exact ⟨a1, a2, a3, a4, a5, a6, a7, a8, a9, a10⟩
open Go.Md
theorem sX {r : Ru} (hr : RuOk r) (hf : r.freq = 3) (hw : r.weekno.length = 0) (hd : r.nwd.length = 0) (he : r.easter.length = 0) : aF2 r := by
 intro F w0 B H S S0 H0 l it rb s a Q flt st s0 hk hsm hfin hn hq
 have h1 := hk.y
 have h2 := hk.mo
 have h3 := hk.d
 have h4 := hk.wd
 have h5 := hk.ly
 have h6 := hsm.y
 have h7 := hsm.mo
 have h8 := hsm.d
 have h9 := hsm.wd
 have h10 := hsm.ly
 have m1 : s.wno = r.wnoF s.ly := by rw [hsm.wno, hsm.ly]; exact hk.wno
 have m2 : s.nwm = r.nwmF s.ly s.lm := by rw [hsm.nwm, hsm.ly, hsm.lm]; exact hk.nwm
 have m3 : s.eas = r.easF s.ly := by rw [hsm.eas, hsm.ly]; exact hk.eas
 exact aCw st hr hw hd he m1 m2 m3 oM oM oM oM oM hfin hf hn hq
theorem aDv {r : Ru} (hr : RuOk r) (hf : r.freq = 0 ∨ r.freq = 2 ∨ r.freq = 3) (hw : r.weekno.length = 0) (hd : r.nwd.length = 0) (he : r.easter.length = 0) : aF2 r := by
 intro F w0 B H S S0 H0 l it rb s a Q flt st s0 hk hsm hfin hn hq
 have h1 := hk.y
 have h2 := hk.mo
 have h3 := hk.d
 have h4 := hk.wd
 have h5 := hk.ly
 have h6 := hsm.y
 have h7 := hsm.mo
 have h8 := hsm.d
 have h9 := hsm.wd
 have h10 := hsm.ly
 have m1 : s.wno = r.wnoF s.ly := by rw [hsm.wno, hsm.ly]; exact hk.wno
 have m2 : s.nwm = r.nwmF s.ly s.lm := by rw [hsm.nwm, hsm.ly, hsm.lm]; exact hk.nwm
 have m3 : s.eas = r.easF s.ly := by rw [hsm.eas, hsm.ly]; exact hk.eas
 rcases hf with hf | hf | hf
 ·exact zX st hr hw hd he m1 m2 m3 oM oM oM oM oM hfin hf hn hq
 ·exact aA4 st hr hw hd he m1 m2 m3 oM oM oM oM oM hfin hf hn hq
 ·exact sX hr hf hw hd he F w0 B H S S0 H0 l it rb s a Q flt st s0 hk hsm hfin hn hq
end
end Go.Proofs.YtdbbifbmkfmbkaaGreat
namespace Go.Proofs.YtdbbifbmkfmbkaaGreat
open Go.Md Go.Tab Go.Fr
abbrev wO : Int → List Int := fun _ => []
abbrev nO : Int → Int → List Int := fun _ _ => []
theorem nL {r : Rul} (rp : RightP r) : r.wday.length ≤ 100 := by
 rcases Nat.lt_or_ge 100 r.wday.length with h | h
 ·have := (rp.t6 100 _ (List.getElem?_eq_getElem h)).2.2.2.2
  omega
 ·exact h
theorem kK {r : Rul} {l : List Int} {b : Int} {m : Bool} {a : Int} (h : iR l a b m = true) (ha : 0 ≤ a) : ∀ y ∈ l, (a ≤ y ∧ y ≤ b) ∨ (m = true ∧ -b ≤ y ∧ y ≤ -a) := fun y hy => by
 have := (eH h).2.1 y hy
 unfold okR at this
 split at this
 ·rename_i hm
  rw [Bool.and_eq_true, Bool.and_eq_true] at this
  have h1 := oT this.1
  have h2 := oT this.2.1
  exact .inr ⟨hm.1, h1, by omega⟩
 ·rw [Bool.and_eq_true] at this
  exact .inl ⟨oT this.1, oT this.2⟩
theorem jN {r : Rul} (rp : RightP r) : OpOk (aE r) where
 freq := rp.t1.freq
 d := by
  have := rp.t1.start
  have h9 : Cal.daysTo 9000 = 3286817 := by decide
  show 1 ≤ r.start ∧ r.start ≤ _; omega
 interval := rp.t1.interval
 count := by have := rp.t1.count; show 0 ≤ r.count ∧ r.count ≤ _; omega
 u := by
  obtain ⟨h1, h2⟩ := rp.t2
  have h9 : Cal.daysTo 10000 = 3652059 := by decide
  show 0 ≤ (if r.hasUntil = true then r.untl else 0) ∧ (if r.hasUntil = true then r.untl else 0) ≤ _
  split
  ·rename_i h
   have := (h2 h).2; omega
  ·omega
 mday := by have := (eH rp.t3.h11).2.2; show r.mday.length ≤ _; omega
 wday := by have := nL rp; show r.wday.length ≤ _; omega
 hour := by have := (eH rp.t3.h15).2.2; show r.hour.length ≤ _; omega
 minute := by have := (eH rp.t3.h16).2.2; show r.minute.length ≤ _; omega
 second := by have := (eH rp.t3.h17).2.2; show r.second.length ≤ _; omega
 hours := fun x h => by rcases kK (r := r) rp.t3.h15 oM x h with h | ⟨h, _⟩; exact h; cases h
 minutes := fun x h => by rcases kK (r := r) rp.t3.h16 oM x h with h | ⟨h, _⟩; exact h; cases h
 seconds := fun x h => by rcases kK (r := r) rp.t3.h17 oM x h with h | ⟨h, _⟩; exact h; cases h
theorem tQ {r : Rul} (rp : RightP r) : VbOk (aE r) where
 nums := fun i hi y hy => by
  have e : i = 0 ∨ i = 1 ∨ i = 2 ∨ i = 3 ∨ i = 4 ∨ i = 5 ∨ i = 6 ∨ i = 7 := by omega
  unfold inB
  rcases e with rfl | rfl | rfl | rfl | rfl | rfl | rfl | rfl
  ·exact kK (r := r) rp.t3.h17 oM y hy
  ·exact kK (r := r) rp.t3.h16 oM y hy
  ·exact kK (r := r) rp.t3.h15 oM y hy
  ·exact kK (r := r) rp.t3.h11 oM y hy
  ·exact kK (r := r) rp.t3.h12 oM y hy
  ·rcases kK (r := r) rp.t3.h13 oM y hy with h | ⟨h1, h⟩
   ·left; show 1 ≤ y ∧ y ≤ 53; omega
   ·right; exact ⟨h1, by show -53 ≤ y ∧ y ≤ -1; omega⟩
  ·exact kK (r := r) rp.t3.h10 oM y hy
  ·exact kK (r := r) rp.t3.h9 oM y hy
 days := fun y hy => by
  obtain ⟨i, hi, rfl⟩ := List.mem_iff_getElem.1 hy
  have := (rp.t6 i _ (List.getElem?_eq_getElem hi)).2.2.1
  have h5 : rR r ≤ 53 := by
   unfold rR nR
   split
   ·omega
   ·split
    ·omega
    ·split <;> omega
  exact ⟨Int.le_trans oM this.1, Int.le_trans this.2 h5⟩
 interval := by have := rp.t1.interval; show 0 ≤ r.interval; omega
 lens := fun i hi => by
  have e : i = 0 ∨ i = 1 ∨ i = 2 ∨ i = 3 ∨ i = 4 ∨ i = 5 ∨ i = 6 ∨ i = 7 := by omega
  have := (eH rp.t3.h9).2.2
  have := (eH rp.t3.h10).2.2
  have := (eH rp.t3.h11).2.2
  have := (eH rp.t3.h12).2.2
  have := (eH rp.t3.h13).2.2
  have := (eH rp.t3.h15).2.2
  have := (eH rp.t3.h16).2.2
  have := (eH rp.t3.h17).2.2
  rcases e with rfl | rfl | rfl | rfl | rfl | rfl | rfl | rfl
  ·show r.second.length ≤ _; omega
  ·show r.minute.length ≤ _; omega
  ·show r.hour.length ≤ _; omega
  ·show r.mday.length ≤ _; omega
  ·show r.yday.length ≤ _; omega
  ·show r.weekno.length ≤ _; omega
  ·show r.month.length ≤ _; omega
  ·show r.setpos.length ≤ _; omega
 wlen := by have := nL rp; show r.wday.length ≤ _; omega
theorem tA {r : Rul} (rp : RightP r) : RulOk r := ⟨by have := rp.t1.freq; omega, rp.t1.hs, by have := nL rp; omega⟩
theorem aBk {r : Rul} (rp : RightP r) : r.easter.length ≤ 281 := by
 have h1 : (dW r.easter).length = r.easter.length := by unfold dW; exact List.length_mergeSort _
 have hnd : r.easter.Nodup := by
  unfold List.Nodup
  rw [List.pairwise_iff_getElem]
  intro i j hi hj hij e
  have := (rp.t4 j _ (List.getElem?_eq_getElem hj)).2.2.2
  rw [List.any_eq_false] at this
  refine this r.easter[i] ?_ (beq_iff_eq.2 e)
  rw [List.mem_take_iff_getElem]
  exact ⟨i, by omega, rfl⟩
 have h2 := wA (a := -80) (b := 201) (sY hnd) (fun x hx => by
  obtain ⟨i, hi, rfl⟩ := List.mem_iff_getElem.1 (n6.1 hx)
  have := rp.t4 i _ (List.getElem?_eq_getElem hi)
  have h3 := this.1
  have h4 := this.2.1
  omega) oM
 omega
theorem qI {r : Rul} (rp : RightP r) : (bX (aE r)).length ≤ 100 ∧ (bL (aE r)).length ≤ 100 ∧ (bU (aE r)).length ≤ 100 ∧ (cL (aE r)).length ≤ 100 ∧ (bA (aE r)).length ≤ 100 ∧ (bI (aE r)).length ≤ 100 := by
 refine ⟨?_, ?_, ?_, ?_, ?_, ?_⟩
 ·unfold bX; split
  ·simp
  ·exact (eH rp.t3.h10).2.2
 ·unfold bL; split
  ·simp
  ·exact (eH rp.t3.h11).2.2
 ·unfold bU; split
  ·simp
  ·exact nL rp
 ·unfold cL; split
  ·split <;> simp
  ·exact (eH rp.t3.h15).2.2
 ·unfold bA; split
  ·split <;> simp
  ·exact (eH rp.t3.h16).2.2
 ·unfold bI; split
  ·split <;> simp
  ·exact (eH rp.t3.h17).2.2
theorem qY {r : Rul} (rp : RightP r) (wF : Int → List Int) (nF : Int → Int → List Int) (eF : Int → List Int) : RuLen (bH (aE r) wF nF eF) := by
 obtain ⟨h1, h2, h3, h4, h5, h6⟩ := qI rp
 have := (eH rp.t3.h9).2.2
 have := (eH rp.t3.h12).2.2
 have := (eH rp.t3.h13).2.2
 have := aBk rp
 exact {
  l46 := by show r.setpos.length ≤ _; omega
  l47 := by show (bX (aE r)).length ≤ _; omega
  l48 := Nat.le_trans (List.length_filter_le _ _) oM
  l49 := Nat.le_trans (List.length_filter_le _ _) oM
  l50 := by show r.yday.length ≤ _; omega
  l51 := by show r.weekno.length ≤ _; omega
  l52 := by show (List.map _ _).length ≤ _; rw [List.length_map]; exact Nat.le_trans (List.length_filter_le _ _) oM
  l54 := by show (cL (aE r)).length ≤ _; omega
  l55 := by show (bA (aE r)).length ≤ _; omega
  l56 := by show (bI (aE r)).length ≤ _; omega
  l57 := by show r.easter.length ≤ _; omega }
theorem sJ {o : Opn} (hf : 2 ≤ o.freq) (wF : Int → List Int) (nF : Int → Int → List Int) (eF : Int → List Int) : (bH o wF nF eF).nwd.length = 0 := by
 show ((bU o).filter fun x => !cP o.freq x).length = 0
 rw [List.filter_eq_nil_iff.2 fun x _ => by unfold cP; rw [decide_eq_true oM]; simp]; rfl
theorem qN {r : Rul} (rp : RightP r) (hf : 2 ≤ r.freq) : RuOk (bH (aE r) wO nO wO) := by
 obtain ⟨hy, hw, he⟩ := kV rp hf
 have hnw : (bH (aE r) wO nO wO).nwd.length = 0 := sJ hf wO nO wO
 exact {
  freq := rp.t1.freq
  interval := rp.t1.interval
  wkst := rp.t1.wkst
  until0 := fun ⟨h1, h2⟩ => by
   have h1 : until0 (aE r) = 0 := h1
   have h2 : until1 (aE r) = 0 := h2
   unfold until0 at h1
   unfold until1 at h2
   split at h2
   ·cases h2
   ·rename_i h; rw [if_neg h] at h1; exact h h1
  until1 := by show 0 ≤ until1 (aE r); unfold until1; split <;> decide
  hour := vU (jN rp)
  minute := rS (jN rp)
  second := rL (jN rp)
  wnoF := fun h => absurd hw h
  nwmF := fun h => absurd hnw h
  easF := fun h => absurd he h
  wnoF0 := fun _ _ => rfl
  nwmF0 := fun _ _ _ => rfl
  easF0 := fun _ _ => rfl
  nwd := fun _ => hnw }
theorem kT {r : Rul} (rp : RightP r) : r.setpos.length ≤ 1000 ∧ ∀ q ∈ r.setpos, -1000 ≤ q ∧ q ≤ 1000 :=
 ⟨by have := (eH rp.t3.h9).2.2; omega, fun q hq => by rcases kK (r := r) rp.t3.h9 oM q hq with h | ⟨_, h⟩ <;> omega⟩
theorem wR {r : Rul} (rp : RightP r) : (raw (aE r)).length ≤ 1000000000 := by
 obtain ⟨_, _, _, h4, h5, h6⟩ := qI rp
 have key : ∀ (l : List Int) (f : Int → List Int) (m : Nat), (∀ x, (f x).length ≤ m) → (l.flatMap f).length ≤ l.length * m := by
  intro l f m hf
  induction l with
  | nil => simp
  | cons x l ih => rw [List.flatMap_cons, List.length_append, List.length_cons, Nat.succ_mul]; have := hf x; omega
 unfold raw
 refine Nat.le_trans (key _ _ 10000 fun h => Nat.le_trans (key _ _ 100 fun m => by rw [List.length_map]; exact h6) oM) oM
theorem aH6 {r : Rul} : (it0 (aE r) (bH (aE r) wO nO wO)).wd = r.start / 86400 % 7 := by
 show ((r.start / 86400 + 1) % 7 + 6) % 7 = _; omega
theorem aCi {o : Opn} {q : Ru} : Cal.dayNo (it0 o q).y (it0 o q).mo (it0 o q).d = o.d / 86400 := pB _
theorem aHb {r : Rul} (hf : r.freq = 2 ∨ r.freq = 3) : R23 r 0 (it0 (aE r) (bH (aE r) wO nO wO)) := by
 refine ⟨rfl, ?_, fun _ => by rw [aCi, aH6]; rfl⟩
 rw [aCi]
 show r.start / 86400 = _
 rcases hf with hf | hf
 ·rw [if_pos ⟨hf, rfl⟩]
 ·rw [if_neg oM, qV hf]; omega
theorem aE6 {r : Rul} (rp : RightP r) (hf : r.freq = 2 ∨ r.freq = 3) : ¬eK (aZ r) 0 := fun h => by
 have h := (uE oM _).1 h
 have hs := rp.t1.start
 have h9 : Cal.daysTo 9000 = 3286817 := by decide
 rcases hf with hf | hf
 ·rw [wN hf] at h; omega
 ·rw [qV hf] at h; omega
def qB (r : Rul) (dayF : Int → Bool) : Prop := ∀ (most : Nat), most ≤ 1000000 → ∀ l, lI r dayF most l → ∀ (x : Av) (w : World), InL w r x → Calls Tryz.prog 18 #[.agg (bC r x).toArray, iV most] w fun e w' => ∃ p c, e = .returned (.tuple #[.slice p l.length c, .bool true]) ∧ fL w w' (.slice p l.length c) 2 1 l.length (l.map iV)
theorem aBj {r : Rul} (rp : RightP r) (hf : r.freq = 3) : qB r (cW (aZ r)) := by
 intro most hm l h x w hin
 have hr := qN rp oM
 obtain ⟨hy, hw, he⟩ := kV rp oM
 have hnw : (bH (aE r) wO nO wO).nwd.length = 0 := sJ (by show 2 ≤ r.freq; omega) wO nO wO
 have hpres : vA (bH (aE r) wO nO wO) := tJ hr (.inr (.inr hf))
 obtain ⟨N, hT⟩ := qZ rp (aD4 rp (.inr hf) fun _ _ => rfl) hpres (z6 rp (aBw rp oM) (fun h => by omega)) (aHb (.inr hf)) (aE6 rp (.inr hf)) hm h
 have hs := rp.t1.start
 have h9 : Cal.daysTo 9000 = 3286817 := by decide
 have hit := vN (jN rp) (show r.freq < 4 by omega) hw hnw he (fun _ => rfl) (fun _ _ => rfl) (fun _ => rfl) (qY rp wO nO wO) (show (aE r).d < 315537897600 by show r.start < _; omega)
 exact m0 (jN rp) hit (tA rp) (tQ rp) (fun F w0 => tT (wR rp) F w0) hr
  ⟨(kT rp).1, (kT rp).2, sX hr hf hw hnw he⟩ hpres hm hT w hin
theorem yN {r : Rul} (rp : RightP r) (hf : r.freq = 2 ∨ r.freq = 3) : qB r (cW (aZ r)) := by
 intro most hm l h x w hin
 have hr := qN rp oM
 obtain ⟨hy, hw, he⟩ := kV rp oM
 have hnw : (bH (aE r) wO nO wO).nwd.length = 0 := sJ (by show 2 ≤ r.freq; omega) wO nO wO
 have hpres : vA (bH (aE r) wO nO wO) := tJ hr (.inr hf)
 obtain ⟨N, hT⟩ := qZ rp (aD4 rp hf fun _ _ => rfl) hpres (z6 rp (aBw rp oM) (fun h => by omega)) (aHb hf) (aE6 rp hf) hm h
 have hs := rp.t1.start
 have h9 : Cal.daysTo 9000 = 3286817 := by decide
 have hit := vN (jN rp) (show r.freq < 4 by omega) hw hnw he (fun _ => rfl) (fun _ _ => rfl) (fun _ => rfl) (qY rp wO nO wO) (show (aE r).d < 315537897600 by show r.start < _; omega)
 exact m0 (jN rp) hit (tA rp) (tQ rp) (fun F w0 => tT (wR rp) F w0) hr
  ⟨(kT rp).1, (kT rp).2, aDv hr (.inr hf) hw hnw he⟩ hpres hm hT w hin
end Go.Proofs.YtdbbifbmkfmbkaaGreat
namespace Go.Proofs.YtdbbifbmkfmbkaaGreat
open Go.Md Go.Tab Go.Fr
theorem tO {q : Rul} {dayF : Int → Bool} {en most k : Int} {o o' l D : List Int} (h : ¬eK q k) (hd : eJ q dayF k = D) (e : dS q q.start en most o D = (o', true)) (hn : DatesP q dayF en most (k + 1) o' l) : DatesP q dayF en most k o l := by
 subst hd
 exact .more h (by rw [e]) (by rw [e]; exact hn)
theorem aBm {q : Rul} {dayF : Int → Bool} {en most k : Int} {o o' D : List Int} (h : ¬eK q k) (hd : eJ q dayF k = D) (e : dS q q.start en most o D = (o', false)) : DatesP q dayF en most k o o' := by
 subst hd
 have := DatesP.stop (dayF := dayF) h (by rw [e])
 rwa [e] at this
def fS (st c : Int) : Rul := ⟨3, true, st, 1, 0, c, false, 0, [], [], [], [], [], [], [], [], [], []⟩
theorem yO {st c : Int} (hs : 1 ≤ st ∧ st < 86400 * 3000000) (hc : 0 ≤ c ∧ c ≤ 100) : RightP (fS st c) where
 t1 := ⟨(show (0 : Int) ≤ 3 ∧ (3 : Int) ≤ 6 by decide), rfl, ⟨hs.1, (show st < Cal.daysTo 9000 * 86400 from by rw [show Cal.daysTo 9000 = 3286817 by decide]; omega)⟩, (show (1 : Int) ≤ 1 ∧ (1 : Int) ≤ 1000 by decide), (show (0 : Int) ≤ 0 ∧ (0 : Int) ≤ 6 by decide), ⟨hc.1, by show c ≤ _; omega⟩⟩
 t2 := ⟨fun _ => rfl, fun h => by cases h⟩
 t3 := ⟨rfl, rfl, rfl, rfl, rfl, rfl, rfl, rfl⟩
 t4 := fun i y h => by simp [fS] at h
 t5 := ⟨fun _ => ⟨rfl, rfl⟩, fun _ => rfl⟩
 t6 := fun i y h => by simp [fS] at h
 t7 := fun h => by cases h
 t8 := fun h => absurd h (by show ¬ (4 : Int) ≤ 3; decide)
 t9 := .inl rfl
theorem o5 {st c : Int} (hs : 1 ≤ st ∧ st < 86400 * 3000000) (hc : 0 ≤ c ∧ c ≤ 100) (k : Int) (hk : 0 ≤ k) : eJ (aZ (fS st c)) (cW (aZ (fS st c))) k = [st + k * 86400] := by
 obtain ⟨e1, e2, e3, e4, e5, e6, _⟩ := dG (fS st c)
 obtain ⟨g1, g2, g3, g4, g5, g6⟩ := sM (fS st c)
 have g4 : (aZ (fS st c)).hour = [st % 86400 / 3600] := g4
 have g5 : (aZ (fS st c)).minute = [st % 86400 / 60 % 60] := g5
 have g6 : (aZ (fS st c)).second = [st % 86400 % 60] := g6
 have hF := qV (r := fS st c) rfl k
 have hF : cF (aZ (fS st c)) k = st / 86400 + k := hF.trans (by show st / 86400 + k * 1 = _; omega)
 have hm : iS (aZ (fS st c)) k = 1 := by unfold iS; rw [e2]; rfl
 have hday : ∀ d, cW (aZ (fS st c)) d = true := fun d => by
  unfold cW
  rw [g1, g2, g3]
  rfl
 unfold eJ
 rw [if_neg (by rw [e2]; show ¬ (4 : Int) ≤ 3; decide), hm, hF]
 show iX _ _ _ ++ [] = _
 rw [List.append_nil]
 unfold iX
 rw [if_pos ⟨by simp only [Int.natCast_zero]; omega, hday _⟩, g4, g5, g6, vT (PartOk.one oM) (PartOk.one oM) (PartOk.one oM)]
 have hts : l6 [st % 86400 / 3600] [st % 86400 / 60 % 60] [st % 86400 % 60] = [st % 86400] := by
  refine SI.ext (oD (PartOk.one oM) (PartOk.one oM) (PartOk.one oM)) (by simp [SI]) fun t => ?_
  rw [nT (PartOk.one oM) (PartOk.one oM) (PartOk.one oM)]
  simp only [List.mem_singleton]
  omega
 rw [hts]
 simp only [List.map_cons, List.map_nil, List.cons.injEq, and_true, Int.natCast_zero]
 omega
theorem pD {st c : Int} (hs : 1 ≤ st ∧ st < 86400 * 3000000) (k : Int) (hk : 0 ≤ k ∧ k ≤ 100) : ¬eK (aZ (fS st c)) k := fun h => by
 have h := (uE (r := fS st c) (show (2 : Int) ≤ 3 by decide) k).1 h
 have hF := qV (r := fS st c) rfl k
 have hF : cF (aZ (fS st c)) k = st / 86400 + k := hF.trans (by show st / 86400 + k * 1 = _; omega)
 omega
theorem qO {st c most : Int} {o : List Int} {t : Int} (ht : st ≤ t ∧ t ≤ st + 9223372036) (h1 : (o.length : Int) + 1 ≤ most) (h2 : c = 0 ∨ (o.length : Int) + 1 ≤ c) (hc : 0 ≤ c) : dS (aZ (fS st c)) (aZ (fS st c)).start (dM (fS st c)) most o [t] = (o ++ [t], decide ((o.length : Int) + 1 < most) && (c == 0 || decide ((o.length : Int) + 1 < c))) := by
 obtain ⟨e1, e2, e3, e4, e5, e6, _⟩ := dG (fS st c)
 unfold dS
 rw [e5, e6, e1]
 have hp : dJ [t] (fS st c).setpos = [t] := sR _ rfl
 have hl : dM (fS st c) = st + 9223372036 := rfl
 rw [hp, hl]
 have : cI (fS st c).count (fS st c).start (st + 9223372036) most o [t] = (o ++ [t], true) := by
  rw [fP, if_neg (by show ¬ t < st; omega), if_neg]
  ·rfl
  ·show ¬ (_ ∨ (0 < c ∧ _ = c) ∨ _)
   omega
 rw [this]
 simp only [Bool.true_and]
 unfold iU
 rw [List.length_append, List.length_singleton]
 rfl
theorem ref3 {st c most : Int} (hs : 1 ≤ st ∧ st < 86400 * 3000000) (hc : (c = 0 ∧ most = 3) ∨ (c = 3 ∧ 3 ≤ most)) : lI (fS st c) (cW (aZ (fS st c))) most [st, st + 86400, st + 172800] := by
 have hcb : 0 ≤ c ∧ c ≤ 100 := by omega
 unfold lI
 refine tO (o' := [st]) (pD hs 0 oM) (o5 hs hcb 0 oM) ?_ (tO (o' := [st, st + 86400]) (pD hs 1 oM) (o5 hs hcb 1 oM) ?_ (aBm (pD hs 2 oM) (o5 hs hcb 2 oM) ?_))
 ·rw [qO oM (by simp; omega) (by simp; omega) hcb.1]
  rcases hc with ⟨rfl, rfl⟩ | ⟨rfl, h⟩ <;> simp <;> omega
 ·rw [qO oM (by simp; omega) (by simp; omega) hcb.1]
  rcases hc with ⟨rfl, rfl⟩ | ⟨rfl, h⟩ <;> simp <;> omega
 ·rw [qO oM (by simp; omega) (by simp; omega) hcb.1]
  rcases hc with ⟨rfl, rfl⟩ | ⟨rfl, h⟩ <;> simp
end Go.Proofs.YtdbbifbmkfmbkaaGreat
namespace Go.Proofs.YtdbbifbmkfmbkaaGreat
open Go.RowKit Go.Fr Go.Tab
section
variable {F : Nat → Prop} {w0 : World} {B : LN} {H : LV} {S : LS}
open Go.Md
def xO : Av := ⟨none, none, none, none, none, none, none, none, none, none, 0, 0, 0, 0, 0, 0, 0, 0, 0, 0, none, none, none, none, none, none, none, none, none, none, none, 0, 0, 0, 0, 0, 0, 0, 0, 0, 0, 0⟩
theorem aEa (st c : Int) (w : World) : InL w (fS st c) xO := ⟨Ints.nil, Ints.nil, Ints.nil, Ints.nil, Ints.nil, ⟨none, 0, rfl, fun i x h => by simp [fS] at h⟩, Ints.nil, Ints.nil, Ints.nil, Ints.nil⟩
theorem InL.day {w : World} {r : Rul} {x : Av} {p : Option Addr} {c : Nat} (h : InL w r x) (hp : Prs w (.slice p r.wday.length c) r.wday) : InL w r { x with p14 := p, c14 := c } := ⟨h.i9, h.i10, h.i11, h.i12, h.i13, hp, h.i15, h.i16, h.i17, h.i18⟩
theorem rY {r : Rul} (hl : LenL r) : LenL (cD r) := ⟨hl.l9, hl.l10, hl.l11, hl.l12, hl.l13, hl.l14, hl.l15, hl.l16, hl.l17, hl.l18⟩
theorem iO (w : World) : Calls Tryz.prog 17 #[] w fun e w' => e = .returned (.bool true) ∧ Below w.heap.size w w' := by
 have href : lI (fS 63000000000 3) (cW (aZ (fS 63000000000 3))) 9 ([63000000000, 63000086400, 63000172800] : List Int) := ref3 dE (.inr dE)
 refine aI (args := []) (L := []) (N := 14) Tryz.func17 rfl rfl ble rfl (sS w) ?_
 refine g7 ?_
 refine rl (gP (vs := [(0, .int .u8 3), (1, .bool true), (2, iV 63000000000), (3, iV 1), (5, iV 3)]) (v := .agg (bC (fS 63000000000 3) xO).toArray) rfl kW) ?_
 refine gL (crx (ι := Option Addr × Nat) 10 (fun y => .tuple #[.slice y.1 3 y.2, .bool true]) (fun _ => True) (fun y => ⟨.slice y.1 3 y.2, 2, 1, 3, (([63000000000, 63000086400, 63000172800] : List Int).map iV)⟩) rfl (fun w_ s_ => (aBj (yO dE dE) rfl 9 dE ([63000000000, 63000086400, 63000172800] : List Int) href xO w_ (aEa _ _ w_)).mono fun e w' ⟨p, c, h1, h2⟩ => ⟨(p, c), trivial, h1, h2⟩) (fun | (pr, cr), _ => ?_))
 refine g14 ?_
 refine gL (eG 11 (e := 2) (sz := 1) (n := 3) (vs := [(0, iV 63000000000), (1, iV 63000086400), (2, iV 63000172800)]) (cs := [iV 63000000000, iV 63000086400, iV 63000172800]) dE rfl kW rfl dE dE rfl (fun b1_ hbb1_ => ?_))
 refine g1 ?_
 refine gL (cvo (v := .bool true) rfl (fun w_ s_ => rF _ _ _ _ ([63000000000, 63000086400, 63000172800] : List Int) dE w_ (s_.ints 10 (xs := ([63000000000, 63000086400, 63000172800] : List Int)) rfl) (s_.ints 11 (xs := ([63000000000, 63000086400, 63000172800] : List Int)) rfl)) ?_)
 refine g5 ?_
 exact gR rfl fun w_ s_ => ⟨rfl, s_.aJ0⟩
end
end Go.Proofs.YtdbbifbmkfmbkaaGreat
namespace Go.Proofs.YtdbbifbmkfmbkaaGreat
open Go.RowKit Go.Fr Go.Tab
section
variable {F : Nat → Prop} {w0 : World} {B : LN} {H : LV} {S : LS}
theorem Sees.cut0 {w : World} {k : Nat} {p : Option Addr} {n c : Nat} {e : TypeId} {sz : Nat} {xs : List Value} (s : Sees F w0 B H S w) (hk : lkp k S = some ⟨.slice p n c, e, sz, n, xs⟩) : Sees F w0 B H ((k, ⟨.slice p 0 c, e, sz, 0, []⟩) :: S) w :=
 s.slice (s' := ⟨.slice p 0 c, e, sz, 0, []⟩) (old := (Value.slice p n c).ownBlock) (.inr ⟨_, hk, rfl⟩) ⟨rfl, rfl, rfl, Nat.le_refl _, fun _ _ _ => rfl⟩ (by
  rcases (s.slcs k _ hk).2 with ⟨e1, e2⟩ | ⟨g, cap, cur, e1, h1, h2, h3, h4, h5, h6⟩
  ·injection e1 with e3 e4 e5
   subst e3 e5
   exact ⟨by simp, .inl ⟨rfl, rfl⟩⟩
  ·injection e1 with e3 e4 e5
   subst e3 e5
   exact ⟨by simp, .inr ⟨g, c, cur, rfl, h1, h2, Nat.zero_le _, h4, h5, by simp⟩⟩) (by
  cases p with
  | none => exact .inl rfl
  | some a => exact .inr (.inl ⟨by simp [Value.ownBlock], rfl⟩))
theorem pC {it : Nat} (hB : lkp 0 B = some it) {p : Option Addr} {n c m : Nat} {xs : List Value} (h23 : lkp (ky 0 23) H = some (.slice p n c)) (hS2 : lkp 2 S = some ⟨.slice p n c, 57, 2, n, xs⟩) (hn : n ≤ 1000000000) (hm : m ≤ 1000000) : ∀ w, Sees F w0 B H S w → Calls Tryz.prog 95 #[.pointer (some ⟨it, 23, none⟩), iV (m : Int)] w fun e w' => ∃ p' c', e = .returned (.tuple #[]) ∧ Sees F w0 B ((ky 0 23, .slice p' 0 c') :: H) ((2, ⟨.slice p' 0 c', 57, 2, 0, []⟩) :: S) w' := by
 intro w s
 refine aI (args := [.pointer (some ⟨it, 23, none⟩), iV ((m : Int))]) (L := [(0, .pointer (some ⟨it, 23, none⟩)), (1, iV ((m : Int)))]) (N := 20) Tryz.func95 rfl rfl ble rfl s ?_
 refine g5 ?_
 refine rZ5 (rld 0 rfl hB h23) ?_
 refine aB rfl (fun hc1 => ?_) (fun hc2 => ?_)
 ·refine g4 ?_
  refine gL (uA 2 (e := 57) (sz := 2) (by_ := 16) (zs := [iV 0, iV 0]) (c := m) dE kR rfl rfl oM oM (fun bm => ?_))
  refine g1 ?_
  refine gL (sto 0 rfl rfl hB h23 ?_)
  refine g4 ?_
  exact d7 (by first | exact .inl rfl | exact .inr rfl) rfl fun w_ s_ => ⟨(some ⟨bm, 0, none⟩), m, rfl, s_⟩
 ·refine g6 ?_
  refine rl (rld 0 rfl hB h23) ?_
  refine rZ1 ((dX (e := 57) (n := 2) kR rfl rfl oM oM).to (v' := .slice p 0 c) rfl) ?_
  refine gL (sto 0 rfl rfl hB h23 ?_)
  refine g1 ?_
  exact d7 (by first | exact .inl rfl | exact .inr rfl) rfl fun w_ s_ => ⟨p, c, rfl, (Sees.cut0 s_ hS2)⟩
open Go.Md
theorem rI {S0 : LS} {H0 : LV} {r : Ru} {l : Ra} {it rb : Nat} {s : It} {a : Ad} (st : St F w0 S0 H0 it rb r l s a B H S) (hr : RuOk r) (hh : 0 ≤ s.h ∧ s.h ≤ 23) (hmi : 0 ≤ s.mi ∧ s.mi ≤ 59) (hse : 0 ≤ s.s ∧ s.s ≤ 59) (htn : s.ts.length ≤ 1000000000) (hlm : r.minute.length ≤ 100) (hls : r.second.length ≤ 100) (hfr : r.freq = 6) : ∀ w, Sees F w0 B H S w → Calls Tryz.prog 52 #[.pointer (some ⟨it, 7, none⟩), .pointer (some ⟨it, 23, none⟩), iV (r.freq), iV (s.h), iV (s.mi), iV (s.s)] w fun e w' => ∃ p c, e = .returned (.tuple #[]) ∧ Sees F w0 B ((ky 0 23, .slice p (Md.fill r s).length c) :: H) ((2, ⟨.slice p (Md.fill r s).length c, 57, 2, (Md.fill r s).length, (bN (Md.fill r s))⟩) :: S) w' := by
 intro w s_
 refine aI (args := [.pointer (some ⟨it, 7, none⟩), .pointer (some ⟨it, 23, none⟩), iV (r.freq), iV (s.h), iV (s.mi), iV (s.s)]) (L := [(0, .pointer (some ⟨it, 7, none⟩)), (1, .pointer (some ⟨it, 23, none⟩)), (2, iV (r.freq)), (3, iV (s.h)), (4, iV (s.mi)), (5, iV (s.s))]) (N := 164) Tryz.func52 rfl rfl ble rfl s_ ?_
 refine g8 ?_
 refine rl ((aR rfl rfl).to (v' := .bool false) (cB (by rw [hfr]; rfl))) ?_
 refine g3 ?_
 refine aP rfl rfl ?_
 refine g2 ?_
 refine rl ((aR rfl rfl).to (v' := .bool false) (cB (by rw [hfr]; rfl))) ?_
 refine g3 ?_
 refine aP rfl rfl ?_
 refine g2 ?_
 refine wZ7 ((aR rfl rfl).to (v' := .bool true) (cB (by rw [hfr]; rfl))) ?_
 refine gL (dR (ι := Option Addr × Nat) (fun _ => .tuple #[]) (fun _ => True) (fun _ => B) (fun y => (ky 0 23, .slice y.1 0 y.2) :: H) (fun y => (2, ⟨.slice y.1 0 y.2, 57, 2, 0, []⟩) :: S) dE kR rfl (fun w_ s_ => (pC (m := 1) st.hB st.h23 st.hS2 htn oM w_ s_).mono fun e w' ⟨p, c, h1, h2⟩ => ⟨(p, c), trivial, h1, h2⟩) (fun | (p0, c0), _ => ?_))
 refine g2 ?_
 refine jJ (fun i => i == 19) kR ?_
 refine gr 0 rfl (bD rfl) ?_
 refine gr 1 rfl (bD rfl) ?_
 refine gr 2 rfl (bW rfl) ?_
 refine gr 3 rfl (rld 0 rfl st.hB rfl) ?_
 refine gr 4 rfl (bD rfl) ?_
 refine gr 5 rfl (bD rfl) ?_
 refine gr 6 rfl (bD rfl) ?_
 refine gr 7 rfl (bD rfl) ?_
 refine gr 8 rfl (bW rfl) ?_
 refine gr 9 rfl (rfa 0) ?_
 refine gr 10 rfl (rld 0 rfl st.hB st.h7) ?_
 refine gr 11 rfl (bW rfl) ?_
 refine gr 12 rfl (rfa 39) ?_
 refine gr 13 rfl (aV 1 rfl st.hR st.r39 st.r40 kR dE) ?_
 refine gn 14 rfl (cvo rfl (fun w_ s_ => dN _ _ w_) (gk ?_))
 refine gn 15 rfl (cvo (v := .agg #[iV (s.h * 3600 + s.mi * 60 + s.s), iV 0]) rfl (fun w_ s_ => (cY 1 1 1 _ _ _ 0 oM oM oM oM oM oM oM w_).mono fun e_ w2_ h_ => ⟨h_.1.trans (congrArg Ending.returned (by rw [show Cal.dayNo 1 1 1 = 0 from rfl, show (0 : Int) * 86400 + s.h * 3600 + s.mi * 60 + s.s = s.h * 3600 + s.mi * 60 + s.s by omega])), h_.2⟩) (gk ?_))
 refine gn 16 rfl (dK 60 (e := 57) (sz := 2) (by_ := 16) (zs := [iV 0, iV 0]) dE kR rfl dE dE rfl rfl rfl (fun bo => gk ?_))
 refine gn 17 rfl (cU 2 60 (e := 57) (sz := 2) (by_ := 16) (zs := [iV 0, iV 0]) dE kR rfl dE rfl rfl rfl rfl ⟨rfl, rfl⟩ ⟨rfl, rfl⟩ xA sO sO (fun q3 e3 => gk ?_))
 refine gn 18 rfl (fU dE (bW rfl) (gk ?_))
 refine gn 19 rfl (sto 0 rfl rfl st.hB rfl (gk ?_))
 refine eE kR ?_
 refine g1 ?_
 have hF : Md.fill r s = [s.h * 3600 + s.mi * 60 + s.s] := by unfold Md.fill; rw [if_neg oM, if_neg oM]
 rw [hF]
 exact d7 (by first | exact .inl rfl | exact .inr rfl) rfl fun w s => ⟨_, _, rfl, s.low 40 ((st.lim.aJ1 dE dE).aJ2 dE) agx agx agx⟩
theorem rM {S0 : LS} {H0 : LV} {r : Ru} {l : Ra} {it rb : Nat} {s : It} {a : Ad} (st : St F w0 S0 H0 it rb r l s a B H S) (hr : RuOk r) (hh : 0 ≤ s.h ∧ s.h ≤ 23) (hmi : 0 ≤ s.mi ∧ s.mi ≤ 59) (hse : 0 ≤ s.s ∧ s.s ≤ 59) (htn : s.ts.length ≤ 1000000000) (hlm : r.minute.length ≤ 100) (hls : r.second.length ≤ 100) (hfr : r.freq = 5) : ∀ w, Sees F w0 B H S w → Calls Tryz.prog 52 #[.pointer (some ⟨it, 7, none⟩), .pointer (some ⟨it, 23, none⟩), iV (r.freq), iV (s.h), iV (s.mi), iV (s.s)] w fun e w' => ∃ p c, e = .returned (.tuple #[]) ∧ Sees F w0 B ((ky 0 23, .slice p (Md.fill r s).length c) :: H) ((2, ⟨.slice p (Md.fill r s).length c, 57, 2, (Md.fill r s).length, (bN (Md.fill r s))⟩) :: S) w' := by
 intro w s_
 refine aI (args := [.pointer (some ⟨it, 7, none⟩), .pointer (some ⟨it, 23, none⟩), iV (r.freq), iV (s.h), iV (s.mi), iV (s.s)]) (L := [(0, .pointer (some ⟨it, 7, none⟩)), (1, .pointer (some ⟨it, 23, none⟩)), (2, iV (r.freq)), (3, iV (s.h)), (4, iV (s.mi)), (5, iV (s.s))]) (N := 164) Tryz.func52 rfl rfl ble rfl s_ ?_
 refine g8 ?_
 refine rl ((aR rfl rfl).to (v' := .bool false) (cB (by rw [hfr]; rfl))) ?_
 refine g3 ?_
 refine aP rfl rfl ?_
 refine g2 ?_
 refine rl ((aR rfl rfl).to (v' := .bool true) (cB (by rw [hfr]; rfl))) ?_
 refine g3 ?_
 refine aY rfl rfl ?_
 refine g5 ?_
 refine rl (rfa 0) ?_
 refine rZ1 (rld 0 rfl st.hB st.h7) ?_
 refine rl (rfa 56) ?_
 refine rZ1 (rld 1 rfl st.hR st.r56) ?_
 refine gL (dR (ι := Option Addr × Nat) (fun _ => .tuple #[]) (fun _ => True) (fun _ => B) (fun y => (ky 0 23, .slice y.1 0 y.2) :: H) (fun y => (2, ⟨.slice y.1 0 y.2, 57, 2, 0, []⟩) :: S) dE kR rfl (fun w_ s_ => (pC (m := r.second.length) st.hB st.h23 st.hS2 htn oM w_ s_).mono fun e w' ⟨p, c, h1, h2⟩ => ⟨(p, c), trivial, h1, h2⟩) (fun | (p0, c0), _ => ?_))
 refine g7 ?_
 refine rl (rfa 0) ?_
 refine rZ1 (rld 0 rfl st.hB st.h7) ?_
 refine rl (rfa 56) ?_
 refine rZ5 (rld 1 rfl st.hR st.r56) ?_
 refine bJ (ι := (Nat) × (Option Addr) × (Nat) × (Nat) × (List Value) × (List Int)) (fun | ⟨k, q, e, n, xs, ll⟩ => r.second.length - k) (fun | ⟨k, q, e, n, xs, ll⟩ => (k ≤ r.second.length) ∧ (ll = (r.second.take k).map (fun sc => s.h * 3600 + s.mi * 60 + sc)) ∧ (n = ll.length) ∧ (xs = bN ll) ∧ (n ≤ k)) (fun | ⟨k, q, e, n, xs, ll⟩ => [(0, .pointer (some ⟨it, 7, none⟩)), (1, .pointer (some ⟨it, 23, none⟩)), (2, iV (r.freq)), (3, iV (s.h)), (4, iV (s.mi)), (5, iV (s.s)), (110, .slice l.p56 r.second.length l.c56), (111, iV (r.second.length)), (112, iV k)]) (fun | ⟨k, q, e, n, xs, ll⟩ => B) (fun | ⟨k, q, e, n, xs, ll⟩ => (ky 0 23, .slice q n e) :: H) (fun | ⟨k, q, e, n, xs, ll⟩ => (2, ⟨.slice q n e, 57, 2, n, xs⟩) :: S) ⟨0, p0, c0, 0, [], []⟩ ⟨Nat.zero_le _, rfl, rfl, rfl, Nat.zero_le _⟩ kns (fun w s => by exact s) ?_
 rintro ⟨k, q, e, n, xs, ll⟩ ⟨hk, hl, hn, hxs, hb⟩
 show GC _ _ _ _ [(0, .pointer (some ⟨it, 7, none⟩)), (1, .pointer (some ⟨it, 23, none⟩)), (2, iV (r.freq)), (3, iV (s.h)), (4, iV (s.mi)), (5, iV (s.s)), (110, .slice l.p56 r.second.length l.c56), (111, iV (r.second.length)), (112, iV k)] _ _ (B) ((ky 0 23, .slice q n e) :: H) ((2, ⟨.slice q n e, 57, 2, n, xs⟩) :: S)
 refine g6 ?_
 refine aB rfl (fun hc1 => ?_) (fun hc2 => ?_)
 ·have hlt_k : k < r.second.length := by have := oT hc1; omega
  obtain ⟨sc, hx_sc⟩ : ∃ y, r.second[k]? = some y := ⟨_, List.getElem?_eq_getElem hlt_k⟩
  refine eA (fun w s => (st.hI56.to aG).head s oM) fun hh_ => ?_
  obtain ⟨b_sc, o_sc, hp_sc⟩ := hh_
  have src_sc := st.hI56
  rw [hp_sc] at src_sc
  have hsr := hr.second sc (List.mem_of_getElem? hx_sc)
  refine g6 ?_
  refine rl (aF (e := 3) (n := 1) kR (congrArg (fun p => some (Value.slice p _ _)) hp_sc) rfl oM oM) ?_
  refine rZ3 (fR kR rfl (fun w s => src_sc.cell hx_sc aG s)) ?_
  refine jJ (fun i => i == 19) kR ?_
  refine gr 0 rfl (bD rfl) ?_
  refine gr 1 rfl (bD rfl) ?_
  refine gr 2 rfl (bW rfl) ?_
  refine gr 3 rfl (rld 0 rfl st.hB rfl) ?_
  refine gr 4 rfl (bD rfl) ?_
  refine gr 5 rfl (bD rfl) ?_
  refine gr 6 rfl (bD rfl) ?_
  refine gr 7 rfl (bD rfl) ?_
  refine gr 8 rfl (bW rfl) ?_
  refine gr 9 rfl (rfa 0) ?_
  refine gr 10 rfl (rld 0 rfl st.hB st.h7) ?_
  refine gr 11 rfl (bW rfl) ?_
  refine gr 12 rfl (rfa 39) ?_
  refine gr 13 rfl (aV 1 rfl st.hR st.r39 st.r40 kR dE) ?_
  refine gn 14 rfl (cvo rfl (fun w_ s_ => dN _ _ w_) (gk ?_))
  refine gn 15 rfl (cvo (v := .agg #[iV (s.h * 3600 + s.mi * 60 + sc), iV 0]) rfl (fun w_ s_ => (cY 1 1 1 _ _ _ 0 oM oM oM oM oM oM oM w_).mono fun e_ w2_ h_ => ⟨h_.1.trans (congrArg Ending.returned (by rw [show Cal.dayNo 1 1 1 = 0 from rfl, show (0 : Int) * 86400 + s.h * 3600 + s.mi * 60 + sc = s.h * 3600 + s.mi * 60 + sc by omega])), h_.2⟩) (gk ?_))
  refine gn 16 rfl (dK 60 (e := 57) (sz := 2) (by_ := 16) (zs := [iV 0, iV 0]) dE kR rfl dE dE rfl rfl rfl (fun bo => gk ?_))
  refine gn 17 rfl (cU 2 60 (e := 57) (sz := 2) (by_ := 16) (zs := [iV 0, iV 0]) dE kR rfl dE rfl rfl rfl rfl ⟨rfl, rfl⟩ ⟨rfl, rfl⟩ xA sO sO (fun q3 e3 => gk ?_))
  refine gn 18 rfl (fU dE (bW rfl) (gk ?_))
  refine gn 19 rfl (sto 0 rfl rfl st.hB rfl (gk ?_))
  refine eE kR ?_
  refine g6 ?_
  refine aQ ⟨k + 1, q3, e3, n + 1, xs ++ [iV (s.h * 3600 + s.mi * 60 + sc), iV 0], ll ++ [s.h * 3600 + s.mi * 60 + sc]⟩ sO ⟨by omega, by rw [hl, List.take_add_one, hx_sc]; simp only [Option.toList_some, List.map_append, List.map_cons, List.map_nil], by rw [List.length_append, hn]; rfl, by rw [hxs]; exact eM _ _, by omega⟩ kns (fun w s => by exact (s.low 40 ((st.lim.aJ1 dE dE).aJ2 dE) agx agx agx))
 ·have hge_k : ¬ k < r.second.length := by have := oF hc2; omega
  obtain rfl : k = r.second.length := by omega
  rw [List.take_length] at hl
  subst hn hxs
  refine g8 ?_
  refine rl (rld 0 rfl st.hB rfl) ?_
  refine rl ((gN (r := .iface 122 (.slice q ll.length e)) rfl kW)) ?_
  refine gL (dR (ι := Unit) (fun _ => .tuple #[]) (fun _ => True) (fun _ => B) (fun _ => (ky 0 23, .slice q ll.length e) :: H) (fun _ => (2, ⟨.slice q ll.length e, 57, 2, ll.length, (bN (dW ll))⟩) :: (2, ⟨.slice q ll.length e, 57, 2, ll.length, (bN ll)⟩) :: S) dE kR rfl (fun w_ s_ => (mI (t := 2) (ts := ll) dE oM (((st.lim.mono dE).aJ1 dE dE).aJ2 dE) rfl w_ s_).mono fun e_ w2_ h_ => ⟨(), trivial, h_.1, h_.2⟩) (fun _ _ => ?_))
  refine g2 ?_
  have hF : Md.fill r s = dW ll := by unfold Md.fill l6; rw [if_neg oM, if_pos hfr, hl]; simp
  have hlen : (dW ll).length = ll.length := by unfold dW; rw [List.length_mergeSort]
  rw [hF, hlen]
  exact d7 (by first | exact .inl rfl | exact .inr rfl) rfl fun w s => ⟨_, _, rfl, s.low 40 ((st.lim.aJ1 dE dE).aJ2 dE) agx agx agx⟩
theorem rV {S0 : LS} {H0 : LV} {r : Ru} {l : Ra} {it rb : Nat} {s : It} {a : Ad} (st : St F w0 S0 H0 it rb r l s a B H S) (hr : RuOk r) (hh : 0 ≤ s.h ∧ s.h ≤ 23) (hmi : 0 ≤ s.mi ∧ s.mi ≤ 59) (hse : 0 ≤ s.s ∧ s.s ≤ 59) (htn : s.ts.length ≤ 1000000000) (hlm : r.minute.length ≤ 100) (hls : r.second.length ≤ 100) (hfr : r.freq = 4) : ∀ w, Sees F w0 B H S w → Calls Tryz.prog 52 #[.pointer (some ⟨it, 7, none⟩), .pointer (some ⟨it, 23, none⟩), iV (r.freq), iV (s.h), iV (s.mi), iV (s.s)] w fun e w' => ∃ p c, e = .returned (.tuple #[]) ∧ Sees F w0 B ((ky 0 23, .slice p (Md.fill r s).length c) :: H) ((2, ⟨.slice p (Md.fill r s).length c, 57, 2, (Md.fill r s).length, (bN (Md.fill r s))⟩) :: S) w' := by
 intro w s_
 refine aI (args := [.pointer (some ⟨it, 7, none⟩), .pointer (some ⟨it, 23, none⟩), iV (r.freq), iV (s.h), iV (s.mi), iV (s.s)]) (L := [(0, .pointer (some ⟨it, 7, none⟩)), (1, .pointer (some ⟨it, 23, none⟩)), (2, iV (r.freq)), (3, iV (s.h)), (4, iV (s.mi)), (5, iV (s.s))]) (N := 164) Tryz.func52 rfl rfl ble rfl s_ ?_
 refine g8 ?_
 refine rl ((aR rfl rfl).to (v' := .bool true) (cB (by rw [hfr]; rfl))) ?_
 refine g3 ?_
 refine aY rfl rfl ?_
 refine g1 ?_
 refine dL 18 kR kR ?_
 refine g3 ?_
 refine rt (rfa 0) ?_
 refine rt (rld 0 rfl st.hB st.h7) ?_
 refine g1 ?_
 refine rt (rfa 55) ?_
 refine rt (rld 1 rfl st.hR st.r55) ?_
 refine g3 ?_
 refine rt (rfa 0) ?_
 refine rt (rld 0 rfl st.hB st.h7) ?_
 refine g1 ?_
 refine rt (rfa 56) ?_
 refine rt (rld 1 rfl st.hR st.r56) ?_
 refine g1 ?_
 refine rt ((aAu rfl rfl).to (v' := iV ((r.minute.length * r.second.length : Nat) : Int)) (by rw [kD (by have := Nat.mul_le_mul hlm hls; rw [← Int.natCast_mul]; omega), Int.natCast_mul])) ?_
 refine g1 ?_
 refine gL (dR (ι := Option Addr × Nat) (fun _ => .tuple #[]) (fun _ => True) (fun _ => B) (fun y => (ky 0 23, .slice y.1 0 y.2) :: H) (fun y => (2, ⟨.slice y.1 0 y.2, 57, 2, 0, []⟩) :: S) dE kR rfl (fun w_ s_ => (pC (m := r.minute.length * r.second.length) st.hB st.h23 st.hS2 htn (Nat.le_trans (Nat.mul_le_mul hlm hls) dE) w_ s_).mono fun e w' ⟨p, c, h1, h2⟩ => ⟨(p, c), trivial, h1, h2⟩) (fun | (p0, c0), _ => ?_))
 refine g7 ?_
 refine rl (rfa 0) ?_
 refine rZ1 (rld 0 rfl st.hB st.h7) ?_
 refine rl (rfa 55) ?_
 refine rZ5 (rld 1 rfl st.hR st.r55) ?_
 have hbound : r.minute.length * r.second.length ≤ 10000 := Nat.le_trans (Nat.mul_le_mul hlm hls) dE
 refine bJ (ι := (Nat) × (Option Addr) × (Nat) × (Nat) × (List Value) × (List Int)) (fun | ⟨j, q, e, n, xs, ll⟩ => r.minute.length - j) (fun | ⟨j, q, e, n, xs, ll⟩ => (j ≤ r.minute.length) ∧ (ll = (r.minute.take j).flatMap (fun m => r.second.map fun sc => s.h * 3600 + m * 60 + sc)) ∧ (n = ll.length) ∧ (xs = bN ll) ∧ (n ≤ j * r.second.length)) (fun | ⟨j, q, e, n, xs, ll⟩ => [(0, .pointer (some ⟨it, 7, none⟩)), (1, .pointer (some ⟨it, 23, none⟩)), (2, iV (r.freq)), (3, iV (s.h)), (4, iV (s.mi)), (5, iV (s.s)), (48, .slice l.p55 r.minute.length l.c55), (49, iV (r.minute.length)), (50, iV j)]) (fun | ⟨j, q, e, n, xs, ll⟩ => B) (fun | ⟨j, q, e, n, xs, ll⟩ => (ky 0 23, .slice q n e) :: H) (fun | ⟨j, q, e, n, xs, ll⟩ => (2, ⟨.slice q n e, 57, 2, n, xs⟩) :: S) ⟨0, p0, c0, 0, [], []⟩ ⟨Nat.zero_le _, rfl, rfl, rfl, Nat.zero_le _⟩ kns (fun w s => by exact s) ?_
 rintro ⟨j, q, e, n, xs, ll⟩ ⟨hj, hl, hn, hxs, hb⟩
 show GC _ _ _ _ [(0, .pointer (some ⟨it, 7, none⟩)), (1, .pointer (some ⟨it, 23, none⟩)), (2, iV (r.freq)), (3, iV (s.h)), (4, iV (s.mi)), (5, iV (s.s)), (48, .slice l.p55 r.minute.length l.c55), (49, iV (r.minute.length)), (50, iV j)] _ _ (B) ((ky 0 23, .slice q n e) :: H) ((2, ⟨.slice q n e, 57, 2, n, xs⟩) :: S)
 refine g6 ?_
 refine aB rfl (fun hc1 => ?_) (fun hc2 => ?_)
 ·have hlt_j : j < r.minute.length := by have := oT hc1; omega
  obtain ⟨m, hx_m⟩ : ∃ y, r.minute[j]? = some y := ⟨_, List.getElem?_eq_getElem hlt_j⟩
  refine eA (fun w s => (st.hI55.to aG).head s oM) fun hh_ => ?_
  obtain ⟨b_m, o_m, hp_m⟩ := hh_
  have src_m := st.hI55
  rw [hp_m] at src_m
  have hjP : j * r.second.length + r.second.length ≤ r.minute.length * r.second.length := by rw [← Nat.succ_mul]; exact Nat.mul_le_mul_right _ hlt_j
  have hmr := hr.minute m (List.mem_of_getElem? hx_m)
  refine g6 ?_
  refine rl (aF (e := 3) (n := 1) kR (congrArg (fun p => some (Value.slice p _ _)) hp_m) rfl oM oM) ?_
  refine rZ7 (fR kR rfl (fun w s => src_m.cell hx_m aG s)) ?_
  refine rl (rfa 0) ?_
  refine rZ1 (rld 0 rfl st.hB st.h7) ?_
  refine rl (rfa 56) ?_
  refine rZ5 (rld 1 rfl st.hR st.r56) ?_
  refine bJ (ι := (Nat) × (Option Addr) × (Nat) × (Nat) × (List Value) × (List Int)) (fun | ⟨k, q2, e2, n2, xs2, l2⟩ => r.second.length - k) (fun | ⟨k, q2, e2, n2, xs2, l2⟩ => (k ≤ r.second.length) ∧ (l2 = ll ++ (r.second.take k).map (fun sc => s.h * 3600 + m * 60 + sc)) ∧ (n2 = l2.length) ∧ (xs2 = bN l2) ∧ (n2 ≤ j * r.second.length + k)) (fun | ⟨k, q2, e2, n2, xs2, l2⟩ => [(0, .pointer (some ⟨it, 7, none⟩)), (1, .pointer (some ⟨it, 23, none⟩)), (2, iV (r.freq)), (3, iV (s.h)), (4, iV (s.mi)), (5, iV (s.s)), (13, iV m), (48, .slice l.p55 r.minute.length l.c55), (49, iV (r.minute.length)), (50, iV j), (60, .slice l.p56 r.second.length l.c56), (61, iV (r.second.length)), (62, iV k)]) (fun | ⟨k, q2, e2, n2, xs2, l2⟩ => B) (fun | ⟨k, q2, e2, n2, xs2, l2⟩ => (ky 0 23, .slice q2 n2 e2) :: H) (fun | ⟨k, q2, e2, n2, xs2, l2⟩ => (2, ⟨.slice q2 n2 e2, 57, 2, n2, xs2⟩) :: S) ⟨0, q, e, n, xs, ll⟩ ⟨Nat.zero_le _, by simp, hn, hxs, by omega⟩ kns (fun w s => by exact s) ?_
  rintro ⟨k, q2, e2, n2, xs2, l2⟩ ⟨hk, hl2, hn2, hxs2, hb2⟩
  show GC _ _ _ _ [(0, .pointer (some ⟨it, 7, none⟩)), (1, .pointer (some ⟨it, 23, none⟩)), (2, iV (r.freq)), (3, iV (s.h)), (4, iV (s.mi)), (5, iV (s.s)), (13, iV m), (48, .slice l.p55 r.minute.length l.c55), (49, iV (r.minute.length)), (50, iV j), (60, .slice l.p56 r.second.length l.c56), (61, iV (r.second.length)), (62, iV k)] _ _ (B) ((ky 0 23, .slice q2 n2 e2) :: H) ((2, ⟨.slice q2 n2 e2, 57, 2, n2, xs2⟩) :: S)
  refine g6 ?_
  refine aB rfl (fun hc1 => ?_) (fun hc2 => ?_)
  ·have hlt_k : k < r.second.length := by have := oT hc1; omega
   obtain ⟨sc, hx_sc⟩ : ∃ y, r.second[k]? = some y := ⟨_, List.getElem?_eq_getElem hlt_k⟩
   refine eA (fun w s => (st.hI56.to aG).head s oM) fun hh_ => ?_
   obtain ⟨b_sc, o_sc, hp_sc⟩ := hh_
   have src_sc := st.hI56
   rw [hp_sc] at src_sc
   have hsr := hr.second sc (List.mem_of_getElem? hx_sc)
   refine g6 ?_
   refine rl (aF (e := 3) (n := 1) kR (congrArg (fun p => some (Value.slice p _ _)) hp_sc) rfl oM oM) ?_
   refine rZ3 (fR kR rfl (fun w s => src_sc.cell hx_sc aG s)) ?_
   refine jJ (fun i => i == 19) kR ?_
   refine gr 0 rfl (bD rfl) ?_
   refine gr 1 rfl (bD rfl) ?_
   refine gr 2 rfl (bW rfl) ?_
   refine gr 3 rfl (rld 0 rfl st.hB rfl) ?_
   refine gr 4 rfl (bD rfl) ?_
   refine gr 5 rfl (bD rfl) ?_
   refine gr 6 rfl (bD rfl) ?_
   refine gr 7 rfl (bD rfl) ?_
   refine gr 8 rfl (bW rfl) ?_
   refine gr 9 rfl (rfa 0) ?_
   refine gr 10 rfl (rld 0 rfl st.hB st.h7) ?_
   refine gr 11 rfl (bW rfl) ?_
   refine gr 12 rfl (rfa 39) ?_
   refine gr 13 rfl (aV 1 rfl st.hR st.r39 st.r40 kR dE) ?_
   refine gn 14 rfl (cvo rfl (fun w_ s_ => dN _ _ w_) (gk ?_))
   refine gn 15 rfl (cvo (v := .agg #[iV (s.h * 3600 + m * 60 + sc), iV 0]) rfl (fun w_ s_ => (cY 1 1 1 _ _ _ 0 oM oM oM oM oM oM oM w_).mono fun e_ w2_ h_ => ⟨h_.1.trans (congrArg Ending.returned (by rw [show Cal.dayNo 1 1 1 = 0 from rfl, show (0 : Int) * 86400 + s.h * 3600 + m * 60 + sc = s.h * 3600 + m * 60 + sc by omega])), h_.2⟩) (gk ?_))
   refine gn 16 rfl (dK 60 (e := 57) (sz := 2) (by_ := 16) (zs := [iV 0, iV 0]) dE kR rfl dE dE rfl rfl rfl (fun bo => gk ?_))
   refine gn 17 rfl (cU 2 60 (e := 57) (sz := 2) (by_ := 16) (zs := [iV 0, iV 0]) dE kR rfl dE rfl rfl rfl rfl ⟨rfl, rfl⟩ ⟨rfl, rfl⟩ xA sO sO (fun q3 e3 => gk ?_))
   refine gn 18 rfl (fU dE (bW rfl) (gk ?_))
   refine gn 19 rfl (sto 0 rfl rfl st.hB rfl (gk ?_))
   refine eE kR ?_
   refine g6 ?_
   refine aQ ⟨k + 1, q3, e3, n2 + 1, xs2 ++ [iV (s.h * 3600 + m * 60 + sc), iV 0], l2 ++ [s.h * 3600 + m * 60 + sc]⟩ sO ⟨by omega, by rw [hl2, List.take_add_one, hx_sc]; simp only [Option.toList_some, List.map_append, List.map_cons, List.map_nil, List.append_assoc], by rw [List.length_append, hn2]; rfl, by rw [hxs2]; exact eM _ _, by omega⟩ kns (fun w s => by exact (s.low 40 ((st.lim.aJ1 dE dE).aJ2 dE) agx agx agx))
  ·have hge_k : ¬ k < r.second.length := by have := oF hc2; omega
   obtain rfl : k = r.second.length := by omega
   refine g10 ?_
   refine aQ ⟨j + 1, q2, e2, n2, xs2, l2⟩ sO ⟨by omega, by rw [hl2, hl, List.take_add_one, hx_m]; simp only [Option.toList_some, List.flatMap_append, List.flatMap_cons, List.flatMap_nil, List.append_nil]; rw [List.take_length], hn2, hxs2, by rw [Nat.succ_mul]; omega⟩ kns (fun w s => by exact (s.low 40 ((st.lim.aJ1 dE dE).aJ2 dE) agx agx agx))
 ·have hge_j : ¬ j < r.minute.length := by have := oF hc2; omega
  obtain rfl : j = r.minute.length := by omega
  rw [List.take_length] at hl
  subst hn hxs
  refine g8 ?_
  refine rl (rld 0 rfl st.hB rfl) ?_
  refine rl ((gN (r := .iface 122 (.slice q ll.length e)) rfl kW)) ?_
  refine gL (dR (ι := Unit) (fun _ => .tuple #[]) (fun _ => True) (fun _ => B) (fun _ => (ky 0 23, .slice q ll.length e) :: H) (fun _ => (2, ⟨.slice q ll.length e, 57, 2, ll.length, (bN (dW ll))⟩) :: (2, ⟨.slice q ll.length e, 57, 2, ll.length, (bN ll)⟩) :: S) dE kR rfl (fun w_ s_ => (mI (t := 2) (ts := ll) dE oM (((st.lim.mono dE).aJ1 dE dE).aJ2 dE) rfl w_ s_).mono fun e_ w2_ h_ => ⟨(), trivial, h_.1, h_.2⟩) (fun _ _ => ?_))
  refine g2 ?_
  have hF : Md.fill r s = dW ll := by unfold Md.fill l6; rw [if_pos hfr, hl]; simp
  have hlen : (dW ll).length = ll.length := by unfold dW; rw [List.length_mergeSort]
  rw [hF, hlen]
  exact d7 (by first | exact .inl rfl | exact .inr rfl) rfl fun w s => ⟨_, _, rfl, s.low 40 ((st.lim.aJ1 dE dE).aJ2 dE) agx agx agx⟩
end
end Go.Proofs.YtdbbifbmkfmbkaaGreat
