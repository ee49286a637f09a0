import Derived.Test.YtdbbifbmkfmbkaaGreatRal
set_option linter.unusedVariables false
set_option linter.unusedSimpArgs false
set_option maxRecDepth 100000
set_option maxHeartbeats 8000000
namespace Go.Proofs.YtdbbifbmkfmbkaaGreat
open Go.Md Go.Tab Go.Fr
theorem nD {r : Rul} {u dy : Int} (h : UD r u dy) (k : Int) : pAt (aZ r) k = (r.start / u + k * r.interval) * u ∧ cF (aZ r) k = (r.start / u + k * r.interval) / dy ∧ UN (aZ r).freq = u ∧ dC r.freq = dy ∧ u * dy = 86400 ∧ 1 ≤ u := by
 obtain ⟨e1, e2, e3, _⟩ := dG r
 unfold cF pAt UN
 rw [e1, e2, e3]
 generalize k * r.interval = z
 rcases h with ⟨rfl, rfl, hf⟩ | ⟨rfl, rfl, hf⟩ | ⟨rfl, rfl, hf⟩ <;> rw [hf] <;> simp [dC] <;> omega
theorem aEs {r : Rul} (h : 4 ≤ r.freq ∧ r.freq ≤ 6) : ∃ u dy, UD r u dy := by
 rcases (show r.freq = 4 ∨ r.freq = 5 ∨ r.freq = 6 by omega) with h | h | h
 ·exact ⟨3600, 24, .inl ⟨rfl, rfl, h⟩⟩
 ·exact ⟨60, 1440, .inr (.inl ⟨rfl, rfl, h⟩)⟩
 ·exact ⟨1, 86400, .inr (.inr ⟨rfl, rfl, h⟩)⟩
def gO (q : Ru) (s : It) : List Int := if cS q s then Md.fill q s else []
theorem aA9 {r : Rul} {wF : Int → List Int} {nF : Int → Int → List Int} {eF : Int → List Int} (rp : RightP r) {u dy : Int} (h : UD r u dy) {s : It} (h1 : 0 ≤ s.h ∧ s.h ≤ 23) (h2 : 0 ≤ s.mi ∧ s.mi ≤ 59) (h3 : 0 ≤ s.s ∧ s.s ≤ 59) (D : Int) :
  SI (gO (bH (aE r) wF nF eF) s) ∧ eD (aZ r).hour (aZ r).minute (aZ r).second D (D * 86400 + cK r.freq s * u) u = (gO (bH (aE r) wF nF eF) s).map (D * 86400 + ·) := by
 obtain ⟨_, _, _, f4, f5, f6⟩ := sM r
 obtain ⟨_, p2, p3⟩ := m7 rp
 have hq : (bH (aE r) wF nF eF).freq = r.freq := rfl
 rw [f4, f5, f6]
 have hh : (bH (aE r) wF nF eF).hour = cL (aE r) := rfl
 have hm : (bH (aE r) wF nF eF).minute = bA (aE r) := rfl
 have hs : (bH (aE r) wF nF eF).second = bI (aE r) := rfl
 have key : ∀ T : List Int, SI T → gO (bH (aE r) wF nF eF) s = T → (∀ t, t ∈ T ↔ 0 ≤ t ∧ t < 86400 ∧ cK r.freq s * u ≤ t ∧ t < cK r.freq s * u + u ∧ aJ (cL (aE r)) (t / 3600) = true ∧ aJ (bA (aE r)) (t / 60 % 60) = true ∧ aJ (bI (aE r)) (t % 60) = true) →
   SI (gO (bH (aE r) wF nF eF) s) ∧ eD (cL (aE r)) (bA (aE r)) (bI (aE r)) D (D * 86400 + cK r.freq s * u) u = (gO (bH (aE r) wF nF eF) s).map (D * 86400 + ·) := by
  intro T hT e hmem
  rw [e]
  refine ⟨hT, yV hT fun t => (hmem t).trans ⟨?_, ?_⟩⟩
  ·rintro ⟨a1, a2, a3, a4, a5⟩; exact ⟨a1, a2, by omega, by omega, a5⟩
  ·rintro ⟨a1, a2, a3, a4, a5⟩; exact ⟨a1, a2, by omega, by omega, a5⟩
 rcases h with ⟨rfl, rfl, hf⟩ | ⟨rfl, rfl, hf⟩ | ⟨rfl, rfl, hf⟩
 ·have P2 : PartOk (bA (aE r)) 60 := p2 oM
  have P3 : PartOk (bI (aE r)) 60 := p3 oM
  have P1 : PartOk [s.h] 24 := PartOk.one ⟨h1.1, by omega⟩
  have hsl : cK r.freq s = s.h := by unfold cK; rw [if_pos hf]
  have hok : cS (bH (aE r) wF nF eF) s = aJ (cL (aE r)) s.h := by unfold cS; rw [hq, hf, hh]; simp
  have hfill : Md.fill (bH (aE r) wF nF eF) s = l6 [s.h] (bA (aE r)) (bI (aE r)) := by unfold Md.fill; rw [hq, if_pos hf, hm, hs]
  cases hb : aJ (cL (aE r)) s.h with
  | true =>
   refine key _ (oD P1 P2 P3) (by unfold gO; rw [hok, hb, if_pos rfl, hfill]) fun t => ?_
   rw [nT P1 P2 P3, P2.among, P3.among, hsl, List.mem_singleton]
   constructor
   ·rintro ⟨a1, a2, a3, a4, a5⟩; exact ⟨a1, a2, by omega, by omega, by rw [a3]; exact hb, a4, a5⟩
   ·rintro ⟨a1, a2, a3, a4, a5, a6, a7⟩; exact ⟨a1, a2, by omega, a6, a7⟩
  | false =>
   refine key [] (by simp [SI]) (by unfold gO; rw [hok, hb]; rfl) fun t => ⟨fun h => by simp at h, ?_⟩
   rintro ⟨a1, a2, a3, a4, a5, a6, a7⟩
   rw [hsl] at a3 a4
   rw [show t / 3600 = s.h by omega, hb] at a5; cases a5
 ·have P3 : PartOk (bI (aE r)) 60 := p3 oM
  have P1 : PartOk [s.h] 24 := PartOk.one ⟨h1.1, by omega⟩
  have P2 : PartOk [s.mi] 60 := PartOk.one ⟨h2.1, by omega⟩
  have hsl : cK r.freq s = s.h * 60 + s.mi := by unfold cK; rw [if_neg oM, if_pos hf]
  have hok : cS (bH (aE r) wF nF eF) s = (aJ (cL (aE r)) s.h && aJ (bA (aE r)) s.mi) := by unfold cS; rw [hq, hf, hh, hm]; simp
  have hfill : Md.fill (bH (aE r) wF nF eF) s = l6 [s.h] [s.mi] (bI (aE r)) := by unfold Md.fill; rw [hq, if_neg oM, if_pos hf, hs]
  cases hb : (aJ (cL (aE r)) s.h && aJ (bA (aE r)) s.mi) with
  | true =>
   obtain ⟨b1, b2⟩ := Bool.and_eq_true_iff.1 hb
   refine key _ (oD P1 P2 P3) (by unfold gO; rw [hok, hb, if_pos rfl, hfill]) fun t => ?_
   rw [nT P1 P2 P3, P3.among, hsl, List.mem_singleton, List.mem_singleton]
   constructor
   ·rintro ⟨a1, a2, a3, a4, a5⟩; exact ⟨a1, a2, by omega, by omega, by rw [a3]; exact b1, by rw [a4]; exact b2, a5⟩
   ·rintro ⟨a1, a2, a3, a4, a5, a6, a7⟩; exact ⟨a1, a2, by omega, by omega, a7⟩
  | false =>
   refine key [] (by simp [SI]) (by unfold gO; rw [hok, hb]; rfl) fun t => ⟨fun h => by simp at h, ?_⟩
   rintro ⟨a1, a2, a3, a4, a5, a6, a7⟩
   rw [hsl] at a3 a4
   rw [show t / 3600 = s.h by omega] at a5
   rw [show t / 60 % 60 = s.mi by omega] at a6
   rw [a5, a6] at hb; cases hb
 ·have hsl : cK r.freq s = s.h * 3600 + s.mi * 60 + s.s := by unfold cK; rw [if_neg oM, if_neg oM]
  have hok : cS (bH (aE r) wF nF eF) s = ((aJ (cL (aE r)) s.h && aJ (bA (aE r)) s.mi) && aJ (bI (aE r)) s.s) := by unfold cS; rw [hq, hf, hh, hm, hs]; simp
  have hfill : Md.fill (bH (aE r) wF nF eF) s = [s.h * 3600 + s.mi * 60 + s.s] := by unfold Md.fill; rw [hq, if_neg oM, if_neg oM]
  cases hb : ((aJ (cL (aE r)) s.h && aJ (bA (aE r)) s.mi) && aJ (bI (aE r)) s.s) with
  | true =>
   obtain ⟨b1, b3⟩ := Bool.and_eq_true_iff.1 hb
   obtain ⟨b1, b2⟩ := Bool.and_eq_true_iff.1 b1
   refine key [s.h * 3600 + s.mi * 60 + s.s] (by simp [SI]) (by unfold gO; rw [hok, hb, if_pos rfl, hfill]) fun t => ?_
   rw [hsl, List.mem_singleton]
   constructor
   ·intro e; exact ⟨by omega, by omega, by omega, by omega, by rw [show t / 3600 = s.h by omega]; exact b1, by rw [show t / 60 % 60 = s.mi by omega]; exact b2, by rw [show t % 60 = s.s by omega]; exact b3⟩
   ·rintro ⟨a1, a2, a3, a4, _⟩; omega
  | false =>
   refine key [] (by simp [SI]) (by unfold gO; rw [hok, hb]; rfl) fun t => ⟨fun h => by simp at h, ?_⟩
   rintro ⟨a1, a2, a3, a4, a5, a6, a7⟩
   rw [hsl] at a3 a4
   rw [show t / 3600 = s.h by omega] at a5
   rw [show t / 60 % 60 = s.mi by omega] at a6
   rw [show t % 60 = s.s by omega] at a7
   rw [a5, a6, a7] at hb; cases hb
theorem tF {u dy a : Int} (hu : u * dy = 86400) (h1 : 1 ≤ u) : a * u = a / dy * 86400 + a % dy * u := by
 have h := Int.mul_ediv_add_emod a dy
 conv => lhs; rw [← h]
 rw [Int.add_mul, ← hu, Int.mul_comm dy (a / dy), Int.mul_assoc, Int.mul_comm dy u]
def R46 (r : Rul) (q : Ru) (k : Int) (s : It) : Prop := ∃ u dy, UD r u dy ∧ Cal.dayNo s.y s.mo s.d = (r.start / u + k * r.interval) / dy ∧ cK r.freq s = (r.start / u + k * r.interval) % dy ∧ s.ts = gO q s
theorem aEj {r : Rul} {wF : Int → List Int} {nF : Int → Int → List Int} {eF : Int → List Int} (rp : RightP r) {u dy : Int} (h : UD r u dy) (dayF : Int → Bool) {s : It} (h2 : 0 ≤ s.mi ∧ s.mi ≤ 59) (h3 : 0 ≤ s.s ∧ s.s ≤ 59) {j : Int}
  (hno : cS (bH (aE r) wF nF eF) (bS r.freq s ((r.start / u + j * r.interval) % dy)) = false) : eJ (aZ r) dayF j = [] := by
 obtain ⟨e1, e2, e3, _⟩ := dG r
 obtain ⟨p1, p2, p3, p4, p5, p6⟩ := nD h j
 have hf : 4 ≤ r.freq ∧ r.freq ≤ 6 := by rcases h with ⟨_, _, h⟩ | ⟨_, _, h⟩ | ⟨_, _, h⟩ <;> omega
 have hdy : 24 ≤ dy := by rcases h with ⟨_, h, _⟩ | ⟨_, h, _⟩ | ⟨_, h, _⟩ <;> omega
 have ht : 0 ≤ (r.start / u + j * r.interval) % dy ∧ (r.start / u + j * r.interval) % dy < dC r.freq := ⟨Int.emod_nonneg _ oM, by rw [p4]; exact Int.emod_lt_of_pos _ oM⟩
 have hb := aFh hf ht h2 h3
 unfold eJ
 rw [if_pos (by rw [e2]; omega), p1, p2, p3, tF p5 p6]
 have hc := (aA9 (wF := wF) (nF := nF) (eF := eF) rp h hb.1 hb.2.1 hb.2.2 ((r.start / u + j * r.interval) / dy)).2
 rw [(zD hf (s := s) ht).1] at hc
 rw [hc]
 unfold gO
 rw [hno]
 simp
theorem aIy {r : Rul} {wF : Int → List Int} {nF : Int → Int → List Int} {eF : Int → List Int} (rp : RightP r) (hf : 4 ≤ r.freq ∧ r.freq ≤ 6) (hw : ∀ y m, nF y m = []) {s : It} (hi : ItOk (bH (aE r) wF nF eF) s) :
  aW (bH (aE r) wF nF eF) s = (Cal.ydayOf (Cal.dayNo s.y s.mo s.d), Cal.ydayOf (Cal.dayNo s.y s.mo s.d) + 1) ∧ (bad (bH (aE r) wF nF eF) s (Cal.ydayOf (Cal.dayNo s.y s.mo s.d) + ((0 : Nat) : Int)) = !cW (aZ r) (Cal.dayNo s.y s.mo s.d)) ∧ (cO (bH (aE r) wF nF eF) s = true → cW (aZ r) (Cal.dayNo s.y s.mo s.d) = false) := by
 have hfr : (bH (aE r) wF nF eF).freq = r.freq := rfl
 have hnw : s.nwm = [] := by rw [hi.nwm]; exact hw _ _
 obtain ⟨d1, d2, d3, _⟩ := pL hi.mo ⟨hi.d.1, hi.day (by rw [hfr]; omega)⟩
 have db := n5 hi.mo ⟨hi.d.1, hi.day (by rw [hfr]; omega)⟩
 have ds := Cal.split_spec (Cal.dayNo s.y s.mo s.d)
 rw [d2] at ds
 have hlp := Cal.lp_01 s.ly
 have hlpe : Cal.lp s.ly = Cal.lp s.y := by rw [hi.ly]
 have hdy : Cal.daysTo s.ly = Cal.daysTo s.y := by rw [hi.ly]
 have hsn : aW (bH (aE r) wF nF eF) s = (Cal.ydayOf (Cal.dayNo s.y s.mo s.d), Cal.ydayOf (Cal.dayNo s.y s.mo s.d) + 1) := by
  unfold aW
  rw [hfr, if_neg oM, if_neg oM]
  simp only
  rw [if_neg oM]
 have hb := aH2 (wF := wF) (nF := nF) (eF := eF) (s := s) rp oM hnw (i := Cal.ydayOf (Cal.dayNo s.y s.mo s.d) + ((0 : Nat) : Int)) oM oM
 rw [show Cal.daysTo s.ly + (Cal.ydayOf (Cal.dayNo s.y s.mo s.d) + ((0 : Nat) : Int)) = Cal.dayNo s.y s.mo s.d by omega] at hb
 refine ⟨hsn, hb, fun h => ?_⟩
 unfold cO at h
 rw [hsn] at h
 simp only at h
 rw [show (Cal.ydayOf (Cal.dayNo s.y s.mo s.d) + 1 - Cal.ydayOf (Cal.dayNo s.y s.mo s.d)).toNat = 1 by omega] at h
 simp only [List.range_succ, List.range_zero, List.nil_append, List.any_cons, List.any_nil, Bool.or_false] at h
 rw [hb] at h
 cases hx : cW (aZ r) (Cal.dayNo s.y s.mo s.d) with
 | false => rfl
 | true => rw [hx] at h; cases h
theorem aHx {r : Rul} {wF : Int → List Int} {nF : Int → Int → List Int} {eF : Int → List Int} (rp : RightP r) (hf : 4 ≤ r.freq ∧ r.freq ≤ 6) (hw : ∀ y m, nF y m = []) : Fits (bH (aE r) wF nF eF) (aZ r) (cW (aZ r)) (R46 r (bH (aE r) wF nF eF)) where
 over := fun k _ h => s8 (by rw [(dG r).2.1]; omega) (by rw [(dG r).2.2.1]; exact rp.t1.interval.1) k h
 same := fun k s s' h hs => by
  obtain ⟨u, dy, h1, h2, h3, h4⟩ := h
  refine ⟨u, dy, h1, by rw [hs.y, hs.mo, hs.d]; exact h2, by rw [qC hs.h hs.mi hs.s]; exact h3, ?_⟩
  rw [hs.ts, h4]
  unfold gO
  rw [pP hs.h hs.mi hs.s, oU hs.h hs.mi hs.s]
 pos := fun k s h0 hR hi ho => by
  obtain ⟨u, dy, hu, hday, hslot, hts⟩ := hR
  obtain ⟨e1, e2, e3, e4, e5, e6, _⟩ := dG r
  obtain ⟨p1, p2, p3, p4, p5, p6⟩ := nD hu k
  have hfr : (bH (aE r) wF nF eF).freq = r.freq := rfl
  have hsp : (bH (aE r) wF nF eF).setpos = r.setpos := rfl
  obtain ⟨c1, c2⟩ := aA9 (wF := wF) (nF := nF) (eF := eF) rp hu hi.hr hi.mn hi.sec (Cal.dayNo s.y s.mo s.d)
  have hSI : SI s.ts := by rw [hts]; exact c1
  have hnw : s.nwm = [] := by rw [hi.nwm]; exact hw _ _
  obtain ⟨d1, d2, d3, _⟩ := pL hi.mo ⟨hi.d.1, hi.day (by rw [hfr]; omega)⟩
  have db := n5 hi.mo ⟨hi.d.1, hi.day (by rw [hfr]; omega)⟩
  have ds := Cal.split_spec (Cal.dayNo s.y s.mo s.d)
  rw [d2] at ds
  have hlp := Cal.lp_01 s.ly
  have hlpe : Cal.lp s.ly = Cal.lp s.y := by rw [hi.ly]
  have hdy : Cal.daysTo s.ly = Cal.daysTo s.y := by rw [hi.ly]
  have hout := zS (r := bH (aE r) wF nF eF) hSI hi.ts (xE rp.t3.h9)
  refine ⟨[], dJ (gQ (bH (aE r) wF nF eF) s) r.setpos, ?_, fun t ht => by simp at ht, by rw [hout, hsp]⟩
  rw [List.nil_append, e6]
  congr 1
  have hsn : aW (bH (aE r) wF nF eF) s = (Cal.ydayOf (Cal.dayNo s.y s.mo s.d), Cal.ydayOf (Cal.dayNo s.y s.mo s.d) + 1) := by
   unfold aW
   rw [hfr, if_neg oM, if_neg oM]
   simp only
   rw [if_neg oM]
  have hD : Cal.daysTo s.ly + Cal.ydayOf (Cal.dayNo s.y s.mo s.d) = Cal.dayNo s.y s.mo s.d := by omega
  have hfl : gQ (bH (aE r) wF nF eF) s = if cW (aZ r) (Cal.dayNo s.y s.mo s.d) = true then s.ts.map (Cal.dayNo s.y s.mo s.d * 86400 + ·) else [] := by
   rw [nU, hsn]
   simp only
   rw [show (Cal.ydayOf (Cal.dayNo s.y s.mo s.d) + 1 - Cal.ydayOf (Cal.dayNo s.y s.mo s.d)).toNat = 1 by omega]
   have hb := aH2 (wF := wF) (nF := nF) (eF := eF) (s := s) rp oM hnw (i := Cal.ydayOf (Cal.dayNo s.y s.mo s.d) + ((0 : Nat) : Int)) oM oM
   simp only [List.range_succ, List.range_zero, List.nil_append, List.flatMap_cons, List.flatMap_nil, List.append_nil]
   rw [hb, show Cal.daysTo s.ly + (Cal.ydayOf (Cal.dayNo s.y s.mo s.d) + ((0 : Nat) : Int)) = Cal.dayNo s.y s.mo s.d by omega]
   unfold mY
   rw [show Cal.daysTo s.ly + (Cal.ydayOf (Cal.dayNo s.y s.mo s.d) + ((0 : Nat) : Int)) = Cal.dayNo s.y s.mo s.d by omega]
   cases cW (aZ r) (Cal.dayNo s.y s.mo s.d) <;> rfl
  rw [hfl]
  unfold eJ
  rw [if_pos (by rw [e2]; omega), p1, p2, p3, tF p5 p6, ← hday, ← hslot, c2, ← hts]
 adv := fun k s h0 hR hi ho hfin => by
  obtain ⟨u, dy, hu, hday, hslot, hts⟩ := hR
  obtain ⟨e1, e2, e3, e4, e5, e6, _⟩ := dG r
  have hfr : (bH (aE r) wF nF eF).freq = r.freq := rfl
  have hir : (bH (aE r) wF nF eF).interval = r.interval := rfl
  have hiv := rp.t1.interval
  obtain ⟨n, K, hn⟩ := aFc (b := cO (bH (aE r) wF nF eF) s) (by rw [hfr]; exact hf) hi
  have hsl : dC r.freq = dy := (nD hu k).2.2.2.1
  have hdy : 24 ≤ dy ∧ dy ≤ 86400 := by rcases hu with ⟨_, h, _⟩ | ⟨_, h, _⟩ | ⟨_, h, _⟩ <;> omega
  have hsb := wU hf hi.hr hi.mn hi.sec
  rw [hsl] at hsb
  have hj0 : 0 ≤ gS (bH (aE r) wF nF eF) (cO (bH (aE r) wF nF eF) s) s := by
   unfold gS
   rw [hfr, hir, hsl]
   split
   ·exact Int.ediv_nonneg oM oM
   ·omega
  have hjb : cO (bH (aE r) wF nF eF) s = false → gS (bH (aE r) wF nF eF) (cO (bH (aE r) wF nF eF) s) s = 0 := fun h => by unfold gS; rw [h]; rfl
  have hjm : cK r.freq s + gS (bH (aE r) wF nF eF) (cO (bH (aE r) wF nF eF) s) s * r.interval ≤ dy - 1 := by
   unfold gS
   rw [hfr, hir, hsl]
   split
   ·have := (sG (m := dy - 1 - cK r.freq s) (n := r.interval) oM oM).2; omega
   ·omega
  have n1 : ∀ j : Nat, 1 ≤ j → j < K → cS (bH (aE r) wF nF eF) (bS r.freq s ((cK r.freq s + (gS (bH (aE r) wF nF eF) (cO (bH (aE r) wF nF eF) s) s + j) * r.interval) % dy)) = false := by rw [← hsl]; exact hn.no
  have n2 : n.d = s.d + (cK r.freq s + (gS (bH (aE r) wF nF eF) (cO (bH (aE r) wF nF eF) s) s + K) * r.interval) / dy := by rw [← hsl]; exact hn.d
  have n3 : cK r.freq n = (cK r.freq s + (gS (bH (aE r) wF nF eF) (cO (bH (aE r) wF nF eF) s) s + K) * r.interval) % dy := by rw [← hsl]; exact hn.slot
  have n4 := hn.hk.1
  generalize gS (bH (aE r) wF nF eF) (cO (bH (aE r) wF nF eF) s) s = m at n1 n2 n3 hj0 hjb hjm
  have hz : ∀ z : Int, (r.start / u + (k + z) * r.interval) / dy = Cal.dayNo s.y s.mo s.d + (cK r.freq s + z * r.interval) / dy ∧ (r.start / u + (k + z) * r.interval) % dy = (cK r.freq s + z * r.interval) % dy := by
   intro z
   have e : r.start / u + (k + z) * r.interval = (cK r.freq s + z * r.interval) + dy * Cal.dayNo s.y s.mo s.d := by
    have h := Int.mul_ediv_add_emod (r.start / u + k * r.interval) dy
    rw [← hday, ← hslot] at h
    rw [Int.add_mul]
    omega
   rw [e, Int.add_mul_ediv_left _ _ oM, Int.add_mul_emod_self_left]
   exact ⟨by omega, rfl⟩
  refine ⟨k + (m + K), by omega, fun j h1 h2 => ?_, ?_⟩
  ·obtain ⟨z, rfl⟩ : ∃ z, j = k + z := ⟨j - k, by omega⟩
   by_cases hzm : z ≤ m
   ·have hflt : cO (bH (aE r) wF nF eF) s = true := by
     cases h : cO (bH (aE r) wF nF eF) s with
     | true => rfl
     | false => have := hjb h; omega
    have hbad := (aIy rp hf hw hi).2.2 hflt
    have hmul := Int.mul_le_mul_of_nonneg_right hzm (show 0 ≤ r.interval by omega)
    have hmul0 := Int.mul_nonneg (show 0 ≤ z by omega) (show 0 ≤ r.interval by omega)
    unfold eJ
    rw [if_pos (by rw [e2]; omega), (nD hu (k + z)).2.1, (hz z).1, Int.ediv_eq_zero_of_lt oM oM, Int.add_zero, hbad]
    rfl
   ·refine aEj (wF := wF) (nF := nF) (eF := eF) rp hu _ (s := s) hi.mn hi.sec ?_
    rw [(hz z).2]
    have h := n1 (z - m).toNat oM oM
    rw [show m + (((z - m).toNat : Nat) : Int) = z by omega] at h
    exact h
  ·have hpf : cF (aZ r) (k + (m + K)) = Cal.dayNo s.y s.mo s.d + (cK r.freq s + (m + K) * r.interval) / dy := by rw [(nD hu _).2.1, (hz _).1]
   rw [hn.adv]
   have hmo := hi.mo
   have hy := hi.y
   have hd := hi.d
   have hnd : 1 ≤ n.d := by
    rw [n2]
    have h1 := Int.mul_nonneg (show 0 ≤ m + (K : Int) by omega) (show 0 ≤ r.interval by omega)
    have := Int.ediv_nonneg (show 0 ≤ cK r.freq s + (m + (K : Int)) * r.interval by omega) (show 0 ≤ dy by omega)
    omega
   obtain ⟨c1, c2⟩ := aBz (r := bH (aE r) wF nF eF) (s := n) hnd (by rw [hn.mo]; exact hmo) (by rw [hn.y]; exact hy) (by rw [hn.fin]; exact hfin)
   have hrest := x6 (r := bH (aE r) wF nF eF) n
   have hdn : Cal.dayNo n.y n.mo n.d = cF (aZ r) (k + (m + K)) := by
    rw [hn.y, hn.mo, n2, hpf, jB hmo, jB hmo]; omega
   rw [hdn] at c1 c2
   refine ⟨fun h => ?_, fun h => (uE oM _).2 (c2 h)⟩
   have c3 := c1 h
   obtain ⟨g1, g2, g3, _⟩ := xH (r := bH (aE r) wF nF eF) (s := n) hnd (by rw [hn.mo]; exact hmo) (by rw [hn.y]; exact hy) (by rw [hn.ly, hn.y]; exact hi.ly) ⟨by rw [hn.wno, hn.ly]; exact hi.wno, by rw [hn.nwm, hn.ly, hn.lm]; exact hi.nwm, by rw [hn.eas, hn.ly]; exact hi.eas⟩ h
   have gl := tU g3 g2 g1
   rw [c3] at gl
   refine ⟨⟨u, dy, hu, by rw [c3, (nD hu _).2.1], by rw [qC hrest.h hrest.mi hrest.sec, n3, (hz _).2], ?_⟩, fun hov => ?_⟩
   ·unfold gO
    rw [hrest.ts, hn.ts, pP hrest.h hrest.mi hrest.sec, hn.ok, if_pos rfl, oU hrest.h hrest.mi hrest.sec]
   ·have := (uE (r := r) oM _).1 hov
    omega
theorem aHj (a : Nat) : ∀ b : Nat, ∃ x y : Int, ((Nat.gcd a b : Nat) : Int) = a * x + b * y := by
 induction a using Nat.strongRecOn with
 | _ a ih =>
  intro b
  rcases Nat.eq_zero_or_pos a with h | h
  ·subst h
   exact ⟨0, 1, by rw [Nat.gcd_zero_left]; simp⟩
  ·obtain ⟨x, y, e⟩ := ih (b % a) (Nat.mod_lt _ h) a
   refine ⟨y - (b / a : Nat) * x, x, ?_⟩
   rw [Nat.gcd_rec, e]
   have h2 : ((b % a : Nat) : Int) = b - a * (b / a : Nat) := by
    have := Nat.div_add_mod b a
    have h3 : ((a * (b / a) + b % a : Nat) : Int) = b := by rw [this]
    rw [Int.natCast_add, Int.natCast_mul] at h3
    omega
   rw [h2, Int.sub_mul, Int.mul_sub, Int.mul_assoc]
   omega
theorem nJ {r : Rul} (h : 4 ≤ r.freq) (x : Int) : aJ (cL (aE r)) x = aJ r.hour x := by
 unfold cL
 split
 ·rename_i h0
  rw [if_neg (by show ¬ r.freq < 4; omega), eS (show r.hour.length = 0 from h0)]; rfl
 ·rfl
theorem oL {r : Rul} (h : 5 ≤ r.freq) (x : Int) : aJ (bA (aE r)) x = aJ r.minute x := by
 unfold bA
 split
 ·rename_i h0
  rw [if_neg (by show ¬ r.freq < 5; omega), eS (show r.minute.length = 0 from h0)]; rfl
 ·rfl
theorem u3 {r : Rul} (h : 6 ≤ r.freq) (x : Int) : aJ (bI (aE r)) x = aJ r.second x := by
 unfold bI
 split
 ·rename_i h0
  rw [if_neg (by show ¬ r.freq < 6; omega), eS (show r.second.length = 0 from h0)]; rfl
 ·rfl
theorem aE1 {r : Rul} {wF : Int → List Int} {nF : Int → Int → List Int} {eF : Int → List Int} (rp : RightP r) (hf : 4 ≤ r.freq ∧ r.freq ≤ 6) (ts : List Int) :
  ∀ b, ∃ K, iK (bH (aE r) wF nF eF) b (it1 (aE r) (bH (aE r) wF nF eF) ts) = some K ∧ (K : Int) ≤ dC r.freq := by
 obtain ⟨u, dy, at_, hu, h0, h1, h2, h3, h4, h5⟩ := rp.t8 hf.1
 have hiv := rp.t1.interval
 have hsl : dC r.freq = dy := (nD hu 0).2.2.2.1
 have hdy : 24 ≤ dy := by rcases hu with ⟨_, h, _⟩ | ⟨_, h, _⟩ | ⟨_, h, _⟩ <;> omega
 have hso : cK r.freq (it1 (aE r) (bH (aE r) wF nF eF) ts) = r.start % 86400 / u := by
  show (if r.freq = 4 then r.start % 86400 / 3600 else if r.freq = 5 then r.start % 86400 / 3600 * 60 + r.start % 86400 / 60 % 60 else r.start % 86400 / 3600 * 3600 + r.start % 86400 / 60 % 60 * 60 + r.start % 86400 % 60) = _
  rcases hu with ⟨rfl, _, h⟩ | ⟨rfl, _, h⟩ | ⟨rfl, _, h⟩
  ·rw [if_pos h]
  ·rw [if_neg oM, if_pos h]; omega
  ·rw [if_neg oM, if_neg oM]; omega
 have hg := Int.emod_emod_of_dvd
 obtain ⟨x, y, hb⟩ := aHj r.interval.toNat dy.toNat
 rw [show ((r.interval.toNat : Nat) : Int) = r.interval by omega, show ((dy.toNat : Nat) : Int) = dy by omega] at hb
 have hk : ∃ k0 : Int, (r.start % 86400 / u + k0 * r.interval) % dy = at_ := by
  have e1 := Int.mul_ediv_add_emod at_ (Nat.gcd r.interval.toNat dy.toNat : Nat)
  have e2 := Int.mul_ediv_add_emod (r.start % 86400 / u) (Nat.gcd r.interval.toNat dy.toNat : Nat)
  rw [h2] at e1
  generalize (r.start % 86400 / u) / ((Nat.gcd r.interval.toNat dy.toNat : Nat) : Int) = c2 at e2
  generalize at_ / ((Nat.gcd r.interval.toNat dy.toNat : Nat) : Int) = c1 at e1
  generalize ((Nat.gcd r.interval.toNat dy.toNat : Nat) : Int) = g at e1 e2 hb
  refine ⟨x * (c1 - c2), ?_⟩
  have e3 : r.start % 86400 / u + x * (c1 - c2) * r.interval = at_ + dy * (-(y * (c1 - c2))) := by
   have e4 : g * (c1 - c2) = r.interval * x * (c1 - c2) + dy * y * (c1 - c2) := by rw [hb, Int.add_mul]
   rw [Int.mul_sub] at e4
   rw [Int.mul_neg, ← Int.mul_assoc, show x * (c1 - c2) * r.interval = r.interval * x * (c1 - c2) by rw [Int.mul_comm (x * (c1 - c2)), Int.mul_assoc]]
   omega
  rw [e3, Int.add_mul_emod_self_left, Int.emod_eq_of_lt h0 h1]
 obtain ⟨k0, hk⟩ := hk
 refine aCj (r := bH (aE r) wF nF eF) (s := it1 (aE r) (bH (aE r) wF nF eF) ts) hf (k0 := k0) ?_
 show cS (bH (aE r) wF nF eF) (bS r.freq _ ((cK r.freq (it1 (aE r) (bH (aE r) wF nF eF) ts) + k0 * r.interval) % dC r.freq)) = true
 rw [hso, hsl, hk]
 have hh : (bH (aE r) wF nF eF).hour = cL (aE r) := rfl
 have hm : (bH (aE r) wF nF eF).minute = bA (aE r) := rfl
 have hs : (bH (aE r) wF nF eF).second = bI (aE r) := rfl
 rcases hu with ⟨rfl, rfl, h⟩ | ⟨rfl, rfl, h⟩ | ⟨rfl, rfl, h⟩
 ·have e := ok4 (r := bH (aE r) wF nF eF) (s := it1 (aE r) (bH (aE r) wF nF eF) ts) (t := at_) h
  refine e.trans ?_
  rw [hh, nJ hf.1, show at_ = at_ * 3600 / 3600 by omega]; exact h3
 ·have e := ok5 (r := bH (aE r) wF nF eF) (s := it1 (aE r) (bH (aE r) wF nF eF) ts) (t := at_) h
  refine e.trans ?_
  rw [hh, hm, nJ hf.1, oL oM, show at_ / 60 = at_ * 60 / 3600 by omega, show at_ % 60 = at_ * 60 / 60 % 60 by omega, h3, h4 oM]; rfl
 ·have e := ok6 (r := bH (aE r) wF nF eF) (s := it1 (aE r) (bH (aE r) wF nF eF) ts) (t := at_) h
  refine e.trans ?_
  rw [hh, hm, hs, nJ hf.1, oL oM, u3 oM]
  rw [Int.mul_one] at h3 h4 h5
  rw [h3, h4 oM, h5 h]; rfl
theorem aDk {r : Rul} (rp : RightP r) (hf : 4 ≤ r.freq ∧ r.freq ≤ 6) {s : It} (h1 : 0 ≤ s.h ∧ s.h ≤ 23) (h2 : 0 ≤ s.mi ∧ s.mi ≤ 59) (h3 : 0 ≤ s.s ∧ s.s ≤ 59) : (gO (bH (aE r) wO nO wO) s).length ≤ 100000 ∧ ∀ t ∈ gO (bH (aE r) wO nO wO) s, 0 ≤ t ∧ t < 86400 := by
 obtain ⟨u, dy, hu⟩ := aEs hf
 obtain ⟨c1, c2⟩ := aA9 (wF := wO) (nF := nO) (eF := wO) rp hu h1 h2 h3 0
 have hb : ∀ t ∈ gO (bH (aE r) wO nO wO) s, 0 ≤ t ∧ t < 86400 := by
  intro t ht
  have h : 0 * 86400 + t ∈ eD (aZ r).hour (aZ r).minute (aZ r).second 0 (0 * 86400 + cK r.freq s * u) u := by rw [c2]; exact List.mem_map.2 ⟨t, ht, rfl⟩
  have := (kU.1 h)
  omega
 exact ⟨by have := wA c1 hb oM; omega, hb⟩
theorem aF0 {r : Rul} (rp : RightP r) (hf : 4 ≤ r.freq ∧ r.freq ≤ 6) : ¬eK (aZ r) 0 := fun h => by
 have h := (uE oM _).1 h
 have hs := rp.t1.start
 have h9 : Cal.daysTo 9000 = 3286817 := by decide
 obtain ⟨u, dy, hu⟩ := aEs hf
 rw [(nD hu 0).2.1, Int.zero_mul, Int.add_zero] at h
 rcases hu with ⟨rfl, rfl, _⟩ | ⟨rfl, rfl, _⟩ | ⟨rfl, rfl, _⟩ <;> omega
theorem zL {r : Rul} (rp : RightP r) (hf : 4 ≤ r.freq ∧ r.freq ≤ 6) : qB r (cW (aZ r)) := by
 intro most hm l h x w hin
 have hr := qN rp oM
 obtain ⟨hy, hw, he⟩ := kV rp oM
 have hnw : (bH (aE r) wO nO wO).nwd.length = 0 := sJ (by show 2 ≤ r.freq; omega) wO nO wO
 obtain ⟨_, _, _, _, h5, h6⟩ := qI rp
 have hlm : (bH (aE r) wO nO wO).minute.length ≤ 100 := h5
 have hls : (bH (aE r) wO nO wO).second.length ≤ 100 := h6
 have hpres : vA (bH (aE r) wO nO wO) := aA2 hr hf hlm hls
 have hs := rp.t1.start
 have h9 : Cal.daysTo 9000 = 3286817 := by decide
 have hit := aAq (jN rp) (show 4 ≤ r.freq ∧ r.freq ≤ 6 from hf) hw hnw he (fun _ => rfl) (fun _ _ => rfl) (fun _ => rfl) (qY rp wO nO wO) (show (aE r).d < 315537897600 by show r.start < _; omega) hr hlm hls
 have hb1 : 0 ≤ r.start % 86400 / 3600 ∧ r.start % 86400 / 3600 ≤ 23 := by omega
 have hb2 : 0 ≤ r.start % 86400 / 60 % 60 ∧ r.start % 86400 / 60 % 60 ≤ 59 := by omega
 have hb3 : 0 ≤ r.start % 86400 % 60 ∧ r.start % 86400 % 60 ≤ 59 := by omega
 have hit : zT (aE r) (bH (aE r) wO nO wO) (it1 (aE r) (bH (aE r) wO nO wO) (gO (bH (aE r) wO nO wO) (it1 (aE r) (bH (aE r) wO nO wO) []))) := hit
 have hR : R46 r (bH (aE r) wO nO wO) 0 (it1 (aE r) (bH (aE r) wO nO wO) (gO (bH (aE r) wO nO wO) (it1 (aE r) (bH (aE r) wO nO wO) []))) := by
  obtain ⟨u, dy, hu⟩ := aEs hf
  refine ⟨u, dy, hu, ?_, ?_, rfl⟩
  ·rw [Int.zero_mul, Int.add_zero]
   refine (pB (r.start / 86400)).trans ?_
   rcases hu with ⟨rfl, rfl, _⟩ | ⟨rfl, rfl, _⟩ | ⟨rfl, rfl, _⟩ <;> omega
  ·rw [Int.zero_mul, Int.add_zero]
   show (if r.freq = 4 then r.start % 86400 / 3600 else if r.freq = 5 then r.start % 86400 / 3600 * 60 + r.start % 86400 / 60 % 60 else r.start % 86400 / 3600 * 3600 + r.start % 86400 / 60 % 60 * 60 + r.start % 86400 % 60) = _
   rcases hu with ⟨rfl, rfl, h⟩ | ⟨rfl, rfl, h⟩ | ⟨rfl, rfl, h⟩
   ·rw [if_pos h]; omega
   ·rw [if_neg oM, if_pos h]; omega
   ·rw [if_neg oM, if_neg oM]; omega
 obtain ⟨N, hT⟩ := qZ rp (aHx rp hf fun _ _ => rfl) hpres (z6 rp (aDk rp hf hb1 hb2 hb3) (fun _ => aE1 rp hf _)) hR (aF0 rp hf) hm h
 exact m0 (jN rp) hit (tA rp) (tQ rp) (fun F w0 => tT (wR rp) F w0) hr
  ⟨(kT rp).1, (kT rp).2, aCl hr hf hw hnw he hlm hls⟩ hpres hm hT w hin
end Go.Proofs.YtdbbifbmkfmbkaaGreat
namespace Go.Proofs.YtdbbifbmkfmbkaaGreat
open Go.Md Go.Tab Go.Fr
theorem o8 {c st en most : Int} : ∀ (l o : List Int), o.length ≤ (cI c st en most o l).1.length
 | [], o => Nat.le_refl _
 | t :: l, o => by
  rw [fP]
  split
  ·exact o8 l o
  ·split
   ·exact Nat.le_refl _
   ·have := o8 (c := c) (st := st) (en := en) (most := most) l (o ++ [t])
    rw [List.length_append] at this
    omega
theorem mB {c st en en' m M : Int} (hm : m ≤ M) : ∀ (l o : List Int), (o.length : Int) ≤ m → (cI c st en' m o l).2 = true →
  (cI c st en M o l).1.length ≤ (cI c st en' m o l).1.length ∧ ((cI c st en M o l).2 = true → (cI c st en M o l).1 = (cI c st en' m o l).1) ∧ ((cI c st en' m o l).1.length : Int) ≤ m
 | [], o, h0, _ => ⟨Nat.le_refl _, fun _ => rfl, h0⟩
 | t :: l, o, h0, h => by
  rw [fP] at h ⊢
  rw [fP (en := en') (most := m)]
  split at h
  ·rename_i h1
   rw [if_pos h1, if_pos h1]
   exact mB hm l o h0 h
  ·rename_i h1
   split at h
   ·cases h
   ·rename_i h2
    rw [if_neg h1, if_neg h1, if_neg h2]
    have h3 : ((o ++ [t]).length : Int) ≤ m := by rw [List.length_append, List.length_singleton]; omega
    by_cases h4 : (o.length : Int) = M ∨ (0 < c ∧ (o.length : Int) = c) ∨ en < t
    ·rw [if_pos h4]
     obtain ⟨_, _, h7⟩ := mB hm (en := en) l (o ++ [t]) h3 h
     have h6 := o8 (c := c) (st := st) (en := en') (most := m) l (o ++ [t])
     rw [List.length_append] at h6
     exact ⟨sO, fun h => (by cases h), h7⟩
    ·rw [if_neg h4]
     exact mB hm l (o ++ [t]) h3 h
theorem aCo {q : Rul} {dayF : Int → Bool} {en en' m M : Int} (hm : m < M) {k : Int} {o l : List Int} (h : DatesP q dayF en M k o l) : (o.length : Int) ≤ m → ((l.length : Int) = M ∨ (0 < q.count ∧ (l.length : Int) = q.count)) → ∃ l', DatesP q dayF en' m k o l' := by
 induction h with
 | over h => exact fun _ _ => ⟨_, .over h⟩
 | @stop k o h hs =>
  intro h0 hl
  cases hb : (dS q q.start en' m o (eJ q dayF k)).2 with
  | false => exact ⟨_, .stop h hb⟩
  | true =>
   unfold dS at hb hl
   simp only [Bool.and_eq_true] at hb hl
   obtain ⟨c1, c2, c3⟩ := mB (c := q.count) (st := q.start) (en := en) (Int.le_of_lt hm) _ o h0 hb.1
   have hk := hb.2
   unfold iU at hk
   simp only [Bool.and_eq_true, Bool.or_eq_true, decide_eq_true_eq, beq_iff_eq] at hk
   omega
 | @more k o l h hs hn ih =>
  intro h0 hl
  cases hb : (dS q q.start en' m o (eJ q dayF k)).2 with
  | false => exact ⟨_, .stop h hb⟩
  | true =>
   have hb2 := hb
   have hs2 := hs
   unfold dS at hb2 hs2
   simp only [Bool.and_eq_true] at hb2 hs2
   obtain ⟨c1, c2, c3⟩ := mB (c := q.count) (st := q.start) (en := en) (Int.le_of_lt hm) _ o h0 hb2.1
   have e : (dS q q.start en M o (eJ q dayF k)).1 = (dS q q.start en' m o (eJ q dayF k)).1 := c2 hs2.1
   rw [e] at ih
   obtain ⟨l', hl'⟩ := ih c3 hl
   exact ⟨l', .more h hb hl'⟩
theorem wL (r : Rul) : aZ (cD r) = cD (aZ r) := by
 have h4 : ∀ r, gH (cD r) = cD (gH r) := fun r => by
  unfold gH
  by_cases h : r.second.length = 0 ∧ r.freq < 6
  ·rw [if_pos h, if_pos (show (cD r).second.length = 0 ∧ (cD r).freq < 6 from h)]; rfl
  ·rw [if_neg h, if_neg (show ¬((cD r).second.length = 0 ∧ (cD r).freq < 6) from h)]
 have h3 : ∀ r, eV (cD r) = cD (eV r) := fun r => by
  unfold eV
  by_cases h : r.minute.length = 0 ∧ r.freq < 5
  ·rw [if_pos h, if_pos (show (cD r).minute.length = 0 ∧ (cD r).freq < 5 from h)]; rfl
  ·rw [if_neg h, if_neg (show ¬((cD r).minute.length = 0 ∧ (cD r).freq < 5) from h)]
 have h2 : ∀ r, eO (cD r) = cD (eO r) := fun r => by
  unfold eO
  by_cases h : r.hour.length = 0 ∧ r.freq < 4
  ·rw [if_pos h, if_pos (show (cD r).hour.length = 0 ∧ (cD r).freq < 4 from h)]; rfl
  ·rw [if_neg h, if_neg (show ¬((cD r).hour.length = 0 ∧ (cD r).freq < 4) from h)]
 have h1 : eN (cD r) = cD (eN r) := by
  unfold eN
  by_cases h : pE r
  ·rw [if_pos h, if_pos (show pE (cD r) from h)]
   by_cases ha : r.freq = 0
   ·rw [if_pos ha, if_pos (show (cD r).freq = 0 from ha)]; rfl
   ·rw [if_neg ha, if_neg (show ¬(cD r).freq = 0 from ha)]
    by_cases hb : r.freq = 1
    ·rw [if_pos hb, if_pos (show (cD r).freq = 1 from hb)]; rfl
    ·rw [if_neg hb, if_neg (show ¬(cD r).freq = 1 from hb)]
     by_cases hc : r.freq = 2
     ·rw [if_pos hc, if_pos (show (cD r).freq = 2 from hc)]; rfl
     ·rw [if_neg hc, if_neg (show ¬(cD r).freq = 2 from hc)]
  ·rw [if_neg h, if_neg (show ¬pE (cD r) from h)]
 unfold aZ
 rw [h1, h2, h3, h4]
theorem u9 {q : Rul} {dayF : Int → Bool} {en most : Int} {k : Int} {o l : List Int} (h : DatesP (cD q) dayF en most k o l) : DatesP q dayF en most k o l := by
 induction h with
 | over h => exact .over h
 | stop h hs => exact .stop h hs
 | more h hs hn ih => exact .more h hs ih
theorem aCr {r : Rul} {m : Nat} (h : ∃ l, lI (cD r) (cW (aZ (cD r))) ((m : Int) + 1) l ∧ ((l.length : Int) = (m : Int) + 1 ∨ (0 < r.count ∧ (l.length : Int) = r.count))) : ∃ l, lI r (cW (aZ r)) (m : Int) l := by
 obtain ⟨l, h1, h2⟩ := h
 unfold lI at h1
 rw [wL] at h1
 have h3 := u9 h1
 have e5 := (dG r).2.2.2.2.1
 exact aCo (q := aZ r) (dayF := cW (aZ r)) (en' := dM r) (m := (m : Int)) oM h3 (by simp) (by rw [e5]; exact h2)
end Go.Proofs.YtdbbifbmkfmbkaaGreat
namespace Go.Proofs.YtdbbifbmkfmbkaaGreat
open Go.RowKit Go.Fr Go.Tab
section
variable {F : Nat → Prop} {w0 : World} {B : LN} {H : LV} {S : LS}
open Go.Md
theorem rN (r : Rul) (x : Av) (hfb : 0 ≤ r.freq) (hl : LenL r) (hcap : CapL r x) (m : Nat) (hm : m ≤ 1000) {dayF dayU : Int → Bool} (Φ : List Int → Prop) (hdu : RightP r → aB8 (aZ (cD r)) dayU) (hfirst : RightP r → qB r dayF) (hask : RightP r → (∃ l, lI (cD r) dayU ((m : Int) + 1) l ∧ ((l.length : Int) = (m : Int) + 1 ∨ (0 < r.count ∧ (l.length : Int) = r.count))) → ∃ l, lI r dayF (m : Int) l ∧ Φ l) (w : World) (hin : InL w r x) : Calls Tryz.prog 22 #[.agg (bC r x).toArray, iV m] w fun e w' => ∃ (b : Bool) (l : List Int) (p : Option Addr) (c : Nat), (b = true → RightP r ∧ lI r dayF (m : Int) l ∧ Φ l) ∧ (b = false → l = []) ∧ e = .returned (.tuple #[.slice p l.length c, .bool b, .bool true]) ∧ fL w w' (.slice p l.length c) 2 1 l.length (l.map iV) := by
 refine aI (args := [.agg (bC r x).toArray, iV m]) (L := [(0, .agg (bC r x).toArray), (1, iV m)]) (N := 25) Tryz.func22 rfl rfl ble rfl (sS w) ?_
 refine g2 ?_
 refine gL (fM 50 (cs := bC r x) dE rfl rfl rfl (fun o ho => rfl) ble (fun b1 hb1 => ?_))
 refine g8 ?_
 refine rl ((dP 50 (cs := bC r x) rfl rfl (fJ (bC r x) 0 ble) ble kR)) ?_
 refine gL (cbx (fun b : Bool => .bool b) (fun b => b = true → RightP r) rfl (fun w_ s_ => xW r x hfb hl hcap w_ (InL.see s_ hin)) (fun rb hrp => ?_))
 rcases bO ((!rb)) with hrb | hrb
 ·refine rl ((gA rfl).to (v' := .bool true) (cB hrb)) ?_
  refine g8 ?_
  refine aY rfl rfl ?_
  refine g9 ?_
  refine jP (L' := [(4, sN), (5, .bool false), (6, .bool true)]) kns (fun w s => s.aJ6 13 2 1) ?_
  refine jI (.inl rfl) rfl (aD rfl) (aD rfl) (aD rfl) fun w_ s_ => ⟨false, [], none, 0, fun h => (by cases h), fun _ => rfl, rfl, ?_⟩
  exact s_.toNew (k := 13) rfl
 ·have hR : RightP r := hrp (by simpa using hrb)
  refine rZ2 ((gA rfl).to (v' := .bool false) (cB hrb)) ?_
  refine rZ3 ((dP 50 (cs := bC r x) rfl rfl (fJ (bC r x) 0 ble) ble kR)) ?_
  refine gL (cbx (fun b : Bool => .bool b) (fun b => b = true → ∃ l, lI (cD r) dayU ((m : Int) + 1) l ∧ ((l.length : Int) = (m : Int) + 1 ∨ (0 < r.count ∧ (l.length : Int) = r.count))) rfl (fun w_ s_ => yL r x dayU (m : Int) hR hl (vJ (rY hl)) oM (hdu hR) w_ (InL.see s_ hin)) (fun sb hsp => ?_))
  refine g1 ?_
  rcases bO ((!sb)) with hsb | hsb
  ·refine rl ((gA rfl).to (v' := .bool true) (cB hsb)) ?_
   refine jT ?_
   refine jP (L' := [(4, sN), (5, .bool false), (6, .bool true)]) kns (fun w s => s.aJ6 13 2 1) ?_
   refine jI (.inl rfl) rfl (aD rfl) (aD rfl) (aD rfl) fun w_ s_ => ⟨false, [], none, 0, fun h => (by cases h), fun _ => rfl, rfl, ?_⟩
   exact s_.toNew (k := 13) rfl
  ·obtain ⟨l, href, hphi⟩ := hask hR (hsp (by simpa using hsb))
   refine rl ((gA rfl).to (v' := .bool false) (cB hsb)) ?_
   refine g3 ?_
   refine aP rfl rfl ?_
   refine g4 ?_
   refine rl ((dP 50 (cs := bC r x) rfl rfl (fJ (bC r x) 0 ble) ble kR)) ?_
   refine gL (crx (ι := Option Addr × Nat) 12 (fun y => .agg (bC r { x with p14 := y.1, c14 := y.2 }).toArray) (fun _ => True) (fun y => ⟨.slice y.1 r.wday.length y.2, 69, 2, r.wday.length, eI r.wday⟩) rfl (fun w_ s_ => (wS r x (by have := nL hR; omega) w_ (InL.see s_ hin)).mono fun e w' ⟨p, c, h1, h2⟩ => ⟨(p, c), trivial, h1, h2⟩) (fun | (pd, cd), _ => ?_))
   refine g1 ?_
   refine gL (crx (ι := Option Addr × Nat) 11 (fun y => .tuple #[.slice y.1 (l).length y.2, .bool true]) (fun _ => True) (fun y => ⟨.slice y.1 (l).length y.2, 2, 1, (l).length, ((l).map iV)⟩) rfl (fun w_ s_ => (hfirst hR m oM l href { x with p14 := pd, c14 := cd } w_ (InL.day (InL.see s_ hin) (aBu (ps := r.wday) s_ 12 rfl))).mono fun e w' ⟨p, c, h1, h2⟩ => ⟨(p, c), trivial, h1, h2⟩) (fun | (pf, cf), _ => ?_))
   refine g16 ?_
   refine g1 ?_
   refine jI (.inl rfl) rfl (aD rfl) (aD rfl) (aD rfl) fun w_ s_ => ⟨true, l, pf, cf, fun _ => ⟨hR, href, hphi⟩, fun h => (by cases h), rfl, ?_⟩
   exact s_.toNew (k := 11) rfl
end
end Go.Proofs.YtdbbifbmkfmbkaaGreat
namespace Go.Proofs.YtdbbifbmkfmbkaaGreat
open Go.Md Go.Tab Go.Fr
theorem qP {c st en most : Int} (hc : 0 < c) : ∀ (l o : List Int), (o.length : Int) ≤ c → ((cI c st en most o l).1.length : Int) ≤ c
 | [], o, h => h
 | t :: l, o, h => by
  rw [fP]
  by_cases h1 : t < st
  ·rw [if_pos h1]; exact qP hc l o h
  ·rw [if_neg h1]
   by_cases h2 : (o.length : Int) = most ∨ (0 < c ∧ (o.length : Int) = c) ∨ en < t
   ·rw [if_pos h2]; exact h
   ·rw [if_neg h2]
    exact qP hc l (o ++ [t]) (by rw [List.length_append, List.length_singleton]; omega)
end Go.Proofs.YtdbbifbmkfmbkaaGreat
namespace Go.Proofs.YtdbbifbmkfmbkaaGreat
open Go.Md Go.Tab Go.Fr
def l5 (c most : Int) (n : Nat) : Prop := (n : Int) = most ∨ (0 < c ∧ (n : Int) = c)
structure Pre (H : Int → Prop) (c most : Int) (l : List Int) : Prop where
 si : SI l
 hit : ∀ x ∈ l, H x
 all : ∀ x, H x → x ∈ l ∨ (l5 c most l.length ∧ ∀ y ∈ l, y < x)
 le : (l.length : Int) ≤ most ∧ (0 < c → (l.length : Int) ≤ c)
theorem SI.sub : ∀ {l m : List Int}, SI l → SI m → (∀ x ∈ l, x ∈ m) → l.length ≤ m.length ∧ (m.length ≤ l.length → l = m)
 | [], [], _, _, _ => ⟨Nat.le_refl _, fun _ => rfl⟩
 | [], b :: m, _, _, _ => ⟨Nat.zero_le _, fun h => by simp only [List.length_cons, List.length_nil] at h; omega⟩
 | a :: l, [], _, _, h => by have := h a List.mem_cons_self; cases this
 | a :: l, b :: m, hl, hm, h => by
  obtain ⟨l1, l2⟩ := List.pairwise_cons.1 hl
  obtain ⟨m1, m2⟩ := List.pairwise_cons.1 hm
  by_cases e : a = b
  ·subst e
   obtain ⟨h1, h2⟩ := SI.sub l2 m2 fun x hx => by
    rcases List.mem_cons.1 (h x (List.mem_cons_of_mem _ hx)) with rfl | h3
    ·have := l1 x hx; omega
    ·exact h3
   simp only [List.length_cons]
   exact ⟨by omega, fun h3 => by rw [h2 oM]⟩
  ·have hb : b < a := by
    rcases List.mem_cons.1 (h a List.mem_cons_self) with h3 | h3
    ·exact absurd h3 e
    ·exact m1 a h3
   obtain ⟨h1, _⟩ := SI.sub hl m2 fun x hx => by
    rcases List.mem_cons.1 (h x hx) with h3 | h3
    ·subst h3
     rcases List.mem_cons.1 hx with h4 | h4
     ·omega
     ·have := l1 _ h4; omega
    ·exact h3
   simp only [List.length_cons] at h1 ⊢
   exact ⟨by omega, fun h3 => by omega⟩
theorem SI.sub_len {l m : List Int} (hl : SI l) (hm : SI m) (h : ∀ x ∈ l, x ∈ m) : l.length ≤ m.length := (SI.sub hl hm h).1
theorem SI.sub_eq {l m : List Int} (hl : SI l) (hm : SI m) (h : ∀ x ∈ l, x ∈ m) (hn : m.length ≤ l.length) : l = m := (SI.sub hl hm h).2 hn
theorem Pre.det {H : Int → Prop} {c most : Int} {l m : List Int} (hl : Pre H c most l) (hm : Pre H c most m) : l = m := by
 have key : ∀ {l m : List Int}, Pre H c most l → Pre H c most m → (∀ x ∈ l, x ∈ m) → l = m := by
  intro l m hl hm h
  have h1 := SI.sub_len hl.si hm.si h
  by_cases h2 : m.length ≤ l.length
  ·exact SI.sub_eq hl.si hm.si h h2
  ·exfalso
   have : ∃ y ∈ m, y ∉ l := by
    refine Classical.byContradiction fun hn => h2 (SI.sub_len hm.si hl.si fun x hx => Classical.byContradiction fun h3 => hn ⟨x, hx, h3⟩)
   obtain ⟨y, hy, hy2⟩ := this
   rcases hl.all y (hm.hit y hy) with h3 | ⟨h3, _⟩
   ·exact hy2 h3
   ·have := hm.le
    unfold l5 at h3
    omega
 by_cases h : ∀ x ∈ l, x ∈ m
 ·exact key hl hm h
 ·refine (key hm hl fun y hy => Classical.byContradiction fun hy2 => ?_).symm
  have : ∃ x ∈ l, x ∉ m := Classical.byContradiction fun hn => h fun x hx => Classical.byContradiction fun h3 => hn ⟨x, hx, h3⟩
  obtain ⟨x, hx, hx2⟩ := this
  rcases hm.all x (hl.hit x hx) with h3 | ⟨_, h3⟩
  ·exact hx2 h3
  ·rcases hl.all y (hm.hit y hy) with h4 | ⟨_, h4⟩
   ·exact hy2 h4
   ·have := h3 y hy
    have := h4 x hx
    omega
theorem SI.snoc {o : List Int} {t : Int} (h : SI o) (hb : ∀ x ∈ o, x < t) : SI (o ++ [t]) := by
 unfold SI at *
 rw [List.pairwise_append]
 exact ⟨h, by simp, fun a ha b hb2 => by rw [List.mem_singleton] at hb2; subst hb2; exact hb a ha⟩
theorem l8 {c st en most : Int} : ∀ (L o : List Int), SI L → SI o → (∀ x ∈ o, ∀ t ∈ L, x < t) →
  SI (cI c st en most o L).1 ∧ (∀ x ∈ (cI c st en most o L).1, x ∈ o ∨ (x ∈ L ∧ st ≤ x ∧ x ≤ en)) ∧ (∀ x ∈ o, x ∈ (cI c st en most o L).1) ∧
  ((cI c st en most o L).2 = true → ∀ x ∈ L, st ≤ x → x ∈ (cI c st en most o L).1) ∧
  ((cI c st en most o L).2 = false → (∀ x ∈ L, st ≤ x → x ≤ en → x ∈ (cI c st en most o L).1 ∨ (l5 c most (cI c st en most o L).1.length ∧ ∀ y ∈ (cI c st en most o L).1, y < x)) ∧ (l5 c most (cI c st en most o L).1.length ∨ ∃ t ∈ L, en < t))
 | [], o, _, ho, _ => ⟨ho, fun x hx => .inl hx, fun x hx => hx, fun _ x hx => (by cases hx), fun h => (by cases h)⟩
 | t :: l, o, hL, ho, hlt => by
  have hL1 : SI l := (List.pairwise_cons.1 hL).2
  have hL2 : ∀ x ∈ l, t < x := (List.pairwise_cons.1 hL).1
  rw [fP]
  by_cases h1 : t < st
  ·rw [if_pos h1]
   obtain ⟨a1, a2, a3, a4, a5⟩ := l8 (c := c) (st := st) (en := en) (most := most) l o hL1 ho fun x hx y hy => hlt x hx y (List.mem_cons_of_mem _ hy)
   refine ⟨a1, fun x hx => ?_, a3, fun h x hx hs => ?_, fun h => ⟨fun x hx hs he => ?_, ?_⟩⟩
   ·rcases a2 x hx with h | ⟨h, g⟩
    ·exact .inl h
    ·exact .inr ⟨List.mem_cons_of_mem _ h, g⟩
   ·rcases List.mem_cons.1 hx with rfl | hx
    ·omega
    ·exact a4 h x hx hs
   ·rcases List.mem_cons.1 hx with rfl | hx
    ·omega
    ·exact (a5 h).1 x hx hs he
   ·rcases (a5 h).2 with h | ⟨y, h, g⟩
    ·exact .inl h
    ·exact .inr ⟨y, List.mem_cons_of_mem _ h, g⟩
  ·rw [if_neg h1]
   by_cases h2 : (o.length : Int) = most ∨ (0 < c ∧ (o.length : Int) = c) ∨ en < t
   ·rw [if_pos h2]
    refine ⟨ho, fun x hx => .inl hx, fun x hx => hx, fun h => (by cases h), fun _ => ⟨fun x hx hs he => ?_, ?_⟩⟩
    ·have hx2 : t ≤ x := by
      rcases List.mem_cons.1 hx with rfl | hx
      ·exact Int.le_refl _
      ·exact Int.le_of_lt (hL2 x hx)
     refine .inr ⟨?_, fun y hy => hlt y hy x hx⟩
     show l5 c most o.length
     unfold l5
     omega
    ·by_cases h3 : en < t
     ·exact .inr ⟨t, List.mem_cons_self, h3⟩
     ·refine .inl ?_
      show l5 c most o.length
      unfold l5
      omega
   ·rw [if_neg h2]
    have g1 : SI (o ++ [t]) := ho.snoc fun x hx => hlt x hx t List.mem_cons_self
    obtain ⟨a1, a2, a3, a4, a5⟩ := l8 (c := c) (st := st) (en := en) (most := most) l (o ++ [t]) hL1 g1 fun x hx y hy => by
     rcases List.mem_append.1 hx with hx | hx
     ·exact hlt x hx y (List.mem_cons_of_mem _ hy)
     ·rw [List.mem_singleton] at hx; subst hx; exact hL2 y hy
    refine ⟨a1, fun x hx => ?_, fun x hx => a3 x (List.mem_append_left _ hx), fun h x hx hs => ?_, fun h => ⟨fun x hx hs he => ?_, ?_⟩⟩
    ·rcases a2 x hx with h | ⟨h, g⟩
     ·rcases List.mem_append.1 h with h | h
      ·exact .inl h
      ·rw [List.mem_singleton] at h; subst h
       exact .inr ⟨List.mem_cons_self, by omega⟩
     ·exact .inr ⟨List.mem_cons_of_mem _ h, g⟩
    ·rcases List.mem_cons.1 hx with rfl | hx
     ·exact a3 _ (List.mem_append_right _ (List.mem_singleton.2 rfl))
     ·exact a4 h x hx hs
    ·rcases List.mem_cons.1 hx with rfl | hx
     ·exact .inl (a3 _ (List.mem_append_right _ (List.mem_singleton.2 rfl)))
     ·exact (a5 h).1 x hx hs he
    ·rcases (a5 h).2 with h | ⟨y, h, g⟩
     ·exact .inl h
     ·exact .inr ⟨y, List.mem_cons_of_mem _ h, g⟩
def iL (q : Rul) (dayF : Int → Bool) (k : Int) : List Int := dJ (eJ q dayF k) q.setpos
def aAn (q : Rul) (dayF : Int → Bool) (en : Int) (x : Int) : Prop := ∃ k, 0 ≤ k ∧ x ∈ iL q dayF k ∧ q.start ≤ x ∧ x ≤ en
structure Rises (q : Rul) (dayF : Int → Bool) (en : Int) : Prop where
 si : ∀ k, 0 ≤ k → SI (iL q dayF k)
 lt : ∀ j k, 0 ≤ j → j < k → ∀ x ∈ iL q dayF j, ∀ y ∈ iL q dayF k, x < y
 over : ∀ j k, 0 ≤ j → j ≤ k → eK q j → ∀ x ∈ iL q dayF k, en < x
theorem aCx {q : Rul} {dayF : Int → Bool} {en most : Int} (R : Rises q dayF en) (hc0 : 0 ≤ q.count) {k : Int} {o l : List Int} (h : DatesP q dayF en most k o l) : 0 ≤ k → SI o → (∀ x ∈ o, ∃ j, 0 ≤ j ∧ j < k ∧ x ∈ iL q dayF j ∧ q.start ≤ x ∧ x ≤ en) → (∀ j, 0 ≤ j → j < k → ∀ x ∈ iL q dayF j, q.start ≤ x → x ≤ en → x ∈ o) → (o.length : Int) ≤ most ∧ (0 < q.count → (o.length : Int) ≤ q.count) → Pre (aAn q dayF en) q.count most l := by
 have step : ∀ (k : Int) (o : List Int), 0 ≤ k → SI o → (∀ x ∈ o, ∃ j, 0 ≤ j ∧ j < k ∧ x ∈ iL q dayF j ∧ q.start ≤ x ∧ x ≤ en) → (o.length : Int) ≤ most ∧ (0 < q.count → (o.length : Int) ≤ q.count) →
   (∀ x ∈ (dS q q.start en most o (eJ q dayF k)).1, ∃ j, 0 ≤ j ∧ j < k + 1 ∧ x ∈ iL q dayF j ∧ q.start ≤ x ∧ x ≤ en) ∧ SI (dS q q.start en most o (eJ q dayF k)).1 ∧ (((dS q q.start en most o (eJ q dayF k)).1.length : Int) ≤ most ∧ (0 < q.count → ((dS q q.start en most o (eJ q dayF k)).1.length : Int) ≤ q.count)) := by
  intro k o h0 hs ho hn
  have hlt : ∀ x ∈ o, ∀ t ∈ iL q dayF k, x < t := fun x hx t ht => by
   obtain ⟨j, j0, j1, j2, _⟩ := ho x hx
   exact R.lt j k j0 j1 x j2 t ht
  obtain ⟨a1, a2, a3, a4, a5⟩ := l8 (c := q.count) (st := q.start) (en := en) (most := most) (iL q dayF k) o (R.si k h0) hs hlt
  refine ⟨fun x hx => ?_, a1, i6 _ _ _ _ _ _ hn.1, fun hp => qP hp _ _ (hn.2 hp)⟩
  rcases a2 x hx with h | ⟨h, g⟩
  ·obtain ⟨j, j0, j1, j2⟩ := ho x h
   exact ⟨j, j0, by omega, j2⟩
  ·exact ⟨k, h0, by omega, h, g⟩
 induction h with
 | @over k o h =>
  intro h0 hs ho ha hn
  refine ⟨hs, fun x hx => ?_, fun x ⟨j, j0, j1, j2, j3⟩ => ?_, hn⟩
  ·obtain ⟨j, j0, _, j2⟩ := ho x hx
   exact ⟨j, j0, j2⟩
  ·by_cases hj : j < k
   ·exact .inl (ha j j0 hj x j1 j2 j3)
   ·have := R.over k j h0 oM h x j1
    omega
 | @stop k o h hs2 =>
  intro h0 hs ho ha hn
  obtain ⟨b1, b2, b3⟩ := step k o h0 hs ho hn
  have hlt : ∀ x ∈ o, ∀ t ∈ iL q dayF k, x < t := fun x hx t ht => by
   obtain ⟨j, j0, j1, j2, _⟩ := ho x hx
   exact R.lt j k j0 j1 x j2 t ht
  obtain ⟨a1, a2, a3, a4, a5⟩ := l8 (c := q.count) (st := q.start) (en := en) (most := most) (iL q dayF k) o (R.si k h0) hs hlt
  refine ⟨b2, fun x hx => ?_, fun x ⟨j, j0, j1, j2, j3⟩ => ?_, b3⟩
  ·obtain ⟨j, j0, _, j2⟩ := b1 x hx
   exact ⟨j, j0, j2⟩
  ·have hfull : (cI q.count q.start en most o (iL q dayF k)).2 = true → l5 q.count most (cI q.count q.start en most o (iL q dayF k)).1.length := fun hg => by
    unfold dS at hs2
    simp only at hs2
    change ((cI q.count q.start en most o (iL q dayF k)).2 && iU q.count most (cI q.count q.start en most o (iL q dayF k)).1.length) = false at hs2
    rw [hg, Bool.true_and] at hs2
    unfold iU at hs2
    simp only [Bool.and_eq_false_iff, Bool.or_eq_false_iff, decide_eq_false_iff_not, beq_eq_false_iff_ne] at hs2
    have b31 : ((cI q.count q.start en most o (iL q dayF k)).1.length : Int) ≤ most := b3.1
    have b32 : 0 < q.count → ((cI q.count q.start en most o (iL q dayF k)).1.length : Int) ≤ q.count := b3.2
    unfold l5
    by_cases hc : 0 < q.count
    ·have := b32 hc
     omega
    ·rcases hs2 with g | ⟨g1, g2⟩
     ·omega
     ·omega
   change x ∈ (cI q.count q.start en most o (iL q dayF k)).1 ∨ (l5 q.count most (cI q.count q.start en most o (iL q dayF k)).1.length ∧ ∀ y ∈ (cI q.count q.start en most o (iL q dayF k)).1, y < x)
   rcases Int.lt_trichotomy j k with hj | hj | hj
   ·exact .inl (a3 x (ha j j0 hj x j1 j2 j3))
   ·subst hj
    cases hg : (cI q.count q.start en most o (iL q dayF j)).2 with
    | true => exact .inl (a4 hg x j1 j2)
    | false => exact (a5 hg).1 x j1 j2 j3
   ·have hbig : ∀ y ∈ (cI q.count q.start en most o (iL q dayF k)).1, y < x := fun y hy => by
     obtain ⟨i, i0, i1, i2, _⟩ := b1 y hy
     exact R.lt i j i0 oM y i2 x j1
    cases hg : (cI q.count q.start en most o (iL q dayF k)).2 with
    | true => exact .inr ⟨hfull hg, hbig⟩
    | false =>
     rcases (a5 hg).2 with h5 | ⟨t, h5, h6⟩
     ·exact .inr ⟨h5, hbig⟩
     ·have := R.lt k j h0 hj t h5 x j1
      omega
 | @more k o l h hs2 hn2 ih =>
  intro h0 hs ho ha hn
  obtain ⟨b1, b2, b3⟩ := step k o h0 hs ho hn
  have hlt : ∀ x ∈ o, ∀ t ∈ iL q dayF k, x < t := fun x hx t ht => by
   obtain ⟨j, j0, j1, j2, _⟩ := ho x hx
   exact R.lt j k j0 j1 x j2 t ht
  obtain ⟨a1, a2, a3, a4, a5⟩ := l8 (c := q.count) (st := q.start) (en := en) (most := most) (iL q dayF k) o (R.si k h0) hs hlt
  have hg : (cI q.count q.start en most o (iL q dayF k)).2 = true := by
   have : ((cI q.count q.start en most o (iL q dayF k)).2 && iU q.count most (cI q.count q.start en most o (iL q dayF k)).1.length) = true := hs2
   exact (Bool.and_eq_true_iff.1 this).1
  refine ih oM b2 b1 (fun j j0 j1 x j2 j3 j4 => ?_) b3
  change x ∈ (cI q.count q.start en most o (iL q dayF k)).1
  by_cases hj : j < k
  ·exact a3 x (ha j j0 hj x j2 j3 j4)
  ·obtain rfl : j = k := by omega
   exact a4 hg x j2 j3
theorem aF3 {q : Rul} {dayF : Int → Bool} {en most : Int} (R : Rises q dayF en) (hm : 0 ≤ most) (hc : 0 ≤ q.count) {l : List Int} (h : DatesP q dayF en most 0 [] l) : Pre (aAn q dayF en) q.count most l :=
 aCx R hc h (Int.le_refl _) List.Pairwise.nil (fun x hx => by cases hx) (fun j j0 j1 => by omega) ⟨hm, fun h => hc⟩
end Go.Proofs.YtdbbifbmkfmbkaaGreat
namespace Go.Proofs.YtdbbifbmkfmbkaaGreat
open Go.Md Go.Tab Go.Fr
def o9 (q : Rul) (x : Int) : Prop := aJ q.hour (x % 86400 / 3600) = true ∧ aJ q.minute (x % 86400 / 60 % 60) = true ∧ aJ q.second (x % 60) = true
def pLo (q : Rul) (k : Int) : Int := if 4 ≤ q.freq then pAt q k else cF q k * 86400
def pHi (q : Rul) (k : Int) : Int := if 4 ≤ q.freq then pAt q k + UN q.freq else (cF q k + iS q k) * 86400
theorem zM (f : Int) : (UN f = 3600 ∨ UN f = 60 ∨ UN f = 1) := by
 unfold UN
 split
 ·exact .inl rfl
 ·split
  ·exact .inr (.inl rfl)
  ·exact .inr (.inr rfl)
theorem oX {q : Rul} {dayF : Int → Bool} {d x : Int} : x ∈ iX q dayF d ↔ d * 86400 ≤ x ∧ x < (d + 1) * 86400 ∧ 0 ≤ x ∧ dayF (x / 86400) = true ∧ o9 q x := by
 unfold iX o9
 by_cases h : 0 ≤ d ∧ dayF d = true
 ·rw [if_pos h, kU]
  constructor
  ·rintro ⟨h1, h2, h3, h4, h5, h6, h7⟩
   obtain rfl : x / 86400 = d := by omega
   refine ⟨by omega, by omega, by omega, h.2, ?_, ?_, ?_⟩
   ·rw [show x % 86400 = x - x / 86400 * 86400 by omega]; exact h5
   ·rw [show x % 86400 = x - x / 86400 * 86400 by omega]; exact h6
   ·rw [show x % 60 = (x - x / 86400 * 86400) % 60 by omega]; exact h7
  ·rintro ⟨h1, h2, h3, h4, h5, h6, h7⟩
   obtain rfl : x / 86400 = d := by omega
   refine ⟨by omega, by omega, by omega, by omega, ?_, ?_, ?_⟩
   ·rw [show x - x / 86400 * 86400 = x % 86400 by omega]; exact h5
   ·rw [show x - x / 86400 * 86400 = x % 86400 by omega]; exact h6
   ·rw [show (x - x / 86400 * 86400) % 60 = x % 60 by omega]; exact h7
 ·rw [if_neg h]
  constructor
  ·intro h; cases h
  ·rintro ⟨h1, h2, h3, h4, _⟩
   obtain rfl : x / 86400 = d := by omega
   exact absurd ⟨by omega, h4⟩ h
theorem aDg (q : Rul) (dayF : Int → Bool) (d : Int) : SI (iX q dayF d) := by
 unfold iX
 split
 ·exact sQ _ _ _ _ _ _
 ·exact List.Pairwise.nil
theorem aD5 (q : Rul) (dayF : Int → Bool) (k : Int) : SI (eJ q dayF k) := by
 unfold eJ
 split
 ·split
  ·exact sQ _ _ _ _ _ _
  ·exact List.Pairwise.nil
 ·unfold jL
  refine SI.flat (a := cF q k * 86400) (w := 86400) dE (fun i => aDg _ _ _) (fun i x hx => ?_) _
  have := oX.1 hx
  omega
theorem vH {q : Rul} {dayF : Int → Bool} {k x : Int} (hm : 0 ≤ iS q k) (hf : 4 ≤ q.freq → cF q k = pAt q k / 86400 ∧ 0 ≤ pAt q k ∧ pAt q k % UN q.freq = 0) : x ∈ eJ q dayF k ↔ pLo q k ≤ x ∧ x < pHi q k ∧ 0 ≤ x ∧ dayF (x / 86400) = true ∧ o9 q x := by
 unfold eJ pLo pHi
 by_cases h4 : 4 ≤ q.freq
 ·rw [if_pos h4, if_pos h4, if_pos h4]
  obtain ⟨g1, g2, g3⟩ := hf h4
  have hday : ∀ y, pAt q k ≤ y → y < pAt q k + UN q.freq → y / 86400 = cF q k := fun y h1 h2 => by
   rw [g1]
   rcases zM q.freq with h | h | h <;> rw [h] at h2 g3 <;> omega
  constructor
  ·intro h
   split at h
   ·rename_i hd
    rw [kU] at h
    obtain ⟨h1, h2, h3, h4, h5, h6, h7⟩ := h
    have e := hday x h3 h4
    refine ⟨h3, h4, by omega, by rw [e]; exact hd, ?_, ?_, ?_⟩
    ·rw [show x % 86400 = x - cF q k * 86400 by omega]; exact h5
    ·rw [show x % 86400 = x - cF q k * 86400 by omega]; exact h6
    ·rw [show x % 60 = (x - cF q k * 86400) % 60 by omega]; exact h7
   ·cases h
  ·rintro ⟨h1, h2, h3, h4, h5, h6, h7⟩
   have e := hday x h1 h2
   rw [e] at h4
   rw [if_pos h4, kU]
   refine ⟨by omega, by omega, h1, h2, ?_, ?_, ?_⟩
   ·rw [show x - cF q k * 86400 = x % 86400 by omega]; exact h5
   ·rw [show x - cF q k * 86400 = x % 86400 by omega]; exact h6
   ·rw [show (x - cF q k * 86400) % 60 = x % 60 by omega]; exact h7
 ·rw [if_neg h4, if_neg h4, if_neg h4]
  unfold jL
  rw [List.mem_flatMap]
  constructor
  ·rintro ⟨i, hi, h⟩
   rw [List.mem_range] at hi
   obtain ⟨h1, h2, h3⟩ := oX.1 h
   exact ⟨by omega, by omega, h3⟩
  ·rintro ⟨h1, h2, h3⟩
   refine ⟨(x / 86400 - cF q k).toNat, List.mem_range.2 oM, oX.2 ⟨by omega, by omega, h3⟩⟩
theorem aEg {L at_ : List Int} {x : Int} (h : x ∈ dJ L at_) : x ∈ L := by
 unfold dJ at h
 split at h
 ·exact h
 ·unfold mX at h
  obtain ⟨i, hi, rfl⟩ := List.mem_map.1 h
  have := List.mem_range.1 (List.mem_filter.1 hi).1
  rw [List.getD_eq_getElem?_getD, List.getElem?_eq_getElem this]
  exact List.getElem_mem this
theorem aGv {L : List Int} (at_ : List Int) (h : SI L) : SI (dJ L at_) := by
 unfold dJ
 split
 ·exact h
 ·exact yP h
theorem uJ {q : Rul} (hf : 2 ≤ q.freq) (k : Int) : iS q k = if q.freq = 2 then 7 else 1 := by
 unfold iS
 rw [if_neg oM, if_neg oM]
theorem aHf {q : Rul} (hs : 0 ≤ q.start) (hi : 1 ≤ q.interval) {k : Int} (hk : 0 ≤ k) (hf : 4 ≤ q.freq) : cF q k = pAt q k / 86400 ∧ 0 ≤ pAt q k ∧ pAt q k % UN q.freq = 0 := by
 have h0 : 0 ≤ k * q.interval := Int.mul_nonneg hk oM
 refine ⟨?_, ?_⟩
 ·unfold cF
  rw [if_neg oM, if_neg oM, if_neg oM, if_neg oM]
 ·unfold pAt
  rcases zM q.freq with h | h | h <;> rw [h] <;> omega
theorem tC {q : Rul} (hf : 2 ≤ q.freq) (k : Int) : cF q k = if q.freq = 2 then q.start / 86400 - (q.start / 86400 % 7 - q.wkst + 7) % 7 + 7 * (k * q.interval) else if q.freq = 3 then q.start / 86400 + k * q.interval else pAt q k / 86400 := by
 unfold cF
 rw [if_neg oM, if_neg oM, Int.mul_assoc]
theorem yA {q : Rul} (hf : 2 ≤ q.freq) (hi : 1 ≤ q.interval) {j k : Int} (h : j < k) : pHi q j ≤ pLo q k := by
 have h0 : 0 ≤ (k - j - 1) * q.interval := Int.mul_nonneg oM oM
 have h1 : (k - j - 1) * q.interval = k * q.interval - j * q.interval - q.interval := by rw [Int.sub_mul, Int.sub_mul, Int.one_mul]
 unfold pHi pLo
 by_cases h4 : 4 ≤ q.freq
 ·rw [if_pos h4, if_pos h4]
  unfold pAt
  rcases zM q.freq with h | h | h <;> rw [h] <;> omega
 ·rw [if_neg h4, if_neg h4, uJ hf, tC hf, tC hf]
  by_cases h2 : q.freq = 2
  ·rw [if_pos h2, if_pos h2, if_pos h2]
   omega
  ·rw [if_neg h2, if_neg h2, if_neg h2, if_pos oM, if_pos oM]
   omega
theorem aIh {q : Rul} (hf : 2 ≤ q.freq) (hi : 1 ≤ q.interval) {j k : Int} (h : j ≤ k) : pLo q j ≤ pLo q k := by
 by_cases e : j = k
 ·rw [e]; exact Int.le_refl _
 ·have h1 := yA hf hi (show j < k by omega)
  have h2 : pLo q j ≤ pHi q j := by
   unfold pLo pHi
   split
   ·rcases zM q.freq with h | h | h <;> rw [h] <;> omega
   ·rw [uJ hf]; split <;> omega
  omega
theorem aDu {q : Rul} (hs : 0 ≤ q.start) (hi : 1 ≤ q.interval) {k : Int} (hk : 0 ≤ k) : cF q k * 86400 ≤ pLo q k := by
 unfold pLo
 by_cases h4 : 4 ≤ q.freq
 ·rw [if_pos h4, (aHf hs hi hk h4).1]; omega
 ·rw [if_neg h4]; exact Int.le_refl _
theorem oE {q : Rul} {dayF : Int → Bool} (hs : 0 ≤ q.start) (hf : 2 ≤ q.freq) (hi : 1 ≤ q.interval) {k x : Int} (hk : 0 ≤ k) (h : x ∈ iL q dayF k) : pLo q k ≤ x ∧ x < pHi q k ∧ 0 ≤ x ∧ dayF (x / 86400) = true ∧ o9 q x :=
 (vH (by rw [uJ hf]; split <;> decide) fun h4 => aHf hs hi hk h4).1 (aEg h)
theorem aH5 {q : Rul} {dayF : Int → Bool} {en : Int} (hs : 0 ≤ q.start) (hf : 2 ≤ q.freq) (hi : 1 ≤ q.interval) (he : en < 3652059 * 86400) : Rises q dayF en where
 si := fun k _ => aGv _ (aD5 _ _ _)
 lt := fun j k j0 jk x hx y hy => by
  have h1 := oE hs hf hi j0 hx
  have h2 := oE hs hf hi (show 0 ≤ k by omega) hy
  have h3 := yA hf hi jk
  omega
 over := fun j k j0 jk ho x hx => by
  have h2 := oE hs hf hi (show 0 ≤ k by omega) hx
  have h3 := aIh hf hi jk
  have h4 := aDu hs hi j0
  have h5 : 3652059 ≤ cF q j := by
   unfold eK at ho
   rcases ho with h | h | h
   ·omega
   ·omega
   ·exact h
  omega
theorem aIl {q : Rul} {dayF : Int → Bool} {en : Int} (hs : 0 ≤ q.start) (hf : 2 ≤ q.freq) (hi : q.interval = 1) (hw : 0 ≤ q.wkst ∧ q.wkst ≤ 6) (hp : q.setpos = []) (x : Int) : aAn q dayF en x ↔ q.start ≤ x ∧ x ≤ en ∧ dayF (x / 86400) = true ∧ o9 q x := by
 have hP : ∀ k, iL q dayF k = eJ q dayF k := fun k => by unfold iL dJ; rw [hp]; rfl
 constructor
 ·rintro ⟨k, k0, h1, h2, h3⟩
  have := oE hs hf oM k0 h1
  exact ⟨h2, h3, this.2.2.2⟩
 ·rintro ⟨h1, h2, h3⟩
  have main : ∀ k, 0 ≤ k → pLo q k ≤ x → x < pHi q k → aAn q dayF en x := fun k k0 a1 a2 => by
   refine ⟨k, k0, ?_, h1, h2⟩
   rw [hP]
   exact (vH (by rw [uJ hf]; split <;> decide) fun h4 => aHf hs oM k0 h4).2 ⟨a1, a2, by omega, h3⟩
  by_cases h4 : 4 ≤ q.freq
  ·refine main (x / UN q.freq - q.start / UN q.freq) ?_ ?_ ?_ <;> (try unfold pLo) <;> (try unfold pHi) <;> (try rw [if_pos h4]) <;> (try unfold pAt) <;> (try rw [hi]) <;> rcases zM q.freq with h | h | h <;> rw [h] <;> omega
  ·have hm := uJ hf
   have hF : ∀ k, cF q k = if q.freq = 2 then q.start / 86400 - (q.start / 86400 % 7 - q.wkst + 7) % 7 + 7 * k else q.start / 86400 + k := fun k => by
    unfold cF
    rw [if_neg oM, if_neg oM, hi, Int.mul_one, Int.mul_one]
    by_cases h2 : q.freq = 2
    ·rw [if_pos h2, if_pos h2]
    ·rw [if_neg h2, if_neg h2, if_pos oM]
   by_cases h2 : q.freq = 2
   ·refine main ((x / 86400 - (q.start / 86400 - (q.start / 86400 % 7 - q.wkst + 7) % 7)) / 7) ?_ ?_ ?_ <;> (try unfold pLo) <;> (try unfold pHi) <;> (try rw [if_neg h4]) <;> (try rw [hm, if_pos h2]) <;> (try rw [hF, if_pos h2]) <;> omega
   ·refine main (x / 86400 - q.start / 86400) ?_ ?_ ?_ <;> (try unfold pLo) <;> (try unfold pHi) <;> (try rw [if_neg h4]) <;> (try rw [hm, if_neg h2]) <;> (try rw [hF, if_neg h2]) <;> omega
end Go.Proofs.YtdbbifbmkfmbkaaGreat
namespace Go.Proofs.YtdbbifbmkfmbkaaGreat
open Go.Md Go.Tab Go.Fr
theorem aGe {r : Rul} (rp : RightP r) : dM r < 3652059 * 86400 := by
 have hN1 : Cal.daysTo 9000 = 3286817 := by decide
 have hN2 : Cal.daysTo 10000 = 3652059 := by decide
 have h1 := rp.t1.start
 have h2 := rp.t2.2
 rw [hN1] at h1
 rw [hN2] at h2
 unfold dM
 split
 ·rename_i h; exact (h2 h).2.2
 ·omega
theorem zR {r : Rul} (rp : RightP r) (hf : 2 ≤ r.freq) {dayF : Int → Bool} {m : Nat} {l : List Int} (h : lI r dayF (m : Int) l) : Pre (aAn (aZ r) dayF (dM r)) r.count (m : Int) l := by
 obtain ⟨e1, e2, e3, e4, e5, e6, _⟩ := dG r
 have h1 := aF3 (aH5 (q := aZ r) (by rw [e1]; have := rp.t1.start; omega) oM (by rw [e3]; exact rp.t1.interval.1) (aGe rp)) oM (by rw [e5]; exact rp.t1.count.1) h
 rw [e5] at h1
 exact h1
theorem zA {r : Rul} (rp : RightP r) (hf : 2 ≤ r.freq) (hi : r.interval = 1) (hp : r.setpos = []) {dayF : Int → Bool} (x : Int) : aAn (aZ r) dayF (dM r) x ↔ r.start ≤ x ∧ x ≤ dM r ∧ dayF (x / 86400) = true ∧ o9 (aZ r) x := by
 obtain ⟨e1, e2, e3, e4, e5, e6, _⟩ := dG r
 have := aIl (q := aZ r) (dayF := dayF) (en := dM r) (by rw [e1]; have := rp.t1.start; omega) oM (by rw [e3]; exact hi) (by rw [e4]; exact rp.t1.wkst) (by rw [e6]; exact hp) x
 rw [e1] at this
 exact this
theorem SI.filter {l : List Int} (h : SI l) (p : Int → Bool) : SI (l.filter p) := List.Pairwise.filter p h
end Go.Proofs.YtdbbifbmkfmbkaaGreat
namespace Go.Proofs.YtdbbifbmkfmbkaaGreat
open Go.Md Go.Tab Go.Fr
theorem Pre.congr {H H' : Int → Prop} {c most : Int} {l : List Int} (h : Pre H c most l) (e : ∀ x, H x ↔ H' x) : Pre H' c most l where
 si := h.si
 hit := fun x hx => (e x).1 (h.hit x hx)
 all := fun x hx => h.all x ((e x).2 hx)
 le := h.le
theorem aB5 {r : Rul} (hf : 2 < r.freq ∨ (r.freq = 2 ∧ 0 < r.wday.length)) (h4 : 4 ≤ r.freq ∨ 0 < r.hour.length) (h5 : 5 ≤ r.freq ∨ 0 < r.minute.length) (h6 : 6 ≤ r.freq ∨ 0 < r.second.length) : aZ r = r := by
 have e1 : eN r = r := by
  unfold eN
  split
  ·rename_i hn
   unfold pE at hn
   rw [if_neg oM, if_neg oM, if_neg oM]
  ·rfl
 have e2 : eO r = r := by unfold eO; rw [if_neg oM]
 have e3 : eV r = r := by unfold eV; rw [if_neg oM]
 have e4 : gH r = r := by unfold gH; rw [if_neg oM]
 unfold aZ
 rw [e1, e2, e3, e4]
def stR (r : Rul) (s : Int) : Rul := { r with start := s }
theorem SI.get_lt {l : List Int} (h : SI l) {i j : Nat} {a b : Int} (hi : l[i]? = some a) (hj : l[j]? = some b) (hij : i < j) : a < b := by
 obtain ⟨h1, rfl⟩ := List.getElem?_eq_some_iff.1 hi
 obtain ⟨h2, rfl⟩ := List.getElem?_eq_some_iff.1 hj
 exact List.pairwise_iff_getElem.1 h i j h1 h2 hij
theorem aE2 {r : Rul} {s : Int} {n : Nat} (rp : RightP r) (rp' : RightP (stR r s)) (hf : 2 ≤ r.freq) (hi : r.interval = 1) (hp : r.setpos = []) (hc : r.count = 0) (hu : r.hasUntil = false) (hF : aZ r = r) (hF' : aZ (stR r s) = stR r s) {l rest : List Int} (hl : lI r (cW (aZ r)) (n : Int) l) (hlen : l.length = n) {k : Nat} (hk : k + 30 ≤ n) (hs : l[k]? = some s) (hr : lI (stR r s) (cW (aZ (stR r s))) ((30 : Nat) : Int) rest) : rest = (l.drop k).take 30 := by
 have h1 := zR rp hf hl
 have h2 := zR rp' hf hr
 have hsm : s ∈ l := List.mem_of_getElem? hs
 have e1 : dM r = r.start + 9223372036 := by unfold dM; rw [hu]; rfl
 have e2 : dM (stR r s) = s + 9223372036 := by unfold dM; rw [show (stR r s).hasUntil = false from hu]; rfl
 have hit1 := fun x => zA rp hf hi hp (dayF := cW (aZ r)) x
 have hit2 := fun x => zA rp' hf hi hp (dayF := cW (aZ (stR r s))) x
 have hs0 := (hit1 s).1 (h1.hit s hsm)
 have key : ∀ x, aAn (aZ (stR r s)) (cW (aZ (stR r s))) (dM (stR r s)) x ↔ s ≤ x ∧ x ≤ s + 9223372036 ∧ cW (aZ r) (x / 86400) = true ∧ o9 (aZ r) x := fun x => by
  rw [hit2, e2, hF', hF]; exact Iff.rfl
 refine Pre.det h2 (Pre.mk ?_ (fun x hx => ?_) (fun x hx => ?_) ?_)
 ·exact List.Pairwise.sublist ((List.take_sublist _ _).trans (List.drop_sublist _ _)) h1.si
 ·obtain ⟨i, hi1, hi2⟩ := List.mem_iff_getElem.1 hx
  have hi3 : i < 30 := by rw [List.length_take] at hi1; omega
  have hx2 : l[k + i]? = some x := by
   have : ((l.drop k).take 30)[i]? = some x := by rw [List.getElem?_eq_getElem hi1, hi2]
   rw [List.getElem?_take, if_pos hi3, List.getElem?_drop] at this
   exact this
  have hxl : x ∈ l := List.mem_of_getElem? hx2
  have h3 := (hit1 x).1 (h1.hit x hxl)
  rw [e1] at h3
  refine (key x).2 ⟨?_, by omega, h3.2.2⟩
  by_cases h0 : i = 0
  ·subst h0; rw [Nat.add_zero, hs] at hx2; injection hx2 with h; omega
  ·exact Int.le_of_lt (h1.si.get_lt hs hx2 oM)
 ·have h3 := (key x).1 hx
  have hlen2 : ((l.drop k).take 30).length = 30 := by rw [List.length_take, List.length_drop]; omega
  have hfull : l5 (stR r s).count ((30 : Nat) : Int) ((l.drop k).take 30).length := by rw [hlen2]; exact .inl rfl
  have hbig : (∀ y ∈ l, y < x) → x ∈ (l.drop k).take 30 ∨ (l5 (stR r s).count ((30 : Nat) : Int) ((l.drop k).take 30).length ∧ ∀ y ∈ (l.drop k).take 30, y < x) := fun h =>
   .inr ⟨hfull, fun y hy => h y (List.mem_of_mem_drop (List.mem_of_mem_take hy))⟩
  by_cases he : x ≤ dM r
  ·rcases h1.all x ((hit1 x).2 ⟨by omega, he, h3.2.2⟩) with h4 | ⟨_, h4⟩
   ·obtain ⟨i, hi1, hi2⟩ := List.mem_iff_getElem.1 h4
    have hx2 : l[i]? = some x := by rw [List.getElem?_eq_getElem hi1, hi2]
    have hik : k ≤ i := by
     refine Nat.le_of_not_lt fun hlt => ?_
     have := h1.si.get_lt hx2 hs hlt
     omega
    by_cases h30 : i < k + 30
    ·refine .inl (List.mem_of_getElem? (i := i - k) ?_)
     rw [List.getElem?_take, if_pos oM, List.getElem?_drop, show k + (i - k) = i by omega, hx2]
    ·refine .inr ⟨hfull, fun y hy => ?_⟩
     obtain ⟨j, hj1, hj2⟩ := List.mem_iff_getElem.1 hy
     have hj3 : j < 30 := by omega
     have hy2 : l[k + j]? = some y := by
      have : ((l.drop k).take 30)[j]? = some y := by rw [List.getElem?_eq_getElem hj1, hj2]
      rw [List.getElem?_take, if_pos hj3, List.getElem?_drop] at this
      exact this
     exact h1.si.get_lt hy2 hx2 oM
   ·exact hbig h4
  ·refine hbig fun y hy => ?_
   have := (hit1 y).1 (h1.hit y hy)
   omega
 ·have hlen2 : ((l.drop k).take 30).length = 30 := by rw [List.length_take, List.length_drop]; omega
  rw [hlen2]
  exact ⟨Int.le_refl _, fun h => by rw [show (stR r s).count = 0 from hc] at h; omega⟩
end Go.Proofs.YtdbbifbmkfmbkaaGreat
namespace Go.Proofs.YtdbbifbmkfmbkaaGreat
open Go.Md Go.Tab Go.Fr
def GetC (k : Nat) (H : LV) (cs : List Value) : Prop := ∀ i u, cs[i]? = some u → lkp (ky k (0 + i)) H = some u
theorem GetC.put {k : Nat} {H : LV} (cs : List Value) (h : 0 + cs.length ≤ 4096) : GetC k (aC k 0 cs ++ H) cs := fJ cs 0 h
theorem GetC.seq {k : Nat} {H : LV} (cs : List Value) (h : 0 + cs.length ≤ 4096) : GetC k (cX k 0 cs H) cs := aN cs 0 h
theorem GetC.upd {k : Nat} {H : LV} {cs : List Value} (h : GetC k H cs) (j : Nat) (v : Value) : GetC k ((ky k j, v) :: H) (cs.set j v) := fun i u hi => by
 rw [List.getElem?_set] at hi
 by_cases e : j = i
 ·rw [if_pos e] at hi
  subst e
  split at hi
  ·rw [Nat.zero_add]
   rw [bQ]; exact hi
  ·cases hi
 ·rw [if_neg e] at hi
  rw [aA (by unfold ky; omega)]
  exact h i u hi
theorem GetC.cons {k m j : Nat} {H : LV} {cs : List Value} {v : Value} (h : GetC k H cs) (hl : cs.length ≤ 4096) (hj : j < 4096) (hk : k ≠ m) : GetC k ((ky m j, v) :: H) cs := fun i u hi => by
 have := (List.getElem?_eq_some_iff.1 hi).1
 rw [cH hk oM hj]
 exact h i u hi
theorem GetC.of {k : Nat} {H : LV} {cs ds : List Value} (h : GetC k H cs) (e : ds = cs) : GetC k H ds := e ▸ h
theorem sD {k : Nat} {H : LV} : ∀ (n o : Nat), (∀ i, o ≤ i → i < o + n → (lkp (ky k i) H).isSome = true) → knwn k H o n = true
 | 0, _, _ => rfl
 | n + 1, o, h => by
  unfold knwn
  rw [h o oM oM, sD n (o + 1) (fun i h1 h2 => h i oM oM)]
  rfl
theorem GetC.knwn {k : Nat} {H : LV} {cs : List Value} (h : GetC k H cs) {n : Nat} (e : cs.length = n) : Go.Fr.knwn k H 0 n = true := sD n 0 fun i _ h2 => by
 have := h i _ (List.getElem?_eq_getElem (show i < cs.length by omega))
 rw [Nat.zero_add] at this
 rw [this]; rfl
theorem InL.re {w : World} {r r' : Rul} {x : Av} (h : InL w r x) (e : r'.setpos = r.setpos ∧ r'.month = r.month ∧ r'.mday = r.mday ∧ r'.yday = r.yday ∧ r'.weekno = r.weekno ∧ r'.wday = r.wday ∧ r'.hour = r.hour ∧ r'.minute = r.minute ∧ r'.second = r.second ∧ r'.easter = r.easter) : InL w r' x := by
 obtain ⟨e9, e10, e11, e12, e13, e14, e15, e16, e17, e18⟩ := e
 exact ⟨by rw [e9]; exact h.i9, by rw [e10]; exact h.i10, by rw [e11]; exact h.i11, by rw [e12]; exact h.i12, by rw [e13]; exact h.i13, by rw [e14]; exact h.i14, by rw [e15]; exact h.i15, by rw [e16]; exact h.i16, by rw [e17]; exact h.i17, by rw [e18]; exact h.i18⟩
theorem LenL.re {r r' : Rul} (h : LenL r) (e : r'.setpos = r.setpos ∧ r'.month = r.month ∧ r'.mday = r.mday ∧ r'.yday = r.yday ∧ r'.weekno = r.weekno ∧ r'.wday = r.wday ∧ r'.hour = r.hour ∧ r'.minute = r.minute ∧ r'.second = r.second ∧ r'.easter = r.easter) : LenL r' := by
 obtain ⟨e9, e10, e11, e12, e13, e14, e15, e16, e17, e18⟩ := e
 exact ⟨by rw [e9]; exact h.l9, by rw [e10]; exact h.l10, by rw [e11]; exact h.l11, by rw [e12]; exact h.l12, by rw [e13]; exact h.l13, by rw [e14]; exact h.l14, by rw [e15]; exact h.l15, by rw [e16]; exact h.l16, by rw [e17]; exact h.l17, by rw [e18]; exact h.l18⟩
theorem CapL.re {r r' : Rul} {x : Av} (h : CapL r x) (e : r'.setpos = r.setpos ∧ r'.month = r.month ∧ r'.mday = r.mday ∧ r'.yday = r.yday ∧ r'.weekno = r.weekno ∧ r'.wday = r.wday ∧ r'.hour = r.hour ∧ r'.minute = r.minute ∧ r'.second = r.second ∧ r'.easter = r.easter) : CapL r' x := by
 obtain ⟨e9, e10, e11, e12, e13, e14, e15, e16, e17, e18⟩ := e
 exact ⟨by rw [e9]; exact h.c9, by rw [e10]; exact h.c10, by rw [e11]; exact h.c11, by rw [e12]; exact h.c12, by rw [e13]; exact h.c13, by rw [e14]; exact h.c14, by rw [e15]; exact h.c15, by rw [e16]; exact h.c16, by rw [e17]; exact h.c17, by rw [e18]; exact h.c18⟩
theorem du_2 {r : Rul} (hl : LenL r) (hf : 2 ≤ r.freq) : RightP r → aB8 (aZ (cD r)) (cW (aZ (cD r))) := fun rp =>
 aHp (r := cD r) ⟨hf, rp.t1.freq.2⟩ (show r.yday.length = 0 ∧ r.weekno.length = 0 ∧ r.easter.length = 0 from kV rp oM) (rY hl)
theorem aCc {r : Rul} (hf : 2 ≤ r.freq) : RightP r → qB r (cW (aZ r)) := fun rp => by
 have := rp.t1.freq
 rcases (show (r.freq = 2 ∨ r.freq = 3) ∨ (4 ≤ r.freq ∧ r.freq ≤ 6) by omega) with h | h
 ·exact yN rp h
 ·exact zL rp h
theorem aCe {r : Rul} {m : Nat} (h : ∃ l, lI (cD r) (cW (aZ (cD r))) ((m : Int) + 1) l ∧ ((l.length : Int) = (m : Int) + 1 ∨ (0 < r.count ∧ (l.length : Int) = r.count))) : ∃ l, lI r (cW (aZ r)) (m : Int) l ∧ True := by
 obtain ⟨l, h⟩ := aCr h
 exact ⟨l, h, trivial⟩
section
variable {P : Program} {N d : Nat} {L : Fr.Loc} {v : Value} {ty : TypeId} {pos : String} {aft : Array Edge} {g : Option (Nat × Bool)} {F : Nat → Prop} {w0 : World} {B : LN} {H : LV} {S : LS}
theorem tK {P : Program} (w : World) {t e : TypeId} {n : Nat} (ht : gY P t = some (e, n)) (p : Option Addr) (len cap : Nat) (kl kh : IntKind) (lo hi : Int) (h0 : 0 ≤ lo) (h1 : lo ≤ hi) (h2 : hi ≤ cap) :
  (Instr.sliceAt t (.slice p len cap) (some (.int kl lo)) (some (.int kh hi)) none).run P w = .ok (.slice (if cap = lo.toNat then p else p.map (·.add (lo.toNat * n))) (hi.toNat - lo.toNat) (cap - lo.toNat)) w := by
 obtain ⟨hu, i, hi_, rfl⟩ := jA ht
 have he : P.elem t = e := by simp [Program.elem, hu]
 rw [run_sliceAt_slice w t _ _ _ _ (by rw [he]; exact hu), run_slice_lh w t p len cap (by rw [he]; exact hu) kl kh lo hi h0 h1 h2, he, gD hi_]
 rfl
theorem wT {t e : TypeId} {n : Nat} {x y z : Operand} {b off len cap : Nat} {kl kh : IntKind} {lo hi : Int} (ht : gY P t = some (e, n)) (hx : ev L x = some (.slice (some ⟨b, off, none⟩) len cap)) (hy : ev L y = some (.int kl lo)) (hz : ev L z = some (.int kh hi)) (h0 : 0 ≤ lo) (h1 : lo ≤ hi) (h2 : hi ≤ cap) (h3 : lo < cap) :
  Rd P ⟨some d, .slice t x (some y) (some z) none, ty, pos, aft, g⟩ N L F w0 B H S (.slice (some ⟨b, off + lo.toNat * n, none⟩) (hi.toNat - lo.toNat) (cap - lo.toNat)) := fun a w k s => by
 have hne : ¬ cap = lo.toNat := by omega
 simp only [execOp, k.eval hx, Option.map_some, Option.map_none, k.eval hy, k.eval hz, Sem.run_bind, tK w ht _ len cap kl kh lo hi h0 h1 h2, Result.andThen_ok, Sem.run_pure, if_neg hne, Addr.add_mid]
end
theorem Ints.piece {w : World} {b o len c : Nat} {xs : List Int} (h : Ints w (.slice (some ⟨b, o, none⟩) len c) xs) {k n : Nat} (hk : k + n ≤ xs.length) (c' : Nat) : Ints w (.slice (some ⟨b, o + k, none⟩) n c') ((xs.drop k).take n) := by
 obtain ⟨p', c2, e, h⟩ := h
 injection e with e1 e2 e3
 subst e1
 have hl : ((xs.drop k).take n).length = n := by rw [List.length_take, List.length_drop]; omega
 refine ⟨some ⟨b, o + k, none⟩, c', by rw [hl], fun i x hx => ?_⟩
 have hi : i < n := by have := (List.getElem?_eq_some_iff.1 hx).1; omega
 rw [List.getElem?_take, if_pos hi, List.getElem?_drop] at hx
 obtain ⟨b2, o2, e4, h5⟩ := h (k + i) x hx
 injection e4 with e4
 injection e4 with e5 e6
 subst e5 e6
 exact ⟨b, o + k, rfl, by rw [Nat.add_assoc]; exact h5⟩
end Go.Proofs.YtdbbifbmkfmbkaaGreat
namespace Go.Proofs.YtdbbifbmkfmbkaaGreat
open Go.RowKit Go.Fr Go.Tab
end Go.Proofs.YtdbbifbmkfmbkaaGreat
namespace Go.Proofs.YtdbbifbmkfmbkaaGreat
open Go.Md Go.Tab Go.Fr
def aIm (f : Int) : Int := if f = 2 then 604800 else if f = 3 then 86400 else UN f
end Go.Proofs.YtdbbifbmkfmbkaaGreat
namespace Go.Proofs.YtdbbifbmkfmbkaaGreat
open Go.RowKit Go.Fr Go.Tab
section
variable {F : Nat → Prop} {w0 : World} {B : LN} {H : LV} {S : LS}
open Go.Md
def nS (f : Int) : Int := if f < 2 ∨ 6 < f then 0 else aIm f
theorem sB (f : Int) (hf : 0 ≤ f ∧ f < 256) (w : World) : Calls Tryz.prog 15 #[.int .u8 f] w fun e w' => e = .returned (iV (nS f)) ∧ Below w.heap.size w w' := by
 refine aI (args := [.int .u8 f]) (L := [(0, .int .u8 f)]) (N := 14) Tryz.func15 rfl rfl ble rfl (sS w) ?_
 refine g9 ?_
 by_cases h1 : f < 2
 ·refine rl ((cM rfl rfl).to bT) ?_
  refine lJ ?_
  refine gR rfl fun w_ s_ => ⟨?_, s_.aJ0⟩
  first | rfl | (unfold nS; rw [if_pos oM])
 ·refine rZ4 ((cM rfl rfl).to bF) ?_
  by_cases h2 : 6 < f
  ·refine rl ((bG rfl rfl).to bT) ?_
   refine kQ ?_
   refine gR rfl fun w_ s_ => ⟨?_, s_.aJ0⟩
   first | rfl | (unfold nS; rw [if_pos oM])
  ·refine wZ7 ((bG rfl rfl).to bF) ?_
   rcases (show f = 2 ∨ f = 3 ∨ f = 4 ∨ f = 5 ∨ f = 6 by omega) with rfl | rfl | rfl | rfl | rfl
   ·refine g1 ?_
    refine gL (eG 20 (e := 2) (sz := 1) (n := 5) (vs := [(0, iV 604800), (1, iV 86400), (2, iV 3600), (3, iV 60), (4, iV 1)]) (cs := [iV 604800, iV 86400, iV 3600, iV 60, iV 1]) dE rfl kW rfl dE dE rfl (fun b1_ hbb1_ => ?_))
    refine g1 ?_
    refine rl (jC rfl rfl) ?_
    refine rl (aF (e := 2) (n := 1) kR rfl rfl dE dE) ?_
    refine rZ4 (bP 20 rfl rfl rfl rfl kR) ?_
    refine gR rfl fun w_ s_ => ⟨?_, s_.aJ0⟩
    first | rfl | (unfold nS; rw [if_pos oM])
   ·refine g1 ?_
    refine gL (eG 20 (e := 2) (sz := 1) (n := 5) (vs := [(0, iV 604800), (1, iV 86400), (2, iV 3600), (3, iV 60), (4, iV 1)]) (cs := [iV 604800, iV 86400, iV 3600, iV 60, iV 1]) dE rfl kW rfl dE dE rfl (fun b2_ hbb2_ => ?_))
    refine g1 ?_
    refine rl (jC rfl rfl) ?_
    refine rl (aF (e := 2) (n := 1) kR rfl rfl dE dE) ?_
    refine rZ4 (bP 20 rfl rfl rfl rfl kR) ?_
    refine gR rfl fun w_ s_ => ⟨?_, s_.aJ0⟩
    first | rfl | (unfold nS; rw [if_pos oM])
   ·refine g1 ?_
    refine gL (eG 20 (e := 2) (sz := 1) (n := 5) (vs := [(0, iV 604800), (1, iV 86400), (2, iV 3600), (3, iV 60), (4, iV 1)]) (cs := [iV 604800, iV 86400, iV 3600, iV 60, iV 1]) dE rfl kW rfl dE dE rfl (fun b3_ hbb3_ => ?_))
    refine g1 ?_
    refine rl (jC rfl rfl) ?_
    refine rl (aF (e := 2) (n := 1) kR rfl rfl dE dE) ?_
    refine rZ4 (bP 20 rfl rfl rfl rfl kR) ?_
    refine gR rfl fun w_ s_ => ⟨?_, s_.aJ0⟩
    first | rfl | (unfold nS; rw [if_pos oM])
   ·refine g1 ?_
    refine gL (eG 20 (e := 2) (sz := 1) (n := 5) (vs := [(0, iV 604800), (1, iV 86400), (2, iV 3600), (3, iV 60), (4, iV 1)]) (cs := [iV 604800, iV 86400, iV 3600, iV 60, iV 1]) dE rfl kW rfl dE dE rfl (fun b4_ hbb4_ => ?_))
    refine g1 ?_
    refine rl (jC rfl rfl) ?_
    refine rl (aF (e := 2) (n := 1) kR rfl rfl dE dE) ?_
    refine rZ4 (bP 20 rfl rfl rfl rfl kR) ?_
    refine gR rfl fun w_ s_ => ⟨?_, s_.aJ0⟩
    first | rfl | (unfold nS; rw [if_pos oM])
   ·refine g1 ?_
    refine gL (eG 20 (e := 2) (sz := 1) (n := 5) (vs := [(0, iV 604800), (1, iV 86400), (2, iV 3600), (3, iV 60), (4, iV 1)]) (cs := [iV 604800, iV 86400, iV 3600, iV 60, iV 1]) dE rfl kW rfl dE dE rfl (fun b5_ hbb5_ => ?_))
    refine g1 ?_
    refine rl (jC rfl rfl) ?_
    refine rl (aF (e := 2) (n := 1) kR rfl rfl dE dE) ?_
    refine rZ4 (bP 20 rfl rfl rfl rfl kR) ?_
    refine gR rfl fun w_ s_ => ⟨?_, s_.aJ0⟩
    first | rfl | (unfold nS; rw [if_pos oM])
end
end Go.Proofs.YtdbbifbmkfmbkaaGreat
namespace Go.Proofs.YtdbbifbmkfmbkaaGreat
open Go.RowKit Go.Fr Go.Tab
end Go.Proofs.YtdbbifbmkfmbkaaGreat
namespace Go.Proofs.YtdbbifbmkfmbkaaGreat
open Go.RowKit Go.Fr Go.Tab
section
variable {F : Nat → Prop} {w0 : World} {B : LN} {H : LV} {S : LS}
open Go.Md
def gU (r : Rul) : Prop := (2 < r.freq ∨ (r.freq = 2 ∧ 0 < r.wday.length)) ∧ (4 ≤ r.freq ∨ 0 < r.hour.length) ∧ (5 ≤ r.freq ∨ 0 < r.minute.length) ∧ (6 ≤ r.freq ∨ 0 < r.second.length)
def pS (r : Rul) : Rul := { r with interval := 1, count := 0, hasUntil := false, untl := 0 }
theorem r9 (r : Rul) (x : Av) (hfb : 0 ≤ r.freq ∧ r.freq ≤ 255) (w : World) : Calls Tryz.prog 24 #[.agg (bC r x).toArray] w fun e w' => ∃ b : Bool, (b = true → gU r) ∧ e = .returned (.bool b) ∧ Below w.heap.size w w' := by
 refine aI (args := [.agg (bC r x).toArray]) (L := [(0, .agg (bC r x).toArray)]) (N := 50) Tryz.func24 rfl rfl ble rfl (sS w) ?_
 refine g2 ?_
 refine gL (fM 50 (cs := bC r x) dE rfl rfl rfl (fun o ho => rfl) ble (fun b1 hb1 => ?_))
 refine g5 ?_
 refine rl (rfa 0) ?_
 refine rl (rld 50 rfl rfl rfl) ?_
 by_cases h1 : 2 < r.freq
 ·refine rl ((bG rfl rfl).to bT) ?_
  refine g13 ?_
  refine rZ1 (rfa 0) ?_
  refine rZ1 (rld 50 rfl rfl rfl) ?_
  by_cases h4 : 4 ≤ r.freq
  ·refine rl ((bZ rfl rfl).to bT) ?_
   refine g11 ?_
   refine rZ1 (rfa 0) ?_
   refine rZ1 (rld 50 rfl rfl rfl) ?_
   by_cases h6 : 5 ≤ r.freq
   ·refine rl ((bZ rfl rfl).to bT) ?_
    refine g11 ?_
    refine rZ1 (rfa 0) ?_
    refine rZ1 (rld 50 rfl rfl rfl) ?_
    by_cases h8 : 6 ≤ r.freq
    ·refine rl ((bZ rfl rfl).to bT) ?_
     refine g13 ?_
     exact gR rfl fun w_ s_ => ⟨true, (fun h => by unfold gU; omega), rfl, s_.aJ0⟩
    ·refine rZ3 ((bZ rfl rfl).to bF) ?_
     refine rZ1 (rfa 16) ?_
     refine rZ3 (rld 50 rfl rfl rfl) ?_
     by_cases h9 : 0 < r.second.length
     ·refine rZ7 ((bG rfl rfl).to bT) ?_
      exact gR rfl fun w_ s_ => ⟨true, (fun h => by unfold gU; omega), rfl, s_.aJ0⟩
     ·refine rZ7 ((bG rfl rfl).to bF) ?_
      exact gNo rfl
   ·refine rZ3 ((bZ rfl rfl).to bF) ?_
    refine rZ1 (rfa 15) ?_
    refine rZ3 (rld 50 rfl rfl rfl) ?_
    by_cases h7 : 0 < r.minute.length
    ·refine rZ5 ((bG rfl rfl).to bT) ?_
     refine rZ1 (rfa 0) ?_
     refine rZ1 (rld 50 rfl rfl rfl) ?_
     by_cases h8 : 6 ≤ r.freq
     ·refine rl ((bZ rfl rfl).to bT) ?_
      refine g13 ?_
      exact gR rfl fun w_ s_ => ⟨true, (fun h => by unfold gU; omega), rfl, s_.aJ0⟩
     ·refine rZ3 ((bZ rfl rfl).to bF) ?_
      refine rZ1 (rfa 16) ?_
      refine rZ3 (rld 50 rfl rfl rfl) ?_
      by_cases h9 : 0 < r.second.length
      ·refine rZ7 ((bG rfl rfl).to bT) ?_
       exact gR rfl fun w_ s_ => ⟨true, (fun h => by unfold gU; omega), rfl, s_.aJ0⟩
      ·refine rZ7 ((bG rfl rfl).to bF) ?_
       exact gNo rfl
    ·refine rl ((bG rfl rfl).to bF) ?_
     refine g18 ?_
     exact gNo rfl
  ·refine rZ3 ((bZ rfl rfl).to bF) ?_
   refine rZ1 (rfa 14) ?_
   refine rZ3 (rld 50 rfl rfl rfl) ?_
   by_cases h5 : 0 < r.hour.length
   ·refine rZ5 ((bG rfl rfl).to bT) ?_
    refine rZ1 (rfa 0) ?_
    refine rZ1 (rld 50 rfl rfl rfl) ?_
    by_cases h6 : 5 ≤ r.freq
    ·refine rl ((bZ rfl rfl).to bT) ?_
     refine g11 ?_
     refine rZ1 (rfa 0) ?_
     refine rZ1 (rld 50 rfl rfl rfl) ?_
     by_cases h8 : 6 ≤ r.freq
     ·refine rl ((bZ rfl rfl).to bT) ?_
      refine g13 ?_
      exact gR rfl fun w_ s_ => ⟨true, (fun h => by unfold gU; omega), rfl, s_.aJ0⟩
     ·refine rZ3 ((bZ rfl rfl).to bF) ?_
      refine rZ1 (rfa 16) ?_
      refine rZ3 (rld 50 rfl rfl rfl) ?_
      by_cases h9 : 0 < r.second.length
      ·refine rZ7 ((bG rfl rfl).to bT) ?_
       exact gR rfl fun w_ s_ => ⟨true, (fun h => by unfold gU; omega), rfl, s_.aJ0⟩
      ·refine rZ7 ((bG rfl rfl).to bF) ?_
       exact gNo rfl
    ·refine rZ3 ((bZ rfl rfl).to bF) ?_
     refine rZ1 (rfa 15) ?_
     refine rZ3 (rld 50 rfl rfl rfl) ?_
     by_cases h7 : 0 < r.minute.length
     ·refine rZ5 ((bG rfl rfl).to bT) ?_
      refine rZ1 (rfa 0) ?_
      refine rZ1 (rld 50 rfl rfl rfl) ?_
      by_cases h8 : 6 ≤ r.freq
      ·refine rl ((bZ rfl rfl).to bT) ?_
       refine g13 ?_
       exact gR rfl fun w_ s_ => ⟨true, (fun h => by unfold gU; omega), rfl, s_.aJ0⟩
      ·refine rZ3 ((bZ rfl rfl).to bF) ?_
       refine rZ1 (rfa 16) ?_
       refine rZ3 (rld 50 rfl rfl rfl) ?_
       by_cases h9 : 0 < r.second.length
       ·refine rZ7 ((bG rfl rfl).to bT) ?_
        exact gR rfl fun w_ s_ => ⟨true, (fun h => by unfold gU; omega), rfl, s_.aJ0⟩
       ·refine rZ7 ((bG rfl rfl).to bF) ?_
        exact gNo rfl
     ·refine rl ((bG rfl rfl).to bF) ?_
      refine g18 ?_
      exact gNo rfl
   ·refine rl ((bG rfl rfl).to bF) ?_
    refine g25 ?_
    refine g4 ?_
    exact gNo rfl
 ·refine rZ2 ((bG rfl rfl).to bF) ?_
  refine rZ1 (rfa 13) ?_
  refine rZ3 (rld 50 rfl rfl rfl) ?_
  by_cases h2 : 0 < r.wday.length
  ·refine rZ3 ((bG rfl rfl).to bT) ?_
   refine rZ1 (rfa 0) ?_
   refine rZ1 (rld 50 rfl rfl rfl) ?_
   by_cases h3 : r.freq = 2
   ·refine rZ5 ((aR rfl rfl).to eT) ?_
    refine rZ1 (rfa 0) ?_
    refine rZ1 (rld 50 rfl rfl rfl) ?_
    by_cases h4 : 4 ≤ r.freq
    ·refine rl ((bZ rfl rfl).to bT) ?_
     refine g11 ?_
     refine rZ1 (rfa 0) ?_
     refine rZ1 (rld 50 rfl rfl rfl) ?_
     by_cases h6 : 5 ≤ r.freq
     ·refine rl ((bZ rfl rfl).to bT) ?_
      refine g11 ?_
      refine rZ1 (rfa 0) ?_
      refine rZ1 (rld 50 rfl rfl rfl) ?_
      by_cases h8 : 6 ≤ r.freq
      ·refine rl ((bZ rfl rfl).to bT) ?_
       refine g13 ?_
       exact gR rfl fun w_ s_ => ⟨true, (fun h => by unfold gU; omega), rfl, s_.aJ0⟩
      ·refine rZ3 ((bZ rfl rfl).to bF) ?_
       refine rZ1 (rfa 16) ?_
       refine rZ3 (rld 50 rfl rfl rfl) ?_
       by_cases h9 : 0 < r.second.length
       ·refine rZ7 ((bG rfl rfl).to bT) ?_
        exact gR rfl fun w_ s_ => ⟨true, (fun h => by unfold gU; omega), rfl, s_.aJ0⟩
       ·refine rZ7 ((bG rfl rfl).to bF) ?_
        exact gNo rfl
     ·refine rZ3 ((bZ rfl rfl).to bF) ?_
      refine rZ1 (rfa 15) ?_
      refine rZ3 (rld 50 rfl rfl rfl) ?_
      by_cases h7 : 0 < r.minute.length
      ·refine rZ5 ((bG rfl rfl).to bT) ?_
       refine rZ1 (rfa 0) ?_
       refine rZ1 (rld 50 rfl rfl rfl) ?_
       by_cases h8 : 6 ≤ r.freq
       ·refine rl ((bZ rfl rfl).to bT) ?_
        refine g13 ?_
        exact gR rfl fun w_ s_ => ⟨true, (fun h => by unfold gU; omega), rfl, s_.aJ0⟩
       ·refine rZ3 ((bZ rfl rfl).to bF) ?_
        refine rZ1 (rfa 16) ?_
        refine rZ3 (rld 50 rfl rfl rfl) ?_
        by_cases h9 : 0 < r.second.length
        ·refine rZ7 ((bG rfl rfl).to bT) ?_
         exact gR rfl fun w_ s_ => ⟨true, (fun h => by unfold gU; omega), rfl, s_.aJ0⟩
        ·refine rZ7 ((bG rfl rfl).to bF) ?_
         exact gNo rfl
      ·refine rl ((bG rfl rfl).to bF) ?_
       refine g18 ?_
       exact gNo rfl
    ·refine rZ3 ((bZ rfl rfl).to bF) ?_
     refine rZ1 (rfa 14) ?_
     refine rZ3 (rld 50 rfl rfl rfl) ?_
     by_cases h5 : 0 < r.hour.length
     ·refine rZ5 ((bG rfl rfl).to bT) ?_
      refine rZ1 (rfa 0) ?_
      refine rZ1 (rld 50 rfl rfl rfl) ?_
      by_cases h6 : 5 ≤ r.freq
      ·refine rl ((bZ rfl rfl).to bT) ?_
       refine g11 ?_
       refine rZ1 (rfa 0) ?_
       refine rZ1 (rld 50 rfl rfl rfl) ?_
       by_cases h8 : 6 ≤ r.freq
       ·refine rl ((bZ rfl rfl).to bT) ?_
        refine g13 ?_
        exact gR rfl fun w_ s_ => ⟨true, (fun h => by unfold gU; omega), rfl, s_.aJ0⟩
       ·refine rZ3 ((bZ rfl rfl).to bF) ?_
        refine rZ1 (rfa 16) ?_
        refine rZ3 (rld 50 rfl rfl rfl) ?_
        by_cases h9 : 0 < r.second.length
        ·refine rZ7 ((bG rfl rfl).to bT) ?_
         exact gR rfl fun w_ s_ => ⟨true, (fun h => by unfold gU; omega), rfl, s_.aJ0⟩
        ·refine rZ7 ((bG rfl rfl).to bF) ?_
         exact gNo rfl
      ·refine rZ3 ((bZ rfl rfl).to bF) ?_
       refine rZ1 (rfa 15) ?_
       refine rZ3 (rld 50 rfl rfl rfl) ?_
       by_cases h7 : 0 < r.minute.length
       ·refine rZ5 ((bG rfl rfl).to bT) ?_
        refine rZ1 (rfa 0) ?_
        refine rZ1 (rld 50 rfl rfl rfl) ?_
        by_cases h8 : 6 ≤ r.freq
        ·refine rl ((bZ rfl rfl).to bT) ?_
         refine g13 ?_
         exact gR rfl fun w_ s_ => ⟨true, (fun h => by unfold gU; omega), rfl, s_.aJ0⟩
        ·refine rZ3 ((bZ rfl rfl).to bF) ?_
         refine rZ1 (rfa 16) ?_
         refine rZ3 (rld 50 rfl rfl rfl) ?_
         by_cases h9 : 0 < r.second.length
         ·refine rZ7 ((bG rfl rfl).to bT) ?_
          exact gR rfl fun w_ s_ => ⟨true, (fun h => by unfold gU; omega), rfl, s_.aJ0⟩
         ·refine rZ7 ((bG rfl rfl).to bF) ?_
          exact gNo rfl
       ·refine rl ((bG rfl rfl).to bF) ?_
        refine g18 ?_
        exact gNo rfl
     ·refine rl ((bG rfl rfl).to bF) ?_
      refine g25 ?_
      refine g4 ?_
      exact gNo rfl
   ·refine rl ((aR rfl rfl).to eF) ?_
    refine g40 ?_
    exact gNo rfl
  ·refine rl ((bG rfl rfl).to bF) ?_
   refine g40 ?_
   refine g5 ?_
   exact gNo rfl
theorem aHs {b c k n : Nat} {a : Int} (h : a = (k : Int)) (hn : n = 30) : Value.slice (some ⟨b, 0 + a.toNat * 1, none⟩) ((a + 30).toNat - a.toNat) (c - a.toNat) = .slice (some ⟨b, 0 + k, none⟩) n (c - k) := by
 subst h hn
 rw [Int.toNat_natCast, Nat.mul_one, show ((k : Int) + 30).toNat - k = 30 by omega]
theorem aIa {w : World} {b c cap : Nat} {xs : List Int} {k : Nat} (h : Ints w (sL b xs.length c) xs) (hk : k + 30 ≤ xs.length) (hl : ((xs.drop k).take 30).length = 30) : Ints w (.slice (some ⟨b, 0 + k, none⟩) ((xs.drop k).take 30).length cap) ((xs.drop k).take 30) := by
 have := Ints.piece h hk cap
 rw [hl]
 exact this
theorem rest_walk (r : Rul) (x : Av) (a : Int) (ha : 0 ≤ a ∧ a < 256) (w : World) (hr : RIn w r x) : Calls Tryz.prog 12 #[.agg (bC r x).toArray, .int .u8 a] w fun e w' => e = .returned (.bool true) ∧ Below w.heap.size w w' := by
 have hin := hr.inl
 have hfb := hr.freq.1
 have hcap := CapL.of hr
 refine aI (args := [.agg (bC r x).toArray, .int .u8 a]) (L := [(0, .agg (bC r x).toArray), (1, .int .u8 a)]) (N := 81) Tryz.func12 rfl rfl ble rfl (sS w) ?_
 refine g2 ?_
 refine gL (fM 50 (cs := bC r x) dE rfl rfl rfl (fun o ho => rfl) ble (fun b1 hb1 => ?_))
 refine g6 ?_
 refine rl ((dP 50 (cs := bC r x) rfl rfl (fJ (bC r x) 0 ble) ble kR)) ?_
 refine gL (cbx (fun b : Bool => .bool b) (fun b => b = true → LenL r) rfl (fun w_ s_ => yD r x w_) (fun zb hzb => ?_))
 refine g3 ?_
 refine aB rfl (fun hc1 => ?_) (fun hc2 => ?_)
 ·refine g7 ?_
  exact gR rfl fun w_ s_ => ⟨rfl, s_.aJ0⟩
 ·have hl : LenL r := hzb (by simpa using hc2)
  refine g5 ?_
  refine rl (rfa 0) ?_
  refine rl (rld 50 rfl rfl rfl) ?_
  refine gL (cvo (v := iV (nS r.freq)) rfl (fun w_ s_ => sB r.freq ⟨hfb, by have := hr.freq.2; omega⟩ w_) ?_)
  by_cases hU0 : nS r.freq = 0
  ·refine rl ((aR rfl rfl).to eT) ?_
   refine g13 ?_
   refine aY rfl rfl ?_
   refine g2 ?_
   refine gL (cvo rfl (fun w_ s_ => iO w_) ?_)
   refine g5 ?_
   exact gR rfl fun w_ s_ => ⟨rfl, s_.aJ0⟩
  ·have hf2 : 2 ≤ r.freq := by
    unfold nS at hU0
    split at hU0
    ·exact absurd rfl hU0
    ·omega
   refine rZ2 ((aR rfl rfl).to eF) ?_
   refine rZ1 ((dP 50 (cs := bC r x) rfl rfl (fJ (bC r x) 0 ble) ble kR)) ?_
   refine gL (cbx (fun b : Bool => .bool b) (fun b => b = true → gU r) rfl (fun w_ s_ => r9 r x hr.freq w_) (fun fb hfull => ?_))
   refine g1 ?_
   rcases bO ((!fb)) with hfb_ | hfb_
   ·refine rl ((gA rfl).to (v' := .bool true) (cB hfb_)) ?_
    refine mQ ?_
    refine gL (cvo rfl (fun w_ s_ => iO w_) ?_)
    refine g5 ?_
    exact gR rfl fun w_ s_ => ⟨rfl, s_.aJ0⟩
   ·have hT : gU r := hfull (by simpa using hfb_)
    refine rZ3 ((gA rfl).to (v' := .bool false) (cB hfb_)) ?_
    refine rZ1 (rfa 8) ?_
    refine rZ3 (rld 50 rfl rfl rfl) ?_
    by_cases hp : 0 < r.setpos.length
    ·refine rl ((bG rfl rfl).to bT) ?_
     refine g3 ?_
     refine aY rfl rfl ?_
     refine g2 ?_
     refine gL (cvo rfl (fun w_ s_ => iO w_) ?_)
     refine g5 ?_
     exact gR rfl fun w_ s_ => ⟨rfl, s_.aJ0⟩
    ·have hp0 : r.setpos = [] := List.eq_nil_of_length_eq_zero oM
     refine rl ((bG rfl rfl).to bF) ?_
     refine g3 ?_
     refine aP rfl rfl ?_
     refine g4 ?_
     refine rl (rfa 3) ?_
     refine gL (sto 50 rfl rfl rfl rfl ?_)
     refine rl (rfa 5) ?_
     refine gL (sto 50 rfl rfl rfl rfl ?_)
     refine rl (rfa 6) ?_
     refine gL (sto 50 rfl rfl rfl rfl ?_)
     refine rl (rfa 7) ?_
     refine gL (sto 50 rfl rfl rfl rfl ?_)
     refine g4 ?_
     refine rl ((dP 50 (cs := bC (pS r) x) rfl rfl (((((((GetC.put (bC r x) ble).upd 3 (iV 1)).upd 5 (iV 0)).upd 6 (.bool false)).upd 7 (iV 0)).of (ds := bC (pS r) x) rfl)) ble kR)) ?_
     refine gL (crx (ι := Bool × List Int × Option Addr × Nat) 11 (fun z_ => .tuple #[.slice z_.2.2.1 z_.2.1.length z_.2.2.2, .bool z_.1, .bool true]) (fun z_ => (z_.1 = true → RightP (pS r) ∧ lI (pS r) (cW (aZ (pS r))) ((60 : Nat) : Int) z_.2.1 ∧ (fun _ => True) z_.2.1) ∧ (z_.1 = false → z_.2.1 = [])) (fun z_ => ⟨.slice z_.2.2.1 z_.2.1.length z_.2.2.2, 2, 1, z_.2.1.length, (z_.2.1.map iV)⟩) rfl (fun w_ s_ => (rN (pS r) x hfb (hl.re ⟨rfl, rfl, rfl, rfl, rfl, rfl, rfl, rfl, rfl, rfl⟩) (hcap.re ⟨rfl, rfl, rfl, rfl, rfl, rfl, rfl, rfl, rfl, rfl⟩) 60 dE (fun _ => True) (du_2 (hl.re ⟨rfl, rfl, rfl, rfl, rfl, rfl, rfl, rfl, rfl, rfl⟩) hf2) (aCc hf2) (fun _ => aCe) w_ (InL.re (InL.see s_ hin) ⟨rfl, rfl, rfl, rfl, rfl, rfl, rfl, rfl, rfl, rfl⟩)).mono fun e w' ⟨b, l, p, c, h1, h2, h3, h4⟩ => ⟨(b, l, p, c), ⟨h1, h2⟩, h3, h4⟩) (fun | (q1, l1, p1, c1), ⟨hy1, hn1⟩ => ?_))
     refine g13 ?_
     rcases bO ((!q1)) with hb1 | hb1
     ·refine rl ((gA rfl).to (v' := .bool true) (cB hb1)) ?_
      refine g2 ?_
      refine aY rfl rfl ?_
      refine g2 ?_
      refine gL (cvo rfl (fun w_ s_ => iO w_) ?_)
      refine g5 ?_
      exact gR rfl fun w_ s_ => ⟨rfl, s_.aJ0⟩
     ·obtain ⟨hR1, hF1, _⟩ := hy1 (by simpa using hb1)
      refine rl ((gA rfl).to (v' := .bool false) (cB hb1)) ?_
      refine g2 ?_
      refine aP rfl rfl ?_
      refine xD ?_
      by_cases hlt : (l1.length : Int) < 60
      ·refine rl ((cM rfl rfl).to bT) ?_
       refine g2 ?_
       refine aY rfl rfl ?_
       refine g2 ?_
       refine gL (cvo rfl (fun w_ s_ => iO w_) ?_)
       refine g5 ?_
       exact gR rfl fun w_ s_ => ⟨rfl, s_.aJ0⟩
      ·have h60 : l1.length = 60 := by
        have h_ : (l1.length : Int) ≤ ((60 : Nat) : Int) := vO hF1 (by simp)
        omega
       refine rl ((cM rfl rfl).to bF) ?_
       refine lJ ?_
       obtain ⟨k, hk⟩ : ∃ k : Nat, a % 30 = (k : Int) := ⟨(a % 30).toNat, by omega⟩
       have hk30 : k < 30 := by omega
       obtain ⟨y, hy⟩ : ∃ y, l1[k]? = some y := ⟨_, List.getElem?_eq_getElem oM⟩
       refine eA (fun w s => s.head 11 rfl (by show 0 < l1.length; omega)) (fun ⟨bl, hpl, (hcl : l1.length ≤ c1)⟩ => ?_)
       have hpl : p1 = some ⟨bl, 0, none⟩ := hpl
       subst hpl
       refine g3 ?_
       refine rl (aF (e := 2) (n := 1) (b := bl) (off := 0) (len := l1.length) (cap := c1) kR rfl rfl oM oM) ?_
       refine rl (mO 11 rfl rfl (by rw [← hy]; congr 1; omega) kR) ?_
       refine rl (rfa 2) ?_
       refine gL (sto 50 rfl rfl rfl rfl ?_)
       refine g4 ?_
       refine rl ((dP 50 (cs := bC (stR (pS r) y) x) rfl rfl (((((((((GetC.put (bC r x) ble).upd 3 (iV 1)).upd 5 (iV 0)).upd 6 (.bool false)).upd 7 (iV 0)).of (ds := bC (pS r) x) rfl).upd 2 (iV y)).of (ds := bC (stR (pS r) y) x) rfl)) ble kR)) ?_
       refine gL (crx (ι := Bool × List Int × Option Addr × Nat) 13 (fun z_ => .tuple #[.slice z_.2.2.1 z_.2.1.length z_.2.2.2, .bool z_.1, .bool true]) (fun z_ => (z_.1 = true → RightP (stR (pS r) y) ∧ lI (stR (pS r) y) (cW (aZ (stR (pS r) y))) ((30 : Nat) : Int) z_.2.1 ∧ (fun _ => True) z_.2.1) ∧ (z_.1 = false → z_.2.1 = [])) (fun z_ => ⟨.slice z_.2.2.1 z_.2.1.length z_.2.2.2, 2, 1, z_.2.1.length, (z_.2.1.map iV)⟩) rfl (fun w_ s_ => (rN (stR (pS r) y) x hfb (hl.re ⟨rfl, rfl, rfl, rfl, rfl, rfl, rfl, rfl, rfl, rfl⟩) (hcap.re ⟨rfl, rfl, rfl, rfl, rfl, rfl, rfl, rfl, rfl, rfl⟩) 30 dE (fun _ => True) (du_2 (hl.re ⟨rfl, rfl, rfl, rfl, rfl, rfl, rfl, rfl, rfl, rfl⟩) hf2) (aCc hf2) (fun _ => aCe) w_ (InL.re (InL.see s_ hin) ⟨rfl, rfl, rfl, rfl, rfl, rfl, rfl, rfl, rfl, rfl⟩)).mono fun e w' ⟨b, l, p, c, h1, h2, h3, h4⟩ => ⟨(b, l, p, c), ⟨h1, h2⟩, h3, h4⟩) (fun | (q2, l2, p2, c2), ⟨hy2, hn2⟩ => ?_))
       refine g11 ?_
       refine gL (cvo rfl (fun w_ s_ => iO w_) ?_)
       refine g4 ?_
       rcases bO ((!q2)) with hb2 | hb2
       ·refine rl ((gA rfl).to (v' := .bool true) (cB hb2)) ?_
        refine g18 ?_
        refine g1 ?_
        exact gR rfl fun w_ s_ => ⟨rfl, s_.aJ0⟩
       ·obtain ⟨hR2, hF2, _⟩ := hy2 (by simpa using hb2)
        have hlm : l2 = (l1.drop k).take 30 := aE2 (r := pS r) (s := y) (n := 60) hR1 hR2 hf2 rfl hp0 rfl rfl (aB5 hT.1 hT.2.1 hT.2.2.1 hT.2.2.2) (aB5 hT.1 hT.2.1 hT.2.2.1 hT.2.2.2) hF1 h60 oM hy hF2
        have hl30 : ((l1.drop k).take 30).length = 30 := by rw [List.length_take, List.length_drop]; omega
        subst hlm
        refine rl ((gA rfl).to (v' := .bool false) (cB hb2)) ?_
        refine g16 ?_
        refine g1 ?_
        refine rZ1 ((wT (e := 2) (n := 1) (b := bl) (off := 0) (len := l1.length) (cap := c1) kR rfl rfl rfl oM oM oM oM).to (v' := .slice (some ⟨bl, 0 + k, none⟩) ((l1.drop k).take 30).length (c1 - k)) (aHs hk hl30)) ?_
        refine gL (cvo (v := .bool true) rfl (fun w_ s_ => rF _ (some ⟨bl, 0 + k, none⟩) _ (c1 - k) ((l1.drop k).take 30) oM w_ (s_.ints 13 (xs := (l1.drop k).take 30) rfl) (aIa (s_.ints 11 (xs := l1) rfl) oM hl30)) ?_)
        refine g9 ?_
        exact gR rfl fun w_ s_ => ⟨rfl, s_.aJ0⟩
end
end Go.Proofs.YtdbbifbmkfmbkaaGreat
namespace Go.Proofs.YtdbbifbmkfmbkaaGreat
end Go.Proofs.YtdbbifbmkfmbkaaGreat
