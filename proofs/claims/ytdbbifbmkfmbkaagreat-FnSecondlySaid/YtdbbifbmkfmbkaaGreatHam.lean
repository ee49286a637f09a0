import Derived.Test.YtdbbifbmkfmbkaaGreatHal
set_option linter.unusedVariables false
set_option linter.unusedSimpArgs false
set_option maxRecDepth 100000
set_option maxHeartbeats 8000000
namespace Go.Proofs.YtdbbifbmkfmbkaaGreat
open Go.Md Go.Tab Go.Fr
theorem mW {r : Rul} {u dy : Int} (h : UD r u dy) (k : Int) : pAt (bN r) k = (r.start / u + k * r.interval) * u ∧ dA (bN r) k = (r.start / u + k * r.interval) / dy ∧ UN (bN r).freq = u ∧ cW r.freq = dy ∧ u * dy = 86400 ∧ 1 ≤ u := by
 obtain ⟨e1, e2, e3, _⟩ := dR r
 unfold dA pAt UN
 rw [e1, e2, e3]
 generalize k * r.interval = z
 rcases h with ⟨rfl, rfl, hf⟩ | ⟨rfl, rfl, hf⟩ | ⟨rfl, rfl, hf⟩ <;> rw [hf] <;> simp [cW] <;> omega
theorem aC4 {r : Rul} (h : 4 ≤ r.freq ∧ r.freq ≤ 6) : ∃ u dy, UD r u dy := by
 rcases (show r.freq = 4 ∨ r.freq = 5 ∨ r.freq = 6 by omega) with h | h | h
 ·exact ⟨3600, 24, .inl ⟨rfl, rfl, h⟩⟩
 ·exact ⟨60, 1440, .inr (.inl ⟨rfl, rfl, h⟩)⟩
 ·exact ⟨1, 86400, .inr (.inr ⟨rfl, rfl, h⟩)⟩
def gH (q : Ru) (s : It) : List Int := if cL q s then Md.fill q s else []
theorem yS {r : Rul} {wF : Int → List Int} {nF : Int → Int → List Int} {eF : Int → List Int} (rp : RightP r) {u dy : Int} (h : UD r u dy) {s : It} (h1 : 0 ≤ s.h ∧ s.h ≤ 23) (h2 : 0 ≤ s.mi ∧ s.mi ≤ 59) (h3 : 0 ≤ s.s ∧ s.s ≤ 59) (D : Int) :
  SI (gH (bG (aJ r) wF nF eF) s) ∧ eB (bN r).hour (bN r).minute (bN r).second D (D * 86400 + cF r.freq s * u) u = (gH (bG (aJ r) wF nF eF) s).map (D * 86400 + ·) := by
 obtain ⟨_, _, _, f4, f5, f6⟩ := rI r
 obtain ⟨_, p2, p3⟩ := mI rp
 have hq : (bG (aJ r) wF nF eF).freq = r.freq := rfl
 rw [f4, f5, f6]
 have hh : (bG (aJ r) wF nF eF).hour = cG (aJ r) := rfl
 have hm : (bG (aJ r) wF nF eF).minute = bB (aJ r) := rfl
 have hs : (bG (aJ r) wF nF eF).second = bI (aJ r) := rfl
 have key : ∀ T : List Int, SI T → gH (bG (aJ r) wF nF eF) s = T → (∀ t, t ∈ T ↔ 0 ≤ t ∧ t < 86400 ∧ cF r.freq s * u ≤ t ∧ t < cF r.freq s * u + u ∧ aM (cG (aJ r)) (t / 3600) = true ∧ aM (bB (aJ r)) (t / 60 % 60) = true ∧ aM (bI (aJ r)) (t % 60) = true) →
   SI (gH (bG (aJ r) wF nF eF) s) ∧ eB (cG (aJ r)) (bB (aJ r)) (bI (aJ r)) D (D * 86400 + cF r.freq s * u) u = (gH (bG (aJ r) wF nF eF) s).map (D * 86400 + ·) := by
  intro T hT e hmem
  rw [e]
  refine ⟨hT, wA hT fun t => (hmem t).trans ⟨?_, ?_⟩⟩
  ·rintro ⟨a1, a2, a3, a4, a5⟩; exact ⟨a1, a2, by omega, by omega, a5⟩
  ·rintro ⟨a1, a2, a3, a4, a5⟩; exact ⟨a1, a2, by omega, by omega, a5⟩
 rcases h with ⟨rfl, rfl, hf⟩ | ⟨rfl, rfl, hf⟩ | ⟨rfl, rfl, hf⟩
 ·have P2 : PartOk (bB (aJ r)) 60 := p2 oM
  have P3 : PartOk (bI (aJ r)) 60 := p3 oM
  have P1 : PartOk [s.h] 24 := PartOk.one ⟨h1.1, by omega⟩
  have hsl : cF r.freq s = s.h := by unfold cF; rw [if_pos hf]
  have hok : cL (bG (aJ r) wF nF eF) s = aM (cG (aJ r)) s.h := by unfold cL; rw [hq, hf, hh]; simp
  have hfill : Md.fill (bG (aJ r) wF nF eF) s = lJ [s.h] (bB (aJ r)) (bI (aJ r)) := by unfold Md.fill; rw [hq, if_pos hf, hm, hs]
  cases hb : aM (cG (aJ r)) s.h with
  | true =>
   refine key _ (nL P1 P2 P3) (by unfold gH; rw [hok, hb, if_pos rfl, hfill]) fun t => ?_
   rw [mU P1 P2 P3, P2.among, P3.among, hsl, List.mem_singleton]
   constructor
   ·rintro ⟨a1, a2, a3, a4, a5⟩; exact ⟨a1, a2, by omega, by omega, by rw [a3]; exact hb, a4, a5⟩
   ·rintro ⟨a1, a2, a3, a4, a5, a6, a7⟩; exact ⟨a1, a2, by omega, a6, a7⟩
  | false =>
   refine key [] (by simp [SI]) (by unfold gH; rw [hok, hb]; rfl) fun t => ⟨fun h => by simp at h, ?_⟩
   rintro ⟨a1, a2, a3, a4, a5, a6, a7⟩
   rw [hsl] at a3 a4
   rw [show t / 3600 = s.h by omega, hb] at a5; cases a5
 ·have P3 : PartOk (bI (aJ r)) 60 := p3 oM
  have P1 : PartOk [s.h] 24 := PartOk.one ⟨h1.1, by omega⟩
  have P2 : PartOk [s.mi] 60 := PartOk.one ⟨h2.1, by omega⟩
  have hsl : cF r.freq s = s.h * 60 + s.mi := by unfold cF; rw [if_neg oM, if_pos hf]
  have hok : cL (bG (aJ r) wF nF eF) s = (aM (cG (aJ r)) s.h && aM (bB (aJ r)) s.mi) := by unfold cL; rw [hq, hf, hh, hm]; simp
  have hfill : Md.fill (bG (aJ r) wF nF eF) s = lJ [s.h] [s.mi] (bI (aJ r)) := by unfold Md.fill; rw [hq, if_neg oM, if_pos hf, hs]
  cases hb : (aM (cG (aJ r)) s.h && aM (bB (aJ r)) s.mi) with
  | true =>
   obtain ⟨b1, b2⟩ := Bool.and_eq_true_iff.1 hb
   refine key _ (nL P1 P2 P3) (by unfold gH; rw [hok, hb, if_pos rfl, hfill]) fun t => ?_
   rw [mU P1 P2 P3, P3.among, hsl, List.mem_singleton, List.mem_singleton]
   constructor
   ·rintro ⟨a1, a2, a3, a4, a5⟩; exact ⟨a1, a2, by omega, by omega, by rw [a3]; exact b1, by rw [a4]; exact b2, a5⟩
   ·rintro ⟨a1, a2, a3, a4, a5, a6, a7⟩; exact ⟨a1, a2, by omega, by omega, a7⟩
  | false =>
   refine key [] (by simp [SI]) (by unfold gH; rw [hok, hb]; rfl) fun t => ⟨fun h => by simp at h, ?_⟩
   rintro ⟨a1, a2, a3, a4, a5, a6, a7⟩
   rw [hsl] at a3 a4
   rw [show t / 3600 = s.h by omega] at a5
   rw [show t / 60 % 60 = s.mi by omega] at a6
   rw [a5, a6] at hb; cases hb
 ·have hsl : cF r.freq s = s.h * 3600 + s.mi * 60 + s.s := by unfold cF; rw [if_neg oM, if_neg oM]
  have hok : cL (bG (aJ r) wF nF eF) s = ((aM (cG (aJ r)) s.h && aM (bB (aJ r)) s.mi) && aM (bI (aJ r)) s.s) := by unfold cL; rw [hq, hf, hh, hm, hs]; simp
  have hfill : Md.fill (bG (aJ r) wF nF eF) s = [s.h * 3600 + s.mi * 60 + s.s] := by unfold Md.fill; rw [hq, if_neg oM, if_neg oM]
  cases hb : ((aM (cG (aJ r)) s.h && aM (bB (aJ r)) s.mi) && aM (bI (aJ r)) s.s) with
  | true =>
   obtain ⟨b1, b3⟩ := Bool.and_eq_true_iff.1 hb
   obtain ⟨b1, b2⟩ := Bool.and_eq_true_iff.1 b1
   refine key [s.h * 3600 + s.mi * 60 + s.s] (by simp [SI]) (by unfold gH; rw [hok, hb, if_pos rfl, hfill]) fun t => ?_
   rw [hsl, List.mem_singleton]
   constructor
   ·intro e; exact ⟨by omega, by omega, by omega, by omega, by rw [show t / 3600 = s.h by omega]; exact b1, by rw [show t / 60 % 60 = s.mi by omega]; exact b2, by rw [show t % 60 = s.s by omega]; exact b3⟩
   ·rintro ⟨a1, a2, a3, a4, _⟩; omega
  | false =>
   refine key [] (by simp [SI]) (by unfold gH; rw [hok, hb]; rfl) fun t => ⟨fun h => by simp at h, ?_⟩
   rintro ⟨a1, a2, a3, a4, a5, a6, a7⟩
   rw [hsl] at a3 a4
   rw [show t / 3600 = s.h by omega] at a5
   rw [show t / 60 % 60 = s.mi by omega] at a6
   rw [show t % 60 = s.s by omega] at a7
   rw [a5, a6, a7] at hb; cases hb
theorem sU {u dy a : Int} (hu : u * dy = 86400) (h1 : 1 ≤ u) : a * u = a / dy * 86400 + a % dy * u := by
 have h := Int.mul_ediv_add_emod a dy
 conv => lhs; rw [← h]
 rw [Int.add_mul, ← hu, Int.mul_comm dy (a / dy), Int.mul_assoc, Int.mul_comm dy u]
def R46 (r : Rul) (q : Ru) (k : Int) (s : It) : Prop := ∃ u dy, UD r u dy ∧ Cal.dayNo s.y s.mo s.d = (r.start / u + k * r.interval) / dy ∧ cF r.freq s = (r.start / u + k * r.interval) % dy ∧ s.ts = gH q s
theorem aC1 {r : Rul} {wF : Int → List Int} {nF : Int → Int → List Int} {eF : Int → List Int} (rp : RightP r) {u dy : Int} (h : UD r u dy) (dayF : Int → Bool) {s : It} (h2 : 0 ≤ s.mi ∧ s.mi ≤ 59) (h3 : 0 ≤ s.s ∧ s.s ≤ 59) {j : Int}
  (hno : cL (bG (aJ r) wF nF eF) (bQ r.freq s ((r.start / u + j * r.interval) % dy)) = false) : gJ (bN r) dayF j = [] := by
 obtain ⟨e1, e2, e3, _⟩ := dR r
 obtain ⟨p1, p2, p3, p4, p5, p6⟩ := mW h j
 have hf : 4 ≤ r.freq ∧ r.freq ≤ 6 := by rcases h with ⟨_, _, h⟩ | ⟨_, _, h⟩ | ⟨_, _, h⟩ <;> omega
 have hdy : 24 ≤ dy := by rcases h with ⟨_, h, _⟩ | ⟨_, h, _⟩ | ⟨_, h, _⟩ <;> omega
 have ht : 0 ≤ (r.start / u + j * r.interval) % dy ∧ (r.start / u + j * r.interval) % dy < cW r.freq := ⟨Int.emod_nonneg _ oM, by rw [p4]; exact Int.emod_lt_of_pos _ oM⟩
 have hb := aC8 hf ht h2 h3
 unfold gJ
 rw [if_pos (by rw [e2]; omega), p1, p2, p3, sU p5 p6]
 have hc := (yS (wF := wF) (nF := nF) (eF := eF) rp h hb.1 hb.2.1 hb.2.2 ((r.start / u + j * r.interval) / dy)).2
 rw [(wM hf (s := s) ht).1] at hc
 rw [hc]
 unfold gH
 rw [hno]
 simp
theorem aHh {r : Rul} {wF : Int → List Int} {nF : Int → Int → List Int} {eF : Int → List Int} (rp : RightP r) (hf : 4 ≤ r.freq ∧ r.freq ≤ 6) (hw : ∀ y m, nF y m = []) {s : It} (hi : ItOk (bG (aJ r) wF nF eF) s) :
  aY (bG (aJ r) wF nF eF) s = (Cal.ydayOf (Cal.dayNo s.y s.mo s.d), Cal.ydayOf (Cal.dayNo s.y s.mo s.d) + 1) ∧ (bad (bG (aJ r) wF nF eF) s (Cal.ydayOf (Cal.dayNo s.y s.mo s.d) + ((0 : Nat) : Int)) = !dK (bN r) (Cal.dayNo s.y s.mo s.d)) ∧ (cH (bG (aJ r) wF nF eF) s = true → dK (bN r) (Cal.dayNo s.y s.mo s.d) = false) := by
 have hfr : (bG (aJ r) wF nF eF).freq = r.freq := rfl
 have hnw : s.nwm = [] := by rw [hi.nwm]; exact hw _ _
 obtain ⟨d1, d2, d3, _⟩ := oP hi.mo ⟨hi.d.1, hi.day (by rw [hfr]; omega)⟩
 have db := nD hi.mo ⟨hi.d.1, hi.day (by rw [hfr]; omega)⟩
 have ds := Cal.split_spec (Cal.dayNo s.y s.mo s.d)
 rw [d2] at ds
 have hlp := Cal.lp_01 s.ly
 have hlpe : Cal.lp s.ly = Cal.lp s.y := by rw [hi.ly]
 have hdy : Cal.daysTo s.ly = Cal.daysTo s.y := by rw [hi.ly]
 have hsn : aY (bG (aJ r) wF nF eF) s = (Cal.ydayOf (Cal.dayNo s.y s.mo s.d), Cal.ydayOf (Cal.dayNo s.y s.mo s.d) + 1) := by
  unfold aY
  rw [hfr, if_neg oM, if_neg oM]
  simp only
  rw [if_neg oM]
 have hb := aF2 (wF := wF) (nF := nF) (eF := eF) (s := s) rp oM hnw (i := Cal.ydayOf (Cal.dayNo s.y s.mo s.d) + ((0 : Nat) : Int)) oM oM
 rw [show Cal.daysTo s.ly + (Cal.ydayOf (Cal.dayNo s.y s.mo s.d) + ((0 : Nat) : Int)) = Cal.dayNo s.y s.mo s.d by omega] at hb
 refine ⟨hsn, hb, fun h => ?_⟩
 unfold cH at h
 rw [hsn] at h
 simp only at h
 rw [show (Cal.ydayOf (Cal.dayNo s.y s.mo s.d) + 1 - Cal.ydayOf (Cal.dayNo s.y s.mo s.d)).toNat = 1 by omega] at h
 simp only [List.range_succ, List.range_zero, List.nil_append, List.any_cons, List.any_nil, Bool.or_false] at h
 rw [hb] at h
 cases hx : dK (bN r) (Cal.dayNo s.y s.mo s.d) with
 | false => rfl
 | true => rw [hx] at h; cases h
theorem aF8 {r : Rul} {wF : Int → List Int} {nF : Int → Int → List Int} {eF : Int → List Int} (rp : RightP r) (hf : 4 ≤ r.freq ∧ r.freq ≤ 6) (hw : ∀ y m, nF y m = []) : Fits (bG (aJ r) wF nF eF) (bN r) (dK (bN r)) (R46 r (bG (aJ r) wF nF eF)) where
 over := fun k _ h => sD (by rw [(dR r).2.1]; omega) (by rw [(dR r).2.2.1]; exact rp.t1.interval.1) k h
 same := fun k s s' h hs => by
  obtain ⟨u, dy, h1, h2, h3, h4⟩ := h
  refine ⟨u, dy, h1, by rw [hs.y, hs.mo, hs.d]; exact h2, by rw [oO hs.h hs.mi hs.s]; exact h3, ?_⟩
  rw [hs.ts, h4]
  unfold gH
  rw [o5 hs.h hs.mi hs.s, oG hs.h hs.mi hs.s]
 pos := fun k s h0 hR hi ho => by
  obtain ⟨u, dy, hu, hday, hslot, hts⟩ := hR
  obtain ⟨e1, e2, e3, e4, e5, e6, _⟩ := dR r
  obtain ⟨p1, p2, p3, p4, p5, p6⟩ := mW hu k
  have hfr : (bG (aJ r) wF nF eF).freq = r.freq := rfl
  have hsp : (bG (aJ r) wF nF eF).setpos = r.setpos := rfl
  obtain ⟨c1, c2⟩ := yS (wF := wF) (nF := nF) (eF := eF) rp hu hi.hr hi.mn hi.sec (Cal.dayNo s.y s.mo s.d)
  have hSI : SI s.ts := by rw [hts]; exact c1
  have hnw : s.nwm = [] := by rw [hi.nwm]; exact hw _ _
  obtain ⟨d1, d2, d3, _⟩ := oP hi.mo ⟨hi.d.1, hi.day (by rw [hfr]; omega)⟩
  have db := nD hi.mo ⟨hi.d.1, hi.day (by rw [hfr]; omega)⟩
  have ds := Cal.split_spec (Cal.dayNo s.y s.mo s.d)
  rw [d2] at ds
  have hlp := Cal.lp_01 s.ly
  have hlpe : Cal.lp s.ly = Cal.lp s.y := by rw [hi.ly]
  have hdy : Cal.daysTo s.ly = Cal.daysTo s.y := by rw [hi.ly]
  have hout := xU (r := bG (aJ r) wF nF eF) hSI hi.ts (uX rp.t3.h9)
  refine ⟨[], dI (gK (bG (aJ r) wF nF eF) s) r.setpos, ?_, fun t ht => by simp at ht, by rw [hout, hsp]⟩
  rw [List.nil_append, e6]
  congr 1
  have hsn : aY (bG (aJ r) wF nF eF) s = (Cal.ydayOf (Cal.dayNo s.y s.mo s.d), Cal.ydayOf (Cal.dayNo s.y s.mo s.d) + 1) := by
   unfold aY
   rw [hfr, if_neg oM, if_neg oM]
   simp only
   rw [if_neg oM]
  have hD : Cal.daysTo s.ly + Cal.ydayOf (Cal.dayNo s.y s.mo s.d) = Cal.dayNo s.y s.mo s.d := by omega
  have hfl : gK (bG (aJ r) wF nF eF) s = if dK (bN r) (Cal.dayNo s.y s.mo s.d) = true then s.ts.map (Cal.dayNo s.y s.mo s.d * 86400 + ·) else [] := by
   rw [mO, hsn]
   simp only
   rw [show (Cal.ydayOf (Cal.dayNo s.y s.mo s.d) + 1 - Cal.ydayOf (Cal.dayNo s.y s.mo s.d)).toNat = 1 by omega]
   have hb := aF2 (wF := wF) (nF := nF) (eF := eF) (s := s) rp oM hnw (i := Cal.ydayOf (Cal.dayNo s.y s.mo s.d) + ((0 : Nat) : Int)) oM oM
   simp only [List.range_succ, List.range_zero, List.nil_append, List.flatMap_cons, List.flatMap_nil, List.append_nil]
   rw [hb, show Cal.daysTo s.ly + (Cal.ydayOf (Cal.dayNo s.y s.mo s.d) + ((0 : Nat) : Int)) = Cal.dayNo s.y s.mo s.d by omega]
   unfold mC
   rw [show Cal.daysTo s.ly + (Cal.ydayOf (Cal.dayNo s.y s.mo s.d) + ((0 : Nat) : Int)) = Cal.dayNo s.y s.mo s.d by omega]
   cases dK (bN r) (Cal.dayNo s.y s.mo s.d) <;> rfl
  rw [hfl]
  unfold gJ
  rw [if_pos (by rw [e2]; omega), p1, p2, p3, sU p5 p6, ← hday, ← hslot, c2, ← hts]
 adv := fun k s h0 hR hi ho hfin => by
  obtain ⟨u, dy, hu, hday, hslot, hts⟩ := hR
  obtain ⟨e1, e2, e3, e4, e5, e6, _⟩ := dR r
  have hfr : (bG (aJ r) wF nF eF).freq = r.freq := rfl
  have hir : (bG (aJ r) wF nF eF).interval = r.interval := rfl
  have hiv := rp.t1.interval
  obtain ⟨n, K, hn⟩ := aC0 (b := cH (bG (aJ r) wF nF eF) s) (by rw [hfr]; exact hf) hi
  have hsl : cW r.freq = dy := (mW hu k).2.2.2.1
  have hdy : 24 ≤ dy ∧ dy ≤ 86400 := by rcases hu with ⟨_, h, _⟩ | ⟨_, h, _⟩ | ⟨_, h, _⟩ <;> omega
  have hsb := u7 hf hi.hr hi.mn hi.sec
  rw [hsl] at hsb
  have hj0 : 0 ≤ gI (bG (aJ r) wF nF eF) (cH (bG (aJ r) wF nF eF) s) s := by
   unfold gI
   rw [hfr, hir, hsl]
   split
   ·exact Int.ediv_nonneg oM oM
   ·omega
  have hjb : cH (bG (aJ r) wF nF eF) s = false → gI (bG (aJ r) wF nF eF) (cH (bG (aJ r) wF nF eF) s) s = 0 := fun h => by unfold gI; rw [h]; rfl
  have hjm : cF r.freq s + gI (bG (aJ r) wF nF eF) (cH (bG (aJ r) wF nF eF) s) s * r.interval ≤ dy - 1 := by
   unfold gI
   rw [hfr, hir, hsl]
   split
   ·have := (rC (m := dy - 1 - cF r.freq s) (n := r.interval) oM oM).2; omega
   ·omega
  have n1 : ∀ j : Nat, 1 ≤ j → j < K → cL (bG (aJ r) wF nF eF) (bQ r.freq s ((cF r.freq s + (gI (bG (aJ r) wF nF eF) (cH (bG (aJ r) wF nF eF) s) s + j) * r.interval) % dy)) = false := by rw [← hsl]; exact hn.no
  have n2 : n.d = s.d + (cF r.freq s + (gI (bG (aJ r) wF nF eF) (cH (bG (aJ r) wF nF eF) s) s + K) * r.interval) / dy := by rw [← hsl]; exact hn.d
  have n3 : cF r.freq n = (cF r.freq s + (gI (bG (aJ r) wF nF eF) (cH (bG (aJ r) wF nF eF) s) s + K) * r.interval) % dy := by rw [← hsl]; exact hn.slot
  have n4 := hn.hk.1
  generalize gI (bG (aJ r) wF nF eF) (cH (bG (aJ r) wF nF eF) s) s = m at n1 n2 n3 hj0 hjb hjm
  have hz : ∀ z : Int, (r.start / u + (k + z) * r.interval) / dy = Cal.dayNo s.y s.mo s.d + (cF r.freq s + z * r.interval) / dy ∧ (r.start / u + (k + z) * r.interval) % dy = (cF r.freq s + z * r.interval) % dy := by
   intro z
   have e : r.start / u + (k + z) * r.interval = (cF r.freq s + z * r.interval) + dy * Cal.dayNo s.y s.mo s.d := by
    have h := Int.mul_ediv_add_emod (r.start / u + k * r.interval) dy
    rw [← hday, ← hslot] at h
    rw [Int.add_mul]
    omega
   rw [e, Int.add_mul_ediv_left _ _ oM, Int.add_mul_emod_self_left]
   exact ⟨by omega, rfl⟩
  refine ⟨k + (m + K), by omega, fun j h1 h2 => ?_, ?_⟩
  ·obtain ⟨z, rfl⟩ : ∃ z, j = k + z := ⟨j - k, by omega⟩
   by_cases hzm : z ≤ m
   ·have hflt : cH (bG (aJ r) wF nF eF) s = true := by
     cases h : cH (bG (aJ r) wF nF eF) s with
     | true => rfl
     | false => have := hjb h; omega
    have hbad := (aHh rp hf hw hi).2.2 hflt
    have hmul := Int.mul_le_mul_of_nonneg_right hzm (show 0 ≤ r.interval by omega)
    have hmul0 := Int.mul_nonneg (show 0 ≤ z by omega) (show 0 ≤ r.interval by omega)
    unfold gJ
    rw [if_pos (by rw [e2]; omega), (mW hu (k + z)).2.1, (hz z).1, Int.ediv_eq_zero_of_lt oM oM, Int.add_zero, hbad]
    rfl
   ·refine aC1 (wF := wF) (nF := nF) (eF := eF) rp hu _ (s := s) hi.mn hi.sec ?_
    rw [(hz z).2]
    have h := n1 (z - m).toNat oM oM
    rw [show m + (((z - m).toNat : Nat) : Int) = z by omega] at h
    exact h
  ·have hpf : dA (bN r) (k + (m + K)) = Cal.dayNo s.y s.mo s.d + (cF r.freq s + (m + K) * r.interval) / dy := by rw [(mW hu _).2.1, (hz _).1]
   rw [hn.adv]
   have hmo := hi.mo
   have hy := hi.y
   have hd := hi.d
   have hnd : 1 ≤ n.d := by
    rw [n2]
    have h1 := Int.mul_nonneg (show 0 ≤ m + (K : Int) by omega) (show 0 ≤ r.interval by omega)
    have := Int.ediv_nonneg (show 0 ≤ cF r.freq s + (m + (K : Int)) * r.interval by omega) (show 0 ≤ dy by omega)
    omega
   obtain ⟨c1, c2⟩ := aAs (r := bG (aJ r) wF nF eF) (s := n) hnd (by rw [hn.mo]; exact hmo) (by rw [hn.y]; exact hy) (by rw [hn.fin]; exact hfin)
   have hrest := vX (r := bG (aJ r) wF nF eF) n
   have hdn : Cal.dayNo n.y n.mo n.d = dA (bN r) (k + (m + K)) := by
    rw [hn.y, hn.mo, n2, hpf, iX hmo, iX hmo]; omega
   rw [hdn] at c1 c2
   refine ⟨fun h => ?_, fun h => (rW oM _).2 (c2 h)⟩
   have c3 := c1 h
   obtain ⟨g1, g2, g3, _⟩ := uW (r := bG (aJ r) wF nF eF) (s := n) hnd (by rw [hn.mo]; exact hmo) (by rw [hn.y]; exact hy) (by rw [hn.ly, hn.y]; exact hi.ly) ⟨by rw [hn.wno, hn.ly]; exact hi.wno, by rw [hn.nwm, hn.ly, hn.lm]; exact hi.nwm, by rw [hn.eas, hn.ly]; exact hi.eas⟩ h
   have gl := sK g3 g2 g1
   rw [c3] at gl
   refine ⟨⟨u, dy, hu, by rw [c3, (mW hu _).2.1], by rw [oO hrest.h hrest.mi hrest.sec, n3, (hz _).2], ?_⟩, fun hov => ?_⟩
   ·unfold gH
    rw [hrest.ts, hn.ts, o5 hrest.h hrest.mi hrest.sec, hn.ok, if_pos rfl, oG hrest.h hrest.mi hrest.sec]
   ·have := (rW (r := r) oM _).1 hov
    omega
theorem aFz (a : Nat) : ∀ b : Nat, ∃ x y : Int, ((Nat.gcd a b : Nat) : Int) = a * x + b * y := by
 induction a using Nat.strongRecOn with
 | _ a ih =>
  intro b
  rcases Nat.eq_zero_or_pos a with h | h
  ·subst h
   exact ⟨0, 1, by rw [Nat.gcd_zero_left]; simp⟩
  ·obtain ⟨x, y, e⟩ := ih (b % a) (Nat.mod_lt _ h) a
   refine ⟨y - (b / a : Nat) * x, x, ?_⟩
   rw [Nat.gcd_rec, e]
   have h2 : ((b % a : Nat) : Int) = b - a * (b / a : Nat) := by
    have := Nat.div_add_mod b a
    have h3 : ((a * (b / a) + b % a : Nat) : Int) = b := by rw [this]
    rw [Int.natCast_add, Int.natCast_mul] at h3
    omega
   rw [h2, Int.sub_mul, Int.mul_sub, Int.mul_assoc]
   omega
theorem mZ {r : Rul} (h : 4 ≤ r.freq) (x : Int) : aM (cG (aJ r)) x = aM r.hour x := by
 unfold cG
 split
 ·rename_i h0
  rw [if_neg (by show ¬ r.freq < 4; omega), eM (show r.hour.length = 0 from h0)]; rfl
 ·rfl
theorem nR {r : Rul} (h : 5 ≤ r.freq) (x : Int) : aM (bB (aJ r)) x = aM r.minute x := by
 unfold bB
 split
 ·rename_i h0
  rw [if_neg (by show ¬ r.freq < 5; omega), eM (show r.minute.length = 0 from h0)]; rfl
 ·rfl
theorem s8 {r : Rul} (h : 6 ≤ r.freq) (x : Int) : aM (bI (aJ r)) x = aM r.second x := by
 unfold bI
 split
 ·rename_i h0
  rw [if_neg (by show ¬ r.freq < 6; omega), eM (show r.second.length = 0 from h0)]; rfl
 ·rfl
theorem aCu {r : Rul} {wF : Int → List Int} {nF : Int → Int → List Int} {eF : Int → List Int} (rp : RightP r) (hf : 4 ≤ r.freq ∧ r.freq ≤ 6) (ts : List Int) :
  ∀ b, ∃ K, iG (bG (aJ r) wF nF eF) b (it1 (aJ r) (bG (aJ r) wF nF eF) ts) = some K ∧ (K : Int) ≤ cW r.freq := by
 obtain ⟨u, dy, at_, hu, h0, h1, h2, h3, h4, h5⟩ := rp.t8 hf.1
 have hiv := rp.t1.interval
 have hsl : cW r.freq = dy := (mW hu 0).2.2.2.1
 have hdy : 24 ≤ dy := by rcases hu with ⟨_, h, _⟩ | ⟨_, h, _⟩ | ⟨_, h, _⟩ <;> omega
 have hso : cF r.freq (it1 (aJ r) (bG (aJ r) wF nF eF) ts) = r.start % 86400 / u := by
  show (if r.freq = 4 then r.start % 86400 / 3600 else if r.freq = 5 then r.start % 86400 / 3600 * 60 + r.start % 86400 / 60 % 60 else r.start % 86400 / 3600 * 3600 + r.start % 86400 / 60 % 60 * 60 + r.start % 86400 % 60) = _
  rcases hu with ⟨rfl, _, h⟩ | ⟨rfl, _, h⟩ | ⟨rfl, _, h⟩
  ·rw [if_pos h]
  ·rw [if_neg oM, if_pos h]; omega
  ·rw [if_neg oM, if_neg oM]; omega
 have hg := Int.emod_emod_of_dvd
 obtain ⟨x, y, hb⟩ := aFz r.interval.toNat dy.toNat
 rw [show ((r.interval.toNat : Nat) : Int) = r.interval by omega, show ((dy.toNat : Nat) : Int) = dy by omega] at hb
 have hk : ∃ k0 : Int, (r.start % 86400 / u + k0 * r.interval) % dy = at_ := by
  have e1 := Int.mul_ediv_add_emod at_ (Nat.gcd r.interval.toNat dy.toNat : Nat)
  have e2 := Int.mul_ediv_add_emod (r.start % 86400 / u) (Nat.gcd r.interval.toNat dy.toNat : Nat)
  rw [h2] at e1
  generalize (r.start % 86400 / u) / ((Nat.gcd r.interval.toNat dy.toNat : Nat) : Int) = c2 at e2
  generalize at_ / ((Nat.gcd r.interval.toNat dy.toNat : Nat) : Int) = c1 at e1
  generalize ((Nat.gcd r.interval.toNat dy.toNat : Nat) : Int) = g at e1 e2 hb
  refine ⟨x * (c1 - c2), ?_⟩
  have e3 : r.start % 86400 / u + x * (c1 - c2) * r.interval = at_ + dy * (-(y * (c1 - c2))) := by
   have e4 : g * (c1 - c2) = r.interval * x * (c1 - c2) + dy * y * (c1 - c2) := by rw [hb, Int.add_mul]
   rw [Int.mul_sub] at e4
   rw [Int.mul_neg, ← Int.mul_assoc, show x * (c1 - c2) * r.interval = r.interval * x * (c1 - c2) by rw [Int.mul_comm (x * (c1 - c2)), Int.mul_assoc]]
   omega
  rw [e3, Int.add_mul_emod_self_left, Int.emod_eq_of_lt h0 h1]
 obtain ⟨k0, hk⟩ := hk
 refine aAb (r := bG (aJ r) wF nF eF) (s := it1 (aJ r) (bG (aJ r) wF nF eF) ts) hf (k0 := k0) ?_
 show cL (bG (aJ r) wF nF eF) (bQ r.freq _ ((cF r.freq (it1 (aJ r) (bG (aJ r) wF nF eF) ts) + k0 * r.interval) % cW r.freq)) = true
 rw [hso, hsl, hk]
 have hh : (bG (aJ r) wF nF eF).hour = cG (aJ r) := rfl
 have hm : (bG (aJ r) wF nF eF).minute = bB (aJ r) := rfl
 have hs : (bG (aJ r) wF nF eF).second = bI (aJ r) := rfl
 rcases hu with ⟨rfl, rfl, h⟩ | ⟨rfl, rfl, h⟩ | ⟨rfl, rfl, h⟩
 ·have e := ok4 (r := bG (aJ r) wF nF eF) (s := it1 (aJ r) (bG (aJ r) wF nF eF) ts) (t := at_) h
  refine e.trans ?_
  rw [hh, mZ hf.1, show at_ = at_ * 3600 / 3600 by omega]; exact h3
 ·have e := ok5 (r := bG (aJ r) wF nF eF) (s := it1 (aJ r) (bG (aJ r) wF nF eF) ts) (t := at_) h
  refine e.trans ?_
  rw [hh, hm, mZ hf.1, nR oM, show at_ / 60 = at_ * 60 / 3600 by omega, show at_ % 60 = at_ * 60 / 60 % 60 by omega, h3, h4 oM]; rfl
 ·have e := ok6 (r := bG (aJ r) wF nF eF) (s := it1 (aJ r) (bG (aJ r) wF nF eF) ts) (t := at_) h
  refine e.trans ?_
  rw [hh, hm, hs, mZ hf.1, nR oM, s8 oM]
  rw [Int.mul_one] at h3 h4 h5
  rw [h3, h4 oM, h5 h]; rfl
theorem aA2 {r : Rul} (rp : RightP r) (hf : 4 ≤ r.freq ∧ r.freq ≤ 6) {s : It} (h1 : 0 ≤ s.h ∧ s.h ≤ 23) (h2 : 0 ≤ s.mi ∧ s.mi ≤ 59) (h3 : 0 ≤ s.s ∧ s.s ≤ 59) : (gH (bG (aJ r) wO nO wO) s).length ≤ 100000 ∧ ∀ t ∈ gH (bG (aJ r) wO nO wO) s, 0 ≤ t ∧ t < 86400 := by
 obtain ⟨u, dy, hu⟩ := aC4 hf
 obtain ⟨c1, c2⟩ := yS (wF := wO) (nF := nO) (eF := wO) rp hu h1 h2 h3 0
 have hb : ∀ t ∈ gH (bG (aJ r) wO nO wO) s, 0 ≤ t ∧ t < 86400 := by
  intro t ht
  have h : 0 * 86400 + t ∈ eB (bN r).hour (bN r).minute (bN r).second 0 (0 * 86400 + cF r.freq s * u) u := by rw [c2]; exact List.mem_map.2 ⟨t, ht, rfl⟩
  have := (o8.1 h)
  omega
 exact ⟨by have := uR c1 hb oM; omega, hb⟩
theorem aEq {r : Rul} (rp : RightP r) (hf : 4 ≤ r.freq ∧ r.freq ≤ 6) : ¬eJ (bN r) 0 := fun h => by
 have h := (rW oM _).1 h
 have hs := rp.t1.start
 have h9 : Cal.daysTo 9000 = 3286817 := by decide
 obtain ⟨u, dy, hu⟩ := aC4 hf
 rw [(mW hu 0).2.1, Int.zero_mul, Int.add_zero] at h
 rcases hu with ⟨rfl, rfl, _⟩ | ⟨rfl, rfl, _⟩ | ⟨rfl, rfl, _⟩ <;> omega
theorem mG {r : Rul} (rp : RightP r) (hf : 4 ≤ r.freq ∧ r.freq ≤ 6) : vH r (dK (bN r)) := by
 intro most hm l h x w hin
 have hr := tW rp oM
 obtain ⟨hy, hw, he⟩ := gU rp oM
 have hnw : (bG (aJ r) wO nO wO).nwd.length = 0 := vB (by show 2 ≤ r.freq; omega) wO nO wO
 obtain ⟨_, _, _, _, h5, h6⟩ := pD rp
 have hlm : (bG (aJ r) wO nO wO).minute.length ≤ 100 := h5
 have hls : (bG (aJ r) wO nO wO).second.length ≤ 100 := h6
 have hpres : vJ (bG (aJ r) wO nO wO) := zI hr hf hlm hls
 have hs := rp.t1.start
 have h9 : Cal.daysTo 9000 = 3286817 := by decide
 have hit := zK (kM rp) (show 4 ≤ r.freq ∧ r.freq ≤ 6 from hf) hw hnw he (fun _ => rfl) (fun _ _ => rfl) (fun _ => rfl) (tZ rp wO nO wO) (show (aJ r).d < 315537897600 by show r.start < _; omega) hr hlm hls
 have hb1 : 0 ≤ r.start % 86400 / 3600 ∧ r.start % 86400 / 3600 ≤ 23 := by omega
 have hb2 : 0 ≤ r.start % 86400 / 60 % 60 ∧ r.start % 86400 / 60 % 60 ≤ 59 := by omega
 have hb3 : 0 ≤ r.start % 86400 % 60 ∧ r.start % 86400 % 60 ≤ 59 := by omega
 have hit : xQ (aJ r) (bG (aJ r) wO nO wO) (it1 (aJ r) (bG (aJ r) wO nO wO) (gH (bG (aJ r) wO nO wO) (it1 (aJ r) (bG (aJ r) wO nO wO) []))) := hit
 have hR : R46 r (bG (aJ r) wO nO wO) 0 (it1 (aJ r) (bG (aJ r) wO nO wO) (gH (bG (aJ r) wO nO wO) (it1 (aJ r) (bG (aJ r) wO nO wO) []))) := by
  obtain ⟨u, dy, hu⟩ := aC4 hf
  refine ⟨u, dy, hu, ?_, ?_, rfl⟩
  ·rw [Int.zero_mul, Int.add_zero]
   refine (oH (r.start / 86400)).trans ?_
   rcases hu with ⟨rfl, rfl, _⟩ | ⟨rfl, rfl, _⟩ | ⟨rfl, rfl, _⟩ <;> omega
  ·rw [Int.zero_mul, Int.add_zero]
   show (if r.freq = 4 then r.start % 86400 / 3600 else if r.freq = 5 then r.start % 86400 / 3600 * 60 + r.start % 86400 / 60 % 60 else r.start % 86400 / 3600 * 3600 + r.start % 86400 / 60 % 60 * 60 + r.start % 86400 % 60) = _
   rcases hu with ⟨rfl, rfl, h⟩ | ⟨rfl, rfl, h⟩ | ⟨rfl, rfl, h⟩
   ·rw [if_pos h]; omega
   ·rw [if_neg oM, if_pos h]; omega
   ·rw [if_neg oM, if_neg oM]; omega
 obtain ⟨N, hT⟩ := tR rp (aF8 rp hf fun _ _ => rfl) hpres (aCm rp (aA2 rp hf hb1 hb2 hb3) (fun _ => aCu rp hf _)) hR (aEq rp hf) hm h
 exact qV (kM rp) hit (wV rp) (xD rp) (fun F w0 => x6 (aAh rp) F w0) hr
  ⟨(nG rp).1, (nG rp).2, aA4 hr hf hw hnw he hlm hls⟩ hpres hm hT w hin
end Go.Proofs.YtdbbifbmkfmbkaaGreat
namespace Go.Proofs.YtdbbifbmkfmbkaaGreat
open Go.RowKit Go.Fr Go.Tab
section
variable {F : Nat → Prop} {w0 : World} {B : LN} {H : LV} {S : LS}
open Go.Md
theorem hourly_walk (r : Rul) (x : Av) (a : Int) (ha : 0 ≤ a ∧ a < 256) (w : World) (hr : RIn w r x) : Calls Tryz.prog 6 #[.agg (aZ r x).toArray, .int .u8 a] w fun e w' => e = .returned (.bool true) ∧ Below w.heap.size w w' := by
 refine aK (args := [.agg (aZ r x).toArray, .int .u8 a]) (L := [(0, .agg (aZ r x).toArray), (1, .int .u8 a)]) (N := 11) Tryz.func6 rfl rfl ble rfl (sS w) ?_
 refine g2 ?_
 refine gL (eK 50 (cs := aZ r x) dE rfl rfl rfl (fun o ho => rfl) ble (fun b1 hb1 => ?_))
 refine g6 ?_
 refine rl ((cZ 50 (cs := aZ r x) rfl rfl (d8 (aZ r x) 0 ble) ble kR)) ?_
 refine gL (cbx (fun b : Bool => .bool b) (fun b => b = true → LenL r) rfl (fun w_ s_ => mY r x w_) (fun zb hzb => ?_))
 refine g3 ?_
 refine aE rfl (fun hc1 => ?_) (fun hc2 => ?_)
 ·refine g7 ?_
  exact aD (.inl rfl) rfl (aA rfl) fun w_ s_ => ⟨rfl, s_.aHy⟩
 ·have hl : LenL r := hzb (by simpa using hc2)
  refine g4 ?_
  refine rl ((cZ 50 (cs := aZ r x) rfl rfl (d8 (aZ r x) 0 ble) ble kR)) ?_
  refine g1 ?_
  refine gL (cvo (v := .bool true) rfl (fun w_ s_ => oA r x hr.freq.1 hl (CapL.of hr) 4 a ha (dayF := dK (bN r)) (dayU := dK (bN (fZ r))) (fun rp hq => pI (r := fZ r) ⟨by show 2 ≤ r.freq; omega, rp.t1.freq.2⟩ (show r.yday.length = 0 ∧ r.weekno.length = 0 ∧ r.easter.length = 0 from gU rp oM) (kY hl)) (fun rp hq => pI ⟨by omega, rp.t1.freq.2⟩ (gU rp oM) hl) (fun rp hq => mG rp oM) w_ (InL.see s_ hr.inl)) ?_)
  refine g4 ?_
  exact aD (.inl rfl) rfl (aA rfl) fun w_ s_ => ⟨rfl, s_.aHy⟩
theorem minutely_walk (r : Rul) (x : Av) (a : Int) (ha : 0 ≤ a ∧ a < 256) (w : World) (hr : RIn w r x) : Calls Tryz.prog 7 #[.agg (aZ r x).toArray, .int .u8 a] w fun e w' => e = .returned (.bool true) ∧ Below w.heap.size w w' := by
 refine aK (args := [.agg (aZ r x).toArray, .int .u8 a]) (L := [(0, .agg (aZ r x).toArray), (1, .int .u8 a)]) (N := 11) Tryz.func7 rfl rfl ble rfl (sS w) ?_
 refine g2 ?_
 refine gL (eK 50 (cs := aZ r x) dE rfl rfl rfl (fun o ho => rfl) ble (fun b1 hb1 => ?_))
 refine g6 ?_
 refine rl ((cZ 50 (cs := aZ r x) rfl rfl (d8 (aZ r x) 0 ble) ble kR)) ?_
 refine gL (cbx (fun b : Bool => .bool b) (fun b => b = true → LenL r) rfl (fun w_ s_ => mY r x w_) (fun zb hzb => ?_))
 refine g3 ?_
 refine aE rfl (fun hc1 => ?_) (fun hc2 => ?_)
 ·refine g7 ?_
  exact aD (.inl rfl) rfl (aA rfl) fun w_ s_ => ⟨rfl, s_.aHy⟩
 ·have hl : LenL r := hzb (by simpa using hc2)
  refine g4 ?_
  refine rl ((cZ 50 (cs := aZ r x) rfl rfl (d8 (aZ r x) 0 ble) ble kR)) ?_
  refine g1 ?_
  refine gL (cvo (v := .bool true) rfl (fun w_ s_ => oA r x hr.freq.1 hl (CapL.of hr) 5 a ha (dayF := dK (bN r)) (dayU := dK (bN (fZ r))) (fun rp hq => pI (r := fZ r) ⟨by show 2 ≤ r.freq; omega, rp.t1.freq.2⟩ (show r.yday.length = 0 ∧ r.weekno.length = 0 ∧ r.easter.length = 0 from gU rp oM) (kY hl)) (fun rp hq => pI ⟨by omega, rp.t1.freq.2⟩ (gU rp oM) hl) (fun rp hq => mG rp oM) w_ (InL.see s_ hr.inl)) ?_)
  refine g4 ?_
  exact aD (.inl rfl) rfl (aA rfl) fun w_ s_ => ⟨rfl, s_.aHy⟩
theorem secondly_walk (r : Rul) (x : Av) (a : Int) (ha : 0 ≤ a ∧ a < 256) (w : World) (hr : RIn w r x) : Calls Tryz.prog 8 #[.agg (aZ r x).toArray, .int .u8 a] w fun e w' => e = .returned (.bool true) ∧ Below w.heap.size w w' := by
 refine aK (args := [.agg (aZ r x).toArray, .int .u8 a]) (L := [(0, .agg (aZ r x).toArray), (1, .int .u8 a)]) (N := 11) Tryz.func8 rfl rfl ble rfl (sS w) ?_
 refine g2 ?_
 refine gL (eK 50 (cs := aZ r x) dE rfl rfl rfl (fun o ho => rfl) ble (fun b1 hb1 => ?_))
 refine g6 ?_
 refine rl ((cZ 50 (cs := aZ r x) rfl rfl (d8 (aZ r x) 0 ble) ble kR)) ?_
 refine gL (cbx (fun b : Bool => .bool b) (fun b => b = true → LenL r) rfl (fun w_ s_ => mY r x w_) (fun zb hzb => ?_))
 refine g3 ?_
 refine aE rfl (fun hc1 => ?_) (fun hc2 => ?_)
 ·refine g7 ?_
  exact aD (.inl rfl) rfl (aA rfl) fun w_ s_ => ⟨rfl, s_.aHy⟩
 ·have hl : LenL r := hzb (by simpa using hc2)
  refine g4 ?_
  refine rl ((cZ 50 (cs := aZ r x) rfl rfl (d8 (aZ r x) 0 ble) ble kR)) ?_
  refine g1 ?_
  refine gL (cvo (v := .bool true) rfl (fun w_ s_ => oA r x hr.freq.1 hl (CapL.of hr) 6 a ha (dayF := dK (bN r)) (dayU := dK (bN (fZ r))) (fun rp hq => pI (r := fZ r) ⟨by show 2 ≤ r.freq; omega, rp.t1.freq.2⟩ (show r.yday.length = 0 ∧ r.weekno.length = 0 ∧ r.easter.length = 0 from gU rp oM) (kY hl)) (fun rp hq => pI ⟨by omega, rp.t1.freq.2⟩ (gU rp oM) hl) (fun rp hq => mG rp oM) w_ (InL.see s_ hr.inl)) ?_)
  refine g4 ?_
  exact aD (.inl rfl) rfl (aA rfl) fun w_ s_ => ⟨rfl, s_.aHy⟩
end
end Go.Proofs.YtdbbifbmkfmbkaaGreat
