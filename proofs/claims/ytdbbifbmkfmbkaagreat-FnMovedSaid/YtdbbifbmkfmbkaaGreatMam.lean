import Derived.Test.YtdbbifbmkfmbkaaGreatMal
set_option linter.unusedVariables false
set_option linter.unusedSimpArgs false
set_option maxRecDepth 100000
set_option maxHeartbeats 8000000
namespace Go.Proofs.YtdbbifbmkfmbkaaGreat
open Go.Md Go.Tab Go.Fr
theorem m8 {r : Rul} {u dy : Int} (h : UD r u dy) (k : Int) : pAt (aY r) k = (r.start / u + k * r.interval) * u ∧ cG (aY r) k = (r.start / u + k * r.interval) / dy ∧ UN (aY r).freq = u ∧ dH r.freq = dy ∧ u * dy = 86400 ∧ 1 ≤ u := by
 obtain ⟨e1, e2, e3, _⟩ := dG r
 unfold cG pAt UN
 rw [e1, e2, e3]
 generalize k * r.interval = z
 rcases h with ⟨rfl, rfl, hf⟩ | ⟨rfl, rfl, hf⟩ | ⟨rfl, rfl, hf⟩ <;> rw [hf] <;> simp [dH] <;> omega
theorem aFg {r : Rul} (h : 4 ≤ r.freq ∧ r.freq ≤ 6) : ∃ u dy, UD r u dy := by
 rcases (show r.freq = 4 ∨ r.freq = 5 ∨ r.freq = 6 by omega) with h | h | h
 ·exact ⟨3600, 24, .inl ⟨rfl, rfl, h⟩⟩
 ·exact ⟨60, 1440, .inr (.inl ⟨rfl, rfl, h⟩)⟩
 ·exact ⟨1, 86400, .inr (.inr ⟨rfl, rfl, h⟩)⟩
def gM (q : Ru) (s : It) : List Int := if cV q s then Md.fill q s else []
theorem aAt {r : Rul} {wF : Int → List Int} {nF : Int → Int → List Int} {eF : Int → List Int} (rp : RightP r) {u dy : Int} (h : UD r u dy) {s : It} (h1 : 0 ≤ s.h ∧ s.h ≤ 23) (h2 : 0 ≤ s.mi ∧ s.mi ≤ 59) (h3 : 0 ≤ s.s ∧ s.s ≤ 59) (D : Int) :
  SI (gM (bE (aE r) wF nF eF) s) ∧ eI (aY r).hour (aY r).minute (aY r).second D (D * 86400 + cL r.freq s * u) u = (gM (bE (aE r) wF nF eF) s).map (D * 86400 + ·) := by
 obtain ⟨_, _, _, f4, f5, f6⟩ := qD r
 obtain ⟨_, p2, p3⟩ := nZ rp
 have hq : (bE (aE r) wF nF eF).freq = r.freq := rfl
 rw [f4, f5, f6]
 have hh : (bE (aE r) wF nF eF).hour = cM (aE r) := rfl
 have hm : (bE (aE r) wF nF eF).minute = bA (aE r) := rfl
 have hs : (bE (aE r) wF nF eF).second = bH (aE r) := rfl
 have key : ∀ T : List Int, SI T → gM (bE (aE r) wF nF eF) s = T → (∀ t, t ∈ T ↔ 0 ≤ t ∧ t < 86400 ∧ cL r.freq s * u ≤ t ∧ t < cL r.freq s * u + u ∧ aJ (cM (aE r)) (t / 3600) = true ∧ aJ (bA (aE r)) (t / 60 % 60) = true ∧ aJ (bH (aE r)) (t % 60) = true) →
   SI (gM (bE (aE r) wF nF eF) s) ∧ eI (cM (aE r)) (bA (aE r)) (bH (aE r)) D (D * 86400 + cL r.freq s * u) u = (gM (bE (aE r) wF nF eF) s).map (D * 86400 + ·) := by
  intro T hT e hmem
  rw [e]
  refine ⟨hT, yT hT fun t => (hmem t).trans ⟨?_, ?_⟩⟩
  ·rintro ⟨a1, a2, a3, a4, a5⟩; exact ⟨a1, a2, by omega, by omega, a5⟩
  ·rintro ⟨a1, a2, a3, a4, a5⟩; exact ⟨a1, a2, by omega, by omega, a5⟩
 rcases h with ⟨rfl, rfl, hf⟩ | ⟨rfl, rfl, hf⟩ | ⟨rfl, rfl, hf⟩
 ·have P2 : PartOk (bA (aE r)) 60 := p2 oM
  have P3 : PartOk (bH (aE r)) 60 := p3 oM
  have P1 : PartOk [s.h] 24 := PartOk.one ⟨h1.1, by omega⟩
  have hsl : cL r.freq s = s.h := by unfold cL; rw [if_pos hf]
  have hok : cV (bE (aE r) wF nF eF) s = aJ (cM (aE r)) s.h := by unfold cV; rw [hq, hf, hh]; simp
  have hfill : Md.fill (bE (aE r) wF nF eF) s = l5 [s.h] (bA (aE r)) (bH (aE r)) := by unfold Md.fill; rw [hq, if_pos hf, hm, hs]
  cases hb : aJ (cM (aE r)) s.h with
  | true =>
   refine key _ (oA P1 P2 P3) (by unfold gM; rw [hok, hb, if_pos rfl, hfill]) fun t => ?_
   rw [nK P1 P2 P3, P2.among, P3.among, hsl, List.mem_singleton]
   constructor
   ·rintro ⟨a1, a2, a3, a4, a5⟩; exact ⟨a1, a2, by omega, by omega, by rw [a3]; exact hb, a4, a5⟩
   ·rintro ⟨a1, a2, a3, a4, a5, a6, a7⟩; exact ⟨a1, a2, by omega, a6, a7⟩
  | false =>
   refine key [] (by simp [SI]) (by unfold gM; rw [hok, hb]; rfl) fun t => ⟨fun h => by simp at h, ?_⟩
   rintro ⟨a1, a2, a3, a4, a5, a6, a7⟩
   rw [hsl] at a3 a4
   rw [show t / 3600 = s.h by omega, hb] at a5; cases a5
 ·have P3 : PartOk (bH (aE r)) 60 := p3 oM
  have P1 : PartOk [s.h] 24 := PartOk.one ⟨h1.1, by omega⟩
  have P2 : PartOk [s.mi] 60 := PartOk.one ⟨h2.1, by omega⟩
  have hsl : cL r.freq s = s.h * 60 + s.mi := by unfold cL; rw [if_neg oM, if_pos hf]
  have hok : cV (bE (aE r) wF nF eF) s = (aJ (cM (aE r)) s.h && aJ (bA (aE r)) s.mi) := by unfold cV; rw [hq, hf, hh, hm]; simp
  have hfill : Md.fill (bE (aE r) wF nF eF) s = l5 [s.h] [s.mi] (bH (aE r)) := by unfold Md.fill; rw [hq, if_neg oM, if_pos hf, hs]
  cases hb : (aJ (cM (aE r)) s.h && aJ (bA (aE r)) s.mi) with
  | true =>
   obtain ⟨b1, b2⟩ := Bool.and_eq_true_iff.1 hb
   refine key _ (oA P1 P2 P3) (by unfold gM; rw [hok, hb, if_pos rfl, hfill]) fun t => ?_
   rw [nK P1 P2 P3, P3.among, hsl, List.mem_singleton, List.mem_singleton]
   constructor
   ·rintro ⟨a1, a2, a3, a4, a5⟩; exact ⟨a1, a2, by omega, by omega, by rw [a3]; exact b1, by rw [a4]; exact b2, a5⟩
   ·rintro ⟨a1, a2, a3, a4, a5, a6, a7⟩; exact ⟨a1, a2, by omega, by omega, a7⟩
  | false =>
   refine key [] (by simp [SI]) (by unfold gM; rw [hok, hb]; rfl) fun t => ⟨fun h => by simp at h, ?_⟩
   rintro ⟨a1, a2, a3, a4, a5, a6, a7⟩
   rw [hsl] at a3 a4
   rw [show t / 3600 = s.h by omega] at a5
   rw [show t / 60 % 60 = s.mi by omega] at a6
   rw [a5, a6] at hb; cases hb
 ·have hsl : cL r.freq s = s.h * 3600 + s.mi * 60 + s.s := by unfold cL; rw [if_neg oM, if_neg oM]
  have hok : cV (bE (aE r) wF nF eF) s = ((aJ (cM (aE r)) s.h && aJ (bA (aE r)) s.mi) && aJ (bH (aE r)) s.s) := by unfold cV; rw [hq, hf, hh, hm, hs]; simp
  have hfill : Md.fill (bE (aE r) wF nF eF) s = [s.h * 3600 + s.mi * 60 + s.s] := by unfold Md.fill; rw [hq, if_neg oM, if_neg oM]
  cases hb : ((aJ (cM (aE r)) s.h && aJ (bA (aE r)) s.mi) && aJ (bH (aE r)) s.s) with
  | true =>
   obtain ⟨b1, b3⟩ := Bool.and_eq_true_iff.1 hb
   obtain ⟨b1, b2⟩ := Bool.and_eq_true_iff.1 b1
   refine key [s.h * 3600 + s.mi * 60 + s.s] (by simp [SI]) (by unfold gM; rw [hok, hb, if_pos rfl, hfill]) fun t => ?_
   rw [hsl, List.mem_singleton]
   constructor
   ·intro e; exact ⟨by omega, by omega, by omega, by omega, by rw [show t / 3600 = s.h by omega]; exact b1, by rw [show t / 60 % 60 = s.mi by omega]; exact b2, by rw [show t % 60 = s.s by omega]; exact b3⟩
   ·rintro ⟨a1, a2, a3, a4, _⟩; omega
  | false =>
   refine key [] (by simp [SI]) (by unfold gM; rw [hok, hb]; rfl) fun t => ⟨fun h => by simp at h, ?_⟩
   rintro ⟨a1, a2, a3, a4, a5, a6, a7⟩
   rw [hsl] at a3 a4
   rw [show t / 3600 = s.h by omega] at a5
   rw [show t / 60 % 60 = s.mi by omega] at a6
   rw [show t % 60 = s.s by omega] at a7
   rw [a5, a6, a7] at hb; cases hb
theorem tV {u dy a : Int} (hu : u * dy = 86400) (h1 : 1 ≤ u) : a * u = a / dy * 86400 + a % dy * u := by
 have h := Int.mul_ediv_add_emod a dy
 conv => lhs; rw [← h]
 rw [Int.add_mul, ← hu, Int.mul_comm dy (a / dy), Int.mul_assoc, Int.mul_comm dy u]
def R46 (r : Rul) (q : Ru) (k : Int) (s : It) : Prop := ∃ u dy, UD r u dy ∧ Cal.dayNo s.y s.mo s.d = (r.start / u + k * r.interval) / dy ∧ cL r.freq s = (r.start / u + k * r.interval) % dy ∧ s.ts = gM q s
theorem aF1 {r : Rul} {wF : Int → List Int} {nF : Int → Int → List Int} {eF : Int → List Int} (rp : RightP r) {u dy : Int} (h : UD r u dy) (dayF : Int → Bool) {s : It} (h2 : 0 ≤ s.mi ∧ s.mi ≤ 59) (h3 : 0 ≤ s.s ∧ s.s ≤ 59) {j : Int}
  (hno : cV (bE (aE r) wF nF eF) (bU r.freq s ((r.start / u + j * r.interval) % dy)) = false) : cT (aY r) dayF j = [] := by
 obtain ⟨e1, e2, e3, _⟩ := dG r
 obtain ⟨p1, p2, p3, p4, p5, p6⟩ := m8 h j
 have hf : 4 ≤ r.freq ∧ r.freq ≤ 6 := by rcases h with ⟨_, _, h⟩ | ⟨_, _, h⟩ | ⟨_, _, h⟩ <;> omega
 have hdy : 24 ≤ dy := by rcases h with ⟨_, h, _⟩ | ⟨_, h, _⟩ | ⟨_, h, _⟩ <;> omega
 have ht : 0 ≤ (r.start / u + j * r.interval) % dy ∧ (r.start / u + j * r.interval) % dy < dH r.freq := ⟨Int.emod_nonneg _ oM, by rw [p4]; exact Int.emod_lt_of_pos _ oM⟩
 have hb := aD9 hf ht h2 h3
 unfold cT
 rw [if_pos (by rw [e2]; omega), p1, p2, p3, tV p5 p6]
 have hc := (aAt (wF := wF) (nF := nF) (eF := eF) rp h hb.1 hb.2.1 hb.2.2 ((r.start / u + j * r.interval) / dy)).2
 rw [(zL hf (s := s) ht).1] at hc
 rw [hc]
 unfold gM
 rw [hno]
 simp
theorem aJo {r : Rul} {wF : Int → List Int} {nF : Int → Int → List Int} {eF : Int → List Int} (rp : RightP r) (hf : 4 ≤ r.freq ∧ r.freq ≤ 6) (hw : ∀ y m, nF y m = []) {s : It} (hi : ItOk (bE (aE r) wF nF eF) s) :
  aW (bE (aE r) wF nF eF) s = (Cal.ydayOf (Cal.dayNo s.y s.mo s.d), Cal.ydayOf (Cal.dayNo s.y s.mo s.d) + 1) ∧ (bad (bE (aE r) wF nF eF) s (Cal.ydayOf (Cal.dayNo s.y s.mo s.d) + ((0 : Nat) : Int)) = !cI (aY r) (Cal.dayNo s.y s.mo s.d)) ∧ (cP (bE (aE r) wF nF eF) s = true → cI (aY r) (Cal.dayNo s.y s.mo s.d) = false) := by
 have hfr : (bE (aE r) wF nF eF).freq = r.freq := rfl
 have hnw : s.nwm = [] := by rw [hi.nwm]; exact hw _ _
 obtain ⟨d1, d2, d3, _⟩ := pZ hi.mo ⟨hi.d.1, hi.day (by rw [hfr]; omega)⟩
 have db := n6 hi.mo ⟨hi.d.1, hi.day (by rw [hfr]; omega)⟩
 have ds := Cal.split_spec (Cal.dayNo s.y s.mo s.d)
 rw [d2] at ds
 have hlp := Cal.lp_01 s.ly
 have hlpe : Cal.lp s.ly = Cal.lp s.y := by rw [hi.ly]
 have hdy : Cal.daysTo s.ly = Cal.daysTo s.y := by rw [hi.ly]
 have hsn : aW (bE (aE r) wF nF eF) s = (Cal.ydayOf (Cal.dayNo s.y s.mo s.d), Cal.ydayOf (Cal.dayNo s.y s.mo s.d) + 1) := by
  unfold aW
  rw [hfr, if_neg oM, if_neg oM]
  simp only
  rw [if_neg oM]
 have hb := aIc (wF := wF) (nF := nF) (eF := eF) (s := s) rp oM hnw (i := Cal.ydayOf (Cal.dayNo s.y s.mo s.d) + ((0 : Nat) : Int)) oM oM
 rw [show Cal.daysTo s.ly + (Cal.ydayOf (Cal.dayNo s.y s.mo s.d) + ((0 : Nat) : Int)) = Cal.dayNo s.y s.mo s.d by omega] at hb
 refine ⟨hsn, hb, fun h => ?_⟩
 unfold cP at h
 rw [hsn] at h
 simp only at h
 rw [show (Cal.ydayOf (Cal.dayNo s.y s.mo s.d) + 1 - Cal.ydayOf (Cal.dayNo s.y s.mo s.d)).toNat = 1 by omega] at h
 simp only [List.range_succ, List.range_zero, List.nil_append, List.any_cons, List.any_nil, Bool.or_false] at h
 rw [hb] at h
 cases hx : cI (aY r) (Cal.dayNo s.y s.mo s.d) with
 | false => rfl
 | true => rw [hx] at h; cases h
theorem aIk {r : Rul} {wF : Int → List Int} {nF : Int → Int → List Int} {eF : Int → List Int} (rp : RightP r) (hf : 4 ≤ r.freq ∧ r.freq ≤ 6) (hw : ∀ y m, nF y m = []) : Fits (bE (aE r) wF nF eF) (aY r) (cI (aY r)) (R46 r (bE (aE r) wF nF eF)) where
 over := fun k _ h => uG (by rw [(dG r).2.1]; omega) (by rw [(dG r).2.2.1]; exact rp.t1.interval.1) k h
 same := fun k s s' h hs => by
  obtain ⟨u, dy, h1, h2, h3, h4⟩ := h
  refine ⟨u, dy, h1, by rw [hs.y, hs.mo, hs.d]; exact h2, by rw [pR hs.h hs.mi hs.s]; exact h3, ?_⟩
  rw [hs.ts, h4]
  unfold gM
  rw [qF hs.h hs.mi hs.s, pK hs.h hs.mi hs.s]
 pos := fun k s h0 hR hi ho => by
  obtain ⟨u, dy, hu, hday, hslot, hts⟩ := hR
  obtain ⟨e1, e2, e3, e4, e5, e6, _⟩ := dG r
  obtain ⟨p1, p2, p3, p4, p5, p6⟩ := m8 hu k
  have hfr : (bE (aE r) wF nF eF).freq = r.freq := rfl
  have hsp : (bE (aE r) wF nF eF).setpos = r.setpos := rfl
  obtain ⟨c1, c2⟩ := aAt (wF := wF) (nF := nF) (eF := eF) rp hu hi.hr hi.mn hi.sec (Cal.dayNo s.y s.mo s.d)
  have hSI : SI s.ts := by rw [hts]; exact c1
  have hnw : s.nwm = [] := by rw [hi.nwm]; exact hw _ _
  obtain ⟨d1, d2, d3, _⟩ := pZ hi.mo ⟨hi.d.1, hi.day (by rw [hfr]; omega)⟩
  have db := n6 hi.mo ⟨hi.d.1, hi.day (by rw [hfr]; omega)⟩
  have ds := Cal.split_spec (Cal.dayNo s.y s.mo s.d)
  rw [d2] at ds
  have hlp := Cal.lp_01 s.ly
  have hlpe : Cal.lp s.ly = Cal.lp s.y := by rw [hi.ly]
  have hdy : Cal.daysTo s.ly = Cal.daysTo s.y := by rw [hi.ly]
  have hout := x8 (r := bE (aE r) wF nF eF) hSI hi.ts (wC rp.t3.h9)
  refine ⟨[], dF (gS (bE (aE r) wF nF eF) s) r.setpos, ?_, fun t ht => by simp at ht, by rw [hout, hsp]⟩
  rw [List.nil_append, e6]
  congr 1
  have hsn : aW (bE (aE r) wF nF eF) s = (Cal.ydayOf (Cal.dayNo s.y s.mo s.d), Cal.ydayOf (Cal.dayNo s.y s.mo s.d) + 1) := by
   unfold aW
   rw [hfr, if_neg oM, if_neg oM]
   simp only
   rw [if_neg oM]
  have hD : Cal.daysTo s.ly + Cal.ydayOf (Cal.dayNo s.y s.mo s.d) = Cal.dayNo s.y s.mo s.d := by omega
  have hfl : gS (bE (aE r) wF nF eF) s = if cI (aY r) (Cal.dayNo s.y s.mo s.d) = true then s.ts.map (Cal.dayNo s.y s.mo s.d * 86400 + ·) else [] := by
   rw [nV, hsn]
   simp only
   rw [show (Cal.ydayOf (Cal.dayNo s.y s.mo s.d) + 1 - Cal.ydayOf (Cal.dayNo s.y s.mo s.d)).toNat = 1 by omega]
   have hb := aIc (wF := wF) (nF := nF) (eF := eF) (s := s) rp oM hnw (i := Cal.ydayOf (Cal.dayNo s.y s.mo s.d) + ((0 : Nat) : Int)) oM oM
   simp only [List.range_succ, List.range_zero, List.nil_append, List.flatMap_cons, List.flatMap_nil, List.append_nil]
   rw [hb, show Cal.daysTo s.ly + (Cal.ydayOf (Cal.dayNo s.y s.mo s.d) + ((0 : Nat) : Int)) = Cal.dayNo s.y s.mo s.d by omega]
   unfold m7
   rw [show Cal.daysTo s.ly + (Cal.ydayOf (Cal.dayNo s.y s.mo s.d) + ((0 : Nat) : Int)) = Cal.dayNo s.y s.mo s.d by omega]
   cases cI (aY r) (Cal.dayNo s.y s.mo s.d) <;> rfl
  rw [hfl]
  unfold cT
  rw [if_pos (by rw [e2]; omega), p1, p2, p3, tV p5 p6, ← hday, ← hslot, c2, ← hts]
 adv := fun k s h0 hR hi ho hfin => by
  obtain ⟨u, dy, hu, hday, hslot, hts⟩ := hR
  obtain ⟨e1, e2, e3, e4, e5, e6, _⟩ := dG r
  have hfr : (bE (aE r) wF nF eF).freq = r.freq := rfl
  have hir : (bE (aE r) wF nF eF).interval = r.interval := rfl
  have hiv := rp.t1.interval
  obtain ⟨n, K, hn⟩ := aE6 (b := cP (bE (aE r) wF nF eF) s) (by rw [hfr]; exact hf) hi
  have hsl : dH r.freq = dy := (m8 hu k).2.2.2.1
  have hdy : 24 ≤ dy ∧ dy ≤ 86400 := by rcases hu with ⟨_, h, _⟩ | ⟨_, h, _⟩ | ⟨_, h, _⟩ <;> omega
  have hsb := xI hf hi.hr hi.mn hi.sec
  rw [hsl] at hsb
  have hj0 : 0 ≤ gQ (bE (aE r) wF nF eF) (cP (bE (aE r) wF nF eF) s) s := by
   unfold gQ
   rw [hfr, hir, hsl]
   split
   ·exact Int.ediv_nonneg oM oM
   ·omega
  have hjb : cP (bE (aE r) wF nF eF) s = false → gQ (bE (aE r) wF nF eF) (cP (bE (aE r) wF nF eF) s) s = 0 := fun h => by unfold gQ; rw [h]; rfl
  have hjm : cL r.freq s + gQ (bE (aE r) wF nF eF) (cP (bE (aE r) wF nF eF) s) s * r.interval ≤ dy - 1 := by
   unfold gQ
   rw [hfr, hir, hsl]
   split
   ·have := (sT (m := dy - 1 - cL r.freq s) (n := r.interval) oM oM).2; omega
   ·omega
  have n1 : ∀ j : Nat, 1 ≤ j → j < K → cV (bE (aE r) wF nF eF) (bU r.freq s ((cL r.freq s + (gQ (bE (aE r) wF nF eF) (cP (bE (aE r) wF nF eF) s) s + j) * r.interval) % dy)) = false := by rw [← hsl]; exact hn.no
  have n2 : n.d = s.d + (cL r.freq s + (gQ (bE (aE r) wF nF eF) (cP (bE (aE r) wF nF eF) s) s + K) * r.interval) / dy := by rw [← hsl]; exact hn.d
  have n3 : cL r.freq n = (cL r.freq s + (gQ (bE (aE r) wF nF eF) (cP (bE (aE r) wF nF eF) s) s + K) * r.interval) % dy := by rw [← hsl]; exact hn.slot
  have n4 := hn.hk.1
  generalize gQ (bE (aE r) wF nF eF) (cP (bE (aE r) wF nF eF) s) s = m at n1 n2 n3 hj0 hjb hjm
  have hz : ∀ z : Int, (r.start / u + (k + z) * r.interval) / dy = Cal.dayNo s.y s.mo s.d + (cL r.freq s + z * r.interval) / dy ∧ (r.start / u + (k + z) * r.interval) % dy = (cL r.freq s + z * r.interval) % dy := by
   intro z
   have e : r.start / u + (k + z) * r.interval = (cL r.freq s + z * r.interval) + dy * Cal.dayNo s.y s.mo s.d := by
    have h := Int.mul_ediv_add_emod (r.start / u + k * r.interval) dy
    rw [← hday, ← hslot] at h
    rw [Int.add_mul]
    omega
   rw [e, Int.add_mul_ediv_left _ _ oM, Int.add_mul_emod_self_left]
   exact ⟨by omega, rfl⟩
  refine ⟨k + (m + K), by omega, fun j h1 h2 => ?_, ?_⟩
  ·obtain ⟨z, rfl⟩ : ∃ z, j = k + z := ⟨j - k, by omega⟩
   by_cases hzm : z ≤ m
   ·have hflt : cP (bE (aE r) wF nF eF) s = true := by
     cases h : cP (bE (aE r) wF nF eF) s with
     | true => rfl
     | false => have := hjb h; omega
    have hbad := (aJo rp hf hw hi).2.2 hflt
    have hmul := Int.mul_le_mul_of_nonneg_right hzm (show 0 ≤ r.interval by omega)
    have hmul0 := Int.mul_nonneg (show 0 ≤ z by omega) (show 0 ≤ r.interval by omega)
    unfold cT
    rw [if_pos (by rw [e2]; omega), (m8 hu (k + z)).2.1, (hz z).1, Int.ediv_eq_zero_of_lt oM oM, Int.add_zero, hbad]
    rfl
   ·refine aF1 (wF := wF) (nF := nF) (eF := eF) rp hu _ (s := s) hi.mn hi.sec ?_
    rw [(hz z).2]
    have h := n1 (z - m).toNat oM oM
    rw [show m + (((z - m).toNat : Nat) : Int) = z by omega] at h
    exact h
  ·have hpf : cG (aY r) (k + (m + K)) = Cal.dayNo s.y s.mo s.d + (cL r.freq s + (m + K) * r.interval) / dy := by rw [(m8 hu _).2.1, (hz _).1]
   rw [hn.adv]
   have hmo := hi.mo
   have hy := hi.y
   have hd := hi.d
   have hnd : 1 ≤ n.d := by
    rw [n2]
    have h1 := Int.mul_nonneg (show 0 ≤ m + (K : Int) by omega) (show 0 ≤ r.interval by omega)
    have := Int.ediv_nonneg (show 0 ≤ cL r.freq s + (m + (K : Int)) * r.interval by omega) (show 0 ≤ dy by omega)
    omega
   obtain ⟨c1, c2⟩ := aCk (r := bE (aE r) wF nF eF) (s := n) hnd (by rw [hn.mo]; exact hmo) (by rw [hn.y]; exact hy) (by rw [hn.fin]; exact hfin)
   have hrest := zS (r := bE (aE r) wF nF eF) n
   have hdn : Cal.dayNo n.y n.mo n.d = cG (aY r) (k + (m + K)) := by
    rw [hn.y, hn.mo, n2, hpf, jA hmo, jA hmo]; omega
   rw [hdn] at c1 c2
   refine ⟨fun h => ?_, fun h => (s5 oM _).2 (c2 h)⟩
   have c3 := c1 h
   obtain ⟨g1, g2, g3, _⟩ := xQ (r := bE (aE r) wF nF eF) (s := n) hnd (by rw [hn.mo]; exact hmo) (by rw [hn.y]; exact hy) (by rw [hn.ly, hn.y]; exact hi.ly) ⟨by rw [hn.wno, hn.ly]; exact hi.wno, by rw [hn.nwm, hn.ly, hn.lm]; exact hi.nwm, by rw [hn.eas, hn.ly]; exact hi.eas⟩ h
   have gl := uN g3 g2 g1
   rw [c3] at gl
   refine ⟨⟨u, dy, hu, by rw [c3, (m8 hu _).2.1], by rw [pR hrest.h hrest.mi hrest.sec, n3, (hz _).2], ?_⟩, fun hov => ?_⟩
   ·unfold gM
    rw [hrest.ts, hn.ts, qF hrest.h hrest.mi hrest.sec, hn.ok, if_pos rfl, pK hrest.h hrest.mi hrest.sec]
   ·have := (s5 (r := r) oM _).1 hov
    omega
theorem aHu (a : Nat) : ∀ b : Nat, ∃ x y : Int, ((Nat.gcd a b : Nat) : Int) = a * x + b * y := by
 induction a using Nat.strongRecOn with
 | _ a ih =>
  intro b
  rcases Nat.eq_zero_or_pos a with h | h
  ·subst h
   exact ⟨0, 1, by rw [Nat.gcd_zero_left]; simp⟩
  ·obtain ⟨x, y, e⟩ := ih (b % a) (Nat.mod_lt _ h) a
   refine ⟨y - (b / a : Nat) * x, x, ?_⟩
   rw [Nat.gcd_rec, e]
   have h2 : ((b % a : Nat) : Int) = b - a * (b / a : Nat) := by
    have := Nat.div_add_mod b a
    have h3 : ((a * (b / a) + b % a : Nat) : Int) = b := by rw [this]
    rw [Int.natCast_add, Int.natCast_mul] at h3
    omega
   rw [h2, Int.sub_mul, Int.mul_sub, Int.mul_assoc]
   omega
theorem nC {r : Rul} (h : 4 ≤ r.freq) (x : Int) : aJ (cM (aE r)) x = aJ r.hour x := by
 unfold cM
 split
 ·rename_i h0
  rw [if_neg (by show ¬ r.freq < 4; omega), fH (show r.hour.length = 0 from h0)]; rfl
 ·rfl
theorem o4 {r : Rul} (h : 5 ≤ r.freq) (x : Int) : aJ (bA (aE r)) x = aJ r.minute x := by
 unfold bA
 split
 ·rename_i h0
  rw [if_neg (by show ¬ r.freq < 5; omega), fH (show r.minute.length = 0 from h0)]; rfl
 ·rfl
theorem u4 {r : Rul} (h : 6 ≤ r.freq) (x : Int) : aJ (bH (aE r)) x = aJ r.second x := by
 unfold bH
 split
 ·rename_i h0
  rw [if_neg (by show ¬ r.freq < 6; omega), fH (show r.second.length = 0 from h0)]; rfl
 ·rfl
theorem aFe {r : Rul} {wF : Int → List Int} {nF : Int → Int → List Int} {eF : Int → List Int} (rp : RightP r) (hf : 4 ≤ r.freq ∧ r.freq ≤ 6) (ts : List Int) :
  ∀ b, ∃ K, iL (bE (aE r) wF nF eF) b (it1 (aE r) (bE (aE r) wF nF eF) ts) = some K ∧ (K : Int) ≤ dH r.freq := by
 obtain ⟨u, dy, at_, hu, h0, h1, h2, h3, h4, h5⟩ := rp.t8 hf.1
 have hiv := rp.t1.interval
 have hsl : dH r.freq = dy := (m8 hu 0).2.2.2.1
 have hdy : 24 ≤ dy := by rcases hu with ⟨_, h, _⟩ | ⟨_, h, _⟩ | ⟨_, h, _⟩ <;> omega
 have hso : cL r.freq (it1 (aE r) (bE (aE r) wF nF eF) ts) = r.start % 86400 / u := by
  show (if r.freq = 4 then r.start % 86400 / 3600 else if r.freq = 5 then r.start % 86400 / 3600 * 60 + r.start % 86400 / 60 % 60 else r.start % 86400 / 3600 * 3600 + r.start % 86400 / 60 % 60 * 60 + r.start % 86400 % 60) = _
  rcases hu with ⟨rfl, _, h⟩ | ⟨rfl, _, h⟩ | ⟨rfl, _, h⟩
  ·rw [if_pos h]
  ·rw [if_neg oM, if_pos h]; omega
  ·rw [if_neg oM, if_neg oM]; omega
 have hg := Int.emod_emod_of_dvd
 obtain ⟨x, y, hb⟩ := aHu r.interval.toNat dy.toNat
 rw [show ((r.interval.toNat : Nat) : Int) = r.interval by omega, show ((dy.toNat : Nat) : Int) = dy by omega] at hb
 have hk : ∃ k0 : Int, (r.start % 86400 / u + k0 * r.interval) % dy = at_ := by
  have e1 := Int.mul_ediv_add_emod at_ (Nat.gcd r.interval.toNat dy.toNat : Nat)
  have e2 := Int.mul_ediv_add_emod (r.start % 86400 / u) (Nat.gcd r.interval.toNat dy.toNat : Nat)
  rw [h2] at e1
  generalize (r.start % 86400 / u) / ((Nat.gcd r.interval.toNat dy.toNat : Nat) : Int) = c2 at e2
  generalize at_ / ((Nat.gcd r.interval.toNat dy.toNat : Nat) : Int) = c1 at e1
  generalize ((Nat.gcd r.interval.toNat dy.toNat : Nat) : Int) = g at e1 e2 hb
  refine ⟨x * (c1 - c2), ?_⟩
  have e3 : r.start % 86400 / u + x * (c1 - c2) * r.interval = at_ + dy * (-(y * (c1 - c2))) := by
   have e4 : g * (c1 - c2) = r.interval * x * (c1 - c2) + dy * y * (c1 - c2) := by rw [hb, Int.add_mul]
   rw [Int.mul_sub] at e4
   rw [Int.mul_neg, ← Int.mul_assoc, show x * (c1 - c2) * r.interval = r.interval * x * (c1 - c2) by rw [Int.mul_comm (x * (c1 - c2)), Int.mul_assoc]]
   omega
  rw [e3, Int.add_mul_emod_self_left, Int.emod_eq_of_lt h0 h1]
 obtain ⟨k0, hk⟩ := hk
 refine aB6 (r := bE (aE r) wF nF eF) (s := it1 (aE r) (bE (aE r) wF nF eF) ts) hf (k0 := k0) ?_
 show cV (bE (aE r) wF nF eF) (bU r.freq _ ((cL r.freq (it1 (aE r) (bE (aE r) wF nF eF) ts) + k0 * r.interval) % dH r.freq)) = true
 rw [hso, hsl, hk]
 have hh : (bE (aE r) wF nF eF).hour = cM (aE r) := rfl
 have hm : (bE (aE r) wF nF eF).minute = bA (aE r) := rfl
 have hs : (bE (aE r) wF nF eF).second = bH (aE r) := rfl
 rcases hu with ⟨rfl, rfl, h⟩ | ⟨rfl, rfl, h⟩ | ⟨rfl, rfl, h⟩
 ·have e := ok4 (r := bE (aE r) wF nF eF) (s := it1 (aE r) (bE (aE r) wF nF eF) ts) (t := at_) h
  refine e.trans ?_
  rw [hh, nC hf.1, show at_ = at_ * 3600 / 3600 by omega]; exact h3
 ·have e := ok5 (r := bE (aE r) wF nF eF) (s := it1 (aE r) (bE (aE r) wF nF eF) ts) (t := at_) h
  refine e.trans ?_
  rw [hh, hm, nC hf.1, o4 oM, show at_ / 60 = at_ * 60 / 3600 by omega, show at_ % 60 = at_ * 60 / 60 % 60 by omega, h3, h4 oM]; rfl
 ·have e := ok6 (r := bE (aE r) wF nF eF) (s := it1 (aE r) (bE (aE r) wF nF eF) ts) (t := at_) h
  refine e.trans ?_
  rw [hh, hm, hs, nC hf.1, o4 oM, u4 oM]
  rw [Int.mul_one] at h3 h4 h5
  rw [h3, h4 oM, h5 h]; rfl
theorem aDu {r : Rul} (rp : RightP r) (hf : 4 ≤ r.freq ∧ r.freq ≤ 6) {s : It} (h1 : 0 ≤ s.h ∧ s.h ≤ 23) (h2 : 0 ≤ s.mi ∧ s.mi ≤ 59) (h3 : 0 ≤ s.s ∧ s.s ≤ 59) : (gM (bE (aE r) wO nO wO) s).length ≤ 100000 ∧ ∀ t ∈ gM (bE (aE r) wO nO wO) s, 0 ≤ t ∧ t < 86400 := by
 obtain ⟨u, dy, hu⟩ := aFg hf
 obtain ⟨c1, c2⟩ := aAt (wF := wO) (nF := nO) (eF := wO) rp hu h1 h2 h3 0
 have hb : ∀ t ∈ gM (bE (aE r) wO nO wO) s, 0 ≤ t ∧ t < 86400 := by
  intro t ht
  have h : 0 * 86400 + t ∈ eI (aY r).hour (aY r).minute (aY r).second 0 (0 * 86400 + cL r.freq s * u) u := by rw [c2]; exact List.mem_map.2 ⟨t, ht, rfl⟩
  have := (kZ.1 h)
  omega
 exact ⟨by have := wQ c1 hb oM; omega, hb⟩
theorem aGy {r : Rul} (rp : RightP r) (hf : 4 ≤ r.freq ∧ r.freq ≤ 6) : ¬eE (aY r) 0 := fun h => by
 have h := (s5 oM _).1 h
 have hs := rp.t1.start
 have h9 : Cal.daysTo 9000 = 3286817 := by decide
 obtain ⟨u, dy, hu⟩ := aFg hf
 rw [(m8 hu 0).2.1, Int.zero_mul, Int.add_zero] at h
 rcases hu with ⟨rfl, rfl, _⟩ | ⟨rfl, rfl, _⟩ | ⟨rfl, rfl, _⟩ <;> omega
theorem zM {r : Rul} (rp : RightP r) (hf : 4 ≤ r.freq ∧ r.freq ≤ 6) : pX r (cI (aY r)) := by
 intro most hm l h x w hin
 have hr := qS rp oM
 obtain ⟨hy, hw, he⟩ := kY rp oM
 have hnw : (bE (aE r) wO nO wO).nwd.length = 0 := sJ (by show 2 ≤ r.freq; omega) wO nO wO
 obtain ⟨_, _, _, _, h5, h6⟩ := qY rp
 have hlm : (bE (aE r) wO nO wO).minute.length ≤ 100 := h5
 have hls : (bE (aE r) wO nO wO).second.length ≤ 100 := h6
 have hpres : vF (bE (aE r) wO nO wO) := aA2 hr hf hlm hls
 have hs := rp.t1.start
 have h9 : Cal.daysTo 9000 = 3286817 := by decide
 have hit := aAe (jH rp) (show 4 ≤ r.freq ∧ r.freq ≤ 6 from hf) hw hnw he (fun _ => rfl) (fun _ _ => rfl) (fun _ => rfl) (qZ rp wO nO wO) (show (aE r).d < 315537897600 by show r.start < _; omega) hr hlm hls
 have hb1 : 0 ≤ r.start % 86400 / 3600 ∧ r.start % 86400 / 3600 ≤ 23 := by omega
 have hb2 : 0 ≤ r.start % 86400 / 60 % 60 ∧ r.start % 86400 / 60 % 60 ≤ 59 := by omega
 have hb3 : 0 ≤ r.start % 86400 % 60 ∧ r.start % 86400 % 60 ≤ 59 := by omega
 have hit : zW (aE r) (bE (aE r) wO nO wO) (it1 (aE r) (bE (aE r) wO nO wO) (gM (bE (aE r) wO nO wO) (it1 (aE r) (bE (aE r) wO nO wO) []))) := hit
 have hR : R46 r (bE (aE r) wO nO wO) 0 (it1 (aE r) (bE (aE r) wO nO wO) (gM (bE (aE r) wO nO wO) (it1 (aE r) (bE (aE r) wO nO wO) []))) := by
  obtain ⟨u, dy, hu⟩ := aFg hf
  refine ⟨u, dy, hu, ?_, ?_, rfl⟩
  ·rw [Int.zero_mul, Int.add_zero]
   refine (pB (r.start / 86400)).trans ?_
   rcases hu with ⟨rfl, rfl, _⟩ | ⟨rfl, rfl, _⟩ | ⟨rfl, rfl, _⟩ <;> omega
  ·rw [Int.zero_mul, Int.add_zero]
   show (if r.freq = 4 then r.start % 86400 / 3600 else if r.freq = 5 then r.start % 86400 / 3600 * 60 + r.start % 86400 / 60 % 60 else r.start % 86400 / 3600 * 3600 + r.start % 86400 / 60 % 60 * 60 + r.start % 86400 % 60) = _
   rcases hu with ⟨rfl, rfl, h⟩ | ⟨rfl, rfl, h⟩ | ⟨rfl, rfl, h⟩
   ·rw [if_pos h]; omega
   ·rw [if_neg oM, if_pos h]; omega
   ·rw [if_neg oM, if_neg oM]; omega
 obtain ⟨N, hT⟩ := qW rp (aIk rp hf fun _ _ => rfl) hpres (aAh rp (aDu rp hf hb1 hb2 hb3) (fun _ => aFe rp hf _)) hR (aGy rp hf) hm h
 exact nP (jH rp) hit (tX rp) (sY rp) (fun F w0 => tP (wB rp) F w0) hr
  ⟨(kV rp).1, (kV rp).2, aDo hr hf hw hnw he hlm hls⟩ hpres hm hT w hin
end Go.Proofs.YtdbbifbmkfmbkaaGreat
namespace Go.Proofs.YtdbbifbmkfmbkaaGreat
open Go.Md Go.Tab Go.Fr
theorem o8 {c st en most : Int} : ∀ (l o : List Int), o.length ≤ (bW c st en most o l).1.length
 | [], o => Nat.le_refl _
 | t :: l, o => by
  rw [dP]
  split
  ·exact o8 l o
  ·split
   ·exact Nat.le_refl _
   ·have := o8 (c := c) (st := st) (en := en) (most := most) l (o ++ [t])
    rw [List.length_append] at this
    omega
theorem jY {c st en en' m M : Int} (hm : m ≤ M) : ∀ (l o : List Int), (o.length : Int) ≤ m → (bW c st en' m o l).2 = true →
  (bW c st en M o l).1.length ≤ (bW c st en' m o l).1.length ∧ ((bW c st en M o l).2 = true → (bW c st en M o l).1 = (bW c st en' m o l).1) ∧ ((bW c st en' m o l).1.length : Int) ≤ m
 | [], o, h0, _ => ⟨Nat.le_refl _, fun _ => rfl, h0⟩
 | t :: l, o, h0, h => by
  rw [dP] at h ⊢
  rw [dP (en := en') (most := m)]
  split at h
  ·rename_i h1
   rw [if_pos h1, if_pos h1]
   exact jY hm l o h0 h
  ·rename_i h1
   split at h
   ·cases h
   ·rename_i h2
    rw [if_neg h1, if_neg h1, if_neg h2]
    have h3 : ((o ++ [t]).length : Int) ≤ m := by rw [List.length_append, List.length_singleton]; omega
    by_cases h4 : (o.length : Int) = M ∨ (0 < c ∧ (o.length : Int) = c) ∨ en < t
    ·rw [if_pos h4]
     obtain ⟨_, _, h7⟩ := jY hm (en := en) l (o ++ [t]) h3 h
     have h6 := o8 (c := c) (st := st) (en := en') (most := m) l (o ++ [t])
     rw [List.length_append] at h6
     exact ⟨sO, fun h => (by cases h), h7⟩
    ·rw [if_neg h4]
     exact jY hm l (o ++ [t]) h3 h
theorem aCv {q : Rul} {dayF : Int → Bool} {en en' m M : Int} (hm : m < M) {k : Int} {o l : List Int} (h : DatesP q dayF en M k o l) : (o.length : Int) ≤ m → ((l.length : Int) = M ∨ (0 < q.count ∧ (l.length : Int) = q.count)) → ∃ l', DatesP q dayF en' m k o l' := by
 induction h with
 | over h => exact fun _ _ => ⟨_, .over h⟩
 | @stop k o h hs =>
  intro h0 hl
  cases hb : (cX q q.start en' m o (cT q dayF k)).2 with
  | false => exact ⟨_, .stop h hb⟩
  | true =>
   unfold cX at hb hl
   simp only [Bool.and_eq_true] at hb hl
   obtain ⟨c1, c2, c3⟩ := jY (c := q.count) (st := q.start) (en := en) (Int.le_of_lt hm) _ o h0 hb.1
   have hk := hb.2
   unfold iD at hk
   simp only [Bool.and_eq_true, Bool.or_eq_true, decide_eq_true_eq, beq_iff_eq] at hk
   omega
 | @more k o l h hs hn ih =>
  intro h0 hl
  cases hb : (cX q q.start en' m o (cT q dayF k)).2 with
  | false => exact ⟨_, .stop h hb⟩
  | true =>
   have hb2 := hb
   have hs2 := hs
   unfold cX at hb2 hs2
   simp only [Bool.and_eq_true] at hb2 hs2
   obtain ⟨c1, c2, c3⟩ := jY (c := q.count) (st := q.start) (en := en) (Int.le_of_lt hm) _ o h0 hb2.1
   have e : (cX q q.start en M o (cT q dayF k)).1 = (cX q q.start en' m o (cT q dayF k)).1 := c2 hs2.1
   rw [e] at ih
   obtain ⟨l', hl'⟩ := ih c3 hl
   exact ⟨l', .more h hb hl'⟩
theorem xH (r : Rul) : aY (bI r) = bI (aY r) := by
 have h4 : ∀ r, gB (bI r) = bI (gB r) := fun r => by
  unfold gB
  by_cases h : r.second.length = 0 ∧ r.freq < 6
  ·rw [if_pos h, if_pos (show (bI r).second.length = 0 ∧ (bI r).freq < 6 from h)]; rfl
  ·rw [if_neg h, if_neg (show ¬((bI r).second.length = 0 ∧ (bI r).freq < 6) from h)]
 have h3 : ∀ r, eV (bI r) = bI (eV r) := fun r => by
  unfold eV
  by_cases h : r.minute.length = 0 ∧ r.freq < 5
  ·rw [if_pos h, if_pos (show (bI r).minute.length = 0 ∧ (bI r).freq < 5 from h)]; rfl
  ·rw [if_neg h, if_neg (show ¬((bI r).minute.length = 0 ∧ (bI r).freq < 5) from h)]
 have h2 : ∀ r, eU (bI r) = bI (eU r) := fun r => by
  unfold eU
  by_cases h : r.hour.length = 0 ∧ r.freq < 4
  ·rw [if_pos h, if_pos (show (bI r).hour.length = 0 ∧ (bI r).freq < 4 from h)]; rfl
  ·rw [if_neg h, if_neg (show ¬((bI r).hour.length = 0 ∧ (bI r).freq < 4) from h)]
 have h1 : eS (bI r) = bI (eS r) := by
  unfold eS
  by_cases h : oO r
  ·rw [if_pos h, if_pos (show oO (bI r) from h)]
   by_cases ha : r.freq = 0
   ·rw [if_pos ha, if_pos (show (bI r).freq = 0 from ha)]; rfl
   ·rw [if_neg ha, if_neg (show ¬(bI r).freq = 0 from ha)]
    by_cases hb : r.freq = 1
    ·rw [if_pos hb, if_pos (show (bI r).freq = 1 from hb)]; rfl
    ·rw [if_neg hb, if_neg (show ¬(bI r).freq = 1 from hb)]
     by_cases hc : r.freq = 2
     ·rw [if_pos hc, if_pos (show (bI r).freq = 2 from hc)]; rfl
     ·rw [if_neg hc, if_neg (show ¬(bI r).freq = 2 from hc)]
  ·rw [if_neg h, if_neg (show ¬oO (bI r) from h)]
 unfold aY
 rw [h1, h2, h3, h4]
theorem uY {q : Rul} {dayF : Int → Bool} {en most : Int} {k : Int} {o l : List Int} (h : DatesP (bI q) dayF en most k o l) : DatesP q dayF en most k o l := by
 induction h with
 | over h => exact .over h
 | stop h hs => exact .stop h hs
 | more h hs hn ih => exact .more h hs ih
theorem aCw {r : Rul} {m : Nat} (h : ∃ l, kJ (bI r) (cI (aY (bI r))) ((m : Int) + 1) l ∧ ((l.length : Int) = (m : Int) + 1 ∨ (0 < r.count ∧ (l.length : Int) = r.count))) : ∃ l, kJ r (cI (aY r)) (m : Int) l := by
 obtain ⟨l, h1, h2⟩ := h
 unfold kJ at h1
 rw [xH] at h1
 have h3 := uY h1
 have e5 := (dG r).2.2.2.2.1
 exact aCv (q := aY r) (dayF := cI (aY r)) (en' := dX r) (m := (m : Int)) oM h3 (by simp) (by rw [e5]; exact h2)
end Go.Proofs.YtdbbifbmkfmbkaaGreat
namespace Go.Proofs.YtdbbifbmkfmbkaaGreat
open Go.RowKit Go.Fr Go.Tab
section
variable {F : Nat → Prop} {w0 : World} {B : LN} {H : LV} {S : LS}
open Go.Md
theorem r5 (r : Rul) (x : Av) (hfb : 0 ≤ r.freq) (hl : LenL r) (hcap : CapL r x) (m : Nat) (hm : m ≤ 1000) {dayF dayU : Int → Bool} (Φ : List Int → Prop) (hdu : RightP r → aBu (aY (bI r)) dayU) (hfirst : RightP r → pX r dayF) (hask : RightP r → (∃ l, kJ (bI r) dayU ((m : Int) + 1) l ∧ ((l.length : Int) = (m : Int) + 1 ∨ (0 < r.count ∧ (l.length : Int) = r.count))) → ∃ l, kJ r dayF (m : Int) l ∧ Φ l) (w : World) (hin : InL w r x) : Calls Tryz.prog 22 #[.agg (aZ r x).toArray, iV m] w fun e w' => ∃ (b : Bool) (l : List Int) (p : Option Addr) (c : Nat), (b = true → RightP r ∧ kJ r dayF (m : Int) l ∧ Φ l) ∧ (b = false → l = []) ∧ e = .returned (.tuple #[.slice p l.length c, .bool b, .bool true]) ∧ fM w w' (.slice p l.length c) 2 1 l.length (l.map iV) := by
 refine aK (args := [.agg (aZ r x).toArray, iV m]) (L := [(0, .agg (aZ r x).toArray), (1, iV m)]) (N := 25) Tryz.func22 rfl rfl ble rfl (sS w) ?_
 refine g2 ?_
 refine gL (fS 50 (cs := aZ r x) dE rfl rfl rfl (fun o ho => rfl) ble (fun b1 hb1 => ?_))
 refine g8 ?_
 refine rl ((dR 50 (cs := aZ r x) rfl rfl (fP (aZ r x) 0 ble) ble kR)) ?_
 refine gL (cbx (fun b : Bool => .bool b) (fun b => b = true → RightP r) rfl (fun w_ s_ => yG r x hfb hl hcap w_ (InL.see s_ hin)) (fun rb hrp => ?_))
 rcases bO ((!rb)) with hrb | hrb
 ·refine rl ((gH rfl).to (v' := .bool true) (cB hrb)) ?_
  refine g8 ?_
  refine bL rfl rfl ?_
  refine g9 ?_
  refine jP (L' := [(4, sN), (5, .bool false), (6, .bool true)]) kns (fun w s => s.aKe 13 2 1) ?_
  refine jK (.inl rfl) rfl (aD rfl) (aD rfl) (aD rfl) fun w_ s_ => ⟨false, [], none, 0, fun h => (by cases h), fun _ => rfl, rfl, ?_⟩
  exact s_.toNew (k := 13) rfl
 ·have hR : RightP r := hrp (by simpa using hrb)
  refine rZ2 ((gH rfl).to (v' := .bool false) (cB hrb)) ?_
  refine rZ3 ((dR 50 (cs := aZ r x) rfl rfl (fP (aZ r x) 0 ble) ble kR)) ?_
  refine gL (cbx (fun b : Bool => .bool b) (fun b => b = true → ∃ l, kJ (bI r) dayU ((m : Int) + 1) l ∧ ((l.length : Int) = (m : Int) + 1 ∨ (0 < r.count ∧ (l.length : Int) = r.count))) rfl (fun w_ s_ => zF r x dayU (m : Int) hR hl (vI (rZ hl)) oM (hdu hR) w_ (InL.see s_ hin)) (fun sb hsp => ?_))
  refine g1 ?_
  rcases bO ((!sb)) with hsb | hsb
  ·refine rl ((gH rfl).to (v' := .bool true) (cB hsb)) ?_
   refine j7 ?_
   refine jP (L' := [(4, sN), (5, .bool false), (6, .bool true)]) kns (fun w s => s.aKe 13 2 1) ?_
   refine jK (.inl rfl) rfl (aD rfl) (aD rfl) (aD rfl) fun w_ s_ => ⟨false, [], none, 0, fun h => (by cases h), fun _ => rfl, rfl, ?_⟩
   exact s_.toNew (k := 13) rfl
  ·obtain ⟨l, href, hphi⟩ := hask hR (hsp (by simpa using hsb))
   refine rl ((gH rfl).to (v' := .bool false) (cB hsb)) ?_
   refine g3 ?_
   refine aQ rfl rfl ?_
   refine g4 ?_
   refine rl ((dR 50 (cs := aZ r x) rfl rfl (fP (aZ r x) 0 ble) ble kR)) ?_
   refine gL (crx (ι := Option Addr × Nat) 12 (fun y => .agg (aZ r { x with p14 := y.1, c14 := y.2 }).toArray) (fun _ => True) (fun y => ⟨.slice y.1 r.wday.length y.2, 69, 2, r.wday.length, eM r.wday⟩) rfl (fun w_ s_ => (wW r x (by have := m9 hR; omega) w_ (InL.see s_ hin)).mono fun e w' ⟨p, c, h1, h2⟩ => ⟨(p, c), trivial, h1, h2⟩) (fun | (pd, cd), _ => ?_))
   refine g1 ?_
   refine gL (crx (ι := Option Addr × Nat) 11 (fun y => .tuple #[.slice y.1 (l).length y.2, .bool true]) (fun _ => True) (fun y => ⟨.slice y.1 (l).length y.2, 2, 1, (l).length, ((l).map iV)⟩) rfl (fun w_ s_ => (hfirst hR m oM l href { x with p14 := pd, c14 := cd } w_ (InL.day (InL.see s_ hin) (aB1 (ps := r.wday) s_ 12 rfl))).mono fun e w' ⟨p, c, h1, h2⟩ => ⟨(p, c), trivial, h1, h2⟩) (fun | (pf, cf), _ => ?_))
   refine g16 ?_
   refine g1 ?_
   refine jK (.inl rfl) rfl (aD rfl) (aD rfl) (aD rfl) fun w_ s_ => ⟨true, l, pf, cf, fun _ => ⟨hR, href, hphi⟩, fun h => (by cases h), rfl, ?_⟩
   exact s_.toNew (k := 11) rfl
end
end Go.Proofs.YtdbbifbmkfmbkaaGreat
namespace Go.Proofs.YtdbbifbmkfmbkaaGreat
open Go.Md Go.Tab Go.Fr
theorem aDx {q : Rul} {dayF : Int → Bool} {en most : Int} {k : Int} {o l : List Int} (h : DatesP q dayF en most k o l) : ∀ {l' : List Int}, DatesP q dayF en most k o l' → l = l' := by
 induction h with
 | over h =>
  intro l' h'
  cases h' with
  | over _ => rfl
  | stop h2 _ => exact absurd h h2
  | more h2 _ _ => exact absurd h h2
 | stop h hs =>
  intro l' h'
  cases h' with
  | over h2 => exact absurd h2 h
  | stop _ _ => rfl
  | more _ hs2 _ => rw [hs] at hs2; cases hs2
 | more h hs hn ih =>
  intro l' h'
  cases h' with
  | over h2 => exact absurd h2 h
  | stop _ hs2 => rw [hs] at hs2; cases hs2
  | more _ _ hn2 => exact ih hn2
theorem rG {c st en most by_ : Int} : ∀ (l o : List Int), bW c (st + by_) (en + by_) most (o.map (· + by_)) (l.map (· + by_)) = ((bW c st en most o l).1.map (· + by_), (bW c st en most o l).2)
 | [], o => rfl
 | t :: l, o => by
  rw [List.map_cons, dP, dP, List.length_map]
  by_cases h1 : t < st
  ·rw [if_pos h1, if_pos oM]
   exact rG l o
  ·rw [if_neg h1, if_neg oM]
   by_cases h2 : (o.length : Int) = most ∨ (0 < c ∧ (o.length : Int) = c) ∨ en < t
   ·rw [if_pos h2, if_pos oM]
   ·rw [if_neg h2, if_neg oM]
    have := rG (c := c) (st := st) (en := en) (most := most) (by_ := by_) l (o ++ [t])
    rw [List.map_append] at this
    exact this
theorem pC {c st en m M : Int} (hm : m < M) : ∀ (l o : List Int), (o.length : Int) ≤ m → (bW c st en m o l).2 = false → (((bW c st en m o l).1.length : Int) = m ∨ (0 < c ∧ ((bW c st en m o l).1.length : Int) = c)) ∨ bW c st en M o l = ((bW c st en m o l).1, false)
 | [], o, h0, h => by cases h
 | t :: l, o, h0, h => by
  rw [dP] at h ⊢
  rw [dP (most := M)]
  by_cases h1 : t < st
  ·rw [if_pos h1] at h ⊢
   rw [if_pos h1]
   exact pC hm l o h0 h
  ·rw [if_neg h1] at h ⊢
   rw [if_neg h1]
   by_cases h2 : (o.length : Int) = m ∨ (0 < c ∧ (o.length : Int) = c) ∨ en < t
   ·rw [if_pos h2]
    rcases h2 with h2 | h2 | h2
    ·exact .inl (.inl h2)
    ·exact .inl (.inr h2)
    ·exact .inr (by rw [if_pos (.inr (.inr h2))])
   ·rw [if_neg h2] at h ⊢
    rw [if_neg oM]
    exact pC hm l (o ++ [t]) (by rw [List.length_append, List.length_singleton]; omega) h
theorem l8 {c st en most : Int} (hc : 0 < c) : ∀ (l o : List Int), (o.length : Int) ≤ c → ((bW c st en most o l).1.length : Int) ≤ c
 | [], o, h => h
 | t :: l, o, h => by
  rw [dP]
  by_cases h1 : t < st
  ·rw [if_pos h1]; exact l8 hc l o h
  ·rw [if_neg h1]
   by_cases h2 : (o.length : Int) = most ∨ (0 < c ∧ (o.length : Int) = c) ∨ en < t
   ·rw [if_pos h2]; exact h
   ·rw [if_neg h2]
    exact l8 hc l (o ++ [t]) (by rw [List.length_append, List.length_singleton]; omega)
theorem aDh {q : Rul} {dayF : Int → Bool} {en m M : Int} (hm : m < M) (hc : 0 ≤ q.count) {k : Int} {o l : List Int} (h : DatesP q dayF en M k o l) : ((o.length : Int) ≤ m ∧ (0 < q.count → (o.length : Int) ≤ q.count)) → ((l.length : Int) = M ∨ (0 < q.count ∧ (l.length : Int) = q.count)) → ∃ l', DatesP q dayF en m k o l' ∧ ((l'.length : Int) = m ∨ (0 < q.count ∧ (l'.length : Int) = q.count)) := by
 have hend : ∀ (k : Int) (o : List Int), (o.length : Int) ≤ m → (0 < q.count → (o.length : Int) ≤ q.count) → ¬eE q k → (cX q q.start en m o (cT q dayF k)).2 = false → ((cX q q.start en M o (cT q dayF k)).2 = false → (((cX q q.start en M o (cT q dayF k)).1.length : Int) = M ∨ (0 < q.count ∧ ((cX q q.start en M o (cT q dayF k)).1.length : Int) = q.count))) →
   ((cX q q.start en m o (cT q dayF k)).1.length : Int) = m ∨ (0 < q.count ∧ ((cX q q.start en m o (cT q dayF k)).1.length : Int) = q.count) := by
  intro k o h0 h3 _ hb hM
  unfold cX at hb hM ⊢
  simp only at hb hM ⊢
  cases hg : (bW q.count q.start en m o (dF (cT q dayF k) q.setpos)).2 with
  | false =>
   rcases pC (M := M) hm _ o h0 hg with h | h
   ·exact h
   ·rw [h] at hM
    have := hM rfl
    have hl := gX q.count q.start en m (dF (cT q dayF k) q.setpos) o h0
    simp only at this
    rcases this with h | h
    ·omega
    ·exact .inr h
  | true =>
   rw [hg, Bool.true_and] at hb
   unfold iD at hb
   simp only [Bool.and_eq_false_iff, Bool.or_eq_false_iff, decide_eq_false_iff_not, beq_eq_false_iff_ne] at hb
   have hl := gX q.count q.start en m (dF (cT q dayF k) q.setpos) o h0
   rcases hb with h | ⟨h1, h2⟩
   ·exact .inl oM
   ·have hp : 0 < q.count := by omega
    have := l8 (st := q.start) (en := en) (most := m) hp (dF (cT q dayF k) q.setpos) o (h3 hp)
    exact .inr ⟨hp, by omega⟩
 induction h with
 | over h => exact fun h0 hl => ⟨_, .over h, by omega⟩
 | @stop k o h hs =>
  intro h0 hl
  cases hb : (cX q q.start en m o (cT q dayF k)).2 with
  | false => exact ⟨_, .stop h hb, hend k o h0.1 h0.2 h hb fun _ => hl⟩
  | true =>
   unfold cX at hb hl
   simp only [Bool.and_eq_true] at hb hl
   obtain ⟨c1, c2, c3⟩ := jY (c := q.count) (st := q.start) (en := en) (Int.le_of_lt hm) _ o h0.1 hb.1
   have hk := hb.2
   unfold iD at hk
   simp only [Bool.and_eq_true, Bool.or_eq_true, decide_eq_true_eq, beq_iff_eq] at hk
   omega
 | @more k o l h hs hn ih =>
  intro h0 hl
  cases hb : (cX q q.start en m o (cT q dayF k)).2 with
  | false => exact ⟨_, .stop h hb, hend k o h0.1 h0.2 h hb fun h2 => by rw [hs] at h2; cases h2⟩
  | true =>
   have hb2 := hb
   have hs2 := hs
   unfold cX at hb2 hs2
   simp only [Bool.and_eq_true] at hb2 hs2
   obtain ⟨c1, c2, c3⟩ := jY (c := q.count) (st := q.start) (en := en) (Int.le_of_lt hm) _ o h0.1 hb2.1
   have e : (cX q q.start en M o (cT q dayF k)).1 = (cX q q.start en m o (cT q dayF k)).1 := c2 hs2.1
   rw [e] at ih
   have c4 : 0 < q.count → (((cX q q.start en m o (cT q dayF k)).1.length : Nat) : Int) ≤ q.count := fun hp => l8 hp _ o (h0.2 hp)
   obtain ⟨l', hl', hn'⟩ := ih ⟨c3, c4⟩ hl
   exact ⟨l', .more h hb hl', hn'⟩
end Go.Proofs.YtdbbifbmkfmbkaaGreat
namespace Go.Proofs.YtdbbifbmkfmbkaaGreat
open Go.Md Go.Tab Go.Fr
def oS (c most : Int) (n : Nat) : Prop := (n : Int) = most ∨ (0 < c ∧ (n : Int) = c)
structure Pre (H : Int → Prop) (c most : Int) (l : List Int) : Prop where
 si : SI l
 hit : ∀ x ∈ l, H x
 all : ∀ x, H x → x ∈ l ∨ (oS c most l.length ∧ ∀ y ∈ l, y < x)
 le : (l.length : Int) ≤ most ∧ (0 < c → (l.length : Int) ≤ c)
theorem SI.sub : ∀ {l m : List Int}, SI l → SI m → (∀ x ∈ l, x ∈ m) → l.length ≤ m.length ∧ (m.length ≤ l.length → l = m)
 | [], [], _, _, _ => ⟨Nat.le_refl _, fun _ => rfl⟩
 | [], b :: m, _, _, _ => ⟨Nat.zero_le _, fun h => by simp only [List.length_cons, List.length_nil] at h; omega⟩
 | a :: l, [], _, _, h => by have := h a List.mem_cons_self; cases this
 | a :: l, b :: m, hl, hm, h => by
  obtain ⟨l1, l2⟩ := List.pairwise_cons.1 hl
  obtain ⟨m1, m2⟩ := List.pairwise_cons.1 hm
  by_cases e : a = b
  ·subst e
   obtain ⟨h1, h2⟩ := SI.sub l2 m2 fun x hx => by
    rcases List.mem_cons.1 (h x (List.mem_cons_of_mem _ hx)) with rfl | h3
    ·have := l1 x hx; omega
    ·exact h3
   simp only [List.length_cons]
   exact ⟨by omega, fun h3 => by rw [h2 oM]⟩
  ·have hb : b < a := by
    rcases List.mem_cons.1 (h a List.mem_cons_self) with h3 | h3
    ·exact absurd h3 e
    ·exact m1 a h3
   obtain ⟨h1, _⟩ := SI.sub hl m2 fun x hx => by
    rcases List.mem_cons.1 (h x hx) with h3 | h3
    ·subst h3
     rcases List.mem_cons.1 hx with h4 | h4
     ·omega
     ·have := l1 _ h4; omega
    ·exact h3
   simp only [List.length_cons] at h1 ⊢
   exact ⟨by omega, fun h3 => by omega⟩
theorem SI.snoc {o : List Int} {t : Int} (h : SI o) (hb : ∀ x ∈ o, x < t) : SI (o ++ [t]) := by
 unfold SI at *
 rw [List.pairwise_append]
 exact ⟨h, by simp, fun a ha b hb2 => by rw [List.mem_singleton] at hb2; subst hb2; exact hb a ha⟩
theorem mE {c st en most : Int} : ∀ (L o : List Int), SI L → SI o → (∀ x ∈ o, ∀ t ∈ L, x < t) →
  SI (bW c st en most o L).1 ∧ (∀ x ∈ (bW c st en most o L).1, x ∈ o ∨ (x ∈ L ∧ st ≤ x ∧ x ≤ en)) ∧ (∀ x ∈ o, x ∈ (bW c st en most o L).1) ∧
  ((bW c st en most o L).2 = true → ∀ x ∈ L, st ≤ x → x ∈ (bW c st en most o L).1) ∧
  ((bW c st en most o L).2 = false → (∀ x ∈ L, st ≤ x → x ≤ en → x ∈ (bW c st en most o L).1 ∨ (oS c most (bW c st en most o L).1.length ∧ ∀ y ∈ (bW c st en most o L).1, y < x)) ∧ (oS c most (bW c st en most o L).1.length ∨ ∃ t ∈ L, en < t))
 | [], o, _, ho, _ => ⟨ho, fun x hx => .inl hx, fun x hx => hx, fun _ x hx => (by cases hx), fun h => (by cases h)⟩
 | t :: l, o, hL, ho, hlt => by
  have hL1 : SI l := (List.pairwise_cons.1 hL).2
  have hL2 : ∀ x ∈ l, t < x := (List.pairwise_cons.1 hL).1
  rw [dP]
  by_cases h1 : t < st
  ·rw [if_pos h1]
   obtain ⟨a1, a2, a3, a4, a5⟩ := mE (c := c) (st := st) (en := en) (most := most) l o hL1 ho fun x hx y hy => hlt x hx y (List.mem_cons_of_mem _ hy)
   refine ⟨a1, fun x hx => ?_, a3, fun h x hx hs => ?_, fun h => ⟨fun x hx hs he => ?_, ?_⟩⟩
   ·rcases a2 x hx with h | ⟨h, g⟩
    ·exact .inl h
    ·exact .inr ⟨List.mem_cons_of_mem _ h, g⟩
   ·rcases List.mem_cons.1 hx with rfl | hx
    ·omega
    ·exact a4 h x hx hs
   ·rcases List.mem_cons.1 hx with rfl | hx
    ·omega
    ·exact (a5 h).1 x hx hs he
   ·rcases (a5 h).2 with h | ⟨y, h, g⟩
    ·exact .inl h
    ·exact .inr ⟨y, List.mem_cons_of_mem _ h, g⟩
  ·rw [if_neg h1]
   by_cases h2 : (o.length : Int) = most ∨ (0 < c ∧ (o.length : Int) = c) ∨ en < t
   ·rw [if_pos h2]
    refine ⟨ho, fun x hx => .inl hx, fun x hx => hx, fun h => (by cases h), fun _ => ⟨fun x hx hs he => ?_, ?_⟩⟩
    ·have hx2 : t ≤ x := by
      rcases List.mem_cons.1 hx with rfl | hx
      ·exact Int.le_refl _
      ·exact Int.le_of_lt (hL2 x hx)
     refine .inr ⟨?_, fun y hy => hlt y hy x hx⟩
     show oS c most o.length
     unfold oS
     omega
    ·by_cases h3 : en < t
     ·exact .inr ⟨t, List.mem_cons_self, h3⟩
     ·refine .inl ?_
      show oS c most o.length
      unfold oS
      omega
   ·rw [if_neg h2]
    have g1 : SI (o ++ [t]) := ho.snoc fun x hx => hlt x hx t List.mem_cons_self
    obtain ⟨a1, a2, a3, a4, a5⟩ := mE (c := c) (st := st) (en := en) (most := most) l (o ++ [t]) hL1 g1 fun x hx y hy => by
     rcases List.mem_append.1 hx with hx | hx
     ·exact hlt x hx y (List.mem_cons_of_mem _ hy)
     ·rw [List.mem_singleton] at hx; subst hx; exact hL2 y hy
    refine ⟨a1, fun x hx => ?_, fun x hx => a3 x (List.mem_append_left _ hx), fun h x hx hs => ?_, fun h => ⟨fun x hx hs he => ?_, ?_⟩⟩
    ·rcases a2 x hx with h | ⟨h, g⟩
     ·rcases List.mem_append.1 h with h | h
      ·exact .inl h
      ·rw [List.mem_singleton] at h; subst h
       exact .inr ⟨List.mem_cons_self, by omega⟩
     ·exact .inr ⟨List.mem_cons_of_mem _ h, g⟩
    ·rcases List.mem_cons.1 hx with rfl | hx
     ·exact a3 _ (List.mem_append_right _ (List.mem_singleton.2 rfl))
     ·exact a4 h x hx hs
    ·rcases List.mem_cons.1 hx with rfl | hx
     ·exact .inl (a3 _ (List.mem_append_right _ (List.mem_singleton.2 rfl)))
     ·exact (a5 h).1 x hx hs he
    ·rcases (a5 h).2 with h | ⟨y, h, g⟩
     ·exact .inl h
     ·exact .inr ⟨y, List.mem_cons_of_mem _ h, g⟩
def iS (q : Rul) (dayF : Int → Bool) (k : Int) : List Int := dF (cT q dayF k) q.setpos
def aH4 (q : Rul) (dayF : Int → Bool) (en : Int) (x : Int) : Prop := ∃ k, 0 ≤ k ∧ x ∈ iS q dayF k ∧ q.start ≤ x ∧ x ≤ en
structure Rises (q : Rul) (dayF : Int → Bool) (en : Int) : Prop where
 si : ∀ k, 0 ≤ k → SI (iS q dayF k)
 lt : ∀ j k, 0 ≤ j → j < k → ∀ x ∈ iS q dayF j, ∀ y ∈ iS q dayF k, x < y
 over : ∀ j k, 0 ≤ j → j ≤ k → eE q j → ∀ x ∈ iS q dayF k, en < x
theorem aC5 {q : Rul} {dayF : Int → Bool} {en most : Int} (R : Rises q dayF en) (hc0 : 0 ≤ q.count) {k : Int} {o l : List Int} (h : DatesP q dayF en most k o l) : 0 ≤ k → SI o → (∀ x ∈ o, ∃ j, 0 ≤ j ∧ j < k ∧ x ∈ iS q dayF j ∧ q.start ≤ x ∧ x ≤ en) → (∀ j, 0 ≤ j → j < k → ∀ x ∈ iS q dayF j, q.start ≤ x → x ≤ en → x ∈ o) → (o.length : Int) ≤ most ∧ (0 < q.count → (o.length : Int) ≤ q.count) → Pre (aH4 q dayF en) q.count most l := by
 have step : ∀ (k : Int) (o : List Int), 0 ≤ k → SI o → (∀ x ∈ o, ∃ j, 0 ≤ j ∧ j < k ∧ x ∈ iS q dayF j ∧ q.start ≤ x ∧ x ≤ en) → (o.length : Int) ≤ most ∧ (0 < q.count → (o.length : Int) ≤ q.count) →
   (∀ x ∈ (cX q q.start en most o (cT q dayF k)).1, ∃ j, 0 ≤ j ∧ j < k + 1 ∧ x ∈ iS q dayF j ∧ q.start ≤ x ∧ x ≤ en) ∧ SI (cX q q.start en most o (cT q dayF k)).1 ∧ (((cX q q.start en most o (cT q dayF k)).1.length : Int) ≤ most ∧ (0 < q.count → ((cX q q.start en most o (cT q dayF k)).1.length : Int) ≤ q.count)) := by
  intro k o h0 hs ho hn
  have hlt : ∀ x ∈ o, ∀ t ∈ iS q dayF k, x < t := fun x hx t ht => by
   obtain ⟨j, j0, j1, j2, _⟩ := ho x hx
   exact R.lt j k j0 j1 x j2 t ht
  obtain ⟨a1, a2, a3, a4, a5⟩ := mE (c := q.count) (st := q.start) (en := en) (most := most) (iS q dayF k) o (R.si k h0) hs hlt
  refine ⟨fun x hx => ?_, a1, gX _ _ _ _ _ _ hn.1, fun hp => l8 hp _ _ (hn.2 hp)⟩
  rcases a2 x hx with h | ⟨h, g⟩
  ·obtain ⟨j, j0, j1, j2⟩ := ho x h
   exact ⟨j, j0, by omega, j2⟩
  ·exact ⟨k, h0, by omega, h, g⟩
 induction h with
 | @over k o h =>
  intro h0 hs ho ha hn
  refine ⟨hs, fun x hx => ?_, fun x ⟨j, j0, j1, j2, j3⟩ => ?_, hn⟩
  ·obtain ⟨j, j0, _, j2⟩ := ho x hx
   exact ⟨j, j0, j2⟩
  ·by_cases hj : j < k
   ·exact .inl (ha j j0 hj x j1 j2 j3)
   ·have := R.over k j h0 oM h x j1
    omega
 | @stop k o h hs2 =>
  intro h0 hs ho ha hn
  obtain ⟨b1, b2, b3⟩ := step k o h0 hs ho hn
  have hlt : ∀ x ∈ o, ∀ t ∈ iS q dayF k, x < t := fun x hx t ht => by
   obtain ⟨j, j0, j1, j2, _⟩ := ho x hx
   exact R.lt j k j0 j1 x j2 t ht
  obtain ⟨a1, a2, a3, a4, a5⟩ := mE (c := q.count) (st := q.start) (en := en) (most := most) (iS q dayF k) o (R.si k h0) hs hlt
  refine ⟨b2, fun x hx => ?_, fun x ⟨j, j0, j1, j2, j3⟩ => ?_, b3⟩
  ·obtain ⟨j, j0, _, j2⟩ := b1 x hx
   exact ⟨j, j0, j2⟩
  ·have hfull : (bW q.count q.start en most o (iS q dayF k)).2 = true → oS q.count most (bW q.count q.start en most o (iS q dayF k)).1.length := fun hg => by
    unfold cX at hs2
    simp only at hs2
    change ((bW q.count q.start en most o (iS q dayF k)).2 && iD q.count most (bW q.count q.start en most o (iS q dayF k)).1.length) = false at hs2
    rw [hg, Bool.true_and] at hs2
    unfold iD at hs2
    simp only [Bool.and_eq_false_iff, Bool.or_eq_false_iff, decide_eq_false_iff_not, beq_eq_false_iff_ne] at hs2
    have b31 : ((bW q.count q.start en most o (iS q dayF k)).1.length : Int) ≤ most := b3.1
    have b32 : 0 < q.count → ((bW q.count q.start en most o (iS q dayF k)).1.length : Int) ≤ q.count := b3.2
    unfold oS
    by_cases hc : 0 < q.count
    ·have := b32 hc
     omega
    ·rcases hs2 with g | ⟨g1, g2⟩
     ·omega
     ·omega
   change x ∈ (bW q.count q.start en most o (iS q dayF k)).1 ∨ (oS q.count most (bW q.count q.start en most o (iS q dayF k)).1.length ∧ ∀ y ∈ (bW q.count q.start en most o (iS q dayF k)).1, y < x)
   rcases Int.lt_trichotomy j k with hj | hj | hj
   ·exact .inl (a3 x (ha j j0 hj x j1 j2 j3))
   ·subst hj
    cases hg : (bW q.count q.start en most o (iS q dayF j)).2 with
    | true => exact .inl (a4 hg x j1 j2)
    | false => exact (a5 hg).1 x j1 j2 j3
   ·have hbig : ∀ y ∈ (bW q.count q.start en most o (iS q dayF k)).1, y < x := fun y hy => by
     obtain ⟨i, i0, i1, i2, _⟩ := b1 y hy
     exact R.lt i j i0 oM y i2 x j1
    cases hg : (bW q.count q.start en most o (iS q dayF k)).2 with
    | true => exact .inr ⟨hfull hg, hbig⟩
    | false =>
     rcases (a5 hg).2 with h5 | ⟨t, h5, h6⟩
     ·exact .inr ⟨h5, hbig⟩
     ·have := R.lt k j h0 hj t h5 x j1
      omega
 | @more k o l h hs2 hn2 ih =>
  intro h0 hs ho ha hn
  obtain ⟨b1, b2, b3⟩ := step k o h0 hs ho hn
  have hlt : ∀ x ∈ o, ∀ t ∈ iS q dayF k, x < t := fun x hx t ht => by
   obtain ⟨j, j0, j1, j2, _⟩ := ho x hx
   exact R.lt j k j0 j1 x j2 t ht
  obtain ⟨a1, a2, a3, a4, a5⟩ := mE (c := q.count) (st := q.start) (en := en) (most := most) (iS q dayF k) o (R.si k h0) hs hlt
  have hg : (bW q.count q.start en most o (iS q dayF k)).2 = true := by
   have : ((bW q.count q.start en most o (iS q dayF k)).2 && iD q.count most (bW q.count q.start en most o (iS q dayF k)).1.length) = true := hs2
   exact (Bool.and_eq_true_iff.1 this).1
  refine ih oM b2 b1 (fun j j0 j1 x j2 j3 j4 => ?_) b3
  change x ∈ (bW q.count q.start en most o (iS q dayF k)).1
  by_cases hj : j < k
  ·exact a3 x (ha j j0 hj x j2 j3 j4)
  ·obtain rfl : j = k := by omega
   exact a4 hg x j2 j3
theorem aG8 {q : Rul} {dayF : Int → Bool} {en most : Int} (R : Rises q dayF en) (hm : 0 ≤ most) (hc : 0 ≤ q.count) {l : List Int} (h : DatesP q dayF en most 0 [] l) : Pre (aH4 q dayF en) q.count most l :=
 aC5 R hc h (Int.le_refl _) List.Pairwise.nil (fun x hx => by cases hx) (fun j j0 j1 => by omega) ⟨hm, fun h => hc⟩
end Go.Proofs.YtdbbifbmkfmbkaaGreat
namespace Go.Proofs.YtdbbifbmkfmbkaaGreat
open Go.Md Go.Tab Go.Fr
def o9 (q : Rul) (x : Int) : Prop := aJ q.hour (x % 86400 / 3600) = true ∧ aJ q.minute (x % 86400 / 60 % 60) = true ∧ aJ q.second (x % 60) = true
def pLo (q : Rul) (k : Int) : Int := if 4 ≤ q.freq then pAt q k else cG q k * 86400
def pHi (q : Rul) (k : Int) : Int := if 4 ≤ q.freq then pAt q k + UN q.freq else (cG q k + iF q k) * 86400
theorem x6 (f : Int) : (UN f = 3600 ∨ UN f = 60 ∨ UN f = 1) := by
 unfold UN
 split
 ·exact .inl rfl
 ·split
  ·exact .inr (.inl rfl)
  ·exact .inr (.inr rfl)
theorem pH {q : Rul} {dayF : Int → Bool} {d x : Int} : x ∈ iY q dayF d ↔ d * 86400 ≤ x ∧ x < (d + 1) * 86400 ∧ 0 ≤ x ∧ dayF (x / 86400) = true ∧ o9 q x := by
 unfold iY o9
 by_cases h : 0 ≤ d ∧ dayF d = true
 ·rw [if_pos h, kZ]
  constructor
  ·rintro ⟨h1, h2, h3, h4, h5, h6, h7⟩
   obtain rfl : x / 86400 = d := by omega
   refine ⟨by omega, by omega, by omega, h.2, ?_, ?_, ?_⟩
   ·rw [show x % 86400 = x - x / 86400 * 86400 by omega]; exact h5
   ·rw [show x % 86400 = x - x / 86400 * 86400 by omega]; exact h6
   ·rw [show x % 60 = (x - x / 86400 * 86400) % 60 by omega]; exact h7
  ·rintro ⟨h1, h2, h3, h4, h5, h6, h7⟩
   obtain rfl : x / 86400 = d := by omega
   refine ⟨by omega, by omega, by omega, by omega, ?_, ?_, ?_⟩
   ·rw [show x - x / 86400 * 86400 = x % 86400 by omega]; exact h5
   ·rw [show x - x / 86400 * 86400 = x % 86400 by omega]; exact h6
   ·rw [show (x - x / 86400 * 86400) % 60 = x % 60 by omega]; exact h7
 ·rw [if_neg h]
  constructor
  ·intro h; cases h
  ·rintro ⟨h1, h2, h3, h4, _⟩
   obtain rfl : x / 86400 = d := by omega
   exact absurd ⟨by omega, h4⟩ h
theorem aD4 (q : Rul) (dayF : Int → Bool) (d : Int) : SI (iY q dayF d) := by
 unfold iY
 split
 ·exact tR _ _ _ _ _ _
 ·exact List.Pairwise.nil
theorem uI (q : Rul) (dayF : Int → Bool) (k : Int) : SI (cT q dayF k) := by
 unfold cT
 split
 ·split
  ·exact tR _ _ _ _ _ _
  ·exact List.Pairwise.nil
 ·unfold jE
  refine SI.flat (a := cG q k * 86400) (w := 86400) dE (fun i => aD4 _ _ _) (fun i x hx => ?_) _
  have := pH.1 hx
  omega
theorem n8 {q : Rul} {dayF : Int → Bool} {k x : Int} (hm : 0 ≤ iF q k) (hf : 4 ≤ q.freq → cG q k = pAt q k / 86400 ∧ 0 ≤ pAt q k ∧ pAt q k % UN q.freq = 0) : x ∈ cT q dayF k ↔ pLo q k ≤ x ∧ x < pHi q k ∧ 0 ≤ x ∧ dayF (x / 86400) = true ∧ o9 q x := by
 unfold cT pLo pHi
 by_cases h4 : 4 ≤ q.freq
 ·rw [if_pos h4, if_pos h4, if_pos h4]
  obtain ⟨g1, g2, g3⟩ := hf h4
  have hday : ∀ y, pAt q k ≤ y → y < pAt q k + UN q.freq → y / 86400 = cG q k := fun y h1 h2 => by
   rw [g1]
   rcases x6 q.freq with h | h | h <;> rw [h] at h2 g3 <;> omega
  constructor
  ·intro h
   split at h
   ·rename_i hd
    rw [kZ] at h
    obtain ⟨h1, h2, h3, h4, h5, h6, h7⟩ := h
    have e := hday x h3 h4
    refine ⟨h3, h4, by omega, by rw [e]; exact hd, ?_, ?_, ?_⟩
    ·rw [show x % 86400 = x - cG q k * 86400 by omega]; exact h5
    ·rw [show x % 86400 = x - cG q k * 86400 by omega]; exact h6
    ·rw [show x % 60 = (x - cG q k * 86400) % 60 by omega]; exact h7
   ·cases h
  ·rintro ⟨h1, h2, h3, h4, h5, h6, h7⟩
   have e := hday x h1 h2
   rw [e] at h4
   rw [if_pos h4, kZ]
   refine ⟨by omega, by omega, h1, h2, ?_, ?_, ?_⟩
   ·rw [show x - cG q k * 86400 = x % 86400 by omega]; exact h5
   ·rw [show x - cG q k * 86400 = x % 86400 by omega]; exact h6
   ·rw [show (x - cG q k * 86400) % 60 = x % 60 by omega]; exact h7
 ·rw [if_neg h4, if_neg h4, if_neg h4]
  unfold jE
  rw [List.mem_flatMap]
  constructor
  ·rintro ⟨i, hi, h⟩
   rw [List.mem_range] at hi
   obtain ⟨h1, h2, h3⟩ := pH.1 h
   exact ⟨by omega, by omega, h3⟩
  ·rintro ⟨h1, h2, h3⟩
   refine ⟨(x / 86400 - cG q k).toNat, List.mem_range.2 oM, pH.2 ⟨by omega, by omega, h3⟩⟩
theorem aFo {L at_ : List Int} {x : Int} (h : x ∈ dF L at_) : x ∈ L := by
 unfold dF at h
 split at h
 ·exact h
 ·unfold l6 at h
  obtain ⟨i, hi, rfl⟩ := List.mem_map.1 h
  have := List.mem_range.1 (List.mem_filter.1 hi).1
  rw [List.getD_eq_getElem?_getD, List.getElem?_eq_getElem this]
  exact List.getElem_mem this
theorem aGz {L : List Int} (at_ : List Int) (h : SI L) : SI (dF L at_) := by
 unfold dF
 split
 ·exact h
 ·exact yY h
theorem nW {q : Rul} (hf : 2 ≤ q.freq) (k : Int) : iF q k = if q.freq = 2 then 7 else 1 := by
 unfold iF
 rw [if_neg oM, if_neg oM]
theorem aCq {q : Rul} (hs : 0 ≤ q.start) (hi : 1 ≤ q.interval) {k : Int} (hk : 0 ≤ k) (hf : 4 ≤ q.freq) : cG q k = pAt q k / 86400 ∧ 0 ≤ pAt q k ∧ pAt q k % UN q.freq = 0 := by
 have h0 : 0 ≤ k * q.interval := Int.mul_nonneg hk oM
 refine ⟨?_, ?_⟩
 ·unfold cG
  rw [if_neg oM, if_neg oM, if_neg oM, if_neg oM]
 ·unfold pAt
  rcases x6 q.freq with h | h | h <;> rw [h] <;> omega
theorem mK {q : Rul} (hf : 2 ≤ q.freq) (k : Int) : cG q k = if q.freq = 2 then q.start / 86400 - (q.start / 86400 % 7 - q.wkst + 7) % 7 + 7 * (k * q.interval) else if q.freq = 3 then q.start / 86400 + k * q.interval else pAt q k / 86400 := by
 unfold cG
 rw [if_neg oM, if_neg oM, Int.mul_assoc]
theorem zR {q : Rul} (hf : 2 ≤ q.freq) (hi : 1 ≤ q.interval) {j k : Int} (h : j < k) : pHi q j ≤ pLo q k := by
 have h0 : 0 ≤ (k - j - 1) * q.interval := Int.mul_nonneg oM oM
 have h1 : (k - j - 1) * q.interval = k * q.interval - j * q.interval - q.interval := by rw [Int.sub_mul, Int.sub_mul, Int.one_mul]
 unfold pHi pLo
 by_cases h4 : 4 ≤ q.freq
 ·rw [if_pos h4, if_pos h4]
  unfold pAt
  rcases x6 q.freq with h | h | h <;> rw [h] <;> omega
 ·rw [if_neg h4, if_neg h4, nW hf, mK hf, mK hf]
  by_cases h2 : q.freq = 2
  ·rw [if_pos h2, if_pos h2, if_pos h2]
   omega
  ·rw [if_neg h2, if_neg h2, if_neg h2, if_pos oM, if_pos oM]
   omega
theorem aIq {q : Rul} (hf : 2 ≤ q.freq) (hi : 1 ≤ q.interval) {j k : Int} (h : j ≤ k) : pLo q j ≤ pLo q k := by
 by_cases e : j = k
 ·rw [e]; exact Int.le_refl _
 ·have h1 := zR hf hi (show j < k by omega)
  have h2 : pLo q j ≤ pHi q j := by
   unfold pLo pHi
   split
   ·rcases x6 q.freq with h | h | h <;> rw [h] <;> omega
   ·rw [nW hf]; split <;> omega
  omega
theorem aDn {q : Rul} (hs : 0 ≤ q.start) (hi : 1 ≤ q.interval) {k : Int} (hk : 0 ≤ k) : cG q k * 86400 ≤ pLo q k := by
 unfold pLo
 by_cases h4 : 4 ≤ q.freq
 ·rw [if_pos h4, (aCq hs hi hk h4).1]; omega
 ·rw [if_neg h4]; exact Int.le_refl _
theorem qL {q : Rul} {dayF : Int → Bool} (hs : 0 ≤ q.start) (hf : 2 ≤ q.freq) (hi : 1 ≤ q.interval) {k x : Int} (hk : 0 ≤ k) (h : x ∈ iS q dayF k) : pLo q k ≤ x ∧ x < pHi q k ∧ 0 ≤ x ∧ dayF (x / 86400) = true ∧ o9 q x :=
 (n8 (by rw [nW hf]; split <;> decide) fun h4 => aCq hs hi hk h4).1 (aFo h)
theorem aIj {q : Rul} {dayF : Int → Bool} {en : Int} (hs : 0 ≤ q.start) (hf : 2 ≤ q.freq) (hi : 1 ≤ q.interval) (he : en < 3652059 * 86400) : Rises q dayF en where
 si := fun k _ => aGz _ (uI _ _ _)
 lt := fun j k j0 jk x hx y hy => by
  have h1 := qL hs hf hi j0 hx
  have h2 := qL hs hf hi (show 0 ≤ k by omega) hy
  have h3 := zR hf hi jk
  omega
 over := fun j k j0 jk ho x hx => by
  have h2 := qL hs hf hi (show 0 ≤ k by omega) hx
  have h3 := aIq hf hi jk
  have h4 := aDn hs hi j0
  have h5 : 3652059 ≤ cG q j := by
   unfold eE at ho
   rcases ho with h | h | h
   ·omega
   ·omega
   ·exact h
  omega
end Go.Proofs.YtdbbifbmkfmbkaaGreat
namespace Go.Proofs.YtdbbifbmkfmbkaaGreat
open Go.Md Go.Tab Go.Fr
theorem aB9 {r : Rul} (rp : RightP r) : dX r < 3652059 * 86400 := by
 have hN1 : Cal.daysTo 9000 = 3286817 := by decide
 have hN2 : Cal.daysTo 10000 = 3652059 := by decide
 have h1 := rp.t1.start
 have h2 := rp.t2.2
 rw [hN1] at h1
 rw [hN2] at h2
 unfold dX
 split
 ·rename_i h; exact (h2 h).2.2
 ·omega
theorem aD8 {r : Rul} (rp : RightP r) (hf : 2 ≤ r.freq) {dayF : Int → Bool} {m : Nat} {l : List Int} (h : kJ r dayF (m : Int) l) : Pre (aH4 (aY r) dayF (dX r)) r.count (m : Int) l := by
 obtain ⟨e1, e2, e3, e4, e5, e6, _⟩ := dG r
 have h1 := aG8 (aIj (q := aY r) (by rw [e1]; have := rp.t1.start; omega) oM (by rw [e3]; exact rp.t1.interval.1) (aB9 rp)) oM (by rw [e5]; exact rp.t1.count.1) h
 rw [e5] at h1
 exact h1
def bR (r : Rul) (by_ : Int) : Rul := { r with start := r.start + by_ }
theorem aAw {r : Rul} {w : Int} (hf : 2 ≤ r.freq) : aY (bR r (604800 * w)) = bR (aY r) (604800 * w) := by
 have h1 : eS (bR r (604800 * w)) = bR (eS r) (604800 * w) := by
  unfold eS
  by_cases h : oO r
  ·rw [if_pos h, if_pos (show oO (bR r (604800 * w)) from h)]
   have ha : ¬ r.freq = 0 := by omega
   have hb : ¬ r.freq = 1 := by omega
   rw [if_neg ha, if_neg (show ¬(bR r (604800 * w)).freq = 0 from ha), if_neg hb, if_neg (show ¬(bR r (604800 * w)).freq = 1 from hb)]
   by_cases hc : r.freq = 2
   ·rw [if_pos hc, if_pos (show (bR r (604800 * w)).freq = 2 from hc)]
    unfold bR
    simp only [Rul.mk.injEq, true_and, and_true, List.cons.injEq, Prod.mk.injEq]
    omega
   ·rw [if_neg hc, if_neg (show ¬(bR r (604800 * w)).freq = 2 from hc)]
  ·rw [if_neg h, if_neg (show ¬oO (bR r (604800 * w)) from h)]
 have h2 : ∀ r, eU (bR r (604800 * w)) = bR (eU r) (604800 * w) := fun r => by
  unfold eU
  by_cases h : r.hour.length = 0 ∧ r.freq < 4
  ·rw [if_pos h, if_pos (show (bR r (604800 * w)).hour.length = 0 ∧ (bR r (604800 * w)).freq < 4 from h)]
   unfold bR
   simp only [Rul.mk.injEq, true_and, and_true, List.cons.injEq]
   omega
  ·rw [if_neg h, if_neg (show ¬((bR r (604800 * w)).hour.length = 0 ∧ (bR r (604800 * w)).freq < 4) from h)]
 have h3 : ∀ r, eV (bR r (604800 * w)) = bR (eV r) (604800 * w) := fun r => by
  unfold eV
  by_cases h : r.minute.length = 0 ∧ r.freq < 5
  ·rw [if_pos h, if_pos (show (bR r (604800 * w)).minute.length = 0 ∧ (bR r (604800 * w)).freq < 5 from h)]
   unfold bR
   simp only [Rul.mk.injEq, true_and, and_true, List.cons.injEq]
   omega
  ·rw [if_neg h, if_neg (show ¬((bR r (604800 * w)).minute.length = 0 ∧ (bR r (604800 * w)).freq < 5) from h)]
 have h4 : ∀ r, gB (bR r (604800 * w)) = bR (gB r) (604800 * w) := fun r => by
  unfold gB
  by_cases h : r.second.length = 0 ∧ r.freq < 6
  ·rw [if_pos h, if_pos (show (bR r (604800 * w)).second.length = 0 ∧ (bR r (604800 * w)).freq < 6 from h)]
   unfold bR
   simp only [Rul.mk.injEq, true_and, and_true, List.cons.injEq]
   omega
  ·rw [if_neg h, if_neg (show ¬((bR r (604800 * w)).second.length = 0 ∧ (bR r (604800 * w)).freq < 6) from h)]
 unfold aY
 rw [h1, h2, h3, h4]
theorem yA {q : Rul} {w : Int} (hi : 1 ≤ q.interval) (k : Int) : pAt (bR q (604800 * w)) k = pAt q k + 604800 * w := by
 have e : (bR q (604800 * w)).freq = q.freq := rfl
 have e2 : (bR q (604800 * w)).interval = q.interval := rfl
 have e3 : (bR q (604800 * w)).start = q.start + 604800 * w := rfl
 unfold pAt
 rw [e, e2, e3]
 rcases x6 q.freq with h | h | h <;> rw [h] <;> omega
theorem rT {q : Rul} {w : Int} (hf : 2 ≤ q.freq) (hi : 1 ≤ q.interval) (k : Int) : cG (bR q (604800 * w)) k = cG q k + 7 * w := by
 have e : (bR q (604800 * w)).freq = q.freq := rfl
 have e2 : (bR q (604800 * w)).interval = q.interval := rfl
 have e3 : (bR q (604800 * w)).start = q.start + 604800 * w := rfl
 have e4 : (bR q (604800 * w)).wkst = q.wkst := rfl
 rw [mK (show 2 ≤ (bR q (604800 * w)).freq from hf), mK hf, yA hi, e, e2, e3, e4]
 by_cases h2 : q.freq = 2
 ·rw [if_pos h2, if_pos h2]; omega
 ·rw [if_neg h2, if_neg h2]
  by_cases h3 : q.freq = 3
  ·rw [if_pos h3, if_pos h3]; omega
  ·rw [if_neg h3, if_neg h3]; omega
theorem tB {q : Rul} {w : Int} (hf : 2 ≤ q.freq) (hi : 1 ≤ q.interval) (k : Int) : pLo (bR q (604800 * w)) k = pLo q k + 604800 * w ∧ pHi (bR q (604800 * w)) k = pHi q k + 604800 * w := by
 have e : (bR q (604800 * w)).freq = q.freq := rfl
 have hm : iF (bR q (604800 * w)) k = iF q k := by rw [nW (show 2 ≤ (bR q (604800 * w)).freq from hf), nW hf, e]
 unfold pLo pHi
 rw [yA hi, rT hf hi, hm, e]
 by_cases h : 4 ≤ q.freq
 ·rw [if_pos h, if_pos h, if_pos h, if_pos h]; omega
 ·rw [if_neg h, if_neg h, if_neg h, if_neg h]; omega
theorem aDp {q : Rul} {w : Int} (hm : q.month = []) (hd : q.mday = []) (x : Int) : cI (bR q (604800 * w)) (x / 86400) = cI q ((x - 604800 * w) / 86400) := by
 have e1 : (bR q (604800 * w)).month = [] := hm
 have e2 : (bR q (604800 * w)).mday = [] := hd
 have e3 : (bR q (604800 * w)).wday = q.wday := rfl
 unfold cI
 rw [e1, e2, e3, hm, hd]
 unfold wY
 rw [show x / 86400 % 7 = (x - 604800 * w) / 86400 % 7 by omega]
 rfl
theorem aBr {q : Rul} {w : Int} (x : Int) : o9 (bR q (604800 * w)) x ↔ o9 q (x - 604800 * w) := by
 unfold o9
 rw [show x % 86400 = (x - 604800 * w) % 86400 by omega, show x % 60 = (x - 604800 * w) % 60 by omega]
 exact Iff.rfl
theorem aC7 {q : Rul} {w : Int} (hs : 0 ≤ q.start) (hw : 0 ≤ w) (hf : 2 ≤ q.freq) (hi : 1 ≤ q.interval) (hm : q.month = []) (hd : q.mday = []) {k : Int} (hk : 0 ≤ k) (x : Int) :
  (x ∈ cT (bR q (604800 * w)) (cI (bR q (604800 * w))) k ∧ 604800 * w ≤ x) ↔ x - 604800 * w ∈ cT q (cI q) k := by
 have e : (bR q (604800 * w)).freq = q.freq := rfl
 have hm' := nW hf k
 have hm2 := nW (show 2 ≤ (bR q (604800 * w)).freq from hf) k
 obtain ⟨h1, h2⟩ := tB (w := w) hf hi k
 rw [n8 (by rw [hm2]; split <;> decide) fun h4 => aCq (show 0 ≤ (bR q (604800 * w)).start by show 0 ≤ q.start + 604800 * w; omega) (show 1 ≤ (bR q (604800 * w)).interval from hi) hk h4,
  n8 (by rw [hm']; split <;> decide) fun h4 => aCq hs hi hk h4, h1, h2, aDp hm hd, aBr]
 constructor
 ·rintro ⟨⟨a1, a2, a3, a4⟩, a5⟩
  exact ⟨by omega, by omega, by omega, a4⟩
 ·rintro ⟨a1, a2, a3, a4⟩
  exact ⟨⟨by omega, by omega, by omega, a4⟩, by omega⟩
theorem mR {c st en most a : Int} (ha : a ≤ st) : ∀ (L o : List Int), bW c st en most o (L.filter (fun x => decide (a ≤ x))) = bW c st en most o L
 | [], o => rfl
 | t :: l, o => by
  by_cases h : a ≤ t
  ·rw [List.filter_cons_of_pos (by simpa using h), dP, dP, mR ha l o, mR ha l]
  ·rw [List.filter_cons_of_neg (by simpa using h), dP, if_pos oM, mR ha l o]
theorem aEz (L at_ : List Int) (d : Int) : dF (L.map (· + d)) at_ = (dF L at_).map (· + d) := by
 unfold dF
 by_cases h : at_.length = 0
 ·rw [if_pos h, if_pos h]
 ·rw [if_neg h, if_neg h]
  unfold l6
  rw [List.length_map, List.map_map]
  refine List.map_congr_left fun i hi => ?_
  have hl := List.mem_range.1 (List.mem_filter.1 hi).1
  simp only [Function.comp]
  rw [List.getD_eq_getElem?_getD, List.getD_eq_getElem?_getD, List.getElem?_map, List.getElem?_eq_getElem hl]
  rfl
theorem SI.map_add' {l : List Int} (h : SI l) (d : Int) : SI (l.map (· + d)) := by
 have : l.map (· + d) = l.map (d + ·) := List.map_congr_left fun x _ => by omega
 rw [this]; exact h.map_add d
theorem SI.filter {l : List Int} (h : SI l) (p : Int → Bool) : SI (l.filter p) := List.Pairwise.filter p h
theorem vY {q : Rul} {w en most : Int} (hs : 0 ≤ q.start) (hw : 0 ≤ w) (hf : 2 ≤ q.freq) (hi : 1 ≤ q.interval) (hm : q.month = []) (hd : q.mday = []) (hp : q.setpos ≠ [] → ∀ k, 0 ≤ k → 0 ≤ pLo q k) {k : Int} (hk : 0 ≤ k) (o : List Int) :
  cX (bR q (604800 * w)) (bR q (604800 * w)).start (en + 604800 * w) most (o.map (· + 604800 * w)) (cT (bR q (604800 * w)) (cI (bR q (604800 * w))) k) = ((cX q q.start en most o (cT q (cI q) k)).1.map (· + 604800 * w), (cX q q.start en most o (cT q (cI q) k)).2) := by
 have e1 : (bR q (604800 * w)).count = q.count := rfl
 have e2 : (bR q (604800 * w)).setpos = q.setpos := rfl
 have e3 : (bR q (604800 * w)).start = q.start + 604800 * w := rfl
 have key : bW q.count (q.start + 604800 * w) (en + 604800 * w) most (o.map (· + 604800 * w)) (dF (cT (bR q (604800 * w)) (cI (bR q (604800 * w))) k) q.setpos) = ((bW q.count q.start en most o (dF (cT q (cI q) k) q.setpos)).1.map (· + 604800 * w), (bW q.count q.start en most o (dF (cT q (cI q) k) q.setpos)).2) := by
  rw [← rG]
  have hF : (cT (bR q (604800 * w)) (cI (bR q (604800 * w))) k).filter (fun x => decide (604800 * w ≤ x)) = (cT q (cI q) k).map (· + 604800 * w) := by
   refine SI.ext ((uI _ _ _).filter _) ((uI _ _ _).map_add' _) fun x => ?_
   rw [List.mem_filter, decide_eq_true_eq, aC7 hs hw hf hi hm hd hk, List.mem_map]
   constructor
   ·intro h; exact ⟨_, h, by omega⟩
   ·rintro ⟨y, hy, rfl⟩
    rw [show y + 604800 * w - 604800 * w = y by omega]; exact hy
  by_cases h0 : q.setpos = []
  ·rw [h0]
   show bW _ _ _ _ _ (cT _ _ _) = bW _ _ _ _ _ (List.map _ (cT _ _ _))
   rw [← hF, mR oM]
  ·rw [← aEz, ← hF, List.filter_eq_self.2]
   intro x hx
   have hx2 := (n8 (q := bR q (604800 * w)) (by rw [nW (show 2 ≤ (bR q (604800 * w)).freq from hf)]; split <;> decide) fun h4 => aCq (show 0 ≤ (bR q (604800 * w)).start by show 0 ≤ q.start + 604800 * w; omega) (show 1 ≤ (bR q (604800 * w)).interval from hi) hk h4).1 hx
   rw [(tB hf hi k).1] at hx2
   have := hp h0 k hk
   simp only [decide_eq_true_eq]
   omega
 unfold cX
 rw [e1, e2, e3, key]
 simp only [List.length_map]
theorem zU {q : Rul} {w en most : Int} (hs : 0 ≤ q.start) (hw : 0 ≤ w) (hf : 2 ≤ q.freq) (hi : 1 ≤ q.interval) (hm : q.month = []) (hd : q.mday = []) (hp : q.setpos ≠ [] → ∀ k, 0 ≤ k → 0 ≤ pLo q k) {k : Int} {o' m : List Int} (h : DatesP (bR q (604800 * w)) (cI (bR q (604800 * w))) (en + 604800 * w) most k o' m) :
  0 ≤ k → ∀ o, o' = o.map (· + 604800 * w) → ((o.length : Int) < most ∧ (0 < q.count → (o.length : Int) < q.count)) → ((m.length : Int) = most ∨ (0 < q.count ∧ (m.length : Int) = q.count)) → ∃ l, DatesP q (cI q) en most k o l ∧ m = l.map (· + 604800 * w) := by
 have hov : ∀ k, eE q k → eE (bR q (604800 * w)) k := fun k h => by
  have e : (bR q (604800 * w)).freq = q.freq := rfl
  unfold eE at h ⊢
  rw [rT hf hi, e]
  rcases h with h | h | h
  ·omega
  ·omega
  ·exact .inr (.inr oM)
 induction h with
 | @over k o' h =>
  rintro k0 o rfl hn hl
  rw [List.length_map] at hl
  omega
 | @stop k o' h hs2 =>
  rintro k0 o rfl hn hl
  rw [vY hs hw hf hi hm hd hp k0] at hs2 ⊢
  exact ⟨_, .stop (fun h2 => h (hov k h2)) hs2, rfl⟩
 | @more k o' m h hs2 hn2 ih =>
  rintro k0 o rfl hn hl
  rw [vY hs hw hf hi hm hd hp k0] at hs2 ih
  have hok : (cX q q.start en most o (cT q (cI q) k)).2 = true := hs2
  have hok2 := hok
  unfold cX at hok2
  simp only [Bool.and_eq_true] at hok2
  have hk2 := hok2.2
  unfold iD at hk2
  simp only [Bool.and_eq_true, Bool.or_eq_true, decide_eq_true_eq, beq_iff_eq] at hk2
  obtain ⟨l, h1, h2⟩ := ih oM _ rfl ⟨by unfold cX; exact hk2.1, fun hc => by have h3 := hk2.2; unfold cX; simp only; omega⟩ hl
  exact ⟨l, .more (fun h2 => h (hov k h2)) hok h1, h2⟩
theorem aDk {r : Rul} {w : Int} (hw : 0 ≤ w) (rp : RightP r) (hf : 2 ≤ r.freq) (hm : r.month = []) (hd : r.mday = []) (hu : r.hasUntil = false) {l m : List Int} (hl : kJ r (cI (aY r)) ((40 : Nat) : Int) l) (hm2 : kJ (bR r (604800 * w)) (cI (aY (bR r (604800 * w)))) ((40 : Nat) : Int) m) (hn : (m.length : Int) = ((40 : Nat) : Int) ∨ (0 < r.count ∧ (m.length : Int) = r.count)) : m = l.map (· + 604800 * w) := by
 obtain ⟨e1, e2, e3, e4, e5, e6, _⟩ := dG r
 obtain ⟨g1, g2, _⟩ := qD r
 have f1 : (aY r).month = [] := g1.trans (by unfold bZ; rw [if_neg (fun h => by have : r.freq = 0 := h.2.1; omega)]; exact hm)
 have f2 : (aY r).mday = [] := g2.trans (by unfold bK; rw [if_neg (fun h => by have : r.freq = 0 ∨ r.freq = 1 := h.2; omega)]; exact hd)
 unfold kJ at hl hm2
 rw [aAw hf] at hm2
 have hen : dX (bR r (604800 * w)) = dX r + 604800 * w := by
  unfold dX bR
  simp only [hu]
  simp only [Bool.false_eq_true, if_false]
  omega
 rw [hen] at hm2
 have hst : 0 ≤ (aY r).start := by rw [e1]; have := rp.t1.start; omega
 have hiv : 1 ≤ (aY r).interval := by rw [e3]; exact rp.t1.interval.1
 obtain ⟨l', h1, h2⟩ := zU (en := dX r) hst hw (by rw [e2]; exact hf) hiv f1 f2 (fun h0 k k0 => by
  rw [e6] at h0
  unfold pLo
  have hki : 0 ≤ k * (aY r).interval := Int.mul_nonneg k0 oM
  by_cases h4 : 4 ≤ (aY r).freq
  ·rw [if_pos h4]; exact (aCq hst hiv k0 h4).2.1
  ·rw [if_neg h4]
   have : 0 ≤ cG (aY r) k := by
    unfold cG
    rw [if_neg oM, if_neg oM]
    by_cases h2 : (aY r).freq = 2
    ·rw [if_pos h2, e4]
     have h7 := rp.t7 oM (by cases h : r.setpos with | nil => exact absurd h h0 | cons _ _ => simp)
     rw [← e1] at h7
     rw [Int.mul_assoc]
     omega
    ·rw [if_neg h2, if_pos oM]
     omega
   omega) hm2 (Int.le_refl _) [] rfl ⟨by decide, fun h => by simpa using h⟩ (by rw [e5]; exact hn)
 rw [h2, aDx hl h1]
end Go.Proofs.YtdbbifbmkfmbkaaGreat
namespace Go.Proofs.YtdbbifbmkfmbkaaGreat
open Go.Md Go.Tab Go.Fr
theorem Pre.congr {H H' : Int → Prop} {c most : Int} {l : List Int} (h : Pre H c most l) (e : ∀ x, H x ↔ H' x) : Pre H' c most l where
 si := h.si
 hit := fun x hx => (e x).1 (h.hit x hx)
 all := fun x hx => h.all x ((e x).2 hx)
 le := h.le
def stR (r : Rul) (s : Int) : Rul := { r with start := s }
end Go.Proofs.YtdbbifbmkfmbkaaGreat
namespace Go.Proofs.YtdbbifbmkfmbkaaGreat
open Go.Md Go.Tab Go.Fr
def GetC (k : Nat) (H : LV) (cs : List Value) : Prop := ∀ i u, cs[i]? = some u → lkp (ky k (0 + i)) H = some u
theorem GetC.put {k : Nat} {H : LV} (cs : List Value) (h : 0 + cs.length ≤ 4096) : GetC k (aC k 0 cs ++ H) cs := fP cs 0 h
theorem GetC.seq {k : Nat} {H : LV} (cs : List Value) (h : 0 + cs.length ≤ 4096) : GetC k (cU k 0 cs H) cs := aM cs 0 h
theorem GetC.upd {k : Nat} {H : LV} {cs : List Value} (h : GetC k H cs) (j : Nat) (v : Value) : GetC k ((ky k j, v) :: H) (cs.set j v) := fun i u hi => by
 rw [List.getElem?_set] at hi
 by_cases e : j = i
 ·rw [if_pos e] at hi
  subst e
  split at hi
  ·rw [Nat.zero_add]
   rw [bQ]; exact hi
  ·cases hi
 ·rw [if_neg e] at hi
  rw [aA (by unfold ky; omega)]
  exact h i u hi
theorem GetC.cons {k m j : Nat} {H : LV} {cs : List Value} {v : Value} (h : GetC k H cs) (hl : cs.length ≤ 4096) (hj : j < 4096) (hk : k ≠ m) : GetC k ((ky m j, v) :: H) cs := fun i u hi => by
 have := (List.getElem?_eq_some_iff.1 hi).1
 rw [cJ hk oM hj]
 exact h i u hi
theorem GetC.seqs {k m : Nat} (hk : k ≠ m) : ∀ (ds : List Value) (o : Nat) {H : LV} {cs : List Value}, GetC k H cs → cs.length ≤ 4096 → o + ds.length ≤ 4096 → GetC k (cU m o ds H) cs
 | [], _, _, _, h, _, _ => h
 | d :: ds, o, H, cs, h, hl, ho => by
  simp only [List.length_cons] at ho
  exact GetC.seqs hk ds (o + 1) (h.cons (v := d) hl (show o < 4096 by omega) hk) hl oM
theorem GetC.puts {k m : Nat} (hk : k ≠ m) : ∀ (ds : List Value) (o : Nat) {H : LV} {cs : List Value}, GetC k H cs → cs.length ≤ 4096 → o + ds.length ≤ 4096 → GetC k (aC m o ds ++ H) cs
 | [], _, _, _, h, _, _ => h
 | d :: ds, o, H, cs, h, hl, ho => by
  simp only [List.length_cons] at ho
  exact (GetC.puts hk ds (o + 1) h hl oM).cons (v := d) hl (show o < 4096 by omega) hk
theorem GetC.of {k : Nat} {H : LV} {cs ds : List Value} (h : GetC k H cs) (e : ds = cs) : GetC k H ds := e ▸ h
theorem sR {k : Nat} {H : LV} : ∀ (n o : Nat), (∀ i, o ≤ i → i < o + n → (lkp (ky k i) H).isSome = true) → knwn k H o n = true
 | 0, _, _ => rfl
 | n + 1, o, h => by
  unfold knwn
  rw [h o oM oM, sR n (o + 1) (fun i h1 h2 => h i oM oM)]
  rfl
theorem GetC.knwn {k : Nat} {H : LV} {cs : List Value} (h : GetC k H cs) {n : Nat} (e : cs.length = n) : Go.Fr.knwn k H 0 n = true := sR n 0 fun i _ h2 => by
 have := h i _ (List.getElem?_eq_getElem (show i < cs.length by omega))
 rw [Nat.zero_add] at this
 rw [this]; rfl
theorem InL.re {w : World} {r r' : Rul} {x : Av} (h : InL w r x) (e : r'.setpos = r.setpos ∧ r'.month = r.month ∧ r'.mday = r.mday ∧ r'.yday = r.yday ∧ r'.weekno = r.weekno ∧ r'.wday = r.wday ∧ r'.hour = r.hour ∧ r'.minute = r.minute ∧ r'.second = r.second ∧ r'.easter = r.easter) : InL w r' x := by
 obtain ⟨e9, e10, e11, e12, e13, e14, e15, e16, e17, e18⟩ := e
 exact ⟨by rw [e9]; exact h.i9, by rw [e10]; exact h.i10, by rw [e11]; exact h.i11, by rw [e12]; exact h.i12, by rw [e13]; exact h.i13, by rw [e14]; exact h.i14, by rw [e15]; exact h.i15, by rw [e16]; exact h.i16, by rw [e17]; exact h.i17, by rw [e18]; exact h.i18⟩
theorem LenL.re {r r' : Rul} (h : LenL r) (e : r'.setpos = r.setpos ∧ r'.month = r.month ∧ r'.mday = r.mday ∧ r'.yday = r.yday ∧ r'.weekno = r.weekno ∧ r'.wday = r.wday ∧ r'.hour = r.hour ∧ r'.minute = r.minute ∧ r'.second = r.second ∧ r'.easter = r.easter) : LenL r' := by
 obtain ⟨e9, e10, e11, e12, e13, e14, e15, e16, e17, e18⟩ := e
 exact ⟨by rw [e9]; exact h.l9, by rw [e10]; exact h.l10, by rw [e11]; exact h.l11, by rw [e12]; exact h.l12, by rw [e13]; exact h.l13, by rw [e14]; exact h.l14, by rw [e15]; exact h.l15, by rw [e16]; exact h.l16, by rw [e17]; exact h.l17, by rw [e18]; exact h.l18⟩
theorem CapL.re {r r' : Rul} {x : Av} (h : CapL r x) (e : r'.setpos = r.setpos ∧ r'.month = r.month ∧ r'.mday = r.mday ∧ r'.yday = r.yday ∧ r'.weekno = r.weekno ∧ r'.wday = r.wday ∧ r'.hour = r.hour ∧ r'.minute = r.minute ∧ r'.second = r.second ∧ r'.easter = r.easter) : CapL r' x := by
 obtain ⟨e9, e10, e11, e12, e13, e14, e15, e16, e17, e18⟩ := e
 exact ⟨by rw [e9]; exact h.c9, by rw [e10]; exact h.c10, by rw [e11]; exact h.c11, by rw [e12]; exact h.c12, by rw [e13]; exact h.c13, by rw [e14]; exact h.c14, by rw [e15]; exact h.c15, by rw [e16]; exact h.c16, by rw [e17]; exact h.c17, by rw [e18]; exact h.c18⟩
theorem du_2 {r : Rul} (hl : LenL r) (hf : 2 ≤ r.freq) : RightP r → aBu (aY (bI r)) (cI (aY (bI r))) := fun rp =>
 aH9 (r := bI r) ⟨hf, rp.t1.freq.2⟩ (show r.yday.length = 0 ∧ r.weekno.length = 0 ∧ r.easter.length = 0 from kY rp oM) (rZ hl)
theorem aBv {r : Rul} (hf : 2 ≤ r.freq) : RightP r → pX r (cI (aY r)) := fun rp => by
 have := rp.t1.freq
 rcases (show (r.freq = 2 ∨ r.freq = 3) ∨ (4 ≤ r.freq ∧ r.freq ≤ 6) by omega) with h | h
 ·exact yN rp h
 ·exact zM rp h
theorem aAm {r : Rul} (h : r.hasUntil = false) (h2 : r.untl = 0) : bI r = r := by cases r; simp only at h h2; subst h h2; rfl
theorem aGd {r : Rul} {m : Nat} (hu : r.hasUntil = false) (h2 : r.untl = 0) (rp : RightP r) (h : ∃ l, kJ (bI r) (cI (aY (bI r))) ((m : Int) + 1) l ∧ ((l.length : Int) = (m : Int) + 1 ∨ (0 < r.count ∧ (l.length : Int) = r.count))) : ∃ l, kJ r (cI (aY r)) (m : Int) l ∧ ((l.length : Int) = m ∨ (0 < r.count ∧ (l.length : Int) = r.count)) := by
 obtain ⟨l, h3, h4⟩ := h
 rw [aAm hu h2] at h3
 have e5 := (dG r).2.2.2.2.1
 have hc := rp.t1.count
 have := aDh (q := aY r) (dayF := cI (aY r)) (en := dX r) (m := (m : Int)) (M := (m : Int) + 1) oM (by rw [e5]; exact hc.1) h3 ⟨by simp, fun h => by rw [e5]; simpa using hc.1⟩ (by rw [e5]; exact h4)
 rw [e5] at this
 exact this
theorem aG7 {r : Rul} {m : Nat} (h : ∃ l, kJ (bI r) (cI (aY (bI r))) ((m : Int) + 1) l ∧ ((l.length : Int) = (m : Int) + 1 ∨ (0 < r.count ∧ (l.length : Int) = r.count))) : ∃ l, kJ r (cI (aY r)) (m : Int) l ∧ True := by
 obtain ⟨l, h⟩ := aCw h
 exact ⟨l, h, trivial⟩
end Go.Proofs.YtdbbifbmkfmbkaaGreat
namespace Go.Proofs.YtdbbifbmkfmbkaaGreat
open Go.RowKit Go.Fr Go.Tab
end Go.Proofs.YtdbbifbmkfmbkaaGreat
namespace Go.Proofs.YtdbbifbmkfmbkaaGreat
open Go.Md Go.Tab Go.Fr
def aI6 (f : Int) : Int := if f = 2 then 604800 else if f = 3 then 86400 else UN f
end Go.Proofs.YtdbbifbmkfmbkaaGreat
namespace Go.Proofs.YtdbbifbmkfmbkaaGreat
open Go.RowKit Go.Fr Go.Tab
section
variable {F : Nat → Prop} {w0 : World} {B : LN} {H : LV} {S : LS}
open Go.Md
def nJ (f : Int) : Int := if f < 2 ∨ 6 < f then 0 else aI6 f
theorem sF (f : Int) (hf : 0 ≤ f ∧ f < 256) (w : World) : Calls Tryz.prog 15 #[.int .u8 f] w fun e w' => e = .returned (iV (nJ f)) ∧ Below w.heap.size w w' := by
 refine aK (args := [.int .u8 f]) (L := [(0, .int .u8 f)]) (N := 14) Tryz.func15 rfl rfl ble rfl (sS w) ?_
 refine g9 ?_
 by_cases h1 : f < 2
 ·refine rl ((cO rfl rfl).to bT) ?_
  refine lZ ?_
  refine gR rfl fun w_ s_ => ⟨?_, s_.aJ8⟩
  first | rfl | (unfold nJ; rw [if_pos oM])
 ·refine rZ4 ((cO rfl rfl).to bF) ?_
  by_cases h2 : 6 < f
  ·refine rl ((cA rfl rfl).to bT) ?_
   refine kQ ?_
   refine gR rfl fun w_ s_ => ⟨?_, s_.aJ8⟩
   first | rfl | (unfold nJ; rw [if_pos oM])
  ·refine wZ7 ((cA rfl rfl).to bF) ?_
   rcases (show f = 2 ∨ f = 3 ∨ f = 4 ∨ f = 5 ∨ f = 6 by omega) with rfl | rfl | rfl | rfl | rfl
   ·refine g1 ?_
    refine gL (eK 20 (e := 2) (sz := 1) (n := 5) (vs := [(0, iV 604800), (1, iV 86400), (2, iV 3600), (3, iV 60), (4, iV 1)]) (cs := [iV 604800, iV 86400, iV 3600, iV 60, iV 1]) dE rfl kW rfl dE dE rfl (fun b1_ hbb1_ => ?_))
    refine g1 ?_
    refine rl (jI rfl rfl) ?_
    refine rl (aF (e := 2) (n := 1) kR rfl rfl dE dE) ?_
    refine rZ4 (bP 20 rfl rfl rfl rfl kR) ?_
    refine gR rfl fun w_ s_ => ⟨?_, s_.aJ8⟩
    first | rfl | (unfold nJ; rw [if_pos oM])
   ·refine g1 ?_
    refine gL (eK 20 (e := 2) (sz := 1) (n := 5) (vs := [(0, iV 604800), (1, iV 86400), (2, iV 3600), (3, iV 60), (4, iV 1)]) (cs := [iV 604800, iV 86400, iV 3600, iV 60, iV 1]) dE rfl kW rfl dE dE rfl (fun b2_ hbb2_ => ?_))
    refine g1 ?_
    refine rl (jI rfl rfl) ?_
    refine rl (aF (e := 2) (n := 1) kR rfl rfl dE dE) ?_
    refine rZ4 (bP 20 rfl rfl rfl rfl kR) ?_
    refine gR rfl fun w_ s_ => ⟨?_, s_.aJ8⟩
    first | rfl | (unfold nJ; rw [if_pos oM])
   ·refine g1 ?_
    refine gL (eK 20 (e := 2) (sz := 1) (n := 5) (vs := [(0, iV 604800), (1, iV 86400), (2, iV 3600), (3, iV 60), (4, iV 1)]) (cs := [iV 604800, iV 86400, iV 3600, iV 60, iV 1]) dE rfl kW rfl dE dE rfl (fun b3_ hbb3_ => ?_))
    refine g1 ?_
    refine rl (jI rfl rfl) ?_
    refine rl (aF (e := 2) (n := 1) kR rfl rfl dE dE) ?_
    refine rZ4 (bP 20 rfl rfl rfl rfl kR) ?_
    refine gR rfl fun w_ s_ => ⟨?_, s_.aJ8⟩
    first | rfl | (unfold nJ; rw [if_pos oM])
   ·refine g1 ?_
    refine gL (eK 20 (e := 2) (sz := 1) (n := 5) (vs := [(0, iV 604800), (1, iV 86400), (2, iV 3600), (3, iV 60), (4, iV 1)]) (cs := [iV 604800, iV 86400, iV 3600, iV 60, iV 1]) dE rfl kW rfl dE dE rfl (fun b4_ hbb4_ => ?_))
    refine g1 ?_
    refine rl (jI rfl rfl) ?_
    refine rl (aF (e := 2) (n := 1) kR rfl rfl dE dE) ?_
    refine rZ4 (bP 20 rfl rfl rfl rfl kR) ?_
    refine gR rfl fun w_ s_ => ⟨?_, s_.aJ8⟩
    first | rfl | (unfold nJ; rw [if_pos oM])
   ·refine g1 ?_
    refine gL (eK 20 (e := 2) (sz := 1) (n := 5) (vs := [(0, iV 604800), (1, iV 86400), (2, iV 3600), (3, iV 60), (4, iV 1)]) (cs := [iV 604800, iV 86400, iV 3600, iV 60, iV 1]) dE rfl kW rfl dE dE rfl (fun b5_ hbb5_ => ?_))
    refine g1 ?_
    refine rl (jI rfl rfl) ?_
    refine rl (aF (e := 2) (n := 1) kR rfl rfl dE dE) ?_
    refine rZ4 (bP 20 rfl rfl rfl rfl kR) ?_
    refine gR rfl fun w_ s_ => ⟨?_, s_.aJ8⟩
    first | rfl | (unfold nJ; rw [if_pos oM])
theorem moved_walk (r : Rul) (x : Av) (a : Int) (ha : 0 ≤ a ∧ a < 256) (w : World) (hr : RIn w r x) : Calls Tryz.prog 11 #[.agg (aZ r x).toArray, .int .u8 a] w fun e w' => e = .returned (.bool true) ∧ Below w.heap.size w w' := by
 have hin := hr.inl
 have hfb := hr.freq.1
 have hcap := CapL.of hr
 refine aK (args := [.agg (aZ r x).toArray, .int .u8 a]) (L := [(0, .agg (aZ r x).toArray), (1, .int .u8 a)]) (N := 95) Tryz.func11 rfl rfl ble rfl (sS w) ?_
 refine g2 ?_
 refine gL (fS 50 (cs := aZ r x) dE rfl rfl rfl (fun o ho => rfl) ble (fun b1 hb1 => ?_))
 refine g6 ?_
 refine rl ((dR 50 (cs := aZ r x) rfl rfl (fP (aZ r x) 0 ble) ble kR)) ?_
 refine gL (cbx (fun b : Bool => .bool b) (fun b => b = true → LenL r) rfl (fun w_ s_ => yM r x w_) (fun zb hzb => ?_))
 refine g3 ?_
 refine aB rfl (fun hc1 => ?_) (fun hc2 => ?_)
 ·refine g7 ?_
  exact gR rfl fun w_ s_ => ⟨rfl, s_.aJ8⟩
 ·have hl : LenL r := hzb (by simpa using hc2)
  have hl10 := hl.l10
  have hl11 := hl.l11
  refine g5 ?_
  refine rl (rfa 0) ?_
  refine rl (rld 50 rfl rfl rfl) ?_
  refine gL (cvo (v := iV (nJ r.freq)) rfl (fun w_ s_ => sF r.freq ⟨hfb, by have := hr.freq.2; omega⟩ w_) ?_)
  by_cases hU0 : nJ r.freq = 0
  ·refine rl ((aR rfl rfl).to eT) ?_
   refine nA ?_
   refine gL (cvo rfl (fun w_ s_ => jG w_) ?_)
   refine g5 ?_
   exact gR rfl fun w_ s_ => ⟨rfl, s_.aJ8⟩
  ·have hf2 : 2 ≤ r.freq := by
    unfold nJ at hU0
    split at hU0
    ·exact absurd rfl hU0
    ·omega
   refine rZ2 ((aR rfl rfl).to eF) ?_
   refine rZ1 (rfa 9) ?_
   refine rZ3 (rld 50 rfl rfl rfl) ?_
   refine rZ1 (rfa 10) ?_
   refine rZ5 (rld 50 rfl rfl rfl) ?_
   by_cases hp : 0 < (r.month.length : Int) + (r.mday.length : Int)
   ·refine wZ6 ((cA rfl rfl).to bT) ?_
    refine gL (cvo rfl (fun w_ s_ => jG w_) ?_)
    refine g5 ?_
    exact gR rfl fun w_ s_ => ⟨rfl, s_.aJ8⟩
   ·refine rl ((cA rfl rfl).to bF) ?_
    refine g3 ?_
    refine aQ rfl rfl ?_
    refine g5 ?_
    refine rl ((wX rfl rfl dE).to (v' := .int .u8 (a % 200)) (congrArg (Value.int .u8) (Int.tmod_eq_emod_of_nonneg oM))) ?_
    refine rZ1 (nR rfl kR kR oM) ?_
    refine rZ5 ((sK rfl rfl oM).to (v' := iV (604800 * (a % 200))) (congrArg (Value.int .i64) oM)) ?_
    refine rl (rfa 6) ?_
    refine gL (sto 50 rfl rfl rfl rfl ?_)
    refine rl (rfa 7) ?_
    refine gL (sto 50 rfl rfl rfl rfl ?_)
    refine g4 ?_
    refine rl ((dR 50 (cs := aZ (bI r) x) rfl rfl (((((GetC.put (aZ r x) ble).upd 6 (.bool false)).upd 7 (iV 0)).of (ds := aZ (bI r) x) rfl)) ble kR)) ?_
    refine gL (eD 51 (cs := zL1) dE kR rfl (fun o ho => by repeat (first | rfl | rw [aA (by unfold ky; omega)] | rw [aI dE ho _ _ ble])) ble (fun b5 hb5 => ?_))
    refine gL (cD 51 (cs := (aZ (bI r) x).toArray) rfl rfl rfl (dN (fO zL1 ble) 0 18 ble) kR rfl ble ?_)
    refine g4 ?_
    refine rl (rfa 2) ?_
    refine rZ1 ((bB 51 rfl rfl (aM (j := 51) (aZ (bI r) x) 0 ble 2 _ rfl) kR dE).to (v' := iV r.start) rfl) ?_
    refine rl (aBt rfl rfl) ?_
    refine rl (rfa 2) ?_
    refine gL (cS 51 rfl rfl rfl (aM (j := 51) (aZ (bI r) x) 0 ble 2 _ rfl) kR rfl dE ?_)
    refine g4 ?_
    refine rl ((dR 50 (cs := aZ (bI r) x) rfl rfl (GetC.cons (GetC.seqs dE _ 0 (GetC.puts dE _ 0 ((((GetC.put (aZ r x) ble).upd 6 (.bool false)).upd 7 (iV 0)).of (ds := aZ (bI r) x) rfl) ble ble) ble ble) ble dE dE) ble kR)) ?_
    refine gL (crx (ι := Bool × List Int × Option Addr × Nat) 11 (fun z_ => .tuple #[.slice z_.2.2.1 z_.2.1.length z_.2.2.2, .bool z_.1, .bool true]) (fun z_ => (z_.1 = true → RightP (bI r) ∧ kJ (bI r) (cI (aY (bI r))) ((40 : Nat) : Int) z_.2.1 ∧ (fun _ => True) z_.2.1) ∧ (z_.1 = false → z_.2.1 = [])) (fun z_ => ⟨.slice z_.2.2.1 z_.2.1.length z_.2.2.2, 2, 1, z_.2.1.length, (z_.2.1.map iV)⟩) rfl (fun w_ s_ => (r5 (bI r) x hfb (hl.re ⟨rfl, rfl, rfl, rfl, rfl, rfl, rfl, rfl, rfl, rfl⟩) (hcap.re ⟨rfl, rfl, rfl, rfl, rfl, rfl, rfl, rfl, rfl, rfl⟩) 40 dE (fun _ => True) (du_2 (hl.re ⟨rfl, rfl, rfl, rfl, rfl, rfl, rfl, rfl, rfl, rfl⟩) hf2) (aBv hf2) (fun _ => aG7) w_ (InL.re (InL.see s_ hin) ⟨rfl, rfl, rfl, rfl, rfl, rfl, rfl, rfl, rfl, rfl⟩)).mono fun e w' ⟨b, l, p, c, h1, h2, h3, h4⟩ => ⟨(b, l, p, c), ⟨h1, h2⟩, h3, h4⟩) (fun | (q1, l1, p1, c1), ⟨hy1, hn1⟩ => ?_))
    refine g11 ?_
    refine rl ((dR 51 (cs := aZ (stR (bI r) (IntKind.i64.wrap (r.start + 604800 * (a % 200)))) x) rfl rfl ((((GetC.seq (aZ (bI r) x) ble).upd 2 (iV (IntKind.i64.wrap (r.start + 604800 * (a % 200))))).of (ds := aZ (stR (bI r) (IntKind.i64.wrap (r.start + 604800 * (a % 200)))) x) rfl)) ble kR)) ?_
    refine gL (crx (ι := Bool × List Int × Option Addr × Nat) 13 (fun z_ => .tuple #[.slice z_.2.2.1 z_.2.1.length z_.2.2.2, .bool z_.1, .bool true]) (fun z_ => (z_.1 = true → RightP (stR (bI r) (IntKind.i64.wrap (r.start + 604800 * (a % 200)))) ∧ kJ (stR (bI r) (IntKind.i64.wrap (r.start + 604800 * (a % 200)))) (cI (aY (stR (bI r) (IntKind.i64.wrap (r.start + 604800 * (a % 200)))))) ((40 : Nat) : Int) z_.2.1 ∧ (fun l => (l.length : Int) = ((40 : Nat) : Int) ∨ (0 < r.count ∧ (l.length : Int) = r.count)) z_.2.1) ∧ (z_.1 = false → z_.2.1 = [])) (fun z_ => ⟨.slice z_.2.2.1 z_.2.1.length z_.2.2.2, 2, 1, z_.2.1.length, (z_.2.1.map iV)⟩) rfl (fun w_ s_ => (r5 (stR (bI r) (IntKind.i64.wrap (r.start + 604800 * (a % 200)))) x hfb (hl.re ⟨rfl, rfl, rfl, rfl, rfl, rfl, rfl, rfl, rfl, rfl⟩) (hcap.re ⟨rfl, rfl, rfl, rfl, rfl, rfl, rfl, rfl, rfl, rfl⟩) 40 dE (fun l => (l.length : Int) = ((40 : Nat) : Int) ∨ (0 < r.count ∧ (l.length : Int) = r.count)) (du_2 (hl.re ⟨rfl, rfl, rfl, rfl, rfl, rfl, rfl, rfl, rfl, rfl⟩) hf2) (aBv hf2) (aGd rfl rfl) w_ (InL.re (InL.see s_ hin) ⟨rfl, rfl, rfl, rfl, rfl, rfl, rfl, rfl, rfl, rfl⟩)).mono fun e w' ⟨b, l, p, c, h1, h2, h3, h4⟩ => ⟨(b, l, p, c), ⟨h1, h2⟩, h3, h4⟩) (fun | (q2, l2, p2, c2), ⟨hy2, hn2⟩ => ?_))
    refine g13 ?_
    rcases bO ((!q1)) with hb1 | hb1
    ·refine rl ((gH rfl).to (v' := .bool true) (cB hb1)) ?_
     refine g6 ?_
     refine bL rfl rfl ?_
     refine g2 ?_
     refine gL (cvo rfl (fun w_ s_ => jG w_) ?_)
     refine g5 ?_
     exact gR rfl fun w_ s_ => ⟨rfl, s_.aJ8⟩
    ·obtain ⟨hR1, hF1, _⟩ := hy1 (by simpa using hb1)
     have hll1 : l1.length ≤ 40 := by have h_ : (l1.length : Int) ≤ ((40 : Nat) : Int) := vQ hF1 (by simp); omega
     refine rZ4 ((gH rfl).to (v' := .bool false) (cB hb1)) ?_
     rcases bO ((!q2)) with hb2 | hb2
     ·refine wZ6 ((gH rfl).to (v' := .bool true) (cB hb2)) ?_
      refine gL (cvo rfl (fun w_ s_ => jG w_) ?_)
      refine g5 ?_
      exact gR rfl fun w_ s_ => ⟨rfl, s_.aJ8⟩
     ·obtain ⟨hR2, hF2, hN2⟩ := hy2 (by simpa using hb2)
      have hd9 : Cal.daysTo 9000 = 3286817 := by decide
      have hs0 : 1 ≤ r.start ∧ r.start < Cal.daysTo 9000 * 86400 := hR1.t1.start
      have hwr : IntKind.i64.wrap (r.start + 604800 * (a % 200)) = r.start + 604800 * (a % 200) := jL oM
      rw [hwr] at hR2 hF2
      have hlm : l2 = l1.map (· + 604800 * (a % 200)) := aDk (r := bI r) (w := a % 200) oM hR1 hf2 (List.eq_nil_of_length_eq_zero (show r.month.length = 0 by omega)) (List.eq_nil_of_length_eq_zero (show r.mday.length = 0 by omega)) rfl hF1 hF2 hN2
      subst hlm
      refine rl ((gH rfl).to (v' := .bool false) (cB hb2)) ?_
      refine g3 ?_
      refine aQ rfl rfl ?_
      refine g20 ?_
      refine g3 ?_
      refine rl ((cH rfl rfl).to (v' := .bool false) (cB (i7 (by rw [List.length_map])))) ?_
      refine nA ?_
      refine bG (ι := (Nat)) (fun k => l1.length - k) (fun k => (k ≤ l1.length)) (fun k => [(5, iV (604800 * (a % 200))), (10, .slice p2 (l1.map (· + 604800 * (a % 200))).length c2), (78, .slice p1 l1.length c1), (79, iV (l1.length)), (80, iV k)]) (fun k => [(51, b5), (50, b1)]) (fun k => ((ky 51 2, iV (IntKind.i64.wrap (r.start + 604800 * (a % 200)))) :: cU 51 0 (aZ (bI r) x) (aC 51 0 zL1 ++ ((ky 50 7, iV 0) :: (ky 50 6, .bool false) :: (aC 50 0 (aZ r x) ++ []))))) (fun k => [(13, ⟨.slice p2 (l1.map (· + 604800 * (a % 200))).length c2, 2, 1, (l1.map (· + 604800 * (a % 200))).length, ((l1.map (· + 604800 * (a % 200))).map iV)⟩), (11, ⟨.slice p1 l1.length c1, 2, 1, l1.length, (l1.map iV)⟩)]) 0 (Nat.zero_le _) kns (fun w s => by exact s) ?_
      rintro k hk
      show GC _ _ _ _ [(5, iV (604800 * (a % 200))), (10, .slice p2 (l1.map (· + 604800 * (a % 200))).length c2), (78, .slice p1 l1.length c1), (79, iV (l1.length)), (80, iV k)] _ _ ([(51, b5), (50, b1)]) (((ky 51 2, iV (IntKind.i64.wrap (r.start + 604800 * (a % 200)))) :: cU 51 0 (aZ (bI r) x) (aC 51 0 zL1 ++ ((ky 50 7, iV 0) :: (ky 50 6, .bool false) :: (aC 50 0 (aZ r x) ++ []))))) ([(13, ⟨.slice p2 (l1.map (· + 604800 * (a % 200))).length c2, 2, 1, (l1.map (· + 604800 * (a % 200))).length, ((l1.map (· + 604800 * (a % 200))).map iV)⟩), (11, ⟨.slice p1 l1.length c1, 2, 1, l1.length, (l1.map iV)⟩)])
      refine g6 ?_
      refine aB rfl (fun hc1 => ?_) (fun hc2 => ?_)
      ·have hlt : k < l1.length := by have := oT hc1; omega
       obtain ⟨y, hy⟩ : ∃ y, l1[k]? = some y := ⟨_, List.getElem?_eq_getElem oM⟩
       have hy2_ : (l1.map (· + 604800 * (a % 200)))[k]? = some (y + 604800 * (a % 200)) := by rw [List.getElem?_map, hy]; rfl
       have hyb : (bI r).start ≤ y ∧ y ≤ dX (bI r) := by
        obtain ⟨_, _, _, h1_, h2_⟩ := (aD8 hR1 hf2 hF1).hit y (List.mem_of_getElem? hy)
        exact ⟨by rw [(dG _).1] at h1_; exact h1_, h2_⟩
       have hyc := aB9 hR1
       have hyd : r.start ≤ y := hyb.1
       refine eC (fun w s => s.head 11 rfl oM) (fun ⟨bl, hpl, hcl⟩ => ?_)
       subst hpl
       refine eC (fun w s => s.head 13 rfl (by rw [List.length_map]; omega)) (fun ⟨bm, hpm, hcm⟩ => ?_)
       subst hpm
       have hlm_ : (l1.map (· + 604800 * (a % 200))).length = l1.length := List.length_map ..
       refine g7 ?_
       refine rl (aF (e := 2) (n := 1) kR rfl rfl oM oM) ?_
       refine rl (kO 11 rfl rfl (by rw [← hy]; congr 1; omega) kR) ?_
       refine g8 ?_
       refine rl (aF (e := 2) (n := 1) kR rfl rfl oM oM) ?_
       refine rZ3 (kO 13 rfl rfl (by rw [← hy2_]; congr 1; omega) kR) ?_
       refine rl ((cH rfl rfl).to (v' := .bool false) (cB (i7 oM))) ?_
       refine g2 ?_
       refine aQ rfl rfl ?_
       refine g7 ?_
       refine aP (k + 1) oM oM kns (fun w s => by exact s)
      ·have hge : k = l1.length := by have := oF hc2; omega
       refine g7 ?_
       refine gL (cvo rfl (fun w_ s_ => jG w_) ?_)
       refine g4 ?_
       exact gR rfl fun w_ s_ => ⟨rfl, s_.aJ8⟩
end
end Go.Proofs.YtdbbifbmkfmbkaaGreat
namespace Go.Proofs.YtdbbifbmkfmbkaaGreat
open Go.RowKit Go.Fr Go.Tab
end Go.Proofs.YtdbbifbmkfmbkaaGreat
namespace Go.Proofs.YtdbbifbmkfmbkaaGreat
end Go.Proofs.YtdbbifbmkfmbkaaGreat
