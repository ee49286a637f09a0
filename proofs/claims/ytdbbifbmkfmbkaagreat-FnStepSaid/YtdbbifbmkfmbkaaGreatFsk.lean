import Derived.Test.YtdbbifbmkfmbkaaGreatFsj
set_option linter.unusedVariables false
set_option linter.unusedSimpArgs false
set_option maxRecDepth 100000
set_option maxHeartbeats 8000000
namespace Go.Proofs.YtdbbifbmkfmbkaaGreat
open Go.Md Go.Tab Go.Fr
theorem kC {r : Rul} {u dy : Int} (h : UD r u dy) (k : Int) : pAt (bD r) k = (r.start / u + k * r.interval) * u ∧ dC (bD r) k = (r.start / u + k * r.interval) / dy ∧ UN (bD r).freq = u ∧ cT r.freq = dy ∧ u * dy = 86400 ∧ 1 ≤ u := by
 obtain ⟨e1, e2, e3, _⟩ := dH r
 unfold dC pAt UN
 rw [e1, e2, e3]
 generalize k * r.interval = z
 rcases h with ⟨rfl, rfl, hf⟩ | ⟨rfl, rfl, hf⟩ | ⟨rfl, rfl, hf⟩ <;> rw [hf] <;> simp [cT] <;> omega
theorem wU {r : Rul} (h : 4 ≤ r.freq ∧ r.freq ≤ 6) : ∃ u dy, UD r u dy := by
 rcases (show r.freq = 4 ∨ r.freq = 5 ∨ r.freq = 6 by omega) with h | h | h
 ·exact ⟨3600, 24, .inl ⟨rfl, rfl, h⟩⟩
 ·exact ⟨60, 1440, .inr (.inl ⟨rfl, rfl, h⟩)⟩
 ·exact ⟨1, 86400, .inr (.inr ⟨rfl, rfl, h⟩)⟩
def fR (q : Ru) (s : It) : List Int := if cG q s then Md.fill q s else []
theorem xL {r : Rul} {wF : Int → List Int} {nF : Int → Int → List Int} {eF : Int → List Int} (rp : RightP r) {u dy : Int} (h : UD r u dy) {s : It} (h1 : 0 ≤ s.h ∧ s.h ≤ 23) (h2 : 0 ≤ s.mi ∧ s.mi ≤ 59) (h3 : 0 ≤ s.s ∧ s.s ≤ 59) (D : Int) :
  SI (fR (bC (aC r) wF nF eF) s) ∧ iN (bD r).hour (bD r).minute (bD r).second D (D * 86400 + bZ r.freq s * u) u = (fR (bC (aC r) wF nF eF) s).map (D * 86400 + ·) := by
 obtain ⟨_, _, _, f4, f5, f6⟩ := n7 r
 obtain ⟨_, p2, p3⟩ := lL rp
 have hq : (bC (aC r) wF nF eF).freq = r.freq := rfl
 rw [f4, f5, f6]
 have hh : (bC (aC r) wF nF eF).hour = cA (aC r) := rfl
 have hm : (bC (aC r) wF nF eF).minute = bA (aC r) := rfl
 have hs : (bC (aC r) wF nF eF).second = bG (aC r) := rfl
 have key : ∀ T : List Int, SI T → fR (bC (aC r) wF nF eF) s = T → (∀ t, t ∈ T ↔ 0 ≤ t ∧ t < 86400 ∧ bZ r.freq s * u ≤ t ∧ t < bZ r.freq s * u + u ∧ aF (cA (aC r)) (t / 3600) = true ∧ aF (bA (aC r)) (t / 60 % 60) = true ∧ aF (bG (aC r)) (t % 60) = true) →
   SI (fR (bC (aC r) wF nF eF) s) ∧ iN (cA (aC r)) (bA (aC r)) (bG (aC r)) D (D * 86400 + bZ r.freq s * u) u = (fR (bC (aC r) wF nF eF) s).map (D * 86400 + ·) := by
  intro T hT e hmem
  rw [e]
  refine ⟨hT, u6 hT fun t => (hmem t).trans ⟨?_, ?_⟩⟩
  ·rintro ⟨a1, a2, a3, a4, a5⟩; exact ⟨a1, a2, by omega, by omega, a5⟩
  ·rintro ⟨a1, a2, a3, a4, a5⟩; exact ⟨a1, a2, by omega, by omega, a5⟩
 rcases h with ⟨rfl, rfl, hf⟩ | ⟨rfl, rfl, hf⟩ | ⟨rfl, rfl, hf⟩
 ·have P2 : PartOk (bA (aC r)) 60 := p2 oM
  have P3 : PartOk (bG (aC r)) 60 := p3 oM
  have P1 : PartOk [s.h] 24 := PartOk.one ⟨h1.1, by omega⟩
  have hsl : bZ r.freq s = s.h := by unfold bZ; rw [if_pos hf]
  have hok : cG (bC (aC r) wF nF eF) s = aF (cA (aC r)) s.h := by unfold cG; rw [hq, hf, hh]; simp
  have hfill : Md.fill (bC (aC r) wF nF eF) s = kJ [s.h] (bA (aC r)) (bG (aC r)) := by unfold Md.fill; rw [hq, if_pos hf, hm, hs]
  cases hb : aF (cA (aC r)) s.h with
  | true =>
   refine key _ (mG P1 P2 P3) (by unfold fR; rw [hok, hb, if_pos rfl, hfill]) fun t => ?_
   rw [l3 P1 P2 P3, P2.among, P3.among, hsl, List.mem_singleton]
   constructor
   ·rintro ⟨a1, a2, a3, a4, a5⟩; exact ⟨a1, a2, by omega, by omega, by rw [a3]; exact hb, a4, a5⟩
   ·rintro ⟨a1, a2, a3, a4, a5, a6, a7⟩; exact ⟨a1, a2, by omega, a6, a7⟩
  | false =>
   refine key [] (by simp [SI]) (by unfold fR; rw [hok, hb]; rfl) fun t => ⟨fun h => by simp at h, ?_⟩
   rintro ⟨a1, a2, a3, a4, a5, a6, a7⟩
   rw [hsl] at a3 a4
   rw [show t / 3600 = s.h by omega, hb] at a5; cases a5
 ·have P3 : PartOk (bG (aC r)) 60 := p3 oM
  have P1 : PartOk [s.h] 24 := PartOk.one ⟨h1.1, by omega⟩
  have P2 : PartOk [s.mi] 60 := PartOk.one ⟨h2.1, by omega⟩
  have hsl : bZ r.freq s = s.h * 60 + s.mi := by unfold bZ; rw [if_neg oM, if_pos hf]
  have hok : cG (bC (aC r) wF nF eF) s = (aF (cA (aC r)) s.h && aF (bA (aC r)) s.mi) := by unfold cG; rw [hq, hf, hh, hm]; simp
  have hfill : Md.fill (bC (aC r) wF nF eF) s = kJ [s.h] [s.mi] (bG (aC r)) := by unfold Md.fill; rw [hq, if_neg oM, if_pos hf, hs]
  cases hb : (aF (cA (aC r)) s.h && aF (bA (aC r)) s.mi) with
  | true =>
   obtain ⟨b1, b2⟩ := Bool.and_eq_true_iff.1 hb
   refine key _ (mG P1 P2 P3) (by unfold fR; rw [hok, hb, if_pos rfl, hfill]) fun t => ?_
   rw [l3 P1 P2 P3, P3.among, hsl, List.mem_singleton, List.mem_singleton]
   constructor
   ·rintro ⟨a1, a2, a3, a4, a5⟩; exact ⟨a1, a2, by omega, by omega, by rw [a3]; exact b1, by rw [a4]; exact b2, a5⟩
   ·rintro ⟨a1, a2, a3, a4, a5, a6, a7⟩; exact ⟨a1, a2, by omega, by omega, a7⟩
  | false =>
   refine key [] (by simp [SI]) (by unfold fR; rw [hok, hb]; rfl) fun t => ⟨fun h => by simp at h, ?_⟩
   rintro ⟨a1, a2, a3, a4, a5, a6, a7⟩
   rw [hsl] at a3 a4
   rw [show t / 3600 = s.h by omega] at a5
   rw [show t / 60 % 60 = s.mi by omega] at a6
   rw [a5, a6] at hb; cases hb
 ·have hsl : bZ r.freq s = s.h * 3600 + s.mi * 60 + s.s := by unfold bZ; rw [if_neg oM, if_neg oM]
  have hok : cG (bC (aC r) wF nF eF) s = ((aF (cA (aC r)) s.h && aF (bA (aC r)) s.mi) && aF (bG (aC r)) s.s) := by unfold cG; rw [hq, hf, hh, hm, hs]; simp
  have hfill : Md.fill (bC (aC r) wF nF eF) s = [s.h * 3600 + s.mi * 60 + s.s] := by unfold Md.fill; rw [hq, if_neg oM, if_neg oM]
  cases hb : ((aF (cA (aC r)) s.h && aF (bA (aC r)) s.mi) && aF (bG (aC r)) s.s) with
  | true =>
   obtain ⟨b1, b3⟩ := Bool.and_eq_true_iff.1 hb
   obtain ⟨b1, b2⟩ := Bool.and_eq_true_iff.1 b1
   refine key [s.h * 3600 + s.mi * 60 + s.s] (by simp [SI]) (by unfold fR; rw [hok, hb, if_pos rfl, hfill]) fun t => ?_
   rw [hsl, List.mem_singleton]
   constructor
   ·intro e; exact ⟨by omega, by omega, by omega, by omega, by rw [show t / 3600 = s.h by omega]; exact b1, by rw [show t / 60 % 60 = s.mi by omega]; exact b2, by rw [show t % 60 = s.s by omega]; exact b3⟩
   ·rintro ⟨a1, a2, a3, a4, _⟩; omega
  | false =>
   refine key [] (by simp [SI]) (by unfold fR; rw [hok, hb]; rfl) fun t => ⟨fun h => by simp at h, ?_⟩
   rintro ⟨a1, a2, a3, a4, a5, a6, a7⟩
   rw [hsl] at a3 a4
   rw [show t / 3600 = s.h by omega] at a5
   rw [show t / 60 % 60 = s.mi by omega] at a6
   rw [show t % 60 = s.s by omega] at a7
   rw [a5, a6, a7] at hb; cases hb
theorem r7 {u dy a : Int} (hu : u * dy = 86400) (h1 : 1 ≤ u) : a * u = a / dy * 86400 + a % dy * u := by
 have h := Int.mul_ediv_add_emod a dy
 conv => lhs; rw [← h]
 rw [Int.add_mul, ← hu, Int.mul_comm dy (a / dy), Int.mul_assoc, Int.mul_comm dy u]
def R46 (r : Rul) (q : Ru) (k : Int) (s : It) : Prop := ∃ u dy, UD r u dy ∧ Cal.dayNo s.y s.mo s.d = (r.start / u + k * r.interval) / dy ∧ bZ r.freq s = (r.start / u + k * r.interval) % dy ∧ s.ts = fR q s
theorem aCl {r : Rul} {wF : Int → List Int} {nF : Int → Int → List Int} {eF : Int → List Int} (rp : RightP r) {u dy : Int} (h : UD r u dy) (dayF : Int → Bool) {s : It} (h2 : 0 ≤ s.mi ∧ s.mi ≤ 59) (h3 : 0 ≤ s.s ∧ s.s ≤ 59) {j : Int}
  (hno : cG (bC (aC r) wF nF eF) (bO r.freq s ((r.start / u + j * r.interval) % dy)) = false) : fW (bD r) dayF j = [] := by
 obtain ⟨e1, e2, e3, _⟩ := dH r
 obtain ⟨p1, p2, p3, p4, p5, p6⟩ := kC h j
 have hf : 4 ≤ r.freq ∧ r.freq ≤ 6 := by rcases h with ⟨_, _, h⟩ | ⟨_, _, h⟩ | ⟨_, _, h⟩ <;> omega
 have hdy : 24 ≤ dy := by rcases h with ⟨_, h, _⟩ | ⟨_, h, _⟩ | ⟨_, h, _⟩ <;> omega
 have ht : 0 ≤ (r.start / u + j * r.interval) % dy ∧ (r.start / u + j * r.interval) % dy < cT r.freq := ⟨Int.emod_nonneg _ oM, by rw [p4]; exact Int.emod_lt_of_pos _ oM⟩
 have hb := aB7 hf ht h2 h3
 unfold fW
 rw [if_pos (by rw [e2]; omega), p1, p2, p3, r7 p5 p6]
 have hc := (xL (wF := wF) (nF := nF) (eF := eF) rp h hb.1 hb.2.1 hb.2.2 ((r.start / u + j * r.interval) / dy)).2
 rw [(vQ hf (s := s) ht).1] at hc
 rw [hc]
 unfold fR
 rw [hno]
 simp
theorem aFe {r : Rul} {wF : Int → List Int} {nF : Int → Int → List Int} {eF : Int → List Int} (rp : RightP r) (hf : 4 ≤ r.freq ∧ r.freq ≤ 6) (hw : ∀ y m, nF y m = []) {s : It} (hi : ItOk (bC (aC r) wF nF eF) s) :
  aW (bC (aC r) wF nF eF) s = (Cal.ydayOf (Cal.dayNo s.y s.mo s.d), Cal.ydayOf (Cal.dayNo s.y s.mo s.d) + 1) ∧ (bad (bC (aC r) wF nF eF) s (Cal.ydayOf (Cal.dayNo s.y s.mo s.d) + ((0 : Nat) : Int)) = !dW (bD r) (Cal.dayNo s.y s.mo s.d)) ∧ (cD (bC (aC r) wF nF eF) s = true → dW (bD r) (Cal.dayNo s.y s.mo s.d) = false) := by
 have hfr : (bC (aC r) wF nF eF).freq = r.freq := rfl
 have hnw : s.nwm = [] := by rw [hi.nwm]; exact hw _ _
 obtain ⟨d1, d2, d3, _⟩ := nS hi.mo ⟨hi.d.1, hi.day (by rw [hfr]; omega)⟩
 have db := mA hi.mo ⟨hi.d.1, hi.day (by rw [hfr]; omega)⟩
 have ds := Cal.split_spec (Cal.dayNo s.y s.mo s.d)
 rw [d2] at ds
 have hlp := Cal.lp_01 s.ly
 have hlpe : Cal.lp s.ly = Cal.lp s.y := by rw [hi.ly]
 have hdy : Cal.daysTo s.ly = Cal.daysTo s.y := by rw [hi.ly]
 have hsn : aW (bC (aC r) wF nF eF) s = (Cal.ydayOf (Cal.dayNo s.y s.mo s.d), Cal.ydayOf (Cal.dayNo s.y s.mo s.d) + 1) := by
  unfold aW
  rw [hfr, if_neg oM, if_neg oM]
  simp only
  rw [if_neg oM]
 have hb := aEd (wF := wF) (nF := nF) (eF := eF) (s := s) rp oM hnw (i := Cal.ydayOf (Cal.dayNo s.y s.mo s.d) + ((0 : Nat) : Int)) oM oM
 rw [show Cal.daysTo s.ly + (Cal.ydayOf (Cal.dayNo s.y s.mo s.d) + ((0 : Nat) : Int)) = Cal.dayNo s.y s.mo s.d by omega] at hb
 refine ⟨hsn, hb, fun h => ?_⟩
 unfold cD at h
 rw [hsn] at h
 simp only at h
 rw [show (Cal.ydayOf (Cal.dayNo s.y s.mo s.d) + 1 - Cal.ydayOf (Cal.dayNo s.y s.mo s.d)).toNat = 1 by omega] at h
 simp only [List.range_succ, List.range_zero, List.nil_append, List.any_cons, List.any_nil, Bool.or_false] at h
 rw [hb] at h
 cases hx : dW (bD r) (Cal.dayNo s.y s.mo s.d) with
 | false => rfl
 | true => rw [hx] at h; cases h
theorem aE4 {r : Rul} {wF : Int → List Int} {nF : Int → Int → List Int} {eF : Int → List Int} (rp : RightP r) (hf : 4 ≤ r.freq ∧ r.freq ≤ 6) (hw : ∀ y m, nF y m = []) : Fits (bC (aC r) wF nF eF) (bD r) (dW (bD r)) (R46 r (bC (aC r) wF nF eF)) where
 over := fun k _ h => qH (by rw [(dH r).2.1]; omega) (by rw [(dH r).2.2.1]; exact rp.t1.interval.1) k h
 same := fun k s s' h hs => by
  obtain ⟨u, dy, h1, h2, h3, h4⟩ := h
  refine ⟨u, dy, h1, by rw [hs.y, hs.mo, hs.d]; exact h2, by rw [nN hs.h hs.mi hs.s]; exact h3, ?_⟩
  rw [hs.ts, h4]
  unfold fR
  rw [nR hs.h hs.mi hs.s, nE hs.h hs.mi hs.s]
 pos := fun k s h0 hR hi ho => by
  obtain ⟨u, dy, hu, hday, hslot, hts⟩ := hR
  obtain ⟨e1, e2, e3, e4, e5, e6, _⟩ := dH r
  obtain ⟨p1, p2, p3, p4, p5, p6⟩ := kC hu k
  have hfr : (bC (aC r) wF nF eF).freq = r.freq := rfl
  have hsp : (bC (aC r) wF nF eF).setpos = r.setpos := rfl
  obtain ⟨c1, c2⟩ := xL (wF := wF) (nF := nF) (eF := eF) rp hu hi.hr hi.mn hi.sec (Cal.dayNo s.y s.mo s.d)
  have hSI : SI s.ts := by rw [hts]; exact c1
  have hnw : s.nwm = [] := by rw [hi.nwm]; exact hw _ _
  obtain ⟨d1, d2, d3, _⟩ := nS hi.mo ⟨hi.d.1, hi.day (by rw [hfr]; omega)⟩
  have db := mA hi.mo ⟨hi.d.1, hi.day (by rw [hfr]; omega)⟩
  have ds := Cal.split_spec (Cal.dayNo s.y s.mo s.d)
  rw [d2] at ds
  have hlp := Cal.lp_01 s.ly
  have hlpe : Cal.lp s.ly = Cal.lp s.y := by rw [hi.ly]
  have hdy : Cal.daysTo s.ly = Cal.daysTo s.y := by rw [hi.ly]
  have hout := wL (r := bC (aC r) wF nF eF) hSI hi.ts (tX rp.t3.h9)
  refine ⟨[], kE (fV (bC (aC r) wF nF eF) s) r.setpos, ?_, fun t ht => by simp at ht, by rw [hout, hsp]⟩
  rw [List.nil_append, e6]
  congr 1
  have hsn : aW (bC (aC r) wF nF eF) s = (Cal.ydayOf (Cal.dayNo s.y s.mo s.d), Cal.ydayOf (Cal.dayNo s.y s.mo s.d) + 1) := by
   unfold aW
   rw [hfr, if_neg oM, if_neg oM]
   simp only
   rw [if_neg oM]
  have hD : Cal.daysTo s.ly + Cal.ydayOf (Cal.dayNo s.y s.mo s.d) = Cal.dayNo s.y s.mo s.d := by omega
  have hfl : fV (bC (aC r) wF nF eF) s = if dW (bD r) (Cal.dayNo s.y s.mo s.d) = true then s.ts.map (Cal.dayNo s.y s.mo s.d * 86400 + ·) else [] := by
   rw [lV, hsn]
   simp only
   rw [show (Cal.ydayOf (Cal.dayNo s.y s.mo s.d) + 1 - Cal.ydayOf (Cal.dayNo s.y s.mo s.d)).toNat = 1 by omega]
   have hb := aEd (wF := wF) (nF := nF) (eF := eF) (s := s) rp oM hnw (i := Cal.ydayOf (Cal.dayNo s.y s.mo s.d) + ((0 : Nat) : Int)) oM oM
   simp only [List.range_succ, List.range_zero, List.nil_append, List.flatMap_cons, List.flatMap_nil, List.append_nil]
   rw [hb, show Cal.daysTo s.ly + (Cal.ydayOf (Cal.dayNo s.y s.mo s.d) + ((0 : Nat) : Int)) = Cal.dayNo s.y s.mo s.d by omega]
   unfold lH
   rw [show Cal.daysTo s.ly + (Cal.ydayOf (Cal.dayNo s.y s.mo s.d) + ((0 : Nat) : Int)) = Cal.dayNo s.y s.mo s.d by omega]
   cases dW (bD r) (Cal.dayNo s.y s.mo s.d) <;> rfl
  rw [hfl]
  unfold fW
  rw [if_pos (by rw [e2]; omega), p1, p2, p3, r7 p5 p6, ← hday, ← hslot, c2, ← hts]
 adv := fun k s h0 hR hi ho hfin => by
  obtain ⟨u, dy, hu, hday, hslot, hts⟩ := hR
  obtain ⟨e1, e2, e3, e4, e5, e6, _⟩ := dH r
  have hfr : (bC (aC r) wF nF eF).freq = r.freq := rfl
  have hir : (bC (aC r) wF nF eF).interval = r.interval := rfl
  have hiv := rp.t1.interval
  obtain ⟨n, K, hn⟩ := aCs (b := cD (bC (aC r) wF nF eF) s) (by rw [hfr]; exact hf) hi
  have hsl : cT r.freq = dy := (kC hu k).2.2.2.1
  have hdy : 24 ≤ dy ∧ dy ≤ 86400 := by rcases hu with ⟨_, h, _⟩ | ⟨_, h, _⟩ | ⟨_, h, _⟩ <;> omega
  have hsb := tS hf hi.hr hi.mn hi.sec
  rw [hsl] at hsb
  have hj0 : 0 ≤ fU (bC (aC r) wF nF eF) (cD (bC (aC r) wF nF eF) s) s := by
   unfold fU
   rw [hfr, hir, hsl]
   split
   ·exact Int.ediv_nonneg oM oM
   ·omega
  have hjb : cD (bC (aC r) wF nF eF) s = false → fU (bC (aC r) wF nF eF) (cD (bC (aC r) wF nF eF) s) s = 0 := fun h => by unfold fU; rw [h]; rfl
  have hjm : bZ r.freq s + fU (bC (aC r) wF nF eF) (cD (bC (aC r) wF nF eF) s) s * r.interval ≤ dy - 1 := by
   unfold fU
   rw [hfr, hir, hsl]
   split
   ·have := (pZ (m := dy - 1 - bZ r.freq s) (n := r.interval) oM oM).2; omega
   ·omega
  have n1 : ∀ j : Nat, 1 ≤ j → j < K → cG (bC (aC r) wF nF eF) (bO r.freq s ((bZ r.freq s + (fU (bC (aC r) wF nF eF) (cD (bC (aC r) wF nF eF) s) s + j) * r.interval) % dy)) = false := by rw [← hsl]; exact hn.no
  have n2 : n.d = s.d + (bZ r.freq s + (fU (bC (aC r) wF nF eF) (cD (bC (aC r) wF nF eF) s) s + K) * r.interval) / dy := by rw [← hsl]; exact hn.d
  have n3 : bZ r.freq n = (bZ r.freq s + (fU (bC (aC r) wF nF eF) (cD (bC (aC r) wF nF eF) s) s + K) * r.interval) % dy := by rw [← hsl]; exact hn.slot
  have n4 := hn.hk.1
  generalize fU (bC (aC r) wF nF eF) (cD (bC (aC r) wF nF eF) s) s = m at n1 n2 n3 hj0 hjb hjm
  have hz : ∀ z : Int, (r.start / u + (k + z) * r.interval) / dy = Cal.dayNo s.y s.mo s.d + (bZ r.freq s + z * r.interval) / dy ∧ (r.start / u + (k + z) * r.interval) % dy = (bZ r.freq s + z * r.interval) % dy := by
   intro z
   have e : r.start / u + (k + z) * r.interval = (bZ r.freq s + z * r.interval) + dy * Cal.dayNo s.y s.mo s.d := by
    have h := Int.mul_ediv_add_emod (r.start / u + k * r.interval) dy
    rw [← hday, ← hslot] at h
    rw [Int.add_mul]
    omega
   rw [e, Int.add_mul_ediv_left _ _ oM, Int.add_mul_emod_self_left]
   exact ⟨by omega, rfl⟩
  refine ⟨k + (m + K), by omega, fun j h1 h2 => ?_, ?_⟩
  ·obtain ⟨z, rfl⟩ : ∃ z, j = k + z := ⟨j - k, by omega⟩
   by_cases hzm : z ≤ m
   ·have hflt : cD (bC (aC r) wF nF eF) s = true := by
     cases h : cD (bC (aC r) wF nF eF) s with
     | true => rfl
     | false => have := hjb h; omega
    have hbad := (aFe rp hf hw hi).2.2 hflt
    have hmul := Int.mul_le_mul_of_nonneg_right hzm (show 0 ≤ r.interval by omega)
    have hmul0 := Int.mul_nonneg (show 0 ≤ z by omega) (show 0 ≤ r.interval by omega)
    unfold fW
    rw [if_pos (by rw [e2]; omega), (kC hu (k + z)).2.1, (hz z).1, Int.ediv_eq_zero_of_lt oM oM, Int.add_zero, hbad]
    rfl
   ·refine aCl (wF := wF) (nF := nF) (eF := eF) rp hu _ (s := s) hi.mn hi.sec ?_
    rw [(hz z).2]
    have h := n1 (z - m).toNat oM oM
    rw [show m + (((z - m).toNat : Nat) : Int) = z by omega] at h
    exact h
  ·have hpf : dC (bD r) (k + (m + K)) = Cal.dayNo s.y s.mo s.d + (bZ r.freq s + (m + K) * r.interval) / dy := by rw [(kC hu _).2.1, (hz _).1]
   rw [hn.adv]
   have hmo := hi.mo
   have hy := hi.y
   have hd := hi.d
   have hnd : 1 ≤ n.d := by
    rw [n2]
    have h1 := Int.mul_nonneg (show 0 ≤ m + (K : Int) by omega) (show 0 ≤ r.interval by omega)
    have := Int.ediv_nonneg (show 0 ≤ bZ r.freq s + (m + (K : Int)) * r.interval by omega) (show 0 ≤ dy by omega)
    omega
   obtain ⟨c1, c2⟩ := y9 (r := bC (aC r) wF nF eF) (s := n) hnd (by rw [hn.mo]; exact hmo) (by rw [hn.y]; exact hy) (by rw [hn.fin]; exact hfin)
   have hrest := u4 (r := bC (aC r) wF nF eF) n
   have hdn : Cal.dayNo n.y n.mo n.d = dC (bD r) (k + (m + K)) := by
    rw [hn.y, hn.mo, n2, hpf, iG hmo, iG hmo]; omega
   rw [hdn] at c1 c2
   refine ⟨fun h => ?_, fun h => (pO oM _).2 (c2 h)⟩
   have c3 := c1 h
   obtain ⟨g1, g2, g3, _⟩ := tL (r := bC (aC r) wF nF eF) (s := n) hnd (by rw [hn.mo]; exact hmo) (by rw [hn.y]; exact hy) (by rw [hn.ly, hn.y]; exact hi.ly) ⟨by rw [hn.wno, hn.ly]; exact hi.wno, by rw [hn.nwm, hn.ly, hn.lm]; exact hi.nwm, by rw [hn.eas, hn.ly]; exact hi.eas⟩ h
   have gl := r6 g3 g2 g1
   rw [c3] at gl
   refine ⟨⟨u, dy, hu, by rw [c3, (kC hu _).2.1], by rw [nN hrest.h hrest.mi hrest.sec, n3, (hz _).2], ?_⟩, fun hov => ?_⟩
   ·unfold fR
    rw [hrest.ts, hn.ts, nR hrest.h hrest.mi hrest.sec, hn.ok, if_pos rfl, nE hrest.h hrest.mi hrest.sec]
   ·have := (pO (r := r) oM _).1 hov
    omega
theorem aEa (a : Nat) : ∀ b : Nat, ∃ x y : Int, ((Nat.gcd a b : Nat) : Int) = a * x + b * y := by
 induction a using Nat.strongRecOn with
 | _ a ih =>
  intro b
  rcases Nat.eq_zero_or_pos a with h | h
  ·subst h
   exact ⟨0, 1, by rw [Nat.gcd_zero_left]; simp⟩
  ·obtain ⟨x, y, e⟩ := ih (b % a) (Nat.mod_lt _ h) a
   refine ⟨y - (b / a : Nat) * x, x, ?_⟩
   rw [Nat.gcd_rec, e]
   have h2 : ((b % a : Nat) : Int) = b - a * (b / a : Nat) := by
    have := Nat.div_add_mod b a
    have h3 : ((a * (b / a) + b % a : Nat) : Int) = b := by rw [this]
    rw [Int.natCast_add, Int.natCast_mul] at h3
    omega
   rw [h2, Int.sub_mul, Int.mul_sub, Int.mul_assoc]
   omega
theorem lU {r : Rul} (h : 4 ≤ r.freq) (x : Int) : aF (cA (aC r)) x = aF r.hour x := by
 unfold cA
 split
 ·rename_i h0
  rw [if_neg (by show ¬ r.freq < 4; omega), d7 (show r.hour.length = 0 from h0)]; rfl
 ·rfl
theorem mP {r : Rul} (h : 5 ≤ r.freq) (x : Int) : aF (bA (aC r)) x = aF r.minute x := by
 unfold bA
 split
 ·rename_i h0
  rw [if_neg (by show ¬ r.freq < 5; omega), d7 (show r.minute.length = 0 from h0)]; rfl
 ·rfl
theorem sF {r : Rul} (h : 6 ≤ r.freq) (x : Int) : aF (bG (aC r)) x = aF r.second x := by
 unfold bG
 split
 ·rename_i h0
  rw [if_neg (by show ¬ r.freq < 6; omega), d7 (show r.second.length = 0 from h0)]; rfl
 ·rfl
theorem aCg {r : Rul} {wF : Int → List Int} {nF : Int → Int → List Int} {eF : Int → List Int} (rp : RightP r) (hf : 4 ≤ r.freq ∧ r.freq ≤ 6) (ts : List Int) :
  ∀ b, ∃ K, gI (bC (aC r) wF nF eF) b (it1 (aC r) (bC (aC r) wF nF eF) ts) = some K ∧ (K : Int) ≤ cT r.freq := by
 obtain ⟨u, dy, at_, hu, h0, h1, h2, h3, h4, h5⟩ := rp.t8 hf.1
 have hiv := rp.t1.interval
 have hsl : cT r.freq = dy := (kC hu 0).2.2.2.1
 have hdy : 24 ≤ dy := by rcases hu with ⟨_, h, _⟩ | ⟨_, h, _⟩ | ⟨_, h, _⟩ <;> omega
 have hso : bZ r.freq (it1 (aC r) (bC (aC r) wF nF eF) ts) = r.start % 86400 / u := by
  show (if r.freq = 4 then r.start % 86400 / 3600 else if r.freq = 5 then r.start % 86400 / 3600 * 60 + r.start % 86400 / 60 % 60 else r.start % 86400 / 3600 * 3600 + r.start % 86400 / 60 % 60 * 60 + r.start % 86400 % 60) = _
  rcases hu with ⟨rfl, _, h⟩ | ⟨rfl, _, h⟩ | ⟨rfl, _, h⟩
  ·rw [if_pos h]
  ·rw [if_neg oM, if_pos h]; omega
  ·rw [if_neg oM, if_neg oM]; omega
 have hg := Int.emod_emod_of_dvd
 obtain ⟨x, y, hb⟩ := aEa r.interval.toNat dy.toNat
 rw [show ((r.interval.toNat : Nat) : Int) = r.interval by omega, show ((dy.toNat : Nat) : Int) = dy by omega] at hb
 have hk : ∃ k0 : Int, (r.start % 86400 / u + k0 * r.interval) % dy = at_ := by
  have e1 := Int.mul_ediv_add_emod at_ (Nat.gcd r.interval.toNat dy.toNat : Nat)
  have e2 := Int.mul_ediv_add_emod (r.start % 86400 / u) (Nat.gcd r.interval.toNat dy.toNat : Nat)
  rw [h2] at e1
  generalize (r.start % 86400 / u) / ((Nat.gcd r.interval.toNat dy.toNat : Nat) : Int) = c2 at e2
  generalize at_ / ((Nat.gcd r.interval.toNat dy.toNat : Nat) : Int) = c1 at e1
  generalize ((Nat.gcd r.interval.toNat dy.toNat : Nat) : Int) = g at e1 e2 hb
  refine ⟨x * (c1 - c2), ?_⟩
  have e3 : r.start % 86400 / u + x * (c1 - c2) * r.interval = at_ + dy * (-(y * (c1 - c2))) := by
   have e4 : g * (c1 - c2) = r.interval * x * (c1 - c2) + dy * y * (c1 - c2) := by rw [hb, Int.add_mul]
   rw [Int.mul_sub] at e4
   rw [Int.mul_neg, ← Int.mul_assoc, show x * (c1 - c2) * r.interval = r.interval * x * (c1 - c2) by rw [Int.mul_comm (x * (c1 - c2)), Int.mul_assoc]]
   omega
  rw [e3, Int.add_mul_emod_self_left, Int.emod_eq_of_lt h0 h1]
 obtain ⟨k0, hk⟩ := hk
 refine zG (r := bC (aC r) wF nF eF) (s := it1 (aC r) (bC (aC r) wF nF eF) ts) hf (k0 := k0) ?_
 show cG (bC (aC r) wF nF eF) (bO r.freq _ ((bZ r.freq (it1 (aC r) (bC (aC r) wF nF eF) ts) + k0 * r.interval) % cT r.freq)) = true
 rw [hso, hsl, hk]
 have hh : (bC (aC r) wF nF eF).hour = cA (aC r) := rfl
 have hm : (bC (aC r) wF nF eF).minute = bA (aC r) := rfl
 have hs : (bC (aC r) wF nF eF).second = bG (aC r) := rfl
 rcases hu with ⟨rfl, rfl, h⟩ | ⟨rfl, rfl, h⟩ | ⟨rfl, rfl, h⟩
 ·have e := ok4 (r := bC (aC r) wF nF eF) (s := it1 (aC r) (bC (aC r) wF nF eF) ts) (t := at_) h
  refine e.trans ?_
  rw [hh, lU hf.1, show at_ = at_ * 3600 / 3600 by omega]; exact h3
 ·have e := ok5 (r := bC (aC r) wF nF eF) (s := it1 (aC r) (bC (aC r) wF nF eF) ts) (t := at_) h
  refine e.trans ?_
  rw [hh, hm, lU hf.1, mP oM, show at_ / 60 = at_ * 60 / 3600 by omega, show at_ % 60 = at_ * 60 / 60 % 60 by omega, h3, h4 oM]; rfl
 ·have e := ok6 (r := bC (aC r) wF nF eF) (s := it1 (aC r) (bC (aC r) wF nF eF) ts) (t := at_) h
  refine e.trans ?_
  rw [hh, hm, hs, lU hf.1, mP oM, sF oM]
  rw [Int.mul_one] at h3 h4 h5
  rw [h3, h4 oM, h5 h]; rfl
theorem zO {r : Rul} (rp : RightP r) (hf : 4 ≤ r.freq ∧ r.freq ≤ 6) {s : It} (h1 : 0 ≤ s.h ∧ s.h ≤ 23) (h2 : 0 ≤ s.mi ∧ s.mi ≤ 59) (h3 : 0 ≤ s.s ∧ s.s ≤ 59) : (fR (bC (aC r) wO nO wO) s).length ≤ 100000 ∧ ∀ t ∈ fR (bC (aC r) wO nO wO) s, 0 ≤ t ∧ t < 86400 := by
 obtain ⟨u, dy, hu⟩ := wU hf
 obtain ⟨c1, c2⟩ := xL (wF := wO) (nF := nO) (eF := wO) rp hu h1 h2 h3 0
 have hb : ∀ t ∈ fR (bC (aC r) wO nO wO) s, 0 ≤ t ∧ t < 86400 := by
  intro t ht
  have h : 0 * 86400 + t ∈ iN (bD r).hour (bD r).minute (bD r).second 0 (0 * 86400 + bZ r.freq s * u) u := by rw [c2]; exact List.mem_map.2 ⟨t, ht, rfl⟩
  have := (jQ.1 h)
  omega
 exact ⟨by have := tZ c1 hb oM; omega, hb⟩
theorem aC7 {r : Rul} (rp : RightP r) (hf : 4 ≤ r.freq ∧ r.freq ≤ 6) : ¬fQ (bD r) 0 := fun h => by
 have h := (pO oM _).1 h
 have hs := rp.t1.start
 have h9 : Cal.daysTo 9000 = 3286817 := by decide
 obtain ⟨u, dy, hu⟩ := wU hf
 rw [(kC hu 0).2.1, Int.zero_mul, Int.add_zero] at h
 rcases hu with ⟨rfl, rfl, _⟩ | ⟨rfl, rfl, _⟩ | ⟨rfl, rfl, _⟩ <;> omega
theorem wE {r : Rul} (rp : RightP r) (hf : 4 ≤ r.freq ∧ r.freq ≤ 6) : qD r (dW (bD r)) := by
 intro most hm l h x w hin
 have hr := o6 rp oM
 obtain ⟨hy, hw, he⟩ := kQ rp oM
 have hnw : (bC (aC r) wO nO wO).nwd.length = 0 := qC (by show 2 ≤ r.freq; omega) wO nO wO
 obtain ⟨_, _, _, _, h5, h6⟩ := o5 rp
 have hlm : (bC (aC r) wO nO wO).minute.length ≤ 100 := h5
 have hls : (bC (aC r) wO nO wO).second.length ≤ 100 := h6
 have hpres : sH (bC (aC r) wO nO wO) := x8 hr hf hlm hls
 have hs := rp.t1.start
 have h9 : Cal.daysTo 9000 = 3286817 := by decide
 have hit := wZ (iJ rp) (show 4 ≤ r.freq ∧ r.freq ≤ 6 from hf) hw hnw he (fun _ => rfl) (fun _ _ => rfl) (fun _ => rfl) (oJ rp wO nO wO) (show (aC r).d < 315537897600 by show r.start < _; omega) hr hlm hls
 have hb1 : 0 ≤ r.start % 86400 / 3600 ∧ r.start % 86400 / 3600 ≤ 23 := by omega
 have hb2 : 0 ≤ r.start % 86400 / 60 % 60 ∧ r.start % 86400 / 60 % 60 ≤ 59 := by omega
 have hb3 : 0 ≤ r.start % 86400 % 60 ∧ r.start % 86400 % 60 ≤ 59 := by omega
 have hit : vZ (aC r) (bC (aC r) wO nO wO) (it1 (aC r) (bC (aC r) wO nO wO) (fR (bC (aC r) wO nO wO) (it1 (aC r) (bC (aC r) wO nO wO) []))) := hit
 have hR : R46 r (bC (aC r) wO nO wO) 0 (it1 (aC r) (bC (aC r) wO nO wO) (fR (bC (aC r) wO nO wO) (it1 (aC r) (bC (aC r) wO nO wO) []))) := by
  obtain ⟨u, dy, hu⟩ := wU hf
  refine ⟨u, dy, hu, ?_, ?_, rfl⟩
  ·rw [Int.zero_mul, Int.add_zero]
   refine (nC (r.start / 86400)).trans ?_
   rcases hu with ⟨rfl, rfl, _⟩ | ⟨rfl, rfl, _⟩ | ⟨rfl, rfl, _⟩ <;> omega
  ·rw [Int.zero_mul, Int.add_zero]
   show (if r.freq = 4 then r.start % 86400 / 3600 else if r.freq = 5 then r.start % 86400 / 3600 * 60 + r.start % 86400 / 60 % 60 else r.start % 86400 / 3600 * 3600 + r.start % 86400 / 60 % 60 * 60 + r.start % 86400 % 60) = _
   rcases hu with ⟨rfl, rfl, h⟩ | ⟨rfl, rfl, h⟩ | ⟨rfl, rfl, h⟩
   ·rw [if_pos h]; omega
   ·rw [if_neg oM, if_pos h]; omega
   ·rw [if_neg oM, if_neg oM]; omega
 obtain ⟨N, hT⟩ := oX rp (aE4 rp hf fun _ _ => rfl) hpres (yL rp (zO rp hf hb1 hb2 hb3) (fun _ => aCg rp hf _)) hR (aC7 rp hf) hm h
 exact lI (iJ rp) hit (qM rp) (qI rp) (fun F w0 => rM (uB rp) F w0) hr
  ⟨(jP rp).1, (jP rp).2, zN hr hf hw hnw he hlm hls⟩ hpres hm hT w hin
end Go.Proofs.YtdbbifbmkfmbkaaGreat
namespace Go.Proofs.YtdbbifbmkfmbkaaGreat
open Go.Md Go.Tab Go.Fr
def cK (f st iv : Int) : Rul := ⟨f, true, st, iv, 0, 0, false, 0, [], [], [], [], [], [], [], [], [], []⟩
def fO (f : Int) : Int := if f = 2 then 604800 else if f = 3 then 86400 else UN f
theorem gK {a x : Int} : aF [a] x = true ↔ x = a := by unfold aF; simp; exact eq_comm
theorem oV {f st iv : Int} (hf : 2 ≤ f ∧ f ≤ 6) (hs : 1 ≤ st) (hi : 1 ≤ iv) {k : Int} (hk : 0 ≤ k) : fW (bD (cK f st iv)) (dW (bD (cK f st iv))) k = [st + k * iv * fO f] := by
 obtain ⟨e1, e2, e3, e4, e5, e6, _⟩ := dH (cK f st iv)
 obtain ⟨g1, g2, g3, g4, g5, g6⟩ := n7 (cK f st iv)
 have e2 : (bD (cK f st iv)).freq = f := e2
 have g1 : (bD (cK f st iv)).month = [] := g1.trans (by unfold bS; rw [if_neg (fun h => by have : f = 0 := h.2.1; omega)]; rfl)
 have g2 : (bD (cK f st iv)).mday = [] := g2.trans (by unfold bH; rw [if_neg (fun h => by have : f = 0 ∨ f = 1 := h.2; omega)]; rfl)
 have g4 : (bD (cK f st iv)).hour = if f < 4 then [st % 86400 / 3600] else [] := g4
 have g5 : (bD (cK f st iv)).minute = if f < 5 then [st % 86400 / 60 % 60] else [] := g5
 have g6 : (bD (cK f st iv)).second = if f < 6 then [st % 86400 % 60] else [] := g6
 have hz : 0 ≤ k * iv := Int.mul_nonneg hk oM
 have hmd : ∀ d, aF (bD (cK f st iv)).month (Cal.monthOf d) = true ∧ zL (bD (cK f st iv)).mday d = true := fun d => by rw [g1, g2]; exact ⟨rfl, rfl⟩
 rcases (show f = 2 ∨ f = 3 ∨ (4 ≤ f ∧ f ≤ 6) by omega) with h | h | h
 ·have g3 : (bD (cK f st iv)).wday = [(((st / 86400 + 1) % 7 + 6) % 7, 0)] := g3.trans (by unfold bN; rw [if_pos ⟨rfl, h⟩]; rfl)
  rw [if_pos oM] at g4 g5 g6
  have hF := oB (r := cK f st iv) h k
  have hF : dC (bD (cK f st iv)) k = st / 86400 - (st / 86400 % 7 - 0 + 7) % 7 + 7 * (k * iv) := hF
  have hm : jG (bD (cK f st iv)) k = 7 := by unfold jG; rw [e2, if_neg oM, if_neg oM, if_pos h]
  have hU : fO f = 604800 := by unfold fO; rw [if_pos h]
  have mem : ∀ (i : Nat) (x : Int), x ∈ jD (bD (cK f st iv)) (dW (bD (cK f st iv))) (dC (bD (cK f st iv)) k + i) ↔ 0 ≤ dC (bD (cK f st iv)) k + i ∧ (dC (bD (cK f st iv)) k + i) % 7 = st / 86400 % 7 ∧ x = (dC (bD (cK f st iv)) k + i) * 86400 + st % 86400 := by
   intro i x
   generalize dC (bD (cK f st iv)) k + (i : Int) = d
   have hw : dW (bD (cK f st iv)) d = true ↔ d % 7 = st / 86400 % 7 := by
    unfold dW
    rw [(hmd d).1, (hmd d).2, g3]
    show ((((st / 86400 + 1) % 7 + 6) % 7 == d % 7) || false) = true ↔ _
    rw [Bool.or_false, beq_iff_eq]
    omega
   unfold jD
   split
   ·rename_i hc
    rw [jQ, g4, g5, g6, gK, gK, gK]
    rw [hw] at hc
    constructor
    ·rintro ⟨a1, a2, a3, a4, a5, a6, a7⟩; exact ⟨hc.1, hc.2, by omega⟩
    ·rintro ⟨a1, a2, rfl⟩; refine ⟨?_, ?_, ?_, ?_, ?_, ?_, ?_⟩ <;> omega
   ·rename_i hc
    constructor
    ·intro h; simp at h
    ·rintro ⟨a1, a2, _⟩; exact absurd ⟨a1, hw.2 a2⟩ hc
  unfold fW
  rw [if_neg oM, hm]
  refine SI.ext (SI.flat (a := dC (bD (cK f st iv)) k * 86400) (w := 86400) dE (fun i => ?_) (fun i x hx => ?_) 7) (by simp [SI]) fun x => ?_
  ·unfold jD
   split
   ·exact nK _ _ _ _ _ _
   ·simp [SI]
  ·have := (mem i x).1 hx
   omega
  ·unfold kZ
   rw [show (7 : Int).toNat = 7 from rfl, jN, List.mem_singleton, hU]
   constructor
   ·rintro ⟨i, h1, h2⟩
    have := (mem i x).1 h2
    omega
   ·intro e
    refine ⟨(st / 86400 % 7).toNat, by omega, (mem _ x).2 ⟨?_, ?_, ?_⟩⟩ <;> omega
 ·have g3 : (bD (cK f st iv)).wday = [] := g3.trans (by unfold bN; rw [if_neg (fun h => by have : f = 2 := h.2; omega)]; rfl)
  rw [if_pos oM] at g4 g5 g6
  have hF := l0 (r := cK f st iv) h k
  have hF : dC (bD (cK f st iv)) k = st / 86400 + k * iv := hF
  have hm : jG (bD (cK f st iv)) k = 1 := by unfold jG; rw [e2, if_neg oM, if_neg oM, if_neg oM]
  have hU : fO f = 86400 := by unfold fO; rw [if_neg oM, if_pos h]
  unfold fW
  rw [if_neg oM, hm]
  show jD _ _ _ ++ [] = _
  rw [List.append_nil]
  unfold jD
  rw [if_pos ⟨by rw [hF]; simp only [Int.natCast_zero]; omega, by unfold dW; rw [(hmd _).1, (hmd _).2, g3]; rfl⟩]
  refine SI.ext (nK _ _ _ _ _ _) (by simp [SI]) fun x => ?_
  rw [jQ, g4, g5, g6, gK, gK, gK, hF, List.mem_singleton, hU]
  simp only [Int.natCast_zero, Int.add_zero]
  constructor
  ·rintro ⟨a1, a2, a3, a4, a5, a6, a7⟩; omega
  ·intro e; refine ⟨?_, ?_, ?_, ?_, ?_, ?_, ?_⟩ <;> omega
 ·have g3 : (bD (cK f st iv)).wday = [] := g3.trans (by unfold bN; rw [if_neg (fun h => by have : f = 2 := h.2; omega)]; rfl)
  obtain ⟨u, dy, hu⟩ := wU (r := cK f st iv) h
  obtain ⟨p1, p2, p3, p4, p5, p6⟩ := kC hu k
  have p1 : pAt (bD (cK f st iv)) k = (st / u + k * iv) * u := p1
  have p2 : dC (bD (cK f st iv)) k = (st / u + k * iv) / dy := p2
  have p3 : UN (bD (cK f st iv)).freq = u := p3
  have hU : fO f = u := by unfold fO; rw [if_neg oM, if_neg oM, ← e2, p3]
  rw [if_neg oM] at g4
  unfold fW
  rw [if_pos oM, if_pos (by unfold dW; rw [(hmd _).1, (hmd _).2, g3]; rfl)]
  refine SI.ext (nK _ _ _ _ _ _) (by simp [SI]) fun x => ?_
  rw [jQ, g4, g5, g6, p1, p2, p3, List.mem_singleton, hU]
  generalize k * iv = z at hz
  rcases hu with ⟨rfl, rfl, h4⟩ | ⟨rfl, rfl, h4⟩ | ⟨rfl, rfl, h4⟩
  ·have h4 : f = 4 := h4
   rw [if_pos oM, if_pos oM, gK, gK]
   constructor
   ·rintro ⟨a1, a2, a3, a4, a5, a6, a7⟩; omega
   ·intro e; refine ⟨?_, ?_, ?_, ?_, rfl, ?_, ?_⟩ <;> omega
  ·have h4 : f = 5 := h4
   rw [if_neg oM, if_pos oM, gK]
   constructor
   ·rintro ⟨a1, a2, a3, a4, a5, a6, a7⟩; omega
   ·intro e; refine ⟨?_, ?_, ?_, ?_, rfl, rfl, ?_⟩ <;> omega
  ·have h4 : f = 6 := h4
   rw [if_neg oM, if_neg oM]
   constructor
   ·rintro ⟨a1, a2, a3, a4, a5, a6, a7⟩; omega
   ·intro e; refine ⟨?_, ?_, ?_, ?_, rfl, rfl, rfl⟩ <;> omega
theorem oP {f st iv : Int} (hf : 2 ≤ f ∧ f ≤ 6) (hs : 1 ≤ st ∧ st < 3286817 * 86400) (hi : 1 ≤ iv) {k : Int} (hk : 0 ≤ k) (hb : k * iv * fO f ≤ 9145440000) : ¬fQ (bD (cK f st iv)) k := fun h => by
 have h := (pO (r := cK f st iv) hf.1 k).1 h
 have hz : 0 ≤ k * iv := Int.mul_nonneg hk oM
 rcases (show f = 2 ∨ f = 3 ∨ (4 ≤ f ∧ f ≤ 6) by omega) with h2 | h2 | h2
 ·have hF : dC (bD (cK f st iv)) k = st / 86400 - (st / 86400 % 7 - 0 + 7) % 7 + 7 * (k * iv) := oB (r := cK f st iv) h2 k
  have hU : fO f = 604800 := by unfold fO; rw [if_pos h2]
  rw [hU] at hb
  omega
 ·have hF : dC (bD (cK f st iv)) k = st / 86400 + k * iv := l0 (r := cK f st iv) h2 k
  have hU : fO f = 86400 := by unfold fO; rw [if_neg oM, if_pos h2]
  rw [hU] at hb
  omega
 ·obtain ⟨u, dy, hu⟩ := wU (r := cK f st iv) h2
  obtain ⟨_, p2, p3, _⟩ := kC hu k
  have p2 : dC (bD (cK f st iv)) k = (st / u + k * iv) / dy := p2
  have e2 : (bD (cK f st iv)).freq = f := (dH (cK f st iv)).2.1
  have hU : fO f = u := by unfold fO; rw [if_neg oM, if_neg oM, ← e2, p3]
  rw [hU] at hb
  rw [p2] at h
  generalize k * iv = z at h hb hz
  rcases hu with ⟨rfl, rfl, _⟩ | ⟨rfl, rfl, _⟩ | ⟨rfl, rfl, _⟩ <;> omega
theorem vP {f st iv most : Int} {o : List Int} {t : Int} (ht : st ≤ t ∧ t ≤ st + 9223372036) : kI (bD (cK f st iv)) (bD (cK f st iv)).start (pA (cK f st iv)) most o [t] = if (o.length : Int) = most then (o, false) else (o ++ [t], decide ((o.length : Int) + 1 < most)) := by
 obtain ⟨e1, e2, e3, e4, e5, e6, _⟩ := dH (cK f st iv)
 unfold kI
 rw [e5, e6, e1]
 have hp : kE [t] (cK f st iv).setpos = [t] := nQ _ rfl
 have hl : pA (cK f st iv) = st + 9223372036 := rfl
 rw [hp, hl]
 by_cases hm : (o.length : Int) = most
 ·have : eJ (cK f st iv).count (cK f st iv).start (st + 9223372036) most o [t] = (o, false) := by
   rw [fX, if_neg (by show ¬ t < st; omega), if_pos (.inl hm)]
  rw [this, if_pos hm]
  rfl
 ·have : eJ (cK f st iv).count (cK f st iv).start (st + 9223372036) most o [t] = (o ++ [t], true) := by
   rw [fX, if_neg (by show ¬ t < st; omega), if_neg]
   ·rfl
   ·show ¬ (_ ∨ ((0 : Int) < 0 ∧ _ = (0 : Int)) ∨ _)
    omega
  rw [this, if_neg hm]
  simp only [Bool.true_and]
  unfold o7
  rw [List.length_append, List.length_singleton]
  show (o ++ [t], decide ((((o.length + 1 : Nat)) : Int) < most) && ((0 : Int) == 0 || _)) = _
  simp
def j6 (f st iv : Int) (n : Nat) : List Int := (List.range n).map fun (i : Nat) => st + (i : Int) * iv * fO f
theorem w5 (f st iv : Int) (n : Nat) : j6 f st iv (n + 1) = j6 f st iv n ++ [st + (n : Int) * iv * fO f] := by unfold j6; rw [List.range_succ, List.map_append]; rfl
theorem aCd {f st iv : Int} (hf : 2 ≤ f ∧ f ≤ 6) (hs : 1 ≤ st ∧ st < 3286817 * 86400) (hi : 1 ≤ iv) {n : Nat} (hn : (n : Int) * iv * fO f ≤ 9145440000) : tN (cK f st iv) (dW (bD (cK f st iv))) n (j6 f st iv n) := by
 have hU : 0 ≤ fO f := by unfold fO UN; split <;> (try split) <;> (try split) <;> (try split) <;> omega
 have key : ∀ k : Nat, k ≤ n → 0 ≤ (k : Int) * iv * fO f ∧ (k : Int) * iv * fO f ≤ 9145440000 := fun k hk => by
  have h1 : (k : Int) * iv ≤ (n : Int) * iv := Int.mul_le_mul_of_nonneg_right oM oM
  have h2 : (k : Int) * iv * fO f ≤ (n : Int) * iv * fO f := Int.mul_le_mul_of_nonneg_right h1 hU
  exact ⟨Int.mul_nonneg (Int.mul_nonneg oM oM) hU, by omega⟩
 have slen : ∀ k, (j6 f st iv k).length = k := fun k => by unfold j6; simp
 unfold tN
 have main : ∀ (j k : Nat), k + j = n → DatesP (bD (cK f st iv)) (dW (bD (cK f st iv))) (pA (cK f st iv)) n k (j6 f st iv k) (j6 f st iv n) := by
  intro j
  induction j with
  | zero =>
   intro k e
   have e : k = n := by omega
   subst e
   refine mY (oP hf hs hi oM (key k oM).2) (oV hf hs.1 hi oM) ?_
   have hk := key k oM
   rw [vP ⟨by omega, by omega⟩, slen, if_pos rfl]
  | succ j ih =>
   intro k e
   have hk := key k oM
   have hadd := vP (f := f) (st := st) (iv := iv) (most := (n : Int)) (o := j6 f st iv k) (t := st + (k : Int) * iv * fO f) ⟨by omega, by omega⟩
   rw [slen, if_neg oM, ← w5] at hadd
   rcases Nat.eq_zero_or_pos j with hj | hj
   ·subst hj
    have e : n = k + 1 := by omega
    subst e
    refine mY (oP hf hs hi oM hk.2) (oV hf hs.1 hi oM) (hadd.trans ?_)
    rw [decide_eq_false oM]
   ·refine mZ (oP hf hs hi oM hk.2) (oV hf hs.1 hi oM) (hadd.trans (by rw [decide_eq_true oM])) ?_
    have := ih (k + 1) oM
    rwa [show ((k + 1 : Nat) : Int) = (k : Int) + 1 by omega] at this
 have := main n 0 oM
 exact this
end Go.Proofs.YtdbbifbmkfmbkaaGreat
namespace Go.Proofs.YtdbbifbmkfmbkaaGreat
open Go.RowKit Go.Fr Go.Tab
section
variable {F : Nat → Prop} {w0 : World} {B : LN} {H : LV} {S : LS}
open Go.Md
def kK (f : Int) : Int := if f < 2 ∨ 6 < f then 0 else fO f
theorem pV (f : Int) (hf : 0 ≤ f ∧ f < 256) (w : World) : Calls Tryz.prog 15 #[.int .u8 f] w fun e w' => e = .returned (iV (kK f)) ∧ Below w.heap.size w w' := by
 refine aN (args := [.int .u8 f]) (L := [(0, .int .u8 f)]) (N := 14) Tryz.func15 rfl rfl ble rfl (sS w) ?_
 refine g9 ?_
 rcases Decidable.em (f < 2) with h1 | h1
 ·refine rl ((cW rfl rfl).to bT) ?_
  refine g6 ?_
  refine aJ rfl rfl ?_
  refine g7 ?_
  refine aD (.inl rfl) rfl (aA rfl) fun w_ s_ => ⟨?_, s_.aGm⟩
  first | rfl | (unfold kK; rw [if_pos oM])
 ·refine rl ((cW rfl rfl).to bF) ?_
  refine g4 ?_
  rcases Decidable.em (6 < f) with h2 | h2
  ·refine rl ((cQ rfl rfl).to bT) ?_
   refine g3 ?_
   refine aJ rfl rfl ?_
   refine g7 ?_
   refine aD (.inl rfl) rfl (aA rfl) fun w_ s_ => ⟨?_, s_.aGm⟩
   first | rfl | (unfold kK; rw [if_pos oM])
  ·refine rl ((cQ rfl rfl).to bF) ?_
   refine g3 ?_
   refine aB rfl rfl ?_
   refine g3 ?_
   rcases (show f = 2 ∨ f = 3 ∨ f = 4 ∨ f = 5 ∨ f = 6 by omega) with rfl | rfl | rfl | rfl | rfl
   ·refine g1 ?_
    refine gL (dY 20 (e := 2) (sz := 1) (n := 5) (vs := [(0, iV 604800), (1, iV 86400), (2, iV 3600), (3, iV 60), (4, iV 1)]) (cs := [iV 604800, iV 86400, iV 3600, iV 60, iV 1]) dE rfl (fun w => by kernel_rfl) rfl dE dE rfl (fun b1_ hbb1_ => ?_))
    refine g1 ?_
    refine rl (jZ rfl rfl) ?_
    refine rl (aI (e := 2) (n := 1) kR rfl rfl dE dE) ?_
    refine rl (bP 20 rfl rfl rfl rfl kR) ?_
    refine g4 ?_
    refine aD (.inl rfl) rfl (aA rfl) fun w_ s_ => ⟨?_, s_.aGm⟩
    first | rfl | (unfold kK; rw [if_pos oM])
   ·refine g1 ?_
    refine gL (dY 20 (e := 2) (sz := 1) (n := 5) (vs := [(0, iV 604800), (1, iV 86400), (2, iV 3600), (3, iV 60), (4, iV 1)]) (cs := [iV 604800, iV 86400, iV 3600, iV 60, iV 1]) dE rfl (fun w => by kernel_rfl) rfl dE dE rfl (fun b2_ hbb2_ => ?_))
    refine g1 ?_
    refine rl (jZ rfl rfl) ?_
    refine rl (aI (e := 2) (n := 1) kR rfl rfl dE dE) ?_
    refine rl (bP 20 rfl rfl rfl rfl kR) ?_
    refine g4 ?_
    refine aD (.inl rfl) rfl (aA rfl) fun w_ s_ => ⟨?_, s_.aGm⟩
    first | rfl | (unfold kK; rw [if_pos oM])
   ·refine g1 ?_
    refine gL (dY 20 (e := 2) (sz := 1) (n := 5) (vs := [(0, iV 604800), (1, iV 86400), (2, iV 3600), (3, iV 60), (4, iV 1)]) (cs := [iV 604800, iV 86400, iV 3600, iV 60, iV 1]) dE rfl (fun w => by kernel_rfl) rfl dE dE rfl (fun b3_ hbb3_ => ?_))
    refine g1 ?_
    refine rl (jZ rfl rfl) ?_
    refine rl (aI (e := 2) (n := 1) kR rfl rfl dE dE) ?_
    refine rl (bP 20 rfl rfl rfl rfl kR) ?_
    refine g4 ?_
    refine aD (.inl rfl) rfl (aA rfl) fun w_ s_ => ⟨?_, s_.aGm⟩
    first | rfl | (unfold kK; rw [if_pos oM])
   ·refine g1 ?_
    refine gL (dY 20 (e := 2) (sz := 1) (n := 5) (vs := [(0, iV 604800), (1, iV 86400), (2, iV 3600), (3, iV 60), (4, iV 1)]) (cs := [iV 604800, iV 86400, iV 3600, iV 60, iV 1]) dE rfl (fun w => by kernel_rfl) rfl dE dE rfl (fun b4_ hbb4_ => ?_))
    refine g1 ?_
    refine rl (jZ rfl rfl) ?_
    refine rl (aI (e := 2) (n := 1) kR rfl rfl dE dE) ?_
    refine rl (bP 20 rfl rfl rfl rfl kR) ?_
    refine g4 ?_
    refine aD (.inl rfl) rfl (aA rfl) fun w_ s_ => ⟨?_, s_.aGm⟩
    first | rfl | (unfold kK; rw [if_pos oM])
   ·refine g1 ?_
    refine gL (dY 20 (e := 2) (sz := 1) (n := 5) (vs := [(0, iV 604800), (1, iV 86400), (2, iV 3600), (3, iV 60), (4, iV 1)]) (cs := [iV 604800, iV 86400, iV 3600, iV 60, iV 1]) dE rfl (fun w => by kernel_rfl) rfl dE dE rfl (fun b5_ hbb5_ => ?_))
    refine g1 ?_
    refine rl (jZ rfl rfl) ?_
    refine rl (aI (e := 2) (n := 1) kR rfl rfl dE dE) ?_
    refine rl (bP 20 rfl rfl rfl rfl kR) ?_
    refine g4 ?_
    refine aD (.inl rfl) rfl (aA rfl) fun w_ s_ => ⟨?_, s_.aGm⟩
    first | rfl | (unfold kK; rw [if_pos oM])
theorem aCb (f st iv : Int) (w : World) : InL w (cK f st iv) xO := ⟨Ints.nil, Ints.nil, Ints.nil, Ints.nil, Ints.nil, ⟨none, 0, rfl, fun i x h => by simp [cK] at h⟩, Ints.nil, Ints.nil, Ints.nil, Ints.nil⟩
theorem aAd (f st iv : Int) : LenL (cK f st iv) := by constructor <;> exact Nat.zero_le _
theorem zM (f st iv : Int) : CapL (cK f st iv) xO := by constructor <;> exact Nat.zero_le _
theorem aAf (f st iv : Int) (n : Nat) : (j6 f st iv n).length = n := by unfold j6; simp
theorem aAn {f st iv : Int} {n k : Nat} (h : k < n) : (j6 f st iv n)[k]? = some (st + (k : Int) * iv * fO f) := by unfold j6; rw [List.getElem?_map, List.getElem?_range h]; rfl
theorem step_walk (f : Int) (hf : 0 ≤ f ∧ f < 256) (st : Int) (hst : -9223372036854775808 ≤ st ∧ st ≤ 9223372036854775807) (b : Int) (hb : 0 ≤ b ∧ b < 65536) (a : Int) (ha : 0 ≤ a ∧ a < 256) (w : World) : Calls Tryz.prog 3 #[.int .u8 f, iV st, .int .u16 b, .int .u8 a] w fun e w' => e = .returned (.bool true) ∧ Below w.heap.size w w' := by
 obtain ⟨m, hm⟩ : ∃ m : Nat, a % 41 = (m : Int) := ⟨(a % 41).toNat, by omega⟩
 obtain ⟨iv, hiv⟩ : ∃ iv : Int, iv = 1 + b % 1000 := ⟨_, rfl⟩
 obtain ⟨r, hr_⟩ : ∃ r, r = cK f st iv := ⟨_, rfl⟩
 obtain ⟨x, hx_⟩ : ∃ x, x = xO := ⟨_, rfl⟩
 have hin : InL w r x := by rw [hr_, hx_]; exact aCb _ _ _ _
 have hl : LenL r := by rw [hr_]; exact aAd _ _ _
 have hcap : CapL r x := by rw [hr_, hx_]; exact zM _ _ _
 have hfb : 0 ≤ r.freq := by rw [hr_]; exact hf.1
 have hub : 0 ≤ kK f ∧ kK f ≤ 604800 := by unfold kK fO UN; split <;> (try split) <;> (try split) <;> (try split) <;> (try split) <;> omega
 obtain ⟨U, hU⟩ : ∃ U, U = kK f := ⟨_, rfl⟩
 rw [← hU] at hub
 have hmi : 0 ≤ (m : Int) * iv ∧ (m : Int) * iv ≤ 40 * 1000 := ⟨Int.mul_nonneg oM oM, Int.le_trans (Int.mul_le_mul_of_nonneg_right (show (m : Int) ≤ 40 by omega) oM) (Int.mul_le_mul_of_nonneg_left oM dE)⟩
 have hmu : 0 ≤ (m : Int) * iv * U ∧ (m : Int) * iv * U ≤ 40000 * 604800 := ⟨Int.mul_nonneg hmi.1 hub.1, Int.le_trans (Int.mul_le_mul_of_nonneg_right (show (m : Int) * iv ≤ 40000 by omega) hub.1) (Int.mul_le_mul_of_nonneg_left hub.2 dE)⟩
 have hivr : r.interval = iv := by rw [hr_]; rfl
 refine aN (args := [.int .u8 f, iV st, .int .u16 b, .int .u8 a]) (L := [(0, .int .u8 f), (1, iV st), (2, .int .u16 b), (3, .int .u8 a)]) (N := 79) Tryz.func3 rfl rfl ble rfl (sS w) ?_
 refine g8 ?_
 refine gL (cvo (v := iV U) rfl (fun w_ s_ => by rw [hU]; exact pV f hf w_) ?_)
 refine g7 ?_
 refine rl ((qF rfl rfl oM oM).to (v' := iV (m : Int)) (congrArg (Value.int .i64) (hm))) ?_
 refine g9 ?_
 refine rl ((qF rfl rfl oM oM).to (v' := iV (b % 1000)) (congrArg (Value.int .i64) (rfl))) ?_
 refine rl ((yX rfl rfl oM).to (v' := iV iv) (congrArg (Value.int .i64) hiv.symm)) ?_
 refine rl (fJ (vs := [(0, .int .u8 f), (1, .bool true), (2, iV st), (3, iV iv)]) (v := .agg (cI r x).toArray) rfl (fun w => by rw [hr_, hx_]; kernel_rfl)) ?_
 refine gL (dT 50 (cs := [.int .u8 0, .bool false, iV 0, iV 0, iV 0, iV 0, .bool false, iV 0, .slice none 0 0, .slice none 0 0, .slice none 0 0, .slice none 0 0, .slice none 0 0, .slice none 0 0, .slice none 0 0, .slice none 0 0, .slice none 0 0, .slice none 0 0]) dE kR rfl (fun o ho => rfl) ble (fun b5 hb5 => ?_))
 refine gL (bV 50 (cs := (cI r x).toArray) rfl rfl rfl (dA (eA [.int .u8 0, .bool false, iV 0, iV 0, iV 0, iV 0, .bool false, iV 0, .slice none 0 0, .slice none 0 0, .slice none 0 0, .slice none 0 0, .slice none 0 0, .slice none 0 0, .slice none 0 0, .slice none 0 0, .slice none 0 0, .slice none 0 0] ble) 0 18 ble) kR rfl ble ?_)
 refine g6 ?_
 rcases Decidable.em (U = 0) with hU0 | hU0
 ·refine rl ((aY rfl rfl).to eT) ?_
  refine g16 ?_
  refine aJ rfl rfl ?_
  refine g2 ?_
  refine gL (cvo rfl (fun w_ s_ => jM w_) ?_)
  refine g5 ?_
  exact aD (.inl rfl) rfl (aA rfl) fun w_ s_ => ⟨rfl, s_.aGm⟩
 ·refine rl ((aY rfl rfl).to eF) ?_
  refine g2 ?_
  refine rl ((fZ 50 (cs := cI r x) rfl rfl (fun i u h => aL (cI r x) 0 ble i u h) ble kR)) ?_
  refine g1 ?_
  refine gL (cbx (fun b : Bool => .bool b) (fun b => b = true → RightP r) rfl (fun w_ s_ => vJ r x hfb hl hcap w_ (InL.see s_ hin)) (fun rb hrp => ?_))
  refine g1 ?_
  rcases Bool.eq_false_or_eq_true ((!rb)) with hrb | hrb
  ·refine rl ((gZ rfl).to (v' := .bool true) (cB hrb)) ?_
   refine g12 ?_
   refine aJ rfl rfl ?_
   refine g2 ?_
   refine gL (cvo rfl (fun w_ s_ => jM w_) ?_)
   refine g5 ?_
   exact aD (.inl rfl) rfl (aA rfl) fun w_ s_ => ⟨rfl, s_.aGm⟩
  ·have hR : RightP r := hrp (by simpa using hrb)
   refine rl ((gZ rfl).to (v' := .bool false) (cB hrb)) ?_
   refine g5 ?_
   refine rl (rfa 3) ?_
   refine g1 ?_
   refine rl ((aZ 50 rfl rfl (aL (j := 50) (cI r x) 0 ble 3 _ rfl) kR dE).to (v' := iV iv) (congrArg (Value.int .i64) hivr)) ?_
   refine g7 ?_
   rcases Decidable.em (9145440000 < (m : Int) * iv * U) with hbig | hbig
   ·refine rl ((cQ rfl rfl).to bT) ?_
    refine g3 ?_
    refine aJ rfl rfl ?_
    refine g2 ?_
    refine gL (cvo rfl (fun w_ s_ => jM w_) ?_)
    refine g5 ?_
    exact aD (.inl rfl) rfl (aA rfl) fun w_ s_ => ⟨rfl, s_.aGm⟩
   ·refine rl ((cQ rfl rfl).to bF) ?_
    refine g3 ?_
    refine aB rfl rfl ?_
    refine g3 ?_
    have hUf : 2 ≤ f ∧ f ≤ 6 ∧ U = fO f := by
     unfold kK at hU
     split at hU
     ·omega
     ·exact ⟨by omega, by omega, hU⟩
    have hd9 : Cal.daysTo 9000 = 3286817 := by decide
    have hs1 : 1 ≤ st ∧ st < 3286817 * 86400 := by have h := hR.t1.start; rw [hr_] at h; have h : 1 ≤ st ∧ st < Cal.daysTo 9000 * 86400 := h; omega
    obtain ⟨l, hl_⟩ : ∃ l, l = j6 f st iv m := ⟨_, rfl⟩
    have hll : l.length = m := by rw [hl_]; exact aAf _ _ _ _
    have href : tN r (dW (bD r)) (m : Int) l := by rw [hr_, hl_]; exact aCd ⟨hUf.1, hUf.2.1⟩ hs1 oM (by rw [← hUf.2.2]; omega)
    have hfr : r.freq = f := by rw [hr_]; rfl
    have hfirst : RightP r → qD r (dW (bD r)) := fun rp => by
     rcases (show (r.freq = 2 ∨ r.freq = 3) ∨ (4 ≤ r.freq ∧ r.freq ≤ 6) by omega) with h | h
     ·exact uX rp h
     ·exact wE rp h
    refine g1 ?_
    refine rl ((fZ 50 (cs := cI r x) rfl rfl (fun i u h => aL (cI r x) 0 ble i u h) ble kR)) ?_
    refine gL (crx (ι := Option Addr × Nat) 12 (fun y => .agg (cI r { x with p14 := y.1, c14 := y.2 }).toArray) (fun _ => True) (fun y => ⟨.slice y.1 r.wday.length y.2, 69, 2, r.wday.length, dR r.wday⟩) rfl (fun w_ s_ => (uT r x (by have := lS hR; omega) w_ (InL.see s_ hin)).mono fun e w' ⟨p, c, h1, h2⟩ => ⟨(p, c), trivial, h1, h2⟩) (fun | (pd, cd), _ => ?_))
    refine g1 ?_
    refine gL (crx (ι := Option Addr × Nat) 11 (fun y => .tuple #[.slice y.1 (l).length y.2, .bool true]) (fun _ => True) (fun y => ⟨.slice y.1 (l).length y.2, 2, 1, (l).length, ((l).map iV)⟩) rfl (fun w_ s_ => (hfirst hR m oM l href { x with p14 := pd, c14 := cd } w_ (InL.day (InL.see s_ hin) (aC3 (ps := r.wday) s_ 12 rfl))).mono fun e w' ⟨p, c, h1, h2⟩ => ⟨(p, c), trivial, h1, h2⟩) (fun | (pf, cf), _ => ?_))
    refine g20 ?_
    refine rl ((bX rfl rfl).to (v' := .bool false) (cB (iF oM))) ?_
    refine g3 ?_
    refine aB rfl rfl ?_
    refine g11 ?_
    refine bK (ι := (Nat)) (fun k => m - k) (fun k => (k ≤ m)) (fun k => [(1, iV st), (9, iV U), (11, pT b5), (60, .slice pf l.length cf), (61, iV (l.length)), (62, iV k)]) (fun k => [(50, b5)]) (fun k => cM 50 0 (cI r x) (aP 50 0 [.int .u8 0, .bool false, iV 0, iV 0, iV 0, iV 0, .bool false, iV 0, .slice none 0 0, .slice none 0 0, .slice none 0 0, .slice none 0 0, .slice none 0 0, .slice none 0 0, .slice none 0 0, .slice none 0 0, .slice none 0 0, .slice none 0 0] ++ [])) (fun k => [(11, ⟨.slice pf l.length cf, 2, 1, l.length, (l.map iV)⟩), (12, ⟨.slice pd r.wday.length cd, 69, 2, r.wday.length, dR r.wday⟩)]) 0 (Nat.zero_le _) kns (fun w s => by exact s) ?_
    rintro k hk
    show GC _ _ _ _ [(1, iV st), (9, iV U), (11, pT b5), (60, .slice pf l.length cf), (61, iV (l.length)), (62, iV k)] _ _ ([(50, b5)]) (cM 50 0 (cI r x) (aP 50 0 [.int .u8 0, .bool false, iV 0, iV 0, iV 0, iV 0, .bool false, iV 0, .slice none 0 0, .slice none 0 0, .slice none 0 0, .slice none 0 0, .slice none 0 0, .slice none 0 0, .slice none 0 0, .slice none 0 0, .slice none 0 0, .slice none 0 0] ++ [])) ([(11, ⟨.slice pf l.length cf, 2, 1, l.length, (l.map iV)⟩), (12, ⟨.slice pd r.wday.length cd, 69, 2, r.wday.length, dR r.wday⟩)])
    refine g6 ?_
    refine aE rfl (fun hc1 => ?_) (fun hc2 => ?_)
    ·have hlt : k < m := by have := oT hc1; omega
     obtain ⟨y, hy⟩ : ∃ y, l[k]? = some y := ⟨_, List.getElem?_eq_getElem oM⟩
     have hyv : y = st + (k : Int) * iv * U := by rw [hl_, aAn hlt, ← hUf.2.2] at hy; exact (Option.some.inj hy).symm
     have hki : 0 ≤ (k : Int) * iv ∧ (k : Int) * iv ≤ (m : Int) * iv := ⟨Int.mul_nonneg oM oM, Int.mul_le_mul_of_nonneg_right oM oM⟩
     have hku : 0 ≤ (k : Int) * iv * U ∧ (k : Int) * iv * U ≤ (m : Int) * iv * U := ⟨Int.mul_nonneg hki.1 hub.1, Int.mul_le_mul_of_nonneg_right hki.2 hub.1⟩
     refine dU (fun w s => s.head 11 rfl oM) (fun ⟨bl, hpl, hcl⟩ => ?_)
     subst hpl
     refine g7 ?_
     refine rl (aI (e := 2) (n := 1) kR rfl rfl oM oM) ?_
     refine rl (tQ 11 rfl rfl (by rw [← hy]; congr 1; omega) kR) ?_
     refine g9 ?_
     refine rl (rfa 3) ?_
     refine rl ((aZ 50 rfl rfl (aL (j := 50) (cI r x) 0 ble 3 _ rfl) kR dE).to (v' := iV iv) (congrArg (Value.int .i64) hivr)) ?_
     refine g4 ?_
     refine rl ((bX rfl rfl).to (v' := .bool false) (cB (iF oM))) ?_
     refine g2 ?_
     refine aB rfl rfl ?_
     refine g7 ?_
     refine aV (k + 1) oM oM kns (fun w s => by exact s)
    ·have hge : k = m := by have := oF hc2; omega
     refine g7 ?_
     refine gL (cvo rfl (fun w_ s_ => jM w_) ?_)
     refine g4 ?_
     exact aD (.inl rfl) rfl (aA rfl) fun w_ s_ => ⟨rfl, s_.aGm⟩
end
end Go.Proofs.YtdbbifbmkfmbkaaGreat
