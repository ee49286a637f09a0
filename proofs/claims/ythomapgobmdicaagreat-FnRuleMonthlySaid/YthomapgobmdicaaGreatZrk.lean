import Derived.Test.YthomapgobmdicaaGreatZrj
set_option linter.unusedVariables false
set_option linter.unusedSimpArgs false
set_option maxRecDepth 100000
set_option maxHeartbeats 8000000
namespace Go.Proofs.YthomapgobmdicaaGreat
open Go.Md Go.Tab Go.Fr
theorem kG {y m d : Int} (hm : 1 <= m /\ m <= 12) : Cal.dayNo y m d = Cal.daysTo y + Cal.cum y (m - 1).toNat + d - 1 := by
 unfold Cal.dayNo
 rw [show (m - 1) / 12 = 0 by omega, show (m - 1) % 12 = m - 1 by omega, Int.add_zero]
theorem aCz {y m : Int} (hm : 1 <= m) : Cal.cum y m.toNat = Cal.cum y (m - 1).toNat + Cal.mdays m y := by
 obtain ⟨j, rfl⟩ : ∃ j : Nat, m = (j : Int) + 1 := ⟨(m - 1).toNat, by omega⟩
 rw [show ((j : Int) + 1 - 1).toNat = j by omega, show ((j : Int) + 1).toNat = j + 1 by omega]
 rfl
theorem aH5 {y m d : Int} (hm : 1 <= m /\ m <= 11) : Cal.dayNo y (m + 1) (d - Cal.mdays m y) = Cal.dayNo y m d := by
 rw [kG oM, kG oM, show m + 1 - 1 = m by omega, aCz hm.1]; omega
theorem aIf {y d : Int} : Cal.dayNo (y + 1) 1 (d - Cal.mdays 12 y) = Cal.dayNo y 12 d := by
 rw [kG oM, kG oM]
 have h1 := Cal.cum_12 y
 have h2 : Cal.cum y 12 = Cal.cum y 11 + Cal.mdays 12 y := rfl
 have h3 := Cal.daysTo_succ y
 have h4 : Cal.cum (y + 1) 0 = 0 := rfl
 show Cal.daysTo (y + 1) + Cal.cum (y + 1) 0 + _ - 1 = Cal.daysTo y + Cal.cum y 11 + d - 1
 omega
theorem yN {y m d : Int} (hy : 1 <= y /\ y <= 9999) (hm : 1 <= m /\ m <= 12) (hd : 1 <= d /\ d <= Cal.mdays m y) : 0 <= Cal.dayNo y m d /\ Cal.dayNo y m d < 3652059 := by
 obtain ⟨e1, e2, e3, _⟩ := tX hm hd
 have hb := qS hm hd
 have h1 := Cal.split_spec (Cal.dayNo y m d)
 rw [e2] at h1
 have h2 := Cal.daysTo_succ y
 have h3 := Cal.daysTo_mono (a := y + 1) (b := 10000) oM
 have h4 : Cal.daysTo 10000 = 3652059 := by decide
 have h5 := Cal.daysTo_mono (a := 1) (b := y) oM
 have h6 : Cal.daysTo 1 = 0 := by decide
 omega
theorem uI {r : Ru} : ∀ (n : Nat) (s : It), 1 <= s.d -> s.d <= n -> (1 <= s.mo /\ s.mo <= 12) -> (1 <= s.y /\ s.y <= 9999) -> s.fin = false ->
  ((fK r n s).fin = false -> Cal.dayNo (fK r n s).y (fK r n s).mo (fK r n s).d = Cal.dayNo s.y s.mo s.d) /\ ((fK r n s).fin = true -> 3652059 <= Cal.dayNo s.y s.mo s.d)
 | 0, s, h1, h2, _, _, _ => by omega
 | n + 1, s, h1, h2, hm, hy, hf => by
  have hmd := Cal.mdays_bd s.mo s.y
  unfold fK
  by_cases hd : s.d <= Cal.mdays s.mo s.y
  .rw [if_pos hd]
   exact ⟨fun _ => rfl, fun h => by rw [show (reb r s s.y s.mo).fin = s.fin from rfl, hf] at h; cases h⟩
  .rw [if_neg hd]
   by_cases h13 : s.mo + 1 = 13
   .have e12 : s.mo = 12 := by omega
    rw [if_pos h13]
    by_cases hb : 9999 < s.y + 1
    .rw [if_pos hb]
     refine ⟨fun h => (by cases h), fun _ => ?_⟩
     have e9 : s.y = 9999 := by omega
     rw [e12, e9] at hd ⊢
     rw [kG oM]
     have h4 : Cal.daysTo 9999 = 3651694 := by decide
     have h5 : Cal.cum 9999 (12 - 1 : Int).toNat = 334 := by decide
     have h6 : Cal.mdays 12 9999 = 31 := by decide
     omega
    .rw [if_neg hb]
     have ih := uI (r := r) n { s with d := s.d - Cal.mdays s.mo s.y, mo := 1, y := s.y + 1 } sO sO sO sO hf
     simp only at ih
     have e := aIf (y := s.y) (d := s.d)
     rw [<- e12] at e
     rw [e] at ih
     exact ih
   .rw [if_neg h13]
    have ih := uI (r := r) n { s with d := s.d - Cal.mdays s.mo s.y, mo := s.mo + 1 } sO sO sO hy hf
    simp only at ih
    rw [aH5 oM] at ih
    exact ih
theorem aGa {r : Ru} {s : It} (h1 : 1 <= s.d) (hm : 1 <= s.mo /\ s.mo <= 12) (hy : 1 <= s.y /\ s.y <= 9999) (hf : s.fin = false) :
  ((fix r s).fin = false -> Cal.dayNo (fix r s).y (fix r s).mo (fix r s).d = Cal.dayNo s.y s.mo s.d) /\ ((fix r s).fin = true -> 3652059 <= Cal.dayNo s.y s.mo s.d) := by
 unfold fix
 split
 .exact ⟨fun _ => rfl, fun h => by rw [hf] at h; cases h⟩
 .exact uI _ s h1 oM hm hy hf
theorem sX {r : Ru} : ∀ (n : Nat) (s : It), Rest s (fK r n s)
 | 0, s => Rest.refl s
 | n + 1, s => by
  unfold fK
  split
  .exact ⟨rfl, rfl, rfl, rfl, rfl, rfl, rfl, rfl⟩
  .split
   .split
    .exact ⟨rfl, rfl, rfl, rfl, rfl, rfl, rfl, rfl⟩
    .have a7 := sX (r := r) n { s with d := s.d - Cal.mdays s.mo s.y, mo := 1, y := s.y + 1 }
     exact ⟨a7.h, a7.mi, a7.sec, a7.wd, a7.ts, a7.aP3, a7.count, a7.rem⟩
   .have a7 := sX (r := r) n { s with d := s.d - Cal.mdays s.mo s.y, mo := s.mo + 1 }
    exact ⟨a7.h, a7.mi, a7.sec, a7.wd, a7.ts, a7.aP3, a7.count, a7.rem⟩
theorem aCo {r : Ru} (s : It) : Rest s (fix r s) := by
 unfold fix
 split
 .exact Rest.refl s
 .exact sX _ s
theorem yS {q : Rul} (hf : 2 <= q.aP2) (hi : 1 <= q.aPp) (k : Int) (h : eE q k) : eE q (k + 1) := by
 rcases h with ⟨h, _⟩ | ⟨h, _⟩ | h
 .omega
 .omega
 .refine .inr (.inr ?_)
  have e2 : 7 * (k + 1) * q.aPp = 7 * k * q.aPp + 7 * q.aPp := by rw [Int.mul_add, Int.add_mul]; omega
  have e1 : (k + 1) * q.aPp = k * q.aPp + q.aPp := by rw [Int.add_mul]; omega
  have e3 : (k * q.aPp + q.aPp) * UN q.aP2 = k * q.aPp * UN q.aP2 + q.aPp * UN q.aP2 := Int.add_mul ..
  have e4 : 0 <= q.aPp * UN q.aP2 := Int.mul_nonneg oM (by unfold UN; split; omega; split <;> omega)
  unfold cH pAt at *
  rw [if_neg oM, if_neg oM] at h ⊢
  rw [e2, e1, e3]
  split
  .rename_i h2; rw [if_pos h2] at h; omega
  .rename_i h2
   rw [if_neg h2] at h
   split
   .rename_i h3; rw [if_pos h3] at h; omega
   .rename_i h3; rw [if_neg h3] at h; omega
theorem vH (a : Nat) : ∀ b, List.range (a + b) = List.range a ++ (List.range b).map (a + ·)
 | 0 => by simp
 | b + 1 => by rw [<- Nat.add_assoc, List.range_succ, vH a b, List.range_succ, List.map_append, List.append_assoc]; rfl
theorem zR {r : Ru} {s : It} {q : Rul} {dayF : Int -> Bool} {first : Int} {sh m : Nat} (hn : (aX r s).2 - (aX r s).1 = m) (hd : Cal.daysTo s.ly + (aX r s).1 = first + sh) (h0 : 0 <= first + sh) (hbad : ∀ j : Nat, j < m -> bad r s ((aX r s).1 + j) = !dayF (Cal.daysTo s.ly + ((aX r s).1 + j)))
  (hts : s.ts = nV q.hour q.aPr q.aPs) (h1 : PartOk q.hour 24) (h2 : PartOk q.aPr 60) (h3 : PartOk q.aPs 60) : ∃ L1, kL q dayF first (sh + m) = L1 ++ iN r s /\ (∀ t ∈ L1, t < (first + sh) * 86400) /\ (sh = 0 -> L1 = []) := by
 refine ⟨kL q dayF first sh, ?_, fun t ht => ?_, fun h => by rw [h]; rfl⟩
 .unfold kL
  rw [vH, List.flatMap_append, List.flatMap_map, qC, hn, Int.toNat_natCast]
  congr 1
  unfold List.flatMap
  congr 1
  refine List.map_congr_left fun j hj => ?_
  have hj := List.mem_range.1 hj
  have e : first + ((sh + j : Nat) : Int) = Cal.daysTo s.ly + ((aX r s).1 + j) := by omega
  unfold j5
  rw [hbad j hj, e]
  cases hD : dayF (Cal.daysTo s.ly + ((aX r s).1 + j)) with
  | false => rw [if_neg (fun h => by cases h.2), if_pos (show (!false) = true from rfl)]
  | true =>
   rw [if_pos ⟨by omega, rfl⟩, if_neg dE, z6 h1 h2 h3, <- hts]
   rfl
 .unfold kL at ht
  obtain ⟨i, hi, ht⟩ := oG.1 ht
  unfold j5 at ht
  split at ht
  .have := mK.1 ht
   omega
  .simp at ht
theorem yZ (l : List Int) {at_ : List Int} (h : at_.length = 0) : dY l at_ = l := by unfold dY; rw [if_pos h]
theorem aAp {o : Opn} (h : o.aP2 < 4) : l7 o = nV (cT o) (bI o) (bM o) := by unfold l7; rw [if_pos h]; rfl
def R23 (r : Rul) (k : Int) (s : It) : Prop := s.ts = l7 (aD r) /\ Cal.dayNo s.y s.mo s.d = (if r.aP2 = 2 /\ k = 0 then r.start / 86400 else cH (aV r) k) /\ (r.aP2 = 2 -> s.wd = Cal.dayNo s.y s.mo s.d % 7)
theorem aBz {r : Rul} (hf : r.aP2 = 2) (k : Int) : cH (aV r) k = r.start / 86400 - (r.start / 86400 % 7 - r.aPq + 7) % 7 + 7 * (k * r.aPp) := by
 obtain ⟨e1, e2, e3, e4, _⟩ := cU r
 unfold cH
 rw [e1, e2, e3, e4, if_neg oM, if_neg oM, if_pos hf, Int.mul_assoc]
theorem vB {r : Rul} (hf : r.aP2 = 3) (k : Int) : cH (aV r) k = r.start / 86400 + k * r.aPp := by
 obtain ⟨e1, e2, e3, e4, _⟩ := cU r
 unfold cH
 rw [e1, e2, e3, if_neg oM, if_neg oM, if_neg oM, if_pos hf]
theorem xM {r : Rul} (hf : 2 <= r.aP2) (k : Int) : eE (aV r) k ↔ 3652059 <= cH (aV r) k := by
 obtain ⟨e1, e2, _⟩ := cU r
 unfold eE
 rw [e2]
 constructor
 .rintro (⟨h, _⟩ | ⟨h, _⟩ | h)
  .omega
  .omega
  .exact h
 .exact fun h => .inr (.inr h)
theorem aJh {r : Rul} {wF : Int -> List Int} {nF : Int -> Int -> List Int} {eF : Int -> List Int} (rp : RightP r) (hf : r.aP2 = 2 \/ r.aP2 = 3) (hw : ∀ y m, nF y m = []) : Fits (bE (aD r) wF nF eF) (aV r) (eA (aV r)) (R23 r) where
 over := fun k _ h => yS (by rw [(cU r).2.1]; omega) (by rw [(cU r).2.2.1]; exact rp.t1.aPp.1) k h
 same := fun k s s' h hs => ⟨by rw [hs.ts]; exact h.1, by rw [hs.y, hs.mo, hs.d]; exact h.2.1, by rw [hs.wd, hs.y, hs.mo, hs.d]; exact h.2.2⟩
 pos := fun k s h0 hR hi ho => by
  obtain ⟨hts, hday, hwd⟩ := hR
  obtain ⟨e1, e2, e3, e4, e5, e6, _⟩ := cU r
  obtain ⟨_, _, _, f4, f5, f6⟩ := rL r
  obtain ⟨p1, p2, p3⟩ := nG rp
  have hst := rp.t1.start
  have hwk := rp.t1.aPq
  have hfr : (bE (aD r) wF nF eF).aP2 = r.aP2 := rfl
  have hsp : (bE (aD r) wF nF eF).aPz = r.aPz := rfl
  have hts2 : s.ts = nV (aV r).hour (aV r).aPr (aV r).aPs := by rw [hts, aAp (show r.aP2 < 4 by omega), f4, f5, f6]
  have P1 : PartOk (aV r).hour 24 := by rw [f4]; exact p1 oM
  have P2 : PartOk (aV r).aPr 60 := by rw [f5]; exact p2 oM
  have P3 : PartOk (aV r).aPs 60 := by rw [f6]; exact p3 oM
  have hSI : SI s.ts := by rw [hts2]; exact oV P1 P2 P3
  have hnw : s.nwm = [] := by rw [hi.nwm]; exact hw _ _
  obtain ⟨d1, d2, d3, _⟩ := tX hi.mo ⟨hi.d.1, hi.day (by rw [hfr]; omega)⟩
  have db := qS hi.mo ⟨hi.d.1, hi.day (by rw [hfr]; omega)⟩
  have ds := Cal.split_spec (Cal.dayNo s.y s.mo s.d)
  have dl := yN hi.y hi.mo ⟨hi.d.1, hi.day (by rw [hfr]; omega)⟩
  rw [d2] at ds
  have hlp := Cal.lp_01 s.ly
  have hly := hi.ly
  have hlpe : Cal.lp s.ly = Cal.lp s.y := by rw [hly]
  have hdy : Cal.daysTo s.ly = Cal.daysTo s.y := by rw [hly]
  have hout := x6 (r := bE (aD r) wF nF eF) hSI hi.ts (wV rp.t3.h9)
  rw [hout, hsp, e6]
  have main : ∀ (first : Int) (sh m : Nat), (fH (aV r) k).toNat = sh + m -> first = cH (aV r) k -> (aX (bE (aD r) wF nF eF) s).2 - (aX (bE (aD r) wF nF eF) s).1 = m -> Cal.dayNo s.y s.mo s.d = first + sh -> (aX (bE (aD r) wF nF eF) s).1 = Cal.ydayOf (Cal.dayNo s.y s.mo s.d) -> m <= 7 -> (0 < sh -> r.aPz.length = 0 /\ (first + sh) * 86400 <= r.start) ->
    ∃ L1 L2, dY (eU (aV r) (eA (aV r)) k) r.aPz = L1 ++ L2 /\ (∀ t ∈ L1, t < (bE (aD r) wF nF eF).d0) /\ dD (bE (aD r) wF nF eF) s (dY (iN (bE (aD r) wF nF eF) s) r.aPz) = dD (bE (aD r) wF nF eF) s L2 := by
   intro first sh m h1 h2 h3 h4 h5 h6 h7
   obtain ⟨L1, g1, g2, g3⟩ := zR (q := aV r) (dayF := eA (aV r)) (first := first) (sh := sh) h3 (by rw [h5, hly]; omega) oM (fun j hj => aNc rp oM hnw oM oM) hts2 P1 P2 P3
   have hp : eU (aV r) (eA (aV r)) k = L1 ++ iN (bE (aD r) wF nF eF) s := by
    unfold eU
    rw [if_neg (by rw [e2]; omega), h1, <- h2]; exact g1
   rw [hp]
   rcases Nat.eq_zero_or_pos sh with hz | hz
   .exact ⟨[], _, by rw [g3 hz]; rfl, fun t ht => by simp at ht, rfl⟩
   .obtain ⟨k1, k2⟩ := h7 hz
    rw [yZ _ k1, yZ _ k1]
    exact ⟨L1, _, rfl, fun t ht => by have := g2 t ht; show t < r.start; omega, rfl⟩
  have hyw : ywd s.ly = Cal.daysTo s.ly % 7 := rfl
  rcases hf with hf | hf
  .have hpm : fH (aV r) k = 7 := by unfold fH; rw [e2, if_neg oM, if_neg oM, if_pos hf]
   have hsn : aX (bE (aD r) wF nF eF) s = (Cal.ydayOf (Cal.dayNo s.y s.mo s.d), Cal.ydayOf (Cal.dayNo s.y s.mo s.d) + 1 + (r.aPq - ywd s.ly - Cal.ydayOf (Cal.dayNo s.y s.mo s.d) - 1) % 7) := by
    unfold aX
    rw [hfr, if_neg oM, if_neg oM]
    simp only
    rw [if_pos hf]; rfl
   have hF := aBz hf k
   have hD : Cal.dayNo s.y s.mo s.d = if k = 0 then r.start / 86400 else cH (aV r) k := by
    rw [hday]
    by_cases hk : k = 0
    .rw [if_pos ⟨hf, hk⟩, if_pos hk]
    .rw [if_neg (fun h => hk h.2), if_neg hk]
   refine main (cH (aV r) k) ((Cal.dayNo s.y s.mo s.d - r.aPq) % 7).toNat (7 - (Cal.dayNo s.y s.mo s.d - r.aPq) % 7).toNat oM rfl (by rw [hsn]; simp only; omega) ?_ (by rw [hsn]) oM (fun hpos => ?_)
   .by_cases hk : k = 0
    .rw [if_pos hk] at hD
     rw [hF, hk]; omega
    .rw [if_neg hk] at hD
     rw [hD, hF]; omega
   .by_cases hk : k = 0
    .rw [if_pos hk] at hD
     refine ⟨?_, by rw [hF, hk]; omega⟩
     rcases Nat.eq_zero_or_pos r.aPz.length with h | h
     .exact h
     .have := rp.t7 hf h; omega
    .rw [if_neg hk] at hD
     rw [hD, hF] at hpos; omega
  .have hpm : fH (aV r) k = 1 := by unfold fH; rw [e2, if_neg oM, if_neg oM, if_neg oM]
   have hsn : aX (bE (aD r) wF nF eF) s = (Cal.ydayOf (Cal.dayNo s.y s.mo s.d), Cal.ydayOf (Cal.dayNo s.y s.mo s.d) + 1) := by
    unfold aX
    rw [hfr, if_neg oM, if_neg oM]
    simp only
    rw [if_neg oM]
   rw [if_neg oM] at hday
   exact main (cH (aV r) k) 0 1 oM rfl (by rw [hsn]; simp only; omega) oM (by rw [hsn]) oM (fun h => by omega)
 adv := fun k s h0 hR hi ho hfin => by
  obtain ⟨hts, hday, hwd⟩ := hR
  have hiv := rp.t1.aPp
  have hwk := rp.t1.aPq
  have hd := hi.d
  have ek : (k + 1) * r.aPp = k * r.aPp + r.aPp := by rw [Int.add_mul]; omega
  refine ⟨k + 1, by omega, fun j h1 h2 => by omega, ?_⟩
  have main : ∀ s2 : It, adv (bE (aD r) wF nF eF) (cS (bE (aD r) wF nF eF) s) s = fix (bE (aD r) wF nF eF) s2 -> s2.ts = s.ts -> s2.y = s.y -> s2.mo = s.mo -> s2.ly = s.ly -> Msk (bE (aD r) wF nF eF) s2 -> s2.fin = s.fin -> 1 <= s2.d -> Cal.dayNo s.y s.mo s.d + (s2.d - s.d) = cH (aV r) (k + 1) -> (r.aP2 = 2 -> s2.wd = cH (aV r) (k + 1) % 7) ->
    ((adv (bE (aD r) wF nF eF) (cS (bE (aD r) wF nF eF) s) s).fin = false -> R23 r (k + 1) (adv (bE (aD r) wF nF eF) (cS (bE (aD r) wF nF eF) s) s) /\ ¬eE (aV r) (k + 1)) /\ ((adv (bE (aD r) wF nF eF) (cS (bE (aD r) wF nF eF) s) s).fin = true -> eE (aV r) (k + 1)) := by
   intro s2 ea b1 b2 b3 b4 b5 b6 b7 b8 b9
   rw [ea]
   have hmo := hi.mo
   have hy := hi.y
   obtain ⟨c1, c2⟩ := aGa (r := bE (aD r) wF nF eF) (s := s2) b7 oM oM (by rw [b6]; exact hfin)
   have hrest := aCo (r := bE (aD r) wF nF eF) s2
   have hdn : Cal.dayNo s2.y s2.mo s2.d = cH (aV r) (k + 1) := by
    rw [b2, b3, <- b8, kG hmo, kG hmo]; omega
   rw [hdn] at c1 c2
   refine ⟨fun h => ?_, fun h => (xM oM _).2 (c2 h)⟩
   have c3 := c1 h
   obtain ⟨g1, g2, g3, _⟩ := aBh (r := bE (aD r) wF nF eF) (s := s2) b7 oM oM (by rw [b4, b2]; exact hi.ly) b5 h
   have gl := yN g3 g2 g1
   rw [c3] at gl
   refine ⟨⟨by rw [hrest.ts, b1]; exact hts, by rw [c3, if_neg oM], fun h2 => by rw [hrest.wd, c3]; exact b9 h2⟩, fun hov => ?_⟩
   have := (xM (r := r) oM _).1 hov
   omega
  unfold adv at main ⊢
  have hfr : (bE (aD r) wF nF eF).aP2 = r.aP2 := rfl
  have hwr : (bE (aD r) wF nF eF).aPq = r.aPq := rfl
  have hir : (bE (aD r) wF nF eF).aPp = r.aPp := rfl
  rcases hf with hf | hf
  .have hf0 : ¬ (bE (aD r) wF nF eF).aP2 = 0 := by omega
   have hf1 : ¬ (bE (aD r) wF nF eF).aP2 = 1 := by omega
   have hf2 : (bE (aD r) wF nF eF).aP2 = 2 := by omega
   have hF := aBz hf (k + 1)
   have hF0 := aBz hf k
   have hwd := hwd hf
   have hb : Cal.dayNo s.y s.mo s.d + (-((Cal.dayNo s.y s.mo s.d - r.aPq) % 7) + r.aPp * 7) = cH (aV r) (k + 1) := by
    rw [hF, hday]
    by_cases hk : k = 0
    .rw [if_pos ⟨hf, hk⟩, hk]; omega
    .rw [if_neg (fun h => hk h.2), hF0, ek]; omega
   rw [if_neg hf0, if_neg hf1, if_pos hf2] at main ⊢
   refine main _ rfl rfl rfl rfl rfl ⟨hi.wno, hi.nwm, hi.eas⟩ rfl ?_ ?_ (fun _ => ?_)
   .simp only; split <;> omega
   .simp only
    rw [<- hb]
    split <;> omega
   .show r.aPq = _
    omega
  .have hf0 : ¬ (bE (aD r) wF nF eF).aP2 = 0 := by omega
   have hf1 : ¬ (bE (aD r) wF nF eF).aP2 = 1 := by omega
   have hf2 : ¬ (bE (aD r) wF nF eF).aP2 = 2 := by omega
   have hf3 : (bE (aD r) wF nF eF).aP2 = 3 := by omega
   rw [if_neg hf0, if_neg hf1, if_neg hf2, if_pos hf3] at main ⊢
   refine main _ rfl rfl rfl rfl rfl ⟨hi.wno, hi.nwm, hi.eas⟩ rfl ?_ ?_ (fun h => by omega)
   .simp only; omega
   .simp only
    rw [hday, if_neg oM, vB hf, vB hf, ek]; omega
theorem aBn {b : Int} : ∀ {l : List Int} {a : Int}, SI l -> (∀ x ∈ l, a <= x /\ x < b) -> a <= b -> (l.length : Int) <= b - a
 | [], a, _, _, h => by simp only [List.length_nil]; omega
 | x :: l, a, h, hb, hab => by
  obtain ⟨h1, h2⟩ := List.pairwise_cons.1 h
  have hx := hb x (List.mem_cons_self ..)
  have := aBn (a := x + 1) (b := b) h2 (fun y hy => ⟨by have := h1 y hy; omega, (hb y (List.mem_cons_of_mem _ hy)).2⟩) oM
  simp only [List.length_cons]; omega
theorem u6 {q : Rul} {dayF : Int -> Bool} {en most : Int} {k : Int} {o l : List Int} (h : DatesP q dayF en most k o l) : (o.length : Int) <= most -> (l.length : Int) <= most := by
 induction h with
 | over _ => exact id
 | stop h hs => intro hm; unfold dW; exact kC _ _ _ _ _ _ hm
 | more h hs hn ih => intro hm; exact ih (by unfold dW; exact kC _ _ _ _ _ _ hm)
theorem aB3 {r : Rul} {ts : List Int} {wF : Int -> List Int} {nF : Int -> Int -> List Int} {eF : Int -> List Int} (rp : RightP r) (ht : (ts).length <= 100000 /\ ∀ t ∈ ts, 0 <= t /\ t < 86400) (hmeet : 4 <= r.aP2 -> ∀ b, ∃ K, jL (bE (aD r) wF nF eF) b (it1 (aD r) (bE (aD r) wF nF eF) ts) = some K /\ (K : Int) <= dJ r.aP2) : ItOk (bE (aD r) wF nF eF) (it1 (aD r) (bE (aD r) wF nF eF) ts) := by
 have hst := rp.t1.start
 have hd9 : Cal.daysTo 9000 = 3286817 := by decide
 have hs : 0 <= r.start / 86400 /\ r.start / 86400 < 3286817 := by omega
 obtain ⟨s1, s2, s3⟩ := Cal.split_spec (r.start / 86400)
 obtain ⟨j, hj, c1, c2⟩ := Cal.mon_ex s2 s3
 obtain ⟨_, _, m1, m2⟩ := Cal.date_unique hj c1 c2
 have hc : Cal.cum (Cal.yearOf (r.start / 86400)) (j + 1) = Cal.cum (Cal.yearOf (r.start / 86400)) j + Cal.mdays ((j : Int) + 1) (Cal.yearOf (r.start / 86400)) := rfl
 rw [s1] at m1 m2
 have hy : 1 <= Cal.yearOf (r.start / 86400) /\ Cal.yearOf (r.start / 86400) <= 9999 := by
  constructor
  .rcases Int.lt_or_le (Cal.yearOf (r.start / 86400)) 1 with h | h
   .have := Cal.daysTo_succ (Cal.yearOf (r.start / 86400))
    have := Cal.daysTo_mono (a := Cal.yearOf (r.start / 86400) + 1) (b := 1) oM
    have h1 : Cal.daysTo 1 = 0 := by decide
    omega
   .exact h
  .rcases Int.lt_or_le 9999 (Cal.yearOf (r.start / 86400)) with h | h
   .have := Cal.daysTo_mono (a := 10000) (b := Cal.yearOf (r.start / 86400)) oM
    have h1 : Cal.daysTo 10000 = 3652059 := by decide
    omega
   .exact h
 have hmb := Cal.month_bd (r.start / 86400)
 exact {
  y := hy
  ly := rfl
  mo := ⟨hmb.1, hmb.2.1⟩
  d := ⟨hmb.2.2.1, hmb.2.2.2⟩
  day := fun _ => by show Cal.mdayOf (r.start / 86400) <= Cal.mdays (Cal.monthOf (r.start / 86400)) (Cal.yearOf (r.start / 86400)); rw [m1, m2]; omega
  wd := by show 0 <= ((r.start / 86400 + 1) % 7 + 6) % 7 /\ ((r.start / 86400 + 1) % 7 + 6) % 7 <= 6; omega
  hr := by show 0 <= r.start % 86400 / 3600 /\ r.start % 86400 / 3600 <= 23; omega
  mn := by show 0 <= r.start % 86400 / 60 % 60 /\ r.start % 86400 / 60 % 60 <= 59; omega
  sec := by show 0 <= r.start % 86400 % 60 /\ r.start % 86400 % 60 <= 59; omega
  ts := ht.2
  tsn := ht.1
  aP3 := ⟨Int.le_refl _, by show (0 : Int) <= 1000000000000 + ((0 : Nat) : Int); omega⟩
  count := by have := rp.t1.count; show 0 <= r.count /\ r.count <= _; omega
  wno := rfl
  nwm := rfl
  eas := rfl
  lm := fun _ => rfl
  meet := hmeet }
theorem aBj {r : Rul} (rp : RightP r) (hf : r.aP2 < 4) : (l7 (aD r)).length <= 100000 /\ ∀ t ∈ l7 (aD r), 0 <= t /\ t < 86400 := by
 obtain ⟨p1, p2, p3⟩ := nG rp
 rw [aAp (show (aD r).aP2 < 4 from hf)]
 have hb : ∀ t ∈ nV (cT (aD r)) (bI (aD r)) (bM (aD r)), 0 <= t /\ t < 86400 := fun t ht => by
  have := (qE (p1 hf) (p2 oM) (p3 oM)).1 ht
  exact ⟨this.1, this.2.1⟩
 have := aBn (oV (p1 hf) (p2 oM) (p3 oM)) hb oM
 exact ⟨by omega, hb⟩
theorem aLo {r : Rul} (rp : RightP r) (wF : Int -> List Int) (nF : Int -> Int -> List Int) (eF : Int -> List Int) : (bE (aD r) wF nF eF).u0 = fJ r := by
 show until0 (aD r) = _
 unfold until0 fJ
 obtain ⟨h1, h2⟩ := rp.t2
 by_cases hu : r.aP0 = true
 .have e : (aD r).u = r.untl := by unfold aD; simp only; rw [if_pos hu]
  have := (h2 hu).2.1
  rw [if_pos hu, if_neg (by rw [e]; omega), e]
 .have e : (aD r).u = 0 := by unfold aD; simp only; rw [if_neg hu]
  rw [if_neg hu, if_pos e]; rfl
theorem qP {r : Rul} {ts : List Int} {wF : Int -> List Int} {nF : Int -> Int -> List Int} {eF : Int -> List Int} {dayF : Int -> Bool} {R : Int -> It -> Prop} (rp : RightP r) (fits : Fits (bE (aD r) wF nF eF) (aV r) dayF R) (hpres : wJ (bE (aD r) wF nF eF))
  (hi : ItOk (bE (aD r) wF nF eF) (it1 (aD r) (bE (aD r) wF nF eF) ts)) (hR : R 0 (it1 (aD r) (bE (aD r) wF nF eF) ts)) (ho : ¬eE (aV r) 0) {most : Nat} (hm : most <= 1000000) {l : List Int} (h : mP r dayF most l) : ∃ N, Tells (bE (aD r) wF nF eF) N (it1 (aD r) (bE (aD r) wF nF eF) ts) most l := by
 obtain ⟨e1, e2, e3, e4, e5, e6, _⟩ := cU r
 unfold mP at h
 rcases Nat.eq_zero_or_pos most with h0 | h0
 .subst h0
  have := u6 h (by simp)
  have hl : l = [] := List.eq_nil_of_length_eq_zero oM
  subst hl
  exact ⟨0, .zero⟩
 .have hcnt := rp.t1.count
  obtain ⟨N, l', h1, h2⟩ := aCt fits hpres (by rw [e5]; exact hcnt.1) (by rw [e1]; rfl) (aLo rp wF nF eF) oM h (Int.le_refl _) 0 _ (Int.le_refl _) (fun j h1 h2 => by omega) hR ho hi rfl rfl rfl (by simp only [List.length_nil]; omega) ⟨fun h => by rw [e5] at h; exact h, fun h => by rw [e5] at h ⊢; exact ⟨by show r.count = r.count - ((0 : Nat) : Int); omega, by simp only [List.length_nil]; omega⟩⟩
  rw [List.nil_append] at h1
  subst h1
  rw [show ((most : Int) - (([] : List Int).length : Int)).toNat = most by simp] at h2
  exact ⟨N, h2⟩
open Go.RowKit Go.Fr Go.Tab
section
variable {F : Nat -> Prop} {w0 : World} {B : LN} {H : LV} {S : LS}
open Go.Md Go.ChangeShapes Go.WideShapes Go.Deep
theorem aIl {H : Type} {enc : TypeId × Value -> H} {P : Program} {w : World} {base : Nat} {sp : Nat -> Bool} {hd : Bool} {t : TypeId} {fs : Array Field} {fuel : Nat} {cs : List Value} {x : DataW H × List MemPlace} (ht : P.underlying t = some (.struct fs)) (h : DataW.trod enc P w base sp hd fuel t cs = some x) :
  ∃ n, cs.length = P.cellsOf t /\ ∀ (i : Nat) (f : Field) (c : Value), fs[i]? = some f -> P.cellsOf f.type = 1 -> cs[f.offset]? = some c -> ∃ y, DataW.trod enc P w base sp hd n f.type [c] = some y := by
 obtain ⟨xs, n, _, _, hl, hx, hf⟩ := DataW.trod_struct ht h
 refine ⟨n, hl, fun i f c h1 h2 h3 => ?_⟩
 have hi := (Array.getElem?_eq_some_iff.1 h1).1
 have h4 := hf i f h1
 obtain ⟨ho, rfl⟩ := List.getElem?_eq_some_iff.1 h3
 rw [h2, List.drop_eq_getElem_cons ho, List.take_succ_cons, List.take_zero] at h4
 exact ⟨_, h4.trans (List.getElem?_eq_getElem oM)⟩
theorem aAe {w : World} {a : Addr} {v : Value} (h : w.cell? a = some v) : a.spot = none := by
 unfold World.cell? at h
 cases hs : a.spot with
 | none => rfl
 | some s =>
  rw [hs] at h
  split at h
  .simp at h
  .cases h
def pC : Value -> Int
 | .int _ n => n
 | _ => 0
theorem jH {H : Type} {enc : TypeId × Value -> H} {P : Program} {w : World} {sp : Nat -> Bool} {hd : Bool} {t e : TypeId} {fuel : Nat} {c : Value} {x : DataW H × List MemPlace} (ht : P.underlying t = some (.slice e)) (he : P.underlying e = some (.int .i64)) (hc : P.cellsOf e = 1) (h : DataW.trod enc P w 0 sp hd fuel t [c] = some x) :
  ∃ (p : Option Addr) (k : Nat) (xs : List Int), c = .slice p xs.length k /\ xs.length <= k /\ xs.length <= maxLen /\ Ints w (.slice p xs.length k) xs := by
 rcases open_slice1 ht hc h with ⟨h1, _⟩ | ⟨a, len, cap, m, n, V, D, Pl, h1, _, h2, h3, hm, _, h4⟩
 .injection h1 with h1 _
  exact ⟨none, 0, [], h1, Nat.le_refl _, Nat.zero_le _, Ints.nil⟩
 .injection h1 with h1 _
  have hlm : len <= m := by rw [hm]; split <;> omega
  have hv : ∀ i, i < len -> w.cell? (a.add i) = some (iV (pC (V i))) := fun i hi => by
   obtain ⟨g1, g2⟩ := h4 i oM
   obtain ⟨k, g3, _, _⟩ := DataW.trod_int he g2
   injection g3 with g3 _
   rw [g1, g3]; rfl
  have hl : ((List.range len).map fun i => pC (V i)).length = len := by simp
  refine ⟨some a, cap, (List.range len).map fun i => pC (V i), by rw [hl]; exact h1, by rw [hl]; exact h2, by rw [hl]; omega, some a, cap, rfl, fun i y hy => ?_⟩
  have hi := (List.getElem?_eq_some_iff.1 hy).1
  rw [hl] at hi
  have hy2 : pC (V i) = y := by
   rw [List.getElem?_map, List.getElem?_range hi] at hy
   exact Option.some.inj hy
  have hcell := hv i hi
  rw [hy2] at hcell
  have hsp : a.spot = none := aAe (hv 0 oM)
  obtain ⟨ab, ao, sq⟩ := a
  cases sq with
  | none => exact ⟨ab, ao, rfl, by rw [add_plain] at hcell; exact hcell⟩
  | some s => cases hsp
theorem aIn {H : Type} {enc : TypeId × Value -> H} {P : Program} {w : World} {sp : Nat -> Bool} {hd : Bool} {t e : TypeId} {f0 f1 : Field} {fuel : Nat} {c : Value} {x : DataW H × List MemPlace} (ht : P.underlying t = some (.slice e)) (he : P.underlying e = some (.struct #[f0, f1])) (ce : P.cellsOf e = 2) (o0 : f0.offset = 0) (o1 : f1.offset = 1) (c0 : P.cellsOf f0.type = 1) (c1 : P.cellsOf f1.type = 1)
  (i0 : P.underlying f0.type = some (.int .i64)) (i1 : P.underlying f1.type = some (.int .i64)) (h : DataW.trod enc P w 0 sp hd fuel t [c] = some x) :
  ∃ (p : Option Addr) (k : Nat) (xs : List (Int × Int)), c = .slice p xs.length k /\ xs.length <= k /\ xs.length <= maxLen /\ Prs w (.slice p xs.length k) xs := by
 rcases open_slice_pairs ht he ce o0 o1 c0 c1 h with ⟨h1, _⟩ | ⟨a, len, cap, m, n, V0, V1, D0, D1, P0, P1, h1, _, h2, h3, hm, _, h4⟩
 .injection h1 with h1 _
  exact ⟨none, 0, [], h1, Nat.le_refl _, Nat.zero_le _, none, 0, rfl, fun i x h => by simp at h⟩
 .injection h1 with h1 _
  have hlm : len <= m := by rw [hm]; split <;> omega
  have hv : ∀ i, i < len -> w.cell? (a.add (i * 2)) = some (iV (pC (V0 i))) /\ w.cell? (a.add (i * 2 + 1)) = some (iV (pC (V1 i))) := fun i hi => by
   obtain ⟨g1, g2, g3, g4⟩ := h4 i oM
   obtain ⟨k, q1, _, _⟩ := DataW.trod_int i0 g3
   obtain ⟨k', q2, _, _⟩ := DataW.trod_int i1 g4
   injection q1 with q1 _
   injection q2 with q2 _
   rw [g1, g2, q1, q2]; exact ⟨rfl, rfl⟩
  have hl : ((List.range len).map fun i => (pC (V0 i), pC (V1 i))).length = len := by simp
  refine ⟨some a, cap, (List.range len).map fun i => (pC (V0 i), pC (V1 i)), by rw [hl]; exact h1, by rw [hl]; exact h2, by rw [hl]; omega, some a, cap, rfl, fun i y hy => ?_⟩
  have hi := (List.getElem?_eq_some_iff.1 hy).1
  rw [hl] at hi
  have hy2 : (pC (V0 i), pC (V1 i)) = y := by
   rw [List.getElem?_map, List.getElem?_range hi] at hy
   exact Option.some.inj hy
  obtain ⟨g1, g2⟩ := hv i hi
  subst hy2
  have hsp : a.spot = none := by have := aAe (hv 0 oM).1; rwa [Nat.zero_mul] at this
  obtain ⟨ab, ao, sq⟩ := a
  cases sq with
  | none => exact ⟨ab, ao, rfl, by rw [add_plain] at g1; rw [Nat.mul_comm]; exact g1, by rw [add_plain] at g2; rw [Nat.mul_comm]; exact g2⟩
  | some s => cases hsp
theorem aJs {n : Int} (h : (Lit.int .i64 n).wf = true) : -9223372036854775808 <= n /\ n <= 9223372036854775807 := by
 simp only [Lit.wf, Bool.and_eq_true, decide_eq_true_eq] at h
 have h1 : IntKind.i64.min = -9223372036854775808 := by decide
 have h2 : IntKind.i64.max = 9223372036854775807 := by decide
 omega
theorem wf8 {n : Int} (h : (Lit.int .u8 n).wf = true) : 0 <= n /\ n <= 255 := by
 simp only [Lit.wf, Bool.and_eq_true, decide_eq_true_eq] at h
 have h1 : IntKind.u8.min = 0 := by decide
 have h2 : IntKind.u8.max = 255 := by decide
 omega
structure RIn (W : World) (r : Rul) (x : Av) : Prop where
 aP2 : 0 <= r.aP2 /\ r.aP2 <= 255
 start : -9223372036854775808 <= r.start /\ r.start <= 9223372036854775807
 aPp : -9223372036854775808 <= r.aPp /\ r.aPp <= 9223372036854775807
 aPq : -9223372036854775808 <= r.aPq /\ r.aPq <= 9223372036854775807
 count : -9223372036854775808 <= r.count /\ r.count <= 9223372036854775807
 untl : -9223372036854775808 <= r.untl /\ r.untl <= 9223372036854775807
 inl : InL W r x
 big : r.aPz.length <= x.c9 /\ r.aPz.length <= maxLen /\ r.aPt.length <= x.c10 /\ r.aPt.length <= maxLen /\ r.aPu.length <= x.c11 /\ r.aPu.length <= maxLen /\ r.aPw.length <= x.c12 /\ r.aPw.length <= maxLen /\ r.aPx.length <= x.c13 /\ r.aPx.length <= maxLen /\ r.wday.length <= x.c14 /\ r.wday.length <= maxLen /\ r.hour.length <= x.c15 /\ r.hour.length <= maxLen /\ r.aPr.length <= x.c16 /\ r.aPr.length <= maxLen /\ r.aPs.length <= x.c17 /\ r.aPs.length <= maxLen /\ r.aPy.length <= x.c18 /\ r.aPy.length <= maxLen
theorem open_rule {H : Type} {enc : TypeId × Value -> H} {W : World} {base : Nat} {sp : Nat -> Bool} {hd : Bool} {v : Value} {d : DataW H} {ps : List MemPlace} (hval : Value.okWide Tryz.prog W .any base 25 v) (h : DataW.Trod enc Tryz.prog W 0 sp hd 25 v d ps) : ∃ (r : Rul) (x : Av), v = .agg (bG r x).toArray /\ RIn W r x := by
 obtain ⟨cs, rfl, _⟩ := okWide_struct Tryz.underlying25 hval
 obtain ⟨l, rfl⟩ : ∃ l : List Value, cs = l.toArray := ⟨cs.toList, by simp⟩
 obtain ⟨fuel, h⟩ := h
 have h : DataW.trod enc Tryz.prog W 0 sp hd fuel 25 l = some (d, ps) := h
 obtain ⟨n, hl, hf⟩ := aIl Tryz.underlying25 h
 have hl : l.length = 18 := hl.trans kR
 match l, hl with
 | [k0, k1, k2, k3, k4, k5, k6, k7, k8, k9, k10, k11, k12, k13, k14, k15, k16, k17], _ =>
  obtain ⟨y0, t0⟩ := hf 0 _ k0 rfl kR rfl
  obtain ⟨v0, e0, _, w0⟩ := DataW.trod_int Tryz.underlying5 t0
  injection e0 with e0 _
  subst e0
  obtain ⟨y1, t1⟩ := hf 1 _ k1 rfl kR rfl
  obtain ⟨v1, e1, _⟩ := DataW.trod_bool Tryz.underlying4 t1
  injection e1 with e1 _
  subst e1
  obtain ⟨y2, t2⟩ := hf 2 _ k2 rfl kR rfl
  obtain ⟨v2, e2, _, w2⟩ := DataW.trod_int Tryz.underlying2 t2
  injection e2 with e2 _
  subst e2
  obtain ⟨y3, t3⟩ := hf 3 _ k3 rfl kR rfl
  obtain ⟨v3, e3, _, w3⟩ := DataW.trod_int Tryz.underlying3 t3
  injection e3 with e3 _
  subst e3
  obtain ⟨y4, t4⟩ := hf 4 _ k4 rfl kR rfl
  obtain ⟨v4, e4, _, w4⟩ := DataW.trod_int Tryz.underlying3 t4
  injection e4 with e4 _
  subst e4
  obtain ⟨y5, t5⟩ := hf 5 _ k5 rfl kR rfl
  obtain ⟨v5, e5, _, w5⟩ := DataW.trod_int Tryz.underlying3 t5
  injection e5 with e5 _
  subst e5
  obtain ⟨y6, t6⟩ := hf 6 _ k6 rfl kR rfl
  obtain ⟨v6, e6, _⟩ := DataW.trod_bool Tryz.underlying4 t6
  injection e6 with e6 _
  subst e6
  obtain ⟨y7, t7⟩ := hf 7 _ k7 rfl kR rfl
  obtain ⟨v7, e7, _, w7⟩ := DataW.trod_int Tryz.underlying2 t7
  injection e7 with e7 _
  subst e7
  obtain ⟨y8, t8⟩ := hf 8 _ k8 rfl kR rfl
  obtain ⟨p8, c8, v8, rfl, a8, b8, i8⟩ := jH Tryz.underlying22 Tryz.underlying3 kR t8
  obtain ⟨y9, t9⟩ := hf 9 _ k9 rfl kR rfl
  obtain ⟨p9, c9, v9, rfl, a9, b9, i9⟩ := jH Tryz.underlying22 Tryz.underlying3 kR t9
  obtain ⟨y10, t10⟩ := hf 10 _ k10 rfl kR rfl
  obtain ⟨p10, c10, v10, rfl, a10, b10, i10⟩ := jH Tryz.underlying22 Tryz.underlying3 kR t10
  obtain ⟨y11, t11⟩ := hf 11 _ k11 rfl kR rfl
  obtain ⟨p11, c11, v11, rfl, a11, b11, i11⟩ := jH Tryz.underlying22 Tryz.underlying3 kR t11
  obtain ⟨y12, t12⟩ := hf 12 _ k12 rfl kR rfl
  obtain ⟨p12, c12, v12, rfl, a12, b12, i12⟩ := jH Tryz.underlying22 Tryz.underlying3 kR t12
  obtain ⟨y13, t13⟩ := hf 13 _ k13 rfl kR rfl
  obtain ⟨p13, c13, v13, rfl, a13, b13, i13⟩ := aIn Tryz.underlying23 Tryz.underlying43 kR rfl rfl kR kR Tryz.underlying3 Tryz.underlying3 t13
  obtain ⟨y14, t14⟩ := hf 14 _ k14 rfl kR rfl
  obtain ⟨p14, c14, v14, rfl, a14, b14, i14⟩ := jH Tryz.underlying22 Tryz.underlying3 kR t14
  obtain ⟨y15, t15⟩ := hf 15 _ k15 rfl kR rfl
  obtain ⟨p15, c15, v15, rfl, a15, b15, i15⟩ := jH Tryz.underlying22 Tryz.underlying3 kR t15
  obtain ⟨y16, t16⟩ := hf 16 _ k16 rfl kR rfl
  obtain ⟨p16, c16, v16, rfl, a16, b16, i16⟩ := jH Tryz.underlying22 Tryz.underlying3 kR t16
  obtain ⟨y17, t17⟩ := hf 17 _ k17 rfl kR rfl
  obtain ⟨p17, c17, v17, rfl, a17, b17, i17⟩ := jH Tryz.underlying22 Tryz.underlying3 kR t17
  refine ⟨⟨v0, v1, v2, v3, v4, v5, v6, v7, v8, v9, v10, v11, v12, v13, v14, v15, v16, v17⟩, ⟨p8, p9, p10, p11, p12, p13, p14, p15, p16, p17, c8, c9, c10, c11, c12, c13, c14, c15, c16, c17, none, none, none, none, none, none, none, none, none, none, none, 0, 0, 0, 0, 0, 0, 0, 0, 0, 0, 0⟩, rfl, ?_⟩
  exact ⟨wf8 w0, aJs w2, aJs w3, aJs w4, aJs w5, aJs w7, ⟨i8, i9, i10, i11, i12, i13, i14, i15, i16, i17⟩, ⟨a8, b8, a9, b9, a10, b10, a11, b11, a12, b12, a13, b13, a14, b14, a15, b15, a16, b16, a17, b17⟩⟩
theorem CapL.of {r : Rul} {x : Av} {W : World} (h : RIn W r x) : CapL r x := by
 obtain ⟨a1, _, a2, _, a3, _, a4, _, a5, _, a6, _, a7, _, a8, _, a9, _, a10, _⟩ := h.big
 exact ⟨a1, a2, a3, a4, a5, a6, a7, a8, a9, a10⟩
open Go.Md
theorem xW {r : Ru} (hr : RuOk r) (hf : r.aP2 = 3) (hmk : MkOk r) : aLb r := by
 intro F w0 B H S S0 H0 l it rb s a Q flt st s0 hk hsm hfin hn hq
 have h1 := hk.y
 have h2 := hk.mo
 have h3 := hk.d
 have h4 := hk.wd
 have h5 := hk.ly
 have h6 := hsm.y
 have h7 := hsm.mo
 have h8 := hsm.d
 have h9 := hsm.wd
 have h10 := hsm.ly
 have m1 : s.wno = r.wnoF s.ly := by rw [hsm.wno, hsm.ly]; exact hk.wno
 have m2 : s.nwm = r.nwmF s.ly s.lm := by rw [hsm.nwm, hsm.ly, hsm.lm]; exact hk.nwm
 have m3 : s.eas = r.easF s.ly := by rw [hsm.eas, hsm.ly]; exact hk.eas
 exact aHa st hr hmk m1 m2 m3 oM oM oM oM oM hfin hf hn hq
theorem aAc {r : Ru} (hr : RuOk r) (hf : r.aP2 < 4) (hmk : MkOk r) : aLb r := by
 intro F w0 B H S S0 H0 l it rb s a Q flt st s0 hk hsm hfin hn hq
 have h1 := hk.y
 have h2 := hk.mo
 have h3 := hk.d
 have h4 := hk.wd
 have h5 := hk.ly
 have h6 := hsm.y
 have h7 := hsm.mo
 have h8 := hsm.d
 have h9 := hsm.wd
 have h10 := hsm.ly
 have m1 : s.wno = r.wnoF s.ly := by rw [hsm.wno, hsm.ly]; exact hk.wno
 have m2 : s.nwm = r.nwmF s.ly s.lm := by rw [hsm.nwm, hsm.ly, hsm.lm]; exact hk.nwm
 have m3 : s.eas = r.easF s.ly := by rw [hsm.eas, hsm.ly]; exact hk.eas
 have hff := hr.aP2
 rcases (show r.aP2 = 0 \/ r.aP2 = 1 \/ r.aP2 = 2 \/ r.aP2 = 3 by omega) with hf | hf | hf | hf
 .exact aDz st hr hmk m1 m2 m3 oM oM oM oM oM hfin hf hn hq
 .exact aDs st hr hmk m1 m2 m3 oM oM oM oM oM hfin hf hn hq
 .exact aE6 st hr hmk m1 m2 m3 oM oM oM oM oM hfin hf hn hq
 .exact xW hr hf hmk F w0 B H S S0 H0 l it rb s a Q flt st s0 hk hsm hfin hn hq
end
open Go.Md Go.Tab Go.Fr
theorem tG (y : Int) {x : Int} (hx : 1 <= x /\ x <= 12) : 0 <= (jQ y x).1 /\ (jQ y x).1 < (jQ y x).2 /\ (jQ y x).2 <= 365 + Cal.lp y := by
 unfold jQ rgY Cal.lp
 cases Cal.leapB y with
 | true =>
  simp only [if_true]
  rcases (show x = 1 \/ x = 2 \/ x = 3 \/ x = 4 \/ x = 5 \/ x = 6 \/ x = 7 \/ x = 8 \/ x = 9 \/ x = 10 \/ x = 11 \/ x = 12 by omega) with rfl | rfl | rfl | rfl | rfl | rfl | rfl | rfl | rfl | rfl | rfl | rfl <;> decide
 | false =>
  simp only [Bool.false_eq_true, if_false]
  rcases (show x = 1 \/ x = 2 \/ x = 3 \/ x = 4 \/ x = 5 \/ x = 6 \/ x = 7 \/ x = 8 \/ x = 9 \/ x = 10 \/ x = 11 \/ x = 12 by omega) with rfl | rfl | rfl | rfl | rfl | rfl | rfl | rfl | rfl | rfl | rfl | rfl <;> decide
theorem zS {f : Int} {aPt : List Int} {y m : Int} (hmo : ∀ x ∈ aPt, 1 <= x /\ x <= 12) (hm : 1 <= m /\ m <= 12) : ∀ q ∈ cD f aPt y m, 0 <= q.1 /\ q.1 < q.2 /\ q.2 <= 365 + Cal.lp y := by
 intro q hq
 have hlp := Cal.lp_01 y
 unfold cD at hq
 split at hq
 .split at hq
  .obtain ⟨x, hx, rfl⟩ := List.mem_map.1 hq
   exact tG y (hmo x hx)
  .rw [List.mem_singleton] at hq
   subst hq
   exact ⟨Int.le_refl _, by show 0 < 365 + Cal.lp y; omega, Int.le_refl _⟩
 .rw [List.mem_singleton] at hq
  subst hq
  exact tG y hm
theorem aG9 {r : Ru} (hr : RuOk r) (hw : r.aPx.length = 0) (hd : r.nwd.length = 0) (he : r.aPy.length = 0) (hm : ∀ x ∈ r.aPt, 1 <= x /\ x <= 12) : MkOk r where
 wnoF := fun y => by rw [hr.wnoF0 hw]; unfold sM; rw [if_pos hw]
 nwmF := fun y m => by rw [hr.nwmF0 hd]; unfold nwM; rw [if_pos hd]
 easF := fun y => by rw [hr.easF0 he]; unfold uJ; rw [if_pos he]
 wk := fun x hx => by rw [List.eq_nil_of_length_eq_zero hw] at hx; cases hx
 ea := fun x hx => by rw [List.eq_nil_of_length_eq_zero he] at hx; cases hx
 mo := hm
 nw := fun y m hm2 q hq => by
  obtain ⟨h1, h2, h3⟩ := zS hm hm2 q hq
  exact ⟨h1, h2, h3, fun p hp => by rw [List.eq_nil_of_length_eq_zero hd] at hp; cases hp⟩
open Go.Md Go.Tab Go.Fr
abbrev wO : Int -> List Int := fun _ => []
abbrev nO : Int -> Int -> List Int := fun _ _ => []
theorem oC {r : Rul} (rp : RightP r) : r.wday.length <= 100 := by
 rcases Nat.lt_or_ge 100 r.wday.length with h | h
 .have := (rp.t6 100 _ (List.getElem?_eq_getElem h)).2.2.2.2
  omega
 .exact h
theorem kT {r : Rul} {l : List Int} {b : Int} {m : Bool} {a : Int} (h : jS l a b m = true) (ha : 0 <= a) : ∀ y ∈ l, (a <= y /\ y <= b) \/ (m = true /\ -b <= y /\ y <= -a) := fun y hy => by
 have := (fR h).2.1 y hy
 unfold okR at this
 split at this
 .rename_i hm
  rw [Bool.and_eq_true, Bool.and_eq_true] at this
  have h1 := oT this.1
  have h2 := oT this.2.1
  exact .inr ⟨hm.1, h1, by omega⟩
 .rw [Bool.and_eq_true] at this
  exact .inl ⟨oT this.1, oT this.2⟩
theorem iL {r : Rul} (rp : RightP r) : OpOk (aD r) where
 aP2 := rp.t1.aP2
 d := by
  have := rp.t1.start
  have h9 : Cal.daysTo 9000 = 3286817 := by decide
  show 1 <= r.start /\ r.start <= _; omega
 aPp := rp.t1.aPp
 count := by have := rp.t1.count; show 0 <= r.count /\ r.count <= _; omega
 u := by
  obtain ⟨h1, h2⟩ := rp.t2
  have h9 : Cal.daysTo 10000 = 3652059 := by decide
  show 0 <= (if r.aP0 = true then r.untl else 0) /\ (if r.aP0 = true then r.untl else 0) <= _
  split
  .rename_i h
   have := (h2 h).2; omega
  .omega
 aPu := by have := (fR rp.t3.h11).2.2; show r.aPu.length <= _; omega
 wday := by have := oC rp; show r.wday.length <= _; omega
 hour := by have := (fR rp.t3.h15).2.2; show r.hour.length <= _; omega
 aPr := by have := (fR rp.t3.h16).2.2; show r.aPr.length <= _; omega
 aPs := by have := (fR rp.t3.h17).2.2; show r.aPs.length <= _; omega
 hours := fun x h => by rcases kT (r := r) rp.t3.h15 oM x h with h | ⟨h, _⟩; exact h; cases h
 minutes := fun x h => by rcases kT (r := r) rp.t3.h16 oM x h with h | ⟨h, _⟩; exact h; cases h
 seconds := fun x h => by rcases kT (r := r) rp.t3.h17 oM x h with h | ⟨h, _⟩; exact h; cases h
theorem tP {r : Rul} (rp : RightP r) : VbOk (aD r) where
 nums := fun i hi y hy => by
  have e : i = 0 \/ i = 1 \/ i = 2 \/ i = 3 \/ i = 4 \/ i = 5 \/ i = 6 \/ i = 7 := by omega
  unfold inB
  rcases e with rfl | rfl | rfl | rfl | rfl | rfl | rfl | rfl
  .exact kT (r := r) rp.t3.h17 oM y hy
  .exact kT (r := r) rp.t3.h16 oM y hy
  .exact kT (r := r) rp.t3.h15 oM y hy
  .exact kT (r := r) rp.t3.h11 oM y hy
  .exact kT (r := r) rp.t3.h12 oM y hy
  .rcases kT (r := r) rp.t3.h13 oM y hy with h | ⟨h1, h⟩
   .left; show 1 <= y /\ y <= 53; omega
   .right; exact ⟨h1, by show -53 <= y /\ y <= -1; omega⟩
  .exact kT (r := r) rp.t3.h10 oM y hy
  .exact kT (r := r) rp.t3.h9 oM y hy
 days := fun y hy => by
  obtain ⟨i, hi, rfl⟩ := List.mem_iff_getElem.1 hy
  have := (rp.t6 i _ (List.getElem?_eq_getElem hi)).2.2.1
  have h5 : nU r <= 53 := by
   unfold nU jD
   split
   .omega
   .split
    .omega
    .split <;> omega
  exact ⟨Int.le_trans oM this.1, Int.le_trans this.2 h5⟩
 aPp := by have := rp.t1.aPp; show 0 <= r.aPp; omega
 lens := fun i hi => by
  have e : i = 0 \/ i = 1 \/ i = 2 \/ i = 3 \/ i = 4 \/ i = 5 \/ i = 6 \/ i = 7 := by omega
  have := (fR rp.t3.h9).2.2
  have := (fR rp.t3.h10).2.2
  have := (fR rp.t3.h11).2.2
  have := (fR rp.t3.h12).2.2
  have := (fR rp.t3.h13).2.2
  have := (fR rp.t3.h15).2.2
  have := (fR rp.t3.h16).2.2
  have := (fR rp.t3.h17).2.2
  rcases e with rfl | rfl | rfl | rfl | rfl | rfl | rfl | rfl
  .show r.aPs.length <= _; omega
  .show r.aPr.length <= _; omega
  .show r.hour.length <= _; omega
  .show r.aPu.length <= _; omega
  .show r.aPw.length <= _; omega
  .show r.aPx.length <= _; omega
  .show r.aPt.length <= _; omega
  .show r.aPz.length <= _; omega
 wlen := by have := oC rp; show r.wday.length <= _; omega
theorem tD {r : Rul} (rp : RightP r) : RulOk r := ⟨by have := rp.t1.aP2; omega, rp.t1.hs, by have := oC rp; omega⟩
theorem aEi {r : Rul} (rp : RightP r) : r.aPy.length <= 281 := by
 have h1 : (eM r.aPy).length = r.aPy.length := by unfold eM; exact List.length_mergeSort _
 have hnd : r.aPy.Nodup := by
  unfold List.Nodup
  rw [List.pairwise_iff_getElem]
  intro i j hi hj hij e
  have := (rp.t4 j _ (List.getElem?_eq_getElem hj)).2.2.2
  rw [List.any_eq_false] at this
  refine this r.aPy[i] ?_ (beq_iff_eq.2 e)
  rw [List.mem_take_iff_getElem]
  exact ⟨i, by omega, rfl⟩
 have h2 := aBn (a := -80) (b := 201) (yI hnd) (fun x hx => by
  obtain ⟨i, hi, rfl⟩ := List.mem_iff_getElem.1 (rH.1 hx)
  have := rp.t4 i _ (List.getElem?_eq_getElem hi)
  have h3 := this.1
  have h4 := this.2.1
  omega) oM
 omega
theorem vC {r : Rul} (rp : RightP r) : (bZ (aD r)).length <= 100 /\ (bN (aD r)).length <= 100 /\ (bP (aD r)).length <= 100 /\ (cT (aD r)).length <= 100 /\ (bI (aD r)).length <= 100 /\ (bM (aD r)).length <= 100 := by
 refine ⟨?_, ?_, ?_, ?_, ?_, ?_⟩
 .unfold bZ; split
  .simp
  .exact (fR rp.t3.h10).2.2
 .unfold bN; split
  .simp
  .exact (fR rp.t3.h11).2.2
 .unfold bP; split
  .simp
  .exact oC rp
 .unfold cT; split
  .split <;> simp
  .exact (fR rp.t3.h15).2.2
 .unfold bI; split
  .split <;> simp
  .exact (fR rp.t3.h16).2.2
 .unfold bM; split
  .split <;> simp
  .exact (fR rp.t3.h17).2.2
theorem qU {r : Rul} (rp : RightP r) (wF : Int -> List Int) (nF : Int -> Int -> List Int) (eF : Int -> List Int) : RuLen (bE (aD r) wF nF eF) := by
 obtain ⟨h1, h2, h3, h4, h5, h6⟩ := vC rp
 have := (fR rp.t3.h9).2.2
 have := (fR rp.t3.h12).2.2
 have := (fR rp.t3.h13).2.2
 have := aEi rp
 exact {
  l46 := by show r.aPz.length <= _; omega
  l47 := by show (bZ (aD r)).length <= _; omega
  l48 := Nat.le_trans (List.length_filter_le _ _) oM
  l49 := Nat.le_trans (List.length_filter_le _ _) oM
  l50 := by show r.aPw.length <= _; omega
  l51 := by show r.aPx.length <= _; omega
  l52 := by show (List.map _ _).length <= _; rw [List.length_map]; exact Nat.le_trans (List.length_filter_le _ _) oM
  l54 := by show (cT (aD r)).length <= _; omega
  l55 := by show (bI (aD r)).length <= _; omega
  l56 := by show (bM (aD r)).length <= _; omega
  l57 := by show r.aPy.length <= _; omega
  l53 := Nat.le_trans (List.length_filter_le _ _) oM }
theorem tL {o : Opn} (hf : 2 <= o.aP2) (wF : Int -> List Int) (nF : Int -> Int -> List Int) (eF : Int -> List Int) : (bE o wF nF eF).nwd.length = 0 := by
 show ((bP o).filter fun x => !bR o.aP2 x).length = 0
 rw [List.filter_eq_nil_iff.2 fun x _ => by unfold bR; rw [decide_eq_true oM]; simp]; rfl
theorem qQ {r : Rul} (rp : RightP r) (hf : 2 <= r.aP2) : RuOk (bE (aD r) wO nO wO) := by
 obtain ⟨hy, hw, he⟩ := jM rp hf
 have hnw : (bE (aD r) wO nO wO).nwd.length = 0 := tL hf wO nO wO
 exact {
  aP2 := rp.t1.aP2
  aPp := rp.t1.aPp
  aPq := rp.t1.aPq
  until0 := fun ⟨h1, h2⟩ => by
   have h1 : until0 (aD r) = 0 := h1
   have h2 : until1 (aD r) = 0 := h2
   unfold until0 at h1
   unfold until1 at h2
   split at h2
   .cases h2
   .rename_i h; rw [if_neg h] at h1; exact h h1
  until1 := by show 0 <= until1 (aD r); unfold until1; split <;> decide
  hour := uN (iL rp)
  aPr := qH (iL rp)
  aPs := qA (iL rp)
  wnoF := fun h => absurd hw h
  nwmF := fun h => absurd hnw h
  easF := fun h => absurd he h
  wnoF0 := fun _ _ => rfl
  nwmF0 := fun _ _ _ => rfl
  easF0 := fun _ _ => rfl
  nwd := fun _ => hnw }
theorem lZ {r : Rul} (rp : RightP r) : ∀ x ∈ bZ (aD r), 1 <= x /\ x <= 12 := by
 unfold bZ
 split
 .intro x hx
  rw [List.mem_singleton] at hx
  have := Cal.month_bd ((aD r).d / 86400)
  omega
 .intro x hx
  rcases kT (r := r) rp.t3.h10 oM x hx with h | ⟨h, _⟩
  .exact h
  .cases h
theorem mI {r : Rul} (rp : RightP r) (hf : 2 <= r.aP2) : MkOk (bE (aD r) wO nO wO) :=
 aG9 (qQ rp hf) (jM rp hf).2.1 (tL hf wO nO wO) (jM rp hf).2.2 (lZ rp)
theorem j9 {r : Rul} (rp : RightP r) : r.aPz.length <= 1000 /\ ∀ q ∈ r.aPz, -1000 <= q /\ q <= 1000 :=
 ⟨by have := (fR rp.t3.h9).2.2; omega, fun q hq => by rcases kT (r := r) rp.t3.h9 oM q hq with h | ⟨_, h⟩ <;> omega⟩
theorem w6 {r : Rul} (rp : RightP r) : (raw (aD r)).length <= 1000000000 := by
 obtain ⟨_, _, _, h4, h5, h6⟩ := vC rp
 have key : ∀ (l : List Int) (f : Int -> List Int) (m : Nat), (∀ x, (f x).length <= m) -> (l.flatMap f).length <= l.length * m := by
  intro l f m hf
  induction l with
  | nil => simp
  | cons x l ih => rw [List.flatMap_cons, List.length_append, List.length_cons, Nat.succ_mul]; have := hf x; omega
 unfold raw
 refine Nat.le_trans (key _ _ 10000 fun h => Nat.le_trans (key _ _ 100 fun m => by rw [List.length_map]; exact h6) oM) oM
theorem aNl {r : Rul} : (it0 (aD r) (bE (aD r) wO nO wO)).wd = r.start / 86400 % 7 := by
 show ((r.start / 86400 + 1) % 7 + 6) % 7 = _; omega
theorem aFw {o : Opn} {q : Ru} : Cal.dayNo (it0 o q).y (it0 o q).mo (it0 o q).d = o.d / 86400 := sG _
theorem aL1 {r : Rul} (hf : r.aP2 = 2 \/ r.aP2 = 3) : R23 r 0 (it0 (aD r) (bE (aD r) wO nO wO)) := by
 refine ⟨rfl, ?_, fun _ => by rw [aFw, aNl]; rfl⟩
 rw [aFw]
 show r.start / 86400 = _
 rcases hf with hf | hf
 .rw [if_pos ⟨hf, rfl⟩]
 .rw [if_neg oM, vB hf]; omega
theorem aIt {r : Rul} (rp : RightP r) (hf : r.aP2 = 2 \/ r.aP2 = 3) : ¬eE (aV r) 0 := fun h => by
 have h := (xM oM _).1 h
 have hs := rp.t1.start
 have h9 : Cal.daysTo 9000 = 3286817 := by decide
 rcases hf with hf | hf
 .rw [aBz hf] at h; omega
 .rw [vB hf] at h; omega
def nB (r : Rul) (dayF : Int -> Bool) : Prop := ∀ (most : Nat), most <= 1000000 -> ∀ l, mP r dayF most l -> ∀ (x : Av) (w : World), InL w r x -> Calls Tryz.prog 30 #[.agg (bG r x).toArray, iV most] w fun e w' => ∃ p c, e = .returned (.tuple #[.slice p l.length c, .bool true]) /\ gC w w' (.slice p l.length c) 2 1 l.length (l.map iV)
theorem yR {r : Rul} (rp : RightP r) (hf : r.aP2 = 3) : nB r (eA (aV r)) := by
 intro most hm l h x w hin
 have hr := qQ rp oM
 obtain ⟨hy, hw, he⟩ := jM rp oM
 have hnw : (bE (aD r) wO nO wO).nwd.length = 0 := tL (by show 2 <= r.aP2; omega) wO nO wO
 have hpres : wJ (bE (aD r) wO nO wO) := r6 hr (.inr (.inr hf))
 obtain ⟨N, hT⟩ := qP rp (aJh rp (.inr hf) fun _ _ => rfl) hpres (aB3 rp (aBj rp oM) (fun h => by omega)) (aL1 (.inr hf)) (aIt rp (.inr hf)) hm h
 have hs := rp.t1.start
 have h9 : Cal.daysTo 9000 = 3286817 := by decide
 have hit := vE (iL rp) (show r.aP2 < 4 by omega) hr (mI rp oM) (qU rp wO nO wO) (show (aD r).d < 315537897600 by show r.start < _; omega)
 exact nC (iL rp) hit (tD rp) (tP rp) (fun F w0 => tO (w6 rp) F w0) hr
  ⟨(j9 rp).1, (j9 rp).2, xW hr hf (mI rp oM)⟩ hpres hm hT w hin
theorem aCu {r : Rul} (rp : RightP r) (hf : r.aP2 = 2 \/ r.aP2 = 3) : nB r (eA (aV r)) := by
 intro most hm l h x w hin
 have hr := qQ rp oM
 obtain ⟨hy, hw, he⟩ := jM rp oM
 have hnw : (bE (aD r) wO nO wO).nwd.length = 0 := tL (by show 2 <= r.aP2; omega) wO nO wO
 have hpres : wJ (bE (aD r) wO nO wO) := r6 hr (.inr hf)
 obtain ⟨N, hT⟩ := qP rp (aJh rp hf fun _ _ => rfl) hpres (aB3 rp (aBj rp oM) (fun h => by omega)) (aL1 hf) (aIt rp hf) hm h
 have hs := rp.t1.start
 have h9 : Cal.daysTo 9000 = 3286817 := by decide
 have hit := vE (iL rp) (show r.aP2 < 4 by omega) hr (mI rp oM) (qU rp wO nO wO) (show (aD r).d < 315537897600 by show r.start < _; omega)
 exact nC (iL rp) hit (tD rp) (tP rp) (fun F w0 => tO (w6 rp) F w0) hr
  ⟨(j9 rp).1, (j9 rp).2, aAc hr (show r.aP2 < 4 by omega) (mI rp oM)⟩ hpres hm hT w hin
open Go.Md Go.Tab Go.Fr
theorem yW {q : Rul} {dayF : Int -> Bool} {en most k : Int} {o o' l D : List Int} (h : ¬eE q k) (hd : eU q dayF k = D) (e : dW q q.start en most o D = (o', true)) (hn : DatesP q dayF en most (k + 1) o' l) : DatesP q dayF en most k o l := by
 subst hd
 exact .more h (by rw [e]) (by rw [e]; exact hn)
theorem aEf {q : Rul} {dayF : Int -> Bool} {en most k : Int} {o o' D : List Int} (h : ¬eE q k) (hd : eU q dayF k = D) (e : dW q q.start en most o D = (o', false)) : DatesP q dayF en most k o o' := by
 subst hd
 have := DatesP.stop (dayF := dayF) h (by rw [e])
 rwa [e] at this
def gE (st c : Int) : Rul := ⟨3, true, st, 1, 0, c, false, 0, [], [], [], [], [], [], [], [], [], []⟩
theorem vU {st c : Int} (hs : 1 <= st /\ st < 86400 * 3000000) (hc : 0 <= c /\ c <= 100) : RightP (gE st c) where
 t1 := ⟨(show (0 : Int) <= 3 /\ (3 : Int) <= 6 by decide), rfl, ⟨hs.1, (show st < Cal.daysTo 9000 * 86400 from by rw [show Cal.daysTo 9000 = 3286817 by decide]; omega)⟩, (show (1 : Int) <= 1 /\ (1 : Int) <= 1000 by decide), (show (0 : Int) <= 0 /\ (0 : Int) <= 6 by decide), ⟨hc.1, by show c <= _; omega⟩⟩
 t2 := ⟨fun _ => rfl, fun h => by cases h⟩
 t3 := ⟨rfl, rfl, rfl, rfl, rfl, rfl, rfl, rfl⟩
 t4 := fun i y h => by simp [gE] at h
 t5 := ⟨fun _ => ⟨rfl, rfl⟩, fun _ => rfl⟩
 t6 := fun i y h => by simp [gE] at h
 t7 := fun h => by cases h
 t8 := fun h => absurd h (by show ¬ (4 : Int) <= 3; decide)
 t9 := .inl rfl
theorem r8 {st c : Int} (hs : 1 <= st /\ st < 86400 * 3000000) (hc : 0 <= c /\ c <= 100) (k : Int) (hk : 0 <= k) : eU (aV (gE st c)) (eA (aV (gE st c))) k = [st + k * 86400] := by
 obtain ⟨e1, e2, e3, e4, e5, e6, _⟩ := cU (gE st c)
 obtain ⟨g1, g2, g3, g4, g5, g6⟩ := rL (gE st c)
 have g4 : (aV (gE st c)).hour = [st % 86400 / 3600] := g4
 have g5 : (aV (gE st c)).aPr = [st % 86400 / 60 % 60] := g5
 have g6 : (aV (gE st c)).aPs = [st % 86400 % 60] := g6
 have hF := vB (r := gE st c) rfl k
 have hF : cH (aV (gE st c)) k = st / 86400 + k := hF.trans (by show st / 86400 + k * 1 = _; omega)
 have hm : fH (aV (gE st c)) k = 1 := by unfold fH; rw [e2]; rfl
 have hday : ∀ d, eA (aV (gE st c)) d = true := fun d => by
  unfold eA
  rw [g1, g2, g3]
  rfl
 unfold eU
 rw [if_neg (by rw [e2]; show ¬ (4 : Int) <= 3; decide), hm, hF]
 show j5 _ _ _ ++ [] = _
 rw [List.append_nil]
 unfold j5
 rw [if_pos ⟨by simp only [Int.natCast_zero]; omega, hday _⟩, g4, g5, g6, z6 (PartOk.one oM) (PartOk.one oM) (PartOk.one oM)]
 have hts : nV [st % 86400 / 3600] [st % 86400 / 60 % 60] [st % 86400 % 60] = [st % 86400] := by
  refine SI.ext (oV (PartOk.one oM) (PartOk.one oM) (PartOk.one oM)) (by simp [SI]) fun t => ?_
  rw [qE (PartOk.one oM) (PartOk.one oM) (PartOk.one oM)]
  simp only [List.mem_singleton]
  omega
 rw [hts]
 simp only [List.map_cons, List.map_nil, List.cons.injEq, and_true, Int.natCast_zero]
 omega
theorem sW {st c : Int} (hs : 1 <= st /\ st < 86400 * 3000000) (k : Int) (hk : 0 <= k /\ k <= 100) : ¬eE (aV (gE st c)) k := fun h => by
 have h := (xM (r := gE st c) (show (2 : Int) <= 3 by decide) k).1 h
 have hF := vB (r := gE st c) rfl k
 have hF : cH (aV (gE st c)) k = st / 86400 + k := hF.trans (by show st / 86400 + k * 1 = _; omega)
 omega
theorem uW {st c most : Int} {o : List Int} {t : Int} (ht : st <= t /\ t <= st + 9223372036) (h1 : (o.length : Int) + 1 <= most) (h2 : c = 0 \/ (o.length : Int) + 1 <= c) (hc : 0 <= c) : dW (aV (gE st c)) (aV (gE st c)).start (fJ (gE st c)) most o [t] = (o ++ [t], decide ((o.length : Int) + 1 < most) && (c == 0 || decide ((o.length : Int) + 1 < c))) := by
 obtain ⟨e1, e2, e3, e4, e5, e6, _⟩ := cU (gE st c)
 unfold dW
 rw [e5, e6, e1]
 have hp : dY [t] (gE st c).aPz = [t] := yZ _ rfl
 have hl : fJ (gE st c) = st + 9223372036 := rfl
 rw [hp, hl]
 have : cM (gE st c).count (gE st c).start (st + 9223372036) most o [t] = (o ++ [t], true) := by
  rw [gO, if_neg (by show ¬ t < st; omega), if_neg]
  .rfl
  .show ¬ (_ \/ (0 < c /\ _ = c) \/ _)
   omega
 rw [this]
 simp only [Bool.true_and]
 unfold jR
 rw [List.length_append, List.length_singleton]
 rfl
theorem ref3 {st c most : Int} (hs : 1 <= st /\ st < 86400 * 3000000) (hc : (c = 0 /\ most = 3) \/ (c = 3 /\ 3 <= most)) : mP (gE st c) (eA (aV (gE st c))) most [st, st + 86400, st + 172800] := by
 have hcb : 0 <= c /\ c <= 100 := by omega
 unfold mP
 refine yW (o' := [st]) (sW hs 0 oM) (r8 hs hcb 0 oM) ?_ (yW (o' := [st, st + 86400]) (sW hs 1 oM) (r8 hs hcb 1 oM) ?_ (aEf (sW hs 2 oM) (r8 hs hcb 2 oM) ?_))
 .rw [uW oM (by simp; omega) (by simp; omega) hcb.1]
  rcases hc with ⟨rfl, rfl⟩ | ⟨rfl, h⟩ <;> simp <;> omega
 .rw [uW oM (by simp; omega) (by simp; omega) hcb.1]
  rcases hc with ⟨rfl, rfl⟩ | ⟨rfl, h⟩ <;> simp <;> omega
 .rw [uW oM (by simp; omega) (by simp; omega) hcb.1]
  rcases hc with ⟨rfl, rfl⟩ | ⟨rfl, h⟩ <;> simp
open Go.RowKit Go.Fr Go.Tab
section
variable {F : Nat -> Prop} {w0 : World} {B : LN} {H : LV} {S : LS}
open Go.Md
def xO : Av := ⟨none, none, none, none, none, none, none, none, none, none, 0, 0, 0, 0, 0, 0, 0, 0, 0, 0, none, none, none, none, none, none, none, none, none, none, none, 0, 0, 0, 0, 0, 0, 0, 0, 0, 0, 0⟩
theorem aDw (st c : Int) (w : World) : InL w (gE st c) xO := ⟨Ints.nil, Ints.nil, Ints.nil, Ints.nil, Ints.nil, ⟨none, 0, rfl, fun i x h => by simp [gE] at h⟩, Ints.nil, Ints.nil, Ints.nil, Ints.nil⟩
theorem InL.day {w : World} {r : Rul} {x : Av} {p : Option Addr} {c : Nat} (h : InL w r x) (hp : Prs w (.slice p r.wday.length c) r.wday) : InL w r { x with p14 := p, c14 := c } := ⟨h.i9, h.i10, h.i11, h.i12, h.i13, hp, h.i15, h.i16, h.i17, h.i18⟩
theorem vL {r : Rul} (hl : LenL r) : LenL (cK r) := ⟨hl.l9, hl.l10, hl.l11, hl.l12, hl.l13, hl.l14, hl.l15, hl.l16, hl.l17, hl.l18⟩
theorem tF (w : World) : CB 17 #[] w (.bool true) := by
 have href : mP (gE 63000000000 3) (eA (aV (gE 63000000000 3))) 9 ([63000000000, 63000086400, 63000172800] : List Int) := ref3 dE (.inr dE)
 refine aF (args := []) (L := []) (N := 14) Tryz.func17 rfl rfl ble rfl (sS w) (g7 ?_)
 refine rl (iI (vs := [(0, .int .u8 3), (1, .bool true), (2, iV 63000000000), (3, iV 1), (5, iV 3)]) (v := .agg (bG (gE 63000000000 3) xO).toArray) rfl kW) (gL (crx (ι := Option Addr × Nat) 10 (fun y => .tuple #[.slice y.1 3 y.2, .bool true]) (fun _ => True) (fun y => ⟨.slice y.1 3 y.2, 2, 1, 3, (([63000000000, 63000086400, 63000172800] : List Int).map iV)⟩) rfl (fun w_ s_ => (yR (vU dE dE) rfl 9 dE ([63000000000, 63000086400, 63000172800] : List Int) href xO w_ (aDw _ _ w_)).mono fun e w' ⟨p, c, h1, h2⟩ => ⟨(p, c), trivial, h1, h2⟩) (fun | (pr, cr), _ => g14 ?_)))
 refine gL (fY 11 (e := 2) (sz := 1) (n := 3) (vs := [(0, iV 63000000000), (1, iV 63000086400), (2, iV 63000172800)]) (cs := [iV 63000000000, iV 63000086400, iV 63000172800]) dE rfl kW rfl dE dE rfl (fun b1_ hbb1_ => g1 ?_))
 refine gL (cvo (v := .bool true) rfl (fun w_ s_ => qK _ _ _ _ ([63000000000, 63000086400, 63000172800] : List Int) dE w_ (s_.ints 10 (xs := ([63000000000, 63000086400, 63000172800] : List Int)) rfl) (s_.ints 11 (xs := ([63000000000, 63000086400, 63000172800] : List Int)) rfl)) (g5 ?_))
 exact gR rfl fun w_ s_ => ⟨rfl, s_.aPg⟩
theorem lW {p : Nat -> Bool} : ∀ {f k K : Nat}, n7 p f k = some K -> k <= K /\ p K = true /\ ∀ j, k <= j -> j < K -> p j = false
 | 0, k, K, h => by cases h
 | f + 1, k, K, h => by
  unfold n7 at h
  cases hp : p k with
  | true =>
   rw [hp, if_pos rfl] at h
   cases h
   exact ⟨Nat.le_refl _, hp, fun j h1 h2 => by omega⟩
  | false =>
   rw [hp, if_neg dE] at h
   obtain ⟨h1, h2, h3⟩ := lW h
   refine ⟨by omega, h2, fun j h4 h5 => ?_⟩
   rcases Nat.eq_or_lt_of_le h4 with e | e
   .subst e; exact hp
   .exact h3 j e h5
theorem rA {r : Ru} {s n : It} {flt : Bool} {K : Nat} {d : Int} (hf : 4 <= r.aP2) (hK : jL r flt s = some K) (hn : bY r.aP2 s ((eK r flt s + K * r.aPp) % dJ r.aP2) = n) (hd : s.d + (eK r flt s + K * r.aPp) / dJ r.aP2 = d) (he : n.d = s.d) : adv r flt s = fix r { n with d := d, ts := fill r n } := by
 unfold adv
 rw [if_neg oM, if_neg oM, if_neg oM, if_neg oM]
 unfold aMu
 simp only [hK, Option.getD_some, hn, <- hd, he]
theorem ok4 {r : Ru} {s : It} {t : Int} (h : r.aP2 = 4) : cX r (bY r.aP2 s t) = aI r.hour t := by
 unfold cX bY
 rw [h]; simp
theorem ok5 {r : Ru} {s : It} {t : Int} (h : r.aP2 = 5) : cX r (bY r.aP2 s t) = (aI r.hour (t / 60) && aI r.aPr (t % 60)) := by
 unfold cX bY
 rw [h]; simp
theorem ok6 {r : Ru} {s : It} {t : Int} (h : r.aP2 = 6) : cX r (bY r.aP2 s t) = ((aI r.hour (t / 3600) && aI r.aPr (t / 60 % 60)) && aI r.aPs (t % 60)) := by
 unfold cX bY
 rw [h]; simp
theorem gB {l : List Int} {x : Int} (h : l.length = 0) : aI l x = true := by unfold aI; rw [h]; rfl
theorem iG {l : List Int} {x : Int} (h : l.any (· == x) = true) : aI l x = true := by unfold aI; rw [h, Bool.or_true]
theorem iZ {l : List Int} {x : Int} (h0 : ¬ l.length = 0) (h : l.any (· == x) = false) : aI l x = false := by unfold aI; rw [h, beq_eq_false_iff_ne.2 h0]; rfl
theorem Sees.again {w : World} (s : Sees F w0 B H S w) {k o b : Nat} {v : Value} (hb : lkp k B = some b) (ho : o < 4096) (h : lkp (ky k o) H = some v) : Sees F w0 B ((ky k o, v) :: H) S w :=
 s.to (fun _ _ h => h) (fun i p u hp h2 => by
  rcases bD h2 with ⟨e, rfl⟩ | ⟨_, h2⟩
  .rw [e]; exact ⟨h, by obtain ⟨rfl, rfl⟩ := iA hp ho e; rw [hb]; rfl⟩
  .exact ⟨h2, by obtain ⟨b, e, _⟩ := s.cells i p u hp h2; rw [e]; rfl⟩) (fun _ _ h => h)
section
variable {P : Program} {N : Nat} {L : Fr.Loc} {ops : Array Oper} {l : List Oper} {K : Act -> Prop}
theorem m9 (n : Nat) (L' : Fr.Loc) (h1 : GM P ops (Kn N L') (l.take n) N L F w0 B H S) (h2 : GM P ops K (l.drop n) N L' F w0 B H S) : GM P ops K l N L F w0 B H S := fun a k =>
 nQ n l a (mD (fun a k => h2 a k) _ a (h1 a k))
theorem uZ {Q : Exit -> Act -> World -> Prop} (L' : Fr.Loc) (h1 : GM P ops (Kn N L') l N L F w0 B H S) (h2 : GE Q .normal N L' F w0 B H S) : GQ P ops Q l N L F w0 B H S :=
 aH6 l.length L' (by rw [List.take_length]; exact h1) (by rw [List.drop_length]; exact aEc h2)
end
theorem wL {m n : Int} (hm : 0 <= m) (hn : 0 < n) : 0 <= m / n * n /\ m / n * n <= m := by
 have h1 := Int.mul_ediv_add_emod m n
 have h2 := Int.emod_nonneg m (show n ≠ 0 by omega)
 have h3 := Int.mul_nonneg (Int.ediv_nonneg hm (Int.le_of_lt hn)) (Int.le_of_lt hn)
 rw [Int.mul_comm] at h1
 omega
theorem aEs {a k i : Int} : a + (k + 1) * i = a + k * i + i := by rw [Int.add_mul]; omega
theorem aEt {Q : Exit -> Act -> World -> Prop} {S0 : LS} {H0 : LV} {r : Ru} {l : Ra} {it rb : Nat} {s : It} {a : Ad} (st : St F w0 S0 H0 it rb r l s a B H S) (hr : RuOk r) (hmk : MkOk r) (hwn : s.wno = r.wnoF s.ly) (hnw : s.nwm = r.nwmF s.ly s.lm) (hea : s.eas = r.easF s.ly) (hy : 1 <= s.y /\ s.y <= 9999) (hmo : 1 <= s.mo /\ s.mo <= 12) (hd : 1 <= s.d /\ s.d <= 31) (hwd : 0 <= s.wd /\ s.wd <= 6) (hly : 1 <= s.ly /\ s.ly <= 9999) (hfin : s.fin = false) (hfr : r.aP2 = 4) {flt : Bool} (hh : 0 <= s.h /\ s.h <= 23) (hmi : 0 <= s.mi /\ s.mi <= 59) (hse : 0 <= s.s /\ s.s <= 59) (htn : s.ts.length <= 1000000000) (hlm : r.aPr.length <= 100) (hls : r.aPs.length <= 100) (hdm : s.d <= Cal.mdays s.mo s.y) (hK : ∃ K, jL r flt s = some K /\ (K : Int) <= dJ r.aP2)
  (hn : ∀ o a' H' S', o = adv r flt s -> o.fin = false -> St F w0 S0 H0 it rb r l o a' B H' S' -> GE Q .normal 1418 [(0, pT it), (2, pT rb)] F w0 B H' S')
  (hq : ∀ o a' H' S', o = adv r flt s -> o.fin = true -> St F w0 S0 H0 it rb r l o a' B H' S' -> GE Q .ret 1418 [] F w0 B H' S') : GC Tryz.prog (Go.Fr.part [1, 1, 0, 0, 1, 0, 1, 1, 1, 1, 1, 1] (Go.Fr.bodyOf Tryz.f112)) Q 1418 [(0, pT it), (2, pT rb), (6, .bool flt)] F w0 B H S := by
 have hiv := hr.aPp
 obtain ⟨K, hK, hKb⟩ := hK
 have hsl : dJ r.aP2 = 24 := by rw [hfr]; rfl
 have hso : cP r.aP2 s = s.h := by rw [hfr]; rfl
 obtain ⟨hK1, hKp, hKn⟩ := lW (show n7 _ _ _ = some K from hK)
 have hjb := wL (m := 23 - (s.h)) (n := r.aPp) oM oM
 refine g12 ?_
 refine wZ9 ((aQ rfl rfl).to (v' := .bool false) (cB (by rw [hfr]; rfl))) ?_
 refine wZ9 ((aQ rfl rfl).to (v' := .bool false) (cB (by rw [hfr]; rfl))) ?_
 refine wZ9 ((aQ rfl rfl).to (v' := .bool false) (cB (by rw [hfr]; rfl))) ?_
 refine wZ9 ((aQ rfl rfl).to (v' := .bool false) (cB (by rw [hfr]; rfl))) ?_
 refine rl ((aQ rfl rfl).to (v' := .bool true) (cB (by rw [hfr]; rfl))) (g2 ?_)
 refine bK rfl rfl ?_
 refine cO (ι := (Int)) (fun j0 => (eK r flt s = s.h + j0 /\ 0 <= j0 /\ j0 <= 23 - (s.h))) (fun j0 => [(0, pT it), (2, pT rb), (6, .bool flt), (42, .bool false)]) (fun j0 => B) (fun j0 => ((ky 0 3, iV (s.h + j0)) :: H)) (fun j0 => S) ?_ ?_
 .refine g5 ?_
  refine aB rfl (fun hc1 => ?_) (fun hc2 => ?_)
  .have hflt : flt = true := hc1
   refine dH 22 kR kR (g20 ?_)
   refine g3 ?_
   refine gL (sto 0 rfl rfl st.hB st.h3 (g1 ?_))
   refine aK (ι := Int) ((23 - (s.h)) / r.aPp * r.aPp) (⟨by unfold eK; rw [hso, hsl, if_pos hflt, show (24 : Int) - 1 - (s.h) = 23 - (s.h) by omega], by omega, by omega⟩) kns (fun w s => by exact s.low 40 (st.lim.aPh dE dE) agx agx agx)
  .have hflt : flt = false := hc2
   refine g1 ?_
   refine aK (ι := Int) (0) (⟨by unfold eK; rw [hso, if_neg (by rw [hflt]; decide)], by omega, by omega⟩) kns (fun w s => by exact by rw [Int.add_zero]; exact Sees.again (k := 0) (o := 3) s st.hB dE st.h3)
 rintro j0 hj0
 refine dS ?_
 refine g2 ?_
 refine aY (ι := (Nat) × (Int) × (Int) × (Bool)) (fun | ⟨k, hh, dd, fx⟩ => K - k) (fun | ⟨k, hh, dd, fx⟩ => (k < K) /\ (hh + (dd - s.d) * 24 = (eK r flt s + (k : Int) * r.aPp)) /\ (0 <= hh /\ hh <= 23) /\ (fx = false -> dd = s.d) /\ (s.d <= dd)) (fun | ⟨k, hh, dd, fx⟩ => [(0, pT it), (2, pT rb), (6, .bool flt), (42, .bool fx)]) (fun _ => B) (fun | ⟨k, hh, dd, fx⟩ => ((ky 0 2, iV dd) :: (ky 0 3, iV hh) :: H)) (fun _ => S) ⟨0, s.h + j0, s.d, false⟩ ⟨by omega, by omega, by omega, fun _ => rfl, Int.le_refl _⟩ kns (fun w s => by exact Sees.low 40 (Sees.again (k := 0) (o := 2) s st.hB dE st.h2) (((st.lim.aPh dE dE).aPh dE dE)) agx agx agx) ?_
 rintro ⟨k, hh, dd, fx⟩ ⟨hk, hT, hru, hfx, hdd⟩
 refine dS ?_
 refine g2 ?_
 have hst1 : (eK r flt s + ((k + 1 : Nat) : Int) * r.aPp) = (eK r flt s + (k : Int) * r.aPp) + r.aPp := by rw [show ((k + 1 : Nat) : Int) = (k : Int) + 1 by omega]; exact aEs
 have hkb : 0 <= (k : Int) * r.aPp /\ (k : Int) * r.aPp <= 24 * 1000 := ⟨Int.mul_nonneg oM oM, Int.le_trans (Int.mul_le_mul_of_nonneg_right (show (k : Int) <= 24 by omega) oM) (Int.mul_le_mul_of_nonneg_left oM dE)⟩
 refine dH 11 kR kR (g12 ?_)
 refine gL (sto 0 rfl rfl st.hB rfl (g8 ?_))
 refine gL (cvo rfl (fun w_ s_ => gG _ _ oM oM w_) (g7 ?_))
 refine cO (ι := (Int) × (Int) × (Bool)) (fun | ⟨hh2, d2, f2⟩ => (hh2 + (d2 - s.d) * 24 = (eK r flt s + ((k + 1 : Nat) : Int) * r.aPp)) /\ ((0 <= hh2 /\ hh2 <= 23)) /\ (f2 = false -> d2 = s.d) /\ (s.d <= d2)) (fun | ⟨hh2, d2, f2⟩ => [(0, pT it), (2, pT rb), (6, .bool flt), (42, .bool f2)]) (fun _ => B) (fun | ⟨hh2, d2, f2⟩ => ((ky 0 2, iV d2) :: (ky 0 3, iV hh2) :: H)) (fun _ => S) ?_ ?_
 .refine g6 ?_
  refine aB rfl (fun hc1 => ?_) (fun hc2 => ?_)
  .have hc_ : (hh + r.aPp) / 24 ≠ 0 := bne_iff_ne.1 hc1
   refine g6 ?_
   refine gL (sto 0 rfl rfl st.hB rfl (g12 ?_))
   refine gL (sto 0 rfl rfl st.hB rfl (g5 ?_))
   refine aK (ι := Int × Int × Bool) ⟨(hh + r.aPp) % 24, dd + (hh + r.aPp) / 24, true⟩ ⟨by rw [hst1]; omega, by omega, (by intro h_; cases h_), by omega⟩ kns (fun w s => by exact s.low 40 (((st.lim.aPh dE dE).aPh dE dE)) agx agx agx)
  .have hc_ : (hh + r.aPp) / 24 = 0 := bne_eq_false_iff_eq.1 hc2
   refine g1 ?_
   refine aK (ι := Int × Int × Bool) ⟨(hh + r.aPp), dd, fx⟩ ⟨by rw [hst1]; omega, by omega, (by exact hfx), by omega⟩ kns (fun w s => by exact s.low 40 (((st.lim.aPh dE dE).aPh dE dE)) agx agx agx)
 rintro ⟨hh2, d2, f2⟩ ⟨hT2, hr2, hf2, hd2⟩
 refine dS ?_
 refine g1 ?_
 have hP : cX r (bY r.aP2 s ((eK r flt s + ((k + 1 : Nat) : Int) * r.aPp) % dJ r.aP2)) = (aI r.hour hh2) := by rw [ok4 hfr, hsl, show (eK r flt s + ((k + 1 : Nat) : Int) * r.aPp) % 24 = hh2 by omega]
 refine g1 ?_
 refine uZ [(0, pT it), (2, pT rb), (6, .bool flt), (42, .bool f2), (956, .bool (aI r.hour hh2))] ?_ ?_
 .refine g5 ?_
  by_cases hz : r.hour.length = 0
  .refine rm ((aQ rfl rfl).to eT) (g10 ?_)
   exact rm ((bB rfl rfl rfl).to (v' := .bool (aI r.hour hh2)) (by exact cB (gB hz).symm)) (bX kns)
  .refine rm ((aQ rfl rfl).to eF) (g18 ?_)
   rcases bO (r.hour.any (· == hh2)) with hy_ | hy_
   .refine cG (v := .bool true) dE kR rfl (fun w_ s_ => (aR r.hour hh2 _ st.hl54 w_ (st.hI54 _ _ _ w_ aG s_)).mT (cE hy_)) ?_
    exact rm ((bB rfl rfl rfl).to (v' := .bool (aI r.hour hh2)) (by exact cB (iG hy_).symm)) (bX kns)
   .refine cG (v := .bool false) dE kR rfl (fun w_ s_ => (aR r.hour hh2 _ st.hl54 w_ (st.hI54 _ _ _ w_ aG s_)).mT (cE hy_)) ?_
    exact rm ((bB rfl rfl rfl).to (v' := .bool (aI r.hour hh2)) (by exact cB (iZ hz hy_).symm)) (bX kns)
 .refine g1 ?_
  refine aB rfl (fun hb => ?_) (fun hb => ?_)
  .have hkK : k + 1 = K := by
    rcases Nat.lt_or_ge (k + 1) K with h_ | h_
    .have h2_ := hKn (k + 1) oM h_
     rw [hP, hb] at h2_; cases h2_
    .omega
   rw [hkK] at hT2
   refine g5 ?_
   refine dH 22 kR kR (g20 ?_)
   refine g3 ?_
   refine gL (d8 (ι := Option Addr × Nat) (fun _ => .tuple #[]) (fun _ => True) (fun _ => B) (fun y => (ky 0 23, .slice y.1 (Md.fill r { s with h := hh2, d := d2 }).length y.2) :: ((ky 0 2, iV d2) :: (ky 0 3, iV hh2) :: H)) (fun y => (2, ⟨.slice y.1 (Md.fill r { s with h := hh2, d := d2 }).length y.2, 80, 2, (Md.fill r { s with h := hh2, d := d2 }).length, bS (Md.fill r { s with h := hh2, d := d2 })⟩) :: S) dE kR rfl (fun w_ s_ => (vN (s := { s with h := hh2, d := d2 }) (a := a) ((sT st) : St F w0 S0 H0 it rb r l { s with h := hh2, d := d2 } a B ((ky 0 2, iV d2) :: (ky 0 3, iV hh2) :: H) S) hr sO sO sO htn hlm hls hfr w_ s_).mono fun e w' ⟨p, c, h1, h2⟩ => ⟨(p, c), trivial, h1, h2⟩) (fun | (pz, cz), _ => g2 ?_))
   have hKm : (K : Int) * r.aPp <= 24 * 1000 := Int.le_trans (Int.mul_le_mul_of_nonneg_right (show (K : Int) <= 24 by omega) oM) (Int.mul_le_mul_of_nonneg_left oM dE)
   have hadv : adv r flt s = fix r { s with h := hh2, d := d2, ts := Md.fill r { s with h := hh2, d := d2 } } := rA oM hK (n := { s with h := hh2 }) (d := d2) (by unfold bY; rw [if_pos hfr, hsl, show (eK r flt s + (K : Int) * r.aPp) % 24 = hh2 by omega]) (by rw [hsl]; omega) rfl
   have st2 : St F w0 S0 H0 it rb r l { s with h := hh2, d := d2, ts := Md.fill r { s with h := hh2, d := d2 } } { a with tp := pz, tc := cz } B ((ky 0 23, .slice pz (Md.fill r { s with h := hh2, d := d2 }).length cz) :: ((ky 0 2, iV d2) :: (ky 0 3, iV hh2) :: H)) ((2, ⟨.slice pz (Md.fill r { s with h := hh2, d := d2 }).length cz, 80, 2, (Md.fill r { s with h := hh2, d := d2 }).length, bS (Md.fill r { s with h := hh2, d := d2 })⟩) :: S) := (sT st)
   refine dO (L' := [(0, pT it), (2, pT rb), (6, .bool flt), (42, .bool f2)]) kns (fun w s => s) ?_
   cases f2
   .have hd0_ : d2 = s.d := hf2 rfl
    have hfix : fix r { s with h := hh2, d := d2, ts := Md.fill r { s with h := hh2, d := d2 } } = { s with h := hh2, d := d2, ts := Md.fill r { s with h := hh2, d := d2 } } := by unfold fix; rw [if_pos (.inr (by show d2 <= Cal.mdays s.mo s.y; omega))]
    refine oD ?_
    refine gK kns (fun w s => s) (hn _ _ _ _ (hadv.trans hfix).symm hfin st2)
   .refine dO (L' := [(0, pT it), (2, pT rb), (42, .bool true)]) kns (fun w s => s) ?_
    refine oH (s := { s with h := hh2, d := d2, ts := Md.fill r { s with h := hh2, d := d2 } }) (a := { a with tp := pz, tc := cz }) (H := ((ky 0 23, .slice pz (Md.fill r { s with h := hh2, d := d2 }).length cz) :: ((ky 0 2, iV d2) :: (ky 0 3, iV hh2) :: H))) (S := ((2, ⟨.slice pz (Md.fill r { s with h := hh2, d := d2 }).length cz, 80, 2, (Md.fill r { s with h := hh2, d := d2 }).length, bS (Md.fill r { s with h := hh2, d := d2 })⟩) :: S)) st2 hr hmk hwn hnw hea sO hmo hy hly hfin (fun o a' H' S' ho => hn o a' H' S' (ho.trans hadv.symm)) (fun o a' H' S' ho => hq o a' H' S' (ho.trans hadv.symm))
  .have hkK : k + 1 < K := by
    rcases Nat.lt_or_ge (k + 1) K with h_ | h_
    .exact h_
    .have e_ : K = k + 1 := by omega
     have h2_ := hKp
     rw [e_, hP, hb] at h2_; cases h2_
   refine g2 ?_
   refine aN ⟨k + 1, hh2, d2, f2⟩ sO ⟨by omega, hT2, by omega, hf2, hd2⟩ kns (fun w s => by exact s)
theorem aA2 {Q : Exit -> Act -> World -> Prop} {S0 : LS} {H0 : LV} {r : Ru} {l : Ra} {it rb : Nat} {s : It} {a : Ad} (st : St F w0 S0 H0 it rb r l s a B H S) (hr : RuOk r) (hmk : MkOk r) (hwn : s.wno = r.wnoF s.ly) (hnw : s.nwm = r.nwmF s.ly s.lm) (hea : s.eas = r.easF s.ly) (hy : 1 <= s.y /\ s.y <= 9999) (hmo : 1 <= s.mo /\ s.mo <= 12) (hd : 1 <= s.d /\ s.d <= 31) (hwd : 0 <= s.wd /\ s.wd <= 6) (hly : 1 <= s.ly /\ s.ly <= 9999) (hfin : s.fin = false) (hfr : r.aP2 = 5) {flt : Bool} (hh : 0 <= s.h /\ s.h <= 23) (hmi : 0 <= s.mi /\ s.mi <= 59) (hse : 0 <= s.s /\ s.s <= 59) (htn : s.ts.length <= 1000000000) (hlm : r.aPr.length <= 100) (hls : r.aPs.length <= 100) (hdm : s.d <= Cal.mdays s.mo s.y) (hK : ∃ K, jL r flt s = some K /\ (K : Int) <= dJ r.aP2)
  (hn : ∀ o a' H' S', o = adv r flt s -> o.fin = false -> St F w0 S0 H0 it rb r l o a' B H' S' -> GE Q .normal 1418 [(0, pT it), (2, pT rb)] F w0 B H' S')
  (hq : ∀ o a' H' S', o = adv r flt s -> o.fin = true -> St F w0 S0 H0 it rb r l o a' B H' S' -> GE Q .ret 1418 [] F w0 B H' S') : GC Tryz.prog (Go.Fr.part [1, 1, 0, 0, 1, 0, 1, 1, 1, 1, 1, 1] (Go.Fr.bodyOf Tryz.f112)) Q 1418 [(0, pT it), (2, pT rb), (6, .bool flt)] F w0 B H S := by
 have hiv := hr.aPp
 obtain ⟨K, hK, hKb⟩ := hK
 have hsl : dJ r.aP2 = 1440 := by rw [hfr]; rfl
 have hso : cP r.aP2 s = s.h * 60 + s.mi := by rw [hfr]; rfl
 obtain ⟨hK1, hKp, hKn⟩ := lW (show n7 _ _ _ = some K from hK)
 have hjb := wL (m := 1439 - (s.h * 60 + s.mi)) (n := r.aPp) oM oM
 refine g12 ?_
 refine wZ9 ((aQ rfl rfl).to (v' := .bool false) (cB (by rw [hfr]; rfl))) ?_
 refine wZ9 ((aQ rfl rfl).to (v' := .bool false) (cB (by rw [hfr]; rfl))) ?_
 refine wZ9 ((aQ rfl rfl).to (v' := .bool false) (cB (by rw [hfr]; rfl))) ?_
 refine wZ9 ((aQ rfl rfl).to (v' := .bool false) (cB (by rw [hfr]; rfl))) ?_
 refine wZ9 ((aQ rfl rfl).to (v' := .bool false) (cB (by rw [hfr]; rfl))) ?_
 refine rl ((aQ rfl rfl).to (v' := .bool true) (cB (by rw [hfr]; rfl))) (g2 ?_)
 refine bK rfl rfl ?_
 refine cO (ι := (Int)) (fun j0 => (eK r flt s = s.h * 60 + s.mi + j0 /\ 0 <= j0 /\ j0 <= 1439 - (s.h * 60 + s.mi))) (fun j0 => [(0, pT it), (2, pT rb), (6, .bool flt), (42, .bool false)]) (fun j0 => B) (fun j0 => ((ky 0 4, iV (s.mi + j0)) :: H)) (fun j0 => S) ?_ ?_
 .refine g5 ?_
  refine aB rfl (fun hc1 => ?_) (fun hc2 => ?_)
  .have hflt : flt = true := hc1
   refine dH 28 kR kR (g25 ?_)
   refine g4 ?_
   refine gL (sto 0 rfl rfl st.hB st.h4 (g1 ?_))
   refine aK (ι := Int) ((1439 - (s.h * 60 + s.mi)) / r.aPp * r.aPp) (⟨by unfold eK; rw [hso, hsl, if_pos hflt, show (1440 : Int) - 1 - (s.h * 60 + s.mi) = 1439 - (s.h * 60 + s.mi) by omega], by omega, by omega⟩) kns (fun w s => by exact s.low 40 (st.lim.aPh dE dE) agx agx agx)
  .have hflt : flt = false := hc2
   refine g1 ?_
   refine aK (ι := Int) (0) (⟨by unfold eK; rw [hso, if_neg (by rw [hflt]; decide)], by omega, by omega⟩) kns (fun w s => by exact by rw [Int.add_zero]; exact Sees.again (k := 0) (o := 4) s st.hB dE st.h4)
 rintro j0 hj0
 refine dS ?_
 refine g2 ?_
 refine aY (ι := (Nat) × (Int) × (Int) × (Int) × (Bool)) (fun | ⟨k, hh, mm, dd, fx⟩ => K - k) (fun | ⟨k, hh, mm, dd, fx⟩ => (k < K) /\ (hh * 60 + mm + (dd - s.d) * 1440 = (eK r flt s + (k : Int) * r.aPp)) /\ ((0 <= hh /\ hh <= 23) /\ 0 <= mm /\ mm <= 1500) /\ (fx = false -> dd = s.d) /\ (s.d <= dd)) (fun | ⟨k, hh, mm, dd, fx⟩ => [(0, pT it), (2, pT rb), (6, .bool flt), (42, .bool fx)]) (fun _ => B) (fun | ⟨k, hh, mm, dd, fx⟩ => ((ky 0 2, iV dd) :: (ky 0 3, iV hh) :: (ky 0 4, iV mm) :: H)) (fun _ => S) ⟨0, s.h, s.mi + j0, s.d, false⟩ ⟨by omega, by omega, by omega, fun _ => rfl, Int.le_refl _⟩ kns (fun w s => by exact Sees.low 40 (Sees.again (k := 0) (o := 2) (Sees.again (k := 0) (o := 3) s st.hB dE st.h3) st.hB dE st.h2) ((((st.lim.aPh dE dE).aPh dE dE).aPh dE dE)) agx agx agx) ?_
 rintro ⟨k, hh, mm, dd, fx⟩ ⟨hk, hT, hru, hfx, hdd⟩
 refine dS ?_
 refine g2 ?_
 have hst1 : (eK r flt s + ((k + 1 : Nat) : Int) * r.aPp) = (eK r flt s + (k : Int) * r.aPp) + r.aPp := by rw [show ((k + 1 : Nat) : Int) = (k : Int) + 1 by omega]; exact aEs
 have hkb : 0 <= (k : Int) * r.aPp /\ (k : Int) * r.aPp <= 1440 * 1000 := ⟨Int.mul_nonneg oM oM, Int.le_trans (Int.mul_le_mul_of_nonneg_right (show (k : Int) <= 1440 by omega) oM) (Int.mul_le_mul_of_nonneg_left oM dE)⟩
 refine dH 11 kR kR (g12 ?_)
 refine gL (sto 0 rfl rfl st.hB rfl (g8 ?_))
 refine gL (cvo rfl (fun w_ s_ => gG _ _ oM oM w_) (g7 ?_))
 refine cO (ι := (Int) × (Int) × (Int) × (Bool)) (fun | ⟨hh2, mm2, d2, f2⟩ => (hh2 * 60 + mm2 + (d2 - s.d) * 1440 = (eK r flt s + ((k + 1 : Nat) : Int) * r.aPp)) /\ ((0 <= hh2 /\ hh2 <= 23) /\ (0 <= mm2 /\ mm2 <= 59)) /\ (f2 = false -> d2 = s.d) /\ (s.d <= d2)) (fun | ⟨hh2, mm2, d2, f2⟩ => [(0, pT it), (2, pT rb), (6, .bool flt), (42, .bool f2)]) (fun _ => B) (fun | ⟨hh2, mm2, d2, f2⟩ => ((ky 0 2, iV d2) :: (ky 0 3, iV hh2) :: (ky 0 4, iV mm2) :: H)) (fun _ => S) ?_ ?_
 .refine g6 ?_
  refine aB rfl (fun hc1 => ?_) (fun hc2 => ?_)
  .have hc_ : (mm + r.aPp) / 60 ≠ 0 := bne_iff_ne.1 hc1
   refine g6 ?_
   refine gL (sto 0 rfl rfl st.hB rfl (g12 ?_))
   refine gL (sto 0 rfl rfl st.hB rfl (g8 ?_))
   refine gL (cvo rfl (fun w_ s_ => gG _ _ oM oM w_) (g13 ?_))
   refine aB rfl (fun hc1 => ?_) (fun hc2 => ?_)
   .have hc2_ : (hh + (mm + r.aPp) / 60) / 24 ≠ 0 := bne_iff_ne.1 hc1
    refine g6 ?_
    refine gL (sto 0 rfl rfl st.hB rfl (g12 ?_))
    refine gL (sto 0 rfl rfl st.hB rfl (g5 ?_))
    refine aK (ι := Int × Int × Int × Bool) ⟨(hh + (mm + r.aPp) / 60) % 24, (mm + r.aPp) % 60, dd + (hh + (mm + r.aPp) / 60) / 24, true⟩ ⟨by rw [hst1]; omega, by omega, (by intro h_; cases h_), by omega⟩ kns (fun w s => by exact s.low 40 ((((st.lim.aPh dE dE).aPh dE dE).aPh dE dE)) agx agx agx)
   .have hc2_ : (hh + (mm + r.aPp) / 60) / 24 = 0 := bne_eq_false_iff_eq.1 hc2
    refine g1 ?_
    refine aK (ι := Int × Int × Int × Bool) ⟨(hh + (mm + r.aPp) / 60), (mm + r.aPp) % 60, dd, fx⟩ ⟨by rw [hst1]; omega, by omega, (by exact hfx), by omega⟩ kns (fun w s => by exact s.low 40 ((((st.lim.aPh dE dE).aPh dE dE).aPh dE dE)) agx agx agx)
  .have hc_ : (mm + r.aPp) / 60 = 0 := bne_eq_false_iff_eq.1 hc2
   refine g1 ?_
   refine aK (ι := Int × Int × Int × Bool) ⟨hh, mm + r.aPp, dd, fx⟩ ⟨by rw [hst1]; omega, by omega, (by exact hfx), by omega⟩ kns (fun w s => by exact s.low 40 ((((st.lim.aPh dE dE).aPh dE dE).aPh dE dE)) agx agx agx)
 rintro ⟨hh2, mm2, d2, f2⟩ ⟨hT2, hr2, hf2, hd2⟩
 refine dS ?_
 refine g1 ?_
 have hP : cX r (bY r.aP2 s ((eK r flt s + ((k + 1 : Nat) : Int) * r.aPp) % dJ r.aP2)) = (aI r.hour hh2 && aI r.aPr mm2) := by rw [ok5 hfr, hsl, show (eK r flt s + ((k + 1 : Nat) : Int) * r.aPp) % 1440 / 60 = hh2 by omega, show (eK r flt s + ((k + 1 : Nat) : Int) * r.aPp) % 1440 % 60 = mm2 by omega]
 refine g1 ?_
 refine uZ [(0, pT it), (2, pT rb), (6, .bool flt), (42, .bool f2), (1104, .bool (aI r.hour hh2 && aI r.aPr mm2))] ?_ ?_
 .refine m9 17 [(0, pT it), (2, pT rb), (6, .bool flt), (42, .bool f2), (1085, .bool (aI r.hour hh2))] ?_ ?_
  .refine g5 ?_
   by_cases hz : r.hour.length = 0
   .refine rm ((aQ rfl rfl).to eT) (g10 ?_)
    exact rm ((bB rfl rfl rfl).to (v' := .bool (aI r.hour hh2)) (by exact cB (gB hz).symm)) (bX kns)
   .refine rm ((aQ rfl rfl).to eF) (g18 ?_)
    rcases bO (r.hour.any (· == hh2)) with hy_ | hy_
    .refine cG (v := .bool true) dE kR rfl (fun w_ s_ => (aR r.hour hh2 _ st.hl54 w_ (st.hI54 _ _ _ w_ aG s_)).mT (cE hy_)) ?_
     exact rm ((bB rfl rfl rfl).to (v' := .bool (aI r.hour hh2)) (by exact cB (iG hy_).symm)) (bX kns)
    .refine cG (v := .bool false) dE kR rfl (fun w_ s_ => (aR r.hour hh2 _ st.hl54 w_ (st.hI54 _ _ _ w_ aG s_)).mT (cE hy_)) ?_
     exact rm ((bB rfl rfl rfl).to (v' := .bool (aI r.hour hh2)) (by exact cB (iZ hz hy_).symm)) (bX kns)
  .rcases bO (aI r.hour hh2) with hB0 | hB0
   .refine rm ((bC rfl).to (v' := .bool true) (cB hB0)) (m9 17 [(0, pT it), (2, pT rb), (6, .bool flt), (42, .bool f2), (1086, .bool true), (1103, .bool (aI r.aPr mm2))] ?_ ?_)
    .refine g11 ?_
     by_cases hz : r.aPr.length = 0
     .refine rm ((aQ rfl rfl).to eT) (g12 ?_)
      exact rm ((bB rfl rfl rfl).to (v' := .bool (aI r.aPr mm2)) (by exact cB (gB hz).symm)) (bX kns)
     .refine rm ((aQ rfl rfl).to eF) (g18 ?_)
      refine g1 ?_
      rcases bO (r.aPr.any (· == mm2)) with hy_ | hy_
      .refine cG (v := .bool true) dE kR rfl (fun w_ s_ => (aR r.aPr mm2 _ st.hl55 w_ (st.hI55 _ _ _ w_ aG s_)).mT (cE hy_)) ?_
       refine g1 ?_
       exact rm ((bB rfl rfl rfl).to (v' := .bool (aI r.aPr mm2)) (by exact cB (iG hy_).symm)) (bX kns)
      .refine cG (v := .bool false) dE kR rfl (fun w_ s_ => (aR r.aPr mm2 _ st.hl55 w_ (st.hI55 _ _ _ w_ aG s_)).mT (cE hy_)) ?_
       refine g1 ?_
       exact rm ((bB rfl rfl rfl).to (v' := .bool (aI r.aPr mm2)) (by exact cB (iZ hz hy_).symm)) (bX kns)
    .exact rm ((bB rfl rfl rfl).to (v' := .bool (aI r.hour hh2 && aI r.aPr mm2)) (by rw [hB0]; rfl)) (bX kns)
   .refine rm ((bC rfl).to (v' := .bool false) (cB hB0)) (g16 ?_)
    refine g1 ?_
    exact rm ((bB rfl rfl rfl).to (v' := .bool (aI r.hour hh2 && aI r.aPr mm2)) (by rw [hB0]; rfl)) (bX kns)
 .refine g1 ?_
  refine aB rfl (fun hb => ?_) (fun hb => ?_)
  .have hkK : k + 1 = K := by
    rcases Nat.lt_or_ge (k + 1) K with h_ | h_
    .have h2_ := hKn (k + 1) oM h_
     rw [hP, hb] at h2_; cases h2_
    .omega
   rw [hkK] at hT2
   refine g5 ?_
   refine dH 22 kR kR (g20 ?_)
   refine g3 ?_
   refine gL (d8 (ι := Option Addr × Nat) (fun _ => .tuple #[]) (fun _ => True) (fun _ => B) (fun y => (ky 0 23, .slice y.1 (Md.fill r { s with h := hh2, mi := mm2, d := d2 }).length y.2) :: ((ky 0 2, iV d2) :: (ky 0 3, iV hh2) :: (ky 0 4, iV mm2) :: H)) (fun y => (2, ⟨.slice y.1 (Md.fill r { s with h := hh2, mi := mm2, d := d2 }).length y.2, 80, 2, (Md.fill r { s with h := hh2, mi := mm2, d := d2 }).length, bS (Md.fill r { s with h := hh2, mi := mm2, d := d2 })⟩) :: S) dE kR rfl (fun w_ s_ => (vP (s := { s with h := hh2, mi := mm2, d := d2 }) (a := a) ((sT st) : St F w0 S0 H0 it rb r l { s with h := hh2, mi := mm2, d := d2 } a B ((ky 0 2, iV d2) :: (ky 0 3, iV hh2) :: (ky 0 4, iV mm2) :: H) S) hr sO sO sO htn hlm hls hfr w_ s_).mono fun e w' ⟨p, c, h1, h2⟩ => ⟨(p, c), trivial, h1, h2⟩) (fun | (pz, cz), _ => g2 ?_))
   have hKm : (K : Int) * r.aPp <= 1440 * 1000 := Int.le_trans (Int.mul_le_mul_of_nonneg_right (show (K : Int) <= 1440 by omega) oM) (Int.mul_le_mul_of_nonneg_left oM dE)
   have hadv : adv r flt s = fix r { s with h := hh2, mi := mm2, d := d2, ts := Md.fill r { s with h := hh2, mi := mm2, d := d2 } } := rA oM hK (n := { s with h := hh2, mi := mm2 }) (d := d2) (by unfold bY; rw [if_neg oM, if_pos hfr, hsl, show (eK r flt s + (K : Int) * r.aPp) % 1440 / 60 = hh2 by omega, show (eK r flt s + (K : Int) * r.aPp) % 1440 % 60 = mm2 by omega]) (by rw [hsl]; omega) rfl
   have st2 : St F w0 S0 H0 it rb r l { s with h := hh2, mi := mm2, d := d2, ts := Md.fill r { s with h := hh2, mi := mm2, d := d2 } } { a with tp := pz, tc := cz } B ((ky 0 23, .slice pz (Md.fill r { s with h := hh2, mi := mm2, d := d2 }).length cz) :: ((ky 0 2, iV d2) :: (ky 0 3, iV hh2) :: (ky 0 4, iV mm2) :: H)) ((2, ⟨.slice pz (Md.fill r { s with h := hh2, mi := mm2, d := d2 }).length cz, 80, 2, (Md.fill r { s with h := hh2, mi := mm2, d := d2 }).length, bS (Md.fill r { s with h := hh2, mi := mm2, d := d2 })⟩) :: S) := (sT st)
   refine dO (L' := [(0, pT it), (2, pT rb), (6, .bool flt), (42, .bool f2)]) kns (fun w s => s) ?_
   cases f2
   .have hd0_ : d2 = s.d := hf2 rfl
    have hfix : fix r { s with h := hh2, mi := mm2, d := d2, ts := Md.fill r { s with h := hh2, mi := mm2, d := d2 } } = { s with h := hh2, mi := mm2, d := d2, ts := Md.fill r { s with h := hh2, mi := mm2, d := d2 } } := by unfold fix; rw [if_pos (.inr (by show d2 <= Cal.mdays s.mo s.y; omega))]
    refine oD ?_
    refine gK kns (fun w s => s) (hn _ _ _ _ (hadv.trans hfix).symm hfin st2)
   .refine dO (L' := [(0, pT it), (2, pT rb), (42, .bool true)]) kns (fun w s => s) ?_
    refine oH (s := { s with h := hh2, mi := mm2, d := d2, ts := Md.fill r { s with h := hh2, mi := mm2, d := d2 } }) (a := { a with tp := pz, tc := cz }) (H := ((ky 0 23, .slice pz (Md.fill r { s with h := hh2, mi := mm2, d := d2 }).length cz) :: ((ky 0 2, iV d2) :: (ky 0 3, iV hh2) :: (ky 0 4, iV mm2) :: H))) (S := ((2, ⟨.slice pz (Md.fill r { s with h := hh2, mi := mm2, d := d2 }).length cz, 80, 2, (Md.fill r { s with h := hh2, mi := mm2, d := d2 }).length, bS (Md.fill r { s with h := hh2, mi := mm2, d := d2 })⟩) :: S)) st2 hr hmk hwn hnw hea sO hmo hy hly hfin (fun o a' H' S' ho => hn o a' H' S' (ho.trans hadv.symm)) (fun o a' H' S' ho => hq o a' H' S' (ho.trans hadv.symm))
  .have hkK : k + 1 < K := by
    rcases Nat.lt_or_ge (k + 1) K with h_ | h_
    .exact h_
    .have e_ : K = k + 1 := by omega
     have h2_ := hKp
     rw [e_, hP, hb] at h2_; cases h2_
   refine g2 ?_
   refine aN ⟨k + 1, hh2, mm2, d2, f2⟩ sO ⟨by omega, hT2, by omega, hf2, hd2⟩ kns (fun w s => by exact s)
theorem aA9 {Q : Exit -> Act -> World -> Prop} {S0 : LS} {H0 : LV} {r : Ru} {l : Ra} {it rb : Nat} {s : It} {a : Ad} (st : St F w0 S0 H0 it rb r l s a B H S) (hr : RuOk r) (hmk : MkOk r) (hwn : s.wno = r.wnoF s.ly) (hnw : s.nwm = r.nwmF s.ly s.lm) (hea : s.eas = r.easF s.ly) (hy : 1 <= s.y /\ s.y <= 9999) (hmo : 1 <= s.mo /\ s.mo <= 12) (hd : 1 <= s.d /\ s.d <= 31) (hwd : 0 <= s.wd /\ s.wd <= 6) (hly : 1 <= s.ly /\ s.ly <= 9999) (hfin : s.fin = false) (hfr : r.aP2 = 6) {flt : Bool} (hh : 0 <= s.h /\ s.h <= 23) (hmi : 0 <= s.mi /\ s.mi <= 59) (hse : 0 <= s.s /\ s.s <= 59) (htn : s.ts.length <= 1000000000) (hlm : r.aPr.length <= 100) (hls : r.aPs.length <= 100) (hdm : s.d <= Cal.mdays s.mo s.y) (hK : ∃ K, jL r flt s = some K /\ (K : Int) <= dJ r.aP2)
  (hn : ∀ o a' H' S', o = adv r flt s -> o.fin = false -> St F w0 S0 H0 it rb r l o a' B H' S' -> GE Q .normal 1418 [(0, pT it), (2, pT rb)] F w0 B H' S')
  (hq : ∀ o a' H' S', o = adv r flt s -> o.fin = true -> St F w0 S0 H0 it rb r l o a' B H' S' -> GE Q .ret 1418 [] F w0 B H' S') : GC Tryz.prog (Go.Fr.part [1, 1, 0, 0, 1, 0, 1, 1, 1, 1, 1, 1] (Go.Fr.bodyOf Tryz.f112)) Q 1418 [(0, pT it), (2, pT rb), (6, .bool flt)] F w0 B H S := by
 have hiv := hr.aPp
 obtain ⟨K, hK, hKb⟩ := hK
 have hsl : dJ r.aP2 = 86400 := by rw [hfr]; rfl
 have hso : cP r.aP2 s = s.h * 3600 + s.mi * 60 + s.s := by rw [hfr]; rfl
 obtain ⟨hK1, hKp, hKn⟩ := lW (show n7 _ _ _ = some K from hK)
 have hjb := wL (m := 86399 - (s.h * 3600 + s.mi * 60 + s.s)) (n := r.aPp) oM oM
 refine g12 ?_
 refine wZ9 ((aQ rfl rfl).to (v' := .bool false) (cB (by rw [hfr]; rfl))) ?_
 refine wZ9 ((aQ rfl rfl).to (v' := .bool false) (cB (by rw [hfr]; rfl))) ?_
 refine wZ9 ((aQ rfl rfl).to (v' := .bool false) (cB (by rw [hfr]; rfl))) ?_
 refine wZ9 ((aQ rfl rfl).to (v' := .bool false) (cB (by rw [hfr]; rfl))) ?_
 refine wZ9 ((aQ rfl rfl).to (v' := .bool false) (cB (by rw [hfr]; rfl))) ?_
 refine wZ9 ((aQ rfl rfl).to (v' := .bool false) (cB (by rw [hfr]; rfl))) ?_
 refine rl ((aQ rfl rfl).to (v' := .bool true) (cB (by rw [hfr]; rfl))) (g2 ?_)
 refine bK rfl rfl ?_
 refine cO (ι := (Int)) (fun j0 => (eK r flt s = s.h * 3600 + s.mi * 60 + s.s + j0 /\ 0 <= j0 /\ j0 <= 86399 - (s.h * 3600 + s.mi * 60 + s.s))) (fun j0 => [(0, pT it), (2, pT rb), (6, .bool flt), (42, .bool false)]) (fun j0 => B) (fun j0 => ((ky 0 5, iV (s.s + j0)) :: H)) (fun j0 => S) ?_ ?_
 .refine g5 ?_
  refine aB rfl (fun hc1 => ?_) (fun hc2 => ?_)
  .have hflt : flt = true := hc1
   refine dH 34 kR kR (g30 ?_)
   refine g5 ?_
   refine gL (sto 0 rfl rfl st.hB st.h5 (g1 ?_))
   refine aK (ι := Int) ((86399 - (s.h * 3600 + s.mi * 60 + s.s)) / r.aPp * r.aPp) (⟨by unfold eK; rw [hso, hsl, if_pos hflt, show (86400 : Int) - 1 - (s.h * 3600 + s.mi * 60 + s.s) = 86399 - (s.h * 3600 + s.mi * 60 + s.s) by omega], by omega, by omega⟩) kns (fun w s => by exact s.low 40 (st.lim.aPh dE dE) agx agx agx)
  .have hflt : flt = false := hc2
   refine g1 ?_
   refine aK (ι := Int) (0) (⟨by unfold eK; rw [hso, if_neg (by rw [hflt]; decide)], by omega, by omega⟩) kns (fun w s => by exact by rw [Int.add_zero]; exact Sees.again (k := 0) (o := 5) s st.hB dE st.h5)
 rintro j0 hj0
 refine dS ?_
 refine g2 ?_
 refine aY (ι := (Nat) × (Int) × (Int) × (Int) × (Int) × (Bool)) (fun | ⟨k, hh, mm, ss, dd, fx⟩ => K - k) (fun | ⟨k, hh, mm, ss, dd, fx⟩ => (k < K) /\ (hh * 3600 + mm * 60 + ss + (dd - s.d) * 86400 = (eK r flt s + (k : Int) * r.aPp)) /\ ((0 <= hh /\ hh <= 23) /\ (0 <= mm /\ mm <= 59) /\ 0 <= ss /\ ss <= 90000) /\ (fx = false -> dd = s.d) /\ (s.d <= dd)) (fun | ⟨k, hh, mm, ss, dd, fx⟩ => [(0, pT it), (2, pT rb), (6, .bool flt), (42, .bool fx)]) (fun _ => B) (fun | ⟨k, hh, mm, ss, dd, fx⟩ => ((ky 0 2, iV dd) :: (ky 0 3, iV hh) :: (ky 0 4, iV mm) :: (ky 0 5, iV ss) :: H)) (fun _ => S) ⟨0, s.h, s.mi, s.s + j0, s.d, false⟩ ⟨by omega, by omega, by omega, fun _ => rfl, Int.le_refl _⟩ kns (fun w s => by exact Sees.low 40 (Sees.again (k := 0) (o := 2) (Sees.again (k := 0) (o := 3) (Sees.again (k := 0) (o := 4) s st.hB dE st.h4) st.hB dE st.h3) st.hB dE st.h2) (((((st.lim.aPh dE dE).aPh dE dE).aPh dE dE).aPh dE dE)) agx agx agx) ?_
 rintro ⟨k, hh, mm, ss, dd, fx⟩ ⟨hk, hT, hru, hfx, hdd⟩
 refine dS ?_
 refine g2 ?_
 have hst1 : (eK r flt s + ((k + 1 : Nat) : Int) * r.aPp) = (eK r flt s + (k : Int) * r.aPp) + r.aPp := by rw [show ((k + 1 : Nat) : Int) = (k : Int) + 1 by omega]; exact aEs
 have hkb : 0 <= (k : Int) * r.aPp /\ (k : Int) * r.aPp <= 86400 * 1000 := ⟨Int.mul_nonneg oM oM, Int.le_trans (Int.mul_le_mul_of_nonneg_right (show (k : Int) <= 86400 by omega) oM) (Int.mul_le_mul_of_nonneg_left oM dE)⟩
 refine dH 11 kR kR (g12 ?_)
 refine gL (sto 0 rfl rfl st.hB rfl (g8 ?_))
 refine gL (cvo rfl (fun w_ s_ => gG _ _ oM oM w_) (g7 ?_))
 refine cO (ι := (Int) × (Int) × (Int) × (Int) × (Bool)) (fun | ⟨hh2, mm2, ss2, d2, f2⟩ => (hh2 * 3600 + mm2 * 60 + ss2 + (d2 - s.d) * 86400 = (eK r flt s + ((k + 1 : Nat) : Int) * r.aPp)) /\ ((0 <= hh2 /\ hh2 <= 23) /\ (0 <= mm2 /\ mm2 <= 59) /\ (0 <= ss2 /\ ss2 <= 59)) /\ (f2 = false -> d2 = s.d) /\ (s.d <= d2)) (fun | ⟨hh2, mm2, ss2, d2, f2⟩ => [(0, pT it), (2, pT rb), (6, .bool flt), (42, .bool f2)]) (fun _ => B) (fun | ⟨hh2, mm2, ss2, d2, f2⟩ => ((ky 0 2, iV d2) :: (ky 0 3, iV hh2) :: (ky 0 4, iV mm2) :: (ky 0 5, iV ss2) :: H)) (fun _ => S) ?_ ?_
 .refine g6 ?_
  refine aB rfl (fun hc1 => ?_) (fun hc2 => ?_)
  .have hc_ : (ss + r.aPp) / 60 ≠ 0 := bne_iff_ne.1 hc1
   refine g6 ?_
   refine gL (sto 0 rfl rfl st.hB rfl (g12 ?_))
   refine gL (sto 0 rfl rfl st.hB rfl (g8 ?_))
   refine gL (cvo rfl (fun w_ s_ => gG _ _ oM oM w_) (g13 ?_))
   refine aB rfl (fun hc1 => ?_) (fun hc2 => ?_)
   .have hc2_ : (mm + (ss + r.aPp) / 60) / 60 ≠ 0 := bne_iff_ne.1 hc1
    refine g6 ?_
    refine gL (sto 0 rfl rfl st.hB rfl (g12 ?_))
    refine gL (sto 0 rfl rfl st.hB rfl (g8 ?_))
    refine gL (cvo rfl (fun w_ s_ => gG _ _ oM oM w_) (g13 ?_))
    refine aB rfl (fun hc1 => ?_) (fun hc2 => ?_)
    .have hc3_ : (hh + (mm + (ss + r.aPp) / 60) / 60) / 24 ≠ 0 := bne_iff_ne.1 hc1
     refine g6 ?_
     refine gL (sto 0 rfl rfl st.hB rfl (g12 ?_))
     refine gL (sto 0 rfl rfl st.hB rfl (g5 ?_))
     refine aK (ι := Int × Int × Int × Int × Bool) ⟨(hh + (mm + (ss + r.aPp) / 60) / 60) % 24, (mm + (ss + r.aPp) / 60) % 60, (ss + r.aPp) % 60, dd + (hh + (mm + (ss + r.aPp) / 60) / 60) / 24, true⟩ ⟨by rw [hst1]; omega, by omega, (by intro h_; cases h_), by omega⟩ kns (fun w s => by exact s.low 40 (((((st.lim.aPh dE dE).aPh dE dE).aPh dE dE).aPh dE dE)) agx agx agx)
    .have hc3_ : (hh + (mm + (ss + r.aPp) / 60) / 60) / 24 = 0 := bne_eq_false_iff_eq.1 hc2
     refine g1 ?_
     refine aK (ι := Int × Int × Int × Int × Bool) ⟨(hh + (mm + (ss + r.aPp) / 60) / 60), (mm + (ss + r.aPp) / 60) % 60, (ss + r.aPp) % 60, dd, fx⟩ ⟨by rw [hst1]; omega, by omega, (by exact hfx), by omega⟩ kns (fun w s => by exact s.low 40 (((((st.lim.aPh dE dE).aPh dE dE).aPh dE dE).aPh dE dE)) agx agx agx)
   .have hc2_ : (mm + (ss + r.aPp) / 60) / 60 = 0 := bne_eq_false_iff_eq.1 hc2
    refine g1 ?_
    refine aK (ι := Int × Int × Int × Int × Bool) ⟨hh, (mm + (ss + r.aPp) / 60), (ss + r.aPp) % 60, dd, fx⟩ ⟨by rw [hst1]; omega, by omega, (by exact hfx), by omega⟩ kns (fun w s => by exact s.low 40 (((((st.lim.aPh dE dE).aPh dE dE).aPh dE dE).aPh dE dE)) agx agx agx)
  .have hc_ : (ss + r.aPp) / 60 = 0 := bne_eq_false_iff_eq.1 hc2
   refine g1 ?_
   refine aK (ι := Int × Int × Int × Int × Bool) ⟨hh, mm, ss + r.aPp, dd, fx⟩ ⟨by rw [hst1]; omega, by omega, (by exact hfx), by omega⟩ kns (fun w s => by exact s.low 40 (((((st.lim.aPh dE dE).aPh dE dE).aPh dE dE).aPh dE dE)) agx agx agx)
 rintro ⟨hh2, mm2, ss2, d2, f2⟩ ⟨hT2, hr2, hf2, hd2⟩
 refine dS ?_
 refine g1 ?_
 have hP : cX r (bY r.aP2 s ((eK r flt s + ((k + 1 : Nat) : Int) * r.aPp) % dJ r.aP2)) = ((aI r.hour hh2 && aI r.aPr mm2) && aI r.aPs ss2) := by rw [ok6 hfr, hsl, show (eK r flt s + ((k + 1 : Nat) : Int) * r.aPp) % 86400 / 3600 = hh2 by omega, show (eK r flt s + ((k + 1 : Nat) : Int) * r.aPp) % 86400 / 60 % 60 = mm2 by omega, show (eK r flt s + ((k + 1 : Nat) : Int) * r.aPp) % 86400 % 60 = ss2 by omega]
 refine g1 ?_
 refine uZ [(0, pT it), (2, pT rb), (6, .bool flt), (42, .bool f2), (1299, .bool ((aI r.hour hh2 && aI r.aPr mm2) && aI r.aPs ss2))] ?_ ?_
 .refine m9 17 [(0, pT it), (2, pT rb), (6, .bool flt), (42, .bool f2), (1261, .bool (aI r.hour hh2))] ?_ ?_
  .refine g5 ?_
   by_cases hz : r.hour.length = 0
   .refine rm ((aQ rfl rfl).to eT) (g10 ?_)
    exact rm ((bB rfl rfl rfl).to (v' := .bool (aI r.hour hh2)) (by exact cB (gB hz).symm)) (bX kns)
   .refine rm ((aQ rfl rfl).to eF) (g18 ?_)
    rcases bO (r.hour.any (· == hh2)) with hy_ | hy_
    .refine cG (v := .bool true) dE kR rfl (fun w_ s_ => (aR r.hour hh2 _ st.hl54 w_ (st.hI54 _ _ _ w_ aG s_)).mT (cE hy_)) ?_
     exact rm ((bB rfl rfl rfl).to (v' := .bool (aI r.hour hh2)) (by exact cB (iG hy_).symm)) (bX kns)
    .refine cG (v := .bool false) dE kR rfl (fun w_ s_ => (aR r.hour hh2 _ st.hl54 w_ (st.hI54 _ _ _ w_ aG s_)).mT (cE hy_)) ?_
     exact rm ((bB rfl rfl rfl).to (v' := .bool (aI r.hour hh2)) (by exact cB (iZ hz hy_).symm)) (bX kns)
  .rcases bO (aI r.hour hh2) with hB0 | hB0
   .refine rm ((bC rfl).to (v' := .bool true) (cB hB0)) (m9 17 [(0, pT it), (2, pT rb), (6, .bool flt), (42, .bool f2), (1262, .bool true), (1279, .bool (aI r.aPr mm2))] ?_ ?_)
    .refine g11 ?_
     by_cases hz : r.aPr.length = 0
     .refine rm ((aQ rfl rfl).to eT) (g12 ?_)
      exact rm ((bB rfl rfl rfl).to (v' := .bool (aI r.aPr mm2)) (by exact cB (gB hz).symm)) (bX kns)
     .refine rm ((aQ rfl rfl).to eF) (g18 ?_)
      refine g1 ?_
      rcases bO (r.aPr.any (· == mm2)) with hy_ | hy_
      .refine cG (v := .bool true) dE kR rfl (fun w_ s_ => (aR r.aPr mm2 _ st.hl55 w_ (st.hI55 _ _ _ w_ aG s_)).mT (cE hy_)) ?_
       refine g1 ?_
       exact rm ((bB rfl rfl rfl).to (v' := .bool (aI r.aPr mm2)) (by exact cB (iG hy_).symm)) (bX kns)
      .refine cG (v := .bool false) dE kR rfl (fun w_ s_ => (aR r.aPr mm2 _ st.hl55 w_ (st.hI55 _ _ _ w_ aG s_)).mT (cE hy_)) ?_
       refine g1 ?_
       exact rm ((bB rfl rfl rfl).to (v' := .bool (aI r.aPr mm2)) (by exact cB (iZ hz hy_).symm)) (bX kns)
    .refine rm ((bB rfl rfl rfl).to (v' := .bool (aI r.hour hh2 && aI r.aPr mm2)) (by rw [hB0]; rfl)) ?_
     rcases bO (aI r.hour hh2 && aI r.aPr mm2) with hB1 | hB1
     .refine rm ((bC rfl).to (v' := .bool true) (cB hB1)) (m9 17 [(0, pT it), (2, pT rb), (6, .bool flt), (42, .bool f2), (1281, .bool true), (1298, .bool (aI r.aPs ss2))] ?_ ?_)
      .refine g11 ?_
       by_cases hz : r.aPs.length = 0
       .refine rm ((aQ rfl rfl).to eT) (g12 ?_)
        exact rm ((bB rfl rfl rfl).to (v' := .bool (aI r.aPs ss2)) (by exact cB (gB hz).symm)) (bX kns)
       .refine rm ((aQ rfl rfl).to eF) (g18 ?_)
        refine g1 ?_
        rcases bO (r.aPs.any (· == ss2)) with hy_ | hy_
        .refine cG (v := .bool true) dE kR rfl (fun w_ s_ => (aR r.aPs ss2 _ st.hl56 w_ (st.hI56 _ _ _ w_ aG s_)).mT (cE hy_)) ?_
         refine g1 ?_
         exact rm ((bB rfl rfl rfl).to (v' := .bool (aI r.aPs ss2)) (by exact cB (iG hy_).symm)) (bX kns)
        .refine cG (v := .bool false) dE kR rfl (fun w_ s_ => (aR r.aPs ss2 _ st.hl56 w_ (st.hI56 _ _ _ w_ aG s_)).mT (cE hy_)) ?_
         refine g1 ?_
         exact rm ((bB rfl rfl rfl).to (v' := .bool (aI r.aPs ss2)) (by exact cB (iZ hz hy_).symm)) (bX kns)
      .exact rm ((bB rfl rfl rfl).to (v' := .bool ((aI r.hour hh2 && aI r.aPr mm2) && aI r.aPs ss2)) (by rw [hB1]; rfl)) (bX kns)
     .refine rm ((bC rfl).to (v' := .bool false) (cB hB1)) (g16 ?_)
      refine g1 ?_
      exact rm ((bB rfl rfl rfl).to (v' := .bool ((aI r.hour hh2 && aI r.aPr mm2) && aI r.aPs ss2)) (by rw [hB1]; rfl)) (bX kns)
   .refine rm ((bC rfl).to (v' := .bool false) (cB hB0)) (g30 ?_)
    refine g6 ?_
    exact rm ((bB rfl rfl rfl).to (v' := .bool ((aI r.hour hh2 && aI r.aPr mm2) && aI r.aPs ss2)) (by rw [hB0]; rfl)) (bX kns)
 .refine g1 ?_
  refine aB rfl (fun hb => ?_) (fun hb => ?_)
  .have hkK : k + 1 = K := by
    rcases Nat.lt_or_ge (k + 1) K with h_ | h_
    .have h2_ := hKn (k + 1) oM h_
     rw [hP, hb] at h2_; cases h2_
    .omega
   rw [hkK] at hT2
   refine g5 ?_
   refine dH 22 kR kR (g20 ?_)
   refine g3 ?_
   refine gL (d8 (ι := Option Addr × Nat) (fun _ => .tuple #[]) (fun _ => True) (fun _ => B) (fun y => (ky 0 23, .slice y.1 (Md.fill r { s with h := hh2, mi := mm2, s := ss2, d := d2 }).length y.2) :: ((ky 0 2, iV d2) :: (ky 0 3, iV hh2) :: (ky 0 4, iV mm2) :: (ky 0 5, iV ss2) :: H)) (fun y => (2, ⟨.slice y.1 (Md.fill r { s with h := hh2, mi := mm2, s := ss2, d := d2 }).length y.2, 80, 2, (Md.fill r { s with h := hh2, mi := mm2, s := ss2, d := d2 }).length, bS (Md.fill r { s with h := hh2, mi := mm2, s := ss2, d := d2 })⟩) :: S) dE kR rfl (fun w_ s_ => (vG (s := { s with h := hh2, mi := mm2, s := ss2, d := d2 }) (a := a) ((sT st) : St F w0 S0 H0 it rb r l { s with h := hh2, mi := mm2, s := ss2, d := d2 } a B ((ky 0 2, iV d2) :: (ky 0 3, iV hh2) :: (ky 0 4, iV mm2) :: (ky 0 5, iV ss2) :: H) S) hr sO sO sO htn hlm hls hfr w_ s_).mono fun e w' ⟨p, c, h1, h2⟩ => ⟨(p, c), trivial, h1, h2⟩) (fun | (pz, cz), _ => g2 ?_))
   have hKm : (K : Int) * r.aPp <= 86400 * 1000 := Int.le_trans (Int.mul_le_mul_of_nonneg_right (show (K : Int) <= 86400 by omega) oM) (Int.mul_le_mul_of_nonneg_left oM dE)
   have hadv : adv r flt s = fix r { s with h := hh2, mi := mm2, s := ss2, d := d2, ts := Md.fill r { s with h := hh2, mi := mm2, s := ss2, d := d2 } } := rA oM hK (n := { s with h := hh2, mi := mm2, s := ss2 }) (d := d2) (by unfold bY; rw [if_neg oM, if_neg oM, hsl, show (eK r flt s + (K : Int) * r.aPp) % 86400 / 3600 = hh2 by omega, show (eK r flt s + (K : Int) * r.aPp) % 86400 / 60 % 60 = mm2 by omega, show (eK r flt s + (K : Int) * r.aPp) % 86400 % 60 = ss2 by omega]) (by rw [hsl]; omega) rfl
   have st2 : St F w0 S0 H0 it rb r l { s with h := hh2, mi := mm2, s := ss2, d := d2, ts := Md.fill r { s with h := hh2, mi := mm2, s := ss2, d := d2 } } { a with tp := pz, tc := cz } B ((ky 0 23, .slice pz (Md.fill r { s with h := hh2, mi := mm2, s := ss2, d := d2 }).length cz) :: ((ky 0 2, iV d2) :: (ky 0 3, iV hh2) :: (ky 0 4, iV mm2) :: (ky 0 5, iV ss2) :: H)) ((2, ⟨.slice pz (Md.fill r { s with h := hh2, mi := mm2, s := ss2, d := d2 }).length cz, 80, 2, (Md.fill r { s with h := hh2, mi := mm2, s := ss2, d := d2 }).length, bS (Md.fill r { s with h := hh2, mi := mm2, s := ss2, d := d2 })⟩) :: S) := (sT st)
   refine dO (L' := [(0, pT it), (2, pT rb), (6, .bool flt), (42, .bool f2)]) kns (fun w s => s) ?_
   cases f2
   .have hd0_ : d2 = s.d := hf2 rfl
    have hfix : fix r { s with h := hh2, mi := mm2, s := ss2, d := d2, ts := Md.fill r { s with h := hh2, mi := mm2, s := ss2, d := d2 } } = { s with h := hh2, mi := mm2, s := ss2, d := d2, ts := Md.fill r { s with h := hh2, mi := mm2, s := ss2, d := d2 } } := by unfold fix; rw [if_pos (.inr (by show d2 <= Cal.mdays s.mo s.y; omega))]
    refine oD ?_
    refine gK kns (fun w s => s) (hn _ _ _ _ (hadv.trans hfix).symm hfin st2)
   .refine dO (L' := [(0, pT it), (2, pT rb), (42, .bool true)]) kns (fun w s => s) ?_
    refine oH (s := { s with h := hh2, mi := mm2, s := ss2, d := d2, ts := Md.fill r { s with h := hh2, mi := mm2, s := ss2, d := d2 } }) (a := { a with tp := pz, tc := cz }) (H := ((ky 0 23, .slice pz (Md.fill r { s with h := hh2, mi := mm2, s := ss2, d := d2 }).length cz) :: ((ky 0 2, iV d2) :: (ky 0 3, iV hh2) :: (ky 0 4, iV mm2) :: (ky 0 5, iV ss2) :: H))) (S := ((2, ⟨.slice pz (Md.fill r { s with h := hh2, mi := mm2, s := ss2, d := d2 }).length cz, 80, 2, (Md.fill r { s with h := hh2, mi := mm2, s := ss2, d := d2 }).length, bS (Md.fill r { s with h := hh2, mi := mm2, s := ss2, d := d2 })⟩) :: S)) st2 hr hmk hwn hnw hea sO hmo hy hly hfin (fun o a' H' S' ho => hn o a' H' S' (ho.trans hadv.symm)) (fun o a' H' S' ho => hq o a' H' S' (ho.trans hadv.symm))
  .have hkK : k + 1 < K := by
    rcases Nat.lt_or_ge (k + 1) K with h_ | h_
    .exact h_
    .have e_ : K = k + 1 := by omega
     have h2_ := hKp
     rw [e_, hP, hb] at h2_; cases h2_
   refine g2 ?_
   refine aN ⟨k + 1, hh2, mm2, ss2, d2, f2⟩ sO ⟨by omega, hT2, by omega, hf2, hd2⟩ kns (fun w s => by exact s)
end
open Go.Md Go.Tab Go.Fr
theorem zZ {p : Nat -> Bool} : ∀ {f k K : Nat}, k <= K -> K < k + f -> p K = true -> ∃ J, n7 p f k = some J /\ J <= K
 | 0, k, K, h1, h2, _ => by omega
 | f + 1, k, K, h1, h2, h3 => by
  unfold n7
  cases hp : p k with
  | true => exact ⟨k, by simp, h1⟩
  | false =>
   rcases Nat.eq_or_lt_of_le h1 with e | e
   .subst e; rw [hp] at h3; cases h3
   .obtain ⟨J, h4, h5⟩ := zZ (f := f) (k := k + 1) oM oM h3
    exact ⟨J, by simpa using h4, h5⟩
theorem kD {f : Int} (h : 4 <= f /\ f <= 6) : (f = 4 /\ dJ f = 24) \/ (f = 5 /\ dJ f = 1440) \/ (f = 6 /\ dJ f = 86400) := by
 rcases (show f = 4 \/ f = 5 \/ f = 6 by omega) with h | h | h <;> subst h <;> decide
theorem aBo {f : Int} (hf : 4 <= f /\ f <= 6) {s : It} (h1 : 0 <= s.h /\ s.h <= 23) (h2 : 0 <= s.mi /\ s.mi <= 59) (h3 : 0 <= s.s /\ s.s <= 59) : 0 <= cP f s /\ cP f s < dJ f := by
 rcases kD hf with ⟨rfl, h⟩ | ⟨rfl, h⟩ | ⟨rfl, h⟩ <;> rw [h] <;> unfold cP <;> simp <;> omega
def iX (r : Ru) (b : Bool) (s : It) : Int := if b then (dJ r.aP2 - 1 - cP r.aP2 s) / r.aPp else 0
theorem aC5 (r : Ru) (b : Bool) (s : It) : eK r b s = cP r.aP2 s + iX r b s * r.aPp := by
 unfold eK iX
 cases b <;> simp
theorem aF2 {r : Ru} {s : It} (hf : 4 <= r.aP2 /\ r.aP2 <= 6) {k0 : Int} (h0 : cX r (bY r.aP2 s ((cP r.aP2 s + k0 * r.aPp) % dJ r.aP2)) = true) : ∀ b, ∃ K, jL r b s = some K /\ (K : Int) <= dJ r.aP2 := by
 intro b
 have hN : 24 <= dJ r.aP2 /\ dJ r.aP2 <= 86400 := by rcases kD hf with ⟨_, h⟩ | ⟨_, h⟩ | ⟨_, h⟩ <;> omega
 have hm := aC5 r b s
 generalize iX r b s = m at hm
 have e1 := Int.mul_ediv_add_emod (k0 - m - 1) (dJ r.aP2)
 have e2 := Int.emod_nonneg (k0 - m - 1) (show dJ r.aP2 ≠ 0 by omega)
 have e3 := Int.emod_lt_of_pos (k0 - m - 1) (show 0 < dJ r.aP2 by omega)
 generalize (k0 - m - 1) / dJ r.aP2 = q at e1
 generalize (k0 - m - 1) % dJ r.aP2 = e at e1 e2 e3
 obtain ⟨J, h1, h2⟩ := zZ (p := fun k => cX r (bY r.aP2 s ((eK r b s + k * r.aPp) % dJ r.aP2))) (f := 100000) (k := 1) (K := e.toNat + 1) oM oM (by
  have e4 : ((e.toNat + 1 : Nat) : Int) = k0 - m + dJ r.aP2 * -q := by rw [Int.mul_neg]; omega
  have e5 : eK r b s + ((e.toNat + 1 : Nat) : Int) * r.aPp = cP r.aP2 s + k0 * r.aPp + dJ r.aP2 * (-q * r.aPp) := by
   rw [e4, hm, Int.add_mul, Int.sub_mul, Int.mul_assoc]; omega
  show cX r (bY r.aP2 s ((eK r b s + ((e.toNat + 1 : Nat) : Int) * r.aPp) % dJ r.aP2)) = true
  rw [e5, Int.add_mul_emod_self_left]
  exact h0)
 exact ⟨J, h1, by omega⟩
theorem aDa {f : Int} (hf : 4 <= f /\ f <= 6) {s : It} {t : Int} (ht : 0 <= t /\ t < dJ f) : cP f (bY f s t) = t /\ (f = 4 -> (bY f s t).mi = s.mi) /\ (f <= 5 -> (bY f s t).s = s.s) := by
 rcases kD hf with ⟨rfl, h⟩ | ⟨rfl, h⟩ | ⟨rfl, h⟩ <;> rw [h] at ht <;> unfold cP bY <;> simp <;> omega
theorem aIz {f : Int} (hf : 4 <= f /\ f <= 6) {s : It} {t : Int} (ht : 0 <= t /\ t < dJ f) (h2 : 0 <= s.mi /\ s.mi <= 59) (h3 : 0 <= s.s /\ s.s <= 59) : (0 <= (bY f s t).h /\ (bY f s t).h <= 23) /\ (0 <= (bY f s t).mi /\ (bY f s t).mi <= 59) /\ (0 <= (bY f s t).s /\ (bY f s t).s <= 59) := by
 rcases kD hf with ⟨rfl, h⟩ | ⟨rfl, h⟩ | ⟨rfl, h⟩ <;> rw [h] at ht <;> unfold bY <;> simp <;> omega
theorem aJu (f : Int) (s : It) (t : Int) : (bY f s t).y = s.y /\ (bY f s t).mo = s.mo /\ (bY f s t).d = s.d /\ (bY f s t).wd = s.wd /\ (bY f s t).ly = s.ly /\ (bY f s t).lm = s.lm /\ (bY f s t).wno = s.wno /\ (bY f s t).nwm = s.nwm /\ (bY f s t).eas = s.eas /\ (bY f s t).aP3 = s.aP3 /\ (bY f s t).count = s.count /\ (bY f s t).rem = s.rem /\ (bY f s t).fin = s.fin := by
 unfold bY
 split
 .exact ⟨rfl, rfl, rfl, rfl, rfl, rfl, rfl, rfl, rfl, rfl, rfl, rfl, rfl⟩
 .split <;> exact ⟨rfl, rfl, rfl, rfl, rfl, rfl, rfl, rfl, rfl, rfl, rfl, rfl, rfl⟩
theorem aJo {r : Ru} (hf : 4 <= r.aP2 /\ r.aP2 <= 6) {s : It} (h1 : 0 <= s.h /\ s.h <= 23) (h2 : 0 <= s.mi /\ s.mi <= 59) (h3 : 0 <= s.s /\ s.s <= 59) : cX r (bY r.aP2 s (cP r.aP2 s)) = cX r s := by
 rcases (show r.aP2 = 4 \/ r.aP2 = 5 \/ r.aP2 = 6 by omega) with h | h | h
 .unfold bY cP; simp only [h]; rfl
 .have e : bY r.aP2 s (cP r.aP2 s) = s := by unfold bY cP; rw [h]; simp; cases s; simp_all; omega
  rw [e]
 .have e : bY r.aP2 s (cP r.aP2 s) = s := by unfold bY cP; rw [h]; simp; cases s; simp_all; omega
  rw [e]
theorem aAx {f : Int -> List Int} {m : Nat} : ∀ (l : List Int), (∀ x, (f x).length <= m) -> (l.flatMap f).length <= l.length * m
 | [], _ => by simp
 | x :: l, hf => by rw [List.flatMap_cons, List.length_append, List.length_cons, Nat.succ_mul]; have := hf x; have := aAx l hf; omega
structure NextT (r : Ru) (b : Bool) (s n : It) (K : Nat) : Prop where
 adv : Md.adv r b s = fix r n
 hk : 1 <= K /\ (K : Int) <= dJ r.aP2
 no : ∀ j : Nat, 1 <= j -> j < K -> cX r (bY r.aP2 s ((cP r.aP2 s + (iX r b s + j) * r.aPp) % dJ r.aP2)) = false
 d : n.d = s.d + (cP r.aP2 s + (iX r b s + K) * r.aPp) / dJ r.aP2
 slot : cP r.aP2 n = (cP r.aP2 s + (iX r b s + K) * r.aPp) % dJ r.aP2
 ok : cX r n = true
 ts : n.ts = Md.fill r n
 hr : 0 <= n.h /\ n.h <= 23
 mn : 0 <= n.mi /\ n.mi <= 59
 sec : 0 <= n.s /\ n.s <= 59
 y : n.y = s.y
 mo : n.mo = s.mo
 ly : n.ly = s.ly
 lm : n.lm = s.lm
 wd : n.wd = s.wd
 wno : n.wno = s.wno
 nwm : n.nwm = s.nwm
 eas : n.eas = s.eas
 aP3 : n.aP3 = s.aP3
 count : n.count = s.count
 rem : n.rem = s.rem
 fin : n.fin = s.fin
theorem sB {r : Ru} {s o : It} (h1 : o.h = s.h) (h2 : o.mi = s.mi) (h3 : o.s = s.s) : Md.fill r o = Md.fill r s := by unfold Md.fill; rw [h1, h2, h3]
theorem uF {r : Ru} {s o : It} (h1 : o.h = s.h) (h2 : o.mi = s.mi) (h3 : o.s = s.s) : cX r o = cX r s := by unfold cX; rw [h1, h2, h3]
theorem tH {f : Int} {s o : It} (h1 : o.h = s.h) (h2 : o.mi = s.mi) (h3 : o.s = s.s) : cP f o = cP f s := by unfold cP; rw [h1, h2, h3]
theorem aJl {r : Ru} {b : Bool} {s : It} (hf : 4 <= r.aP2 /\ r.aP2 <= 6) (hk : ItOk r s) : ∃ n K, NextT r b s n K := by
 obtain ⟨K, h1, h2⟩ := hk.meet hf.1 b
 obtain ⟨h3, h4, h5⟩ := lW (show n7 _ _ _ = some K from h1)
 have hN : 24 <= dJ r.aP2 /\ dJ r.aP2 <= 86400 := by rcases kD hf with ⟨_, h⟩ | ⟨_, h⟩ | ⟨_, h⟩ <;> omega
 have es : ∀ j : Nat, eK r b s + (j : Int) * r.aPp = cP r.aP2 s + (iX r b s + j) * r.aPp := fun j => by rw [aC5, Int.add_mul]; omega
 simp only [es] at h4 h5
 have ht : 0 <= (cP r.aP2 s + (iX r b s + K) * r.aPp) % dJ r.aP2 /\ (cP r.aP2 s + (iX r b s + K) * r.aPp) % dJ r.aP2 < dJ r.aP2 := ⟨Int.emod_nonneg _ oM, Int.emod_lt_of_pos _ oM⟩
 obtain ⟨a1, a2, a3, a4, a5, a6, a7, a8, a9, a10, a11, a12, a13⟩ := aJu r.aP2 s ((cP r.aP2 s + (iX r b s + K) * r.aPp) % dJ r.aP2)
 have hb := aIz hf ht hk.mn hk.sec
 have hso := (aDa hf (s := s) ht).1
 have e := rA (n := bY r.aP2 s ((cP r.aP2 s + (iX r b s + K) * r.aPp) % dJ r.aP2)) (d := s.d + (cP r.aP2 s + (iX r b s + K) * r.aPp) / dJ r.aP2) hf.1 h1 (by rw [es]) (by rw [es]) a3
 refine ⟨_, K, e, ⟨h3, h2⟩, h5, rfl, ?_, ?_, ?_, hb.1, hb.2.1, hb.2.2, a1, a2, a5, a6, a4, a7, a8, a9, a10, a11, a12, a13⟩
 .exact hso
 .exact h4
 .exact sB rfl rfl rfl
theorem aD1 {r : Ru} (hr : RuOk r) (hf : 4 <= r.aP2 /\ r.aP2 <= 6) (hlm : r.aPr.length <= 100) (hls : r.aPs.length <= 100) : wJ r := by
 intro s hk hrem hfin hf2
 have ho := aBs hk hrem
 have hof : (out r s).fin = false := by
  cases h : (out r s).fin with
  | false => rfl
  | true => rw [rI h, h] at hf2; cases hf2
 rw [mJ hof] at hf2 ⊢
 obtain ⟨n, K, hn⟩ := aJl (b := cS r s) hf ho
 rw [hn.adv] at hf2 ⊢
 have hiv := hr.aPp
 have hd := ho.d
 have hsb := aBo hf ho.hr ho.mn ho.sec
 have hN : 24 <= dJ r.aP2 /\ dJ r.aP2 <= 86400 := by rcases kD hf with ⟨_, h⟩ | ⟨_, h⟩ | ⟨_, h⟩ <;> omega
 have hj : 0 <= iX r (cS r s) (out r s) := by
  unfold iX
  split
  .exact Int.ediv_nonneg oM oM
  .omega
 have hnd : 1 <= n.d := by
  rw [hn.d]
  have h1 := Int.mul_nonneg (show 0 <= iX r (cS r s) (out r s) + K by omega) (show 0 <= r.aPp by omega)
  have := Int.ediv_nonneg (show 0 <= cP r.aP2 (out r s) + (iX r (cS r s) (out r s) + K) * r.aPp by omega) (show 0 <= dJ r.aP2 by omega)
  omega
 obtain ⟨a1, a2, a3, a4, a5, a6⟩ := aBh (r := r) (s := n) hnd (by rw [hn.mo]; exact ho.mo) (by rw [hn.y]; exact ho.y) (by rw [hn.ly, hn.y]; exact ho.ly) ⟨by rw [hn.wno, hn.ly]; exact ho.wno, by rw [hn.nwm, hn.ly, hn.lm]; exact ho.nwm, by rw [hn.eas, hn.ly]; exact ho.eas⟩ hf2
 have hmd := Cal.mdays_bd (fix r n).mo (fix r n).y
 have hmin := hr.aPr
 have hsec := hr.aPs
 have hh := hn.hr
 have hm := hn.mn
 have hs := hn.sec
 have hts : ∀ t ∈ Md.fill r n, 0 <= t /\ t < 86400 := by
  intro t ht
  unfold Md.fill at ht
  have key : ∀ (hs_ ms ss : List Int), (∀ x ∈ hs_, 0 <= x /\ x <= 23) -> (∀ x ∈ ms, 0 <= x /\ x <= 59) -> (∀ x ∈ ss, 0 <= x /\ x <= 59) -> t ∈ nV hs_ ms ss -> 0 <= t /\ t < 86400 := by
   intro hs_ ms ss k1 k2 k3 k4
   unfold nV at k4
   have k4 := rH.1 k4
   rw [List.mem_flatMap] at k4
   obtain ⟨x, hx, k5⟩ := k4
   rw [List.mem_flatMap] at k5
   obtain ⟨y, hy, k6⟩ := k5
   rw [List.mem_map] at k6
   obtain ⟨z, hz, rfl⟩ := k6
   have := k1 x hx
   have := k2 y hy
   have := k3 z hz
   omega
  split at ht
  .exact key _ _ _ (fun x hx => by rw [List.mem_singleton] at hx; omega) hmin hsec ht
  .split at ht
   .exact key _ _ _ (fun x hx => by rw [List.mem_singleton] at hx; omega) (fun x hx => by rw [List.mem_singleton] at hx; omega) hsec ht
   .rw [List.mem_singleton] at ht; omega
 have htn : (Md.fill r n).length <= 100000 := by
  unfold Md.fill
  have key : ∀ (hs_ ms ss : List Int), hs_.length <= 1 -> ms.length <= 100 -> ss.length <= 100 -> (nV hs_ ms ss).length <= 100000 := by
   intro hs_ ms ss k1 k2 k3
   unfold nV
   rw [show ∀ l : List Int, (eM l).length = l.length from fun l => by unfold eM; exact List.length_mergeSort _]
   refine Nat.le_trans (aAx (m := 10000) _ fun h => Nat.le_trans (aAx (m := 100) _ fun m => by rw [List.length_map]; exact k3) oM) oM
  split
  .exact key _ _ _ (by simp) hlm hls
  .split
   .exact key _ _ _ (by simp) (by simp) hls
   .simp
 refine ⟨a3, a4, a2, ⟨a1.1, by omega⟩, fun _ => a1.2, by rw [a6.wd, hn.wd]; exact ho.wd, by rw [a6.h]; exact hh, by rw [a6.mi]; exact hm, by rw [a6.sec]; exact hs, by rw [a6.ts, hn.ts]; exact hts, by rw [a6.ts, hn.ts]; exact htn, by rw [a6.aP3, a6.rem, hn.aP3, hn.rem]; exact ho.aP3, by rw [a6.count, hn.count]; exact ho.count, a5.wno, a5.nwm, a5.eas, fun h => by omega, fun _ b => ?_⟩
 have e := aF2 (r := r) (s := n) hf (k0 := 0) (by
  have hb := aBo hf hh hm hs
  rw [Int.zero_mul, Int.add_zero, Int.emod_eq_of_lt hb.1 hb.2, aJo hf hh hm hs]
  exact hn.ok) b
 rw [lL a6.h a6.mi a6.sec]
 exact e
theorem aGi {r : Ru} (hr : RuOk r) (hf : 4 <= r.aP2 /\ r.aP2 <= 6) (hmk : MkOk r) (hlm : r.aPr.length <= 100) (hls : r.aPs.length <= 100) : aLb r := by
 intro F w0 B H S S0 H0 l it rb s a Q flt st s0 hk hsm hfin hn hq
 have h1 := hk.y
 have h2 := hk.mo
 have h3 := hk.d
 have h4 := hk.wd
 have h5 := hk.ly
 have h6 := hsm.y
 have h7 := hsm.mo
 have h8 := hsm.d
 have h9 := hsm.wd
 have h10 := hsm.ly
 have h11 := hk.hr
 have h12 := hk.mn
 have h13 := hk.sec
 have h14 := hsm.h
 have h15 := hsm.mi
 have h16 := hsm.s
 have h17 := hk.tsn
 have h18 := hk.day oM
 have m1 : s.wno = r.wnoF s.ly := by rw [hsm.wno, hsm.ly]; exact hk.wno
 have m2 : s.nwm = r.nwmF s.ly s.lm := by rw [hsm.nwm, hsm.ly, hsm.lm]; exact hk.nwm
 have m3 : s.eas = r.easF s.ly := by rw [hsm.eas, hsm.ly]; exact hk.eas
 have m4 : s.ts.length <= 1000000000 := by rw [hsm.ts]; omega
 have m5 : s.d <= Cal.mdays s.mo s.y := by rw [h6, h7, h8]; exact h18
 have m6 : ∃ K, jL r flt s = some K /\ (K : Int) <= dJ r.aP2 := by rw [lL h14 h15 h16]; exact hk.meet hf.1 flt
 rcases (show r.aP2 = 4 \/ r.aP2 = 5 \/ r.aP2 = 6 by omega) with hf | hf | hf
 .exact aEt st hr hmk m1 m2 m3 oM oM oM oM oM hfin hf oM oM oM m4 hlm hls m5 m6 hn hq
 .exact aA2 st hr hmk m1 m2 m3 oM oM oM oM oM hfin hf oM oM oM m4 hlm hls m5 m6 hn hq
 .exact aA9 st hr hmk m1 m2 m3 oM oM oM oM oM hfin hf oM oM oM m4 hlm hls m5 m6 hn hq
end Go.Proofs.YthomapgobmdicaaGreat
