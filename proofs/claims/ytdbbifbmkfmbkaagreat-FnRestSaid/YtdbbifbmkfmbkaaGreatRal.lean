import Derived.Test.YtdbbifbmkfmbkaaGreatRak
set_option linter.unusedVariables false
set_option linter.unusedSimpArgs false
set_option maxRecDepth 100000
set_option maxHeartbeats 8000000
namespace Go.Proofs.YtdbbifbmkfmbkaaGreat
open Go.RowKit Go.Fr Go.Tab
section
variable {F : Nat → Prop} {w0 : World} {B : LN} {H : LV} {S : LS}
open Go.Md
theorem kE {p : Nat → Bool} : ∀ {f k K : Nat}, lX p f k = some K → k ≤ K ∧ p K = true ∧ ∀ j, k ≤ j → j < K → p j = false
 | 0, k, K, h => by cases h
 | f + 1, k, K, h => by
  unfold lX at h
  cases hp : p k with
  | true =>
   rw [hp, if_pos rfl] at h
   cases h
   exact ⟨Nat.le_refl _, hp, fun j h1 h2 => by omega⟩
  | false =>
   rw [hp, if_neg dE] at h
   obtain ⟨h1, h2, h3⟩ := kE h
   refine ⟨by omega, h2, fun j h4 h5 => ?_⟩
   rcases Nat.eq_or_lt_of_le h4 with e | e
   ·subst e; exact hp
   ·exact h3 j e h5
theorem oB {r : Ru} {s n : It} {flt : Bool} {K : Nat} {d : Int} (hf : 4 ≤ r.freq) (hK : iK r flt s = some K) (hn : bS r.freq s ((dT r flt s + K * r.interval) % dC r.freq) = n) (hd : s.d + (dT r flt s + K * r.interval) / dC r.freq = d) (he : n.d = s.d) : adv r flt s = fix r { n with d := d, ts := fill r n } := by
 unfold adv
 rw [if_neg oM, if_neg oM, if_neg oM, if_neg oM]
 unfold aH1
 simp only [hK, Option.getD_some, hn, ← hd, he]
theorem ok4 {r : Ru} {s : It} {t : Int} (h : r.freq = 4) : cS r (bS r.freq s t) = aJ r.hour t := by
 unfold cS bS
 rw [h]; simp
theorem ok5 {r : Ru} {s : It} {t : Int} (h : r.freq = 5) : cS r (bS r.freq s t) = (aJ r.hour (t / 60) && aJ r.minute (t % 60)) := by
 unfold cS bS
 rw [h]; simp
theorem ok6 {r : Ru} {s : It} {t : Int} (h : r.freq = 6) : cS r (bS r.freq s t) = ((aJ r.hour (t / 3600) && aJ r.minute (t / 60 % 60)) && aJ r.second (t % 60)) := by
 unfold cS bS
 rw [h]; simp
theorem eS {l : List Int} {x : Int} (h : l.length = 0) : aJ l x = true := by unfold aJ; rw [h]; rfl
theorem gE {l : List Int} {x : Int} (h : l.any (· == x) = true) : aJ l x = true := by unfold aJ; rw [h, Bool.or_true]
theorem gW {l : List Int} {x : Int} (h0 : ¬ l.length = 0) (h : l.any (· == x) = false) : aJ l x = false := by unfold aJ; rw [h, beq_eq_false_iff_ne.2 h0]; rfl
theorem Sees.again {w : World} (s : Sees F w0 B H S w) {k o b : Nat} {v : Value} (hb : lkp k B = some b) (ho : o < 4096) (h : lkp (ky k o) H = some v) : Sees F w0 B ((ky k o, v) :: H) S w :=
 s.to (fun _ _ h => h) (fun i p u hp h2 => by
  rcases bB h2 with ⟨e, rfl⟩ | ⟨_, h2⟩
  ·rw [e]; exact ⟨h, by obtain ⟨rfl, rfl⟩ := gK hp ho e; rw [hb]; rfl⟩
  ·exact ⟨h2, by obtain ⟨b, e, _⟩ := s.cells i p u hp h2; rw [e]; rfl⟩) (fun _ _ h => h)
section
variable {P : Program} {N : Nat} {L : Fr.Loc} {ops : Array Oper} {l : List Oper} {K : Act → Prop}
theorem lC (n : Nat) (L' : Fr.Loc) (h1 : GM P ops (Kn N L') (l.take n) N L F w0 B H S) (h2 : GM P ops K (l.drop n) N L' F w0 B H S) : GM P ops K l N L F w0 B H S := fun a k =>
 lK n l a (kO (fun a k => h2 a k) _ a (h1 a k))
theorem qE {Q : Exit → Act → World → Prop} (L' : Fr.Loc) (h1 : GM P ops (Kn N L') l N L F w0 B H S) (h2 : GE Q .normal N L' F w0 B H S) : GQ P ops Q l N L F w0 B H S :=
 aD0 l.length L' (by rw [List.take_length]; exact h1) (by rw [List.drop_length]; exact aBa h2)
end
theorem sG {m n : Int} (hm : 0 ≤ m) (hn : 0 < n) : 0 ≤ m / n * n ∧ m / n * n ≤ m := by
 have h1 := Int.mul_ediv_add_emod m n
 have h2 := Int.emod_nonneg m (show n ≠ 0 by omega)
 have h3 := Int.mul_nonneg (Int.ediv_nonneg hm (Int.le_of_lt hn)) (Int.le_of_lt hn)
 rw [Int.mul_comm] at h1
 omega
theorem aA1 {a k i : Int} : a + (k + 1) * i = a + k * i + i := by rw [Int.add_mul]; omega
theorem aA0 {Q : Exit → Act → World → Prop} {S0 : LS} {H0 : LV} {r : Ru} {l : Ra} {it rb : Nat} {s : It} {a : Ad} (st : St F w0 S0 H0 it rb r l s a B H S) (hr : RuOk r) (hw0 : r.weekno.length = 0) (hd0 : r.nwd.length = 0) (he0 : r.easter.length = 0) (hwn : s.wno = r.wnoF s.ly) (hnw : s.nwm = r.nwmF s.ly s.lm) (hea : s.eas = r.easF s.ly) (hy : 1 ≤ s.y ∧ s.y ≤ 9999) (hmo : 1 ≤ s.mo ∧ s.mo ≤ 12) (hd : 1 ≤ s.d ∧ s.d ≤ 31) (hwd : 0 ≤ s.wd ∧ s.wd ≤ 6) (hly : 1 ≤ s.ly ∧ s.ly ≤ 9999) (hfin : s.fin = false) (hfr : r.freq = 4) {flt : Bool} (hh : 0 ≤ s.h ∧ s.h ≤ 23) (hmi : 0 ≤ s.mi ∧ s.mi ≤ 59) (hse : 0 ≤ s.s ∧ s.s ≤ 59) (htn : s.ts.length ≤ 1000000000) (hlm : r.minute.length ≤ 100) (hls : r.second.length ≤ 100) (hdm : s.d ≤ Cal.mdays s.mo s.y) (hK : ∃ K, iK r flt s = some K ∧ (K : Int) ≤ dC r.freq)
  (hn : ∀ o a' H' S', o = adv r flt s → o.fin = false → St F w0 S0 H0 it rb r l o a' B H' S' → GE Q .normal 1418 [(0, pT it), (2, pT rb)] F w0 B H' S')
  (hq : ∀ o a' H' S', o = adv r flt s → o.fin = true → St F w0 S0 H0 it rb r l o a' B H' S' → GE Q .ret 1418 [] F w0 B H' S') : GC Tryz.prog (Go.Fr.part [1, 1, 0, 0, 1, 0, 1, 1, 1, 1, 1, 1] (Go.Fr.bodyOf Tryz.f96)) Q 1418 [(0, pT it), (2, pT rb), (6, .bool flt)] F w0 B H S := by
 have hiv := hr.interval
 obtain ⟨K, hK, hKb⟩ := hK
 have hsl : dC r.freq = 24 := by rw [hfr]; rfl
 have hso : cK r.freq s = s.h := by rw [hfr]; rfl
 obtain ⟨hK1, hKp, hKn⟩ := kE (show lX _ _ _ = some K from hK)
 have hjb := sG (m := 23 - (s.h)) (n := r.interval) oM oM
 refine g10 ?_
 refine rl (rfa 38) ?_
 refine rl (rld 1 rfl st.hR st.r38) ?_
 refine wZ7 ((aR rfl rfl).to (v' := .bool false) (cB (by rw [hfr]; rfl))) ?_
 refine rl (rfa 38) ?_
 refine rl (rld 1 rfl st.hR st.r38) ?_
 refine wZ7 ((aR rfl rfl).to (v' := .bool false) (cB (by rw [hfr]; rfl))) ?_
 refine rl (rfa 38) ?_
 refine rl (rld 1 rfl st.hR st.r38) ?_
 refine wZ7 ((aR rfl rfl).to (v' := .bool false) (cB (by rw [hfr]; rfl))) ?_
 refine rl (rfa 38) ?_
 refine rl (rld 1 rfl st.hR st.r38) ?_
 refine wZ7 ((aR rfl rfl).to (v' := .bool false) (cB (by rw [hfr]; rfl))) ?_
 refine rl (rfa 38) ?_
 refine rl (rld 1 rfl st.hR st.r38) ?_
 refine rl ((aR rfl rfl).to (v' := .bool true) (cB (by rw [hfr]; rfl))) ?_
 refine g2 ?_
 refine aY rfl rfl ?_
 refine cV (ι := (Int)) (fun j0 => (dT r flt s = s.h + j0 ∧ 0 ≤ j0 ∧ j0 ≤ 23 - (s.h))) (fun j0 => [(0, pT it), (2, pT rb), (6, .bool flt), (42, .bool false)]) (fun j0 => B) (fun j0 => ((ky 0 3, iV (s.h + j0)) :: H)) (fun j0 => S) ?_ ?_
 ·refine g5 ?_
  refine aB rfl (fun hc1 => ?_) (fun hc2 => ?_)
  ·have hflt : flt = true := hc1
   refine dL 22 kR kR ?_
   refine g2 ?_
   refine rt (rfa 3) ?_
   refine rt (rld 0 rfl st.hB st.h3) ?_
   refine g2 ?_
   refine rt (rfa 3) ?_
   refine rt (rld 0 rfl st.hB st.h3) ?_
   refine g3 ?_
   refine rt (rfa 41) ?_
   refine rt (rld 1 rfl st.hR st.r41) ?_
   refine g3 ?_
   refine rt (rfa 41) ?_
   refine rt (rld 1 rfl st.hR st.r41) ?_
   refine g3 ?_
   refine rt (rfa 3) ?_
   refine g1 ?_
   refine gL (sto 0 rfl rfl st.hB st.h3 ?_)
   refine g1 ?_
   refine aO (ι := Int) ((23 - (s.h)) / r.interval * r.interval) (⟨by unfold dT; rw [hso, hsl, if_pos hflt, show (24 : Int) - 1 - (s.h) = 23 - (s.h) by omega], by omega, by omega⟩) kns (fun w s => by exact s.low 40 (st.lim.aJ1 dE dE) agx agx agx)
  ·have hflt : flt = false := hc2
   refine g1 ?_
   refine aO (ι := Int) (0) (⟨by unfold dT; rw [hso, if_neg (by rw [hflt]; decide)], by omega, by omega⟩) kns (fun w s => by exact by rw [Int.add_zero]; exact Sees.again (k := 0) (o := 3) s st.hB dE st.h3)
 rintro j0 hj0
 show GC _ _ _ _ [(0, pT it), (2, pT rb), (6, .bool flt), (42, .bool false)] _ _ (B) (((ky 0 3, iV (s.h + j0)) :: H)) (S)
 refine g2 ?_
 refine bJ (ι := (Nat) × (Int) × (Int) × (Bool)) (fun | ⟨k, hh, dd, fx⟩ => K - k) (fun | ⟨k, hh, dd, fx⟩ => (k < K) ∧ (hh + (dd - s.d) * 24 = (dT r flt s + (k : Int) * r.interval)) ∧ (0 ≤ hh ∧ hh ≤ 23) ∧ (fx = false → dd = s.d) ∧ (s.d ≤ dd)) (fun | ⟨k, hh, dd, fx⟩ => [(0, pT it), (2, pT rb), (6, .bool flt), (42, .bool fx)]) (fun | ⟨k, hh, dd, fx⟩ => B) (fun | ⟨k, hh, dd, fx⟩ => ((ky 0 2, iV dd) :: (ky 0 3, iV hh) :: H)) (fun | ⟨k, hh, dd, fx⟩ => S) ⟨0, s.h + j0, s.d, false⟩ ⟨by omega, by omega, by omega, fun _ => rfl, Int.le_refl _⟩ kns (fun w s => by exact Sees.low 40 (Sees.again (k := 0) (o := 2) s st.hB dE st.h2) (((st.lim.aJ1 dE dE).aJ1 dE dE)) agx agx agx) ?_
 rintro ⟨k, hh, dd, fx⟩ ⟨hk, hT, hru, hfx, hdd⟩
 show GC _ _ _ _ [(0, pT it), (2, pT rb), (6, .bool flt), (42, .bool fx)] _ _ (B) (((ky 0 2, iV dd) :: (ky 0 3, iV hh) :: H)) (S)
 refine g2 ?_
 have hst1 : (dT r flt s + ((k + 1 : Nat) : Int) * r.interval) = (dT r flt s + (k : Int) * r.interval) + r.interval := by rw [show ((k + 1 : Nat) : Int) = (k : Int) + 1 by omega]; exact aA1
 have hkb : 0 ≤ (k : Int) * r.interval ∧ (k : Int) * r.interval ≤ 24 * 1000 := ⟨Int.mul_nonneg oM oM, Int.le_trans (Int.mul_le_mul_of_nonneg_right (show (k : Int) ≤ 24 by omega) oM) (Int.mul_le_mul_of_nonneg_left oM dE)⟩
 refine dL 11 kR kR ?_
 refine g2 ?_
 refine rt (rfa 3) ?_
 refine rt (rld 0 rfl st.hB rfl) ?_
 refine g2 ?_
 refine rt (rfa 41) ?_
 refine rt (rld 1 rfl st.hR st.r41) ?_
 refine g2 ?_
 refine rt (rfa 3) ?_
 refine g1 ?_
 refine gL (sto 0 rfl rfl st.hB rfl ?_)
 refine g6 ?_
 refine rl (rfa 3) ?_
 refine rl (rld 0 rfl st.hB rfl) ?_
 refine gL (cvo rfl (fun w_ s_ => gF _ _ oM oM w_) ?_)
 refine g7 ?_
 refine cV (ι := (Int) × (Int) × (Bool)) (fun | ⟨hh2, d2, f2⟩ => (hh2 + (d2 - s.d) * 24 = (dT r flt s + ((k + 1 : Nat) : Int) * r.interval)) ∧ ((0 ≤ hh2 ∧ hh2 ≤ 23)) ∧ (f2 = false → d2 = s.d) ∧ (s.d ≤ d2)) (fun | ⟨hh2, d2, f2⟩ => [(0, pT it), (2, pT rb), (6, .bool flt), (42, .bool f2)]) (fun | ⟨hh2, d2, f2⟩ => B) (fun | ⟨hh2, d2, f2⟩ => ((ky 0 2, iV d2) :: (ky 0 3, iV hh2) :: H)) (fun | ⟨hh2, d2, f2⟩ => S) ?_ ?_
 ·refine g6 ?_
  refine aB rfl (fun hc1 => ?_) (fun hc2 => ?_)
  ·have hc_ : (hh + r.interval) / 24 ≠ 0 := bne_iff_ne.1 hc1
   refine g5 ?_
   refine rl (rfa 3) ?_
   refine gL (sto 0 rfl rfl st.hB rfl ?_)
   refine g6 ?_
   refine rl (rfa 2) ?_
   refine rZ3 (rld 0 rfl st.hB rfl) ?_
   refine rl (rfa 2) ?_
   refine gL (sto 0 rfl rfl st.hB rfl ?_)
   refine g5 ?_
   refine aO (ι := Int × Int × Bool) ⟨(hh + r.interval) % 24, dd + (hh + r.interval) / 24, true⟩ ⟨by rw [hst1]; omega, by omega, (by intro h_; cases h_), by omega⟩ kns (fun w s => by exact s.low 40 (((st.lim.aJ1 dE dE).aJ1 dE dE)) agx agx agx)
  ·have hc_ : (hh + r.interval) / 24 = 0 := bne_eq_false_iff_eq.1 hc2
   refine g1 ?_
   refine aO (ι := Int × Int × Bool) ⟨(hh + r.interval), dd, fx⟩ ⟨by rw [hst1]; omega, by omega, (by exact hfx), by omega⟩ kns (fun w s => by exact s.low 40 (((st.lim.aJ1 dE dE).aJ1 dE dE)) agx agx agx)
 rintro ⟨hh2, d2, f2⟩ ⟨hT2, hr2, hf2, hd2⟩
 show GC _ _ _ _ [(0, pT it), (2, pT rb), (6, .bool flt), (42, .bool f2)] _ _ (B) (((ky 0 2, iV d2) :: (ky 0 3, iV hh2) :: H)) (S)
 refine g1 ?_
 have hP : cS r (bS r.freq s ((dT r flt s + ((k + 1 : Nat) : Int) * r.interval) % dC r.freq)) = (aJ r.hour hh2) := by rw [ok4 hfr, hsl, show (dT r flt s + ((k + 1 : Nat) : Int) * r.interval) % 24 = hh2 by omega]
 refine g1 ?_
 refine qE [(0, pT it), (2, pT rb), (6, .bool flt), (42, .bool f2), (956, .bool (aJ r.hour hh2))] ?_ ?_
 ·refine g2 ?_
  refine rm (rfa 54) ?_
  refine rm (rld 1 rfl st.hR st.r54) ?_
  refine g1 ?_
  by_cases hz : r.hour.length = 0
  ·refine rm ((aR rfl rfl).to eT) ?_
   refine g10 ?_
   refine rm ((aX rfl rfl rfl).to (v' := .bool (aJ r.hour hh2)) (by exact cB (eS hz).symm)) ?_
   exact bR kns
  ·refine rm ((aR rfl rfl).to eF) ?_
   refine g6 ?_
   refine rm (rfa 54) ?_
   refine g1 ?_
   refine rm (rld 1 rfl st.hR st.r54) ?_
   refine g5 ?_
   refine rm (rfa 3) ?_
   refine g1 ?_
   refine rm (rld 0 rfl st.hB rfl) ?_
   refine g1 ?_
   rcases bO (r.hour.any (· == hh2)) with hy_ | hy_
   ·refine bV (v := .bool true) dE kR rfl (fun w_ s_ => (aU r.hour hh2 _ st.hl54 w_ (st.hI54 _ _ _ w_ aG s_)).mono fun e_ w2_ h_ => ⟨h_.1.trans (cE hy_), h_.2⟩) ?_
    refine rm ((aX rfl rfl rfl).to (v' := .bool (aJ r.hour hh2)) (by exact cB (gE hy_).symm)) ?_
    exact bR kns
   ·refine bV (v := .bool false) dE kR rfl (fun w_ s_ => (aU r.hour hh2 _ st.hl54 w_ (st.hI54 _ _ _ w_ aG s_)).mono fun e_ w2_ h_ => ⟨h_.1.trans (cE hy_), h_.2⟩) ?_
    refine rm ((aX rfl rfl rfl).to (v' := .bool (aJ r.hour hh2)) (by exact cB (gW hz hy_).symm)) ?_
    exact bR kns
 ·refine g1 ?_
  refine aB rfl (fun hb => ?_) (fun hb => ?_)
  ·have hkK : k + 1 = K := by
    rcases Nat.lt_or_ge (k + 1) K with h_ | h_
    ·have h2_ := hKn (k + 1) oM h_
     rw [hP, hb] at h2_; cases h2_
    ·omega
   rw [hkK] at hT2
   refine g5 ?_
   refine dL 22 kR kR ?_
   refine g2 ?_
   refine rt (rfa 7) ?_
   refine g2 ?_
   refine rt (rfa 23) ?_
   refine g2 ?_
   refine rt (rfa 38) ?_
   refine rt (rld 1 rfl st.hR st.r38) ?_
   refine g2 ?_
   refine rt (rfa 3) ?_
   refine rt (rld 0 rfl st.hB rfl) ?_
   refine g2 ?_
   refine rt (rfa 4) ?_
   refine rt (rld 0 rfl st.hB st.h4) ?_
   refine g2 ?_
   refine rt (rfa 5) ?_
   refine rt (rld 0 rfl st.hB st.h5) ?_
   refine g1 ?_
   refine gL (dR (ι := Option Addr × Nat) (fun _ => .tuple #[]) (fun _ => True) (fun _ => B) (fun y => (ky 0 23, .slice y.1 (Md.fill r { s with h := hh2, d := d2 }).length y.2) :: ((ky 0 2, iV d2) :: (ky 0 3, iV hh2) :: H)) (fun y => (2, ⟨.slice y.1 (Md.fill r { s with h := hh2, d := d2 }).length y.2, 57, 2, (Md.fill r { s with h := hh2, d := d2 }).length, bN (Md.fill r { s with h := hh2, d := d2 })⟩) :: S) dE kR rfl (fun w_ s_ => (rV (s := { s with h := hh2, d := d2 }) (a := a) (⟨st.hB, st.hR, (lY st.lim), st.h0, st.h1, rfl, rfl, st.h4, st.h5, st.h6, st.h7, st.h8, st.h9, st.h10, st.h11, st.h12, st.h13, st.h14, st.h15, st.h16, st.h17, st.h18, st.h19, st.h20, st.h21, st.h22, st.h23, st.h24, st.h25, st.h26, st.h27, st.h28, st.h29, st.hS0, st.hS1, st.hS2, st.hS3, st.hS4, st.hS5, st.hS6, st.hS7, st.hS8, st.hS9, st.hS10, st.hp20, st.hp21, st.hp22, st.c6, (fV st.frS), (fW st.frH), st.hq0, st.hq1, st.r38, st.r39, st.r40, st.r41, st.r42, st.r44, st.r45, st.r46, st.r47, st.r48, st.r49, st.r50, st.r51, st.r52, st.r53, st.r54, st.r55, st.r56, st.r57, st.r59, (st.hI46.to aG), (st.hI47.to aG), (st.hI48.to aG), (st.hI49.to aG), (st.hI50.to aG), (st.hI51.to aG), (st.hI52.to aG), (st.hI54.to aG), (st.hI55.to aG), (st.hI56.to aG), (st.hI57.to aG), st.hl46, st.hl47, st.hl48, st.hl49, st.hl50, st.hl51, st.hl52, st.hl54, st.hl55, st.hl56, st.hl57⟩ : St F w0 S0 H0 it rb r l { s with h := hh2, d := d2 } a B ((ky 0 2, iV d2) :: (ky 0 3, iV hh2) :: H) S) hr sO sO sO htn hlm hls hfr w_ s_).mono fun e w' ⟨p, c, h1, h2⟩ => ⟨(p, c), trivial, h1, h2⟩) (fun | (pz, cz), _ => ?_))
   refine g2 ?_
   have hKm : (K : Int) * r.interval ≤ 24 * 1000 := Int.le_trans (Int.mul_le_mul_of_nonneg_right (show (K : Int) ≤ 24 by omega) oM) (Int.mul_le_mul_of_nonneg_left oM dE)
   have hadv : adv r flt s = fix r { s with h := hh2, d := d2, ts := Md.fill r { s with h := hh2, d := d2 } } := oB oM hK (n := { s with h := hh2 }) (d := d2) (by unfold bS; rw [if_pos hfr, hsl, show (dT r flt s + (K : Int) * r.interval) % 24 = hh2 by omega]) (by rw [hsl]; omega) rfl
   have st2 : St F w0 S0 H0 it rb r l { s with h := hh2, d := d2, ts := Md.fill r { s with h := hh2, d := d2 } } { a with tp := pz, tc := cz } B ((ky 0 23, .slice pz (Md.fill r { s with h := hh2, d := d2 }).length cz) :: ((ky 0 2, iV d2) :: (ky 0 3, iV hh2) :: H)) ((2, ⟨.slice pz (Md.fill r { s with h := hh2, d := d2 }).length cz, 57, 2, (Md.fill r { s with h := hh2, d := d2 }).length, bN (Md.fill r { s with h := hh2, d := d2 })⟩) :: S) := ⟨st.hB, st.hR, (lY st.lim), st.h0, st.h1, rfl, rfl, st.h4, st.h5, st.h6, st.h7, st.h8, st.h9, st.h10, st.h11, st.h12, st.h13, st.h14, st.h15, st.h16, st.h17, st.h18, st.h19, st.h20, st.h21, st.h22, rfl, st.h24, st.h25, st.h26, st.h27, st.h28, st.h29, st.hS0, st.hS1, rfl, st.hS3, st.hS4, st.hS5, st.hS6, st.hS7, st.hS8, st.hS9, st.hS10, st.hp20, st.hp21, st.hp22, st.c6, (fV st.frS), (fW st.frH), st.hq0, st.hq1, st.r38, st.r39, st.r40, st.r41, st.r42, st.r44, st.r45, st.r46, st.r47, st.r48, st.r49, st.r50, st.r51, st.r52, st.r53, st.r54, st.r55, st.r56, st.r57, st.r59, (st.hI46.to aG), (st.hI47.to aG), (st.hI48.to aG), (st.hI49.to aG), (st.hI50.to aG), (st.hI51.to aG), (st.hI52.to aG), (st.hI54.to aG), (st.hI55.to aG), (st.hI56.to aG), (st.hI57.to aG), st.hl46, st.hl47, st.hl48, st.hl49, st.hl50, st.hl51, st.hl52, st.hl54, st.hl55, st.hl56, st.hl57⟩
   refine dO (L' := [(0, pT it), (2, pT rb), (6, .bool flt), (42, .bool f2)]) kns (fun w s => s) ?_
   cases f2
   ·have hd0_ : d2 = s.d := hf2 rfl
    have hfix : fix r { s with h := hh2, d := d2, ts := Md.fill r { s with h := hh2, d := d2 } } = { s with h := hh2, d := d2, ts := Md.fill r { s with h := hh2, d := d2 } } := by unfold fix; rw [if_pos (.inr (by show d2 ≤ Cal.mdays s.mo s.y; omega))]
    refine lJ ?_
    refine jP kns (fun w s => s) (hn _ _ _ _ (hadv.trans hfix).symm hfin st2)
   ·refine dO (L' := [(0, pT it), (2, pT rb), (42, .bool true)]) kns (fun w s => s) ?_
    refine l0 (s := { s with h := hh2, d := d2, ts := Md.fill r { s with h := hh2, d := d2 } }) (a := { a with tp := pz, tc := cz }) (H := ((ky 0 23, .slice pz (Md.fill r { s with h := hh2, d := d2 }).length cz) :: ((ky 0 2, iV d2) :: (ky 0 3, iV hh2) :: H))) (S := ((2, ⟨.slice pz (Md.fill r { s with h := hh2, d := d2 }).length cz, 57, 2, (Md.fill r { s with h := hh2, d := d2 }).length, bN (Md.fill r { s with h := hh2, d := d2 })⟩) :: S)) st2 hr hw0 hd0 he0 hwn hnw hea sO hmo hy hly hfin (fun o a' H' S' ho => hn o a' H' S' (ho.trans hadv.symm)) (fun o a' H' S' ho => hq o a' H' S' (ho.trans hadv.symm))
  ·have hkK : k + 1 < K := by
    rcases Nat.lt_or_ge (k + 1) K with h_ | h_
    ·exact h_
    ·have e_ : K = k + 1 := by omega
     have h2_ := hKp
     rw [e_, hP, hb] at h2_; cases h2_
   refine g2 ?_
   refine aQ ⟨k + 1, hh2, d2, f2⟩ sO ⟨by omega, hT2, by omega, hf2, hd2⟩ kns (fun w s => by exact s)
theorem wV {Q : Exit → Act → World → Prop} {S0 : LS} {H0 : LV} {r : Ru} {l : Ra} {it rb : Nat} {s : It} {a : Ad} (st : St F w0 S0 H0 it rb r l s a B H S) (hr : RuOk r) (hw0 : r.weekno.length = 0) (hd0 : r.nwd.length = 0) (he0 : r.easter.length = 0) (hwn : s.wno = r.wnoF s.ly) (hnw : s.nwm = r.nwmF s.ly s.lm) (hea : s.eas = r.easF s.ly) (hy : 1 ≤ s.y ∧ s.y ≤ 9999) (hmo : 1 ≤ s.mo ∧ s.mo ≤ 12) (hd : 1 ≤ s.d ∧ s.d ≤ 31) (hwd : 0 ≤ s.wd ∧ s.wd ≤ 6) (hly : 1 ≤ s.ly ∧ s.ly ≤ 9999) (hfin : s.fin = false) (hfr : r.freq = 5) {flt : Bool} (hh : 0 ≤ s.h ∧ s.h ≤ 23) (hmi : 0 ≤ s.mi ∧ s.mi ≤ 59) (hse : 0 ≤ s.s ∧ s.s ≤ 59) (htn : s.ts.length ≤ 1000000000) (hlm : r.minute.length ≤ 100) (hls : r.second.length ≤ 100) (hdm : s.d ≤ Cal.mdays s.mo s.y) (hK : ∃ K, iK r flt s = some K ∧ (K : Int) ≤ dC r.freq)
  (hn : ∀ o a' H' S', o = adv r flt s → o.fin = false → St F w0 S0 H0 it rb r l o a' B H' S' → GE Q .normal 1418 [(0, pT it), (2, pT rb)] F w0 B H' S')
  (hq : ∀ o a' H' S', o = adv r flt s → o.fin = true → St F w0 S0 H0 it rb r l o a' B H' S' → GE Q .ret 1418 [] F w0 B H' S') : GC Tryz.prog (Go.Fr.part [1, 1, 0, 0, 1, 0, 1, 1, 1, 1, 1, 1] (Go.Fr.bodyOf Tryz.f96)) Q 1418 [(0, pT it), (2, pT rb), (6, .bool flt)] F w0 B H S := by
 have hiv := hr.interval
 obtain ⟨K, hK, hKb⟩ := hK
 have hsl : dC r.freq = 1440 := by rw [hfr]; rfl
 have hso : cK r.freq s = s.h * 60 + s.mi := by rw [hfr]; rfl
 obtain ⟨hK1, hKp, hKn⟩ := kE (show lX _ _ _ = some K from hK)
 have hjb := sG (m := 1439 - (s.h * 60 + s.mi)) (n := r.interval) oM oM
 refine g10 ?_
 refine rl (rfa 38) ?_
 refine rl (rld 1 rfl st.hR st.r38) ?_
 refine wZ7 ((aR rfl rfl).to (v' := .bool false) (cB (by rw [hfr]; rfl))) ?_
 refine rl (rfa 38) ?_
 refine rl (rld 1 rfl st.hR st.r38) ?_
 refine wZ7 ((aR rfl rfl).to (v' := .bool false) (cB (by rw [hfr]; rfl))) ?_
 refine rl (rfa 38) ?_
 refine rl (rld 1 rfl st.hR st.r38) ?_
 refine wZ7 ((aR rfl rfl).to (v' := .bool false) (cB (by rw [hfr]; rfl))) ?_
 refine rl (rfa 38) ?_
 refine rl (rld 1 rfl st.hR st.r38) ?_
 refine wZ7 ((aR rfl rfl).to (v' := .bool false) (cB (by rw [hfr]; rfl))) ?_
 refine rl (rfa 38) ?_
 refine rl (rld 1 rfl st.hR st.r38) ?_
 refine wZ7 ((aR rfl rfl).to (v' := .bool false) (cB (by rw [hfr]; rfl))) ?_
 refine rl (rfa 38) ?_
 refine rl (rld 1 rfl st.hR st.r38) ?_
 refine rl ((aR rfl rfl).to (v' := .bool true) (cB (by rw [hfr]; rfl))) ?_
 refine g2 ?_
 refine aY rfl rfl ?_
 refine cV (ι := (Int)) (fun j0 => (dT r flt s = s.h * 60 + s.mi + j0 ∧ 0 ≤ j0 ∧ j0 ≤ 1439 - (s.h * 60 + s.mi))) (fun j0 => [(0, pT it), (2, pT rb), (6, .bool flt), (42, .bool false)]) (fun j0 => B) (fun j0 => ((ky 0 4, iV (s.mi + j0)) :: H)) (fun j0 => S) ?_ ?_
 ·refine g5 ?_
  refine aB rfl (fun hc1 => ?_) (fun hc2 => ?_)
  ·have hflt : flt = true := hc1
   refine dL 28 kR kR ?_
   refine g2 ?_
   refine rt (rfa 4) ?_
   refine rt (rld 0 rfl st.hB st.h4) ?_
   refine g2 ?_
   refine rt (rfa 3) ?_
   refine rt (rld 0 rfl st.hB st.h3) ?_
   refine g3 ?_
   refine rt (rfa 4) ?_
   refine rt (rld 0 rfl st.hB st.h4) ?_
   refine g4 ?_
   refine rt (rfa 41) ?_
   refine rt (rld 1 rfl st.hR st.r41) ?_
   refine g3 ?_
   refine rt (rfa 41) ?_
   refine rt (rld 1 rfl st.hR st.r41) ?_
   refine g3 ?_
   refine rt (rfa 4) ?_
   refine g1 ?_
   refine gL (sto 0 rfl rfl st.hB st.h4 ?_)
   refine g1 ?_
   refine aO (ι := Int) ((1439 - (s.h * 60 + s.mi)) / r.interval * r.interval) (⟨by unfold dT; rw [hso, hsl, if_pos hflt, show (1440 : Int) - 1 - (s.h * 60 + s.mi) = 1439 - (s.h * 60 + s.mi) by omega], by omega, by omega⟩) kns (fun w s => by exact s.low 40 (st.lim.aJ1 dE dE) agx agx agx)
  ·have hflt : flt = false := hc2
   refine g1 ?_
   refine aO (ι := Int) (0) (⟨by unfold dT; rw [hso, if_neg (by rw [hflt]; decide)], by omega, by omega⟩) kns (fun w s => by exact by rw [Int.add_zero]; exact Sees.again (k := 0) (o := 4) s st.hB dE st.h4)
 rintro j0 hj0
 show GC _ _ _ _ [(0, pT it), (2, pT rb), (6, .bool flt), (42, .bool false)] _ _ (B) (((ky 0 4, iV (s.mi + j0)) :: H)) (S)
 refine g2 ?_
 refine bJ (ι := (Nat) × (Int) × (Int) × (Int) × (Bool)) (fun | ⟨k, hh, mm, dd, fx⟩ => K - k) (fun | ⟨k, hh, mm, dd, fx⟩ => (k < K) ∧ (hh * 60 + mm + (dd - s.d) * 1440 = (dT r flt s + (k : Int) * r.interval)) ∧ ((0 ≤ hh ∧ hh ≤ 23) ∧ 0 ≤ mm ∧ mm ≤ 1500) ∧ (fx = false → dd = s.d) ∧ (s.d ≤ dd)) (fun | ⟨k, hh, mm, dd, fx⟩ => [(0, pT it), (2, pT rb), (6, .bool flt), (42, .bool fx)]) (fun | ⟨k, hh, mm, dd, fx⟩ => B) (fun | ⟨k, hh, mm, dd, fx⟩ => ((ky 0 2, iV dd) :: (ky 0 3, iV hh) :: (ky 0 4, iV mm) :: H)) (fun | ⟨k, hh, mm, dd, fx⟩ => S) ⟨0, s.h, s.mi + j0, s.d, false⟩ ⟨by omega, by omega, by omega, fun _ => rfl, Int.le_refl _⟩ kns (fun w s => by exact Sees.low 40 (Sees.again (k := 0) (o := 2) (Sees.again (k := 0) (o := 3) s st.hB dE st.h3) st.hB dE st.h2) ((((st.lim.aJ1 dE dE).aJ1 dE dE).aJ1 dE dE)) agx agx agx) ?_
 rintro ⟨k, hh, mm, dd, fx⟩ ⟨hk, hT, hru, hfx, hdd⟩
 show GC _ _ _ _ [(0, pT it), (2, pT rb), (6, .bool flt), (42, .bool fx)] _ _ (B) (((ky 0 2, iV dd) :: (ky 0 3, iV hh) :: (ky 0 4, iV mm) :: H)) (S)
 refine g2 ?_
 have hst1 : (dT r flt s + ((k + 1 : Nat) : Int) * r.interval) = (dT r flt s + (k : Int) * r.interval) + r.interval := by rw [show ((k + 1 : Nat) : Int) = (k : Int) + 1 by omega]; exact aA1
 have hkb : 0 ≤ (k : Int) * r.interval ∧ (k : Int) * r.interval ≤ 1440 * 1000 := ⟨Int.mul_nonneg oM oM, Int.le_trans (Int.mul_le_mul_of_nonneg_right (show (k : Int) ≤ 1440 by omega) oM) (Int.mul_le_mul_of_nonneg_left oM dE)⟩
 refine dL 11 kR kR ?_
 refine g2 ?_
 refine rt (rfa 4) ?_
 refine rt (rld 0 rfl st.hB rfl) ?_
 refine g2 ?_
 refine rt (rfa 41) ?_
 refine rt (rld 1 rfl st.hR st.r41) ?_
 refine g2 ?_
 refine rt (rfa 4) ?_
 refine g1 ?_
 refine gL (sto 0 rfl rfl st.hB rfl ?_)
 refine g6 ?_
 refine rl (rfa 4) ?_
 refine rl (rld 0 rfl st.hB rfl) ?_
 refine gL (cvo rfl (fun w_ s_ => gF _ _ oM oM w_) ?_)
 refine g7 ?_
 refine cV (ι := (Int) × (Int) × (Int) × (Bool)) (fun | ⟨hh2, mm2, d2, f2⟩ => (hh2 * 60 + mm2 + (d2 - s.d) * 1440 = (dT r flt s + ((k + 1 : Nat) : Int) * r.interval)) ∧ ((0 ≤ hh2 ∧ hh2 ≤ 23) ∧ (0 ≤ mm2 ∧ mm2 ≤ 59)) ∧ (f2 = false → d2 = s.d) ∧ (s.d ≤ d2)) (fun | ⟨hh2, mm2, d2, f2⟩ => [(0, pT it), (2, pT rb), (6, .bool flt), (42, .bool f2)]) (fun | ⟨hh2, mm2, d2, f2⟩ => B) (fun | ⟨hh2, mm2, d2, f2⟩ => ((ky 0 2, iV d2) :: (ky 0 3, iV hh2) :: (ky 0 4, iV mm2) :: H)) (fun | ⟨hh2, mm2, d2, f2⟩ => S) ?_ ?_
 ·refine g6 ?_
  refine aB rfl (fun hc1 => ?_) (fun hc2 => ?_)
  ·have hc_ : (mm + r.interval) / 60 ≠ 0 := bne_iff_ne.1 hc1
   refine g5 ?_
   refine rl (rfa 4) ?_
   refine gL (sto 0 rfl rfl st.hB rfl ?_)
   refine g6 ?_
   refine rl (rfa 3) ?_
   refine rZ3 (rld 0 rfl st.hB rfl) ?_
   refine rl (rfa 3) ?_
   refine gL (sto 0 rfl rfl st.hB rfl ?_)
   refine g6 ?_
   refine rl (rfa 3) ?_
   refine rl (rld 0 rfl st.hB rfl) ?_
   refine gL (cvo rfl (fun w_ s_ => gF _ _ oM oM w_) ?_)
   refine g13 ?_
   refine aB rfl (fun hc1 => ?_) (fun hc2 => ?_)
   ·have hc2_ : (hh + (mm + r.interval) / 60) / 24 ≠ 0 := bne_iff_ne.1 hc1
    refine g5 ?_
    refine rl (rfa 3) ?_
    refine gL (sto 0 rfl rfl st.hB rfl ?_)
    refine g6 ?_
    refine rl (rfa 2) ?_
    refine rZ3 (rld 0 rfl st.hB rfl) ?_
    refine rl (rfa 2) ?_
    refine gL (sto 0 rfl rfl st.hB rfl ?_)
    refine g5 ?_
    refine aO (ι := Int × Int × Int × Bool) ⟨(hh + (mm + r.interval) / 60) % 24, (mm + r.interval) % 60, dd + (hh + (mm + r.interval) / 60) / 24, true⟩ ⟨by rw [hst1]; omega, by omega, (by intro h_; cases h_), by omega⟩ kns (fun w s => by exact s.low 40 ((((st.lim.aJ1 dE dE).aJ1 dE dE).aJ1 dE dE)) agx agx agx)
   ·have hc2_ : (hh + (mm + r.interval) / 60) / 24 = 0 := bne_eq_false_iff_eq.1 hc2
    refine g1 ?_
    refine aO (ι := Int × Int × Int × Bool) ⟨(hh + (mm + r.interval) / 60), (mm + r.interval) % 60, dd, fx⟩ ⟨by rw [hst1]; omega, by omega, (by exact hfx), by omega⟩ kns (fun w s => by exact s.low 40 ((((st.lim.aJ1 dE dE).aJ1 dE dE).aJ1 dE dE)) agx agx agx)
  ·have hc_ : (mm + r.interval) / 60 = 0 := bne_eq_false_iff_eq.1 hc2
   refine g1 ?_
   refine aO (ι := Int × Int × Int × Bool) ⟨hh, mm + r.interval, dd, fx⟩ ⟨by rw [hst1]; omega, by omega, (by exact hfx), by omega⟩ kns (fun w s => by exact s.low 40 ((((st.lim.aJ1 dE dE).aJ1 dE dE).aJ1 dE dE)) agx agx agx)
 rintro ⟨hh2, mm2, d2, f2⟩ ⟨hT2, hr2, hf2, hd2⟩
 show GC _ _ _ _ [(0, pT it), (2, pT rb), (6, .bool flt), (42, .bool f2)] _ _ (B) (((ky 0 2, iV d2) :: (ky 0 3, iV hh2) :: (ky 0 4, iV mm2) :: H)) (S)
 refine g1 ?_
 have hP : cS r (bS r.freq s ((dT r flt s + ((k + 1 : Nat) : Int) * r.interval) % dC r.freq)) = (aJ r.hour hh2 && aJ r.minute mm2) := by rw [ok5 hfr, hsl, show (dT r flt s + ((k + 1 : Nat) : Int) * r.interval) % 1440 / 60 = hh2 by omega, show (dT r flt s + ((k + 1 : Nat) : Int) * r.interval) % 1440 % 60 = mm2 by omega]
 refine g1 ?_
 refine qE [(0, pT it), (2, pT rb), (6, .bool flt), (42, .bool f2), (1104, .bool (aJ r.hour hh2 && aJ r.minute mm2))] ?_ ?_
 ·refine lC 17 [(0, pT it), (2, pT rb), (6, .bool flt), (42, .bool f2), (1085, .bool (aJ r.hour hh2))] ?_ ?_
  ·refine g2 ?_
   refine rm (rfa 54) ?_
   refine rm (rld 1 rfl st.hR st.r54) ?_
   refine g1 ?_
   by_cases hz : r.hour.length = 0
   ·refine rm ((aR rfl rfl).to eT) ?_
    refine g10 ?_
    refine rm ((aX rfl rfl rfl).to (v' := .bool (aJ r.hour hh2)) (by exact cB (eS hz).symm)) ?_
    exact bR kns
   ·refine rm ((aR rfl rfl).to eF) ?_
    refine g6 ?_
    refine rm (rfa 54) ?_
    refine g1 ?_
    refine rm (rld 1 rfl st.hR st.r54) ?_
    refine g5 ?_
    refine rm (rfa 3) ?_
    refine g1 ?_
    refine rm (rld 0 rfl st.hB rfl) ?_
    refine g1 ?_
    rcases bO (r.hour.any (· == hh2)) with hy_ | hy_
    ·refine bV (v := .bool true) dE kR rfl (fun w_ s_ => (aU r.hour hh2 _ st.hl54 w_ (st.hI54 _ _ _ w_ aG s_)).mono fun e_ w2_ h_ => ⟨h_.1.trans (cE hy_), h_.2⟩) ?_
     refine rm ((aX rfl rfl rfl).to (v' := .bool (aJ r.hour hh2)) (by exact cB (gE hy_).symm)) ?_
     exact bR kns
    ·refine bV (v := .bool false) dE kR rfl (fun w_ s_ => (aU r.hour hh2 _ st.hl54 w_ (st.hI54 _ _ _ w_ aG s_)).mono fun e_ w2_ h_ => ⟨h_.1.trans (cE hy_), h_.2⟩) ?_
     refine rm ((aX rfl rfl rfl).to (v' := .bool (aJ r.hour hh2)) (by exact cB (gW hz hy_).symm)) ?_
     exact bR kns
  ·rcases bO (aJ r.hour hh2) with hB0 | hB0
   ·refine rm ((bD rfl).to (v' := .bool true) (cB hB0)) ?_
    refine lC 17 [(0, pT it), (2, pT rb), (6, .bool flt), (42, .bool f2), (1086, .bool true), (1103, .bool (aJ r.minute mm2))] ?_ ?_
    ·refine g5 ?_
     refine rm (rfa 55) ?_
     refine g1 ?_
     refine rm (rld 1 rfl st.hR st.r55) ?_
     refine g3 ?_
     by_cases hz : r.minute.length = 0
     ·refine rm ((aR rfl rfl).to eT) ?_
      refine g12 ?_
      refine rm ((aX rfl rfl rfl).to (v' := .bool (aJ r.minute mm2)) (by exact cB (eS hz).symm)) ?_
      exact bR kns
     ·refine rm ((aR rfl rfl).to eF) ?_
      refine g7 ?_
      refine rm (rfa 55) ?_
      refine g1 ?_
      refine rm (rld 1 rfl st.hR st.r55) ?_
      refine g5 ?_
      refine rm (rfa 4) ?_
      refine g1 ?_
      refine rm (rld 0 rfl st.hB rfl) ?_
      refine g1 ?_
      rcases bO (r.minute.any (· == mm2)) with hy_ | hy_
      ·refine bV (v := .bool true) dE kR rfl (fun w_ s_ => (aU r.minute mm2 _ st.hl55 w_ (st.hI55 _ _ _ w_ aG s_)).mono fun e_ w2_ h_ => ⟨h_.1.trans (cE hy_), h_.2⟩) ?_
       refine g1 ?_
       refine rm ((aX rfl rfl rfl).to (v' := .bool (aJ r.minute mm2)) (by exact cB (gE hy_).symm)) ?_
       exact bR kns
      ·refine bV (v := .bool false) dE kR rfl (fun w_ s_ => (aU r.minute mm2 _ st.hl55 w_ (st.hI55 _ _ _ w_ aG s_)).mono fun e_ w2_ h_ => ⟨h_.1.trans (cE hy_), h_.2⟩) ?_
       refine g1 ?_
       refine rm ((aX rfl rfl rfl).to (v' := .bool (aJ r.minute mm2)) (by exact cB (gW hz hy_).symm)) ?_
       exact bR kns
    ·refine rm ((aX rfl rfl rfl).to (v' := .bool (aJ r.hour hh2 && aJ r.minute mm2)) (by rw [hB0]; rfl)) ?_
     exact bR kns
   ·refine rm ((bD rfl).to (v' := .bool false) (cB hB0)) ?_
    refine g16 ?_
    refine g1 ?_
    refine rm ((aX rfl rfl rfl).to (v' := .bool (aJ r.hour hh2 && aJ r.minute mm2)) (by rw [hB0]; rfl)) ?_
    exact bR kns
 ·refine g1 ?_
  refine aB rfl (fun hb => ?_) (fun hb => ?_)
  ·have hkK : k + 1 = K := by
    rcases Nat.lt_or_ge (k + 1) K with h_ | h_
    ·have h2_ := hKn (k + 1) oM h_
     rw [hP, hb] at h2_; cases h2_
    ·omega
   rw [hkK] at hT2
   refine g5 ?_
   refine dL 22 kR kR ?_
   refine g2 ?_
   refine rt (rfa 7) ?_
   refine g2 ?_
   refine rt (rfa 23) ?_
   refine g2 ?_
   refine rt (rfa 38) ?_
   refine rt (rld 1 rfl st.hR st.r38) ?_
   refine g2 ?_
   refine rt (rfa 3) ?_
   refine rt (rld 0 rfl st.hB rfl) ?_
   refine g2 ?_
   refine rt (rfa 4) ?_
   refine rt (rld 0 rfl st.hB rfl) ?_
   refine g2 ?_
   refine rt (rfa 5) ?_
   refine rt (rld 0 rfl st.hB st.h5) ?_
   refine g1 ?_
   refine gL (dR (ι := Option Addr × Nat) (fun _ => .tuple #[]) (fun _ => True) (fun _ => B) (fun y => (ky 0 23, .slice y.1 (Md.fill r { s with h := hh2, mi := mm2, d := d2 }).length y.2) :: ((ky 0 2, iV d2) :: (ky 0 3, iV hh2) :: (ky 0 4, iV mm2) :: H)) (fun y => (2, ⟨.slice y.1 (Md.fill r { s with h := hh2, mi := mm2, d := d2 }).length y.2, 57, 2, (Md.fill r { s with h := hh2, mi := mm2, d := d2 }).length, bN (Md.fill r { s with h := hh2, mi := mm2, d := d2 })⟩) :: S) dE kR rfl (fun w_ s_ => (rM (s := { s with h := hh2, mi := mm2, d := d2 }) (a := a) (⟨st.hB, st.hR, (lY st.lim), st.h0, st.h1, rfl, rfl, rfl, st.h5, st.h6, st.h7, st.h8, st.h9, st.h10, st.h11, st.h12, st.h13, st.h14, st.h15, st.h16, st.h17, st.h18, st.h19, st.h20, st.h21, st.h22, st.h23, st.h24, st.h25, st.h26, st.h27, st.h28, st.h29, st.hS0, st.hS1, st.hS2, st.hS3, st.hS4, st.hS5, st.hS6, st.hS7, st.hS8, st.hS9, st.hS10, st.hp20, st.hp21, st.hp22, st.c6, (fV st.frS), (fW st.frH), st.hq0, st.hq1, st.r38, st.r39, st.r40, st.r41, st.r42, st.r44, st.r45, st.r46, st.r47, st.r48, st.r49, st.r50, st.r51, st.r52, st.r53, st.r54, st.r55, st.r56, st.r57, st.r59, (st.hI46.to aG), (st.hI47.to aG), (st.hI48.to aG), (st.hI49.to aG), (st.hI50.to aG), (st.hI51.to aG), (st.hI52.to aG), (st.hI54.to aG), (st.hI55.to aG), (st.hI56.to aG), (st.hI57.to aG), st.hl46, st.hl47, st.hl48, st.hl49, st.hl50, st.hl51, st.hl52, st.hl54, st.hl55, st.hl56, st.hl57⟩ : St F w0 S0 H0 it rb r l { s with h := hh2, mi := mm2, d := d2 } a B ((ky 0 2, iV d2) :: (ky 0 3, iV hh2) :: (ky 0 4, iV mm2) :: H) S) hr sO sO sO htn hlm hls hfr w_ s_).mono fun e w' ⟨p, c, h1, h2⟩ => ⟨(p, c), trivial, h1, h2⟩) (fun | (pz, cz), _ => ?_))
   refine g2 ?_
   have hKm : (K : Int) * r.interval ≤ 1440 * 1000 := Int.le_trans (Int.mul_le_mul_of_nonneg_right (show (K : Int) ≤ 1440 by omega) oM) (Int.mul_le_mul_of_nonneg_left oM dE)
   have hadv : adv r flt s = fix r { s with h := hh2, mi := mm2, d := d2, ts := Md.fill r { s with h := hh2, mi := mm2, d := d2 } } := oB oM hK (n := { s with h := hh2, mi := mm2 }) (d := d2) (by unfold bS; rw [if_neg oM, if_pos hfr, hsl, show (dT r flt s + (K : Int) * r.interval) % 1440 / 60 = hh2 by omega, show (dT r flt s + (K : Int) * r.interval) % 1440 % 60 = mm2 by omega]) (by rw [hsl]; omega) rfl
   have st2 : St F w0 S0 H0 it rb r l { s with h := hh2, mi := mm2, d := d2, ts := Md.fill r { s with h := hh2, mi := mm2, d := d2 } } { a with tp := pz, tc := cz } B ((ky 0 23, .slice pz (Md.fill r { s with h := hh2, mi := mm2, d := d2 }).length cz) :: ((ky 0 2, iV d2) :: (ky 0 3, iV hh2) :: (ky 0 4, iV mm2) :: H)) ((2, ⟨.slice pz (Md.fill r { s with h := hh2, mi := mm2, d := d2 }).length cz, 57, 2, (Md.fill r { s with h := hh2, mi := mm2, d := d2 }).length, bN (Md.fill r { s with h := hh2, mi := mm2, d := d2 })⟩) :: S) := ⟨st.hB, st.hR, (lY st.lim), st.h0, st.h1, rfl, rfl, rfl, st.h5, st.h6, st.h7, st.h8, st.h9, st.h10, st.h11, st.h12, st.h13, st.h14, st.h15, st.h16, st.h17, st.h18, st.h19, st.h20, st.h21, st.h22, rfl, st.h24, st.h25, st.h26, st.h27, st.h28, st.h29, st.hS0, st.hS1, rfl, st.hS3, st.hS4, st.hS5, st.hS6, st.hS7, st.hS8, st.hS9, st.hS10, st.hp20, st.hp21, st.hp22, st.c6, (fV st.frS), (fW st.frH), st.hq0, st.hq1, st.r38, st.r39, st.r40, st.r41, st.r42, st.r44, st.r45, st.r46, st.r47, st.r48, st.r49, st.r50, st.r51, st.r52, st.r53, st.r54, st.r55, st.r56, st.r57, st.r59, (st.hI46.to aG), (st.hI47.to aG), (st.hI48.to aG), (st.hI49.to aG), (st.hI50.to aG), (st.hI51.to aG), (st.hI52.to aG), (st.hI54.to aG), (st.hI55.to aG), (st.hI56.to aG), (st.hI57.to aG), st.hl46, st.hl47, st.hl48, st.hl49, st.hl50, st.hl51, st.hl52, st.hl54, st.hl55, st.hl56, st.hl57⟩
   refine dO (L' := [(0, pT it), (2, pT rb), (6, .bool flt), (42, .bool f2)]) kns (fun w s => s) ?_
   cases f2
   ·have hd0_ : d2 = s.d := hf2 rfl
    have hfix : fix r { s with h := hh2, mi := mm2, d := d2, ts := Md.fill r { s with h := hh2, mi := mm2, d := d2 } } = { s with h := hh2, mi := mm2, d := d2, ts := Md.fill r { s with h := hh2, mi := mm2, d := d2 } } := by unfold fix; rw [if_pos (.inr (by show d2 ≤ Cal.mdays s.mo s.y; omega))]
    refine lJ ?_
    refine jP kns (fun w s => s) (hn _ _ _ _ (hadv.trans hfix).symm hfin st2)
   ·refine dO (L' := [(0, pT it), (2, pT rb), (42, .bool true)]) kns (fun w s => s) ?_
    refine l0 (s := { s with h := hh2, mi := mm2, d := d2, ts := Md.fill r { s with h := hh2, mi := mm2, d := d2 } }) (a := { a with tp := pz, tc := cz }) (H := ((ky 0 23, .slice pz (Md.fill r { s with h := hh2, mi := mm2, d := d2 }).length cz) :: ((ky 0 2, iV d2) :: (ky 0 3, iV hh2) :: (ky 0 4, iV mm2) :: H))) (S := ((2, ⟨.slice pz (Md.fill r { s with h := hh2, mi := mm2, d := d2 }).length cz, 57, 2, (Md.fill r { s with h := hh2, mi := mm2, d := d2 }).length, bN (Md.fill r { s with h := hh2, mi := mm2, d := d2 })⟩) :: S)) st2 hr hw0 hd0 he0 hwn hnw hea sO hmo hy hly hfin (fun o a' H' S' ho => hn o a' H' S' (ho.trans hadv.symm)) (fun o a' H' S' ho => hq o a' H' S' (ho.trans hadv.symm))
  ·have hkK : k + 1 < K := by
    rcases Nat.lt_or_ge (k + 1) K with h_ | h_
    ·exact h_
    ·have e_ : K = k + 1 := by omega
     have h2_ := hKp
     rw [e_, hP, hb] at h2_; cases h2_
   refine g2 ?_
   refine aQ ⟨k + 1, hh2, mm2, d2, f2⟩ sO ⟨by omega, hT2, by omega, hf2, hd2⟩ kns (fun w s => by exact s)
theorem wP {Q : Exit → Act → World → Prop} {S0 : LS} {H0 : LV} {r : Ru} {l : Ra} {it rb : Nat} {s : It} {a : Ad} (st : St F w0 S0 H0 it rb r l s a B H S) (hr : RuOk r) (hw0 : r.weekno.length = 0) (hd0 : r.nwd.length = 0) (he0 : r.easter.length = 0) (hwn : s.wno = r.wnoF s.ly) (hnw : s.nwm = r.nwmF s.ly s.lm) (hea : s.eas = r.easF s.ly) (hy : 1 ≤ s.y ∧ s.y ≤ 9999) (hmo : 1 ≤ s.mo ∧ s.mo ≤ 12) (hd : 1 ≤ s.d ∧ s.d ≤ 31) (hwd : 0 ≤ s.wd ∧ s.wd ≤ 6) (hly : 1 ≤ s.ly ∧ s.ly ≤ 9999) (hfin : s.fin = false) (hfr : r.freq = 6) {flt : Bool} (hh : 0 ≤ s.h ∧ s.h ≤ 23) (hmi : 0 ≤ s.mi ∧ s.mi ≤ 59) (hse : 0 ≤ s.s ∧ s.s ≤ 59) (htn : s.ts.length ≤ 1000000000) (hlm : r.minute.length ≤ 100) (hls : r.second.length ≤ 100) (hdm : s.d ≤ Cal.mdays s.mo s.y) (hK : ∃ K, iK r flt s = some K ∧ (K : Int) ≤ dC r.freq)
  (hn : ∀ o a' H' S', o = adv r flt s → o.fin = false → St F w0 S0 H0 it rb r l o a' B H' S' → GE Q .normal 1418 [(0, pT it), (2, pT rb)] F w0 B H' S')
  (hq : ∀ o a' H' S', o = adv r flt s → o.fin = true → St F w0 S0 H0 it rb r l o a' B H' S' → GE Q .ret 1418 [] F w0 B H' S') : GC Tryz.prog (Go.Fr.part [1, 1, 0, 0, 1, 0, 1, 1, 1, 1, 1, 1] (Go.Fr.bodyOf Tryz.f96)) Q 1418 [(0, pT it), (2, pT rb), (6, .bool flt)] F w0 B H S := by
 have hiv := hr.interval
 obtain ⟨K, hK, hKb⟩ := hK
 have hsl : dC r.freq = 86400 := by rw [hfr]; rfl
 have hso : cK r.freq s = s.h * 3600 + s.mi * 60 + s.s := by rw [hfr]; rfl
 obtain ⟨hK1, hKp, hKn⟩ := kE (show lX _ _ _ = some K from hK)
 have hjb := sG (m := 86399 - (s.h * 3600 + s.mi * 60 + s.s)) (n := r.interval) oM oM
 refine g10 ?_
 refine rl (rfa 38) ?_
 refine rl (rld 1 rfl st.hR st.r38) ?_
 refine wZ7 ((aR rfl rfl).to (v' := .bool false) (cB (by rw [hfr]; rfl))) ?_
 refine rl (rfa 38) ?_
 refine rl (rld 1 rfl st.hR st.r38) ?_
 refine wZ7 ((aR rfl rfl).to (v' := .bool false) (cB (by rw [hfr]; rfl))) ?_
 refine rl (rfa 38) ?_
 refine rl (rld 1 rfl st.hR st.r38) ?_
 refine wZ7 ((aR rfl rfl).to (v' := .bool false) (cB (by rw [hfr]; rfl))) ?_
 refine rl (rfa 38) ?_
 refine rl (rld 1 rfl st.hR st.r38) ?_
 refine wZ7 ((aR rfl rfl).to (v' := .bool false) (cB (by rw [hfr]; rfl))) ?_
 refine rl (rfa 38) ?_
 refine rl (rld 1 rfl st.hR st.r38) ?_
 refine wZ7 ((aR rfl rfl).to (v' := .bool false) (cB (by rw [hfr]; rfl))) ?_
 refine rl (rfa 38) ?_
 refine rl (rld 1 rfl st.hR st.r38) ?_
 refine wZ7 ((aR rfl rfl).to (v' := .bool false) (cB (by rw [hfr]; rfl))) ?_
 refine rl (rfa 38) ?_
 refine rl (rld 1 rfl st.hR st.r38) ?_
 refine rl ((aR rfl rfl).to (v' := .bool true) (cB (by rw [hfr]; rfl))) ?_
 refine g2 ?_
 refine aY rfl rfl ?_
 refine cV (ι := (Int)) (fun j0 => (dT r flt s = s.h * 3600 + s.mi * 60 + s.s + j0 ∧ 0 ≤ j0 ∧ j0 ≤ 86399 - (s.h * 3600 + s.mi * 60 + s.s))) (fun j0 => [(0, pT it), (2, pT rb), (6, .bool flt), (42, .bool false)]) (fun j0 => B) (fun j0 => ((ky 0 5, iV (s.s + j0)) :: H)) (fun j0 => S) ?_ ?_
 ·refine g5 ?_
  refine aB rfl (fun hc1 => ?_) (fun hc2 => ?_)
  ·have hflt : flt = true := hc1
   refine dL 34 kR kR ?_
   refine g2 ?_
   refine rt (rfa 5) ?_
   refine rt (rld 0 rfl st.hB st.h5) ?_
   refine g2 ?_
   refine rt (rfa 3) ?_
   refine rt (rld 0 rfl st.hB st.h3) ?_
   refine g3 ?_
   refine rt (rfa 4) ?_
   refine rt (rld 0 rfl st.hB st.h4) ?_
   refine g4 ?_
   refine rt (rfa 5) ?_
   refine rt (rld 0 rfl st.hB st.h5) ?_
   refine g4 ?_
   refine rt (rfa 41) ?_
   refine rt (rld 1 rfl st.hR st.r41) ?_
   refine g3 ?_
   refine rt (rfa 41) ?_
   refine rt (rld 1 rfl st.hR st.r41) ?_
   refine g3 ?_
   refine rt (rfa 5) ?_
   refine g1 ?_
   refine gL (sto 0 rfl rfl st.hB st.h5 ?_)
   refine g1 ?_
   refine aO (ι := Int) ((86399 - (s.h * 3600 + s.mi * 60 + s.s)) / r.interval * r.interval) (⟨by unfold dT; rw [hso, hsl, if_pos hflt, show (86400 : Int) - 1 - (s.h * 3600 + s.mi * 60 + s.s) = 86399 - (s.h * 3600 + s.mi * 60 + s.s) by omega], by omega, by omega⟩) kns (fun w s => by exact s.low 40 (st.lim.aJ1 dE dE) agx agx agx)
  ·have hflt : flt = false := hc2
   refine g1 ?_
   refine aO (ι := Int) (0) (⟨by unfold dT; rw [hso, if_neg (by rw [hflt]; decide)], by omega, by omega⟩) kns (fun w s => by exact by rw [Int.add_zero]; exact Sees.again (k := 0) (o := 5) s st.hB dE st.h5)
 rintro j0 hj0
 show GC _ _ _ _ [(0, pT it), (2, pT rb), (6, .bool flt), (42, .bool false)] _ _ (B) (((ky 0 5, iV (s.s + j0)) :: H)) (S)
 refine g2 ?_
 refine bJ (ι := (Nat) × (Int) × (Int) × (Int) × (Int) × (Bool)) (fun | ⟨k, hh, mm, ss, dd, fx⟩ => K - k) (fun | ⟨k, hh, mm, ss, dd, fx⟩ => (k < K) ∧ (hh * 3600 + mm * 60 + ss + (dd - s.d) * 86400 = (dT r flt s + (k : Int) * r.interval)) ∧ ((0 ≤ hh ∧ hh ≤ 23) ∧ (0 ≤ mm ∧ mm ≤ 59) ∧ 0 ≤ ss ∧ ss ≤ 90000) ∧ (fx = false → dd = s.d) ∧ (s.d ≤ dd)) (fun | ⟨k, hh, mm, ss, dd, fx⟩ => [(0, pT it), (2, pT rb), (6, .bool flt), (42, .bool fx)]) (fun | ⟨k, hh, mm, ss, dd, fx⟩ => B) (fun | ⟨k, hh, mm, ss, dd, fx⟩ => ((ky 0 2, iV dd) :: (ky 0 3, iV hh) :: (ky 0 4, iV mm) :: (ky 0 5, iV ss) :: H)) (fun | ⟨k, hh, mm, ss, dd, fx⟩ => S) ⟨0, s.h, s.mi, s.s + j0, s.d, false⟩ ⟨by omega, by omega, by omega, fun _ => rfl, Int.le_refl _⟩ kns (fun w s => by exact Sees.low 40 (Sees.again (k := 0) (o := 2) (Sees.again (k := 0) (o := 3) (Sees.again (k := 0) (o := 4) s st.hB dE st.h4) st.hB dE st.h3) st.hB dE st.h2) (((((st.lim.aJ1 dE dE).aJ1 dE dE).aJ1 dE dE).aJ1 dE dE)) agx agx agx) ?_
 rintro ⟨k, hh, mm, ss, dd, fx⟩ ⟨hk, hT, hru, hfx, hdd⟩
 show GC _ _ _ _ [(0, pT it), (2, pT rb), (6, .bool flt), (42, .bool fx)] _ _ (B) (((ky 0 2, iV dd) :: (ky 0 3, iV hh) :: (ky 0 4, iV mm) :: (ky 0 5, iV ss) :: H)) (S)
 refine g2 ?_
 have hst1 : (dT r flt s + ((k + 1 : Nat) : Int) * r.interval) = (dT r flt s + (k : Int) * r.interval) + r.interval := by rw [show ((k + 1 : Nat) : Int) = (k : Int) + 1 by omega]; exact aA1
 have hkb : 0 ≤ (k : Int) * r.interval ∧ (k : Int) * r.interval ≤ 86400 * 1000 := ⟨Int.mul_nonneg oM oM, Int.le_trans (Int.mul_le_mul_of_nonneg_right (show (k : Int) ≤ 86400 by omega) oM) (Int.mul_le_mul_of_nonneg_left oM dE)⟩
 refine dL 11 kR kR ?_
 refine g2 ?_
 refine rt (rfa 5) ?_
 refine rt (rld 0 rfl st.hB rfl) ?_
 refine g2 ?_
 refine rt (rfa 41) ?_
 refine rt (rld 1 rfl st.hR st.r41) ?_
 refine g2 ?_
 refine rt (rfa 5) ?_
 refine g1 ?_
 refine gL (sto 0 rfl rfl st.hB rfl ?_)
 refine g6 ?_
 refine rl (rfa 5) ?_
 refine rl (rld 0 rfl st.hB rfl) ?_
 refine gL (cvo rfl (fun w_ s_ => gF _ _ oM oM w_) ?_)
 refine g7 ?_
 refine cV (ι := (Int) × (Int) × (Int) × (Int) × (Bool)) (fun | ⟨hh2, mm2, ss2, d2, f2⟩ => (hh2 * 3600 + mm2 * 60 + ss2 + (d2 - s.d) * 86400 = (dT r flt s + ((k + 1 : Nat) : Int) * r.interval)) ∧ ((0 ≤ hh2 ∧ hh2 ≤ 23) ∧ (0 ≤ mm2 ∧ mm2 ≤ 59) ∧ (0 ≤ ss2 ∧ ss2 ≤ 59)) ∧ (f2 = false → d2 = s.d) ∧ (s.d ≤ d2)) (fun | ⟨hh2, mm2, ss2, d2, f2⟩ => [(0, pT it), (2, pT rb), (6, .bool flt), (42, .bool f2)]) (fun | ⟨hh2, mm2, ss2, d2, f2⟩ => B) (fun | ⟨hh2, mm2, ss2, d2, f2⟩ => ((ky 0 2, iV d2) :: (ky 0 3, iV hh2) :: (ky 0 4, iV mm2) :: (ky 0 5, iV ss2) :: H)) (fun | ⟨hh2, mm2, ss2, d2, f2⟩ => S) ?_ ?_
 ·refine g6 ?_
  refine aB rfl (fun hc1 => ?_) (fun hc2 => ?_)
  ·have hc_ : (ss + r.interval) / 60 ≠ 0 := bne_iff_ne.1 hc1
   refine g5 ?_
   refine rl (rfa 5) ?_
   refine gL (sto 0 rfl rfl st.hB rfl ?_)
   refine g6 ?_
   refine rl (rfa 4) ?_
   refine rZ3 (rld 0 rfl st.hB rfl) ?_
   refine rl (rfa 4) ?_
   refine gL (sto 0 rfl rfl st.hB rfl ?_)
   refine g6 ?_
   refine rl (rfa 4) ?_
   refine rl (rld 0 rfl st.hB rfl) ?_
   refine gL (cvo rfl (fun w_ s_ => gF _ _ oM oM w_) ?_)
   refine g13 ?_
   refine aB rfl (fun hc1 => ?_) (fun hc2 => ?_)
   ·have hc2_ : (mm + (ss + r.interval) / 60) / 60 ≠ 0 := bne_iff_ne.1 hc1
    refine g5 ?_
    refine rl (rfa 4) ?_
    refine gL (sto 0 rfl rfl st.hB rfl ?_)
    refine g6 ?_
    refine rl (rfa 3) ?_
    refine rZ3 (rld 0 rfl st.hB rfl) ?_
    refine rl (rfa 3) ?_
    refine gL (sto 0 rfl rfl st.hB rfl ?_)
    refine g6 ?_
    refine rl (rfa 3) ?_
    refine rl (rld 0 rfl st.hB rfl) ?_
    refine gL (cvo rfl (fun w_ s_ => gF _ _ oM oM w_) ?_)
    refine g13 ?_
    refine aB rfl (fun hc1 => ?_) (fun hc2 => ?_)
    ·have hc3_ : (hh + (mm + (ss + r.interval) / 60) / 60) / 24 ≠ 0 := bne_iff_ne.1 hc1
     refine g5 ?_
     refine rl (rfa 3) ?_
     refine gL (sto 0 rfl rfl st.hB rfl ?_)
     refine g6 ?_
     refine rl (rfa 2) ?_
     refine rZ3 (rld 0 rfl st.hB rfl) ?_
     refine rl (rfa 2) ?_
     refine gL (sto 0 rfl rfl st.hB rfl ?_)
     refine g5 ?_
     refine aO (ι := Int × Int × Int × Int × Bool) ⟨(hh + (mm + (ss + r.interval) / 60) / 60) % 24, (mm + (ss + r.interval) / 60) % 60, (ss + r.interval) % 60, dd + (hh + (mm + (ss + r.interval) / 60) / 60) / 24, true⟩ ⟨by rw [hst1]; omega, by omega, (by intro h_; cases h_), by omega⟩ kns (fun w s => by exact s.low 40 (((((st.lim.aJ1 dE dE).aJ1 dE dE).aJ1 dE dE).aJ1 dE dE)) agx agx agx)
    ·have hc3_ : (hh + (mm + (ss + r.interval) / 60) / 60) / 24 = 0 := bne_eq_false_iff_eq.1 hc2
     refine g1 ?_
     refine aO (ι := Int × Int × Int × Int × Bool) ⟨(hh + (mm + (ss + r.interval) / 60) / 60), (mm + (ss + r.interval) / 60) % 60, (ss + r.interval) % 60, dd, fx⟩ ⟨by rw [hst1]; omega, by omega, (by exact hfx), by omega⟩ kns (fun w s => by exact s.low 40 (((((st.lim.aJ1 dE dE).aJ1 dE dE).aJ1 dE dE).aJ1 dE dE)) agx agx agx)
   ·have hc2_ : (mm + (ss + r.interval) / 60) / 60 = 0 := bne_eq_false_iff_eq.1 hc2
    refine g1 ?_
    refine aO (ι := Int × Int × Int × Int × Bool) ⟨hh, (mm + (ss + r.interval) / 60), (ss + r.interval) % 60, dd, fx⟩ ⟨by rw [hst1]; omega, by omega, (by exact hfx), by omega⟩ kns (fun w s => by exact s.low 40 (((((st.lim.aJ1 dE dE).aJ1 dE dE).aJ1 dE dE).aJ1 dE dE)) agx agx agx)
  ·have hc_ : (ss + r.interval) / 60 = 0 := bne_eq_false_iff_eq.1 hc2
   refine g1 ?_
   refine aO (ι := Int × Int × Int × Int × Bool) ⟨hh, mm, ss + r.interval, dd, fx⟩ ⟨by rw [hst1]; omega, by omega, (by exact hfx), by omega⟩ kns (fun w s => by exact s.low 40 (((((st.lim.aJ1 dE dE).aJ1 dE dE).aJ1 dE dE).aJ1 dE dE)) agx agx agx)
 rintro ⟨hh2, mm2, ss2, d2, f2⟩ ⟨hT2, hr2, hf2, hd2⟩
 show GC _ _ _ _ [(0, pT it), (2, pT rb), (6, .bool flt), (42, .bool f2)] _ _ (B) (((ky 0 2, iV d2) :: (ky 0 3, iV hh2) :: (ky 0 4, iV mm2) :: (ky 0 5, iV ss2) :: H)) (S)
 refine g1 ?_
 have hP : cS r (bS r.freq s ((dT r flt s + ((k + 1 : Nat) : Int) * r.interval) % dC r.freq)) = ((aJ r.hour hh2 && aJ r.minute mm2) && aJ r.second ss2) := by rw [ok6 hfr, hsl, show (dT r flt s + ((k + 1 : Nat) : Int) * r.interval) % 86400 / 3600 = hh2 by omega, show (dT r flt s + ((k + 1 : Nat) : Int) * r.interval) % 86400 / 60 % 60 = mm2 by omega, show (dT r flt s + ((k + 1 : Nat) : Int) * r.interval) % 86400 % 60 = ss2 by omega]
 refine g1 ?_
 refine qE [(0, pT it), (2, pT rb), (6, .bool flt), (42, .bool f2), (1299, .bool ((aJ r.hour hh2 && aJ r.minute mm2) && aJ r.second ss2))] ?_ ?_
 ·refine lC 17 [(0, pT it), (2, pT rb), (6, .bool flt), (42, .bool f2), (1261, .bool (aJ r.hour hh2))] ?_ ?_
  ·refine g2 ?_
   refine rm (rfa 54) ?_
   refine rm (rld 1 rfl st.hR st.r54) ?_
   refine g1 ?_
   by_cases hz : r.hour.length = 0
   ·refine rm ((aR rfl rfl).to eT) ?_
    refine g10 ?_
    refine rm ((aX rfl rfl rfl).to (v' := .bool (aJ r.hour hh2)) (by exact cB (eS hz).symm)) ?_
    exact bR kns
   ·refine rm ((aR rfl rfl).to eF) ?_
    refine g6 ?_
    refine rm (rfa 54) ?_
    refine g1 ?_
    refine rm (rld 1 rfl st.hR st.r54) ?_
    refine g5 ?_
    refine rm (rfa 3) ?_
    refine g1 ?_
    refine rm (rld 0 rfl st.hB rfl) ?_
    refine g1 ?_
    rcases bO (r.hour.any (· == hh2)) with hy_ | hy_
    ·refine bV (v := .bool true) dE kR rfl (fun w_ s_ => (aU r.hour hh2 _ st.hl54 w_ (st.hI54 _ _ _ w_ aG s_)).mono fun e_ w2_ h_ => ⟨h_.1.trans (cE hy_), h_.2⟩) ?_
     refine rm ((aX rfl rfl rfl).to (v' := .bool (aJ r.hour hh2)) (by exact cB (gE hy_).symm)) ?_
     exact bR kns
    ·refine bV (v := .bool false) dE kR rfl (fun w_ s_ => (aU r.hour hh2 _ st.hl54 w_ (st.hI54 _ _ _ w_ aG s_)).mono fun e_ w2_ h_ => ⟨h_.1.trans (cE hy_), h_.2⟩) ?_
     refine rm ((aX rfl rfl rfl).to (v' := .bool (aJ r.hour hh2)) (by exact cB (gW hz hy_).symm)) ?_
     exact bR kns
  ·rcases bO (aJ r.hour hh2) with hB0 | hB0
   ·refine rm ((bD rfl).to (v' := .bool true) (cB hB0)) ?_
    refine lC 17 [(0, pT it), (2, pT rb), (6, .bool flt), (42, .bool f2), (1262, .bool true), (1279, .bool (aJ r.minute mm2))] ?_ ?_
    ·refine g5 ?_
     refine rm (rfa 55) ?_
     refine g1 ?_
     refine rm (rld 1 rfl st.hR st.r55) ?_
     refine g3 ?_
     by_cases hz : r.minute.length = 0
     ·refine rm ((aR rfl rfl).to eT) ?_
      refine g12 ?_
      refine rm ((aX rfl rfl rfl).to (v' := .bool (aJ r.minute mm2)) (by exact cB (eS hz).symm)) ?_
      exact bR kns
     ·refine rm ((aR rfl rfl).to eF) ?_
      refine g7 ?_
      refine rm (rfa 55) ?_
      refine g1 ?_
      refine rm (rld 1 rfl st.hR st.r55) ?_
      refine g5 ?_
      refine rm (rfa 4) ?_
      refine g1 ?_
      refine rm (rld 0 rfl st.hB rfl) ?_
      refine g1 ?_
      rcases bO (r.minute.any (· == mm2)) with hy_ | hy_
      ·refine bV (v := .bool true) dE kR rfl (fun w_ s_ => (aU r.minute mm2 _ st.hl55 w_ (st.hI55 _ _ _ w_ aG s_)).mono fun e_ w2_ h_ => ⟨h_.1.trans (cE hy_), h_.2⟩) ?_
       refine g1 ?_
       refine rm ((aX rfl rfl rfl).to (v' := .bool (aJ r.minute mm2)) (by exact cB (gE hy_).symm)) ?_
       exact bR kns
      ·refine bV (v := .bool false) dE kR rfl (fun w_ s_ => (aU r.minute mm2 _ st.hl55 w_ (st.hI55 _ _ _ w_ aG s_)).mono fun e_ w2_ h_ => ⟨h_.1.trans (cE hy_), h_.2⟩) ?_
       refine g1 ?_
       refine rm ((aX rfl rfl rfl).to (v' := .bool (aJ r.minute mm2)) (by exact cB (gW hz hy_).symm)) ?_
       exact bR kns
    ·refine rm ((aX rfl rfl rfl).to (v' := .bool (aJ r.hour hh2 && aJ r.minute mm2)) (by rw [hB0]; rfl)) ?_
     rcases bO (aJ r.hour hh2 && aJ r.minute mm2) with hB1 | hB1
     ·refine rm ((bD rfl).to (v' := .bool true) (cB hB1)) ?_
      refine lC 17 [(0, pT it), (2, pT rb), (6, .bool flt), (42, .bool f2), (1281, .bool true), (1298, .bool (aJ r.second ss2))] ?_ ?_
      ·refine g5 ?_
       refine rm (rfa 56) ?_
       refine g1 ?_
       refine rm (rld 1 rfl st.hR st.r56) ?_
       refine g3 ?_
       by_cases hz : r.second.length = 0
       ·refine rm ((aR rfl rfl).to eT) ?_
        refine g12 ?_
        refine rm ((aX rfl rfl rfl).to (v' := .bool (aJ r.second ss2)) (by exact cB (eS hz).symm)) ?_
        exact bR kns
       ·refine rm ((aR rfl rfl).to eF) ?_
        refine g7 ?_
        refine rm (rfa 56) ?_
        refine g1 ?_
        refine rm (rld 1 rfl st.hR st.r56) ?_
        refine g5 ?_
        refine rm (rfa 5) ?_
        refine g1 ?_
        refine rm (rld 0 rfl st.hB rfl) ?_
        refine g1 ?_
        rcases bO (r.second.any (· == ss2)) with hy_ | hy_
        ·refine bV (v := .bool true) dE kR rfl (fun w_ s_ => (aU r.second ss2 _ st.hl56 w_ (st.hI56 _ _ _ w_ aG s_)).mono fun e_ w2_ h_ => ⟨h_.1.trans (cE hy_), h_.2⟩) ?_
         refine g1 ?_
         refine rm ((aX rfl rfl rfl).to (v' := .bool (aJ r.second ss2)) (by exact cB (gE hy_).symm)) ?_
         exact bR kns
        ·refine bV (v := .bool false) dE kR rfl (fun w_ s_ => (aU r.second ss2 _ st.hl56 w_ (st.hI56 _ _ _ w_ aG s_)).mono fun e_ w2_ h_ => ⟨h_.1.trans (cE hy_), h_.2⟩) ?_
         refine g1 ?_
         refine rm ((aX rfl rfl rfl).to (v' := .bool (aJ r.second ss2)) (by exact cB (gW hz hy_).symm)) ?_
         exact bR kns
      ·refine rm ((aX rfl rfl rfl).to (v' := .bool ((aJ r.hour hh2 && aJ r.minute mm2) && aJ r.second ss2)) (by rw [hB1]; rfl)) ?_
       exact bR kns
     ·refine rm ((bD rfl).to (v' := .bool false) (cB hB1)) ?_
      refine g16 ?_
      refine g1 ?_
      refine rm ((aX rfl rfl rfl).to (v' := .bool ((aJ r.hour hh2 && aJ r.minute mm2) && aJ r.second ss2)) (by rw [hB1]; rfl)) ?_
      exact bR kns
   ·refine rm ((bD rfl).to (v' := .bool false) (cB hB0)) ?_
    refine g30 ?_
    refine g6 ?_
    refine rm ((aX rfl rfl rfl).to (v' := .bool ((aJ r.hour hh2 && aJ r.minute mm2) && aJ r.second ss2)) (by rw [hB0]; rfl)) ?_
    exact bR kns
 ·refine g1 ?_
  refine aB rfl (fun hb => ?_) (fun hb => ?_)
  ·have hkK : k + 1 = K := by
    rcases Nat.lt_or_ge (k + 1) K with h_ | h_
    ·have h2_ := hKn (k + 1) oM h_
     rw [hP, hb] at h2_; cases h2_
    ·omega
   rw [hkK] at hT2
   refine g5 ?_
   refine dL 22 kR kR ?_
   refine g2 ?_
   refine rt (rfa 7) ?_
   refine g2 ?_
   refine rt (rfa 23) ?_
   refine g2 ?_
   refine rt (rfa 38) ?_
   refine rt (rld 1 rfl st.hR st.r38) ?_
   refine g2 ?_
   refine rt (rfa 3) ?_
   refine rt (rld 0 rfl st.hB rfl) ?_
   refine g2 ?_
   refine rt (rfa 4) ?_
   refine rt (rld 0 rfl st.hB rfl) ?_
   refine g2 ?_
   refine rt (rfa 5) ?_
   refine rt (rld 0 rfl st.hB rfl) ?_
   refine g1 ?_
   refine gL (dR (ι := Option Addr × Nat) (fun _ => .tuple #[]) (fun _ => True) (fun _ => B) (fun y => (ky 0 23, .slice y.1 (Md.fill r { s with h := hh2, mi := mm2, s := ss2, d := d2 }).length y.2) :: ((ky 0 2, iV d2) :: (ky 0 3, iV hh2) :: (ky 0 4, iV mm2) :: (ky 0 5, iV ss2) :: H)) (fun y => (2, ⟨.slice y.1 (Md.fill r { s with h := hh2, mi := mm2, s := ss2, d := d2 }).length y.2, 57, 2, (Md.fill r { s with h := hh2, mi := mm2, s := ss2, d := d2 }).length, bN (Md.fill r { s with h := hh2, mi := mm2, s := ss2, d := d2 })⟩) :: S) dE kR rfl (fun w_ s_ => (rI (s := { s with h := hh2, mi := mm2, s := ss2, d := d2 }) (a := a) (⟨st.hB, st.hR, (lY st.lim), st.h0, st.h1, rfl, rfl, rfl, rfl, st.h6, st.h7, st.h8, st.h9, st.h10, st.h11, st.h12, st.h13, st.h14, st.h15, st.h16, st.h17, st.h18, st.h19, st.h20, st.h21, st.h22, st.h23, st.h24, st.h25, st.h26, st.h27, st.h28, st.h29, st.hS0, st.hS1, st.hS2, st.hS3, st.hS4, st.hS5, st.hS6, st.hS7, st.hS8, st.hS9, st.hS10, st.hp20, st.hp21, st.hp22, st.c6, (fV st.frS), (fW st.frH), st.hq0, st.hq1, st.r38, st.r39, st.r40, st.r41, st.r42, st.r44, st.r45, st.r46, st.r47, st.r48, st.r49, st.r50, st.r51, st.r52, st.r53, st.r54, st.r55, st.r56, st.r57, st.r59, (st.hI46.to aG), (st.hI47.to aG), (st.hI48.to aG), (st.hI49.to aG), (st.hI50.to aG), (st.hI51.to aG), (st.hI52.to aG), (st.hI54.to aG), (st.hI55.to aG), (st.hI56.to aG), (st.hI57.to aG), st.hl46, st.hl47, st.hl48, st.hl49, st.hl50, st.hl51, st.hl52, st.hl54, st.hl55, st.hl56, st.hl57⟩ : St F w0 S0 H0 it rb r l { s with h := hh2, mi := mm2, s := ss2, d := d2 } a B ((ky 0 2, iV d2) :: (ky 0 3, iV hh2) :: (ky 0 4, iV mm2) :: (ky 0 5, iV ss2) :: H) S) hr sO sO sO htn hlm hls hfr w_ s_).mono fun e w' ⟨p, c, h1, h2⟩ => ⟨(p, c), trivial, h1, h2⟩) (fun | (pz, cz), _ => ?_))
   refine g2 ?_
   have hKm : (K : Int) * r.interval ≤ 86400 * 1000 := Int.le_trans (Int.mul_le_mul_of_nonneg_right (show (K : Int) ≤ 86400 by omega) oM) (Int.mul_le_mul_of_nonneg_left oM dE)
   have hadv : adv r flt s = fix r { s with h := hh2, mi := mm2, s := ss2, d := d2, ts := Md.fill r { s with h := hh2, mi := mm2, s := ss2, d := d2 } } := oB oM hK (n := { s with h := hh2, mi := mm2, s := ss2 }) (d := d2) (by unfold bS; rw [if_neg oM, if_neg oM, hsl, show (dT r flt s + (K : Int) * r.interval) % 86400 / 3600 = hh2 by omega, show (dT r flt s + (K : Int) * r.interval) % 86400 / 60 % 60 = mm2 by omega, show (dT r flt s + (K : Int) * r.interval) % 86400 % 60 = ss2 by omega]) (by rw [hsl]; omega) rfl
   have st2 : St F w0 S0 H0 it rb r l { s with h := hh2, mi := mm2, s := ss2, d := d2, ts := Md.fill r { s with h := hh2, mi := mm2, s := ss2, d := d2 } } { a with tp := pz, tc := cz } B ((ky 0 23, .slice pz (Md.fill r { s with h := hh2, mi := mm2, s := ss2, d := d2 }).length cz) :: ((ky 0 2, iV d2) :: (ky 0 3, iV hh2) :: (ky 0 4, iV mm2) :: (ky 0 5, iV ss2) :: H)) ((2, ⟨.slice pz (Md.fill r { s with h := hh2, mi := mm2, s := ss2, d := d2 }).length cz, 57, 2, (Md.fill r { s with h := hh2, mi := mm2, s := ss2, d := d2 }).length, bN (Md.fill r { s with h := hh2, mi := mm2, s := ss2, d := d2 })⟩) :: S) := ⟨st.hB, st.hR, (lY st.lim), st.h0, st.h1, rfl, rfl, rfl, rfl, st.h6, st.h7, st.h8, st.h9, st.h10, st.h11, st.h12, st.h13, st.h14, st.h15, st.h16, st.h17, st.h18, st.h19, st.h20, st.h21, st.h22, rfl, st.h24, st.h25, st.h26, st.h27, st.h28, st.h29, st.hS0, st.hS1, rfl, st.hS3, st.hS4, st.hS5, st.hS6, st.hS7, st.hS8, st.hS9, st.hS10, st.hp20, st.hp21, st.hp22, st.c6, (fV st.frS), (fW st.frH), st.hq0, st.hq1, st.r38, st.r39, st.r40, st.r41, st.r42, st.r44, st.r45, st.r46, st.r47, st.r48, st.r49, st.r50, st.r51, st.r52, st.r53, st.r54, st.r55, st.r56, st.r57, st.r59, (st.hI46.to aG), (st.hI47.to aG), (st.hI48.to aG), (st.hI49.to aG), (st.hI50.to aG), (st.hI51.to aG), (st.hI52.to aG), (st.hI54.to aG), (st.hI55.to aG), (st.hI56.to aG), (st.hI57.to aG), st.hl46, st.hl47, st.hl48, st.hl49, st.hl50, st.hl51, st.hl52, st.hl54, st.hl55, st.hl56, st.hl57⟩
   refine dO (L' := [(0, pT it), (2, pT rb), (6, .bool flt), (42, .bool f2)]) kns (fun w s => s) ?_
   cases f2
   ·have hd0_ : d2 = s.d := hf2 rfl
    have hfix : fix r { s with h := hh2, mi := mm2, s := ss2, d := d2, ts := Md.fill r { s with h := hh2, mi := mm2, s := ss2, d := d2 } } = { s with h := hh2, mi := mm2, s := ss2, d := d2, ts := Md.fill r { s with h := hh2, mi := mm2, s := ss2, d := d2 } } := by unfold fix; rw [if_pos (.inr (by show d2 ≤ Cal.mdays s.mo s.y; omega))]
    refine lJ ?_
    refine jP kns (fun w s => s) (hn _ _ _ _ (hadv.trans hfix).symm hfin st2)
   ·refine dO (L' := [(0, pT it), (2, pT rb), (42, .bool true)]) kns (fun w s => s) ?_
    refine l0 (s := { s with h := hh2, mi := mm2, s := ss2, d := d2, ts := Md.fill r { s with h := hh2, mi := mm2, s := ss2, d := d2 } }) (a := { a with tp := pz, tc := cz }) (H := ((ky 0 23, .slice pz (Md.fill r { s with h := hh2, mi := mm2, s := ss2, d := d2 }).length cz) :: ((ky 0 2, iV d2) :: (ky 0 3, iV hh2) :: (ky 0 4, iV mm2) :: (ky 0 5, iV ss2) :: H))) (S := ((2, ⟨.slice pz (Md.fill r { s with h := hh2, mi := mm2, s := ss2, d := d2 }).length cz, 57, 2, (Md.fill r { s with h := hh2, mi := mm2, s := ss2, d := d2 }).length, bN (Md.fill r { s with h := hh2, mi := mm2, s := ss2, d := d2 })⟩) :: S)) st2 hr hw0 hd0 he0 hwn hnw hea sO hmo hy hly hfin (fun o a' H' S' ho => hn o a' H' S' (ho.trans hadv.symm)) (fun o a' H' S' ho => hq o a' H' S' (ho.trans hadv.symm))
  ·have hkK : k + 1 < K := by
    rcases Nat.lt_or_ge (k + 1) K with h_ | h_
    ·exact h_
    ·have e_ : K = k + 1 := by omega
     have h2_ := hKp
     rw [e_, hP, hb] at h2_; cases h2_
   refine g2 ?_
   refine aQ ⟨k + 1, hh2, mm2, ss2, d2, f2⟩ sO ⟨by omega, hT2, by omega, hf2, hd2⟩ kns (fun w s => by exact s)
end
end Go.Proofs.YtdbbifbmkfmbkaaGreat
namespace Go.Proofs.YtdbbifbmkfmbkaaGreat
open Go.Md Go.Tab Go.Fr
theorem vD {p : Nat → Bool} : ∀ {f k K : Nat}, k ≤ K → K < k + f → p K = true → ∃ J, lX p f k = some J ∧ J ≤ K
 | 0, k, K, h1, h2, _ => by omega
 | f + 1, k, K, h1, h2, h3 => by
  unfold lX
  cases hp : p k with
  | true => exact ⟨k, by simp, h1⟩
  | false =>
   rcases Nat.eq_or_lt_of_le h1 with e | e
   ·subst e; rw [hp] at h3; cases h3
   ·obtain ⟨J, h4, h5⟩ := vD (f := f) (k := k + 1) oM oM h3
    exact ⟨J, by simpa using h4, h5⟩
theorem i5 {f : Int} (h : 4 ≤ f ∧ f ≤ 6) : (f = 4 ∧ dC f = 24) ∨ (f = 5 ∧ dC f = 1440) ∨ (f = 6 ∧ dC f = 86400) := by
 rcases (show f = 4 ∨ f = 5 ∨ f = 6 by omega) with h | h | h <;> subst h <;> decide
theorem wU {f : Int} (hf : 4 ≤ f ∧ f ≤ 6) {s : It} (h1 : 0 ≤ s.h ∧ s.h ≤ 23) (h2 : 0 ≤ s.mi ∧ s.mi ≤ 59) (h3 : 0 ≤ s.s ∧ s.s ≤ 59) : 0 ≤ cK f s ∧ cK f s < dC f := by
 rcases i5 hf with ⟨rfl, h⟩ | ⟨rfl, h⟩ | ⟨rfl, h⟩ <;> rw [h] <;> unfold cK <;> simp <;> omega
def gS (r : Ru) (b : Bool) (s : It) : Int := if b then (dC r.freq - 1 - cK r.freq s) / r.interval else 0
theorem yH (r : Ru) (b : Bool) (s : It) : dT r b s = cK r.freq s + gS r b s * r.interval := by
 unfold dT gS
 cases b <;> simp
theorem aCj {r : Ru} {s : It} (hf : 4 ≤ r.freq ∧ r.freq ≤ 6) {k0 : Int} (h0 : cS r (bS r.freq s ((cK r.freq s + k0 * r.interval) % dC r.freq)) = true) : ∀ b, ∃ K, iK r b s = some K ∧ (K : Int) ≤ dC r.freq := by
 intro b
 have hN : 24 ≤ dC r.freq ∧ dC r.freq ≤ 86400 := by rcases i5 hf with ⟨_, h⟩ | ⟨_, h⟩ | ⟨_, h⟩ <;> omega
 have hm := yH r b s
 generalize gS r b s = m at hm
 have e1 := Int.mul_ediv_add_emod (k0 - m - 1) (dC r.freq)
 have e2 := Int.emod_nonneg (k0 - m - 1) (show dC r.freq ≠ 0 by omega)
 have e3 := Int.emod_lt_of_pos (k0 - m - 1) (show 0 < dC r.freq by omega)
 generalize (k0 - m - 1) / dC r.freq = q at e1
 generalize (k0 - m - 1) % dC r.freq = e at e1 e2 e3
 obtain ⟨J, h1, h2⟩ := vD (p := fun k => cS r (bS r.freq s ((dT r b s + k * r.interval) % dC r.freq))) (f := 100000) (k := 1) (K := e.toNat + 1) oM oM (by
  have e4 : ((e.toNat + 1 : Nat) : Int) = k0 - m + dC r.freq * -q := by rw [Int.mul_neg]; omega
  have e5 : dT r b s + ((e.toNat + 1 : Nat) : Int) * r.interval = cK r.freq s + k0 * r.interval + dC r.freq * (-q * r.interval) := by
   rw [e4, hm, Int.add_mul, Int.sub_mul, Int.mul_assoc]; omega
  show cS r (bS r.freq s ((dT r b s + ((e.toNat + 1 : Nat) : Int) * r.interval) % dC r.freq)) = true
  rw [e5, Int.add_mul_emod_self_left]
  exact h0)
 exact ⟨J, h1, by omega⟩
theorem zD {f : Int} (hf : 4 ≤ f ∧ f ≤ 6) {s : It} {t : Int} (ht : 0 ≤ t ∧ t < dC f) : cK f (bS f s t) = t ∧ (f = 4 → (bS f s t).mi = s.mi) ∧ (f ≤ 5 → (bS f s t).s = s.s) := by
 rcases i5 hf with ⟨rfl, h⟩ | ⟨rfl, h⟩ | ⟨rfl, h⟩ <;> rw [h] at ht <;> unfold cK bS <;> simp <;> omega
theorem aFh {f : Int} (hf : 4 ≤ f ∧ f ≤ 6) {s : It} {t : Int} (ht : 0 ≤ t ∧ t < dC f) (h2 : 0 ≤ s.mi ∧ s.mi ≤ 59) (h3 : 0 ≤ s.s ∧ s.s ≤ 59) : (0 ≤ (bS f s t).h ∧ (bS f s t).h ≤ 23) ∧ (0 ≤ (bS f s t).mi ∧ (bS f s t).mi ≤ 59) ∧ (0 ≤ (bS f s t).s ∧ (bS f s t).s ≤ 59) := by
 rcases i5 hf with ⟨rfl, h⟩ | ⟨rfl, h⟩ | ⟨rfl, h⟩ <;> rw [h] at ht <;> unfold bS <;> simp <;> omega
theorem aFt (f : Int) (s : It) (t : Int) : (bS f s t).y = s.y ∧ (bS f s t).mo = s.mo ∧ (bS f s t).d = s.d ∧ (bS f s t).wd = s.wd ∧ (bS f s t).ly = s.ly ∧ (bS f s t).lm = s.lm ∧ (bS f s t).wno = s.wno ∧ (bS f s t).nwm = s.nwm ∧ (bS f s t).eas = s.eas ∧ (bS f s t).total = s.total ∧ (bS f s t).count = s.count ∧ (bS f s t).rem = s.rem ∧ (bS f s t).fin = s.fin := by
 unfold bS
 split
 ·exact ⟨rfl, rfl, rfl, rfl, rfl, rfl, rfl, rfl, rfl, rfl, rfl, rfl, rfl⟩
 ·split <;> exact ⟨rfl, rfl, rfl, rfl, rfl, rfl, rfl, rfl, rfl, rfl, rfl, rfl, rfl⟩
theorem aFw {r : Ru} (hf : 4 ≤ r.freq ∧ r.freq ≤ 6) {s : It} (h1 : 0 ≤ s.h ∧ s.h ≤ 23) (h2 : 0 ≤ s.mi ∧ s.mi ≤ 59) (h3 : 0 ≤ s.s ∧ s.s ≤ 59) : cS r (bS r.freq s (cK r.freq s)) = cS r s := by
 rcases (show r.freq = 4 ∨ r.freq = 5 ∨ r.freq = 6 by omega) with h | h | h
 ·unfold bS cK; simp only [h]; rfl
 ·have e : bS r.freq s (cK r.freq s) = s := by unfold bS cK; rw [h]; simp; cases s; simp_all; omega
  rw [e]
 ·have e : bS r.freq s (cK r.freq s) = s := by unfold bS cK; rw [h]; simp; cases s; simp_all; omega
  rw [e]
theorem xN {f : Int → List Int} {m : Nat} : ∀ (l : List Int), (∀ x, (f x).length ≤ m) → (l.flatMap f).length ≤ l.length * m
 | [], _ => by simp
 | x :: l, hf => by rw [List.flatMap_cons, List.length_append, List.length_cons, Nat.succ_mul]; have := hf x; have := xN l hf; omega
structure NextT (r : Ru) (b : Bool) (s n : It) (K : Nat) : Prop where
 adv : Md.adv r b s = fix r n
 hk : 1 ≤ K ∧ (K : Int) ≤ dC r.freq
 no : ∀ j : Nat, 1 ≤ j → j < K → cS r (bS r.freq s ((cK r.freq s + (gS r b s + j) * r.interval) % dC r.freq)) = false
 d : n.d = s.d + (cK r.freq s + (gS r b s + K) * r.interval) / dC r.freq
 slot : cK r.freq n = (cK r.freq s + (gS r b s + K) * r.interval) % dC r.freq
 ok : cS r n = true
 ts : n.ts = Md.fill r n
 hr : 0 ≤ n.h ∧ n.h ≤ 23
 mn : 0 ≤ n.mi ∧ n.mi ≤ 59
 sec : 0 ≤ n.s ∧ n.s ≤ 59
 y : n.y = s.y
 mo : n.mo = s.mo
 ly : n.ly = s.ly
 lm : n.lm = s.lm
 wd : n.wd = s.wd
 wno : n.wno = s.wno
 nwm : n.nwm = s.nwm
 eas : n.eas = s.eas
 total : n.total = s.total
 count : n.count = s.count
 rem : n.rem = s.rem
 fin : n.fin = s.fin
theorem oU {r : Ru} {s o : It} (h1 : o.h = s.h) (h2 : o.mi = s.mi) (h3 : o.s = s.s) : Md.fill r o = Md.fill r s := by unfold Md.fill; rw [h1, h2, h3]
theorem pP {r : Ru} {s o : It} (h1 : o.h = s.h) (h2 : o.mi = s.mi) (h3 : o.s = s.s) : cS r o = cS r s := by unfold cS; rw [h1, h2, h3]
theorem qC {f : Int} {s o : It} (h1 : o.h = s.h) (h2 : o.mi = s.mi) (h3 : o.s = s.s) : cK f o = cK f s := by unfold cK; rw [h1, h2, h3]
theorem aFc {r : Ru} {b : Bool} {s : It} (hf : 4 ≤ r.freq ∧ r.freq ≤ 6) (hk : ItOk r s) : ∃ n K, NextT r b s n K := by
 obtain ⟨K, h1, h2⟩ := hk.meet hf.1 b
 obtain ⟨h3, h4, h5⟩ := kE (show lX _ _ _ = some K from h1)
 have hN : 24 ≤ dC r.freq ∧ dC r.freq ≤ 86400 := by rcases i5 hf with ⟨_, h⟩ | ⟨_, h⟩ | ⟨_, h⟩ <;> omega
 have es : ∀ j : Nat, dT r b s + (j : Int) * r.interval = cK r.freq s + (gS r b s + j) * r.interval := fun j => by rw [yH, Int.add_mul]; omega
 simp only [es] at h4 h5
 have ht : 0 ≤ (cK r.freq s + (gS r b s + K) * r.interval) % dC r.freq ∧ (cK r.freq s + (gS r b s + K) * r.interval) % dC r.freq < dC r.freq := ⟨Int.emod_nonneg _ oM, Int.emod_lt_of_pos _ oM⟩
 obtain ⟨a1, a2, a3, a4, a5, a6, a7, a8, a9, a10, a11, a12, a13⟩ := aFt r.freq s ((cK r.freq s + (gS r b s + K) * r.interval) % dC r.freq)
 have hb := aFh hf ht hk.mn hk.sec
 have hso := (zD hf (s := s) ht).1
 have e := oB (n := bS r.freq s ((cK r.freq s + (gS r b s + K) * r.interval) % dC r.freq)) (d := s.d + (cK r.freq s + (gS r b s + K) * r.interval) / dC r.freq) hf.1 h1 (by rw [es]) (by rw [es]) a3
 refine ⟨_, K, e, ⟨h3, h2⟩, h5, rfl, ?_, ?_, ?_, hb.1, hb.2.1, hb.2.2, a1, a2, a5, a6, a4, a7, a8, a9, a10, a11, a12, a13⟩
 ·exact hso
 ·exact h4
 ·exact oU rfl rfl rfl
theorem aA2 {r : Ru} (hr : RuOk r) (hf : 4 ≤ r.freq ∧ r.freq ≤ 6) (hlm : r.minute.length ≤ 100) (hls : r.second.length ≤ 100) : vA r := by
 intro s hk hrem hfin hf2
 have ho := aAa hk hrem
 have hof : (out r s).fin = false := by
  cases h : (out r s).fin with
  | false => rfl
  | true => rw [qD h, h] at hf2; cases hf2
 rw [l7 hof] at hf2 ⊢
 obtain ⟨n, K, hn⟩ := aFc (b := cO r s) hf ho
 rw [hn.adv] at hf2 ⊢
 have hiv := hr.interval
 have hd := ho.d
 have hsb := wU hf ho.hr ho.mn ho.sec
 have hN : 24 ≤ dC r.freq ∧ dC r.freq ≤ 86400 := by rcases i5 hf with ⟨_, h⟩ | ⟨_, h⟩ | ⟨_, h⟩ <;> omega
 have hj : 0 ≤ gS r (cO r s) (out r s) := by
  unfold gS
  split
  ·exact Int.ediv_nonneg oM oM
  ·omega
 have hnd : 1 ≤ n.d := by
  rw [hn.d]
  have h1 := Int.mul_nonneg (show 0 ≤ gS r (cO r s) (out r s) + K by omega) (show 0 ≤ r.interval by omega)
  have := Int.ediv_nonneg (show 0 ≤ cK r.freq (out r s) + (gS r (cO r s) (out r s) + K) * r.interval by omega) (show 0 ≤ dC r.freq by omega)
  omega
 obtain ⟨a1, a2, a3, a4, a5, a6⟩ := xH (r := r) (s := n) hnd (by rw [hn.mo]; exact ho.mo) (by rw [hn.y]; exact ho.y) (by rw [hn.ly, hn.y]; exact ho.ly) ⟨by rw [hn.wno, hn.ly]; exact ho.wno, by rw [hn.nwm, hn.ly, hn.lm]; exact ho.nwm, by rw [hn.eas, hn.ly]; exact ho.eas⟩ hf2
 have hmd := Cal.mdays_bd (fix r n).mo (fix r n).y
 have hmin := hr.minute
 have hsec := hr.second
 have hh := hn.hr
 have hm := hn.mn
 have hs := hn.sec
 have hts : ∀ t ∈ Md.fill r n, 0 ≤ t ∧ t < 86400 := by
  intro t ht
  unfold Md.fill at ht
  have key : ∀ (hs_ ms ss : List Int), (∀ x ∈ hs_, 0 ≤ x ∧ x ≤ 23) → (∀ x ∈ ms, 0 ≤ x ∧ x ≤ 59) → (∀ x ∈ ss, 0 ≤ x ∧ x ≤ 59) → t ∈ l6 hs_ ms ss → 0 ≤ t ∧ t < 86400 := by
   intro hs_ ms ss k1 k2 k3 k4
   unfold l6 at k4
   have k4 := n6.1 k4
   rw [List.mem_flatMap] at k4
   obtain ⟨x, hx, k5⟩ := k4
   rw [List.mem_flatMap] at k5
   obtain ⟨y, hy, k6⟩ := k5
   rw [List.mem_map] at k6
   obtain ⟨z, hz, rfl⟩ := k6
   have := k1 x hx
   have := k2 y hy
   have := k3 z hz
   omega
  split at ht
  ·exact key _ _ _ (fun x hx => by rw [List.mem_singleton] at hx; omega) hmin hsec ht
  ·split at ht
   ·exact key _ _ _ (fun x hx => by rw [List.mem_singleton] at hx; omega) (fun x hx => by rw [List.mem_singleton] at hx; omega) hsec ht
   ·rw [List.mem_singleton] at ht; omega
 have htn : (Md.fill r n).length ≤ 100000 := by
  unfold Md.fill
  have key : ∀ (hs_ ms ss : List Int), hs_.length ≤ 1 → ms.length ≤ 100 → ss.length ≤ 100 → (l6 hs_ ms ss).length ≤ 100000 := by
   intro hs_ ms ss k1 k2 k3
   unfold l6
   rw [show ∀ l : List Int, (dW l).length = l.length from fun l => by unfold dW; exact List.length_mergeSort _]
   refine Nat.le_trans (xN (m := 10000) _ fun h => Nat.le_trans (xN (m := 100) _ fun m => by rw [List.length_map]; exact k3) oM) oM
  split
  ·exact key _ _ _ (by simp) hlm hls
  ·split
   ·exact key _ _ _ (by simp) (by simp) hls
   ·simp
 refine ⟨a3, a4, a2, ⟨a1.1, by omega⟩, fun _ => a1.2, by rw [a6.wd, hn.wd]; exact ho.wd, by rw [a6.h]; exact hh, by rw [a6.mi]; exact hm, by rw [a6.sec]; exact hs, by rw [a6.ts, hn.ts]; exact hts, by rw [a6.ts, hn.ts]; exact htn, by rw [a6.total, a6.rem, hn.total, hn.rem]; exact ho.total, by rw [a6.count, hn.count]; exact ho.count, a5.wno, a5.nwm, a5.eas, fun h => by omega, fun _ b => ?_⟩
 have e := aCj (r := r) (s := n) hf (k0 := 0) (by
  have hb := wU hf hh hm hs
  rw [Int.zero_mul, Int.add_zero, Int.emod_eq_of_lt hb.1 hb.2, aFw hf hh hm hs]
  exact hn.ok) b
 rw [j7 a6.h a6.mi a6.sec]
 exact e
theorem aCl {r : Ru} (hr : RuOk r) (hf : 4 ≤ r.freq ∧ r.freq ≤ 6) (hw : r.weekno.length = 0) (hd : r.nwd.length = 0) (he : r.easter.length = 0) (hlm : r.minute.length ≤ 100) (hls : r.second.length ≤ 100) : aF2 r := by
 intro F w0 B H S S0 H0 l it rb s a Q flt st s0 hk hsm hfin hn hq
 have h1 := hk.y
 have h2 := hk.mo
 have h3 := hk.d
 have h4 := hk.wd
 have h5 := hk.ly
 have h6 := hsm.y
 have h7 := hsm.mo
 have h8 := hsm.d
 have h9 := hsm.wd
 have h10 := hsm.ly
 have h11 := hk.hr
 have h12 := hk.mn
 have h13 := hk.sec
 have h14 := hsm.h
 have h15 := hsm.mi
 have h16 := hsm.s
 have h17 := hk.tsn
 have h18 := hk.day oM
 have m1 : s.wno = r.wnoF s.ly := by rw [hsm.wno, hsm.ly]; exact hk.wno
 have m2 : s.nwm = r.nwmF s.ly s.lm := by rw [hsm.nwm, hsm.ly, hsm.lm]; exact hk.nwm
 have m3 : s.eas = r.easF s.ly := by rw [hsm.eas, hsm.ly]; exact hk.eas
 have m4 : s.ts.length ≤ 1000000000 := by rw [hsm.ts]; omega
 have m5 : s.d ≤ Cal.mdays s.mo s.y := by rw [h6, h7, h8]; exact h18
 have m6 : ∃ K, iK r flt s = some K ∧ (K : Int) ≤ dC r.freq := by rw [j7 h14 h15 h16]; exact hk.meet hf.1 flt
 rcases (show r.freq = 4 ∨ r.freq = 5 ∨ r.freq = 6 by omega) with hf | hf | hf
 ·exact aA0 st hr hw hd he m1 m2 m3 oM oM oM oM oM hfin hf oM oM oM m4 hlm hls m5 m6 hn hq
 ·exact wV st hr hw hd he m1 m2 m3 oM oM oM oM oM hfin hf oM oM oM m4 hlm hls m5 m6 hn hq
 ·exact wP st hr hw hd he m1 m2 m3 oM oM oM oM oM hfin hf oM oM oM m4 hlm hls m5 m6 hn hq
end Go.Proofs.YtdbbifbmkfmbkaaGreat
namespace Go.Proofs.YtdbbifbmkfmbkaaGreat
open Go.RowKit Go.Fr Go.Tab
section
variable {F : Nat → Prop} {w0 : World} {B : LN} {H : LV} {S : LS}
open Go.Md
theorem aC8 {R : Ending → World → Prop} {S0 : LS} {H0 : LV} {r : Ru} {l : Ra} {it rb : Nat} {s : It} {a : Ad} {cnt : Int} (st : St F w0 S0 H0 it rb r l s a B H S) (hcnt : lkp (ky 1 43) H = some (iV cnt)) (hr2 : lkp 2 S = some ⟨sN, 57, 2, 0, []⟩) (h38 : ∀ q, q < 4096 → lkp (ky 38 q) H = none) (hr : RuOk r) (hh : 0 ≤ s.h ∧ s.h ≤ 23) (hmi : 0 ≤ s.mi ∧ s.mi ≤ 59) (hse : 0 ≤ s.s ∧ s.s ≤ 59) (htn : s.ts.length ≤ 1000000000) (hlm : r.minute.length ≤ 100) (hls : r.second.length ≤ 100) (hfr : r.freq = 4) (hR : ∀ a H' S' w, St F w0 S' H' it rb r l { s with count := cnt, ts := if cS r s then Md.fill r s else [] } a B H' S' → (∀ k, 26 ≤ k → k < 40 → lkp k S' = lkp k S) → (∀ q, q < 4096 → lkp (ky 38 q) H' = none) → Sees F w0 B H' S' w → R (.returned (.func (.func 53) #[pT it] #[])) w) :
  GC Tryz.prog (Go.Fr.part [1, 1, 1, 1, 1, 1, 1] (Go.Fr.bodyOf Tryz.f35)) (bodyPost Tryz.prog Tryz.f35 R) 148 [(0, pT rb), (3, pT it)] F w0 B H S := by
 refine g5 ?_
 refine rl (rfa 38) ?_
 refine rZ3 (rld 1 rfl st.hR st.r38) ?_
 refine aP rfl (decide_eq_false oM) ?_
 refine g2 ?_
 refine qE [(0, pT rb), (3, pT it), (127, .bool (!(aJ r.hour s.h)))] ?_ ?_
 ·refine lC 23 [(0, pT rb), (3, pT it), (77, .bool (!aJ r.hour s.h))] ?_ ?_
  ·refine g2 ?_
   refine rm (rfa 38) ?_
   refine rm (rld 1 rfl st.hR st.r38) ?_
   refine rm ((bZ rfl rfl).to bT) ?_
   refine g6 ?_
   refine rm (rfa 54) ?_
   refine g1 ?_
   refine rm (rld 1 rfl st.hR st.r54) ?_
   refine g3 ?_
   by_cases hz : ¬ r.hour.length = 0
   ·refine rm ((cJ rfl rfl).to (v' := .bool true) (cB (i3 oM))) ?_
    refine g7 ?_
    refine rm (rfa 54) ?_
    refine g1 ?_
    refine rm (rld 1 rfl st.hR st.r54) ?_
    refine g1 ?_
    refine rm (rfa 3) ?_
    refine g1 ?_
    refine rm (rld 0 rfl st.hB st.h3) ?_
    refine g1 ?_
    rcases bO (r.hour.any (· == s.h)) with hy_ | hy_
    ·refine bV (v := .bool true) dE kR rfl (fun w_ s_ => (aU r.hour s.h _ st.hl54 w_ (st.hI54 _ _ _ w_ aG s_)).mono fun e_ w2_ h_ => ⟨h_.1.trans (cE hy_), h_.2⟩) ?_
     refine g2 ?_
     refine rm ((aX rfl rfl rfl).to (v' := .bool (!aJ r.hour s.h)) (by exact cB (by rw [gE hy_] <;> rfl))) ?_
     exact bR kns
    ·refine bV (v := .bool false) dE kR rfl (fun w_ s_ => (aU r.hour s.h _ st.hl54 w_ (st.hI54 _ _ _ w_ aG s_)).mono fun e_ w2_ h_ => ⟨h_.1.trans (cE hy_), h_.2⟩) ?_
     refine g2 ?_
     refine rm ((aX rfl rfl rfl).to (v' := .bool (!aJ r.hour s.h)) (by exact cB (by rw [gW hz hy_] <;> rfl))) ?_
     exact bR kns
   ·refine rm ((cJ rfl rfl).to (v' := .bool false) (cB (jO oM))) ?_
    refine g10 ?_
    refine rm ((aX rfl rfl rfl).to (v' := .bool (!aJ r.hour s.h)) (by exact cB (by rw [eS (Decidable.of_not_not hz)] <;> rfl))) ?_
    exact bR kns
  ·rcases bO (aJ r.hour s.h) with hB0 | hB0
   ·refine rm ((bD rfl).to (v' := .bool false) (cB (by rw [hB0]; rfl))) ?_
    refine g5 ?_
    refine rm (rfa 38) ?_
    refine g1 ?_
    refine rm (rld 1 rfl st.hR st.r38) ?_
    refine g1 ?_
    refine rm ((bZ rfl rfl).to bF) ?_
    refine g25 ?_
    refine g4 ?_
    refine rm (rfa 38) ?_
    refine g1 ?_
    refine rm (rld 1 rfl st.hR st.r38) ?_
    refine g1 ?_
    refine rm ((bZ rfl rfl).to bF) ?_
    refine g20 ?_
    refine g2 ?_
    refine rm ((aX rfl rfl rfl).to (v' := .bool (!(aJ r.hour s.h))) (by exact cB (by rw [hB0]; rfl))) ?_
    exact bR kns
   ·refine rm ((bD rfl).to (v' := .bool true) (cB (by rw [hB0]; rfl))) ?_
    refine g40 ?_
    refine g8 ?_
    refine rm ((aX rfl rfl rfl).to (v' := .bool (!(aJ r.hour s.h))) (by exact cB (by rw [hB0]; rfl))) ?_
    exact bR kns
 ·refine g1 ?_
  have hP : cS r s = (aJ r.hour s.h) := by unfold cS; rw [hfr]; simp
  refine aB rfl (fun hb => ?_) (fun hb => ?_)
  ·have hok : cS r s = false := by rw [hP]; rcases bO (aJ r.hour s.h) with h_ | h_ <;> rw [h_] at hb ⊢ <;> first | rfl | cases hb
   rw [hok] at hR
   refine g1 ?_
   refine rl (rfa 23) ?_
   refine gL (sto 0 rfl rfl st.hB st.h23 ?_)
   refine g6 ?_
   refine rl (rfa 43) ?_
   refine rl (rld 1 rfl st.hR hcnt) ?_
   refine rl (rfa 25) ?_
   refine gL (sto 0 rfl rfl st.hB st.h25 ?_)
   refine g4 ?_
   refine rZ4 ((gG (first := [pT it]) (capt := []) rfl rfl)) ?_
   refine gR rfl fun w s_ => ?_
   refine hR ({ a with tp := none, tc := 0 } : Ad) _ _ w (by exact ⟨st.hB, st.hR, (lY st.lim), st.h0, st.h1, st.h2, st.h3, st.h4, st.h5, st.h6, st.h7, st.h8, st.h9, st.h10, st.h11, st.h12, st.h13, st.h14, st.h15, st.h16, st.h17, st.h18, st.h19, st.h20, st.h21, st.h22, rfl, st.h24, rfl, st.h26, st.h27, st.h28, st.h29, st.hS0, st.hS1, hr2, st.hS3, st.hS4, st.hS5, st.hS6, st.hS7, st.hS8, st.hS9, st.hS10, st.hp20, st.hp21, st.hp22, st.c6, (fun _ _ _ => rfl), (fun _ _ _ _ _ => rfl), st.hq0, st.hq1, st.r38, st.r39, st.r40, st.r41, st.r42, st.r44, st.r45, st.r46, st.r47, st.r48, st.r49, st.r50, st.r51, st.r52, st.r53, st.r54, st.r55, st.r56, st.r57, st.r59, (st.hI46.to aG), (st.hI47.to aG), (st.hI48.to aG), (st.hI49.to aG), (st.hI50.to aG), (st.hI51.to aG), (st.hI52.to aG), (st.hI54.to aG), (st.hI55.to aG), (st.hI56.to aG), (st.hI57.to aG), st.hl46, st.hl47, st.hl48, st.hl49, st.hl50, st.hl51, st.hl52, st.hl54, st.hl55, st.hl56, st.hl57⟩) (fun k h1 h2 => by repeat (first | rfl | rw [aA oM])) (fun q hq => ?_) s_
   repeat (first | exact h38 q hq | rw [cH dE hq dE])
  ·have hok : cS r s = true := by rw [hP]; rcases bO (aJ r.hour s.h) with h_ | h_ <;> rw [h_] at hb ⊢ <;> first | rfl | cases hb
   rw [hok] at hR
   refine dL 12 kR kR ?_
   refine rt (rfa 7) ?_
   refine rt (rfa 23) ?_
   refine g2 ?_
   refine rt (rfa 38) ?_
   refine rt (rld 1 rfl st.hR st.r38) ?_
   refine rt (rfa 3) ?_
   refine rt (rld 0 rfl st.hB st.h3) ?_
   refine rt (rfa 4) ?_
   refine rt (rld 0 rfl st.hB st.h4) ?_
   refine rt (rfa 5) ?_
   refine rt (rld 0 rfl st.hB st.h5) ?_
   refine g1 ?_
   refine gL (dR (ι := Option Addr × Nat) (fun _ => .tuple #[]) (fun _ => True) (fun _ => B) (fun y => (ky 0 23, .slice y.1 (Md.fill r s).length y.2) :: H) (fun y => (2, ⟨.slice y.1 (Md.fill r s).length y.2, 57, 2, (Md.fill r s).length, bN (Md.fill r s)⟩) :: S) dE kR rfl (fun w_ s_ => (rV st hr hh hmi hse htn hlm hls hfr w_ s_).mono fun e w' ⟨p, c, h1, h2⟩ => ⟨(p, c), trivial, h1, h2⟩) (fun | (pz, cz), _ => ?_))
   refine g6 ?_
   refine rl (rfa 43) ?_
   refine rl (rld 1 rfl st.hR hcnt) ?_
   refine rl (rfa 25) ?_
   refine gL (sto 0 rfl rfl st.hB st.h25 ?_)
   refine g4 ?_
   refine rZ4 ((gG (first := [pT it]) (capt := []) rfl rfl)) ?_
   refine gR rfl fun w s_ => ?_
   refine hR ({ a with tp := pz, tc := cz } : Ad) _ _ w (by exact ⟨st.hB, st.hR, (lY st.lim), st.h0, st.h1, st.h2, st.h3, st.h4, st.h5, st.h6, st.h7, st.h8, st.h9, st.h10, st.h11, st.h12, st.h13, st.h14, st.h15, st.h16, st.h17, st.h18, st.h19, st.h20, st.h21, st.h22, rfl, st.h24, rfl, st.h26, st.h27, st.h28, st.h29, st.hS0, st.hS1, rfl, st.hS3, st.hS4, st.hS5, st.hS6, st.hS7, st.hS8, st.hS9, st.hS10, st.hp20, st.hp21, st.hp22, st.c6, (fun _ _ _ => rfl), (fun _ _ _ _ _ => rfl), st.hq0, st.hq1, st.r38, st.r39, st.r40, st.r41, st.r42, st.r44, st.r45, st.r46, st.r47, st.r48, st.r49, st.r50, st.r51, st.r52, st.r53, st.r54, st.r55, st.r56, st.r57, st.r59, (st.hI46.to aG), (st.hI47.to aG), (st.hI48.to aG), (st.hI49.to aG), (st.hI50.to aG), (st.hI51.to aG), (st.hI52.to aG), (st.hI54.to aG), (st.hI55.to aG), (st.hI56.to aG), (st.hI57.to aG), st.hl46, st.hl47, st.hl48, st.hl49, st.hl50, st.hl51, st.hl52, st.hl54, st.hl55, st.hl56, st.hl57⟩) (fun k h1 h2 => by repeat (first | rfl | rw [aA oM])) (fun q hq => ?_) s_
   repeat (first | exact h38 q hq | rw [cH dE hq dE])
theorem aDo {R : Ending → World → Prop} {S0 : LS} {H0 : LV} {r : Ru} {l : Ra} {it rb : Nat} {s : It} {a : Ad} {cnt : Int} (st : St F w0 S0 H0 it rb r l s a B H S) (hcnt : lkp (ky 1 43) H = some (iV cnt)) (hr2 : lkp 2 S = some ⟨sN, 57, 2, 0, []⟩) (h38 : ∀ q, q < 4096 → lkp (ky 38 q) H = none) (hr : RuOk r) (hh : 0 ≤ s.h ∧ s.h ≤ 23) (hmi : 0 ≤ s.mi ∧ s.mi ≤ 59) (hse : 0 ≤ s.s ∧ s.s ≤ 59) (htn : s.ts.length ≤ 1000000000) (hlm : r.minute.length ≤ 100) (hls : r.second.length ≤ 100) (hfr : r.freq = 5) (hR : ∀ a H' S' w, St F w0 S' H' it rb r l { s with count := cnt, ts := if cS r s then Md.fill r s else [] } a B H' S' → (∀ k, 26 ≤ k → k < 40 → lkp k S' = lkp k S) → (∀ q, q < 4096 → lkp (ky 38 q) H' = none) → Sees F w0 B H' S' w → R (.returned (.func (.func 53) #[pT it] #[])) w) :
  GC Tryz.prog (Go.Fr.part [1, 1, 1, 1, 1, 1, 1] (Go.Fr.bodyOf Tryz.f35)) (bodyPost Tryz.prog Tryz.f35 R) 148 [(0, pT rb), (3, pT it)] F w0 B H S := by
 refine g5 ?_
 refine rl (rfa 38) ?_
 refine rZ3 (rld 1 rfl st.hR st.r38) ?_
 refine aP rfl (decide_eq_false oM) ?_
 refine g2 ?_
 refine qE [(0, pT rb), (3, pT it), (127, .bool (!(aJ r.hour s.h && aJ r.minute s.mi)))] ?_ ?_
 ·refine lC 23 [(0, pT rb), (3, pT it), (77, .bool (!aJ r.hour s.h))] ?_ ?_
  ·refine g2 ?_
   refine rm (rfa 38) ?_
   refine rm (rld 1 rfl st.hR st.r38) ?_
   refine rm ((bZ rfl rfl).to bT) ?_
   refine g6 ?_
   refine rm (rfa 54) ?_
   refine g1 ?_
   refine rm (rld 1 rfl st.hR st.r54) ?_
   refine g3 ?_
   by_cases hz : ¬ r.hour.length = 0
   ·refine rm ((cJ rfl rfl).to (v' := .bool true) (cB (i3 oM))) ?_
    refine g7 ?_
    refine rm (rfa 54) ?_
    refine g1 ?_
    refine rm (rld 1 rfl st.hR st.r54) ?_
    refine g1 ?_
    refine rm (rfa 3) ?_
    refine g1 ?_
    refine rm (rld 0 rfl st.hB st.h3) ?_
    refine g1 ?_
    rcases bO (r.hour.any (· == s.h)) with hy_ | hy_
    ·refine bV (v := .bool true) dE kR rfl (fun w_ s_ => (aU r.hour s.h _ st.hl54 w_ (st.hI54 _ _ _ w_ aG s_)).mono fun e_ w2_ h_ => ⟨h_.1.trans (cE hy_), h_.2⟩) ?_
     refine g2 ?_
     refine rm ((aX rfl rfl rfl).to (v' := .bool (!aJ r.hour s.h)) (by exact cB (by rw [gE hy_] <;> rfl))) ?_
     exact bR kns
    ·refine bV (v := .bool false) dE kR rfl (fun w_ s_ => (aU r.hour s.h _ st.hl54 w_ (st.hI54 _ _ _ w_ aG s_)).mono fun e_ w2_ h_ => ⟨h_.1.trans (cE hy_), h_.2⟩) ?_
     refine g2 ?_
     refine rm ((aX rfl rfl rfl).to (v' := .bool (!aJ r.hour s.h)) (by exact cB (by rw [gW hz hy_] <;> rfl))) ?_
     exact bR kns
   ·refine rm ((cJ rfl rfl).to (v' := .bool false) (cB (jO oM))) ?_
    refine g10 ?_
    refine rm ((aX rfl rfl rfl).to (v' := .bool (!aJ r.hour s.h)) (by exact cB (by rw [eS (Decidable.of_not_not hz)] <;> rfl))) ?_
    exact bR kns
  ·rcases bO (aJ r.hour s.h) with hB0 | hB0
   ·refine rm ((bD rfl).to (v' := .bool false) (cB (by rw [hB0]; rfl))) ?_
    refine lC 23 [(0, pT rb), (3, pT it), (78, .bool false), (101, .bool (!aJ r.minute s.mi))] ?_ ?_
    ·refine g5 ?_
     refine rm (rfa 38) ?_
     refine g1 ?_
     refine rm (rld 1 rfl st.hR st.r38) ?_
     refine g1 ?_
     refine rm ((bZ rfl rfl).to bT) ?_
     refine g7 ?_
     refine rm (rfa 55) ?_
     refine g1 ?_
     refine rm (rld 1 rfl st.hR st.r55) ?_
     refine g3 ?_
     by_cases hz : ¬ r.minute.length = 0
     ·refine rm ((cJ rfl rfl).to (v' := .bool true) (cB (i3 oM))) ?_
      refine g9 ?_
      refine rm (rfa 55) ?_
      refine g1 ?_
      refine rm (rld 1 rfl st.hR st.r55) ?_
      refine g1 ?_
      refine rm (rfa 4) ?_
      refine g1 ?_
      refine rm (rld 0 rfl st.hB st.h4) ?_
      refine g1 ?_
      rcases bO (r.minute.any (· == s.mi)) with hy_ | hy_
      ·refine bV (v := .bool true) dE kR rfl (fun w_ s_ => (aU r.minute s.mi _ st.hl55 w_ (st.hI55 _ _ _ w_ aG s_)).mono fun e_ w2_ h_ => ⟨h_.1.trans (cE hy_), h_.2⟩) ?_
       refine g3 ?_
       refine rm ((aX rfl rfl rfl).to (v' := .bool (!aJ r.minute s.mi)) (by exact cB (by rw [gE hy_] <;> rfl))) ?_
       exact bR kns
      ·refine bV (v := .bool false) dE kR rfl (fun w_ s_ => (aU r.minute s.mi _ st.hl55 w_ (st.hI55 _ _ _ w_ aG s_)).mono fun e_ w2_ h_ => ⟨h_.1.trans (cE hy_), h_.2⟩) ?_
       refine g3 ?_
       refine rm ((aX rfl rfl rfl).to (v' := .bool (!aJ r.minute s.mi)) (by exact cB (by rw [gW hz hy_] <;> rfl))) ?_
       exact bR kns
     ·refine rm ((cJ rfl rfl).to (v' := .bool false) (cB (jO oM))) ?_
      refine g13 ?_
      refine rm ((aX rfl rfl rfl).to (v' := .bool (!aJ r.minute s.mi)) (by exact cB (by rw [eS (Decidable.of_not_not hz)] <;> rfl))) ?_
      exact bR kns
    ·rcases bO (aJ r.minute s.mi) with hB1 | hB1
     ·refine rm ((aX rfl rfl rfl).to (v' := .bool false) (by exact cB (by rw [hB1]; rfl))) ?_
      refine rm ((bD rfl).to (v' := .bool false) rfl) ?_
      refine g5 ?_
      refine rm (rfa 38) ?_
      refine g1 ?_
      refine rm (rld 1 rfl st.hR st.r38) ?_
      refine g1 ?_
      refine rm ((bZ rfl rfl).to bF) ?_
      refine g20 ?_
      refine g2 ?_
      refine rm ((aX rfl rfl rfl).to (v' := .bool (!(aJ r.hour s.h && aJ r.minute s.mi))) (by exact cB (by rw [hB0, hB1]; rfl))) ?_
      exact bR kns
     ·refine rm ((aX rfl rfl rfl).to (v' := .bool true) (by exact cB (by rw [hB1]; rfl))) ?_
      refine rm ((bD rfl).to (v' := .bool true) rfl) ?_
      refine g20 ?_
      refine g3 ?_
      refine rm ((aX rfl rfl rfl).to (v' := .bool (!(aJ r.hour s.h && aJ r.minute s.mi))) (by exact cB (by rw [hB0, hB1]; rfl))) ?_
      exact bR kns
   ·refine rm ((bD rfl).to (v' := .bool true) (cB (by rw [hB0]; rfl))) ?_
    refine g40 ?_
    refine g8 ?_
    refine rm ((aX rfl rfl rfl).to (v' := .bool (!(aJ r.hour s.h && aJ r.minute s.mi))) (by exact cB (by rw [hB0]; rfl))) ?_
    exact bR kns
 ·refine g1 ?_
  have hP : cS r s = (aJ r.hour s.h && aJ r.minute s.mi) := by unfold cS; rw [hfr]; simp
  refine aB rfl (fun hb => ?_) (fun hb => ?_)
  ·have hok : cS r s = false := by rw [hP]; rcases bO (aJ r.hour s.h && aJ r.minute s.mi) with h_ | h_ <;> rw [h_] at hb ⊢ <;> first | rfl | cases hb
   rw [hok] at hR
   refine g1 ?_
   refine rl (rfa 23) ?_
   refine gL (sto 0 rfl rfl st.hB st.h23 ?_)
   refine g6 ?_
   refine rl (rfa 43) ?_
   refine rl (rld 1 rfl st.hR hcnt) ?_
   refine rl (rfa 25) ?_
   refine gL (sto 0 rfl rfl st.hB st.h25 ?_)
   refine g4 ?_
   refine rZ4 ((gG (first := [pT it]) (capt := []) rfl rfl)) ?_
   refine gR rfl fun w s_ => ?_
   refine hR ({ a with tp := none, tc := 0 } : Ad) _ _ w (by exact ⟨st.hB, st.hR, (lY st.lim), st.h0, st.h1, st.h2, st.h3, st.h4, st.h5, st.h6, st.h7, st.h8, st.h9, st.h10, st.h11, st.h12, st.h13, st.h14, st.h15, st.h16, st.h17, st.h18, st.h19, st.h20, st.h21, st.h22, rfl, st.h24, rfl, st.h26, st.h27, st.h28, st.h29, st.hS0, st.hS1, hr2, st.hS3, st.hS4, st.hS5, st.hS6, st.hS7, st.hS8, st.hS9, st.hS10, st.hp20, st.hp21, st.hp22, st.c6, (fun _ _ _ => rfl), (fun _ _ _ _ _ => rfl), st.hq0, st.hq1, st.r38, st.r39, st.r40, st.r41, st.r42, st.r44, st.r45, st.r46, st.r47, st.r48, st.r49, st.r50, st.r51, st.r52, st.r53, st.r54, st.r55, st.r56, st.r57, st.r59, (st.hI46.to aG), (st.hI47.to aG), (st.hI48.to aG), (st.hI49.to aG), (st.hI50.to aG), (st.hI51.to aG), (st.hI52.to aG), (st.hI54.to aG), (st.hI55.to aG), (st.hI56.to aG), (st.hI57.to aG), st.hl46, st.hl47, st.hl48, st.hl49, st.hl50, st.hl51, st.hl52, st.hl54, st.hl55, st.hl56, st.hl57⟩) (fun k h1 h2 => by repeat (first | rfl | rw [aA oM])) (fun q hq => ?_) s_
   repeat (first | exact h38 q hq | rw [cH dE hq dE])
  ·have hok : cS r s = true := by rw [hP]; rcases bO (aJ r.hour s.h && aJ r.minute s.mi) with h_ | h_ <;> rw [h_] at hb ⊢ <;> first | rfl | cases hb
   rw [hok] at hR
   refine dL 12 kR kR ?_
   refine rt (rfa 7) ?_
   refine rt (rfa 23) ?_
   refine g2 ?_
   refine rt (rfa 38) ?_
   refine rt (rld 1 rfl st.hR st.r38) ?_
   refine rt (rfa 3) ?_
   refine rt (rld 0 rfl st.hB st.h3) ?_
   refine rt (rfa 4) ?_
   refine rt (rld 0 rfl st.hB st.h4) ?_
   refine rt (rfa 5) ?_
   refine rt (rld 0 rfl st.hB st.h5) ?_
   refine g1 ?_
   refine gL (dR (ι := Option Addr × Nat) (fun _ => .tuple #[]) (fun _ => True) (fun _ => B) (fun y => (ky 0 23, .slice y.1 (Md.fill r s).length y.2) :: H) (fun y => (2, ⟨.slice y.1 (Md.fill r s).length y.2, 57, 2, (Md.fill r s).length, bN (Md.fill r s)⟩) :: S) dE kR rfl (fun w_ s_ => (rM st hr hh hmi hse htn hlm hls hfr w_ s_).mono fun e w' ⟨p, c, h1, h2⟩ => ⟨(p, c), trivial, h1, h2⟩) (fun | (pz, cz), _ => ?_))
   refine g6 ?_
   refine rl (rfa 43) ?_
   refine rl (rld 1 rfl st.hR hcnt) ?_
   refine rl (rfa 25) ?_
   refine gL (sto 0 rfl rfl st.hB st.h25 ?_)
   refine g4 ?_
   refine rZ4 ((gG (first := [pT it]) (capt := []) rfl rfl)) ?_
   refine gR rfl fun w s_ => ?_
   refine hR ({ a with tp := pz, tc := cz } : Ad) _ _ w (by exact ⟨st.hB, st.hR, (lY st.lim), st.h0, st.h1, st.h2, st.h3, st.h4, st.h5, st.h6, st.h7, st.h8, st.h9, st.h10, st.h11, st.h12, st.h13, st.h14, st.h15, st.h16, st.h17, st.h18, st.h19, st.h20, st.h21, st.h22, rfl, st.h24, rfl, st.h26, st.h27, st.h28, st.h29, st.hS0, st.hS1, rfl, st.hS3, st.hS4, st.hS5, st.hS6, st.hS7, st.hS8, st.hS9, st.hS10, st.hp20, st.hp21, st.hp22, st.c6, (fun _ _ _ => rfl), (fun _ _ _ _ _ => rfl), st.hq0, st.hq1, st.r38, st.r39, st.r40, st.r41, st.r42, st.r44, st.r45, st.r46, st.r47, st.r48, st.r49, st.r50, st.r51, st.r52, st.r53, st.r54, st.r55, st.r56, st.r57, st.r59, (st.hI46.to aG), (st.hI47.to aG), (st.hI48.to aG), (st.hI49.to aG), (st.hI50.to aG), (st.hI51.to aG), (st.hI52.to aG), (st.hI54.to aG), (st.hI55.to aG), (st.hI56.to aG), (st.hI57.to aG), st.hl46, st.hl47, st.hl48, st.hl49, st.hl50, st.hl51, st.hl52, st.hl54, st.hl55, st.hl56, st.hl57⟩) (fun k h1 h2 => by repeat (first | rfl | rw [aA oM])) (fun q hq => ?_) s_
   repeat (first | exact h38 q hq | rw [cH dE hq dE])
theorem aC4 {R : Ending → World → Prop} {S0 : LS} {H0 : LV} {r : Ru} {l : Ra} {it rb : Nat} {s : It} {a : Ad} {cnt : Int} (st : St F w0 S0 H0 it rb r l s a B H S) (hcnt : lkp (ky 1 43) H = some (iV cnt)) (hr2 : lkp 2 S = some ⟨sN, 57, 2, 0, []⟩) (h38 : ∀ q, q < 4096 → lkp (ky 38 q) H = none) (hr : RuOk r) (hh : 0 ≤ s.h ∧ s.h ≤ 23) (hmi : 0 ≤ s.mi ∧ s.mi ≤ 59) (hse : 0 ≤ s.s ∧ s.s ≤ 59) (htn : s.ts.length ≤ 1000000000) (hlm : r.minute.length ≤ 100) (hls : r.second.length ≤ 100) (hfr : r.freq = 6) (hR : ∀ a H' S' w, St F w0 S' H' it rb r l { s with count := cnt, ts := if cS r s then Md.fill r s else [] } a B H' S' → (∀ k, 26 ≤ k → k < 40 → lkp k S' = lkp k S) → (∀ q, q < 4096 → lkp (ky 38 q) H' = none) → Sees F w0 B H' S' w → R (.returned (.func (.func 53) #[pT it] #[])) w) :
  GC Tryz.prog (Go.Fr.part [1, 1, 1, 1, 1, 1, 1] (Go.Fr.bodyOf Tryz.f35)) (bodyPost Tryz.prog Tryz.f35 R) 148 [(0, pT rb), (3, pT it)] F w0 B H S := by
 refine g5 ?_
 refine rl (rfa 38) ?_
 refine rZ3 (rld 1 rfl st.hR st.r38) ?_
 refine aP rfl (decide_eq_false oM) ?_
 refine g2 ?_
 refine qE [(0, pT rb), (3, pT it), (127, .bool (!((aJ r.hour s.h && aJ r.minute s.mi) && aJ r.second s.s)))] ?_ ?_
 ·refine lC 23 [(0, pT rb), (3, pT it), (77, .bool (!aJ r.hour s.h))] ?_ ?_
  ·refine g2 ?_
   refine rm (rfa 38) ?_
   refine rm (rld 1 rfl st.hR st.r38) ?_
   refine rm ((bZ rfl rfl).to bT) ?_
   refine g6 ?_
   refine rm (rfa 54) ?_
   refine g1 ?_
   refine rm (rld 1 rfl st.hR st.r54) ?_
   refine g3 ?_
   by_cases hz : ¬ r.hour.length = 0
   ·refine rm ((cJ rfl rfl).to (v' := .bool true) (cB (i3 oM))) ?_
    refine g7 ?_
    refine rm (rfa 54) ?_
    refine g1 ?_
    refine rm (rld 1 rfl st.hR st.r54) ?_
    refine g1 ?_
    refine rm (rfa 3) ?_
    refine g1 ?_
    refine rm (rld 0 rfl st.hB st.h3) ?_
    refine g1 ?_
    rcases bO (r.hour.any (· == s.h)) with hy_ | hy_
    ·refine bV (v := .bool true) dE kR rfl (fun w_ s_ => (aU r.hour s.h _ st.hl54 w_ (st.hI54 _ _ _ w_ aG s_)).mono fun e_ w2_ h_ => ⟨h_.1.trans (cE hy_), h_.2⟩) ?_
     refine g2 ?_
     refine rm ((aX rfl rfl rfl).to (v' := .bool (!aJ r.hour s.h)) (by exact cB (by rw [gE hy_] <;> rfl))) ?_
     exact bR kns
    ·refine bV (v := .bool false) dE kR rfl (fun w_ s_ => (aU r.hour s.h _ st.hl54 w_ (st.hI54 _ _ _ w_ aG s_)).mono fun e_ w2_ h_ => ⟨h_.1.trans (cE hy_), h_.2⟩) ?_
     refine g2 ?_
     refine rm ((aX rfl rfl rfl).to (v' := .bool (!aJ r.hour s.h)) (by exact cB (by rw [gW hz hy_] <;> rfl))) ?_
     exact bR kns
   ·refine rm ((cJ rfl rfl).to (v' := .bool false) (cB (jO oM))) ?_
    refine g10 ?_
    refine rm ((aX rfl rfl rfl).to (v' := .bool (!aJ r.hour s.h)) (by exact cB (by rw [eS (Decidable.of_not_not hz)] <;> rfl))) ?_
    exact bR kns
  ·rcases bO (aJ r.hour s.h) with hB0 | hB0
   ·refine rm ((bD rfl).to (v' := .bool false) (cB (by rw [hB0]; rfl))) ?_
    refine lC 23 [(0, pT rb), (3, pT it), (78, .bool false), (101, .bool (!aJ r.minute s.mi))] ?_ ?_
    ·refine g5 ?_
     refine rm (rfa 38) ?_
     refine g1 ?_
     refine rm (rld 1 rfl st.hR st.r38) ?_
     refine g1 ?_
     refine rm ((bZ rfl rfl).to bT) ?_
     refine g7 ?_
     refine rm (rfa 55) ?_
     refine g1 ?_
     refine rm (rld 1 rfl st.hR st.r55) ?_
     refine g3 ?_
     by_cases hz : ¬ r.minute.length = 0
     ·refine rm ((cJ rfl rfl).to (v' := .bool true) (cB (i3 oM))) ?_
      refine g9 ?_
      refine rm (rfa 55) ?_
      refine g1 ?_
      refine rm (rld 1 rfl st.hR st.r55) ?_
      refine g1 ?_
      refine rm (rfa 4) ?_
      refine g1 ?_
      refine rm (rld 0 rfl st.hB st.h4) ?_
      refine g1 ?_
      rcases bO (r.minute.any (· == s.mi)) with hy_ | hy_
      ·refine bV (v := .bool true) dE kR rfl (fun w_ s_ => (aU r.minute s.mi _ st.hl55 w_ (st.hI55 _ _ _ w_ aG s_)).mono fun e_ w2_ h_ => ⟨h_.1.trans (cE hy_), h_.2⟩) ?_
       refine g3 ?_
       refine rm ((aX rfl rfl rfl).to (v' := .bool (!aJ r.minute s.mi)) (by exact cB (by rw [gE hy_] <;> rfl))) ?_
       exact bR kns
      ·refine bV (v := .bool false) dE kR rfl (fun w_ s_ => (aU r.minute s.mi _ st.hl55 w_ (st.hI55 _ _ _ w_ aG s_)).mono fun e_ w2_ h_ => ⟨h_.1.trans (cE hy_), h_.2⟩) ?_
       refine g3 ?_
       refine rm ((aX rfl rfl rfl).to (v' := .bool (!aJ r.minute s.mi)) (by exact cB (by rw [gW hz hy_] <;> rfl))) ?_
       exact bR kns
     ·refine rm ((cJ rfl rfl).to (v' := .bool false) (cB (jO oM))) ?_
      refine g13 ?_
      refine rm ((aX rfl rfl rfl).to (v' := .bool (!aJ r.minute s.mi)) (by exact cB (by rw [eS (Decidable.of_not_not hz)] <;> rfl))) ?_
      exact bR kns
    ·rcases bO (aJ r.minute s.mi) with hB1 | hB1
     ·refine rm ((aX rfl rfl rfl).to (v' := .bool false) (by exact cB (by rw [hB1]; rfl))) ?_
      refine rm ((bD rfl).to (v' := .bool false) rfl) ?_
      refine lC 23 [(0, pT rb), (3, pT it), (103, .bool false), (126, .bool (!aJ r.second s.s))] ?_ ?_
      ·refine g5 ?_
       refine rm (rfa 38) ?_
       refine g1 ?_
       refine rm (rld 1 rfl st.hR st.r38) ?_
       refine g1 ?_
       refine rm ((bZ rfl rfl).to bT) ?_
       refine g7 ?_
       refine rm (rfa 56) ?_
       refine g1 ?_
       refine rm (rld 1 rfl st.hR st.r56) ?_
       refine g3 ?_
       by_cases hz : ¬ r.second.length = 0
       ·refine rm ((cJ rfl rfl).to (v' := .bool true) (cB (i3 oM))) ?_
        refine g9 ?_
        refine rm (rfa 56) ?_
        refine g1 ?_
        refine rm (rld 1 rfl st.hR st.r56) ?_
        refine g1 ?_
        refine rm (rfa 5) ?_
        refine g1 ?_
        refine rm (rld 0 rfl st.hB st.h5) ?_
        refine g1 ?_
        rcases bO (r.second.any (· == s.s)) with hy_ | hy_
        ·refine bV (v := .bool true) dE kR rfl (fun w_ s_ => (aU r.second s.s _ st.hl56 w_ (st.hI56 _ _ _ w_ aG s_)).mono fun e_ w2_ h_ => ⟨h_.1.trans (cE hy_), h_.2⟩) ?_
         refine g3 ?_
         refine rm ((aX rfl rfl rfl).to (v' := .bool (!aJ r.second s.s)) (by exact cB (by rw [gE hy_] <;> rfl))) ?_
         exact bR kns
        ·refine bV (v := .bool false) dE kR rfl (fun w_ s_ => (aU r.second s.s _ st.hl56 w_ (st.hI56 _ _ _ w_ aG s_)).mono fun e_ w2_ h_ => ⟨h_.1.trans (cE hy_), h_.2⟩) ?_
         refine g3 ?_
         refine rm ((aX rfl rfl rfl).to (v' := .bool (!aJ r.second s.s)) (by exact cB (by rw [gW hz hy_] <;> rfl))) ?_
         exact bR kns
       ·refine rm ((cJ rfl rfl).to (v' := .bool false) (cB (jO oM))) ?_
        refine g13 ?_
        refine rm ((aX rfl rfl rfl).to (v' := .bool (!aJ r.second s.s)) (by exact cB (by rw [eS (Decidable.of_not_not hz)] <;> rfl))) ?_
        exact bR kns
      ·rcases bO (aJ r.second s.s) with hB2 | hB2
       ·refine rm ((aX rfl rfl rfl).to (v' := .bool (!((aJ r.hour s.h && aJ r.minute s.mi) && aJ r.second s.s))) (by exact cB (by rw [hB0, hB1, hB2]; rfl))) ?_
        exact bR kns
       ·refine rm ((aX rfl rfl rfl).to (v' := .bool (!((aJ r.hour s.h && aJ r.minute s.mi) && aJ r.second s.s))) (by exact cB (by rw [hB0, hB1, hB2]; rfl))) ?_
        exact bR kns
     ·refine rm ((aX rfl rfl rfl).to (v' := .bool true) (by exact cB (by rw [hB1]; rfl))) ?_
      refine rm ((bD rfl).to (v' := .bool true) rfl) ?_
      refine g20 ?_
      refine g3 ?_
      refine rm ((aX rfl rfl rfl).to (v' := .bool (!((aJ r.hour s.h && aJ r.minute s.mi) && aJ r.second s.s))) (by exact cB (by rw [hB0, hB1]; rfl))) ?_
      exact bR kns
   ·refine rm ((bD rfl).to (v' := .bool true) (cB (by rw [hB0]; rfl))) ?_
    refine g40 ?_
    refine g8 ?_
    refine rm ((aX rfl rfl rfl).to (v' := .bool (!((aJ r.hour s.h && aJ r.minute s.mi) && aJ r.second s.s))) (by exact cB (by rw [hB0]; rfl))) ?_
    exact bR kns
 ·refine g1 ?_
  have hP : cS r s = ((aJ r.hour s.h && aJ r.minute s.mi) && aJ r.second s.s) := by unfold cS; rw [hfr]; simp
  refine aB rfl (fun hb => ?_) (fun hb => ?_)
  ·have hok : cS r s = false := by rw [hP]; rcases bO ((aJ r.hour s.h && aJ r.minute s.mi) && aJ r.second s.s) with h_ | h_ <;> rw [h_] at hb ⊢ <;> first | rfl | cases hb
   rw [hok] at hR
   refine g1 ?_
   refine rl (rfa 23) ?_
   refine gL (sto 0 rfl rfl st.hB st.h23 ?_)
   refine g6 ?_
   refine rl (rfa 43) ?_
   refine rl (rld 1 rfl st.hR hcnt) ?_
   refine rl (rfa 25) ?_
   refine gL (sto 0 rfl rfl st.hB st.h25 ?_)
   refine g4 ?_
   refine rZ4 ((gG (first := [pT it]) (capt := []) rfl rfl)) ?_
   refine gR rfl fun w s_ => ?_
   refine hR ({ a with tp := none, tc := 0 } : Ad) _ _ w (by exact ⟨st.hB, st.hR, (lY st.lim), st.h0, st.h1, st.h2, st.h3, st.h4, st.h5, st.h6, st.h7, st.h8, st.h9, st.h10, st.h11, st.h12, st.h13, st.h14, st.h15, st.h16, st.h17, st.h18, st.h19, st.h20, st.h21, st.h22, rfl, st.h24, rfl, st.h26, st.h27, st.h28, st.h29, st.hS0, st.hS1, hr2, st.hS3, st.hS4, st.hS5, st.hS6, st.hS7, st.hS8, st.hS9, st.hS10, st.hp20, st.hp21, st.hp22, st.c6, (fun _ _ _ => rfl), (fun _ _ _ _ _ => rfl), st.hq0, st.hq1, st.r38, st.r39, st.r40, st.r41, st.r42, st.r44, st.r45, st.r46, st.r47, st.r48, st.r49, st.r50, st.r51, st.r52, st.r53, st.r54, st.r55, st.r56, st.r57, st.r59, (st.hI46.to aG), (st.hI47.to aG), (st.hI48.to aG), (st.hI49.to aG), (st.hI50.to aG), (st.hI51.to aG), (st.hI52.to aG), (st.hI54.to aG), (st.hI55.to aG), (st.hI56.to aG), (st.hI57.to aG), st.hl46, st.hl47, st.hl48, st.hl49, st.hl50, st.hl51, st.hl52, st.hl54, st.hl55, st.hl56, st.hl57⟩) (fun k h1 h2 => by repeat (first | rfl | rw [aA oM])) (fun q hq => ?_) s_
   repeat (first | exact h38 q hq | rw [cH dE hq dE])
  ·have hok : cS r s = true := by rw [hP]; rcases bO ((aJ r.hour s.h && aJ r.minute s.mi) && aJ r.second s.s) with h_ | h_ <;> rw [h_] at hb ⊢ <;> first | rfl | cases hb
   rw [hok] at hR
   refine dL 12 kR kR ?_
   refine rt (rfa 7) ?_
   refine rt (rfa 23) ?_
   refine g2 ?_
   refine rt (rfa 38) ?_
   refine rt (rld 1 rfl st.hR st.r38) ?_
   refine rt (rfa 3) ?_
   refine rt (rld 0 rfl st.hB st.h3) ?_
   refine rt (rfa 4) ?_
   refine rt (rld 0 rfl st.hB st.h4) ?_
   refine rt (rfa 5) ?_
   refine rt (rld 0 rfl st.hB st.h5) ?_
   refine g1 ?_
   refine gL (dR (ι := Option Addr × Nat) (fun _ => .tuple #[]) (fun _ => True) (fun _ => B) (fun y => (ky 0 23, .slice y.1 (Md.fill r s).length y.2) :: H) (fun y => (2, ⟨.slice y.1 (Md.fill r s).length y.2, 57, 2, (Md.fill r s).length, bN (Md.fill r s)⟩) :: S) dE kR rfl (fun w_ s_ => (rI st hr hh hmi hse htn hlm hls hfr w_ s_).mono fun e w' ⟨p, c, h1, h2⟩ => ⟨(p, c), trivial, h1, h2⟩) (fun | (pz, cz), _ => ?_))
   refine g6 ?_
   refine rl (rfa 43) ?_
   refine rl (rld 1 rfl st.hR hcnt) ?_
   refine rl (rfa 25) ?_
   refine gL (sto 0 rfl rfl st.hB st.h25 ?_)
   refine g4 ?_
   refine rZ4 ((gG (first := [pT it]) (capt := []) rfl rfl)) ?_
   refine gR rfl fun w s_ => ?_
   refine hR ({ a with tp := pz, tc := cz } : Ad) _ _ w (by exact ⟨st.hB, st.hR, (lY st.lim), st.h0, st.h1, st.h2, st.h3, st.h4, st.h5, st.h6, st.h7, st.h8, st.h9, st.h10, st.h11, st.h12, st.h13, st.h14, st.h15, st.h16, st.h17, st.h18, st.h19, st.h20, st.h21, st.h22, rfl, st.h24, rfl, st.h26, st.h27, st.h28, st.h29, st.hS0, st.hS1, rfl, st.hS3, st.hS4, st.hS5, st.hS6, st.hS7, st.hS8, st.hS9, st.hS10, st.hp20, st.hp21, st.hp22, st.c6, (fun _ _ _ => rfl), (fun _ _ _ _ _ => rfl), st.hq0, st.hq1, st.r38, st.r39, st.r40, st.r41, st.r42, st.r44, st.r45, st.r46, st.r47, st.r48, st.r49, st.r50, st.r51, st.r52, st.r53, st.r54, st.r55, st.r56, st.r57, st.r59, (st.hI46.to aG), (st.hI47.to aG), (st.hI48.to aG), (st.hI49.to aG), (st.hI50.to aG), (st.hI51.to aG), (st.hI52.to aG), (st.hI54.to aG), (st.hI55.to aG), (st.hI56.to aG), (st.hI57.to aG), st.hl46, st.hl47, st.hl48, st.hl49, st.hl50, st.hl51, st.hl52, st.hl54, st.hl55, st.hl56, st.hl57⟩) (fun k h1 h2 => by repeat (first | rfl | rw [aA oM])) (fun q hq => ?_) s_
   repeat (first | exact h38 q hq | rw [cH dE hq dE])
theorem aI7 {R : Ending → World → Prop} {o : Opn} {x : Av} {wF : Int → List Int} {nF : Int → Int → List Int} {eF : Int → List Int} (ok : OpOk o) (hf4 : 4 ≤ o.freq ∧ o.freq ≤ 6) (hw0 : o.weekno.length = 0) (hd0 : ((bH o wF nF eF)).nwd.length = 0) (he0 : o.easter.length = 0) (hwF : ∀ y, wF y = []) (hnF : ∀ y m, nF y m = []) (heF : ∀ y, eF y = []) (hlen : RuLen (bH o wF nF eF)) {rb : Nat} {S0 : LS} (of : OutF F w0 o x S0 S) (hR1 : lkp 1 B = some rb) (hc1 : cellsAt 1 H 0 (iY o x)) (h38 : ∀ q, q < 4096 → lkp (ky 38 q) H = none) {it : Nat} (h0 : cellsAt 0 H 0 (z5 o rb)) (lim : Lim 40 ((0, it) :: B) H S) (hdm : o.d < 315537897600) (hr : RuOk (bH o wF nF eF)) (hlm : (bH o wF nF eF).minute.length ≤ 100) (hls : (bH o wF nF eF).second.length ≤ 100)
 (hR : ∀ a H' S' w, St F w0 S' H' it rb (bH o wF nF eF) (sC x) { it1 o (bH o wF nF eF) [] with ts := if cS (bH o wF nF eF) { it1 o (bH o wF nF eF) [] with count := 0 } then Md.fill (bH o wF nF eF) { it1 o (bH o wF nF eF) [] with count := 0 } else [] } a ((0, it) :: B) H' S' → (∀ k, 26 ≤ k → k < 40 → lkp k S' = lkp k S) → (∀ q, q < 4096 → lkp (ky 38 q) H' = none) → Sees F w0 ((0, it) :: B) H' S' w → R (.returned (.func (.func 53) #[pT it] #[])) w) :
  GC Tryz.prog (Go.Fr.part [1, 1, 1, 1, 1, 1] (Go.Fr.bodyOf Tryz.f35)) (bodyPost Tryz.prog Tryz.f35 R) 148 [(0, pT rb), (3, pT it)] F w0 ((0, it) :: B) H S := by
 have hd_ := ok.d
 have hyp_ := tN (d := o.d / 86400) oM
 have hyd := gX (x := o.d) oM
 have hym := yQ (d := o.d / 86400) oM
 have hr51 : lkp (ky 1 51) H = some (.slice x.p13 0 x.c13) := by have := hc1.get 51 _ rfl; rw [hw0] at this; exact this
 have hr53 : lkp (ky 1 53) H = some (.slice x.q53 0 x.e53) := by have := hc1.get 53 _ rfl; rw [show (List.filter (fun y => !cP o.freq y) (bU o)).length = 0 from hd0] at this; exact this
 have hr57 : lkp (ky 1 57) H = some (.slice x.p18 0 x.c18) := by have := hc1.get 57 _ rfl; rw [he0] at this; exact this
 refine g2 ?_
 refine rl (rfa 7) ?_
 refine rl (rfa 0) ?_
 refine rl (bE 0 rfl rfl (h0.get 0 _ rfl) kR dE) ?_
 refine rl (rfa 1) ?_
 refine rl (bE 0 rfl rfl (h0.get 1 _ rfl) kR dE) ?_
 refine gL (rE (B := (0, it) :: B) (H := H) (S := S) (yv := Cal.yearOf (o.d / 86400)) (mv := Cal.monthOf (o.d / 86400)) dE kR rfl (fun w_ s_ => tG (B := (0, it) :: B) (H := H) (S := S) (ly := 0) (lm := 0) rfl hR1 (h0.get 7 _ rfl) (h0.get 8 _ rfl) (h0.get 9 _ rfl) hr51 hr53 hr57 (hc1.get 39 _ rfl) (hc1.get 40 _ rfl) (h0.get 10 _ rfl) (h0.get 11 _ rfl) (h0.get 12 _ rfl) (h0.get 13 _ rfl) (h0.get 14 _ rfl) (h0.get 15 _ rfl) (h0.get 16 _ rfl) (h0.get 17 _ rfl) (h0.get 18 _ rfl) (h0.get 19 _ rfl) (h0.get 20 _ rfl) oM oM w_ s_) (fun b6 c6 b3 c3 b4 c4 b5 c5 b7 c7 h385 => ?_))
 refine g2 ?_
 have e_w : ({ it1 o (bH o wF nF eF) [] with count := 0 } : It).wno.length = 0 := by show (wF _).length = 0; rw [hwF]; rfl
 have e_n : ({ it1 o (bH o wF nF eF) [] with count := 0 } : It).nwm.length = 0 := by show (nF _ _).length = 0; rw [hnF]; rfl
 have e_e : ({ it1 o (bH o wF nF eF) [] with count := 0 } : It).eas.length = 0 := by show (eF _).length = 0; rw [heF]; rfl
 refine dO (L' := [(0, pT rb), (3, pT it)]) kns (fun w s => ((s.aJ6 2 57 2).aJ6 1 156 2).aJ6 0 57 2) ?_
 have fin : ∀ {H' : LV} {S' : LS}, St F w0 S' H' it rb (bH o wF nF eF) (sC x) { it1 o (bH o wF nF eF) [] with count := 0 } ({ b3 := b3, c3 := c3, b4 := b4, c4 := c4, b5 := b5, c5 := c5, b6 := b6, c6 := c6, b7 := b7, c7 := c7, p20 := none, c20 := 0, p21 := none, c21 := 0, p22 := none, c22 := 0, tp := none, tc := 0, rp := none, rc := 0, rs := none, rk := 0, rn := 0, rj := 0, rall := [], bk := sN, dp := none, dc := 0, dn := 0, dxs := [], ln := iV 0 } : Ad) ((0, it) :: B) H' S' → lkp (ky 1 43) H' = some (iV o.count) → lkp 2 S' = some ⟨sN, 57, 2, 0, []⟩ → (∀ q, q < 4096 → lkp (ky 38 q) H' = none) → (∀ k, 26 ≤ k → k < 40 → lkp k S' = lkp k S) → GC Tryz.prog (Go.Fr.part [1, 1, 1, 1, 1, 1, 1] (Go.Fr.bodyOf Tryz.f35)) (bodyPost Tryz.prog Tryz.f35 R) 148 [(0, pT rb), (3, pT it)] F w0 ((0, it) :: B) H' S' := by
  intro H' S' st hcn hn2 h38n hfr26
  have hb1 : 0 ≤ o.d % 86400 / 3600 ∧ o.d % 86400 / 3600 ≤ 23 := by omega
  have hb2 : 0 ≤ o.d % 86400 / 60 % 60 ∧ o.d % 86400 / 60 % 60 ≤ 59 := by omega
  have hb3 : 0 ≤ o.d % 86400 % 60 ∧ o.d % 86400 % 60 ≤ 59 := by omega
  rcases (show o.freq = 4 ∨ o.freq = 5 ∨ o.freq = 6 by omega) with h | h | h
  ·exact aC8 st hcn hn2 h38n hr hb1 hb2 hb3 (Nat.zero_le _) hlm hls h fun a H2 S2 w h1 h2 => hR a H2 S2 w h1 (fun k h3 h4 => (h2 k h3 h4).trans (hfr26 k h3 h4))
  ·exact aDo st hcn hn2 h38n hr hb1 hb2 hb3 (Nat.zero_le _) hlm hls h fun a H2 S2 w h1 h2 => hR a H2 S2 w h1 (fun k h3 h4 => (h2 k h3 h4).trans (hfr26 k h3 h4))
  ·exact aC4 st hcn hn2 h38n hr hb1 hb2 hb3 (Nat.zero_le _) hlm hls h fun a H2 S2 w h1 h2 => hR a H2 S2 w h1 (fun k h3 h4 => (h2 k h3 h4).trans (hfr26 k h3 h4))
 refine fin ⟨rfl, hR1, (by repeat (first | exact lim | apply Lim.aJ1 _ dE dE | apply Lim.aJ2 _ dE)), (h0.get 0 _ rfl), (h0.get 1 _ rfl), (h0.get 2 _ rfl), (h0.get 3 _ rfl), (h0.get 4 _ rfl), (h0.get 5 _ rfl), (h0.get 6 _ rfl), (h0.get 7 _ rfl), rfl, rfl, rfl, rfl, rfl, rfl, rfl, rfl, rfl, rfl, rfl, rfl, (show lkp (ky 0 20) _ = some (Value.slice none ({ it1 o (bH o wF nF eF) [] with count := 0 } : It).wno.length 0) from by rw [e_w]; exact rfl), (show lkp (ky 0 21) _ = some (Value.slice none ({ it1 o (bH o wF nF eF) [] with count := 0 } : It).nwm.length 0) from by rw [e_n]; exact h0.get 21 _ rfl), (show lkp (ky 0 22) _ = some (Value.slice none ({ it1 o (bH o wF nF eF) [] with count := 0 } : It).eas.length 0) from by rw [e_e]; exact h0.get 22 _ rfl), (h0.get 23 _ rfl), (h0.get 24 _ rfl), (h0.get 25 _ rfl), (h0.get 26 _ rfl), (h0.get 27 _ rfl), (h0.get 28 _ rfl), (h0.get 29 _ rfl), rfl, rfl, rfl, rfl, rfl, rfl, rfl, rfl, (fun h => absurd h (by rw [e_w]; decide)), (fun h => absurd h (by rw [e_n]; decide)), (fun h => absurd h (by rw [e_e]; decide)), (fun h => absurd h (by rw [e_w]; decide)), (fun h => absurd h (by rw [e_n]; decide)), (fun h => absurd h (by rw [e_e]; decide)), h385, (fun _ _ _ => rfl), (fun _ _ _ _ _ => rfl), (fun _ => ⟨rfl, rfl, rfl, rfl⟩), (fun h => absurd rfl h), (hc1.get 38 _ rfl), (hc1.get 39 _ rfl), (hc1.get 40 _ rfl), (hc1.get 41 _ rfl), (hc1.get 42 _ rfl), (hc1.get 44 _ rfl), (hc1.get 45 _ rfl), (hc1.get 46 _ rfl), (hc1.get 47 _ rfl), (hc1.get 48 _ rfl), (hc1.get 49 _ rfl), (hc1.get 50 _ rfl), (hc1.get 51 _ rfl), (hc1.get 52 _ rfl), (hc1.get 53 _ rfl), (hc1.get 54 _ rfl), (hc1.get 55 _ rfl), (hc1.get 56 _ rfl), (hc1.get 57 _ rfl), (hc1.get 59 _ rfl), ((of.s9.toI dE).to aG), ((of.sm.toI dE).to aG), ((SrcI.row dE of.r12).to aG), ((SrcI.row dE of.r13).to aG), ((of.s12.toI dE).to aG), ((of.s13.toI dE).to aG), ((SrcI.row dE of.r14).to aG), ((of.sh.toI dE).to aG), ((of.si.toI dE).to aG), ((of.ss.toI dE).to aG), ((of.s18.toI dE).to aG), hlen.l46, hlen.l47, hlen.l48, hlen.l49, hlen.l50, hlen.l51, hlen.l52, hlen.l54, hlen.l55, hlen.l56, hlen.l57⟩ (hc1.get 43 _ rfl) rfl (fun q hq => ?_) (fun k h1 h2 => by repeat (first | rfl | rw [aA oM]))
 repeat (first | exact h38 q hq | rw [cH dE hq dE])
theorem aAq {o : Opn} {wF : Int → List Int} {nF : Int → Int → List Int} {eF : Int → List Int} (ok : OpOk o) (hf4 : 4 ≤ o.freq ∧ o.freq ≤ 6) (hw0 : o.weekno.length = 0) (hd0 : ((bH o wF nF eF)).nwd.length = 0) (he0 : o.easter.length = 0) (hwF : ∀ y, wF y = []) (hnF : ∀ y m, nF y m = []) (heF : ∀ y, eF y = []) (hlen : RuLen (bH o wF nF eF)) (hdm : o.d < 315537897600) (hr : RuOk (bH o wF nF eF)) (hlm : (bH o wF nF eF).minute.length ≤ 100) (hls : (bH o wF nF eF).second.length ≤ 100) : zT o (bH o wF nF eF) { it1 o (bH o wF nF eF) [] with ts := if cS (bH o wF nF eF) { it1 o (bH o wF nF eF) [] with count := 0 } then Md.fill (bH o wF nF eF) { it1 o (bH o wF nF eF) [] with count := 0 } else [] } :=
 aCa ok (fun of hR1 a1 a2 a3 a4 hR => aI7 ok hf4 hw0 hd0 he0 hwF hnF heF hlen of hR1 a1 a2 a3 a4 hdm hr hlm hls hR)
end
end Go.Proofs.YtdbbifbmkfmbkaaGreat
