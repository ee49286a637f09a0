import Derived.Test.YtdbbifbmkfmbkaaGreatDae
set_option linter.unusedVariables false
set_option linter.unusedSimpArgs false
set_option maxRecDepth 100000
set_option maxHeartbeats 8000000
namespace Go.Proofs.YtdbbifbmkfmbkaaGreat
open Go.RowKit Go.Fr Go.Tab
section
variable {F : Nat → Prop} {w0 : World} {B : List (Nat × Nat)} {H : List (Nat × Value)} {S : List (Nat × Slc)}
open Go.Md
theorem fix_code {Q : Exit → Act → World → Prop} {S0 : List (Nat × Slc)} {H0 : List (Nat × Value)} {r : Ru} {l : Ra} {it rb : Nat} {s : It} {a : Ad} (st : St F w0 S0 H0 it rb r l s a B H S) (hr : RuOk r) (hw0 : r.weekno.length = 0) (hd0 : r.nwd.length = 0) (he0 : r.easter.length = 0) (hwn : s.wno = r.wnoF s.ly) (hnw : s.nwm = r.nwmF s.ly s.lm) (hea : s.eas = r.easF s.ly) (hd : 1 ≤ s.d ∧ s.d ≤ 1000000) (hmo : 1 ≤ s.mo ∧ s.mo ≤ 12) (hy : 1 ≤ s.y ∧ s.y ≤ 9999) (hly : 1 ≤ s.ly ∧ s.ly ≤ 9999) (hfin : s.fin = false)
  (hn : ∀ o a' H' S', o = fix r s → o.fin = false → St F w0 S0 H0 it rb r l o a' B H' S' → GE Q .normal 1418 [(0, pT it), (2, pT rb)] F w0 B H' S')
  (hq : ∀ o a' H' S', o = fix r s → o.fin = true → St F w0 S0 H0 it rb r l o a' B H' S' → GE Q .ret 1418 [] F w0 B H' S') : GC Go.Proofs.Tryz.prog (Go.Fr.part [1, 1, 0, 0, 1, 0, 1, 1, 1, 1, 1, 1, 1, 1] (Go.Fr.bodyOf Tryz.f96)) Q 1418 [(0, pT it), (2, pT rb), (42, .bool true)] F w0 B H S := by
 refine g9 ?_
 refine rl (rfa 2) ?_
 refine g1 ?_
 refine rl (rld 0 rfl st.hB st.h2) ?_
 refine g5 ?_
 refine GC_cond rfl (fun hc1 => ?_) (fun hc2 => ?_)
 ·have h28 : 28 < s.d := of_decide_eq_true hc1
  refine g1 ?_
  refine GC_tail 8 kR kR ?_
  refine g2 ?_
  refine rt (rfa 1) ?_
  refine rt (rld 0 rfl st.hB st.h1) ?_
  refine g2 ?_
  refine rt (rfa 0) ?_
  refine rt (rld 0 rfl st.hB st.h0) ?_
  refine g1 ?_
  refine gL (cvo rfl (fun w_ s_ => daysIn_calls _ _ oM oM w_) ?_)
  refine g7 ?_
  refine rl (rfa 2) ?_
  refine rl (rld 0 rfl st.hB st.h2) ?_
  refine g4 ?_
  refine GC_cond rfl (fun hc1 => ?_) (fun hc2 => ?_)
  ·have hgt : Cal.mdays s.mo s.y < s.d := of_decide_eq_true hc1
   have hfix : fix r s = fixGo r s.d.toNat s := by unfold fix; rw [if_neg oM]
   refine g2 ?_
   refine GC_loop (ι := (Nat) × (It) × (List (Nat × Value))) (fun | ⟨n, s1, H1⟩ => n) (fun | ⟨n, s1, H1⟩ => (fixGo r n s1 = fixGo r s.d.toNat s) ∧ (1 ≤ s1.d ∧ s1.d ≤ n ∧ n ≤ 1000000) ∧ (1 ≤ s1.mo ∧ s1.mo ≤ 12) ∧ (1 ≤ s1.y ∧ s1.y ≤ 9999) ∧ (s1.ly = s.ly ∧ s1.lm = s.lm ∧ s1.wno = s.wno ∧ s1.nwm = s.nwm ∧ s1.eas = s.eas ∧ s1.fin = s.fin) ∧ (St F w0 S0 H0 it rb r l s1 a B H1 S)) (fun | ⟨n, s1, H1⟩ => [(0, pT it), (2, pT rb), (51, iV (Cal.mdays s1.mo s1.y))]) (fun | ⟨n, s1, H1⟩ => B) (fun | ⟨n, s1, H1⟩ => H1) (fun | ⟨n, s1, H1⟩ => S) ⟨s.d.toNat, s, H⟩ ⟨rfl, by omega, hmo, hy, ⟨rfl, rfl, rfl, rfl, rfl, rfl⟩, st⟩ kns (fun w s => by exact s) ?_
   rintro ⟨n, s1, H1⟩ ⟨hgo, hnd, hmo1, hy1, hsm, hst⟩
   show GC _ _ _ _ [(0, pT it), (2, pT rb), (51, iV (Cal.mdays s1.mo s1.y))] _ _ (B) (H1) (S)
   obtain ⟨m, rfl⟩ : ∃ m, n = m + 1 := ⟨n - 1, by omega⟩
   have hmd := Cal.mdays_bd s1.mo s1.y
   have hfin1 : s1.fin = false := hsm.2.2.2.2.2.trans hfin
   refine g5 ?_
   refine rl (rfa 2) ?_
   refine rl (rld 0 rfl hst.hB hst.h2) ?_
   refine g4 ?_
   refine GC_cond rfl (fun hc1 => ?_) (fun hc2 => ?_)
   ·have hgt1 : Cal.mdays s1.mo s1.y < s1.d := of_decide_eq_true hc1
    refine g7 ?_
    refine rl (rfa 2) ?_
    refine rl (rld 0 rfl hst.hB hst.h2) ?_
    refine g3 ?_
    refine rl (rfa 2) ?_
    refine gL (sto 0 rfl rfl hst.hB hst.h2 ?_)
    refine g6 ?_
    refine rl (rfa 1) ?_
    refine rl (rld 0 rfl hst.hB hst.h1) ?_
    refine g2 ?_
    refine rl (rfa 1) ?_
    refine gL (sto 0 rfl rfl hst.hB hst.h1 ?_)
    refine g7 ?_
    refine rl (rfa 1) ?_
    refine rl (rld 0 rfl hst.hB rfl) ?_
    refine g3 ?_
    refine GC_cond rfl (fun hc1 => ?_) (fun hc2 => ?_)
    ·have h13 : s1.mo + 1 = 13 := beq_iff_eq.1 hc1
     refine g4 ?_
     refine rl (rfa 1) ?_
     refine gL (sto 0 rfl rfl hst.hB rfl ?_)
     refine g6 ?_
     refine rl (rfa 0) ?_
     refine rl (rld 0 rfl hst.hB hst.h0) ?_
     refine g2 ?_
     refine rl (rfa 0) ?_
     refine gL (sto 0 rfl rfl hst.hB hst.h0 ?_)
     refine g6 ?_
     refine rl (rfa 0) ?_
     refine rl (rld 0 rfl hst.hB rfl) ?_
     refine g3 ?_
     refine GC_cond rfl (fun hc1 => ?_) (fun hc2 => ?_)
     ·have hbig : 9999 < s1.y + 1 := of_decide_eq_true hc1
      have hfg : fixGo r s.d.toNat s = { s1 with d := s1.d - Cal.mdays s1.mo s1.y, mo := 1, y := s1.y + 1, fin := true } := by rw [← hgo]; simp only [fixGo]; rw [if_neg oM, if_pos h13, if_pos hbig]
      refine g5 ?_
      refine rl (rfa 24) ?_
      refine rl (rld 0 rfl hst.hB hst.h24) ?_
      refine g1 ?_
      refine rl (rfa 59) ?_
      refine gL (sto 1 rfl rfl hst.hR hst.r59 ?_)
      refine g6 ?_
      refine rl (rfa 28) ?_
      refine gL (sto 0 rfl rfl hst.hB hst.h28 ?_)
      refine g8 ?_
      refine GE_to (fun a q => q.nil) (fun w s => s) (hq ({ s1 with d := s1.d - Cal.mdays s1.mo s1.y, mo := 1, y := s1.y + 1, fin := true }) ({ a with ln := iV s1.total }) _ _ (hfg.symm.trans hfix.symm) (rfl) ⟨hst.hB, hst.hR, (by repeat (first | exact hst.lim | apply Lim.consH _ dE dE | apply Lim.consS _ dE)), rfl, rfl, rfl, hst.h3, hst.h4, hst.h5, hst.h6, hst.h7, hst.h8, hst.h9, hst.h10, hst.h11, hst.h12, hst.h13, hst.h14, hst.h15, hst.h16, hst.h17, hst.h18, hst.h19, hst.h20, hst.h21, hst.h22, hst.h23, hst.h24, hst.h25, hst.h26, hst.h27, rfl, hst.h29, hst.hS0, hst.hS1, hst.hS2, hst.hS3, hst.hS4, hst.hS5, hst.hS6, hst.hS7, hst.hS8, hst.hS9, hst.hS10, hst.hp20, hst.hp21, hst.hp22, hst.c6, (fun k_ h1_ h2_ => Eq.trans aH (hst.frS k_ h1_ h2_)), (fun k_ h1_ h2_ o_ ho_ => Eq.trans (by repeat (first | rfl | rw [lkp_ky_ne oM ho_ dE])) (hst.frH k_ h1_ h2_ o_ ho_)), hst.hq0, hst.hq1, hst.r38, hst.r39, hst.r40, hst.r41, hst.r42, hst.r44, hst.r45, hst.r46, hst.r47, hst.r48, hst.r49, hst.r50, hst.r51, hst.r52, hst.r53, hst.r54, hst.r55, hst.r56, hst.r57, rfl, (hst.hI46.to aG), (hst.hI47.to aG), (hst.hI48.to aG), (hst.hI49.to aG), (hst.hI50.to aG), (hst.hI51.to aG), (hst.hI52.to aG), (hst.hI54.to aG), (hst.hI55.to aG), (hst.hI56.to aG), (hst.hI57.to aG), hst.hl46, hst.hl47, hst.hl48, hst.hl49, hst.hl50, hst.hl51, hst.hl52, hst.hl54, hst.hl55, hst.hl56, hst.hl57⟩)
     ·have hbig : ¬ 9999 < s1.y + 1 := of_decide_eq_false hc2
      have hgo1 : fixGo r m ({ s1 with d := s1.d - Cal.mdays s1.mo s1.y, mo := 1, y := s1.y + 1 }) = fixGo r s.d.toNat s := by rw [← hgo]; conv => rhs; simp only [fixGo]; rw [if_neg oM, if_pos h13, if_neg hbig]
      refine g2 ?_
      refine GC_tail 8 kR kR ?_
      refine g2 ?_
      refine rt (rfa 1) ?_
      refine rt (rld 0 rfl hst.hB rfl) ?_
      refine g2 ?_
      refine rt (rfa 0) ?_
      refine rt (rld 0 rfl hst.hB rfl) ?_
      refine g1 ?_
      refine gL (cvo rfl (fun w_ s_ => daysIn_calls _ _ oM oM w_) ?_)
      refine g3 ?_
      refine GE_back ⟨m, ({ s1 with d := s1.d - Cal.mdays s1.mo s1.y, mo := 1, y := s1.y + 1 } : It), (ky 0 0, iV (s1.y + 1)) :: (ky 0 1, iV 1) :: (ky 0 1, iV (s1.mo + 1)) :: (ky 0 2, iV (s1.d - Cal.mdays s1.mo s1.y)) :: H1⟩ sO ⟨hgo1, by simp only; omega, by simp only; omega, by simp only; omega, hsm, ⟨hst.hB, hst.hR, (by repeat (first | exact hst.lim | apply Lim.consH _ dE dE | apply Lim.consS _ dE)), rfl, rfl, rfl, hst.h3, hst.h4, hst.h5, hst.h6, hst.h7, hst.h8, hst.h9, hst.h10, hst.h11, hst.h12, hst.h13, hst.h14, hst.h15, hst.h16, hst.h17, hst.h18, hst.h19, hst.h20, hst.h21, hst.h22, hst.h23, hst.h24, hst.h25, hst.h26, hst.h27, hst.h28, hst.h29, hst.hS0, hst.hS1, hst.hS2, hst.hS3, hst.hS4, hst.hS5, hst.hS6, hst.hS7, hst.hS8, hst.hS9, hst.hS10, hst.hp20, hst.hp21, hst.hp22, hst.c6, (fun k_ h1_ h2_ => Eq.trans aH (hst.frS k_ h1_ h2_)), (fun k_ h1_ h2_ o_ ho_ => Eq.trans (by repeat (first | rfl | rw [lkp_ky_ne oM ho_ dE])) (hst.frH k_ h1_ h2_ o_ ho_)), hst.hq0, hst.hq1, hst.r38, hst.r39, hst.r40, hst.r41, hst.r42, hst.r44, hst.r45, hst.r46, hst.r47, hst.r48, hst.r49, hst.r50, hst.r51, hst.r52, hst.r53, hst.r54, hst.r55, hst.r56, hst.r57, hst.r59, (hst.hI46.to aG), (hst.hI47.to aG), (hst.hI48.to aG), (hst.hI49.to aG), (hst.hI50.to aG), (hst.hI51.to aG), (hst.hI52.to aG), (hst.hI54.to aG), (hst.hI55.to aG), (hst.hI56.to aG), (hst.hI57.to aG), hst.hl46, hst.hl47, hst.hl48, hst.hl49, hst.hl50, hst.hl51, hst.hl52, hst.hl54, hst.hl55, hst.hl56, hst.hl57⟩⟩ kns (fun w s => by exact s)
    ·have h13 : s1.mo + 1 ≠ 13 := beq_eq_false_iff_ne.1 hc2
     have hgo1 : fixGo r m ({ s1 with d := s1.d - Cal.mdays s1.mo s1.y, mo := s1.mo + 1 }) = fixGo r s.d.toNat s := by rw [← hgo]; conv => rhs; simp only [fixGo]; rw [if_neg oM, if_neg h13]
     refine g2 ?_
     refine GC_tail 8 kR kR ?_
     refine g2 ?_
     refine rt (rfa 1) ?_
     refine rt (rld 0 rfl hst.hB rfl) ?_
     refine g2 ?_
     refine rt (rfa 0) ?_
     refine rt (rld 0 rfl hst.hB hst.h0) ?_
     refine g1 ?_
     refine gL (cvo rfl (fun w_ s_ => daysIn_calls _ _ oM oM w_) ?_)
     refine g3 ?_
     refine GE_back ⟨m, ({ s1 with d := s1.d - Cal.mdays s1.mo s1.y, mo := s1.mo + 1 } : It), (ky 0 1, iV (s1.mo + 1)) :: (ky 0 2, iV (s1.d - Cal.mdays s1.mo s1.y)) :: H1⟩ sO ⟨hgo1, by simp only; omega, by simp only; omega, hy1, hsm, ⟨hst.hB, hst.hR, (by repeat (first | exact hst.lim | apply Lim.consH _ dE dE | apply Lim.consS _ dE)), hst.h0, rfl, rfl, hst.h3, hst.h4, hst.h5, hst.h6, hst.h7, hst.h8, hst.h9, hst.h10, hst.h11, hst.h12, hst.h13, hst.h14, hst.h15, hst.h16, hst.h17, hst.h18, hst.h19, hst.h20, hst.h21, hst.h22, hst.h23, hst.h24, hst.h25, hst.h26, hst.h27, hst.h28, hst.h29, hst.hS0, hst.hS1, hst.hS2, hst.hS3, hst.hS4, hst.hS5, hst.hS6, hst.hS7, hst.hS8, hst.hS9, hst.hS10, hst.hp20, hst.hp21, hst.hp22, hst.c6, (fun k_ h1_ h2_ => Eq.trans aH (hst.frS k_ h1_ h2_)), (fun k_ h1_ h2_ o_ ho_ => Eq.trans (by repeat (first | rfl | rw [lkp_ky_ne oM ho_ dE])) (hst.frH k_ h1_ h2_ o_ ho_)), hst.hq0, hst.hq1, hst.r38, hst.r39, hst.r40, hst.r41, hst.r42, hst.r44, hst.r45, hst.r46, hst.r47, hst.r48, hst.r49, hst.r50, hst.r51, hst.r52, hst.r53, hst.r54, hst.r55, hst.r56, hst.r57, hst.r59, (hst.hI46.to aG), (hst.hI47.to aG), (hst.hI48.to aG), (hst.hI49.to aG), (hst.hI50.to aG), (hst.hI51.to aG), (hst.hI52.to aG), (hst.hI54.to aG), (hst.hI55.to aG), (hst.hI56.to aG), (hst.hI57.to aG), hst.hl46, hst.hl47, hst.hl48, hst.hl49, hst.hl50, hst.hl51, hst.hl52, hst.hl54, hst.hl55, hst.hl56, hst.hl57⟩⟩ kns (fun w s => by exact s)
   ·have hgt1 : ¬ Cal.mdays s1.mo s1.y < s1.d := of_decide_eq_false hc2
    have hfg : fixGo r s.d.toNat s = reb r s1 s1.y s1.mo := by rw [← hgo]; simp only [fixGo]; rw [if_pos oM]
    refine g5 ?_
    refine GC_tail 11 kR kR ?_
    refine g2 ?_
    refine rt (rfa 7) ?_
    refine g2 ?_
    refine rt (rfa 0) ?_
    refine rt (rld 0 rfl hst.hB hst.h0) ?_
    refine g2 ?_
    refine rt (rfa 1) ?_
    refine rt (rld 0 rfl hst.hB hst.h1) ?_
    refine g1 ?_
    refine gL (at_call_reb (it := it) (rb := rb) (r := r) (l := l) (s := reb r (s1) s1.y s1.mo) dE kR rfl (rebuild_st hst hr hw0 hd0 he0 (by rw [hsm.2.2.1, hsm.1]; exact hwn) (by rw [hsm.2.2.2.1, hsm.1, hsm.2.1]; exact hnw) (by rw [hsm.2.2.2.2.1, hsm.1]; exact hea) oM) (fun a2 H2 S2 st2 => ?_))
    refine g1 ?_
    refine GE_to kns (fun w s => s) (hn (reb r s1 s1.y s1.mo) (a2) _ _ (hfg.symm.trans hfix.symm) (hfin1) st2)
  ·have hgt : ¬ Cal.mdays s.mo s.y < s.d := of_decide_eq_false hc2
   have hfix : fix r s = s := by unfold fix; rw [if_pos (.inr oM)]
   refine g1 ?_
   refine GE_to kns (fun w s => s) (hn (s) (a) _ _ (hfix.symm) (hfin) st)
 ·have h28 : ¬ 28 < s.d := of_decide_eq_false hc2
  have hfix : fix r s = s := by unfold fix; rw [if_pos (.inl oM)]
  refine g1 ?_
  refine GE_to kns (fun w s => s) (hn (s) (a) _ _ (hfix.symm) (hfin) st)
theorem adv_yearly {Q : Exit → Act → World → Prop} {S0 : List (Nat × Slc)} {H0 : List (Nat × Value)} {r : Ru} {l : Ra} {it rb : Nat} {s : It} {a : Ad} (st : St F w0 S0 H0 it rb r l s a B H S) (hr : RuOk r) (hw0 : r.weekno.length = 0) (hd0 : r.nwd.length = 0) (he0 : r.easter.length = 0) (hwn : s.wno = r.wnoF s.ly) (hnw : s.nwm = r.nwmF s.ly s.lm) (hea : s.eas = r.easF s.ly) (hy : 1 ≤ s.y ∧ s.y ≤ 9999) (hmo : 1 ≤ s.mo ∧ s.mo ≤ 12) (hd : 1 ≤ s.d ∧ s.d ≤ 31) (hwd : 0 ≤ s.wd ∧ s.wd ≤ 6) (hly : 1 ≤ s.ly ∧ s.ly ≤ 9999) (hfin : s.fin = false) (hfr : r.freq = 0) {flt : Bool}
  (hn : ∀ o a' H' S', o = adv r flt s → o.fin = false → St F w0 S0 H0 it rb r l o a' B H' S' → GE Q .normal 1418 [(0, pT it), (2, pT rb)] F w0 B H' S')
  (hq : ∀ o a' H' S', o = adv r flt s → o.fin = true → St F w0 S0 H0 it rb r l o a' B H' S' → GE Q .ret 1418 [] F w0 B H' S') : GC Go.Proofs.Tryz.prog (Go.Fr.part [1, 1, 0, 0, 1, 0, 1, 1, 1, 1, 1, 1] (Go.Fr.bodyOf Tryz.f96)) Q 1418 [(0, pT it), (2, pT rb), (6, .bool flt)] F w0 B H S := by
 have hiv := hr.interval
 have hwk := hr.wkst
 refine g10 ?_
 refine rl (rfa 38) ?_
 refine rl (rld 1 rfl st.hR st.r38) ?_
 refine rl ((rd_eql rfl rfl).to (v' := .bool true) (congrArg Value.bool (by rw [hfr]; rfl))) ?_
 refine g2 ?_
 refine GC_is_true rfl rfl ?_
 refine g1 ?_
 refine GC_tail 11 kR kR ?_
 refine g2 ?_
 refine rt (rfa 0) ?_
 refine rt (rld 0 rfl st.hB st.h0) ?_
 refine g2 ?_
 refine rt (rfa 41) ?_
 refine rt (rld 1 rfl st.hR st.r41) ?_
 refine g2 ?_
 refine rt (rfa 0) ?_
 refine g1 ?_
 refine gL (sto 0 rfl rfl st.hB st.h0 ?_)
 refine g7 ?_
 refine rl (rfa 0) ?_
 refine rl (rld 0 rfl st.hB rfl) ?_
 refine g3 ?_
 refine GC_cond rfl (fun hc1 => ?_) (fun hc2 => ?_)
 ·have hbig : 9999 < s.y + r.interval := of_decide_eq_true hc1
  have hadv : adv r flt s = { s with y := s.y + r.interval, fin := true } := by unfold adv; rw [if_pos hfr, if_pos hbig]
  refine g5 ?_
  refine rl (rfa 24) ?_
  refine rl (rld 0 rfl st.hB st.h24) ?_
  refine g1 ?_
  refine rl (rfa 59) ?_
  refine gL (sto 1 rfl rfl st.hR st.r59 ?_)
  refine g6 ?_
  refine rl (rfa 28) ?_
  refine gL (sto 0 rfl rfl st.hB st.h28 ?_)
  refine g5 ?_
  refine GE_to (fun a q => q.nil) (fun w s => s) (hq ({ s with y := s.y + r.interval, fin := true }) ({ a with ln := iV s.total }) _ _ (hadv.symm) (rfl) ⟨st.hB, st.hR, (by repeat (first | exact st.lim | apply Lim.consH _ dE dE | apply Lim.consS _ dE)), rfl, st.h1, st.h2, st.h3, st.h4, st.h5, st.h6, st.h7, st.h8, st.h9, st.h10, st.h11, st.h12, st.h13, st.h14, st.h15, st.h16, st.h17, st.h18, st.h19, st.h20, st.h21, st.h22, st.h23, st.h24, st.h25, st.h26, st.h27, rfl, st.h29, st.hS0, st.hS1, st.hS2, st.hS3, st.hS4, st.hS5, st.hS6, st.hS7, st.hS8, st.hS9, st.hS10, st.hp20, st.hp21, st.hp22, st.c6, (fun k_ h1_ h2_ => Eq.trans aH (st.frS k_ h1_ h2_)), (fun k_ h1_ h2_ o_ ho_ => Eq.trans (by repeat (first | rfl | rw [lkp_ky_ne oM ho_ dE])) (st.frH k_ h1_ h2_ o_ ho_)), st.hq0, st.hq1, st.r38, st.r39, st.r40, st.r41, st.r42, st.r44, st.r45, st.r46, st.r47, st.r48, st.r49, st.r50, st.r51, st.r52, st.r53, st.r54, st.r55, st.r56, st.r57, rfl, (st.hI46.to aG), (st.hI47.to aG), (st.hI48.to aG), (st.hI49.to aG), (st.hI50.to aG), (st.hI51.to aG), (st.hI52.to aG), (st.hI54.to aG), (st.hI55.to aG), (st.hI56.to aG), (st.hI57.to aG), st.hl46, st.hl47, st.hl48, st.hl49, st.hl50, st.hl51, st.hl52, st.hl54, st.hl55, st.hl56, st.hl57⟩)
 ·have hbig : ¬ 9999 < s.y + r.interval := of_decide_eq_false hc2
  have hadv : adv r flt s = reb r { s with y := s.y + r.interval } (s.y + r.interval) s.mo := by unfold adv; rw [if_pos hfr, if_neg hbig]
  refine g2 ?_
  refine GC_tail 11 kR kR ?_
  refine g2 ?_
  refine rt (rfa 7) ?_
  refine g2 ?_
  refine rt (rfa 0) ?_
  refine rt (rld 0 rfl st.hB rfl) ?_
  refine g2 ?_
  refine rt (rfa 1) ?_
  refine rt (rld 0 rfl st.hB st.h1) ?_
  refine g1 ?_
  refine gL (at_call_reb (it := it) (rb := rb) (r := r) (l := l) (s := reb r ({ s with y := s.y + r.interval }) (s.y + r.interval) s.mo) dE kR rfl (rebuild_st (⟨st.hB, st.hR, (by repeat (first | exact st.lim | apply Lim.consH _ dE dE | apply Lim.consS _ dE)), rfl, st.h1, st.h2, st.h3, st.h4, st.h5, st.h6, st.h7, st.h8, st.h9, st.h10, st.h11, st.h12, st.h13, st.h14, st.h15, st.h16, st.h17, st.h18, st.h19, st.h20, st.h21, st.h22, st.h23, st.h24, st.h25, st.h26, st.h27, st.h28, st.h29, st.hS0, st.hS1, st.hS2, st.hS3, st.hS4, st.hS5, st.hS6, st.hS7, st.hS8, st.hS9, st.hS10, st.hp20, st.hp21, st.hp22, st.c6, (fun k_ h1_ h2_ => Eq.trans aH (st.frS k_ h1_ h2_)), (fun k_ h1_ h2_ o_ ho_ => Eq.trans (by repeat (first | rfl | rw [lkp_ky_ne oM ho_ dE])) (st.frH k_ h1_ h2_ o_ ho_)), st.hq0, st.hq1, st.r38, st.r39, st.r40, st.r41, st.r42, st.r44, st.r45, st.r46, st.r47, st.r48, st.r49, st.r50, st.r51, st.r52, st.r53, st.r54, st.r55, st.r56, st.r57, st.r59, (st.hI46.to aG), (st.hI47.to aG), (st.hI48.to aG), (st.hI49.to aG), (st.hI50.to aG), (st.hI51.to aG), (st.hI52.to aG), (st.hI54.to aG), (st.hI55.to aG), (st.hI56.to aG), (st.hI57.to aG), st.hl46, st.hl47, st.hl48, st.hl49, st.hl50, st.hl51, st.hl52, st.hl54, st.hl55, st.hl56, st.hl57⟩ : St F w0 S0 H0 it rb r l { s with y := s.y + r.interval } a B ((ky 0 0, iV (s.y + r.interval)) :: H) S) hr hw0 hd0 he0 hwn hnw hea oM) (fun a2 H2 S2 st2 => ?_))
  refine g14 ?_
  refine GC_is_false rfl rfl ?_
  refine g1 ?_
  refine GE_to kns (fun w s => s) (hn (reb r { s with y := s.y + r.interval } (s.y + r.interval) s.mo) (a2) _ _ (hadv.symm) (hfin) st2)
theorem adv_daily {Q : Exit → Act → World → Prop} {S0 : List (Nat × Slc)} {H0 : List (Nat × Value)} {r : Ru} {l : Ra} {it rb : Nat} {s : It} {a : Ad} (st : St F w0 S0 H0 it rb r l s a B H S) (hr : RuOk r) (hw0 : r.weekno.length = 0) (hd0 : r.nwd.length = 0) (he0 : r.easter.length = 0) (hwn : s.wno = r.wnoF s.ly) (hnw : s.nwm = r.nwmF s.ly s.lm) (hea : s.eas = r.easF s.ly) (hy : 1 ≤ s.y ∧ s.y ≤ 9999) (hmo : 1 ≤ s.mo ∧ s.mo ≤ 12) (hd : 1 ≤ s.d ∧ s.d ≤ 31) (hwd : 0 ≤ s.wd ∧ s.wd ≤ 6) (hly : 1 ≤ s.ly ∧ s.ly ≤ 9999) (hfin : s.fin = false) (hfr : r.freq = 3) {flt : Bool}
  (hn : ∀ o a' H' S', o = adv r flt s → o.fin = false → St F w0 S0 H0 it rb r l o a' B H' S' → GE Q .normal 1418 [(0, pT it), (2, pT rb)] F w0 B H' S')
  (hq : ∀ o a' H' S', o = adv r flt s → o.fin = true → St F w0 S0 H0 it rb r l o a' B H' S' → GE Q .ret 1418 [] F w0 B H' S') : GC Go.Proofs.Tryz.prog (Go.Fr.part [1, 1, 0, 0, 1, 0, 1, 1, 1, 1, 1, 1] (Go.Fr.bodyOf Tryz.f96)) Q 1418 [(0, pT it), (2, pT rb), (6, .bool flt)] F w0 B H S := by
 have hiv := hr.interval
 have hwk := hr.wkst
 refine g10 ?_
 refine rl (rfa 38) ?_
 refine rl (rld 1 rfl st.hR st.r38) ?_
 refine rl ((rd_eql rfl rfl).to (v' := .bool false) (congrArg Value.bool (by rw [hfr]; rfl))) ?_
 refine g2 ?_
 refine GC_is_false rfl rfl ?_
 refine g4 ?_
 refine rl (rfa 38) ?_
 refine rl (rld 1 rfl st.hR st.r38) ?_
 refine rl ((rd_eql rfl rfl).to (v' := .bool false) (congrArg Value.bool (by rw [hfr]; rfl))) ?_
 refine g2 ?_
 refine GC_is_false rfl rfl ?_
 refine g4 ?_
 refine rl (rfa 38) ?_
 refine rl (rld 1 rfl st.hR st.r38) ?_
 refine rl ((rd_eql rfl rfl).to (v' := .bool false) (congrArg Value.bool (by rw [hfr]; rfl))) ?_
 refine g2 ?_
 refine GC_is_false rfl rfl ?_
 refine g4 ?_
 refine rl (rfa 38) ?_
 refine rl (rld 1 rfl st.hR st.r38) ?_
 refine rl ((rd_eql rfl rfl).to (v' := .bool true) (congrArg Value.bool (by rw [hfr]; rfl))) ?_
 refine g2 ?_
 refine GC_is_true rfl rfl ?_
 refine g1 ?_
 refine GC_tail 11 kR kR ?_
 refine g2 ?_
 refine rt (rfa 2) ?_
 refine rt (rld 0 rfl st.hB st.h2) ?_
 refine g2 ?_
 refine rt (rfa 41) ?_
 refine rt (rld 1 rfl st.hR st.r41) ?_
 refine g2 ?_
 refine rt (rfa 2) ?_
 refine g1 ?_
 refine gL (sto 0 rfl rfl st.hB st.h2 ?_)
 refine g6 ?_
 refine GC_to (L' := [(0, pT it), (2, pT rb), (42, .bool true)]) kns (fun w s => s) ?_
 have hadv : adv r flt s = fix r { s with d := s.d + r.interval } := by unfold adv; rw [if_neg oM, if_neg oM, if_neg oM, if_pos hfr]
 refine fix_code (s := { s with d := s.d + r.interval }) (a := a) (H := (ky 0 2, iV (s.d + r.interval)) :: H) (⟨st.hB, st.hR, (by repeat (first | exact st.lim | apply Lim.consH _ dE dE | apply Lim.consS _ dE)), st.h0, st.h1, rfl, st.h3, st.h4, st.h5, st.h6, st.h7, st.h8, st.h9, st.h10, st.h11, st.h12, st.h13, st.h14, st.h15, st.h16, st.h17, st.h18, st.h19, st.h20, st.h21, st.h22, st.h23, st.h24, st.h25, st.h26, st.h27, st.h28, st.h29, st.hS0, st.hS1, st.hS2, st.hS3, st.hS4, st.hS5, st.hS6, st.hS7, st.hS8, st.hS9, st.hS10, st.hp20, st.hp21, st.hp22, st.c6, (fun k_ h1_ h2_ => Eq.trans aH (st.frS k_ h1_ h2_)), (fun k_ h1_ h2_ o_ ho_ => Eq.trans (by repeat (first | rfl | rw [lkp_ky_ne oM ho_ dE])) (st.frH k_ h1_ h2_ o_ ho_)), st.hq0, st.hq1, st.r38, st.r39, st.r40, st.r41, st.r42, st.r44, st.r45, st.r46, st.r47, st.r48, st.r49, st.r50, st.r51, st.r52, st.r53, st.r54, st.r55, st.r56, st.r57, st.r59, (st.hI46.to aG), (st.hI47.to aG), (st.hI48.to aG), (st.hI49.to aG), (st.hI50.to aG), (st.hI51.to aG), (st.hI52.to aG), (st.hI54.to aG), (st.hI55.to aG), (st.hI56.to aG), (st.hI57.to aG), st.hl46, st.hl47, st.hl48, st.hl49, st.hl50, st.hl51, st.hl52, st.hl54, st.hl55, st.hl56, st.hl57⟩ : St F w0 S0 H0 it rb r l { s with d := s.d + r.interval } a B ((ky 0 2, iV (s.d + r.interval)) :: H) S) hr hw0 hd0 he0 hwn hnw hea sO hmo hy hly hfin (fun o a' H' S' ho => hn o a' H' S' (ho.trans hadv.symm)) (fun o a' H' S' ho => hq o a' H' S' (ho.trans hadv.symm))
theorem adv_weekly {Q : Exit → Act → World → Prop} {S0 : List (Nat × Slc)} {H0 : List (Nat × Value)} {r : Ru} {l : Ra} {it rb : Nat} {s : It} {a : Ad} (st : St F w0 S0 H0 it rb r l s a B H S) (hr : RuOk r) (hw0 : r.weekno.length = 0) (hd0 : r.nwd.length = 0) (he0 : r.easter.length = 0) (hwn : s.wno = r.wnoF s.ly) (hnw : s.nwm = r.nwmF s.ly s.lm) (hea : s.eas = r.easF s.ly) (hy : 1 ≤ s.y ∧ s.y ≤ 9999) (hmo : 1 ≤ s.mo ∧ s.mo ≤ 12) (hd : 1 ≤ s.d ∧ s.d ≤ 31) (hwd : 0 ≤ s.wd ∧ s.wd ≤ 6) (hly : 1 ≤ s.ly ∧ s.ly ≤ 9999) (hfin : s.fin = false) (hfr : r.freq = 2) {flt : Bool}
  (hn : ∀ o a' H' S', o = adv r flt s → o.fin = false → St F w0 S0 H0 it rb r l o a' B H' S' → GE Q .normal 1418 [(0, pT it), (2, pT rb)] F w0 B H' S')
  (hq : ∀ o a' H' S', o = adv r flt s → o.fin = true → St F w0 S0 H0 it rb r l o a' B H' S' → GE Q .ret 1418 [] F w0 B H' S') : GC Go.Proofs.Tryz.prog (Go.Fr.part [1, 1, 0, 0, 1, 0, 1, 1, 1, 1, 1, 1] (Go.Fr.bodyOf Tryz.f96)) Q 1418 [(0, pT it), (2, pT rb), (6, .bool flt)] F w0 B H S := by
 have hiv := hr.interval
 have hwk := hr.wkst
 refine g10 ?_
 refine rl (rfa 38) ?_
 refine rl (rld 1 rfl st.hR st.r38) ?_
 refine rl ((rd_eql rfl rfl).to (v' := .bool false) (congrArg Value.bool (by rw [hfr]; rfl))) ?_
 refine g2 ?_
 refine GC_is_false rfl rfl ?_
 refine g4 ?_
 refine rl (rfa 38) ?_
 refine rl (rld 1 rfl st.hR st.r38) ?_
 refine rl ((rd_eql rfl rfl).to (v' := .bool false) (congrArg Value.bool (by rw [hfr]; rfl))) ?_
 refine g2 ?_
 refine GC_is_false rfl rfl ?_
 refine g4 ?_
 refine rl (rfa 38) ?_
 refine rl (rld 1 rfl st.hR st.r38) ?_
 refine rl ((rd_eql rfl rfl).to (v' := .bool true) (congrArg Value.bool (by rw [hfr]; rfl))) ?_
 refine g2 ?_
 refine GC_is_true rfl rfl ?_
 refine g5 ?_
 refine rq (rfa 42) ?_
 refine rq (rld 1 rfl st.hR st.r42) ?_
 refine g2 ?_
 refine rq (rfa 6) ?_
 refine rq (rld 0 rfl st.hB st.h6) ?_
 refine g3 ?_
 refine GC_cond rfl (fun hc1 => ?_) (fun hc2 => ?_)
 ·have hlt : s.wd < r.wkst := of_decide_eq_true hc1
  refine GC_tail 25 kR kR ?_
  refine g2 ?_
  refine rt (rfa 2) ?_
  refine rt (rld 0 rfl st.hB st.h2) ?_
  refine g2 ?_
  refine rt (rfa 6) ?_
  refine rt (rld 0 rfl st.hB st.h6) ?_
  refine g3 ?_
  refine rt (rfa 42) ?_
  refine rt (rld 1 rfl st.hR st.r42) ?_
  refine g5 ?_
  refine rt (rfa 41) ?_
  refine rt (rld 1 rfl st.hR st.r41) ?_
  refine g4 ?_
  refine rt (rfa 2) ?_
  refine g1 ?_
  refine gL (sto 0 rfl rfl st.hB st.h2 ?_)
  refine g7 ?_
  refine rl (rfa 42) ?_
  refine rl (rld 1 rfl st.hR st.r42) ?_
  refine g1 ?_
  refine rl (rfa 6) ?_
  refine gL (sto 0 rfl rfl st.hB st.h6 ?_)
  refine g6 ?_
  refine GC_to (L' := [(0, pT it), (2, pT rb), (42, .bool true)]) kns (fun w s => s) ?_
  have hadv : adv r flt s = fix r { s with d := s.d + (-(s.wd + 1 + (6 - r.wkst)) + r.interval * 7), wd := r.wkst } := by unfold adv; rw [if_neg oM, if_neg oM, if_pos hfr, if_pos hlt]
  refine fix_code (s := { s with d := s.d + (-(s.wd + 1 + (6 - r.wkst)) + r.interval * 7), wd := r.wkst }) (a := a) (H := (ky 0 6, iV r.wkst) :: (ky 0 2, iV (s.d + (-(s.wd + 1 + (6 - r.wkst)) + r.interval * 7))) :: H) (⟨st.hB, st.hR, (by repeat (first | exact st.lim | apply Lim.consH _ dE dE | apply Lim.consS _ dE)), st.h0, st.h1, rfl, st.h3, st.h4, st.h5, rfl, st.h7, st.h8, st.h9, st.h10, st.h11, st.h12, st.h13, st.h14, st.h15, st.h16, st.h17, st.h18, st.h19, st.h20, st.h21, st.h22, st.h23, st.h24, st.h25, st.h26, st.h27, st.h28, st.h29, st.hS0, st.hS1, st.hS2, st.hS3, st.hS4, st.hS5, st.hS6, st.hS7, st.hS8, st.hS9, st.hS10, st.hp20, st.hp21, st.hp22, st.c6, (fun k_ h1_ h2_ => Eq.trans aH (st.frS k_ h1_ h2_)), (fun k_ h1_ h2_ o_ ho_ => Eq.trans (by repeat (first | rfl | rw [lkp_ky_ne oM ho_ dE])) (st.frH k_ h1_ h2_ o_ ho_)), st.hq0, st.hq1, st.r38, st.r39, st.r40, st.r41, st.r42, st.r44, st.r45, st.r46, st.r47, st.r48, st.r49, st.r50, st.r51, st.r52, st.r53, st.r54, st.r55, st.r56, st.r57, st.r59, (st.hI46.to aG), (st.hI47.to aG), (st.hI48.to aG), (st.hI49.to aG), (st.hI50.to aG), (st.hI51.to aG), (st.hI52.to aG), (st.hI54.to aG), (st.hI55.to aG), (st.hI56.to aG), (st.hI57.to aG), st.hl46, st.hl47, st.hl48, st.hl49, st.hl50, st.hl51, st.hl52, st.hl54, st.hl55, st.hl56, st.hl57⟩ : St F w0 S0 H0 it rb r l { s with d := s.d + (-(s.wd + 1 + (6 - r.wkst)) + r.interval * 7), wd := r.wkst } a B ((ky 0 6, iV r.wkst) :: (ky 0 2, iV (s.d + (-(s.wd + 1 + (6 - r.wkst)) + r.interval * 7))) :: H) S) hr hw0 hd0 he0 hwn hnw hea sO hmo hy hly hfin (fun o a' H' S' ho => hn o a' H' S' (ho.trans hadv.symm)) (fun o a' H' S' ho => hq o a' H' S' (ho.trans hadv.symm))
 ·have hlt : ¬ s.wd < r.wkst := of_decide_eq_false hc2
  refine GC_tail 23 kR kR ?_
  refine g2 ?_
  refine rt (rfa 2) ?_
  refine rt (rld 0 rfl st.hB st.h2) ?_
  refine g2 ?_
  refine rt (rfa 6) ?_
  refine rt (rld 0 rfl st.hB st.h6) ?_
  refine g2 ?_
  refine rt (rfa 42) ?_
  refine rt (rld 1 rfl st.hR st.r42) ?_
  refine g4 ?_
  refine rt (rfa 41) ?_
  refine rt (rld 1 rfl st.hR st.r41) ?_
  refine g4 ?_
  refine rt (rfa 2) ?_
  refine g1 ?_
  refine gL (sto 0 rfl rfl st.hB st.h2 ?_)
  refine g7 ?_
  refine rl (rfa 42) ?_
  refine rl (rld 1 rfl st.hR st.r42) ?_
  refine g1 ?_
  refine rl (rfa 6) ?_
  refine gL (sto 0 rfl rfl st.hB st.h6 ?_)
  refine g6 ?_
  refine GC_to (L' := [(0, pT it), (2, pT rb), (42, .bool true)]) kns (fun w s => s) ?_
  have hadv : adv r flt s = fix r { s with d := s.d + (-(s.wd - r.wkst) + r.interval * 7), wd := r.wkst } := by unfold adv; rw [if_neg oM, if_neg oM, if_pos hfr, if_neg hlt]
  refine fix_code (s := { s with d := s.d + (-(s.wd - r.wkst) + r.interval * 7), wd := r.wkst }) (a := a) (H := (ky 0 6, iV r.wkst) :: (ky 0 2, iV (s.d + (-(s.wd - r.wkst) + r.interval * 7))) :: H) (⟨st.hB, st.hR, (by repeat (first | exact st.lim | apply Lim.consH _ dE dE | apply Lim.consS _ dE)), st.h0, st.h1, rfl, st.h3, st.h4, st.h5, rfl, st.h7, st.h8, st.h9, st.h10, st.h11, st.h12, st.h13, st.h14, st.h15, st.h16, st.h17, st.h18, st.h19, st.h20, st.h21, st.h22, st.h23, st.h24, st.h25, st.h26, st.h27, st.h28, st.h29, st.hS0, st.hS1, st.hS2, st.hS3, st.hS4, st.hS5, st.hS6, st.hS7, st.hS8, st.hS9, st.hS10, st.hp20, st.hp21, st.hp22, st.c6, (fun k_ h1_ h2_ => Eq.trans aH (st.frS k_ h1_ h2_)), (fun k_ h1_ h2_ o_ ho_ => Eq.trans (by repeat (first | rfl | rw [lkp_ky_ne oM ho_ dE])) (st.frH k_ h1_ h2_ o_ ho_)), st.hq0, st.hq1, st.r38, st.r39, st.r40, st.r41, st.r42, st.r44, st.r45, st.r46, st.r47, st.r48, st.r49, st.r50, st.r51, st.r52, st.r53, st.r54, st.r55, st.r56, st.r57, st.r59, (st.hI46.to aG), (st.hI47.to aG), (st.hI48.to aG), (st.hI49.to aG), (st.hI50.to aG), (st.hI51.to aG), (st.hI52.to aG), (st.hI54.to aG), (st.hI55.to aG), (st.hI56.to aG), (st.hI57.to aG), st.hl46, st.hl47, st.hl48, st.hl49, st.hl50, st.hl51, st.hl52, st.hl54, st.hl55, st.hl56, st.hl57⟩ : St F w0 S0 H0 it rb r l { s with d := s.d + (-(s.wd - r.wkst) + r.interval * 7), wd := r.wkst } a B ((ky 0 6, iV r.wkst) :: (ky 0 2, iV (s.d + (-(s.wd - r.wkst) + r.interval * 7))) :: H) S) hr hw0 hd0 he0 hwn hnw hea sO hmo hy hly hfin (fun o a' H' S' ho => hn o a' H' S' (ho.trans hadv.symm)) (fun o a' H' S' ho => hq o a' H' S' (ho.trans hadv.symm))
end
end Go.Proofs.YtdbbifbmkfmbkaaGreat
namespace Go.Proofs.YtdbbifbmkfmbkaaGreat
open Go.RowKit Go.Fr Go.Tab
section
variable {F : Nat → Prop} {w0 : World} {B : List (Nat × Nat)} {H : List (Nat × Value)} {S : List (Nat × Slc)}
open Go.Md
theorem Gen_fin {r : Ru} {n : Nat} {s sEnd : It} (h : Gen r n s sEnd) (hr : s.rem = []) (hf : (round r s).fin = true) : sEnd = round r s := by
 cases h with
 | done h => exact absurd hr h
 | fin _ _ => rfl
 | more _ h _ => rw [hf] at h; cases h
theorem Gen_more {r : Ru} {n : Nat} {s sEnd : It} (h : Gen r n s sEnd) (hr : s.rem = []) (hf : (round r s).fin = false) : ∃ m, m < n ∧ Gen r m (round r s) sEnd := by
 cases h with
 | done h => exact absurd hr h
 | fin _ h => rw [hf] at h; cases h
 | more _ _ h => exact ⟨_, Nat.lt_succ_self _, h⟩
theorem Gen_done {r : Ru} {n : Nat} {s sEnd : It} (h : Gen r n s sEnd) (hr : s.rem ≠ []) : sEnd = s := by
 cases h with
 | done _ => rfl
 | fin h _ => exact absurd h hr
 | more h _ _ => exact absurd h hr
theorem round_out {r : Ru} {s : It} (h : (out r s).fin = true) : round r s = out r s := by unfold round; rw [if_pos h]
theorem round_adv {r : Ru} {s : It} (h : (out r s).fin = false) : round r s = adv r (filtered r s) (out r s) := by unfold round; rw [if_neg (by rw [h]; decide)]
def AdvW (r : Ru) : Prop := ∀ (F : Nat → Prop) (w0 : World) (B : List (Nat × Nat)) (H : List (Nat × Value)) (S S0 : List (Nat × Slc)) (H0 : List (Nat × Value)) (l : Ra) (it rb : Nat) (s : It) (a : Ad) (Q : Exit → Act → World → Prop) (flt : Bool), St F w0 S0 H0 it rb r l s a B H S → ∀ s0, ItOk r s0 → Same s0 s → s.fin = false →
  ∀ (hn : ∀ o a' H' S', o = adv r flt s → o.fin = false → St F w0 S0 H0 it rb r l o a' B H' S' → GE Q .normal 1418 [(0, pT it), (2, pT rb)] F w0 B H' S')
  (hq : ∀ o a' H' S', o = adv r flt s → o.fin = true → St F w0 S0 H0 it rb r l o a' B H' S' → GE Q .ret 1418 [] F w0 B H' S'), GC Go.Proofs.Tryz.prog (Go.Fr.part [1, 1, 0, 0, 1, 0, 1, 1, 1, 1, 1, 1] (Go.Fr.bodyOf Tryz.f96)) Q 1418 [(0, pT it), (2, pT rb), (6, .bool flt)] F w0 B H S
structure Plain (r : Ru) : Prop where
 setl : r.setpos.length ≤ 1000
 setb : ∀ q ∈ r.setpos, -1000 ≤ q ∧ q ≤ 1000
 adv : AdvW r
theorem generate_fin {S0 : List (Nat × Slc)} {H0 : List (Nat × Value)} {r : Ru} {l : Ra} {it rb : Nat} {s : It} {a : Ad} (st : St F w0 S0 H0 it rb r l s a B H S) (hfin : s.fin = true) : ∀ w, Sees F w0 B H S w → Calls Go.Proofs.Tryz.prog 96 #[pT it] w fun e w' => e = .returned (.tuple #[]) ∧ ∃ a H' S', St F w0 S0 H0 it rb r l s a B H' S' ∧ Sees F w0 B H' S' w' := by
 intro w s
 refine calls_GC (args := [pT it]) (L := [(0, pT it)]) (N := 1418) Tryz.func96 rfl rfl ble rfl s ?_
 refine g5 ?_
 refine rl (rfa 28) ?_
 refine rl (rld 0 rfl st.hB st.h28) ?_
 refine g2 ?_
 refine GC_is_true rfl hfin ?_
 refine g2 ?_
 refine GE_ret0 (.inl rfl) rfl fun w s => ⟨rfl, a, _, _, st, s⟩
theorem generate_calls {S0 : List (Nat × Slc)} {H0 : List (Nat × Value)} {r : Ru} {l : Ra} {it rb : Nat} {s : It} {a : Ad} (st : St F w0 S0 H0 it rb r l s a B H S) (hr : RuOk r) (hp : Plain r) {n : Nat} {sEnd : It} (hG : Gen r n s sEnd) (hk : ItOk r s) (hfin : s.fin = false)
  (hpres : ∀ s, ItOk r s → s.rem = [] → s.fin = false → (round r s).fin = false → ItOk r (round r s)) : ∀ w, Sees F w0 B H S w → Calls Go.Proofs.Tryz.prog 96 #[pT it] w fun e w' => e = .returned (.tuple #[]) ∧ ∃ a H' S', St F w0 S0 H0 it rb r l sEnd a B H' S' ∧ Sees F w0 B H' S' w' := by
 intro w s_
 refine calls_GC (args := [pT it]) (L := [(0, pT it)]) (N := 1418) Tryz.func96 rfl rfl ble rfl s_ ?_
 refine g5 ?_
 refine rl (rfa 28) ?_
 refine rl (rld 0 rfl st.hB st.h28) ?_
 refine g2 ?_
 refine GC_is_false rfl hfin ?_
 refine g6 ?_
 refine rl (rfa 7) ?_
 refine rl (rfa 0) ?_
 refine rl (rld 0 rfl st.hB st.h7) ?_
 refine g4 ?_
 refine GC_loop (ι := (Nat) × (It) × (Ad) × (List (Nat × Value)) × (List (Nat × Slc))) (fun | ⟨n1, s1, a1, H1, S1⟩ => n1) (fun | ⟨n1, s1, a1, H1, S1⟩ => (Gen r n1 s1 sEnd) ∧ (ItOk r s1) ∧ (s1.fin = false) ∧ (St F w0 S0 H0 it rb r l s1 a1 B H1 S1)) (fun | ⟨n1, s1, a1, H1, S1⟩ => [(0, pT it), (2, pT rb)]) (fun | ⟨n1, s1, a1, H1, S1⟩ => B) (fun | ⟨n1, s1, a1, H1, S1⟩ => H1) (fun | ⟨n1, s1, a1, H1, S1⟩ => S1) ⟨n, s, a, H, S⟩ ⟨hG, hk, hfin, st⟩ kns (fun w s => by exact s) ?_
 rintro ⟨n1, s1, a1, H1, S1⟩ ⟨hG1, hk1, hf1, st1⟩
 show GC _ _ _ _ [(0, pT it), (2, pT rb)] _ _ (B) (H1) (S1)
 refine g5 ?_
 refine rl (rfa 26) ?_
 refine rl (rd_load2 0 rfl st1.hB st1.h26 st1.h27 kR dE) ?_
 refine gL (at_call_same (v := iV (s1.rem.length : Int)) dE kR rfl (len_calls (st1.lim.mono dE)) ?_)
 refine g3 ?_
 refine GC_cond rfl (fun hc1 => ?_) (fun hc2 => ?_)
 ·have hrem : s1.rem = [] := List.eq_nil_of_length_eq_zero (by have := beq_iff_eq.1 hc1; omega)
  refine g3 ?_
  refine GC_to (L' := [(0, pT it), (2, pT rb)]) kns (fun w s => s) ?_
  refine round_front (B := B) (H := H1) (S := S1) ?_ st1 hr hk1 hrem hf1 hp.setl hp.setb (fun o a' H' S' ho hof hsm st' => ?_) (fun o a' H' S' ho hof hsm st' => ?_)
  ·exact Blind.inBlock (Blind.then (Blind.inBlock Blind.body))
  ·refine hp.adv F w0 B H' S' _ _ _ _ _ _ _ _ _ st' s1 hk1 hsm hof (fun o2 a2 H2 S2 ho2 hof2 st2 => ?_) (fun o2 a2 H2 S2 ho2 hof2 st2 => ?_)
   ·have hround : round r s1 = o2 := by rw [round_adv (by rw [← ho]; exact hof), ← ho]; exact ho2.symm
    obtain ⟨m, hm, hG2⟩ := Gen_more hG1 hrem (by rw [hround]; exact hof2)
    have hk2 := hpres s1 hk1 hrem hf1 (by rw [hround]; exact hof2)
    rw [hround] at hG2 hk2
    exact GE_in (GE_back (B := B) (H := H2) (S := S2) ⟨m, o2, a2, H2, S2⟩ hm ⟨hG2, hk2, hof2, st2⟩ kns (fun w s => s))
   ·have hround : round r s1 = o2 := by rw [round_adv (by rw [← ho]; exact hof), ← ho]; exact ho2.symm
    have hend := Gen_fin hG1 hrem (by rw [hround]; exact hof2)
    rw [hround] at hend; subst hend
    repeat (first | refine GE_in_ret ?_ | refine GE_then_ret ?_)
    exact GE_ret0 (.inl rfl) rfl fun w s => ⟨rfl, a2, H2, S2, st2, s⟩
  ·have hround : round r s1 = o := (round_out (by rw [← ho]; exact hof)).trans ho.symm
   have hend := Gen_fin hG1 hrem (by rw [hround]; exact hof)
   rw [hround] at hend; subst hend
   repeat (first | refine GE_in_ret ?_ | refine GE_then_ret ?_)
   exact GE_ret0 (.inl rfl) rfl fun w s => ⟨rfl, a', H', S', st', s⟩
 ·have hrem : s1.rem ≠ [] := fun h => by have := beq_eq_false_iff_ne.1 hc2; rw [h] at this; exact this rfl
  have hend := Gen_done hG1 hrem
  refine g4 ?_
  subst hend
  refine GE_ret0 (.inr rfl) rfl fun w s => ⟨rfl, a1, _, _, st1, s⟩
end
end Go.Proofs.YtdbbifbmkfmbkaaGreat
namespace Go.Proofs.YtdbbifbmkfmbkaaGreat
open Go.RowKit Go.Fr Go.Tab
section
variable {F : Nat → Prop} {w0 : World} {B : List (Nat × Nat)} {H : List (Nat × Value)} {S : List (Nat × Slc)}
open Go.Md
def popV (s : It) : Value := match s.rem with
 | [] => .tuple #[.agg #[iV 0, iV 0], .bool false]
 | t :: _ => .tuple #[.agg #[iV t, iV 0], .bool true]
theorem pop_st {S0 : List (Nat × Slc)} {H0 : List (Nat × Value)} {r : Ru} {l : Ra} {it rb : Nat} {s : It} {a : Ad} (st : St F w0 S0 H0 it rb r l s a B H S) : ∀ w, Sees F w0 B H S w → Calls Go.Proofs.Tryz.prog 97 #[.pointer (some ⟨it, 26, none⟩)] w fun e w' => ∃ a' H' S', e = .returned (popV s) ∧ St F w0 S0 H0 it rb r l { s with rem := s.rem.tail } a' B H' S' ∧ Sees F w0 B H' S' w' := by
 intro w hs
 cases hrem : s.rem with
 | nil =>
  have h26 := st.h26
  rw [hrem] at h26
  refine (pop_none (st.lim.mono dE) st.hB h26 w hs).mono ?_
  rintro e w' ⟨he, hs'⟩
  refine ⟨a, H, S, ?_, ?_, hs'⟩
  ·rw [he]; unfold popV; rw [hrem]
  ·have e1 : ({ s with rem := s.rem.tail } : It) = s := by rw [hrem]; cases s; simp only at hrem; subst hrem; rfl
   rw [hrem] at e1
   exact e1.symm ▸ st
 | cons t rest =>
  have hne : s.rem ≠ [] := by rw [hrem]; exact List.cons_ne_nil _ _
  obtain ⟨q1, q2, q3, q4, q5, q6⟩ := st.hq1 hne
  obtain ⟨g, hrp, hcap⟩ := hs.head 0 st.hS0 oM
  have hrs := q1 g hrp
  have hlen : s.rem.length = a.rn - a.rj := by rw [q2, List.length_drop, q3]
  have h26 := st.h26
  rw [hrs, q5, hlen] at h26
  have hS0 := st.hS0
  have hrow : (⟨.slice a.rp a.rn a.rc, 57, 2, a.rn, tcells a.rall⟩ : Slc).v = sL g a.rn a.rc := by rw [hrp]
  have hrj : a.rall[a.rj]? = some t := by
   have : (a.rall.drop a.rj)[0]? = some t := by rw [← q2, hrem]; rfl
   rwa [List.getElem?_drop, Nat.add_zero] at this
  obtain ⟨hx, hy⟩ := tcells_get hrj
  have hrest : rest = a.rall.drop (a.rj + 1) := by
   have : (t :: rest).tail = (a.rall.drop a.rj).tail := by rw [← hrem, q2]
   rw [List.tail_drop] at this
   exact this
  have hrl : rest.length = a.rn - (a.rj + 1) := by rw [hrest, List.length_drop, q3]
  by_cases hlast : a.rj + 1 = a.rn
  ·have h27 := st.h27
   rw [q6, hrp] at h27
   refine (pop_last (st.lim.mono dE) st.hB hlast hcap h26 h27 hS0 hrow hx hy w hs).mono ?_
   rintro e w' ⟨u, he, hs'⟩
   have hs2 := hs'.cut 0 hS0 rfl 0 (Nat.zero_le _)
   have hr0 : rest = [] := List.eq_nil_of_length_eq_zero oM
   unfold sL at hs2; rw [← hrp] at hs2
   refine ⟨{ a with rs := a.rp, rk := a.rc, rn := 0, rall := [], rj := 0 }, _, _, ?_, ?_, hs2⟩
   ·rw [he]; unfold popV; rw [hrem]
   ·subst hr0
    exact ⟨st.hB, st.hR, (by repeat (first | exact st.lim | apply Lim.consH _ dE dE | apply Lim.consS _ dE)), st.h0, st.h1, st.h2, st.h3, st.h4, st.h5, st.h6, st.h7, st.h8, st.h9, st.h10, st.h11, st.h12, st.h13, st.h14, st.h15, st.h16, st.h17, st.h18, st.h19, st.h20, st.h21, st.h22, st.h23, st.h24, st.h25, rfl, st.h27, st.h28, st.h29, rfl, st.hS1, st.hS2, st.hS3, st.hS4, st.hS5, st.hS6, st.hS7, st.hS8, st.hS9, st.hS10, st.hp20, st.hp21, st.hp22, st.c6, (fun k_ h1_ h2_ => Eq.trans aH (st.frS k_ h1_ h2_)), (fun k_ h1_ h2_ o_ ho_ => Eq.trans (by repeat (first | rfl | rw [lkp_ky_ne oM ho_ dE])) (st.frH k_ h1_ h2_ o_ ho_)), (fun _ => ⟨rfl, rfl, rfl, rfl⟩), (fun h => absurd rfl h), st.r38, st.r39, st.r40, st.r41, st.r42, st.r44, st.r45, st.r46, st.r47, st.r48, st.r49, st.r50, st.r51, st.r52, st.r53, st.r54, st.r55, st.r56, st.r57, st.r59, (st.hI46.to aG), (st.hI47.to aG), (st.hI48.to aG), (st.hI49.to aG), (st.hI50.to aG), (st.hI51.to aG), (st.hI52.to aG), (st.hI54.to aG), (st.hI55.to aG), (st.hI56.to aG), (st.hI57.to aG), st.hl46, st.hl47, st.hl48, st.hl49, st.hl50, st.hl51, st.hl52, st.hl54, st.hl55, st.hl56, st.hl57⟩
  ·refine (pop_more (st.lim.mono dE) st.hB oM hcap h26 hS0 hrow hx hy w hs).mono ?_
   rintro e w' ⟨he, hs'⟩
   refine ⟨{ a with rs := some ⟨g, 2 * (a.rj + 1), none⟩, rk := a.rc - (a.rj + 1), rj := a.rj + 1 }, _, _, ?_, ?_, hs'⟩
   ·rw [he]; unfold popV; rw [hrem]
   ·exact ⟨st.hB, st.hR, (by repeat (first | exact st.lim | apply Lim.consH _ dE dE | apply Lim.consS _ dE)), st.h0, st.h1, st.h2, st.h3, st.h4, st.h5, st.h6, st.h7, st.h8, st.h9, st.h10, st.h11, st.h12, st.h13, st.h14, st.h15, st.h16, st.h17, st.h18, st.h19, st.h20, st.h21, st.h22, st.h23, st.h24, st.h25, (by simp only [List.tail_cons]; rw [hrl]; rfl), st.h27, st.h28, st.h29, st.hS0, st.hS1, st.hS2, st.hS3, st.hS4, st.hS5, st.hS6, st.hS7, st.hS8, st.hS9, st.hS10, st.hp20, st.hp21, st.hp22, st.c6, (fun k_ h1_ h2_ => Eq.trans aH (st.frS k_ h1_ h2_)), (fun k_ h1_ h2_ o_ ho_ => Eq.trans (by repeat (first | rfl | rw [lkp_ky_ne oM ho_ dE])) (st.frH k_ h1_ h2_ o_ ho_)), (fun h => absurd (congrArg List.length h) (by simp only [List.tail_cons, List.length_nil]; omega)), (fun _ => ⟨fun g2 e2 => by rw [hrp] at e2; cases e2; rfl, hrest, q3, by simp only; omega, rfl, q6⟩), st.r38, st.r39, st.r40, st.r41, st.r42, st.r44, st.r45, st.r46, st.r47, st.r48, st.r49, st.r50, st.r51, st.r52, st.r53, st.r54, st.r55, st.r56, st.r57, st.r59, (st.hI46.to aG), (st.hI47.to aG), (st.hI48.to aG), (st.hI49.to aG), (st.hI50.to aG), (st.hI51.to aG), (st.hI52.to aG), (st.hI54.to aG), (st.hI55.to aG), (st.hI56.to aG), (st.hI57.to aG), st.hl46, st.hl47, st.hl48, st.hl49, st.hl50, st.hl51, st.hl52, st.hl54, st.hl55, st.hl56, st.hl57⟩
def GenTo (r : Ru) (n : Nat) (s e : It) : Prop := (s.fin = true ∧ e = s) ∨ (s.fin = false ∧ Gen r n s e ∧ ItOk r s)
def Pres (r : Ru) : Prop := ∀ s, ItOk r s → s.rem = [] → s.fin = false → (round r s).fin = false → ItOk r (round r s)
theorem gen_to {S0 : List (Nat × Slc)} {H0 : List (Nat × Value)} {r : Ru} {l : Ra} {it rb : Nat} {s : It} {a : Ad} (st : St F w0 S0 H0 it rb r l s a B H S) (hr : RuOk r) (hp : Plain r) (hpres : Pres r) {n : Nat} {sEnd : It} (hG : GenTo r n s sEnd) : ∀ w, Sees F w0 B H S w → Calls Go.Proofs.Tryz.prog 96 #[pT it] w fun e w' => e = .returned (.tuple #[]) ∧ ∃ a H' S', St F w0 S0 H0 it rb r l sEnd a B H' S' ∧ Sees F w0 B H' S' w' := by
 rcases hG with ⟨hf, rfl⟩ | ⟨hf, hG, hk⟩
 ·exact generate_fin st hf
 ·exact generate_calls st hr hp hG hk hf hpres
theorem St.drop38 {b : Nat} {S0 : List (Nat × Slc)} {H0 : List (Nat × Value)} {r : Ru} {l : Ra} {it rb : Nat} {s : It} {a : Ad} (st : St F w0 S0 H0 it rb r l s a B H S) {s3 : It} {a3 : Ad} {H3 : List (Nat × Value)} {S3 : List (Nat × Slc)} (st3 : St F w0 S (putKeys 38 0 [iV 0, iV 0] ++ H) it rb r l s3 a3 ((38, b) :: B) H3 S3) (h38h : ∀ o, o < 4096 → lkp (ky 38 o) H0 = none) : St F w0 S0 H0 it rb r l s3 a3 B (dropH 38 H3) S3 := ⟨st3.hB, st3.hR, ⟨fun k_ h_ => by have := st3.lim.b k_ h_; rwa [lkp_cons_ne oM] at this, fun k_ h_ o_ ho_ => (lkp_dropH (by rw [ky_div ho_]; omega)).trans (st3.lim.h k_ h_ o_ ho_), st3.lim.s⟩, (lkp_dropH dE).trans st3.h0, (lkp_dropH dE).trans st3.h1, (lkp_dropH dE).trans st3.h2, (lkp_dropH dE).trans st3.h3, (lkp_dropH dE).trans st3.h4, (lkp_dropH dE).trans st3.h5, (lkp_dropH dE).trans st3.h6, (lkp_dropH dE).trans st3.h7, (lkp_dropH dE).trans st3.h8, (lkp_dropH dE).trans st3.h9, (lkp_dropH dE).trans st3.h10, (lkp_dropH dE).trans st3.h11, (lkp_dropH dE).trans st3.h12, (lkp_dropH dE).trans st3.h13, (lkp_dropH dE).trans st3.h14, (lkp_dropH dE).trans st3.h15, (lkp_dropH dE).trans st3.h16, (lkp_dropH dE).trans st3.h17, (lkp_dropH dE).trans st3.h18, (lkp_dropH dE).trans st3.h19, (lkp_dropH dE).trans st3.h20, (lkp_dropH dE).trans st3.h21, (lkp_dropH dE).trans st3.h22, (lkp_dropH dE).trans st3.h23, (lkp_dropH dE).trans st3.h24, (lkp_dropH dE).trans st3.h25, (lkp_dropH dE).trans st3.h26, (lkp_dropH dE).trans st3.h27, (lkp_dropH dE).trans st3.h28, (lkp_dropH dE).trans st3.h29, st3.hS0, st3.hS1, st3.hS2, st3.hS3, st3.hS4, st3.hS5, st3.hS6, st3.hS7, st3.hS8, st3.hS9, st3.hS10, st3.hp20, st3.hp21, st3.hp22, st3.c6, (fun k_ h1_ h2_ => (st3.frS k_ h1_ h2_).trans (st.frS k_ h1_ h2_)), (fun k_ h1_ h2_ o_ ho_ => by by_cases e_ : k_ = 38; { subst e_; rw [lkp_dropped ho_, h38h o_ ho_] }; { rw [lkp_dropH (by rw [ky_div ho_]; exact e_), st3.frH k_ h1_ h2_ o_ ho_, lkp_put_ne e_ ho_ _ _ ble]; exact st.frH k_ h1_ h2_ o_ ho_ }), st3.hq0, st3.hq1, (lkp_dropH dE).trans st3.r38, (lkp_dropH dE).trans st3.r39, (lkp_dropH dE).trans st3.r40, (lkp_dropH dE).trans st3.r41, (lkp_dropH dE).trans st3.r42, (lkp_dropH dE).trans st3.r44, (lkp_dropH dE).trans st3.r45, (lkp_dropH dE).trans st3.r46, (lkp_dropH dE).trans st3.r47, (lkp_dropH dE).trans st3.r48, (lkp_dropH dE).trans st3.r49, (lkp_dropH dE).trans st3.r50, (lkp_dropH dE).trans st3.r51, (lkp_dropH dE).trans st3.r52, (lkp_dropH dE).trans st3.r53, (lkp_dropH dE).trans st3.r54, (lkp_dropH dE).trans st3.r55, (lkp_dropH dE).trans st3.r56, (lkp_dropH dE).trans st3.r57, (lkp_dropH dE).trans st3.r59, st3.hI46, st3.hI47, st3.hI48, st3.hI49, st3.hI50, st3.hI51, st3.hI52, st3.hI54, st3.hI55, st3.hI56, st3.hI57, st3.hl46, st3.hl47, st3.hl48, st3.hl49, st3.hl50, st3.hl51, st3.hl52, st3.hl54, st3.hl55, st3.hl56, st3.hl57⟩
theorem next_calls {S0 : List (Nat × Slc)} {H0 : List (Nat × Value)} {r : Ru} {l : Ra} {it rb : Nat} {s : It} {a : Ad} (st : St F w0 S0 H0 it rb r l s a B H S) (h38b : lkp 38 B = none) (h38h : ∀ o, o < 4096 → lkp (ky 38 o) H0 = none) (hr : RuOk r) (hp : Plain r) (hpres : Pres r) {n : Nat} {sEnd : It} (hG : GenTo r n s sEnd) : ∀ w, Sees F w0 B H S w → Calls Go.Proofs.Tryz.prog 53 #[pT it] w fun e w' => ∃ a' H' S', e = .returned (popV sEnd) ∧ St F w0 S0 H0 it rb r l { sEnd with rem := sEnd.rem.tail } a' B H' S' ∧ Sees F w0 B H' S' w' := by
 intro w s_
 refine calls_GC (args := [pT it]) (L := [(0, pT it)]) (N := 12) Tryz.func53 rfl rfl ble rfl s_ ?_
 refine g2 ?_
 refine gL (at_alloc 38 (cs := [iV 0, iV 0]) dE kR h38b (fun o ho => (st.frH 38 dE dE o ho).trans (h38h o ho)) ble (fun b1_ hbb1_ => ?_))
 refine g6 ?_
 have st38 : St F w0 S (putKeys 38 0 [iV 0, iV 0] ++ H) it rb r l s a ((38, b1_) :: B) (putKeys 38 0 [iV 0, iV 0] ++ H) S := ⟨st.hB, st.hR, (Lim.putH dE _ 0 ble (st.lim.consB dE)), st.h0, st.h1, st.h2, st.h3, st.h4, st.h5, st.h6, st.h7, st.h8, st.h9, st.h10, st.h11, st.h12, st.h13, st.h14, st.h15, st.h16, st.h17, st.h18, st.h19, st.h20, st.h21, st.h22, st.h23, st.h24, st.h25, st.h26, st.h27, st.h28, st.h29, st.hS0, st.hS1, st.hS2, st.hS3, st.hS4, st.hS5, st.hS6, st.hS7, st.hS8, st.hS9, st.hS10, st.hp20, st.hp21, st.hp22, st.c6, (fun _ _ _ => rfl), (fun _ _ _ _ _ => rfl), st.hq0, st.hq1, st.r38, st.r39, st.r40, st.r41, st.r42, st.r44, st.r45, st.r46, st.r47, st.r48, st.r49, st.r50, st.r51, st.r52, st.r53, st.r54, st.r55, st.r56, st.r57, st.r59, st.hI46, st.hI47, st.hI48, st.hI49, st.hI50, st.hI51, st.hI52, st.hI54, st.hI55, st.hI56, st.hI57, st.hl46, st.hl47, st.hl48, st.hl49, st.hl50, st.hl51, st.hl52, st.hl54, st.hl55, st.hl56, st.hl57⟩
 refine gL (at_call (ι := Ad × List (Nat × Value) × List (Nat × Slc)) (fun _ => .tuple #[]) (fun x => St F w0 S (putKeys 38 0 [iV 0, iV 0] ++ H) it rb r l sEnd x.1 ((38, b1_) :: B) x.2.1 x.2.2) (fun _ => ((38, b1_) :: B)) (fun x => x.2.1) (fun x => x.2.2) dE kR rfl (fun w_ s_ => (gen_to st38 hr hp hpres hG w_ s_).mono fun e w' ⟨he, a', H', S', hst, hs⟩ => ⟨(a', H', S'), hst, he, hs⟩) (fun | (a2, H2, S2), st2 => ?_))
 refine g6 ?_
 refine rl (rfa 26) ?_
 refine gL (at_call (ι := Ad × List (Nat × Value) × List (Nat × Slc)) (fun _ => popV sEnd) (fun x => St F w0 S (putKeys 38 0 [iV 0, iV 0] ++ H) it rb r l { sEnd with rem := sEnd.rem.tail } x.1 ((38, b1_) :: B) x.2.1 x.2.2) (fun _ => ((38, b1_) :: B)) (fun x => x.2.1) (fun x => x.2.2) dE kR rfl (fun w_ s_ => (pop_st st2 w_ s_).mono fun e w' ⟨a', H', S', he, hst, hs⟩ => ⟨(a', H', S'), hst, he, hs⟩) (fun | (a3, H3, S3), st3 => ?_))
 have q0 : lkp (ky 38 0) H3 = some (iV 0) := (st3.frH 38 dE dE 0 dE).trans rfl
 have q1 : lkp (ky 38 1) H3 = some (iV 0) := (st3.frH 38 dE dE 1 dE).trans rfl
 obtain ⟨tv, bv, hpv⟩ : ∃ (tv : Int) (bv : Bool), popV sEnd = .tuple #[.agg #[iV tv, iV 0], .bool bv] := by unfold popV; cases sEnd.rem with | nil => exact ⟨0, false, rfl⟩ | cons t _ => exact ⟨t, true, rfl⟩
 rw [hpv]
 refine g2 ?_
 refine gL (at_storeAgg 38 rfl rfl rfl (knwn2 q0 q1) kR rfl ble ?_)
 refine g4 ?_
 refine GE_ret2 (.inl rfl) rfl (res_cell2 38 rfl rfl rfl rfl kR) (res_tmp rfl) fun w s => ⟨a3, _, _, rfl, St.drop38 (s3 := { sEnd with rem := sEnd.rem.tail }) (a3 := a3) (H3 := H3) (S3 := S3) st st3 h38h, ?_⟩
 have s2 := s.dropTag h38b
 rw [dropH_seq _ _ ble] at s2
 exact s2
end
end Go.Proofs.YtdbbifbmkfmbkaaGreat
namespace Go.Md
structure Opn where
 freq : Int
 d : Int
 interval : Int
 wkst : Int
 count : Int
 u : Int
 setpos : List Int
 month : List Int
 mday : List Int
 yday : List Int
 weekno : List Int
 wday : List (Int × Int)
 hour : List Int
 minute : List Int
 second : List Int
 easter : List Int
def noDays (o : Opn) : Bool := o.weekno.length == 0 && o.yday.length == 0 && o.mday.length == 0 && o.wday.length == 0 && o.easter.length == 0
def month' (o : Opn) : List Int := if noDays o ∧ o.freq = 0 ∧ o.month.length = 0 then [Cal.monthOf (o.d / 86400)] else o.month
def mday' (o : Opn) : List Int := if noDays o ∧ (o.freq = 0 ∨ o.freq = 1) then [Cal.mdayOf (o.d / 86400)] else o.mday
def wday' (o : Opn) : List (Int × Int) := if noDays o ∧ o.freq = 2 then [(((o.d / 86400 + 1) % 7 + 6) % 7, 0)] else o.wday
def plainW (f : Int) (x : Int × Int) : Bool := x.2 == 0 || decide (1 < f)
def hour' (o : Opn) : List Int := if o.hour.length = 0 then (if o.freq < 4 then [o.d % 86400 / 3600] else []) else o.hour
def minute' (o : Opn) : List Int := if o.minute.length = 0 then (if o.freq < 5 then [o.d % 86400 / 60 % 60] else []) else o.minute
def second' (o : Opn) : List Int := if o.second.length = 0 then (if o.freq < 6 then [o.d % 86400 % 60] else []) else o.second
def until0 (o : Opn) : Int := if o.u = 0 then o.d + 9223372036 else o.u
def until1 (o : Opn) : Int := if o.u = 0 then 854775807 else 0
def posM (l : List Int) : List Int := l.filter fun x => decide (0 < x)
def negM (l : List Int) : List Int := l.filter fun x => decide (x < 0)
def ruOf (o : Opn) (wnoF : Int → List Int) (nwmF : Int → Int → List Int) (easF : Int → List Int) : Ru where
 freq := o.freq
 interval := o.interval
 wkst := o.wkst
 d0 := o.d
 u0 := until0 o
 u1 := until1 o
 setpos := o.setpos
 month := month' o
 mday := posM (mday' o)
 nmday := negM (mday' o)
 yday := o.yday
 weekno := o.weekno
 wday := ((wday' o).filter (plainW o.freq)).map Prod.fst
 nwd := (wday' o).filter fun x => !plainW o.freq x
 hour := hour' o
 minute := minute' o
 second := second' o
 easter := o.easter
 wnoF := wnoF
 nwmF := nwmF
 easF := easF
def raw (o : Opn) : List Int := (hour' o).flatMap fun h => (minute' o).flatMap fun m => (second' o).map fun s => h * 3600 + m * 60 + s
def tset (o : Opn) : List Int := if o.freq < 4 then sortI (raw o) else []
theorem filter_take_succ {α : Type} {p : α → Bool} {l : List α} {k : Nat} {x : α} (h : l[k]? = some x) : (l.take (k + 1)).filter p = (l.take k).filter p ++ (if p x then [x] else []) := by
 rw [List.take_add_one, h, List.filter_append]
 cases hp : p x <;> simp [hp]
end Go.Md
namespace Go.Proofs.YtdbbifbmkfmbkaaGreat
open Go.RowKit Go.Fr Go.Tab
section
variable {F : Nat → Prop} {w0 : World} {B : List (Nat × Nat)} {H : List (Nat × Value)} {S : List (Nat × Slc)}
open Go.Md
structure Av where
 p9 : Option Addr
 p10 : Option Addr
 p11 : Option Addr
 p12 : Option Addr
 p13 : Option Addr
 p14 : Option Addr
 p15 : Option Addr
 p16 : Option Addr
 p17 : Option Addr
 p18 : Option Addr
 c9 : Nat
 c10 : Nat
 c11 : Nat
 c12 : Nat
 c13 : Nat
 c14 : Nat
 c15 : Nat
 c16 : Nat
 c17 : Nat
 c18 : Nat
 pm : Option Addr
 pd : Option Addr
 pw : Option Addr
 q48 : Option Addr
 q49 : Option Addr
 q52 : Option Addr
 q53 : Option Addr
 q54 : Option Addr
 q55 : Option Addr
 q56 : Option Addr
 tp : Option Addr
 cm : Nat
 cd : Nat
 cw : Nat
 e48 : Nat
 e49 : Nat
 e52 : Nat
 e53 : Nat
 e54 : Nat
 e55 : Nat
 e56 : Nat
 tc : Nat
def oc0 (o : Opn) (x : Av) : List Value := [iV o.freq, iV o.d, iV 0, iV o.interval, iV o.wkst, iV 0, iV o.count, iV o.u, iV 0, .slice x.p9 (o.setpos).length x.c9, .slice x.p10 (o.month).length x.c10, .slice x.p11 (o.mday).length x.c11, .slice x.p12 (o.yday).length x.c12, .slice x.p13 (o.weekno).length x.c13, .slice x.p14 (o.wday).length x.c14, .slice x.p15 (o.hour).length x.c15, .slice x.p16 (o.minute).length x.c16, .slice x.p17 (o.second).length x.c17, .slice x.p18 (o.easter).length x.c18]
def oc1 (o : Opn) (x : Av) : List Value := [iV o.freq, iV o.d, iV 0, iV o.interval, iV o.wkst, iV 0, iV o.count, iV o.u, iV 0, .slice x.p9 (o.setpos).length x.c9, .slice x.pm (month' o).length x.cm, .slice x.pd (mday' o).length x.cd, .slice x.p12 (o.yday).length x.c12, .slice x.p13 (o.weekno).length x.c13, .slice x.pw (wday' o).length x.cw, .slice x.p15 (o.hour).length x.c15, .slice x.p16 (o.minute).length x.c16, .slice x.p17 (o.second).length x.c17, .slice x.p18 (o.easter).length x.c18]
def rcA (o : Opn) (x : Av) : List Value := [iV o.freq, iV o.d, iV 0, iV o.interval, iV o.wkst, iV 0, iV o.count, iV o.u, iV 0, .slice x.p9 (o.setpos).length x.c9, .slice x.p10 (o.month).length x.c10, .slice x.p11 (o.mday).length x.c11, .slice x.p12 (o.yday).length x.c12, .slice x.p13 (o.weekno).length x.c13, .slice x.p14 (o.wday).length x.c14, .slice x.p15 (o.hour).length x.c15, .slice x.p16 (o.minute).length x.c16, .slice x.p17 (o.second).length x.c17, .slice x.p18 (o.easter).length x.c18, iV 0, iV 0, iV 0, iV 0, iV 0, iV 0, iV 0, iV 0, iV 0, .slice none 0 0, .slice none 0 0, .slice none 0 0, .slice none 0 0, .slice none 0 0, .slice none 0 0, .slice none 0 0, .slice none 0 0, .slice none 0 0, .slice none 0 0, iV o.freq, iV o.d, iV 0, iV o.interval, iV o.wkst, iV o.count, iV (until0 o), iV (until1 o), .slice x.p9 (o.setpos).length x.c9, .slice none 0 0, .slice none 0 0, .slice none 0 0, .slice none 0 0, .slice none 0 0, .slice none 0 0, .slice none 0 0, .slice none 0 0, .slice none 0 0, .slice none 0 0, .slice none 0 0, .slice none 0 0, iV 0]
def rcC (o : Opn) (x : Av) : List Value := [iV o.freq, iV o.d, iV 0, iV o.interval, iV o.wkst, iV 0, iV o.count, iV o.u, iV 0, .slice x.p9 (o.setpos).length x.c9, .slice x.p10 (o.month).length x.c10, .slice x.p11 (o.mday).length x.c11, .slice x.p12 (o.yday).length x.c12, .slice x.p13 (o.weekno).length x.c13, .slice x.p14 (o.wday).length x.c14, .slice x.p15 (o.hour).length x.c15, .slice x.p16 (o.minute).length x.c16, .slice x.p17 (o.second).length x.c17, .slice x.p18 (o.easter).length x.c18, iV 0, iV 0, iV 0, iV 0, iV 0, iV 0, iV 0, iV 0, iV 0, .slice none 0 0, .slice none 0 0, .slice none 0 0, .slice none 0 0, .slice none 0 0, .slice none 0 0, .slice none 0 0, .slice none 0 0, .slice none 0 0, .slice none 0 0, iV o.freq, iV o.d, iV 0, iV o.interval, iV o.wkst, iV o.count, iV (until0 o), iV (until1 o), .slice x.p9 (o.setpos).length x.c9, .slice x.pm (month' o).length x.cm, .slice x.q48 (posM (mday' o)).length x.e48, .slice x.q49 (negM (mday' o)).length x.e49, .slice x.p12 (o.yday).length x.c12, .slice none 0 0, .slice none 0 0, .slice none 0 0, .slice none 0 0, .slice none 0 0, .slice none 0 0, .slice x.p18 (o.easter).length x.c18, .slice none 0 0, iV 0]
def rcD (o : Opn) (x : Av) : List Value := [iV o.freq, iV o.d, iV 0, iV o.interval, iV o.wkst, iV 0, iV o.count, iV o.u, iV 0, .slice x.p9 (o.setpos).length x.c9, .slice x.p10 (o.month).length x.c10, .slice x.p11 (o.mday).length x.c11, .slice x.p12 (o.yday).length x.c12, .slice x.p13 (o.weekno).length x.c13, .slice x.p14 (o.wday).length x.c14, .slice x.p15 (o.hour).length x.c15, .slice x.p16 (o.minute).length x.c16, .slice x.p17 (o.second).length x.c17, .slice x.p18 (o.easter).length x.c18, iV 0, iV 0, iV 0, iV 0, iV 0, iV 0, iV 0, iV 0, iV 0, .slice none 0 0, .slice none 0 0, .slice none 0 0, .slice none 0 0, .slice none 0 0, .slice none 0 0, .slice none 0 0, .slice none 0 0, .slice none 0 0, .slice none 0 0, iV o.freq, iV o.d, iV 0, iV o.interval, iV o.wkst, iV o.count, iV (until0 o), iV (until1 o), .slice x.p9 (o.setpos).length x.c9, .slice x.pm (month' o).length x.cm, .slice x.q48 (posM (mday' o)).length x.e48, .slice x.q49 (negM (mday' o)).length x.e49, .slice x.p12 (o.yday).length x.c12, .slice x.p13 (o.weekno).length x.c13, .slice x.q52 (((wday' o).filter (plainW o.freq)).map Prod.fst).length x.e52, .slice x.q53 ((wday' o).filter fun y => !plainW o.freq y).length x.e53, .slice none 0 0, .slice none 0 0, .slice none 0 0, .slice x.p18 (o.easter).length x.c18, .slice none 0 0, iV 0]
def rcE (o : Opn) (x : Av) : List Value := [iV o.freq, iV o.d, iV 0, iV o.interval, iV o.wkst, iV 0, iV o.count, iV o.u, iV 0, .slice x.p9 (o.setpos).length x.c9, .slice x.p10 (o.month).length x.c10, .slice x.p11 (o.mday).length x.c11, .slice x.p12 (o.yday).length x.c12, .slice x.p13 (o.weekno).length x.c13, .slice x.p14 (o.wday).length x.c14, .slice x.p15 (o.hour).length x.c15, .slice x.p16 (o.minute).length x.c16, .slice x.p17 (o.second).length x.c17, .slice x.p18 (o.easter).length x.c18, iV 0, iV 0, iV 0, iV 0, iV 0, iV 0, iV 0, iV 0, iV 0, .slice none 0 0, .slice none 0 0, .slice none 0 0, .slice none 0 0, .slice none 0 0, .slice none 0 0, .slice none 0 0, .slice none 0 0, .slice none 0 0, .slice none 0 0, iV o.freq, iV o.d, iV 0, iV o.interval, iV o.wkst, iV o.count, iV (until0 o), iV (until1 o), .slice x.p9 (o.setpos).length x.c9, .slice x.pm (month' o).length x.cm, .slice x.q48 (posM (mday' o)).length x.e48, .slice x.q49 (negM (mday' o)).length x.e49, .slice x.p12 (o.yday).length x.c12, .slice x.p13 (o.weekno).length x.c13, .slice x.q52 (((wday' o).filter (plainW o.freq)).map Prod.fst).length x.e52, .slice x.q53 ((wday' o).filter fun y => !plainW o.freq y).length x.e53, .slice x.q54 (hour' o).length x.e54, .slice none 0 0, .slice none 0 0, .slice x.p18 (o.easter).length x.c18, .slice none 0 0, iV 0]
def rcF (o : Opn) (x : Av) : List Value := [iV o.freq, iV o.d, iV 0, iV o.interval, iV o.wkst, iV 0, iV o.count, iV o.u, iV 0, .slice x.p9 (o.setpos).length x.c9, .slice x.p10 (o.month).length x.c10, .slice x.p11 (o.mday).length x.c11, .slice x.p12 (o.yday).length x.c12, .slice x.p13 (o.weekno).length x.c13, .slice x.p14 (o.wday).length x.c14, .slice x.p15 (o.hour).length x.c15, .slice x.p16 (o.minute).length x.c16, .slice x.p17 (o.second).length x.c17, .slice x.p18 (o.easter).length x.c18, iV 0, iV 0, iV 0, iV 0, iV 0, iV 0, iV 0, iV 0, iV 0, .slice none 0 0, .slice none 0 0, .slice none 0 0, .slice none 0 0, .slice none 0 0, .slice none 0 0, .slice none 0 0, .slice none 0 0, .slice none 0 0, .slice none 0 0, iV o.freq, iV o.d, iV 0, iV o.interval, iV o.wkst, iV o.count, iV (until0 o), iV (until1 o), .slice x.p9 (o.setpos).length x.c9, .slice x.pm (month' o).length x.cm, .slice x.q48 (posM (mday' o)).length x.e48, .slice x.q49 (negM (mday' o)).length x.e49, .slice x.p12 (o.yday).length x.c12, .slice x.p13 (o.weekno).length x.c13, .slice x.q52 (((wday' o).filter (plainW o.freq)).map Prod.fst).length x.e52, .slice x.q53 ((wday' o).filter fun y => !plainW o.freq y).length x.e53, .slice x.q54 (hour' o).length x.e54, .slice x.q55 (minute' o).length x.e55, .slice none 0 0, .slice x.p18 (o.easter).length x.c18, .slice none 0 0, iV 0]
def rcG (o : Opn) (x : Av) : List Value := [iV o.freq, iV o.d, iV 0, iV o.interval, iV o.wkst, iV 0, iV o.count, iV o.u, iV 0, .slice x.p9 (o.setpos).length x.c9, .slice x.p10 (o.month).length x.c10, .slice x.p11 (o.mday).length x.c11, .slice x.p12 (o.yday).length x.c12, .slice x.p13 (o.weekno).length x.c13, .slice x.p14 (o.wday).length x.c14, .slice x.p15 (o.hour).length x.c15, .slice x.p16 (o.minute).length x.c16, .slice x.p17 (o.second).length x.c17, .slice x.p18 (o.easter).length x.c18, iV 0, iV 0, iV 0, iV 0, iV 0, iV 0, iV 0, iV 0, iV 0, .slice none 0 0, .slice none 0 0, .slice none 0 0, .slice none 0 0, .slice none 0 0, .slice none 0 0, .slice none 0 0, .slice none 0 0, .slice none 0 0, .slice none 0 0, iV o.freq, iV o.d, iV 0, iV o.interval, iV o.wkst, iV o.count, iV (until0 o), iV (until1 o), .slice x.p9 (o.setpos).length x.c9, .slice x.pm (month' o).length x.cm, .slice x.q48 (posM (mday' o)).length x.e48, .slice x.q49 (negM (mday' o)).length x.e49, .slice x.p12 (o.yday).length x.c12, .slice x.p13 (o.weekno).length x.c13, .slice x.q52 (((wday' o).filter (plainW o.freq)).map Prod.fst).length x.e52, .slice x.q53 ((wday' o).filter fun y => !plainW o.freq y).length x.e53, .slice x.q54 (hour' o).length x.e54, .slice x.q55 (minute' o).length x.e55, .slice x.q56 (second' o).length x.e56, .slice x.p18 (o.easter).length x.c18, .slice none 0 0, iV 0]
def rcI (o : Opn) (x : Av) : List Value := [iV o.freq, iV o.d, iV 0, iV o.interval, iV o.wkst, iV 0, iV o.count, iV o.u, iV 0, .slice x.p9 (o.setpos).length x.c9, .slice x.p10 (o.month).length x.c10, .slice x.p11 (o.mday).length x.c11, .slice x.p12 (o.yday).length x.c12, .slice x.p13 (o.weekno).length x.c13, .slice x.p14 (o.wday).length x.c14, .slice x.p15 (o.hour).length x.c15, .slice x.p16 (o.minute).length x.c16, .slice x.p17 (o.second).length x.c17, .slice x.p18 (o.easter).length x.c18, iV 0, iV 0, iV 0, iV 0, iV 0, iV 0, iV 0, iV 0, iV 0, .slice none 0 0, .slice none 0 0, .slice none 0 0, .slice none 0 0, .slice none 0 0, .slice none 0 0, .slice none 0 0, .slice none 0 0, .slice none 0 0, .slice none 0 0, iV o.freq, iV o.d, iV 0, iV o.interval, iV o.wkst, iV o.count, iV (until0 o), iV (until1 o), .slice x.p9 (o.setpos).length x.c9, .slice x.pm (month' o).length x.cm, .slice x.q48 (posM (mday' o)).length x.e48, .slice x.q49 (negM (mday' o)).length x.e49, .slice x.p12 (o.yday).length x.c12, .slice x.p13 (o.weekno).length x.c13, .slice x.q52 (((wday' o).filter (plainW o.freq)).map Prod.fst).length x.e52, .slice x.q53 ((wday' o).filter fun y => !plainW o.freq y).length x.e53, .slice x.q54 (hour' o).length x.e54, .slice x.q55 (minute' o).length x.e55, .slice x.q56 (second' o).length x.e56, .slice x.p18 (o.easter).length x.c18, .slice x.tp (tset o).length x.tc, iV 0]
def outC (o : Opn) (x : Av) : List Value := [iV o.freq, iV o.d, iV 0, iV o.interval, iV o.wkst, iV 0, iV o.count, iV o.u, iV 0, .slice x.p9 (o.setpos).length x.c9, .slice x.p10 (o.month).length x.c10, .slice x.p11 (o.mday).length x.c11, .slice x.p12 (o.yday).length x.c12, .slice x.p13 (o.weekno).length x.c13, .slice x.p14 (o.wday).length x.c14, .slice x.p15 (o.hour).length x.c15, .slice x.p16 (o.minute).length x.c16, .slice x.p17 (o.second).length x.c17, .slice x.p18 (o.easter).length x.c18, iV o.freq, iV o.d, iV 0, iV o.interval, iV o.wkst, iV 0, iV o.count, iV o.u, iV 0, .slice x.p9 (o.setpos).length x.c9, .slice x.pm (month' o).length x.cm, .slice x.pd (mday' o).length x.cd, .slice x.p12 (o.yday).length x.c12, .slice x.p13 (o.weekno).length x.c13, .slice x.pw (wday' o).length x.cw, .slice x.p15 (o.hour).length x.c15, .slice x.p16 (o.minute).length x.c16, .slice x.p17 (o.second).length x.c17, .slice x.p18 (o.easter).length x.c18, iV o.freq, iV o.d, iV 0, iV o.interval, iV o.wkst, iV o.count, iV (until0 o), iV (until1 o), .slice x.p9 (o.setpos).length x.c9, .slice x.pm (month' o).length x.cm, .slice x.q48 (posM (mday' o)).length x.e48, .slice x.q49 (negM (mday' o)).length x.e49, .slice x.p12 (o.yday).length x.c12, .slice x.p13 (o.weekno).length x.c13, .slice x.q52 (((wday' o).filter (plainW o.freq)).map Prod.fst).length x.e52, .slice x.q53 ((wday' o).filter fun y => !plainW o.freq y).length x.e53, .slice x.q54 (hour' o).length x.e54, .slice x.q55 (minute' o).length x.e55, .slice x.q56 (second' o).length x.e56, .slice x.p18 (o.easter).length x.c18, .slice x.tp (tset o).length x.tc, iV 0]
structure Bs (F : Nat → Prop) (w0 : World) (B : List (Nat × Nat)) (H0 : List (Nat × Value)) (S0 : List (Nat × Slc)) (b1 b2 b3 : Nat) (ocs rcs : List Value) (H : List (Nat × Value)) (S : List (Nat × Slc)) : Prop where
 ho : cellsAt 50 H 0 ocs
 hc : cellsAt 52 H 0 rcs
 h2 : knwn 51 H 0 60 = true
 lim : Lim 53 ((52, b3) :: (51, b2) :: (50, b1) :: B) H S
 limB : Lim 40 B H0 S0
 frH : ∀ k, k < 40 → ∀ o, o < 4096 → lkp (ky k o) H = lkp (ky k o) H0
 frS : ∀ k, k < 53 → ¬(k = 2 ∨ (12 ≤ k ∧ k ≤ 25)) → lkp k S = lkp k S0
structure OpOk (o : Opn) : Prop where
 freq : 0 ≤ o.freq ∧ o.freq ≤ 6
 d : 1 ≤ o.d ∧ o.d ≤ 400000000000
 interval : 1 ≤ o.interval ∧ o.interval ≤ 1000
 count : 0 ≤ o.count ∧ o.count ≤ 1000000000
 u : 0 ≤ o.u ∧ o.u ≤ 400000000000
 mday : o.mday.length ≤ 1000
 wday : o.wday.length ≤ 1000
 hour : o.hour.length ≤ 400
 minute : o.minute.length ≤ 400
 second : o.second.length ≤ 400
 hours : ∀ x ∈ o.hour, 0 ≤ x ∧ x ≤ 23
 minutes : ∀ x ∈ o.minute, 0 ≤ x ∧ x ≤ 59
 seconds : ∀ x ∈ o.second, 0 ≤ x ∧ x ≤ 59
structure OutF (F : Nat → Prop) (w0 : World) (o : Opn) (x : Av) (S0 S : List (Nat × Slc)) : Prop where
 s9 : SrcT F w0 S 11 (.slice x.p9 (o.setpos).length x.c9) o.setpos
 sm : SrcT F w0 S 16 (.slice x.pm (month' o).length x.cm) (month' o)
 s12 : SrcT F w0 S 11 (.slice x.p12 (o.yday).length x.c12) o.yday
 s13 : SrcT F w0 S 11 (.slice x.p13 (o.weekno).length x.c13) o.weekno
 s18 : SrcT F w0 S 11 (.slice x.p18 (o.easter).length x.c18) o.easter
 r12 : lkp 12 S = some ⟨.slice x.q48 (posM (mday' o)).length x.e48, 3, 1, (posM (mday' o)).length, (posM (mday' o)).map iV⟩
 r13 : lkp 13 S = some ⟨.slice x.q49 (negM (mday' o)).length x.e49, 3, 1, (negM (mday' o)).length, (negM (mday' o)).map iV⟩
 r14 : lkp 14 S = some ⟨.slice x.q52 (((wday' o).filter (plainW o.freq)).map Prod.fst).length x.e52, 3, 1, (((wday' o).filter (plainW o.freq)).map Prod.fst).length, (((wday' o).filter (plainW o.freq)).map Prod.fst).map iV⟩
 sh : SrcT F w0 S 18 (.slice x.q54 (hour' o).length x.e54) (hour' o)
 si : SrcT F w0 S 19 (.slice x.q55 (minute' o).length x.e55) (minute' o)
 ss : SrcT F w0 S 20 (.slice x.q56 (second' o).length x.e56) (second' o)
 r2 : o.freq < 4 → lkp 2 S = some ⟨.slice x.tp (tset o).length x.tc, 57, 2, (tset o).length, tcells (tset o)⟩
 fr : ∀ k, k < 53 → ¬(k = 2 ∨ (12 ≤ k ∧ k ≤ 25)) → lkp k S = lkp k S0
 lim : ∀ k, 53 ≤ k → lkp k S = none
def Knw (H' H : List (Nat × Value)) : Prop := ∀ q, (lkp q H).isSome = true → (lkp q H').isSome = true
theorem Knw.refl (H : List (Nat × Value)) : Knw H H := fun _ h => h
theorem Knw.cons {H' H : List (Nat × Value)} {q : Nat} {v : Value} (h : Knw H' H) : Knw ((q, v) :: H') H := fun k hk => by
 by_cases e : k = q
 ·subst e; rw [lkp_cons_self]; rfl
 ·rw [lkp_cons_ne e]; exact h k hk
theorem knwn_mono {H' H : List (Nat × Value)} (h : Knw H' H) {j : Nat} : ∀ {n o : Nat}, knwn j H o n = true → knwn j H' o n = true
 | 0, _, _ => rfl
 | n + 1, o, hk => by
  simp only [knwn, Bool.and_eq_true] at hk ⊢
  exact ⟨h _ hk.1, knwn_mono h hk.2⟩
theorem Knw.seq {H : List (Nat × Value)} {j : Nat} : ∀ (cs : List Value) (o : Nat) {H' : List (Nat × Value)}, Knw H' H → Knw (putSeq j o cs H') H
 | [], _, _, h => h
 | v :: r, o, _, h => Knw.seq r (o + 1) h.cons
theorem cellsAt_some {j : Nat} {H : List (Nat × Value)} : ∀ {cs : List Value} {o : Nat}, cellsAt j H o cs → ∀ (a n : Nat), a + n ≤ cs.length → knwn j H (o + a) n = true
 | cs, o, h, a, 0, hl => rfl
 | cs, o, h, a, n + 1, hl => by
  have h1 := h.get a _ (List.getElem?_eq_getElem oM)
  simp only [knwn, h1, Option.isSome_some, Bool.true_and]
  exact cellsAt_some h (a + 1) n oM
theorem lkp_putSeq_hi {j : Nat} : ∀ (cs : List Value) (o q : Nat) {H : List (Nat × Value)}, q < o → o + cs.length ≤ 4096 → lkp (ky j q) (putSeq j o cs H) = lkp (ky j q) H
 | [], _, _, _, _, _ => rfl
 | v :: r, o, q, H, hq, hl => by
  simp only [List.length_cons] at hl
  show lkp (ky j q) (putSeq j (o + 1) r ((ky j o, v) :: H)) = _
  rw [lkp_putSeq_hi r (o + 1) q oM oM, lkp_cons_ne (by unfold ky; omega)]
theorem putSeq_get {j : Nat} : ∀ (cs : List Value) (o : Nat) {H : List (Nat × Value)}, o + cs.length ≤ 4096 → ∀ (i : Nat) (v : Value), cs[i]? = some v → lkp (ky j (o + i)) (putSeq j o cs H) = some v
 | [], _, _, _, i, v, h => by simp at h
 | u :: r, o, H, hl, 0, v, h => by
  cases h
  simp only [List.length_cons] at hl
  show lkp (ky j (o + 0)) (putSeq j (o + 1) r ((ky j o, u) :: H)) = _
  rw [Nat.add_zero, lkp_putSeq_hi r (o + 1) o oM oM, lkp_cons_self]
 | u :: r, o, H, hl, i + 1, v, h => by
  simp only [List.length_cons] at hl
  show lkp (ky j (o + (i + 1))) (putSeq j (o + 1) r ((ky j o, u) :: H)) = _
  have := putSeq_get (j := j) r (o + 1) (H := (ky j o, u) :: H) oM i v (by simpa using h)
  rwa [show o + 1 + i = o + (i + 1) by omega] at this
theorem Sees.back3 {b1 b2 b3 : Nat} {H0 : List (Nat × Value)} {S0 : List (Nat × Slc)} {w : World} (s : Sees F w0 ((52, b3) :: (51, b2) :: (50, b1) :: B) H S w) (hl : Lim 40 B H0 S0) (hfr : ∀ k, k < 40 → ∀ o, o < 4096 → lkp (ky k o) H = lkp (ky k o) H0) : Sees F w0 B H0 S w :=
 s.to (fun k b h => by
  have hk : k < 40 := by
   rcases Nat.lt_or_ge k 40 with h' | h'
   ·exact h'
   ·rw [hl.b k h'] at h; cases h
  rw [lkp_cons_ne oM, lkp_cons_ne oM, lkp_cons_ne oM]; exact h) (fun k o v ho h => by
  have hk : k < 40 := by
   rcases Nat.lt_or_ge k 40 with h' | h'
   ·exact h'
   ·rw [hl.h k h' o ho] at h; cases h
  have h1 := (hfr k hk o ho).trans h
  obtain ⟨b, e, _⟩ := s.cells k o v ho h1
  rw [lkp_cons_ne oM, lkp_cons_ne oM, lkp_cons_ne oM] at e
  exact ⟨h1, by rw [e]; rfl⟩) (fun k q h => h)
theorem mem_hour' {o : Opn} (ok : OpOk o) : ∀ x ∈ hour' o, 0 ≤ x ∧ x ≤ 23 := by
 have hd := ok.d
 intro x hx
 unfold hour' at hx
 split at hx
 ·split at hx
  ·simp at hx; omega
  ·simp at hx
 ·exact ok.hours x hx
theorem mem_minute' {o : Opn} (ok : OpOk o) : ∀ x ∈ minute' o, 0 ≤ x ∧ x ≤ 59 := by
 have hd := ok.d
 intro x hx
 unfold minute' at hx
 split at hx
 ·split at hx
  ·simp at hx; omega
  ·simp at hx
 ·exact ok.minutes x hx
theorem mem_second' {o : Opn} (ok : OpOk o) : ∀ x ∈ second' o, 0 ≤ x ∧ x ≤ 59 := by
 have hd := ok.d
 intro x hx
 unfold second' at hx
 split at hx
 ·split at hx
  ·simp at hx; omega
  ·simp at hx
 ·exact ok.seconds x hx
theorem len_hour' {o : Opn} (ok : OpOk o) : (hour' o).length ≤ 400 := by
 unfold hour'; split
 ·split <;> simp
 ·exact ok.hour
theorem len_minute' {o : Opn} (ok : OpOk o) : (minute' o).length ≤ 400 := by
 unfold minute'; split
 ·split <;> simp
 ·exact ok.minute
theorem len_second' {o : Opn} (ok : OpOk o) : (second' o).length ≤ 400 := by
 unfold second'; split
 ·split <;> simp
 ·exact ok.second
def SortOk (F : Nat → Prop) (w0 : World) (ts : List Int) : Prop := ∀ (B : List (Nat × Nat)) (H : List (Nat × Value)) (S : List (Nat × Slc)) (p : Option Addr) (c : Nat) (w : World), Lim 60 B H S → lkp 2 S = some ⟨.slice p ts.length c, 57, 2, ts.length, tcells ts⟩ → Sees F w0 B H S w →
 Calls Go.Proofs.Tryz.prog 77 #[.iface 122 (.slice p ts.length c)] w fun e w' => e = .returned (.tuple #[]) ∧ Sees F w0 B H ((2, ⟨.slice p ts.length c, 57, 2, ts.length, tcells (sortI ts)⟩) :: S) w'
end
end Go.Proofs.YtdbbifbmkfmbkaaGreat
namespace Go.Proofs.YtdbbifbmkfmbkaaGreat
open Go.RowKit Go.Fr Go.Tab
section
variable {F : Nat → Prop} {w0 : World} {B : List (Nat × Nat)} {H : List (Nat × Value)} {S : List (Nat × Slc)}
open Go.Md
theorem bu_J {R : Ending → World → Prop} {o : Opn} {x : Av} {b1 b2 b3 : Nat} {H0 : List (Nat × Value)} {S0 : List (Nat × Slc)} (ok : OpOk o) (hsort : o.freq < 4 → SortOk F w0 (raw o)) (bs : Bs F w0 B H0 S0 b1 b2 b3 (oc1 o x) (rcI o x) H S) (s9 : SrcT F w0 S 11 (.slice x.p9 (o.setpos).length x.c9) o.setpos) (sm : SrcT F w0 S 16 (.slice x.pm (month' o).length x.cm) (month' o)) (s12 : SrcT F w0 S 11 (.slice x.p12 (o.yday).length x.c12) o.yday) (s13 : SrcT F w0 S 11 (.slice x.p13 (o.weekno).length x.c13) o.weekno) (s18 : SrcT F w0 S 11 (.slice x.p18 (o.easter).length x.c18) o.easter) (r12 : lkp 12 S = some ⟨.slice x.q48 (posM (mday' o)).length x.e48, 3, 1, (posM (mday' o)).length, (posM (mday' o)).map iV⟩) (r13 : lkp 13 S = some ⟨.slice x.q49 (negM (mday' o)).length x.e49, 3, 1, (negM (mday' o)).length, (negM (mday' o)).map iV⟩) (r14 : lkp 14 S = some ⟨.slice x.q52 (((wday' o).filter (plainW o.freq)).map Prod.fst).length x.e52, 3, 1, (((wday' o).filter (plainW o.freq)).map Prod.fst).length, (((wday' o).filter (plainW o.freq)).map Prod.fst).map iV⟩) (sh : SrcT F w0 S 18 (.slice x.q54 (hour' o).length x.e54) (hour' o)) (si : SrcT F w0 S 19 (.slice x.q55 (minute' o).length x.e55) (minute' o)) (ss : SrcT F w0 S 20 (.slice x.q56 (second' o).length x.e56) (second' o)) (r2 : o.freq < 4 → lkp 2 S = some ⟨.slice x.tp (tset o).length x.tc, 57, 2, (tset o).length, tcells (tset o)⟩)  (hR : ∀ (x : Av) (S' : List (Nat × Slc)), OutF F w0 o x S0 S' → ∀ w, Sees F w0 B H0 S' w → R (.returned (.agg (outC o x).toArray)) w) : GC Go.Proofs.Tryz.prog (Go.Fr.part [1, 1, 1, 1, 1, 1, 1, 1, 1, 1, 1, 1, 1, 1, 1, 1, 1, 1, 1, 1, 1, 1, 1, 1, 1, 1] (Go.Fr.bodyOf Tryz.f43)) (bodyPost Go.Proofs.Tryz.prog Tryz.f43 R) 300 [(1, pT b1), (2, pT b2), (3, pT b3)] F w0 ((52, b3) :: (51, b2) :: (50, b1) :: B) H S := by
 have ok_ := ok
 refine g2 ?_
 refine rl ((rd_loadN 50 (cs := oc1 o x) rfl rfl bs.ho.get ble kR)) ?_
 refine rl (rfa 19) ?_
 refine gL (at_storeAgg 52 (cs := (oc1 o x).toArray) rfl rfl rfl (cellsAt_some bs.hc 19 19 ble) kR rfl ble ?_)
 refine g4 ?_
 have hcJ : cellsAt 52 (putSeq 52 19 (oc1 o x) H) 0 (outC o x) := (cellsAt.cons (bs.hc.get 0 _ rfl) (cellsAt.cons (bs.hc.get 1 _ rfl) (cellsAt.cons (bs.hc.get 2 _ rfl) (cellsAt.cons (bs.hc.get 3 _ rfl) (cellsAt.cons (bs.hc.get 4 _ rfl) (cellsAt.cons (bs.hc.get 5 _ rfl) (cellsAt.cons (bs.hc.get 6 _ rfl) (cellsAt.cons (bs.hc.get 7 _ rfl) (cellsAt.cons (bs.hc.get 8 _ rfl) (cellsAt.cons (bs.hc.get 9 _ rfl) (cellsAt.cons (bs.hc.get 10 _ rfl) (cellsAt.cons (bs.hc.get 11 _ rfl) (cellsAt.cons (bs.hc.get 12 _ rfl) (cellsAt.cons (bs.hc.get 13 _ rfl) (cellsAt.cons (bs.hc.get 14 _ rfl) (cellsAt.cons (bs.hc.get 15 _ rfl) (cellsAt.cons (bs.hc.get 16 _ rfl) (cellsAt.cons (bs.hc.get 17 _ rfl) (cellsAt.cons (bs.hc.get 18 _ rfl) (cellsAt.cons rfl (cellsAt.cons rfl (cellsAt.cons rfl (cellsAt.cons rfl (cellsAt.cons rfl (cellsAt.cons rfl (cellsAt.cons rfl (cellsAt.cons rfl (cellsAt.cons rfl (cellsAt.cons rfl (cellsAt.cons rfl (cellsAt.cons rfl (cellsAt.cons rfl (cellsAt.cons rfl (cellsAt.cons rfl (cellsAt.cons rfl (cellsAt.cons rfl (cellsAt.cons rfl (cellsAt.cons rfl (cellsAt.cons (bs.hc.get 38 _ rfl) (cellsAt.cons (bs.hc.get 39 _ rfl) (cellsAt.cons (bs.hc.get 40 _ rfl) (cellsAt.cons (bs.hc.get 41 _ rfl) (cellsAt.cons (bs.hc.get 42 _ rfl) (cellsAt.cons (bs.hc.get 43 _ rfl) (cellsAt.cons (bs.hc.get 44 _ rfl) (cellsAt.cons (bs.hc.get 45 _ rfl) (cellsAt.cons (bs.hc.get 46 _ rfl) (cellsAt.cons (bs.hc.get 47 _ rfl) (cellsAt.cons (bs.hc.get 48 _ rfl) (cellsAt.cons (bs.hc.get 49 _ rfl) (cellsAt.cons (bs.hc.get 50 _ rfl) (cellsAt.cons (bs.hc.get 51 _ rfl) (cellsAt.cons (bs.hc.get 52 _ rfl) (cellsAt.cons (bs.hc.get 53 _ rfl) (cellsAt.cons (bs.hc.get 54 _ rfl) (cellsAt.cons (bs.hc.get 55 _ rfl) (cellsAt.cons (bs.hc.get 56 _ rfl) (cellsAt.cons (bs.hc.get 57 _ rfl) (cellsAt.cons (bs.hc.get 58 _ rfl) (cellsAt.cons (bs.hc.get 59 _ rfl) cellsAt.nil))))))))))))))))))))))))))))))))))))))))))))))))))))))))))))
 refine GL_to (fun a k => k) (fun w s => s) (H' := (putSeq 52 19 (oc1 o x) H)) ?_
 refine rl ((rd_loadN 52 (cs := outC o x) rfl rfl hcJ.get ble kR)) ?_
 refine gL (at_storeAgg 51 (cs := (outC o x).toArray) rfl rfl rfl (knwn_mono (Knw.seq _ _ (Knw.refl _)) bs.h2) kR rfl ble ?_)
 refine g3 ?_
 refine GE_ret1 (.inl rfl) rfl (res_cellN 51 (cs := outC o x) rfl rfl (fun i v h => by have := putSeq_get (j := 51) (outC o x) 0 (H := (putSeq 52 19 (oc1 o x) H)) ble i v h; rwa [Nat.zero_add] at this) ble kR) fun w s => ?_
 refine hR x S ⟨s9, sm, s12, s13, s18, r12, r13, r14, sh, si, ss, r2, bs.frS, bs.lim.s⟩ w (Sees.back3 s bs.limB (fun k hk o_ ho_ => ?_))
 exact (lkp_seq_ne oM ho_ _ _ ble).trans ((lkp_seq_ne oM ho_ _ _ ble).trans (bs.frH k hk o_ ho_))
theorem bu_I {R : Ending → World → Prop} {o : Opn} {x : Av} {b1 b2 b3 : Nat} {H0 : List (Nat × Value)} {S0 : List (Nat × Slc)} (ok : OpOk o) (hsort : o.freq < 4 → SortOk F w0 (raw o)) (bs : Bs F w0 B H0 S0 b1 b2 b3 (oc1 o x) (rcG o x) H S) (s9 : SrcT F w0 S 11 (.slice x.p9 (o.setpos).length x.c9) o.setpos) (sm : SrcT F w0 S 16 (.slice x.pm (month' o).length x.cm) (month' o)) (s12 : SrcT F w0 S 11 (.slice x.p12 (o.yday).length x.c12) o.yday) (s13 : SrcT F w0 S 11 (.slice x.p13 (o.weekno).length x.c13) o.weekno) (s18 : SrcT F w0 S 11 (.slice x.p18 (o.easter).length x.c18) o.easter) (r12 : lkp 12 S = some ⟨.slice x.q48 (posM (mday' o)).length x.e48, 3, 1, (posM (mday' o)).length, (posM (mday' o)).map iV⟩) (r13 : lkp 13 S = some ⟨.slice x.q49 (negM (mday' o)).length x.e49, 3, 1, (negM (mday' o)).length, (negM (mday' o)).map iV⟩) (r14 : lkp 14 S = some ⟨.slice x.q52 (((wday' o).filter (plainW o.freq)).map Prod.fst).length x.e52, 3, 1, (((wday' o).filter (plainW o.freq)).map Prod.fst).length, (((wday' o).filter (plainW o.freq)).map Prod.fst).map iV⟩) (sh : SrcT F w0 S 18 (.slice x.q54 (hour' o).length x.e54) (hour' o)) (si : SrcT F w0 S 19 (.slice x.q55 (minute' o).length x.e55) (minute' o)) (ss : SrcT F w0 S 20 (.slice x.q56 (second' o).length x.e56) (second' o))  (hR : ∀ (x : Av) (S' : List (Nat × Slc)), OutF F w0 o x S0 S' → ∀ w, Sees F w0 B H0 S' w → R (.returned (.agg (outC o x).toArray)) w) : GC Go.Proofs.Tryz.prog (Go.Fr.part [1, 1, 1, 1, 1, 1, 1, 1, 1, 1, 1, 1, 1, 1, 1, 1, 1, 1, 1, 1, 1, 1, 1, 1] (Go.Fr.bodyOf Tryz.f43)) (bodyPost Go.Proofs.Tryz.prog Tryz.f43 R) 300 [(1, pT b1), (2, pT b2), (3, pT b3)] F w0 ((52, b3) :: (51, b2) :: (50, b1) :: B) H S := by
 have ok_ := ok
 have la := len_hour' ok
 have lb := len_minute' ok
 have lc := len_second' ok
 have hm1 : (((hour' o).length : Nat) : Int) * (((minute' o).length : Nat) : Int) = (((hour' o).length * (minute' o).length : Nat) : Int) := by rw [Int.natCast_mul]
 have hm2 : (((hour' o).length * (minute' o).length : Nat) : Int) * (((second' o).length : Nat) : Int) = (((hour' o).length * (minute' o).length * (second' o).length : Nat) : Int) := by rw [Int.natCast_mul (_ * _)]
 have hP1 : (hour' o).length * (minute' o).length ≤ 400 * 400 := Nat.mul_le_mul la lb
 have hP2 : (hour' o).length * (minute' o).length * (second' o).length ≤ 400 * 400 * 400 := Nat.mul_le_mul hP1 lc
 have hP3 : (minute' o).length * (second' o).length ≤ 400 * 400 := Nat.mul_le_mul lb lc
 have hP4 : (hour' o).length * ((minute' o).length * (second' o).length) ≤ 400 * (400 * 400) := Nat.mul_le_mul la hP3
 refine g2 ?_
 refine rl (rfa 58) ?_
 refine gL (at_store 52 rfl rfl rfl (bs.hc.get 58 _ rfl) kR rfl dE ?_)
 refine g5 ?_
 refine rl (rfa 38) ?_
 refine rl (rd_load 52 rfl rfl (bs.hc.get 38 _ rfl) kR dE) ?_
 refine g3 ?_
 refine GC_cond rfl (fun hc1 => ?_) (fun hc2 => ?_)
 ·have hf4 : o.freq < 4 := of_decide_eq_true hc1
  refine g2 ?_
  refine rl (rfa 54) ?_
  refine rl (rd_load 52 rfl rfl (bs.hc.get 54 _ rfl) kR dE) ?_
  refine g1 ?_
  refine rl (rfa 55) ?_
  refine rl (rd_load 52 rfl rfl (bs.hc.get 55 _ rfl) kR dE) ?_
  refine g1 ?_
  refine rl ((rd_mul_ rfl rfl (by rw [hm1]; omega)).to (congrArg (Value.int .i64) hm1)) ?_
  refine rl (rfa 56) ?_
  refine rl (rd_load 52 rfl rfl (bs.hc.get 56 _ rfl) kR dE) ?_
  refine g1 ?_
  refine rl ((rd_mul_ rfl rfl (by rw [hm2]; omega)).to (congrArg (Value.int .i64) hm2)) ?_
  refine gL (at_make0 2 (e := 57) (sz := 2) (by_ := 16) (zs := [iV 0, iV 0]) (c := (hour' o).length * (minute' o).length * (second' o).length) dE kR rfl rfl oM oM (fun bm => ?_))
  refine rl (rfa 58) ?_
  refine gL (sto 52 rfl rfl rfl rfl ?_)
  refine g5 ?_
  refine rl (rfa 54) ?_
  refine rl (rd_load 52 rfl rfl (bs.hc.get 54 _ rfl) kR dE) ?_
  refine g5 ?_
  refine GC_loop (ι := (Nat) × (Option Addr) × (Nat) × (Nat) × (List Value) × (List Int)) (fun | ⟨i, q, e, n, xs, l⟩ => (hour' o).length - i) (fun | ⟨i, q, e, n, xs, l⟩ => (i ≤ (hour' o).length) ∧ (l = ((hour' o).take i).flatMap (fun h => (minute' o).flatMap fun m => (second' o).map fun s => h * 3600 + m * 60 + s)) ∧ (n = l.length) ∧ (xs = tcells l) ∧ (n ≤ i * ((minute' o).length * (second' o).length))) (fun | ⟨i, q, e, n, xs, l⟩ => [(1, pT b1), (2, pT b2), (3, pT b3), (258, .slice x.q54 (hour' o).length x.e54), (259, iV ((hour' o).length)), (260, iV i)]) (fun | ⟨i, q, e, n, xs, l⟩ => ((52, b3) :: (51, b2) :: (50, b1) :: B)) (fun | ⟨i, q, e, n, xs, l⟩ => (ky 52 58, .slice q n e) :: H) (fun | ⟨i, q, e, n, xs, l⟩ => (2, ⟨.slice q n e, 57, 2, n, xs⟩) :: S) ⟨0, some ⟨bm, 0, none⟩, (hour' o).length * (minute' o).length * (second' o).length, 0, [], []⟩ ⟨Nat.zero_le _, rfl, rfl, rfl, Nat.zero_le _⟩ kns (fun w s => by exact s.low 53 (((bs.lim.consH dE dE).consS dE)) agx agx agx) ?_
  rintro ⟨i, q, e, n, xs, l⟩ ⟨hi, hl, hn, hxs, hb⟩
  show GC _ _ _ _ [(1, pT b1), (2, pT b2), (3, pT b3), (258, .slice x.q54 (hour' o).length x.e54), (259, iV ((hour' o).length)), (260, iV i)] _ _ (((52, b3) :: (51, b2) :: (50, b1) :: B)) ((ky 52 58, .slice q n e) :: H) ((2, ⟨.slice q n e, 57, 2, n, xs⟩) :: S)
  refine g6 ?_
  refine GC_cond rfl (fun hc1 => ?_) (fun hc2 => ?_)
  ·have hlt_i : i < (hour' o).length := by have := of_decide_eq_true hc1; omega
   obtain ⟨h, hx_h⟩ : ∃ y, (hour' o)[i]? = some y := ⟨_, List.getElem?_eq_getElem hlt_i⟩
   refine GC_have (fun w s => (sh.cons (j := 2) dE).head s oM) fun hh => ?_
   obtain ⟨b_h, o_h, hp_h⟩ := hh
   have src_h := sh
   rw [hp_h] at src_h
   have hiP : i * ((minute' o).length * (second' o).length) + (minute' o).length * (second' o).length ≤ (hour' o).length * ((minute' o).length * (second' o).length) := by rw [← Nat.succ_mul]; exact Nat.mul_le_mul_right _ hlt_i
   have hhr := mem_hour' ok h (List.mem_of_getElem? hx_h)
   refine g6 ?_
   refine rl (rd_indexAddr (e := 3) (n := 1) kR (congrArg (fun p => some (Value.slice p _ _)) hp_h) rfl oM oM) ?_
   refine rl (rd_load_at kR rfl (fun w s => (src_h.cons dE).cell hx_h s)) ?_
   refine g5 ?_
   refine rl (rfa 55) ?_
   refine rl (rd_load 52 rfl rfl (bs.hc.get 55 _ rfl) kR dE) ?_
   refine g5 ?_
   refine GC_loop (ι := (Nat) × (Option Addr) × (Nat) × (Nat) × (List Value) × (List Int)) (fun | ⟨j, q1, e1, n1, xs1, l1⟩ => (minute' o).length - j) (fun | ⟨j, q1, e1, n1, xs1, l1⟩ => (j ≤ (minute' o).length) ∧ (l1 = l ++ ((minute' o).take j).flatMap (fun m => (second' o).map fun s => h * 3600 + m * 60 + s)) ∧ (n1 = l1.length) ∧ (xs1 = tcells l1) ∧ (n1 ≤ i * ((minute' o).length * (second' o).length) + j * (second' o).length)) (fun | ⟨j, q1, e1, n1, xs1, l1⟩ => [(1, pT b1), (2, pT b2), (3, pT b3), (9, iV h), (258, .slice x.q54 (hour' o).length x.e54), (259, iV ((hour' o).length)), (260, iV i), (265, .slice x.q55 (minute' o).length x.e55), (266, iV ((minute' o).length)), (267, iV j)]) (fun | ⟨j, q1, e1, n1, xs1, l1⟩ => ((52, b3) :: (51, b2) :: (50, b1) :: B)) (fun | ⟨j, q1, e1, n1, xs1, l1⟩ => (ky 52 58, .slice q1 n1 e1) :: H) (fun | ⟨j, q1, e1, n1, xs1, l1⟩ => (2, ⟨.slice q1 n1 e1, 57, 2, n1, xs1⟩) :: S) ⟨0, q, e, n, xs, l⟩ ⟨Nat.zero_le _, by simp, hn, hxs, by omega⟩ kns (fun w s => by exact s.low 53 (((bs.lim.consH dE dE).consS dE)) agx agx agx) ?_
   rintro ⟨j, q1, e1, n1, xs1, l1⟩ ⟨hj, hl1, hn1, hxs1, hb1⟩
   show GC _ _ _ _ [(1, pT b1), (2, pT b2), (3, pT b3), (9, iV h), (258, .slice x.q54 (hour' o).length x.e54), (259, iV ((hour' o).length)), (260, iV i), (265, .slice x.q55 (minute' o).length x.e55), (266, iV ((minute' o).length)), (267, iV j)] _ _ (((52, b3) :: (51, b2) :: (50, b1) :: B)) ((ky 52 58, .slice q1 n1 e1) :: H) ((2, ⟨.slice q1 n1 e1, 57, 2, n1, xs1⟩) :: S)
   refine g6 ?_
   refine GC_cond rfl (fun hc1 => ?_) (fun hc2 => ?_)
   ·have hlt_j : j < (minute' o).length := by have := of_decide_eq_true hc1; omega
    obtain ⟨m, hx_m⟩ : ∃ y, (minute' o)[j]? = some y := ⟨_, List.getElem?_eq_getElem hlt_j⟩
    refine GC_have (fun w s => (si.cons (j := 2) dE).head s oM) fun hh => ?_
    obtain ⟨b_m, o_m, hp_m⟩ := hh
    have src_m := si
    rw [hp_m] at src_m
    have hjP : j * (second' o).length + (second' o).length ≤ (minute' o).length * (second' o).length := by rw [← Nat.succ_mul]; exact Nat.mul_le_mul_right _ hlt_j
    have hmr := mem_minute' ok m (List.mem_of_getElem? hx_m)
    refine g6 ?_
    refine rl (rd_indexAddr (e := 3) (n := 1) kR (congrArg (fun p => some (Value.slice p _ _)) hp_m) rfl oM oM) ?_
    refine rl (rd_load_at kR rfl (fun w s => (src_m.cons dE).cell hx_m s)) ?_
    refine g5 ?_
    refine rl (rfa 56) ?_
    refine rl (rd_load 52 rfl rfl (bs.hc.get 56 _ rfl) kR dE) ?_
    refine g5 ?_
    refine GC_loop (ι := (Nat) × (Option Addr) × (Nat) × (Nat) × (List Value) × (List Int)) (fun | ⟨k, q2, e2, n2, xs2, l2⟩ => (second' o).length - k) (fun | ⟨k, q2, e2, n2, xs2, l2⟩ => (k ≤ (second' o).length) ∧ (l2 = l1 ++ ((second' o).take k).map (fun s => h * 3600 + m * 60 + s)) ∧ (n2 = l2.length) ∧ (xs2 = tcells l2) ∧ (n2 ≤ i * ((minute' o).length * (second' o).length) + j * (second' o).length + k)) (fun | ⟨k, q2, e2, n2, xs2, l2⟩ => [(1, pT b1), (2, pT b2), (3, pT b3), (9, iV h), (11, iV m), (258, .slice x.q54 (hour' o).length x.e54), (259, iV ((hour' o).length)), (260, iV i), (265, .slice x.q55 (minute' o).length x.e55), (266, iV ((minute' o).length)), (267, iV j), (272, .slice x.q56 (second' o).length x.e56), (273, iV ((second' o).length)), (274, iV k)]) (fun | ⟨k, q2, e2, n2, xs2, l2⟩ => ((52, b3) :: (51, b2) :: (50, b1) :: B)) (fun | ⟨k, q2, e2, n2, xs2, l2⟩ => (ky 52 58, .slice q2 n2 e2) :: H) (fun | ⟨k, q2, e2, n2, xs2, l2⟩ => (2, ⟨.slice q2 n2 e2, 57, 2, n2, xs2⟩) :: S) ⟨0, q1, e1, n1, xs1, l1⟩ ⟨Nat.zero_le _, by simp, hn1, hxs1, by omega⟩ kns (fun w s => by exact s.low 53 (((bs.lim.consH dE dE).consS dE)) agx agx agx) ?_
    rintro ⟨k, q2, e2, n2, xs2, l2⟩ ⟨hk, hl2, hn2, hxs2, hb2⟩
    show GC _ _ _ _ [(1, pT b1), (2, pT b2), (3, pT b3), (9, iV h), (11, iV m), (258, .slice x.q54 (hour' o).length x.e54), (259, iV ((hour' o).length)), (260, iV i), (265, .slice x.q55 (minute' o).length x.e55), (266, iV ((minute' o).length)), (267, iV j), (272, .slice x.q56 (second' o).length x.e56), (273, iV ((second' o).length)), (274, iV k)] _ _ (((52, b3) :: (51, b2) :: (50, b1) :: B)) ((ky 52 58, .slice q2 n2 e2) :: H) ((2, ⟨.slice q2 n2 e2, 57, 2, n2, xs2⟩) :: S)
    refine g6 ?_
    refine GC_cond rfl (fun hc1 => ?_) (fun hc2 => ?_)
    ·have hlt_k : k < (second' o).length := by have := of_decide_eq_true hc1; omega
     obtain ⟨sc, hx_sc⟩ : ∃ y, (second' o)[k]? = some y := ⟨_, List.getElem?_eq_getElem hlt_k⟩
     refine GC_have (fun w s => (ss.cons (j := 2) dE).head s oM) fun hh => ?_
     obtain ⟨b_sc, o_sc, hp_sc⟩ := hh
     have src_sc := ss
     rw [hp_sc] at src_sc
     have hsr := mem_second' ok sc (List.mem_of_getElem? hx_sc)
     refine g6 ?_
     refine rl (rd_indexAddr (e := 3) (n := 1) kR (congrArg (fun p => some (Value.slice p _ _)) hp_sc) rfl oM oM) ?_
     refine rl (rd_load_at kR rfl (fun w s => (src_sc.cons dE).cell hx_sc s)) ?_
     refine g3 ?_
     refine GC_anyS (fun i => i == 12) kR ?_
     refine gr 0 rfl (rfa 58) ?_
     refine gr 1 rfl (rld 52 rfl rfl rfl) ?_
     refine gr 2 rfl (rd_move rfl) ?_
     refine gr 3 rfl (rd_move rfl) ?_
     refine gr 4 rfl (rd_move rfl) ?_
     refine gr 5 rfl (rfa 39) ?_
     refine gr 6 rfl (rd_load2 52 rfl rfl (bs.hc.get 39 _ rfl) (bs.hc.get 40 _ rfl) kR dE) ?_
     refine gn 7 rfl (cvo rfl (fun w_ s_ => location_calls _ _ w_) (gk ?_))
     refine gn 8 rfl (cvo (v := .agg #[iV (h * 3600 + m * 60 + sc), iV 0]) rfl (fun w_ s_ => (mkdate_calls 1 1 1 _ _ _ 0 oM oM oM oM oM oM oM w_).mono fun e_ w2_ h_ => ⟨h_.1.trans (congrArg Ending.returned (by rw [show Cal.dayNo 1 1 1 = 0 from rfl, show (0 : Int) * 86400 + h * 3600 + m * 60 + sc = h * 3600 + m * 60 + sc by omega])), h_.2⟩) (gk ?_))
     refine gn 9 rfl (at_one 60 (e := 57) (sz := 2) (by_ := 16) (zs := [iV 0, iV 0]) dE kR rfl dE dE rfl rfl rfl (bs.lim.s 60 dE) (fun bo => gk ?_))
     refine gn 10 rfl (at_append 2 60 (e := 57) (sz := 2) (by_ := 16) (zs := [iV 0, iV 0]) dE kR rfl dE rfl rfl rfl rfl ⟨rfl, rfl⟩ ⟨rfl, rfl⟩ one2 sO sO (fun q3 e3 => gk ?_))
     refine gn 11 rfl (at_rd dE (rfa 58) (gk ?_))
     refine gn 12 rfl (sto 52 rfl rfl rfl rfl (gk ?_))
     refine GA_end kR ?_
     refine g6 ?_
     refine GE_back ⟨k + 1, q3, e3, n2 + 1, xs2 ++ [iV (h * 3600 + m * 60 + sc), iV 0], l2 ++ [h * 3600 + m * 60 + sc]⟩ sO ⟨by omega, by rw [hl2, List.take_add_one, hx_sc]; simp only [Option.toList_some, List.map_append, List.map_cons, List.map_nil, List.append_assoc], by rw [List.length_append, hn2]; rfl, by rw [hxs2]; exact tcells_append _ _, by omega⟩ kns (fun w s => by exact s.low 53 (((bs.lim.consH dE dE).consS dE)) agx agx agx)
    ·have hge_k : ¬ k < (second' o).length := by have := of_decide_eq_false hc2; omega
     obtain rfl : k = (second' o).length := by omega
     refine g10 ?_
     refine GE_back ⟨j + 1, q2, e2, n2, xs2, l2⟩ sO ⟨by omega, by rw [hl2, hl1, List.take_add_one, hx_m]; simp only [Option.toList_some, List.flatMap_append, List.flatMap_cons, List.flatMap_nil, List.append_nil, List.append_assoc]; rw [List.take_length], hn2, hxs2, by rw [Nat.succ_mul]; omega⟩ kns (fun w s => by exact s.low 53 (((bs.lim.consH dE dE).consS dE)) agx agx agx)
   ·have hge_j : ¬ j < (minute' o).length := by have := of_decide_eq_false hc2; omega
    obtain rfl : j = (minute' o).length := by omega
    refine g10 ?_
    refine GE_back ⟨i + 1, q1, e1, n1, xs1, l1⟩ sO ⟨by omega, by rw [hl1, hl, List.take_add_one, hx_h]; simp only [Option.toList_some, List.flatMap_append, List.flatMap_cons, List.flatMap_nil, List.append_nil]; rw [List.take_length], hn1, hxs1, by rw [Nat.succ_mul]; omega⟩ kns (fun w s => by exact s.low 53 (((bs.lim.consH dE dE).consS dE)) agx agx agx)
  ·have hge_i : ¬ i < (hour' o).length := by have := of_decide_eq_false hc2; omega
   obtain rfl : i = (hour' o).length := by omega
   rw [List.take_length] at hl
   have hraw : l = raw o := hl
   subst hraw
   subst hn hxs
   refine g6 ?_
   refine rl (rfa 58) ?_
   refine rl (rld 52 rfl rfl rfl) ?_
   refine rl ((rd_makeInterface (r := .iface 122 (.slice q (raw o).length e)) rfl (fun w => by kernel_rfl))) ?_
   refine gL (at_call (ι := Unit) (fun _ => .tuple #[]) (fun _ => True) (fun _ => _) (fun _ => _) (fun _ => ((2, ⟨.slice q (raw o).length e, 57, 2, (raw o).length, tcells (sortI (raw o))⟩) :: (2, ⟨.slice q (raw o).length e, 57, 2, (raw o).length, tcells (raw o)⟩) :: S)) dE kR rfl (fun w_ s_ => (hsort hf4 _ _ _ q e w_ (((bs.lim.consH dE dE).consS dE).mono dE) rfl s_).mono fun e_ w2_ h_ => ⟨(), trivial, h_.1, h_.2⟩) (fun _ _ => ?_))
   refine g2 ?_
   refine GC_to (L' := [(1, pT b1), (2, pT b2), (3, pT b3)]) kns (fun w s => s) ?_
   have hts : tset o = sortI (raw o) := by unfold tset; rw [if_pos hf4]
   have htl : (tset o).length = (raw o).length := by rw [hts]; exact List.length_mergeSort _
   refine bu_J (x := { x with tp := q, tc := e }) ok hsort (H := (ky 52 58, .slice q (raw o).length e) :: H) (S := ((2, ⟨.slice q (raw o).length e, 57, 2, (raw o).length, tcells (sortI (raw o))⟩) :: (2, ⟨.slice q (raw o).length e, 57, 2, (raw o).length, tcells (raw o)⟩) :: S)) ⟨bs.ho, (cellsAt.cons (bs.hc.get 0 _ rfl) (cellsAt.cons (bs.hc.get 1 _ rfl) (cellsAt.cons (bs.hc.get 2 _ rfl) (cellsAt.cons (bs.hc.get 3 _ rfl) (cellsAt.cons (bs.hc.get 4 _ rfl) (cellsAt.cons (bs.hc.get 5 _ rfl) (cellsAt.cons (bs.hc.get 6 _ rfl) (cellsAt.cons (bs.hc.get 7 _ rfl) (cellsAt.cons (bs.hc.get 8 _ rfl) (cellsAt.cons (bs.hc.get 9 _ rfl) (cellsAt.cons (bs.hc.get 10 _ rfl) (cellsAt.cons (bs.hc.get 11 _ rfl) (cellsAt.cons (bs.hc.get 12 _ rfl) (cellsAt.cons (bs.hc.get 13 _ rfl) (cellsAt.cons (bs.hc.get 14 _ rfl) (cellsAt.cons (bs.hc.get 15 _ rfl) (cellsAt.cons (bs.hc.get 16 _ rfl) (cellsAt.cons (bs.hc.get 17 _ rfl) (cellsAt.cons (bs.hc.get 18 _ rfl) (cellsAt.cons (bs.hc.get 19 _ rfl) (cellsAt.cons (bs.hc.get 20 _ rfl) (cellsAt.cons (bs.hc.get 21 _ rfl) (cellsAt.cons (bs.hc.get 22 _ rfl) (cellsAt.cons (bs.hc.get 23 _ rfl) (cellsAt.cons (bs.hc.get 24 _ rfl) (cellsAt.cons (bs.hc.get 25 _ rfl) (cellsAt.cons (bs.hc.get 26 _ rfl) (cellsAt.cons (bs.hc.get 27 _ rfl) (cellsAt.cons (bs.hc.get 28 _ rfl) (cellsAt.cons (bs.hc.get 29 _ rfl) (cellsAt.cons (bs.hc.get 30 _ rfl) (cellsAt.cons (bs.hc.get 31 _ rfl) (cellsAt.cons (bs.hc.get 32 _ rfl) (cellsAt.cons (bs.hc.get 33 _ rfl) (cellsAt.cons (bs.hc.get 34 _ rfl) (cellsAt.cons (bs.hc.get 35 _ rfl) (cellsAt.cons (bs.hc.get 36 _ rfl) (cellsAt.cons (bs.hc.get 37 _ rfl) (cellsAt.cons (bs.hc.get 38 _ rfl) (cellsAt.cons (bs.hc.get 39 _ rfl) (cellsAt.cons (bs.hc.get 40 _ rfl) (cellsAt.cons (bs.hc.get 41 _ rfl) (cellsAt.cons (bs.hc.get 42 _ rfl) (cellsAt.cons (bs.hc.get 43 _ rfl) (cellsAt.cons (bs.hc.get 44 _ rfl) (cellsAt.cons (bs.hc.get 45 _ rfl) (cellsAt.cons (bs.hc.get 46 _ rfl) (cellsAt.cons (bs.hc.get 47 _ rfl) (cellsAt.cons (bs.hc.get 48 _ rfl) (cellsAt.cons (bs.hc.get 49 _ rfl) (cellsAt.cons (bs.hc.get 50 _ rfl) (cellsAt.cons (bs.hc.get 51 _ rfl) (cellsAt.cons (bs.hc.get 52 _ rfl) (cellsAt.cons (bs.hc.get 53 _ rfl) (cellsAt.cons (bs.hc.get 54 _ rfl) (cellsAt.cons (bs.hc.get 55 _ rfl) (cellsAt.cons (bs.hc.get 56 _ rfl) (cellsAt.cons (bs.hc.get 57 _ rfl) (cellsAt.cons (show lkp (ky 52 58) _ = some (Value.slice q (tset o).length e) from by rw [htl]; rfl) (cellsAt.cons (bs.hc.get 59 _ rfl) cellsAt.nil)))))))))))))))))))))))))))))))))))))))))))))))))))))))))))), (knwn_mono (by repeat (first | exact Knw.refl _ | apply Knw.cons)) bs.h2), (by repeat (first | exact bs.lim | apply Lim.consH _ dE dE | apply Lim.consS _ dE)), bs.limB, (fun k_ h1_ o_ ho_ => Eq.trans (by repeat (first | rfl | rw [lkp_ky_ne oM ho_ dE])) (bs.frH k_ h1_ o_ ho_)), (fun k_ h1_ h2_ => Eq.trans aH (bs.frS k_ h1_ h2_))⟩ ((s9.cons dE).cons dE) ((sm.cons dE).cons dE) ((s12.cons dE).cons dE) ((s13.cons dE).cons dE) ((s18.cons dE).cons dE) r12 r13 r14 ((sh.cons dE).cons dE) ((si.cons dE).cons dE) ((ss.cons dE).cons dE) (fun _ => by rw [hts, show (sortI (raw o)).length = (raw o).length from List.length_mergeSort _]; rfl) hR
 ·have hf4 : ¬ o.freq < 4 := of_decide_eq_false hc2
  refine g2 ?_
  refine GC_to (L' := [(1, pT b1), (2, pT b2), (3, pT b3)]) kns (fun w s => s) ?_
  have hts : tset o = [] := by unfold tset; rw [if_neg hf4]
  refine bu_J (x := { x with tp := none, tc := 0 }) ok hsort (H := (ky 52 58, .slice none 0 0) :: H) (S := S) ⟨bs.ho, (cellsAt.cons (bs.hc.get 0 _ rfl) (cellsAt.cons (bs.hc.get 1 _ rfl) (cellsAt.cons (bs.hc.get 2 _ rfl) (cellsAt.cons (bs.hc.get 3 _ rfl) (cellsAt.cons (bs.hc.get 4 _ rfl) (cellsAt.cons (bs.hc.get 5 _ rfl) (cellsAt.cons (bs.hc.get 6 _ rfl) (cellsAt.cons (bs.hc.get 7 _ rfl) (cellsAt.cons (bs.hc.get 8 _ rfl) (cellsAt.cons (bs.hc.get 9 _ rfl) (cellsAt.cons (bs.hc.get 10 _ rfl) (cellsAt.cons (bs.hc.get 11 _ rfl) (cellsAt.cons (bs.hc.get 12 _ rfl) (cellsAt.cons (bs.hc.get 13 _ rfl) (cellsAt.cons (bs.hc.get 14 _ rfl) (cellsAt.cons (bs.hc.get 15 _ rfl) (cellsAt.cons (bs.hc.get 16 _ rfl) (cellsAt.cons (bs.hc.get 17 _ rfl) (cellsAt.cons (bs.hc.get 18 _ rfl) (cellsAt.cons (bs.hc.get 19 _ rfl) (cellsAt.cons (bs.hc.get 20 _ rfl) (cellsAt.cons (bs.hc.get 21 _ rfl) (cellsAt.cons (bs.hc.get 22 _ rfl) (cellsAt.cons (bs.hc.get 23 _ rfl) (cellsAt.cons (bs.hc.get 24 _ rfl) (cellsAt.cons (bs.hc.get 25 _ rfl) (cellsAt.cons (bs.hc.get 26 _ rfl) (cellsAt.cons (bs.hc.get 27 _ rfl) (cellsAt.cons (bs.hc.get 28 _ rfl) (cellsAt.cons (bs.hc.get 29 _ rfl) (cellsAt.cons (bs.hc.get 30 _ rfl) (cellsAt.cons (bs.hc.get 31 _ rfl) (cellsAt.cons (bs.hc.get 32 _ rfl) (cellsAt.cons (bs.hc.get 33 _ rfl) (cellsAt.cons (bs.hc.get 34 _ rfl) (cellsAt.cons (bs.hc.get 35 _ rfl) (cellsAt.cons (bs.hc.get 36 _ rfl) (cellsAt.cons (bs.hc.get 37 _ rfl) (cellsAt.cons (bs.hc.get 38 _ rfl) (cellsAt.cons (bs.hc.get 39 _ rfl) (cellsAt.cons (bs.hc.get 40 _ rfl) (cellsAt.cons (bs.hc.get 41 _ rfl) (cellsAt.cons (bs.hc.get 42 _ rfl) (cellsAt.cons (bs.hc.get 43 _ rfl) (cellsAt.cons (bs.hc.get 44 _ rfl) (cellsAt.cons (bs.hc.get 45 _ rfl) (cellsAt.cons (bs.hc.get 46 _ rfl) (cellsAt.cons (bs.hc.get 47 _ rfl) (cellsAt.cons (bs.hc.get 48 _ rfl) (cellsAt.cons (bs.hc.get 49 _ rfl) (cellsAt.cons (bs.hc.get 50 _ rfl) (cellsAt.cons (bs.hc.get 51 _ rfl) (cellsAt.cons (bs.hc.get 52 _ rfl) (cellsAt.cons (bs.hc.get 53 _ rfl) (cellsAt.cons (bs.hc.get 54 _ rfl) (cellsAt.cons (bs.hc.get 55 _ rfl) (cellsAt.cons (bs.hc.get 56 _ rfl) (cellsAt.cons (bs.hc.get 57 _ rfl) (cellsAt.cons (show lkp (ky 52 58) _ = some (Value.slice none (tset o).length 0) from by rw [hts]; rfl) (cellsAt.cons (bs.hc.get 59 _ rfl) cellsAt.nil)))))))))))))))))))))))))))))))))))))))))))))))))))))))))))), (knwn_mono (by repeat (first | exact Knw.refl _ | apply Knw.cons)) bs.h2), (by repeat (first | exact bs.lim | apply Lim.consH _ dE dE | apply Lim.consS _ dE)), bs.limB, (fun k_ h1_ o_ ho_ => Eq.trans (by repeat (first | rfl | rw [lkp_ky_ne oM ho_ dE])) (bs.frH k_ h1_ o_ ho_)), (fun k_ h1_ h2_ => Eq.trans aH (bs.frS k_ h1_ h2_))⟩ s9 sm s12 s13 s18 r12 r13 r14 sh si ss (fun h => absurd h hf4) hR
end
end Go.Proofs.YtdbbifbmkfmbkaaGreat
namespace Go.Proofs.YtdbbifbmkfmbkaaGreat
open Go.RowKit Go.Fr Go.Tab
section
variable {F : Nat → Prop} {w0 : World} {B : List (Nat × Nat)} {H : List (Nat × Value)} {S : List (Nat × Slc)}
open Go.Md
theorem bu_G {R : Ending → World → Prop} {o : Opn} {x : Av} {b1 b2 b3 : Nat} {H0 : List (Nat × Value)} {S0 : List (Nat × Slc)} (ok : OpOk o) (hsort : o.freq < 4 → SortOk F w0 (raw o)) (bs : Bs F w0 B H0 S0 b1 b2 b3 (oc1 o x) (rcF o x) H S) (s9 : SrcT F w0 S 11 (.slice x.p9 (o.setpos).length x.c9) o.setpos) (sm : SrcT F w0 S 16 (.slice x.pm (month' o).length x.cm) (month' o)) (s12 : SrcT F w0 S 11 (.slice x.p12 (o.yday).length x.c12) o.yday) (s13 : SrcT F w0 S 11 (.slice x.p13 (o.weekno).length x.c13) o.weekno) (s17 : SrcT F w0 S 11 (.slice x.p17 (o.second).length x.c17) o.second) (s18 : SrcT F w0 S 11 (.slice x.p18 (o.easter).length x.c18) o.easter) (r12 : lkp 12 S = some ⟨.slice x.q48 (posM (mday' o)).length x.e48, 3, 1, (posM (mday' o)).length, (posM (mday' o)).map iV⟩) (r13 : lkp 13 S = some ⟨.slice x.q49 (negM (mday' o)).length x.e49, 3, 1, (negM (mday' o)).length, (negM (mday' o)).map iV⟩) (r14 : lkp 14 S = some ⟨.slice x.q52 (((wday' o).filter (plainW o.freq)).map Prod.fst).length x.e52, 3, 1, (((wday' o).filter (plainW o.freq)).map Prod.fst).length, (((wday' o).filter (plainW o.freq)).map Prod.fst).map iV⟩) (sh : SrcT F w0 S 18 (.slice x.q54 (hour' o).length x.e54) (hour' o)) (si : SrcT F w0 S 19 (.slice x.q55 (minute' o).length x.e55) (minute' o))  (hR : ∀ (x : Av) (S' : List (Nat × Slc)), OutF F w0 o x S0 S' → ∀ w, Sees F w0 B H0 S' w → R (.returned (.agg (outC o x).toArray)) w) : GC Go.Proofs.Tryz.prog (Go.Fr.part [1, 1, 1, 1, 1, 1, 1, 1, 1, 1, 1, 1, 1, 1, 1, 1, 1, 1, 1, 1, 1, 1, 1] (Go.Fr.bodyOf Tryz.f43)) (bodyPost Go.Proofs.Tryz.prog Tryz.f43 R) 300 [(1, pT b1), (2, pT b2), (3, pT b3)] F w0 ((52, b3) :: (51, b2) :: (50, b1) :: B) H S := by
 have ok_ := ok
 have hd_ := ok.d
 have hfr := ok.freq
 refine g3 ?_
 refine rl (rfa 17) ?_
 refine rl (rd_load 50 rfl rfl (bs.ho.get 17 _ rfl) kR dE) ?_
 refine g4 ?_
 refine GC_cond rfl (fun hc1 => ?_) (fun hc2 => ?_)
 ·have hz : o.second.length = 0 := by have := beq_iff_eq.1 hc1; omega
  refine g2 ?_
  refine rl (rfa 38) ?_
  refine rl (rd_load 52 rfl rfl (bs.hc.get 38 _ rfl) kR dE) ?_
  refine g3 ?_
  refine GC_cond rfl (fun hc1 => ?_) (fun hc2 => ?_)
  ·have hf : o.freq < 6 := of_decide_eq_true hc1
   have hh : second' o = [o.d % 86400 % 60] := by unfold second'; rw [if_pos hz, if_pos hf]
   refine g1 ?_
   refine rl (rfa 39) ?_
   refine rl (rd_load2 52 rfl rfl (bs.hc.get 39 _ rfl) (bs.hc.get 40 _ rfl) kR dE) ?_
   refine gL (cvo rfl (fun w_ s_ => second_calls _ _ oM w_) ?_)
   refine gL (at_one_ 20 (e := 3) (sz := 1) (by_ := 8) (zs := [iV 0]) (cs := [iV (o.d % 86400 % 60)]) dE kR rfl dE dE rfl rfl rfl (fun bo => ?_))
   refine rl (rfa 56) ?_
   refine gL (at_store 52 rfl rfl rfl (bs.hc.get 56 _ rfl) kR rfl dE ?_)
   refine g2 ?_
   refine GC_to (L' := [(1, pT b1), (2, pT b2), (3, pT b3)]) kns (fun w s => s) ?_
   refine bu_I (x := { x with q56 := some ⟨bo, 0, none⟩, e56 := 1 }) ok hsort (H := ((ky 52 56, sL bo 1 1) :: H)) (S := ((20, ⟨sL bo 1 1, 3, 1, 1, [iV (o.d % 86400 % 60)]⟩) :: S)) ⟨bs.ho, (cellsAt.cons (bs.hc.get 0 _ rfl) (cellsAt.cons (bs.hc.get 1 _ rfl) (cellsAt.cons (bs.hc.get 2 _ rfl) (cellsAt.cons (bs.hc.get 3 _ rfl) (cellsAt.cons (bs.hc.get 4 _ rfl) (cellsAt.cons (bs.hc.get 5 _ rfl) (cellsAt.cons (bs.hc.get 6 _ rfl) (cellsAt.cons (bs.hc.get 7 _ rfl) (cellsAt.cons (bs.hc.get 8 _ rfl) (cellsAt.cons (bs.hc.get 9 _ rfl) (cellsAt.cons (bs.hc.get 10 _ rfl) (cellsAt.cons (bs.hc.get 11 _ rfl) (cellsAt.cons (bs.hc.get 12 _ rfl) (cellsAt.cons (bs.hc.get 13 _ rfl) (cellsAt.cons (bs.hc.get 14 _ rfl) (cellsAt.cons (bs.hc.get 15 _ rfl) (cellsAt.cons (bs.hc.get 16 _ rfl) (cellsAt.cons (bs.hc.get 17 _ rfl) (cellsAt.cons (bs.hc.get 18 _ rfl) (cellsAt.cons (bs.hc.get 19 _ rfl) (cellsAt.cons (bs.hc.get 20 _ rfl) (cellsAt.cons (bs.hc.get 21 _ rfl) (cellsAt.cons (bs.hc.get 22 _ rfl) (cellsAt.cons (bs.hc.get 23 _ rfl) (cellsAt.cons (bs.hc.get 24 _ rfl) (cellsAt.cons (bs.hc.get 25 _ rfl) (cellsAt.cons (bs.hc.get 26 _ rfl) (cellsAt.cons (bs.hc.get 27 _ rfl) (cellsAt.cons (bs.hc.get 28 _ rfl) (cellsAt.cons (bs.hc.get 29 _ rfl) (cellsAt.cons (bs.hc.get 30 _ rfl) (cellsAt.cons (bs.hc.get 31 _ rfl) (cellsAt.cons (bs.hc.get 32 _ rfl) (cellsAt.cons (bs.hc.get 33 _ rfl) (cellsAt.cons (bs.hc.get 34 _ rfl) (cellsAt.cons (bs.hc.get 35 _ rfl) (cellsAt.cons (bs.hc.get 36 _ rfl) (cellsAt.cons (bs.hc.get 37 _ rfl) (cellsAt.cons (bs.hc.get 38 _ rfl) (cellsAt.cons (bs.hc.get 39 _ rfl) (cellsAt.cons (bs.hc.get 40 _ rfl) (cellsAt.cons (bs.hc.get 41 _ rfl) (cellsAt.cons (bs.hc.get 42 _ rfl) (cellsAt.cons (bs.hc.get 43 _ rfl) (cellsAt.cons (bs.hc.get 44 _ rfl) (cellsAt.cons (bs.hc.get 45 _ rfl) (cellsAt.cons (bs.hc.get 46 _ rfl) (cellsAt.cons (bs.hc.get 47 _ rfl) (cellsAt.cons (bs.hc.get 48 _ rfl) (cellsAt.cons (bs.hc.get 49 _ rfl) (cellsAt.cons (bs.hc.get 50 _ rfl) (cellsAt.cons (bs.hc.get 51 _ rfl) (cellsAt.cons (bs.hc.get 52 _ rfl) (cellsAt.cons (bs.hc.get 53 _ rfl) (cellsAt.cons (bs.hc.get 54 _ rfl) (cellsAt.cons (bs.hc.get 55 _ rfl) (cellsAt.cons (show lkp (ky 52 56) _ = some (sL bo (second' o).length 1) from by rw [hh]; rfl) (cellsAt.cons (bs.hc.get 57 _ rfl) (cellsAt.cons (bs.hc.get 58 _ rfl) (cellsAt.cons (bs.hc.get 59 _ rfl) cellsAt.nil)))))))))))))))))))))))))))))))))))))))))))))))))))))))))))), (knwn_mono (by repeat (first | exact Knw.refl _ | apply Knw.cons)) bs.h2), (by repeat (first | exact bs.lim | apply Lim.consH _ dE dE | apply Lim.consS _ dE)), bs.limB, (fun k_ h1_ o_ ho_ => Eq.trans (by repeat (first | rfl | rw [lkp_ky_ne oM ho_ dE])) (bs.frH k_ h1_ o_ ho_)), (fun k_ h1_ h2_ => Eq.trans aH (bs.frS k_ h1_ h2_))⟩ (s9.cons dE) (sm.cons dE) (s12.cons dE) (s13.cons dE) (s18.cons dE) r12 r13 r14 (sh.cons dE) (si.cons dE) (SrcT.row (e := 3) (by rw [hh]; rfl)) hR
  ·have hf : ¬ o.freq < 6 := of_decide_eq_false hc2
   have hh : second' o = [] := by unfold second'; rw [if_pos hz, if_neg hf]
   refine g2 ?_
   refine GC_to (L' := [(1, pT b1), (2, pT b2), (3, pT b3)]) kns (fun w s => s) ?_
   refine bu_I (x := { x with q56 := none, e56 := 0 }) ok hsort (H := H) (S := S) ⟨bs.ho, (cellsAt.cons (bs.hc.get 0 _ rfl) (cellsAt.cons (bs.hc.get 1 _ rfl) (cellsAt.cons (bs.hc.get 2 _ rfl) (cellsAt.cons (bs.hc.get 3 _ rfl) (cellsAt.cons (bs.hc.get 4 _ rfl) (cellsAt.cons (bs.hc.get 5 _ rfl) (cellsAt.cons (bs.hc.get 6 _ rfl) (cellsAt.cons (bs.hc.get 7 _ rfl) (cellsAt.cons (bs.hc.get 8 _ rfl) (cellsAt.cons (bs.hc.get 9 _ rfl) (cellsAt.cons (bs.hc.get 10 _ rfl) (cellsAt.cons (bs.hc.get 11 _ rfl) (cellsAt.cons (bs.hc.get 12 _ rfl) (cellsAt.cons (bs.hc.get 13 _ rfl) (cellsAt.cons (bs.hc.get 14 _ rfl) (cellsAt.cons (bs.hc.get 15 _ rfl) (cellsAt.cons (bs.hc.get 16 _ rfl) (cellsAt.cons (bs.hc.get 17 _ rfl) (cellsAt.cons (bs.hc.get 18 _ rfl) (cellsAt.cons (bs.hc.get 19 _ rfl) (cellsAt.cons (bs.hc.get 20 _ rfl) (cellsAt.cons (bs.hc.get 21 _ rfl) (cellsAt.cons (bs.hc.get 22 _ rfl) (cellsAt.cons (bs.hc.get 23 _ rfl) (cellsAt.cons (bs.hc.get 24 _ rfl) (cellsAt.cons (bs.hc.get 25 _ rfl) (cellsAt.cons (bs.hc.get 26 _ rfl) (cellsAt.cons (bs.hc.get 27 _ rfl) (cellsAt.cons (bs.hc.get 28 _ rfl) (cellsAt.cons (bs.hc.get 29 _ rfl) (cellsAt.cons (bs.hc.get 30 _ rfl) (cellsAt.cons (bs.hc.get 31 _ rfl) (cellsAt.cons (bs.hc.get 32 _ rfl) (cellsAt.cons (bs.hc.get 33 _ rfl) (cellsAt.cons (bs.hc.get 34 _ rfl) (cellsAt.cons (bs.hc.get 35 _ rfl) (cellsAt.cons (bs.hc.get 36 _ rfl) (cellsAt.cons (bs.hc.get 37 _ rfl) (cellsAt.cons (bs.hc.get 38 _ rfl) (cellsAt.cons (bs.hc.get 39 _ rfl) (cellsAt.cons (bs.hc.get 40 _ rfl) (cellsAt.cons (bs.hc.get 41 _ rfl) (cellsAt.cons (bs.hc.get 42 _ rfl) (cellsAt.cons (bs.hc.get 43 _ rfl) (cellsAt.cons (bs.hc.get 44 _ rfl) (cellsAt.cons (bs.hc.get 45 _ rfl) (cellsAt.cons (bs.hc.get 46 _ rfl) (cellsAt.cons (bs.hc.get 47 _ rfl) (cellsAt.cons (bs.hc.get 48 _ rfl) (cellsAt.cons (bs.hc.get 49 _ rfl) (cellsAt.cons (bs.hc.get 50 _ rfl) (cellsAt.cons (bs.hc.get 51 _ rfl) (cellsAt.cons (bs.hc.get 52 _ rfl) (cellsAt.cons (bs.hc.get 53 _ rfl) (cellsAt.cons (bs.hc.get 54 _ rfl) (cellsAt.cons (bs.hc.get 55 _ rfl) (cellsAt.cons (show lkp (ky 52 56) _ = some (Value.slice none (second' o).length 0) from by rw [hh]; exact bs.hc.get 56 _ rfl) (cellsAt.cons (bs.hc.get 57 _ rfl) (cellsAt.cons (bs.hc.get 58 _ rfl) (cellsAt.cons (bs.hc.get 59 _ rfl) cellsAt.nil)))))))))))))))))))))))))))))))))))))))))))))))))))))))))))), (knwn_mono (by repeat (first | exact Knw.refl _ | apply Knw.cons)) bs.h2), bs.lim, bs.limB, (fun k_ h1_ o_ ho_ => Eq.trans (by repeat (first | rfl | rw [lkp_ky_ne oM ho_ dE])) (bs.frH k_ h1_ o_ ho_)), (fun k_ h1_ h2_ => Eq.trans aH (bs.frS k_ h1_ h2_))⟩ s9 sm s12 s13 s18 r12 r13 r14 sh si (by rw [hh]; exact SrcT.nil) hR
 ·have hz : ¬ o.second.length = 0 := by have := beq_eq_false_iff_ne.1 hc2; omega
  have hh : second' o = o.second := by unfold second'; rw [if_neg hz]
  refine g1 ?_
  refine rl (rfa 17) ?_
  refine rl (rd_load 50 rfl rfl (bs.ho.get 17 _ rfl) kR dE) ?_
  refine rl (rfa 56) ?_
  refine gL (at_store 52 rfl rfl rfl (bs.hc.get 56 _ rfl) kR rfl dE ?_)
  refine g2 ?_
  refine GC_to (L' := [(1, pT b1), (2, pT b2), (3, pT b3)]) kns (fun w s => s) ?_
  refine bu_I (x := { x with q56 := x.p17, e56 := x.c17 }) ok hsort (H := ((ky 52 56, .slice x.p17 (o.second).length x.c17) :: H)) (S := S) ⟨bs.ho, (cellsAt.cons (bs.hc.get 0 _ rfl) (cellsAt.cons (bs.hc.get 1 _ rfl) (cellsAt.cons (bs.hc.get 2 _ rfl) (cellsAt.cons (bs.hc.get 3 _ rfl) (cellsAt.cons (bs.hc.get 4 _ rfl) (cellsAt.cons (bs.hc.get 5 _ rfl) (cellsAt.cons (bs.hc.get 6 _ rfl) (cellsAt.cons (bs.hc.get 7 _ rfl) (cellsAt.cons (bs.hc.get 8 _ rfl) (cellsAt.cons (bs.hc.get 9 _ rfl) (cellsAt.cons (bs.hc.get 10 _ rfl) (cellsAt.cons (bs.hc.get 11 _ rfl) (cellsAt.cons (bs.hc.get 12 _ rfl) (cellsAt.cons (bs.hc.get 13 _ rfl) (cellsAt.cons (bs.hc.get 14 _ rfl) (cellsAt.cons (bs.hc.get 15 _ rfl) (cellsAt.cons (bs.hc.get 16 _ rfl) (cellsAt.cons (bs.hc.get 17 _ rfl) (cellsAt.cons (bs.hc.get 18 _ rfl) (cellsAt.cons (bs.hc.get 19 _ rfl) (cellsAt.cons (bs.hc.get 20 _ rfl) (cellsAt.cons (bs.hc.get 21 _ rfl) (cellsAt.cons (bs.hc.get 22 _ rfl) (cellsAt.cons (bs.hc.get 23 _ rfl) (cellsAt.cons (bs.hc.get 24 _ rfl) (cellsAt.cons (bs.hc.get 25 _ rfl) (cellsAt.cons (bs.hc.get 26 _ rfl) (cellsAt.cons (bs.hc.get 27 _ rfl) (cellsAt.cons (bs.hc.get 28 _ rfl) (cellsAt.cons (bs.hc.get 29 _ rfl) (cellsAt.cons (bs.hc.get 30 _ rfl) (cellsAt.cons (bs.hc.get 31 _ rfl) (cellsAt.cons (bs.hc.get 32 _ rfl) (cellsAt.cons (bs.hc.get 33 _ rfl) (cellsAt.cons (bs.hc.get 34 _ rfl) (cellsAt.cons (bs.hc.get 35 _ rfl) (cellsAt.cons (bs.hc.get 36 _ rfl) (cellsAt.cons (bs.hc.get 37 _ rfl) (cellsAt.cons (bs.hc.get 38 _ rfl) (cellsAt.cons (bs.hc.get 39 _ rfl) (cellsAt.cons (bs.hc.get 40 _ rfl) (cellsAt.cons (bs.hc.get 41 _ rfl) (cellsAt.cons (bs.hc.get 42 _ rfl) (cellsAt.cons (bs.hc.get 43 _ rfl) (cellsAt.cons (bs.hc.get 44 _ rfl) (cellsAt.cons (bs.hc.get 45 _ rfl) (cellsAt.cons (bs.hc.get 46 _ rfl) (cellsAt.cons (bs.hc.get 47 _ rfl) (cellsAt.cons (bs.hc.get 48 _ rfl) (cellsAt.cons (bs.hc.get 49 _ rfl) (cellsAt.cons (bs.hc.get 50 _ rfl) (cellsAt.cons (bs.hc.get 51 _ rfl) (cellsAt.cons (bs.hc.get 52 _ rfl) (cellsAt.cons (bs.hc.get 53 _ rfl) (cellsAt.cons (bs.hc.get 54 _ rfl) (cellsAt.cons (bs.hc.get 55 _ rfl) (cellsAt.cons (show lkp (ky 52 56) _ = some (Value.slice x.p17 (second' o).length x.c17) from by rw [hh]; rfl) (cellsAt.cons (bs.hc.get 57 _ rfl) (cellsAt.cons (bs.hc.get 58 _ rfl) (cellsAt.cons (bs.hc.get 59 _ rfl) cellsAt.nil)))))))))))))))))))))))))))))))))))))))))))))))))))))))))))), (knwn_mono (by repeat (first | exact Knw.refl _ | apply Knw.cons)) bs.h2), (by repeat (first | exact bs.lim | apply Lim.consH _ dE dE | apply Lim.consS _ dE)), bs.limB, (fun k_ h1_ o_ ho_ => Eq.trans (by repeat (first | rfl | rw [lkp_ky_ne oM ho_ dE])) (bs.frH k_ h1_ o_ ho_)), (fun k_ h1_ h2_ => Eq.trans aH (bs.frS k_ h1_ h2_))⟩ s9 sm s12 s13 s18 r12 r13 r14 sh si (by rw [hh]; exact s17.more) hR
theorem bu_F {R : Ending → World → Prop} {o : Opn} {x : Av} {b1 b2 b3 : Nat} {H0 : List (Nat × Value)} {S0 : List (Nat × Slc)} (ok : OpOk o) (hsort : o.freq < 4 → SortOk F w0 (raw o)) (bs : Bs F w0 B H0 S0 b1 b2 b3 (oc1 o x) (rcE o x) H S) (s9 : SrcT F w0 S 11 (.slice x.p9 (o.setpos).length x.c9) o.setpos) (sm : SrcT F w0 S 16 (.slice x.pm (month' o).length x.cm) (month' o)) (s12 : SrcT F w0 S 11 (.slice x.p12 (o.yday).length x.c12) o.yday) (s13 : SrcT F w0 S 11 (.slice x.p13 (o.weekno).length x.c13) o.weekno) (s16 : SrcT F w0 S 11 (.slice x.p16 (o.minute).length x.c16) o.minute) (s17 : SrcT F w0 S 11 (.slice x.p17 (o.second).length x.c17) o.second) (s18 : SrcT F w0 S 11 (.slice x.p18 (o.easter).length x.c18) o.easter) (r12 : lkp 12 S = some ⟨.slice x.q48 (posM (mday' o)).length x.e48, 3, 1, (posM (mday' o)).length, (posM (mday' o)).map iV⟩) (r13 : lkp 13 S = some ⟨.slice x.q49 (negM (mday' o)).length x.e49, 3, 1, (negM (mday' o)).length, (negM (mday' o)).map iV⟩) (r14 : lkp 14 S = some ⟨.slice x.q52 (((wday' o).filter (plainW o.freq)).map Prod.fst).length x.e52, 3, 1, (((wday' o).filter (plainW o.freq)).map Prod.fst).length, (((wday' o).filter (plainW o.freq)).map Prod.fst).map iV⟩) (sh : SrcT F w0 S 18 (.slice x.q54 (hour' o).length x.e54) (hour' o))  (hR : ∀ (x : Av) (S' : List (Nat × Slc)), OutF F w0 o x S0 S' → ∀ w, Sees F w0 B H0 S' w → R (.returned (.agg (outC o x).toArray)) w) : GC Go.Proofs.Tryz.prog (Go.Fr.part [1, 1, 1, 1, 1, 1, 1, 1, 1, 1, 1, 1, 1, 1, 1, 1, 1, 1, 1, 1, 1, 1] (Go.Fr.bodyOf Tryz.f43)) (bodyPost Go.Proofs.Tryz.prog Tryz.f43 R) 300 [(1, pT b1), (2, pT b2), (3, pT b3)] F w0 ((52, b3) :: (51, b2) :: (50, b1) :: B) H S := by
 have ok_ := ok
 have hd_ := ok.d
 have hfr := ok.freq
 refine g3 ?_
 refine rl (rfa 16) ?_
 refine rl (rd_load 50 rfl rfl (bs.ho.get 16 _ rfl) kR dE) ?_
 refine g4 ?_
 refine GC_cond rfl (fun hc1 => ?_) (fun hc2 => ?_)
 ·have hz : o.minute.length = 0 := by have := beq_iff_eq.1 hc1; omega
  refine g2 ?_
  refine rl (rfa 38) ?_
  refine rl (rd_load 52 rfl rfl (bs.hc.get 38 _ rfl) kR dE) ?_
  refine g3 ?_
  refine GC_cond rfl (fun hc1 => ?_) (fun hc2 => ?_)
  ·have hf : o.freq < 5 := of_decide_eq_true hc1
   have hh : minute' o = [o.d % 86400 / 60 % 60] := by unfold minute'; rw [if_pos hz, if_pos hf]
   refine g1 ?_
   refine rl (rfa 39) ?_
   refine rl (rd_load2 52 rfl rfl (bs.hc.get 39 _ rfl) (bs.hc.get 40 _ rfl) kR dE) ?_
   refine gL (cvo rfl (fun w_ s_ => minute_calls _ _ oM w_) ?_)
   refine gL (at_one_ 19 (e := 3) (sz := 1) (by_ := 8) (zs := [iV 0]) (cs := [iV (o.d % 86400 / 60 % 60)]) dE kR rfl dE dE rfl rfl rfl (fun bo => ?_))
   refine rl (rfa 55) ?_
   refine gL (at_store 52 rfl rfl rfl (bs.hc.get 55 _ rfl) kR rfl dE ?_)
   refine g2 ?_
   refine GC_to (L' := [(1, pT b1), (2, pT b2), (3, pT b3)]) kns (fun w s => s) ?_
   refine bu_G (x := { x with q55 := some ⟨bo, 0, none⟩, e55 := 1 }) ok hsort (H := ((ky 52 55, sL bo 1 1) :: H)) (S := ((19, ⟨sL bo 1 1, 3, 1, 1, [iV (o.d % 86400 / 60 % 60)]⟩) :: S)) ⟨bs.ho, (cellsAt.cons (bs.hc.get 0 _ rfl) (cellsAt.cons (bs.hc.get 1 _ rfl) (cellsAt.cons (bs.hc.get 2 _ rfl) (cellsAt.cons (bs.hc.get 3 _ rfl) (cellsAt.cons (bs.hc.get 4 _ rfl) (cellsAt.cons (bs.hc.get 5 _ rfl) (cellsAt.cons (bs.hc.get 6 _ rfl) (cellsAt.cons (bs.hc.get 7 _ rfl) (cellsAt.cons (bs.hc.get 8 _ rfl) (cellsAt.cons (bs.hc.get 9 _ rfl) (cellsAt.cons (bs.hc.get 10 _ rfl) (cellsAt.cons (bs.hc.get 11 _ rfl) (cellsAt.cons (bs.hc.get 12 _ rfl) (cellsAt.cons (bs.hc.get 13 _ rfl) (cellsAt.cons (bs.hc.get 14 _ rfl) (cellsAt.cons (bs.hc.get 15 _ rfl) (cellsAt.cons (bs.hc.get 16 _ rfl) (cellsAt.cons (bs.hc.get 17 _ rfl) (cellsAt.cons (bs.hc.get 18 _ rfl) (cellsAt.cons (bs.hc.get 19 _ rfl) (cellsAt.cons (bs.hc.get 20 _ rfl) (cellsAt.cons (bs.hc.get 21 _ rfl) (cellsAt.cons (bs.hc.get 22 _ rfl) (cellsAt.cons (bs.hc.get 23 _ rfl) (cellsAt.cons (bs.hc.get 24 _ rfl) (cellsAt.cons (bs.hc.get 25 _ rfl) (cellsAt.cons (bs.hc.get 26 _ rfl) (cellsAt.cons (bs.hc.get 27 _ rfl) (cellsAt.cons (bs.hc.get 28 _ rfl) (cellsAt.cons (bs.hc.get 29 _ rfl) (cellsAt.cons (bs.hc.get 30 _ rfl) (cellsAt.cons (bs.hc.get 31 _ rfl) (cellsAt.cons (bs.hc.get 32 _ rfl) (cellsAt.cons (bs.hc.get 33 _ rfl) (cellsAt.cons (bs.hc.get 34 _ rfl) (cellsAt.cons (bs.hc.get 35 _ rfl) (cellsAt.cons (bs.hc.get 36 _ rfl) (cellsAt.cons (bs.hc.get 37 _ rfl) (cellsAt.cons (bs.hc.get 38 _ rfl) (cellsAt.cons (bs.hc.get 39 _ rfl) (cellsAt.cons (bs.hc.get 40 _ rfl) (cellsAt.cons (bs.hc.get 41 _ rfl) (cellsAt.cons (bs.hc.get 42 _ rfl) (cellsAt.cons (bs.hc.get 43 _ rfl) (cellsAt.cons (bs.hc.get 44 _ rfl) (cellsAt.cons (bs.hc.get 45 _ rfl) (cellsAt.cons (bs.hc.get 46 _ rfl) (cellsAt.cons (bs.hc.get 47 _ rfl) (cellsAt.cons (bs.hc.get 48 _ rfl) (cellsAt.cons (bs.hc.get 49 _ rfl) (cellsAt.cons (bs.hc.get 50 _ rfl) (cellsAt.cons (bs.hc.get 51 _ rfl) (cellsAt.cons (bs.hc.get 52 _ rfl) (cellsAt.cons (bs.hc.get 53 _ rfl) (cellsAt.cons (bs.hc.get 54 _ rfl) (cellsAt.cons (show lkp (ky 52 55) _ = some (sL bo (minute' o).length 1) from by rw [hh]; rfl) (cellsAt.cons (bs.hc.get 56 _ rfl) (cellsAt.cons (bs.hc.get 57 _ rfl) (cellsAt.cons (bs.hc.get 58 _ rfl) (cellsAt.cons (bs.hc.get 59 _ rfl) cellsAt.nil)))))))))))))))))))))))))))))))))))))))))))))))))))))))))))), (knwn_mono (by repeat (first | exact Knw.refl _ | apply Knw.cons)) bs.h2), (by repeat (first | exact bs.lim | apply Lim.consH _ dE dE | apply Lim.consS _ dE)), bs.limB, (fun k_ h1_ o_ ho_ => Eq.trans (by repeat (first | rfl | rw [lkp_ky_ne oM ho_ dE])) (bs.frH k_ h1_ o_ ho_)), (fun k_ h1_ h2_ => Eq.trans aH (bs.frS k_ h1_ h2_))⟩ (s9.cons dE) (sm.cons dE) (s12.cons dE) (s13.cons dE) (s17.cons dE) (s18.cons dE) r12 r13 r14 (sh.cons dE) (SrcT.row (e := 3) (by rw [hh]; rfl)) hR
  ·have hf : ¬ o.freq < 5 := of_decide_eq_false hc2
   have hh : minute' o = [] := by unfold minute'; rw [if_pos hz, if_neg hf]
   refine g2 ?_
   refine GC_to (L' := [(1, pT b1), (2, pT b2), (3, pT b3)]) kns (fun w s => s) ?_
   refine bu_G (x := { x with q55 := none, e55 := 0 }) ok hsort (H := H) (S := S) ⟨bs.ho, (cellsAt.cons (bs.hc.get 0 _ rfl) (cellsAt.cons (bs.hc.get 1 _ rfl) (cellsAt.cons (bs.hc.get 2 _ rfl) (cellsAt.cons (bs.hc.get 3 _ rfl) (cellsAt.cons (bs.hc.get 4 _ rfl) (cellsAt.cons (bs.hc.get 5 _ rfl) (cellsAt.cons (bs.hc.get 6 _ rfl) (cellsAt.cons (bs.hc.get 7 _ rfl) (cellsAt.cons (bs.hc.get 8 _ rfl) (cellsAt.cons (bs.hc.get 9 _ rfl) (cellsAt.cons (bs.hc.get 10 _ rfl) (cellsAt.cons (bs.hc.get 11 _ rfl) (cellsAt.cons (bs.hc.get 12 _ rfl) (cellsAt.cons (bs.hc.get 13 _ rfl) (cellsAt.cons (bs.hc.get 14 _ rfl) (cellsAt.cons (bs.hc.get 15 _ rfl) (cellsAt.cons (bs.hc.get 16 _ rfl) (cellsAt.cons (bs.hc.get 17 _ rfl) (cellsAt.cons (bs.hc.get 18 _ rfl) (cellsAt.cons (bs.hc.get 19 _ rfl) (cellsAt.cons (bs.hc.get 20 _ rfl) (cellsAt.cons (bs.hc.get 21 _ rfl) (cellsAt.cons (bs.hc.get 22 _ rfl) (cellsAt.cons (bs.hc.get 23 _ rfl) (cellsAt.cons (bs.hc.get 24 _ rfl) (cellsAt.cons (bs.hc.get 25 _ rfl) (cellsAt.cons (bs.hc.get 26 _ rfl) (cellsAt.cons (bs.hc.get 27 _ rfl) (cellsAt.cons (bs.hc.get 28 _ rfl) (cellsAt.cons (bs.hc.get 29 _ rfl) (cellsAt.cons (bs.hc.get 30 _ rfl) (cellsAt.cons (bs.hc.get 31 _ rfl) (cellsAt.cons (bs.hc.get 32 _ rfl) (cellsAt.cons (bs.hc.get 33 _ rfl) (cellsAt.cons (bs.hc.get 34 _ rfl) (cellsAt.cons (bs.hc.get 35 _ rfl) (cellsAt.cons (bs.hc.get 36 _ rfl) (cellsAt.cons (bs.hc.get 37 _ rfl) (cellsAt.cons (bs.hc.get 38 _ rfl) (cellsAt.cons (bs.hc.get 39 _ rfl) (cellsAt.cons (bs.hc.get 40 _ rfl) (cellsAt.cons (bs.hc.get 41 _ rfl) (cellsAt.cons (bs.hc.get 42 _ rfl) (cellsAt.cons (bs.hc.get 43 _ rfl) (cellsAt.cons (bs.hc.get 44 _ rfl) (cellsAt.cons (bs.hc.get 45 _ rfl) (cellsAt.cons (bs.hc.get 46 _ rfl) (cellsAt.cons (bs.hc.get 47 _ rfl) (cellsAt.cons (bs.hc.get 48 _ rfl) (cellsAt.cons (bs.hc.get 49 _ rfl) (cellsAt.cons (bs.hc.get 50 _ rfl) (cellsAt.cons (bs.hc.get 51 _ rfl) (cellsAt.cons (bs.hc.get 52 _ rfl) (cellsAt.cons (bs.hc.get 53 _ rfl) (cellsAt.cons (bs.hc.get 54 _ rfl) (cellsAt.cons (show lkp (ky 52 55) _ = some (Value.slice none (minute' o).length 0) from by rw [hh]; exact bs.hc.get 55 _ rfl) (cellsAt.cons (bs.hc.get 56 _ rfl) (cellsAt.cons (bs.hc.get 57 _ rfl) (cellsAt.cons (bs.hc.get 58 _ rfl) (cellsAt.cons (bs.hc.get 59 _ rfl) cellsAt.nil)))))))))))))))))))))))))))))))))))))))))))))))))))))))))))), (knwn_mono (by repeat (first | exact Knw.refl _ | apply Knw.cons)) bs.h2), bs.lim, bs.limB, (fun k_ h1_ o_ ho_ => Eq.trans (by repeat (first | rfl | rw [lkp_ky_ne oM ho_ dE])) (bs.frH k_ h1_ o_ ho_)), (fun k_ h1_ h2_ => Eq.trans aH (bs.frS k_ h1_ h2_))⟩ s9 sm s12 s13 s17 s18 r12 r13 r14 sh (by rw [hh]; exact SrcT.nil) hR
 ·have hz : ¬ o.minute.length = 0 := by have := beq_eq_false_iff_ne.1 hc2; omega
  have hh : minute' o = o.minute := by unfold minute'; rw [if_neg hz]
  refine g1 ?_
  refine rl (rfa 16) ?_
  refine rl (rd_load 50 rfl rfl (bs.ho.get 16 _ rfl) kR dE) ?_
  refine rl (rfa 55) ?_
  refine gL (at_store 52 rfl rfl rfl (bs.hc.get 55 _ rfl) kR rfl dE ?_)
  refine g2 ?_
  refine GC_to (L' := [(1, pT b1), (2, pT b2), (3, pT b3)]) kns (fun w s => s) ?_
  refine bu_G (x := { x with q55 := x.p16, e55 := x.c16 }) ok hsort (H := ((ky 52 55, .slice x.p16 (o.minute).length x.c16) :: H)) (S := S) ⟨bs.ho, (cellsAt.cons (bs.hc.get 0 _ rfl) (cellsAt.cons (bs.hc.get 1 _ rfl) (cellsAt.cons (bs.hc.get 2 _ rfl) (cellsAt.cons (bs.hc.get 3 _ rfl) (cellsAt.cons (bs.hc.get 4 _ rfl) (cellsAt.cons (bs.hc.get 5 _ rfl) (cellsAt.cons (bs.hc.get 6 _ rfl) (cellsAt.cons (bs.hc.get 7 _ rfl) (cellsAt.cons (bs.hc.get 8 _ rfl) (cellsAt.cons (bs.hc.get 9 _ rfl) (cellsAt.cons (bs.hc.get 10 _ rfl) (cellsAt.cons (bs.hc.get 11 _ rfl) (cellsAt.cons (bs.hc.get 12 _ rfl) (cellsAt.cons (bs.hc.get 13 _ rfl) (cellsAt.cons (bs.hc.get 14 _ rfl) (cellsAt.cons (bs.hc.get 15 _ rfl) (cellsAt.cons (bs.hc.get 16 _ rfl) (cellsAt.cons (bs.hc.get 17 _ rfl) (cellsAt.cons (bs.hc.get 18 _ rfl) (cellsAt.cons (bs.hc.get 19 _ rfl) (cellsAt.cons (bs.hc.get 20 _ rfl) (cellsAt.cons (bs.hc.get 21 _ rfl) (cellsAt.cons (bs.hc.get 22 _ rfl) (cellsAt.cons (bs.hc.get 23 _ rfl) (cellsAt.cons (bs.hc.get 24 _ rfl) (cellsAt.cons (bs.hc.get 25 _ rfl) (cellsAt.cons (bs.hc.get 26 _ rfl) (cellsAt.cons (bs.hc.get 27 _ rfl) (cellsAt.cons (bs.hc.get 28 _ rfl) (cellsAt.cons (bs.hc.get 29 _ rfl) (cellsAt.cons (bs.hc.get 30 _ rfl) (cellsAt.cons (bs.hc.get 31 _ rfl) (cellsAt.cons (bs.hc.get 32 _ rfl) (cellsAt.cons (bs.hc.get 33 _ rfl) (cellsAt.cons (bs.hc.get 34 _ rfl) (cellsAt.cons (bs.hc.get 35 _ rfl) (cellsAt.cons (bs.hc.get 36 _ rfl) (cellsAt.cons (bs.hc.get 37 _ rfl) (cellsAt.cons (bs.hc.get 38 _ rfl) (cellsAt.cons (bs.hc.get 39 _ rfl) (cellsAt.cons (bs.hc.get 40 _ rfl) (cellsAt.cons (bs.hc.get 41 _ rfl) (cellsAt.cons (bs.hc.get 42 _ rfl) (cellsAt.cons (bs.hc.get 43 _ rfl) (cellsAt.cons (bs.hc.get 44 _ rfl) (cellsAt.cons (bs.hc.get 45 _ rfl) (cellsAt.cons (bs.hc.get 46 _ rfl) (cellsAt.cons (bs.hc.get 47 _ rfl) (cellsAt.cons (bs.hc.get 48 _ rfl) (cellsAt.cons (bs.hc.get 49 _ rfl) (cellsAt.cons (bs.hc.get 50 _ rfl) (cellsAt.cons (bs.hc.get 51 _ rfl) (cellsAt.cons (bs.hc.get 52 _ rfl) (cellsAt.cons (bs.hc.get 53 _ rfl) (cellsAt.cons (bs.hc.get 54 _ rfl) (cellsAt.cons (show lkp (ky 52 55) _ = some (Value.slice x.p16 (minute' o).length x.c16) from by rw [hh]; rfl) (cellsAt.cons (bs.hc.get 56 _ rfl) (cellsAt.cons (bs.hc.get 57 _ rfl) (cellsAt.cons (bs.hc.get 58 _ rfl) (cellsAt.cons (bs.hc.get 59 _ rfl) cellsAt.nil)))))))))))))))))))))))))))))))))))))))))))))))))))))))))))), (knwn_mono (by repeat (first | exact Knw.refl _ | apply Knw.cons)) bs.h2), (by repeat (first | exact bs.lim | apply Lim.consH _ dE dE | apply Lim.consS _ dE)), bs.limB, (fun k_ h1_ o_ ho_ => Eq.trans (by repeat (first | rfl | rw [lkp_ky_ne oM ho_ dE])) (bs.frH k_ h1_ o_ ho_)), (fun k_ h1_ h2_ => Eq.trans aH (bs.frS k_ h1_ h2_))⟩ s9 sm s12 s13 s17 s18 r12 r13 r14 sh (by rw [hh]; exact s16.more) hR
theorem bu_E {R : Ending → World → Prop} {o : Opn} {x : Av} {b1 b2 b3 : Nat} {H0 : List (Nat × Value)} {S0 : List (Nat × Slc)} (ok : OpOk o) (hsort : o.freq < 4 → SortOk F w0 (raw o)) (bs : Bs F w0 B H0 S0 b1 b2 b3 (oc1 o x) (rcD o x) H S) (s9 : SrcT F w0 S 11 (.slice x.p9 (o.setpos).length x.c9) o.setpos) (sm : SrcT F w0 S 16 (.slice x.pm (month' o).length x.cm) (month' o)) (s12 : SrcT F w0 S 11 (.slice x.p12 (o.yday).length x.c12) o.yday) (s13 : SrcT F w0 S 11 (.slice x.p13 (o.weekno).length x.c13) o.weekno) (s15 : SrcT F w0 S 11 (.slice x.p15 (o.hour).length x.c15) o.hour) (s16 : SrcT F w0 S 11 (.slice x.p16 (o.minute).length x.c16) o.minute) (s17 : SrcT F w0 S 11 (.slice x.p17 (o.second).length x.c17) o.second) (s18 : SrcT F w0 S 11 (.slice x.p18 (o.easter).length x.c18) o.easter) (r12 : lkp 12 S = some ⟨.slice x.q48 (posM (mday' o)).length x.e48, 3, 1, (posM (mday' o)).length, (posM (mday' o)).map iV⟩) (r13 : lkp 13 S = some ⟨.slice x.q49 (negM (mday' o)).length x.e49, 3, 1, (negM (mday' o)).length, (negM (mday' o)).map iV⟩) (r14 : lkp 14 S = some ⟨.slice x.q52 (((wday' o).filter (plainW o.freq)).map Prod.fst).length x.e52, 3, 1, (((wday' o).filter (plainW o.freq)).map Prod.fst).length, (((wday' o).filter (plainW o.freq)).map Prod.fst).map iV⟩)  (hR : ∀ (x : Av) (S' : List (Nat × Slc)), OutF F w0 o x S0 S' → ∀ w, Sees F w0 B H0 S' w → R (.returned (.agg (outC o x).toArray)) w) : GC Go.Proofs.Tryz.prog (Go.Fr.part [1, 1, 1, 1, 1, 1, 1, 1, 1, 1, 1, 1, 1, 1, 1, 1, 1, 1, 1, 1, 1] (Go.Fr.bodyOf Tryz.f43)) (bodyPost Go.Proofs.Tryz.prog Tryz.f43 R) 300 [(1, pT b1), (2, pT b2), (3, pT b3)] F w0 ((52, b3) :: (51, b2) :: (50, b1) :: B) H S := by
 have ok_ := ok
 have hd_ := ok.d
 have hfr := ok.freq
 refine g3 ?_
 refine rl (rfa 15) ?_
 refine rl (rd_load 50 rfl rfl (bs.ho.get 15 _ rfl) kR dE) ?_
 refine g4 ?_
 refine GC_cond rfl (fun hc1 => ?_) (fun hc2 => ?_)
 ·have hz : o.hour.length = 0 := by have := beq_iff_eq.1 hc1; omega
  refine g2 ?_
  refine rl (rfa 38) ?_
  refine rl (rd_load 52 rfl rfl (bs.hc.get 38 _ rfl) kR dE) ?_
  refine g3 ?_
  refine GC_cond rfl (fun hc1 => ?_) (fun hc2 => ?_)
  ·have hf : o.freq < 4 := of_decide_eq_true hc1
   have hh : hour' o = [o.d % 86400 / 3600] := by unfold hour'; rw [if_pos hz, if_pos hf]
   refine g1 ?_
   refine rl (rfa 39) ?_
   refine rl (rd_load2 52 rfl rfl (bs.hc.get 39 _ rfl) (bs.hc.get 40 _ rfl) kR dE) ?_
   refine gL (cvo rfl (fun w_ s_ => hour_calls _ _ oM w_) ?_)
   refine gL (at_one_ 18 (e := 3) (sz := 1) (by_ := 8) (zs := [iV 0]) (cs := [iV (o.d % 86400 / 3600)]) dE kR rfl dE dE rfl rfl rfl (fun bo => ?_))
   refine rl (rfa 54) ?_
   refine gL (at_store 52 rfl rfl rfl (bs.hc.get 54 _ rfl) kR rfl dE ?_)
   refine g2 ?_
   refine GC_to (L' := [(1, pT b1), (2, pT b2), (3, pT b3)]) kns (fun w s => s) ?_
   refine bu_F (x := { x with q54 := some ⟨bo, 0, none⟩, e54 := 1 }) ok hsort (H := ((ky 52 54, sL bo 1 1) :: H)) (S := ((18, ⟨sL bo 1 1, 3, 1, 1, [iV (o.d % 86400 / 3600)]⟩) :: S)) ⟨bs.ho, (cellsAt.cons (bs.hc.get 0 _ rfl) (cellsAt.cons (bs.hc.get 1 _ rfl) (cellsAt.cons (bs.hc.get 2 _ rfl) (cellsAt.cons (bs.hc.get 3 _ rfl) (cellsAt.cons (bs.hc.get 4 _ rfl) (cellsAt.cons (bs.hc.get 5 _ rfl) (cellsAt.cons (bs.hc.get 6 _ rfl) (cellsAt.cons (bs.hc.get 7 _ rfl) (cellsAt.cons (bs.hc.get 8 _ rfl) (cellsAt.cons (bs.hc.get 9 _ rfl) (cellsAt.cons (bs.hc.get 10 _ rfl) (cellsAt.cons (bs.hc.get 11 _ rfl) (cellsAt.cons (bs.hc.get 12 _ rfl) (cellsAt.cons (bs.hc.get 13 _ rfl) (cellsAt.cons (bs.hc.get 14 _ rfl) (cellsAt.cons (bs.hc.get 15 _ rfl) (cellsAt.cons (bs.hc.get 16 _ rfl) (cellsAt.cons (bs.hc.get 17 _ rfl) (cellsAt.cons (bs.hc.get 18 _ rfl) (cellsAt.cons (bs.hc.get 19 _ rfl) (cellsAt.cons (bs.hc.get 20 _ rfl) (cellsAt.cons (bs.hc.get 21 _ rfl) (cellsAt.cons (bs.hc.get 22 _ rfl) (cellsAt.cons (bs.hc.get 23 _ rfl) (cellsAt.cons (bs.hc.get 24 _ rfl) (cellsAt.cons (bs.hc.get 25 _ rfl) (cellsAt.cons (bs.hc.get 26 _ rfl) (cellsAt.cons (bs.hc.get 27 _ rfl) (cellsAt.cons (bs.hc.get 28 _ rfl) (cellsAt.cons (bs.hc.get 29 _ rfl) (cellsAt.cons (bs.hc.get 30 _ rfl) (cellsAt.cons (bs.hc.get 31 _ rfl) (cellsAt.cons (bs.hc.get 32 _ rfl) (cellsAt.cons (bs.hc.get 33 _ rfl) (cellsAt.cons (bs.hc.get 34 _ rfl) (cellsAt.cons (bs.hc.get 35 _ rfl) (cellsAt.cons (bs.hc.get 36 _ rfl) (cellsAt.cons (bs.hc.get 37 _ rfl) (cellsAt.cons (bs.hc.get 38 _ rfl) (cellsAt.cons (bs.hc.get 39 _ rfl) (cellsAt.cons (bs.hc.get 40 _ rfl) (cellsAt.cons (bs.hc.get 41 _ rfl) (cellsAt.cons (bs.hc.get 42 _ rfl) (cellsAt.cons (bs.hc.get 43 _ rfl) (cellsAt.cons (bs.hc.get 44 _ rfl) (cellsAt.cons (bs.hc.get 45 _ rfl) (cellsAt.cons (bs.hc.get 46 _ rfl) (cellsAt.cons (bs.hc.get 47 _ rfl) (cellsAt.cons (bs.hc.get 48 _ rfl) (cellsAt.cons (bs.hc.get 49 _ rfl) (cellsAt.cons (bs.hc.get 50 _ rfl) (cellsAt.cons (bs.hc.get 51 _ rfl) (cellsAt.cons (bs.hc.get 52 _ rfl) (cellsAt.cons (bs.hc.get 53 _ rfl) (cellsAt.cons (show lkp (ky 52 54) _ = some (sL bo (hour' o).length 1) from by rw [hh]; rfl) (cellsAt.cons (bs.hc.get 55 _ rfl) (cellsAt.cons (bs.hc.get 56 _ rfl) (cellsAt.cons (bs.hc.get 57 _ rfl) (cellsAt.cons (bs.hc.get 58 _ rfl) (cellsAt.cons (bs.hc.get 59 _ rfl) cellsAt.nil)))))))))))))))))))))))))))))))))))))))))))))))))))))))))))), (knwn_mono (by repeat (first | exact Knw.refl _ | apply Knw.cons)) bs.h2), (by repeat (first | exact bs.lim | apply Lim.consH _ dE dE | apply Lim.consS _ dE)), bs.limB, (fun k_ h1_ o_ ho_ => Eq.trans (by repeat (first | rfl | rw [lkp_ky_ne oM ho_ dE])) (bs.frH k_ h1_ o_ ho_)), (fun k_ h1_ h2_ => Eq.trans aH (bs.frS k_ h1_ h2_))⟩ (s9.cons dE) (sm.cons dE) (s12.cons dE) (s13.cons dE) (s16.cons dE) (s17.cons dE) (s18.cons dE) r12 r13 r14 (SrcT.row (e := 3) (by rw [hh]; rfl)) hR
  ·have hf : ¬ o.freq < 4 := of_decide_eq_false hc2
   have hh : hour' o = [] := by unfold hour'; rw [if_pos hz, if_neg hf]
   refine g2 ?_
   refine GC_to (L' := [(1, pT b1), (2, pT b2), (3, pT b3)]) kns (fun w s => s) ?_
   refine bu_F (x := { x with q54 := none, e54 := 0 }) ok hsort (H := H) (S := S) ⟨bs.ho, (cellsAt.cons (bs.hc.get 0 _ rfl) (cellsAt.cons (bs.hc.get 1 _ rfl) (cellsAt.cons (bs.hc.get 2 _ rfl) (cellsAt.cons (bs.hc.get 3 _ rfl) (cellsAt.cons (bs.hc.get 4 _ rfl) (cellsAt.cons (bs.hc.get 5 _ rfl) (cellsAt.cons (bs.hc.get 6 _ rfl) (cellsAt.cons (bs.hc.get 7 _ rfl) (cellsAt.cons (bs.hc.get 8 _ rfl) (cellsAt.cons (bs.hc.get 9 _ rfl) (cellsAt.cons (bs.hc.get 10 _ rfl) (cellsAt.cons (bs.hc.get 11 _ rfl) (cellsAt.cons (bs.hc.get 12 _ rfl) (cellsAt.cons (bs.hc.get 13 _ rfl) (cellsAt.cons (bs.hc.get 14 _ rfl) (cellsAt.cons (bs.hc.get 15 _ rfl) (cellsAt.cons (bs.hc.get 16 _ rfl) (cellsAt.cons (bs.hc.get 17 _ rfl) (cellsAt.cons (bs.hc.get 18 _ rfl) (cellsAt.cons (bs.hc.get 19 _ rfl) (cellsAt.cons (bs.hc.get 20 _ rfl) (cellsAt.cons (bs.hc.get 21 _ rfl) (cellsAt.cons (bs.hc.get 22 _ rfl) (cellsAt.cons (bs.hc.get 23 _ rfl) (cellsAt.cons (bs.hc.get 24 _ rfl) (cellsAt.cons (bs.hc.get 25 _ rfl) (cellsAt.cons (bs.hc.get 26 _ rfl) (cellsAt.cons (bs.hc.get 27 _ rfl) (cellsAt.cons (bs.hc.get 28 _ rfl) (cellsAt.cons (bs.hc.get 29 _ rfl) (cellsAt.cons (bs.hc.get 30 _ rfl) (cellsAt.cons (bs.hc.get 31 _ rfl) (cellsAt.cons (bs.hc.get 32 _ rfl) (cellsAt.cons (bs.hc.get 33 _ rfl) (cellsAt.cons (bs.hc.get 34 _ rfl) (cellsAt.cons (bs.hc.get 35 _ rfl) (cellsAt.cons (bs.hc.get 36 _ rfl) (cellsAt.cons (bs.hc.get 37 _ rfl) (cellsAt.cons (bs.hc.get 38 _ rfl) (cellsAt.cons (bs.hc.get 39 _ rfl) (cellsAt.cons (bs.hc.get 40 _ rfl) (cellsAt.cons (bs.hc.get 41 _ rfl) (cellsAt.cons (bs.hc.get 42 _ rfl) (cellsAt.cons (bs.hc.get 43 _ rfl) (cellsAt.cons (bs.hc.get 44 _ rfl) (cellsAt.cons (bs.hc.get 45 _ rfl) (cellsAt.cons (bs.hc.get 46 _ rfl) (cellsAt.cons (bs.hc.get 47 _ rfl) (cellsAt.cons (bs.hc.get 48 _ rfl) (cellsAt.cons (bs.hc.get 49 _ rfl) (cellsAt.cons (bs.hc.get 50 _ rfl) (cellsAt.cons (bs.hc.get 51 _ rfl) (cellsAt.cons (bs.hc.get 52 _ rfl) (cellsAt.cons (bs.hc.get 53 _ rfl) (cellsAt.cons (show lkp (ky 52 54) _ = some (Value.slice none (hour' o).length 0) from by rw [hh]; exact bs.hc.get 54 _ rfl) (cellsAt.cons (bs.hc.get 55 _ rfl) (cellsAt.cons (bs.hc.get 56 _ rfl) (cellsAt.cons (bs.hc.get 57 _ rfl) (cellsAt.cons (bs.hc.get 58 _ rfl) (cellsAt.cons (bs.hc.get 59 _ rfl) cellsAt.nil)))))))))))))))))))))))))))))))))))))))))))))))))))))))))))), (knwn_mono (by repeat (first | exact Knw.refl _ | apply Knw.cons)) bs.h2), bs.lim, bs.limB, (fun k_ h1_ o_ ho_ => Eq.trans (by repeat (first | rfl | rw [lkp_ky_ne oM ho_ dE])) (bs.frH k_ h1_ o_ ho_)), (fun k_ h1_ h2_ => Eq.trans aH (bs.frS k_ h1_ h2_))⟩ s9 sm s12 s13 s16 s17 s18 r12 r13 r14 (by rw [hh]; exact SrcT.nil) hR
 ·have hz : ¬ o.hour.length = 0 := by have := beq_eq_false_iff_ne.1 hc2; omega
  have hh : hour' o = o.hour := by unfold hour'; rw [if_neg hz]
  refine g1 ?_
  refine rl (rfa 15) ?_
  refine rl (rd_load 50 rfl rfl (bs.ho.get 15 _ rfl) kR dE) ?_
  refine rl (rfa 54) ?_
  refine gL (at_store 52 rfl rfl rfl (bs.hc.get 54 _ rfl) kR rfl dE ?_)
  refine g2 ?_
  refine GC_to (L' := [(1, pT b1), (2, pT b2), (3, pT b3)]) kns (fun w s => s) ?_
  refine bu_F (x := { x with q54 := x.p15, e54 := x.c15 }) ok hsort (H := ((ky 52 54, .slice x.p15 (o.hour).length x.c15) :: H)) (S := S) ⟨bs.ho, (cellsAt.cons (bs.hc.get 0 _ rfl) (cellsAt.cons (bs.hc.get 1 _ rfl) (cellsAt.cons (bs.hc.get 2 _ rfl) (cellsAt.cons (bs.hc.get 3 _ rfl) (cellsAt.cons (bs.hc.get 4 _ rfl) (cellsAt.cons (bs.hc.get 5 _ rfl) (cellsAt.cons (bs.hc.get 6 _ rfl) (cellsAt.cons (bs.hc.get 7 _ rfl) (cellsAt.cons (bs.hc.get 8 _ rfl) (cellsAt.cons (bs.hc.get 9 _ rfl) (cellsAt.cons (bs.hc.get 10 _ rfl) (cellsAt.cons (bs.hc.get 11 _ rfl) (cellsAt.cons (bs.hc.get 12 _ rfl) (cellsAt.cons (bs.hc.get 13 _ rfl) (cellsAt.cons (bs.hc.get 14 _ rfl) (cellsAt.cons (bs.hc.get 15 _ rfl) (cellsAt.cons (bs.hc.get 16 _ rfl) (cellsAt.cons (bs.hc.get 17 _ rfl) (cellsAt.cons (bs.hc.get 18 _ rfl) (cellsAt.cons (bs.hc.get 19 _ rfl) (cellsAt.cons (bs.hc.get 20 _ rfl) (cellsAt.cons (bs.hc.get 21 _ rfl) (cellsAt.cons (bs.hc.get 22 _ rfl) (cellsAt.cons (bs.hc.get 23 _ rfl) (cellsAt.cons (bs.hc.get 24 _ rfl) (cellsAt.cons (bs.hc.get 25 _ rfl) (cellsAt.cons (bs.hc.get 26 _ rfl) (cellsAt.cons (bs.hc.get 27 _ rfl) (cellsAt.cons (bs.hc.get 28 _ rfl) (cellsAt.cons (bs.hc.get 29 _ rfl) (cellsAt.cons (bs.hc.get 30 _ rfl) (cellsAt.cons (bs.hc.get 31 _ rfl) (cellsAt.cons (bs.hc.get 32 _ rfl) (cellsAt.cons (bs.hc.get 33 _ rfl) (cellsAt.cons (bs.hc.get 34 _ rfl) (cellsAt.cons (bs.hc.get 35 _ rfl) (cellsAt.cons (bs.hc.get 36 _ rfl) (cellsAt.cons (bs.hc.get 37 _ rfl) (cellsAt.cons (bs.hc.get 38 _ rfl) (cellsAt.cons (bs.hc.get 39 _ rfl) (cellsAt.cons (bs.hc.get 40 _ rfl) (cellsAt.cons (bs.hc.get 41 _ rfl) (cellsAt.cons (bs.hc.get 42 _ rfl) (cellsAt.cons (bs.hc.get 43 _ rfl) (cellsAt.cons (bs.hc.get 44 _ rfl) (cellsAt.cons (bs.hc.get 45 _ rfl) (cellsAt.cons (bs.hc.get 46 _ rfl) (cellsAt.cons (bs.hc.get 47 _ rfl) (cellsAt.cons (bs.hc.get 48 _ rfl) (cellsAt.cons (bs.hc.get 49 _ rfl) (cellsAt.cons (bs.hc.get 50 _ rfl) (cellsAt.cons (bs.hc.get 51 _ rfl) (cellsAt.cons (bs.hc.get 52 _ rfl) (cellsAt.cons (bs.hc.get 53 _ rfl) (cellsAt.cons (show lkp (ky 52 54) _ = some (Value.slice x.p15 (hour' o).length x.c15) from by rw [hh]; rfl) (cellsAt.cons (bs.hc.get 55 _ rfl) (cellsAt.cons (bs.hc.get 56 _ rfl) (cellsAt.cons (bs.hc.get 57 _ rfl) (cellsAt.cons (bs.hc.get 58 _ rfl) (cellsAt.cons (bs.hc.get 59 _ rfl) cellsAt.nil)))))))))))))))))))))))))))))))))))))))))))))))))))))))))))), (knwn_mono (by repeat (first | exact Knw.refl _ | apply Knw.cons)) bs.h2), (by repeat (first | exact bs.lim | apply Lim.consH _ dE dE | apply Lim.consS _ dE)), bs.limB, (fun k_ h1_ o_ ho_ => Eq.trans (by repeat (first | rfl | rw [lkp_ky_ne oM ho_ dE])) (bs.frH k_ h1_ o_ ho_)), (fun k_ h1_ h2_ => Eq.trans aH (bs.frS k_ h1_ h2_))⟩ s9 sm s12 s13 s16 s17 s18 r12 r13 r14 (by rw [hh]; exact s15.more) hR
end
end Go.Proofs.YtdbbifbmkfmbkaaGreat
