import Derived.Test.YthomapgobmdicaaGreatZrk
set_option linter.unusedVariables false
set_option linter.unusedSimpArgs false
set_option maxRecDepth 100000
set_option maxHeartbeats 8000000
namespace Go.Proofs.YthomapgobmdicaaGreat
open Go.RowKit Go.Fr Go.Tab
section
variable {F : Nat -> Prop} {w0 : World} {B : LN} {H : LV} {S : LS}
open Go.Md
theorem aHr {R : Ending -> World -> Prop} {S0 : LS} {H0 : LV} {r : Ru} {l : Ra} {it rb : Nat} {s : It} {a : Ad} {cnt : Int} (st : St F w0 S0 H0 it rb r l s a B H S) (hcnt : lkp (ky 1 43) H = some (iV cnt)) (hr2 : lkp 2 S = some ⟨sN, 80, 2, 0, []⟩) (h38 : ∀ q, q < 4096 -> lkp (ky 38 q) H = none) (hr : RuOk r) (hh : 0 <= s.h /\ s.h <= 23) (hmi : 0 <= s.mi /\ s.mi <= 59) (hse : 0 <= s.s /\ s.s <= 59) (htn : s.ts.length <= 1000000000) (hlm : r.aPr.length <= 100) (hls : r.aPs.length <= 100) (hfr : r.aP2 = 4) (hR : ∀ a H' S' w, St F w0 S' H' it rb r l { s with count := cnt, ts := if cX r s then Md.fill r s else [] } a B H' S' -> (∀ k, 26 <= k -> k < 40 -> lkp k S' = lkp k S) -> (∀ q, q < 4096 -> lkp (ky 38 q) H' = none) -> Sees F w0 B H' S' w -> R (.returned (.func (.func 77) #[pT it] #[])) w) :
  GC Tryz.prog (Go.Fr.part [1, 1, 1, 1, 1, 1, 1] (Go.Fr.bodyOf Tryz.f52)) (bodyPost Tryz.prog Tryz.f52 R) 148 [(0, pT rb), (3, pT it)] F w0 B H S := by
 refine g10 ?_
 refine aU rfl (decide_eq_false oM) ?_
 refine g2 ?_
 refine uZ [(0, pT rb), (3, pT it), (127, .bool (!(aI r.hour s.h)))] ?_ ?_
 .refine m9 23 [(0, pT rb), (3, pT it), (77, .bool (!aI r.hour s.h))] ?_ ?_
  .refine g4 ?_
   refine rm ((dV rfl rfl).to bT) (g12 ?_)
   by_cases hz : ¬ r.hour.length = 0
   .refine rm ((cF rfl rfl).to (v' := .bool true) (cB (iW oM))) (g15 ?_)
    rcases bO (r.hour.any (· == s.h)) with hy_ | hy_
    .refine cG (v := .bool true) dE kR rfl (fun w_ s_ => (aR r.hour s.h _ st.hl54 w_ (st.hI54 _ _ _ w_ aG s_)).mT (cE hy_)) ?_
     refine g2 ?_
     exact rm ((bB rfl rfl rfl).to (v' := .bool (!aI r.hour s.h)) (by exact cB (by rw [iG hy_] <;> rfl))) (bX kns)
    .refine cG (v := .bool false) dE kR rfl (fun w_ s_ => (aR r.hour s.h _ st.hl54 w_ (st.hI54 _ _ _ w_ aG s_)).mT (cE hy_)) ?_
     refine g2 ?_
     exact rm ((bB rfl rfl rfl).to (v' := .bool (!aI r.hour s.h)) (by exact cB (by rw [iZ hz hy_] <;> rfl))) (bX kns)
   .refine rm ((cF rfl rfl).to (v' := .bool false) (cB (jA oM))) (g10 ?_)
    exact rm ((bB rfl rfl rfl).to (v' := .bool (!aI r.hour s.h)) (by exact cB (by rw [gB (Decidable.of_not_not hz)] <;> rfl))) (bX kns)
  .rcases bO (aI r.hour s.h) with hB0 | hB0
   .refine rm ((bC rfl).to (v' := .bool false) (cB (by rw [hB0]; rfl))) (g9 ?_)
    refine rm ((dV rfl rfl).to bF) (g30 ?_)
    refine g3 ?_
    refine rm ((dV rfl rfl).to bF) (g20 ?_)
    refine g2 ?_
    exact rm ((bB rfl rfl rfl).to (v' := .bool (!(aI r.hour s.h))) (by exact cB (by rw [hB0]; rfl))) (bX kns)
   .refine rm ((bC rfl).to (v' := .bool true) (cB (by rw [hB0]; rfl))) (g40 ?_)
    refine g8 ?_
    exact rm ((bB rfl rfl rfl).to (v' := .bool (!(aI r.hour s.h))) (by exact cB (by rw [hB0]; rfl))) (bX kns)
 .refine g1 ?_
  have hP : cX r s = (aI r.hour s.h) := by unfold cX; rw [hfr]; simp
  refine aB rfl (fun hb => ?_) (fun hb => ?_)
  .have hok : cX r s = false := by rw [hP]; rcases bO (aI r.hour s.h) with h_ | h_ <;> rw [h_] at hb ⊢ <;> first | rfl | cases hb
   rw [hok] at hR
   refine g2 ?_
   refine gL (sto 0 rfl rfl st.hB st.h23 (g9 ?_))
   refine gL (sto 0 rfl rfl st.hB st.h25 (g4 ?_))
   refine rZ4 ((iJ (first := [pT it]) (capt := []) rfl rfl)) ?_
   refine gR rfl fun w s_ => ?_
   refine hR ({ a with tp := none, tc := 0 } : Ad) _ _ w (by exact (sT st (hS2 := fun _ => hr2))) (fun k h1 h2 => by repeat (first | rfl | rw [aA oM])) (fun q hq => ?_) s_
   repeat (first | exact h38 q hq | rw [bV dE hq dE])
  .have hok : cX r s = true := by rw [hP]; rcases bO (aI r.hour s.h) with h_ | h_ <;> rw [h_] at hb ⊢ <;> first | rfl | cases hb
   rw [hok] at hR
   refine dH 12 kR kR (g13 ?_)
   refine gL (d8 (ι := Option Addr × Nat) (fun _ => .tuple #[]) (fun _ => True) (fun _ => B) (fun y => (ky 0 23, .slice y.1 (Md.fill r s).length y.2) :: H) (fun y => (2, ⟨.slice y.1 (Md.fill r s).length y.2, 80, 2, (Md.fill r s).length, bS (Md.fill r s)⟩) :: S) dE kR rfl (fun w_ s_ => (vN st hr hh hmi hse htn hlm hls hfr w_ s_).mono fun e w' ⟨p, c, h1, h2⟩ => ⟨(p, c), trivial, h1, h2⟩) (fun | (pz, cz), _ => g9 ?_))
   refine gL (sto 0 rfl rfl st.hB st.h25 (g4 ?_))
   refine rZ4 ((iJ (first := [pT it]) (capt := []) rfl rfl)) ?_
   refine gR rfl fun w s_ => ?_
   refine hR ({ a with tp := pz, tc := cz } : Ad) _ _ w (by exact (sT st)) (fun k h1 h2 => by repeat (first | rfl | rw [aA oM])) (fun q hq => ?_) s_
   repeat (first | exact h38 q hq | rw [bV dE hq dE])
theorem aHf {R : Ending -> World -> Prop} {S0 : LS} {H0 : LV} {r : Ru} {l : Ra} {it rb : Nat} {s : It} {a : Ad} {cnt : Int} (st : St F w0 S0 H0 it rb r l s a B H S) (hcnt : lkp (ky 1 43) H = some (iV cnt)) (hr2 : lkp 2 S = some ⟨sN, 80, 2, 0, []⟩) (h38 : ∀ q, q < 4096 -> lkp (ky 38 q) H = none) (hr : RuOk r) (hh : 0 <= s.h /\ s.h <= 23) (hmi : 0 <= s.mi /\ s.mi <= 59) (hse : 0 <= s.s /\ s.s <= 59) (htn : s.ts.length <= 1000000000) (hlm : r.aPr.length <= 100) (hls : r.aPs.length <= 100) (hfr : r.aP2 = 5) (hR : ∀ a H' S' w, St F w0 S' H' it rb r l { s with count := cnt, ts := if cX r s then Md.fill r s else [] } a B H' S' -> (∀ k, 26 <= k -> k < 40 -> lkp k S' = lkp k S) -> (∀ q, q < 4096 -> lkp (ky 38 q) H' = none) -> Sees F w0 B H' S' w -> R (.returned (.func (.func 77) #[pT it] #[])) w) :
  GC Tryz.prog (Go.Fr.part [1, 1, 1, 1, 1, 1, 1] (Go.Fr.bodyOf Tryz.f52)) (bodyPost Tryz.prog Tryz.f52 R) 148 [(0, pT rb), (3, pT it)] F w0 B H S := by
 refine g10 ?_
 refine aU rfl (decide_eq_false oM) ?_
 refine g2 ?_
 refine uZ [(0, pT rb), (3, pT it), (127, .bool (!(aI r.hour s.h && aI r.aPr s.mi)))] ?_ ?_
 .refine m9 23 [(0, pT rb), (3, pT it), (77, .bool (!aI r.hour s.h))] ?_ ?_
  .refine g4 ?_
   refine rm ((dV rfl rfl).to bT) (g12 ?_)
   by_cases hz : ¬ r.hour.length = 0
   .refine rm ((cF rfl rfl).to (v' := .bool true) (cB (iW oM))) (g15 ?_)
    rcases bO (r.hour.any (· == s.h)) with hy_ | hy_
    .refine cG (v := .bool true) dE kR rfl (fun w_ s_ => (aR r.hour s.h _ st.hl54 w_ (st.hI54 _ _ _ w_ aG s_)).mT (cE hy_)) ?_
     refine g2 ?_
     exact rm ((bB rfl rfl rfl).to (v' := .bool (!aI r.hour s.h)) (by exact cB (by rw [iG hy_] <;> rfl))) (bX kns)
    .refine cG (v := .bool false) dE kR rfl (fun w_ s_ => (aR r.hour s.h _ st.hl54 w_ (st.hI54 _ _ _ w_ aG s_)).mT (cE hy_)) ?_
     refine g2 ?_
     exact rm ((bB rfl rfl rfl).to (v' := .bool (!aI r.hour s.h)) (by exact cB (by rw [iZ hz hy_] <;> rfl))) (bX kns)
   .refine rm ((cF rfl rfl).to (v' := .bool false) (cB (jA oM))) (g10 ?_)
    exact rm ((bB rfl rfl rfl).to (v' := .bool (!aI r.hour s.h)) (by exact cB (by rw [gB (Decidable.of_not_not hz)] <;> rfl))) (bX kns)
  .rcases bO (aI r.hour s.h) with hB0 | hB0
   .refine rm ((bC rfl).to (v' := .bool false) (cB (by rw [hB0]; rfl))) (m9 23 [(0, pT rb), (3, pT it), (78, .bool false), (101, .bool (!aI r.aPr s.mi))] ?_ ?_)
    .refine g9 ?_
     refine rm ((dV rfl rfl).to bT) (g13 ?_)
     by_cases hz : ¬ r.aPr.length = 0
     .refine rm ((cF rfl rfl).to (v' := .bool true) (cB (iW oM))) (g16 ?_)
      refine g1 ?_
      rcases bO (r.aPr.any (· == s.mi)) with hy_ | hy_
      .refine cG (v := .bool true) dE kR rfl (fun w_ s_ => (aR r.aPr s.mi _ st.hl55 w_ (st.hI55 _ _ _ w_ aG s_)).mT (cE hy_)) ?_
       refine g3 ?_
       exact rm ((bB rfl rfl rfl).to (v' := .bool (!aI r.aPr s.mi)) (by exact cB (by rw [iG hy_] <;> rfl))) (bX kns)
      .refine cG (v := .bool false) dE kR rfl (fun w_ s_ => (aR r.aPr s.mi _ st.hl55 w_ (st.hI55 _ _ _ w_ aG s_)).mT (cE hy_)) ?_
       refine g3 ?_
       exact rm ((bB rfl rfl rfl).to (v' := .bool (!aI r.aPr s.mi)) (by exact cB (by rw [iZ hz hy_] <;> rfl))) (bX kns)
     .refine rm ((cF rfl rfl).to (v' := .bool false) (cB (jA oM))) (g13 ?_)
      exact rm ((bB rfl rfl rfl).to (v' := .bool (!aI r.aPr s.mi)) (by exact cB (by rw [gB (Decidable.of_not_not hz)] <;> rfl))) (bX kns)
    .rcases bO (aI r.aPr s.mi) with hB1 | hB1
     .refine rm ((bB rfl rfl rfl).to (v' := .bool false) (by exact cB (by rw [hB1]; rfl))) (rm ((bC rfl).to (v' := .bool false) rfl) (g9 ?_))
      refine rm ((dV rfl rfl).to bF) (g20 ?_)
      refine g2 ?_
      exact rm ((bB rfl rfl rfl).to (v' := .bool (!(aI r.hour s.h && aI r.aPr s.mi))) (by exact cB (by rw [hB0, hB1]; rfl))) (bX kns)
     .refine rm ((bB rfl rfl rfl).to (v' := .bool true) (by exact cB (by rw [hB1]; rfl))) (rm ((bC rfl).to (v' := .bool true) rfl) (g20 ?_))
      refine g3 ?_
      exact rm ((bB rfl rfl rfl).to (v' := .bool (!(aI r.hour s.h && aI r.aPr s.mi))) (by exact cB (by rw [hB0, hB1]; rfl))) (bX kns)
   .refine rm ((bC rfl).to (v' := .bool true) (cB (by rw [hB0]; rfl))) (g40 ?_)
    refine g8 ?_
    exact rm ((bB rfl rfl rfl).to (v' := .bool (!(aI r.hour s.h && aI r.aPr s.mi))) (by exact cB (by rw [hB0]; rfl))) (bX kns)
 .refine g1 ?_
  have hP : cX r s = (aI r.hour s.h && aI r.aPr s.mi) := by unfold cX; rw [hfr]; simp
  refine aB rfl (fun hb => ?_) (fun hb => ?_)
  .have hok : cX r s = false := by rw [hP]; rcases bO (aI r.hour s.h && aI r.aPr s.mi) with h_ | h_ <;> rw [h_] at hb ⊢ <;> first | rfl | cases hb
   rw [hok] at hR
   refine g2 ?_
   refine gL (sto 0 rfl rfl st.hB st.h23 (g9 ?_))
   refine gL (sto 0 rfl rfl st.hB st.h25 (g4 ?_))
   refine rZ4 ((iJ (first := [pT it]) (capt := []) rfl rfl)) ?_
   refine gR rfl fun w s_ => ?_
   refine hR ({ a with tp := none, tc := 0 } : Ad) _ _ w (by exact (sT st (hS2 := fun _ => hr2))) (fun k h1 h2 => by repeat (first | rfl | rw [aA oM])) (fun q hq => ?_) s_
   repeat (first | exact h38 q hq | rw [bV dE hq dE])
  .have hok : cX r s = true := by rw [hP]; rcases bO (aI r.hour s.h && aI r.aPr s.mi) with h_ | h_ <;> rw [h_] at hb ⊢ <;> first | rfl | cases hb
   rw [hok] at hR
   refine dH 12 kR kR (g13 ?_)
   refine gL (d8 (ι := Option Addr × Nat) (fun _ => .tuple #[]) (fun _ => True) (fun _ => B) (fun y => (ky 0 23, .slice y.1 (Md.fill r s).length y.2) :: H) (fun y => (2, ⟨.slice y.1 (Md.fill r s).length y.2, 80, 2, (Md.fill r s).length, bS (Md.fill r s)⟩) :: S) dE kR rfl (fun w_ s_ => (vP st hr hh hmi hse htn hlm hls hfr w_ s_).mono fun e w' ⟨p, c, h1, h2⟩ => ⟨(p, c), trivial, h1, h2⟩) (fun | (pz, cz), _ => g9 ?_))
   refine gL (sto 0 rfl rfl st.hB st.h25 (g4 ?_))
   refine rZ4 ((iJ (first := [pT it]) (capt := []) rfl rfl)) ?_
   refine gR rfl fun w s_ => ?_
   refine hR ({ a with tp := pz, tc := cz } : Ad) _ _ w (by exact (sT st)) (fun k h1 h2 => by repeat (first | rfl | rw [aA oM])) (fun q hq => ?_) s_
   repeat (first | exact h38 q hq | rw [bV dE hq dE])
theorem aG6 {R : Ending -> World -> Prop} {S0 : LS} {H0 : LV} {r : Ru} {l : Ra} {it rb : Nat} {s : It} {a : Ad} {cnt : Int} (st : St F w0 S0 H0 it rb r l s a B H S) (hcnt : lkp (ky 1 43) H = some (iV cnt)) (hr2 : lkp 2 S = some ⟨sN, 80, 2, 0, []⟩) (h38 : ∀ q, q < 4096 -> lkp (ky 38 q) H = none) (hr : RuOk r) (hh : 0 <= s.h /\ s.h <= 23) (hmi : 0 <= s.mi /\ s.mi <= 59) (hse : 0 <= s.s /\ s.s <= 59) (htn : s.ts.length <= 1000000000) (hlm : r.aPr.length <= 100) (hls : r.aPs.length <= 100) (hfr : r.aP2 = 6) (hR : ∀ a H' S' w, St F w0 S' H' it rb r l { s with count := cnt, ts := if cX r s then Md.fill r s else [] } a B H' S' -> (∀ k, 26 <= k -> k < 40 -> lkp k S' = lkp k S) -> (∀ q, q < 4096 -> lkp (ky 38 q) H' = none) -> Sees F w0 B H' S' w -> R (.returned (.func (.func 77) #[pT it] #[])) w) :
  GC Tryz.prog (Go.Fr.part [1, 1, 1, 1, 1, 1, 1] (Go.Fr.bodyOf Tryz.f52)) (bodyPost Tryz.prog Tryz.f52 R) 148 [(0, pT rb), (3, pT it)] F w0 B H S := by
 refine g10 ?_
 refine aU rfl (decide_eq_false oM) ?_
 refine g2 ?_
 refine uZ [(0, pT rb), (3, pT it), (127, .bool (!((aI r.hour s.h && aI r.aPr s.mi) && aI r.aPs s.s)))] ?_ ?_
 .refine m9 23 [(0, pT rb), (3, pT it), (77, .bool (!aI r.hour s.h))] ?_ ?_
  .refine g4 ?_
   refine rm ((dV rfl rfl).to bT) (g12 ?_)
   by_cases hz : ¬ r.hour.length = 0
   .refine rm ((cF rfl rfl).to (v' := .bool true) (cB (iW oM))) (g15 ?_)
    rcases bO (r.hour.any (· == s.h)) with hy_ | hy_
    .refine cG (v := .bool true) dE kR rfl (fun w_ s_ => (aR r.hour s.h _ st.hl54 w_ (st.hI54 _ _ _ w_ aG s_)).mT (cE hy_)) ?_
     refine g2 ?_
     exact rm ((bB rfl rfl rfl).to (v' := .bool (!aI r.hour s.h)) (by exact cB (by rw [iG hy_] <;> rfl))) (bX kns)
    .refine cG (v := .bool false) dE kR rfl (fun w_ s_ => (aR r.hour s.h _ st.hl54 w_ (st.hI54 _ _ _ w_ aG s_)).mT (cE hy_)) ?_
     refine g2 ?_
     exact rm ((bB rfl rfl rfl).to (v' := .bool (!aI r.hour s.h)) (by exact cB (by rw [iZ hz hy_] <;> rfl))) (bX kns)
   .refine rm ((cF rfl rfl).to (v' := .bool false) (cB (jA oM))) (g10 ?_)
    exact rm ((bB rfl rfl rfl).to (v' := .bool (!aI r.hour s.h)) (by exact cB (by rw [gB (Decidable.of_not_not hz)] <;> rfl))) (bX kns)
  .rcases bO (aI r.hour s.h) with hB0 | hB0
   .refine rm ((bC rfl).to (v' := .bool false) (cB (by rw [hB0]; rfl))) (m9 23 [(0, pT rb), (3, pT it), (78, .bool false), (101, .bool (!aI r.aPr s.mi))] ?_ ?_)
    .refine g9 ?_
     refine rm ((dV rfl rfl).to bT) (g13 ?_)
     by_cases hz : ¬ r.aPr.length = 0
     .refine rm ((cF rfl rfl).to (v' := .bool true) (cB (iW oM))) (g16 ?_)
      refine g1 ?_
      rcases bO (r.aPr.any (· == s.mi)) with hy_ | hy_
      .refine cG (v := .bool true) dE kR rfl (fun w_ s_ => (aR r.aPr s.mi _ st.hl55 w_ (st.hI55 _ _ _ w_ aG s_)).mT (cE hy_)) ?_
       refine g3 ?_
       exact rm ((bB rfl rfl rfl).to (v' := .bool (!aI r.aPr s.mi)) (by exact cB (by rw [iG hy_] <;> rfl))) (bX kns)
      .refine cG (v := .bool false) dE kR rfl (fun w_ s_ => (aR r.aPr s.mi _ st.hl55 w_ (st.hI55 _ _ _ w_ aG s_)).mT (cE hy_)) ?_
       refine g3 ?_
       exact rm ((bB rfl rfl rfl).to (v' := .bool (!aI r.aPr s.mi)) (by exact cB (by rw [iZ hz hy_] <;> rfl))) (bX kns)
     .refine rm ((cF rfl rfl).to (v' := .bool false) (cB (jA oM))) (g13 ?_)
      exact rm ((bB rfl rfl rfl).to (v' := .bool (!aI r.aPr s.mi)) (by exact cB (by rw [gB (Decidable.of_not_not hz)] <;> rfl))) (bX kns)
    .rcases bO (aI r.aPr s.mi) with hB1 | hB1
     .refine rm ((bB rfl rfl rfl).to (v' := .bool false) (by exact cB (by rw [hB1]; rfl))) (rm ((bC rfl).to (v' := .bool false) rfl) (m9 23 [(0, pT rb), (3, pT it), (103, .bool false), (126, .bool (!aI r.aPs s.s))] ?_ ?_))
      .refine g9 ?_
       refine rm ((dV rfl rfl).to bT) (g13 ?_)
       by_cases hz : ¬ r.aPs.length = 0
       .refine rm ((cF rfl rfl).to (v' := .bool true) (cB (iW oM))) (g16 ?_)
        refine g1 ?_
        rcases bO (r.aPs.any (· == s.s)) with hy_ | hy_
        .refine cG (v := .bool true) dE kR rfl (fun w_ s_ => (aR r.aPs s.s _ st.hl56 w_ (st.hI56 _ _ _ w_ aG s_)).mT (cE hy_)) ?_
         refine g3 ?_
         exact rm ((bB rfl rfl rfl).to (v' := .bool (!aI r.aPs s.s)) (by exact cB (by rw [iG hy_] <;> rfl))) (bX kns)
        .refine cG (v := .bool false) dE kR rfl (fun w_ s_ => (aR r.aPs s.s _ st.hl56 w_ (st.hI56 _ _ _ w_ aG s_)).mT (cE hy_)) ?_
         refine g3 ?_
         exact rm ((bB rfl rfl rfl).to (v' := .bool (!aI r.aPs s.s)) (by exact cB (by rw [iZ hz hy_] <;> rfl))) (bX kns)
       .refine rm ((cF rfl rfl).to (v' := .bool false) (cB (jA oM))) (g13 ?_)
        exact rm ((bB rfl rfl rfl).to (v' := .bool (!aI r.aPs s.s)) (by exact cB (by rw [gB (Decidable.of_not_not hz)] <;> rfl))) (bX kns)
      .rcases bO (aI r.aPs s.s) with hB2 | hB2
       .exact rm ((bB rfl rfl rfl).to (v' := .bool (!((aI r.hour s.h && aI r.aPr s.mi) && aI r.aPs s.s))) (by exact cB (by rw [hB0, hB1, hB2]; rfl))) (bX kns)
       .exact rm ((bB rfl rfl rfl).to (v' := .bool (!((aI r.hour s.h && aI r.aPr s.mi) && aI r.aPs s.s))) (by exact cB (by rw [hB0, hB1, hB2]; rfl))) (bX kns)
     .refine rm ((bB rfl rfl rfl).to (v' := .bool true) (by exact cB (by rw [hB1]; rfl))) (rm ((bC rfl).to (v' := .bool true) rfl) (g20 ?_))
      refine g3 ?_
      exact rm ((bB rfl rfl rfl).to (v' := .bool (!((aI r.hour s.h && aI r.aPr s.mi) && aI r.aPs s.s))) (by exact cB (by rw [hB0, hB1]; rfl))) (bX kns)
   .refine rm ((bC rfl).to (v' := .bool true) (cB (by rw [hB0]; rfl))) (g40 ?_)
    refine g8 ?_
    exact rm ((bB rfl rfl rfl).to (v' := .bool (!((aI r.hour s.h && aI r.aPr s.mi) && aI r.aPs s.s))) (by exact cB (by rw [hB0]; rfl))) (bX kns)
 .refine g1 ?_
  have hP : cX r s = ((aI r.hour s.h && aI r.aPr s.mi) && aI r.aPs s.s) := by unfold cX; rw [hfr]; simp
  refine aB rfl (fun hb => ?_) (fun hb => ?_)
  .have hok : cX r s = false := by rw [hP]; rcases bO ((aI r.hour s.h && aI r.aPr s.mi) && aI r.aPs s.s) with h_ | h_ <;> rw [h_] at hb ⊢ <;> first | rfl | cases hb
   rw [hok] at hR
   refine g2 ?_
   refine gL (sto 0 rfl rfl st.hB st.h23 (g9 ?_))
   refine gL (sto 0 rfl rfl st.hB st.h25 (g4 ?_))
   refine rZ4 ((iJ (first := [pT it]) (capt := []) rfl rfl)) ?_
   refine gR rfl fun w s_ => ?_
   refine hR ({ a with tp := none, tc := 0 } : Ad) _ _ w (by exact (sT st (hS2 := fun _ => hr2))) (fun k h1 h2 => by repeat (first | rfl | rw [aA oM])) (fun q hq => ?_) s_
   repeat (first | exact h38 q hq | rw [bV dE hq dE])
  .have hok : cX r s = true := by rw [hP]; rcases bO ((aI r.hour s.h && aI r.aPr s.mi) && aI r.aPs s.s) with h_ | h_ <;> rw [h_] at hb ⊢ <;> first | rfl | cases hb
   rw [hok] at hR
   refine dH 12 kR kR (g13 ?_)
   refine gL (d8 (ι := Option Addr × Nat) (fun _ => .tuple #[]) (fun _ => True) (fun _ => B) (fun y => (ky 0 23, .slice y.1 (Md.fill r s).length y.2) :: H) (fun y => (2, ⟨.slice y.1 (Md.fill r s).length y.2, 80, 2, (Md.fill r s).length, bS (Md.fill r s)⟩) :: S) dE kR rfl (fun w_ s_ => (vG st hr hh hmi hse htn hlm hls hfr w_ s_).mono fun e w' ⟨p, c, h1, h2⟩ => ⟨(p, c), trivial, h1, h2⟩) (fun | (pz, cz), _ => g9 ?_))
   refine gL (sto 0 rfl rfl st.hB st.h25 (g4 ?_))
   refine rZ4 ((iJ (first := [pT it]) (capt := []) rfl rfl)) ?_
   refine gR rfl fun w s_ => ?_
   refine hR ({ a with tp := pz, tc := cz } : Ad) _ _ w (by exact (sT st)) (fun k h1 h2 => by repeat (first | rfl | rw [aA oM])) (fun q hq => ?_) s_
   repeat (first | exact h38 q hq | rw [bV dE hq dE])
theorem aOf {R : Ending -> World -> Prop} {o : Opn} {x : Av} {wF : Int -> List Int} {nF : Int -> Int -> List Int} {eF : Int -> List Int} (ok : OpOk o) (hf4 : 4 <= o.aP2 /\ o.aP2 <= 6) (hr : RuOk (bE o wF nF eF)) (hmk : MkOk (bE o wF nF eF)) (hlen : RuLen (bE o wF nF eF)) {rb : Nat} {S0 : LS} (of : OutF F w0 o x S0 S) (hR1 : lkp 1 B = some rb) (hc1 : cellsAt 1 H 0 (j8 o x)) (h38 : ∀ q, q < 4096 -> lkp (ky 38 q) H = none) {it : Nat} (h0 : cellsAt 0 H 0 (z5 o rb)) (lim : Lim 40 ((0, it) :: B) H S) (hdm : o.d < 315537897600) (hlm : (bE o wF nF eF).aPr.length <= 100) (hls : (bE o wF nF eF).aPs.length <= 100)
 (hR : ∀ a H' S' w, St F w0 S' H' it rb (bE o wF nF eF) (r5 x) { it1 o (bE o wF nF eF) [] with ts := if cX (bE o wF nF eF) { it1 o (bE o wF nF eF) [] with count := 0 } then Md.fill (bE o wF nF eF) { it1 o (bE o wF nF eF) [] with count := 0 } else [] } a ((0, it) :: B) H' S' -> (∀ k, 26 <= k -> k < 40 -> lkp k S' = lkp k S) -> (∀ q, q < 4096 -> lkp (ky 38 q) H' = none) -> Sees F w0 ((0, it) :: B) H' S' w -> R (.returned (.func (.func 77) #[pT it] #[])) w) :
  GC Tryz.prog (Go.Fr.part [1, 1, 1, 1, 1, 1] (Go.Fr.bodyOf Tryz.f52)) (bodyPost Tryz.prog Tryz.f52 R) 148 [(0, pT rb), (3, pT it)] F w0 ((0, it) :: B) H S := by
 have hd_ := ok.d
 have hyp_ := yP (d := o.d / 86400) oM
 have hyd := iQ (x := o.d) oM
 have hym := aC4 (d := o.d / 86400) oM
 refine g4 ?_
 refine rZ1 (bH 0 rfl rfl (h0.get 0 _ rfl) kR dE) ?_
 refine rl (bH 0 rfl rfl (h0.get 1 _ rfl) kR dE) ?_
 have hgen : ∀ w, Sees F w0 ((0, it) :: B) H S w -> Calls Tryz.prog 74 #[.pointer (some ⟨it, 7, none⟩), iV (Cal.yearOf (o.d / 86400)), iV (Cal.monthOf (o.d / 86400))] w fun e w' => rG [] H (Cal.yearOf (o.d / 86400)) (Cal.monthOf (o.d / 86400)) F w0 ((0, ⟨sN, 80, 2, 0, []⟩) :: (1, ⟨sN, 171, 2, 0, []⟩) :: (2, ⟨sN, 80, 2, 0, []⟩) :: S) H it rb (bE o wF nF eF) (r5 x) ({ it1 o (bE o wF nF eF) [] with count := 0 }) ((0, it) :: B) e w' := fun w s => by
  have hg := qJ VOk.nil (S0 := ((0, ⟨sN, 80, 2, 0, []⟩) :: (1, ⟨sN, 171, 2, 0, []⟩) :: (2, ⟨sN, 80, 2, 0, []⟩) :: S)) (H0 := H) (r := (bE o wF nF eF)) (l := r5 x) (s := { it1 o (bE o wF nF eF) [] with count := 0, ly := 0, lm := 0, wno := [], nwm := [], eas := [] }) (a := ({ b3 := 0, c3 := 0, b4 := 0, c4 := 0, b5 := 0, c5 := 0, b6 := 0, c6 := 0, b7 := 0, c7 := 0, p20 := none, c20 := 0, p21 := none, c21 := 0, p22 := none, c22 := 0, tp := none, tc := 0, rp := none, rc := 0, rs := none, rk := 0, rn := 0, rj := 0, rall := [], bk := sN, dp := none, dc := 0, dn := 0, dxs := [], ln := iV 0 } : Ad)) (B := (0, it) :: B) (H := H) (S := ((0, ⟨sN, 80, 2, 0, []⟩) :: (1, ⟨sN, 171, 2, 0, []⟩) :: (2, ⟨sN, 80, 2, 0, []⟩) :: S)) rfl hR1 (h0.get 7 _ rfl) (hc1.get 39 _ rfl) (hc1.get 40 _ rfl) (h0.get 10 _ rfl) (h0.get 11 _ rfl) (h0.get 12 _ rfl) (h0.get 13 _ rfl) (h0.get 14 _ rfl) (h0.get 15 _ rfl) (h0.get 16 _ rfl) (h0.get 17 _ rfl) (h0.get 18 _ rfl) (h0.get 19 _ rfl) (y := Cal.yearOf (o.d / 86400)) (m := Cal.monthOf (o.d / 86400)) oM hr hmk (by have := Cal.month_bd (o.d / 86400); omega) (ly := 0) (lm := 0) (h0.get 8 _ rfl) (h0.get 9 _ rfl) (fun _ => rfl) (fun _ => rfl) (fun h => absurd h oM) (fun _ b6 c6 b3 c3 b4 c4 b5 c5 b7 c7 h385 => ⟨rfl, hR1, (by repeat (first | exact lim | apply Lim.aPh _ dE dE | apply Lim.aPi _ dE)), (h0.get 0 _ rfl), (h0.get 1 _ rfl), (h0.get 2 _ rfl), (h0.get 3 _ rfl), (h0.get 4 _ rfl), (h0.get 5 _ rfl), (h0.get 6 _ rfl), (h0.get 7 _ rfl), rfl, rfl, rfl, rfl, rfl, rfl, rfl, rfl, rfl, rfl, rfl, rfl, (h0.get 20 _ rfl), (h0.get 21 _ rfl), (h0.get 22 _ rfl), (h0.get 23 _ rfl), (h0.get 24 _ rfl), (h0.get 25 _ rfl), (h0.get 26 _ rfl), (h0.get 27 _ rfl), (h0.get 28 _ rfl), (h0.get 29 _ rfl), rfl, rfl, rfl, rfl, rfl, rfl, rfl, rfl, (fun h => absurd h (Nat.lt_irrefl 0)), (fun h => absurd h (Nat.lt_irrefl 0)), (fun h => absurd h (Nat.lt_irrefl 0)), (fun h => absurd h (Nat.lt_irrefl 0)), (fun h => absurd h (Nat.lt_irrefl 0)), (fun h => absurd h (Nat.lt_irrefl 0)), h385, aG, (fun k_ h1_ h2_ o_ ho_ => by repeat (first | rfl | rw [bV oM ho_ dE] | rw [List.cons_append] | rw [List.nil_append])), (fun _ => ⟨rfl, rfl, rfl, rfl⟩), (fun h => absurd rfl h), (hc1.get 38 _ rfl), (hc1.get 39 _ rfl), (hc1.get 40 _ rfl), (hc1.get 41 _ rfl), (hc1.get 42 _ rfl), (hc1.get 44 _ rfl), (hc1.get 45 _ rfl), (hc1.get 46 _ rfl), (hc1.get 47 _ rfl), (hc1.get 48 _ rfl), (hc1.get 49 _ rfl), (hc1.get 50 _ rfl), (hc1.get 51 _ rfl), (hc1.get 52 _ rfl), (hc1.get 53 _ rfl), (hc1.get 54 _ rfl), (hc1.get 55 _ rfl), (hc1.get 56 _ rfl), (hc1.get 57 _ rfl), (hc1.get 59 _ rfl), ((of.s9.toI dE).to aG), ((of.sm.toI dE).to aG), ((SrcI.row dE of.r12).to aG), ((SrcI.row dE of.r13).to aG), ((of.s12.toI dE).to aG), ((of.s13.toI dE).to aG), ((SrcI.row dE of.r14).to aG), ((of.sh.toI dE).to aG), ((of.si.toI dE).to aG), ((of.ss.toI dE).to aG), ((of.s18.toI dE).to aG), hlen.l46, hlen.l47, hlen.l48, hlen.l49, hlen.l50, hlen.l51, hlen.l52, hlen.l54, hlen.l55, hlen.l56, hlen.l57, ((SrcP.row dE of.r15).to aG), hlen.l53⟩) w (((s.aPm 2 80 2).aPm 1 171 2).aPm 0 80 2)
  have e1 : (if Cal.yearOf (o.d / 86400) = (0 : Int) then ([] : List Int) else (bE o wF nF eF).wnoF (Cal.yearOf (o.d / 86400))) = (bE o wF nF eF).wnoF (Cal.yearOf (o.d / 86400)) := if_neg oM
  have e2 : (if Cal.yearOf (o.d / 86400) = (0 : Int) /\ Cal.monthOf (o.d / 86400) = (0 : Int) then ([] : List Int) else (bE o wF nF eF).nwmF (Cal.yearOf (o.d / 86400)) (Cal.monthOf (o.d / 86400))) = (bE o wF nF eF).nwmF (Cal.yearOf (o.d / 86400)) (Cal.monthOf (o.d / 86400)) := if_neg oM
  rw [e1, e2] at hg
  exact hg
 refine gL (uG dE kR rfl hgen (fun a1 H1 S1 hst hkp => g2 ?_))
 rw [List.nil_append] at hst
 refine dO (L' := [(0, pT rb), (3, pT it)]) kns (fun w s => s.aPm 2 80 2) ?_
 have fin : ∀ {a2 : Ad} {H' : LV} {S' : LS}, St F w0 S' H' it rb (bE o wF nF eF) (r5 x) { it1 o (bE o wF nF eF) [] with count := 0 } a2 ((0, it) :: B) H' S' -> lkp (ky 1 43) H' = some (iV o.count) -> lkp 2 S' = some ⟨sN, 80, 2, 0, []⟩ -> (∀ q, q < 4096 -> lkp (ky 38 q) H' = none) -> (∀ k, 26 <= k -> k < 40 -> lkp k S' = lkp k S) -> GC Tryz.prog (Go.Fr.part [1, 1, 1, 1, 1, 1, 1] (Go.Fr.bodyOf Tryz.f52)) (bodyPost Tryz.prog Tryz.f52 R) 148 [(0, pT rb), (3, pT it)] F w0 ((0, it) :: B) H' S' := by
  intro a2 H' S' st hcn hn2 h38n hfr26
  have hb1 : 0 <= o.d % 86400 / 3600 /\ o.d % 86400 / 3600 <= 23 := by omega
  have hb2 : 0 <= o.d % 86400 / 60 % 60 /\ o.d % 86400 / 60 % 60 <= 59 := by omega
  have hb3 : 0 <= o.d % 86400 % 60 /\ o.d % 86400 % 60 <= 59 := by omega
  rcases (show o.aP2 = 4 \/ o.aP2 = 5 \/ o.aP2 = 6 by omega) with h | h | h
  .exact aHr st hcn hn2 h38n hr hb1 hb2 hb3 (Nat.zero_le _) hlm hls h fun a H2 S2 w h1 h2 => hR a H2 S2 w h1 (fun k h3 h4 => (h2 k h3 h4).trans (hfr26 k h3 h4))
  .exact aHf st hcn hn2 h38n hr hb1 hb2 hb3 (Nat.zero_le _) hlm hls h fun a H2 S2 w h1 h2 => hR a H2 S2 w h1 (fun k h3 h4 => (h2 k h3 h4).trans (hfr26 k h3 h4))
  .exact aG6 st hcn hn2 h38n hr hb1 hb2 hb3 (Nat.zero_le _) hlm hls h fun a H2 S2 w h1 h2 => hR a H2 S2 w h1 (fun k h3 h4 => (h2 k h3 h4).trans (hfr26 k h3 h4))
 refine fin (a2 := { a1 with tp := none, tc := 0 }) (sT hst (lim := fun _ => (hst.lim.aPi dE)) (h23 := fun _ => ((hkp 0 23 dE (.inr (.inr (.inr dE)))).trans (h0.get 23 _ rfl)))) ((hkp 1 43 dE (.inl dE)).trans (hc1.get 43 _ rfl)) rfl (fun q hq => ((hst.frH 38 dE dE q hq).trans (h38 q hq))) (fun k h1 h2 => (aA oM _ _).trans ((hst.frS k oM h2).trans aH))
theorem aFn {o : Opn} {wF : Int -> List Int} {nF : Int -> Int -> List Int} {eF : Int -> List Int} (ok : OpOk o) (hf4 : 4 <= o.aP2 /\ o.aP2 <= 6) (hr : RuOk (bE o wF nF eF)) (hmk : MkOk (bE o wF nF eF)) (hlen : RuLen (bE o wF nF eF)) (hdm : o.d < 315537897600) (hlm : (bE o wF nF eF).aPr.length <= 100) (hls : (bE o wF nF eF).aPs.length <= 100) : aCv o (bE o wF nF eF) { it1 o (bE o wF nF eF) [] with ts := if cX (bE o wF nF eF) { it1 o (bE o wF nF eF) [] with count := 0 } then Md.fill (bE o wF nF eF) { it1 o (bE o wF nF eF) [] with count := 0 } else [] } :=
 aF1 ok (fun of hR1 a1 a2 a3 a4 hR => aOf ok hf4 hr hmk hlen of hR1 a1 a2 a3 a4 hdm hlm hls hR)
end
open Go.Md Go.Tab Go.Fr
theorem pZ {r : Rul} {u dy : Int} (h : UD r u dy) (k : Int) : pAt (aV r) k = (r.start / u + k * r.aPp) * u /\ cH (aV r) k = (r.start / u + k * r.aPp) / dy /\ UN (aV r).aP2 = u /\ dJ r.aP2 = dy /\ u * dy = 86400 /\ 1 <= u := by
 obtain ⟨e1, e2, e3, _⟩ := cU r
 unfold cH pAt UN
 rw [e1, e2, e3]
 generalize k * r.aPp = z
 rcases h with ⟨rfl, rfl, hf⟩ | ⟨rfl, rfl, hf⟩ | ⟨rfl, rfl, hf⟩ <;> rw [hf] <;> simp [dJ] <;> omega
theorem aIs {r : Rul} (h : 4 <= r.aP2 /\ r.aP2 <= 6) : ∃ u dy, UD r u dy := by
 rcases (show r.aP2 = 4 \/ r.aP2 = 5 \/ r.aP2 = 6 by omega) with h | h | h
 .exact ⟨3600, 24, .inl ⟨rfl, rfl, h⟩⟩
 .exact ⟨60, 1440, .inr (.inl ⟨rfl, rfl, h⟩)⟩
 .exact ⟨1, 86400, .inr (.inr ⟨rfl, rfl, h⟩)⟩
def iU (q : Ru) (s : It) : List Int := if cX q s then Md.fill q s else []
theorem aE4 {r : Rul} {wF : Int -> List Int} {nF : Int -> Int -> List Int} {eF : Int -> List Int} (rp : RightP r) {u dy : Int} (h : UD r u dy) {s : It} (h1 : 0 <= s.h /\ s.h <= 23) (h2 : 0 <= s.mi /\ s.mi <= 59) (h3 : 0 <= s.s /\ s.s <= 59) (D : Int) :
  SI (iU (bE (aD r) wF nF eF) s) /\ fP (aV r).hour (aV r).aPr (aV r).aPs D (D * 86400 + cP r.aP2 s * u) u = (iU (bE (aD r) wF nF eF) s).map (D * 86400 + ·) := by
 obtain ⟨_, _, _, f4, f5, f6⟩ := rL r
 obtain ⟨_, p2, p3⟩ := nG rp
 have hq : (bE (aD r) wF nF eF).aP2 = r.aP2 := rfl
 rw [f4, f5, f6]
 have hh : (bE (aD r) wF nF eF).hour = cT (aD r) := rfl
 have hm : (bE (aD r) wF nF eF).aPr = bI (aD r) := rfl
 have hs : (bE (aD r) wF nF eF).aPs = bM (aD r) := rfl
 have key : ∀ T : List Int, SI T -> iU (bE (aD r) wF nF eF) s = T -> (∀ t, t ∈ T ↔ 0 <= t /\ t < 86400 /\ cP r.aP2 s * u <= t /\ t < cP r.aP2 s * u + u /\ aI (cT (aD r)) (t / 3600) = true /\ aI (bI (aD r)) (t / 60 % 60) = true /\ aI (bM (aD r)) (t % 60) = true) ->
   SI (iU (bE (aD r) wF nF eF) s) /\ fP (cT (aD r)) (bI (aD r)) (bM (aD r)) D (D * 86400 + cP r.aP2 s * u) u = (iU (bE (aD r) wF nF eF) s).map (D * 86400 + ·) := by
  intro T hT e hmem
  rw [e]
  refine ⟨hT, aDr hT fun t => (hmem t).trans ⟨?_, ?_⟩⟩
  .rintro ⟨a1, a2, a3, a4, a5⟩; exact ⟨a1, a2, by omega, by omega, a5⟩
  .rintro ⟨a1, a2, a3, a4, a5⟩; exact ⟨a1, a2, by omega, by omega, a5⟩
 rcases h with ⟨rfl, rfl, hf⟩ | ⟨rfl, rfl, hf⟩ | ⟨rfl, rfl, hf⟩
 .have P2 : PartOk (bI (aD r)) 60 := p2 oM
  have P3 : PartOk (bM (aD r)) 60 := p3 oM
  have P1 : PartOk [s.h] 24 := PartOk.one ⟨h1.1, by omega⟩
  have hsl : cP r.aP2 s = s.h := by unfold cP; rw [if_pos hf]
  have hok : cX (bE (aD r) wF nF eF) s = aI (cT (aD r)) s.h := by unfold cX; rw [hq, hf, hh]; simp
  have hfill : Md.fill (bE (aD r) wF nF eF) s = nV [s.h] (bI (aD r)) (bM (aD r)) := by unfold Md.fill; rw [hq, if_pos hf, hm, hs]
  cases hb : aI (cT (aD r)) s.h with
  | true =>
   refine key _ (oV P1 P2 P3) (by unfold iU; rw [hok, hb, if_pos rfl, hfill]) fun t => ?_
   rw [qE P1 P2 P3, P2.among, P3.among, hsl, List.mem_singleton]
   constructor
   .rintro ⟨a1, a2, a3, a4, a5⟩; exact ⟨a1, a2, by omega, by omega, by rw [a3]; exact hb, a4, a5⟩
   .rintro ⟨a1, a2, a3, a4, a5, a6, a7⟩; exact ⟨a1, a2, by omega, a6, a7⟩
  | false =>
   refine key [] (by simp [SI]) (by unfold iU; rw [hok, hb]; rfl) fun t => ⟨fun h => by simp at h, ?_⟩
   rintro ⟨a1, a2, a3, a4, a5, a6, a7⟩
   rw [hsl] at a3 a4
   rw [show t / 3600 = s.h by omega, hb] at a5; cases a5
 .have P3 : PartOk (bM (aD r)) 60 := p3 oM
  have P1 : PartOk [s.h] 24 := PartOk.one ⟨h1.1, by omega⟩
  have P2 : PartOk [s.mi] 60 := PartOk.one ⟨h2.1, by omega⟩
  have hsl : cP r.aP2 s = s.h * 60 + s.mi := by unfold cP; rw [if_neg oM, if_pos hf]
  have hok : cX (bE (aD r) wF nF eF) s = (aI (cT (aD r)) s.h && aI (bI (aD r)) s.mi) := by unfold cX; rw [hq, hf, hh, hm]; simp
  have hfill : Md.fill (bE (aD r) wF nF eF) s = nV [s.h] [s.mi] (bM (aD r)) := by unfold Md.fill; rw [hq, if_neg oM, if_pos hf, hs]
  cases hb : (aI (cT (aD r)) s.h && aI (bI (aD r)) s.mi) with
  | true =>
   obtain ⟨b1, b2⟩ := Bool.and_eq_true_iff.1 hb
   refine key _ (oV P1 P2 P3) (by unfold iU; rw [hok, hb, if_pos rfl, hfill]) fun t => ?_
   rw [qE P1 P2 P3, P3.among, hsl, List.mem_singleton, List.mem_singleton]
   constructor
   .rintro ⟨a1, a2, a3, a4, a5⟩; exact ⟨a1, a2, by omega, by omega, by rw [a3]; exact b1, by rw [a4]; exact b2, a5⟩
   .rintro ⟨a1, a2, a3, a4, a5, a6, a7⟩; exact ⟨a1, a2, by omega, by omega, a7⟩
  | false =>
   refine key [] (by simp [SI]) (by unfold iU; rw [hok, hb]; rfl) fun t => ⟨fun h => by simp at h, ?_⟩
   rintro ⟨a1, a2, a3, a4, a5, a6, a7⟩
   rw [hsl] at a3 a4
   rw [show t / 3600 = s.h by omega] at a5
   rw [show t / 60 % 60 = s.mi by omega] at a6
   rw [a5, a6] at hb; cases hb
 .have hsl : cP r.aP2 s = s.h * 3600 + s.mi * 60 + s.s := by unfold cP; rw [if_neg oM, if_neg oM]
  have hok : cX (bE (aD r) wF nF eF) s = ((aI (cT (aD r)) s.h && aI (bI (aD r)) s.mi) && aI (bM (aD r)) s.s) := by unfold cX; rw [hq, hf, hh, hm, hs]; simp
  have hfill : Md.fill (bE (aD r) wF nF eF) s = [s.h * 3600 + s.mi * 60 + s.s] := by unfold Md.fill; rw [hq, if_neg oM, if_neg oM]
  cases hb : ((aI (cT (aD r)) s.h && aI (bI (aD r)) s.mi) && aI (bM (aD r)) s.s) with
  | true =>
   obtain ⟨b1, b3⟩ := Bool.and_eq_true_iff.1 hb
   obtain ⟨b1, b2⟩ := Bool.and_eq_true_iff.1 b1
   refine key [s.h * 3600 + s.mi * 60 + s.s] (by simp [SI]) (by unfold iU; rw [hok, hb, if_pos rfl, hfill]) fun t => ?_
   rw [hsl, List.mem_singleton]
   constructor
   .intro e; exact ⟨by omega, by omega, by omega, by omega, by rw [show t / 3600 = s.h by omega]; exact b1, by rw [show t / 60 % 60 = s.mi by omega]; exact b2, by rw [show t % 60 = s.s by omega]; exact b3⟩
   .rintro ⟨a1, a2, a3, a4, _⟩; omega
  | false =>
   refine key [] (by simp [SI]) (by unfold iU; rw [hok, hb]; rfl) fun t => ⟨fun h => by simp at h, ?_⟩
   rintro ⟨a1, a2, a3, a4, a5, a6, a7⟩
   rw [hsl] at a3 a4
   rw [show t / 3600 = s.h by omega] at a5
   rw [show t / 60 % 60 = s.mi by omega] at a6
   rw [show t % 60 = s.s by omega] at a7
   rw [a5, a6, a7] at hb; cases hb
theorem yQ {u dy a : Int} (hu : u * dy = 86400) (h1 : 1 <= u) : a * u = a / dy * 86400 + a % dy * u := by
 have h := Int.mul_ediv_add_emod a dy
 conv => lhs; rw [<- h]
 rw [Int.add_mul, <- hu, Int.mul_comm dy (a / dy), Int.mul_assoc, Int.mul_comm dy u]
def R46 (r : Rul) (q : Ru) (k : Int) (s : It) : Prop := ∃ u dy, UD r u dy /\ Cal.dayNo s.y s.mo s.d = (r.start / u + k * r.aPp) / dy /\ cP r.aP2 s = (r.start / u + k * r.aPp) % dy /\ s.ts = iU q s
theorem aJe {r : Rul} {wF : Int -> List Int} {nF : Int -> Int -> List Int} {eF : Int -> List Int} (rp : RightP r) {u dy : Int} (h : UD r u dy) (dayF : Int -> Bool) {s : It} (h2 : 0 <= s.mi /\ s.mi <= 59) (h3 : 0 <= s.s /\ s.s <= 59) {j : Int}
  (hno : cX (bE (aD r) wF nF eF) (bY r.aP2 s ((r.start / u + j * r.aPp) % dy)) = false) : eU (aV r) dayF j = [] := by
 obtain ⟨e1, e2, e3, _⟩ := cU r
 obtain ⟨p1, p2, p3, p4, p5, p6⟩ := pZ h j
 have hf : 4 <= r.aP2 /\ r.aP2 <= 6 := by rcases h with ⟨_, _, h⟩ | ⟨_, _, h⟩ | ⟨_, _, h⟩ <;> omega
 have hdy : 24 <= dy := by rcases h with ⟨_, h, _⟩ | ⟨_, h, _⟩ | ⟨_, h, _⟩ <;> omega
 have ht : 0 <= (r.start / u + j * r.aPp) % dy /\ (r.start / u + j * r.aPp) % dy < dJ r.aP2 := ⟨Int.emod_nonneg _ oM, by rw [p4]; exact Int.emod_lt_of_pos _ oM⟩
 have hb := aIz hf ht h2 h3
 unfold eU
 rw [if_pos (by rw [e2]; omega), p1, p2, p3, yQ p5 p6]
 have hc := (aE4 (wF := wF) (nF := nF) (eF := eF) rp h hb.1 hb.2.1 hb.2.2 ((r.start / u + j * r.aPp) / dy)).2
 rw [(aDa hf (s := s) ht).1] at hc
 rw [hc]
 unfold iU
 rw [hno]
 simp
theorem aNp {r : Rul} {wF : Int -> List Int} {nF : Int -> Int -> List Int} {eF : Int -> List Int} (rp : RightP r) (hf : 4 <= r.aP2 /\ r.aP2 <= 6) (hw : ∀ y m, nF y m = []) {s : It} (hi : ItOk (bE (aD r) wF nF eF) s) :
  aX (bE (aD r) wF nF eF) s = (Cal.ydayOf (Cal.dayNo s.y s.mo s.d), Cal.ydayOf (Cal.dayNo s.y s.mo s.d) + 1) /\ (bad (bE (aD r) wF nF eF) s (Cal.ydayOf (Cal.dayNo s.y s.mo s.d) + ((0 : Nat) : Int)) = !eA (aV r) (Cal.dayNo s.y s.mo s.d)) /\ (cS (bE (aD r) wF nF eF) s = true -> eA (aV r) (Cal.dayNo s.y s.mo s.d) = false) := by
 have hfr : (bE (aD r) wF nF eF).aP2 = r.aP2 := rfl
 have hnw : s.nwm = [] := by rw [hi.nwm]; exact hw _ _
 obtain ⟨d1, d2, d3, _⟩ := tX hi.mo ⟨hi.d.1, hi.day (by rw [hfr]; omega)⟩
 have db := qS hi.mo ⟨hi.d.1, hi.day (by rw [hfr]; omega)⟩
 have ds := Cal.split_spec (Cal.dayNo s.y s.mo s.d)
 rw [d2] at ds
 have hlp := Cal.lp_01 s.ly
 have hlpe : Cal.lp s.ly = Cal.lp s.y := by rw [hi.ly]
 have hdy : Cal.daysTo s.ly = Cal.daysTo s.y := by rw [hi.ly]
 have hsn : aX (bE (aD r) wF nF eF) s = (Cal.ydayOf (Cal.dayNo s.y s.mo s.d), Cal.ydayOf (Cal.dayNo s.y s.mo s.d) + 1) := by
  unfold aX
  rw [hfr, if_neg oM, if_neg oM]
  simp only
  rw [if_neg oM]
 have hb := aNc (wF := wF) (nF := nF) (eF := eF) (s := s) rp oM hnw (i := Cal.ydayOf (Cal.dayNo s.y s.mo s.d) + ((0 : Nat) : Int)) oM oM
 rw [show Cal.daysTo s.ly + (Cal.ydayOf (Cal.dayNo s.y s.mo s.d) + ((0 : Nat) : Int)) = Cal.dayNo s.y s.mo s.d by omega] at hb
 refine ⟨hsn, hb, fun h => ?_⟩
 unfold cS at h
 rw [hsn] at h
 simp only at h
 rw [show (Cal.ydayOf (Cal.dayNo s.y s.mo s.d) + 1 - Cal.ydayOf (Cal.dayNo s.y s.mo s.d)).toNat = 1 by omega] at h
 simp only [List.range_succ, List.range_zero, List.nil_append, List.any_cons, List.any_nil, Bool.or_false] at h
 rw [hb] at h
 cases hx : eA (aV r) (Cal.dayNo s.y s.mo s.d) with
 | false => rfl
 | true => rw [hx] at h; cases h
theorem aMv {r : Rul} {wF : Int -> List Int} {nF : Int -> Int -> List Int} {eF : Int -> List Int} (rp : RightP r) (hf : 4 <= r.aP2 /\ r.aP2 <= 6) (hw : ∀ y m, nF y m = []) : Fits (bE (aD r) wF nF eF) (aV r) (eA (aV r)) (R46 r (bE (aD r) wF nF eF)) where
 over := fun k _ h => yS (by rw [(cU r).2.1]; omega) (by rw [(cU r).2.2.1]; exact rp.t1.aPp.1) k h
 same := fun k s s' h hs => by
  obtain ⟨u, dy, h1, h2, h3, h4⟩ := h
  refine ⟨u, dy, h1, by rw [hs.y, hs.mo, hs.d]; exact h2, by rw [tH hs.h hs.mi hs.s]; exact h3, ?_⟩
  rw [hs.ts, h4]
  unfold iU
  rw [uF hs.h hs.mi hs.s, sB hs.h hs.mi hs.s]
 pos := fun k s h0 hR hi ho => by
  obtain ⟨u, dy, hu, hday, hslot, hts⟩ := hR
  obtain ⟨e1, e2, e3, e4, e5, e6, _⟩ := cU r
  obtain ⟨p1, p2, p3, p4, p5, p6⟩ := pZ hu k
  have hfr : (bE (aD r) wF nF eF).aP2 = r.aP2 := rfl
  have hsp : (bE (aD r) wF nF eF).aPz = r.aPz := rfl
  obtain ⟨c1, c2⟩ := aE4 (wF := wF) (nF := nF) (eF := eF) rp hu hi.hr hi.mn hi.sec (Cal.dayNo s.y s.mo s.d)
  have hSI : SI s.ts := by rw [hts]; exact c1
  have hnw : s.nwm = [] := by rw [hi.nwm]; exact hw _ _
  obtain ⟨d1, d2, d3, _⟩ := tX hi.mo ⟨hi.d.1, hi.day (by rw [hfr]; omega)⟩
  have db := qS hi.mo ⟨hi.d.1, hi.day (by rw [hfr]; omega)⟩
  have ds := Cal.split_spec (Cal.dayNo s.y s.mo s.d)
  rw [d2] at ds
  have hlp := Cal.lp_01 s.ly
  have hlpe : Cal.lp s.ly = Cal.lp s.y := by rw [hi.ly]
  have hdy : Cal.daysTo s.ly = Cal.daysTo s.y := by rw [hi.ly]
  have hout := x6 (r := bE (aD r) wF nF eF) hSI hi.ts (wV rp.t3.h9)
  refine ⟨[], dY (iN (bE (aD r) wF nF eF) s) r.aPz, ?_, fun t ht => by simp at ht, by rw [hout, hsp]⟩
  rw [List.nil_append, e6]
  congr 1
  have hsn : aX (bE (aD r) wF nF eF) s = (Cal.ydayOf (Cal.dayNo s.y s.mo s.d), Cal.ydayOf (Cal.dayNo s.y s.mo s.d) + 1) := by
   unfold aX
   rw [hfr, if_neg oM, if_neg oM]
   simp only
   rw [if_neg oM]
  have hD : Cal.daysTo s.ly + Cal.ydayOf (Cal.dayNo s.y s.mo s.d) = Cal.dayNo s.y s.mo s.d := by omega
  have hfl : iN (bE (aD r) wF nF eF) s = if eA (aV r) (Cal.dayNo s.y s.mo s.d) = true then s.ts.map (Cal.dayNo s.y s.mo s.d * 86400 + ·) else [] := by
   rw [qC, hsn]
   simp only
   rw [show (Cal.ydayOf (Cal.dayNo s.y s.mo s.d) + 1 - Cal.ydayOf (Cal.dayNo s.y s.mo s.d)).toNat = 1 by omega]
   have hb := aNc (wF := wF) (nF := nF) (eF := eF) (s := s) rp oM hnw (i := Cal.ydayOf (Cal.dayNo s.y s.mo s.d) + ((0 : Nat) : Int)) oM oM
   simp only [List.range_succ, List.range_zero, List.nil_append, List.flatMap_cons, List.flatMap_nil, List.append_nil]
   rw [hb, show Cal.daysTo s.ly + (Cal.ydayOf (Cal.dayNo s.y s.mo s.d) + ((0 : Nat) : Int)) = Cal.dayNo s.y s.mo s.d by omega]
   unfold pH
   rw [show Cal.daysTo s.ly + (Cal.ydayOf (Cal.dayNo s.y s.mo s.d) + ((0 : Nat) : Int)) = Cal.dayNo s.y s.mo s.d by omega]
   cases eA (aV r) (Cal.dayNo s.y s.mo s.d) <;> rfl
  rw [hfl]
  unfold eU
  rw [if_pos (by rw [e2]; omega), p1, p2, p3, yQ p5 p6, <- hday, <- hslot, c2, <- hts]
 adv := fun k s h0 hR hi ho hfin => by
  obtain ⟨u, dy, hu, hday, hslot, hts⟩ := hR
  obtain ⟨e1, e2, e3, e4, e5, e6, _⟩ := cU r
  have hfr : (bE (aD r) wF nF eF).aP2 = r.aP2 := rfl
  have hir : (bE (aD r) wF nF eF).aPp = r.aPp := rfl
  have hiv := rp.t1.aPp
  obtain ⟨n, K, hn⟩ := aJl (b := cS (bE (aD r) wF nF eF) s) (by rw [hfr]; exact hf) hi
  have hsl : dJ r.aP2 = dy := (pZ hu k).2.2.2.1
  have hdy : 24 <= dy /\ dy <= 86400 := by rcases hu with ⟨_, h, _⟩ | ⟨_, h, _⟩ | ⟨_, h, _⟩ <;> omega
  have hsb := aBo hf hi.hr hi.mn hi.sec
  rw [hsl] at hsb
  have hj0 : 0 <= iX (bE (aD r) wF nF eF) (cS (bE (aD r) wF nF eF) s) s := by
   unfold iX
   rw [hfr, hir, hsl]
   split
   .exact Int.ediv_nonneg oM oM
   .omega
  have hjb : cS (bE (aD r) wF nF eF) s = false -> iX (bE (aD r) wF nF eF) (cS (bE (aD r) wF nF eF) s) s = 0 := fun h => by unfold iX; rw [h]; rfl
  have hjm : cP r.aP2 s + iX (bE (aD r) wF nF eF) (cS (bE (aD r) wF nF eF) s) s * r.aPp <= dy - 1 := by
   unfold iX
   rw [hfr, hir, hsl]
   split
   .have := (wL (m := dy - 1 - cP r.aP2 s) (n := r.aPp) oM oM).2; omega
   .omega
  have n1 : ∀ j : Nat, 1 <= j -> j < K -> cX (bE (aD r) wF nF eF) (bY r.aP2 s ((cP r.aP2 s + (iX (bE (aD r) wF nF eF) (cS (bE (aD r) wF nF eF) s) s + j) * r.aPp) % dy)) = false := by rw [<- hsl]; exact hn.no
  have n2 : n.d = s.d + (cP r.aP2 s + (iX (bE (aD r) wF nF eF) (cS (bE (aD r) wF nF eF) s) s + K) * r.aPp) / dy := by rw [<- hsl]; exact hn.d
  have n3 : cP r.aP2 n = (cP r.aP2 s + (iX (bE (aD r) wF nF eF) (cS (bE (aD r) wF nF eF) s) s + K) * r.aPp) % dy := by rw [<- hsl]; exact hn.slot
  have n4 := hn.hk.1
  generalize iX (bE (aD r) wF nF eF) (cS (bE (aD r) wF nF eF) s) s = m at n1 n2 n3 hj0 hjb hjm
  have hz : ∀ z : Int, (r.start / u + (k + z) * r.aPp) / dy = Cal.dayNo s.y s.mo s.d + (cP r.aP2 s + z * r.aPp) / dy /\ (r.start / u + (k + z) * r.aPp) % dy = (cP r.aP2 s + z * r.aPp) % dy := by
   intro z
   have e : r.start / u + (k + z) * r.aPp = (cP r.aP2 s + z * r.aPp) + dy * Cal.dayNo s.y s.mo s.d := by
    have h := Int.mul_ediv_add_emod (r.start / u + k * r.aPp) dy
    rw [<- hday, <- hslot] at h
    rw [Int.add_mul]
    omega
   rw [e, Int.add_mul_ediv_left _ _ oM, Int.add_mul_emod_self_left]
   exact ⟨by omega, rfl⟩
  refine ⟨k + (m + K), by omega, fun j h1 h2 => ?_, ?_⟩
  .obtain ⟨z, rfl⟩ : ∃ z, j = k + z := ⟨j - k, by omega⟩
   by_cases hzm : z <= m
   .have hflt : cS (bE (aD r) wF nF eF) s = true := by
     cases h : cS (bE (aD r) wF nF eF) s with
     | true => rfl
     | false => have := hjb h; omega
    have hbad := (aNp rp hf hw hi).2.2 hflt
    have hmul := Int.mul_le_mul_of_nonneg_right hzm (show 0 <= r.aPp by omega)
    have hmul0 := Int.mul_nonneg (show 0 <= z by omega) (show 0 <= r.aPp by omega)
    unfold eU
    rw [if_pos (by rw [e2]; omega), (pZ hu (k + z)).2.1, (hz z).1, Int.ediv_eq_zero_of_lt oM oM, Int.add_zero, hbad]
    rfl
   .refine aJe (wF := wF) (nF := nF) (eF := eF) rp hu _ (s := s) hi.mn hi.sec ?_
    rw [(hz z).2]
    have h := n1 (z - m).toNat oM oM
    rw [show m + (((z - m).toNat : Nat) : Int) = z by omega] at h
    exact h
  .have hpf : cH (aV r) (k + (m + K)) = Cal.dayNo s.y s.mo s.d + (cP r.aP2 s + (m + K) * r.aPp) / dy := by rw [(pZ hu _).2.1, (hz _).1]
   rw [hn.adv]
   have hmo := hi.mo
   have hy := hi.y
   have hd := hi.d
   have hnd : 1 <= n.d := by
    rw [n2]
    have h1 := Int.mul_nonneg (show 0 <= m + (K : Int) by omega) (show 0 <= r.aPp by omega)
    have := Int.ediv_nonneg (show 0 <= cP r.aP2 s + (m + (K : Int)) * r.aPp by omega) (show 0 <= dy by omega)
    omega
   obtain ⟨c1, c2⟩ := aGa (r := bE (aD r) wF nF eF) (s := n) hnd (by rw [hn.mo]; exact hmo) (by rw [hn.y]; exact hy) (by rw [hn.fin]; exact hfin)
   have hrest := aCo (r := bE (aD r) wF nF eF) n
   have hdn : Cal.dayNo n.y n.mo n.d = cH (aV r) (k + (m + K)) := by
    rw [hn.y, hn.mo, n2, hpf, kG hmo, kG hmo]; omega
   rw [hdn] at c1 c2
   refine ⟨fun h => ?_, fun h => (xM oM _).2 (c2 h)⟩
   have c3 := c1 h
   obtain ⟨g1, g2, g3, _⟩ := aBh (r := bE (aD r) wF nF eF) (s := n) hnd (by rw [hn.mo]; exact hmo) (by rw [hn.y]; exact hy) (by rw [hn.ly, hn.y]; exact hi.ly) ⟨by rw [hn.wno, hn.ly]; exact hi.wno, by rw [hn.nwm, hn.ly, hn.lm]; exact hi.nwm, by rw [hn.eas, hn.ly]; exact hi.eas⟩ h
   have gl := yN g3 g2 g1
   rw [c3] at gl
   refine ⟨⟨u, dy, hu, by rw [c3, (pZ hu _).2.1], by rw [tH hrest.h hrest.mi hrest.sec, n3, (hz _).2], ?_⟩, fun hov => ?_⟩
   .unfold iU
    rw [hrest.ts, hn.ts, uF hrest.h hrest.mi hrest.sec, hn.ok, if_pos rfl, sB hrest.h hrest.mi hrest.sec]
   .have := (xM (r := r) oM _).1 hov
    omega
theorem aMy (a : Nat) : ∀ b : Nat, ∃ x y : Int, ((Nat.gcd a b : Nat) : Int) = a * x + b * y := by
 induction a using Nat.strongRecOn with
 | _ a ih =>
  intro b
  rcases Nat.eq_zero_or_pos a with h | h
  .subst h
   exact ⟨0, 1, by rw [Nat.gcd_zero_left]; simp⟩
  .obtain ⟨x, y, e⟩ := ih (b % a) (Nat.mod_lt _ h) a
   refine ⟨y - (b / a : Nat) * x, x, ?_⟩
   rw [Nat.gcd_rec, e]
   have h2 : ((b % a : Nat) : Int) = b - a * (b / a : Nat) := by
    have := Nat.div_add_mod b a
    have h3 : ((a * (b / a) + b % a : Nat) : Int) = b := by rw [this]
    rw [Int.natCast_add, Int.natCast_mul] at h3
    omega
   rw [h2, Int.sub_mul, Int.mul_sub, Int.mul_assoc]
   omega
theorem pW {r : Rul} (h : 4 <= r.aP2) (x : Int) : aI (cT (aD r)) x = aI r.hour x := by
 unfold cT
 split
 .rename_i h0
  rw [if_neg (by show ¬ r.aP2 < 4; omega), gB (show r.hour.length = 0 from h0)]; rfl
 .rfl
theorem rR {r : Rul} (h : 5 <= r.aP2) (x : Int) : aI (bI (aD r)) x = aI r.aPr x := by
 unfold bI
 split
 .rename_i h0
  rw [if_neg (by show ¬ r.aP2 < 5; omega), gB (show r.aPr.length = 0 from h0)]; rfl
 .rfl
theorem zL {r : Rul} (h : 6 <= r.aP2) (x : Int) : aI (bM (aD r)) x = aI r.aPs x := by
 unfold bM
 split
 .rename_i h0
  rw [if_neg (by show ¬ r.aP2 < 6; omega), gB (show r.aPs.length = 0 from h0)]; rfl
 .rfl
theorem aIu {r : Rul} {wF : Int -> List Int} {nF : Int -> Int -> List Int} {eF : Int -> List Int} (rp : RightP r) (hf : 4 <= r.aP2 /\ r.aP2 <= 6) (ts : List Int) :
  ∀ b, ∃ K, jL (bE (aD r) wF nF eF) b (it1 (aD r) (bE (aD r) wF nF eF) ts) = some K /\ (K : Int) <= dJ r.aP2 := by
 obtain ⟨u, dy, at_, hu, h0, h1, h2, h3, h4, h5⟩ := rp.t8 hf.1
 have hiv := rp.t1.aPp
 have hsl : dJ r.aP2 = dy := (pZ hu 0).2.2.2.1
 have hdy : 24 <= dy := by rcases hu with ⟨_, h, _⟩ | ⟨_, h, _⟩ | ⟨_, h, _⟩ <;> omega
 have hso : cP r.aP2 (it1 (aD r) (bE (aD r) wF nF eF) ts) = r.start % 86400 / u := by
  show (if r.aP2 = 4 then r.start % 86400 / 3600 else if r.aP2 = 5 then r.start % 86400 / 3600 * 60 + r.start % 86400 / 60 % 60 else r.start % 86400 / 3600 * 3600 + r.start % 86400 / 60 % 60 * 60 + r.start % 86400 % 60) = _
  rcases hu with ⟨rfl, _, h⟩ | ⟨rfl, _, h⟩ | ⟨rfl, _, h⟩
  .rw [if_pos h]
  .rw [if_neg oM, if_pos h]; omega
  .rw [if_neg oM, if_neg oM]; omega
 have hg := Int.emod_emod_of_dvd
 obtain ⟨x, y, hb⟩ := aMy r.aPp.toNat dy.toNat
 rw [show ((r.aPp.toNat : Nat) : Int) = r.aPp by omega, show ((dy.toNat : Nat) : Int) = dy by omega] at hb
 have hk : ∃ k0 : Int, (r.start % 86400 / u + k0 * r.aPp) % dy = at_ := by
  have e1 := Int.mul_ediv_add_emod at_ (Nat.gcd r.aPp.toNat dy.toNat : Nat)
  have e2 := Int.mul_ediv_add_emod (r.start % 86400 / u) (Nat.gcd r.aPp.toNat dy.toNat : Nat)
  rw [h2] at e1
  generalize (r.start % 86400 / u) / ((Nat.gcd r.aPp.toNat dy.toNat : Nat) : Int) = c2 at e2
  generalize at_ / ((Nat.gcd r.aPp.toNat dy.toNat : Nat) : Int) = c1 at e1
  generalize ((Nat.gcd r.aPp.toNat dy.toNat : Nat) : Int) = g at e1 e2 hb
  refine ⟨x * (c1 - c2), ?_⟩
  have e3 : r.start % 86400 / u + x * (c1 - c2) * r.aPp = at_ + dy * (-(y * (c1 - c2))) := by
   have e4 : g * (c1 - c2) = r.aPp * x * (c1 - c2) + dy * y * (c1 - c2) := by rw [hb, Int.add_mul]
   rw [Int.mul_sub] at e4
   rw [Int.mul_neg, <- Int.mul_assoc, show x * (c1 - c2) * r.aPp = r.aPp * x * (c1 - c2) by rw [Int.mul_comm (x * (c1 - c2)), Int.mul_assoc]]
   omega
  rw [e3, Int.add_mul_emod_self_left, Int.emod_eq_of_lt h0 h1]
 obtain ⟨k0, hk⟩ := hk
 refine aF2 (r := bE (aD r) wF nF eF) (s := it1 (aD r) (bE (aD r) wF nF eF) ts) hf (k0 := k0) ?_
 show cX (bE (aD r) wF nF eF) (bY r.aP2 _ ((cP r.aP2 (it1 (aD r) (bE (aD r) wF nF eF) ts) + k0 * r.aPp) % dJ r.aP2)) = true
 rw [hso, hsl, hk]
 have hh : (bE (aD r) wF nF eF).hour = cT (aD r) := rfl
 have hm : (bE (aD r) wF nF eF).aPr = bI (aD r) := rfl
 have hs : (bE (aD r) wF nF eF).aPs = bM (aD r) := rfl
 rcases hu with ⟨rfl, rfl, h⟩ | ⟨rfl, rfl, h⟩ | ⟨rfl, rfl, h⟩
 .have e := ok4 (r := bE (aD r) wF nF eF) (s := it1 (aD r) (bE (aD r) wF nF eF) ts) (t := at_) h
  refine e.trans ?_
  rw [hh, pW hf.1, show at_ = at_ * 3600 / 3600 by omega]; exact h3
 .have e := ok5 (r := bE (aD r) wF nF eF) (s := it1 (aD r) (bE (aD r) wF nF eF) ts) (t := at_) h
  refine e.trans ?_
  rw [hh, hm, pW hf.1, rR oM, show at_ / 60 = at_ * 60 / 3600 by omega, show at_ % 60 = at_ * 60 / 60 % 60 by omega, h3, h4 oM]; rfl
 .have e := ok6 (r := bE (aD r) wF nF eF) (s := it1 (aD r) (bE (aD r) wF nF eF) ts) (t := at_) h
  refine e.trans ?_
  rw [hh, hm, hs, pW hf.1, rR oM, zL oM]
  rw [Int.mul_one] at h3 h4 h5
  rw [h3, h4 oM, h5 h]; rfl
theorem aHx {r : Rul} (rp : RightP r) (hf : 4 <= r.aP2 /\ r.aP2 <= 6) {s : It} (h1 : 0 <= s.h /\ s.h <= 23) (h2 : 0 <= s.mi /\ s.mi <= 59) (h3 : 0 <= s.s /\ s.s <= 59) : (iU (bE (aD r) wO nO wO) s).length <= 100000 /\ ∀ t ∈ iU (bE (aD r) wO nO wO) s, 0 <= t /\ t < 86400 := by
 obtain ⟨u, dy, hu⟩ := aIs hf
 obtain ⟨c1, c2⟩ := aE4 (wF := wO) (nF := nO) (eF := wO) rp hu h1 h2 h3 0
 have hb : ∀ t ∈ iU (bE (aD r) wO nO wO) s, 0 <= t /\ t < 86400 := by
  intro t ht
  have h : 0 * 86400 + t ∈ fP (aV r).hour (aV r).aPr (aV r).aPs 0 (0 * 86400 + cP r.aP2 s * u) u := by rw [c2]; exact List.mem_map.2 ⟨t, ht, rfl⟩
  have := (mK.1 h)
  omega
 exact ⟨by have := aBn c1 hb oM; omega, hb⟩
theorem aLh {r : Rul} (rp : RightP r) (hf : 4 <= r.aP2 /\ r.aP2 <= 6) : ¬eE (aV r) 0 := fun h => by
 have h := (xM oM _).1 h
 have hs := rp.t1.start
 have h9 : Cal.daysTo 9000 = 3286817 := by decide
 obtain ⟨u, dy, hu⟩ := aIs hf
 rw [(pZ hu 0).2.1, Int.zero_mul, Int.add_zero] at h
 rcases hu with ⟨rfl, rfl, _⟩ | ⟨rfl, rfl, _⟩ | ⟨rfl, rfl, _⟩ <;> omega
theorem aCw {r : Rul} (rp : RightP r) (hf : 4 <= r.aP2 /\ r.aP2 <= 6) : nB r (eA (aV r)) := by
 intro most hm l h x w hin
 have hr := qQ rp oM
 obtain ⟨hy, hw, he⟩ := jM rp oM
 have hnw : (bE (aD r) wO nO wO).nwd.length = 0 := tL (by show 2 <= r.aP2; omega) wO nO wO
 obtain ⟨_, _, _, _, h5, h6⟩ := vC rp
 have hlm : (bE (aD r) wO nO wO).aPr.length <= 100 := h5
 have hls : (bE (aD r) wO nO wO).aPs.length <= 100 := h6
 have hpres : wJ (bE (aD r) wO nO wO) := aD1 hr hf hlm hls
 have hs := rp.t1.start
 have h9 : Cal.daysTo 9000 = 3286817 := by decide
 have hit := aFn (iL rp) (show 4 <= r.aP2 /\ r.aP2 <= 6 from hf) hr (mI rp oM) (qU rp wO nO wO) (show (aD r).d < 315537897600 by show r.start < _; omega) hlm hls
 have hb1 : 0 <= r.start % 86400 / 3600 /\ r.start % 86400 / 3600 <= 23 := by omega
 have hb2 : 0 <= r.start % 86400 / 60 % 60 /\ r.start % 86400 / 60 % 60 <= 59 := by omega
 have hb3 : 0 <= r.start % 86400 % 60 /\ r.start % 86400 % 60 <= 59 := by omega
 have hit : aCv (aD r) (bE (aD r) wO nO wO) (it1 (aD r) (bE (aD r) wO nO wO) (iU (bE (aD r) wO nO wO) (it1 (aD r) (bE (aD r) wO nO wO) []))) := hit
 have hR : R46 r (bE (aD r) wO nO wO) 0 (it1 (aD r) (bE (aD r) wO nO wO) (iU (bE (aD r) wO nO wO) (it1 (aD r) (bE (aD r) wO nO wO) []))) := by
  obtain ⟨u, dy, hu⟩ := aIs hf
  refine ⟨u, dy, hu, ?_, ?_, rfl⟩
  .rw [Int.zero_mul, Int.add_zero]
   refine (sG (r.start / 86400)).trans ?_
   rcases hu with ⟨rfl, rfl, _⟩ | ⟨rfl, rfl, _⟩ | ⟨rfl, rfl, _⟩ <;> omega
  .rw [Int.zero_mul, Int.add_zero]
   show (if r.aP2 = 4 then r.start % 86400 / 3600 else if r.aP2 = 5 then r.start % 86400 / 3600 * 60 + r.start % 86400 / 60 % 60 else r.start % 86400 / 3600 * 3600 + r.start % 86400 / 60 % 60 * 60 + r.start % 86400 % 60) = _
   rcases hu with ⟨rfl, rfl, h⟩ | ⟨rfl, rfl, h⟩ | ⟨rfl, rfl, h⟩
   .rw [if_pos h]; omega
   .rw [if_neg oM, if_pos h]; omega
   .rw [if_neg oM, if_neg oM]; omega
 obtain ⟨N, hT⟩ := qP rp (aMv rp hf fun _ _ => rfl) hpres (aB3 rp (aHx rp hf hb1 hb2 hb3) (fun _ => aIu rp hf _)) hR (aLh rp hf) hm h
 exact nC (iL rp) hit (tD rp) (tP rp) (fun F w0 => tO (w6 rp) F w0) hr
  ⟨(j9 rp).1, (j9 rp).2, aGi hr hf (mI rp oM) hlm hls⟩ hpres hm hT w hin
open Go.Md Go.Tab Go.Fr
theorem sE {c st en most : Int} : ∀ (l o : List Int), o.length <= (cM c st en most o l).1.length
 | [], o => Nat.le_refl _
 | t :: l, o => by
  rw [gO]
  split
  .exact sE l o
  .split
   .exact Nat.le_refl _
   .have := sE (c := c) (st := st) (en := en) (most := most) l (o ++ [t])
    rw [List.length_append] at this
    omega
theorem oO {c st en en' m M : Int} (hm : m <= M) : ∀ (l o : List Int), (o.length : Int) <= m -> (cM c st en' m o l).2 = true ->
  (cM c st en M o l).1.length <= (cM c st en' m o l).1.length /\ ((cM c st en M o l).2 = true -> (cM c st en M o l).1 = (cM c st en' m o l).1) /\ ((cM c st en' m o l).1.length : Int) <= m
 | [], o, h0, _ => ⟨Nat.le_refl _, fun _ => rfl, h0⟩
 | t :: l, o, h0, h => by
  rw [gO] at h ⊢
  rw [gO (en := en') (most := m)]
  split at h
  .rename_i h1
   rw [if_pos h1, if_pos h1]
   exact oO hm l o h0 h
  .rename_i h1
   split at h
   .cases h
   .rename_i h2
    rw [if_neg h1, if_neg h1, if_neg h2]
    have h3 : ((o ++ [t]).length : Int) <= m := by rw [List.length_append, List.length_singleton]; omega
    by_cases h4 : (o.length : Int) = M \/ (0 < c /\ (o.length : Int) = c) \/ en < t
    .rw [if_pos h4]
     obtain ⟨_, _, h7⟩ := oO hm (en := en) l (o ++ [t]) h3 h
     have h6 := sE (c := c) (st := st) (en := en') (most := m) l (o ++ [t])
     rw [List.length_append] at h6
     exact ⟨sO, fun h => (by cases h), h7⟩
    .rw [if_neg h4]
     exact oO hm l (o ++ [t]) h3 h
theorem aG2 {q : Rul} {dayF : Int -> Bool} {en en' m M : Int} (hm : m < M) {k : Int} {o l : List Int} (h : DatesP q dayF en M k o l) : (o.length : Int) <= m -> ((l.length : Int) = M \/ (0 < q.count /\ (l.length : Int) = q.count)) -> ∃ l', DatesP q dayF en' m k o l' := by
 induction h with
 | over h => exact fun _ _ => ⟨_, .over h⟩
 | @stop k o h hs =>
  intro h0 hl
  cases hb : (dW q q.start en' m o (eU q dayF k)).2 with
  | false => exact ⟨_, .stop h hb⟩
  | true =>
   unfold dW at hb hl
   simp only [Bool.and_eq_true] at hb hl
   obtain ⟨c1, c2, c3⟩ := oO (c := q.count) (st := q.start) (en := en) (Int.le_of_lt hm) _ o h0 hb.1
   have hk := hb.2
   unfold jR at hk
   simp only [Bool.and_eq_true, Bool.or_eq_true, decide_eq_true_eq, beq_iff_eq] at hk
   omega
 | @more k o l h hs hn ih =>
  intro h0 hl
  cases hb : (dW q q.start en' m o (eU q dayF k)).2 with
  | false => exact ⟨_, .stop h hb⟩
  | true =>
   have hb2 := hb
   have hs2 := hs
   unfold dW at hb2 hs2
   simp only [Bool.and_eq_true] at hb2 hs2
   obtain ⟨c1, c2, c3⟩ := oO (c := q.count) (st := q.start) (en := en) (Int.le_of_lt hm) _ o h0 hb2.1
   have e : (dW q q.start en M o (eU q dayF k)).1 = (dW q q.start en' m o (eU q dayF k)).1 := c2 hs2.1
   rw [e] at ih
   obtain ⟨l', hl'⟩ := ih c3 hl
   exact ⟨l', .more h hb hl'⟩
theorem aBa (r : Rul) : aV (cK r) = cK (aV r) := by
 have h4 : ∀ r, iH (cK r) = cK (iH r) := fun r => by
  unfold iH
  by_cases h : r.aPs.length = 0 /\ r.aP2 < 6
  .rw [if_pos h, if_pos (show (cK r).aPs.length = 0 /\ (cK r).aP2 < 6 from h)]; rfl
  .rw [if_neg h, if_neg (show ¬((cK r).aPs.length = 0 /\ (cK r).aP2 < 6) from h)]
 have h3 : ∀ r, gD (cK r) = cK (gD r) := fun r => by
  unfold gD
  by_cases h : r.aPr.length = 0 /\ r.aP2 < 5
  .rw [if_pos h, if_pos (show (cK r).aPr.length = 0 /\ (cK r).aP2 < 5 from h)]; rfl
  .rw [if_neg h, if_neg (show ¬((cK r).aPr.length = 0 /\ (cK r).aP2 < 5) from h)]
 have h2 : ∀ r, fZ (cK r) = cK (fZ r) := fun r => by
  unfold fZ
  by_cases h : r.hour.length = 0 /\ r.aP2 < 4
  .rw [if_pos h, if_pos (show (cK r).hour.length = 0 /\ (cK r).aP2 < 4 from h)]; rfl
  .rw [if_neg h, if_neg (show ¬((cK r).hour.length = 0 /\ (cK r).aP2 < 4) from h)]
 have h1 : gA (cK r) = cK (gA r) := by
  unfold gA
  by_cases h : u7 r
  .rw [if_pos h, if_pos (show u7 (cK r) from h)]
   by_cases ha : r.aP2 = 0
   .rw [if_pos ha, if_pos (show (cK r).aP2 = 0 from ha)]; rfl
   .rw [if_neg ha, if_neg (show ¬(cK r).aP2 = 0 from ha)]
    by_cases hb : r.aP2 = 1
    .rw [if_pos hb, if_pos (show (cK r).aP2 = 1 from hb)]; rfl
    .rw [if_neg hb, if_neg (show ¬(cK r).aP2 = 1 from hb)]
     by_cases hc : r.aP2 = 2
     .rw [if_pos hc, if_pos (show (cK r).aP2 = 2 from hc)]; rfl
     .rw [if_neg hc, if_neg (show ¬(cK r).aP2 = 2 from hc)]
  .rw [if_neg h, if_neg (show ¬u7 (cK r) from h)]
 unfold aV
 rw [h1, h2, h3, h4]
theorem zQ {q : Rul} {dayF : Int -> Bool} {en most : Int} {k : Int} {o l : List Int} (h : DatesP (cK q) dayF en most k o l) : DatesP q dayF en most k o l := by
 induction h with
 | over h => exact .over h
 | stop h hs => exact .stop h hs
 | more h hs hn ih => exact .more h hs ih
open Go.RowKit Go.Fr Go.Tab
section
variable {F : Nat -> Prop} {w0 : World} {B : LN} {H : LV} {S : LS}
open Go.Md
theorem aCb (r : Rul) (x : Av) (hfb : 0 <= r.aP2) (hl : LenL r) (hcap : CapL r x) (m : Nat) (hm : m <= 1000) {dayF dayU : Int -> Bool} (Φ : List Int -> Prop) (hdu : RightP r -> xX (aV (cK r)) dayU) (hfirst : RightP r -> nB r dayF) (hask : RightP r -> (∃ l, mP (cK r) dayU ((m : Int) + 1) l /\ ((l.length : Int) = (m : Int) + 1 \/ (0 < r.count /\ (l.length : Int) = r.count))) -> ∃ l, mP r dayF (m : Int) l /\ Φ l) (w : World) (hin : InL w r x) : Calls Tryz.prog 16 #[.agg (bG r x).toArray, iV m] w fun e w' => ∃ (b : Bool) (l : List Int) (p : Option Addr) (c : Nat), (b = true -> RightP r /\ mP r dayF (m : Int) l /\ Φ l) /\ (b = false -> l = []) /\ e = .returned (.tuple #[.slice p l.length c, .bool b, .bool true]) /\ gC w w' (.slice p l.length c) 2 1 l.length (l.map iV) := by
 refine aF (args := [.agg (bG r x).toArray, iV m]) (L := [(0, .agg (bG r x).toArray), (1, iV m)]) (N := 25) Tryz.func16 rfl rfl ble rfl (sS w) (g2 ?_)
 refine gL (fU 50 (cs := bG r x) dE rfl rfl rfl (fun o ho => rfl) ble (fun b1 hb1 => g8 ?_))
 refine rl ((dC 50 (cs := bG r x) rfl rfl (eD (bG r x) 0 ble) ble kR)) (gL (cbx (fun b : Bool => .bool b) (fun b => b = true -> RightP r) rfl (fun w_ s_ => pS r x hfb hl hcap w_ (InL.see s_ hin)) (fun rb hrp => ?_)))
 rcases bO ((!rb)) with hrb | hrb
 .refine rl ((gX rfl).to (v' := .bool true) (cB hrb)) (g8 ?_)
  refine bK rfl rfl ?_
  refine g9 ?_
  refine gK (L' := [(4, sN), (5, .bool false), (6, .bool true)]) kns (fun w s => s.aPm 13 2 1) (jZ (.inl rfl) rfl (aE rfl) (aE rfl) (aE rfl) fun w_ s_ => ⟨false, [], none, 0, fun h => (by cases h), fun _ => rfl, rfl, ?_⟩)
  exact s_.toNew (k := 13) rfl
 .have hR : RightP r := hrp (by simpa using hrb)
  refine rZ2 ((gX rfl).to (v' := .bool false) (cB hrb)) ?_
  refine rZ3 ((dC 50 (cs := bG r x) rfl rfl (eD (bG r x) 0 ble) ble kR)) ?_
  refine gL (cbx (fun b : Bool => .bool b) (fun b => b = true -> ∃ l, mP (cK r) dayU ((m : Int) + 1) l /\ ((l.length : Int) = (m : Int) + 1 \/ (0 < r.count /\ (l.length : Int) = r.count))) rfl (fun w_ s_ => aCd r x dayU (m : Int) hR hl (qZ (vL hl)) oM (hdu hR) w_ (InL.see s_ hin)) (fun sb hsp => g1 ?_))
  rcases bO ((!sb)) with hsb | hsb
  .refine sQ ((gX rfl).to (v' := .bool true) (cB hsb)) ?_
   refine gK (L' := [(4, sN), (5, .bool false), (6, .bool true)]) kns (fun w s => s.aPm 13 2 1) (jZ (.inl rfl) rfl (aE rfl) (aE rfl) (aE rfl) fun w_ s_ => ⟨false, [], none, 0, fun h => (by cases h), fun _ => rfl, rfl, ?_⟩)
   exact s_.toNew (k := 13) rfl
  .obtain ⟨l, href, hphi⟩ := hask hR (hsp (by simpa using hsb))
   refine rl ((gX rfl).to (v' := .bool false) (cB hsb)) (g3 ?_)
   refine aU rfl rfl ?_
   refine g4 ?_
   refine rl ((dC 50 (cs := bG r x) rfl rfl (eD (bG r x) 0 ble) ble kR)) (gL (crx (ι := Option Addr × Nat) 12 (fun y => .agg (bG r { x with p14 := y.1, c14 := y.2 }).toArray) (fun _ => True) (fun y => ⟨.slice y.1 r.wday.length y.2, 92, 2, r.wday.length, eB r.wday⟩) rfl (fun w_ s_ => (tR r x (by have := oC hR; omega) w_ (InL.see s_ hin)).mono fun e w' ⟨p, c, h1, h2⟩ => ⟨(p, c), trivial, h1, h2⟩) (fun | (pd, cd), _ => g1 ?_)))
   refine gL (crx (ι := Option Addr × Nat) 11 (fun y => .tuple #[.slice y.1 (l).length y.2, .bool true]) (fun _ => True) (fun y => ⟨.slice y.1 (l).length y.2, 2, 1, (l).length, ((l).map iV)⟩) rfl (fun w_ s_ => (hfirst hR m oM l href { x with p14 := pd, c14 := cd } w_ (InL.day (InL.see s_ hin) (aBc (ps := r.wday) s_ 12 rfl))).mono fun e w' ⟨p, c, h1, h2⟩ => ⟨(p, c), trivial, h1, h2⟩) (fun | (pf, cf), _ => g16 ?_))
   refine g1 ?_
   refine jZ (.inl rfl) rfl (aE rfl) (aE rfl) (aE rfl) fun w_ s_ => ⟨true, l, pf, cf, fun _ => ⟨hR, href, hphi⟩, fun h => (by cases h), rfl, ?_⟩
   exact s_.toNew (k := 11) rfl
end
open Go.Md Go.Tab Go.Fr
def wG (l : List Int) (day : Int) : Bool := l.length == 0 || l.any (· == Cal.ydayOf day + 1) || l.any (· == Cal.ydayOf day + 1 - (365 + Cal.lp (Cal.yearOf day)) - 1)
def nyF (y : Int) : Int := if y = 0 then -365 else Cal.daysTo y
def dZ (y aPq : Int) : Int := if (nyF y).tmod 7 - aPq + 7 < 7 then nyF y - ((nyF y).tmod 7 - aPq + 7) + (if 3 < (nyF y).tmod 7 - aPq + 7 then 7 else 0) else nyF y - ((nyF y).tmod 7 - aPq) + (if 3 < (nyF y).tmod 7 - aPq then 7 else 0)
def eL (day aPq : Int) : Int := if day < dZ (Cal.yearOf day) aPq then Cal.yearOf day - 1 else if dZ (Cal.yearOf day + 1) aPq <= day then Cal.yearOf day + 1 else Cal.yearOf day
def nT (day aPq : Int) : Int := (day - dZ (eL day aPq) aPq) / 7 + 1
def rZ (day aPq : Int) : Int := (dZ (eL day aPq + 1) aPq - dZ (eL day aPq) aPq) / 7
def wI (l : List Int) (aPq day : Int) : Bool := l.length == 0 || l.any (· == nT day aPq) || l.any (· == nT day aPq - rZ day aPq - 1)
def seH (y : Int) : Int := (19 * (y % 19) + y / 100 - y / 100 / 4 - (8 * (y / 100) + 13) / 25 + 15) % 30
def seL (y : Int) : Int := (32 + 2 * (y / 100 % 4) + 2 * (y % 100 / 4) - seH y - y % 100 % 4).tmod 7
def seM (y : Int) : Int := (y % 19 + 11 * seH y + 22 * seL y) / 451
def seN (y : Int) : Int := seH y + seL y - 7 * seM y + 114
def tT (y : Int) : Int := Cal.daysTo y + Cal.cum y (seN y / 31 - 1).toNat + (seN y % 31 + 1) - 1
def w9 (l : List Int) (day : Int) : Bool := l.length == 0 || l.any (· == day - tT (Cal.yearOf day))
def tI (day first many n : Int) : Bool := if 0 < n then (day - first) / 7 == n - 1 else (first + many - 1 - day) / 7 == -n - 1
def oA (day : Int) : Int := day - Cal.mdayOf day + 1
def iC (f : Int) (aPt : List Int) (day : Int) (p : Int × Int) : Bool := p.1 == day % 7 && (p.2 == 0 || decide (1 < f) || if f = 1 \/ 0 < aPt.length then tI day (oA day) (Cal.mdays (Cal.monthOf day) (Cal.yearOf day)) p.2 else tI day (Cal.daysTo (Cal.yearOf day)) (365 + Cal.lp (Cal.yearOf day)) p.2)
def pF (r : Rul) (day : Int) : Bool := r.wday.length == 0 || r.wday.any (iC r.aP2 r.aPt day)
def eC (r : Rul) (day : Int) : Bool := aI r.aPt (Cal.monthOf day) && (oJ r.aPu day && (wG r.aPw day && (wI r.aPx r.aPq day && (w9 r.aPy day && pF r day))))
theorem aKi {r : Rul} (hf : 1 < r.aP2) (hy : r.aPw.length = 0) (hw : r.aPx.length = 0) (he : r.aPy.length = 0) : eC r = eA r := by
 funext day
 unfold eC eA wG wI w9 pF aAo
 rw [hy, hw, he]
 have : r.wday.any (iC r.aP2 r.aPt day) = r.wday.any (fun p => p.1 == day % 7) := by
  congr 1
  funext p
  unfold iC
  rw [decide_eq_true hf]
  simp
 rw [this]
 simp
open Go.Md Go.Tab Go.Fr
def kS (y aPq : Int) : Int := if 4 <= fwk y aPq then fwk y aPq - 7 else fwk y aPq
theorem xA (y aPq : Int) : -3 <= kS y aPq /\ kS y aPq <= 3 := by
 have := pL y aPq
 unfold kS
 split <;> omega
theorem wU (y aPq : Int) : (aPq - ywd y - kS y aPq) % 7 = 0 := by
 unfold kS fwk
 split <;> omega
theorem aFv (y aPq : Int) : no1 y aPq = if 0 <= kS y aPq then kS y aPq else 0 := by
 have := pL y aPq
 unfold no1 kS
 split <;> split <;> omega
theorem aAh (y aPq : Int) : no1 y aPq - tZ y aPq = kS y aPq := by
 have := pL y aPq
 unfold tZ no1 kS
 split
 .rw [if_pos oM]; omega
 .rw [if_neg oM]; omega
theorem aIx {y aPq n : Int} (h : 0 < n) : aDj y aPq n = if n = 1 /\ kS y aPq < 0 then 0 else kS y aPq + (n - 1) * 7 := by
 have h1 := aAh y aPq
 have h2 := aFv y aPq
 unfold aDj
 split
 .rw [if_neg oM]; omega
 .split
  .rw [h2, if_neg oM]
  .rw [h2, if_pos oM]; omega
theorem xK (y aPq : Int) : o5 y aPq = kS y aPq + pB y aPq * 7 := by
 have h1 := aAh y aPq
 unfold o5; omega
theorem aCl (y aPq : Int) : pB y aPq = (365 + Cal.lp y - kS y aPq + 3) / 7 := by
 have h1 := pL y aPq
 have h2 := Cal.lp_01 y
 have h3 := aB0 y
 unfold pB wyl kS
 unfold fwk at *
 split <;> omega
theorem wQ {y aPq a i : Int} : i ∈ vW y aPq a ↔ a <= i /\ i < a + qL y aPq a := by
 have h := aJ6 y aPq a
 unfold vW
 rw [List.mem_map]
 constructor
 .rintro ⟨j, hj, rfl⟩
  have := List.mem_range.1 hj
  omega
 .rintro ⟨h1, h2⟩
  exact ⟨(i - a).toNat, List.mem_range.2 oM, by omega⟩
theorem aDp {y aPq n i : Int} (h : 0 < n) (h0 : 0 <= i) : i ∈ vW y aPq (aDj y aPq n) ↔ kS y aPq + (n - 1) * 7 <= i /\ i < kS y aPq + n * 7 := by
 have hb := xA y aPq
 have hm := wU y aPq
 rw [wQ, aIx h]
 unfold qL
 split
 .omega
 .omega
theorem aKd {y aPq i : Int} : i ∈ vW y aPq (o5 y aPq) ↔ kS y aPq + pB y aPq * 7 <= i /\ i < kS y aPq + pB y aPq * 7 + 7 := by
 have hm := wU y aPq
 rw [wQ, xK]
 unfold qL
 omega
theorem tS {y aPq : Int} (hy : 1 <= y) (hk : 0 <= aPq /\ aPq <= 6) : dZ y aPq = Cal.daysTo y + kS y aPq := by
 have hd : 0 <= Cal.daysTo y := by unfold Cal.daysTo; omega
 have e : nyF y = Cal.daysTo y := by unfold nyF; rw [if_neg oM]
 unfold dZ
 rw [e, Int.tmod_eq_emod_of_nonneg hd]
 unfold kS fwk ywd
 split <;> split <;> split <;> omega
theorem xB {y aPq : Int} (hy : 1 <= y) (hk : 0 <= aPq /\ aPq <= 6) : dZ (y + 1) aPq = dZ y aPq + 7 * pB y aPq := by
 have h1 := Cal.daysTo_succ y
 have h2 := wU y aPq
 have h3 := wU (y + 1) aPq
 have h4 := xA y aPq
 have h5 := xA (y + 1) aPq
 have h6 := aCl y aPq
 rw [tS hy hk, tS oM hk]
 unfold ywd at h2 h3
 omega
theorem aDm {y aPq day : Int} (hy : 1 <= y) (hk : 0 <= aPq /\ aPq <= 6) (h0 : Cal.daysTo y <= day) (h1 : day < dZ y aPq) : (day - dZ (y - 1) aPq) / 7 + 1 = (dZ (y - 1 + 1) aPq - dZ (y - 1) aPq) / 7 /\ 52 <= (dZ (y - 1 + 1) aPq - dZ (y - 1) aPq) / 7 := by
 rw [show y - 1 + 1 = y by omega]
 by_cases hy1 : y = 1
 .subst hy1
  have e0 : dZ 0 aPq = -365 - (6 - aPq) + (if 3 < 6 - aPq then 7 else 0) := by
   unfold dZ nyF
   rw [if_pos rfl, show ((-365 : Int).tmod 7) = -1 by decide, if_pos oM, show -1 - aPq + 7 = 6 - aPq by omega]
  have e1 : dZ 1 aPq = kS 1 aPq := by rw [tS (Int.le_refl _) hk, show Cal.daysTo 1 = 0 by decide]; omega
  have e2 : kS 1 aPq = if 4 <= aPq then aPq - 7 else aPq := by
   unfold kS fwk
   rw [show ywd 1 = 0 by decide, show (7 - 0 + aPq) % 7 = aPq by omega]
  have e3 : Cal.daysTo 1 = 0 := by decide
  rw [e1, e2] at h1
  rw [show (1 : Int) - 1 = 0 by decide, e0, e1, e2]
  rw [e3] at h0
  by_cases hc : 4 <= aPq
  .rw [if_pos hc] at h1; omega
  .rw [if_neg hc] at h1 ⊢
   split <;> omega
 .have h2 := xB (y := y - 1) oM hk
  rw [show y - 1 + 1 = y by omega] at h2
  have h3 := uH (y - 1) aPq
  have h4 := tS hy hk
  have h5 := xA y aPq
  omega
theorem aH0 {y aPq i : Int} (hy : 1 <= y) (hk : 0 <= aPq /\ aPq <= 6) (h0 : 0 <= i) (h1 : i < 365 + Cal.lp y) {l : List Int} (hl : ∀ x ∈ l, x ≠ 0 /\ -51 <= x /\ x <= 51) :
  i ∈ s7 y aPq l ↔ (∃ x ∈ l, x = nT (Cal.daysTo y + i) aPq) \/ (∃ x ∈ l, x = nT (Cal.daysTo y + i) aPq - rZ (Cal.daysTo y + i) aPq - 1) := by
 obtain ⟨hyr, hyd⟩ := Cal.year_unique (d := Cal.daysTo y + i) (y := y) (k := i) rfl h0 h1
 have hn := uH y aPq
 have hno := aCl y aPq
 have ho := xA y aPq
 have hone := tS hy hk
 have hsucc := xB hy hk
 have hlp := Cal.lp_01 y
 have hn1 := aFv y aPq
 have mA : i ∈ kU y aPq l ↔ ∃ x ∈ l, 0 < wkN y aPq x /\ wkN y aPq x <= pB y aPq /\ kS y aPq + (wkN y aPq x - 1) * 7 <= i /\ i < kS y aPq + wkN y aPq x * 7 := by
  unfold kU
  rw [List.mem_flatMap]
  refine ⟨fun ⟨x, hx, h⟩ => ?_, fun ⟨x, hx, h1, h2, h3⟩ => ⟨x, hx, ?_⟩⟩
  .unfold jW at h
   split at h
   .rename_i hc
    exact ⟨x, hx, hc.1, hc.2, (aDp hc.1 h0).1 h⟩
   .cases h
  .unfold jW
   rw [if_pos ⟨h1, h2⟩]
   exact (aDp h1 h0).2 h3
 have mB : i ∈ kN y aPq l ↔ (1 : Int) ∈ l /\ kS y aPq + pB y aPq * 7 <= i := by
  unfold kN
  have he : l.any (· == 1) = true ↔ (1 : Int) ∈ l := by rw [List.any_eq_true]; exact ⟨fun ⟨x, hx, e⟩ => by have := beq_iff_eq.1 e; subst this; exact hx, fun h => ⟨1, h, rfl⟩⟩
  by_cases hc : l.any (· == 1) = true /\ o5 y aPq < 365 + Cal.lp y
  .rw [if_pos hc, aKd]
   exact ⟨fun h => ⟨he.1 hc.1, h.1⟩, fun h => ⟨h.2, by omega⟩⟩
  .rw [if_neg hc]
   refine Iff.intro (fun h => absurd h List.not_mem_nil) fun h => absurd ⟨he.2 h.1, ?_⟩ hc
   rw [xK]; omega
 have mC : i ∈ oN y aPq l ↔ (-1 : Int) ∈ l /\ i < kS y aPq := by
  unfold oN
  have he : l.any (· == -1) = true ↔ (-1 : Int) ∈ l := by rw [List.any_eq_true]; exact ⟨fun ⟨x, hx, e⟩ => by have := beq_iff_eq.1 e; subst this; exact hx, fun h => ⟨-1, h, rfl⟩⟩
  by_cases hc : no1 y aPq ≠ 0 /\ l.any (· == -1) = true
  .rw [if_pos hc, List.mem_map]
   constructor
   .rintro ⟨j, hj, rfl⟩
    have := List.mem_range.1 hj
    exact ⟨he.1 hc.2, by split at hn1 <;> omega⟩
   .rintro ⟨_, h⟩
    exact ⟨i.toNat, List.mem_range.2 (by split at hn1 <;> omega), by omega⟩
  .rw [if_neg hc]
   refine Iff.intro (fun h => absurd h List.not_mem_nil) fun h => absurd ⟨?_, he.2 h.1⟩ hc
   split at hn1 <;> omega
 unfold s7
 rw [List.mem_append, List.mem_append, mA, mB, mC]
 have hY : ∀ Y, eL (Cal.daysTo y + i) aPq = Y -> nT (Cal.daysTo y + i) aPq = (Cal.daysTo y + i - dZ Y aPq) / 7 + 1 /\ rZ (Cal.daysTo y + i) aPq = (dZ (Y + 1) aPq - dZ Y aPq) / 7 := fun Y h => by unfold nT rZ; rw [h]; exact ⟨rfl, rfl⟩
 by_cases c1 : Cal.daysTo y + i < dZ y aPq
 .obtain ⟨n1, n2⟩ := hY (y - 1) (by unfold eL; rw [hyr, if_pos c1])
  obtain ⟨b1, b2⟩ := aDm hy hk oM c1
  rw [n1, n2, b1]
  constructor
  .rintro ((⟨x, hx, g1, g2, g3, g4⟩ | ⟨hx, g⟩) | ⟨hx, g⟩)
   .omega
   .omega
   .exact .inr ⟨-1, hx, by omega⟩
  .rintro (⟨x, hx, g⟩ | ⟨x, hx, g⟩)
   .have := hl x hx; omega
   .exact .inr ⟨by rw [show (-1 : Int) = x by omega]; exact hx, by omega⟩
 .by_cases c2 : dZ (y + 1) aPq <= Cal.daysTo y + i
  .obtain ⟨n1, n2⟩ := hY (y + 1) (by unfold eL; rw [hyr, if_neg c1, if_pos c2])
   have hs2 := xB (y := y + 1) oM hk
   have hn2 := uH (y + 1) aPq
   rw [n1, n2]
   have e1 : (Cal.daysTo y + i - dZ (y + 1) aPq) / 7 + 1 = 1 := by omega
   have e2 : (dZ (y + 1 + 1) aPq - dZ (y + 1) aPq) / 7 = pB (y + 1) aPq := by omega
   rw [e1, e2]
   constructor
   .rintro ((⟨x, hx, g1, g2, g3, g4⟩ | ⟨hx, g⟩) | ⟨hx, g⟩)
    .omega
    .exact .inl ⟨1, hx, rfl⟩
    .omega
   .rintro (⟨x, hx, g⟩ | ⟨x, hx, g⟩)
    .subst g; exact .inl (.inr ⟨hx, by omega⟩)
    .have := hl x hx; omega
  .obtain ⟨n1, n2⟩ := hY y (by unfold eL; rw [hyr, if_neg c1, if_neg c2])
   rw [n1, n2]
   have e1 : (Cal.daysTo y + i - dZ y aPq) / 7 + 1 = (i - kS y aPq) / 7 + 1 := by rw [hone]; congr 2; omega
   have e2 : (dZ (y + 1) aPq - dZ y aPq) / 7 = pB y aPq := by omega
   rw [e1, e2]
   constructor
   .rintro ((⟨x, hx, g1, g2, g3, g4⟩ | ⟨hx, g⟩) | ⟨hx, g⟩)
    .unfold wkN at g1 g2 g3 g4
     split at g1
     .rename_i hneg
      rw [if_pos hneg] at g2 g3 g4
      exact .inr ⟨x, hx, by omega⟩
     .rename_i hneg
      rw [if_neg hneg] at g2 g3 g4
      exact .inl ⟨x, hx, by omega⟩
    .omega
    .omega
   .rintro (⟨x, hx, g⟩ | ⟨x, hx, g⟩)
    .have hxb := hl x hx
     have hp : ¬ x < 0 := by omega
     refine .inl (.inl ⟨x, hx, ?_⟩)
     unfold wkN
     rw [if_neg hp]
     omega
    .have hxb := hl x hx
     have hp : x < 0 := by omega
     refine .inl (.inl ⟨x, hx, ?_⟩)
     unfold wkN
     rw [if_pos hp]
     omega
theorem aEv {l : List Int} {v : Int} : l.any (· == v) = true ↔ ∃ x ∈ l, x = v := by
 rw [List.any_eq_true]
 exact ⟨fun ⟨x, hx, e⟩ => ⟨x, hx, beq_iff_eq.1 e⟩, fun ⟨x, hx, e⟩ => ⟨x, hx, beq_iff_eq.2 e⟩⟩
theorem aK0 {y aPq i : Int} (hy : 1 <= y) (hk : 0 <= aPq /\ aPq <= 6) (h0 : 0 <= i) (h1 : i < 365 + Cal.lp y) {l : List Int} (hl : ∀ x ∈ l, x ≠ 0 /\ -51 <= x /\ x <= 51) : tQ l (sM l aPq y) i = !wI l aPq (Cal.daysTo y + i) := by
 unfold tQ wI
 by_cases hz : l.length = 0
 .rw [hz]; rfl
 .have hny := aAs y
  have hlp := Cal.lp_01 y
  have e1 : (l.length != 0) = true := bne_iff_ne.2 hz
  have e2 : (l.length == 0) = false := beq_eq_false_iff_ne.2 hz
  rw [e1, e2, Bool.true_and, Bool.false_or]
  have hm : (sM l aPq y).getD i.toNat 0 = 0 ↔ i ∉ s7 y aPq l := by
   unfold sM
   rw [if_neg hz]
   have hpos : ∀ j ∈ s7 y aPq l, 0 <= j := by
    intro j hj
    unfold s7 at hj
    rw [List.mem_append, List.mem_append] at hj
    rcases hj with (hj | hj) | hj
    .unfold kU at hj
     obtain ⟨x, _, hj⟩ := List.mem_flatMap.1 hj
     unfold jW at hj
     split at hj
     .rename_i hc
      have := (aGe hc.1 hc.2).1
      have := (wQ.1 hj).1
      omega
     .cases hj
    .unfold kN at hj
     split at hj
     .have := zU y aPq
      have := (wQ.1 hj).1
      omega
     .cases hj
    .unfold oN at hj
     split at hj
     .obtain ⟨z, _, rfl⟩ := List.mem_map.1 hj
      omega
     .cases hj
   have := sR (n := nY y) (k := i.toNat) (is := s7 y aPq l) oM hpos
   rw [Int.toNat_of_nonneg h0] at this
   exact this
  have ht := aH0 hy hk h0 h1 hl
  rw [<- aEv, <- aEv] at ht
  cases hb : (l.any (· == nT (Cal.daysTo y + i) aPq) || l.any (· == nT (Cal.daysTo y + i) aPq - rZ (Cal.daysTo y + i) aPq - 1)) with
  | true =>
   rw [Bool.or_eq_true] at hb
   have := ht.2 hb
   exact beq_eq_false_iff_ne.2 fun h => hm.1 h this
  | false =>
   rw [Bool.or_eq_false_iff] at hb
   have : i ∉ s7 y aPq l := fun h => by
    rcases ht.1 h with h | h
    .rw [hb.1] at h; cases h
    .rw [hb.2] at h; cases h
   exact beq_iff_eq.2 (hm.2 this)
theorem aKz {l : List Int} {y i : Int} (h0 : 0 <= i) (h1 : i < 365 + Cal.lp y) : nW l y i = !wG l (Cal.daysTo y + i) := by
 obtain ⟨hyr, hyd⟩ := Cal.year_unique (d := Cal.daysTo y + i) (y := y) (k := i) rfl h0 h1
 unfold nW wG
 rw [hyr, hyd, decide_eq_true h1, decide_eq_false (show ¬ 365 + Cal.lp y <= i by omega), show -(365 + Cal.lp y) + i = i + 1 - (365 + Cal.lp y) - 1 by omega]
 generalize l.any (· == i + 1) = p
 generalize l.any (· == i + 1 - (365 + Cal.lp y) - 1) = q
 cases l.length <;> cases p <;> cases q <;> rfl
open Go.Md Go.Tab Go.Fr
theorem wS {y first last i : Int} {p : Int × Int} (hp : 0 <= p.1 /\ p.1 <= 6) (hn : p.2 ≠ 0) : i ∈ dN y first last p ↔ first <= i /\ i <= last /\ p.1 = (Cal.daysTo y + i) % 7 /\ tI (Cal.daysTo y + i) (Cal.daysTo y + first) (last + 1 - first) p.2 = true := by
 have hm : i ∈ dN y first last p ↔ i = nwI y first last p /\ first <= i /\ i <= last := by
  unfold dN
  by_cases hc : first <= nwI y first last p /\ nwI y first last p <= last
  .rw [if_pos hc, List.mem_singleton]
   exact ⟨fun h => ⟨h, by omega⟩, fun h => h.1⟩
  .rw [if_neg hc]
   exact ⟨fun h => absurd h List.not_mem_nil, fun h => absurd oM hc⟩
 rw [hm]
 obtain ⟨a, n⟩ := p
 simp only at hp hn ⊢
 unfold tI nwI wdm ywd
 by_cases h : n < 0
 .simp only [if_pos h, if_neg (show ¬ 0 < n by omega), beq_iff_eq]
  omega
 .simp only [if_neg h, if_pos (show 0 < n by omega), beq_iff_eq]
  omega
theorem aDh {y i x : Int} (hx : 1 <= x /\ x <= 12) (h0 : 0 <= i) (h1 : i < 365 + Cal.lp y) : ((jQ y x).1 <= i /\ i <= (jQ y x).2 - 1) ↔ Cal.monthOf (Cal.daysTo y + i) = x := by
 obtain ⟨j, hj, c1, c2⟩ := Cal.mon_ex h0 h1
 obtain ⟨_, _, d3, _⟩ := Cal.date_unique hj c1 c2
 obtain ⟨k, rfl⟩ : ∃ k : Nat, x = (k : Int) + 1 := ⟨(x - 1).toNat, by omega⟩
 unfold jQ
 simp only
 rw [show ((k : Int) + 1 - 1).toNat = k by omega, show ((k : Int) + 1).toNat = k + 1 by omega, pX oM, pX oM, d3]
 constructor
 .rintro ⟨a, b⟩
  rcases Nat.lt_trichotomy j k with h | h | h
  .have := Cal.cum_mono y (j + 1) k oM; omega
  .omega
  .have := Cal.cum_mono y (k + 1) j oM; omega
 .intro h
  have : j = k := by omega
  subst this
  omega
theorem aJr {y i : Int} (h0 : 0 <= i) (h1 : i < 365 + Cal.lp y) : oA (Cal.daysTo y + i) = Cal.daysTo y + (jQ y (Cal.monthOf (Cal.daysTo y + i))).1 /\ Cal.mdays (Cal.monthOf (Cal.daysTo y + i)) (Cal.yearOf (Cal.daysTo y + i)) = (jQ y (Cal.monthOf (Cal.daysTo y + i))).2 - (jQ y (Cal.monthOf (Cal.daysTo y + i))).1 := by
 obtain ⟨j, hj, c1, c2⟩ := Cal.mon_ex h0 h1
 obtain ⟨d1, _, d3, d4⟩ := Cal.date_unique hj c1 c2
 have hs : Cal.cum y (j + 1) = Cal.cum y j + Cal.mdays ((j : Int) + 1) y := rfl
 unfold jQ oA
 simp only
 rw [d1, d3, d4, show ((j : Int) + 1 - 1).toNat = j by omega, show ((j : Int) + 1).toNat = j + 1 by omega, pX oM, pX oM]
 constructor <;> omega
def vR (f : Int) (aPt : List Int) (day : Int) (p : Int × Int) : Bool := p.1 == day % 7 && (if f = 1 \/ 0 < aPt.length then tI day (oA day) (Cal.mdays (Cal.monthOf day) (Cal.yearOf day)) p.2 else tI day (Cal.daysTo (Cal.yearOf day)) (365 + Cal.lp (Cal.yearOf day)) p.2)
theorem aKx {f : Int} {aPt : List Int} {l : List (Int × Int)} {y m i : Int} (h0 : 0 <= i) (h1 : i < 365 + Cal.lp y) (hl : ∀ p ∈ l, (0 <= p.1 /\ p.1 <= 6) /\ p.2 ≠ 0) (hf : f = 0 \/ f = 1) (hmo : ∀ x ∈ aPt, 1 <= x /\ x <= 12) (hin : aI aPt (Cal.monthOf (Cal.daysTo y + i)) = true) (hm : f = 1 -> Cal.monthOf (Cal.daysTo y + i) = m) :
  pI (nwM f aPt l y m) i = !(l.length == 0 || l.any (vR f aPt (Cal.daysTo y + i))) := by
 have hlp := Cal.lp_01 y
 have hmb := Cal.month_bd (Cal.daysTo y + i)
 obtain ⟨hyr, hyd⟩ := Cal.year_unique (d := Cal.daysTo y + i) (y := y) (k := i) rfl h0 h1
 by_cases hz : l.length = 0
 .unfold pI nwM
  rw [if_pos hz, hz]; rfl
 have hlen := aGf hz f aPt y m
 have e2 : (l.length == 0) = false := beq_eq_false_iff_ne.2 hz
 unfold pI
 rw [show ((nwM f aPt l y m).length != 0) = true from bne_iff_ne.2 oM, Bool.true_and, e2, Bool.false_or]
 have hpos : ∀ j ∈ (cD f aPt y m).flatMap (eH y l), 0 <= j := by
  intro j hj
  obtain ⟨q, hq, hj⟩ := List.mem_flatMap.1 hj
  unfold eH at hj
  obtain ⟨p, hp, hj⟩ := List.mem_flatMap.1 hj
  have h3 := ((wS (hl p hp).1 (hl p hp).2).1 hj).1
  have : 0 <= q.1 := by
   unfold cD at hq
   split at hq
   .split at hq
    .obtain ⟨x, hx, rfl⟩ := List.mem_map.1 hq
     exact (tG y (hmo x hx)).1
    .rw [List.mem_singleton] at hq; subst hq; exact Int.le_refl _
   .rw [List.mem_singleton] at hq
    subst hq
    exact (tG y (by rw [<- hm oM]; omega)).1
  omega
 have hget : (nwM f aPt l y m).getD i.toNat 0 = 0 ↔ i ∉ (cD f aPt y m).flatMap (eH y l) := by
  unfold nwM
  rw [if_neg hz]
  have := sR (n := (365 + Cal.lp y).toNat) (k := i.toNat) (is := (cD f aPt y m).flatMap (eH y l)) oM hpos
  rw [Int.toNat_of_nonneg h0] at this
  exact this
 obtain ⟨g1, g2⟩ := aJr h0 h1
 have hrm := fun x hx => aDh (x := x) (y := y) (i := i) hx h0 h1
 have hmem : i ∈ (cD f aPt y m).flatMap (eH y l) ↔ l.any (vR f aPt (Cal.daysTo y + i)) = true := by
  rw [List.mem_flatMap, List.any_eq_true]
  have one : ∀ x, 1 <= x /\ x <= 12 -> Cal.monthOf (Cal.daysTo y + i) = x -> (f = 1 \/ 0 < aPt.length) -> (i ∈ eH y l (jQ y x) ↔ ∃ p ∈ l, vR f aPt (Cal.daysTo y + i) p = true) := by
   intro x hx e hc
   unfold eH
   rw [List.mem_flatMap]
   refine exists_congr fun p => and_congr_right fun hp => ?_
   rw [wS (hl p hp).1 (hl p hp).2]
   unfold vR
   rw [if_pos hc, Bool.and_eq_true, beq_iff_eq, g1, g2, e, show (jQ y x).2 - 1 + 1 - (jQ y x).1 = (jQ y x).2 - (jQ y x).1 by omega]
   have := (hrm x hx).2 e
   exact ⟨fun h => ⟨h.2.2.1, h.2.2.2⟩, fun h => ⟨this.1, this.2, h.1, h.2⟩⟩
  unfold cD
  by_cases hf0 : f = 0
  .rw [if_pos hf0]
   by_cases hml : aPt.length ≠ 0
   .rw [if_pos hml]
    have hmem : Cal.monthOf (Cal.daysTo y + i) ∈ aPt := by
     unfold aI at hin
     rw [show (aPt.length == 0) = false from beq_eq_false_iff_ne.2 hml, Bool.false_or] at hin
     obtain ⟨x, hx, e⟩ := List.any_eq_true.1 hin
     rw [<- beq_iff_eq.1 e]; exact hx
    constructor
    .rintro ⟨q, hq, h⟩
     obtain ⟨x, hx, rfl⟩ := List.mem_map.1 hq
     have hx2 := hmo x hx
     have e : Cal.monthOf (Cal.daysTo y + i) = x := by
      unfold eH at h
      obtain ⟨p, hp, h⟩ := List.mem_flatMap.1 h
      have h3 := (wS (hl p hp).1 (hl p hp).2).1 h
      exact (hrm x hx2).1 ⟨h3.1, h3.2.1⟩
     exact (one x hx2 e (.inr (Nat.pos_of_ne_zero hml))).1 h
    .intro h
     exact ⟨_, List.mem_map.2 ⟨_, hmem, rfl⟩, (one _ oM rfl (.inr (Nat.pos_of_ne_zero hml))).2 h⟩
   .rw [if_neg hml]
    have hc : ¬ (f = 1 \/ 0 < aPt.length) := by omega
    have hone : i ∈ eH y l (0, 365 + Cal.lp y) ↔ ∃ p ∈ l, vR f aPt (Cal.daysTo y + i) p = true := by
     unfold eH
     rw [List.mem_flatMap]
     refine exists_congr fun p => and_congr_right fun hp => ?_
     rw [wS (hl p hp).1 (hl p hp).2]
     unfold vR
     simp only
     rw [if_neg hc, Bool.and_eq_true, beq_iff_eq, hyr, Int.add_zero, show 365 + Cal.lp y - 1 + 1 - 0 = 365 + Cal.lp y by omega]
     exact ⟨fun h => ⟨h.2.2.1, h.2.2.2⟩, fun h => ⟨h0, by omega, h.1, h.2⟩⟩
    refine Iff.trans ⟨?_, ?_⟩ hone
    .rintro ⟨q, hq, h⟩
     rw [List.mem_singleton] at hq
     subst hq; exact h
    .exact fun h => ⟨_, List.mem_singleton.2 rfl, h⟩
  .rw [if_neg hf0]
   refine Iff.trans ⟨?_, ?_⟩ (one m (by rw [<- hm oM]; omega) (hm oM) (.inl oM))
   .rintro ⟨q, hq, h⟩
    rw [List.mem_singleton] at hq
    subst hq; exact h
   .exact fun h => ⟨_, List.mem_singleton.2 rfl, h⟩
 cases hb : l.any (vR f aPt (Cal.daysTo y + i)) with
 | true => exact beq_eq_false_iff_ne.2 fun h => hget.1 h (hmem.2 hb)
 | false => exact beq_iff_eq.2 (hget.2 fun h => by rw [hmem.1 h] at hb; cases hb)
theorem aOr {f : Int} {aPt : List Int} {l : List (Int × Int)} {y m i : Int} (h0 : 0 <= i) (h1 : i < 365 + Cal.lp y) (hl : ∀ p ∈ l, (0 <= p.1 /\ p.1 <= 6) /\ (p.2 = 0 ↔ (l.getD 0 (0, 0)).2 = 0)) (hf : f = 0 \/ f = 1) (hmo : ∀ x ∈ aPt, 1 <= x /\ x <= 12) (hin : aI aPt (Cal.monthOf (Cal.daysTo y + i)) = true) (hm : f = 1 -> Cal.monthOf (Cal.daysTo y + i) = m) :
  (rM ((l.filter (bR f)).map Prod.fst) y i || pI (nwM f aPt (l.filter fun x => !bR f x) y m) i) = !(l.length == 0 || l.any (iC f aPt (Cal.daysTo y + i))) := by
 have hf1 : decide (1 < f) = false := decide_eq_false oM
 by_cases hz : (l.getD 0 (0, 0)).2 = 0
 .have e1 : l.filter (bR f) = l := List.filter_eq_self.2 fun x hx => by unfold bR; rw [((hl x hx).2).2 hz]; rfl
  have e2 : l.filter (fun x => !bR f x) = [] := List.filter_eq_nil_iff.2 fun x hx => by unfold bR; rw [((hl x hx).2).2 hz]; simp
  rw [e1, e2, show pI (nwM f aPt [] y m) i = false by unfold pI nwM; rfl, Bool.or_false]
  unfold rM
  rw [List.length_map, aJn, List.any_map]
  congr 2
  rw [Bool.eq_iff_iff, List.any_eq_true, List.any_eq_true]
  refine exists_congr fun p => and_congr_right fun hp => ?_
  unfold iC ywd
  rw [((hl p hp).2).2 hz]
  show ((p.1 == _) = true) ↔ _
  rw [show (Cal.daysTo y % 7 + i) % 7 = (Cal.daysTo y + i) % 7 by omega]
  simp
 .have e1 : l.filter (bR f) = [] := List.filter_eq_nil_iff.2 fun x hx => by
   unfold bR
   rw [hf1, Bool.or_false, beq_iff_eq]
   exact fun h => hz (((hl x hx).2).1 h)
  have e2 : l.filter (fun x => !bR f x) = l := List.filter_eq_self.2 fun x hx => by
   unfold bR
   rw [hf1, Bool.or_false, show (x.2 == 0) = false from beq_eq_false_iff_ne.2 fun h => hz (((hl x hx).2).1 h)]; rfl
  rw [e1, e2, show rM (List.map Prod.fst ([] : List (Int × Int))) y i = false from rfl, Bool.false_or, aKx h0 h1 (fun p hp => ⟨(hl p hp).1, fun h => hz (((hl p hp).2).1 h)⟩) hf hmo hin hm]
  congr 2
  rw [Bool.eq_iff_iff, List.any_eq_true, List.any_eq_true]
  refine exists_congr fun p => and_congr_right fun hp => ?_
  unfold iC vR
  rw [hf1, show (p.2 == 0) = false from beq_eq_false_iff_ne.2 fun h => hz (((hl p hp).2).1 h), Bool.false_or, Bool.false_or]
open Go.Md Go.Tab Go.Fr
def nH (y : Nat) : Nat := (19 * (y % 19) + y / 100 + 3015 - y / 100 / 4 - (8 * (y / 100) + 13) / 25) % 30
def nL (y : Nat) : Nat := (32 + 2 * (y / 100 % 4) + 2 * (y % 100 / 4) - nH y - y % 100 % 4) % 7
def nM (y : Nat) : Nat := (y % 19 + 11 * nH y + 22 * nL y) / 451
def nS (y : Nat) : Nat := nH y + nL y + 100 - 7 * nM y
def nI2 (y : Nat) : Nat := nH y + (nH y / 28) * (nH y / 28) * (29 / (nH y + 1)) * ((21 - y % 19) / 11) - nH y / 28
def nJ (y : Nat) : Nat := (y + y / 4 + nI2 y + 2 + y / 100 / 4 - y / 100) % 7
def chkN (y : Nat) : Bool := nS y == 100 + 6 + nI2 y - nJ y
theorem aGu : ((List.range 100).all fun a => (List.range 100).all fun b => chkN (a * 100 + b + 1)) = true := by decide +kernel
theorem aFu (y : Nat) (h : y <= 10000) : ((nH y : Nat) : Int) = seH y /\ ((nH y : Nat) : Int) = eaH y := by
 unfold nH seH eaH
 rw [show (y : Int) % 19 = ((y % 19 : Nat) : Int) by omega, show (y : Int) / 100 = ((y / 100 : Nat) : Int) by omega]
 have ha : y % 19 < 19 := by omega
 have hb : y / 100 <= 100 := by omega
 generalize y % 19 = a at ha
 generalize y / 100 = b at hb
 rw [show (8 * (b : Int) + 13) / 25 = (((8 * b + 13) / 25 : Nat) : Int) by omega, show (b : Int) / 4 = ((b / 4 : Nat) : Int) by omega]
 have hc : (8 * b + 13) / 25 <= 33 := by omega
 have hd : b / 4 <= 25 := by omega
 generalize (8 * b + 13) / 25 = c at hc
 generalize b / 4 = d at hd
 omega
theorem aJ2 (y : Nat) : nH y < 30 := by unfold nH; omega
theorem aL6 (y : Nat) (h : y <= 10000) : ((nL y : Nat) : Int) = seL y := by
 have h1 := (aFu y h).1
 have h2 := aJ2 y
 unfold nL seL
 rw [<- h1, show (y : Int) / 100 % 4 = ((y / 100 % 4 : Nat) : Int) by omega, show (y : Int) % 100 / 4 = ((y % 100 / 4 : Nat) : Int) by omega, show (y : Int) % 100 % 4 = ((y % 100 % 4 : Nat) : Int) by omega]
 have ha : y % 100 % 4 < 4 := by omega
 generalize y / 100 % 4 = a
 generalize y % 100 / 4 = b
 generalize y % 100 % 4 = c at ha
 generalize nH y = k at h2
 rw [Int.tmod_eq_emod_of_nonneg oM]
 omega
theorem aOh (y : Nat) (h : y <= 10000) : ((nM y : Nat) : Int) = seM y := by
 have h1 := (aFu y h).1
 have h2 := aL6 y h
 unfold nM seM
 rw [<- h1, <- h2]
 omega
theorem aMb (y : Nat) (h : y <= 10000) : ((nI2 y : Nat) : Int) = eaI y := by
 have h1 := (aFu y h).2
 have h2 := aJ2 y
 unfold nI2 eaI
 rw [<- h1]
 have hg : (21 - y % 19) / 11 = 0 \/ (21 - y % 19) / 11 = 1 := by omega
 have hg2 : (21 - (y : Int) % 19) / 11 = (((21 - y % 19) / 11 : Nat) : Int) := by omega
 rw [hg2]
 generalize (21 - y % 19) / 11 = g at hg
 generalize nH y = k at h2
 rcases (show k < 28 \/ k = 28 \/ k = 29 by omega) with h3 | h3 | h3
 .rw [show k / 28 = 0 by omega, show (k : Int) / 28 = 0 by omega]; omega
 .subst h3; rcases hg with rfl | rfl <;> decide
 .subst h3; rcases hg with rfl | rfl <;> decide
theorem aOl (y : Nat) (h : y <= 10000) : ((nJ y : Nat) : Int) = eaJ y := by
 have h1 := aMb y h
 unfold nJ eaJ
 rw [<- h1]
 omega
theorem aMk {y : Int} (h1 : 1 <= y) (h2 : y <= 9999) : seN y = 120 + eaP y := by
 obtain ⟨n, rfl⟩ : ∃ n : Nat, y = (n : Int) := ⟨y.toNat, by omega⟩
 have hc := List.all_eq_true.1 aGu ((n - 1) / 100) (List.mem_range.2 oM)
 have hc := List.all_eq_true.1 hc ((n - 1) % 100) (List.mem_range.2 oM)
 rw [show (n - 1) / 100 * 100 + (n - 1) % 100 + 1 = n by omega] at hc
 unfold chkN nS at hc
 have hc := beq_iff_eq.1 hc
 have e1 := aFu n oM
 have e2 := aL6 n oM
 have e3 := aOh n oM
 have e4 := aMb n oM
 have e5 := aOl n oM
 have hb := aJ2 n
 have hl : nL n < 7 := by unfold nL; omega
 have hm : nM n <= 1 := by unfold nM; omega
 have hi := aKf n
 have hj : 0 <= eaJ n /\ eaJ n < 7 := by unfold eaJ; omega
 unfold seN eaP
 omega
theorem aNd {y : Int} (h1 : 1 <= y) (h2 : y <= 9999) : tT y = Cal.daysTo y + eyd y := by
 have hs := aMk h1 h2
 have hb := yH y
 have hc2 := aIm y
 have hc3 := aL3 y
 rw [aJ0]
 unfold tT
 rcases (show seN y / 31 = 3 \/ seN y / 31 = 4 by omega) with h | h
 .rw [h, show ((3 : Int) - 1).toNat = 2 by decide, hc2]; omega
 .rw [h, show ((4 : Int) - 1).toNat = 3 by decide, hc3]; omega
theorem aKr {l : List Int} {y i : Int} (h1 : 1 <= y) (h2 : y <= 9999) (h0 : 0 <= i) (hi : i < 365 + Cal.lp y) (hl : ∀ x ∈ l, -80 <= x) : u9 l (uJ l y) i = !w9 l (Cal.daysTo y + i) := by
 obtain ⟨hyr, _⟩ := Cal.year_unique (d := Cal.daysTo y + i) (y := y) (k := i) rfl h0 hi
 unfold u9 w9
 by_cases hz : l.length = 0
 .rw [hz]; rfl
 .have e2 : (l.length == 0) = false := beq_eq_false_iff_ne.2 hz
  rw [show (l.length != 0) = true from bne_iff_ne.2 hz, e2, Bool.true_and, Bool.false_or, hyr, aNd h1 h2]
  have hny := aAs y
  have hb := aIk y
  have hm : (uJ l y).getD i.toNat 0 = 0 ↔ i ∉ l.map (eyd y + ·) := by
   unfold uJ
   rw [if_neg hz]
   have := sR (n := nY y) (k := i.toNat) (is := l.map (eyd y + ·)) oM (fun j hj => by
    obtain ⟨x, hx, rfl⟩ := List.mem_map.1 hj
    have := hl x hx
    omega)
   rw [Int.toNat_of_nonneg h0] at this
   exact this
  have he : i ∈ l.map (eyd y + ·) ↔ l.any (· == Cal.daysTo y + i - (Cal.daysTo y + eyd y)) = true := by
   rw [aEv, List.mem_map]
   refine exists_congr fun x => and_congr_right fun _ => ?_
   omega
  cases hc : l.any (· == Cal.daysTo y + i - (Cal.daysTo y + eyd y)) with
  | true => exact beq_eq_false_iff_ne.2 fun h => hm.1 h (he.2 hc)
  | false => exact beq_iff_eq.2 (hm.2 fun h => by rw [he.1 h] at hc; cases hc)
open Go.Md Go.Tab Go.Fr
def wR (r : Rul) : Int -> List Int := sM r.aPx r.aPq
def nR (r : Rul) : Int -> Int -> List Int := nwM r.aP2 (bZ (aD r)) ((bP (aD r)).filter fun x => !bR r.aP2 x)
def eR (r : Rul) : Int -> List Int := uJ r.aPy
abbrev ruG (r : Rul) : Ru := bE (aD r) (wR r) (nR r) (eR r)
theorem aBi {r : Rul} (hf : r.aP2 = 0 \/ r.aP2 = 1) : bP (aD r) = r.wday := by
 unfold bP
 rw [if_neg (fun h => by have h2 : r.aP2 = 2 := h.2; omega)]; rfl
theorem aMa {r : Rul} (rp : RightP r) : ∀ x ∈ r.aPx, x ≠ 0 /\ -51 <= x /\ x <= 51 := fun x hx => by
 rcases kT (r := r) rp.t3.h13 oM x hx with h | ⟨_, h⟩ <;> omega
theorem aL7 {r : Rul} (rp : RightP r) : ∀ x ∈ r.aPy, -80 <= x /\ x <= 200 := fun x hx => by
 obtain ⟨i, hi, rfl⟩ := List.mem_iff_getElem.1 hx
 have := rp.t4 i _ (List.getElem?_eq_getElem hi)
 exact ⟨this.1, this.2.1⟩
theorem aJ4 {r : Rul} (rp : RightP r) : ∀ p ∈ r.wday, (0 <= p.1 /\ p.1 <= 6) /\ (p.2 = 0 ↔ (r.wday.getD 0 (0, 0)).2 = 0) /\ (-nU r <= p.2 /\ p.2 <= nU r) := fun p hp => by
 obtain ⟨i, hi, rfl⟩ := List.mem_iff_getElem.1 hp
 have h := rp.t6 i _ (List.getElem?_eq_getElem hi)
 have h0 : 0 < r.wday.length := by omega
 refine ⟨h.2.1, ?_, h.2.2.1⟩
 have e : r.wday.getD 0 (0, 0) = r.wday[0] := by rw [List.getD_eq_getElem?_getD, List.getElem?_eq_getElem h0]; rfl
 rw [e]
 exact h.1 _ (List.getElem?_eq_getElem h0)
theorem aN1 {r : Rul} {s : It} (rp : RightP r) (hf : r.aP2 = 0 \/ r.aP2 = 1) (hi : ItOk (ruG r) s) {i : Int} (h0 : 0 <= i) (h1 : i < 365 + Cal.lp s.ly) (hm : r.aP2 = 1 -> Cal.monthOf (Cal.daysTo s.ly + i) = s.lm) : bad (ruG r) s i = !eC (aV r) (Cal.daysTo s.ly + i) := by
 obtain ⟨e1, e2, e3, _⟩ := rL r
 obtain ⟨_, f2, _, f4, _, _, f7, f8, f9⟩ := cU r
 have hy := hi.y
 have hly := hi.ly
 have hlp := Cal.lp_01 s.ly
 have hA : wK (ruG r).aPt s.ly i = !aI (bZ (aD r)) (Cal.monthOf (Cal.daysTo s.ly + i)) := aF7 h0 oM
 have hB : tQ (ruG r).aPx s.wno i = !wI r.aPx r.aPq (Cal.daysTo s.ly + i) := by
  rw [hi.wno]; exact aK0 oM rp.t1.aPq h0 h1 (aMa rp)
 have hE : u9 (ruG r).aPy s.eas i = !w9 r.aPy (Cal.daysTo s.ly + i) := by
  rw [hi.eas]; exact aKr oM oM h0 h1 fun x hx => (aL7 rp x hx).1
 have hF : pJ (ruG r).aPu (ruG r).aPv s.ly i = !oJ (bN (aD r)) (Cal.daysTo s.ly + i) := aFz h0 oM (aFp rp)
 have hG : nW (ruG r).aPw s.ly i = !wG r.aPw (Cal.daysTo s.ly + i) := aKz h0 h1
 unfold bad eC
 rw [Bool.or_assoc (wK _ _ _ || tQ _ _ _), hA, hB, hE, hF, hG, e1, e2, f4, f7, f8, f9]
 cases ha : aI (bZ (aD r)) (Cal.monthOf (Cal.daysTo s.ly + i)) with
 | false => rfl
 | true =>
  have hCD : (rM (ruG r).wday s.ly i || pI s.nwm i) = !pF (aV r) (Cal.daysTo s.ly + i) := by
   rw [hi.nwm]
   unfold pF
   rw [e3, f2, e1, aBi hf]
   show (rM (((bP (aD r)).filter (bR r.aP2)).map Prod.fst) s.ly i || pI (nR r s.ly s.lm) i) = _
   unfold nR
   rw [aBi hf]
   exact aOr h0 h1 (fun p hp => ⟨(aJ4 rp p hp).1, (aJ4 rp p hp).2.1⟩) hf (lZ rp) ha hm
  rw [hCD]
  cases oJ (bN (aD r)) (Cal.daysTo s.ly + i) <;> cases wG r.aPw (Cal.daysTo s.ly + i) <;> cases wI r.aPx r.aPq (Cal.daysTo s.ly + i) <;> cases w9 r.aPy (Cal.daysTo s.ly + i) <;> cases pF (aV r) (Cal.daysTo s.ly + i) <;> rfl
def R01 (r : Rul) (k : Int) (s : It) : Prop := s.ts = l7 (aD r) /\ (r.aP2 = 0 -> s.y = pY r k) /\ (r.aP2 = 1 -> s.y = pM r k /\ s.mo = pN r k % 12 + 1)
theorem aAz (r : Rul) (k : Int) : pY (aV r) k = pY r k /\ pN (aV r) k = pN r k /\ pM (aV r) k = pM r k := by
 obtain ⟨e1, _, e3, _⟩ := cU r
 unfold pM pN pY
 rw [e1, e3]
 exact ⟨rfl, rfl, rfl⟩
theorem aA6 {r : Rul} (hf : r.aP2 = 0) (k : Int) : eE (aV r) k ↔ 9999 < pY r k := by
 obtain ⟨_, e2, _⟩ := cU r
 unfold eE cH
 rw [e2, (aAz r k).1, if_pos hf]
 constructor
 .rintro (⟨_, h⟩ | ⟨h, _⟩ | h)
  .exact h
  .omega
  .rcases Int.lt_or_le 9999 (pY r k) with h2 | h2
   .exact h2
   .have := Cal.daysTo_mono h2
    have h4 : Cal.daysTo 9999 = 3651694 := by decide
    omega
 .exact fun h => .inl ⟨hf, h⟩
theorem aB6 {r : Rul} (hf : r.aP2 = 1) (k : Int) : eE (aV r) k ↔ 9999 < pM r k := by
 obtain ⟨_, e2, _⟩ := cU r
 obtain ⟨_, g2, g3⟩ := aAz r k
 unfold eE cH
 rw [e2, g2, g3, if_neg oM, if_pos hf]
 constructor
 .rintro (⟨h, _⟩ | ⟨_, h⟩ | h)
  .omega
  .exact h
  .rcases Int.lt_or_le 9999 (pM r k) with h2 | h2
   .exact h2
   .have := Cal.daysTo_mono h2
    have h4 : Cal.daysTo 9999 = 3651694 := by decide
    have h5 := Cal.cum_bd (pM r k) (pN r k % 12 + 1 - 1).toNat
    omega
 .exact fun h => .inr (.inl ⟨hf, h⟩)
theorem aF8 (r : Rul) (k : Int) : pY r (k + 1) = pY r k + r.aPp /\ pN r (k + 1) = pN r k + r.aPp := by
 have e1 : (k + 1) * r.aPp = k * r.aPp + r.aPp := by rw [Int.add_mul]; omega
 unfold pY pN
 rw [e1]
 constructor <;> omega
theorem aMq {r : Rul} (rp : RightP r) (hf : r.aP2 = 0 \/ r.aP2 = 1) : Fits (ruG r) (aV r) (eC (aV r)) (R01 r) where
 over := fun k _ h => by
  have hiv := rp.t1.aPp
  obtain ⟨g1, g2⟩ := aF8 r k
  rcases hf with hf | hf
  .rw [aA6 hf] at h ⊢; omega
  .rw [aB6 hf] at h ⊢
   unfold pM at h ⊢
   omega
 same := fun k s s' h hs => ⟨by rw [hs.ts]; exact h.1, by rw [hs.y]; exact h.2.1, by rw [hs.y, hs.mo]; exact h.2.2⟩
 pos := fun k s h0 hR hi ho => by
  obtain ⟨hts, hR0, hR1⟩ := hR
  obtain ⟨e1, e2, e3, e4, e5, e6, _⟩ := cU r
  obtain ⟨_, _, _, f4, f5, f6⟩ := rL r
  obtain ⟨p1, p2, p3⟩ := nG rp
  obtain ⟨g1, g2, g3⟩ := aAz r k
  have hfr : (ruG r).aP2 = r.aP2 := rfl
  have hts2 : s.ts = nV (aV r).hour (aV r).aPr (aV r).aPs := by rw [hts, aAp (show r.aP2 < 4 by omega), f4, f5, f6]
  have P1 : PartOk (aV r).hour 24 := by rw [f4]; exact p1 oM
  have P2 : PartOk (aV r).aPr 60 := by rw [f5]; exact p2 oM
  have P3 : PartOk (aV r).aPs 60 := by rw [f6]; exact p3 oM
  have hSI : SI s.ts := by rw [hts2]; exact oV P1 P2 P3
  have hlp := Cal.lp_01 s.ly
  have hly := hi.ly
  have hy := hi.y
  have hout := x6 (r := ruG r) hSI hi.ts (wV rp.t3.h9)
  have hdy : 0 <= Cal.daysTo s.ly := by
   have := Cal.daysTo_mono (a := 1) (b := s.ly) oM
   have h1 : Cal.daysTo 1 = 0 := by decide
   omega
  rw [hout, show (ruG r).aPz = r.aPz from rfl, e6]
  have main : ∀ (m : Nat), (fH (aV r) k).toNat = m -> (aX (ruG r) s).2 - (aX (ruG r) s).1 = m -> Cal.daysTo s.ly + (aX (ruG r) s).1 = cH (aV r) k -> 0 <= (aX (ruG r) s).1 -> (∀ j : Nat, j < m -> (aX (ruG r) s).1 + j < 365 + Cal.lp s.ly /\ (r.aP2 = 1 -> Cal.monthOf (Cal.daysTo s.ly + ((aX (ruG r) s).1 + j)) = s.lm)) ->
    ∃ L1 L2, dY (eU (aV r) (eC (aV r)) k) r.aPz = L1 ++ L2 /\ (∀ t ∈ L1, t < (ruG r).d0) /\ dD (ruG r) s (dY (iN (ruG r) s) r.aPz) = dD (ruG r) s L2 := by
   intro m h1 h2 h3 h4 h5
   obtain ⟨L1, k1, _, k3⟩ := zR (q := aV r) (dayF := eC (aV r)) (first := cH (aV r) k) (sh := 0) h2 (by rw [h3]; omega) (by rw [<- h3]; omega) (fun j hj => aN1 rp hf hi oM (h5 j hj).1 (h5 j hj).2) hts2 P1 P2 P3
   have hp : eU (aV r) (eC (aV r)) k = iN (ruG r) s := by
    unfold eU
    rw [if_neg (by rw [e2]; omega), h1]
    rw [k3 rfl, Nat.zero_add] at k1
    exact k1
   rw [hp]
   exact ⟨[], _, rfl, fun t ht => by simp at ht, rfl⟩
  rcases hf with hf | hf
  .have hsn : aX (ruG r) s = (0, 365 + Cal.lp s.ly) := by unfold aX; rw [if_pos (show (ruG r).aP2 = 0 from hf)]
   have hy0 := hR0 hf
   refine main (365 + Cal.lp s.ly).toNat ?_ (by rw [hsn]; simp only; omega) ?_ (by rw [hsn]; exact Int.le_refl _) fun j hj => ⟨by rw [hsn]; simp only; omega, fun h => by omega⟩
   .unfold fH; rw [e2, if_pos hf, g1, <- hy0, hly]
   .unfold cH; rw [e2, if_pos hf, g1, <- hy0, hsn, hly]; simp
  .obtain ⟨hy0, hm0⟩ := hR1 hf
   have hmo := hi.mo
   have hsn : aX (ruG r) s = jQ s.ly s.mo := by unfold aX; rw [if_neg (by show ¬ r.aP2 = 0; omega), if_pos (show (ruG r).aP2 = 1 from hf)]; rfl
   have hlm := hi.lm hf
   obtain ⟨b1, b2, b3⟩ := tG s.ly hmo
   have hrg : (jQ s.ly s.mo).1 = Cal.cum s.ly (s.mo - 1).toNat /\ (jQ s.ly s.mo).2 = Cal.cum s.ly s.mo.toNat := by
    unfold jQ; simp only; rw [pX oM, pX oM]; exact ⟨rfl, rfl⟩
   have hcn := aCz (y := s.ly) hmo.1
   refine main (Cal.mdays s.mo s.ly).toNat ?_ (by rw [hsn, hrg.1, hrg.2, hcn]; have := Cal.mdays_bd s.mo s.ly; omega) ?_ (by rw [hsn]; exact b1) fun j hj => ?_
   .unfold fH; rw [e2, if_neg oM, if_pos hf, g2, g3, <- hy0, <- hm0, hly]
   .unfold cH; rw [e2, if_neg oM, if_pos hf, g2, g3, <- hy0, hsn, hrg.1, hly, hm0]; omega
   .rw [hsn]
    have hj2 : (jQ s.ly s.mo).1 + j <= (jQ s.ly s.mo).2 - 1 := by rw [hrg.1, hrg.2, hcn]; omega
    exact ⟨by omega, fun _ => by rw [hlm]; exact (aDh hmo oM oM).1 ⟨by omega, hj2⟩⟩
 adv := fun k s h0 hR hi ho hfin => by
  obtain ⟨hts, hR0, hR1⟩ := hR
  have hiv := rp.t1.aPp
  have hy := hi.y
  have hmo := hi.mo
  obtain ⟨g1, g2⟩ := aF8 r k
  refine ⟨k + 1, by omega, fun j h1 h2 => by omega, ?_⟩
  have hir : (ruG r).aPp = r.aPp := rfl
  unfold adv
  rcases hf with hf | hf
  .rw [if_pos (show (ruG r).aP2 = 0 from hf), aA6 hf, g1, <- hR0 hf, hir]
   by_cases hb : 9999 < s.y + r.aPp
   .rw [if_pos hb]
    exact ⟨fun h => (by cases h), fun _ => hb⟩
   .rw [if_neg hb]
    exact ⟨fun _ => ⟨⟨hts, fun _ => by rw [g1, <- hR0 hf]; rfl, fun h => by omega⟩, hb⟩, fun h => by rw [show (reb (ruG r) { s with y := s.y + r.aPp } (s.y + r.aPp) s.mo).fin = s.fin from rfl, hfin] at h; cases h⟩
  .obtain ⟨hy0, hm0⟩ := hR1 hf
   rw [if_neg (by show ¬ r.aP2 = 0; omega), if_pos (show (ruG r).aP2 = 1 from hf), aB6 hf, hir]
   simp only
   have hmn : (if s.mo + r.aPp <= 12 then s.mo + r.aPp else if (s.mo + r.aPp) % 12 = 0 then 12 else (s.mo + r.aPp) % 12) = pN r (k + 1) % 12 + 1 := by
    rw [g2]
    split
    .omega
    .split <;> omega
   have hyn : (if s.mo + r.aPp <= 12 then s.y else if (s.mo + r.aPp) % 12 = 0 then s.y + (s.mo + r.aPp) / 12 - 1 else s.y + (s.mo + r.aPp) / 12) = pM r (k + 1) := by
    unfold pM at hy0 ⊢
    rw [g2]
    split
    .omega
    .split <;> omega
   rw [hmn, hyn]
   by_cases hb : 9999 < pM r (k + 1)
   .rw [if_pos hb]
    exact ⟨fun h => (by cases h), fun _ => hb⟩
   .rw [if_neg hb]
    exact ⟨fun _ => ⟨⟨hts, fun h => by omega, fun _ => ⟨rfl, rfl⟩⟩, hb⟩, fun h => by rw [show (reb (ruG r) { s with y := pM r (k + 1), mo := pN r (k + 1) % 12 + 1 } (pM r (k + 1)) (pN r (k + 1) % 12 + 1)).fin = s.fin from rfl, hfin] at h; cases h⟩
theorem aFd {r : Ru} (hr : RuOk r) (hq : r.aP2 = 1) : wJ r := by
 intro s hk hrem hfin hf
 have ho := aBs hk hrem
 have hof : (out r s).fin = false := by
  cases h : (out r s).fin with
  | false => rfl
  | true => rw [rI h, h] at hf; cases hf
 rw [mJ hof] at hf ⊢
 have hiv := hr.aPp
 have hy := ho.y
 have hmo := ho.mo
 unfold adv at hf ⊢
 rw [if_neg oM, if_pos hq] at hf ⊢
 simp only at hf ⊢
 have key : ∀ y mo : Int, 1 <= y -> (1 <= mo /\ mo <= 12) -> (if 9999 < y then { out r s with y := y, mo := mo, fin := true } else reb r { out r s with y := y, mo := mo } y mo).fin = false -> ItOk r (if 9999 < y then { out r s with y := y, mo := mo, fin := true } else reb r { out r s with y := y, mo := mo } y mo) := by
  intro y mo hy1 hm1 hf1
  by_cases hb : 9999 < y
  .rw [if_pos hb] at hf1; cases hf1
  .rw [if_neg hb] at hf1 ⊢
   have hm := aB2 (s := { out r s with y := y, mo := mo }) ⟨ho.wno, ho.nwm, ho.eas⟩ y mo
   exact ⟨⟨hy1, by show y <= 9999; omega⟩, rfl, hm1, ho.d, fun h => by omega, ho.wd, ho.hr, ho.mn, ho.sec, ho.ts, ho.tsn, ho.aP3, ho.count, hm.wno, hm.nwm, hm.eas, fun _ => rfl, fun h => by omega⟩
 refine key _ _ ?_ ?_ hf
 .split
  .omega
  .split <;> omega
 .split
  .omega
  .split <;> omega
open Go.Md Go.Tab Go.Fr
theorem aHj {r : Rul} (rp : RightP r) (hf : r.aP2 = 0 \/ r.aP2 = 1) : RuOk (ruG r) where
 aP2 := rp.t1.aP2
 aPp := rp.t1.aPp
 aPq := rp.t1.aPq
 until0 := fun ⟨h1, h2⟩ => by
  have h1 : until0 (aD r) = 0 := h1
  have h2 : until1 (aD r) = 0 := h2
  unfold until0 at h1
  unfold until1 at h2
  split at h2
  .cases h2
  .rename_i h; rw [if_neg h] at h1; exact h h1
 until1 := by show 0 <= until1 (aD r); unfold until1; split <;> decide
 hour := uN (iL rp)
 aPr := qH (iL rp)
 aPs := qA (iL rp)
 wnoF := fun h y => sZ h _ y
 nwmF := fun h y m => aGf h _ _ y m
 easF := fun h y => aDl h y
 wnoF0 := fun h _ => by show sM r.aPx _ _ = _; unfold sM; rw [if_pos (show r.aPx.length = 0 from h)]
 nwmF0 := fun h y m => by show nwM _ _ _ y m = _; unfold nwM; rw [if_pos (show ((bP (aD r)).filter fun x => !bR r.aP2 x).length = 0 from h)]
 easF0 := fun h _ => by show uJ r.aPy _ = _; unfold uJ; rw [if_pos (show r.aPy.length = 0 from h)]
 nwd := fun h => by have h : 2 <= r.aP2 := h; omega
theorem aCs (y : Int) {x : Int} (hx : 1 <= x /\ x <= 12) : 31 <= (jQ y x).2 /\ (jQ y x).1 <= 335 := by
 unfold jQ rgY
 cases Cal.leapB y with
 | true =>
  simp only [if_true]
  rcases (show x = 1 \/ x = 2 \/ x = 3 \/ x = 4 \/ x = 5 \/ x = 6 \/ x = 7 \/ x = 8 \/ x = 9 \/ x = 10 \/ x = 11 \/ x = 12 by omega) with rfl | rfl | rfl | rfl | rfl | rfl | rfl | rfl | rfl | rfl | rfl | rfl <;> decide
 | false =>
  simp only [Bool.false_eq_true, if_false]
  rcases (show x = 1 \/ x = 2 \/ x = 3 \/ x = 4 \/ x = 5 \/ x = 6 \/ x = 7 \/ x = 8 \/ x = 9 \/ x = 10 \/ x = 11 \/ x = 12 by omega) with rfl | rfl | rfl | rfl | rfl | rfl | rfl | rfl | rfl | rfl | rfl | rfl <;> decide
theorem aAm {r : Rul} (rp : RightP r) (hf : r.aP2 = 0 \/ r.aP2 = 1) : MkOk (ruG r) where
 wnoF := fun _ => rfl
 nwmF := fun _ _ => rfl
 easF := fun _ => rfl
 wk := fun x hx => (aMa rp x hx).2
 ea := aL7 rp
 mo := lZ rp
 nw := fun y m hm q hq => by
  obtain ⟨h1, h2, h3⟩ := zS (lZ rp) hm q hq
  refine ⟨h1, h2, h3, fun p hp => ?_⟩
  have hp : p ∈ (bP (aD r)).filter fun x => !bR r.aP2 x := hp
  rw [aBi hf] at hp
  obtain ⟨hp1, hp2⟩ := List.mem_filter.1 hp
  obtain ⟨b1, _, b3⟩ := aJ4 rp p hp1
  have hnz : p.2 ≠ 0 := fun h => by unfold bR at hp2; rw [h] at hp2; simp at hp2
  have hlp := Cal.lp_01 y
  have hmd : nU r <= jD r := by unfold nU jD; split <;> (try split) <;> (try split) <;> omega
  have h53 : jD r <= 53 := by unfold jD; split <;> (try split) <;> omega
  have hq' : q ∈ cD r.aP2 (bZ (aD r)) y m := hq
  have hmon : (bZ (aD r)).length ≠ 0 -> r.wday.length ≠ 0 -> r.aPt.length ≠ 0 := fun h h2 => by
   unfold bZ at h
   split at h
   .rename_i hc
    have hc := hc.1
    unfold iY at hc
    simp only [Bool.and_eq_true, beq_iff_eq] at hc
    exact absurd hc.1.2 h2
   .exact h
  have hw0 : r.wday.length ≠ 0 := fun h => by rw [List.eq_nil_of_length_eq_zero h] at hp1; cases hp1
  have small : 5 < jD r -> ¬ (r.aP2 = 1 \/ (r.aP2 = 0 /\ 0 < r.aPt.length)) := fun h hc => by unfold jD at h; rw [if_pos hc] at h; omega
  refine ⟨b1, hnz, by omega, by omega, ?_, ?_⟩ <;> intro hs <;> unfold cD at hq'
  all_goals
   rcases hf with hf | hf
   .rw [if_pos hf] at hq'
    split at hq'
    .rename_i hml
     have hl := hmon hml hw0
     have hm5 : jD r <= 5 := by
      rcases Int.lt_or_le 5 (jD r) with h | h
      .exact absurd (.inr ⟨hf, Nat.pos_of_ne_zero hl⟩) (small h)
      .exact h
     obtain ⟨x, hx, rfl⟩ := List.mem_map.1 hq'
     have := aCs y (lZ rp x hx)
     omega
    .rw [List.mem_singleton] at hq'
     subst hq'
     simp only
     omega
   .rw [if_neg oM, List.mem_singleton] at hq'
    subst hq'
    have hm5 : jD r <= 5 := by
     rcases Int.lt_or_le 5 (jD r) with h | h
     .exact absurd (.inl hf) (small h)
     .exact h
    have := aCs y hm
    omega
theorem aEn {r : Rul} (rp : RightP r) : 1 <= Cal.yearOf (r.start / 86400) /\ Cal.yearOf (r.start / 86400) <= 9999 := by
 obtain ⟨s1, s2, s3⟩ := Cal.split_spec (r.start / 86400)
 have hst := rp.t1.start
 have hd9 : Cal.daysTo 9000 = 3286817 := by decide
 constructor
 .rcases Int.lt_or_le (Cal.yearOf (r.start / 86400)) 1 with h | h
  .have := Cal.daysTo_succ (Cal.yearOf (r.start / 86400))
   have := Cal.daysTo_mono (a := Cal.yearOf (r.start / 86400) + 1) (b := 1) oM
   have h1 : Cal.daysTo 1 = 0 := by decide
   omega
  .exact h
 .rcases Int.lt_or_le 9999 (Cal.yearOf (r.start / 86400)) with h | h
  .have := Cal.daysTo_mono (a := 10000) (b := Cal.yearOf (r.start / 86400)) oM
   have h1 : Cal.daysTo 10000 = 3652059 := by decide
   omega
  .exact h
theorem aOz {r : Rul} (rp : RightP r) : R01 r 0 (it0 (aD r) (ruG r)) := by
 have hm := Cal.month_bd (r.start / 86400)
 refine ⟨rfl, fun _ => ?_, fun _ => ?_⟩
 .show Cal.yearOf (r.start / 86400) = _
  unfold pY; omega
 .show Cal.yearOf (r.start / 86400) = _ /\ Cal.monthOf (r.start / 86400) = _
  unfold pM pN
  omega
theorem aLq {r : Rul} (rp : RightP r) (hf : r.aP2 = 0 \/ r.aP2 = 1) : ¬eE (aV r) 0 := fun h => by
 have hy := aEn rp
 have hm := Cal.month_bd (r.start / 86400)
 rcases hf with hf | hf
 .have h := (aA6 hf 0).1 h
  unfold pY at h; omega
 .have h := (aB6 hf 0).1 h
  unfold pM pN at h; omega
theorem qM {r : Rul} (rp : RightP r) (hf : r.aP2 = 0 \/ r.aP2 = 1) : nB r (eC (aV r)) := by
 intro most hm l h x w hin
 have hr := aHj rp hf
 have hpres : wJ (ruG r) := by
  rcases hf with hf | hf
  .exact r6 hr (.inl hf)
  .exact aFd hr hf
 obtain ⟨N, hT⟩ := qP rp (aMq rp hf) hpres (aB3 rp (aBj rp oM) (fun h => by omega)) (aOz rp) (aLq rp hf) hm h
 have hs := rp.t1.start
 have h9 : Cal.daysTo 9000 = 3286817 := by decide
 have hit := vE (iL rp) (show r.aP2 < 4 by omega) hr (aAm rp hf) (qU rp (wR r) (nR r) (eR r)) (show (aD r).d < 315537897600 by show r.start < _; omega)
 exact nC (iL rp) hit (tD rp) (tP rp) (fun F w0 => tO (w6 rp) F w0) hr
  ⟨(j9 rp).1, (j9 rp).2, aAc hr (show r.aP2 < 4 by omega) (aAm rp hf)⟩ hpres hm hT w hin
end Go.Proofs.YthomapgobmdicaaGreat
