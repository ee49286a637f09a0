import Derived.Test.YtdbbifbmkfmbkaaGreatRag
set_option linter.unusedVariables false
set_option linter.unusedSimpArgs false
set_option maxRecDepth 100000
set_option maxHeartbeats 8000000
namespace Go.Proofs.YtdbbifbmkfmbkaaGreat
open Go.RowKit Go.Fr Go.Tab
section
variable {F : Nat → Prop} {w0 : World} {B : LN} {H : LV} {S : LS}
open Go.Md
def z30 : List Value := [iV 0, iV 0, iV 0, iV 0, iV 0, iV 0, iV 0, .pointer none, iV 0, iV 0, iV 0, iV 0, iV 0, iV 0, iV 0, sN, sN, sN, sN, sN, sN, sN, sN, sN, iV 0, iV 0, sN, sN, .bool false, sN]
def it1 (o : Opn) (r : Ru) (ts : List Int) : It where
 y := Cal.yearOf (o.d / 86400)
 mo := Cal.monthOf (o.d / 86400)
 d := Cal.mdayOf (o.d / 86400)
 h := o.d % 86400 / 3600
 mi := o.d % 86400 / 60 % 60
 s := o.d % 86400 % 60
 wd := ((o.d / 86400 + 1) % 7 + 6) % 7
 ly := Cal.yearOf (o.d / 86400)
 lm := Cal.monthOf (o.d / 86400)
 wno := r.wnoF (Cal.yearOf (o.d / 86400))
 nwm := r.nwmF (Cal.yearOf (o.d / 86400)) (Cal.monthOf (o.d / 86400))
 eas := r.easF (Cal.yearOf (o.d / 86400))
 ts := ts
 total := 0
 count := o.count
 rem := []
 fin := false
abbrev it0 (o : Opn) (r : Ru) : It := it1 o r (lW o)
def sC (x : Av) : Ra := ⟨x.p9, x.c9, x.pm, x.cm, x.q48, x.e48, x.q49, x.e49, x.p12, x.c12, x.p13, x.c13, x.q52, x.e52, x.q53, x.e53, x.q54, x.e54, x.q55, x.e55, x.q56, x.e56, x.p18, x.c18⟩
structure RuLen (r : Ru) : Prop where
 l46 : r.setpos.length ≤ 1000000000
 l47 : r.month.length ≤ 1000000000
 l48 : r.mday.length ≤ 1000000000
 l49 : r.nmday.length ≤ 1000000000
 l50 : r.yday.length ≤ 1000000000
 l51 : r.weekno.length ≤ 1000000000
 l52 : r.wday.length ≤ 1000000000
 l54 : r.hour.length ≤ 1000000000
 l55 : r.minute.length ≤ 1000000000
 l56 : r.second.length ≤ 1000000000
 l57 : r.easter.length ≤ 1000000000
theorem tN {d : Int} (h : 0 ≤ d) : 1 ≤ Cal.yearOf d := by
 obtain ⟨e, h0, h1⟩ := Cal.split_spec d
 have := Cal.lp_01 (Cal.yearOf d)
 unfold Cal.daysTo at e
 omega
theorem yQ {d : Int} (h : d < 3652059) : Cal.yearOf d ≤ 9999 := by
 obtain ⟨e, h0, h1⟩ := Cal.split_spec d
 rcases Int.lt_or_le 9999 (Cal.yearOf d) with hh | hh
 ·have := Cal.daysTo_mono (show (10000 : Int) ≤ Cal.yearOf d by omega)
  have e2 : Cal.daysTo 10000 = 3652059 := by decide
  omega
 ·exact hh
def z5 (o : Opn) (rb : Nat) : List Value := [iV (Cal.yearOf (o.d / 86400)), iV (Cal.monthOf (o.d / 86400)), iV (Cal.mdayOf (o.d / 86400)), iV (o.d % 86400 / 3600), iV (o.d % 86400 / 60 % 60), iV (o.d % 86400 % 60), iV (((o.d / 86400 + 1) % 7 + 6) % 7), pT rb, iV 0, iV 0, iV 0, iV 0, iV 0, iV 0, iV 0, sN, sN, sN, sN, sN, sN, sN, sN, sN, iV 0, iV 0, sN, sN, .bool false, sN]
theorem it_b {R : Ending → World → Prop} {o : Opn} {x : Av} {wF : Int → List Int} {nF : Int → Int → List Int} {eF : Int → List Int} (ok : OpOk o) (hf4 : o.freq < 4) (hw0 : o.weekno.length = 0) (hd0 : ((bH o wF nF eF)).nwd.length = 0) (he0 : o.easter.length = 0) (hwF : ∀ y, wF y = []) (hnF : ∀ y m, nF y m = []) (heF : ∀ y, eF y = []) (hlen : RuLen (bH o wF nF eF)) {rb : Nat} {S0 : LS} (of : OutF F w0 o x S0 S) (hR1 : lkp 1 B = some rb) (hc1 : cellsAt 1 H 0 (iY o x)) (h38 : ∀ q, q < 4096 → lkp (ky 38 q) H = none) {it : Nat} (h0 : cellsAt 0 H 0 (z5 o rb)) (lim : Lim 40 ((0, it) :: B) H S) (hdm : o.d < 315537897600) (hR : ∀ a H' S' w, St F w0 S' H' it rb (bH o wF nF eF) (sC x) (it0 o (bH o wF nF eF)) a ((0, it) :: B) H' S' → (∀ k, 26 ≤ k → k < 40 → lkp k S' = lkp k S) → (∀ q, q < 4096 → lkp (ky 38 q) H' = none) → Sees F w0 ((0, it) :: B) H' S' w → R (.returned (.func (.func 53) #[pT it] #[])) w) :
  GC Tryz.prog (Go.Fr.part [1, 1, 1, 1, 1, 1] (Go.Fr.bodyOf Tryz.f35)) (bodyPost Tryz.prog Tryz.f35 R) 148 [(0, pT rb), (3, pT it)] F w0 ((0, it) :: B) H S := by
 have hd_ := ok.d
 have hyp_ := tN (d := o.d / 86400) oM
 have hyd := gX (x := o.d) oM
 have hym := yQ (d := o.d / 86400) oM
 have hr51 : lkp (ky 1 51) H = some (.slice x.p13 0 x.c13) := by have := hc1.get 51 _ rfl; rw [hw0] at this; exact this
 have hr53 : lkp (ky 1 53) H = some (.slice x.q53 0 x.e53) := by have := hc1.get 53 _ rfl; rw [show (List.filter (fun y => !cP o.freq y) (bU o)).length = 0 from hd0] at this; exact this
 have hr57 : lkp (ky 1 57) H = some (.slice x.p18 0 x.c18) := by have := hc1.get 57 _ rfl; rw [he0] at this; exact this
 refine g2 ?_
 refine rl (rfa 7) ?_
 refine rl (rfa 0) ?_
 refine rl (bE 0 rfl rfl (h0.get 0 _ rfl) kR dE) ?_
 refine rl (rfa 1) ?_
 refine rl (bE 0 rfl rfl (h0.get 1 _ rfl) kR dE) ?_
 refine gL (rE (B := (0, it) :: B) (H := H) (S := S) (yv := Cal.yearOf (o.d / 86400)) (mv := Cal.monthOf (o.d / 86400)) dE kR rfl (fun w_ s_ => tG (B := (0, it) :: B) (H := H) (S := S) (ly := 0) (lm := 0) rfl hR1 (h0.get 7 _ rfl) (h0.get 8 _ rfl) (h0.get 9 _ rfl) hr51 hr53 hr57 (hc1.get 39 _ rfl) (hc1.get 40 _ rfl) (h0.get 10 _ rfl) (h0.get 11 _ rfl) (h0.get 12 _ rfl) (h0.get 13 _ rfl) (h0.get 14 _ rfl) (h0.get 15 _ rfl) (h0.get 16 _ rfl) (h0.get 17 _ rfl) (h0.get 18 _ rfl) (h0.get 19 _ rfl) (h0.get 20 _ rfl) oM oM w_ s_) (fun b6 c6 b3 c3 b4 c4 b5 c5 b7 c7 h385 => ?_))
 refine g7 ?_
 refine rl (rfa 38) ?_
 refine rZ3 (bE 1 rfl hR1 (hc1.get 38 _ rfl) kR dE) ?_
 refine aY rfl (decide_eq_true hf4) ?_
 refine g3 ?_
 refine rl (rfa 58) ?_
 refine rl (bE 1 rfl hR1 (hc1.get 58 _ rfl) kR dE) ?_
 refine rl (rfa 23) ?_
 refine gL (cR 0 rfl rfl rfl (h0.get 23 _ rfl) kR rfl dE ?_)
 refine g6 ?_
 refine rl (rfa 43) ?_
 refine rl (bE 1 rfl hR1 (hc1.get 43 _ rfl) kR dE) ?_
 refine rl (rfa 25) ?_
 refine gL (cR 0 rfl rfl rfl (h0.get 25 _ rfl) kR rfl dE ?_)
 refine g4 ?_
 refine rZ4 ((gG (first := [pT it]) (capt := []) rfl rfl)) ?_
 refine gR rfl fun w s => ?_
 have s := (s.aJ6 1 156 2).aJ6 0 57 2
 have e_w : (it0 o (bH o wF nF eF)).wno.length = 0 := by show (wF _).length = 0; rw [hwF]; rfl
 have e_n : (it0 o (bH o wF nF eF)).nwm.length = 0 := by show (nF _ _).length = 0; rw [hnF]; rfl
 have e_e : (it0 o (bH o wF nF eF)).eas.length = 0 := by show (eF _).length = 0; rw [heF]; rfl
 have fin : ∀ (a : Ad) {H' : LV} {S' : LS}, Sees F w0 ((0, it) :: B) H' S' w → St F w0 S' H' it rb (bH o wF nF eF) (sC x) (it0 o (bH o wF nF eF)) a ((0, it) :: B) H' S' → (∀ k, 26 ≤ k → k < 40 → lkp k S' = lkp k S) → (∀ q, q < 4096 → lkp (ky 38 q) H' = none) → R (.returned (.func (.func 53) #[pT it] #[])) w := fun a _ _ s h1 h2 h3 => hR a _ _ w h1 h2 h3 s
 refine fin ({ b3 := b3, c3 := c3, b4 := b4, c4 := c4, b5 := b5, c5 := c5, b6 := b6, c6 := c6, b7 := b7, c7 := c7, p20 := none, c20 := 0, p21 := none, c21 := 0, p22 := none, c22 := 0, tp := x.tp, tc := x.tc, rp := none, rc := 0, rs := none, rk := 0, rn := 0, rj := 0, rall := [], bk := sN, dp := none, dc := 0, dn := 0, dxs := [], ln := iV 0 } : Ad) s ⟨rfl, hR1, (by repeat (first | exact lim | apply Lim.aJ1 _ dE dE | apply Lim.aJ2 _ dE)), (h0.get 0 _ rfl), (h0.get 1 _ rfl), (h0.get 2 _ rfl), (h0.get 3 _ rfl), (h0.get 4 _ rfl), (h0.get 5 _ rfl), (h0.get 6 _ rfl), (h0.get 7 _ rfl), rfl, rfl, rfl, rfl, rfl, rfl, rfl, rfl, rfl, rfl, rfl, rfl, (show lkp (ky 0 20) _ = some (Value.slice none (it0 o (bH o wF nF eF)).wno.length 0) from by rw [e_w]; exact rfl), (show lkp (ky 0 21) _ = some (Value.slice none (it0 o (bH o wF nF eF)).nwm.length 0) from by rw [e_n]; exact h0.get 21 _ rfl), (show lkp (ky 0 22) _ = some (Value.slice none (it0 o (bH o wF nF eF)).eas.length 0) from by rw [e_e]; exact h0.get 22 _ rfl), rfl, (h0.get 24 _ rfl), rfl, (h0.get 26 _ rfl), (h0.get 27 _ rfl), (h0.get 28 _ rfl), (h0.get 29 _ rfl), rfl, rfl, (of.r2 hf4), rfl, rfl, rfl, rfl, rfl, (fun h => absurd h (by rw [e_w]; decide)), (fun h => absurd h (by rw [e_n]; decide)), (fun h => absurd h (by rw [e_e]; decide)), (fun h => absurd h (by rw [e_w]; decide)), (fun h => absurd h (by rw [e_n]; decide)), (fun h => absurd h (by rw [e_e]; decide)), h385, (fun _ _ _ => rfl), (fun _ _ _ _ _ => rfl), (fun _ => ⟨rfl, rfl, rfl, rfl⟩), (fun h => absurd rfl h), (hc1.get 38 _ rfl), (hc1.get 39 _ rfl), (hc1.get 40 _ rfl), (hc1.get 41 _ rfl), (hc1.get 42 _ rfl), (hc1.get 44 _ rfl), (hc1.get 45 _ rfl), (hc1.get 46 _ rfl), (hc1.get 47 _ rfl), (hc1.get 48 _ rfl), (hc1.get 49 _ rfl), (hc1.get 50 _ rfl), (hc1.get 51 _ rfl), (hc1.get 52 _ rfl), (hc1.get 53 _ rfl), (hc1.get 54 _ rfl), (hc1.get 55 _ rfl), (hc1.get 56 _ rfl), (hc1.get 57 _ rfl), (hc1.get 59 _ rfl), ((of.s9.toI dE).to aG), ((of.sm.toI dE).to aG), ((SrcI.row dE of.r12).to aG), ((SrcI.row dE of.r13).to aG), ((of.s12.toI dE).to aG), ((of.s13.toI dE).to aG), ((SrcI.row dE of.r14).to aG), ((of.sh.toI dE).to aG), ((of.si.toI dE).to aG), ((of.ss.toI dE).to aG), ((of.s18.toI dE).to aG), hlen.l46, hlen.l47, hlen.l48, hlen.l49, hlen.l50, hlen.l51, hlen.l52, hlen.l54, hlen.l55, hlen.l56, hlen.l57⟩ (fun k h1 h2 => by repeat (first | rfl | rw [aA oM])) (fun q hq => ?_)
 repeat (first | exact h38 q hq | rw [cH dE hq dE])
theorem it_a {R : Ending → World → Prop} {o : Opn} {x : Av} (ok : OpOk o) {rb : Nat} (hR1 : lkp 1 B = some rb) (hc1 : cellsAt 1 H 0 (iY o x)) (h38 : ∀ q, q < 4096 → lkp (ky 38 q) H = none) {it : Nat} (h0 : cellsAt 0 H 0 z30) (lim : Lim 40 ((0, it) :: B) H S)
  (hb : ∀ {H' : LV}, cellsAt 1 H' 0 (iY o x) → (∀ q, q < 4096 → lkp (ky 38 q) H' = none) → cellsAt 0 H' 0 (z5 o rb) → Lim 40 ((0, it) :: B) H' S → GC Tryz.prog (Go.Fr.part [1, 1, 1, 1, 1, 1] (Go.Fr.bodyOf Tryz.f35)) (bodyPost Tryz.prog Tryz.f35 R) 148 [(0, pT rb), (3, pT it)] F w0 ((0, it) :: B) H' S) :
  GC Tryz.prog (Go.Fr.part [1, 1] (Go.Fr.bodyOf Tryz.f35)) (bodyPost Tryz.prog Tryz.f35 R) 148 [(0, pT rb), (3, pT it)] F w0 ((0, it) :: B) H S := by
 have hd_ := ok.d
 have hyp_ := tN (d := o.d / 86400) oM
 have hyd := gX (x := o.d) oM
 refine g4 ?_
 refine rl (rfa 39) ?_
 refine rl (aV 1 rfl hR1 (hc1.get 39 _ rfl) (hc1.get 40 _ rfl) kR dE) ?_
 refine gL (cvo (v := .tuple #[iV (Cal.yearOf (o.d / 86400)), iV (Cal.monthOf (o.d / 86400)), iV (Cal.mdayOf (o.d / 86400))]) rfl (fun w_ s_ => (jZ _ _ oM w_).mono fun e_ w2_ h_ => ⟨h_.1.trans (congrArg Ending.returned rfl), h_.2⟩) ?_)
 refine g4 ?_
 refine rl (rfa 0) ?_
 refine gL (cR 0 rfl rfl rfl (h0.get 0 _ rfl) kR rfl dE ?_)
 refine rl (rfa 1) ?_
 refine gL (cR 0 rfl rfl rfl (h0.get 1 _ rfl) kR rfl dE ?_)
 refine rl (rfa 2) ?_
 refine gL (cR 0 rfl rfl rfl (h0.get 2 _ rfl) kR rfl dE ?_)
 refine g6 ?_
 refine rl (rfa 39) ?_
 refine rl (aV 1 rfl hR1 (hc1.get 39 _ rfl) (hc1.get 40 _ rfl) kR dE) ?_
 refine gL (cvo (v := .tuple #[iV (o.d % 86400 / 3600), iV (o.d % 86400 / 60 % 60), iV (o.d % 86400 % 60)]) rfl (fun w_ s_ => (iF _ _ oM w_).mono fun e_ w2_ h_ => ⟨h_.1.trans (congrArg Ending.returned rfl), h_.2⟩) ?_)
 refine g4 ?_
 refine rl (rfa 3) ?_
 refine gL (cR 0 rfl rfl rfl (h0.get 3 _ rfl) kR rfl dE ?_)
 refine rl (rfa 4) ?_
 refine gL (cR 0 rfl rfl rfl (h0.get 4 _ rfl) kR rfl dE ?_)
 refine rl (rfa 5) ?_
 refine gL (cR 0 rfl rfl rfl (h0.get 5 _ rfl) kR rfl dE ?_)
 refine g6 ?_
 refine rl (rfa 39) ?_
 refine rl (aV 1 rfl hR1 (hc1.get 39 _ rfl) (hc1.get 40 _ rfl) kR dE) ?_
 refine gL (cvo (v := iV ((o.d / 86400 + 1) % 7)) rfl (fun w_ s_ => (kA _ _ oM w_).mono fun e_ w2_ h_ => ⟨h_.1.trans (congrArg Ending.returned rfl), h_.2⟩) ?_)
 refine gL (cvo (v := iV (((o.d / 86400 + 1) % 7 + 6) % 7)) rfl (fun w_ s_ => (mN _ oM w_).mono fun e_ w2_ h_ => ⟨h_.1.trans (congrArg Ending.returned rfl), h_.2⟩) ?_)
 refine rl (rfa 6) ?_
 refine gL (cR 0 rfl rfl rfl (h0.get 6 _ rfl) kR rfl dE ?_)
 refine g5 ?_
 refine rl (gP (vs := [(0, pT rb)]) (v := .agg (pT rb :: zL0).toArray) rfl kW) ?_
 refine rl (rfa 7) ?_
 refine gL (cA 0 (cs := (pT rb :: zL0).toArray) rfl rfl rfl (cG kX (dV h0 7 16 ble)) kR rfl ble ?_)
 refine g2 ?_
 refine dO (L' := [(0, pT rb), (3, pT it)]) kns (fun w s => s) (H' := cX 0 7 (pT rb :: zL0) ((ky 0 6, iV (((o.d / 86400 + 1) % 7 + 6) % 7)) :: (ky 0 5, iV (o.d % 86400 % 60)) :: (ky 0 4, iV (o.d % 86400 / 60 % 60)) :: (ky 0 3, iV (o.d % 86400 / 3600)) :: (ky 0 2, iV (Cal.mdayOf (o.d / 86400))) :: (ky 0 1, iV (Cal.monthOf (o.d / 86400))) :: (ky 0 0, iV (Cal.yearOf (o.d / 86400))) :: H)) ?_
 have h5 : cellsAt 0 (cX 0 7 (pT rb :: zL0) ((ky 0 6, iV (((o.d / 86400 + 1) % 7 + 6) % 7)) :: (ky 0 5, iV (o.d % 86400 % 60)) :: (ky 0 4, iV (o.d % 86400 / 60 % 60)) :: (ky 0 3, iV (o.d % 86400 / 3600)) :: (ky 0 2, iV (Cal.mdayOf (o.d / 86400))) :: (ky 0 1, iV (Cal.monthOf (o.d / 86400))) :: (ky 0 0, iV (Cal.yearOf (o.d / 86400))) :: H)) 0 (z5 o rb) := (cC ((fH (j := 0) (pT rb :: zL0) 7 0 dE ble).trans rfl) (cC ((fH (j := 0) (pT rb :: zL0) 7 1 dE ble).trans rfl) (cC ((fH (j := 0) (pT rb :: zL0) 7 2 dE ble).trans rfl) (cC ((fH (j := 0) (pT rb :: zL0) 7 3 dE ble).trans rfl) (cC ((fH (j := 0) (pT rb :: zL0) 7 4 dE ble).trans rfl) (cC ((fH (j := 0) (pT rb :: zL0) 7 5 dE ble).trans rfl) (cC ((fH (j := 0) (pT rb :: zL0) 7 6 dE ble).trans rfl) (cC (aN (j := 0) (pT rb :: zL0) 7 ble 0 _ rfl) (cC (aN (j := 0) (pT rb :: zL0) 7 ble 1 _ rfl) (cC (aN (j := 0) (pT rb :: zL0) 7 ble 2 _ rfl) (cC (aN (j := 0) (pT rb :: zL0) 7 ble 3 _ rfl) (cC (aN (j := 0) (pT rb :: zL0) 7 ble 4 _ rfl) (cC (aN (j := 0) (pT rb :: zL0) 7 ble 5 _ rfl) (cC (aN (j := 0) (pT rb :: zL0) 7 ble 6 _ rfl) (cC (aN (j := 0) (pT rb :: zL0) 7 ble 7 _ rfl) (cC (aN (j := 0) (pT rb :: zL0) 7 ble 8 _ rfl) (cC (aN (j := 0) (pT rb :: zL0) 7 ble 9 _ rfl) (cC (aN (j := 0) (pT rb :: zL0) 7 ble 10 _ rfl) (cC (aN (j := 0) (pT rb :: zL0) 7 ble 11 _ rfl) (cC (aN (j := 0) (pT rb :: zL0) 7 ble 12 _ rfl) (cC (aN (j := 0) (pT rb :: zL0) 7 ble 13 _ rfl) (cC (aN (j := 0) (pT rb :: zL0) 7 ble 14 _ rfl) (cC (aN (j := 0) (pT rb :: zL0) 7 ble 15 _ rfl) (cC ((aM (j := 0) (pT rb :: zL0) 7 23 ble).trans (h0.get 23 _ rfl)) (cC ((aM (j := 0) (pT rb :: zL0) 7 24 ble).trans (h0.get 24 _ rfl)) (cC ((aM (j := 0) (pT rb :: zL0) 7 25 ble).trans (h0.get 25 _ rfl)) (cC ((aM (j := 0) (pT rb :: zL0) 7 26 ble).trans (h0.get 26 _ rfl)) (cC ((aM (j := 0) (pT rb :: zL0) 7 27 ble).trans (h0.get 27 _ rfl)) (cC ((aM (j := 0) (pT rb :: zL0) 7 28 ble).trans (h0.get 28 _ rfl)) (cC ((aM (j := 0) (pT rb :: zL0) 7 29 ble).trans (h0.get 29 _ rfl)) cN))))))))))))))))))))))))))))))
 have hc5 : cellsAt 1 (cX 0 7 (pT rb :: zL0) ((ky 0 6, iV (((o.d / 86400 + 1) % 7 + 6) % 7)) :: (ky 0 5, iV (o.d % 86400 % 60)) :: (ky 0 4, iV (o.d % 86400 / 60 % 60)) :: (ky 0 3, iV (o.d % 86400 / 3600)) :: (ky 0 2, iV (Cal.mdayOf (o.d / 86400))) :: (ky 0 1, iV (Cal.monthOf (o.d / 86400))) :: (ky 0 0, iV (Cal.yearOf (o.d / 86400))) :: H)) 0 (iY o x) := fQ fun i u h => by have hi : 0 + i < 4096 := by { have := (List.getElem?_eq_some_iff.1 h).1; have h3 : (iY o x).length = 60 := rfl; omega }; exact (cT (j := 0) dE hi _ _ ble).trans (Eq.trans (by repeat (first | rfl | rw [cH dE hi dE])) (hc1.get i u h))
 have h385 : ∀ q, q < 4096 → lkp (ky 38 q) (cX 0 7 (pT rb :: zL0) ((ky 0 6, iV (((o.d / 86400 + 1) % 7 + 6) % 7)) :: (ky 0 5, iV (o.d % 86400 % 60)) :: (ky 0 4, iV (o.d % 86400 / 60 % 60)) :: (ky 0 3, iV (o.d % 86400 / 3600)) :: (ky 0 2, iV (Cal.mdayOf (o.d / 86400))) :: (ky 0 1, iV (Cal.monthOf (o.d / 86400))) :: (ky 0 0, iV (Cal.yearOf (o.d / 86400))) :: H)) = none := fun q hq => (cT (j := 0) dE hq _ _ ble).trans (Eq.trans (by repeat (first | rfl | rw [cH dE hq dE])) (h38 q hq))
 exact hb hc5 h385 h5 (Lim.seqH dE _ 7 ble (by repeat (first | exact lim | apply Lim.aJ1 _ dE dE)))
def zT (o : Opn) (r : Ru) (s0 : It) : Prop := ∀ (F : Nat → Prop) (w0 : World) (B : LN) (H : LV) (S S0 : LS) (x : Av) (rb : Nat), OutF F w0 o x S0 S → lkp 1 B = some rb → cellsAt 1 H 0 (iY o x) → (∀ q, q < 4096 → lkp (ky 38 q) H = none) → lkp 0 B = none → (∀ q, q < 4096 → lkp (ky 0 q) H = none) → Lim 40 B H S →
 ∀ w, Sees F w0 B H S w → Calls Tryz.prog 35 #[pT rb] w fun e w' => ∃ it a H' S', e = .returned (.func (.func 53) #[pT it] #[]) ∧ St F w0 S' H' it rb r (sC x) s0 a ((0, it) :: B) H' S' ∧ (∀ k, 26 ≤ k → k < 40 → lkp k S' = lkp k S) ∧ (∀ q, q < 4096 → lkp (ky 38 q) H' = none) ∧ Sees F w0 ((0, it) :: B) H' S' w'
theorem aCa {o : Opn} {r : Ru} {s0 : It} (ok : OpOk o) (hb : ∀ {F : Nat → Prop} {w0 : World} {B : LN} {H' : LV} {S S0 : LS} {x : Av} {rb it : Nat} {R : Ending → World → Prop}, OutF F w0 o x S0 S → lkp 1 B = some rb → cellsAt 1 H' 0 (iY o x) → (∀ q, q < 4096 → lkp (ky 38 q) H' = none) → cellsAt 0 H' 0 (z5 o rb) → Lim 40 ((0, it) :: B) H' S →
  (∀ a H2 S' w, St F w0 S' H2 it rb r (sC x) s0 a ((0, it) :: B) H2 S' → (∀ k, 26 ≤ k → k < 40 → lkp k S' = lkp k S) → (∀ q, q < 4096 → lkp (ky 38 q) H2 = none) → Sees F w0 ((0, it) :: B) H2 S' w → R (.returned (.func (.func 53) #[pT it] #[])) w) → GC Tryz.prog (Go.Fr.part [1, 1, 1, 1, 1, 1] (Go.Fr.bodyOf Tryz.f35)) (bodyPost Tryz.prog Tryz.f35 R) 148 [(0, pT rb), (3, pT it)] F w0 ((0, it) :: B) H' S) : zT o r s0 := by
 intro F w0 B H S S0 x rb of hR1 hc1 h38 hno hno2 lim
 intro w s
 refine aI (args := [pT rb]) (L := [(0, pT rb)]) (N := 148) Tryz.func35 rfl rfl ble rfl s ?_
 refine g7 ?_
 refine rl ((mC (v := .agg z30.toArray) kW)) ?_
 refine gL (eB 0 (cs := z30) dE kR hno hno2 ble (fun it hit => ?_))
 refine gL (cA 0 (cs := z30.toArray) rfl rfl rfl (dV (fZ z30 ble) 0 30 ble) kR rfl ble ?_)
 refine g2 ?_
 refine dO (L' := [(0, pT rb), (3, pT it)]) kns (fun w s => s) (H' := cX 0 0 z30 (aC 0 0 z30 ++ H)) ?_
 have hc5 : cellsAt 1 (cX 0 0 z30 (aC 0 0 z30 ++ H)) 0 (iY o x) := fQ fun i u h => by have hi : 0 + i < 4096 := by { have := (List.getElem?_eq_some_iff.1 h).1; have h3 : (iY o x).length = 60 := rfl; omega }; exact (cT (j := 0) dE hi _ _ ble).trans ((aK (j := 0) dE hi _ _ ble).trans (hc1.get i u h))
 exact it_a ok hR1 hc5 (fun q hq => (cT (j := 0) dE hq _ _ ble).trans ((aK (j := 0) dE hq _ _ ble).trans (h38 q hq))) (fQ fun i u h => aN (j := 0) z30 0 ble i u h) (Lim.seqH dE _ 0 ble (Lim.aJ4 dE _ 0 ble (lim.aJ3 dE))) (fun a1 a2 a3 a4 => hb of hR1 a1 a2 a3 a4 (fun a H' S' w hst h1 h2 hs => ⟨it, a, H', S', rfl, hst, h1, h2, hs⟩))
theorem vN {o : Opn} {wF : Int → List Int} {nF : Int → Int → List Int} {eF : Int → List Int} (ok : OpOk o) (hf4 : o.freq < 4) (hw0 : o.weekno.length = 0) (hd0 : ((bH o wF nF eF)).nwd.length = 0) (he0 : o.easter.length = 0) (hwF : ∀ y, wF y = []) (hnF : ∀ y m, nF y m = []) (heF : ∀ y, eF y = []) (hlen : RuLen (bH o wF nF eF)) (hdm : o.d < 315537897600) : zT o (bH o wF nF eF) (it0 o (bH o wF nF eF)) := aCa ok (fun of hR1 a1 a2 a3 a4 hR => it_b ok hf4 hw0 hd0 he0 hwF hnF heF hlen of hR1 a1 a2 a3 a4 hdm hR)
inductive Tells (r : Ru) (N : Nat) : It → Nat → List Int → Prop
 | zero {s : It} : Tells r N s 0 []
 | stop {s e : It} {k : Nat} (h : GenTo r N s e) (hr : e.rem = []) : Tells r N s (k + 1) []
 | more {s e : It} {k : Nat} {t : Int} {l : List Int} (h : GenTo r N s e) (hr : e.rem.head? = some t) (ht : Tells r N { e with rem := e.rem.tail } k l) : Tells r N s (k + 1) (t :: l)
theorem aD9 {e : It} (h : e.rem = []) : pJ e = .tuple #[.agg #[iV 0, iV 0], .bool false] := by unfold pJ; rw [h]
theorem aCt {e : It} {t : Int} (h : e.rem.head? = some t) : pJ e = .tuple #[.agg #[iV t, iV 0], .bool true] := by
 unfold pJ
 cases hr : e.rem with
 | nil => rw [hr] at h; cases h
 | cons a l => rw [hr] at h; cases h; rfl
def St1 (F : Nat → Prop) (w0 : World) (it rb : Nat) (r : Ru) (l : Ra) (s : It) (a : Ad) (B : LN) (H : LV) (S : LS) : Prop := St F w0 S H it rb r l s a B H S
theorem St.row35 {S0 : LS} {H0 : LV} {r : Ru} {l : Ra} {it rb : Nat} {s : It} {a : Ad} (st : St F w0 S0 H0 it rb r l s a B H S) (q : Slc) : St1 F w0 it rb r l s a B (i7 38 H) ((35, q) :: S) := ⟨st.hB, st.hR, ⟨st.lim.b, fun k_ h_ o_ ho_ => (aL (by rw [oZ ho_]; omega)).trans (st.lim.h k_ h_ o_ ho_), fun k_ h_ => (aA oM _ _).trans (st.lim.s k_ h_)⟩, (aL dE).trans st.h0, (aL dE).trans st.h1, (aL dE).trans st.h2, (aL dE).trans st.h3, (aL dE).trans st.h4, (aL dE).trans st.h5, (aL dE).trans st.h6, (aL dE).trans st.h7, (aL dE).trans st.h8, (aL dE).trans st.h9, (aL dE).trans st.h10, (aL dE).trans st.h11, (aL dE).trans st.h12, (aL dE).trans st.h13, (aL dE).trans st.h14, (aL dE).trans st.h15, (aL dE).trans st.h16, (aL dE).trans st.h17, (aL dE).trans st.h18, (aL dE).trans st.h19, (aL dE).trans st.h20, (aL dE).trans st.h21, (aL dE).trans st.h22, (aL dE).trans st.h23, (aL dE).trans st.h24, (aL dE).trans st.h25, (aL dE).trans st.h26, (aL dE).trans st.h27, (aL dE).trans st.h28, (aL dE).trans st.h29, st.hS0, st.hS1, st.hS2, st.hS3, st.hS4, st.hS5, st.hS6, st.hS7, st.hS8, st.hS9, st.hS10, st.hp20, st.hp21, st.hp22, st.c6, (fun _ _ _ => rfl), (fun _ _ _ _ _ => rfl), st.hq0, st.hq1, (aL dE).trans st.r38, (aL dE).trans st.r39, (aL dE).trans st.r40, (aL dE).trans st.r41, (aL dE).trans st.r42, (aL dE).trans st.r44, (aL dE).trans st.r45, (aL dE).trans st.r46, (aL dE).trans st.r47, (aL dE).trans st.r48, (aL dE).trans st.r49, (aL dE).trans st.r50, (aL dE).trans st.r51, (aL dE).trans st.r52, (aL dE).trans st.r53, (aL dE).trans st.r54, (aL dE).trans st.r55, (aL dE).trans st.r56, (aL dE).trans st.r57, (aL dE).trans st.r59, (st.hI46.to aG), (st.hI47.to aG), (st.hI48.to aG), (st.hI49.to aG), (st.hI50.to aG), (st.hI51.to aG), (st.hI52.to aG), (st.hI54.to aG), (st.hI55.to aG), (st.hI56.to aG), (st.hI57.to aG), st.hl46, st.hl47, st.hl48, st.hl49, st.hl50, st.hl51, st.hl52, st.hl54, st.hl55, st.hl56, st.hl57⟩
theorem aEz {F : Nat → Prop} {w0 : World} {S : LS} {t : Nat} {v : Value} {ps : List (Int × Int)} (h : Prs w0 v ps) (hF : ∀ b, ¬ F b) : SrcU F w0 S t v ps := fun B H S' w _ s => by
 obtain ⟨p, c, rfl, hc⟩ := h
 refine ⟨p, c, rfl, fun i x hx => ?_⟩
 obtain ⟨b, o, rfl, h1, h2⟩ := hc i x hx
 exact ⟨b, o, rfl, s.aJ8 h1 (hF b), s.aJ8 h2 (hF b)⟩
theorem aA3 {r : Ru} {N : Nat} {s : It} {k : Nat} {l : List Int} (h : Tells r N s (k + 1) l) : ∃ e, GenTo r N s e ∧ ((e.rem = [] ∧ l = []) ∨ ∃ t l2, e.rem.head? = some t ∧ l = t :: l2 ∧ Tells r N { e with rem := e.rem.tail } k l2) := by
 cases h with
 | stop h hr => exact ⟨_, h, .inl ⟨hr, rfl⟩⟩
 | more h hr ht => exact ⟨_, h, .inr ⟨_, _, hr, rfl, ht⟩⟩
theorem Sees.lessH {w : World} {k : Nat} (s : Sees F w0 B H S w) : Sees F w0 B (i7 k H) S w := s.to (fun _ _ h => h) (fun j o v ho h => by
 have hjk : j ≠ k := fun e => by rw [e, kC ho] at h; cases h
 rw [aL (by rw [oZ ho]; exact hjk)] at h
 obtain ⟨b, e, _⟩ := s.cells j o v ho h
 exact ⟨h, by rw [e]; rfl⟩) (fun _ _ h => h)
theorem Sees.dropRow2 {w : World} {k j : Nat} {q u : Slc} (s : Sees F w0 B H ((k, q) :: (j, u) :: S) w) (hj : lkp j S = none) (hjk : j ≠ k) : Sees F w0 B H ((k, q) :: S) w :=
 s.to (fun _ _ h => h) (fun j o v ho h => ⟨h, by obtain ⟨b, e, _⟩ := s.cells j o v ho h; rw [e]; rfl⟩) (fun i r h => by
  by_cases e : i = k
  ·subst e; rw [bQ] at h ⊢; exact h
  ·rw [aA e] at h ⊢
   by_cases e2 : i = j
   ·subst e2; rw [hj] at h; cases h
   ·rw [aA e2]; exact h)
structure InL (w : World) (r : Rul) (x : Av) : Prop where
 i9 : Ints w (.slice x.p9 (r.setpos).length x.c9) r.setpos
 i10 : Ints w (.slice x.p10 (r.month).length x.c10) r.month
 i11 : Ints w (.slice x.p11 (r.mday).length x.c11) r.mday
 i12 : Ints w (.slice x.p12 (r.yday).length x.c12) r.yday
 i13 : Ints w (.slice x.p13 (r.weekno).length x.c13) r.weekno
 i14 : Prs w (.slice x.p14 (r.wday).length x.c14) r.wday
 i15 : Ints w (.slice x.p15 (r.hour).length x.c15) r.hour
 i16 : Ints w (.slice x.p16 (r.minute).length x.c16) r.minute
 i17 : Ints w (.slice x.p17 (r.second).length x.c17) r.second
 i18 : Ints w (.slice x.p18 (r.easter).length x.c18) r.easter
theorem m0 {r : Rul} {x : Av} {ru : Ru} {s0 : It} (ok : OpOk (aE r)) (hit : zT (aE r) ru s0) (rk : RulOk r) (vk : VbOk (aE r)) (hsort : ∀ F w0, j5 F w0 (raw (aE r))) (hr : RuOk ru) (hp : Plain ru) (hpres : vA ru) {most N : Nat} (hm : most ≤ 1000000) {l : List Int} (hT : Tells ru N s0 most l) (w : World) (hin : InL w r x) :
  Calls Tryz.prog 18 #[.agg (bC r x).toArray, iV most] w fun e w' => ∃ p c, e = .returned (.tuple #[.slice p l.length c, .bool true]) ∧ fL w w' (.slice p l.length c) 2 1 l.length (l.map iV) := by
 refine aI (args := [.agg (bC r x).toArray, iV most]) (L := [(0, .agg (bC r x).toArray), (1, iV most)]) (N := 38) Tryz.func18 rfl rfl ble rfl (sS w) ?_
 refine g2 ?_
 refine gL (fM 30 (cs := bC r x) dE rfl rfl rfl (fun o ho => rfl) ble (fun b1 hb1 => ?_))
 refine g6 ?_
 refine rl ((dP 30 (cs := bC r x) rfl rfl (fJ (bC r x) 0 ble) ble kR)) ?_
 refine gL (dR (ι := Option Addr × Nat) (fun y => .agg (oc0 (aE r) { x with p14 := y.1, c14 := y.2 }).toArray) (fun _ => True) (fun _ => [(30, b1)]) (fun _ => (aC 30 0 (bC r x) ++ [])) (fun y => [(11, ⟨.slice y.1 r.wday.length y.2, 59, 2, r.wday.length, eI r.wday⟩)]) dE kR rfl (fun w_ s_ => (wQ (x := x) rk (Lim.aJ4 dE _ 0 ble ((Lim.nil).aJ3 dE)) rfl (fun S => aEz hin.i14 (fun b h => h)) w_ s_).mono fun e w' ⟨p, c, he, hs⟩ => ⟨(p, c), trivial, he, hs⟩) (fun | (p0, c0), _ => ?_))
 refine gL (dR (ι := Nat × Av × LS) (fun y => .tuple #[pT y.1, .nilIface]) (fun y => OutF (fun _ => False) w (aE r) y.2.1 [(11, ⟨.slice p0 r.wday.length c0, 59, 2, r.wday.length, eI r.wday⟩)] y.2.2) (fun y => (1, y.1) :: [(30, b1)]) (fun y => aC 1 0 (iY (aE r) y.2.1) ++ (aC 30 0 (bC r x) ++ [])) (fun y => y.2.2) dE kR rfl (fun w_ s_ => (uC (x := { x with p14 := p0, c14 := c0 }) ok vk (fun _ => hsort _ _) ((Lim.aJ4 dE _ 0 ble ((Lim.nil).aJ3 dE)).aJ2 dE) rfl (fun q hq => aK dE hq _ _ ble) (SrcT.old hin.i9 (fun b h => h)) (SrcT.old hin.i10 (fun b h => h)) (SrcT.old hin.i11 (fun b h => h)) (SrcT.old hin.i12 (fun b h => h)) (SrcT.old hin.i13 (fun b h => h)) (SrcU.row (t := 11) (e := 59) rfl) (SrcT.old hin.i15 (fun b h => h)) (SrcT.old hin.i16 (fun b h => h)) (SrcT.old hin.i17 (fun b h => h)) (SrcT.old hin.i18 (fun b h => h)) w_ s_).mono fun e w' ⟨rb, x', S', he, hf, hs⟩ => ⟨(rb, x', S'), hf, he, hs⟩) (fun | (rb, x2, S2), hf2 => ?_))
 refine g11 ?_
 refine rl ((tR (v := .bool false) rfl rfl kW)) ?_
 refine g2 ?_
 refine aP rfl rfl ?_
 refine g5 ?_
 have hf2 : OutF (fun _ => False) w (aE r) x2 [(11, ⟨.slice p0 r.wday.length c0, 59, 2, r.wday.length, eI r.wday⟩)] S2 := hf2
 have hS2 : ∀ k, 26 ≤ k → lkp k S2 = none := fun k hk => by
  rcases Nat.lt_or_ge k 53 with h | h
  ·rw [hf2.fr k h oM, aA oM]; rfl
  ·exact hf2.lim k h
 have lim2 : Lim 40 ((1, rb) :: [(30, b1)]) (aC 1 0 (iY (aE r) x2) ++ (aC 30 0 (bC r x) ++ [])) S2 := ⟨fun k hk => by rw [aA oM, aA oM]; rfl, fun k hk o ho => by rw [aK oM ho _ _ ble, aK oM ho _ _ ble]; rfl, fun k hk => hS2 k oM⟩
 have hk2 : ∀ k, k ≠ 1 → k ≠ 30 → ∀ q, q < 4096 → lkp (ky k q) (aC 1 0 (iY (aE r) x2) ++ (aC 30 0 (bC r x) ++ [])) = none := fun k h1 h30 q hq => by rw [aK h1 hq _ _ ble, aK h30 hq _ _ ble]; rfl
 refine gL (dR (ι := Nat × Ad × LV × LS) (fun y => .func (.func 53) #[pT y.1] #[]) (fun y => St (fun _ => False) w y.2.2.2 y.2.2.1 y.1 rb ru (sC x2) s0 y.2.1 ((0, y.1) :: (1, rb) :: [(30, b1)]) y.2.2.1 y.2.2.2 ∧ (∀ k, 26 ≤ k → k < 40 → lkp k y.2.2.2 = lkp k S2) ∧ (∀ q, q < 4096 → lkp (ky 38 q) y.2.2.1 = none)) (fun y => (0, y.1) :: (1, rb) :: [(30, b1)]) (fun y => y.2.2.1) (fun y => y.2.2.2) dE kR rfl (fun w_ s_ => (hit _ _ _ _ _ _ x2 rb hf2 rfl (fZ _ ble) (hk2 38 dE dE) rfl (hk2 0 dE dE) lim2 w_ s_).mono fun e w' ⟨it, a, H', S', he, h1, h2, h3, hs⟩ => ⟨(it, a, H', S'), ⟨h1, h2, h3⟩, he, hs⟩) (fun | (it, a0, H3, S3), ⟨st3, hS3, h38_3⟩ => ?_))
 refine g5 ?_
 refine bJ (ι := (List Int) × (Nat) × (It) × (Ad) × (LV) × (LS) × (Option Addr) × (Nat) × (Nat) × (List Value)) (fun | ⟨acc, k, s1, a1, H1, S1, p, c, n, xs⟩ => k) (fun | ⟨acc, k, s1, a1, H1, S1, p, c, n, xs⟩ => (∃ l', l = acc ++ l' ∧ Tells ru N s1 k l') ∧ (acc.length + k = most) ∧ (St1 (fun _ => False) w it rb ru (sC x2) s1 a1 ((0, it) :: (1, rb) :: [(30, b1)]) H1 S1) ∧ (∀ q, q < 4096 → lkp (ky 38 q) H1 = none) ∧ (lkp 35 S1 = some ⟨.slice p n c, 2, 1, n, xs⟩) ∧ (n = acc.length) ∧ (xs = acc.map iV)) (fun | ⟨acc, k, s1, a1, H1, S1, p, c, n, xs⟩ => [(1, iV most), (4, .slice p n c), (8, .func (.func 53) #[pT it] #[])]) (fun | ⟨acc, k, s1, a1, H1, S1, p, c, n, xs⟩ => ((0, it) :: (1, rb) :: [(30, b1)])) (fun | ⟨acc, k, s1, a1, H1, S1, p, c, n, xs⟩ => H1) (fun | ⟨acc, k, s1, a1, H1, S1, p, c, n, xs⟩ => S1) ⟨[], most, s0, a0, i7 38 H3, (35, ⟨sN, 2, 1, 0, []⟩) :: S3, none, 0, 0, []⟩ ⟨⟨l, rfl, hT⟩, by simp, St.row35 st3 _, fun q hq => kC hq _, rfl, rfl, rfl⟩ kns (fun w s => by exact (Sees.lessH (s.aJ6 35 2 1))) ?_
 rintro ⟨acc, k, s1, a1, H1, S1, p, c, n, xs⟩ ⟨hl, hk, st1, h38, hrow, hn, hx⟩
 show GC _ _ _ _ [(1, iV most), (4, .slice p n c), (8, .func (.func 53) #[pT it] #[])] _ _ (((0, it) :: (1, rb) :: [(30, b1)])) (H1) (S1)
 refine g9 ?_
 refine aB rfl (fun hc1 => ?_) (fun hc2 => ?_)
 ·have hlt : n < most := by have := oT hc1; omega
  obtain ⟨k, rfl⟩ : ∃ j, k = j + 1 := ⟨k - 1, by omega⟩
  obtain ⟨l', hl0, hT1⟩ := hl
  obtain ⟨e, hG, hways⟩ := aA3 hT1
  refine g4 ?_
  rcases hways with ⟨hre, hl1⟩ | ⟨t, l2, hre, hl1, ht2⟩
  ·have hpv := aD9 hre
   refine g2 ?_
   refine gL (iE (ι := Ad × LV × LS) (first := [pT it]) (capt := []) (fun _ => pJ e) (fun y => St (fun _ => False) w S1 H1 it rb ru (sC x2) { e with rem := e.rem.tail } y.1 ((0, it) :: (1, rb) :: [(30, b1)]) y.2.1 y.2.2) (fun _ => ((0, it) :: (1, rb) :: [(30, b1)])) (fun y => y.2.1) (fun y => y.2.2) dE rfl kR rfl (fun w_ s_ => (sW st1 rfl h38 hr hp hpres hG w_ s_).mono fun e2 w' ⟨a', H', S', he, hst, hs⟩ => ⟨(a', H', S'), hst, he, hs⟩) (fun | (a2, H2, S2'), st2 => ?_))
   have st2 : St (fun _ => False) w S1 H1 it rb ru (sC x2) { e with rem := e.rem.tail } a2 ((0, it) :: (1, rb) :: [(30, b1)]) H2 S2' := st2
   rw [hpv]
   have hrow2 : lkp 35 S2' = some ⟨.slice p n c, 2, 1, n, xs⟩ := (st2.frS 35 dE dE).trans hrow
   refine g3 ?_
   refine gL (eB 38 (cs := [iV 0, iV 0]) dE kR rfl (fun o ho => (st2.frH 38 dE dE o ho).trans (h38 o ho)) ble (fun b9 hb9 => ?_))
   refine gL (sta 38 rfl rfl rfl rfl ?_)
   refine g10 ?_
   refine o6 ?_
   rw [hl1, List.append_nil] at hl0
   subst hl0 hn hx
   refine dQ (.inl rfl) rfl (aD rfl) (aD rfl) fun w_ s_ => ⟨p, c, rfl, ?_⟩
   have h := s_.toNew (k := 35) hrow2
   exact h
  ·have hpv := aCt hre
   refine g2 ?_
   refine gL (iE (ι := Ad × LV × LS) (first := [pT it]) (capt := []) (fun _ => pJ e) (fun y => St (fun _ => False) w S1 H1 it rb ru (sC x2) { e with rem := e.rem.tail } y.1 ((0, it) :: (1, rb) :: [(30, b1)]) y.2.1 y.2.2) (fun _ => ((0, it) :: (1, rb) :: [(30, b1)])) (fun y => y.2.1) (fun y => y.2.2) dE rfl kR rfl (fun w_ s_ => (sW st1 rfl h38 hr hp hpres hG w_ s_).mono fun e2 w' ⟨a', H', S', he, hst, hs⟩ => ⟨(a', H', S'), hst, he, hs⟩) (fun | (a2, H2, S2'), st2 => ?_))
   have st2 : St (fun _ => False) w S1 H1 it rb ru (sC x2) { e with rem := e.rem.tail } a2 ((0, it) :: (1, rb) :: [(30, b1)]) H2 S2' := st2
   rw [hpv]
   have hrow2 : lkp 35 S2' = some ⟨.slice p n c, 2, 1, n, xs⟩ := (st2.frS 35 dE dE).trans hrow
   refine g3 ?_
   refine gL (eB 38 (cs := [iV 0, iV 0]) dE kR rfl (fun o ho => (st2.frH 38 dE dE o ho).trans (h38 o ho)) ble (fun b9 hb9 => ?_))
   refine gL (sta 38 rfl rfl rfl rfl ?_)
   refine o6 ?_
   refine rl (aV 38 rfl rfl rfl rfl kR dE) ?_
   refine gL (cvo rfl (fun w_ s_ => uZ _ _ w_) ?_)
   refine gL (dK 60 (e := 2) (sz := 1) (by_ := 8) (zs := [iV 0]) dE kR rfl dE dE rfl rfl rfl (fun bo => ?_))
   refine gL (cU 35 60 (e := 2) (sz := 1) (by_ := 8) (zs := [iV 0]) (q := ⟨.slice p n c, 2, 1, n, xs⟩) dE kR rfl dE rfl rfl hrow2 rfl ⟨rfl, rfl⟩ ⟨rfl, rfl⟩ (f9 (xs := [t])) sO sO (fun p' c' => ?_))
   have hback : ∀ {w1 : World} {u1 : Slc} {Hx : LV}, Sees (fun _ => False) w ((38, b9) :: ((0, it) :: (1, rb) :: [(30, b1)])) Hx ((35, ⟨.slice p' (n + 1) c', 2, 1, (n + 1), (xs ++ [iV t])⟩) :: (60, u1) :: S2') w1 → i7 38 Hx = i7 38 H2 → Sees (fun _ => False) w ((0, it) :: (1, rb) :: [(30, b1)]) (i7 38 H2) ((35, ⟨.slice p' (n + 1) c', 2, 1, (n + 1), (xs ++ [iV t])⟩) :: S2') w1 := fun s hx => by have s2 := Sees.dropTag s rfl; rw [hx] at s2; exact Sees.dropRow2 s2 (st2.lim.s 60 dE) dE
   refine g3 ?_
   refine aQ ⟨acc ++ [t], k, { e with rem := e.rem.tail }, a2, i7 38 H2, (35, ⟨.slice p' (n + 1) c', 2, 1, (n + 1), (xs ++ [iV t])⟩) :: S2', p', c', n + 1, xs ++ [iV t]⟩ sO ⟨⟨l2, by rw [hl0, hl1, List.append_assoc]; rfl, ht2⟩, by rw [List.length_append]; simp only [List.length_singleton]; omega, St.row35 st2 _, fun q hq => kC hq _, rfl, by rw [List.length_append, hn]; rfl, by rw [hx]; simp⟩ kns (fun w s => by exact hback s (by rw [rB _ _ ble, vC _ _ ble]))
 ·have hge : ¬ n < most := by have := oF hc2; omega
  obtain rfl : k = 0 := by omega
  obtain ⟨l', hl0, hT1⟩ := hl
  cases hT1
  rw [List.append_nil] at hl0
  subst hl0 hn hx
  refine g13 ?_
  refine dQ (.inl rfl) rfl (aD rfl) (aD rfl) fun w_ s_ => ⟨p, c, rfl, ?_⟩
  have h := s_.toNew (k := 35) hrow
  exact h
theorem aFa (y : Int) (h0 : 0 ≤ y) (h : y % 4 ≠ 0) (w : World) : Calls Tryz.prog 99 #[iV y] w fun e w' => e = .returned (.bool false) ∧ Below w.heap.size w w' := by
 refine aI (args := [iV y]) (L := [(0, iV y)]) (N := 16) Tryz.func99 rfl rfl ble rfl (sS w) ?_
 refine g9 ?_
 refine rl ((aR rfl rfl).to (cB (qW h))) ?_
 refine g14 ?_
 refine gR rfl fun w_ s_ => ⟨?_, s_.aJ0⟩
 first | rfl | (simp; done)
theorem aDs (y : Int) (h0 : 0 ≤ y) (h : y % 4 = 0) (h1 : y % 100 ≠ 0) (w : World) : Calls Tryz.prog 99 #[iV y] w fun e w' => e = .returned (.bool true) ∧ Below w.heap.size w w' := by
 refine aI (args := [iV y]) (L := [(0, iV y)]) (N := 16) Tryz.func99 rfl rfl ble rfl (sS w) ?_
 refine g9 ?_
 refine rl ((aR rfl rfl).to (cB (qF h))) ?_
 refine g6 ?_
 refine rl ((cJ rfl rfl).to (cB (i3 h1))) ?_
 refine g12 ?_
 refine gR rfl fun w_ s_ => ⟨?_, s_.aJ0⟩
 first | rfl | (simp; done)
theorem aDn (y : Int) (h0 : 0 ≤ y) (h : y % 4 = 0) (h1 : y % 100 = 0) (w : World) : Calls Tryz.prog 99 #[iV y] w fun e w' => e = .returned (.bool (y % 400 == 0)) ∧ Below w.heap.size w w' := by
 refine aI (args := [iV y]) (L := [(0, iV y)]) (N := 16) Tryz.func99 rfl rfl ble rfl (sS w) ?_
 refine g9 ?_
 refine rl ((aR rfl rfl).to (cB (qF h))) ?_
 refine g6 ?_
 refine rl ((cJ rfl rfl).to (cB (jO h1))) ?_
 refine g15 ?_
 refine gR rfl fun w_ s_ => ⟨?_, s_.aJ0⟩
 first | rfl | (simp; done)
theorem yW (y : Int) (h0 : 0 ≤ y) (w : World) : Calls Tryz.prog 99 #[iV y] w fun e w' => e = .returned (.bool (Cal.leapB y)) ∧ Below w.heap.size w w' := by
 by_cases h : y % 4 = 0
 ·by_cases h1 : y % 100 = 0
  ·refine (aDn y h0 h h1 w).mono fun e w' ⟨he, hb⟩ => ⟨he.trans (lZ ?_), hb⟩
   unfold Cal.leapB
   by_cases h2 : y % 400 = 0 <;> simp [h, h1, h2]
  ·refine (aDs y h0 h h1 w).mono fun e w' ⟨he, hb⟩ => ⟨he.trans (lZ ?_), hb⟩
   unfold Cal.leapB
   simp [h, h1]
 ·refine (aFa y h0 h w).mono fun e w' ⟨he, hb⟩ => ⟨he.trans (lZ ?_), hb⟩
  unfold Cal.leapB
  simp [h]
theorem iG (y : Int) (h0 : 0 ≤ y) (w : World) : Calls Tryz.prog 59 #[iV y] w fun e w' => e = .returned (iV (365 + Cal.lp y)) ∧ Below w.heap.size w w' := by
 refine aI (args := [iV y]) (L := [(0, iV y)]) (N := 5) Tryz.func59 rfl rfl ble rfl (sS w) ?_
 refine g9 ?_
 refine gL (cvo rfl (fun w_ s_ => yW _ oM w_) ?_)
 refine g2 ?_
 refine aB rfl (fun c4_ => ?_) (fun c4_ => ?_)
 ·first | have p4_ := oT c4_ | have p4_ := beq_iff_eq.1 c4_ | have p4_ := bne_iff_ne.1 c4_ | skip
  refine g7 ?_
  refine gR rfl fun w_ s_ => ⟨?_, s_.aJ0⟩
  refine dZ ?_
  simp_all [Cal.lp]
 ·first | have p4_ := oF c4_ | have p4_ := beq_eq_false_iff_ne.1 c4_ | have p4_ := bne_eq_false_iff_eq.1 c4_ | skip
  refine g8 ?_
  refine gR rfl fun w_ s_ => ⟨?_, s_.aJ0⟩
  refine dZ ?_
  simp_all [Cal.lp]
theorem eZ (y : Int) (h0 : 1 ≤ y ∧ y ≤ 1000000000) (w : World) : Calls Tryz.prog 27 #[iV y] w fun e w' => e = .returned (iV (Cal.daysTo y)) ∧ Below w.heap.size w w' := by
 refine aI (args := [iV y]) (L := [(0, iV y)]) (N := 17) Tryz.func27 rfl rfl ble rfl (sS w) ?_
 refine g25 ?_
 refine g4 ?_
 refine gR rfl fun w_ s_ => ⟨?_, s_.aJ0⟩
 refine dZ ?_
 unfold Cal.daysTo
 omega
theorem gM (y m : Int) (h0 : 0 ≤ y) (w : World) : Calls Tryz.prog 61 #[iV y, iV m] w fun e w' => e = .returned (iV (Cal.mdays m y)) ∧ Below w.heap.size w w' := by
 refine aI (args := [iV y, iV m]) (L := [(0, iV y), (1, iV m)]) (N := 16) Tryz.func61 rfl rfl ble rfl (sS w) ?_
 have hlp := Cal.lp_01 y
 refine g18 ?_
 refine g1 ?_
 refine aB rfl (fun c6_ => ?_) (fun c6_ => ?_)
 ·first | have p6_ := oT c6_ | have p6_ := beq_iff_eq.1 c6_ | have p6_ := bne_iff_ne.1 c6_ | skip
  refine g2 ?_
  refine aB rfl (fun c6_ => ?_) (fun c6_ => ?_)
  ·first | have p6_ := oT c6_ | have p6_ := beq_iff_eq.1 c6_ | have p6_ := bne_iff_ne.1 c6_ | skip
   refine g8 ?_
   refine gR rfl fun w_ s_ => ⟨?_, s_.aJ0⟩
   refine dZ ?_
   unfold Cal.mdays
   simp_all
   try omega
  ·first | have p6_ := oF c6_ | have p6_ := beq_eq_false_iff_ne.1 c6_ | have p6_ := bne_eq_false_iff_eq.1 c6_ | skip
   refine g6 ?_
   refine aB rfl (fun c11_ => ?_) (fun c11_ => ?_)
   ·first | have p11_ := oT c11_ | have p11_ := beq_iff_eq.1 c11_ | have p11_ := bne_iff_ne.1 c11_ | skip
    refine g3 ?_
    refine gL (cvo rfl (fun w_ s_ => iG _ oM w_) ?_)
    refine g7 ?_
    refine gR rfl fun w_ s_ => ⟨?_, s_.aJ0⟩
    refine dZ ?_
    unfold Cal.mdays
    simp_all
    try omega
   ·first | have p11_ := oF c11_ | have p11_ := beq_eq_false_iff_ne.1 c11_ | have p11_ := bne_eq_false_iff_eq.1 c11_ | skip
    refine g9 ?_
    refine gR rfl fun w_ s_ => ⟨?_, s_.aJ0⟩
    refine dZ ?_
    unfold Cal.mdays
    simp_all
    try omega
 ·first | have p6_ := oF c6_ | have p6_ := beq_eq_false_iff_ne.1 c6_ | have p6_ := bne_eq_false_iff_eq.1 c6_ | skip
  refine g6 ?_
  refine aB rfl (fun c6_ => ?_) (fun c6_ => ?_)
  ·first | have p6_ := oT c6_ | have p6_ := beq_iff_eq.1 c6_ | have p6_ := bne_iff_ne.1 c6_ | skip
   refine g2 ?_
   refine aB rfl (fun c6_ => ?_) (fun c6_ => ?_)
   ·first | have p6_ := oT c6_ | have p6_ := beq_iff_eq.1 c6_ | have p6_ := bne_iff_ne.1 c6_ | skip
    refine g8 ?_
    refine gR rfl fun w_ s_ => ⟨?_, s_.aJ0⟩
    refine dZ ?_
    unfold Cal.mdays
    simp_all
    try omega
   ·first | have p6_ := oF c6_ | have p6_ := beq_eq_false_iff_ne.1 c6_ | have p6_ := bne_eq_false_iff_eq.1 c6_ | skip
    refine g6 ?_
    refine aB rfl (fun c11_ => ?_) (fun c11_ => ?_)
    ·first | have p11_ := oT c11_ | have p11_ := beq_iff_eq.1 c11_ | have p11_ := bne_iff_ne.1 c11_ | skip
     refine g3 ?_
     refine gL (cvo rfl (fun w_ s_ => iG _ oM w_) ?_)
     refine g7 ?_
     refine gR rfl fun w_ s_ => ⟨?_, s_.aJ0⟩
     refine dZ ?_
     unfold Cal.mdays
     simp_all
     try omega
    ·first | have p11_ := oF c11_ | have p11_ := beq_eq_false_iff_ne.1 c11_ | have p11_ := bne_eq_false_iff_eq.1 c11_ | skip
     refine g9 ?_
     refine gR rfl fun w_ s_ => ⟨?_, s_.aJ0⟩
     refine dZ ?_
     unfold Cal.mdays
     simp_all
     try omega
  ·first | have p6_ := oF c6_ | have p6_ := beq_eq_false_iff_ne.1 c6_ | have p6_ := bne_eq_false_iff_eq.1 c6_ | skip
   refine g6 ?_
   refine aB rfl (fun c6_ => ?_) (fun c6_ => ?_)
   ·first | have p6_ := oT c6_ | have p6_ := beq_iff_eq.1 c6_ | have p6_ := bne_iff_ne.1 c6_ | skip
    refine g2 ?_
    refine aB rfl (fun c6_ => ?_) (fun c6_ => ?_)
    ·first | have p6_ := oT c6_ | have p6_ := beq_iff_eq.1 c6_ | have p6_ := bne_iff_ne.1 c6_ | skip
     refine g8 ?_
     refine gR rfl fun w_ s_ => ⟨?_, s_.aJ0⟩
     refine dZ ?_
     unfold Cal.mdays
     simp_all
     try omega
    ·first | have p6_ := oF c6_ | have p6_ := beq_eq_false_iff_ne.1 c6_ | have p6_ := bne_eq_false_iff_eq.1 c6_ | skip
     refine g6 ?_
     refine aB rfl (fun c11_ => ?_) (fun c11_ => ?_)
     ·first | have p11_ := oT c11_ | have p11_ := beq_iff_eq.1 c11_ | have p11_ := bne_iff_ne.1 c11_ | skip
      refine g3 ?_
      refine gL (cvo rfl (fun w_ s_ => iG _ oM w_) ?_)
      refine g7 ?_
      refine gR rfl fun w_ s_ => ⟨?_, s_.aJ0⟩
      refine dZ ?_
      unfold Cal.mdays
      simp_all
      try omega
     ·first | have p11_ := oF c11_ | have p11_ := beq_eq_false_iff_ne.1 c11_ | have p11_ := bne_eq_false_iff_eq.1 c11_ | skip
      refine g9 ?_
      refine gR rfl fun w_ s_ => ⟨?_, s_.aJ0⟩
      refine dZ ?_
      unfold Cal.mdays
      simp_all
      try omega
   ·first | have p6_ := oF c6_ | have p6_ := beq_eq_false_iff_ne.1 c6_ | have p6_ := bne_eq_false_iff_eq.1 c6_ | skip
    refine g5 ?_
    refine aB rfl (fun c6_ => ?_) (fun c6_ => ?_)
    ·first | have p6_ := oT c6_ | have p6_ := beq_iff_eq.1 c6_ | have p6_ := bne_iff_ne.1 c6_ | skip
     refine g8 ?_
     refine gR rfl fun w_ s_ => ⟨?_, s_.aJ0⟩
     refine dZ ?_
     unfold Cal.mdays
     simp_all
     try omega
    ·first | have p6_ := oF c6_ | have p6_ := beq_eq_false_iff_ne.1 c6_ | have p6_ := bne_eq_false_iff_eq.1 c6_ | skip
     refine g6 ?_
     refine aB rfl (fun c11_ => ?_) (fun c11_ => ?_)
     ·first | have p11_ := oT c11_ | have p11_ := beq_iff_eq.1 c11_ | have p11_ := bne_iff_ne.1 c11_ | skip
      refine g3 ?_
      refine gL (cvo rfl (fun w_ s_ => iG _ oM w_) ?_)
      refine g7 ?_
      refine gR rfl fun w_ s_ => ⟨?_, s_.aJ0⟩
      refine dZ ?_
      unfold Cal.mdays
      simp_all
      try omega
     ·first | have p11_ := oF c11_ | have p11_ := beq_eq_false_iff_ne.1 c11_ | have p11_ := bne_eq_false_iff_eq.1 c11_ | skip
      refine g9 ?_
      refine gR rfl fun w_ s_ => ⟨?_, s_.aJ0⟩
      refine dZ ?_
      unfold Cal.mdays
      simp_all
      try omega
theorem w9 (y m d : Int) (h0 : 1 ≤ y ∧ y ≤ 1000000000) (hm : 1 ≤ m ∧ m ≤ 12) (hd : 0 ≤ d ∧ d ≤ 1000) (w : World) : Calls Tryz.prog 60 #[iV y, iV m, iV d] w fun e w' => e = .returned (iV (Cal.daysTo y + d - 1 + Cal.cum y (m - 1).toNat)) ∧ Below w.heap.size w w' := by
 refine aI (args := [iV y, iV m, iV d]) (L := [(0, iV y), (1, iV m), (2, iV d)]) (N := 25) Tryz.func60 rfl rfl ble rfl (sS w) ?_
 have hdt0 : 0 ≤ Cal.daysTo y ∧ Cal.daysTo y ≤ 400000000000 := by unfold Cal.daysTo; omega
 refine g8 ?_
 refine gL (cvo rfl (fun w_ s_ => eZ _ oM w_) ?_)
 refine g13 ?_
 refine bJ (ι := (Nat)) (fun k => (m - 1).toNat - k) (fun k => ((k : Int) + 1 ≤ m)) (fun k => [(0, iV y), (1, iV m), (7, iV (Cal.daysTo y + d - 1 + Cal.cum y k)), (8, iV ((k : Int) + 1))]) (fun k => []) (fun k => []) (fun k => []) 0 (by show ((0 : Nat) : Int) + 1 ≤ m; omega) (fun a q => q.cons rfl (q.cons rfl (q.cons (by exact congrArg (fun n : Int => some (iV n)) (by simp [Cal.cum])) (q.cons rfl q.nil)))) (fun w s => by exact s) ?_
 rintro k hk
 show GC _ _ _ _ [(0, iV y), (1, iV m), (7, iV (Cal.daysTo y + d - 1 + Cal.cum y k)), (8, iV ((k : Int) + 1))] _ _ ([]) ([]) ([])
 have hcb := Cal.cum_bd y k
 have hmd := Cal.mdays_bd ((k : Int) + 1) y
 have hdt : 0 ≤ Cal.daysTo y ∧ Cal.daysTo y ≤ 400000000000 := by unfold Cal.daysTo; omega
 refine g8 ?_
 refine aB rfl (fun hc1 => ?_) (fun hc2 => ?_)
 ·have hlt : (k : Int) + 1 < m := oT hc1
  refine g8 ?_
  refine gL (cvo rfl (fun w_ s_ => gM _ _ oM w_) ?_)
  refine g10 ?_
  refine aQ (k + 1) oM (by show ((k + 1 : Nat) : Int) + 1 ≤ m; omega) (fun a q => q.cons rfl (q.cons rfl (q.cons (by exact congrArg (fun n : Int => some (iV n)) (by simp only [Cal.cum]; omega)) (q.cons (by exact congrArg (fun n : Int => some (iV n)) oM) q.nil)))) (fun w s => by exact s)
 ·have hge : ¬ (k : Int) + 1 < m := oF hc2
  obtain rfl : m = (k : Int) + 1 := by omega
  refine g12 ?_
  refine gR rfl fun w_ s_ => ⟨?_, s_.aJ0⟩
  exact dZ (by rw [show ((k : Int) + 1 - 1).toNat = k by omega])
theorem rF (p p' : Option Addr) (c c' : Nat) (l : List Int) (hl : l.length ≤ 1000000000) (w : World) (h : Ints w (.slice p l.length c) l) (h' : Ints w (.slice p' l.length c') l) : Calls Tryz.prog 23 #[.slice p l.length c, .slice p' l.length c'] w fun e w' => e = .returned (.bool true) ∧ Below w.heap.size w w' := by
 obtain ⟨p1, c1, e1, hc1_⟩ := h
 obtain ⟨p2, c2, e2, hc2_⟩ := h'
 injection e1 with e11 e12 e13
 injection e2 with e21 e22 e23
 subst e11 e21
 refine aI (args := [.slice p l.length c, .slice p' l.length c']) (L := [(0, .slice p l.length c), (1, .slice p' l.length c')]) (N := 26) Tryz.func23 rfl rfl ble rfl (sS w) ?_
 refine g15 ?_
 refine aP rfl (jO rfl) ?_
 refine g11 ?_
 refine bJ (ι := (Nat)) (fun k => l.length - k) (fun k => (k ≤ l.length)) (fun k => [(0, .slice p l.length c), (1, .slice p' l.length c'), (11, .slice p l.length c), (12, iV (l.length)), (13, iV k)]) (fun k => []) (fun k => []) (fun k => []) 0 (Nat.zero_le _) kns (fun w s => by exact s) ?_
 rintro k hk
 show GC _ _ _ _ [(0, .slice p l.length c), (1, .slice p' l.length c'), (11, .slice p l.length c), (12, iV (l.length)), (13, iV k)] _ _ ([]) ([]) ([])
 refine g6 ?_
 refine aB rfl (fun hc1 => ?_) (fun hc2 => ?_)
 ·have hlt : k < l.length := by have := oT hc1; omega
  obtain ⟨y, hy⟩ : ∃ y, l[k]? = some y := ⟨_, List.getElem?_eq_getElem hlt⟩
  obtain ⟨b, o, rfl, q1⟩ := hc1_ k y hy
  obtain ⟨b', o', rfl, q2⟩ := hc2_ k y hy
  refine g14 ?_
  refine rq (aF (e := 2) (n := 1) kR rfl rfl oM oM) ?_
  refine rq (fK rfl (by rw [← q1]; congr 2; omega) (fun h => h) kR) ?_
  refine g2 ?_
  refine rq (aF (e := 2) (n := 1) kR rfl rfl oM oM) ?_
  refine rq (fK rfl (by rw [← q2]; congr 2; omega) (fun h => h) kR) ?_
  refine g3 ?_
  refine aP rfl (jO rfl) ?_
  refine g7 ?_
  refine aQ (k + 1) oM (by show k + 1 ≤ l.length; omega) kns (fun w s => by exact s)
 ·have hge : ¬ k < l.length := by have := oF hc2; omega
  refine g11 ?_
  exact gR rfl fun w_ s_ => ⟨rfl, s_.aJ0⟩
theorem tT {ts : List Int} (h : ts.length ≤ 1000000000) (F : Nat → Prop) (w0 : World) : j5 F w0 ts := fun B H S p c w lim hrow hs => mI (t := 2) dE h lim hrow w hs
theorem InL.see {w : World} {r : Rul} {x : Av} (s : Sees (fun _ => False) w0 B H S w) (h : InL w0 r x) : InL w r x :=
 ⟨bM s h.i9, bM s h.i10, bM s h.i11, bM s h.i12, bM s h.i13, oC s h.i14, bM s h.i15, bM s h.i16, bM s h.i17, bM s h.i18⟩
theorem zW (xs : List Int) (x : Int) (v : Value) (hl : xs.length ≤ 2147483647) (w : World) (hI : Ints w v xs) : Calls Tryz.prog 39 #[v, iV x] w fun e w' => ∃ i : Int, decide (0 ≤ i) = xs.any (· == x) ∧ e = .returned (iV i) ∧ Below w.heap.size w w' := by
 obtain ⟨p, c, rfl, hI⟩ := hI
 refine aI (args := [.slice p xs.length c, iV x]) (L := [(0, .slice p xs.length c), (1, iV x)]) (N := 19) Tryz.func39 rfl rfl ble rfl (sS w) ?_
 refine g14 ?_
 refine bJ (ι := (Nat)) (fun k => xs.length - k) (fun k => (k ≤ xs.length) ∧ ((xs.take k).any (· == x) = false)) (fun k => [(0, .slice p xs.length c), (1, iV x), (7, iV (xs.length)), (8, iV k)]) (fun k => []) (fun k => []) (fun k => []) 0 ⟨by omega, rfl⟩ kns (fun w s => by exact s) ?_
 rintro k ⟨hk, hn⟩
 show GC _ _ _ _ [(0, .slice p xs.length c), (1, iV x), (7, iV (xs.length)), (8, iV k)] _ _ ([]) ([]) ([])
 refine g6 ?_
 refine aB rfl (fun hc1 => ?_) (fun hc2 => ?_)
 ·have hlt : k < xs.length := by have := oT hc1; omega
  obtain ⟨y, hy⟩ : ∃ y, xs[k]? = some y := ⟨_, List.getElem?_eq_getElem hlt⟩
  obtain ⟨b, o, rfl, hcell⟩ := hI k y hy
  refine g15 ?_
  refine rl (aF (e := 3) (n := 1) kR rfl rfl oM oM) ?_
  refine rZ3 (fK rfl (v := iV y) (by rw [← hcell]; congr 2; omega) (fun h => h) kR) ?_
  refine aB rfl (fun hc1 => ?_) (fun hc2 => ?_)
  ·have hq : y = x := (beq_iff_eq.1 hc1).symm
   refine g12 ?_
   exact aT (.inl rfl) rfl (aD rfl) fun w_ s_ => ⟨_, by rw [decide_eq_true oM]; exact (List.any_eq_true.2 ⟨y, List.mem_of_getElem? hy, by rw [hq]; exact beq_self_eq_true _⟩).symm, rfl, s_.aJ0⟩
  ·have hne : y ≠ x := fun e => beq_eq_false_iff_ne.1 hc2 e.symm
   refine g7 ?_
   refine aQ (k + 1) oM ⟨by omega, by rw [List.take_add_one, hy, List.any_append, hn]; simpa using hne⟩ kns (fun w s => by exact s)
 ·have hge : ¬ k < xs.length := by have := oF hc2; omega
  refine g11 ?_
  exact aT (.inl rfl) rfl (aD rfl) fun w_ s_ => ⟨_, by rw [← List.take_length (l := xs), show xs.length = k by omega, hn]; rfl, rfl, s_.aJ0⟩
theorem cQ (xs : List Int) (x : Int) (v : Value) (hl : xs.length ≤ 2147483647) (w : World) (hI : Ints w v xs) : Calls Tryz.prog 29 #[v, iV x] w fun e w' => e = .returned (.bool (xs.any (· == x))) ∧ Below w.heap.size w w' := by
 refine aI (args := [v, iV x]) (L := [(0, v), (1, iV x)]) (N := 9) Tryz.func29 rfl rfl ble rfl (sS w) ?_
 refine g9 ?_
 refine gL (cbx (fun i : Int => iV i) (fun i => decide (0 ≤ i) = xs.any (· == x)) rfl (fun w_ s_ => zW xs x v hl w_ (bM s_ hI)) (fun i hi => ?_))
 refine rZ4 ((bZ rfl rfl).to (v' := .bool (xs.any (· == x))) (cB hi)) ?_
 exact gR rfl fun w_ s_ => ⟨rfl, s_.aJ0⟩
theorem vZ (xs : List (Int × Int)) (x : Int × Int) (v : Value) (hl : xs.length ≤ 2147483647) (w : World) (hI : Prs w v xs) : Calls Tryz.prog 40 #[v, .agg #[iV x.1, iV x.2]] w fun e w' => ∃ i : Int, decide (0 ≤ i) = xs.any (· == x) ∧ e = .returned (iV i) ∧ Below w.heap.size w w' := by
 obtain ⟨p, c, rfl, hI⟩ := hI
 refine aI (args := [.slice p xs.length c, .agg #[iV x.1, iV x.2]]) (L := [(0, .slice p xs.length c), (1, .agg #[iV x.1, iV x.2])]) (N := 19) Tryz.func40 rfl rfl ble rfl (sS w) ?_
 refine g2 ?_
 refine gL (bxo 50 rfl rfl rfl (fun b1_ hbb1_ => ?_))
 refine g12 ?_
 refine bJ (ι := (Nat)) (fun k => xs.length - k) (fun k => (k ≤ xs.length) ∧ ((xs.take k).any (· == x) = false)) (fun k => [(0, .slice p xs.length c), (3, pT b1_), (7, iV (xs.length)), (8, iV k)]) (fun k => (50, b1_) :: []) (fun k => aC 50 0 [iV x.1, iV x.2] ++ []) (fun k => []) 0 ⟨by omega, rfl⟩ kns (fun w s => by exact s) ?_
 rintro k ⟨hk, hn⟩
 show GC _ _ _ _ [(0, .slice p xs.length c), (3, pT b1_), (7, iV (xs.length)), (8, iV k)] _ _ ((50, b1_) :: []) (aC 50 0 [iV x.1, iV x.2] ++ []) ([])
 refine g6 ?_
 refine aB rfl (fun hc1 => ?_) (fun hc2 => ?_)
 ·have hlt : k < xs.length := by have := oT hc1; omega
  obtain ⟨y, hy⟩ : ∃ y, xs[k]? = some y := ⟨_, List.getElem?_eq_getElem hlt⟩
  obtain ⟨b, o, rfl, hca, hcb⟩ := hI k y hy
  refine g12 ?_
  refine rq (aV 50 rfl rfl rfl rfl kR dE) ?_
  refine g2 ?_
  refine rq (aF (e := 47) (n := 2) kR rfl rfl oM oM) ?_
  refine rq (gT rfl (by rw [← hca]; congr 2; omega) (by rw [← hcb]; congr 2; omega) (fun h => h) kR) ?_
  refine rq ((aFp rfl rfl).to (v' := .bool (x == y)) rfl) ?_
  refine g2 ?_
  refine aB rfl (fun hc1 => ?_) (fun hc2 => ?_)
  ·have hq : y = x := (beq_iff_eq.1 hc1).symm
   refine g12 ?_
   exact aT (.inl rfl) rfl (aD rfl) fun w_ s_ => ⟨_, by rw [decide_eq_true oM]; exact (List.any_eq_true.2 ⟨y, List.mem_of_getElem? hy, by rw [hq]; exact beq_self_eq_true _⟩).symm, rfl, s_.aJ0⟩
  ·have hne : y ≠ x := fun e => beq_eq_false_iff_ne.1 hc2 e.symm
   refine g7 ?_
   refine aQ (k + 1) oM ⟨by omega, by rw [List.take_add_one, hy, List.any_append, hn]; simpa using hne⟩ kns (fun w s => by exact s)
 ·have hge : ¬ k < xs.length := by have := oF hc2; omega
  refine g11 ?_
  exact aT (.inl rfl) rfl (aD rfl) fun w_ s_ => ⟨_, by rw [← List.take_length (l := xs), show xs.length = k by omega, hn]; rfl, rfl, s_.aJ0⟩
theorem iW (xs : List (Int × Int)) (x : Int × Int) (v : Value) (hl : xs.length ≤ 2147483647) (w : World) (hI : Prs w v xs) : Calls Tryz.prog 30 #[v, .agg #[iV x.1, iV x.2]] w fun e w' => e = .returned (.bool (xs.any (· == x))) ∧ Below w.heap.size w w' := by
 refine aI (args := [v, .agg #[iV x.1, iV x.2]]) (L := [(0, v), (1, .agg #[iV x.1, iV x.2])]) (N := 9) Tryz.func30 rfl rfl ble rfl (sS w) ?_
 refine g2 ?_
 refine gL (bxo 50 rfl rfl rfl (fun b1_ hbb1_ => ?_))
 refine g6 ?_
 refine rl (aV 50 rfl rfl rfl rfl kR dE) ?_
 refine gL (cbx (fun i : Int => iV i) (fun i => decide (0 ≤ i) = xs.any (· == x)) rfl (fun w_ s_ => vZ xs x v hl w_ (oC s_ hI)) (fun i hi => ?_))
 refine rZ4 ((bZ rfl rfl).to (v' := .bool (xs.any (· == x))) (cB hi)) ?_
 exact gR rfl fun w_ s_ => ⟨rfl, s_.aJ0⟩
theorem jD (x : Int) (h0 : 0 ≤ x) (w : World) : Calls Tryz.prog 31 #[iV x] w fun e w' => e = .returned (iV (x % 7)) ∧ Below w.heap.size w w' := by
 refine aI (args := [iV x]) (L := [(0, iV x)]) (N := 5) Tryz.func31 rfl rfl ble rfl (sS w) ?_
 refine g13 ?_
 refine gR rfl fun w_ s_ => ⟨?_, s_.aJ0⟩
 rfl
theorem xP (x : Int) (h0 : 0 ≤ x ∧ x ≤ 1000000000000000) (w : World) : Calls Tryz.prog 98 #[iV x] w fun e w' => e = .returned (.tuple #[iV (x % 86400 / 3600), iV (x % 86400 / 60 % 60), iV (x % 86400 % 60)]) ∧ Below w.heap.size w w' := by
 refine aI (args := [iV x]) (L := [(0, iV x)]) (N := 15) Tryz.func98 rfl rfl ble rfl (sS w) ?_
 refine g25 ?_
 refine g4 ?_
 refine jI (.inl rfl) rfl (aD rfl) (aD rfl) (aD rfl) fun w_ s_ => ⟨?_, s_.aJ0⟩
 exact rK rfl rfl rfl
theorem aCs {d y : Int} (h1 : Cal.daysTo y ≤ d) (h2 : d < Cal.daysTo (y + 1)) : Cal.yearOf d = y := by
 have hs := Cal.split_spec d
 have hd1 : Cal.daysTo (Cal.yearOf d) ≤ d ∧ d < Cal.daysTo (Cal.yearOf d + 1) := by
  have := Cal.daysTo_succ (Cal.yearOf d)
  omega
 rcases Int.lt_trichotomy (Cal.yearOf d) y with h | h | h
 ·have := Cal.daysTo_mono (show Cal.yearOf d + 1 ≤ y by omega); omega
 ·exact h
 ·have := Cal.daysTo_mono (show y + 1 ≤ Cal.yearOf d by omega); omega
theorem nB (d : Int) (h0 : 0 ≤ d ∧ d ≤ 100000000) (w : World) : Calls Tryz.prog 58 #[iV d] w fun e w' => e = .returned (.tuple #[iV (Cal.yearOf d), iV (Cal.monthOf d), iV (Cal.mdayOf d)]) ∧ Below w.heap.size w w' := by
 refine aI (args := [iV d]) (L := [(0, iV d)]) (N := 35) Tryz.func58 rfl rfl ble rfl (sS w) ?_
 refine g16 ?_
 refine g1 ?_
 refine bJ (ι := (Int)) (fun y => (d / 365 + 2 - y).toNat) (fun y => (1 ≤ y ∧ y ≤ d / 365 + 1) ∧ (Cal.daysTo y ≤ d)) (fun y => [(0, iV d), (2, iV y)]) (fun y => []) (fun y => []) (fun y => []) (d / 366 + 1) ⟨by omega, by unfold Cal.daysTo; omega⟩ kns (fun w s => by exact s) ?_
 rintro y ⟨hy1, hy⟩
 show GC _ _ _ _ [(0, iV d), (2, iV y)] _ _ ([]) ([]) ([])
 have hdy : 0 ≤ Cal.daysTo (y + 1) ∧ Cal.daysTo (y + 1) ≤ 400000000000 := by unfold Cal.daysTo; omega
 refine g5 ?_
 refine gL (cvo rfl (fun w_ s_ => eZ _ oM w_) ?_)
 refine g4 ?_
 refine aB rfl (fun hc1 => ?_) (fun hc2 => ?_)
 ·have hle : Cal.daysTo (y + 1) ≤ d := oT hc1
  refine g9 ?_
  refine aQ (y + 1) oM ⟨by have := hle; unfold Cal.daysTo at this; omega, hle⟩ kno (fun w s => by exact s)
 ·have hlt : d < Cal.daysTo (y + 1) := by have := oF hc2; omega
  have hdy0 : 0 ≤ Cal.daysTo y := by unfold Cal.daysTo; omega
  refine g9 ?_
  refine gL (cvo rfl (fun w_ s_ => eZ _ oM w_) ?_)
  refine g11 ?_
  have hYD := aCs hy hlt
  have hsp := (Cal.split_spec d).2
  have hs1 := (Cal.split_spec d).1
  rw [hYD] at hsp hs1
  refine bJ (ι := (Nat) × (Int) × (Int)) (fun | ⟨j, m, q⟩ => 12 - j) (fun | ⟨j, m, q⟩ => (j ≤ 11) ∧ (m = j + 1) ∧ (q = Cal.ydayOf d - Cal.cum y j) ∧ (Cal.cum y j ≤ Cal.ydayOf d)) (fun | ⟨j, m, q⟩ => [(2, iV y), (3, iV m), (4, iV q)]) (fun | ⟨j, m, q⟩ => []) (fun | ⟨j, m, q⟩ => []) (fun | ⟨j, m, q⟩ => []) ⟨0, 1, d - Cal.daysTo y⟩ ⟨by omega, by omega, by simp only [Cal.cum]; omega, by simp only [Cal.cum]; omega⟩ kns (fun w s => by exact s) ?_
  rintro ⟨j, m, q⟩ ⟨hj, hm, hq, hc⟩
  show GC _ _ _ _ [(2, iV y), (3, iV m), (4, iV q)] _ _ ([]) ([]) ([])
  have hmd := Cal.mdays_bd m y
  have hcs : Cal.cum y (j + 1) = Cal.cum y j + Cal.mdays m y := by rw [hm]; rfl
  have hc0 := Cal.cum_mono y 0 j (Nat.zero_le _)
  simp only [Cal.cum] at hc0
  have hlp := Cal.lp_01 y
  refine g6 ?_
  refine gL (cvo rfl (fun w_ s_ => gM _ _ oM w_) ?_)
  refine g3 ?_
  refine aB rfl (fun hc1 => ?_) (fun hc2 => ?_)
  ·have hge : Cal.mdays m y ≤ q := oT hc1
   have hnx : Cal.cum y (j + 1) ≤ Cal.ydayOf d := by omega
   have hj1 : j + 1 ≤ 11 := by
    rcases Nat.lt_or_ge j 11 with h | h
    ·omega
    ·exfalso; obtain rfl : j = 11 := by omega
     rw [Cal.cum_12] at hnx; omega
   refine g8 ?_
   refine gL (cvo rfl (fun w_ s_ => gM _ _ oM w_) ?_)
   refine g10 ?_
   refine aQ ⟨j + 1, m + 1, q - Cal.mdays m y⟩ sO ⟨by omega, by omega, by rw [hcs]; omega, hnx⟩ kns (fun w s => by exact s)
  ·have hlt2 : ¬ Cal.mdays m y ≤ q := oF hc2
   have hfin := Cal.mon_unique (y := y) (D := Cal.ydayOf d) hj hc oM
   refine g16 ?_
   refine g1 ?_
   refine jI (.inl rfl) rfl (aD rfl) (aD rfl) (aD rfl) fun w_ s_ => ⟨?_, s_.aJ0⟩
   unfold Cal.monthOf Cal.mdayOf
   rw [hYD, hfin]
   exact rK rfl hm sO
theorem n9 {w : World} {p : Option Addr} {c : Nat} {xs : List Int} {k : Nat} (h : Ints w (.slice p xs.length c) xs) (hk : k ≤ xs.length) : Ints w (.slice p k c) (xs.take k) := by
 obtain ⟨p', c', e, hc⟩ := h
 injection e with e1 _ e3
 subst e1 e3
 refine ⟨p, c, by rw [List.length_take, Nat.min_eq_left hk], fun i x hx => ?_⟩
 rw [List.getElem?_take] at hx
 split at hx
 ·exact hc i x hx
 ·cases hx
def okR (a b : Int) (m : Bool) (x : Int) : Bool := if m = true ∧ x < 0 then decide (-b ≤ x) && (decide (a ≤ -x) && decide (-x ≤ b)) else decide (a ≤ x) && decide (x ≤ b)
def iR (l : List Int) (a b : Int) (m : Bool) : Bool := ((List.range l.length).all fun i => okR a b m (l.getD i 0) && !((l.take i).any (· == l.getD i 0))) && decide (l.length ≤ 100)
theorem aEy (p : Nat → Bool) (k : Nat) : (List.range (k + 1)).all p = ((List.range k).all p && p k) := by rw [List.range_succ, List.all_append]; simp
theorem oG {p : Nat → Bool} {k n : Nat} (hk : k < n) (h : p k = false) : (List.range n).all p = false := by
 rw [Bool.eq_false_iff]
 intro h2
 rw [List.all_eq_true] at h2
 have := h2 k (by simpa using hk)
 rw [h] at this; cases this
theorem dA (xs : List Int) (p : Option Addr) (c : Nat) (a b : Int) (m : Bool) (hcap : xs.length ≤ c) (ha : 0 ≤ a ∧ a ≤ 1000) (hb : 0 ≤ b ∧ b ≤ 1000) (hl : xs.length ≤ 2147483647) (w : World) (hI0 : Ints w (.slice p xs.length c) xs) : Calls Tryz.prog 28 #[.slice p xs.length c, iV a, iV b, .bool m] w fun e w' => e = .returned (.bool (iR xs a b m)) ∧ Below w.heap.size w w' := by
 have hI : ∀ i x, xs[i]? = some x → ∃ b o, p = some ⟨b, o, none⟩ ∧ w.cell? ⟨b, o + i, none⟩ = some (iV x) := by
  obtain ⟨p', c', e, hc⟩ := hI0
  injection e with e1 _ _
  subst e1
  exact hc
 refine aI (args := [.slice p xs.length c, iV a, iV b, .bool m]) (L := [(0, .slice p xs.length c), (1, iV a), (2, iV b), (3, .bool m)]) (N := 50) Tryz.func28 rfl rfl ble rfl (sS w) ?_
 refine g14 ?_
 refine bJ (ι := (Nat)) (fun k => xs.length - k) (fun k => (k ≤ xs.length) ∧ ((List.range k).all (fun i => okR a b m (xs.getD i 0) && !((xs.take i).any (· == xs.getD i 0))) = true)) (fun k => [(0, .slice p xs.length c), (1, iV a), (2, iV b), (3, .bool m), (12, .slice p xs.length c), (13, iV (xs.length)), (14, iV k)]) (fun k => []) (fun k => []) (fun k => []) 0 ⟨by omega, rfl⟩ kns (fun w s => by exact s) ?_
 rintro k ⟨hk, hn⟩
 show GC _ _ _ _ [(0, .slice p xs.length c), (1, iV a), (2, iV b), (3, .bool m), (12, .slice p xs.length c), (13, iV (xs.length)), (14, iV k)] _ _ ([]) ([]) ([])
 refine g6 ?_
 refine aB rfl (fun hc1 => ?_) (fun hc2 => ?_)
 ·have hlt : k < xs.length := by have := oT hc1; omega
  obtain ⟨y, hy⟩ : ∃ y, xs[k]? = some y := ⟨_, List.getElem?_eq_getElem hlt⟩
  have hgd : xs.getD k 0 = y := by rw [List.getD_eq_getElem?_getD, hy]; rfl
  obtain ⟨b_, o, rfl, hcell⟩ := hI k y hy
  refine g7 ?_
  refine rl (aF (e := 3) (n := 1) kR rfl rfl oM oM) ?_
  refine rl (fK rfl (v := iV y) (by rw [← hcell]; congr 2; omega) (fun h => h) kR) ?_
  refine g10 ?_
  refine cV (ι := (Int)) (fun nn => (okR a b m y = (decide (a ≤ nn) && decide (nn ≤ b)))) (fun nn => [(0, .slice (some ⟨b_, o, none⟩) xs.length c), (1, iV a), (2, iV b), (3, .bool m), (12, .slice (some ⟨b_, o, none⟩) xs.length c), (13, iV (xs.length)), (14, iV k), (9, iV k), (10, iV y), (11, iV nn)]) (fun nn => []) (fun nn => []) (fun nn => []) ?_ ?_
  ·refine g3 ?_
   by_cases hneg : y < 0
   ·refine rZ2 ((cM rfl rfl).to bT) ?_
    rcases bO (m) with hm | hm
    ·refine rl ((bD rfl).to (v' := .bool true) (cB hm)) ?_
     refine jT ?_
     refine aB rfl (fun hc1 => ?_) (fun hc2 => ?_)
     ·have hlb : y < -b := oT hc1
      have hF : iR xs a b m = false := by unfold iR; rw [(oG (p := (fun i => okR a b m (xs.getD i 0) && !((xs.take i).any (· == xs.getD i 0)))) hlt (by rw [hgd, show okR a b m y = false from by unfold okR; rw [if_pos ⟨hm, hneg⟩, decide_eq_false (show ¬ -b ≤ y by omega)]; rfl]; first | done | simp))]; rfl
      refine g13 ?_
      exact gR rfl fun w_ s_ => ⟨by rw [hF], s_.aJ0⟩
     ·have hlb : ¬ y < -b := oF hc2
      refine g7 ?_
      refine aO (ι := Int) (-y) (by unfold okR; rw [if_pos ⟨hm, hneg⟩, decide_eq_true (show -b ≤ y by omega)]; rfl) kno (fun w s => s)
    ·refine rl ((bD rfl).to (v' := .bool false) (cB hm)) ?_
     refine g3 ?_
     refine aP rfl rfl ?_
     refine g1 ?_
     refine aO (ι := Int) (y) (by unfold okR; rw [if_neg (fun h => by rw [hm] at h; cases h.1)]) kno (fun w s => s)
   ·refine wZ7 ((cM rfl rfl).to bF) ?_
    refine aO (ι := Int) (y) (by unfold okR; rw [if_neg (fun h => hneg h.2)]) kno (fun w s => s)
  rintro nn hnn
  show GC _ _ _ _ [(0, .slice (some ⟨b_, o, none⟩) xs.length c), (1, iV a), (2, iV b), (3, .bool m), (12, .slice (some ⟨b_, o, none⟩) xs.length c), (13, iV (xs.length)), (14, iV k), (9, iV k), (10, iV y), (11, iV nn)] _ _ ([]) ([]) ([])
  refine g4 ?_
  by_cases hlo : nn < a
  ·have hF : iR xs a b m = false := by unfold iR; rw [(oG (p := (fun i => okR a b m (xs.getD i 0) && !((xs.take i).any (· == xs.getD i 0)))) hlt (by rw [hgd, hnn, decide_eq_false (show ¬ a ≤ nn by omega)]; first | done | simp))]; rfl
   refine rl ((cM rfl rfl).to bT) ?_
   refine g14 ?_
   refine mQ ?_
   exact gR rfl fun w_ s_ => ⟨by rw [hF], s_.aJ0⟩
  ·have hok1 : decide (a ≤ nn) = true := decide_eq_true oM
   refine rl ((cM rfl rfl).to bF) ?_
   refine g6 ?_
   by_cases hhi : b < nn
   ·have hF : iR xs a b m = false := by unfold iR; rw [(oG (p := (fun i => okR a b m (xs.getD i 0) && !((xs.take i).any (· == xs.getD i 0)))) hlt (by rw [hgd, hnn, decide_eq_false (show ¬ nn ≤ b by omega), Bool.and_false]; first | done | simp))]; rfl
    refine rl ((bG rfl rfl).to bT) ?_
    refine g10 ?_
    refine mQ ?_
    exact gR rfl fun w_ s_ => ⟨by rw [hF], s_.aJ0⟩
   ·have hok2 : decide (nn ≤ b) = true := decide_eq_true oM
    refine rZ7 ((bG rfl rfl).to bF) ?_
    refine rZ3 ((dX (e := 3) (n := 1) kR rfl rfl oM oM).to (v' := .slice (some ⟨b_, o, none⟩) k c) rfl) ?_
    rcases bO ((xs.take k).any (· == y)) with hno | hno
    ·have hF : iR xs a b m = false := by unfold iR; rw [(oG (p := (fun i => okR a b m (xs.getD i 0) && !((xs.take i).any (· == xs.getD i 0)))) hlt (by rw [hgd, hno, Bool.not_true, Bool.and_false]; first | done | simp))]; rfl
     refine gL (cvo (v := .bool true) rfl (fun w_ s_ => (cQ (xs.take k) y _ (by rw [List.length_take]; omega) w_ (n9 (bM s_ hI0) (Nat.le_of_lt hlt))).mono fun e_ w2_ h_ => ⟨h_.1.trans (cE hno), h_.2⟩) ?_)
     refine o6 ?_
     exact gR rfl fun w_ s_ => ⟨by rw [hF], s_.aJ0⟩
    ·refine gL (cvo (v := .bool false) rfl (fun w_ s_ => (cQ (xs.take k) y _ (by rw [List.length_take]; omega) w_ (n9 (bM s_ hI0) (Nat.le_of_lt hlt))).mono fun e_ w2_ h_ => ⟨h_.1.trans (cE hno), h_.2⟩) ?_)
     refine kQ ?_
     refine aQ (k + 1) oM ⟨by omega, by rw [aEy, hn, hgd, hnn, hok1, hok2, hno]; rfl⟩ kns (fun w s => by exact s)
 ·obtain rfl : k = xs.length := by have := oF hc2; omega
  have hF : iR xs a b m = decide ((xs.length : Int) ≤ 100) := by unfold iR; rw [hn, Bool.true_and]; exact decide_eq_decide.2 oM
  refine g14 ?_
  exact gR rfl fun w_ s_ => ⟨by rw [hF], s_.aJ0⟩
theorem aJc {a b : Nat} (h : a = b) : (a == b) = true := beq_iff_eq.2 h
theorem aBx {a b : Nat} (h : ¬ a = b) : (a == b) = false := beq_eq_false_iff_ne.2 h
theorem dU (xs : List Int) (x : Int) (v : Value) (hl : xs.length ≤ 2147483647) (w : World) (hI0 : Ints w v xs) : Calls Tryz.prog 41 #[v, iV x] w fun e w' => e = .returned (.bool (aJ xs x)) ∧ Below w.heap.size w w' := by
 obtain ⟨p, c, rfl, hI⟩ := id hI0
 refine aI (args := [.slice p xs.length c, iV x]) (L := [(0, .slice p xs.length c), (1, iV x)]) (N := 13) Tryz.func41 rfl rfl ble rfl (sS w) ?_
 refine g9 ?_
 by_cases h0 : xs.length = 0
 ·have hF : aJ xs x = true := by unfold aJ; rw [aJc h0]; rfl
  refine rZ9 ((aR rfl rfl).to eT) ?_
  exact gR rfl fun w_ s_ => ⟨by rw [hF]; rfl, s_.aJ0⟩
 ·refine rl ((aR rfl rfl).to eF) ?_
  refine g6 ?_
  rcases bO (xs.any (· == x)) with ha | ha
  ·have hF : aJ xs x = true := by unfold aJ; rw [ha, Bool.or_true]
   refine gL (cvo (v := .bool true) rfl (fun w_ s_ => (cQ xs x _ hl w_ (bM s_ hI0)).mono fun e_ w2_ h_ => ⟨h_.1.trans (cE ha), h_.2⟩) ?_)
   refine g5 ?_
   exact gR rfl fun w_ s_ => ⟨by rw [hF]; rfl, s_.aJ0⟩
  ·have hF : aJ xs x = false := by unfold aJ; rw [ha, aBx h0]; rfl
   refine gL (cvo (v := .bool false) rfl (fun w_ s_ => (cQ xs x _ hl w_ (bM s_ hI0)).mono fun e_ w2_ h_ => ⟨h_.1.trans (cE ha), h_.2⟩) ?_)
   refine g5 ?_
   exact gR rfl fun w_ s_ => ⟨by rw [hF]; rfl, s_.aJ0⟩
def dM (r : Rul) : Int := if r.hasUntil = true then r.untl else r.start + 9223372036
theorem jF (r : Rul) (x : Av) (hs : 0 ≤ r.start ∧ r.start ≤ 1000000000000) (w : World) : Calls Tryz.prog 54 #[.agg (bC r x).toArray] w fun e w' => e = .returned (iV (dM r)) ∧ Below w.heap.size w w' := by
 refine aI (args := [.agg (bC r x).toArray]) (L := [(0, .agg (bC r x).toArray)]) (N := 10) Tryz.func54 rfl rfl ble rfl (sS w) ?_
 refine g2 ?_
 refine gL (fM 50 (cs := bC r x) dE rfl rfl rfl (fun o ho => rfl) ble (fun b1 hb1 => ?_))
 refine g6 ?_
 refine rl (rfa 6) ?_
 refine rZ2 (rld 50 rfl rfl rfl) ?_
 refine aB rfl (fun hc1 => ?_) (fun hc2 => ?_)
 ·have hF : dM r = r.untl := by unfold dM; rw [if_pos hc1]
  refine g2 ?_
  refine rl (rfa 7) ?_
  refine rZ5 (rld 50 rfl rfl rfl) ?_
  exact gR rfl fun w_ s_ => ⟨by rw [hF], s_.aJ0⟩
 ·have hF : dM r = r.start + 9223372036 := by unfold dM; rw [if_neg (by rw [hc2]; decide)]
  refine g4 ?_
  refine rl (rfa 2) ?_
  refine rZ5 (rld 50 rfl rfl rfl) ?_
  exact gR rfl fun w_ s_ => ⟨by rw [hF], s_.aJ0⟩
def tH (at_ : List Int) (n i : Nat) : Bool := at_.any (· == (i : Int) + 1) || at_.any (· == (i : Int) - n)
def mX (l at_ : List Int) (k : Nat) : List Int := ((List.range k).filter (tH at_ l.length)).map fun i => l.getD i 0
def dJ (l at_ : List Int) : List Int := if at_.length = 0 then l else mX l at_ l.length
theorem z8 (l at_ : List Int) (k : Nat) : mX l at_ (k + 1) = mX l at_ k ++ if tH at_ l.length k = true then [l.getD k 0] else [] := by
 unfold mX
 rw [List.range_succ, List.filter_append, List.map_append]
 cases h : tH at_ l.length k <;> simp [h]
theorem aE3 (l at_ : List Int) (k : Nat) : (mX l at_ k).length ≤ k := by
 unfold mX
 rw [List.length_map]
 exact Nat.le_trans (List.length_filter_le _ _) (by simp)
theorem mW (l at_ : List Int) (p0 : Option Addr) (c0 : Nat) (v : Value) (hl : l.length ≤ 1000000000) (ha : at_.length ≤ 2147483647) (w : World) (hI0 : Ints w (.slice p0 l.length c0) l) (hA : Ints w v at_) : Calls Tryz.prog 57 #[.slice p0 l.length c0, v] w fun e w' => ∃ p c, e = .returned (.slice p (dJ l at_).length c) ∧ ((at_.length = 0 ∧ p = p0 ∧ c = c0 ∧ Below w.heap.size w w') ∨ (at_.length ≠ 0 ∧ fL w w' (.slice p (dJ l at_).length c) 2 1 (dJ l at_).length ((dJ l at_).map iV))) := by
 have hI : ∀ i x, l[i]? = some x → ∃ b o, p0 = some ⟨b, o, none⟩ ∧ w.cell? ⟨b, o + i, none⟩ = some (iV x) := by
  obtain ⟨p', c', e, hc⟩ := hI0
  injection e with e1 _ _
  subst e1
  exact hc
 obtain ⟨pa, ca, rfl, _⟩ := id hA
 refine aI (args := [.slice p0 l.length c0, .slice pa at_.length ca]) (L := [(0, .slice p0 l.length c0), (1, .slice pa at_.length ca)]) (N := 37) Tryz.func57 rfl rfl ble rfl (sS w) ?_
 refine g10 ?_
 by_cases h0 : at_.length = 0
 ·refine rl ((aR rfl rfl).to eT) ?_
  refine kQ ?_
  exact gR rfl fun w_ s_ => ⟨p0, c0, by unfold dJ; rw [if_pos h0], .inl ⟨h0, rfl, rfl, s_.aJ0⟩⟩
 ·refine rl ((aR rfl rfl).to eF) ?_
  refine g2 ?_
  refine xD ?_
  refine bJ (ι := (Nat) × (List Int) × (Option Addr) × (Nat) × (Nat) × (List Value)) (fun | ⟨k, acc, p, c, n, xs⟩ => l.length - k) (fun | ⟨k, acc, p, c, n, xs⟩ => (k ≤ l.length) ∧ (acc = mX l at_ k) ∧ (n = acc.length) ∧ (xs = acc.map iV) ∧ (n ≤ k)) (fun | ⟨k, acc, p, c, n, xs⟩ => [(0, .slice p0 l.length c0), (1, .slice pa at_.length ca), (5, .slice p n c), (12, .slice p0 l.length c0), (13, iV (l.length)), (14, iV k)]) (fun | ⟨k, acc, p, c, n, xs⟩ => []) (fun | ⟨k, acc, p, c, n, xs⟩ => []) (fun | ⟨k, acc, p, c, n, xs⟩ => [(11, ⟨.slice p n c, 2, 1, n, xs⟩)]) ⟨0, [], none, 0, 0, []⟩ ⟨Nat.zero_le _, rfl, rfl, rfl, Nat.le_refl _⟩ kns (fun w s => by exact s.aJ6 11 2 1) ?_
  rintro ⟨k, acc, p, c, n, xs⟩ ⟨hk, hacc, hn, hx, hnk⟩
  show GC _ _ _ _ [(0, .slice p0 l.length c0), (1, .slice pa at_.length ca), (5, .slice p n c), (12, .slice p0 l.length c0), (13, iV (l.length)), (14, iV k)] _ _ ([]) ([]) ([(11, ⟨.slice p n c, 2, 1, n, xs⟩)])
  refine g6 ?_
  refine aB rfl (fun hc1 => ?_) (fun hc2 => ?_)
  ·have hlt : k < l.length := by have := oT hc1; omega
   obtain ⟨y, hy⟩ : ∃ y, l[k]? = some y := ⟨_, List.getElem?_eq_getElem hlt⟩
   have hgd : l.getD k 0 = y := by rw [List.getD_eq_getElem?_getD, hy]; rfl
   obtain ⟨b_, o, hp0, hcell⟩ := hI k y hy
   have hps := z8 l at_ k
   rw [← hacc, hgd] at hps
   refine g7 ?_
   refine rl (aF (e := 2) (n := 1) kR (congrArg (fun p => some (Value.slice p _ _)) hp0) rfl oM oM) ?_
   refine rZ9 (fK rfl (v := iV y) (by rw [← hcell]; congr 2; omega) (fun h => h) kR) ?_
   rcases bO (at_.any (· == (k : Int) + 1)) with hq1 | hq1
   ·refine gL (cvo (v := .bool true) rfl (fun w_ s_ => (cQ at_ _ _ ha w_ (bM s_ hA)).mono fun e_ w2_ h_ => ⟨h_.1.trans (cE hq1), h_.2⟩) ?_)
    refine lJ ?_
    refine gL (dK 60 (e := 2) (sz := 1) (by_ := 8) (zs := [iV 0]) dE kR rfl dE dE rfl rfl rfl (fun bo => ?_))
    refine gL (cU 11 60 (e := 2) (sz := 1) (by_ := 8) (zs := [iV 0]) dE kR rfl dE rfl rfl rfl rfl ⟨rfl, rfl⟩ ⟨rfl, rfl⟩ (f9 (xs := [y])) sO sO (fun p' c' => ?_))
    refine g8 ?_
    refine aQ ⟨k + 1, acc ++ [y], p', c', n + 1, xs ++ [iV y]⟩ sO ⟨by omega, by rw [hps, if_pos (by unfold tH; rw [hq1, Bool.true_or])], by rw [List.length_append, hn]; rfl, by rw [hx]; simp, by omega⟩ kns (fun w s => by exact s.low 40 ((Lim.nil).aJ2 dE) agx agx agx)
   ·refine gL (cvo (v := .bool false) rfl (fun w_ s_ => (cQ at_ _ _ ha w_ (bM s_ hA)).mono fun e_ w2_ h_ => ⟨h_.1.trans (cE hq1), h_.2⟩) ?_)
    refine g12 ?_
    rcases bO (at_.any (· == (k : Int) - l.length)) with hq2 | hq2
    ·refine gL (cvo (v := .bool true) rfl (fun w_ s_ => (cQ at_ _ _ ha w_ (bM s_ hA)).mono fun e_ w2_ h_ => ⟨h_.1.trans (cE hq2), h_.2⟩) ?_)
     refine yZ7 ?_
     refine gL (dK 60 (e := 2) (sz := 1) (by_ := 8) (zs := [iV 0]) dE kR rfl dE dE rfl rfl rfl (fun bo => ?_))
     refine gL (cU 11 60 (e := 2) (sz := 1) (by_ := 8) (zs := [iV 0]) dE kR rfl dE rfl rfl rfl rfl ⟨rfl, rfl⟩ ⟨rfl, rfl⟩ (f9 (xs := [y])) sO sO (fun p' c' => ?_))
     refine g8 ?_
     refine aQ ⟨k + 1, acc ++ [y], p', c', n + 1, xs ++ [iV y]⟩ sO ⟨by omega, by rw [hps, if_pos (by unfold tH; rw [hq2, Bool.or_true])], by rw [List.length_append, hn]; rfl, by rw [hx]; simp, by omega⟩ kns (fun w s => by exact s.low 40 ((Lim.nil).aJ2 dE) agx agx agx)
    ·refine gL (cvo (v := .bool false) rfl (fun w_ s_ => (cQ at_ _ _ ha w_ (bM s_ hA)).mono fun e_ w2_ h_ => ⟨h_.1.trans (cE hq2), h_.2⟩) ?_)
     refine kQ ?_
     refine aQ ⟨k + 1, acc, p, c, n, xs⟩ sO ⟨by omega, by rw [hps, if_neg (by unfold tH; rw [hq1, hq2]; decide), List.append_nil], hn, hx, by omega⟩ kns (fun w s => by exact s.low 40 ((Lim.nil).aJ2 dE) agx agx agx)
  ·have hge : ¬ k < l.length := by have := oF hc2; omega
   refine g12 ?_
   have hF : dJ l at_ = acc := by unfold dJ; rw [if_neg h0, hacc, show l.length = k by omega]
   rw [hF]
   subst hn hx
   exact gR rfl fun w_ s_ => ⟨p, c, rfl, .inr ⟨h0, Sees.toNew (k := 11) s_ rfl⟩⟩
def wo (fr lg at_ many : Int) : Bool := decide (at_ + many ≤ fr) || decide (fr + lg ≤ at_)
theorem iA {fb lb : Nat} {fr lg : Int} (hB1 : lkp 51 B = some fb) (hB2 : lkp 52 B = some lb) (h1 : lkp (ky 51 0) H = some (iV fr)) (h2 : lkp (ky 52 0) H = some (iV lg)) (hf : 0 ≤ fr ∧ fr ≤ 1000000000000) (hg : 0 ≤ lg ∧ lg ≤ 100000) (a m : Int) (ha : 0 ≤ a ∧ a ≤ 1000000000000) (hm : 0 ≤ m ∧ m ≤ 100000) :
  ∀ w, Sees F w0 B H S w → Calls Tryz.prog 103 #[iV a, iV m, pT fb, pT lb] w fun e w' => ∃ _u : Unit, True ∧ e = .returned (.bool (wo fr lg a m)) ∧ Sees F w0 B H S w' := by
 intro w s
 refine aI (args := [iV a, iV m, pT fb, pT lb]) (L := [(0, iV a), (1, iV m), (2, pT fb), (3, pT lb)]) (N := 19) Tryz.func103 rfl rfl ble rfl s ?_
 refine g10 ?_
 refine rl (rld 51 rfl hB1 h1) ?_
 by_cases hq : a + m ≤ fr
 ·have hF : wo fr lg a m = true := by unfold wo; rw [decide_eq_true hq]; rfl
  refine rl ((gV rfl rfl).to bT) ?_
  refine g11 ?_
  refine gR rfl fun w_ s_ => ⟨(), trivial, ?_, s_⟩
  rw [hF]
  rfl
 ·have hF : wo fr lg a m = decide (fr + lg ≤ a) := by unfold wo; rw [decide_eq_false hq]; rfl
  refine rZ4 ((gV rfl rfl).to bF) ?_
  refine rZ1 (rld 51 rfl hB1 h1) ?_
  refine rZ9 (rld 52 rfl hB2 h2) ?_
  refine gR rfl fun w_ s_ => ⟨(), trivial, ?_, s_⟩
  rw [hF]
  rfl
def r6 (ss : List Int) (fr lg b : Int) (k : Nat) : List Int := ((List.range k).filter fun (s : Nat) => aJ ss s && !wo fr lg (b + s) 1).map fun (s : Nat) => b + (s : Int)
def r8 (ms ss : List Int) (fr lg b : Int) (k : Nat) : List Int := (List.range k).flatMap fun (m : Nat) => if aJ ms m && !wo fr lg (b + m * 60) 60 then r6 ss fr lg (b + m * 60) 60 else []
def zE (hs ms ss : List Int) (fr lg b : Int) (k : Nat) : List Int := (List.range k).flatMap fun (h : Nat) => if aJ hs h && !wo fr lg (b + h * 3600) 3600 then r8 ms ss fr lg (b + h * 3600) 60 else []
def eD (hs ms ss : List Int) (day fr lg : Int) : List Int := zE hs ms ss fr lg (day * 86400) 24
theorem qX (ss : List Int) (fr lg b : Int) (k : Nat) : r6 ss fr lg b (k + 1) = r6 ss fr lg b k ++ if aJ ss k && !wo fr lg (b + k) 1 then [b + (k : Int)] else [] := by
 unfold r6
 rw [List.range_succ, List.filter_append, List.map_append]
 cases h : (aJ ss k && !wo fr lg (b + k) 1) <;> simp [h]
theorem gZ {α : Type} (f : Nat → List α) (k : Nat) : (List.range (k + 1)).flatMap f = (List.range k).flatMap f ++ f k := by rw [List.range_succ, List.flatMap_append]; simp
theorem oQ (r : Rul) (x : Av) (day fr lg : Int) (hd : 0 ≤ day ∧ day ≤ 5000000) (hf : 0 ≤ fr ∧ fr ≤ 1000000000000) (hg : 0 ≤ lg ∧ lg ≤ 100000) (l15 : r.hour.length ≤ 2147483647) (l16 : r.minute.length ≤ 2147483647) (l17 : r.second.length ≤ 2147483647) (w : World) (hin : InL w r x) : Calls Tryz.prog 63 #[.agg (bC r x).toArray, iV day, iV fr, iV lg] w fun e w' => ∃ p c, e = .returned (.slice p (eD r.hour r.minute r.second day fr lg).length c) ∧ fL w w' (.slice p (eD r.hour r.minute r.second day fr lg).length c) 2 1 (eD r.hour r.minute r.second day fr lg).length ((eD r.hour r.minute r.second day fr lg).map iV) := by
 refine aI (args := [.agg (bC r x).toArray, iV day, iV fr, iV lg]) (L := [(0, .agg (bC r x).toArray), (1, iV day), (2, iV fr), (3, iV lg)]) (N := 77) Tryz.func63 rfl rfl ble rfl (sS w) ?_
 refine g2 ?_
 refine gL (fM 50 (cs := bC r x) dE rfl rfl rfl (fun o ho => by repeat (first | rfl | rw [aK dE ho _ _ ble])) ble (fun b1 hbb1 => ?_))
 refine gL (fM 51 (cs := [iV fr]) dE rfl rfl rfl (fun o ho => by repeat (first | rfl | rw [aK dE ho _ _ ble])) ble (fun b2_ hbb2_ => ?_))
 refine gL (fM 52 (cs := [iV lg]) dE rfl rfl rfl (fun o ho => by repeat (first | rfl | rw [aK dE ho _ _ ble])) ble (fun b3_ hbb3_ => ?_))
 refine g10 ?_
 refine rl ((gG (first := []) (capt := [pT b2_, pT b3_]) rfl rfl)) ?_
 refine g10 ?_
 refine bJ (ι := (Nat) × (List Int) × (Option Addr) × (Nat) × (Nat) × (List Value)) (fun | ⟨h, acc, p, c, n, xs⟩ => 24 - h) (fun | ⟨h, acc, p, c, n, xs⟩ => (h ≤ 24) ∧ (acc = zE r.hour r.minute r.second fr lg (day * 86400) h) ∧ (n = acc.length) ∧ (xs = acc.map iV) ∧ (n ≤ h * 3600)) (fun | ⟨h, acc, p, c, n, xs⟩ => [(1, iV day), (4, pT b1), (10, .func (.func 103) #[] #[pT b2_, pT b3_]), (9, .slice p n c), (18, iV h)]) (fun | ⟨h, acc, p, c, n, xs⟩ => [(52, b3_), (51, b2_), (50, b1)]) (fun | ⟨h, acc, p, c, n, xs⟩ => (aC 52 0 [iV lg] ++ (aC 51 0 [iV fr] ++ (aC 50 0 (bC r x) ++ [])))) (fun | ⟨h, acc, p, c, n, xs⟩ => [(11, ⟨.slice p n c, 2, 1, n, xs⟩)]) ⟨0, [], none, 0, 0, []⟩ ⟨Nat.zero_le _, rfl, rfl, rfl, Nat.zero_le _⟩ kno (fun w s => by exact s.aJ6 11 2 1) ?_
 rintro ⟨h, acc, p, c, n, xs⟩ ⟨hkh, hah, hnh, hxh, hbh⟩
 show GC _ _ _ _ [(1, iV day), (4, pT b1), (10, .func (.func 103) #[] #[pT b2_, pT b3_]), (9, .slice p n c), (18, iV h)] _ _ ([(52, b3_), (51, b2_), (50, b1)]) ((aC 52 0 [iV lg] ++ (aC 51 0 [iV fr] ++ (aC 50 0 (bC r x) ++ [])))) ([(11, ⟨.slice p n c, 2, 1, n, xs⟩)])
 refine g6 ?_
 refine aB rfl (fun hc1 => ?_) (fun hc2 => ?_)
 ·have hlt : h < 24 := by have := oT hc1; omega
  refine g20 ?_
  refine g3 ?_
  refine rl (rfa 14) ?_
  refine rZ1 (rld 50 rfl rfl rfl) ?_
  rcases bO (aJ r.hour h) with hq1 | hq1
  ·refine gL (cvo (v := .bool true) rfl (fun w_ s_ => (dU r.hour h _ l15 w_ (bM s_ hin.i15)).mono fun e_ w2_ h_ => ⟨h_.1.trans (cE hq1), h_.2⟩) ?_)
   refine g7 ?_
   rcases bO (wo fr lg (day * 86400 + h * 3600) 3600) with hq2 | hq2
   ·refine gL (iE (ι := Unit) (first := []) (capt := [pT b2_, pT b3_]) (fun _ => .bool true) (fun _ => True) (fun _ => [(52, b3_), (51, b2_), (50, b1)]) (fun _ => (aC 52 0 [iV lg] ++ (aC 51 0 [iV fr] ++ (aC 50 0 (bC r x) ++ [])))) (fun _ => [(11, ⟨.slice p n c, 2, 1, n, xs⟩)]) dE rfl kR rfl (fun w_ s_ => (iA rfl rfl rfl rfl hf hg (day * 86400 + h * 3600) 3600 oM oM w_ s_).mono fun e w' ⟨_, _, he, hs⟩ => ⟨(), trivial, he.trans (cE hq2), hs⟩) (fun _ _ => ?_))
    refine mQ ?_
    refine aQ ⟨h + 1, acc, p, c, n, xs⟩ sO ⟨by omega, by unfold zE; rw [gZ, if_neg (by rw [hq2, Bool.not_true, Bool.and_false]; decide), List.append_nil]; exact hah, hnh, hxh, by omega⟩ kno (fun w s => by exact s)
   ·refine gL (iE (ι := Unit) (first := []) (capt := [pT b2_, pT b3_]) (fun _ => .bool false) (fun _ => True) (fun _ => [(52, b3_), (51, b2_), (50, b1)]) (fun _ => (aC 52 0 [iV lg] ++ (aC 51 0 [iV fr] ++ (aC 50 0 (bC r x) ++ [])))) (fun _ => [(11, ⟨.slice p n c, 2, 1, n, xs⟩)]) dE rfl kR rfl (fun w_ s_ => (iA rfl rfl rfl rfl hf hg (day * 86400 + h * 3600) 3600 oM oM w_ s_).mono fun e w' ⟨_, _, he, hs⟩ => ⟨(), trivial, he.trans (cE hq2), hs⟩) (fun _ _ => ?_))
    refine mQ ?_
    refine bJ (ι := (Nat) × (List Int) × (Option Addr) × (Nat) × (Nat) × (List Value)) (fun | ⟨m, acc2, p2, c2, n2, xs2⟩ => 60 - m) (fun | ⟨m, acc2, p2, c2, n2, xs2⟩ => (m ≤ 60) ∧ (acc2 = acc ++ r8 r.minute r.second fr lg (day * 86400 + h * 3600) m) ∧ (n2 = acc2.length) ∧ (xs2 = acc2.map iV) ∧ (n2 ≤ h * 3600 + m * 60)) (fun | ⟨m, acc2, p2, c2, n2, xs2⟩ => [(1, iV day), (4, pT b1), (10, .func (.func 103) #[] #[pT b2_, pT b3_]), (12, iV (day * 86400 + h * 3600)), (18, iV h), (9, .slice p2 n2 c2), (36, iV m)]) (fun | ⟨m, acc2, p2, c2, n2, xs2⟩ => [(52, b3_), (51, b2_), (50, b1)]) (fun | ⟨m, acc2, p2, c2, n2, xs2⟩ => (aC 52 0 [iV lg] ++ (aC 51 0 [iV fr] ++ (aC 50 0 (bC r x) ++ [])))) (fun | ⟨m, acc2, p2, c2, n2, xs2⟩ => [(11, ⟨.slice p2 n2 c2, 2, 1, n2, xs2⟩)]) ⟨0, acc, p, c, n, xs⟩ ⟨Nat.zero_le _, by simp [r8], hnh, hxh, by omega⟩ kno (fun w s => by exact s) ?_
    rintro ⟨m, acc2, p2, c2, n2, xs2⟩ ⟨hkm, ham, hnm, hxm, hbm⟩
    show GC _ _ _ _ [(1, iV day), (4, pT b1), (10, .func (.func 103) #[] #[pT b2_, pT b3_]), (12, iV (day * 86400 + h * 3600)), (18, iV h), (9, .slice p2 n2 c2), (36, iV m)] _ _ ([(52, b3_), (51, b2_), (50, b1)]) ((aC 52 0 [iV lg] ++ (aC 51 0 [iV fr] ++ (aC 50 0 (bC r x) ++ [])))) ([(11, ⟨.slice p2 n2 c2, 2, 1, n2, xs2⟩)])
    refine g6 ?_
    refine aB rfl (fun hc1 => ?_) (fun hc2 => ?_)
    ·have hlt2 : m < 60 := by have := oT hc1; omega
     refine g20 ?_
     refine g2 ?_
     refine rl (rfa 15) ?_
     refine rZ1 (rld 50 rfl rfl rfl) ?_
     rcases bO (aJ r.minute m) with hq3 | hq3
     ·refine gL (cvo (v := .bool true) rfl (fun w_ s_ => (dU r.minute m _ l16 w_ (bM s_ hin.i16)).mono fun e_ w2_ h_ => ⟨h_.1.trans (cE hq3), h_.2⟩) ?_)
      refine g7 ?_
      rcases bO (wo fr lg (day * 86400 + h * 3600 + m * 60) 60) with hq4 | hq4
      ·refine gL (iE (ι := Unit) (first := []) (capt := [pT b2_, pT b3_]) (fun _ => .bool true) (fun _ => True) (fun _ => [(52, b3_), (51, b2_), (50, b1)]) (fun _ => (aC 52 0 [iV lg] ++ (aC 51 0 [iV fr] ++ (aC 50 0 (bC r x) ++ [])))) (fun _ => [(11, ⟨.slice p2 n2 c2, 2, 1, n2, xs2⟩)]) dE rfl kR rfl (fun w_ s_ => (iA rfl rfl rfl rfl hf hg (day * 86400 + h * 3600 + m * 60) 60 oM oM w_ s_).mono fun e w' ⟨_, _, he, hs⟩ => ⟨(), trivial, he.trans (cE hq4), hs⟩) (fun _ _ => ?_))
       refine mQ ?_
       refine aQ ⟨m + 1, acc2, p2, c2, n2, xs2⟩ sO ⟨by omega, by unfold r8; rw [gZ, if_neg (by rw [hq4, Bool.not_true, Bool.and_false]; decide), List.append_nil]; exact ham, hnm, hxm, by omega⟩ kno (fun w s => by exact s)
      ·refine gL (iE (ι := Unit) (first := []) (capt := [pT b2_, pT b3_]) (fun _ => .bool false) (fun _ => True) (fun _ => [(52, b3_), (51, b2_), (50, b1)]) (fun _ => (aC 52 0 [iV lg] ++ (aC 51 0 [iV fr] ++ (aC 50 0 (bC r x) ++ [])))) (fun _ => [(11, ⟨.slice p2 n2 c2, 2, 1, n2, xs2⟩)]) dE rfl kR rfl (fun w_ s_ => (iA rfl rfl rfl rfl hf hg (day * 86400 + h * 3600 + m * 60) 60 oM oM w_ s_).mono fun e w' ⟨_, _, he, hs⟩ => ⟨(), trivial, he.trans (cE hq4), hs⟩) (fun _ _ => ?_))
       refine mQ ?_
       refine bJ (ι := (Nat) × (List Int) × (Option Addr) × (Nat) × (Nat) × (List Value)) (fun | ⟨s, acc3, p3, c3, n3, xs3⟩ => 60 - s) (fun | ⟨s, acc3, p3, c3, n3, xs3⟩ => (s ≤ 60) ∧ (acc3 = acc2 ++ r6 r.second fr lg (day * 86400 + h * 3600 + m * 60) s) ∧ (n3 = acc3.length) ∧ (xs3 = acc3.map iV) ∧ (n3 ≤ h * 3600 + m * 60 + s)) (fun | ⟨s, acc3, p3, c3, n3, xs3⟩ => [(1, iV day), (4, pT b1), (10, .func (.func 103) #[] #[pT b2_, pT b3_]), (12, iV (day * 86400 + h * 3600)), (18, iV h), (14, iV (day * 86400 + h * 3600 + m * 60)), (36, iV m), (9, .slice p3 n3 c3), (53, iV s)]) (fun | ⟨s, acc3, p3, c3, n3, xs3⟩ => [(52, b3_), (51, b2_), (50, b1)]) (fun | ⟨s, acc3, p3, c3, n3, xs3⟩ => (aC 52 0 [iV lg] ++ (aC 51 0 [iV fr] ++ (aC 50 0 (bC r x) ++ [])))) (fun | ⟨s, acc3, p3, c3, n3, xs3⟩ => [(11, ⟨.slice p3 n3 c3, 2, 1, n3, xs3⟩)]) ⟨0, acc2, p2, c2, n2, xs2⟩ ⟨Nat.zero_le _, by simp [r6], hnm, hxm, by omega⟩ kno (fun w s => by exact s) ?_
       rintro ⟨s, acc3, p3, c3, n3, xs3⟩ ⟨hks, has, hns, hxs, hbs⟩
       show GC _ _ _ _ [(1, iV day), (4, pT b1), (10, .func (.func 103) #[] #[pT b2_, pT b3_]), (12, iV (day * 86400 + h * 3600)), (18, iV h), (14, iV (day * 86400 + h * 3600 + m * 60)), (36, iV m), (9, .slice p3 n3 c3), (53, iV s)] _ _ ([(52, b3_), (51, b2_), (50, b1)]) ((aC 52 0 [iV lg] ++ (aC 51 0 [iV fr] ++ (aC 50 0 (bC r x) ++ [])))) ([(11, ⟨.slice p3 n3 c3, 2, 1, n3, xs3⟩)])
       refine g6 ?_
       refine aB rfl (fun hc1 => ?_) (fun hc2 => ?_)
       ·have hlt3 : s < 60 := by have := oT hc1; omega
        refine g20 ?_
        refine rl (rfa 16) ?_
        refine rZ1 (rld 50 rfl rfl rfl) ?_
        rcases bO (aJ r.second s) with hq5 | hq5
        ·refine gL (cvo (v := .bool true) rfl (fun w_ s_ => (dU r.second s _ l17 w_ (bM s_ hin.i17)).mono fun e_ w2_ h_ => ⟨h_.1.trans (cE hq5), h_.2⟩) ?_)
         refine g6 ?_
         rcases bO (wo fr lg (day * 86400 + h * 3600 + m * 60 + s) 1) with hq6 | hq6
         ·refine gL (iE (ι := Unit) (first := []) (capt := [pT b2_, pT b3_]) (fun _ => .bool true) (fun _ => True) (fun _ => [(52, b3_), (51, b2_), (50, b1)]) (fun _ => (aC 52 0 [iV lg] ++ (aC 51 0 [iV fr] ++ (aC 50 0 (bC r x) ++ [])))) (fun _ => [(11, ⟨.slice p3 n3 c3, 2, 1, n3, xs3⟩)]) dE rfl kR rfl (fun w_ s_ => (iA rfl rfl rfl rfl hf hg (day * 86400 + h * 3600 + m * 60 + s) 1 oM oM w_ s_).mono fun e w' ⟨_, _, he, hs⟩ => ⟨(), trivial, he.trans (cE hq6), hs⟩) (fun _ _ => ?_))
          refine jT ?_
          refine aQ ⟨s + 1, acc3, p3, c3, n3, xs3⟩ sO ⟨by omega, by rw [qX, if_neg (by rw [hq6, Bool.not_true, Bool.and_false]; decide), List.append_nil]; exact has, hns, hxs, by omega⟩ kno (fun w s => by exact s.low 60 (by repeat (first | exact Lim.nil | apply Lim.aJ2 _ dE | apply Lim.aJ3 _ dE | apply Lim.aJ4 dE _ 0 ble)) agx agx agx)
         ·refine gL (iE (ι := Unit) (first := []) (capt := [pT b2_, pT b3_]) (fun _ => .bool false) (fun _ => True) (fun _ => [(52, b3_), (51, b2_), (50, b1)]) (fun _ => (aC 52 0 [iV lg] ++ (aC 51 0 [iV fr] ++ (aC 50 0 (bC r x) ++ [])))) (fun _ => [(11, ⟨.slice p3 n3 c3, 2, 1, n3, xs3⟩)]) dE rfl kR rfl (fun w_ s_ => (iA rfl rfl rfl rfl hf hg (day * 86400 + h * 3600 + m * 60 + s) 1 oM oM w_ s_).mono fun e w' ⟨_, _, he, hs⟩ => ⟨(), trivial, he.trans (cE hq6), hs⟩) (fun _ _ => ?_))
          refine g5 ?_
          refine aY rfl rfl ?_
          refine g3 ?_
          refine gL (dK 60 (e := 2) (sz := 1) (by_ := 8) (zs := [iV 0]) dE kR rfl dE dE rfl rfl rfl (fun bo => ?_))
          refine gL (cU 11 60 (e := 2) (sz := 1) (by_ := 8) (zs := [iV 0]) dE kR rfl dE rfl rfl rfl rfl ⟨rfl, rfl⟩ ⟨rfl, rfl⟩ (f9 (xs := [day * 86400 + h * 3600 + m * 60 + s])) sO sO (fun p' c' => ?_))
          refine g8 ?_
          refine aQ ⟨s + 1, acc3 ++ [day * 86400 + h * 3600 + m * 60 + s], p', c', n3 + 1, xs3 ++ [iV (day * 86400 + h * 3600 + m * 60 + s)]⟩ sO ⟨by omega, by rw [qX, if_pos (by rw [hq5, hq6]; rfl), has, List.append_assoc], by rw [List.length_append, hns]; rfl, by rw [hxs]; simp, by omega⟩ kno (fun w s => by exact s.low 60 (by repeat (first | exact Lim.nil | apply Lim.aJ2 _ dE | apply Lim.aJ3 _ dE | apply Lim.aJ4 dE _ 0 ble)) agx agx agx)
        ·refine gL (cvo (v := .bool false) rfl (fun w_ s_ => (dU r.second s _ l17 w_ (bM s_ hin.i17)).mono fun e_ w2_ h_ => ⟨h_.1.trans (cE hq5), h_.2⟩) ?_)
         refine g8 ?_
         refine aP rfl rfl ?_
         refine g7 ?_
         refine aQ ⟨s + 1, acc3, p3, c3, n3, xs3⟩ sO ⟨by omega, by rw [qX, if_neg (by rw [hq5, Bool.false_and]; decide), List.append_nil]; exact has, hns, hxs, by omega⟩ kno (fun w s => by exact s.low 60 (by repeat (first | exact Lim.nil | apply Lim.aJ2 _ dE | apply Lim.aJ3 _ dE | apply Lim.aJ4 dE _ 0 ble)) agx agx agx)
       ·obtain rfl : s = 60 := by have := oF hc2; omega
        refine g10 ?_
        refine aQ ⟨m + 1, acc3, p3, c3, n3, xs3⟩ sO ⟨by omega, by unfold r8; rw [gZ, if_pos (by rw [hq3, hq4]; rfl)]; rw [has, ham, List.append_assoc]; rfl, hns, hxs, by omega⟩ kno (fun w s => by exact s)
     ·refine gL (cvo (v := .bool false) rfl (fun w_ s_ => (dU r.minute m _ l16 w_ (bM s_ hin.i16)).mono fun e_ w2_ h_ => ⟨h_.1.trans (cE hq3), h_.2⟩) ?_)
      refine xD ?_
      refine aQ ⟨m + 1, acc2, p2, c2, n2, xs2⟩ sO ⟨by omega, by unfold r8; rw [gZ, if_neg (by rw [hq3, Bool.false_and]; decide), List.append_nil]; exact ham, hnm, hxm, by omega⟩ kno (fun w s => by exact s)
    ·obtain rfl : m = 60 := by have := oF hc2; omega
     refine g10 ?_
     refine aQ ⟨h + 1, acc2, p2, c2, n2, xs2⟩ sO ⟨by omega, by unfold zE; rw [gZ, if_pos (by rw [hq1, hq2]; rfl)]; rw [ham, hah]; rfl, hnm, hxm, by omega⟩ kno (fun w s => by exact s)
  ·refine gL (cvo (v := .bool false) rfl (fun w_ s_ => (dU r.hour h _ l15 w_ (bM s_ hin.i15)).mono fun e_ w2_ h_ => ⟨h_.1.trans (cE hq1), h_.2⟩) ?_)
   refine xD ?_
   refine aQ ⟨h + 1, acc, p, c, n, xs⟩ sO ⟨by omega, by unfold zE; rw [gZ, if_neg (by rw [hq1, Bool.false_and]; decide), List.append_nil]; exact hah, hnh, hxh, by omega⟩ kno (fun w s => by exact s)
 ·have hge : ¬ h < 24 := by have := oF hc2; omega
  refine g12 ?_
  have hF : eD r.hour r.minute r.second day fr lg = acc := by unfold eD; rw [hah, show (24 : Nat) = h by omega]
  rw [hF]
  subst hnh hxh
  exact gR rfl fun w_ s_ => ⟨p, c, rfl, s_.toNew (k := 11) rfl⟩
def pE (r : Rul) : Prop := r.weekno.length = 0 ∧ r.yday.length = 0 ∧ r.mday.length = 0 ∧ r.wday.length = 0 ∧ r.easter.length = 0
instance (r : Rul) : Decidable (pE r) := by unfold pE; infer_instance
def eN (r : Rul) : Rul := if pE r then
  (if r.freq = 0 then { r with month := if r.month.length = 0 then [Cal.monthOf (r.start / 86400)] else r.month, mday := [Cal.mdayOf (r.start / 86400)] }
  else if r.freq = 1 then { r with mday := [Cal.mdayOf (r.start / 86400)] }
  else if r.freq = 2 then { r with wday := [(r.start / 86400 % 7, 0)] } else r)
 else r
def eO (r : Rul) : Rul := if r.hour.length = 0 ∧ r.freq < 4 then { r with hour := [r.start % 86400 / 3600] } else r
def eV (r : Rul) : Rul := if r.minute.length = 0 ∧ r.freq < 5 then { r with minute := [r.start % 86400 / 60 % 60] } else r
def gH (r : Rul) : Rul := if r.second.length = 0 ∧ r.freq < 6 then { r with second := [r.start % 86400 % 60] } else r
def aZ (r : Rul) : Rul := gH (eV (eO (eN r)))
theorem uK (r : Rul) : (eN r).start = r.start ∧ (eN r).freq = r.freq ∧ (eN r).hour = r.hour ∧ (eN r).minute = r.minute ∧ (eN r).second = r.second := by
 unfold eN
 split
 ·split
  ·exact ⟨rfl, rfl, rfl, rfl, rfl⟩
  ·split
   ·exact ⟨rfl, rfl, rfl, rfl, rfl⟩
   ·split <;> exact ⟨rfl, rfl, rfl, rfl, rfl⟩
 ·exact ⟨rfl, rfl, rfl, rfl, rfl⟩
theorem aBe (r : Rul) : (eO r).start = r.start ∧ (eO r).freq = r.freq ∧ (eO r).minute = r.minute ∧ (eO r).second = r.second := by
 unfold eO; split <;> exact ⟨rfl, rfl, rfl, rfl⟩
theorem aAt (r : Rul) : (eV r).start = r.start ∧ (eV r).freq = r.freq ∧ (eV r).second = r.second := by
 unfold eV; split <;> exact ⟨rfl, rfl, rfl⟩
structure LenL (r : Rul) : Prop where
 l9 : r.setpos.length ≤ 2147483647
 l10 : r.month.length ≤ 2147483647
 l11 : r.mday.length ≤ 2147483647
 l12 : r.yday.length ≤ 2147483647
 l13 : r.weekno.length ≤ 2147483647
 l14 : r.wday.length ≤ 2147483647
 l15 : r.hour.length ≤ 2147483647
 l16 : r.minute.length ≤ 2147483647
 l17 : r.second.length ≤ 2147483647
 l18 : r.easter.length ≤ 2147483647
theorem aBu {w : World} {p : Option Addr} {n c : Nat} {e : TypeId} {ps : List (Int × Int)} (s : Sees F w0 B H S w) (k : Nat) (h : lkp k S = some ⟨.slice p n c, e, 2, n, eI ps⟩) : Prs w (.slice p n c) ps := by
 have := (SrcU.row (F := F) (w0 := w0) (S := S) (t := k) h)
 exact this B H S w (fun _ _ => rfl) s
theorem Sees.tailS {w : World} {k : Nat} {q : Slc} (s : Sees F w0 B H ((k, q) :: S) w) (h : lkp k S = none) : Sees F w0 B H S w :=
 s.to (fun _ _ h => h) (fun k o v ho h => ⟨h, by obtain ⟨b, e, _⟩ := s.cells k o v ho h; rw [e]; rfl⟩) (fun j u hj => by
  by_cases e : j = k
  ·subst e; rw [h] at hj; cases hj
  ·rw [aA e]; exact hj)
theorem Sees.fresh {w : World} {k b : Nat} {q : Slc} (s : Sees (fun _ => False) w0 B H S w) (hk : lkp k S = some q) (hb : q.v.ownBlock = some b) : w0.heap.size ≤ b := by
 rcases Nat.lt_or_ge b w0.heap.size with h | h
 ·exact (s.smay k q b hk hb h).elim
 ·exact h
structure BkL (G : Nat → Prop) (r : Rul) (x : Av) : Prop where
 g9 : r.setpos.length ≠ 0 → ∀ b o, x.p9 = some ⟨b, o, none⟩ → G b
 g10 : r.month.length ≠ 0 → ∀ b o, x.p10 = some ⟨b, o, none⟩ → G b
 g11 : r.mday.length ≠ 0 → ∀ b o, x.p11 = some ⟨b, o, none⟩ → G b
 g12 : r.yday.length ≠ 0 → ∀ b o, x.p12 = some ⟨b, o, none⟩ → G b
 g13 : r.weekno.length ≠ 0 → ∀ b o, x.p13 = some ⟨b, o, none⟩ → G b
 g14 : r.wday.length ≠ 0 → ∀ b o, x.p14 = some ⟨b, o, none⟩ → G b
 g15 : r.hour.length ≠ 0 → ∀ b o, x.p15 = some ⟨b, o, none⟩ → G b
 g16 : r.minute.length ≠ 0 → ∀ b o, x.p16 = some ⟨b, o, none⟩ → G b
 g17 : r.second.length ≠ 0 → ∀ b o, x.p17 = some ⟨b, o, none⟩ → G b
 g18 : r.easter.length ≠ 0 → ∀ b o, x.p18 = some ⟨b, o, none⟩ → G b
def InS (w0 : World) (S : LS) (r : Rul) (x : Av) : Prop := ∀ B H w, Sees (fun _ => False) w0 B H S w → InL w r x
theorem aAx {G : Nat → Prop} (r : Rul) (x : Av) (hs : 0 ≤ r.start ∧ r.start ≤ 1000000000000) (hf : 0 ≤ r.freq ∧ r.freq ≤ 255) (hl : LenL r) (w : World) (hin : InL w r x) (hG : BkL G r x) : Calls Tryz.prog 55 #[.agg (bC r x).toArray] w fun e w' => ∃ x', e = .returned (.agg (bC (aZ r) x').toArray) ∧ Below w.heap.size w w' ∧ InL w' (aZ r) x' ∧ BkL (fun b => G b ∨ w.heap.size ≤ b) (aZ r) x' := by
 obtain ⟨l9, l10, l11, l12, l13, l14, l15, l16, l17, l18⟩ := hl
 have hG0 : BkL (fun b => G b ∨ w.heap.size ≤ b) r x := ⟨fun h b o e => .inl (hG.g9 h b o e), fun h b o e => .inl (hG.g10 h b o e), fun h b o e => .inl (hG.g11 h b o e), fun h b o e => .inl (hG.g12 h b o e), fun h b o e => .inl (hG.g13 h b o e), fun h b o e => .inl (hG.g14 h b o e), fun h b o e => .inl (hG.g15 h b o e), fun h b o e => .inl (hG.g16 h b o e), fun h b o e => .inl (hG.g17 h b o e), fun h b o e => .inl (hG.g18 h b o e)⟩
 refine aI (args := [.agg (bC r x).toArray]) (L := [(0, .agg (bC r x).toArray)]) (N := 109) Tryz.func55 rfl rfl ble rfl (sS w) ?_
 refine g2 ?_
 refine gL (fM 50 (cs := bC r x) dE rfl rfl rfl (fun o ho => rfl) ble (fun b1 hb1 => ?_))
 refine gL (eB 51 (cs := zL1) dE kR rfl (fun o ho => by repeat (first | rfl | rw [aK dE ho _ _ ble])) ble (fun b2_ hb2_ => ?_))
 refine g4 ?_
 refine rl (rfa 2) ?_
 refine rZ1 (rld 50 rfl rfl rfl) ?_
 refine gL (cvo rfl (fun w_ s_ => nB _ oM w_) ?_)
 refine g9 ?_
 refine cV (ι := (Rul) × (Av) × (LS)) (fun | ⟨r1, x1, S1⟩ => (r1 = eN (r)) ∧ (InS w S1 r1 x1) ∧ (BkL (fun b => G b ∨ w.heap.size ≤ b) r1 x1) ∧ (∀ k, 24 ≤ k → lkp k S1 = none)) (fun | ⟨r1, x1, S1⟩ => [(1, pT b1), (2, pT b2_), (4, iV (Cal.monthOf (r.start / 86400))), (5, iV (Cal.mdayOf (r.start / 86400)))]) (fun | ⟨r1, x1, S1⟩ => [(51, b2_), (50, b1)]) (fun | ⟨r1, x1, S1⟩ => (aC 51 0 zL1 ++ (aC 50 0 (bC (r1) (x1)) ++ []))) (fun | ⟨r1, x1, S1⟩ => S1) ?_ ?_
 ·refine g2 ?_
  refine rl (rfa 12) ?_
  refine rZ1 (rld 50 rfl rfl rfl) ?_
  refine rl (rfa 11) ?_
  refine rZ2 (rld 50 rfl rfl rfl) ?_
  refine rl (rfa 10) ?_
  refine rZ2 (rld 50 rfl rfl rfl) ?_
  refine rl (rfa 13) ?_
  refine rZ2 (rld 50 rfl rfl rfl) ?_
  refine rl (rfa 17) ?_
  refine rZ5 (rld 50 rfl rfl rfl) ?_
  refine aB rfl (fun hc1 => ?_) (fun hc2 => ?_)
  ·have hno : pE r := by unfold pE; have := beq_iff_eq.1 hc1; omega
   refine g2 ?_
   refine rl (rfa 0) ?_
   refine rZ9 (rld 50 rfl rfl rfl) ?_
   refine aB rfl (fun hc1 => ?_) (fun hc2 => ?_)
   ·have hf0 : r.freq = 0 := beq_iff_eq.1 hc1
    refine g3 ?_
    refine rl (rfa 9) ?_
    refine rZ4 (rld 50 rfl rfl rfl) ?_
    refine aB rfl (fun hc1 => ?_) (fun hc2 => ?_)
    ·have hm0 : r.month.length = 0 := by have := beq_iff_eq.1 hc1; omega
     refine g2 ?_
     refine gL (dK 21 (e := 3) (sz := 1) (by_ := 8) (zs := [iV 0]) dE kR rfl dE dE rfl rfl rfl (fun o21 => ?_))
     refine jG (fun w s => Sees.fresh s (k := 21) rfl rfl) (fun ho21 => ?_)
     refine rl (rfa 9) ?_
     refine gL (sto 50 rfl rfl rfl rfl ?_)
     refine g4 ?_
     refine gL (dK 22 (e := 3) (sz := 1) (by_ := 8) (zs := [iV 0]) dE kR rfl dE dE rfl rfl rfl (fun o22 => ?_))
     refine jG (fun w s => Sees.fresh s (k := 22) rfl rfl) (fun ho22 => ?_)
     refine rl (rfa 10) ?_
     refine gL (sto 50 rfl rfl rfl rfl ?_)
     refine g2 ?_
     refine aO (ι := Rul × Av × LS) ⟨{ r with month := [Cal.monthOf (r.start / 86400)], mday := [Cal.mdayOf (r.start / 86400)] }, { x with p10 := some ⟨o21, 0, none⟩, c10 := 1, p11 := some ⟨o22, 0, none⟩, c11 := 1 }, (22, ⟨sL o22 1 1, 3, 1, 1, [iV (Cal.mdayOf (r.start / 86400))]⟩) :: (21, ⟨sL o21 1 1, 3, 1, 1, [iV (Cal.monthOf (r.start / 86400))]⟩) :: []⟩ ⟨by unfold eN; rw [if_pos hno, if_pos hf0, if_pos hm0], fun B' H' w_ s_ => (by have hz_ : InL w_ (r) (x) := InL.see s_ hin; exact ⟨hz_.i9, (s_.ints 21 (xs := [Cal.monthOf (r.start / 86400)]) rfl), (s_.ints 22 (xs := [Cal.mdayOf (r.start / 86400)]) rfl), hz_.i12, hz_.i13, hz_.i14, hz_.i15, hz_.i16, hz_.i17, hz_.i18⟩), (by exact ⟨hG0.g9, fun _ b_ o_ h_ => (by injection h_ with h_; injection h_ with h_; exact .inr (h_ ▸ ho21)), fun _ b_ o_ h_ => (by injection h_ with h_; injection h_ with h_; exact .inr (h_ ▸ ho22)), hG0.g12, hG0.g13, hG0.g14, hG0.g15, hG0.g16, hG0.g17, hG0.g18⟩), fun k hk => by repeat (first | rfl | exact hk k oM | rw [aA oM])⟩ kno (fun w s => (s.low 60 (by exact ⟨fun k hk => by rw [aA oM, aA oM]; rfl, fun k hk o ho => by rw [aK oM ho _ _ ble, aK oM ho _ _ ble]; rfl, fun k hk => by repeat (first | rfl | exact hk k oM | rw [aA oM])⟩) agx agx agx))
    ·have hm0 : ¬ r.month.length = 0 := by have := beq_eq_false_iff_ne.1 hc2; omega
     refine g4 ?_
     refine gL (dK 22 (e := 3) (sz := 1) (by_ := 8) (zs := [iV 0]) dE kR rfl dE dE rfl rfl rfl (fun o22 => ?_))
     refine jG (fun w s => Sees.fresh s (k := 22) rfl rfl) (fun ho22 => ?_)
     refine rl (rfa 10) ?_
     refine gL (sto 50 rfl rfl rfl rfl ?_)
     refine g2 ?_
     refine aO (ι := Rul × Av × LS) ⟨{ r with mday := [Cal.mdayOf (r.start / 86400)] }, { x with p11 := some ⟨o22, 0, none⟩, c11 := 1 }, (22, ⟨sL o22 1 1, 3, 1, 1, [iV (Cal.mdayOf (r.start / 86400))]⟩) :: []⟩ ⟨by unfold eN; rw [if_pos hno, if_pos hf0, if_neg hm0], fun B' H' w_ s_ => (by have hz_ : InL w_ (r) (x) := InL.see s_ hin; exact ⟨hz_.i9, hz_.i10, (s_.ints 22 (xs := [Cal.mdayOf (r.start / 86400)]) rfl), hz_.i12, hz_.i13, hz_.i14, hz_.i15, hz_.i16, hz_.i17, hz_.i18⟩), (by exact ⟨hG0.g9, hG0.g10, fun _ b_ o_ h_ => (by injection h_ with h_; injection h_ with h_; exact .inr (h_ ▸ ho22)), hG0.g12, hG0.g13, hG0.g14, hG0.g15, hG0.g16, hG0.g17, hG0.g18⟩), fun k hk => by repeat (first | rfl | exact hk k oM | rw [aA oM])⟩ kno (fun w s => (s.low 60 (by exact ⟨fun k hk => by rw [aA oM, aA oM]; rfl, fun k hk o ho => by rw [aK oM ho _ _ ble, aK oM ho _ _ ble]; rfl, fun k hk => by repeat (first | rfl | exact hk k oM | rw [aA oM])⟩) agx agx agx))
   ·have hf0 : ¬ r.freq = 0 := beq_eq_false_iff_ne.1 hc2
    refine g6 ?_
    refine aB rfl (fun hc1 => ?_) (fun hc2 => ?_)
    ·have hf1 : r.freq = 1 := beq_iff_eq.1 hc1
     refine g2 ?_
     refine gL (dK 22 (e := 3) (sz := 1) (by_ := 8) (zs := [iV 0]) dE kR rfl dE dE rfl rfl rfl (fun o22 => ?_))
     refine jG (fun w s => Sees.fresh s (k := 22) rfl rfl) (fun ho22 => ?_)
     refine rl (rfa 10) ?_
     refine gL (sto 50 rfl rfl rfl rfl ?_)
     refine g2 ?_
     refine aO (ι := Rul × Av × LS) ⟨{ r with mday := [Cal.mdayOf (r.start / 86400)] }, { x with p11 := some ⟨o22, 0, none⟩, c11 := 1 }, (22, ⟨sL o22 1 1, 3, 1, 1, [iV (Cal.mdayOf (r.start / 86400))]⟩) :: []⟩ ⟨by unfold eN; rw [if_pos hno, if_neg hf0, if_pos hf1], fun B' H' w_ s_ => (by have hz_ : InL w_ (r) (x) := InL.see s_ hin; exact ⟨hz_.i9, hz_.i10, (s_.ints 22 (xs := [Cal.mdayOf (r.start / 86400)]) rfl), hz_.i12, hz_.i13, hz_.i14, hz_.i15, hz_.i16, hz_.i17, hz_.i18⟩), (by exact ⟨hG0.g9, hG0.g10, fun _ b_ o_ h_ => (by injection h_ with h_; injection h_ with h_; exact .inr (h_ ▸ ho22)), hG0.g12, hG0.g13, hG0.g14, hG0.g15, hG0.g16, hG0.g17, hG0.g18⟩), fun k hk => by repeat (first | rfl | exact hk k oM | rw [aA oM])⟩ kno (fun w s => (s.low 60 (by exact ⟨fun k hk => by rw [aA oM, aA oM]; rfl, fun k hk o ho => by rw [aK oM ho _ _ ble, aK oM ho _ _ ble]; rfl, fun k hk => by repeat (first | rfl | exact hk k oM | rw [aA oM])⟩) agx agx agx))
    ·have hf1 : ¬ r.freq = 1 := beq_eq_false_iff_ne.1 hc2
     refine g6 ?_
     refine aB rfl (fun hc1 => ?_) (fun hc2 => ?_)
     ·have hf2 : r.freq = 2 := beq_iff_eq.1 hc1
      refine g1 ?_
      refine rl (rfa 2) ?_
      refine rZ1 (rld 50 rfl rfl rfl) ?_
      refine gL (cvo rfl (fun w_ s_ => jD _ oM w_) ?_)
      refine rl (oH (k2 := .i64) (n := 0) rfl kW) ?_
      refine gL (dK 23 (e := 47) (sz := 2) (by_ := 16) (zs := [iV 0, iV 0]) dE kR rfl dE dE rfl rfl rfl (fun o23 => ?_))
      refine jG (fun w s => Sees.fresh s (k := 23) rfl rfl) (fun ho23 => ?_)
      refine rl (rfa 13) ?_
      refine gL (sto 50 rfl rfl rfl rfl ?_)
      refine g2 ?_
      refine aO (ι := Rul × Av × LS) ⟨{ r with wday := [(r.start / 86400 % 7, 0)] }, { x with p14 := some ⟨o23, 0, none⟩, c14 := 1 }, (23, ⟨sL o23 1 1, 47, 2, 1, [iV (r.start / 86400 % 7), iV 0]⟩) :: []⟩ ⟨by unfold eN; rw [if_pos hno, if_neg hf0, if_neg hf1, if_pos hf2], fun B' H' w_ s_ => (by have hz_ : InL w_ (r) (x) := InL.see s_ hin; exact ⟨hz_.i9, hz_.i10, hz_.i11, hz_.i12, hz_.i13, (aBu (ps := [(r.start / 86400 % 7, 0)]) s_ 23 rfl), hz_.i15, hz_.i16, hz_.i17, hz_.i18⟩), (by exact ⟨hG0.g9, hG0.g10, hG0.g11, hG0.g12, hG0.g13, fun _ b_ o_ h_ => (by injection h_ with h_; injection h_ with h_; exact .inr (h_ ▸ ho23)), hG0.g15, hG0.g16, hG0.g17, hG0.g18⟩), fun k hk => by repeat (first | rfl | exact hk k oM | rw [aA oM])⟩ kno (fun w s => (s.low 60 (by exact ⟨fun k hk => by rw [aA oM, aA oM]; rfl, fun k hk o ho => by rw [aK oM ho _ _ ble, aK oM ho _ _ ble]; rfl, fun k hk => by repeat (first | rfl | exact hk k oM | rw [aA oM])⟩) agx agx agx))
     ·have hf2 : ¬ r.freq = 2 := beq_eq_false_iff_ne.1 hc2
      refine g2 ?_
      refine aO (ι := Rul × Av × LS) ⟨r, x, []⟩ ⟨by unfold eN; rw [if_pos hno, if_neg hf0, if_neg hf1, if_neg hf2], fun B' H' w_ s_ => (by have hz_ : InL w_ (r) (x) := InL.see s_ hin; exact ⟨hz_.i9, hz_.i10, hz_.i11, hz_.i12, hz_.i13, hz_.i14, hz_.i15, hz_.i16, hz_.i17, hz_.i18⟩), (by exact ⟨hG0.g9, hG0.g10, hG0.g11, hG0.g12, hG0.g13, hG0.g14, hG0.g15, hG0.g16, hG0.g17, hG0.g18⟩), fun k hk => by repeat (first | rfl | exact hk k oM | rw [aA oM])⟩ kno (fun w s => (s.low 60 (by exact ⟨fun k hk => by rw [aA oM, aA oM]; rfl, fun k hk o ho => by rw [aK oM ho _ _ ble, aK oM ho _ _ ble]; rfl, fun k hk => by repeat (first | rfl | exact hk k oM | rw [aA oM])⟩) agx agx agx))
  ·have hno : ¬ pE r := by unfold pE; have := beq_eq_false_iff_ne.1 hc2; omega
   refine g1 ?_
   refine aO (ι := Rul × Av × LS) ⟨r, x, []⟩ ⟨by unfold eN; rw [if_neg hno], fun B' H' w_ s_ => (by have hz_ : InL w_ (r) (x) := InL.see s_ hin; exact ⟨hz_.i9, hz_.i10, hz_.i11, hz_.i12, hz_.i13, hz_.i14, hz_.i15, hz_.i16, hz_.i17, hz_.i18⟩), (by exact ⟨hG0.g9, hG0.g10, hG0.g11, hG0.g12, hG0.g13, hG0.g14, hG0.g15, hG0.g16, hG0.g17, hG0.g18⟩), fun k hk => by repeat (first | rfl | exact hk k oM | rw [aA oM])⟩ kno (fun w s => (s.low 60 (by exact ⟨fun k hk => by rw [aA oM, aA oM]; rfl, fun k hk o ho => by rw [aK oM ho _ _ ble, aK oM ho _ _ ble]; rfl, fun k hk => by repeat (first | rfl | exact hk k oM | rw [aA oM])⟩) agx agx agx))
 rintro ⟨r1, x1, S1⟩ ⟨hr1, ir1, gr1, hkS1⟩
 show GC _ _ _ _ [(1, pT b1), (2, pT b2_), (4, iV (Cal.monthOf (r.start / 86400))), (5, iV (Cal.mdayOf (r.start / 86400)))] _ _ ([(51, b2_), (50, b1)]) ((aC 51 0 zL1 ++ (aC 50 0 (bC (r1) (x1)) ++ []))) (S1)
 obtain ⟨e1, e2, e3, e4, e5⟩ := uK r
 rw [← hr1] at e1 e2 e3 e4 e5
 refine g2 ?_
 refine rl (rfa 2) ?_
 refine rl (rld 50 rfl rfl rfl) ?_
 refine gL (cvo rfl (fun w_ s_ => xP _ oM w_) ?_)
 refine g9 ?_
 refine cV (ι := (Rul) × (Av) × (LS)) (fun | ⟨r2, x2, S2⟩ => (r2 = eO (r1)) ∧ (InS w S2 r2 x2) ∧ (BkL (fun b => G b ∨ w.heap.size ≤ b) r2 x2) ∧ (∀ k, 25 ≤ k → lkp k S2 = none)) (fun | ⟨r2, x2, S2⟩ => [(1, pT b1), (2, pT b2_), (6, iV (r1.start % 86400 / 3600)), (7, iV (r1.start % 86400 / 60 % 60)), (8, iV (r1.start % 86400 % 60))]) (fun | ⟨r2, x2, S2⟩ => [(51, b2_), (50, b1)]) (fun | ⟨r2, x2, S2⟩ => (aC 51 0 zL1 ++ (aC 50 0 (bC (r2) (x2)) ++ []))) (fun | ⟨r2, x2, S2⟩ => S2) ?_ ?_
 ·refine g1 ?_
  have hb_ : r1.hour.length ≤ 2147483647 := by rw [e3]; exact l15
  refine g1 ?_
  refine rl (rfa 14) ?_
  refine rZ1 (rld 50 rfl rfl rfl) ?_
  by_cases h0 : r1.hour.length = 0
  ·refine rZ2 ((aR rfl rfl).to eT) ?_
   refine rZ1 (rfa 0) ?_
   refine rZ1 (rld 50 rfl rfl rfl) ?_
   by_cases hfl : r1.freq < 4
   ·refine rl ((cM rfl rfl).to bT) ?_
    refine g3 ?_
    refine aY rfl rfl ?_
    refine g2 ?_
    refine gL (dK 24 (e := 3) (sz := 1) (by_ := 8) (zs := [iV 0]) dE kR rfl dE dE rfl rfl rfl (fun o24 => ?_))
    refine jG (fun w s => Sees.fresh s (k := 24) rfl rfl) (fun ho24 => ?_)
    refine rl (rfa 14) ?_
    refine gL (sto 50 rfl rfl rfl rfl ?_)
    refine g1 ?_
    refine aO (ι := Rul × Av × LS) ⟨{ r1 with hour := [r1.start % 86400 / 3600] }, { x1 with p15 := some ⟨o24, 0, none⟩, c15 := 1 }, (24, ⟨sL o24 1 1, 3, 1, 1, [iV (r1.start % 86400 / 3600)]⟩) :: S1⟩ ⟨by unfold eO; rw [if_pos ⟨h0, hfl⟩], fun B' H' w_ s_ => (by have hz_ : InL w_ (r1) (x1) := ir1 B' H' w_ (Sees.tailS s_ (hkS1 24 oM)); exact ⟨hz_.i9, hz_.i10, hz_.i11, hz_.i12, hz_.i13, hz_.i14, (s_.ints 24 (xs := [r1.start % 86400 / 3600]) rfl), hz_.i16, hz_.i17, hz_.i18⟩), (by exact ⟨gr1.g9, gr1.g10, gr1.g11, gr1.g12, gr1.g13, gr1.g14, fun _ b_ o_ h_ => (by injection h_ with h_; injection h_ with h_; exact .inr (h_ ▸ ho24)), gr1.g16, gr1.g17, gr1.g18⟩), fun k hk => by repeat (first | rfl | exact hkS1 k oM | rw [aA oM])⟩ kno (fun w s => (s.low 60 (by exact ⟨fun k hk => by rw [aA oM, aA oM]; rfl, fun k hk o ho => by rw [aK oM ho _ _ ble, aK oM ho _ _ ble]; rfl, fun k hk => by repeat (first | rfl | exact hkS1 k oM | rw [aA oM])⟩) agx agx agx))
   ·refine rl ((cM rfl rfl).to bF) ?_
    refine g3 ?_
    refine aP rfl rfl ?_
    refine g1 ?_
    refine aO (ι := Rul × Av × LS) ⟨r1, x1, S1⟩ ⟨by unfold eO; rw [if_neg (fun h => hfl h.2)], fun B' H' w_ s_ => (by have hz_ : InL w_ (r1) (x1) := ir1 B' H' w_ s_; exact ⟨hz_.i9, hz_.i10, hz_.i11, hz_.i12, hz_.i13, hz_.i14, hz_.i15, hz_.i16, hz_.i17, hz_.i18⟩), (by exact ⟨gr1.g9, gr1.g10, gr1.g11, gr1.g12, gr1.g13, gr1.g14, gr1.g15, gr1.g16, gr1.g17, gr1.g18⟩), fun k hk => by repeat (first | rfl | exact hkS1 k oM | rw [aA oM])⟩ kno (fun w s => (s.low 60 (by exact ⟨fun k hk => by rw [aA oM, aA oM]; rfl, fun k hk o ho => by rw [aK oM ho _ _ ble, aK oM ho _ _ ble]; rfl, fun k hk => by repeat (first | rfl | exact hkS1 k oM | rw [aA oM])⟩) agx agx agx))
  ·refine rl ((aR rfl rfl).to eF) ?_
   refine g7 ?_
   refine aP rfl rfl ?_
   refine g1 ?_
   refine aO (ι := Rul × Av × LS) ⟨r1, x1, S1⟩ ⟨by unfold eO; rw [if_neg (fun h => h0 h.1)], fun B' H' w_ s_ => (by have hz_ : InL w_ (r1) (x1) := ir1 B' H' w_ s_; exact ⟨hz_.i9, hz_.i10, hz_.i11, hz_.i12, hz_.i13, hz_.i14, hz_.i15, hz_.i16, hz_.i17, hz_.i18⟩), (by exact ⟨gr1.g9, gr1.g10, gr1.g11, gr1.g12, gr1.g13, gr1.g14, gr1.g15, gr1.g16, gr1.g17, gr1.g18⟩), fun k hk => by repeat (first | rfl | exact hkS1 k oM | rw [aA oM])⟩ kno (fun w s => (s.low 60 (by exact ⟨fun k hk => by rw [aA oM, aA oM]; rfl, fun k hk o ho => by rw [aK oM ho _ _ ble, aK oM ho _ _ ble]; rfl, fun k hk => by repeat (first | rfl | exact hkS1 k oM | rw [aA oM])⟩) agx agx agx))
 rintro ⟨r2, x2, S2⟩ ⟨hr2, ir2, gr2, hkS2⟩
 show GC _ _ _ _ [(1, pT b1), (2, pT b2_), (6, iV (r1.start % 86400 / 3600)), (7, iV (r1.start % 86400 / 60 % 60)), (8, iV (r1.start % 86400 % 60))] _ _ ([(51, b2_), (50, b1)]) ((aC 51 0 zL1 ++ (aC 50 0 (bC (r2) (x2)) ++ []))) (S2)
 obtain ⟨f1, f2, f3, f4⟩ := aBe r1
 rw [← hr2] at f1 f2 f3 f4
 refine cV (ι := (Rul) × (Av) × (LS)) (fun | ⟨r3, x3, S3⟩ => (r3 = eV (r2)) ∧ (InS w S3 r3 x3) ∧ (BkL (fun b => G b ∨ w.heap.size ≤ b) r3 x3) ∧ (∀ k, 26 ≤ k → lkp k S3 = none)) (fun | ⟨r3, x3, S3⟩ => [(1, pT b1), (2, pT b2_), (6, iV (r1.start % 86400 / 3600)), (7, iV (r1.start % 86400 / 60 % 60)), (8, iV (r1.start % 86400 % 60))]) (fun | ⟨r3, x3, S3⟩ => [(51, b2_), (50, b1)]) (fun | ⟨r3, x3, S3⟩ => (aC 51 0 zL1 ++ (aC 50 0 (bC (r3) (x3)) ++ []))) (fun | ⟨r3, x3, S3⟩ => S3) ?_ ?_
 ·refine g1 ?_
  have hb_ : r2.minute.length ≤ 2147483647 := by rw [f3, e4]; exact l16
  refine g1 ?_
  refine rl (rfa 15) ?_
  refine rZ1 (rld 50 rfl rfl rfl) ?_
  by_cases h0 : r2.minute.length = 0
  ·refine rZ2 ((aR rfl rfl).to eT) ?_
   refine rZ1 (rfa 0) ?_
   refine rZ1 (rld 50 rfl rfl rfl) ?_
   by_cases hfl : r2.freq < 5
   ·refine rl ((cM rfl rfl).to bT) ?_
    refine g3 ?_
    refine aY rfl rfl ?_
    refine g2 ?_
    refine gL (dK 25 (e := 3) (sz := 1) (by_ := 8) (zs := [iV 0]) dE kR rfl dE dE rfl rfl rfl (fun o25 => ?_))
    refine jG (fun w s => Sees.fresh s (k := 25) rfl rfl) (fun ho25 => ?_)
    refine rl (rfa 15) ?_
    refine gL (sto 50 rfl rfl rfl rfl ?_)
    refine g1 ?_
    refine aO (ι := Rul × Av × LS) ⟨{ r2 with minute := [r1.start % 86400 / 60 % 60] }, { x2 with p16 := some ⟨o25, 0, none⟩, c16 := 1 }, (25, ⟨sL o25 1 1, 3, 1, 1, [iV (r1.start % 86400 / 60 % 60)]⟩) :: S2⟩ ⟨by unfold eV; rw [if_pos ⟨h0, hfl⟩, f1], fun B' H' w_ s_ => (by have hz_ : InL w_ (r2) (x2) := ir2 B' H' w_ (Sees.tailS s_ (hkS2 25 oM)); exact ⟨hz_.i9, hz_.i10, hz_.i11, hz_.i12, hz_.i13, hz_.i14, hz_.i15, (s_.ints 25 (xs := [r1.start % 86400 / 60 % 60]) rfl), hz_.i17, hz_.i18⟩), (by exact ⟨gr2.g9, gr2.g10, gr2.g11, gr2.g12, gr2.g13, gr2.g14, gr2.g15, fun _ b_ o_ h_ => (by injection h_ with h_; injection h_ with h_; exact .inr (h_ ▸ ho25)), gr2.g17, gr2.g18⟩), fun k hk => by repeat (first | rfl | exact hkS2 k oM | rw [aA oM])⟩ kno (fun w s => (s.low 60 (by exact ⟨fun k hk => by rw [aA oM, aA oM]; rfl, fun k hk o ho => by rw [aK oM ho _ _ ble, aK oM ho _ _ ble]; rfl, fun k hk => by repeat (first | rfl | exact hkS2 k oM | rw [aA oM])⟩) agx agx agx))
   ·refine rl ((cM rfl rfl).to bF) ?_
    refine g3 ?_
    refine aP rfl rfl ?_
    refine g1 ?_
    refine aO (ι := Rul × Av × LS) ⟨r2, x2, S2⟩ ⟨by unfold eV; rw [if_neg (fun h => hfl h.2)], fun B' H' w_ s_ => (by have hz_ : InL w_ (r2) (x2) := ir2 B' H' w_ s_; exact ⟨hz_.i9, hz_.i10, hz_.i11, hz_.i12, hz_.i13, hz_.i14, hz_.i15, hz_.i16, hz_.i17, hz_.i18⟩), (by exact ⟨gr2.g9, gr2.g10, gr2.g11, gr2.g12, gr2.g13, gr2.g14, gr2.g15, gr2.g16, gr2.g17, gr2.g18⟩), fun k hk => by repeat (first | rfl | exact hkS2 k oM | rw [aA oM])⟩ kno (fun w s => (s.low 60 (by exact ⟨fun k hk => by rw [aA oM, aA oM]; rfl, fun k hk o ho => by rw [aK oM ho _ _ ble, aK oM ho _ _ ble]; rfl, fun k hk => by repeat (first | rfl | exact hkS2 k oM | rw [aA oM])⟩) agx agx agx))
  ·refine rl ((aR rfl rfl).to eF) ?_
   refine g7 ?_
   refine aP rfl rfl ?_
   refine g1 ?_
   refine aO (ι := Rul × Av × LS) ⟨r2, x2, S2⟩ ⟨by unfold eV; rw [if_neg (fun h => h0 h.1)], fun B' H' w_ s_ => (by have hz_ : InL w_ (r2) (x2) := ir2 B' H' w_ s_; exact ⟨hz_.i9, hz_.i10, hz_.i11, hz_.i12, hz_.i13, hz_.i14, hz_.i15, hz_.i16, hz_.i17, hz_.i18⟩), (by exact ⟨gr2.g9, gr2.g10, gr2.g11, gr2.g12, gr2.g13, gr2.g14, gr2.g15, gr2.g16, gr2.g17, gr2.g18⟩), fun k hk => by repeat (first | rfl | exact hkS2 k oM | rw [aA oM])⟩ kno (fun w s => (s.low 60 (by exact ⟨fun k hk => by rw [aA oM, aA oM]; rfl, fun k hk o ho => by rw [aK oM ho _ _ ble, aK oM ho _ _ ble]; rfl, fun k hk => by repeat (first | rfl | exact hkS2 k oM | rw [aA oM])⟩) agx agx agx))
 rintro ⟨r3, x3, S3⟩ ⟨hr3, ir3, gr3, hkS3⟩
 show GC _ _ _ _ [(1, pT b1), (2, pT b2_), (6, iV (r1.start % 86400 / 3600)), (7, iV (r1.start % 86400 / 60 % 60)), (8, iV (r1.start % 86400 % 60))] _ _ ([(51, b2_), (50, b1)]) ((aC 51 0 zL1 ++ (aC 50 0 (bC (r3) (x3)) ++ []))) (S3)
 obtain ⟨g1_, g2_, g3_⟩ := aAt r2
 rw [← hr3] at g1_ g2_ g3_
 refine cV (ι := (Rul) × (Av) × (LS)) (fun | ⟨r4, x4, S4⟩ => (r4 = gH (r3)) ∧ (InS w S4 r4 x4) ∧ (BkL (fun b => G b ∨ w.heap.size ≤ b) r4 x4) ∧ (∀ k, 27 ≤ k → lkp k S4 = none)) (fun | ⟨r4, x4, S4⟩ => [(1, pT b1), (2, pT b2_), (6, iV (r1.start % 86400 / 3600)), (7, iV (r1.start % 86400 / 60 % 60)), (8, iV (r1.start % 86400 % 60))]) (fun | ⟨r4, x4, S4⟩ => [(51, b2_), (50, b1)]) (fun | ⟨r4, x4, S4⟩ => (aC 51 0 zL1 ++ (aC 50 0 (bC (r4) (x4)) ++ []))) (fun | ⟨r4, x4, S4⟩ => S4) ?_ ?_
 ·refine g1 ?_
  have hb_ : r3.second.length ≤ 2147483647 := by rw [g3_, f4, e5]; exact l17
  refine g1 ?_
  refine rl (rfa 16) ?_
  refine rZ1 (rld 50 rfl rfl rfl) ?_
  by_cases h0 : r3.second.length = 0
  ·refine rZ2 ((aR rfl rfl).to eT) ?_
   refine rZ1 (rfa 0) ?_
   refine rZ1 (rld 50 rfl rfl rfl) ?_
   by_cases hfl : r3.freq < 6
   ·refine rl ((cM rfl rfl).to bT) ?_
    refine g3 ?_
    refine aY rfl rfl ?_
    refine g2 ?_
    refine gL (dK 26 (e := 3) (sz := 1) (by_ := 8) (zs := [iV 0]) dE kR rfl dE dE rfl rfl rfl (fun o26 => ?_))
    refine jG (fun w s => Sees.fresh s (k := 26) rfl rfl) (fun ho26 => ?_)
    refine rl (rfa 16) ?_
    refine gL (sto 50 rfl rfl rfl rfl ?_)
    refine g1 ?_
    refine aO (ι := Rul × Av × LS) ⟨{ r3 with second := [r1.start % 86400 % 60] }, { x3 with p17 := some ⟨o26, 0, none⟩, c17 := 1 }, (26, ⟨sL o26 1 1, 3, 1, 1, [iV (r1.start % 86400 % 60)]⟩) :: S3⟩ ⟨by unfold gH; rw [if_pos ⟨h0, hfl⟩, g1_, f1], fun B' H' w_ s_ => (by have hz_ : InL w_ (r3) (x3) := ir3 B' H' w_ (Sees.tailS s_ (hkS3 26 oM)); exact ⟨hz_.i9, hz_.i10, hz_.i11, hz_.i12, hz_.i13, hz_.i14, hz_.i15, hz_.i16, (s_.ints 26 (xs := [r1.start % 86400 % 60]) rfl), hz_.i18⟩), (by exact ⟨gr3.g9, gr3.g10, gr3.g11, gr3.g12, gr3.g13, gr3.g14, gr3.g15, gr3.g16, fun _ b_ o_ h_ => (by injection h_ with h_; injection h_ with h_; exact .inr (h_ ▸ ho26)), gr3.g18⟩), fun k hk => by repeat (first | rfl | exact hkS3 k oM | rw [aA oM])⟩ kno (fun w s => (s.low 60 (by exact ⟨fun k hk => by rw [aA oM, aA oM]; rfl, fun k hk o ho => by rw [aK oM ho _ _ ble, aK oM ho _ _ ble]; rfl, fun k hk => by repeat (first | rfl | exact hkS3 k oM | rw [aA oM])⟩) agx agx agx))
   ·refine rl ((cM rfl rfl).to bF) ?_
    refine g3 ?_
    refine aP rfl rfl ?_
    refine g1 ?_
    refine aO (ι := Rul × Av × LS) ⟨r3, x3, S3⟩ ⟨by unfold gH; rw [if_neg (fun h => hfl h.2)], fun B' H' w_ s_ => (by have hz_ : InL w_ (r3) (x3) := ir3 B' H' w_ s_; exact ⟨hz_.i9, hz_.i10, hz_.i11, hz_.i12, hz_.i13, hz_.i14, hz_.i15, hz_.i16, hz_.i17, hz_.i18⟩), (by exact ⟨gr3.g9, gr3.g10, gr3.g11, gr3.g12, gr3.g13, gr3.g14, gr3.g15, gr3.g16, gr3.g17, gr3.g18⟩), fun k hk => by repeat (first | rfl | exact hkS3 k oM | rw [aA oM])⟩ kno (fun w s => (s.low 60 (by exact ⟨fun k hk => by rw [aA oM, aA oM]; rfl, fun k hk o ho => by rw [aK oM ho _ _ ble, aK oM ho _ _ ble]; rfl, fun k hk => by repeat (first | rfl | exact hkS3 k oM | rw [aA oM])⟩) agx agx agx))
  ·refine rl ((aR rfl rfl).to eF) ?_
   refine g7 ?_
   refine aP rfl rfl ?_
   refine g1 ?_
   refine aO (ι := Rul × Av × LS) ⟨r3, x3, S3⟩ ⟨by unfold gH; rw [if_neg (fun h => h0 h.1)], fun B' H' w_ s_ => (by have hz_ : InL w_ (r3) (x3) := ir3 B' H' w_ s_; exact ⟨hz_.i9, hz_.i10, hz_.i11, hz_.i12, hz_.i13, hz_.i14, hz_.i15, hz_.i16, hz_.i17, hz_.i18⟩), (by exact ⟨gr3.g9, gr3.g10, gr3.g11, gr3.g12, gr3.g13, gr3.g14, gr3.g15, gr3.g16, gr3.g17, gr3.g18⟩), fun k hk => by repeat (first | rfl | exact hkS3 k oM | rw [aA oM])⟩ kno (fun w s => (s.low 60 (by exact ⟨fun k hk => by rw [aA oM, aA oM]; rfl, fun k hk o ho => by rw [aK oM ho _ _ ble, aK oM ho _ _ ble]; rfl, fun k hk => by repeat (first | rfl | exact hkS3 k oM | rw [aA oM])⟩) agx agx agx))
 rintro ⟨r4, x4, S4⟩ ⟨hr4, ir4, gr4, hkS4⟩
 show GC _ _ _ _ [(1, pT b1), (2, pT b2_), (6, iV (r1.start % 86400 / 3600)), (7, iV (r1.start % 86400 / 60 % 60)), (8, iV (r1.start % 86400 % 60))] _ _ ([(51, b2_), (50, b1)]) ((aC 51 0 zL1 ++ (aC 50 0 (bC (r4) (x4)) ++ []))) (S4)
 refine g2 ?_
 refine rl ((dP 50 (cs := bC r4 x4) rfl rfl (fun i u h => (aK (j := 51) dE (by have := (List.getElem?_eq_some_iff.1 h).1; have h18 : (bC r4 x4).length = 18 := rfl; omega) _ _ ble).trans (fJ (bC r4 x4) 0 ble i u h)) ble kR)) ?_
 refine gL (cA 51 (cs := (bC r4 x4).toArray) rfl rfl rfl rfl kR rfl ble ?_)
 refine g3 ?_
 have hF : aZ r = r4 := by unfold aZ; rw [← hr1, ← hr2, ← hr3, ← hr4]
 rw [hF]
 refine aT (.inl rfl) rfl (jX 51 (cs := bC r4 x4) rfl rfl (fun i v h => by have := aN (j := 51) (bC r4 x4) 0 (H := (aC 51 0 zL1 ++ (aC 50 0 (bC (r4) (x4)) ++ []))) ble i v h; rwa [Nat.zero_add] at this) ble kR) fun w_ s_ => ⟨x4, rfl, s_.aJ0, ir4 _ _ _ s_, gr4⟩
end
end Go.Proofs.YtdbbifbmkfmbkaaGreat
