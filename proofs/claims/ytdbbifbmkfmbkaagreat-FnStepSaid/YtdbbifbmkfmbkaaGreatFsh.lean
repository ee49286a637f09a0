import Derived.Test.YtdbbifbmkfmbkaaGreatFsg
set_option linter.unusedVariables false
set_option linter.unusedSimpArgs false
set_option maxRecDepth 100000
set_option maxHeartbeats 8000000
namespace Go.Proofs.YtdbbifbmkfmbkaaGreat
open Go.RowKit Go.Fr Go.Tab
section
variable {F : Nat → Prop} {w0 : World} {B : LN} {H : LV} {S : LS}
open Go.Md
def z30 : List Value := [iV 0, iV 0, iV 0, iV 0, iV 0, iV 0, iV 0, .pointer none, iV 0, iV 0, iV 0, iV 0, iV 0, iV 0, iV 0, .slice none 0 0, .slice none 0 0, .slice none 0 0, .slice none 0 0, .slice none 0 0, .slice none 0 0, .slice none 0 0, .slice none 0 0, .slice none 0 0, iV 0, iV 0, .slice none 0 0, .slice none 0 0, .bool false, .slice none 0 0]
def it1 (o : Opn) (r : Ru) (ts : List Int) : It where
 y := Cal.yearOf (o.d / 86400)
 mo := Cal.monthOf (o.d / 86400)
 d := Cal.mdayOf (o.d / 86400)
 h := o.d % 86400 / 3600
 mi := o.d % 86400 / 60 % 60
 s := o.d % 86400 % 60
 wd := ((o.d / 86400 + 1) % 7 + 6) % 7
 ly := Cal.yearOf (o.d / 86400)
 lm := Cal.monthOf (o.d / 86400)
 wno := r.wnoF (Cal.yearOf (o.d / 86400))
 nwm := r.nwmF (Cal.yearOf (o.d / 86400)) (Cal.monthOf (o.d / 86400))
 eas := r.easF (Cal.yearOf (o.d / 86400))
 ts := ts
 total := 0
 count := o.count
 rem := []
 fin := false
abbrev it0 (o : Opn) (r : Ru) : It := it1 o r (kD o)
def pW (x : Av) : Ra := ⟨x.p9, x.c9, x.pm, x.cm, x.q48, x.e48, x.q49, x.e49, x.p12, x.c12, x.p13, x.c13, x.q52, x.e52, x.q53, x.e53, x.q54, x.e54, x.q55, x.e55, x.q56, x.e56, x.p18, x.c18⟩
structure RuLen (r : Ru) : Prop where
 l46 : r.setpos.length ≤ 1000000000
 l47 : r.month.length ≤ 1000000000
 l48 : r.mday.length ≤ 1000000000
 l49 : r.nmday.length ≤ 1000000000
 l50 : r.yday.length ≤ 1000000000
 l51 : r.weekno.length ≤ 1000000000
 l52 : r.wday.length ≤ 1000000000
 l54 : r.hour.length ≤ 1000000000
 l55 : r.minute.length ≤ 1000000000
 l56 : r.second.length ≤ 1000000000
 l57 : r.easter.length ≤ 1000000000
theorem rU {d : Int} (h : 0 ≤ d) : 1 ≤ Cal.yearOf d := by
 obtain ⟨e, h0, h1⟩ := Cal.split_spec d
 have := Cal.lp_01 (Cal.yearOf d)
 unfold Cal.daysTo at e
 omega
theorem wQ {d : Int} (h : d < 3652059) : Cal.yearOf d ≤ 9999 := by
 obtain ⟨e, h0, h1⟩ := Cal.split_spec d
 rcases Int.lt_or_le 9999 (Cal.yearOf d) with hh | hh
 ·have := Cal.daysTo_mono (show (10000 : Int) ≤ Cal.yearOf d by omega)
  have e2 : Cal.daysTo 10000 = 3652059 := by decide
  omega
 ·exact hh
def z5 (o : Opn) (rb : Nat) : List Value := [iV (Cal.yearOf (o.d / 86400)), iV (Cal.monthOf (o.d / 86400)), iV (Cal.mdayOf (o.d / 86400)), iV (o.d % 86400 / 3600), iV (o.d % 86400 / 60 % 60), iV (o.d % 86400 % 60), iV (((o.d / 86400 + 1) % 7 + 6) % 7), pT rb, iV 0, iV 0, iV 0, iV 0, iV 0, iV 0, iV 0, .slice none 0 0, .slice none 0 0, .slice none 0 0, .slice none 0 0, .slice none 0 0, .slice none 0 0, .slice none 0 0, .slice none 0 0, .slice none 0 0, iV 0, iV 0, .slice none 0 0, .slice none 0 0, .bool false, .slice none 0 0]
theorem it_b {R : Ending → World → Prop} {o : Opn} {x : Av} {wF : Int → List Int} {nF : Int → Int → List Int} {eF : Int → List Int} (ok : OpOk o) (hf4 : o.freq < 4) (hw0 : o.weekno.length = 0) (hd0 : ((bC o wF nF eF)).nwd.length = 0) (he0 : o.easter.length = 0) (hwF : ∀ y, wF y = []) (hnF : ∀ y m, nF y m = []) (heF : ∀ y, eF y = []) (hlen : RuLen (bC o wF nF eF)) {rb : Nat} {S0 : LS} (of : OutF F w0 o x S0 S) (hR1 : lkp 1 B = some rb) (hc1 : cellsAt 1 H 0 (hY o x)) (h38 : ∀ q, q < 4096 → lkp (ky 38 q) H = none) {it : Nat} (h0 : cellsAt 0 H 0 (z5 o rb)) (lim : Lim 40 ((0, it) :: B) H S) (hdm : o.d < 315537897600) (hR : ∀ a H' S' w, St F w0 S' H' it rb (bC o wF nF eF) (pW x) (it0 o (bC o wF nF eF)) a ((0, it) :: B) H' S' → (∀ k, 26 ≤ k → k < 40 → lkp k S' = lkp k S) → (∀ q, q < 4096 → lkp (ky 38 q) H' = none) → Sees F w0 ((0, it) :: B) H' S' w → R (.returned (.func (.func 53) #[pT it] #[])) w) :
  GC Tryz.prog (Go.Fr.part [1, 1, 1, 1, 1, 1] (Go.Fr.bodyOf Tryz.f35)) (bodyPost Tryz.prog Tryz.f35 R) 148 [(0, pT rb), (3, pT it)] F w0 ((0, it) :: B) H S := by
 have hd_ := ok.d
 have hyp_ := rU (d := o.d / 86400) oM
 have hyd := iB (x := o.d) oM
 have hym := wQ (d := o.d / 86400) oM
 have hr51 : lkp (ky 1 51) H = some (.slice x.p13 0 x.c13) := by have := hc1.get 51 _ rfl; rw [hw0] at this; exact this
 have hr53 : lkp (ky 1 53) H = some (.slice x.q53 0 x.e53) := by have := hc1.get 53 _ rfl; rw [show (List.filter (fun y => !cF o.freq y) (bN o)).length = 0 from hd0] at this; exact this
 have hr57 : lkp (ky 1 57) H = some (.slice x.p18 0 x.c18) := by have := hc1.get 57 _ rfl; rw [he0] at this; exact this
 refine g2 ?_
 refine rl (rfa 7) ?_
 refine rl (rfa 0) ?_
 refine rl (aZ 0 rfl rfl (h0.get 0 _ rfl) kR dE) ?_
 refine rl (rfa 1) ?_
 refine rl (aZ 0 rfl rfl (h0.get 1 _ rfl) kR dE) ?_
 refine gL (o9 (B := (0, it) :: B) (H := H) (S := S) (yv := Cal.yearOf (o.d / 86400)) (mv := Cal.monthOf (o.d / 86400)) dE kR rfl (fun w_ s_ => rI (B := (0, it) :: B) (H := H) (S := S) (ly := 0) (lm := 0) rfl hR1 (h0.get 7 _ rfl) (h0.get 8 _ rfl) (h0.get 9 _ rfl) hr51 hr53 hr57 (hc1.get 39 _ rfl) (hc1.get 40 _ rfl) (h0.get 10 _ rfl) (h0.get 11 _ rfl) (h0.get 12 _ rfl) (h0.get 13 _ rfl) (h0.get 14 _ rfl) (h0.get 15 _ rfl) (h0.get 16 _ rfl) (h0.get 17 _ rfl) (h0.get 18 _ rfl) (h0.get 19 _ rfl) (h0.get 20 _ rfl) oM oM w_ s_) (fun b6 c6 b3 c3 b4 c4 b5 c5 b7 c7 h385 => ?_))
 refine g7 ?_
 refine rl (rfa 38) ?_
 refine rl (aZ 1 rfl hR1 (hc1.get 38 _ rfl) kR dE) ?_
 refine g3 ?_
 refine aJ rfl (decide_eq_true hf4) ?_
 refine g3 ?_
 refine rl (rfa 58) ?_
 refine rl (aZ 1 rfl hR1 (hc1.get 58 _ rfl) kR dE) ?_
 refine rl (rfa 23) ?_
 refine gL (cH 0 rfl rfl rfl (h0.get 23 _ rfl) kR rfl dE ?_)
 refine g6 ?_
 refine rl (rfa 43) ?_
 refine rl (aZ 1 rfl hR1 (hc1.get 43 _ rfl) kR dE) ?_
 refine rl (rfa 25) ?_
 refine gL (cH 0 rfl rfl rfl (h0.get 25 _ rfl) kR rfl dE ?_)
 refine g4 ?_
 refine rl ((gC (first := [pT it]) (capt := []) rfl rfl)) ?_
 refine g4 ?_
 refine aD (.inl rfl) rfl (aA rfl) fun w s => ?_
 have s := (s.aGs 1 156 2).aGs 0 57 2
 have e_w : (it0 o (bC o wF nF eF)).wno.length = 0 := by show (wF _).length = 0; rw [hwF]; rfl
 have e_n : (it0 o (bC o wF nF eF)).nwm.length = 0 := by show (nF _ _).length = 0; rw [hnF]; rfl
 have e_e : (it0 o (bC o wF nF eF)).eas.length = 0 := by show (eF _).length = 0; rw [heF]; rfl
 have fin : ∀ (a : Ad) {H' : LV} {S' : LS}, Sees F w0 ((0, it) :: B) H' S' w → St F w0 S' H' it rb (bC o wF nF eF) (pW x) (it0 o (bC o wF nF eF)) a ((0, it) :: B) H' S' → (∀ k, 26 ≤ k → k < 40 → lkp k S' = lkp k S) → (∀ q, q < 4096 → lkp (ky 38 q) H' = none) → R (.returned (.func (.func 53) #[pT it] #[])) w := fun a _ _ s h1 h2 h3 => hR a _ _ w h1 h2 h3 s
 refine fin ({ b3 := b3, c3 := c3, b4 := b4, c4 := c4, b5 := b5, c5 := c5, b6 := b6, c6 := c6, b7 := b7, c7 := c7, p20 := none, c20 := 0, p21 := none, c21 := 0, p22 := none, c22 := 0, tp := x.tp, tc := x.tc, rp := none, rc := 0, rs := none, rk := 0, rn := 0, rj := 0, rall := [], bk := .slice none 0 0, dp := none, dc := 0, dn := 0, dxs := [], ln := iV 0 } : Ad) s ⟨rfl, hR1, (by repeat (first | exact lim | apply Lim.aGn _ dE dE | apply Lim.aGo _ dE)), (h0.get 0 _ rfl), (h0.get 1 _ rfl), (h0.get 2 _ rfl), (h0.get 3 _ rfl), (h0.get 4 _ rfl), (h0.get 5 _ rfl), (h0.get 6 _ rfl), (h0.get 7 _ rfl), rfl, rfl, rfl, rfl, rfl, rfl, rfl, rfl, rfl, rfl, rfl, rfl, (show lkp (ky 0 20) _ = some (Value.slice none (it0 o (bC o wF nF eF)).wno.length 0) from by rw [e_w]; exact rfl), (show lkp (ky 0 21) _ = some (Value.slice none (it0 o (bC o wF nF eF)).nwm.length 0) from by rw [e_n]; exact h0.get 21 _ rfl), (show lkp (ky 0 22) _ = some (Value.slice none (it0 o (bC o wF nF eF)).eas.length 0) from by rw [e_e]; exact h0.get 22 _ rfl), rfl, (h0.get 24 _ rfl), rfl, (h0.get 26 _ rfl), (h0.get 27 _ rfl), (h0.get 28 _ rfl), (h0.get 29 _ rfl), rfl, rfl, (of.r2 hf4), rfl, rfl, rfl, rfl, rfl, (fun h => absurd h (by rw [e_w]; decide)), (fun h => absurd h (by rw [e_n]; decide)), (fun h => absurd h (by rw [e_e]; decide)), (fun h => absurd h (by rw [e_w]; decide)), (fun h => absurd h (by rw [e_n]; decide)), (fun h => absurd h (by rw [e_e]; decide)), h385, (fun _ _ _ => rfl), (fun _ _ _ _ _ => rfl), (fun _ => ⟨rfl, rfl, rfl, rfl⟩), (fun h => absurd rfl h), (hc1.get 38 _ rfl), (hc1.get 39 _ rfl), (hc1.get 40 _ rfl), (hc1.get 41 _ rfl), (hc1.get 42 _ rfl), (hc1.get 44 _ rfl), (hc1.get 45 _ rfl), (hc1.get 46 _ rfl), (hc1.get 47 _ rfl), (hc1.get 48 _ rfl), (hc1.get 49 _ rfl), (hc1.get 50 _ rfl), (hc1.get 51 _ rfl), (hc1.get 52 _ rfl), (hc1.get 53 _ rfl), (hc1.get 54 _ rfl), (hc1.get 55 _ rfl), (hc1.get 56 _ rfl), (hc1.get 57 _ rfl), (hc1.get 59 _ rfl), ((of.s9.toI dE).to aG), ((of.sm.toI dE).to aG), ((SrcI.row dE of.r12).to aG), ((SrcI.row dE of.r13).to aG), ((of.s12.toI dE).to aG), ((of.s13.toI dE).to aG), ((SrcI.row dE of.r14).to aG), ((of.sh.toI dE).to aG), ((of.si.toI dE).to aG), ((of.ss.toI dE).to aG), ((of.s18.toI dE).to aG), hlen.l46, hlen.l47, hlen.l48, hlen.l49, hlen.l50, hlen.l51, hlen.l52, hlen.l54, hlen.l55, hlen.l56, hlen.l57⟩ (fun k h1 h2 => by repeat (first | rfl | rw [aO oM])) (fun q hq => ?_)
 repeat (first | exact h38 q hq | rw [aR dE hq dE])
theorem it_a {R : Ending → World → Prop} {o : Opn} {x : Av} (ok : OpOk o) {rb : Nat} (hR1 : lkp 1 B = some rb) (hc1 : cellsAt 1 H 0 (hY o x)) (h38 : ∀ q, q < 4096 → lkp (ky 38 q) H = none) {it : Nat} (h0 : cellsAt 0 H 0 z30) (lim : Lim 40 ((0, it) :: B) H S)
  (hb : ∀ {H' : LV}, cellsAt 1 H' 0 (hY o x) → (∀ q, q < 4096 → lkp (ky 38 q) H' = none) → cellsAt 0 H' 0 (z5 o rb) → Lim 40 ((0, it) :: B) H' S → GC Tryz.prog (Go.Fr.part [1, 1, 1, 1, 1, 1] (Go.Fr.bodyOf Tryz.f35)) (bodyPost Tryz.prog Tryz.f35 R) 148 [(0, pT rb), (3, pT it)] F w0 ((0, it) :: B) H' S) :
  GC Tryz.prog (Go.Fr.part [1, 1] (Go.Fr.bodyOf Tryz.f35)) (bodyPost Tryz.prog Tryz.f35 R) 148 [(0, pT rb), (3, pT it)] F w0 ((0, it) :: B) H S := by
 have hd_ := ok.d
 have hyp_ := rU (d := o.d / 86400) oM
 have hyd := iB (x := o.d) oM
 refine g4 ?_
 refine rl (rfa 39) ?_
 refine rl (aT 1 rfl hR1 (hc1.get 39 _ rfl) (hc1.get 40 _ rfl) kR dE) ?_
 refine gL (cvo (v := .tuple #[iV (Cal.yearOf (o.d / 86400)), iV (Cal.monthOf (o.d / 86400)), iV (Cal.mdayOf (o.d / 86400))]) rfl (fun w_ s_ => (iP _ _ oM w_).mono fun e_ w2_ h_ => ⟨h_.1.trans (congrArg Ending.returned rfl), h_.2⟩) ?_)
 refine g4 ?_
 refine rl (rfa 0) ?_
 refine gL (cH 0 rfl rfl rfl (h0.get 0 _ rfl) kR rfl dE ?_)
 refine rl (rfa 1) ?_
 refine gL (cH 0 rfl rfl rfl (h0.get 1 _ rfl) kR rfl dE ?_)
 refine rl (rfa 2) ?_
 refine gL (cH 0 rfl rfl rfl (h0.get 2 _ rfl) kR rfl dE ?_)
 refine g6 ?_
 refine rl (rfa 39) ?_
 refine rl (aT 1 rfl hR1 (hc1.get 39 _ rfl) (hc1.get 40 _ rfl) kR dE) ?_
 refine gL (cvo (v := .tuple #[iV (o.d % 86400 / 3600), iV (o.d % 86400 / 60 % 60), iV (o.d % 86400 % 60)]) rfl (fun w_ s_ => (gD _ _ oM w_).mono fun e_ w2_ h_ => ⟨h_.1.trans (congrArg Ending.returned rfl), h_.2⟩) ?_)
 refine g4 ?_
 refine rl (rfa 3) ?_
 refine gL (cH 0 rfl rfl rfl (h0.get 3 _ rfl) kR rfl dE ?_)
 refine rl (rfa 4) ?_
 refine gL (cH 0 rfl rfl rfl (h0.get 4 _ rfl) kR rfl dE ?_)
 refine rl (rfa 5) ?_
 refine gL (cH 0 rfl rfl rfl (h0.get 5 _ rfl) kR rfl dE ?_)
 refine g6 ?_
 refine rl (rfa 39) ?_
 refine rl (aT 1 rfl hR1 (hc1.get 39 _ rfl) (hc1.get 40 _ rfl) kR dE) ?_
 refine gL (cvo (v := iV ((o.d / 86400 + 1) % 7)) rfl (fun w_ s_ => (iZ _ _ oM w_).mono fun e_ w2_ h_ => ⟨h_.1.trans (congrArg Ending.returned rfl), h_.2⟩) ?_)
 refine gL (cvo (v := iV (((o.d / 86400 + 1) % 7 + 6) % 7)) rfl (fun w_ s_ => (lA _ oM w_).mono fun e_ w2_ h_ => ⟨h_.1.trans (congrArg Ending.returned rfl), h_.2⟩) ?_)
 refine rl (rfa 6) ?_
 refine gL (cH 0 rfl rfl rfl (h0.get 6 _ rfl) kR rfl dE ?_)
 refine g5 ?_
 refine rl (fJ (vs := [(0, pT rb)]) (v := .agg #[pT rb, iV 0, iV 0, iV 0, iV 0, iV 0, iV 0, iV 0, .slice none 0 0, .slice none 0 0, .slice none 0 0, .slice none 0 0, .slice none 0 0, .slice none 0 0, .slice none 0 0, .slice none 0 0]) rfl (fun w => by kernel_rfl)) ?_
 refine rl (rfa 7) ?_
 refine gL (bV 0 (cs := #[pT rb, iV 0, iV 0, iV 0, iV 0, iV 0, iV 0, iV 0, .slice none 0 0, .slice none 0 0, .slice none 0 0, .slice none 0 0, .slice none 0 0, .slice none 0 0, .slice none 0 0, .slice none 0 0]) rfl rfl rfl (bW (by repeat (first | exact Knw.refl _ | apply Knw.cons)) (dA h0 7 16 ble)) kR rfl ble ?_)
 refine g2 ?_
 refine dD (L' := [(0, pT rb), (3, pT it)]) kns (fun w s => s) (H' := cM 0 7 [pT rb, iV 0, iV 0, iV 0, iV 0, iV 0, iV 0, iV 0, .slice none 0 0, .slice none 0 0, .slice none 0 0, .slice none 0 0, .slice none 0 0, .slice none 0 0, .slice none 0 0, .slice none 0 0] ((ky 0 6, iV (((o.d / 86400 + 1) % 7 + 6) % 7)) :: (ky 0 5, iV (o.d % 86400 % 60)) :: (ky 0 4, iV (o.d % 86400 / 60 % 60)) :: (ky 0 3, iV (o.d % 86400 / 3600)) :: (ky 0 2, iV (Cal.mdayOf (o.d / 86400))) :: (ky 0 1, iV (Cal.monthOf (o.d / 86400))) :: (ky 0 0, iV (Cal.yearOf (o.d / 86400))) :: H)) ?_
 have h5 : cellsAt 0 (cM 0 7 [pT rb, iV 0, iV 0, iV 0, iV 0, iV 0, iV 0, iV 0, .slice none 0 0, .slice none 0 0, .slice none 0 0, .slice none 0 0, .slice none 0 0, .slice none 0 0, .slice none 0 0, .slice none 0 0] ((ky 0 6, iV (((o.d / 86400 + 1) % 7 + 6) % 7)) :: (ky 0 5, iV (o.d % 86400 % 60)) :: (ky 0 4, iV (o.d % 86400 / 60 % 60)) :: (ky 0 3, iV (o.d % 86400 / 3600)) :: (ky 0 2, iV (Cal.mdayOf (o.d / 86400))) :: (ky 0 1, iV (Cal.monthOf (o.d / 86400))) :: (ky 0 0, iV (Cal.yearOf (o.d / 86400))) :: H)) 0 (z5 o rb) := (cC ((d8 (j := 0) [pT rb, iV 0, iV 0, iV 0, iV 0, iV 0, iV 0, iV 0, .slice none 0 0, .slice none 0 0, .slice none 0 0, .slice none 0 0, .slice none 0 0, .slice none 0 0, .slice none 0 0, .slice none 0 0] 7 0 dE ble).trans rfl) (cC ((d8 (j := 0) [pT rb, iV 0, iV 0, iV 0, iV 0, iV 0, iV 0, iV 0, .slice none 0 0, .slice none 0 0, .slice none 0 0, .slice none 0 0, .slice none 0 0, .slice none 0 0, .slice none 0 0, .slice none 0 0] 7 1 dE ble).trans rfl) (cC ((d8 (j := 0) [pT rb, iV 0, iV 0, iV 0, iV 0, iV 0, iV 0, iV 0, .slice none 0 0, .slice none 0 0, .slice none 0 0, .slice none 0 0, .slice none 0 0, .slice none 0 0, .slice none 0 0, .slice none 0 0] 7 2 dE ble).trans rfl) (cC ((d8 (j := 0) [pT rb, iV 0, iV 0, iV 0, iV 0, iV 0, iV 0, iV 0, .slice none 0 0, .slice none 0 0, .slice none 0 0, .slice none 0 0, .slice none 0 0, .slice none 0 0, .slice none 0 0, .slice none 0 0] 7 3 dE ble).trans rfl) (cC ((d8 (j := 0) [pT rb, iV 0, iV 0, iV 0, iV 0, iV 0, iV 0, iV 0, .slice none 0 0, .slice none 0 0, .slice none 0 0, .slice none 0 0, .slice none 0 0, .slice none 0 0, .slice none 0 0, .slice none 0 0] 7 4 dE ble).trans rfl) (cC ((d8 (j := 0) [pT rb, iV 0, iV 0, iV 0, iV 0, iV 0, iV 0, iV 0, .slice none 0 0, .slice none 0 0, .slice none 0 0, .slice none 0 0, .slice none 0 0, .slice none 0 0, .slice none 0 0, .slice none 0 0] 7 5 dE ble).trans rfl) (cC ((d8 (j := 0) [pT rb, iV 0, iV 0, iV 0, iV 0, iV 0, iV 0, iV 0, .slice none 0 0, .slice none 0 0, .slice none 0 0, .slice none 0 0, .slice none 0 0, .slice none 0 0, .slice none 0 0, .slice none 0 0] 7 6 dE ble).trans rfl) (cC (aL (j := 0) [pT rb, iV 0, iV 0, iV 0, iV 0, iV 0, iV 0, iV 0, .slice none 0 0, .slice none 0 0, .slice none 0 0, .slice none 0 0, .slice none 0 0, .slice none 0 0, .slice none 0 0, .slice none 0 0] 7 ble 0 _ rfl) (cC (aL (j := 0) [pT rb, iV 0, iV 0, iV 0, iV 0, iV 0, iV 0, iV 0, .slice none 0 0, .slice none 0 0, .slice none 0 0, .slice none 0 0, .slice none 0 0, .slice none 0 0, .slice none 0 0, .slice none 0 0] 7 ble 1 _ rfl) (cC (aL (j := 0) [pT rb, iV 0, iV 0, iV 0, iV 0, iV 0, iV 0, iV 0, .slice none 0 0, .slice none 0 0, .slice none 0 0, .slice none 0 0, .slice none 0 0, .slice none 0 0, .slice none 0 0, .slice none 0 0] 7 ble 2 _ rfl) (cC (aL (j := 0) [pT rb, iV 0, iV 0, iV 0, iV 0, iV 0, iV 0, iV 0, .slice none 0 0, .slice none 0 0, .slice none 0 0, .slice none 0 0, .slice none 0 0, .slice none 0 0, .slice none 0 0, .slice none 0 0] 7 ble 3 _ rfl) (cC (aL (j := 0) [pT rb, iV 0, iV 0, iV 0, iV 0, iV 0, iV 0, iV 0, .slice none 0 0, .slice none 0 0, .slice none 0 0, .slice none 0 0, .slice none 0 0, .slice none 0 0, .slice none 0 0, .slice none 0 0] 7 ble 4 _ rfl) (cC (aL (j := 0) [pT rb, iV 0, iV 0, iV 0, iV 0, iV 0, iV 0, iV 0, .slice none 0 0, .slice none 0 0, .slice none 0 0, .slice none 0 0, .slice none 0 0, .slice none 0 0, .slice none 0 0, .slice none 0 0] 7 ble 5 _ rfl) (cC (aL (j := 0) [pT rb, iV 0, iV 0, iV 0, iV 0, iV 0, iV 0, iV 0, .slice none 0 0, .slice none 0 0, .slice none 0 0, .slice none 0 0, .slice none 0 0, .slice none 0 0, .slice none 0 0, .slice none 0 0] 7 ble 6 _ rfl) (cC (aL (j := 0) [pT rb, iV 0, iV 0, iV 0, iV 0, iV 0, iV 0, iV 0, .slice none 0 0, .slice none 0 0, .slice none 0 0, .slice none 0 0, .slice none 0 0, .slice none 0 0, .slice none 0 0, .slice none 0 0] 7 ble 7 _ rfl) (cC (aL (j := 0) [pT rb, iV 0, iV 0, iV 0, iV 0, iV 0, iV 0, iV 0, .slice none 0 0, .slice none 0 0, .slice none 0 0, .slice none 0 0, .slice none 0 0, .slice none 0 0, .slice none 0 0, .slice none 0 0] 7 ble 8 _ rfl) (cC (aL (j := 0) [pT rb, iV 0, iV 0, iV 0, iV 0, iV 0, iV 0, iV 0, .slice none 0 0, .slice none 0 0, .slice none 0 0, .slice none 0 0, .slice none 0 0, .slice none 0 0, .slice none 0 0, .slice none 0 0] 7 ble 9 _ rfl) (cC (aL (j := 0) [pT rb, iV 0, iV 0, iV 0, iV 0, iV 0, iV 0, iV 0, .slice none 0 0, .slice none 0 0, .slice none 0 0, .slice none 0 0, .slice none 0 0, .slice none 0 0, .slice none 0 0, .slice none 0 0] 7 ble 10 _ rfl) (cC (aL (j := 0) [pT rb, iV 0, iV 0, iV 0, iV 0, iV 0, iV 0, iV 0, .slice none 0 0, .slice none 0 0, .slice none 0 0, .slice none 0 0, .slice none 0 0, .slice none 0 0, .slice none 0 0, .slice none 0 0] 7 ble 11 _ rfl) (cC (aL (j := 0) [pT rb, iV 0, iV 0, iV 0, iV 0, iV 0, iV 0, iV 0, .slice none 0 0, .slice none 0 0, .slice none 0 0, .slice none 0 0, .slice none 0 0, .slice none 0 0, .slice none 0 0, .slice none 0 0] 7 ble 12 _ rfl) (cC (aL (j := 0) [pT rb, iV 0, iV 0, iV 0, iV 0, iV 0, iV 0, iV 0, .slice none 0 0, .slice none 0 0, .slice none 0 0, .slice none 0 0, .slice none 0 0, .slice none 0 0, .slice none 0 0, .slice none 0 0] 7 ble 13 _ rfl) (cC (aL (j := 0) [pT rb, iV 0, iV 0, iV 0, iV 0, iV 0, iV 0, iV 0, .slice none 0 0, .slice none 0 0, .slice none 0 0, .slice none 0 0, .slice none 0 0, .slice none 0 0, .slice none 0 0, .slice none 0 0] 7 ble 14 _ rfl) (cC (aL (j := 0) [pT rb, iV 0, iV 0, iV 0, iV 0, iV 0, iV 0, iV 0, .slice none 0 0, .slice none 0 0, .slice none 0 0, .slice none 0 0, .slice none 0 0, .slice none 0 0, .slice none 0 0, .slice none 0 0] 7 ble 15 _ rfl) (cC ((aM (j := 0) [pT rb, iV 0, iV 0, iV 0, iV 0, iV 0, iV 0, iV 0, .slice none 0 0, .slice none 0 0, .slice none 0 0, .slice none 0 0, .slice none 0 0, .slice none 0 0, .slice none 0 0, .slice none 0 0] 7 23 ble).trans (h0.get 23 _ rfl)) (cC ((aM (j := 0) [pT rb, iV 0, iV 0, iV 0, iV 0, iV 0, iV 0, iV 0, .slice none 0 0, .slice none 0 0, .slice none 0 0, .slice none 0 0, .slice none 0 0, .slice none 0 0, .slice none 0 0, .slice none 0 0] 7 24 ble).trans (h0.get 24 _ rfl)) (cC ((aM (j := 0) [pT rb, iV 0, iV 0, iV 0, iV 0, iV 0, iV 0, iV 0, .slice none 0 0, .slice none 0 0, .slice none 0 0, .slice none 0 0, .slice none 0 0, .slice none 0 0, .slice none 0 0, .slice none 0 0] 7 25 ble).trans (h0.get 25 _ rfl)) (cC ((aM (j := 0) [pT rb, iV 0, iV 0, iV 0, iV 0, iV 0, iV 0, iV 0, .slice none 0 0, .slice none 0 0, .slice none 0 0, .slice none 0 0, .slice none 0 0, .slice none 0 0, .slice none 0 0, .slice none 0 0] 7 26 ble).trans (h0.get 26 _ rfl)) (cC ((aM (j := 0) [pT rb, iV 0, iV 0, iV 0, iV 0, iV 0, iV 0, iV 0, .slice none 0 0, .slice none 0 0, .slice none 0 0, .slice none 0 0, .slice none 0 0, .slice none 0 0, .slice none 0 0, .slice none 0 0] 7 27 ble).trans (h0.get 27 _ rfl)) (cC ((aM (j := 0) [pT rb, iV 0, iV 0, iV 0, iV 0, iV 0, iV 0, iV 0, .slice none 0 0, .slice none 0 0, .slice none 0 0, .slice none 0 0, .slice none 0 0, .slice none 0 0, .slice none 0 0, .slice none 0 0] 7 28 ble).trans (h0.get 28 _ rfl)) (cC ((aM (j := 0) [pT rb, iV 0, iV 0, iV 0, iV 0, iV 0, iV 0, iV 0, .slice none 0 0, .slice none 0 0, .slice none 0 0, .slice none 0 0, .slice none 0 0, .slice none 0 0, .slice none 0 0, .slice none 0 0] 7 29 ble).trans (h0.get 29 _ rfl)) cN))))))))))))))))))))))))))))))
 have hc5 : cellsAt 1 (cM 0 7 [pT rb, iV 0, iV 0, iV 0, iV 0, iV 0, iV 0, iV 0, .slice none 0 0, .slice none 0 0, .slice none 0 0, .slice none 0 0, .slice none 0 0, .slice none 0 0, .slice none 0 0, .slice none 0 0] ((ky 0 6, iV (((o.d / 86400 + 1) % 7 + 6) % 7)) :: (ky 0 5, iV (o.d % 86400 % 60)) :: (ky 0 4, iV (o.d % 86400 / 60 % 60)) :: (ky 0 3, iV (o.d % 86400 / 3600)) :: (ky 0 2, iV (Cal.mdayOf (o.d / 86400))) :: (ky 0 1, iV (Cal.monthOf (o.d / 86400))) :: (ky 0 0, iV (Cal.yearOf (o.d / 86400))) :: H)) 0 (hY o x) := eB fun i u h => by have hi : 0 + i < 4096 := by { have := (List.getElem?_eq_some_iff.1 h).1; have h3 : (hY o x).length = 60 := rfl; omega }; exact (cL (j := 0) dE hi _ _ ble).trans (Eq.trans (by repeat (first | rfl | rw [aR dE hi dE])) (hc1.get i u h))
 have h385 : ∀ q, q < 4096 → lkp (ky 38 q) (cM 0 7 [pT rb, iV 0, iV 0, iV 0, iV 0, iV 0, iV 0, iV 0, .slice none 0 0, .slice none 0 0, .slice none 0 0, .slice none 0 0, .slice none 0 0, .slice none 0 0, .slice none 0 0, .slice none 0 0] ((ky 0 6, iV (((o.d / 86400 + 1) % 7 + 6) % 7)) :: (ky 0 5, iV (o.d % 86400 % 60)) :: (ky 0 4, iV (o.d % 86400 / 60 % 60)) :: (ky 0 3, iV (o.d % 86400 / 3600)) :: (ky 0 2, iV (Cal.mdayOf (o.d / 86400))) :: (ky 0 1, iV (Cal.monthOf (o.d / 86400))) :: (ky 0 0, iV (Cal.yearOf (o.d / 86400))) :: H)) = none := fun q hq => (cL (j := 0) dE hq _ _ ble).trans (Eq.trans (by repeat (first | rfl | rw [aR dE hq dE])) (h38 q hq))
 exact hb hc5 h385 h5 (Lim.seqH dE _ 7 ble (by repeat (first | exact lim | apply Lim.aGn _ dE dE)))
def vZ (o : Opn) (r : Ru) (s0 : It) : Prop := ∀ (F : Nat → Prop) (w0 : World) (B : LN) (H : LV) (S S0 : LS) (x : Av) (rb : Nat), OutF F w0 o x S0 S → lkp 1 B = some rb → cellsAt 1 H 0 (hY o x) → (∀ q, q < 4096 → lkp (ky 38 q) H = none) → lkp 0 B = none → (∀ q, q < 4096 → lkp (ky 0 q) H = none) → Lim 40 B H S →
 ∀ w, Sees F w0 B H S w → Calls Tryz.prog 35 #[pT rb] w fun e w' => ∃ it a H' S', e = .returned (.func (.func 53) #[pT it] #[]) ∧ St F w0 S' H' it rb r (pW x) s0 a ((0, it) :: B) H' S' ∧ (∀ k, 26 ≤ k → k < 40 → lkp k S' = lkp k S) ∧ (∀ q, q < 4096 → lkp (ky 38 q) H' = none) ∧ Sees F w0 ((0, it) :: B) H' S' w'
theorem yT {o : Opn} {r : Ru} {s0 : It} (ok : OpOk o) (hb : ∀ {F : Nat → Prop} {w0 : World} {B : LN} {H' : LV} {S S0 : LS} {x : Av} {rb it : Nat} {R : Ending → World → Prop}, OutF F w0 o x S0 S → lkp 1 B = some rb → cellsAt 1 H' 0 (hY o x) → (∀ q, q < 4096 → lkp (ky 38 q) H' = none) → cellsAt 0 H' 0 (z5 o rb) → Lim 40 ((0, it) :: B) H' S →
  (∀ a H2 S' w, St F w0 S' H2 it rb r (pW x) s0 a ((0, it) :: B) H2 S' → (∀ k, 26 ≤ k → k < 40 → lkp k S' = lkp k S) → (∀ q, q < 4096 → lkp (ky 38 q) H2 = none) → Sees F w0 ((0, it) :: B) H2 S' w → R (.returned (.func (.func 53) #[pT it] #[])) w) → GC Tryz.prog (Go.Fr.part [1, 1, 1, 1, 1, 1] (Go.Fr.bodyOf Tryz.f35)) (bodyPost Tryz.prog Tryz.f35 R) 148 [(0, pT rb), (3, pT it)] F w0 ((0, it) :: B) H' S) : vZ o r s0 := by
 intro F w0 B H S S0 x rb of hR1 hc1 h38 hno hno2 lim
 intro w s
 refine aN (args := [pT rb]) (L := [(0, pT rb)]) (N := 148) Tryz.func35 rfl rfl ble rfl s ?_
 refine g7 ?_
 refine rl ((kS (v := .agg z30.toArray) (fun w => by kernel_rfl))) ?_
 refine gL (dT 0 (cs := z30) dE kR hno hno2 ble (fun it hit => ?_))
 refine gL (bV 0 (cs := z30.toArray) rfl rfl rfl (dA (eA z30 ble) 0 30 ble) kR rfl ble ?_)
 refine g2 ?_
 refine dD (L' := [(0, pT rb), (3, pT it)]) kns (fun w s => s) (H' := cM 0 0 z30 (aP 0 0 z30 ++ H)) ?_
 have hc5 : cellsAt 1 (cM 0 0 z30 (aP 0 0 z30 ++ H)) 0 (hY o x) := eB fun i u h => by have hi : 0 + i < 4096 := by { have := (List.getElem?_eq_some_iff.1 h).1; have h3 : (hY o x).length = 60 := rfl; omega }; exact (cL (j := 0) dE hi _ _ ble).trans ((bB (j := 0) dE hi _ _ ble).trans (hc1.get i u h))
 exact it_a ok hR1 hc5 (fun q hq => (cL (j := 0) dE hq _ _ ble).trans ((bB (j := 0) dE hq _ _ ble).trans (h38 q hq))) (eB fun i u h => aL (j := 0) z30 0 ble i u h) (Lim.seqH dE _ 0 ble (Lim.aGq dE _ 0 ble (lim.aGp dE))) (fun a1 a2 a3 a4 => hb of hR1 a1 a2 a3 a4 (fun a H' S' w hst h1 h2 hs => ⟨it, a, H', S', rfl, hst, h1, h2, hs⟩))
theorem sX {o : Opn} {wF : Int → List Int} {nF : Int → Int → List Int} {eF : Int → List Int} (ok : OpOk o) (hf4 : o.freq < 4) (hw0 : o.weekno.length = 0) (hd0 : ((bC o wF nF eF)).nwd.length = 0) (he0 : o.easter.length = 0) (hwF : ∀ y, wF y = []) (hnF : ∀ y m, nF y m = []) (heF : ∀ y, eF y = []) (hlen : RuLen (bC o wF nF eF)) (hdm : o.d < 315537897600) : vZ o (bC o wF nF eF) (it0 o (bC o wF nF eF)) := yT ok (fun of hR1 a1 a2 a3 a4 hR => it_b ok hf4 hw0 hd0 he0 hwF hnF heF hlen of hR1 a1 a2 a3 a4 hdm hR)
inductive Tells (r : Ru) (N : Nat) : It → Nat → List Int → Prop
 | zero {s : It} : Tells r N s 0 []
 | stop {s e : It} {k : Nat} (h : GenTo r N s e) (hr : e.rem = []) : Tells r N s (k + 1) []
 | more {s e : It} {k : Nat} {t : Int} {l : List Int} (h : GenTo r N s e) (hr : e.rem.head? = some t) (ht : Tells r N { e with rem := e.rem.tail } k l) : Tells r N s (k + 1) (t :: l)
theorem aBe {e : It} (h : e.rem = []) : nT e = .tuple #[.agg #[iV 0, iV 0], .bool false] := by unfold nT; rw [h]
theorem aAv {e : It} {t : Int} (h : e.rem.head? = some t) : nT e = .tuple #[.agg #[iV t, iV 0], .bool true] := by
 unfold nT
 cases hr : e.rem with
 | nil => rw [hr] at h; cases h
 | cons a l => rw [hr] at h; cases h; rfl
def St1 (F : Nat → Prop) (w0 : World) (it rb : Nat) (r : Ru) (l : Ra) (s : It) (a : Ad) (B : LN) (H : LV) (S : LS) : Prop := St F w0 S H it rb r l s a B H S
theorem St.row35 {S0 : LS} {H0 : LV} {r : Ru} {l : Ra} {it rb : Nat} {s : It} {a : Ad} (st : St F w0 S0 H0 it rb r l s a B H S) (q : Slc) : St1 F w0 it rb r l s a B (iD 38 H) ((35, q) :: S) := ⟨st.hB, st.hR, ⟨st.lim.b, fun k_ h_ o_ ho_ => (aK (by rw [nH ho_]; omega)).trans (st.lim.h k_ h_ o_ ho_), fun k_ h_ => (aO oM _ _).trans (st.lim.s k_ h_)⟩, (aK dE).trans st.h0, (aK dE).trans st.h1, (aK dE).trans st.h2, (aK dE).trans st.h3, (aK dE).trans st.h4, (aK dE).trans st.h5, (aK dE).trans st.h6, (aK dE).trans st.h7, (aK dE).trans st.h8, (aK dE).trans st.h9, (aK dE).trans st.h10, (aK dE).trans st.h11, (aK dE).trans st.h12, (aK dE).trans st.h13, (aK dE).trans st.h14, (aK dE).trans st.h15, (aK dE).trans st.h16, (aK dE).trans st.h17, (aK dE).trans st.h18, (aK dE).trans st.h19, (aK dE).trans st.h20, (aK dE).trans st.h21, (aK dE).trans st.h22, (aK dE).trans st.h23, (aK dE).trans st.h24, (aK dE).trans st.h25, (aK dE).trans st.h26, (aK dE).trans st.h27, (aK dE).trans st.h28, (aK dE).trans st.h29, st.hS0, st.hS1, st.hS2, st.hS3, st.hS4, st.hS5, st.hS6, st.hS7, st.hS8, st.hS9, st.hS10, st.hp20, st.hp21, st.hp22, st.c6, (fun _ _ _ => rfl), (fun _ _ _ _ _ => rfl), st.hq0, st.hq1, (aK dE).trans st.r38, (aK dE).trans st.r39, (aK dE).trans st.r40, (aK dE).trans st.r41, (aK dE).trans st.r42, (aK dE).trans st.r44, (aK dE).trans st.r45, (aK dE).trans st.r46, (aK dE).trans st.r47, (aK dE).trans st.r48, (aK dE).trans st.r49, (aK dE).trans st.r50, (aK dE).trans st.r51, (aK dE).trans st.r52, (aK dE).trans st.r53, (aK dE).trans st.r54, (aK dE).trans st.r55, (aK dE).trans st.r56, (aK dE).trans st.r57, (aK dE).trans st.r59, (st.hI46.to aG), (st.hI47.to aG), (st.hI48.to aG), (st.hI49.to aG), (st.hI50.to aG), (st.hI51.to aG), (st.hI52.to aG), (st.hI54.to aG), (st.hI55.to aG), (st.hI56.to aG), (st.hI57.to aG), st.hl46, st.hl47, st.hl48, st.hl49, st.hl50, st.hl51, st.hl52, st.hl54, st.hl55, st.hl56, st.hl57⟩
theorem aBx {F : Nat → Prop} {w0 : World} {S : LS} {t : Nat} {v : Value} {ps : List (Int × Int)} (h : Prs w0 v ps) (hF : ∀ b, ¬ F b) : SrcU F w0 S t v ps := fun B H S' w _ s => by
 obtain ⟨p, c, rfl, hc⟩ := h
 refine ⟨p, c, rfl, fun i x hx => ?_⟩
 obtain ⟨b, o, rfl, h1, h2⟩ := hc i x hx
 exact ⟨b, o, rfl, s.aGu h1 (hF b), s.aGu h2 (hF b)⟩
theorem xD {r : Ru} {N : Nat} {s : It} {k : Nat} {l : List Int} (h : Tells r N s (k + 1) l) : ∃ e, GenTo r N s e ∧ ((e.rem = [] ∧ l = []) ∨ ∃ t l2, e.rem.head? = some t ∧ l = t :: l2 ∧ Tells r N { e with rem := e.rem.tail } k l2) := by
 cases h with
 | stop h hr => exact ⟨_, h, .inl ⟨hr, rfl⟩⟩
 | more h hr ht => exact ⟨_, h, .inr ⟨_, _, hr, rfl, ht⟩⟩
theorem Sees.lessH {w : World} {k : Nat} (s : Sees F w0 B H S w) : Sees F w0 B (iD k H) S w := s.to (fun _ _ h => h) (fun j o v ho h => by
 have hjk : j ≠ k := fun e => by rw [e, i8 ho] at h; cases h
 rw [aK (by rw [nH ho]; exact hjk)] at h
 obtain ⟨b, e, _⟩ := s.cells j o v ho h
 exact ⟨h, by rw [e]; rfl⟩) (fun _ _ h => h)
theorem Sees.dropRow2 {w : World} {k j : Nat} {q u : Slc} (s : Sees F w0 B H ((k, q) :: (j, u) :: S) w) (hj : lkp j S = none) (hjk : j ≠ k) : Sees F w0 B H ((k, q) :: S) w :=
 s.to (fun _ _ h => h) (fun j o v ho h => ⟨h, by obtain ⟨b, e, _⟩ := s.cells j o v ho h; rw [e]; rfl⟩) (fun i r h => by
  by_cases e : i = k
  ·subst e; rw [bL] at h ⊢; exact h
  ·rw [aO e] at h ⊢
   by_cases e2 : i = j
   ·subst e2; rw [hj] at h; cases h
   ·rw [aO e2]; exact h)
structure InL (w : World) (r : Rul) (x : Av) : Prop where
 i9 : Ints w (.slice x.p9 (r.setpos).length x.c9) r.setpos
 i10 : Ints w (.slice x.p10 (r.month).length x.c10) r.month
 i11 : Ints w (.slice x.p11 (r.mday).length x.c11) r.mday
 i12 : Ints w (.slice x.p12 (r.yday).length x.c12) r.yday
 i13 : Ints w (.slice x.p13 (r.weekno).length x.c13) r.weekno
 i14 : Prs w (.slice x.p14 (r.wday).length x.c14) r.wday
 i15 : Ints w (.slice x.p15 (r.hour).length x.c15) r.hour
 i16 : Ints w (.slice x.p16 (r.minute).length x.c16) r.minute
 i17 : Ints w (.slice x.p17 (r.second).length x.c17) r.second
 i18 : Ints w (.slice x.p18 (r.easter).length x.c18) r.easter
theorem lI {r : Rul} {x : Av} {ru : Ru} {s0 : It} (ok : OpOk (aC r)) (hit : vZ (aC r) ru s0) (rk : RulOk r) (vk : VbOk (aC r)) (hsort : ∀ F w0, iU F w0 (raw (aC r))) (hr : RuOk ru) (hp : Plain ru) (hpres : sH ru) {most N : Nat} (hm : most ≤ 1000000) {l : List Int} (hT : Tells ru N s0 most l) (w : World) (hin : InL w r x) :
  Calls Tryz.prog 18 #[.agg (cI r x).toArray, iV most] w fun e w' => ∃ p c, e = .returned (.tuple #[.slice p l.length c, .bool true]) ∧ fM w w' (.slice p l.length c) 2 1 l.length (l.map iV) := by
 refine aN (args := [.agg (cI r x).toArray, iV most]) (L := [(0, .agg (cI r x).toArray), (1, iV most)]) (N := 38) Tryz.func18 rfl rfl ble rfl (sS w) ?_
 refine g2 ?_
 refine gL (iX 30 (cs := cI r x) dE rfl rfl rfl (fun o ho => rfl) ble (fun b1 hb1 => ?_))
 refine g6 ?_
 refine rl ((fZ 30 (cs := cI r x) rfl rfl (gW (cI r x) 0 ble) ble kR)) ?_
 refine gL (dF (ι := Option Addr × Nat) (fun y => .agg (oc0 (aC r) { x with p14 := y.1, c14 := y.2 }).toArray) (fun _ => True) (fun _ => [(30, b1)]) (fun _ => (aP 30 0 (cI r x) ++ [])) (fun y => [(11, ⟨.slice y.1 r.wday.length y.2, 59, 2, r.wday.length, dR r.wday⟩)]) dE kR rfl (fun w_ s_ => (uK (x := x) rk (Lim.aGq dE _ 0 ble ((Lim.nil).aGp dE)) rfl (fun S => aBx hin.i14 (fun b h => h)) w_ s_).mono fun e w' ⟨p, c, he, hs⟩ => ⟨(p, c), trivial, he, hs⟩) (fun | (p0, c0), _ => ?_))
 refine gL (dF (ι := Nat × Av × LS) (fun y => .tuple #[pT y.1, .nilIface]) (fun y => OutF (fun _ => False) w (aC r) y.2.1 [(11, ⟨.slice p0 r.wday.length c0, 59, 2, r.wday.length, dR r.wday⟩)] y.2.2) (fun y => (1, y.1) :: [(30, b1)]) (fun y => aP 1 0 (hY (aC r) y.2.1) ++ (aP 30 0 (cI r x) ++ [])) (fun y => y.2.2) dE kR rfl (fun w_ s_ => (qR (x := { x with p14 := p0, c14 := c0 }) ok vk (fun _ => hsort _ _) ((Lim.aGq dE _ 0 ble ((Lim.nil).aGp dE)).aGo dE) rfl (fun q hq => bB dE hq _ _ ble) (SrcT.old hin.i9 (fun b h => h)) (SrcT.old hin.i10 (fun b h => h)) (SrcT.old hin.i11 (fun b h => h)) (SrcT.old hin.i12 (fun b h => h)) (SrcT.old hin.i13 (fun b h => h)) (SrcU.row (t := 11) (e := 59) rfl) (SrcT.old hin.i15 (fun b h => h)) (SrcT.old hin.i16 (fun b h => h)) (SrcT.old hin.i17 (fun b h => h)) (SrcT.old hin.i18 (fun b h => h)) w_ s_).mono fun e w' ⟨rb, x', S', he, hf, hs⟩ => ⟨(rb, x', S'), hf, he, hs⟩) (fun | (rb, x2, S2), hf2 => ?_))
 refine g11 ?_
 refine rl ((qU (v := .bool false) rfl rfl (fun w => by kernel_rfl))) ?_
 refine g2 ?_
 refine aB rfl rfl ?_
 refine g5 ?_
 have hf2 : OutF (fun _ => False) w (aC r) x2 [(11, ⟨.slice p0 r.wday.length c0, 59, 2, r.wday.length, dR r.wday⟩)] S2 := hf2
 have hS2 : ∀ k, 26 ≤ k → lkp k S2 = none := fun k hk => by
  rcases Nat.lt_or_ge k 53 with h | h
  ·rw [hf2.fr k h oM, aO oM]; rfl
  ·exact hf2.lim k h
 have lim2 : Lim 40 ((1, rb) :: [(30, b1)]) (aP 1 0 (hY (aC r) x2) ++ (aP 30 0 (cI r x) ++ [])) S2 := ⟨fun k hk => by rw [aO oM, aO oM]; rfl, fun k hk o ho => by rw [bB oM ho _ _ ble, bB oM ho _ _ ble]; rfl, fun k hk => hS2 k oM⟩
 have hk2 : ∀ k, k ≠ 1 → k ≠ 30 → ∀ q, q < 4096 → lkp (ky k q) (aP 1 0 (hY (aC r) x2) ++ (aP 30 0 (cI r x) ++ [])) = none := fun k h1 h30 q hq => by rw [bB h1 hq _ _ ble, bB h30 hq _ _ ble]; rfl
 refine gL (dF (ι := Nat × Ad × LV × LS) (fun y => .func (.func 53) #[pT y.1] #[]) (fun y => St (fun _ => False) w y.2.2.2 y.2.2.1 y.1 rb ru (pW x2) s0 y.2.1 ((0, y.1) :: (1, rb) :: [(30, b1)]) y.2.2.1 y.2.2.2 ∧ (∀ k, 26 ≤ k → k < 40 → lkp k y.2.2.2 = lkp k S2) ∧ (∀ q, q < 4096 → lkp (ky 38 q) y.2.2.1 = none)) (fun y => (0, y.1) :: (1, rb) :: [(30, b1)]) (fun y => y.2.2.1) (fun y => y.2.2.2) dE kR rfl (fun w_ s_ => (hit _ _ _ _ _ _ x2 rb hf2 rfl (eA _ ble) (hk2 38 dE dE) rfl (hk2 0 dE dE) lim2 w_ s_).mono fun e w' ⟨it, a, H', S', he, h1, h2, h3, hs⟩ => ⟨(it, a, H', S'), ⟨h1, h2, h3⟩, he, hs⟩) (fun | (it, a0, H3, S3), ⟨st3, hS3, h38_3⟩ => ?_))
 refine g5 ?_
 refine bK (ι := (List Int) × (Nat) × (It) × (Ad) × (LV) × (LS) × (Option Addr) × (Nat) × (Nat) × (List Value)) (fun | ⟨acc, k, s1, a1, H1, S1, p, c, n, xs⟩ => k) (fun | ⟨acc, k, s1, a1, H1, S1, p, c, n, xs⟩ => (∃ l', l = acc ++ l' ∧ Tells ru N s1 k l') ∧ (acc.length + k = most) ∧ (St1 (fun _ => False) w it rb ru (pW x2) s1 a1 ((0, it) :: (1, rb) :: [(30, b1)]) H1 S1) ∧ (∀ q, q < 4096 → lkp (ky 38 q) H1 = none) ∧ (lkp 35 S1 = some ⟨.slice p n c, 2, 1, n, xs⟩) ∧ (n = acc.length) ∧ (xs = acc.map iV)) (fun | ⟨acc, k, s1, a1, H1, S1, p, c, n, xs⟩ => [(1, iV most), (4, .slice p n c), (8, .func (.func 53) #[pT it] #[])]) (fun | ⟨acc, k, s1, a1, H1, S1, p, c, n, xs⟩ => ((0, it) :: (1, rb) :: [(30, b1)])) (fun | ⟨acc, k, s1, a1, H1, S1, p, c, n, xs⟩ => H1) (fun | ⟨acc, k, s1, a1, H1, S1, p, c, n, xs⟩ => S1) ⟨[], most, s0, a0, iD 38 H3, (35, ⟨.slice none 0 0, 2, 1, 0, []⟩) :: S3, none, 0, 0, []⟩ ⟨⟨l, rfl, hT⟩, by simp, St.row35 st3 _, fun q hq => i8 hq _, rfl, rfl, rfl⟩ kns (fun w s => by exact (Sees.lessH (s.aGs 35 2 1))) ?_
 rintro ⟨acc, k, s1, a1, H1, S1, p, c, n, xs⟩ ⟨hl, hk, st1, h38, hrow, hn, hx⟩
 show GC _ _ _ _ [(1, iV most), (4, .slice p n c), (8, .func (.func 53) #[pT it] #[])] _ _ (((0, it) :: (1, rb) :: [(30, b1)])) (H1) (S1)
 refine g9 ?_
 refine aE rfl (fun hc1 => ?_) (fun hc2 => ?_)
 ·have hlt : n < most := by have := oT hc1; omega
  obtain ⟨k, rfl⟩ : ∃ j, k = j + 1 := ⟨k - 1, by omega⟩
  obtain ⟨l', hl0, hT1⟩ := hl
  obtain ⟨e, hG, hways⟩ := xD hT1
  refine g4 ?_
  rcases hways with ⟨hre, hl1⟩ | ⟨t, l2, hre, hl1, ht2⟩
  ·have hpv := aBe hre
   refine g2 ?_
   refine gL (rQ (ι := Ad × LV × LS) (first := [pT it]) (capt := []) (fun _ => nT e) (fun y => St (fun _ => False) w S1 H1 it rb ru (pW x2) { e with rem := e.rem.tail } y.1 ((0, it) :: (1, rb) :: [(30, b1)]) y.2.1 y.2.2) (fun _ => ((0, it) :: (1, rb) :: [(30, b1)])) (fun y => y.2.1) (fun y => y.2.2) dE rfl kR rfl (fun w_ s_ => (qV st1 rfl h38 hr hp hpres hG w_ s_).mono fun e2 w' ⟨a', H', S', he, hst, hs⟩ => ⟨(a', H', S'), hst, he, hs⟩) (fun | (a2, H2, S2'), st2 => ?_))
   have st2 : St (fun _ => False) w S1 H1 it rb ru (pW x2) { e with rem := e.rem.tail } a2 ((0, it) :: (1, rb) :: [(30, b1)]) H2 S2' := st2
   rw [hpv]
   have hrow2 : lkp 35 S2' = some ⟨.slice p n c, 2, 1, n, xs⟩ := (st2.frS 35 dE dE).trans hrow
   refine g3 ?_
   refine gL (dT 38 (cs := [iV 0, iV 0]) dE kR rfl (fun o ho => (st2.frH 38 dE dE o ho).trans (h38 o ho)) ble (fun b9 hb9 => ?_))
   refine gL (sta 38 rfl rfl rfl rfl ?_)
   refine g10 ?_
   refine aJ rfl rfl ?_
   refine g14 ?_
   rw [hl1, List.append_nil] at hl0
   subst hl0 hn hx
   refine dZ (.inl rfl) rfl (aA rfl) (aA rfl) fun w_ s_ => ⟨p, c, rfl, ?_⟩
   have h := s_.toNew (k := 35) hrow2
   exact h
  ·have hpv := aAv hre
   refine g2 ?_
   refine gL (rQ (ι := Ad × LV × LS) (first := [pT it]) (capt := []) (fun _ => nT e) (fun y => St (fun _ => False) w S1 H1 it rb ru (pW x2) { e with rem := e.rem.tail } y.1 ((0, it) :: (1, rb) :: [(30, b1)]) y.2.1 y.2.2) (fun _ => ((0, it) :: (1, rb) :: [(30, b1)])) (fun y => y.2.1) (fun y => y.2.2) dE rfl kR rfl (fun w_ s_ => (qV st1 rfl h38 hr hp hpres hG w_ s_).mono fun e2 w' ⟨a', H', S', he, hst, hs⟩ => ⟨(a', H', S'), hst, he, hs⟩) (fun | (a2, H2, S2'), st2 => ?_))
   have st2 : St (fun _ => False) w S1 H1 it rb ru (pW x2) { e with rem := e.rem.tail } a2 ((0, it) :: (1, rb) :: [(30, b1)]) H2 S2' := st2
   rw [hpv]
   have hrow2 : lkp 35 S2' = some ⟨.slice p n c, 2, 1, n, xs⟩ := (st2.frS 35 dE dE).trans hrow
   refine g3 ?_
   refine gL (dT 38 (cs := [iV 0, iV 0]) dE kR rfl (fun o ho => (st2.frH 38 dE dE o ho).trans (h38 o ho)) ble (fun b9 hb9 => ?_))
   refine gL (sta 38 rfl rfl rfl rfl ?_)
   refine g10 ?_
   refine aB rfl rfl ?_
   refine g4 ?_
   refine rl (aT 38 rfl rfl rfl rfl kR dE) ?_
   refine gL (cvo rfl (fun w_ s_ => sE _ _ w_) ?_)
   refine gL (fI 60 (e := 2) (sz := 1) (by_ := 8) (zs := [iV 0]) dE kR rfl dE dE rfl rfl rfl (fun bo => ?_))
   refine gL (dJ 35 60 (e := 2) (sz := 1) (by_ := 8) (zs := [iV 0]) (q := ⟨.slice p n c, 2, 1, n, xs⟩) dE kR rfl dE rfl rfl hrow2 rfl ⟨rfl, rfl⟩ ⟨rfl, rfl⟩ (jR (xs := [t])) sO sO (fun p' c' => ?_))
   have hback : ∀ {w1 : World} {u1 : Slc} {Hx : LV}, Sees (fun _ => False) w ((38, b9) :: ((0, it) :: (1, rb) :: [(30, b1)])) Hx ((35, ⟨.slice p' (n + 1) c', 2, 1, (n + 1), (xs ++ [iV t])⟩) :: (60, u1) :: S2') w1 → iD 38 Hx = iD 38 H2 → Sees (fun _ => False) w ((0, it) :: (1, rb) :: [(30, b1)]) (iD 38 H2) ((35, ⟨.slice p' (n + 1) c', 2, 1, (n + 1), (xs ++ [iV t])⟩) :: S2') w1 := fun s hx => by have s2 := Sees.dropTag s rfl; rw [hx] at s2; exact Sees.dropRow2 s2 (st2.lim.s 60 dE) dE
   refine g3 ?_
   refine aV ⟨acc ++ [t], k, { e with rem := e.rem.tail }, a2, iD 38 H2, (35, ⟨.slice p' (n + 1) c', 2, 1, (n + 1), (xs ++ [iV t])⟩) :: S2', p', c', n + 1, xs ++ [iV t]⟩ sO ⟨⟨l2, by rw [hl0, hl1, List.append_assoc]; rfl, ht2⟩, by rw [List.length_append]; simp only [List.length_singleton]; omega, St.row35 st2 _, fun q hq => i8 hq _, rfl, by rw [List.length_append, hn]; rfl, by rw [hx]; simp⟩ kns (fun w s => by exact hback s (by rw [oR _ _ ble, sW _ _ ble]))
 ·have hge : ¬ n < most := by have := oF hc2; omega
  obtain rfl : k = 0 := by omega
  obtain ⟨l', hl0, hT1⟩ := hl
  cases hT1
  rw [List.append_nil] at hl0
  subst hl0 hn hx
  refine g13 ?_
  refine dZ (.inl rfl) rfl (aA rfl) (aA rfl) fun w_ s_ => ⟨p, c, rfl, ?_⟩
  have h := s_.toNew (k := 35) hrow
  exact h
theorem mU (y : Int) (h0 : 1 ≤ y ∧ y ≤ 1000000000) (w : World) : Calls Tryz.prog 27 #[iV y] w fun e w' => e = .returned (iV (Cal.daysTo y)) ∧ Below w.heap.size w w' := by
 refine aN (args := [iV y]) (L := [(0, iV y)]) (N := 17) Tryz.func27 rfl rfl ble rfl (sS w) ?_
 refine g25 ?_
 refine g4 ?_
 refine aD (.inl rfl) rfl (aA rfl) fun w_ s_ => ⟨?_, s_.aGm⟩
 refine eO ?_
 unfold Cal.daysTo
 omega
theorem vO (p p' : Option Addr) (c c' : Nat) (l : List Int) (hl : l.length ≤ 1000000000) (w : World) (h : Ints w (.slice p l.length c) l) (h' : Ints w (.slice p' l.length c') l) : Calls Tryz.prog 23 #[.slice p l.length c, .slice p' l.length c'] w fun e w' => e = .returned (.bool true) ∧ Below w.heap.size w w' := by
 obtain ⟨p1, c1, e1, hc1_⟩ := h
 obtain ⟨p2, c2, e2, hc2_⟩ := h'
 injection e1 with e11 e12 e13
 injection e2 with e21 e22 e23
 subst e11 e21
 refine aN (args := [.slice p l.length c, .slice p' l.length c']) (L := [(0, .slice p l.length c), (1, .slice p' l.length c')]) (N := 26) Tryz.func23 rfl rfl ble rfl (sS w) ?_
 refine g15 ?_
 refine aB rfl (iF rfl) ?_
 refine g11 ?_
 refine bK (ι := (Nat)) (fun k => l.length - k) (fun k => (k ≤ l.length)) (fun k => [(0, .slice p l.length c), (1, .slice p' l.length c'), (11, .slice p l.length c), (12, iV (l.length)), (13, iV k)]) (fun k => []) (fun k => []) (fun k => []) 0 (Nat.zero_le _) kns (fun w s => by exact s) ?_
 rintro k hk
 show GC _ _ _ _ [(0, .slice p l.length c), (1, .slice p' l.length c'), (11, .slice p l.length c), (12, iV (l.length)), (13, iV k)] _ _ ([]) ([]) ([])
 refine g6 ?_
 refine aE rfl (fun hc1 => ?_) (fun hc2 => ?_)
 ·have hlt : k < l.length := by have := oT hc1; omega
  obtain ⟨y, hy⟩ : ∃ y, l[k]? = some y := ⟨_, List.getElem?_eq_getElem hlt⟩
  obtain ⟨b, o, rfl, q1⟩ := hc1_ k y hy
  obtain ⟨b', o', rfl, q2⟩ := hc2_ k y hy
  refine g14 ?_
  refine rq (aI (e := 2) (n := 1) kR rfl rfl oM oM) ?_
  refine rq (eK rfl (by rw [← q1]; congr 2; omega) (fun h => h) kR) ?_
  refine g2 ?_
  refine rq (aI (e := 2) (n := 1) kR rfl rfl oM oM) ?_
  refine rq (eK rfl (by rw [← q2]; congr 2; omega) (fun h => h) kR) ?_
  refine g3 ?_
  refine aB rfl (iF rfl) ?_
  refine g7 ?_
  refine aV (k + 1) oM (by show k + 1 ≤ l.length; omega) kns (fun w s => by exact s)
 ·have hge : ¬ k < l.length := by have := oF hc2; omega
  refine g11 ?_
  exact aD (.inl rfl) rfl (aA rfl) fun w_ s_ => ⟨rfl, s_.aGm⟩
theorem rM {ts : List Int} (h : ts.length ≤ 1000000000) (F : Nat → Prop) (w0 : World) : iU F w0 ts := fun B H S p c w lim hrow hs => k8 (t := 2) dE h lim hrow w hs
theorem InL.see {w : World} {r : Rul} {x : Av} (s : Sees (fun _ => False) w0 B H S w) (h : InL w0 r x) : InL w r x :=
 ⟨bY s h.i9, bY s h.i10, bY s h.i11, bY s h.i12, bY s h.i13, l8 s h.i14, bY s h.i15, bY s h.i16, bY s h.i17, bY s h.i18⟩
theorem uW (xs : List Int) (x : Int) (v : Value) (hl : xs.length ≤ 2147483647) (w : World) (hI : Ints w v xs) : Calls Tryz.prog 39 #[v, iV x] w fun e w' => ∃ i : Int, decide (0 ≤ i) = xs.any (· == x) ∧ e = .returned (iV i) ∧ Below w.heap.size w w' := by
 obtain ⟨p, c, rfl, hI⟩ := hI
 refine aN (args := [.slice p xs.length c, iV x]) (L := [(0, .slice p xs.length c), (1, iV x)]) (N := 19) Tryz.func39 rfl rfl ble rfl (sS w) ?_
 refine g14 ?_
 refine bK (ι := (Nat)) (fun k => xs.length - k) (fun k => (k ≤ xs.length) ∧ ((xs.take k).any (· == x) = false)) (fun k => [(0, .slice p xs.length c), (1, iV x), (7, iV (xs.length)), (8, iV k)]) (fun k => []) (fun k => []) (fun k => []) 0 ⟨by omega, rfl⟩ kns (fun w s => by exact s) ?_
 rintro k ⟨hk, hn⟩
 show GC _ _ _ _ [(0, .slice p xs.length c), (1, iV x), (7, iV (xs.length)), (8, iV k)] _ _ ([]) ([]) ([])
 refine g6 ?_
 refine aE rfl (fun hc1 => ?_) (fun hc2 => ?_)
 ·have hlt : k < xs.length := by have := oT hc1; omega
  obtain ⟨y, hy⟩ : ∃ y, xs[k]? = some y := ⟨_, List.getElem?_eq_getElem hlt⟩
  obtain ⟨b, o, rfl, hcell⟩ := hI k y hy
  refine g15 ?_
  refine rl (aI (e := 3) (n := 1) kR rfl rfl oM oM) ?_
  refine rl (eK rfl (v := iV y) (by rw [← hcell]; congr 2; omega) (fun h => h) kR) ?_
  refine g3 ?_
  refine aE rfl (fun hc1 => ?_) (fun hc2 => ?_)
  ·have hq : y = x := (beq_iff_eq.1 hc1).symm
   refine g12 ?_
   exact aD (.inl rfl) rfl (aA rfl) fun w_ s_ => ⟨_, by rw [decide_eq_true oM]; exact (List.any_eq_true.2 ⟨y, List.mem_of_getElem? hy, by rw [hq]; exact beq_self_eq_true _⟩).symm, rfl, s_.aGm⟩
  ·have hne : y ≠ x := fun e => beq_eq_false_iff_ne.1 hc2 e.symm
   refine g7 ?_
   refine aV (k + 1) oM ⟨by omega, by rw [List.take_add_one, hy, List.any_append, hn]; simpa using hne⟩ kns (fun w s => by exact s)
 ·have hge : ¬ k < xs.length := by have := oF hc2; omega
  refine g11 ?_
  exact aD (.inl rfl) rfl (aA rfl) fun w_ s_ => ⟨_, by rw [← List.take_length (l := xs), show xs.length = k by omega, hn]; rfl, rfl, s_.aGm⟩
theorem fH (xs : List Int) (x : Int) (v : Value) (hl : xs.length ≤ 2147483647) (w : World) (hI : Ints w v xs) : Calls Tryz.prog 29 #[v, iV x] w fun e w' => e = .returned (.bool (xs.any (· == x))) ∧ Below w.heap.size w w' := by
 refine aN (args := [v, iV x]) (L := [(0, v), (1, iV x)]) (N := 9) Tryz.func29 rfl rfl ble rfl (sS w) ?_
 refine g9 ?_
 refine gL (cbx (fun i : Int => iV i) (fun i => decide (0 ≤ i) = xs.any (· == x)) rfl (fun w_ s_ => uW xs x v hl w_ (bY s_ hI)) (fun i hi => ?_))
 refine rl ((dL rfl rfl).to (v' := .bool (xs.any (· == x))) (cB hi)) ?_
 refine g4 ?_
 exact aD (.inl rfl) rfl (aA rfl) fun w_ s_ => ⟨rfl, s_.aGm⟩
theorem uR (xs : List (Int × Int)) (x : Int × Int) (v : Value) (hl : xs.length ≤ 2147483647) (w : World) (hI : Prs w v xs) : Calls Tryz.prog 40 #[v, .agg #[iV x.1, iV x.2]] w fun e w' => ∃ i : Int, decide (0 ≤ i) = xs.any (· == x) ∧ e = .returned (iV i) ∧ Below w.heap.size w w' := by
 obtain ⟨p, c, rfl, hI⟩ := hI
 refine aN (args := [.slice p xs.length c, .agg #[iV x.1, iV x.2]]) (L := [(0, .slice p xs.length c), (1, .agg #[iV x.1, iV x.2])]) (N := 19) Tryz.func40 rfl rfl ble rfl (sS w) ?_
 refine g2 ?_
 refine gL (bxo 50 rfl rfl rfl (fun b1_ hbb1_ => ?_))
 refine g12 ?_
 refine bK (ι := (Nat)) (fun k => xs.length - k) (fun k => (k ≤ xs.length) ∧ ((xs.take k).any (· == x) = false)) (fun k => [(0, .slice p xs.length c), (3, pT b1_), (7, iV (xs.length)), (8, iV k)]) (fun k => (50, b1_) :: []) (fun k => aP 50 0 [iV x.1, iV x.2] ++ []) (fun k => []) 0 ⟨by omega, rfl⟩ kns (fun w s => by exact s) ?_
 rintro k ⟨hk, hn⟩
 show GC _ _ _ _ [(0, .slice p xs.length c), (3, pT b1_), (7, iV (xs.length)), (8, iV k)] _ _ ((50, b1_) :: []) (aP 50 0 [iV x.1, iV x.2] ++ []) ([])
 refine g6 ?_
 refine aE rfl (fun hc1 => ?_) (fun hc2 => ?_)
 ·have hlt : k < xs.length := by have := oT hc1; omega
  obtain ⟨y, hy⟩ : ∃ y, xs[k]? = some y := ⟨_, List.getElem?_eq_getElem hlt⟩
  obtain ⟨b, o, rfl, hca, hcb⟩ := hI k y hy
  refine g12 ?_
  refine rq (aT 50 rfl rfl rfl rfl kR dE) ?_
  refine g2 ?_
  refine rq (aI (e := 47) (n := 2) kR rfl rfl oM oM) ?_
  refine rq (gM rfl (by rw [← hca]; congr 2; omega) (by rw [← hcb]; congr 2; omega) (fun h => h) kR) ?_
  refine rq ((aBf rfl rfl).to (v' := .bool (x == y)) rfl) ?_
  refine g2 ?_
  refine aE rfl (fun hc1 => ?_) (fun hc2 => ?_)
  ·have hq : y = x := (beq_iff_eq.1 hc1).symm
   refine g12 ?_
   exact aD (.inl rfl) rfl (aA rfl) fun w_ s_ => ⟨_, by rw [decide_eq_true oM]; exact (List.any_eq_true.2 ⟨y, List.mem_of_getElem? hy, by rw [hq]; exact beq_self_eq_true _⟩).symm, rfl, s_.aGm⟩
  ·have hne : y ≠ x := fun e => beq_eq_false_iff_ne.1 hc2 e.symm
   refine g7 ?_
   refine aV (k + 1) oM ⟨by omega, by rw [List.take_add_one, hy, List.any_append, hn]; simpa using hne⟩ kns (fun w s => by exact s)
 ·have hge : ¬ k < xs.length := by have := oF hc2; omega
  refine g11 ?_
  exact aD (.inl rfl) rfl (aA rfl) fun w_ s_ => ⟨_, by rw [← List.take_length (l := xs), show xs.length = k by omega, hn]; rfl, rfl, s_.aGm⟩
theorem gV (xs : List (Int × Int)) (x : Int × Int) (v : Value) (hl : xs.length ≤ 2147483647) (w : World) (hI : Prs w v xs) : Calls Tryz.prog 30 #[v, .agg #[iV x.1, iV x.2]] w fun e w' => e = .returned (.bool (xs.any (· == x))) ∧ Below w.heap.size w w' := by
 refine aN (args := [v, .agg #[iV x.1, iV x.2]]) (L := [(0, v), (1, .agg #[iV x.1, iV x.2])]) (N := 9) Tryz.func30 rfl rfl ble rfl (sS w) ?_
 refine g2 ?_
 refine gL (bxo 50 rfl rfl rfl (fun b1_ hbb1_ => ?_))
 refine g6 ?_
 refine rl (aT 50 rfl rfl rfl rfl kR dE) ?_
 refine gL (cbx (fun i : Int => iV i) (fun i => decide (0 ≤ i) = xs.any (· == x)) rfl (fun w_ s_ => uR xs x v hl w_ (l8 s_ hI)) (fun i hi => ?_))
 refine rl ((dL rfl rfl).to (v' := .bool (xs.any (· == x))) (cB hi)) ?_
 refine g4 ?_
 exact aD (.inl rfl) rfl (aA rfl) fun w_ s_ => ⟨rfl, s_.aGm⟩
theorem qW (x : Int) (h0 : 0 ≤ x) (w : World) : Calls Tryz.prog 31 #[iV x] w fun e w' => e = .returned (iV (x % 7)) ∧ Below w.heap.size w w' := by
 refine aN (args := [iV x]) (L := [(0, iV x)]) (N := 5) Tryz.func31 rfl rfl ble rfl (sS w) ?_
 refine g13 ?_
 refine aD (.inl rfl) rfl (aA rfl) fun w_ s_ => ⟨?_, s_.aGm⟩
 rfl
theorem mI {w : World} {p : Option Addr} {c : Nat} {xs : List Int} {k : Nat} (h : Ints w (.slice p xs.length c) xs) (hk : k ≤ xs.length) : Ints w (.slice p k c) (xs.take k) := by
 obtain ⟨p', c', e, hc⟩ := h
 injection e with e1 _ e3
 subst e1 e3
 refine ⟨p, c, by rw [List.length_take, Nat.min_eq_left hk], fun i x hx => ?_⟩
 rw [List.getElem?_take] at hx
 split at hx
 ·exact hc i x hx
 ·cases hx
def okR (a b : Int) (m : Bool) (x : Int) : Bool := if m = true ∧ x < 0 then decide (-b ≤ x) && (decide (a ≤ -x) && decide (-x ≤ b)) else decide (a ≤ x) && decide (x ≤ b)
def gR (l : List Int) (a b : Int) (m : Bool) : Bool := ((List.range l.length).all fun i => okR a b m (l.getD i 0) && !((l.take i).any (· == l.getD i 0))) && decide (l.length ≤ 100)
theorem aCu (p : Nat → Bool) (k : Nat) : (List.range (k + 1)).all p = ((List.range k).all p && p k) := by rw [List.range_succ, List.all_append]; simp
theorem mB {p : Nat → Bool} {k n : Nat} (hk : k < n) (h : p k = false) : (List.range n).all p = false := by
 rw [Bool.eq_false_iff]
 intro h2
 rw [List.all_eq_true] at h2
 have := h2 k (by simpa using hk)
 rw [h] at this; cases this
theorem cR (xs : List Int) (p : Option Addr) (c : Nat) (a b : Int) (m : Bool) (hcap : xs.length ≤ c) (ha : 0 ≤ a ∧ a ≤ 1000) (hb : 0 ≤ b ∧ b ≤ 1000) (hl : xs.length ≤ 2147483647) (w : World) (hI0 : Ints w (.slice p xs.length c) xs) : Calls Tryz.prog 28 #[.slice p xs.length c, iV a, iV b, .bool m] w fun e w' => e = .returned (.bool (gR xs a b m)) ∧ Below w.heap.size w w' := by
 have hI : ∀ i x, xs[i]? = some x → ∃ b o, p = some ⟨b, o, none⟩ ∧ w.cell? ⟨b, o + i, none⟩ = some (iV x) := by
  obtain ⟨p', c', e, hc⟩ := hI0
  injection e with e1 _ _
  subst e1
  exact hc
 refine aN (args := [.slice p xs.length c, iV a, iV b, .bool m]) (L := [(0, .slice p xs.length c), (1, iV a), (2, iV b), (3, .bool m)]) (N := 50) Tryz.func28 rfl rfl ble rfl (sS w) ?_
 refine g14 ?_
 refine bK (ι := (Nat)) (fun k => xs.length - k) (fun k => (k ≤ xs.length) ∧ ((List.range k).all (fun i => okR a b m (xs.getD i 0) && !((xs.take i).any (· == xs.getD i 0))) = true)) (fun k => [(0, .slice p xs.length c), (1, iV a), (2, iV b), (3, .bool m), (12, .slice p xs.length c), (13, iV (xs.length)), (14, iV k)]) (fun k => []) (fun k => []) (fun k => []) 0 ⟨by omega, rfl⟩ kns (fun w s => by exact s) ?_
 rintro k ⟨hk, hn⟩
 show GC _ _ _ _ [(0, .slice p xs.length c), (1, iV a), (2, iV b), (3, .bool m), (12, .slice p xs.length c), (13, iV (xs.length)), (14, iV k)] _ _ ([]) ([]) ([])
 refine g6 ?_
 refine aE rfl (fun hc1 => ?_) (fun hc2 => ?_)
 ·have hlt : k < xs.length := by have := oT hc1; omega
  obtain ⟨y, hy⟩ : ∃ y, xs[k]? = some y := ⟨_, List.getElem?_eq_getElem hlt⟩
  have hgd : xs.getD k 0 = y := by rw [List.getD_eq_getElem?_getD, hy]; rfl
  obtain ⟨b_, o, rfl, hcell⟩ := hI k y hy
  refine g7 ?_
  refine rl (aI (e := 3) (n := 1) kR rfl rfl oM oM) ?_
  refine rl (eK rfl (v := iV y) (by rw [← hcell]; congr 2; omega) (fun h => h) kR) ?_
  refine g10 ?_
  refine dG (ι := (Int)) (fun nn => (okR a b m y = (decide (a ≤ nn) && decide (nn ≤ b)))) (fun nn => [(0, .slice (some ⟨b_, o, none⟩) xs.length c), (1, iV a), (2, iV b), (3, .bool m), (12, .slice (some ⟨b_, o, none⟩) xs.length c), (13, iV (xs.length)), (14, iV k), (9, iV k), (10, iV y), (11, iV nn)]) (fun nn => []) (fun nn => []) (fun nn => []) ?_ ?_
  ·refine g3 ?_
   rcases Decidable.em (y < 0) with hneg | hneg
   ·refine rl ((cW rfl rfl).to bT) ?_
    refine g2 ?_
    rcases Bool.eq_false_or_eq_true (m) with hm | hm
    ·refine rl ((bE rfl).to (v' := .bool true) (cB hm)) ?_
     refine g3 ?_
     refine aJ rfl rfl ?_
     refine g9 ?_
     refine aE rfl (fun hc1 => ?_) (fun hc2 => ?_)
     ·have hlb : y < -b := oT hc1
      have hF : gR xs a b m = false := by unfold gR; rw [(mB (p := (fun i => okR a b m (xs.getD i 0) && !((xs.take i).any (· == xs.getD i 0)))) hlt (by rw [hgd, show okR a b m y = false from by unfold okR; rw [if_pos ⟨hm, hneg⟩, decide_eq_false (show ¬ -b ≤ y by omega)]; rfl]; first | done | simp))]; rfl
      refine g13 ?_
      exact aD (.inl rfl) rfl (aA rfl) fun w_ s_ => ⟨by rw [hF], s_.aGm⟩
     ·have hlb : ¬ y < -b := oF hc2
      refine g7 ?_
      refine aU (ι := Int) (-y) (by unfold okR; rw [if_pos ⟨hm, hneg⟩, decide_eq_true (show -b ≤ y by omega)]; rfl) kno (fun w s => s)
    ·refine rl ((bE rfl).to (v' := .bool false) (cB hm)) ?_
     refine g3 ?_
     refine aB rfl rfl ?_
     refine g1 ?_
     refine aU (ι := Int) (y) (by unfold okR; rw [if_neg (fun h => by rw [hm] at h; cases h.1)]) kno (fun w s => s)
   ·refine rl ((cW rfl rfl).to bF) ?_
    refine g5 ?_
    refine aB rfl rfl ?_
    refine g1 ?_
    refine aU (ι := Int) (y) (by unfold okR; rw [if_neg (fun h => hneg h.2)]) kno (fun w s => s)
  rintro nn hnn
  show GC _ _ _ _ [(0, .slice (some ⟨b_, o, none⟩) xs.length c), (1, iV a), (2, iV b), (3, .bool m), (12, .slice (some ⟨b_, o, none⟩) xs.length c), (13, iV (xs.length)), (14, iV k), (9, iV k), (10, iV y), (11, iV nn)] _ _ ([]) ([]) ([])
  refine g4 ?_
  rcases Decidable.em (nn < a) with hlo | hlo
  ·have hF : gR xs a b m = false := by unfold gR; rw [(mB (p := (fun i => okR a b m (xs.getD i 0) && !((xs.take i).any (· == xs.getD i 0)))) hlt (by rw [hgd, hnn, decide_eq_false (show ¬ a ≤ nn by omega)]; first | done | simp))]; rfl
   refine rl ((cW rfl rfl).to bT) ?_
   refine g14 ?_
   refine aJ rfl rfl ?_
   refine g11 ?_
   exact aD (.inl rfl) rfl (aA rfl) fun w_ s_ => ⟨by rw [hF], s_.aGm⟩
  ·have hok1 : decide (a ≤ nn) = true := decide_eq_true oM
   refine rl ((cW rfl rfl).to bF) ?_
   refine g6 ?_
   rcases Decidable.em (b < nn) with hhi | hhi
   ·have hF : gR xs a b m = false := by unfold gR; rw [(mB (p := (fun i => okR a b m (xs.getD i 0) && !((xs.take i).any (· == xs.getD i 0)))) hlt (by rw [hgd, hnn, decide_eq_false (show ¬ nn ≤ b by omega), Bool.and_false]; first | done | simp))]; rfl
    refine rl ((cQ rfl rfl).to bT) ?_
    refine g10 ?_
    refine aJ rfl rfl ?_
    refine g11 ?_
    exact aD (.inl rfl) rfl (aA rfl) fun w_ s_ => ⟨by rw [hF], s_.aGm⟩
   ·have hok2 : decide (nn ≤ b) = true := decide_eq_true oM
    refine rl ((cQ rfl rfl).to bF) ?_
    refine g7 ?_
    refine rl ((dM (e := 3) (n := 1) kR rfl rfl oM oM).to (v' := .slice (some ⟨b_, o, none⟩) k c) rfl) ?_
    refine g3 ?_
    rcases Bool.eq_false_or_eq_true ((xs.take k).any (· == y)) with hno | hno
    ·have hF : gR xs a b m = false := by unfold gR; rw [(mB (p := (fun i => okR a b m (xs.getD i 0) && !((xs.take i).any (· == xs.getD i 0)))) hlt (by rw [hgd, hno, Bool.not_true, Bool.and_false]; first | done | simp))]; rfl
     refine gL (cvo (v := .bool true) rfl (fun w_ s_ => (fH (xs.take k) y _ (by rw [List.length_take]; omega) w_ (mI (bY s_ hI0) (Nat.le_of_lt hlt))).mono fun e_ w2_ h_ => ⟨h_.1.trans (cE hno), h_.2⟩) ?_)
     refine g3 ?_
     refine aJ rfl rfl ?_
     refine g11 ?_
     exact aD (.inl rfl) rfl (aA rfl) fun w_ s_ => ⟨by rw [hF], s_.aGm⟩
    ·refine gL (cvo (v := .bool false) rfl (fun w_ s_ => (fH (xs.take k) y _ (by rw [List.length_take]; omega) w_ (mI (bY s_ hI0) (Nat.le_of_lt hlt))).mono fun e_ w2_ h_ => ⟨h_.1.trans (cE hno), h_.2⟩) ?_)
     refine g3 ?_
     refine aB rfl rfl ?_
     refine g7 ?_
     refine aV (k + 1) oM ⟨by omega, by rw [aCu, hn, hgd, hnn, hok1, hok2, hno]; rfl⟩ kns (fun w s => by exact s)
 ·obtain rfl : k = xs.length := by have := oF hc2; omega
  have hF : gR xs a b m = decide ((xs.length : Int) ≤ 100) := by unfold gR; rw [hn, Bool.true_and]; exact decide_eq_decide.2 oM
  refine g14 ?_
  exact aD (.inl rfl) rfl (aA rfl) fun w_ s_ => ⟨by rw [hF], s_.aGm⟩
theorem aFm {a b : Nat} (h : a = b) : (a == b) = true := beq_iff_eq.2 h
theorem aF5 {a b : Nat} (h : ¬ a = b) : (a == b) = false := beq_eq_false_iff_ne.2 h
theorem fK (xs : List Int) (x : Int) (v : Value) (hl : xs.length ≤ 2147483647) (w : World) (hI0 : Ints w v xs) : Calls Tryz.prog 41 #[v, iV x] w fun e w' => e = .returned (.bool (aF xs x)) ∧ Below w.heap.size w w' := by
 obtain ⟨p, c, rfl, hI⟩ := id hI0
 refine aN (args := [.slice p xs.length c, iV x]) (L := [(0, .slice p xs.length c), (1, iV x)]) (N := 13) Tryz.func41 rfl rfl ble rfl (sS w) ?_
 refine g9 ?_
 rcases Decidable.em (xs.length = 0) with h0 | h0
 ·have hF : aF xs x = true := by unfold aF; rw [aFm h0]; rfl
  refine rl ((aY rfl rfl).to eT) ?_
  refine g9 ?_
  exact aD (.inl rfl) rfl (aA rfl) fun w_ s_ => ⟨by rw [hF]; rfl, s_.aGm⟩
 ·refine rl ((aY rfl rfl).to eF) ?_
  refine g6 ?_
  rcases Bool.eq_false_or_eq_true (xs.any (· == x)) with ha | ha
  ·have hF : aF xs x = true := by unfold aF; rw [ha, Bool.or_true]
   refine gL (cvo (v := .bool true) rfl (fun w_ s_ => (fH xs x _ hl w_ (bY s_ hI0)).mono fun e_ w2_ h_ => ⟨h_.1.trans (cE ha), h_.2⟩) ?_)
   refine g5 ?_
   exact aD (.inl rfl) rfl (aA rfl) fun w_ s_ => ⟨by rw [hF]; rfl, s_.aGm⟩
  ·have hF : aF xs x = false := by unfold aF; rw [ha, aF5 h0]; rfl
   refine gL (cvo (v := .bool false) rfl (fun w_ s_ => (fH xs x _ hl w_ (bY s_ hI0)).mono fun e_ w2_ h_ => ⟨h_.1.trans (cE ha), h_.2⟩) ?_)
   refine g5 ?_
   exact aD (.inl rfl) rfl (aA rfl) fun w_ s_ => ⟨by rw [hF]; rfl, s_.aGm⟩
def pA (r : Rul) : Int := if r.hasUntil = true then r.untl else r.start + 9223372036
def zY (at_ : List Int) (n i : Nat) : Bool := at_.any (· == (i : Int) + 1) || at_.any (· == (i : Int) - n)
def rT (l at_ : List Int) (k : Nat) : List Int := ((List.range k).filter (zY at_ l.length)).map fun i => l.getD i 0
def kE (l at_ : List Int) : List Int := if at_.length = 0 then l else rT l at_ l.length
theorem aBp (l at_ : List Int) (k : Nat) : (rT l at_ k).length ≤ k := by
 unfold rT
 rw [List.length_map]
 exact Nat.le_trans (List.length_filter_le _ _) (by simp)
def wo (fr lg at_ many : Int) : Bool := decide (at_ + many ≤ fr) || decide (fr + lg ≤ at_)
def xI (ss : List Int) (fr lg b : Int) (k : Nat) : List Int := ((List.range k).filter fun (s : Nat) => aF ss s && !wo fr lg (b + s) 1).map fun (s : Nat) => b + (s : Int)
def yI (ms ss : List Int) (fr lg b : Int) (k : Nat) : List Int := (List.range k).flatMap fun (m : Nat) => if aF ms m && !wo fr lg (b + m * 60) 60 then xI ss fr lg (b + m * 60) 60 else []
def aDb (hs ms ss : List Int) (fr lg b : Int) (k : Nat) : List Int := (List.range k).flatMap fun (h : Nat) => if aF hs h && !wo fr lg (b + h * 3600) 3600 then yI ms ss fr lg (b + h * 3600) 60 else []
def iN (hs ms ss : List Int) (day fr lg : Int) : List Int := aDb hs ms ss fr lg (day * 86400) 24
theorem oS {α : Type} (f : Nat → List α) (k : Nat) : (List.range (k + 1)).flatMap f = (List.range k).flatMap f ++ f k := by rw [List.range_succ, List.flatMap_append]; simp
def zR (r : Rul) : Prop := r.weekno.length = 0 ∧ r.yday.length = 0 ∧ r.mday.length = 0 ∧ r.wday.length = 0 ∧ r.easter.length = 0
instance (r : Rul) : Decidable (zR r) := by unfold zR; infer_instance
def gA (r : Rul) : Rul := if zR r then
  (if r.freq = 0 then { r with month := if r.month.length = 0 then [Cal.monthOf (r.start / 86400)] else r.month, mday := [Cal.mdayOf (r.start / 86400)] }
  else if r.freq = 1 then { r with mday := [Cal.mdayOf (r.start / 86400)] }
  else if r.freq = 2 then { r with wday := [(r.start / 86400 % 7, 0)] } else r)
 else r
def gO (r : Rul) : Rul := if r.hour.length = 0 ∧ r.freq < 4 then { r with hour := [r.start % 86400 / 3600] } else r
def gS (r : Rul) : Rul := if r.minute.length = 0 ∧ r.freq < 5 then { r with minute := [r.start % 86400 / 60 % 60] } else r
def iM (r : Rul) : Rul := if r.second.length = 0 ∧ r.freq < 6 then { r with second := [r.start % 86400 % 60] } else r
def bD (r : Rul) : Rul := iM (gS (gO (gA r)))
theorem wV (r : Rul) : (gA r).start = r.start ∧ (gA r).freq = r.freq ∧ (gA r).hour = r.hour ∧ (gA r).minute = r.minute ∧ (gA r).second = r.second := by
 unfold gA
 split
 ·split
  ·exact ⟨rfl, rfl, rfl, rfl, rfl⟩
  ·split
   ·exact ⟨rfl, rfl, rfl, rfl, rfl⟩
   ·split <;> exact ⟨rfl, rfl, rfl, rfl, rfl⟩
 ·exact ⟨rfl, rfl, rfl, rfl, rfl⟩
structure LenL (r : Rul) : Prop where
 l9 : r.setpos.length ≤ 2147483647
 l10 : r.month.length ≤ 2147483647
 l11 : r.mday.length ≤ 2147483647
 l12 : r.yday.length ≤ 2147483647
 l13 : r.weekno.length ≤ 2147483647
 l14 : r.wday.length ≤ 2147483647
 l15 : r.hour.length ≤ 2147483647
 l16 : r.minute.length ≤ 2147483647
 l17 : r.second.length ≤ 2147483647
 l18 : r.easter.length ≤ 2147483647
theorem aC3 {w : World} {p : Option Addr} {n c : Nat} {e : TypeId} {ps : List (Int × Int)} (s : Sees F w0 B H S w) (k : Nat) (h : lkp k S = some ⟨.slice p n c, e, 2, n, dR ps⟩) : Prs w (.slice p n c) ps := by
 have := (SrcU.row (F := F) (w0 := w0) (S := S) (t := k) h)
 exact this B H S w (fun _ _ => rfl) s
theorem Sees.tailS {w : World} {k : Nat} {q : Slc} (s : Sees F w0 B H ((k, q) :: S) w) (h : lkp k S = none) : Sees F w0 B H S w :=
 s.to (fun _ _ h => h) (fun k o v ho h => ⟨h, by obtain ⟨b, e, _⟩ := s.cells k o v ho h; rw [e]; rfl⟩) (fun j u hj => by
  by_cases e : j = k
  ·subst e; rw [h] at hj; cases hj
  ·rw [aO e]; exact hj)
theorem Sees.fresh {w : World} {k b : Nat} {q : Slc} (s : Sees (fun _ => False) w0 B H S w) (hk : lkp k S = some q) (hb : q.v.ownBlock = some b) : w0.heap.size ≤ b := by
 rcases Nat.lt_or_ge b w0.heap.size with h | h
 ·exact (s.smay k q b hk hb h).elim
 ·exact h
structure BkL (G : Nat → Prop) (r : Rul) (x : Av) : Prop where
 g9 : r.setpos.length ≠ 0 → ∀ b o, x.p9 = some ⟨b, o, none⟩ → G b
 g10 : r.month.length ≠ 0 → ∀ b o, x.p10 = some ⟨b, o, none⟩ → G b
 g11 : r.mday.length ≠ 0 → ∀ b o, x.p11 = some ⟨b, o, none⟩ → G b
 g12 : r.yday.length ≠ 0 → ∀ b o, x.p12 = some ⟨b, o, none⟩ → G b
 g13 : r.weekno.length ≠ 0 → ∀ b o, x.p13 = some ⟨b, o, none⟩ → G b
 g14 : r.wday.length ≠ 0 → ∀ b o, x.p14 = some ⟨b, o, none⟩ → G b
 g15 : r.hour.length ≠ 0 → ∀ b o, x.p15 = some ⟨b, o, none⟩ → G b
 g16 : r.minute.length ≠ 0 → ∀ b o, x.p16 = some ⟨b, o, none⟩ → G b
 g17 : r.second.length ≠ 0 → ∀ b o, x.p17 = some ⟨b, o, none⟩ → G b
 g18 : r.easter.length ≠ 0 → ∀ b o, x.p18 = some ⟨b, o, none⟩ → G b
def zL (l : List Int) (day : Int) : Bool := l.length == 0 || l.any (· == Cal.mdayOf day) || l.any (· == Cal.mdayOf day - Cal.mdays (Cal.monthOf day) (Cal.yearOf day) - 1)
def aBi (l : List (Int × Int)) (day : Int) : Bool := l.length == 0 || l.any (fun p => p.1 == day % 7)
def dW (r : Rul) (day : Int) : Bool := aF r.month (Cal.monthOf day) && (zL r.mday day && aBi r.wday day)
def UD (r : Rul) (u dy : Int) : Prop := (u = 3600 ∧ dy = 24 ∧ r.freq = 4) ∨ (u = 60 ∧ dy = 1440 ∧ r.freq = 5) ∨ (u = 1 ∧ dy = 86400 ∧ r.freq = 6)
def xJ (r : Rul) : Prop := ∃ u dy at_ : Int, UD r u dy ∧ 0 ≤ at_ ∧ at_ < dy ∧ at_ % (Nat.gcd r.interval.toNat dy.toNat : Nat) = r.start % 86400 / u % (Nat.gcd r.interval.toNat dy.toNat : Nat) ∧
 aF r.hour (at_ * u / 3600) = true ∧ (5 ≤ r.freq → aF r.minute (at_ * u / 60 % 60) = true) ∧ (r.freq = 6 → aF r.second (at_ * u % 60) = true)
theorem u5 (r : Rul) (x : Av) (hs : 0 ≤ r.start ∧ r.start ≤ 1000000000000) (hi : 1 ≤ r.interval ∧ r.interval ≤ 1000) (hf : r.freq = 4 ∨ r.freq = 5 ∨ r.freq = 6) (hl : LenL r) (w : World) (hin : InL w r x) : Calls Tryz.prog 32 #[.agg (cI r x).toArray] w fun e w' => ∃ b : Bool, (b = true → xJ r) ∧ e = .returned (.bool b) ∧ Below w.heap.size w w' := by
 obtain ⟨l9, l10, l11, l12, l13, l14, l15, l16, l17, l18⟩ := hl
 refine aN (args := [.agg (cI r x).toArray]) (L := [(0, .agg (cI r x).toArray)]) (N := 77) Tryz.func32 rfl rfl ble rfl (sS w) ?_
 refine g2 ?_
 refine gL (iX 50 (cs := cI r x) dE rfl rfl rfl (fun o ho => rfl) ble (fun b1 hb1 => ?_))
 refine g3 ?_
 refine dG (ι := (Int) × (Int)) (fun | ⟨u, dy⟩ => (UD r u dy)) (fun | ⟨u, dy⟩ => [(1, pT b1), (3, iV u)]) (fun | ⟨u, dy⟩ => [(50, b1)]) (fun | ⟨u, dy⟩ => aP 50 0 (cI r x) ++ []) (fun | ⟨u, dy⟩ => []) ?_ ?_
 ·rcases hf with hq | hq | hq
  ·refine g1 ?_
   refine gL (dY 50 (e := 3) (sz := 1) (n := 3) (vs := [(0, iV 3600), (1, iV 60), (2, iV 1)]) (cs := [iV 3600, iV 60, iV 1]) dE rfl (fun w => by kernel_rfl) rfl dE dE rfl (fun b1_ hbb1_ => ?_))
   refine rl (rfa 0) ?_
   refine rl ((rld 50 rfl rfl rfl).to (v' := .int .u8 4) (congrArg (Value.int .u8) hq)) ?_
   refine rl ((jZ rfl rfl).to (v' := .int .u8 0) rfl) ?_
   refine rl (aI (e := 3) (n := 1) kR rfl rfl oM oM) ?_
   refine rl (bP 50 rfl rfl rfl rfl kR) ?_
   refine g2 ?_
   refine aU (ι := Int × Int) (⟨3600, 24⟩) (.inl ⟨rfl, rfl, hq⟩) kno (fun w s => Sees.tailS s rfl)
  ·refine g1 ?_
   refine gL (dY 50 (e := 3) (sz := 1) (n := 3) (vs := [(0, iV 3600), (1, iV 60), (2, iV 1)]) (cs := [iV 3600, iV 60, iV 1]) dE rfl (fun w => by kernel_rfl) rfl dE dE rfl (fun b2_ hbb2_ => ?_))
   refine rl (rfa 0) ?_
   refine rl ((rld 50 rfl rfl rfl).to (v' := .int .u8 5) (congrArg (Value.int .u8) hq)) ?_
   refine rl ((jZ rfl rfl).to (v' := .int .u8 1) rfl) ?_
   refine rl (aI (e := 3) (n := 1) kR rfl rfl oM oM) ?_
   refine rl (bP 50 rfl rfl rfl rfl kR) ?_
   refine g2 ?_
   refine aU (ι := Int × Int) (⟨60, 1440⟩) (.inr (.inl ⟨rfl, rfl, hq⟩)) kno (fun w s => Sees.tailS s rfl)
  ·refine g1 ?_
   refine gL (dY 50 (e := 3) (sz := 1) (n := 3) (vs := [(0, iV 3600), (1, iV 60), (2, iV 1)]) (cs := [iV 3600, iV 60, iV 1]) dE rfl (fun w => by kernel_rfl) rfl dE dE rfl (fun b3_ hbb3_ => ?_))
   refine rl (rfa 0) ?_
   refine rl ((rld 50 rfl rfl rfl).to (v' := .int .u8 6) (congrArg (Value.int .u8) hq)) ?_
   refine rl ((jZ rfl rfl).to (v' := .int .u8 2) rfl) ?_
   refine rl (aI (e := 3) (n := 1) kR rfl rfl oM oM) ?_
   refine rl (bP 50 rfl rfl rfl rfl kR) ?_
   refine g2 ?_
   refine aU (ι := Int × Int) (⟨1, 86400⟩) (.inr (.inr ⟨rfl, rfl, hq⟩)) kno (fun w s => Sees.tailS s rfl)
 rintro ⟨u, dy⟩ hu
 show GC _ _ _ _ [(1, pT b1), (3, iV u)] _ _ ([(50, b1)]) (aP 50 0 (cI r x) ++ []) ([])
 have hub : 1 ≤ u ∧ u ≤ 3600 ∧ 1 ≤ dy ∧ dy ≤ 86400 ∧ 86400 / u = dy := by rcases hu with ⟨rfl, rfl, _⟩ | ⟨rfl, rfl, _⟩ | ⟨rfl, rfl, _⟩ <;> decide
 obtain ⟨hu1, hu2, hd1, hd2, hud⟩ := hub
 have hst : 0 ≤ r.start % 86400 / u ∧ r.start % 86400 / u < dy := by rcases hu with ⟨rfl, rfl, _⟩ | ⟨rfl, rfl, _⟩ | ⟨rfl, rfl, _⟩ <;> omega
 obtain ⟨i0, hi0⟩ : ∃ i0 : Nat, r.interval = i0 := ⟨r.interval.toNat, by omega⟩
 obtain ⟨d0, hd0⟩ : ∃ d0 : Nat, dy = d0 := ⟨dy.toNat, by omega⟩
 have hgp : 0 < Nat.gcd i0 d0 := Nat.gcd_pos_of_pos_left _ oM
 refine g3 ?_
 refine rl ((yQ rfl rfl oM oM oM).to (v' := iV dy) (congrArg (Value.int .i64) hud)) ?_
 refine g5 ?_
 refine rl (rfa 3) ?_
 refine rl (rld 50 rfl rfl rfl) ?_
 refine g7 ?_
 refine bK (ι := (Nat) × (Nat)) (fun | ⟨a, b⟩ => b) (fun | ⟨a, b⟩ => (Nat.gcd a b = Nat.gcd i0 d0) ∧ (b ≤ 86400 ∧ a ≤ 86400)) (fun | ⟨a, b⟩ => [(1, pT b1), (3, iV u), (4, iV dy), (5, iV ((a : Int))), (6, iV ((b : Int)))]) (fun | ⟨a, b⟩ => [(50, b1)]) (fun | ⟨a, b⟩ => aP 50 0 (cI r x) ++ []) (fun | ⟨a, b⟩ => []) ⟨i0, d0⟩ ⟨rfl, by omega⟩ kno (fun w s => by exact s) ?_
 rintro ⟨a, b⟩ ⟨hg, hb⟩
 show GC _ _ _ _ [(1, pT b1), (3, iV u), (4, iV dy), (5, iV ((a : Int))), (6, iV ((b : Int)))] _ _ ([(50, b1)]) (aP 50 0 (cI r x) ++ []) ([])
 refine g7 ?_
 refine aE rfl (fun hc1 => ?_) (fun hc2 => ?_)
 ·have hb0 : b ≠ 0 := by have := bne_iff_ne.1 hc1; omega
  refine g7 ?_
  refine rq ((qF rfl rfl oM oM).to (v' := iV ((a % b : Nat) : Int)) (congrArg (Value.int .i64) oM)) ?_
  refine g4 ?_
  refine aV ⟨b, a % b⟩ (by exact Nat.mod_lt a oM) ⟨by rw [Nat.gcd_comm, ← Nat.gcd_rec, Nat.gcd_comm]; exact hg, by have := Nat.mod_lt a (show 0 < b by omega); omega⟩ kno (fun w s => by exact s)
 ·obtain rfl : b = 0 := by have := bne_eq_false_iff_eq.1 hc2; omega
  obtain rfl : a = Nat.gcd i0 d0 := by rw [← hg, Nat.gcd_zero_right]
  refine g7 ?_
  refine rl (rfa 2) ?_
  refine rl (rld 50 rfl rfl rfl) ?_
  refine g16 ?_
  refine bK (ι := (Int)) (fun t => (dy - t).toNat) (fun t => (0 ≤ t) ∧ (t % (Nat.gcd i0 d0 : Nat) = r.start % 86400 / u % (Nat.gcd i0 d0 : Nat))) (fun t => [(1, pT b1), (3, iV u), (4, iV dy), (5, iV ((Nat.gcd i0 d0 : Nat))), (8, iV t)]) (fun t => [(50, b1)]) (fun t => aP 50 0 (cI r x) ++ []) (fun t => []) (r.start % 86400 / u % (Nat.gcd i0 d0 : Nat)) ⟨Int.emod_nonneg _ oM, Int.emod_emod_of_dvd _ (Int.dvd_refl _)⟩ kno (fun w s => by exact s) ?_
  rintro t ⟨ht0, htg⟩
  show GC _ _ _ _ [(1, pT b1), (3, iV u), (4, iV dy), (5, iV ((Nat.gcd i0 d0 : Nat))), (8, iV t)] _ _ ([(50, b1)]) (aP 50 0 (cI r x) ++ []) ([])
  refine g8 ?_
  refine aE rfl (fun hc1 => ?_) (fun hc2 => ?_)
  ·have hlt : t < dy := oT hc1
   have hm : 0 ≤ t * u ∧ t * u < 86400 := by rcases hu with ⟨rfl, rfl, _⟩ | ⟨rfl, rfl, _⟩ | ⟨rfl, rfl, _⟩ <;> omega
   refine g15 ?_
   refine rl (rfa 14) ?_
   refine rl (rld 50 rfl rfl rfl) ?_
   refine g2 ?_
   rcases Bool.eq_false_or_eq_true (aF r.hour (t * u / 3600)) with ha | ha
   ·refine gL (cvo (v := .bool true) rfl (fun w_ s_ => (fK r.hour (t * u / 3600) _ oM w_ (bY s_ hin.i15)).mono fun e_ w2_ h_ => ⟨h_.1.trans (cE ha), h_.2⟩) ?_)
    refine g3 ?_
    refine rl (rfa 0) ?_
    refine g1 ?_
    refine rl (rld 50 rfl rfl rfl) ?_
    refine g1 ?_
    rcases Decidable.em (5 ≤ r.freq) with h5 | h5
    ·refine rl ((dL rfl rfl).to bT) ?_
     refine g3 ?_
     refine rl (rfa 15) ?_
     refine g1 ?_
     refine rl (rld 50 rfl rfl rfl) ?_
     refine g7 ?_
     rcases Bool.eq_false_or_eq_true (aF r.minute (t * u / 60 % 60)) with hb | hb
     ·refine gL (cvo (v := .bool true) rfl (fun w_ s_ => (fK r.minute (t * u / 60 % 60) _ oM w_ (bY s_ hin.i16)).mono fun e_ w2_ h_ => ⟨h_.1.trans (cE hb), h_.2⟩) ?_)
      refine g7 ?_
      refine rl (rfa 0) ?_
      refine g1 ?_
      refine rl (rld 50 rfl rfl rfl) ?_
      refine g1 ?_
      rcases Decidable.em (r.freq = 6) with h6 | h6
      ·refine rl ((aY rfl rfl).to eT) ?_
       refine g3 ?_
       refine rl (rfa 16) ?_
       refine g1 ?_
       refine rl (rld 50 rfl rfl rfl) ?_
       refine g5 ?_
       rcases Bool.eq_false_or_eq_true (aF r.second (t * u % 60)) with hc | hc
       ·refine gL (cvo (v := .bool true) rfl (fun w_ s_ => (fK r.second (t * u % 60) _ oM w_ (bY s_ hin.i17)).mono fun e_ w2_ h_ => ⟨h_.1.trans (cE hc), h_.2⟩) ?_)
        refine g7 ?_
        refine aB rfl rfl ?_
        refine g13 ?_
        exact aD (.inl rfl) rfl (aA rfl) fun w_ s_ => ⟨_, (by first | (intro h_; cases h_; done) | exact fun _ => ⟨u, dy, t, hu, ht0, hlt, by rw [hi0, hd0]; exact htg, ha, fun h => by first | exact hb | omega, fun h => by first | exact hc | omega⟩), rfl, s_.aGm⟩
       ·refine gL (cvo (v := .bool false) rfl (fun w_ s_ => (fK r.second (t * u % 60) _ oM w_ (bY s_ hin.i17)).mono fun e_ w2_ h_ => ⟨h_.1.trans (cE hc), h_.2⟩) ?_)
        refine g7 ?_
        refine aJ rfl rfl ?_
        refine g10 ?_
        refine aV (t + (Nat.gcd i0 d0 : Nat)) oM ⟨by omega, by rw [Int.add_emod_right]; exact htg⟩ kno (fun w s => by exact s)
      ·refine rl ((aY rfl rfl).to eF) ?_
       refine g13 ?_
       refine aB rfl rfl ?_
       refine g13 ?_
       exact aD (.inl rfl) rfl (aA rfl) fun w_ s_ => ⟨_, (by first | (intro h_; cases h_; done) | exact fun _ => ⟨u, dy, t, hu, ht0, hlt, by rw [hi0, hd0]; exact htg, ha, fun h => by first | exact hb | omega, fun h => by first | exact hc | omega⟩), rfl, s_.aGm⟩
     ·refine gL (cvo (v := .bool false) rfl (fun w_ s_ => (fK r.minute (t * u / 60 % 60) _ oM w_ (bY s_ hin.i16)).mono fun e_ w2_ h_ => ⟨h_.1.trans (cE hb), h_.2⟩) ?_)
      refine g20 ?_
      refine aJ rfl rfl ?_
      refine g10 ?_
      refine aV (t + (Nat.gcd i0 d0 : Nat)) oM ⟨by omega, by rw [Int.add_emod_right]; exact htg⟩ kno (fun w s => by exact s)
    ·refine rl ((dL rfl rfl).to bF) ?_
     refine g14 ?_
     refine rl (rfa 0) ?_
     refine g1 ?_
     refine rl (rld 50 rfl rfl rfl) ?_
     refine g1 ?_
     rcases Decidable.em (r.freq = 6) with h6 | h6
     ·refine rl ((aY rfl rfl).to eT) ?_
      refine g3 ?_
      refine rl (rfa 16) ?_
      refine g1 ?_
      refine rl (rld 50 rfl rfl rfl) ?_
      refine g5 ?_
      rcases Bool.eq_false_or_eq_true (aF r.second (t * u % 60)) with hc | hc
      ·refine gL (cvo (v := .bool true) rfl (fun w_ s_ => (fK r.second (t * u % 60) _ oM w_ (bY s_ hin.i17)).mono fun e_ w2_ h_ => ⟨h_.1.trans (cE hc), h_.2⟩) ?_)
       refine g7 ?_
       refine aB rfl rfl ?_
       refine g13 ?_
       exact aD (.inl rfl) rfl (aA rfl) fun w_ s_ => ⟨_, (by first | (intro h_; cases h_; done) | exact fun _ => ⟨u, dy, t, hu, ht0, hlt, by rw [hi0, hd0]; exact htg, ha, fun h => by first | exact hb | omega, fun h => by first | exact hc | omega⟩), rfl, s_.aGm⟩
      ·refine gL (cvo (v := .bool false) rfl (fun w_ s_ => (fK r.second (t * u % 60) _ oM w_ (bY s_ hin.i17)).mono fun e_ w2_ h_ => ⟨h_.1.trans (cE hc), h_.2⟩) ?_)
       refine g7 ?_
       refine aJ rfl rfl ?_
       refine g10 ?_
       refine aV (t + (Nat.gcd i0 d0 : Nat)) oM ⟨by omega, by rw [Int.add_emod_right]; exact htg⟩ kno (fun w s => by exact s)
     ·refine rl ((aY rfl rfl).to eF) ?_
      refine g13 ?_
      refine aB rfl rfl ?_
      refine g13 ?_
      exact aD (.inl rfl) rfl (aA rfl) fun w_ s_ => ⟨_, (by first | (intro h_; cases h_; done) | exact fun _ => ⟨u, dy, t, hu, ht0, hlt, by rw [hi0, hd0]; exact htg, ha, fun h => by first | exact hb | omega, fun h => by first | exact hc | omega⟩), rfl, s_.aGm⟩
   ·refine gL (cvo (v := .bool false) rfl (fun w_ s_ => (fK r.hour (t * u / 3600) _ oM w_ (bY s_ hin.i15)).mono fun e_ w2_ h_ => ⟨h_.1.trans (cE ha), h_.2⟩) ?_)
    refine g30 ?_
    refine aJ rfl rfl ?_
    refine g10 ?_
    refine aV (t + (Nat.gcd i0 d0 : Nat)) oM ⟨by omega, by rw [Int.add_emod_right]; exact htg⟩ kno (fun w s => by exact s)
  ·refine g11 ?_
   exact aD (.inl rfl) rfl (aA rfl) fun w_ s_ => ⟨_, (by first | (intro h_; cases h_; done) | exact fun _ => ⟨u, dy, t, hu, ht0, hlt, by rw [hi0, hd0]; exact htg, ha, fun h => by first | exact hb | omega, fun h => by first | exact hc | omega⟩), rfl, s_.aGm⟩
end
end Go.Proofs.YtdbbifbmkfmbkaaGreat
namespace Go.Proofs.YtdbbifbmkfmbkaaGreat
open Go.RowKit Go.Fr Go.Tab
section
variable {F : Nat → Prop} {w0 : World} {B : LN} {H : LV} {S : LS}
open Go.Fr
section
variable {P : Program} {N : Nat} {L : Fr.Loc} {F : Nat → Prop} {w0 : World} {B : LN} {H : LV} {S : LS} {d : Nat} {ty : TypeId} {pos : String} {aft : Array Edge} {g : Option (Nat × Bool)}
def aCm (P : Program) (t : TypeId) : Bool := match P.underlying t with
 | some .bool => true
 | _ => false
theorem aA3 {t : TypeId} (h : aCm P t = true) : P.underlying t = some .bool := by
 unfold aCm at h
 split at h
 ·assumption
 ·cases h
theorem qG {xt yt : TypeId} {x y : Operand} {m n : Bool} (hx : ev L x = some (.bool m)) (hy : ev L y = some (.bool n)) (ht : aCm P xt = true := by kernel_rfl) : Rd P ⟨some d, .binOp .neq xt x y yt, ty, pos, aft, g⟩ N L F w0 B H S (.bool (m != n)) := fun a w k s => by
 simp [execOp, eqGuard, k.eval hx, k.eval hy, run_neq_bool w xt m n (aA3 ht), bne]
end
theorem nP {w : World} {p : Option Addr} {c : Nat} {xs : List (Int × Int)} {k : Nat} (h : Prs w (.slice p xs.length c) xs) (hk : k ≤ xs.length) : Prs w (.slice p k c) (xs.take k) := by
 obtain ⟨p', c', e, hc⟩ := h
 injection e with e1 _ e3
 subst e1 e3
 refine ⟨p, c, by rw [List.length_take, Nat.min_eq_left hk], fun i x hx => ?_⟩
 rw [List.getElem?_take] at hx
 split at hx
 ·exact hc i x hx
 ·cases hx
structure CapL (r : Rul) (x : Av) : Prop where
 c9 : r.setpos.length ≤ x.c9
 c10 : r.month.length ≤ x.c10
 c11 : r.mday.length ≤ x.c11
 c12 : r.yday.length ≤ x.c12
 c13 : r.weekno.length ≤ x.c13
 c14 : r.wday.length ≤ x.c14
 c15 : r.hour.length ≤ x.c15
 c16 : r.minute.length ≤ x.c16
 c17 : r.second.length ≤ x.c17
 c18 : r.easter.length ≤ x.c18
structure Rt1 (r : Rul) : Prop where
 freq : 0 ≤ r.freq ∧ r.freq ≤ 6
 hs : r.hasStart = true
 start : 1 ≤ r.start ∧ r.start < Cal.daysTo 9000 * 86400
 interval : 1 ≤ r.interval ∧ r.interval ≤ 1000
 wkst : 0 ≤ r.wkst ∧ r.wkst ≤ 6
 count : 0 ≤ r.count ∧ r.count ≤ 1000000
def Rt2 (r : Rul) : Prop := (r.hasUntil = false → r.untl = 0) ∧ (r.hasUntil = true → r.count = 0 ∧ 1 ≤ r.untl ∧ r.untl < Cal.daysTo 10000 * 86400)
structure Rt3 (r : Rul) : Prop where
 h9 : gR r.setpos 1 366 true = true
 h10 : gR r.month 1 12 false = true
 h11 : gR r.mday 1 31 true = true
 h12 : gR r.yday 1 366 true = true
 h13 : gR r.weekno 1 51 true = true
 h15 : gR r.hour 0 23 false = true
 h16 : gR r.minute 0 59 false = true
 h17 : gR r.second 0 59 false = true
def EOk (r : Rul) (i : Nat) (y : Int) : Prop := -80 ≤ y ∧ y ≤ 200 ∧ r.freq = 0 ∧ (r.easter.take i).any (· == y) = false
def Rt4 (r : Rul) : Prop := ∀ i y, r.easter[i]? = some y → EOk r i y
def Rt5 (r : Rul) : Prop := (r.freq ≠ 0 → r.weekno.length = 0 ∧ r.yday.length = 0) ∧ (r.freq = 2 → r.mday.length = 0)
def lO (r : Rul) : Int := if r.freq = 1 ∨ (r.freq = 0 ∧ 0 < r.month.length) then 5 else if r.freq = 0 then 53 else 0
def pG (r : Rul) : Int := if 0 < r.weekno.length then 0 else lO r
def DOk (r : Rul) (i : Nat) (y : Int × Int) : Prop := (∀ y0, r.wday[0]? = some y0 → (y.2 = 0 ↔ y0.2 = 0)) ∧ (0 ≤ y.1 ∧ y.1 ≤ 6) ∧ (-pG r ≤ y.2 ∧ y.2 ≤ pG r) ∧ (r.wday.take i).any (· == y) = false ∧ i < 100
def Rt6 (r : Rul) : Prop := ∀ i y, r.wday[i]? = some y → DOk r i y
def Rt7 (r : Rul) : Prop := r.freq = 2 → 0 < r.setpos.length → r.start / 86400 % 7 = r.wkst
def Rt8 (r : Rul) : Prop := 4 ≤ r.freq → xJ r
def Rt9 (r : Rul) : Prop := r.setpos.length = 0 ∨ 0 < r.month.length + r.mday.length + r.yday.length + r.weekno.length + r.wday.length + r.hour.length + r.minute.length + r.second.length + r.easter.length
structure RightP (r : Rul) : Prop where
 t1 : Rt1 r
 t2 : Rt2 r
 t3 : Rt3 r
 t4 : Rt4 r
 t5 : Rt5 r
 t6 : Rt6 r
 t7 : Rt7 r
 t8 : Rt8 r
 t9 : Rt9 r
theorem vJ (r : Rul) (x : Av) (hfb : 0 ≤ r.freq) (hl : LenL r) (hc : CapL r x) (w : World) (hin : InL w r x) : Calls Tryz.prog 16 #[.agg (cI r x).toArray] w fun e w' => ∃ b : Bool, (b = true → RightP r) ∧ e = .returned (.bool b) ∧ Below w.heap.size w w' := by
 obtain ⟨l9, l10, l11, l12, l13, l14, l15, l16, l17, l18⟩ := hl
 have hN1 : Cal.daysTo 9000 = 3286817 := by decide
 have hN2 : Cal.daysTo 10000 = 3652059 := by decide
 have hIE : ∀ i y, r.easter[i]? = some y → ∃ b o, x.p18 = some ⟨b, o, none⟩ ∧ w.cell? ⟨b, o + i, none⟩ = some (iV y) := by
  obtain ⟨p', c', e, hc'⟩ := hin.i18
  injection e with e1 _ _
  rw [e1]; exact hc'
 have hID : ∀ i y, r.wday[i]? = some y → ∃ b o, x.p14 = some ⟨b, o, none⟩ ∧ w.cell? ⟨b, o + 2 * i, none⟩ = some (iV y.1) ∧ w.cell? ⟨b, o + 2 * i + 1, none⟩ = some (iV y.2) := by
  obtain ⟨p', c', e, hc'⟩ := hin.i14
  injection e with e1 _ _
  rw [e1]; exact hc'
 refine aN (args := [.agg (cI r x).toArray]) (L := [(0, .agg (cI r x).toArray)]) (N := 330) Tryz.func16 rfl rfl ble rfl (sS w) ?_
 refine g2 ?_
 refine gL (iX 50 (cs := cI r x) dE rfl rfl rfl (fun o ho => rfl) ble (fun b1 hb1 => ?_))
 refine g3 ?_
 refine dG (ι := (Unit)) (fun u => (Rt1 r)) (fun u => [(1, pT b1)]) (fun u => [(50, b1)]) (fun u => aP 50 0 (cI r x) ++ []) (fun u => []) ?_ ?_
 ·refine g2 ?_
  refine rq (rfa 0) ?_
  refine rq (rld 50 rfl rfl rfl) ?_
  rcases Decidable.em (6 < r.freq) with h0 | h0
  ·refine rq ((cQ rfl rfl).to bT) ?_
   refine g40 ?_
   refine g9 ?_
   refine aJ rfl rfl ?_
   refine g7 ?_
   exact aD (.inl rfl) rfl (aA rfl) fun w_ s_ => ⟨_, (by first | (intro h_; cases h_; done) | exact fun _ => ⟨t1, t2, t3, t4, t5, t6, t7, t8, .inl rfl⟩), rfl, s_.aGm⟩
  ·refine rq ((cQ rfl rfl).to bF) ?_
   refine g2 ?_
   refine rq (rfa 1) ?_
   refine g1 ?_
   rcases Bool.eq_false_or_eq_true (r.hasStart) with hh | hh
   ·refine rq ((rld 50 rfl rfl rfl).to (v' := .bool true) (cB hh)) ?_
    refine g5 ?_
    refine rq (rfa 2) ?_
    refine g1 ?_
    refine rq (rld 50 rfl rfl rfl) ?_
    refine g1 ?_
    rcases Decidable.em (r.start < 1) with h1 | h1
    ·refine rq ((cW rfl rfl).to bT) ?_
     refine g40 ?_
     refine aJ rfl rfl ?_
     refine g7 ?_
     exact aD (.inl rfl) rfl (aA rfl) fun w_ s_ => ⟨_, (by first | (intro h_; cases h_; done) | exact fun _ => ⟨t1, t2, t3, t4, t5, t6, t7, t8, .inl rfl⟩), rfl, s_.aGm⟩
    ·refine rq ((cW rfl rfl).to bF) ?_
     refine g3 ?_
     refine rq (rfa 2) ?_
     refine g1 ?_
     refine rq (rld 50 rfl rfl rfl) ?_
     refine g1 ?_
     refine eN dE kR rfl (fun w_ s_ => mU _ oM w_) ?_
     refine g3 ?_
     rcases Decidable.em (Cal.daysTo 9000 * 86400 ≤ r.start) with h2 | h2
     ·refine rq ((dL rfl rfl).to bT) ?_
      refine g30 ?_
      refine g3 ?_
      refine aJ rfl rfl ?_
      refine g7 ?_
      exact aD (.inl rfl) rfl (aA rfl) fun w_ s_ => ⟨_, (by first | (intro h_; cases h_; done) | exact fun _ => ⟨t1, t2, t3, t4, t5, t6, t7, t8, .inl rfl⟩), rfl, s_.aGm⟩
     ·refine rq ((dL rfl rfl).to bF) ?_
      refine g3 ?_
      refine rq (rfa 3) ?_
      refine g1 ?_
      refine rq (rld 50 rfl rfl rfl) ?_
      refine g1 ?_
      rcases Decidable.em (r.interval < 1) with h3 | h3
      ·refine rq ((cW rfl rfl).to bT) ?_
       refine g25 ?_
       refine g3 ?_
       refine aJ rfl rfl ?_
       refine g7 ?_
       exact aD (.inl rfl) rfl (aA rfl) fun w_ s_ => ⟨_, (by first | (intro h_; cases h_; done) | exact fun _ => ⟨t1, t2, t3, t4, t5, t6, t7, t8, .inl rfl⟩), rfl, s_.aGm⟩
      ·refine rq ((cW rfl rfl).to bF) ?_
       refine g3 ?_
       refine rq (rfa 3) ?_
       refine g1 ?_
       refine rq (rld 50 rfl rfl rfl) ?_
       refine g1 ?_
       rcases Decidable.em (1000 < r.interval) with h4 | h4
       ·refine rq ((cQ rfl rfl).to bT) ?_
        refine g20 ?_
        refine g3 ?_
        refine aJ rfl rfl ?_
        refine g7 ?_
        exact aD (.inl rfl) rfl (aA rfl) fun w_ s_ => ⟨_, (by first | (intro h_; cases h_; done) | exact fun _ => ⟨t1, t2, t3, t4, t5, t6, t7, t8, .inl rfl⟩), rfl, s_.aGm⟩
       ·refine rq ((cQ rfl rfl).to bF) ?_
        refine g3 ?_
        refine rq (rfa 4) ?_
        refine g1 ?_
        refine rq (rld 50 rfl rfl rfl) ?_
        refine g1 ?_
        rcases Decidable.em (r.wkst < 0) with h5 | h5
        ·refine rq ((cW rfl rfl).to bT) ?_
         refine g18 ?_
         refine aJ rfl rfl ?_
         refine g7 ?_
         exact aD (.inl rfl) rfl (aA rfl) fun w_ s_ => ⟨_, (by first | (intro h_; cases h_; done) | exact fun _ => ⟨t1, t2, t3, t4, t5, t6, t7, t8, .inl rfl⟩), rfl, s_.aGm⟩
        ·refine rq ((cW rfl rfl).to bF) ?_
         refine g3 ?_
         refine rq (rfa 4) ?_
         refine g1 ?_
         refine rq (rld 50 rfl rfl rfl) ?_
         refine g1 ?_
         rcases Decidable.em (6 < r.wkst) with h6 | h6
         ·refine rq ((cQ rfl rfl).to bT) ?_
          refine g13 ?_
          refine aJ rfl rfl ?_
          refine g7 ?_
          exact aD (.inl rfl) rfl (aA rfl) fun w_ s_ => ⟨_, (by first | (intro h_; cases h_; done) | exact fun _ => ⟨t1, t2, t3, t4, t5, t6, t7, t8, .inl rfl⟩), rfl, s_.aGm⟩
         ·refine rq ((cQ rfl rfl).to bF) ?_
          refine g3 ?_
          refine rq (rfa 5) ?_
          refine g1 ?_
          refine rq (rld 50 rfl rfl rfl) ?_
          refine g1 ?_
          rcases Decidable.em (r.count < 0) with h7 | h7
          ·refine rq ((cW rfl rfl).to bT) ?_
           refine g8 ?_
           refine aJ rfl rfl ?_
           refine g7 ?_
           exact aD (.inl rfl) rfl (aA rfl) fun w_ s_ => ⟨_, (by first | (intro h_; cases h_; done) | exact fun _ => ⟨t1, t2, t3, t4, t5, t6, t7, t8, .inl rfl⟩), rfl, s_.aGm⟩
          ·refine rq ((cW rfl rfl).to bF) ?_
           refine g3 ?_
           refine rq (rfa 5) ?_
           refine g1 ?_
           refine rq (rld 50 rfl rfl rfl) ?_
           refine g1 ?_
           rcases Decidable.em (1000000 < r.count) with h8 | h8
           ·refine rq ((cQ rfl rfl).to bT) ?_
            refine g3 ?_
            refine aJ rfl rfl ?_
            refine g7 ?_
            exact aD (.inl rfl) rfl (aA rfl) fun w_ s_ => ⟨_, (by first | (intro h_; cases h_; done) | exact fun _ => ⟨t1, t2, t3, t4, t5, t6, t7, t8, .inl rfl⟩), rfl, s_.aGm⟩
           ·refine rq ((cQ rfl rfl).to bF) ?_
            refine g3 ?_
            refine aB rfl rfl ?_
            refine g1 ?_
            refine aU (ι := Unit) () (⟨⟨by omega, by omega⟩, hh, ⟨by omega, by omega⟩, ⟨by omega, by omega⟩, ⟨by omega, by omega⟩, ⟨by omega, by omega⟩⟩) kns (fun w s => s)
   ·refine rq ((rld 50 rfl rfl rfl).to (v' := .bool false) (cB hh)) ?_
    refine g40 ?_
    refine g7 ?_
    refine aJ rfl rfl ?_
    refine g7 ?_
    exact aD (.inl rfl) rfl (aA rfl) fun w_ s_ => ⟨_, (by first | (intro h_; cases h_; done) | exact fun _ => ⟨t1, t2, t3, t4, t5, t6, t7, t8, .inl rfl⟩), rfl, s_.aGm⟩
 rintro u t1
 show GC _ _ _ _ [(1, pT b1)] _ _ ([(50, b1)]) (aP 50 0 (cI r x) ++ []) ([])
 obtain ⟨hf1, hf2⟩ := t1.freq
 obtain ⟨hs1, hs2⟩ := t1.start
 obtain ⟨hi1, hi2⟩ := t1.interval
 refine dG (ι := (Unit)) (fun u => (Rt2 r)) (fun u => [(1, pT b1)]) (fun u => [(50, b1)]) (fun u => aP 50 0 (cI r x) ++ []) (fun u => []) ?_ ?_
 ·refine g2 ?_
  refine rq (rfa 6) ?_
  rcases Bool.eq_false_or_eq_true (r.hasUntil) with hhu | hhu
  ·refine rq ((rld 50 rfl rfl rfl).to (v' := .bool true) (cB hhu)) ?_
   refine g8 ?_
   refine rq (rfa 6) ?_
   refine g1 ?_
   refine rq ((rld 50 rfl rfl rfl).to (v' := .bool true) (cB hhu)) ?_
   refine g3 ?_
   refine rq (rfa 5) ?_
   refine g1 ?_
   refine rq (rld 50 rfl rfl rfl) ?_
   refine g1 ?_
   rcases Decidable.em (0 < r.count) with h1 | h1
   ·refine rq ((cQ rfl rfl).to bT) ?_
    refine g20 ?_
    refine g1 ?_
    refine aJ rfl rfl ?_
    refine g7 ?_
    exact aD (.inl rfl) rfl (aA rfl) fun w_ s_ => ⟨_, (by first | (intro h_; cases h_; done) | exact fun _ => ⟨t1, t2, t3, t4, t5, t6, t7, t8, .inl rfl⟩), rfl, s_.aGm⟩
   ·refine rq ((cQ rfl rfl).to bF) ?_
    refine g3 ?_
    refine rq (rfa 7) ?_
    refine g1 ?_
    refine rq (rld 50 rfl rfl rfl) ?_
    refine g1 ?_
    rcases Decidable.em (r.untl < 1) with h2 | h2
    ·refine rq ((cW rfl rfl).to bT) ?_
     refine g16 ?_
     refine aJ rfl rfl ?_
     refine g7 ?_
     exact aD (.inl rfl) rfl (aA rfl) fun w_ s_ => ⟨_, (by first | (intro h_; cases h_; done) | exact fun _ => ⟨t1, t2, t3, t4, t5, t6, t7, t8, .inl rfl⟩), rfl, s_.aGm⟩
    ·refine rq ((cW rfl rfl).to bF) ?_
     refine g5 ?_
     refine rq (rfa 7) ?_
     refine g1 ?_
     refine rq (rld 50 rfl rfl rfl) ?_
     refine g1 ?_
     refine eN dE kR rfl (fun w_ s_ => mU _ oM w_) ?_
     refine g3 ?_
     rcases Decidable.em (Cal.daysTo 10000 * 86400 ≤ r.untl) with h3 | h3
     ·refine rq ((dL rfl rfl).to bT) ?_
      refine g7 ?_
      refine aJ rfl rfl ?_
      refine g7 ?_
      exact aD (.inl rfl) rfl (aA rfl) fun w_ s_ => ⟨_, (by first | (intro h_; cases h_; done) | exact fun _ => ⟨t1, t2, t3, t4, t5, t6, t7, t8, .inl rfl⟩), rfl, s_.aGm⟩
     ·refine rq ((dL rfl rfl).to bF) ?_
      refine g7 ?_
      refine aB rfl rfl ?_
      refine g1 ?_
      refine aU (ι := Unit) () (⟨fun h_ => (by rw [hhu] at h_; cases h_), fun _ => ⟨by have := t1.count; omega, by omega, by omega⟩⟩) kns (fun w s => s)
  ·refine rq ((rld 50 rfl rfl rfl).to (v' := .bool false) (cB hhu)) ?_
   refine g3 ?_
   refine rq (rfa 7) ?_
   refine g1 ?_
   refine rq (rld 50 rfl rfl rfl) ?_
   refine g1 ?_
   rcases Decidable.em (r.untl ≠ 0) with h0 | h0
   ·refine rq ((bX rfl rfl).to (v' := .bool true) (cB (iE oM))) ?_
    refine g20 ?_
    refine g4 ?_
    refine aJ rfl rfl ?_
    refine g7 ?_
    exact aD (.inl rfl) rfl (aA rfl) fun w_ s_ => ⟨_, (by first | (intro h_; cases h_; done) | exact fun _ => ⟨t1, t2, t3, t4, t5, t6, t7, t8, .inl rfl⟩), rfl, s_.aGm⟩
   ·refine rq ((bX rfl rfl).to (v' := .bool false) (cB (iF oM))) ?_
    refine g3 ?_
    refine rq (rfa 6) ?_
    refine g1 ?_
    refine rq ((rld 50 rfl rfl rfl).to (v' := .bool false) (cB hhu)) ?_
    refine g20 ?_
    refine g2 ?_
    refine aB rfl rfl ?_
    refine g1 ?_
    refine aU (ι := Unit) () (⟨fun _ => by omega, fun h_ => (by rw [hhu] at h_; cases h_)⟩) kns (fun w s => s)
 rintro u t2
 show GC _ _ _ _ [(1, pT b1)] _ _ ([(50, b1)]) (aP 50 0 (cI r x) ++ []) ([])
 refine dG (ι := (Unit)) (fun u => (Rt3 r)) (fun u => [(1, pT b1)]) (fun u => [(50, b1)]) (fun u => aP 50 0 (cI r x) ++ []) (fun u => []) ?_ ?_
 ·refine g2 ?_
  refine rl (rfa 8) ?_
  refine rl (rld 50 rfl rfl rfl) ?_
  rcases Bool.eq_false_or_eq_true (gR r.setpos 1 366 true) with q9 | q9
  ·refine gL (cvo (v := .bool true) rfl (fun w_ s_ => (cR r.setpos x.p9 x.c9 1 366 true hc.c9 oM oM oM w_ (bY s_ hin.i9)).mono fun e_ w2_ h_ => ⟨h_.1.trans (cE q9), h_.2⟩) ?_)
   refine g3 ?_
   refine rl (rfa 9) ?_
   refine g1 ?_
   refine rl (rld 50 rfl rfl rfl) ?_
   refine g1 ?_
   rcases Bool.eq_false_or_eq_true (gR r.month 1 12 false) with q10 | q10
   ·refine gL (cvo (v := .bool true) rfl (fun w_ s_ => (cR r.month x.p10 x.c10 1 12 false hc.c10 oM oM oM w_ (bY s_ hin.i10)).mono fun e_ w2_ h_ => ⟨h_.1.trans (cE q10), h_.2⟩) ?_)
    refine g5 ?_
    refine rl (rfa 10) ?_
    refine g1 ?_
    refine rl (rld 50 rfl rfl rfl) ?_
    refine g1 ?_
    rcases Bool.eq_false_or_eq_true (gR r.mday 1 31 true) with q11 | q11
    ·refine gL (cvo (v := .bool true) rfl (fun w_ s_ => (cR r.mday x.p11 x.c11 1 31 true hc.c11 oM oM oM w_ (bY s_ hin.i11)).mono fun e_ w2_ h_ => ⟨h_.1.trans (cE q11), h_.2⟩) ?_)
     refine g5 ?_
     refine rl (rfa 11) ?_
     refine g1 ?_
     refine rl (rld 50 rfl rfl rfl) ?_
     refine g1 ?_
     rcases Bool.eq_false_or_eq_true (gR r.yday 1 366 true) with q12 | q12
     ·refine gL (cvo (v := .bool true) rfl (fun w_ s_ => (cR r.yday x.p12 x.c12 1 366 true hc.c12 oM oM oM w_ (bY s_ hin.i12)).mono fun e_ w2_ h_ => ⟨h_.1.trans (cE q12), h_.2⟩) ?_)
      refine g5 ?_
      refine rl (rfa 12) ?_
      refine g1 ?_
      refine rl (rld 50 rfl rfl rfl) ?_
      refine g1 ?_
      rcases Bool.eq_false_or_eq_true (gR r.weekno 1 51 true) with q13 | q13
      ·refine gL (cvo (v := .bool true) rfl (fun w_ s_ => (cR r.weekno x.p13 x.c13 1 51 true hc.c13 oM oM oM w_ (bY s_ hin.i13)).mono fun e_ w2_ h_ => ⟨h_.1.trans (cE q13), h_.2⟩) ?_)
       refine g5 ?_
       refine rl (rfa 14) ?_
       refine g1 ?_
       refine rl (rld 50 rfl rfl rfl) ?_
       refine g1 ?_
       rcases Bool.eq_false_or_eq_true (gR r.hour 0 23 false) with q15 | q15
       ·refine gL (cvo (v := .bool true) rfl (fun w_ s_ => (cR r.hour x.p15 x.c15 0 23 false hc.c15 oM oM oM w_ (bY s_ hin.i15)).mono fun e_ w2_ h_ => ⟨h_.1.trans (cE q15), h_.2⟩) ?_)
        refine g5 ?_
        refine rl (rfa 15) ?_
        refine g1 ?_
        refine rl (rld 50 rfl rfl rfl) ?_
        refine g1 ?_
        rcases Bool.eq_false_or_eq_true (gR r.minute 0 59 false) with q16 | q16
        ·refine gL (cvo (v := .bool true) rfl (fun w_ s_ => (cR r.minute x.p16 x.c16 0 59 false hc.c16 oM oM oM w_ (bY s_ hin.i16)).mono fun e_ w2_ h_ => ⟨h_.1.trans (cE q16), h_.2⟩) ?_)
         refine g5 ?_
         refine rl (rfa 16) ?_
         refine g1 ?_
         refine rl (rld 50 rfl rfl rfl) ?_
         refine g1 ?_
         rcases Bool.eq_false_or_eq_true (gR r.second 0 59 false) with q17 | q17
         ·refine gL (cvo (v := .bool true) rfl (fun w_ s_ => (cR r.second x.p17 x.c17 0 59 false hc.c17 oM oM oM w_ (bY s_ hin.i17)).mono fun e_ w2_ h_ => ⟨h_.1.trans (cE q17), h_.2⟩) ?_)
          refine g5 ?_
          refine aB rfl rfl ?_
          refine g1 ?_
          refine aU (ι := Unit) () (⟨q9, q10, q11, q12, q13, q15, q16, q17⟩) kns (fun w s => s)
         ·refine gL (cvo (v := .bool false) rfl (fun w_ s_ => (cR r.second x.p17 x.c17 0 59 false hc.c17 oM oM oM w_ (bY s_ hin.i17)).mono fun e_ w2_ h_ => ⟨h_.1.trans (cE q17), h_.2⟩) ?_)
          refine g5 ?_
          refine aJ rfl rfl ?_
          refine g7 ?_
          exact aD (.inl rfl) rfl (aA rfl) fun w_ s_ => ⟨_, (by first | (intro h_; cases h_; done) | exact fun _ => ⟨t1, t2, t3, t4, t5, t6, t7, t8, .inl rfl⟩), rfl, s_.aGm⟩
        ·refine gL (cvo (v := .bool false) rfl (fun w_ s_ => (cR r.minute x.p16 x.c16 0 59 false hc.c16 oM oM oM w_ (bY s_ hin.i16)).mono fun e_ w2_ h_ => ⟨h_.1.trans (cE q16), h_.2⟩) ?_)
         refine g11 ?_
         refine aJ rfl rfl ?_
         refine g7 ?_
         exact aD (.inl rfl) rfl (aA rfl) fun w_ s_ => ⟨_, (by first | (intro h_; cases h_; done) | exact fun _ => ⟨t1, t2, t3, t4, t5, t6, t7, t8, .inl rfl⟩), rfl, s_.aGm⟩
       ·refine gL (cvo (v := .bool false) rfl (fun w_ s_ => (cR r.hour x.p15 x.c15 0 23 false hc.c15 oM oM oM w_ (bY s_ hin.i15)).mono fun e_ w2_ h_ => ⟨h_.1.trans (cE q15), h_.2⟩) ?_)
        refine g16 ?_
        refine g1 ?_
        refine aJ rfl rfl ?_
        refine g7 ?_
        exact aD (.inl rfl) rfl (aA rfl) fun w_ s_ => ⟨_, (by first | (intro h_; cases h_; done) | exact fun _ => ⟨t1, t2, t3, t4, t5, t6, t7, t8, .inl rfl⟩), rfl, s_.aGm⟩
      ·refine gL (cvo (v := .bool false) rfl (fun w_ s_ => (cR r.weekno x.p13 x.c13 1 51 true hc.c13 oM oM oM w_ (bY s_ hin.i13)).mono fun e_ w2_ h_ => ⟨h_.1.trans (cE q13), h_.2⟩) ?_)
       refine g20 ?_
       refine g3 ?_
       refine aJ rfl rfl ?_
       refine g7 ?_
       exact aD (.inl rfl) rfl (aA rfl) fun w_ s_ => ⟨_, (by first | (intro h_; cases h_; done) | exact fun _ => ⟨t1, t2, t3, t4, t5, t6, t7, t8, .inl rfl⟩), rfl, s_.aGm⟩
     ·refine gL (cvo (v := .bool false) rfl (fun w_ s_ => (cR r.yday x.p12 x.c12 1 366 true hc.c12 oM oM oM w_ (bY s_ hin.i12)).mono fun e_ w2_ h_ => ⟨h_.1.trans (cE q12), h_.2⟩) ?_)
      refine g25 ?_
      refine g4 ?_
      refine aJ rfl rfl ?_
      refine g7 ?_
      exact aD (.inl rfl) rfl (aA rfl) fun w_ s_ => ⟨_, (by first | (intro h_; cases h_; done) | exact fun _ => ⟨t1, t2, t3, t4, t5, t6, t7, t8, .inl rfl⟩), rfl, s_.aGm⟩
    ·refine gL (cvo (v := .bool false) rfl (fun w_ s_ => (cR r.mday x.p11 x.c11 1 31 true hc.c11 oM oM oM w_ (bY s_ hin.i11)).mono fun e_ w2_ h_ => ⟨h_.1.trans (cE q11), h_.2⟩) ?_)
     refine g30 ?_
     refine g5 ?_
     refine aJ rfl rfl ?_
     refine g7 ?_
     exact aD (.inl rfl) rfl (aA rfl) fun w_ s_ => ⟨_, (by first | (intro h_; cases h_; done) | exact fun _ => ⟨t1, t2, t3, t4, t5, t6, t7, t8, .inl rfl⟩), rfl, s_.aGm⟩
   ·refine gL (cvo (v := .bool false) rfl (fun w_ s_ => (cR r.month x.p10 x.c10 1 12 false hc.c10 oM oM oM w_ (bY s_ hin.i10)).mono fun e_ w2_ h_ => ⟨h_.1.trans (cE q10), h_.2⟩) ?_)
    refine g40 ?_
    refine g1 ?_
    refine aJ rfl rfl ?_
    refine g7 ?_
    exact aD (.inl rfl) rfl (aA rfl) fun w_ s_ => ⟨_, (by first | (intro h_; cases h_; done) | exact fun _ => ⟨t1, t2, t3, t4, t5, t6, t7, t8, .inl rfl⟩), rfl, s_.aGm⟩
  ·refine gL (cvo (v := .bool false) rfl (fun w_ s_ => (cR r.setpos x.p9 x.c9 1 366 true hc.c9 oM oM oM w_ (bY s_ hin.i9)).mono fun e_ w2_ h_ => ⟨h_.1.trans (cE q9), h_.2⟩) ?_)
   refine g40 ?_
   refine g5 ?_
   refine aJ rfl rfl ?_
   refine g7 ?_
   exact aD (.inl rfl) rfl (aA rfl) fun w_ s_ => ⟨_, (by first | (intro h_; cases h_; done) | exact fun _ => ⟨t1, t2, t3, t4, t5, t6, t7, t8, .inl rfl⟩), rfl, s_.aGm⟩
 rintro u t3
 show GC _ _ _ _ [(1, pT b1)] _ _ ([(50, b1)]) (aP 50 0 (cI r x) ++ []) ([])
 refine dG (ι := (Unit)) (fun u => (Rt4 r)) (fun u => [(1, pT b1)]) (fun u => [(50, b1)]) (fun u => aP 50 0 (cI r x) ++ []) (fun u => []) ?_ ?_
 ·refine g2 ?_
  refine rl (rfa 17) ?_
  refine rl (rld 50 rfl rfl rfl) ?_
  refine g5 ?_
  refine bK (ι := (Nat)) (fun k => r.easter.length - k) (fun k => (k ≤ r.easter.length) ∧ (∀ i y, i < k → r.easter[i]? = some y → EOk r i y)) (fun k => [(1, pT b1), (135, .slice x.p18 r.easter.length x.c18), (136, iV (r.easter.length)), (137, iV k)]) (fun k => [(50, b1)]) (fun k => aP 50 0 (cI r x) ++ []) (fun k => []) 0 ⟨Nat.zero_le _, fun i y h => absurd h (Nat.not_lt_zero _)⟩ kns (fun w s => by exact s) ?_
  rintro k ⟨hk, hE⟩
  show GC _ _ _ _ [(1, pT b1), (135, .slice x.p18 r.easter.length x.c18), (136, iV (r.easter.length)), (137, iV k)] _ _ ([(50, b1)]) (aP 50 0 (cI r x) ++ []) ([])
  refine g6 ?_
  refine aE rfl (fun hc1 => ?_) (fun hc2 => ?_)
  ·have hlt : k < r.easter.length := by have := oT hc1; omega
   obtain ⟨y, hy⟩ : ∃ y, r.easter[k]? = some y := ⟨_, List.getElem?_eq_getElem hlt⟩
   obtain ⟨b_, o_, hp0, hcell⟩ := hIE k y hy
   have hI18 : Ints w (.slice (some ⟨b_, o_, none⟩) r.easter.length x.c18) r.easter := hp0 ▸ hin.i18
   refine g7 ?_
   refine rl (aI (e := 3) (n := 1) kR (congrArg (fun p => some (Value.slice p _ _)) hp0) rfl oM oM) ?_
   refine rl (eK rfl (v := iV y) (by rw [← hcell]; congr 2; omega) (fun h => h) kR) ?_
   refine g7 ?_
   rcases Decidable.em (y < -80) with h0 | h0
   ·refine rl ((cW rfl rfl).to bT) ?_
    refine g18 ?_
    refine g1 ?_
    refine aJ rfl rfl ?_
    refine g11 ?_
    exact aD (.inl rfl) rfl (aA rfl) fun w_ s_ => ⟨_, (by first | (intro h_; cases h_; done) | exact fun _ => ⟨t1, t2, t3, t4, t5, t6, t7, t8, .inl rfl⟩), rfl, s_.aGm⟩
   ·refine rl ((cW rfl rfl).to bF) ?_
    refine g4 ?_
    rcases Decidable.em (200 < y) with h1 | h1
    ·refine rl ((cQ rfl rfl).to bT) ?_
     refine g16 ?_
     refine aJ rfl rfl ?_
     refine g11 ?_
     exact aD (.inl rfl) rfl (aA rfl) fun w_ s_ => ⟨_, (by first | (intro h_; cases h_; done) | exact fun _ => ⟨t1, t2, t3, t4, t5, t6, t7, t8, .inl rfl⟩), rfl, s_.aGm⟩
    ·refine rl ((cQ rfl rfl).to bF) ?_
     refine g3 ?_
     refine rl (rfa 17) ?_
     refine g1 ?_
     refine rl (rld 50 rfl rfl rfl) ?_
     refine g3 ?_
     refine rl ((dM (e := 3) (n := 1) kR rfl rfl oM (by have := hc.c18; omega)).to (v' := .slice (some ⟨b_, o_, none⟩) k x.c18) (by rw [hp0]; rfl)) ?_
     refine g3 ?_
     rcases Bool.eq_false_or_eq_true ((r.easter.take k).any (· == y)) with hno | hno
     ·refine gL (cvo (v := .bool true) rfl (fun w_ s_ => (fH (r.easter.take k) y _ (by rw [List.length_take]; omega) w_ (mI (bY s_ hI18) (Nat.le_of_lt hlt))).mono fun e_ w2_ h_ => ⟨h_.1.trans (cE hno), h_.2⟩) ?_)
      refine g8 ?_
      refine aJ rfl rfl ?_
      refine g11 ?_
      exact aD (.inl rfl) rfl (aA rfl) fun w_ s_ => ⟨_, (by first | (intro h_; cases h_; done) | exact fun _ => ⟨t1, t2, t3, t4, t5, t6, t7, t8, .inl rfl⟩), rfl, s_.aGm⟩
     ·refine gL (cvo (v := .bool false) rfl (fun w_ s_ => (fH (r.easter.take k) y _ (by rw [List.length_take]; omega) w_ (mI (bY s_ hI18) (Nat.le_of_lt hlt))).mono fun e_ w2_ h_ => ⟨h_.1.trans (cE hno), h_.2⟩) ?_)
      refine g3 ?_
      refine rl (rfa 0) ?_
      refine g1 ?_
      refine rl (rld 50 rfl rfl rfl) ?_
      refine g1 ?_
      rcases Decidable.em (r.freq ≠ 0) with h2 | h2
      ·refine rl ((bX rfl rfl).to (v' := .bool true) (cB (iE oM))) ?_
       refine g3 ?_
       refine aJ rfl rfl ?_
       refine g11 ?_
       exact aD (.inl rfl) rfl (aA rfl) fun w_ s_ => ⟨_, (by first | (intro h_; cases h_; done) | exact fun _ => ⟨t1, t2, t3, t4, t5, t6, t7, t8, .inl rfl⟩), rfl, s_.aGm⟩
      ·refine rl ((bX rfl rfl).to (v' := .bool false) (cB (iF oM))) ?_
       refine g3 ?_
       refine aB rfl rfl ?_
       refine g7 ?_
       refine aV (k + 1) oM ⟨by omega, fun i y' hi_ hy_ => by
         rcases Nat.lt_or_ge i k with h_ | h_
         ·exact hE i y' h_ hy_
         ·obtain rfl : i = k := by omega
          obtain rfl : y' = y := by rw [hy] at hy_; injection hy_ with e_; exact e_.symm
          exact ⟨by omega, by omega, by omega, hno⟩⟩ kns (fun w s => by exact s)
  ·obtain rfl : k = r.easter.length := by have := oF hc2; omega
   refine g4 ?_
   refine aU (ι := Unit) () (fun i y hy => hE i y (by have := (List.getElem?_eq_some_iff.1 hy).1; omega) hy) kns (fun w s => s)
 rintro u t4
 show GC _ _ _ _ [(1, pT b1)] _ _ ([(50, b1)]) (aP 50 0 (cI r x) ++ []) ([])
 refine dG (ι := (Unit)) (fun u => (Rt5 r)) (fun u => [(1, pT b1)]) (fun u => [(50, b1)]) (fun u => aP 50 0 (cI r x) ++ []) (fun u => []) ?_ ?_
 ·refine g2 ?_
  refine rl (rfa 0) ?_
  refine rl (rld 50 rfl rfl rfl) ?_
  rcases Decidable.em (r.freq ≠ 0) with h0 | h0
  ·refine rl ((bX rfl rfl).to (v' := .bool true) (cB (iE oM))) ?_
   refine g2 ?_
   refine rl (rfa 12) ?_
   refine g1 ?_
   refine rl (rld 50 rfl rfl rfl) ?_
   refine g3 ?_
   rcases Decidable.em (0 < r.weekno.length) with h1 | h1
   ·refine rl ((cQ rfl rfl).to bT) ?_
    refine g20 ?_
    refine g2 ?_
    refine aJ rfl rfl ?_
    refine g7 ?_
    exact aD (.inl rfl) rfl (aA rfl) fun w_ s_ => ⟨_, (by first | (intro h_; cases h_; done) | exact fun _ => ⟨t1, t2, t3, t4, t5, t6, t7, t8, .inl rfl⟩), rfl, s_.aGm⟩
   ·refine rl ((cQ rfl rfl).to bF) ?_
    refine g3 ?_
    refine rl (rfa 11) ?_
    refine g1 ?_
    refine rl (rld 50 rfl rfl rfl) ?_
    refine g3 ?_
    rcases Decidable.em (0 < r.yday.length) with h2 | h2
    ·refine rl ((cQ rfl rfl).to bT) ?_
     refine g16 ?_
     refine aJ rfl rfl ?_
     refine g7 ?_
     exact aD (.inl rfl) rfl (aA rfl) fun w_ s_ => ⟨_, (by first | (intro h_; cases h_; done) | exact fun _ => ⟨t1, t2, t3, t4, t5, t6, t7, t8, .inl rfl⟩), rfl, s_.aGm⟩
    ·refine rl ((cQ rfl rfl).to bF) ?_
     refine g5 ?_
     refine rl (rfa 0) ?_
     refine g1 ?_
     refine rl (rld 50 rfl rfl rfl) ?_
     refine g1 ?_
     rcases Decidable.em (r.freq = 2) with h3 | h3
     ·refine rl ((aY rfl rfl).to eT) ?_
      refine g3 ?_
      refine rl (rfa 10) ?_
      refine g1 ?_
      refine rl (rld 50 rfl rfl rfl) ?_
      refine g3 ?_
      rcases Decidable.em (0 < r.mday.length) with h4 | h4
      ·refine rl ((cQ rfl rfl).to bT) ?_
       refine g5 ?_
       refine aJ rfl rfl ?_
       refine g7 ?_
       exact aD (.inl rfl) rfl (aA rfl) fun w_ s_ => ⟨_, (by first | (intro h_; cases h_; done) | exact fun _ => ⟨t1, t2, t3, t4, t5, t6, t7, t8, .inl rfl⟩), rfl, s_.aGm⟩
      ·refine rl ((cQ rfl rfl).to bF) ?_
       refine g5 ?_
       refine aB rfl rfl ?_
       refine g1 ?_
       refine aU (ι := Unit) () (⟨fun h_ => by omega, fun h_ => by omega⟩) kns (fun w s => s)
     ·refine rl ((aY rfl rfl).to eF) ?_
      refine g11 ?_
      refine aB rfl rfl ?_
      refine g1 ?_
      refine aU (ι := Unit) () (⟨fun h_ => by omega, fun h_ => by omega⟩) kns (fun w s => s)
  ·refine rl ((bX rfl rfl).to (v' := .bool false) (cB (iF oM))) ?_
   refine g14 ?_
   refine rl (rfa 0) ?_
   refine g1 ?_
   refine rl (rld 50 rfl rfl rfl) ?_
   refine g1 ?_
   rcases Decidable.em (r.freq = 2) with h3 | h3
   ·refine rl ((aY rfl rfl).to eT) ?_
    refine g3 ?_
    refine rl (rfa 10) ?_
    refine g1 ?_
    refine rl (rld 50 rfl rfl rfl) ?_
    refine g3 ?_
    rcases Decidable.em (0 < r.mday.length) with h4 | h4
    ·refine rl ((cQ rfl rfl).to bT) ?_
     refine g5 ?_
     refine aJ rfl rfl ?_
     refine g7 ?_
     exact aD (.inl rfl) rfl (aA rfl) fun w_ s_ => ⟨_, (by first | (intro h_; cases h_; done) | exact fun _ => ⟨t1, t2, t3, t4, t5, t6, t7, t8, .inl rfl⟩), rfl, s_.aGm⟩
    ·refine rl ((cQ rfl rfl).to bF) ?_
     refine g5 ?_
     refine aB rfl rfl ?_
     refine g1 ?_
     refine aU (ι := Unit) () (⟨fun h_ => by omega, fun h_ => by omega⟩) kns (fun w s => s)
   ·refine rl ((aY rfl rfl).to eF) ?_
    refine g11 ?_
    refine aB rfl rfl ?_
    refine g1 ?_
    refine aU (ι := Unit) () (⟨fun h_ => by omega, fun h_ => by omega⟩) kns (fun w s => s)
 rintro u t5
 show GC _ _ _ _ [(1, pT b1)] _ _ ([(50, b1)]) (aP 50 0 (cI r x) ++ []) ([])
 refine dG (ι := (Unit)) (fun u => (Rt6 r)) (fun u => [(1, pT b1)]) (fun u => [(50, b1)]) (fun u => aP 50 0 (cI r x) ++ []) (fun u => []) ?_ ?_
 ·refine g2 ?_
  refine rl (rfa 13) ?_
  refine rl (rld 50 rfl rfl rfl) ?_
  refine g5 ?_
  refine bK (ι := (Nat)) (fun k => r.wday.length - k) (fun k => (k ≤ r.wday.length) ∧ (∀ i y, i < k → r.wday[i]? = some y → DOk r i y)) (fun k => [(1, pT b1), (189, .slice x.p14 r.wday.length x.c14), (190, iV (r.wday.length)), (191, iV k)]) (fun k => [(50, b1)]) (fun k => aP 50 0 (cI r x) ++ []) (fun k => []) 0 ⟨Nat.zero_le _, fun i y h => absurd h (Nat.not_lt_zero _)⟩ kns (fun w s => by exact s) ?_
  rintro k ⟨hk, hE⟩
  show GC _ _ _ _ [(1, pT b1), (189, .slice x.p14 r.wday.length x.c14), (190, iV (r.wday.length)), (191, iV k)] _ _ ([(50, b1)]) (aP 50 0 (cI r x) ++ []) ([])
  refine g6 ?_
  refine aE rfl (fun hc1 => ?_) (fun hc2 => ?_)
  ·have hlt : k < r.wday.length := by have := oT hc1; omega
   obtain ⟨y, hy⟩ : ∃ y, r.wday[k]? = some y := ⟨_, List.getElem?_eq_getElem hlt⟩
   obtain ⟨y0, hy0⟩ : ∃ y0, r.wday[0]? = some y0 := ⟨_, List.getElem?_eq_getElem (show 0 < r.wday.length by omega)⟩
   obtain ⟨b_, o_, hp0, hca, hcb⟩ := hID k y hy
   obtain ⟨b0, o0, hp00, hca0, hcb0⟩ := hID 0 y0 hy0
   have hI14 : Prs w (.slice (some ⟨b_, o_, none⟩) r.wday.length x.c14) r.wday := hp0 ▸ hin.i14
   refine g7 ?_
   refine rl (aI (e := 47) (n := 2) kR (congrArg (fun p => some (Value.slice p _ _)) hp0) rfl oM oM) ?_
   refine rl (gM rfl (by rw [← hca]; congr 2; omega) (by rw [← hcb]; congr 2; omega) (fun h => h) kR) ?_
   refine gL (dT 51 (cs := [iV 0, iV 0]) dE kR rfl (fun o ho => by repeat (first | rfl | rw [bB dE ho _ _ ble])) ble (fun b2_ hb2_ => ?_))
   refine g1 ?_
   refine gL (sta 51 rfl rfl rfl rfl ?_)
   refine g7 ?_
   refine dG (ι := (Int)) (fun m1 => (m1 = lO r)) (fun m1 => [(1, pT b1), (189, .slice x.p14 r.wday.length x.c14), (190, iV (r.wday.length)), (191, iV k), (5, iV k), (6, pT b2_), (7, iV m1)]) (fun m1 => [(51, b2_), (50, b1)]) (fun m1 => (cM 51 0 #[iV y.1, iV y.2].toList (aP 51 0 [iV 0, iV 0] ++ (aP 50 0 (cI r x) ++ [])))) (fun m1 => []) ?_ ?_
   ·refine g2 ?_
    refine rl (rfa 0) ?_
    refine rl (rld 50 rfl rfl rfl) ?_
    rcases Decidable.em (r.freq = 1) with h0 | h0
    ·refine rl ((aY rfl rfl).to eT) ?_
     refine g13 ?_
     refine aJ rfl rfl ?_
     refine g3 ?_
     refine aU (ι := Int) (5) (by unfold lO; rw [if_pos oM]) kno (fun w s => s)
    ·refine rl ((aY rfl rfl).to eF) ?_
     refine g2 ?_
     refine rl (rfa 0) ?_
     refine g1 ?_
     refine rl (rld 50 rfl rfl rfl) ?_
     refine g1 ?_
     rcases Decidable.em (r.freq = 0) with h1 | h1
     ·refine rl ((aY rfl rfl).to eT) ?_
      refine g3 ?_
      refine rl (rfa 9) ?_
      refine g1 ?_
      refine rl (rld 50 rfl rfl rfl) ?_
      refine g3 ?_
      rcases Decidable.em (0 < r.month.length) with h2 | h2
      ·refine rl ((cQ rfl rfl).to bT) ?_
       refine g5 ?_
       refine aJ rfl rfl ?_
       refine g3 ?_
       refine aU (ι := Int) (5) (by unfold lO; rw [if_pos oM]) kno (fun w s => s)
      ·refine rl ((cQ rfl rfl).to bF) ?_
       refine g5 ?_
       refine aB rfl rfl ?_
       refine g2 ?_
       refine rl (rfa 0) ?_
       refine rl (rld 50 rfl rfl rfl) ?_
       refine g3 ?_
       refine aE rfl (fun hc1 => ?_) (fun hc2 => ?_)
       ·have h3 : r.freq = 0 := beq_iff_eq.1 hc1
        refine g3 ?_
        refine aU (ι := Int) (53) (by unfold lO; rw [if_neg oM, if_pos h3]) kno (fun w s => s)
       ·have h3 : r.freq ≠ 0 := beq_eq_false_iff_ne.1 hc2
        refine g1 ?_
        refine aU (ι := Int) (0) (by unfold lO; rw [if_neg oM, if_neg h3]) kno (fun w s => s)
     ·refine rl ((aY rfl rfl).to eF) ?_
      refine g11 ?_
      refine aB rfl rfl ?_
      refine g2 ?_
      refine rl (rfa 0) ?_
      refine rl (rld 50 rfl rfl rfl) ?_
      refine g3 ?_
      refine aE rfl (fun hc1 => ?_) (fun hc2 => ?_)
      ·have h3 : r.freq = 0 := beq_iff_eq.1 hc1
       refine g3 ?_
       refine aU (ι := Int) (53) (by unfold lO; rw [if_neg oM, if_pos h3]) kno (fun w s => s)
      ·have h3 : r.freq ≠ 0 := beq_eq_false_iff_ne.1 hc2
       refine g1 ?_
       refine aU (ι := Int) (0) (by unfold lO; rw [if_neg oM, if_neg h3]) kno (fun w s => s)
   rintro m1 hm1
   show GC _ _ _ _ [(1, pT b1), (189, .slice x.p14 r.wday.length x.c14), (190, iV (r.wday.length)), (191, iV k), (5, iV k), (6, pT b2_), (7, iV m1)] _ _ ([(51, b2_), (50, b1)]) ((cM 51 0 #[iV y.1, iV y.2].toList (aP 51 0 [iV 0, iV 0] ++ (aP 50 0 (cI r x) ++ [])))) ([])
   have hbm1 : 0 ≤ m1 ∧ m1 ≤ 53 := by rw [hm1]; unfold lO; repeat (first | omega | split)
   refine dG (ι := (Int)) (fun m => (m = pG r)) (fun m => [(1, pT b1), (189, .slice x.p14 r.wday.length x.c14), (190, iV (r.wday.length)), (191, iV k), (5, iV k), (6, pT b2_), (7, iV m)]) (fun m => [(51, b2_), (50, b1)]) (fun m => (cM 51 0 #[iV y.1, iV y.2].toList (aP 51 0 [iV 0, iV 0] ++ (aP 50 0 (cI r x) ++ [])))) (fun m => []) ?_ ?_
   ·refine g2 ?_
    refine rl (rfa 12) ?_
    refine rl (rld 50 rfl rfl rfl) ?_
    refine g4 ?_
    refine aE rfl (fun hc1 => ?_) (fun hc2 => ?_)
    ·have h4 : 0 < r.weekno.length := by have := oT hc1; omega
     refine g3 ?_
     refine aU (ι := Int) (0) (by unfold pG; rw [if_pos h4]) kno (fun w s => s)
    ·have h4 : ¬ 0 < r.weekno.length := by have := oF hc2; omega
     refine g1 ?_
     refine aU (ι := Int) (m1) (by unfold pG; rw [if_neg h4]; exact hm1) kno (fun w s => s)
   rintro m hm
   show GC _ _ _ _ [(1, pT b1), (189, .slice x.p14 r.wday.length x.c14), (190, iV (r.wday.length)), (191, iV k), (5, iV k), (6, pT b2_), (7, iV m)] _ _ ([(51, b2_), (50, b1)]) ((cM 51 0 #[iV y.1, iV y.2].toList (aP 51 0 [iV 0, iV 0] ++ (aP 50 0 (cI r x) ++ [])))) ([])
   have hbm : 0 ≤ m ∧ m ≤ 53 := by rw [hm]; unfold pG lO; repeat (first | omega | split)
   refine g3 ?_
   refine rq (rfa 1) ?_
   refine rq (rld 51 rfl rfl rfl) ?_
   rcases Decidable.em (y.2 = 0) with hz | hz
   ·refine rq ((aY rfl rfl).to eT) ?_
    refine rq (rfa 13) ?_
    refine rq (rld 50 rfl rfl rfl) ?_
    refine rq (aI (e := 47) (n := 2) kR (congrArg (fun p => some (Value.slice p _ _)) hp00) rfl oM oM) ?_
    refine rq (rfa 1) ?_
    refine rq (eK rfl (v := iV y0.2) (by rw [← hcb0]; congr 2 <;> omega) (fun h => h) kR) ?_
    rcases Decidable.em (y0.2 = 0) with hz0 | hz0
    ·refine rq ((aY rfl rfl).to eT) ?_
     refine rq ((qG rfl rfl).to (v' := .bool false) rfl) ?_
     refine g2 ?_
     refine aB rfl rfl ?_
     refine g4 ?_
     refine rq (rfa 0) ?_
     refine rq (rld 51 rfl rfl rfl) ?_
     rcases Decidable.em (y.1 < 0) with g0 | g0
     ·refine rq ((cW rfl rfl).to bT) ?_
      refine g30 ?_
      refine g2 ?_
      refine aJ rfl rfl ?_
      refine g11 ?_
      exact aD (.inl rfl) rfl (aA rfl) fun w_ s_ => ⟨_, (by first | (intro h_; cases h_; done) | exact fun _ => ⟨t1, t2, t3, t4, t5, t6, t7, t8, .inl rfl⟩), rfl, s_.aGm⟩
     ·refine rq ((cW rfl rfl).to bF) ?_
      refine g2 ?_
      refine rq (rfa 0) ?_
      refine g1 ?_
      refine rq (rld 51 rfl rfl rfl) ?_
      refine g1 ?_
      rcases Decidable.em (6 < y.1) with g1_ | g1_
      ·refine rq ((cQ rfl rfl).to bT) ?_
       refine g25 ?_
       refine g3 ?_
       refine aJ rfl rfl ?_
       refine g11 ?_
       exact aD (.inl rfl) rfl (aA rfl) fun w_ s_ => ⟨_, (by first | (intro h_; cases h_; done) | exact fun _ => ⟨t1, t2, t3, t4, t5, t6, t7, t8, .inl rfl⟩), rfl, s_.aGm⟩
      ·refine rq ((cQ rfl rfl).to bF) ?_
       refine g3 ?_
       refine rq (rfa 1) ?_
       refine g1 ?_
       refine rq (rld 51 rfl rfl rfl) ?_
       refine g5 ?_
       rcases Decidable.em (y.2 < -m) with g2_ | g2_
       ·refine rq ((cW rfl rfl).to bT) ?_
        refine g20 ?_
        refine g1 ?_
        refine aJ rfl rfl ?_
        refine g11 ?_
        exact aD (.inl rfl) rfl (aA rfl) fun w_ s_ => ⟨_, (by first | (intro h_; cases h_; done) | exact fun _ => ⟨t1, t2, t3, t4, t5, t6, t7, t8, .inl rfl⟩), rfl, s_.aGm⟩
       ·refine rq ((cW rfl rfl).to bF) ?_
        refine g3 ?_
        refine rq (rfa 1) ?_
        refine g1 ?_
        refine rq (rld 51 rfl rfl rfl) ?_
        refine g3 ?_
        rcases Decidable.em (m < y.2) with g3_ | g3_
        ·refine rq ((cQ rfl rfl).to bT) ?_
         refine g15 ?_
         refine aJ rfl rfl ?_
         refine g11 ?_
         exact aD (.inl rfl) rfl (aA rfl) fun w_ s_ => ⟨_, (by first | (intro h_; cases h_; done) | exact fun _ => ⟨t1, t2, t3, t4, t5, t6, t7, t8, .inl rfl⟩), rfl, s_.aGm⟩
        ·refine rq ((cQ rfl rfl).to bF) ?_
         refine g3 ?_
         refine rq (rfa 13) ?_
         refine g1 ?_
         refine rq (rld 50 rfl rfl rfl) ?_
         refine g3 ?_
         refine rq ((dM (e := 47) (n := 2) kR rfl rfl oM (by have := hc.c14; omega)).to (v' := .slice (some ⟨b_, o_, none⟩) k x.c14) (by rw [hp0]; rfl)) ?_
         refine g1 ?_
         refine rq (aT 51 rfl rfl rfl rfl kR dE) ?_
         refine g1 ?_
         rcases Bool.eq_false_or_eq_true ((r.wday.take k).any (· == y)) with hno | hno
         ·refine eN (v := .bool true) dE kR rfl (fun w_ s_ => (gV (r.wday.take k) y _ (by rw [List.length_take]; omega) w_ (nP (l8 s_ hI14) (Nat.le_of_lt hlt))).mono fun e_ w2_ h_ => ⟨h_.1.trans (cE hno), h_.2⟩) ?_
          refine g7 ?_
          refine aJ rfl rfl ?_
          refine g11 ?_
          exact aD (.inl rfl) rfl (aA rfl) fun w_ s_ => ⟨_, (by first | (intro h_; cases h_; done) | exact fun _ => ⟨t1, t2, t3, t4, t5, t6, t7, t8, .inl rfl⟩), rfl, s_.aGm⟩
         ·refine eN (v := .bool false) dE kR rfl (fun w_ s_ => (gV (r.wday.take k) y _ (by rw [List.length_take]; omega) w_ (nP (l8 s_ hI14) (Nat.le_of_lt hlt))).mono fun e_ w2_ h_ => ⟨h_.1.trans (cE hno), h_.2⟩) ?_
          refine g5 ?_
          rcases Decidable.em (100 ≤ (k : Int)) with g4_ | g4_
          ·refine rq ((dL rfl rfl).to bT) ?_
           refine g3 ?_
           refine aJ rfl rfl ?_
           refine g11 ?_
           exact aD (.inl rfl) rfl (aA rfl) fun w_ s_ => ⟨_, (by first | (intro h_; cases h_; done) | exact fun _ => ⟨t1, t2, t3, t4, t5, t6, t7, t8, .inl rfl⟩), rfl, s_.aGm⟩
          ·refine rq ((dL rfl rfl).to bF) ?_
           refine g3 ?_
           refine aB rfl rfl ?_
           refine g7 ?_
           refine aV (k + 1) oM ⟨by omega, fun i y' hi_ hy_ => by
             rcases Nat.lt_or_ge i k with h_ | h_
             ·exact hE i y' h_ hy_
             ·obtain rfl : i = k := by omega
              obtain rfl : y' = y := by rw [hy] at hy_; injection hy_ with e_; exact e_.symm
              exact ⟨fun y1 h1 => by rw [hy0] at h1; injection h1 with h1; rw [← h1]; omega, by omega, by rw [hm, hm1] at *; omega, hno, by omega⟩⟩ kns (fun w s => by exact (s.low 51 (by exact ⟨fun k hk => by rw [aO oM]; rfl, fun k hk o ho => by rw [bB oM ho _ _ ble]; rfl, fun _ _ => rfl⟩) agx agx agx))
    ·refine rq ((aY rfl rfl).to eF) ?_
     refine rq ((qG rfl rfl).to (v' := .bool true) rfl) ?_
     refine g2 ?_
     refine aJ rfl rfl ?_
     refine g12 ?_
     exact aD (.inl rfl) rfl (aA rfl) fun w_ s_ => ⟨_, (by first | (intro h_; cases h_; done) | exact fun _ => ⟨t1, t2, t3, t4, t5, t6, t7, t8, .inl rfl⟩), rfl, s_.aGm⟩
   ·refine rq ((aY rfl rfl).to eF) ?_
    refine rq (rfa 13) ?_
    refine rq (rld 50 rfl rfl rfl) ?_
    refine rq (aI (e := 47) (n := 2) kR (congrArg (fun p => some (Value.slice p _ _)) hp00) rfl oM oM) ?_
    refine rq (rfa 1) ?_
    refine rq (eK rfl (v := iV y0.2) (by rw [← hcb0]; congr 2 <;> omega) (fun h => h) kR) ?_
    rcases Decidable.em (y0.2 = 0) with hz0 | hz0
    ·refine rq ((aY rfl rfl).to eT) ?_
     refine rq ((qG rfl rfl).to (v' := .bool true) rfl) ?_
     refine g2 ?_
     refine aJ rfl rfl ?_
     refine g12 ?_
     exact aD (.inl rfl) rfl (aA rfl) fun w_ s_ => ⟨_, (by first | (intro h_; cases h_; done) | exact fun _ => ⟨t1, t2, t3, t4, t5, t6, t7, t8, .inl rfl⟩), rfl, s_.aGm⟩
    ·refine rq ((aY rfl rfl).to eF) ?_
     refine rq ((qG rfl rfl).to (v' := .bool false) rfl) ?_
     refine g2 ?_
     refine aB rfl rfl ?_
     refine g4 ?_
     refine rq (rfa 0) ?_
     refine rq (rld 51 rfl rfl rfl) ?_
     rcases Decidable.em (y.1 < 0) with g0 | g0
     ·refine rq ((cW rfl rfl).to bT) ?_
      refine g30 ?_
      refine g2 ?_
      refine aJ rfl rfl ?_
      refine g11 ?_
      exact aD (.inl rfl) rfl (aA rfl) fun w_ s_ => ⟨_, (by first | (intro h_; cases h_; done) | exact fun _ => ⟨t1, t2, t3, t4, t5, t6, t7, t8, .inl rfl⟩), rfl, s_.aGm⟩
     ·refine rq ((cW rfl rfl).to bF) ?_
      refine g2 ?_
      refine rq (rfa 0) ?_
      refine g1 ?_
      refine rq (rld 51 rfl rfl rfl) ?_
      refine g1 ?_
      rcases Decidable.em (6 < y.1) with g1_ | g1_
      ·refine rq ((cQ rfl rfl).to bT) ?_
       refine g25 ?_
       refine g3 ?_
       refine aJ rfl rfl ?_
       refine g11 ?_
       exact aD (.inl rfl) rfl (aA rfl) fun w_ s_ => ⟨_, (by first | (intro h_; cases h_; done) | exact fun _ => ⟨t1, t2, t3, t4, t5, t6, t7, t8, .inl rfl⟩), rfl, s_.aGm⟩
      ·refine rq ((cQ rfl rfl).to bF) ?_
       refine g3 ?_
       refine rq (rfa 1) ?_
       refine g1 ?_
       refine rq (rld 51 rfl rfl rfl) ?_
       refine g5 ?_
       rcases Decidable.em (y.2 < -m) with g2_ | g2_
       ·refine rq ((cW rfl rfl).to bT) ?_
        refine g20 ?_
        refine g1 ?_
        refine aJ rfl rfl ?_
        refine g11 ?_
        exact aD (.inl rfl) rfl (aA rfl) fun w_ s_ => ⟨_, (by first | (intro h_; cases h_; done) | exact fun _ => ⟨t1, t2, t3, t4, t5, t6, t7, t8, .inl rfl⟩), rfl, s_.aGm⟩
       ·refine rq ((cW rfl rfl).to bF) ?_
        refine g3 ?_
        refine rq (rfa 1) ?_
        refine g1 ?_
        refine rq (rld 51 rfl rfl rfl) ?_
        refine g3 ?_
        rcases Decidable.em (m < y.2) with g3_ | g3_
        ·refine rq ((cQ rfl rfl).to bT) ?_
         refine g15 ?_
         refine aJ rfl rfl ?_
         refine g11 ?_
         exact aD (.inl rfl) rfl (aA rfl) fun w_ s_ => ⟨_, (by first | (intro h_; cases h_; done) | exact fun _ => ⟨t1, t2, t3, t4, t5, t6, t7, t8, .inl rfl⟩), rfl, s_.aGm⟩
        ·refine rq ((cQ rfl rfl).to bF) ?_
         refine g3 ?_
         refine rq (rfa 13) ?_
         refine g1 ?_
         refine rq (rld 50 rfl rfl rfl) ?_
         refine g3 ?_
         refine rq ((dM (e := 47) (n := 2) kR rfl rfl oM (by have := hc.c14; omega)).to (v' := .slice (some ⟨b_, o_, none⟩) k x.c14) (by rw [hp0]; rfl)) ?_
         refine g1 ?_
         refine rq (aT 51 rfl rfl rfl rfl kR dE) ?_
         refine g1 ?_
         rcases Bool.eq_false_or_eq_true ((r.wday.take k).any (· == y)) with hno | hno
         ·refine eN (v := .bool true) dE kR rfl (fun w_ s_ => (gV (r.wday.take k) y _ (by rw [List.length_take]; omega) w_ (nP (l8 s_ hI14) (Nat.le_of_lt hlt))).mono fun e_ w2_ h_ => ⟨h_.1.trans (cE hno), h_.2⟩) ?_
          refine g7 ?_
          refine aJ rfl rfl ?_
          refine g11 ?_
          exact aD (.inl rfl) rfl (aA rfl) fun w_ s_ => ⟨_, (by first | (intro h_; cases h_; done) | exact fun _ => ⟨t1, t2, t3, t4, t5, t6, t7, t8, .inl rfl⟩), rfl, s_.aGm⟩
         ·refine eN (v := .bool false) dE kR rfl (fun w_ s_ => (gV (r.wday.take k) y _ (by rw [List.length_take]; omega) w_ (nP (l8 s_ hI14) (Nat.le_of_lt hlt))).mono fun e_ w2_ h_ => ⟨h_.1.trans (cE hno), h_.2⟩) ?_
          refine g5 ?_
          rcases Decidable.em (100 ≤ (k : Int)) with g4_ | g4_
          ·refine rq ((dL rfl rfl).to bT) ?_
           refine g3 ?_
           refine aJ rfl rfl ?_
           refine g11 ?_
           exact aD (.inl rfl) rfl (aA rfl) fun w_ s_ => ⟨_, (by first | (intro h_; cases h_; done) | exact fun _ => ⟨t1, t2, t3, t4, t5, t6, t7, t8, .inl rfl⟩), rfl, s_.aGm⟩
          ·refine rq ((dL rfl rfl).to bF) ?_
           refine g3 ?_
           refine aB rfl rfl ?_
           refine g7 ?_
           refine aV (k + 1) oM ⟨by omega, fun i y' hi_ hy_ => by
             rcases Nat.lt_or_ge i k with h_ | h_
             ·exact hE i y' h_ hy_
             ·obtain rfl : i = k := by omega
              obtain rfl : y' = y := by rw [hy] at hy_; injection hy_ with e_; exact e_.symm
              exact ⟨fun y1 h1 => by rw [hy0] at h1; injection h1 with h1; rw [← h1]; omega, by omega, by rw [hm, hm1] at *; omega, hno, by omega⟩⟩ kns (fun w s => by exact (s.low 51 (by exact ⟨fun k hk => by rw [aO oM]; rfl, fun k hk o ho => by rw [bB oM ho _ _ ble]; rfl, fun _ _ => rfl⟩) agx agx agx))
  ·obtain rfl : k = r.wday.length := by have := oF hc2; omega
   refine g4 ?_
   refine aU (ι := Unit) () (fun i y hy => hE i y (by have := (List.getElem?_eq_some_iff.1 hy).1; omega) hy) kns (fun w s => s)
 rintro u t6
 show GC _ _ _ _ [(1, pT b1)] _ _ ([(50, b1)]) (aP 50 0 (cI r x) ++ []) ([])
 refine dG (ι := (Unit)) (fun u => (Rt7 r)) (fun u => [(1, pT b1)]) (fun u => [(50, b1)]) (fun u => aP 50 0 (cI r x) ++ []) (fun u => []) ?_ ?_
 ·refine g2 ?_
  refine rq (rfa 0) ?_
  refine rq (rld 50 rfl rfl rfl) ?_
  rcases Decidable.em (r.freq = 2) with h0 | h0
  ·refine rq ((aY rfl rfl).to eT) ?_
   refine g2 ?_
   refine rq (rfa 8) ?_
   refine g1 ?_
   refine rq (rld 50 rfl rfl rfl) ?_
   refine g3 ?_
   rcases Decidable.em (0 < r.setpos.length) with h1 | h1
   ·refine rq ((cQ rfl rfl).to bT) ?_
    refine g3 ?_
    refine rq (rfa 2) ?_
    refine g1 ?_
    refine rq (rld 50 rfl rfl rfl) ?_
    refine g3 ?_
    refine eN dE kR rfl (fun w_ s_ => qW _ oM w_) ?_
    refine g1 ?_
    refine rq (rfa 4) ?_
    refine g1 ?_
    refine rq (rld 50 rfl rfl rfl) ?_
    refine g1 ?_
    rcases Decidable.em (r.start / 86400 % 7 ≠ r.wkst) with h2 | h2
    ·refine rq ((bX rfl rfl).to (v' := .bool true) (cB (iE oM))) ?_
     refine g3 ?_
     refine aJ rfl rfl ?_
     refine g7 ?_
     exact aD (.inl rfl) rfl (aA rfl) fun w_ s_ => ⟨_, (by first | (intro h_; cases h_; done) | exact fun _ => ⟨t1, t2, t3, t4, t5, t6, t7, t8, .inl rfl⟩), rfl, s_.aGm⟩
    ·refine rq ((bX rfl rfl).to (v' := .bool false) (cB (iF oM))) ?_
     refine g3 ?_
     refine aB rfl rfl ?_
     refine g1 ?_
     refine aU (ι := Unit) () (fun _ _ => by omega) kns (fun w s => s)
   ·refine rq ((cQ rfl rfl).to bF) ?_
    refine g12 ?_
    refine aB rfl rfl ?_
    refine g1 ?_
    refine aU (ι := Unit) () (fun _ h_ => absurd h_ h1) kns (fun w s => s)
  ·refine rq ((aY rfl rfl).to eF) ?_
   refine g16 ?_
   refine g1 ?_
   refine aB rfl rfl ?_
   refine g1 ?_
   refine aU (ι := Unit) () (fun h_ => absurd h_ h0) kns (fun w s => s)
 rintro u t7
 show GC _ _ _ _ [(1, pT b1)] _ _ ([(50, b1)]) (aP 50 0 (cI r x) ++ []) ([])
 refine dG (ι := (Unit)) (fun u => (Rt8 r)) (fun u => [(1, pT b1)]) (fun u => [(50, b1)]) (fun u => aP 50 0 (cI r x) ++ []) (fun u => []) ?_ ?_
 ·refine g2 ?_
  refine rl (rfa 0) ?_
  refine rl (rld 50 rfl rfl rfl) ?_
  rcases Decidable.em (4 ≤ r.freq) with h0 | h0
  ·refine rl ((dL rfl rfl).to bT) ?_
   refine g2 ?_
   refine rl ((fZ 50 (cs := cI r x) rfl rfl (gW (cI r x) 0 ble) ble kR)) ?_
   refine g1 ?_
   refine gL (cbx (fun b : Bool => .bool b) (fun b => b = true → xJ r) rfl (fun w_ s_ => u5 r x oM t1.interval oM ⟨l9, l10, l11, l12, l13, l14, l15, l16, l17, l18⟩ w_ (InL.see s_ hin)) (fun mb hmb => ?_))
   refine g1 ?_
   rcases Bool.eq_false_or_eq_true ((!mb)) with hm | hm
   ·refine rl ((gZ rfl).to (v' := .bool true) (cB hm)) ?_
    refine g3 ?_
    refine aJ rfl rfl ?_
    refine g7 ?_
    exact aD (.inl rfl) rfl (aA rfl) fun w_ s_ => ⟨_, (by first | (intro h_; cases h_; done) | exact fun _ => ⟨t1, t2, t3, t4, t5, t6, t7, t8, .inl rfl⟩), rfl, s_.aGm⟩
   ·refine rl ((gZ rfl).to (v' := .bool false) (cB hm)) ?_
    refine g3 ?_
    refine aB rfl rfl ?_
    refine g1 ?_
    refine aU (ι := Unit) () (fun _ => hmb (by simpa using hm)) kns (fun w s => s)
  ·refine rl ((dL rfl rfl).to bF) ?_
   refine g7 ?_
   refine aB rfl rfl ?_
   refine g1 ?_
   refine aU (ι := Unit) () (fun h_ => absurd h_ h0) kns (fun w s => s)
 rintro u t8
 show GC _ _ _ _ [(1, pT b1)] _ _ ([(50, b1)]) (aP 50 0 (cI r x) ++ []) ([])
 refine g2 ?_
 refine rl (rfa 9) ?_
 refine rl (rld 50 rfl rfl rfl) ?_
 refine g1 ?_
 refine rl (rfa 10) ?_
 refine rl (rld 50 rfl rfl rfl) ?_
 refine g2 ?_
 refine rl (rfa 11) ?_
 refine rl (rld 50 rfl rfl rfl) ?_
 refine g2 ?_
 refine rl (rfa 12) ?_
 refine rl (rld 50 rfl rfl rfl) ?_
 refine g2 ?_
 refine rl (rfa 13) ?_
 refine rl (rld 50 rfl rfl rfl) ?_
 refine g2 ?_
 refine rl (rfa 14) ?_
 refine rl (rld 50 rfl rfl rfl) ?_
 refine g2 ?_
 refine rl (rfa 15) ?_
 refine rl (rld 50 rfl rfl rfl) ?_
 refine g2 ?_
 refine rl (rfa 16) ?_
 refine rl (rld 50 rfl rfl rfl) ?_
 refine g2 ?_
 refine rl (rfa 17) ?_
 refine rl (rld 50 rfl rfl rfl) ?_
 refine g7 ?_
 refine rl (rfa 8) ?_
 refine rl (rld 50 rfl rfl rfl) ?_
 refine g1 ?_
 rcases Decidable.em (r.setpos.length = 0) with h0 | h0
 ·refine rl ((aY rfl rfl).to eT) ?_
  refine g8 ?_
  exact aD (.inl rfl) rfl (aA rfl) fun w_ s_ => ⟨_, (by first | (intro h_; cases h_; done) | exact fun _ => ⟨t1, t2, t3, t4, t5, t6, t7, t8, .inl h0⟩), rfl, s_.aGm⟩
 ·refine rl ((aY rfl rfl).to eF) ?_
  refine g4 ?_
  rcases Decidable.em (0 < (r.month.length : Int) + r.mday.length + r.yday.length + r.weekno.length + r.wday.length + r.hour.length + r.minute.length + r.second.length + r.easter.length) with h1 | h1
  ·refine rl ((cQ rfl rfl).to bT) ?_
   refine g5 ?_
   exact aD (.inl rfl) rfl (aA rfl) fun w_ s_ => ⟨_, (by first | (intro h_; cases h_; done) | exact fun _ => ⟨t1, t2, t3, t4, t5, t6, t7, t8, .inr oM⟩), rfl, s_.aGm⟩
  ·refine rl ((cQ rfl rfl).to bF) ?_
   refine g5 ?_
   exact aD (.inl rfl) rfl (aA rfl) fun w_ s_ => ⟨_, (by first | (intro h_; cases h_; done) | exact fun _ => ⟨t1, t2, t3, t4, t5, t6, t7, t8, .inr oM⟩), rfl, s_.aGm⟩
open Go.Md
def eJ (c st en most : Int) : List Int → List Int → List Int × Bool
 | o, [] => (o, true)
 | o, t :: l => if t < st then eJ c st en most o l else if (o.length : Int) = most ∨ (0 < c ∧ (o.length : Int) = c) ∨ en < t then (o, false) else eJ c st en most (o ++ [t]) l
def o7 (c most : Int) (n : Nat) : Bool := decide ((n : Int) < most) && (c == 0 || decide ((n : Int) < c))
def kI (r : Rul) (st en most : Int) (o l : List Int) : List Int × Bool := ((eJ r.count st en most o (kE l r.setpos)).1, (eJ r.count st en most o (kE l r.setpos)).2 && o7 r.count most (eJ r.count st en most o (kE l r.setpos)).1.length)
theorem kP (c st en most : Int) : ∀ (l o : List Int), (o.length : Int) ≤ most → ((eJ c st en most o l).1.length : Int) ≤ most
 | [], o, h => h
 | t :: l, o, h => by
  unfold eJ
  split
  ·exact kP c st en most l o h
  ·split
   ·exact h
   ·exact kP c st en most l _ (by rw [List.length_append]; simp only [List.length_singleton]; omega)
theorem aBh (l at_ : List Int) : (kE l at_).length ≤ l.length := by
 unfold kE
 split
 ·exact Nat.le_refl _
 ·exact aBp _ _ _
theorem tQ {P : Program} {N : Nat} {L : Fr.Loc} {d : Nat} {ty : TypeId} {pos : String} {aft : Array Edge} {g : Option (Nat × Bool)} (j : Nat) {t : TypeId} {x : Operand} {b off len n cap : Nat} {e : TypeId} {y : Int} {xs : List Int} (hx : ev L x = some (.pointer (some ⟨b, off, none⟩))) (hr : lkp j S = some ⟨sL b len cap, e, 1, n, xs.map iV⟩) (hv : xs[off]? = some y) (ht : lJ P t = true) : Rd P ⟨some d, .load t x, ty, pos, aft, g⟩ N L F w0 B H S (iV y) :=
 bP j hx hr rfl (by rw [List.getElem?_map, hv]; rfl) ht
end
end Go.Proofs.YtdbbifbmkfmbkaaGreat
