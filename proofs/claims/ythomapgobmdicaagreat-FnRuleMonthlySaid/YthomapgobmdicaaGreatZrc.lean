import Derived.Test.YthomapgobmdicaaGreatZrb
set_option linter.unusedVariables false
set_option linter.unusedSimpArgs false
set_option maxRecDepth 100000
set_option maxHeartbeats 8000000
namespace Go.Proofs.YthomapgobmdicaaGreat
open Go.RowKit Go.Fr Go.Tab
section
variable {F : Nat -> Prop} {w0 : World} {B : LN} {H : LV} {S : LS}
open Go.Md
theorem aMt (y : Int) : (mmY y).length = nY y := by unfold mmY nY; split <;> rfl
theorem aAr (y : Int) : (mdY y).length = nY y := by unfold mdY nY; split <;> rfl
theorem aFr (y : Int) : (mM y).length = nY y := by unfold mM nY; split <;> rfl
theorem jT {xs : List Int} {i : Int} {n : Nat} (hn : xs.length = n) (h0 : 0 <= i) (h : i < n) : (xs.map iV)[0 + i.toNat * 1]? = some (iV (xs.getD i.toNat 0)) := by
 have hl : i.toNat < xs.length := by omega
 rw [Nat.zero_add, Nat.mul_one, List.getElem?_map, List.getD_eq_getElem?_getD, List.getElem?_eq_getElem hl]
 rfl
theorem hU (y : Int) : (nY y : Int) = 372 + Cal.lp y := by unfold nY Cal.lp; split <;> rfl
noncomputable def dQ : Array Oper := aOc (Go.Fr.part [1, 1, 0, 0, 1, 0, 1, 1, 1, 1, 0, 1, 0, 0, 1, 1, 0, 0, 1, 1, 0] (Go.Fr.bodyOf Tryz.f112))
structure FH (F : Nat -> Prop) (w0 : World) (B : LN) (H : LV) (S : LS) (it rb : Nat) (p47 : Option Addr) (c47 : Nat) (aPt : List Int) (p48 : Option Addr) (c48 : Nat) (aPu : List Int) (p49 : Option Addr) (c49 : Nat) (aPv : List Int) (p50 : Option Addr) (c50 : Nat) (aPw : List Int) (p52 : Option Addr) (c52 : Nat) (wday : List Int) (p51 p57 : Option Addr) (c51 c57 : Nat) (aPx aPy : List Int) (p20 : Option Addr) (c20 : Nat) (wno : List Int) (p21 : Option Addr) (c21 : Nat) (nwm : List Int) (p22 : Option Addr) (c22 : Nat) (eas : List Int) (y : Int) (b3 b4 b5 b6 c3 c4 c5 c6 : Nat) (v5 v6 v7 v98 v99 v100 : Value) (i : Int) : Prop where
 hB : lkp 0 B = some it
 hR : lkp 1 B = some rb
 r47 : lkp (ky 1 47) H = some (.slice p47 aPt.length c47)
 hl47 : aPt.length <= 1000000000
 hI47 : ∀ w, Sees F w0 B H S w -> Ints w (.slice p47 aPt.length c47) aPt
 r48 : lkp (ky 1 48) H = some (.slice p48 aPu.length c48)
 hl48 : aPu.length <= 1000000000
 hI48 : ∀ w, Sees F w0 B H S w -> Ints w (.slice p48 aPu.length c48) aPu
 r49 : lkp (ky 1 49) H = some (.slice p49 aPv.length c49)
 hl49 : aPv.length <= 1000000000
 hI49 : ∀ w, Sees F w0 B H S w -> Ints w (.slice p49 aPv.length c49) aPv
 r50 : lkp (ky 1 50) H = some (.slice p50 aPw.length c50)
 hl50 : aPw.length <= 1000000000
 hI50 : ∀ w, Sees F w0 B H S w -> Ints w (.slice p50 aPw.length c50) aPw
 r52 : lkp (ky 1 52) H = some (.slice p52 wday.length c52)
 hl52 : wday.length <= 1000000000
 hI52 : ∀ w, Sees F w0 B H S w -> Ints w (.slice p52 wday.length c52) wday
 r51 : lkp (ky 1 51) H = some (.slice p51 aPx.length c51)
 r57 : lkp (ky 1 57) H = some (.slice p57 aPy.length c57)
 h20 : lkp (ky 0 20) H = some (.slice p20 wno.length c20)
 hp20 : 0 < wno.length -> ∃ b, p20 = some ⟨b, 0, none⟩
 hS8 : 0 < wno.length -> lkp 8 S = some ⟨.slice p20 wno.length c20, 3, 1, wno.length, wno.map iV⟩
 h21 : lkp (ky 0 21) H = some (.slice p21 nwm.length c21)
 hp21 : 0 < nwm.length -> ∃ b, p21 = some ⟨b, 0, none⟩
 hS9 : 0 < nwm.length -> lkp 9 S = some ⟨.slice p21 nwm.length c21, 3, 1, nwm.length, nwm.map iV⟩
 h22 : lkp (ky 0 22) H = some (.slice p22 eas.length c22)
 hp22 : 0 < eas.length -> ∃ b, p22 = some ⟨b, 0, none⟩
 hS10 : 0 < eas.length -> lkp 10 S = some ⟨.slice p22 eas.length c22, 3, 1, eas.length, eas.map iV⟩
 h10 : lkp (ky 0 10) H = some (iV (365 + Cal.lp y))
 h11 : lkp (ky 0 11) H = some (iV (365 + Cal.lp (y + 1)))
 h15 : lkp (ky 0 15) H = some (sL b3 (nY y) c3)
 h17 : lkp (ky 0 17) H = some (sL b4 (nY y) c4)
 h18 : lkp (ky 0 18) H = some (sL b5 (nY y) c5)
 h19 : lkp (ky 0 19) H = some (.slice (some ⟨b6, 0 + (ywd y).toNat * 1, none⟩) (385 - (ywd y).toNat) (c6 - (ywd y).toNat))
 hS3 : lkp 3 S = some ⟨sL b3 (nY y) c3, 3, 1, nY y, (mmY y).map iV⟩
 hS4 : lkp 4 S = some ⟨sL b4 (nY y) c4, 3, 1, nY y, (mdY y).map iV⟩
 hS5 : lkp 5 S = some ⟨sL b5 (nY y) c5, 3, 1, nY y, (mM y).map iV⟩
 hS6 : lkp 6 S = some ⟨sL b6 385 c6, 3, 1, 385, (wd 55).map iV⟩
 hi : 0 <= i /\ i < nY y
 hwn : aPx.length ≠ 0 -> i < wno.length
 hnw : nwm.length ≠ 0 -> i < nwm.length
 hea : aPy.length ≠ 0 -> i < eas.length
section
variable {it rb : Nat} {p47 : Option Addr} {c47 : Nat} {aPt : List Int} {p48 : Option Addr} {c48 : Nat} {aPu : List Int} {p49 : Option Addr} {c49 : Nat} {aPv : List Int} {p50 : Option Addr} {c50 : Nat} {aPw : List Int} {p52 : Option Addr} {c52 : Nat} {wday : List Int} {p51 p57 : Option Addr} {c51 c57 : Nat} {aPx aPy : List Int} {p20 : Option Addr} {c20 : Nat} {wno : List Int} {p21 : Option Addr} {c21 : Nat} {nwm : List Int} {p22 : Option Addr} {c22 : Nat} {eas : List Int} {y : Int} {b3 b4 b5 b6 c3 c4 c5 c6 : Nat} {v5 v6 v7 v98 v99 v100 : Value} {i : Int}
variable (q : FH F w0 B H S it rb p47 c47 aPt p48 c48 aPu p49 c49 aPv p50 c50 aPw p52 c52 wday p51 p57 c51 c57 aPx aPy p20 c20 wno p21 c21 nwm p22 c22 eas y b3 b4 b5 b6 c3 c4 c5 c6 v5 v6 v7 v98 v99 v100 i)
include q
theorem FH.ar : (0 <= i /\ i < nY y) /\ aPt.length <= 1000000000 /\ aPu.length <= 1000000000 /\ aPv.length <= 1000000000 /\ aPw.length <= 1000000000 /\ wday.length <= 1000000000 := ⟨q.hi, q.hl47, q.hl48, q.hl49, q.hl50, q.hl52⟩
theorem ft_1  (fA : Bool) (hfA : fA = wK aPt y i) (hz : aPt.length = 0) : GM Tryz.prog dQ (Kn 1418 [(0, pT it), (2, pT rb), (5, v5), (6, v6), (7, v7), (9, iV i), (98, v98), (99, v99), (100, v100), (129, .bool fA)]) (List.take 23 (List.drop 0 dQ.toList)) 1418 [(0, pT it), (2, pT rb), (5, v5), (6, v6), (7, v7), (9, iV i), (98, v98), (99, v99), (100, v100)] F w0 B H S := by
 have ar_ := FH.ar q
 have hlp := Cal.lp_01 y
 have hlp2 := Cal.lp_01 (y + 1)
 have hny := hU y
 have hyw : 0 <= ywd y /\ ywd y <= 6 := by unfold ywd; omega
 refine g5 ?_
 refine rm ((cF rfl rfl).to (cB (jA oM))) (g15 ?_)
 refine rm ((bB rfl rfl rfl).to (v' := .bool fA) (by rw [hfA]; simp [wK, hz])) (g1 ?_)
 exact bX kns
theorem ft_2  (fA : Bool) (hfA : fA = wK aPt y i) (hz : ¬ aPt.length = 0) : GM Tryz.prog dQ (Kn 1418 [(0, pT it), (2, pT rb), (5, v5), (6, v6), (7, v7), (9, iV i), (98, v98), (99, v99), (100, v100), (129, .bool fA)]) (List.take 23 (List.drop 0 dQ.toList)) 1418 [(0, pT it), (2, pT rb), (5, v5), (6, v6), (7, v7), (9, iV i), (98, v98), (99, v99), (100, v100)] F w0 B H S := by
 have ar_ := FH.ar q
 have hlp := Cal.lp_01 y
 have hlp2 := Cal.lp_01 (y + 1)
 have hny := hU y
 have hyw : 0 <= ywd y /\ ywd y <= 6 := by unfold ywd; omega
 refine g5 ?_
 refine rm ((cF rfl rfl).to (cB (iW oM))) (g20 ?_)
 refine g2 ?_
 refine rm (aC (e := 3) (n := 1) kR rfl rfl oM oM) (g1 ?_)
 refine rm (bQ 3 rfl q.hS3 rfl (jT (aMt y) q.hi.1 q.hi.2) kR) (g1 ?_)
 refine cG (v := .bool (aPt.any (· == ((mmY y).getD i.toNat 0)))) dE kR rfl (fun w_ s_ => (aR aPt ((mmY y).getD i.toNat 0) _ q.hl47 w_ (q.hI47 w_ s_)).mT (cRr rfl)) ?_
 refine g2 ?_
 refine rm ((bB rfl rfl rfl).to (v' := .bool fA) (by rw [hfA]; simp [wK, hz])) (g1 ?_)
 exact bX kns
theorem ft_3  (fB : Bool) (hfB : fB = (true || tQ aPx wno i)) : GM Tryz.prog dQ (Kn 1418 [(0, pT it), (2, pT rb), (5, v5), (6, v6), (7, v7), (9, iV i), (98, v98), (99, v99), (100, v100), (148, .bool fB)]) (List.take 19 (List.drop 23 dQ.toList)) 1418 [(0, pT it), (2, pT rb), (5, v5), (6, v6), (7, v7), (9, iV i), (98, v98), (99, v99), (100, v100), (129, .bool true)] F w0 B H S := by
 have ar_ := FH.ar q
 have hlp := Cal.lp_01 y
 have hlp2 := Cal.lp_01 (y + 1)
 have hny := hU y
 have hyw : 0 <= ywd y /\ ywd y <= 6 := by unfold ywd; omega
 refine g16 ?_
 refine g1 ?_
 refine rm ((bB rfl rfl rfl).to (v' := .bool fB) (by rw [hfB]; simp)) (g1 ?_)
 exact bX kns
theorem ft_4  (fB : Bool) (hfB : fB = (false || tQ aPx wno i)) (hz : aPx.length = 0) : GM Tryz.prog dQ (Kn 1418 [(0, pT it), (2, pT rb), (5, v5), (6, v6), (7, v7), (9, iV i), (98, v98), (99, v99), (100, v100), (148, .bool fB)]) (List.take 19 (List.drop 23 dQ.toList)) 1418 [(0, pT it), (2, pT rb), (5, v5), (6, v6), (7, v7), (9, iV i), (98, v98), (99, v99), (100, v100), (129, .bool false)] F w0 B H S := by
 have ar_ := FH.ar q
 have hlp := Cal.lp_01 y
 have hlp2 := Cal.lp_01 (y + 1)
 have hny := hU y
 have hyw : 0 <= ywd y /\ ywd y <= 6 := by unfold ywd; omega
 refine g11 ?_
 refine rm ((cF rfl rfl).to (cB (jA oM))) (g13 ?_)
 refine rm ((bB rfl rfl rfl).to (v' := .bool fB) (by rw [hfB]; simp [tQ, hz])) (g1 ?_)
 exact bX kns
theorem ft_5  (fB : Bool) (hfB : fB = (false || tQ aPx wno i)) (hz : ¬ aPx.length = 0) : GM Tryz.prog dQ (Kn 1418 [(0, pT it), (2, pT rb), (5, v5), (6, v6), (7, v7), (9, iV i), (98, v98), (99, v99), (100, v100), (148, .bool fB)]) (List.take 19 (List.drop 23 dQ.toList)) 1418 [(0, pT it), (2, pT rb), (5, v5), (6, v6), (7, v7), (9, iV i), (98, v98), (99, v99), (100, v100), (129, .bool false)] F w0 B H S := by
 have ar_ := FH.ar q
 have hlp := Cal.lp_01 y
 have hlp2 := Cal.lp_01 (y + 1)
 have hny := hU y
 have hyw : 0 <= ywd y /\ ywd y <= 6 := by unfold ywd; omega
 have hiw := q.hwn hz
 obtain ⟨b8, rfl⟩ := q.hp20 oM
 have q.hS8 := q.hS8 oM
 refine g11 ?_
 refine rm ((cF rfl rfl).to (cB (iW oM))) (g15 ?_)
 refine rm (aC (e := 3) (n := 1) kR rfl rfl oM oM) (g1 ?_)
 refine rm (bQ 8 rfl q.hS8 rfl (jT rfl q.hi.1 hiw) kR) (g4 ?_)
 refine rm ((bB rfl rfl rfl).to (v' := .bool fB) (by rw [hfB]; simp [tQ, hz])) (g1 ?_)
 exact bX kns
theorem ft_6  (fC : Bool) (hfC : fC = (true || rM wday y i)) : GM Tryz.prog dQ (Kn 1418 [(0, pT it), (2, pT rb), (5, v5), (6, v6), (7, v7), (9, iV i), (98, v98), (99, v99), (100, v100), (172, .bool fC)]) (List.take 24 (List.drop 42 dQ.toList)) 1418 [(0, pT it), (2, pT rb), (5, v5), (6, v6), (7, v7), (9, iV i), (98, v98), (99, v99), (100, v100), (148, .bool true)] F w0 B H S := by
 have ar_ := FH.ar q
 have hlp := Cal.lp_01 y
 have hlp2 := Cal.lp_01 (y + 1)
 have hny := hU y
 have hyw : 0 <= ywd y /\ ywd y <= 6 := by unfold ywd; omega
 refine g20 ?_
 refine g2 ?_
 refine rm ((bB rfl rfl rfl).to (v' := .bool fC) (by rw [hfC]; simp)) (g1 ?_)
 exact bX kns
theorem ft_7  (fC : Bool) (hfC : fC = (false || rM wday y i)) (hz : wday.length = 0) : GM Tryz.prog dQ (Kn 1418 [(0, pT it), (2, pT rb), (5, v5), (6, v6), (7, v7), (9, iV i), (98, v98), (99, v99), (100, v100), (172, .bool fC)]) (List.take 24 (List.drop 42 dQ.toList)) 1418 [(0, pT it), (2, pT rb), (5, v5), (6, v6), (7, v7), (9, iV i), (98, v98), (99, v99), (100, v100), (148, .bool false)] F w0 B H S := by
 have ar_ := FH.ar q
 have hlp := Cal.lp_01 y
 have hlp2 := Cal.lp_01 (y + 1)
 have hny := hU y
 have hyw : 0 <= ywd y /\ ywd y <= 6 := by unfold ywd; omega
 refine g11 ?_
 refine rm ((cF rfl rfl).to (cB (jA oM))) (g18 ?_)
 refine rm ((bB rfl rfl rfl).to (v' := .bool fC) (by rw [hfC]; simp [rM, hz])) (g1 ?_)
 exact bX kns
theorem ft_8  (fC : Bool) (hfC : fC = (false || rM wday y i)) (hz : ¬ wday.length = 0) : GM Tryz.prog dQ (Kn 1418 [(0, pT it), (2, pT rb), (5, v5), (6, v6), (7, v7), (9, iV i), (98, v98), (99, v99), (100, v100), (172, .bool fC)]) (List.take 24 (List.drop 42 dQ.toList)) 1418 [(0, pT it), (2, pT rb), (5, v5), (6, v6), (7, v7), (9, iV i), (98, v98), (99, v99), (100, v100), (148, .bool false)] F w0 B H S := by
 have ar_ := FH.ar q
 have hlp := Cal.lp_01 y
 have hlp2 := Cal.lp_01 (y + 1)
 have hny := hU y
 have hyw : 0 <= ywd y /\ ywd y <= 6 := by unfold ywd; omega
 refine g11 ?_
 refine rm ((cF rfl rfl).to (cB (iW oM))) (g20 ?_)
 refine g3 ?_
 refine rm (aC (e := 3) (n := 1) kR rfl rfl oM oM) (g1 ?_)
 refine rm (bQ 6 rfl q.hS6 rfl (nP (x := (ywd y + i) % 7) oM oM) kR) (g1 ?_)
 refine cG (v := .bool (wday.any (· == ((ywd y + i) % 7)))) dE kR rfl (fun w_ s_ => (aR wday ((ywd y + i) % 7) _ q.hl52 w_ (q.hI52 w_ s_)).mT (cRr rfl)) ?_
 refine g4 ?_
 refine rm ((bB rfl rfl rfl).to (v' := .bool fC) (by rw [hfC]; simp [rM, hz])) (g1 ?_)
 exact bX kns
theorem ft_9  (fD : Bool) (hfD : fD = (true || pI nwm i)) : GM Tryz.prog dQ (Kn 1418 [(0, pT it), (2, pT rb), (5, v5), (6, v6), (7, v7), (9, iV i), (98, v98), (99, v99), (100, v100), (192, .bool fD)]) (List.take 20 (List.drop 66 dQ.toList)) 1418 [(0, pT it), (2, pT rb), (5, v5), (6, v6), (7, v7), (9, iV i), (98, v98), (99, v99), (100, v100), (172, .bool true)] F w0 B H S := by
 have ar_ := FH.ar q
 have hlp := Cal.lp_01 y
 have hlp2 := Cal.lp_01 (y + 1)
 have hny := hU y
 have hyw : 0 <= ywd y /\ ywd y <= 6 := by unfold ywd; omega
 refine g18 ?_
 refine rm ((bB rfl rfl rfl).to (v' := .bool fD) (by rw [hfD]; simp)) (g1 ?_)
 exact bX kns
theorem aNx  (fD : Bool) (hfD : fD = (false || pI nwm i)) (hz : nwm.length = 0) : GM Tryz.prog dQ (Kn 1418 [(0, pT it), (2, pT rb), (5, v5), (6, v6), (7, v7), (9, iV i), (98, v98), (99, v99), (100, v100), (192, .bool fD)]) (List.take 20 (List.drop 66 dQ.toList)) 1418 [(0, pT it), (2, pT rb), (5, v5), (6, v6), (7, v7), (9, iV i), (98, v98), (99, v99), (100, v100), (172, .bool false)] F w0 B H S := by
 have ar_ := FH.ar q
 have hlp := Cal.lp_01 y
 have hlp2 := Cal.lp_01 (y + 1)
 have hny := hU y
 have hyw : 0 <= ywd y /\ ywd y <= 6 := by unfold ywd; omega
 refine g13 ?_
 refine rm ((cF rfl rfl).to (cB (jA oM))) (g13 ?_)
 refine rm ((bB rfl rfl rfl).to (v' := .bool fD) (by rw [hfD]; simp [pI, hz])) (g1 ?_)
 exact bX kns
theorem aNr  (fD : Bool) (hfD : fD = (false || pI nwm i)) (hz : ¬ nwm.length = 0) : GM Tryz.prog dQ (Kn 1418 [(0, pT it), (2, pT rb), (5, v5), (6, v6), (7, v7), (9, iV i), (98, v98), (99, v99), (100, v100), (192, .bool fD)]) (List.take 20 (List.drop 66 dQ.toList)) 1418 [(0, pT it), (2, pT rb), (5, v5), (6, v6), (7, v7), (9, iV i), (98, v98), (99, v99), (100, v100), (172, .bool false)] F w0 B H S := by
 have ar_ := FH.ar q
 have hlp := Cal.lp_01 y
 have hlp2 := Cal.lp_01 (y + 1)
 have hny := hU y
 have hyw : 0 <= ywd y /\ ywd y <= 6 := by unfold ywd; omega
 have hiw := q.hnw hz
 obtain ⟨b8, rfl⟩ := q.hp21 oM
 have q.hS9 := q.hS9 oM
 refine g13 ?_
 refine rm ((cF rfl rfl).to (cB (iW oM))) (g15 ?_)
 refine rm (aC (e := 3) (n := 1) kR rfl rfl oM oM) (g1 ?_)
 refine rm (bQ 9 rfl q.hS9 rfl (jT rfl q.hi.1 hiw) kR) (g4 ?_)
 refine rm ((bB rfl rfl rfl).to (v' := .bool fD) (by rw [hfD]; simp [pI, hz])) (g1 ?_)
 exact bX kns
theorem aN4  (fE : Bool) (hfE : fE = (true || u9 aPy eas i)) : GM Tryz.prog dQ (Kn 1418 [(0, pT it), (2, pT rb), (5, v5), (6, v6), (7, v7), (9, iV i), (98, v98), (99, v99), (100, v100), (211, .bool fE)]) (List.take 19 (List.drop 86 dQ.toList)) 1418 [(0, pT it), (2, pT rb), (5, v5), (6, v6), (7, v7), (9, iV i), (98, v98), (99, v99), (100, v100), (192, .bool true)] F w0 B H S := by
 have ar_ := FH.ar q
 have hlp := Cal.lp_01 y
 have hlp2 := Cal.lp_01 (y + 1)
 have hny := hU y
 have hyw : 0 <= ywd y /\ ywd y <= 6 := by unfold ywd; omega
 refine g16 ?_
 refine g1 ?_
 refine rm ((bB rfl rfl rfl).to (v' := .bool fE) (by rw [hfE]; simp)) (g1 ?_)
 exact bX kns
theorem aOp  (fE : Bool) (hfE : fE = (false || u9 aPy eas i)) (hz : aPy.length = 0) : GM Tryz.prog dQ (Kn 1418 [(0, pT it), (2, pT rb), (5, v5), (6, v6), (7, v7), (9, iV i), (98, v98), (99, v99), (100, v100), (211, .bool fE)]) (List.take 19 (List.drop 86 dQ.toList)) 1418 [(0, pT it), (2, pT rb), (5, v5), (6, v6), (7, v7), (9, iV i), (98, v98), (99, v99), (100, v100), (192, .bool false)] F w0 B H S := by
 have ar_ := FH.ar q
 have hlp := Cal.lp_01 y
 have hlp2 := Cal.lp_01 (y + 1)
 have hny := hU y
 have hyw : 0 <= ywd y /\ ywd y <= 6 := by unfold ywd; omega
 refine g11 ?_
 refine rm ((cF rfl rfl).to (cB (jA oM))) (g13 ?_)
 refine rm ((bB rfl rfl rfl).to (v' := .bool fE) (by rw [hfE]; simp [u9, hz])) (g1 ?_)
 exact bX kns
theorem aOv  (fE : Bool) (hfE : fE = (false || u9 aPy eas i)) (hz : ¬ aPy.length = 0) : GM Tryz.prog dQ (Kn 1418 [(0, pT it), (2, pT rb), (5, v5), (6, v6), (7, v7), (9, iV i), (98, v98), (99, v99), (100, v100), (211, .bool fE)]) (List.take 19 (List.drop 86 dQ.toList)) 1418 [(0, pT it), (2, pT rb), (5, v5), (6, v6), (7, v7), (9, iV i), (98, v98), (99, v99), (100, v100), (192, .bool false)] F w0 B H S := by
 have ar_ := FH.ar q
 have hlp := Cal.lp_01 y
 have hlp2 := Cal.lp_01 (y + 1)
 have hny := hU y
 have hyw : 0 <= ywd y /\ ywd y <= 6 := by unfold ywd; omega
 have hiw := q.hea hz
 obtain ⟨b8, rfl⟩ := q.hp22 oM
 have q.hS10 := q.hS10 oM
 refine g11 ?_
 refine rm ((cF rfl rfl).to (cB (iW oM))) (g15 ?_)
 refine rm (aC (e := 3) (n := 1) kR rfl rfl oM oM) (g1 ?_)
 refine rm (bQ 10 rfl q.hS10 rfl (jT rfl q.hi.1 hiw) kR) (g4 ?_)
 refine rm ((bB rfl rfl rfl).to (v' := .bool fE) (by rw [hfE]; simp [u9, hz])) (g1 ?_)
 exact bX kns
theorem aOx  (fF : Bool) (hfF : fF = (true || pJ aPu aPv y i)) : GM Tryz.prog dQ (Kn 1418 [(0, pT it), (2, pT rb), (5, v5), (6, v6), (7, v7), (9, iV i), (98, v98), (99, v99), (100, v100), (259, .bool fF)]) (List.take 48 (List.drop 105 dQ.toList)) 1418 [(0, pT it), (2, pT rb), (5, v5), (6, v6), (7, v7), (9, iV i), (98, v98), (99, v99), (100, v100), (211, .bool true)] F w0 B H S := by
 have ar_ := FH.ar q
 have hlp := Cal.lp_01 y
 have hlp2 := Cal.lp_01 (y + 1)
 have hny := hU y
 have hyw : 0 <= ywd y /\ ywd y <= 6 := by unfold ywd; omega
 refine g40 ?_
 refine g6 ?_
 refine rm ((bB rfl rfl rfl).to (v' := .bool fF) (by rw [hfF]; simp)) (g1 ?_)
 exact bX kns
theorem aN9  (fF : Bool) (hfF : fF = (false || pJ aPu aPv y i)) (hz : aPu.length = 0) (hz2 : aPv.length = 0) : GM Tryz.prog dQ (Kn 1418 [(0, pT it), (2, pT rb), (5, v5), (6, v6), (7, v7), (9, iV i), (98, v98), (99, v99), (100, v100), (259, .bool fF)]) (List.take 48 (List.drop 105 dQ.toList)) 1418 [(0, pT it), (2, pT rb), (5, v5), (6, v6), (7, v7), (9, iV i), (98, v98), (99, v99), (100, v100), (211, .bool false)] F w0 B H S := by
 have ar_ := FH.ar q
 have hlp := Cal.lp_01 y
 have hlp2 := Cal.lp_01 (y + 1)
 have hny := hU y
 have hyw : 0 <= ywd y /\ ywd y <= 6 := by unfold ywd; omega
 refine g11 ?_
 refine rm ((cF rfl rfl).to (cB (jA oM))) (g13 ?_)
 refine rm ((cF rfl rfl).to (cB (jA oM))) (g30 ?_)
 refine g8 ?_
 refine rm ((bB rfl rfl rfl).to (v' := .bool fF) (by rw [hfF]; simp [pJ, hz, hz2])) (g1 ?_)
 exact bX kns
theorem aNn  (fF : Bool) (hfF : fF = (false || pJ aPu aPv y i)) (hz : aPu.length = 0) (hz2 : ¬ aPv.length = 0) (hc : (aPu.any (· == ((mdY y).getD i.toNat 0))) = true) : GM Tryz.prog dQ (Kn 1418 [(0, pT it), (2, pT rb), (5, v5), (6, v6), (7, v7), (9, iV i), (98, v98), (99, v99), (100, v100), (259, .bool fF)]) (List.take 48 (List.drop 105 dQ.toList)) 1418 [(0, pT it), (2, pT rb), (5, v5), (6, v6), (7, v7), (9, iV i), (98, v98), (99, v99), (100, v100), (211, .bool false)] F w0 B H S := by
 have ar_ := FH.ar q
 have hlp := Cal.lp_01 y
 have hlp2 := Cal.lp_01 (y + 1)
 have hny := hU y
 have hyw : 0 <= ywd y /\ ywd y <= 6 := by unfold ywd; omega
 refine g11 ?_
 refine rm ((cF rfl rfl).to (cB (jA oM))) (g13 ?_)
 refine rm ((cF rfl rfl).to (cB (iW oM))) (g25 ?_)
 refine rm (aC (e := 3) (n := 1) kR rfl rfl oM oM) (g1 ?_)
 refine rm (bQ 4 rfl q.hS4 rfl (jT (aAr y) q.hi.1 q.hi.2) kR) (g1 ?_)
 refine cG (v := .bool true) dE kR rfl (fun w_ s_ => (aR aPu ((mdY y).getD i.toNat 0) _ q.hl48 w_ (q.hI48 w_ s_)).mT (cRr (cB hc))) ?_
 refine g20 ?_
 refine g2 ?_
 refine rm ((bB rfl rfl rfl).to (v' := .bool fF) (by rw [hfF]; unfold pJ; rw [hc]; simp [hz, hz2])) (g1 ?_)
 exact bX kns
theorem aN6  (fF : Bool) (hfF : fF = (false || pJ aPu aPv y i)) (hz : aPu.length = 0) (hz2 : ¬ aPv.length = 0) (hc : (aPu.any (· == ((mdY y).getD i.toNat 0))) = false) : GM Tryz.prog dQ (Kn 1418 [(0, pT it), (2, pT rb), (5, v5), (6, v6), (7, v7), (9, iV i), (98, v98), (99, v99), (100, v100), (259, .bool fF)]) (List.take 48 (List.drop 105 dQ.toList)) 1418 [(0, pT it), (2, pT rb), (5, v5), (6, v6), (7, v7), (9, iV i), (98, v98), (99, v99), (100, v100), (211, .bool false)] F w0 B H S := by
 have ar_ := FH.ar q
 have hlp := Cal.lp_01 y
 have hlp2 := Cal.lp_01 (y + 1)
 have hny := hU y
 have hyw : 0 <= ywd y /\ ywd y <= 6 := by unfold ywd; omega
 refine g11 ?_
 refine rm ((cF rfl rfl).to (cB (jA oM))) (g13 ?_)
 refine rm ((cF rfl rfl).to (cB (iW oM))) (g25 ?_)
 refine rm (aC (e := 3) (n := 1) kR rfl rfl oM oM) (g1 ?_)
 refine rm (bQ 4 rfl q.hS4 rfl (jT (aAr y) q.hi.1 q.hi.2) kR) (g1 ?_)
 refine cG (v := .bool false) dE kR rfl (fun w_ s_ => (aR aPu ((mdY y).getD i.toNat 0) _ q.hl48 w_ (q.hI48 w_ s_)).mT (cRr (cB hc))) ?_
 refine g25 ?_
 refine g2 ?_
 refine rm (aC (e := 3) (n := 1) kR rfl rfl oM oM) (g1 ?_)
 refine rm (bQ 5 rfl q.hS5 rfl (jT (aFr y) q.hi.1 q.hi.2) kR) (g1 ?_)
 refine cG (v := .bool (aPv.any (· == ((mM y).getD i.toNat 0)))) dE kR rfl (fun w_ s_ => (aR aPv ((mM y).getD i.toNat 0) _ q.hl49 w_ (q.hI49 w_ s_)).mT (cRr rfl)) ?_
 refine g4 ?_
 refine rm ((bB rfl rfl rfl).to (v' := .bool fF) (by rw [hfF]; unfold pJ; rw [hc]; simp [hz, hz2])) (g1 ?_)
 exact bX kns
theorem aOm  (fF : Bool) (hfF : fF = (false || pJ aPu aPv y i)) (hz : ¬ aPu.length = 0) (hc : (aPu.any (· == ((mdY y).getD i.toNat 0))) = true) : GM Tryz.prog dQ (Kn 1418 [(0, pT it), (2, pT rb), (5, v5), (6, v6), (7, v7), (9, iV i), (98, v98), (99, v99), (100, v100), (259, .bool fF)]) (List.take 48 (List.drop 105 dQ.toList)) 1418 [(0, pT it), (2, pT rb), (5, v5), (6, v6), (7, v7), (9, iV i), (98, v98), (99, v99), (100, v100), (211, .bool false)] F w0 B H S := by
 have ar_ := FH.ar q
 have hlp := Cal.lp_01 y
 have hlp2 := Cal.lp_01 (y + 1)
 have hny := hU y
 have hyw : 0 <= ywd y /\ ywd y <= 6 := by unfold ywd; omega
 refine g11 ?_
 refine rm ((cF rfl rfl).to (cB (iW oM))) (g30 ?_)
 refine g3 ?_
 refine rm (aC (e := 3) (n := 1) kR rfl rfl oM oM) (g1 ?_)
 refine rm (bQ 4 rfl q.hS4 rfl (jT (aAr y) q.hi.1 q.hi.2) kR) (g1 ?_)
 refine cG (v := .bool true) dE kR rfl (fun w_ s_ => (aR aPu ((mdY y).getD i.toNat 0) _ q.hl48 w_ (q.hI48 w_ s_)).mT (cRr (cB hc))) ?_
 refine g20 ?_
 refine g2 ?_
 refine rm ((bB rfl rfl rfl).to (v' := .bool fF) (by rw [hfF]; unfold pJ; rw [hc]; simp [hz])) (g1 ?_)
 exact bX kns
theorem aNu  (fF : Bool) (hfF : fF = (false || pJ aPu aPv y i)) (hz : ¬ aPu.length = 0) (hc : (aPu.any (· == ((mdY y).getD i.toNat 0))) = false) : GM Tryz.prog dQ (Kn 1418 [(0, pT it), (2, pT rb), (5, v5), (6, v6), (7, v7), (9, iV i), (98, v98), (99, v99), (100, v100), (259, .bool fF)]) (List.take 48 (List.drop 105 dQ.toList)) 1418 [(0, pT it), (2, pT rb), (5, v5), (6, v6), (7, v7), (9, iV i), (98, v98), (99, v99), (100, v100), (211, .bool false)] F w0 B H S := by
 have ar_ := FH.ar q
 have hlp := Cal.lp_01 y
 have hlp2 := Cal.lp_01 (y + 1)
 have hny := hU y
 have hyw : 0 <= ywd y /\ ywd y <= 6 := by unfold ywd; omega
 refine g11 ?_
 refine rm ((cF rfl rfl).to (cB (iW oM))) (g30 ?_)
 refine g3 ?_
 refine rm (aC (e := 3) (n := 1) kR rfl rfl oM oM) (g1 ?_)
 refine rm (bQ 4 rfl q.hS4 rfl (jT (aAr y) q.hi.1 q.hi.2) kR) (g1 ?_)
 refine cG (v := .bool false) dE kR rfl (fun w_ s_ => (aR aPu ((mdY y).getD i.toNat 0) _ q.hl48 w_ (q.hI48 w_ s_)).mT (cRr (cB hc))) ?_
 refine g25 ?_
 refine g2 ?_
 refine rm (aC (e := 3) (n := 1) kR rfl rfl oM oM) (g1 ?_)
 refine rm (bQ 5 rfl q.hS5 rfl (jT (aFr y) q.hi.1 q.hi.2) kR) (g1 ?_)
 refine cG (v := .bool (aPv.any (· == ((mM y).getD i.toNat 0)))) dE kR rfl (fun w_ s_ => (aR aPv ((mM y).getD i.toNat 0) _ q.hl49 w_ (q.hI49 w_ s_)).mT (cRr rfl)) ?_
 refine g4 ?_
 refine rm ((bB rfl rfl rfl).to (v' := .bool fF) (by rw [hfF]; unfold pJ; rw [hc]; simp [hz])) (g1 ?_)
 exact bX kns
theorem aOi  (fG : Bool) (hfG : fG = (true || nW aPw y i)) : GM Tryz.prog dQ (Kn 1418 [(0, pT it), (2, pT rb), (5, v5), (6, v6), (7, v7), (9, iV i), (98, v98), (99, v99), (100, v100), (348, .bool fG)]) (List.take 89 (List.drop 153 dQ.toList)) 1418 [(0, pT it), (2, pT rb), (5, v5), (6, v6), (7, v7), (9, iV i), (98, v98), (99, v99), (100, v100), (259, .bool true)] F w0 B H S := by
 have ar_ := FH.ar q
 have hlp := Cal.lp_01 y
 have hlp2 := Cal.lp_01 (y + 1)
 have hny := hU y
 have hyw : 0 <= ywd y /\ ywd y <= 6 := by unfold ywd; omega
 refine g40 ?_
 refine g40 ?_
 refine g8 ?_
 exact rm ((bB rfl rfl rfl).to (v' := .bool fG) (by rw [hfG]; simp)) (bX kns)
theorem aOo  (fG : Bool) (hfG : fG = (false || nW aPw y i)) (hz : aPw.length = 0) : GM Tryz.prog dQ (Kn 1418 [(0, pT it), (2, pT rb), (5, v5), (6, v6), (7, v7), (9, iV i), (98, v98), (99, v99), (100, v100), (348, .bool fG)]) (List.take 89 (List.drop 153 dQ.toList)) 1418 [(0, pT it), (2, pT rb), (5, v5), (6, v6), (7, v7), (9, iV i), (98, v98), (99, v99), (100, v100), (259, .bool false)] F w0 B H S := by
 have ar_ := FH.ar q
 have hlp := Cal.lp_01 y
 have hlp2 := Cal.lp_01 (y + 1)
 have hny := hU y
 have hyw : 0 <= ywd y /\ ywd y <= 6 := by unfold ywd; omega
 refine g11 ?_
 refine rm ((cF rfl rfl).to (cB (jA oM))) (g40 ?_)
 refine g40 ?_
 refine g4 ?_
 exact rm ((bB rfl rfl rfl).to (v' := .bool fG) (by rw [hfG]; simp [nW, hz])) (bX kns)
theorem aN2  (fG : Bool) (hfG : fG = (false || nW aPw y i)) (hz : ¬ aPw.length = 0) (hlt : i < 365 + Cal.lp y) (hc : (aPw.any (· == (i + 1))) = true) : GM Tryz.prog dQ (Kn 1418 [(0, pT it), (2, pT rb), (5, v5), (6, v6), (7, v7), (9, iV i), (98, v98), (99, v99), (100, v100), (348, .bool fG)]) (List.take 89 (List.drop 153 dQ.toList)) 1418 [(0, pT it), (2, pT rb), (5, v5), (6, v6), (7, v7), (9, iV i), (98, v98), (99, v99), (100, v100), (259, .bool false)] F w0 B H S := by
 have ar_ := FH.ar q
 have hlp := Cal.lp_01 y
 have hlp2 := Cal.lp_01 (y + 1)
 have hny := hU y
 have hyw : 0 <= ywd y /\ ywd y <= 6 := by unfold ywd; omega
 have hge : ¬ 365 + Cal.lp y <= i := by omega
 refine g11 ?_
 refine rm ((cF rfl rfl).to (cB (iW oM))) (g15 ?_)
 refine rm ((cR rfl rfl).to (cB (decide_eq_true hlt))) (g15 ?_)
 refine cG (v := .bool true) dE kR rfl (fun w_ s_ => (aR aPw (i + 1) _ q.hl50 w_ (q.hI50 w_ s_)).mT (cRr (cB hc))) ?_
 refine g30 ?_
 refine g7 ?_
 refine rm ((dV rfl rfl).to (cB (decide_eq_false oM))) (g40 ?_)
 refine g6 ?_
 exact rm ((bB rfl rfl rfl).to (v' := .bool fG) (by rw [hfG]; unfold nW; simp only [hc, hlt, hge]; simp [hz])) (bX kns)
theorem aN8  (fG : Bool) (hfG : fG = (false || nW aPw y i)) (hz : ¬ aPw.length = 0) (hlt : i < 365 + Cal.lp y) (hc : (aPw.any (· == (i + 1))) = false) (hc2 : (aPw.any (· == (-(365 + Cal.lp y) + i))) = true) : GM Tryz.prog dQ (Kn 1418 [(0, pT it), (2, pT rb), (5, v5), (6, v6), (7, v7), (9, iV i), (98, v98), (99, v99), (100, v100), (348, .bool fG)]) (List.take 89 (List.drop 153 dQ.toList)) 1418 [(0, pT it), (2, pT rb), (5, v5), (6, v6), (7, v7), (9, iV i), (98, v98), (99, v99), (100, v100), (259, .bool false)] F w0 B H S := by
 have ar_ := FH.ar q
 have hlp := Cal.lp_01 y
 have hlp2 := Cal.lp_01 (y + 1)
 have hny := hU y
 have hyw : 0 <= ywd y /\ ywd y <= 6 := by unfold ywd; omega
 have hge : ¬ 365 + Cal.lp y <= i := by omega
 refine g11 ?_
 refine rm ((cF rfl rfl).to (cB (iW oM))) (g15 ?_)
 refine rm ((cR rfl rfl).to (cB (decide_eq_true hlt))) (g15 ?_)
 refine cG (v := .bool false) dE kR rfl (fun w_ s_ => (aR aPw (i + 1) _ q.hl50 w_ (q.hI50 w_ s_)).mT (cRr (cB hc))) ?_
 refine g30 ?_
 refine g1 ?_
 refine cG (v := .bool true) dE kR rfl (fun w_ s_ => (aR aPw (-(365 + Cal.lp y) + i) _ q.hl50 w_ (q.hI50 w_ s_)).mT (cRr (cB hc2))) ?_
 refine g18 ?_
 refine g1 ?_
 refine rm ((dV rfl rfl).to (cB (decide_eq_false oM))) (g40 ?_)
 refine g6 ?_
 exact rm ((bB rfl rfl rfl).to (v' := .bool fG) (by rw [hfG]; unfold nW; simp only [hc, hc2, hlt, hge]; simp [hz])) (bX kns)
theorem aOq  (fG : Bool) (hfG : fG = (false || nW aPw y i)) (hz : ¬ aPw.length = 0) (hlt : i < 365 + Cal.lp y) (hc : (aPw.any (· == (i + 1))) = false) (hc2 : (aPw.any (· == (-(365 + Cal.lp y) + i))) = false) : GM Tryz.prog dQ (Kn 1418 [(0, pT it), (2, pT rb), (5, v5), (6, v6), (7, v7), (9, iV i), (98, v98), (99, v99), (100, v100), (348, .bool fG)]) (List.take 89 (List.drop 153 dQ.toList)) 1418 [(0, pT it), (2, pT rb), (5, v5), (6, v6), (7, v7), (9, iV i), (98, v98), (99, v99), (100, v100), (259, .bool false)] F w0 B H S := by
 have ar_ := FH.ar q
 have hlp := Cal.lp_01 y
 have hlp2 := Cal.lp_01 (y + 1)
 have hny := hU y
 have hyw : 0 <= ywd y /\ ywd y <= 6 := by unfold ywd; omega
 have hge : ¬ 365 + Cal.lp y <= i := by omega
 refine g11 ?_
 refine rm ((cF rfl rfl).to (cB (iW oM))) (g15 ?_)
 refine rm ((cR rfl rfl).to (cB (decide_eq_true hlt))) (g15 ?_)
 refine cG (v := .bool false) dE kR rfl (fun w_ s_ => (aR aPw (i + 1) _ q.hl50 w_ (q.hI50 w_ s_)).mT (cRr (cB hc))) ?_
 refine g30 ?_
 refine g1 ?_
 refine cG (v := .bool false) dE kR rfl (fun w_ s_ => (aR aPw (-(365 + Cal.lp y) + i) _ q.hl50 w_ (q.hI50 w_ s_)).mT (cRr (cB hc2))) ?_
 refine g40 ?_
 refine g15 ?_
 exact rm ((bB rfl rfl rfl).to (v' := .bool fG) (by rw [hfG]; unfold nW; simp only [hc, hc2, hlt, hge]; simp [hz])) (bX kns)
theorem aNy  (fG : Bool) (hfG : fG = (false || nW aPw y i)) (hz : ¬ aPw.length = 0) (hlt : ¬ i < 365 + Cal.lp y) (hc : (aPw.any (· == (i + 1 - (365 + Cal.lp y)))) = true) : GM Tryz.prog dQ (Kn 1418 [(0, pT it), (2, pT rb), (5, v5), (6, v6), (7, v7), (9, iV i), (98, v98), (99, v99), (100, v100), (348, .bool fG)]) (List.take 89 (List.drop 153 dQ.toList)) 1418 [(0, pT it), (2, pT rb), (5, v5), (6, v6), (7, v7), (9, iV i), (98, v98), (99, v99), (100, v100), (259, .bool false)] F w0 B H S := by
 have ar_ := FH.ar q
 have hlp := Cal.lp_01 y
 have hlp2 := Cal.lp_01 (y + 1)
 have hny := hU y
 have hyw : 0 <= ywd y /\ ywd y <= 6 := by unfold ywd; omega
 have hge : 365 + Cal.lp y <= i := by omega
 refine g11 ?_
 refine rm ((cF rfl rfl).to (cB (iW oM))) (g15 ?_)
 refine rm ((cR rfl rfl).to (cB (decide_eq_false hlt))) (g40 ?_)
 refine g5 ?_
 refine rm ((dV rfl rfl).to (cB (decide_eq_true oM))) (g25 ?_)
 refine g2 ?_
 refine cG (v := .bool true) dE kR rfl (fun w_ s_ => (aR aPw (i + 1 - (365 + Cal.lp y)) _ q.hl50 w_ (q.hI50 w_ s_)).mT (cRr (cB hc))) ?_
 refine g30 ?_
 refine g2 ?_
 exact rm ((bB rfl rfl rfl).to (v' := .bool fG) (by rw [hfG]; unfold nW; simp only [hc, hlt, hge]; simp [hz])) (bX kns)
theorem aOs  (fG : Bool) (hfG : fG = (false || nW aPw y i)) (hz : ¬ aPw.length = 0) (hlt : ¬ i < 365 + Cal.lp y) (hc : (aPw.any (· == (i + 1 - (365 + Cal.lp y)))) = false) : GM Tryz.prog dQ (Kn 1418 [(0, pT it), (2, pT rb), (5, v5), (6, v6), (7, v7), (9, iV i), (98, v98), (99, v99), (100, v100), (348, .bool fG)]) (List.take 89 (List.drop 153 dQ.toList)) 1418 [(0, pT it), (2, pT rb), (5, v5), (6, v6), (7, v7), (9, iV i), (98, v98), (99, v99), (100, v100), (259, .bool false)] F w0 B H S := by
 have ar_ := FH.ar q
 have hlp := Cal.lp_01 y
 have hlp2 := Cal.lp_01 (y + 1)
 have hny := hU y
 have hyw : 0 <= ywd y /\ ywd y <= 6 := by unfold ywd; omega
 have hge : 365 + Cal.lp y <= i := by omega
 refine g11 ?_
 refine rm ((cF rfl rfl).to (cB (iW oM))) (g15 ?_)
 refine rm ((cR rfl rfl).to (cB (decide_eq_false hlt))) (g40 ?_)
 refine g5 ?_
 refine rm ((dV rfl rfl).to (cB (decide_eq_true oM))) (g25 ?_)
 refine g2 ?_
 refine cG (v := .bool false) dE kR rfl (fun w_ s_ => (aR aPw (i + 1 - (365 + Cal.lp y)) _ q.hl50 w_ (q.hI50 w_ s_)).mT (cRr (cB hc))) ?_
 refine g40 ?_
 refine g3 ?_
 refine cG (v := .bool (aPw.any (· == (-(365 + Cal.lp (y + 1)) + i - (365 + Cal.lp y))))) dE kR rfl (fun w_ s_ => (aR aPw (-(365 + Cal.lp (y + 1)) + i - (365 + Cal.lp y)) _ q.hl50 w_ (q.hI50 w_ s_)).mT (cRr rfl)) ?_
 refine g8 ?_
 exact rm ((bB rfl rfl rfl).to (v' := .bool fG) (by rw [hfG]; unfold nW; simp only [hc, hlt, hge]; simp [hz])) (bX kns)
end
theorem aDt {Q : Exit -> Act -> World -> Prop} {it rb : Nat} (hB : lkp 0 B = some it) (hR : lkp 1 B = some rb) {p47 : Option Addr} {c47 : Nat} {aPt : List Int} (r47 : lkp (ky 1 47) H = some (.slice p47 aPt.length c47)) (hl47 : aPt.length <= 1000000000) (hI47 : ∀ w, Sees F w0 B H S w -> Ints w (.slice p47 aPt.length c47) aPt) {p48 : Option Addr} {c48 : Nat} {aPu : List Int} (r48 : lkp (ky 1 48) H = some (.slice p48 aPu.length c48)) (hl48 : aPu.length <= 1000000000) (hI48 : ∀ w, Sees F w0 B H S w -> Ints w (.slice p48 aPu.length c48) aPu) {p49 : Option Addr} {c49 : Nat} {aPv : List Int} (r49 : lkp (ky 1 49) H = some (.slice p49 aPv.length c49)) (hl49 : aPv.length <= 1000000000) (hI49 : ∀ w, Sees F w0 B H S w -> Ints w (.slice p49 aPv.length c49) aPv) {p50 : Option Addr} {c50 : Nat} {aPw : List Int} (r50 : lkp (ky 1 50) H = some (.slice p50 aPw.length c50)) (hl50 : aPw.length <= 1000000000) (hI50 : ∀ w, Sees F w0 B H S w -> Ints w (.slice p50 aPw.length c50) aPw) {p52 : Option Addr} {c52 : Nat} {wday : List Int} (r52 : lkp (ky 1 52) H = some (.slice p52 wday.length c52)) (hl52 : wday.length <= 1000000000) (hI52 : ∀ w, Sees F w0 B H S w -> Ints w (.slice p52 wday.length c52) wday) {p51 p57 : Option Addr} {c51 c57 : Nat} {aPx aPy : List Int} (r51 : lkp (ky 1 51) H = some (.slice p51 aPx.length c51)) (r57 : lkp (ky 1 57) H = some (.slice p57 aPy.length c57)) {p20 : Option Addr} {c20 : Nat} {wno : List Int} (h20 : lkp (ky 0 20) H = some (.slice p20 wno.length c20)) (hp20 : 0 < wno.length -> ∃ b, p20 = some ⟨b, 0, none⟩) (hS8 : 0 < wno.length -> lkp 8 S = some ⟨.slice p20 wno.length c20, 3, 1, wno.length, wno.map iV⟩) {p21 : Option Addr} {c21 : Nat} {nwm : List Int} (h21 : lkp (ky 0 21) H = some (.slice p21 nwm.length c21)) (hp21 : 0 < nwm.length -> ∃ b, p21 = some ⟨b, 0, none⟩) (hS9 : 0 < nwm.length -> lkp 9 S = some ⟨.slice p21 nwm.length c21, 3, 1, nwm.length, nwm.map iV⟩) {p22 : Option Addr} {c22 : Nat} {eas : List Int} (h22 : lkp (ky 0 22) H = some (.slice p22 eas.length c22)) (hp22 : 0 < eas.length -> ∃ b, p22 = some ⟨b, 0, none⟩) (hS10 : 0 < eas.length -> lkp 10 S = some ⟨.slice p22 eas.length c22, 3, 1, eas.length, eas.map iV⟩) {y : Int}
  (h10 : lkp (ky 0 10) H = some (iV (365 + Cal.lp y))) (h11 : lkp (ky 0 11) H = some (iV (365 + Cal.lp (y + 1)))) {b3 b4 b5 b6 c3 c4 c5 c6 : Nat} (h15 : lkp (ky 0 15) H = some (sL b3 (nY y) c3)) (h17 : lkp (ky 0 17) H = some (sL b4 (nY y) c4))
  (h18 : lkp (ky 0 18) H = some (sL b5 (nY y) c5)) (h19 : lkp (ky 0 19) H = some (.slice (some ⟨b6, 0 + (ywd y).toNat * 1, none⟩) (385 - (ywd y).toNat) (c6 - (ywd y).toNat)))
  (hS3 : lkp 3 S = some ⟨sL b3 (nY y) c3, 3, 1, nY y, (mmY y).map iV⟩) (hS4 : lkp 4 S = some ⟨sL b4 (nY y) c4, 3, 1, nY y, (mdY y).map iV⟩) (hS5 : lkp 5 S = some ⟨sL b5 (nY y) c5, 3, 1, nY y, (mM y).map iV⟩)
  (hS6 : lkp 6 S = some ⟨sL b6 385 c6, 3, 1, 385, (wd 55).map iV⟩) {v5 v6 v7 v98 v99 v100 : Value} {i : Int} (hi : 0 <= i /\ i < nY y) (hwn : aPx.length ≠ 0 -> i < wno.length) (hnw : nwm.length ≠ 0 -> i < nwm.length) (hea : aPy.length ≠ 0 -> i < eas.length)
  (hn : GE Q .normal 1418 [(0, pT it), (2, pT rb), (5, v5), (6, v6), (7, v7), (9, iV i), (98, v98), (99, v99), (100, v100), (348, .bool (wK aPt y i || tQ aPx wno i || rM wday y i || pI nwm i || u9 aPy eas i || pJ aPu aPv y i || nW aPw y i))] F w0 B H S) : GC Tryz.prog (Go.Fr.part [1, 1, 0, 0, 1, 0, 1, 1, 1, 1, 0, 1, 0, 0, 1, 1, 0, 0, 1, 1, 0] (Go.Fr.bodyOf Tryz.f112)) Q 1418 [(0, pT it), (2, pT rb), (5, v5), (6, v6), (7, v7), (9, iV i), (98, v98), (99, v99), (100, v100)] F w0 B H S := by
 have hlp := Cal.lp_01 y
 have hlp2 := Cal.lp_01 (y + 1)
 have hny := hU y
 have hyw : 0 <= ywd y /\ ywd y <= 6 := by unfold ywd; omega
 show GC _ (Code.region 11 dQ true) _ _ _ _ _ _ _ _
 have q : FH F w0 B H S it rb p47 c47 aPt p48 c48 aPu p49 c49 aPv p50 c50 aPw p52 c52 wday p51 p57 c51 c57 aPx aPy p20 c20 wno p21 c21 nwm p22 c22 eas y b3 b4 b5 b6 c3 c4 c5 c6 v5 v6 v7 v98 v99 v100 i := ⟨hB, hR, r47, hl47, hI47, r48, hl48, hI48, r49, hl49, hI49, r50, hl50, hI50, r52, hl52, hI52, r51, r57, h20, hp20, hS8, h21, hp21, hS9, h22, hp22, hS10, h10, h11, h15, h17, h18, h19, hS3, hS4, hS5, hS6, hi, hwn, hnw, hea⟩
 refine aC0 kR (aIc 107 kR) ?_
 obtain ⟨fA, hfA⟩ : ∃ f, f = wK aPt y i := ⟨_, rfl⟩
 refine lD 0 23 23 rfl [(0, pT it), (2, pT rb), (5, v5), (6, v6), (7, v7), (9, iV i), (98, v98), (99, v99), (100, v100), (129, .bool fA)] ?_ ?_
 .by_cases hz : aPt.length = 0
  .exact ft_1 q fA hfA hz
  .exact ft_2 q fA hfA hz
 obtain ⟨fB, hfB⟩ : ∃ f, f = (fA || tQ aPx wno i) := ⟨_, rfl⟩
 refine lD 23 19 42 rfl [(0, pT it), (2, pT rb), (5, v5), (6, v6), (7, v7), (9, iV i), (98, v98), (99, v99), (100, v100), (148, .bool fB)] ?_ ?_
 .rcases bO fA with hf | hf <;> subst hf
  .exact ft_3 q fB hfB
  .by_cases hz : aPx.length = 0
   .exact ft_4 q fB hfB hz
   .exact ft_5 q fB hfB hz
 obtain ⟨fC, hfC⟩ : ∃ f, f = (fB || rM wday y i) := ⟨_, rfl⟩
 refine lD 42 24 66 rfl [(0, pT it), (2, pT rb), (5, v5), (6, v6), (7, v7), (9, iV i), (98, v98), (99, v99), (100, v100), (172, .bool fC)] ?_ ?_
 .rcases bO fB with hf | hf <;> subst hf
  .exact ft_6 q fC hfC
  .by_cases hz : wday.length = 0
   .exact ft_7 q fC hfC hz
   .exact ft_8 q fC hfC hz
 obtain ⟨fD, hfD⟩ : ∃ f, f = (fC || pI nwm i) := ⟨_, rfl⟩
 refine lD 66 20 86 rfl [(0, pT it), (2, pT rb), (5, v5), (6, v6), (7, v7), (9, iV i), (98, v98), (99, v99), (100, v100), (192, .bool fD)] ?_ ?_
 .rcases bO fC with hf | hf <;> subst hf
  .exact ft_9 q fD hfD
  .by_cases hz : nwm.length = 0
   .exact aNx q fD hfD hz
   .exact aNr q fD hfD hz
 obtain ⟨fE, hfE⟩ : ∃ f, f = (fD || u9 aPy eas i) := ⟨_, rfl⟩
 refine lD 86 19 105 rfl [(0, pT it), (2, pT rb), (5, v5), (6, v6), (7, v7), (9, iV i), (98, v98), (99, v99), (100, v100), (211, .bool fE)] ?_ ?_
 .rcases bO fD with hf | hf <;> subst hf
  .exact aN4 q fE hfE
  .by_cases hz : aPy.length = 0
   .exact aOp q fE hfE hz
   .exact aOv q fE hfE hz
 obtain ⟨fF, hfF⟩ : ∃ f, f = (fE || pJ aPu aPv y i) := ⟨_, rfl⟩
 refine lD 105 48 153 rfl [(0, pT it), (2, pT rb), (5, v5), (6, v6), (7, v7), (9, iV i), (98, v98), (99, v99), (100, v100), (259, .bool fF)] ?_ ?_
 .rcases bO fE with hf | hf <;> subst hf
  .exact aOx q fF hfF
  .by_cases hz : aPu.length = 0
   .by_cases hz2 : aPv.length = 0
    .exact aN9 q fF hfF hz hz2
    .rcases bO (aPu.any (· == ((mdY y).getD i.toNat 0))) with hc | hc
     .exact aNn q fF hfF hz hz2 hc
     .exact aN6 q fF hfF hz hz2 hc
   .rcases bO (aPu.any (· == ((mdY y).getD i.toNat 0))) with hc | hc
    .exact aOm q fF hfF hz hc
    .exact aNu q fF hfF hz hc
 obtain ⟨fG, hfG⟩ : ∃ f, f = (fF || nW aPw y i) := ⟨_, rfl⟩
 refine lD 153 89 242 rfl [(0, pT it), (2, pT rb), (5, v5), (6, v6), (7, v7), (9, iV i), (98, v98), (99, v99), (100, v100), (348, .bool fG)] ?_ ?_
 .rcases bO fF with hf | hf <;> subst hf
  .exact aOi q fG hfG
  .by_cases hz : aPw.length = 0
   .exact aOo q fG hfG hz
   .by_cases hlt : i < 365 + Cal.lp y
    .rcases bO (aPw.any (· == (i + 1))) with hc | hc
     .exact aN2 q fG hfG hz hlt hc
     .rcases bO (aPw.any (· == (-(365 + Cal.lp y) + i))) with hc2 | hc2
      .exact aN8 q fG hfG hz hlt hc hc2
      .exact aOq q fG hfG hz hlt hc hc2
    .rcases bO (aPw.any (· == (i + 1 - (365 + Cal.lp y)))) with hc | hc
     .exact aNy q fG hfG hz hlt hc
     .exact aOs q fG hfG hz hlt hc
 refine aG3 (Nat.le_of_ble_eq_true kR) ?_
 rw [hfG, hfF, hfE, hfD, hfC, hfB, hfA]
 exact hn
end
end Go.Proofs.YthomapgobmdicaaGreat
namespace Go.Fr
open Go.RowKit
def SrcI (F : Nat -> Prop) (w0 : World) (S : LS) (v : Value) (xs : List Int) : Prop := ∀ B H S' w, (∀ k, 11 <= k -> k < 30 -> lkp k S' = lkp k S) -> Sees F w0 B H S' w -> Ints w v xs
theorem SrcI.at {F : Nat -> Prop} {w0 : World} {B : LN} {H : LV} {S S' : LS} {v : Value} {xs : List Int} (h : SrcI F w0 S v xs) (ha : ∀ k, 11 <= k -> k < 30 -> lkp k S' = lkp k S) : ∀ w, Sees F w0 B H S' w -> Ints w v xs := fun w s => h _ _ _ w ha s
theorem SrcI.to {F : Nat -> Prop} {w0 : World} {S S' : LS} {v : Value} {xs : List Int} (h : SrcI F w0 S v xs) (ha : ∀ k, 11 <= k -> k < 30 -> lkp k S' = lkp k S) : SrcI F w0 S' v xs := fun B H S2 w h2 s => h B H S2 w (fun k h3 h4 => (h2 k h3 h4).trans (ha k h3 h4)) s
theorem SrcI.old {F : Nat -> Prop} {w0 : World} {S : LS} {v : Value} {xs : List Int} (h : Ints w0 v xs) (hF : ∀ b o n c, v = .slice (some ⟨b, o, none⟩) n c -> ¬ F b) : SrcI F w0 S v xs := fun B H S' w _ s => by
 obtain ⟨p, c, rfl, hc⟩ := h
 refine ⟨p, c, rfl, fun i x hx => ?_⟩
 obtain ⟨b, o, rfl, h1⟩ := hc i x hx
 exact ⟨b, o, rfl, s.aPo h1 (hF b o _ _ rfl)⟩
theorem SrcI.row {F : Nat -> Prop} {w0 : World} {S : LS} {p : Option Addr} {n c k : Nat} {e : TypeId} {xs : List Int} (hk : 11 <= k /\ k < 30) (h : lkp k S = some ⟨.slice p n c, e, 1, n, xs.map iV⟩) : SrcI F w0 S (.slice p n c) xs := fun B H S' w ha s => s.ints k ((ha k hk.1 hk.2).trans h)
theorem SrcI.nil {F : Nat -> Prop} {w0 : World} {S : LS} {p : Option Addr} {c : Nat} : SrcI F w0 S (.slice p 0 c) [] := fun _ _ _ _ _ _ => Ints.nil
section
variable {F : Nat -> Prop} {w0 w : World} {B : LN} {H : LV} {S : LS}
theorem Sees.rowTo (s : Sees F w0 B H S w) {k : Nat} {q : Slc} (hk : lkp k S = some q) : Sees F w0 B H ((k, q) :: S) w :=
 s.to (fun _ _ h => h) (fun k o v ho h => ⟨h, by obtain ⟨b, e, _⟩ := s.cells k o v ho h; rw [e]; rfl⟩) (fun j q' h => by
  rcases bD h with ⟨rfl, rfl⟩ | ⟨_, h⟩
  .exact hk
  .exact h)
end
def dM (a : Int) (n : Nat) (f : Nat -> Bool) : List Value := ((List.range n).map fun (j : Nat) => [iV (a + j), Value.bool (f j)]).flatten
theorem uR {α : Type} (g h : Nat -> α) : ∀ n : Nat, (((List.range n).map fun j => [g j, h j]).flatten).length = 2 * n
 | 0 => rfl
 | n + 1 => by rw [List.range_succ, List.map_append, List.flatten_append, List.length_append, uR g h n]; simp; omega
theorem aAd {α : Type} (g h : Nat -> α) : ∀ (n k : Nat), k < n -> (((List.range n).map fun j => [g j, h j]).flatten)[2 * k]? = some (g k) /\ (((List.range n).map fun j => [g j, h j]).flatten)[2 * k + 1]? = some (h k)
 | 0, k, hk => by omega
 | n + 1, k, hk => by
  rw [List.range_succ, List.map_append, List.flatten_append]
  have hl := uR g h n
  rcases Nat.lt_or_ge k n with h' | h'
  .rw [List.getElem?_append_left oM, List.getElem?_append_left oM]
   exact aAd g h n k h'
  .obtain rfl : k = n := by omega
   rw [List.getElem?_append_right oM, List.getElem?_append_right oM, hl]
   simp
theorem aBt (a : Int) (n : Nat) (f : Nat -> Bool) : (dM a n f).length = 2 * n := uR _ _ n
theorem uA (a : Int) (n : Nat) (f : Nat -> Bool) {k : Nat} (hk : k < n) : (dM a n f)[2 * k]? = some (iV (a + k)) /\ (dM a n f)[2 * k + 1]? = some (.bool (f k)) := aAd _ _ n k hk
theorem aKw (a : Int) (n : Nat) (f f' : Nat -> Bool) (v : Bool) {k : Nat} (hk : k < n) (hv : f' k = v) (h : ∀ j, j ≠ k -> f' j = f j) : (dM a n f).set (2 * k + 1) (.bool v) = dM a n f' := by
 apply List.ext_getElem?
 intro i
 have hl := aBt a n f
 have hl' := aBt a n f'
 by_cases hi : i < 2 * n
 .obtain ⟨j, hj⟩ : ∃ j, i = 2 * j \/ i = 2 * j + 1 := ⟨i / 2, by omega⟩
  have hjn : j < n := by omega
  obtain ⟨g1, g2⟩ := uA a n f hjn
  obtain ⟨g1', g2'⟩ := uA a n f' hjn
  rcases hj with rfl | rfl
  .rw [List.getElem?_set_ne oM, g1, g1']
  .by_cases hjk : j = k
   .subst hjk; rw [List.getElem?_set_self oM, g2', hv]
   .rw [List.getElem?_set_ne oM, g2, g2', h j hjk]
 .rw [List.getElem?_eq_none (by simp; omega), List.getElem?_eq_none oM]
theorem uS (a : Int) (n : Nat) {f f' : Nat -> Bool} (h : ∀ j, j < n -> f j = f' j) : dM a n f = dM a n f' := by
 unfold dM
 congr 1
 apply List.map_congr_left
 intro j hj
 rw [h j (by simpa using hj)]
section
variable {F : Nat -> Prop} {w0 w : World} {B : LN} {H : LV} {S : LS}
theorem lJ {α : Type} {k : Nat} {l r : List (Nat × α)} (h : ∀ v, (k, v) ∉ l) : lkp k (l ++ r) = lkp k r := by
 induction l with
 | nil => rfl
 | cons p l ih =>
  obtain ⟨j, u⟩ := p
  have hne : k ≠ j := fun e => h u (by simp [e])
  show lkp k ((j, u) :: (l ++ r)) = _
  rw [aA hne]
  exact ih (fun v hv => h v (List.mem_cons_of_mem _ hv))
theorem lS {t k : Nat} {v : Value} : ∀ (cs : List Value) (o : Nat), (k, v) ∈ aL t o cs -> ∃ j, k = ky t (o + j) /\ j < cs.length
 | [], _, h => by simp [aL] at h
 | c :: cs, o, h => by
  simp only [aL, List.mem_cons] at h
  rcases h with h | h
  .injection h with h1 h2; exact ⟨0, h1, by simp⟩
  .obtain ⟨j, e, hj⟩ := lS cs (o + 1) h
   exact ⟨j + 1, by rw [e]; congr 1; omega, by simp; omega⟩
theorem Sees.aPn {t b : Nat} {cs : List Value} (s : Sees F w0 ((t, b) :: B) (aL t 0 cs ++ H) S w) (hB : lkp t B = none) (hH : ∀ o, o < 4096 -> lkp (ky t o) H = none) (hl : cs.length <= 4096) : Sees F w0 B H [] w :=
 s.to (fun k b' h => by
  rw [aA (fun e => by rw [e, hB] at h; cases h)]; exact h) (fun k o v ho h => by
  have hkt : k ≠ t := fun e => by rw [e, hH o ho] at h; cases h
  have h2 : lkp (ky k o) (aL t 0 cs ++ H) = some v := by
   rw [lJ (fun u hu => by
    obtain ⟨j, e, hj⟩ := lS cs 0 hu
    exact hkt (iA ho oM e).1)]
   exact h
  refine ⟨h2, ?_⟩
  obtain ⟨b', e, _⟩ := s.cells k o v ho h2
  rw [aA hkt] at e
  rw [e]; rfl) (fun k q h => by simp [lkp] at h)
end
def bS (ts : List Int) : List Value := (ts.map fun t => [iV t, iV 0]).flatten
theorem aFl (ts : List Int) : (bS ts).length = 2 * ts.length := by
 unfold bS
 induction ts with
 | nil => rfl
 | cons t ts ih => simp only [List.map_cons, List.flatten_cons, List.length_append, ih]; simp; omega
theorem fT (ts : List Int) (t : Int) : bS ts ++ [iV t, iV 0] = bS (ts ++ [t]) := by
 unfold bS; rw [List.map_append, List.flatten_append]; rfl
theorem mV {ts : List Int} {k : Nat} {t : Int} (h : ts[k]? = some t) : (bS ts)[2 * k]? = some (iV t) /\ (bS ts)[2 * k + 1]? = some (iV 0) := by
 induction ts generalizing k with
 | nil => simp at h
 | cons u ts ih =>
  cases k with
  | zero => cases h; exact ⟨rfl, rfl⟩
  | succ k =>
   obtain ⟨h1, h2⟩ := ih (k := k) (by simpa using h)
   refine ⟨?_, ?_⟩
   .show (bS ts)[2 * k]? = _; exact h1
   .show (bS ts)[2 * k + 1]? = _; exact h2
end Go.Fr
namespace Go.Proofs.YthomapgobmdicaaGreat
open Go.RowKit Go.Fr Go.Tab
section
variable {F : Nat -> Prop} {w0 : World} {B : LN} {H : LV} {S : LS}
def iT (a : Int) (n : Nat) : List Value := ((List.range n).map fun (i : Nat) => [iV (a + i), Value.bool true]).flatten
theorem aNk {x : Int} : ∀ u ∈ [iV x, .bool true], u.oneCell' = true := by
 intro u hu
 simp only [List.mem_cons, List.not_mem_nil, or_false] at hu
 rcases hu with rfl | rfl <;> rfl
theorem zN (a : Int) (n : Nat) : iT a (n + 1) = iT a n ++ [iV (a + n), .bool true] := by
 simp [iT, List.range_succ]
theorem aGr (hlim : Lim 50 B H S) {it : Nat} (hB : lkp 0 B = some it) {xs0 : List Value} {p0 : Option Addr} {n0 c0 : Nat} (hS : lkp 1 S = some ⟨.slice p0 n0 c0, 171, 2, n0, xs0⟩) (h29 : lkp (ky 0 29) H = some (.slice p0 n0 c0)) {a e : Int} (ha : a <= e) (hb : -1000000 <= a /\ e <= 1000000) :
  ∀ w, Sees F w0 B H S w -> Calls Tryz.prog 125 #[pT it, iV a, iV e] w fun r w' => ∃ p c, r = .returned (.tuple #[]) /\
   Sees F w0 B ((ky 0 29, .slice p (e - a).toNat c) :: H) ((1, ⟨.slice p (e - a).toNat c, 171, 2, (e - a).toNat, iT a (e - a).toNat⟩) :: S) w' := by
 intro w s
 refine aF (args := [pT it, iV a, iV e]) (L := [(0, pT it), (1, iV a), (2, iV e)]) (N := 48) Tryz.func125 rfl rfl ble rfl s (g8 ?_)
 refine cO (ι := (Option Addr) × (Nat)) (fun _ => True) (fun _ => [(0, pT it), (1, iV a), (2, iV e), (6, iV (e - a))]) (fun _ => B) (fun | ⟨p, c⟩ => (ky 0 29, .slice p 0 c) :: H) (fun | ⟨p, c⟩ => (1, ⟨.slice p 0 c, 171, 2, 0, []⟩) :: S) ?_ ?_
 .refine g11 ?_
  refine aB rfl (fun hc => ?_) (fun hc => ?_)
  .refine g3 ?_
   refine gL (xF 1 (e := 171) (sz := 2) (by_ := 16) (zs := [iV 0, .bool false]) (c := (e - a).toNat) dE kR rfl (by first | rfl | exact congrArg (fun x : Int => some (iV x)) (show e - a = (((e - a).toNat : Nat) : Int) by omega)) oM oM (fun bm => g2 ?_))
   refine gL (sto 0 rfl rfl hB h29 (g1 ?_))
   refine aK ⟨some ⟨bm, 0, none⟩, (e - a).toNat⟩ trivial kns (fun w s => by exact s.low 50 ((hlim.aPi dE).aPh dE dE) agx agx agx)
  .refine g6 ?_
   refine rZ2 (eN (e := 171) (n := 2) kR rfl rfl oM oM) ?_
   refine gL (sto 0 rfl rfl hB h29 (g1 ?_))
   refine aK ⟨p0, c0⟩ trivial kns (fun w s => by exact (s.cut 1 hS rfl 0 (Nat.zero_le _)).low 50 ((hlim.aPi dE).aPh dE dE) agx agx (by exact Agr.pick (by rfl) (Agr.skip dE (Agr.refl _))))
 rintro ⟨p, c⟩ -
 refine dS ?_
 refine g7 ?_
 refine aY (ι := (Nat) × (Int) × (Option Addr) × (Nat) × (List Value)) (fun | ⟨k, i, p, c, xs⟩ => (e - i).toNat) (fun | ⟨k, i, p, c, xs⟩ => (i = a + k) /\ (i <= e) /\ (xs = iT a k)) (fun | ⟨k, i, p, c, xs⟩ => [(0, pT it), (1, iV a), (2, iV e), (7, iV i)]) (fun _ => B) (fun | ⟨k, i, p, c, xs⟩ => (ky 0 29, .slice p k c) :: H) (fun | ⟨k, i, p, c, xs⟩ => (1, ⟨.slice p k c, 171, 2, k, xs⟩) :: S) ⟨0, a, p, c, []⟩ ⟨by omega, ha, rfl⟩ kns (fun w s => by exact s) ?_
 rintro ⟨k, i, p, c, xs⟩ ⟨hi, hk, hx⟩
 refine dS ?_
 refine g8 ?_
 refine aB rfl (fun hc1 => ?_) (fun hc2 => ?_)
 .have hlt : i < e := oT hc1
  refine g11 ?_
  refine rl (iI (vs := [(0, iV i), (1, .bool true)]) (v := .agg #[iV i, .bool true]) rfl kW) (gL (n5 51 (e := 171) (sz := 2) (by_ := 16) (zs := [iV 0, .bool false]) dE kR rfl dE dE rfl rfl rfl (hlim.s 51 dE) (fun bo => gL (cW 1 51 (e := 171) (sz := 2) (by_ := 16) (zs := [iV 0, .bool false]) dE kR rfl dE rfl rfl rfl rfl ⟨rfl, rfl⟩ ⟨rfl, rfl⟩ aNk sO sO (fun p' c' => g2 ?_)))))
  refine gL (sto 0 rfl rfl hB rfl (g8 ?_))
  refine aN ⟨k + 1, i + 1, p', c', xs ++ [iV i, .bool true]⟩ sO ⟨by omega, by omega, by rw [zN, <- hi, <- hx]⟩ kns (fun w s => by exact s.low 50 ((hlim.aPi dE).aPh dE dE) agx agx agx)
 .refine g4 ?_
  obtain rfl : i = e := by have := oF hc2; omega
  refine fI (.inr rfl) rfl fun w s => ⟨p, c, rfl, ?_⟩
  obtain rfl : k = (i - a).toNat := by omega
  subst hx; exact s
open Go.Md
theorem aIq (a : Int) (n : Nat) : dM a n (fun _ => true) = iT a n := rfl
def nA (r : Ru) (it0 : It) (a : Int) (k j : Nat) : Bool := if j < k then !bad r it0 (a + j) else true
theorem aCg (f : Nat -> Bool) (k : Nat) : (List.range (k + 1)).any f = ((List.range k).any f || f k) := by rw [List.range_succ, List.any_append]; simp
theorem aHu {r : Ru} {it0 : It} {a : Int} {n k : Nat} (hk : k < n) (hb : bad r it0 (a + k) = true) : (dM a n (nA r it0 a k)).set (2 * k + 1) (.bool false) = dM a n (nA r it0 a (k + 1)) := by
 refine aKw a n _ _ false hk (by unfold nA; rw [if_pos (Nat.lt_succ_self k), hb]; rfl) (fun j hj => ?_)
 unfold nA
 rcases Nat.lt_trichotomy j k with h | h | h
 .rw [if_pos h, if_pos oM]
 .exact absurd h hj
 .rw [if_neg oM, if_neg oM]
theorem aIh {r : Ru} {it0 : It} {a : Int} {n k : Nat} (hb : bad r it0 (a + k) = false) : dM a n (nA r it0 a k) = dM a n (nA r it0 a (k + 1)) := by
 refine uS a n fun j hj => ?_
 unfold nA
 rcases Nat.lt_trichotomy j k with h | h | h
 .rw [if_pos h, if_pos oM]
 .subst h; rw [if_neg (Nat.lt_irrefl _), if_pos (Nat.lt_succ_self _), hb]; rfl
 .rw [if_neg oM, if_neg oM]
theorem aC8 {Q : Exit -> Act -> World -> Prop} {r : Ru} {it0 : It} {it rb : Nat} (hB : lkp 0 B = some it) (hR : lkp 1 B = some rb) {p47 : Option Addr} {c47 : Nat} (r47 : lkp (ky 1 47) H = some (.slice p47 r.aPt.length c47)) (hl47 : r.aPt.length <= 1000000000) (hI47 : SrcI F w0 S (.slice p47 r.aPt.length c47) r.aPt) {p48 : Option Addr} {c48 : Nat} (r48 : lkp (ky 1 48) H = some (.slice p48 r.aPu.length c48)) (hl48 : r.aPu.length <= 1000000000) (hI48 : SrcI F w0 S (.slice p48 r.aPu.length c48) r.aPu) {p49 : Option Addr} {c49 : Nat} (r49 : lkp (ky 1 49) H = some (.slice p49 r.aPv.length c49)) (hl49 : r.aPv.length <= 1000000000) (hI49 : SrcI F w0 S (.slice p49 r.aPv.length c49) r.aPv) {p50 : Option Addr} {c50 : Nat} (r50 : lkp (ky 1 50) H = some (.slice p50 r.aPw.length c50)) (hl50 : r.aPw.length <= 1000000000) (hI50 : SrcI F w0 S (.slice p50 r.aPw.length c50) r.aPw) {p52 : Option Addr} {c52 : Nat} (r52 : lkp (ky 1 52) H = some (.slice p52 r.wday.length c52)) (hl52 : r.wday.length <= 1000000000) (hI52 : SrcI F w0 S (.slice p52 r.wday.length c52) r.wday) {p51 p57 : Option Addr} {c51 c57 : Nat} (r51 : lkp (ky 1 51) H = some (.slice p51 r.aPx.length c51)) (r57 : lkp (ky 1 57) H = some (.slice p57 r.aPy.length c57)) {p20 : Option Addr} {c20 : Nat} (h20 : lkp (ky 0 20) H = some (.slice p20 it0.wno.length c20)) (hp20 : 0 < it0.wno.length -> ∃ b, p20 = some ⟨b, 0, none⟩) (hS8 : 0 < it0.wno.length -> lkp 8 S = some ⟨.slice p20 it0.wno.length c20, 3, 1, it0.wno.length, it0.wno.map iV⟩) {p21 : Option Addr} {c21 : Nat} (h21 : lkp (ky 0 21) H = some (.slice p21 it0.nwm.length c21)) (hp21 : 0 < it0.nwm.length -> ∃ b, p21 = some ⟨b, 0, none⟩) (hS9 : 0 < it0.nwm.length -> lkp 9 S = some ⟨.slice p21 it0.nwm.length c21, 3, 1, it0.nwm.length, it0.nwm.map iV⟩) {p22 : Option Addr} {c22 : Nat} (h22 : lkp (ky 0 22) H = some (.slice p22 it0.eas.length c22)) (hp22 : 0 < it0.eas.length -> ∃ b, p22 = some ⟨b, 0, none⟩) (hS10 : 0 < it0.eas.length -> lkp 10 S = some ⟨.slice p22 it0.eas.length c22, 3, 1, it0.eas.length, it0.eas.map iV⟩)
  (h10 : lkp (ky 0 10) H = some (iV (365 + Cal.lp it0.ly))) (h11 : lkp (ky 0 11) H = some (iV (365 + Cal.lp (it0.ly + 1)))) {b3 b4 b5 b6 c3 c4 c5 c6 : Nat} (h15 : lkp (ky 0 15) H = some (sL b3 (nY it0.ly) c3)) (h17 : lkp (ky 0 17) H = some (sL b4 (nY it0.ly) c4))
  (h18 : lkp (ky 0 18) H = some (sL b5 (nY it0.ly) c5)) (h19 : lkp (ky 0 19) H = some (.slice (some ⟨b6, 0 + (ywd it0.ly).toNat * 1, none⟩) (385 - (ywd it0.ly).toNat) (c6 - (ywd it0.ly).toNat)))
  (hS3 : lkp 3 S = some ⟨sL b3 (nY it0.ly) c3, 3, 1, nY it0.ly, (mmY it0.ly).map iV⟩) (hS4 : lkp 4 S = some ⟨sL b4 (nY it0.ly) c4, 3, 1, nY it0.ly, (mdY it0.ly).map iV⟩) (hS5 : lkp 5 S = some ⟨sL b5 (nY it0.ly) c5, 3, 1, nY it0.ly, (mM it0.ly).map iV⟩)
  (hS6 : lkp 6 S = some ⟨sL b6 385 c6, 3, 1, 385, (wd 55).map iV⟩) (hlim : Lim 50 B H S) {db n dc : Nat} {a : Int} (hS1 : lkp 1 S = some ⟨sL db n dc, 171, 2, n, iT a n⟩) (ha : 0 <= a) (han : a + n <= nY it0.ly) (hwn : r.aPx.length ≠ 0 -> a + n <= it0.wno.length) (hnw : it0.nwm.length ≠ 0 -> a + n <= it0.nwm.length) (hea : r.aPy.length ≠ 0 -> a + n <= it0.eas.length)
  (hn : GE Q .normal 1418 [(0, pT it), (2, pT rb), (5, sL db n dc), (6, .bool ((List.range n).any fun (j : Nat) => bad r it0 (a + j)))] F w0 B H ((1, ⟨sL db n dc, 171, 2, n, dM a n (fun j => !bad r it0 (a + j))⟩) :: S)) : GC Tryz.prog (Go.Fr.part [1, 1, 0, 0, 1, 0, 1, 1, 1, 1, 0, 1] (Go.Fr.bodyOf Tryz.f112)) Q 1418 [(0, pT it), (2, pT rb), (5, sL db n dc), (6, .bool false), (98, sL db n dc), (99, iV n), (100, iV 0)] F w0 B H S := by
 have hny := hU it0.ly
 have hlp := Cal.lp_01 it0.ly
 show GC _ (Code.block 2 (Go.Fr.part [1, 1, 0, 0, 1, 0, 1, 1, 1, 1, 0, 1, 0] (Go.Fr.bodyOf Tryz.f112))) _ _ _ _ _ _ _ _
 refine g1 ?_
 refine aY (ι := (Nat) × (List Value) × (Bool)) (fun | ⟨k, xs, f⟩ => n - k) (fun | ⟨k, xs, f⟩ => (k <= n) /\ (xs = dM a n (nA r it0 a k)) /\ (f = (List.range k).any fun (j : Nat) => bad r it0 (a + j))) (fun | ⟨k, xs, f⟩ => [(0, pT it), (2, pT rb), (5, sL db n dc), (6, .bool f), (98, sL db n dc), (99, iV n), (100, iV k)]) (fun _ => B) (fun _ => H) (fun | ⟨k, xs, f⟩ => (1, ⟨sL db n dc, 171, 2, n, xs⟩) :: S) ⟨0, iT a n, false⟩ ⟨Nat.zero_le _, by rw [<- aIq]; exact uS a n (fun j hj => by unfold nA; rw [if_neg (Nat.not_lt_zero j)]), rfl⟩ kns (fun w s => by exact s.rowTo hS1) ?_
 rintro ⟨k, xs, f⟩ ⟨hk, hx, hf⟩
 refine dS ?_
 refine g6 ?_
 refine aB rfl (fun hc1 => ?_) (fun hc2 => ?_)
 .have hlt : k < n := by have := oT hc1; omega
  obtain ⟨hx1, hx2⟩ := uA a n (nA r it0 a k) hlt
  rw [<- hx] at hx1 hx2
  have hxl : xs.length = 2 * n := by rw [hx]; exact aBt _ _ _
  have hfk : nA r it0 a k k = true := by unfold nA; rw [if_neg (Nat.lt_irrefl k)]
  rw [hfk] at hx2
  refine g7 ?_
  refine rl (aC (e := 171) (n := 2) kR rfl rfl oM oM) (rl (fO 1 rfl rfl rfl (by rw [<- hx1]; congr 1; omega) (by rw [<- hx2]; congr 1; omega) kR) (gL (alo 50 (cs := [iV 0, .bool false]) kR (hlim.b 50 dE) (fun b1_ hbb1_ => g1 ?_))))
  refine gL (sta 50 rfl rfl rfl rfl (g10 ?_))
  refine dO (L' := [(0, pT it), (2, pT rb), (5, sL db n dc), (6, .bool f), (7, iV k), (9, iV (a + k)), (98, sL db n dc), (99, iV n), (100, iV k)]) kns (fun w s => s) ?_
  refine aDt (i := a + k) (by exact hB) (by exact hR) (by exact r47) (by exact hl47) (hI47.at aG) (by exact r48) (by exact hl48) (hI48.at aG) (by exact r49) (by exact hl49) (hI49.at aG) (by exact r50) (by exact hl50) (hI50.at aG) (by exact r52) (by exact hl52) (hI52.at aG) (by exact r51) (by exact r57) (by exact h20) (by exact hp20) (by exact hS8) (by exact h21) (by exact hp21) (by exact hS9) (by exact h22) (by exact hp22) (by exact hS10) (by exact h10) (by exact h11) (by exact h15) (by exact h17) (by exact h18) (by exact h19) (by exact hS3) (by exact hS4) (by exact hS5) (by exact hS6) oM (fun h => by have := hwn h; omega) (fun h => by have := hnw h; omega) (fun h => by have := hea h; omega) ?_
  refine g1 ?_
  refine aB rfl (fun hb => ?_) (fun hb => ?_)
  .have hbad : bad r it0 (a + k) = true := hb
   refine g4 ?_
   refine rZ1 (aC (e := 171) (n := 2) kR rfl rfl oM oM) ?_
   refine gL (gS 1 rfl rfl rfl rfl (by rw [hxl]; omega) kR rfl (g11 ?_))
   refine aN ⟨k + 1, xs.set (0 + (k : Int).toNat * 2 + 1) (.bool false), true⟩ sO ⟨by omega, by rw [hx, show 0 + (k : Int).toNat * 2 + 1 = 2 * k + 1 by omega]; exact aHu hlt hbad, by rw [aCg, <- hf, hbad]; simp⟩ kns (fun w s => by exact s.low 50 ((hlim.aPi dE)) agx agx agx)
  .have hbad : bad r it0 (a + k) = false := hb
   refine g7 ?_
   refine aN ⟨k + 1, xs, f⟩ sO ⟨by omega, by rw [hx]; exact aIh hbad, by rw [aCg, <- hf, hbad]; simp⟩ kns (fun w s => by exact s.low 50 ((hlim.aPi dE)) agx agx agx)
 .have hge : ¬ k < n := by have := oF hc2; omega
  obtain rfl : k = n := by omega
  refine g4 ?_
  refine gK (fun a q => q.cons rfl (q.cons rfl (q.cons rfl (q.cons (by exact congrArg (fun b => some (Value.bool b)) hf) q.nil)))) (fun w s => ?_) hn
  rw [hx, show dM a k (nA r it0 a k) = dM a k (fun j => !bad r it0 (a + j)) from uS a k (fun j hj => by unfold nA; rw [if_pos hj])] at s
  exact s
end
end Go.Proofs.YthomapgobmdicaaGreat
namespace Go.Md
open Go.Tab
theorem yM {r : Ru} {o : It} (h : o.fin = true) (t : Int) : gV r o t = o := by unfold gV; rw [if_pos h]
theorem mO {r : Ru} {o : It} {t : Int} (h : o.fin = false) (hu : r.u0 < t) : gV r o t = { o with fin := true } := by unfold gV; rw [h, if_neg dE, if_pos hu]
theorem o4 {r : Ru} {o : It} {t : Int} (h : o.fin = false) (hu : ¬ r.u0 < t) (hs : t < r.d0) : gV r o t = o := by unfold gV; rw [h, if_neg dE, if_neg hu, if_pos hs]
theorem oB {r : Ru} {o : It} {t : Int} (h : o.fin = false) (hu : ¬ r.u0 < t) (hs : ¬ t < r.d0) (hc : o.count = 0) : gV r o t = { o with aP3 := o.aP3 + 1, rem := o.rem ++ [t] } := by unfold gV; rw [h, if_neg dE, if_neg hu, if_neg hs, if_pos hc]
theorem mS {r : Ru} {o : It} {t : Int} (h : o.fin = false) (hu : ¬ r.u0 < t) (hs : ¬ t < r.d0) (hc : o.count ≠ 0) : gV r o t = { o with aP3 := o.aP3 + 1, rem := o.rem ++ [t], count := o.count - 1, fin := o.count - 1 == 0 } := by unfold gV; rw [h, if_neg dE, if_neg hu, if_neg hs, if_neg hc]
theorem lA {r : Ru} {o : It} (h : o.fin = true) : ∀ l, dD r o l = o
 | [] => rfl
 | t :: l => by
  show dD r (gV r o t) l = o
  rw [yM h]; exact lA h l
theorem oY (r : Ru) (o : It) (l l' : List Int) : dD r o (l ++ l') = dD r (dD r o l) l' := by unfold dD; rw [List.foldl_append]
theorem pD {r : Ru} {o : It} {l : List Int} {j : Nat} {t : Int} (h : l[j]? = some t) : dD r o (l.take (j + 1)) = gV r (dD r o (l.take j)) t := by
 rw [List.take_add_one, h, oY]; rfl
theorem kF {r : Ru} {o : It} {l : List Int} {j : Nat} (h : (dD r o (l.take j)).fin = true) : dD r o l = dD r o (l.take j) := by
 conv => lhs; rw [<- List.take_append_drop j l]
 rw [oY, lA h]
theorem aEd {r : Ru} {o : It} (h : o.fin = true) (i : Int) : kM r o i = o := by
 unfold kM
 split
 .rfl
 .exact lA h _
def jO (r : Ru) (it : It) (a : Int) (k : Nat) : It := (List.range k).foldl (fun o (k : Nat) => kM r o (a + k)) it
theorem lB (r : Ru) (it : It) (a : Int) (k : Nat) : jO r it a (k + 1) = kM r (jO r it a k) (a + k) := by
 unfold jO; rw [List.range_succ, List.foldl_append]; rfl
theorem zW {r : Ru} {it : It} {a : Int} {k : Nat} (h : (jO r it a k).fin = true) : ∀ n, k <= n -> jO r it a n = jO r it a k := by
 intro n hn
 induction n with
 | zero =>
  obtain rfl : k = 0 := by omega
  rfl
 | succ n ih =>
  rcases Nat.lt_or_ge k (n + 1) with h' | h'
  .rw [lB, ih oM, aEd h]
  .obtain rfl : k = n + 1 := by omega
   rfl
theorem qX (r : Ru) (it : It) (h : r.aPz.length = 0 \/ it.ts.length = 0) : out r it = aB9 r it := by
 unfold out; rw [if_neg oM]
theorem rO (r : Ru) (it : It) : aB9 r it = jO r it (aX r it).1 ((aX r it).2 - (aX r it).1).toNat := rfl
structure Same (it o : It) : Prop where
 y : o.y = it.y
 mo : o.mo = it.mo
 d : o.d = it.d
 h : o.h = it.h
 mi : o.mi = it.mi
 s : o.s = it.s
 wd : o.wd = it.wd
 ly : o.ly = it.ly
 lm : o.lm = it.lm
 ts : o.ts = it.ts
 wno : o.wno = it.wno
 nwm : o.nwm = it.nwm
 eas : o.eas = it.eas
theorem Same.refl (it : It) : Same it it := ⟨rfl, rfl, rfl, rfl, rfl, rfl, rfl, rfl, rfl, rfl, rfl, rfl, rfl⟩
theorem Same.trans {a b c : It} (h : Same a b) (k : Same b c) : Same a c := ⟨k.y.trans h.y, k.mo.trans h.mo, k.d.trans h.d, k.h.trans h.h, k.mi.trans h.mi, k.s.trans h.s, k.wd.trans h.wd, k.ly.trans h.ly, k.lm.trans h.lm, k.ts.trans h.ts, k.wno.trans h.wno, k.nwm.trans h.nwm, k.eas.trans h.eas⟩
theorem aGv (r : Ru) (o : It) (t : Int) : Same o (gV r o t) := by
 unfold gV
 split
 .exact Same.refl _
 .split
  .exact ⟨rfl, rfl, rfl, rfl, rfl, rfl, rfl, rfl, rfl, rfl, rfl, rfl, rfl⟩
  .split
   .exact Same.refl _
   .split <;> exact ⟨rfl, rfl, rfl, rfl, rfl, rfl, rfl, rfl, rfl, rfl, rfl, rfl, rfl⟩
theorem mU (r : Ru) : ∀ (l : List Int) (o : It), Same o (dD r o l)
 | [], o => Same.refl _
 | t :: l, o => (aGv r o t).trans (mU r l _)
theorem aCa (r : Ru) (o : It) (i : Int) : Same o (kM r o i) := by
 unfold kM
 split
 .exact Same.refl _
 .exact mU r _ _
theorem jB (r : Ru) (it : It) (a : Int) : ∀ k, Same it (jO r it a k)
 | 0 => Same.refl _
 | k + 1 => by rw [lB]; exact (jB r it a k).trans (aCa r _ _)
theorem Same.bad {r : Ru} {it o : It} (h : Same it o) (i : Int) : bad r o i = bad r it i := by unfold Md.bad; rw [h.ly, h.wno, h.nwm, h.eas]
theorem lL {r : Ru} {b : Bool} {s o : It} (h1 : o.h = s.h) (h2 : o.mi = s.mi) (h3 : o.s = s.s) : jL r b o = jL r b s := by
 have e : ∀ t, cX r (bY r.aP2 o t) = cX r (bY r.aP2 s t) := fun t => by
  unfold cX bY
  split
  .simp only [h2, h3]
  .split
   .simp only [h3]
   .rfl
 have e2 : eK r b o = eK r b s := by unfold eK cP; rw [h1, h2, h3]
 unfold jL
 rw [e2]
 congr 1
 funext k
 exact e _
end Go.Md
namespace Go.Proofs.YthomapgobmdicaaGreat
open Go.RowKit Go.Fr Go.Tab
section
variable {F : Nat -> Prop} {w0 : World} {B : LN} {H : LV} {S : LS}
theorem aI2 (hlim : Lim 50 B H S) {it g nb cap j : Nat} (hB : lkp 0 B = some it) (hj : j + 1 < nb) (hc : nb <= cap) (h26 : lkp (ky 0 26) H = some (.slice (some ⟨g, 2 * j, none⟩) (nb - j) (cap - j)))
  {q : Slc} (hS : lkp 0 S = some q) (hq : q.v = sL g nb cap) {x y : Int} (hx : q.xs[2 * j]? = some (iV x)) (hy : q.xs[2 * j + 1]? = some (iV y)) :
  ∀ w, Sees F w0 B H S w -> Calls Tryz.prog 113 #[.pointer (some ⟨it, 26, none⟩)] w fun e w' => e = .returned (.tuple #[.agg #[iV x, iV y], .bool true]) /\
   Sees F w0 B ((ky 0 26, .slice (some ⟨g, 2 * (j + 1), none⟩) (nb - (j + 1)) (cap - (j + 1))) :: H) S w' := by
 intro w s
 refine aF (args := [.pointer (some ⟨it, 26, none⟩)]) (L := [(0, .pointer (some ⟨it, 26, none⟩))]) (N := 40) Tryz.func113 rfl rfl ble rfl s (g2 ?_)
 refine gL (alo 50 (cs := [iV 0, iV 0]) kR (hlim.b 50 dE) (fun b1_ hbb1_ => g14 ?_))
 refine aU rfl (beq_eq_false_iff_ne.2 oM) ?_
 refine g3 ?_
 refine u4 (Sees F w0 B H S) (fun i => i == 15) kR (gr 0 rfl (bC rfl) (gr 1 rfl (bC rfl) (gr 2 rfl (bW rfl) (gr 3 rfl (rfa 0) ?_))))
 refine gr 4 rfl (rld 0 rfl hB h26) (gr 5 rfl (aC (e := 80) (n := 2) kR rfl rfl oM oM) (gr 6 rfl (fO 0 rfl hS hq hx hy kR) (gr 7 rfl (bC rfl) (gr 8 rfl (bW rfl) ?_))))
 refine gr 9 rfl (rfa 0) (gr 10 rfl (rld 0 rfl hB h26) (gr 11 rfl (i6 (e := 80) (n := 2) kR rfl rfl oM oM oM) (gn 12 rfl (sta 50 rfl rfl rfl rfl (gk (gn 13 rfl (gI dE (bW rfl) (gk ?_))))))))
 refine gn 14 rfl (gI dE (rfa 0) (gk (gn 15 rfl (sto 0 rfl rfl hB h26 (gk (fM kR ?_))))))
 refine g12 ?_
 refine aU rfl (beq_eq_false_iff_ne.2 oM) ?_
 refine g4 ?_
 refine rl (aW 50 rfl rfl rfl rfl kR dE) (gL (sta 50 rfl rfl rfl rfl (g4 ?_)))
 refine d9 (.inl rfl) rfl (iP 50 rfl rfl rfl rfl kR) (aE rfl) fun w s => ⟨rfl, s.low 50 (hlim.aPh dE dE) agx agx agx⟩
theorem aIv (hlim : Lim 50 B H S) {it g nb cap j : Nat} (hB : lkp 0 B = some it) (hj : j + 1 = nb) (hc : nb <= cap) (h26 : lkp (ky 0 26) H = some (.slice (some ⟨g, 2 * j, none⟩) (nb - j) (cap - j))) (h27 : lkp (ky 0 27) H = some (sL g nb cap))
  {q : Slc} (hS : lkp 0 S = some q) (hq : q.v = sL g nb cap) {x y : Int} (hx : q.xs[2 * j]? = some (iV x)) (hy : q.xs[2 * j + 1]? = some (iV y)) :
  ∀ w, Sees F w0 B H S w -> Calls Tryz.prog 113 #[.pointer (some ⟨it, 26, none⟩)] w fun e w' => ∃ u, e = .returned (.tuple #[.agg #[iV x, iV y], .bool true]) /\
   Sees F w0 B ((ky 0 26, sL g 0 cap) :: (ky 0 26, u) :: H) S w' := by
 intro w s
 refine aF (args := [.pointer (some ⟨it, 26, none⟩)]) (L := [(0, .pointer (some ⟨it, 26, none⟩))]) (N := 40) Tryz.func113 rfl rfl ble rfl s (g2 ?_)
 refine gL (alo 50 (cs := [iV 0, iV 0]) kR (hlim.b 50 dE) (fun b1_ hbb1_ => g14 ?_))
 refine aU rfl (beq_eq_false_iff_ne.2 oM) ?_
 refine g3 ?_
 refine u4 (Sees F w0 B H S) (fun i => i == 15) kR (gr 0 rfl (bC rfl) (gr 1 rfl (bC rfl) (gr 2 rfl (bW rfl) (gr 3 rfl (rfa 0) ?_))))
 refine gr 4 rfl (rld 0 rfl hB h26) (gr 5 rfl (aC (e := 80) (n := 2) kR rfl rfl oM oM) (gr 6 rfl (fO 0 rfl hS hq hx hy kR) (gr 7 rfl (bC rfl) (gr 8 rfl (bW rfl) ?_))))
 refine gr 9 rfl (rfa 0) (gr 10 rfl (rld 0 rfl hB h26) (gr 11 rfl (tK (e := 80) (n := 2) kR rfl rfl oM oM) (gn 12 rfl (sta 50 rfl rfl rfl rfl (gk (gn 13 rfl (gI dE (bW rfl) (gk ?_))))))))
 refine gn 14 rfl (gI dE (rfa 0) (gk (gn 15 rfl (sto 0 rfl rfl hB h26 (gk (fM kR ?_))))))
 refine g12 ?_
 refine bK rfl (beq_iff_eq.2 oM) ?_
 refine g6 ?_
 refine rZ2 (eN (e := 80) (n := 2) kR rfl rfl oM oM) ?_
 refine gL (sto 0 rfl rfl hB rfl (g4 ?_))
 refine rl (aW 50 rfl rfl rfl rfl kR dE) (gL (sta 50 rfl rfl rfl rfl (g4 ?_)))
 refine d9 (.inl rfl) rfl (iP 50 rfl rfl rfl rfl kR) (aE rfl) fun w s => ⟨_, rfl, s.low 50 ((hlim.aPh dE dE).aPh dE dE) agx agx agx⟩
theorem aKe (hlim : Lim 50 B H S) {it c : Nat} {p : Option Addr} (hB : lkp 0 B = some it) (h26 : lkp (ky 0 26) H = some (.slice p 0 c)) :
  ∀ w, Sees F w0 B H S w -> Calls Tryz.prog 113 #[.pointer (some ⟨it, 26, none⟩)] w fun e w' => e = .returned (.tuple #[.agg #[iV 0, iV 0], .bool false]) /\ Sees F w0 B H S w' := by
 intro w s
 refine aF (args := [.pointer (some ⟨it, 26, none⟩)]) (L := [(0, .pointer (some ⟨it, 26, none⟩))]) (N := 40) Tryz.func113 rfl rfl ble rfl s (g2 ?_)
 refine gL (alo 50 (cs := [iV 0, iV 0]) kR (hlim.b 50 dE) (fun b1_ hbb1_ => uC ?_))
 refine rl (iI (vs := []) (v := .agg #[iV 0, iV 0]) rfl kW) (gL (sta 50 rfl rfl rfl rfl (g5 ?_)))
 refine d9 (.inl rfl) rfl (iP 50 rfl rfl rfl rfl kR) (aE rfl) fun w s => ⟨rfl, s.low 50 (hlim) agx agx agx⟩
theorem aHi (hlim : Lim 50 B H S) {p : Option Addr} {k c : Nat} {bk : Value} :
  ∀ w, Sees F w0 B H S w -> Calls Tryz.prog 123 #[.agg #[.slice p k c, bk]] w fun e w' => e = .returned (iV k) /\ Sees F w0 B H S w' := by
 intro w s
 refine aF (args := [.agg #[.slice p k c, bk]]) (L := [(0, .agg #[.slice p k c, bk])]) (N := 6) Tryz.func123 rfl rfl ble rfl s (g2 ?_)
 refine gL (bxo 50 rfl rfl (hlim.b 50 dE) (fun b1_ hbb1_ => g12 ?_))
 refine aT (.inl rfl) rfl (aE rfl) fun w s => ⟨rfl, s.low 50 (hlim) agx agx agx⟩
theorem s8 (hlim : Lim 50 B H S) {it : Nat} (hB : lkp 0 B = some it) {q : Slc} (hS : lkp 0 S = some q) (h26 : lkp (ky 0 26) H = some q.v) {v27 : Value} (h27 : lkp (ky 0 27) H = some v27) (hqe : q.e = 80 /\ q.sz = 2) (hn : q.n <= 1000000000) {x y : Int} :
  ∀ w, Sees F w0 B H S w -> Calls Tryz.prog 132 #[.pointer (some ⟨it, 26, none⟩), .agg #[iV x, iV y]] w fun e w' => ∃ p' c', e = .returned (.tuple #[]) /\
   Sees F w0 B ((ky 0 27, .slice p' (q.n + 1) c') :: (ky 0 26, .slice p' (q.n + 1) c') :: H) ((0, ⟨.slice p' (q.n + 1) c', 80, 2, q.n + 1, q.xs ++ [iV x, iV y]⟩) :: S) w' := by
 intro w s
 refine aF (args := [.pointer (some ⟨it, 26, none⟩), .agg #[iV x, iV y]]) (L := [(0, .pointer (some ⟨it, 26, none⟩)), (1, .agg #[iV x, iV y])]) (N := 21) Tryz.func132 rfl rfl ble rfl s (g2 ?_)
 refine gL (bxo 50 rfl rfl (hlim.b 50 dE) (fun b1_ hbb1_ => g3 ?_))
 refine u4 (Sees F w0 ((50, b1_) :: B) (aL 50 0 [iV x, iV y] ++ H) []) (fun i => i == 10) kR (yE (i := 0) rfl rfl blx kR rfl dE (bC rfl) (fun w s => by exact s.to (fun _ _ h => h) (fun k o v ho h => ⟨h, (by obtain ⟨b, e, _⟩ := s.cells k o v ho h; rw [e]; rfl)⟩) (fun _ _ h => by simp [lkp] at h)) ?_)
 refine yE (i := 1) rfl rfl blx kR rfl dE (bC rfl) (fun w s => by exact s.to (fun _ _ h => h) (fun k o v ho h => ⟨h, (by obtain ⟨b, e, _⟩ := s.cells k o v ho h; rw [e]; rfl)⟩) (fun _ _ h => by simp [lkp] at h)) ?_
 refine yE (i := 2) rfl rfl blx kR rfl dE (bW rfl) (fun w s => by exact s.to (fun _ _ h => h) (fun k o v ho h => ⟨h, (by obtain ⟨b, e, _⟩ := s.cells k o v ho h; rw [e]; rfl)⟩) (fun _ _ h => by simp [lkp] at h)) ?_
 refine yE (i := 3) rfl rfl blx kR rfl dE (rfa 0) (fun w s => by exact s.to (fun _ _ h => h) (fun k o v ho h => ⟨h, (by obtain ⟨b, e, _⟩ := s.cells k o v ho h; rw [e]; rfl)⟩) (fun _ _ h => by simp [lkp] at h)) ?_
 refine yE (i := 4) rfl rfl blx kR rfl dE (rld 0 rfl hB h26) (fun w s => by exact s.to (fun _ _ h => h) (fun k o v ho h => ⟨h, (by obtain ⟨b, e, _⟩ := s.cells k o v ho h; rw [e]; rfl)⟩) (fun _ _ h => by simp [lkp] at h)) ?_
 refine yE (i := 5) rfl rfl blx kR rfl dE (aW 50 rfl rfl rfl rfl kR dE) (fun w s => by exact s.to (fun _ _ h => h) (fun k o v ho h => ⟨h, (by obtain ⟨b, e, _⟩ := s.cells k o v ho h; rw [e]; rfl)⟩) (fun _ _ h => by simp [lkp] at h)) ?_
 refine gn 6 rfl (n5 50 (e := 80) (sz := 2) (by_ := 16) (zs := [iV 0, iV 0]) dE kR rfl dE dE rfl rfl rfl (hlim.s 50 dE) (fun b2_ => fS (fun _ w s => by exact s.to (fun _ _ h => h) (fun k o v ho h => ⟨h, (by obtain ⟨b, e, _⟩ := s.cells k o v ho h; rw [e]; rfl)⟩) (fun _ _ h => by simp [lkp] at h)) (gn 7 rfl (cW 0 50 (e := 80) (sz := 2) (by_ := 16) (zs := [iV 0, iV 0]) dE kR rfl dE rfl rfl hS rfl hqe ⟨rfl, rfl⟩ aA7 sO sO (fun p' c' => fS (fun _ w s => by exact s.to (fun _ _ h => h) (fun k o v ho h => ⟨h, (by obtain ⟨b, e, _⟩ := s.cells k o v ho h; rw [e]; rfl)⟩) (fun _ _ h => by simp [lkp] at h)) (gn 8 rfl (gI dE (bW rfl) (fS (fun _ w s => by exact s.to (fun _ _ h => h) (fun k o v ho h => ⟨h, (by obtain ⟨b, e, _⟩ := s.cells k o v ho h; rw [e]; rfl)⟩) (fun _ _ h => by simp [lkp] at h)) (gn 9 rfl (gI dE (rfa 0) (fS (fun _ w s => by exact s.to (fun _ _ h => h) (fun k o v ho h => ⟨h, (by obtain ⟨b, e, _⟩ := s.cells k o v ho h; rw [e]; rfl)⟩) (fun _ _ h => by simp [lkp] at h)) (gn 10 rfl (sto 0 rfl rfl hB h26 (gk ?_))))))))))))))
 refine fM kR ?_
 refine g9 ?_
 refine gL (sto 0 rfl rfl hB h27 (g1 ?_))
 refine fI (.inr rfl) rfl fun w s => ⟨p', c', rfl, s.low 50 (((hlim.aPi dE).aPh dE dE).aPh dE dE) agx agx agx⟩
open Go.Md
theorem sG (d : Int) : Cal.dayNo (Cal.yearOf d) (Cal.monthOf d) (Cal.mdayOf d) = d := by
 have := Cal.dayNo_of d 0
 simpa using this
theorem nE {d t : Int} (ht : 0 <= t /\ t < 86400) : Cal.dayNo (Cal.yearOf d) (Cal.monthOf d) (Cal.mdayOf d) * 86400 + t % 86400 / 3600 * 3600 + t % 86400 / 60 % 60 * 60 + t % 86400 % 60 = d * 86400 + t := by
 rw [sG]; omega
theorem aCc {Q : Exit -> Act -> World -> Prop} (hblind : Blind Q) {r : Ru} {it0 : It} (hlim : Lim 40 B H S) {it rb : Nat} (hB : lkp 0 B = some it) (hR : lkp 1 B = some rb) {db n dc : Nat} {a : Int} {fl : Bool}
  (hS1 : lkp 1 S = some ⟨sL db n dc, 171, 2, n, dM a n (fun j => !bad r it0 (a + j))⟩) (ha : 0 <= a) (han : a + n <= 400) (hly : 1 <= it0.ly /\ it0.ly <= 10000)
  (h12 : lkp (ky 0 12) H = some (iV (Cal.daysTo it0.ly * 86400))) (h13 : lkp (ky 0 13) H = some (iV 0)) {tp : Option Addr} {tc : Nat} (h23 : lkp (ky 0 23) H = some (.slice tp it0.ts.length tc)) (hS2 : lkp 2 S = some ⟨.slice tp it0.ts.length tc, 80, 2, it0.ts.length, bS it0.ts⟩)
  (hts : ∀ t ∈ it0.ts, 0 <= t /\ t < 86400) (hbig : n * it0.ts.length <= 100000000) (r39 : lkp (ky 1 39) H = some (iV r.d0)) (r40 : lkp (ky 1 40) H = some (iV 0)) (r44 : lkp (ky 1 44) H = some (iV r.u0)) (r45 : lkp (ky 1 45) H = some (iV r.u1)) (hu : ¬ (r.u0 = 0 /\ r.u1 = 0)) (hu1 : 0 <= r.u1)
  {ln : Value} (r59 : lkp (ky 1 59) H = some ln) {v28 : Value} (h28 : lkp (ky 0 28) H = some v28) (h24 : lkp (ky 0 24) H = some (iV it0.aP3)) (h25 : lkp (ky 0 25) H = some (iV it0.count)) {p0 : Option Addr} {c0 : Nat} (h26 : lkp (ky 0 26) H = some (.slice p0 0 c0)) {bk0 : Value} (h27 : lkp (ky 0 27) H = some bk0)
  (hS0 : lkp 0 S = some ⟨.slice p0 0 c0, 80, 2, 0, []⟩) (hrem : it0.rem = []) (hfin : it0.fin = false) (htot : 0 <= it0.aP3 /\ it0.aP3 <= 1000000000000000) (hcnt : 0 <= it0.count /\ it0.count <= 9223372036854775807)
  (hn : ∀ (o : It) (p : Option Addr) (c : Nat) (bk : Value), o = jO r it0 a n -> o.fin = false -> (o.rem ≠ [] -> bk = .slice p o.rem.length c) -> GE Q .normal 1418 [(0, pT it), (2, pT rb), (6, .bool fl)] F w0 B ((ky 0 24, iV o.aP3) :: (ky 0 25, iV o.count) :: (ky 0 26, .slice p o.rem.length c) :: (ky 0 27, bk) :: H) ((0, ⟨.slice p o.rem.length c, 80, 2, o.rem.length, (bS o.rem)⟩) :: S))
  (hr : ∀ (o : It) (p : Option Addr) (c : Nat) (bk ln : Value), o = jO r it0 a n -> o.fin = true -> (o.rem ≠ [] -> bk = .slice p o.rem.length c) -> GE Q .ret 1418 [] F w0 B ((ky 0 28, .bool true) :: (ky 1 59, ln) :: (ky 0 24, iV o.aP3) :: (ky 0 25, iV o.count) :: (ky 0 26, .slice p o.rem.length c) :: (ky 0 27, bk) :: H) ((0, ⟨.slice p o.rem.length c, 80, 2, o.rem.length, (bS o.rem)⟩) :: S)) : GC Tryz.prog (Go.Fr.part [1, 1, 0, 0, 1, 0, 1, 1, 1, 1, 1, 0, 1, 1, 1] (Go.Fr.bodyOf Tryz.f112)) Q 1418 [(0, pT it), (2, pT rb), (6, .bool fl), (547, sL db n dc), (548, iV n), (549, iV 0)] F w0 B H S := by
 have hdt : 0 <= Cal.daysTo it0.ly /\ Cal.daysTo it0.ly <= 4000000 := by unfold Cal.daysTo; omega
 show GC _ (Code.block 10 (Go.Fr.part [1, 1, 0, 0, 1, 0, 1, 1, 1, 1, 1, 0, 1, 1, 1, 0] (Go.Fr.bodyOf Tryz.f112))) _ _ _ _ _ _ _ _
 refine cQ (φ := 0 < it0.ts.length -> ∃ b, tp = some ⟨b, 0, none⟩ /\ it0.ts.length <= tc) (fun w s h => s.head 2 hS2 h) fun hthead => g1 ?_
 refine aY (ι := (Nat) × (It) × (Int) × (Int) × (Nat) × (List Value) × (Option Addr) × (Nat) × (Value)) (fun | ⟨k, o, tt, cc, m, xs, p, c, bk⟩ => n - k) (fun | ⟨k, o, tt, cc, m, xs, p, c, bk⟩ => (k <= n) /\ (o = jO r it0 a k) /\ (o.fin = false) /\ (tt = o.aP3) /\ (cc = o.count) /\ (m = o.rem.length) /\ (xs = bS o.rem) /\ (0 <= cc /\ cc <= 9223372036854775807) /\ (0 <= tt /\ tt <= it0.aP3 + ((k * it0.ts.length) : Nat)) /\ (m <= (k * it0.ts.length)) /\ (m ≠ 0 -> bk = .slice p m c)) (fun | ⟨k, o, tt, cc, m, xs, p, c, bk⟩ => [(0, pT it), (2, pT rb), (6, .bool fl), (547, sL db n dc), (548, iV n), (549, iV k)]) (fun _ => B) (fun | ⟨k, o, tt, cc, m, xs, p, c, bk⟩ => (ky 0 24, iV tt) :: (ky 0 25, iV cc) :: (ky 0 26, .slice p m c) :: (ky 0 27, bk) :: H) (fun | ⟨k, o, tt, cc, m, xs, p, c, bk⟩ => (0, ⟨.slice p m c, 80, 2, m, xs⟩) :: S) ⟨0, it0, it0.aP3, it0.count, 0, [], p0, c0, bk0⟩ ⟨Nat.zero_le _, rfl, hfin, rfl, rfl, by rw [hrem]; rfl, by rw [hrem]; rfl, hcnt, ⟨htot.1, by omega⟩, Nat.zero_le _, fun h => absurd rfl h⟩ kns (fun w s => by exact (s.to (fun _ _ h => h) (fun k o v ho h => (by rcases bD h with ⟨e, rfl⟩ | ⟨_, h⟩; { rw [e]; exact ⟨h24, by obtain ⟨rfl, rfl⟩ := iA ho dE e; rw [hB]; rfl⟩ }; rcases bD h with ⟨e, rfl⟩ | ⟨_, h⟩; { rw [e]; exact ⟨h25, by obtain ⟨rfl, rfl⟩ := iA ho dE e; rw [hB]; rfl⟩ }; rcases bD h with ⟨e, rfl⟩ | ⟨_, h⟩; { rw [e]; exact ⟨h26, by obtain ⟨rfl, rfl⟩ := iA ho dE e; rw [hB]; rfl⟩ }; rcases bD h with ⟨e, rfl⟩ | ⟨_, h⟩; { rw [e]; exact ⟨h27, by obtain ⟨rfl, rfl⟩ := iA ho dE e; rw [hB]; rfl⟩ }; exact ⟨h, by obtain ⟨b, e, _⟩ := s.cells k o v ho h; rw [e]; rfl⟩)) (fun j q h => (by rcases bD h with ⟨rfl, rfl⟩ | ⟨_, h⟩; exact hS0; exact h)))) ?_
 rintro ⟨k, o, tt, cc, m, xs, p, c, bk⟩ ⟨hk, ho, hf, ht, hc, hm, hx, hcc, htb, hmb, hbk⟩
 refine dS ?_
 refine g6 ?_
 refine aB rfl (fun hc1 => ?_) (fun hc2 => ?_)
 .have hlt : k < n := by have := oT hc1; omega
  obtain ⟨hd1, hd2⟩ := uA a n (fun j => !bad r it0 (a + j)) hlt
  have hkn : k * it0.ts.length + it0.ts.length <= n * it0.ts.length := by rw [<- Nat.succ_mul]; exact Nat.mul_le_mul_right _ hlt
  have hsame := jB r it0 a k
  rw [<- ho] at hsame
  have hsucc := lB r it0 a k
  rw [<- ho] at hsucc
  refine g6 ?_
  refine rl (aC (e := 171) (n := 2) kR rfl rfl oM oM) (rl (fO 1 rfl hS1 rfl (by rw [<- hd1]; congr 1; omega) (by rw [<- hd2]; congr 1; omega) kR) (gL (alo 40 (cs := [iV 0, .bool false]) kR (hlim.b 40 dE) (fun b1_ hbb1_ => gL (sta 40 rfl rfl rfl rfl (g7 ?_))))))
  refine rZ2 ((gX rfl).to (cB (Bool.not_not _))) ?_
  refine aB rfl (fun hb => ?_) (fun hb => ?_)
  .have hbad : bad r it0 (a + k) = true := hb
   have hod : kM r o (a + k) = o := by unfold kM; rw [hsame.bad, hbad]; simp
   refine g8 ?_
   refine aN ⟨k + 1, o, tt, cc, m, xs, p, c, bk⟩ sO ⟨by omega, by rw [hsucc, hod], hf, ht, hc, hm, hx, hcc, ⟨htb.1, by rw [Nat.succ_mul]; omega⟩, by rw [Nat.succ_mul]; omega, hbk⟩ kns (fun w s => by exact s.low 40 (((((hlim.aPh dE dE).aPh dE dE).aPh dE dE).aPh dE dE).aPi dE) agx agx agx)
  .have hbad : bad r it0 (a + k) = false := hb
   have hod : kM r o (a + k) = dD r o (pH it0.ts it0.ly (a + k)) := by unfold kM; rw [hsame.bad, hbad]; simp [hsame.ts, hsame.ly]
   have hmo := Cal.month_bd (Cal.daysTo it0.ly + (a + k))
   have hye := Cal.year_le (Cal.daysTo it0.ly + (a + k)) oM
   have hyd := iQ (x := (Cal.daysTo it0.ly + (a + k)) * 86400) oM
   rw [show (Cal.daysTo it0.ly + (a + k)) * 86400 / 86400 = (Cal.daysTo it0.ly + (a + k)) by omega] at hyd
   refine g15 ?_
   refine rZ1 (aW 0 rfl hB h12 h13 kR dE) ?_
   refine gL (cvo (v := .agg #[iV ((Cal.daysTo it0.ly + (a + k)) * 86400), iV 0]) rfl (fun w_ s_ => (rT _ _ _ oM oM oM w_).mT (cRr (by rw [show Cal.daysTo it0.ly * 86400 + (a + (k : Int)) * 86400 = (Cal.daysTo it0.ly + (a + k)) * 86400 by omega]))) (gL (cvo (v := .tuple #[iV (Cal.yearOf (Cal.daysTo it0.ly + (a + k))), iV (Cal.monthOf (Cal.daysTo it0.ly + (a + k))), iV (Cal.mdayOf (Cal.daysTo it0.ly + (a + k)))]) rfl (fun w_ s_ => (lC _ _ oM w_).mT (cRr (by rw [show (Cal.daysTo it0.ly + (a + k)) * 86400 / 86400 = (Cal.daysTo it0.ly + (a + k)) by omega]))) (g20 ?_))))
   refine aY (ι := (Nat) × (It) × (Int) × (Int) × (Nat) × (List Value) × (Option Addr) × (Nat) × (Value)) (fun | ⟨j, o1, tt1, cc1, m1, xs1, p1, c1, bk1⟩ => it0.ts.length - j) (fun | ⟨j, o1, tt1, cc1, m1, xs1, p1, c1, bk1⟩ => (j <= it0.ts.length) /\ (o1 = dD r o ((pH it0.ts it0.ly (a + k)).take j)) /\ (o1.fin = false) /\ (tt1 = o1.aP3) /\ (cc1 = o1.count) /\ (m1 = o1.rem.length) /\ (xs1 = bS o1.rem) /\ (0 <= cc1 /\ cc1 <= 9223372036854775807) /\ (0 <= tt1 /\ tt1 <= it0.aP3 + ((k * it0.ts.length + j) : Nat)) /\ (m1 <= (k * it0.ts.length + j)) /\ (m1 ≠ 0 -> bk1 = .slice p1 m1 c1)) (fun | ⟨j, o1, tt1, cc1, m1, xs1, p1, c1, bk1⟩ => [(0, pT it), (2, pT rb), (6, .bool fl), (33, iV (Cal.yearOf (Cal.daysTo it0.ly + (a + k)))), (34, iV (Cal.monthOf (Cal.daysTo it0.ly + (a + k)))), (35, iV (Cal.mdayOf (Cal.daysTo it0.ly + (a + k)))), (547, sL db n dc), (548, iV n), (549, iV k), (573, .slice tp it0.ts.length tc), (574, iV (it0.ts.length)), (575, iV j)]) (fun _ => B) (fun | ⟨j, o1, tt1, cc1, m1, xs1, p1, c1, bk1⟩ => (ky 0 24, iV tt1) :: (ky 0 25, iV cc1) :: (ky 0 26, .slice p1 m1 c1) :: (ky 0 27, bk1) :: H) (fun | ⟨j, o1, tt1, cc1, m1, xs1, p1, c1, bk1⟩ => (0, ⟨.slice p1 m1 c1, 80, 2, m1, xs1⟩) :: S) ⟨0, o, tt, cc, m, xs, p, c, bk⟩ ⟨Nat.zero_le _, rfl, hf, ht, hc, hm, hx, hcc, ⟨htb.1, by omega⟩, by omega, hbk⟩ kns (fun w s => by exact s.low 40 (((((hlim.aPh dE dE).aPh dE dE).aPh dE dE).aPh dE dE).aPi dE) agx agx agx) ?_
   rintro ⟨j, o1, tt1, cc1, m1, xs1, p1, c1, bk1⟩ ⟨hj, ho1, hf1, ht1_, hc1_, hm1, hx1, hcc1, htb1, hmb1, hbk1⟩
   refine dS ?_
   have hcl : (pH it0.ts it0.ly (a + k)).length = it0.ts.length := by unfold pH; simp
   refine g6 ?_
   refine aB rfl (fun hc1 => ?_) (fun hc2 => ?_)
   .have hjt : j < it0.ts.length := by have := oT hc1; omega
    obtain ⟨t, htj⟩ : ∃ t, it0.ts[j]? = some t := ⟨_, List.getElem?_eq_getElem hjt⟩
    obtain ⟨ht1, ht2⟩ := mV htj
    have htr := hts t (List.mem_of_getElem? htj)
    obtain ⟨tb, rfl, htcap⟩ : ∃ b, tp = some ⟨b, 0, none⟩ /\ it0.ts.length <= tc := hthead oM
    have hcj : (pH it0.ts it0.ly (a + k))[j]? = some ((Cal.daysTo it0.ly + (a + k)) * 86400 + t) := by unfold pH; rw [List.getElem?_map, htj]; rfl
    have hts1 := pD (r := r) (o := o) hcj
    rw [<- ho1] at hts1
    refine g6 ?_
    refine rl (aC (e := 80) (n := 2) kR rfl rfl oM oM) (rl (fO 2 rfl hS2 rfl (by rw [<- ht1]; congr 1; omega) (by rw [<- ht2]; congr 1; omega) kR) (gL (alo 41 (cs := [iV 0, iV 0]) kR (hlim.b 41 dE) (fun b2_ hbb2_ => gL (sta 41 rfl rfl rfl rfl (g4 ?_))))))
    refine rl (aW 41 rfl rfl rfl rfl kR dE) (gL (cvo (v := .tuple #[iV (t % 86400 / 3600), iV (t % 86400 / 60 % 60), iV (t % 86400 % 60)]) rfl (fun w_ s_ => (jF _ _ oM w_).mT (cRr rfl)) (g9 ?_)))
    refine cO (ι := (Nat)) (fun bt => True) (fun bt => [(0, pT it), (2, pT rb), (6, .bool fl), (33, iV (Cal.yearOf (Cal.daysTo it0.ly + (a + k)))), (34, iV (Cal.monthOf (Cal.daysTo it0.ly + (a + k)))), (35, iV (Cal.mdayOf (Cal.daysTo it0.ly + (a + k)))), (547, sL db n dc), (548, iV n), (549, iV k), (573, sL tb it0.ts.length tc), (574, iV (it0.ts.length)), (575, iV j), (41, pT bt)]) (fun bt => (40, bt) :: B) (fun bt => aL 40 0 [iV ((Cal.daysTo it0.ly + (a + k)) * 86400 + t), iV 0] ++ ((ky 0 24, iV tt1) :: (ky 0 25, iV cc1) :: (ky 0 26, .slice p1 m1 c1) :: (ky 0 27, bk1) :: H)) (fun bt => (0, ⟨.slice p1 m1 c1, 80, 2, m1, xs1⟩) :: S) ?_ ?_
    .refine jY (fun i => i == 12) kR (gr 0 rfl (bC rfl) (gr 1 rfl (bC rfl) (gr 2 rfl (bC rfl) (gr 3 rfl (bC rfl) ?_))))
     refine gr 4 rfl (bC rfl) (gr 5 rfl (bC rfl) (gr 6 rfl (aW 41 rfl rfl rfl rfl kR dE) (gr 8 rfl (aW 41 rfl rfl rfl rfl kR dE) (l6 (i := 7) (j := 11) rfl rfl rfl rfl kR rfl rfl ?_ ?_))))
     .refine cvo rfl (fun w_ s_ => jK _ _ oM w_) (gk ?_)
      refine l6 (i := 9) (j := 11) rfl rfl rfl rfl kR rfl rfl ?_ ?_
      .refine cvo rfl (fun w_ s_ => dR _ _ w_) (gk ?_)
       refine l6 (i := 10) (j := 11) rfl rfl rfl rfl kR rfl rfl ?_ ?_
       .refine cvo (v := .agg #[iV (((Cal.daysTo it0.ly + (a + k)) * 86400 + t)), iV 0]) rfl (fun w_ s_ => (cV _ _ _ _ _ _ _ oM oM oM oM oM oM oM w_).mT (cRr (by rw [nE htr]))) (gk ?_)
        refine gn 11 rfl (alo 40 (cs := [iV 0, iV 0]) kR (hlim.b 40 dE) (fun b3_ hbb3_ => fS (fun _ w s => by exact s.aPn (hlim.b 40 dE) lhx ble) (gn 12 rfl (sta 40 rfl rfl rfl rfl (gk (fM kR ?_))))))
        refine aK b3_ trivial kns (fun w s => by exact s.low 41 ((Lim.aPk dE _ 0 ble ((((((hlim.mono dE).aPj dE).aPh dE dE).aPh dE dE).aPh dE dE).aPh dE dE)).aPi dE) agx agx agx)
       .refine alo 40 (cs := [iV 0, iV 0]) kR (hlim.b 40 dE) (fun b4_ hbb4_ => fS (fun _ w s => by exact s.aPn (hlim.b 40 dE) lhx ble) ?_)
        refine gn 10 rfl (cvo (v := .agg #[iV (((Cal.daysTo it0.ly + (a + k)) * 86400 + t)), iV 0]) rfl (fun w_ s_ => (cV _ _ _ _ _ _ _ oM oM oM oM oM oM oM w_).mT (cRr (by rw [nE htr]))) (fS (fun _ w s => by exact s.aPn (hlim.b 40 dE) lhx ble) (gn 12 rfl (sta 40 rfl rfl rfl rfl (gk (fM kR ?_))))))
        refine aK b4_ trivial kns (fun w s => by exact s.low 41 ((Lim.aPk dE _ 0 ble ((((((hlim.mono dE).aPj dE).aPh dE dE).aPh dE dE).aPh dE dE).aPh dE dE)).aPi dE) agx agx agx)
      .refine alo 40 (cs := [iV 0, iV 0]) kR (hlim.b 40 dE) (fun b5_ hbb5_ => fS (fun _ w s => by exact s.aPn (hlim.b 40 dE) lhx ble) ?_)
       refine gn 9 rfl (cvo rfl (fun w_ s_ => dR _ _ w_) (fS (fun _ w s => by exact s.aPn (hlim.b 40 dE) lhx ble) (gn 10 rfl (cvo (v := .agg #[iV (((Cal.daysTo it0.ly + (a + k)) * 86400 + t)), iV 0]) rfl (fun w_ s_ => (cV _ _ _ _ _ _ _ oM oM oM oM oM oM oM w_).mT (cRr (by rw [nE htr]))) (fS (fun _ w s => by exact s.aPn (hlim.b 40 dE) lhx ble) (gn 12 rfl (sta 40 rfl rfl rfl rfl (gk (fM kR ?_)))))))))
       refine aK b5_ trivial kns (fun w s => by exact s.low 41 ((Lim.aPk dE _ 0 ble ((((((hlim.mono dE).aPj dE).aPh dE dE).aPh dE dE).aPh dE dE).aPh dE dE)).aPi dE) agx agx agx)
     .refine alo 40 (cs := [iV 0, iV 0]) kR (hlim.b 40 dE) (fun b6_ hbb6_ => fS (fun _ w s => by exact s.aPn (hlim.b 40 dE) lhx ble) ?_)
      refine gn 7 rfl (cvo rfl (fun w_ s_ => jK _ _ oM w_) (fS (fun _ w s => by exact s.aPn (hlim.b 40 dE) lhx ble) (gn 9 rfl (cvo rfl (fun w_ s_ => dR _ _ w_) (fS (fun _ w s => by exact s.aPn (hlim.b 40 dE) lhx ble) (gn 10 rfl (cvo (v := .agg #[iV (((Cal.daysTo it0.ly + (a + k)) * 86400 + t)), iV 0]) rfl (fun w_ s_ => (cV _ _ _ _ _ _ _ oM oM oM oM oM oM oM w_).mT (cRr (by rw [nE htr]))) (fS (fun _ w s => by exact s.aPn (hlim.b 40 dE) lhx ble) (gn 12 rfl (sta 40 rfl rfl rfl rfl (gk (fM kR ?_))))))))))))
      refine aK b6_ trivial kns (fun w s => by exact s.low 41 ((Lim.aPk dE _ 0 ble ((((((hlim.mono dE).aPj dE).aPh dE dE).aPh dE dE).aPh dE dE).aPh dE dE)).aPi dE) agx agx agx)
    rintro bt -
    refine dS ?_
    refine g5 ?_
    refine rq (aW 1 rfl hR r44 r45 kR dE) (cJ dE kR rfl (fun w_ s_ => l8 _ _ w_) ?_)
    refine rq ((gX rfl).to (v' := .bool true) (cB (by rw [decide_eq_false hu]; rfl))) (g2 ?_)
    refine rq (aW 40 rfl rfl rfl rfl kR dE) (g7 ?_)
    refine rq (aW 1 rfl hR r44 r45 kR dE) (g1 ?_)
    refine cJ (v := .bool (decide (r.u0 < ((Cal.daysTo it0.ly + (a + k)) * 86400 + t)))) dE kR rfl (fun w_ s_ => (vI _ _ _ _ w_).mT (cRr (cB (decide_eq_decide.2 oM)))) ?_
    refine g3 ?_
    refine aB rfl (fun hc1 => ?_) (fun hc2 => ?_)
    .have hun : r.u0 < ((Cal.daysTo it0.ly + (a + k)) * 86400 + t) := oT hc1
     have hem : gV r o1 ((Cal.daysTo it0.ly + (a + k)) * 86400 + t) = { o1 with fin := true } := mO hf1 hun
     refine g9 ?_
     refine gL (sto 1 rfl rfl hR r59 (g7 ?_))
     refine gL (sto 0 rfl rfl hB h28 (g11 ?_))
     have hfin2 : ({ o1 with fin := true } : It).fin = true := rfl
     have hall : ({ o1 with fin := true } : It) = jO r it0 a n := by
      have e1 : dD r o (pH it0.ts it0.ly (a + k)) = _ := kF (j := j + 1) ((congrArg It.fin (hts1.trans hem)).trans hfin2)
      rw [hts1, hem] at e1
      have e2 : jO r it0 a (k + 1) = _ := hsucc.trans (hod.trans e1)
      rw [zW (k := k + 1) ((congrArg It.fin e2).trans hfin2) n hlt, e2]
     refine gK (fun a q => q.nil) (fun w s => ?_) (hr { o1 with fin := true } p1 c1 bk1 (iV tt1) hall hfin2 (fun h => by rw [<- hm1]; exact hbk1 (fun e => h (List.eq_nil_of_length_eq_zero sO))))
     subst ht1_ hc1_ hm1 hx1
     exact s.low 40 (((((((hlim.aPh dE dE).aPh dE dE).aPh dE dE).aPh dE dE).aPh dE dE).aPh dE dE).aPi dE) agx agx agx
    .have hun : ¬ r.u0 < ((Cal.daysTo it0.ly + (a + k)) * 86400 + t) := oF hc2
     refine g2 ?_
     refine rq (aW 40 rfl rfl rfl rfl kR dE) (g3 ?_)
     refine rq (aW 1 rfl hR r39 r40 kR dE) (cJ (v := .bool (decide (((Cal.daysTo it0.ly + (a + k)) * 86400 + t) < r.d0))) dE kR rfl (fun w_ s_ => (mF _ _ _ _ w_).mT (cRr (cB (decide_eq_decide.2 oM)))) ?_)
     refine g3 ?_
     refine aB rfl (fun hc1 => ?_) (fun hc2 => ?_)
     .have hst : ¬ ((Cal.daysTo it0.ly + (a + k)) * 86400 + t) < r.d0 := by simpa using hc1
      refine g9 ?_
      refine gL (sto 0 rfl rfl hB rfl (g3 ?_))
      refine dH 4 kR kR (g3 ?_)
      refine rt (aW 40 rfl rfl rfl rfl kR dE) (g1 ?_)
      refine gL (d8 (ι := Option Addr × Nat) (fun _ => .tuple #[]) (fun _ => True) (fun _ => _) (fun x => (ky 0 27, .slice x.1 (m1 + 1) x.2) :: (ky 0 26, .slice x.1 (m1 + 1) x.2) :: _) (fun x => (0, ⟨.slice x.1 (m1 + 1) x.2, 80, 2, m1 + 1, xs1 ++ [iV ((Cal.daysTo it0.ly + (a + k)) * 86400 + t), iV 0]⟩) :: _) dE kR rfl (fun w_ s_ => (s8 (((Lim.aPk dE _ 0 ble ((((((hlim.mono dE).aPj dE).aPh dE dE).aPh dE dE).aPh dE dE).aPh dE dE)).aPi dE).aPh dE dE) (by exact hB) (q := ⟨.slice p1 m1 c1, 80, 2, m1, xs1⟩) rfl rfl rfl ⟨rfl, rfl⟩ sO w_ s_).mono fun e w' ⟨p', c', he, hs⟩ => ⟨(p', c'), trivial, he, hs⟩) (fun | (p2, c2), _ => g11 ?_))
      refine aB rfl (fun hc1 => ?_) (fun hc2 => ?_)
      .have hcz : cc1 ≠ 0 := bne_iff_ne.1 hc1
       have hem : gV r o1 ((Cal.daysTo it0.ly + (a + k)) * 86400 + t) = { o1 with aP3 := o1.aP3 + 1, rem := o1.rem ++ [((Cal.daysTo it0.ly + (a + k)) * 86400 + t)], count := o1.count - 1, fin := o1.count - 1 == 0 } := mS hf1 hun hst oM
       refine g9 ?_
       refine gL (sto 0 rfl rfl hB rfl (g11 ?_))
       refine aB rfl (fun hc1 => ?_) (fun hc2 => ?_)
       .have hz : cc1 - 1 = 0 := beq_iff_eq.1 hc1
        refine g9 ?_
        refine gL (sto 1 rfl rfl hR r59 (g7 ?_))
        refine gL (sto 0 rfl rfl hB h28 (g11 ?_))
        have hfin2 : ({ o1 with aP3 := o1.aP3 + 1, rem := o1.rem ++ [((Cal.daysTo it0.ly + (a + k)) * 86400 + t)], count := o1.count - 1, fin := o1.count - 1 == 0 } : It).fin = true := (beq_iff_eq.2 oM)
        have hall : ({ o1 with aP3 := o1.aP3 + 1, rem := o1.rem ++ [((Cal.daysTo it0.ly + (a + k)) * 86400 + t)], count := o1.count - 1, fin := o1.count - 1 == 0 } : It) = jO r it0 a n := by
         have e1 : dD r o (pH it0.ts it0.ly (a + k)) = _ := kF (j := j + 1) ((congrArg It.fin (hts1.trans hem)).trans hfin2)
         rw [hts1, hem] at e1
         have e2 : jO r it0 a (k + 1) = _ := hsucc.trans (hod.trans e1)
         rw [zW (k := k + 1) ((congrArg It.fin e2).trans hfin2) n hlt, e2]
        refine gK (fun a q => q.nil) (fun w s => ?_) (hr { o1 with aP3 := o1.aP3 + 1, rem := o1.rem ++ [((Cal.daysTo it0.ly + (a + k)) * 86400 + t)], count := o1.count - 1, fin := o1.count - 1 == 0 } p2 c2 (.slice p2 (m1 + 1) c2) (iV (tt1 + 1)) hall hfin2 (fun _ => by simp only [List.length_append, List.length_singleton]; rw [hm1]))
        subst ht1_ hc1_ hm1 hx1
        rw [fT] at s
        simp only [List.length_append, List.length_singleton]
        exact s.low 40 (((((((hlim.aPh dE dE).aPh dE dE).aPh dE dE).aPh dE dE).aPh dE dE).aPh dE dE).aPi dE) agx agx agx
       .have hz : cc1 - 1 ≠ 0 := beq_eq_false_iff_ne.1 hc2
        refine g7 ?_
        refine aN ⟨j + 1, { o1 with aP3 := o1.aP3 + 1, rem := o1.rem ++ [((Cal.daysTo it0.ly + (a + k)) * 86400 + t)], count := o1.count - 1, fin := o1.count - 1 == 0 }, tt1 + 1, cc1 - 1, m1 + 1, xs1 ++ [iV ((Cal.daysTo it0.ly + (a + k)) * 86400 + t), iV 0], p2, c2, .slice p2 (m1 + 1) c2⟩ sO ⟨by omega, by rw [hts1, hem], by simp only [beq_eq_false_iff_ne]; omega, by rw [ht1_], by rw [hc1_], by simp [hm1], by rw [hx1]; exact fT _ _, by omega, by omega, by omega, fun _ => rfl⟩ kns (fun w s => by exact s.low 40 (((((hlim.aPh dE dE).aPh dE dE).aPh dE dE).aPh dE dE).aPi dE) agx agx agx)
      .have hcz : cc1 = 0 := bne_eq_false_iff_eq.1 hc2
       have hem : gV r o1 ((Cal.daysTo it0.ly + (a + k)) * 86400 + t) = { o1 with aP3 := o1.aP3 + 1, rem := o1.rem ++ [((Cal.daysTo it0.ly + (a + k)) * 86400 + t)] } := oB hf1 hun hst oM
       refine g7 ?_
       refine aN ⟨j + 1, { o1 with aP3 := o1.aP3 + 1, rem := o1.rem ++ [((Cal.daysTo it0.ly + (a + k)) * 86400 + t)] }, tt1 + 1, cc1, m1 + 1, xs1 ++ [iV ((Cal.daysTo it0.ly + (a + k)) * 86400 + t), iV 0], p2, c2, .slice p2 (m1 + 1) c2⟩ sO ⟨by omega, by rw [hts1, hem], hf1, by rw [ht1_], hc1_, by simp [hm1], by rw [hx1]; exact fT _ _, hcc1, by omega, by omega, fun _ => rfl⟩ kns (fun w s => by exact s.low 40 (((((hlim.aPh dE dE).aPh dE dE).aPh dE dE).aPh dE dE).aPi dE) agx agx agx)
     .have hst : ((Cal.daysTo it0.ly + (a + k)) * 86400 + t) < r.d0 := by simpa using hc2
      have hem : gV r o1 ((Cal.daysTo it0.ly + (a + k)) * 86400 + t) = o1 := o4 hf1 hun hst
      refine g7 ?_
      refine aN ⟨j + 1, o1, tt1, cc1, m1, xs1, p1, c1, bk1⟩ sO ⟨by omega, by rw [hts1, hem], hf1, ht1_, hc1_, hm1, hx1, hcc1, ⟨htb1.1, by omega⟩, by omega, hbk1⟩ kns (fun w s => by exact s.low 40 (((((hlim.aPh dE dE).aPh dE dE).aPh dE dE).aPh dE dE).aPi dE) agx agx agx)
   .have hge : ¬ j < it0.ts.length := by have := oF hc2; omega
    refine g10 ?_
    refine aN ⟨k + 1, o1, tt1, cc1, m1, xs1, p1, c1, bk1⟩ sO ⟨by omega, by rw [hsucc, hod, ho1, List.take_of_length_le (by rw [hcl]; omega)], hf1, ht1_, hc1_, hm1, hx1, hcc1, ⟨htb1.1, by rw [Nat.succ_mul]; omega⟩, by rw [Nat.succ_mul]; omega, hbk1⟩ kns (fun w s => by exact s.low 40 (((((hlim.aPh dE dE).aPh dE dE).aPh dE dE).aPh dE dE).aPi dE) agx agx agx)
 .have hge : ¬ k < n := by have := oF hc2; omega
  obtain rfl : k = n := by omega
  refine g4 ?_
  refine gK kns (fun w s => ?_) (hn o p c bk ho hf (fun h => by rw [<- hm]; exact hbk (fun e => h (List.eq_nil_of_length_eq_zero oM))))
  subst ht hc hm hx
  exact s
end
open Go.RowKit Go.Fr Go.Tab
end Go.Proofs.YthomapgobmdicaaGreat
namespace Go.Fr
open Go.RowKit
section
variable {P : Program} {Q Q' : Exit -> Act -> World -> Prop} {K : Act -> World -> Prop} {N : Nat} {L : Loc} {F : Nat -> Prop} {w0 : World} {B : LN} {H : LV} {S : LS}
variable {d : Nat} {v : Value} {ty : TypeId} {pos : String} {aft : Array Edge} {g : Option (Nat × Bool)}
theorem aA4 {a : Act} {w : World} {f : FuncId} {x : Operand} {first capt : List Value} {aS : List Operand} {ats : Array TypeId} {args : List Value} {dst : Option Nat} (k : Kn N L a) (hx : ev L x = some (.func (.func f) first.toArray capt.toArray)) (hf : gM P f = true) (ha : Fr.evs L aS = some args) :
  (execOp a.eval ⟨dst, .call ⟨.value x, aS.toArray, ats⟩, ty, pos, aft, g⟩).run P w = .ok (.enter f (first ++ args ++ capt).toArray) w := by
 unfold gM at hf
 split at hf
 .rename_i fn hfn
  simp only [Bool.and_eq_true, Bool.not_eq_true'] at hf
  obtain ⟨c, hb⟩ := Option.isSome_iff_exists.1 hf.1
  have hnm : ¬ fn.name = "runtime.NumGoroutine" := by simpa using hf.2
  simp [execOp, resolve, k.eval hx, Deferred.ofValue, invoke, callFunc, hfn, hnm, hb, k.evs ha]
 .cases hf
theorem jE {ι : Type} {f : FuncId} {x : Operand} {first capt : List Value} {aS : List Operand} {ats : Array TypeId} {args : List Value} (V : ι -> Value) (Pr : ι -> Prop) (Bx : ι -> LN) (Hx : ι -> LV) (Sx : ι -> LS) (hd : d < N)
  (hx : ev L x = some (.func (.func f) first.toArray capt.toArray)) (hf : gM P f = true) (ha : Fr.evs L aS = some args)
  (hc : ∀ w, Sees F w0 B H S w -> Calls P f (first ++ args ++ capt).toArray w fun e w' => ∃ x, Pr x /\ e = .returned (V x) /\ Sees F w0 (Bx x) (Hx x) (Sx x) w')
  (hn : ∀ x, Pr x -> GK K N ((d, V x) :: L) F w0 (Bx x) (Hx x) (Sx x)) : GO P ⟨some d, .call ⟨.value x, aS.toArray, ats⟩, ty, pos, aft, none⟩ Q K N L F w0 B H S := fun a w k s => by
 show Oper.upon _ _ _ _ _ _
 rw [aA4 k hx hf ha]
 refine (hc w s).mono ?_
 rintro e w' ⟨x, hx, rfl, s'⟩
 exact hn x hx _ _ (k.put hd _) s'
theorem iJ {f : FuncId} {aS cs : List Operand} {first capt : List Value} (ha : Fr.evs L aS = some first) (hc : Fr.evs L cs = some capt) : Rd P ⟨some d, .makeFunc (.func f) aS.toArray cs.toArray, ty, pos, aft, g⟩ N L F w0 B H S (.func (.func f) first.toArray capt.toArray) := fun a w k s => by
 simp [execOp, Instr.makeFunc, k.evs ha, k.evs hc]
theorem dC (j : Nat) {t : TypeId} {x : Operand} {b off : Nat} {cs : List Value} (hx : ev L x = some (.pointer (some ⟨b, off, none⟩))) (hb : lkp j B = some b) (hc : ∀ i u, cs[i]? = some u -> lkp (ky j (off + i)) H = some u) (ho : off + cs.length <= 4096) (ht : zP P t = some cs.length) : Rd P ⟨some d, .load t x, ty, pos, aft, g⟩ N L F w0 B H S (.agg cs.toArray) :=
 fL (cs := cs) ht hx fun w s i u hu => by
  have hi : i < cs.length := by
   rcases Nat.lt_or_ge i cs.length with h' | h'
   .exact h'
   .simp [List.getElem?_eq_none h'] at hu
  exact s.cell hb oM (hc i u hu)
def cellsAt (j : Nat) (H : LV) : Nat -> List Value -> Prop
 | _, [] => True
 | o, v :: r => lkp (ky j o) H = some v /\ cellsAt j H (o + 1) r
theorem cellsAt.get {j : Nat} {H : LV} : ∀ {cs : List Value} {o : Nat}, cellsAt j H o cs -> ∀ (i : Nat) (u : Value), cs[i]? = some u -> lkp (ky j (o + i)) H = some u
 | [], _, _, i, u, h => by simp at h
 | v :: r, o, h, 0, u, e => by cases e; exact h.1
 | v :: r, o, h, i + 1, u, e => by
  have := cellsAt.get h.2 i u (by simpa using e)
  rwa [show o + 1 + i = o + (i + 1) by omega] at this
theorem wX {j : Nat} {H : LV} : ∀ (n o : Nat), (∀ k, o <= k -> k < o + n -> ∃ v, lkp (ky j k) H = some v) -> knwn j H o n = true
 | 0, _, _ => rfl
 | n + 1, o, h => by
  obtain ⟨v, hv⟩ := h o (Nat.le_refl _) oM
  simp only [knwn, hv, Option.isSome_some, Bool.true_and]
  exact wX n (o + 1) fun k h1 h2 => h k oM oM
def kE (k : Nat) (H : LV) : LV := H.filter fun p => p.1 / 4096 != k
theorem oS {α : Type} {f : Nat × α -> Bool} {q : Nat} (hf : ∀ v, f (q, v) = true) : ∀ (l : List (Nat × α)), lkp q (l.filter f) = lkp q l
 | [] => rfl
 | (j, v) :: l => by
  by_cases e : q = j
  .subst e
   rw [List.filter_cons_of_pos (hf v), bJ, bJ]
  .rw [aA e]
   by_cases h : f (j, v) = true
   .rw [List.filter_cons_of_pos h, aA e]; exact oS hf l
   .rw [List.filter_cons_of_neg h]; exact oS hf l
theorem o7 {α : Type} {f : Nat × α -> Bool} {q : Nat} (hf : ∀ v, f (q, v) = false) : ∀ (l : List (Nat × α)), lkp q (l.filter f) = none
 | [] => rfl
 | (j, v) :: l => by
  by_cases h : f (j, v) = true
  .rw [List.filter_cons_of_pos h]
   have e : q ≠ j := fun e => by subst e; rw [hf v] at h; cases h
   rw [aA e]; exact o7 hf l
  .rw [List.filter_cons_of_neg h]; exact o7 hf l
theorem r7 {k o : Nat} (h : o < 4096) : ky k o / 4096 = k := by unfold ky; omega
theorem aM {k q : Nat} {H : LV} (h : q / 4096 ≠ k) : lkp q (kE k H) = lkp q H := oS (fun v => by simpa using h) H
theorem lQ {k o : Nat} (h : o < 4096) (H : LV) : lkp (ky k o) (kE k H) = none := o7 (fun v => by simp [r7 h]) H
theorem Sees.dropTag {w : World} {k b : Nat} (s : Sees F w0 ((k, b) :: B) H S w) (hk : lkp k B = none) : Sees F w0 B (kE k H) S w :=
 s.to (fun j b' h => by rw [aA (fun e => by rw [e, hk] at h; cases h)]; exact h) (fun j o v ho h => by
  have hjk : j ≠ k := fun e => by rw [e, lQ ho] at h; cases h
  rw [aM (by rw [r7 ho]; exact hjk)] at h
  obtain ⟨b', e, _⟩ := s.cells j o v ho h
  rw [aA hjk] at e
  exact ⟨h, by rw [e]; rfl⟩) (fun j q h => h)
theorem yY {k o : Nat} {v : Value} {H : LV} (h : o < 4096) : kE k ((ky k o, v) :: H) = kE k H := by
 unfold kE; rw [List.filter_cons_of_neg (by simp [r7 h])]
theorem uT {k : Nat} : ∀ (cs : List Value) (o : Nat) {H : LV}, o + cs.length <= 4096 -> kE k (dL k o cs H) = kE k H
 | [], _, _, _ => rfl
 | v :: r, o, H, h => by
  simp only [List.length_cons] at h
  show kE k (dL k (o + 1) r ((ky k o, v) :: H)) = _
  rw [uT r (o + 1) oM, yY oM]
theorem aAa {k : Nat} : ∀ (cs : List Value) (o : Nat) {H : LV}, o + cs.length <= 4096 -> kE k (aL k o cs ++ H) = kE k H
 | [], _, _, _ => rfl
 | v :: r, o, H, h => by
  simp only [List.length_cons] at h
  show kE k ((ky k o, v) :: (aL k (o + 1) r ++ H)) = _
  rw [yY oM, aAa r (o + 1) oM]
end
end Go.Fr
namespace Go.Fr
open Go.RowKit
def Prs (w : World) (v : Value) (xs : List (Int × Int)) : Prop := ∃ p c, v = .slice p xs.length c /\ ∀ (i : Nat) (x : Int × Int), xs[i]? = some x -> ∃ b o, p = some ⟨b, o, none⟩ /\ w.cell? ⟨b, o + 2 * i, none⟩ = some (iV x.1) /\ w.cell? ⟨b, o + 2 * i + 1, none⟩ = some (iV x.2)
def eB (xs : List (Int × Int)) : List Value := (xs.map fun x => [iV x.1, iV x.2]).flatten
theorem xS (xs : List (Int × Int)) : (eB xs).length = 2 * xs.length := by
 unfold eB
 induction xs with
 | nil => rfl
 | cons t ts ih => simp only [List.map_cons, List.flatten_cons, List.length_append, ih]; simp; omega
theorem nX (xs : List (Int × Int)) (x : Int × Int) : eB xs ++ [iV x.1, iV x.2] = eB (xs ++ [x]) := by
 unfold eB; rw [List.map_append, List.flatten_append]; rfl
theorem xD {xs : List (Int × Int)} {k : Nat} {x : Int × Int} (h : xs[k]? = some x) : (eB xs)[2 * k]? = some (iV x.1) /\ (eB xs)[2 * k + 1]? = some (iV x.2) := by
 induction xs generalizing k with
 | nil => simp at h
 | cons u us ih =>
  cases k with
  | zero => cases h; exact ⟨rfl, rfl⟩
  | succ k =>
   obtain ⟨h1, h2⟩ := ih (k := k) (by simpa using h)
   refine ⟨?_, ?_⟩
   .show (eB us)[2 * k]? = _; exact h1
   .show (eB us)[2 * k + 1]? = _; exact h2
def SrcP (F : Nat -> Prop) (w0 : World) (S : LS) (v : Value) (xs : List (Int × Int)) : Prop := ∀ B H S' w, (∀ k, 11 <= k -> k < 30 -> lkp k S' = lkp k S) -> Sees F w0 B H S' w -> Prs w v xs
section
variable {F : Nat -> Prop} {w0 w : World} {B : LN} {H : LV} {S S' : LS} {v : Value} {xs : List Int} {ps : List (Int × Int)} {p : Option Addr} {n c : Nat}
theorem SrcP.to (h : SrcP F w0 S v ps) (ha : ∀ k, 11 <= k -> k < 30 -> lkp k S' = lkp k S) : SrcP F w0 S' v ps := fun B H S2 w h2 s => h B H S2 w (fun k h3 h4 => (h2 k h3 h4).trans (ha k h3 h4)) s
theorem SrcP.nil {p : Option Addr} {c : Nat} : SrcP F w0 S (.slice p 0 c) [] := fun _ _ _ _ _ _ => ⟨p, c, rfl, fun i x h => by simp at h⟩
theorem SrcP.old (h : Prs w0 v ps) (hF : ∀ b o n c, v = .slice (some ⟨b, o, none⟩) n c -> ¬ F b) : SrcP F w0 S v ps := fun B H S' w _ s => by
 obtain ⟨p, c, rfl, hc⟩ := h
 refine ⟨p, c, rfl, fun i x hx => ?_⟩
 obtain ⟨b, o, rfl, h1, h2⟩ := hc i x hx
 exact ⟨b, o, rfl, s.aPo h1 (hF b o _ _ rfl), s.aPo h2 (hF b o _ _ rfl)⟩
theorem SrcP.row {k : Nat} {e : TypeId} (hk : 11 <= k /\ k < 30) (h : lkp k S = some ⟨.slice p n c, e, 2, n, eB ps⟩) : SrcP F w0 S (.slice p n c) ps := fun B H S' w ha s => by
 have h1 : lkp k S' = some ⟨.slice p n c, e, 2, n, eB ps⟩ := (ha k hk.1 hk.2).trans h
 have ho := s.slcs k _ h1
 have hl : ps.length = n := by have h2 : (eB ps).length = n * 2 := ho.1; rw [xS] at h2; omega
 subst hl
 refine ⟨p, c, rfl, fun i x hx => ?_⟩
 obtain ⟨g1, g2⟩ := xD hx
 rcases ho.2 with ⟨e1, e2⟩ | ⟨g, cap, cur, e1, _⟩
 .have : ps = [] := List.eq_nil_of_length_eq_zero e2
  subst this; simp at hx
 .injection e1 with e1 e2 e3
  subst e1 e3
  have hc1 := ho.cells (g := g) (by rfl) _ _ g1
  have hc2 := ho.cells (g := g) (by rfl) _ _ g2
  exact ⟨g, 0, rfl, by rwa [Addr.add_mid] at hc1, by rw [Addr.add_mid] at hc2; exact hc2⟩
theorem SrcI.head (h : SrcI F w0 S (.slice p n c) xs) (s : Sees F w0 B H S w) (hn : 0 < xs.length) : ∃ b o, p = some ⟨b, o, none⟩ := by
 obtain ⟨p', c', e, hc⟩ := h B H S w (fun _ _ _ => rfl) s
 injection e with e1 e2 e3
 subst e1
 obtain ⟨b, o, e, _⟩ := hc 0 _ (List.getElem?_eq_getElem hn)
 exact ⟨b, o, e⟩
theorem SrcI.cell {b o : Nat} (h : SrcI F w0 S (.slice (some ⟨b, o, none⟩) n c) xs) {i : Nat} {x : Int} (hx : xs[i]? = some x) (ha : ∀ k, 11 <= k -> k < 30 -> lkp k S' = lkp k S) (s : Sees F w0 B H S' w) : w.cell? ⟨b, o + i * 1, none⟩ = some (iV x) := by
 obtain ⟨p', c', e, hc⟩ := h B H S' w ha s
 injection e with e1 e2 e3
 subst e1
 obtain ⟨b', o', e, h1⟩ := hc i x hx
 cases e
 rw [Nat.mul_one]; exact h1
theorem SrcP.head (h : SrcP F w0 S (.slice p n c) ps) (s : Sees F w0 B H S w) (hn : 0 < ps.length) : ∃ b o, p = some ⟨b, o, none⟩ := by
 obtain ⟨p', c', e, hc⟩ := h B H S w (fun _ _ _ => rfl) s
 injection e with e1 e2 e3
 subst e1
 obtain ⟨b, o, e, _⟩ := hc 0 _ (List.getElem?_eq_getElem hn)
 exact ⟨b, o, e⟩
theorem SrcP.cell {b o : Nat} (h : SrcP F w0 S (.slice (some ⟨b, o, none⟩) n c) ps) {i : Nat} {x : Int × Int} (hx : ps[i]? = some x) (ha : ∀ k, 11 <= k -> k < 30 -> lkp k S' = lkp k S) (s : Sees F w0 B H S' w) : w.cell? ⟨b, o + i * 2, none⟩ = some (iV x.1) /\ w.cell? ⟨b, o + i * 2 + 1, none⟩ = some (iV x.2) := by
 obtain ⟨p', c', e, hc⟩ := h B H S' w ha s
 injection e with e1 e2 e3
 subst e1
 obtain ⟨b', o', e, h1, h2⟩ := hc i x hx
 cases e
 rw [Nat.mul_comm i 2]; exact ⟨h1, h2⟩
end
abbrev TG (t k : Nat) : Prop := k = t \/ k = 11 \/ (26 <= k /\ k < 30)
def SrcT (F : Nat -> Prop) (w0 : World) (S : LS) (t : Nat) (v : Value) (xs : List Int) : Prop := ∀ B H S' w, (∀ k, TG t k -> lkp k S' = lkp k S) -> Sees F w0 B H S' w -> Ints w v xs
def SrcU (F : Nat -> Prop) (w0 : World) (S : LS) (t : Nat) (v : Value) (xs : List (Int × Int)) : Prop := ∀ B H S' w, (∀ k, TG t k -> lkp k S' = lkp k S) -> Sees F w0 B H S' w -> Prs w v xs
section
variable {F : Nat -> Prop} {w0 w : World} {B : LN} {H : LV} {S S' : LS} {v : Value} {xs : List Int} {ps : List (Int × Int)} {p : Option Addr} {n c t j : Nat} {q : Slc}
theorem SrcT.cons (h : SrcT F w0 S t v xs) (hj : ¬ TG t j) : SrcT F w0 ((j, q) :: S) t v xs := fun B H S' w ha s => h B H S' w (fun k hk => (ha k hk).trans (aA (fun e => by subst e; exact hj hk) _ _)) s
theorem SrcU.cons (h : SrcU F w0 S t v ps) (hj : ¬ TG t j) : SrcU F w0 ((j, q) :: S) t v ps := fun B H S' w ha s => h B H S' w (fun k hk => (ha k hk).trans (aA (fun e => by subst e; exact hj hk) _ _)) s
theorem SrcT.toI (h : SrcT F w0 S t v xs) (ht : 11 <= t /\ t < 30) : SrcI F w0 S v xs := fun B H S' w ha s => h B H S' w (fun k hk => ha k oM oM) s
theorem SrcT.nil {c : Nat} : SrcT F w0 S t (.slice p 0 c) [] := fun _ _ _ _ _ _ => Ints.nil
theorem SrcT.row {e : TypeId} (h : lkp t S = some ⟨.slice p n c, e, 1, n, xs.map iV⟩) : SrcT F w0 S t (.slice p n c) xs := fun B H S' w ha s => s.ints t ((ha t (.inl rfl)).trans h)
theorem SrcU.row {e : TypeId} (h : lkp t S = some ⟨.slice p n c, e, 2, n, eB ps⟩) : SrcU F w0 S t (.slice p n c) ps := fun B H S' w ha s => by
 have h1 := (ha t (.inl rfl)).trans h
 have hr : SrcP F w0 S (.slice p n c) ps -> True := fun _ => trivial
 have ho := s.slcs t _ h1
 have hl : ps.length = n := by have h2 : (eB ps).length = n * 2 := ho.1; rw [xS] at h2; omega
 subst hl
 refine ⟨p, c, rfl, fun i x hx => ?_⟩
 obtain ⟨g1, g2⟩ := xD hx
 rcases ho.2 with ⟨e1, e2⟩ | ⟨g, cap, cur, e1, _⟩
 .have : ps = [] := List.eq_nil_of_length_eq_zero e2
  subst this; simp at hx
 .injection e1 with e1 e2 e3
  subst e1 e3
  have hc1 := ho.cells (g := g) (by rfl) _ _ g1
  have hc2 := ho.cells (g := g) (by rfl) _ _ g2
  exact ⟨g, 0, rfl, by rwa [Addr.add_mid] at hc1, by rw [Addr.add_mid] at hc2; exact hc2⟩
theorem SrcT.head (h : SrcT F w0 S t (.slice p n c) xs) (s : Sees F w0 B H S w) (hn : 0 < xs.length) : ∃ b o, p = some ⟨b, o, none⟩ := by
 obtain ⟨p', c', e, hc⟩ := h B H S w (fun _ _ => rfl) s
 injection e with e1 e2 e3
 subst e1
 obtain ⟨b, o, e, _⟩ := hc 0 _ (List.getElem?_eq_getElem hn)
 exact ⟨b, o, e⟩
theorem SrcT.cell {b o : Nat} (h : SrcT F w0 S t (.slice (some ⟨b, o, none⟩) n c) xs) {i : Nat} {x : Int} (hx : xs[i]? = some x) (s : Sees F w0 B H S w) : w.cell? ⟨b, o + i * 1, none⟩ = some (iV x) := by
 obtain ⟨p', c', e, hc⟩ := h B H S w (fun _ _ => rfl) s
 injection e with e1 e2 e3
 subst e1
 obtain ⟨b', o', e, h1⟩ := hc i x hx
 cases e
 rw [Nat.mul_one]; exact h1
theorem SrcU.head (h : SrcU F w0 S t (.slice p n c) ps) (s : Sees F w0 B H S w) (hn : 0 < ps.length) : ∃ b o, p = some ⟨b, o, none⟩ := by
 obtain ⟨p', c', e, hc⟩ := h B H S w (fun _ _ => rfl) s
 injection e with e1 e2 e3
 subst e1
 obtain ⟨b, o, e, _⟩ := hc 0 _ (List.getElem?_eq_getElem hn)
 exact ⟨b, o, e⟩
theorem SrcU.cell {b o : Nat} (h : SrcU F w0 S t (.slice (some ⟨b, o, none⟩) n c) ps) {i : Nat} {x : Int × Int} (hx : ps[i]? = some x) (s : Sees F w0 B H S w) : w.rangeAt b (o + i * 2) [iV x.1, iV x.2] := by
 obtain ⟨p', c', e, hc⟩ := h B H S w (fun _ _ => rfl) s
 injection e with e1 e2 e3
 subst e1
 obtain ⟨b', o', e, h1, h2⟩ := hc i x hx
 cases e
 rw [Nat.mul_comm i 2]; exact sH h1 h2
theorem SrcT.old (h : Ints w0 v xs) (hF : ∀ b, ¬ F b) : SrcT F w0 S t v xs := fun B H S' w _ s => by
 obtain ⟨p, c, rfl, hc⟩ := h
 refine ⟨p, c, rfl, fun i x hx => ?_⟩
 obtain ⟨b, o, rfl, h1⟩ := hc i x hx
 exact ⟨b, o, rfl, s.aPo h1 (hF b)⟩
theorem SrcT.more (h : SrcT F w0 S 11 v xs) : SrcT F w0 S t v xs := fun B H S' w ha s => h B H S' w (fun k hk => ha k (by rcases hk with h | h | h; exact .inr (.inl h); exact .inr (.inl h); exact .inr (.inr h))) s
theorem SrcU.more (h : SrcU F w0 S 11 v ps) : SrcU F w0 S t v ps := fun B H S' w ha s => h B H S' w (fun k hk => ha k (by rcases hk with h | h | h; exact .inr (.inl h); exact .inr (.inl h); exact .inr (.inr h))) s
end
theorem iR {P : Program} {N : Nat} {L : Loc} {F : Nat -> Prop} {w0 : World} {B : LN} {H : LV} {S : LS} {d : Nat} {v r : Value} {ty : TypeId} {pos : String} {aft : Array Edge} {g : Option (Nat × Bool)} {t : TypeId} {x : Operand} (hx : ev L x = some v) (h : ∀ w : World, (Instr.makeInterface t v).run P w = .ok r w) : Rd P ⟨some d, .makeInterface t x, ty, pos, aft, g⟩ N L F w0 B H S r := fun a w k s => by
 simp only [execOp, k.eval hx, Sem.run_bind, h w, Result.andThen_ok, Sem.run_pure]
section
variable {P : Program} {Q Q' : Exit -> Act -> World -> Prop} {K : Act -> World -> Prop} {N : Nat} {L : Loc} {F : Nat -> Prop} {w0 : World} {B : LN} {H : LV} {S : LS}
variable {d : Nat} {v : Value} {ty : TypeId} {pos : String} {aft : Array Edge} {g : Option (Nat × Bool)}
theorem aFm {a : Act} {w : World} {f : FuncId} {x : Operand} {t : TypeId} {rv : Value} {name : String} {aS : List Operand} {ats : Array TypeId} {args : List Value} {dst : Option Nat} (k : Kn N L a) (hx : ev L x = some (.iface t v)) (hm : ∀ w : World, (method (P.types.size + Made.depth) t v name).run P w = .ok (f, rv) w) (hf : gM P f = true) (ha : Fr.evs L aS = some args) :
  (execOp a.eval ⟨dst, .call ⟨.invoke x name, aS.toArray, ats⟩, ty, pos, aft, g⟩).run P w = .ok (.enter f (rv :: args).toArray) w := by
 unfold gM at hf
 split at hf
 .rename_i fn hfn
  simp only [Bool.and_eq_true, Bool.not_eq_true'] at hf
  obtain ⟨c, hb⟩ := Option.isSome_iff_exists.1 hf.1
  have hnm : ¬ fn.name = "runtime.NumGoroutine" := by simpa using hf.2
  have e : (aS.map a.eval) = args := k.evs ha
  simp [execOp, resolve, k.eval hx, invoke, callMethod, callFunc, hfn, hnm, hb, e, hm]
 .cases hf
theorem z7 {ι : Type} {f : FuncId} {x : Operand} {t : TypeId} {rv : Value} {name : String} {aS : List Operand} {ats : Array TypeId} {args : List Value} (V : ι -> Value) (Pr : ι -> Prop) (Bx : ι -> LN) (Hx : ι -> LV) (Sx : ι -> LS) (hd : d < N)
  (hx : ev L x = some (.iface t v)) (hm : ∀ w : World, (method (P.types.size + Made.depth) t v name).run P w = .ok (f, rv) w) (hf : gM P f = true) (ha : Fr.evs L aS = some args)
  (hc : ∀ w, Sees F w0 B H S w -> Calls P f (rv :: args).toArray w fun e w' => ∃ x, Pr x /\ e = .returned (V x) /\ Sees F w0 (Bx x) (Hx x) (Sx x) w')
  (hn : ∀ x, Pr x -> GK K N ((d, V x) :: L) F w0 (Bx x) (Hx x) (Sx x)) : GO P ⟨some d, .call ⟨.invoke x name, aS.toArray, ats⟩, ty, pos, aft, none⟩ Q K N L F w0 B H S := fun a w k s => by
 show Oper.upon _ _ _ _ _ _
 rw [aFm k hx hm hf ha]
 refine (hc w s).mono ?_
 rintro e w' ⟨x, hx, rfl, s'⟩
 exact hn x hx _ _ (k.put hd _) s'
theorem vS {f : FuncId} {x : Operand} {t : TypeId} {u rv : Value} {name : String} {aS : List Operand} {ats : Array TypeId} {args : List Value} (hd : d < N)
  (hx : ev L x = some (.iface t u)) (hm : ∀ w : World, (method (P.types.size + Made.depth) t u name).run P w = .ok (f, rv) w) (hf : gM P f = true) (ha : Fr.evs L aS = some args)
  (hc : ∀ w, Sees F w0 B H S w -> Calls P f (rv :: args).toArray w fun e w' => e = .returned v /\ Below w.heap.size w w')
  (hn : GK K N ((d, v) :: L) F w0 B H S) : GO P ⟨some d, .call ⟨.invoke x name, aS.toArray, ats⟩, ty, pos, aft, none⟩ Q K N L F w0 B H S :=
 z7 (ι := Unit) (fun _ => v) (fun _ => True) (fun _ => B) (fun _ => H) (fun _ => S) hd hx hm hf ha (fun w s => (hc w s).mono fun e w' ⟨he, hb⟩ => ⟨(), trivial, he, s.below hb⟩) (fun _ _ => hn)
end
theorem cN {j : Nat} {H : LV} {o : Nat} : cellsAt j H o [] := trivial
theorem cC {j : Nat} {H : LV} {o : Nat} {v : Value} {r : List Value} (h : lkp (ky j o) H = some v) (hr : cellsAt j H (o + 1) r) : cellsAt j H o (v :: r) := ⟨h, hr⟩
theorem cellsAt.w0 {j o : Nat} {H H' : LV} : cellsAt j H o [] -> cellsAt j H' o [] := fun _ => trivial
theorem cellsAt.w1 {j o : Nat} {H H' : LV} {v v' : Value} {r r' : List Value} (h : lkp (ky j o) H = some v -> lkp (ky j o) H' = some v') (hr : cellsAt j H (o + 1) r -> cellsAt j H' (o + 1) r') : cellsAt j H o (v :: r) -> cellsAt j H' o (v' :: r') := fun x => ⟨h x.1, hr x.2⟩
theorem cA {X Y : Prop} (a : Y) (h : Bx Y -> X := by
 intro k_
 have q_ := k_.out
 revert q_
 repeat (first | exact cellsAt.w0 | refine cellsAt.w1 (by first | exact id | exact fun _ => rfl) ?_)) : X := h ⟨a⟩
theorem cA1 {j o : Nat} {H H' : LV} {r r' : List Value} {qc : Nat} {vc : Value} (a : cellsAt j H o r) (c : lkp qc H' = some vc) (h : Bx (cellsAt j H o r) -> Bx (lkp qc H' = some vc) -> cellsAt j H' o r' := by
 intro k_ c_
 have q_ := k_.out
 revert q_
 repeat (first | exact cellsAt.w0 | refine cellsAt.w1 (by first | exact id | exact fun _ => rfl | exact fun _ => c_.out) ?_)) : cellsAt j H' o r' := h ⟨a⟩ ⟨c⟩
theorem cA2 {j o : Nat} {H H' : LV} {r r' : List Value} {qc qd : Nat} {vc vd : Value} (a : cellsAt j H o r) (c : lkp qc H' = some vc) (d : lkp qd H' = some vd) (h : Bx (cellsAt j H o r) -> Bx (lkp qc H' = some vc) -> Bx (lkp qd H' = some vd) -> cellsAt j H' o r' := by
 intro k_ c_ d_
 have q_ := k_.out
 revert q_
 repeat (first | exact cellsAt.w0 | refine cellsAt.w1 (by first | exact id | exact fun _ => rfl | exact fun _ => c_.out | exact fun _ => d_.out) ?_)) : cellsAt j H' o r' := h ⟨a⟩ ⟨c⟩ ⟨d⟩
theorem cA3 {j o : Nat} {H H' : LV} {r r' : List Value} {qc qd qe : Nat} {vc vd ve : Value} (a : cellsAt j H o r) (c : lkp qc H' = some vc) (d : lkp qd H' = some vd) (e : lkp qe H' = some ve) (h : Bx (cellsAt j H o r) -> Bx (lkp qc H' = some vc) -> Bx (lkp qd H' = some vd) -> Bx (lkp qe H' = some ve) -> cellsAt j H' o r' := by
 intro k_ c_ d_ e_
 have q_ := k_.out
 revert q_
 repeat (first | exact cellsAt.w0 | refine cellsAt.w1 (by first | exact id | exact fun _ => rfl | exact fun _ => c_.out | exact fun _ => d_.out | exact fun _ => e_.out) ?_)) : cellsAt j H' o r' := h ⟨a⟩ ⟨c⟩ ⟨d⟩ ⟨e⟩
section
variable {P : Program} {Q Q' : Exit -> Act -> World -> Prop} {K : Act -> World -> Prop} {N : Nat} {L : Loc} {F : Nat -> Prop} {w0 : World} {B : LN} {H : LV} {S : LS}
variable {id : Nat} {l tl rest : List Oper} {ops : Array Oper} {o : Oper} {d : Nat} {v : Value} {ty : TypeId} {pos : String} {aft : Array Edge} {op : Op} {g : Option (Nat × Bool)}
theorem dB (j : Nat) {t e : TypeId} {sz by_ : Nat} {zs : List Value} {y : Operand} {cs : List Value} (hd : d < N) (ht : kP P t = some (e, sz, by_, zs)) (hzs : zs.length = sz) (hsz : 0 < sz) (hsm : sz <= 4096) (hy : ev L y = some v) (hv : v.cells.toList = cs) (hcs : cs.length = sz)
  (hn : ∀ b, GK K N ((d, sL b 1 1) :: L) F w0 B H ((j, ⟨sL b 1 1, e, sz, 1, cs⟩) :: S)) :
  GO P ⟨some d, .buildSlice t 1 #[(0, y)], ty, pos, aft, none⟩ Q K N L F w0 B H S := fun a w k s => by
 obtain ⟨hu, inf, z, hi, hz, h2, h3, h4⟩ := iM ht
 subst h2
 have hvs : v.cells.size = inf.size := by rw [<- Array.length_toList, hv, hcs]
 have hfold : ∀ (l : List Value) (n : Nat) (A : Array Value), n + l.length = A.size -> ((l.zipIdx n).foldl (fun cs (c, j) => cs.setIfInBounds j c) A).toList = A.toList.take n ++ l := by
  intro l
  induction l with
  | nil => intro n A h; simp at h; subst h; simp [<- Array.length_toList]
  | cons c l ih =>
   intro n A h
   simp only [List.length_cons] at h
   rw [List.zipIdx_cons, List.foldl_cons, ih (n + 1) _ (by simp; omega)]
   have hn : n < A.size := by omega
   rw [Array.toList_setIfInBounds, List.take_set, List.take_succ_eq_append_getElem (by simpa using hn), List.set_append_right _ _ (by simp; omega)]
   simp [Nat.min_eq_left (Nat.le_of_lt hn)]
 have hr : (Instr.buildSlice t 1 #[(0, v)]).run P w = .ok (sL w.heap.size 1 1) (w.alloc (.cells cs.toArray e (0, 0))) := by
  have hne : ¬ inf.size = 0 := by omega
  have hle : ¬ 16777216 < inf.size := by omega
  have hA : (Array.map (fun x => z.cells[x % z.cells.size]!) (Array.range inf.size)).size = inf.size := by simp
  have key : ((v.cells.zipIdx).foldl (fun cs (c, j) => cs.setIfInBounds j c) (Array.map (fun x => z.cells[x % z.cells.size]!) (Array.range inf.size))) = cs.toArray := by
   apply Array.toList_inj.1
   have := hfold v.cells.toList 0 (Array.map (fun x => z.cells[x % z.cells.size]!) (Array.range inf.size)) (by rw [hA, Array.length_toList, hvs]; omega)
   simp only [List.take_zero, List.nil_append, hv] at this
   rw [<- Array.foldl_toList, Array.toList_zipIdx, hv]
   simpa using this
  simp [Instr.buildSlice, run_underlying hu, iF hi, hne, hle, zeroValue, typeInfo, hi, hz, Instr.fill, hvs, newRow]
  have e1 : v.cells.zipIdx.size = inf.size := by simp [hvs]
  have key2 : Array.foldl (fun (cs : Array Value) (x : Value × Nat) => cs.setIfInBounds x.snd x.fst) (Array.map (fun x => z.cells[x % z.cells.size]!) (Array.range inf.size)) v.cells.zipIdx 0 inf.size = cs.toArray := by
   rw [show Array.foldl (fun (cs : Array Value) (x : Value × Nat) => cs.setIfInBounds x.snd x.fst) (Array.map (fun x => z.cells[x % z.cells.size]!) (Array.range inf.size)) v.cells.zipIdx 0 inf.size = Array.foldl (fun (cs : Array Value) (x : Value × Nat) => cs.setIfInBounds x.snd x.fst) (Array.map (fun x => z.cells[x % z.cells.size]!) (Array.range inf.size)) v.cells.zipIdx 0 v.cells.zipIdx.size by rw [e1]]
   exact key
  exact congrArg (fun A => w.alloc (.cells A e)) key2
 have s' : Sees F w0 B H ((j, ⟨sL w.heap.size 1 1, e, inf.size, 1, cs⟩) :: S) (w.alloc (.cells cs.toArray e (0, 0))) :=
  s.slice (old := none) (.inl rfl) (World.grownBy_alloc w _ none) ⟨by simp [hcs], .inr ⟨w.heap.size, 1, cs.toArray, rfl, Nat.zero_le _, heap_alloc_new w _, Nat.le_refl _, by unfold maxLen; omega, by simp [hcs], by simp [<- hcs]⟩⟩ (.inr (.inr ⟨w.heap.size, rfl, Nat.le_refl _⟩))
 show Oper.upon _ _ _ _ _ _
 simp only [execOp, List.map_toArray, List.map_cons, List.map_nil, k.eval hy, Sem.run_bind, hr, Result.andThen_ok, Sem.run_pure]
 exact hn _ _ _ (k.put hd _) s'
end
end Go.Fr
