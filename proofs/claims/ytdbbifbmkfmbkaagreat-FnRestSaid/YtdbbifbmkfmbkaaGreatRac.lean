import Derived.Test.YtdbbifbmkfmbkaaGreatRab
set_option linter.unusedVariables false
set_option linter.unusedSimpArgs false
set_option maxRecDepth 100000
set_option maxHeartbeats 8000000
namespace Go.Proofs.YtdbbifbmkfmbkaaGreat
open Go.RowKit Go.Fr Go.Tab
section
variable {F : Nat → Prop} {w0 : World} {B : LN} {H : LV} {S : LS}
open Go.Md
theorem aHv (y : Int) : (mmY y).length = nY y := by unfold mmY nY; split <;> rfl
theorem xL (y : Int) : (mdY y).length = nY y := by unfold mdY nY; split <;> rfl
theorem aCh (y : Int) : (mE y).length = nY y := by unfold mE nY; split <;> rfl
theorem iT {xs : List Int} {i : Int} {n : Nat} (hn : xs.length = n) (h0 : 0 ≤ i) (h : i < n) : (xs.map iV)[0 + i.toNat * 1]? = some (iV (xs.getD i.toNat 0)) := by
 have hl : i.toNat < xs.length := by omega
 rw [Nat.zero_add, Nat.mul_one, List.getElem?_map, List.getD_eq_getElem?_getD, List.getElem?_eq_getElem hl]
 rfl
theorem f8 (y : Int) : (nY y : Int) = 372 + Cal.lp y := by unfold nY Cal.lp; split <;> rfl
noncomputable def dI : Array Oper := aI1 (Go.Fr.part [1, 1, 0, 0, 1, 0, 1, 1, 1, 1, 0, 1, 0, 0, 1, 1, 0, 0, 1, 1, 0] (Go.Fr.bodyOf Tryz.f96))
structure FH (F : Nat → Prop) (w0 : World) (B : LN) (H : LV) (S : LS) (it rb : Nat) (p47 : Option Addr) (c47 : Nat) (month : List Int) (p48 : Option Addr) (c48 : Nat) (mday : List Int) (p49 : Option Addr) (c49 : Nat) (nmday : List Int) (p50 : Option Addr) (c50 : Nat) (yday : List Int) (p52 : Option Addr) (c52 : Nat) (wday : List Int) (p51 p57 : Option Addr) (c51 c57 : Nat) (weekno easter : List Int) (p20 : Option Addr) (c20 : Nat) (wno : List Int) (p21 : Option Addr) (c21 : Nat) (nwm : List Int) (p22 : Option Addr) (c22 : Nat) (eas : List Int) (y : Int) (b3 b4 b5 b6 c3 c4 c5 c6 : Nat) (v5 v6 v7 v98 v99 v100 : Value) (i : Int) : Prop where
 hB : lkp 0 B = some it
 hR : lkp 1 B = some rb
 r47 : lkp (ky 1 47) H = some (.slice p47 month.length c47)
 hl47 : month.length ≤ 1000000000
 hI47 : ∀ w, Sees F w0 B H S w → Ints w (.slice p47 month.length c47) month
 r48 : lkp (ky 1 48) H = some (.slice p48 mday.length c48)
 hl48 : mday.length ≤ 1000000000
 hI48 : ∀ w, Sees F w0 B H S w → Ints w (.slice p48 mday.length c48) mday
 r49 : lkp (ky 1 49) H = some (.slice p49 nmday.length c49)
 hl49 : nmday.length ≤ 1000000000
 hI49 : ∀ w, Sees F w0 B H S w → Ints w (.slice p49 nmday.length c49) nmday
 r50 : lkp (ky 1 50) H = some (.slice p50 yday.length c50)
 hl50 : yday.length ≤ 1000000000
 hI50 : ∀ w, Sees F w0 B H S w → Ints w (.slice p50 yday.length c50) yday
 r52 : lkp (ky 1 52) H = some (.slice p52 wday.length c52)
 hl52 : wday.length ≤ 1000000000
 hI52 : ∀ w, Sees F w0 B H S w → Ints w (.slice p52 wday.length c52) wday
 r51 : lkp (ky 1 51) H = some (.slice p51 weekno.length c51)
 r57 : lkp (ky 1 57) H = some (.slice p57 easter.length c57)
 h20 : lkp (ky 0 20) H = some (.slice p20 wno.length c20)
 hp20 : 0 < wno.length → ∃ b, p20 = some ⟨b, 0, none⟩
 hS8 : 0 < wno.length → lkp 8 S = some ⟨.slice p20 wno.length c20, 3, 1, wno.length, wno.map iV⟩
 h21 : lkp (ky 0 21) H = some (.slice p21 nwm.length c21)
 hp21 : 0 < nwm.length → ∃ b, p21 = some ⟨b, 0, none⟩
 hS9 : 0 < nwm.length → lkp 9 S = some ⟨.slice p21 nwm.length c21, 3, 1, nwm.length, nwm.map iV⟩
 h22 : lkp (ky 0 22) H = some (.slice p22 eas.length c22)
 hp22 : 0 < eas.length → ∃ b, p22 = some ⟨b, 0, none⟩
 hS10 : 0 < eas.length → lkp 10 S = some ⟨.slice p22 eas.length c22, 3, 1, eas.length, eas.map iV⟩
 h10 : lkp (ky 0 10) H = some (iV (365 + Cal.lp y))
 h11 : lkp (ky 0 11) H = some (iV (365 + Cal.lp (y + 1)))
 h15 : lkp (ky 0 15) H = some (sL b3 (nY y) c3)
 h17 : lkp (ky 0 17) H = some (sL b4 (nY y) c4)
 h18 : lkp (ky 0 18) H = some (sL b5 (nY y) c5)
 h19 : lkp (ky 0 19) H = some (.slice (some ⟨b6, 0 + (ywd y).toNat * 1, none⟩) (385 - (ywd y).toNat) (c6 - (ywd y).toNat))
 hS3 : lkp 3 S = some ⟨sL b3 (nY y) c3, 3, 1, nY y, (mmY y).map iV⟩
 hS4 : lkp 4 S = some ⟨sL b4 (nY y) c4, 3, 1, nY y, (mdY y).map iV⟩
 hS5 : lkp 5 S = some ⟨sL b5 (nY y) c5, 3, 1, nY y, (mE y).map iV⟩
 hS6 : lkp 6 S = some ⟨sL b6 385 c6, 3, 1, 385, (wd 55).map iV⟩
 hi : 0 ≤ i ∧ i < nY y
 hwn : weekno.length ≠ 0 → i < wno.length
 hnw : nwm.length ≠ 0 → i < nwm.length
 hea : easter.length ≠ 0 → i < eas.length
section
variable {it rb : Nat} {p47 : Option Addr} {c47 : Nat} {month : List Int} {p48 : Option Addr} {c48 : Nat} {mday : List Int} {p49 : Option Addr} {c49 : Nat} {nmday : List Int} {p50 : Option Addr} {c50 : Nat} {yday : List Int} {p52 : Option Addr} {c52 : Nat} {wday : List Int} {p51 p57 : Option Addr} {c51 c57 : Nat} {weekno easter : List Int} {p20 : Option Addr} {c20 : Nat} {wno : List Int} {p21 : Option Addr} {c21 : Nat} {nwm : List Int} {p22 : Option Addr} {c22 : Nat} {eas : List Int} {y : Int} {b3 b4 b5 b6 c3 c4 c5 c6 : Nat} {v5 v6 v7 v98 v99 v100 : Value} {i : Int}
theorem ft_1 (q : FH F w0 B H S it rb p47 c47 month p48 c48 mday p49 c49 nmday p50 c50 yday p52 c52 wday p51 p57 c51 c57 weekno easter p20 c20 wno p21 c21 nwm p22 c22 eas y b3 b4 b5 b6 c3 c4 c5 c6 v5 v6 v7 v98 v99 v100 i) (fA : Bool) (hfA : fA = u7 month y i) (hz : month.length = 0) : GM Tryz.prog dI (Kn 1418 [(0, pT it), (2, pT rb), (5, v5), (6, v6), (7, v7), (9, iV i), (98, v98), (99, v99), (100, v100), (129, .bool fA)]) (List.take 23 (List.drop 0 dI.toList)) 1418 [(0, pT it), (2, pT rb), (5, v5), (6, v6), (7, v7), (9, iV i), (98, v98), (99, v99), (100, v100)] F w0 B H S := by
 obtain ⟨hB, hR, r47, hl47, hI47, r48, hl48, hI48, r49, hl49, hI49, r50, hl50, hI50, r52, hl52, hI52, r51, r57, h20, hp20, hS8, h21, hp21, hS9, h22, hp22, hS10, h10, h11, h15, h17, h18, h19, hS3, hS4, hS5, hS6, hi, hwn, hnw, hea⟩ := q
 have hlp := Cal.lp_01 y
 have hlp2 := Cal.lp_01 (y + 1)
 have hny := f8 y
 have hyw : 0 ≤ ywd y ∧ ywd y ≤ 6 := by unfold ywd; omega
 refine g2 ?_
 refine rm (rfa 47) ?_
 refine rm (rld 1 rfl hR r47) ?_
 refine g1 ?_
 refine rm ((cJ rfl rfl).to (cB (jO oM))) ?_
 refine g15 ?_
 refine rm ((aX rfl rfl rfl).to (v' := .bool fA) (by rw [hfA]; simp [u7, hz])) ?_
 refine g1 ?_
 exact bR kns
theorem ft_2 (q : FH F w0 B H S it rb p47 c47 month p48 c48 mday p49 c49 nmday p50 c50 yday p52 c52 wday p51 p57 c51 c57 weekno easter p20 c20 wno p21 c21 nwm p22 c22 eas y b3 b4 b5 b6 c3 c4 c5 c6 v5 v6 v7 v98 v99 v100 i) (fA : Bool) (hfA : fA = u7 month y i) (hz : ¬ month.length = 0) : GM Tryz.prog dI (Kn 1418 [(0, pT it), (2, pT rb), (5, v5), (6, v6), (7, v7), (9, iV i), (98, v98), (99, v99), (100, v100), (129, .bool fA)]) (List.take 23 (List.drop 0 dI.toList)) 1418 [(0, pT it), (2, pT rb), (5, v5), (6, v6), (7, v7), (9, iV i), (98, v98), (99, v99), (100, v100)] F w0 B H S := by
 obtain ⟨hB, hR, r47, hl47, hI47, r48, hl48, hI48, r49, hl49, hI49, r50, hl50, hI50, r52, hl52, hI52, r51, r57, h20, hp20, hS8, h21, hp21, hS9, h22, hp22, hS10, h10, h11, h15, h17, h18, h19, hS3, hS4, hS5, hS6, hi, hwn, hnw, hea⟩ := q
 have hlp := Cal.lp_01 y
 have hlp2 := Cal.lp_01 (y + 1)
 have hny := f8 y
 have hyw : 0 ≤ ywd y ∧ ywd y ≤ 6 := by unfold ywd; omega
 refine g2 ?_
 refine rm (rfa 47) ?_
 refine rm (rld 1 rfl hR r47) ?_
 refine g1 ?_
 refine rm ((cJ rfl rfl).to (cB (i3 oM))) ?_
 refine g6 ?_
 refine rm (rfa 47) ?_
 refine g1 ?_
 refine rm (rld 1 rfl hR r47) ?_
 refine g5 ?_
 refine rm (rfa 7) ?_
 refine g1 ?_
 refine rm (rfa 8) ?_
 refine g1 ?_
 refine rm (rld 0 rfl hB h15) ?_
 refine g3 ?_
 refine rm (aF (e := 3) (n := 1) kR rfl rfl oM oM) ?_
 refine g1 ?_
 refine rm (bP 3 rfl hS3 rfl (iT (aHv y) hi.1 hi.2) kR) ?_
 refine g1 ?_
 refine bV (v := .bool (month.any (· == ((mmY y).getD i.toNat 0)))) dE kR rfl (fun w_ s_ => (aU month ((mmY y).getD i.toNat 0) _ hl47 w_ (hI47 w_ s_)).mono fun e_ w2_ h_ => ⟨h_.1.trans (congrArg Ending.returned rfl), h_.2⟩) ?_
 refine g2 ?_
 refine rm ((aX rfl rfl rfl).to (v' := .bool fA) (by rw [hfA]; simp [u7, hz])) ?_
 refine g1 ?_
 exact bR kns
theorem ft_3 (q : FH F w0 B H S it rb p47 c47 month p48 c48 mday p49 c49 nmday p50 c50 yday p52 c52 wday p51 p57 c51 c57 weekno easter p20 c20 wno p21 c21 nwm p22 c22 eas y b3 b4 b5 b6 c3 c4 c5 c6 v5 v6 v7 v98 v99 v100 i) (fB : Bool) (hfB : fB = (true || uU weekno wno i)) : GM Tryz.prog dI (Kn 1418 [(0, pT it), (2, pT rb), (5, v5), (6, v6), (7, v7), (9, iV i), (98, v98), (99, v99), (100, v100), (148, .bool fB)]) (List.take 19 (List.drop 23 dI.toList)) 1418 [(0, pT it), (2, pT rb), (5, v5), (6, v6), (7, v7), (9, iV i), (98, v98), (99, v99), (100, v100), (129, .bool true)] F w0 B H S := by
 obtain ⟨hB, hR, r47, hl47, hI47, r48, hl48, hI48, r49, hl49, hI49, r50, hl50, hI50, r52, hl52, hI52, r51, r57, h20, hp20, hS8, h21, hp21, hS9, h22, hp22, hS10, h10, h11, h15, h17, h18, h19, hS3, hS4, hS5, hS6, hi, hwn, hnw, hea⟩ := q
 have hlp := Cal.lp_01 y
 have hlp2 := Cal.lp_01 (y + 1)
 have hny := f8 y
 have hyw : 0 ≤ ywd y ∧ ywd y ≤ 6 := by unfold ywd; omega
 refine g16 ?_
 refine g1 ?_
 refine rm ((aX rfl rfl rfl).to (v' := .bool fB) (by rw [hfB]; simp)) ?_
 refine g1 ?_
 exact bR kns
theorem ft_4 (q : FH F w0 B H S it rb p47 c47 month p48 c48 mday p49 c49 nmday p50 c50 yday p52 c52 wday p51 p57 c51 c57 weekno easter p20 c20 wno p21 c21 nwm p22 c22 eas y b3 b4 b5 b6 c3 c4 c5 c6 v5 v6 v7 v98 v99 v100 i) (fB : Bool) (hfB : fB = (false || uU weekno wno i)) (hz : weekno.length = 0) : GM Tryz.prog dI (Kn 1418 [(0, pT it), (2, pT rb), (5, v5), (6, v6), (7, v7), (9, iV i), (98, v98), (99, v99), (100, v100), (148, .bool fB)]) (List.take 19 (List.drop 23 dI.toList)) 1418 [(0, pT it), (2, pT rb), (5, v5), (6, v6), (7, v7), (9, iV i), (98, v98), (99, v99), (100, v100), (129, .bool false)] F w0 B H S := by
 obtain ⟨hB, hR, r47, hl47, hI47, r48, hl48, hI48, r49, hl49, hI49, r50, hl50, hI50, r52, hl52, hI52, r51, r57, h20, hp20, hS8, h21, hp21, hS9, h22, hp22, hS10, h10, h11, h15, h17, h18, h19, hS3, hS4, hS5, hS6, hi, hwn, hnw, hea⟩ := q
 have hlp := Cal.lp_01 y
 have hlp2 := Cal.lp_01 (y + 1)
 have hny := f8 y
 have hyw : 0 ≤ ywd y ∧ ywd y ≤ 6 := by unfold ywd; omega
 refine g5 ?_
 refine rm (rfa 51) ?_
 refine g1 ?_
 refine rm (rld 1 rfl hR r51) ?_
 refine g3 ?_
 refine rm ((cJ rfl rfl).to (cB (jO oM))) ?_
 refine g13 ?_
 refine rm ((aX rfl rfl rfl).to (v' := .bool fB) (by rw [hfB]; simp [uU, hz])) ?_
 refine g1 ?_
 exact bR kns
theorem ft_5 (q : FH F w0 B H S it rb p47 c47 month p48 c48 mday p49 c49 nmday p50 c50 yday p52 c52 wday p51 p57 c51 c57 weekno easter p20 c20 wno p21 c21 nwm p22 c22 eas y b3 b4 b5 b6 c3 c4 c5 c6 v5 v6 v7 v98 v99 v100 i) (fB : Bool) (hfB : fB = (false || uU weekno wno i)) (hz : ¬ weekno.length = 0) : GM Tryz.prog dI (Kn 1418 [(0, pT it), (2, pT rb), (5, v5), (6, v6), (7, v7), (9, iV i), (98, v98), (99, v99), (100, v100), (148, .bool fB)]) (List.take 19 (List.drop 23 dI.toList)) 1418 [(0, pT it), (2, pT rb), (5, v5), (6, v6), (7, v7), (9, iV i), (98, v98), (99, v99), (100, v100), (129, .bool false)] F w0 B H S := by
 obtain ⟨hB, hR, r47, hl47, hI47, r48, hl48, hI48, r49, hl49, hI49, r50, hl50, hI50, r52, hl52, hI52, r51, r57, h20, hp20, hS8, h21, hp21, hS9, h22, hp22, hS10, h10, h11, h15, h17, h18, h19, hS3, hS4, hS5, hS6, hi, hwn, hnw, hea⟩ := q
 have hlp := Cal.lp_01 y
 have hlp2 := Cal.lp_01 (y + 1)
 have hny := f8 y
 have hyw : 0 ≤ ywd y ∧ ywd y ≤ 6 := by unfold ywd; omega
 have hiw := hwn hz
 obtain ⟨b8, rfl⟩ := hp20 oM
 have hS8 := hS8 oM
 refine g5 ?_
 refine rm (rfa 51) ?_
 refine g1 ?_
 refine rm (rld 1 rfl hR r51) ?_
 refine g3 ?_
 refine rm ((cJ rfl rfl).to (cB (i3 oM))) ?_
 refine g7 ?_
 refine rm (rfa 7) ?_
 refine g1 ?_
 refine rm (rfa 13) ?_
 refine g1 ?_
 refine rm (rld 0 rfl hB h20) ?_
 refine g3 ?_
 refine rm (aF (e := 3) (n := 1) kR rfl rfl oM oM) ?_
 refine g1 ?_
 refine rm (bP 8 rfl hS8 rfl (iT rfl hi.1 hiw) kR) ?_
 refine g4 ?_
 refine rm ((aX rfl rfl rfl).to (v' := .bool fB) (by rw [hfB]; simp [uU, hz])) ?_
 refine g1 ?_
 exact bR kns
theorem ft_6 (q : FH F w0 B H S it rb p47 c47 month p48 c48 mday p49 c49 nmday p50 c50 yday p52 c52 wday p51 p57 c51 c57 weekno easter p20 c20 wno p21 c21 nwm p22 c22 eas y b3 b4 b5 b6 c3 c4 c5 c6 v5 v6 v7 v98 v99 v100 i) (fC : Bool) (hfC : fC = (true || uG wday y i)) : GM Tryz.prog dI (Kn 1418 [(0, pT it), (2, pT rb), (5, v5), (6, v6), (7, v7), (9, iV i), (98, v98), (99, v99), (100, v100), (172, .bool fC)]) (List.take 24 (List.drop 42 dI.toList)) 1418 [(0, pT it), (2, pT rb), (5, v5), (6, v6), (7, v7), (9, iV i), (98, v98), (99, v99), (100, v100), (148, .bool true)] F w0 B H S := by
 obtain ⟨hB, hR, r47, hl47, hI47, r48, hl48, hI48, r49, hl49, hI49, r50, hl50, hI50, r52, hl52, hI52, r51, r57, h20, hp20, hS8, h21, hp21, hS9, h22, hp22, hS10, h10, h11, h15, h17, h18, h19, hS3, hS4, hS5, hS6, hi, hwn, hnw, hea⟩ := q
 have hlp := Cal.lp_01 y
 have hlp2 := Cal.lp_01 (y + 1)
 have hny := f8 y
 have hyw : 0 ≤ ywd y ∧ ywd y ≤ 6 := by unfold ywd; omega
 refine g20 ?_
 refine g2 ?_
 refine rm ((aX rfl rfl rfl).to (v' := .bool fC) (by rw [hfC]; simp)) ?_
 refine g1 ?_
 exact bR kns
theorem ft_7 (q : FH F w0 B H S it rb p47 c47 month p48 c48 mday p49 c49 nmday p50 c50 yday p52 c52 wday p51 p57 c51 c57 weekno easter p20 c20 wno p21 c21 nwm p22 c22 eas y b3 b4 b5 b6 c3 c4 c5 c6 v5 v6 v7 v98 v99 v100 i) (fC : Bool) (hfC : fC = (false || uG wday y i)) (hz : wday.length = 0) : GM Tryz.prog dI (Kn 1418 [(0, pT it), (2, pT rb), (5, v5), (6, v6), (7, v7), (9, iV i), (98, v98), (99, v99), (100, v100), (172, .bool fC)]) (List.take 24 (List.drop 42 dI.toList)) 1418 [(0, pT it), (2, pT rb), (5, v5), (6, v6), (7, v7), (9, iV i), (98, v98), (99, v99), (100, v100), (148, .bool false)] F w0 B H S := by
 obtain ⟨hB, hR, r47, hl47, hI47, r48, hl48, hI48, r49, hl49, hI49, r50, hl50, hI50, r52, hl52, hI52, r51, r57, h20, hp20, hS8, h21, hp21, hS9, h22, hp22, hS10, h10, h11, h15, h17, h18, h19, hS3, hS4, hS5, hS6, hi, hwn, hnw, hea⟩ := q
 have hlp := Cal.lp_01 y
 have hlp2 := Cal.lp_01 (y + 1)
 have hny := f8 y
 have hyw : 0 ≤ ywd y ∧ ywd y ≤ 6 := by unfold ywd; omega
 refine g5 ?_
 refine rm (rfa 52) ?_
 refine g1 ?_
 refine rm (rld 1 rfl hR r52) ?_
 refine g3 ?_
 refine rm ((cJ rfl rfl).to (cB (jO oM))) ?_
 refine g18 ?_
 refine rm ((aX rfl rfl rfl).to (v' := .bool fC) (by rw [hfC]; simp [uG, hz])) ?_
 refine g1 ?_
 exact bR kns
theorem ft_8 (q : FH F w0 B H S it rb p47 c47 month p48 c48 mday p49 c49 nmday p50 c50 yday p52 c52 wday p51 p57 c51 c57 weekno easter p20 c20 wno p21 c21 nwm p22 c22 eas y b3 b4 b5 b6 c3 c4 c5 c6 v5 v6 v7 v98 v99 v100 i) (fC : Bool) (hfC : fC = (false || uG wday y i)) (hz : ¬ wday.length = 0) : GM Tryz.prog dI (Kn 1418 [(0, pT it), (2, pT rb), (5, v5), (6, v6), (7, v7), (9, iV i), (98, v98), (99, v99), (100, v100), (172, .bool fC)]) (List.take 24 (List.drop 42 dI.toList)) 1418 [(0, pT it), (2, pT rb), (5, v5), (6, v6), (7, v7), (9, iV i), (98, v98), (99, v99), (100, v100), (148, .bool false)] F w0 B H S := by
 obtain ⟨hB, hR, r47, hl47, hI47, r48, hl48, hI48, r49, hl49, hI49, r50, hl50, hI50, r52, hl52, hI52, r51, r57, h20, hp20, hS8, h21, hp21, hS9, h22, hp22, hS10, h10, h11, h15, h17, h18, h19, hS3, hS4, hS5, hS6, hi, hwn, hnw, hea⟩ := q
 have hlp := Cal.lp_01 y
 have hlp2 := Cal.lp_01 (y + 1)
 have hny := f8 y
 have hyw : 0 ≤ ywd y ∧ ywd y ≤ 6 := by unfold ywd; omega
 refine g5 ?_
 refine rm (rfa 52) ?_
 refine g1 ?_
 refine rm (rld 1 rfl hR r52) ?_
 refine g3 ?_
 refine rm ((cJ rfl rfl).to (cB (i3 oM))) ?_
 refine g7 ?_
 refine rm (rfa 52) ?_
 refine g1 ?_
 refine rm (rld 1 rfl hR r52) ?_
 refine g5 ?_
 refine rm (rfa 7) ?_
 refine g1 ?_
 refine rm (rfa 12) ?_
 refine g1 ?_
 refine rm (rld 0 rfl hB h19) ?_
 refine g3 ?_
 refine rm (aF (e := 3) (n := 1) kR rfl rfl oM oM) ?_
 refine g1 ?_
 refine rm (bP 6 rfl hS6 rfl (aCg (x := (ywd y + i) % 7) oM oM) kR) ?_
 refine g1 ?_
 refine bV (v := .bool (wday.any (· == ((ywd y + i) % 7)))) dE kR rfl (fun w_ s_ => (aU wday ((ywd y + i) % 7) _ hl52 w_ (hI52 w_ s_)).mono fun e_ w2_ h_ => ⟨h_.1.trans (congrArg Ending.returned rfl), h_.2⟩) ?_
 refine g4 ?_
 refine rm ((aX rfl rfl rfl).to (v' := .bool fC) (by rw [hfC]; simp [uG, hz])) ?_
 refine g1 ?_
 exact bR kns
theorem ft_9 (q : FH F w0 B H S it rb p47 c47 month p48 c48 mday p49 c49 nmday p50 c50 yday p52 c52 wday p51 p57 c51 c57 weekno easter p20 c20 wno p21 c21 nwm p22 c22 eas y b3 b4 b5 b6 c3 c4 c5 c6 v5 v6 v7 v98 v99 v100 i) (fD : Bool) (hfD : fD = (true || uT nwm i)) : GM Tryz.prog dI (Kn 1418 [(0, pT it), (2, pT rb), (5, v5), (6, v6), (7, v7), (9, iV i), (98, v98), (99, v99), (100, v100), (192, .bool fD)]) (List.take 20 (List.drop 66 dI.toList)) 1418 [(0, pT it), (2, pT rb), (5, v5), (6, v6), (7, v7), (9, iV i), (98, v98), (99, v99), (100, v100), (172, .bool true)] F w0 B H S := by
 obtain ⟨hB, hR, r47, hl47, hI47, r48, hl48, hI48, r49, hl49, hI49, r50, hl50, hI50, r52, hl52, hI52, r51, r57, h20, hp20, hS8, h21, hp21, hS9, h22, hp22, hS10, h10, h11, h15, h17, h18, h19, hS3, hS4, hS5, hS6, hi, hwn, hnw, hea⟩ := q
 have hlp := Cal.lp_01 y
 have hlp2 := Cal.lp_01 (y + 1)
 have hny := f8 y
 have hyw : 0 ≤ ywd y ∧ ywd y ≤ 6 := by unfold ywd; omega
 refine g18 ?_
 refine rm ((aX rfl rfl rfl).to (v' := .bool fD) (by rw [hfD]; simp)) ?_
 refine g1 ?_
 exact bR kns
theorem aJe (q : FH F w0 B H S it rb p47 c47 month p48 c48 mday p49 c49 nmday p50 c50 yday p52 c52 wday p51 p57 c51 c57 weekno easter p20 c20 wno p21 c21 nwm p22 c22 eas y b3 b4 b5 b6 c3 c4 c5 c6 v5 v6 v7 v98 v99 v100 i) (fD : Bool) (hfD : fD = (false || uT nwm i)) (hz : nwm.length = 0) : GM Tryz.prog dI (Kn 1418 [(0, pT it), (2, pT rb), (5, v5), (6, v6), (7, v7), (9, iV i), (98, v98), (99, v99), (100, v100), (192, .bool fD)]) (List.take 20 (List.drop 66 dI.toList)) 1418 [(0, pT it), (2, pT rb), (5, v5), (6, v6), (7, v7), (9, iV i), (98, v98), (99, v99), (100, v100), (172, .bool false)] F w0 B H S := by
 obtain ⟨hB, hR, r47, hl47, hI47, r48, hl48, hI48, r49, hl49, hI49, r50, hl50, hI50, r52, hl52, hI52, r51, r57, h20, hp20, hS8, h21, hp21, hS9, h22, hp22, hS10, h10, h11, h15, h17, h18, h19, hS3, hS4, hS5, hS6, hi, hwn, hnw, hea⟩ := q
 have hlp := Cal.lp_01 y
 have hlp2 := Cal.lp_01 (y + 1)
 have hny := f8 y
 have hyw : 0 ≤ ywd y ∧ ywd y ≤ 6 := by unfold ywd; omega
 refine g5 ?_
 refine rm (rfa 7) ?_
 refine g1 ?_
 refine rm (rfa 14) ?_
 refine g1 ?_
 refine rm (rld 0 rfl hB h21) ?_
 refine g3 ?_
 refine rm ((cJ rfl rfl).to (cB (jO oM))) ?_
 refine g13 ?_
 refine rm ((aX rfl rfl rfl).to (v' := .bool fD) (by rw [hfD]; simp [uT, hz])) ?_
 refine g1 ?_
 exact bR kns
theorem aIw (q : FH F w0 B H S it rb p47 c47 month p48 c48 mday p49 c49 nmday p50 c50 yday p52 c52 wday p51 p57 c51 c57 weekno easter p20 c20 wno p21 c21 nwm p22 c22 eas y b3 b4 b5 b6 c3 c4 c5 c6 v5 v6 v7 v98 v99 v100 i) (fD : Bool) (hfD : fD = (false || uT nwm i)) (hz : ¬ nwm.length = 0) : GM Tryz.prog dI (Kn 1418 [(0, pT it), (2, pT rb), (5, v5), (6, v6), (7, v7), (9, iV i), (98, v98), (99, v99), (100, v100), (192, .bool fD)]) (List.take 20 (List.drop 66 dI.toList)) 1418 [(0, pT it), (2, pT rb), (5, v5), (6, v6), (7, v7), (9, iV i), (98, v98), (99, v99), (100, v100), (172, .bool false)] F w0 B H S := by
 obtain ⟨hB, hR, r47, hl47, hI47, r48, hl48, hI48, r49, hl49, hI49, r50, hl50, hI50, r52, hl52, hI52, r51, r57, h20, hp20, hS8, h21, hp21, hS9, h22, hp22, hS10, h10, h11, h15, h17, h18, h19, hS3, hS4, hS5, hS6, hi, hwn, hnw, hea⟩ := q
 have hlp := Cal.lp_01 y
 have hlp2 := Cal.lp_01 (y + 1)
 have hny := f8 y
 have hyw : 0 ≤ ywd y ∧ ywd y ≤ 6 := by unfold ywd; omega
 have hiw := hnw hz
 obtain ⟨b8, rfl⟩ := hp21 oM
 have hS9 := hS9 oM
 refine g5 ?_
 refine rm (rfa 7) ?_
 refine g1 ?_
 refine rm (rfa 14) ?_
 refine g1 ?_
 refine rm (rld 0 rfl hB h21) ?_
 refine g3 ?_
 refine rm ((cJ rfl rfl).to (cB (i3 oM))) ?_
 refine g7 ?_
 refine rm (rfa 7) ?_
 refine g1 ?_
 refine rm (rfa 14) ?_
 refine g1 ?_
 refine rm (rld 0 rfl hB h21) ?_
 refine g3 ?_
 refine rm (aF (e := 3) (n := 1) kR rfl rfl oM oM) ?_
 refine g1 ?_
 refine rm (bP 9 rfl hS9 rfl (iT rfl hi.1 hiw) kR) ?_
 refine g4 ?_
 refine rm ((aX rfl rfl rfl).to (v' := .bool fD) (by rw [hfD]; simp [uT, hz])) ?_
 refine g1 ?_
 exact bR kns
theorem aIz (q : FH F w0 B H S it rb p47 c47 month p48 c48 mday p49 c49 nmday p50 c50 yday p52 c52 wday p51 p57 c51 c57 weekno easter p20 c20 wno p21 c21 nwm p22 c22 eas y b3 b4 b5 b6 c3 c4 c5 c6 v5 v6 v7 v98 v99 v100 i) (fE : Bool) (hfE : fE = (true || uR easter eas i)) : GM Tryz.prog dI (Kn 1418 [(0, pT it), (2, pT rb), (5, v5), (6, v6), (7, v7), (9, iV i), (98, v98), (99, v99), (100, v100), (211, .bool fE)]) (List.take 19 (List.drop 86 dI.toList)) 1418 [(0, pT it), (2, pT rb), (5, v5), (6, v6), (7, v7), (9, iV i), (98, v98), (99, v99), (100, v100), (192, .bool true)] F w0 B H S := by
 obtain ⟨hB, hR, r47, hl47, hI47, r48, hl48, hI48, r49, hl49, hI49, r50, hl50, hI50, r52, hl52, hI52, r51, r57, h20, hp20, hS8, h21, hp21, hS9, h22, hp22, hS10, h10, h11, h15, h17, h18, h19, hS3, hS4, hS5, hS6, hi, hwn, hnw, hea⟩ := q
 have hlp := Cal.lp_01 y
 have hlp2 := Cal.lp_01 (y + 1)
 have hny := f8 y
 have hyw : 0 ≤ ywd y ∧ ywd y ≤ 6 := by unfold ywd; omega
 refine g16 ?_
 refine g1 ?_
 refine rm ((aX rfl rfl rfl).to (v' := .bool fE) (by rw [hfE]; simp)) ?_
 refine g1 ?_
 exact bR kns
theorem aJb (q : FH F w0 B H S it rb p47 c47 month p48 c48 mday p49 c49 nmday p50 c50 yday p52 c52 wday p51 p57 c51 c57 weekno easter p20 c20 wno p21 c21 nwm p22 c22 eas y b3 b4 b5 b6 c3 c4 c5 c6 v5 v6 v7 v98 v99 v100 i) (fE : Bool) (hfE : fE = (false || uR easter eas i)) (hz : easter.length = 0) : GM Tryz.prog dI (Kn 1418 [(0, pT it), (2, pT rb), (5, v5), (6, v6), (7, v7), (9, iV i), (98, v98), (99, v99), (100, v100), (211, .bool fE)]) (List.take 19 (List.drop 86 dI.toList)) 1418 [(0, pT it), (2, pT rb), (5, v5), (6, v6), (7, v7), (9, iV i), (98, v98), (99, v99), (100, v100), (192, .bool false)] F w0 B H S := by
 obtain ⟨hB, hR, r47, hl47, hI47, r48, hl48, hI48, r49, hl49, hI49, r50, hl50, hI50, r52, hl52, hI52, r51, r57, h20, hp20, hS8, h21, hp21, hS9, h22, hp22, hS10, h10, h11, h15, h17, h18, h19, hS3, hS4, hS5, hS6, hi, hwn, hnw, hea⟩ := q
 have hlp := Cal.lp_01 y
 have hlp2 := Cal.lp_01 (y + 1)
 have hny := f8 y
 have hyw : 0 ≤ ywd y ∧ ywd y ≤ 6 := by unfold ywd; omega
 refine g5 ?_
 refine rm (rfa 57) ?_
 refine g1 ?_
 refine rm (rld 1 rfl hR r57) ?_
 refine g3 ?_
 refine rm ((cJ rfl rfl).to (cB (jO oM))) ?_
 refine g13 ?_
 refine rm ((aX rfl rfl rfl).to (v' := .bool fE) (by rw [hfE]; simp [uR, hz])) ?_
 refine g1 ?_
 exact bR kns
theorem aI4 (q : FH F w0 B H S it rb p47 c47 month p48 c48 mday p49 c49 nmday p50 c50 yday p52 c52 wday p51 p57 c51 c57 weekno easter p20 c20 wno p21 c21 nwm p22 c22 eas y b3 b4 b5 b6 c3 c4 c5 c6 v5 v6 v7 v98 v99 v100 i) (fE : Bool) (hfE : fE = (false || uR easter eas i)) (hz : ¬ easter.length = 0) : GM Tryz.prog dI (Kn 1418 [(0, pT it), (2, pT rb), (5, v5), (6, v6), (7, v7), (9, iV i), (98, v98), (99, v99), (100, v100), (211, .bool fE)]) (List.take 19 (List.drop 86 dI.toList)) 1418 [(0, pT it), (2, pT rb), (5, v5), (6, v6), (7, v7), (9, iV i), (98, v98), (99, v99), (100, v100), (192, .bool false)] F w0 B H S := by
 obtain ⟨hB, hR, r47, hl47, hI47, r48, hl48, hI48, r49, hl49, hI49, r50, hl50, hI50, r52, hl52, hI52, r51, r57, h20, hp20, hS8, h21, hp21, hS9, h22, hp22, hS10, h10, h11, h15, h17, h18, h19, hS3, hS4, hS5, hS6, hi, hwn, hnw, hea⟩ := q
 have hlp := Cal.lp_01 y
 have hlp2 := Cal.lp_01 (y + 1)
 have hny := f8 y
 have hyw : 0 ≤ ywd y ∧ ywd y ≤ 6 := by unfold ywd; omega
 have hiw := hea hz
 obtain ⟨b8, rfl⟩ := hp22 oM
 have hS10 := hS10 oM
 refine g5 ?_
 refine rm (rfa 57) ?_
 refine g1 ?_
 refine rm (rld 1 rfl hR r57) ?_
 refine g3 ?_
 refine rm ((cJ rfl rfl).to (cB (i3 oM))) ?_
 refine g7 ?_
 refine rm (rfa 7) ?_
 refine g1 ?_
 refine rm (rfa 15) ?_
 refine g1 ?_
 refine rm (rld 0 rfl hB h22) ?_
 refine g3 ?_
 refine rm (aF (e := 3) (n := 1) kR rfl rfl oM oM) ?_
 refine g1 ?_
 refine rm (bP 10 rfl hS10 rfl (iT rfl hi.1 hiw) kR) ?_
 refine g4 ?_
 refine rm ((aX rfl rfl rfl).to (v' := .bool fE) (by rw [hfE]; simp [uR, hz])) ?_
 refine g1 ?_
 exact bR kns
theorem aIq (q : FH F w0 B H S it rb p47 c47 month p48 c48 mday p49 c49 nmday p50 c50 yday p52 c52 wday p51 p57 c51 c57 weekno easter p20 c20 wno p21 c21 nwm p22 c22 eas y b3 b4 b5 b6 c3 c4 c5 c6 v5 v6 v7 v98 v99 v100 i) (fF : Bool) (hfF : fF = (true || nH mday nmday y i)) : GM Tryz.prog dI (Kn 1418 [(0, pT it), (2, pT rb), (5, v5), (6, v6), (7, v7), (9, iV i), (98, v98), (99, v99), (100, v100), (259, .bool fF)]) (List.take 48 (List.drop 105 dI.toList)) 1418 [(0, pT it), (2, pT rb), (5, v5), (6, v6), (7, v7), (9, iV i), (98, v98), (99, v99), (100, v100), (211, .bool true)] F w0 B H S := by
 obtain ⟨hB, hR, r47, hl47, hI47, r48, hl48, hI48, r49, hl49, hI49, r50, hl50, hI50, r52, hl52, hI52, r51, r57, h20, hp20, hS8, h21, hp21, hS9, h22, hp22, hS10, h10, h11, h15, h17, h18, h19, hS3, hS4, hS5, hS6, hi, hwn, hnw, hea⟩ := q
 have hlp := Cal.lp_01 y
 have hlp2 := Cal.lp_01 (y + 1)
 have hny := f8 y
 have hyw : 0 ≤ ywd y ∧ ywd y ≤ 6 := by unfold ywd; omega
 refine g40 ?_
 refine g6 ?_
 refine rm ((aX rfl rfl rfl).to (v' := .bool fF) (by rw [hfF]; simp)) ?_
 refine g1 ?_
 exact bR kns
theorem aIs (q : FH F w0 B H S it rb p47 c47 month p48 c48 mday p49 c49 nmday p50 c50 yday p52 c52 wday p51 p57 c51 c57 weekno easter p20 c20 wno p21 c21 nwm p22 c22 eas y b3 b4 b5 b6 c3 c4 c5 c6 v5 v6 v7 v98 v99 v100 i) (fF : Bool) (hfF : fF = (false || nH mday nmday y i)) (hz : mday.length = 0) (hz2 : nmday.length = 0) : GM Tryz.prog dI (Kn 1418 [(0, pT it), (2, pT rb), (5, v5), (6, v6), (7, v7), (9, iV i), (98, v98), (99, v99), (100, v100), (259, .bool fF)]) (List.take 48 (List.drop 105 dI.toList)) 1418 [(0, pT it), (2, pT rb), (5, v5), (6, v6), (7, v7), (9, iV i), (98, v98), (99, v99), (100, v100), (211, .bool false)] F w0 B H S := by
 obtain ⟨hB, hR, r47, hl47, hI47, r48, hl48, hI48, r49, hl49, hI49, r50, hl50, hI50, r52, hl52, hI52, r51, r57, h20, hp20, hS8, h21, hp21, hS9, h22, hp22, hS10, h10, h11, h15, h17, h18, h19, hS3, hS4, hS5, hS6, hi, hwn, hnw, hea⟩ := q
 have hlp := Cal.lp_01 y
 have hlp2 := Cal.lp_01 (y + 1)
 have hny := f8 y
 have hyw : 0 ≤ ywd y ∧ ywd y ≤ 6 := by unfold ywd; omega
 refine g5 ?_
 refine rm (rfa 48) ?_
 refine g1 ?_
 refine rm (rld 1 rfl hR r48) ?_
 refine g3 ?_
 refine rm ((cJ rfl rfl).to (cB (jO oM))) ?_
 refine g7 ?_
 refine rm (rfa 49) ?_
 refine g1 ?_
 refine rm (rld 1 rfl hR r49) ?_
 refine g3 ?_
 refine rm ((cJ rfl rfl).to (cB (jO oM))) ?_
 refine g30 ?_
 refine g8 ?_
 refine rm ((aX rfl rfl rfl).to (v' := .bool fF) (by rw [hfF]; simp [nH, hz, hz2])) ?_
 refine g1 ?_
 exact bR kns
theorem aI2 (q : FH F w0 B H S it rb p47 c47 month p48 c48 mday p49 c49 nmday p50 c50 yday p52 c52 wday p51 p57 c51 c57 weekno easter p20 c20 wno p21 c21 nwm p22 c22 eas y b3 b4 b5 b6 c3 c4 c5 c6 v5 v6 v7 v98 v99 v100 i) (fF : Bool) (hfF : fF = (false || nH mday nmday y i)) (hz : mday.length = 0) (hz2 : ¬ nmday.length = 0) (hc : (mday.any (· == ((mdY y).getD i.toNat 0))) = true) : GM Tryz.prog dI (Kn 1418 [(0, pT it), (2, pT rb), (5, v5), (6, v6), (7, v7), (9, iV i), (98, v98), (99, v99), (100, v100), (259, .bool fF)]) (List.take 48 (List.drop 105 dI.toList)) 1418 [(0, pT it), (2, pT rb), (5, v5), (6, v6), (7, v7), (9, iV i), (98, v98), (99, v99), (100, v100), (211, .bool false)] F w0 B H S := by
 obtain ⟨hB, hR, r47, hl47, hI47, r48, hl48, hI48, r49, hl49, hI49, r50, hl50, hI50, r52, hl52, hI52, r51, r57, h20, hp20, hS8, h21, hp21, hS9, h22, hp22, hS10, h10, h11, h15, h17, h18, h19, hS3, hS4, hS5, hS6, hi, hwn, hnw, hea⟩ := q
 have hlp := Cal.lp_01 y
 have hlp2 := Cal.lp_01 (y + 1)
 have hny := f8 y
 have hyw : 0 ≤ ywd y ∧ ywd y ≤ 6 := by unfold ywd; omega
 refine g5 ?_
 refine rm (rfa 48) ?_
 refine g1 ?_
 refine rm (rld 1 rfl hR r48) ?_
 refine g3 ?_
 refine rm ((cJ rfl rfl).to (cB (jO oM))) ?_
 refine g7 ?_
 refine rm (rfa 49) ?_
 refine g1 ?_
 refine rm (rld 1 rfl hR r49) ?_
 refine g3 ?_
 refine rm ((cJ rfl rfl).to (cB (i3 oM))) ?_
 refine g9 ?_
 refine rm (rfa 48) ?_
 refine g1 ?_
 refine rm (rld 1 rfl hR r48) ?_
 refine g5 ?_
 refine rm (rfa 7) ?_
 refine g1 ?_
 refine rm (rfa 10) ?_
 refine g1 ?_
 refine rm (rld 0 rfl hB h17) ?_
 refine g3 ?_
 refine rm (aF (e := 3) (n := 1) kR rfl rfl oM oM) ?_
 refine g1 ?_
 refine rm (bP 4 rfl hS4 rfl (iT (xL y) hi.1 hi.2) kR) ?_
 refine g1 ?_
 refine bV (v := .bool true) dE kR rfl (fun w_ s_ => (aU mday ((mdY y).getD i.toNat 0) _ hl48 w_ (hI48 w_ s_)).mono fun e_ w2_ h_ => ⟨h_.1.trans (congrArg Ending.returned (cB hc)), h_.2⟩) ?_
 refine g20 ?_
 refine g2 ?_
 refine rm ((aX rfl rfl rfl).to (v' := .bool fF) (by rw [hfF]; unfold nH; rw [hc]; simp [hz, hz2])) ?_
 refine g1 ?_
 exact bR kns
theorem aIr (q : FH F w0 B H S it rb p47 c47 month p48 c48 mday p49 c49 nmday p50 c50 yday p52 c52 wday p51 p57 c51 c57 weekno easter p20 c20 wno p21 c21 nwm p22 c22 eas y b3 b4 b5 b6 c3 c4 c5 c6 v5 v6 v7 v98 v99 v100 i) (fF : Bool) (hfF : fF = (false || nH mday nmday y i)) (hz : mday.length = 0) (hz2 : ¬ nmday.length = 0) (hc : (mday.any (· == ((mdY y).getD i.toNat 0))) = false) : GM Tryz.prog dI (Kn 1418 [(0, pT it), (2, pT rb), (5, v5), (6, v6), (7, v7), (9, iV i), (98, v98), (99, v99), (100, v100), (259, .bool fF)]) (List.take 48 (List.drop 105 dI.toList)) 1418 [(0, pT it), (2, pT rb), (5, v5), (6, v6), (7, v7), (9, iV i), (98, v98), (99, v99), (100, v100), (211, .bool false)] F w0 B H S := by
 obtain ⟨hB, hR, r47, hl47, hI47, r48, hl48, hI48, r49, hl49, hI49, r50, hl50, hI50, r52, hl52, hI52, r51, r57, h20, hp20, hS8, h21, hp21, hS9, h22, hp22, hS10, h10, h11, h15, h17, h18, h19, hS3, hS4, hS5, hS6, hi, hwn, hnw, hea⟩ := q
 have hlp := Cal.lp_01 y
 have hlp2 := Cal.lp_01 (y + 1)
 have hny := f8 y
 have hyw : 0 ≤ ywd y ∧ ywd y ≤ 6 := by unfold ywd; omega
 refine g5 ?_
 refine rm (rfa 48) ?_
 refine g1 ?_
 refine rm (rld 1 rfl hR r48) ?_
 refine g3 ?_
 refine rm ((cJ rfl rfl).to (cB (jO oM))) ?_
 refine g7 ?_
 refine rm (rfa 49) ?_
 refine g1 ?_
 refine rm (rld 1 rfl hR r49) ?_
 refine g3 ?_
 refine rm ((cJ rfl rfl).to (cB (i3 oM))) ?_
 refine g9 ?_
 refine rm (rfa 48) ?_
 refine g1 ?_
 refine rm (rld 1 rfl hR r48) ?_
 refine g5 ?_
 refine rm (rfa 7) ?_
 refine g1 ?_
 refine rm (rfa 10) ?_
 refine g1 ?_
 refine rm (rld 0 rfl hB h17) ?_
 refine g3 ?_
 refine rm (aF (e := 3) (n := 1) kR rfl rfl oM oM) ?_
 refine g1 ?_
 refine rm (bP 4 rfl hS4 rfl (iT (xL y) hi.1 hi.2) kR) ?_
 refine g1 ?_
 refine bV (v := .bool false) dE kR rfl (fun w_ s_ => (aU mday ((mdY y).getD i.toNat 0) _ hl48 w_ (hI48 w_ s_)).mono fun e_ w2_ h_ => ⟨h_.1.trans (congrArg Ending.returned (cB hc)), h_.2⟩) ?_
 refine g11 ?_
 refine rm (rfa 49) ?_
 refine g1 ?_
 refine rm (rld 1 rfl hR r49) ?_
 refine g5 ?_
 refine rm (rfa 7) ?_
 refine g1 ?_
 refine rm (rfa 11) ?_
 refine g1 ?_
 refine rm (rld 0 rfl hB h18) ?_
 refine g3 ?_
 refine rm (aF (e := 3) (n := 1) kR rfl rfl oM oM) ?_
 refine g1 ?_
 refine rm (bP 5 rfl hS5 rfl (iT (aCh y) hi.1 hi.2) kR) ?_
 refine g1 ?_
 refine bV (v := .bool (nmday.any (· == ((mE y).getD i.toNat 0)))) dE kR rfl (fun w_ s_ => (aU nmday ((mE y).getD i.toNat 0) _ hl49 w_ (hI49 w_ s_)).mono fun e_ w2_ h_ => ⟨h_.1.trans (congrArg Ending.returned rfl), h_.2⟩) ?_
 refine g4 ?_
 refine rm ((aX rfl rfl rfl).to (v' := .bool fF) (by rw [hfF]; unfold nH; rw [hc]; simp [hz, hz2])) ?_
 refine g1 ?_
 exact bR kns
theorem aJj (q : FH F w0 B H S it rb p47 c47 month p48 c48 mday p49 c49 nmday p50 c50 yday p52 c52 wday p51 p57 c51 c57 weekno easter p20 c20 wno p21 c21 nwm p22 c22 eas y b3 b4 b5 b6 c3 c4 c5 c6 v5 v6 v7 v98 v99 v100 i) (fF : Bool) (hfF : fF = (false || nH mday nmday y i)) (hz : ¬ mday.length = 0) (hc : (mday.any (· == ((mdY y).getD i.toNat 0))) = true) : GM Tryz.prog dI (Kn 1418 [(0, pT it), (2, pT rb), (5, v5), (6, v6), (7, v7), (9, iV i), (98, v98), (99, v99), (100, v100), (259, .bool fF)]) (List.take 48 (List.drop 105 dI.toList)) 1418 [(0, pT it), (2, pT rb), (5, v5), (6, v6), (7, v7), (9, iV i), (98, v98), (99, v99), (100, v100), (211, .bool false)] F w0 B H S := by
 obtain ⟨hB, hR, r47, hl47, hI47, r48, hl48, hI48, r49, hl49, hI49, r50, hl50, hI50, r52, hl52, hI52, r51, r57, h20, hp20, hS8, h21, hp21, hS9, h22, hp22, hS10, h10, h11, h15, h17, h18, h19, hS3, hS4, hS5, hS6, hi, hwn, hnw, hea⟩ := q
 have hlp := Cal.lp_01 y
 have hlp2 := Cal.lp_01 (y + 1)
 have hny := f8 y
 have hyw : 0 ≤ ywd y ∧ ywd y ≤ 6 := by unfold ywd; omega
 refine g5 ?_
 refine rm (rfa 48) ?_
 refine g1 ?_
 refine rm (rld 1 rfl hR r48) ?_
 refine g3 ?_
 refine rm ((cJ rfl rfl).to (cB (i3 oM))) ?_
 refine g16 ?_
 refine g1 ?_
 refine rm (rfa 48) ?_
 refine g1 ?_
 refine rm (rld 1 rfl hR r48) ?_
 refine g5 ?_
 refine rm (rfa 7) ?_
 refine g1 ?_
 refine rm (rfa 10) ?_
 refine g1 ?_
 refine rm (rld 0 rfl hB h17) ?_
 refine g3 ?_
 refine rm (aF (e := 3) (n := 1) kR rfl rfl oM oM) ?_
 refine g1 ?_
 refine rm (bP 4 rfl hS4 rfl (iT (xL y) hi.1 hi.2) kR) ?_
 refine g1 ?_
 refine bV (v := .bool true) dE kR rfl (fun w_ s_ => (aU mday ((mdY y).getD i.toNat 0) _ hl48 w_ (hI48 w_ s_)).mono fun e_ w2_ h_ => ⟨h_.1.trans (congrArg Ending.returned (cB hc)), h_.2⟩) ?_
 refine g20 ?_
 refine g2 ?_
 refine rm ((aX rfl rfl rfl).to (v' := .bool fF) (by rw [hfF]; unfold nH; rw [hc]; simp [hz])) ?_
 refine g1 ?_
 exact bR kns
theorem aJf (q : FH F w0 B H S it rb p47 c47 month p48 c48 mday p49 c49 nmday p50 c50 yday p52 c52 wday p51 p57 c51 c57 weekno easter p20 c20 wno p21 c21 nwm p22 c22 eas y b3 b4 b5 b6 c3 c4 c5 c6 v5 v6 v7 v98 v99 v100 i) (fF : Bool) (hfF : fF = (false || nH mday nmday y i)) (hz : ¬ mday.length = 0) (hc : (mday.any (· == ((mdY y).getD i.toNat 0))) = false) : GM Tryz.prog dI (Kn 1418 [(0, pT it), (2, pT rb), (5, v5), (6, v6), (7, v7), (9, iV i), (98, v98), (99, v99), (100, v100), (259, .bool fF)]) (List.take 48 (List.drop 105 dI.toList)) 1418 [(0, pT it), (2, pT rb), (5, v5), (6, v6), (7, v7), (9, iV i), (98, v98), (99, v99), (100, v100), (211, .bool false)] F w0 B H S := by
 obtain ⟨hB, hR, r47, hl47, hI47, r48, hl48, hI48, r49, hl49, hI49, r50, hl50, hI50, r52, hl52, hI52, r51, r57, h20, hp20, hS8, h21, hp21, hS9, h22, hp22, hS10, h10, h11, h15, h17, h18, h19, hS3, hS4, hS5, hS6, hi, hwn, hnw, hea⟩ := q
 have hlp := Cal.lp_01 y
 have hlp2 := Cal.lp_01 (y + 1)
 have hny := f8 y
 have hyw : 0 ≤ ywd y ∧ ywd y ≤ 6 := by unfold ywd; omega
 refine g5 ?_
 refine rm (rfa 48) ?_
 refine g1 ?_
 refine rm (rld 1 rfl hR r48) ?_
 refine g3 ?_
 refine rm ((cJ rfl rfl).to (cB (i3 oM))) ?_
 refine g16 ?_
 refine g1 ?_
 refine rm (rfa 48) ?_
 refine g1 ?_
 refine rm (rld 1 rfl hR r48) ?_
 refine g5 ?_
 refine rm (rfa 7) ?_
 refine g1 ?_
 refine rm (rfa 10) ?_
 refine g1 ?_
 refine rm (rld 0 rfl hB h17) ?_
 refine g3 ?_
 refine rm (aF (e := 3) (n := 1) kR rfl rfl oM oM) ?_
 refine g1 ?_
 refine rm (bP 4 rfl hS4 rfl (iT (xL y) hi.1 hi.2) kR) ?_
 refine g1 ?_
 refine bV (v := .bool false) dE kR rfl (fun w_ s_ => (aU mday ((mdY y).getD i.toNat 0) _ hl48 w_ (hI48 w_ s_)).mono fun e_ w2_ h_ => ⟨h_.1.trans (congrArg Ending.returned (cB hc)), h_.2⟩) ?_
 refine g11 ?_
 refine rm (rfa 49) ?_
 refine g1 ?_
 refine rm (rld 1 rfl hR r49) ?_
 refine g5 ?_
 refine rm (rfa 7) ?_
 refine g1 ?_
 refine rm (rfa 11) ?_
 refine g1 ?_
 refine rm (rld 0 rfl hB h18) ?_
 refine g3 ?_
 refine rm (aF (e := 3) (n := 1) kR rfl rfl oM oM) ?_
 refine g1 ?_
 refine rm (bP 5 rfl hS5 rfl (iT (aCh y) hi.1 hi.2) kR) ?_
 refine g1 ?_
 refine bV (v := .bool (nmday.any (· == ((mE y).getD i.toNat 0)))) dE kR rfl (fun w_ s_ => (aU nmday ((mE y).getD i.toNat 0) _ hl49 w_ (hI49 w_ s_)).mono fun e_ w2_ h_ => ⟨h_.1.trans (congrArg Ending.returned rfl), h_.2⟩) ?_
 refine g4 ?_
 refine rm ((aX rfl rfl rfl).to (v' := .bool fF) (by rw [hfF]; unfold nH; rw [hc]; simp [hz])) ?_
 refine g1 ?_
 exact bR kns
theorem aI8 (q : FH F w0 B H S it rb p47 c47 month p48 c48 mday p49 c49 nmday p50 c50 yday p52 c52 wday p51 p57 c51 c57 weekno easter p20 c20 wno p21 c21 nwm p22 c22 eas y b3 b4 b5 b6 c3 c4 c5 c6 v5 v6 v7 v98 v99 v100 i) (fG : Bool) (hfG : fG = (true || mZ yday y i)) : GM Tryz.prog dI (Kn 1418 [(0, pT it), (2, pT rb), (5, v5), (6, v6), (7, v7), (9, iV i), (98, v98), (99, v99), (100, v100), (348, .bool fG)]) (List.take 89 (List.drop 153 dI.toList)) 1418 [(0, pT it), (2, pT rb), (5, v5), (6, v6), (7, v7), (9, iV i), (98, v98), (99, v99), (100, v100), (259, .bool true)] F w0 B H S := by
 obtain ⟨hB, hR, r47, hl47, hI47, r48, hl48, hI48, r49, hl49, hI49, r50, hl50, hI50, r52, hl52, hI52, r51, r57, h20, hp20, hS8, h21, hp21, hS9, h22, hp22, hS10, h10, h11, h15, h17, h18, h19, hS3, hS4, hS5, hS6, hi, hwn, hnw, hea⟩ := q
 have hlp := Cal.lp_01 y
 have hlp2 := Cal.lp_01 (y + 1)
 have hny := f8 y
 have hyw : 0 ≤ ywd y ∧ ywd y ≤ 6 := by unfold ywd; omega
 refine g40 ?_
 refine g40 ?_
 refine g8 ?_
 refine rm ((aX rfl rfl rfl).to (v' := .bool fG) (by rw [hfG]; simp)) ?_
 exact bR kns
theorem aJa (q : FH F w0 B H S it rb p47 c47 month p48 c48 mday p49 c49 nmday p50 c50 yday p52 c52 wday p51 p57 c51 c57 weekno easter p20 c20 wno p21 c21 nwm p22 c22 eas y b3 b4 b5 b6 c3 c4 c5 c6 v5 v6 v7 v98 v99 v100 i) (fG : Bool) (hfG : fG = (false || mZ yday y i)) (hz : yday.length = 0) : GM Tryz.prog dI (Kn 1418 [(0, pT it), (2, pT rb), (5, v5), (6, v6), (7, v7), (9, iV i), (98, v98), (99, v99), (100, v100), (348, .bool fG)]) (List.take 89 (List.drop 153 dI.toList)) 1418 [(0, pT it), (2, pT rb), (5, v5), (6, v6), (7, v7), (9, iV i), (98, v98), (99, v99), (100, v100), (259, .bool false)] F w0 B H S := by
 obtain ⟨hB, hR, r47, hl47, hI47, r48, hl48, hI48, r49, hl49, hI49, r50, hl50, hI50, r52, hl52, hI52, r51, r57, h20, hp20, hS8, h21, hp21, hS9, h22, hp22, hS10, h10, h11, h15, h17, h18, h19, hS3, hS4, hS5, hS6, hi, hwn, hnw, hea⟩ := q
 have hlp := Cal.lp_01 y
 have hlp2 := Cal.lp_01 (y + 1)
 have hny := f8 y
 have hyw : 0 ≤ ywd y ∧ ywd y ≤ 6 := by unfold ywd; omega
 refine g5 ?_
 refine rm (rfa 50) ?_
 refine g1 ?_
 refine rm (rld 1 rfl hR r50) ?_
 refine g3 ?_
 refine rm ((cJ rfl rfl).to (cB (jO oM))) ?_
 refine g40 ?_
 refine g40 ?_
 refine g4 ?_
 refine rm ((aX rfl rfl rfl).to (v' := .bool fG) (by rw [hfG]; simp [mZ, hz])) ?_
 exact bR kns
theorem aIx (q : FH F w0 B H S it rb p47 c47 month p48 c48 mday p49 c49 nmday p50 c50 yday p52 c52 wday p51 p57 c51 c57 weekno easter p20 c20 wno p21 c21 nwm p22 c22 eas y b3 b4 b5 b6 c3 c4 c5 c6 v5 v6 v7 v98 v99 v100 i) (fG : Bool) (hfG : fG = (false || mZ yday y i)) (hz : ¬ yday.length = 0) (hlt : i < 365 + Cal.lp y) (hc : (yday.any (· == (i + 1))) = true) : GM Tryz.prog dI (Kn 1418 [(0, pT it), (2, pT rb), (5, v5), (6, v6), (7, v7), (9, iV i), (98, v98), (99, v99), (100, v100), (348, .bool fG)]) (List.take 89 (List.drop 153 dI.toList)) 1418 [(0, pT it), (2, pT rb), (5, v5), (6, v6), (7, v7), (9, iV i), (98, v98), (99, v99), (100, v100), (259, .bool false)] F w0 B H S := by
 obtain ⟨hB, hR, r47, hl47, hI47, r48, hl48, hI48, r49, hl49, hI49, r50, hl50, hI50, r52, hl52, hI52, r51, r57, h20, hp20, hS8, h21, hp21, hS9, h22, hp22, hS10, h10, h11, h15, h17, h18, h19, hS3, hS4, hS5, hS6, hi, hwn, hnw, hea⟩ := q
 have hlp := Cal.lp_01 y
 have hlp2 := Cal.lp_01 (y + 1)
 have hny := f8 y
 have hyw : 0 ≤ ywd y ∧ ywd y ≤ 6 := by unfold ywd; omega
 have hge : ¬ 365 + Cal.lp y ≤ i := by omega
 refine g5 ?_
 refine rm (rfa 50) ?_
 refine g1 ?_
 refine rm (rld 1 rfl hR r50) ?_
 refine g3 ?_
 refine rm ((cJ rfl rfl).to (cB (i3 oM))) ?_
 refine g9 ?_
 refine rm (rfa 7) ?_
 refine g1 ?_
 refine rm (rfa 3) ?_
 refine g1 ?_
 refine rm (rld 0 rfl hB h10) ?_
 refine g1 ?_
 refine rm ((cM rfl rfl).to (cB (decide_eq_true hlt))) ?_
 refine g7 ?_
 refine rm (rfa 50) ?_
 refine g1 ?_
 refine rm (rld 1 rfl hR r50) ?_
 refine g5 ?_
 refine bV (v := .bool true) dE kR rfl (fun w_ s_ => (aU yday (i + 1) _ hl50 w_ (hI50 w_ s_)).mono fun e_ w2_ h_ => ⟨h_.1.trans (congrArg Ending.returned (cB hc)), h_.2⟩) ?_
 refine g30 ?_
 refine g1 ?_
 refine rm (rfa 7) ?_
 refine g1 ?_
 refine rm (rfa 3) ?_
 refine g1 ?_
 refine rm (rld 0 rfl hB h10) ?_
 refine g1 ?_
 refine rm ((bZ rfl rfl).to (cB (decide_eq_false oM))) ?_
 refine g40 ?_
 refine g6 ?_
 refine rm ((aX rfl rfl rfl).to (v' := .bool fG) (by rw [hfG]; unfold mZ; simp only [hc, hlt, hge]; simp [hz])) ?_
 exact bR kns
theorem aJd (q : FH F w0 B H S it rb p47 c47 month p48 c48 mday p49 c49 nmday p50 c50 yday p52 c52 wday p51 p57 c51 c57 weekno easter p20 c20 wno p21 c21 nwm p22 c22 eas y b3 b4 b5 b6 c3 c4 c5 c6 v5 v6 v7 v98 v99 v100 i) (fG : Bool) (hfG : fG = (false || mZ yday y i)) (hz : ¬ yday.length = 0) (hlt : i < 365 + Cal.lp y) (hc : (yday.any (· == (i + 1))) = false) (hc2 : (yday.any (· == (-(365 + Cal.lp y) + i))) = true) : GM Tryz.prog dI (Kn 1418 [(0, pT it), (2, pT rb), (5, v5), (6, v6), (7, v7), (9, iV i), (98, v98), (99, v99), (100, v100), (348, .bool fG)]) (List.take 89 (List.drop 153 dI.toList)) 1418 [(0, pT it), (2, pT rb), (5, v5), (6, v6), (7, v7), (9, iV i), (98, v98), (99, v99), (100, v100), (259, .bool false)] F w0 B H S := by
 obtain ⟨hB, hR, r47, hl47, hI47, r48, hl48, hI48, r49, hl49, hI49, r50, hl50, hI50, r52, hl52, hI52, r51, r57, h20, hp20, hS8, h21, hp21, hS9, h22, hp22, hS10, h10, h11, h15, h17, h18, h19, hS3, hS4, hS5, hS6, hi, hwn, hnw, hea⟩ := q
 have hlp := Cal.lp_01 y
 have hlp2 := Cal.lp_01 (y + 1)
 have hny := f8 y
 have hyw : 0 ≤ ywd y ∧ ywd y ≤ 6 := by unfold ywd; omega
 have hge : ¬ 365 + Cal.lp y ≤ i := by omega
 refine g5 ?_
 refine rm (rfa 50) ?_
 refine g1 ?_
 refine rm (rld 1 rfl hR r50) ?_
 refine g3 ?_
 refine rm ((cJ rfl rfl).to (cB (i3 oM))) ?_
 refine g9 ?_
 refine rm (rfa 7) ?_
 refine g1 ?_
 refine rm (rfa 3) ?_
 refine g1 ?_
 refine rm (rld 0 rfl hB h10) ?_
 refine g1 ?_
 refine rm ((cM rfl rfl).to (cB (decide_eq_true hlt))) ?_
 refine g7 ?_
 refine rm (rfa 50) ?_
 refine g1 ?_
 refine rm (rld 1 rfl hR r50) ?_
 refine g5 ?_
 refine bV (v := .bool false) dE kR rfl (fun w_ s_ => (aU yday (i + 1) _ hl50 w_ (hI50 w_ s_)).mono fun e_ w2_ h_ => ⟨h_.1.trans (congrArg Ending.returned (cB hc)), h_.2⟩) ?_
 refine g11 ?_
 refine rm (rfa 50) ?_
 refine g1 ?_
 refine rm (rld 1 rfl hR r50) ?_
 refine g5 ?_
 refine rm (rfa 7) ?_
 refine g1 ?_
 refine rm (rfa 3) ?_
 refine g1 ?_
 refine rm (rld 0 rfl hB h10) ?_
 refine g7 ?_
 refine bV (v := .bool true) dE kR rfl (fun w_ s_ => (aU yday (-(365 + Cal.lp y) + i) _ hl50 w_ (hI50 w_ s_)).mono fun e_ w2_ h_ => ⟨h_.1.trans (congrArg Ending.returned (cB hc2)), h_.2⟩) ?_
 refine g13 ?_
 refine rm (rfa 7) ?_
 refine g1 ?_
 refine rm (rfa 3) ?_
 refine g1 ?_
 refine rm (rld 0 rfl hB h10) ?_
 refine g1 ?_
 refine rm ((bZ rfl rfl).to (cB (decide_eq_false oM))) ?_
 refine g40 ?_
 refine g6 ?_
 refine rm ((aX rfl rfl rfl).to (v' := .bool fG) (by rw [hfG]; unfold mZ; simp only [hc, hc2, hlt, hge]; simp [hz])) ?_
 exact bR kns
theorem aIn (q : FH F w0 B H S it rb p47 c47 month p48 c48 mday p49 c49 nmday p50 c50 yday p52 c52 wday p51 p57 c51 c57 weekno easter p20 c20 wno p21 c21 nwm p22 c22 eas y b3 b4 b5 b6 c3 c4 c5 c6 v5 v6 v7 v98 v99 v100 i) (fG : Bool) (hfG : fG = (false || mZ yday y i)) (hz : ¬ yday.length = 0) (hlt : i < 365 + Cal.lp y) (hc : (yday.any (· == (i + 1))) = false) (hc2 : (yday.any (· == (-(365 + Cal.lp y) + i))) = false) : GM Tryz.prog dI (Kn 1418 [(0, pT it), (2, pT rb), (5, v5), (6, v6), (7, v7), (9, iV i), (98, v98), (99, v99), (100, v100), (348, .bool fG)]) (List.take 89 (List.drop 153 dI.toList)) 1418 [(0, pT it), (2, pT rb), (5, v5), (6, v6), (7, v7), (9, iV i), (98, v98), (99, v99), (100, v100), (259, .bool false)] F w0 B H S := by
 obtain ⟨hB, hR, r47, hl47, hI47, r48, hl48, hI48, r49, hl49, hI49, r50, hl50, hI50, r52, hl52, hI52, r51, r57, h20, hp20, hS8, h21, hp21, hS9, h22, hp22, hS10, h10, h11, h15, h17, h18, h19, hS3, hS4, hS5, hS6, hi, hwn, hnw, hea⟩ := q
 have hlp := Cal.lp_01 y
 have hlp2 := Cal.lp_01 (y + 1)
 have hny := f8 y
 have hyw : 0 ≤ ywd y ∧ ywd y ≤ 6 := by unfold ywd; omega
 have hge : ¬ 365 + Cal.lp y ≤ i := by omega
 refine g5 ?_
 refine rm (rfa 50) ?_
 refine g1 ?_
 refine rm (rld 1 rfl hR r50) ?_
 refine g3 ?_
 refine rm ((cJ rfl rfl).to (cB (i3 oM))) ?_
 refine g9 ?_
 refine rm (rfa 7) ?_
 refine g1 ?_
 refine rm (rfa 3) ?_
 refine g1 ?_
 refine rm (rld 0 rfl hB h10) ?_
 refine g1 ?_
 refine rm ((cM rfl rfl).to (cB (decide_eq_true hlt))) ?_
 refine g7 ?_
 refine rm (rfa 50) ?_
 refine g1 ?_
 refine rm (rld 1 rfl hR r50) ?_
 refine g5 ?_
 refine bV (v := .bool false) dE kR rfl (fun w_ s_ => (aU yday (i + 1) _ hl50 w_ (hI50 w_ s_)).mono fun e_ w2_ h_ => ⟨h_.1.trans (congrArg Ending.returned (cB hc)), h_.2⟩) ?_
 refine g11 ?_
 refine rm (rfa 50) ?_
 refine g1 ?_
 refine rm (rld 1 rfl hR r50) ?_
 refine g5 ?_
 refine rm (rfa 7) ?_
 refine g1 ?_
 refine rm (rfa 3) ?_
 refine g1 ?_
 refine rm (rld 0 rfl hB h10) ?_
 refine g7 ?_
 refine bV (v := .bool false) dE kR rfl (fun w_ s_ => (aU yday (-(365 + Cal.lp y) + i) _ hl50 w_ (hI50 w_ s_)).mono fun e_ w2_ h_ => ⟨h_.1.trans (congrArg Ending.returned (cB hc2)), h_.2⟩) ?_
 refine g40 ?_
 refine g15 ?_
 refine rm ((aX rfl rfl rfl).to (v' := .bool fG) (by rw [hfG]; unfold mZ; simp only [hc, hc2, hlt, hge]; simp [hz])) ?_
 exact bR kns
theorem aI6 (q : FH F w0 B H S it rb p47 c47 month p48 c48 mday p49 c49 nmday p50 c50 yday p52 c52 wday p51 p57 c51 c57 weekno easter p20 c20 wno p21 c21 nwm p22 c22 eas y b3 b4 b5 b6 c3 c4 c5 c6 v5 v6 v7 v98 v99 v100 i) (fG : Bool) (hfG : fG = (false || mZ yday y i)) (hz : ¬ yday.length = 0) (hlt : ¬ i < 365 + Cal.lp y) (hc : (yday.any (· == (i + 1 - (365 + Cal.lp y)))) = true) : GM Tryz.prog dI (Kn 1418 [(0, pT it), (2, pT rb), (5, v5), (6, v6), (7, v7), (9, iV i), (98, v98), (99, v99), (100, v100), (348, .bool fG)]) (List.take 89 (List.drop 153 dI.toList)) 1418 [(0, pT it), (2, pT rb), (5, v5), (6, v6), (7, v7), (9, iV i), (98, v98), (99, v99), (100, v100), (259, .bool false)] F w0 B H S := by
 obtain ⟨hB, hR, r47, hl47, hI47, r48, hl48, hI48, r49, hl49, hI49, r50, hl50, hI50, r52, hl52, hI52, r51, r57, h20, hp20, hS8, h21, hp21, hS9, h22, hp22, hS10, h10, h11, h15, h17, h18, h19, hS3, hS4, hS5, hS6, hi, hwn, hnw, hea⟩ := q
 have hlp := Cal.lp_01 y
 have hlp2 := Cal.lp_01 (y + 1)
 have hny := f8 y
 have hyw : 0 ≤ ywd y ∧ ywd y ≤ 6 := by unfold ywd; omega
 have hge : 365 + Cal.lp y ≤ i := by omega
 refine g5 ?_
 refine rm (rfa 50) ?_
 refine g1 ?_
 refine rm (rld 1 rfl hR r50) ?_
 refine g3 ?_
 refine rm ((cJ rfl rfl).to (cB (i3 oM))) ?_
 refine g9 ?_
 refine rm (rfa 7) ?_
 refine g1 ?_
 refine rm (rfa 3) ?_
 refine g1 ?_
 refine rm (rld 0 rfl hB h10) ?_
 refine g1 ?_
 refine rm ((cM rfl rfl).to (cB (decide_eq_false hlt))) ?_
 refine g30 ?_
 refine g9 ?_
 refine rm (rfa 7) ?_
 refine g1 ?_
 refine rm (rfa 3) ?_
 refine g1 ?_
 refine rm (rld 0 rfl hB h10) ?_
 refine g1 ?_
 refine rm ((bZ rfl rfl).to (cB (decide_eq_true oM))) ?_
 refine g7 ?_
 refine rm (rfa 50) ?_
 refine g1 ?_
 refine rm (rld 1 rfl hR r50) ?_
 refine g9 ?_
 refine rm (rfa 7) ?_
 refine g1 ?_
 refine rm (rfa 3) ?_
 refine g1 ?_
 refine rm (rld 0 rfl hB h10) ?_
 refine g3 ?_
 refine bV (v := .bool true) dE kR rfl (fun w_ s_ => (aU yday (i + 1 - (365 + Cal.lp y)) _ hl50 w_ (hI50 w_ s_)).mono fun e_ w2_ h_ => ⟨h_.1.trans (congrArg Ending.returned (cB hc)), h_.2⟩) ?_
 refine g30 ?_
 refine g2 ?_
 refine rm ((aX rfl rfl rfl).to (v' := .bool fG) (by rw [hfG]; unfold mZ; simp only [hc, hlt, hge]; simp [hz])) ?_
 exact bR kns
theorem aIv (q : FH F w0 B H S it rb p47 c47 month p48 c48 mday p49 c49 nmday p50 c50 yday p52 c52 wday p51 p57 c51 c57 weekno easter p20 c20 wno p21 c21 nwm p22 c22 eas y b3 b4 b5 b6 c3 c4 c5 c6 v5 v6 v7 v98 v99 v100 i) (fG : Bool) (hfG : fG = (false || mZ yday y i)) (hz : ¬ yday.length = 0) (hlt : ¬ i < 365 + Cal.lp y) (hc : (yday.any (· == (i + 1 - (365 + Cal.lp y)))) = false) : GM Tryz.prog dI (Kn 1418 [(0, pT it), (2, pT rb), (5, v5), (6, v6), (7, v7), (9, iV i), (98, v98), (99, v99), (100, v100), (348, .bool fG)]) (List.take 89 (List.drop 153 dI.toList)) 1418 [(0, pT it), (2, pT rb), (5, v5), (6, v6), (7, v7), (9, iV i), (98, v98), (99, v99), (100, v100), (259, .bool false)] F w0 B H S := by
 obtain ⟨hB, hR, r47, hl47, hI47, r48, hl48, hI48, r49, hl49, hI49, r50, hl50, hI50, r52, hl52, hI52, r51, r57, h20, hp20, hS8, h21, hp21, hS9, h22, hp22, hS10, h10, h11, h15, h17, h18, h19, hS3, hS4, hS5, hS6, hi, hwn, hnw, hea⟩ := q
 have hlp := Cal.lp_01 y
 have hlp2 := Cal.lp_01 (y + 1)
 have hny := f8 y
 have hyw : 0 ≤ ywd y ∧ ywd y ≤ 6 := by unfold ywd; omega
 have hge : 365 + Cal.lp y ≤ i := by omega
 refine g5 ?_
 refine rm (rfa 50) ?_
 refine g1 ?_
 refine rm (rld 1 rfl hR r50) ?_
 refine g3 ?_
 refine rm ((cJ rfl rfl).to (cB (i3 oM))) ?_
 refine g9 ?_
 refine rm (rfa 7) ?_
 refine g1 ?_
 refine rm (rfa 3) ?_
 refine g1 ?_
 refine rm (rld 0 rfl hB h10) ?_
 refine g1 ?_
 refine rm ((cM rfl rfl).to (cB (decide_eq_false hlt))) ?_
 refine g30 ?_
 refine g9 ?_
 refine rm (rfa 7) ?_
 refine g1 ?_
 refine rm (rfa 3) ?_
 refine g1 ?_
 refine rm (rld 0 rfl hB h10) ?_
 refine g1 ?_
 refine rm ((bZ rfl rfl).to (cB (decide_eq_true oM))) ?_
 refine g7 ?_
 refine rm (rfa 50) ?_
 refine g1 ?_
 refine rm (rld 1 rfl hR r50) ?_
 refine g9 ?_
 refine rm (rfa 7) ?_
 refine g1 ?_
 refine rm (rfa 3) ?_
 refine g1 ?_
 refine rm (rld 0 rfl hB h10) ?_
 refine g3 ?_
 refine bV (v := .bool false) dE kR rfl (fun w_ s_ => (aU yday (i + 1 - (365 + Cal.lp y)) _ hl50 w_ (hI50 w_ s_)).mono fun e_ w2_ h_ => ⟨h_.1.trans (congrArg Ending.returned (cB hc)), h_.2⟩) ?_
 refine g11 ?_
 refine rm (rfa 50) ?_
 refine g1 ?_
 refine rm (rld 1 rfl hR r50) ?_
 refine g5 ?_
 refine rm (rfa 7) ?_
 refine g1 ?_
 refine rm (rfa 4) ?_
 refine g1 ?_
 refine rm (rld 0 rfl hB h11) ?_
 refine g11 ?_
 refine rm (rfa 7) ?_
 refine g1 ?_
 refine rm (rfa 3) ?_
 refine g1 ?_
 refine rm (rld 0 rfl hB h10) ?_
 refine g3 ?_
 refine bV (v := .bool (yday.any (· == (-(365 + Cal.lp (y + 1)) + i - (365 + Cal.lp y))))) dE kR rfl (fun w_ s_ => (aU yday (-(365 + Cal.lp (y + 1)) + i - (365 + Cal.lp y)) _ hl50 w_ (hI50 w_ s_)).mono fun e_ w2_ h_ => ⟨h_.1.trans (congrArg Ending.returned rfl), h_.2⟩) ?_
 refine g8 ?_
 refine rm ((aX rfl rfl rfl).to (v' := .bool fG) (by rw [hfG]; unfold mZ; simp only [hc, hlt, hge]; simp [hz])) ?_
 exact bR kns
end
theorem yM {Q : Exit → Act → World → Prop} {it rb : Nat} (hB : lkp 0 B = some it) (hR : lkp 1 B = some rb) {p47 : Option Addr} {c47 : Nat} {month : List Int} (r47 : lkp (ky 1 47) H = some (.slice p47 month.length c47)) (hl47 : month.length ≤ 1000000000) (hI47 : ∀ w, Sees F w0 B H S w → Ints w (.slice p47 month.length c47) month) {p48 : Option Addr} {c48 : Nat} {mday : List Int} (r48 : lkp (ky 1 48) H = some (.slice p48 mday.length c48)) (hl48 : mday.length ≤ 1000000000) (hI48 : ∀ w, Sees F w0 B H S w → Ints w (.slice p48 mday.length c48) mday) {p49 : Option Addr} {c49 : Nat} {nmday : List Int} (r49 : lkp (ky 1 49) H = some (.slice p49 nmday.length c49)) (hl49 : nmday.length ≤ 1000000000) (hI49 : ∀ w, Sees F w0 B H S w → Ints w (.slice p49 nmday.length c49) nmday) {p50 : Option Addr} {c50 : Nat} {yday : List Int} (r50 : lkp (ky 1 50) H = some (.slice p50 yday.length c50)) (hl50 : yday.length ≤ 1000000000) (hI50 : ∀ w, Sees F w0 B H S w → Ints w (.slice p50 yday.length c50) yday) {p52 : Option Addr} {c52 : Nat} {wday : List Int} (r52 : lkp (ky 1 52) H = some (.slice p52 wday.length c52)) (hl52 : wday.length ≤ 1000000000) (hI52 : ∀ w, Sees F w0 B H S w → Ints w (.slice p52 wday.length c52) wday) {p51 p57 : Option Addr} {c51 c57 : Nat} {weekno easter : List Int} (r51 : lkp (ky 1 51) H = some (.slice p51 weekno.length c51)) (r57 : lkp (ky 1 57) H = some (.slice p57 easter.length c57)) {p20 : Option Addr} {c20 : Nat} {wno : List Int} (h20 : lkp (ky 0 20) H = some (.slice p20 wno.length c20)) (hp20 : 0 < wno.length → ∃ b, p20 = some ⟨b, 0, none⟩) (hS8 : 0 < wno.length → lkp 8 S = some ⟨.slice p20 wno.length c20, 3, 1, wno.length, wno.map iV⟩) {p21 : Option Addr} {c21 : Nat} {nwm : List Int} (h21 : lkp (ky 0 21) H = some (.slice p21 nwm.length c21)) (hp21 : 0 < nwm.length → ∃ b, p21 = some ⟨b, 0, none⟩) (hS9 : 0 < nwm.length → lkp 9 S = some ⟨.slice p21 nwm.length c21, 3, 1, nwm.length, nwm.map iV⟩) {p22 : Option Addr} {c22 : Nat} {eas : List Int} (h22 : lkp (ky 0 22) H = some (.slice p22 eas.length c22)) (hp22 : 0 < eas.length → ∃ b, p22 = some ⟨b, 0, none⟩) (hS10 : 0 < eas.length → lkp 10 S = some ⟨.slice p22 eas.length c22, 3, 1, eas.length, eas.map iV⟩) {y : Int}
  (h10 : lkp (ky 0 10) H = some (iV (365 + Cal.lp y))) (h11 : lkp (ky 0 11) H = some (iV (365 + Cal.lp (y + 1)))) {b3 b4 b5 b6 c3 c4 c5 c6 : Nat} (h15 : lkp (ky 0 15) H = some (sL b3 (nY y) c3)) (h17 : lkp (ky 0 17) H = some (sL b4 (nY y) c4))
  (h18 : lkp (ky 0 18) H = some (sL b5 (nY y) c5)) (h19 : lkp (ky 0 19) H = some (.slice (some ⟨b6, 0 + (ywd y).toNat * 1, none⟩) (385 - (ywd y).toNat) (c6 - (ywd y).toNat)))
  (hS3 : lkp 3 S = some ⟨sL b3 (nY y) c3, 3, 1, nY y, (mmY y).map iV⟩) (hS4 : lkp 4 S = some ⟨sL b4 (nY y) c4, 3, 1, nY y, (mdY y).map iV⟩) (hS5 : lkp 5 S = some ⟨sL b5 (nY y) c5, 3, 1, nY y, (mE y).map iV⟩)
  (hS6 : lkp 6 S = some ⟨sL b6 385 c6, 3, 1, 385, (wd 55).map iV⟩) {v5 v6 v7 v98 v99 v100 : Value} {i : Int} (hi : 0 ≤ i ∧ i < nY y) (hwn : weekno.length ≠ 0 → i < wno.length) (hnw : nwm.length ≠ 0 → i < nwm.length) (hea : easter.length ≠ 0 → i < eas.length)
  (hn : GE Q .normal 1418 [(0, pT it), (2, pT rb), (5, v5), (6, v6), (7, v7), (9, iV i), (98, v98), (99, v99), (100, v100), (348, .bool (u7 month y i || uU weekno wno i || uG wday y i || uT nwm i || uR easter eas i || nH mday nmday y i || mZ yday y i))] F w0 B H S) : GC Tryz.prog (Go.Fr.part [1, 1, 0, 0, 1, 0, 1, 1, 1, 1, 0, 1, 0, 0, 1, 1, 0, 0, 1, 1, 0] (Go.Fr.bodyOf Tryz.f96)) Q 1418 [(0, pT it), (2, pT rb), (5, v5), (6, v6), (7, v7), (9, iV i), (98, v98), (99, v99), (100, v100)] F w0 B H S := by
 have hlp := Cal.lp_01 y
 have hlp2 := Cal.lp_01 (y + 1)
 have hny := f8 y
 have hyw : 0 ≤ ywd y ∧ ywd y ≤ 6 := by unfold ywd; omega
 show GC _ (Code.region 11 dI true) _ _ _ _ _ _ _ _
 have q : FH F w0 B H S it rb p47 c47 month p48 c48 mday p49 c49 nmday p50 c50 yday p52 c52 wday p51 p57 c51 c57 weekno easter p20 c20 wno p21 c21 nwm p22 c22 eas y b3 b4 b5 b6 c3 c4 c5 c6 v5 v6 v7 v98 v99 v100 i := ⟨hB, hR, r47, hl47, hI47, r48, hl48, hI48, r49, hl49, hI49, r50, hl50, hI50, r52, hl52, hI52, r51, r57, h20, hp20, hS8, h21, hp21, hS9, h22, hp22, hS10, h10, h11, h15, h17, h18, h19, hS3, hS4, hS5, hS6, hi, hwn, hnw, hea⟩
 refine zQ kR (aEn 107 kR) ?_
 obtain ⟨fA, hfA⟩ : ∃ f, f = u7 month y i := ⟨_, rfl⟩
 refine jW 0 23 23 rfl [(0, pT it), (2, pT rb), (5, v5), (6, v6), (7, v7), (9, iV i), (98, v98), (99, v99), (100, v100), (129, .bool fA)] ?_ ?_
 ·by_cases hz : month.length = 0
  ·exact ft_1 q fA hfA hz
  ·exact ft_2 q fA hfA hz
 obtain ⟨fB, hfB⟩ : ∃ f, f = (fA || uU weekno wno i) := ⟨_, rfl⟩
 refine jW 23 19 42 rfl [(0, pT it), (2, pT rb), (5, v5), (6, v6), (7, v7), (9, iV i), (98, v98), (99, v99), (100, v100), (148, .bool fB)] ?_ ?_
 ·rcases bO fA with hf | hf <;> subst hf
  ·exact ft_3 q fB hfB
  ·by_cases hz : weekno.length = 0
   ·exact ft_4 q fB hfB hz
   ·exact ft_5 q fB hfB hz
 obtain ⟨fC, hfC⟩ : ∃ f, f = (fB || uG wday y i) := ⟨_, rfl⟩
 refine jW 42 24 66 rfl [(0, pT it), (2, pT rb), (5, v5), (6, v6), (7, v7), (9, iV i), (98, v98), (99, v99), (100, v100), (172, .bool fC)] ?_ ?_
 ·rcases bO fB with hf | hf <;> subst hf
  ·exact ft_6 q fC hfC
  ·by_cases hz : wday.length = 0
   ·exact ft_7 q fC hfC hz
   ·exact ft_8 q fC hfC hz
 obtain ⟨fD, hfD⟩ : ∃ f, f = (fC || uT nwm i) := ⟨_, rfl⟩
 refine jW 66 20 86 rfl [(0, pT it), (2, pT rb), (5, v5), (6, v6), (7, v7), (9, iV i), (98, v98), (99, v99), (100, v100), (192, .bool fD)] ?_ ?_
 ·rcases bO fC with hf | hf <;> subst hf
  ·exact ft_9 q fD hfD
  ·by_cases hz : nwm.length = 0
   ·exact aJe q fD hfD hz
   ·exact aIw q fD hfD hz
 obtain ⟨fE, hfE⟩ : ∃ f, f = (fD || uR easter eas i) := ⟨_, rfl⟩
 refine jW 86 19 105 rfl [(0, pT it), (2, pT rb), (5, v5), (6, v6), (7, v7), (9, iV i), (98, v98), (99, v99), (100, v100), (211, .bool fE)] ?_ ?_
 ·rcases bO fD with hf | hf <;> subst hf
  ·exact aIz q fE hfE
  ·by_cases hz : easter.length = 0
   ·exact aJb q fE hfE hz
   ·exact aI4 q fE hfE hz
 obtain ⟨fF, hfF⟩ : ∃ f, f = (fE || nH mday nmday y i) := ⟨_, rfl⟩
 refine jW 105 48 153 rfl [(0, pT it), (2, pT rb), (5, v5), (6, v6), (7, v7), (9, iV i), (98, v98), (99, v99), (100, v100), (259, .bool fF)] ?_ ?_
 ·rcases bO fE with hf | hf <;> subst hf
  ·exact aIq q fF hfF
  ·by_cases hz : mday.length = 0
   ·by_cases hz2 : nmday.length = 0
    ·exact aIs q fF hfF hz hz2
    ·rcases bO (mday.any (· == ((mdY y).getD i.toNat 0))) with hc | hc
     ·exact aI2 q fF hfF hz hz2 hc
     ·exact aIr q fF hfF hz hz2 hc
   ·rcases bO (mday.any (· == ((mdY y).getD i.toNat 0))) with hc | hc
    ·exact aJj q fF hfF hz hc
    ·exact aJf q fF hfF hz hc
 obtain ⟨fG, hfG⟩ : ∃ f, f = (fF || mZ yday y i) := ⟨_, rfl⟩
 refine jW 153 89 242 rfl [(0, pT it), (2, pT rb), (5, v5), (6, v6), (7, v7), (9, iV i), (98, v98), (99, v99), (100, v100), (348, .bool fG)] ?_ ?_
 ·rcases bO fF with hf | hf <;> subst hf
  ·exact aI8 q fG hfG
  ·by_cases hz : yday.length = 0
   ·exact aJa q fG hfG hz
   ·by_cases hlt : i < 365 + Cal.lp y
    ·rcases bO (yday.any (· == (i + 1))) with hc | hc
     ·exact aIx q fG hfG hz hlt hc
     ·rcases bO (yday.any (· == (-(365 + Cal.lp y) + i))) with hc2 | hc2
      ·exact aJd q fG hfG hz hlt hc hc2
      ·exact aIn q fG hfG hz hlt hc hc2
    ·rcases bO (yday.any (· == (i + 1 - (365 + Cal.lp y)))) with hc | hc
     ·exact aI6 q fG hfG hz hlt hc
     ·exact aIv q fG hfG hz hlt hc
 refine aDr (Nat.le_of_ble_eq_true kR) ?_
 rw [hfG, hfF, hfE, hfD, hfC, hfB, hfA]
 exact hn
end
end Go.Proofs.YtdbbifbmkfmbkaaGreat
namespace Go.Fr
open Go.RowKit
def SrcI (F : Nat → Prop) (w0 : World) (S : LS) (v : Value) (xs : List Int) : Prop := ∀ B H S' w, (∀ k, 11 ≤ k → k < 30 → lkp k S' = lkp k S) → Sees F w0 B H S' w → Ints w v xs
theorem SrcI.at {F : Nat → Prop} {w0 : World} {B : LN} {H : LV} {S S' : LS} {v : Value} {xs : List Int} (h : SrcI F w0 S v xs) (ha : ∀ k, 11 ≤ k → k < 30 → lkp k S' = lkp k S) : ∀ w, Sees F w0 B H S' w → Ints w v xs := fun w s => h _ _ _ w ha s
theorem SrcI.to {F : Nat → Prop} {w0 : World} {S S' : LS} {v : Value} {xs : List Int} (h : SrcI F w0 S v xs) (ha : ∀ k, 11 ≤ k → k < 30 → lkp k S' = lkp k S) : SrcI F w0 S' v xs := fun B H S2 w h2 s => h B H S2 w (fun k h3 h4 => (h2 k h3 h4).trans (ha k h3 h4)) s
theorem SrcI.old {F : Nat → Prop} {w0 : World} {S : LS} {v : Value} {xs : List Int} (h : Ints w0 v xs) (hF : ∀ b o n c, v = .slice (some ⟨b, o, none⟩) n c → ¬ F b) : SrcI F w0 S v xs := fun B H S' w _ s => by
 obtain ⟨p, c, rfl, hc⟩ := h
 refine ⟨p, c, rfl, fun i x hx => ?_⟩
 obtain ⟨b, o, rfl, h1⟩ := hc i x hx
 exact ⟨b, o, rfl, s.aJ8 h1 (hF b o _ _ rfl)⟩
theorem SrcI.row {F : Nat → Prop} {w0 : World} {S : LS} {p : Option Addr} {n c k : Nat} {e : TypeId} {xs : List Int} (hk : 11 ≤ k ∧ k < 30) (h : lkp k S = some ⟨.slice p n c, e, 1, n, xs.map iV⟩) : SrcI F w0 S (.slice p n c) xs := fun B H S' w ha s => s.ints k ((ha k hk.1 hk.2).trans h)
theorem SrcI.nil {F : Nat → Prop} {w0 : World} {S : LS} {p : Option Addr} {c : Nat} : SrcI F w0 S (.slice p 0 c) [] := fun _ _ _ _ _ _ => Ints.nil
section
variable {F : Nat → Prop} {w0 w : World} {B : LN} {H : LV} {S : LS}
theorem Sees.rowTo (s : Sees F w0 B H S w) {k : Nat} {q : Slc} (hk : lkp k S = some q) : Sees F w0 B H ((k, q) :: S) w :=
 s.to (fun _ _ h => h) (fun k o v ho h => ⟨h, by obtain ⟨b, e, _⟩ := s.cells k o v ho h; rw [e]; rfl⟩) (fun j q' h => by
  rcases bB h with ⟨rfl, rfl⟩ | ⟨_, h⟩
  ·exact hk
  ·exact h)
end
def dF (a : Int) (n : Nat) (f : Nat → Bool) : List Value := ((List.range n).map fun (j : Nat) => [iV (a + j), Value.bool (f j)]).flatten
theorem qG {α : Type} (g h : Nat → α) : ∀ n : Nat, (((List.range n).map fun j => [g j, h j]).flatten).length = 2 * n
 | 0 => rfl
 | n + 1 => by rw [List.range_succ, List.map_append, List.flatten_append, List.length_append, qG g h n]; simp; omega
theorem vF {α : Type} (g h : Nat → α) : ∀ (n k : Nat), k < n → (((List.range n).map fun j => [g j, h j]).flatten)[2 * k]? = some (g k) ∧ (((List.range n).map fun j => [g j, h j]).flatten)[2 * k + 1]? = some (h k)
 | 0, k, hk => by omega
 | n + 1, k, hk => by
  rw [List.range_succ, List.map_append, List.flatten_append]
  have hl := qG g h n
  rcases Nat.lt_or_ge k n with h' | h'
  ·rw [List.getElem?_append_left oM, List.getElem?_append_left oM]
   exact vF g h n k h'
  ·obtain rfl : k = n := by omega
   rw [List.getElem?_append_right oM, List.getElem?_append_right oM, hl]
   simp
theorem wI (a : Int) (n : Nat) (f : Nat → Bool) : (dF a n f).length = 2 * n := qG _ _ n
theorem pU (a : Int) (n : Nat) (f : Nat → Bool) {k : Nat} (hk : k < n) : (dF a n f)[2 * k]? = some (iV (a + k)) ∧ (dF a n f)[2 * k + 1]? = some (.bool (f k)) := vF _ _ n k hk
theorem aGf (a : Int) (n : Nat) (f f' : Nat → Bool) (v : Bool) {k : Nat} (hk : k < n) (hv : f' k = v) (h : ∀ j, j ≠ k → f' j = f j) : (dF a n f).set (2 * k + 1) (.bool v) = dF a n f' := by
 apply List.ext_getElem?
 intro i
 have hl := wI a n f
 have hl' := wI a n f'
 by_cases hi : i < 2 * n
 ·obtain ⟨j, hj⟩ : ∃ j, i = 2 * j ∨ i = 2 * j + 1 := ⟨i / 2, by omega⟩
  have hjn : j < n := by omega
  obtain ⟨g1, g2⟩ := pU a n f hjn
  obtain ⟨g1', g2'⟩ := pU a n f' hjn
  rcases hj with rfl | rfl
  ·rw [List.getElem?_set_ne oM, g1, g1']
  ·by_cases hjk : j = k
   ·subst hjk; rw [List.getElem?_set_self oM, g2', hv]
   ·rw [List.getElem?_set_ne oM, g2, g2', h j hjk]
 ·rw [List.getElem?_eq_none (by simp; omega), List.getElem?_eq_none oM]
theorem qL (a : Int) (n : Nat) {f f' : Nat → Bool} (h : ∀ j, j < n → f j = f' j) : dF a n f = dF a n f' := by
 unfold dF
 congr 1
 apply List.map_congr_left
 intro j hj
 rw [h j (by simpa using hj)]
section
variable {F : Nat → Prop} {w0 w : World} {B : LN} {H : LV} {S : LS}
theorem j9 {α : Type} {k : Nat} {l r : List (Nat × α)} (h : ∀ v, (k, v) ∉ l) : lkp k (l ++ r) = lkp k r := by
 induction l with
 | nil => rfl
 | cons p l ih =>
  obtain ⟨j, u⟩ := p
  have hne : k ≠ j := fun e => h u (by simp [e])
  show lkp k ((j, u) :: (l ++ r)) = _
  rw [aA hne]
  exact ih (fun v hv => h v (List.mem_cons_of_mem _ hv))
theorem kB {t k : Nat} {v : Value} : ∀ (cs : List Value) (o : Nat), (k, v) ∈ aC t o cs → ∃ j, k = ky t (o + j) ∧ j < cs.length
 | [], _, h => by simp [aC] at h
 | c :: cs, o, h => by
  simp only [aC, List.mem_cons] at h
  rcases h with h | h
  ·injection h with h1 h2; exact ⟨0, h1, by simp⟩
  ·obtain ⟨j, e, hj⟩ := kB cs (o + 1) h
   exact ⟨j + 1, by rw [e]; congr 1; omega, by simp; omega⟩
theorem Sees.aJ7 {t b : Nat} {cs : List Value} (s : Sees F w0 ((t, b) :: B) (aC t 0 cs ++ H) S w) (hB : lkp t B = none) (hH : ∀ o, o < 4096 → lkp (ky t o) H = none) (hl : cs.length ≤ 4096) : Sees F w0 B H [] w :=
 s.to (fun k b' h => by
  rw [aA (fun e => by rw [e, hB] at h; cases h)]; exact h) (fun k o v ho h => by
  have hkt : k ≠ t := fun e => by rw [e, hH o ho] at h; cases h
  have h2 : lkp (ky k o) (aC t 0 cs ++ H) = some v := by
   rw [j9 (fun u hu => by
    obtain ⟨j, e, hj⟩ := kB cs 0 hu
    exact hkt (gK ho oM e).1)]
   exact h
  refine ⟨h2, ?_⟩
  obtain ⟨b', e, _⟩ := s.cells k o v ho h2
  rw [aA hkt] at e
  rw [e]; rfl) (fun k q h => by simp [lkp] at h)
end
def bN (ts : List Int) : List Value := (ts.map fun t => [iV t, iV 0]).flatten
theorem aAh (ts : List Int) : (bN ts).length = 2 * ts.length := by
 unfold bN
 induction ts with
 | nil => rfl
 | cons t ts ih => simp only [List.map_cons, List.flatten_cons, List.length_append, ih]; simp; omega
theorem eM (ts : List Int) (t : Int) : bN ts ++ [iV t, iV 0] = bN (ts ++ [t]) := by
 unfold bN; rw [List.map_append, List.flatten_append]; rfl
theorem lB {ts : List Int} {k : Nat} {t : Int} (h : ts[k]? = some t) : (bN ts)[2 * k]? = some (iV t) ∧ (bN ts)[2 * k + 1]? = some (iV 0) := by
 induction ts generalizing k with
 | nil => simp at h
 | cons u ts ih =>
  cases k with
  | zero => cases h; exact ⟨rfl, rfl⟩
  | succ k =>
   obtain ⟨h1, h2⟩ := ih (k := k) (by simpa using h)
   refine ⟨?_, ?_⟩
   ·show (bN ts)[2 * k]? = _; exact h1
   ·show (bN ts)[2 * k + 1]? = _; exact h2
end Go.Fr
namespace Go.Proofs.YtdbbifbmkfmbkaaGreat
open Go.RowKit Go.Fr Go.Tab
section
variable {F : Nat → Prop} {w0 : World} {B : LN} {H : LV} {S : LS}
def gJ (a : Int) (n : Nat) : List Value := ((List.range n).map fun (i : Nat) => [iV (a + i), Value.bool true]).flatten
theorem aHh {x : Int} : ∀ u ∈ [iV x, .bool true], u.oneCell' = true := by
 intro u hu
 simp only [List.mem_cons, List.not_mem_nil, or_false] at hu
 rcases hu with rfl | rfl <;> rfl
theorem uQ (a : Int) (n : Nat) : gJ a (n + 1) = gJ a n ++ [iV (a + n), .bool true] := by
 simp [gJ, List.range_succ]
theorem aCp (hlim : Lim 50 B H S) {it : Nat} (hB : lkp 0 B = some it) {xs0 : List Value} {p0 : Option Addr} {n0 c0 : Nat} (hS : lkp 1 S = some ⟨.slice p0 n0 c0, 156, 2, n0, xs0⟩) (h29 : lkp (ky 0 29) H = some (.slice p0 n0 c0)) {a e : Int} (ha : a ≤ e) (hb : -1000000 ≤ a ∧ e ≤ 1000000) :
  ∀ w, Sees F w0 B H S w → Calls Tryz.prog 115 #[pT it, iV a, iV e] w fun r w' => ∃ p c, r = .returned (.tuple #[]) ∧
   Sees F w0 B ((ky 0 29, .slice p (e - a).toNat c) :: H) ((1, ⟨.slice p (e - a).toNat c, 156, 2, (e - a).toNat, gJ a (e - a).toNat⟩) :: S) w' := by
 intro w s
 refine aI (args := [pT it, iV a, iV e]) (L := [(0, pT it), (1, iV a), (2, iV e)]) (N := 48) Tryz.func115 rfl rfl ble rfl s ?_
 refine g8 ?_
 refine cV (ι := (Option Addr) × (Nat)) (fun | ⟨p, c⟩ => True) (fun | ⟨p, c⟩ => [(0, pT it), (1, iV a), (2, iV e), (6, iV (e - a))]) (fun | ⟨p, c⟩ => B) (fun | ⟨p, c⟩ => (ky 0 29, .slice p 0 c) :: H) (fun | ⟨p, c⟩ => (1, ⟨.slice p 0 c, 156, 2, 0, []⟩) :: S) ?_ ?_
 ·refine g4 ?_
  refine rl (rfa 29) ?_
  refine rZ5 (rld 0 rfl hB h29) ?_
  refine aB rfl (fun hc => ?_) (fun hc => ?_)
  ·refine g3 ?_
   refine gL (uA 1 (e := 156) (sz := 2) (by_ := 16) (zs := [iV 0, .bool false]) (c := (e - a).toNat) dE kR rfl (by first | rfl | exact congrArg (fun x : Int => some (iV x)) (show e - a = (((e - a).toNat : Nat) : Int) by omega)) oM oM (fun bm => ?_))
   refine g1 ?_
   refine rl (rfa 29) ?_
   refine gL (sto 0 rfl rfl hB h29 ?_)
   refine g1 ?_
   refine aO ⟨some ⟨bm, 0, none⟩, (e - a).toNat⟩ trivial kns (fun w s => by exact s.low 50 ((hlim.aJ2 dE).aJ1 dE dE) agx agx agx)
  ·refine g4 ?_
   refine rl (rfa 29) ?_
   refine rl (rld 0 rfl hB h29) ?_
   refine rZ1 (dX (e := 156) (n := 2) kR rfl rfl oM oM) ?_
   refine rl (rfa 29) ?_
   refine gL (sto 0 rfl rfl hB h29 ?_)
   refine g1 ?_
   refine aO ⟨p0, c0⟩ trivial kns (fun w s => by exact (s.cut 1 hS rfl 0 (Nat.zero_le _)).low 50 ((hlim.aJ2 dE).aJ1 dE dE) agx agx (by exact Agr.pick (by rfl) (Agr.skip dE (Agr.refl _))))
 rintro ⟨p, c⟩ -
 show GC _ _ _ _ [(0, pT it), (1, iV a), (2, iV e), (6, iV (e - a))] _ _ (B) ((ky 0 29, .slice p 0 c) :: H) ((1, ⟨.slice p 0 c, 156, 2, 0, []⟩) :: S)
 refine g7 ?_
 refine bJ (ι := (Nat) × (Int) × (Option Addr) × (Nat) × (List Value)) (fun | ⟨k, i, p, c, xs⟩ => (e - i).toNat) (fun | ⟨k, i, p, c, xs⟩ => (i = a + k) ∧ (i ≤ e) ∧ (xs = gJ a k)) (fun | ⟨k, i, p, c, xs⟩ => [(0, pT it), (1, iV a), (2, iV e), (7, iV i)]) (fun | ⟨k, i, p, c, xs⟩ => B) (fun | ⟨k, i, p, c, xs⟩ => (ky 0 29, .slice p k c) :: H) (fun | ⟨k, i, p, c, xs⟩ => (1, ⟨.slice p k c, 156, 2, k, xs⟩) :: S) ⟨0, a, p, c, []⟩ ⟨by omega, ha, rfl⟩ kns (fun w s => by exact s) ?_
 rintro ⟨k, i, p, c, xs⟩ ⟨hi, hk, hx⟩
 show GC _ _ _ _ [(0, pT it), (1, iV a), (2, iV e), (7, iV i)] _ _ (B) ((ky 0 29, .slice p k c) :: H) ((1, ⟨.slice p k c, 156, 2, k, xs⟩) :: S)
 refine g8 ?_
 refine aB rfl (fun hc1 => ?_) (fun hc2 => ?_)
 ·have hlt : i < e := oT hc1
  refine g8 ?_
  refine rl (rfa 29) ?_
  refine rZ1 (rld 0 rfl hB rfl) ?_
  refine rl (gP (vs := [(0, iV i), (1, .bool true)]) (v := .agg #[iV i, .bool true]) rfl kW) ?_
  refine gL (lU 51 (e := 156) (sz := 2) (by_ := 16) (zs := [iV 0, .bool false]) dE kR rfl dE dE rfl rfl rfl (hlim.s 51 dE) (fun bo => ?_))
  refine gL (cU 1 51 (e := 156) (sz := 2) (by_ := 16) (zs := [iV 0, .bool false]) dE kR rfl dE rfl rfl rfl rfl ⟨rfl, rfl⟩ ⟨rfl, rfl⟩ aHh sO sO (fun p' c' => ?_))
  refine g1 ?_
  refine rl (rfa 29) ?_
  refine gL (sto 0 rfl rfl hB rfl ?_)
  refine g8 ?_
  refine aQ ⟨k + 1, i + 1, p', c', xs ++ [iV i, .bool true]⟩ sO ⟨by omega, by omega, by rw [uQ, ← hi, ← hx]⟩ kns (fun w s => by exact s.low 50 ((hlim.aJ2 dE).aJ1 dE dE) agx agx agx)
 ·refine g4 ?_
  obtain rfl : i = e := by have := oF hc2; omega
  refine d7 (.inr rfl) rfl fun w s => ⟨p, c, rfl, ?_⟩
  obtain rfl : k = (i - a).toNat := by omega
  subst hx; exact s
open Go.Md
theorem aEo (a : Int) (n : Nat) : dF a n (fun _ => true) = gJ a n := rfl
def lS (r : Ru) (it0 : It) (a : Int) (k j : Nat) : Bool := if j < k then !bad r it0 (a + j) else true
theorem xX (f : Nat → Bool) (k : Nat) : (List.range (k + 1)).any f = ((List.range k).any f || f k) := by rw [List.range_succ, List.any_append]; simp
theorem aDb {r : Ru} {it0 : It} {a : Int} {n k : Nat} (hk : k < n) (hb : bad r it0 (a + k) = true) : (dF a n (lS r it0 a k)).set (2 * k + 1) (.bool false) = dF a n (lS r it0 a (k + 1)) := by
 refine aGf a n _ _ false hk (by unfold lS; rw [if_pos (Nat.lt_succ_self k), hb]; rfl) (fun j hj => ?_)
 unfold lS
 rcases Nat.lt_trichotomy j k with h | h | h
 ·rw [if_pos h, if_pos oM]
 ·exact absurd h hj
 ·rw [if_neg oM, if_neg oM]
theorem aFy {r : Ru} {it0 : It} {a : Int} {n k : Nat} (hb : bad r it0 (a + k) = false) : dF a n (lS r it0 a k) = dF a n (lS r it0 a (k + 1)) := by
 refine qL a n fun j hj => ?_
 unfold lS
 rcases Nat.lt_trichotomy j k with h | h | h
 ·rw [if_pos h, if_pos oM]
 ·subst h; rw [if_neg (Nat.lt_irrefl _), if_pos (Nat.lt_succ_self _), hb]; rfl
 ·rw [if_neg oM, if_neg oM]
theorem x9 {Q : Exit → Act → World → Prop} {r : Ru} {it0 : It} {it rb : Nat} (hB : lkp 0 B = some it) (hR : lkp 1 B = some rb) {p47 : Option Addr} {c47 : Nat} (r47 : lkp (ky 1 47) H = some (.slice p47 r.month.length c47)) (hl47 : r.month.length ≤ 1000000000) (hI47 : SrcI F w0 S (.slice p47 r.month.length c47) r.month) {p48 : Option Addr} {c48 : Nat} (r48 : lkp (ky 1 48) H = some (.slice p48 r.mday.length c48)) (hl48 : r.mday.length ≤ 1000000000) (hI48 : SrcI F w0 S (.slice p48 r.mday.length c48) r.mday) {p49 : Option Addr} {c49 : Nat} (r49 : lkp (ky 1 49) H = some (.slice p49 r.nmday.length c49)) (hl49 : r.nmday.length ≤ 1000000000) (hI49 : SrcI F w0 S (.slice p49 r.nmday.length c49) r.nmday) {p50 : Option Addr} {c50 : Nat} (r50 : lkp (ky 1 50) H = some (.slice p50 r.yday.length c50)) (hl50 : r.yday.length ≤ 1000000000) (hI50 : SrcI F w0 S (.slice p50 r.yday.length c50) r.yday) {p52 : Option Addr} {c52 : Nat} (r52 : lkp (ky 1 52) H = some (.slice p52 r.wday.length c52)) (hl52 : r.wday.length ≤ 1000000000) (hI52 : SrcI F w0 S (.slice p52 r.wday.length c52) r.wday) {p51 p57 : Option Addr} {c51 c57 : Nat} (r51 : lkp (ky 1 51) H = some (.slice p51 r.weekno.length c51)) (r57 : lkp (ky 1 57) H = some (.slice p57 r.easter.length c57)) {p20 : Option Addr} {c20 : Nat} (h20 : lkp (ky 0 20) H = some (.slice p20 it0.wno.length c20)) (hp20 : 0 < it0.wno.length → ∃ b, p20 = some ⟨b, 0, none⟩) (hS8 : 0 < it0.wno.length → lkp 8 S = some ⟨.slice p20 it0.wno.length c20, 3, 1, it0.wno.length, it0.wno.map iV⟩) {p21 : Option Addr} {c21 : Nat} (h21 : lkp (ky 0 21) H = some (.slice p21 it0.nwm.length c21)) (hp21 : 0 < it0.nwm.length → ∃ b, p21 = some ⟨b, 0, none⟩) (hS9 : 0 < it0.nwm.length → lkp 9 S = some ⟨.slice p21 it0.nwm.length c21, 3, 1, it0.nwm.length, it0.nwm.map iV⟩) {p22 : Option Addr} {c22 : Nat} (h22 : lkp (ky 0 22) H = some (.slice p22 it0.eas.length c22)) (hp22 : 0 < it0.eas.length → ∃ b, p22 = some ⟨b, 0, none⟩) (hS10 : 0 < it0.eas.length → lkp 10 S = some ⟨.slice p22 it0.eas.length c22, 3, 1, it0.eas.length, it0.eas.map iV⟩)
  (h10 : lkp (ky 0 10) H = some (iV (365 + Cal.lp it0.ly))) (h11 : lkp (ky 0 11) H = some (iV (365 + Cal.lp (it0.ly + 1)))) {b3 b4 b5 b6 c3 c4 c5 c6 : Nat} (h15 : lkp (ky 0 15) H = some (sL b3 (nY it0.ly) c3)) (h17 : lkp (ky 0 17) H = some (sL b4 (nY it0.ly) c4))
  (h18 : lkp (ky 0 18) H = some (sL b5 (nY it0.ly) c5)) (h19 : lkp (ky 0 19) H = some (.slice (some ⟨b6, 0 + (ywd it0.ly).toNat * 1, none⟩) (385 - (ywd it0.ly).toNat) (c6 - (ywd it0.ly).toNat)))
  (hS3 : lkp 3 S = some ⟨sL b3 (nY it0.ly) c3, 3, 1, nY it0.ly, (mmY it0.ly).map iV⟩) (hS4 : lkp 4 S = some ⟨sL b4 (nY it0.ly) c4, 3, 1, nY it0.ly, (mdY it0.ly).map iV⟩) (hS5 : lkp 5 S = some ⟨sL b5 (nY it0.ly) c5, 3, 1, nY it0.ly, (mE it0.ly).map iV⟩)
  (hS6 : lkp 6 S = some ⟨sL b6 385 c6, 3, 1, 385, (wd 55).map iV⟩) (hlim : Lim 50 B H S) {db n dc : Nat} {a : Int} (hS1 : lkp 1 S = some ⟨sL db n dc, 156, 2, n, gJ a n⟩) (ha : 0 ≤ a) (han : a + n ≤ nY it0.ly) (hwn : r.weekno.length ≠ 0 → a + n ≤ it0.wno.length) (hnw : it0.nwm.length ≠ 0 → a + n ≤ it0.nwm.length) (hea : r.easter.length ≠ 0 → a + n ≤ it0.eas.length)
  (hn : GE Q .normal 1418 [(0, pT it), (2, pT rb), (5, sL db n dc), (6, .bool ((List.range n).any fun (j : Nat) => bad r it0 (a + j)))] F w0 B H ((1, ⟨sL db n dc, 156, 2, n, dF a n (fun j => !bad r it0 (a + j))⟩) :: S)) : GC Tryz.prog (Go.Fr.part [1, 1, 0, 0, 1, 0, 1, 1, 1, 1, 0, 1] (Go.Fr.bodyOf Tryz.f96)) Q 1418 [(0, pT it), (2, pT rb), (5, sL db n dc), (6, .bool false), (98, sL db n dc), (99, iV n), (100, iV 0)] F w0 B H S := by
 have hny := f8 it0.ly
 have hlp := Cal.lp_01 it0.ly
 show GC _ (Code.block 2 (Go.Fr.part [1, 1, 0, 0, 1, 0, 1, 1, 1, 1, 0, 1, 0] (Go.Fr.bodyOf Tryz.f96))) _ _ _ _ _ _ _ _
 refine g1 ?_
 refine bJ (ι := (Nat) × (List Value) × (Bool)) (fun | ⟨k, xs, f⟩ => n - k) (fun | ⟨k, xs, f⟩ => (k ≤ n) ∧ (xs = dF a n (lS r it0 a k)) ∧ (f = (List.range k).any fun (j : Nat) => bad r it0 (a + j))) (fun | ⟨k, xs, f⟩ => [(0, pT it), (2, pT rb), (5, sL db n dc), (6, .bool f), (98, sL db n dc), (99, iV n), (100, iV k)]) (fun | ⟨k, xs, f⟩ => B) (fun | ⟨k, xs, f⟩ => H) (fun | ⟨k, xs, f⟩ => (1, ⟨sL db n dc, 156, 2, n, xs⟩) :: S) ⟨0, gJ a n, false⟩ ⟨Nat.zero_le _, by rw [← aEo]; exact qL a n (fun j hj => by unfold lS; rw [if_neg (Nat.not_lt_zero j)]), rfl⟩ kns (fun w s => by exact s.rowTo hS1) ?_
 rintro ⟨k, xs, f⟩ ⟨hk, hx, hf⟩
 show GC _ _ _ _ [(0, pT it), (2, pT rb), (5, sL db n dc), (6, .bool f), (98, sL db n dc), (99, iV n), (100, iV k)] _ _ (B) (H) ((1, ⟨sL db n dc, 156, 2, n, xs⟩) :: S)
 refine g6 ?_
 refine aB rfl (fun hc1 => ?_) (fun hc2 => ?_)
 ·have hlt : k < n := by have := oT hc1; omega
  obtain ⟨hx1, hx2⟩ := pU a n (lS r it0 a k) hlt
  rw [← hx] at hx1 hx2
  have hxl : xs.length = 2 * n := by rw [hx]; exact wI _ _ _
  have hfk : lS r it0 a k k = true := by unfold lS; rw [if_neg (Nat.lt_irrefl k)]
  rw [hfk] at hx2
  refine g7 ?_
  refine rl (aF (e := 156) (n := 2) kR rfl rfl oM oM) ?_
  refine rl (eC 1 rfl rfl rfl (by rw [← hx1]; congr 1; omega) (by rw [← hx2]; congr 1; omega) kR) ?_
  refine gL (alo 50 (cs := [iV 0, .bool false]) kR (hlim.b 50 dE) (fun b1_ hbb1_ => ?_))
  refine g1 ?_
  refine gL (sta 50 rfl rfl rfl rfl ?_)
  refine g4 ?_
  refine rl (rfa 0) ?_
  refine rZ4 (rld 50 rfl rfl rfl) ?_
  refine dO (L' := [(0, pT it), (2, pT rb), (5, sL db n dc), (6, .bool f), (7, iV k), (9, iV (a + k)), (98, sL db n dc), (99, iV n), (100, iV k)]) kns (fun w s => s) ?_
  refine yM (i := a + k) (by exact hB) (by exact hR) (by exact r47) (by exact hl47) (hI47.at aG) (by exact r48) (by exact hl48) (hI48.at aG) (by exact r49) (by exact hl49) (hI49.at aG) (by exact r50) (by exact hl50) (hI50.at aG) (by exact r52) (by exact hl52) (hI52.at aG) (by exact r51) (by exact r57) (by exact h20) (by exact hp20) (by exact hS8) (by exact h21) (by exact hp21) (by exact hS9) (by exact h22) (by exact hp22) (by exact hS10) (by exact h10) (by exact h11) (by exact h15) (by exact h17) (by exact h18) (by exact h19) (by exact hS3) (by exact hS4) (by exact hS5) (by exact hS6) oM (fun h => by have := hwn h; omega) (fun h => by have := hnw h; omega) (fun h => by have := hea h; omega) ?_
  refine g1 ?_
  refine aB rfl (fun hb => ?_) (fun hb => ?_)
  ·have hbad : bad r it0 (a + k) = true := hb
   refine g4 ?_
   refine rl (aF (e := 156) (n := 2) kR rfl rfl oM oM) ?_
   refine rl (rfa 1) ?_
   refine gL (w8 1 rfl rfl rfl rfl (by rw [hxl]; omega) kR rfl ?_)
   refine g11 ?_
   refine aQ ⟨k + 1, xs.set (0 + (k : Int).toNat * 2 + 1) (.bool false), true⟩ sO ⟨by omega, by rw [hx, show 0 + (k : Int).toNat * 2 + 1 = 2 * k + 1 by omega]; exact aDb hlt hbad, by rw [xX, ← hf, hbad]; simp⟩ kns (fun w s => by exact s.low 50 ((hlim.aJ2 dE)) agx agx agx)
  ·have hbad : bad r it0 (a + k) = false := hb
   refine g7 ?_
   refine aQ ⟨k + 1, xs, f⟩ sO ⟨by omega, by rw [hx]; exact aFy hbad, by rw [xX, ← hf, hbad]; simp⟩ kns (fun w s => by exact s.low 50 ((hlim.aJ2 dE)) agx agx agx)
 ·have hge : ¬ k < n := by have := oF hc2; omega
  obtain rfl : k = n := by omega
  refine g4 ?_
  refine jP (fun a q => q.cons rfl (q.cons rfl (q.cons rfl (q.cons (by exact congrArg (fun b => some (Value.bool b)) hf) q.nil)))) (fun w s => ?_) hn
  rw [hx, show dF a k (lS r it0 a k) = dF a k (fun j => !bad r it0 (a + j)) from qL a k (fun j hj => by unfold lS; rw [if_pos hj])] at s
  exact s
end
end Go.Proofs.YtdbbifbmkfmbkaaGreat
namespace Go.Md
open Go.Tab
theorem tL {r : Ru} {o : It} (h : o.fin = true) (t : Int) : f7 r o t = o := by unfold f7; rw [if_pos h]
theorem lD {r : Ru} {o : It} {t : Int} (h : o.fin = false) (hu : r.u0 < t) : f7 r o t = { o with fin := true } := by unfold f7; rw [h, if_neg dE, if_pos hu]
theorem mK {r : Ru} {o : It} {t : Int} (h : o.fin = false) (hu : ¬ r.u0 < t) (hs : t < r.d0) : f7 r o t = o := by unfold f7; rw [h, if_neg dE, if_neg hu, if_pos hs]
theorem mA {r : Ru} {o : It} {t : Int} (h : o.fin = false) (hu : ¬ r.u0 < t) (hs : ¬ t < r.d0) (hc : o.count = 0) : f7 r o t = { o with total := o.total + 1, rem := o.rem ++ [t] } := by unfold f7; rw [h, if_neg dE, if_neg hu, if_neg hs, if_pos hc]
theorem lE {r : Ru} {o : It} {t : Int} (h : o.fin = false) (hu : ¬ r.u0 < t) (hs : ¬ t < r.d0) (hc : o.count ≠ 0) : f7 r o t = { o with total := o.total + 1, rem := o.rem ++ [t], count := o.count - 1, fin := o.count - 1 == 0 } := by unfold f7; rw [h, if_neg dE, if_neg hu, if_neg hs, if_neg hc]
theorem jQ {r : Ru} {o : It} (h : o.fin = true) : ∀ l, dB r o l = o
 | [] => rfl
 | t :: l => by
  show dB r (f7 r o t) l = o
  rw [tL h]; exact jQ h l
theorem mT (r : Ru) (o : It) (l l' : List Int) : dB r o (l ++ l') = dB r (dB r o l) l' := by unfold dB; rw [List.foldl_append]
theorem mU {r : Ru} {o : It} {l : List Int} {j : Nat} {t : Int} (h : l[j]? = some t) : dB r o (l.take (j + 1)) = f7 r (dB r o (l.take j)) t := by
 rw [List.take_add_one, h, mT]; rfl
theorem jK {r : Ru} {o : It} {l : List Int} {j : Nat} (h : (dB r o (l.take j)).fin = true) : dB r o l = dB r o (l.take j) := by
 conv => lhs; rw [← List.take_append_drop j l]
 rw [mT, jQ h]
theorem aBd {r : Ru} {o : It} (h : o.fin = true) (i : Int) : jM r o i = o := by
 unfold jM
 split
 ·rfl
 ·exact jQ h _
def iP (r : Ru) (it : It) (a : Int) (k : Nat) : It := (List.range k).foldl (fun o (k : Nat) => jM r o (a + k)) it
theorem j6 (r : Ru) (it : It) (a : Int) (k : Nat) : iP r it a (k + 1) = jM r (iP r it a k) (a + k) := by
 unfold iP; rw [List.range_succ, List.foldl_append]; rfl
theorem vI {r : Ru} {it : It} {a : Int} {k : Nat} (h : (iP r it a k).fin = true) : ∀ n, k ≤ n → iP r it a n = iP r it a k := by
 intro n hn
 induction n with
 | zero =>
  obtain rfl : k = 0 := by omega
  rfl
 | succ n ih =>
  rcases Nat.lt_or_ge k (n + 1) with h' | h'
  ·rw [j6, ih oM, aBd h]
  ·obtain rfl : k = n + 1 := by omega
   rfl
theorem nX (r : Ru) (it : It) (h : r.setpos.length = 0 ∨ it.ts.length = 0) : out r it = xQ r it := by
 unfold out; rw [if_neg oM]
theorem oR (r : Ru) (it : It) : xQ r it = iP r it (aW r it).1 ((aW r it).2 - (aW r it).1).toNat := rfl
structure Same (it o : It) : Prop where
 y : o.y = it.y
 mo : o.mo = it.mo
 d : o.d = it.d
 h : o.h = it.h
 mi : o.mi = it.mi
 s : o.s = it.s
 wd : o.wd = it.wd
 ly : o.ly = it.ly
 lm : o.lm = it.lm
 ts : o.ts = it.ts
 wno : o.wno = it.wno
 nwm : o.nwm = it.nwm
 eas : o.eas = it.eas
theorem Same.refl (it : It) : Same it it := ⟨rfl, rfl, rfl, rfl, rfl, rfl, rfl, rfl, rfl, rfl, rfl, rfl, rfl⟩
theorem Same.trans {a b c : It} (h : Same a b) (k : Same b c) : Same a c := ⟨k.y.trans h.y, k.mo.trans h.mo, k.d.trans h.d, k.h.trans h.h, k.mi.trans h.mi, k.s.trans h.s, k.wd.trans h.wd, k.ly.trans h.ly, k.lm.trans h.lm, k.ts.trans h.ts, k.wno.trans h.wno, k.nwm.trans h.nwm, k.eas.trans h.eas⟩
theorem aDj (r : Ru) (o : It) (t : Int) : Same o (f7 r o t) := by
 unfold f7
 split
 ·exact Same.refl _
 ·split
  ·exact ⟨rfl, rfl, rfl, rfl, rfl, rfl, rfl, rfl, rfl, rfl, rfl, rfl, rfl⟩
  ·split
   ·exact Same.refl _
   ·split <;> exact ⟨rfl, rfl, rfl, rfl, rfl, rfl, rfl, rfl, rfl, rfl, rfl, rfl, rfl⟩
theorem kZ (r : Ru) : ∀ (l : List Int) (o : It), Same o (dB r o l)
 | [], o => Same.refl _
 | t :: l, o => (aDj r o t).trans (kZ r l _)
theorem x8 (r : Ru) (o : It) (i : Int) : Same o (jM r o i) := by
 unfold jM
 split
 ·exact Same.refl _
 ·exact kZ r _ _
theorem iD (r : Ru) (it : It) (a : Int) : ∀ k, Same it (iP r it a k)
 | 0 => Same.refl _
 | k + 1 => by rw [j6]; exact (iD r it a k).trans (x8 r _ _)
theorem Same.bad {r : Ru} {it o : It} (h : Same it o) (i : Int) : bad r o i = bad r it i := by unfold Md.bad; rw [h.ly, h.wno, h.nwm, h.eas]
theorem j7 {r : Ru} {b : Bool} {s o : It} (h1 : o.h = s.h) (h2 : o.mi = s.mi) (h3 : o.s = s.s) : iK r b o = iK r b s := by
 have e : ∀ t, cS r (bS r.freq o t) = cS r (bS r.freq s t) := fun t => by
  unfold cS bS
  split
  ·simp only [h2, h3]
  ·split
   ·simp only [h3]
   ·rfl
 have e2 : dT r b o = dT r b s := by unfold dT cK; rw [h1, h2, h3]
 unfold iK
 rw [e2]
 congr 1
 funext k
 exact e _
end Go.Md
namespace Go.Proofs.YtdbbifbmkfmbkaaGreat
open Go.RowKit Go.Fr Go.Tab
section
variable {F : Nat → Prop} {w0 : World} {B : LN} {H : LV} {S : LS}
theorem aE5 (hlim : Lim 50 B H S) {it g nb cap j : Nat} (hB : lkp 0 B = some it) (hj : j + 1 < nb) (hc : nb ≤ cap) (h26 : lkp (ky 0 26) H = some (.slice (some ⟨g, 2 * j, none⟩) (nb - j) (cap - j)))
  {q : Slc} (hS : lkp 0 S = some q) (hq : q.v = sL g nb cap) {x y : Int} (hx : q.xs[2 * j]? = some (iV x)) (hy : q.xs[2 * j + 1]? = some (iV y)) :
  ∀ w, Sees F w0 B H S w → Calls Tryz.prog 97 #[.pointer (some ⟨it, 26, none⟩)] w fun e w' => e = .returned (.tuple #[.agg #[iV x, iV y], .bool true]) ∧
   Sees F w0 B ((ky 0 26, .slice (some ⟨g, 2 * (j + 1), none⟩) (nb - (j + 1)) (cap - (j + 1))) :: H) S w' := by
 intro w s
 refine aI (args := [.pointer (some ⟨it, 26, none⟩)]) (L := [(0, .pointer (some ⟨it, 26, none⟩))]) (N := 40) Tryz.func97 rfl rfl ble rfl s ?_
 refine g2 ?_
 refine gL (alo 50 (cs := [iV 0, iV 0]) kR (hlim.b 50 dE) (fun b1_ hbb1_ => ?_))
 refine g8 ?_
 refine rl (rfa 0) ?_
 refine rZ4 (rld 0 rfl hB h26) ?_
 refine aP rfl (beq_eq_false_iff_ne.2 oM) ?_
 refine g3 ?_
 refine qR (Sees F w0 B H S) (fun i => i == 15) kR ?_
 refine gr 0 rfl (bD rfl) ?_
 refine gr 1 rfl (bD rfl) ?_
 refine gr 2 rfl (bW rfl) ?_
 refine gr 3 rfl (rfa 0) ?_
 refine gr 4 rfl (rld 0 rfl hB h26) ?_
 refine gr 5 rfl (aF (e := 57) (n := 2) kR rfl rfl oM oM) ?_
 refine gr 6 rfl (eC 0 rfl hS hq hx hy kR) ?_
 refine gr 7 rfl (bD rfl) ?_
 refine gr 8 rfl (bW rfl) ?_
 refine gr 9 rfl (rfa 0) ?_
 refine gr 10 rfl (rld 0 rfl hB h26) ?_
 refine gr 11 rfl (hU (e := 57) (n := 2) kR rfl rfl oM oM oM) ?_
 refine gn 12 rfl (sta 50 rfl rfl rfl rfl (gk ?_))
 refine gn 13 rfl (fU dE (bW rfl) (gk ?_))
 refine gn 14 rfl (fU dE (rfa 0) (gk ?_))
 refine gn 15 rfl (sto 0 rfl rfl hB h26 (gk ?_))
 refine eE kR ?_
 refine g6 ?_
 refine rl (rfa 0) ?_
 refine rZ4 (rld 0 rfl hB rfl) ?_
 refine aP rfl (beq_eq_false_iff_ne.2 oM) ?_
 refine g4 ?_
 refine rl (aV 50 rfl rfl rfl rfl kR dE) ?_
 refine gL (sta 50 rfl rfl rfl rfl ?_)
 refine g4 ?_
 refine dQ (.inl rfl) rfl (hZ 50 rfl rfl rfl rfl kR) (aD rfl) fun w s => ⟨rfl, s.low 50 (hlim.aJ1 dE dE) agx agx agx⟩
theorem aEw (hlim : Lim 50 B H S) {it g nb cap j : Nat} (hB : lkp 0 B = some it) (hj : j + 1 = nb) (hc : nb ≤ cap) (h26 : lkp (ky 0 26) H = some (.slice (some ⟨g, 2 * j, none⟩) (nb - j) (cap - j))) (h27 : lkp (ky 0 27) H = some (sL g nb cap))
  {q : Slc} (hS : lkp 0 S = some q) (hq : q.v = sL g nb cap) {x y : Int} (hx : q.xs[2 * j]? = some (iV x)) (hy : q.xs[2 * j + 1]? = some (iV y)) :
  ∀ w, Sees F w0 B H S w → Calls Tryz.prog 97 #[.pointer (some ⟨it, 26, none⟩)] w fun e w' => ∃ u, e = .returned (.tuple #[.agg #[iV x, iV y], .bool true]) ∧
   Sees F w0 B ((ky 0 26, sL g 0 cap) :: (ky 0 26, u) :: H) S w' := by
 intro w s
 refine aI (args := [.pointer (some ⟨it, 26, none⟩)]) (L := [(0, .pointer (some ⟨it, 26, none⟩))]) (N := 40) Tryz.func97 rfl rfl ble rfl s ?_
 refine g2 ?_
 refine gL (alo 50 (cs := [iV 0, iV 0]) kR (hlim.b 50 dE) (fun b1_ hbb1_ => ?_))
 refine g8 ?_
 refine rl (rfa 0) ?_
 refine rZ4 (rld 0 rfl hB h26) ?_
 refine aP rfl (beq_eq_false_iff_ne.2 oM) ?_
 refine g3 ?_
 refine qR (Sees F w0 B H S) (fun i => i == 15) kR ?_
 refine gr 0 rfl (bD rfl) ?_
 refine gr 1 rfl (bD rfl) ?_
 refine gr 2 rfl (bW rfl) ?_
 refine gr 3 rfl (rfa 0) ?_
 refine gr 4 rfl (rld 0 rfl hB h26) ?_
 refine gr 5 rfl (aF (e := 57) (n := 2) kR rfl rfl oM oM) ?_
 refine gr 6 rfl (eC 0 rfl hS hq hx hy kR) ?_
 refine gr 7 rfl (bD rfl) ?_
 refine gr 8 rfl (bW rfl) ?_
 refine gr 9 rfl (rfa 0) ?_
 refine gr 10 rfl (rld 0 rfl hB h26) ?_
 refine gr 11 rfl (pG (e := 57) (n := 2) kR rfl rfl oM oM) ?_
 refine gn 12 rfl (sta 50 rfl rfl rfl rfl (gk ?_))
 refine gn 13 rfl (fU dE (bW rfl) (gk ?_))
 refine gn 14 rfl (fU dE (rfa 0) (gk ?_))
 refine gn 15 rfl (sto 0 rfl rfl hB h26 (gk ?_))
 refine eE kR ?_
 refine g6 ?_
 refine rl (rfa 0) ?_
 refine rZ4 (rld 0 rfl hB rfl) ?_
 refine aY rfl (beq_iff_eq.2 oM) ?_
 refine g4 ?_
 refine rl (rfa 1) ?_
 refine rl (rld 0 rfl hB h27) ?_
 refine rZ1 (dX (e := 57) (n := 2) kR rfl rfl oM oM) ?_
 refine rl (rfa 0) ?_
 refine gL (sto 0 rfl rfl hB rfl ?_)
 refine g4 ?_
 refine rl (aV 50 rfl rfl rfl rfl kR dE) ?_
 refine gL (sta 50 rfl rfl rfl rfl ?_)
 refine g4 ?_
 refine dQ (.inl rfl) rfl (hZ 50 rfl rfl rfl rfl kR) (aD rfl) fun w s => ⟨_, rfl, s.low 50 ((hlim.aJ1 dE dE).aJ1 dE dE) agx agx agx⟩
theorem aE8 (hlim : Lim 50 B H S) {it c : Nat} {p : Option Addr} (hB : lkp 0 B = some it) (h26 : lkp (ky 0 26) H = some (.slice p 0 c)) :
  ∀ w, Sees F w0 B H S w → Calls Tryz.prog 97 #[.pointer (some ⟨it, 26, none⟩)] w fun e w' => e = .returned (.tuple #[.agg #[iV 0, iV 0], .bool false]) ∧ Sees F w0 B H S w' := by
 intro w s
 refine aI (args := [.pointer (some ⟨it, 26, none⟩)]) (L := [(0, .pointer (some ⟨it, 26, none⟩))]) (N := 40) Tryz.func97 rfl rfl ble rfl s ?_
 refine g2 ?_
 refine gL (alo 50 (cs := [iV 0, iV 0]) kR (hlim.b 50 dE) (fun b1_ hbb1_ => ?_))
 refine g8 ?_
 refine rl (rfa 0) ?_
 refine wZ7 (rld 0 rfl hB h26) ?_
 refine rl (gP (vs := []) (v := .agg #[iV 0, iV 0]) rfl kW) ?_
 refine gL (sta 50 rfl rfl rfl rfl ?_)
 refine g5 ?_
 refine dQ (.inl rfl) rfl (hZ 50 rfl rfl rfl rfl kR) (aD rfl) fun w s => ⟨rfl, s.low 50 (hlim) agx agx agx⟩
theorem aC9 (hlim : Lim 50 B H S) {p : Option Addr} {k c : Nat} {bk : Value} :
  ∀ w, Sees F w0 B H S w → Calls Tryz.prog 113 #[.agg #[.slice p k c, bk]] w fun e w' => e = .returned (iV k) ∧ Sees F w0 B H S w' := by
 intro w s
 refine aI (args := [.agg #[.slice p k c, bk]]) (L := [(0, .agg #[.slice p k c, bk])]) (N := 6) Tryz.func113 rfl rfl ble rfl s ?_
 refine g2 ?_
 refine gL (bxo 50 rfl rfl (hlim.b 50 dE) (fun b1_ hbb1_ => ?_))
 refine g5 ?_
 refine rl (rfa 0) ?_
 refine rZ5 (rld 50 rfl rfl rfl) ?_
 refine aT (.inl rfl) rfl (aD rfl) fun w s => ⟨rfl, s.low 50 (hlim) agx agx agx⟩
theorem pH (hlim : Lim 50 B H S) {it : Nat} (hB : lkp 0 B = some it) {q : Slc} (hS : lkp 0 S = some q) (h26 : lkp (ky 0 26) H = some q.v) {v27 : Value} (h27 : lkp (ky 0 27) H = some v27) (hqe : q.e = 57 ∧ q.sz = 2) (hn : q.n ≤ 1000000000) {x y : Int} :
  ∀ w, Sees F w0 B H S w → Calls Tryz.prog 122 #[.pointer (some ⟨it, 26, none⟩), .agg #[iV x, iV y]] w fun e w' => ∃ p' c', e = .returned (.tuple #[]) ∧
   Sees F w0 B ((ky 0 27, .slice p' (q.n + 1) c') :: (ky 0 26, .slice p' (q.n + 1) c') :: H) ((0, ⟨.slice p' (q.n + 1) c', 57, 2, q.n + 1, q.xs ++ [iV x, iV y]⟩) :: S) w' := by
 intro w s
 refine aI (args := [.pointer (some ⟨it, 26, none⟩), .agg #[iV x, iV y]]) (L := [(0, .pointer (some ⟨it, 26, none⟩)), (1, .agg #[iV x, iV y])]) (N := 21) Tryz.func122 rfl rfl ble rfl s ?_
 refine g2 ?_
 refine gL (bxo 50 rfl rfl (hlim.b 50 dE) (fun b1_ hbb1_ => ?_))
 refine g3 ?_
 refine qR (Sees F w0 ((50, b1_) :: B) (aC 50 0 [iV x, iV y] ++ H) []) (fun i => i == 10) kR ?_
 refine tX (i := 0) rfl rfl blx kR rfl dE (bD rfl) (fun w s => by exact s.to (fun _ _ h => h) (fun k o v ho h => ⟨h, (by obtain ⟨b, e, _⟩ := s.cells k o v ho h; rw [e]; rfl)⟩) (fun _ _ h => by simp [lkp] at h)) ?_
 refine tX (i := 1) rfl rfl blx kR rfl dE (bD rfl) (fun w s => by exact s.to (fun _ _ h => h) (fun k o v ho h => ⟨h, (by obtain ⟨b, e, _⟩ := s.cells k o v ho h; rw [e]; rfl)⟩) (fun _ _ h => by simp [lkp] at h)) ?_
 refine tX (i := 2) rfl rfl blx kR rfl dE (bW rfl) (fun w s => by exact s.to (fun _ _ h => h) (fun k o v ho h => ⟨h, (by obtain ⟨b, e, _⟩ := s.cells k o v ho h; rw [e]; rfl)⟩) (fun _ _ h => by simp [lkp] at h)) ?_
 refine tX (i := 3) rfl rfl blx kR rfl dE (rfa 0) (fun w s => by exact s.to (fun _ _ h => h) (fun k o v ho h => ⟨h, (by obtain ⟨b, e, _⟩ := s.cells k o v ho h; rw [e]; rfl)⟩) (fun _ _ h => by simp [lkp] at h)) ?_
 refine tX (i := 4) rfl rfl blx kR rfl dE (rld 0 rfl hB h26) (fun w s => by exact s.to (fun _ _ h => h) (fun k o v ho h => ⟨h, (by obtain ⟨b, e, _⟩ := s.cells k o v ho h; rw [e]; rfl)⟩) (fun _ _ h => by simp [lkp] at h)) ?_
 refine tX (i := 5) rfl rfl blx kR rfl dE (aV 50 rfl rfl rfl rfl kR dE) (fun w s => by exact s.to (fun _ _ h => h) (fun k o v ho h => ⟨h, (by obtain ⟨b, e, _⟩ := s.cells k o v ho h; rw [e]; rfl)⟩) (fun _ _ h => by simp [lkp] at h)) ?_
 refine gn 6 rfl (lU 50 (e := 57) (sz := 2) (by_ := 16) (zs := [iV 0, iV 0]) dE kR rfl dE dE rfl rfl rfl (hlim.s 50 dE) (fun b2_ => eL (fun _ w s => by exact s.to (fun _ _ h => h) (fun k o v ho h => ⟨h, (by obtain ⟨b, e, _⟩ := s.cells k o v ho h; rw [e]; rfl)⟩) (fun _ _ h => by simp [lkp] at h)) ?_))
 refine gn 7 rfl (cU 0 50 (e := 57) (sz := 2) (by_ := 16) (zs := [iV 0, iV 0]) dE kR rfl dE rfl rfl hS rfl hqe ⟨rfl, rfl⟩ xA sO sO (fun p' c' => eL (fun _ w s => by exact s.to (fun _ _ h => h) (fun k o v ho h => ⟨h, (by obtain ⟨b, e, _⟩ := s.cells k o v ho h; rw [e]; rfl)⟩) (fun _ _ h => by simp [lkp] at h)) ?_))
 refine gn 8 rfl (fU dE (bW rfl) (eL (fun _ w s => by exact s.to (fun _ _ h => h) (fun k o v ho h => ⟨h, (by obtain ⟨b, e, _⟩ := s.cells k o v ho h; rw [e]; rfl)⟩) (fun _ _ h => by simp [lkp] at h)) ?_))
 refine gn 9 rfl (fU dE (rfa 0) (eL (fun _ w s => by exact s.to (fun _ _ h => h) (fun k o v ho h => ⟨h, (by obtain ⟨b, e, _⟩ := s.cells k o v ho h; rw [e]; rfl)⟩) (fun _ _ h => by simp [lkp] at h)) ?_))
 refine gn 10 rfl (sto 0 rfl rfl hB h26 (gk ?_))
 refine eE kR ?_
 refine g5 ?_
 refine rl (rfa 0) ?_
 refine rZ1 (rld 0 rfl hB rfl) ?_
 refine rl (rfa 1) ?_
 refine gL (sto 0 rfl rfl hB h27 ?_)
 refine g1 ?_
 refine d7 (.inr rfl) rfl fun w s => ⟨p', c', rfl, s.low 50 (((hlim.aJ2 dE).aJ1 dE dE).aJ1 dE dE) agx agx agx⟩
open Go.Md
theorem pB (d : Int) : Cal.dayNo (Cal.yearOf d) (Cal.monthOf d) (Cal.mdayOf d) = d := by
 have := Cal.dayNo_of d 0
 simpa using this
theorem lL {d t : Int} (ht : 0 ≤ t ∧ t < 86400) : Cal.dayNo (Cal.yearOf d) (Cal.monthOf d) (Cal.mdayOf d) * 86400 + t % 86400 / 3600 * 3600 + t % 86400 / 60 % 60 * 60 + t % 86400 % 60 = d * 86400 + t := by
 rw [pB]; omega
theorem yB {Q : Exit → Act → World → Prop} (hblind : Blind Q) {r : Ru} {it0 : It} (hlim : Lim 40 B H S) {it rb : Nat} (hB : lkp 0 B = some it) (hR : lkp 1 B = some rb) {db n dc : Nat} {a : Int} {fl : Bool}
  (hS1 : lkp 1 S = some ⟨sL db n dc, 156, 2, n, dF a n (fun j => !bad r it0 (a + j))⟩) (ha : 0 ≤ a) (han : a + n ≤ 400) (hly : 1 ≤ it0.ly ∧ it0.ly ≤ 10000)
  (h12 : lkp (ky 0 12) H = some (iV (Cal.daysTo it0.ly * 86400))) (h13 : lkp (ky 0 13) H = some (iV 0)) {tp : Option Addr} {tc : Nat} (h23 : lkp (ky 0 23) H = some (.slice tp it0.ts.length tc)) (hS2 : lkp 2 S = some ⟨.slice tp it0.ts.length tc, 57, 2, it0.ts.length, bN it0.ts⟩)
  (hts : ∀ t ∈ it0.ts, 0 ≤ t ∧ t < 86400) (hbig : n * it0.ts.length ≤ 100000000) (r39 : lkp (ky 1 39) H = some (iV r.d0)) (r40 : lkp (ky 1 40) H = some (iV 0)) (r44 : lkp (ky 1 44) H = some (iV r.u0)) (r45 : lkp (ky 1 45) H = some (iV r.u1)) (hu : ¬ (r.u0 = 0 ∧ r.u1 = 0)) (hu1 : 0 ≤ r.u1)
  {ln : Value} (r59 : lkp (ky 1 59) H = some ln) {v28 : Value} (h28 : lkp (ky 0 28) H = some v28) (h24 : lkp (ky 0 24) H = some (iV it0.total)) (h25 : lkp (ky 0 25) H = some (iV it0.count)) {p0 : Option Addr} {c0 : Nat} (h26 : lkp (ky 0 26) H = some (.slice p0 0 c0)) {bk0 : Value} (h27 : lkp (ky 0 27) H = some bk0)
  (hS0 : lkp 0 S = some ⟨.slice p0 0 c0, 57, 2, 0, []⟩) (hrem : it0.rem = []) (hfin : it0.fin = false) (htot : 0 ≤ it0.total ∧ it0.total ≤ 1000000000000000) (hcnt : 0 ≤ it0.count ∧ it0.count ≤ 9223372036854775807)
  (hn : ∀ (o : It) (p : Option Addr) (c : Nat) (bk : Value), o = iP r it0 a n → o.fin = false → (o.rem ≠ [] → bk = .slice p o.rem.length c) → GE Q .normal 1418 [(0, pT it), (2, pT rb), (6, .bool fl)] F w0 B ((ky 0 24, iV o.total) :: (ky 0 25, iV o.count) :: (ky 0 26, .slice p o.rem.length c) :: (ky 0 27, bk) :: H) ((0, ⟨.slice p o.rem.length c, 57, 2, o.rem.length, (bN o.rem)⟩) :: S))
  (hr : ∀ (o : It) (p : Option Addr) (c : Nat) (bk ln : Value), o = iP r it0 a n → o.fin = true → (o.rem ≠ [] → bk = .slice p o.rem.length c) → GE Q .ret 1418 [] F w0 B ((ky 0 28, .bool true) :: (ky 1 59, ln) :: (ky 0 24, iV o.total) :: (ky 0 25, iV o.count) :: (ky 0 26, .slice p o.rem.length c) :: (ky 0 27, bk) :: H) ((0, ⟨.slice p o.rem.length c, 57, 2, o.rem.length, (bN o.rem)⟩) :: S)) : GC Tryz.prog (Go.Fr.part [1, 1, 0, 0, 1, 0, 1, 1, 1, 1, 1, 0, 1, 1, 1] (Go.Fr.bodyOf Tryz.f96)) Q 1418 [(0, pT it), (2, pT rb), (6, .bool fl), (547, sL db n dc), (548, iV n), (549, iV 0)] F w0 B H S := by
 have hdt : 0 ≤ Cal.daysTo it0.ly ∧ Cal.daysTo it0.ly ≤ 4000000 := by unfold Cal.daysTo; omega
 show GC _ (Code.block 10 (Go.Fr.part [1, 1, 0, 0, 1, 0, 1, 1, 1, 1, 1, 0, 1, 1, 1, 0] (Go.Fr.bodyOf Tryz.f96))) _ _ _ _ _ _ _ _
 refine eA (φ := 0 < it0.ts.length → ∃ b, tp = some ⟨b, 0, none⟩ ∧ it0.ts.length ≤ tc) (fun w s h => s.head 2 hS2 h) fun hthead => ?_
 refine g1 ?_
 refine bJ (ι := (Nat) × (It) × (Int) × (Int) × (Nat) × (List Value) × (Option Addr) × (Nat) × (Value)) (fun | ⟨k, o, tt, cc, m, xs, p, c, bk⟩ => n - k) (fun | ⟨k, o, tt, cc, m, xs, p, c, bk⟩ => (k ≤ n) ∧ (o = iP r it0 a k) ∧ (o.fin = false) ∧ (tt = o.total) ∧ (cc = o.count) ∧ (m = o.rem.length) ∧ (xs = bN o.rem) ∧ (0 ≤ cc ∧ cc ≤ 9223372036854775807) ∧ (0 ≤ tt ∧ tt ≤ it0.total + ((k * it0.ts.length) : Nat)) ∧ (m ≤ (k * it0.ts.length)) ∧ (m ≠ 0 → bk = .slice p m c)) (fun | ⟨k, o, tt, cc, m, xs, p, c, bk⟩ => [(0, pT it), (2, pT rb), (6, .bool fl), (547, sL db n dc), (548, iV n), (549, iV k)]) (fun | ⟨k, o, tt, cc, m, xs, p, c, bk⟩ => B) (fun | ⟨k, o, tt, cc, m, xs, p, c, bk⟩ => (ky 0 24, iV tt) :: (ky 0 25, iV cc) :: (ky 0 26, .slice p m c) :: (ky 0 27, bk) :: H) (fun | ⟨k, o, tt, cc, m, xs, p, c, bk⟩ => (0, ⟨.slice p m c, 57, 2, m, xs⟩) :: S) ⟨0, it0, it0.total, it0.count, 0, [], p0, c0, bk0⟩ ⟨Nat.zero_le _, rfl, hfin, rfl, rfl, by rw [hrem]; rfl, by rw [hrem]; rfl, hcnt, ⟨htot.1, by omega⟩, Nat.zero_le _, fun h => absurd rfl h⟩ kns (fun w s => by exact (s.to (fun _ _ h => h) (fun k o v ho h => (by rcases bB h with ⟨e, rfl⟩ | ⟨_, h⟩; { rw [e]; exact ⟨h24, by obtain ⟨rfl, rfl⟩ := gK ho dE e; rw [hB]; rfl⟩ }; rcases bB h with ⟨e, rfl⟩ | ⟨_, h⟩; { rw [e]; exact ⟨h25, by obtain ⟨rfl, rfl⟩ := gK ho dE e; rw [hB]; rfl⟩ }; rcases bB h with ⟨e, rfl⟩ | ⟨_, h⟩; { rw [e]; exact ⟨h26, by obtain ⟨rfl, rfl⟩ := gK ho dE e; rw [hB]; rfl⟩ }; rcases bB h with ⟨e, rfl⟩ | ⟨_, h⟩; { rw [e]; exact ⟨h27, by obtain ⟨rfl, rfl⟩ := gK ho dE e; rw [hB]; rfl⟩ }; exact ⟨h, by obtain ⟨b, e, _⟩ := s.cells k o v ho h; rw [e]; rfl⟩)) (fun j q h => (by rcases bB h with ⟨rfl, rfl⟩ | ⟨_, h⟩; exact hS0; exact h)))) ?_
 rintro ⟨k, o, tt, cc, m, xs, p, c, bk⟩ ⟨hk, ho, hf, ht, hc, hm, hx, hcc, htb, hmb, hbk⟩
 show GC _ _ _ _ [(0, pT it), (2, pT rb), (6, .bool fl), (547, sL db n dc), (548, iV n), (549, iV k)] _ _ (B) ((ky 0 24, iV tt) :: (ky 0 25, iV cc) :: (ky 0 26, .slice p m c) :: (ky 0 27, bk) :: H) ((0, ⟨.slice p m c, 57, 2, m, xs⟩) :: S)
 refine g6 ?_
 refine aB rfl (fun hc1 => ?_) (fun hc2 => ?_)
 ·have hlt : k < n := by have := oT hc1; omega
  obtain ⟨hd1, hd2⟩ := pU a n (fun j => !bad r it0 (a + j)) hlt
  have hkn : k * it0.ts.length + it0.ts.length ≤ n * it0.ts.length := by rw [← Nat.succ_mul]; exact Nat.mul_le_mul_right _ hlt
  have hsame := iD r it0 a k
  rw [← ho] at hsame
  have hsucc := j6 r it0 a k
  rw [← ho] at hsucc
  refine g6 ?_
  refine rl (aF (e := 156) (n := 2) kR rfl rfl oM oM) ?_
  refine rl (eC 1 rfl hS1 rfl (by rw [← hd1]; congr 1; omega) (by rw [← hd2]; congr 1; omega) kR) ?_
  refine gL (alo 40 (cs := [iV 0, .bool false]) kR (hlim.b 40 dE) (fun b1_ hbb1_ => ?_))
  refine gL (sta 40 rfl rfl rfl rfl ?_)
  refine g5 ?_
  refine rl (rfa 1) ?_
  refine rl (rld 40 rfl rfl rfl) ?_
  refine rZ2 ((gA rfl).to (cB (Bool.not_not _))) ?_
  refine aB rfl (fun hb => ?_) (fun hb => ?_)
  ·have hbad : bad r it0 (a + k) = true := hb
   have hod : jM r o (a + k) = o := by unfold jM; rw [hsame.bad, hbad]; simp
   refine g8 ?_
   refine aQ ⟨k + 1, o, tt, cc, m, xs, p, c, bk⟩ sO ⟨by omega, by rw [hsucc, hod], hf, ht, hc, hm, hx, hcc, ⟨htb.1, by rw [Nat.succ_mul]; omega⟩, by rw [Nat.succ_mul]; omega, hbk⟩ kns (fun w s => by exact s.low 40 (((((hlim.aJ1 dE dE).aJ1 dE dE).aJ1 dE dE).aJ1 dE dE).aJ2 dE) agx agx agx)
  ·have hbad : bad r it0 (a + k) = false := hb
   have hod : jM r o (a + k) = dB r o (mY it0.ts it0.ly (a + k)) := by unfold jM; rw [hsame.bad, hbad]; simp [hsame.ts, hsame.ly]
   have hmo := Cal.month_bd (Cal.daysTo it0.ly + (a + k))
   have hye := Cal.year_le (Cal.daysTo it0.ly + (a + k)) oM
   have hyd := gX (x := (Cal.daysTo it0.ly + (a + k)) * 86400) oM
   rw [show (Cal.daysTo it0.ly + (a + k)) * 86400 / 86400 = (Cal.daysTo it0.ly + (a + k)) by omega] at hyd
   refine g4 ?_
   refine rl (rfa 0) ?_
   refine rZ7 (rld 40 rfl rfl rfl) ?_
   refine rl (rfa 7) ?_
   refine rl (rfa 5) ?_
   refine rZ1 (aV 0 rfl hB h12 h13 kR dE) ?_
   refine gL (cvo (v := .agg #[iV ((Cal.daysTo it0.ly + (a + k)) * 86400), iV 0]) rfl (fun w_ s_ => (oS _ _ _ oM oM oM w_).mono fun e_ w2_ h_ => ⟨h_.1.trans (congrArg Ending.returned (by rw [show Cal.daysTo it0.ly * 86400 + (a + (k : Int)) * 86400 = (Cal.daysTo it0.ly + (a + k)) * 86400 by omega])), h_.2⟩) ?_)
   refine gL (cvo (v := .tuple #[iV (Cal.yearOf (Cal.daysTo it0.ly + (a + k))), iV (Cal.monthOf (Cal.daysTo it0.ly + (a + k))), iV (Cal.mdayOf (Cal.daysTo it0.ly + (a + k)))]) rfl (fun w_ s_ => (jZ _ _ oM w_).mono fun e_ w2_ h_ => ⟨h_.1.trans (congrArg Ending.returned (by rw [show (Cal.daysTo it0.ly + (a + k)) * 86400 / 86400 = (Cal.daysTo it0.ly + (a + k)) by omega])), h_.2⟩) ?_)
   refine g13 ?_
   refine rl (rfa 23) ?_
   refine rZ5 (rld 0 rfl hB h23) ?_
   refine bJ (ι := (Nat) × (It) × (Int) × (Int) × (Nat) × (List Value) × (Option Addr) × (Nat) × (Value)) (fun | ⟨j, o1, tt1, cc1, m1, xs1, p1, c1, bk1⟩ => it0.ts.length - j) (fun | ⟨j, o1, tt1, cc1, m1, xs1, p1, c1, bk1⟩ => (j ≤ it0.ts.length) ∧ (o1 = dB r o ((mY it0.ts it0.ly (a + k)).take j)) ∧ (o1.fin = false) ∧ (tt1 = o1.total) ∧ (cc1 = o1.count) ∧ (m1 = o1.rem.length) ∧ (xs1 = bN o1.rem) ∧ (0 ≤ cc1 ∧ cc1 ≤ 9223372036854775807) ∧ (0 ≤ tt1 ∧ tt1 ≤ it0.total + ((k * it0.ts.length + j) : Nat)) ∧ (m1 ≤ (k * it0.ts.length + j)) ∧ (m1 ≠ 0 → bk1 = .slice p1 m1 c1)) (fun | ⟨j, o1, tt1, cc1, m1, xs1, p1, c1, bk1⟩ => [(0, pT it), (2, pT rb), (6, .bool fl), (33, iV (Cal.yearOf (Cal.daysTo it0.ly + (a + k)))), (34, iV (Cal.monthOf (Cal.daysTo it0.ly + (a + k)))), (35, iV (Cal.mdayOf (Cal.daysTo it0.ly + (a + k)))), (547, sL db n dc), (548, iV n), (549, iV k), (573, .slice tp it0.ts.length tc), (574, iV (it0.ts.length)), (575, iV j)]) (fun | ⟨j, o1, tt1, cc1, m1, xs1, p1, c1, bk1⟩ => B) (fun | ⟨j, o1, tt1, cc1, m1, xs1, p1, c1, bk1⟩ => (ky 0 24, iV tt1) :: (ky 0 25, iV cc1) :: (ky 0 26, .slice p1 m1 c1) :: (ky 0 27, bk1) :: H) (fun | ⟨j, o1, tt1, cc1, m1, xs1, p1, c1, bk1⟩ => (0, ⟨.slice p1 m1 c1, 57, 2, m1, xs1⟩) :: S) ⟨0, o, tt, cc, m, xs, p, c, bk⟩ ⟨Nat.zero_le _, rfl, hf, ht, hc, hm, hx, hcc, ⟨htb.1, by omega⟩, by omega, hbk⟩ kns (fun w s => by exact s.low 40 (((((hlim.aJ1 dE dE).aJ1 dE dE).aJ1 dE dE).aJ1 dE dE).aJ2 dE) agx agx agx) ?_
   rintro ⟨j, o1, tt1, cc1, m1, xs1, p1, c1, bk1⟩ ⟨hj, ho1, hf1, ht1_, hc1_, hm1, hx1, hcc1, htb1, hmb1, hbk1⟩
   show GC _ _ _ _ [(0, pT it), (2, pT rb), (6, .bool fl), (33, iV (Cal.yearOf (Cal.daysTo it0.ly + (a + k)))), (34, iV (Cal.monthOf (Cal.daysTo it0.ly + (a + k)))), (35, iV (Cal.mdayOf (Cal.daysTo it0.ly + (a + k)))), (547, sL db n dc), (548, iV n), (549, iV k), (573, .slice tp it0.ts.length tc), (574, iV (it0.ts.length)), (575, iV j)] _ _ (B) ((ky 0 24, iV tt1) :: (ky 0 25, iV cc1) :: (ky 0 26, .slice p1 m1 c1) :: (ky 0 27, bk1) :: H) ((0, ⟨.slice p1 m1 c1, 57, 2, m1, xs1⟩) :: S)
   have hcl : (mY it0.ts it0.ly (a + k)).length = it0.ts.length := by unfold mY; simp
   refine g6 ?_
   refine aB rfl (fun hc1 => ?_) (fun hc2 => ?_)
   ·have hjt : j < it0.ts.length := by have := oT hc1; omega
    obtain ⟨t, htj⟩ : ∃ t, it0.ts[j]? = some t := ⟨_, List.getElem?_eq_getElem hjt⟩
    obtain ⟨ht1, ht2⟩ := lB htj
    have htr := hts t (List.mem_of_getElem? htj)
    obtain ⟨tb, rfl, htcap⟩ : ∃ b, tp = some ⟨b, 0, none⟩ ∧ it0.ts.length ≤ tc := hthead oM
    have hcj : (mY it0.ts it0.ly (a + k))[j]? = some ((Cal.daysTo it0.ly + (a + k)) * 86400 + t) := by unfold mY; rw [List.getElem?_map, htj]; rfl
    have hts1 := mU (r := r) (o := o) hcj
    rw [← ho1] at hts1
    refine g6 ?_
    refine rl (aF (e := 57) (n := 2) kR rfl rfl oM oM) ?_
    refine rl (eC 2 rfl hS2 rfl (by rw [← ht1]; congr 1; omega) (by rw [← ht2]; congr 1; omega) kR) ?_
    refine gL (alo 41 (cs := [iV 0, iV 0]) kR (hlim.b 41 dE) (fun b2_ hbb2_ => ?_))
    refine gL (sta 41 rfl rfl rfl rfl ?_)
    refine g4 ?_
    refine rl (aV 41 rfl rfl rfl rfl kR dE) ?_
    refine gL (cvo (v := .tuple #[iV (t % 86400 / 3600), iV (t % 86400 / 60 % 60), iV (t % 86400 % 60)]) rfl (fun w_ s_ => (iF _ _ oM w_).mono fun e_ w2_ h_ => ⟨h_.1.trans (congrArg Ending.returned rfl), h_.2⟩) ?_)
    refine g9 ?_
    refine cV (ι := (Nat)) (fun bt => True) (fun bt => [(0, pT it), (2, pT rb), (6, .bool fl), (33, iV (Cal.yearOf (Cal.daysTo it0.ly + (a + k)))), (34, iV (Cal.monthOf (Cal.daysTo it0.ly + (a + k)))), (35, iV (Cal.mdayOf (Cal.daysTo it0.ly + (a + k)))), (547, sL db n dc), (548, iV n), (549, iV k), (573, sL tb it0.ts.length tc), (574, iV (it0.ts.length)), (575, iV j), (41, pT bt)]) (fun bt => (40, bt) :: B) (fun bt => aC 40 0 [iV ((Cal.daysTo it0.ly + (a + k)) * 86400 + t), iV 0] ++ ((ky 0 24, iV tt1) :: (ky 0 25, iV cc1) :: (ky 0 26, .slice p1 m1 c1) :: (ky 0 27, bk1) :: H)) (fun bt => (0, ⟨.slice p1 m1 c1, 57, 2, m1, xs1⟩) :: S) ?_ ?_
    ·refine jJ (fun i => i == 12) kR ?_
     refine gr 0 rfl (bD rfl) ?_
     refine gr 1 rfl (bD rfl) ?_
     refine gr 2 rfl (bD rfl) ?_
     refine gr 3 rfl (bD rfl) ?_
     refine gr 4 rfl (bD rfl) ?_
     refine gr 5 rfl (bD rfl) ?_
     refine gr 6 rfl (aV 41 rfl rfl rfl rfl kR dE) ?_
     refine gr 8 rfl (aV 41 rfl rfl rfl rfl kR dE) ?_
     refine kL (i := 7) (j := 11) rfl rfl rfl rfl kR rfl rfl ?_ ?_
     ·refine cvo rfl (fun w_ s_ => iM _ _ oM w_) (gk ?_)
      refine kL (i := 9) (j := 11) rfl rfl rfl rfl kR rfl rfl ?_ ?_
      ·refine cvo rfl (fun w_ s_ => dN _ _ w_) (gk ?_)
       refine kL (i := 10) (j := 11) rfl rfl rfl rfl kR rfl rfl ?_ ?_
       ·refine cvo (v := .agg #[iV (((Cal.daysTo it0.ly + (a + k)) * 86400 + t)), iV 0]) rfl (fun w_ s_ => (cY _ _ _ _ _ _ _ oM oM oM oM oM oM oM w_).mono fun e_ w2_ h_ => ⟨h_.1.trans (congrArg Ending.returned (by rw [lL htr])), h_.2⟩) (gk ?_)
        refine gn 11 rfl (alo 40 (cs := [iV 0, iV 0]) kR (hlim.b 40 dE) (fun b3_ hbb3_ => eL (fun _ w s => by exact s.aJ7 (hlim.b 40 dE) lhx ble) ?_))
        refine gn 12 rfl (sta 40 rfl rfl rfl rfl (gk ?_))
        refine eE kR ?_
        refine aO b3_ trivial kns (fun w s => by exact s.low 41 ((Lim.aJ4 dE _ 0 ble ((((((hlim.mono dE).aJ3 dE).aJ1 dE dE).aJ1 dE dE).aJ1 dE dE).aJ1 dE dE)).aJ2 dE) agx agx agx)
       ·refine alo 40 (cs := [iV 0, iV 0]) kR (hlim.b 40 dE) (fun b4_ hbb4_ => eL (fun _ w s => by exact s.aJ7 (hlim.b 40 dE) lhx ble) ?_)
        refine gn 10 rfl (cvo (v := .agg #[iV (((Cal.daysTo it0.ly + (a + k)) * 86400 + t)), iV 0]) rfl (fun w_ s_ => (cY _ _ _ _ _ _ _ oM oM oM oM oM oM oM w_).mono fun e_ w2_ h_ => ⟨h_.1.trans (congrArg Ending.returned (by rw [lL htr])), h_.2⟩) (eL (fun _ w s => by exact s.aJ7 (hlim.b 40 dE) lhx ble) ?_))
        refine gn 12 rfl (sta 40 rfl rfl rfl rfl (gk ?_))
        refine eE kR ?_
        refine aO b4_ trivial kns (fun w s => by exact s.low 41 ((Lim.aJ4 dE _ 0 ble ((((((hlim.mono dE).aJ3 dE).aJ1 dE dE).aJ1 dE dE).aJ1 dE dE).aJ1 dE dE)).aJ2 dE) agx agx agx)
      ·refine alo 40 (cs := [iV 0, iV 0]) kR (hlim.b 40 dE) (fun b5_ hbb5_ => eL (fun _ w s => by exact s.aJ7 (hlim.b 40 dE) lhx ble) ?_)
       refine gn 9 rfl (cvo rfl (fun w_ s_ => dN _ _ w_) (eL (fun _ w s => by exact s.aJ7 (hlim.b 40 dE) lhx ble) ?_))
       refine gn 10 rfl (cvo (v := .agg #[iV (((Cal.daysTo it0.ly + (a + k)) * 86400 + t)), iV 0]) rfl (fun w_ s_ => (cY _ _ _ _ _ _ _ oM oM oM oM oM oM oM w_).mono fun e_ w2_ h_ => ⟨h_.1.trans (congrArg Ending.returned (by rw [lL htr])), h_.2⟩) (eL (fun _ w s => by exact s.aJ7 (hlim.b 40 dE) lhx ble) ?_))
       refine gn 12 rfl (sta 40 rfl rfl rfl rfl (gk ?_))
       refine eE kR ?_
       refine aO b5_ trivial kns (fun w s => by exact s.low 41 ((Lim.aJ4 dE _ 0 ble ((((((hlim.mono dE).aJ3 dE).aJ1 dE dE).aJ1 dE dE).aJ1 dE dE).aJ1 dE dE)).aJ2 dE) agx agx agx)
     ·refine alo 40 (cs := [iV 0, iV 0]) kR (hlim.b 40 dE) (fun b6_ hbb6_ => eL (fun _ w s => by exact s.aJ7 (hlim.b 40 dE) lhx ble) ?_)
      refine gn 7 rfl (cvo rfl (fun w_ s_ => iM _ _ oM w_) (eL (fun _ w s => by exact s.aJ7 (hlim.b 40 dE) lhx ble) ?_))
      refine gn 9 rfl (cvo rfl (fun w_ s_ => dN _ _ w_) (eL (fun _ w s => by exact s.aJ7 (hlim.b 40 dE) lhx ble) ?_))
      refine gn 10 rfl (cvo (v := .agg #[iV (((Cal.daysTo it0.ly + (a + k)) * 86400 + t)), iV 0]) rfl (fun w_ s_ => (cY _ _ _ _ _ _ _ oM oM oM oM oM oM oM w_).mono fun e_ w2_ h_ => ⟨h_.1.trans (congrArg Ending.returned (by rw [lL htr])), h_.2⟩) (eL (fun _ w s => by exact s.aJ7 (hlim.b 40 dE) lhx ble) ?_))
      refine gn 12 rfl (sta 40 rfl rfl rfl rfl (gk ?_))
      refine eE kR ?_
      refine aO b6_ trivial kns (fun w s => by exact s.low 41 ((Lim.aJ4 dE _ 0 ble ((((((hlim.mono dE).aJ3 dE).aJ1 dE dE).aJ1 dE dE).aJ1 dE dE).aJ1 dE dE)).aJ2 dE) agx agx agx)
    rintro bt -
    show GC _ _ _ _ [(0, pT it), (2, pT rb), (6, .bool fl), (33, iV (Cal.yearOf (Cal.daysTo it0.ly + (a + k)))), (34, iV (Cal.monthOf (Cal.daysTo it0.ly + (a + k)))), (35, iV (Cal.mdayOf (Cal.daysTo it0.ly + (a + k)))), (547, sL db n dc), (548, iV n), (549, iV k), (573, sL tb it0.ts.length tc), (574, iV (it0.ts.length)), (575, iV j), (41, pT bt)] _ _ ((40, bt) :: B) (aC 40 0 [iV ((Cal.daysTo it0.ly + (a + k)) * 86400 + t), iV 0] ++ ((ky 0 24, iV tt1) :: (ky 0 25, iV cc1) :: (ky 0 26, .slice p1 m1 c1) :: (ky 0 27, bk1) :: H)) ((0, ⟨.slice p1 m1 c1, 57, 2, m1, xs1⟩) :: S)
    refine g4 ?_
    refine rq (rfa 44) ?_
    refine rq (aV 1 rfl hR r44 r45 kR dE) ?_
    refine eU dE kR rfl (fun w_ s_ => kM _ _ w_) ?_
    refine rq ((gA rfl).to (v' := .bool true) (cB (by rw [decide_eq_false hu]; rfl))) ?_
    refine g2 ?_
    refine rq (aV 40 rfl rfl rfl rfl kR dE) ?_
    refine g5 ?_
    refine rq (rfa 44) ?_
    refine g1 ?_
    refine rq (aV 1 rfl hR r44 r45 kR dE) ?_
    refine g1 ?_
    refine eU (v := .bool (decide (r.u0 < ((Cal.daysTo it0.ly + (a + k)) * 86400 + t)))) dE kR rfl (fun w_ s_ => (rT _ _ _ _ w_).mono fun e_ w2_ h_ => ⟨h_.1.trans (congrArg Ending.returned (cB (decide_eq_decide.2 oM))), h_.2⟩) ?_
    refine g3 ?_
    refine aB rfl (fun hc1 => ?_) (fun hc2 => ?_)
    ·have hun : r.u0 < ((Cal.daysTo it0.ly + (a + k)) * 86400 + t) := oT hc1
     have hem : f7 r o1 ((Cal.daysTo it0.ly + (a + k)) * 86400 + t) = { o1 with fin := true } := lD hf1 hun
     refine g5 ?_
     refine rl (rfa 24) ?_
     refine rZ1 (rld 0 rfl hB rfl) ?_
     refine rl (rfa 59) ?_
     refine gL (sto 1 rfl rfl hR r59 ?_)
     refine g6 ?_
     refine rl (rfa 28) ?_
     refine gL (sto 0 rfl rfl hB h28 ?_)
     refine g11 ?_
     have hfin2 : ({ o1 with fin := true } : It).fin = true := rfl
     have hall : ({ o1 with fin := true } : It) = iP r it0 a n := by
      have e1 : dB r o (mY it0.ts it0.ly (a + k)) = _ := jK (j := j + 1) ((congrArg It.fin (hts1.trans hem)).trans hfin2)
      rw [hts1, hem] at e1
      have e2 : iP r it0 a (k + 1) = _ := hsucc.trans (hod.trans e1)
      rw [vI (k := k + 1) ((congrArg It.fin e2).trans hfin2) n hlt, e2]
     refine jP (fun a q => q.nil) (fun w s => ?_) (hr { o1 with fin := true } p1 c1 bk1 (iV tt1) hall hfin2 (fun h => by rw [← hm1]; exact hbk1 (fun e => h (List.eq_nil_of_length_eq_zero sO))))
     subst ht1_ hc1_ hm1 hx1
     exact s.low 40 (((((((hlim.aJ1 dE dE).aJ1 dE dE).aJ1 dE dE).aJ1 dE dE).aJ1 dE dE).aJ1 dE dE).aJ2 dE) agx agx agx
    ·have hun : ¬ r.u0 < ((Cal.daysTo it0.ly + (a + k)) * 86400 + t) := oF hc2
     refine g2 ?_
     refine rq (aV 40 rfl rfl rfl rfl kR dE) ?_
     refine g2 ?_
     refine rq (rfa 39) ?_
     refine rq (aV 1 rfl hR r39 r40 kR dE) ?_
     refine eU (v := .bool (decide (((Cal.daysTo it0.ly + (a + k)) * 86400 + t) < r.d0))) dE kR rfl (fun w_ s_ => (kS _ _ _ _ w_).mono fun e_ w2_ h_ => ⟨h_.1.trans (congrArg Ending.returned (cB (decide_eq_decide.2 oM))), h_.2⟩) ?_
     refine g3 ?_
     refine aB rfl (fun hc1 => ?_) (fun hc2 => ?_)
     ·have hst : ¬ ((Cal.daysTo it0.ly + (a + k)) * 86400 + t) < r.d0 := by simpa using hc1
      refine g4 ?_
      refine rl (rfa 24) ?_
      refine rZ2 (rld 0 rfl hB rfl) ?_
      refine rl (rfa 24) ?_
      refine gL (sto 0 rfl rfl hB rfl ?_)
      refine g3 ?_
      refine dL 4 kR kR ?_
      refine g2 ?_
      refine rt (rfa 26) ?_
      refine rt (aV 40 rfl rfl rfl rfl kR dE) ?_
      refine g1 ?_
      refine gL (dR (ι := Option Addr × Nat) (fun _ => .tuple #[]) (fun _ => True) (fun _ => _) (fun x => (ky 0 27, .slice x.1 (m1 + 1) x.2) :: (ky 0 26, .slice x.1 (m1 + 1) x.2) :: _) (fun x => (0, ⟨.slice x.1 (m1 + 1) x.2, 57, 2, m1 + 1, xs1 ++ [iV ((Cal.daysTo it0.ly + (a + k)) * 86400 + t), iV 0]⟩) :: _) dE kR rfl (fun w_ s_ => (pH (((Lim.aJ4 dE _ 0 ble ((((((hlim.mono dE).aJ3 dE).aJ1 dE dE).aJ1 dE dE).aJ1 dE dE).aJ1 dE dE)).aJ2 dE).aJ1 dE dE) (by exact hB) (q := ⟨.slice p1 m1 c1, 57, 2, m1, xs1⟩) rfl rfl rfl ⟨rfl, rfl⟩ sO w_ s_).mono fun e w' ⟨p', c', he, hs⟩ => ⟨(p', c'), trivial, he, hs⟩) (fun | (p2, c2), _ => ?_))
      refine g6 ?_
      refine rl (rfa 25) ?_
      refine rZ3 (rld 0 rfl hB rfl) ?_
      refine aB rfl (fun hc1 => ?_) (fun hc2 => ?_)
      ·have hcz : cc1 ≠ 0 := bne_iff_ne.1 hc1
       have hem : f7 r o1 ((Cal.daysTo it0.ly + (a + k)) * 86400 + t) = { o1 with total := o1.total + 1, rem := o1.rem ++ [((Cal.daysTo it0.ly + (a + k)) * 86400 + t)], count := o1.count - 1, fin := o1.count - 1 == 0 } := lE hf1 hun hst oM
       refine g4 ?_
       refine rl (rfa 25) ?_
       refine rZ2 (rld 0 rfl hB rfl) ?_
       refine rl (rfa 25) ?_
       refine gL (sto 0 rfl rfl hB rfl ?_)
       refine g6 ?_
       refine rl (rfa 25) ?_
       refine rZ3 (rld 0 rfl hB rfl) ?_
       refine aB rfl (fun hc1 => ?_) (fun hc2 => ?_)
       ·have hz : cc1 - 1 = 0 := beq_iff_eq.1 hc1
        refine g5 ?_
        refine rl (rfa 24) ?_
        refine rZ1 (rld 0 rfl hB rfl) ?_
        refine rl (rfa 59) ?_
        refine gL (sto 1 rfl rfl hR r59 ?_)
        refine g6 ?_
        refine rl (rfa 28) ?_
        refine gL (sto 0 rfl rfl hB h28 ?_)
        refine g11 ?_
        have hfin2 : ({ o1 with total := o1.total + 1, rem := o1.rem ++ [((Cal.daysTo it0.ly + (a + k)) * 86400 + t)], count := o1.count - 1, fin := o1.count - 1 == 0 } : It).fin = true := (beq_iff_eq.2 oM)
        have hall : ({ o1 with total := o1.total + 1, rem := o1.rem ++ [((Cal.daysTo it0.ly + (a + k)) * 86400 + t)], count := o1.count - 1, fin := o1.count - 1 == 0 } : It) = iP r it0 a n := by
         have e1 : dB r o (mY it0.ts it0.ly (a + k)) = _ := jK (j := j + 1) ((congrArg It.fin (hts1.trans hem)).trans hfin2)
         rw [hts1, hem] at e1
         have e2 : iP r it0 a (k + 1) = _ := hsucc.trans (hod.trans e1)
         rw [vI (k := k + 1) ((congrArg It.fin e2).trans hfin2) n hlt, e2]
        refine jP (fun a q => q.nil) (fun w s => ?_) (hr { o1 with total := o1.total + 1, rem := o1.rem ++ [((Cal.daysTo it0.ly + (a + k)) * 86400 + t)], count := o1.count - 1, fin := o1.count - 1 == 0 } p2 c2 (.slice p2 (m1 + 1) c2) (iV (tt1 + 1)) hall hfin2 (fun _ => by simp only [List.length_append, List.length_singleton]; rw [hm1]))
        subst ht1_ hc1_ hm1 hx1
        rw [eM] at s
        simp only [List.length_append, List.length_singleton]
        exact s.low 40 (((((((hlim.aJ1 dE dE).aJ1 dE dE).aJ1 dE dE).aJ1 dE dE).aJ1 dE dE).aJ1 dE dE).aJ2 dE) agx agx agx
       ·have hz : cc1 - 1 ≠ 0 := beq_eq_false_iff_ne.1 hc2
        refine g7 ?_
        refine aQ ⟨j + 1, { o1 with total := o1.total + 1, rem := o1.rem ++ [((Cal.daysTo it0.ly + (a + k)) * 86400 + t)], count := o1.count - 1, fin := o1.count - 1 == 0 }, tt1 + 1, cc1 - 1, m1 + 1, xs1 ++ [iV ((Cal.daysTo it0.ly + (a + k)) * 86400 + t), iV 0], p2, c2, .slice p2 (m1 + 1) c2⟩ sO ⟨by omega, by rw [hts1, hem], by simp only [beq_eq_false_iff_ne]; omega, by rw [ht1_], by rw [hc1_], by simp [hm1], by rw [hx1]; exact eM _ _, by omega, by omega, by omega, fun _ => rfl⟩ kns (fun w s => by exact s.low 40 (((((hlim.aJ1 dE dE).aJ1 dE dE).aJ1 dE dE).aJ1 dE dE).aJ2 dE) agx agx agx)
      ·have hcz : cc1 = 0 := bne_eq_false_iff_eq.1 hc2
       have hem : f7 r o1 ((Cal.daysTo it0.ly + (a + k)) * 86400 + t) = { o1 with total := o1.total + 1, rem := o1.rem ++ [((Cal.daysTo it0.ly + (a + k)) * 86400 + t)] } := mA hf1 hun hst oM
       refine g7 ?_
       refine aQ ⟨j + 1, { o1 with total := o1.total + 1, rem := o1.rem ++ [((Cal.daysTo it0.ly + (a + k)) * 86400 + t)] }, tt1 + 1, cc1, m1 + 1, xs1 ++ [iV ((Cal.daysTo it0.ly + (a + k)) * 86400 + t), iV 0], p2, c2, .slice p2 (m1 + 1) c2⟩ sO ⟨by omega, by rw [hts1, hem], hf1, by rw [ht1_], hc1_, by simp [hm1], by rw [hx1]; exact eM _ _, hcc1, by omega, by omega, fun _ => rfl⟩ kns (fun w s => by exact s.low 40 (((((hlim.aJ1 dE dE).aJ1 dE dE).aJ1 dE dE).aJ1 dE dE).aJ2 dE) agx agx agx)
     ·have hst : ((Cal.daysTo it0.ly + (a + k)) * 86400 + t) < r.d0 := by simpa using hc2
      have hem : f7 r o1 ((Cal.daysTo it0.ly + (a + k)) * 86400 + t) = o1 := mK hf1 hun hst
      refine g7 ?_
      refine aQ ⟨j + 1, o1, tt1, cc1, m1, xs1, p1, c1, bk1⟩ sO ⟨by omega, by rw [hts1, hem], hf1, ht1_, hc1_, hm1, hx1, hcc1, ⟨htb1.1, by omega⟩, by omega, hbk1⟩ kns (fun w s => by exact s.low 40 (((((hlim.aJ1 dE dE).aJ1 dE dE).aJ1 dE dE).aJ1 dE dE).aJ2 dE) agx agx agx)
   ·have hge : ¬ j < it0.ts.length := by have := oF hc2; omega
    refine g10 ?_
    refine aQ ⟨k + 1, o1, tt1, cc1, m1, xs1, p1, c1, bk1⟩ sO ⟨by omega, by rw [hsucc, hod, ho1, List.take_of_length_le (by rw [hcl]; omega)], hf1, ht1_, hc1_, hm1, hx1, hcc1, ⟨htb1.1, by rw [Nat.succ_mul]; omega⟩, by rw [Nat.succ_mul]; omega, hbk1⟩ kns (fun w s => by exact s.low 40 (((((hlim.aJ1 dE dE).aJ1 dE dE).aJ1 dE dE).aJ1 dE dE).aJ2 dE) agx agx agx)
 ·have hge : ¬ k < n := by have := oF hc2; omega
  obtain rfl : k = n := by omega
  refine g4 ?_
  refine jP kns (fun w s => ?_) (hn o p c bk ho hf (fun h => by rw [← hm]; exact hbk (fun e => h (List.eq_nil_of_length_eq_zero oM))))
  subst ht hc hm hx
  exact s
end
end Go.Proofs.YtdbbifbmkfmbkaaGreat
namespace Go.Proofs.YtdbbifbmkfmbkaaGreat
open Go.RowKit Go.Fr Go.Tab
section
variable {F : Nat → Prop} {w0 : World} {B : LN} {H : LV} {S : LS}
theorem tG {it rb : Nat} (hB : lkp 0 B = some it) (hR : lkp 1 B = some rb) (h7 : lkp (ky 0 7) H = some (pT rb)) {ly lm : Int} (h8 : lkp (ky 0 8) H = some (iV ly)) (h9 : lkp (ky 0 9) H = some (iV lm))
  {p51 p53 p57 : Option Addr} {c51 c53 c57 : Nat} (r51 : lkp (ky 1 51) H = some (.slice p51 0 c51)) (r53 : lkp (ky 1 53) H = some (.slice p53 0 c53)) (r57 : lkp (ky 1 57) H = some (.slice p57 0 c57)) {y m : Int} {d0 d1 : Int} (r39 : lkp (ky 1 39) H = some (iV d0)) (r40 : lkp (ky 1 40) H = some (iV d1)) {v10 : Value} (h10 : lkp (ky 0 10) H = some v10) {v11 : Value} (h11 : lkp (ky 0 11) H = some v11) {v12 : Value} (h12 : lkp (ky 0 12) H = some v12) {v13 : Value} (h13 : lkp (ky 0 13) H = some v13) {v14 : Value} (h14 : lkp (ky 0 14) H = some v14) {v15 : Value} (h15 : lkp (ky 0 15) H = some v15) {v16 : Value} (h16 : lkp (ky 0 16) H = some v16) {v17 : Value} (h17 : lkp (ky 0 17) H = some v17) {v18 : Value} (h18 : lkp (ky 0 18) H = some v18) {v19 : Value} (h19 : lkp (ky 0 19) H = some v19) {v20 : Value} (h20 : lkp (ky 0 20) H = some v20) (hy : y ≠ ly) (hy1 : 1 ≤ y ∧ y ≤ 10000) : ∀ w, Sees F w0 B H S w → Calls Tryz.prog 50 #[.pointer (some ⟨it, 7, none⟩), iV y, iV m] w fun e w' => sK e F w0 B H S y m w' := by
 cases hl : Cal.leapB y with
 | true => exact zN hB hR h7 h8 h9 r51 r53 r57 r39 r40 h10 h11 h12 h13 h14 h15 h16 h17 h18 h19 h20 hy hy1 hl
 | false => exact x7 hB hR h7 h8 h9 r51 r53 r57 r39 r40 h10 h11 h12 h13 h14 h15 h16 h17 h18 h19 h20 hy hy1 hl
theorem rA (y : Int) : 0 < nY y := by unfold nY; split <;> decide
theorem rE {Q : Exit → Act → World → Prop} {K : Act → World → Prop} {N d : Nat} {L : Fr.Loc} {ty : TypeId} {pos : String} {aft : Array Edge} {yv mv : Int} {f : FuncId} {asl : List Operand} {ats : Array TypeId} {args : List Value} (hd : d < N) (hf : fO Tryz.prog f = true) (ha : Fr.evs L asl = some args)
  (hc : ∀ w, Sees F w0 B H S w → Calls Tryz.prog f args.toArray w fun e w' => sK e F w0 B H S yv mv w')
  (hn : ∀ b6 c6 b3 c3 b4 c4 b5 c5 b7 c7 : Nat, 385 ≤ c6 → GK K N ((d, .tuple #[]) :: L) F w0 B ((ky 0 9, iV mv) :: (ky 0 8, iV yv) :: (ky 0 20, sN) :: (ky 0 16, sL b7 13 c7) :: (ky 0 18, sL b5 (nY yv) c5) :: (ky 0 17, sL b4 (nY yv) c4) :: (ky 0 15, sL b3 (nY yv) c3) ::
   (ky 0 19, .slice (some ⟨b6, 0 + (ywd yv).toNat * 1, none⟩) (385 - (ywd yv).toNat) (c6 - (ywd yv).toNat)) :: (ky 0 14, iV (ywd yv)) :: (ky 0 13, iV 0) :: (ky 0 12, iV (Cal.daysTo yv * 86400)) ::
   (ky 0 11, iV (365 + Cal.lp (yv + 1))) :: (ky 0 10, iV (365 + Cal.lp yv)) :: H) ((7, ⟨sL b7 13 c7, 3, 1, 13, (rgY yv).map iV⟩) :: (5, ⟨sL b5 (nY yv) c5, 3, 1, nY yv, (mE yv).map iV⟩) :: (4, ⟨sL b4 (nY yv) c4, 3, 1, nY yv, (mdY yv).map iV⟩) :: (3, ⟨sL b3 (nY yv) c3, 3, 1, nY yv, (mmY yv).map iV⟩) ::
   (6, ⟨sL b6 385 c6, 3, 1, 385, (wd 55).map iV⟩) :: S)) : GO Tryz.prog ⟨some d, .call ⟨.value (.func f), asl.toArray, ats⟩, ty, pos, aft, none⟩ Q K N L F w0 B H S := fun a w k s => by
 show Oper.upon _ _ _ _ _ _
 rw [mD k hf ha]
 refine (hc w s).mono ?_
 rintro e w' ⟨b6, c6, p3, c3, p4, c4, p5, c5, p7, c7, h385, rfl, s'⟩
 obtain ⟨b3, rfl, _⟩ := s'.head 3 rfl (rA yv)
 obtain ⟨b4, rfl, _⟩ := s'.head 4 rfl (rA yv)
 obtain ⟨b5, rfl, _⟩ := s'.head 5 rfl (rA yv)
 obtain ⟨b7, rfl, _⟩ := s'.head 7 rfl dE
 exact hn b6 c6 b3 c3 b4 c4 b5 c5 b7 c7 h385 _ _ (k.put hd _) s'
open Go.Md
structure Ad where
 b3 : Nat
 c3 : Nat
 b4 : Nat
 c4 : Nat
 b5 : Nat
 c5 : Nat
 b6 : Nat
 c6 : Nat
 b7 : Nat
 c7 : Nat
 p20 : Option Addr
 c20 : Nat
 p21 : Option Addr
 c21 : Nat
 p22 : Option Addr
 c22 : Nat
 tp : Option Addr
 tc : Nat
 rp : Option Addr
 rc : Nat
 rs : Option Addr
 rk : Nat
 rn : Nat
 rj : Nat
 rall : List Int
 bk : Value
 dp : Option Addr
 dc : Nat
 dn : Nat
 dxs : List Value
 ln : Value
structure Ra where
 p46 : Option Addr
 c46 : Nat
 p47 : Option Addr
 c47 : Nat
 p48 : Option Addr
 c48 : Nat
 p49 : Option Addr
 c49 : Nat
 p50 : Option Addr
 c50 : Nat
 p51 : Option Addr
 c51 : Nat
 p52 : Option Addr
 c52 : Nat
 p53 : Option Addr
 c53 : Nat
 p54 : Option Addr
 c54 : Nat
 p55 : Option Addr
 c55 : Nat
 p56 : Option Addr
 c56 : Nat
 p57 : Option Addr
 c57 : Nat
structure St (F : Nat → Prop) (w0 : World) (S0 : LS) (H0 : LV) (it rb : Nat) (r : Ru) (l : Ra) (s : It) (a : Ad) (B : LN) (H : LV) (S : LS) : Prop where
 hB : lkp 0 B = some it
 hR : lkp 1 B = some rb
 lim : Lim 40 B H S
 h0 : lkp (ky 0 0) H = some (iV s.y)
 h1 : lkp (ky 0 1) H = some (iV s.mo)
 h2 : lkp (ky 0 2) H = some (iV s.d)
 h3 : lkp (ky 0 3) H = some (iV s.h)
 h4 : lkp (ky 0 4) H = some (iV s.mi)
 h5 : lkp (ky 0 5) H = some (iV s.s)
 h6 : lkp (ky 0 6) H = some (iV s.wd)
 h7 : lkp (ky 0 7) H = some (pT rb)
 h8 : lkp (ky 0 8) H = some (iV s.ly)
 h9 : lkp (ky 0 9) H = some (iV s.lm)
 h10 : lkp (ky 0 10) H = some (iV (365 + Cal.lp s.ly))
 h11 : lkp (ky 0 11) H = some (iV (365 + Cal.lp (s.ly + 1)))
 h12 : lkp (ky 0 12) H = some (iV (Cal.daysTo s.ly * 86400))
 h13 : lkp (ky 0 13) H = some (iV 0)
 h14 : lkp (ky 0 14) H = some (iV (ywd s.ly))
 h15 : lkp (ky 0 15) H = some (sL a.b3 (nY s.ly) a.c3)
 h16 : lkp (ky 0 16) H = some (sL a.b7 13 a.c7)
 h17 : lkp (ky 0 17) H = some (sL a.b4 (nY s.ly) a.c4)
 h18 : lkp (ky 0 18) H = some (sL a.b5 (nY s.ly) a.c5)
 h19 : lkp (ky 0 19) H = some (.slice (some ⟨a.b6, 0 + (ywd s.ly).toNat * 1, none⟩) (385 - (ywd s.ly).toNat) (a.c6 - (ywd s.ly).toNat))
 h20 : lkp (ky 0 20) H = some (.slice a.p20 s.wno.length a.c20)
 h21 : lkp (ky 0 21) H = some (.slice a.p21 s.nwm.length a.c21)
 h22 : lkp (ky 0 22) H = some (.slice a.p22 s.eas.length a.c22)
 h23 : lkp (ky 0 23) H = some (.slice a.tp s.ts.length a.tc)
 h24 : lkp (ky 0 24) H = some (iV s.total)
 h25 : lkp (ky 0 25) H = some (iV s.count)
 h26 : lkp (ky 0 26) H = some (.slice a.rs s.rem.length a.rk)
 h27 : lkp (ky 0 27) H = some (a.bk)
 h28 : lkp (ky 0 28) H = some (.bool s.fin)
 h29 : lkp (ky 0 29) H = some (.slice a.dp a.dn a.dc)
 hS0 : lkp 0 S = some ⟨.slice a.rp a.rn a.rc, 57, 2, a.rn, bN a.rall⟩
 hS1 : lkp 1 S = some ⟨.slice a.dp a.dn a.dc, 156, 2, a.dn, a.dxs⟩
 hS2 : lkp 2 S = some ⟨.slice a.tp s.ts.length a.tc, 57, 2, s.ts.length, bN s.ts⟩
 hS3 : lkp 3 S = some ⟨sL a.b3 (nY s.ly) a.c3, 3, 1, nY s.ly, (mmY s.ly).map iV⟩
 hS4 : lkp 4 S = some ⟨sL a.b4 (nY s.ly) a.c4, 3, 1, nY s.ly, (mdY s.ly).map iV⟩
 hS5 : lkp 5 S = some ⟨sL a.b5 (nY s.ly) a.c5, 3, 1, nY s.ly, (mE s.ly).map iV⟩
 hS6 : lkp 6 S = some ⟨sL a.b6 385 a.c6, 3, 1, 385, (wd 55).map iV⟩
 hS7 : lkp 7 S = some ⟨sL a.b7 13 a.c7, 3, 1, 13, (rgY s.ly).map iV⟩
 hS8 : 0 < s.wno.length → lkp 8 S = some ⟨.slice a.p20 s.wno.length a.c20, 3, 1, s.wno.length, s.wno.map iV⟩
 hS9 : 0 < s.nwm.length → lkp 9 S = some ⟨.slice a.p21 s.nwm.length a.c21, 3, 1, s.nwm.length, s.nwm.map iV⟩
 hS10 : 0 < s.eas.length → lkp 10 S = some ⟨.slice a.p22 s.eas.length a.c22, 3, 1, s.eas.length, s.eas.map iV⟩
 hp20 : 0 < s.wno.length → ∃ b, a.p20 = some ⟨b, 0, none⟩
 hp21 : 0 < s.nwm.length → ∃ b, a.p21 = some ⟨b, 0, none⟩
 hp22 : 0 < s.eas.length → ∃ b, a.p22 = some ⟨b, 0, none⟩
 c6 : 385 ≤ a.c6
 frS : ∀ k, 11 ≤ k → k < 40 → lkp k S = lkp k S0
 frH : ∀ k, 2 ≤ k → k < 40 → ∀ o, o < 4096 → lkp (ky k o) H = lkp (ky k o) H0
 hq0 : s.rem = [] → a.rs = a.rp ∧ a.rk = a.rc ∧ a.rn = 0 ∧ a.rall = []
 hq1 : s.rem ≠ [] → (∀ g, a.rp = some ⟨g, 0, none⟩ → a.rs = some ⟨g, 2 * a.rj, none⟩) ∧ s.rem = a.rall.drop a.rj ∧ a.rall.length = a.rn ∧ a.rj < a.rn ∧ a.rk = a.rc - a.rj ∧ a.bk = .slice a.rp a.rn a.rc
 r38 : lkp (ky 1 38) H = some (iV r.freq)
 r39 : lkp (ky 1 39) H = some (iV r.d0)
 r40 : lkp (ky 1 40) H = some (iV 0)
 r41 : lkp (ky 1 41) H = some (iV r.interval)
 r42 : lkp (ky 1 42) H = some (iV r.wkst)
 r44 : lkp (ky 1 44) H = some (iV r.u0)
 r45 : lkp (ky 1 45) H = some (iV r.u1)
 r46 : lkp (ky 1 46) H = some (.slice l.p46 r.setpos.length l.c46)
 r47 : lkp (ky 1 47) H = some (.slice l.p47 r.month.length l.c47)
 r48 : lkp (ky 1 48) H = some (.slice l.p48 r.mday.length l.c48)
 r49 : lkp (ky 1 49) H = some (.slice l.p49 r.nmday.length l.c49)
 r50 : lkp (ky 1 50) H = some (.slice l.p50 r.yday.length l.c50)
 r51 : lkp (ky 1 51) H = some (.slice l.p51 r.weekno.length l.c51)
 r52 : lkp (ky 1 52) H = some (.slice l.p52 r.wday.length l.c52)
 r53 : lkp (ky 1 53) H = some (.slice l.p53 r.nwd.length l.c53)
 r54 : lkp (ky 1 54) H = some (.slice l.p54 r.hour.length l.c54)
 r55 : lkp (ky 1 55) H = some (.slice l.p55 r.minute.length l.c55)
 r56 : lkp (ky 1 56) H = some (.slice l.p56 r.second.length l.c56)
 r57 : lkp (ky 1 57) H = some (.slice l.p57 r.easter.length l.c57)
 r59 : lkp (ky 1 59) H = some (a.ln)
 hI46 : SrcI F w0 S (.slice l.p46 r.setpos.length l.c46) r.setpos
 hI47 : SrcI F w0 S (.slice l.p47 r.month.length l.c47) r.month
 hI48 : SrcI F w0 S (.slice l.p48 r.mday.length l.c48) r.mday
 hI49 : SrcI F w0 S (.slice l.p49 r.nmday.length l.c49) r.nmday
 hI50 : SrcI F w0 S (.slice l.p50 r.yday.length l.c50) r.yday
 hI51 : SrcI F w0 S (.slice l.p51 r.weekno.length l.c51) r.weekno
 hI52 : SrcI F w0 S (.slice l.p52 r.wday.length l.c52) r.wday
 hI54 : SrcI F w0 S (.slice l.p54 r.hour.length l.c54) r.hour
 hI55 : SrcI F w0 S (.slice l.p55 r.minute.length l.c55) r.minute
 hI56 : SrcI F w0 S (.slice l.p56 r.second.length l.c56) r.second
 hI57 : SrcI F w0 S (.slice l.p57 r.easter.length l.c57) r.easter
 hl46 : r.setpos.length ≤ 1000000000
 hl47 : r.month.length ≤ 1000000000
 hl48 : r.mday.length ≤ 1000000000
 hl49 : r.nmday.length ≤ 1000000000
 hl50 : r.yday.length ≤ 1000000000
 hl51 : r.weekno.length ≤ 1000000000
 hl52 : r.wday.length ≤ 1000000000
 hl54 : r.hour.length ≤ 1000000000
 hl55 : r.minute.length ≤ 1000000000
 hl56 : r.second.length ≤ 1000000000
 hl57 : r.easter.length ≤ 1000000000
structure RuOk (r : Ru) : Prop where
 freq : 0 ≤ r.freq ∧ r.freq ≤ 6
 interval : 1 ≤ r.interval ∧ r.interval ≤ 1000
 wkst : 0 ≤ r.wkst ∧ r.wkst ≤ 6
 until0 : ¬ (r.u0 = 0 ∧ r.u1 = 0)
 until1 : 0 ≤ r.u1
 hour : ∀ x ∈ r.hour, 0 ≤ x ∧ x ≤ 23
 minute : ∀ x ∈ r.minute, 0 ≤ x ∧ x ≤ 59
 second : ∀ x ∈ r.second, 0 ≤ x ∧ x ≤ 59
 wnoF : r.weekno.length ≠ 0 → ∀ y, (r.wnoF y).length = nY y
 nwmF : r.nwd.length ≠ 0 → ∀ y m, ((r.nwmF y m).length : Int) = 365 + Cal.lp y
 easF : r.easter.length ≠ 0 → ∀ y, (r.easF y).length = nY y
 wnoF0 : r.weekno.length = 0 → ∀ y, r.wnoF y = []
 nwmF0 : r.nwd.length = 0 → ∀ y m, r.nwmF y m = []
 easF0 : r.easter.length = 0 → ∀ y, r.easF y = []
 nwd : 2 ≤ r.freq → r.nwd.length = 0
structure ItOk (r : Ru) (s : It) : Prop where
 y : 1 ≤ s.y ∧ s.y ≤ 9999
 ly : s.ly = s.y
 mo : 1 ≤ s.mo ∧ s.mo ≤ 12
 d : 1 ≤ s.d ∧ s.d ≤ 31
 day : 2 ≤ r.freq → s.d ≤ Cal.mdays s.mo s.y
 wd : 0 ≤ s.wd ∧ s.wd ≤ 6
 hr : 0 ≤ s.h ∧ s.h ≤ 23
 mn : 0 ≤ s.mi ∧ s.mi ≤ 59
 sec : 0 ≤ s.s ∧ s.s ≤ 59
 ts : ∀ t ∈ s.ts, 0 ≤ t ∧ t < 86400
 tsn : s.ts.length ≤ 100000
 total : 0 ≤ s.total ∧ s.total ≤ 1000000000000 + s.rem.length
 count : 0 ≤ s.count ∧ s.count ≤ 9223372036854775807
 wno : s.wno = r.wnoF s.ly
 nwm : s.nwm = r.nwmF s.ly s.lm
 eas : s.eas = r.easF s.ly
 lm : r.freq = 1 → s.lm = s.mo
 meet : 4 ≤ r.freq → ∀ b, ∃ K, iK r b s = some K ∧ (K : Int) ≤ dC r.freq
section
variable {P : Program} {Q : Exit → Act → World → Prop} {K : Act → World → Prop} {N d : Nat} {L : Fr.Loc} {v : Value} {ty : TypeId} {pos : String} {aft : Array Edge}
theorem mM {f : FuncId} {asl : List Operand} {ats : Array TypeId} {args : List Value} (hd : d < N) (hf : fO P f = true) (ha : Fr.evs L asl = some args)
  (hc : ∀ w, Sees F w0 B H S w → Calls P f args.toArray w fun e w' => e = .returned v ∧ Sees F w0 B H S w') (hn : GK K N ((d, v) :: L) F w0 B H S) : GO P ⟨some d, .call ⟨.value (.func f), asl.toArray, ats⟩, ty, pos, aft, none⟩ Q K N L F w0 B H S :=
 dR (ι := Unit) (fun _ => v) (fun _ => True) (fun _ => B) (fun _ => H) (fun _ => S) hd hf ha (fun w s => (hc w s).mono fun e w' ⟨he, hs⟩ => ⟨(), trivial, he, hs⟩) (fun _ _ => hn)
theorem xI (k : Nat) (h : Option Addr → Nat → Nat × Value) (q : Option Addr → Nat → Slc) {f : FuncId} {asl : List Operand} {ats : Array TypeId} {args : List Value} (hd : d < N) (hf : fO P f = true) (ha : Fr.evs L asl = some args)
  (hc : ∀ w, Sees F w0 B H S w → Calls P f args.toArray w fun e w' => ∃ p c, e = .returned v ∧ Sees F w0 B (h p c :: H) ((k, q p c) :: S) w') (hn : ∀ p c, GK K N ((d, v) :: L) F w0 B (h p c :: H) ((k, q p c) :: S)) : GO P ⟨some d, .call ⟨.value (.func f), asl.toArray, ats⟩, ty, pos, aft, none⟩ Q K N L F w0 B H S :=
 dR (ι := Option Addr × Nat) (fun _ => v) (fun _ => True) (fun _ => B) (fun x => h x.1 x.2 :: H) (fun x => (k, q x.1 x.2) :: S) hd hf ha (fun w s => (hc w s).mono fun e w' ⟨p, c, he, hs⟩ => ⟨(p, c), trivial, he, hs⟩) (fun x _ => hn x.1 x.2)
end
end
end Go.Proofs.YtdbbifbmkfmbkaaGreat
