import Derived.Test.YthomapgobmdicaaGreatZrc
set_option linter.unusedVariables false
set_option linter.unusedSimpArgs false
set_option maxRecDepth 100000
set_option maxHeartbeats 8000000
namespace Go.Proofs.YthomapgobmdicaaGreat
open Go.RowKit Go.Fr Go.Tab
section
variable {F : Nat -> Prop} {w0 : World} {B : LN} {H : LV} {S : LS}
open Go.Md
structure Ad where
 b3 : Nat
 c3 : Nat
 b4 : Nat
 c4 : Nat
 b5 : Nat
 c5 : Nat
 b6 : Nat
 c6 : Nat
 b7 : Nat
 c7 : Nat
 p20 : Option Addr
 c20 : Nat
 p21 : Option Addr
 c21 : Nat
 p22 : Option Addr
 c22 : Nat
 tp : Option Addr
 tc : Nat
 rp : Option Addr
 rc : Nat
 rs : Option Addr
 rk : Nat
 rn : Nat
 rj : Nat
 rall : List Int
 bk : Value
 dp : Option Addr
 dc : Nat
 dn : Nat
 dxs : List Value
 ln : Value
structure Ra where
 p46 : Option Addr
 c46 : Nat
 p47 : Option Addr
 c47 : Nat
 p48 : Option Addr
 c48 : Nat
 p49 : Option Addr
 c49 : Nat
 p50 : Option Addr
 c50 : Nat
 p51 : Option Addr
 c51 : Nat
 p52 : Option Addr
 c52 : Nat
 p53 : Option Addr
 c53 : Nat
 p54 : Option Addr
 c54 : Nat
 p55 : Option Addr
 c55 : Nat
 p56 : Option Addr
 c56 : Nat
 p57 : Option Addr
 c57 : Nat
structure St (F : Nat -> Prop) (w0 : World) (S0 : LS) (H0 : LV) (it rb : Nat) (r : Ru) (l : Ra) (s : It) (a : Ad) (B : LN) (H : LV) (S : LS) : Prop where
 hB : lkp 0 B = some it
 hR : lkp 1 B = some rb
 lim : Lim 40 B H S
 h0 : lkp (ky 0 0) H = some (iV s.y)
 h1 : lkp (ky 0 1) H = some (iV s.mo)
 h2 : lkp (ky 0 2) H = some (iV s.d)
 h3 : lkp (ky 0 3) H = some (iV s.h)
 h4 : lkp (ky 0 4) H = some (iV s.mi)
 h5 : lkp (ky 0 5) H = some (iV s.s)
 h6 : lkp (ky 0 6) H = some (iV s.wd)
 h7 : lkp (ky 0 7) H = some (pT rb)
 h8 : lkp (ky 0 8) H = some (iV s.ly)
 h9 : lkp (ky 0 9) H = some (iV s.lm)
 h10 : lkp (ky 0 10) H = some (iV (365 + Cal.lp s.ly))
 h11 : lkp (ky 0 11) H = some (iV (365 + Cal.lp (s.ly + 1)))
 h12 : lkp (ky 0 12) H = some (iV (Cal.daysTo s.ly * 86400))
 h13 : lkp (ky 0 13) H = some (iV 0)
 h14 : lkp (ky 0 14) H = some (iV (ywd s.ly))
 h15 : lkp (ky 0 15) H = some (sL a.b3 (nY s.ly) a.c3)
 h16 : lkp (ky 0 16) H = some (sL a.b7 13 a.c7)
 h17 : lkp (ky 0 17) H = some (sL a.b4 (nY s.ly) a.c4)
 h18 : lkp (ky 0 18) H = some (sL a.b5 (nY s.ly) a.c5)
 h19 : lkp (ky 0 19) H = some (.slice (some ⟨a.b6, 0 + (ywd s.ly).toNat * 1, none⟩) (385 - (ywd s.ly).toNat) (a.c6 - (ywd s.ly).toNat))
 h20 : lkp (ky 0 20) H = some (.slice a.p20 s.wno.length a.c20)
 h21 : lkp (ky 0 21) H = some (.slice a.p21 s.nwm.length a.c21)
 h22 : lkp (ky 0 22) H = some (.slice a.p22 s.eas.length a.c22)
 h23 : lkp (ky 0 23) H = some (.slice a.tp s.ts.length a.tc)
 h24 : lkp (ky 0 24) H = some (iV s.aP3)
 h25 : lkp (ky 0 25) H = some (iV s.count)
 h26 : lkp (ky 0 26) H = some (.slice a.rs s.rem.length a.rk)
 h27 : lkp (ky 0 27) H = some (a.bk)
 h28 : lkp (ky 0 28) H = some (.bool s.fin)
 h29 : lkp (ky 0 29) H = some (.slice a.dp a.dn a.dc)
 hS0 : lkp 0 S = some ⟨.slice a.rp a.rn a.rc, 80, 2, a.rn, bS a.rall⟩
 hS1 : lkp 1 S = some ⟨.slice a.dp a.dn a.dc, 171, 2, a.dn, a.dxs⟩
 hS2 : lkp 2 S = some ⟨.slice a.tp s.ts.length a.tc, 80, 2, s.ts.length, bS s.ts⟩
 hS3 : lkp 3 S = some ⟨sL a.b3 (nY s.ly) a.c3, 3, 1, nY s.ly, (mmY s.ly).map iV⟩
 hS4 : lkp 4 S = some ⟨sL a.b4 (nY s.ly) a.c4, 3, 1, nY s.ly, (mdY s.ly).map iV⟩
 hS5 : lkp 5 S = some ⟨sL a.b5 (nY s.ly) a.c5, 3, 1, nY s.ly, (mM s.ly).map iV⟩
 hS6 : lkp 6 S = some ⟨sL a.b6 385 a.c6, 3, 1, 385, (wd 55).map iV⟩
 hS7 : lkp 7 S = some ⟨sL a.b7 13 a.c7, 3, 1, 13, (rgY s.ly).map iV⟩
 hS8 : 0 < s.wno.length -> lkp 8 S = some ⟨.slice a.p20 s.wno.length a.c20, 3, 1, s.wno.length, s.wno.map iV⟩
 hS9 : 0 < s.nwm.length -> lkp 9 S = some ⟨.slice a.p21 s.nwm.length a.c21, 3, 1, s.nwm.length, s.nwm.map iV⟩
 hS10 : 0 < s.eas.length -> lkp 10 S = some ⟨.slice a.p22 s.eas.length a.c22, 3, 1, s.eas.length, s.eas.map iV⟩
 hp20 : 0 < s.wno.length -> ∃ b, a.p20 = some ⟨b, 0, none⟩
 hp21 : 0 < s.nwm.length -> ∃ b, a.p21 = some ⟨b, 0, none⟩
 hp22 : 0 < s.eas.length -> ∃ b, a.p22 = some ⟨b, 0, none⟩
 c6 : 385 <= a.c6
 frS : ∀ k, 11 <= k -> k < 40 -> lkp k S = lkp k S0
 frH : ∀ k, 2 <= k -> k < 40 -> ∀ o, o < 4096 -> lkp (ky k o) H = lkp (ky k o) H0
 hq0 : s.rem = [] -> a.rs = a.rp /\ a.rk = a.rc /\ a.rn = 0 /\ a.rall = []
 hq1 : s.rem ≠ [] -> (∀ g, a.rp = some ⟨g, 0, none⟩ -> a.rs = some ⟨g, 2 * a.rj, none⟩) /\ s.rem = a.rall.drop a.rj /\ a.rall.length = a.rn /\ a.rj < a.rn /\ a.rk = a.rc - a.rj /\ a.bk = .slice a.rp a.rn a.rc
 r38 : lkp (ky 1 38) H = some (iV r.aP2)
 r39 : lkp (ky 1 39) H = some (iV r.d0)
 r40 : lkp (ky 1 40) H = some (iV 0)
 r41 : lkp (ky 1 41) H = some (iV r.aPp)
 r42 : lkp (ky 1 42) H = some (iV r.aPq)
 r44 : lkp (ky 1 44) H = some (iV r.u0)
 r45 : lkp (ky 1 45) H = some (iV r.u1)
 r46 : lkp (ky 1 46) H = some (.slice l.p46 r.aPz.length l.c46)
 r47 : lkp (ky 1 47) H = some (.slice l.p47 r.aPt.length l.c47)
 r48 : lkp (ky 1 48) H = some (.slice l.p48 r.aPu.length l.c48)
 r49 : lkp (ky 1 49) H = some (.slice l.p49 r.aPv.length l.c49)
 r50 : lkp (ky 1 50) H = some (.slice l.p50 r.aPw.length l.c50)
 r51 : lkp (ky 1 51) H = some (.slice l.p51 r.aPx.length l.c51)
 r52 : lkp (ky 1 52) H = some (.slice l.p52 r.wday.length l.c52)
 r53 : lkp (ky 1 53) H = some (.slice l.p53 r.nwd.length l.c53)
 r54 : lkp (ky 1 54) H = some (.slice l.p54 r.hour.length l.c54)
 r55 : lkp (ky 1 55) H = some (.slice l.p55 r.aPr.length l.c55)
 r56 : lkp (ky 1 56) H = some (.slice l.p56 r.aPs.length l.c56)
 r57 : lkp (ky 1 57) H = some (.slice l.p57 r.aPy.length l.c57)
 r59 : lkp (ky 1 59) H = some (a.ln)
 hI46 : SrcI F w0 S (.slice l.p46 r.aPz.length l.c46) r.aPz
 hI47 : SrcI F w0 S (.slice l.p47 r.aPt.length l.c47) r.aPt
 hI48 : SrcI F w0 S (.slice l.p48 r.aPu.length l.c48) r.aPu
 hI49 : SrcI F w0 S (.slice l.p49 r.aPv.length l.c49) r.aPv
 hI50 : SrcI F w0 S (.slice l.p50 r.aPw.length l.c50) r.aPw
 hI51 : SrcI F w0 S (.slice l.p51 r.aPx.length l.c51) r.aPx
 hI52 : SrcI F w0 S (.slice l.p52 r.wday.length l.c52) r.wday
 hI54 : SrcI F w0 S (.slice l.p54 r.hour.length l.c54) r.hour
 hI55 : SrcI F w0 S (.slice l.p55 r.aPr.length l.c55) r.aPr
 hI56 : SrcI F w0 S (.slice l.p56 r.aPs.length l.c56) r.aPs
 hI57 : SrcI F w0 S (.slice l.p57 r.aPy.length l.c57) r.aPy
 hl46 : r.aPz.length <= 1000000000
 hl47 : r.aPt.length <= 1000000000
 hl48 : r.aPu.length <= 1000000000
 hl49 : r.aPv.length <= 1000000000
 hl50 : r.aPw.length <= 1000000000
 hl51 : r.aPx.length <= 1000000000
 hl52 : r.wday.length <= 1000000000
 hl54 : r.hour.length <= 1000000000
 hl55 : r.aPr.length <= 1000000000
 hl56 : r.aPs.length <= 1000000000
 hl57 : r.aPy.length <= 1000000000
 hI53 : SrcP F w0 S (.slice l.p53 r.nwd.length l.c53) r.nwd
 hl53 : r.nwd.length <= 1000000000
theorem sT {F : Nat -> Prop} {w0 : World} {S0 S02 : LS} {H0 H02 : LV} {it rb : Nat} {r : Ru} {l : Ra} {s s2 : It} {a a2 : Ad} {B B2 : LN} {H H2 : LV} {S S2 : LS} (st : St F w0 S0 H0 it rb r l s a B H S)
 (lim : Bx (Lim 40 B H S) -> Lim 40 B2 H2 S2 := by intro k_; repeat (first | exact k_.out | apply Lim.aPh _ dE dE | apply Lim.aPi _ dE))
 (frS : Bx (∀ k, 11 <= k -> k < 40 -> lkp k S = lkp k S0) -> ∀ k, 11 <= k -> k < 40 -> lkp k S2 = lkp k S02 := by intro q_; first | exact fun _ _ _ => rfl | intro k_ h1_ h2_; exact Eq.trans aH (q_.out k_ h1_ h2_))
 (frH : Bx (∀ k, 2 <= k -> k < 40 -> ∀ o, o < 4096 -> lkp (ky k o) H = lkp (ky k o) H0) -> ∀ k, 2 <= k -> k < 40 -> ∀ o, o < 4096 -> lkp (ky k o) H2 = lkp (ky k o) H02 := by intro q_; first | exact fun _ _ _ _ _ => rfl | intro k_ h1_ h2_ o_ ho_; exact Eq.trans (by repeat (first | rfl | rw [bV oM ho_ dE])) (q_.out k_ h1_ h2_ o_ ho_))
 (h23 : Bx (lkp (ky 0 23) H = some (.slice a.tp s.ts.length a.tc)) -> lkp (ky 0 23) H2 = some (.slice a2.tp s2.ts.length a2.tc) := by intro k_; first | exact k_.out | rfl | exact (lkX dE).trans k_.out | exact (lT (vok _ _) dE dE dE dE).trans k_.out)
 (h25 : Bx (lkp (ky 0 25) H = some (iV s.count)) -> lkp (ky 0 25) H2 = some (iV s2.count) := by intro k_; first | exact k_.out | rfl | exact (lkX dE).trans k_.out | exact (lT (vok _ _) dE dE dE dE).trans k_.out)
 (h26 : Bx (lkp (ky 0 26) H = some (.slice a.rs s.rem.length a.rk)) -> lkp (ky 0 26) H2 = some (.slice a2.rs s2.rem.length a2.rk) := by intro k_; first | exact k_.out | rfl | exact (lkX dE).trans k_.out | exact (lT (vok _ _) dE dE dE dE).trans k_.out)
 (h27 : Bx (lkp (ky 0 27) H = some (a.bk)) -> lkp (ky 0 27) H2 = some (a2.bk) := by intro k_; first | exact k_.out | rfl | exact (lkX dE).trans k_.out | exact (lT (vok _ _) dE dE dE dE).trans k_.out)
 (h28 : Bx (lkp (ky 0 28) H = some (.bool s.fin)) -> lkp (ky 0 28) H2 = some (.bool s2.fin) := by intro k_; first | exact k_.out | rfl | exact (lkX dE).trans k_.out | exact (lT (vok _ _) dE dE dE dE).trans k_.out)
 (hq0 : Bx (s.rem = [] -> a.rs = a.rp /\ a.rk = a.rc /\ a.rn = 0 /\ a.rall = []) -> s2.rem = [] -> a2.rs = a2.rp /\ a2.rk = a2.rc /\ a2.rn = 0 /\ a2.rall = [] := by intro k_; first | exact k_.out | rfl | exact (lkX dE).trans k_.out | exact (lT (vok _ _) dE dE dE dE).trans k_.out)
 (hq1 : Bx (s.rem ≠ [] -> (∀ g, a.rp = some ⟨g, 0, none⟩ -> a.rs = some ⟨g, 2 * a.rj, none⟩) /\ s.rem = a.rall.drop a.rj /\ a.rall.length = a.rn /\ a.rj < a.rn /\ a.rk = a.rc - a.rj /\ a.bk = .slice a.rp a.rn a.rc) -> s2.rem ≠ [] -> (∀ g, a2.rp = some ⟨g, 0, none⟩ -> a2.rs = some ⟨g, 2 * a2.rj, none⟩) /\ s2.rem = a2.rall.drop a2.rj /\ a2.rall.length = a2.rn /\ a2.rj < a2.rn /\ a2.rk = a2.rc - a2.rj /\ a2.bk = .slice a2.rp a2.rn a2.rc := by intro k_; first | exact k_.out | rfl | exact (lkX dE).trans k_.out | exact (lT (vok _ _) dE dE dE dE).trans k_.out)
 (hS0 : Bx (lkp 0 S = some ⟨.slice a.rp a.rn a.rc, 80, 2, a.rn, bS a.rall⟩) -> lkp 0 S2 = some ⟨.slice a2.rp a2.rn a2.rc, 80, 2, a2.rn, bS a2.rall⟩ := by intro k_; first | exact k_.out | rfl | exact (lkX dE).trans k_.out | exact (lT (vok _ _) dE dE dE dE).trans k_.out)
 (hS2 : Bx (lkp 2 S = some ⟨.slice a.tp s.ts.length a.tc, 80, 2, s.ts.length, bS s.ts⟩) -> lkp 2 S2 = some ⟨.slice a2.tp s2.ts.length a2.tc, 80, 2, s2.ts.length, bS s2.ts⟩ := by intro k_; first | exact k_.out | rfl | exact (lkX dE).trans k_.out | exact (lT (vok _ _) dE dE dE dE).trans k_.out)
 (hS8 : Bx (0 < s.wno.length -> lkp 8 S = some ⟨.slice a.p20 s.wno.length a.c20, 3, 1, s.wno.length, s.wno.map iV⟩) -> 0 < s2.wno.length -> lkp 8 S2 = some ⟨.slice a2.p20 s2.wno.length a2.c20, 3, 1, s2.wno.length, s2.wno.map iV⟩ := by intro k_; first | exact k_.out | rfl | exact (lkX dE).trans k_.out | exact (lT (vok _ _) dE dE dE dE).trans k_.out)
 (hS9 : Bx (0 < s.nwm.length -> lkp 9 S = some ⟨.slice a.p21 s.nwm.length a.c21, 3, 1, s.nwm.length, s.nwm.map iV⟩) -> 0 < s2.nwm.length -> lkp 9 S2 = some ⟨.slice a2.p21 s2.nwm.length a2.c21, 3, 1, s2.nwm.length, s2.nwm.map iV⟩ := by intro k_; first | exact k_.out | rfl | exact (lkX dE).trans k_.out | exact (lT (vok _ _) dE dE dE dE).trans k_.out)
 (hS10 : Bx (0 < s.eas.length -> lkp 10 S = some ⟨.slice a.p22 s.eas.length a.c22, 3, 1, s.eas.length, s.eas.map iV⟩) -> 0 < s2.eas.length -> lkp 10 S2 = some ⟨.slice a2.p22 s2.eas.length a2.c22, 3, 1, s2.eas.length, s2.eas.map iV⟩ := by intro k_; first | exact k_.out | rfl | exact (lkX dE).trans k_.out | exact (lT (vok _ _) dE dE dE dE).trans k_.out)
 (hp20 : Bx (0 < s.wno.length -> ∃ b, a.p20 = some ⟨b, 0, none⟩) -> 0 < s2.wno.length -> ∃ b, a2.p20 = some ⟨b, 0, none⟩ := by intro k_; first | exact k_.out | rfl | exact (lkX dE).trans k_.out | exact (lT (vok _ _) dE dE dE dE).trans k_.out)
 (hp21 : Bx (0 < s.nwm.length -> ∃ b, a.p21 = some ⟨b, 0, none⟩) -> 0 < s2.nwm.length -> ∃ b, a2.p21 = some ⟨b, 0, none⟩ := by intro k_; first | exact k_.out | rfl | exact (lkX dE).trans k_.out | exact (lT (vok _ _) dE dE dE dE).trans k_.out)
 (hp22 : Bx (0 < s.eas.length -> ∃ b, a.p22 = some ⟨b, 0, none⟩) -> 0 < s2.eas.length -> ∃ b, a2.p22 = some ⟨b, 0, none⟩ := by intro k_; first | exact k_.out | rfl | exact (lkX dE).trans k_.out | exact (lT (vok _ _) dE dE dE dE).trans k_.out)
 (c6 : Bx (385 <= a.c6) -> 385 <= a2.c6 := by intro k_; first | exact k_.out | rfl | exact (lkX dE).trans k_.out | exact (lT (vok _ _) dE dE dE dE).trans k_.out)
 (rest : Bx (St F w0 S0 H0 it rb r l s a B H S) -> Bx (Lim 40 B2 H2 S2) -> Bx (∀ k, 11 <= k -> k < 40 -> lkp k S2 = lkp k S02) -> Bx (∀ k, 2 <= k -> k < 40 -> ∀ o, o < 4096 -> lkp (ky k o) H2 = lkp (ky k o) H02) -> Bx (lkp (ky 0 23) H2 = some (.slice a2.tp s2.ts.length a2.tc)) -> Bx (lkp (ky 0 25) H2 = some (iV s2.count)) -> Bx (lkp (ky 0 26) H2 = some (.slice a2.rs s2.rem.length a2.rk)) -> Bx (lkp (ky 0 27) H2 = some (a2.bk)) -> Bx (lkp (ky 0 28) H2 = some (.bool s2.fin)) -> Bx (s2.rem = [] -> a2.rs = a2.rp /\ a2.rk = a2.rc /\ a2.rn = 0 /\ a2.rall = []) -> Bx (s2.rem ≠ [] -> (∀ g, a2.rp = some ⟨g, 0, none⟩ -> a2.rs = some ⟨g, 2 * a2.rj, none⟩) /\ s2.rem = a2.rall.drop a2.rj /\ a2.rall.length = a2.rn /\ a2.rj < a2.rn /\ a2.rk = a2.rc - a2.rj /\ a2.bk = .slice a2.rp a2.rn a2.rc) -> Bx (lkp 0 S2 = some ⟨.slice a2.rp a2.rn a2.rc, 80, 2, a2.rn, bS a2.rall⟩) -> Bx (lkp 2 S2 = some ⟨.slice a2.tp s2.ts.length a2.tc, 80, 2, s2.ts.length, bS s2.ts⟩) -> Bx (0 < s2.wno.length -> lkp 8 S2 = some ⟨.slice a2.p20 s2.wno.length a2.c20, 3, 1, s2.wno.length, s2.wno.map iV⟩) -> Bx (0 < s2.nwm.length -> lkp 9 S2 = some ⟨.slice a2.p21 s2.nwm.length a2.c21, 3, 1, s2.nwm.length, s2.nwm.map iV⟩) -> Bx (0 < s2.eas.length -> lkp 10 S2 = some ⟨.slice a2.p22 s2.eas.length a2.c22, 3, 1, s2.eas.length, s2.eas.map iV⟩) -> Bx (0 < s2.wno.length -> ∃ b, a2.p20 = some ⟨b, 0, none⟩) -> Bx (0 < s2.nwm.length -> ∃ b, a2.p21 = some ⟨b, 0, none⟩) -> Bx (0 < s2.eas.length -> ∃ b, a2.p22 = some ⟨b, 0, none⟩) -> Bx (385 <= a2.c6) -> St F w0 S02 H02 it rb r l s2 a2 B2 H2 S2 := by
  intro k_ g0_ g1_ g2_ g3_ g4_ g5_ g6_ g7_ g8_ g9_ g10_ g11_ g12_ g13_ g14_ g15_ g16_ g17_ g18_
  have q_ := k_.out
  cases q_
  have j0_ := g0_.out
  have j1_ := g1_.out
  have j2_ := g2_.out
  have j3_ := g3_.out
  have j4_ := g4_.out
  have j5_ := g5_.out
  have j6_ := g6_.out
  have j7_ := g7_.out
  have j8_ := g8_.out
  have j9_ := g9_.out
  have j10_ := g10_.out
  have j11_ := g11_.out
  have j12_ := g12_.out
  have j13_ := g13_.out
  have j14_ := g14_.out
  have j15_ := g15_.out
  have j16_ := g16_.out
  have j17_ := g17_.out
  have j18_ := g18_.out
  constructor <;> first | assumption | rfl | exact (eV hV dE dE dE dE).trans rfl | exact SrcI.to (by assumption) aG | exact SrcP.to (by assumption) aG | (refine (lkX dE).trans ?_; assumption) | (refine (lkF hV dE dE dE).trans ?_; assumption) | (refine (lT (vok _ _) dE dE dE dE).trans ?_; assumption) | (refine (aD2 (vok _ _) dE dE).trans ?_; assumption) | (refine (aM dE).trans ?_; assumption))
 : St F w0 S02 H02 it rb r l s2 a2 B2 H2 S2 := rest ⟨st⟩ ⟨lim ⟨st.lim⟩⟩ ⟨frS ⟨st.frS⟩⟩ ⟨frH ⟨st.frH⟩⟩ ⟨h23 ⟨st.h23⟩⟩ ⟨h25 ⟨st.h25⟩⟩ ⟨h26 ⟨st.h26⟩⟩ ⟨h27 ⟨st.h27⟩⟩ ⟨h28 ⟨st.h28⟩⟩ ⟨hq0 ⟨st.hq0⟩⟩ ⟨hq1 ⟨st.hq1⟩⟩ ⟨hS0 ⟨st.hS0⟩⟩ ⟨hS2 ⟨st.hS2⟩⟩ ⟨hS8 ⟨st.hS8⟩⟩ ⟨hS9 ⟨st.hS9⟩⟩ ⟨hS10 ⟨st.hS10⟩⟩ ⟨hp20 ⟨st.hp20⟩⟩ ⟨hp21 ⟨st.hp21⟩⟩ ⟨hp22 ⟨st.hp22⟩⟩ ⟨c6 ⟨st.c6⟩⟩
structure RuOk (r : Ru) : Prop where
 aP2 : 0 <= r.aP2 /\ r.aP2 <= 6
 aPp : 1 <= r.aPp /\ r.aPp <= 1000
 aPq : 0 <= r.aPq /\ r.aPq <= 6
 until0 : ¬ (r.u0 = 0 /\ r.u1 = 0)
 until1 : 0 <= r.u1
 hour : ∀ x ∈ r.hour, 0 <= x /\ x <= 23
 aPr : ∀ x ∈ r.aPr, 0 <= x /\ x <= 59
 aPs : ∀ x ∈ r.aPs, 0 <= x /\ x <= 59
 wnoF : r.aPx.length ≠ 0 -> ∀ y, (r.wnoF y).length = nY y
 nwmF : r.nwd.length ≠ 0 -> ∀ y m, ((r.nwmF y m).length : Int) = 365 + Cal.lp y
 easF : r.aPy.length ≠ 0 -> ∀ y, (r.easF y).length = nY y
 wnoF0 : r.aPx.length = 0 -> ∀ y, r.wnoF y = []
 nwmF0 : r.nwd.length = 0 -> ∀ y m, r.nwmF y m = []
 easF0 : r.aPy.length = 0 -> ∀ y, r.easF y = []
 nwd : 2 <= r.aP2 -> r.nwd.length = 0
structure ItOk (r : Ru) (s : It) : Prop where
 y : 1 <= s.y /\ s.y <= 9999
 ly : s.ly = s.y
 mo : 1 <= s.mo /\ s.mo <= 12
 d : 1 <= s.d /\ s.d <= 31
 day : 2 <= r.aP2 -> s.d <= Cal.mdays s.mo s.y
 wd : 0 <= s.wd /\ s.wd <= 6
 hr : 0 <= s.h /\ s.h <= 23
 mn : 0 <= s.mi /\ s.mi <= 59
 sec : 0 <= s.s /\ s.s <= 59
 ts : ∀ t ∈ s.ts, 0 <= t /\ t < 86400
 tsn : s.ts.length <= 100000
 aP3 : 0 <= s.aP3 /\ s.aP3 <= 1000000000000 + s.rem.length
 count : 0 <= s.count /\ s.count <= 9223372036854775807
 wno : s.wno = r.wnoF s.ly
 nwm : s.nwm = r.nwmF s.ly s.lm
 eas : s.eas = r.easF s.ly
 lm : r.aP2 = 1 -> s.lm = s.mo
 meet : 4 <= r.aP2 -> ∀ b, ∃ K, jL r b s = some K /\ (K : Int) <= dJ r.aP2
section
variable {P : Program} {Q : Exit -> Act -> World -> Prop} {K : Act -> World -> Prop} {N d : Nat} {L : Fr.Loc} {v : Value} {ty : TypeId} {pos : String} {aft : Array Edge}
theorem oQ {f : FuncId} {asl : List Operand} {ats : Array TypeId} {args : List Value} (hd : d < N) (hf : gM P f = true) (ha : Fr.evs L asl = some args)
  (hc : ∀ w, Sees F w0 B H S w -> Calls P f args.toArray w fun e w' => e = .returned v /\ Sees F w0 B H S w') (hn : GK K N ((d, v) :: L) F w0 B H S) : GO P ⟨some d, .call ⟨.value (.func f), asl.toArray, ats⟩, ty, pos, aft, none⟩ Q K N L F w0 B H S :=
 d8 (ι := Unit) (fun _ => v) (fun _ => True) (fun _ => B) (fun _ => H) (fun _ => S) hd hf ha (fun w s => (hc w s).mono fun e w' ⟨he, hs⟩ => ⟨(), trivial, he, hs⟩) (fun _ _ => hn)
theorem aBg (k : Nat) (h : Option Addr -> Nat -> Nat × Value) (q : Option Addr -> Nat -> Slc) {f : FuncId} {asl : List Operand} {ats : Array TypeId} {args : List Value} (hd : d < N) (hf : gM P f = true) (ha : Fr.evs L asl = some args)
  (hc : ∀ w, Sees F w0 B H S w -> Calls P f args.toArray w fun e w' => ∃ p c, e = .returned v /\ Sees F w0 B (h p c :: H) ((k, q p c) :: S) w') (hn : ∀ p c, GK K N ((d, v) :: L) F w0 B (h p c :: H) ((k, q p c) :: S)) : GO P ⟨some d, .call ⟨.value (.func f), asl.toArray, ats⟩, ty, pos, aft, none⟩ Q K N L F w0 B H S :=
 d8 (ι := Option Addr × Nat) (fun _ => v) (fun _ => True) (fun _ => B) (fun x => h x.1 x.2 :: H) (fun x => (k, q x.1 x.2) :: S) hd hf ha (fun w s => (hc w s).mono fun e w' ⟨p, c, he, hs⟩ => ⟨(p, c), trivial, he, hs⟩) (fun x _ => hn x.1 x.2)
end
end
open Go.Md Go.Tab
theorem aM7 (y : Int) : (rgY y).length = 13 := by unfold rgY; split <;> rfl
theorem aJf {y : Int} {j : Nat} (h : j < 13) : (rgY y)[j]? = some ((rgY y).getD j 0) := by
 have hl := aM7 y
 rw [List.getD_eq_getElem?_getD, List.getElem?_eq_getElem oM]; rfl
theorem aNq {y : Int} {j : Nat} (h : j < 12) : 0 <= (rgY y).getD j 0 /\ (rgY y).getD j 0 + 28 <= (rgY y).getD (j + 1) 0 /\ (rgY y).getD (j + 1) 0 <= (rgY y).getD j 0 + 31 /\ (rgY y).getD (j + 1) 0 <= 365 + Cal.lp y := by
 unfold rgY Cal.lp
 split
 .revert j; decide
 .revert j; decide
theorem pX {y : Int} {j : Nat} (h : j <= 12) : (rgY y).getD j 0 = Cal.cum y j := by
 have key : ∀ j : Nat, j <= 12 -> (if Cal.leapB y then ([0, 31, 60, 91, 121, 152, 182, 213, 244, 274, 305, 335, 366] : List Int) else [0, 31, 59, 90, 120, 151, 181, 212, 243, 273, 304, 334, 365]).getD j 0 = Cal.cum y j := by
  intro j hj
  have e : j = 0 \/ j = 1 \/ j = 2 \/ j = 3 \/ j = 4 \/ j = 5 \/ j = 6 \/ j = 7 \/ j = 8 \/ j = 9 \/ j = 10 \/ j = 11 \/ j = 12 := by omega
  rcases e with rfl | rfl | rfl | rfl | rfl | rfl | rfl | rfl | rfl | rfl | rfl | rfl | rfl <;> (simp only [Cal.cum, Cal.mdays, Cal.lp]; cases Cal.leapB y <;> rfl)
 exact key j h
theorem aHd {y m d : Int} (hy : 1 <= y /\ y <= 10000) (hm : 1 <= m /\ m <= 12) (hd : 1 <= d /\ d <= 1000) : 0 <= Cal.dayNo y m d /\ Cal.dayNo y m d <= 5000000 := by
 have h1 := Cal.cum_bd y (m - 1).toNat
 have hq : (m - 1) / 12 = 0 := by omega
 have hr : (m - 1) % 12 = m - 1 := by omega
 unfold Cal.dayNo
 rw [hq, hr, Int.add_zero]
 have hb : 0 <= Cal.daysTo y /\ Cal.daysTo y <= 4000000 := by unfold Cal.daysTo; omega
 omega
theorem tX {y m d : Int} (hm : 1 <= m /\ m <= 12) (hd : 1 <= d /\ d <= Cal.mdays m y) : Cal.dayNo y m d = Cal.daysTo y + (Cal.cum y (m - 1).toNat + d - 1) /\ Cal.yearOf (Cal.dayNo y m d) = y /\ Cal.ydayOf (Cal.dayNo y m d) = Cal.cum y (m - 1).toNat + d - 1 /\ Cal.monthOf (Cal.dayNo y m d) = m /\ Cal.mdayOf (Cal.dayNo y m d) = d := by
 obtain ⟨j, rfl⟩ : ∃ j : Nat, m = (j : Int) + 1 := ⟨(m - 1).toNat, by omega⟩
 have hq : ((j : Int) + 1 - 1) / 12 = 0 := by omega
 have hr : ((j : Int) + 1 - 1) % 12 = j := by omega
 have ht : ((j : Int) + 1 - 1).toNat = j := by omega
 have hs : Cal.cum y (j + 1) = Cal.cum y j + Cal.mdays ((j : Int) + 1) y := rfl
 have e : Cal.dayNo y ((j : Int) + 1) d = Cal.daysTo y + (Cal.cum y j + d - 1) := by
  unfold Cal.dayNo; rw [hq, hr, Int.add_zero, Int.toNat_natCast]; omega
 have u := Cal.date_unique (y := y) (D := Cal.cum y j + d - 1) (j := j) oM oM oM
 rw [ht, e]
 exact ⟨rfl, u.1, u.2.1, u.2.2.1, by rw [u.2.2.2]; omega⟩
theorem qS {y m d : Int} (hm : 1 <= m /\ m <= 12) (hd : 1 <= d /\ d <= Cal.mdays m y) : 0 <= Cal.ydayOf (Cal.dayNo y m d) /\ Cal.ydayOf (Cal.dayNo y m d) < 365 + Cal.lp y := by
 obtain ⟨e1, e2, e3, _⟩ := tX hm hd
 have h1 := Cal.split_spec (Cal.dayNo y m d)
 rw [e2] at h1
 exact ⟨h1.2.1, h1.2.2⟩
theorem aGb {r : Ru} {s : It} (hr : RuOk r) (hk : ItOk r s) : 0 <= (aX r s).1 /\ (aX r s).1 < (aX r s).2 /\ (aX r s).2 <= 372 + Cal.lp s.ly /\ (aX r s).2 <= (aX r s).1 + 366 /\ (r.aP2 < 2 -> (aX r s).2 <= 365 + Cal.lp s.ly) /\ (2 <= r.aP2 -> (aX r s).2 <= (aX r s).1 + 7) := by
 have hlp := Cal.lp_01 s.ly
 have hf := hr.aP2
 unfold aX
 by_cases h0 : r.aP2 = 0
 .rw [if_pos h0]; simp only; omega
 .by_cases h1 : r.aP2 = 1
  .rw [if_neg h0, if_pos h1]
   have hm := hk.mo
   have hb := aNq (y := s.ly) (j := (s.mo - 1).toNat) oM
   rw [show (s.mo - 1).toNat + 1 = s.mo.toNat by omega] at hb
   simp only; omega
  .rw [if_neg h0, if_neg h1]
   have hb := qS hk.mo ⟨hk.d.1, hk.day oM⟩
   rw [hk.ly] at hlp ⊢
   by_cases h2 : r.aP2 = 2
   .simp only [if_pos h2]; omega
   .simp only [if_neg h2]; omega
theorem aK4 {r : Ru} {s : It} (hr : RuOk r) (hk : ItOk r s) : (r.aPx.length ≠ 0 -> (aX r s).2 <= s.wno.length) /\ (s.nwm.length ≠ 0 -> (aX r s).2 <= s.nwm.length) /\ (r.aPy.length ≠ 0 -> (aX r s).2 <= s.eas.length) := by
 obtain ⟨h1, h2, h3, h4, h5, h6⟩ := aGb hr hk
 have hny := hU s.ly
 refine ⟨fun h => ?_, fun h => ?_, fun h => ?_⟩
 .rw [hk.wno, hr.wnoF h]; omega
 .by_cases hn : r.nwd.length = 0
  .rw [hk.nwm, hr.nwmF0 hn] at h; exact absurd rfl h
  .have := hr.nwmF hn s.ly s.lm
   rw [hk.nwm, this]
   refine h5 ?_
   rcases Int.lt_or_le r.aP2 2 with h' | h'
   .exact h'
   .exact absurd (hr.nwd h') hn
 .rw [hk.eas, hr.easF h]; omega
theorem aEj (r : Ru) (o : It) (t : Int) : (gV r o t).aP3 - (gV r o t).rem.length = o.aP3 - o.rem.length := by
 unfold gV
 split
 .rfl
 .split
  .rfl
  .split
   .rfl
   .split <;> (simp only [List.length_append, List.length_singleton]; omega)
theorem pR (r : Ru) : ∀ (l : List Int) (o : It), (dD r o l).aP3 - (dD r o l).rem.length = o.aP3 - o.rem.length
 | [], o => rfl
 | t :: l, o => (pR r l (gV r o t)).trans (aEj r o t)
theorem zI (r : Ru) (o : It) (t : Int) (h : 0 <= o.count /\ o.count <= 9223372036854775807) : 0 <= (gV r o t).count /\ (gV r o t).count <= 9223372036854775807 := by
 unfold gV
 split
 .exact h
 .split
  .exact h
  .split
   .exact h
   .split
    .exact h
    .simp only; omega
theorem mW (r : Ru) : ∀ (l : List Int) (o : It), 0 <= o.count /\ o.count <= 9223372036854775807 -> 0 <= (dD r o l).count /\ (dD r o l).count <= 9223372036854775807
 | [], o, h => h
 | t :: l, o, h => mW r l (gV r o t) (zI r o t h)
theorem pV (r : Ru) (s : It) (a : Int) : ∀ k, (jO r s a k).aP3 - (jO r s a k).rem.length = s.aP3 - s.rem.length
 | 0 => rfl
 | k + 1 => by
  rw [lB]
  unfold kM
  split
  .exact pV r s a k
  .rw [pR]; exact pV r s a k
theorem m8 (r : Ru) (s : It) (a : Int) (h : 0 <= s.count /\ s.count <= 9223372036854775807) : ∀ k, 0 <= (jO r s a k).count /\ (jO r s a k).count <= 9223372036854775807
 | 0 => h
 | k + 1 => by
  rw [lB]
  unfold kM
  split
  .exact m8 r s a h k
  .exact mW r _ _ (m8 r s a h k)
theorem aAi (r : Ru) (s : It) : (out r s).aP3 - (out r s).rem.length = s.aP3 - s.rem.length := by
 unfold out
 split
 .exact pR r _ s
 .exact pV r s _ _
theorem aAq (r : Ru) (s : It) (h : 0 <= s.count /\ s.count <= 9223372036854775807) : 0 <= (out r s).count /\ (out r s).count <= 9223372036854775807 := by
 unfold out
 split
 .exact mW r _ s h
 .exact m8 r s _ h _
theorem dP (r : Ru) (s : It) : Same s (out r s) := by
 unfold out
 split
 .exact mU r _ s
 .exact jB r s _ _
end Go.Proofs.YthomapgobmdicaaGreat
namespace Go.Fr
open Go.RowKit Go.Sort
section
variable {P : Program} {Q : Exit -> Act -> World -> Prop} {K : Act -> World -> Prop} {N : Nat} {L : Loc} {F : Nat -> Prop} {w0 : World} {B : LN} {H : LV} {S : LS}
variable {d : Nat} {ty : TypeId} {pos : String} {aft : Array Edge}
theorem Sees.row_last {w : World} {j : Nat} {q r : Slc} (s : Sees F w0 B H ((j, q) :: (j, r) :: S) w) : Sees F w0 B H ((j, q) :: S) w :=
 s.to (fun _ _ h => h) (fun k o v ho h => ⟨h, by obtain ⟨b, e, _⟩ := s.cells k o v ho h; rw [e]; rfl⟩) (fun k u h => by
  rcases bD h with ⟨rfl, rfl⟩ | ⟨hne, h⟩
  .exact bJ _ _ _
  .rw [aA hne, aA hne]; exact h)
theorem lI (j : Nat) {t : TypeId} {x y : Operand} {b off len cap : Nat} {q : Slc} {u v : Value} (hx : ev L x = some (.pointer (some ⟨b, off, none⟩))) (hy : ev L y = some (.agg #[u, v])) (hr : lkp j S = some q) (hs : q.v = sL b len cap) (hi : off + 1 < q.xs.length) (h1 : u.oneCell' = true) (h2 : v.oneCell' = true)
  (hn : GK K N L F w0 B H ((j, { q with xs := (q.xs.set off u).set (off + 1) v }) :: S)) (ht : (P.info? t).map (·.size) = some 2 := by kernel_rfl) : GO P ⟨none, .store t x y, ty, pos, aft, none⟩ Q K N L F w0 B H S := fun a w k s => by
 have s1 := s.stored j hr hs (off := off) u
 have s2 := s1.stored j (bJ _ _ _) hs (off := off + 1) v
 have ho := s.slcs j q hr
 have hh := tC ho hs
 have ho' : w.ownsRow 0 q.e q.sz (sL b q.n cap) q.n q.xs := by
  rw [<- hh.2.2]; rw [<- hs]; rw [hh.2.2]; exact ho
 have hr' := run_storeVar_mid (P := P) w b off t #[u, v] (fun i hi' => by
  have hi2 : i < 2 := hi'
  have hlt : off + i < q.xs.length := by omega
  exact ⟨by rw [s.aPl (o := off + i) hr hs (List.getElem?_eq_getElem hlt)]; rfl, ho'.frozenAt (off + i)⟩) ht (by simp [h1, h2])
 show Oper.upon _ _ _ _ _ _
 simp only [execOp, k.eval hx, k.eval hy, Instr.storeAt, Instr.sureAddr, Sem.run_bind, hr', Result.andThen_ok, Sem.run_pure]
 exact hn _ _ k s2.row_last
end
section
variable {F : Nat -> Prop} {w0 : World} {B : LN} {H : LV} {S : LS}
theorem mR {n : Int} (h : 0 <= n /\ n < 18446744073709551616) : IntKind.u64.wrap n = n := by
 simp [IntKind.wrap, IntKind.bits, IntKind.signed]; omega
section
variable {P : Program} {N d : Nat} {L : Loc} {v : Value} {ty : TypeId} {pos : String} {aft : Array Edge} {g : Option (Nat × Bool)} {xt yt : TypeId} {x y : Operand} {q qk : IntKind} {m k : Int}
theorem aFi (hx : ev L x = some (.int q m)) (hy : ev L y = some (.int qk k)) (hk : 0 <= k) : Rd P ⟨some d, .binOp .shl xt x y yt, ty, pos, aft, g⟩ N L F w0 B H S (.int q (q.wrap (m * 2 ^ (min k.toNat q.bits)))) := fun a w kk s => by
 have : ¬ k < 0 := by omega
 simp [execOp, eqGuard, binOp, Op.shift, kk.eval hx, kk.eval hy, this]
theorem aM4 (hx : ev L x = some (.int q m)) (hy : ev L y = some (.int qk k)) (hk : 0 <= k) : Rd P ⟨some d, .binOp .shr xt x y yt, ty, pos, aft, g⟩ N L F w0 B H S (.int q (m.fdiv (2 ^ (min k.toNat q.bits)))) := fun a w kk s => by
 have : ¬ k < 0 := by omega
 simp [execOp, eqGuard, binOp, Op.shift, kk.eval hx, kk.eval hy, this]
theorem aEg (hx : ev L x = some (.int q m)) (hy : ev L y = some (.int q k)) : Rd P ⟨some d, .binOp .xor xt x y yt, ty, pos, aft, g⟩ N L F w0 B H S (.int q (q.wrap ((BitVec.ofInt q.bits m ^^^ BitVec.ofInt q.bits k).toNat : Int))) := fun a w kk s => by
 simp [execOp, eqGuard, binOp, Op.intBits, kk.eval hx, kk.eval hy]
theorem aM0 (hx : ev L x = some (.int q m)) (hy : ev L y = some (.int q k)) : Rd P ⟨some d, .binOp .and xt x y yt, ty, pos, aft, g⟩ N L F w0 B H S (.int q (q.wrap ((BitVec.ofInt q.bits m &&& BitVec.ofInt q.bits k).toNat : Int))) := fun a w kk s => by
 simp [execOp, eqGuard, binOp, Op.intBits, kk.eval hx, kk.eval hy]
end
theorem Sees.cell_last {w : World} {j : Nat} {u v : Value} (s : Sees F w0 B ((j, u) :: (j, v) :: H) S w) : Sees F w0 B ((j, u) :: H) S w :=
 s.to (fun _ _ h => h) (fun k o x ho h => by
  have h2 : lkp (ky k o) ((j, u) :: (j, v) :: H) = some x := by
   rcases bD h with ⟨e, rfl⟩ | ⟨hne, h⟩
   .rw [<- e]; exact bJ _ _ _
   .rw [aA hne, aA hne]; exact h
  obtain ⟨b, e, _⟩ := s.cells k o x ho h2
  exact ⟨h2, by rw [e]; rfl⟩) (fun _ _ h => h)
end
def cZ (e b n c : Nat) (d : Array Int) : Slc := ⟨sL b n c, e, 2, n, bS d.toList⟩
theorem yL (ts : List Int) (x : Int) : ∀ i : Nat, ((bS ts).set (2 * i) (iV x)).set (2 * i + 1) (iV 0) = bS (ts.set i x) := by
 induction ts with
 | nil => intro i; rfl
 | cons t ts ih =>
  intro i
  cases i with
  | zero => rfl
  | succ i =>
   show ((iV t :: iV 0 :: bS ts).set (2 * (i + 1)) _).set (2 * (i + 1) + 1) _ = iV t :: iV 0 :: bS (ts.set i x)
   rw [<- ih i]
   rfl
theorem sY {d : Array Int} {i : Nat} (h : i < d.size) : (bS d.toList)[2 * i]? = some (iV d[i]!) /\ (bS d.toList)[2 * i + 1]? = some (iV 0) :=
 mV (by simp [h])
theorem aIa (d : Array Int) {i j : Nat} (hi : i < d.size) (hj : j < d.size) : ((d.toList.set i d[j]!).set j d[i]!) = (swp d i j).toList := by
 unfold swp
 rw [Array.toList_setIfInBounds, Array.toList_setIfInBounds]
theorem aJ8 {d d' : Array Int} (hp : PermIn 0 d.size d d') (hs : SortedIn ltInt 0 d.size d') : d'.toList = d.toList.mergeSort (fun a b => decide (a <= b)) := by
 have h := sorted_unique_holds (lt := ltInt) swo_ltInt (fun x y h1 h2 => by simp [ltInt] at h1 h2; omega) d d' hp hs
 rw [h]
 congr 1
 funext x y
 show (!decide (y < x)) = decide (x <= y)
 by_cases h : y < x
 .rw [decide_eq_true h, decide_eq_false (show ¬ x <= y by omega)]; rfl
 .rw [decide_eq_false h, decide_eq_true (show x <= y by omega)]; rfl
def aLs (P : Program) (t : TypeId) : Bool := match P.underlying t with
 | some (.int _) => true
 | _ => false
def eq2B (P : Program) (t : TypeId) : Bool := !P.eqGuardType P.depth t && !P.stoodInHeld t && (match P.underlying t with | some (.struct _) => true | _ => false) && match (P.fieldsOf t).toList with
 | [f, g] => f.name != "_" && g.name != "_" && f.offset == 0 && g.offset == 1 && aLs P f.type && aLs P g.type
 | _ => false
theorem aId {P : Program} {N : Nat} {L : Loc} {F : Nat -> Prop} {w0 : World} {B : LN} {H : LV} {S : LS} {d : Nat} {ty : TypeId} {pos : String} {aft : Array Edge} {g : Option (Nat × Bool)} {xt yt : TypeId} {x y : Operand} {a b c e : Int}
  (hx : ev L x = some (.agg #[iV a, iV b])) (hy : ev L y = some (.agg #[iV c, iV e])) (ht : eq2B P xt = true := by kernel_rfl) :
  Rd P ⟨some d, .binOp .eql xt x y yt, ty, pos, aft, g⟩ N L F w0 B H S (.bool (a == c && b == e)) := fun act w k s => by
 simp only [eq2B, Bool.and_eq_true, Bool.not_eq_true'] at ht
 obtain ⟨⟨⟨hG, hp⟩, hst⟩, hf⟩ := ht
 have hu : P.underlying xt = some (.struct (P.fieldsOf xt)) := by
  unfold Program.fieldsOf
  cases hq : P.underlying xt with
  | none => simp [hq] at hst
  | some u => cases u <;> simp [hq] at hst ⊢
 split at hf
 .rename_i f1 f2 hfs
  simp only [Bool.and_eq_true, bne_iff_ne, ne_eq, beq_iff_eq] at hf
  obtain ⟨⟨⟨⟨⟨n1, n2⟩, o1⟩, o2⟩, t1⟩, t2⟩ := hf
  have int : ∀ t, aLs P t = true -> ∃ q, P.underlying t = some (.int q) := by
   intro t h
   unfold aLs at h
   split at h
   .exact ⟨_, ‹_›⟩
   .cases h
  obtain ⟨q1, u1⟩ := int _ t1
  obtain ⟨q2, u2⟩ := int _ t2
  have p1 : ∀ (v : Value) (xs : Array Value) (o : Nat) (t : TypeId) (q : IntKind), P.underlying t = some (.int q) -> xs[o]? = some v -> (Go.part t xs o).run P w = .ok v w := by
   intro v xs o t q hq hv
   simp [Go.part, isAgg, run_underlying hq, hv]
  have hE : (Op.equalIn 10000 xt (.agg #[iV a, iV b]) (.agg #[iV c, iV e])).run P w = .ok (a == c && b == e) w := by
   rw [show (10000 : Nat) = 9999 + 1 from rfl, run_equalIn_struct w 9999 xt _ _ hu hp, hfs]
   have a1 := p1 _ _ 0 _ _ u1 (show #[iV a, iV b][0]? = some (iV a) from rfl)
   have a2 := p1 _ _ 0 _ _ u1 (show #[iV c, iV e][0]? = some (iV c) from rfl)
   have a3 := p1 _ _ 1 _ _ u2 (show #[iV a, iV b][1]? = some (iV b) from rfl)
   have a4 := p1 _ _ 1 _ _ u2 (show #[iV c, iV e][1]? = some (iV e) from rfl)
   have b1 := fun m n => run_equalIn_int (P := P) w 9998 f1.type .i64 q1 m n u1
   have b2 := fun m n => run_equalIn_int (P := P) w 9998 f2.type .i64 q2 m n u2
   simp only [Op.eqFields, ne_eq, n1, n2, not_false_eq_true, if_true, o1, o2, Sem.run_bind, a1, a2, b1, Result.andThen_ok]
   cases a == c
   .rfl
   .simp only [Bool.not_true, Bool.false_eq_true, if_false, Sem.run_bind, a3, a4, b2, Result.andThen_ok, Bool.true_and]
    cases b == e <;> rfl
  simp only [execOp, k.eval hx, k.eval hy, Sem.run_bind, run_eqGuard_agg w .eql xt x y _ _ hG, Result.andThen_ok, run_eql_struct, hE, Sem.run_pure]
 .cases hf
end Go.Fr
namespace Go.Proofs.YthomapgobmdicaaGreat
open Go.RowKit Go.Fr Go.Tab
section
variable {F : Nat -> Prop} {w0 : World} {B : LN} {H : LV} {S : LS}
open Go.Sort
theorem aFh {t b n c : Nat} {d : Array Int} (hd : d.size = n) {i j : Int} (p q : Nat) (hi : i = p) (hj : j = q) (hp : p < n) (hq : q < n) (w : World) (s : Sees F w0 B H ((t, cZ 80 b n c d) :: S) w) : CB 184 #[sL b n c, iV i, iV j] w (.bool (ltInt d[p]! d[q]!)) := by
 subst hi hj
 obtain ⟨gp1, gp2⟩ := sY (d := d) (i := p) oM
 obtain ⟨gq1, gq2⟩ := sY (d := d) (i := q) oM
 have kp1 := s.aPl (k := t) (o := 2 * p) (bJ _ _ _) rfl gp1
 have kp2 := s.aPl (k := t) (o := 2 * p + 1) (bJ _ _ _) rfl gp2
 have kq1 := s.aPl (k := t) (o := 2 * q) (bJ _ _ _) rfl gq1
 have kq2 := s.aPl (k := t) (o := 2 * q + 1) (bJ _ _ _) rfl gq2
 refine aF (args := [sL b n c, iV p, iV q]) (L := [(0, sL b n c), (1, iV p), (2, iV q)]) (N := 16) Tryz.func184 rfl rfl ble rfl (sS w) (g6 ?_)
 refine dH 8 kR kR (g2 ?_)
 refine rt (aC (e := 80) (n := 2) kR rfl rfl oM oM) (rt (iK rfl (by rw [<- kp1]; congr 2; omega) (by rw [<- kp2]; congr 2; omega) (fun h => h) kR) (g2 ?_))
 refine rt (aC (e := 80) (n := 2) kR rfl rfl oM oM) (rt (iK rfl (by rw [<- kq1]; congr 2; omega) (by rw [<- kq2]; congr 2; omega) (fun h => h) kR) (g1 ?_))
 refine gL (cvo (v := .bool (ltInt d[p]! d[q]!)) rfl (fun w_ s_ => (mF _ _ _ _ w_).mT (cRr (cB (decide_eq_decide.2 oM)))) (g4 ?_))
 exact aT (.inl rfl) rfl (aE rfl) fun w_ s_ => ⟨rfl, s_.aPg⟩
theorem aFe {t b n c : Nat} {d : Array Int} (hd : d.size = n) {i j : Int} (p q : Nat) (hi : i = p) (hj : j = q) (hp : p < n) (hq : q < n) : ∀ w, Sees F w0 B H ((t, cZ 80 b n c d) :: S) w -> Calls Tryz.prog 185 #[sL b n c, iV i, iV j] w fun e w' => e = .returned (.tuple #[]) /\ Sees F w0 B H ((t, cZ 80 b n c (swp d p q)) :: S) w' := by
 subst hi hj
 obtain ⟨gp1, gp2⟩ := sY (d := d) (i := p) oM
 obtain ⟨gq1, gq2⟩ := sY (d := d) (i := q) oM
 have hlen : (bS d.toList).length = 2 * n := by rw [aFl]; simp [hd]
 have e1 : ((bS d.toList).set (0 + p * 2) (iV d[q]!)).set (0 + p * 2 + 1) (iV 0) = bS (d.toList.set p d[q]!) := by
  rw [show 0 + p * 2 = 2 * p by omega]; exact yL _ _ _
 have e2 : ((bS (d.toList.set p d[q]!)).set (0 + q * 2) (iV d[p]!)).set (0 + q * 2 + 1) (iV 0) = bS (swp d p q).toList := by
  rw [show 0 + q * 2 = 2 * q by omega, yL, aIa _ oM oM]
 have hblind : Blind (bodyPost Tryz.prog Tryz.f185 fun e w' => e = .returned (.tuple #[]) /\ Sees F w0 B H ((t, cZ 80 b n c (swp d p q)) :: S) w') := Blind.body
 intro w s_
 refine aF (args := [sL b n c, iV p, iV q]) (L := [(0, sL b n c), (1, iV p), (2, iV q)]) (N := 20) Tryz.func185 rfl rfl ble rfl s_ (jY (fun i => false) kR (gr 0 rfl (bC rfl) (gr 1 rfl (bC rfl) (gr 2 rfl (bC rfl) ?_))))
 refine gr 3 rfl (bC rfl) (gr 4 rfl (bC rfl) (gr 5 rfl (bC rfl) (gr 6 rfl (aC (e := 80) (n := 2) kR rfl rfl oM oM) (gr 8 rfl (bC rfl) ?_))))
 refine gr 9 rfl (bC rfl) (gr 10 rfl (aC (e := 80) (n := 2) kR rfl rfl oM oM) (l6 (i := 7) (j := 11) rfl rfl rfl rfl kR rfl rfl ?_ ?_))
 .refine gI dE (fO t rfl (bJ _ _ _) rfl (by rw [<- gq1]; congr 1; omega) (by rw [<- gq2]; congr 1; omega) kR) (gk ?_)
  refine gn 11 rfl (gI dE (fO t rfl (bJ _ _ _) rfl (by rw [<- gp1]; congr 1; omega) (by rw [<- gp2]; congr 1; omega) kR) (gk (gn 12 rfl (gI dE (aC (e := 80) (n := 2) kR rfl rfl oM oM) (gk (gn 13 rfl (lI t rfl rfl (bJ _ _ _) rfl (by simp only [cZ, hlen]; omega) rfl rfl (gk (gn 14 rfl (gI dE (aC (e := 80) (n := 2) kR rfl rfl oM oM) (gk (gn 15 rfl (lI t rfl rfl (bJ _ _ _) rfl (by simp only [cZ, List.length_set, hlen]; omega) rfl rfl (gk ?_))))))))))))))
  refine fM kR ?_
  refine fI (.inr rfl) rfl fun w_ s_ => ⟨rfl, ?_⟩
  have s2 := s_.row_last
  simp only [cZ, Int.toNat_natCast] at s2
  rw [e1, e2] at s2
  exact s2.row_last
 .refine gI dE (fO t rfl (bJ _ _ _) rfl (by rw [<- gp1]; congr 1; omega) (by rw [<- gp2]; congr 1; omega) kR) (gk ?_)
  refine gn 7 rfl (gI dE (fO t rfl (bJ _ _ _) rfl (by rw [<- gq1]; congr 1; omega) (by rw [<- gq2]; congr 1; omega) kR) (gk (gn 12 rfl (gI dE (aC (e := 80) (n := 2) kR rfl rfl oM oM) (gk (gn 13 rfl (lI t rfl rfl (bJ _ _ _) rfl (by simp only [cZ, hlen]; omega) rfl rfl (gk (gn 14 rfl (gI dE (aC (e := 80) (n := 2) kR rfl rfl oM oM) (gk (gn 15 rfl (lI t rfl rfl (bJ _ _ _) rfl (by simp only [cZ, List.length_set, hlen]; omega) rfl rfl (gk ?_))))))))))))))
  refine fM kR ?_
  refine fI (.inr rfl) rfl fun w_ s_ => ⟨rfl, ?_⟩
  have s2 := s_.row_last
  simp only [cZ, Int.toNat_natCast] at s2
  rw [e1, e2] at s2
  exact s2.row_last
section
variable {P : Program} {Q : Exit -> Act -> World -> Prop} {K : Act -> World -> Prop} {N dd : Nat} {L : Fr.Loc} {v : Value} {ty : TypeId} {pos : String} {aft : Array Edge}
theorem i7 {x : Operand} {asl : List Operand} {ats : Array TypeId} {t b n c : Nat} {d : Array Int} {i j : Int} (p q : Nat) (hx : ev L x = some (nI b n c)) (ha : Fr.evs L asl = some [iV i, iV j]) (hd : d.size = n) (hi : i = p) (hj : j = q) (hp : p < n) (hq : q < n)
  (hn : GK K N ((dd, .bool (ltInt d[p]! d[q]!)) :: L) F w0 B H ((t, cZ 80 b n c d) :: S)) (hdd : dd < N := by decide) : GO Tryz.prog ⟨some dd, .call ⟨.invoke x "Less", asl.toArray, ats⟩, ty, pos, aft, none⟩ Q K N L F w0 B H ((t, cZ 80 b n c d) :: S) :=
 vS (f := 184) hdd hx kW kR ha (fun w_ s_ => aFh hd p q hi hj hp hq w_ s_) hn
theorem iO {x : Operand} {asl : List Operand} {ats : Array TypeId} {t b n c : Nat} {d : Array Int} {i j : Int} (p q : Nat) (hx : ev L x = some (nI b n c)) (ha : Fr.evs L asl = some [iV i, iV j]) (hd : d.size = n) (hi : i = p) (hj : j = q) (hp : p < n) (hq : q < n)
  (hn : GK K N ((dd, .tuple #[]) :: L) F w0 B H ((t, cZ 80 b n c (swp d p q)) :: S)) (hdd : dd < N := by decide) : GO Tryz.prog ⟨some dd, .call ⟨.invoke x "Swap", asl.toArray, ats⟩, ty, pos, aft, none⟩ Q K N L F w0 B H ((t, cZ 80 b n c d) :: S) :=
 z7 (ι := Unit) (f := 185) (fun _ => .tuple #[]) (fun _ => True) (fun _ => B) (fun _ => H) (fun _ => ((t, cZ 80 b n c (swp d p q)) :: S)) hdd hx kW kR ha (fun w_ s_ => (aFe hd p q hi hj hp hq w_ s_).mono fun e w' ⟨he, hs⟩ => ⟨(), trivial, he, hs⟩) (fun _ _ => hn)
theorem jC {f : FuncId} {asl : List Operand} {ats : Array TypeId} {args : List Value} (v : Value) {B' : LN} {H' : LV} {S' : LS} (ha : Fr.evs L asl = some args) (hc : ∀ w, Sees F w0 B H S w -> Calls P f args.toArray w fun e w' => e = .returned v /\ Sees F w0 B' H' S' w')
  (hn : GK K N ((dd, v) :: L) F w0 B' H' S') (hdd : dd < N := by decide) (hf : gM P f = true := by kernel_rfl) : GO P ⟨some dd, .call ⟨.value (.func f), asl.toArray, ats⟩, ty, pos, aft, none⟩ Q K N L F w0 B H S :=
 d8 (ι := Unit) (fun _ => v) (fun _ => True) (fun _ => B') (fun _ => H') (fun _ => S') hdd hf ha (fun w s => (hc w s).mono fun e w' ⟨he, hs⟩ => ⟨(), trivial, he, hs⟩) (fun _ _ => hn)
theorem mZ {ι : Type} {f : FuncId} {asl : List Operand} {ats : Array TypeId} {args : List Value} (V : ι -> Value) (Pr : ι -> Prop) (Sx : ι -> LS) (ha : Fr.evs L asl = some args) (hc : ∀ w, Sees F w0 B H S w -> Calls P f args.toArray w fun e w' => ∃ x, Pr x /\ e = .returned (V x) /\ Sees F w0 B H (Sx x) w')
  (hn : ∀ x, Pr x -> GK K N ((dd, V x) :: L) F w0 B H (Sx x)) (hdd : dd < N := by decide) (hf : gM P f = true := by kernel_rfl) : GO P ⟨some dd, .call ⟨.value (.func f), asl.toArray, ats⟩, ty, pos, aft, none⟩ Q K N L F w0 B H S :=
 d8 V Pr (fun _ => B) (fun _ => H) Sx hdd hf ha hc hn
end
theorem aCk (a j : Nat) (d : Array Int) (hj : a < j) (hl : ltInt d[j]! d[j - 1]! = true) : insInner ltInt a j d = insInner ltInt a (j - 1) (swp d j (j - 1)) := by
 obtain ⟨k, rfl⟩ : ∃ k, j = k + 1 := ⟨j - 1, by omega⟩
 rw [Nat.add_sub_cancel] at hl ⊢
 conv => lhs; unfold insInner
 rw [if_pos (by rw [decide_eq_true hj, hl]; rfl)]
theorem rS (a j : Nat) (d : Array Int) (h : j <= a \/ ltInt d[j]! d[j - 1]! = false) : insInner ltInt a j d = d := by
 cases j with
 | zero => rfl
 | succ j =>
  rw [Nat.add_sub_cancel] at h
  unfold insInner
  rw [if_neg]
  intro hh
  rw [Bool.and_eq_true, decide_eq_true_eq] at hh
  rcases h with h | h
  .omega
  .rw [h] at hh; exact absurd hh.2 dE
theorem vK (a b i : Nat) (d : Array Int) (h : i < b) : insOuter ltInt a b i d = insOuter ltInt a b (i + 1) (insInner ltInt a i d) := by rw [insOuter, if_pos h]
theorem zO (a b i : Nat) (d : Array Int) (h : ¬ i < b) : insOuter ltInt a b i d = d := by rw [insOuter, if_neg h]
theorem vX {t b n c : Nat} {d : Array Int} (hd : d.size = n) (hn : n <= 1000000000) (a e : Nat) (ha : a <= n) (he : e <= n) : ∀ w, Sees F w0 B H ((t, cZ 80 b n c d) :: S) w -> Calls Tryz.prog 136 #[nI b n c, iV a, iV e] w fun e_ w' => e_ = .returned (.tuple #[]) /\ Sees F w0 B H ((t, cZ 80 b n c (insertionSort ltInt d a e)) :: S) w' := by
 intro w s
 refine aF (args := [nI b n c, iV a, iV e]) (L := [(0, nI b n c), (1, iV a), (2, iV e)]) (N := 33) Tryz.func136 rfl rfl ble rfl s (g8 ?_)
 refine aY (ι := (Nat) × (Array Int)) (fun | ⟨i, dk⟩ => e - i) (fun | ⟨i, dk⟩ => (a < i) /\ (dk.size = n) /\ (insOuter ltInt a e i dk = insOuter ltInt a e (a + 1) d)) (fun | ⟨i, dk⟩ => [(0, nI b n c), (1, iV a), (2, iV e), (6, iV i)]) (fun _ => B) (fun _ => H) (fun | ⟨i, dk⟩ => ((t, cZ 80 b n c dk) :: S)) ⟨a + 1, d⟩ ⟨by omega, hd, rfl⟩ kno (fun w s => by exact s) ?_
 rintro ⟨i, dk⟩ ⟨hi, hds, hO⟩
 refine dS ?_
 refine g8 ?_
 refine aB rfl (fun hc1 => ?_) (fun hc2 => ?_)
 .have hlt : i < e := by have := oT hc1; omega
  refine g11 ?_
  refine aY (ι := (Nat) × (Array Int)) (fun | ⟨j, dj⟩ => j) (fun | ⟨j, dj⟩ => (a <= j) /\ (j <= i) /\ (dj.size = n) /\ (insInner ltInt a j dj = insInner ltInt a i dk)) (fun | ⟨j, dj⟩ => [(0, nI b n c), (1, iV a), (2, iV e), (6, iV i), (7, iV j)]) (fun _ => B) (fun _ => H) (fun | ⟨j, dj⟩ => ((t, cZ 80 b n c dj) :: S)) ⟨i, dk⟩ ⟨by omega, Nat.le_refl _, hds, rfl⟩ kns (fun w s => by exact s) ?_
  rintro ⟨j, dj⟩ ⟨haj, hji, hsj, hI⟩
  refine dS ?_
  refine g2 ?_
  by_cases hja : a < j
  .refine g3 ?_
   refine rl ((bU rfl rfl).to bT) (g10 ?_)
   refine gL (i7 (j) (j - 1) rfl rfl hsj oM oM oM oM (g3 ?_))
   refine aB rfl (fun hc1 => ?_) (fun hc2 => ?_)
   .have hl : ltInt dj[j]! dj[j - 1]! = true := hc1
    refine g9 ?_
    refine gL (iO (j) (j - 1) rfl rfl hsj oM oM oM oM (g8 ?_))
    refine aN ⟨j - 1, swp dj j (j - 1)⟩ sO ⟨by omega, by omega, by rw [size_swp]; exact hsj, by rw [<- hI]; exact (aCk a j dj hja hl).symm⟩ kno (fun w s => by exact s)
   .have hl : ltInt dj[j]! dj[j - 1]! = false := hc2
    have hO2 : insOuter ltInt a e (i + 1) dj = insOuter ltInt a e (a + 1) d := by rw [<- hO, vK a e i dk hlt, <- hI, rS a j dj (.inr hl)]
    refine g11 ?_
    refine aN ⟨i + 1, dj⟩ sO ⟨by omega, hsj, hO2⟩ kno (fun w s => by exact s)
  .refine g3 ?_
   refine rl ((bU rfl rfl).to bF) (g9 ?_)
   have hO2 : insOuter ltInt a e (i + 1) dj = insOuter ltInt a e (a + 1) d := by rw [<- hO, vK a e i dk hlt, <- hI, rS a j dj (.inl oM)]
   refine l5 ?_
   refine aN ⟨i + 1, dj⟩ sO ⟨by omega, hsj, hO2⟩ kno (fun w s => by exact s)
 .have hge : ¬ i < e := by have := oF hc2; omega
  refine g4 ?_
  refine fI (.inr rfl) rfl fun w_ s_ => ⟨rfl, ?_⟩
  rw [show insertionSort ltInt d a e = dk by unfold insertionSort; rw [<- hO, zO a e i dk hge]]
  exact s_
open Go.Sort
theorem zB {t b n c : Nat} {d : Array Int} (hd : d.size = n) (hn : n <= 1000000000) (a e : Nat) (ha : a <= e) (he : e <= n) : ∀ w, Sees F w0 B H ((t, cZ 80 b n c d) :: S) w -> Calls Tryz.prog 140 #[nI b n c, iV a, iV e] w fun e_ w' => e_ = .returned (.tuple #[]) /\ Sees F w0 B H ((t, cZ 80 b n c (reverseRange d a e)) :: S) w' := by
 intro w s
 refine aF (args := [nI b n c, iV a, iV e]) (L := [(0, nI b n c), (1, iV a), (2, iV e)]) (N := 22) Tryz.func140 rfl rfl ble rfl s (g14 ?_)
 refine aY (ι := (Nat) × (Int) × (Nat) × (Array Int)) (fun | ⟨i, z, j, dk⟩ => j - i) (fun | ⟨i, z, j, dk⟩ => (z = j \/ (z = -1 /\ j = 0)) /\ (j <= e - 1) /\ (i <= 1000000000) /\ (dk.size = n) /\ (reverseLoop i j dk = reverseLoop a (e - 1) d)) (fun | ⟨i, z, j, dk⟩ => [(0, nI b n c), (6, iV i), (7, iV z)]) (fun _ => B) (fun _ => H) (fun | ⟨i, z, j, dk⟩ => ((t, cZ 80 b n c dk) :: S)) ⟨a, (e : Int) - 1, e - 1, d⟩ ⟨by omega, Nat.le_refl _, by omega, hd, rfl⟩ kno (fun w s => by exact s) ?_
 rintro ⟨i, z, j, dk⟩ ⟨hz, hj, hi, hds, hO⟩
 refine dS ?_
 refine g8 ?_
 refine aB rfl (fun hc1 => ?_) (fun hc2 => ?_)
 .have hlt : i < j := by have := oT hc1; omega
  refine g8 ?_
  refine gL (iO (i) (j) rfl rfl hds oM oM oM oM (g15 ?_))
  refine aN ⟨i + 1, z - 1, j - 1, swp dk i j⟩ sO ⟨by omega, by omega, by omega, by rw [size_swp]; exact hds, by rw [<- hO]; conv => rhs; rw [reverseLoop, if_pos hlt]⟩ kno (fun w s => by exact s)
 .have hge : ¬ i < j := by have := oF hc2; omega
  refine g4 ?_
  refine fI (.inr rfl) rfl fun w_ s_ => ⟨rfl, ?_⟩
  rw [show reverseRange d a e = dk by unfold reverseRange; rw [<- hO, reverseLoop, if_neg hge]]
  exact s_
theorem aFs {hi f r ch : Nat} {d : Array Int} (h : ¬ hi <= 2 * r + 1) (hch : (ch = 2 * r + 1 /\ (decide (2 * r + 1 + 1 < hi) && ltInt d[f + (2 * r + 1)]! d[f + (2 * r + 1) + 1]!) = false) \/ (ch = 2 * r + 2 /\ 2 * r + 2 < hi /\ (decide (2 * r + 1 + 1 < hi) && ltInt d[f + (2 * r + 1)]! d[f + (2 * r + 1) + 1]!) = true)) :
  siftDown ltInt hi f r d = if ltInt d[f + r]! d[f + ch]! = false then d else siftDown ltInt hi f ch (swp d (f + r) (f + ch)) := by
 conv => lhs; rw [siftDown]
 rw [dif_neg h]
 rcases hch with ⟨rfl, h2⟩ | ⟨rfl, h3, h2⟩
 .rw [if_neg (by rw [h2]; decide)]
  cases ltInt d[f + r]! d[f + (2 * r + 1)]! <;> rfl
 .rw [if_pos h2]
  cases ltInt d[f + r]! d[f + (2 * r + 2)]!
  .rfl
  .simp only [Bool.not_true, Bool.false_eq_true, if_false, dif_pos h3]; rfl
theorem xG {t b n c : Nat} {d : Array Int} (hd : d.size = n) (hn : n <= 1000000000) (lo hi f : Nat) (hf : f + hi <= n) (hlo : lo <= n) : ∀ w, Sees F w0 B H ((t, cZ 80 b n c d) :: S) w -> Calls Tryz.prog 147 #[nI b n c, iV lo, iV hi, iV f] w fun e_ w' => e_ = .returned (.tuple #[]) /\ Sees F w0 B H ((t, cZ 80 b n c (siftDown ltInt hi f lo d)) :: S) w' := by
 intro w s
 refine aF (args := [nI b n c, iV lo, iV hi, iV f]) (L := [(0, nI b n c), (1, iV lo), (2, iV hi), (3, iV f)]) (N := 52) Tryz.func147 rfl rfl ble rfl s (g7 ?_)
 refine aY (ι := (Nat) × (Array Int)) (fun | ⟨r, dk⟩ => n - r) (fun | ⟨r, dk⟩ => (r <= n) /\ (dk.size = n) /\ (siftDown ltInt hi f r dk = siftDown ltInt hi f lo d)) (fun | ⟨r, dk⟩ => [(0, nI b n c), (2, iV hi), (3, iV f), (8, iV r)]) (fun _ => B) (fun _ => H) (fun | ⟨r, dk⟩ => ((t, cZ 80 b n c dk) :: S)) ⟨lo, d⟩ ⟨hlo, hd, rfl⟩ kno (fun w s => by exact s) ?_
 rintro ⟨r, dk⟩ ⟨hr, hds, hO⟩
 refine dS ?_
 refine g16 ?_
 refine g1 ?_
 refine aB rfl (fun hc1 => ?_) (fun hc2 => ?_)
 .have hge : hi <= 2 * r + 1 := by have := oT hc1; omega
  refine g5 ?_
  refine fI (.inr rfl) rfl fun w_ s_ => ⟨rfl, ?_⟩
  rw [<- hO]
  conv => arg 5; arg 1; arg 2; arg 5; rw [siftDown, dif_pos hge]
  exact s_
 .have hlt : ¬ hi <= 2 * r + 1 := by have := oF hc2; omega
  refine g2 ?_
  refine cO (ι := (Nat)) (fun ch => ((ch = 2 * r + 1 /\ (decide (2 * r + 1 + 1 < hi) && ltInt dk[f + (2 * r + 1)]! dk[f + (2 * r + 1) + 1]!) = false) \/ (ch = 2 * r + 2 /\ 2 * r + 2 < hi /\ (decide (2 * r + 1 + 1 < hi) && ltInt dk[f + (2 * r + 1)]! dk[f + (2 * r + 1) + 1]!) = true))) (fun ch => [(0, nI b n c), (2, iV hi), (3, iV f), (8, iV r), (9, iV ch)]) (fun ch => B) (fun ch => H) (fun ch => ((t, cZ 80 b n c dk) :: S)) ?_ ?_
  .refine g1 ?_
   by_cases hin : 2 * r + 2 < hi
   .refine g4 ?_
    refine rl ((cR rfl rfl).to bT) (g18 ?_)
    refine gL (i7 (f + (2 * r + 1)) (f + (2 * r + 1) + 1) rfl rfl hds oM oM oM oM (g3 ?_))
    refine aB rfl (fun hc1 => ?_) (fun hc2 => ?_)
    .have hl1 : ltInt dk[f + (2 * r + 1)]! dk[f + (2 * r + 1) + 1]! = true := hc1
     refine g5 ?_
     refine aK (ι := Nat) (2 * r + 2) (.inr ⟨rfl, hin, by rw [decide_eq_true hin, hl1]; rfl⟩) kno (fun w s => s)
    .have hl1 : ltInt dk[f + (2 * r + 1)]! dk[f + (2 * r + 1) + 1]! = false := hc2
     refine g1 ?_
     refine aK (ι := Nat) (2 * r + 1) (.inl ⟨rfl, by rw [decide_eq_true hin, hl1]; rfl⟩) kno (fun w s => s)
   .refine g4 ?_
    refine wA ((cR rfl rfl).to bF) ?_
    refine aK (ι := Nat) (2 * r + 1) (.inl ⟨rfl, by rw [decide_eq_false hin]; rfl⟩) kno (fun w s => s)
  rintro ch hch
  refine dS ?_
  refine g10 ?_
  refine gL (i7 (f + r) (f + ch) rfl rfl hds oM oM oM oM (g3 ?_))
  refine aB rfl (fun hc1 => ?_) (fun hc2 => ?_)
  .have hl : ltInt dk[f + r]! dk[f + ch]! = false := by rw [Bool.not_eq_true'] at hc1; exact hc1
   refine g5 ?_
   refine fI (.inl rfl) rfl fun w_ s_ => ⟨rfl, ?_⟩
   rw [<- hO, aFs hlt hch, if_pos hl]
   exact s_
  .have hl : ltInt dk[f + r]! dk[f + ch]! = true := by rw [Bool.not_eq_false'] at hc2; exact hc2
   refine g11 ?_
   refine gL (iO (f + r) (f + ch) rfl rfl hds oM oM oM oM (g7 ?_))
   refine aN ⟨ch, swp dk (f + r) (f + ch)⟩ sO ⟨by omega, by rw [size_swp]; exact hds, by rw [<- hO, aFs hlt hch, if_neg (by rw [hl]; decide)]⟩ kno (fun w s => by exact s)
theorem aHm (hi f : Nat) : ∀ (r : Nat) (x : Array Int), (siftDown ltInt hi f r x).size = x.size := by
 have key : ∀ (m r : Nat) (x : Array Int), hi - r <= m -> (siftDown ltInt hi f r x).size = x.size := by
  intro m
  induction m with
  | zero => intro r x hm; rw [siftDown, dif_pos oM]
  | succ m ih =>
   intro r x hm
   rw [siftDown]
   split
   .rfl
   .split
    .split
     .rfl
     .split
      .rw [ih _ _ oM, size_swp]
      .rfl
    .split
     .rfl
     .rw [ih _ _ oM, size_swp]
 exact fun r x => key _ r x (Nat.le_refl _)
theorem aEq {t b n c : Nat} {d : Array Int} (hd : d.size = n) (hn : n <= 1000000000) (a e : Nat) (ha : a < e) (he : e <= n) : ∀ w, Sees F w0 B H ((t, cZ 80 b n c d) :: S) w -> Calls Tryz.prog 137 #[nI b n c, iV a, iV e] w fun e_ w' => e_ = .returned (.tuple #[]) /\ Sees F w0 B H ((t, cZ 80 b n c (heapSort ltInt d a e)) :: S) w' := by
 intro w s
 have hsz : ∀ (hi f r : Nat) (x : Array Int), (siftDown ltInt hi f r x).size = x.size := aHm
 refine aF (args := [nI b n c, iV a, iV e]) (L := [(0, nI b n c), (1, iV a), (2, iV e)]) (N := 44) Tryz.func137 rfl rfl ble rfl s (g25 ?_)
 refine g4 ?_
 refine aY (ι := (Nat) × (Array Int)) (fun | ⟨k, dk⟩ => k) (fun | ⟨k, dk⟩ => (k <= (e - a - 1) / 2 + 1) /\ (dk.size = n) /\ (heapBuild ltInt (e - a) a k dk = heapBuild ltInt (e - a) a ((e - a - 1) / 2 + 1) d)) (fun | ⟨k, dk⟩ => [(0, nI b n c), (6, iV a), (7, iV 0), (8, iV (((e - a : Nat) : Int))), (9, iV ((k : Int) - 1))]) (fun _ => B) (fun _ => H) (fun | ⟨k, dk⟩ => ((t, cZ 80 b n c dk) :: S)) ⟨(e - a - 1) / 2 + 1, d⟩ ⟨Nat.le_refl _, hd, rfl⟩ kno (fun w s => by exact s) ?_
 rintro ⟨k, dk⟩ ⟨hk, hds, hO⟩
 refine dS ?_
 refine g7 ?_
 refine aB rfl (fun hc1 => ?_) (fun hc2 => ?_)
 .have hk1 : 1 <= k := by have := oT hc1; omega
  obtain ⟨k, rfl⟩ : ∃ m, k = m + 1 := ⟨k - 1, by omega⟩
  have e1 : ((k + 1 : Nat) : Int) - 1 = (k : Int) := by omega
  rw [e1]
  refine g9 ?_
  refine gL (jC (.tuple #[]) (S' := ((t, cZ 80 b n c (siftDown ltInt (e - a) a k dk)) :: S)) rfl (fun w_ s_ => xG hds hn k (e - a) a oM oM w_ s_) (g8 ?_))
  refine aN ⟨k, siftDown ltInt (e - a) a k dk⟩ sO ⟨by omega, by rw [hsz]; exact hds, hO⟩ kno (fun w s => by exact s)
 .obtain rfl : k = 0 := by have := oF hc2; omega
  have hO : dk = heapBuild ltInt (e - a) a ((e - a - 1) / 2 + 1) d := hO
  refine g13 ?_
  refine aY (ι := (Nat) × (Array Int)) (fun | ⟨k, dj⟩ => k) (fun | ⟨k, dj⟩ => (k <= e - a) /\ (dj.size = n) /\ (heapPop ltInt a k dj = heapSort ltInt d a e)) (fun | ⟨k, dj⟩ => [(0, nI b n c), (6, iV a), (7, iV 0), (8, iV (((e - a : Nat) : Int))), (10, iV ((k : Int) - 1))]) (fun _ => B) (fun _ => H) (fun | ⟨k, dj⟩ => ((t, cZ 80 b n c dj) :: S)) ⟨e - a, dk⟩ ⟨Nat.le_refl _, hds, by unfold heapSort; rw [<- hO]⟩ kno (fun w s => by exact s) ?_
  rintro ⟨k, dj⟩ ⟨hk, hds2, hO2⟩
  refine dS ?_
  refine g7 ?_
  refine aB rfl (fun hc1 => ?_) (fun hc2 => ?_)
  .have hk1 : 1 <= k := by have := oT hc1; omega
   obtain ⟨k, rfl⟩ : ∃ m, k = m + 1 := ⟨k - 1, by omega⟩
   have e1 : ((k + 1 : Nat) : Int) - 1 = (k : Int) := by omega
   rw [e1]
   refine g11 ?_
   refine gL (iO (a) (a + k) rfl rfl hds2 oM oM oM oM (g7 ?_))
   refine gL (jC (.tuple #[]) (S' := ((t, cZ 80 b n c (siftDown ltInt k a 0 (swp dj a (a + k)))) :: S)) rfl (fun w_ s_ => xG (d := swp dj a (a + k)) (by rw [size_swp]; exact hds2) hn 0 k a oM oM w_ s_) (g8 ?_))
   refine aN ⟨k, siftDown ltInt k a 0 (swp dj a (a + k))⟩ sO ⟨by omega, by rw [hsz, size_swp]; exact hds2, hO2⟩ kno (fun w s => by exact s)
  .obtain rfl : k = 0 := by have := oF hc2; omega
   have hO2 : dj = heapSort ltInt d a e := hO2
   refine g4 ?_
   refine fI (.inr rfl) rfl fun w_ s_ => ⟨rfl, ?_⟩
   rw [<- hO2]
   exact s_
open Go.Sort
theorem aI3 {p : Int -> Bool} {d : Array Int} {j i : Nat} (h : i <= j) (hp : p d[i]! = true) : scanUp p d j (i + 1) = scanUp p d j i := by conv => rhs; rw [scanUp, if_pos (by rw [decide_eq_true h, hp]; rfl)]
theorem qT {p : Int -> Bool} {d : Array Int} {j i : Nat} (h : ¬ i <= j \/ p d[i]! = false) : i = scanUp p d j i := by
 rw [scanUp, if_neg]
 intro hh
 rw [Bool.and_eq_true, decide_eq_true_eq] at hh
 rcases h with h | h
 .exact h hh.1
 .rw [h] at hh; exact absurd hh.2 dE
theorem aKb {p : Int -> Bool} {d : Array Int} {i j : Nat} (h1 : 1 <= j) (h : i <= j) (hp : p d[j]! = true) : scanDown p d i (j - 1) = scanDown p d i j := by
 obtain ⟨k, rfl⟩ : ∃ k, j = k + 1 := ⟨j - 1, by omega⟩
 conv => rhs; rw [scanDown, if_pos (by rw [decide_eq_true h, hp]; rfl)]
 rfl
theorem rE {p : Int -> Bool} {d : Array Int} {i j : Nat} (h : ¬ i <= j \/ p d[j]! = false) : j = scanDown p d i j := by
 cases j with
 | zero => rfl
 | succ k =>
  rw [scanDown, if_neg]
  intro hh
  rw [Bool.and_eq_true, decide_eq_true_eq] at hh
  rcases h with h | h
  .exact h hh.1
  .rw [h] at hh; exact absurd hh.2 dE
theorem xT {p q : Int -> Bool} (hq : ∀ x, q x = !p x) {d : Array Int} {i j : Nat} (hi : 1 <= i) (hij : i <= j + 1) (h : ¬ scanUp p d j i > scanDown q d (scanUp p d j i) j) : scanUp p d j i < scanDown q d (scanUp p d j i) j := by
 have hu := scanUp_spec p d j _ i rfl
 have hd := scanDown_spec q d (scanUp p d j i) j
 rcases Nat.lt_or_ge (scanUp p d j i) (scanDown q d (scanUp p d j i) j) with h' | h'
 .exact h'
 .exfalso
  have e : scanUp p d j i = scanDown q d (scanUp p d j i) j := by omega
  have h1 := hu.2.2.2 oM
  have h2 := hd.2.2.2 oM oM
  rw [<- e, hq, h1] at h2
  exact absurd h2 dE
theorem aA1 (p q : Int -> Bool) (d : Array Int) {i j : Nat} (hij : i <= j + 1) : i <= scanUp p d j i /\ scanUp p d j i <= j + 1 /\ scanDown q d (scanUp p d j i) j <= j /\ scanUp p d j i <= scanDown q d (scanUp p d j i) j + 1 := by
 have hu := scanUp_spec p d j _ i rfl
 have hd := scanDown_spec q d (scanUp p d j i) j
 exact ⟨hu.1, hu.2.1 hij, hd.1, hd.2.1 (hu.2.1 hij)⟩
theorem wB {t b n c : Nat} {d : Array Int} (hd : d.size = n) (hn : n <= 1000000000) (a e p : Nat) (ha : a <= p) (hp0 : p < e) (he : e <= n) : ∀ w, Sees F w0 B H ((t, cZ 80 b n c d) :: S) w -> Calls Tryz.prog 143 #[nI b n c, iV a, iV e, iV p] w fun e_ w' => e_ = .returned (.tuple #[iV ((partition ltInt d a e p).1 : Nat), .bool (partition ltInt d a e p).2.1]) /\ Sees F w0 B H ((t, cZ 80 b n c (partition ltInt d a e p).2.2) :: S) w' := by
 intro w s
 refine aF (args := [nI b n c, iV a, iV e, iV p]) (L := [(0, nI b n c), (1, iV a), (2, iV e), (3, iV p)]) (N := 98) Tryz.func143 rfl rfl ble rfl s (g11 ?_)
 refine gL (iO a p rfl rfl hd rfl rfl oM oM ?_)
 obtain ⟨d1, hd1⟩ : ∃ x, x = swp d a p := ⟨_, rfl⟩
 rw [<- hd1]
 have hds : d1.size = n := by rw [hd1, size_swp]; exact hd
 refine g12 ?_
 refine cO (ι := (Nat)) (fun i => (i = scanUp (fun x => ltInt x d1[a]!) d1 (e - 1) (a + 1)) /\ (1 <= i /\ i <= e - 1 + 1)) (fun i => [(0, nI b n c), (1, iV a), (10, iV i), (11, iV ((e : Int) - 1))]) (fun i => B) (fun i => H) (fun i => ((t, cZ 80 b n c d1) :: S)) ?_ ?_
 .refine g1 ?_
  refine aY (ι := (Nat)) (fun i => e - 1 + 1 - i) (fun i => (1 <= i /\ i <= e - 1 + 1) /\ (scanUp (fun x => ltInt x d1[a]!) d1 (e - 1) i = scanUp (fun x => ltInt x d1[a]!) d1 (e - 1) (a + 1))) (fun i => [(0, nI b n c), (1, iV a), (10, iV i), (11, iV ((e : Int) - 1))]) (fun i => B) (fun i => H) (fun i => ((t, cZ 80 b n c d1) :: S)) (a + 1) ⟨by omega, rfl⟩ kno (fun w s => by exact s) ?_
  rintro i ⟨hv, hsc⟩
  refine dS ?_
  refine g2 ?_
  by_cases hin : i <= e - 1
  .refine g3 ?_
   refine rZ8 ((d7 rfl rfl).to bT) ?_
   refine gL (i7 (i) (a) rfl rfl hds oM oM oM oM (g3 ?_))
   refine aB rfl (fun hc1 => ?_) (fun hc2 => ?_)
   .have hp : (fun x => ltInt x d1[a]!) d1[i]! = true := hc1
    refine g9 ?_
    refine aN (i + 1) oM ⟨by omega, (aI3 hin hp).trans hsc⟩ kno (fun w s => by exact s)
   .have hp : (fun x => ltInt x d1[a]!) d1[i]! = false := hc2
    refine g4 ?_
    refine aK (ι := Nat) i ⟨(qT (p := (fun x => ltInt x d1[a]!)) (.inr hp)).trans hsc, by omega⟩ kno (fun w s => s)
  .refine g3 ?_
   refine sQ ((d7 rfl rfl).to bF) ?_
   refine aK (ι := Nat) i ⟨(qT (p := (fun x => ltInt x d1[a]!)) (.inl hin)).trans hsc, by omega⟩ kno (fun w s => s)
 rintro i ⟨hi, hbi⟩
 refine dS ?_
 refine cO (ι := (Nat)) (fun j => (j = scanDown (fun x => !ltInt x d1[a]!) d1 (i) (e - 1)) /\ (j <= e - 1 /\ i <= j + 1)) (fun j => [(0, nI b n c), (1, iV a), (11, iV j), (10, iV i)]) (fun j => B) (fun j => H) (fun j => ((t, cZ 80 b n c d1) :: S)) ?_ ?_
 .refine g1 ?_
  refine aY (ι := (Nat)) (fun j => j) (fun j => (j <= e - 1 /\ i <= j + 1) /\ (scanDown (fun x => !ltInt x d1[a]!) d1 (i) j = scanDown (fun x => !ltInt x d1[a]!) d1 (i) (e - 1))) (fun j => [(0, nI b n c), (1, iV a), (11, iV j), (10, iV i)]) (fun j => B) (fun j => H) (fun j => ((t, cZ 80 b n c d1) :: S)) (e - 1) ⟨by omega, rfl⟩ kno (fun w s => by exact s) ?_
  rintro j ⟨hv, hsc⟩
  refine dS ?_
  refine g2 ?_
  by_cases hin : i <= j
  .refine g3 ?_
   refine rZ8 ((d7 rfl rfl).to bT) ?_
   refine gL (i7 (j) (a) rfl rfl hds oM oM oM oM (g5 ?_))
   refine aB rfl (fun hc1 => ?_) (fun hc2 => ?_)
   .have hp : (fun x => !ltInt x d1[a]!) d1[j]! = true := hc1
    refine g9 ?_
    refine aN (j - 1) oM ⟨by omega, (aKb oM hin hp).trans hsc⟩ kno (fun w s => by exact s)
   .have hp : (fun x => !ltInt x d1[a]!) d1[j]! = false := hc2
    refine g4 ?_
    refine aK (ι := Nat) j ⟨(rE (p := (fun x => !ltInt x d1[a]!)) (.inr hp)).trans hsc, by omega⟩ kno (fun w s => s)
  .refine g3 ?_
   refine rl ((d7 rfl rfl).to bF) (oD ?_)
   refine aK (ι := Nat) j ⟨(rE (p := (fun x => !ltInt x d1[a]!)) (.inl hin)).trans hsc, by omega⟩ kno (fun w s => s)
 rintro j ⟨hj, hbj⟩
 refine dS ?_
 refine g8 ?_
 refine aB rfl (fun hc1 => ?_) (fun hc2 => ?_)
 .have hgt : i > j := by have := oT hc1; omega
  refine g5 ?_
  refine gL (iO (j) (a) rfl rfl hds oM oM oM oM (g11 ?_))
  have hP : partition ltInt d a e p = (j, true, swp d1 j a) := by unfold partition; simp only [<- hd1, <- hi, <- hj]; rw [if_pos hgt]
  rw [hP]
  refine d9 (.inl rfl) rfl (aE rfl) (aE rfl) fun w_ s_ => ⟨rfl, ?_⟩
  exact s_
 .have hgt : ¬ i > j := by have := oF hc2; omega
  have hne := xT (p := (fun x => ltInt x d1[a]!)) (q := (fun x => !ltInt x d1[a]!)) (fun x => rfl) (d := d1) (i := a + 1) (j := e - 1) oM oM (by rw [<- hi, <- hj]; exact hgt)
  rw [<- hi, <- hj] at hne
  have hbu0 := aA1 (fun x => ltInt x d1[a]!) (fun x => !ltInt x d1[a]!) d1 (i := a + 1) (j := e - 1) oM
  rw [<- hi, <- hj] at hbu0
  obtain ⟨d2, hd2⟩ : ∃ x, x = swp d1 i j := ⟨_, rfl⟩
  have hds2 : d2.size = n := by rw [hd2, size_swp]; exact hds
  refine g7 ?_
  refine gL (iO i j rfl rfl hds rfl rfl oM oM ?_)
  rw [<- hd2]
  refine g18 ?_
  refine aY (ι := (Nat) × (Nat) × (Array Int)) (fun | ⟨u, v, dk⟩ => v + 1 - u) (fun | ⟨u, v, dk⟩ => (a < u /\ u <= v + 1 /\ v < e) /\ (dk.size = n) /\ (partLoop ltInt a u v dk = partLoop ltInt a (i + 1) (j - 1) d2)) (fun | ⟨u, v, dk⟩ => [(0, nI b n c), (1, iV a), (10, iV u), (11, iV v)]) (fun _ => B) (fun _ => H) (fun | ⟨u, v, dk⟩ => ((t, cZ 80 b n c dk) :: S)) ⟨i + 1, j - 1, d2⟩ ⟨by omega, hds2, rfl⟩ kno (fun w s => by exact s) ?_
  rintro ⟨u, v, dk⟩ ⟨huv, hds, hO⟩
  refine dS ?_
  refine g1 ?_
  refine cO (ι := (Nat)) (fun u2 => (u2 = scanUp (fun x => ltInt x dk[a]!) dk (v) (u)) /\ (1 <= u2 /\ u2 <= v + 1)) (fun u2 => [(0, nI b n c), (1, iV a), (10, iV u2), (11, iV v)]) (fun u2 => B) (fun u2 => H) (fun u2 => ((t, cZ 80 b n c dk) :: S)) ?_ ?_
  .refine g1 ?_
   refine aY (ι := (Nat)) (fun u2 => v + 1 - u2) (fun u2 => (1 <= u2 /\ u2 <= v + 1) /\ (scanUp (fun x => ltInt x dk[a]!) dk (v) u2 = scanUp (fun x => ltInt x dk[a]!) dk (v) (u))) (fun u2 => [(0, nI b n c), (1, iV a), (10, iV u2), (11, iV v)]) (fun u2 => B) (fun u2 => H) (fun u2 => ((t, cZ 80 b n c dk) :: S)) (u) ⟨by omega, rfl⟩ kno (fun w s => by exact s) ?_
   rintro u2 ⟨hv, hsc⟩
   refine dS ?_
   refine g2 ?_
   by_cases hin : u2 <= v
   .refine g3 ?_
    refine rZ8 ((d7 rfl rfl).to bT) ?_
    refine gL (i7 (u2) (a) rfl rfl hds oM oM oM oM (g3 ?_))
    refine aB rfl (fun hc1 => ?_) (fun hc2 => ?_)
    .have hp : (fun x => ltInt x dk[a]!) dk[u2]! = true := hc1
     refine g9 ?_
     refine aN (u2 + 1) oM ⟨by omega, (aI3 hin hp).trans hsc⟩ kno (fun w s => by exact s)
    .have hp : (fun x => ltInt x dk[a]!) dk[u2]! = false := hc2
     refine g4 ?_
     refine aK (ι := Nat) u2 ⟨(qT (p := (fun x => ltInt x dk[a]!)) (.inr hp)).trans hsc, by omega⟩ kno (fun w s => s)
   .refine g3 ?_
    refine sQ ((d7 rfl rfl).to bF) ?_
    refine aK (ι := Nat) u2 ⟨(qT (p := (fun x => ltInt x dk[a]!)) (.inl hin)).trans hsc, by omega⟩ kno (fun w s => s)
  rintro u2 ⟨hu2, hbu2⟩
  refine dS ?_
  refine cO (ι := (Nat)) (fun v2 => (v2 = scanDown (fun x => !ltInt x dk[a]!) dk (u2) (v)) /\ (v2 <= v /\ u2 <= v2 + 1)) (fun v2 => [(0, nI b n c), (1, iV a), (11, iV v2), (10, iV u2)]) (fun v2 => B) (fun v2 => H) (fun v2 => ((t, cZ 80 b n c dk) :: S)) ?_ ?_
  .refine g1 ?_
   refine aY (ι := (Nat)) (fun v2 => v2) (fun v2 => (v2 <= v /\ u2 <= v2 + 1) /\ (scanDown (fun x => !ltInt x dk[a]!) dk (u2) v2 = scanDown (fun x => !ltInt x dk[a]!) dk (u2) (v))) (fun v2 => [(0, nI b n c), (1, iV a), (11, iV v2), (10, iV u2)]) (fun v2 => B) (fun v2 => H) (fun v2 => ((t, cZ 80 b n c dk) :: S)) (v) ⟨by omega, rfl⟩ kno (fun w s => by exact s) ?_
   rintro v2 ⟨hv, hsc⟩
   refine dS ?_
   refine g2 ?_
   by_cases hin : u2 <= v2
   .refine g3 ?_
    refine rZ8 ((d7 rfl rfl).to bT) ?_
    refine gL (i7 (v2) (a) rfl rfl hds oM oM oM oM (g5 ?_))
    refine aB rfl (fun hc1 => ?_) (fun hc2 => ?_)
    .have hp : (fun x => !ltInt x dk[a]!) dk[v2]! = true := hc1
     refine g9 ?_
     refine aN (v2 - 1) oM ⟨by omega, (aKb oM hin hp).trans hsc⟩ kno (fun w s => by exact s)
    .have hp : (fun x => !ltInt x dk[a]!) dk[v2]! = false := hc2
     refine g4 ?_
     refine aK (ι := Nat) v2 ⟨(rE (p := (fun x => !ltInt x dk[a]!)) (.inr hp)).trans hsc, by omega⟩ kno (fun w s => s)
   .refine g3 ?_
    refine rl ((d7 rfl rfl).to bF) (oD ?_)
    refine aK (ι := Nat) v2 ⟨(rE (p := (fun x => !ltInt x dk[a]!)) (.inl hin)).trans hsc, by omega⟩ kno (fun w s => s)
  rintro v2 ⟨hv2, hbv2⟩
  refine dS ?_
  refine g8 ?_
  refine aB rfl (fun hc1 => ?_) (fun hc2 => ?_)
  .have hgt : u2 > v2 := by have := oT hc1; omega
   have hend : partLoop ltInt a (i + 1) (j - 1) d2 = (v2, dk) := by rw [<- hO, partLoop_eq, <- hu2, <- hv2, if_pos hgt]
   refine g11 ?_
   refine gL (iO (v2) (a) rfl rfl hds oM oM oM oM (g10 ?_))
   have hP : partition ltInt d a e p = (v2, false, swp dk v2 a) := by unfold partition; simp only [<- hd1, <- hi, <- hj]; rw [if_neg oM, <- hd2, hend]
   rw [hP]
   refine d9 (.inl rfl) rfl (aE rfl) (aE rfl) fun w_ s_ => ⟨rfl, ?_⟩
   exact s_
  .have hgt : ¬ u2 > v2 := by have := oF hc2; omega
   have hne := xT (p := (fun x => ltInt x dk[a]!)) (q := (fun x => !ltInt x dk[a]!)) (fun x => rfl) (d := dk) (i := u) (j := v) oM oM (by rw [<- hu2, <- hv2]; exact hgt)
   rw [<- hu2, <- hv2] at hne
   have hO2 : partLoop ltInt a (u2 + 1) (v2 - 1) (swp dk u2 v2) = partLoop ltInt a (i + 1) (j - 1) d2 := by rw [<- hO]; conv => rhs; rw [partLoop_eq, <- hu2, <- hv2, if_neg hgt]
   have hbu := aA1 (fun x => ltInt x dk[a]!) (fun x => !ltInt x dk[a]!) dk (i := u) (j := v) oM
   rw [<- hu2, <- hv2] at hbu
   refine g7 ?_
   refine gL (iO (u2) (v2) rfl rfl hds oM oM oM oM (g15 ?_))
   refine aN ⟨u2 + 1, v2 - 1, swp dk u2 v2⟩ sO ⟨by omega, by rw [size_swp]; exact hds, hO2⟩ kno (fun w s => by exact s)
open Go.Sort
theorem aBf {t b n c : Nat} {d : Array Int} (hd : d.size = n) (hn : n <= 1000000000) (a e p : Nat) (ha : a <= p) (hp0 : p < e) (he : e <= n) : ∀ w, Sees F w0 B H ((t, cZ 80 b n c d) :: S) w -> Calls Tryz.prog 142 #[nI b n c, iV a, iV e, iV p] w fun e_ w' => e_ = .returned (iV ((partitionEqual ltInt d a e p).1 : Nat)) /\ Sees F w0 B H ((t, cZ 80 b n c (partitionEqual ltInt d a e p).2) :: S) w' := by
 intro w s
 refine aF (args := [nI b n c, iV a, iV e, iV p]) (L := [(0, nI b n c), (1, iV a), (2, iV e), (3, iV p)]) (N := 54) Tryz.func142 rfl rfl ble rfl s (g10 ?_)
 refine gL (iO a p rfl rfl hd rfl rfl oM oM ?_)
 obtain ⟨d1, hd1⟩ : ∃ x, x = swp d a p := ⟨_, rfl⟩
 rw [<- hd1]
 have hds1 : d1.size = n := by rw [hd1, size_swp]; exact hd
 refine g14 ?_
 refine aY (ι := (Nat) × (Nat) × (Array Int)) (fun | ⟨u, v, dk⟩ => v + 1 - u) (fun | ⟨u, v, dk⟩ => (a < u /\ u <= v + 1 /\ v < e) /\ (dk.size = n) /\ (partEqLoop ltInt a u v dk = partEqLoop ltInt a (a + 1) (e - 1) d1)) (fun | ⟨u, v, dk⟩ => [(0, nI b n c), (1, iV a), (9, iV u), (10, iV v)]) (fun _ => B) (fun _ => H) (fun | ⟨u, v, dk⟩ => ((t, cZ 80 b n c dk) :: S)) ⟨a + 1, e - 1, d1⟩ ⟨by omega, hds1, rfl⟩ kno (fun w s => by exact s) ?_
 rintro ⟨u, v, dk⟩ ⟨huv, hds, hO⟩
 refine dS ?_
 refine g1 ?_
 refine cO (ι := (Nat)) (fun u2 => (u2 = scanUp (fun x => !ltInt dk[a]! x) dk (v) (u)) /\ (1 <= u2 /\ u2 <= v + 1)) (fun u2 => [(0, nI b n c), (1, iV a), (9, iV u2), (10, iV v)]) (fun u2 => B) (fun u2 => H) (fun u2 => ((t, cZ 80 b n c dk) :: S)) ?_ ?_
 .refine g1 ?_
  refine aY (ι := (Nat)) (fun u2 => v + 1 - u2) (fun u2 => (1 <= u2 /\ u2 <= v + 1) /\ (scanUp (fun x => !ltInt dk[a]! x) dk (v) u2 = scanUp (fun x => !ltInt dk[a]! x) dk (v) (u))) (fun u2 => [(0, nI b n c), (1, iV a), (9, iV u2), (10, iV v)]) (fun u2 => B) (fun u2 => H) (fun u2 => ((t, cZ 80 b n c dk) :: S)) (u) ⟨by omega, rfl⟩ kno (fun w s => by exact s) ?_
  rintro u2 ⟨hv, hsc⟩
  refine dS ?_
  refine g2 ?_
  by_cases hin : u2 <= v
  .refine g3 ?_
   refine rZ8 ((d7 rfl rfl).to bT) ?_
   refine gL (i7 (a) (u2) rfl rfl hds oM oM oM oM (g5 ?_))
   refine aB rfl (fun hc1 => ?_) (fun hc2 => ?_)
   .have hp : (fun x => !ltInt dk[a]! x) dk[u2]! = true := hc1
    refine g9 ?_
    refine aN (u2 + 1) oM ⟨by omega, (aI3 hin hp).trans hsc⟩ kno (fun w s => by exact s)
   .have hp : (fun x => !ltInt dk[a]! x) dk[u2]! = false := hc2
    refine g4 ?_
    refine aK (ι := Nat) u2 ⟨(qT (p := (fun x => !ltInt dk[a]! x)) (.inr hp)).trans hsc, by omega⟩ kno (fun w s => s)
  .refine g3 ?_
   refine rl ((d7 rfl rfl).to bF) (oD ?_)
   refine aK (ι := Nat) u2 ⟨(qT (p := (fun x => !ltInt dk[a]! x)) (.inl hin)).trans hsc, by omega⟩ kno (fun w s => s)
 rintro u2 ⟨hu2, hbu2⟩
 refine dS ?_
 refine cO (ι := (Nat)) (fun v2 => (v2 = scanDown (fun x => ltInt dk[a]! x) dk (u2) (v)) /\ (v2 <= v /\ u2 <= v2 + 1)) (fun v2 => [(0, nI b n c), (1, iV a), (10, iV v2), (9, iV u2)]) (fun v2 => B) (fun v2 => H) (fun v2 => ((t, cZ 80 b n c dk) :: S)) ?_ ?_
 .refine g1 ?_
  refine aY (ι := (Nat)) (fun v2 => v2) (fun v2 => (v2 <= v /\ u2 <= v2 + 1) /\ (scanDown (fun x => ltInt dk[a]! x) dk (u2) v2 = scanDown (fun x => ltInt dk[a]! x) dk (u2) (v))) (fun v2 => [(0, nI b n c), (1, iV a), (10, iV v2), (9, iV u2)]) (fun v2 => B) (fun v2 => H) (fun v2 => ((t, cZ 80 b n c dk) :: S)) (v) ⟨by omega, rfl⟩ kno (fun w s => by exact s) ?_
  rintro v2 ⟨hv, hsc⟩
  refine dS ?_
  refine g2 ?_
  by_cases hin : u2 <= v2
  .refine g3 ?_
   refine rZ8 ((d7 rfl rfl).to bT) ?_
   refine gL (i7 (a) (v2) rfl rfl hds oM oM oM oM (g3 ?_))
   refine aB rfl (fun hc1 => ?_) (fun hc2 => ?_)
   .have hp : (fun x => ltInt dk[a]! x) dk[v2]! = true := hc1
    refine g9 ?_
    refine aN (v2 - 1) oM ⟨by omega, (aKb oM hin hp).trans hsc⟩ kno (fun w s => by exact s)
   .have hp : (fun x => ltInt dk[a]! x) dk[v2]! = false := hc2
    refine g4 ?_
    refine aK (ι := Nat) v2 ⟨(rE (p := (fun x => ltInt dk[a]! x)) (.inr hp)).trans hsc, by omega⟩ kno (fun w s => s)
  .refine g3 ?_
   refine sQ ((d7 rfl rfl).to bF) ?_
   refine aK (ι := Nat) v2 ⟨(rE (p := (fun x => ltInt dk[a]! x)) (.inl hin)).trans hsc, by omega⟩ kno (fun w s => s)
 rintro v2 ⟨hv2, hbv2⟩
 refine dS ?_
 refine g8 ?_
 refine aB rfl (fun hc1 => ?_) (fun hc2 => ?_)
 .have hgt : u2 > v2 := by have := oT hc1; omega
  have hend : partitionEqual ltInt d a e p = (u2, dk) := by unfold partitionEqual; rw [<- hd1, <- hO, partEqLoop_eq, <- hu2, <- hv2, if_pos hgt]
  refine g13 ?_
  rw [hend]
  refine aT (.inl rfl) rfl (aE rfl) fun w_ s_ => ⟨rfl, ?_⟩
  exact s_
 .have hgt : ¬ u2 > v2 := by have := oF hc2; omega
  have hne := xT (p := (fun x => !ltInt dk[a]! x)) (q := (fun x => ltInt dk[a]! x)) (fun x => by simp) (d := dk) (i := u) (j := v) oM oM (by rw [<- hu2, <- hv2]; exact hgt)
  rw [<- hu2, <- hv2] at hne
  have hO2 : partEqLoop ltInt a (u2 + 1) (v2 - 1) (swp dk u2 v2) = partEqLoop ltInt a (a + 1) (e - 1) d1 := by rw [<- hO]; conv => rhs; rw [partEqLoop_eq, <- hu2, <- hv2, if_neg hgt]
  have hbu := aA1 (fun x => !ltInt dk[a]! x) (fun x => ltInt dk[a]! x) dk (i := u) (j := v) oM
  rw [<- hu2, <- hv2] at hbu
  refine g7 ?_
  refine gL (iO (u2) (v2) rfl rfl hds oM oM oM oM (g15 ?_))
  refine aN ⟨u2 + 1, v2 - 1, swp dk u2 v2⟩ sO ⟨by omega, by rw [size_swp]; exact hds, hO2⟩ kno (fun w s => by exact s)
theorem zV {d : Array Int} {b i : Nat} (h : i < b) (hl : ltInt d[i]! d[i - 1]! = false) : scanSorted ltInt d b (i + 1) = scanSorted ltInt d b i := by conv => rhs; rw [scanSorted, if_pos (by rw [decide_eq_true h, hl]; rfl)]
theorem lO {d : Array Int} {b i : Nat} (h : ¬ i < b \/ ltInt d[i]! d[i - 1]! = true) : i = scanSorted ltInt d b i := by
 rw [scanSorted, if_neg]
 intro hh
 rw [Bool.and_eq_true, decide_eq_true_eq] at hh
 rcases h with h | h
 .exact h hh.1
 .rw [h] at hh; exact absurd hh.2 dE
theorem aMi {d : Array Int} {j : Nat} (h1 : 1 <= j) (hl : ltInt d[j]! d[j - 1]! = true) : shiftDown ltInt (j - 1) (swp d j (j - 1)) = shiftDown ltInt j d := by
 obtain ⟨k, rfl⟩ : ∃ k, j = k + 1 := ⟨j - 1, by omega⟩
 rw [Nat.add_sub_cancel] at hl
 conv => rhs; rw [shiftDown, if_neg (by rw [hl]; decide)]
 rfl
theorem aCe {d : Array Int} {j : Nat} (h : j = 0 \/ ltInt d[j]! d[j - 1]! = false) : shiftDown ltInt j d = d := by
 cases j with
 | zero => rfl
 | succ k =>
  rcases h with h | h
  .omega
  .rw [Nat.add_sub_cancel] at h
   rw [shiftDown, if_pos (by rw [h]; rfl)]
theorem aMd {d : Array Int} {b j : Nat} (h1 : j < b) (hl : ltInt d[j]! d[j - 1]! = true) : shiftUp ltInt b (j + 1) (swp d j (j - 1)) = shiftUp ltInt b j d := by
 conv => rhs; rw [shiftUp, if_pos h1, if_neg (by rw [hl]; decide)]
theorem aDd {d : Array Int} {b j : Nat} (h : ¬ j < b \/ ltInt d[j]! d[j - 1]! = false) : shiftUp ltInt b j d = d := by
 rw [shiftUp]
 rcases h with h | h
 .rw [if_neg h]
 .by_cases hb : j < b
  .rw [if_pos hb, if_pos (by rw [h]; rfl)]
  .rw [if_neg hb]
theorem aAb (d : Array Int) (b : Nat) : ∀ (m i : Nat), b - i <= m -> i <= b -> i <= scanSorted ltInt d b i /\ scanSorted ltInt d b i <= b
 | 0, i, hm, hi => by rw [<- lO (.inl oM)]; omega
 | m + 1, i, hm, hi => by
  by_cases h : i < b
  .cases hl : ltInt d[i]! d[i - 1]! with
   | true => rw [<- lO (.inr hl)]; omega
   | false =>
    rw [<- zV h hl]
    have := aAb d b m (i + 1) oM oM
    omega
  .rw [<- lO (.inl h)]; omega
theorem zD {t b n c : Nat} {d : Array Int} (hd : d.size = n) (hn : n <= 1000000000) (a e : Nat) (ha : a < e) (he : e <= n) : ∀ w, Sees F w0 B H ((t, cZ 80 b n c d) :: S) w -> Calls Tryz.prog 141 #[nI b n c, iV a, iV e] w fun e_ w' => e_ = .returned (.bool (partialInsertionSort ltInt d a e).2) /\ Sees F w0 B H ((t, cZ 80 b n c (partialInsertionSort ltInt d a e).1) :: S) w' := by
 intro w s
 refine aF (args := [nI b n c, iV a, iV e]) (L := [(0, nI b n c), (1, iV a), (2, iV e)]) (N := 85) Tryz.func141 rfl rfl ble rfl s (g18 ?_)
 refine g1 ?_
 refine aY (ι := (Nat) × (Nat) × (Array Int)) (fun | ⟨k, i, dk⟩ => k) (fun | ⟨k, i, dk⟩ => (k <= 5) /\ (a < i /\ i <= e) /\ (dk.size = n) /\ (partialIns ltInt a e k i dk = partialInsertionSort ltInt d a e)) (fun | ⟨k, i, dk⟩ => [(0, nI b n c), (1, iV a), (2, iV e), (7, iV i), (8, iV (5 - (k : Int)))]) (fun _ => B) (fun _ => H) (fun | ⟨k, i, dk⟩ => ((t, cZ 80 b n c dk) :: S)) ⟨5, a + 1, d⟩ ⟨by omega, by omega, hd, rfl⟩ kno (fun w s => by exact s) ?_
 rintro ⟨k, i, dk⟩ ⟨hk, hi0, hds, hO⟩
 refine dS ?_
 refine g7 ?_
 refine aB rfl (fun hc1 => ?_) (fun hc2 => ?_)
 .have hk1 : 1 <= k := by have := oT hc1; omega
  obtain ⟨k, rfl⟩ : ∃ m, k = m + 1 := ⟨k - 1, by omega⟩
  have hsb := aAb dk e _ i (Nat.le_refl _) hi0.2
  refine g4 ?_
  refine cO (ι := (Nat)) (fun i2 => (i2 = scanSorted ltInt dk e i) /\ (a < i2 /\ i2 <= e)) (fun i2 => [(0, nI b n c), (1, iV a), (2, iV e), (7, iV i2), (8, iV (5 - ((k + 1 : Nat) : Int)))]) (fun i2 => B) (fun i2 => H) (fun i2 => ((t, cZ 80 b n c dk) :: S)) ?_ ?_
  .refine g1 ?_
   refine aY (ι := (Nat)) (fun i2 => e - i2) (fun i2 => (a < i2 /\ i2 <= e) /\ (scanSorted ltInt dk e i2 = scanSorted ltInt dk e i)) (fun i2 => [(0, nI b n c), (1, iV a), (2, iV e), (7, iV i2), (8, iV (5 - ((k + 1 : Nat) : Int)))]) (fun i2 => B) (fun i2 => H) (fun i2 => ((t, cZ 80 b n c dk) :: S)) (i) ⟨by omega, rfl⟩ kno (fun w s => by exact s) ?_
   rintro i2 ⟨hv, hsc⟩
   refine dS ?_
   refine g2 ?_
   by_cases hin : i2 < e
   .refine g3 ?_
    refine rl ((cR rfl rfl).to bT) (g10 ?_)
    refine gL (i7 (i2) (i2 - 1) rfl rfl hds oM oM oM oM (g5 ?_))
    refine aB rfl (fun hc1 => ?_) (fun hc2 => ?_)
    .have hp : ltInt dk[i2]! dk[i2 - 1]! = false := by rw [Bool.not_eq_true'] at hc1; exact hc1
     refine g9 ?_
     refine aN (i2 + 1) oM ⟨by omega, (zV hin hp).trans hsc⟩ kno (fun w s => by exact s)
    .have hp : ltInt dk[i2]! dk[i2 - 1]! = true := by rw [Bool.not_eq_false'] at hc2; exact hc2
     refine g4 ?_
     refine aK (ι := Nat) i2 ⟨(lO (.inr hp)).trans hsc, by omega⟩ kno (fun w s => s)
   .refine g3 ?_
    refine wA ((cR rfl rfl).to bF) ?_
    refine aK (ι := Nat) i2 ⟨(lO (.inl hin)).trans hsc, by omega⟩ kno (fun w s => s)
  rintro i2 ⟨hi2, hb2⟩
  refine dS ?_
  refine g8 ?_
  refine aB rfl (fun hc1 => ?_) (fun hc2 => ?_)
  .have hie : i2 = e := by have := beq_iff_eq.1 hc1; omega
   have hend : partialInsertionSort ltInt d a e = (dk, true) := by rw [<- hO]; unfold partialIns; simp only [<- hi2]; rw [if_pos hie]
   refine g12 ?_
   rw [hend]
   refine aT (.inl rfl) rfl (aE rfl) fun w_ s_ => ⟨rfl, ?_⟩
   exact s_
  .have hie : ¬ i2 = e := by have := beq_eq_false_iff_ne.1 hc2; omega
   refine g11 ?_
   refine aB rfl (fun hc1 => ?_) (fun hc2 => ?_)
   .have h50 : e - a < 50 := by have := oT hc1; omega
    have hend : partialInsertionSort ltInt d a e = (dk, false) := by rw [<- hO]; unfold partialIns; simp only [<- hi2]; rw [if_neg hie, if_pos h50]
    refine g12 ?_
    rw [hend]
    refine aT (.inl rfl) rfl (aE rfl) fun w_ s_ => ⟨rfl, ?_⟩
    exact s_
   .have h50 : ¬ e - a < 50 := by have := oF hc2; omega
    refine g8 ?_
    refine gL (iO i2 (i2 - 1) rfl rfl hds rfl oM oM oM ?_)
    obtain ⟨d2, hd2⟩ : ∃ x, x = swp dk i2 (i2 - 1) := ⟨_, rfl⟩
    rw [<- hd2]
    have hds2 : d2.size = n := by rw [hd2, size_swp]; exact hds
    refine g2 ?_
    refine cO (ι := (Array Int)) (fun d3 => (d3 = if i2 - a ≥ 2 then shiftDown ltInt (i2 - 1) d2 else d2) /\ (d3.size = n)) (fun d3 => [(0, nI b n c), (1, iV a), (2, iV e), (7, iV i2), (8, iV (5 - ((k + 1 : Nat) : Int)))]) (fun d3 => B) (fun d3 => H) (fun d3 => ((t, cZ 80 b n c d3) :: S)) ?_ ?_
    .refine g8 ?_
     refine aB rfl (fun hc1 => ?_) (fun hc2 => ?_)
     .have h2 : i2 - a ≥ 2 := by have := oT hc1; omega
      refine g8 ?_
      refine aY (ι := (Nat) × (Array Int)) (fun | ⟨j, dj⟩ => j) (fun | ⟨j, dj⟩ => (j < n) /\ (dj.size = n) /\ (shiftDown ltInt j dj = shiftDown ltInt (i2 - 1) d2)) (fun | ⟨j, dj⟩ => [(0, nI b n c), (1, iV a), (2, iV e), (7, iV i2), (8, iV (5 - ((k + 1 : Nat) : Int))), (9, iV j)]) (fun _ => B) (fun _ => H) (fun | ⟨j, dj⟩ => ((t, cZ 80 b n c dj) :: S)) ⟨i2 - 1, d2⟩ ⟨by omega, hds2, rfl⟩ kno (fun w s => by exact s) ?_
      rintro ⟨j, dj⟩ ⟨hj, hdj, hJ⟩
      refine dS ?_
      refine g7 ?_
      refine aB rfl (fun hc1 => ?_) (fun hc2 => ?_)
      .have hj1 : 1 <= j := by have := oT hc1; omega
       refine g11 ?_
       refine gL (i7 (j) (j - 1) rfl rfl hdj oM oM oM oM (g3 ?_))
       refine aB rfl (fun hc1 => ?_) (fun hc2 => ?_)
       .have hl : ltInt dj[j]! dj[j - 1]! = false := by rw [Bool.not_eq_true'] at hc1; exact hc1
        refine g6 ?_
        refine aK (ι := Array Int) dj ⟨by rw [if_pos h2, <- hJ, aCe (.inr hl)], hdj⟩ kno (fun w s => s)
       .have hl : ltInt dj[j]! dj[j - 1]! = true := by rw [Bool.not_eq_false'] at hc2; exact hc2
        refine g7 ?_
        refine gL (iO (j) (j - 1) rfl rfl hdj oM oM oM oM (g8 ?_))
        refine aN ⟨j - 1, swp dj j (j - 1)⟩ sO ⟨by omega, by rw [size_swp]; exact hdj, (aMi hj1 hl).trans hJ⟩ kno (fun w s => by exact s)
      .refine g4 ?_
       refine aK (ι := Array Int) dj ⟨by rw [if_pos h2, <- hJ, aCe (.inl (by have := oF hc2; omega))], hdj⟩ kno (fun w s => s)
     .have h2 : ¬ i2 - a ≥ 2 := by have := oF hc2; omega
      refine g1 ?_
      refine aK (ι := Array Int) d2 ⟨by rw [if_neg h2], hds2⟩ kno (fun w s => s)
    rintro d3 ⟨hd3, hds3⟩
    refine dS ?_
    refine g8 ?_
    refine aB rfl (fun hc1 => ?_) (fun hc2 => ?_)
    .have h4 : e - i2 ≥ 2 := by have := oT hc1; omega
     refine g8 ?_
     refine aY (ι := (Nat) × (Array Int)) (fun | ⟨j, dj⟩ => e - j) (fun | ⟨j, dj⟩ => (i2 < j /\ j <= e) /\ (dj.size = n) /\ (shiftUp ltInt e j dj = shiftUp ltInt e (i2 + 1) d3)) (fun | ⟨j, dj⟩ => [(0, nI b n c), (1, iV a), (2, iV e), (7, iV i2), (8, iV (5 - ((k + 1 : Nat) : Int))), (10, iV j)]) (fun _ => B) (fun _ => H) (fun | ⟨j, dj⟩ => ((t, cZ 80 b n c dj) :: S)) ⟨i2 + 1, d3⟩ ⟨by omega, hds3, rfl⟩ kno (fun w s => by exact s) ?_
     rintro ⟨j, dj⟩ ⟨hj, hdj, hJ⟩
     refine dS ?_
     refine g8 ?_
     refine aB rfl (fun hc1 => ?_) (fun hc2 => ?_)
     .have hj1 : j < e := by have := oT hc1; omega
      refine g11 ?_
      refine gL (i7 (j) (j - 1) rfl rfl hdj oM oM oM oM (g3 ?_))
      refine aB rfl (fun hc1 => ?_) (fun hc2 => ?_)
      .have hl : ltInt dj[j]! dj[j - 1]! = false := by rw [Bool.not_eq_true'] at hc1; exact hc1
       refine g8 ?_
       obtain ⟨d4, hd4, hds4, hO4⟩ : ∃ x, x = dj /\ x.size = n /\ partialIns ltInt a e k i2 x = partialInsertionSort ltInt d a e := ⟨_, rfl, hdj, by
        rw [<- hO]; symm; conv => lhs; unfold partialIns
        simp only [<- hi2]; rw [if_neg hie, if_neg h50]; simp only [<- hd2, <- hd3]; rw [if_pos h4, <- hJ, aDd (.inr hl)]⟩
       rw [<- hd4]
       refine g5 ?_
       refine aN ⟨k, i2, d4⟩ sO ⟨by omega, by omega, hds4, hO4⟩ kno (fun w s => by exact s)
      .have hl : ltInt dj[j]! dj[j - 1]! = true := by rw [Bool.not_eq_false'] at hc2; exact hc2
       refine g7 ?_
       refine gL (iO (j) (j - 1) rfl rfl hdj oM oM oM oM (g8 ?_))
       refine aN ⟨j + 1, swp dj j (j - 1)⟩ sO ⟨by omega, by rw [size_swp]; exact hdj, (aMd hj1 hl).trans hJ⟩ kno (fun w s => by exact s)
     .refine g6 ?_
      obtain ⟨d4, hd4, hds4, hO4⟩ : ∃ x, x = dj /\ x.size = n /\ partialIns ltInt a e k i2 x = partialInsertionSort ltInt d a e := ⟨_, rfl, hdj, by
       rw [<- hO]; symm; conv => lhs; unfold partialIns
       simp only [<- hi2]; rw [if_neg hie, if_neg h50]; simp only [<- hd2, <- hd3]; rw [if_pos h4, <- hJ, aDd (.inl (by have := oF hc2; omega))]⟩
      rw [<- hd4]
      refine g5 ?_
      refine aN ⟨k, i2, d4⟩ sO ⟨by omega, by omega, hds4, hO4⟩ kno (fun w s => by exact s)
    .have h4 : ¬ e - i2 ≥ 2 := by have := oF hc2; omega
     refine g3 ?_
     obtain ⟨d4, hd4, hds4, hO4⟩ : ∃ x, x = d3 /\ x.size = n /\ partialIns ltInt a e k i2 x = partialInsertionSort ltInt d a e := ⟨_, rfl, hds3, by
      rw [<- hO]; symm; conv => lhs; unfold partialIns
      simp only [<- hi2]; rw [if_neg hie, if_neg h50]; simp only [<- hd2, <- hd3]; rw [if_neg h4]⟩
     rw [<- hd4]
     refine g5 ?_
     refine aN ⟨k, i2, d4⟩ sO ⟨by omega, by omega, hds4, hO4⟩ kno (fun w s => by exact s)
 .obtain rfl : k = 0 := by have := oF hc2; omega
  have hend : partialInsertionSort ltInt d a e = (dk, false) := hO.symm
  refine g11 ?_
  rw [hend]
  refine aT (.inl rfl) rfl (aE rfl) fun w_ s_ => ⟨rfl, ?_⟩
  exact s_
end
open Go.RowKit Go.Fr Go.Tab
open Go.Shelf
def Tryz.l125_ren : Go.Shelf.Ren := ⟨fun | 125 => 115 | 128 => 134 | 129 => 135 | n => n, fun | 46 => 161 | 3 => 3 | 51 => 181 | 53 => 183 | 4 => 4 | 5 => 5 | 9 => 9 | n => n, fun | n => n⟩
theorem Tryz.l125 : Go.Proofs.Lays.n125 Tryz.prog Tryz.l125_ren := {
 mixed := by kernel_rfl
 f125 := Tryz.func115.trans (congrArg some kR)
 f128 := Tryz.func134.trans (congrArg some kR)
 f129 := Tryz.func135.trans (congrArg some kR)
 t3 := Tryz.underlying3
 a3 := Tryz.isAgg3
 z3 := Tryz.sizeOf3
 v3 := Tryz.zeroValue3
 t4 := Tryz.underlying4
 a4 := Tryz.isAgg4
 z4 := Tryz.sizeOf4
 v4 := Tryz.zeroValue4
 t5 := Tryz.underlying5
 a5 := Tryz.isAgg5
 z5 := Tryz.sizeOf5
 v5 := Tryz.zeroValue5
 t9 := Tryz.underlying9
 a9 := Tryz.isAgg9
 z9 := Tryz.sizeOf9
 v9 := Tryz.zeroValue9
 t46 := Tryz.underlying161
 a46 := Tryz.isAgg161
 z46 := Tryz.sizeOf161
 v46 := Tryz.zeroValue161
 t51 := Tryz.underlying181
 a51 := Tryz.isAgg181
 z51 := Tryz.sizeOf181
 v51 := Tryz.zeroValue181
 t53 := Tryz.underlying183
 a53 := Tryz.isAgg183
 z53 := Tryz.sizeOf183
 v53 := Tryz.zeroValue183 }
section
variable {F : Nat -> Prop} {w0 : World} {B : LN} {H : LV} {S : LS}
theorem rQ (x : Int) (h0 : 0 <= x) (h1 : x <= 18446744073709551615) (w : World) : CB 115 #[.int .u64 x] w (iV (Lib.bitLen x.toNat)) :=
 (Any.bits_Len Tryz.l125 x w h0 h1).mono fun e w' ⟨he, hw⟩ => ⟨he, hw ▸ Below.refl _ _⟩
theorem bla : ∀ (f x : Nat), x < 2 ^ f -> x < 2 ^ Lib.bitLenAux f x /\ (x ≠ 0 -> 2 ^ (Lib.bitLenAux f x - 1) <= x)
 | 0, x, h => by
  have : x = 0 := by simpa using h
  subst this; exact ⟨by decide, fun h => absurd rfl h⟩
 | f + 1, x, h => by
  rw [Nat.pow_succ] at h
  unfold Lib.bitLenAux
  by_cases h0 : x = 0
  .rw [if_pos h0]; subst h0; exact ⟨by decide, fun h => absurd rfl h⟩
  .rw [if_neg h0]
   obtain ⟨h1, h2⟩ := bla f (x / 2) oM
   refine ⟨by rw [Nat.add_comm 1, Nat.pow_succ]; omega, fun _ => ?_⟩
   rw [Nat.add_sub_cancel_left]
   by_cases h3 : x / 2 = 0
   .rw [h3]
    have e0 : Lib.bitLenAux f 0 = 0 := by cases f <;> simp [Lib.bitLenAux]
    rw [e0]; omega
   .have h4 := h2 h3
    have hp : 0 < Lib.bitLenAux f (x / 2) := by
     rcases Nat.eq_zero_or_pos (Lib.bitLenAux f (x / 2)) with e | e
     .rw [e] at h1; omega
     .exact e
    obtain ⟨k, hk⟩ : ∃ k, Lib.bitLenAux f (x / 2) = k + 1 := ⟨Lib.bitLenAux f (x / 2) - 1, by omega⟩
    rw [hk] at h4 ⊢
    rw [Nat.add_sub_cancel] at h4
    rw [Nat.pow_succ]; omega
theorem uL {n : Nat} (h : 1 <= n) (h2 : n <= 1000000000) : 2 ^ Lib.bitLen n <= 2 * n /\ 1 <= Lib.bitLen n /\ Lib.bitLen n <= 31 := by
 have hs := bla 64 n (Nat.lt_of_le_of_lt h2 dE)
 change n < 2 ^ Lib.bitLen n /\ (n ≠ 0 -> 2 ^ (Lib.bitLen n - 1) <= n) at hs
 have h3 := hs.2 oM
 have hL : 1 <= Lib.bitLen n := by
  rcases Nat.eq_zero_or_pos (Lib.bitLen n) with h0 | h0
  .rw [h0] at hs; omega
  .exact h0
 have h31 : Lib.bitLen n <= 31 := by
  rcases Nat.lt_or_ge 31 (Lib.bitLen n) with h' | h'
  .have := Nat.pow_le_pow_right (show 0 < 2 by decide) (show 31 <= Lib.bitLen n - 1 by omega)
   have e31 : (2 : Nat) ^ 31 = 2147483648 := by decide
   omega
  .exact h'
 refine ⟨?_, hL, h31⟩
 obtain ⟨k, hk⟩ : ∃ k, Lib.bitLen n = k + 1 := ⟨Lib.bitLen n - 1, by omega⟩
 rw [hk, Nat.add_sub_cancel] at h3
 rw [hk, Nat.pow_succ]; omega
theorem aKv (v : Int) {M : Nat} (h1 : 1 <= M) (h2 : M <= 4294967296) : ∃ o : Nat, o < M /\ IntKind.u64.wrap ((BitVec.ofInt IntKind.u64.bits v &&& BitVec.ofInt IntKind.u64.bits ((M : Int) - 1)).toNat : Int) = (o : Int) := by
 refine ⟨(BitVec.ofInt IntKind.u64.bits v &&& BitVec.ofInt IntKind.u64.bits ((M : Int) - 1)).toNat, ?_, mR ⟨by omega, ?_⟩⟩
 .have e : (BitVec.ofInt IntKind.u64.bits ((M : Int) - 1)).toNat = M - 1 := by
   rw [BitVec.toNat_ofInt, show IntKind.u64.bits = 64 from rfl, show ((M : Int) - 1) = ((M - 1 : Nat) : Int) by omega]
   rw [show (((M - 1 : Nat) : Int) % ((2 ^ 64 : Nat) : Int)) = ((M - 1 : Nat) : Int) by rw [Int.emod_eq_of_lt oM oM]]
   rfl
  rw [BitVec.toNat_and, e]
  have := @Nat.and_le_right (BitVec.ofInt IntKind.u64.bits v).toNat (M - 1)
  omega
 .have := (BitVec.ofInt IntKind.u64.bits v &&& BitVec.ofInt IntKind.u64.bits ((M : Int) - 1)).isLt
  have e : (2 : Nat) ^ IntKind.u64.bits = 18446744073709551616 := by decide
  omega
theorem zH (x : Nat) (h1 : 1 <= x) (h2 : x <= 1000000000) (w : World) : CB 148 #[iV ((x : Int))] w (.int .u64 ((2 ^ Lib.bitLen x : Nat) : Int)) := by
 refine aF (args := [iV ((x : Int))]) (L := [(0, iV ((x : Int)))]) (N := 10) Tryz.func148 rfl rfl ble rfl (sS w) ?_
 have hbl := uL h1 h2
 refine g8 ?_
 refine rl ((lE rfl kR kR).to (congrArg (Value.int .u64) (mR oM))) (gL (cvo (v := iV (Lib.bitLen x)) rfl (fun w_ s_ => (rQ _ oM oM w_).mT (cRr rfl)) (rZ6 ((lE rfl kR kR).to (congrArg (Value.int .u64) (mR oM))) ?_)))
 refine rZ4 ((aFi rfl rfl oM).to (v' := .int .u64 ((2 ^ Lib.bitLen x : Nat) : Int)) (congrArg (Value.int .u64) (by rw [Int.toNat_natCast, Nat.min_eq_left (Nat.le_trans hbl.2.2 dE), Int.one_mul, show ((2 : Int) ^ Lib.bitLen x) = ((2 ^ Lib.bitLen x : Nat) : Int) by simp]; exact mR ⟨Int.natCast_nonneg _, by have := hbl.1; omega⟩))) ?_
 refine aT (.inl rfl) rfl (aE rfl) fun w_ s_ => ⟨?_, s_.aPg⟩
 rfl
theorem aGp {cb : Nat} (hB : lkp 60 B = some cb) (x : Int) : ∀ w, Sees F w0 B ((ky 60 0, .int .u64 x) :: H) S w -> Calls Tryz.prog 149 #[pT cb] w fun e w' => ∃ v, True /\ e = .returned (.int .u64 v) /\ Sees F w0 B ((ky 60 0, .int .u64 v) :: H) S w' := by
 intro w s
 refine aF (args := [pT cb]) (L := [(0, pT cb)]) (N := 33) Tryz.func149 rfl rfl ble rfl s (g6 ?_)
 refine dH 9 kR kR (g6 ?_)
 refine rt (aFi rfl rfl oM) (rt (aEg rfl rfl) (g2 ?_))
 refine gL (sto 60 rfl rfl hB rfl (g3 ?_))
 refine dH 9 kR kR (g6 ?_)
 refine rt (aM4 rfl rfl oM) (rt (aEg rfl rfl) (g2 ?_))
 refine gL (sto 60 rfl rfl hB rfl (g3 ?_))
 refine dH 9 kR kR (g6 ?_)
 refine rt (aFi rfl rfl oM) (rt (aEg rfl rfl) (g2 ?_))
 refine gL (sto 60 rfl rfl hB rfl (g11 ?_))
 exact aT (.inl rfl) rfl (aE rfl) fun w_ s_ => ⟨_, trivial, rfl, s_.cell_last.cell_last.cell_last⟩
theorem o8 {t b n c cb : Nat} {d : Array Int} (hd : d.size = n) (hn : n <= 1000000000) (hB : lkp 60 B = some cb) (s0 : Int) {lo hi : Nat} (hhi : hi <= n) (p q : Nat) (hp : lo <= p /\ p < hi) (hq : lo <= q /\ q < hi) : ∀ w, Sees F w0 B ((ky 60 0, iV s0) :: H) ((t, cZ 80 b n c d) :: S) w -> Calls Tryz.prog 155 #[nI b n c, iV p, iV q, pT cb] w fun e_ w' => ∃ x : Nat × Nat × Int, ((lo <= x.1 /\ x.1 < hi) /\ lo <= x.2.1 /\ x.2.1 < hi) /\ e_ = .returned (.tuple #[iV x.1, iV x.2.1]) /\ Sees F w0 B ((ky 60 0, iV x.2.2) :: H) ((t, cZ 80 b n c d) :: S) w' := by
 intro w s
 refine aF (args := [nI b n c, iV p, iV q, pT cb]) (L := [(0, nI b n c), (1, iV p), (2, iV q), (3, pT cb)]) (N := 23) Tryz.func155 rfl rfl ble rfl s (g12 ?_)
 refine gL (i7 (q) (p) rfl rfl hd oM oM oM oM (g2 ?_))
 refine aB rfl (fun hc1 => ?_) (fun hc2 => ?_)
 .refine g7 ?_
  refine gL (sto 60 rfl rfl hB rfl (g12 ?_))
  exact d9 (.inl rfl) rfl (aE rfl) (aE rfl) fun w_ s_ => ⟨(q, p, _), ⟨hq, hp⟩, rfl, s_.cell_last⟩
 .refine g11 ?_
  exact d9 (.inl rfl) rfl (aE rfl) (aE rfl) fun w_ s_ => ⟨(p, q, _), ⟨hp, hq⟩, rfl, s_⟩
theorem tY {t b n c cb : Nat} {d : Array Int} (hd : d.size = n) (hn : n <= 1000000000) (hB : lkp 60 B = some cb) (s0 : Int) {lo hi : Nat} (hhi : hi <= n) (p q r : Nat) (hp : lo <= p /\ p < hi) (hq : lo <= q /\ q < hi) (hr : lo <= r /\ r < hi) : ∀ w, Sees F w0 B ((ky 60 0, iV s0) :: H) ((t, cZ 80 b n c d) :: S) w -> Calls Tryz.prog 151 #[nI b n c, iV p, iV q, iV r, pT cb] w fun e_ w' => ∃ x : Nat × Int, (lo <= x.1 /\ x.1 < hi) /\ e_ = .returned (iV x.1) /\ Sees F w0 B ((ky 60 0, iV x.2) :: H) ((t, cZ 80 b n c d) :: S) w' := by
 intro w s
 refine aF (args := [nI b n c, iV p, iV q, iV r, pT cb]) (L := [(0, nI b n c), (1, iV p), (2, iV q), (3, iV r), (4, pT cb)]) (N := 36) Tryz.func151 rfl rfl ble rfl s (g11 ?_)
 refine gL (cao (ι := Nat × Nat × Int) (fun x => .tuple #[iV x.1, iV x.2.1]) (fun x => (lo <= x.1 /\ x.1 < hi) /\ lo <= x.2.1 /\ x.2.1 < hi) (fun _ => B) (fun x => (ky 60 0, iV x.2.2) :: H) (fun _ => ((t, cZ 80 b n c d) :: S)) rfl (fun w_ s_ => o8 hd hn hB s0 hhi p q hp hq w_ s_) (fun | (x1, y1, z1), ⟨hx1, hy1⟩ => g13 ?_))
 refine gL (cao (ι := Nat × Nat × Int) (fun x => .tuple #[iV x.1, iV x.2.1]) (fun x => (lo <= x.1 /\ x.1 < hi) /\ lo <= x.2.1 /\ x.2.1 < hi) (fun _ => B) (fun x => (ky 60 0, iV x.2.2) :: H) (fun _ => ((t, cZ 80 b n c d) :: S)) rfl (fun w_ s_ => o8 hd hn hB z1 hhi y1 r hy1 hr w_ s_) (fun | (x2, y2, z2), ⟨hx2, hy2⟩ => g13 ?_))
 refine gL (cao (ι := Nat × Nat × Int) (fun x => .tuple #[iV x.1, iV x.2.1]) (fun x => (lo <= x.1 /\ x.1 < hi) /\ lo <= x.2.1 /\ x.2.1 < hi) (fun _ => B) (fun x => (ky 60 0, iV x.2.2) :: H) (fun _ => ((t, cZ 80 b n c d) :: S)) rfl (fun w_ s_ => o8 hd hn hB z2 hhi x1 x2 hx1 hx2 w_ s_) (fun | (x3, y3, z3), ⟨hx3, hy3⟩ => g14 ?_))
 exact aT (.inl rfl) rfl (aE rfl) fun w_ s_ => ⟨(y3, z3), hy3, rfl, s_⟩
theorem oR {t b n c cb : Nat} {d : Array Int} (hd : d.size = n) (hn : n <= 1000000000) (hB : lkp 60 B = some cb) (s0 : Int) {lo hi : Nat} (hhi : hi <= n) (p : Nat) (hp : lo + 1 <= p /\ p + 1 < hi) : ∀ w, Sees F w0 B ((ky 60 0, iV s0) :: H) ((t, cZ 80 b n c d) :: S) w -> Calls Tryz.prog 150 #[nI b n c, iV p, pT cb] w fun e_ w' => ∃ x : Nat × Int, (lo <= x.1 /\ x.1 < hi) /\ e_ = .returned (iV x.1) /\ Sees F w0 B ((ky 60 0, iV x.2) :: H) ((t, cZ 80 b n c d) :: S) w' := by
 intro w s
 refine aF (args := [nI b n c, iV p, pT cb]) (L := [(0, nI b n c), (1, iV p), (2, pT cb)]) (N := 15) Tryz.func150 rfl rfl ble rfl s (g14 ?_)
 refine gL (cao (ι := Nat × Int) (fun x => iV x.1) (fun x => lo <= x.1 /\ x.1 < hi) (fun _ => B) (fun x => (ky 60 0, iV x.2) :: H) (fun _ => ((t, cZ 80 b n c d) :: S)) rfl (fun w_ s_ => (by have := tY hd hn hB s0 (lo := lo) hhi (p - 1) p (p + 1) oM oM oM w_ s_; rw [show ((p - 1 : Nat) : Int) = (p : Int) - 1 by omega, show ((p + 1 : Nat) : Int) = (p : Int) + 1 by omega] at this; exact this)) (fun | (x1, z1), hx1 => g4 ?_))
 exact aT (.inl rfl) rfl (aE rfl) fun w_ s_ => ⟨(x1, z1), hx1, rfl, s_⟩
theorem aBv {t b n c : Nat} {d : Array Int} (hd : d.size = n) (hn : n <= 1000000000) (hlim : Lim 60 B H ((t, cZ 80 b n c d) :: S)) (a e : Nat) (hae : a + 12 < e) (hhi : e <= n) : ∀ w, Sees F w0 B H ((t, cZ 80 b n c d) :: S) w -> Calls Tryz.prog 139 #[nI b n c, iV a, iV e] w fun e_ w' => ∃ x : Nat × Int, (a <= x.1 /\ x.1 < e) /\ e_ = .returned (.tuple #[iV x.1, iV x.2]) /\ Sees F w0 B H ((t, cZ 80 b n c d) :: S) w' := by
 intro w s
 refine aF (args := [nI b n c, iV a, iV e]) (L := [(0, nI b n c), (1, iV a), (2, iV e)]) (N := 57) Tryz.func139 rfl rfl ble rfl s (g16 ?_)
 refine gL (alo 60 (cs := [iV 0]) kR (hlim.b 60 dE) (fun cb hcb => g30 ?_))
 refine g9 ?_
 refine bK rfl (decide_eq_true oM) ?_
 refine cO (ι := (Nat) × (Nat) × (Nat) × (Int)) (fun | ⟨i, j, k, s0⟩ => (a <= i /\ i < e) /\ (a <= j /\ j < e) /\ (a <= k /\ k < e)) (fun | ⟨i, j, k, s0⟩ => [(0, nI b n c), (9, pT cb), (10, iV i), (11, iV j), (12, iV k)]) (fun _ => ((60, cb) :: B)) (fun | ⟨i, j, k, s0⟩ => (ky 60 0, iV s0) :: H) (fun _ => ((t, cZ 80 b n c d) :: S)) ?_ ?_
 .refine g6 ?_
  refine aB rfl (fun hc1 => ?_) (fun hc2 => ?_)
  .have h50 : 50 <= e - a := by have := oT hc1; omega
   refine g4 ?_
   refine gL (cao (ι := Nat × Int) (fun x => iV x.1) (fun x => a <= x.1 /\ x.1 < e) (fun _ => ((60, cb) :: B)) (fun x => (ky 60 0, iV x.2) :: H) (fun _ => ((t, cZ 80 b n c d) :: S)) rfl (fun w_ s_ => (by have := oR (H := H) hd hn (cb := cb) (B := ((60, cb) :: B)) rfl 0 hhi (lo := a) (a + (e - a) / 4 * 1) oM w_ s_; rw [show (((a + (e - a) / 4 * 1) : Nat) : Int) = (a : Int) + ((e : Int) - a) / 4 * 1 by omega] at this; exact this)) (fun | (x1, z1), hx1 => g7 ?_))
   refine gL (cao (ι := Nat × Int) (fun x => iV x.1) (fun x => a <= x.1 /\ x.1 < e) (fun _ => ((60, cb) :: B)) (fun x => (ky 60 0, iV x.2) :: H) (fun _ => ((t, cZ 80 b n c d) :: S)) rfl (fun w_ s_ => (by have := oR (H := H) hd hn (cb := cb) (B := ((60, cb) :: B)) rfl z1 hhi (lo := a) (a + (e - a) / 4 * 2) oM w_ s_; rw [show (((a + (e - a) / 4 * 2) : Nat) : Int) = (a : Int) + ((e : Int) - a) / 4 * 2 by omega] at this; exact this)) (fun | (x2, z2), hx2 => g6 ?_))
   refine gL (cao (ι := Nat × Int) (fun x => iV x.1) (fun x => a <= x.1 /\ x.1 < e) (fun _ => ((60, cb) :: B)) (fun x => (ky 60 0, iV x.2) :: H) (fun _ => ((t, cZ 80 b n c d) :: S)) rfl (fun w_ s_ => (by have := oR (H := H) hd hn (cb := cb) (B := ((60, cb) :: B)) rfl z2 hhi (lo := a) (a + (e - a) / 4 * 3) oM w_ s_; rw [show (((a + (e - a) / 4 * 3) : Nat) : Int) = (a : Int) + ((e : Int) - a) / 4 * 3 by omega] at this; exact this)) (fun | (x3, z3), hx3 => g2 ?_))
   refine aK (ι := Nat × Nat × Nat × Int) ⟨x1, x2, x3, z3⟩ ⟨by omega, by omega, by omega⟩ kno (fun w s => s)
  .skip
   refine g1 ?_
   refine aK (ι := Nat × Nat × Nat × Int) ⟨a + (e - a) / 4 * 1, a + (e - a) / 4 * 2, a + (e - a) / 4 * 3, 0⟩ ⟨by omega, by omega, by omega⟩ kno (fun w s => s)
 rintro ⟨i, j, k, s0⟩ ⟨hi, hj, hk⟩
 refine dS ?_
 refine g5 ?_
 refine gL (cao (ι := Nat × Int) (fun x => iV x.1) (fun x => a <= x.1 /\ x.1 < e) (fun _ => ((60, cb) :: B)) (fun x => (ky 60 0, iV x.2) :: H) (fun _ => ((t, cZ 80 b n c d) :: S)) rfl (fun w_ s_ => tY (H := H) hd hn rfl s0 hhi i j k hi hj hk w_ s_) (fun | (x4, z4), hx4 => g15 ?_))
 refine aB rfl (fun hc1 => ?_) (fun hc2 => ?_)
 .refine g9 ?_
  exact d9 (.inl rfl) rfl (aE rfl) (aE rfl) fun w_ s_ => ⟨(x4, 1), hx4, rfl, s_.low 60 hlim agx agx agx⟩
 .refine g6 ?_
  refine aB rfl (fun hc1 => ?_) (fun hc2 => ?_)
  .refine g9 ?_
   exact d9 (.inl rfl) rfl (aE rfl) (aE rfl) fun w_ s_ => ⟨(x4, 2), hx4, rfl, s_.low 60 hlim agx agx agx⟩
  .refine g9 ?_
   exact d9 (.inl rfl) rfl (aE rfl) (aE rfl) fun w_ s_ => ⟨(x4, 0), hx4, rfl, s_.low 60 hlim agx agx agx⟩
end
open Go.RowKit Go.Fr Go.Tab
section
variable {F : Nat -> Prop} {w0 : World} {B : LN} {H : LV} {S : LS}
open Go.Sort Go.Md
theorem aDq {t b n c : Nat} {d : Array Int} (hd : d.size = n) (hn : n <= 1000000000) (hlim : Lim 60 B H S) (ht : t < 60) (a e : Nat) (hae : a + 12 < e) (he : e <= n) : ∀ w, Sees F w0 B H ((t, cZ 80 b n c d) :: S) w -> Calls Tryz.prog 138 #[nI b n c, iV a, iV e] w fun e_ w' => ∃ x : Array Int, (x.size = n /\ PermIn a e d x) /\ e_ = .returned (.tuple #[]) /\ Sees F w0 B H ((t, cZ 80 b n c x) :: S) w' := by
 have hl2 : Lim 60 B H ((t, cZ 80 b n c d) :: S) := hlim.aPi ht
 have hbl := uL (n := e - a) oM oM
 intro w s
 refine aF (args := [nI b n c, iV a, iV e]) (L := [(0, nI b n c), (1, iV a), (2, iV e)]) (N := 53) Tryz.func138 rfl rfl ble rfl s (g14 ?_)
 refine bK rfl (decide_eq_true oM) ?_
 refine g3 ?_
 refine rl ((lE rfl kR kR).to (congrArg (Value.int .u64) (mR oM))) (gL (alo 60 (cs := [.int .u64 0]) kR (hlim.b 60 dE) (fun cb hcb => gL (sto 60 rfl rfl rfl rfl (g5 ?_)))))
 refine gL (cvo (v := (.int .u64 ((2 ^ Lib.bitLen (e - a) : Nat) : Int))) rfl (fun w_ s_ => by have := zH (e - a) oM oM w_; rw [show ((e - a : Nat) : Int) = (e : Int) - a by omega] at this; exact this) (g15 ?_))
 obtain ⟨M, hM⟩ : ∃ M, M = 2 ^ Lib.bitLen (e - a) := ⟨_, rfl⟩
 have hM1 : 1 <= M := by rw [hM]; exact Nat.one_le_two_pow
 have hM2 : M <= 2 * (e - a) := by rw [hM]; exact hbl.1
 rw [<- hM]
 refine aY (ι := (Nat) × (Int) × (Array Int)) (fun | ⟨i, v, dk⟩ => a + (e - a) / 4 * 2 + 3 - i) (fun | ⟨i, v, dk⟩ => (a <= i /\ i <= a + (e - a) / 4 * 2 + 2) /\ (dk.size = n) /\ (PermIn a e d dk)) (fun | ⟨i, v, dk⟩ => [(0, nI b n c), (1, iV a), (6, iV (((e : Int) - a))), (7, pT cb), (8, .int .u64 (M : Int)), (9, iV i)]) (fun _ => ((60, cb) :: B)) (fun | ⟨i, v, dk⟩ => (ky 60 0, .int .u64 v) :: H) (fun | ⟨i, v, dk⟩ => ((t, cZ 80 b n c dk) :: S)) ⟨a + (e - a) / 4 * 2 - 1, _, d⟩ ⟨by omega, hd, permIn_refl _ _ _⟩ kno (fun w s => by exact s.cell_last) ?_
 rintro ⟨i, v, dk⟩ ⟨hi, hds, hP⟩
 refine dS ?_
 refine g13 ?_
 refine aB rfl (fun hc1 => ?_) (fun hc2 => ?_)
 .have hle : i <= a + (e - a) / 4 * 2 + 1 := by have := oT hc1; omega
  refine g6 ?_
  refine gL (cao (ι := Int) (fun x => .int .u64 x) (fun _ => True) (fun _ => ((60, cb) :: B)) (fun x => (ky 60 0, .int .u64 x) :: H) (fun _ => ((t, cZ 80 b n c dk) :: S)) rfl (fun w_ s_ => aGp (H := H) rfl v w_ s_) (fun v2 _ => g1 ?_))
  refine rl ((n8 rfl rfl).to (v' := .int .u64 ((M : Int) - 1)) (congrArg (Value.int .u64) (mR oM))) ?_
  obtain ⟨o, ho, hov⟩ := aKv v2 hM1 oM
  refine rl ((aM0 rfl rfl).to (v' := .int .u64 (o : Int)) (congrArg (Value.int .u64) hov)) (g12 ?_)
  refine aB rfl (fun hc1 => ?_) (fun hc2 => ?_)
  .have hge : e - a <= o := by have := oT hc1; omega
   refine g13 ?_
   refine gL (iO i (a + (o - (e - a))) rfl rfl hds rfl oM oM oM (g8 ?_))
   refine aN ⟨i + 1, v2, swp dk i (a + (o - (e - a)))⟩ sO ⟨by omega, by rw [size_swp]; exact hds, permIn_trans _ _ _ _ _ hP (swp_permIn _ _ _ _ _ oM oM oM oM oM)⟩ kno (fun w s => by exact s)
  .have hge : ¬ e - a <= o := by have := oF hc2; omega
   refine g8 ?_
   refine gL (iO i (a + o) rfl rfl hds rfl oM oM oM (g8 ?_))
   refine aN ⟨i + 1, v2, swp dk i (a + o)⟩ sO ⟨by omega, by rw [size_swp]; exact hds, permIn_trans _ _ _ _ _ hP (swp_permIn _ _ _ _ _ oM oM oM oM oM)⟩ kno (fun w s => by exact s)
 .skip
  refine g4 ?_
  exact fI (.inr rfl) rfl fun w_ s_ => ⟨dk, ⟨hds, hP⟩, rfl, s_.low 60 (hlim.aPi ht) agx agx agx⟩
theorem aHl {t b n c : Nat} (hn : n <= 1000000000) (hlim : Lim 60 B H S) (ht : t < 60) : ∀ (m : Nat) {d : Array Int} (hd : d.size = n) (a e lm : Nat) (hm : e - a <= m) (hae : a <= e) (he : e <= n) (hlm : lm <= 1000) (hB0 : Go.Sort.Below ltInt a e d), ∀ w, Sees F w0 B H ((t, cZ 80 b n c d) :: S) w -> Calls Tryz.prog 116 #[nI b n c, iV a, iV e, iV lm] w fun e_ w' => ∃ x : Array Int, (PermIn a e d x /\ SortedIn ltInt a e x) /\ e_ = .returned (.tuple #[]) /\ Sees F w0 B H ((t, cZ 80 b n c x) :: S) w' := by
 intro m
 induction m using Nat.strongRecOn with
 | _ m ih =>
 intro d hd a e lm hm hae he hlm hB0
 intro w s
 refine aF (args := [nI b n c, iV a, iV e, iV lm]) (L := [(0, nI b n c), (1, iV a), (2, iV e), (3, iV lm)]) (N := 129) Tryz.func116 rfl rfl ble rfl s (g11 ?_)
 refine aY (ι := (Nat) × (Nat) × (Nat) × (Bool) × (Bool) × (Array Int)) (fun | ⟨a1, e1, lk, wb, wp, d1⟩ => e1 - a1) (fun | ⟨a1, e1, lk, wb, wp, d1⟩ => (a <= a1 /\ a1 <= e1 /\ e1 <= e /\ lk <= 1000) /\ (d1.size = n) /\ (Go.Sort.Below ltInt a1 e1 d1) /\ (∀ R, PermIn a1 e1 d1 R -> SortedIn ltInt a1 e1 R -> PermIn a e d R /\ SortedIn ltInt a e R)) (fun | ⟨a1, e1, lk, wb, wp, d1⟩ => [(0, nI b n c), (1, iV a1), (2, iV e1), (3, iV lk), (8, .bool wb), (9, .bool wp)]) (fun _ => B) (fun _ => H) (fun | ⟨a1, e1, lk, wb, wp, d1⟩ => ((t, cZ 80 b n c d1) :: S)) ⟨a, e, lm, true, true, d⟩ ⟨by omega, hd, hB0, fun R h1 h2 => ⟨h1, h2⟩⟩ kno (fun w s => by exact s) ?_
 rintro ⟨a1, e1, lk, wb, wp, d1⟩ ⟨hr, hds, hB1, hC⟩
 refine dS ?_
 refine g16 ?_
 refine aB rfl (fun hc1 => ?_) (fun hc2 => ?_)
 .have hins := insertionSort_holds (lt := ltInt) swo_ltInt d1 a1 e1 oM oM
  refine g5 ?_
  refine gL (jC (.tuple #[]) (S' := ((t, cZ 80 b n c (insertionSort ltInt d1 a1 e1)) :: S)) rfl (fun w_ s_ => vX hds hn a1 e1 oM oM w_ s_) (g7 ?_))
  exact fI (.inl rfl) rfl fun w_ s_ => ⟨_, hC _ hins.1 hins.2, rfl, s_⟩
 .have h12 : 12 < e1 - a1 := by have := oF hc2; omega
  refine g9 ?_
  refine aB rfl (fun hc1 => ?_) (fun hc2 => ?_)
  .have hhp := heapSort_holds (lt := ltInt) swo_ltInt d1 a1 e1 oM oM
   refine g5 ?_
   refine gL (jC (.tuple #[]) (S' := ((t, cZ 80 b n c (heapSort ltInt d1 a1 e1)) :: S)) rfl (fun w_ s_ => aEq hds hn a1 e1 oM oM w_ s_) (g7 ?_))
   exact fI (.inl rfl) rfl fun w_ s_ => ⟨_, hC _ hhp.1 hhp.2, rfl, s_⟩
  .have hlk : lk ≠ 0 := by have := beq_eq_false_iff_ne.1 hc2; omega
   refine g2 ?_
   refine cO (ι := (Nat) × (Array Int)) (fun | ⟨lk2, d2⟩ => (lk2 <= 1000) /\ (d2.size = n /\ PermIn a1 e1 d1 d2)) (fun | ⟨lk2, d2⟩ => [(0, nI b n c), (1, iV a1), (2, iV e1), (3, iV lk2), (8, .bool wb), (9, .bool wp), (10, iV ((e1 : Int) - a1))]) (fun _ => B) (fun _ => H) (fun | ⟨lk2, d2⟩ => ((t, cZ 80 b n c d2) :: S)) ?_ ?_
   .refine g6 ?_
    refine aB rfl (fun hc1 => ?_) (fun hc2 => ?_)
    .refine g5 ?_
     refine gL (mZ (ι := Array Int) (fun _ => .tuple #[]) (fun x => x.size = n /\ PermIn a1 e1 d1 x) (fun x => ((t, cZ 80 b n c x) :: S)) rfl (fun w_ s_ => aDq hds hn hlim ht a1 e1 oM oM w_ s_) (fun x2 hx2 => g7 ?_))
     refine aK (ι := Nat × Array Int) ⟨lk - 1, x2⟩ ⟨by omega, hx2⟩ kno (fun w s => s)
    .refine g1 ?_
     refine aK (ι := Nat × Array Int) ⟨lk, d1⟩ ⟨by omega, ⟨hds, permIn_refl _ _ _⟩⟩ kno (fun w s => s)
   rintro ⟨lk2, d2⟩ ⟨hl2, hP2⟩
   refine dS ?_
   refine g5 ?_
   refine gL (mZ (ι := Nat × Int) (fun x => .tuple #[iV x.1, iV x.2]) (fun x => a1 <= x.1 /\ x.1 < e1) (fun _ => ((t, cZ 80 b n c d2) :: S)) rfl (fun w_ s_ => aBv hP2.1 hn (hlim.aPi ht) a1 e1 oM oM w_ s_) (fun | (p1, h1), hp1 => g7 ?_))
   refine cO (ι := (Nat) × (Int) × (Array Int)) (fun | ⟨p2, hint, d3⟩ => (a1 <= p2 /\ p2 < e1) /\ (d3.size = n /\ PermIn a1 e1 d1 d3)) (fun | ⟨p2, hint, d3⟩ => [(0, nI b n c), (1, iV a1), (2, iV e1), (3, iV lk2), (8, .bool wb), (9, .bool wp), (10, iV ((e1 : Int) - a1)), (11, iV p2), (12, iV hint)]) (fun _ => B) (fun _ => H) (fun | ⟨p2, hint, d3⟩ => ((t, cZ 80 b n c d3) :: S)) ?_ ?_
   .refine g6 ?_
    refine aB rfl (fun hc1 => ?_) (fun hc2 => ?_)
    .refine g5 ?_
     refine gL (jC (.tuple #[]) (S' := ((t, cZ 80 b n c (reverseRange d2 a1 e1)) :: S)) rfl (fun w_ s_ => zB hP2.1 hn a1 e1 oM oM w_ s_) ?_)
     have hrv := reverseRange_holds d2 a1 e1 oM oM
     refine g16 ?_
     refine aK (ι := Nat × Int × Array Int) ⟨(e1 - 1) - (p1 - a1), 1, reverseRange d2 a1 e1⟩ ⟨by omega, ⟨hrv.1.trans hP2.1, permIn_trans _ _ _ _ _ hP2.2 hrv⟩⟩ kno (fun w s => s)
    .refine g1 ?_
     refine aK (ι := Nat × Int × Array Int) ⟨p1, h1, d2⟩ ⟨by omega, hP2⟩ kno (fun w s => s)
   rintro ⟨p2, hint, d3⟩ ⟨hp2, hP3⟩
   refine dS ?_
   refine cO (ι := (Array Int)) (fun d4 => (d4.size = n /\ PermIn a1 e1 d1 d4)) (fun d4 => [(0, nI b n c), (1, iV a1), (2, iV e1), (3, iV lk2), (8, .bool wb), (9, .bool wp), (10, iV ((e1 : Int) - a1)), (11, iV p2)]) (fun d4 => B) (fun d4 => H) (fun d4 => ((t, cZ 80 b n c d4) :: S)) ?_ ?_
   .refine g1 ?_
    rcases (show (wb = true /\ wp = true) \/ (wb = true /\ wp = false) \/ wb = false by cases wb <;> cases wp <;> simp) with ⟨rfl, rfl⟩ | ⟨rfl, rfl⟩ | rfl
    .refine g14 ?_
     refine aB rfl (fun hc1 => ?_) (fun hc2 => ?_)
     .skip
      refine g5 ?_
      refine gL (jC (.bool (partialInsertionSort ltInt d3 a1 e1).2) (S' := ((t, cZ 80 b n c (partialInsertionSort ltInt d3 a1 e1).1) :: S)) rfl (fun w_ s_ => zD hP3.1 hn a1 e1 oM oM w_ s_) ?_)
      have hpi := partialInsertionSort_holds (lt := ltInt) swo_ltInt d3 a1 e1 oM oM (hB1.perm oM hP3.2)
      refine g2 ?_
      refine aB rfl (fun hc1 => ?_) (fun hc2 => ?_)
      .have hpt : (partialInsertionSort ltInt d3 a1 e1).2 = true := hc1
       refine g5 ?_
       exact fI (.inl rfl) rfl fun w_ s_ => ⟨_, hC _ (permIn_trans _ _ _ _ _ hP3.2 hpi.1) (hpi.2 hpt), rfl, s_⟩
      .refine g1 ?_
       refine aK (ι := Array Int) (partialInsertionSort ltInt d3 a1 e1).1 ⟨hpi.1.1.trans hP3.1, permIn_trans _ _ _ _ _ hP3.2 hpi.1⟩ kno (fun w s => s)
     .refine g1 ?_
      refine aK (ι := Array Int) d3 hP3 kno (fun w s => s)
    .refine oD ?_
     refine aK (ι := Array Int) d3 hP3 kno (fun w s => s)
    .refine pA ?_
     refine aK (ι := Array Int) d3 hP3 kno (fun w s => s)
   rintro d4 hP4
   refine dS ?_
   have hB4 : Go.Sort.Below ltInt a1 e1 d4 := hB1.perm oM hP4.2
   refine cO (ι := (Unit)) (fun u => True) (fun u => [(0, nI b n c), (1, iV a1), (2, iV e1), (3, iV lk2), (8, .bool wb), (9, .bool wp), (10, iV ((e1 : Int) - a1)), (11, iV p2)]) (fun u => B) (fun u => H) (fun u => ((t, cZ 80 b n c d4) :: S)) ?_ ?_
   .refine g1 ?_
    by_cases hp0 : 0 < a1
    .refine g2 ?_
     refine rl ((bU rfl rfl).to bT) (g10 ?_)
     refine gL (i7 (a1 - 1) (p2) rfl rfl hP4.1 oM oM oM oM (g5 ?_))
     refine aB rfl (fun hc1 => ?_) (fun hc2 => ?_)
     .have hnl : ltInt d4[a1 - 1]! d4[p2]! = false := by rw [Bool.not_eq_true'] at hc1; exact hc1
      refine g6 ?_
      refine gL (jC (iV ((partitionEqual ltInt d4 a1 e1 p2).1 : Nat)) (S' := ((t, cZ 80 b n c (partitionEqual ltInt d4 a1 e1 p2).2) :: S)) rfl (fun w_ s_ => aBf hP4.1 hn a1 e1 p2 oM oM oM w_ s_) ?_)
      obtain ⟨q1, q2, q3, q4, q5⟩ := round_eq swo_ltInt (partitionEqual_holds ltInt) (d3 := d4) (a := a1) (b := e1) (pivot := p2) (mid := (partitionEqual ltInt d4 a1 e1 p2).1) (d4 := (partitionEqual ltInt d4 a1 e1 p2).2) hp0 oM oM oM hB4 hnl rfl
      refine g12 ?_
      refine aN ⟨(partitionEqual ltInt d4 a1 e1 p2).1, e1, lk2, wb, wp, (partitionEqual ltInt d4 a1 e1 p2).2⟩ sO ⟨by omega, q3.trans hP4.1, q4, fun R h1 h2 => by have h3 := q5 R h1 h2; exact hC R (permIn_trans _ _ _ _ _ hP4.2 h3.1) h3.2⟩ kno (fun w s => by exact s)
     .skip
      refine g1 ?_
      refine aK (ι := Unit) () trivial kno (fun w s => s)
    .refine g2 ?_
     refine rl ((bU rfl rfl).to bF) (l5 ?_)
     refine aK (ι := Unit) () trivial kno (fun w s => s)
   rintro u -
   refine dS ?_
   refine g6 ?_
   refine gL (jC (.tuple #[iV ((partition ltInt d4 a1 e1 p2).1 : Nat), .bool (partition ltInt d4 a1 e1 p2).2.1]) (S' := ((t, cZ 80 b n c (partition ltInt d4 a1 e1 p2).2.2) :: S)) rfl (fun w_ s_ => wB hP4.1 hn a1 e1 p2 oM oM oM w_ s_) ?_)
   obtain ⟨q1, q2, q3, q4, q5, q6, q7⟩ := round_part swo_ltInt (partition_holds ltInt) (d3 := d4) (a := a1) (b := e1) (pivot := p2) (mid := (partition ltInt d4 a1 e1 p2).1) (ap := (partition ltInt d4 a1 e1 p2).2.1) (d4 := (partition ltInt d4 a1 e1 p2).2.2) oM oM oM hB4 rfl
   generalize (partition ltInt d4 a1 e1 p2).1 = mid at *
   generalize (partition ltInt d4 a1 e1 p2).2.1 = ap at *
   generalize (partition ltInt d4 a1 e1 p2).2.2 = d5 at *
   refine g30 ?_
   refine g9 ?_
   refine aB rfl (fun hc1 => ?_) (fun hc2 => ?_)
   .refine g14 ?_
    have ih2 := ih (mid - (a1)) oM (d := d5) (q3.trans hP4.1) (a1) (mid) lk2 (Nat.le_refl _) oM oM hl2 q4
    refine gL (mZ (ι := Array Int) (fun _ => .tuple #[]) (fun x => PermIn (a1) (mid) d5 x /\ SortedIn ltInt (a1) (mid) x) (fun x => ((t, cZ 80 b n c x) :: S)) rfl ih2 (fun L ⟨hL1, hL2⟩ => g8 ?_))
    refine aN ⟨mid + 1, e1, lk2, decide (((e1 : Int) - a1) / 8 <= (mid : Int) - a1), ap, L⟩ sO ⟨by omega, hL1.1.trans (q3.trans hP4.1), (q6 L hL1 hL2).1, fun R h1 h2 => by have h3 := (q6 L hL1 hL2).2 R h1 h2; exact hC R (permIn_trans _ _ _ _ _ hP4.2 h3.1) h3.2⟩ kno (fun w s => by exact s)
   .refine g15 ?_
    have ih2 := ih (e1 - (mid + 1)) oM (d := d5) (q3.trans hP4.1) (mid + 1) (e1) lk2 (Nat.le_refl _) oM oM hl2 q5
    rw [show ((mid + 1 : Nat) : Int) = (mid : Int) + 1 by omega] at ih2
    refine gL (mZ (ι := Array Int) (fun _ => .tuple #[]) (fun x => PermIn (mid + 1) (e1) d5 x /\ SortedIn ltInt (mid + 1) (e1) x) (fun x => ((t, cZ 80 b n c x) :: S)) rfl ih2 (fun L ⟨hL1, hL2⟩ => g7 ?_))
    refine aN ⟨a1, mid, lk2, decide (((e1 : Int) - a1) / 8 <= (e1 : Int) - mid), ap, L⟩ sO ⟨by omega, hL1.1.trans (q3.trans hP4.1), (q7 L hL1 hL2).1, fun R h1 h2 => by have h3 := (q7 L hL1 hL2).2 R h1 h2; exact hC R (permIn_trans _ _ _ _ _ hP4.2 h3.1) h3.2⟩ kno (fun w s => by exact s)
theorem aC2 (p : Option Addr) (n c : Nat) (w : World) : CB 183 #[.slice p n c] w (iV n) := by
 refine aF (args := [.slice p n c]) (L := [(0, .slice p n c)]) (N := 5) Tryz.func183 rfl rfl ble rfl (sS w) (g13 ?_)
 exact aT (.inl rfl) rfl (aE rfl) fun w_ s_ => ⟨rfl, s_.aPg⟩
theorem o6 {t : Nat} {ts : List Int} {p : Option Addr} {c : Nat} (ht : t < 60) (hn : ts.length <= 1000000000) (hlim : Lim 60 B H S) (hrow : lkp t S = some ⟨.slice p ts.length c, 80, 2, ts.length, bS ts⟩) : ∀ w, Sees F w0 B H S w -> Calls Tryz.prog 93 #[.iface 141 (.slice p ts.length c)] w fun e w' => e = .returned (.tuple #[]) /\ Sees F w0 B H ((t, ⟨.slice p ts.length c, 80, 2, ts.length, bS (eM ts)⟩) :: S) w' := by
 intro w s
 refine aF (args := [.iface 141 (.slice p ts.length c)]) (L := [(0, .iface 141 (.slice p ts.length c))]) (N := 15) Tryz.func93 rfl rfl ble rfl s (g3 ?_)
 refine gL (vS (v := iV (ts.length : Int)) (rv := .slice p ts.length c) (f := 183) dE rfl kW kR rfl (fun w_ s_ => aC2 _ _ _ w_) (g10 ?_))
 refine aB rfl (fun hc1 => ?_) (fun hc2 => ?_)
 .have h1 : ts.length <= 1 := by have := oT hc1; omega
  have hst : eM ts = ts := by
   match ts, h1 with
   | [], _ => unfold eM; simp
   | [x], _ => unfold eM; simp
  refine g2 ?_
  exact fI (.inl rfl) rfl fun w_ s_ => ⟨rfl, by rw [hst]; exact s_.rowTo hrow⟩
 .have h1 : ¬ ts.length <= 1 := by have := oF hc2; omega
  refine cQ (fun w s => s.head t hrow oM) fun hh => ?_
  obtain ⟨b, rfl, hcap⟩ := hh
  have hbl := uL (n := ts.length) oM oM
  refine g5 ?_
  refine rl ((lE rfl kR kR).to (congrArg (Value.int .u64) (mR oM))) (gL (cvo (v := iV (Lib.bitLen ts.length)) rfl (fun w_ s_ => (rQ _ oM oM w_).mT (cRr rfl)) (g7 ?_)))
  refine aF0 (S' := (t, cZ 80 b ts.length c ts.toArray) :: S) (fun a k => k) (fun w s => (s.rowTo hrow).to (fun _ _ h => h) (fun k o v ho h => ⟨h, by obtain ⟨b, e, _⟩ := s.cells k o v ho h; rw [e]; rfl⟩) (fun _ _ h => h)) ?_
  refine gL (mZ (ι := Array Int) (fun _ => .tuple #[]) (fun x => PermIn 0 ts.length ts.toArray x /\ SortedIn ltInt 0 ts.length x) (fun x => (t, cZ 80 b ts.length c x) :: S) rfl (fun w_ s_ => aHl hn hlim ht _ (d := ts.toArray) (by simp) 0 ts.length (Lib.bitLen ts.length) (Nat.le_refl _) oM (Nat.le_refl _) oM (.inl rfl) w_ s_) (fun x ⟨hx1, hx2⟩ => g1 ?_))
  have hs := aJ8 (d := ts.toArray) (d' := x) (by simpa using hx1) (by simpa using hx2)
  refine fI (.inr rfl) rfl fun w_ s_ => ⟨rfl, ?_⟩
  have e1 : eM ts = x.toList := by rw [hs]; rfl
  rw [e1]
  exact s_
end
open Go.RowKit Go.Fr
section
variable {F : Nat -> Prop} {w0 : World} {B : LN} {H : LV} {S : LS}
section
variable {P : Program} {Q : Exit -> Act -> World -> Prop} {K : Act -> World -> Prop} {N d : Nat} {L : Fr.Loc} {v : Value} {ty : TypeId} {pos : String} {aft : Array Edge} {f : FuncId} {asl : List Operand} {ats : Array TypeId} {args : List Value}
def aLp (fn : Func) (L : Fr.Loc) : Option Value := match fn.results.toList with
 | [.tmp d] => lkp d L
 | _ => none
theorem aK3 {fn : Func} (h : aLp fn L = some v) : ∃ d, fn.results = #[.tmp d] /\ lkp d L = some v := by
 unfold aLp at h
 split at h
 .rename_i d hd
  exact ⟨d, Array.toList_inj.1 hd, h⟩
 .cases h
theorem gR {fn : Func} {e : Exit} {R : Ending -> World -> Prop} (h : aLp fn L = some v) (hR : ∀ w, Sees F w0 B H S w -> R (.returned v) w) (he : e = .ret \/ e = .normal := by first | exact .inl rfl | exact .inr rfl) : GE (bodyPost P fn R) e N L F w0 B H S := by
 obtain ⟨d, h1, h2⟩ := aK3 h
 exact aT he h1 (aE h2) hR
theorem gNo {fn : Func} {e : Exit} {w : World} {X : Prop} (h : aLp fn L = some (.bool false)) (he : e = .ret \/ e = .normal := by first | exact .inl rfl | exact .inr rfl) : GE (bodyPost P fn fun e w' => ∃ b : Bool, (b = true -> X) /\ e = .returned (.bool b) /\ Below w.heap.size w w') e N L (fun _ => False) w B H S :=
 gR h (fun w_ s_ => ⟨false, fun h => absurd h dE, rfl, s_.aPg⟩) he
theorem cbx {ι : Type} (V : ι -> Value) (Pr : ι -> Prop) (ha : Fr.evs L asl = some args) (hc : ∀ w, Sees F w0 B H S w -> Calls P f args.toArray w fun e w' => ∃ x, Pr x /\ e = .returned (V x) /\ Below w.heap.size w w') (hn : ∀ x, Pr x -> GK K N ((d, V x) :: L) F w0 B H S) (hd : d < N := by decide) (hf : gM P f = true := by kernel_rfl) :
  GO P ⟨some d, .call ⟨.value (.func f), asl.toArray, ats⟩, ty, pos, aft, none⟩ Q K N L F w0 B H S :=
 d8 V Pr (fun _ => B) (fun _ => H) (fun _ => S) hd hf ha (fun w s => (hc w s).mono fun e w' ⟨x, h1, h2, h3⟩ => ⟨x, h1, h2, s.below h3⟩) hn
theorem crx {ι : Type} (k : Nat) (V : ι -> Value) (Pr : ι -> Prop) (q : ι -> Slc) (ha : Fr.evs L asl = some args) (hc : ∀ w, Sees F w0 B H S w -> Calls P f args.toArray w fun e w' => ∃ x, Pr x /\ e = .returned (V x) /\ gC w w' (q x).v (q x).e (q x).sz (q x).n (q x).xs) (hn : ∀ x, Pr x -> GK K N ((d, V x) :: L) F w0 B H ((k, q x) :: S)) (hd : d < N := by decide) (hf : gM P f = true := by kernel_rfl) :
  GO P ⟨some d, .call ⟨.value (.func f), asl.toArray, ats⟩, ty, pos, aft, none⟩ Q K N L F w0 B H S :=
 d8 V Pr (fun _ => B) (fun _ => H) (fun x => (k, q x) :: S) hd hf ha (fun w s => (hc w s).mono fun e w' ⟨x, h1, h2, h3⟩ => ⟨x, h1, h2, s.newRow h3 k⟩) hn
end
section
variable {P : Program} {N d : Nat} {L : Fr.Loc} {v : Value} {ty : TypeId} {pos : String} {aft : Array Edge} {g : Option (Nat × Bool)}
theorem yT {op : BinOp} {xt yt : TypeId} {x y : Operand} {vx vy : Value} (hx : ev L x = some vx) (hy : ev L y = some vy) (hb : ∀ w : World, (do eqGuard op xt x y vx vy; binOp op xt vx vy : Sem Value).run P w = .ok v w) : Rd P ⟨some d, .binOp op xt x y yt, ty, pos, aft, g⟩ N L F w0 B H S v := fun a w k s => by
 have := hb w
 rw [Sem.run_bind] at this
 simp only [execOp, k.eval hx, k.eval hy, Sem.run_bind, this, Result.andThen_ok, Sem.run_pure]
end
theorem aZ {w : World} {v : Value} {xs : List Int} (s : Sees (fun _ => False) w0 B H S w) (h : Ints w0 v xs) : Ints w v xs := by
 obtain ⟨p, c, rfl, hc⟩ := h
 exact ⟨p, c, rfl, fun i x hx => by
  obtain ⟨b, o, e, h1⟩ := hc i x hx
  exact ⟨b, o, e, s.aPo h1 (fun h => h)⟩⟩
theorem qV {w : World} {v : Value} {ps : List (Int × Int)} (s : Sees (fun _ => False) w0 B H S w) (h : Prs w0 v ps) : Prs w v ps := by
 obtain ⟨p, c, rfl, hc⟩ := h
 exact ⟨p, c, rfl, fun i x hx => by
  obtain ⟨b, o, e, h1, h2⟩ := hc i x hx
  exact ⟨b, o, e, s.aPo h1 (fun h => h), s.aPo h2 (fun h => h)⟩⟩
theorem Lim.seqH {m : Nat} {B0 : LN} {S0 : LS} {k : Nat} (hk : k < m) : ∀ (cs : List Value) (o : Nat) {H0 : LV}, o + cs.length <= 4096 -> Lim m B0 H0 S0 -> Lim m B0 (dL k o cs H0) S0
 | [], _, _, _, h => h
 | v :: r, o, H0, ho, h => by
  simp only [List.length_cons] at ho
  show Lim m B0 (dL k (o + 1) r ((ky k o, v) :: H0)) S0
  exact Lim.seqH hk r (o + 1) oM (Lim.aPh h hk oM)
end
open Go.RowKit Go.Fr Go.Tab
section
variable {F : Nat -> Prop} {w0 : World} {B : LN} {H : LV} {S : LS}
open Go.Md
theorem aBx (a b : Int) (w : World) : CB 146 #[.agg #[iV (a), iV 0], .agg #[iV (b), iV 0]] w (.bool (a == b)) := by
 refine aF (args := [.agg #[iV (a), iV 0], .agg #[iV (b), iV 0]]) (L := [(0, .agg #[iV (a), iV 0]), (1, .agg #[iV (b), iV 0])]) (N := 8) Tryz.func146 rfl rfl ble rfl (sS w) (g2 ?_)
 refine gL (fU 50 (cs := [iV (a), iV 0]) dE rfl rfl rfl (fun o ho => by repeat (first | rfl | rw [aJ dE ho _ _ ble])) ble (fun b1 hb1 => gL (fU 51 (cs := [iV (b), iV 0]) dE rfl rfl rfl (fun o ho => by repeat (first | rfl | rw [aJ dE ho _ _ ble])) ble (fun b2 hb2 => g5 ?_))))
 refine rl (aW 50 rfl rfl rfl rfl kR dE) (rl (aW 51 rfl rfl rfl rfl kR dE) (rZ4 ((aId rfl rfl).to (v' := .bool (a == b)) (cB (by simp))) ?_))
 exact gR rfl fun w_ s_ => ⟨rfl, s_.aPg⟩
theorem sU (ts : List Int) (t : Int) (p : Option Addr) (c : Nat) (hl : ts.length <= 1000000000) (w : World) (hI : Prs w (.slice p ts.length c) (ts.map fun t => (t, (0 : Int)))) : CB 129 #[.slice p ts.length c, .agg #[iV (t), iV 0]] w (.bool (ts.any (· == t))) := by
 have hT : ∀ i y, ts[i]? = some y -> ∃ b o, p = some ⟨b, o, none⟩ /\ w.cell? ⟨b, o + 2 * i, none⟩ = some (iV y) /\ w.cell? ⟨b, o + 2 * i + 1, none⟩ = some (iV 0) := fun i y hy => by
  obtain ⟨p', c', e, hc⟩ := hI
  injection e with e1 _ _
  rw [e1]
  exact hc i (y, 0) (by rw [List.getElem?_map, hy]; rfl)
 refine aF (args := [.slice p ts.length c, .agg #[iV (t), iV 0]]) (L := [(0, .slice p ts.length c), (1, .agg #[iV (t), iV 0])]) (N := 17) Tryz.func129 rfl rfl ble rfl (sS w) (g2 ?_)
 refine gL (fU 50 (cs := [iV (t), iV 0]) dE rfl rfl rfl (fun o ho => by repeat (first | rfl | rw [aJ dE ho _ _ ble])) ble (fun b1 hb1 => g12 ?_))
 refine aY (ι := (Nat)) (fun k => ts.length - k) (fun k => (k <= ts.length) /\ ((ts.take k).any (· == t) = false)) (fun k => [(3, pT b1), (7, .slice p ts.length c), (8, iV (ts.length)), (9, iV k)]) (fun k => [(50, b1)]) (fun k => (aL 50 0 [iV (t), iV 0] ++ [])) (fun k => []) 0 ⟨Nat.zero_le _, rfl⟩ kns (fun w s => by exact s) ?_
 rintro k ⟨hk, hn⟩
 refine dS ?_
 refine g6 ?_
 refine aB rfl (fun hc1 => ?_) (fun hc2 => ?_)
 .have hlt : k < ts.length := by have := oT hc1; omega
  obtain ⟨y, hy⟩ : ∃ y, ts[k]? = some y := ⟨_, List.getElem?_eq_getElem hlt⟩
  obtain ⟨b_, o_, rfl, hca, hcb⟩ := hT k y hy
  refine g6 ?_
  refine rl (aC (e := 80) (n := 2) kR rfl rfl oM oM) (rl (iK rfl (by rw [<- hca]; congr 2; omega) (by rw [<- hcb]; congr 2; omega) (fun h => h) kR) (gL (eJ 51 (cs := [iV 0, iV 0]) dE kR rfl (fun o ho => by repeat (first | rfl | rw [aJ dE ho _ _ ble])) ble (fun b2 hb2 => gL (sta 51 rfl rfl rfl rfl (g4 ?_))))))
  refine rl (aW 51 rfl rfl rfl rfl kR dE) (rl (aW 50 rfl rfl rfl rfl kR dE) (gL (cvo rfl (fun w_ s_ => aBx _ _ w_) (g2 ?_))))
  refine aB rfl (fun hc1 => ?_) (fun hc2 => ?_)
  .have hF : ts.any (· == t) = true := List.any_eq_true.2 ⟨y, List.mem_of_getElem? hy, hc1⟩
   refine g11 ?_
   exact gR rfl fun w_ s_ => ⟨by rw [hF], s_.aPg⟩
  .have hne : (y == t) = false := hc2
   refine g7 ?_
   refine aN (k + 1) oM ⟨by omega, by rw [List.take_add_one, hy, List.any_append, hn]; simpa using hc2⟩ kns (fun w s => by exact (s.low 51 kI agx agx agx))
 .obtain rfl : k = ts.length := by have := oF hc2; omega
  rw [List.take_length] at hn
  have hF : ts.any (· == t) = false := hn
  refine g11 ?_
  exact gR rfl fun w_ s_ => ⟨by rw [hF], s_.aPg⟩
end
open Go.RowKit Go.Fr Go.Tab
section
variable {F : Nat -> Prop} {w0 : World} {B : LN} {H : LV} {S : LS}
theorem uD (st : ByteArray) (w : World) : Calls Tryz.prog 81 #[.string st] w fun e w' => ∃ b : Nat, True /\ e = .returned (.iface 154 (pT b)) /\ Below w.heap.size w w' := by
 refine aF (args := [.string st]) (L := [(0, .string st)]) (N := 7) Tryz.func81 rfl rfl ble rfl (sS w) (g8 ?_)
 refine rl (iI (vs := [(0, .string st)]) (v := .agg #[.string st]) rfl kW) (gL (fU 50 (cs := [.string st]) dE rfl rfl rfl (fun o ho => rfl) ble (fun b1 hb1 => rZ4 (iR (r := .iface 154 (pT b1)) rfl kW) ?_)))
 exact aT (.inl rfl) rfl (aE rfl) fun w_ s_ => ⟨_, trivial, rfl, s_.aPg⟩
def nN (xs : List Int) (i : Int) : Option Int := let j := if i < 0 then i + xs.length else i; if j < 0 \/ (xs.length : Int) <= j then none else xs[j.toNat]?
theorem aCf (xs : List Int) (i : Int) (p : Option Addr) (c : Nat) (hl : xs.length <= 1000000000) (hi : -1000000000000 <= i /\ i <= 1000000000000) (w : World) (hI0 : Ints w (.slice p xs.length c) xs) : Calls Tryz.prog 126 #[.slice p xs.length c, iV i] w fun e w' => ∃ y : Int × Value, (nN xs i = some y.1 /\ y.2 = .nilIface \/ nN xs i = none /\ ∃ b, y.2 = .iface 154 (pT b)) /\ e = .returned (.tuple #[iV y.1, y.2]) /\ Below w.heap.size w w' := by
 have hI : ∀ i x, xs[i]? = some x -> ∃ b o, p = some ⟨b, o, none⟩ /\ w.cell? ⟨b, o + i, none⟩ = some (iV x) := by
  obtain ⟨p', c', e, hc⟩ := hI0
  injection e with e1 _ _
  subst e1
  exact hc
 refine aF (args := [.slice p xs.length c, iV i]) (L := [(0, .slice p xs.length c), (1, iV i)]) (N := 25) Tryz.func126 rfl rfl ble rfl (sS w) (g6 ?_)
 refine cO (ι := (Int)) (fun j => (j = if i < 0 then i + xs.length else i)) (fun j => [(0, .slice p xs.length c), (1, iV j)]) (fun j => []) (fun j => []) (fun j => []) ?_ ?_
 .refine g6 ?_
  refine aB rfl (fun hc1 => ?_) (fun hc2 => ?_)
  .have h0 : i < 0 := oT hc1
   refine g7 ?_
   refine aK (ι := Int) (i + xs.length) (by rw [if_pos h0]) kno (fun w s => s)
  .have h0 : ¬ i < 0 := oF hc2
   refine g1 ?_
   refine aK (ι := Int) (i) (by rw [if_neg h0]) kno (fun w s => s)
 rintro j hj
 refine dS ?_
 have hjb : -1000000000000 <= j /\ j <= 1000000000000 := by rw [hj]; split <;> omega
 refine g4 ?_
 by_cases h0 : j < 0
 .have hF : nN xs i = none := by unfold nN; rw [<- hj]; exact if_pos (.inl h0)
  refine sA ((cR rfl rfl).to bT) ?_
  refine gL (cbx (fun b : Nat => .iface 154 (pT b)) (fun _ => True) rfl (fun w_ s_ => uD _ w_) (fun eb _ => g6 ?_))
  exact d9 (.inl rfl) rfl (aE rfl) (aE rfl) fun w_ s_ => ⟨(_, _), (by first | exact .inl ⟨hF, rfl⟩ | exact .inr ⟨hF, _, rfl⟩), rfl, s_.aPg⟩
 .refine rZ8 ((cR rfl rfl).to bF) ?_
  by_cases h1 : (xs.length : Int) <= j
  .have hF : nN xs i = none := by unfold nN; rw [<- hj]; exact if_pos (.inr h1)
   refine rl ((dV rfl rfl).to bT) (g3 ?_)
   refine bK rfl rfl ?_
   refine g2 ?_
   refine gL (cbx (fun b : Nat => .iface 154 (pT b)) (fun _ => True) rfl (fun w_ s_ => uD _ w_) (fun eb _ => g6 ?_))
   exact d9 (.inl rfl) rfl (aE rfl) (aE rfl) fun w_ s_ => ⟨(_, _), (by first | exact .inl ⟨hF, rfl⟩ | exact .inr ⟨hF, _, rfl⟩), rfl, s_.aPg⟩
  .refine rl ((dV rfl rfl).to bF) (g3 ?_)
   refine yZ7 ?_
   obtain ⟨y, hy⟩ : ∃ y, xs[j.toNat]? = some y := ⟨_, List.getElem?_eq_getElem (show j.toNat < xs.length by omega)⟩
   obtain ⟨b_, o_, rfl, hcell⟩ := hI _ y hy
   have hF : nN xs i = some y := by unfold nN; rw [<- hj]; exact (if_neg oM).trans hy
   refine rl (aC (e := 3) (n := 1) kR rfl rfl oM oM) (rZ5 (gH rfl (v := iV y) (by rw [<- hcell]; congr 2; omega) (fun h => h) kR) ?_)
   exact d9 (.inl rfl) rfl (aE rfl) (aE rfl) fun w_ s_ => ⟨(_, _), (by first | exact .inl ⟨hF, rfl⟩ | exact .inr ⟨hF, _, rfl⟩), rfl, s_.aPg⟩
end
end Go.Proofs.YthomapgobmdicaaGreat
