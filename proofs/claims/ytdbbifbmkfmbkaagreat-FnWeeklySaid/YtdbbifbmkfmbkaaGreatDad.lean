import Derived.Test.YtdbbifbmkfmbkaaGreatDac
set_option linter.unusedVariables false
set_option linter.unusedSimpArgs false
set_option maxRecDepth 100000
set_option maxHeartbeats 8000000
namespace Go.Proofs.YtdbbifbmkfmbkaaGreat
open Go.RowKit Go.Fr Go.Tab
section
variable {F : Nat → Prop} {w0 : World} {B : List (Nat × Nat)} {H : List (Nat × Value)} {S : List (Nat × Slc)}
open Go.Md
structure Ad where
 b3 : Nat
 c3 : Nat
 b4 : Nat
 c4 : Nat
 b5 : Nat
 c5 : Nat
 b6 : Nat
 c6 : Nat
 b7 : Nat
 c7 : Nat
 p20 : Option Addr
 c20 : Nat
 p21 : Option Addr
 c21 : Nat
 p22 : Option Addr
 c22 : Nat
 tp : Option Addr
 tc : Nat
 rp : Option Addr
 rc : Nat
 rs : Option Addr
 rk : Nat
 rn : Nat
 rj : Nat
 rall : List Int
 bk : Value
 dp : Option Addr
 dc : Nat
 dn : Nat
 dxs : List Value
 ln : Value
structure Ra where
 p46 : Option Addr
 c46 : Nat
 p47 : Option Addr
 c47 : Nat
 p48 : Option Addr
 c48 : Nat
 p49 : Option Addr
 c49 : Nat
 p50 : Option Addr
 c50 : Nat
 p51 : Option Addr
 c51 : Nat
 p52 : Option Addr
 c52 : Nat
 p53 : Option Addr
 c53 : Nat
 p54 : Option Addr
 c54 : Nat
 p55 : Option Addr
 c55 : Nat
 p56 : Option Addr
 c56 : Nat
 p57 : Option Addr
 c57 : Nat
structure St (F : Nat → Prop) (w0 : World) (S0 : List (Nat × Slc)) (H0 : List (Nat × Value)) (it rb : Nat) (r : Ru) (l : Ra) (s : It) (a : Ad) (B : List (Nat × Nat)) (H : List (Nat × Value)) (S : List (Nat × Slc)) : Prop where
 hB : lkp 0 B = some it
 hR : lkp 1 B = some rb
 lim : Lim 40 B H S
 h0 : lkp (ky 0 0) H = some (iV s.y)
 h1 : lkp (ky 0 1) H = some (iV s.mo)
 h2 : lkp (ky 0 2) H = some (iV s.d)
 h3 : lkp (ky 0 3) H = some (iV s.h)
 h4 : lkp (ky 0 4) H = some (iV s.mi)
 h5 : lkp (ky 0 5) H = some (iV s.s)
 h6 : lkp (ky 0 6) H = some (iV s.wd)
 h7 : lkp (ky 0 7) H = some (pT rb)
 h8 : lkp (ky 0 8) H = some (iV s.ly)
 h9 : lkp (ky 0 9) H = some (iV s.lm)
 h10 : lkp (ky 0 10) H = some (iV (365 + Cal.lp s.ly))
 h11 : lkp (ky 0 11) H = some (iV (365 + Cal.lp (s.ly + 1)))
 h12 : lkp (ky 0 12) H = some (iV (Cal.daysTo s.ly * 86400))
 h13 : lkp (ky 0 13) H = some (iV 0)
 h14 : lkp (ky 0 14) H = some (iV (ywd s.ly))
 h15 : lkp (ky 0 15) H = some (sL a.b3 (nY s.ly) a.c3)
 h16 : lkp (ky 0 16) H = some (sL a.b7 13 a.c7)
 h17 : lkp (ky 0 17) H = some (sL a.b4 (nY s.ly) a.c4)
 h18 : lkp (ky 0 18) H = some (sL a.b5 (nY s.ly) a.c5)
 h19 : lkp (ky 0 19) H = some (.slice (some ⟨a.b6, 0 + (ywd s.ly).toNat * 1, none⟩) (385 - (ywd s.ly).toNat) (a.c6 - (ywd s.ly).toNat))
 h20 : lkp (ky 0 20) H = some (.slice a.p20 s.wno.length a.c20)
 h21 : lkp (ky 0 21) H = some (.slice a.p21 s.nwm.length a.c21)
 h22 : lkp (ky 0 22) H = some (.slice a.p22 s.eas.length a.c22)
 h23 : lkp (ky 0 23) H = some (.slice a.tp s.ts.length a.tc)
 h24 : lkp (ky 0 24) H = some (iV s.total)
 h25 : lkp (ky 0 25) H = some (iV s.count)
 h26 : lkp (ky 0 26) H = some (.slice a.rs s.rem.length a.rk)
 h27 : lkp (ky 0 27) H = some (a.bk)
 h28 : lkp (ky 0 28) H = some (.bool s.fin)
 h29 : lkp (ky 0 29) H = some (.slice a.dp a.dn a.dc)
 hS0 : lkp 0 S = some ⟨.slice a.rp a.rn a.rc, 57, 2, a.rn, tcells a.rall⟩
 hS1 : lkp 1 S = some ⟨.slice a.dp a.dn a.dc, 156, 2, a.dn, a.dxs⟩
 hS2 : lkp 2 S = some ⟨.slice a.tp s.ts.length a.tc, 57, 2, s.ts.length, tcells s.ts⟩
 hS3 : lkp 3 S = some ⟨sL a.b3 (nY s.ly) a.c3, 3, 1, nY s.ly, (mmY s.ly).map iV⟩
 hS4 : lkp 4 S = some ⟨sL a.b4 (nY s.ly) a.c4, 3, 1, nY s.ly, (mdY s.ly).map iV⟩
 hS5 : lkp 5 S = some ⟨sL a.b5 (nY s.ly) a.c5, 3, 1, nY s.ly, (nmdY s.ly).map iV⟩
 hS6 : lkp 6 S = some ⟨sL a.b6 385 a.c6, 3, 1, 385, (wd 55).map iV⟩
 hS7 : lkp 7 S = some ⟨sL a.b7 13 a.c7, 3, 1, 13, (rgY s.ly).map iV⟩
 hS8 : 0 < s.wno.length → lkp 8 S = some ⟨.slice a.p20 s.wno.length a.c20, 3, 1, s.wno.length, s.wno.map iV⟩
 hS9 : 0 < s.nwm.length → lkp 9 S = some ⟨.slice a.p21 s.nwm.length a.c21, 3, 1, s.nwm.length, s.nwm.map iV⟩
 hS10 : 0 < s.eas.length → lkp 10 S = some ⟨.slice a.p22 s.eas.length a.c22, 3, 1, s.eas.length, s.eas.map iV⟩
 hp20 : 0 < s.wno.length → ∃ b, a.p20 = some ⟨b, 0, none⟩
 hp21 : 0 < s.nwm.length → ∃ b, a.p21 = some ⟨b, 0, none⟩
 hp22 : 0 < s.eas.length → ∃ b, a.p22 = some ⟨b, 0, none⟩
 c6 : 385 ≤ a.c6
 frS : ∀ k, 11 ≤ k → k < 40 → lkp k S = lkp k S0
 frH : ∀ k, 2 ≤ k → k < 40 → ∀ o, o < 4096 → lkp (ky k o) H = lkp (ky k o) H0
 hq0 : s.rem = [] → a.rs = a.rp ∧ a.rk = a.rc ∧ a.rn = 0 ∧ a.rall = []
 hq1 : s.rem ≠ [] → (∀ g, a.rp = some ⟨g, 0, none⟩ → a.rs = some ⟨g, 2 * a.rj, none⟩) ∧ s.rem = a.rall.drop a.rj ∧ a.rall.length = a.rn ∧ a.rj < a.rn ∧ a.rk = a.rc - a.rj ∧ a.bk = .slice a.rp a.rn a.rc
 r38 : lkp (ky 1 38) H = some (iV r.freq)
 r39 : lkp (ky 1 39) H = some (iV r.d0)
 r40 : lkp (ky 1 40) H = some (iV 0)
 r41 : lkp (ky 1 41) H = some (iV r.interval)
 r42 : lkp (ky 1 42) H = some (iV r.wkst)
 r44 : lkp (ky 1 44) H = some (iV r.u0)
 r45 : lkp (ky 1 45) H = some (iV r.u1)
 r46 : lkp (ky 1 46) H = some (.slice l.p46 r.setpos.length l.c46)
 r47 : lkp (ky 1 47) H = some (.slice l.p47 r.month.length l.c47)
 r48 : lkp (ky 1 48) H = some (.slice l.p48 r.mday.length l.c48)
 r49 : lkp (ky 1 49) H = some (.slice l.p49 r.nmday.length l.c49)
 r50 : lkp (ky 1 50) H = some (.slice l.p50 r.yday.length l.c50)
 r51 : lkp (ky 1 51) H = some (.slice l.p51 r.weekno.length l.c51)
 r52 : lkp (ky 1 52) H = some (.slice l.p52 r.wday.length l.c52)
 r53 : lkp (ky 1 53) H = some (.slice l.p53 r.nwd.length l.c53)
 r54 : lkp (ky 1 54) H = some (.slice l.p54 r.hour.length l.c54)
 r55 : lkp (ky 1 55) H = some (.slice l.p55 r.minute.length l.c55)
 r56 : lkp (ky 1 56) H = some (.slice l.p56 r.second.length l.c56)
 r57 : lkp (ky 1 57) H = some (.slice l.p57 r.easter.length l.c57)
 r59 : lkp (ky 1 59) H = some (a.ln)
 hI46 : SrcI F w0 S (.slice l.p46 r.setpos.length l.c46) r.setpos
 hI47 : SrcI F w0 S (.slice l.p47 r.month.length l.c47) r.month
 hI48 : SrcI F w0 S (.slice l.p48 r.mday.length l.c48) r.mday
 hI49 : SrcI F w0 S (.slice l.p49 r.nmday.length l.c49) r.nmday
 hI50 : SrcI F w0 S (.slice l.p50 r.yday.length l.c50) r.yday
 hI51 : SrcI F w0 S (.slice l.p51 r.weekno.length l.c51) r.weekno
 hI52 : SrcI F w0 S (.slice l.p52 r.wday.length l.c52) r.wday
 hI54 : SrcI F w0 S (.slice l.p54 r.hour.length l.c54) r.hour
 hI55 : SrcI F w0 S (.slice l.p55 r.minute.length l.c55) r.minute
 hI56 : SrcI F w0 S (.slice l.p56 r.second.length l.c56) r.second
 hI57 : SrcI F w0 S (.slice l.p57 r.easter.length l.c57) r.easter
 hl46 : r.setpos.length ≤ 1000000000
 hl47 : r.month.length ≤ 1000000000
 hl48 : r.mday.length ≤ 1000000000
 hl49 : r.nmday.length ≤ 1000000000
 hl50 : r.yday.length ≤ 1000000000
 hl51 : r.weekno.length ≤ 1000000000
 hl52 : r.wday.length ≤ 1000000000
 hl54 : r.hour.length ≤ 1000000000
 hl55 : r.minute.length ≤ 1000000000
 hl56 : r.second.length ≤ 1000000000
 hl57 : r.easter.length ≤ 1000000000
structure RuOk (r : Ru) : Prop where
 freq : 0 ≤ r.freq ∧ r.freq ≤ 6
 interval : 1 ≤ r.interval ∧ r.interval ≤ 1000
 wkst : 0 ≤ r.wkst ∧ r.wkst ≤ 6
 until0 : ¬ (r.u0 = 0 ∧ r.u1 = 0)
 until1 : 0 ≤ r.u1
 hour : ∀ x ∈ r.hour, 0 ≤ x ∧ x ≤ 23
 minute : ∀ x ∈ r.minute, 0 ≤ x ∧ x ≤ 59
 second : ∀ x ∈ r.second, 0 ≤ x ∧ x ≤ 59
 wnoF : r.weekno.length ≠ 0 → ∀ y, (r.wnoF y).length = nY y
 nwmF : r.nwd.length ≠ 0 → ∀ y m, ((r.nwmF y m).length : Int) = 365 + Cal.lp y
 easF : r.easter.length ≠ 0 → ∀ y, (r.easF y).length = nY y
 wnoF0 : r.weekno.length = 0 → ∀ y, r.wnoF y = []
 nwmF0 : r.nwd.length = 0 → ∀ y m, r.nwmF y m = []
 easF0 : r.easter.length = 0 → ∀ y, r.easF y = []
 nwd : 2 ≤ r.freq → r.nwd.length = 0
structure ItOk (r : Ru) (s : It) : Prop where
 y : 1 ≤ s.y ∧ s.y ≤ 9999
 ly : s.ly = s.y
 mo : 1 ≤ s.mo ∧ s.mo ≤ 12
 d : 1 ≤ s.d ∧ s.d ≤ 31
 day : 2 ≤ r.freq → s.d ≤ Cal.mdays s.mo s.y
 wd : 0 ≤ s.wd ∧ s.wd ≤ 6
 hr : 0 ≤ s.h ∧ s.h ≤ 23
 mn : 0 ≤ s.mi ∧ s.mi ≤ 59
 sec : 0 ≤ s.s ∧ s.s ≤ 59
 ts : ∀ t ∈ s.ts, 0 ≤ t ∧ t < 86400
 tsn : s.ts.length ≤ 100000
 total : 0 ≤ s.total ∧ s.total ≤ 1000000000000 + s.rem.length
 count : 0 ≤ s.count ∧ s.count ≤ 9223372036854775807
 wno : s.wno = r.wnoF s.ly
 nwm : s.nwm = r.nwmF s.ly s.lm
 eas : s.eas = r.easF s.ly
 lm : r.freq = 1 → s.lm = s.mo
section
variable {P : Program} {Q : Exit → Act → World → Prop} {K : Act → World → Prop} {N d : Nat} {L : Fr.Loc} {v : Value} {ty : TypeId} {pos : String} {aft : Array Edge}
theorem at_call_same {f : FuncId} {asl : List Operand} {ats : Array TypeId} {args : List Value} (hd : d < N) (hf : enterB P f = true) (ha : Fr.evs L asl = some args)
  (hc : ∀ w, Sees F w0 B H S w → Calls P f args.toArray w fun e w' => e = .returned v ∧ Sees F w0 B H S w') (hn : GK K N ((d, v) :: L) F w0 B H S) : GO P ⟨some d, .call ⟨.value (.func f), asl.toArray, ats⟩, ty, pos, aft, none⟩ Q K N L F w0 B H S :=
 at_call (ι := Unit) (fun _ => v) (fun _ => True) (fun _ => B) (fun _ => H) (fun _ => S) hd hf ha (fun w s => (hc w s).mono fun e w' ⟨he, hs⟩ => ⟨(), trivial, he, hs⟩) (fun _ _ => hn)
theorem at_call_row1 (k : Nat) (h : Option Addr → Nat → Nat × Value) (q : Option Addr → Nat → Slc) {f : FuncId} {asl : List Operand} {ats : Array TypeId} {args : List Value} (hd : d < N) (hf : enterB P f = true) (ha : Fr.evs L asl = some args)
  (hc : ∀ w, Sees F w0 B H S w → Calls P f args.toArray w fun e w' => ∃ p c, e = .returned v ∧ Sees F w0 B (h p c :: H) ((k, q p c) :: S) w') (hn : ∀ p c, GK K N ((d, v) :: L) F w0 B (h p c :: H) ((k, q p c) :: S)) : GO P ⟨some d, .call ⟨.value (.func f), asl.toArray, ats⟩, ty, pos, aft, none⟩ Q K N L F w0 B H S :=
 at_call (ι := Option Addr × Nat) (fun _ => v) (fun _ => True) (fun _ => B) (fun x => h x.1 x.2 :: H) (fun x => (k, q x.1 x.2) :: S) hd hf ha (fun w s => (hc w s).mono fun e w' ⟨p, c, he, hs⟩ => ⟨(p, c), trivial, he, hs⟩) (fun x _ => hn x.1 x.2)
end
end
end Go.Proofs.YtdbbifbmkfmbkaaGreat
namespace Go.Proofs.YtdbbifbmkfmbkaaGreat
open Go.Md Go.Tab
theorem rg_len (y : Int) : (rgY y).length = 13 := by unfold rgY; split <;> rfl
theorem rg_get {y : Int} {j : Nat} (h : j < 13) : (rgY y)[j]? = some ((rgY y).getD j 0) := by
 have hl := rg_len y
 rw [List.getD_eq_getElem?_getD, List.getElem?_eq_getElem oM]; rfl
theorem rg_bd {y : Int} {j : Nat} (h : j < 12) : 0 ≤ (rgY y).getD j 0 ∧ (rgY y).getD j 0 + 28 ≤ (rgY y).getD (j + 1) 0 ∧ (rgY y).getD (j + 1) 0 ≤ (rgY y).getD j 0 + 31 ∧ (rgY y).getD (j + 1) 0 ≤ 365 + Cal.lp y := by
 unfold rgY Cal.lp
 split
 ·revert j; decide
 ·revert j; decide
theorem rg_cum {y : Int} {j : Nat} (h : j ≤ 12) : (rgY y).getD j 0 = Cal.cum y j := by
 have key : ∀ j : Nat, j ≤ 12 → (if Cal.leapB y then ([0, 31, 60, 91, 121, 152, 182, 213, 244, 274, 305, 335, 366] : List Int) else [0, 31, 59, 90, 120, 151, 181, 212, 243, 273, 304, 334, 365]).getD j 0 = Cal.cum y j := by
  intro j hj
  have e : j = 0 ∨ j = 1 ∨ j = 2 ∨ j = 3 ∨ j = 4 ∨ j = 5 ∨ j = 6 ∨ j = 7 ∨ j = 8 ∨ j = 9 ∨ j = 10 ∨ j = 11 ∨ j = 12 := by omega
  rcases e with rfl | rfl | rfl | rfl | rfl | rfl | rfl | rfl | rfl | rfl | rfl | rfl | rfl <;> (simp only [Cal.cum, Cal.mdays, Cal.lp]; cases Cal.leapB y <;> rfl)
 exact key j h
theorem day_no_bd {y m d : Int} (hy : 1 ≤ y ∧ y ≤ 10000) (hm : 1 ≤ m ∧ m ≤ 12) (hd : 1 ≤ d ∧ d ≤ 1000) : 0 ≤ Cal.dayNo y m d ∧ Cal.dayNo y m d ≤ 5000000 := by
 have h1 := Cal.cum_bd y (m - 1).toNat
 have hq : (m - 1) / 12 = 0 := by omega
 have hr : (m - 1) % 12 = m - 1 := by omega
 unfold Cal.dayNo
 rw [hq, hr, Int.add_zero]
 have hb : 0 ≤ Cal.daysTo y ∧ Cal.daysTo y ≤ 4000000 := by unfold Cal.daysTo; omega
 omega
theorem yday_eq {y m d : Int} (hm : 1 ≤ m ∧ m ≤ 12) (hd : 1 ≤ d ∧ d ≤ Cal.mdays m y) : Cal.dayNo y m d = Cal.daysTo y + (Cal.cum y (m - 1).toNat + d - 1) ∧ Cal.yearOf (Cal.dayNo y m d) = y ∧ Cal.ydayOf (Cal.dayNo y m d) = Cal.cum y (m - 1).toNat + d - 1 ∧ Cal.monthOf (Cal.dayNo y m d) = m ∧ Cal.mdayOf (Cal.dayNo y m d) = d := by
 obtain ⟨j, rfl⟩ : ∃ j : Nat, m = (j : Int) + 1 := ⟨(m - 1).toNat, by omega⟩
 have hq : ((j : Int) + 1 - 1) / 12 = 0 := by omega
 have hr : ((j : Int) + 1 - 1) % 12 = j := by omega
 have ht : ((j : Int) + 1 - 1).toNat = j := by omega
 have hs : Cal.cum y (j + 1) = Cal.cum y j + Cal.mdays ((j : Int) + 1) y := rfl
 have e : Cal.dayNo y ((j : Int) + 1) d = Cal.daysTo y + (Cal.cum y j + d - 1) := by
  unfold Cal.dayNo; rw [hq, hr, Int.add_zero, Int.toNat_natCast]; omega
 have u := Cal.date_unique (y := y) (D := Cal.cum y j + d - 1) (j := j) oM oM oM
 rw [ht, e]
 exact ⟨rfl, u.1, u.2.1, u.2.2.1, by rw [u.2.2.2]; omega⟩
theorem yday_bd {y m d : Int} (hm : 1 ≤ m ∧ m ≤ 12) (hd : 1 ≤ d ∧ d ≤ Cal.mdays m y) : 0 ≤ Cal.ydayOf (Cal.dayNo y m d) ∧ Cal.ydayOf (Cal.dayNo y m d) < 365 + Cal.lp y := by
 obtain ⟨e1, e2, e3, _⟩ := yday_eq hm hd
 have h1 := Cal.split_spec (Cal.dayNo y m d)
 rw [e2] at h1
 exact ⟨h1.2.1, h1.2.2⟩
theorem span_bd {r : Ru} {s : It} (hr : RuOk r) (hk : ItOk r s) : 0 ≤ (span r s).1 ∧ (span r s).1 < (span r s).2 ∧ (span r s).2 ≤ 372 + Cal.lp s.ly ∧ (span r s).2 ≤ (span r s).1 + 366 ∧ (r.freq < 2 → (span r s).2 ≤ 365 + Cal.lp s.ly) ∧ (2 ≤ r.freq → (span r s).2 ≤ (span r s).1 + 7) := by
 have hlp := Cal.lp_01 s.ly
 have hf := hr.freq
 unfold span
 by_cases h0 : r.freq = 0
 ·rw [if_pos h0]; simp only; omega
 ·by_cases h1 : r.freq = 1
  ·rw [if_neg h0, if_pos h1]
   have hm := hk.mo
   have hb := rg_bd (y := s.ly) (j := (s.mo - 1).toNat) oM
   rw [show (s.mo - 1).toNat + 1 = s.mo.toNat by omega] at hb
   simp only; omega
  ·rw [if_neg h0, if_neg h1]
   have hb := yday_bd hk.mo ⟨hk.d.1, hk.day oM⟩
   rw [hk.ly] at hlp ⊢
   by_cases h2 : r.freq = 2
   ·simp only [if_pos h2]; omega
   ·simp only [if_neg h2]; omega
theorem tabs_bd {r : Ru} {s : It} (hr : RuOk r) (hk : ItOk r s) : (r.weekno.length ≠ 0 → (span r s).2 ≤ s.wno.length) ∧ (s.nwm.length ≠ 0 → (span r s).2 ≤ s.nwm.length) ∧ (r.easter.length ≠ 0 → (span r s).2 ≤ s.eas.length) := by
 obtain ⟨h1, h2, h3, h4, h5, h6⟩ := span_bd hr hk
 have hny := nY_lp s.ly
 refine ⟨fun h => ?_, fun h => ?_, fun h => ?_⟩
 ·rw [hk.wno, hr.wnoF h]; omega
 ·by_cases hn : r.nwd.length = 0
  ·rw [hk.nwm, hr.nwmF0 hn] at h; exact absurd rfl h
  ·have := hr.nwmF hn s.ly s.lm
   rw [hk.nwm, this]
   refine h5 ?_
   rcases Int.lt_or_le r.freq 2 with h' | h'
   ·exact h'
   ·exact absurd (hr.nwd h') hn
 ·rw [hk.eas, hr.easF h]; omega
theorem emit_total (r : Ru) (o : It) (t : Int) : (emit r o t).total - (emit r o t).rem.length = o.total - o.rem.length := by
 unfold emit
 split
 ·rfl
 ·split
  ·rfl
  ·split
   ·rfl
   ·split <;> (simp only [List.length_append, List.length_singleton]; omega)
theorem emits_total (r : Ru) : ∀ (l : List Int) (o : It), (emits r o l).total - (emits r o l).rem.length = o.total - o.rem.length
 | [], o => rfl
 | t :: l, o => (emits_total r l (emit r o t)).trans (emit_total r o t)
theorem emit_count_bd (r : Ru) (o : It) (t : Int) (h : 0 ≤ o.count ∧ o.count ≤ 9223372036854775807) : 0 ≤ (emit r o t).count ∧ (emit r o t).count ≤ 9223372036854775807 := by
 unfold emit
 split
 ·exact h
 ·split
  ·exact h
  ·split
   ·exact h
   ·split
    ·exact h
    ·simp only; omega
theorem emits_count_bd (r : Ru) : ∀ (l : List Int) (o : It), 0 ≤ o.count ∧ o.count ≤ 9223372036854775807 → 0 ≤ (emits r o l).count ∧ (emits r o l).count ≤ 9223372036854775807
 | [], o, h => h
 | t :: l, o, h => emits_count_bd r l (emit r o t) (emit_count_bd r o t h)
theorem outTo_total (r : Ru) (s : It) (a : Int) : ∀ k, (outTo r s a k).total - (outTo r s a k).rem.length = s.total - s.rem.length
 | 0 => rfl
 | k + 1 => by
  rw [outTo_succ]
  unfold outDay
  split
  ·exact outTo_total r s a k
  ·rw [emits_total]; exact outTo_total r s a k
theorem outTo_count_bd (r : Ru) (s : It) (a : Int) (h : 0 ≤ s.count ∧ s.count ≤ 9223372036854775807) : ∀ k, 0 ≤ (outTo r s a k).count ∧ (outTo r s a k).count ≤ 9223372036854775807
 | 0 => h
 | k + 1 => by
  rw [outTo_succ]
  unfold outDay
  split
  ·exact outTo_count_bd r s a h k
  ·exact emits_count_bd r _ _ (outTo_count_bd r s a h k)
theorem out_total (r : Ru) (s : It) : (out r s).total - (out r s).rem.length = s.total - s.rem.length := by
 unfold out
 split
 ·exact emits_total r _ s
 ·exact outTo_total r s _ _
theorem out_count_bd (r : Ru) (s : It) (h : 0 ≤ s.count ∧ s.count ≤ 9223372036854775807) : 0 ≤ (out r s).count ∧ (out r s).count ≤ 9223372036854775807 := by
 unfold out
 split
 ·exact emits_count_bd r _ s h
 ·exact outTo_count_bd r s _ h _
theorem out_same (r : Ru) (s : It) : Same s (out r s) := by
 unfold out
 split
 ·exact emits_same r _ s
 ·exact outTo_same r s _ _
end Go.Proofs.YtdbbifbmkfmbkaaGreat
namespace Go.Fr
open Go.RowKit
section
variable {P : Program} {Q Q' : Exit → Act → World → Prop} {K : Act → World → Prop} {N : Nat} {L : Loc} {F : Nat → Prop} {w0 : World} {B : List (Nat × Nat)} {H : List (Nat × Value)} {S : List (Nat × Slc)}
variable {d : Nat} {v : Value} {ty : TypeId} {pos : String} {aft : Array Edge} {g : Option (Nat × Bool)}
theorem run_call_val {a : Act} {w : World} {f : FuncId} {x : Operand} {first capt : List Value} {aS : List Operand} {ats : Array TypeId} {args : List Value} {dst : Option Nat} (k : Kn N L a) (hx : ev L x = some (.func (.func f) first.toArray capt.toArray)) (hf : enterB P f = true) (ha : Fr.evs L aS = some args) :
  (execOp a.eval ⟨dst, .call ⟨.value x, aS.toArray, ats⟩, ty, pos, aft, g⟩).run P w = .ok (.enter f (first ++ args ++ capt).toArray) w := by
 unfold enterB at hf
 split at hf
 ·rename_i fn hfn
  simp only [Bool.and_eq_true, Bool.not_eq_true'] at hf
  obtain ⟨c, hb⟩ := Option.isSome_iff_exists.1 hf.1
  have hnm : ¬ fn.name = "runtime.NumGoroutine" := by simpa using hf.2
  simp [execOp, resolve, k.eval hx, Deferred.ofValue, invoke, callFunc, hfn, hnm, hb, k.evs ha]
 ·cases hf
theorem at_callv {ι : Type} {f : FuncId} {x : Operand} {first capt : List Value} {aS : List Operand} {ats : Array TypeId} {args : List Value} (V : ι → Value) (Pr : ι → Prop) (Bx : ι → List (Nat × Nat)) (Hx : ι → List (Nat × Value)) (Sx : ι → List (Nat × Slc)) (hd : d < N)
  (hx : ev L x = some (.func (.func f) first.toArray capt.toArray)) (hf : enterB P f = true) (ha : Fr.evs L aS = some args)
  (hc : ∀ w, Sees F w0 B H S w → Calls P f (first ++ args ++ capt).toArray w fun e w' => ∃ x, Pr x ∧ e = .returned (V x) ∧ Sees F w0 (Bx x) (Hx x) (Sx x) w')
  (hn : ∀ x, Pr x → GK K N ((d, V x) :: L) F w0 (Bx x) (Hx x) (Sx x)) : GO P ⟨some d, .call ⟨.value x, aS.toArray, ats⟩, ty, pos, aft, none⟩ Q K N L F w0 B H S := fun a w k s => by
 show Oper.upon _ _ _ _ _ _
 rw [run_call_val k hx hf ha]
 refine (hc w s).mono ?_
 rintro e w' ⟨x, hx, rfl, s'⟩
 exact hn x hx _ _ (k.put hd _) s'
theorem rd_makeFunc {f : FuncId} {aS cs : List Operand} {first capt : List Value} (ha : Fr.evs L aS = some first) (hc : Fr.evs L cs = some capt) : Rd P ⟨some d, .makeFunc (.func f) aS.toArray cs.toArray, ty, pos, aft, g⟩ N L F w0 B H S (.func (.func f) first.toArray capt.toArray) := fun a w k s => by
 simp [execOp, Instr.makeFunc, k.evs ha, k.evs hc]
theorem rd_loadN (j : Nat) {t : TypeId} {x : Operand} {b off : Nat} {cs : List Value} (hx : ev L x = some (.pointer (some ⟨b, off, none⟩))) (hb : lkp j B = some b) (hc : ∀ i u, cs[i]? = some u → lkp (ky j (off + i)) H = some u) (ho : off + cs.length ≤ 4096) (ht : aggT P t = some cs.length) : Rd P ⟨some d, .load t x, ty, pos, aft, g⟩ N L F w0 B H S (.agg cs.toArray) :=
 rd_loadAgg_at (cs := cs) ht hx fun w s i u hu => by
  have hi : i < cs.length := by
   rcases Nat.lt_or_ge i cs.length with h' | h'
   ·exact h'
   ·simp [List.getElem?_eq_none h'] at hu
  exact s.cell hb oM (hc i u hu)
def cellsAt (j : Nat) (H : List (Nat × Value)) : Nat → List Value → Prop
 | _, [] => True
 | o, v :: r => lkp (ky j o) H = some v ∧ cellsAt j H (o + 1) r
theorem cellsAt.get {j : Nat} {H : List (Nat × Value)} : ∀ {cs : List Value} {o : Nat}, cellsAt j H o cs → ∀ (i : Nat) (u : Value), cs[i]? = some u → lkp (ky j (o + i)) H = some u
 | [], _, _, i, u, h => by simp at h
 | v :: r, o, h, 0, u, e => by cases e; exact h.1
 | v :: r, o, h, i + 1, u, e => by
  have := cellsAt.get h.2 i u (by simpa using e)
  rwa [show o + 1 + i = o + (i + 1) by omega] at this
def dropH (k : Nat) (H : List (Nat × Value)) : List (Nat × Value) := H.filter fun p => p.1 / 4096 != k
theorem lkp_filter_t {α : Type} {f : Nat × α → Bool} {q : Nat} (hf : ∀ v, f (q, v) = true) : ∀ (l : List (Nat × α)), lkp q (l.filter f) = lkp q l
 | [] => rfl
 | (j, v) :: l => by
  by_cases e : q = j
  ·subst e
   rw [List.filter_cons_of_pos (hf v), lkp_cons_self, lkp_cons_self]
  ·rw [lkp_cons_ne e]
   by_cases h : f (j, v) = true
   ·rw [List.filter_cons_of_pos h, lkp_cons_ne e]; exact lkp_filter_t hf l
   ·rw [List.filter_cons_of_neg h]; exact lkp_filter_t hf l
theorem lkp_filter_f {α : Type} {f : Nat × α → Bool} {q : Nat} (hf : ∀ v, f (q, v) = false) : ∀ (l : List (Nat × α)), lkp q (l.filter f) = none
 | [] => rfl
 | (j, v) :: l => by
  by_cases h : f (j, v) = true
  ·rw [List.filter_cons_of_pos h]
   have e : q ≠ j := fun e => by subst e; rw [hf v] at h; cases h
   rw [lkp_cons_ne e]; exact lkp_filter_f hf l
  ·rw [List.filter_cons_of_neg h]; exact lkp_filter_f hf l
theorem ky_div {k o : Nat} (h : o < 4096) : ky k o / 4096 = k := by unfold ky; omega
theorem lkp_dropH {k q : Nat} {H : List (Nat × Value)} (h : q / 4096 ≠ k) : lkp q (dropH k H) = lkp q H := lkp_filter_t (fun v => by simpa using h) H
theorem lkp_dropped {k o : Nat} (h : o < 4096) (H : List (Nat × Value)) : lkp (ky k o) (dropH k H) = none := lkp_filter_f (fun v => by simp [ky_div h]) H
theorem Sees.dropTag {w : World} {k b : Nat} (s : Sees F w0 ((k, b) :: B) H S w) (hk : lkp k B = none) : Sees F w0 B (dropH k H) S w :=
 s.to (fun j b' h => by rw [lkp_cons_ne (fun e => by rw [e, hk] at h; cases h)]; exact h) (fun j o v ho h => by
  have hjk : j ≠ k := fun e => by rw [e, lkp_dropped ho] at h; cases h
  rw [lkp_dropH (by rw [ky_div ho]; exact hjk)] at h
  obtain ⟨b', e, _⟩ := s.cells j o v ho h
  rw [lkp_cons_ne hjk] at e
  exact ⟨h, by rw [e]; rfl⟩) (fun j q h => h)
theorem dropH_cons {k o : Nat} {v : Value} {H : List (Nat × Value)} (h : o < 4096) : dropH k ((ky k o, v) :: H) = dropH k H := by
 unfold dropH; rw [List.filter_cons_of_neg (by simp [ky_div h])]
theorem dropH_seq {k : Nat} : ∀ (cs : List Value) (o : Nat) {H : List (Nat × Value)}, o + cs.length ≤ 4096 → dropH k (putSeq k o cs H) = dropH k H
 | [], _, _, _ => rfl
 | v :: r, o, H, h => by
  simp only [List.length_cons] at h
  show dropH k (putSeq k (o + 1) r ((ky k o, v) :: H)) = _
  rw [dropH_seq r (o + 1) oM, dropH_cons oM]
theorem dropH_put {k : Nat} : ∀ (cs : List Value) (o : Nat) {H : List (Nat × Value)}, o + cs.length ≤ 4096 → dropH k (putKeys k o cs ++ H) = dropH k H
 | [], _, _, _ => rfl
 | v :: r, o, H, h => by
  simp only [List.length_cons] at h
  show dropH k ((ky k o, v) :: (putKeys k (o + 1) r ++ H)) = _
  rw [dropH_cons oM, dropH_put r (o + 1) oM]
end
end Go.Fr
namespace Go.Fr
open Go.RowKit
def Prs (w : World) (v : Value) (xs : List (Int × Int)) : Prop := ∃ p c, v = .slice p xs.length c ∧ ∀ (i : Nat) (x : Int × Int), xs[i]? = some x → ∃ b o, p = some ⟨b, o, none⟩ ∧ w.cell? ⟨b, o + 2 * i, none⟩ = some (iV x.1) ∧ w.cell? ⟨b, o + 2 * i + 1, none⟩ = some (iV x.2)
def pcells (xs : List (Int × Int)) : List Value := (xs.map fun x => [iV x.1, iV x.2]).flatten
theorem pcells_len (xs : List (Int × Int)) : (pcells xs).length = 2 * xs.length := by
 unfold pcells
 induction xs with
 | nil => rfl
 | cons t ts ih => simp only [List.map_cons, List.flatten_cons, List.length_append, ih]; simp; omega
theorem pcells_append (xs : List (Int × Int)) (x : Int × Int) : pcells xs ++ [iV x.1, iV x.2] = pcells (xs ++ [x]) := by
 unfold pcells; rw [List.map_append, List.flatten_append]; rfl
theorem pcells_get {xs : List (Int × Int)} {k : Nat} {x : Int × Int} (h : xs[k]? = some x) : (pcells xs)[2 * k]? = some (iV x.1) ∧ (pcells xs)[2 * k + 1]? = some (iV x.2) := by
 induction xs generalizing k with
 | nil => simp at h
 | cons u us ih =>
  cases k with
  | zero => cases h; exact ⟨rfl, rfl⟩
  | succ k =>
   obtain ⟨h1, h2⟩ := ih (k := k) (by simpa using h)
   refine ⟨?_, ?_⟩
   ·show (pcells us)[2 * k]? = _; exact h1
   ·show (pcells us)[2 * k + 1]? = _; exact h2
def SrcP (F : Nat → Prop) (w0 : World) (S : List (Nat × Slc)) (v : Value) (xs : List (Int × Int)) : Prop := ∀ B H S' w, (∀ k, 11 ≤ k → k < 40 → lkp k S' = lkp k S) → Sees F w0 B H S' w → Prs w v xs
section
variable {F : Nat → Prop} {w0 w : World} {B : List (Nat × Nat)} {H : List (Nat × Value)} {S S' : List (Nat × Slc)} {v : Value} {xs : List Int} {ps : List (Int × Int)} {p : Option Addr} {n c : Nat}
theorem SrcP.to (h : SrcP F w0 S v ps) (ha : ∀ k, 11 ≤ k → k < 40 → lkp k S' = lkp k S) : SrcP F w0 S' v ps := fun B H S2 w h2 s => h B H S2 w (fun k h3 h4 => (h2 k h3 h4).trans (ha k h3 h4)) s
theorem SrcP.nil {p : Option Addr} {c : Nat} : SrcP F w0 S (.slice p 0 c) [] := fun _ _ _ _ _ _ => ⟨p, c, rfl, fun i x h => by simp at h⟩
theorem SrcP.old (h : Prs w0 v ps) (hF : ∀ b o n c, v = .slice (some ⟨b, o, none⟩) n c → ¬ F b) : SrcP F w0 S v ps := fun B H S' w _ s => by
 obtain ⟨p, c, rfl, hc⟩ := h
 refine ⟨p, c, rfl, fun i x hx => ?_⟩
 obtain ⟨b, o, rfl, h1, h2⟩ := hc i x hx
 exact ⟨b, o, rfl, s.old_cell h1 (hF b o _ _ rfl), s.old_cell h2 (hF b o _ _ rfl)⟩
theorem SrcP.row {k : Nat} {e : TypeId} (hk : 11 ≤ k ∧ k < 40) (h : lkp k S = some ⟨.slice p n c, e, 2, n, pcells ps⟩) : SrcP F w0 S (.slice p n c) ps := fun B H S' w ha s => by
 have h1 : lkp k S' = some ⟨.slice p n c, e, 2, n, pcells ps⟩ := (ha k hk.1 hk.2).trans h
 have ho := s.slcs k _ h1
 have hl : ps.length = n := by have h2 : (pcells ps).length = n * 2 := ho.1; rw [pcells_len] at h2; omega
 subst hl
 refine ⟨p, c, rfl, fun i x hx => ?_⟩
 obtain ⟨g1, g2⟩ := pcells_get hx
 rcases ho.2 with ⟨e1, e2⟩ | ⟨g, cap, cur, e1, _⟩
 ·have : ps = [] := List.eq_nil_of_length_eq_zero e2
  subst this; simp at hx
 ·injection e1 with e1 e2 e3
  subst e1 e3
  have hc1 := ho.cells (g := g) (by rfl) _ _ g1
  have hc2 := ho.cells (g := g) (by rfl) _ _ g2
  exact ⟨g, 0, rfl, by rwa [Addr.add_mid] at hc1, by rw [Addr.add_mid] at hc2; exact hc2⟩
theorem SrcI.head (h : SrcI F w0 S (.slice p n c) xs) (s : Sees F w0 B H S w) (hn : 0 < xs.length) : ∃ b o, p = some ⟨b, o, none⟩ := by
 obtain ⟨p', c', e, hc⟩ := h B H S w (fun _ _ _ => rfl) s
 injection e with e1 e2 e3
 subst e1
 obtain ⟨b, o, e, _⟩ := hc 0 _ (List.getElem?_eq_getElem hn)
 exact ⟨b, o, e⟩
theorem SrcI.cell {b o : Nat} (h : SrcI F w0 S (.slice (some ⟨b, o, none⟩) n c) xs) {i : Nat} {x : Int} (hx : xs[i]? = some x) (ha : ∀ k, 11 ≤ k → k < 30 → lkp k S' = lkp k S) (s : Sees F w0 B H S' w) : w.cell? ⟨b, o + i * 1, none⟩ = some (iV x) := by
 obtain ⟨p', c', e, hc⟩ := h B H S' w ha s
 injection e with e1 e2 e3
 subst e1
 obtain ⟨b', o', e, h1⟩ := hc i x hx
 cases e
 rw [Nat.mul_one]; exact h1
theorem SrcP.head (h : SrcP F w0 S (.slice p n c) ps) (s : Sees F w0 B H S w) (hn : 0 < ps.length) : ∃ b o, p = some ⟨b, o, none⟩ := by
 obtain ⟨p', c', e, hc⟩ := h B H S w (fun _ _ _ => rfl) s
 injection e with e1 e2 e3
 subst e1
 obtain ⟨b, o, e, _⟩ := hc 0 _ (List.getElem?_eq_getElem hn)
 exact ⟨b, o, e⟩
theorem SrcP.cell {b o : Nat} (h : SrcP F w0 S (.slice (some ⟨b, o, none⟩) n c) ps) {i : Nat} {x : Int × Int} (hx : ps[i]? = some x) (ha : ∀ k, 11 ≤ k → k < 40 → lkp k S' = lkp k S) (s : Sees F w0 B H S' w) : w.cell? ⟨b, o + i * 2, none⟩ = some (iV x.1) ∧ w.cell? ⟨b, o + i * 2 + 1, none⟩ = some (iV x.2) := by
 obtain ⟨p', c', e, hc⟩ := h B H S' w ha s
 injection e with e1 e2 e3
 subst e1
 obtain ⟨b', o', e, h1, h2⟩ := hc i x hx
 cases e
 rw [Nat.mul_comm i 2]; exact ⟨h1, h2⟩
end
abbrev TG (t k : Nat) : Prop := k = t ∨ k = 11 ∨ (26 ≤ k ∧ k < 30)
def SrcT (F : Nat → Prop) (w0 : World) (S : List (Nat × Slc)) (t : Nat) (v : Value) (xs : List Int) : Prop := ∀ B H S' w, (∀ k, TG t k → lkp k S' = lkp k S) → Sees F w0 B H S' w → Ints w v xs
def SrcU (F : Nat → Prop) (w0 : World) (S : List (Nat × Slc)) (t : Nat) (v : Value) (xs : List (Int × Int)) : Prop := ∀ B H S' w, (∀ k, TG t k → lkp k S' = lkp k S) → Sees F w0 B H S' w → Prs w v xs
section
variable {F : Nat → Prop} {w0 w : World} {B : List (Nat × Nat)} {H : List (Nat × Value)} {S S' : List (Nat × Slc)} {v : Value} {xs : List Int} {ps : List (Int × Int)} {p : Option Addr} {n c t j : Nat} {q : Slc}
theorem SrcT.cons (h : SrcT F w0 S t v xs) (hj : ¬ TG t j) : SrcT F w0 ((j, q) :: S) t v xs := fun B H S' w ha s => h B H S' w (fun k hk => (ha k hk).trans (lkp_cons_ne (fun e => by subst e; exact hj hk) _ _)) s
theorem SrcU.cons (h : SrcU F w0 S t v ps) (hj : ¬ TG t j) : SrcU F w0 ((j, q) :: S) t v ps := fun B H S' w ha s => h B H S' w (fun k hk => (ha k hk).trans (lkp_cons_ne (fun e => by subst e; exact hj hk) _ _)) s
theorem SrcT.toI (h : SrcT F w0 S t v xs) (ht : 11 ≤ t ∧ t < 30) : SrcI F w0 S v xs := fun B H S' w ha s => h B H S' w (fun k hk => ha k oM oM) s
theorem SrcT.nil {c : Nat} : SrcT F w0 S t (.slice p 0 c) [] := fun _ _ _ _ _ _ => Ints.nil
theorem SrcT.row {e : TypeId} (h : lkp t S = some ⟨.slice p n c, e, 1, n, xs.map iV⟩) : SrcT F w0 S t (.slice p n c) xs := fun B H S' w ha s => s.ints t ((ha t (.inl rfl)).trans h)
theorem SrcU.row {e : TypeId} (h : lkp t S = some ⟨.slice p n c, e, 2, n, pcells ps⟩) : SrcU F w0 S t (.slice p n c) ps := fun B H S' w ha s => by
 have h1 := (ha t (.inl rfl)).trans h
 have hr : SrcP F w0 S (.slice p n c) ps → True := fun _ => trivial
 have ho := s.slcs t _ h1
 have hl : ps.length = n := by have h2 : (pcells ps).length = n * 2 := ho.1; rw [pcells_len] at h2; omega
 subst hl
 refine ⟨p, c, rfl, fun i x hx => ?_⟩
 obtain ⟨g1, g2⟩ := pcells_get hx
 rcases ho.2 with ⟨e1, e2⟩ | ⟨g, cap, cur, e1, _⟩
 ·have : ps = [] := List.eq_nil_of_length_eq_zero e2
  subst this; simp at hx
 ·injection e1 with e1 e2 e3
  subst e1 e3
  have hc1 := ho.cells (g := g) (by rfl) _ _ g1
  have hc2 := ho.cells (g := g) (by rfl) _ _ g2
  exact ⟨g, 0, rfl, by rwa [Addr.add_mid] at hc1, by rw [Addr.add_mid] at hc2; exact hc2⟩
theorem SrcT.head (h : SrcT F w0 S t (.slice p n c) xs) (s : Sees F w0 B H S w) (hn : 0 < xs.length) : ∃ b o, p = some ⟨b, o, none⟩ := by
 obtain ⟨p', c', e, hc⟩ := h B H S w (fun _ _ => rfl) s
 injection e with e1 e2 e3
 subst e1
 obtain ⟨b, o, e, _⟩ := hc 0 _ (List.getElem?_eq_getElem hn)
 exact ⟨b, o, e⟩
theorem SrcT.cell {b o : Nat} (h : SrcT F w0 S t (.slice (some ⟨b, o, none⟩) n c) xs) {i : Nat} {x : Int} (hx : xs[i]? = some x) (s : Sees F w0 B H S w) : w.cell? ⟨b, o + i * 1, none⟩ = some (iV x) := by
 obtain ⟨p', c', e, hc⟩ := h B H S w (fun _ _ => rfl) s
 injection e with e1 e2 e3
 subst e1
 obtain ⟨b', o', e, h1⟩ := hc i x hx
 cases e
 rw [Nat.mul_one]; exact h1
theorem SrcU.head (h : SrcU F w0 S t (.slice p n c) ps) (s : Sees F w0 B H S w) (hn : 0 < ps.length) : ∃ b o, p = some ⟨b, o, none⟩ := by
 obtain ⟨p', c', e, hc⟩ := h B H S w (fun _ _ => rfl) s
 injection e with e1 e2 e3
 subst e1
 obtain ⟨b, o, e, _⟩ := hc 0 _ (List.getElem?_eq_getElem hn)
 exact ⟨b, o, e⟩
theorem SrcU.cell {b o : Nat} (h : SrcU F w0 S t (.slice (some ⟨b, o, none⟩) n c) ps) {i : Nat} {x : Int × Int} (hx : ps[i]? = some x) (s : Sees F w0 B H S w) : w.rangeAt b (o + i * 2) [iV x.1, iV x.2] := by
 obtain ⟨p', c', e, hc⟩ := h B H S w (fun _ _ => rfl) s
 injection e with e1 e2 e3
 subst e1
 obtain ⟨b', o', e, h1, h2⟩ := hc i x hx
 cases e
 rw [Nat.mul_comm i 2]; exact range2 h1 h2
theorem SrcT.old (h : Ints w0 v xs) (hF : ∀ b, ¬ F b) : SrcT F w0 S t v xs := fun B H S' w _ s => by
 obtain ⟨p, c, rfl, hc⟩ := h
 refine ⟨p, c, rfl, fun i x hx => ?_⟩
 obtain ⟨b, o, rfl, h1⟩ := hc i x hx
 exact ⟨b, o, rfl, s.old_cell h1 (hF b)⟩
theorem SrcT.more (h : SrcT F w0 S 11 v xs) : SrcT F w0 S t v xs := fun B H S' w ha s => h B H S' w (fun k hk => ha k (by rcases hk with h | h | h; exact .inr (.inl h); exact .inr (.inl h); exact .inr (.inr h))) s
theorem SrcU.more (h : SrcU F w0 S 11 v ps) : SrcU F w0 S t v ps := fun B H S' w ha s => h B H S' w (fun k hk => ha k (by rcases hk with h | h | h; exact .inr (.inl h); exact .inr (.inl h); exact .inr (.inr h))) s
end
theorem rd_makeInterface {P : Program} {N : Nat} {L : Loc} {F : Nat → Prop} {w0 : World} {B : List (Nat × Nat)} {H : List (Nat × Value)} {S : List (Nat × Slc)} {d : Nat} {v r : Value} {ty : TypeId} {pos : String} {aft : Array Edge} {g : Option (Nat × Bool)} {t : TypeId} {x : Operand} (hx : ev L x = some v) (h : ∀ w : World, (Instr.makeInterface t v).run P w = .ok r w) : Rd P ⟨some d, .makeInterface t x, ty, pos, aft, g⟩ N L F w0 B H S r := fun a w k s => by
 simp only [execOp, k.eval hx, Sem.run_bind, h w, Result.andThen_ok, Sem.run_pure]
section
variable {P : Program} {Q Q' : Exit → Act → World → Prop} {K : Act → World → Prop} {N : Nat} {L : Loc} {F : Nat → Prop} {w0 : World} {B : List (Nat × Nat)} {H : List (Nat × Value)} {S : List (Nat × Slc)}
variable {d : Nat} {v : Value} {ty : TypeId} {pos : String} {aft : Array Edge} {g : Option (Nat × Bool)}
theorem run_invoke {a : Act} {w : World} {f : FuncId} {x : Operand} {t : TypeId} {rv : Value} {name : String} {aS : List Operand} {ats : Array TypeId} {args : List Value} {dst : Option Nat} (k : Kn N L a) (hx : ev L x = some (.iface t v)) (hm : ∀ w : World, (method (P.types.size + Made.depth) t v name).run P w = .ok (f, rv) w) (hf : enterB P f = true) (ha : Fr.evs L aS = some args) :
  (execOp a.eval ⟨dst, .call ⟨.invoke x name, aS.toArray, ats⟩, ty, pos, aft, g⟩).run P w = .ok (.enter f (rv :: args).toArray) w := by
 unfold enterB at hf
 split at hf
 ·rename_i fn hfn
  simp only [Bool.and_eq_true, Bool.not_eq_true'] at hf
  obtain ⟨c, hb⟩ := Option.isSome_iff_exists.1 hf.1
  have hnm : ¬ fn.name = "runtime.NumGoroutine" := by simpa using hf.2
  have e : (aS.map a.eval) = args := k.evs ha
  simp [execOp, resolve, k.eval hx, invoke, callMethod, callFunc, hfn, hnm, hb, e, hm]
 ·cases hf
theorem at_invoke {ι : Type} {f : FuncId} {x : Operand} {t : TypeId} {rv : Value} {name : String} {aS : List Operand} {ats : Array TypeId} {args : List Value} (V : ι → Value) (Pr : ι → Prop) (Bx : ι → List (Nat × Nat)) (Hx : ι → List (Nat × Value)) (Sx : ι → List (Nat × Slc)) (hd : d < N)
  (hx : ev L x = some (.iface t v)) (hm : ∀ w : World, (method (P.types.size + Made.depth) t v name).run P w = .ok (f, rv) w) (hf : enterB P f = true) (ha : Fr.evs L aS = some args)
  (hc : ∀ w, Sees F w0 B H S w → Calls P f (rv :: args).toArray w fun e w' => ∃ x, Pr x ∧ e = .returned (V x) ∧ Sees F w0 (Bx x) (Hx x) (Sx x) w')
  (hn : ∀ x, Pr x → GK K N ((d, V x) :: L) F w0 (Bx x) (Hx x) (Sx x)) : GO P ⟨some d, .call ⟨.invoke x name, aS.toArray, ats⟩, ty, pos, aft, none⟩ Q K N L F w0 B H S := fun a w k s => by
 show Oper.upon _ _ _ _ _ _
 rw [run_invoke k hx hm hf ha]
 refine (hc w s).mono ?_
 rintro e w' ⟨x, hx, rfl, s'⟩
 exact hn x hx _ _ (k.put hd _) s'
theorem at_invoke_v {f : FuncId} {x : Operand} {t : TypeId} {u rv : Value} {name : String} {aS : List Operand} {ats : Array TypeId} {args : List Value} (hd : d < N)
  (hx : ev L x = some (.iface t u)) (hm : ∀ w : World, (method (P.types.size + Made.depth) t u name).run P w = .ok (f, rv) w) (hf : enterB P f = true) (ha : Fr.evs L aS = some args)
  (hc : ∀ w, Sees F w0 B H S w → Calls P f (rv :: args).toArray w fun e w' => e = .returned v ∧ Below w.heap.size w w')
  (hn : GK K N ((d, v) :: L) F w0 B H S) : GO P ⟨some d, .call ⟨.invoke x name, aS.toArray, ats⟩, ty, pos, aft, none⟩ Q K N L F w0 B H S :=
 at_invoke (ι := Unit) (fun _ => v) (fun _ => True) (fun _ => B) (fun _ => H) (fun _ => S) hd hx hm hf ha (fun w s => (hc w s).mono fun e w' ⟨he, hb⟩ => ⟨(), trivial, he, s.below hb⟩) (fun _ _ => hn)
end
theorem cellsAt.nil {j : Nat} {H : List (Nat × Value)} {o : Nat} : cellsAt j H o [] := trivial
theorem cellsAt.cons {j : Nat} {H : List (Nat × Value)} {o : Nat} {v : Value} {r : List Value} (h : lkp (ky j o) H = some v) (hr : cellsAt j H (o + 1) r) : cellsAt j H o (v :: r) := ⟨h, hr⟩
section
variable {P : Program} {Q Q' : Exit → Act → World → Prop} {K : Act → World → Prop} {N : Nat} {L : Loc} {F : Nat → Prop} {w0 : World} {B : List (Nat × Nat)} {H : List (Nat × Value)} {S : List (Nat × Slc)}
variable {id : Nat} {l tl rest : List Oper} {ops : Array Oper} {o : Oper} {d : Nat} {v : Value} {ty : TypeId} {pos : String} {aft : Array Edge} {op : Op} {g : Option (Nat × Bool)}
theorem at_one_ (j : Nat) {t e : TypeId} {sz by_ : Nat} {zs : List Value} {y : Operand} {cs : List Value} (hd : d < N) (ht : elemInfo P t = some (e, sz, by_, zs)) (hzs : zs.length = sz) (hsz : 0 < sz) (hsm : sz ≤ 4096) (hy : ev L y = some v) (hv : v.cells.toList = cs) (hcs : cs.length = sz)
  (hn : ∀ b, GK K N ((d, sL b 1 1) :: L) F w0 B H ((j, ⟨sL b 1 1, e, sz, 1, cs⟩) :: S)) :
  GO P ⟨some d, .buildSlice t 1 #[(0, y)], ty, pos, aft, none⟩ Q K N L F w0 B H S := fun a w k s => by
 obtain ⟨hu, inf, z, hi, hz, h2, h3, h4⟩ := elemInfo_spec ht
 subst h2
 have hvs : v.cells.size = inf.size := by rw [← Array.length_toList, hv, hcs]
 have hfold : ∀ (l : List Value) (n : Nat) (A : Array Value), n + l.length = A.size → ((l.zipIdx n).foldl (fun cs (c, j) => cs.setIfInBounds j c) A).toList = A.toList.take n ++ l := by
  intro l
  induction l with
  | nil => intro n A h; simp at h; subst h; simp [← Array.length_toList]
  | cons c l ih =>
   intro n A h
   simp only [List.length_cons] at h
   rw [List.zipIdx_cons, List.foldl_cons, ih (n + 1) _ (by simp; omega)]
   have hn : n < A.size := by omega
   rw [Array.toList_setIfInBounds, List.take_set, List.take_succ_eq_append_getElem (by simpa using hn), List.set_append_right _ _ (by simp; omega)]
   simp [Nat.min_eq_left (Nat.le_of_lt hn)]
 have hr : (Instr.buildSlice t 1 #[(0, v)]).run P w = .ok (sL w.heap.size 1 1) (w.alloc (.cells cs.toArray e (0, 0))) := by
  have hne : ¬ inf.size = 0 := by omega
  have hle : ¬ 16777216 < inf.size := by omega
  have hA : (Array.map (fun x => z.cells[x % z.cells.size]!) (Array.range inf.size)).size = inf.size := by simp
  have key : ((v.cells.zipIdx).foldl (fun cs (c, j) => cs.setIfInBounds j c) (Array.map (fun x => z.cells[x % z.cells.size]!) (Array.range inf.size))) = cs.toArray := by
   apply Array.toList_inj.1
   have := hfold v.cells.toList 0 (Array.map (fun x => z.cells[x % z.cells.size]!) (Array.range inf.size)) (by rw [hA, Array.length_toList, hvs]; omega)
   simp only [List.take_zero, List.nil_append, hv] at this
   rw [← Array.foldl_toList, Array.toList_zipIdx, hv]
   simpa using this
  simp [Instr.buildSlice, run_underlying hu, run_sizeOf_info hi, hne, hle, zeroValue, typeInfo, hi, hz, Instr.fill, hvs, newRow]
  have e1 : v.cells.zipIdx.size = inf.size := by simp [hvs]
  have key2 : Array.foldl (fun (cs : Array Value) (x : Value × Nat) => cs.setIfInBounds x.snd x.fst) (Array.map (fun x => z.cells[x % z.cells.size]!) (Array.range inf.size)) v.cells.zipIdx 0 inf.size = cs.toArray := by
   rw [show Array.foldl (fun (cs : Array Value) (x : Value × Nat) => cs.setIfInBounds x.snd x.fst) (Array.map (fun x => z.cells[x % z.cells.size]!) (Array.range inf.size)) v.cells.zipIdx 0 inf.size = Array.foldl (fun (cs : Array Value) (x : Value × Nat) => cs.setIfInBounds x.snd x.fst) (Array.map (fun x => z.cells[x % z.cells.size]!) (Array.range inf.size)) v.cells.zipIdx 0 v.cells.zipIdx.size by rw [e1]]
   exact key
  exact congrArg (fun A => w.alloc (.cells A e)) key2
 have s' : Sees F w0 B H ((j, ⟨sL w.heap.size 1 1, e, inf.size, 1, cs⟩) :: S) (w.alloc (.cells cs.toArray e (0, 0))) :=
  s.slice (old := none) (.inl rfl) (World.grownBy_alloc w _ none) ⟨by simp [hcs], .inr ⟨w.heap.size, 1, cs.toArray, rfl, Nat.zero_le _, heap_alloc_new w _, Nat.le_refl _, by unfold maxLen; omega, by simp [hcs], by simp [← hcs]⟩⟩ (.inr (.inr ⟨w.heap.size, rfl, Nat.le_refl _⟩))
 show Oper.upon _ _ _ _ _ _
 simp only [execOp, List.map_toArray, List.map_cons, List.map_nil, k.eval hy, Sem.run_bind, hr, Result.andThen_ok, Sem.run_pure]
 exact hn _ _ _ (k.put hd _) s'
end
end Go.Fr
namespace Go.Fr
open Go.RowKit Go.Sort
section
variable {P : Program} {Q : Exit → Act → World → Prop} {K : Act → World → Prop} {N : Nat} {L : Loc} {F : Nat → Prop} {w0 : World} {B : List (Nat × Nat)} {H : List (Nat × Value)} {S : List (Nat × Slc)}
variable {d : Nat} {ty : TypeId} {pos : String} {aft : Array Edge}
theorem Sees.row_last {w : World} {j : Nat} {q r : Slc} (s : Sees F w0 B H ((j, q) :: (j, r) :: S) w) : Sees F w0 B H ((j, q) :: S) w :=
 s.to (fun _ _ h => h) (fun k o v ho h => ⟨h, by obtain ⟨b, e, _⟩ := s.cells k o v ho h; rw [e]; rfl⟩) (fun k u h => by
  rcases lkp_cons h with ⟨rfl, rfl⟩ | ⟨hne, h⟩
  ·exact lkp_cons_self _ _ _
  ·rw [lkp_cons_ne hne, lkp_cons_ne hne]; exact h)
theorem at_store2_row (j : Nat) {t : TypeId} {x y : Operand} {b off len cap : Nat} {q : Slc} {u v : Value} (hx : ev L x = some (.pointer (some ⟨b, off, none⟩))) (hy : ev L y = some (.agg #[u, v])) (hr : lkp j S = some q) (hs : q.v = sL b len cap) (hi : off + 1 < q.xs.length) (h1 : u.oneCell' = true) (h2 : v.oneCell' = true)
  (hn : GK K N L F w0 B H ((j, { q with xs := (q.xs.set off u).set (off + 1) v }) :: S)) (ht : (P.info? t).map (·.size) = some 2 := by kernel_rfl) : GO P ⟨none, .store t x y, ty, pos, aft, none⟩ Q K N L F w0 B H S := fun a w k s => by
 have s1 := s.stored j hr hs (off := off) u
 have s2 := s1.stored j (lkp_cons_self _ _ _) hs (off := off + 1) v
 have ho := s.slcs j q hr
 have hh := own_head ho hs
 have ho' : w.ownsRow 0 q.e q.sz (sL b q.n cap) q.n q.xs := by
  rw [← hh.2.2]; rw [← hs]; rw [hh.2.2]; exact ho
 have hr' := run_storeVar_mid (P := P) w b off t #[u, v] (fun i hi' => by
  have hi2 : i < 2 := hi'
  have hlt : off + i < q.xs.length := by omega
  exact ⟨by rw [s.row_cell (o := off + i) hr hs (List.getElem?_eq_getElem hlt)]; rfl, ho'.frozenAt (off + i)⟩) ht (by simp [h1, h2])
 show Oper.upon _ _ _ _ _ _
 simp only [execOp, k.eval hx, k.eval hy, Instr.storeAt, Instr.sureAddr, Sem.run_bind, hr', Result.andThen_ok, Sem.run_pure]
 exact hn _ _ k s2.row_last
end
section
variable {F : Nat → Prop} {w0 : World} {B : List (Nat × Nat)} {H : List (Nat × Value)} {S : List (Nat × Slc)}
theorem wrap_u64 {n : Int} (h : 0 ≤ n ∧ n < 18446744073709551616) : IntKind.u64.wrap n = n := by
 simp [IntKind.wrap, IntKind.bits, IntKind.signed]; omega
section
variable {P : Program} {N d : Nat} {L : Loc} {v : Value} {ty : TypeId} {pos : String} {aft : Array Edge} {g : Option (Nat × Bool)} {xt yt : TypeId} {x y : Operand} {q qk : IntKind} {m k : Int}
theorem rd_shl (hx : ev L x = some (.int q m)) (hy : ev L y = some (.int qk k)) (hk : 0 ≤ k) : Rd P ⟨some d, .binOp .shl xt x y yt, ty, pos, aft, g⟩ N L F w0 B H S (.int q (q.wrap (m * 2 ^ (min k.toNat q.bits)))) := fun a w kk s => by
 have : ¬ k < 0 := by omega
 simp [execOp, eqGuard, binOp, Op.shift, kk.eval hx, kk.eval hy, this]
theorem rd_shr (hx : ev L x = some (.int q m)) (hy : ev L y = some (.int qk k)) (hk : 0 ≤ k) : Rd P ⟨some d, .binOp .shr xt x y yt, ty, pos, aft, g⟩ N L F w0 B H S (.int q (m.fdiv (2 ^ (min k.toNat q.bits)))) := fun a w kk s => by
 have : ¬ k < 0 := by omega
 simp [execOp, eqGuard, binOp, Op.shift, kk.eval hx, kk.eval hy, this]
theorem rd_xor (hx : ev L x = some (.int q m)) (hy : ev L y = some (.int q k)) : Rd P ⟨some d, .binOp .xor xt x y yt, ty, pos, aft, g⟩ N L F w0 B H S (.int q (q.wrap ((BitVec.ofInt q.bits m ^^^ BitVec.ofInt q.bits k).toNat : Int))) := fun a w kk s => by
 simp [execOp, eqGuard, binOp, Op.intBits, kk.eval hx, kk.eval hy]
theorem rd_and (hx : ev L x = some (.int q m)) (hy : ev L y = some (.int q k)) : Rd P ⟨some d, .binOp .and xt x y yt, ty, pos, aft, g⟩ N L F w0 B H S (.int q (q.wrap ((BitVec.ofInt q.bits m &&& BitVec.ofInt q.bits k).toNat : Int))) := fun a w kk s => by
 simp [execOp, eqGuard, binOp, Op.intBits, kk.eval hx, kk.eval hy]
end
theorem Sees.cell_last {w : World} {j : Nat} {u v : Value} (s : Sees F w0 B ((j, u) :: (j, v) :: H) S w) : Sees F w0 B ((j, u) :: H) S w :=
 s.to (fun _ _ h => h) (fun k o x ho h => by
  have h2 : lkp (ky k o) ((j, u) :: (j, v) :: H) = some x := by
   rcases lkp_cons h with ⟨e, rfl⟩ | ⟨hne, h⟩
   ·rw [← e]; exact lkp_cons_self _ _ _
   ·rw [lkp_cons_ne hne, lkp_cons_ne hne]; exact h
  obtain ⟨b, e, _⟩ := s.cells k o x ho h2
  exact ⟨h2, by rw [e]; rfl⟩) (fun _ _ h => h)
end
def arow (e b n c : Nat) (d : Array Int) : Slc := ⟨sL b n c, e, 2, n, tcells d.toList⟩
theorem tcells_set (ts : List Int) (x : Int) : ∀ i : Nat, ((tcells ts).set (2 * i) (iV x)).set (2 * i + 1) (iV 0) = tcells (ts.set i x) := by
 induction ts with
 | nil => intro i; rfl
 | cons t ts ih =>
  intro i
  cases i with
  | zero => rfl
  | succ i =>
   show ((iV t :: iV 0 :: tcells ts).set (2 * (i + 1)) _).set (2 * (i + 1) + 1) _ = iV t :: iV 0 :: tcells (ts.set i x)
   rw [← ih i]
   rfl
theorem arow_get {d : Array Int} {i : Nat} (h : i < d.size) : (tcells d.toList)[2 * i]? = some (iV d[i]!) ∧ (tcells d.toList)[2 * i + 1]? = some (iV 0) :=
 tcells_get (by simp [h])
theorem swp_list (d : Array Int) {i j : Nat} (hi : i < d.size) (hj : j < d.size) : ((d.toList.set i d[j]!).set j d[i]!) = (swp d i j).toList := by
 unfold swp
 rw [Array.toList_setIfInBounds, Array.toList_setIfInBounds]
theorem sort_end {d d' : Array Int} (hp : PermIn 0 d.size d d') (hs : SortedIn ltInt 0 d.size d') : d'.toList = d.toList.mergeSort (fun a b => decide (a ≤ b)) := by
 have h := sorted_unique_holds (lt := ltInt) swo_ltInt (fun x y h1 h2 => by simp [ltInt] at h1 h2; omega) d d' hp hs
 rw [h]
 congr 1
 funext x y
 show (!decide (y < x)) = decide (x ≤ y)
 by_cases h : y < x
 ·rw [decide_eq_true h, decide_eq_false (show ¬ x ≤ y by omega)]; rfl
 ·rw [decide_eq_false h, decide_eq_true (show x ≤ y by omega)]; rfl
def i64B (P : Program) (t : TypeId) : Bool := match P.underlying t with
 | some (.int _) => true
 | _ => false
def eq2B (P : Program) (t : TypeId) : Bool := !P.eqGuardType P.depth t && !P.stoodInHeld t && (match P.underlying t with | some (.struct _) => true | _ => false) && match (P.fieldsOf t).toList with
 | [f, g] => f.name != "_" && g.name != "_" && f.offset == 0 && g.offset == 1 && i64B P f.type && i64B P g.type
 | _ => false
theorem rd_eq2 {P : Program} {N : Nat} {L : Loc} {F : Nat → Prop} {w0 : World} {B : List (Nat × Nat)} {H : List (Nat × Value)} {S : List (Nat × Slc)} {d : Nat} {ty : TypeId} {pos : String} {aft : Array Edge} {g : Option (Nat × Bool)} {xt yt : TypeId} {x y : Operand} {a b c e : Int}
  (hx : ev L x = some (.agg #[iV a, iV b])) (hy : ev L y = some (.agg #[iV c, iV e])) (ht : eq2B P xt = true := by kernel_rfl) :
  Rd P ⟨some d, .binOp .eql xt x y yt, ty, pos, aft, g⟩ N L F w0 B H S (.bool (a == c && b == e)) := fun act w k s => by
 simp only [eq2B, Bool.and_eq_true, Bool.not_eq_true'] at ht
 obtain ⟨⟨⟨hG, hp⟩, hst⟩, hf⟩ := ht
 have hu : P.underlying xt = some (.struct (P.fieldsOf xt)) := by
  unfold Program.fieldsOf
  cases hq : P.underlying xt with
  | none => simp [hq] at hst
  | some u => cases u <;> simp [hq] at hst ⊢
 split at hf
 ·rename_i f1 f2 hfs
  simp only [Bool.and_eq_true, bne_iff_ne, ne_eq, beq_iff_eq] at hf
  obtain ⟨⟨⟨⟨⟨n1, n2⟩, o1⟩, o2⟩, t1⟩, t2⟩ := hf
  have int : ∀ t, i64B P t = true → ∃ q, P.underlying t = some (.int q) := by
   intro t h
   unfold i64B at h
   split at h
   ·exact ⟨_, ‹_›⟩
   ·cases h
  obtain ⟨q1, u1⟩ := int _ t1
  obtain ⟨q2, u2⟩ := int _ t2
  have p1 : ∀ (v : Value) (xs : Array Value) (o : Nat) (t : TypeId) (q : IntKind), P.underlying t = some (.int q) → xs[o]? = some v → (Go.part t xs o).run P w = .ok v w := by
   intro v xs o t q hq hv
   simp [Go.part, isAgg, run_underlying hq, hv]
  have hE : (Op.equalIn 10000 xt (.agg #[iV a, iV b]) (.agg #[iV c, iV e])).run P w = .ok (a == c && b == e) w := by
   rw [show (10000 : Nat) = 9999 + 1 from rfl, run_equalIn_struct w 9999 xt _ _ hu hp, hfs]
   have a1 := p1 _ _ 0 _ _ u1 (show #[iV a, iV b][0]? = some (iV a) from rfl)
   have a2 := p1 _ _ 0 _ _ u1 (show #[iV c, iV e][0]? = some (iV c) from rfl)
   have a3 := p1 _ _ 1 _ _ u2 (show #[iV a, iV b][1]? = some (iV b) from rfl)
   have a4 := p1 _ _ 1 _ _ u2 (show #[iV c, iV e][1]? = some (iV e) from rfl)
   have b1 := fun m n => run_equalIn_int (P := P) w 9998 f1.type .i64 q1 m n u1
   have b2 := fun m n => run_equalIn_int (P := P) w 9998 f2.type .i64 q2 m n u2
   simp only [Op.eqFields, ne_eq, n1, n2, not_false_eq_true, if_true, o1, o2, Sem.run_bind, a1, a2, b1, Result.andThen_ok]
   cases a == c
   ·rfl
   ·simp only [Bool.not_true, Bool.false_eq_true, if_false, Sem.run_bind, a3, a4, b2, Result.andThen_ok, Bool.true_and]
    cases b == e <;> rfl
  simp only [execOp, k.eval hx, k.eval hy, Sem.run_bind, run_eqGuard_agg w .eql xt x y _ _ hG, Result.andThen_ok, run_eql_struct, hE, Sem.run_pure]
 ·cases hf
end Go.Fr
namespace Go.Proofs.YtdbbifbmkfmbkaaGreat
open Go.RowKit Go.Fr Go.Tab
section
variable {F : Nat → Prop} {w0 : World} {B : List (Nat × Nat)} {H : List (Nat × Value)} {S : List (Nat × Slc)}
open Go.Sort
theorem less_calls {t b n c : Nat} {d : Array Int} (hd : d.size = n) {i j : Int} (p q : Nat) (hi : i = p) (hj : j = q) (hp : p < n) (hq : q < n) (w : World) (s : Sees F w0 B H ((t, arow 57 b n c d) :: S) w) : Calls Go.Proofs.Tryz.prog 175 #[sL b n c, iV i, iV j] w fun e w' => e = .returned (.bool (ltInt d[p]! d[q]!)) ∧ Below w.heap.size w w' := by
 subst hi hj
 obtain ⟨gp1, gp2⟩ := arow_get (d := d) (i := p) oM
 obtain ⟨gq1, gq2⟩ := arow_get (d := d) (i := q) oM
 have kp1 := s.row_cell (k := t) (o := 2 * p) (lkp_cons_self _ _ _) rfl gp1
 have kp2 := s.row_cell (k := t) (o := 2 * p + 1) (lkp_cons_self _ _ _) rfl gp2
 have kq1 := s.row_cell (k := t) (o := 2 * q) (lkp_cons_self _ _ _) rfl gq1
 have kq2 := s.row_cell (k := t) (o := 2 * q + 1) (lkp_cons_self _ _ _) rfl gq2
 refine calls_GC (args := [sL b n c, iV p, iV q]) (L := [(0, sL b n c), (1, iV p), (2, iV q)]) (N := 16) Tryz.func175 rfl rfl ble rfl (Sees.start (fun _ => False) w) ?_
 refine g6 ?_
 refine GC_tail 8 kR kR ?_
 refine g2 ?_
 refine rt (rd_indexAddr (e := 57) (n := 2) kR rfl rfl oM oM) ?_
 refine rt (rd_load2_old rfl (by rw [← kp1]; congr 2; omega) (by rw [← kp2]; congr 2; omega) (fun h => h) kR) ?_
 refine g2 ?_
 refine rt (rd_indexAddr (e := 57) (n := 2) kR rfl rfl oM oM) ?_
 refine rt (rd_load2_old rfl (by rw [← kq1]; congr 2; omega) (by rw [← kq2]; congr 2; omega) (fun h => h) kR) ?_
 refine g1 ?_
 refine gL (cvo (v := .bool (ltInt d[p]! d[q]!)) rfl (fun w_ s_ => (before_calls _ _ _ _ w_).mono fun e_ w2_ h_ => ⟨h_.1.trans (congrArg Ending.returned (congrArg Value.bool (decide_eq_decide.2 oM))), h_.2⟩) ?_)
 refine g4 ?_
 exact GE_ret1 (.inl rfl) rfl (res_tmp rfl) fun w_ s_ => ⟨rfl, s_.toBelow⟩
theorem swap_calls {t b n c : Nat} {d : Array Int} (hd : d.size = n) {i j : Int} (p q : Nat) (hi : i = p) (hj : j = q) (hp : p < n) (hq : q < n) : ∀ w, Sees F w0 B H ((t, arow 57 b n c d) :: S) w → Calls Go.Proofs.Tryz.prog 176 #[sL b n c, iV i, iV j] w fun e w' => e = .returned (.tuple #[]) ∧ Sees F w0 B H ((t, arow 57 b n c (swp d p q)) :: S) w' := by
 subst hi hj
 obtain ⟨gp1, gp2⟩ := arow_get (d := d) (i := p) oM
 obtain ⟨gq1, gq2⟩ := arow_get (d := d) (i := q) oM
 have hlen : (tcells d.toList).length = 2 * n := by rw [tcells_len]; simp [hd]
 have e1 : ((tcells d.toList).set (0 + p * 2) (iV d[q]!)).set (0 + p * 2 + 1) (iV 0) = tcells (d.toList.set p d[q]!) := by
  rw [show 0 + p * 2 = 2 * p by omega]; exact tcells_set _ _ _
 have e2 : ((tcells (d.toList.set p d[q]!)).set (0 + q * 2) (iV d[p]!)).set (0 + q * 2 + 1) (iV 0) = tcells (swp d p q).toList := by
  rw [show 0 + q * 2 = 2 * q by omega, tcells_set, swp_list _ oM oM]
 have hblind : Blind (bodyPost Go.Proofs.Tryz.prog Tryz.f176 fun e w' => e = .returned (.tuple #[]) ∧ Sees F w0 B H ((t, arow 57 b n c (swp d p q)) :: S) w') := Blind.body
 intro w s_
 refine calls_GC (args := [sL b n c, iV p, iV q]) (L := [(0, sL b n c), (1, iV p), (2, iV q)]) (N := 20) Tryz.func176 rfl rfl ble rfl s_ ?_
 refine GC_anyS (fun i => false) kR ?_
 refine gr 0 rfl (rd_move rfl) ?_
 refine gr 1 rfl (rd_move rfl) ?_
 refine gr 2 rfl (rd_move rfl) ?_
 refine gr 3 rfl (rd_move rfl) ?_
 refine gr 4 rfl (rd_move rfl) ?_
 refine gr 5 rfl (rd_move rfl) ?_
 refine gr 6 rfl (rd_indexAddr (e := 57) (n := 2) kR rfl rfl oM oM) ?_
 refine gr 8 rfl (rd_move rfl) ?_
 refine gr 9 rfl (rd_move rfl) ?_
 refine gr 10 rfl (rd_indexAddr (e := 57) (n := 2) kR rfl rfl oM oM) ?_
 refine GA_two (i := 7) (j := 11) rfl rfl rfl rfl kR rfl rfl ?_ ?_
 ·refine at_rd dE (rd_load2_row t rfl (lkp_cons_self _ _ _) rfl (by rw [← gq1]; congr 1; omega) (by rw [← gq2]; congr 1; omega) kR) (gk ?_)
  refine gn 11 rfl (at_rd dE (rd_load2_row t rfl (lkp_cons_self _ _ _) rfl (by rw [← gp1]; congr 1; omega) (by rw [← gp2]; congr 1; omega) kR) (gk ?_))
  refine gn 12 rfl (at_rd dE (rd_indexAddr (e := 57) (n := 2) kR rfl rfl oM oM) (gk ?_))
  refine gn 13 rfl (at_store2_row t rfl rfl (lkp_cons_self _ _ _) rfl (by simp only [arow, hlen]; omega) rfl rfl (gk ?_))
  refine gn 14 rfl (at_rd dE (rd_indexAddr (e := 57) (n := 2) kR rfl rfl oM oM) (gk ?_))
  refine gn 15 rfl (at_store2_row t rfl rfl (lkp_cons_self _ _ _) rfl (by simp only [arow, List.length_set, hlen]; omega) rfl rfl (gk ?_))
  refine GA_end kR ?_
  refine GE_ret0 (.inr rfl) rfl fun w_ s_ => ⟨rfl, ?_⟩
  have s2 := s_.row_last
  simp only [arow, Int.toNat_natCast] at s2
  rw [e1, e2] at s2
  exact s2.row_last
 ·refine at_rd dE (rd_load2_row t rfl (lkp_cons_self _ _ _) rfl (by rw [← gp1]; congr 1; omega) (by rw [← gp2]; congr 1; omega) kR) (gk ?_)
  refine gn 7 rfl (at_rd dE (rd_load2_row t rfl (lkp_cons_self _ _ _) rfl (by rw [← gq1]; congr 1; omega) (by rw [← gq2]; congr 1; omega) kR) (gk ?_))
  refine gn 12 rfl (at_rd dE (rd_indexAddr (e := 57) (n := 2) kR rfl rfl oM oM) (gk ?_))
  refine gn 13 rfl (at_store2_row t rfl rfl (lkp_cons_self _ _ _) rfl (by simp only [arow, hlen]; omega) rfl rfl (gk ?_))
  refine gn 14 rfl (at_rd dE (rd_indexAddr (e := 57) (n := 2) kR rfl rfl oM oM) (gk ?_))
  refine gn 15 rfl (at_store2_row t rfl rfl (lkp_cons_self _ _ _) rfl (by simp only [arow, List.length_set, hlen]; omega) rfl rfl (gk ?_))
  refine GA_end kR ?_
  refine GE_ret0 (.inr rfl) rfl fun w_ s_ => ⟨rfl, ?_⟩
  have s2 := s_.row_last
  simp only [arow, Int.toNat_natCast] at s2
  rw [e1, e2] at s2
  exact s2.row_last
section
variable {P : Program} {Q : Exit → Act → World → Prop} {K : Act → World → Prop} {N dd : Nat} {L : Fr.Loc} {v : Value} {ty : TypeId} {pos : String} {aft : Array Edge}
theorem at_less {x : Operand} {asl : List Operand} {ats : Array TypeId} {t b n c : Nat} {d : Array Int} {i j : Int} (p q : Nat) (hx : ev L x = some (.iface 122 (sL b n c))) (ha : Fr.evs L asl = some [iV i, iV j]) (hd : d.size = n) (hi : i = p) (hj : j = q) (hp : p < n) (hq : q < n)
  (hn : GK K N ((dd, .bool (ltInt d[p]! d[q]!)) :: L) F w0 B H ((t, arow 57 b n c d) :: S)) (hdd : dd < N := by decide) : GO Go.Proofs.Tryz.prog ⟨some dd, .call ⟨.invoke x "Less", asl.toArray, ats⟩, ty, pos, aft, none⟩ Q K N L F w0 B H ((t, arow 57 b n c d) :: S) :=
 at_invoke_v (f := 175) hdd hx (fun w => by kernel_rfl) kR ha (fun w_ s_ => less_calls hd p q hi hj hp hq w_ s_) hn
theorem at_swap {x : Operand} {asl : List Operand} {ats : Array TypeId} {t b n c : Nat} {d : Array Int} {i j : Int} (p q : Nat) (hx : ev L x = some (.iface 122 (sL b n c))) (ha : Fr.evs L asl = some [iV i, iV j]) (hd : d.size = n) (hi : i = p) (hj : j = q) (hp : p < n) (hq : q < n)
  (hn : GK K N ((dd, .tuple #[]) :: L) F w0 B H ((t, arow 57 b n c (swp d p q)) :: S)) (hdd : dd < N := by decide) : GO Go.Proofs.Tryz.prog ⟨some dd, .call ⟨.invoke x "Swap", asl.toArray, ats⟩, ty, pos, aft, none⟩ Q K N L F w0 B H ((t, arow 57 b n c d) :: S) :=
 at_invoke (ι := Unit) (f := 176) (fun _ => .tuple #[]) (fun _ => True) (fun _ => B) (fun _ => H) (fun _ => ((t, arow 57 b n c (swp d p q)) :: S)) hdd hx (fun w => by kernel_rfl) kR ha (fun w_ s_ => (swap_calls hd p q hi hj hp hq w_ s_).mono fun e w' ⟨he, hs⟩ => ⟨(), trivial, he, hs⟩) (fun _ _ => hn)
theorem at_call_to {f : FuncId} {asl : List Operand} {ats : Array TypeId} {args : List Value} (v : Value) {B' : List (Nat × Nat)} {H' : List (Nat × Value)} {S' : List (Nat × Slc)} (ha : Fr.evs L asl = some args) (hc : ∀ w, Sees F w0 B H S w → Calls P f args.toArray w fun e w' => e = .returned v ∧ Sees F w0 B' H' S' w')
  (hn : GK K N ((dd, v) :: L) F w0 B' H' S') (hdd : dd < N := by decide) (hf : enterB P f = true := by kernel_rfl) : GO P ⟨some dd, .call ⟨.value (.func f), asl.toArray, ats⟩, ty, pos, aft, none⟩ Q K N L F w0 B H S :=
 at_call (ι := Unit) (fun _ => v) (fun _ => True) (fun _ => B') (fun _ => H') (fun _ => S') hdd hf ha (fun w s => (hc w s).mono fun e w' ⟨he, hs⟩ => ⟨(), trivial, he, hs⟩) (fun _ _ => hn)
theorem at_call_ex {ι : Type} {f : FuncId} {asl : List Operand} {ats : Array TypeId} {args : List Value} (V : ι → Value) (Pr : ι → Prop) (Sx : ι → List (Nat × Slc)) (ha : Fr.evs L asl = some args) (hc : ∀ w, Sees F w0 B H S w → Calls P f args.toArray w fun e w' => ∃ x, Pr x ∧ e = .returned (V x) ∧ Sees F w0 B H (Sx x) w')
  (hn : ∀ x, Pr x → GK K N ((dd, V x) :: L) F w0 B H (Sx x)) (hdd : dd < N := by decide) (hf : enterB P f = true := by kernel_rfl) : GO P ⟨some dd, .call ⟨.value (.func f), asl.toArray, ats⟩, ty, pos, aft, none⟩ Q K N L F w0 B H S :=
 at_call V Pr (fun _ => B) (fun _ => H) Sx hdd hf ha hc hn
end
theorem insInner_go (a j : Nat) (d : Array Int) (hj : a < j) (hl : ltInt d[j]! d[j - 1]! = true) : insInner ltInt a j d = insInner ltInt a (j - 1) (swp d j (j - 1)) := by
 obtain ⟨k, rfl⟩ : ∃ k, j = k + 1 := ⟨j - 1, by omega⟩
 rw [Nat.add_sub_cancel] at hl ⊢
 conv => lhs; unfold insInner
 rw [if_pos (by rw [decide_eq_true hj, hl]; rfl)]
theorem insInner_stop (a j : Nat) (d : Array Int) (h : j ≤ a ∨ ltInt d[j]! d[j - 1]! = false) : insInner ltInt a j d = d := by
 cases j with
 | zero => rfl
 | succ j =>
  rw [Nat.add_sub_cancel] at h
  unfold insInner
  rw [if_neg]
  intro hh
  rw [Bool.and_eq_true, decide_eq_true_eq] at hh
  rcases h with h | h
  ·omega
  ·rw [h] at hh; exact absurd hh.2 dE
theorem insOuter_go (a b i : Nat) (d : Array Int) (h : i < b) : insOuter ltInt a b i d = insOuter ltInt a b (i + 1) (insInner ltInt a i d) := by rw [insOuter, if_pos h]
theorem insOuter_stop (a b i : Nat) (d : Array Int) (h : ¬ i < b) : insOuter ltInt a b i d = d := by rw [insOuter, if_neg h]
theorem insertion_calls {t b n c : Nat} {d : Array Int} (hd : d.size = n) (hn : n ≤ 1000000000) (a e : Nat) (ha : a ≤ n) (he : e ≤ n) : ∀ w, Sees F w0 B H ((t, arow 57 b n c d) :: S) w → Calls Go.Proofs.Tryz.prog 127 #[.iface 122 (sL b n c), iV a, iV e] w fun e_ w' => e_ = .returned (.tuple #[]) ∧ Sees F w0 B H ((t, arow 57 b n c (insertionSort ltInt d a e)) :: S) w' := by
 intro w s
 refine calls_GC (args := [.iface 122 (sL b n c), iV a, iV e]) (L := [(0, .iface 122 (sL b n c)), (1, iV a), (2, iV e)]) (N := 33) Tryz.func127 rfl rfl ble rfl s ?_
 refine g8 ?_
 refine GC_loop (ι := (Nat) × (Array Int)) (fun | ⟨i, dk⟩ => e - i) (fun | ⟨i, dk⟩ => (a < i) ∧ (dk.size = n) ∧ (insOuter ltInt a e i dk = insOuter ltInt a e (a + 1) d)) (fun | ⟨i, dk⟩ => [(0, .iface 122 (sL b n c)), (1, iV a), (2, iV e), (6, iV i)]) (fun | ⟨i, dk⟩ => B) (fun | ⟨i, dk⟩ => H) (fun | ⟨i, dk⟩ => ((t, arow 57 b n c dk) :: S)) ⟨a + 1, d⟩ ⟨by omega, hd, rfl⟩ kno (fun w s => by exact s) ?_
 rintro ⟨i, dk⟩ ⟨hi, hds, hO⟩
 show GC _ _ _ _ [(0, .iface 122 (sL b n c)), (1, iV a), (2, iV e), (6, iV i)] _ _ (B) (H) (((t, arow 57 b n c dk) :: S))
 refine g8 ?_
 refine GC_cond rfl (fun hc1 => ?_) (fun hc2 => ?_)
 ·have hlt : i < e := by have := of_decide_eq_true hc1; omega
  refine g11 ?_
  refine GC_loop (ι := (Nat) × (Array Int)) (fun | ⟨j, dj⟩ => j) (fun | ⟨j, dj⟩ => (a ≤ j) ∧ (j ≤ i) ∧ (dj.size = n) ∧ (insInner ltInt a j dj = insInner ltInt a i dk)) (fun | ⟨j, dj⟩ => [(0, .iface 122 (sL b n c)), (1, iV a), (2, iV e), (6, iV i), (7, iV j)]) (fun | ⟨j, dj⟩ => B) (fun | ⟨j, dj⟩ => H) (fun | ⟨j, dj⟩ => ((t, arow 57 b n c dj) :: S)) ⟨i, dk⟩ ⟨by omega, Nat.le_refl _, hds, rfl⟩ kns (fun w s => by exact s) ?_
  rintro ⟨j, dj⟩ ⟨haj, hji, hsj, hI⟩
  show GC _ _ _ _ [(0, .iface 122 (sL b n c)), (1, iV a), (2, iV e), (6, iV i), (7, iV j)] _ _ (B) (H) (((t, arow 57 b n c dj) :: S))
  refine g2 ?_
  rcases Decidable.em (a < j) with hja | hja
  ·refine g3 ?_
   refine rl ((rd_gtr rfl rfl).to bT) ?_
   refine g10 ?_
   refine gL (at_less (j) (j - 1) rfl rfl hsj oM oM oM oM ?_)
   refine g3 ?_
   refine GC_cond rfl (fun hc1 => ?_) (fun hc2 => ?_)
   ·have hl : ltInt dj[j]! dj[j - 1]! = true := hc1
    refine g9 ?_
    refine gL (at_swap (j) (j - 1) rfl rfl hsj oM oM oM oM ?_)
    refine g8 ?_
    refine GE_back ⟨j - 1, swp dj j (j - 1)⟩ sO ⟨by omega, by omega, by rw [size_swp]; exact hsj, by rw [← hI]; exact (insInner_go a j dj hja hl).symm⟩ kno (fun w s => by exact s)
   ·have hl : ltInt dj[j]! dj[j - 1]! = false := hc2
    have hO2 : insOuter ltInt a e (i + 1) dj = insOuter ltInt a e (a + 1) d := by rw [← hO, insOuter_go a e i dk hlt, ← hI, insInner_stop a j dj (.inr hl)]
    refine g11 ?_
    refine GE_back ⟨i + 1, dj⟩ sO ⟨by omega, hsj, hO2⟩ kno (fun w s => by exact s)
  ·refine g3 ?_
   refine rl ((rd_gtr rfl rfl).to bF) ?_
   refine g9 ?_
   have hO2 : insOuter ltInt a e (i + 1) dj = insOuter ltInt a e (a + 1) d := by rw [← hO, insOuter_go a e i dk hlt, ← hI, insInner_stop a j dj (.inl oM)]
   refine GC_is_false rfl rfl ?_
   refine g11 ?_
   refine GE_back ⟨i + 1, dj⟩ sO ⟨by omega, hsj, hO2⟩ kno (fun w s => by exact s)
 ·have hge : ¬ i < e := by have := of_decide_eq_false hc2; omega
  refine g4 ?_
  refine GE_ret0 (.inr rfl) rfl fun w_ s_ => ⟨rfl, ?_⟩
  rw [show insertionSort ltInt d a e = dk by unfold insertionSort; rw [← hO, insOuter_stop a e i dk hge]]
  exact s_
end
end Go.Proofs.YtdbbifbmkfmbkaaGreat
namespace Go.Proofs.YtdbbifbmkfmbkaaGreat
open Go.RowKit Go.Fr Go.Tab
section
variable {F : Nat → Prop} {w0 : World} {B : List (Nat × Nat)} {H : List (Nat × Value)} {S : List (Nat × Slc)}
open Go.Sort
theorem reverse_calls {t b n c : Nat} {d : Array Int} (hd : d.size = n) (hn : n ≤ 1000000000) (a e : Nat) (ha : a ≤ e) (he : e ≤ n) : ∀ w, Sees F w0 B H ((t, arow 57 b n c d) :: S) w → Calls Go.Proofs.Tryz.prog 131 #[.iface 122 (sL b n c), iV a, iV e] w fun e_ w' => e_ = .returned (.tuple #[]) ∧ Sees F w0 B H ((t, arow 57 b n c (reverseRange d a e)) :: S) w' := by
 intro w s
 refine calls_GC (args := [.iface 122 (sL b n c), iV a, iV e]) (L := [(0, .iface 122 (sL b n c)), (1, iV a), (2, iV e)]) (N := 22) Tryz.func131 rfl rfl ble rfl s ?_
 refine g14 ?_
 refine GC_loop (ι := (Nat) × (Int) × (Nat) × (Array Int)) (fun | ⟨i, z, j, dk⟩ => j - i) (fun | ⟨i, z, j, dk⟩ => (z = j ∨ (z = -1 ∧ j = 0)) ∧ (j ≤ e - 1) ∧ (i ≤ 1000000000) ∧ (dk.size = n) ∧ (reverseLoop i j dk = reverseLoop a (e - 1) d)) (fun | ⟨i, z, j, dk⟩ => [(0, .iface 122 (sL b n c)), (6, iV i), (7, iV z)]) (fun | ⟨i, z, j, dk⟩ => B) (fun | ⟨i, z, j, dk⟩ => H) (fun | ⟨i, z, j, dk⟩ => ((t, arow 57 b n c dk) :: S)) ⟨a, (e : Int) - 1, e - 1, d⟩ ⟨by omega, Nat.le_refl _, by omega, hd, rfl⟩ kno (fun w s => by exact s) ?_
 rintro ⟨i, z, j, dk⟩ ⟨hz, hj, hi, hds, hO⟩
 show GC _ _ _ _ [(0, .iface 122 (sL b n c)), (6, iV i), (7, iV z)] _ _ (B) (H) (((t, arow 57 b n c dk) :: S))
 refine g8 ?_
 refine GC_cond rfl (fun hc1 => ?_) (fun hc2 => ?_)
 ·have hlt : i < j := by have := of_decide_eq_true hc1; omega
  refine g8 ?_
  refine gL (at_swap (i) (j) rfl rfl hds oM oM oM oM ?_)
  refine g15 ?_
  refine GE_back ⟨i + 1, z - 1, j - 1, swp dk i j⟩ sO ⟨by omega, by omega, by omega, by rw [size_swp]; exact hds, by rw [← hO]; conv => rhs; rw [reverseLoop, if_pos hlt]⟩ kno (fun w s => by exact s)
 ·have hge : ¬ i < j := by have := of_decide_eq_false hc2; omega
  refine g4 ?_
  refine GE_ret0 (.inr rfl) rfl fun w_ s_ => ⟨rfl, ?_⟩
  rw [show reverseRange d a e = dk by unfold reverseRange; rw [← hO, reverseLoop, if_neg hge]]
  exact s_
theorem sift_eq {hi f r ch : Nat} {d : Array Int} (h : ¬ hi ≤ 2 * r + 1) (hch : (ch = 2 * r + 1 ∧ (decide (2 * r + 1 + 1 < hi) && ltInt d[f + (2 * r + 1)]! d[f + (2 * r + 1) + 1]!) = false) ∨ (ch = 2 * r + 2 ∧ 2 * r + 2 < hi ∧ (decide (2 * r + 1 + 1 < hi) && ltInt d[f + (2 * r + 1)]! d[f + (2 * r + 1) + 1]!) = true)) :
  siftDown ltInt hi f r d = if ltInt d[f + r]! d[f + ch]! = false then d else siftDown ltInt hi f ch (swp d (f + r) (f + ch)) := by
 conv => lhs; rw [siftDown]
 rw [dif_neg h]
 rcases hch with ⟨rfl, h2⟩ | ⟨rfl, h3, h2⟩
 ·rw [if_neg (by rw [h2]; decide)]
  cases ltInt d[f + r]! d[f + (2 * r + 1)]! <;> rfl
 ·rw [if_pos h2]
  cases ltInt d[f + r]! d[f + (2 * r + 2)]!
  ·rfl
  ·simp only [Bool.not_true, Bool.false_eq_true, if_false, dif_pos h3]; rfl
theorem sift_calls {t b n c : Nat} {d : Array Int} (hd : d.size = n) (hn : n ≤ 1000000000) (lo hi f : Nat) (hf : f + hi ≤ n) (hlo : lo ≤ n) : ∀ w, Sees F w0 B H ((t, arow 57 b n c d) :: S) w → Calls Go.Proofs.Tryz.prog 138 #[.iface 122 (sL b n c), iV lo, iV hi, iV f] w fun e_ w' => e_ = .returned (.tuple #[]) ∧ Sees F w0 B H ((t, arow 57 b n c (siftDown ltInt hi f lo d)) :: S) w' := by
 intro w s
 refine calls_GC (args := [.iface 122 (sL b n c), iV lo, iV hi, iV f]) (L := [(0, .iface 122 (sL b n c)), (1, iV lo), (2, iV hi), (3, iV f)]) (N := 52) Tryz.func138 rfl rfl ble rfl s ?_
 refine g7 ?_
 refine GC_loop (ι := (Nat) × (Array Int)) (fun | ⟨r, dk⟩ => n - r) (fun | ⟨r, dk⟩ => (r ≤ n) ∧ (dk.size = n) ∧ (siftDown ltInt hi f r dk = siftDown ltInt hi f lo d)) (fun | ⟨r, dk⟩ => [(0, .iface 122 (sL b n c)), (2, iV hi), (3, iV f), (8, iV r)]) (fun | ⟨r, dk⟩ => B) (fun | ⟨r, dk⟩ => H) (fun | ⟨r, dk⟩ => ((t, arow 57 b n c dk) :: S)) ⟨lo, d⟩ ⟨hlo, hd, rfl⟩ kno (fun w s => by exact s) ?_
 rintro ⟨r, dk⟩ ⟨hr, hds, hO⟩
 show GC _ _ _ _ [(0, .iface 122 (sL b n c)), (2, iV hi), (3, iV f), (8, iV r)] _ _ (B) (H) (((t, arow 57 b n c dk) :: S))
 refine g16 ?_
 refine g1 ?_
 refine GC_cond rfl (fun hc1 => ?_) (fun hc2 => ?_)
 ·have hge : hi ≤ 2 * r + 1 := by have := of_decide_eq_true hc1; omega
  refine g5 ?_
  refine GE_ret0 (.inr rfl) rfl fun w_ s_ => ⟨rfl, ?_⟩
  rw [← hO]
  conv => arg 5; arg 1; arg 2; arg 5; rw [siftDown, dif_pos hge]
  exact s_
 ·have hlt : ¬ hi ≤ 2 * r + 1 := by have := of_decide_eq_false hc2; omega
  refine g2 ?_
  refine GC_cut (ι := (Nat)) (fun ch => ((ch = 2 * r + 1 ∧ (decide (2 * r + 1 + 1 < hi) && ltInt dk[f + (2 * r + 1)]! dk[f + (2 * r + 1) + 1]!) = false) ∨ (ch = 2 * r + 2 ∧ 2 * r + 2 < hi ∧ (decide (2 * r + 1 + 1 < hi) && ltInt dk[f + (2 * r + 1)]! dk[f + (2 * r + 1) + 1]!) = true))) (fun ch => [(0, .iface 122 (sL b n c)), (2, iV hi), (3, iV f), (8, iV r), (9, iV ch)]) (fun ch => B) (fun ch => H) (fun ch => ((t, arow 57 b n c dk) :: S)) ?_ ?_
  ·refine g1 ?_
   rcases Decidable.em (2 * r + 2 < hi) with hin | hin
   ·refine g4 ?_
    refine rl ((rd_lss rfl rfl).to bT) ?_
    refine g18 ?_
    refine gL (at_less (f + (2 * r + 1)) (f + (2 * r + 1) + 1) rfl rfl hds oM oM oM oM ?_)
    refine g3 ?_
    refine GC_cond rfl (fun hc1 => ?_) (fun hc2 => ?_)
    ·have hl1 : ltInt dk[f + (2 * r + 1)]! dk[f + (2 * r + 1) + 1]! = true := hc1
     refine g5 ?_
     refine GE_meet (ι := Nat) (2 * r + 2) (.inr ⟨rfl, hin, by rw [decide_eq_true hin, hl1]; rfl⟩) kno (fun w s => s)
    ·have hl1 : ltInt dk[f + (2 * r + 1)]! dk[f + (2 * r + 1) + 1]! = false := hc2
     refine g1 ?_
     refine GE_meet (ι := Nat) (2 * r + 1) (.inl ⟨rfl, by rw [decide_eq_true hin, hl1]; rfl⟩) kno (fun w s => s)
   ·refine g4 ?_
    refine rl ((rd_lss rfl rfl).to bF) ?_
    refine g13 ?_
    refine GC_is_false rfl rfl ?_
    refine g1 ?_
    refine GE_meet (ι := Nat) (2 * r + 1) (.inl ⟨rfl, by rw [decide_eq_false hin]; rfl⟩) kno (fun w s => s)
  rintro ch hch
  show GC _ _ _ _ [(0, .iface 122 (sL b n c)), (2, iV hi), (3, iV f), (8, iV r), (9, iV ch)] _ _ (B) (H) (((t, arow 57 b n c dk) :: S))
  refine g10 ?_
  refine gL (at_less (f + r) (f + ch) rfl rfl hds oM oM oM oM ?_)
  refine g3 ?_
  refine GC_cond rfl (fun hc1 => ?_) (fun hc2 => ?_)
  ·have hl : ltInt dk[f + r]! dk[f + ch]! = false := by rw [Bool.not_eq_true'] at hc1; exact hc1
   refine g5 ?_
   refine GE_ret0 (.inl rfl) rfl fun w_ s_ => ⟨rfl, ?_⟩
   rw [← hO, sift_eq hlt hch, if_pos hl]
   exact s_
  ·have hl : ltInt dk[f + r]! dk[f + ch]! = true := by rw [Bool.not_eq_false'] at hc2; exact hc2
   refine g11 ?_
   refine gL (at_swap (f + r) (f + ch) rfl rfl hds oM oM oM oM ?_)
   refine g7 ?_
   refine GE_back ⟨ch, swp dk (f + r) (f + ch)⟩ sO ⟨by omega, by rw [size_swp]; exact hds, by rw [← hO, sift_eq hlt hch, if_neg (by rw [hl]; decide)]⟩ kno (fun w s => by exact s)
theorem sift_size (hi f : Nat) : ∀ (r : Nat) (x : Array Int), (siftDown ltInt hi f r x).size = x.size := by
 have key : ∀ (m r : Nat) (x : Array Int), hi - r ≤ m → (siftDown ltInt hi f r x).size = x.size := by
  intro m
  induction m with
  | zero => intro r x hm; rw [siftDown, dif_pos oM]
  | succ m ih =>
   intro r x hm
   rw [siftDown]
   split
   ·rfl
   ·split
    ·split
     ·rfl
     ·split
      ·rw [ih _ _ oM, size_swp]
      ·rfl
    ·split
     ·rfl
     ·rw [ih _ _ oM, size_swp]
 exact fun r x => key _ r x (Nat.le_refl _)
theorem heap_calls {t b n c : Nat} {d : Array Int} (hd : d.size = n) (hn : n ≤ 1000000000) (a e : Nat) (ha : a < e) (he : e ≤ n) : ∀ w, Sees F w0 B H ((t, arow 57 b n c d) :: S) w → Calls Go.Proofs.Tryz.prog 128 #[.iface 122 (sL b n c), iV a, iV e] w fun e_ w' => e_ = .returned (.tuple #[]) ∧ Sees F w0 B H ((t, arow 57 b n c (heapSort ltInt d a e)) :: S) w' := by
 intro w s
 have hsz : ∀ (hi f r : Nat) (x : Array Int), (siftDown ltInt hi f r x).size = x.size := sift_size
 refine calls_GC (args := [.iface 122 (sL b n c), iV a, iV e]) (L := [(0, .iface 122 (sL b n c)), (1, iV a), (2, iV e)]) (N := 44) Tryz.func128 rfl rfl ble rfl s ?_
 refine g25 ?_
 refine g4 ?_
 refine GC_loop (ι := (Nat) × (Array Int)) (fun | ⟨k, dk⟩ => k) (fun | ⟨k, dk⟩ => (k ≤ (e - a - 1) / 2 + 1) ∧ (dk.size = n) ∧ (heapBuild ltInt (e - a) a k dk = heapBuild ltInt (e - a) a ((e - a - 1) / 2 + 1) d)) (fun | ⟨k, dk⟩ => [(0, .iface 122 (sL b n c)), (6, iV a), (7, iV 0), (8, iV (((e - a : Nat) : Int))), (9, iV ((k : Int) - 1))]) (fun | ⟨k, dk⟩ => B) (fun | ⟨k, dk⟩ => H) (fun | ⟨k, dk⟩ => ((t, arow 57 b n c dk) :: S)) ⟨(e - a - 1) / 2 + 1, d⟩ ⟨Nat.le_refl _, hd, rfl⟩ kno (fun w s => by exact s) ?_
 rintro ⟨k, dk⟩ ⟨hk, hds, hO⟩
 show GC _ _ _ _ [(0, .iface 122 (sL b n c)), (6, iV a), (7, iV 0), (8, iV (((e - a : Nat) : Int))), (9, iV ((k : Int) - 1))] _ _ (B) (H) (((t, arow 57 b n c dk) :: S))
 refine g7 ?_
 refine GC_cond rfl (fun hc1 => ?_) (fun hc2 => ?_)
 ·have hk1 : 1 ≤ k := by have := of_decide_eq_true hc1; omega
  obtain ⟨k, rfl⟩ : ∃ m, k = m + 1 := ⟨k - 1, by omega⟩
  have e1 : ((k + 1 : Nat) : Int) - 1 = (k : Int) := by omega
  rw [e1]
  refine g9 ?_
  refine gL (at_call_to (.tuple #[]) (S' := ((t, arow 57 b n c (siftDown ltInt (e - a) a k dk)) :: S)) rfl (fun w_ s_ => sift_calls hds hn k (e - a) a oM oM w_ s_) ?_)
  refine g8 ?_
  refine GE_back ⟨k, siftDown ltInt (e - a) a k dk⟩ sO ⟨by omega, by rw [hsz]; exact hds, hO⟩ kno (fun w s => by exact s)
 ·obtain rfl : k = 0 := by have := of_decide_eq_false hc2; omega
  have hO : dk = heapBuild ltInt (e - a) a ((e - a - 1) / 2 + 1) d := hO
  refine g13 ?_
  refine GC_loop (ι := (Nat) × (Array Int)) (fun | ⟨k, dj⟩ => k) (fun | ⟨k, dj⟩ => (k ≤ e - a) ∧ (dj.size = n) ∧ (heapPop ltInt a k dj = heapSort ltInt d a e)) (fun | ⟨k, dj⟩ => [(0, .iface 122 (sL b n c)), (6, iV a), (7, iV 0), (8, iV (((e - a : Nat) : Int))), (10, iV ((k : Int) - 1))]) (fun | ⟨k, dj⟩ => B) (fun | ⟨k, dj⟩ => H) (fun | ⟨k, dj⟩ => ((t, arow 57 b n c dj) :: S)) ⟨e - a, dk⟩ ⟨Nat.le_refl _, hds, by unfold heapSort; rw [← hO]⟩ kno (fun w s => by exact s) ?_
  rintro ⟨k, dj⟩ ⟨hk, hds2, hO2⟩
  show GC _ _ _ _ [(0, .iface 122 (sL b n c)), (6, iV a), (7, iV 0), (8, iV (((e - a : Nat) : Int))), (10, iV ((k : Int) - 1))] _ _ (B) (H) (((t, arow 57 b n c dj) :: S))
  refine g7 ?_
  refine GC_cond rfl (fun hc1 => ?_) (fun hc2 => ?_)
  ·have hk1 : 1 ≤ k := by have := of_decide_eq_true hc1; omega
   obtain ⟨k, rfl⟩ : ∃ m, k = m + 1 := ⟨k - 1, by omega⟩
   have e1 : ((k + 1 : Nat) : Int) - 1 = (k : Int) := by omega
   rw [e1]
   refine g11 ?_
   refine gL (at_swap (a) (a + k) rfl rfl hds2 oM oM oM oM ?_)
   refine g7 ?_
   refine gL (at_call_to (.tuple #[]) (S' := ((t, arow 57 b n c (siftDown ltInt k a 0 (swp dj a (a + k)))) :: S)) rfl (fun w_ s_ => sift_calls (d := swp dj a (a + k)) (by rw [size_swp]; exact hds2) hn 0 k a oM oM w_ s_) ?_)
   refine g8 ?_
   refine GE_back ⟨k, siftDown ltInt k a 0 (swp dj a (a + k))⟩ sO ⟨by omega, by rw [hsz, size_swp]; exact hds2, hO2⟩ kno (fun w s => by exact s)
  ·obtain rfl : k = 0 := by have := of_decide_eq_false hc2; omega
   have hO2 : dj = heapSort ltInt d a e := hO2
   refine g4 ?_
   refine GE_ret0 (.inr rfl) rfl fun w_ s_ => ⟨rfl, ?_⟩
   rw [← hO2]
   exact s_
end
end Go.Proofs.YtdbbifbmkfmbkaaGreat
namespace Go.Proofs.YtdbbifbmkfmbkaaGreat
open Go.RowKit Go.Fr Go.Tab
section
variable {F : Nat → Prop} {w0 : World} {B : List (Nat × Nat)} {H : List (Nat × Value)} {S : List (Nat × Slc)}
open Go.Sort
theorem up_go {p : Int → Bool} {d : Array Int} {j i : Nat} (h : i ≤ j) (hp : p d[i]! = true) : scanUp p d j (i + 1) = scanUp p d j i := by conv => rhs; rw [scanUp, if_pos (by rw [decide_eq_true h, hp]; rfl)]
theorem up_stop {p : Int → Bool} {d : Array Int} {j i : Nat} (h : ¬ i ≤ j ∨ p d[i]! = false) : i = scanUp p d j i := by
 rw [scanUp, if_neg]
 intro hh
 rw [Bool.and_eq_true, decide_eq_true_eq] at hh
 rcases h with h | h
 ·exact h hh.1
 ·rw [h] at hh; exact absurd hh.2 dE
theorem dn_go {p : Int → Bool} {d : Array Int} {i j : Nat} (h1 : 1 ≤ j) (h : i ≤ j) (hp : p d[j]! = true) : scanDown p d i (j - 1) = scanDown p d i j := by
 obtain ⟨k, rfl⟩ : ∃ k, j = k + 1 := ⟨j - 1, by omega⟩
 conv => rhs; rw [scanDown, if_pos (by rw [decide_eq_true h, hp]; rfl)]
 rfl
theorem dn_stop {p : Int → Bool} {d : Array Int} {i j : Nat} (h : ¬ i ≤ j ∨ p d[j]! = false) : j = scanDown p d i j := by
 cases j with
 | zero => rfl
 | succ k =>
  rw [scanDown, if_neg]
  intro hh
  rw [Bool.and_eq_true, decide_eq_true_eq] at hh
  rcases h with h | h
  ·exact h hh.1
  ·rw [h] at hh; exact absurd hh.2 dE
theorem scans_ne {p q : Int → Bool} (hq : ∀ x, q x = !p x) {d : Array Int} {i j : Nat} (hi : 1 ≤ i) (hij : i ≤ j + 1) (h : ¬ scanUp p d j i > scanDown q d (scanUp p d j i) j) : scanUp p d j i < scanDown q d (scanUp p d j i) j := by
 have hu := scanUp_spec p d j _ i rfl
 have hd := scanDown_spec q d (scanUp p d j i) j
 rcases Nat.lt_or_ge (scanUp p d j i) (scanDown q d (scanUp p d j i) j) with h' | h'
 ·exact h'
 ·exfalso
  have e : scanUp p d j i = scanDown q d (scanUp p d j i) j := by omega
  have h1 := hu.2.2.2 oM
  have h2 := hd.2.2.2 oM oM
  rw [← e, hq, h1] at h2
  exact absurd h2 dE
theorem scan_bd (p q : Int → Bool) (d : Array Int) {i j : Nat} (hij : i ≤ j + 1) : i ≤ scanUp p d j i ∧ scanUp p d j i ≤ j + 1 ∧ scanDown q d (scanUp p d j i) j ≤ j ∧ scanUp p d j i ≤ scanDown q d (scanUp p d j i) j + 1 := by
 have hu := scanUp_spec p d j _ i rfl
 have hd := scanDown_spec q d (scanUp p d j i) j
 exact ⟨hu.1, hu.2.1 hij, hd.1, hd.2.1 (hu.2.1 hij)⟩
theorem partition_calls {t b n c : Nat} {d : Array Int} (hd : d.size = n) (hn : n ≤ 1000000000) (a e p : Nat) (ha : a ≤ p) (hp0 : p < e) (he : e ≤ n) : ∀ w, Sees F w0 B H ((t, arow 57 b n c d) :: S) w → Calls Go.Proofs.Tryz.prog 134 #[.iface 122 (sL b n c), iV a, iV e, iV p] w fun e_ w' => e_ = .returned (.tuple #[iV ((partition ltInt d a e p).1 : Nat), .bool (partition ltInt d a e p).2.1]) ∧ Sees F w0 B H ((t, arow 57 b n c (partition ltInt d a e p).2.2) :: S) w' := by
 intro w s
 refine calls_GC (args := [.iface 122 (sL b n c), iV a, iV e, iV p]) (L := [(0, .iface 122 (sL b n c)), (1, iV a), (2, iV e), (3, iV p)]) (N := 98) Tryz.func134 rfl rfl ble rfl s ?_
 refine g11 ?_
 refine gL (at_swap a p rfl rfl hd rfl rfl oM oM ?_)
 obtain ⟨d1, hd1⟩ : ∃ x, x = swp d a p := ⟨_, rfl⟩
 rw [← hd1]
 have hds : d1.size = n := by rw [hd1, size_swp]; exact hd
 refine g12 ?_
 refine GC_cut (ι := (Nat)) (fun i => (i = scanUp (fun x => ltInt x d1[a]!) d1 (e - 1) (a + 1)) ∧ (1 ≤ i ∧ i ≤ e - 1 + 1)) (fun i => [(0, .iface 122 (sL b n c)), (1, iV a), (10, iV i), (11, iV ((e : Int) - 1))]) (fun i => B) (fun i => H) (fun i => ((t, arow 57 b n c d1) :: S)) ?_ ?_
 ·refine g1 ?_
  refine GC_loop (ι := (Nat)) (fun i => e - 1 + 1 - i) (fun i => (1 ≤ i ∧ i ≤ e - 1 + 1) ∧ (scanUp (fun x => ltInt x d1[a]!) d1 (e - 1) i = scanUp (fun x => ltInt x d1[a]!) d1 (e - 1) (a + 1))) (fun i => [(0, .iface 122 (sL b n c)), (1, iV a), (10, iV i), (11, iV ((e : Int) - 1))]) (fun i => B) (fun i => H) (fun i => ((t, arow 57 b n c d1) :: S)) (a + 1) ⟨by omega, rfl⟩ kno (fun w s => by exact s) ?_
  rintro i ⟨hv, hsc⟩
  show GC _ _ _ _ [(0, .iface 122 (sL b n c)), (1, iV a), (10, iV i), (11, iV ((e : Int) - 1))] _ _ (B) (H) (((t, arow 57 b n c d1) :: S))
  refine g2 ?_
  rcases Decidable.em (i ≤ e - 1) with hin | hin
  ·refine g3 ?_
   refine rl ((rd_leq rfl rfl).to bT) ?_
   refine g8 ?_
   refine gL (at_less (i) (a) rfl rfl hds oM oM oM oM ?_)
   refine g3 ?_
   refine GC_cond rfl (fun hc1 => ?_) (fun hc2 => ?_)
   ·have hp : (fun x => ltInt x d1[a]!) d1[i]! = true := hc1
    refine g9 ?_
    refine GE_back (i + 1) oM ⟨by omega, (up_go hin hp).trans hsc⟩ kno (fun w s => by exact s)
   ·have hp : (fun x => ltInt x d1[a]!) d1[i]! = false := hc2
    refine g4 ?_
    refine GE_meet (ι := Nat) i ⟨(up_stop (p := (fun x => ltInt x d1[a]!)) (.inr hp)).trans hsc, by omega⟩ kno (fun w s => s)
  ·refine g3 ?_
   refine rl ((rd_leq rfl rfl).to bF) ?_
   refine g8 ?_
   refine GC_is_false rfl rfl ?_
   refine g4 ?_
   refine GE_meet (ι := Nat) i ⟨(up_stop (p := (fun x => ltInt x d1[a]!)) (.inl hin)).trans hsc, by omega⟩ kno (fun w s => s)
 rintro i ⟨hi, hbi⟩
 show GC _ _ _ _ [(0, .iface 122 (sL b n c)), (1, iV a), (10, iV i), (11, iV ((e : Int) - 1))] _ _ (B) (H) (((t, arow 57 b n c d1) :: S))
 refine GC_cut (ι := (Nat)) (fun j => (j = scanDown (fun x => !ltInt x d1[a]!) d1 (i) (e - 1)) ∧ (j ≤ e - 1 ∧ i ≤ j + 1)) (fun j => [(0, .iface 122 (sL b n c)), (1, iV a), (11, iV j), (10, iV i)]) (fun j => B) (fun j => H) (fun j => ((t, arow 57 b n c d1) :: S)) ?_ ?_
 ·refine g1 ?_
  refine GC_loop (ι := (Nat)) (fun j => j) (fun j => (j ≤ e - 1 ∧ i ≤ j + 1) ∧ (scanDown (fun x => !ltInt x d1[a]!) d1 (i) j = scanDown (fun x => !ltInt x d1[a]!) d1 (i) (e - 1))) (fun j => [(0, .iface 122 (sL b n c)), (1, iV a), (11, iV j), (10, iV i)]) (fun j => B) (fun j => H) (fun j => ((t, arow 57 b n c d1) :: S)) (e - 1) ⟨by omega, rfl⟩ kno (fun w s => by exact s) ?_
  rintro j ⟨hv, hsc⟩
  show GC _ _ _ _ [(0, .iface 122 (sL b n c)), (1, iV a), (11, iV j), (10, iV i)] _ _ (B) (H) (((t, arow 57 b n c d1) :: S))
  refine g2 ?_
  rcases Decidable.em (i ≤ j) with hin | hin
  ·refine g3 ?_
   refine rl ((rd_leq rfl rfl).to bT) ?_
   refine g8 ?_
   refine gL (at_less (j) (a) rfl rfl hds oM oM oM oM ?_)
   refine g5 ?_
   refine GC_cond rfl (fun hc1 => ?_) (fun hc2 => ?_)
   ·have hp : (fun x => !ltInt x d1[a]!) d1[j]! = true := hc1
    refine g9 ?_
    refine GE_back (j - 1) oM ⟨by omega, (dn_go oM hin hp).trans hsc⟩ kno (fun w s => by exact s)
   ·have hp : (fun x => !ltInt x d1[a]!) d1[j]! = false := hc2
    refine g4 ?_
    refine GE_meet (ι := Nat) j ⟨(dn_stop (p := (fun x => !ltInt x d1[a]!)) (.inr hp)).trans hsc, by omega⟩ kno (fun w s => s)
  ·refine g3 ?_
   refine rl ((rd_leq rfl rfl).to bF) ?_
   refine g9 ?_
   refine GC_is_false rfl rfl ?_
   refine g4 ?_
   refine GE_meet (ι := Nat) j ⟨(dn_stop (p := (fun x => !ltInt x d1[a]!)) (.inl hin)).trans hsc, by omega⟩ kno (fun w s => s)
 rintro j ⟨hj, hbj⟩
 show GC _ _ _ _ [(0, .iface 122 (sL b n c)), (1, iV a), (11, iV j), (10, iV i)] _ _ (B) (H) (((t, arow 57 b n c d1) :: S))
 refine g8 ?_
 refine GC_cond rfl (fun hc1 => ?_) (fun hc2 => ?_)
 ·have hgt : i > j := by have := of_decide_eq_true hc1; omega
  refine g5 ?_
  refine gL (at_swap (j) (a) rfl rfl hds oM oM oM oM ?_)
  refine g11 ?_
  have hP : partition ltInt d a e p = (j, true, swp d1 j a) := by unfold partition; simp only [← hd1, ← hi, ← hj]; rw [if_pos hgt]
  rw [hP]
  refine GE_ret2 (.inl rfl) rfl (res_tmp rfl) (res_tmp rfl) fun w_ s_ => ⟨rfl, ?_⟩
  exact s_
 ·have hgt : ¬ i > j := by have := of_decide_eq_false hc2; omega
  have hne := scans_ne (p := (fun x => ltInt x d1[a]!)) (q := (fun x => !ltInt x d1[a]!)) (fun x => rfl) (d := d1) (i := a + 1) (j := e - 1) oM oM (by rw [← hi, ← hj]; exact hgt)
  rw [← hi, ← hj] at hne
  have hbu0 := scan_bd (fun x => ltInt x d1[a]!) (fun x => !ltInt x d1[a]!) d1 (i := a + 1) (j := e - 1) oM
  rw [← hi, ← hj] at hbu0
  obtain ⟨d2, hd2⟩ : ∃ x, x = swp d1 i j := ⟨_, rfl⟩
  have hds2 : d2.size = n := by rw [hd2, size_swp]; exact hds
  refine g7 ?_
  refine gL (at_swap i j rfl rfl hds rfl rfl oM oM ?_)
  rw [← hd2]
  refine g18 ?_
  refine GC_loop (ι := (Nat) × (Nat) × (Array Int)) (fun | ⟨u, v, dk⟩ => v + 1 - u) (fun | ⟨u, v, dk⟩ => (a < u ∧ u ≤ v + 1 ∧ v < e) ∧ (dk.size = n) ∧ (partLoop ltInt a u v dk = partLoop ltInt a (i + 1) (j - 1) d2)) (fun | ⟨u, v, dk⟩ => [(0, .iface 122 (sL b n c)), (1, iV a), (10, iV u), (11, iV v)]) (fun | ⟨u, v, dk⟩ => B) (fun | ⟨u, v, dk⟩ => H) (fun | ⟨u, v, dk⟩ => ((t, arow 57 b n c dk) :: S)) ⟨i + 1, j - 1, d2⟩ ⟨by omega, hds2, rfl⟩ kno (fun w s => by exact s) ?_
  rintro ⟨u, v, dk⟩ ⟨huv, hds, hO⟩
  show GC _ _ _ _ [(0, .iface 122 (sL b n c)), (1, iV a), (10, iV u), (11, iV v)] _ _ (B) (H) (((t, arow 57 b n c dk) :: S))
  refine g1 ?_
  refine GC_cut (ι := (Nat)) (fun u2 => (u2 = scanUp (fun x => ltInt x dk[a]!) dk (v) (u)) ∧ (1 ≤ u2 ∧ u2 ≤ v + 1)) (fun u2 => [(0, .iface 122 (sL b n c)), (1, iV a), (10, iV u2), (11, iV v)]) (fun u2 => B) (fun u2 => H) (fun u2 => ((t, arow 57 b n c dk) :: S)) ?_ ?_
  ·refine g1 ?_
   refine GC_loop (ι := (Nat)) (fun u2 => v + 1 - u2) (fun u2 => (1 ≤ u2 ∧ u2 ≤ v + 1) ∧ (scanUp (fun x => ltInt x dk[a]!) dk (v) u2 = scanUp (fun x => ltInt x dk[a]!) dk (v) (u))) (fun u2 => [(0, .iface 122 (sL b n c)), (1, iV a), (10, iV u2), (11, iV v)]) (fun u2 => B) (fun u2 => H) (fun u2 => ((t, arow 57 b n c dk) :: S)) (u) ⟨by omega, rfl⟩ kno (fun w s => by exact s) ?_
   rintro u2 ⟨hv, hsc⟩
   show GC _ _ _ _ [(0, .iface 122 (sL b n c)), (1, iV a), (10, iV u2), (11, iV v)] _ _ (B) (H) (((t, arow 57 b n c dk) :: S))
   refine g2 ?_
   rcases Decidable.em (u2 ≤ v) with hin | hin
   ·refine g3 ?_
    refine rl ((rd_leq rfl rfl).to bT) ?_
    refine g8 ?_
    refine gL (at_less (u2) (a) rfl rfl hds oM oM oM oM ?_)
    refine g3 ?_
    refine GC_cond rfl (fun hc1 => ?_) (fun hc2 => ?_)
    ·have hp : (fun x => ltInt x dk[a]!) dk[u2]! = true := hc1
     refine g9 ?_
     refine GE_back (u2 + 1) oM ⟨by omega, (up_go hin hp).trans hsc⟩ kno (fun w s => by exact s)
    ·have hp : (fun x => ltInt x dk[a]!) dk[u2]! = false := hc2
     refine g4 ?_
     refine GE_meet (ι := Nat) u2 ⟨(up_stop (p := (fun x => ltInt x dk[a]!)) (.inr hp)).trans hsc, by omega⟩ kno (fun w s => s)
   ·refine g3 ?_
    refine rl ((rd_leq rfl rfl).to bF) ?_
    refine g8 ?_
    refine GC_is_false rfl rfl ?_
    refine g4 ?_
    refine GE_meet (ι := Nat) u2 ⟨(up_stop (p := (fun x => ltInt x dk[a]!)) (.inl hin)).trans hsc, by omega⟩ kno (fun w s => s)
  rintro u2 ⟨hu2, hbu2⟩
  show GC _ _ _ _ [(0, .iface 122 (sL b n c)), (1, iV a), (10, iV u2), (11, iV v)] _ _ (B) (H) (((t, arow 57 b n c dk) :: S))
  refine GC_cut (ι := (Nat)) (fun v2 => (v2 = scanDown (fun x => !ltInt x dk[a]!) dk (u2) (v)) ∧ (v2 ≤ v ∧ u2 ≤ v2 + 1)) (fun v2 => [(0, .iface 122 (sL b n c)), (1, iV a), (11, iV v2), (10, iV u2)]) (fun v2 => B) (fun v2 => H) (fun v2 => ((t, arow 57 b n c dk) :: S)) ?_ ?_
  ·refine g1 ?_
   refine GC_loop (ι := (Nat)) (fun v2 => v2) (fun v2 => (v2 ≤ v ∧ u2 ≤ v2 + 1) ∧ (scanDown (fun x => !ltInt x dk[a]!) dk (u2) v2 = scanDown (fun x => !ltInt x dk[a]!) dk (u2) (v))) (fun v2 => [(0, .iface 122 (sL b n c)), (1, iV a), (11, iV v2), (10, iV u2)]) (fun v2 => B) (fun v2 => H) (fun v2 => ((t, arow 57 b n c dk) :: S)) (v) ⟨by omega, rfl⟩ kno (fun w s => by exact s) ?_
   rintro v2 ⟨hv, hsc⟩
   show GC _ _ _ _ [(0, .iface 122 (sL b n c)), (1, iV a), (11, iV v2), (10, iV u2)] _ _ (B) (H) (((t, arow 57 b n c dk) :: S))
   refine g2 ?_
   rcases Decidable.em (u2 ≤ v2) with hin | hin
   ·refine g3 ?_
    refine rl ((rd_leq rfl rfl).to bT) ?_
    refine g8 ?_
    refine gL (at_less (v2) (a) rfl rfl hds oM oM oM oM ?_)
    refine g5 ?_
    refine GC_cond rfl (fun hc1 => ?_) (fun hc2 => ?_)
    ·have hp : (fun x => !ltInt x dk[a]!) dk[v2]! = true := hc1
     refine g9 ?_
     refine GE_back (v2 - 1) oM ⟨by omega, (dn_go oM hin hp).trans hsc⟩ kno (fun w s => by exact s)
    ·have hp : (fun x => !ltInt x dk[a]!) dk[v2]! = false := hc2
     refine g4 ?_
     refine GE_meet (ι := Nat) v2 ⟨(dn_stop (p := (fun x => !ltInt x dk[a]!)) (.inr hp)).trans hsc, by omega⟩ kno (fun w s => s)
   ·refine g3 ?_
    refine rl ((rd_leq rfl rfl).to bF) ?_
    refine g9 ?_
    refine GC_is_false rfl rfl ?_
    refine g4 ?_
    refine GE_meet (ι := Nat) v2 ⟨(dn_stop (p := (fun x => !ltInt x dk[a]!)) (.inl hin)).trans hsc, by omega⟩ kno (fun w s => s)
  rintro v2 ⟨hv2, hbv2⟩
  show GC _ _ _ _ [(0, .iface 122 (sL b n c)), (1, iV a), (11, iV v2), (10, iV u2)] _ _ (B) (H) (((t, arow 57 b n c dk) :: S))
  refine g8 ?_
  refine GC_cond rfl (fun hc1 => ?_) (fun hc2 => ?_)
  ·have hgt : u2 > v2 := by have := of_decide_eq_true hc1; omega
   have hend : partLoop ltInt a (i + 1) (j - 1) d2 = (v2, dk) := by rw [← hO, partLoop_eq, ← hu2, ← hv2, if_pos hgt]
   refine g11 ?_
   refine gL (at_swap (v2) (a) rfl rfl hds oM oM oM oM ?_)
   refine g10 ?_
   have hP : partition ltInt d a e p = (v2, false, swp dk v2 a) := by unfold partition; simp only [← hd1, ← hi, ← hj]; rw [if_neg oM, ← hd2, hend]
   rw [hP]
   refine GE_ret2 (.inl rfl) rfl (res_tmp rfl) (res_tmp rfl) fun w_ s_ => ⟨rfl, ?_⟩
   exact s_
  ·have hgt : ¬ u2 > v2 := by have := of_decide_eq_false hc2; omega
   have hne := scans_ne (p := (fun x => ltInt x dk[a]!)) (q := (fun x => !ltInt x dk[a]!)) (fun x => rfl) (d := dk) (i := u) (j := v) oM oM (by rw [← hu2, ← hv2]; exact hgt)
   rw [← hu2, ← hv2] at hne
   have hO2 : partLoop ltInt a (u2 + 1) (v2 - 1) (swp dk u2 v2) = partLoop ltInt a (i + 1) (j - 1) d2 := by rw [← hO]; conv => rhs; rw [partLoop_eq, ← hu2, ← hv2, if_neg hgt]
   have hbu := scan_bd (fun x => ltInt x dk[a]!) (fun x => !ltInt x dk[a]!) dk (i := u) (j := v) oM
   rw [← hu2, ← hv2] at hbu
   refine g7 ?_
   refine gL (at_swap (u2) (v2) rfl rfl hds oM oM oM oM ?_)
   refine g15 ?_
   refine GE_back ⟨u2 + 1, v2 - 1, swp dk u2 v2⟩ sO ⟨by omega, by rw [size_swp]; exact hds, hO2⟩ kno (fun w s => by exact s)
end
end Go.Proofs.YtdbbifbmkfmbkaaGreat
namespace Go.Proofs.YtdbbifbmkfmbkaaGreat
open Go.RowKit Go.Fr Go.Tab
section
variable {F : Nat → Prop} {w0 : World} {B : List (Nat × Nat)} {H : List (Nat × Value)} {S : List (Nat × Slc)}
open Go.Sort
theorem partEq_calls {t b n c : Nat} {d : Array Int} (hd : d.size = n) (hn : n ≤ 1000000000) (a e p : Nat) (ha : a ≤ p) (hp0 : p < e) (he : e ≤ n) : ∀ w, Sees F w0 B H ((t, arow 57 b n c d) :: S) w → Calls Go.Proofs.Tryz.prog 133 #[.iface 122 (sL b n c), iV a, iV e, iV p] w fun e_ w' => e_ = .returned (iV ((partitionEqual ltInt d a e p).1 : Nat)) ∧ Sees F w0 B H ((t, arow 57 b n c (partitionEqual ltInt d a e p).2) :: S) w' := by
 intro w s
 refine calls_GC (args := [.iface 122 (sL b n c), iV a, iV e, iV p]) (L := [(0, .iface 122 (sL b n c)), (1, iV a), (2, iV e), (3, iV p)]) (N := 54) Tryz.func133 rfl rfl ble rfl s ?_
 refine g10 ?_
 refine gL (at_swap a p rfl rfl hd rfl rfl oM oM ?_)
 obtain ⟨d1, hd1⟩ : ∃ x, x = swp d a p := ⟨_, rfl⟩
 rw [← hd1]
 have hds1 : d1.size = n := by rw [hd1, size_swp]; exact hd
 refine g14 ?_
 refine GC_loop (ι := (Nat) × (Nat) × (Array Int)) (fun | ⟨u, v, dk⟩ => v + 1 - u) (fun | ⟨u, v, dk⟩ => (a < u ∧ u ≤ v + 1 ∧ v < e) ∧ (dk.size = n) ∧ (partEqLoop ltInt a u v dk = partEqLoop ltInt a (a + 1) (e - 1) d1)) (fun | ⟨u, v, dk⟩ => [(0, .iface 122 (sL b n c)), (1, iV a), (9, iV u), (10, iV v)]) (fun | ⟨u, v, dk⟩ => B) (fun | ⟨u, v, dk⟩ => H) (fun | ⟨u, v, dk⟩ => ((t, arow 57 b n c dk) :: S)) ⟨a + 1, e - 1, d1⟩ ⟨by omega, hds1, rfl⟩ kno (fun w s => by exact s) ?_
 rintro ⟨u, v, dk⟩ ⟨huv, hds, hO⟩
 show GC _ _ _ _ [(0, .iface 122 (sL b n c)), (1, iV a), (9, iV u), (10, iV v)] _ _ (B) (H) (((t, arow 57 b n c dk) :: S))
 refine g1 ?_
 refine GC_cut (ι := (Nat)) (fun u2 => (u2 = scanUp (fun x => !ltInt dk[a]! x) dk (v) (u)) ∧ (1 ≤ u2 ∧ u2 ≤ v + 1)) (fun u2 => [(0, .iface 122 (sL b n c)), (1, iV a), (9, iV u2), (10, iV v)]) (fun u2 => B) (fun u2 => H) (fun u2 => ((t, arow 57 b n c dk) :: S)) ?_ ?_
 ·refine g1 ?_
  refine GC_loop (ι := (Nat)) (fun u2 => v + 1 - u2) (fun u2 => (1 ≤ u2 ∧ u2 ≤ v + 1) ∧ (scanUp (fun x => !ltInt dk[a]! x) dk (v) u2 = scanUp (fun x => !ltInt dk[a]! x) dk (v) (u))) (fun u2 => [(0, .iface 122 (sL b n c)), (1, iV a), (9, iV u2), (10, iV v)]) (fun u2 => B) (fun u2 => H) (fun u2 => ((t, arow 57 b n c dk) :: S)) (u) ⟨by omega, rfl⟩ kno (fun w s => by exact s) ?_
  rintro u2 ⟨hv, hsc⟩
  show GC _ _ _ _ [(0, .iface 122 (sL b n c)), (1, iV a), (9, iV u2), (10, iV v)] _ _ (B) (H) (((t, arow 57 b n c dk) :: S))
  refine g2 ?_
  rcases Decidable.em (u2 ≤ v) with hin | hin
  ·refine g3 ?_
   refine rl ((rd_leq rfl rfl).to bT) ?_
   refine g8 ?_
   refine gL (at_less (a) (u2) rfl rfl hds oM oM oM oM ?_)
   refine g5 ?_
   refine GC_cond rfl (fun hc1 => ?_) (fun hc2 => ?_)
   ·have hp : (fun x => !ltInt dk[a]! x) dk[u2]! = true := hc1
    refine g9 ?_
    refine GE_back (u2 + 1) oM ⟨by omega, (up_go hin hp).trans hsc⟩ kno (fun w s => by exact s)
   ·have hp : (fun x => !ltInt dk[a]! x) dk[u2]! = false := hc2
    refine g4 ?_
    refine GE_meet (ι := Nat) u2 ⟨(up_stop (p := (fun x => !ltInt dk[a]! x)) (.inr hp)).trans hsc, by omega⟩ kno (fun w s => s)
  ·refine g3 ?_
   refine rl ((rd_leq rfl rfl).to bF) ?_
   refine g9 ?_
   refine GC_is_false rfl rfl ?_
   refine g4 ?_
   refine GE_meet (ι := Nat) u2 ⟨(up_stop (p := (fun x => !ltInt dk[a]! x)) (.inl hin)).trans hsc, by omega⟩ kno (fun w s => s)
 rintro u2 ⟨hu2, hbu2⟩
 show GC _ _ _ _ [(0, .iface 122 (sL b n c)), (1, iV a), (9, iV u2), (10, iV v)] _ _ (B) (H) (((t, arow 57 b n c dk) :: S))
 refine GC_cut (ι := (Nat)) (fun v2 => (v2 = scanDown (fun x => ltInt dk[a]! x) dk (u2) (v)) ∧ (v2 ≤ v ∧ u2 ≤ v2 + 1)) (fun v2 => [(0, .iface 122 (sL b n c)), (1, iV a), (10, iV v2), (9, iV u2)]) (fun v2 => B) (fun v2 => H) (fun v2 => ((t, arow 57 b n c dk) :: S)) ?_ ?_
 ·refine g1 ?_
  refine GC_loop (ι := (Nat)) (fun v2 => v2) (fun v2 => (v2 ≤ v ∧ u2 ≤ v2 + 1) ∧ (scanDown (fun x => ltInt dk[a]! x) dk (u2) v2 = scanDown (fun x => ltInt dk[a]! x) dk (u2) (v))) (fun v2 => [(0, .iface 122 (sL b n c)), (1, iV a), (10, iV v2), (9, iV u2)]) (fun v2 => B) (fun v2 => H) (fun v2 => ((t, arow 57 b n c dk) :: S)) (v) ⟨by omega, rfl⟩ kno (fun w s => by exact s) ?_
  rintro v2 ⟨hv, hsc⟩
  show GC _ _ _ _ [(0, .iface 122 (sL b n c)), (1, iV a), (10, iV v2), (9, iV u2)] _ _ (B) (H) (((t, arow 57 b n c dk) :: S))
  refine g2 ?_
  rcases Decidable.em (u2 ≤ v2) with hin | hin
  ·refine g3 ?_
   refine rl ((rd_leq rfl rfl).to bT) ?_
   refine g8 ?_
   refine gL (at_less (a) (v2) rfl rfl hds oM oM oM oM ?_)
   refine g3 ?_
   refine GC_cond rfl (fun hc1 => ?_) (fun hc2 => ?_)
   ·have hp : (fun x => ltInt dk[a]! x) dk[v2]! = true := hc1
    refine g9 ?_
    refine GE_back (v2 - 1) oM ⟨by omega, (dn_go oM hin hp).trans hsc⟩ kno (fun w s => by exact s)
   ·have hp : (fun x => ltInt dk[a]! x) dk[v2]! = false := hc2
    refine g4 ?_
    refine GE_meet (ι := Nat) v2 ⟨(dn_stop (p := (fun x => ltInt dk[a]! x)) (.inr hp)).trans hsc, by omega⟩ kno (fun w s => s)
  ·refine g3 ?_
   refine rl ((rd_leq rfl rfl).to bF) ?_
   refine g8 ?_
   refine GC_is_false rfl rfl ?_
   refine g4 ?_
   refine GE_meet (ι := Nat) v2 ⟨(dn_stop (p := (fun x => ltInt dk[a]! x)) (.inl hin)).trans hsc, by omega⟩ kno (fun w s => s)
 rintro v2 ⟨hv2, hbv2⟩
 show GC _ _ _ _ [(0, .iface 122 (sL b n c)), (1, iV a), (10, iV v2), (9, iV u2)] _ _ (B) (H) (((t, arow 57 b n c dk) :: S))
 refine g8 ?_
 refine GC_cond rfl (fun hc1 => ?_) (fun hc2 => ?_)
 ·have hgt : u2 > v2 := by have := of_decide_eq_true hc1; omega
  have hend : partitionEqual ltInt d a e p = (u2, dk) := by unfold partitionEqual; rw [← hd1, ← hO, partEqLoop_eq, ← hu2, ← hv2, if_pos hgt]
  refine g13 ?_
  rw [hend]
  refine GE_ret1 (.inl rfl) rfl (res_tmp rfl) fun w_ s_ => ⟨rfl, ?_⟩
  exact s_
 ·have hgt : ¬ u2 > v2 := by have := of_decide_eq_false hc2; omega
  have hne := scans_ne (p := (fun x => !ltInt dk[a]! x)) (q := (fun x => ltInt dk[a]! x)) (fun x => by simp) (d := dk) (i := u) (j := v) oM oM (by rw [← hu2, ← hv2]; exact hgt)
  rw [← hu2, ← hv2] at hne
  have hO2 : partEqLoop ltInt a (u2 + 1) (v2 - 1) (swp dk u2 v2) = partEqLoop ltInt a (a + 1) (e - 1) d1 := by rw [← hO]; conv => rhs; rw [partEqLoop_eq, ← hu2, ← hv2, if_neg hgt]
  have hbu := scan_bd (fun x => !ltInt dk[a]! x) (fun x => ltInt dk[a]! x) dk (i := u) (j := v) oM
  rw [← hu2, ← hv2] at hbu
  refine g7 ?_
  refine gL (at_swap (u2) (v2) rfl rfl hds oM oM oM oM ?_)
  refine g15 ?_
  refine GE_back ⟨u2 + 1, v2 - 1, swp dk u2 v2⟩ sO ⟨by omega, by rw [size_swp]; exact hds, hO2⟩ kno (fun w s => by exact s)
theorem sorted_go {d : Array Int} {b i : Nat} (h : i < b) (hl : ltInt d[i]! d[i - 1]! = false) : scanSorted ltInt d b (i + 1) = scanSorted ltInt d b i := by conv => rhs; rw [scanSorted, if_pos (by rw [decide_eq_true h, hl]; rfl)]
theorem sorted_stop {d : Array Int} {b i : Nat} (h : ¬ i < b ∨ ltInt d[i]! d[i - 1]! = true) : i = scanSorted ltInt d b i := by
 rw [scanSorted, if_neg]
 intro hh
 rw [Bool.and_eq_true, decide_eq_true_eq] at hh
 rcases h with h | h
 ·exact h hh.1
 ·rw [h] at hh; exact absurd hh.2 dE
theorem shd_go {d : Array Int} {j : Nat} (h1 : 1 ≤ j) (hl : ltInt d[j]! d[j - 1]! = true) : shiftDown ltInt (j - 1) (swp d j (j - 1)) = shiftDown ltInt j d := by
 obtain ⟨k, rfl⟩ : ∃ k, j = k + 1 := ⟨j - 1, by omega⟩
 rw [Nat.add_sub_cancel] at hl
 conv => rhs; rw [shiftDown, if_neg (by rw [hl]; decide)]
 rfl
theorem shd_stop {d : Array Int} {j : Nat} (h : j = 0 ∨ ltInt d[j]! d[j - 1]! = false) : shiftDown ltInt j d = d := by
 cases j with
 | zero => rfl
 | succ k =>
  rcases h with h | h
  ·omega
  ·rw [Nat.add_sub_cancel] at h
   rw [shiftDown, if_pos (by rw [h]; rfl)]
theorem shu_go {d : Array Int} {b j : Nat} (h1 : j < b) (hl : ltInt d[j]! d[j - 1]! = true) : shiftUp ltInt b (j + 1) (swp d j (j - 1)) = shiftUp ltInt b j d := by
 conv => rhs; rw [shiftUp, if_pos h1, if_neg (by rw [hl]; decide)]
theorem shu_stop {d : Array Int} {b j : Nat} (h : ¬ j < b ∨ ltInt d[j]! d[j - 1]! = false) : shiftUp ltInt b j d = d := by
 rw [shiftUp]
 rcases h with h | h
 ·rw [if_neg h]
 ·by_cases hb : j < b
  ·rw [if_pos hb, if_pos (by rw [h]; rfl)]
  ·rw [if_neg hb]
theorem sorted_bd (d : Array Int) (b : Nat) : ∀ (m i : Nat), b - i ≤ m → i ≤ b → i ≤ scanSorted ltInt d b i ∧ scanSorted ltInt d b i ≤ b
 | 0, i, hm, hi => by rw [← sorted_stop (.inl oM)]; omega
 | m + 1, i, hm, hi => by
  by_cases h : i < b
  ·cases hl : ltInt d[i]! d[i - 1]! with
   | true => rw [← sorted_stop (.inr hl)]; omega
   | false =>
    rw [← sorted_go h hl]
    have := sorted_bd d b m (i + 1) oM oM
    omega
  ·rw [← sorted_stop (.inl h)]; omega
theorem partial_calls {t b n c : Nat} {d : Array Int} (hd : d.size = n) (hn : n ≤ 1000000000) (a e : Nat) (ha : a < e) (he : e ≤ n) : ∀ w, Sees F w0 B H ((t, arow 57 b n c d) :: S) w → Calls Go.Proofs.Tryz.prog 132 #[.iface 122 (sL b n c), iV a, iV e] w fun e_ w' => e_ = .returned (.bool (partialInsertionSort ltInt d a e).2) ∧ Sees F w0 B H ((t, arow 57 b n c (partialInsertionSort ltInt d a e).1) :: S) w' := by
 intro w s
 refine calls_GC (args := [.iface 122 (sL b n c), iV a, iV e]) (L := [(0, .iface 122 (sL b n c)), (1, iV a), (2, iV e)]) (N := 85) Tryz.func132 rfl rfl ble rfl s ?_
 refine g18 ?_
 refine g1 ?_
 refine GC_loop (ι := (Nat) × (Nat) × (Array Int)) (fun | ⟨k, i, dk⟩ => k) (fun | ⟨k, i, dk⟩ => (k ≤ 5) ∧ (a < i ∧ i ≤ e) ∧ (dk.size = n) ∧ (partialIns ltInt a e k i dk = partialInsertionSort ltInt d a e)) (fun | ⟨k, i, dk⟩ => [(0, .iface 122 (sL b n c)), (1, iV a), (2, iV e), (7, iV i), (8, iV (5 - (k : Int)))]) (fun | ⟨k, i, dk⟩ => B) (fun | ⟨k, i, dk⟩ => H) (fun | ⟨k, i, dk⟩ => ((t, arow 57 b n c dk) :: S)) ⟨5, a + 1, d⟩ ⟨by omega, by omega, hd, rfl⟩ kno (fun w s => by exact s) ?_
 rintro ⟨k, i, dk⟩ ⟨hk, hi0, hds, hO⟩
 show GC _ _ _ _ [(0, .iface 122 (sL b n c)), (1, iV a), (2, iV e), (7, iV i), (8, iV (5 - (k : Int)))] _ _ (B) (H) (((t, arow 57 b n c dk) :: S))
 refine g7 ?_
 refine GC_cond rfl (fun hc1 => ?_) (fun hc2 => ?_)
 ·have hk1 : 1 ≤ k := by have := of_decide_eq_true hc1; omega
  obtain ⟨k, rfl⟩ : ∃ m, k = m + 1 := ⟨k - 1, by omega⟩
  have hsb := sorted_bd dk e _ i (Nat.le_refl _) hi0.2
  refine g4 ?_
  refine GC_cut (ι := (Nat)) (fun i2 => (i2 = scanSorted ltInt dk e i) ∧ (a < i2 ∧ i2 ≤ e)) (fun i2 => [(0, .iface 122 (sL b n c)), (1, iV a), (2, iV e), (7, iV i2), (8, iV (5 - ((k + 1 : Nat) : Int)))]) (fun i2 => B) (fun i2 => H) (fun i2 => ((t, arow 57 b n c dk) :: S)) ?_ ?_
  ·refine g1 ?_
   refine GC_loop (ι := (Nat)) (fun i2 => e - i2) (fun i2 => (a < i2 ∧ i2 ≤ e) ∧ (scanSorted ltInt dk e i2 = scanSorted ltInt dk e i)) (fun i2 => [(0, .iface 122 (sL b n c)), (1, iV a), (2, iV e), (7, iV i2), (8, iV (5 - ((k + 1 : Nat) : Int)))]) (fun i2 => B) (fun i2 => H) (fun i2 => ((t, arow 57 b n c dk) :: S)) (i) ⟨by omega, rfl⟩ kno (fun w s => by exact s) ?_
   rintro i2 ⟨hv, hsc⟩
   show GC _ _ _ _ [(0, .iface 122 (sL b n c)), (1, iV a), (2, iV e), (7, iV i2), (8, iV (5 - ((k + 1 : Nat) : Int)))] _ _ (B) (H) (((t, arow 57 b n c dk) :: S))
   refine g2 ?_
   rcases Decidable.em (i2 < e) with hin | hin
   ·refine g3 ?_
    refine rl ((rd_lss rfl rfl).to bT) ?_
    refine g10 ?_
    refine gL (at_less (i2) (i2 - 1) rfl rfl hds oM oM oM oM ?_)
    refine g5 ?_
    refine GC_cond rfl (fun hc1 => ?_) (fun hc2 => ?_)
    ·have hp : ltInt dk[i2]! dk[i2 - 1]! = false := by rw [Bool.not_eq_true'] at hc1; exact hc1
     refine g9 ?_
     refine GE_back (i2 + 1) oM ⟨by omega, (sorted_go hin hp).trans hsc⟩ kno (fun w s => by exact s)
    ·have hp : ltInt dk[i2]! dk[i2 - 1]! = true := by rw [Bool.not_eq_false'] at hc2; exact hc2
     refine g4 ?_
     refine GE_meet (ι := Nat) i2 ⟨(sorted_stop (.inr hp)).trans hsc, by omega⟩ kno (fun w s => s)
   ·refine g3 ?_
    refine rl ((rd_lss rfl rfl).to bF) ?_
    refine g10 ?_
    refine GC_is_false rfl rfl ?_
    refine g4 ?_
    refine GE_meet (ι := Nat) i2 ⟨(sorted_stop (.inl hin)).trans hsc, by omega⟩ kno (fun w s => s)
  rintro i2 ⟨hi2, hb2⟩
  show GC _ _ _ _ [(0, .iface 122 (sL b n c)), (1, iV a), (2, iV e), (7, iV i2), (8, iV (5 - ((k + 1 : Nat) : Int)))] _ _ (B) (H) (((t, arow 57 b n c dk) :: S))
  refine g8 ?_
  refine GC_cond rfl (fun hc1 => ?_) (fun hc2 => ?_)
  ·have hie : i2 = e := by have := beq_iff_eq.1 hc1; omega
   have hend : partialInsertionSort ltInt d a e = (dk, true) := by rw [← hO]; unfold partialIns; simp only [← hi2]; rw [if_pos hie]
   refine g12 ?_
   rw [hend]
   refine GE_ret1 (.inl rfl) rfl (res_tmp rfl) fun w_ s_ => ⟨rfl, ?_⟩
   exact s_
  ·have hie : ¬ i2 = e := by have := beq_eq_false_iff_ne.1 hc2; omega
   refine g11 ?_
   refine GC_cond rfl (fun hc1 => ?_) (fun hc2 => ?_)
   ·have h50 : e - a < 50 := by have := of_decide_eq_true hc1; omega
    have hend : partialInsertionSort ltInt d a e = (dk, false) := by rw [← hO]; unfold partialIns; simp only [← hi2]; rw [if_neg hie, if_pos h50]
    refine g12 ?_
    rw [hend]
    refine GE_ret1 (.inl rfl) rfl (res_tmp rfl) fun w_ s_ => ⟨rfl, ?_⟩
    exact s_
   ·have h50 : ¬ e - a < 50 := by have := of_decide_eq_false hc2; omega
    refine g8 ?_
    refine gL (at_swap i2 (i2 - 1) rfl rfl hds rfl oM oM oM ?_)
    obtain ⟨d2, hd2⟩ : ∃ x, x = swp dk i2 (i2 - 1) := ⟨_, rfl⟩
    rw [← hd2]
    have hds2 : d2.size = n := by rw [hd2, size_swp]; exact hds
    refine g2 ?_
    refine GC_cut (ι := (Array Int)) (fun d3 => (d3 = if i2 - a ≥ 2 then shiftDown ltInt (i2 - 1) d2 else d2) ∧ (d3.size = n)) (fun d3 => [(0, .iface 122 (sL b n c)), (1, iV a), (2, iV e), (7, iV i2), (8, iV (5 - ((k + 1 : Nat) : Int)))]) (fun d3 => B) (fun d3 => H) (fun d3 => ((t, arow 57 b n c d3) :: S)) ?_ ?_
    ·refine g8 ?_
     refine GC_cond rfl (fun hc1 => ?_) (fun hc2 => ?_)
     ·have h2 : i2 - a ≥ 2 := by have := of_decide_eq_true hc1; omega
      refine g8 ?_
      refine GC_loop (ι := (Nat) × (Array Int)) (fun | ⟨j, dj⟩ => j) (fun | ⟨j, dj⟩ => (j < n) ∧ (dj.size = n) ∧ (shiftDown ltInt j dj = shiftDown ltInt (i2 - 1) d2)) (fun | ⟨j, dj⟩ => [(0, .iface 122 (sL b n c)), (1, iV a), (2, iV e), (7, iV i2), (8, iV (5 - ((k + 1 : Nat) : Int))), (9, iV j)]) (fun | ⟨j, dj⟩ => B) (fun | ⟨j, dj⟩ => H) (fun | ⟨j, dj⟩ => ((t, arow 57 b n c dj) :: S)) ⟨i2 - 1, d2⟩ ⟨by omega, hds2, rfl⟩ kno (fun w s => by exact s) ?_
      rintro ⟨j, dj⟩ ⟨hj, hdj, hJ⟩
      show GC _ _ _ _ [(0, .iface 122 (sL b n c)), (1, iV a), (2, iV e), (7, iV i2), (8, iV (5 - ((k + 1 : Nat) : Int))), (9, iV j)] _ _ (B) (H) (((t, arow 57 b n c dj) :: S))
      refine g7 ?_
      refine GC_cond rfl (fun hc1 => ?_) (fun hc2 => ?_)
      ·have hj1 : 1 ≤ j := by have := of_decide_eq_true hc1; omega
       refine g11 ?_
       refine gL (at_less (j) (j - 1) rfl rfl hdj oM oM oM oM ?_)
       refine g3 ?_
       refine GC_cond rfl (fun hc1 => ?_) (fun hc2 => ?_)
       ·have hl : ltInt dj[j]! dj[j - 1]! = false := by rw [Bool.not_eq_true'] at hc1; exact hc1
        refine g6 ?_
        refine GE_meet (ι := Array Int) dj ⟨by rw [if_pos h2, ← hJ, shd_stop (.inr hl)], hdj⟩ kno (fun w s => s)
       ·have hl : ltInt dj[j]! dj[j - 1]! = true := by rw [Bool.not_eq_false'] at hc2; exact hc2
        refine g7 ?_
        refine gL (at_swap (j) (j - 1) rfl rfl hdj oM oM oM oM ?_)
        refine g8 ?_
        refine GE_back ⟨j - 1, swp dj j (j - 1)⟩ sO ⟨by omega, by rw [size_swp]; exact hdj, (shd_go hj1 hl).trans hJ⟩ kno (fun w s => by exact s)
      ·refine g4 ?_
       refine GE_meet (ι := Array Int) dj ⟨by rw [if_pos h2, ← hJ, shd_stop (.inl (by have := of_decide_eq_false hc2; omega))], hdj⟩ kno (fun w s => s)
     ·have h2 : ¬ i2 - a ≥ 2 := by have := of_decide_eq_false hc2; omega
      refine g1 ?_
      refine GE_meet (ι := Array Int) d2 ⟨by rw [if_neg h2], hds2⟩ kno (fun w s => s)
    rintro d3 ⟨hd3, hds3⟩
    show GC _ _ _ _ [(0, .iface 122 (sL b n c)), (1, iV a), (2, iV e), (7, iV i2), (8, iV (5 - ((k + 1 : Nat) : Int)))] _ _ (B) (H) (((t, arow 57 b n c d3) :: S))
    refine g8 ?_
    refine GC_cond rfl (fun hc1 => ?_) (fun hc2 => ?_)
    ·have h4 : e - i2 ≥ 2 := by have := of_decide_eq_true hc1; omega
     refine g8 ?_
     refine GC_loop (ι := (Nat) × (Array Int)) (fun | ⟨j, dj⟩ => e - j) (fun | ⟨j, dj⟩ => (i2 < j ∧ j ≤ e) ∧ (dj.size = n) ∧ (shiftUp ltInt e j dj = shiftUp ltInt e (i2 + 1) d3)) (fun | ⟨j, dj⟩ => [(0, .iface 122 (sL b n c)), (1, iV a), (2, iV e), (7, iV i2), (8, iV (5 - ((k + 1 : Nat) : Int))), (10, iV j)]) (fun | ⟨j, dj⟩ => B) (fun | ⟨j, dj⟩ => H) (fun | ⟨j, dj⟩ => ((t, arow 57 b n c dj) :: S)) ⟨i2 + 1, d3⟩ ⟨by omega, hds3, rfl⟩ kno (fun w s => by exact s) ?_
     rintro ⟨j, dj⟩ ⟨hj, hdj, hJ⟩
     show GC _ _ _ _ [(0, .iface 122 (sL b n c)), (1, iV a), (2, iV e), (7, iV i2), (8, iV (5 - ((k + 1 : Nat) : Int))), (10, iV j)] _ _ (B) (H) (((t, arow 57 b n c dj) :: S))
     refine g8 ?_
     refine GC_cond rfl (fun hc1 => ?_) (fun hc2 => ?_)
     ·have hj1 : j < e := by have := of_decide_eq_true hc1; omega
      refine g11 ?_
      refine gL (at_less (j) (j - 1) rfl rfl hdj oM oM oM oM ?_)
      refine g3 ?_
      refine GC_cond rfl (fun hc1 => ?_) (fun hc2 => ?_)
      ·have hl : ltInt dj[j]! dj[j - 1]! = false := by rw [Bool.not_eq_true'] at hc1; exact hc1
       refine g8 ?_
       obtain ⟨d4, hd4, hds4, hO4⟩ : ∃ x, x = dj ∧ x.size = n ∧ partialIns ltInt a e k i2 x = partialInsertionSort ltInt d a e := ⟨_, rfl, hdj, by
        rw [← hO]; symm; conv => lhs; unfold partialIns
        simp only [← hi2]; rw [if_neg hie, if_neg h50]; simp only [← hd2, ← hd3]; rw [if_pos h4, ← hJ, shu_stop (.inr hl)]⟩
       rw [← hd4]
       refine g5 ?_
       refine GE_back ⟨k, i2, d4⟩ sO ⟨by omega, by omega, hds4, hO4⟩ kno (fun w s => by exact s)
      ·have hl : ltInt dj[j]! dj[j - 1]! = true := by rw [Bool.not_eq_false'] at hc2; exact hc2
       refine g7 ?_
       refine gL (at_swap (j) (j - 1) rfl rfl hdj oM oM oM oM ?_)
       refine g8 ?_
       refine GE_back ⟨j + 1, swp dj j (j - 1)⟩ sO ⟨by omega, by rw [size_swp]; exact hdj, (shu_go hj1 hl).trans hJ⟩ kno (fun w s => by exact s)
     ·refine g6 ?_
      obtain ⟨d4, hd4, hds4, hO4⟩ : ∃ x, x = dj ∧ x.size = n ∧ partialIns ltInt a e k i2 x = partialInsertionSort ltInt d a e := ⟨_, rfl, hdj, by
       rw [← hO]; symm; conv => lhs; unfold partialIns
       simp only [← hi2]; rw [if_neg hie, if_neg h50]; simp only [← hd2, ← hd3]; rw [if_pos h4, ← hJ, shu_stop (.inl (by have := of_decide_eq_false hc2; omega))]⟩
      rw [← hd4]
      refine g5 ?_
      refine GE_back ⟨k, i2, d4⟩ sO ⟨by omega, by omega, hds4, hO4⟩ kno (fun w s => by exact s)
    ·have h4 : ¬ e - i2 ≥ 2 := by have := of_decide_eq_false hc2; omega
     refine g3 ?_
     obtain ⟨d4, hd4, hds4, hO4⟩ : ∃ x, x = d3 ∧ x.size = n ∧ partialIns ltInt a e k i2 x = partialInsertionSort ltInt d a e := ⟨_, rfl, hds3, by
      rw [← hO]; symm; conv => lhs; unfold partialIns
      simp only [← hi2]; rw [if_neg hie, if_neg h50]; simp only [← hd2, ← hd3]; rw [if_neg h4]⟩
     rw [← hd4]
     refine g5 ?_
     refine GE_back ⟨k, i2, d4⟩ sO ⟨by omega, by omega, hds4, hO4⟩ kno (fun w s => by exact s)
 ·obtain rfl : k = 0 := by have := of_decide_eq_false hc2; omega
  have hend : partialInsertionSort ltInt d a e = (dk, false) := hO.symm
  refine g11 ?_
  rw [hend]
  refine GE_ret1 (.inl rfl) rfl (res_tmp rfl) fun w_ s_ => ⟨rfl, ?_⟩
  exact s_
end
end Go.Proofs.YtdbbifbmkfmbkaaGreat
namespace Go.Proofs.YtdbbifbmkfmbkaaGreat
open Go.RowKit Go.Fr Go.Tab
open Go.Shelf
def Tryz.l125_ren : Go.Shelf.Ren := ⟨fun | 125 => 105 | 128 => 125 | 129 => 126 | n => n, fun | 46 => 146 | 3 => 3 | 51 => 167 | 53 => 169 | 4 => 4 | 5 => 5 | 9 => 9 | n => n, fun | n => n⟩
theorem Tryz.l125 : Go.Proofs.Lays.n125 Tryz.prog Tryz.l125_ren := {
  mixed := by kernel_rfl
  f125 := Tryz.func105.trans (congrArg some (by kernel_rfl))
  f128 := Tryz.func125.trans (congrArg some (by kernel_rfl))
  f129 := Tryz.func126.trans (congrArg some (by kernel_rfl))
  t3 := Tryz.underlying3
  a3 := Tryz.isAgg3
  z3 := Tryz.sizeOf3
  v3 := Tryz.zeroValue3
  t4 := Tryz.underlying4
  a4 := Tryz.isAgg4
  z4 := Tryz.sizeOf4
  v4 := Tryz.zeroValue4
  t5 := Tryz.underlying5
  a5 := Tryz.isAgg5
  z5 := Tryz.sizeOf5
  v5 := Tryz.zeroValue5
  t9 := Tryz.underlying9
  a9 := Tryz.isAgg9
  z9 := Tryz.sizeOf9
  v9 := Tryz.zeroValue9
  t46 := Tryz.underlying146
  a46 := Tryz.isAgg146
  z46 := Tryz.sizeOf146
  v46 := Tryz.zeroValue146
  t51 := Tryz.underlying167
  a51 := Tryz.isAgg167
  z51 := Tryz.sizeOf167
  v51 := Tryz.zeroValue167
  t53 := Tryz.underlying169
  a53 := Tryz.isAgg169
  z53 := Tryz.sizeOf169
  v53 := Tryz.zeroValue169 }
section
variable {F : Nat → Prop} {w0 : World} {B : List (Nat × Nat)} {H : List (Nat × Value)} {S : List (Nat × Slc)}
theorem bitsLen_calls (x : Int) (h0 : 0 ≤ x) (h1 : x ≤ 18446744073709551615) (w : World) : Calls Go.Proofs.Tryz.prog 105 #[.int .u64 x] w fun e w' => e = .returned (iV (Lib.bitLen x.toNat)) ∧ Below w.heap.size w w' :=
 (Any.bits_Len Tryz.l125 x w h0 h1).mono fun e w' ⟨he, hw⟩ => ⟨he, hw ▸ Below.refl _ _⟩
theorem bla : ∀ (f x : Nat), x < 2 ^ f → x < 2 ^ Lib.bitLenAux f x ∧ (x ≠ 0 → 2 ^ (Lib.bitLenAux f x - 1) ≤ x)
 | 0, x, h => by
  have : x = 0 := by simpa using h
  subst this; exact ⟨by decide, fun h => absurd rfl h⟩
 | f + 1, x, h => by
  rw [Nat.pow_succ] at h
  unfold Lib.bitLenAux
  by_cases h0 : x = 0
  ·rw [if_pos h0]; subst h0; exact ⟨by decide, fun h => absurd rfl h⟩
  ·rw [if_neg h0]
   obtain ⟨h1, h2⟩ := bla f (x / 2) oM
   refine ⟨by rw [Nat.add_comm 1, Nat.pow_succ]; omega, fun _ => ?_⟩
   rw [Nat.add_sub_cancel_left]
   by_cases h3 : x / 2 = 0
   ·rw [h3]
    have e0 : Lib.bitLenAux f 0 = 0 := by cases f <;> simp [Lib.bitLenAux]
    rw [e0]; omega
   ·have h4 := h2 h3
    have hp : 0 < Lib.bitLenAux f (x / 2) := by
     rcases Nat.eq_zero_or_pos (Lib.bitLenAux f (x / 2)) with e | e
     ·rw [e] at h1; omega
     ·exact e
    obtain ⟨k, hk⟩ : ∃ k, Lib.bitLenAux f (x / 2) = k + 1 := ⟨Lib.bitLenAux f (x / 2) - 1, by omega⟩
    rw [hk] at h4 ⊢
    rw [Nat.add_sub_cancel] at h4
    rw [Nat.pow_succ]; omega
theorem bitLen_bd {n : Nat} (h : 1 ≤ n) (h2 : n ≤ 1000000000) : 2 ^ Lib.bitLen n ≤ 2 * n ∧ 1 ≤ Lib.bitLen n ∧ Lib.bitLen n ≤ 31 := by
 have hs := bla 64 n (Nat.lt_of_le_of_lt h2 dE)
 change n < 2 ^ Lib.bitLen n ∧ (n ≠ 0 → 2 ^ (Lib.bitLen n - 1) ≤ n) at hs
 have h3 := hs.2 oM
 have hL : 1 ≤ Lib.bitLen n := by
  rcases Nat.eq_zero_or_pos (Lib.bitLen n) with h0 | h0
  ·rw [h0] at hs; omega
  ·exact h0
 have h31 : Lib.bitLen n ≤ 31 := by
  rcases Nat.lt_or_ge 31 (Lib.bitLen n) with h' | h'
  ·have := Nat.pow_le_pow_right (show 0 < 2 by decide) (show 31 ≤ Lib.bitLen n - 1 by omega)
   have e31 : (2 : Nat) ^ 31 = 2147483648 := by decide
   omega
  ·exact h'
 refine ⟨?_, hL, h31⟩
 obtain ⟨k, hk⟩ : ∃ k, Lib.bitLen n = k + 1 := ⟨Lib.bitLen n - 1, by omega⟩
 rw [hk, Nat.add_sub_cancel] at h3
 rw [hk, Nat.pow_succ]; omega
theorem and_val (v : Int) {M : Nat} (h1 : 1 ≤ M) (h2 : M ≤ 4294967296) : ∃ o : Nat, o < M ∧ IntKind.u64.wrap ((BitVec.ofInt IntKind.u64.bits v &&& BitVec.ofInt IntKind.u64.bits ((M : Int) - 1)).toNat : Int) = (o : Int) := by
 refine ⟨(BitVec.ofInt IntKind.u64.bits v &&& BitVec.ofInt IntKind.u64.bits ((M : Int) - 1)).toNat, ?_, wrap_u64 ⟨by omega, ?_⟩⟩
 ·have e : (BitVec.ofInt IntKind.u64.bits ((M : Int) - 1)).toNat = M - 1 := by
   rw [BitVec.toNat_ofInt, show IntKind.u64.bits = 64 from rfl, show ((M : Int) - 1) = ((M - 1 : Nat) : Int) by omega]
   rw [show (((M - 1 : Nat) : Int) % ((2 ^ 64 : Nat) : Int)) = ((M - 1 : Nat) : Int) by rw [Int.emod_eq_of_lt oM oM]]
   rfl
  rw [BitVec.toNat_and, e]
  have := @Nat.and_le_right (BitVec.ofInt IntKind.u64.bits v).toNat (M - 1)
  omega
 ·have := (BitVec.ofInt IntKind.u64.bits v &&& BitVec.ofInt IntKind.u64.bits ((M : Int) - 1)).isLt
  have e : (2 : Nat) ^ IntKind.u64.bits = 18446744073709551616 := by decide
  omega
theorem nextPow_calls (x : Nat) (h1 : 1 ≤ x) (h2 : x ≤ 1000000000) (w : World) : Calls Go.Proofs.Tryz.prog 139 #[iV ((x : Int))] w fun e w' => e = .returned (.int .u64 ((2 ^ Lib.bitLen x : Nat) : Int)) ∧ Below w.heap.size w w' := by
 refine calls_GC (args := [iV ((x : Int))]) (L := [(0, iV ((x : Int)))]) (N := 10) Tryz.func139 rfl rfl ble rfl (Sees.start (fun _ => False) w) ?_
 have hbl := bitLen_bd h1 h2
 refine g8 ?_
 refine rl ((rd_convert rfl kR kR).to (congrArg (Value.int .u64) (wrap_u64 oM))) ?_
 refine gL (cvo (v := iV (Lib.bitLen x)) rfl (fun w_ s_ => (bitsLen_calls _ oM oM w_).mono fun e_ w2_ h_ => ⟨h_.1.trans (congrArg Ending.returned rfl), h_.2⟩) ?_)
 refine rl ((rd_convert rfl kR kR).to (congrArg (Value.int .u64) (wrap_u64 oM))) ?_
 refine g6 ?_
 refine rl ((rd_shl rfl rfl oM).to (v' := .int .u64 ((2 ^ Lib.bitLen x : Nat) : Int)) (congrArg (Value.int .u64) (by rw [Int.toNat_natCast, Nat.min_eq_left (Nat.le_trans hbl.2.2 dE), Int.one_mul, show ((2 : Int) ^ Lib.bitLen x) = ((2 ^ Lib.bitLen x : Nat) : Int) by simp]; exact wrap_u64 ⟨Int.natCast_nonneg _, by have := hbl.1; omega⟩))) ?_
 refine g4 ?_
 refine GE_ret1 (.inl rfl) rfl (res_tmp rfl) fun w_ s_ => ⟨?_, s_.toBelow⟩
 rfl
theorem next_rand {cb : Nat} (hB : lkp 60 B = some cb) (x : Int) : ∀ w, Sees F w0 B ((ky 60 0, .int .u64 x) :: H) S w → Calls Go.Proofs.Tryz.prog 140 #[pT cb] w fun e w' => ∃ v, True ∧ e = .returned (.int .u64 v) ∧ Sees F w0 B ((ky 60 0, .int .u64 v) :: H) S w' := by
 intro w s
 refine calls_GC (args := [pT cb]) (L := [(0, pT cb)]) (N := 33) Tryz.func140 rfl rfl ble rfl s ?_
 refine g6 ?_
 refine GC_tail 9 kR kR ?_
 refine g2 ?_
 refine rt (rld 60 rfl hB rfl) ?_
 refine g2 ?_
 refine rt (rld 60 rfl hB rfl) ?_
 refine rt (rd_shl rfl rfl oM) ?_
 refine rt (rd_xor rfl rfl) ?_
 refine g2 ?_
 refine gL (sto 60 rfl rfl hB rfl ?_)
 refine g3 ?_
 refine GC_tail 9 kR kR ?_
 refine g2 ?_
 refine rt (rld 60 rfl hB rfl) ?_
 refine g2 ?_
 refine rt (rld 60 rfl hB rfl) ?_
 refine rt (rd_shr rfl rfl oM) ?_
 refine rt (rd_xor rfl rfl) ?_
 refine g2 ?_
 refine gL (sto 60 rfl rfl hB rfl ?_)
 refine g3 ?_
 refine GC_tail 9 kR kR ?_
 refine g2 ?_
 refine rt (rld 60 rfl hB rfl) ?_
 refine g2 ?_
 refine rt (rld 60 rfl hB rfl) ?_
 refine rt (rd_shl rfl rfl oM) ?_
 refine rt (rd_xor rfl rfl) ?_
 refine g2 ?_
 refine gL (sto 60 rfl rfl hB rfl ?_)
 refine g6 ?_
 refine rl (rld 60 rfl hB rfl) ?_
 refine g4 ?_
 exact GE_ret1 (.inl rfl) rfl (res_tmp rfl) fun w_ s_ => ⟨_, trivial, rfl, s_.cell_last.cell_last.cell_last⟩
theorem order2_calls {t b n c cb : Nat} {d : Array Int} (hd : d.size = n) (hn : n ≤ 1000000000) (hB : lkp 60 B = some cb) (s0 : Int) {lo hi : Nat} (hhi : hi ≤ n) (p q : Nat) (hp : lo ≤ p ∧ p < hi) (hq : lo ≤ q ∧ q < hi) : ∀ w, Sees F w0 B ((ky 60 0, iV s0) :: H) ((t, arow 57 b n c d) :: S) w → Calls Go.Proofs.Tryz.prog 146 #[.iface 122 (sL b n c), iV p, iV q, pT cb] w fun e_ w' => ∃ x : Nat × Nat × Int, ((lo ≤ x.1 ∧ x.1 < hi) ∧ lo ≤ x.2.1 ∧ x.2.1 < hi) ∧ e_ = .returned (.tuple #[iV x.1, iV x.2.1]) ∧ Sees F w0 B ((ky 60 0, iV x.2.2) :: H) ((t, arow 57 b n c d) :: S) w' := by
 intro w s
 refine calls_GC (args := [.iface 122 (sL b n c), iV p, iV q, pT cb]) (L := [(0, .iface 122 (sL b n c)), (1, iV p), (2, iV q), (3, pT cb)]) (N := 23) Tryz.func146 rfl rfl ble rfl s ?_
 refine g12 ?_
 refine gL (at_less (q) (p) rfl rfl hd oM oM oM oM ?_)
 refine g2 ?_
 refine GC_cond rfl (fun hc1 => ?_) (fun hc2 => ?_)
 ·refine g4 ?_
  refine rl (rld 60 rfl hB rfl) ?_
  refine g2 ?_
  refine gL (sto 60 rfl rfl hB rfl ?_)
  refine g12 ?_
  exact GE_ret2 (.inl rfl) rfl (res_tmp rfl) (res_tmp rfl) fun w_ s_ => ⟨(q, p, _), ⟨hq, hp⟩, rfl, s_.cell_last⟩
 ·refine g11 ?_
  exact GE_ret2 (.inl rfl) rfl (res_tmp rfl) (res_tmp rfl) fun w_ s_ => ⟨(p, q, _), ⟨hp, hq⟩, rfl, s_⟩
theorem median_calls {t b n c cb : Nat} {d : Array Int} (hd : d.size = n) (hn : n ≤ 1000000000) (hB : lkp 60 B = some cb) (s0 : Int) {lo hi : Nat} (hhi : hi ≤ n) (p q r : Nat) (hp : lo ≤ p ∧ p < hi) (hq : lo ≤ q ∧ q < hi) (hr : lo ≤ r ∧ r < hi) : ∀ w, Sees F w0 B ((ky 60 0, iV s0) :: H) ((t, arow 57 b n c d) :: S) w → Calls Go.Proofs.Tryz.prog 142 #[.iface 122 (sL b n c), iV p, iV q, iV r, pT cb] w fun e_ w' => ∃ x : Nat × Int, (lo ≤ x.1 ∧ x.1 < hi) ∧ e_ = .returned (iV x.1) ∧ Sees F w0 B ((ky 60 0, iV x.2) :: H) ((t, arow 57 b n c d) :: S) w' := by
 intro w s
 refine calls_GC (args := [.iface 122 (sL b n c), iV p, iV q, iV r, pT cb]) (L := [(0, .iface 122 (sL b n c)), (1, iV p), (2, iV q), (3, iV r), (4, pT cb)]) (N := 36) Tryz.func142 rfl rfl ble rfl s ?_
 refine g11 ?_
 refine gL (cao (ι := Nat × Nat × Int) (fun x => .tuple #[iV x.1, iV x.2.1]) (fun x => (lo ≤ x.1 ∧ x.1 < hi) ∧ lo ≤ x.2.1 ∧ x.2.1 < hi) (fun _ => B) (fun x => (ky 60 0, iV x.2.2) :: H) (fun _ => ((t, arow 57 b n c d) :: S)) rfl (fun w_ s_ => order2_calls hd hn hB s0 hhi p q hp hq w_ s_) (fun | (x1, y1, z1), ⟨hx1, hy1⟩ => ?_))
 refine g13 ?_
 refine gL (cao (ι := Nat × Nat × Int) (fun x => .tuple #[iV x.1, iV x.2.1]) (fun x => (lo ≤ x.1 ∧ x.1 < hi) ∧ lo ≤ x.2.1 ∧ x.2.1 < hi) (fun _ => B) (fun x => (ky 60 0, iV x.2.2) :: H) (fun _ => ((t, arow 57 b n c d) :: S)) rfl (fun w_ s_ => order2_calls hd hn hB z1 hhi y1 r hy1 hr w_ s_) (fun | (x2, y2, z2), ⟨hx2, hy2⟩ => ?_))
 refine g13 ?_
 refine gL (cao (ι := Nat × Nat × Int) (fun x => .tuple #[iV x.1, iV x.2.1]) (fun x => (lo ≤ x.1 ∧ x.1 < hi) ∧ lo ≤ x.2.1 ∧ x.2.1 < hi) (fun _ => B) (fun x => (ky 60 0, iV x.2.2) :: H) (fun _ => ((t, arow 57 b n c d) :: S)) rfl (fun w_ s_ => order2_calls hd hn hB z2 hhi x1 x2 hx1 hx2 w_ s_) (fun | (x3, y3, z3), ⟨hx3, hy3⟩ => ?_))
 refine g14 ?_
 exact GE_ret1 (.inl rfl) rfl (res_tmp rfl) fun w_ s_ => ⟨(y3, z3), hy3, rfl, s_⟩
theorem medAdj_calls {t b n c cb : Nat} {d : Array Int} (hd : d.size = n) (hn : n ≤ 1000000000) (hB : lkp 60 B = some cb) (s0 : Int) {lo hi : Nat} (hhi : hi ≤ n) (p : Nat) (hp : lo + 1 ≤ p ∧ p + 1 < hi) : ∀ w, Sees F w0 B ((ky 60 0, iV s0) :: H) ((t, arow 57 b n c d) :: S) w → Calls Go.Proofs.Tryz.prog 141 #[.iface 122 (sL b n c), iV p, pT cb] w fun e_ w' => ∃ x : Nat × Int, (lo ≤ x.1 ∧ x.1 < hi) ∧ e_ = .returned (iV x.1) ∧ Sees F w0 B ((ky 60 0, iV x.2) :: H) ((t, arow 57 b n c d) :: S) w' := by
 intro w s
 refine calls_GC (args := [.iface 122 (sL b n c), iV p, pT cb]) (L := [(0, .iface 122 (sL b n c)), (1, iV p), (2, pT cb)]) (N := 15) Tryz.func141 rfl rfl ble rfl s ?_
 refine g14 ?_
 refine gL (cao (ι := Nat × Int) (fun x => iV x.1) (fun x => lo ≤ x.1 ∧ x.1 < hi) (fun _ => B) (fun x => (ky 60 0, iV x.2) :: H) (fun _ => ((t, arow 57 b n c d) :: S)) rfl (fun w_ s_ => (by have := median_calls hd hn hB s0 (lo := lo) hhi (p - 1) p (p + 1) oM oM oM w_ s_; rw [show ((p - 1 : Nat) : Int) = (p : Int) - 1 by omega, show ((p + 1 : Nat) : Int) = (p : Int) + 1 by omega] at this; exact this)) (fun | (x1, z1), hx1 => ?_))
 refine g4 ?_
 exact GE_ret1 (.inl rfl) rfl (res_tmp rfl) fun w_ s_ => ⟨(x1, z1), hx1, rfl, s_⟩
theorem choose_calls {t b n c : Nat} {d : Array Int} (hd : d.size = n) (hn : n ≤ 1000000000) (hlim : Lim 60 B H ((t, arow 57 b n c d) :: S)) (a e : Nat) (hae : a + 12 < e) (hhi : e ≤ n) : ∀ w, Sees F w0 B H ((t, arow 57 b n c d) :: S) w → Calls Go.Proofs.Tryz.prog 130 #[.iface 122 (sL b n c), iV a, iV e] w fun e_ w' => ∃ x : Nat × Int, (a ≤ x.1 ∧ x.1 < e) ∧ e_ = .returned (.tuple #[iV x.1, iV x.2]) ∧ Sees F w0 B H ((t, arow 57 b n c d) :: S) w' := by
 intro w s
 refine calls_GC (args := [.iface 122 (sL b n c), iV a, iV e]) (L := [(0, .iface 122 (sL b n c)), (1, iV a), (2, iV e)]) (N := 57) Tryz.func130 rfl rfl ble rfl s ?_
 refine g16 ?_
 refine gL (alo 60 (cs := [iV 0]) kR (hlim.b 60 dE) (fun cb hcb => ?_))
 refine g30 ?_
 refine g9 ?_
 refine GC_is_true rfl (decide_eq_true oM) ?_
 refine GC_cut (ι := (Nat) × (Nat) × (Nat) × (Int)) (fun | ⟨i, j, k, s0⟩ => (a ≤ i ∧ i < e) ∧ (a ≤ j ∧ j < e) ∧ (a ≤ k ∧ k < e)) (fun | ⟨i, j, k, s0⟩ => [(0, .iface 122 (sL b n c)), (9, pT cb), (10, iV i), (11, iV j), (12, iV k)]) (fun | ⟨i, j, k, s0⟩ => ((60, cb) :: B)) (fun | ⟨i, j, k, s0⟩ => (ky 60 0, iV s0) :: H) (fun | ⟨i, j, k, s0⟩ => ((t, arow 57 b n c d) :: S)) ?_ ?_
 ·refine g6 ?_
  refine GC_cond rfl (fun hc1 => ?_) (fun hc2 => ?_)
  ·have h50 : 50 ≤ e - a := by have := of_decide_eq_true hc1; omega
   refine g4 ?_
   refine gL (cao (ι := Nat × Int) (fun x => iV x.1) (fun x => a ≤ x.1 ∧ x.1 < e) (fun _ => ((60, cb) :: B)) (fun x => (ky 60 0, iV x.2) :: H) (fun _ => ((t, arow 57 b n c d) :: S)) rfl (fun w_ s_ => (by have := medAdj_calls (H := H) hd hn (cb := cb) (B := ((60, cb) :: B)) rfl 0 hhi (lo := a) (a + (e - a) / 4 * 1) oM w_ s_; rw [show (((a + (e - a) / 4 * 1) : Nat) : Int) = (a : Int) + ((e : Int) - a) / 4 * 1 by omega] at this; exact this)) (fun | (x1, z1), hx1 => ?_))
   refine g7 ?_
   refine gL (cao (ι := Nat × Int) (fun x => iV x.1) (fun x => a ≤ x.1 ∧ x.1 < e) (fun _ => ((60, cb) :: B)) (fun x => (ky 60 0, iV x.2) :: H) (fun _ => ((t, arow 57 b n c d) :: S)) rfl (fun w_ s_ => (by have := medAdj_calls (H := H) hd hn (cb := cb) (B := ((60, cb) :: B)) rfl z1 hhi (lo := a) (a + (e - a) / 4 * 2) oM w_ s_; rw [show (((a + (e - a) / 4 * 2) : Nat) : Int) = (a : Int) + ((e : Int) - a) / 4 * 2 by omega] at this; exact this)) (fun | (x2, z2), hx2 => ?_))
   refine g6 ?_
   refine gL (cao (ι := Nat × Int) (fun x => iV x.1) (fun x => a ≤ x.1 ∧ x.1 < e) (fun _ => ((60, cb) :: B)) (fun x => (ky 60 0, iV x.2) :: H) (fun _ => ((t, arow 57 b n c d) :: S)) rfl (fun w_ s_ => (by have := medAdj_calls (H := H) hd hn (cb := cb) (B := ((60, cb) :: B)) rfl z2 hhi (lo := a) (a + (e - a) / 4 * 3) oM w_ s_; rw [show (((a + (e - a) / 4 * 3) : Nat) : Int) = (a : Int) + ((e : Int) - a) / 4 * 3 by omega] at this; exact this)) (fun | (x3, z3), hx3 => ?_))
   refine g2 ?_
   refine GE_meet (ι := Nat × Nat × Nat × Int) ⟨x1, x2, x3, z3⟩ ⟨by omega, by omega, by omega⟩ kno (fun w s => s)
  ·skip
   refine g1 ?_
   refine GE_meet (ι := Nat × Nat × Nat × Int) ⟨a + (e - a) / 4 * 1, a + (e - a) / 4 * 2, a + (e - a) / 4 * 3, 0⟩ ⟨by omega, by omega, by omega⟩ kno (fun w s => s)
 rintro ⟨i, j, k, s0⟩ ⟨hi, hj, hk⟩
 show GC _ _ _ _ [(0, .iface 122 (sL b n c)), (9, pT cb), (10, iV i), (11, iV j), (12, iV k)] _ _ (((60, cb) :: B)) ((ky 60 0, iV s0) :: H) (((t, arow 57 b n c d) :: S))
 refine g5 ?_
 refine gL (cao (ι := Nat × Int) (fun x => iV x.1) (fun x => a ≤ x.1 ∧ x.1 < e) (fun _ => ((60, cb) :: B)) (fun x => (ky 60 0, iV x.2) :: H) (fun _ => ((t, arow 57 b n c d) :: S)) rfl (fun w_ s_ => median_calls (H := H) hd hn rfl s0 hhi i j k hi hj hk w_ s_) (fun | (x4, z4), hx4 => ?_))
 refine g5 ?_
 refine rl (rld 60 rfl rfl rfl) ?_
 refine g9 ?_
 refine GC_cond rfl (fun hc1 => ?_) (fun hc2 => ?_)
 ·refine g9 ?_
  exact GE_ret2 (.inl rfl) rfl (res_tmp rfl) (res_tmp rfl) fun w_ s_ => ⟨(x4, 1), hx4, rfl, s_.low 60 hlim agx agx agx⟩
 ·refine g6 ?_
  refine GC_cond rfl (fun hc1 => ?_) (fun hc2 => ?_)
  ·refine g9 ?_
   exact GE_ret2 (.inl rfl) rfl (res_tmp rfl) (res_tmp rfl) fun w_ s_ => ⟨(x4, 2), hx4, rfl, s_.low 60 hlim agx agx agx⟩
  ·refine g9 ?_
   exact GE_ret2 (.inl rfl) rfl (res_tmp rfl) (res_tmp rfl) fun w_ s_ => ⟨(x4, 0), hx4, rfl, s_.low 60 hlim agx agx agx⟩
end
end Go.Proofs.YtdbbifbmkfmbkaaGreat
