/-
  The iterator and its rule in memory: what is known of their cells and rows.
-/
import Derived.Test.YtfcklceejjmjeaaGreatProg
import Derived.Test.YtfcklceejjmjeaaGreatMd
import Derived.Test.YtfcklceejjmjeaaGreatFg
import Derived.Test.YtfcklceejjmjeaaGreatFh
import Derived.Test.YtfcklceejjmjeaaGreatMe
import Derived.Test.YtfcklceejjmjeaaGreatRebb
set_option linter.unusedVariables false
set_option linter.unusedSimpArgs false
set_option maxRecDepth 100000
set_option maxHeartbeats 8000000
namespace Go.Proofs.YtfcklceejjmjeaaGreat
open Go.RowKit Go.Fr Go.Tab
section
variable {F : Nat → Prop} {w0 : World} {B : List (Nat × Nat)} {H : List (Nat × Value)} {S : List (Nat × Slc)}

open Go.Md
/-- Where the iterator's rows lie. -/
structure Ad where
  b3 : Nat
  c3 : Nat
  b4 : Nat
  c4 : Nat
  b5 : Nat
  c5 : Nat
  b6 : Nat
  c6 : Nat
  b7 : Nat
  c7 : Nat
  p20 : Option Addr
  c20 : Nat
  p21 : Option Addr
  c21 : Nat
  p22 : Option Addr
  c22 : Nat
  tp : Option Addr
  tc : Nat
  rp : Option Addr
  rc : Nat
  rs : Option Addr
  rk : Nat
  rn : Nat
  rj : Nat
  rall : List Int
  bk : Value
  dp : Option Addr
  dc : Nat
  dn : Nat
  dxs : List Value
  ln : Value
/-- Where the rule's lists lie. -/
structure Ra where
  p46 : Option Addr
  c46 : Nat
  p47 : Option Addr
  c47 : Nat
  p48 : Option Addr
  c48 : Nat
  p49 : Option Addr
  c49 : Nat
  p50 : Option Addr
  c50 : Nat
  p51 : Option Addr
  c51 : Nat
  p52 : Option Addr
  c52 : Nat
  p53 : Option Addr
  c53 : Nat
  p54 : Option Addr
  c54 : Nat
  p55 : Option Addr
  c55 : Nat
  p56 : Option Addr
  c56 : Nat
  p57 : Option Addr
  c57 : Nat
structure St (F : Nat → Prop) (w0 : World) (S0 : List (Nat × Slc)) (H0 : List (Nat × Value)) (it rb : Nat) (r : Ru) (l : Ra) (s : It) (a : Ad) (B : List (Nat × Nat)) (H : List (Nat × Value)) (S : List (Nat × Slc)) : Prop where
  hB : lkp 0 B = some it
  hR : lkp 1 B = some rb
  lim : Lim 40 B H S
  h0 : lkp (ky 0 0) H = some (.int .i64 s.y)
  h1 : lkp (ky 0 1) H = some (.int .i64 s.mo)
  h2 : lkp (ky 0 2) H = some (.int .i64 s.d)
  h3 : lkp (ky 0 3) H = some (.int .i64 s.h)
  h4 : lkp (ky 0 4) H = some (.int .i64 s.mi)
  h5 : lkp (ky 0 5) H = some (.int .i64 s.s)
  h6 : lkp (ky 0 6) H = some (.int .i64 s.wd)
  h7 : lkp (ky 0 7) H = some (.pointer (some ⟨rb, 0, none⟩))
  h8 : lkp (ky 0 8) H = some (.int .i64 s.ly)
  h9 : lkp (ky 0 9) H = some (.int .i64 s.lm)
  h10 : lkp (ky 0 10) H = some (.int .i64 (365 + Cal.lp s.ly))
  h11 : lkp (ky 0 11) H = some (.int .i64 (365 + Cal.lp (s.ly + 1)))
  h12 : lkp (ky 0 12) H = some (.int .i64 (Cal.daysTo s.ly * 86400))
  h13 : lkp (ky 0 13) H = some (.int .i64 0)
  h14 : lkp (ky 0 14) H = some (.int .i64 (ywd s.ly))
  h15 : lkp (ky 0 15) H = some (.slice (some ⟨a.b3, 0, none⟩) (nY s.ly) a.c3)
  h16 : lkp (ky 0 16) H = some (.slice (some ⟨a.b7, 0, none⟩) 13 a.c7)
  h17 : lkp (ky 0 17) H = some (.slice (some ⟨a.b4, 0, none⟩) (nY s.ly) a.c4)
  h18 : lkp (ky 0 18) H = some (.slice (some ⟨a.b5, 0, none⟩) (nY s.ly) a.c5)
  h19 : lkp (ky 0 19) H = some (.slice (some ⟨a.b6, 0 + (ywd s.ly).toNat * 1, none⟩) (385 - (ywd s.ly).toNat) (a.c6 - (ywd s.ly).toNat))
  h20 : lkp (ky 0 20) H = some (.slice a.p20 s.wno.length a.c20)
  h21 : lkp (ky 0 21) H = some (.slice a.p21 s.nwm.length a.c21)
  h22 : lkp (ky 0 22) H = some (.slice a.p22 s.eas.length a.c22)
  h23 : lkp (ky 0 23) H = some (.slice a.tp s.ts.length a.tc)
  h24 : lkp (ky 0 24) H = some (.int .i64 s.total)
  h25 : lkp (ky 0 25) H = some (.int .i64 s.count)
  h26 : lkp (ky 0 26) H = some (.slice a.rs s.rem.length a.rk)
  h27 : lkp (ky 0 27) H = some (a.bk)
  h28 : lkp (ky 0 28) H = some (.bool s.fin)
  h29 : lkp (ky 0 29) H = some (.slice a.dp a.dn a.dc)
  hS0 : lkp 0 S = some ⟨.slice a.rp a.rn a.rc, 44, 2, a.rn, tcells a.rall⟩
  hS1 : lkp 1 S = some ⟨.slice a.dp a.dn a.dc, 128, 2, a.dn, a.dxs⟩
  hS2 : lkp 2 S = some ⟨.slice a.tp s.ts.length a.tc, 44, 2, s.ts.length, tcells s.ts⟩
  hS3 : lkp 3 S = some ⟨.slice (some ⟨a.b3, 0, none⟩) (nY s.ly) a.c3, 3, 1, nY s.ly, (mmY s.ly).map (Value.int .i64)⟩
  hS4 : lkp 4 S = some ⟨.slice (some ⟨a.b4, 0, none⟩) (nY s.ly) a.c4, 3, 1, nY s.ly, (mdY s.ly).map (Value.int .i64)⟩
  hS5 : lkp 5 S = some ⟨.slice (some ⟨a.b5, 0, none⟩) (nY s.ly) a.c5, 3, 1, nY s.ly, (nmdY s.ly).map (Value.int .i64)⟩
  hS6 : lkp 6 S = some ⟨.slice (some ⟨a.b6, 0, none⟩) 385 a.c6, 3, 1, 385, (wd 55).map (Value.int .i64)⟩
  hS7 : lkp 7 S = some ⟨.slice (some ⟨a.b7, 0, none⟩) 13 a.c7, 3, 1, 13, (rgY s.ly).map (Value.int .i64)⟩
  hS8 : 0 < s.wno.length → lkp 8 S = some ⟨.slice a.p20 s.wno.length a.c20, 3, 1, s.wno.length, s.wno.map (Value.int .i64)⟩
  hS9 : 0 < s.nwm.length → lkp 9 S = some ⟨.slice a.p21 s.nwm.length a.c21, 3, 1, s.nwm.length, s.nwm.map (Value.int .i64)⟩
  hS10 : 0 < s.eas.length → lkp 10 S = some ⟨.slice a.p22 s.eas.length a.c22, 3, 1, s.eas.length, s.eas.map (Value.int .i64)⟩
  hp20 : 0 < s.wno.length → ∃ b, a.p20 = some ⟨b, 0, none⟩
  hp21 : 0 < s.nwm.length → ∃ b, a.p21 = some ⟨b, 0, none⟩
  hp22 : 0 < s.eas.length → ∃ b, a.p22 = some ⟨b, 0, none⟩
  c6 : 385 ≤ a.c6
  frS : ∀ k, 11 ≤ k → k < 40 → lkp k S = lkp k S0
  frH : ∀ k, 2 ≤ k → k < 40 → ∀ o, o < 4096 → lkp (ky k o) H = lkp (ky k o) H0
  hq0 : s.rem = [] → a.rs = a.rp ∧ a.rk = a.rc ∧ a.rn = 0 ∧ a.rall = []
  hq1 : s.rem ≠ [] → (∀ g, a.rp = some ⟨g, 0, none⟩ → a.rs = some ⟨g, 2 * a.rj, none⟩) ∧ s.rem = a.rall.drop a.rj ∧ a.rall.length = a.rn ∧ a.rj < a.rn ∧ a.rk = a.rc - a.rj ∧ a.bk = .slice a.rp a.rn a.rc
  r38 : lkp (ky 1 38) H = some (.int .i64 r.freq)
  r39 : lkp (ky 1 39) H = some (.int .i64 r.d0)
  r40 : lkp (ky 1 40) H = some (.int .i64 0)
  r41 : lkp (ky 1 41) H = some (.int .i64 r.interval)
  r42 : lkp (ky 1 42) H = some (.int .i64 r.wkst)
  r44 : lkp (ky 1 44) H = some (.int .i64 r.u0)
  r45 : lkp (ky 1 45) H = some (.int .i64 r.u1)
  r46 : lkp (ky 1 46) H = some (.slice l.p46 r.setpos.length l.c46)
  r47 : lkp (ky 1 47) H = some (.slice l.p47 r.month.length l.c47)
  r48 : lkp (ky 1 48) H = some (.slice l.p48 r.mday.length l.c48)
  r49 : lkp (ky 1 49) H = some (.slice l.p49 r.nmday.length l.c49)
  r50 : lkp (ky 1 50) H = some (.slice l.p50 r.yday.length l.c50)
  r51 : lkp (ky 1 51) H = some (.slice l.p51 r.weekno.length l.c51)
  r52 : lkp (ky 1 52) H = some (.slice l.p52 r.wday.length l.c52)
  r53 : lkp (ky 1 53) H = some (.slice l.p53 r.nwd.length l.c53)
  r54 : lkp (ky 1 54) H = some (.slice l.p54 r.hour.length l.c54)
  r55 : lkp (ky 1 55) H = some (.slice l.p55 r.minute.length l.c55)
  r56 : lkp (ky 1 56) H = some (.slice l.p56 r.second.length l.c56)
  r57 : lkp (ky 1 57) H = some (.slice l.p57 r.easter.length l.c57)
  r59 : lkp (ky 1 59) H = some (a.ln)
  hI46 : SrcI F w0 S (.slice l.p46 r.setpos.length l.c46) r.setpos
  hI47 : SrcI F w0 S (.slice l.p47 r.month.length l.c47) r.month
  hI48 : SrcI F w0 S (.slice l.p48 r.mday.length l.c48) r.mday
  hI49 : SrcI F w0 S (.slice l.p49 r.nmday.length l.c49) r.nmday
  hI50 : SrcI F w0 S (.slice l.p50 r.yday.length l.c50) r.yday
  hI51 : SrcI F w0 S (.slice l.p51 r.weekno.length l.c51) r.weekno
  hI52 : SrcI F w0 S (.slice l.p52 r.wday.length l.c52) r.wday
  hI54 : SrcI F w0 S (.slice l.p54 r.hour.length l.c54) r.hour
  hI55 : SrcI F w0 S (.slice l.p55 r.minute.length l.c55) r.minute
  hI56 : SrcI F w0 S (.slice l.p56 r.second.length l.c56) r.second
  hI57 : SrcI F w0 S (.slice l.p57 r.easter.length l.c57) r.easter
  hl46 : r.setpos.length ≤ 1000000000
  hl47 : r.month.length ≤ 1000000000
  hl48 : r.mday.length ≤ 1000000000
  hl49 : r.nmday.length ≤ 1000000000
  hl50 : r.yday.length ≤ 1000000000
  hl51 : r.weekno.length ≤ 1000000000
  hl52 : r.wday.length ≤ 1000000000
  hl54 : r.hour.length ≤ 1000000000
  hl55 : r.minute.length ≤ 1000000000
  hl56 : r.second.length ≤ 1000000000
  hl57 : r.easter.length ≤ 1000000000
/-- The rule's numbers are in their ranges. -/
structure RuOk (r : Ru) : Prop where
  freq : 0 ≤ r.freq ∧ r.freq ≤ 6
  interval : 1 ≤ r.interval ∧ r.interval ≤ 1000
  wkst : 0 ≤ r.wkst ∧ r.wkst ≤ 6
  until0 : ¬ (r.u0 = 0 ∧ r.u1 = 0)
  until1 : 0 ≤ r.u1
  hour : ∀ x ∈ r.hour, 0 ≤ x ∧ x ≤ 23
  minute : ∀ x ∈ r.minute, 0 ≤ x ∧ x ≤ 59
  second : ∀ x ∈ r.second, 0 ≤ x ∧ x ≤ 59
  wnoF : r.weekno.length ≠ 0 → ∀ y, (r.wnoF y).length = nY y
  nwmF : r.nwd.length ≠ 0 → ∀ y m, ((r.nwmF y m).length : Int) = 365 + Cal.lp y
  easF : r.easter.length ≠ 0 → ∀ y, (r.easF y).length = nY y
  wnoF0 : r.weekno.length = 0 → ∀ y, r.wnoF y = []
  nwmF0 : r.nwd.length = 0 → ∀ y m, r.nwmF y m = []
  easF0 : r.easter.length = 0 → ∀ y, r.easF y = []
  nwd : 2 ≤ r.freq → r.nwd.length = 0
/-- What the numbers of an iterator between two rounds are like. -/
structure ItOk (r : Ru) (s : It) : Prop where
  y : 1 ≤ s.y ∧ s.y ≤ 9999
  ly : s.ly = s.y
  mo : 1 ≤ s.mo ∧ s.mo ≤ 12
  d : 1 ≤ s.d ∧ s.d ≤ 31
  day : 2 ≤ r.freq → s.d ≤ Cal.mdays s.mo s.y
  wd : 0 ≤ s.wd ∧ s.wd ≤ 6
  hr : 0 ≤ s.h ∧ s.h ≤ 23
  mn : 0 ≤ s.mi ∧ s.mi ≤ 59
  sec : 0 ≤ s.s ∧ s.s ≤ 59
  ts : ∀ t ∈ s.ts, 0 ≤ t ∧ t < 86400
  tsn : s.ts.length ≤ 100000
  total : 0 ≤ s.total ∧ s.total ≤ 1000000000000 + s.rem.length
  count : 0 ≤ s.count ∧ s.count ≤ 9223372036854775807
  wno : s.wno = r.wnoF s.ly
  nwm : s.nwm = r.nwmF s.ly s.lm
  eas : s.eas = r.easF s.ly
  lm : r.freq = 1 → s.lm = s.mo
section
variable {P : Program} {Q : Exit → Act → World → Prop} {K : Act → World → Prop} {N d : Nat} {L : Fr.Loc} {v : Value} {ty : TypeId} {pos : String} {aft : Array Edge}
/-- A callee that leaves what is known. -/
theorem at_call_same {f : FuncId} {asl : List Operand} {ats : Array TypeId} {args : List Value} (hd : d < N) (hf : enterB P f = true) (ha : Fr.evs L asl = some args)
    (hc : ∀ w, Sees F w0 B H S w → Calls P f args.toArray w fun e w' => e = .returned v ∧ Sees F w0 B H S w') (hn : GK K N ((d, v) :: L) F w0 B H S) : GO P ⟨some d, .call ⟨.value (.func f), asl.toArray, ats⟩, ty, pos, aft, none⟩ Q K N L F w0 B H S :=
  at_call (ι := Unit) (fun _ => v) (fun _ => True) (fun _ => B) (fun _ => H) (fun _ => S) hd hf ha (fun w s => (hc w s).mono fun e w' ⟨he, hs⟩ => ⟨(), trivial, he, hs⟩) (fun _ _ => hn)
/-- A callee that fills a row anew. -/
theorem at_call_row1 (k : Nat) (h : Option Addr → Nat → Nat × Value) (q : Option Addr → Nat → Slc) {f : FuncId} {asl : List Operand} {ats : Array TypeId} {args : List Value} (hd : d < N) (hf : enterB P f = true) (ha : Fr.evs L asl = some args)
    (hc : ∀ w, Sees F w0 B H S w → Calls P f args.toArray w fun e w' => ∃ p c, e = .returned v ∧ Sees F w0 B (h p c :: H) ((k, q p c) :: S) w') (hn : ∀ p c, GK K N ((d, v) :: L) F w0 B (h p c :: H) ((k, q p c) :: S)) : GO P ⟨some d, .call ⟨.value (.func f), asl.toArray, ats⟩, ty, pos, aft, none⟩ Q K N L F w0 B H S :=
  at_call (ι := Option Addr × Nat) (fun _ => v) (fun _ => True) (fun _ => B) (fun x => h x.1 x.2 :: H) (fun x => (k, q x.1 x.2) :: S) hd hf ha (fun w s => (hc w s).mono fun e w' ⟨p, c, he, hs⟩ => ⟨(p, c), trivial, he, hs⟩) (fun x _ => hn x.1 x.2)
theorem GC_blind {c : Code} {fn : Func} {R : Ending → World → Prop} (h : Blind (bodyPost P fn R) → GC P c (bodyPost P fn R) N L F w0 B H S) : GC P c (bodyPost P fn R) N L F w0 B H S := h Blind.body
end
end
end Go.Proofs.YtfcklceejjmjeaaGreat
