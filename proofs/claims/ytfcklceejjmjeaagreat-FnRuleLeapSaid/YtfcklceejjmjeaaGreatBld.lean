/-
  The rule that the package builds from its options: what is known on the way.
-/
import Derived.Test.YtfcklceejjmjeaaGreatProg
import Derived.Test.YtfcklceejjmjeaaGreatMd
import Derived.Test.YtfcklceejjmjeaaGreatFg
import Derived.Test.YtfcklceejjmjeaaGreatNext
import Derived.Test.YtfcklceejjmjeaaGreatFj
import Derived.Test.YtfcklceejjmjeaaGreatMo
set_option linter.unusedVariables false
set_option linter.unusedSimpArgs false
set_option maxRecDepth 100000
set_option maxHeartbeats 8000000
namespace Go.Proofs.YtfcklceejjmjeaaGreat
open Go.RowKit Go.Fr Go.Tab
section
variable {F : Nat → Prop} {w0 : World} {B : List (Nat × Nat)} {H : List (Nat × Value)} {S : List (Nat × Slc)}

open Go.Md
/-- Where lists lie. -/
structure Av where
  p9 : Option Addr
  p10 : Option Addr
  p11 : Option Addr
  p12 : Option Addr
  p13 : Option Addr
  p14 : Option Addr
  p15 : Option Addr
  p16 : Option Addr
  p17 : Option Addr
  p18 : Option Addr
  c9 : Nat
  c10 : Nat
  c11 : Nat
  c12 : Nat
  c13 : Nat
  c14 : Nat
  c15 : Nat
  c16 : Nat
  c17 : Nat
  c18 : Nat
  pm : Option Addr
  pd : Option Addr
  pw : Option Addr
  q48 : Option Addr
  q49 : Option Addr
  q52 : Option Addr
  q53 : Option Addr
  q54 : Option Addr
  q55 : Option Addr
  q56 : Option Addr
  tp : Option Addr
  cm : Nat
  cd : Nat
  cw : Nat
  e48 : Nat
  e49 : Nat
  e52 : Nat
  e53 : Nat
  e54 : Nat
  e55 : Nat
  e56 : Nat
  tc : Nat
def oc0 (o : Opn) (x : Av) : List Value := [.int .i64 o.freq, .int .i64 o.d, .int .i64 0, .int .i64 o.interval, .int .i64 o.wkst, .int .i64 0, .int .i64 o.count, .int .i64 o.u, .int .i64 0, .slice x.p9 (o.setpos).length x.c9, .slice x.p10 (o.month).length x.c10, .slice x.p11 (o.mday).length x.c11, .slice x.p12 (o.yday).length x.c12, .slice x.p13 (o.weekno).length x.c13, .slice x.p14 (o.wday).length x.c14, .slice x.p15 (o.hour).length x.c15, .slice x.p16 (o.minute).length x.c16, .slice x.p17 (o.second).length x.c17, .slice x.p18 (o.easter).length x.c18]
def oc1 (o : Opn) (x : Av) : List Value := [.int .i64 o.freq, .int .i64 o.d, .int .i64 0, .int .i64 o.interval, .int .i64 o.wkst, .int .i64 0, .int .i64 o.count, .int .i64 o.u, .int .i64 0, .slice x.p9 (o.setpos).length x.c9, .slice x.pm (month' o).length x.cm, .slice x.pd (mday' o).length x.cd, .slice x.p12 (o.yday).length x.c12, .slice x.p13 (o.weekno).length x.c13, .slice x.pw (wday' o).length x.cw, .slice x.p15 (o.hour).length x.c15, .slice x.p16 (o.minute).length x.c16, .slice x.p17 (o.second).length x.c17, .slice x.p18 (o.easter).length x.c18]
def rcA (o : Opn) (x : Av) : List Value := [.int .i64 o.freq, .int .i64 o.d, .int .i64 0, .int .i64 o.interval, .int .i64 o.wkst, .int .i64 0, .int .i64 o.count, .int .i64 o.u, .int .i64 0, .slice x.p9 (o.setpos).length x.c9, .slice x.p10 (o.month).length x.c10, .slice x.p11 (o.mday).length x.c11, .slice x.p12 (o.yday).length x.c12, .slice x.p13 (o.weekno).length x.c13, .slice x.p14 (o.wday).length x.c14, .slice x.p15 (o.hour).length x.c15, .slice x.p16 (o.minute).length x.c16, .slice x.p17 (o.second).length x.c17, .slice x.p18 (o.easter).length x.c18, .int .i64 0, .int .i64 0, .int .i64 0, .int .i64 0, .int .i64 0, .int .i64 0, .int .i64 0, .int .i64 0, .int .i64 0, .slice none 0 0, .slice none 0 0, .slice none 0 0, .slice none 0 0, .slice none 0 0, .slice none 0 0, .slice none 0 0, .slice none 0 0, .slice none 0 0, .slice none 0 0, .int .i64 o.freq, .int .i64 o.d, .int .i64 0, .int .i64 o.interval, .int .i64 o.wkst, .int .i64 o.count, .int .i64 (until0 o), .int .i64 (until1 o), .slice x.p9 (o.setpos).length x.c9, .slice none 0 0, .slice none 0 0, .slice none 0 0, .slice none 0 0, .slice none 0 0, .slice none 0 0, .slice none 0 0, .slice none 0 0, .slice none 0 0, .slice none 0 0, .slice none 0 0, .slice none 0 0, .int .i64 0]
def rcC (o : Opn) (x : Av) : List Value := [.int .i64 o.freq, .int .i64 o.d, .int .i64 0, .int .i64 o.interval, .int .i64 o.wkst, .int .i64 0, .int .i64 o.count, .int .i64 o.u, .int .i64 0, .slice x.p9 (o.setpos).length x.c9, .slice x.p10 (o.month).length x.c10, .slice x.p11 (o.mday).length x.c11, .slice x.p12 (o.yday).length x.c12, .slice x.p13 (o.weekno).length x.c13, .slice x.p14 (o.wday).length x.c14, .slice x.p15 (o.hour).length x.c15, .slice x.p16 (o.minute).length x.c16, .slice x.p17 (o.second).length x.c17, .slice x.p18 (o.easter).length x.c18, .int .i64 0, .int .i64 0, .int .i64 0, .int .i64 0, .int .i64 0, .int .i64 0, .int .i64 0, .int .i64 0, .int .i64 0, .slice none 0 0, .slice none 0 0, .slice none 0 0, .slice none 0 0, .slice none 0 0, .slice none 0 0, .slice none 0 0, .slice none 0 0, .slice none 0 0, .slice none 0 0, .int .i64 o.freq, .int .i64 o.d, .int .i64 0, .int .i64 o.interval, .int .i64 o.wkst, .int .i64 o.count, .int .i64 (until0 o), .int .i64 (until1 o), .slice x.p9 (o.setpos).length x.c9, .slice x.pm (month' o).length x.cm, .slice x.q48 (posM (mday' o)).length x.e48, .slice x.q49 (negM (mday' o)).length x.e49, .slice x.p12 (o.yday).length x.c12, .slice none 0 0, .slice none 0 0, .slice none 0 0, .slice none 0 0, .slice none 0 0, .slice none 0 0, .slice x.p18 (o.easter).length x.c18, .slice none 0 0, .int .i64 0]
def rcD (o : Opn) (x : Av) : List Value := [.int .i64 o.freq, .int .i64 o.d, .int .i64 0, .int .i64 o.interval, .int .i64 o.wkst, .int .i64 0, .int .i64 o.count, .int .i64 o.u, .int .i64 0, .slice x.p9 (o.setpos).length x.c9, .slice x.p10 (o.month).length x.c10, .slice x.p11 (o.mday).length x.c11, .slice x.p12 (o.yday).length x.c12, .slice x.p13 (o.weekno).length x.c13, .slice x.p14 (o.wday).length x.c14, .slice x.p15 (o.hour).length x.c15, .slice x.p16 (o.minute).length x.c16, .slice x.p17 (o.second).length x.c17, .slice x.p18 (o.easter).length x.c18, .int .i64 0, .int .i64 0, .int .i64 0, .int .i64 0, .int .i64 0, .int .i64 0, .int .i64 0, .int .i64 0, .int .i64 0, .slice none 0 0, .slice none 0 0, .slice none 0 0, .slice none 0 0, .slice none 0 0, .slice none 0 0, .slice none 0 0, .slice none 0 0, .slice none 0 0, .slice none 0 0, .int .i64 o.freq, .int .i64 o.d, .int .i64 0, .int .i64 o.interval, .int .i64 o.wkst, .int .i64 o.count, .int .i64 (until0 o), .int .i64 (until1 o), .slice x.p9 (o.setpos).length x.c9, .slice x.pm (month' o).length x.cm, .slice x.q48 (posM (mday' o)).length x.e48, .slice x.q49 (negM (mday' o)).length x.e49, .slice x.p12 (o.yday).length x.c12, .slice x.p13 (o.weekno).length x.c13, .slice x.q52 (((wday' o).filter (plainW o.freq)).map Prod.fst).length x.e52, .slice x.q53 ((wday' o).filter fun y => !plainW o.freq y).length x.e53, .slice none 0 0, .slice none 0 0, .slice none 0 0, .slice x.p18 (o.easter).length x.c18, .slice none 0 0, .int .i64 0]
def rcE (o : Opn) (x : Av) : List Value := [.int .i64 o.freq, .int .i64 o.d, .int .i64 0, .int .i64 o.interval, .int .i64 o.wkst, .int .i64 0, .int .i64 o.count, .int .i64 o.u, .int .i64 0, .slice x.p9 (o.setpos).length x.c9, .slice x.p10 (o.month).length x.c10, .slice x.p11 (o.mday).length x.c11, .slice x.p12 (o.yday).length x.c12, .slice x.p13 (o.weekno).length x.c13, .slice x.p14 (o.wday).length x.c14, .slice x.p15 (o.hour).length x.c15, .slice x.p16 (o.minute).length x.c16, .slice x.p17 (o.second).length x.c17, .slice x.p18 (o.easter).length x.c18, .int .i64 0, .int .i64 0, .int .i64 0, .int .i64 0, .int .i64 0, .int .i64 0, .int .i64 0, .int .i64 0, .int .i64 0, .slice none 0 0, .slice none 0 0, .slice none 0 0, .slice none 0 0, .slice none 0 0, .slice none 0 0, .slice none 0 0, .slice none 0 0, .slice none 0 0, .slice none 0 0, .int .i64 o.freq, .int .i64 o.d, .int .i64 0, .int .i64 o.interval, .int .i64 o.wkst, .int .i64 o.count, .int .i64 (until0 o), .int .i64 (until1 o), .slice x.p9 (o.setpos).length x.c9, .slice x.pm (month' o).length x.cm, .slice x.q48 (posM (mday' o)).length x.e48, .slice x.q49 (negM (mday' o)).length x.e49, .slice x.p12 (o.yday).length x.c12, .slice x.p13 (o.weekno).length x.c13, .slice x.q52 (((wday' o).filter (plainW o.freq)).map Prod.fst).length x.e52, .slice x.q53 ((wday' o).filter fun y => !plainW o.freq y).length x.e53, .slice x.q54 (hour' o).length x.e54, .slice none 0 0, .slice none 0 0, .slice x.p18 (o.easter).length x.c18, .slice none 0 0, .int .i64 0]
def rcF (o : Opn) (x : Av) : List Value := [.int .i64 o.freq, .int .i64 o.d, .int .i64 0, .int .i64 o.interval, .int .i64 o.wkst, .int .i64 0, .int .i64 o.count, .int .i64 o.u, .int .i64 0, .slice x.p9 (o.setpos).length x.c9, .slice x.p10 (o.month).length x.c10, .slice x.p11 (o.mday).length x.c11, .slice x.p12 (o.yday).length x.c12, .slice x.p13 (o.weekno).length x.c13, .slice x.p14 (o.wday).length x.c14, .slice x.p15 (o.hour).length x.c15, .slice x.p16 (o.minute).length x.c16, .slice x.p17 (o.second).length x.c17, .slice x.p18 (o.easter).length x.c18, .int .i64 0, .int .i64 0, .int .i64 0, .int .i64 0, .int .i64 0, .int .i64 0, .int .i64 0, .int .i64 0, .int .i64 0, .slice none 0 0, .slice none 0 0, .slice none 0 0, .slice none 0 0, .slice none 0 0, .slice none 0 0, .slice none 0 0, .slice none 0 0, .slice none 0 0, .slice none 0 0, .int .i64 o.freq, .int .i64 o.d, .int .i64 0, .int .i64 o.interval, .int .i64 o.wkst, .int .i64 o.count, .int .i64 (until0 o), .int .i64 (until1 o), .slice x.p9 (o.setpos).length x.c9, .slice x.pm (month' o).length x.cm, .slice x.q48 (posM (mday' o)).length x.e48, .slice x.q49 (negM (mday' o)).length x.e49, .slice x.p12 (o.yday).length x.c12, .slice x.p13 (o.weekno).length x.c13, .slice x.q52 (((wday' o).filter (plainW o.freq)).map Prod.fst).length x.e52, .slice x.q53 ((wday' o).filter fun y => !plainW o.freq y).length x.e53, .slice x.q54 (hour' o).length x.e54, .slice x.q55 (minute' o).length x.e55, .slice none 0 0, .slice x.p18 (o.easter).length x.c18, .slice none 0 0, .int .i64 0]
def rcG (o : Opn) (x : Av) : List Value := [.int .i64 o.freq, .int .i64 o.d, .int .i64 0, .int .i64 o.interval, .int .i64 o.wkst, .int .i64 0, .int .i64 o.count, .int .i64 o.u, .int .i64 0, .slice x.p9 (o.setpos).length x.c9, .slice x.p10 (o.month).length x.c10, .slice x.p11 (o.mday).length x.c11, .slice x.p12 (o.yday).length x.c12, .slice x.p13 (o.weekno).length x.c13, .slice x.p14 (o.wday).length x.c14, .slice x.p15 (o.hour).length x.c15, .slice x.p16 (o.minute).length x.c16, .slice x.p17 (o.second).length x.c17, .slice x.p18 (o.easter).length x.c18, .int .i64 0, .int .i64 0, .int .i64 0, .int .i64 0, .int .i64 0, .int .i64 0, .int .i64 0, .int .i64 0, .int .i64 0, .slice none 0 0, .slice none 0 0, .slice none 0 0, .slice none 0 0, .slice none 0 0, .slice none 0 0, .slice none 0 0, .slice none 0 0, .slice none 0 0, .slice none 0 0, .int .i64 o.freq, .int .i64 o.d, .int .i64 0, .int .i64 o.interval, .int .i64 o.wkst, .int .i64 o.count, .int .i64 (until0 o), .int .i64 (until1 o), .slice x.p9 (o.setpos).length x.c9, .slice x.pm (month' o).length x.cm, .slice x.q48 (posM (mday' o)).length x.e48, .slice x.q49 (negM (mday' o)).length x.e49, .slice x.p12 (o.yday).length x.c12, .slice x.p13 (o.weekno).length x.c13, .slice x.q52 (((wday' o).filter (plainW o.freq)).map Prod.fst).length x.e52, .slice x.q53 ((wday' o).filter fun y => !plainW o.freq y).length x.e53, .slice x.q54 (hour' o).length x.e54, .slice x.q55 (minute' o).length x.e55, .slice x.q56 (second' o).length x.e56, .slice x.p18 (o.easter).length x.c18, .slice none 0 0, .int .i64 0]
def rcI (o : Opn) (x : Av) : List Value := [.int .i64 o.freq, .int .i64 o.d, .int .i64 0, .int .i64 o.interval, .int .i64 o.wkst, .int .i64 0, .int .i64 o.count, .int .i64 o.u, .int .i64 0, .slice x.p9 (o.setpos).length x.c9, .slice x.p10 (o.month).length x.c10, .slice x.p11 (o.mday).length x.c11, .slice x.p12 (o.yday).length x.c12, .slice x.p13 (o.weekno).length x.c13, .slice x.p14 (o.wday).length x.c14, .slice x.p15 (o.hour).length x.c15, .slice x.p16 (o.minute).length x.c16, .slice x.p17 (o.second).length x.c17, .slice x.p18 (o.easter).length x.c18, .int .i64 0, .int .i64 0, .int .i64 0, .int .i64 0, .int .i64 0, .int .i64 0, .int .i64 0, .int .i64 0, .int .i64 0, .slice none 0 0, .slice none 0 0, .slice none 0 0, .slice none 0 0, .slice none 0 0, .slice none 0 0, .slice none 0 0, .slice none 0 0, .slice none 0 0, .slice none 0 0, .int .i64 o.freq, .int .i64 o.d, .int .i64 0, .int .i64 o.interval, .int .i64 o.wkst, .int .i64 o.count, .int .i64 (until0 o), .int .i64 (until1 o), .slice x.p9 (o.setpos).length x.c9, .slice x.pm (month' o).length x.cm, .slice x.q48 (posM (mday' o)).length x.e48, .slice x.q49 (negM (mday' o)).length x.e49, .slice x.p12 (o.yday).length x.c12, .slice x.p13 (o.weekno).length x.c13, .slice x.q52 (((wday' o).filter (plainW o.freq)).map Prod.fst).length x.e52, .slice x.q53 ((wday' o).filter fun y => !plainW o.freq y).length x.e53, .slice x.q54 (hour' o).length x.e54, .slice x.q55 (minute' o).length x.e55, .slice x.q56 (second' o).length x.e56, .slice x.p18 (o.easter).length x.c18, .slice x.tp (tset o).length x.tc, .int .i64 0]
def outC (o : Opn) (x : Av) : List Value := [.int .i64 o.freq, .int .i64 o.d, .int .i64 0, .int .i64 o.interval, .int .i64 o.wkst, .int .i64 0, .int .i64 o.count, .int .i64 o.u, .int .i64 0, .slice x.p9 (o.setpos).length x.c9, .slice x.p10 (o.month).length x.c10, .slice x.p11 (o.mday).length x.c11, .slice x.p12 (o.yday).length x.c12, .slice x.p13 (o.weekno).length x.c13, .slice x.p14 (o.wday).length x.c14, .slice x.p15 (o.hour).length x.c15, .slice x.p16 (o.minute).length x.c16, .slice x.p17 (o.second).length x.c17, .slice x.p18 (o.easter).length x.c18, .int .i64 o.freq, .int .i64 o.d, .int .i64 0, .int .i64 o.interval, .int .i64 o.wkst, .int .i64 0, .int .i64 o.count, .int .i64 o.u, .int .i64 0, .slice x.p9 (o.setpos).length x.c9, .slice x.pm (month' o).length x.cm, .slice x.pd (mday' o).length x.cd, .slice x.p12 (o.yday).length x.c12, .slice x.p13 (o.weekno).length x.c13, .slice x.pw (wday' o).length x.cw, .slice x.p15 (o.hour).length x.c15, .slice x.p16 (o.minute).length x.c16, .slice x.p17 (o.second).length x.c17, .slice x.p18 (o.easter).length x.c18, .int .i64 o.freq, .int .i64 o.d, .int .i64 0, .int .i64 o.interval, .int .i64 o.wkst, .int .i64 o.count, .int .i64 (until0 o), .int .i64 (until1 o), .slice x.p9 (o.setpos).length x.c9, .slice x.pm (month' o).length x.cm, .slice x.q48 (posM (mday' o)).length x.e48, .slice x.q49 (negM (mday' o)).length x.e49, .slice x.p12 (o.yday).length x.c12, .slice x.p13 (o.weekno).length x.c13, .slice x.q52 (((wday' o).filter (plainW o.freq)).map Prod.fst).length x.e52, .slice x.q53 ((wday' o).filter fun y => !plainW o.freq y).length x.e53, .slice x.q54 (hour' o).length x.e54, .slice x.q55 (minute' o).length x.e55, .slice x.q56 (second' o).length x.e56, .slice x.p18 (o.easter).length x.c18, .slice x.tp (tset o).length x.tc, .int .i64 0]
structure Bs (F : Nat → Prop) (w0 : World) (B : List (Nat × Nat)) (H0 : List (Nat × Value)) (S0 : List (Nat × Slc)) (b1 b2 b3 : Nat) (ocs rcs : List Value) (H : List (Nat × Value)) (S : List (Nat × Slc)) : Prop where
  ho : cellsAt 50 H 0 ocs
  hc : cellsAt 52 H 0 rcs
  h2 : knwn 51 H 0 60 = true
  lim : Lim 53 ((52, b3) :: (51, b2) :: (50, b1) :: B) H S
  limB : Lim 40 B H0 S0
  frH : ∀ k, k < 40 → ∀ o, o < 4096 → lkp (ky k o) H = lkp (ky k o) H0
  frS : ∀ k, k < 53 → ¬(k = 2 ∨ (12 ≤ k ∧ k ≤ 25)) → lkp k S = lkp k S0
/-- The options are in their ranges. -/
structure OpOk (o : Opn) : Prop where
  freq : 0 ≤ o.freq ∧ o.freq ≤ 6
  d : 1 ≤ o.d ∧ o.d ≤ 400000000000
  interval : 1 ≤ o.interval ∧ o.interval ≤ 1000
  count : 0 ≤ o.count ∧ o.count ≤ 1000000000
  u : 0 ≤ o.u ∧ o.u ≤ 400000000000
  mday : o.mday.length ≤ 1000
  wday : o.wday.length ≤ 1000
  hour : o.hour.length ≤ 400
  minute : o.minute.length ≤ 400
  second : o.second.length ≤ 400
  hours : ∀ x ∈ o.hour, 0 ≤ x ∧ x ≤ 23
  minutes : ∀ x ∈ o.minute, 0 ≤ x ∧ x ≤ 59
  seconds : ∀ x ∈ o.second, 0 ≤ x ∧ x ≤ 59
/-- What is known of the built rule's lists. -/
structure OutF (F : Nat → Prop) (w0 : World) (o : Opn) (x : Av) (S0 S : List (Nat × Slc)) : Prop where
  s9 : SrcT F w0 S 11 (.slice x.p9 (o.setpos).length x.c9) o.setpos
  sm : SrcT F w0 S 16 (.slice x.pm (month' o).length x.cm) (month' o)
  s12 : SrcT F w0 S 11 (.slice x.p12 (o.yday).length x.c12) o.yday
  s13 : SrcT F w0 S 11 (.slice x.p13 (o.weekno).length x.c13) o.weekno
  s18 : SrcT F w0 S 11 (.slice x.p18 (o.easter).length x.c18) o.easter
  r12 : lkp 12 S = some ⟨.slice x.q48 (posM (mday' o)).length x.e48, 3, 1, (posM (mday' o)).length, (posM (mday' o)).map (Value.int .i64)⟩
  r13 : lkp 13 S = some ⟨.slice x.q49 (negM (mday' o)).length x.e49, 3, 1, (negM (mday' o)).length, (negM (mday' o)).map (Value.int .i64)⟩
  r14 : lkp 14 S = some ⟨.slice x.q52 (((wday' o).filter (plainW o.freq)).map Prod.fst).length x.e52, 3, 1, (((wday' o).filter (plainW o.freq)).map Prod.fst).length, (((wday' o).filter (plainW o.freq)).map Prod.fst).map (Value.int .i64)⟩
  sh : SrcT F w0 S 18 (.slice x.q54 (hour' o).length x.e54) (hour' o)
  si : SrcT F w0 S 19 (.slice x.q55 (minute' o).length x.e55) (minute' o)
  ss : SrcT F w0 S 20 (.slice x.q56 (second' o).length x.e56) (second' o)
  r2 : o.freq < 4 → lkp 2 S = some ⟨.slice x.tp (tset o).length x.tc, 44, 2, (tset o).length, tcells (tset o)⟩
  fr : ∀ k, k < 53 → ¬(k = 2 ∨ (12 ≤ k ∧ k ≤ 25)) → lkp k S = lkp k S0
  lim : ∀ k, 53 ≤ k → lkp k S = none
/-- One list of cells knows what another one knows. -/
def Knw (H' H : List (Nat × Value)) : Prop := ∀ q, (lkp q H).isSome = true → (lkp q H').isSome = true
theorem Knw.refl (H : List (Nat × Value)) : Knw H H := fun _ h => h
theorem Knw.cons {H' H : List (Nat × Value)} {q : Nat} {v : Value} (h : Knw H' H) : Knw ((q, v) :: H') H := fun k hk => by
  by_cases e : k = q
  · subst e; rw [lkp_cons_self]; rfl
  · rw [lkp_cons_ne e]; exact h k hk
theorem knwn_mono {H' H : List (Nat × Value)} (h : Knw H' H) {j : Nat} : ∀ {n o : Nat}, knwn j H o n = true → knwn j H' o n = true
  | 0, _, _ => rfl
  | n + 1, o, hk => by
    simp only [knwn, Bool.and_eq_true] at hk ⊢
    exact ⟨h _ hk.1, knwn_mono h hk.2⟩
theorem Knw.seq {H : List (Nat × Value)} {j : Nat} : ∀ (cs : List Value) (o : Nat) {H' : List (Nat × Value)}, Knw H' H → Knw (putSeq j o cs H') H
  | [], _, _, h => h
  | v :: r, o, _, h => Knw.seq r (o + 1) h.cons
theorem cellsAt_some {j : Nat} {H : List (Nat × Value)} : ∀ {cs : List Value} {o : Nat}, cellsAt j H o cs → ∀ (a n : Nat), a + n ≤ cs.length → knwn j H (o + a) n = true
  | cs, o, h, a, 0, hl => rfl
  | cs, o, h, a, n + 1, hl => by
    have h1 := h.get a _ (List.getElem?_eq_getElem (by omega))
    simp only [knwn, h1, Option.isSome_some, Bool.true_and]
    exact cellsAt_some h (a + 1) n (by omega)
theorem lkp_putSeq_hi {j : Nat} : ∀ (cs : List Value) (o q : Nat) {H : List (Nat × Value)}, q < o → o + cs.length ≤ 4096 → lkp (ky j q) (putSeq j o cs H) = lkp (ky j q) H
  | [], _, _, _, _, _ => rfl
  | v :: r, o, q, H, hq, hl => by
    simp only [List.length_cons] at hl
    show lkp (ky j q) (putSeq j (o + 1) r ((ky j o, v) :: H)) = _
    rw [lkp_putSeq_hi r (o + 1) q (by omega) (by omega), lkp_cons_ne (by unfold ky; omega)]
theorem putSeq_get {j : Nat} : ∀ (cs : List Value) (o : Nat) {H : List (Nat × Value)}, o + cs.length ≤ 4096 → ∀ (i : Nat) (v : Value), cs[i]? = some v → lkp (ky j (o + i)) (putSeq j o cs H) = some v
  | [], _, _, _, i, v, h => by simp at h
  | u :: r, o, H, hl, 0, v, h => by
    cases h
    simp only [List.length_cons] at hl
    show lkp (ky j (o + 0)) (putSeq j (o + 1) r ((ky j o, u) :: H)) = _
    rw [Nat.add_zero, lkp_putSeq_hi r (o + 1) o (by omega) (by omega), lkp_cons_self]
  | u :: r, o, H, hl, i + 1, v, h => by
    simp only [List.length_cons] at hl
    show lkp (ky j (o + (i + 1))) (putSeq j (o + 1) r ((ky j o, u) :: H)) = _
    have := putSeq_get (j := j) r (o + 1) (H := (ky j o, u) :: H) (by omega) i v (by simpa using h)
    rwa [show o + 1 + i = o + (i + 1) by omega] at this
/-- The callee's own blocks are let go. -/
theorem Sees.back3 {b1 b2 b3 : Nat} {H0 : List (Nat × Value)} {S0 : List (Nat × Slc)} {w : World} (s : Sees F w0 ((52, b3) :: (51, b2) :: (50, b1) :: B) H S w) (hl : Lim 40 B H0 S0) (hfr : ∀ k, k < 40 → ∀ o, o < 4096 → lkp (ky k o) H = lkp (ky k o) H0) : Sees F w0 B H0 S w :=
  s.to (fun k b h => by
    have hk : k < 40 := by
      rcases Nat.lt_or_ge k 40 with h' | h'
      · exact h'
      · rw [hl.b k h'] at h; cases h
    rw [lkp_cons_ne (by omega), lkp_cons_ne (by omega), lkp_cons_ne (by omega)]; exact h) (fun k o v ho h => by
    have hk : k < 40 := by
      rcases Nat.lt_or_ge k 40 with h' | h'
      · exact h'
      · rw [hl.h k h' o ho] at h; cases h
    have h1 := (hfr k hk o ho).trans h
    obtain ⟨b, e, _⟩ := s.cells k o v ho h1
    rw [lkp_cons_ne (by omega), lkp_cons_ne (by omega), lkp_cons_ne (by omega)] at e
    exact ⟨h1, by rw [e]; rfl⟩) (fun k q h => h)
theorem mem_hour' {o : Opn} (ok : OpOk o) : ∀ x ∈ hour' o, 0 ≤ x ∧ x ≤ 23 := by
  have hd := ok.d
  intro x hx
  unfold hour' at hx
  split at hx
  · split at hx
    · simp at hx; omega
    · simp at hx
  · exact ok.hours x hx
theorem mem_minute' {o : Opn} (ok : OpOk o) : ∀ x ∈ minute' o, 0 ≤ x ∧ x ≤ 59 := by
  have hd := ok.d
  intro x hx
  unfold minute' at hx
  split at hx
  · split at hx
    · simp at hx; omega
    · simp at hx
  · exact ok.minutes x hx
theorem mem_second' {o : Opn} (ok : OpOk o) : ∀ x ∈ second' o, 0 ≤ x ∧ x ≤ 59 := by
  have hd := ok.d
  intro x hx
  unfold second' at hx
  split at hx
  · split at hx
    · simp at hx; omega
    · simp at hx
  · exact ok.seconds x hx
theorem len_hour' {o : Opn} (ok : OpOk o) : (hour' o).length ≤ 400 := by
  unfold hour'; split
  · split <;> simp
  · exact ok.hour
theorem len_minute' {o : Opn} (ok : OpOk o) : (minute' o).length ≤ 400 := by
  unfold minute'; split
  · split <;> simp
  · exact ok.minute
theorem len_second' {o : Opn} (ok : OpOk o) : (second' o).length ≤ 400 := by
  unfold second'; split
  · split <;> simp
  · exact ok.second
/-- A sort of the times. -/
def SortOk (F : Nat → Prop) (w0 : World) (ts : List Int) : Prop := ∀ (B : List (Nat × Nat)) (H : List (Nat × Value)) (S : List (Nat × Slc)) (p : Option Addr) (c : Nat) (w : World), Lim 60 B H S → lkp 2 S = some ⟨.slice p ts.length c, 44, 2, ts.length, tcells ts⟩ → Sees F w0 B H S w →
  Calls Go.Proofs.Tryz.prog 41 #[.iface 98 (.slice p ts.length c)] w fun e w' => e = .returned (.tuple #[]) ∧ Sees F w0 B H ((2, ⟨.slice p ts.length c, 44, 2, ts.length, tcells (sortI ts)⟩) :: S) w'
end
end Go.Proofs.YtfcklceejjmjeaaGreat
