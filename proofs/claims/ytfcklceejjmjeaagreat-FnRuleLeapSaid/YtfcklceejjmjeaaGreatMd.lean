/-
  What the iterator does, in plain words: a rule's numbers, the iterator's numbers, a round.
-/
import Derived.Test.YtfcklceejjmjeaaGreatTab
set_option linter.unusedVariables false
namespace Go.Md
open Go.Tab

/-- A rule as the package holds it; the functions of a year (and a month) are the tables of weeks, of numbered days of the week, and of days from Easter. -/
structure Ru where
  freq : Int
  interval : Int
  wkst : Int
  d0 : Int
  u0 : Int
  u1 : Int
  setpos : List Int
  month : List Int
  mday : List Int
  nmday : List Int
  yday : List Int
  weekno : List Int
  wday : List Int
  nwd : List (Int × Int)
  hour : List Int
  minute : List Int
  second : List Int
  easter : List Int
  wnoF : Int → List Int
  nwmF : Int → Int → List Int
  easF : Int → List Int
structure It where
  y : Int
  mo : Int
  d : Int
  h : Int
  mi : Int
  s : Int
  wd : Int
  ly : Int
  lm : Int
  wno : List Int
  nwm : List Int
  eas : List Int
  ts : List Int
  total : Int
  count : Int
  rem : List Int
  fin : Bool

/-! ### The days that are left out -/
def badA (month : List Int) (y i : Int) : Bool := month.length != 0 && !(month.any (· == (mmY y).getD i.toNat 0))
def badB (weekno wno : List Int) (i : Int) : Bool := weekno.length != 0 && wno.getD i.toNat 0 == 0
def badC (wday : List Int) (y i : Int) : Bool := wday.length != 0 && !(wday.any (· == (ywd y + i) % 7))
def badD (nwm : List Int) (i : Int) : Bool := nwm.length != 0 && nwm.getD i.toNat 0 == 0
def badE (easter eas : List Int) (i : Int) : Bool := easter.length != 0 && eas.getD i.toNat 0 == 0
def badF (mday nmday : List Int) (y i : Int) : Bool := (mday.length != 0 || nmday.length != 0) && !(mday.any (· == (mdY y).getD i.toNat 0)) && !(nmday.any (· == (nmdY y).getD i.toNat 0))
def badG (yday : List Int) (y i : Int) : Bool := yday.length != 0 &&
  ((decide (i < 365 + Cal.lp y) && !(yday.any (· == i + 1)) && !(yday.any (· == -(365 + Cal.lp y) + i))) ||
   (decide (365 + Cal.lp y ≤ i) && !(yday.any (· == i + 1 - (365 + Cal.lp y))) && !(yday.any (· == -(365 + Cal.lp (y + 1)) + i - (365 + Cal.lp y)))))
def bad (r : Ru) (it : It) (i : Int) : Bool := badA r.month it.ly i || badB r.weekno it.wno i || badC r.wday it.ly i || badD it.nwm i || badE r.easter it.eas i || badF r.mday r.nmday it.ly i || badG r.yday it.ly i

/-! ### The dates of a period -/
def span (r : Ru) (it : It) : Int × Int :=
  if r.freq = 0 then (0, 365 + Cal.lp it.ly)
  else if r.freq = 1 then ((rgY it.ly).getD (it.mo - 1).toNat 0, (rgY it.ly).getD it.mo.toNat 0)
  else
    let i := Cal.ydayOf (Cal.dayNo it.y it.mo it.d)
    if r.freq = 2 then (i, i + 1 + (r.wkst - ywd it.ly - i - 1) % 7) else (i, i + 1)
def cand (ts : List Int) (ly i : Int) : List Int := ts.map fun t => (Cal.daysTo ly + i) * 86400 + t
def emit (r : Ru) (it : It) (t : Int) : It :=
  if it.fin then it
  else if r.u0 < t then { it with fin := true }
  else if t < r.d0 then it
  else if it.count = 0 then { it with total := it.total + 1, rem := it.rem ++ [t] }
  else { it with total := it.total + 1, rem := it.rem ++ [t], count := it.count - 1, fin := it.count - 1 == 0 }
def emits (r : Ru) (it : It) (l : List Int) : It := l.foldl (emit r) it
def outDay (r : Ru) (it : It) (i : Int) : It := if bad r it i then it else emits r it (cand it.ts it.ly i)
def outDays (r : Ru) (it : It) : It := (List.range ((span r it).2 - (span r it).1).toNat).foldl (fun o (k : Nat) => outDay r o ((span r it).1 + k)) it
/-- The days that are in. -/
def daysIn (r : Ru) (it : It) : List Int := ((List.range ((span r it).2 - (span r it).1).toNat).map fun (k : Nat) => (span r it).1 + (k : Int)).filter fun i => !bad r it i
def posAt (r : Ru) (it : It) (pos : Int) : Option Int :=
  let n : Int := it.ts.length
  let p := if pos < 0 then pos else pos - 1
  let ds := daysIn r it
  let q := if p / n < 0 then p / n + ds.length else p / n
  if q < 0 then none else (ds[q.toNat]?).map fun i => (Cal.daysTo it.ly + i) * 86400 + it.ts.getD (p % n).toNat 0
def addNew (l : List Int) (t : Option Int) : List Int := match t with
  | some x => if l.any (· == x) then l else l ++ [x]
  | none => l
def poslist (r : Ru) (it : It) : List Int := r.setpos.foldl (fun l p => addNew l (posAt r it p)) []
def sortI (l : List Int) : List Int := l.mergeSort (fun a b => decide (a ≤ b))
def out (r : Ru) (it : It) : It := if r.setpos.length ≠ 0 ∧ it.ts.length ≠ 0 then emits r it (sortI (poslist r it)) else outDays r it
def filtered (r : Ru) (it : It) : Bool := (List.range ((span r it).2 - (span r it).1).toNat).any fun (k : Nat) => bad r it ((span r it).1 + k)

/-! ### The next period -/
/-- The tables, made anew as far as the package does. -/
def reb (r : Ru) (it : It) (y m : Int) : It := { it with ly := y, lm := m, wno := if y = it.ly then it.wno else r.wnoF y, nwm := if y = it.ly ∧ m = it.lm then it.nwm else r.nwmF y m, eas := r.easF y }
def fixGo (r : Ru) : Nat → It → It
  | 0, it => it
  | n + 1, it =>
    if it.d ≤ Cal.mdays it.mo it.y then reb r it it.y it.mo
    else if it.mo + 1 = 13 then
      if 9999 < it.y + 1 then { it with d := it.d - Cal.mdays it.mo it.y, mo := 1, y := it.y + 1, fin := true }
      else fixGo r n { it with d := it.d - Cal.mdays it.mo it.y, mo := 1, y := it.y + 1 }
    else fixGo r n { it with d := it.d - Cal.mdays it.mo it.y, mo := it.mo + 1 }
def fix (r : Ru) (it : It) : It := if it.d ≤ 28 ∨ it.d ≤ Cal.mdays it.mo it.y then it else fixGo r it.d.toNat it
/-- The times of a day that are told. -/
def tsOf (hs ms ss : List Int) : List Int := sortI (hs.flatMap fun h => ms.flatMap fun m => ss.map fun s => h * 3600 + m * 60 + s)
def slots (f : Int) : Int := if f = 4 then 24 else if f = 5 then 1440 else 86400
def slotOf (f : Int) (it : It) : Int := if f = 4 then it.h else if f = 5 then it.h * 60 + it.mi else it.h * 3600 + it.mi * 60 + it.s
def setSlot (f : Int) (it : It) (t : Int) : It := if f = 4 then { it with h := t } else if f = 5 then { it with h := t / 60, mi := t % 60 } else { it with h := t / 3600, mi := t / 60 % 60, s := t % 60 }
def amongB (l : List Int) (x : Int) : Bool := l.length == 0 || l.any (· == x)
def okSlot (r : Ru) (it : It) : Bool := amongB r.hour it.h && (decide (r.freq < 5) || amongB r.minute it.mi) && (decide (r.freq < 6) || amongB r.second it.s)
def fill (r : Ru) (it : It) : List Int := if r.freq = 4 then tsOf [it.h] r.minute r.second else if r.freq = 5 then tsOf [it.h] [it.mi] r.second else [it.h * 3600 + it.mi * 60 + it.s]
def firstK (p : Nat → Bool) : Nat → Nat → Option Nat
  | 0, _ => none
  | f + 1, k => if p k then some k else firstK p f (k + 1)
/-- The slot ahead of those that are looked at. -/
def slot0 (r : Ru) (flt : Bool) (it : It) : Int := slotOf r.freq it + if flt then (slots r.freq - 1 - slotOf r.freq it) / r.interval * r.interval else 0
def slotsTo (r : Ru) (flt : Bool) (it : It) : Option Nat := firstK (fun k => okSlot r (setSlot r.freq it ((slot0 r flt it + k * r.interval) % slots r.freq))) 100000 1
def advT (r : Ru) (flt : Bool) (it : It) : It :=
  let t := slot0 r flt it + ((slotsTo r flt it).getD 1 : Nat) * r.interval
  let n := setSlot r.freq it (t % slots r.freq)
  fix r { n with d := it.d + t / slots r.freq, ts := fill r n }
def adv (r : Ru) (flt : Bool) (it : It) : It :=
  if r.freq = 0 then
    if 9999 < it.y + r.interval then { it with y := it.y + r.interval, fin := true }
    else reb r { it with y := it.y + r.interval } (it.y + r.interval) it.mo
  else if r.freq = 1 then
    let m := it.mo + r.interval
    let mo := if m ≤ 12 then m else if m % 12 = 0 then 12 else m % 12
    let y := if m ≤ 12 then it.y else if m % 12 = 0 then it.y + m / 12 - 1 else it.y + m / 12
    if 9999 < y then { it with y := y, mo := mo, fin := true } else reb r { it with y := y, mo := mo } y mo
  else if r.freq = 2 then
    fix r { it with d := it.d + (if it.wd < r.wkst then -(it.wd + 1 + (6 - r.wkst)) + r.interval * 7 else -(it.wd - r.wkst) + r.interval * 7), wd := r.wkst }
  else if r.freq = 3 then fix r { it with d := it.d + r.interval }
  else advT r flt it
def round (r : Ru) (it : It) : It := if (out r it).fin then out r it else adv r (filtered r it) (out r it)
/-- So many rounds, until there is something to tell, or nothing any more. -/
inductive Gen (r : Ru) : Nat → It → It → Prop
  | done {n : Nat} {it : It} (h : it.rem ≠ []) : Gen r n it it
  | fin {n : Nat} {it : It} (h : it.rem = []) (hf : (round r it).fin = true) : Gen r (n + 1) it (round r it)
  | more {n : Nat} {it it' : It} (h : it.rem = []) (hf : (round r it).fin = false) (hn : Gen r n (round r it) it') : Gen r (n + 1) it it'
end Go.Md
