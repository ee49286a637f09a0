/-
  The rule that the package builds from its options, in plain words.
-/
import Derived.Test.YtfcklceejjmjeaaGreatMd
set_option linter.unusedVariables false
namespace Go.Md
/-- Options: u is the until's second, 0 if there is none. -/
structure Opn where
  freq : Int
  d : Int
  interval : Int
  wkst : Int
  count : Int
  u : Int
  setpos : List Int
  month : List Int
  mday : List Int
  yday : List Int
  weekno : List Int
  wday : List (Int × Int)
  hour : List Int
  minute : List Int
  second : List Int
  easter : List Int
def noDays (o : Opn) : Bool := o.weekno.length == 0 && o.yday.length == 0 && o.mday.length == 0 && o.wday.length == 0 && o.easter.length == 0
def month' (o : Opn) : List Int := if noDays o ∧ o.freq = 0 ∧ o.month.length = 0 then [Cal.monthOf (o.d / 86400)] else o.month
def mday' (o : Opn) : List Int := if noDays o ∧ (o.freq = 0 ∨ o.freq = 1) then [Cal.mdayOf (o.d / 86400)] else o.mday
def wday' (o : Opn) : List (Int × Int) := if noDays o ∧ o.freq = 2 then [(((o.d / 86400 + 1) % 7 + 6) % 7, 0)] else o.wday
def plainW (f : Int) (x : Int × Int) : Bool := x.2 == 0 || decide (1 < f)
def hour' (o : Opn) : List Int := if o.hour.length = 0 then (if o.freq < 4 then [o.d % 86400 / 3600] else []) else o.hour
def minute' (o : Opn) : List Int := if o.minute.length = 0 then (if o.freq < 5 then [o.d % 86400 / 60 % 60] else []) else o.minute
def second' (o : Opn) : List Int := if o.second.length = 0 then (if o.freq < 6 then [o.d % 86400 % 60] else []) else o.second
def until0 (o : Opn) : Int := if o.u = 0 then o.d + 9223372036 else o.u
def until1 (o : Opn) : Int := if o.u = 0 then 854775807 else 0
def posM (l : List Int) : List Int := l.filter fun x => decide (0 < x)
def negM (l : List Int) : List Int := l.filter fun x => decide (x < 0)
def ruOf (o : Opn) (wnoF : Int → List Int) (nwmF : Int → Int → List Int) (easF : Int → List Int) : Ru where
  freq := o.freq
  interval := o.interval
  wkst := o.wkst
  d0 := o.d
  u0 := until0 o
  u1 := until1 o
  setpos := o.setpos
  month := month' o
  mday := posM (mday' o)
  nmday := negM (mday' o)
  yday := o.yday
  weekno := o.weekno
  wday := ((wday' o).filter (plainW o.freq)).map Prod.fst
  nwd := (wday' o).filter fun x => !plainW o.freq x
  hour := hour' o
  minute := minute' o
  second := second' o
  easter := o.easter
  wnoF := wnoF
  nwmF := nwmF
  easF := easF
/-- The times of the rule's own list. -/
def raw (o : Opn) : List Int := (hour' o).flatMap fun h => (minute' o).flatMap fun m => (second' o).map fun s => h * 3600 + m * 60 + s
def tset (o : Opn) : List Int := if o.freq < 4 then sortI (raw o) else []
theorem filter_take_succ {α : Type} {p : α → Bool} {l : List α} {k : Nat} {x : α} (h : l[k]? = some x) : (l.take (k + 1)).filter p = (l.take k).filter p ++ (if p x then [x] else []) := by
  rw [List.take_add_one, h, List.filter_append]
  cases hp : p x <;> simp [hp]
end Go.Md
