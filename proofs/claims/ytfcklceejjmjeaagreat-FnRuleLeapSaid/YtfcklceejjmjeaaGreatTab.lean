/-
  The tables of the days of a year, as the package makes them: the month, the day of the month from its begin and from its end, the day of the week; a week more than the year has.
-/
import Derived.Test.YtfcklceejjmjeaaGreatCal
set_option linter.unusedVariables false
namespace Go.Tab
def mm366 : List Int := List.replicate 31 1 ++ List.replicate 29 2 ++ List.replicate 31 3 ++ List.replicate 30 4 ++ List.replicate 31 5 ++ List.replicate 30 6 ++ List.replicate 31 7 ++ List.replicate 31 8 ++ List.replicate 30 9 ++ List.replicate 31 10 ++ List.replicate 30 11 ++ List.replicate 31 12 ++ List.replicate 7 1
def md366 : List Int := ((List.range 31).map fun (j : Nat) => (1 : Int) + (j : Int)) ++ ((List.range 29).map fun (j : Nat) => (1 : Int) + (j : Int)) ++ ((List.range 31).map fun (j : Nat) => (1 : Int) + (j : Int)) ++ ((List.range 30).map fun (j : Nat) => (1 : Int) + (j : Int)) ++ ((List.range 31).map fun (j : Nat) => (1 : Int) + (j : Int)) ++ ((List.range 30).map fun (j : Nat) => (1 : Int) + (j : Int)) ++ ((List.range 31).map fun (j : Nat) => (1 : Int) + (j : Int)) ++ ((List.range 31).map fun (j : Nat) => (1 : Int) + (j : Int)) ++ ((List.range 30).map fun (j : Nat) => (1 : Int) + (j : Int)) ++ ((List.range 31).map fun (j : Nat) => (1 : Int) + (j : Int)) ++ ((List.range 30).map fun (j : Nat) => (1 : Int) + (j : Int)) ++ ((List.range 31).map fun (j : Nat) => (1 : Int) + (j : Int)) ++ ((List.range 31).map fun (j : Nat) => (1 : Int) + (j : Int)).take 7
def nmd366 : List Int := ((List.range 31).map fun (j : Nat) => (-31 : Int) + (j : Int)) ++ ((List.range 29).map fun (j : Nat) => (-29 : Int) + (j : Int)) ++ ((List.range 31).map fun (j : Nat) => (-31 : Int) + (j : Int)) ++ ((List.range 30).map fun (j : Nat) => (-30 : Int) + (j : Int)) ++ ((List.range 31).map fun (j : Nat) => (-31 : Int) + (j : Int)) ++ ((List.range 30).map fun (j : Nat) => (-30 : Int) + (j : Int)) ++ ((List.range 31).map fun (j : Nat) => (-31 : Int) + (j : Int)) ++ ((List.range 31).map fun (j : Nat) => (-31 : Int) + (j : Int)) ++ ((List.range 30).map fun (j : Nat) => (-30 : Int) + (j : Int)) ++ ((List.range 31).map fun (j : Nat) => (-31 : Int) + (j : Int)) ++ ((List.range 30).map fun (j : Nat) => (-30 : Int) + (j : Int)) ++ ((List.range 31).map fun (j : Nat) => (-31 : Int) + (j : Int)) ++ ((List.range 31).map fun (j : Nat) => (-31 : Int) + (j : Int)).take 7
def mm365 : List Int := mm366.take 59 ++ mm366.drop 60
def md365 : List Int := md366.take 59 ++ md366.drop 60
def nmd365 : List Int := nmd366.take 31 ++ nmd366.drop 32
def wd (k : Nat) : List Int := (List.replicate k [0, 1, 2, 3, 4, 5, 6]).flatten
def mmY (y : Int) : List Int := if Cal.leapB y then mm366 else mm365
def mdY (y : Int) : List Int := if Cal.leapB y then md366 else md365
def nmdY (y : Int) : List Int := if Cal.leapB y then nmd366 else nmd365
def rgY (y : Int) : List Int := if Cal.leapB y then [0, 31, 60, 91, 121, 152, 182, 213, 244, 274, 305, 335, 366] else [0, 31, 59, 90, 120, 151, 181, 212, 243, 273, 304, 334, 365]
def nY (y : Int) : Nat := if Cal.leapB y then 373 else 372
def ywd (y : Int) : Int := Cal.daysTo y % 7
end Go.Tab
