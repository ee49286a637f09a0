/-
  No cell of these rows narrows 'for every input' (looked for: loops, veiled, ifaces, maps, wideKeys, modest, calm, conditions, laid).
  DERIVED. THE GIVEN ROWS OF THIS SEAT. 12 by the template 'for every input the law returns true; each argument reads behind the call as it read before'; 0 by the template 'total and deterministic' (their statements: YtdbbifbmkfmbkaaGreatTotals.lean).
  GIVEN WITH THE SEED: the statements are not yours to turn. If you find one false, say at which input.
  Laid BY PROGRAM, IN A SANDBOX (cutbox-rows.mjs): the forced cells as the released guide's own fill.sh prints them over the translation df22b7fb1a11a974… (all of the seat's roots in one cut). By AI agents, Wed Nov 11 2026. No macro, syntax, notation, axiom, sorry.
-/
import Derived.Test.YtdbbifbmkfmbkaaGreatChecked
import GoSem.Claim
import GoSem.ClaimJoined
import GoSem.ClaimMapViews
import Derived.JoinedTies
import Derived.KernelRfl
namespace Go.Proofs.YtdbbifbmkfmbkaaGreat
/- THE CELL 'sum', in the pinned program and in every row, IS THE sha256 OF THE DUMP (.gsa) THAT YtdbbifbmkfmbkaaGreatProg.lean LOADS. Nothing in Lean hashes anything: it is a label: what it is worth is what the hold of that sum in a sandbox is worth. -/
noncomputable def Tryz.pinned : Pinned := { name := "ytdbbifbmkfmbkaagreat", sum := "df22b7fb1a11a97406a2fd7d1d2915ce6e2c7498673331e10aab5809cf6410da", checked := Tryz.checked }
namespace Rows
def none {H : Type} : Left H := { results := [], args := [] }

/-- 'laws.FnStep': WHATEVER THE INPUT: true; the input reads as it did. -/
def fnStepSpec : ChangeSpec := { name := "fnStep", fn := fun _ => fun
  | [d1, d2, d3, d4] => { results := [.lit (.bool true)], args := [d1, d2, d3, d4] }
  | _ => none }
def fnStepRow : OpenClaim := { program := "ytdbbifbmkfmbkaagreat", sum := "df22b7fb1a11a97406a2fd7d1d2915ce6e2c7498673331e10aab5809cf6410da", func := "pub-ferial/laws.FnStep", spec := "fnStep", inPlace := ["math.archFloor", "math.Float64bits", "math.Float64frombits", "math.archTrunc"], unfollowed := true, recurses := true, apart := false }
def FnStepSaid : Prop := fnStepRow.holds Tryz.pinned (OpenSpec.ofChange fnStepSpec)

/-- ITS FALSE NEIGHBOUR: 'it returns false'. Refute it at one input. -/
def fnStepWrong : ChangeSpec := { name := "fnStep", fn := fun _ => fun
  | [d1, d2, d3, d4] => { results := [.lit (.bool false)], args := [d1, d2, d3, d4] }
  | _ => none }
def FnStepWrongFalsely : Prop := fnStepRow.holds Tryz.pinned (OpenSpec.ofChange fnStepWrong)

/-- 'laws.FnDaily': WHATEVER THE INPUT: true; the input reads as it did. -/
def fnDailySpec : ChangeSpec := { name := "fnDaily", fn := fun _ => fun
  | [d1, d2] => { results := [.lit (.bool true)], args := [d1, d2] }
  | _ => none }
def fnDailyRow : OpenClaim := { program := "ytdbbifbmkfmbkaagreat", sum := "df22b7fb1a11a97406a2fd7d1d2915ce6e2c7498673331e10aab5809cf6410da", func := "pub-ferial/laws.FnDaily", spec := "fnDaily", inPlace := ["math.archFloor", "math.Float64bits", "math.Float64frombits", "math.archTrunc"], unfollowed := true, recurses := true, apart := false }
def FnDailySaid : Prop := fnDailyRow.holds Tryz.pinned (OpenSpec.ofChange fnDailySpec)

/-- ITS FALSE NEIGHBOUR: 'it returns false'. Refute it at one input. -/
def fnDailyWrong : ChangeSpec := { name := "fnDaily", fn := fun _ => fun
  | [d1, d2] => { results := [.lit (.bool false)], args := [d1, d2] }
  | _ => none }
def FnDailyWrongFalsely : Prop := fnDailyRow.holds Tryz.pinned (OpenSpec.ofChange fnDailyWrong)

/-- 'laws.FnWeekly': WHATEVER THE INPUT: true; the input reads as it did. -/
def fnWeeklySpec : ChangeSpec := { name := "fnWeekly", fn := fun _ => fun
  | [d1, d2] => { results := [.lit (.bool true)], args := [d1, d2] }
  | _ => none }
def fnWeeklyRow : OpenClaim := { program := "ytdbbifbmkfmbkaagreat", sum := "df22b7fb1a11a97406a2fd7d1d2915ce6e2c7498673331e10aab5809cf6410da", func := "pub-ferial/laws.FnWeekly", spec := "fnWeekly", inPlace := ["math.archFloor", "math.Float64bits", "math.Float64frombits", "math.archTrunc"], unfollowed := true, recurses := true, apart := false }
def FnWeeklySaid : Prop := fnWeeklyRow.holds Tryz.pinned (OpenSpec.ofChange fnWeeklySpec)

/-- ITS FALSE NEIGHBOUR: 'it returns false'. Refute it at one input. -/
def fnWeeklyWrong : ChangeSpec := { name := "fnWeekly", fn := fun _ => fun
  | [d1, d2] => { results := [.lit (.bool false)], args := [d1, d2] }
  | _ => none }
def FnWeeklyWrongFalsely : Prop := fnWeeklyRow.holds Tryz.pinned (OpenSpec.ofChange fnWeeklyWrong)

/-- 'laws.FnHourly': WHATEVER THE INPUT: true; the input reads as it did. -/
def fnHourlySpec : ChangeSpec := { name := "fnHourly", fn := fun _ => fun
  | [d1, d2] => { results := [.lit (.bool true)], args := [d1, d2] }
  | _ => none }
def fnHourlyRow : OpenClaim := { program := "ytdbbifbmkfmbkaagreat", sum := "df22b7fb1a11a97406a2fd7d1d2915ce6e2c7498673331e10aab5809cf6410da", func := "pub-ferial/laws.FnHourly", spec := "fnHourly", inPlace := ["math.archFloor", "math.Float64bits", "math.Float64frombits", "math.archTrunc"], unfollowed := true, recurses := true, apart := false }
def FnHourlySaid : Prop := fnHourlyRow.holds Tryz.pinned (OpenSpec.ofChange fnHourlySpec)

/-- ITS FALSE NEIGHBOUR: 'it returns false'. Refute it at one input. -/
def fnHourlyWrong : ChangeSpec := { name := "fnHourly", fn := fun _ => fun
  | [d1, d2] => { results := [.lit (.bool false)], args := [d1, d2] }
  | _ => none }
def FnHourlyWrongFalsely : Prop := fnHourlyRow.holds Tryz.pinned (OpenSpec.ofChange fnHourlyWrong)

/-- 'laws.FnMinutely': WHATEVER THE INPUT: true; the input reads as it did. -/
def fnMinutelySpec : ChangeSpec := { name := "fnMinutely", fn := fun _ => fun
  | [d1, d2] => { results := [.lit (.bool true)], args := [d1, d2] }
  | _ => none }
def fnMinutelyRow : OpenClaim := { program := "ytdbbifbmkfmbkaagreat", sum := "df22b7fb1a11a97406a2fd7d1d2915ce6e2c7498673331e10aab5809cf6410da", func := "pub-ferial/laws.FnMinutely", spec := "fnMinutely", inPlace := ["math.archFloor", "math.Float64bits", "math.Float64frombits", "math.archTrunc"], unfollowed := true, recurses := true, apart := false }
def FnMinutelySaid : Prop := fnMinutelyRow.holds Tryz.pinned (OpenSpec.ofChange fnMinutelySpec)

/-- ITS FALSE NEIGHBOUR: 'it returns false'. Refute it at one input. -/
def fnMinutelyWrong : ChangeSpec := { name := "fnMinutely", fn := fun _ => fun
  | [d1, d2] => { results := [.lit (.bool false)], args := [d1, d2] }
  | _ => none }
def FnMinutelyWrongFalsely : Prop := fnMinutelyRow.holds Tryz.pinned (OpenSpec.ofChange fnMinutelyWrong)

/-- 'laws.FnSecondly': WHATEVER THE INPUT: true; the input reads as it did. -/
def fnSecondlySpec : ChangeSpec := { name := "fnSecondly", fn := fun _ => fun
  | [d1, d2] => { results := [.lit (.bool true)], args := [d1, d2] }
  | _ => none }
def fnSecondlyRow : OpenClaim := { program := "ytdbbifbmkfmbkaagreat", sum := "df22b7fb1a11a97406a2fd7d1d2915ce6e2c7498673331e10aab5809cf6410da", func := "pub-ferial/laws.FnSecondly", spec := "fnSecondly", inPlace := ["math.archFloor", "math.Float64bits", "math.Float64frombits", "math.archTrunc"], unfollowed := true, recurses := true, apart := false }
def FnSecondlySaid : Prop := fnSecondlyRow.holds Tryz.pinned (OpenSpec.ofChange fnSecondlySpec)

/-- ITS FALSE NEIGHBOUR: 'it returns false'. Refute it at one input. -/
def fnSecondlyWrong : ChangeSpec := { name := "fnSecondly", fn := fun _ => fun
  | [d1, d2] => { results := [.lit (.bool false)], args := [d1, d2] }
  | _ => none }
def FnSecondlyWrongFalsely : Prop := fnSecondlyRow.holds Tryz.pinned (OpenSpec.ofChange fnSecondlyWrong)

/-- 'laws.FnRising': WHATEVER THE INPUT: true; the input reads as it did. -/
def fnRisingSpec : ChangeSpec := { name := "fnRising", fn := fun _ => fun
  | [d] => { results := [.lit (.bool true)], args := [d] }
  | _ => none }
def fnRisingRow : OpenClaim := { program := "ytdbbifbmkfmbkaagreat", sum := "df22b7fb1a11a97406a2fd7d1d2915ce6e2c7498673331e10aab5809cf6410da", func := "pub-ferial/laws.FnRising", spec := "fnRising", inPlace := ["math.archFloor", "math.Float64bits", "math.Float64frombits", "math.archTrunc"], unfollowed := true, recurses := true, apart := false }
def FnRisingSaid : Prop := fnRisingRow.holds Tryz.pinned (OpenSpec.ofChange fnRisingSpec)

/-- ITS FALSE NEIGHBOUR: 'it returns false'. Refute it at one input. -/
def fnRisingWrong : ChangeSpec := { name := "fnRising", fn := fun _ => fun
  | [d] => { results := [.lit (.bool false)], args := [d] }
  | _ => none }
def FnRisingWrongFalsely : Prop := fnRisingRow.holds Tryz.pinned (OpenSpec.ofChange fnRisingWrong)

/-- 'laws.FnWeekBegins': WHATEVER THE INPUT: true; the input reads as it did. -/
def fnWeekBeginsSpec : ChangeSpec := { name := "fnWeekBegins", fn := fun _ => fun
  | [d1, d2] => { results := [.lit (.bool true)], args := [d1, d2] }
  | _ => none }
def fnWeekBeginsRow : OpenClaim := { program := "ytdbbifbmkfmbkaagreat", sum := "df22b7fb1a11a97406a2fd7d1d2915ce6e2c7498673331e10aab5809cf6410da", func := "pub-ferial/laws.FnWeekBegins", spec := "fnWeekBegins", inPlace := ["math.archFloor", "math.Float64bits", "math.Float64frombits", "math.archTrunc"], unfollowed := true, recurses := true, apart := false }
def FnWeekBeginsSaid : Prop := fnWeekBeginsRow.holds Tryz.pinned (OpenSpec.ofChange fnWeekBeginsSpec)

/-- ITS FALSE NEIGHBOUR: 'it returns false'. Refute it at one input. -/
def fnWeekBeginsWrong : ChangeSpec := { name := "fnWeekBegins", fn := fun _ => fun
  | [d1, d2] => { results := [.lit (.bool false)], args := [d1, d2] }
  | _ => none }
def FnWeekBeginsWrongFalsely : Prop := fnWeekBeginsRow.holds Tryz.pinned (OpenSpec.ofChange fnWeekBeginsWrong)

/-- 'laws.FnMoved': WHATEVER THE INPUT: true; the input reads as it did. -/
def fnMovedSpec : ChangeSpec := { name := "fnMoved", fn := fun _ => fun
  | [d1, d2] => { results := [.lit (.bool true)], args := [d1, d2] }
  | _ => none }
def fnMovedRow : OpenClaim := { program := "ytdbbifbmkfmbkaagreat", sum := "df22b7fb1a11a97406a2fd7d1d2915ce6e2c7498673331e10aab5809cf6410da", func := "pub-ferial/laws.FnMoved", spec := "fnMoved", inPlace := ["math.archFloor", "math.Float64bits", "math.Float64frombits", "math.archTrunc"], unfollowed := true, recurses := true, apart := false }
def FnMovedSaid : Prop := fnMovedRow.holds Tryz.pinned (OpenSpec.ofChange fnMovedSpec)

/-- ITS FALSE NEIGHBOUR: 'it returns false'. Refute it at one input. -/
def fnMovedWrong : ChangeSpec := { name := "fnMoved", fn := fun _ => fun
  | [d1, d2] => { results := [.lit (.bool false)], args := [d1, d2] }
  | _ => none }
def FnMovedWrongFalsely : Prop := fnMovedRow.holds Tryz.pinned (OpenSpec.ofChange fnMovedWrong)

/-- 'laws.FnRest': WHATEVER THE INPUT: true; the input reads as it did. -/
def fnRestSpec : ChangeSpec := { name := "fnRest", fn := fun _ => fun
  | [d1, d2] => { results := [.lit (.bool true)], args := [d1, d2] }
  | _ => none }
def fnRestRow : OpenClaim := { program := "ytdbbifbmkfmbkaagreat", sum := "df22b7fb1a11a97406a2fd7d1d2915ce6e2c7498673331e10aab5809cf6410da", func := "pub-ferial/laws.FnRest", spec := "fnRest", inPlace := ["math.archFloor", "math.Float64bits", "math.Float64frombits", "math.archTrunc"], unfollowed := true, recurses := true, apart := false }
def FnRestSaid : Prop := fnRestRow.holds Tryz.pinned (OpenSpec.ofChange fnRestSpec)

/-- ITS FALSE NEIGHBOUR: 'it returns false'. Refute it at one input. -/
def fnRestWrong : ChangeSpec := { name := "fnRest", fn := fun _ => fun
  | [d1, d2] => { results := [.lit (.bool false)], args := [d1, d2] }
  | _ => none }
def FnRestWrongFalsely : Prop := fnRestRow.holds Tryz.pinned (OpenSpec.ofChange fnRestWrong)

/-- 'laws.FnRuleYearly': WHATEVER THE INPUT: true; the input reads as it did. -/
def fnRuleYearlySpec : ChangeSpec := { name := "fnRuleYearly", fn := fun _ => fun
  | [d1, d2] => { results := [.lit (.bool true)], args := [d1, d2] }
  | _ => none }
def fnRuleYearlyRow : OpenClaim := { program := "ytdbbifbmkfmbkaagreat", sum := "df22b7fb1a11a97406a2fd7d1d2915ce6e2c7498673331e10aab5809cf6410da", func := "pub-ferial/laws.FnRuleYearly", spec := "fnRuleYearly", inPlace := ["math.archFloor", "math.Float64bits", "math.Float64frombits", "math.archTrunc"], unfollowed := true, recurses := true, apart := false }
def FnRuleYearlySaid : Prop := fnRuleYearlyRow.holds Tryz.pinned (OpenSpec.ofChange fnRuleYearlySpec)

/-- ITS FALSE NEIGHBOUR: 'it returns false'. Refute it at one input. -/
def fnRuleYearlyWrong : ChangeSpec := { name := "fnRuleYearly", fn := fun _ => fun
  | [d1, d2] => { results := [.lit (.bool false)], args := [d1, d2] }
  | _ => none }
def FnRuleYearlyWrongFalsely : Prop := fnRuleYearlyRow.holds Tryz.pinned (OpenSpec.ofChange fnRuleYearlyWrong)

/-- 'laws.FnRuleMonthly': WHATEVER THE INPUT: true; the input reads as it did. -/
def fnRuleMonthlySpec : ChangeSpec := { name := "fnRuleMonthly", fn := fun _ => fun
  | [d1, d2] => { results := [.lit (.bool true)], args := [d1, d2] }
  | _ => none }
def fnRuleMonthlyRow : OpenClaim := { program := "ytdbbifbmkfmbkaagreat", sum := "df22b7fb1a11a97406a2fd7d1d2915ce6e2c7498673331e10aab5809cf6410da", func := "pub-ferial/laws.FnRuleMonthly", spec := "fnRuleMonthly", inPlace := ["math.archFloor", "math.Float64bits", "math.Float64frombits", "math.archTrunc"], unfollowed := true, recurses := true, apart := false }
def FnRuleMonthlySaid : Prop := fnRuleMonthlyRow.holds Tryz.pinned (OpenSpec.ofChange fnRuleMonthlySpec)

/-- ITS FALSE NEIGHBOUR: 'it returns false'. Refute it at one input. -/
def fnRuleMonthlyWrong : ChangeSpec := { name := "fnRuleMonthly", fn := fun _ => fun
  | [d1, d2] => { results := [.lit (.bool false)], args := [d1, d2] }
  | _ => none }
def FnRuleMonthlyWrongFalsely : Prop := fnRuleMonthlyRow.holds Tryz.pinned (OpenSpec.ofChange fnRuleMonthlyWrong)

/- THE SECOND FORM. 'bulk': how many values and letters a reading holds, each counted each time it is reached (what is shared counts as often as it is met; a slice's spare places count too). A statement '..UptoSaid' is the law's where the arguments, and the package variables that the reading takes, are together of bulk at most 1048576: NARROWER than '..Said'. Prove '..Said' where nothing that the law and all that it calls make is longer than what came in: it says more and counts as full. Else prove '..UptoSaid'. A law counts once. -/
mutual
def uptoBulk {H : Type} : DataW H → Nat
  | .lit (.string bytes) => bytes.length + 1
  | .lit _ => 1
  | .nil => 1
  | .ptr d => uptoBulk d + 1
  | .slice elems spare => uptoBulkAll elems + uptoBulkAll spare + 1
  | .agg parts => uptoBulkAll parts + 1
  | .iface _ d => uptoBulk d + 1
  | .map entries => uptoBulkEntries entries + 1
  | .held _ => 1
def uptoBulkAll {H : Type} : List (DataW H) → Nat
  | [] => 0
  | d :: r => uptoBulk d + uptoBulkAll r
def uptoBulkEntries {H : Type} : List (Lit × DataW H) → Nat
  | [] => 0
  | x :: r => uptoBulkEntry x + uptoBulkEntries r
def uptoBulkEntry {H : Type} : Lit × DataW H → Nat
  | (.string bytes, d) => bytes.length + uptoBulk d + 1
  | (_, d) => uptoBulk d + 1
 end
def uptoSmall : (H : Type) → List (DataW H) → Bool := fun _ ds => decide (uptoBulkAll ds ≤ 1048576)
def OpenSpec.upto (s : _root_.Go.ChangeSpec) : _root_.Go.OpenSpec := { _root_.Go.OpenSpec.ofChange s with cond := some uptoSmall }

/-- 'laws.FnStep', WHERE WHAT IT READS IS OF BULK AT MOST 1048576: true; the input reads as it did. -/
def fnStepUptoRow : OpenClaim := { program := "ytdbbifbmkfmbkaagreat", sum := "df22b7fb1a11a97406a2fd7d1d2915ce6e2c7498673331e10aab5809cf6410da", func := "pub-ferial/laws.FnStep", spec := "fnStep", inPlace := ["math.archFloor", "math.Float64bits", "math.Float64frombits", "math.archTrunc"], unfollowed := true, recurses := true, apart := false, narrowed := true }
def FnStepUptoSaid : Prop := fnStepUptoRow.holds Tryz.pinned (OpenSpec.upto fnStepSpec)

/-- 'laws.FnDaily', WHERE WHAT IT READS IS OF BULK AT MOST 1048576: true; the input reads as it did. -/
def fnDailyUptoRow : OpenClaim := { program := "ytdbbifbmkfmbkaagreat", sum := "df22b7fb1a11a97406a2fd7d1d2915ce6e2c7498673331e10aab5809cf6410da", func := "pub-ferial/laws.FnDaily", spec := "fnDaily", inPlace := ["math.archFloor", "math.Float64bits", "math.Float64frombits", "math.archTrunc"], unfollowed := true, recurses := true, apart := false, narrowed := true }
def FnDailyUptoSaid : Prop := fnDailyUptoRow.holds Tryz.pinned (OpenSpec.upto fnDailySpec)

/-- 'laws.FnWeekly', WHERE WHAT IT READS IS OF BULK AT MOST 1048576: true; the input reads as it did. -/
def fnWeeklyUptoRow : OpenClaim := { program := "ytdbbifbmkfmbkaagreat", sum := "df22b7fb1a11a97406a2fd7d1d2915ce6e2c7498673331e10aab5809cf6410da", func := "pub-ferial/laws.FnWeekly", spec := "fnWeekly", inPlace := ["math.archFloor", "math.Float64bits", "math.Float64frombits", "math.archTrunc"], unfollowed := true, recurses := true, apart := false, narrowed := true }
def FnWeeklyUptoSaid : Prop := fnWeeklyUptoRow.holds Tryz.pinned (OpenSpec.upto fnWeeklySpec)

/-- 'laws.FnHourly', WHERE WHAT IT READS IS OF BULK AT MOST 1048576: true; the input reads as it did. -/
def fnHourlyUptoRow : OpenClaim := { program := "ytdbbifbmkfmbkaagreat", sum := "df22b7fb1a11a97406a2fd7d1d2915ce6e2c7498673331e10aab5809cf6410da", func := "pub-ferial/laws.FnHourly", spec := "fnHourly", inPlace := ["math.archFloor", "math.Float64bits", "math.Float64frombits", "math.archTrunc"], unfollowed := true, recurses := true, apart := false, narrowed := true }
def FnHourlyUptoSaid : Prop := fnHourlyUptoRow.holds Tryz.pinned (OpenSpec.upto fnHourlySpec)

/-- 'laws.FnMinutely', WHERE WHAT IT READS IS OF BULK AT MOST 1048576: true; the input reads as it did. -/
def fnMinutelyUptoRow : OpenClaim := { program := "ytdbbifbmkfmbkaagreat", sum := "df22b7fb1a11a97406a2fd7d1d2915ce6e2c7498673331e10aab5809cf6410da", func := "pub-ferial/laws.FnMinutely", spec := "fnMinutely", inPlace := ["math.archFloor", "math.Float64bits", "math.Float64frombits", "math.archTrunc"], unfollowed := true, recurses := true, apart := false, narrowed := true }
def FnMinutelyUptoSaid : Prop := fnMinutelyUptoRow.holds Tryz.pinned (OpenSpec.upto fnMinutelySpec)

/-- 'laws.FnSecondly', WHERE WHAT IT READS IS OF BULK AT MOST 1048576: true; the input reads as it did. -/
def fnSecondlyUptoRow : OpenClaim := { program := "ytdbbifbmkfmbkaagreat", sum := "df22b7fb1a11a97406a2fd7d1d2915ce6e2c7498673331e10aab5809cf6410da", func := "pub-ferial/laws.FnSecondly", spec := "fnSecondly", inPlace := ["math.archFloor", "math.Float64bits", "math.Float64frombits", "math.archTrunc"], unfollowed := true, recurses := true, apart := false, narrowed := true }
def FnSecondlyUptoSaid : Prop := fnSecondlyUptoRow.holds Tryz.pinned (OpenSpec.upto fnSecondlySpec)

/-- 'laws.FnRising', WHERE WHAT IT READS IS OF BULK AT MOST 1048576: true; the input reads as it did. -/
def fnRisingUptoRow : OpenClaim := { program := "ytdbbifbmkfmbkaagreat", sum := "df22b7fb1a11a97406a2fd7d1d2915ce6e2c7498673331e10aab5809cf6410da", func := "pub-ferial/laws.FnRising", spec := "fnRising", inPlace := ["math.archFloor", "math.Float64bits", "math.Float64frombits", "math.archTrunc"], unfollowed := true, recurses := true, apart := false, narrowed := true }
def FnRisingUptoSaid : Prop := fnRisingUptoRow.holds Tryz.pinned (OpenSpec.upto fnRisingSpec)

/-- 'laws.FnWeekBegins', WHERE WHAT IT READS IS OF BULK AT MOST 1048576: true; the input reads as it did. -/
def fnWeekBeginsUptoRow : OpenClaim := { program := "ytdbbifbmkfmbkaagreat", sum := "df22b7fb1a11a97406a2fd7d1d2915ce6e2c7498673331e10aab5809cf6410da", func := "pub-ferial/laws.FnWeekBegins", spec := "fnWeekBegins", inPlace := ["math.archFloor", "math.Float64bits", "math.Float64frombits", "math.archTrunc"], unfollowed := true, recurses := true, apart := false, narrowed := true }
def FnWeekBeginsUptoSaid : Prop := fnWeekBeginsUptoRow.holds Tryz.pinned (OpenSpec.upto fnWeekBeginsSpec)

/-- 'laws.FnMoved', WHERE WHAT IT READS IS OF BULK AT MOST 1048576: true; the input reads as it did. -/
def fnMovedUptoRow : OpenClaim := { program := "ytdbbifbmkfmbkaagreat", sum := "df22b7fb1a11a97406a2fd7d1d2915ce6e2c7498673331e10aab5809cf6410da", func := "pub-ferial/laws.FnMoved", spec := "fnMoved", inPlace := ["math.archFloor", "math.Float64bits", "math.Float64frombits", "math.archTrunc"], unfollowed := true, recurses := true, apart := false, narrowed := true }
def FnMovedUptoSaid : Prop := fnMovedUptoRow.holds Tryz.pinned (OpenSpec.upto fnMovedSpec)

/-- 'laws.FnRest', WHERE WHAT IT READS IS OF BULK AT MOST 1048576: true; the input reads as it did. -/
def fnRestUptoRow : OpenClaim := { program := "ytdbbifbmkfmbkaagreat", sum := "df22b7fb1a11a97406a2fd7d1d2915ce6e2c7498673331e10aab5809cf6410da", func := "pub-ferial/laws.FnRest", spec := "fnRest", inPlace := ["math.archFloor", "math.Float64bits", "math.Float64frombits", "math.archTrunc"], unfollowed := true, recurses := true, apart := false, narrowed := true }
def FnRestUptoSaid : Prop := fnRestUptoRow.holds Tryz.pinned (OpenSpec.upto fnRestSpec)

/-- 'laws.FnRuleYearly', WHERE WHAT IT READS IS OF BULK AT MOST 1048576: true; the input reads as it did. -/
def fnRuleYearlyUptoRow : OpenClaim := { program := "ytdbbifbmkfmbkaagreat", sum := "df22b7fb1a11a97406a2fd7d1d2915ce6e2c7498673331e10aab5809cf6410da", func := "pub-ferial/laws.FnRuleYearly", spec := "fnRuleYearly", inPlace := ["math.archFloor", "math.Float64bits", "math.Float64frombits", "math.archTrunc"], unfollowed := true, recurses := true, apart := false, narrowed := true }
def FnRuleYearlyUptoSaid : Prop := fnRuleYearlyUptoRow.holds Tryz.pinned (OpenSpec.upto fnRuleYearlySpec)

/-- 'laws.FnRuleMonthly', WHERE WHAT IT READS IS OF BULK AT MOST 1048576: true; the input reads as it did. -/
def fnRuleMonthlyUptoRow : OpenClaim := { program := "ytdbbifbmkfmbkaagreat", sum := "df22b7fb1a11a97406a2fd7d1d2915ce6e2c7498673331e10aab5809cf6410da", func := "pub-ferial/laws.FnRuleMonthly", spec := "fnRuleMonthly", inPlace := ["math.archFloor", "math.Float64bits", "math.Float64frombits", "math.archTrunc"], unfollowed := true, recurses := true, apart := false, narrowed := true }
def FnRuleMonthlyUptoSaid : Prop := fnRuleMonthlyUptoRow.holds Tryz.pinned (OpenSpec.upto fnRuleMonthlySpec)

end Rows
end Go.Proofs.YtdbbifbmkfmbkaaGreat
