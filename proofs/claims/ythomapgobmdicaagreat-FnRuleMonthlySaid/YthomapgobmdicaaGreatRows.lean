/-
  No cell of these rows narrows 'for every input' (looked for: loops, veiled, ifaces, maps, wideKeys, modest, calm, conditions, laid).
  DERIVED. THE GIVEN ROWS OF THIS SEAT. 12 by the template 'for every input the law returns true; each argument reads behind the call as it read before'; 0 by the template 'total and deterministic' (their statements: YthomapgobmdicaaGreatTotals.lean).
  GIVEN WITH THE SEED: the statements are not yours to turn. If you find one false, say at which input.
  Laid BY PROGRAM, IN A SANDBOX (cutbox-rows.mjs): the forced cells as the released guide's own fill.sh prints them over the translation a735f9a2ecc44855… (all of the seat's roots in one cut). By AI agents, Wed Nov 11 2026. No macro, syntax, notation, axiom, sorry.
-/
import Derived.Test.YthomapgobmdicaaGreatChecked
import GoSem.Claim
import GoSem.ClaimJoined
import GoSem.ClaimMapViews
import Derived.JoinedTies
import Derived.KernelRfl
namespace Go.Proofs.YthomapgobmdicaaGreat
/- THE CELL 'sum', in the pinned program and in every row, IS THE sha256 OF THE DUMP (.gsa) THAT YthomapgobmdicaaGreatProg.lean LOADS. Nothing in Lean hashes anything: it is a label: what it is worth is what the hold of that sum in a sandbox is worth. -/
noncomputable def Tryz.pinned : Pinned := { name := "ythomapgobmdicaagreat", sum := "a735f9a2ecc448551f2d55dcc4bdcbe4a4602f49721651040d0556cc714b5a1a", checked := Tryz.checked }
namespace Rows
def none {H : Type} : Left H := { results := [], args := [] }

/-- 'laws.FnRising': WHATEVER THE INPUT: true; the input reads as it did. -/
def fnRisingSpec : ChangeSpec := { name := "fnRising", fn := fun _ => fun
  | [d] => { results := [.lit (.bool true)], args := [d] }
  | _ => none }
def fnRisingRow : OpenClaim := { program := "ythomapgobmdicaagreat", sum := "a735f9a2ecc448551f2d55dcc4bdcbe4a4602f49721651040d0556cc714b5a1a", func := "pub-ferial/laws.FnRising", spec := "fnRising", inPlace := ["math.archFloor", "math.Float64bits", "math.Float64frombits", "math.archTrunc"], unfollowed := true, recurses := true, apart := false }
def FnRisingSaid : Prop := fnRisingRow.holds Tryz.pinned (OpenSpec.ofChange fnRisingSpec)

/-- ITS FALSE NEIGHBOUR: 'it returns false'. Refute it at one input. -/
def fnRisingWrong : ChangeSpec := { name := "fnRising", fn := fun _ => fun
  | [d] => { results := [.lit (.bool false)], args := [d] }
  | _ => none }
def FnRisingWrongFalsely : Prop := fnRisingRow.holds Tryz.pinned (OpenSpec.ofChange fnRisingWrong)

/-- 'laws.FnRuleYearly': WHATEVER THE INPUT: true; the input reads as it did. -/
def fnRuleYearlySpec : ChangeSpec := { name := "fnRuleYearly", fn := fun _ => fun
  | [d1, d2] => { results := [.lit (.bool true)], args := [d1, d2] }
  | _ => none }
def fnRuleYearlyRow : OpenClaim := { program := "ythomapgobmdicaagreat", sum := "a735f9a2ecc448551f2d55dcc4bdcbe4a4602f49721651040d0556cc714b5a1a", func := "pub-ferial/laws.FnRuleYearly", spec := "fnRuleYearly", inPlace := ["math.archFloor", "math.Float64bits", "math.Float64frombits", "math.archTrunc"], unfollowed := true, recurses := true, apart := false }
def FnRuleYearlySaid : Prop := fnRuleYearlyRow.holds Tryz.pinned (OpenSpec.ofChange fnRuleYearlySpec)

/-- ITS FALSE NEIGHBOUR: 'it returns false'. Refute it at one input. -/
def fnRuleYearlyWrong : ChangeSpec := { name := "fnRuleYearly", fn := fun _ => fun
  | [d1, d2] => { results := [.lit (.bool false)], args := [d1, d2] }
  | _ => none }
def FnRuleYearlyWrongFalsely : Prop := fnRuleYearlyRow.holds Tryz.pinned (OpenSpec.ofChange fnRuleYearlyWrong)

/-- 'laws.FnRuleMonthly': WHATEVER THE INPUT: true; the input reads as it did. -/
def fnRuleMonthlySpec : ChangeSpec := { name := "fnRuleMonthly", fn := fun _ => fun
  | [d1, d2] => { results := [.lit (.bool true)], args := [d1, d2] }
  | _ => none }
def fnRuleMonthlyRow : OpenClaim := { program := "ythomapgobmdicaagreat", sum := "a735f9a2ecc448551f2d55dcc4bdcbe4a4602f49721651040d0556cc714b5a1a", func := "pub-ferial/laws.FnRuleMonthly", spec := "fnRuleMonthly", inPlace := ["math.archFloor", "math.Float64bits", "math.Float64frombits", "math.archTrunc"], unfollowed := true, recurses := true, apart := false }
def FnRuleMonthlySaid : Prop := fnRuleMonthlyRow.holds Tryz.pinned (OpenSpec.ofChange fnRuleMonthlySpec)

/-- ITS FALSE NEIGHBOUR: 'it returns false'. Refute it at one input. -/
def fnRuleMonthlyWrong : ChangeSpec := { name := "fnRuleMonthly", fn := fun _ => fun
  | [d1, d2] => { results := [.lit (.bool false)], args := [d1, d2] }
  | _ => none }
def FnRuleMonthlyWrongFalsely : Prop := fnRuleMonthlyRow.holds Tryz.pinned (OpenSpec.ofChange fnRuleMonthlyWrong)

/-- 'laws.FnRuleMonths': WHATEVER THE INPUT: true; the input reads as it did. -/
def fnRuleMonthsSpec : ChangeSpec := { name := "fnRuleMonths", fn := fun _ => fun
  | [d1, d2] => { results := [.lit (.bool true)], args := [d1, d2] }
  | _ => none }
def fnRuleMonthsRow : OpenClaim := { program := "ythomapgobmdicaagreat", sum := "a735f9a2ecc448551f2d55dcc4bdcbe4a4602f49721651040d0556cc714b5a1a", func := "pub-ferial/laws.FnRuleMonths", spec := "fnRuleMonths", inPlace := ["math.archFloor", "math.Float64bits", "math.Float64frombits", "math.archTrunc"], unfollowed := true, recurses := true, apart := false }
def FnRuleMonthsSaid : Prop := fnRuleMonthsRow.holds Tryz.pinned (OpenSpec.ofChange fnRuleMonthsSpec)

/-- ITS FALSE NEIGHBOUR: 'it returns false'. Refute it at one input. -/
def fnRuleMonthsWrong : ChangeSpec := { name := "fnRuleMonths", fn := fun _ => fun
  | [d1, d2] => { results := [.lit (.bool false)], args := [d1, d2] }
  | _ => none }
def FnRuleMonthsWrongFalsely : Prop := fnRuleMonthsRow.holds Tryz.pinned (OpenSpec.ofChange fnRuleMonthsWrong)

/-- 'laws.FnRulePlaces': WHATEVER THE INPUT: true; the input reads as it did. -/
def fnRulePlacesSpec : ChangeSpec := { name := "fnRulePlaces", fn := fun _ => fun
  | [d1, d2, d3] => { results := [.lit (.bool true)], args := [d1, d2, d3] }
  | _ => none }
def fnRulePlacesRow : OpenClaim := { program := "ythomapgobmdicaagreat", sum := "a735f9a2ecc448551f2d55dcc4bdcbe4a4602f49721651040d0556cc714b5a1a", func := "pub-ferial/laws.FnRulePlaces", spec := "fnRulePlaces", inPlace := ["math.archFloor", "math.Float64bits", "math.Float64frombits", "math.archTrunc"], unfollowed := true, recurses := true, apart := false }
def FnRulePlacesSaid : Prop := fnRulePlacesRow.holds Tryz.pinned (OpenSpec.ofChange fnRulePlacesSpec)

/-- ITS FALSE NEIGHBOUR: 'it returns false'. Refute it at one input. -/
def fnRulePlacesWrong : ChangeSpec := { name := "fnRulePlaces", fn := fun _ => fun
  | [d1, d2, d3] => { results := [.lit (.bool false)], args := [d1, d2, d3] }
  | _ => none }
def FnRulePlacesWrongFalsely : Prop := fnRulePlacesRow.holds Tryz.pinned (OpenSpec.ofChange fnRulePlacesWrong)

/-- 'laws.FnRuleOrder': WHATEVER THE INPUT: true; the input reads as it did. -/
def fnRuleOrderSpec : ChangeSpec := { name := "fnRuleOrder", fn := fun _ => fun
  | [d1, d2] => { results := [.lit (.bool true)], args := [d1, d2] }
  | _ => none }
def fnRuleOrderRow : OpenClaim := { program := "ythomapgobmdicaagreat", sum := "a735f9a2ecc448551f2d55dcc4bdcbe4a4602f49721651040d0556cc714b5a1a", func := "pub-ferial/laws.FnRuleOrder", spec := "fnRuleOrder", inPlace := ["math.archFloor", "math.Float64bits", "math.Float64frombits", "math.archTrunc"], unfollowed := true, recurses := true, apart := false }
def FnRuleOrderSaid : Prop := fnRuleOrderRow.holds Tryz.pinned (OpenSpec.ofChange fnRuleOrderSpec)

/-- ITS FALSE NEIGHBOUR: 'it returns false'. Refute it at one input. -/
def fnRuleOrderWrong : ChangeSpec := { name := "fnRuleOrder", fn := fun _ => fun
  | [d1, d2] => { results := [.lit (.bool false)], args := [d1, d2] }
  | _ => none }
def FnRuleOrderWrongFalsely : Prop := fnRuleOrderRow.holds Tryz.pinned (OpenSpec.ofChange fnRuleOrderWrong)

/-- 'laws.FnRuleShift': WHATEVER THE INPUT: true; the input reads as it did. -/
def fnRuleShiftSpec : ChangeSpec := { name := "fnRuleShift", fn := fun _ => fun
  | [d1, d2] => { results := [.lit (.bool true)], args := [d1, d2] }
  | _ => none }
def fnRuleShiftRow : OpenClaim := { program := "ythomapgobmdicaagreat", sum := "a735f9a2ecc448551f2d55dcc4bdcbe4a4602f49721651040d0556cc714b5a1a", func := "pub-ferial/laws.FnRuleShift", spec := "fnRuleShift", inPlace := ["math.archFloor", "math.Float64bits", "math.Float64frombits", "math.archTrunc"], unfollowed := true, recurses := true, apart := false }
def FnRuleShiftSaid : Prop := fnRuleShiftRow.holds Tryz.pinned (OpenSpec.ofChange fnRuleShiftSpec)

/-- ITS FALSE NEIGHBOUR: 'it returns false'. Refute it at one input. -/
def fnRuleShiftWrong : ChangeSpec := { name := "fnRuleShift", fn := fun _ => fun
  | [d1, d2] => { results := [.lit (.bool false)], args := [d1, d2] }
  | _ => none }
def FnRuleShiftWrongFalsely : Prop := fnRuleShiftRow.holds Tryz.pinned (OpenSpec.ofChange fnRuleShiftWrong)

/-- 'laws.FnRuleNarrow': WHATEVER THE INPUT: true; the input reads as it did. -/
def fnRuleNarrowSpec : ChangeSpec := { name := "fnRuleNarrow", fn := fun _ => fun
  | [d1, d2, d3] => { results := [.lit (.bool true)], args := [d1, d2, d3] }
  | _ => none }
def fnRuleNarrowRow : OpenClaim := { program := "ythomapgobmdicaagreat", sum := "a735f9a2ecc448551f2d55dcc4bdcbe4a4602f49721651040d0556cc714b5a1a", func := "pub-ferial/laws.FnRuleNarrow", spec := "fnRuleNarrow", inPlace := ["math.archFloor", "math.Float64bits", "math.Float64frombits", "math.archTrunc"], unfollowed := true, recurses := true, apart := false }
def FnRuleNarrowSaid : Prop := fnRuleNarrowRow.holds Tryz.pinned (OpenSpec.ofChange fnRuleNarrowSpec)

/-- ITS FALSE NEIGHBOUR: 'it returns false'. Refute it at one input. -/
def fnRuleNarrowWrong : ChangeSpec := { name := "fnRuleNarrow", fn := fun _ => fun
  | [d1, d2, d3] => { results := [.lit (.bool false)], args := [d1, d2, d3] }
  | _ => none }
def FnRuleNarrowWrongFalsely : Prop := fnRuleNarrowRow.holds Tryz.pinned (OpenSpec.ofChange fnRuleNarrowWrong)

/-- 'laws.FnRuleInterval': WHATEVER THE INPUT: true; the input reads as it did. -/
def fnRuleIntervalSpec : ChangeSpec := { name := "fnRuleInterval", fn := fun _ => fun
  | [d1, d2] => { results := [.lit (.bool true)], args := [d1, d2] }
  | _ => none }
def fnRuleIntervalRow : OpenClaim := { program := "ythomapgobmdicaagreat", sum := "a735f9a2ecc448551f2d55dcc4bdcbe4a4602f49721651040d0556cc714b5a1a", func := "pub-ferial/laws.FnRuleInterval", spec := "fnRuleInterval", inPlace := ["math.archFloor", "math.Float64bits", "math.Float64frombits", "math.archTrunc"], unfollowed := true, recurses := true, apart := false }
def FnRuleIntervalSaid : Prop := fnRuleIntervalRow.holds Tryz.pinned (OpenSpec.ofChange fnRuleIntervalSpec)

/-- ITS FALSE NEIGHBOUR: 'it returns false'. Refute it at one input. -/
def fnRuleIntervalWrong : ChangeSpec := { name := "fnRuleInterval", fn := fun _ => fun
  | [d1, d2] => { results := [.lit (.bool false)], args := [d1, d2] }
  | _ => none }
def FnRuleIntervalWrongFalsely : Prop := fnRuleIntervalRow.holds Tryz.pinned (OpenSpec.ofChange fnRuleIntervalWrong)

/-- 'laws.FnWholeRest': WHATEVER THE INPUT: true; the input reads as it did. -/
def fnWholeRestSpec : ChangeSpec := { name := "fnWholeRest", fn := fun _ => fun
  | [d1, d2] => { results := [.lit (.bool true)], args := [d1, d2] }
  | _ => none }
def fnWholeRestRow : OpenClaim := { program := "ythomapgobmdicaagreat", sum := "a735f9a2ecc448551f2d55dcc4bdcbe4a4602f49721651040d0556cc714b5a1a", func := "pub-ferial/laws.FnWholeRest", spec := "fnWholeRest", inPlace := ["math.archFloor", "math.Float64bits", "math.Float64frombits", "math.archTrunc"], unfollowed := true, recurses := true, apart := false }
def FnWholeRestSaid : Prop := fnWholeRestRow.holds Tryz.pinned (OpenSpec.ofChange fnWholeRestSpec)

/-- ITS FALSE NEIGHBOUR: 'it returns false'. Refute it at one input. -/
def fnWholeRestWrong : ChangeSpec := { name := "fnWholeRest", fn := fun _ => fun
  | [d1, d2] => { results := [.lit (.bool false)], args := [d1, d2] }
  | _ => none }
def FnWholeRestWrongFalsely : Prop := fnWholeRestRow.holds Tryz.pinned (OpenSpec.ofChange fnWholeRestWrong)

/-- 'laws.FnRuleCount': WHATEVER THE INPUT: true; the input reads as it did. -/
def fnRuleCountSpec : ChangeSpec := { name := "fnRuleCount", fn := fun _ => fun
  | [d1, d2] => { results := [.lit (.bool true)], args := [d1, d2] }
  | _ => none }
def fnRuleCountRow : OpenClaim := { program := "ythomapgobmdicaagreat", sum := "a735f9a2ecc448551f2d55dcc4bdcbe4a4602f49721651040d0556cc714b5a1a", func := "pub-ferial/laws.FnRuleCount", spec := "fnRuleCount", inPlace := ["math.archFloor", "math.Float64bits", "math.Float64frombits", "math.archTrunc"], unfollowed := true, recurses := true, apart := false }
def FnRuleCountSaid : Prop := fnRuleCountRow.holds Tryz.pinned (OpenSpec.ofChange fnRuleCountSpec)

/-- ITS FALSE NEIGHBOUR: 'it returns false'. Refute it at one input. -/
def fnRuleCountWrong : ChangeSpec := { name := "fnRuleCount", fn := fun _ => fun
  | [d1, d2] => { results := [.lit (.bool false)], args := [d1, d2] }
  | _ => none }
def FnRuleCountWrongFalsely : Prop := fnRuleCountRow.holds Tryz.pinned (OpenSpec.ofChange fnRuleCountWrong)

/-- 'laws.FnRuleUntil': WHATEVER THE INPUT: true; the input reads as it did. -/
def fnRuleUntilSpec : ChangeSpec := { name := "fnRuleUntil", fn := fun _ => fun
  | [d1, d2, d3] => { results := [.lit (.bool true)], args := [d1, d2, d3] }
  | _ => none }
def fnRuleUntilRow : OpenClaim := { program := "ythomapgobmdicaagreat", sum := "a735f9a2ecc448551f2d55dcc4bdcbe4a4602f49721651040d0556cc714b5a1a", func := "pub-ferial/laws.FnRuleUntil", spec := "fnRuleUntil", inPlace := ["math.archFloor", "math.Float64bits", "math.Float64frombits", "math.archTrunc"], unfollowed := true, recurses := true, apart := false }
def FnRuleUntilSaid : Prop := fnRuleUntilRow.holds Tryz.pinned (OpenSpec.ofChange fnRuleUntilSpec)

/-- ITS FALSE NEIGHBOUR: 'it returns false'. Refute it at one input. -/
def fnRuleUntilWrong : ChangeSpec := { name := "fnRuleUntil", fn := fun _ => fun
  | [d1, d2, d3] => { results := [.lit (.bool false)], args := [d1, d2, d3] }
  | _ => none }
def FnRuleUntilWrongFalsely : Prop := fnRuleUntilRow.holds Tryz.pinned (OpenSpec.ofChange fnRuleUntilWrong)

/- THE SECOND FORM. 'bulk': how many values and letters a reading holds, each counted each time it is reached (what is shared counts as often as it is met; a slice's spare places count too). A statement '..UptoSaid' is the law's where the arguments, and the package variables that the reading takes, are together of bulk at most 1048576: NARROWER than '..Said'. Prove '..Said' where nothing that the law and all that it calls make is longer than what came in: it says more and counts as full. Else prove '..UptoSaid'. A law counts once. -/
mutual
def uptoBulk {H : Type} : DataW H → Nat
  | .lit (.string bytes) => bytes.length + 1
  | .lit _ => 1
  | .nil => 1
  | .ptr d => uptoBulk d + 1
  | .slice elems spare => uptoBulkAll elems + uptoBulkAll spare + 1
  | .agg parts => uptoBulkAll parts + 1
  | .iface _ d => uptoBulk d + 1
  | .map entries => uptoBulkEntries entries + 1
  | .held _ => 1
def uptoBulkAll {H : Type} : List (DataW H) → Nat
  | [] => 0
  | d :: r => uptoBulk d + uptoBulkAll r
def uptoBulkEntries {H : Type} : List (Lit × DataW H) → Nat
  | [] => 0
  | x :: r => uptoBulkEntry x + uptoBulkEntries r
def uptoBulkEntry {H : Type} : Lit × DataW H → Nat
  | (.string bytes, d) => bytes.length + uptoBulk d + 1
  | (_, d) => uptoBulk d + 1
 end
def uptoSmall : (H : Type) → List (DataW H) → Bool := fun _ ds => decide (uptoBulkAll ds ≤ 1048576)
def OpenSpec.upto (s : _root_.Go.ChangeSpec) : _root_.Go.OpenSpec := { _root_.Go.OpenSpec.ofChange s with cond := some uptoSmall }

/-- 'laws.FnRising', WHERE WHAT IT READS IS OF BULK AT MOST 1048576: true; the input reads as it did. -/
def fnRisingUptoRow : OpenClaim := { program := "ythomapgobmdicaagreat", sum := "a735f9a2ecc448551f2d55dcc4bdcbe4a4602f49721651040d0556cc714b5a1a", func := "pub-ferial/laws.FnRising", spec := "fnRising", inPlace := ["math.archFloor", "math.Float64bits", "math.Float64frombits", "math.archTrunc"], unfollowed := true, recurses := true, apart := false, narrowed := true }
def FnRisingUptoSaid : Prop := fnRisingUptoRow.holds Tryz.pinned (OpenSpec.upto fnRisingSpec)

/-- 'laws.FnRuleYearly', WHERE WHAT IT READS IS OF BULK AT MOST 1048576: true; the input reads as it did. -/
def fnRuleYearlyUptoRow : OpenClaim := { program := "ythomapgobmdicaagreat", sum := "a735f9a2ecc448551f2d55dcc4bdcbe4a4602f49721651040d0556cc714b5a1a", func := "pub-ferial/laws.FnRuleYearly", spec := "fnRuleYearly", inPlace := ["math.archFloor", "math.Float64bits", "math.Float64frombits", "math.archTrunc"], unfollowed := true, recurses := true, apart := false, narrowed := true }
def FnRuleYearlyUptoSaid : Prop := fnRuleYearlyUptoRow.holds Tryz.pinned (OpenSpec.upto fnRuleYearlySpec)

/-- 'laws.FnRuleMonthly', WHERE WHAT IT READS IS OF BULK AT MOST 1048576: true; the input reads as it did. -/
def fnRuleMonthlyUptoRow : OpenClaim := { program := "ythomapgobmdicaagreat", sum := "a735f9a2ecc448551f2d55dcc4bdcbe4a4602f49721651040d0556cc714b5a1a", func := "pub-ferial/laws.FnRuleMonthly", spec := "fnRuleMonthly", inPlace := ["math.archFloor", "math.Float64bits", "math.Float64frombits", "math.archTrunc"], unfollowed := true, recurses := true, apart := false, narrowed := true }
def FnRuleMonthlyUptoSaid : Prop := fnRuleMonthlyUptoRow.holds Tryz.pinned (OpenSpec.upto fnRuleMonthlySpec)

/-- 'laws.FnRuleMonths', WHERE WHAT IT READS IS OF BULK AT MOST 1048576: true; the input reads as it did. -/
def fnRuleMonthsUptoRow : OpenClaim := { program := "ythomapgobmdicaagreat", sum := "a735f9a2ecc448551f2d55dcc4bdcbe4a4602f49721651040d0556cc714b5a1a", func := "pub-ferial/laws.FnRuleMonths", spec := "fnRuleMonths", inPlace := ["math.archFloor", "math.Float64bits", "math.Float64frombits", "math.archTrunc"], unfollowed := true, recurses := true, apart := false, narrowed := true }
def FnRuleMonthsUptoSaid : Prop := fnRuleMonthsUptoRow.holds Tryz.pinned (OpenSpec.upto fnRuleMonthsSpec)

/-- 'laws.FnRulePlaces', WHERE WHAT IT READS IS OF BULK AT MOST 1048576: true; the input reads as it did. -/
def fnRulePlacesUptoRow : OpenClaim := { program := "ythomapgobmdicaagreat", sum := "a735f9a2ecc448551f2d55dcc4bdcbe4a4602f49721651040d0556cc714b5a1a", func := "pub-ferial/laws.FnRulePlaces", spec := "fnRulePlaces", inPlace := ["math.archFloor", "math.Float64bits", "math.Float64frombits", "math.archTrunc"], unfollowed := true, recurses := true, apart := false, narrowed := true }
def FnRulePlacesUptoSaid : Prop := fnRulePlacesUptoRow.holds Tryz.pinned (OpenSpec.upto fnRulePlacesSpec)

/-- 'laws.FnRuleOrder', WHERE WHAT IT READS IS OF BULK AT MOST 1048576: true; the input reads as it did. -/
def fnRuleOrderUptoRow : OpenClaim := { program := "ythomapgobmdicaagreat", sum := "a735f9a2ecc448551f2d55dcc4bdcbe4a4602f49721651040d0556cc714b5a1a", func := "pub-ferial/laws.FnRuleOrder", spec := "fnRuleOrder", inPlace := ["math.archFloor", "math.Float64bits", "math.Float64frombits", "math.archTrunc"], unfollowed := true, recurses := true, apart := false, narrowed := true }
def FnRuleOrderUptoSaid : Prop := fnRuleOrderUptoRow.holds Tryz.pinned (OpenSpec.upto fnRuleOrderSpec)

/-- 'laws.FnRuleShift', WHERE WHAT IT READS IS OF BULK AT MOST 1048576: true; the input reads as it did. -/
def fnRuleShiftUptoRow : OpenClaim := { program := "ythomapgobmdicaagreat", sum := "a735f9a2ecc448551f2d55dcc4bdcbe4a4602f49721651040d0556cc714b5a1a", func := "pub-ferial/laws.FnRuleShift", spec := "fnRuleShift", inPlace := ["math.archFloor", "math.Float64bits", "math.Float64frombits", "math.archTrunc"], unfollowed := true, recurses := true, apart := false, narrowed := true }
def FnRuleShiftUptoSaid : Prop := fnRuleShiftUptoRow.holds Tryz.pinned (OpenSpec.upto fnRuleShiftSpec)

/-- 'laws.FnRuleNarrow', WHERE WHAT IT READS IS OF BULK AT MOST 1048576: true; the input reads as it did. -/
def fnRuleNarrowUptoRow : OpenClaim := { program := "ythomapgobmdicaagreat", sum := "a735f9a2ecc448551f2d55dcc4bdcbe4a4602f49721651040d0556cc714b5a1a", func := "pub-ferial/laws.FnRuleNarrow", spec := "fnRuleNarrow", inPlace := ["math.archFloor", "math.Float64bits", "math.Float64frombits", "math.archTrunc"], unfollowed := true, recurses := true, apart := false, narrowed := true }
def FnRuleNarrowUptoSaid : Prop := fnRuleNarrowUptoRow.holds Tryz.pinned (OpenSpec.upto fnRuleNarrowSpec)

/-- 'laws.FnRuleInterval', WHERE WHAT IT READS IS OF BULK AT MOST 1048576: true; the input reads as it did. -/
def fnRuleIntervalUptoRow : OpenClaim := { program := "ythomapgobmdicaagreat", sum := "a735f9a2ecc448551f2d55dcc4bdcbe4a4602f49721651040d0556cc714b5a1a", func := "pub-ferial/laws.FnRuleInterval", spec := "fnRuleInterval", inPlace := ["math.archFloor", "math.Float64bits", "math.Float64frombits", "math.archTrunc"], unfollowed := true, recurses := true, apart := false, narrowed := true }
def FnRuleIntervalUptoSaid : Prop := fnRuleIntervalUptoRow.holds Tryz.pinned (OpenSpec.upto fnRuleIntervalSpec)

/-- 'laws.FnWholeRest', WHERE WHAT IT READS IS OF BULK AT MOST 1048576: true; the input reads as it did. -/
def fnWholeRestUptoRow : OpenClaim := { program := "ythomapgobmdicaagreat", sum := "a735f9a2ecc448551f2d55dcc4bdcbe4a4602f49721651040d0556cc714b5a1a", func := "pub-ferial/laws.FnWholeRest", spec := "fnWholeRest", inPlace := ["math.archFloor", "math.Float64bits", "math.Float64frombits", "math.archTrunc"], unfollowed := true, recurses := true, apart := false, narrowed := true }
def FnWholeRestUptoSaid : Prop := fnWholeRestUptoRow.holds Tryz.pinned (OpenSpec.upto fnWholeRestSpec)

/-- 'laws.FnRuleCount', WHERE WHAT IT READS IS OF BULK AT MOST 1048576: true; the input reads as it did. -/
def fnRuleCountUptoRow : OpenClaim := { program := "ythomapgobmdicaagreat", sum := "a735f9a2ecc448551f2d55dcc4bdcbe4a4602f49721651040d0556cc714b5a1a", func := "pub-ferial/laws.FnRuleCount", spec := "fnRuleCount", inPlace := ["math.archFloor", "math.Float64bits", "math.Float64frombits", "math.archTrunc"], unfollowed := true, recurses := true, apart := false, narrowed := true }
def FnRuleCountUptoSaid : Prop := fnRuleCountUptoRow.holds Tryz.pinned (OpenSpec.upto fnRuleCountSpec)

/-- 'laws.FnRuleUntil', WHERE WHAT IT READS IS OF BULK AT MOST 1048576: true; the input reads as it did. -/
def fnRuleUntilUptoRow : OpenClaim := { program := "ythomapgobmdicaagreat", sum := "a735f9a2ecc448551f2d55dcc4bdcbe4a4602f49721651040d0556cc714b5a1a", func := "pub-ferial/laws.FnRuleUntil", spec := "fnRuleUntil", inPlace := ["math.archFloor", "math.Float64bits", "math.Float64frombits", "math.archTrunc"], unfollowed := true, recurses := true, apart := false, narrowed := true }
def FnRuleUntilUptoSaid : Prop := fnRuleUntilUptoRow.holds Tryz.pinned (OpenSpec.upto fnRuleUntilSpec)

end Rows
end Go.Proofs.YthomapgobmdicaaGreat
