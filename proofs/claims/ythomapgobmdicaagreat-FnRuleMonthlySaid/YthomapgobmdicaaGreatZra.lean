import Derived.KernelRfl
import Derived.Lib.Hide
import Derived.WalkKit
import Derived.WalkSpells
import Derived.Deep.MidRow
import Derived.Deep.Quiet
import Derived.StillTail
import Derived.Laws.AppendOwn
import Derived.KernelRfl
import Derived.Deep.LoopGhost
import Derived.WalkLawsBesides
import Derived.Maps.AppendAt
import Derived.Laws.OwnMore
import Derived.Laws.MakeOwn
import Derived.Laws.IdiomCopy
import Derived.OrdersHeld
import Derived.Test.YthomapgobmdicaaGreatProg
import Derived.Sort.AssemblyPlain
import Derived.Laws.StructEq
import Derived.Shelf.Small.Bits
import GoSem.Core.Float
import Derived.Deep.SlicePairs
import Derived.ChangeArms
import Derived.Test.YthomapgobmdicaaGreatRows
import Derived.ProofKit
import Derived.OpenShut
import Derived.Carry
set_option linter.unusedVariables false
set_option linter.unusedSimpArgs false
set_option maxRecDepth 100000
set_option maxHeartbeats 8000000
namespace Go
theorem dE {p : Prop} (h : p := by decide) : p := h
theorem oM {p : Prop} (h : p := by omega) : p := h
theorem kR {p : Prop} (h : p := by kernel_rfl) : p := h
theorem sO {p : Prop} (h : p := by simp only; omega) : p := h
end Go
namespace Go
theorem bO (b : Bool) : b = true \/ b = false := Bool.eq_false_or_eq_true b
abbrev LN := List (Nat × Nat)
abbrev lR (n : Nat) (a : Int) : List Int := (List.range n).map fun (j : Nat) => a + (j : Int)
theorem cB {a b : Bool} (h : a = b) : Value.bool a = Value.bool b := congrArg Value.bool h
theorem cE {a b : Bool} (h : a = b) : Ending.returned (Value.bool a) = Ending.returned (Value.bool b) := congrArg (fun b => Ending.returned (Value.bool b)) h
theorem oF {p : Prop} [Decidable p] (h : decide p = false) : ¬p := of_decide_eq_false h
theorem oT {p : Prop} [Decidable p] (h : decide p = true) : p := of_decide_eq_true h
abbrev LV := List (Nat × Value)
end Go
namespace Go.Cal
def leapB (y : Int) : Bool := decide (y % 4 = 0 /\ (y % 100 ≠ 0 \/ y % 400 = 0))
def lp (y : Int) : Int := if leapB y then 1 else 0
def mdays (m y : Int) : Int := if m = 2 then 28 + lp y else if m = 4 \/ m = 6 \/ m = 9 \/ m = 11 then 30 else 31
def daysTo (y : Int) : Int := 365 * (y - 1) + (y - 1) / 4 - (y - 1) / 100 + (y - 1) / 400
def cum (y : Int) : Nat -> Int
 | 0 => 0
 | n + 1 => cum y n + mdays (n + 1) y
theorem lp_01 (y : Int) : lp y = 0 \/ lp y = 1 := by unfold lp; split <;> simp
theorem aJg (y : Int) : lp y = 1 ↔ (y % 4 = 0 /\ (y % 100 ≠ 0 \/ y % 400 = 0)) := by unfold lp leapB; split <;> simp_all
theorem daysTo_succ (y : Int) : daysTo (y + 1) = daysTo y + 365 + lp y := by
 have h := aJg y
 have h2 := lp_01 y
 unfold daysTo
 rcases h2 with e | e
 .have : ¬ (y % 4 = 0 /\ (y % 100 ≠ 0 \/ y % 400 = 0)) := fun hh => by rw [h.2 hh] at e; omega
  rw [e]; omega
 .have := h.1 e
  rw [e]; omega
theorem mdays_bd (m y : Int) : 28 <= mdays m y /\ mdays m y <= 31 := by
 have := lp_01 y
 unfold mdays
 split
 .omega
 .split <;> omega
theorem floor_t {a b : Int} (hb : 0 < b) (h : a.tmod b < 0) : a.tdiv b - 1 = a / b := by
 have h1 := Int.mul_tdiv_add_tmod a b
 have h2 := Int.mul_ediv_add_emod a b
 have h3 := Int.emod_nonneg a (show b ≠ 0 by omega)
 have h4 := Int.emod_lt_of_pos a hb
 have h5 : -b < a.tmod b := by
  have := Int.lt_tmod_of_pos a hb
  omega
 have h6 : b * (a.tdiv b - 1) = b * (a.tdiv b) - b := by rw [Int.mul_sub, Int.mul_one]
 have h7 : b * (a / b - (a.tdiv b - 1)) = a.tmod b + b - a % b := by rw [Int.mul_sub, h6]; omega
 have h8 : a / b - (a.tdiv b - 1) = 0 := by
  rcases Int.lt_trichotomy (a / b - (a.tdiv b - 1)) 0 with hh | hh | hh
  .have : b * (a / b - (a.tdiv b - 1)) <= b * (-1) := Int.mul_le_mul_of_nonneg_left oM oM
   omega
  .exact hh
  .have : b * 1 <= b * (a / b - (a.tdiv b - 1)) := Int.mul_le_mul_of_nonneg_left oM oM
   omega
 omega
theorem floor_f {a b : Int} (hb : 0 < b) (h : ¬ a.tmod b < 0) : a.tdiv b = a / b := by
 have h1 := Int.mul_tdiv_add_tmod a b
 have h2 := Int.mul_ediv_add_emod a b
 have h3 := Int.emod_nonneg a (show b ≠ 0 by omega)
 have h4 := Int.emod_lt_of_pos a hb
 have h5 := Int.tmod_lt_of_pos a hb
 have h7 : b * (a / b - a.tdiv b) = a.tmod b - a % b := by rw [Int.mul_sub]; omega
 have h8 : a / b - a.tdiv b = 0 := by
  rcases Int.lt_trichotomy (a / b - a.tdiv b) 0 with hh | hh | hh
  .have : b * (a / b - a.tdiv b) <= b * (-1) := Int.mul_le_mul_of_nonneg_left oM oM
   omega
  .exact hh
  .have : b * 1 <= b * (a / b - a.tdiv b) := Int.mul_le_mul_of_nonneg_left oM oM
   omega
 omega
def cen (d : Int) : Int := if (d % 146097) / 36524 = 4 then 3 else (d % 146097) / 36524
def d2 (d : Int) : Int := d % 146097 - cen d * 36524
def one (d : Int) : Int := if (d2 d % 1461) / 365 = 4 then 3 else (d2 d % 1461) / 365
def yearOf (d : Int) : Int := 400 * (d / 146097) + 100 * cen d + 4 * (d2 d / 1461) + one d + 1
def ydayOf (d : Int) : Int := d2 d % 1461 - one d * 365
theorem split_spec (d : Int) : daysTo (yearOf d) + ydayOf d = d /\ 0 <= ydayOf d /\ ydayOf d < 365 + lp (yearOf d) := by
 have e1 : daysTo (yearOf d + 1) = _ := daysTo_succ (yearOf d)
 have hc : cen d = 0 \/ cen d = 1 \/ cen d = 2 \/ cen d = 3 := by unfold cen; split <;> omega
 have hc2 : 0 <= d2 d /\ d2 d < 36524 + (if cen d = 3 then 1 else 0) := by
  unfold d2 cen
  split <;> (split <;> omega)
 have ho : one d = 0 \/ one d = 1 \/ one d = 2 \/ one d = 3 := by unfold one; split <;> omega
 have ho2 : 0 <= ydayOf d /\ ydayOf d <= 365 /\ (ydayOf d = 365 -> one d = 3) /\ (one d = 3 -> ydayOf d < 366) := by
  unfold ydayOf one
  split <;> omega
 have key : daysTo (yearOf d) + ydayOf d = d := by
  have h1 : d = 146097 * (d / 146097) + cen d * 36524 + 1461 * (d2 d / 1461) + one d * 365 + ydayOf d := by
   unfold ydayOf; unfold d2; omega
  generalize hq : d / 146097 = q at *
  generalize hf : d2 d / 1461 = f at *
  have hf2 : 0 <= f /\ f <= 24 /\ (cen d < 3 -> f <= 24) := by
   have := hc2; split at this <;> omega
  have hy : yearOf d = 400 * q + 100 * cen d + 4 * f + one d + 1 := by unfold yearOf; rw [hq, hf]
  rw [hy]; unfold daysTo
  rcases hc with e | e | e | e <;> rcases ho with e' | e' | e' | e' <;> rw [e, e'] at h1 ⊢ <;> omega
 refine ⟨key, ho2.1, ?_⟩
 have h365 : ydayOf d < 365 \/ ydayOf d = 365 := by omega
 rcases h365 with h | h
 .rcases lp_01 (yearOf d) with e | e <;> omega
 .have ho3 := ho2.2.2.1 h
  have : lp (yearOf d) = 1 := by
   rw [aJg]
   have hq := hc2
   have hlast : d2 d % 1461 = 1460 := by have : ydayOf d = d2 d % 1461 - one d * 365 := rfl; omega
   have hy : yearOf d = 400 * (d / 146097) + 100 * cen d + 4 * (d2 d / 1461) + one d + 1 := rfl
   rcases hc with e | e | e | e <;> simp only [e] at hq hy <;> simp at hq <;> omega
  omega
theorem daysTo_mono {a b : Int} (h : a <= b) : daysTo a <= daysTo b := by unfold daysTo; omega
theorem year_unique {d y k : Int} (h : daysTo y + k = d) (h0 : 0 <= k) (h1 : k < 365 + lp y) : yearOf d = y /\ ydayOf d = k := by
 obtain ⟨s1, s2, s3⟩ := split_spec d
 have e1 := daysTo_succ y
 have e2 := daysTo_succ (yearOf d)
 have : yearOf d = y := by
  rcases Int.lt_trichotomy (yearOf d) y with hh | hh | hh
  .have := daysTo_mono (show yearOf d + 1 <= y by omega); omega
  .exact hh
  .have := daysTo_mono (show y + 1 <= yearOf d by omega); omega
 rw [this] at s1
 exact ⟨this, by omega⟩
def vO (y : Int) : Nat -> Int -> Int -> Int × Int
 | 0, m, d => (m, d)
 | n + 1, m, d => if mdays m y <= d then vO y n (m + 1) (d - mdays m y) else (m, d)
def monthOf (d : Int) : Int := (vO (yearOf d) 12 1 (ydayOf d)).1
def mdayOf (d : Int) : Int := (vO (yearOf d) 12 1 (ydayOf d)).2 + 1
theorem cum_12 (y : Int) : cum y 12 = 365 + lp y := by
 have h := lp_01 y
 simp only [cum, mdays]
 simp
 omega
theorem cum_mono (y : Int) (j : Nat) : ∀ i, j <= i -> cum y j <= cum y i := by
 intro i h
 induction i with
 | zero => rw [Nat.le_zero.1 h]; exact Int.le_refl _
 | succ i ih =>
  rcases Nat.lt_or_ge j (i + 1) with h' | h'
  .have := ih oM; have := mdays_bd (i + 1) y; simp only [cum]; omega
  .rw [show j = i + 1 by omega]; exact Int.le_refl _
theorem aIo {y D : Int} {j : Nat} (hj : j <= 11) (h0 : cum y j <= D) : ∀ i, i <= j -> vO y (12 - i) ((i : Int) + 1) (D - cum y i) = vO y 12 1 D := by
 intro i
 induction i with
 | zero => intro _; simp [cum]
 | succ i ih =>
  intro hi
  rw [<- ih oM, show 12 - i = (12 - (i + 1)) + 1 by omega]
  have h2 := cum_mono y (i + 1) j hi
  have e : cum y (i + 1) = cum y i + mdays (i + 1) y := rfl
  conv => rhs; simp only [vO]
  rw [if_pos oM, e]
  rw [show ((i + 1 : Nat) : Int) + 1 = (i : Int) + 1 + 1 by omega, show D - (cum y i + mdays (i + 1) y) = D - cum y i - mdays (i + 1) y by omega]
theorem mon_unique {y D : Int} {j : Nat} (hj : j <= 11) (h0 : cum y j <= D) (h1 : D < cum y (j + 1)) : vO y 12 1 D = ((j : Int) + 1, D - cum y j) := by
 rw [<- aIo hj h0 j (Nat.le_refl _), show 12 - j = (11 - j) + 1 by omega]
 have e : cum y (j + 1) = cum y j + mdays (j + 1) y := rfl
 simp only [vO]
 rw [if_neg oM]
theorem mon_ex {y D : Int} (h0 : 0 <= D) (h1 : D < 365 + lp y) : ∃ j : Nat, j <= 11 /\ cum y j <= D /\ D < cum y (j + 1) := by
 have key : ∀ n, D < cum y n -> ∃ j, j < n /\ cum y j <= D /\ D < cum y (j + 1) := by
  intro n
  induction n with
  | zero => intro h; simp [cum] at h; omega
  | succ n ih =>
   intro h
   by_cases hn : cum y n <= D
   .exact ⟨n, by omega, hn, h⟩
   .obtain ⟨j, a, b, c⟩ := ih oM
    exact ⟨j, by omega, b, c⟩
 obtain ⟨j, a, b, c⟩ := key 12 (by rw [cum_12]; exact h1)
 exact ⟨j, by omega, b, c⟩
def dayNo (y m d : Int) : Int := daysTo (y + (m - 1) / 12) + cum (y + (m - 1) / 12) ((m - 1) % 12).toNat + d - 1
theorem cum_bd (y : Int) : ∀ j : Nat, 0 <= cum y j /\ cum y j <= 31 * (j : Int) := by
 intro j
 induction j with
 | zero => simp [cum]
 | succ j ih =>
  have := mdays_bd ((j : Int) + 1) y
  simp only [cum]; omega
theorem month_bd (d : Int) : 1 <= monthOf d /\ monthOf d <= 12 /\ 1 <= mdayOf d /\ mdayOf d <= 31 := by
 obtain ⟨_, h0, h1⟩ := split_spec d
 obtain ⟨j, hj, ha, hb⟩ := mon_ex h0 h1
 have e := mon_unique hj ha hb
 have hm := mdays_bd ((j : Int) + 1) (yearOf d)
 unfold monthOf mdayOf
 rw [e]
 simp only [cum] at hb
 simp only
 omega
theorem year_le (d : Int) (h : d <= 5000000) : yearOf d <= 14000 := by
 obtain ⟨e, h0, h1⟩ := split_spec d
 unfold daysTo at e
 omega
theorem dayNo_of (d k : Int) : dayNo (yearOf d + 0) (monthOf d + 0) (mdayOf d + k) = d + k := by
 obtain ⟨e, h0, h1⟩ := split_spec d
 obtain ⟨j, hj, ha, hb⟩ := mon_ex h0 h1
 have u := mon_unique hj ha hb
 have hm : monthOf d = (j : Int) + 1 := by unfold monthOf; rw [u]
 have hd : mdayOf d = ydayOf d - cum (yearOf d) j + 1 := by unfold mdayOf; rw [u]
 unfold dayNo
 rw [hm, hd]
 have q : ((j : Int) + 1 + 0 - 1) / 12 = 0 := by omega
 have r : ((j : Int) + 1 + 0 - 1) % 12 = j := by omega
 rw [q, r]
 simp only [Int.add_zero, Int.toNat_natCast]
 omega
theorem date_unique {y D : Int} {j : Nat} (hj : j <= 11) (h0 : cum y j <= D) (h1 : D < cum y (j + 1)) : yearOf (daysTo y + D) = y /\ ydayOf (daysTo y + D) = D /\ monthOf (daysTo y + D) = (j : Int) + 1 /\ mdayOf (daysTo y + D) = D - cum y j + 1 := by
 have hc0 := (cum_bd y j).1
 have hc1 := cum_mono y (j + 1) 12 oM
 rw [cum_12] at hc1
 obtain ⟨e1, e2⟩ := year_unique (d := daysTo y + D) (y := y) (k := D) rfl oM oM
 have u := mon_unique (y := y) hj h0 h1
 refine ⟨e1, e2, ?_, ?_⟩
 .unfold monthOf; rw [e1, e2, u]
 .unfold mdayOf; rw [e1, e2, u]
theorem dayNo_last (m y : Int) (hm : 1 <= m /\ m <= 12) (hy : 1 <= y /\ y <= 10000) : (0 <= dayNo y (m + 1) 0 /\ dayNo y (m + 1) 0 <= 5000000) /\ mdayOf (dayNo y (m + 1) 0) = mdays m y := by
 obtain ⟨j, rfl⟩ : ∃ j : Nat, m = (j : Int) + 1 := ⟨(m - 1).toNat, by omega⟩
 have hj : j <= 11 := by omega
 have hmd := mdays_bd ((j : Int) + 1) y
 have hcs : cum y (j + 1) = cum y j + mdays ((j : Int) + 1) y := rfl
 have hcb := cum_bd y j
 have key : dayNo y ((j : Int) + 1 + 1) 0 = daysTo y + (cum y (j + 1) - 1) := by
  unfold dayNo
  rcases Nat.lt_or_ge j 11 with h | h
  .have q : ((j : Int) + 1 + 1 - 1) / 12 = 0 := by omega
   have r : ((j : Int) + 1 + 1 - 1) % 12 = ((j + 1 : Nat) : Int) := by omega
   rw [q, r, Int.toNat_natCast]; simp only [Int.add_zero]; omega
  .obtain rfl : j = 11 := by omega
   have := daysTo_succ y
   have := cum_12 y
   show daysTo (y + 1) + cum (y + 1) 0 + 0 - 1 = daysTo y + (cum y 12 - 1)
   simp only [cum.eq_1] at *
   omega
 have hd := date_unique (y := y) (D := cum y (j + 1) - 1) hj oM oM
 rw [key]
 have hb : 0 <= daysTo y /\ daysTo y <= 4000000 := by unfold daysTo; omega
 exact ⟨by omega, by rw [hd.2.2.2]; omega⟩
end Go.Cal
namespace Go.Tab
def mQ : List Int := List.replicate 31 1 ++ List.replicate 29 2 ++ List.replicate 31 3 ++ List.replicate 30 4 ++ List.replicate 31 5 ++ List.replicate 30 6 ++ List.replicate 31 7 ++ List.replicate 31 8 ++ List.replicate 30 9 ++ List.replicate 31 10 ++ List.replicate 30 11 ++ List.replicate 31 12 ++ List.replicate 7 1
def m0 : List Int := (lR 31 (1)) ++ (lR 29 (1)) ++ (lR 31 (1)) ++ (lR 30 (1)) ++ (lR 31 (1)) ++ (lR 30 (1)) ++ (lR 31 (1)) ++ (lR 31 (1)) ++ (lR 30 (1)) ++ (lR 31 (1)) ++ (lR 30 (1)) ++ (lR 31 (1)) ++ (lR 31 (1)).take 7
def j7 : List Int := (lR 31 (-31)) ++ (lR 29 (-29)) ++ (lR 31 (-31)) ++ (lR 30 (-30)) ++ (lR 31 (-31)) ++ (lR 30 (-30)) ++ (lR 31 (-31)) ++ (lR 31 (-31)) ++ (lR 30 (-30)) ++ (lR 31 (-31)) ++ (lR 30 (-30)) ++ (lR 31 (-31)) ++ (lR 31 (-31)).take 7
def aAl : List Int := mQ.take 59 ++ mQ.drop 60
def aAf : List Int := m0.take 59 ++ m0.drop 60
def uX : List Int := j7.take 31 ++ j7.drop 32
def wd (k : Nat) : List Int := (List.replicate k [0, 1, 2, 3, 4, 5, 6]).flatten
def mmY (y : Int) : List Int := if Cal.leapB y then mQ else aAl
def mdY (y : Int) : List Int := if Cal.leapB y then m0 else aAf
def mM (y : Int) : List Int := if Cal.leapB y then j7 else uX
def rgY (y : Int) : List Int := if Cal.leapB y then [0, 31, 60, 91, 121, 152, 182, 213, 244, 274, 305, 335, 366] else [0, 31, 59, 90, 120, 151, 181, 212, 243, 273, 304, 334, 365]
def nY (y : Int) : Nat := if Cal.leapB y then 373 else 372
def ywd (y : Int) : Int := Cal.daysTo y % 7
end Go.Tab
namespace Go.Md
open Go.Tab
structure Ru where
 aP2 : Int
 aPp : Int
 aPq : Int
 d0 : Int
 u0 : Int
 u1 : Int
 aPz : List Int
 aPt : List Int
 aPu : List Int
 aPv : List Int
 aPw : List Int
 aPx : List Int
 wday : List Int
 nwd : List (Int × Int)
 hour : List Int
 aPr : List Int
 aPs : List Int
 aPy : List Int
 wnoF : Int -> List Int
 nwmF : Int -> Int -> List Int
 easF : Int -> List Int
structure It where
 y : Int
 mo : Int
 d : Int
 h : Int
 mi : Int
 s : Int
 wd : Int
 ly : Int
 lm : Int
 wno : List Int
 nwm : List Int
 eas : List Int
 ts : List Int
 aP3 : Int
 count : Int
 rem : List Int
 fin : Bool
def wK (aPt : List Int) (y i : Int) : Bool := aPt.length != 0 && !(aPt.any (· == (mmY y).getD i.toNat 0))
def tQ (aPx wno : List Int) (i : Int) : Bool := aPx.length != 0 && wno.getD i.toNat 0 == 0
def rM (wday : List Int) (y i : Int) : Bool := wday.length != 0 && !(wday.any (· == (ywd y + i) % 7))
def pI (nwm : List Int) (i : Int) : Bool := nwm.length != 0 && nwm.getD i.toNat 0 == 0
def u9 (aPy eas : List Int) (i : Int) : Bool := aPy.length != 0 && eas.getD i.toNat 0 == 0
def pJ (aPu aPv : List Int) (y i : Int) : Bool := (aPu.length != 0 || aPv.length != 0) && !(aPu.any (· == (mdY y).getD i.toNat 0)) && !(aPv.any (· == (mM y).getD i.toNat 0))
def nW (aPw : List Int) (y i : Int) : Bool := aPw.length != 0 &&
 ((decide (i < 365 + Cal.lp y) && !(aPw.any (· == i + 1)) && !(aPw.any (· == -(365 + Cal.lp y) + i))) ||
 (decide (365 + Cal.lp y <= i) && !(aPw.any (· == i + 1 - (365 + Cal.lp y))) && !(aPw.any (· == -(365 + Cal.lp (y + 1)) + i - (365 + Cal.lp y)))))
def bad (r : Ru) (it : It) (i : Int) : Bool := wK r.aPt it.ly i || tQ r.aPx it.wno i || rM r.wday it.ly i || pI it.nwm i || u9 r.aPy it.eas i || pJ r.aPu r.aPv it.ly i || nW r.aPw it.ly i
def aX (r : Ru) (it : It) : Int × Int :=
 if r.aP2 = 0 then (0, 365 + Cal.lp it.ly)
 else if r.aP2 = 1 then ((rgY it.ly).getD (it.mo - 1).toNat 0, (rgY it.ly).getD it.mo.toNat 0)
 else
  let i := Cal.ydayOf (Cal.dayNo it.y it.mo it.d)
  if r.aP2 = 2 then (i, i + 1 + (r.aPq - ywd it.ly - i - 1) % 7) else (i, i + 1)
def pH (ts : List Int) (ly i : Int) : List Int := ts.map fun t => (Cal.daysTo ly + i) * 86400 + t
def gV (r : Ru) (it : It) (t : Int) : It :=
 if it.fin then it
 else if r.u0 < t then { it with fin := true }
 else if t < r.d0 then it
 else if it.count = 0 then { it with aP3 := it.aP3 + 1, rem := it.rem ++ [t] }
 else { it with aP3 := it.aP3 + 1, rem := it.rem ++ [t], count := it.count - 1, fin := it.count - 1 == 0 }
def dD (r : Ru) (it : It) (l : List Int) : It := l.foldl (gV r) it
def kM (r : Ru) (it : It) (i : Int) : It := if bad r it i then it else dD r it (pH it.ts it.ly i)
def aB9 (r : Ru) (it : It) : It := (List.range ((aX r it).2 - (aX r it).1).toNat).foldl (fun o (k : Nat) => kM r o ((aX r it).1 + k)) it
def l4 (r : Ru) (it : It) : List Int := ((List.range ((aX r it).2 - (aX r it).1).toNat).map fun (k : Nat) => (aX r it).1 + (k : Int)).filter fun i => !bad r it i
def oI (r : Ru) (it : It) (pos : Int) : Option Int :=
 let n : Int := it.ts.length
 let p := if pos < 0 then pos else pos - 1
 let ds := l4 r it
 let q := if p / n < 0 then p / n + ds.length else p / n
 if q < 0 then none else (ds[q.toNat]?).map fun i => (Cal.daysTo it.ly + i) * 86400 + it.ts.getD (p % n).toNat 0
def jP (l : List Int) (t : Option Int) : List Int := match t with
 | some x => if l.any (· == x) then l else l ++ [x]
 | none => l
def iB (r : Ru) (it : It) : List Int := r.aPz.foldl (fun l p => jP l (oI r it p)) []
def eM (l : List Int) : List Int := l.mergeSort (fun a b => decide (a <= b))
def out (r : Ru) (it : It) : It := if r.aPz.length ≠ 0 /\ it.ts.length ≠ 0 then dD r it (eM (iB r it)) else aB9 r it
def cS (r : Ru) (it : It) : Bool := (List.range ((aX r it).2 - (aX r it).1).toNat).any fun (k : Nat) => bad r it ((aX r it).1 + k)
def reb (r : Ru) (it : It) (y m : Int) : It := { it with ly := y, lm := m, wno := if y = it.ly then it.wno else r.wnoF y, nwm := if y = it.ly /\ m = it.lm then it.nwm else r.nwmF y m, eas := r.easF y }
def fK (r : Ru) : Nat -> It -> It
 | 0, it => it
 | n + 1, it =>
  if it.d <= Cal.mdays it.mo it.y then reb r it it.y it.mo
  else if it.mo + 1 = 13 then
   if 9999 < it.y + 1 then { it with d := it.d - Cal.mdays it.mo it.y, mo := 1, y := it.y + 1, fin := true }
   else fK r n { it with d := it.d - Cal.mdays it.mo it.y, mo := 1, y := it.y + 1 }
  else fK r n { it with d := it.d - Cal.mdays it.mo it.y, mo := it.mo + 1 }
def fix (r : Ru) (it : It) : It := if it.d <= 28 \/ it.d <= Cal.mdays it.mo it.y then it else fK r it.d.toNat it
def nV (hs ms ss : List Int) : List Int := eM (hs.flatMap fun h => ms.flatMap fun m => ss.map fun s => h * 3600 + m * 60 + s)
def dJ (f : Int) : Int := if f = 4 then 24 else if f = 5 then 1440 else 86400
def cP (f : Int) (it : It) : Int := if f = 4 then it.h else if f = 5 then it.h * 60 + it.mi else it.h * 3600 + it.mi * 60 + it.s
def bY (f : Int) (it : It) (t : Int) : It := if f = 4 then { it with h := t } else if f = 5 then { it with h := t / 60, mi := t % 60 } else { it with h := t / 3600, mi := t / 60 % 60, s := t % 60 }
def aI (l : List Int) (x : Int) : Bool := l.length == 0 || l.any (· == x)
def cX (r : Ru) (it : It) : Bool := aI r.hour it.h && (decide (r.aP2 < 5) || aI r.aPr it.mi) && (decide (r.aP2 < 6) || aI r.aPs it.s)
def fill (r : Ru) (it : It) : List Int := if r.aP2 = 4 then nV [it.h] r.aPr r.aPs else if r.aP2 = 5 then nV [it.h] [it.mi] r.aPs else [it.h * 3600 + it.mi * 60 + it.s]
def n7 (p : Nat -> Bool) : Nat -> Nat -> Option Nat
 | 0, _ => none
 | f + 1, k => if p k then some k else n7 p f (k + 1)
def eK (r : Ru) (flt : Bool) (it : It) : Int := cP r.aP2 it + if flt then (dJ r.aP2 - 1 - cP r.aP2 it) / r.aPp * r.aPp else 0
def jL (r : Ru) (flt : Bool) (it : It) : Option Nat := n7 (fun k => cX r (bY r.aP2 it ((eK r flt it + k * r.aPp) % dJ r.aP2))) 100000 1
def aMu (r : Ru) (flt : Bool) (it : It) : It :=
 let t := eK r flt it + ((jL r flt it).getD 1 : Nat) * r.aPp
 let n := bY r.aP2 it (t % dJ r.aP2)
 fix r { n with d := it.d + t / dJ r.aP2, ts := fill r n }
def adv (r : Ru) (flt : Bool) (it : It) : It :=
 if r.aP2 = 0 then
  if 9999 < it.y + r.aPp then { it with y := it.y + r.aPp, fin := true }
  else reb r { it with y := it.y + r.aPp } (it.y + r.aPp) it.mo
 else if r.aP2 = 1 then
  let m := it.mo + r.aPp
  let mo := if m <= 12 then m else if m % 12 = 0 then 12 else m % 12
  let y := if m <= 12 then it.y else if m % 12 = 0 then it.y + m / 12 - 1 else it.y + m / 12
  if 9999 < y then { it with y := y, mo := mo, fin := true } else reb r { it with y := y, mo := mo } y mo
 else if r.aP2 = 2 then
  fix r { it with d := it.d + (if it.wd < r.aPq then -(it.wd + 1 + (6 - r.aPq)) + r.aPp * 7 else -(it.wd - r.aPq) + r.aPp * 7), wd := r.aPq }
 else if r.aP2 = 3 then fix r { it with d := it.d + r.aPp }
 else aMu r flt it
def eS (r : Ru) (it : It) : It := if (out r it).fin then out r it else adv r (cS r it) (out r it)
inductive Gen (r : Ru) : Nat -> It -> It -> Prop
 | done {n : Nat} {it : It} (h : it.rem ≠ []) : Gen r n it it
 | fin {n : Nat} {it : It} (h : it.rem = []) (hf : (eS r it).fin = true) : Gen r (n + 1) it (eS r it)
 | more {n : Nat} {it it' : It} (h : it.rem = []) (hf : (eS r it).fin = false) (hn : Gen r n (eS r it) it') : Gen r (n + 1) it it'
end Go.Md
namespace Go.Fr
open Go.RowKit
def lkp {α : Type} (k : Nat) : List (Nat × α) -> Option α
 | [] => none
 | (j, v) :: r => match Nat.beq k j with
  | true => some v
  | false => lkp k r
theorem bJ {α : Type} (k : Nat) (v : α) (r : List (Nat × α)) : lkp k ((k, v) :: r) = some v := by simp [lkp]
theorem aA {α : Type} {k j : Nat} (h : k ≠ j) (v : α) (r : List (Nat × α)) : lkp k ((j, v) :: r) = lkp k r := by
 have : Nat.beq k j = false := by
  cases hb : Nat.beq k j with
  | true => exact absurd (Nat.eq_of_beq_eq_true hb) h
  | false => rfl
 simp [lkp, this]
theorem bD {α : Type} {k j : Nat} {v u : α} {r : List (Nat × α)} (h : lkp k ((j, v) :: r) = some u) : (k = j /\ v = u) \/ (k ≠ j /\ lkp k r = some u) := by
 by_cases e : k = j
 .subst e; rw [bJ] at h; exact .inl ⟨rfl, by simpa using h⟩
 .rw [aA e] at h; exact .inr ⟨e, h⟩
abbrev Loc := LV
def ev (L : Loc) : Operand -> Option Value
 | .tmp t => lkp t L
 | .const v => some v
 | .global g => some (.pointer (some ⟨g, 0, none⟩))
 | .func f => some (.func (.func f) #[] #[])
structure Kn (N : Nat) (L : Loc) (a : Act) : Prop where
 size : a.tmps.size = N
 get : ∀ t v, lkp t L = some v -> a.tmps[t]? = some v
 defers : a.defers = []
theorem Kn.eval {N : Nat} {L : Loc} {a : Act} (h : Kn N L a) {x : Operand} {v : Value} (hx : ev L x = some v) : a.eval x = v := by
 cases x with
 | tmp t =>
  have := h.get t v hx
  show a.tmps.getD t undef = v
  rw [Array.getD_eq_getD_getElem?, this]; rfl
 | const u => exact Option.some.inj hx
 | global g => exact Option.some.inj hx
 | func f => exact Option.some.inj hx
theorem Kn.put {N : Nat} {L : Loc} {a : Act} (h : Kn N L a) {d : Nat} (hd : d < N) (v : Value) : Kn N ((d, v) :: L) (a.put (some d) v) where
 size := by simp [Act.put, h.size]
 get := fun t u hl => by
  rcases bD hl with ⟨rfl, rfl⟩ | ⟨hne, hl⟩
  .simp [Act.put, h.size, hd]
  .simp only [Act.put]
   rw [Array.getElem?_setIfInBounds_ne (fun e => hne e.symm)]
   exact h.get t u hl
 defers := h.defers
theorem Kn.nil {N : Nat} {L : Loc} {a : Act} (h : Kn N L a) : Kn N [] a := ⟨h.size, fun _ _ hl => by simp [lkp] at hl, h.defers⟩
theorem Kn.cons {N : Nat} {L L' : Loc} {a : Act} (h : Kn N L a) {t : Nat} {v : Value} (hv : lkp t L = some v) (r : Kn N L' a) : Kn N ((t, v) :: L') a where
 size := h.size
 get := fun k u hl => by
  rcases bD hl with ⟨rfl, rfl⟩ | ⟨_, hl⟩
  .exact h.get _ _ hv
  .exact r.get _ _ hl
 defers := h.defers
theorem Kn.start {args : Array Value} {N : Nat} (hN : args.size <= N) : Kn N (args.toList.zipIdx.map fun p => (p.2, p.1)) { tmps := args ++ Array.replicate (N - args.size) undef, defers := [] } where
 size := by simp; omega
 get := fun t v hl => by
  have key : ∀ (l : List Value) (k : Nat), lkp t ((l.zipIdx k).map fun p => (p.2, p.1)) = some v -> k <= t /\ l[t - k]? = some v := by
   intro l
   induction l with
   | nil => intro k h; simp [lkp] at h
   | cons x l ih =>
    intro k h
    simp only [List.zipIdx_cons, List.map_cons] at h
    rcases bD h with ⟨rfl, rfl⟩ | ⟨hne, h⟩
    .simp
    .obtain ⟨h1, h2⟩ := ih (k + 1) h
     refine ⟨by omega, ?_⟩
     rw [show t - k = (t - (k + 1)) + 1 by omega]
     simpa using h2
  obtain ⟨_, h2⟩ := key args.toList 0 hl
  have h3 : args[t]? = some v := by simpa using h2
  have hlt : t < args.size := by
   rcases Nat.lt_or_ge t args.size with h | h
   .exact h
   .simp [Array.getElem?_eq_none h] at h3
  show (args ++ _)[t]? = some v
  rw [Array.getElem?_append_left hlt]; exact h3
 defers := rfl
structure Slc where
 v : Value
 e : TypeId
 sz : Nat
 n : Nat
 xs : List Value
def ky (k o : Nat) : Nat := k * 4096 + o
structure Sees (F : Nat -> Prop) (w0 : World) (B : LN) (H : LV) (S : List (Nat × Slc)) (w : World) : Prop where
 os : w.os = w0.os
 tape : w.tape = w0.tape
 output : w.output = w0.output
 size : w0.heap.size <= w.heap.size
 frame : ∀ k, k < w0.heap.size -> ¬ F k -> w.heap[k]? = w0.heap[k]?
 nodup : ∀ i j b, lkp i B = some b -> lkp j B = some b -> i = j
 lt : ∀ k b, lkp k B = some b -> b < w.heap.size
 may : ∀ k b, lkp k B = some b -> b < w0.heap.size -> F b
 cells : ∀ k o v, o < 4096 -> lkp (ky k o) H = some v -> ∃ b, lkp k B = some b /\ w.cell? ⟨b, o, none⟩ = some v /\ w.frozen? ⟨b, o, none⟩ = false
 slcs : ∀ k s, lkp k S = some s -> w.ownsRow 0 s.e s.sz s.v s.n s.xs
 smay : ∀ k s b, lkp k S = some s -> s.v.ownBlock = some b -> b < w0.heap.size -> F b
 snot : ∀ k s b i, lkp k S = some s -> s.v.ownBlock = some b -> lkp i B ≠ some b
 sapart : ∀ i j s t b, lkp i S = some s -> lkp j S = some t -> i ≠ j -> s.v.ownBlock = some b -> t.v.ownBlock ≠ some b
theorem xZ {α : Type} {k : Nat} {l r : List (Nat × α)} {v : α} (h : lkp k (l ++ r) = some v) : lkp k l = some v \/ lkp k r = some v := by
 induction l with
 | nil => exact .inr h
 | cons p l ih =>
  obtain ⟨j, u⟩ := p
  rcases bD h with ⟨rfl, rfl⟩ | ⟨hne, h⟩
  .exact .inl (bJ _ _ _)
  .rw [aA hne]; exact ih h
section
variable {F : Nat -> Prop} {w0 : World} {B : LN} {H : LV} {S : List (Nat × Slc)} {w : World}
theorem Sees.start (F : Nat -> Prop) (w : World) : Sees F w [] [] [] w where
 os := rfl
 tape := rfl
 output := rfl
 size := Nat.le_refl _
 frame := fun _ _ _ => rfl
 nodup := fun _ _ _ hl => by simp [lkp] at hl
 lt := fun _ _ hl => by simp [lkp] at hl
 may := fun _ _ hl => by simp [lkp] at hl
 cells := fun _ _ _ _ hl => by simp [lkp] at hl
 slcs := fun _ _ hl => by simp [lkp] at hl
 smay := fun _ _ _ hl => by simp [lkp] at hl
 snot := fun _ _ _ _ hl => by simp [lkp] at hl
 sapart := fun _ _ _ _ _ hl => by simp [lkp] at hl
theorem Sees.below (h : Sees F w0 B H S w) {w' : World} (hb : Below w.heap.size w w') : Sees F w0 B H S w' where
 os := hb.os.trans h.os
 tape := hb.tape.trans h.tape
 output := hb.output.trans h.output
 size := Nat.le_trans h.size hb.size
 frame := fun k hk hF => (hb.block k (Nat.lt_of_lt_of_le hk h.size)).trans (h.frame k hk hF)
 nodup := h.nodup
 lt := fun k b hb' => Nat.lt_of_lt_of_le (h.lt k b hb') hb.size
 may := h.may
 cells := fun k o v ho hl => by
  obtain ⟨b, e, hc, hf⟩ := h.cells k o v ho hl
  have hlt := h.lt k b e
  exact ⟨b, e, (hb.cell (p := ⟨b, o, none⟩) hlt).trans hc, (hb.frozen (p := ⟨b, o, none⟩) hlt).trans hf⟩
 slcs := fun k s hl => (h.slcs k s hl).kept (row := none) ⟨hb.os, hb.tape, hb.output, hb.size, fun i hi _ => hb.block i hi⟩ (by cases s.v.ownBlock <;> simp)
 smay := h.smay
 snot := h.snot
 sapart := h.sapart
theorem Sees.drew (h : Sees F w0 B H S w) : Sees F w0 B H S { w with drawn := w.drawn + 1 } := h.below (w' := w.drew) (Below.refl _ _).drew
theorem Sees.cell (h : Sees F w0 B H S w) {k b o : Nat} (hb : lkp k B = some b) (ho : o < 4096) {v : Value} (hl : lkp (ky k o) H = some v) : w.cell? ⟨b, o, none⟩ = some v := by
 obtain ⟨b', e, hc, _⟩ := h.cells k o v ho hl
 rw [hb] at e; cases e; exact hc
theorem Sees.free (h : Sees F w0 B H S w) {k b o : Nat} (hb : lkp k B = some b) (ho : o < 4096) {v : Value} (hl : lkp (ky k o) H = some v) : w.frozen? ⟨b, o, none⟩ = false := by
 obtain ⟨b', e, _, hf⟩ := h.cells k o v ho hl
 rw [hb] at e; cases e; exact hf
theorem Sees.aPo (h : Sees F w0 B H S w) {p : Addr} {v : Value} (hc : w0.cell? p = some v) (hF : ¬ F p.block) : w.cell? p = some v :=
 (World.cell?_of_block (w := w0) (h.frame p.block (World.block_lt_of_cell? w0 p hc) hF)).trans hc
theorem aGc {w : World} {base n sz : Nat} {e : TypeId} {v : Value} {xs : List Value} (h : w.ownsRow base e sz v n xs) {b : Nat} (hb : v.ownBlock = some b) : b < w.heap.size := (h.lt b hb).2
theorem tC {w : World} {base n sz : Nat} {e : TypeId} {v : Value} {xs : List Value} (h : w.ownsRow base e sz v n xs) {b off len cap : Nat} (hv : v = .slice (some ⟨b, off, none⟩) len cap) : v.ownBlock = some b /\ off = 0 /\ len = n := by
 subst hv
 rcases h.2 with ⟨e, _⟩ | ⟨g, c, cur, e, _⟩
 .cases e
 .injection e with e1 e2 e3
  injection e1 with e1
  injection e1 with e4 e5 _
  subst e2 e4
  exact ⟨rfl, e5, rfl⟩
theorem Sees.aPl (h : Sees F w0 B H S w) {k b o len cap : Nat} {s : Slc} (hl : lkp k S = some s) (hv : s.v = .slice (some ⟨b, 0, none⟩) len cap) {v : Value} (hx : s.xs[o]? = some v) : w.cell? ⟨b, o, none⟩ = some v := by
 have ho := h.slcs k s hl
 have := ho.cells (tC ho hv).1 o v hx
 rwa [Addr.add_mid, Nat.zero_add] at this
theorem Sees.tag_ne (h : Sees F w0 B H S w) {k k' b b' : Nat} (hb : lkp k B = some b) (hb' : lkp k' B = some b') (hne : k ≠ k') : b ≠ b' := by
 intro e; subst e
 exact hne (h.nodup _ _ _ hb hb')
theorem iA {k o k' o' : Nat} (h : o < 4096) (h' : o' < 4096) (e : ky k o = ky k' o') : k = k' /\ o = o' := by
 unfold ky at e; omega
theorem Sees.set (h : Sees F w0 B H S w) {k b o : Nat} (hb : lkp k B = some b) (ho : o < 4096) {u : Value} (hl : lkp (ky k o) H = some u) (v : Value) :
  Sees F w0 B ((ky k o, v) :: H) S (w.setCell ⟨b, o, none⟩ v) where
 os := h.os
 tape := h.tape
 output := h.output
 size := by simpa [World.setCell] using h.size
 frame := fun j hj hF => (Below.heap_setCell w ⟨b, o, none⟩ v j (fun e => hF (by subst e; exact h.may _ _ hb hj))).trans (h.frame j hj hF)
 nodup := h.nodup
 lt := fun k' b' hb' => by simpa [World.setCell] using h.lt k' b' hb'
 may := h.may
 cells := fun k' o' v' ho' hl' => by
  rcases bD hl' with ⟨e, rfl⟩ | ⟨hne, hl'⟩
  .obtain ⟨rfl, rfl⟩ := iA ho' ho e
   refine ⟨b, hb, ?_, ?_⟩
   .have hc := h.cell hb ho hl
    have hlt := h.lt k' b hb
    simp only [World.cell?, World.setCell, Array.getElem?_modify, if_true] at hc ⊢
    cases hq : w.heap[b]? with
    | none => rw [hq] at hc; simp at hc
    | some ob =>
     rw [hq] at hc
     cases ob <;> simp_all
     rename_i c e1 fr
     have : o' < c.size := by
      rcases Nat.lt_or_ge o' c.size with h' | h'
      .exact h'
      .simp [Array.getElem?_eq_none h'] at hc
     simp [this]
   .have hf := h.free hb ho hl
    simp only [World.frozen?, World.setCell, Array.getElem?_modify, if_true] at hf ⊢
    cases hq : w.heap[b]? with
    | none => simp
    | some ob =>
     rw [hq] at hf
     cases ob <;> simp_all
  .obtain ⟨b', e, hc, hf⟩ := h.cells k' o' v' ho' hl'
   refine ⟨b', e, ?_, ?_⟩
   .by_cases hbb : b' = b
    .subst hbb
     have hoo : o' ≠ o := by
      rintro rfl
      by_cases hkk : k' = k
      .subst hkk; exact hne rfl
      .exact h.tag_ne e hb hkk rfl
     simp only [World.cell?, World.setCell, Array.getElem?_modify, if_true] at hc ⊢
     cases hq : w.heap[b']? with
     | none => rw [hq] at hc; simp at hc
     | some ob =>
      rw [hq] at hc
      cases ob <;> simp_all
      rw [Array.getElem?_setIfInBounds_ne (fun e => hoo e.symm)]; exact hc
    .rw [World.cell?_of_block (w := w) (Below.heap_setCell w ⟨b, o, none⟩ v b' hbb)]; exact hc
   .by_cases hbb : b' = b
    .subst hbb
     simp only [World.frozen?, World.setCell, Array.getElem?_modify, if_true] at hf ⊢
     cases hq : w.heap[b']? with
     | none => simp
     | some ob =>
      rw [hq] at hf
      cases ob <;> simp_all
    .rw [World.frozen?_of_block (w := w) (Below.heap_setCell w ⟨b, o, none⟩ v b' hbb)]; exact hf
 slcs := fun k' s hl' => (h.slcs k' s hl').kept (row := some b) ⟨rfl, rfl, rfl, by simp [World.setCell], fun i _ hi => Below.heap_setCell w ⟨b, o, none⟩ v i (fun e => hi (by rw [e]))⟩ (by
  cases hq : s.v.ownBlock with
  | none => exact .inl rfl
  | some b' => exact .inr fun e => h.snot k' s b' k hl' hq (by injection e with e; rw [e]; exact hb))
 smay := h.smay
 snot := h.snot
 sapart := h.sapart
def aL (k : Nat) : Nat -> List Value -> LV
 | _, [] => []
 | o, v :: r => (ky k o, v) :: aL k (o + 1) r
theorem qI {k : Nat} : ∀ (cs : List Value) (o : Nat) (q : Nat) (v : Value), lkp q (aL k o cs) = some v -> ∃ j, q = ky k (o + j) /\ cs[j]? = some v
 | [], _, _, _, h => by simp [aL, lkp] at h
 | x :: r, o, q, v, h => by
  rcases bD h with ⟨rfl, rfl⟩ | ⟨_, h⟩
  .exact ⟨0, rfl, rfl⟩
  .obtain ⟨j, hj, hc⟩ := qI r (o + 1) q v h
   exact ⟨j + 1, by rw [hj]; congr 1; omega, hc⟩
structure Lim (m : Nat) (B : LN) (H : LV) (S : List (Nat × Slc)) : Prop where
 b : ∀ k, m <= k -> lkp k B = none
 h : ∀ k, m <= k -> ∀ o, o < 4096 -> lkp (ky k o) H = none
 s : ∀ k, m <= k -> lkp k S = none
theorem Sees.alloc (h : Sees F w0 B H S w) (cs : List Value) (t : TypeId) (k : Nat) (hk : lkp k B = none) (hkH : ∀ o, o < 4096 -> lkp (ky k o) H = none) (hs : cs.length <= 4096) :
  Sees F w0 ((k, w.heap.size) :: B) (aL k 0 cs ++ H) S (w.alloc (.cells cs.toArray t (0, 0))) where
 os := h.os
 tape := h.tape
 output := h.output
 size := by simpa using Nat.le_succ_of_le h.size
 frame := fun j hj hF => (Below.heap_alloc _ _ _ (Nat.lt_of_lt_of_le hj h.size)).trans (h.frame j hj hF)
 nodup := fun i j b hi hj => by
  rcases bD hi with ⟨rfl, rfl⟩ | ⟨hne, hi1⟩ <;> rcases bD hj with ⟨rfl, e⟩ | ⟨hne', hj1⟩
  .rfl
  .exact absurd (h.lt _ _ hj1) (Nat.lt_irrefl _)
  .subst e; exact absurd (h.lt _ _ hi1) (Nat.lt_irrefl _)
  .exact h.nodup i j b hi1 hj1
 lt := fun j b hj => by
  rcases bD hj with ⟨rfl, rfl⟩ | ⟨_, hj1⟩
  .simp
  .have := h.lt j b hj1; simp; omega
 may := fun j b hj hlt => by
  rcases bD hj with ⟨rfl, rfl⟩ | ⟨_, hj1⟩
  .exact absurd h.size oM
  .exact h.may j b hj1 hlt
 cells := fun k' o v ho hl => by
  by_cases hkk : k' = k
  .subst hkk
   rcases xZ hl with hl | hl
   .obtain ⟨j, e, hc⟩ := qI cs 0 _ v hl
    have hj : j < cs.length := by
     rcases Nat.lt_or_ge j cs.length with h' | h'
     .exact h'
     .simp [List.getElem?_eq_none h'] at hc
    obtain ⟨_, rfl⟩ := iA ho oM e
    refine ⟨w.heap.size, bJ _ _ _, ?_, ?_⟩
    .simp only [World.cell?, heap_alloc_new]
     simpa using hc
    .simp only [World.frozen?, heap_alloc_new]
     simp
   .rw [hkH o ho] at hl; cases hl
  .have hl1 : lkp (ky k' o) H = some v := by
    rcases xZ hl with hl | hl
    .obtain ⟨j, e, hc⟩ := qI cs 0 _ v hl
     have hj : j < cs.length := by
      rcases Nat.lt_or_ge j cs.length with h' | h'
      .exact h'
      .simp [List.getElem?_eq_none h'] at hc
     exact absurd (iA ho oM e).1 hkk
    .exact hl
   obtain ⟨b, e, hc, hf⟩ := h.cells k' o v ho hl1
   have hlt := h.lt k' b e
   have hb := Below.heap_alloc w (.cells cs.toArray t (0, 0)) b hlt
   exact ⟨b, by rw [aA hkk]; exact e, (World.cell?_of_block (w := w) (a := ⟨b, o, none⟩) hb).trans hc, (World.frozen?_of_block (w := w) (a := ⟨b, o, none⟩) hb).trans hf⟩
 slcs := fun k' s hl => (h.slcs k' s hl).alloc _
 smay := h.smay
 snot := fun k' s b i hl hb hm => by
  rcases bD hm with ⟨rfl, rfl⟩ | ⟨_, hm1⟩
  .exact Nat.lt_irrefl _ (aGc (h.slcs k' s hl) hb)
  .exact h.snot k' s b i hl hb hm1
 sapart := h.sapart
theorem Sees.slice (h : Sees F w0 B H S w) {w' : World} {k : Nat} {s' : Slc} {old : Option Nat} (hold : old = none \/ ∃ s, lkp k S = some s /\ s.v.ownBlock = old) (hg : w.grownBy w' old) (hown : w'.ownsRow 0 s'.e s'.sz s'.v s'.n s'.xs)
  (hat : s'.v.ownBlock = none \/ (old ≠ none /\ s'.v.ownBlock = old) \/ ∃ g, s'.v.ownBlock = some g /\ w.heap.size <= g) : Sees F w0 B H ((k, s') :: S) w' := by
 have hB : ∀ i b, lkp i B = some b -> some b ≠ old := fun i b hb e => by
  rcases hold with e1 | ⟨s, hs, e1⟩
  .rw [e1] at e; cases e
  .exact h.snot k s b i hs (e1.trans e.symm) hb
 have hblk : ∀ i, i < w.heap.size -> some i ≠ old -> w'.heap[i]? = w.heap[i]? := hg.block
 have hother : ∀ j t b, lkp j S = some t -> j ≠ k -> t.v.ownBlock = some b -> some b ≠ old := fun j t b hj hjk hb e => by
  rcases hold with e1 | ⟨s, hs, e1⟩
  .rw [e1] at e; cases e
  .exact h.sapart j k t s b hj hs hjk hb (e1.trans e.symm)
 have hnew : ∀ b, s'.v.ownBlock = some b -> (∀ i, lkp i B ≠ some b) /\ (∀ j t, lkp j S = some t -> j ≠ k -> t.v.ownBlock ≠ some b) /\ (b < w0.heap.size -> F b) := fun b hb => by
  rcases hat with e | ⟨hne, e⟩ | ⟨g, e, hge⟩
  .rw [e] at hb; cases hb
  .rcases hold with e1 | ⟨s, hs, e1⟩
   .exact absurd e1 hne
   .have hsb : s.v.ownBlock = some b := e1.trans (e.symm.trans hb)
    exact ⟨fun i => h.snot k s b i hs hsb, fun j t hj hjk hb' => h.sapart j k t s b hj hs hjk hb' hsb, h.smay k s b hs hsb⟩
  .rw [e] at hb; cases hb
   exact ⟨fun i hm => absurd (h.lt _ _ hm) oM, fun j t hj _ hb' => absurd (aGc (h.slcs j t hj) hb') oM, fun hlt => absurd h.size oM⟩
 constructor
 case os => exact hg.os.trans h.os
 case tape => exact hg.tape.trans h.tape
 case output => exact hg.output.trans h.output
 case size => exact Nat.le_trans h.size hg.size
 case frame =>
  intro j hj hF
  refine (hblk j (Nat.lt_of_lt_of_le hj h.size) fun e => hF ?_).trans (h.frame j hj hF)
  rcases hold with e1 | ⟨s, hs, e1⟩
  .rw [e1] at e; cases e
  .exact h.smay k s j hs (e1.trans e.symm) hj
 case nodup => exact h.nodup
 case lt => exact fun k b hb => Nat.lt_of_lt_of_le (h.lt k b hb) hg.size
 case may => exact h.may
 case cells =>
  intro k' o v ho hl
  obtain ⟨b, e, hc, hf⟩ := h.cells k' o v ho hl
  have hb := hblk b (h.lt k' b e) (hB k' b e)
  exact ⟨b, e, (World.cell?_of_block (w := w) (a := ⟨b, o, none⟩) hb).trans hc, (World.frozen?_of_block (w := w) (a := ⟨b, o, none⟩) hb).trans hf⟩
 case slcs =>
  intro j t hj
  rcases bD hj with ⟨rfl, rfl⟩ | ⟨hne, hj⟩
  .exact hown
  .exact (h.slcs j t hj).kept (row := old) hg (by
    cases hq : t.v.ownBlock with
    | none => exact .inl rfl
    | some b => exact .inr (hother j t b hj hne hq))
 case smay =>
  intro j t b hj hb
  rcases bD hj with ⟨rfl, rfl⟩ | ⟨hne, hj⟩
  .exact (hnew b hb).2.2
  .exact h.smay j t b hj hb
 case snot =>
  intro j t b i hj hb
  rcases bD hj with ⟨rfl, rfl⟩ | ⟨hne, hj⟩
  .exact (hnew b hb).1 i
  .exact h.snot j t b i hj hb
 case sapart =>
  intro i j s t b hi hj hij hb
  rcases bD hi with ⟨rfl, rfl⟩ | ⟨hne, hi1⟩ <;> rcases bD hj with ⟨rfl, rfl⟩ | ⟨hne', hj1⟩
  .exact absurd rfl hij
  .exact (hnew b hb).2.1 j t hj1 hne'
  .intro hb'; exact (hnew b hb').2.1 i s hi1 hne hb
  .exact h.sapart i j s t b hi1 hj1 hij hb
theorem Sees.to (h : Sees F w0 B H S w) {B' : LN} {H' : LV} {S' : List (Nat × Slc)} (hB : ∀ k b, lkp k B' = some b -> lkp k B = some b)
  (hH : ∀ k o v, o < 4096 -> lkp (ky k o) H' = some v -> lkp (ky k o) H = some v /\ (lkp k B').isSome = true)
  (hS : ∀ k s, lkp k S' = some s -> lkp k S = some s) : Sees F w0 B' H' S' w where
 os := h.os
 tape := h.tape
 output := h.output
 size := h.size
 frame := h.frame
 nodup := fun i j b hi hj => h.nodup i j b (hB i b hi) (hB j b hj)
 lt := fun k b hb => h.lt k b (hB k b hb)
 may := fun k b hb => h.may k b (hB k b hb)
 cells := fun k o v ho hl => by
  obtain ⟨hl', hi⟩ := hH k o v ho hl
  obtain ⟨b, e, hc, hf⟩ := h.cells k o v ho hl'
  obtain ⟨b', e'⟩ := Option.isSome_iff_exists.1 hi
  have := hB k b' e'
  rw [e] at this; cases this
  exact ⟨b, e', hc, hf⟩
 slcs := fun k s hl => h.slcs k s (hS k s hl)
 smay := fun k s b hl => h.smay k s b (hS k s hl)
 snot := fun k s b i hl hb hm => h.snot k s b i (hS k s hl) hb (hB i b hm)
 sapart := fun i j s t b hi hj => h.sapart i j s t b (hS i s hi) (hS j t hj)
end
end Go.Fr
namespace Go.Fr
abbrev pT (b : Nat) : Value := .pointer (some ⟨b, 0, none⟩)
abbrev sL (b n c : Nat) : Value := .slice (some ⟨b, 0, none⟩) n c
abbrev iV (n : Int) : Value := .int .i64 n
abbrev sN : Value := .slice none 0 0
abbrev nI (b n c : Nat) : Value := .iface 141 (sL b n c)
abbrev zL0 : List Value := [iV 0, iV 0, iV 0, iV 0, iV 0, iV 0, iV 0, sN, sN, sN, sN, sN, sN, sN, sN]
abbrev zL1 : List Value := [iV 0, iV 0, iV 0, iV 0, iV 0, iV 0, iV 0, iV 0, iV 0, sN, sN, sN, sN, sN, sN, sN, sN, sN, sN, iV 0, iV 0, iV 0, iV 0, iV 0, iV 0, iV 0, iV 0, iV 0, sN, sN, sN, sN, sN, sN, sN, sN, sN, sN, iV 0, iV 0, iV 0, iV 0, iV 0, iV 0, iV 0, iV 0, sN, sN, sN, sN, sN, sN, sN, sN, sN, sN, sN, sN, sN, iV 0]
abbrev zL2 : List Value := [iV 0, iV 0, iV 0, iV 0, iV 0, iV 0, iV 0, iV 0, iV 0, sN, sN, sN, sN, sN, sN, sN, sN, sN, sN]
abbrev zL3 : List Value := [.int .u8 0, .bool false, iV 0, iV 0, iV 0, iV 0, .bool false, iV 0, sN, sN, sN, sN, sN, sN, sN, sN, sN, sN]
abbrev LS := List (Nat × Slc)
end Go.Fr
namespace Go.Fr
open Go.RowKit
def GE (Q : Exit -> Act -> World -> Prop) (e : Exit) (N : Nat) (L : Loc) (F : Nat -> Prop) (w0 : World) (B : LN) (H : LV) (S : LS) : Prop :=
 ∀ a w, Kn N L a -> Sees F w0 B H S w -> Q e a w
def GC (P : Program) (c : Code) (Q : Exit -> Act -> World -> Prop) (N : Nat) (L : Loc) (F : Nat -> Prop) (w0 : World) (B : LN) (H : LV) (S : LS) : Prop :=
 ∀ a w, Kn N L a -> Sees F w0 B H S w -> c.wp P Q a w
def GK (K : Act -> World -> Prop) (N : Nat) (L : Loc) (F : Nat -> Prop) (w0 : World) (B : LN) (H : LV) (S : LS) : Prop :=
 ∀ a w, Kn N L a -> Sees F w0 B H S w -> K a w
abbrev GL (P : Program) (ops : Array Oper) (Q : Exit -> Act -> World -> Prop) (l : List Oper) (N : Nat) (L : Loc) (F : Nat -> Prop) (w0 : World) (B : LN) (H : LV) (S : LS) : Prop :=
 GK (wpList P ops Q l) N L F w0 B H S
def GO (P : Program) (o : Oper) (Q : Exit -> Act -> World -> Prop) (K : Act -> World -> Prop) (N : Nat) (L : Loc) (F : Nat -> Prop) (w0 : World) (B : LN) (H : LV) (S : LS) : Prop :=
 ∀ a w, Kn N L a -> Sees F w0 B H S w -> o.wp P a w K Q
def GQ (P : Program) (ops : Array Oper) (Q : Exit -> Act -> World -> Prop) (l : List Oper) (N : Nat) (L : Loc) (F : Nat -> Prop) (w0 : World) (B : LN) (H : LV) (S : LS) : Prop :=
 ∀ a, Kn N L a -> wpQuiet P ops (Sees F w0 B H S) (fun a' => ∀ w', Sees F w0 B H S w' -> Q .normal a' w') l a
def GT (P : Program) (ops : Array Oper) (Q : Exit -> Act -> World -> Prop) (tl : List Oper) (l : List Oper) (N : Nat) (L : Loc) (F : Nat -> Prop) (w0 : World) (B : LN) (H : LV) (S : LS) : Prop :=
 ∀ a w, Kn N L a -> Sees F w0 B H S w -> wpStill P ops w (fun a' => wpList P ops Q tl a' w) l a
section
variable {P : Program} {Q Q' : Exit -> Act -> World -> Prop} {K : Act -> World -> Prop} {N : Nat} {L : Loc} {F : Nat -> Prop} {w0 : World} {B : LN} {H : LV} {S : LS}
variable {c x y : Code} {id : Nat} {l tl rest : List Oper} {ops : Array Oper}
theorem aLl (h : GC P y Q' N L F w0 B H S) : GE (Exit.then (y.wp P Q') Q) .normal N L F w0 B H S := h
theorem aB4 {i : Nat} (h : GE Q (.exit i) N L F w0 B H S) : GE (Exit.then K Q) (.exit i) N L F w0 B H S := h
theorem pQ (h : GE Q .ret N L F w0 B H S) : GE (Exit.then K Q) .ret N L F w0 B H S := h
theorem aL2 (h : GE Q .normal N L F w0 B H S) : GE (Exit.inBlock id Q) .normal N L F w0 B H S := h
theorem uP (h : GE Q .ret N L F w0 B H S) : GE (Exit.inBlock id Q) .ret N L F w0 B H S := h
theorem aEw (h : GE Q .normal N L F w0 B H S) : GE (Exit.inBlock id Q) (.exit id) N L F w0 B H S := fun a w k s => by simp only [Exit.inBlock, if_true]; exact h a w k s
theorem aCq {i : Nat} (hne : i ≠ id) (h : GE Q (.exit i) N L F w0 B H S) : GE (Exit.inBlock id Q) (.exit i) N L F w0 B H S := fun a w k s => by simp only [Exit.inBlock, if_neg hne]; exact h a w k s
theorem aLg (h : GE Q .normal N L F w0 B H S) : GC P .skip Q N L F w0 B H S := fun a w k s => wp_skip (h a w k s)
theorem aMj (h : GE Q .ret N L F w0 B H S) : GC P .ret Q N L F w0 B H S := fun a w k s => wp_ret (h a w k s)
theorem aK5 (h : GE Q (.exit id) N L F w0 B H S) : GC P (.exit id) Q N L F w0 B H S := fun a w k s => wp_exit (h a w k s)
theorem aH7 (h : GC P x (Exit.then (y.wp P Q) Q) N L F w0 B H S) : GC P (.seq x y) Q N L F w0 B H S := fun a w k s => wp_seq (h a w k s)
theorem aDy (h : GC P c (Exit.inBlock id Q) N L F w0 B H S) : GC P (.block id c) Q N L F w0 B H S := fun a w k s => wp_block (h a w k s)
theorem aF9 {o : Operand} (hc : ev L o = some (.bool true)) (h : GC P x Q N L F w0 B H S) : GC P (.cond o x y) Q N L F w0 B H S := fun a w k s => wp_cond_true (k.eval hc) (h a w k s)
theorem aC6 {o : Operand} (hc : ev L o = some (.bool false)) (h : GC P y Q N L F w0 B H S) : GC P (.cond o x y) Q N L F w0 B H S := fun a w k s => wp_cond_false (k.eval hc) (h a w k s)
theorem bK {o : Operand} {b : Bool} (hc : ev L o = some (.bool b)) (hb : b = true) (h : GC P x Q N L F w0 B H S) : GC P (.cond o x y) Q N L F w0 B H S := by subst hb; exact aF9 hc h
theorem aU {o : Operand} {b : Bool} (hc : ev L o = some (.bool b)) (hb : b = false) (h : GC P y Q N L F w0 B H S) : GC P (.cond o x y) Q N L F w0 B H S := by subst hb; exact aC6 hc h
theorem aB {o : Operand} {b : Bool} (hc : ev L o = some (.bool b)) (ht : b = true -> GC P x Q N L F w0 B H S) (hf : b = false -> GC P y Q N L F w0 B H S) : GC P (.cond o x y) Q N L F w0 B H S := by
 cases b with
 | true => exact aF9 hc (ht rfl)
 | false => exact aC6 hc (hf rfl)
theorem aAj (h : GL P l.toArray Q l N L F w0 B H S) : GC P (.region id l.toArray false) Q N L F w0 B H S := fun a w k s => wp_region_lit (h a w k s)
theorem aCx (hm : P.follows .mixedOrders = true) (hB : Region.lexB .any l.toArray = true) (h : GQ P l.toArray Q l N L F w0 B H S) : GC P (.region id l.toArray true) Q N L F w0 B H S := fun a w k s =>
 wp_region_quiet (C := Sees F w0 B H S) hm hB s.drew (by simpa using h a k)
theorem dH (n : Nat) (hm : P.follows .mixedOrders = true) (hB : Region.lexTailB .any l.toArray n = true) (h : GT P l.toArray Q (l.drop n) (l.take n) N L F w0 B H S) : GC P (.region id l.toArray true) Q N L F w0 B H S := fun a w k s =>
 wp_region_still_tail n hm hB (h a _ k s.drew)
theorem dO {L' : Loc} {B' : LN} {H' : LV} {S' : LS} (hL : ∀ a, Kn N L a -> Kn N L' a) (hS : ∀ w, Sees F w0 B H S w -> Sees F w0 B' H' S' w) (h : GC P c Q N L' F w0 B' H' S') : GC P c Q N L F w0 B H S :=
 fun a w k s => h a w (hL a k) (hS w s)
theorem aN5 {o : Oper} (hg : o.guard = none) (h : GO P o Q (wpList P ops Q rest) N L F w0 B H S) : GL P ops Q (o :: rest) N L F w0 B H S := fun a w k s => wpList_plain hg fun K hK => Oper.wp_mono (fun a w h => hK a w h) (h a w k s)
theorem aNf (h : GE Q .normal N L F w0 B H S) : GL P ops Q [] N L F w0 B H S := h
theorem aEc (h : GE Q .normal N L F w0 B H S) : GQ P ops Q [] N L F w0 B H S := fun a k w s => h a w k s
theorem aMp (h : GL P ops Q tl N L F w0 B H S) : GT P ops Q tl [] N L F w0 B H S := h
def Back {ι : Type} (μ : ι -> Nat) (I : ι -> Prop) (Lf : ι -> Loc) (Bf : ι -> LN) (Hf : ι -> LV) (Sf : ι -> LS) (N : Nat) (F : Nat -> Prop) (w0 : World) (x : ι) (a : Act) (w : World) : Prop :=
 ∃ y, μ y < μ x /\ I y /\ Kn N (Lf y) a /\ Sees F w0 (Bf y) (Hf y) (Sf y) w
def Meet {ι : Type} (I : ι -> Prop) (Lf : ι -> Loc) (Bf : ι -> LN) (Hf : ι -> LV) (Sf : ι -> LS) (N : Nat) (F : Nat -> Prop) (w0 : World) (a : Act) (w : World) : Prop :=
 ∃ i, I i /\ Kn N (Lf i) a /\ Sees F w0 (Bf i) (Hf i) (Sf i) w
theorem aY {ι : Type} (μ : ι -> Nat) (I : ι -> Prop) (Lf : ι -> Loc) (Bf : ι -> LN) (Hf : ι -> LV) (Sf : ι -> LS) (x0 : ι) (h0 : I x0)
  (hL : ∀ a, Kn N L a -> Kn N (Lf x0) a) (hS : ∀ w, Sees F w0 B H S w -> Sees F w0 (Bf x0) (Hf x0) (Sf x0) w)
  (eS : ∀ x, I x -> GC P c (Exit.then (Back μ I Lf Bf Hf Sf N F w0 x) Q) N (Lf x) F w0 (Bf x) (Hf x) (Sf x)) :
  GC P (.loop c) Q N L F w0 B H S := fun a w k s => by
 refine wp_loop_ghost (fun n a w => ∃ x, μ x = n /\ I x /\ Kn N (Lf x) a /\ Sees F w0 (Bf x) (Hf x) (Sf x) w) (μ x0) ⟨x0, rfl, h0, hL a k, hS w s⟩ ?_
 rintro n a w ⟨x, rfl, hI, hk, hs⟩
 refine wp_mono (eS x hI a w hk hs) ?_
 intro e a' w' hq
 cases e with
 | normal =>
  obtain ⟨y, h1, h2, h3, h4⟩ := hq
  exact ⟨μ y, h1, y, rfl, h2, h3, h4⟩
 | _ => exact hq
def Rd (P : Program) (o : Oper) (N : Nat) (L : Loc) (F : Nat -> Prop) (w0 : World) (B : LN) (H : LV) (S : LS) (v : Value) : Prop :=
 ∀ a w, Kn N L a -> Sees F w0 B H S w -> (execOp a.eval o).run P w = .ok (.value v) w
variable {o : Oper} {d : Nat} {v : Value} {ty : TypeId} {pos : String} {aft : Array Edge} {op : Op}
theorem aH4 {g : Option (Nat × Bool)} (hg : g = none) (hd : d < N) (h : Rd P ⟨some d, op, ty, pos, aft, g⟩ N L F w0 B H S v) (hn : GL P ops Q rest N ((d, v) :: L) F w0 B H S) : GL P ops Q (⟨some d, op, ty, pos, aft, g⟩ :: rest) N L F w0 B H S := by
 subst hg
 exact fun a w k s => wpList_plain rfl fun K hK => by
  show Oper.upon _ _ _ _ _ _
  rw [h a w k s]
  exact hK _ _ (hn _ _ (k.put hd v) s)
theorem aL4 {g : Option (Nat × Bool)} (hg : g = none) (hd : d < N) (h : Rd P ⟨some d, op, ty, pos, aft, g⟩ N L F w0 B H S v) (hn : GQ P ops Q rest N ((d, v) :: L) F w0 B H S) : GQ P ops Q (⟨some d, op, ty, pos, aft, g⟩ :: rest) N L F w0 B H S := by
 subst hg
 refine fun a k => wpQuiet_step fun K hK => ?_
 rw [if_pos (by simp [Region.wanted])]
 refine ⟨v, fun w s => ?_, hK _ (hn _ (k.put hd v))⟩
 show Oper.quietUpon _ _ _ _ _
 rw [h a w k s]
 exact ⟨rfl, rfl⟩
theorem aL9 {g : Option (Nat × Bool)} (hg : g = none) (hd : d < N) (h : Rd P ⟨some d, op, ty, pos, aft, g⟩ N L F w0 B H S v) (hn : GT P ops Q tl rest N ((d, v) :: L) F w0 B H S) : GT P ops Q tl (⟨some d, op, ty, pos, aft, g⟩ :: rest) N L F w0 B H S := by
 subst hg
 refine fun a w k s => wpStill_step fun K hK => ?_
 rw [if_pos (by simp [Region.wanted])]
 show Oper.stillUpon _ _ _ _ _ _
 rw [h a w k s, Oper.stillUpon_value]
 exact hK _ (hn _ w (k.put hd v) s)
theorem bC {x : Operand} {g : Option (Nat × Bool)} (hx : ev L x = some v) : Rd P ⟨some d, .move x, ty, pos, aft, g⟩ N L F w0 B H S v := fun a w k s => by
 simp only [execOp, Sem.run_pure, k.eval hx]
theorem rB {x : Operand} {g : Option (Nat × Bool)} (hx : ev L x = some v) : Rd P ⟨some d, .assign x, ty, pos, aft, g⟩ N L F w0 B H S v := fun a w k s => by
 simp only [execOp, Sem.run_pure, k.eval hx]
theorem bW {x : Operand} {p : Addr} {g : Option (Nat × Bool)} (hx : ev L x = some (.pointer (some p))) : Rd P ⟨some d, .nilCheck x, ty, pos, aft, g⟩ N L F w0 B H S (.pointer (some p)) := fun a w k s => by
 simp only [execOp, k.eval hx, Sem.run_bind, Sem.run_pure, Result.andThen_ok]
theorem bB {cnd x y : Operand} {b : Bool} {vx vy : Value} {g : Option (Nat × Bool)} (hc : ev L cnd = some (.bool b)) (hx : ev L x = some vx) (hy : ev L y = some vy) : Rd P ⟨some d, .pick cnd x y, ty, pos, aft, g⟩ N L F w0 B H S (if b then vx else vy) := fun a w k s => by
 simp only [execOp, k.eval hc, k.eval hx, k.eval hy]
 cases b <;> rfl
theorem aD8 {xt yt : TypeId} {x y : Operand} {q : IntKind} {m n : Int} {g : Option (Nat × Bool)} (hx : ev L x = some (.int q m)) (hy : ev L y = some (.int q n)) : Rd P ⟨some d, .binOp .add xt x y yt, ty, pos, aft, g⟩ N L F w0 B H S (.int q (q.wrap (m + n))) := fun a w k s => by
 simp [execOp, eqGuard, binOp, Op.intArith, k.eval hx, k.eval hy]
theorem n8 {xt yt : TypeId} {x y : Operand} {q : IntKind} {m n : Int} {g : Option (Nat × Bool)} (hx : ev L x = some (.int q m)) (hy : ev L y = some (.int q n)) : Rd P ⟨some d, .binOp .sub xt x y yt, ty, pos, aft, g⟩ N L F w0 B H S (.int q (q.wrap (m - n))) := fun a w k s => by
 simp [execOp, eqGuard, binOp, Op.intArith, k.eval hx, k.eval hy]
theorem aE0 {xt yt : TypeId} {x y : Operand} {q : IntKind} {m n : Int} {g : Option (Nat × Bool)} (hx : ev L x = some (.int q m)) (hy : ev L y = some (.int q n)) : Rd P ⟨some d, .binOp .mul xt x y yt, ty, pos, aft, g⟩ N L F w0 B H S (.int q (q.wrap (m * n))) := fun a w k s => by
 simp [execOp, eqGuard, binOp, Op.intArith, k.eval hx, k.eval hy]
end
end Go.Fr
namespace Go.Fr
open Go.RowKit
section
variable {P : Program} {Q Q' : Exit -> Act -> World -> Prop} {K : Act -> World -> Prop} {N : Nat} {L : Loc} {F : Nat -> Prop} {w0 : World} {B : LN} {H : LV} {S : LS}
variable {id : Nat} {l tl rest : List Oper} {ops : Array Oper} {o : Oper} {d : Nat} {v : Value} {ty : TypeId} {pos : String} {aft : Array Edge} {op : Op} {g : Option (Nat × Bool)}
theorem aFa {xt yt : TypeId} {x y : Operand} {q : IntKind} {m n : Int} (hx : ev L x = some (.int q m)) (hy : ev L y = some (.int q n)) (hn : n ≠ 0) : Rd P ⟨some d, .binOp .quo xt x y yt, ty, pos, aft, g⟩ N L F w0 B H S (.int q (q.wrap (m.tdiv n))) := fun a w k s => by
 simp [execOp, eqGuard, binOp, Op.intDiv, k.eval hx, k.eval hy, hn]
theorem yU {xt yt : TypeId} {x y : Operand} {q : IntKind} {m n : Int} (hx : ev L x = some (.int q m)) (hy : ev L y = some (.int q n)) (hn : n ≠ 0) : Rd P ⟨some d, .binOp .rem xt x y yt, ty, pos, aft, g⟩ N L F w0 B H S (.int q (m.tmod n)) := fun a w k s => by
 simp [execOp, eqGuard, binOp, Op.intDiv, k.eval hx, k.eval hy, hn]
theorem aQ {xt yt : TypeId} {x y : Operand} {q : IntKind} {m n : Int} (hx : ev L x = some (.int q m)) (hy : ev L y = some (.int q n)) : Rd P ⟨some d, .binOp .eql xt x y yt, ty, pos, aft, g⟩ N L F w0 B H S (.bool (m == n)) := fun a w k s => by
 simp [execOp, eqGuard, binOp, Op.intCmp, k.eval hx, k.eval hy]
theorem cF {xt yt : TypeId} {x y : Operand} {q : IntKind} {m n : Int} (hx : ev L x = some (.int q m)) (hy : ev L y = some (.int q n)) : Rd P ⟨some d, .binOp .neq xt x y yt, ty, pos, aft, g⟩ N L F w0 B H S (.bool (m != n)) := fun a w k s => by
 simp [execOp, eqGuard, binOp, Op.intCmp, k.eval hx, k.eval hy]
theorem cR {xt yt : TypeId} {x y : Operand} {q : IntKind} {m n : Int} (hx : ev L x = some (.int q m)) (hy : ev L y = some (.int q n)) : Rd P ⟨some d, .binOp .lss xt x y yt, ty, pos, aft, g⟩ N L F w0 B H S (.bool (decide (m < n))) := fun a w k s => by
 simp [execOp, eqGuard, binOp, Op.intCmp, k.eval hx, k.eval hy]
theorem d7 {xt yt : TypeId} {x y : Operand} {q : IntKind} {m n : Int} (hx : ev L x = some (.int q m)) (hy : ev L y = some (.int q n)) : Rd P ⟨some d, .binOp .leq xt x y yt, ty, pos, aft, g⟩ N L F w0 B H S (.bool (decide (m <= n))) := fun a w k s => by
 simp [execOp, eqGuard, binOp, Op.intCmp, k.eval hx, k.eval hy]
theorem bU {xt yt : TypeId} {x y : Operand} {q : IntKind} {m n : Int} (hx : ev L x = some (.int q m)) (hy : ev L y = some (.int q n)) : Rd P ⟨some d, .binOp .gtr xt x y yt, ty, pos, aft, g⟩ N L F w0 B H S (.bool (decide (n < m))) := fun a w k s => by
 simp [execOp, eqGuard, binOp, Op.intCmp, k.eval hx, k.eval hy]
theorem dV {xt yt : TypeId} {x y : Operand} {q : IntKind} {m n : Int} (hx : ev L x = some (.int q m)) (hy : ev L y = some (.int q n)) : Rd P ⟨some d, .binOp .geq xt x y yt, ty, pos, aft, g⟩ N L F w0 B H S (.bool (decide (n <= m))) := fun a w k s => by
 simp [execOp, eqGuard, binOp, Op.intCmp, k.eval hx, k.eval hy]
theorem gX {xt : TypeId} {x : Operand} {b : Bool} (hx : ev L x = some (.bool b)) : Rd P ⟨some d, .unOp .not xt x, ty, pos, aft, g⟩ N L F w0 B H S (.bool (!b)) := fun a w k s => by
 simp [execOp, Op.unary, k.eval hx]
theorem aIr {xt : TypeId} {x : Operand} {q : IntKind} {m : Int} (hx : ev L x = some (.int q m)) : Rd P ⟨some d, .unOp .neg xt x, ty, pos, aft, g⟩ N L F w0 B H S (.int q (q.wrap (0 - m))) := fun a w k s => by
 simp [execOp, Op.unary, Op.intArith, k.eval hx]
theorem Rd.to {v v' : Value} (h : Rd P o N L F w0 B H S v) (e : v = v') : Rd P o N L F w0 B H S v' := e ▸ h
theorem lV {n : Int} (h : -9223372036854775808 <= n /\ n <= 9223372036854775807) : IntKind.i64.wrap n = n := IntWalk.i64_in n h
theorem gQ {xt yt : TypeId} {x y : Operand} {m n : Int} (hx : ev L x = some (iV m)) (hy : ev L y = some (iV n)) (hb : -9223372036854775808 <= m + n /\ m + n <= 9223372036854775807) : Rd P ⟨some d, .binOp .add xt x y yt, ty, pos, aft, g⟩ N L F w0 B H S (iV (m + n)) := (aD8 hx hy).to (by rw [lV hb])
theorem nK {xt yt : TypeId} {x y : Operand} {m n : Int} (hx : ev L x = some (iV m)) (hy : ev L y = some (iV n)) (hb : -9223372036854775808 <= m - n /\ m - n <= 9223372036854775807) : Rd P ⟨some d, .binOp .sub xt x y yt, ty, pos, aft, g⟩ N L F w0 B H S (iV (m - n)) := (n8 hx hy).to (by rw [lV hb])
theorem rK {xt yt : TypeId} {x y : Operand} {m n : Int} (hx : ev L x = some (iV m)) (hy : ev L y = some (iV n)) (hb : -9223372036854775808 <= m * n /\ m * n <= 9223372036854775807) : Rd P ⟨some d, .binOp .mul xt x y yt, ty, pos, aft, g⟩ N L F w0 B H S (iV (m * n)) := (aE0 hx hy).to (by rw [lV hb])
theorem oZ {xt yt : TypeId} {x y : Operand} {m n : Int} (hx : ev L x = some (iV m)) (hy : ev L y = some (iV n)) (hn : 0 < n) (hm : 0 <= m) (hb : m <= 9223372036854775807) : Rd P ⟨some d, .binOp .quo xt x y yt, ty, pos, aft, g⟩ N L F w0 B H S (iV (m / n)) := (aFa hx hy oM).to (by
 rw [Int.tdiv_eq_ediv_of_nonneg hm, lV]
 have h1 : 0 <= m / n := Int.ediv_nonneg hm oM
 have h2 : m / n <= m := Int.ediv_le_self n hm
 omega)
theorem aFx {m n : Int} (hn : 0 < n) (h1 : -9223372036854775807 <= m) (h2 : m <= 9223372036854775807) : -9223372036854775808 <= m.tdiv n /\ m.tdiv n <= 9223372036854775807 := by
 have h := Int.natAbs_tdiv m n
 have h3 : (m.tdiv n).natAbs <= m.natAbs := h ▸ Nat.div_le_self _ _
 omega
theorem aI6 {xt yt : TypeId} {x y : Operand} {m n : Int} (hx : ev L x = some (iV m)) (hy : ev L y = some (iV n)) (hn : 0 < n) (h1 : -9223372036854775807 <= m) (h2 : m <= 9223372036854775807) : Rd P ⟨some d, .binOp .quo xt x y yt, ty, pos, aft, g⟩ N L F w0 B H S (iV (m.tdiv n)) := (aFa hx hy oM).to (by rw [lV (aFx hn h1 h2)])
theorem tU {xt yt : TypeId} {x y : Operand} {m n : Int} (hx : ev L x = some (iV m)) (hy : ev L y = some (iV n)) (hn : 0 < n) (hm : 0 <= m) : Rd P ⟨some d, .binOp .rem xt x y yt, ty, pos, aft, g⟩ N L F w0 B H S (iV (m % n)) := (yU hx hy oM).to (by rw [Int.tmod_eq_emod_of_nonneg hm])
theorem aKu {xt : TypeId} {x : Operand} {m : Int} (hx : ev L x = some (iV m)) (hb : -9223372036854775808 <= -m /\ -m <= 9223372036854775807) : Rd P ⟨some d, .unOp .neg xt x, ty, pos, aft, g⟩ N L F w0 B H S (iV (-m)) := (aIr hx).to (by rw [show (0 : Int) - m = -m by omega, lV hb])
theorem lE {src dst : TypeId} {x : Operand} {q q' : IntKind} {n : Int} (hx : ev L x = some (.int q n)) (hs : (P.underlying src).isSome = true) (hd : P.underlying dst = some (.int q')) : Rd P ⟨some d, .convert src dst x, ty, pos, aft, g⟩ N L F w0 B H S (.int q' (q'.wrap n)) := fun a w k s => by
 obtain ⟨t, ht⟩ := Option.isSome_iff_exists.mp hs
 simp [execOp, convert, run_underlying ht, run_underlying hd, Conv.intToInt, k.eval hx]
theorem vV {src dst : TypeId} {x : Operand} {q : IntKind} {n : Int} (hx : ev L x = some (.int q n)) (hs : (P.underlying src).isSome = true) (hd : P.underlying dst = some (.int .i64)) (hb : -9223372036854775808 <= n /\ n <= 9223372036854775807) : Rd P ⟨some d, .convert src dst x, ty, pos, aft, g⟩ N L F w0 B H S (iV n) := (lE hx hs hd).to (by rw [lV hb])
def tM (P : Program) (t : TypeId) (f : Nat) : Option Nat :=
 match P.underlying t with
 | some (.struct fs) => match fs[f]? with
  | some x => match (P.info? x.type).map (·.size) with
   | some (_ + 1) => some x.offset
   | _ => none
  | none => none
 | _ => none
theorem s6 {t : TypeId} {x : Operand} {f j b off : Nat} (hf : tM P t f = some j) (hx : ev L x = some (.pointer (some ⟨b, off, none⟩))) : Rd P ⟨some d, .fieldAddr t x f, ty, pos, aft, g⟩ N L F w0 B H S (.pointer (some ⟨b, off + j, none⟩)) := fun a w k s => by
 unfold tM at hf
 split at hf
 .rename_i fs hu
  split at hf
  .rename_i fl hfl
   split at hf
   .rename_i m hm
    cases hf
    cases hq : P.info? fl.type with
    | none => simp [hq] at hm
    | some i =>
     have hs : i.size = m + 1 := by simpa [hq] using hm
     simp [execOp, Instr.fieldAt, run_underlying hu, hfl, Instr.sureAddr, k.eval hx, fieldPlace, sizeOf, typeInfo, hq, hs, Addr.add_mid]
   .cases hf
  .cases hf
 .cases hf
def i3 (P : Program) (t : TypeId) : Option (TypeId × Nat) :=
 match P.underlying t with
 | some (.slice e) => (P.info? e).map fun i => (e, i.size)
 | _ => none
theorem kJ {t e : TypeId} {n : Nat} (h : i3 P t = some (e, n)) : P.underlying t = some (.slice e) /\ ∃ i, P.info? e = some i /\ i.size = n := by
 unfold i3 at h
 split at h
 .rename_i e' hu
  cases hq : P.info? e' with
  | none => simp [hq] at h
  | some i =>
   simp [hq] at h
   obtain ⟨rfl, rfl⟩ := h
   exact ⟨hu, i, hq, rfl⟩
 .cases h
theorem iF {P : Program} {e : TypeId} {i : TypeInfo} (h : P.info? e = some i) (w : World) : (sizeOf e).run P w = .ok i.size w := by simp [sizeOf, typeInfo, h]
theorem aC {t e : TypeId} {x y : Operand} {n b off len cap : Nat} {q : IntKind} {i : Int} (ht : i3 P t = some (e, n)) (hx : ev L x = some (.slice (some ⟨b, off, none⟩) len cap)) (hy : ev L y = some (.int q i)) (h0 : 0 <= i) (h1 : i < len) :
  Rd P ⟨some d, .indexAddr t x y, ty, pos, aft, g⟩ N L F w0 B H S (.pointer (some ⟨b, off + i.toNat * n, none⟩)) := fun a w k s => by
 obtain ⟨hu, inf, hi, rfl⟩ := kJ ht
 simp [execOp, Instr.indexAt, run_underlying hu, k.eval hx, k.eval hy, asIntOf, h0, h1, iF hi, Addr.add_mid]
theorem r9 {x : Operand} {vs : Array Value} {j : Nat} (hx : ev L x = some (.tuple vs)) (hv : vs[j]? = some v) : Rd P ⟨some d, .extract x j, ty, pos, aft, g⟩ N L F w0 B H S v := fun a w k s => by
 simp [execOp, Instr.extract, k.eval hx, hv]
def wN (P : Program) (t : TypeId) : Bool := match P.underlying t with | some (.slice _) => true | _ => false
theorem tA {t : TypeId} (h : wN P t = true) : ∃ e, P.underlying t = some (.slice e) := by
 unfold wN at h
 split at h
 .exact ⟨_, ‹_›⟩
 .cases h
theorem aMw {t : TypeId} {x : Operand} {p : Option Addr} {n c : Nat} (ht : wN P t = true) (hx : ev L x = some (.slice p n c)) : Rd P ⟨some d, .call ⟨.builtin .len, #[x], #[t]⟩, ty, pos, aft, g⟩ N L F w0 B H S (iV n) := fun a w k s => by
 obtain ⟨e, hu⟩ := tA ht
 simp [execOp, resolve, invoke, builtin, Builtin.len_, run_underlying hu, k.eval hx, goInt]
theorem aMm {t : TypeId} {x : Operand} {p : Option Addr} {n c : Nat} (ht : wN P t = true) (hx : ev L x = some (.slice p n c)) : Rd P ⟨some d, .call ⟨.builtin .cap, #[x], #[t]⟩, ty, pos, aft, g⟩ N L F w0 B H S (iV c) := fun a w k s => by
 obtain ⟨e, hu⟩ := tA ht
 simp [execOp, resolve, invoke, builtin, Builtin.cap_, run_underlying hu, k.eval hx, goInt]
def oU (P : Program) (t : TypeId) : Bool := match P.underlying t with | some (.struct _) | some (.array _ _) | none => false | _ => true
def zP (P : Program) (t : TypeId) : Option Nat := match P.underlying t with | some (.struct _) | some (.array _ _) => (P.info? t).map (·.size) | _ => none
theorem uU {P : Program} {t : TypeId} {p : Addr} {v : Value} {w : World} (ht : oU P t = true) (hc : w.cell? p = some v) : (Instr.loadAt t (.pointer (some p))).run P w = .ok v w := by
 unfold oU at ht
 cases hu : P.underlying t with
 | none => simp [hu] at ht
 | some u =>
  have ha : (isAgg t).run P w = .ok false w := by
   unfold isAgg
   rw [Sem.run_bind, run_underlying hu w]
   cases u <;> simp_all
  simp [Instr.loadAt, Instr.sureAddr, loadVar, ha, hc]
theorem dT {t : TypeId} {x : Operand} {p : Addr} (ht : oU P t = true) (hx : ev L x = some (.pointer (some p))) (hc : ∀ w, Sees F w0 B H S w -> w.cell? p = some v) : Rd P ⟨some d, .load t x, ty, pos, aft, g⟩ N L F w0 B H S v := fun a w k s => by
 simp only [execOp, k.eval hx, Sem.run_bind, uU ht (hc w s), Result.andThen_ok, Sem.run_pure]
theorem bH (j : Nat) {t : TypeId} {x : Operand} {b off : Nat} (hx : ev L x = some (.pointer (some ⟨b, off, none⟩))) (hb : lkp j B = some b) (hv : lkp (ky j off) H = some v) (ht : oU P t = true) (ho : off < 4096) : Rd P ⟨some d, .load t x, ty, pos, aft, g⟩ N L F w0 B H S v :=
 dT ht hx fun w s => s.cell hb ho hv
theorem gH {t : TypeId} {x : Operand} {p : Addr} (hx : ev L x = some (.pointer (some p))) (hv : w0.cell? p = some v) (hF : ¬ F p.block) (ht : oU P t = true) : Rd P ⟨some d, .load t x, ty, pos, aft, g⟩ N L F w0 B H S v :=
 dT ht hx fun w s => s.aPo hv hF
theorem bQ (j : Nat) {t : TypeId} {x : Operand} {b off len cap : Nat} {s : Slc} (hx : ev L x = some (.pointer (some ⟨b, off, none⟩))) (hr : lkp j S = some s) (hs : s.v = sL b len cap) (hv : s.xs[off]? = some v) (ht : oU P t = true) : Rd P ⟨some d, .load t x, ty, pos, aft, g⟩ N L F w0 B H S v :=
 dT ht hx fun w q => q.aPl hr hs hv
theorem fL {t : TypeId} {x : Operand} {b off : Nat} {cs : List Value} (ht : zP P t = some cs.length) (hx : ev L x = some (.pointer (some ⟨b, off, none⟩))) (hc : ∀ w, Sees F w0 B H S w -> w.rangeAt b off cs) : Rd P ⟨some d, .load t x, ty, pos, aft, g⟩ N L F w0 B H S (.agg cs.toArray) := fun a w k s => by
 have h : ∃ u, P.underlying t = some u /\ u.isRow = true /\ (P.info? t).map (·.size) = some cs.length := by
  unfold zP at ht
  split at ht
  .exact ⟨_, ‹_›, rfl, ht⟩
  .exact ⟨_, ‹_›, rfl, ht⟩
  .cases ht
 obtain ⟨u, hu, hr, hi⟩ := h
 simp only [execOp, k.eval hx, Sem.run_bind, run_loadAt_mid w b off t cs u (hc w s) hu hr hi, Result.andThen_ok, Sem.run_pure]
theorem sH {w : World} {b o : Nat} {u v : Value} (h0 : w.cell? ⟨b, o, none⟩ = some u) (h1 : w.cell? ⟨b, o + 1, none⟩ = some v) : w.rangeAt b o [u, v] := by
 intro j x hx
 match j, hx with
 | 0, hx => cases hx; exact h0
 | 1, hx => cases hx; exact h1
theorem aW (j : Nat) {t : TypeId} {x : Operand} {b off : Nat} {u v : Value} (hx : ev L x = some (.pointer (some ⟨b, off, none⟩))) (hb : lkp j B = some b) (h0 : lkp (ky j off) H = some u) (h1 : lkp (ky j (off + 1)) H = some v) (ht : zP P t = some 2) (ho : off + 1 < 4096) : Rd P ⟨some d, .load t x, ty, pos, aft, g⟩ N L F w0 B H S (.agg #[u, v]) :=
 fL (cs := [u, v]) ht hx fun w s => sH (s.cell hb oM h0) (s.cell hb ho h1)
theorem iK {t : TypeId} {x : Operand} {b off : Nat} {u v : Value} (hx : ev L x = some (.pointer (some ⟨b, off, none⟩))) (h0 : w0.cell? ⟨b, off, none⟩ = some u) (h1 : w0.cell? ⟨b, off + 1, none⟩ = some v) (hF : ¬ F b) (ht : zP P t = some 2) : Rd P ⟨some d, .load t x, ty, pos, aft, g⟩ N L F w0 B H S (.agg #[u, v]) :=
 fL (cs := [u, v]) ht hx fun w s => sH (s.aPo h0 hF) (s.aPo h1 hF)
theorem fO (j : Nat) {t : TypeId} {x : Operand} {b off len cap : Nat} {s : Slc} {u v : Value} (hx : ev L x = some (.pointer (some ⟨b, off, none⟩))) (hr : lkp j S = some s) (hs : s.v = sL b len cap) (h0 : s.xs[off]? = some u) (h1 : s.xs[off + 1]? = some v) (ht : zP P t = some 2) : Rd P ⟨some d, .load t x, ty, pos, aft, g⟩ N L F w0 B H S (.agg #[u, v]) :=
 fL (cs := [u, v]) ht hx fun w q => sH (q.aPl hr hs h0) (q.aPl hr hs h1)
theorem pK {P : Program} (w : World) {t e : TypeId} {n : Nat} (ht : i3 P t = some (e, n)) (p : Option Addr) (len cap : Nat) (kl : IntKind) (lo : Int) (h0 : 0 <= lo) (h1 : lo <= len) :
  (Instr.sliceAt t (.slice p len cap) (some (.int kl lo)) none none).run P w = .ok (.slice (if cap = lo.toNat then p else p.map (·.add (lo.toNat * n))) (len - lo.toNat) (cap - lo.toNat)) w := by
 obtain ⟨hu, i, hi, rfl⟩ := kJ ht
 have he : P.elem t = e := by simp [Program.elem, hu]
 rw [run_sliceAt_slice w t _ _ _ _ (by rw [he]; exact hu), run_slice_l w t p len cap (by rw [he]; exact hu) kl lo h0 h1, he, iF hi]
 rfl
theorem yV {P : Program} (w : World) {t e : TypeId} {n : Nat} (ht : i3 P t = some (e, n)) (p : Option Addr) (len cap : Nat) (kh : IntKind) (hi_ : Int) (h0 : 0 <= hi_) (h1 : hi_ <= cap) :
  (Instr.sliceAt t (.slice p len cap) none (some (.int kh hi_)) none).run P w = .ok (.slice (if cap = 0 then p else p.map (·.add (0 * n))) (hi_.toNat - 0) (cap - 0)) w := by
 obtain ⟨hu, i, hi, rfl⟩ := kJ ht
 have he : P.elem t = e := by simp [Program.elem, hu]
 rw [run_sliceAt_slice w t _ _ _ _ (by rw [he]; exact hu), run_slice_h w t p len cap (by rw [he]; exact hu) kh hi_ h0 h1, he, iF hi]
 rfl
theorem i6 {t e : TypeId} {n : Nat} {x y : Operand} {b off len cap : Nat} {kl : IntKind} {lo : Int} (ht : i3 P t = some (e, n)) (hx : ev L x = some (.slice (some ⟨b, off, none⟩) len cap)) (hy : ev L y = some (.int kl lo)) (h0 : 0 <= lo) (h1 : lo <= len) (h2 : lo < cap) :
  Rd P ⟨some d, .slice t x (some y) none none, ty, pos, aft, g⟩ N L F w0 B H S (.slice (some ⟨b, off + lo.toNat * n, none⟩) (len - lo.toNat) (cap - lo.toNat)) := fun a w k s => by
 have hne : ¬ cap = lo.toNat := by omega
 simp only [execOp, k.eval hx, Option.map_some, Option.map_none, k.eval hy, Sem.run_bind, pK w ht _ len cap kl lo h0 h1, Result.andThen_ok, Sem.run_pure, if_neg hne, Addr.add_mid]
theorem tK {t e : TypeId} {n : Nat} {x y : Operand} {p : Option Addr} {len cap : Nat} {kl : IntKind} {lo : Int} (ht : i3 P t = some (e, n)) (hx : ev L x = some (.slice p len cap)) (hy : ev L y = some (.int kl lo)) (h0 : 0 <= lo) (h1 : lo <= len) :
  Rd P ⟨some d, .slice t x (some y) none none, ty, pos, aft, g⟩ N L F w0 B H S (.slice (if cap = lo.toNat then p else p.map (·.add (lo.toNat * n))) (len - lo.toNat) (cap - lo.toNat)) := fun a w k s => by
 simp only [execOp, k.eval hx, Option.map_some, Option.map_none, k.eval hy, Sem.run_bind, pK w ht _ len cap kl lo h0 h1, Result.andThen_ok, Sem.run_pure]
theorem eN {t e : TypeId} {n : Nat} {x y : Operand} {p : Option Addr} {len cap : Nat} {kh : IntKind} {hi_ : Int} (ht : i3 P t = some (e, n)) (hx : ev L x = some (.slice p len cap)) (hy : ev L y = some (.int kh hi_)) (h0 : 0 <= hi_) (h1 : hi_ <= cap) :
  Rd P ⟨some d, .slice t x none (some y) none, ty, pos, aft, g⟩ N L F w0 B H S (.slice p hi_.toNat cap) := fun a w k s => by
 have e : (if cap = 0 then p else p.map (·.add (0 * n))) = p := by
  split
  .rfl
  .cases p <;> simp [Addr.add]
 simp only [execOp, k.eval hx, Option.map_some, Option.map_none, k.eval hy, Sem.run_bind, yV w ht _ len cap kh hi_ h0 h1, Result.andThen_ok, Sem.run_pure, e, Nat.sub_zero]
end
end Go.Fr
namespace Go.Fr
theorem bF {p : Prop} [Decidable p] (h : ¬p := by omega) : Value.bool (decide p) = .bool false := congrArg Value.bool (decide_eq_false h)
theorem bT {p : Prop} [Decidable p] (h : p := by omega) : Value.bool (decide p) = .bool true := congrArg Value.bool (decide_eq_true h)
theorem eF {a b : Int} (h : a ≠ b := by omega) : Value.bool (a == b) = .bool false := congrArg Value.bool (beq_eq_false_iff_ne.2 h)
theorem eT {a b : Int} (h : a = b := by omega) : Value.bool (a == b) = .bool true := congrArg Value.bool (beq_iff_eq.2 h)
theorem aG {X : Prop} (h : X := by intro k_ h1_ h2_; repeat (first | rfl | rw [aA (by omega)])) : X := h
theorem sS (w : World) : Sees (fun _ => False) w [] [] [] w := Sees.start _ w
theorem aH {X : Prop} (h : X := by repeat (first | rfl | rw [aA (by omega)])) : X := h
end Go.Fr
namespace Go.Fr
open Go.RowKit
section
variable {P : Program} {Q Q' : Exit -> Act -> World -> Prop} {K : Act -> World -> Prop} {N : Nat} {L : Loc} {F : Nat -> Prop} {w0 : World} {B : LN} {H : LV} {S : LS}
variable {id : Nat} {l tl rest : List Oper} {ops : Array Oper} {o : Oper} {d : Nat} {v : Value} {ty : TypeId} {pos : String} {aft : Array Edge} {op : Op} {g : Option (Nat × Bool)}
theorem aLx {j dj : Nat} {want : Bool} {dst : Option Nat} (hj : (ops[j]?).bind (·.dst) = some dj) (hv : lkp dj L = some (.bool want)) (h : GL P ops Q (⟨dst, op, ty, pos, aft, none⟩ :: rest) N L F w0 B H S) : GL P ops Q (⟨dst, op, ty, pos, aft, some (j, want)⟩ :: rest) N L F w0 B H S := fun a w k s => by
 have h1 := h a w k s
 have hw : Region.wanted ⟨dst, op, ty, pos, aft, some (j, want)⟩ (yielded ops a.tmps) = true := by
  simp [Region.wanted, yielded, hj, k.get dj _ hv]
 unfold wpList at h1 ⊢
 rw [if_pos (by simp [Region.wanted])] at h1
 rw [if_pos hw]
 exact h1
theorem aKy {j dj : Nat} {want b : Bool} {dd : Nat} (hd : dd < N) (hj : (ops[j]?).bind (·.dst) = some dj) (hv : lkp dj L = some (.bool b)) (hne : b ≠ want) (h : GL P ops Q rest N ((dd, undef) :: L) F w0 B H S) : GL P ops Q (⟨some dd, op, ty, pos, aft, some (j, want)⟩ :: rest) N L F w0 B H S := fun a w k s => by
 have hw : ¬ Region.wanted ⟨some dd, op, ty, pos, aft, some (j, want)⟩ (yielded ops a.tmps) = true := by
  simp [Region.wanted, yielded, hj, k.get dj _ hv, hne]
 unfold wpList
 rw [if_neg hw]
 exact h _ w (k.put hd undef) s
theorem aH3 {j dj : Nat} {want : Bool} {dd : Nat} (hd : dd < N) (hj : (ops[j]?).bind (·.dst) = some dj) (hv : lkp dj L = some undef) (h : GL P ops Q rest N ((dd, undef) :: L) F w0 B H S) : GL P ops Q (⟨some dd, op, ty, pos, aft, some (j, want)⟩ :: rest) N L F w0 B H S := fun a w k s => by
 have hw : ¬ Region.wanted ⟨some dd, op, ty, pos, aft, some (j, want)⟩ (yielded ops a.tmps) = true := by
  simp [Region.wanted, yielded, hj, k.get dj _ hv, undef]
 unfold wpList
 rw [if_neg hw]
 exact h _ w (k.put hd undef) s
theorem aIy {j dj : Nat} {want : Bool} {dd : Nat} (hd : dd < N) (hj : (ops[j]?).bind (·.dst) = some dj) (hv : lkp dj L = some undef) (h : GQ P ops Q rest N ((dd, undef) :: L) F w0 B H S) : GQ P ops Q (⟨some dd, op, ty, pos, aft, some (j, want)⟩ :: rest) N L F w0 B H S := fun a k => by
 have hw : ¬ Region.wanted ⟨some dd, op, ty, pos, aft, some (j, want)⟩ (yielded ops a.tmps) = true := by
  simp [Region.wanted, yielded, hj, k.get dj _ hv, undef]
 unfold wpQuiet
 rw [if_neg hw]
 exact h _ (k.put hd undef)
theorem aK8 {j dj : Nat} {want : Bool} {dst : Option Nat} (hj : (ops[j]?).bind (·.dst) = some dj) (hv : lkp dj L = some (.bool want)) (h : GQ P ops Q (⟨dst, op, ty, pos, aft, none⟩ :: rest) N L F w0 B H S) : GQ P ops Q (⟨dst, op, ty, pos, aft, some (j, want)⟩ :: rest) N L F w0 B H S := fun a k => by
 have h1 := h a k
 have hw : Region.wanted ⟨dst, op, ty, pos, aft, some (j, want)⟩ (yielded ops a.tmps) = true := by
  simp [Region.wanted, yielded, hj, k.get dj _ hv]
 unfold wpQuiet at h1 ⊢
 rw [if_pos (by simp [Region.wanted])] at h1
 rw [if_pos hw]
 exact h1
theorem aKo {j dj : Nat} {want b : Bool} {dd : Nat} (hd : dd < N) (hj : (ops[j]?).bind (·.dst) = some dj) (hv : lkp dj L = some (.bool b)) (hne : b ≠ want) (h : GQ P ops Q rest N ((dd, undef) :: L) F w0 B H S) : GQ P ops Q (⟨some dd, op, ty, pos, aft, some (j, want)⟩ :: rest) N L F w0 B H S := fun a k => by
 have hw : ¬ Region.wanted ⟨some dd, op, ty, pos, aft, some (j, want)⟩ (yielded ops a.tmps) = true := by
  simp [Region.wanted, yielded, hj, k.get dj _ hv, hne]
 unfold wpQuiet
 rw [if_neg hw]
 exact h _ (k.put hd undef)
theorem aF0 {L' : Loc} {B' : LN} {H' : LV} {S' : LS} (hL : ∀ a, Kn N L a -> Kn N L' a) (hS : ∀ w, Sees F w0 B H S w -> Sees F w0 B' H' S' w) (h : GL P ops Q rest N L' F w0 B' H' S') : GL P ops Q rest N L F w0 B H S :=
 fun a w k s => h a w (hL a k) (hS w s)
theorem gK {e : Exit} {L' : Loc} {B' : LN} {H' : LV} {S' : LS} (hL : ∀ a, Kn N L a -> Kn N L' a) (hS : ∀ w, Sees F w0 B H S w -> Sees F w0 B' H' S' w) (h : GE Q e N L' F w0 B' H' S') : GE Q e N L F w0 B H S :=
 fun a w k s => h a w (hL a k) (hS w s)
theorem aN {ι : Type} {μ : ι -> Nat} {I : ι -> Prop} {Lf : ι -> Loc} {Bf : ι -> LN} {Hf : ι -> LV} {Sf : ι -> LS} {x : ι} (y : ι) (hμ : μ y < μ x) (hI : I y)
  (hL : ∀ a, Kn N L a -> Kn N (Lf y) a) (hS : ∀ w, Sees F w0 B H S w -> Sees F w0 (Bf y) (Hf y) (Sf y) w) :
  GE (Exit.then (Back μ I Lf Bf Hf Sf N F w0 x) Q) .normal N L F w0 B H S :=
 fun a w k s => ⟨y, hμ, hI, hL a k, hS w s⟩
theorem cO {ι : Type} {c y : Code} (I : ι -> Prop) (Lf : ι -> Loc) (Bf : ι -> LN) (Hf : ι -> LV) (Sf : ι -> LS)
  (h1 : GC P c (Exit.then (Meet I Lf Bf Hf Sf N F w0) Q) N L F w0 B H S) (h2 : ∀ i, I i -> GC P y Q N (Lf i) F w0 (Bf i) (Hf i) (Sf i)) : GC P (.seq c y) Q N L F w0 B H S := fun a w k s =>
 wp_seq (wp_mono (h1 a w k s) fun e a' w' q => by
  cases e with
  | normal =>
   obtain ⟨i, hi, hk, hs⟩ := q
   exact h2 i hi a' w' hk hs
  | _ => exact q)
theorem aK {ι : Type} {I : ι -> Prop} {Lf : ι -> Loc} {Bf : ι -> LN} {Hf : ι -> LV} {Sf : ι -> LS} (y : ι) (hI : I y)
  (hL : ∀ a, Kn N L a -> Kn N (Lf y) a) (hS : ∀ w, Sees F w0 B H S w -> Sees F w0 (Bf y) (Hf y) (Sf y) w) :
  GE (Exit.then (Meet I Lf Bf Hf Sf N F w0) Q) .normal N L F w0 B H S :=
 fun a w k s => ⟨y, hI, hL a k, hS w s⟩
theorem cY (j : Nat) {t : TypeId} {x y : Operand} {b off : Nat} {u : Value} (hx : ev L x = some (.pointer (some ⟨b, off, none⟩))) (hy : ev L y = some v) (hb : lkp j B = some b) (hl : lkp (ky j off) H = some u) (ht : (P.info? t).map (·.size) = some 1) (h1 : v.oneCell' = true) (ho : off < 4096)
  (hn : GK K N L F w0 B ((ky j off, v) :: H) S) : GO P ⟨none, .store t x y, ty, pos, aft, none⟩ Q K N L F w0 B H S := fun a w k s => by
 have hv : v.cells = #[v] := by cases v <;> simp_all [Value.cells, Value.oneCell']
 cases hq : P.info? t with
 | none => simp [hq] at ht
 | some i =>
  have hs : i.size = 1 := by simpa [hq] using ht
  have hc := s.cell hb ho hl
  have hf := s.free hb ho hl
  have hr : (Instr.storeAt t (.pointer (some ⟨b, off, none⟩)) v).run P w = .ok () (w.setCell ⟨b, off, none⟩ v) := by
   simp [Instr.storeAt, Instr.sureAddr, storeVar, sizeOf, typeInfo, hq, hv, hs, storeCells, Addr.add_mid, run_store P w _ _ _ h1, hc, hf]
  show Oper.upon _ _ _ _ _ _
  simp only [execOp, k.eval hx, k.eval hy, Sem.run_bind, hr, Result.andThen_ok, Sem.run_pure]
  exact hn _ _ k (s.set hb ho hl v)
def dL (j : Nat) : Nat -> List Value -> LV -> LV
 | _, [], H => H
 | o, v :: r, H => dL j (o + 1) r ((ky j o, v) :: H)
def knwn (j : Nat) (H : LV) : Nat -> Nat -> Bool
 | _, 0 => true
 | o, n + 1 => (lkp (ky j o) H).isSome && knwn j H (o + 1) n
theorem Sees.setN {w : World} {j b : Nat} (hb : lkp j B = some b) : ∀ (cs : List Value) (off : Nat) (H : LV) (w : World), Sees F w0 B H S w -> knwn j H off cs.length = true -> off + cs.length <= 4096 ->
  (∀ i, i < cs.length -> (w.cell? ⟨b, off + i, none⟩).isSome = true /\ w.frozen? ⟨b, off + i, none⟩ = false) /\ Sees F w0 B (dL j off cs H) S (w.setCells b off cs)
 | [], off, H, w, s, _, _ => ⟨fun i hi => absurd hi (by simp), s⟩
 | v :: r, off, H, w, s, hk, ho => by
  simp only [List.length_cons, knwn, Bool.and_eq_true] at hk
  obtain ⟨u, hu⟩ := Option.isSome_iff_exists.1 hk.1
  simp only [List.length_cons] at ho
  have ho' : off < 4096 := by omega
  have s1 := s.set hb ho' hu v
  have hk1 : knwn j ((ky j off, v) :: H) (off + 1) r.length = true := by
   have mono : ∀ (n o : Nat), knwn j H o n = true -> knwn j ((ky j off, v) :: H) o n = true := by
    intro n
    induction n with
    | zero => intro o _; rfl
    | succ n ih =>
     intro o h
     simp only [knwn, Bool.and_eq_true] at h ⊢
     refine ⟨?_, ih _ h.2⟩
     by_cases e : ky j o = ky j off
     .rw [e, bJ]; rfl
     .rw [aA e]; exact h.1
   exact mono _ _ hk.2
  obtain ⟨h1, h2⟩ := Sees.setN (w := w) hb r (off + 1) _ _ s1 hk1 oM
  refine ⟨fun i hi => ?_, h2⟩
  cases i with
  | zero => rw [Nat.add_zero, s.cell hb ho' hu]; exact ⟨rfl, s.free hb ho' hu⟩
  | succ i =>
   obtain ⟨h3, h4⟩ := h1 i (by simpa using hi)
   have e : off + 1 + i = off + (i + 1) := by omega
   rw [e] at h3 h4
   have hlt : off + (i + 1) < 4096 := by simp at hi; omega
   refine ⟨?_, ?_⟩
   .simp only [World.cell?, World.setCell, Array.getElem?_modify, if_true] at h3 ⊢
    cases hq : w.heap[b]? with
    | none => rw [hq] at h3; simp at h3
    | some ob =>
     rw [hq] at h3
     cases ob <;> simp_all
   .simp only [World.frozen?, World.setCell, Array.getElem?_modify, if_true] at h4 ⊢
    cases hq : w.heap[b]? with
    | none => simp
    | some ob =>
     rw [hq] at h4
     cases ob <;> simp_all
theorem cI (j : Nat) {t : TypeId} {x y : Operand} {b off : Nat} {cs : Array Value} (hx : ev L x = some (.pointer (some ⟨b, off, none⟩))) (hy : ev L y = some (.agg cs)) (hb : lkp j B = some b) (hk : knwn j H off cs.toList.length = true) (ht : (P.info? t).map (·.size) = some cs.size) (h1 : cs.toList.all (·.oneCell') = true) (ho : off + cs.toList.length <= 4096)
  (hn : GK K N L F w0 B (dL j off cs.toList H) S) : GO P ⟨none, .store t x y, ty, pos, aft, none⟩ Q K N L F w0 B H S := fun a w k s => by
 obtain ⟨h2, h3⟩ := Sees.setN (w := w) hb cs.toList off H w s hk ho
 have hr := run_storeVar_mid (P := P) w b off t cs (fun i hi => h2 i (by simpa using hi)) ht (by simpa using h1)
 show Oper.upon _ _ _ _ _ _
 simp only [execOp, k.eval hx, k.eval hy, Instr.storeAt, Instr.sureAddr, Sem.run_bind, hr, Result.andThen_ok, Sem.run_pure]
 exact hn _ _ k h3
theorem Sees.stored {w : World} (s : Sees F w0 B H S w) (j : Nat) {b off len cap : Nat} {q : Slc} (hr : lkp j S = some q) (hs : q.v = sL b len cap) (v : Value) :
  Sees F w0 B H ((j, { q with xs := q.xs.set off v }) :: S) (w.setCell ⟨b, off, none⟩ v) := by
 have ho := s.slcs j q hr
 have hh := tC ho hs
 have ho' : w.ownsRow 0 q.e q.sz (sL b q.n cap) q.n q.xs := by
  rw [<- hh.2.2]; rw [<- hs]; rw [hh.2.2]; exact ho
 have hst := ho'.stored off v
 refine s.slice (old := some b) (.inr ⟨q, hr, hh.1⟩) hst.2 ?_ (.inr (.inl ⟨by simp, hh.1⟩))
 show World.ownsRow _ _ _ _ q.v _ _
 rw [hs, hh.2.2]; exact hst.1
theorem gS (j : Nat) {t : TypeId} {x y : Operand} {b off len cap : Nat} {q : Slc} (hx : ev L x = some (.pointer (some ⟨b, off, none⟩))) (hy : ev L y = some v) (hr : lkp j S = some q) (hs : q.v = sL b len cap) (hi : off < q.xs.length) (ht : (P.info? t).map (·.size) = some 1) (h1 : v.oneCell' = true)
  (hn : GK K N L F w0 B H ((j, { q with xs := q.xs.set off v }) :: S)) : GO P ⟨none, .store t x y, ty, pos, aft, none⟩ Q K N L F w0 B H S := fun a w k s => by
 have hv : v.cells = #[v] := by cases v <;> simp_all [Value.cells, Value.oneCell']
 cases hq : P.info? t with
 | none => simp [hq] at ht
 | some i =>
  have hs1 : i.size = 1 := by simpa [hq] using ht
  have hc := s.aPl (o := off) hr hs (List.getElem?_eq_getElem hi)
  have ho := s.slcs j q hr
  have hh := tC ho hs
  have ho' : w.ownsRow 0 q.e q.sz (sL b q.n cap) q.n q.xs := by
   rw [<- hh.2.2]; rw [<- hs]; rw [hh.2.2]; exact ho
  have hf := ho'.frozenAt off
  have hr' : (Instr.storeAt t (.pointer (some ⟨b, off, none⟩)) v).run P w = .ok () (w.setCell ⟨b, off, none⟩ v) := by
   simp [Instr.storeAt, Instr.sureAddr, storeVar, sizeOf, typeInfo, hq, hv, hs1, storeCells, Addr.add_mid, run_store P w _ _ _ h1, hc, hf]
  show Oper.upon _ _ _ _ _ _
  simp only [execOp, k.eval hx, k.eval hy, Sem.run_bind, hr', Result.andThen_ok, Sem.run_pure]
  exact hn _ _ k (s.stored j hr hs v)
def aEo (P : Program) (t : TypeId) : Option (List Value) := ((P.info? t).bind (·.zero)).map (·.cells.toList)
theorem eJ {t : TypeId} {cs : List Value} (n : Nat) (hd : d < N) (hz : aEo P t = some cs) (hk : lkp n B = none) (hkH : ∀ o, o < 4096 -> lkp (ky n o) H = none) (hs : cs.length <= 4096)
  (hn : ∀ b, w0.heap.size <= b -> GK K N ((d, pT b) :: L) F w0 ((n, b) :: B) (aL n 0 cs ++ H) S) : GO P ⟨some d, .alloc t, ty, pos, aft, none⟩ Q K N L F w0 B H S := fun a w k s => by
 unfold aEo at hz
 cases hq : P.info? t with
 | none => simp [hq] at hz
 | some i =>
  cases hzz : i.zero with
  | none => simp [hq, hzz] at hz
  | some z =>
   have hcs : z.cells.toList = cs := by simpa [hq, hzz] using hz
   have hr : (Instr.alloc t true (.tuple #[])).run P w = .ok (pT w.heap.size) (w.alloc (.cells cs.toArray t (0, 0))) := by
    subst hcs
    simp [Instr.alloc, zeroValue, typeInfo, hq, hzz, newVar, newRow]
   show Oper.upon _ _ _ _ _ _
   simp only [execOp, Sem.run_bind, hr, Result.andThen_ok, Sem.run_pure]
   exact hn _ s.size _ _ (k.put hd _) (s.alloc cs t n hk hkH hs)
theorem fU {t : TypeId} {x : Operand} {cs : List Value} (n : Nat) (hd : d < N) (hx : ev L x = some v) (hz : v.cells.toList = cs) (hk : lkp n B = none) (hkH : ∀ o, o < 4096 -> lkp (ky n o) H = none) (hs : cs.length <= 4096)
  (hn : ∀ b, w0.heap.size <= b -> GK K N ((d, pT b) :: L) F w0 ((n, b) :: B) (aL n 0 cs ++ H) S) : GO P ⟨some d, .box t x, ty, pos, aft, none⟩ Q K N L F w0 B H S := fun a w k s => by
 have hr : (Instr.box t v).run P w = .ok (pT w.heap.size) (w.alloc (.cells cs.toArray t (0, 0))) := by
  subst hz
  simp [Instr.box, newVar, newRow]
 show Oper.upon _ _ _ _ _ _
 simp only [execOp, k.eval hx, Sem.run_bind, hr, Result.andThen_ok, Sem.run_pure]
 exact hn _ s.size _ _ (k.put hd _) (s.alloc cs t n hk hkH hs)
def gM (P : Program) (f : FuncId) : Bool :=
 match P.funcs[f]? with
 | some fn => fn.body.isSome && !(fn.name == "runtime.NumGoroutine")
 | none => false
def evs (L : Loc) : List Operand -> Option (List Value)
 | [] => some []
 | x :: r => match ev L x, evs L r with
  | some v, some vs => some (v :: vs)
  | _, _ => none
theorem Kn.evs {a : Act} (k : Kn N L a) : ∀ {xs : List Operand} {vs : List Value}, Fr.evs L xs = some vs -> xs.map a.eval = vs
 | [], vs, h => by simpa [Fr.evs] using h
 | x :: r, vs, h => by
  simp only [Fr.evs] at h
  split at h
  .rename_i v vs' h1 h2
   cases h
   simp [k.eval h1, k.evs h2]
  .cases h
theorem oL {a : Act} {w : World} {f : FuncId} {aS : List Operand} {ats : Array TypeId} {args : List Value} {dst : Option Nat} (k : Kn N L a) (hf : gM P f = true) (ha : Fr.evs L aS = some args) :
  (execOp a.eval ⟨dst, .call ⟨.value (.func f), aS.toArray, ats⟩, ty, pos, aft, g⟩).run P w = .ok (.enter f args.toArray) w := by
 unfold gM at hf
 split at hf
 .rename_i fn hfn
  simp only [Bool.and_eq_true, Bool.not_eq_true'] at hf
  obtain ⟨c, hb⟩ := Option.isSome_iff_exists.1 hf.1
  have hnm : ¬ fn.name = "runtime.NumGoroutine" := by simpa using hf.2
  simp [execOp, resolve, Act.eval, Deferred.ofValue, invoke, callFunc, hfn, hnm, hb, k.evs ha]
 .cases hf
theorem d8 {ι : Type} {f : FuncId} {aS : List Operand} {ats : Array TypeId} {args : List Value} (V : ι -> Value) (Pr : ι -> Prop) (Bx : ι -> LN) (Hx : ι -> LV) (Sx : ι -> LS) (hd : d < N) (hf : gM P f = true) (ha : Fr.evs L aS = some args)
  (hc : ∀ w, Sees F w0 B H S w -> Calls P f args.toArray w fun e w' => ∃ x, Pr x /\ e = .returned (V x) /\ Sees F w0 (Bx x) (Hx x) (Sx x) w')
  (hn : ∀ x, Pr x -> GK K N ((d, V x) :: L) F w0 (Bx x) (Hx x) (Sx x)) : GO P ⟨some d, .call ⟨.value (.func f), aS.toArray, ats⟩, ty, pos, aft, none⟩ Q K N L F w0 B H S := fun a w k s => by
 show Oper.upon _ _ _ _ _ _
 rw [oL k hf ha]
 refine (hc w s).mono ?_
 rintro e w' ⟨x, hx, rfl, s'⟩
 exact hn x hx _ _ (k.put hd _) s'
theorem aGl {f : FuncId} {aS : List Operand} {ats : Array TypeId} {args : List Value} (hd : d < N) (hf : gM P f = true) (ha : Fr.evs L aS = some args)
  (hc : ∀ w, Sees F w0 B H S w -> Calls P f args.toArray w fun e w' => e = .returned v /\ Below w.heap.size w w')
  (hn : GK K N ((d, v) :: L) F w0 B H S) : GO P ⟨some d, .call ⟨.value (.func f), aS.toArray, ats⟩, ty, pos, aft, none⟩ Q K N L F w0 B H S :=
 d8 (ι := Unit) (fun _ => v) (fun _ => True) (fun _ => B) (fun _ => H) (fun _ => S) hd hf ha (fun w s => (hc w s).mono fun e w' ⟨he, hb⟩ => ⟨(), trivial, he, s.below hb⟩) (fun _ _ => hn)
theorem cJ {f : FuncId} {aS : List Operand} {ats : Array TypeId} {args : List Value} (hd : d < N) (hf : gM P f = true) (ha : Fr.evs L aS = some args)
  (hc : ∀ w, Sees F w0 B H S w -> Calls P f args.toArray w fun e w' => e = .returned v /\ Below w.heap.size w w')
  (hn : GQ P ops Q rest N ((d, v) :: L) F w0 B H S) : GQ P ops Q (⟨some d, .call ⟨.value (.func f), aS.toArray, ats⟩, ty, pos, aft, none⟩ :: rest) N L F w0 B H S := fun a k => wpQuiet_step fun K hK => by
 rw [if_pos (by simp [Region.wanted])]
 refine ⟨v, fun w s => ?_, hK _ (hn _ (k.put hd v))⟩
 show Oper.quietUpon _ _ _ _ _
 rw [oL k hf ha]
 exact ⟨rfl, (hc w s).mono fun e w' ⟨he, hb⟩ => ⟨he, s.below hb⟩⟩
def evp (L : Loc) : List (Nat × Operand) -> Option (LV)
 | [] => some []
 | (i, x) :: r => match ev L x, evp L r with
  | some v, some vs => some ((i, v) :: vs)
  | _, _ => none
theorem Kn.evp {a : Act} (k : Kn N L a) : ∀ {xs : List (Nat × Operand)} {vs : LV}, Fr.evp L xs = some vs -> xs.map (fun p => (p.1, a.eval p.2)) = vs
 | [], vs, h => by simpa [Fr.evp] using h
 | (i, x) :: r, vs, h => by
  simp only [Fr.evp] at h
  split at h
  .rename_i v vs' h1 h2
   cases h
   simp [k.eval h1, k.evp h2]
  .cases h
theorem iI {t : TypeId} {ps : List (Nat × Operand)} {vs : LV} (hv : Fr.evp L ps = some vs) (hb : ∀ w : World, (Instr.build t vs.toArray).run P w = .ok v w) : Rd P ⟨some d, .build t ps.toArray, ty, pos, aft, g⟩ N L F w0 B H S v := fun a w k s => by
 have : (ps.toArray.map fun p => (p.1, a.eval p.2)) = vs.toArray := by simp [k.evp hv]
 simp only [execOp, this, Sem.run_bind, hb w, Result.andThen_ok, Sem.run_pure]
theorem aLi {w : World} {base n sz c : Nat} {e : TypeId} {p : Option Addr} {xs : List Value} (h : w.ownsRow base e sz (.slice p n c) n xs) (m : Nat) (hm : m <= n) : w.ownsRow base e sz (.slice p m c) m (xs.take (m * sz)) := by
 refine ⟨?_, ?_⟩
 .rw [List.length_take, h.1]; exact Nat.min_eq_left (Nat.mul_le_mul_right _ hm)
 .rcases h.2 with ⟨e1, e2⟩ | ⟨g, cap, cur, e1, hb, hh, hn, hc, hs, ht⟩
  .injection e1 with e3 e4 e5
   subst e3 e5
   have : m = 0 := by omega
   subst this
   exact .inl ⟨rfl, rfl⟩
  .injection e1 with e3 e4 e5
   subst e3 e5
   exact .inr ⟨g, _, cur, rfl, hb, hh, by omega, hc, hs, by rw [<- ht, List.take_take]; congr 1; exact (Nat.min_eq_left (Nat.mul_le_mul_right _ hm)).symm⟩
theorem aBe (w : World) (r : Option Nat) : w.grownBy w r := ⟨rfl, rfl, rfl, Nat.le_refl _, fun _ _ _ => rfl⟩
theorem Sees.cut {w : World} (s : Sees F w0 B H S w) (j : Nat) {p : Option Addr} {n c : Nat} {q : Slc} (hr : lkp j S = some q) (hv : q.v = .slice p n c) (m : Nat) (hm : m <= q.n) : Sees F w0 B H ((j, ⟨.slice p m c, q.e, q.sz, m, q.xs.take (m * q.sz)⟩) :: S) w := by
 have ho := s.slcs j q hr
 have hn : n = q.n := by
  rcases ho.2 with ⟨e1, e2⟩ | ⟨g, cap, cur, e1, _⟩ <;> rw [hv] at e1 <;> injection e1
  omega
 subst hn
 rw [hv] at ho
 refine s.slice (old := q.v.ownBlock) (.inr ⟨q, hr, rfl⟩) (aBe w _) (aLi ho m hm) ?_
 rw [hv]
 cases p with
 | none => exact .inl rfl
 | some ad => exact .inr (.inl ⟨by simp [Value.ownBlock], rfl⟩)
def kP (P : Program) (t : TypeId) : Option (TypeId × Nat × Nat × List Value) :=
 match P.underlying t with
 | some (.slice e) => match P.info? e with
  | some i => match i.zero with
   | some z => some (e, i.size, i.bytes, z.cells.toList)
   | none => none
  | none => none
 | _ => none
theorem iM {t e : TypeId} {n b : Nat} {zs : List Value} (h : kP P t = some (e, n, b, zs)) : P.underlying t = some (.slice e) /\ ∃ i z, P.info? e = some i /\ i.zero = some z /\ i.size = n /\ i.bytes = b /\ z.cells.toList = zs := by
 unfold kP at h
 split at h
 .rename_i e' hu
  split at h
  .rename_i i hi
   split at h
   .rename_i z hz
    cases h
    exact ⟨hu, i, z, hi, hz, rfl, rfl, rfl⟩
   .cases h
  .cases h
 .cases h
theorem aA7 {k : IntKind} {x y : Int} : ∀ u ∈ [Value.int k x, .int k y], u.oneCell' = true := by
 intro u hu
 simp only [List.mem_cons, List.not_mem_nil, or_false] at hu
 rcases hu with rfl | rfl <;> rfl
theorem cW (j i : Nat) {t e : TypeId} {sz by_ : Nat} {zs : List Value} {x y : Operand} {q r : Slc} {b c : Nat} (hd : d < N) (ht : kP P t = some (e, sz, by_, zs)) (hzs : zs.length = sz) (hsz : 0 < sz) (hx : ev L x = some q.v) (hy : ev L y = some (sL b r.n c)) (hq : lkp j S = some q) (hr : lkp i S = some r)
  (hqe : q.e = e /\ q.sz = sz) (hre : r.sz = sz /\ r.v = sL b r.n c) (h1 : ∀ u ∈ r.xs, u.oneCell' = true) (h63 : q.n + r.n <= 9223372036854775807) (hbytes : (q.n + r.n) * by_ <= 140737488355328)
  (hn : ∀ p cp, GK K N ((d, .slice p (q.n + r.n) cp) :: L) F w0 B H ((j, ⟨.slice p (q.n + r.n) cp, e, sz, q.n + r.n, q.xs ++ r.xs⟩) :: S)) :
  GO P ⟨some d, .call ⟨.builtin .append, #[x, y], #[t, t]⟩, ty, pos, aft, none⟩ Q K N L F w0 B H S := fun a w k s => by
 obtain ⟨hu, inf, z, hi, hz, h2, h3, h4⟩ := iM ht
 have ho := s.slcs j q hq
 have hor := s.slcs i r hr
 rw [hqe.1, hqe.2] at ho
 have hl : r.xs.length = r.n * sz := by rw [<- hre.1]; exact hor.1
 have hnews : ∀ j' u, r.xs[j']? = some u -> w.cell? ((⟨b, 0, none⟩ : Addr).add j') = some u := hor.cells (by rw [hre.2]; rfl)
 obtain ⟨v', w', hrun, hown, hg, _, hat⟩ := run_append_own_at (P := P) w 0 t ty e inf z sz by_ hu hi hz h2 h3 (by rw [<- h4] at hzs; simpa using hzs) hsz q.v q.n q.xs ho ⟨b, 0, none⟩ r.n c r.xs hl hnews h1 h63 hbytes (Nat.zero_le _)
 have s' : Sees F w0 B H ((j, ⟨v', e, sz, q.n + r.n, q.xs ++ r.xs⟩) :: S) w' := s.slice (old := q.v.ownBlock) (.inr ⟨q, hq, rfl⟩) hg hown (by
  rcases hat with h' | h'
  .cases hb : q.v.ownBlock with
   | none => exact .inl (h'.trans hb)
   | some g' => exact .inr (.inl ⟨by simp, h'.trans hb⟩)
  .exact .inr (.inr ⟨_, h', Nat.le_refl _⟩))
 obtain ⟨p, cp, rfl⟩ : ∃ p cp, v' = .slice p (q.n + r.n) cp := by
  rcases hown.2 with ⟨e1, e2⟩ | ⟨g1, cap1, cur1, e1, _⟩
  .exact ⟨none, 0, by rw [e1, e2]⟩
  .exact ⟨_, _, e1⟩
 show Oper.upon _ _ _ _ _ _
 simp only [execOp, resolve, invoke, builtin, Sem.run_bind, Sem.run_pure, Result.andThen_ok, List.map_toArray, List.map_cons, List.map_nil, k.eval hx, k.eval hy, hrun]
 exact hn p cp _ _ (k.put hd _) s'
theorem n5 (j : Nat) {t e : TypeId} {sz by_ : Nat} {zs : List Value} {y : Operand} {cs : List Value} (hd : d < N) (ht : kP P t = some (e, sz, by_, zs)) (hzs : zs.length = sz) (hsz : 0 < sz) (hsm : sz <= 4096) (hy : ev L y = some v) (hv : v.cells.toList = cs) (hcs : cs.length = sz) (hS : lkp j S = none)
  (hn : ∀ b, GK K N ((d, sL b 1 1) :: L) F w0 B H ((j, ⟨sL b 1 1, e, sz, 1, cs⟩) :: S)) :
  GO P ⟨some d, .buildSlice t 1 #[(0, y)], ty, pos, aft, none⟩ Q K N L F w0 B H S := fun a w k s => by
 obtain ⟨hu, inf, z, hi, hz, h2, h3, h4⟩ := iM ht
 subst h2
 have hvs : v.cells.size = inf.size := by rw [<- Array.length_toList, hv, hcs]
 have hfold : ∀ (l : List Value) (n : Nat) (A : Array Value), n + l.length = A.size -> ((l.zipIdx n).foldl (fun cs (c, j) => cs.setIfInBounds j c) A).toList = A.toList.take n ++ l := by
  intro l
  induction l with
  | nil => intro n A h; simp at h; subst h; simp [<- Array.length_toList]
  | cons c l ih =>
   intro n A h
   simp only [List.length_cons] at h
   rw [List.zipIdx_cons, List.foldl_cons, ih (n + 1) _ (by simp; omega)]
   have hn : n < A.size := by omega
   rw [Array.toList_setIfInBounds, List.take_set, List.take_succ_eq_append_getElem (by simpa using hn), List.set_append_right _ _ (by simp; omega)]
   simp [Nat.min_eq_left (Nat.le_of_lt hn)]
 have hr : (Instr.buildSlice t 1 #[(0, v)]).run P w = .ok (sL w.heap.size 1 1) (w.alloc (.cells cs.toArray e (0, 0))) := by
  have hne : ¬ inf.size = 0 := by omega
  have hle : ¬ 16777216 < inf.size := by omega
  have hA : (Array.map (fun x => z.cells[x % z.cells.size]!) (Array.range inf.size)).size = inf.size := by simp
  have key : ((v.cells.zipIdx).foldl (fun cs (c, j) => cs.setIfInBounds j c) (Array.map (fun x => z.cells[x % z.cells.size]!) (Array.range inf.size))) = cs.toArray := by
   apply Array.toList_inj.1
   have := hfold v.cells.toList 0 (Array.map (fun x => z.cells[x % z.cells.size]!) (Array.range inf.size)) (by rw [hA, Array.length_toList, hvs]; omega)
   simp only [List.take_zero, List.nil_append, hv] at this
   rw [<- Array.foldl_toList, Array.toList_zipIdx, hv]
   simpa using this
  simp [Instr.buildSlice, run_underlying hu, iF hi, hne, hle, zeroValue, typeInfo, hi, hz, Instr.fill, hvs, newRow]
  have e1 : v.cells.zipIdx.size = inf.size := by simp [hvs]
  have key2 : Array.foldl (fun (cs : Array Value) (x : Value × Nat) => cs.setIfInBounds x.snd x.fst) (Array.map (fun x => z.cells[x % z.cells.size]!) (Array.range inf.size)) v.cells.zipIdx 0 inf.size = cs.toArray := by
   rw [show Array.foldl (fun (cs : Array Value) (x : Value × Nat) => cs.setIfInBounds x.snd x.fst) (Array.map (fun x => z.cells[x % z.cells.size]!) (Array.range inf.size)) v.cells.zipIdx 0 inf.size = Array.foldl (fun (cs : Array Value) (x : Value × Nat) => cs.setIfInBounds x.snd x.fst) (Array.map (fun x => z.cells[x % z.cells.size]!) (Array.range inf.size)) v.cells.zipIdx 0 v.cells.zipIdx.size by rw [e1]]
   exact key
  exact congrArg (fun A => w.alloc (.cells A e)) key2
 have s' : Sees F w0 B H ((j, ⟨sL w.heap.size 1 1, e, inf.size, 1, cs⟩) :: S) (w.alloc (.cells cs.toArray e (0, 0))) :=
  s.slice (old := none) (.inl rfl) (World.grownBy_alloc w _ none) ⟨by simp [hcs], .inr ⟨w.heap.size, 1, cs.toArray, rfl, Nat.zero_le _, heap_alloc_new w _, Nat.le_refl _, by unfold maxLen; omega, by simp [hcs], by simp [<- hcs]⟩⟩ (.inr (.inr ⟨w.heap.size, rfl, Nat.le_refl _⟩))
 show Oper.upon _ _ _ _ _ _
 simp only [execOp, List.map_toArray, List.map_cons, List.map_nil, k.eval hy, Sem.run_bind, hr, Result.andThen_ok, Sem.run_pure]
 exact hn _ _ _ (k.put hd _) s'
theorem xF (j : Nat) {t e : TypeId} {sz by_ : Nat} {zs : List Value} {x y : Operand} {q q' : IntKind} {c : Nat} (hd : d < N) (ht : kP P t = some (e, sz, by_, zs)) (hx : ev L x = some (.int q 0)) (hy : ev L y = some (.int q' (c : Int))) (hb : by_ * c <= 281474976710656) (h63 : c <= 9223372036854775807)
  (hn : ∀ b, GK K N ((d, sL b 0 c) :: L) F w0 B H ((j, ⟨sL b 0 c, e, sz, 0, []⟩) :: S)) :
  GO P ⟨some d, .makeSlice t x y, ty, pos, aft, none⟩ Q K N L F w0 B H S := fun a w k s => by
 obtain ⟨hu, inf, z, hi, hz, h2, h3, h4⟩ := iM ht
 subst h3
 obtain ⟨w', hr, hown, hg⟩ := run_make_own (P := P) w 0 t e inf z sz hu hi hz h2 q q' c hb h63 (Nat.zero_le _)
 have s' : Sees F w0 B H ((j, ⟨sL w.heap.size 0 c, e, sz, 0, []⟩) :: S) w' := s.slice (old := none) (.inl rfl) hg hown (.inr (.inr ⟨w.heap.size, rfl, Nat.le_refl _⟩))
 show Oper.upon _ _ _ _ _ _
 simp only [execOp, k.eval hx, k.eval hy, Sem.run_bind, hr, Result.andThen_ok, Sem.run_pure]
 exact hn _ _ _ (k.put hd _) s'
end
end Go.Fr
namespace Go.Fr
open Go.RowKit
section
variable {P : Program} {ops : Array Oper} {Q : Exit -> Act -> World -> Prop} {C : World -> Prop} {late : Nat -> Bool}
def l3 (P : Program) (ops : Array Oper) (Q : Exit -> Act -> World -> Prop) (C : World -> Prop) (late : Nat -> Bool) : Nat -> Array Bool -> Act -> World -> Prop
 | 0, listed, a, w => Region.ready .any ops listed = [] /\ Q .normal a w
 | fuel + 1, listed, a, w =>
  (Region.ready .any ops listed = [] -> Q .normal a w) /\
  ∀ i ∈ Region.ready .any ops listed, wpOp P ops Q i (fun a' w' => (late i = false -> C w') /\ l3 P ops Q C late fuel (listed.setIfInBounds i true) a' w') a w
theorem xL : ∀ (fuel : Nat) (listed : Array Bool) (a : Act) (w : World), l3 P ops Q C late fuel listed a w -> wpAny P .any ops Q fuel listed a w
 | 0, _, _, _, h => h
 | fuel + 1, _, _, _, h => ⟨h.1, fun i hi => wpOp_mono (fun a' w' h' => xL fuel _ a' w' h'.2) (h.2 i hi)⟩
def aDg (ops : Array Oper) (late : Nat -> Bool) (i : Nat) : Bool :=
 (List.range ops.size).all fun j => !late j || match ops[j]? with
  | some oj => oj.after.any fun e => Region.binds .any e && e.on == i
  | none => true
theorem aFb {i j : Nat} {oj : Oper} (h : aDg ops late i = true) (hj : ops[j]? = some oj) (hno : ∀ e ∈ oj.after, Region.binds .any e = true -> e.on ≠ i) : late j = false := by
 simp only [aDg, List.all_eq_true, List.mem_range] at h
 have h1 := h j (Array.getElem?_eq_some_iff.1 hj).1
 simp only [hj, Bool.or_eq_true, Bool.not_eq_true'] at h1
 rcases h1 with h1 | h1
 .exact h1
 .obtain ⟨e, he, hb⟩ : ∃ e ∈ oj.after, (Region.binds .any e && e.on == i) = true := by
   rw [<- Array.any_toList, List.any_eq_true] at h1
   obtain ⟨e, he, hb⟩ := h1
   exact ⟨e, by simpa using he, hb⟩
  simp only [Bool.and_eq_true, beq_iff_eq] at hb
  exact absurd hb.2 (hno e he hb.1)
theorem aB1 {i : Nat} {oi : Oper} {v : Value} (hi : ops[i]? = some oi) (hsel : ∀ (j : Nat) (o : Oper) cs b, ops[j]? = some o -> o.op ≠ .select cs b) (hl : late i = false) (hw : aDg ops late i = true)
  (hQ : ∀ c a w, Q (.panic c) (a.put oi.dst v) w -> Q (.panic c) a w) :
  ∀ (fuel : Nat) (listed : Array Bool) (a : Act) (w : World),
   (∀ j oj, ops[j]? = some oj -> j ≠ i -> listed.getD j true = false -> (∀ e ∈ oj.after, Region.binds .any e = true -> e.on ≠ i) -> oi.apart ops oj = true) ->
   i ∈ Region.ready .any ops listed -> YieldsIf P ops C oi v a -> C w ->
   l3 P ops Q C late fuel (listed.setIfInBounds i true) (a.put oi.dst v) w -> l3 P ops Q C late (fuel + 1) listed a w := by
 intro fuel
 induction fuel with
 | zero =>
  intro listed a w _ hr hy hC H
  refine ⟨fun h => (by rw [h] at hr; cases hr), fun j hj => ?_⟩
  by_cases hji : j = i
  .subst hji; exact hy.wpOp hi hC ⟨fun _ => hC, H⟩
  .have := ready_mono hj hji
   rw [H.1] at this
   cases this
 | succ fuel ih =>
  intro listed a w hfree hr hy hC H
  refine ⟨fun h => (by rw [h] at hr; cases hr), fun j hj => ?_⟩
  by_cases hji : j = i
  .subst hji; exact hy.wpOp hi hC ⟨fun _ => hC, H⟩
  .have h1 := H.2 j (ready_mono hj hji)
   obtain ⟨hjun, oj, hoj, hall⟩ := mem_ready.1 hj
   have hnot : ∀ e ∈ oj.after, Region.binds .any e = true -> e.on ≠ i := fun e he hb heq => by
    have h1 := hall e he hb
    have h0 := (mem_ready.1 hr).1
    rw [heq] at h1
    rcases Nat.lt_or_ge i listed.size with h' | h'
    .simp [h'] at h0 h1; rw [h0] at h1; cases h1
    .simp [Array.getElem?_eq_none h'] at h1
   have hlj := aFb hw hoj hnot
   have h2 := wpOp_putIf hoj (hfree j oj hoj hji hjun hnot) (fun cs b => hsel i oi cs b hi) (fun cs b => hsel j oj cs b hoj) hQ hy h1
   have hfree' : ∀ k ok, ops[k]? = some ok -> k ≠ i -> (listed.setIfInBounds j true).getD k true = false ->
     (∀ e ∈ ok.after, Region.binds .any e = true -> e.on ≠ i) -> oi.apart ops ok = true := fun k ok hk hki hun hno => by
    refine hfree k ok hk hki ?_ hno
    by_cases hjk : j = k
    .subst hjk; exact hjun
    .rw [getD_set_ne true hjk] at hun; exact hun
   refine wpOp_mono (fun a' w' h3 => ⟨h3.2.1, ih (listed.setIfInBounds j true) a' w' hfree' (ready_mono hr (Ne.symm hji)) h3.1 (h3.2.1 hlj) ?_⟩) h2
   rw [Array.setIfInBounds_comm _ _ hji]
   exact h3.2.2
variable {N : Nat} {L : Loc} {F : Nat -> Prop} {w0 : World} {B : LN} {H : LV} {S : LS}
abbrev GA (P : Program) (ops : Array Oper) (Q : Exit -> Act -> World -> Prop) (C : World -> Prop) (late : Nat -> Bool) (g : Nat) (listed : Array Bool) (N : Nat) (L : Loc) (F : Nat -> Prop) (w0 : World) (B : LN) (H : LV) (S : LS) : Prop :=
 GK (l3 P ops Q C late g listed) N L F w0 B H S
theorem u4 {id : Nat} {l : List Oper} (C : World -> Prop) (late : Nat -> Bool) (hm : P.follows .mixedOrders = true) (h : GA P l.toArray Q C late l.length (Array.replicate l.length false) N L F w0 B H S) : GC P (.region id l.toArray true) Q N L F w0 B H S := fun a w k s =>
 wp_region_any hm (xL _ _ _ _ (by simpa using h a _ k s.drew))
def Blind (Q : Exit -> Act -> World -> Prop) : Prop := ∀ c a d v w, Q (.panic c) (Act.put a d v) w -> Q (.panic c) a w
theorem Blind.then {K : Act -> World -> Prop} (h : Blind Q) : Blind (Exit.then K Q) := fun c a d v w q => h c a d v w q
theorem Blind.inBlock {id : Nat} (h : Blind Q) : Blind (Exit.inBlock id Q) := fun c a d v w q => h c a d v w q
theorem Blind.body {fn : Func} {R : Ending -> World -> Prop} : Blind (bodyPost P fn R) := fun c a d v w q => by cases d <;> exact q
theorem yE {g i d : Nat} {listed listed' : Array Bool} {op : Op} {ty : TypeId} {pos : String} {aft : Array Edge} {gd : Option (Nat × Bool)} {v : Value} {B0 : LN} {H0 : LV} {S0 : LS}
  (hi : ops[i]? = some ⟨some d, op, ty, pos, aft, gd⟩) (hg : gd = none) (hQ : Blind Q) (hchk : (Region.noSelect ops && Region.free .any ops listed i && (Region.ready .any ops listed).contains i && !late i && aDg ops late i) = true) (hls : listed.setIfInBounds i true = listed') (hd : d < N)
  (hy : Rd P ⟨some d, op, ty, pos, aft, gd⟩ N L F w0 B0 H0 S0 v) (hS : ∀ w, Sees F w0 B H S w -> Sees F w0 B0 H0 S0 w)
  (hn : GA P ops Q (Sees F w0 B0 H0 S0) late g listed' N ((d, v) :: L) F w0 B H S) : GA P ops Q (Sees F w0 B0 H0 S0) late (g + 1) listed N L F w0 B H S := fun a w k s => by
 subst hls hg
 simp only [Bool.and_eq_true, Bool.not_eq_true'] at hchk
 obtain ⟨⟨⟨⟨h1, h2⟩, h3⟩, h4⟩, h5⟩ := hchk
 exact aB1 hi (Region.noSelect_spec h1) h4 h5 (fun c a w q => hQ c a _ v w q) g listed a w (Region.free_spec hi h2) (by simpa using h3) (.inl ⟨by simp [Region.wanted], fun w' s' => hy a w' k s'⟩) (hS w s) (hn _ w (k.put hd v) s)
theorem aMn {g i : Nat} {listed listed' : Array Bool} {o : Oper} (hi : ops[i]? = some o) (hg : o.guard = none) (hr : Region.ready .any ops listed = [i]) (hls : listed.setIfInBounds i true = listed')
  (h : GO P o Q (fun a' w' => (late i = false -> C w') /\ l3 P ops Q C late g listed' a' w') N L F w0 B H S) : GA P ops Q C late (g + 1) listed N L F w0 B H S := fun a w k s => by
 subst hls
 refine ⟨fun h0 => (by rw [hr] at h0; cases h0), fun j hj => ?_⟩
 rw [hr] at hj
 have : j = i := by simpa using hj
 subst this
 unfold wpOp
 simp only [hi]
 rw [if_pos (by simp [Region.wanted, hg])]
 exact .inl (h a w k s)
theorem l6 {g i j : Nat} {listed li lj : Array Bool} {o o' : Oper} (hi : ops[i]? = some o) (hj : ops[j]? = some o') (hg : o.guard = none) (hg' : o'.guard = none) (hr : Region.ready .any ops listed = [i, j]) (hli : listed.setIfInBounds i true = li) (hlj : listed.setIfInBounds j true = lj)
  (h : GO P o Q (fun a' w' => (late i = false -> C w') /\ l3 P ops Q C late g li a' w') N L F w0 B H S)
  (h' : GO P o' Q (fun a' w' => (late j = false -> C w') /\ l3 P ops Q C late g lj a' w') N L F w0 B H S) : GA P ops Q C late (g + 1) listed N L F w0 B H S := fun a w k s => by
 subst hli hlj
 refine ⟨fun h0 => (by rw [hr] at h0; cases h0), fun q hq => ?_⟩
 rw [hr] at hq
 have : q = i \/ q = j := by simpa using hq
 unfold wpOp
 rcases this with rfl | rfl
 .simp only [hi]
  rw [if_pos (by simp [Region.wanted, hg])]
  exact .inl (h a w k s)
 .simp only [hj]
  rw [if_pos (by simp [Region.wanted, hg'])]
  exact .inl (h' a w k s)
theorem fM {g : Nat} {listed : Array Bool} (hr : Region.ready .any ops listed = []) (h : GE Q .normal N L F w0 B H S) : GA P ops Q C late g listed N L F w0 B H S := fun a w k s => by
 cases g with
 | zero => exact ⟨hr, h a w k s⟩
 | succ g => exact ⟨fun _ => h a w k s, by rw [hr]; simp⟩
theorem fS {lb : Bool} {K : Act -> World -> Prop} (hC : lb = false -> ∀ w, Sees F w0 B H S w -> C w) (h : GK K N L F w0 B H S) : GK (fun a' w' => (lb = false -> C w') /\ K a' w') N L F w0 B H S :=
 fun a w k s => ⟨fun hl => hC hl w s, h a w k s⟩
theorem gI {K : Act -> World -> Prop} {d : Nat} {op : Op} {ty : TypeId} {pos : String} {aft : Array Edge} {gd : Option (Nat × Bool)} {v : Value} (hd : d < N) (h : Rd P ⟨some d, op, ty, pos, aft, gd⟩ N L F w0 B H S v) (hn : GK K N ((d, v) :: L) F w0 B H S) : GO P ⟨some d, op, ty, pos, aft, gd⟩ Q K N L F w0 B H S := fun a w k s => by
 show Oper.upon _ _ _ _ _ _
 rw [h a w k s]
 exact hn _ _ (k.put hd v) s
end
end Go.Fr
namespace Go.Fr
open Go.RowKit
section
variable {P : Program} {N : Nat} {L : Loc} {F : Nat -> Prop} {w0 w : World} {B : LN} {H : LV} {S : LS} {fn : Func} {R : Ending -> World -> Prop}
theorem aF {f : FuncId} {c : Code} {args : List Value} (hf : P.funcs[f]? = some fn) (hb : fn.body = some c) (hN : fn.ntmps = N) (hsz : args.length <= N) (hL : (args.zipIdx.map fun p => (p.2, p.1)) = L) (s : Sees F w0 B H S w) (h : GC P c (bodyPost P fn R) N L F w0 B H S) : Calls P f args.toArray w R := by
 refine calls_of_wp hf hb (h _ w ?_ s)
 have := Kn.start (args := args.toArray) (N := N) (by simpa using hsz)
 subst hN hL
 simpa using this
section
variable {α : Type} {m : Nat}
def Agr (m : Nat) (X : List Nat) (A1 A0 : List (Nat × α)) : Prop := ∀ k, k < m -> k ∉ X -> lkp k A1 = lkp k A0
variable {X : List Nat} {A1 A0 : List (Nat × α)}
theorem Agr.refl (A0 : List (Nat × α)) : Agr m X A0 A0 := fun _ _ _ => rfl
theorem Agr.pick {q : Nat} {v : α} (h : lkp q A1 = some v) (r : Agr m (q :: X) A1 A0) : Agr m X A1 ((q, v) :: A0) := fun k hk hX => by
 by_cases e : k = q
 .subst e; rw [bJ]; exact h
 .rw [aA e]; exact r k hk (by simp [e, hX])
theorem Agr.skip {q : Nat} {v : α} (h : m <= q \/ q ∈ X) (r : Agr m X A1 A0) : Agr m X ((q, v) :: A1) A0 := fun k hk hX => by
 have e : k ≠ q := by
  rintro rfl
  rcases h with h | h
  .omega
  .exact hX h
 rw [aA e]; exact r k hk hX
theorem Agr.put {k : Nat} {H1 H0 : LV} (hk : m <= k) : ∀ (cs : List Value) (o : Nat), Agr (ky m 0) X H1 H0 -> Agr (ky m 0) X (aL k o cs ++ H1) H0
 | [], _, h => h
 | v :: r, o, h => Agr.skip (.inl (by unfold ky; omega)) (Agr.put hk r (o + 1) h)
theorem Agr.seq {k : Nat} (hk : m <= k) : ∀ (cs : List Value) (o : Nat) {H1 H0 : LV}, Agr (ky m 0) X H1 H0 -> Agr (ky m 0) X (dL k o cs H1) H0
 | [], _, _, _, h => h
 | v :: r, o, _, _, h => Agr.seq hk r (o + 1) (Agr.skip (.inl (by unfold ky; omega)) h)
theorem Lim.aPh {B0 : LN} {H0 : LV} {S0 : LS} (h : Lim m B0 H0 S0) {k o : Nat} {v : Value} (hk : k < m) (ho : o < 4096) : Lim m B0 ((ky k o, v) :: H0) S0 :=
 ⟨h.b, fun k' hk' o' ho' => by rw [aA (by unfold ky; omega)]; exact h.h k' hk' o' ho', h.s⟩
theorem Lim.aPi {B0 : LN} {H0 : LV} {S0 : LS} (h : Lim m B0 H0 S0) {k : Nat} {v : Slc} (hk : k < m) : Lim m B0 H0 ((k, v) :: S0) :=
 ⟨h.b, h.h, fun k' hk' => by rw [aA oM]; exact h.s k' hk'⟩
theorem Lim.aPj {B0 : LN} {H0 : LV} {S0 : LS} (h : Lim m B0 H0 S0) {k : Nat} {v : Nat} (hk : k < m) : Lim m ((k, v) :: B0) H0 S0 :=
 ⟨fun k' hk' => by rw [aA oM]; exact h.b k' hk', h.h, h.s⟩
theorem Lim.aPk {B0 : LN} {S0 : LS} {k : Nat} (hk : k < m) : ∀ (cs : List Value) (o : Nat) {H0 : LV}, o + cs.length <= 4096 -> Lim m B0 H0 S0 -> Lim m B0 (aL k o cs ++ H0) S0
 | [], _, _, _, h => h
 | v :: r, o, _, ho, h => Lim.aPh (Lim.aPk hk r (o + 1) (by simp at ho ⊢; omega) h) hk (by simp at ho; omega)
theorem Lim.nil : Lim m [] [] [] := ⟨fun _ _ => rfl, fun _ _ _ _ => rfl, fun _ _ => rfl⟩
theorem Lim.mono {B0 : LN} {H0 : LV} {S0 : LS} (h : Lim m B0 H0 S0) {n : Nat} (hn : m <= n) : Lim n B0 H0 S0 := ⟨fun k hk => h.b k oM, fun k hk => h.h k oM, fun k hk => h.s k oM⟩
end
theorem Sees.low {B1 : LN} {H1 : LV} {S1 : LS} (m : Nat) (s : Sees F w0 B1 H1 S1 w) (hl : Lim m B H S) (hB : Agr m [] B1 B) (hH : Agr (ky m 0) [] H1 H) (hS : Agr m [] S1 S) : Sees F w0 B H S w := by
 have hb : ∀ k b, lkp k B = some b -> k < m := fun k b h => by
  rcases Nat.lt_or_ge k m with h' | h'
  .exact h'
  .rw [hl.b k h'] at h; cases h
 refine s.to (fun k b h => by rw [hB k (hb k b h) (by simp)]; exact h) (fun k o v ho h => ?_) (fun k q h => ?_)
 .have hk : k < m := by
   rcases Nat.lt_or_ge k m with h' | h'
   .exact h'
   .rw [hl.h k h' o ho] at h; cases h
  have h1 : lkp (ky k o) H1 = some v := by rw [hH (ky k o) (by unfold ky; omega) (by simp)]; exact h
  obtain ⟨b, e, _, _⟩ := s.cells k o v ho h1
  refine ⟨h1, ?_⟩
  rw [<- hB k hk (by simp), e]; rfl
 .have hk : k < m := by
   rcases Nat.lt_or_ge k m with h' | h'
   .exact h'
   .rw [hl.s k h'] at h; cases h
  rw [hS k hk (by simp)]; exact h
theorem bV {k j o p : Nat} {v : Value} {A : LV} (h : k ≠ j) (ho : o < 4096) (hp : p < 4096) : lkp (ky k o) ((ky j p, v) :: A) = lkp (ky k o) A := aA (fun e => h (iA ho hp e).1) _ _
theorem aJ {k j o : Nat} {A : LV} (h : k ≠ j) (ho : o < 4096) : ∀ (cs : List Value) (p : Nat), p + cs.length <= 4096 -> lkp (ky k o) (aL j p cs ++ A) = lkp (ky k o) A
 | [], _, _ => rfl
 | v :: r, p, hp => by
  simp only [List.length_cons] at hp
  show lkp (ky k o) ((ky j p, v) :: (aL j (p + 1) r ++ A)) = _
  rw [bV h ho oM]
  exact aJ h ho r (p + 1) oM
theorem dA {k j o : Nat} (h : k ≠ j) (ho : o < 4096) : ∀ (cs : List Value) (p : Nat) {A : LV}, p + cs.length <= 4096 -> lkp (ky k o) (dL j p cs A) = lkp (ky k o) A
 | [], _, _, _ => rfl
 | v :: r, p, A, hp => by
  simp only [List.length_cons] at hp
  show lkp (ky k o) (dL j (p + 1) r ((ky j p, v) :: A)) = _
  rw [dA h ho r (p + 1) oM, bV h ho oM]
theorem Sees.aPg (s : Sees (fun _ => False) w0 B H S w) : Below w0.heap.size w0 w := ⟨s.os, s.tape, s.output, s.size, fun k hk => s.frame k hk (fun h => h)⟩
def Res (P : Program) (N : Nat) (L : Loc) (F : Nat -> Prop) (w0 : World) (B : LN) (H : LV) (S : LS) (r : ResultVar) (v : Value) : Prop :=
 ∀ a w, Kn N L a -> Sees F w0 B H S w -> (match r with
  | .tmp t => (pure (a.tmps.getD t undef) : Sem Value)
  | .cell p t => do loadVar t (<- asAddr (a.tmps.getD p undef))).run P w = .ok v w
theorem aE {t : Nat} {v : Value} (hx : lkp t L = some v) : Res P N L F w0 B H S (.tmp t) v := fun a w k s => by
 have : a.tmps.getD t undef = v := k.eval (x := .tmp t) hx
 simp [this]
theorem iP (j : Nat) {p b : Nat} {t : TypeId} {u v : Value} (hx : lkp p L = some (pT b)) (hb : lkp j B = some b) (h0 : lkp (ky j 0) H = some u) (h1 : lkp (ky j 1) H = some v) (ht : zP P t = some 2) : Res P N L F w0 B H S (.cell p t) (.agg #[u, v]) := fun a w k s => by
 have e : a.tmps.getD p undef = pT b := k.eval (x := .tmp p) hx
 have h : ∃ d, P.underlying t = some d /\ d.isRow = true /\ (P.info? t).map (·.size) = some 2 := by
  unfold zP at ht
  split at ht
  .exact ⟨_, ‹_›, rfl, ht⟩
  .exact ⟨_, ‹_›, rfl, ht⟩
  .cases ht
 obtain ⟨d, hu, hr, hi⟩ := h
 have hl := run_loadVar_mid (P := P) w b 0 t [u, v] d (sH (s.cell hb oM h0) (s.cell hb oM h1)) hu hr hi
 simp only [e, asAddr, Sem.run_bind, Sem.run_pure, Result.andThen_ok, hl]
theorem lF (j : Nat) {p b : Nat} {t : TypeId} {cs : List Value} (hx : lkp p L = some (pT b)) (hb : lkp j B = some b) (hc : ∀ i v, cs[i]? = some v -> lkp (ky j i) H = some v) (hn : cs.length <= 4096) (ht : zP P t = some cs.length) : Res P N L F w0 B H S (.cell p t) (.agg cs.toArray) := fun a w k s => by
 have e : a.tmps.getD p undef = pT b := k.eval (x := .tmp p) hx
 have h : ∃ d, P.underlying t = some d /\ d.isRow = true /\ (P.info? t).map (·.size) = some cs.length := by
  unfold zP at ht
  split at ht
  .exact ⟨_, ‹_›, rfl, ht⟩
  .exact ⟨_, ‹_›, rfl, ht⟩
  .cases ht
 obtain ⟨d, hu, hr, hi⟩ := h
 have hl := run_loadVar_mid (P := P) w b 0 t cs d (fun i v hv => by
  have hi : i < cs.length := by
   rcases Nat.lt_or_ge i cs.length with h' | h'
   .exact h'
   .simp [List.getElem?_eq_none h'] at hv
  rw [Nat.zero_add]; exact s.cell hb oM (hc i v hv)) hu hr hi
 simp only [e, asAddr, Sem.run_bind, Sem.run_pure, Result.andThen_ok, hl]
theorem aK7 {a : Act} {rs : List ResultVar} {vs : List Value} (k : Kn N L a) (s : Sees F w0 B H S w) (h : ∀ (i : Nat) r v, rs[i]? = some r -> vs[i]? = some v -> Res P N L F w0 B H S r v) (hl : rs.length = vs.length) :
  (rs.mapM fun (r : ResultVar) => (match r with
   | .tmp t => (pure (a.tmps.getD t undef) : Sem Value)
   | .cell p t => do loadVar t (<- asAddr (a.tmps.getD p undef)))).run P w = .ok vs w := by
 induction rs generalizing vs with
 | nil => cases vs <;> simp_all
 | cons r rs ih =>
  cases vs with
  | nil => simp at hl
  | cons v vs =>
   have h0 := h 0 r v rfl rfl a w k s
   have h1 := ih (vs := vs) (fun i r v hr hv => h (i + 1) r v (by simpa using hr) (by simpa using hv)) (by simpa using hl)
   simp only [List.mapM_cons, Sem.run_bind, h0, Result.andThen_ok, h1, Sem.run_pure]
def aL8 : List Value -> Value
 | [v] => v
 | vs => .tuple vs.toArray
theorem aBu {e : Exit} (he : e = .ret \/ e = .normal) {rs : List ResultVar} {vs : List Value} (hr : fn.results = rs.toArray) (h : ∀ (i : Nat) r v, rs[i]? = some r -> vs[i]? = some v -> Res P N L F w0 B H S r v) (hl : rs.length = vs.length)
  (hR : ∀ w, Sees F w0 B H S w -> R (.returned (aL8 vs)) w) : GE (bodyPost P fn R) e N L F w0 B H S := fun a w k s => by
 have h1 := aK7 k s h hl
 have h2 : (results fn a.tmps).run P w = .ok (aL8 vs) w := by
  unfold results
  rw [hr]
  simp only [List.mapM_toArray, Sem.run_bind, Sem.run_map]
  refine (congrArg (fun (r : Result (List Value)) => (r.andThen fun a w' => Result.ok a.toArray w').andThen fun a w' => Sem.run P (pure (if h : a.size = 1 then a[0] else Value.tuple a)) w') h1).trans ?_
  simp only [Result.andThen_ok, Sem.run_pure]
  match vs with
  | [] => rfl
  | [v] => rfl
  | u :: v :: r => rfl
 rcases he with rfl | rfl
 .exact ⟨k.defers, _, h2, hR w s⟩
 .exact ⟨k.defers, _, h2, hR w s⟩
theorem fI {e : Exit} (he : e = .ret \/ e = .normal) (hr : fn.results = #[]) (hR : ∀ w, Sees F w0 B H S w -> R (.returned (.tuple #[])) w) : GE (bodyPost P fn R) e N L F w0 B H S :=
 aBu he (rs := []) (vs := []) hr (fun i r v h _ => by simp at h) rfl hR
theorem aT {e : Exit} {r : ResultVar} {v : Value} (he : e = .ret \/ e = .normal) (hr : fn.results = #[r]) (h : Res P N L F w0 B H S r v) (hR : ∀ w, Sees F w0 B H S w -> R (.returned v) w) : GE (bodyPost P fn R) e N L F w0 B H S :=
 aBu he (rs := [r]) (vs := [v]) hr (fun i r' v' h1 h2 => by
  match i, h1, h2 with
  | 0, h1, h2 => cases h1; cases h2; exact h) rfl hR
theorem d9 {e : Exit} {r r2 : ResultVar} {v v2 : Value} (he : e = .ret \/ e = .normal) (hr : fn.results = #[r, r2]) (h : Res P N L F w0 B H S r v) (h' : Res P N L F w0 B H S r2 v2) (hR : ∀ w, Sees F w0 B H S w -> R (.returned (.tuple #[v, v2])) w) : GE (bodyPost P fn R) e N L F w0 B H S :=
 aBu he (rs := [r, r2]) (vs := [v, v2]) hr (fun i r' v' h1 h2 => by
  match i, h1, h2 with
  | 0, h1, h2 => cases h1; cases h2; exact h
  | 1, h1, h2 => cases h1; cases h2; exact h') rfl hR
theorem jZ {e : Exit} {r r2 r3 : ResultVar} {v v2 v3 : Value} (he : e = .ret \/ e = .normal) (hr : fn.results = #[r, r2, r3]) (h : Res P N L F w0 B H S r v) (h' : Res P N L F w0 B H S r2 v2) (h'' : Res P N L F w0 B H S r3 v3) (hR : ∀ w, Sees F w0 B H S w -> R (.returned (.tuple #[v, v2, v3])) w) : GE (bodyPost P fn R) e N L F w0 B H S :=
 aBu he (rs := [r, r2, r3]) (vs := [v, v2, v3]) hr (fun i r' v' h1 h2 => by
  match i, h1, h2 with
  | 0, h1, h2 => cases h1; cases h2; exact h
  | 1, h1, h2 => cases h1; cases h2; exact h'
  | 2, h1, h2 => cases h1; cases h2; exact h'') rfl hR
end
end Go.Fr
namespace Go.Fr
open Go.RowKit
section
variable {P : Program} {Q Q' : Exit -> Act -> World -> Prop} {K : Act -> World -> Prop} {N : Nat} {L : Loc} {F : Nat -> Prop} {w0 : World} {B : LN} {H : LV} {S : LS}
variable {id : Nat} {l tl rest : List Oper} {ops : Array Oper} {o : Oper} {d : Nat} {v : Value} {ty : TypeId} {pos : String} {aft : Array Edge} {op : Op} {g : Option (Nat × Bool)}
theorem qW {t : TypeId} {x : Operand} {k k2 : IntKind} {m n : Int} (hx : ev L x = some (.int k m)) (hb : ∀ w : World, (Instr.build t #[(0, .int k m)]).run P w = .ok (.agg #[.int k m, .int k2 n]) w) : Rd P ⟨some d, .build t #[(0, x)], ty, pos, aft, g⟩ N L F w0 B H S (.agg #[.int k m, .int k2 n]) :=
 iI (ps := [(0, x)]) (vs := [(0, .int k m)]) (by simp [evp, hx]) hb
theorem vD {t : TypeId} {x y : Operand} {k k2 : IntKind} {m n : Int} (hx : ev L x = some (.int k m)) (hy : ev L y = some (.int k2 n)) (hb : ∀ w : World, (Instr.build t #[(0, .int k m), (1, .int k2 n)]).run P w = .ok (.agg #[.int k m, .int k2 n]) w) : Rd P ⟨some d, .build t #[(0, x), (1, y)], ty, pos, aft, g⟩ N L F w0 B H S (.agg #[.int k m, .int k2 n]) :=
 iI (ps := [(0, x), (1, y)]) (vs := [(0, .int k m), (1, .int k2 n)]) (by simp [evp, hx, hy]) hb
theorem n9 {t : TypeId} (hb : ∀ w : World, (Instr.build t #[]).run P w = .ok v w) : Rd P ⟨some d, .build t #[], ty, pos, aft, g⟩ N L F w0 B H S v :=
 iI (ps := []) (vs := []) rfl hb
theorem fY (j : Nat) {t e : TypeId} {sz n : Nat} {ps : List (Nat × Operand)} {vs : LV} {cs : List Value} (hd : d < N) (hv : evp L ps = some vs)
  (hb : ∀ w : World, (Instr.buildSlice t n vs.toArray).run P w = .ok (sL w.heap.size n n) (w.alloc (.cells cs.toArray e (0, 0)))) (hcs : cs.length = n * sz) (hmax : n <= 4096) (hn : 0 < n) (hS : lkp j S = none)
  (h : ∀ b, w0.heap.size <= b -> GK K N ((d, sL b n n) :: L) F w0 B H ((j, ⟨sL b n n, e, sz, n, cs⟩) :: S)) :
  GO P ⟨some d, .buildSlice t n ps.toArray, ty, pos, aft, none⟩ Q K N L F w0 B H S := fun a w k s => by
 have hr := hb w
 have s' : Sees F w0 B H ((j, ⟨sL w.heap.size n n, e, sz, n, cs⟩) :: S) (w.alloc (.cells cs.toArray e (0, 0))) :=
  s.slice (old := none) (.inl rfl) (World.grownBy_alloc w _ none) ⟨hcs, .inr ⟨w.heap.size, n, cs.toArray, rfl, Nat.zero_le _, heap_alloc_new w _, Nat.le_refl _, by unfold maxLen; omega, by simp [hcs], by simp [<- hcs]⟩⟩ (.inr (.inr ⟨w.heap.size, rfl, Nat.le_refl _⟩))
 have e1 : (ps.toArray.map fun p => (p.1, a.eval p.2)) = vs.toArray := by simp [k.evp hv]
 show Oper.upon _ _ _ _ _ _
 simp only [execOp, e1, Sem.run_bind, hr, Result.andThen_ok, Sem.run_pure]
 exact h _ s.size _ _ (k.put hd _) s'
theorem aAw (j : Nat) {t e : TypeId} {sz : Nat} (hd : d < N)
  (hb : ∀ w : World, (Instr.buildSlice t 0 #[]).run P w = .ok (sL w.heap.size 0 0) (w.alloc (.cells #[] e (0, 0)))) (hS : lkp j S = none)
  (h : ∀ b, w0.heap.size <= b -> GK K N ((d, sL b 0 0) :: L) F w0 B H ((j, ⟨sL b 0 0, e, sz, 0, []⟩) :: S)) :
  GO P ⟨some d, .buildSlice t 0 #[], ty, pos, aft, none⟩ Q K N L F w0 B H S := fun a w k s => by
 have hr := hb w
 have s' : Sees F w0 B H ((j, ⟨sL w.heap.size 0 0, e, sz, 0, []⟩) :: S) (w.alloc (.cells #[] e (0, 0))) :=
  s.slice (old := none) (.inl rfl) (World.grownBy_alloc w _ none) ⟨by simp, .inr ⟨w.heap.size, 0, #[], rfl, Nat.zero_le _, heap_alloc_new w _, Nat.le_refl _, by unfold maxLen; omega, by simp, by simp⟩⟩ (.inr (.inr ⟨w.heap.size, rfl, Nat.le_refl _⟩))
 show Oper.upon _ _ _ _ _ _
 simp only [execOp, List.map_toArray, List.map_nil, Sem.run_bind, hr, Result.andThen_ok, Sem.run_pure]
 exact h _ s.size _ _ (k.put hd _) s'
end
def Ints (w : World) (v : Value) (xs : List Int) : Prop := ∃ p c, v = .slice p xs.length c /\ ∀ (i : Nat) (x : Int), xs[i]? = some x -> ∃ b o, p = some ⟨b, o, none⟩ /\ w.cell? ⟨b, o + i, none⟩ = some (iV x)
theorem Ints.take {w : World} {p : Option Addr} {n c : Nat} {xs : List Int} (h : Ints w (.slice p n c) xs) {m : Nat} (hm : m <= n) : Ints w (.slice p m c) (xs.take m) := by
 obtain ⟨p', c', e, h⟩ := h
 injection e with e1 e2 e3
 subst e1 e2 e3
 refine ⟨p, c, by rw [List.length_take, Nat.min_eq_left hm], fun i x hx => h i x ?_⟩
 rw [List.getElem?_take] at hx
 split at hx
 .exact hx
 .cases hx
theorem Ints.drop {w : World} {p : Option Addr} {n c : Nat} {xs : List Int} (h : Ints w (.slice p n c) xs) {m : Nat} (hm : m < c) : Ints w (.slice (if c = m then p else p.map (·.add (m * 1))) (n - m) (c - m)) (xs.drop m) := by
 obtain ⟨p', c', e, h⟩ := h
 injection e with e1 e2 e3
 subst e1 e2 e3
 refine ⟨_, _, by rw [List.length_drop], fun i x hx => ?_⟩
 rw [List.getElem?_drop] at hx
 obtain ⟨b, o, rfl, hc⟩ := h (m + i) x hx
 refine ⟨b, o + m, ?_, by rw [Nat.add_assoc]; exact hc⟩
 rw [if_neg oM]
 simp [Addr.add]
theorem Ints.nil {w : World} {p : Option Addr} {c : Nat} : Ints w (.slice p 0 c) [] := ⟨p, c, rfl, fun i x h => by simp at h⟩
theorem Ints.from {w : World} {b o : Nat} {n c : Nat} {xs : List Int} (h : Ints w (.slice (some ⟨b, o, none⟩) n c) xs) (m : Nat) : Ints w (.slice (some ⟨b, o + m * 1, none⟩) (n - m) (c - m)) (xs.drop m) := by
 obtain ⟨p', c', e, h⟩ := h
 injection e with e1 e2 e3
 subst e1 e2 e3
 refine ⟨_, _, by rw [List.length_drop], fun i x hx => ?_⟩
 rw [List.getElem?_drop] at hx
 obtain ⟨b', o', e, hc⟩ := h (m + i) x hx
 cases e
 exact ⟨b, o + m * 1, rfl, by rw [Nat.mul_one, Nat.add_assoc]; exact hc⟩
def Lists (w : World) (b : Nat) : Nat -> List (Value × List Int) -> Prop
 | _, [] => True
 | o, (v, xs) :: r => w.cell? ⟨b, o, none⟩ = some v /\ Ints w v xs /\ xs ≠ [] /\ Lists w b (o + 1) r
theorem Lists.get {w : World} {b : Nat} : ∀ {o : Nat} {ls : List (Value × List Int)}, Lists w b o ls -> ∀ {i : Nat} {v : Value} {xs : List Int}, ls[i]? = some (v, xs) -> w.cell? ⟨b, o + i, none⟩ = some v /\ Ints w v xs /\ xs ≠ []
 | o, (v, xs) :: r, h, 0, v', xs', e => by cases e; exact ⟨h.1, h.2.1, h.2.2.1⟩
 | o, (v, xs) :: r, h, i + 1, v', xs', e => by
  have := Lists.get h.2.2.2 (i := i) (by simpa using e)
  rw [show o + (i + 1) = o + 1 + i by omega]; exact this
def gC (w w' : World) (v : Value) (e : TypeId) (sz n : Nat) (xs : List Value) : Prop := Below w.heap.size w w' /\ w'.ownsRow 0 e sz v n xs /\ ∀ b, v.ownBlock = some b -> w.heap.size <= b
section
variable {P : Program} {Q Q' : Exit -> Act -> World -> Prop} {K : Act -> World -> Prop} {N : Nat} {L : Loc} {F : Nat -> Prop} {w0 w : World} {B : LN} {H : LV} {S : LS}
variable {d : Nat} {v : Value} {ty : TypeId} {pos : String} {aft : Array Edge}
theorem Sees.newRow (s : Sees F w0 B H S w) {w' : World} {v : Value} {e : TypeId} {sz n : Nat} {xs : List Value} (h : gC w w' v e sz n xs) (k : Nat) : Sees F w0 B H ((k, ⟨v, e, sz, n, xs⟩) :: S) w' :=
 s.slice (old := none) (.inl rfl) ⟨h.1.os, h.1.tape, h.1.output, h.1.size, fun i hi _ => h.1.block i hi⟩ h.2.1 (by
  cases hq : v.ownBlock with
  | none => exact .inl rfl
  | some b => exact .inr (.inr ⟨b, rfl, h.2.2 b hq⟩))
theorem Sees.toNew {q : Slc} {k : Nat} (s : Sees (fun _ => False) w0 B H S w) (hk : lkp k S = some q) : gC w0 w q.v q.e q.sz q.n q.xs :=
 ⟨s.aPg, s.slcs k q hk, fun b hb => by
  rcases Nat.lt_or_ge b w0.heap.size with h | h
  .exact (s.smay k q b hk hb h).elim
  .exact h⟩
theorem Sees.only {k : Nat} {q : Slc} (s : Sees F w0 B H S w) (hk : lkp k S = some q) : Sees F w0 [] [] [(k, q)] w :=
 s.to (fun k b h => by simp [lkp] at h) (fun k o v ho h => by simp [lkp] at h) (fun k' q' h => by
  rcases bD h with ⟨rfl, rfl⟩ | ⟨_, h⟩
  .exact hk
  .simp [lkp] at h)
theorem aCm {b0 : Nat} {p : Option Addr} {n c : Nat} {e : TypeId} {xs : List Int} (h : w.ownsRow b0 e 1 (.slice p n c) n (xs.map iV)) : Ints w (.slice p n c) xs /\ n <= c := by
 have hl : xs.length = n := by have := h.1; simpa using this
 subst hl
 refine ⟨⟨p, c, rfl, fun i x hx => ?_⟩, ?_⟩
 .rcases h.2 with ⟨e1, e2⟩ | ⟨g, cap, cur, e1, _⟩
  .have : xs = [] := by simpa using e2
   subst this; simp at hx
  .injection e1 with e1 e2 e3
   subst e1 e3
   have hc := h.cells (g := g) (by rfl) i (iV x) (by rw [List.getElem?_map, hx]; rfl)
   exact ⟨g, 0, rfl, by rwa [Addr.add_mid] at hc⟩
 .rcases h.2 with ⟨e1, e2⟩ | ⟨g, cap, cur, e1, _, _, h3, _⟩
  .injection e1 with e1 e3 e4; omega
  .injection e1 with e1 e2 e3; omega
theorem Sees.ints (s : Sees F w0 B H S w) (k : Nat) {p : Option Addr} {n c : Nat} {e : TypeId} {xs : List Int} (hk : lkp k S = some ⟨.slice p n c, e, 1, n, xs.map iV⟩) : Ints w (.slice p n c) xs := (aCm (s.slcs k _ hk)).1
theorem Sees.cap (s : Sees F w0 B H S w) (k : Nat) {p : Option Addr} {n c : Nat} {e : TypeId} {xs : List Int} (hk : lkp k S = some ⟨.slice p n c, e, 1, n, xs.map iV⟩) : n <= c := (aCm (s.slcs k _ hk)).2
theorem Sees.head (s : Sees F w0 B H S w) (k : Nat) {p : Option Addr} {n c : Nat} {e : TypeId} {sz : Nat} {xs : List Value} (hk : lkp k S = some ⟨.slice p n c, e, sz, n, xs⟩) (hn : 0 < n) : ∃ b, p = some ⟨b, 0, none⟩ /\ n <= c := by
 rcases (s.slcs k _ hk).2 with ⟨e1, e2⟩ | ⟨g, cap, cur, e1, _, _, h3, _⟩
 .simp only at e2; omega
 .injection e1 with e1 e2 e3; exact ⟨g, e1, by simp only at h3; omega⟩
theorem cQ {c : Code} {φ : Prop} (hφ : ∀ w, Sees F w0 B H S w -> φ) (h : φ -> GC P c Q N L F w0 B H S) : GC P c Q N L F w0 B H S := fun a w k s => h (hφ w s) a w k s
theorem kK {φ : Prop} (hφ : ∀ w, Sees F w0 B H S w -> φ) (h : φ -> GK K N L F w0 B H S) : GK K N L F w0 B H S := fun a w k s => h (hφ w s) a w k s
theorem rV {j o : Nat} {u u' : Value} (h : lkp (ky j o) H = some u) (h' : lkp (ky j (o + 1)) H = some u') : knwn j H o 2 = true := by simp [knwn, h, h']
theorem Sees.noS (s : Sees F w0 B H S w) : Sees F w0 B H [] w := s.to (fun _ _ h => h) (fun k o v ho h => ⟨h, by obtain ⟨b, e, _⟩ := s.cells k o v ho h; rw [e]; rfl⟩) (fun k q h => by simp [lkp] at h)
theorem jY {id : Nat} {l : List Oper} (late : Nat -> Bool) (hm : P.follows .mixedOrders = true) (h : GA P l.toArray Q (Sees F w0 B H []) late l.length (Array.replicate l.length false) N L F w0 B H S) : GC P (.region id l.toArray true) Q N L F w0 B H S := u4 _ late hm h
theorem aF5 {id : Nat} {l : List Oper} (late : Nat -> Bool) (hm : P.follows .mixedOrders = true) (h : GA P l.toArray Q (Sees F w0 B H S) late l.length (Array.replicate l.length false) N L F w0 B H S) : GC P (.region id l.toArray true) Q N L F w0 B H S := u4 _ late hm h
theorem bL (k : Nat) {f : FuncId} {aS : List Operand} {ats : Array TypeId} {args : List Value} {e : TypeId} {sz n : Nat} {xs : List Value} (hd : d < N) (hf : gM P f = true) (ha : Fr.evs L aS = some args)
  (hc : ∀ w, Sees F w0 B H S w -> Calls P f args.toArray w fun r w' => ∃ p c, r = .returned (.slice p n c) /\ gC w w' (.slice p n c) e sz n xs)
  (hn : ∀ p c, GK K N ((d, .slice p n c) :: L) F w0 B H ((k, ⟨.slice p n c, e, sz, n, xs⟩) :: S)) : GO P ⟨some d, .call ⟨.value (.func f), aS.toArray, ats⟩, ty, pos, aft, none⟩ Q K N L F w0 B H S :=
 d8 (ι := Option Addr × Nat) (fun x => .slice x.1 n x.2) (fun _ => True) (fun _ => B) (fun _ => H) (fun x => (k, ⟨.slice x.1 n x.2, e, sz, n, xs⟩) :: S) hd hf ha (fun w s => (hc w s).mono fun r w' ⟨p, c, he, hb⟩ => ⟨(p, c), trivial, he, s.newRow hb k⟩) (fun x _ => hn x.1 x.2)
theorem rU (j : Nat) {t e : TypeId} {sz by_ m : Nat} {zs : List Value} {x y : Operand} {q : Slc} {ys : List Value} {b off c : Nat} (hd : d < N) (ht : kP P t = some (e, sz, by_, zs)) (hzs : zs.length = sz) (hsz : 0 < sz) (hx : ev L x = some q.v) (hy : ev L y = some (.slice (some ⟨b, off, none⟩) m c)) (hq : lkp j S = some q)
  (hqe : q.e = e /\ q.sz = sz) (hl : ys.length = m * sz) (hr : ∀ w, Sees F w0 B H S w -> ∀ (i : Nat) u, ys[i]? = some u -> w.cell? ⟨b, off + i, none⟩ = some u) (h1 : ∀ u ∈ ys, u.oneCell' = true) (h63 : q.n + m <= 9223372036854775807) (hbytes : (q.n + m) * by_ <= 140737488355328)
  (hn : ∀ p cp, GK K N ((d, .slice p (q.n + m) cp) :: L) F w0 B H ((j, ⟨.slice p (q.n + m) cp, e, sz, q.n + m, q.xs ++ ys⟩) :: S)) :
  GO P ⟨some d, .call ⟨.builtin .append, #[x, y], #[t, t]⟩, ty, pos, aft, none⟩ Q K N L F w0 B H S := fun a w k s => by
 obtain ⟨hu, inf, z, hi, hz, h2, h3, h4⟩ := iM ht
 have ho := s.slcs j q hq
 rw [hqe.1, hqe.2] at ho
 have hnews : ∀ j' u, ys[j']? = some u -> w.cell? ((⟨b, off, none⟩ : Addr).add j') = some u := fun j' u hu => by rw [Addr.add_mid]; exact hr w s j' u hu
 obtain ⟨v', w', hrun, hown, hg, _, hat⟩ := run_append_own_at (P := P) w 0 t ty e inf z sz by_ hu hi hz h2 h3 (by rw [<- h4] at hzs; simpa using hzs) hsz q.v q.n q.xs ho ⟨b, off, none⟩ m c ys hl hnews h1 h63 hbytes (Nat.zero_le _)
 have s' : Sees F w0 B H ((j, ⟨v', e, sz, q.n + m, q.xs ++ ys⟩) :: S) w' := s.slice (old := q.v.ownBlock) (.inr ⟨q, hq, rfl⟩) hg hown (by
  rcases hat with h' | h'
  .cases hb : q.v.ownBlock with
   | none => exact .inl (h'.trans hb)
   | some g' => exact .inr (.inl ⟨by simp, h'.trans hb⟩)
  .exact .inr (.inr ⟨_, h', Nat.le_refl _⟩))
 obtain ⟨p, cp, rfl⟩ : ∃ p cp, v' = .slice p (q.n + m) cp := by
  rcases hown.2 with ⟨e1, e2⟩ | ⟨g1, cap1, cur1, e1, _⟩
  .exact ⟨none, 0, by rw [e1, e2]⟩
  .exact ⟨_, _, e1⟩
 show Oper.upon _ _ _ _ _ _
 simp only [execOp, resolve, invoke, builtin, Sem.run_bind, Sem.run_pure, Result.andThen_ok, List.map_toArray, List.map_cons, List.map_nil, k.eval hx, k.eval hy, hrun]
 exact hn p cp _ _ (k.put hd _) s'
theorem Sees.aPm (s : Sees F w0 B H S w) (k : Nat) (e : TypeId) (sz : Nat) : Sees F w0 B H ((k, ⟨sN, e, sz, 0, []⟩) :: S) w :=
 s.newRow ⟨Below.refl _ _, ⟨by simp, .inl ⟨rfl, rfl⟩⟩, fun b h => by simp [Value.ownBlock] at h⟩ k
theorem gZ {xs : List Int} : ∀ u ∈ xs.map iV, u.oneCell' = true := by
 intro u hu
 obtain ⟨x, _, rfl⟩ := List.mem_map.1 hu
 rfl
end
end Go.Fr
