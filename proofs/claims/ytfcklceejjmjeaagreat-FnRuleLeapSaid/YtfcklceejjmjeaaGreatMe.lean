/-
  Laws of the model's output: once it is at its end, nothing changes; what it leaves as it is.
-/
import Derived.Test.YtfcklceejjmjeaaGreatMd
set_option linter.unusedVariables false
namespace Go.Md
open Go.Tab
theorem emit_fin {r : Ru} {o : It} (h : o.fin = true) (t : Int) : emit r o t = o := by unfold emit; rw [if_pos h]
theorem emit_until {r : Ru} {o : It} {t : Int} (h : o.fin = false) (hu : r.u0 < t) : emit r o t = { o with fin := true } := by unfold emit; rw [h, if_neg (by decide), if_pos hu]
theorem emit_early {r : Ru} {o : It} {t : Int} (h : o.fin = false) (hu : ¬ r.u0 < t) (hs : t < r.d0) : emit r o t = o := by unfold emit; rw [h, if_neg (by decide), if_neg hu, if_pos hs]
theorem emit_free {r : Ru} {o : It} {t : Int} (h : o.fin = false) (hu : ¬ r.u0 < t) (hs : ¬ t < r.d0) (hc : o.count = 0) : emit r o t = { o with total := o.total + 1, rem := o.rem ++ [t] } := by unfold emit; rw [h, if_neg (by decide), if_neg hu, if_neg hs, if_pos hc]
theorem emit_count {r : Ru} {o : It} {t : Int} (h : o.fin = false) (hu : ¬ r.u0 < t) (hs : ¬ t < r.d0) (hc : o.count ≠ 0) : emit r o t = { o with total := o.total + 1, rem := o.rem ++ [t], count := o.count - 1, fin := o.count - 1 == 0 } := by unfold emit; rw [h, if_neg (by decide), if_neg hu, if_neg hs, if_neg hc]
theorem emits_fin {r : Ru} {o : It} (h : o.fin = true) : ∀ l, emits r o l = o
  | [] => rfl
  | t :: l => by
    show emits r (emit r o t) l = o
    rw [emit_fin h]; exact emits_fin h l
theorem emits_append (r : Ru) (o : It) (l l' : List Int) : emits r o (l ++ l') = emits r (emits r o l) l' := by unfold emits; rw [List.foldl_append]
theorem emits_take_succ {r : Ru} {o : It} {l : List Int} {j : Nat} {t : Int} (h : l[j]? = some t) : emits r o (l.take (j + 1)) = emit r (emits r o (l.take j)) t := by
  rw [List.take_add_one, h, emits_append]; rfl
theorem emits_take_fin {r : Ru} {o : It} {l : List Int} {j : Nat} (h : (emits r o (l.take j)).fin = true) : emits r o l = emits r o (l.take j) := by
  conv => lhs; rw [← List.take_append_drop j l]
  rw [emits_append, emits_fin h]
theorem outDay_fin {r : Ru} {o : It} (h : o.fin = true) (i : Int) : outDay r o i = o := by
  unfold outDay
  split
  · rfl
  · exact emits_fin h _
def outTo (r : Ru) (it : It) (a : Int) (k : Nat) : It := (List.range k).foldl (fun o (k : Nat) => outDay r o (a + k)) it
theorem outTo_succ (r : Ru) (it : It) (a : Int) (k : Nat) : outTo r it a (k + 1) = outDay r (outTo r it a k) (a + k) := by
  unfold outTo; rw [List.range_succ, List.foldl_append]; rfl
theorem outTo_fin {r : Ru} {it : It} {a : Int} {k : Nat} (h : (outTo r it a k).fin = true) : ∀ n, k ≤ n → outTo r it a n = outTo r it a k := by
  intro n hn
  induction n with
  | zero => obtain rfl : k = 0 := by omega
            rfl
  | succ n ih =>
    rcases Nat.lt_or_ge k (n + 1) with h' | h'
    · rw [outTo_succ, ih (by omega), outDay_fin h]
    · obtain rfl : k = n + 1 := by omega
      rfl
theorem out_outTo (r : Ru) (it : It) (h : r.setpos.length = 0 ∨ it.ts.length = 0) : out r it = outDays r it := by
  unfold out; rw [if_neg (by omega)]
theorem outDays_outTo (r : Ru) (it : It) : outDays r it = outTo r it (span r it).1 ((span r it).2 - (span r it).1).toNat := rfl
/-- What an output leaves. -/
structure Same (it o : It) : Prop where
  y : o.y = it.y
  mo : o.mo = it.mo
  d : o.d = it.d
  h : o.h = it.h
  mi : o.mi = it.mi
  s : o.s = it.s
  wd : o.wd = it.wd
  ly : o.ly = it.ly
  lm : o.lm = it.lm
  ts : o.ts = it.ts
  wno : o.wno = it.wno
  nwm : o.nwm = it.nwm
  eas : o.eas = it.eas
theorem Same.refl (it : It) : Same it it := ⟨rfl, rfl, rfl, rfl, rfl, rfl, rfl, rfl, rfl, rfl, rfl, rfl, rfl⟩
theorem Same.trans {a b c : It} (h : Same a b) (k : Same b c) : Same a c := ⟨k.y.trans h.y, k.mo.trans h.mo, k.d.trans h.d, k.h.trans h.h, k.mi.trans h.mi, k.s.trans h.s, k.wd.trans h.wd, k.ly.trans h.ly, k.lm.trans h.lm, k.ts.trans h.ts, k.wno.trans h.wno, k.nwm.trans h.nwm, k.eas.trans h.eas⟩
theorem emit_same (r : Ru) (o : It) (t : Int) : Same o (emit r o t) := by
  unfold emit
  split
  · exact Same.refl _
  · split
    · exact ⟨rfl, rfl, rfl, rfl, rfl, rfl, rfl, rfl, rfl, rfl, rfl, rfl, rfl⟩
    · split
      · exact Same.refl _
      · split <;> exact ⟨rfl, rfl, rfl, rfl, rfl, rfl, rfl, rfl, rfl, rfl, rfl, rfl, rfl⟩
theorem emits_same (r : Ru) : ∀ (l : List Int) (o : It), Same o (emits r o l)
  | [], o => Same.refl _
  | t :: l, o => (emit_same r o t).trans (emits_same r l _)
theorem outDay_same (r : Ru) (o : It) (i : Int) : Same o (outDay r o i) := by
  unfold outDay
  split
  · exact Same.refl _
  · exact emits_same r _ _
theorem outTo_same (r : Ru) (it : It) (a : Int) : ∀ k, Same it (outTo r it a k)
  | 0 => Same.refl _
  | k + 1 => by rw [outTo_succ]; exact (outTo_same r it a k).trans (outDay_same r _ _)
theorem Same.bad {r : Ru} {it o : It} (h : Same it o) (i : Int) : bad r o i = bad r it i := by unfold Md.bad; rw [h.ly, h.wno, h.nwm, h.eas]
end Go.Md
