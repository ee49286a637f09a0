/-
  Calls of function values; loads and results of structs of many cells.
-/
import Derived.Test.YtfcklceejjmjeaaGreatFh
set_option linter.unusedVariables false
set_option linter.unusedSimpArgs false
namespace Go.Fr
open Go.RowKit
section
variable {P : Program} {Q Q' : Exit → Act → World → Prop} {K : Act → World → Prop} {N : Nat} {L : Loc} {F : Nat → Prop} {w0 : World} {B : List (Nat × Nat)} {H : List (Nat × Value)} {S : List (Nat × Slc)}
variable {d : Nat} {v : Value} {ty : TypeId} {pos : String} {aft : Array Edge} {g : Option (Nat × Bool)}
theorem run_call_val {a : Act} {w : World} {f : FuncId} {x : Operand} {first capt : List Value} {as : List Operand} {ats : Array TypeId} {args : List Value} {dst : Option Nat} (k : Kn N L a) (hx : ev L x = some (.func (.func f) first.toArray capt.toArray)) (hf : enterB P f = true) (ha : Fr.evs L as = some args) :
    (execOp a.eval ⟨dst, .call ⟨.value x, as.toArray, ats⟩, ty, pos, aft, g⟩).run P w = .ok (.enter f (first ++ args ++ capt).toArray) w := by
  unfold enterB at hf
  split at hf
  · rename_i fn hfn
    simp only [Bool.and_eq_true, Bool.not_eq_true'] at hf
    obtain ⟨c, hb⟩ := Option.isSome_iff_exists.1 hf.1
    have hnm : ¬ fn.name = "runtime.NumGoroutine" := by simpa using hf.2
    simp [execOp, resolve, k.eval hx, Deferred.ofValue, invoke, callFunc, hfn, hnm, hb, k.evs ha]
  · cases hf
/-- A call of a function's value. -/
theorem at_callv {ι : Type} {f : FuncId} {x : Operand} {first capt : List Value} {as : List Operand} {ats : Array TypeId} {args : List Value} (V : ι → Value) (Pr : ι → Prop) (Bx : ι → List (Nat × Nat)) (Hx : ι → List (Nat × Value)) (Sx : ι → List (Nat × Slc)) (hd : d < N)
    (hx : ev L x = some (.func (.func f) first.toArray capt.toArray)) (hf : enterB P f = true) (ha : Fr.evs L as = some args)
    (hc : ∀ w, Sees F w0 B H S w → Calls P f (first ++ args ++ capt).toArray w fun e w' => ∃ x, Pr x ∧ e = .returned (V x) ∧ Sees F w0 (Bx x) (Hx x) (Sx x) w')
    (hn : ∀ x, Pr x → GK K N ((d, V x) :: L) F w0 (Bx x) (Hx x) (Sx x)) : GO P ⟨some d, .call ⟨.value x, as.toArray, ats⟩, ty, pos, aft, none⟩ Q K N L F w0 B H S := fun a w k s => by
  show Oper.upon _ _ _ _ _ _
  rw [run_call_val k hx hf ha]
  refine (hc w s).mono ?_
  rintro e w' ⟨x, hx, rfl, s'⟩
  exact hn x hx _ _ (k.put hd _) s'
theorem rd_makeFunc {f : FuncId} {as cs : List Operand} {first capt : List Value} (ha : Fr.evs L as = some first) (hc : Fr.evs L cs = some capt) : Rd P ⟨some d, .makeFunc (.func f) as.toArray cs.toArray, ty, pos, aft, g⟩ N L F w0 B H S (.func (.func f) first.toArray capt.toArray) := fun a w k s => by
  simp [execOp, Instr.makeFunc, k.evs ha, k.evs hc]
/-- A struct of many cells. -/
theorem rd_loadN (j : Nat) {t : TypeId} {x : Operand} {b off : Nat} {cs : List Value} (hx : ev L x = some (.pointer (some ⟨b, off, none⟩))) (hb : lkp j B = some b) (hc : ∀ i u, cs[i]? = some u → lkp (ky j (off + i)) H = some u) (ho : off + cs.length ≤ 4096) (ht : aggT P t = some cs.length) : Rd P ⟨some d, .load t x, ty, pos, aft, g⟩ N L F w0 B H S (.agg cs.toArray) :=
  rd_loadAgg_at (cs := cs) ht hx fun w s i u hu => by
    have hi : i < cs.length := by
      rcases Nat.lt_or_ge i cs.length with h' | h'
      · exact h'
      · simp [List.getElem?_eq_none h'] at hu
    exact s.cell hb (by omega) (hc i u hu)
/-- Cells from a place on. -/
def cellsAt (j : Nat) (H : List (Nat × Value)) : Nat → List Value → Prop
  | _, [] => True
  | o, v :: r => lkp (ky j o) H = some v ∧ cellsAt j H (o + 1) r
theorem cellsAt.get {j : Nat} {H : List (Nat × Value)} : ∀ {cs : List Value} {o : Nat}, cellsAt j H o cs → ∀ (i : Nat) (u : Value), cs[i]? = some u → lkp (ky j (o + i)) H = some u
  | [], _, _, i, u, h => by simp at h
  | v :: r, o, h, 0, u, e => by cases e; exact h.1
  | v :: r, o, h, i + 1, u, e => by
    have := cellsAt.get h.2 i u (by simpa using e)
    rwa [show o + 1 + i = o + (i + 1) by omega] at this
theorem knwn_of {j : Nat} {H : List (Nat × Value)} : ∀ (n o : Nat), (∀ k, o ≤ k → k < o + n → ∃ v, lkp (ky j k) H = some v) → knwn j H o n = true
  | 0, _, _ => rfl
  | n + 1, o, h => by
    obtain ⟨v, hv⟩ := h o (Nat.le_refl _) (by omega)
    simp only [knwn, hv, Option.isSome_some, Bool.true_and]
    exact knwn_of n (o + 1) fun k h1 h2 => h k (by omega) (by omega)
/-- All cells of a tag are let go. -/
def dropH (k : Nat) (H : List (Nat × Value)) : List (Nat × Value) := H.filter fun p => p.1 / 4096 != k
theorem lkp_filter_t {α : Type} {f : Nat × α → Bool} {q : Nat} (hf : ∀ v, f (q, v) = true) : ∀ (l : List (Nat × α)), lkp q (l.filter f) = lkp q l
  | [] => rfl
  | (j, v) :: l => by
    by_cases e : q = j
    · subst e
      rw [List.filter_cons_of_pos (hf v), lkp_cons_self, lkp_cons_self]
    · rw [lkp_cons_ne e]
      by_cases h : f (j, v) = true
      · rw [List.filter_cons_of_pos h, lkp_cons_ne e]; exact lkp_filter_t hf l
      · rw [List.filter_cons_of_neg h]; exact lkp_filter_t hf l
theorem lkp_filter_f {α : Type} {f : Nat × α → Bool} {q : Nat} (hf : ∀ v, f (q, v) = false) : ∀ (l : List (Nat × α)), lkp q (l.filter f) = none
  | [] => rfl
  | (j, v) :: l => by
    by_cases h : f (j, v) = true
    · rw [List.filter_cons_of_pos h]
      have e : q ≠ j := fun e => by subst e; rw [hf v] at h; cases h
      rw [lkp_cons_ne e]; exact lkp_filter_f hf l
    · rw [List.filter_cons_of_neg h]; exact lkp_filter_f hf l
theorem ky_div {k o : Nat} (h : o < 4096) : ky k o / 4096 = k := by unfold ky; omega
theorem lkp_dropH {k q : Nat} {H : List (Nat × Value)} (h : q / 4096 ≠ k) : lkp q (dropH k H) = lkp q H := lkp_filter_t (fun v => by simpa using h) H
theorem lkp_dropped {k o : Nat} (h : o < 4096) (H : List (Nat × Value)) : lkp (ky k o) (dropH k H) = none := lkp_filter_f (fun v => by simp [ky_div h]) H
theorem Sees.dropTag {w : World} {k b : Nat} (s : Sees F w0 ((k, b) :: B) H S w) (hk : lkp k B = none) : Sees F w0 B (dropH k H) S w :=
  s.to (fun j b' h => by rw [lkp_cons_ne (fun e => by rw [e, hk] at h; cases h)]; exact h) (fun j o v ho h => by
    have hjk : j ≠ k := fun e => by rw [e, lkp_dropped ho] at h; cases h
    rw [lkp_dropH (by rw [ky_div ho]; exact hjk)] at h
    obtain ⟨b', e, _⟩ := s.cells j o v ho h
    rw [lkp_cons_ne hjk] at e
    exact ⟨h, by rw [e]; rfl⟩) (fun j q h => h)
theorem dropH_cons {k o : Nat} {v : Value} {H : List (Nat × Value)} (h : o < 4096) : dropH k ((ky k o, v) :: H) = dropH k H := by
  unfold dropH; rw [List.filter_cons_of_neg (by simp [ky_div h])]
theorem dropH_seq {k : Nat} : ∀ (cs : List Value) (o : Nat) {H : List (Nat × Value)}, o + cs.length ≤ 4096 → dropH k (putSeq k o cs H) = dropH k H
  | [], _, _, _ => rfl
  | v :: r, o, H, h => by
    simp only [List.length_cons] at h
    show dropH k (putSeq k (o + 1) r ((ky k o, v) :: H)) = _
    rw [dropH_seq r (o + 1) (by omega), dropH_cons (by omega)]
theorem dropH_put {k : Nat} : ∀ (cs : List Value) (o : Nat) {H : List (Nat × Value)}, o + cs.length ≤ 4096 → dropH k (putKeys k o cs ++ H) = dropH k H
  | [], _, _, _ => rfl
  | v :: r, o, H, h => by
    simp only [List.length_cons] at h
    show dropH k ((ky k o, v) :: (putKeys k (o + 1) r ++ H)) = _
    rw [dropH_cons (by omega), dropH_put r (o + 1) (by omega)]
end
end Go.Fr
