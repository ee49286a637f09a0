/-
  Lists that stand, of numbers and of pairs: their heads and cells.
-/
import Derived.Test.YtfcklceejjmjeaaGreatFi
import Derived.Test.YtfcklceejjmjeaaGreatMd
set_option linter.unusedVariables false
set_option linter.unusedSimpArgs false
namespace Go.Fr
open Go.RowKit
/-- A list of pairs at a slice. -/
def Prs (w : World) (v : Value) (xs : List (Int × Int)) : Prop := ∃ p c, v = .slice p xs.length c ∧ ∀ (i : Nat) (x : Int × Int), xs[i]? = some x → ∃ b o, p = some ⟨b, o, none⟩ ∧ w.cell? ⟨b, o + 2 * i, none⟩ = some (.int .i64 x.1) ∧ w.cell? ⟨b, o + 2 * i + 1, none⟩ = some (.int .i64 x.2)
def pcells (xs : List (Int × Int)) : List Value := (xs.map fun x => [Value.int .i64 x.1, Value.int .i64 x.2]).flatten
theorem pcells_len (xs : List (Int × Int)) : (pcells xs).length = 2 * xs.length := by
  unfold pcells
  induction xs with
  | nil => rfl
  | cons t ts ih => simp only [List.map_cons, List.flatten_cons, List.length_append, ih]; simp; omega
theorem pcells_append (xs : List (Int × Int)) (x : Int × Int) : pcells xs ++ [.int .i64 x.1, .int .i64 x.2] = pcells (xs ++ [x]) := by
  unfold pcells; rw [List.map_append, List.flatten_append]; rfl
theorem pcells_get {xs : List (Int × Int)} {k : Nat} {x : Int × Int} (h : xs[k]? = some x) : (pcells xs)[2 * k]? = some (.int .i64 x.1) ∧ (pcells xs)[2 * k + 1]? = some (.int .i64 x.2) := by
  induction xs generalizing k with
  | nil => simp at h
  | cons u us ih =>
    cases k with
    | zero => cases h; exact ⟨rfl, rfl⟩
    | succ k =>
      obtain ⟨h1, h2⟩ := ih (k := k) (by simpa using h)
      refine ⟨?_, ?_⟩
      · show (pcells us)[2 * k]? = _; exact h1
      · show (pcells us)[2 * k + 1]? = _; exact h2
def SrcP (F : Nat → Prop) (w0 : World) (S : List (Nat × Slc)) (v : Value) (xs : List (Int × Int)) : Prop := ∀ B H S' w, (∀ k, 11 ≤ k → k < 40 → lkp k S' = lkp k S) → Sees F w0 B H S' w → Prs w v xs
section
variable {F : Nat → Prop} {w0 w : World} {B : List (Nat × Nat)} {H : List (Nat × Value)} {S S' : List (Nat × Slc)} {v : Value} {xs : List Int} {ps : List (Int × Int)} {p : Option Addr} {n c : Nat}
theorem SrcP.to (h : SrcP F w0 S v ps) (ha : ∀ k, 11 ≤ k → k < 40 → lkp k S' = lkp k S) : SrcP F w0 S' v ps := fun B H S2 w h2 s => h B H S2 w (fun k h3 h4 => (h2 k h3 h4).trans (ha k h3 h4)) s
theorem SrcP.nil {p : Option Addr} {c : Nat} : SrcP F w0 S (.slice p 0 c) [] := fun _ _ _ _ _ _ => ⟨p, c, rfl, fun i x h => by simp at h⟩
theorem SrcP.old (h : Prs w0 v ps) (hF : ∀ b o n c, v = .slice (some ⟨b, o, none⟩) n c → ¬ F b) : SrcP F w0 S v ps := fun B H S' w _ s => by
  obtain ⟨p, c, rfl, hc⟩ := h
  refine ⟨p, c, rfl, fun i x hx => ?_⟩
  obtain ⟨b, o, rfl, h1, h2⟩ := hc i x hx
  exact ⟨b, o, rfl, s.old_cell h1 (hF b o _ _ rfl), s.old_cell h2 (hF b o _ _ rfl)⟩
theorem SrcP.row {k : Nat} {e : TypeId} (hk : 11 ≤ k ∧ k < 40) (h : lkp k S = some ⟨.slice p n c, e, 2, n, pcells ps⟩) : SrcP F w0 S (.slice p n c) ps := fun B H S' w ha s => by
  have h1 : lkp k S' = some ⟨.slice p n c, e, 2, n, pcells ps⟩ := (ha k hk.1 hk.2).trans h
  have ho := s.slcs k _ h1
  have hl : ps.length = n := by have h2 : (pcells ps).length = n * 2 := ho.1; rw [pcells_len] at h2; omega
  subst hl
  refine ⟨p, c, rfl, fun i x hx => ?_⟩
  obtain ⟨g1, g2⟩ := pcells_get hx
  rcases ho.2 with ⟨e1, e2⟩ | ⟨g, cap, cur, e1, _⟩
  · have : ps = [] := List.eq_nil_of_length_eq_zero e2
    subst this; simp at hx
  · injection e1 with e1 e2 e3
    subst e1 e3
    have hc1 := ho.cells (g := g) (by rfl) _ _ g1
    have hc2 := ho.cells (g := g) (by rfl) _ _ g2
    exact ⟨g, 0, rfl, by rwa [Addr.add_mid] at hc1, by rw [Addr.add_mid] at hc2; exact hc2⟩
/-- The address of a list that is not empty. -/
theorem SrcI.head (h : SrcI F w0 S (.slice p n c) xs) (s : Sees F w0 B H S w) (hn : 0 < xs.length) : ∃ b o, p = some ⟨b, o, none⟩ := by
  obtain ⟨p', c', e, hc⟩ := h B H S w (fun _ _ _ => rfl) s
  injection e with e1 e2 e3
  subst e1
  obtain ⟨b, o, e, _⟩ := hc 0 _ (List.getElem?_eq_getElem hn)
  exact ⟨b, o, e⟩
theorem SrcI.cell {b o : Nat} (h : SrcI F w0 S (.slice (some ⟨b, o, none⟩) n c) xs) {i : Nat} {x : Int} (hx : xs[i]? = some x) (ha : ∀ k, 11 ≤ k → k < 30 → lkp k S' = lkp k S) (s : Sees F w0 B H S' w) : w.cell? ⟨b, o + i * 1, none⟩ = some (.int .i64 x) := by
  obtain ⟨p', c', e, hc⟩ := h B H S' w ha s
  injection e with e1 e2 e3
  subst e1
  obtain ⟨b', o', e, h1⟩ := hc i x hx
  cases e
  rw [Nat.mul_one]; exact h1
theorem SrcP.head (h : SrcP F w0 S (.slice p n c) ps) (s : Sees F w0 B H S w) (hn : 0 < ps.length) : ∃ b o, p = some ⟨b, o, none⟩ := by
  obtain ⟨p', c', e, hc⟩ := h B H S w (fun _ _ _ => rfl) s
  injection e with e1 e2 e3
  subst e1
  obtain ⟨b, o, e, _⟩ := hc 0 _ (List.getElem?_eq_getElem hn)
  exact ⟨b, o, e⟩
theorem SrcP.cell {b o : Nat} (h : SrcP F w0 S (.slice (some ⟨b, o, none⟩) n c) ps) {i : Nat} {x : Int × Int} (hx : ps[i]? = some x) (ha : ∀ k, 11 ≤ k → k < 40 → lkp k S' = lkp k S) (s : Sees F w0 B H S' w) : w.cell? ⟨b, o + i * 2, none⟩ = some (.int .i64 x.1) ∧ w.cell? ⟨b, o + i * 2 + 1, none⟩ = some (.int .i64 x.2) := by
  obtain ⟨p', c', e, hc⟩ := h B H S' w ha s
  injection e with e1 e2 e3
  subst e1
  obtain ⟨b', o', e, h1, h2⟩ := hc i x hx
  cases e
  rw [Nat.mul_comm i 2]; exact ⟨h1, h2⟩
end
/-! ### Lists that hang on some tags alone -/
abbrev TG (t k : Nat) : Prop := k = t ∨ k = 11 ∨ (26 ≤ k ∧ k < 30)
def SrcT (F : Nat → Prop) (w0 : World) (S : List (Nat × Slc)) (t : Nat) (v : Value) (xs : List Int) : Prop := ∀ B H S' w, (∀ k, TG t k → lkp k S' = lkp k S) → Sees F w0 B H S' w → Ints w v xs
def SrcU (F : Nat → Prop) (w0 : World) (S : List (Nat × Slc)) (t : Nat) (v : Value) (xs : List (Int × Int)) : Prop := ∀ B H S' w, (∀ k, TG t k → lkp k S' = lkp k S) → Sees F w0 B H S' w → Prs w v xs
section
variable {F : Nat → Prop} {w0 w : World} {B : List (Nat × Nat)} {H : List (Nat × Value)} {S S' : List (Nat × Slc)} {v : Value} {xs : List Int} {ps : List (Int × Int)} {p : Option Addr} {n c t j : Nat} {q : Slc}
theorem SrcT.cons (h : SrcT F w0 S t v xs) (hj : ¬ TG t j) : SrcT F w0 ((j, q) :: S) t v xs := fun B H S' w ha s => h B H S' w (fun k hk => (ha k hk).trans (lkp_cons_ne (fun e => by subst e; exact hj hk) _ _)) s
theorem SrcU.cons (h : SrcU F w0 S t v ps) (hj : ¬ TG t j) : SrcU F w0 ((j, q) :: S) t v ps := fun B H S' w ha s => h B H S' w (fun k hk => (ha k hk).trans (lkp_cons_ne (fun e => by subst e; exact hj hk) _ _)) s
theorem SrcT.toI (h : SrcT F w0 S t v xs) (ht : 11 ≤ t ∧ t < 30) : SrcI F w0 S v xs := fun B H S' w ha s => h B H S' w (fun k hk => ha k (by omega) (by omega)) s
theorem SrcI.toT (h : SrcI F w0 S v xs) (ht : ∀ k, 11 ≤ k → k < 30 → TG t k) : SrcT F w0 S t v xs := fun B H S' w ha s => h B H S' w (fun k h1 h2 => ha k (ht k h1 h2)) s
theorem SrcT.nil {c : Nat} : SrcT F w0 S t (.slice p 0 c) [] := fun _ _ _ _ _ _ => Ints.nil
theorem SrcT.row {e : TypeId} (h : lkp t S = some ⟨.slice p n c, e, 1, n, xs.map (.int .i64)⟩) : SrcT F w0 S t (.slice p n c) xs := fun B H S' w ha s => s.ints t ((ha t (.inl rfl)).trans h)
theorem SrcU.row {e : TypeId} (h : lkp t S = some ⟨.slice p n c, e, 2, n, pcells ps⟩) : SrcU F w0 S t (.slice p n c) ps := fun B H S' w ha s => by
  have h1 := (ha t (.inl rfl)).trans h
  have hr : SrcP F w0 S (.slice p n c) ps → True := fun _ => trivial
  have ho := s.slcs t _ h1
  have hl : ps.length = n := by have h2 : (pcells ps).length = n * 2 := ho.1; rw [pcells_len] at h2; omega
  subst hl
  refine ⟨p, c, rfl, fun i x hx => ?_⟩
  obtain ⟨g1, g2⟩ := pcells_get hx
  rcases ho.2 with ⟨e1, e2⟩ | ⟨g, cap, cur, e1, _⟩
  · have : ps = [] := List.eq_nil_of_length_eq_zero e2
    subst this; simp at hx
  · injection e1 with e1 e2 e3
    subst e1 e3
    have hc1 := ho.cells (g := g) (by rfl) _ _ g1
    have hc2 := ho.cells (g := g) (by rfl) _ _ g2
    exact ⟨g, 0, rfl, by rwa [Addr.add_mid] at hc1, by rw [Addr.add_mid] at hc2; exact hc2⟩
/-- The address of a list that is not empty. -/
theorem SrcT.head (h : SrcT F w0 S t (.slice p n c) xs) (s : Sees F w0 B H S w) (hn : 0 < xs.length) : ∃ b o, p = some ⟨b, o, none⟩ := by
  obtain ⟨p', c', e, hc⟩ := h B H S w (fun _ _ => rfl) s
  injection e with e1 e2 e3
  subst e1
  obtain ⟨b, o, e, _⟩ := hc 0 _ (List.getElem?_eq_getElem hn)
  exact ⟨b, o, e⟩
theorem SrcT.cell {b o : Nat} (h : SrcT F w0 S t (.slice (some ⟨b, o, none⟩) n c) xs) {i : Nat} {x : Int} (hx : xs[i]? = some x) (s : Sees F w0 B H S w) : w.cell? ⟨b, o + i * 1, none⟩ = some (.int .i64 x) := by
  obtain ⟨p', c', e, hc⟩ := h B H S w (fun _ _ => rfl) s
  injection e with e1 e2 e3
  subst e1
  obtain ⟨b', o', e, h1⟩ := hc i x hx
  cases e
  rw [Nat.mul_one]; exact h1
theorem SrcU.head (h : SrcU F w0 S t (.slice p n c) ps) (s : Sees F w0 B H S w) (hn : 0 < ps.length) : ∃ b o, p = some ⟨b, o, none⟩ := by
  obtain ⟨p', c', e, hc⟩ := h B H S w (fun _ _ => rfl) s
  injection e with e1 e2 e3
  subst e1
  obtain ⟨b, o, e, _⟩ := hc 0 _ (List.getElem?_eq_getElem hn)
  exact ⟨b, o, e⟩
theorem SrcU.cell {b o : Nat} (h : SrcU F w0 S t (.slice (some ⟨b, o, none⟩) n c) ps) {i : Nat} {x : Int × Int} (hx : ps[i]? = some x) (s : Sees F w0 B H S w) : w.rangeAt b (o + i * 2) [.int .i64 x.1, .int .i64 x.2] := by
  obtain ⟨p', c', e, hc⟩ := h B H S w (fun _ _ => rfl) s
  injection e with e1 e2 e3
  subst e1
  obtain ⟨b', o', e, h1, h2⟩ := hc i x hx
  cases e
  rw [Nat.mul_comm i 2]; exact range2 h1 h2
/-- A row of one element is a list of its own tag, whatever the list was. -/
theorem SrcT.old (h : Ints w0 v xs) (hF : ∀ b, ¬ F b) : SrcT F w0 S t v xs := fun B H S' w _ s => by
  obtain ⟨p, c, rfl, hc⟩ := h
  refine ⟨p, c, rfl, fun i x hx => ?_⟩
  obtain ⟨b, o, rfl, h1⟩ := hc i x hx
  exact ⟨b, o, rfl, s.old_cell h1 (hF b)⟩
/-- What hangs on the caller's tags alone hangs on one more, too. -/
theorem SrcT.more (h : SrcT F w0 S 11 v xs) : SrcT F w0 S t v xs := fun B H S' w ha s => h B H S' w (fun k hk => ha k (by rcases hk with h | h | h; exact .inr (.inl h); exact .inr (.inl h); exact .inr (.inr h))) s
theorem SrcU.more (h : SrcU F w0 S 11 v ps) : SrcU F w0 S t v ps := fun B H S' w ha s => h B H S' w (fun k hk => ha k (by rcases hk with h | h | h; exact .inr (.inl h); exact .inr (.inl h); exact .inr (.inr h))) s
end
theorem rd_makeInterface {P : Program} {N : Nat} {L : Loc} {F : Nat → Prop} {w0 : World} {B : List (Nat × Nat)} {H : List (Nat × Value)} {S : List (Nat × Slc)} {d : Nat} {v r : Value} {ty : TypeId} {pos : String} {aft : Array Edge} {g : Option (Nat × Bool)} {t : TypeId} {x : Operand} (hx : ev L x = some v) (h : ∀ w : World, (Instr.makeInterface t v).run P w = .ok r w) : Rd P ⟨some d, .makeInterface t x, ty, pos, aft, g⟩ N L F w0 B H S r := fun a w k s => by
  simp only [execOp, k.eval hx, Sem.run_bind, h w, Result.andThen_ok, Sem.run_pure]
section
variable {P : Program} {Q Q' : Exit → Act → World → Prop} {K : Act → World → Prop} {N : Nat} {L : Loc} {F : Nat → Prop} {w0 : World} {B : List (Nat × Nat)} {H : List (Nat × Value)} {S : List (Nat × Slc)}
variable {d : Nat} {v : Value} {ty : TypeId} {pos : String} {aft : Array Edge} {g : Option (Nat × Bool)}
theorem run_invoke {a : Act} {w : World} {f : FuncId} {x : Operand} {t : TypeId} {rv : Value} {name : String} {as : List Operand} {ats : Array TypeId} {args : List Value} {dst : Option Nat} (k : Kn N L a) (hx : ev L x = some (.iface t v)) (hm : ∀ w : World, (method (P.types.size + Made.depth) t v name).run P w = .ok (f, rv) w) (hf : enterB P f = true) (ha : Fr.evs L as = some args) :
    (execOp a.eval ⟨dst, .call ⟨.invoke x name, as.toArray, ats⟩, ty, pos, aft, g⟩).run P w = .ok (.enter f (rv :: args).toArray) w := by
  unfold enterB at hf
  split at hf
  · rename_i fn hfn
    simp only [Bool.and_eq_true, Bool.not_eq_true'] at hf
    obtain ⟨c, hb⟩ := Option.isSome_iff_exists.1 hf.1
    have hnm : ¬ fn.name = "runtime.NumGoroutine" := by simpa using hf.2
    have e : (as.map a.eval) = args := k.evs ha
    simp [execOp, resolve, k.eval hx, invoke, callMethod, callFunc, hfn, hnm, hb, e, hm]
  · cases hf
/-- A call of an interface's method. -/
theorem at_invoke {ι : Type} {f : FuncId} {x : Operand} {t : TypeId} {rv : Value} {name : String} {as : List Operand} {ats : Array TypeId} {args : List Value} (V : ι → Value) (Pr : ι → Prop) (Bx : ι → List (Nat × Nat)) (Hx : ι → List (Nat × Value)) (Sx : ι → List (Nat × Slc)) (hd : d < N)
    (hx : ev L x = some (.iface t v)) (hm : ∀ w : World, (method (P.types.size + Made.depth) t v name).run P w = .ok (f, rv) w) (hf : enterB P f = true) (ha : Fr.evs L as = some args)
    (hc : ∀ w, Sees F w0 B H S w → Calls P f (rv :: args).toArray w fun e w' => ∃ x, Pr x ∧ e = .returned (V x) ∧ Sees F w0 (Bx x) (Hx x) (Sx x) w')
    (hn : ∀ x, Pr x → GK K N ((d, V x) :: L) F w0 (Bx x) (Hx x) (Sx x)) : GO P ⟨some d, .call ⟨.invoke x name, as.toArray, ats⟩, ty, pos, aft, none⟩ Q K N L F w0 B H S := fun a w k s => by
  show Oper.upon _ _ _ _ _ _
  rw [run_invoke k hx hm hf ha]
  refine (hc w s).mono ?_
  rintro e w' ⟨x, hx, rfl, s'⟩
  exact hn x hx _ _ (k.put hd _) s'
theorem at_invoke_v {f : FuncId} {x : Operand} {t : TypeId} {u rv : Value} {name : String} {as : List Operand} {ats : Array TypeId} {args : List Value} (hd : d < N)
    (hx : ev L x = some (.iface t u)) (hm : ∀ w : World, (method (P.types.size + Made.depth) t u name).run P w = .ok (f, rv) w) (hf : enterB P f = true) (ha : Fr.evs L as = some args)
    (hc : ∀ w, Sees F w0 B H S w → Calls P f (rv :: args).toArray w fun e w' => e = .returned v ∧ Below w.heap.size w w')
    (hn : GK K N ((d, v) :: L) F w0 B H S) : GO P ⟨some d, .call ⟨.invoke x name, as.toArray, ats⟩, ty, pos, aft, none⟩ Q K N L F w0 B H S :=
  at_invoke (ι := Unit) (fun _ => v) (fun _ => True) (fun _ => B) (fun _ => H) (fun _ => S) hd hx hm hf ha (fun w s => (hc w s).mono fun e w' ⟨he, hb⟩ => ⟨(), trivial, he, s.below hb⟩) (fun _ _ => hn)
end
theorem cellsAt.nil {j : Nat} {H : List (Nat × Value)} {o : Nat} : cellsAt j H o [] := trivial
theorem cellsAt.cons {j : Nat} {H : List (Nat × Value)} {o : Nat} {v : Value} {r : List Value} (h : lkp (ky j o) H = some v) (hr : cellsAt j H (o + 1) r) : cellsAt j H o (v :: r) := ⟨h, hr⟩
section
variable {P : Program} {Q Q' : Exit → Act → World → Prop} {K : Act → World → Prop} {N : Nat} {L : Loc} {F : Nat → Prop} {w0 : World} {B : List (Nat × Nat)} {H : List (Nat × Value)} {S : List (Nat × Slc)}
variable {id : Nat} {l tl rest : List Oper} {ops : Array Oper} {o : Oper} {d : Nat} {v : Value} {ty : TypeId} {pos : String} {aft : Array Edge} {op : Op} {g : Option (Nat × Bool)}
/-- A row that is written out: one element, of cells cs. -/
theorem at_one_ (j : Nat) {t e : TypeId} {sz by_ : Nat} {zs : List Value} {y : Operand} {cs : List Value} (hd : d < N) (ht : elemInfo P t = some (e, sz, by_, zs)) (hzs : zs.length = sz) (hsz : 0 < sz) (hsm : sz ≤ 4096) (hy : ev L y = some v) (hv : v.cells.toList = cs) (hcs : cs.length = sz)
    (hn : ∀ b, GK K N ((d, .slice (some ⟨b, 0, none⟩) 1 1) :: L) F w0 B H ((j, ⟨.slice (some ⟨b, 0, none⟩) 1 1, e, sz, 1, cs⟩) :: S)) :
    GO P ⟨some d, .buildSlice t 1 #[(0, y)], ty, pos, aft, none⟩ Q K N L F w0 B H S := fun a w k s => by
  obtain ⟨hu, inf, z, hi, hz, h2, h3, h4⟩ := elemInfo_spec ht
  subst h2
  have hvs : v.cells.size = inf.size := by rw [← Array.length_toList, hv, hcs]
  have hfold : ∀ (l : List Value) (n : Nat) (A : Array Value), n + l.length = A.size → ((l.zipIdx n).foldl (fun cs (c, j) => cs.setIfInBounds j c) A).toList = A.toList.take n ++ l := by
    intro l
    induction l with
    | nil => intro n A h; simp at h; subst h; simp [← Array.length_toList]
    | cons c l ih =>
      intro n A h
      simp only [List.length_cons] at h
      rw [List.zipIdx_cons, List.foldl_cons, ih (n + 1) _ (by simp; omega)]
      have hn : n < A.size := by omega
      rw [Array.toList_setIfInBounds, List.take_set, List.take_succ_eq_append_getElem (by simpa using hn), List.set_append_right _ _ (by simp; omega)]
      simp [Nat.min_eq_left (Nat.le_of_lt hn)]
  have hr : (Instr.buildSlice t 1 #[(0, v)]).run P w = .ok (.slice (some ⟨w.heap.size, 0, none⟩) 1 1) (w.alloc (.cells cs.toArray e (0, 0))) := by
    have hne : ¬ inf.size = 0 := by omega
    have hle : ¬ 16777216 < inf.size := by omega
    have hA : (Array.map (fun x => z.cells[x % z.cells.size]!) (Array.range inf.size)).size = inf.size := by simp
    have key : ((v.cells.zipIdx).foldl (fun cs (c, j) => cs.setIfInBounds j c) (Array.map (fun x => z.cells[x % z.cells.size]!) (Array.range inf.size))) = cs.toArray := by
      apply Array.toList_inj.1
      have := hfold v.cells.toList 0 (Array.map (fun x => z.cells[x % z.cells.size]!) (Array.range inf.size)) (by rw [hA, Array.length_toList, hvs]; omega)
      simp only [List.take_zero, List.nil_append, hv] at this
      rw [← Array.foldl_toList, Array.toList_zipIdx, hv]
      simpa using this
    simp [Instr.buildSlice, run_underlying hu, run_sizeOf_info hi, hne, hle, zeroValue, typeInfo, hi, hz, Instr.fill, hvs, newRow]
    have e1 : v.cells.zipIdx.size = inf.size := by simp [hvs]
    have key2 : Array.foldl (fun (cs : Array Value) (x : Value × Nat) => cs.setIfInBounds x.snd x.fst) (Array.map (fun x => z.cells[x % z.cells.size]!) (Array.range inf.size)) v.cells.zipIdx 0 inf.size = cs.toArray := by
      rw [show Array.foldl (fun (cs : Array Value) (x : Value × Nat) => cs.setIfInBounds x.snd x.fst) (Array.map (fun x => z.cells[x % z.cells.size]!) (Array.range inf.size)) v.cells.zipIdx 0 inf.size = Array.foldl (fun (cs : Array Value) (x : Value × Nat) => cs.setIfInBounds x.snd x.fst) (Array.map (fun x => z.cells[x % z.cells.size]!) (Array.range inf.size)) v.cells.zipIdx 0 v.cells.zipIdx.size by rw [e1]]
      exact key
    exact congrArg (fun A => w.alloc (.cells A e)) key2
  have s' : Sees F w0 B H ((j, ⟨.slice (some ⟨w.heap.size, 0, none⟩) 1 1, e, inf.size, 1, cs⟩) :: S) (w.alloc (.cells cs.toArray e (0, 0))) :=
    s.slice (old := none) (.inl rfl) (World.grownBy_alloc w _ none) ⟨by simp [hcs], .inr ⟨w.heap.size, 1, cs.toArray, rfl, Nat.zero_le _, heap_alloc_new w _, Nat.le_refl _, by unfold maxLen; omega, by simp [hcs], by simp [← hcs]⟩⟩ (.inr (.inr ⟨w.heap.size, rfl, Nat.le_refl _⟩))
  show Oper.upon _ _ _ _ _ _
  simp only [execOp, List.map_toArray, List.map_cons, List.map_nil, k.eval hy, Sem.run_bind, hr, Result.andThen_ok, Sem.run_pure]
  exact hn _ _ _ (k.put hd _) s'
end
end Go.Fr
