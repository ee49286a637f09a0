/-
  A region in an open order with reads, new memory, calls and late stores: reads are taken first; behind each other operation, but for the late ones, the class C of worlds stands.
-/
import Derived.Test.YtfcklceejjmjeaaGreatFa
import Derived.OrdersHeld
set_option linter.unusedVariables false
namespace Go.Fr
open Go.RowKit
section
variable {P : Program} {ops : Array Oper} {Q : Exit → Act → World → Prop} {C : World → Prop} {late : Nat → Bool}

def wpAnyC (P : Program) (ops : Array Oper) (Q : Exit → Act → World → Prop) (C : World → Prop) (late : Nat → Bool) : Nat → Array Bool → Act → World → Prop
  | 0, listed, a, w => Region.ready .any ops listed = [] ∧ Q .normal a w
  | fuel + 1, listed, a, w =>
    (Region.ready .any ops listed = [] → Q .normal a w) ∧
    ∀ i ∈ Region.ready .any ops listed, wpOp P ops Q i (fun a' w' => (late i = false → C w') ∧ wpAnyC P ops Q C late fuel (listed.setIfInBounds i true) a' w') a w
theorem wpAny_of_C : ∀ (fuel : Nat) (listed : Array Bool) (a : Act) (w : World), wpAnyC P ops Q C late fuel listed a w → wpAny P .any ops Q fuel listed a w
  | 0, _, _, _, h => h
  | fuel + 1, _, _, _, h => ⟨h.1, fun i hi => wpOp_mono (fun a' w' h' => wpAny_of_C fuel _ a' w' h'.2) (h.2 i hi)⟩
/-- Late operations wait for number i themselves. -/
def waitB (ops : Array Oper) (late : Nat → Bool) (i : Nat) : Bool :=
  (List.range ops.size).all fun j => !late j || match ops[j]? with
    | some oj => oj.after.any fun e => Region.binds .any e && e.on == i
    | none => true
theorem waitB_spec {i j : Nat} {oj : Oper} (h : waitB ops late i = true) (hj : ops[j]? = some oj) (hno : ∀ e ∈ oj.after, Region.binds .any e = true → e.on ≠ i) : late j = false := by
  simp only [waitB, List.all_eq_true, List.mem_range] at h
  have h1 := h j (Array.getElem?_eq_some_iff.1 hj).1
  simp only [hj, Bool.or_eq_true, Bool.not_eq_true'] at h1
  rcases h1 with h1 | h1
  · exact h1
  · obtain ⟨e, he, hb⟩ : ∃ e ∈ oj.after, (Region.binds .any e && e.on == i) = true := by
      rw [← Array.any_toList, List.any_eq_true] at h1
      obtain ⟨e, he, hb⟩ := h1
      exact ⟨e, by simpa using he, hb⟩
    simp only [Bool.and_eq_true, beq_iff_eq] at hb
    exact absurd hb.2 (hno e he hb.1)
theorem wpAnyC_first {i : Nat} {oi : Oper} {v : Value} (hi : ops[i]? = some oi) (hsel : ∀ (j : Nat) (o : Oper) cs b, ops[j]? = some o → o.op ≠ .select cs b) (hl : late i = false) (hw : waitB ops late i = true)
    (hQ : ∀ c a w, Q (.panic c) (a.put oi.dst v) w → Q (.panic c) a w) :
    ∀ (fuel : Nat) (listed : Array Bool) (a : Act) (w : World),
      (∀ j oj, ops[j]? = some oj → j ≠ i → listed.getD j true = false → (∀ e ∈ oj.after, Region.binds .any e = true → e.on ≠ i) → oi.apart ops oj = true) →
      i ∈ Region.ready .any ops listed → YieldsIf P ops C oi v a → C w →
      wpAnyC P ops Q C late fuel (listed.setIfInBounds i true) (a.put oi.dst v) w → wpAnyC P ops Q C late (fuel + 1) listed a w := by
  intro fuel
  induction fuel with
  | zero =>
    intro listed a w _ hr hy hC H
    refine ⟨fun h => (by rw [h] at hr; cases hr), fun j hj => ?_⟩
    by_cases hji : j = i
    · subst hji; exact hy.wpOp hi hC ⟨fun _ => hC, H⟩
    · have := ready_mono hj hji
      rw [H.1] at this
      cases this
  | succ fuel ih =>
    intro listed a w hfree hr hy hC H
    refine ⟨fun h => (by rw [h] at hr; cases hr), fun j hj => ?_⟩
    by_cases hji : j = i
    · subst hji; exact hy.wpOp hi hC ⟨fun _ => hC, H⟩
    · have h1 := H.2 j (ready_mono hj hji)
      obtain ⟨hjun, oj, hoj, hall⟩ := mem_ready.1 hj
      have hnot : ∀ e ∈ oj.after, Region.binds .any e = true → e.on ≠ i := fun e he hb heq => by
        have h1 := hall e he hb
        have h0 := (mem_ready.1 hr).1
        rw [heq] at h1
        rcases Nat.lt_or_ge i listed.size with h' | h'
        · simp [h'] at h0 h1; rw [h0] at h1; cases h1
        · simp [Array.getElem?_eq_none h'] at h1
      have hlj := waitB_spec hw hoj hnot
      have h2 := wpOp_putIf hoj (hfree j oj hoj hji hjun hnot) (fun cs b => hsel i oi cs b hi) (fun cs b => hsel j oj cs b hoj) hQ hy h1
      have hfree' : ∀ k ok, ops[k]? = some ok → k ≠ i → (listed.setIfInBounds j true).getD k true = false →
          (∀ e ∈ ok.after, Region.binds .any e = true → e.on ≠ i) → oi.apart ops ok = true := fun k ok hk hki hun hno => by
        refine hfree k ok hk hki ?_ hno
        by_cases hjk : j = k
        · subst hjk; exact hjun
        · rw [getD_set_ne true hjk] at hun; exact hun
      refine wpOp_mono (fun a' w' h3 => ⟨h3.2.1, ih (listed.setIfInBounds j true) a' w' hfree' (ready_mono hr (Ne.symm hji)) h3.1 (h3.2.1 hlj) ?_⟩) h2
      rw [Array.setIfInBounds_comm _ _ hji]
      exact h3.2.2

/-! ### The walk -/
/-- The operations that are numbered in 'done' are behind. -/
def listedB (n : Nat) (done : List Nat) : Array Bool := ((List.range n).map fun i => done.contains i).toArray
variable {N : Nat} {L : Loc} {F : Nat → Prop} {w0 : World} {B : List (Nat × Nat)} {H : List (Nat × Value)} {S : List (Nat × Slc)}
/-- g: how many are left; listed: what is behind. -/
abbrev GA (P : Program) (ops : Array Oper) (Q : Exit → Act → World → Prop) (C : World → Prop) (late : Nat → Bool) (g : Nat) (listed : Array Bool) (N : Nat) (L : Loc) (F : Nat → Prop) (w0 : World) (B : List (Nat × Nat)) (H : List (Nat × Value)) (S : List (Nat × Slc)) : Prop :=
  GK (wpAnyC P ops Q C late g listed) N L F w0 B H S
theorem GC_any {id : Nat} {l : List Oper} (C : World → Prop) (late : Nat → Bool) (hm : P.follows .mixedOrders = true) (h : GA P l.toArray Q C late l.length (Array.replicate l.length false) N L F w0 B H S) : GC P (.region id l.toArray true) Q N L F w0 B H S := fun a w k s =>
  wp_region_any hm (wpAny_of_C _ _ _ _ (by simpa using h a _ k s.drew))
/-- A panic's ending does not look at the slots. -/
def Blind (Q : Exit → Act → World → Prop) : Prop := ∀ c a d v w, Q (.panic c) (Act.put a d v) w → Q (.panic c) a w
theorem Blind.then {K : Act → World → Prop} (h : Blind Q) : Blind (Exit.then K Q) := fun c a d v w q => h c a d v w q
theorem Blind.inBlock {id : Nat} (h : Blind Q) : Blind (Exit.inBlock id Q) := fun c a d v w q => h c a d v w q
theorem Blind.body {fn : Func} {R : Ending → World → Prop} : Blind (bodyPost P fn R) := fun c a d v w q => by cases d <;> exact q
/-- A read is taken first. -/
theorem GA_rd {g i d : Nat} {listed listed' : Array Bool} {op : Op} {ty : TypeId} {pos : String} {aft : Array Edge} {gd : Option (Nat × Bool)} {v : Value} {B0 : List (Nat × Nat)} {H0 : List (Nat × Value)} {S0 : List (Nat × Slc)}
    (hi : ops[i]? = some ⟨some d, op, ty, pos, aft, gd⟩) (hg : gd = none) (hQ : Blind Q) (hchk : (Region.noSelect ops && Region.free .any ops listed i && (Region.ready .any ops listed).contains i && !late i && waitB ops late i) = true) (hls : listed.setIfInBounds i true = listed') (hd : d < N)
    (hy : Rd P ⟨some d, op, ty, pos, aft, gd⟩ N L F w0 B0 H0 S0 v) (hS : ∀ w, Sees F w0 B H S w → Sees F w0 B0 H0 S0 w)
    (hn : GA P ops Q (Sees F w0 B0 H0 S0) late g listed' N ((d, v) :: L) F w0 B H S) : GA P ops Q (Sees F w0 B0 H0 S0) late (g + 1) listed N L F w0 B H S := fun a w k s => by
  subst hls hg
  simp only [Bool.and_eq_true, Bool.not_eq_true'] at hchk
  obtain ⟨⟨⟨⟨h1, h2⟩, h3⟩, h4⟩, h5⟩ := hchk
  exact wpAnyC_first hi (Region.noSelect_spec h1) h4 h5 (fun c a w q => hQ c a _ v w q) g listed a w (Region.free_spec hi h2) (by simpa using h3) (.inl ⟨by simp [Region.wanted], fun w' s' => hy a w' k s'⟩) (hS w s) (hn _ w (k.put hd v) s)
/-- One that must come now. -/
theorem GA_one {g i : Nat} {listed listed' : Array Bool} {o : Oper} (hi : ops[i]? = some o) (hg : o.guard = none) (hr : Region.ready .any ops listed = [i]) (hls : listed.setIfInBounds i true = listed')
    (h : GO P o Q (fun a' w' => (late i = false → C w') ∧ wpAnyC P ops Q C late g listed' a' w') N L F w0 B H S) : GA P ops Q C late (g + 1) listed N L F w0 B H S := fun a w k s => by
  subst hls
  refine ⟨fun h0 => (by rw [hr] at h0; cases h0), fun j hj => ?_⟩
  rw [hr] at hj
  have : j = i := by simpa using hj
  subst this
  unfold wpOp
  simp only [hi]
  rw [if_pos (by simp [Region.wanted, hg])]
  exact .inl (h a w k s)
/-- Any one of two. -/
theorem GA_two {g i j : Nat} {listed li lj : Array Bool} {o o' : Oper} (hi : ops[i]? = some o) (hj : ops[j]? = some o') (hg : o.guard = none) (hg' : o'.guard = none) (hr : Region.ready .any ops listed = [i, j]) (hli : listed.setIfInBounds i true = li) (hlj : listed.setIfInBounds j true = lj)
    (h : GO P o Q (fun a' w' => (late i = false → C w') ∧ wpAnyC P ops Q C late g li a' w') N L F w0 B H S)
    (h' : GO P o' Q (fun a' w' => (late j = false → C w') ∧ wpAnyC P ops Q C late g lj a' w') N L F w0 B H S) : GA P ops Q C late (g + 1) listed N L F w0 B H S := fun a w k s => by
  subst hli hlj
  refine ⟨fun h0 => (by rw [hr] at h0; cases h0), fun q hq => ?_⟩
  rw [hr] at hq
  have : q = i ∨ q = j := by simpa using hq
  unfold wpOp
  rcases this with rfl | rfl
  · simp only [hi]
    rw [if_pos (by simp [Region.wanted, hg])]
    exact .inl (h a w k s)
  · simp only [hj]
    rw [if_pos (by simp [Region.wanted, hg'])]
    exact .inl (h' a w k s)
theorem GA_end {g : Nat} {listed : Array Bool} (hr : Region.ready .any ops listed = []) (h : GE Q .normal N L F w0 B H S) : GA P ops Q C late g listed N L F w0 B H S := fun a w k s => by
  cases g with
  | zero => exact ⟨hr, h a w k s⟩
  | succ g => exact ⟨fun _ => h a w k s, by rw [hr]; simp⟩
/-- Behind an operation the class stands, or it is a late one. -/
theorem GK_C {lb : Bool} {K : Act → World → Prop} (hC : lb = false → ∀ w, Sees F w0 B H S w → C w) (h : GK K N L F w0 B H S) : GK (fun a' w' => (lb = false → C w') ∧ K a' w') N L F w0 B H S :=
  fun a w k s => ⟨fun hl => hC hl w s, h a w k s⟩
/-- A read among the operations, as one that may write. -/
theorem at_rd {K : Act → World → Prop} {d : Nat} {op : Op} {ty : TypeId} {pos : String} {aft : Array Edge} {gd : Option (Nat × Bool)} {v : Value} (hd : d < N) (h : Rd P ⟨some d, op, ty, pos, aft, gd⟩ N L F w0 B H S v) (hn : GK K N ((d, v) :: L) F w0 B H S) : GO P ⟨some d, op, ty, pos, aft, gd⟩ Q K N L F w0 B H S := fun a w k s => by
  show Oper.upon _ _ _ _ _ _
  rw [h a w k s]
  exact hn _ _ (k.put hd v) s
end
end Go.Fr
