/-
  The steps of a walk by knwn slots and cells: what stands behind each form of code and each operation.
-/
import Derived.Test.YtfcklceejjmjeaaGreatFr
import Derived.Deep.LoopGhost
import Derived.Deep.Quiet
set_option linter.unusedVariables false
namespace Go.Fr
open Go.RowKit

/-! ### 4. What is asked at an exit, at code, at a list of operations -/
def GE (Q : Exit → Act → World → Prop) (e : Exit) (N : Nat) (L : Loc) (F : Nat → Prop) (w0 : World) (B : List (Nat × Nat)) (H : List (Nat × Value)) (S : List (Nat × Slc)) : Prop :=
  ∀ a w, Kn N L a → Sees F w0 B H S w → Q e a w
def GC (P : Program) (c : Code) (Q : Exit → Act → World → Prop) (N : Nat) (L : Loc) (F : Nat → Prop) (w0 : World) (B : List (Nat × Nat)) (H : List (Nat × Value)) (S : List (Nat × Slc)) : Prop :=
  ∀ a w, Kn N L a → Sees F w0 B H S w → c.wp P Q a w
def GK (K : Act → World → Prop) (N : Nat) (L : Loc) (F : Nat → Prop) (w0 : World) (B : List (Nat × Nat)) (H : List (Nat × Value)) (S : List (Nat × Slc)) : Prop :=
  ∀ a w, Kn N L a → Sees F w0 B H S w → K a w
abbrev GL (P : Program) (ops : Array Oper) (Q : Exit → Act → World → Prop) (l : List Oper) (N : Nat) (L : Loc) (F : Nat → Prop) (w0 : World) (B : List (Nat × Nat)) (H : List (Nat × Value)) (S : List (Nat × Slc)) : Prop :=
  GK (wpList P ops Q l) N L F w0 B H S
/-- One operation, whatever stands behind it. -/
def GO (P : Program) (o : Oper) (Q : Exit → Act → World → Prop) (K : Act → World → Prop) (N : Nat) (L : Loc) (F : Nat → Prop) (w0 : World) (B : List (Nat × Nat)) (H : List (Nat × Value)) (S : List (Nat × Slc)) : Prop :=
  ∀ a w, Kn N L a → Sees F w0 B H S w → o.wp P a w K Q
/-- A region in an open order, all whose operations are quiet. -/
def GQ (P : Program) (ops : Array Oper) (Q : Exit → Act → World → Prop) (l : List Oper) (N : Nat) (L : Loc) (F : Nat → Prop) (w0 : World) (B : List (Nat × Nat)) (H : List (Nat × Value)) (S : List (Nat × Slc)) : Prop :=
  ∀ a, Kn N L a → wpQuiet P ops (Sees F w0 B H S) (fun a' => ∀ w', Sees F w0 B H S w' → Q .normal a' w') l a
/-- A region in an open order: a head that only reads, then a tail in its order. -/
def GT (P : Program) (ops : Array Oper) (Q : Exit → Act → World → Prop) (tl : List Oper) (l : List Oper) (N : Nat) (L : Loc) (F : Nat → Prop) (w0 : World) (B : List (Nat × Nat)) (H : List (Nat × Value)) (S : List (Nat × Slc)) : Prop :=
  ∀ a w, Kn N L a → Sees F w0 B H S w → wpStill P ops w (fun a' => wpList P ops Q tl a' w) l a

section
variable {P : Program} {Q Q' : Exit → Act → World → Prop} {K : Act → World → Prop} {N : Nat} {L : Loc} {F : Nat → Prop} {w0 : World} {B : List (Nat × Nat)} {H : List (Nat × Value)} {S : List (Nat × Slc)}
variable {c x y : Code} {id : Nat} {l tl rest : List Oper} {ops : Array Oper}

theorem GE_then (h : GC P y Q' N L F w0 B H S) : GE (Exit.then (y.wp P Q') Q) .normal N L F w0 B H S := h
theorem GE_then_k (h : ∀ a w, Kn N L a → Sees F w0 B H S w → K a w) : GE (Exit.then K Q) .normal N L F w0 B H S := h
theorem GE_then_exit {i : Nat} (h : GE Q (.exit i) N L F w0 B H S) : GE (Exit.then K Q) (.exit i) N L F w0 B H S := h
theorem GE_then_ret (h : GE Q .ret N L F w0 B H S) : GE (Exit.then K Q) .ret N L F w0 B H S := h
theorem GE_in (h : GE Q .normal N L F w0 B H S) : GE (Exit.inBlock id Q) .normal N L F w0 B H S := h
theorem GE_in_ret (h : GE Q .ret N L F w0 B H S) : GE (Exit.inBlock id Q) .ret N L F w0 B H S := h
theorem GE_in_self (h : GE Q .normal N L F w0 B H S) : GE (Exit.inBlock id Q) (.exit id) N L F w0 B H S := fun a w k s => by simp only [Exit.inBlock, if_true]; exact h a w k s
theorem GE_in_other {i : Nat} (hne : i ≠ id) (h : GE Q (.exit i) N L F w0 B H S) : GE (Exit.inBlock id Q) (.exit i) N L F w0 B H S := fun a w k s => by simp only [Exit.inBlock, if_neg hne]; exact h a w k s

theorem GC_skip (h : GE Q .normal N L F w0 B H S) : GC P .skip Q N L F w0 B H S := fun a w k s => wp_skip (h a w k s)
theorem GC_ret (h : GE Q .ret N L F w0 B H S) : GC P .ret Q N L F w0 B H S := fun a w k s => wp_ret (h a w k s)
theorem GC_exit (h : GE Q (.exit id) N L F w0 B H S) : GC P (.exit id) Q N L F w0 B H S := fun a w k s => wp_exit (h a w k s)
theorem GC_seq (h : GC P x (Exit.then (y.wp P Q) Q) N L F w0 B H S) : GC P (.seq x y) Q N L F w0 B H S := fun a w k s => wp_seq (h a w k s)
theorem GC_block (h : GC P c (Exit.inBlock id Q) N L F w0 B H S) : GC P (.block id c) Q N L F w0 B H S := fun a w k s => wp_block (h a w k s)
theorem GC_true {o : Operand} (hc : ev L o = some (.bool true)) (h : GC P x Q N L F w0 B H S) : GC P (.cond o x y) Q N L F w0 B H S := fun a w k s => wp_cond_true (k.eval hc) (h a w k s)
theorem GC_false {o : Operand} (hc : ev L o = some (.bool false)) (h : GC P y Q N L F w0 B H S) : GC P (.cond o x y) Q N L F w0 B H S := fun a w k s => wp_cond_false (k.eval hc) (h a w k s)
theorem GC_is_true {o : Operand} {b : Bool} (hc : ev L o = some (.bool b)) (hb : b = true) (h : GC P x Q N L F w0 B H S) : GC P (.cond o x y) Q N L F w0 B H S := by subst hb; exact GC_true hc h
theorem GC_is_false {o : Operand} {b : Bool} (hc : ev L o = some (.bool b)) (hb : b = false) (h : GC P y Q N L F w0 B H S) : GC P (.cond o x y) Q N L F w0 B H S := by subst hb; exact GC_false hc h
theorem GC_cond {o : Operand} {b : Bool} (hc : ev L o = some (.bool b)) (ht : b = true → GC P x Q N L F w0 B H S) (hf : b = false → GC P y Q N L F w0 B H S) : GC P (.cond o x y) Q N L F w0 B H S := by
  cases b with
  | true => exact GC_true hc (ht rfl)
  | false => exact GC_false hc (hf rfl)
theorem GC_region (h : GL P l.toArray Q l N L F w0 B H S) : GC P (.region id l.toArray false) Q N L F w0 B H S := fun a w k s => wp_region_lit (h a w k s)
theorem GC_quiet (hm : P.follows .mixedOrders = true) (hB : Region.lexB .any l.toArray = true) (h : GQ P l.toArray Q l N L F w0 B H S) : GC P (.region id l.toArray true) Q N L F w0 B H S := fun a w k s =>
  wp_region_quiet (C := Sees F w0 B H S) hm hB s.drew (by simpa using h a k)
theorem GC_tail (n : Nat) (hm : P.follows .mixedOrders = true) (hB : Region.lexTailB .any l.toArray n = true) (h : GT P l.toArray Q (l.drop n) (l.take n) N L F w0 B H S) : GC P (.region id l.toArray true) Q N L F w0 B H S := fun a w k s =>
  wp_region_still_tail n hm hB (h a _ k s.drew)
theorem GC_mono (h : GC P c Q N L F w0 B H S) (hq : ∀ e a w, Q e a w → Q' e a w) : GC P c Q' N L F w0 B H S := fun a w k s => wp_mono (h a w k s) hq
theorem GC_to {L' : Loc} {B' : List (Nat × Nat)} {H' : List (Nat × Value)} {S' : List (Nat × Slc)} (hL : ∀ a, Kn N L a → Kn N L' a) (hS : ∀ w, Sees F w0 B H S w → Sees F w0 B' H' S' w) (h : GC P c Q N L' F w0 B' H' S') : GC P c Q N L F w0 B H S :=
  fun a w k s => h a w (hL a k) (hS w s)

theorem GL_at {o : Oper} (hg : o.guard = none) (h : GO P o Q (wpList P ops Q rest) N L F w0 B H S) : GL P ops Q (o :: rest) N L F w0 B H S := fun a w k s => wpList_plain hg fun K hK => Oper.wp_mono (fun a w h => hK a w h) (h a w k s)
theorem GL_nil (h : GE Q .normal N L F w0 B H S) : GL P ops Q [] N L F w0 B H S := h
theorem GQ_nil (h : GE Q .normal N L F w0 B H S) : GQ P ops Q [] N L F w0 B H S := fun a k w s => h a w k s
theorem GT_nil (h : GL P ops Q tl N L F w0 B H S) : GT P ops Q tl [] N L F w0 B H S := h

/-! ### 5. A loop: states by a letter x -/
/-- What a round must hand on. -/
def Back {ι : Type} (μ : ι → Nat) (I : ι → Prop) (Lf : ι → Loc) (Bf : ι → List (Nat × Nat)) (Hf : ι → List (Nat × Value)) (Sf : ι → List (Nat × Slc)) (N : Nat) (F : Nat → Prop) (w0 : World) (x : ι) (a : Act) (w : World) : Prop :=
  ∃ y, μ y < μ x ∧ I y ∧ Kn N (Lf y) a ∧ Sees F w0 (Bf y) (Hf y) (Sf y) w
/-- Where ways meet. -/
def Meet {ι : Type} (I : ι → Prop) (Lf : ι → Loc) (Bf : ι → List (Nat × Nat)) (Hf : ι → List (Nat × Value)) (Sf : ι → List (Nat × Slc)) (N : Nat) (F : Nat → Prop) (w0 : World) (a : Act) (w : World) : Prop :=
  ∃ i, I i ∧ Kn N (Lf i) a ∧ Sees F w0 (Bf i) (Hf i) (Sf i) w
theorem GC_loop {ι : Type} (μ : ι → Nat) (I : ι → Prop) (Lf : ι → Loc) (Bf : ι → List (Nat × Nat)) (Hf : ι → List (Nat × Value)) (Sf : ι → List (Nat × Slc)) (x0 : ι) (h0 : I x0)
    (hL : ∀ a, Kn N L a → Kn N (Lf x0) a) (hS : ∀ w, Sees F w0 B H S w → Sees F w0 (Bf x0) (Hf x0) (Sf x0) w)
    (round : ∀ x, I x → GC P c (Exit.then (Back μ I Lf Bf Hf Sf N F w0 x) Q) N (Lf x) F w0 (Bf x) (Hf x) (Sf x)) :
    GC P (.loop c) Q N L F w0 B H S := fun a w k s => by
  refine wp_loop_ghost (fun n a w => ∃ x, μ x = n ∧ I x ∧ Kn N (Lf x) a ∧ Sees F w0 (Bf x) (Hf x) (Sf x) w) (μ x0) ⟨x0, rfl, h0, hL a k, hS w s⟩ ?_
  rintro n a w ⟨x, rfl, hI, hk, hs⟩
  refine wp_mono (round x hI a w hk hs) ?_
  intro e a' w' hq
  cases e with
  | normal =>
    obtain ⟨y, h1, h2, h3, h4⟩ := hq
    exact ⟨μ y, h1, y, rfl, h2, h3, h4⟩
  | _ => exact hq

/-! ### 6. Operations that read -/
/-- It yields v, and the world stands. -/
def Rd (P : Program) (o : Oper) (N : Nat) (L : Loc) (F : Nat → Prop) (w0 : World) (B : List (Nat × Nat)) (H : List (Nat × Value)) (S : List (Nat × Slc)) (v : Value) : Prop :=
  ∀ a w, Kn N L a → Sees F w0 B H S w → (execOp a.eval o).run P w = .ok (.value v) w

variable {o : Oper} {d : Nat} {v : Value} {ty : TypeId} {pos : String} {aft : Array Edge} {op : Op}

theorem GL_rd {g : Option (Nat × Bool)} (hg : g = none) (hd : d < N) (h : Rd P ⟨some d, op, ty, pos, aft, g⟩ N L F w0 B H S v) (hn : GL P ops Q rest N ((d, v) :: L) F w0 B H S) : GL P ops Q (⟨some d, op, ty, pos, aft, g⟩ :: rest) N L F w0 B H S := by
  subst hg
  exact fun a w k s => wpList_plain rfl fun K hK => by
    show Oper.upon _ _ _ _ _ _
    rw [h a w k s]
    exact hK _ _ (hn _ _ (k.put hd v) s)
theorem GQ_rd {g : Option (Nat × Bool)} (hg : g = none) (hd : d < N) (h : Rd P ⟨some d, op, ty, pos, aft, g⟩ N L F w0 B H S v) (hn : GQ P ops Q rest N ((d, v) :: L) F w0 B H S) : GQ P ops Q (⟨some d, op, ty, pos, aft, g⟩ :: rest) N L F w0 B H S := by
  subst hg
  refine fun a k => wpQuiet_step fun K hK => ?_
  rw [if_pos (by simp [Region.wanted])]
  refine ⟨v, fun w s => ?_, hK _ (hn _ (k.put hd v))⟩
  show Oper.quietUpon _ _ _ _ _
  rw [h a w k s]
  exact ⟨rfl, rfl⟩
theorem GT_rd {g : Option (Nat × Bool)} (hg : g = none) (hd : d < N) (h : Rd P ⟨some d, op, ty, pos, aft, g⟩ N L F w0 B H S v) (hn : GT P ops Q tl rest N ((d, v) :: L) F w0 B H S) : GT P ops Q tl (⟨some d, op, ty, pos, aft, g⟩ :: rest) N L F w0 B H S := by
  subst hg
  refine fun a w k s => wpStill_step fun K hK => ?_
  rw [if_pos (by simp [Region.wanted])]
  show Oper.stillUpon _ _ _ _ _ _
  rw [h a w k s, Oper.stillUpon_value]
  exact hK _ (hn _ w (k.put hd v) s)

theorem rd_move {x : Operand} {g : Option (Nat × Bool)} (hx : ev L x = some v) : Rd P ⟨some d, .move x, ty, pos, aft, g⟩ N L F w0 B H S v := fun a w k s => by
  simp only [execOp, Sem.run_pure, k.eval hx]
theorem rd_assign {x : Operand} {g : Option (Nat × Bool)} (hx : ev L x = some v) : Rd P ⟨some d, .assign x, ty, pos, aft, g⟩ N L F w0 B H S v := fun a w k s => by
  simp only [execOp, Sem.run_pure, k.eval hx]
theorem rd_nilCheck {x : Operand} {p : Addr} {g : Option (Nat × Bool)} (hx : ev L x = some (.pointer (some p))) : Rd P ⟨some d, .nilCheck x, ty, pos, aft, g⟩ N L F w0 B H S (.pointer (some p)) := fun a w k s => by
  simp only [execOp, k.eval hx, Sem.run_bind, Sem.run_pure, Result.andThen_ok]
theorem rd_pick {cnd x y : Operand} {b : Bool} {vx vy : Value} {g : Option (Nat × Bool)} (hc : ev L cnd = some (.bool b)) (hx : ev L x = some vx) (hy : ev L y = some vy) : Rd P ⟨some d, .pick cnd x y, ty, pos, aft, g⟩ N L F w0 B H S (if b then vx else vy) := fun a w k s => by
  simp only [execOp, k.eval hc, k.eval hx, k.eval hy]
  cases b <;> rfl

/-- Numbers: '+', '-', '*'. -/
theorem rd_add {xt yt : TypeId} {x y : Operand} {q : IntKind} {m n : Int} {g : Option (Nat × Bool)} (hx : ev L x = some (.int q m)) (hy : ev L y = some (.int q n)) : Rd P ⟨some d, .binOp .add xt x y yt, ty, pos, aft, g⟩ N L F w0 B H S (.int q (q.wrap (m + n))) := fun a w k s => by
  simp [execOp, eqGuard, binOp, Op.intArith, k.eval hx, k.eval hy]
theorem rd_sub {xt yt : TypeId} {x y : Operand} {q : IntKind} {m n : Int} {g : Option (Nat × Bool)} (hx : ev L x = some (.int q m)) (hy : ev L y = some (.int q n)) : Rd P ⟨some d, .binOp .sub xt x y yt, ty, pos, aft, g⟩ N L F w0 B H S (.int q (q.wrap (m - n))) := fun a w k s => by
  simp [execOp, eqGuard, binOp, Op.intArith, k.eval hx, k.eval hy]
theorem rd_mul {xt yt : TypeId} {x y : Operand} {q : IntKind} {m n : Int} {g : Option (Nat × Bool)} (hx : ev L x = some (.int q m)) (hy : ev L y = some (.int q n)) : Rd P ⟨some d, .binOp .mul xt x y yt, ty, pos, aft, g⟩ N L F w0 B H S (.int q (q.wrap (m * n))) := fun a w k s => by
  simp [execOp, eqGuard, binOp, Op.intArith, k.eval hx, k.eval hy]
end
end Go.Fr
