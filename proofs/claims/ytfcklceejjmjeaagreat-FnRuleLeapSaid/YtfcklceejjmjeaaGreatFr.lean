/-
  Words for walks by knwn slots and knwn cells: what of an activation's slots and of the world is knwn, as lists with number keys; one law an operation.
-/
import Derived.WalkKit
import Derived.WalkSpells
import Derived.Deep.MidRow
import Derived.Deep.Quiet
import Derived.StillTail
import Derived.Laws.AppendOwn
import Derived.KernelRfl
set_option linter.unusedVariables false
namespace Go.Fr
open Go.RowKit

/-! ### 1. Lists with number keys -/
def lkp {α : Type} (k : Nat) : List (Nat × α) → Option α
  | [] => none
  | (j, v) :: r => match Nat.beq k j with
    | true => some v
    | false => lkp k r
theorem lkp_cons_self {α : Type} (k : Nat) (v : α) (r : List (Nat × α)) : lkp k ((k, v) :: r) = some v := by simp [lkp]
theorem lkp_cons_ne {α : Type} {k j : Nat} (h : k ≠ j) (v : α) (r : List (Nat × α)) : lkp k ((j, v) :: r) = lkp k r := by
  have : Nat.beq k j = false := by
    cases hb : Nat.beq k j with
    | true => exact absurd (Nat.eq_of_beq_eq_true hb) h
    | false => rfl
  simp [lkp, this]
theorem lkp_cons {α : Type} {k j : Nat} {v u : α} {r : List (Nat × α)} (h : lkp k ((j, v) :: r) = some u) : (k = j ∧ v = u) ∨ (k ≠ j ∧ lkp k r = some u) := by
  by_cases e : k = j
  · subst e; rw [lkp_cons_self] at h; exact .inl ⟨rfl, by simpa using h⟩
  · rw [lkp_cons_ne e] at h; exact .inr ⟨e, h⟩

/-! ### 2. Known slots -/
abbrev Loc := List (Nat × Value)
def ev (L : Loc) : Operand → Option Value
  | .tmp t => lkp t L
  | .const v => some v
  | .global g => some (.pointer (some ⟨g, 0, none⟩))
  | .func f => some (.func (.func f) #[] #[])
structure Kn (N : Nat) (L : Loc) (a : Act) : Prop where
  size : a.tmps.size = N
  get : ∀ t v, lkp t L = some v → a.tmps[t]? = some v
  defers : a.defers = []
theorem Kn.eval {N : Nat} {L : Loc} {a : Act} (h : Kn N L a) {x : Operand} {v : Value} (hx : ev L x = some v) : a.eval x = v := by
  cases x with
  | tmp t =>
    have := h.get t v hx
    show a.tmps.getD t undef = v
    rw [Array.getD_eq_getD_getElem?, this]; rfl
  | const u => exact Option.some.inj hx
  | global g => exact Option.some.inj hx
  | func f => exact Option.some.inj hx
theorem Kn.put {N : Nat} {L : Loc} {a : Act} (h : Kn N L a) {d : Nat} (hd : d < N) (v : Value) : Kn N ((d, v) :: L) (a.put (some d) v) where
  size := by simp [Act.put, h.size]
  get := fun t u hl => by
    rcases lkp_cons hl with ⟨rfl, rfl⟩ | ⟨hne, hl⟩
    · simp [Act.put, h.size, hd]
    · simp only [Act.put]
      rw [Array.getElem?_setIfInBounds_ne (fun e => hne e.symm)]
      exact h.get t u hl
  defers := h.defers
theorem Kn.put_none {N : Nat} {L : Loc} {a : Act} (h : Kn N L a) (v : Value) : Kn N L (a.put none v) := h
theorem Kn.nil {N : Nat} {L : Loc} {a : Act} (h : Kn N L a) : Kn N [] a := ⟨h.size, fun _ _ hl => by simp [lkp] at hl, h.defers⟩
theorem Kn.cons {N : Nat} {L L' : Loc} {a : Act} (h : Kn N L a) {t : Nat} {v : Value} (hv : lkp t L = some v) (r : Kn N L' a) : Kn N ((t, v) :: L') a where
  size := h.size
  get := fun k u hl => by
    rcases lkp_cons hl with ⟨rfl, rfl⟩ | ⟨_, hl⟩
    · exact h.get _ _ hv
    · exact r.get _ _ hl
  defers := h.defers
theorem Kn.start {args : Array Value} {N : Nat} (hN : args.size ≤ N) : Kn N (args.toList.zipIdx.map fun p => (p.2, p.1)) { tmps := args ++ Array.replicate (N - args.size) undef, defers := [] } where
  size := by simp; omega
  get := fun t v hl => by
    have key : ∀ (l : List Value) (k : Nat), lkp t ((l.zipIdx k).map fun p => (p.2, p.1)) = some v → k ≤ t ∧ l[t - k]? = some v := by
      intro l
      induction l with
      | nil => intro k h; simp [lkp] at h
      | cons x l ih =>
        intro k h
        simp only [List.zipIdx_cons, List.map_cons] at h
        rcases lkp_cons h with ⟨rfl, rfl⟩ | ⟨hne, h⟩
        · simp
        · obtain ⟨h1, h2⟩ := ih (k + 1) h
          refine ⟨by omega, ?_⟩
          rw [show t - k = (t - (k + 1)) + 1 by omega]
          simpa using h2
    obtain ⟨_, h2⟩ := key args.toList 0 hl
    have h3 : args[t]? = some v := by simpa using h2
    have hlt : t < args.size := by
      rcases Nat.lt_or_ge t args.size with h | h
      · exact h
      · simp [Array.getElem?_eq_none h] at h3
    show (args ++ _)[t]? = some v
    rw [Array.getElem?_append_left hlt]; exact h3
  defers := rfl

/-! ### 3. Known cells
  w0: the world at the call's begin. F: which of its blocks the call may turn. B: the tracked blocks by their tags. H: knwn cells of tracked blocks: the ky of tag k, offset o is k * 4096 + o. S: slices of the call's own, by tags. -/
structure Slc where
  v : Value
  e : TypeId
  sz : Nat
  n : Nat
  xs : List Value
def ky (k o : Nat) : Nat := k * 4096 + o
structure Sees (F : Nat → Prop) (w0 : World) (B : List (Nat × Nat)) (H : List (Nat × Value)) (S : List (Nat × Slc)) (w : World) : Prop where
  os : w.os = w0.os
  tape : w.tape = w0.tape
  output : w.output = w0.output
  size : w0.heap.size ≤ w.heap.size
  frame : ∀ k, k < w0.heap.size → ¬ F k → w.heap[k]? = w0.heap[k]?
  nodup : ∀ i j b, lkp i B = some b → lkp j B = some b → i = j
  lt : ∀ k b, lkp k B = some b → b < w.heap.size
  may : ∀ k b, lkp k B = some b → b < w0.heap.size → F b
  cells : ∀ k o v, o < 4096 → lkp (ky k o) H = some v → ∃ b, lkp k B = some b ∧ w.cell? ⟨b, o, none⟩ = some v ∧ w.frozen? ⟨b, o, none⟩ = false
  slcs : ∀ k s, lkp k S = some s → w.ownsRow 0 s.e s.sz s.v s.n s.xs
  smay : ∀ k s b, lkp k S = some s → s.v.ownBlock = some b → b < w0.heap.size → F b
  snot : ∀ k s b i, lkp k S = some s → s.v.ownBlock = some b → lkp i B ≠ some b
  sapart : ∀ i j s t b, lkp i S = some s → lkp j S = some t → i ≠ j → s.v.ownBlock = some b → t.v.ownBlock ≠ some b

theorem lkp_append {α : Type} {k : Nat} {l r : List (Nat × α)} {v : α} (h : lkp k (l ++ r) = some v) : lkp k l = some v ∨ lkp k r = some v := by
  induction l with
  | nil => exact .inr h
  | cons p l ih =>
    obtain ⟨j, u⟩ := p
    rcases lkp_cons h with ⟨rfl, rfl⟩ | ⟨hne, h⟩
    · exact .inl (lkp_cons_self _ _ _)
    · rw [lkp_cons_ne hne]; exact ih h

section
variable {F : Nat → Prop} {w0 : World} {B : List (Nat × Nat)} {H : List (Nat × Value)} {S : List (Nat × Slc)} {w : World}

theorem Sees.start (F : Nat → Prop) (w : World) : Sees F w [] [] [] w where
  os := rfl
  tape := rfl
  output := rfl
  size := Nat.le_refl _
  frame := fun _ _ _ => rfl
  nodup := fun _ _ _ hl => by simp [lkp] at hl
  lt := fun _ _ hl => by simp [lkp] at hl
  may := fun _ _ hl => by simp [lkp] at hl
  cells := fun _ _ _ _ hl => by simp [lkp] at hl
  slcs := fun _ _ hl => by simp [lkp] at hl
  smay := fun _ _ _ hl => by simp [lkp] at hl
  snot := fun _ _ _ _ hl => by simp [lkp] at hl
  sapart := fun _ _ _ _ _ hl => by simp [lkp] at hl

/-- Whatever leaves all blocks that are there. -/
theorem Sees.below (h : Sees F w0 B H S w) {w' : World} (hb : Below w.heap.size w w') : Sees F w0 B H S w' where
  os := hb.os.trans h.os
  tape := hb.tape.trans h.tape
  output := hb.output.trans h.output
  size := Nat.le_trans h.size hb.size
  frame := fun k hk hF => (hb.block k (Nat.lt_of_lt_of_le hk h.size)).trans (h.frame k hk hF)
  nodup := h.nodup
  lt := fun k b hb' => Nat.lt_of_lt_of_le (h.lt k b hb') hb.size
  may := h.may
  cells := fun k o v ho hl => by
    obtain ⟨b, e, hc, hf⟩ := h.cells k o v ho hl
    have hlt := h.lt k b e
    exact ⟨b, e, (hb.cell (p := ⟨b, o, none⟩) hlt).trans hc, (hb.frozen (p := ⟨b, o, none⟩) hlt).trans hf⟩
  slcs := fun k s hl => (h.slcs k s hl).kept (row := none) ⟨hb.os, hb.tape, hb.output, hb.size, fun i hi _ => hb.block i hi⟩ (by cases s.v.ownBlock <;> simp)
  smay := h.smay
  snot := h.snot
  sapart := h.sapart
theorem Sees.drew (h : Sees F w0 B H S w) : Sees F w0 B H S { w with drawn := w.drawn + 1 } := h.below (w' := w.drew) (Below.refl _ _).drew
theorem Sees.cell (h : Sees F w0 B H S w) {k b o : Nat} (hb : lkp k B = some b) (ho : o < 4096) {v : Value} (hl : lkp (ky k o) H = some v) : w.cell? ⟨b, o, none⟩ = some v := by
  obtain ⟨b', e, hc, _⟩ := h.cells k o v ho hl
  rw [hb] at e; cases e; exact hc
theorem Sees.free (h : Sees F w0 B H S w) {k b o : Nat} (hb : lkp k B = some b) (ho : o < 4096) {v : Value} (hl : lkp (ky k o) H = some v) : w.frozen? ⟨b, o, none⟩ = false := by
  obtain ⟨b', e, _, hf⟩ := h.cells k o v ho hl
  rw [hb] at e; cases e; exact hf
theorem Sees.old_cell (h : Sees F w0 B H S w) {p : Addr} {v : Value} (hc : w0.cell? p = some v) (hF : ¬ F p.block) : w.cell? p = some v :=
  (World.cell?_of_block (w := w0) (h.frame p.block (World.block_lt_of_cell? w0 p hc) hF)).trans hc
theorem own_lt_ {w : World} {base n sz : Nat} {e : TypeId} {v : Value} {xs : List Value} (h : w.ownsRow base e sz v n xs) {b : Nat} (hb : v.ownBlock = some b) : b < w.heap.size := (h.lt b hb).2
theorem own_head {w : World} {base n sz : Nat} {e : TypeId} {v : Value} {xs : List Value} (h : w.ownsRow base e sz v n xs) {b off len cap : Nat} (hv : v = .slice (some ⟨b, off, none⟩) len cap) : v.ownBlock = some b ∧ off = 0 ∧ len = n := by
  subst hv
  rcases h.2 with ⟨e, _⟩ | ⟨g, c, cur, e, _⟩
  · cases e
  · injection e with e1 e2 e3
    injection e1 with e1
    injection e1 with e4 e5 _
    subst e2 e4
    exact ⟨rfl, e5, rfl⟩
theorem Sees.row_cell (h : Sees F w0 B H S w) {k b o len cap : Nat} {s : Slc} (hl : lkp k S = some s) (hv : s.v = .slice (some ⟨b, 0, none⟩) len cap) {v : Value} (hx : s.xs[o]? = some v) : w.cell? ⟨b, o, none⟩ = some v := by
  have ho := h.slcs k s hl
  have := ho.cells (own_head ho hv).1 o v hx
  rwa [Addr.add_mid, Nat.zero_add] at this

theorem Sees.tag_ne (h : Sees F w0 B H S w) {k k' b b' : Nat} (hb : lkp k B = some b) (hb' : lkp k' B = some b') (hne : k ≠ k') : b ≠ b' := by
  intro e; subst e
  exact hne (h.nodup _ _ _ hb hb')
theorem ky_inj {k o k' o' : Nat} (h : o < 4096) (h' : o' < 4096) (e : ky k o = ky k' o') : k = k' ∧ o = o' := by
  unfold ky at e; omega

/-- A store into a knwn cell. -/
theorem Sees.set (h : Sees F w0 B H S w) {k b o : Nat} (hb : lkp k B = some b) (ho : o < 4096) {u : Value} (hl : lkp (ky k o) H = some u) (v : Value) :
    Sees F w0 B ((ky k o, v) :: H) S (w.setCell ⟨b, o, none⟩ v) where
  os := h.os
  tape := h.tape
  output := h.output
  size := by simpa [World.setCell] using h.size
  frame := fun j hj hF => (Below.heap_setCell w ⟨b, o, none⟩ v j (fun e => hF (by subst e; exact h.may _ _ hb hj))).trans (h.frame j hj hF)
  nodup := h.nodup
  lt := fun k' b' hb' => by simpa [World.setCell] using h.lt k' b' hb'
  may := h.may
  cells := fun k' o' v' ho' hl' => by
    rcases lkp_cons hl' with ⟨e, rfl⟩ | ⟨hne, hl'⟩
    · obtain ⟨rfl, rfl⟩ := ky_inj ho' ho e
      refine ⟨b, hb, ?_, ?_⟩
      · have hc := h.cell hb ho hl
        have hlt := h.lt k' b hb
        simp only [World.cell?, World.setCell, Array.getElem?_modify, if_true] at hc ⊢
        cases hq : w.heap[b]? with
        | none => rw [hq] at hc; simp at hc
        | some ob =>
          rw [hq] at hc
          cases ob <;> simp_all
          rename_i c e1 fr
          have : o' < c.size := by
            rcases Nat.lt_or_ge o' c.size with h' | h'
            · exact h'
            · simp [Array.getElem?_eq_none h'] at hc
          simp [this]
      · have hf := h.free hb ho hl
        simp only [World.frozen?, World.setCell, Array.getElem?_modify, if_true] at hf ⊢
        cases hq : w.heap[b]? with
        | none => simp
        | some ob =>
          rw [hq] at hf
          cases ob <;> simp_all
    · obtain ⟨b', e, hc, hf⟩ := h.cells k' o' v' ho' hl'
      refine ⟨b', e, ?_, ?_⟩
      · by_cases hbb : b' = b
        · subst hbb
          have hoo : o' ≠ o := by
            rintro rfl
            by_cases hkk : k' = k
            · subst hkk; exact hne rfl
            · exact h.tag_ne e hb hkk rfl
          simp only [World.cell?, World.setCell, Array.getElem?_modify, if_true] at hc ⊢
          cases hq : w.heap[b']? with
          | none => rw [hq] at hc; simp at hc
          | some ob =>
            rw [hq] at hc
            cases ob <;> simp_all
            rw [Array.getElem?_setIfInBounds_ne (fun e => hoo e.symm)]; exact hc
        · rw [World.cell?_of_block (w := w) (Below.heap_setCell w ⟨b, o, none⟩ v b' hbb)]; exact hc
      · by_cases hbb : b' = b
        · subst hbb
          simp only [World.frozen?, World.setCell, Array.getElem?_modify, if_true] at hf ⊢
          cases hq : w.heap[b']? with
          | none => simp
          | some ob =>
            rw [hq] at hf
            cases ob <;> simp_all
        · rw [World.frozen?_of_block (w := w) (Below.heap_setCell w ⟨b, o, none⟩ v b' hbb)]; exact hf
  slcs := fun k' s hl' => (h.slcs k' s hl').kept (row := some b) ⟨rfl, rfl, rfl, by simp [World.setCell], fun i _ hi => Below.heap_setCell w ⟨b, o, none⟩ v i (fun e => hi (by rw [e]))⟩ (by
    cases hq : s.v.ownBlock with
    | none => exact .inl rfl
    | some b' => exact .inr fun e => h.snot k' s b' k hl' hq (by injection e with e; rw [e]; exact hb))
  smay := h.smay
  snot := h.snot
  sapart := h.sapart

/-- A new block of cells, tracked by the next tag. -/
def putKeys (k : Nat) : Nat → List Value → List (Nat × Value)
  | _, [] => []
  | o, v :: r => (ky k o, v) :: putKeys k (o + 1) r
theorem lkp_putKeys {k : Nat} : ∀ (cs : List Value) (o : Nat) (q : Nat) (v : Value), lkp q (putKeys k o cs) = some v → ∃ j, q = ky k (o + j) ∧ cs[j]? = some v
  | [], _, _, _, h => by simp [putKeys, lkp] at h
  | x :: r, o, q, v, h => by
    rcases lkp_cons h with ⟨rfl, rfl⟩ | ⟨_, h⟩
    · exact ⟨0, rfl, rfl⟩
    · obtain ⟨j, hj, hc⟩ := lkp_putKeys r (o + 1) q v h
      exact ⟨j + 1, by rw [hj]; congr 1; omega, hc⟩
/-- All tags are below m. -/
structure Lim (m : Nat) (B : List (Nat × Nat)) (H : List (Nat × Value)) (S : List (Nat × Slc)) : Prop where
  b : ∀ k, m ≤ k → lkp k B = none
  h : ∀ k, m ≤ k → ∀ o, o < 4096 → lkp (ky k o) H = none
  s : ∀ k, m ≤ k → lkp k S = none
theorem Sees.alloc (h : Sees F w0 B H S w) (cs : List Value) (t : TypeId) (k : Nat) (hk : lkp k B = none) (hkH : ∀ o, o < 4096 → lkp (ky k o) H = none) (hs : cs.length ≤ 4096) :
    Sees F w0 ((k, w.heap.size) :: B) (putKeys k 0 cs ++ H) S (w.alloc (.cells cs.toArray t (0, 0))) where
  os := h.os
  tape := h.tape
  output := h.output
  size := by simpa using Nat.le_succ_of_le h.size
  frame := fun j hj hF => (Below.heap_alloc _ _ _ (Nat.lt_of_lt_of_le hj h.size)).trans (h.frame j hj hF)
  nodup := fun i j b hi hj => by
    rcases lkp_cons hi with ⟨rfl, rfl⟩ | ⟨hne, hi1⟩ <;> rcases lkp_cons hj with ⟨rfl, e⟩ | ⟨hne', hj1⟩
    · rfl
    · exact absurd (h.lt _ _ hj1) (Nat.lt_irrefl _)
    · subst e; exact absurd (h.lt _ _ hi1) (Nat.lt_irrefl _)
    · exact h.nodup i j b hi1 hj1
  lt := fun j b hj => by
    rcases lkp_cons hj with ⟨rfl, rfl⟩ | ⟨_, hj1⟩
    · simp
    · have := h.lt j b hj1; simp; omega
  may := fun j b hj hlt => by
    rcases lkp_cons hj with ⟨rfl, rfl⟩ | ⟨_, hj1⟩
    · exact absurd h.size (by omega)
    · exact h.may j b hj1 hlt
  cells := fun k' o v ho hl => by
    by_cases hkk : k' = k
    · subst hkk
      rcases lkp_append hl with hl | hl
      · obtain ⟨j, e, hc⟩ := lkp_putKeys cs 0 _ v hl
        have hj : j < cs.length := by
          rcases Nat.lt_or_ge j cs.length with h' | h'
          · exact h'
          · simp [List.getElem?_eq_none h'] at hc
        obtain ⟨_, rfl⟩ := ky_inj ho (by omega) e
        refine ⟨w.heap.size, lkp_cons_self _ _ _, ?_, ?_⟩
        · simp only [World.cell?, heap_alloc_new]
          simpa using hc
        · simp only [World.frozen?, heap_alloc_new]
          simp
      · rw [hkH o ho] at hl; cases hl
    · have hl1 : lkp (ky k' o) H = some v := by
        rcases lkp_append hl with hl | hl
        · obtain ⟨j, e, hc⟩ := lkp_putKeys cs 0 _ v hl
          have hj : j < cs.length := by
            rcases Nat.lt_or_ge j cs.length with h' | h'
            · exact h'
            · simp [List.getElem?_eq_none h'] at hc
          exact absurd (ky_inj ho (by omega) e).1 hkk
        · exact hl
      obtain ⟨b, e, hc, hf⟩ := h.cells k' o v ho hl1
      have hlt := h.lt k' b e
      have hb := Below.heap_alloc w (.cells cs.toArray t (0, 0)) b hlt
      exact ⟨b, by rw [lkp_cons_ne hkk]; exact e, (World.cell?_of_block (w := w) (a := ⟨b, o, none⟩) hb).trans hc, (World.frozen?_of_block (w := w) (a := ⟨b, o, none⟩) hb).trans hf⟩
  slcs := fun k' s hl => (h.slcs k' s hl).alloc _
  smay := h.smay
  snot := fun k' s b i hl hb hm => by
    rcases lkp_cons hm with ⟨rfl, rfl⟩ | ⟨_, hm1⟩
    · exact Nat.lt_irrefl _ (own_lt_ (h.slcs k' s hl) hb)
    · exact h.snot k' s b i hl hb hm1
  sapart := h.sapart

/-- A slice of the call's own, new or turned. -/
theorem Sees.slice (h : Sees F w0 B H S w) {w' : World} {k : Nat} {s' : Slc} {old : Option Nat} (hold : old = none ∨ ∃ s, lkp k S = some s ∧ s.v.ownBlock = old) (hg : w.grownBy w' old) (hown : w'.ownsRow 0 s'.e s'.sz s'.v s'.n s'.xs)
    (hat : s'.v.ownBlock = none ∨ (old ≠ none ∧ s'.v.ownBlock = old) ∨ ∃ g, s'.v.ownBlock = some g ∧ w.heap.size ≤ g) : Sees F w0 B H ((k, s') :: S) w' := by
  have hB : ∀ i b, lkp i B = some b → some b ≠ old := fun i b hb e => by
    rcases hold with e1 | ⟨s, hs, e1⟩
    · rw [e1] at e; cases e
    · exact h.snot k s b i hs (e1.trans e.symm) hb
  have hblk : ∀ i, i < w.heap.size → some i ≠ old → w'.heap[i]? = w.heap[i]? := hg.block
  have hother : ∀ j t b, lkp j S = some t → j ≠ k → t.v.ownBlock = some b → some b ≠ old := fun j t b hj hjk hb e => by
    rcases hold with e1 | ⟨s, hs, e1⟩
    · rw [e1] at e; cases e
    · exact h.sapart j k t s b hj hs hjk hb (e1.trans e.symm)
  have hnew : ∀ b, s'.v.ownBlock = some b → (∀ i, lkp i B ≠ some b) ∧ (∀ j t, lkp j S = some t → j ≠ k → t.v.ownBlock ≠ some b) ∧ (b < w0.heap.size → F b) := fun b hb => by
    rcases hat with e | ⟨hne, e⟩ | ⟨g, e, hge⟩
    · rw [e] at hb; cases hb
    · rcases hold with e1 | ⟨s, hs, e1⟩
      · exact absurd e1 hne
      · have hsb : s.v.ownBlock = some b := e1.trans (e.symm.trans hb)
        exact ⟨fun i => h.snot k s b i hs hsb, fun j t hj hjk hb' => h.sapart j k t s b hj hs hjk hb' hsb, h.smay k s b hs hsb⟩
    · rw [e] at hb; cases hb
      exact ⟨fun i hm => absurd (h.lt _ _ hm) (by omega), fun j t hj _ hb' => absurd (own_lt_ (h.slcs j t hj) hb') (by omega), fun hlt => absurd h.size (by omega)⟩
  constructor
  case os => exact hg.os.trans h.os
  case tape => exact hg.tape.trans h.tape
  case output => exact hg.output.trans h.output
  case size => exact Nat.le_trans h.size hg.size
  case frame =>
    intro j hj hF
    refine (hblk j (Nat.lt_of_lt_of_le hj h.size) fun e => hF ?_).trans (h.frame j hj hF)
    rcases hold with e1 | ⟨s, hs, e1⟩
    · rw [e1] at e; cases e
    · exact h.smay k s j hs (e1.trans e.symm) hj
  case nodup => exact h.nodup
  case lt => exact fun k b hb => Nat.lt_of_lt_of_le (h.lt k b hb) hg.size
  case may => exact h.may
  case cells =>
    intro k' o v ho hl
    obtain ⟨b, e, hc, hf⟩ := h.cells k' o v ho hl
    have hb := hblk b (h.lt k' b e) (hB k' b e)
    exact ⟨b, e, (World.cell?_of_block (w := w) (a := ⟨b, o, none⟩) hb).trans hc, (World.frozen?_of_block (w := w) (a := ⟨b, o, none⟩) hb).trans hf⟩
  case slcs =>
    intro j t hj
    rcases lkp_cons hj with ⟨rfl, rfl⟩ | ⟨hne, hj⟩
    · exact hown
    · exact (h.slcs j t hj).kept (row := old) hg (by
        cases hq : t.v.ownBlock with
        | none => exact .inl rfl
        | some b => exact .inr (hother j t b hj hne hq))
  case smay =>
    intro j t b hj hb
    rcases lkp_cons hj with ⟨rfl, rfl⟩ | ⟨hne, hj⟩
    · exact (hnew b hb).2.2
    · exact h.smay j t b hj hb
  case snot =>
    intro j t b i hj hb
    rcases lkp_cons hj with ⟨rfl, rfl⟩ | ⟨hne, hj⟩
    · exact (hnew b hb).1 i
    · exact h.snot j t b i hj hb
  case sapart =>
    intro i j s t b hi hj hij hb
    rcases lkp_cons hi with ⟨rfl, rfl⟩ | ⟨hne, hi1⟩ <;> rcases lkp_cons hj with ⟨rfl, rfl⟩ | ⟨hne', hj1⟩
    · exact absurd rfl hij
    · exact (hnew b hb).2.1 j t hj1 hne'
    · intro hb'; exact (hnew b hb').2.1 i s hi1 hne hb
    · exact h.sapart i j s t b hi1 hj1 hij hb

/-- Less is knwn: fewer tags, cells, slices. -/
theorem Sees.to (h : Sees F w0 B H S w) {B' : List (Nat × Nat)} {H' : List (Nat × Value)} {S' : List (Nat × Slc)} (hB : ∀ k b, lkp k B' = some b → lkp k B = some b)
    (hH : ∀ k o v, o < 4096 → lkp (ky k o) H' = some v → lkp (ky k o) H = some v ∧ (lkp k B').isSome = true)
    (hS : ∀ k s, lkp k S' = some s → lkp k S = some s) : Sees F w0 B' H' S' w where
  os := h.os
  tape := h.tape
  output := h.output
  size := h.size
  frame := h.frame
  nodup := fun i j b hi hj => h.nodup i j b (hB i b hi) (hB j b hj)
  lt := fun k b hb => h.lt k b (hB k b hb)
  may := fun k b hb => h.may k b (hB k b hb)
  cells := fun k o v ho hl => by
    obtain ⟨hl', hi⟩ := hH k o v ho hl
    obtain ⟨b, e, hc, hf⟩ := h.cells k o v ho hl'
    obtain ⟨b', e'⟩ := Option.isSome_iff_exists.1 hi
    have := hB k b' e'
    rw [e] at this; cases this
    exact ⟨b, e', hc, hf⟩
  slcs := fun k s hl => h.slcs k s (hS k s hl)
  smay := fun k s b hl => h.smay k s b (hS k s hl)
  snot := fun k s b i hl hb hm => h.snot k s b i (hS k s hl) hb (hB i b hm)
  sapart := fun i j s t b hi hj => h.sapart i j s t b (hS i s hi) (hS j t hj)
end

end Go.Fr
