/-
  Pieces of a quiet region, whose ways meet; parts of a function's code by their place.
-/
import Derived.Test.YtfcklceejjmjeaaGreatFb
set_option linter.unusedVariables false
set_option linter.unusedSimpArgs false
namespace Go.Fr
open Go.RowKit
section
variable {P : Program} {Q Q' : Exit → Act → World → Prop} {N : Nat} {L : Loc} {F : Nat → Prop} {w0 : World} {B : List (Nat × Nat)} {H : List (Nat × Value)} {S : List (Nat × Slc)} {C : World → Prop} {K : Act → Prop}
variable {id : Nat} {l tl rest : List Oper} {ops : Array Oper} {o : Oper} {d : Nat} {v : Value} {ty : TypeId} {pos : String} {aft : Array Edge} {op : Op} {g : Option (Nat × Bool)}
def GM (P : Program) (ops : Array Oper) (K : Act → Prop) (l : List Oper) (N : Nat) (L : Loc) (F : Nat → Prop) (w0 : World) (B : List (Nat × Nat)) (H : List (Nat × Value)) (S : List (Nat × Slc)) : Prop := ∀ a, Kn N L a → wpQuiet P ops (Sees F w0 B H S) K l a
theorem wpQuiet_cut : ∀ (n : Nat) (l : List Oper) (a : Act), wpQuiet P ops C (fun a => wpQuiet P ops C K (l.drop n) a) (l.take n) a → wpQuiet P ops C K l a
  | 0, l, a, h => h
  | n + 1, [], a, h => h
  | n + 1, o :: r, a, h => by
    unfold wpQuiet
    simp only [List.take_succ_cons, List.drop_succ_cons] at h
    unfold wpQuiet at h
    split
    · rename_i hw
      rw [if_pos hw] at h
      exact Oper.quiet_mono (fun a h => wpQuiet_cut n r a h) h
    · rename_i hw
      rw [if_neg hw] at h
      exact wpQuiet_cut n r _ h
theorem wpQuiet_mono {K K' : Act → Prop} (hK : ∀ a, K a → K' a) : ∀ (l : List Oper) (a : Act), wpQuiet P ops C K l a → wpQuiet P ops C K' l a
  | [], a, h => hK a h
  | o :: r, a, h => by
    unfold wpQuiet at h ⊢
    split
    · rename_i hw
      rw [if_pos hw] at h
      exact Oper.quiet_mono (fun a h => wpQuiet_mono hK r a h) h
    · rename_i hw
      rw [if_neg hw] at h
      exact wpQuiet_mono hK r _ h
theorem GQ_cut (n : Nat) (L' : Loc) (h1 : GM P ops (Kn N L') (l.take n) N L F w0 B H S) (h2 : GQ P ops Q (l.drop n) N L' F w0 B H S) : GQ P ops Q l N L F w0 B H S := fun a k =>
  wpQuiet_cut n l a (wpQuiet_mono (fun a' k' => h2 a' k') _ a (h1 a k))
theorem GM_rd (hd : d < N) (h : Rd P ⟨some d, op, ty, pos, aft, none⟩ N L F w0 B H S v) (hn : GM P ops K rest N ((d, v) :: L) F w0 B H S) : GM P ops K (⟨some d, op, ty, pos, aft, none⟩ :: rest) N L F w0 B H S := by
  refine fun a k => wpQuiet_step fun K hK => ?_
  rw [if_pos (by simp [Region.wanted])]
  refine ⟨v, fun w s => ?_, hK _ (hn _ (k.put hd v))⟩
  show Oper.quietUpon _ _ _ _ _
  rw [h a w k s]
  exact ⟨rfl, rfl⟩
theorem GM_nil (h : ∀ a, Kn N L a → K a) : GM P ops K [] N L F w0 B H S := h
theorem GM_take {j dj : Nat} {want : Bool} {dst : Option Nat} (hj : (ops[j]?).bind (·.dst) = some dj) (hv : lkp dj L = some (.bool want)) (h : GM P ops K (⟨dst, op, ty, pos, aft, none⟩ :: rest) N L F w0 B H S) : GM P ops K (⟨dst, op, ty, pos, aft, some (j, want)⟩ :: rest) N L F w0 B H S := fun a k => by
  have h1 := h a k
  have hw : Region.wanted ⟨dst, op, ty, pos, aft, some (j, want)⟩ (yielded ops a.tmps) = true := by
    simp [Region.wanted, yielded, hj, k.get dj _ hv]
  unfold wpQuiet at h1 ⊢
  rw [if_pos (by simp [Region.wanted])] at h1
  rw [if_pos hw]
  exact h1
theorem GM_pass {j dj : Nat} {want b : Bool} {dd : Nat} (hd : dd < N) (hj : (ops[j]?).bind (·.dst) = some dj) (hv : lkp dj L = some (.bool b)) (hne : b ≠ want) (h : GM P ops K rest N ((dd, undef) :: L) F w0 B H S) : GM P ops K (⟨some dd, op, ty, pos, aft, some (j, want)⟩ :: rest) N L F w0 B H S := fun a k => by
  have hw : ¬ Region.wanted ⟨some dd, op, ty, pos, aft, some (j, want)⟩ (yielded ops a.tmps) = true := by
    simp [Region.wanted, yielded, hj, k.get dj _ hv, hne]
  unfold wpQuiet
  rw [if_neg hw]
  exact h _ (k.put hd undef)
theorem GM_passu {j dj : Nat} {want : Bool} {dd : Nat} (hd : dd < N) (hj : (ops[j]?).bind (·.dst) = some dj) (hv : lkp dj L = some undef) (h : GM P ops K rest N ((dd, undef) :: L) F w0 B H S) : GM P ops K (⟨some dd, op, ty, pos, aft, some (j, want)⟩ :: rest) N L F w0 B H S := fun a k => by
  have hw : ¬ Region.wanted ⟨some dd, op, ty, pos, aft, some (j, want)⟩ (yielded ops a.tmps) = true := by
    simp [Region.wanted, yielded, hj, k.get dj _ hv, undef]
  unfold wpQuiet
  rw [if_neg hw]
  exact h _ (k.put hd undef)
theorem GM_call_v {f : FuncId} {as : List Operand} {ats : Array TypeId} {args : List Value} (hd : d < N) (hf : enterB P f = true) (ha : Fr.evs L as = some args)
    (hc : ∀ w, Sees F w0 B H S w → Calls P f args.toArray w fun e w' => e = .returned v ∧ Below w.heap.size w w')
    (hn : GM P ops K rest N ((d, v) :: L) F w0 B H S) : GM P ops K (⟨some d, .call ⟨.value (.func f), as.toArray, ats⟩, ty, pos, aft, none⟩ :: rest) N L F w0 B H S := fun a k => wpQuiet_step fun K hK => by
  rw [if_pos (by simp [Region.wanted])]
  refine ⟨v, fun w s => ?_, hK _ (hn _ (k.put hd v))⟩
  show Oper.quietUpon _ _ _ _ _
  rw [run_call k hf ha]
  exact ⟨rfl, (hc w s).mono fun e w' ⟨he, hb⟩ => ⟨he, s.below hb⟩⟩
theorem GC_quiet_at {id : Nat} {ops : Array Oper} (hm : P.follows .mixedOrders = true) (hB : Region.lexB .any ops = true) (h : GQ P ops Q (List.drop 0 ops.toList) N L F w0 B H S) : GC P (.region id ops true) Q N L F w0 B H S := by
  have := GC_quiet (id := id) (l := ops.toList) hm (by rw [Array.toArray_toList]; exact hB) (by rw [Array.toArray_toList]; exact h)
  rwa [Array.toArray_toList] at this
theorem GQ_cut_at (lo n m : Nat) (hm : lo + n = m) (L' : Loc) (h1 : GM P ops (Kn N L') (List.take n (List.drop lo ops.toList)) N L F w0 B H S) (h2 : GQ P ops Q (List.drop m ops.toList) N L' F w0 B H S) : GQ P ops Q (List.drop lo ops.toList) N L F w0 B H S :=
  GQ_cut n L' h1 (by rw [List.drop_drop, hm]; exact h2)
theorem GQ_end_at {m : Nat} (hm : ops.size ≤ m) (h : GE Q .normal N L F w0 B H S) : GQ P ops Q (List.drop m ops.toList) N L F w0 B H S := by
  rw [List.drop_eq_nil_of_le (by simpa using hm)]
  exact GQ_nil h
theorem GQ_have {φ : Prop} (h0 : φ) (h : φ → GQ P ops Q l N L F w0 B H S) : GQ P ops Q l N L F w0 B H S := h h0
end
/-! ### The lexical order of a long region, whose variables stand in a row -/
def linAt (d0 : Nat) (ops : Array Oper) (j : Nat) (o : Oper) : Bool :=
  (match o.dst with
   | some d => Nat.beq d (d0 + j)
   | none => false) && (match o.op with | .select .. => false | _ => true) && (o.after.toList.all fun e => Nat.blt e.on j) &&
  ((o.looksAt ops).all fun t => Nat.blt t d0 || (Nat.blt t (d0 + j) && o.after.toList.any fun e => Region.binds .any e && Nat.beq (e.on + d0) t))
def linFrom (d0 : Nat) (ops : Array Oper) : Nat → List Oper → Bool
  | _, [] => true
  | j, o :: r => match linAt d0 ops j o with
    | true => linFrom d0 ops (j + 1) r
    | false => false
theorem linFrom_get {d0 : Nat} {ops : Array Oper} : ∀ {l : List Oper} {j : Nat}, linFrom d0 ops j l = true → ∀ i o, l[i]? = some o → linAt d0 ops (j + i) o = true
  | [], _, _, i, o, h => by simp at h
  | x :: r, j, hl, i, o, h => by
    unfold linFrom at hl
    split at hl
    · rename_i hx
      cases i with
      | zero => cases h; simpa using hx
      | succ i =>
        have := linFrom_get hl i o (by simpa using h)
        rwa [show j + (i + 1) = j + 1 + i by omega]
    · cases hl
structure LinOp (d0 : Nat) (ops : Array Oper) (j : Nat) (o : Oper) : Prop where
  dst : o.dst = some (d0 + j)
  nosel : (match o.op with | .select .. => false | _ => true) = true
  on : ∀ e ∈ o.after, e.on < j
  looks : ∀ t ∈ o.looksAt ops, t < d0 ∨ (t < d0 + j ∧ ∃ e ∈ o.after, Region.binds .any e = true ∧ e.on + d0 = t)
theorem linAt_spec {d0 : Nat} {ops : Array Oper} {j : Nat} {o : Oper} (h : linAt d0 ops j o = true) : LinOp d0 ops j o := by
  simp only [linAt, Bool.and_eq_true, List.all_eq_true, Bool.or_eq_true, List.any_eq_true] at h
  obtain ⟨⟨⟨h1, h2⟩, h3⟩, h4⟩ := h
  refine ⟨?_, h2, fun e he => by simpa using h3 e (by simpa using he), fun t ht => ?_⟩
  · cases hd : o.dst with
    | none => simp [hd] at h1
    | some d => simp [hd] at h1; rw [h1]
  · rcases h4 t ht with h | ⟨h, e, he, hb, hq⟩
    · exact .inl (by simpa using h)
    · exact .inr ⟨by simpa using h, e, by simpa using he, hb, Nat.eq_of_beq_eq_true hq⟩
theorem lexFrom_lin {d0 : Nat} {ops : Array Oper} (hl : ∀ j o, ops[j]? = some o → LinOp d0 ops j o) : ∀ (fuel k : Nat) (listed : Array Bool), fuel + k = ops.size → listed.size = ops.size →
    (∀ j, j < ops.size → listed[j]? = some (decide (j < k))) → Region.lexFrom .any ops fuel k listed = true
  | 0, k, listed, hk, hs, hL => by
    simp only [Region.lexFrom, List.isEmpty_iff]
    rw [List.eq_nil_iff_forall_not_mem]
    intro i hi
    simp only [Region.ready, List.mem_filter, List.mem_range, Bool.and_eq_true, Bool.not_eq_true'] at hi
    have := hL i hi.1
    rw [Array.getD_eq_getD_getElem?, this] at hi
    simp at hi
    omega
  | fuel + 1, k, listed, hk, hs, hL => by
    have hkn : k < ops.size := by omega
    have hk0 : ops[k]? = some ops[k] := Array.getElem?_eq_getElem hkn
    have lk := hl k _ hk0
    have hget : ∀ j, j < ops.size → ∀ b, listed.getD j b = decide (j < k) := fun j hj b => by rw [Array.getD_eq_getD_getElem?, hL j hj]; rfl
    simp only [Region.lexFrom, Bool.and_eq_true]
    refine ⟨⟨?_, ?_⟩, ?_⟩
    · simp only [List.contains_iff_mem, Region.ready, List.mem_filter, List.mem_range, Bool.and_eq_true]
      refine ⟨hkn, by rw [hget k hkn]; simp, ?_⟩
      rw [hk0]
      simp only [Option.map_some, Option.getD_some, Array.all_eq_true']
      intro e he
      have h1 := lk.on e he
      rw [hget e.on (by omega)]
      simp [h1]
    · unfold Region.free
      rw [hk0]
      simp only [List.all_eq_true, List.mem_range, Bool.or_eq_true, beq_iff_eq]
      intro j hj
      rcases Nat.lt_trichotomy j k with h | h | h
      · exact .inl (.inr (by rw [hget j hj]; simpa using h))
      · exact .inl (.inl h)
      · refine .inr ?_
        have hj0 : ops[j]? = some ops[j] := Array.getElem?_eq_getElem hj
        have lj := hl j _ hj0
        rw [hj0]
        simp only [Bool.or_eq_true]
        by_cases hz : (ops[j].after.any fun e => Region.binds .any e && e.on == k) = true
        · exact .inl hz
        · refine .inr ?_
          have hno : ∀ e ∈ ops[j].after, Region.binds .any e = true → e.on ≠ k := fun e he hb heq => hz (by
            rw [Array.any_eq_true']; exact ⟨e, he, by simp [hb, heq]⟩)
          simp only [Oper.apart, lk.dst, lj.dst, Bool.and_eq_true, Bool.not_eq_true']
          refine ⟨⟨?_, ?_⟩, ?_⟩
          · rw [← Bool.not_eq_true, List.contains_iff_mem]
            intro hm
            rcases lj.looks _ hm with h' | ⟨_, e, he, hb, hq⟩
            · have h2 : (d0 + k : Nat) < d0 := h'
              omega
            · have h2 : (e.on + d0 : Nat) = d0 + k := hq
              exact hno e he hb (by omega)
          · simp; omega
          · rw [← Bool.not_eq_true, List.contains_iff_mem]
            intro hm
            rcases lk.looks _ hm with h' | ⟨h', _⟩
            · have h2 : (d0 + j : Nat) < d0 := h'
              omega
            · have h2 : (d0 + j : Nat) < d0 + k := h'
              omega
    · refine lexFrom_lin hl fuel (k + 1) _ (by omega) (by simpa using hs) fun j hj => ?_
      by_cases hjk : j = k
      · subst hjk; simp [hs, hkn]
      · rw [Array.getElem?_setIfInBounds_ne (fun e => hjk e.symm), hL j hj]
        congr 1
        simp only [decide_eq_decide]; omega
theorem lexB_lin (d0 : Nat) {ops : Array Oper} (h : linFrom d0 ops 0 ops.toList = true) : Region.lexB .any ops = true := by
  have hl : ∀ j o, ops[j]? = some o → LinOp d0 ops j o := fun j o ho => by
    have := linFrom_get h j o (by simpa using ho)
    rw [Nat.zero_add] at this
    exact linAt_spec this
  simp only [Region.lexB, Bool.and_eq_true]
  refine ⟨?_, lexFrom_lin hl _ 0 _ rfl (by simp) fun j hj => by simp [hj]⟩
  simp only [Region.noSelect, Array.all_eq_true']
  intro o ho
  obtain ⟨j, hj⟩ := Array.getElem?_of_mem ho
  exact (hl j o hj).nosel
/-- A part of a code: 0 and 1 are a pair's or a test's sides; the body of a block or a loop is 0. -/
def part : List Nat → Code → Code
  | [], c => c
  | i :: p, .seq x y => if i == 0 then part p x else part p y
  | i :: p, .cond _ x y => if i == 0 then part p x else part p y
  | _ :: p, .block _ c => part p c
  | _ :: p, .loop c => part p c
  | _ :: _, c => c
def opsAt : Code → Array Oper
  | .region _ o _ => o
  | _ => #[]
def bodyOf (f : Func) : Code := match f.body with
  | some c => c
  | none => .skip
end Go.Fr
