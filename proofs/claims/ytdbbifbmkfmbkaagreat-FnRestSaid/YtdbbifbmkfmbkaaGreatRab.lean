import Derived.Test.YtdbbifbmkfmbkaaGreatRaa
set_option linter.unusedVariables false
set_option linter.unusedSimpArgs false
set_option maxRecDepth 100000
set_option maxHeartbeats 8000000
namespace Go.Fr
open Go.RowKit
section
variable {P : Program} {Q Q' : Exit → Act → World → Prop} {N : Nat} {L : Loc} {F : Nat → Prop} {w0 : World} {B : LN} {H : LV} {S : LS} {C : World → Prop} {K : Act → Prop}
variable {id : Nat} {l tl rest : List Oper} {ops : Array Oper} {o : Oper} {d : Nat} {v : Value} {ty : TypeId} {pos : String} {aft : Array Edge} {op : Op} {g : Option (Nat × Bool)}
def GM (P : Program) (ops : Array Oper) (K : Act → Prop) (l : List Oper) (N : Nat) (L : Loc) (F : Nat → Prop) (w0 : World) (B : LN) (H : LV) (S : LS) : Prop := ∀ a, Kn N L a → wpQuiet P ops (Sees F w0 B H S) K l a
theorem lK : ∀ (n : Nat) (l : List Oper) (a : Act), wpQuiet P ops C (fun a => wpQuiet P ops C K (l.drop n) a) (l.take n) a → wpQuiet P ops C K l a
 | 0, l, a, h => h
 | n + 1, [], a, h => h
 | n + 1, o :: r, a, h => by
  unfold wpQuiet
  simp only [List.take_succ_cons, List.drop_succ_cons] at h
  unfold wpQuiet at h
  split
  ·rename_i hw
   rw [if_pos hw] at h
   exact Oper.quiet_mono (fun a h => lK n r a h) h
  ·rename_i hw
   rw [if_neg hw] at h
   exact lK n r _ h
theorem kO {K K' : Act → Prop} (hK : ∀ a, K a → K' a) : ∀ (l : List Oper) (a : Act), wpQuiet P ops C K l a → wpQuiet P ops C K' l a
 | [], a, h => hK a h
 | o :: r, a, h => by
  unfold wpQuiet at h ⊢
  split
  ·rename_i hw
   rw [if_pos hw] at h
   exact Oper.quiet_mono (fun a h => kO hK r a h) h
  ·rename_i hw
   rw [if_neg hw] at h
   exact kO hK r _ h
theorem aD0 (n : Nat) (L' : Loc) (h1 : GM P ops (Kn N L') (l.take n) N L F w0 B H S) (h2 : GQ P ops Q (l.drop n) N L' F w0 B H S) : GQ P ops Q l N L F w0 B H S := fun a k =>
 lK n l a (kO (fun a' k' => h2 a' k') _ a (h1 a k))
theorem aHa (hd : d < N) (h : Rd P ⟨some d, op, ty, pos, aft, none⟩ N L F w0 B H S v) (hn : GM P ops K rest N ((d, v) :: L) F w0 B H S) : GM P ops K (⟨some d, op, ty, pos, aft, none⟩ :: rest) N L F w0 B H S := by
 refine fun a k => wpQuiet_step fun K hK => ?_
 rw [if_pos (by simp [Region.wanted])]
 refine ⟨v, fun w s => ?_, hK _ (hn _ (k.put hd v))⟩
 show Oper.quietUpon _ _ _ _ _
 rw [h a w k s]
 exact ⟨rfl, rfl⟩
theorem bR (h : ∀ a, Kn N L a → K a) : GM P ops K [] N L F w0 B H S := h
theorem aF7 {j dj : Nat} {want : Bool} {dst : Option Nat} (hj : (ops[j]?).bind (·.dst) = some dj) (hv : lkp dj L = some (.bool want)) (h : GM P ops K (⟨dst, op, ty, pos, aft, none⟩ :: rest) N L F w0 B H S) : GM P ops K (⟨dst, op, ty, pos, aft, some (j, want)⟩ :: rest) N L F w0 B H S := fun a k => by
 have h1 := h a k
 have hw : Region.wanted ⟨dst, op, ty, pos, aft, some (j, want)⟩ (yielded ops a.tmps) = true := by
  simp [Region.wanted, yielded, hj, k.get dj _ hv]
 unfold wpQuiet at h1 ⊢
 rw [if_pos (by simp [Region.wanted])] at h1
 rw [if_pos hw]
 exact h1
theorem aG6 {j dj : Nat} {want b : Bool} {dd : Nat} (hd : dd < N) (hj : (ops[j]?).bind (·.dst) = some dj) (hv : lkp dj L = some (.bool b)) (hne : b ≠ want) (h : GM P ops K rest N ((dd, undef) :: L) F w0 B H S) : GM P ops K (⟨some dd, op, ty, pos, aft, some (j, want)⟩ :: rest) N L F w0 B H S := fun a k => by
 have hw : ¬ Region.wanted ⟨some dd, op, ty, pos, aft, some (j, want)⟩ (yielded ops a.tmps) = true := by
  simp [Region.wanted, yielded, hj, k.get dj _ hv, hne]
 unfold wpQuiet
 rw [if_neg hw]
 exact h _ (k.put hd undef)
theorem aEb {j dj : Nat} {want : Bool} {dd : Nat} (hd : dd < N) (hj : (ops[j]?).bind (·.dst) = some dj) (hv : lkp dj L = some undef) (h : GM P ops K rest N ((dd, undef) :: L) F w0 B H S) : GM P ops K (⟨some dd, op, ty, pos, aft, some (j, want)⟩ :: rest) N L F w0 B H S := fun a k => by
 have hw : ¬ Region.wanted ⟨some dd, op, ty, pos, aft, some (j, want)⟩ (yielded ops a.tmps) = true := by
  simp [Region.wanted, yielded, hj, k.get dj _ hv, undef]
 unfold wpQuiet
 rw [if_neg hw]
 exact h _ (k.put hd undef)
theorem bV {f : FuncId} {aS : List Operand} {ats : Array TypeId} {args : List Value} (hd : d < N) (hf : fO P f = true) (ha : Fr.evs L aS = some args)
  (hc : ∀ w, Sees F w0 B H S w → Calls P f args.toArray w fun e w' => e = .returned v ∧ Below w.heap.size w w')
  (hn : GM P ops K rest N ((d, v) :: L) F w0 B H S) : GM P ops K (⟨some d, .call ⟨.value (.func f), aS.toArray, ats⟩, ty, pos, aft, none⟩ :: rest) N L F w0 B H S := fun a k => wpQuiet_step fun K hK => by
 rw [if_pos (by simp [Region.wanted])]
 refine ⟨v, fun w s => ?_, hK _ (hn _ (k.put hd v))⟩
 show Oper.quietUpon _ _ _ _ _
 rw [mD k hf ha]
 exact ⟨rfl, (hc w s).mono fun e w' ⟨he, hb⟩ => ⟨he, s.below hb⟩⟩
theorem zQ {id : Nat} {ops : Array Oper} (hm : P.follows .mixedOrders = true) (hB : Region.lexB .any ops = true) (h : GQ P ops Q (List.drop 0 ops.toList) N L F w0 B H S) : GC P (.region id ops true) Q N L F w0 B H S := by
 have := yC (id := id) (l := ops.toList) hm (by rw [Array.toArray_toList]; exact hB) (by rw [Array.toArray_toList]; exact h)
 rwa [Array.toArray_toList] at this
theorem jW (lo n m : Nat) (hm : lo + n = m) (L' : Loc) (h1 : GM P ops (Kn N L') (List.take n (List.drop lo ops.toList)) N L F w0 B H S) (h2 : GQ P ops Q (List.drop m ops.toList) N L' F w0 B H S) : GQ P ops Q (List.drop lo ops.toList) N L F w0 B H S :=
 aD0 n L' h1 (by rw [List.drop_drop, hm]; exact h2)
theorem aDr {m : Nat} (hm : ops.size ≤ m) (h : GE Q .normal N L F w0 B H S) : GQ P ops Q (List.drop m ops.toList) N L F w0 B H S := by
 rw [List.drop_eq_nil_of_le (by simpa using hm)]
 exact aBa h
end
def aB0 (d0 : Nat) (ops : Array Oper) (j : Nat) (o : Oper) : Bool :=
 (match o.dst with
 | some d => Nat.beq d (d0 + j)
 | none => false) && (match o.op with | .select .. => false | _ => true) && (o.after.toList.all fun e => Nat.blt e.on j) &&
 ((o.looksAt ops).all fun t => Nat.blt t d0 || (Nat.blt t (d0 + j) && o.after.toList.any fun e => Region.binds .any e && Nat.beq (e.on + d0) t))
def sH (d0 : Nat) (ops : Array Oper) : Nat → List Oper → Bool
 | _, [] => true
 | j, o :: r => match aB0 d0 ops j o with
  | true => sH d0 ops (j + 1) r
  | false => false
theorem rO {d0 : Nat} {ops : Array Oper} : ∀ {l : List Oper} {j : Nat}, sH d0 ops j l = true → ∀ i o, l[i]? = some o → aB0 d0 ops (j + i) o = true
 | [], _, _, i, o, h => by simp at h
 | x :: r, j, hl, i, o, h => by
  unfold sH at hl
  split at hl
  ·rename_i hx
   cases i with
   | zero => cases h; simpa using hx
   | succ i =>
    have := rO hl i o (by simpa using h)
    rwa [show j + (i + 1) = j + 1 + i by omega]
  ·cases hl
structure LinOp (d0 : Nat) (ops : Array Oper) (j : Nat) (o : Oper) : Prop where
 dst : o.dst = some (d0 + j)
 nosel : (match o.op with | .select .. => false | _ => true) = true
 on : ∀ e ∈ o.after, e.on < j
 looks : ∀ t ∈ o.looksAt ops, t < d0 ∨ (t < d0 + j ∧ ∃ e ∈ o.after, Region.binds .any e = true ∧ e.on + d0 = t)
theorem zZ {d0 : Nat} {ops : Array Oper} {j : Nat} {o : Oper} (h : aB0 d0 ops j o = true) : LinOp d0 ops j o := by
 simp only [aB0, Bool.and_eq_true, List.all_eq_true, Bool.or_eq_true, List.any_eq_true] at h
 obtain ⟨⟨⟨h1, h2⟩, h3⟩, h4⟩ := h
 refine ⟨?_, h2, fun e he => by simpa using h3 e (by simpa using he), fun t ht => ?_⟩
 ·cases hd : o.dst with
  | none => simp [hd] at h1
  | some d => simp [hd] at h1; rw [h1]
 ·rcases h4 t ht with h | ⟨h, e, he, hb, hq⟩
  ·exact .inl (by simpa using h)
  ·exact .inr ⟨by simpa using h, e, by simpa using he, hb, Nat.eq_of_beq_eq_true hq⟩
theorem rG {d0 : Nat} {ops : Array Oper} (hl : ∀ j o, ops[j]? = some o → LinOp d0 ops j o) : ∀ (fuel k : Nat) (listed : Array Bool), fuel + k = ops.size → listed.size = ops.size →
  (∀ j, j < ops.size → listed[j]? = some (decide (j < k))) → Region.lexFrom .any ops fuel k listed = true
 | 0, k, listed, hk, hs, hL => by
  simp only [Region.lexFrom, List.isEmpty_iff]
  rw [List.eq_nil_iff_forall_not_mem]
  intro i hi
  simp only [Region.ready, List.mem_filter, List.mem_range, Bool.and_eq_true, Bool.not_eq_true'] at hi
  have := hL i hi.1
  rw [Array.getD_eq_getD_getElem?, this] at hi
  simp at hi
  omega
 | fuel + 1, k, listed, hk, hs, hL => by
  have hkn : k < ops.size := by omega
  have hk0 : ops[k]? = some ops[k] := Array.getElem?_eq_getElem hkn
  have lk := hl k _ hk0
  have hget : ∀ j, j < ops.size → ∀ b, listed.getD j b = decide (j < k) := fun j hj b => by rw [Array.getD_eq_getD_getElem?, hL j hj]; rfl
  simp only [Region.lexFrom, Bool.and_eq_true]
  refine ⟨⟨?_, ?_⟩, ?_⟩
  ·simp only [List.contains_iff_mem, Region.ready, List.mem_filter, List.mem_range, Bool.and_eq_true]
   refine ⟨hkn, by rw [hget k hkn]; simp, ?_⟩
   rw [hk0]
   simp only [Option.map_some, Option.getD_some, Array.all_eq_true']
   intro e he
   have h1 := lk.on e he
   rw [hget e.on oM]
   simp [h1]
  ·unfold Region.free
   rw [hk0]
   simp only [List.all_eq_true, List.mem_range, Bool.or_eq_true, beq_iff_eq]
   intro j hj
   rcases Nat.lt_trichotomy j k with h | h | h
   ·exact .inl (.inr (by rw [hget j hj]; simpa using h))
   ·exact .inl (.inl h)
   ·refine .inr ?_
    have hj0 : ops[j]? = some ops[j] := Array.getElem?_eq_getElem hj
    have lj := hl j _ hj0
    rw [hj0]
    simp only [Bool.or_eq_true]
    by_cases hz : (ops[j].after.any fun e => Region.binds .any e && e.on == k) = true
    ·exact .inl hz
    ·refine .inr ?_
     have hno : ∀ e ∈ ops[j].after, Region.binds .any e = true → e.on ≠ k := fun e he hb heq => hz (by
      rw [Array.any_eq_true']; exact ⟨e, he, by simp [hb, heq]⟩)
     simp only [Oper.apart, lk.dst, lj.dst, Bool.and_eq_true, Bool.not_eq_true']
     refine ⟨⟨?_, ?_⟩, ?_⟩
     ·rw [← Bool.not_eq_true, List.contains_iff_mem]
      intro hm
      rcases lj.looks _ hm with h' | ⟨_, e, he, hb, hq⟩
      ·have h2 : (d0 + k : Nat) < d0 := h'
       omega
      ·have h2 : (e.on + d0 : Nat) = d0 + k := hq
       exact hno e he hb oM
     ·simp; omega
     ·rw [← Bool.not_eq_true, List.contains_iff_mem]
      intro hm
      rcases lk.looks _ hm with h' | ⟨h', _⟩
      ·have h2 : (d0 + j : Nat) < d0 := h'
       omega
      ·have h2 : (d0 + j : Nat) < d0 + k := h'
       omega
  ·refine rG hl fuel (k + 1) _ oM (by simpa using hs) fun j hj => ?_
   by_cases hjk : j = k
   ·subst hjk; simp [hs, hkn]
   ·rw [Array.getElem?_setIfInBounds_ne (fun e => hjk e.symm), hL j hj]
    congr 1
    simp only [decide_eq_decide]; omega
theorem aEn (d0 : Nat) {ops : Array Oper} (h : sH d0 ops 0 ops.toList = true) : Region.lexB .any ops = true := by
 have hl : ∀ j o, ops[j]? = some o → LinOp d0 ops j o := fun j o ho => by
  have := rO h j o (by simpa using ho)
  rw [Nat.zero_add] at this
  exact zZ this
 simp only [Region.lexB, Bool.and_eq_true]
 refine ⟨?_, rG hl _ 0 _ rfl (by simp) fun j hj => by simp [hj]⟩
 simp only [Region.noSelect, Array.all_eq_true']
 intro o ho
 obtain ⟨j, hj⟩ := Array.getElem?_of_mem ho
 exact (hl j o hj).nosel
def part : List Nat → Code → Code
 | [], c => c
 | i :: p, .seq x y => if i == 0 then part p x else part p y
 | i :: p, .cond _ x y => if i == 0 then part p x else part p y
 | _ :: p, .block _ c => part p c
 | _ :: p, .loop c => part p c
 | _ :: _, c => c
def aI1 : Code → Array Oper
 | .region _ o _ => o
 | _ => #[]
def bodyOf (f : Func) : Code := match f.body with
 | some c => c
 | none => .skip
end Go.Fr
namespace Go.Fr
open Go.RowKit
section
structure Bx (Y : Prop) : Prop where
 out : Y
theorem rdx {X : Prop} (h : X := by
 first
 | (with_reducible apply bD); exact rfl
 | (with_reducible apply qH); exact rfl
 | (with_reducible apply mS); exact rfl; exact rfl; omega
 | (with_reducible apply aB2); exact rfl; exact rfl; omega
 | (with_reducible apply aR); exact rfl; exact rfl
 | (with_reducible apply cM); exact rfl; exact rfl
 | (with_reducible apply aX); exact rfl; exact rfl; exact rfl
 | (with_reducible apply cJ); exact rfl; exact rfl
 | (with_reducible apply bW); exact rfl
 | (with_reducible apply oY); exact rfl; exact rfl
 | (with_reducible apply aHo); kernel_rfl; exact rfl
 | (with_reducible apply bZ); exact rfl; exact rfl
 | (with_reducible apply bG); exact rfl; exact rfl
 | (with_reducible apply gV); exact rfl; exact rfl
 | (with_reducible apply w6); exact rfl; exact rfl; omega
 | (with_reducible apply aD8); exact rfl; exact rfl
 | (with_reducible apply jC); exact rfl; exact rfl
 | (with_reducible apply aAu); exact rfl; exact rfl
 | (with_reducible apply aBq); exact rfl; exact rfl; omega; omega; omega
 | (with_reducible apply aEm); exact rfl; exact rfl; omega; omega; omega
 | (with_reducible apply aAm); exact rfl; exact rfl; omega
 | (with_reducible apply aCb); exact rfl; exact rfl; omega; omega
 | (with_reducible apply aBf); exact rfl; exact rfl; omega
 | (with_reducible apply gA); exact rfl
 | (with_reducible apply aG1); exact rfl; omega
 | (with_reducible apply aEf); exact rfl
 | (with_reducible apply rH); exact rfl; kernel_rfl; kernel_rfl; omega
 | (with_reducible apply aHt); kernel_rfl; exact rfl) : X := h
theorem g1 {X Y : Prop} (k : Y) (h : Bx Y → X := by
 intro k_
 first
 | (with_reducible apply aFk); exact rfl; decide; exact rdx; exact k_.out
 | (with_reducible apply aGa); exact k_.out
 | (with_reducible apply aE0); exact k_.out
 | (with_reducible apply vV); exact k_.out
 | (with_reducible apply aH4); exact k_.out
 | (with_reducible apply aGl); decide; exact rfl; exact rfl; decide; exact k_.out
 | (with_reducible apply aFe); decide; exact rfl; exact rfl; exact k_.out
 | (with_reducible apply aGx); exact rfl; exact rfl; exact k_.out
 | (with_reducible apply aGo); exact k_.out
 | (with_reducible apply aHi); exact k_.out
 | (with_reducible apply yR); exact k_.out
 | (with_reducible apply aF6); exact k_.out
 | (with_reducible apply aHe); exact k_.out
 | (with_reducible apply qT); exact k_.out
 | (with_reducible apply nC); exact k_.out
 | (with_reducible apply aAd); exact k_.out
 | (with_reducible apply xB); exact k_.out
 | (with_reducible apply zU); decide; exact k_.out
 | (with_reducible apply aG9); exact rfl; decide; exact rdx; exact k_.out
 | (with_reducible apply aGb); decide; exact rfl; exact rfl; decide; exact k_.out
 | (with_reducible apply aEp); decide; exact rfl; exact rfl; exact k_.out
 | (with_reducible apply aG0); exact rfl; exact rfl; exact k_.out
 | (with_reducible apply aBa); exact k_.out
 | (apply aE0); exact k_.out
 | (apply yR); exact k_.out
 | (apply vV); exact k_.out
 | (apply aHa); decide; exact rdx; exact k_.out
 | (apply aG6); decide; exact rfl; exact rfl; decide; exact k_.out
 | (apply aEb); decide; exact rfl; exact rfl; exact k_.out
 | (apply aF7); exact rfl; exact rfl; exact k_.out
 | (apply aG7); exact rfl; decide; exact rdx; exact k_.out
 | (apply aIf); exact k_.out
 | (with_reducible apply yC); kernel_rfl; kernel_rfl; exact k_.out) : X := h ⟨k⟩
theorem g2 {X Y : Prop} (k : Y) (h : Bx Y → X := by intro k_; (iterate 2 (refine g1 ?_)); exact k_.out) : X := h ⟨k⟩
theorem g3 {X Y : Prop} (k : Y) (h : Bx Y → X := by intro k_; (iterate 3 (refine g1 ?_)); exact k_.out) : X := h ⟨k⟩
theorem g4 {X Y : Prop} (k : Y) (h : Bx Y → X := by intro k_; (iterate 4 (refine g1 ?_)); exact k_.out) : X := h ⟨k⟩
theorem g5 {X Y : Prop} (k : Y) (h : Bx Y → X := by intro k_; (iterate 5 (refine g1 ?_)); exact k_.out) : X := h ⟨k⟩
theorem g6 {X Y : Prop} (k : Y) (h : Bx Y → X := by intro k_; (iterate 6 (refine g1 ?_)); exact k_.out) : X := h ⟨k⟩
theorem g7 {X Y : Prop} (k : Y) (h : Bx Y → X := by intro k_; (iterate 7 (refine g1 ?_)); exact k_.out) : X := h ⟨k⟩
theorem g8 {X Y : Prop} (k : Y) (h : Bx Y → X := by intro k_; (iterate 8 (refine g1 ?_)); exact k_.out) : X := h ⟨k⟩
theorem g9 {X Y : Prop} (k : Y) (h : Bx Y → X := by intro k_; (iterate 9 (refine g1 ?_)); exact k_.out) : X := h ⟨k⟩
theorem g10 {X Y : Prop} (k : Y) (h : Bx Y → X := by intro k_; (iterate 10 (refine g1 ?_)); exact k_.out) : X := h ⟨k⟩
theorem g11 {X Y : Prop} (k : Y) (h : Bx Y → X := by intro k_; (iterate 11 (refine g1 ?_)); exact k_.out) : X := h ⟨k⟩
theorem g12 {X Y : Prop} (k : Y) (h : Bx Y → X := by intro k_; (iterate 12 (refine g1 ?_)); exact k_.out) : X := h ⟨k⟩
theorem g13 {X Y : Prop} (k : Y) (h : Bx Y → X := by intro k_; (iterate 13 (refine g1 ?_)); exact k_.out) : X := h ⟨k⟩
theorem g14 {X Y : Prop} (k : Y) (h : Bx Y → X := by intro k_; (iterate 14 (refine g1 ?_)); exact k_.out) : X := h ⟨k⟩
theorem g15 {X Y : Prop} (k : Y) (h : Bx Y → X := by intro k_; (iterate 15 (refine g1 ?_)); exact k_.out) : X := h ⟨k⟩
theorem g16 {X Y : Prop} (k : Y) (h : Bx Y → X := by intro k_; (iterate 16 (refine g1 ?_)); exact k_.out) : X := h ⟨k⟩
theorem g18 {X Y : Prop} (k : Y) (h : Bx Y → X := by intro k_; (iterate 18 (refine g1 ?_)); exact k_.out) : X := h ⟨k⟩
theorem g20 {X Y : Prop} (k : Y) (h : Bx Y → X := by intro k_; (iterate 20 (refine g1 ?_)); exact k_.out) : X := h ⟨k⟩
theorem g25 {X Y : Prop} (k : Y) (h : Bx Y → X := by intro k_; (iterate 25 (refine g1 ?_)); exact k_.out) : X := h ⟨k⟩
theorem g30 {X Y : Prop} (k : Y) (h : Bx Y → X := by intro k_; (iterate 30 (refine g1 ?_)); exact k_.out) : X := h ⟨k⟩
theorem g40 {X Y : Prop} (k : Y) (h : Bx Y → X := by intro k_; (iterate 40 (refine g1 ?_)); exact k_.out) : X := h ⟨k⟩
theorem kns {X : Prop} (h : X := by intro a k; repeat (first | exact k.nil | refine k.cons rfl ?_)) : X := h
theorem kno {X : Prop} (h : X := by intro a k; repeat (first | exact k.nil | refine k.cons rfl ?_ | refine k.cons (by exact congrArg (fun n : Int => some (iV n)) oM) ?_)) : X := h
theorem ble {n m : Nat} (h : Nat.ble n m = true := by exact rfl) : n ≤ m := Nat.le_of_ble_eq_true h
variable {P : Program} {Q Q' : Exit → Act → World → Prop} {K : Act → World → Prop} {K0 : Act → Prop} {N : Nat} {L : Loc} {F : Nat → Prop} {w0 : World} {B : LN} {H : LV} {S : LS}
variable {tl rest : List Oper} {ops : Array Oper} {d : Nat} {v : Value} {ty : TypeId} {pos : String} {aft : Array Edge} {op : Op} {t : TypeId} {x : Operand} {f b off : Nat}
theorem rl (h : Rd P ⟨some d, op, ty, pos, aft, none⟩ N L F w0 B H S v) (k : GL P ops Q rest N ((d, v) :: L) F w0 B H S) (hd : d < N := by decide) : GL P ops Q (⟨some d, op, ty, pos, aft, none⟩ :: rest) N L F w0 B H S := aFk rfl hd h k
theorem rq (h : Rd P ⟨some d, op, ty, pos, aft, none⟩ N L F w0 B H S v) (k : GQ P ops Q rest N ((d, v) :: L) F w0 B H S) (hd : d < N := by decide) : GQ P ops Q (⟨some d, op, ty, pos, aft, none⟩ :: rest) N L F w0 B H S := aG9 rfl hd h k
theorem rt (h : Rd P ⟨some d, op, ty, pos, aft, none⟩ N L F w0 B H S v) (k : GT P ops Q tl rest N ((d, v) :: L) F w0 B H S) (hd : d < N := by decide) : GT P ops Q tl (⟨some d, op, ty, pos, aft, none⟩ :: rest) N L F w0 B H S := aG7 rfl hd h k
theorem rm (h : Rd P ⟨some d, op, ty, pos, aft, none⟩ N L F w0 B H S v) (k : GM P ops K0 rest N ((d, v) :: L) F w0 B H S) (hd : d < N := by decide) : GM P ops K0 (⟨some d, op, ty, pos, aft, none⟩ :: rest) N L F w0 B H S := aHa hd h k
theorem rfa (j : Nat) (hf : uO P t f = some j := by kernel_rfl) (hx : ev L x = some (.pointer (some ⟨b, off, none⟩)) := by exact rfl) : Rd P ⟨some d, .fieldAddr t x f, ty, pos, aft, none⟩ N L F w0 B H S (.pointer (some ⟨b, off + j, none⟩)) := xM hf hx
theorem rld (j : Nat) (hx : ev L x = some (.pointer (some ⟨b, off, none⟩))) (hb : lkp j B = some b) (hv : lkp (ky j off) H = some v) (ht : nQ P t = true := by kernel_rfl) (ho : off < 4096 := by decide) : Rd P ⟨some d, .load t x, ty, pos, aft, none⟩ N L F w0 B H S v := bE j hx hb hv ht ho
theorem agx {X : Prop} (h : X := by repeat (first | exact Agr.refl _ | apply Agr.pick rfl | apply Agr.skip dE | apply Agr.seq dE | apply Agr.put dE)) : X := h
theorem jH {X : Prop} (h : X := by repeat (first | assumption | exact Lim.nil | apply Lim.aJ1 _ dE dE | apply Lim.aJ2 _ dE | apply Lim.aJ3 _ dE | apply Lim.aJ4 dE _ 0 (Nat.le_of_ble_eq_true rfl))) : X := h
theorem blx {X : Prop} (h : X := by repeat (first | assumption | exact Blind.body | with_reducible apply Blind.then | with_reducible apply Blind.inBlock)) : X := h
theorem lhx {X : Prop} (h : X := by
 intro o ho
 repeat (first | rfl | exact Lim.h (by assumption) _ dE o ho | rw [aK dE ho _ _ (Nat.le_of_ble_eq_true rfl)] | rw [cT dE ho _ _ (Nat.le_of_ble_eq_true rfl)] | rw [cH dE ho dE])) : X := h
theorem seex {X : Prop} (h : X := by
 first
 | exact fun w s => s
 | exact fun w s => s.noS
 | exact fun w s => Sees.low _ s (by assumption) agx agx agx
 | exact fun w s => Sees.low _ s jH agx agx agx) : X := h
variable {C : World → Prop} {late : Nat → Bool} {o : Oper} {y : Operand} {B0 : LN} {H0 : LV} {S0 : LS}
theorem gL (h : GO P o Q (wpList P ops Q rest) N L F w0 B H S) (hg : o.guard = none := by exact rfl) : GL P ops Q (o :: rest) N L F w0 B H S := aI0 hg h
theorem gr {g : Nat} {listed listed' : Array Bool} (i : Nat) (hi : ops[i]? = some ⟨some d, op, ty, pos, aft, none⟩) (hy : Rd P ⟨some d, op, ty, pos, aft, none⟩ N L F w0 B0 H0 S0 v) (hn : GA P ops Q (Sees F w0 B0 H0 S0) late g listed' N ((d, v) :: L) F w0 B H S)
  (hQ : Blind Q := by exact blx) (hls : listed.setIfInBounds i true = listed' := by exact rfl) (hchk : (Region.noSelect ops && Region.free .any ops listed i && (Region.ready .any ops listed).contains i && !late i && zV ops late i) = true := by kernel_rfl) (hd : d < N := by decide) (hS : ∀ w, Sees F w0 B H S w → Sees F w0 B0 H0 S0 w := by exact seex) :
  GA P ops Q (Sees F w0 B0 H0 S0) late (g + 1) listed N L F w0 B H S := tX hi rfl hQ hchk hls hd hy hS hn
theorem gn {g : Nat} {listed listed' : Array Bool} (i : Nat) (hi : ops[i]? = some o) (h : GO P o Q (fun a' w' => (late i = false → C w') ∧ kI P ops Q C late g listed' a' w') N L F w0 B H S)
  (hg : o.guard = none := by exact rfl) (hls : listed.setIfInBounds i true = listed' := by exact rfl) (hr : Region.ready .any ops listed = [i] := by kernel_rfl) : GA P ops Q C late (g + 1) listed N L F w0 B H S := aIb hi hg hr hls h
theorem gk {lb : Bool} {K : Act → World → Prop} (h : GK K N L F w0 B H S) (hC : lb = false → ∀ w, Sees F w0 B H S w → C w := by first | exact fun h => absurd h dE | (intro _; exact seex)) : GK (fun a' w' => (lb = false → C w') ∧ K a' w') N L F w0 B H S := eL hC h
variable {fn : FuncId} {aS : List Operand} {ats : Array TypeId} {args : List Value} {u : Value} {cs : List Value}
theorem cvo (ha : Fr.evs L aS = some args) (hc : ∀ w, Sees F w0 B H S w → Calls P fn args.toArray w fun e w' => e = .returned v ∧ Below w.heap.size w w') (hn : GK K N ((d, v) :: L) F w0 B H S) (hd : d < N := by decide) (hf : fO P fn = true := by kernel_rfl) :
  GO P ⟨some d, .call ⟨.value (.func fn), aS.toArray, ats⟩, ty, pos, aft, none⟩ Q K N L F w0 B H S := aC3 hd hf ha hc hn
theorem cao {ι : Type} (V : ι → Value) (Pr : ι → Prop) (Bx : ι → LN) (Hx : ι → LV) (Sx : ι → LS) (ha : Fr.evs L aS = some args)
  (hc : ∀ w, Sees F w0 B H S w → Calls P fn args.toArray w fun e w' => ∃ x, Pr x ∧ e = .returned (V x) ∧ Sees F w0 (Bx x) (Hx x) (Sx x) w') (hn : ∀ x, Pr x → GK K N ((d, V x) :: L) F w0 (Bx x) (Hx x) (Sx x)) (hd : d < N := by decide) (hf : fO P fn = true := by kernel_rfl) :
  GO P ⟨some d, .call ⟨.value (.func fn), aS.toArray, ats⟩, ty, pos, aft, none⟩ Q K N L F w0 B H S := dR V Pr Bx Hx Sx hd hf ha hc hn
theorem sto (j : Nat) (hx : ev L x = some (.pointer (some ⟨b, off, none⟩))) (hy : ev L y = some v) (hb : lkp j B = some b) (hl : lkp (ky j off) H = some u) (hn : GK K N L F w0 B ((ky j off, v) :: H) S) (ht : (P.info? t).map (·.size) = some 1 := by kernel_rfl) (h1 : v.oneCell' = true := by exact rfl) (ho : off < 4096 := by decide) :
  GO P ⟨none, .store t x y, ty, pos, aft, none⟩ Q K N L F w0 B H S := cR j hx hy hb hl ht h1 ho hn
theorem sta {cz : Array Value} (j : Nat) (hx : ev L x = some (.pointer (some ⟨b, off, none⟩))) (hy : ev L y = some (.agg cz)) (hb : lkp j B = some b) (hk : knwn j H off cz.toList.length = true) (hn : GK K N L F w0 B (cX j off cz.toList H) S) (ht : (P.info? t).map (·.size) = some cz.size := by kernel_rfl) (h1 : cz.toList.all (·.oneCell') = true := by exact rfl) (ho : off + cz.toList.length ≤ 4096 := by exact Nat.le_of_ble_eq_true rfl) :
  GO P ⟨none, .store t x y, ty, pos, aft, none⟩ Q K N L F w0 B H S := cA j hx hy hb hk ht h1 ho hn
theorem alo (n : Nat) (hz : aAv P t = some cs) (hk : lkp n B = none) (hn : ∀ b, w0.heap.size ≤ b → GK K N ((d, pT b) :: L) F w0 ((n, b) :: B) (aC n 0 cs ++ H) S) (hkH : ∀ o, o < 4096 → lkp (ky n o) H = none := by exact lhx) (hd : d < N := by decide) (hs : cs.length ≤ 4096 := by exact Nat.le_of_ble_eq_true rfl) :
  GO P ⟨some d, .alloc t, ty, pos, aft, none⟩ Q K N L F w0 B H S := eB n hd hz hk hkH hs hn
theorem bxo (n : Nat) (hx : ev L x = some v) (hz : v.cells.toList = cs) (hk : lkp n B = none) (hn : ∀ b, w0.heap.size ≤ b → GK K N ((d, pT b) :: L) F w0 ((n, b) :: B) (aC n 0 cs ++ H) S) (hkH : ∀ o, o < 4096 → lkp (ky n o) H = none := by exact lhx) (hd : d < N := by decide) (hs : cs.length ≤ 4096 := by exact Nat.le_of_ble_eq_true rfl) :
  GO P ⟨some d, .box t x, ty, pos, aft, none⟩ Q K N L F w0 B H S := fM n hd hx hz hk hkH hs hn
end
end Go.Fr
namespace Go.Fr
section
variable {P : Program} {Q : Exit → Act → World → Prop} {N : Nat} {L : Loc} {F : Nat → Prop} {w0 : World} {B : List (Nat × Nat)} {H : List (Nat × Value)} {S : List (Nat × Slc)} {rest : List Oper} {ops : Array Oper} {d : Nat} {v : Value} {ty : TypeId} {pos : String} {aft : Array Edge} {op : Op}
theorem kX {X : Prop} (h : X := by repeat (first | exact Knw.refl _ | apply Knw.cons)) : X := h
theorem kW {X : Prop} (h : X := by intro w_; kernel_rfl) : X := h
theorem lY {A X : Prop} (a : A) (h : A → X := by intro a_; repeat (first | exact a_ | apply Lim.aJ1 _ dE dE | apply Lim.aJ2 _ dE)) : X := h a
theorem fX {A X : Prop} (a : A) (h : A → X := by intro a_ k_ h1_ o_ ho_; exact Eq.trans (by repeat (first | rfl | rw [cH oM ho_ dE])) (a_ k_ h1_ o_ ho_)) : X := h a
theorem fW {A X : Prop} (a : A) (h : A → X := by intro a_ k_ h1_ h2_ o_ ho_; exact Eq.trans (by repeat (first | rfl | rw [cH oM ho_ dE])) (a_ k_ h1_ h2_ o_ ho_)) : X := h a
theorem fV {A X : Prop} (a : A) (h : A → X := by intro a_ k_ h1_ h2_; exact Eq.trans aH (a_ k_ h1_ h2_)) : X := h a
theorem eZ1 {X Y : Prop} (k : Y) (h : Bx Y → X := by
  intro k_
  first
  | (with_reducible apply aY); exact rfl; exact rfl; exact k_.out
  | (with_reducible apply aP); exact rfl; exact rfl; exact k_.out
  | (refine g1 ?_; exact k_.out)) : X := h ⟨k⟩
theorem rX {Y : Prop} (h : Rd P ⟨some d, op, ty, pos, aft, none⟩ N L F w0 B H S v) (k : Y) (hk : Bx Y → GL P ops Q rest N ((d, v) :: L) F w0 B H S) (hd : d < N) : GL P ops Q (⟨some d, op, ty, pos, aft, none⟩ :: rest) N L F w0 B H S := aFk rfl hd h (hk ⟨k⟩)
theorem rZ1 {Y : Prop} (h : Rd P ⟨some d, op, ty, pos, aft, none⟩ N L F w0 B H S v) (k : Y) (hk : Bx Y → GL P ops Q rest N ((d, v) :: L) F w0 B H S := by intro k_; (iterate 1 (refine g1 ?_)); exact k_.out) (hd : d < N := by decide) : GL P ops Q (⟨some d, op, ty, pos, aft, none⟩ :: rest) N L F w0 B H S := rX h k hk hd
theorem rZ2 {Y : Prop} (h : Rd P ⟨some d, op, ty, pos, aft, none⟩ N L F w0 B H S v) (k : Y) (hk : Bx Y → GL P ops Q rest N ((d, v) :: L) F w0 B H S := by intro k_; (iterate 2 (refine g1 ?_)); exact k_.out) (hd : d < N := by decide) : GL P ops Q (⟨some d, op, ty, pos, aft, none⟩ :: rest) N L F w0 B H S := rX h k hk hd
theorem rZ3 {Y : Prop} (h : Rd P ⟨some d, op, ty, pos, aft, none⟩ N L F w0 B H S v) (k : Y) (hk : Bx Y → GL P ops Q rest N ((d, v) :: L) F w0 B H S := by intro k_; (iterate 3 (refine g1 ?_)); exact k_.out) (hd : d < N := by decide) : GL P ops Q (⟨some d, op, ty, pos, aft, none⟩ :: rest) N L F w0 B H S := rX h k hk hd
theorem rZ4 {Y : Prop} (h : Rd P ⟨some d, op, ty, pos, aft, none⟩ N L F w0 B H S v) (k : Y) (hk : Bx Y → GL P ops Q rest N ((d, v) :: L) F w0 B H S := by intro k_; (iterate 4 (refine g1 ?_)); exact k_.out) (hd : d < N := by decide) : GL P ops Q (⟨some d, op, ty, pos, aft, none⟩ :: rest) N L F w0 B H S := rX h k hk hd
theorem rZ5 {Y : Prop} (h : Rd P ⟨some d, op, ty, pos, aft, none⟩ N L F w0 B H S v) (k : Y) (hk : Bx Y → GL P ops Q rest N ((d, v) :: L) F w0 B H S := by intro k_; (iterate 5 (refine g1 ?_)); exact k_.out) (hd : d < N := by decide) : GL P ops Q (⟨some d, op, ty, pos, aft, none⟩ :: rest) N L F w0 B H S := rX h k hk hd
theorem rZ7 {Y : Prop} (h : Rd P ⟨some d, op, ty, pos, aft, none⟩ N L F w0 B H S v) (k : Y) (hk : Bx Y → GL P ops Q rest N ((d, v) :: L) F w0 B H S := by intro k_; (iterate 7 (refine g1 ?_)); exact k_.out) (hd : d < N := by decide) : GL P ops Q (⟨some d, op, ty, pos, aft, none⟩ :: rest) N L F w0 B H S := rX h k hk hd
theorem rZ9 {Y : Prop} (h : Rd P ⟨some d, op, ty, pos, aft, none⟩ N L F w0 B H S v) (k : Y) (hk : Bx Y → GL P ops Q rest N ((d, v) :: L) F w0 B H S := by intro k_; (iterate 9 (refine g1 ?_)); exact k_.out) (hd : d < N := by decide) : GL P ops Q (⟨some d, op, ty, pos, aft, none⟩ :: rest) N L F w0 B H S := rX h k hk hd
theorem wZ7 {Y : Prop} (h : Rd P ⟨some d, op, ty, pos, aft, none⟩ N L F w0 B H S v) (k : Y) (hk : Bx Y → GL P ops Q rest N ((d, v) :: L) F w0 B H S := by intro k_; (iterate 7 (refine eZ1 ?_)); exact k_.out) (hd : d < N := by decide) : GL P ops Q (⟨some d, op, ty, pos, aft, none⟩ :: rest) N L F w0 B H S := rX h k hk hd
theorem yZ7 {X Y : Prop} (k : Y) (h : Bx Y → X := by intro k_; (iterate 7 (refine eZ1 ?_)); exact k_.out) : X := h ⟨k⟩
theorem kQ {X Y : Prop} (k : Y) (h : Bx Y → X := by intro k_; (iterate 11 (refine eZ1 ?_)); exact k_.out) : X := h ⟨k⟩
theorem mQ {X Y : Prop} (k : Y) (h : Bx Y → X := by intro k_; (iterate 12 (refine eZ1 ?_)); exact k_.out) : X := h ⟨k⟩
theorem jT {X Y : Prop} (k : Y) (h : Bx Y → X := by intro k_; (iterate 13 (refine eZ1 ?_)); exact k_.out) : X := h ⟨k⟩
theorem lJ {X Y : Prop} (k : Y) (h : Bx Y → X := by intro k_; (iterate 14 (refine eZ1 ?_)); exact k_.out) : X := h ⟨k⟩
theorem o6 {X Y : Prop} (k : Y) (h : Bx Y → X := by intro k_; (iterate 15 (refine eZ1 ?_)); exact k_.out) : X := h ⟨k⟩
theorem xD {X Y : Prop} (k : Y) (h : Bx Y → X := by intro k_; (iterate 17 (refine eZ1 ?_)); exact k_.out) : X := h ⟨k⟩
end
end Go.Fr
namespace Go.Proofs.YtdbbifbmkfmbkaaGreat
open Go.RowKit Go.Fr Go.Tab
section
variable {F : Nat → Prop} {w0 : World} {B : LN} {H : LV} {S : LS}
theorem dZ {k : IntKind} {a b : Int} (h : a = b) : Ending.returned (.int k a) = .returned (.int k b) := by rw [h]
theorem lZ {a b : Bool} (h : a = b) : Ending.returned (.bool a) = .returned (.bool b) := by rw [h]
theorem aIt {k : IntKind} {a b a' b' : Int} (h : a = a') (h2 : b = b') : Ending.returned (.tuple #[.int k a, .int k b]) = .returned (.tuple #[.int k a', .int k b']) := by rw [h, h2]
theorem rK {k : IntKind} {a b c a' b' c' : Int} (h : a = a') (h2 : b = b') (h3 : c = c') : Ending.returned (.tuple #[.int k a, .int k b, .int k c]) = .returned (.tuple #[.int k a', .int k b', .int k c']) := by rw [h, h2, h3]
theorem aEh {k : IntKind} {a b a' b' : Int} (h : a = a') (h2 : b = b') : Ending.returned (.agg #[.int k a, .int k b]) = .returned (.agg #[.int k a', .int k b']) := by rw [h, h2]
theorem cZ (a b : Int) : a - a / b * b = a % b := by rw [Int.emod_def, Int.mul_comm]
theorem fY (a b : Int) (hb : 0 < b) (hb2 : b ≤ 1000000000) (ha : -4611686018427387904 ≤ a ∧ a ≤ 4611686018427387904) (w : World) : Calls Tryz.prog 80 #[iV a, iV b] w fun e w' => e = .returned (iV (a / b)) ∧ Below w.heap.size w w' := by
 refine aI (args := [iV a, iV b]) (L := [(0, iV a), (1, iV b)]) (N := 16) Tryz.func80 rfl rfl ble rfl (sS w) ?_
 have hq := aB9 (m := a) hb oM oM
 have hq2 : -4611686018427387904 ≤ a.tdiv b := by
  have h := Int.natAbs_tdiv a b
  have h3 : (a.tdiv b).natAbs ≤ a.natAbs := h ▸ Nat.div_le_self _ _
  omega
 refine g20 ?_
 refine g2 ?_
 refine aB rfl (fun c12_ => ?_) (fun c12_ => ?_)
 ·first | have p12_ := oT c12_ | have p12_ := beq_iff_eq.1 c12_ | have p12_ := bne_iff_ne.1 c12_ | skip
  refine g13 ?_
  refine aT (.inl rfl) rfl (aD rfl) fun w_ s_ => ⟨?_, s_.aJ0⟩
  first
   | exact dZ (Cal.floor_t hb (oT c12_))
   | exact dZ (Cal.floor_f hb (oF c12_))
 ·first | have p12_ := oF c12_ | have p12_ := beq_eq_false_iff_ne.1 c12_ | have p12_ := bne_eq_false_iff_eq.1 c12_ | skip
  refine g9 ?_
  refine aT (.inl rfl) rfl (aD rfl) fun w_ s_ => ⟨?_, s_.aJ0⟩
  first
   | exact dZ (Cal.floor_t hb (oT c12_))
   | exact dZ (Cal.floor_f hb (oF c12_))
theorem qF {a b : Int} (h : a = b) : (a == b) = true := beq_iff_eq.2 h
theorem qW {a b : Int} (h : a ≠ b) : (a == b) = false := beq_eq_false_iff_ne.2 h
theorem jO {a b : Int} (h : a = b) : (a != b) = false := by rw [bne, qF h]; rfl
theorem i3 {a b : Int} (h : a ≠ b) : (a != b) = true := by rw [bne, qW h]; rfl
theorem aF4 (y : Int) (h0 : 0 ≤ y) (h : y % 4 ≠ 0) (w : World) : Calls Tryz.prog 107 #[iV y] w fun e w' => e = .returned (.bool false) ∧ Below w.heap.size w w' := by
 refine aI (args := [iV y]) (L := [(0, iV y)]) (N := 16) Tryz.func107 rfl rfl ble rfl (sS w) ?_
 refine g9 ?_
 refine rl ((aR rfl rfl).to (cB (qW h))) ?_
 refine g14 ?_
 refine aT (.inl rfl) rfl (aD rfl) fun w_ s_ => ⟨?_, s_.aJ0⟩
 first | rfl | (simp; done)
theorem aEl (y : Int) (h0 : 0 ≤ y) (h : y % 4 = 0) (h1 : y % 100 ≠ 0) (w : World) : Calls Tryz.prog 107 #[iV y] w fun e w' => e = .returned (.bool true) ∧ Below w.heap.size w w' := by
 refine aI (args := [iV y]) (L := [(0, iV y)]) (N := 16) Tryz.func107 rfl rfl ble rfl (sS w) ?_
 refine g9 ?_
 refine rl ((aR rfl rfl).to (cB (qF h))) ?_
 refine g6 ?_
 refine rl ((cJ rfl rfl).to (cB (i3 h1))) ?_
 refine g12 ?_
 refine aT (.inl rfl) rfl (aD rfl) fun w_ s_ => ⟨?_, s_.aJ0⟩
 first | rfl | (simp; done)
theorem aFm (y : Int) (h0 : 0 ≤ y) (h : y % 4 = 0) (h1 : y % 100 = 0) (w : World) : Calls Tryz.prog 107 #[iV y] w fun e w' => e = .returned (.bool (y % 400 == 0)) ∧ Below w.heap.size w w' := by
 refine aI (args := [iV y]) (L := [(0, iV y)]) (N := 16) Tryz.func107 rfl rfl ble rfl (sS w) ?_
 refine g9 ?_
 refine rl ((aR rfl rfl).to (cB (qF h))) ?_
 refine g6 ?_
 refine rl ((cJ rfl rfl).to (cB (jO h1))) ?_
 refine g15 ?_
 refine aT (.inl rfl) rfl (aD rfl) fun w_ s_ => ⟨?_, s_.aJ0⟩
 first | rfl | (simp; done)
theorem z7 (y : Int) (h0 : 0 ≤ y) (w : World) : Calls Tryz.prog 107 #[iV y] w fun e w' => e = .returned (.bool (Cal.leapB y)) ∧ Below w.heap.size w w' := by
 by_cases h : y % 4 = 0
 ·by_cases h1 : y % 100 = 0
  ·refine (aFm y h0 h h1 w).mono fun e w' ⟨he, hb⟩ => ⟨he.trans (lZ ?_), hb⟩
   unfold Cal.leapB
   by_cases h2 : y % 400 = 0 <;> simp [h, h1, h2]
  ·refine (aEl y h0 h h1 w).mono fun e w' ⟨he, hb⟩ => ⟨he.trans (lZ ?_), hb⟩
   unfold Cal.leapB
   simp [h, h1]
 ·refine (aF4 y h0 h w).mono fun e w' ⟨he, hb⟩ => ⟨he.trans (lZ ?_), hb⟩
  unfold Cal.leapB
  simp [h]
theorem kJ (m y : Int) (h0 : 0 ≤ y) (w : World) : Calls Tryz.prog 79 #[iV m, iV y] w fun e w' => e = .returned (iV (Cal.mdays m y)) ∧ Below w.heap.size w w' := by
 refine aI (args := [iV m, iV y]) (L := [(0, iV m), (1, iV y)]) (N := 15) Tryz.func79 rfl rfl ble rfl (sS w) ?_
 refine g18 ?_
 refine aB rfl (fun c6_ => ?_) (fun c6_ => ?_)
 ·first | have p6_ := oT c6_ | have p6_ := beq_iff_eq.1 c6_ | have p6_ := bne_iff_ne.1 c6_ | skip
  refine g4 ?_
  refine gL (cvo rfl (fun w_ s_ => z7 _ oM w_) ?_)
  refine g2 ?_
  refine aB rfl (fun c9_ => ?_) (fun c9_ => ?_)
  ·first | have p9_ := oT c9_ | have p9_ := beq_iff_eq.1 c9_ | have p9_ := bne_iff_ne.1 c9_ | skip
   refine g9 ?_
   refine aT (.inl rfl) rfl (aD rfl) fun w_ s_ => ⟨?_, s_.aJ0⟩
   refine dZ ?_
   simp_all [Cal.mdays, Cal.lp]
  ·first | have p9_ := oF c9_ | have p9_ := beq_eq_false_iff_ne.1 c9_ | have p9_ := bne_eq_false_iff_eq.1 c9_ | skip
   refine g10 ?_
   refine aT (.inl rfl) rfl (aD rfl) fun w_ s_ => ⟨?_, s_.aJ0⟩
   refine dZ ?_
   simp_all [Cal.mdays, Cal.lp]
 ·first | have p6_ := oF c6_ | have p6_ := beq_eq_false_iff_ne.1 c6_ | have p6_ := bne_eq_false_iff_eq.1 c6_ | skip
  refine g7 ?_
  refine aB rfl (fun c10_ => ?_) (fun c10_ => ?_)
  ·first | have p10_ := oT c10_ | have p10_ := beq_iff_eq.1 c10_ | have p10_ := bne_iff_ne.1 c10_ | skip
   refine g2 ?_
   refine aB rfl (fun c10_ => ?_) (fun c10_ => ?_)
   ·first | have p10_ := oT c10_ | have p10_ := beq_iff_eq.1 c10_ | have p10_ := bne_iff_ne.1 c10_ | skip
    refine g8 ?_
    refine aT (.inl rfl) rfl (aD rfl) fun w_ s_ => ⟨?_, s_.aJ0⟩
    refine dZ ?_
    simp_all [Cal.mdays, Cal.lp]
   ·first | have p10_ := oF c10_ | have p10_ := beq_eq_false_iff_ne.1 c10_ | have p10_ := bne_eq_false_iff_eq.1 c10_ | skip
    refine g9 ?_
    refine aT (.inl rfl) rfl (aD rfl) fun w_ s_ => ⟨?_, s_.aJ0⟩
    refine dZ ?_
    simp_all [Cal.mdays, Cal.lp]
  ·first | have p10_ := oF c10_ | have p10_ := beq_eq_false_iff_ne.1 c10_ | have p10_ := bne_eq_false_iff_eq.1 c10_ | skip
   refine g6 ?_
   refine aB rfl (fun c10_ => ?_) (fun c10_ => ?_)
   ·first | have p10_ := oT c10_ | have p10_ := beq_iff_eq.1 c10_ | have p10_ := bne_iff_ne.1 c10_ | skip
    refine g2 ?_
    refine aB rfl (fun c10_ => ?_) (fun c10_ => ?_)
    ·first | have p10_ := oT c10_ | have p10_ := beq_iff_eq.1 c10_ | have p10_ := bne_iff_ne.1 c10_ | skip
     refine g8 ?_
     refine aT (.inl rfl) rfl (aD rfl) fun w_ s_ => ⟨?_, s_.aJ0⟩
     refine dZ ?_
     simp_all [Cal.mdays, Cal.lp]
    ·first | have p10_ := oF c10_ | have p10_ := beq_eq_false_iff_ne.1 c10_ | have p10_ := bne_eq_false_iff_eq.1 c10_ | skip
     refine g9 ?_
     refine aT (.inl rfl) rfl (aD rfl) fun w_ s_ => ⟨?_, s_.aJ0⟩
     refine dZ ?_
     simp_all [Cal.mdays, Cal.lp]
   ·first | have p10_ := oF c10_ | have p10_ := beq_eq_false_iff_ne.1 c10_ | have p10_ := bne_eq_false_iff_eq.1 c10_ | skip
    refine g6 ?_
    refine aB rfl (fun c10_ => ?_) (fun c10_ => ?_)
    ·first | have p10_ := oT c10_ | have p10_ := beq_iff_eq.1 c10_ | have p10_ := bne_iff_ne.1 c10_ | skip
     refine g2 ?_
     refine aB rfl (fun c10_ => ?_) (fun c10_ => ?_)
     ·first | have p10_ := oT c10_ | have p10_ := beq_iff_eq.1 c10_ | have p10_ := bne_iff_ne.1 c10_ | skip
      refine g8 ?_
      refine aT (.inl rfl) rfl (aD rfl) fun w_ s_ => ⟨?_, s_.aJ0⟩
      refine dZ ?_
      simp_all [Cal.mdays, Cal.lp]
     ·first | have p10_ := oF c10_ | have p10_ := beq_eq_false_iff_ne.1 c10_ | have p10_ := bne_eq_false_iff_eq.1 c10_ | skip
      refine g9 ?_
      refine aT (.inl rfl) rfl (aD rfl) fun w_ s_ => ⟨?_, s_.aJ0⟩
      refine dZ ?_
      simp_all [Cal.mdays, Cal.lp]
    ·first | have p10_ := oF c10_ | have p10_ := beq_eq_false_iff_ne.1 c10_ | have p10_ := bne_eq_false_iff_eq.1 c10_ | skip
     refine g5 ?_
     refine aB rfl (fun c10_ => ?_) (fun c10_ => ?_)
     ·first | have p10_ := oT c10_ | have p10_ := beq_iff_eq.1 c10_ | have p10_ := bne_iff_ne.1 c10_ | skip
      refine g8 ?_
      refine aT (.inl rfl) rfl (aD rfl) fun w_ s_ => ⟨?_, s_.aJ0⟩
      refine dZ ?_
      simp_all [Cal.mdays, Cal.lp]
     ·first | have p10_ := oF c10_ | have p10_ := beq_eq_false_iff_ne.1 c10_ | have p10_ := bne_eq_false_iff_eq.1 c10_ | skip
      refine g9 ?_
      refine aT (.inl rfl) rfl (aD rfl) fun w_ s_ => ⟨?_, s_.aJ0⟩
      refine dZ ?_
      simp_all [Cal.mdays, Cal.lp]
theorem wH (y : Int) (h0 : -1000000000 ≤ y ∧ y ≤ 1000000000) (w : World) : Calls Tryz.prog 104 #[iV y] w fun e w' => e = .returned (iV (Cal.daysTo y)) ∧ Below w.heap.size w w' := by
 refine aI (args := [iV y]) (L := [(0, iV y)]) (N := 17) Tryz.func104 rfl rfl ble rfl (sS w) ?_
 refine g16 ?_
 refine g1 ?_
 refine gL (cvo rfl (fun w_ s_ => fY _ _ oM oM oM w_) ?_)
 refine g2 ?_
 refine gL (cvo rfl (fun w_ s_ => fY _ _ oM oM oM w_) ?_)
 refine g2 ?_
 refine gL (cvo rfl (fun w_ s_ => fY _ _ oM oM oM w_) ?_)
 refine g5 ?_
 refine aT (.inl rfl) rfl (aD rfl) fun w_ s_ => ⟨?_, s_.aJ0⟩
 exact dZ rfl
theorem nP (x n : Int) (hx : -1000000000000000 ≤ x ∧ x ≤ 1000000000000000) (w : World) : Calls Tryz.prog 78 #[.agg #[iV x, iV n]] w fun e w' => e = .returned (.tuple #[iV (Cal.yearOf (x / 86400)), iV (Cal.ydayOf (x / 86400)), iV (x % 86400)]) ∧ Below w.heap.size w w' := by
 refine aI (args := [.agg #[iV x, iV n]]) (L := [(0, .agg #[iV x, iV n])]) (N := 59) Tryz.func78 rfl rfl ble rfl (sS w) ?_
 refine g2 ?_
 refine gL (bxo 50 rfl rfl rfl (fun b1_ hbb1_ => ?_))
 refine g7 ?_
 refine rl (rfa 0) ?_
 refine rl (rld 50 rfl rfl rfl) ?_
 refine gL (cvo rfl (fun w_ s_ => fY _ _ oM oM oM w_) ?_)
 refine g5 ?_
 refine rl (rfa 0) ?_
 refine rZ9 (rld 50 rfl rfl rfl) ?_
 refine gL (cvo rfl (fun w_ s_ => fY _ _ oM oM oM w_) ?_)
 refine g25 ?_
 refine g1 ?_
 refine aB rfl (fun c27_ => ?_) (fun c27_ => ?_)
 ·first | have p27_ := oT c27_ | have p27_ := beq_iff_eq.1 c27_ | have p27_ := bne_iff_ne.1 c27_ | skip
  refine g40 ?_
  refine g3 ?_
  refine aB rfl (fun c41_ => ?_) (fun c41_ => ?_)
  ·first | have p41_ := oT c41_ | have p41_ := beq_iff_eq.1 c41_ | have p41_ := bne_iff_ne.1 c41_ | skip
   refine g30 ?_
   refine g4 ?_
   refine jI (.inl rfl) rfl (aD rfl) (aD rfl) (aD rfl) fun w_ s_ => ⟨?_, s_.aJ0⟩
   simp only [cZ] at p27_ p41_ ⊢
   generalize x / 86400 = q at *
   refine rK ?_ ?_ rfl
   ·unfold Cal.yearOf Cal.one Cal.d2 Cal.cen; (first | rw [if_pos p27_] | rw [if_neg p27_]); (try simp only [cZ]); (first | rw [if_pos p41_] | rw [if_neg p41_]); (try simp only [cZ])
   ·unfold Cal.ydayOf Cal.one Cal.d2 Cal.cen; (first | rw [if_pos p27_] | rw [if_neg p27_]); (try simp only [cZ]); (first | rw [if_pos p41_] | rw [if_neg p41_]); (try simp only [cZ])
  ·first | have p41_ := oF c41_ | have p41_ := beq_eq_false_iff_ne.1 c41_ | have p41_ := bne_eq_false_iff_eq.1 c41_ | skip
   refine g30 ?_
   refine g2 ?_
   refine jI (.inl rfl) rfl (aD rfl) (aD rfl) (aD rfl) fun w_ s_ => ⟨?_, s_.aJ0⟩
   simp only [cZ] at p27_ p41_ ⊢
   generalize x / 86400 = q at *
   refine rK ?_ ?_ rfl
   ·unfold Cal.yearOf Cal.one Cal.d2 Cal.cen; (first | rw [if_pos p27_] | rw [if_neg p27_]); (try simp only [cZ]); (first | rw [if_pos p41_] | rw [if_neg p41_]); (try simp only [cZ])
   ·unfold Cal.ydayOf Cal.one Cal.d2 Cal.cen; (first | rw [if_pos p27_] | rw [if_neg p27_]); (try simp only [cZ]); (first | rw [if_pos p41_] | rw [if_neg p41_]); (try simp only [cZ])
 ·first | have p27_ := oF c27_ | have p27_ := beq_eq_false_iff_ne.1 c27_ | have p27_ := bne_eq_false_iff_eq.1 c27_ | skip
  refine g40 ?_
  refine g1 ?_
  refine aB rfl (fun c41_ => ?_) (fun c41_ => ?_)
  ·first | have p41_ := oT c41_ | have p41_ := beq_iff_eq.1 c41_ | have p41_ := bne_iff_ne.1 c41_ | skip
   refine g30 ?_
   refine g4 ?_
   refine jI (.inl rfl) rfl (aD rfl) (aD rfl) (aD rfl) fun w_ s_ => ⟨?_, s_.aJ0⟩
   simp only [cZ] at p27_ p41_ ⊢
   generalize x / 86400 = q at *
   refine rK ?_ ?_ rfl
   ·unfold Cal.yearOf Cal.one Cal.d2 Cal.cen; (first | rw [if_pos p27_] | rw [if_neg p27_]); (try simp only [cZ]); (first | rw [if_pos p41_] | rw [if_neg p41_]); (try simp only [cZ])
   ·unfold Cal.ydayOf Cal.one Cal.d2 Cal.cen; (first | rw [if_pos p27_] | rw [if_neg p27_]); (try simp only [cZ]); (first | rw [if_pos p41_] | rw [if_neg p41_]); (try simp only [cZ])
  ·first | have p41_ := oF c41_ | have p41_ := beq_eq_false_iff_ne.1 c41_ | have p41_ := bne_eq_false_iff_eq.1 c41_ | skip
   refine g30 ?_
   refine g2 ?_
   refine jI (.inl rfl) rfl (aD rfl) (aD rfl) (aD rfl) fun w_ s_ => ⟨?_, s_.aJ0⟩
   simp only [cZ] at p27_ p41_ ⊢
   generalize x / 86400 = q at *
   refine rK ?_ ?_ rfl
   ·unfold Cal.yearOf Cal.one Cal.d2 Cal.cen; (first | rw [if_pos p27_] | rw [if_neg p27_]); (try simp only [cZ]); (first | rw [if_pos p41_] | rw [if_neg p41_]); (try simp only [cZ])
   ·unfold Cal.ydayOf Cal.one Cal.d2 Cal.cen; (first | rw [if_pos p27_] | rw [if_neg p27_]); (try simp only [cZ]); (first | rw [if_pos p41_] | rw [if_neg p41_]); (try simp only [cZ])
theorem gX {x : Int} (hx : 0 ≤ x ∧ x ≤ 1000000000000000) : 0 ≤ Cal.ydayOf (x / 86400) ∧ Cal.ydayOf (x / 86400) ≤ 365 ∧ 1 ≤ Cal.yearOf (x / 86400) ∧ Cal.yearOf (x / 86400) ≤ 40000000 := by
 have h := Cal.split_spec (x / 86400)
 have h2 := Cal.lp_01 (Cal.yearOf (x / 86400))
 have h1 : 1 ≤ Cal.yearOf (x / 86400) := by
  rcases Int.lt_or_le (Cal.yearOf (x / 86400)) 1 with hh | hh
  ·exfalso
   have := Cal.daysTo_mono (show Cal.yearOf (x / 86400) ≤ 0 by omega)
   have e0 : Cal.daysTo 0 = -366 := by decide
   omega
  ·exact hh
 unfold Cal.daysTo at h
 omega
theorem jZ (x n : Int) (hx : 0 ≤ x ∧ x ≤ 1000000000000000) (w : World) : Calls Tryz.prog 46 #[.agg #[iV x, iV n]] w fun e w' => e = .returned (.tuple #[iV (Cal.yearOf (x / 86400)), iV (Cal.monthOf (x / 86400)), iV (Cal.mdayOf (x / 86400))]) ∧ Below w.heap.size w w' := by
 refine aI (args := [.agg #[iV x, iV n]]) (L := [(0, .agg #[iV x, iV n])]) (N := 31) Tryz.func46 rfl rfl ble rfl (sS w) ?_
 have hbd := gX hx
 have hsp := (Cal.split_spec (x / 86400)).2.2
 refine g2 ?_
 refine gL (bxo 50 rfl rfl rfl (fun b1_ hbb1_ => ?_))
 refine g7 ?_
 refine rl (aV 50 rfl rfl rfl rfl kR dE) ?_
 refine gL (cvo rfl (fun w_ s_ => nP _ _ oM w_) ?_)
 refine g16 ?_
 refine bJ (ι := (Nat) × (Int) × (Int)) (fun | ⟨j, m, d⟩ => 12 - j) (fun | ⟨j, m, d⟩ => (j ≤ 11) ∧ (m = j + 1) ∧ (d = Cal.ydayOf (x / 86400) - Cal.cum (Cal.yearOf (x / 86400)) j) ∧ (Cal.cum (Cal.yearOf (x / 86400)) j ≤ Cal.ydayOf (x / 86400))) (fun | ⟨j, m, d⟩ => [(5, iV (Cal.yearOf (x / 86400))), (6, iV d), (8, iV m)]) (fun | ⟨j, m, d⟩ => (50, b1_) :: []) (fun | ⟨j, m, d⟩ => aC 50 0 [iV x, iV n] ++ []) (fun | ⟨j, m, d⟩ => []) ⟨0, 1, Cal.ydayOf (x / 86400)⟩ ⟨by omega, by omega, by simp [Cal.cum], by simp only [Cal.cum]; omega⟩ kns (fun w s => by exact s) ?_
 rintro ⟨j, m, d⟩ ⟨hj, hm, hd, hc⟩
 show GC _ _ _ _ [(5, iV (Cal.yearOf (x / 86400))), (6, iV d), (8, iV m)] _ _ ((50, b1_) :: []) (aC 50 0 [iV x, iV n] ++ []) ([])
 have hmd := Cal.mdays_bd m (Cal.yearOf (x / 86400))
 have hcs : Cal.cum (Cal.yearOf (x / 86400)) (j + 1) = Cal.cum (Cal.yearOf (x / 86400)) j + Cal.mdays m (Cal.yearOf (x / 86400)) := by rw [hm]; rfl
 have hc0 := Cal.cum_mono (Cal.yearOf (x / 86400)) 0 j (Nat.zero_le _)
 simp only [Cal.cum] at hc0
 refine g6 ?_
 refine gL (cvo rfl (fun w_ s_ => kJ _ _ oM w_) ?_)
 refine g3 ?_
 refine aB rfl (fun hc1 => ?_) (fun hc2 => ?_)
 ·have hge : Cal.mdays m (Cal.yearOf (x / 86400)) ≤ d := oT hc1
  have hnx : Cal.cum (Cal.yearOf (x / 86400)) (j + 1) ≤ Cal.ydayOf (x / 86400) := by omega
  have hj1 : j + 1 ≤ 11 := by
   rcases Nat.lt_or_ge j 11 with h | h
   ·omega
   ·exfalso; obtain rfl : j = 11 := by omega
    rw [Cal.cum_12] at hnx; omega
  refine g8 ?_
  refine gL (cvo rfl (fun w_ s_ => kJ _ _ oM w_) ?_)
  refine g10 ?_
  refine aQ ⟨j + 1, m + 1, d - Cal.mdays m (Cal.yearOf (x / 86400))⟩ sO ⟨by omega, by omega, by rw [hcs]; omega, hnx⟩ kns (fun w s => by exact s)
 ·have hlt : ¬ Cal.mdays m (Cal.yearOf (x / 86400)) ≤ d := oF hc2
  have hfin := Cal.mon_unique hj hc oM
  refine g16 ?_
  refine g1 ?_
  refine jI (.inl rfl) rfl (aD rfl) (aD rfl) (aD rfl) fun w_ s_ => ⟨?_, s_.aJ0⟩
  unfold Cal.monthOf Cal.mdayOf
  rw [hfin]
  exact rK rfl hm sO
theorem iF (x n : Int) (hx : -1000000000000000 ≤ x ∧ x ≤ 1000000000000000) (w : World) : Calls Tryz.prog 47 #[.agg #[iV x, iV n]] w fun e w' => e = .returned (.tuple #[iV (x % 86400 / 3600), iV (x % 86400 / 60 % 60), iV (x % 86400 % 60)]) ∧ Below w.heap.size w w' := by
 refine aI (args := [.agg #[iV x, iV n]]) (L := [(0, .agg #[iV x, iV n])]) (N := 21) Tryz.func47 rfl rfl ble rfl (sS w) ?_
 refine g2 ?_
 refine gL (bxo 50 rfl rfl rfl (fun b1_ hbb1_ => ?_))
 refine g7 ?_
 refine rl (aV 50 rfl rfl rfl rfl kR dE) ?_
 refine gL (cvo rfl (fun w_ s_ => nP _ _ oM w_) ?_)
 refine g20 ?_
 refine g4 ?_
 refine jI (.inl rfl) rfl (aD rfl) (aD rfl) (aD rfl) fun w_ s_ => ⟨?_, s_.aJ0⟩
 exact rK rfl rfl rfl
theorem xS (x n : Int) (hx : 0 ≤ x ∧ x ≤ 1000000000000000) (w : World) : Calls Tryz.prog 70 #[.agg #[iV x, iV n]] w fun e w' => e = .returned (iV (Cal.monthOf (x / 86400))) ∧ Below w.heap.size w w' := by
 refine aI (args := [.agg #[iV x, iV n]]) (L := [(0, .agg #[iV x, iV n])]) (N := 13) Tryz.func70 rfl rfl ble rfl (sS w) ?_
 refine g2 ?_
 refine gL (bxo 50 rfl rfl rfl (fun b1_ hbb1_ => ?_))
 refine g5 ?_
 refine rl (aV 50 rfl rfl rfl rfl kR dE) ?_
 refine gL (cvo rfl (fun w_ s_ => jZ _ _ oM w_) ?_)
 refine g16 ?_
 refine aT (.inl rfl) rfl (aD rfl) fun w_ s_ => ⟨?_, s_.aJ0⟩
 exact dZ rfl
theorem oA (x n : Int) (hx : 0 ≤ x ∧ x ≤ 1000000000000000) (w : World) : Calls Tryz.prog 71 #[.agg #[iV x, iV n]] w fun e w' => e = .returned (iV (Cal.mdayOf (x / 86400))) ∧ Below w.heap.size w w' := by
 refine aI (args := [.agg #[iV x, iV n]]) (L := [(0, .agg #[iV x, iV n])]) (N := 13) Tryz.func71 rfl rfl ble rfl (sS w) ?_
 refine g2 ?_
 refine gL (bxo 50 rfl rfl rfl (fun b1_ hbb1_ => ?_))
 refine g5 ?_
 refine rl (aV 50 rfl rfl rfl rfl kR dE) ?_
 refine gL (cvo rfl (fun w_ s_ => jZ _ _ oM w_) ?_)
 refine g16 ?_
 refine aT (.inl rfl) rfl (aD rfl) fun w_ s_ => ⟨?_, s_.aJ0⟩
 exact dZ rfl
theorem zY (x n : Int) (hx : 0 ≤ x ∧ x ≤ 1000000000000000) (w : World) : Calls Tryz.prog 72 #[.agg #[iV x, iV n]] w fun e w' => e = .returned (iV (x % 86400 / 3600)) ∧ Below w.heap.size w w' := by
 refine aI (args := [.agg #[iV x, iV n]]) (L := [(0, .agg #[iV x, iV n])]) (N := 13) Tryz.func72 rfl rfl ble rfl (sS w) ?_
 refine g2 ?_
 refine gL (bxo 50 rfl rfl rfl (fun b1_ hbb1_ => ?_))
 refine g5 ?_
 refine rl (aV 50 rfl rfl rfl rfl kR dE) ?_
 refine gL (cvo rfl (fun w_ s_ => iF _ _ oM w_) ?_)
 refine g16 ?_
 refine aT (.inl rfl) rfl (aD rfl) fun w_ s_ => ⟨?_, s_.aJ0⟩
 exact dZ rfl
theorem wG (x n : Int) (hx : 0 ≤ x ∧ x ≤ 1000000000000000) (w : World) : Calls Tryz.prog 73 #[.agg #[iV x, iV n]] w fun e w' => e = .returned (iV (x % 86400 / 60 % 60)) ∧ Below w.heap.size w w' := by
 refine aI (args := [.agg #[iV x, iV n]]) (L := [(0, .agg #[iV x, iV n])]) (N := 13) Tryz.func73 rfl rfl ble rfl (sS w) ?_
 refine g2 ?_
 refine gL (bxo 50 rfl rfl rfl (fun b1_ hbb1_ => ?_))
 refine g5 ?_
 refine rl (aV 50 rfl rfl rfl rfl kR dE) ?_
 refine gL (cvo rfl (fun w_ s_ => iF _ _ oM w_) ?_)
 refine g16 ?_
 refine aT (.inl rfl) rfl (aD rfl) fun w_ s_ => ⟨?_, s_.aJ0⟩
 exact dZ rfl
theorem xG (x n : Int) (hx : 0 ≤ x ∧ x ≤ 1000000000000000) (w : World) : Calls Tryz.prog 74 #[.agg #[iV x, iV n]] w fun e w' => e = .returned (iV (x % 86400 % 60)) ∧ Below w.heap.size w w' := by
 refine aI (args := [.agg #[iV x, iV n]]) (L := [(0, .agg #[iV x, iV n])]) (N := 13) Tryz.func74 rfl rfl ble rfl (sS w) ?_
 refine g2 ?_
 refine gL (bxo 50 rfl rfl rfl (fun b1_ hbb1_ => ?_))
 refine g5 ?_
 refine rl (aV 50 rfl rfl rfl rfl kR dE) ?_
 refine gL (cvo rfl (fun w_ s_ => iF _ _ oM w_) ?_)
 refine g16 ?_
 refine aT (.inl rfl) rfl (aD rfl) fun w_ s_ => ⟨?_, s_.aJ0⟩
 exact dZ rfl
theorem oN (x n : Int) (hx : 0 ≤ x ∧ x ≤ 1000000000000000) (w : World) : Calls Tryz.prog 94 #[.agg #[iV x, iV n]] w fun e w' => e = .returned (iV (Cal.ydayOf (x / 86400) + 1)) ∧ Below w.heap.size w w' := by
 refine aI (args := [.agg #[iV x, iV n]]) (L := [(0, .agg #[iV x, iV n])]) (N := 14) Tryz.func94 rfl rfl ble rfl (sS w) ?_
 have hbd := gX hx
 have hsp := (Cal.split_spec (x / 86400)).2.2
 refine g2 ?_
 refine gL (bxo 50 rfl rfl rfl (fun b1_ hbb1_ => ?_))
 refine g5 ?_
 refine rl (aV 50 rfl rfl rfl rfl kR dE) ?_
 refine gL (cvo rfl (fun w_ s_ => nP _ _ oM w_) ?_)
 refine g16 ?_
 refine g1 ?_
 refine aT (.inl rfl) rfl (aD rfl) fun w_ s_ => ⟨?_, s_.aJ0⟩
 exact dZ rfl
theorem kA (x n : Int) (hx : -1000000000000000 ≤ x ∧ x ≤ 1000000000000000) (w : World) : Calls Tryz.prog 49 #[.agg #[iV x, iV n]] w fun e w' => e = .returned (iV ((x / 86400 + 1) % 7)) ∧ Below w.heap.size w w' := by
 refine aI (args := [.agg #[iV x, iV n]]) (L := [(0, .agg #[iV x, iV n])]) (N := 13) Tryz.func49 rfl rfl ble rfl (sS w) ?_
 refine g2 ?_
 refine gL (bxo 50 rfl rfl rfl (fun b1_ hbb1_ => ?_))
 refine g5 ?_
 refine rl (rfa 0) ?_
 refine rl (rld 50 rfl rfl rfl) ?_
 refine gL (cvo rfl (fun w_ s_ => fY _ _ oM oM oM w_) ?_)
 refine g8 ?_
 refine gL (cvo rfl (fun w_ s_ => fY _ _ oM oM oM w_) ?_)
 refine g6 ?_
 refine aT (.inl rfl) rfl (aD rfl) fun w_ s_ => ⟨?_, s_.aJ0⟩
 exact dZ oM
theorem uZ (x n : Int) (w : World) : Calls Tryz.prog 36 #[.agg #[iV x, iV n]] w fun e w' => e = .returned (iV x) ∧ Below w.heap.size w w' := by
 refine aI (args := [.agg #[iV x, iV n]]) (L := [(0, .agg #[iV x, iV n])]) (N := 5) Tryz.func36 rfl rfl ble rfl (sS w) ?_
 refine g2 ?_
 refine gL (bxo 50 rfl rfl rfl (fun b1_ hbb1_ => ?_))
 refine g5 ?_
 refine rl (rfa 0) ?_
 refine rZ4 (rld 50 rfl rfl rfl) ?_
 refine aT (.inl rfl) rfl (aD rfl) fun w_ s_ => ⟨?_, s_.aJ0⟩
 first | rfl | (simp; done)
theorem iM (x n : Int) (hn : 0 ≤ n ∧ n < 1000000000) (w : World) : Calls Tryz.prog 118 #[.agg #[iV x, iV n]] w fun e w' => e = .returned (iV n) ∧ Below w.heap.size w w' := by
 refine aI (args := [.agg #[iV x, iV n]]) (L := [(0, .agg #[iV x, iV n])]) (N := 5) Tryz.func118 rfl rfl ble rfl (sS w) ?_
 refine g2 ?_
 refine gL (bxo 50 rfl rfl rfl (fun b1_ hbb1_ => ?_))
 refine g5 ?_
 refine rl (rfa 1) ?_
 refine rZ4 (rld 50 rfl rfl rfl) ?_
 refine aT (.inl rfl) rfl (aD rfl) fun w_ s_ => ⟨?_, s_.aJ0⟩
 first | rfl | (simp; done)
theorem yT (x : Int) (w : World) : Calls Tryz.prog 45 #[iV x] w fun e w' => e = .returned (.agg #[iV x, iV 0]) ∧ Below w.heap.size w w' := by
 refine aI (args := [iV x]) (L := [(0, iV x)]) (N := 5) Tryz.func45 rfl rfl ble rfl (sS w) ?_
 refine g2 ?_
 refine gL (alo 50 (cs := [iV 0, iV 0]) kR rfl (fun b1_ hbb1_ => ?_))
 refine g5 ?_
 refine rl (oH (k2 := .i64) (n := 0) rfl kW) ?_
 refine gL (sta 50 rfl rfl rfl rfl ?_)
 refine g3 ?_
 refine aT (.inl rfl) rfl (hZ 50 rfl rfl rfl rfl kR) fun w_ s_ => ⟨?_, s_.aJ0⟩
 first | rfl | (simp; done)
theorem nM (x n d : Int) (w : World) : Calls Tryz.prog 68 #[.agg #[iV x, iV n], iV d] w fun e w' => e = .returned (.agg #[iV x, iV 0]) ∧ Below w.heap.size w w' := by
 refine aI (args := [.agg #[iV x, iV n], iV d]) (L := [(0, .agg #[iV x, iV n]), (1, iV d)]) (N := 8) Tryz.func68 rfl rfl ble rfl (sS w) ?_
 refine g2 ?_
 refine gL (bxo 50 rfl rfl rfl (fun b1_ hbb1_ => ?_))
 refine gL (alo 51 (cs := [iV 0, iV 0]) kR rfl (fun b2_ hbb2_ => ?_))
 refine g4 ?_
 refine rl (rfa 0) ?_
 refine rl (rld 50 rfl rfl rfl) ?_
 refine rl (oH (k2 := .i64) (n := 0) rfl kW) ?_
 refine gL (sta 51 rfl rfl rfl rfl ?_)
 refine g3 ?_
 refine aT (.inl rfl) rfl (hZ 51 rfl rfl rfl rfl kR) fun w_ s_ => ⟨?_, s_.aJ0⟩
 first | rfl | (simp; done)
theorem aC1 (x n : Int) (h : x ≠ 0) (w : World) : Calls Tryz.prog 66 #[.agg #[iV x, iV n]] w fun e w' => e = .returned (.bool false) ∧ Below w.heap.size w w' := by
 refine aI (args := [.agg #[iV x, iV n]]) (L := [(0, .agg #[iV x, iV n])]) (N := 11) Tryz.func66 rfl rfl ble rfl (sS w) ?_
 refine g2 ?_
 refine gL (bxo 50 rfl rfl rfl (fun b1_ hbb1_ => ?_))
 refine g5 ?_
 refine rl (rfa 0) ?_
 refine rl (rld 50 rfl rfl rfl) ?_
 refine rZ9 ((aR rfl rfl).to (cB (qW h))) ?_
 refine aT (.inl rfl) rfl (aD rfl) fun w_ s_ => ⟨?_, s_.aJ0⟩
 first | rfl | (simp; done)
theorem aAo (x n : Int) (h : x = 0) (w : World) : Calls Tryz.prog 66 #[.agg #[iV x, iV n]] w fun e w' => e = .returned (.bool (n == 0)) ∧ Below w.heap.size w w' := by
 refine aI (args := [.agg #[iV x, iV n]]) (L := [(0, .agg #[iV x, iV n])]) (N := 11) Tryz.func66 rfl rfl ble rfl (sS w) ?_
 refine g2 ?_
 refine gL (bxo 50 rfl rfl rfl (fun b1_ hbb1_ => ?_))
 refine g5 ?_
 refine rl (rfa 0) ?_
 refine rl (rld 50 rfl rfl rfl) ?_
 refine rZ2 ((aR rfl rfl).to (cB (qF h))) ?_
 refine rZ1 (rfa 1) ?_
 refine rZ7 (rld 50 rfl rfl rfl) ?_
 refine aT (.inl rfl) rfl (aD rfl) fun w_ s_ => ⟨?_, s_.aJ0⟩
 first | rfl | (simp; done)
theorem kM (x n : Int) (w : World) : Calls Tryz.prog 66 #[.agg #[iV x, iV n]] w fun e w' => e = .returned (.bool (decide (x = 0 ∧ n = 0))) ∧ Below w.heap.size w w' := by
 by_cases h : x = 0
 ·refine (aAo x n h w).mono fun e w' ⟨he, hb⟩ => ⟨he.trans (lZ ?_), hb⟩
  by_cases h2 : n = 0 <;> simp [h, h2]
 ·refine (aC1 x n h w).mono fun e w' ⟨he, hb⟩ => ⟨he.trans (lZ ?_), hb⟩
  simp [h]
theorem aDd (x n y m : Int) (h : x < y) (w : World) : Calls Tryz.prog 121 #[.agg #[iV x, iV n], .agg #[iV y, iV m]] w fun e w' => e = .returned (.bool true) ∧ Below w.heap.size w w' := by
 refine aI (args := [.agg #[iV x, iV n], .agg #[iV y, iV m]]) (L := [(0, .agg #[iV x, iV n]), (1, .agg #[iV y, iV m])]) (N := 24) Tryz.func121 rfl rfl ble rfl (sS w) ?_
 refine g2 ?_
 refine gL (bxo 50 rfl rfl rfl (fun b1_ hbb1_ => ?_))
 refine gL (bxo 51 rfl rfl rfl (fun b2_ hbb2_ => ?_))
 refine g5 ?_
 refine rl (rfa 0) ?_
 refine rl (rld 50 rfl rfl rfl) ?_
 refine rl (rfa 0) ?_
 refine rl (rld 51 rfl rfl rfl) ?_
 refine rl ((cM rfl rfl).to (cB (decide_eq_true h))) ?_
 refine g18 ?_
 refine aT (.inl rfl) rfl (aD rfl) fun w_ s_ => ⟨?_, s_.aJ0⟩
 first | rfl | (simp; done)
theorem aCy (x n y m : Int) (h : x = y) (w : World) : Calls Tryz.prog 121 #[.agg #[iV x, iV n], .agg #[iV y, iV m]] w fun e w' => e = .returned (.bool (decide (n < m))) ∧ Below w.heap.size w w' := by
 refine aI (args := [.agg #[iV x, iV n], .agg #[iV y, iV m]]) (L := [(0, .agg #[iV x, iV n]), (1, .agg #[iV y, iV m])]) (N := 24) Tryz.func121 rfl rfl ble rfl (sS w) ?_
 refine g2 ?_
 refine gL (bxo 50 rfl rfl rfl (fun b1_ hbb1_ => ?_))
 refine gL (bxo 51 rfl rfl rfl (fun b2_ hbb2_ => ?_))
 refine g5 ?_
 refine rl (rfa 0) ?_
 refine rl (rld 50 rfl rfl rfl) ?_
 refine rl (rfa 0) ?_
 refine rl (rld 51 rfl rfl rfl) ?_
 refine rZ2 ((cM rfl rfl).to (cB (decide_eq_false (show ¬ x < y by omega)))) ?_
 refine rZ1 (rfa 0) ?_
 refine rZ1 (rld 50 rfl rfl rfl) ?_
 refine rZ1 (rfa 0) ?_
 refine rZ1 (rld 51 rfl rfl rfl) ?_
 refine rZ3 ((aR rfl rfl).to (cB (qF h))) ?_
 refine rZ1 (rfa 1) ?_
 refine rZ1 (rld 50 rfl rfl rfl) ?_
 refine rZ1 (rfa 1) ?_
 refine rZ9 (rld 51 rfl rfl rfl) ?_
 refine aT (.inl rfl) rfl (aD rfl) fun w_ s_ => ⟨?_, s_.aJ0⟩
 first | rfl | (simp; done)
theorem aDh (x n y m : Int) (h : ¬ x < y) (h2 : x ≠ y) (w : World) : Calls Tryz.prog 121 #[.agg #[iV x, iV n], .agg #[iV y, iV m]] w fun e w' => e = .returned (.bool false) ∧ Below w.heap.size w w' := by
 refine aI (args := [.agg #[iV x, iV n], .agg #[iV y, iV m]]) (L := [(0, .agg #[iV x, iV n]), (1, .agg #[iV y, iV m])]) (N := 24) Tryz.func121 rfl rfl ble rfl (sS w) ?_
 refine g2 ?_
 refine gL (bxo 50 rfl rfl rfl (fun b1_ hbb1_ => ?_))
 refine gL (bxo 51 rfl rfl rfl (fun b2_ hbb2_ => ?_))
 refine g5 ?_
 refine rl (rfa 0) ?_
 refine rl (rld 50 rfl rfl rfl) ?_
 refine rl (rfa 0) ?_
 refine rl (rld 51 rfl rfl rfl) ?_
 refine rZ2 ((cM rfl rfl).to (cB (decide_eq_false h))) ?_
 refine rZ1 (rfa 0) ?_
 refine rZ1 (rld 50 rfl rfl rfl) ?_
 refine rZ1 (rfa 0) ?_
 refine rZ1 (rld 51 rfl rfl rfl) ?_
 refine rl ((aR rfl rfl).to (cB (qW h2))) ?_
 refine g14 ?_
 refine aT (.inl rfl) rfl (aD rfl) fun w_ s_ => ⟨?_, s_.aJ0⟩
 first | rfl | (simp; done)
theorem kS (x n y m : Int) (w : World) : Calls Tryz.prog 121 #[.agg #[iV x, iV n], .agg #[iV y, iV m]] w fun e w' => e = .returned (.bool (decide (x < y ∨ x = y ∧ n < m))) ∧ Below w.heap.size w w' := by
 by_cases h : x < y
 ·refine (aDd x n y m h w).mono fun e w' ⟨he, hb⟩ => ⟨he.trans (lZ ?_), hb⟩
  simp [h]
 ·by_cases h2 : x = y
  ·refine (aCy x n y m h2 w).mono fun e w' ⟨he, hb⟩ => ⟨he.trans (lZ ?_), hb⟩
   simp [h2]
  ·refine (aDh x n y m h h2 w).mono fun e w' ⟨he, hb⟩ => ⟨he.trans (lZ ?_), hb⟩
   simp [h, h2]
theorem rT (x n y m : Int) (w : World) : Calls Tryz.prog 120 #[.agg #[iV x, iV n], .agg #[iV y, iV m]] w fun e w' => e = .returned (.bool (decide (y < x ∨ y = x ∧ m < n))) ∧ Below w.heap.size w w' := by
 refine aI (args := [.agg #[iV x, iV n], .agg #[iV y, iV m]]) (L := [(0, .agg #[iV x, iV n]), (1, .agg #[iV y, iV m])]) (N := 8) Tryz.func120 rfl rfl ble rfl (sS w) ?_
 refine g2 ?_
 refine gL (bxo 50 rfl rfl rfl (fun b1_ hbb1_ => ?_))
 refine gL (bxo 51 rfl rfl rfl (fun b2_ hbb2_ => ?_))
 refine g5 ?_
 refine rl (aV 51 rfl rfl rfl rfl kR dE) ?_
 refine rl (aV 50 rfl rfl rfl rfl kR dE) ?_
 refine gL (cvo rfl (fun w_ s_ => kS _ _ _ _ w_) ?_)
 refine g4 ?_
 refine aT (.inl rfl) rfl (aD rfl) fun w_ s_ => ⟨?_, s_.aJ0⟩
 first | rfl | (simp; done)
theorem dN (x n : Int) (w : World) : Calls Tryz.prog 76 #[.agg #[iV x, iV n]] w fun e w' => e = .returned (.agg #[]) ∧ Below w.heap.size w w' := by
 refine aI (args := [.agg #[iV x, iV n]]) (L := [(0, .agg #[iV x, iV n])]) (N := 4) Tryz.func76 rfl rfl ble rfl (sS w) ?_
 refine g2 ?_
 refine gL (bxo 50 rfl rfl rfl (fun b1_ hbb1_ => ?_))
 refine gL (alo 51 (cs := []) kR rfl (fun b2_ hbb2_ => ?_))
 refine g4 ?_
 refine rl (mC (v := .agg #[]) kW) ?_
 refine gL (sta 51 rfl rfl rfl rfl ?_)
 refine g3 ?_
 refine aT (.inl rfl) rfl (jX 51 (cs := []) rfl rfl (fun i v h => by simp at h) dE kR) fun w_ s_ => ⟨rfl, s_.aJ0⟩
theorem qQ  (w : World) : Calls Tryz.prog 112 #[] w fun e w' => e = .returned (.agg #[]) ∧ Below w.heap.size w w' := by
 refine aI (args := []) (L := []) (N := 2) Tryz.func112 rfl rfl ble rfl (sS w) ?_
 refine g2 ?_
 refine gL (alo 50 (cs := []) kR rfl (fun b1_ hbb1_ => ?_))
 refine g4 ?_
 refine rl (mC (v := .agg #[]) kW) ?_
 refine gL (sta 50 rfl rfl rfl rfl ?_)
 refine g3 ?_
 refine aT (.inl rfl) rfl (jX 50 (cs := []) rfl rfl (fun i v h => by simp at h) dE kR) fun w_ s_ => ⟨rfl, s_.aJ0⟩
theorem aDt {m b : Int} (hb : 0 < b) : (m.tmod b * b < 0 → m.tmod b + b = m % b) ∧ (¬ m.tmod b * b < 0 → m.tmod b = m % b) := by
 have hs : m.tmod b * b < 0 ↔ m.tmod b < 0 := by
  constructor
  ·intro h
   rcases Int.lt_or_le (m.tmod b) 0 with h' | h'
   ·exact h'
   ·have := Int.mul_nonneg h' (Int.le_of_lt hb); omega
  ·intro h; exact Int.mul_neg_of_neg_of_pos h hb
 have e := Int.tmod_def m b
 have f := Int.emod_def m b
 rw [hs]
 constructor
 ·intro h
  have q := Cal.floor_t hb h
  have : m.tdiv b = m / b + 1 := by omega
  rw [f, e, this, Int.mul_add]; omega
 ·intro h
  have q := Cal.floor_f hb h
  rw [f, e, q]
theorem aF8 {d : Int} (hd : 0 ≤ d ∧ d ≤ 6) : ([iV 6, iV 0, iV 1, iV 2, iV 3, iV 4, iV 5] : List Value)[0 + d.toNat * 1]? = some (iV ((d + 6) % 7)) := by
 obtain ⟨h0, h1⟩ := hd
 have : d = 0 ∨ d = 1 ∨ d = 2 ∨ d = 3 ∨ d = 4 ∨ d = 5 ∨ d = 6 := by omega
 rcases this with rfl | rfl | rfl | rfl | rfl | rfl | rfl <;> rfl
theorem aDl (x d : Int) (hx : 0 ≤ x ∧ x ≤ 1000000000000000) (hd : 0 ≤ d ∧ d ≤ 9223372036854775807) (w : World) : Calls Tryz.prog 69 #[.agg #[iV x, iV 0], iV d] w fun e w' => e = .returned (.agg #[iV (x + d / 1000000000), iV (d % 1000000000)]) ∧ Below w.heap.size w w' := by
 refine aI (args := [.agg #[iV x, iV 0], iV d]) (L := [(0, .agg #[iV x, iV 0]), (1, iV d)]) (N := 32) Tryz.func69 rfl rfl ble rfl (sS w) ?_
 refine g2 ?_
 refine gL (bxo 50 rfl rfl rfl (fun b1_ hbb1_ => ?_))
 refine gL (alo 51 (cs := [iV 0, iV 0]) kR rfl (fun b2_ hbb2_ => ?_))
 refine g6 ?_
 refine rq (rfa 1) ?_
 refine rq (rld 50 rfl rfl rfl) ?_
 refine g14 ?_
 refine aP rfl (decide_eq_false oM) ?_
 refine g6 ?_
 refine aP rfl (decide_eq_false oM) ?_
 refine g4 ?_
 refine rl (rfa 0) ?_
 refine rZ3 (rld 50 rfl rfl rfl) ?_
 refine rl (qJ rfl rfl kW) ?_
 refine gL (sta 51 rfl rfl rfl rfl ?_)
 refine g3 ?_
 refine aT (.inl rfl) rfl (hZ 51 rfl rfl rfl rfl kR) fun w_ s_ => ⟨?_, s_.aJ0⟩
 first | rfl | (refine aEh ?_ ?_ <;> omega)
theorem cY (y m d h mi s ns : Int) (hy : 0 ≤ y + (m - 1) / 12 ∧ y ≤ 10000000 ∧ -10000000 ≤ y) (hm : -1000000 ≤ m ∧ m ≤ 1000000) (hd : -1000000000 ≤ d ∧ d ≤ 1000000000) (hh : -1000000000 ≤ h ∧ h ≤ 1000000000) (hmi : -1000000000 ≤ mi ∧ mi ≤ 1000000000) (hs : -1000000000 ≤ s ∧ s ≤ 1000000000) (hn : 0 ≤ ns ∧ ns < 1000000000) (w : World) : Calls Tryz.prog 75 #[iV y, iV m, iV d, iV h, iV mi, iV s, iV ns, .agg #[]] w fun e w' => e = .returned (.agg #[iV (Cal.dayNo y m d * 86400 + h * 3600 + mi * 60 + s), iV ns]) ∧ Below w.heap.size w w' := by
 refine aI (args := [iV y, iV m, iV d, iV h, iV mi, iV s, iV ns, .agg #[]]) (L := [(0, iV y), (1, iV m), (2, iV d), (3, iV h), (4, iV mi), (5, iV s), (6, iV ns), (7, .agg #[])]) (N := 71) Tryz.func75 rfl rfl ble rfl (sS w) ?_
 have hdt : -40000000000 ≤ Cal.daysTo (y + (m - 1) / 12) ∧ Cal.daysTo (y + (m - 1) / 12) ≤ 40000000000 := by unfold Cal.daysTo; omega
 refine g2 ?_
 refine gL (bxo 50 rfl rfl rfl (fun b1_ hbb1_ => ?_))
 refine gL (alo 51 (cs := [iV 0, iV 0]) kR rfl (fun b2_ hbb2_ => ?_))
 refine g13 ?_
 refine gL (cvo rfl (fun w_ s_ => fY _ _ oM oM oM w_) ?_)
 refine g8 ?_
 refine gL (cvo rfl (fun w_ s_ => fY _ _ oM oM oM w_) ?_)
 refine g8 ?_
 refine gL (cvo rfl (fun w_ s_ => wH _ oM w_) ?_)
 refine g13 ?_
 refine bJ (ι := (Nat) × (Int) × (Int)) (fun | ⟨j, i, t⟩ => 12 - j) (fun | ⟨j, i, t⟩ => (j ≤ ((m - 1) % 12).toNat) ∧ (i = j + 1) ∧ (t = Cal.daysTo (y + (m - 1) / 12) + d - 1 + Cal.cum (y + (m - 1) / 12) j)) (fun | ⟨j, i, t⟩ => [(3, iV h), (4, iV mi), (5, iV s), (6, iV ns), (15, pT b1_), (16, pT b2_), (17, iV (m - 1 - 12 * ((m - 1) / 12))), (18, iV (y + (m - 1) / 12)), (19, iV t), (20, iV i)]) (fun | ⟨j, i, t⟩ => (51, b2_) :: (50, b1_) :: []) (fun | ⟨j, i, t⟩ => aC 51 0 [iV 0, iV 0] ++ []) (fun | ⟨j, i, t⟩ => []) ⟨0, 1, Cal.daysTo (y + (m - 1) / 12) + d - 1⟩ ⟨by omega, by omega, by simp [Cal.cum]⟩ kns (fun w s => by exact s.to (fun _ _ h => h) (fun k o v ho h => ⟨(by exact h), (by obtain ⟨b, e, _⟩ := s.cells k o v ho (by exact h); rw [e]; rfl)⟩) (fun _ _ h => h)) ?_
 rintro ⟨j, i, t⟩ ⟨hj, hi, ht⟩
 show GC _ _ _ _ [(3, iV h), (4, iV mi), (5, iV s), (6, iV ns), (15, pT b1_), (16, pT b2_), (17, iV (m - 1 - 12 * ((m - 1) / 12))), (18, iV (y + (m - 1) / 12)), (19, iV t), (20, iV i)] _ _ ((51, b2_) :: (50, b1_) :: []) (aC 51 0 [iV 0, iV 0] ++ []) ([])
 have hmd := Cal.mdays_bd i (y + (m - 1) / 12)
 have hcs : Cal.cum (y + (m - 1) / 12) (j + 1) = Cal.cum (y + (m - 1) / 12) j + Cal.mdays i (y + (m - 1) / 12) := by rw [hi]; rfl
 have hc0 := Cal.cum_bd (y + (m - 1) / 12) j
 refine g8 ?_
 refine aB rfl (fun c42_ => ?_) (fun c42_ => ?_)
 ·first | have p42_ := oT c42_ | have p42_ := beq_iff_eq.1 c42_ | have p42_ := bne_iff_ne.1 c42_ | skip
  refine g8 ?_
  refine gL (cvo rfl (fun w_ s_ => kJ _ _ oM w_) ?_)
  refine g10 ?_
  refine aQ ⟨j + 1, i + 1, t + Cal.mdays i (y + (m - 1) / 12)⟩ sO ⟨by omega, by omega, by rw [hcs, ht]; omega⟩ kns (fun w s => by exact s)
 ·first | have p42_ := oF c42_ | have p42_ := beq_eq_false_iff_ne.1 c42_ | have p42_ := bne_eq_false_iff_eq.1 c42_ | skip
  refine g25 ?_
  refine g4 ?_
  refine gL (cvo rfl (fun w_ s_ => fY _ _ oM oM oM w_) ?_)
  refine g12 ?_
  refine rl (qJ rfl rfl kW) ?_
  refine gL (sta 51 rfl rfl rfl rfl ?_)
  refine g3 ?_
  refine aT (.inl rfl) rfl (hZ 51 rfl rfl rfl rfl kR) fun w_ s_ => ⟨?_, s_.aJ0⟩
  unfold Cal.dayNo
  obtain rfl : j = ((m - 1) % 12).toNat := by omega
  refine aEh ?_ ?_ <;> (try subst ht) <;> omega
theorem aC5 (y : Int) (h0 : 0 ≤ y) (h : y % 4 ≠ 0) (w : World) : Calls Tryz.prog 81 #[iV y] w fun e w' => e = .returned (iV 0) ∧ Below w.heap.size w w' := by
 refine aI (args := [iV y]) (L := [(0, iV y)]) (N := 16) Tryz.func81 rfl rfl ble rfl (sS w) ?_
 refine g10 ?_
 refine rl ((aR rfl rfl).to (cB (qW h))) ?_
 refine g12 ?_
 refine aP rfl rfl ?_
 refine g8 ?_
 refine aT (.inl rfl) rfl (aD rfl) fun w_ s_ => ⟨?_, s_.aJ0⟩
 first | rfl | (simp; done)
theorem aAr (y : Int) (h0 : 0 ≤ y) (h : y % 4 = 0) (h1 : y % 100 ≠ 0) (w : World) : Calls Tryz.prog 81 #[iV y] w fun e w' => e = .returned (iV 1) ∧ Below w.heap.size w w' := by
 refine aI (args := [iV y]) (L := [(0, iV y)]) (N := 16) Tryz.func81 rfl rfl ble rfl (sS w) ?_
 refine g10 ?_
 refine rl ((aR rfl rfl).to (cB (qF h))) ?_
 refine g6 ?_
 refine rl ((cJ rfl rfl).to (cB (i3 h1))) ?_
 refine g10 ?_
 refine aY rfl rfl ?_
 refine g7 ?_
 refine aT (.inl rfl) rfl (aD rfl) fun w_ s_ => ⟨?_, s_.aJ0⟩
 first | rfl | (simp; done)
theorem aBg (y : Int) (h0 : 0 ≤ y) (h : y % 4 = 0) (h1 : y % 100 = 0) (w : World) : Calls Tryz.prog 81 #[iV y] w fun e w' => e = .returned (iV (if y % 400 = 0 then 1 else 0)) ∧ Below w.heap.size w w' := by
 refine aI (args := [iV y]) (L := [(0, iV y)]) (N := 16) Tryz.func81 rfl rfl ble rfl (sS w) ?_
 refine g10 ?_
 refine rl ((aR rfl rfl).to (cB (qF h))) ?_
 refine g6 ?_
 refine rl ((cJ rfl rfl).to (cB (jO h1))) ?_
 refine g13 ?_
 refine aB rfl (fun c15_ => ?_) (fun c15_ => ?_)
 ·first | have p15_ := oT c15_ | have p15_ := beq_iff_eq.1 c15_ | have p15_ := bne_iff_ne.1 c15_ | skip
  refine g7 ?_
  refine aT (.inl rfl) rfl (aD rfl) fun w_ s_ => ⟨?_, s_.aJ0⟩
  refine dZ ?_
  simp_all
 ·first | have p15_ := oF c15_ | have p15_ := beq_eq_false_iff_ne.1 c15_ | have p15_ := bne_eq_false_iff_eq.1 c15_ | skip
  refine g8 ?_
  refine aT (.inl rfl) rfl (aD rfl) fun w_ s_ => ⟨?_, s_.aJ0⟩
  refine dZ ?_
  simp_all
theorem kN (y : Int) (h0 : 0 ≤ y) (w : World) : Calls Tryz.prog 81 #[iV y] w fun e w' => e = .returned (iV (Cal.lp y)) ∧ Below w.heap.size w w' := by
 by_cases h : y % 4 = 0
 ·by_cases h1 : y % 100 = 0
  ·refine (aBg y h0 h h1 w).mono fun e w' ⟨he, hb⟩ => ⟨he.trans (dZ ?_), hb⟩
   unfold Cal.lp Cal.leapB
   by_cases h2 : y % 400 = 0 <;> simp [h, h1, h2]
  ·refine (aAr y h0 h h1 w).mono fun e w' ⟨he, hb⟩ => ⟨he.trans (dZ ?_), hb⟩
   unfold Cal.lp Cal.leapB
   simp [h, h1]
 ·refine (aC5 y h0 h w).mono fun e w' ⟨he, hb⟩ => ⟨he.trans (dZ ?_), hb⟩
  unfold Cal.lp Cal.leapB
  simp [h]
theorem mN (d : Int) (hd : 0 ≤ d ∧ d ≤ 6) (w : World) : Calls Tryz.prog 48 #[iV d] w fun e w' => e = .returned (iV ((d + 6) % 7)) ∧ Below w.heap.size w w' := by
 refine aI (args := [iV d]) (L := [(0, iV d)]) (N := 7) Tryz.func48 rfl rfl ble rfl (sS w) ?_
 refine g7 ?_
 refine gL (eG 50 (e := 3) (sz := 1) (n := 7) (vs := [(0, iV 6), (1, iV 0), (2, iV 1), (3, iV 2), (4, iV 3), (5, iV 4), (6, iV 5)]) (cs := [iV 6, iV 0, iV 1, iV 2, iV 3, iV 4, iV 5]) dE rfl kW rfl dE dE rfl (fun b1_ hbb1_ => ?_))
 refine g1 ?_
 refine rl (aF (e := 3) (n := 1) kR rfl rfl oM oM) ?_
 refine rZ4 (bP 50 rfl rfl rfl (aF8 hd) kR) ?_
 refine aT (.inl rfl) rfl (aD rfl) fun w_ s_ => ⟨?_, s_.aJ0⟩
 first | rfl | (simp; done)
theorem oS (x n k : Int) (hx : 0 ≤ x ∧ x ≤ 400000000000) (hk : -100000 ≤ k ∧ k ≤ 100000) (hn : 0 ≤ n ∧ n < 1000000000) (w : World) : Calls Tryz.prog 117 #[.agg #[iV x, iV n], iV 0, iV 0, iV k] w fun e w' => e = .returned (.agg #[iV (x + k * 86400), iV n]) ∧ Below w.heap.size w w' := by
 refine aI (args := [.agg #[iV x, iV n], iV 0, iV 0, iV k]) (L := [(0, .agg #[iV x, iV n]), (1, iV 0), (2, iV 0), (3, iV k)]) (N := 43) Tryz.func117 rfl rfl ble rfl (sS w) ?_
 have hbd := gX (x := x) oM
 have hmo := Cal.month_bd (x / 86400)
 have hyy := Cal.year_le (x / 86400) oM
 refine g2 ?_
 refine gL (bxo 50 rfl rfl rfl (fun b1_ hbb1_ => ?_))
 refine gL (alo 51 (cs := [iV 0, iV 0]) kR rfl (fun b2_ hbb2_ => ?_))
 refine g4 ?_
 refine rl (aV 50 rfl rfl rfl rfl kR dE) ?_
 refine gL (cvo rfl (fun w_ s_ => jZ _ _ oM w_) ?_)
 refine g11 ?_
 refine rl (aV 50 rfl rfl rfl rfl kR dE) ?_
 refine gL (cvo rfl (fun w_ s_ => iF _ _ oM w_) ?_)
 refine g20 ?_
 refine g3 ?_
 refine rl (rfa 1) ?_
 refine rl (rld 50 rfl rfl rfl) ?_
 refine rl (mC (v := .agg #[]) kW) ?_
 refine gL (cvo rfl (fun w_ s_ => cY _ _ _ _ _ _ _ oM oM oM oM oM oM oM w_) ?_)
 refine gL (sta 51 rfl rfl rfl rfl ?_)
 refine g3 ?_
 refine aT (.inl rfl) rfl (hZ 51 rfl rfl rfl rfl kR) fun w_ s_ => ⟨?_, s_.aJ0⟩
 refine aEh ?_ rfl
 have := Cal.dayNo_of (x / 86400) k
 omega
theorem mG (m y : Int) (hm : 1 ≤ m ∧ m ≤ 12) (hy : 1 ≤ y ∧ y ≤ 10000) (w : World) : Calls Tryz.prog 123 #[iV m, iV y] w fun e w' => e = .returned (iV (Cal.mdays m y)) ∧ Below w.heap.size w w' := by
 refine aI (args := [iV m, iV y]) (L := [(0, iV m), (1, iV y)]) (N := 11) Tryz.func123 rfl rfl ble rfl (sS w) ?_
 have hlast := Cal.dayNo_last m y hm hy
 refine g10 ?_
 refine gL (cvo rfl (fun w_ s_ => qQ w_) ?_)
 refine gL (cvo rfl (fun w_ s_ => cY _ _ _ _ _ _ _ oM oM oM oM oM oM oM w_) ?_)
 refine gL (cvo rfl (fun w_ s_ => oA _ _ oM w_) ?_)
 refine g4 ?_
 refine aT (.inl rfl) rfl (aD rfl) fun w_ s_ => ⟨?_, s_.aJ0⟩
 refine dZ ?_
 rw [show (Cal.dayNo y (m + 1) 0 * 86400 + 0 * 3600 + 0 * 60 + 0) / 86400 = Cal.dayNo y (m + 1) 0 by omega]
 exact hlast.2
theorem aU (xs : List Int) (x : Int) (v : Value) (hl : xs.length ≤ 1000000000) (w : World) (hI : Ints w v xs) : Calls Tryz.prog 51 #[v, iV x] w fun e w' => e = .returned (.bool (xs.any (· == x))) ∧ Below w.heap.size w w' := by
 obtain ⟨p, c, rfl, hI⟩ := hI
 refine aI (args := [.slice p xs.length c, iV x]) (L := [(0, .slice p xs.length c), (1, iV x)]) (N := 17) Tryz.func51 rfl rfl ble rfl (sS w) ?_
 refine g14 ?_
 refine bJ (ι := (Nat)) (fun k => xs.length - k) (fun k => (k ≤ xs.length) ∧ ((xs.take k).any (· == x) = false)) (fun k => [(1, iV x), (7, .slice p xs.length c), (8, iV (xs.length)), (9, iV k)]) (fun k => []) (fun k => []) (fun k => []) 0 ⟨by omega, rfl⟩ kns (fun w s => by exact s) ?_
 rintro k ⟨hk, hn⟩
 show GC _ _ _ _ [(1, iV x), (7, .slice p xs.length c), (8, iV (xs.length)), (9, iV k)] _ _ ([]) ([]) ([])
 refine g6 ?_
 refine aB rfl (fun hc1 => ?_) (fun hc2 => ?_)
 ·have hlt : k < xs.length := by have := oT hc1; omega
  obtain ⟨y, hy⟩ : ∃ y, xs[k]? = some y := ⟨_, List.getElem?_eq_getElem hlt⟩
  obtain ⟨b, o, rfl, hcell⟩ := hI k y hy
  refine g6 ?_
  refine rl (aF (e := 3) (n := 1) kR rfl rfl oM oM) ?_
  refine rl (fK rfl (v := iV y) (by rw [← hcell]; congr 2; omega) (fun h => h) kR) ?_
  refine g10 ?_
  refine aB rfl (fun c15_ => ?_) (fun hno => ?_)
  ·refine g11 ?_
   refine aT (.inl rfl) rfl (aD rfl) fun w_ s_ => ⟨?_, s_.aJ0⟩
   refine lZ (Eq.symm (List.any_eq_true.2 ⟨y, List.mem_of_getElem? hy, ?_⟩))
   exact c15_
  ·refine g7 ?_
   refine aQ (k + 1) oM ⟨by omega, by rw [List.take_add_one, hy, List.any_append, hn]; simpa using hno⟩ kns (fun w s => by exact s)
 ·have hge : ¬ k < xs.length := by have := oF hc2; omega
  refine g11 ?_
  refine aT (.inl rfl) rfl (aD rfl) fun w_ s_ => ⟨?_, s_.aJ0⟩
  refine lZ ?_
  have hkn : k = xs.length := by omega
  subst hkn
  rw [← hn, List.take_length]
theorem aHc {x : Int} : ∀ u ∈ [iV x], u.oneCell' = true := by
 intro u hu
 simp only [List.mem_cons, List.not_mem_nil, or_false] at hu
 subst hu; rfl
theorem aGs {xs : List Int} {x : Int} : xs.map iV ++ [iV x] = (xs ++ [x]).map iV := by simp
theorem aGr {k : Nat} {x : Int} : (List.replicate k x).map iV ++ [iV x] = (List.replicate (k + 1) x).map iV := by rw [List.replicate_succ', List.map_append]; rfl
theorem aFb {k : Nat} {a : Int} : (((List.range k).map fun (j : Nat) => a + (j : Int)).map iV) ++ [iV (a + k)] = ((List.range (k + 1)).map fun (j : Nat) => a + (j : Int)).map iV := by rw [List.range_succ, List.map_append, List.map_append]; rfl
theorem aCd {F : Nat → Prop} {w0 w : World} {B : LN} {H : LV} {S : LS} {k : Nat} {v : Value} {e : TypeId} {sz n : Nat} {xs ys : List Value} (s : Sees F w0 B H S w) (hk : lkp k S = some ⟨v, e, sz, n, xs⟩) (hx : xs = ys) : Sees F w0 [] [] [(k, ⟨v, e, sz, n, ys⟩)] w := by
 subst hx; exact s.only hk
theorem d8 (x : Int) (n : Nat) (hn : n ≤ 1000) (w : World) : Calls Tryz.prog 109 #[iV x, iV ((n : Int))] w fun e w' => ∃ p c, e = .returned (.slice p n c) ∧ fL w w' (.slice p n c) 3 1 n ((List.replicate n x).map iV) := by
 refine aI (args := [iV x, iV ((n : Int))]) (L := [(0, iV x), (1, iV ((n : Int)))]) (N := 18) Tryz.func109 rfl rfl ble rfl (sS w) ?_
 refine g7 ?_
 refine gL (wY 50 (e := 3) (sz := 1) dE kW rfl (fun b1_ hbb1_ => ?_))
 refine g10 ?_
 refine bJ (ι := (Nat) × (Option Addr) × (Nat)) (fun | ⟨k, p, c⟩ => n - k) (fun | ⟨k, p, c⟩ => (k ≤ n)) (fun | ⟨k, p, c⟩ => [(0, iV x), (1, iV n), (5, .slice p k c), (6, iV k)]) (fun | ⟨k, p, c⟩ => []) (fun | ⟨k, p, c⟩ => []) (fun | ⟨k, p, c⟩ => [(50, ⟨.slice p k c, 3, 1, k, (List.replicate k x).map iV⟩)]) ⟨0, some ⟨b1_, 0, none⟩, 0⟩ (Nat.zero_le _) kns (fun w s => by exact s) ?_
 rintro ⟨k, p, c⟩ hk
 show GC _ _ _ _ [(0, iV x), (1, iV n), (5, .slice p k c), (6, iV k)] _ _ ([]) ([]) ([(50, ⟨.slice p k c, 3, 1, k, (List.replicate k x).map iV⟩)])
 refine g8 ?_
 refine aB rfl (fun c10_ => ?_) (fun c10_ => ?_)
 ·first | have p10_ := oT c10_ | have p10_ := beq_iff_eq.1 c10_ | have p10_ := bne_iff_ne.1 c10_ | skip
  refine g7 ?_
  refine gL (lU 51 (e := 3) (sz := 1) (by_ := 8) (zs := [iV 0]) dE kR rfl dE dE rfl rfl rfl rfl (fun b2_ => ?_))
  refine gL (cU 50 51 (e := 3) (sz := 1) (by_ := 8) (zs := [iV 0]) dE kR rfl dE rfl rfl rfl rfl ⟨rfl, rfl⟩ ⟨rfl, rfl⟩ aHc sO sO (fun p' c' => ?_))
  refine g9 ?_
  refine aQ ⟨k + 1, p', c'⟩ sO (show k + 1 ≤ n by omega) kns (fun w s => by exact aCd s rfl aGr)
 ·first | have p10_ := oF c10_ | have p10_ := beq_eq_false_iff_ne.1 c10_ | have p10_ := bne_eq_false_iff_eq.1 c10_ | skip
  refine g12 ?_
  refine aT (.inl rfl) rfl (aD rfl) fun w_ s_ => ?_
  obtain rfl : k = n := by omega
  exact ⟨p, c, rfl, s_.toNew (k := 50) rfl⟩
theorem jV (a : Int) (n : Nat) (hn : n ≤ 1000) (ha : -1000 ≤ a ∧ a ≤ 1000) (w : World) : Calls Tryz.prog 110 #[iV a, iV (a + (n : Int))] w fun e w' => ∃ p c, e = .returned (.slice p n c) ∧ fL w w' (.slice p n c) 3 1 n (((List.range n).map fun (j : Nat) => a + (j : Int)).map iV) := by
 refine aI (args := [iV a, iV (a + (n : Int))]) (L := [(0, iV a), (1, iV (a + (n : Int)))]) (N := 19) Tryz.func110 rfl rfl ble rfl (sS w) ?_
 refine g7 ?_
 refine gL (wY 50 (e := 3) (sz := 1) dE kW rfl (fun b1_ hbb1_ => ?_))
 refine g11 ?_
 refine bJ (ι := (Nat) × (Int) × (Option Addr) × (Nat)) (fun | ⟨k, i, p, c⟩ => n - k) (fun | ⟨k, i, p, c⟩ => (i = a + k) ∧ (k ≤ n)) (fun | ⟨k, i, p, c⟩ => [(1, iV (a + (n : Int))), (5, .slice p k c), (6, iV i)]) (fun | ⟨k, i, p, c⟩ => []) (fun | ⟨k, i, p, c⟩ => []) (fun | ⟨k, i, p, c⟩ => [(50, ⟨.slice p k c, 3, 1, k, ((List.range k).map fun (j : Nat) => a + j).map iV⟩)]) ⟨0, a, some ⟨b1_, 0, none⟩, 0⟩ ⟨by omega, Nat.zero_le _⟩ kns (fun w s => by exact s) ?_
 rintro ⟨k, i, p, c⟩ ⟨hi, hk⟩
 show GC _ _ _ _ [(1, iV (a + (n : Int))), (5, .slice p k c), (6, iV i)] _ _ ([]) ([]) ([(50, ⟨.slice p k c, 3, 1, k, ((List.range k).map fun (j : Nat) => a + j).map iV⟩)])
 refine g8 ?_
 refine aB rfl (fun c11_ => ?_) (fun c11_ => ?_)
 ·first | have p11_ := oT c11_ | have p11_ := beq_iff_eq.1 c11_ | have p11_ := bne_iff_ne.1 c11_ | skip
  refine g7 ?_
  refine gL (lU 51 (e := 3) (sz := 1) (by_ := 8) (zs := [iV 0]) dE kR rfl dE dE rfl rfl rfl rfl (fun b2_ => ?_))
  refine gL (cU 50 51 (e := 3) (sz := 1) (by_ := 8) (zs := [iV 0]) dE kR rfl dE rfl rfl rfl rfl ⟨rfl, rfl⟩ ⟨rfl, rfl⟩ aHc sO sO (fun p' c' => ?_))
  refine g9 ?_
  refine aQ ⟨k + 1, i + 1, p', c'⟩ sO ⟨by omega, by omega⟩ kns (fun w s => by exact aCd s rfl (by rw [hi]; exact aFb))
 ·first | have p11_ := oF c11_ | have p11_ := beq_eq_false_iff_ne.1 c11_ | have p11_ := bne_eq_false_iff_eq.1 c11_ | skip
  refine g12 ?_
  refine aT (.inl rfl) rfl (aD rfl) fun w_ s_ => ?_
  obtain rfl : k = n := by omega
  exact ⟨p, c, rfl, s_.toNew (k := 50) rfl⟩
def cat (ls : List (Value × List Int)) (k : Nat) : List Int := ((ls.take k).map (·.2)).flatten
theorem yK {ls : List (Value × List Int)} {k : Nat} {v : Value} {xs : List Int} (h : ls[k]? = some (v, xs)) : cat ls (k + 1) = cat ls k ++ xs := by
 unfold cat
 rw [List.take_add_one, h]
 simp
theorem aHu (ls : List (Value × List Int)) (k : Nat) : (cat ls k).length ≤ (cat ls ls.length).length := by
 unfold cat
 rw [List.take_length]
 conv => rhs; rw [← List.take_append_drop k ls]
 rw [List.map_append, List.flatten_append, List.length_append]
 omega
theorem aDq {k : Nat} {ls : List (Value × List Int)} {xs : List Int} {v : Value} (h : ls[k]? = some (v, xs)) : (cat ls k).map iV ++ xs.map iV = (cat ls (k + 1)).map iV := by rw [yK h, List.map_append]
theorem aD2 {F : Nat → Prop} {w0 w : World} {B : LN} {H : LV} {S : LS} {k : Nat} {p : Option Addr} {c : Nat} {e : TypeId} {sz n m : Nat} {xs ys : List Value} (s : Sees F w0 B H S w) (hk : lkp k S = some ⟨.slice p n c, e, sz, n, xs⟩) (hn : n = m) (hx : xs = ys) : Sees F w0 [] [] [(k, ⟨.slice p m c, e, sz, m, ys⟩)] w := by
 subst hn hx; exact s.only hk
theorem jY {w w' : World} {p : Option Addr} {c : Nat} {e : TypeId} {sz n m : Nat} {xs ys : List Value} (h : fL w w' (.slice p n c) e sz n xs) (e0 : n = m) (e1 : xs = ys) : fL w w' (.slice p m c) e sz m ys := by
 subst e0 e1; exact h
theorem iI (ls : List (Value × List Int)) (b o c : Nat) (hl : (cat ls ls.length).length ≤ 1000000) (hn : ls.length ≤ 1000) (w : World) (h : Lists w b o ls) : Calls Tryz.prog 108 #[.slice (some ⟨b, o, none⟩) ls.length c] w fun e w' => ∃ p c, e = .returned (.slice p (cat ls ls.length).length c) ∧ fL w w' (.slice p (cat ls ls.length).length c) 3 1 (cat ls ls.length).length ((cat ls ls.length).map iV) := by
 refine aI (args := [.slice (some ⟨b, o, none⟩) ls.length c]) (L := [(0, .slice (some ⟨b, o, none⟩) ls.length c)]) (N := 18) Tryz.func108 rfl rfl ble rfl (sS w) ?_
 refine g7 ?_
 refine gL (wY 50 (e := 3) (sz := 1) dE kW rfl (fun b1_ hbb1_ => ?_))
 refine g12 ?_
 refine bJ (ι := (Nat) × (Option Addr) × (Nat)) (fun | ⟨k, p, ca⟩ => ls.length - k) (fun | ⟨k, p, ca⟩ => (k ≤ ls.length)) (fun | ⟨k, p, ca⟩ => [(3, .slice p (cat ls k).length ca), (7, .slice (some ⟨b, o, none⟩) ls.length c), (8, iV (ls.length)), (9, iV k)]) (fun | ⟨k, p, ca⟩ => []) (fun | ⟨k, p, ca⟩ => []) (fun | ⟨k, p, ca⟩ => [(50, ⟨.slice p (cat ls k).length ca, 3, 1, (cat ls k).length, (cat ls k).map iV⟩)]) ⟨0, some ⟨b1_, 0, none⟩, 0⟩ (Nat.zero_le _) kns (fun w s => by exact s) ?_
 rintro ⟨k, p, ca⟩ hk
 show GC _ _ _ _ [(3, .slice p (cat ls k).length ca), (7, .slice (some ⟨b, o, none⟩) ls.length c), (8, iV (ls.length)), (9, iV k)] _ _ ([]) ([]) ([(50, ⟨.slice p (cat ls k).length ca, 3, 1, (cat ls k).length, (cat ls k).map iV⟩)])
 refine g6 ?_
 refine aB rfl (fun hc1 => ?_) (fun hc2 => ?_)
 ·have hlt : k < ls.length := by have := oT hc1; omega
  obtain ⟨v, xs, hx⟩ : ∃ v xs, ls[k]? = some (v, xs) := ⟨_, _, List.getElem?_eq_getElem hlt⟩
  obtain ⟨hcell, ⟨p2, c2, rfl, hcs⟩, hne⟩ := h.get hx
  obtain ⟨x0, hx0⟩ : ∃ x0, xs[0]? = some x0 := ⟨_, List.getElem?_eq_getElem (List.length_pos_iff.2 hne)⟩
  obtain ⟨b2, o2, rfl, _⟩ := hcs 0 x0 hx0
  have hcl := aHu ls (k + 1)
  have hcs2 := yK hx
  have hlen : (cat ls (k + 1)).length = (cat ls k).length + xs.length := by rw [hcs2, List.length_append]
  refine g6 ?_
  refine rl (aF (e := 24) (n := 1) kR rfl rfl oM oM) ?_
  refine rl (fK rfl (v := .slice (some ⟨b2, o2, none⟩) xs.length c2) (by rw [← hcell]; congr 2; omega) (fun h => h) kR) ?_
  refine g6 ?_
  refine gL (oI 50 (e := 3) (sz := 1) (by_ := 8) (zs := [iV 0]) (ys := xs.map iV) dE kR rfl dE rfl rfl rfl ⟨rfl, rfl⟩ (by simp) (fun w_ s_ i u hu => (by rw [List.getElem?_map] at hu; obtain ⟨x, hx1, rfl⟩ := Option.map_eq_some_iff.1 hu; obtain ⟨b3, o3, e3, hc3⟩ := hcs i x hx1; cases e3; exact s_.aJ8 hc3 (fun h => h))) f9 sO sO (fun p' c' => ?_))
  refine g8 ?_
  refine aQ ⟨k + 1, p', c'⟩ sO (show k + 1 ≤ ls.length by omega) (fun a q => q.cons (by exact congrArg (fun n => some (Value.slice p' n c')) hlen.symm) (q.cons rfl (q.cons rfl (q.cons rfl q.nil)))) (fun w s => by exact aD2 s rfl hlen.symm (aDq hx))
 ·have hge : ¬ k < ls.length := by have := oF hc2; omega
  refine g12 ?_
  refine aT (.inl rfl) rfl (aD rfl) fun w_ s_ => ?_
  obtain rfl : k = ls.length := by omega
  exact ⟨p, ca, rfl, s_.toNew (k := 50) rfl⟩
theorem uM (w : World) : Calls Tryz.prog 87 #[] w fun e w' => ∃ p c, e = .returned (.slice p 373 c) ∧ fL w w' (.slice p 373 c) 3 1 373 (lQ.map iV) := by
 refine aI (args := []) (L := []) (N := 16) Tryz.func87 rfl rfl ble rfl (sS w) ?_
 refine g7 ?_
 refine gL (bK 50 (e := 3) (sz := 1) (n := 31) (xs := (List.replicate 31 (1 : Int)).map iV) dE kR rfl (fun w_ s_ => d8 1 31 dE w_) (fun p50 c50 => ?_))
 refine gL (bK 51 (e := 3) (sz := 1) (n := 29) (xs := (List.replicate 29 (2 : Int)).map iV) dE kR rfl (fun w_ s_ => d8 2 29 dE w_) (fun p51 c51 => ?_))
 refine gL (bK 52 (e := 3) (sz := 1) (n := 31) (xs := (List.replicate 31 (3 : Int)).map iV) dE kR rfl (fun w_ s_ => d8 3 31 dE w_) (fun p52 c52 => ?_))
 refine gL (bK 53 (e := 3) (sz := 1) (n := 30) (xs := (List.replicate 30 (4 : Int)).map iV) dE kR rfl (fun w_ s_ => d8 4 30 dE w_) (fun p53 c53 => ?_))
 refine gL (bK 54 (e := 3) (sz := 1) (n := 31) (xs := (List.replicate 31 (5 : Int)).map iV) dE kR rfl (fun w_ s_ => d8 5 31 dE w_) (fun p54 c54 => ?_))
 refine gL (bK 55 (e := 3) (sz := 1) (n := 30) (xs := (List.replicate 30 (6 : Int)).map iV) dE kR rfl (fun w_ s_ => d8 6 30 dE w_) (fun p55 c55 => ?_))
 refine gL (bK 56 (e := 3) (sz := 1) (n := 31) (xs := (List.replicate 31 (7 : Int)).map iV) dE kR rfl (fun w_ s_ => d8 7 31 dE w_) (fun p56 c56 => ?_))
 refine gL (bK 57 (e := 3) (sz := 1) (n := 31) (xs := (List.replicate 31 (8 : Int)).map iV) dE kR rfl (fun w_ s_ => d8 8 31 dE w_) (fun p57 c57 => ?_))
 refine gL (bK 58 (e := 3) (sz := 1) (n := 30) (xs := (List.replicate 30 (9 : Int)).map iV) dE kR rfl (fun w_ s_ => d8 9 30 dE w_) (fun p58 c58 => ?_))
 refine gL (bK 59 (e := 3) (sz := 1) (n := 31) (xs := (List.replicate 31 (10 : Int)).map iV) dE kR rfl (fun w_ s_ => d8 10 31 dE w_) (fun p59 c59 => ?_))
 refine gL (bK 60 (e := 3) (sz := 1) (n := 30) (xs := (List.replicate 30 (11 : Int)).map iV) dE kR rfl (fun w_ s_ => d8 11 30 dE w_) (fun p60 c60 => ?_))
 refine gL (bK 61 (e := 3) (sz := 1) (n := 31) (xs := (List.replicate 31 (12 : Int)).map iV) dE kR rfl (fun w_ s_ => d8 12 31 dE w_) (fun p61 c61 => ?_))
 refine gL (bK 62 (e := 3) (sz := 1) (n := 7) (xs := (List.replicate 7 (1 : Int)).map iV) dE kR rfl (fun w_ s_ => d8 1 7 dE w_) (fun p62 c62 => ?_))
 refine gL (eG 63 (e := 24) (sz := 1) (n := 13) (vs := [(0, .slice p50 31 c50), (1, .slice p51 29 c51), (2, .slice p52 31 c52), (3, .slice p53 30 c53), (4, .slice p54 31 c54), (5, .slice p55 30 c55), (6, .slice p56 31 c56), (7, .slice p57 31 c57), (8, .slice p58 30 c58), (9, .slice p59 31 c59), (10, .slice p60 30 c60), (11, .slice p61 31 c61), (12, .slice p62 7 c62)]) (cs := [.slice p50 31 c50, .slice p51 29 c51, .slice p52 31 c52, .slice p53 30 c53, .slice p54 31 c54, .slice p55 30 c55, .slice p56 31 c56, .slice p57 31 c57, .slice p58 30 c58, .slice p59 31 c59, .slice p60 30 c60, .slice p61 31 c61, .slice p62 7 c62]) dE rfl kW rfl dE dE rfl (fun b1_ hbb1_ => ?_))
 refine gL (bK 64 (e := 3) (sz := 1) (n := (cat [(.slice p50 31 c50, List.replicate 31 1), (.slice p51 29 c51, List.replicate 29 2), (.slice p52 31 c52, List.replicate 31 3), (.slice p53 30 c53, List.replicate 30 4), (.slice p54 31 c54, List.replicate 31 5), (.slice p55 30 c55, List.replicate 30 6), (.slice p56 31 c56, List.replicate 31 7), (.slice p57 31 c57, List.replicate 31 8), (.slice p58 30 c58, List.replicate 30 9), (.slice p59 31 c59, List.replicate 31 10), (.slice p60 30 c60, List.replicate 30 11), (.slice p61 31 c61, List.replicate 31 12), (.slice p62 7 c62, List.replicate 7 1)] 13).length) (xs := (cat [(.slice p50 31 c50, List.replicate 31 1), (.slice p51 29 c51, List.replicate 29 2), (.slice p52 31 c52, List.replicate 31 3), (.slice p53 30 c53, List.replicate 30 4), (.slice p54 31 c54, List.replicate 31 5), (.slice p55 30 c55, List.replicate 30 6), (.slice p56 31 c56, List.replicate 31 7), (.slice p57 31 c57, List.replicate 31 8), (.slice p58 30 c58, List.replicate 30 9), (.slice p59 31 c59, List.replicate 31 10), (.slice p60 30 c60, List.replicate 30 11), (.slice p61 31 c61, List.replicate 31 12), (.slice p62 7 c62, List.replicate 7 1)] 13).map iV) dE kR rfl (fun w_ s_ => iI [(.slice p50 31 c50, List.replicate 31 1), (.slice p51 29 c51, List.replicate 29 2), (.slice p52 31 c52, List.replicate 31 3), (.slice p53 30 c53, List.replicate 30 4), (.slice p54 31 c54, List.replicate 31 5), (.slice p55 30 c55, List.replicate 30 6), (.slice p56 31 c56, List.replicate 31 7), (.slice p57 31 c57, List.replicate 31 8), (.slice p58 30 c58, List.replicate 30 9), (.slice p59 31 c59, List.replicate 31 10), (.slice p60 30 c60, List.replicate 30 11), (.slice p61 31 c61, List.replicate 31 12), (.slice p62 7 c62, List.replicate 7 1)] _ 0 13 (Nat.le_of_ble_eq_true kR) (Nat.le_of_ble_eq_true kR) w_ ⟨s_.aJ5 (k := 63) (o := 0) rfl rfl rfl, s_.ints 50 rfl, by decide, s_.aJ5 (k := 63) (o := 1) rfl rfl rfl, s_.ints 51 rfl, by decide, s_.aJ5 (k := 63) (o := 2) rfl rfl rfl, s_.ints 52 rfl, by decide, s_.aJ5 (k := 63) (o := 3) rfl rfl rfl, s_.ints 53 rfl, by decide, s_.aJ5 (k := 63) (o := 4) rfl rfl rfl, s_.ints 54 rfl, by decide, s_.aJ5 (k := 63) (o := 5) rfl rfl rfl, s_.ints 55 rfl, by decide, s_.aJ5 (k := 63) (o := 6) rfl rfl rfl, s_.ints 56 rfl, by decide, s_.aJ5 (k := 63) (o := 7) rfl rfl rfl, s_.ints 57 rfl, by decide, s_.aJ5 (k := 63) (o := 8) rfl rfl rfl, s_.ints 58 rfl, by decide, s_.aJ5 (k := 63) (o := 9) rfl rfl rfl, s_.ints 59 rfl, by decide, s_.aJ5 (k := 63) (o := 10) rfl rfl rfl, s_.ints 60 rfl, by decide, s_.aJ5 (k := 63) (o := 11) rfl rfl rfl, s_.ints 61 rfl, by decide, s_.aJ5 (k := 63) (o := 12) rfl rfl rfl, s_.ints 62 rfl, by decide, trivial⟩) (fun p64 c64 => ?_))
 refine g4 ?_
 refine aT (.inl rfl) rfl (aD rfl) fun w_ s_ => ?_
 exact ⟨_, _, rfl, jY (s_.toNew (k := 64) rfl) (by rfl) (congrArg (List.map _) (by rfl))⟩
theorem oP (w : World) : Calls Tryz.prog 88 #[] w fun e w' => ∃ p c, e = .returned (.slice p 373 c) ∧ fL w w' (.slice p 373 c) 3 1 373 (lP.map iV) := by
 refine aI (args := []) (L := []) (N := 23) Tryz.func88 rfl rfl ble rfl (sS w) ?_
 refine g7 ?_
 refine gL (bK 50 (e := 3) (sz := 1) (n := 29) (xs := (lR 29 (1)).map iV) dE kR rfl (fun w_ s_ => jV (1) 29 dE dE w_) (fun p50 c50 => ?_))
 refine gL (bK 51 (e := 3) (sz := 1) (n := 30) (xs := (lR 30 (1)).map iV) dE kR rfl (fun w_ s_ => jV (1) 30 dE dE w_) (fun p51 c51 => ?_))
 refine gL (bK 52 (e := 3) (sz := 1) (n := 31) (xs := (lR 31 (1)).map iV) dE kR rfl (fun w_ s_ => jV (1) 31 dE dE w_) (fun p52 c52 => ?_))
 refine g6 ?_
 refine eA (fun w s => s.head 52 rfl dE) fun hcap => ?_
 obtain ⟨q52, -, hcap⟩ := hcap
 refine g14 ?_
 refine rl (dX (e := 3) (n := 1) kR rfl rfl oM oM) ?_
 refine gL (eG 53 (e := 24) (sz := 1) (n := 13) (vs := [(0, .slice p52 31 c52), (1, .slice p50 29 c50), (2, .slice p52 31 c52), (3, .slice p51 30 c51), (4, .slice p52 31 c52), (5, .slice p51 30 c51), (6, .slice p52 31 c52), (7, .slice p52 31 c52), (8, .slice p51 30 c51), (9, .slice p52 31 c52), (10, .slice p51 30 c51), (11, .slice p52 31 c52), (12, .slice p52 7 c52)]) (cs := [.slice p52 31 c52, .slice p50 29 c50, .slice p52 31 c52, .slice p51 30 c51, .slice p52 31 c52, .slice p51 30 c51, .slice p52 31 c52, .slice p52 31 c52, .slice p51 30 c51, .slice p52 31 c52, .slice p51 30 c51, .slice p52 31 c52, .slice p52 7 c52]) dE rfl kW rfl dE dE rfl (fun b1_ hbb1_ => ?_))
 refine gL (bK 64 (e := 3) (sz := 1) (n := (cat [(.slice p52 31 c52, (lR 31 (1))), (.slice p50 29 c50, (lR 29 (1))), (.slice p52 31 c52, (lR 31 (1))), (.slice p51 30 c51, (lR 30 (1))), (.slice p52 31 c52, (lR 31 (1))), (.slice p51 30 c51, (lR 30 (1))), (.slice p52 31 c52, (lR 31 (1))), (.slice p52 31 c52, (lR 31 (1))), (.slice p51 30 c51, (lR 30 (1))), (.slice p52 31 c52, (lR 31 (1))), (.slice p51 30 c51, (lR 30 (1))), (.slice p52 31 c52, (lR 31 (1))), (.slice p52 7 c52, (lR 31 (1)).take 7)] 13).length) (xs := (cat [(.slice p52 31 c52, (lR 31 (1))), (.slice p50 29 c50, (lR 29 (1))), (.slice p52 31 c52, (lR 31 (1))), (.slice p51 30 c51, (lR 30 (1))), (.slice p52 31 c52, (lR 31 (1))), (.slice p51 30 c51, (lR 30 (1))), (.slice p52 31 c52, (lR 31 (1))), (.slice p52 31 c52, (lR 31 (1))), (.slice p51 30 c51, (lR 30 (1))), (.slice p52 31 c52, (lR 31 (1))), (.slice p51 30 c51, (lR 30 (1))), (.slice p52 31 c52, (lR 31 (1))), (.slice p52 7 c52, (lR 31 (1)).take 7)] 13).map iV) dE kR rfl (fun w_ s_ => iI [(.slice p52 31 c52, (lR 31 (1))), (.slice p50 29 c50, (lR 29 (1))), (.slice p52 31 c52, (lR 31 (1))), (.slice p51 30 c51, (lR 30 (1))), (.slice p52 31 c52, (lR 31 (1))), (.slice p51 30 c51, (lR 30 (1))), (.slice p52 31 c52, (lR 31 (1))), (.slice p52 31 c52, (lR 31 (1))), (.slice p51 30 c51, (lR 30 (1))), (.slice p52 31 c52, (lR 31 (1))), (.slice p51 30 c51, (lR 30 (1))), (.slice p52 31 c52, (lR 31 (1))), (.slice p52 7 c52, (lR 31 (1)).take 7)] _ 0 13 (Nat.le_of_ble_eq_true kR) (Nat.le_of_ble_eq_true kR) w_ ⟨s_.aJ5 (k := 53) (o := 0) rfl rfl rfl, s_.ints 52 rfl, by decide, s_.aJ5 (k := 53) (o := 1) rfl rfl rfl, s_.ints 50 rfl, by decide, s_.aJ5 (k := 53) (o := 2) rfl rfl rfl, s_.ints 52 rfl, by decide, s_.aJ5 (k := 53) (o := 3) rfl rfl rfl, s_.ints 51 rfl, by decide, s_.aJ5 (k := 53) (o := 4) rfl rfl rfl, s_.ints 52 rfl, by decide, s_.aJ5 (k := 53) (o := 5) rfl rfl rfl, s_.ints 51 rfl, by decide, s_.aJ5 (k := 53) (o := 6) rfl rfl rfl, s_.ints 52 rfl, by decide, s_.aJ5 (k := 53) (o := 7) rfl rfl rfl, s_.ints 52 rfl, by decide, s_.aJ5 (k := 53) (o := 8) rfl rfl rfl, s_.ints 51 rfl, by decide, s_.aJ5 (k := 53) (o := 9) rfl rfl rfl, s_.ints 52 rfl, by decide, s_.aJ5 (k := 53) (o := 10) rfl rfl rfl, s_.ints 51 rfl, by decide, s_.aJ5 (k := 53) (o := 11) rfl rfl rfl, s_.ints 52 rfl, by decide, s_.aJ5 (k := 53) (o := 12) rfl rfl rfl, (s_.ints 52 rfl).take dE, by decide, trivial⟩) (fun p64 c64 => ?_))
 refine g4 ?_
 refine aT (.inl rfl) rfl (aD rfl) fun w_ s_ => ?_
 exact ⟨_, _, rfl, jY (s_.toNew (k := 64) rfl) (by rfl) (congrArg (List.map _) (by rfl))⟩
theorem m8 (w : World) : Calls Tryz.prog 89 #[] w fun e w' => ∃ p c, e = .returned (.slice p 373 c) ∧ fL w w' (.slice p 373 c) 3 1 373 (jE.map iV) := by
 refine aI (args := []) (L := []) (N := 23) Tryz.func89 rfl rfl ble rfl (sS w) ?_
 refine g7 ?_
 refine gL (bK 50 (e := 3) (sz := 1) (n := 29) (xs := (lR 29 (-29)).map iV) dE kR rfl (fun w_ s_ => jV (-29) 29 dE dE w_) (fun p50 c50 => ?_))
 refine gL (bK 51 (e := 3) (sz := 1) (n := 30) (xs := (lR 30 (-30)).map iV) dE kR rfl (fun w_ s_ => jV (-30) 30 dE dE w_) (fun p51 c51 => ?_))
 refine gL (bK 52 (e := 3) (sz := 1) (n := 31) (xs := (lR 31 (-31)).map iV) dE kR rfl (fun w_ s_ => jV (-31) 31 dE dE w_) (fun p52 c52 => ?_))
 refine g6 ?_
 refine eA (fun w s => s.head 52 rfl dE) fun hcap => ?_
 obtain ⟨q52, -, hcap⟩ := hcap
 refine g14 ?_
 refine rl (dX (e := 3) (n := 1) kR rfl rfl oM oM) ?_
 refine gL (eG 53 (e := 24) (sz := 1) (n := 13) (vs := [(0, .slice p52 31 c52), (1, .slice p50 29 c50), (2, .slice p52 31 c52), (3, .slice p51 30 c51), (4, .slice p52 31 c52), (5, .slice p51 30 c51), (6, .slice p52 31 c52), (7, .slice p52 31 c52), (8, .slice p51 30 c51), (9, .slice p52 31 c52), (10, .slice p51 30 c51), (11, .slice p52 31 c52), (12, .slice p52 7 c52)]) (cs := [.slice p52 31 c52, .slice p50 29 c50, .slice p52 31 c52, .slice p51 30 c51, .slice p52 31 c52, .slice p51 30 c51, .slice p52 31 c52, .slice p52 31 c52, .slice p51 30 c51, .slice p52 31 c52, .slice p51 30 c51, .slice p52 31 c52, .slice p52 7 c52]) dE rfl kW rfl dE dE rfl (fun b1_ hbb1_ => ?_))
 refine gL (bK 64 (e := 3) (sz := 1) (n := (cat [(.slice p52 31 c52, (lR 31 (-31))), (.slice p50 29 c50, (lR 29 (-29))), (.slice p52 31 c52, (lR 31 (-31))), (.slice p51 30 c51, (lR 30 (-30))), (.slice p52 31 c52, (lR 31 (-31))), (.slice p51 30 c51, (lR 30 (-30))), (.slice p52 31 c52, (lR 31 (-31))), (.slice p52 31 c52, (lR 31 (-31))), (.slice p51 30 c51, (lR 30 (-30))), (.slice p52 31 c52, (lR 31 (-31))), (.slice p51 30 c51, (lR 30 (-30))), (.slice p52 31 c52, (lR 31 (-31))), (.slice p52 7 c52, (lR 31 (-31)).take 7)] 13).length) (xs := (cat [(.slice p52 31 c52, (lR 31 (-31))), (.slice p50 29 c50, (lR 29 (-29))), (.slice p52 31 c52, (lR 31 (-31))), (.slice p51 30 c51, (lR 30 (-30))), (.slice p52 31 c52, (lR 31 (-31))), (.slice p51 30 c51, (lR 30 (-30))), (.slice p52 31 c52, (lR 31 (-31))), (.slice p52 31 c52, (lR 31 (-31))), (.slice p51 30 c51, (lR 30 (-30))), (.slice p52 31 c52, (lR 31 (-31))), (.slice p51 30 c51, (lR 30 (-30))), (.slice p52 31 c52, (lR 31 (-31))), (.slice p52 7 c52, (lR 31 (-31)).take 7)] 13).map iV) dE kR rfl (fun w_ s_ => iI [(.slice p52 31 c52, (lR 31 (-31))), (.slice p50 29 c50, (lR 29 (-29))), (.slice p52 31 c52, (lR 31 (-31))), (.slice p51 30 c51, (lR 30 (-30))), (.slice p52 31 c52, (lR 31 (-31))), (.slice p51 30 c51, (lR 30 (-30))), (.slice p52 31 c52, (lR 31 (-31))), (.slice p52 31 c52, (lR 31 (-31))), (.slice p51 30 c51, (lR 30 (-30))), (.slice p52 31 c52, (lR 31 (-31))), (.slice p51 30 c51, (lR 30 (-30))), (.slice p52 31 c52, (lR 31 (-31))), (.slice p52 7 c52, (lR 31 (-31)).take 7)] _ 0 13 (Nat.le_of_ble_eq_true kR) (Nat.le_of_ble_eq_true kR) w_ ⟨s_.aJ5 (k := 53) (o := 0) rfl rfl rfl, s_.ints 52 rfl, by decide, s_.aJ5 (k := 53) (o := 1) rfl rfl rfl, s_.ints 50 rfl, by decide, s_.aJ5 (k := 53) (o := 2) rfl rfl rfl, s_.ints 52 rfl, by decide, s_.aJ5 (k := 53) (o := 3) rfl rfl rfl, s_.ints 51 rfl, by decide, s_.aJ5 (k := 53) (o := 4) rfl rfl rfl, s_.ints 52 rfl, by decide, s_.aJ5 (k := 53) (o := 5) rfl rfl rfl, s_.ints 51 rfl, by decide, s_.aJ5 (k := 53) (o := 6) rfl rfl rfl, s_.ints 52 rfl, by decide, s_.aJ5 (k := 53) (o := 7) rfl rfl rfl, s_.ints 52 rfl, by decide, s_.aJ5 (k := 53) (o := 8) rfl rfl rfl, s_.ints 51 rfl, by decide, s_.aJ5 (k := 53) (o := 9) rfl rfl rfl, s_.ints 52 rfl, by decide, s_.aJ5 (k := 53) (o := 10) rfl rfl rfl, s_.ints 51 rfl, by decide, s_.aJ5 (k := 53) (o := 11) rfl rfl rfl, s_.ints 52 rfl, by decide, s_.aJ5 (k := 53) (o := 12) rfl rfl rfl, (s_.ints 52 rfl).take dE, by decide, trivial⟩) (fun p64 c64 => ?_))
 refine g4 ?_
 refine aT (.inl rfl) rfl (aD rfl) fun w_ s_ => ?_
 exact ⟨_, _, rfl, jY (s_.toNew (k := 64) rfl) (by rfl) (congrArg (List.map _) (by rfl))⟩
theorem aAk (w : World) : Calls Tryz.prog 83 #[] w fun e w' => ∃ p c, e = .returned (.slice p 372 c) ∧ fL w w' (.slice p 372 c) 3 1 372 (zC.map iV) := by
 refine aI (args := []) (L := []) (N := 9) Tryz.func83 rfl rfl ble rfl (sS w) ?_
 refine g7 ?_
 refine gL (bK 50 (e := 3) (sz := 1) (n := 373) (xs := lQ.map iV) dE kR rfl (fun w_ s_ => uM w_) (fun p50 c50 => ?_))
 refine g4 ?_
 refine eA (fun w s => s.head 50 rfl dE) fun hcap => ?_
 obtain ⟨b50, rfl, hcap⟩ := hcap
 refine dL 4 kR kR ?_
 refine g1 ?_
 refine rt (dX (e := 3) (n := 1) kR rfl rfl oM oM) ?_
 refine g1 ?_
 refine rt (hU (e := 3) (n := 1) kR rfl rfl oM oM oM) ?_
 refine g1 ?_
 refine gL (eG 51 (e := 24) (sz := 1) (n := 2) (vs := [(0, sL b50 59 c50), (1, .slice (some ⟨b50, 0 + (60 : Int).toNat * 1, none⟩) (373 - (60 : Int).toNat) (c50 - (60 : Int).toNat))]) (cs := [sL b50 59 c50, .slice (some ⟨b50, 0 + (60 : Int).toNat * 1, none⟩) (373 - (60 : Int).toNat) (c50 - (60 : Int).toNat)]) dE rfl kW rfl dE dE rfl (fun b1_ hbb1_ => ?_))
 refine gL (bK 64 (e := 3) (sz := 1) (n := (cat [(sL b50 59 c50, lQ.take 59), (.slice (some ⟨b50, 0 + (60 : Int).toNat * 1, none⟩) (373 - (60 : Int).toNat) (c50 - (60 : Int).toNat), lQ.drop 60)] 2).length) (xs := (cat [(sL b50 59 c50, lQ.take 59), (.slice (some ⟨b50, 0 + (60 : Int).toNat * 1, none⟩) (373 - (60 : Int).toNat) (c50 - (60 : Int).toNat), lQ.drop 60)] 2).map iV) dE kR rfl (fun w_ s_ => iI [(sL b50 59 c50, lQ.take 59), (.slice (some ⟨b50, 0 + (60 : Int).toNat * 1, none⟩) (373 - (60 : Int).toNat) (c50 - (60 : Int).toNat), lQ.drop 60)] _ 0 2 (Nat.le_of_ble_eq_true kR) (Nat.le_of_ble_eq_true kR) w_ ⟨s_.aJ5 (k := 51) (o := 0) rfl rfl rfl, (s_.ints 50 rfl).take dE, by decide, s_.aJ5 (k := 51) (o := 1) rfl rfl rfl, (s_.ints 50 rfl).from 60, by decide, trivial⟩) (fun p64 c64 => ?_))
 refine g4 ?_
 refine aT (.inl rfl) rfl (aD rfl) fun w_ s_ => ?_
 exact ⟨_, _, rfl, jY (s_.toNew (k := 64) rfl) (by rfl) (congrArg (List.map _) (by rfl))⟩
theorem vB (w : World) : Calls Tryz.prog 84 #[] w fun e w' => ∃ p c, e = .returned (.slice p 372 c) ∧ fL w w' (.slice p 372 c) 3 1 372 (zG.map iV) := by
 refine aI (args := []) (L := []) (N := 9) Tryz.func84 rfl rfl ble rfl (sS w) ?_
 refine g7 ?_
 refine gL (bK 50 (e := 3) (sz := 1) (n := 373) (xs := lP.map iV) dE kR rfl (fun w_ s_ => oP w_) (fun p50 c50 => ?_))
 refine g4 ?_
 refine eA (fun w s => s.head 50 rfl dE) fun hcap => ?_
 obtain ⟨b50, rfl, hcap⟩ := hcap
 refine dL 4 kR kR ?_
 refine g1 ?_
 refine rt (dX (e := 3) (n := 1) kR rfl rfl oM oM) ?_
 refine g1 ?_
 refine rt (hU (e := 3) (n := 1) kR rfl rfl oM oM oM) ?_
 refine g1 ?_
 refine gL (eG 51 (e := 24) (sz := 1) (n := 2) (vs := [(0, sL b50 59 c50), (1, .slice (some ⟨b50, 0 + (60 : Int).toNat * 1, none⟩) (373 - (60 : Int).toNat) (c50 - (60 : Int).toNat))]) (cs := [sL b50 59 c50, .slice (some ⟨b50, 0 + (60 : Int).toNat * 1, none⟩) (373 - (60 : Int).toNat) (c50 - (60 : Int).toNat)]) dE rfl kW rfl dE dE rfl (fun b1_ hbb1_ => ?_))
 refine gL (bK 64 (e := 3) (sz := 1) (n := (cat [(sL b50 59 c50, lP.take 59), (.slice (some ⟨b50, 0 + (60 : Int).toNat * 1, none⟩) (373 - (60 : Int).toNat) (c50 - (60 : Int).toNat), lP.drop 60)] 2).length) (xs := (cat [(sL b50 59 c50, lP.take 59), (.slice (some ⟨b50, 0 + (60 : Int).toNat * 1, none⟩) (373 - (60 : Int).toNat) (c50 - (60 : Int).toNat), lP.drop 60)] 2).map iV) dE kR rfl (fun w_ s_ => iI [(sL b50 59 c50, lP.take 59), (.slice (some ⟨b50, 0 + (60 : Int).toNat * 1, none⟩) (373 - (60 : Int).toNat) (c50 - (60 : Int).toNat), lP.drop 60)] _ 0 2 (Nat.le_of_ble_eq_true kR) (Nat.le_of_ble_eq_true kR) w_ ⟨s_.aJ5 (k := 51) (o := 0) rfl rfl rfl, (s_.ints 50 rfl).take dE, by decide, s_.aJ5 (k := 51) (o := 1) rfl rfl rfl, (s_.ints 50 rfl).from 60, by decide, trivial⟩) (fun p64 c64 => ?_))
 refine g4 ?_
 refine aT (.inl rfl) rfl (aD rfl) fun w_ s_ => ?_
 exact ⟨_, _, rfl, jY (s_.toNew (k := 64) rfl) (by rfl) (congrArg (List.map _) (by rfl))⟩
theorem sZ (w : World) : Calls Tryz.prog 85 #[] w fun e w' => ∃ p c, e = .returned (.slice p 372 c) ∧ fL w w' (.slice p 372 c) 3 1 372 (s7.map iV) := by
 refine aI (args := []) (L := []) (N := 9) Tryz.func85 rfl rfl ble rfl (sS w) ?_
 refine g7 ?_
 refine gL (bK 50 (e := 3) (sz := 1) (n := 373) (xs := jE.map iV) dE kR rfl (fun w_ s_ => m8 w_) (fun p50 c50 => ?_))
 refine g4 ?_
 refine eA (fun w s => s.head 50 rfl dE) fun hcap => ?_
 obtain ⟨b50, rfl, hcap⟩ := hcap
 refine dL 4 kR kR ?_
 refine g1 ?_
 refine rt (dX (e := 3) (n := 1) kR rfl rfl oM oM) ?_
 refine g1 ?_
 refine rt (hU (e := 3) (n := 1) kR rfl rfl oM oM oM) ?_
 refine g1 ?_
 refine gL (eG 51 (e := 24) (sz := 1) (n := 2) (vs := [(0, sL b50 31 c50), (1, .slice (some ⟨b50, 0 + (32 : Int).toNat * 1, none⟩) (373 - (32 : Int).toNat) (c50 - (32 : Int).toNat))]) (cs := [sL b50 31 c50, .slice (some ⟨b50, 0 + (32 : Int).toNat * 1, none⟩) (373 - (32 : Int).toNat) (c50 - (32 : Int).toNat)]) dE rfl kW rfl dE dE rfl (fun b1_ hbb1_ => ?_))
 refine gL (bK 64 (e := 3) (sz := 1) (n := (cat [(sL b50 31 c50, jE.take 31), (.slice (some ⟨b50, 0 + (32 : Int).toNat * 1, none⟩) (373 - (32 : Int).toNat) (c50 - (32 : Int).toNat), jE.drop 32)] 2).length) (xs := (cat [(sL b50 31 c50, jE.take 31), (.slice (some ⟨b50, 0 + (32 : Int).toNat * 1, none⟩) (373 - (32 : Int).toNat) (c50 - (32 : Int).toNat), jE.drop 32)] 2).map iV) dE kR rfl (fun w_ s_ => iI [(sL b50 31 c50, jE.take 31), (.slice (some ⟨b50, 0 + (32 : Int).toNat * 1, none⟩) (373 - (32 : Int).toNat) (c50 - (32 : Int).toNat), jE.drop 32)] _ 0 2 (Nat.le_of_ble_eq_true kR) (Nat.le_of_ble_eq_true kR) w_ ⟨s_.aJ5 (k := 51) (o := 0) rfl rfl rfl, (s_.ints 50 rfl).take dE, by decide, s_.aJ5 (k := 51) (o := 1) rfl rfl rfl, (s_.ints 50 rfl).from 32, by decide, trivial⟩) (fun p64 c64 => ?_))
 refine g4 ?_
 refine aT (.inl rfl) rfl (aD rfl) fun w_ s_ => ?_
 exact ⟨_, _, rfl, jY (s_.toNew (k := 64) rfl) (by rfl) (congrArg (List.map _) (by rfl))⟩
theorem aAw (w : World) : Calls Tryz.prog 86 #[] w fun e w' => ∃ p c, e = .returned (.slice p 13 c) ∧ fL w w' (.slice p 13 c) 3 1 13 (([0, 31, 59, 90, 120, 151, 181, 212, 243, 273, 304, 334, 365] : List Int).map iV) := by
 refine aI (args := []) (L := []) (N := 2) Tryz.func86 rfl rfl ble rfl (sS w) ?_
 refine g7 ?_
 refine gL (eG 50 (e := 3) (sz := 1) (n := 13) (vs := [(0, iV 0), (1, iV 31), (2, iV 59), (3, iV 90), (4, iV 120), (5, iV 151), (6, iV 181), (7, iV 212), (8, iV 243), (9, iV 273), (10, iV 304), (11, iV 334), (12, iV 365)]) (cs := [iV 0, iV 31, iV 59, iV 90, iV 120, iV 151, iV 181, iV 212, iV 243, iV 273, iV 304, iV 334, iV 365]) dE rfl kW rfl dE dE rfl (fun b1_ hbb1_ => ?_))
 refine g4 ?_
 refine aT (.inl rfl) rfl (aD rfl) fun w_ s_ => ?_
 exact ⟨_, _, rfl, s_.toNew (k := 50) rfl⟩
theorem aBc (w : World) : Calls Tryz.prog 90 #[] w fun e w' => ∃ p c, e = .returned (.slice p 13 c) ∧ fL w w' (.slice p 13 c) 3 1 13 (([0, 31, 60, 91, 121, 152, 182, 213, 244, 274, 305, 335, 366] : List Int).map iV) := by
 refine aI (args := []) (L := []) (N := 2) Tryz.func90 rfl rfl ble rfl (sS w) ?_
 refine g7 ?_
 refine gL (eG 50 (e := 3) (sz := 1) (n := 13) (vs := [(0, iV 0), (1, iV 31), (2, iV 60), (3, iV 91), (4, iV 121), (5, iV 152), (6, iV 182), (7, iV 213), (8, iV 244), (9, iV 274), (10, iV 305), (11, iV 335), (12, iV 366)]) (cs := [iV 0, iV 31, iV 60, iV 91, iV 121, iV 152, iV 182, iV 213, iV 244, iV 274, iV 305, iV 335, iV 366]) dE rfl kW rfl dE dE rfl (fun b1_ hbb1_ => ?_))
 refine g4 ?_
 refine aT (.inl rfl) rfl (aD rfl) fun w_ s_ => ?_
 exact ⟨_, _, rfl, s_.toNew (k := 50) rfl⟩
theorem aG5 (k : Nat) : (wd k).map iV ++ [iV 0, iV 1, iV 2, iV 3, iV 4, iV 5, iV 6] = (wd (k + 1)).map iV := by
 unfold wd
 rw [List.replicate_succ', List.flatten_append, List.map_append]
 rfl
theorem aId : ∀ u ∈ [iV 0, iV 1, iV 2, iV 3, iV 4, iV 5, iV 6], u.oneCell' = true := by
 intro u hu
 simp only [List.mem_cons, List.not_mem_nil, or_false] at hu
 rcases hu with rfl | rfl | rfl | rfl | rfl | rfl | rfl <;> rfl
theorem uB (w : World) : Calls Tryz.prog 82 #[] w fun e w' => ∃ p c, e = .returned (.slice p 385 c) ∧ fL w w' (.slice p 385 c) 3 1 385 ((wd 55).map iV) := by
 refine aI (args := []) (L := []) (N := 11) Tryz.func82 rfl rfl ble rfl (sS w) ?_
 refine g16 ?_
 refine g1 ?_
 refine bJ (ι := (Nat) × (Option Addr) × (Nat)) (fun | ⟨k, p, c⟩ => 55 - k) (fun | ⟨k, p, c⟩ => (k ≤ 55)) (fun | ⟨k, p, c⟩ => [(1, .slice p (7 * k) c), (2, iV k)]) (fun | ⟨k, p, c⟩ => []) (fun | ⟨k, p, c⟩ => []) (fun | ⟨k, p, c⟩ => [(50, ⟨.slice p (7 * k) c, 3, 1, 7 * k, (wd k).map iV⟩)]) ⟨0, none, 0⟩ (Nat.zero_le _) kns (fun w s => by exact s.aJ6 50 3 1) ?_
 rintro ⟨k, p, c⟩ hk
 show GC _ _ _ _ [(1, .slice p (7 * k) c), (2, iV k)] _ _ ([]) ([]) ([(50, ⟨.slice p (7 * k) c, 3, 1, 7 * k, (wd k).map iV⟩)])
 refine g7 ?_
 refine aB rfl (fun c4_ => ?_) (fun c4_ => ?_)
 ·first | have p4_ := oT c4_ | have p4_ := beq_iff_eq.1 c4_ | have p4_ := bne_iff_ne.1 c4_ | skip
  refine g6 ?_
  refine gL (eG 51 (e := 3) (sz := 1) (n := 7) (vs := [(0, iV 0), (1, iV 1), (2, iV 2), (3, iV 3), (4, iV 4), (5, iV 5), (6, iV 6)]) (cs := [iV 0, iV 1, iV 2, iV 3, iV 4, iV 5, iV 6]) dE rfl kW rfl dE dE rfl (fun b1_ hbb1_ => ?_))
  refine gL (cU 50 51 (e := 3) (sz := 1) (by_ := 8) (zs := [iV 0]) dE kR rfl dE rfl rfl rfl rfl ⟨rfl, rfl⟩ ⟨rfl, rfl⟩ aId sO sO (fun p' c' => ?_))
  refine g9 ?_
  refine aQ ⟨k + 1, p', c'⟩ sO (show k + 1 ≤ 55 by omega) kns (fun w s => by exact aD2 s rfl sO (aG5 k))
 ·first | have p4_ := oF c4_ | have p4_ := beq_eq_false_iff_ne.1 c4_ | have p4_ := bne_eq_false_iff_eq.1 c4_ | skip
  refine g12 ?_
  refine aT (.inl rfl) rfl (aD rfl) fun w_ s_ => ?_
  obtain rfl : k = 55 := by omega
  exact ⟨p, c, rfl, jY (s_.toNew (k := 50) rfl) rfl rfl⟩
theorem rP (y : Int) : Cal.dayNo y 1 1 * 86400 + 0 * 3600 + 0 * 60 + 0 = Cal.daysTo y * 86400 := by
 unfold Cal.dayNo
 show (Cal.daysTo (y + 0) + 0 + 1 - 1) * 86400 + 0 * 3600 + 0 * 60 + 0 = _
 simp only [Int.add_zero]; omega
theorem aD1 (y : Int) : ((Cal.daysTo y * 86400 / 86400 + 1) % 7 + 6) % 7 = ywd y := by unfold ywd; omega
theorem wC {it rb : Nat} (hB : lkp 0 B = some it) (hR : lkp 1 B = some rb) (h7 : lkp (ky 0 7) H = some (pT rb)) {ly lm : Int} (h8 : lkp (ky 0 8) H = some (iV ly)) (h9 : lkp (ky 0 9) H = some (iV lm))
  {p51 p53 p57 : Option Addr} {c51 c53 c57 : Nat} (r51 : lkp (ky 1 51) H = some (.slice p51 0 c51)) (r53 : lkp (ky 1 53) H = some (.slice p53 0 c53)) (r57 : lkp (ky 1 57) H = some (.slice p57 0 c57)) {y m : Int} (hy : y = ly) :
  ∀ w, Sees F w0 B H S w → Calls Tryz.prog 50 #[.pointer (some ⟨it, 7, none⟩), iV y, iV m] w fun e w' => e = .returned (.tuple #[]) ∧ Sees F w0 B ((ky 0 9, iV m) :: (ky 0 8, iV y) :: H) S w' := by
 intro w s
 refine aI (args := [.pointer (some ⟨it, 7, none⟩), iV y, iV m]) (L := [(0, .pointer (some ⟨it, 7, none⟩)), (1, iV y), (2, iV m)]) (N := 638) Tryz.func50 rfl rfl ble rfl s ?_
 refine g6 ?_
 refine rl (rfa 1) ?_
 refine rZ3 (rld 0 rfl hB h8) ?_
 refine aP rfl (jO hy) ?_
 refine g7 ?_
 refine rl (rfa 0) ?_
 refine rZ1 (rld 0 rfl hB h7) ?_
 refine rl (rfa 53) ?_
 refine rZ1 (rld 1 rfl hR r53) ?_
 refine rl ((cJ rfl rfl).to (v' := .bool false) rfl) ?_
 refine g18 ?_
 refine aP rfl rfl ?_
 refine g7 ?_
 refine rl (rfa 0) ?_
 refine rZ1 (rld 0 rfl hB h7) ?_
 refine rl (rfa 57) ?_
 refine rZ1 (rld 1 rfl hR r57) ?_
 refine rl ((cJ rfl rfl).to (v' := .bool false) rfl) ?_
 refine g2 ?_
 refine aP rfl rfl ?_
 refine g7 ?_
 refine rl (rfa 1) ?_
 refine gL (sto 0 rfl rfl hB h8 ?_)
 refine g6 ?_
 refine rl (rfa 2) ?_
 refine gL (sto 0 rfl rfl hB h9 ?_)
 refine g1 ?_
 refine d7 (.inr rfl) rfl fun w s => ⟨rfl, s⟩
def sK (e : Ending) (F : Nat → Prop) (w0 : World) (B : LN) (H : LV) (S : LS) (y m : Int) (w' : World) : Prop :=
 ∃ (b6 c6 : Nat) (p3 : Option Addr) (c3 : Nat) (p4 : Option Addr) (c4 : Nat) (p5 : Option Addr) (c5 : Nat) (p7 : Option Addr) (c7 : Nat), 385 ≤ c6 ∧ e = .returned (.tuple #[]) ∧
  Sees F w0 B ((ky 0 9, iV m) :: (ky 0 8, iV y) :: (ky 0 20, sN) :: (ky 0 16, .slice p7 13 c7) :: (ky 0 18, .slice p5 (nY y) c5) :: (ky 0 17, .slice p4 (nY y) c4) :: (ky 0 15, .slice p3 (nY y) c3) ::
   (ky 0 19, .slice (some ⟨b6, 0 + (ywd y).toNat * 1, none⟩) (385 - (ywd y).toNat) (c6 - (ywd y).toNat)) :: (ky 0 14, iV (ywd y)) :: (ky 0 13, iV 0) :: (ky 0 12, iV (Cal.daysTo y * 86400)) ::
   (ky 0 11, iV (365 + Cal.lp (y + 1))) :: (ky 0 10, iV (365 + Cal.lp y)) :: H)
   ((7, ⟨.slice p7 13 c7, 3, 1, 13, (rgY y).map iV⟩) :: (5, ⟨.slice p5 (nY y) c5, 3, 1, nY y, (mE y).map iV⟩) :: (4, ⟨.slice p4 (nY y) c4, 3, 1, nY y, (mdY y).map iV⟩) :: (3, ⟨.slice p3 (nY y) c3, 3, 1, nY y, (mmY y).map iV⟩) ::
   (6, ⟨sL b6 385 c6, 3, 1, 385, (wd 55).map iV⟩) :: S) w'
theorem x7 {it rb : Nat} (hB : lkp 0 B = some it) (hR : lkp 1 B = some rb) (h7 : lkp (ky 0 7) H = some (pT rb)) {ly lm : Int} (h8 : lkp (ky 0 8) H = some (iV ly)) (h9 : lkp (ky 0 9) H = some (iV lm))
  {p51 p53 p57 : Option Addr} {c51 c53 c57 : Nat} (r51 : lkp (ky 1 51) H = some (.slice p51 0 c51)) (r53 : lkp (ky 1 53) H = some (.slice p53 0 c53)) (r57 : lkp (ky 1 57) H = some (.slice p57 0 c57)) {y m : Int} {d0 d1 : Int} (r39 : lkp (ky 1 39) H = some (iV d0)) (r40 : lkp (ky 1 40) H = some (iV d1)) {v10 : Value} (h10 : lkp (ky 0 10) H = some v10) {v11 : Value} (h11 : lkp (ky 0 11) H = some v11) {v12 : Value} (h12 : lkp (ky 0 12) H = some v12) {v13 : Value} (h13 : lkp (ky 0 13) H = some v13) {v14 : Value} (h14 : lkp (ky 0 14) H = some v14) {v15 : Value} (h15 : lkp (ky 0 15) H = some v15) {v16 : Value} (h16 : lkp (ky 0 16) H = some v16) {v17 : Value} (h17 : lkp (ky 0 17) H = some v17) {v18 : Value} (h18 : lkp (ky 0 18) H = some v18) {v19 : Value} (h19 : lkp (ky 0 19) H = some v19) {v20 : Value} (h20 : lkp (ky 0 20) H = some v20) (hy : y ≠ ly) (hy1 : 1 ≤ y ∧ y ≤ 10000) (hleap : Cal.leapB y = false) :
  ∀ w, Sees F w0 B H S w → Calls Tryz.prog 50 #[.pointer (some ⟨it, 7, none⟩), iV y, iV m] w fun e w' => sK e F w0 B H S y m w' := by
 have hdt : 0 ≤ Cal.daysTo y ∧ Cal.daysTo y ≤ 4000000 := by unfold Cal.daysTo; omega
 have hyw : 0 ≤ ywd y ∧ ywd y ≤ 6 := by unfold ywd; omega
 have hlp : Cal.lp y = 0 := by unfold Cal.lp; rw [hleap]; rfl
 have hlp2 := Cal.lp_01 (y + 1)
 intro w s
 refine aI (args := [.pointer (some ⟨it, 7, none⟩), iV y, iV m]) (L := [(0, .pointer (some ⟨it, 7, none⟩)), (1, iV y), (2, iV m)]) (N := 638) Tryz.func50 rfl rfl ble rfl s ?_
 refine g6 ?_
 refine rl (rfa 1) ?_
 refine rZ3 (rld 0 rfl hB h8) ?_
 refine aY rfl (i3 hy) ?_
 refine g4 ?_
 refine gL (cvo (v := iV (Cal.lp y)) rfl (fun w_ s_ => (kN _ oM w_).mono fun e_ w2_ h_ => ⟨h_.1.trans (congrArg Ending.returned rfl), h_.2⟩) ?_)
 refine g2 ?_
 refine rl (rfa 3) ?_
 refine gL (sto 0 rfl rfl hB h10 ?_)
 refine g7 ?_
 refine gL (cvo (v := iV (Cal.lp (y + 1))) rfl (fun w_ s_ => (kN _ oM w_).mono fun e_ w2_ h_ => ⟨h_.1.trans (congrArg Ending.returned rfl), h_.2⟩) ?_)
 refine g2 ?_
 refine rl (rfa 4) ?_
 refine gL (sto 0 rfl rfl hB h11 ?_)
 refine g8 ?_
 refine rl (rfa 0) ?_
 refine rZ1 (rld 0 rfl hB h7) ?_
 refine rl (rfa 39) ?_
 refine rl (aV 1 rfl hR r39 r40 kR dE) ?_
 refine gL (cvo rfl (fun w_ s_ => dN _ _ w_) ?_)
 refine gL (cvo (v := .agg #[iV (Cal.daysTo y * 86400), iV 0]) rfl (fun w_ s_ => (cY y 1 1 0 0 0 0 oM oM oM oM oM oM oM w_).mono fun e_ w2_ h_ => ⟨h_.1.trans (congrArg Ending.returned (by rw [rP])), h_.2⟩) ?_)
 refine g1 ?_
 refine rl (rfa 5) ?_
 refine gL (cA 0 rfl rfl hB (oJ h12 h13) kR rfl ble ?_)
 refine g7 ?_
 refine rl (rfa 5) ?_
 refine rl (aV 0 rfl hB rfl rfl kR dE) ?_
 refine gL (cvo rfl (fun w_ s_ => kA _ _ oM w_) ?_)
 refine gL (cvo (v := iV (ywd y)) rfl (fun w_ s_ => (mN _ oM w_).mono fun e_ w2_ h_ => ⟨h_.1.trans (congrArg Ending.returned (congrArg _ (aD1 y))), h_.2⟩) ?_)
 refine g1 ?_
 refine rl (rfa 7) ?_
 refine gL (sto 0 rfl rfl hB h14 ?_)
 refine g3 ?_
 refine jJ (fun i => i == 9) kR ?_
 refine gr 0 rfl (bD rfl) ?_
 refine gr 2 rfl (bD rfl) ?_
 refine gr 3 rfl (bW rfl) ?_
 refine gr 4 rfl (rfa 7) ?_
 refine gr 5 rfl (rld 0 rfl hB rfl) ?_
 refine gn 1 rfl (bK 6 (e := 3) (sz := 1) (n := 385) (xs := (wd 55).map iV) dE kR rfl (fun w_ s_ => uB w_) (fun p6 c6 => gk ?_))
 refine jG (fun w s => s.head 6 rfl dE) fun hcap => ?_
 obtain ⟨b6, rfl, hc6⟩ := hcap
 refine gn 6 rfl (fU dE (hU (e := 3) (n := 1) kR rfl rfl oM oM oM) (gk ?_))
 refine gn 7 rfl (fU dE (bW rfl) (gk ?_))
 refine gn 8 rfl (fU dE (rfa 12) (gk ?_))
 refine gn 9 rfl (sto 0 rfl rfl hB h19 (gk ?_))
 refine eE kR ?_
 refine g6 ?_
 refine rl (rfa 3) ?_
 refine rZ3 (rld 0 rfl hB rfl) ?_
 refine aY rfl (qF (by rw [hlp]; rfl)) ?_
 refine g3 ?_
 refine gL (bK 3 (e := 3) (sz := 1) (n := 372) (xs := zC.map iV) dE kR rfl (fun w_ s_ => aAk w_) (fun p3 c3 => ?_))
 refine g1 ?_
 refine rl (rfa 8) ?_
 refine gL (sto 0 rfl rfl hB h15 ?_)
 refine g5 ?_
 refine gL (bK 4 (e := 3) (sz := 1) (n := 372) (xs := zG.map iV) dE kR rfl (fun w_ s_ => vB w_) (fun p4 c4 => ?_))
 refine g1 ?_
 refine rl (rfa 10) ?_
 refine gL (sto 0 rfl rfl hB h17 ?_)
 refine g5 ?_
 refine gL (bK 5 (e := 3) (sz := 1) (n := 372) (xs := s7.map iV) dE kR rfl (fun w_ s_ => sZ w_) (fun p5 c5 => ?_))
 refine g1 ?_
 refine rl (rfa 11) ?_
 refine gL (sto 0 rfl rfl hB h18 ?_)
 refine g4 ?_
 refine gL (bK 7 (e := 3) (sz := 1) (n := 13) (xs := ([0, 31, 59, 90, 120, 151, 181, 212, 243, 273, 304, 334, 365] : List Int).map iV) dE kR rfl (fun w_ s_ => aAw w_) (fun p7 c7 => ?_))
 refine g1 ?_
 refine rl (rfa 9) ?_
 refine gL (sto 0 rfl rfl hB h16 ?_)
 refine g6 ?_
 refine rl (rfa 0) ?_
 refine rZ1 (rld 0 rfl hB h7) ?_
 refine rl (rfa 51) ?_
 refine rl (rld 1 rfl hR r51) ?_
 refine g4 ?_
 refine aY rfl rfl ?_
 refine g3 ?_
 refine rl (rfa 13) ?_
 refine gL (sto 0 rfl rfl hB h20 ?_)
 refine g7 ?_
 refine rl (rfa 0) ?_
 refine rZ1 (rld 0 rfl hB h7) ?_
 refine rl (rfa 53) ?_
 refine rZ1 (rld 1 rfl hR r53) ?_
 refine rl ((cJ rfl rfl).to (v' := .bool false) rfl) ?_
 refine g18 ?_
 refine aP rfl rfl ?_
 refine g7 ?_
 refine rl (rfa 0) ?_
 refine rZ1 (rld 0 rfl hB h7) ?_
 refine rl (rfa 57) ?_
 refine rZ1 (rld 1 rfl hR r57) ?_
 refine rl ((cJ rfl rfl).to (v' := .bool false) rfl) ?_
 refine g2 ?_
 refine aP rfl rfl ?_
 refine g7 ?_
 refine rl (rfa 1) ?_
 refine gL (sto 0 rfl rfl hB h8 ?_)
 refine g6 ?_
 refine rl (rfa 2) ?_
 refine gL (sto 0 rfl rfl hB h9 ?_)
 refine g1 ?_
 refine d7 (.inr rfl) rfl fun w s => ⟨b6, c6, p3, c3, p4, c4, p5, c5, p7, c7, hc6, rfl, ?_⟩
 unfold mmY mdY mE rgY nY
 simp only [hleap, if_true, if_false, Bool.false_eq_true]
 exact s
theorem zN {it rb : Nat} (hB : lkp 0 B = some it) (hR : lkp 1 B = some rb) (h7 : lkp (ky 0 7) H = some (pT rb)) {ly lm : Int} (h8 : lkp (ky 0 8) H = some (iV ly)) (h9 : lkp (ky 0 9) H = some (iV lm))
  {p51 p53 p57 : Option Addr} {c51 c53 c57 : Nat} (r51 : lkp (ky 1 51) H = some (.slice p51 0 c51)) (r53 : lkp (ky 1 53) H = some (.slice p53 0 c53)) (r57 : lkp (ky 1 57) H = some (.slice p57 0 c57)) {y m : Int} {d0 d1 : Int} (r39 : lkp (ky 1 39) H = some (iV d0)) (r40 : lkp (ky 1 40) H = some (iV d1)) {v10 : Value} (h10 : lkp (ky 0 10) H = some v10) {v11 : Value} (h11 : lkp (ky 0 11) H = some v11) {v12 : Value} (h12 : lkp (ky 0 12) H = some v12) {v13 : Value} (h13 : lkp (ky 0 13) H = some v13) {v14 : Value} (h14 : lkp (ky 0 14) H = some v14) {v15 : Value} (h15 : lkp (ky 0 15) H = some v15) {v16 : Value} (h16 : lkp (ky 0 16) H = some v16) {v17 : Value} (h17 : lkp (ky 0 17) H = some v17) {v18 : Value} (h18 : lkp (ky 0 18) H = some v18) {v19 : Value} (h19 : lkp (ky 0 19) H = some v19) {v20 : Value} (h20 : lkp (ky 0 20) H = some v20) (hy : y ≠ ly) (hy1 : 1 ≤ y ∧ y ≤ 10000) (hleap : Cal.leapB y = true) :
  ∀ w, Sees F w0 B H S w → Calls Tryz.prog 50 #[.pointer (some ⟨it, 7, none⟩), iV y, iV m] w fun e w' => sK e F w0 B H S y m w' := by
 have hdt : 0 ≤ Cal.daysTo y ∧ Cal.daysTo y ≤ 4000000 := by unfold Cal.daysTo; omega
 have hyw : 0 ≤ ywd y ∧ ywd y ≤ 6 := by unfold ywd; omega
 have hlp : Cal.lp y = 1 := by unfold Cal.lp; rw [hleap]; rfl
 have hlp2 := Cal.lp_01 (y + 1)
 intro w s
 refine aI (args := [.pointer (some ⟨it, 7, none⟩), iV y, iV m]) (L := [(0, .pointer (some ⟨it, 7, none⟩)), (1, iV y), (2, iV m)]) (N := 638) Tryz.func50 rfl rfl ble rfl s ?_
 refine g6 ?_
 refine rl (rfa 1) ?_
 refine rZ3 (rld 0 rfl hB h8) ?_
 refine aY rfl (i3 hy) ?_
 refine g4 ?_
 refine gL (cvo (v := iV (Cal.lp y)) rfl (fun w_ s_ => (kN _ oM w_).mono fun e_ w2_ h_ => ⟨h_.1.trans (congrArg Ending.returned rfl), h_.2⟩) ?_)
 refine g2 ?_
 refine rl (rfa 3) ?_
 refine gL (sto 0 rfl rfl hB h10 ?_)
 refine g7 ?_
 refine gL (cvo (v := iV (Cal.lp (y + 1))) rfl (fun w_ s_ => (kN _ oM w_).mono fun e_ w2_ h_ => ⟨h_.1.trans (congrArg Ending.returned rfl), h_.2⟩) ?_)
 refine g2 ?_
 refine rl (rfa 4) ?_
 refine gL (sto 0 rfl rfl hB h11 ?_)
 refine g8 ?_
 refine rl (rfa 0) ?_
 refine rZ1 (rld 0 rfl hB h7) ?_
 refine rl (rfa 39) ?_
 refine rl (aV 1 rfl hR r39 r40 kR dE) ?_
 refine gL (cvo rfl (fun w_ s_ => dN _ _ w_) ?_)
 refine gL (cvo (v := .agg #[iV (Cal.daysTo y * 86400), iV 0]) rfl (fun w_ s_ => (cY y 1 1 0 0 0 0 oM oM oM oM oM oM oM w_).mono fun e_ w2_ h_ => ⟨h_.1.trans (congrArg Ending.returned (by rw [rP])), h_.2⟩) ?_)
 refine g1 ?_
 refine rl (rfa 5) ?_
 refine gL (cA 0 rfl rfl hB (oJ h12 h13) kR rfl ble ?_)
 refine g7 ?_
 refine rl (rfa 5) ?_
 refine rl (aV 0 rfl hB rfl rfl kR dE) ?_
 refine gL (cvo rfl (fun w_ s_ => kA _ _ oM w_) ?_)
 refine gL (cvo (v := iV (ywd y)) rfl (fun w_ s_ => (mN _ oM w_).mono fun e_ w2_ h_ => ⟨h_.1.trans (congrArg Ending.returned (congrArg _ (aD1 y))), h_.2⟩) ?_)
 refine g1 ?_
 refine rl (rfa 7) ?_
 refine gL (sto 0 rfl rfl hB h14 ?_)
 refine g3 ?_
 refine jJ (fun i => i == 9) kR ?_
 refine gr 0 rfl (bD rfl) ?_
 refine gr 2 rfl (bD rfl) ?_
 refine gr 3 rfl (bW rfl) ?_
 refine gr 4 rfl (rfa 7) ?_
 refine gr 5 rfl (rld 0 rfl hB rfl) ?_
 refine gn 1 rfl (bK 6 (e := 3) (sz := 1) (n := 385) (xs := (wd 55).map iV) dE kR rfl (fun w_ s_ => uB w_) (fun p6 c6 => gk ?_))
 refine jG (fun w s => s.head 6 rfl dE) fun hcap => ?_
 obtain ⟨b6, rfl, hc6⟩ := hcap
 refine gn 6 rfl (fU dE (hU (e := 3) (n := 1) kR rfl rfl oM oM oM) (gk ?_))
 refine gn 7 rfl (fU dE (bW rfl) (gk ?_))
 refine gn 8 rfl (fU dE (rfa 12) (gk ?_))
 refine gn 9 rfl (sto 0 rfl rfl hB h19 (gk ?_))
 refine eE kR ?_
 refine g6 ?_
 refine rl (rfa 3) ?_
 refine rZ3 (rld 0 rfl hB rfl) ?_
 refine aP rfl (qW (by rw [hlp]; decide)) ?_
 refine g3 ?_
 refine gL (bK 3 (e := 3) (sz := 1) (n := 373) (xs := lQ.map iV) dE kR rfl (fun w_ s_ => uM w_) (fun p3 c3 => ?_))
 refine g1 ?_
 refine rl (rfa 8) ?_
 refine gL (sto 0 rfl rfl hB h15 ?_)
 refine g5 ?_
 refine gL (bK 4 (e := 3) (sz := 1) (n := 373) (xs := lP.map iV) dE kR rfl (fun w_ s_ => oP w_) (fun p4 c4 => ?_))
 refine g1 ?_
 refine rl (rfa 10) ?_
 refine gL (sto 0 rfl rfl hB h17 ?_)
 refine g5 ?_
 refine gL (bK 5 (e := 3) (sz := 1) (n := 373) (xs := jE.map iV) dE kR rfl (fun w_ s_ => m8 w_) (fun p5 c5 => ?_))
 refine g1 ?_
 refine rl (rfa 11) ?_
 refine gL (sto 0 rfl rfl hB h18 ?_)
 refine g4 ?_
 refine gL (bK 7 (e := 3) (sz := 1) (n := 13) (xs := ([0, 31, 60, 91, 121, 152, 182, 213, 244, 274, 305, 335, 366] : List Int).map iV) dE kR rfl (fun w_ s_ => aBc w_) (fun p7 c7 => ?_))
 refine g1 ?_
 refine rl (rfa 9) ?_
 refine gL (sto 0 rfl rfl hB h16 ?_)
 refine g6 ?_
 refine rl (rfa 0) ?_
 refine rZ1 (rld 0 rfl hB h7) ?_
 refine rl (rfa 51) ?_
 refine rl (rld 1 rfl hR r51) ?_
 refine g4 ?_
 refine aY rfl rfl ?_
 refine g3 ?_
 refine rl (rfa 13) ?_
 refine gL (sto 0 rfl rfl hB h20 ?_)
 refine g7 ?_
 refine rl (rfa 0) ?_
 refine rZ1 (rld 0 rfl hB h7) ?_
 refine rl (rfa 53) ?_
 refine rZ1 (rld 1 rfl hR r53) ?_
 refine rl ((cJ rfl rfl).to (v' := .bool false) rfl) ?_
 refine g18 ?_
 refine aP rfl rfl ?_
 refine g7 ?_
 refine rl (rfa 0) ?_
 refine rZ1 (rld 0 rfl hB h7) ?_
 refine rl (rfa 57) ?_
 refine rZ1 (rld 1 rfl hR r57) ?_
 refine rl ((cJ rfl rfl).to (v' := .bool false) rfl) ?_
 refine g2 ?_
 refine aP rfl rfl ?_
 refine g7 ?_
 refine rl (rfa 1) ?_
 refine gL (sto 0 rfl rfl hB h8 ?_)
 refine g6 ?_
 refine rl (rfa 2) ?_
 refine gL (sto 0 rfl rfl hB h9 ?_)
 refine g1 ?_
 refine d7 (.inr rfl) rfl fun w s => ⟨b6, c6, p3, c3, p4, c4, p5, c5, p7, c7, hc6, rfl, ?_⟩
 unfold mmY mdY mE rgY nY
 simp only [hleap, if_true, if_false, Bool.false_eq_true]
 exact s
theorem aH0 : (List.range 385).all (fun k => (wd 55)[k]? == some ((k % 7 : Nat) : Int)) = true := by kernel_rfl
theorem aHk {k : Nat} (h : k < 385) : (wd 55)[k]? = some ((k % 7 : Nat) : Int) := by
 have := List.all_eq_true.1 aH0 k (List.mem_range.2 h)
 exact beq_iff_eq.1 this
theorem aCg {k : Nat} {x : Int} (h : k < 385) (hx : x = ((k % 7 : Nat) : Int)) : ((wd 55).map iV)[k]? = some (iV x) := by
 rw [List.getElem?_map, aHk h, hx]; rfl
theorem x0_ (n : Int) : n * 86400 + 0 * 3600 + 0 * 60 + 0 = n * 86400 := by omega
theorem x1_ (n : Int) : n * 86400 / 86400 = n := by omega
theorem zO {it : Nat} (hB : lkp 0 B = some it) {yl : Int} (h10 : lkp (ky 0 10) H = some (iV yl)) {y m d : Int} : ∀ w, Sees F w0 B H S w → Calls Tryz.prog 114 #[.pointer (some ⟨it, 7, none⟩), iV 0, iV y, iV m, iV d] w fun e w' => e = .returned (.tuple #[iV 0, iV yl]) ∧ Sees F w0 B H S w' := by
 intro w s
 refine aI (args := [.pointer (some ⟨it, 7, none⟩), iV 0, iV y, iV m, iV d]) (L := [(0, .pointer (some ⟨it, 7, none⟩)), (1, iV 0), (2, iV y), (3, iV m), (4, iV d)]) (N := 88) Tryz.func114 rfl rfl ble rfl s ?_
 refine g18 ?_
 refine aY rfl rfl ?_
 refine g4 ?_
 refine rq (rfa 3) ?_
 refine rq (rld 0 rfl hB h10) ?_
 refine g6 ?_
 refine dQ (.inl rfl) rfl (aD rfl) (aD rfl) fun w_ s_ => ⟨rfl, s_⟩
theorem vX {it : Nat} (hB : lkp 0 B = some it) {p7 : Option Addr} {c7 : Nat} {rg : List Value} (h16 : lkp (ky 0 16) H = some (.slice p7 13 c7)) (hS7 : lkp 7 S = some ⟨.slice p7 13 c7, 3, 1, 13, rg⟩) {m : Int} (hm : 1 ≤ m ∧ m ≤ 12) {a b : Int} (ha : rg[(m - 1).toNat]? = some (iV a)) (hb : rg[m.toNat]? = some (iV b)) {y d : Int} : ∀ w, Sees F w0 B H S w → Calls Tryz.prog 114 #[.pointer (some ⟨it, 7, none⟩), iV 1, iV y, iV m, iV d] w fun e w' => e = .returned (.tuple #[iV a, iV b]) ∧ Sees F w0 B H S w' := by
 intro w s
 refine aI (args := [.pointer (some ⟨it, 7, none⟩), iV 1, iV y, iV m, iV d]) (L := [(0, .pointer (some ⟨it, 7, none⟩)), (1, iV 1), (2, iV y), (3, iV m), (4, iV d)]) (N := 88) Tryz.func114 rfl rfl ble rfl s ?_
 refine g13 ?_
 refine eA (fun w s => s.head 7 hS7 dE) fun hcap => ?_
 obtain ⟨b7, rfl, hc7⟩ := hcap
 refine xD ?_
 refine rq (rfa 9) ?_
 refine rq (rld 0 rfl hB h16) ?_
 refine g2 ?_
 refine rq (aF (e := 3) (n := 1) kR rfl rfl oM oM) ?_
 refine rq (bP 7 rfl hS7 rfl (by rw [Nat.zero_add, Nat.mul_one]; exact ha) kR) ?_
 refine g2 ?_
 refine rq (rfa 9) ?_
 refine rq (rld 0 rfl hB h16) ?_
 refine g1 ?_
 refine rq (aF (e := 3) (n := 1) kR rfl rfl oM oM) ?_
 refine rq (bP 7 rfl hS7 rfl (by rw [Nat.zero_add, Nat.mul_one]; exact hb) kR) ?_
 refine g14 ?_
 refine dQ (.inl rfl) rfl (aD rfl) (aD rfl) fun w_ s_ => ⟨rfl, s_⟩
theorem aA7 {it : Nat} (hB : lkp 0 B = some it) {y m d : Int} (hy : 1 ≤ y ∧ y ≤ 10000) (hm : 1 ≤ m ∧ m ≤ 12) (hd : 1 ≤ d ∧ d ≤ 1000) (hdn : 0 ≤ Cal.dayNo y m d ∧ Cal.dayNo y m d ≤ 5000000) {f : Int} (hf : 3 ≤ f) : ∀ w, Sees F w0 B H S w → Calls Tryz.prog 114 #[.pointer (some ⟨it, 7, none⟩), iV f, iV y, iV m, iV d] w fun e w' => e = .returned (.tuple #[iV (Cal.ydayOf (Cal.dayNo y m d)), iV (Cal.ydayOf (Cal.dayNo y m d) + 1)]) ∧ Sees F w0 B H S w' := by
 have hsp := Cal.split_spec (Cal.dayNo y m d)
 have hlp := Cal.lp_01 (Cal.yearOf (Cal.dayNo y m d))
 intro w s
 refine aI (args := [.pointer (some ⟨it, 7, none⟩), iV f, iV y, iV m, iV d]) (L := [(0, .pointer (some ⟨it, 7, none⟩)), (1, iV f), (2, iV y), (3, iV m), (4, iV d)]) (N := 88) Tryz.func114 rfl rfl ble rfl s ?_
 refine g18 ?_
 refine aP rfl (qW oM) ?_
 refine g6 ?_
 refine aP rfl (qW oM) ?_
 refine g6 ?_
 refine aP rfl (qW oM) ?_
 refine g5 ?_
 refine gL (cvo rfl (fun w_ s_ => qQ w_) ?_)
 refine gL (cvo (v := .agg #[iV (Cal.dayNo y m d * 86400), iV 0]) rfl (fun w_ s_ => (cY y m d 0 0 0 0 oM oM oM oM oM oM oM w_).mono fun e_ w2_ h_ => ⟨h_.1.trans (congrArg Ending.returned (by rw [x0_])), h_.2⟩) ?_)
 refine gL (cvo (v := iV (Cal.ydayOf (Cal.dayNo y m d) + 1)) rfl (fun w_ s_ => (oN _ _ oM w_).mono fun e_ w2_ h_ => ⟨h_.1.trans (congrArg Ending.returned (by rw [x1_])), h_.2⟩) ?_)
 refine g15 ?_
 refine dQ (.inl rfl) rfl (aD rfl) (aD rfl) fun w_ s_ => ⟨(congrArg Ending.returned (congrArg Value.tuple (by rw [Int.add_sub_cancel]))), s_⟩
theorem xY {it : Nat} (hB : lkp 0 B = some it) {y m d : Int} (hy : 1 ≤ y ∧ y ≤ 10000) (hm : 1 ≤ m ∧ m ≤ 12) (hd : 1 ≤ d ∧ d ≤ 1000) (hdn : 0 ≤ Cal.dayNo y m d ∧ Cal.dayNo y m d ≤ 5000000) {rb : Nat} (hR : lkp 1 B = some rb) (h7 : lkp (ky 0 7) H = some (pT rb)) {k : Int} (r42 : lkp (ky 1 42) H = some (iV k)) (hk : 0 ≤ k ∧ k ≤ 6) {yw : Int} (hyw : 0 ≤ yw ∧ yw ≤ 6) {b6 c6 : Nat}
  (h19 : lkp (ky 0 19) H = some (.slice (some ⟨b6, 0 + yw.toNat * 1, none⟩) (385 - yw.toNat) (c6 - yw.toNat))) (hS6 : lkp 6 S = some ⟨sL b6 385 c6, 3, 1, 385, (wd 55).map iV⟩) {i : Int} (hi : Cal.ydayOf (Cal.dayNo y m d) = i) :
  ∀ w, Sees F w0 B H S w → Calls Tryz.prog 114 #[.pointer (some ⟨it, 7, none⟩), iV 2, iV y, iV m, iV d] w fun e w' => e = .returned (.tuple #[iV i, iV (i + 1 + (k - yw - i - 1) % 7)]) ∧ Sees F w0 B H S w' := by
 have hsp := Cal.split_spec (Cal.dayNo y m d)
 have hlp := Cal.lp_01 (Cal.yearOf (Cal.dayNo y m d))
 intro w s
 refine aI (args := [.pointer (some ⟨it, 7, none⟩), iV 2, iV y, iV m, iV d]) (L := [(0, .pointer (some ⟨it, 7, none⟩)), (1, iV 2), (2, iV y), (3, iV m), (4, iV d)]) (N := 88) Tryz.func114 rfl rfl ble rfl s ?_
 refine g18 ?_
 refine aP rfl rfl ?_
 refine g6 ?_
 refine jT ?_
 refine gL (cvo rfl (fun w_ s_ => qQ w_) ?_)
 refine gL (cvo (v := .agg #[iV (Cal.dayNo y m d * 86400), iV 0]) rfl (fun w_ s_ => (cY y m d 0 0 0 0 oM oM oM oM oM oM oM w_).mono fun e_ w2_ h_ => ⟨h_.1.trans (congrArg Ending.returned (by rw [x0_])), h_.2⟩) ?_)
 refine gL (cvo (v := iV (Cal.ydayOf (Cal.dayNo y m d) + 1)) rfl (fun w_ s_ => (oN _ _ oM w_).mono fun e_ w2_ h_ => ⟨h_.1.trans (congrArg Ending.returned (by rw [x1_])), h_.2⟩) ?_)
 refine rl ((aB2 rfl rfl oM).to (congrArg (Value.int .i64) (show _ = i by omega))) ?_
 refine g18 ?_
 refine g1 ?_
 refine bJ (ι := (Nat)) (fun j => 7 - j) (fun j => ((j : Int) ≤ (k - yw - i - 1) % 7)) (fun j => [(0, .pointer (some ⟨it, 7, none⟩)), (10, iV i), (11, iV (i + 1 + j)), (12, iV (i + j)), (13, iV ((j : Int)))]) (fun j => B) (fun j => H) (fun j => S) 0 (by show ((0 : Nat) : Int) ≤ _; omega) (fun a q => q.cons rfl (q.cons rfl (q.cons (by exact congrArg (fun n : Int => some (iV n)) oM) (q.cons (by exact congrArg (fun n : Int => some (iV n)) oM) (q.cons rfl q.nil))))) (fun w s => by exact s) ?_
 rintro j hj
 show GC _ _ _ _ [(0, .pointer (some ⟨it, 7, none⟩)), (10, iV i), (11, iV (i + 1 + j)), (12, iV (i + j)), (13, iV ((j : Int)))] _ _ (B) (H) (S)
 refine g7 ?_
 refine aY rfl (decide_eq_true oM) ?_
 refine g16 ?_
 refine rq (rfa 12) ?_
 refine rq (rld 0 rfl hB h19) ?_
 refine g1 ?_
 refine rq (aF (e := 3) (n := 1) kR rfl rfl oM oM) ?_
 refine rq (bP 6 rfl hS6 rfl (aCg (x := (yw + i + j + 1) % 7) oM oM) kR) ?_
 refine g2 ?_
 refine rq (rfa 0) ?_
 refine rq (rld 0 rfl hB h7) ?_
 refine g1 ?_
 refine rq (rfa 42) ?_
 refine rq (rld 1 rfl hR r42) ?_
 refine g3 ?_
 refine aB rfl (fun hc1 => ?_) (fun hc2 => ?_)
 ·have hhit := beq_iff_eq.1 hc1
  refine g16 ?_
  refine g1 ?_
  refine dQ (.inl rfl) rfl (aD rfl) (aD rfl) fun w_ s_ => ⟨?_, s_⟩
  refine aIt oM oM
 ·have hmiss := beq_eq_false_iff_ne.1 hc2
  refine g14 ?_
  refine aQ (j + 1) oM (by show ((j + 1 : Nat) : Int) ≤ _; omega) (fun a q => q.cons rfl (q.cons rfl (q.cons (by exact congrArg (fun n : Int => some (iV n)) oM) (q.cons (by exact congrArg (fun n : Int => some (iV n)) oM) (q.cons (by exact congrArg (fun n : Int => some (iV n)) oM) q.nil))))) (fun w s => by exact s)
end
end Go.Proofs.YtdbbifbmkfmbkaaGreat
