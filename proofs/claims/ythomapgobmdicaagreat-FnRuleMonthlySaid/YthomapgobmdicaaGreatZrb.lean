import Derived.Test.YthomapgobmdicaaGreatZra
set_option linter.unusedVariables false
set_option linter.unusedSimpArgs false
set_option maxRecDepth 100000
set_option maxHeartbeats 8000000
namespace Go.Fr
open Go.RowKit
section
variable {P : Program} {Q Q' : Exit -> Act -> World -> Prop} {N : Nat} {L : Loc} {F : Nat -> Prop} {w0 : World} {B : LN} {H : LV} {S : LS} {C : World -> Prop} {K : Act -> Prop}
variable {id : Nat} {l tl rest : List Oper} {ops : Array Oper} {o : Oper} {d : Nat} {v : Value} {ty : TypeId} {pos : String} {aft : Array Edge} {op : Op} {g : Option (Nat × Bool)}
def GM (P : Program) (ops : Array Oper) (K : Act -> Prop) (l : List Oper) (N : Nat) (L : Loc) (F : Nat -> Prop) (w0 : World) (B : LN) (H : LV) (S : LS) : Prop := ∀ a, Kn N L a -> wpQuiet P ops (Sees F w0 B H S) K l a
theorem nQ : ∀ (n : Nat) (l : List Oper) (a : Act), wpQuiet P ops C (fun a => wpQuiet P ops C K (l.drop n) a) (l.take n) a -> wpQuiet P ops C K l a
 | 0, l, a, h => h
 | n + 1, [], a, h => h
 | n + 1, o :: r, a, h => by
  unfold wpQuiet
  simp only [List.take_succ_cons, List.drop_succ_cons] at h
  unfold wpQuiet at h
  split
  .rename_i hw
   rw [if_pos hw] at h
   exact Oper.quiet_mono (fun a h => nQ n r a h) h
  .rename_i hw
   rw [if_neg hw] at h
   exact nQ n r _ h
theorem mD {K K' : Act -> Prop} (hK : ∀ a, K a -> K' a) : ∀ (l : List Oper) (a : Act), wpQuiet P ops C K l a -> wpQuiet P ops C K' l a
 | [], a, h => hK a h
 | o :: r, a, h => by
  unfold wpQuiet at h ⊢
  split
  .rename_i hw
   rw [if_pos hw] at h
   exact Oper.quiet_mono (fun a h => mD hK r a h) h
  .rename_i hw
   rw [if_neg hw] at h
   exact mD hK r _ h
theorem aH6 (n : Nat) (L' : Loc) (h1 : GM P ops (Kn N L') (l.take n) N L F w0 B H S) (h2 : GQ P ops Q (l.drop n) N L' F w0 B H S) : GQ P ops Q l N L F w0 B H S := fun a k =>
 nQ n l a (mD (fun a' k' => h2 a' k') _ a (h1 a k))
theorem aLz (hd : d < N) (h : Rd P ⟨some d, op, ty, pos, aft, none⟩ N L F w0 B H S v) (hn : GM P ops K rest N ((d, v) :: L) F w0 B H S) : GM P ops K (⟨some d, op, ty, pos, aft, none⟩ :: rest) N L F w0 B H S := by
 refine fun a k => wpQuiet_step fun K hK => ?_
 rw [if_pos (by simp [Region.wanted])]
 refine ⟨v, fun w s => ?_, hK _ (hn _ (k.put hd v))⟩
 show Oper.quietUpon _ _ _ _ _
 rw [h a w k s]
 exact ⟨rfl, rfl⟩
theorem bX (h : ∀ a, Kn N L a -> K a) : GM P ops K [] N L F w0 B H S := h
theorem aKs {j dj : Nat} {want : Bool} {dst : Option Nat} (hj : (ops[j]?).bind (·.dst) = some dj) (hv : lkp dj L = some (.bool want)) (h : GM P ops K (⟨dst, op, ty, pos, aft, none⟩ :: rest) N L F w0 B H S) : GM P ops K (⟨dst, op, ty, pos, aft, some (j, want)⟩ :: rest) N L F w0 B H S := fun a k => by
 have h1 := h a k
 have hw : Region.wanted ⟨dst, op, ty, pos, aft, some (j, want)⟩ (yielded ops a.tmps) = true := by
  simp [Region.wanted, yielded, hj, k.get dj _ hv]
 unfold wpQuiet at h1 ⊢
 rw [if_pos (by simp [Region.wanted])] at h1
 rw [if_pos hw]
 exact h1
theorem aKn {j dj : Nat} {want b : Bool} {dd : Nat} (hd : dd < N) (hj : (ops[j]?).bind (·.dst) = some dj) (hv : lkp dj L = some (.bool b)) (hne : b ≠ want) (h : GM P ops K rest N ((dd, undef) :: L) F w0 B H S) : GM P ops K (⟨some dd, op, ty, pos, aft, some (j, want)⟩ :: rest) N L F w0 B H S := fun a k => by
 have hw : ¬ Region.wanted ⟨some dd, op, ty, pos, aft, some (j, want)⟩ (yielded ops a.tmps) = true := by
  simp [Region.wanted, yielded, hj, k.get dj _ hv, hne]
 unfold wpQuiet
 rw [if_neg hw]
 exact h _ (k.put hd undef)
theorem aH1 {j dj : Nat} {want : Bool} {dd : Nat} (hd : dd < N) (hj : (ops[j]?).bind (·.dst) = some dj) (hv : lkp dj L = some undef) (h : GM P ops K rest N ((dd, undef) :: L) F w0 B H S) : GM P ops K (⟨some dd, op, ty, pos, aft, some (j, want)⟩ :: rest) N L F w0 B H S := fun a k => by
 have hw : ¬ Region.wanted ⟨some dd, op, ty, pos, aft, some (j, want)⟩ (yielded ops a.tmps) = true := by
  simp [Region.wanted, yielded, hj, k.get dj _ hv, undef]
 unfold wpQuiet
 rw [if_neg hw]
 exact h _ (k.put hd undef)
theorem cG {f : FuncId} {aS : List Operand} {ats : Array TypeId} {args : List Value} (hd : d < N) (hf : gM P f = true) (ha : Fr.evs L aS = some args)
  (hc : ∀ w, Sees F w0 B H S w -> Calls P f args.toArray w fun e w' => e = .returned v /\ Below w.heap.size w w')
  (hn : GM P ops K rest N ((d, v) :: L) F w0 B H S) : GM P ops K (⟨some d, .call ⟨.value (.func f), aS.toArray, ats⟩, ty, pos, aft, none⟩ :: rest) N L F w0 B H S := fun a k => wpQuiet_step fun K hK => by
 rw [if_pos (by simp [Region.wanted])]
 refine ⟨v, fun w s => ?_, hK _ (hn _ (k.put hd v))⟩
 show Oper.quietUpon _ _ _ _ _
 rw [oL k hf ha]
 exact ⟨rfl, (hc w s).mono fun e w' ⟨he, hb⟩ => ⟨he, s.below hb⟩⟩
theorem aC0 {id : Nat} {ops : Array Oper} (hm : P.follows .mixedOrders = true) (hB : Region.lexB .any ops = true) (h : GQ P ops Q (List.drop 0 ops.toList) N L F w0 B H S) : GC P (.region id ops true) Q N L F w0 B H S := by
 have := aCx (id := id) (l := ops.toList) hm (by rw [Array.toArray_toList]; exact hB) (by rw [Array.toArray_toList]; exact h)
 rwa [Array.toArray_toList] at this
theorem lD (lo n m : Nat) (hm : lo + n = m) (L' : Loc) (h1 : GM P ops (Kn N L') (List.take n (List.drop lo ops.toList)) N L F w0 B H S) (h2 : GQ P ops Q (List.drop m ops.toList) N L' F w0 B H S) : GQ P ops Q (List.drop lo ops.toList) N L F w0 B H S :=
 aH6 n L' h1 (by rw [List.drop_drop, hm]; exact h2)
theorem aG3 {m : Nat} (hm : ops.size <= m) (h : GE Q .normal N L F w0 B H S) : GQ P ops Q (List.drop m ops.toList) N L F w0 B H S := by
 rw [List.drop_eq_nil_of_le (by simpa using hm)]
 exact aEc h
end
def aGd (d0 : Nat) (ops : Array Oper) (j : Nat) (o : Oper) : Bool :=
 (match o.dst with
 | some d => Nat.beq d (d0 + j)
 | none => false) && (match o.op with | .select .. => false | _ => true) && (o.after.toList.all fun e => Nat.blt e.on j) &&
 ((o.looksAt ops).all fun t => Nat.blt t d0 || (Nat.blt t (d0 + j) && o.after.toList.any fun e => Region.binds .any e && Nat.beq (e.on + d0) t))
def wP (d0 : Nat) (ops : Array Oper) : Nat -> List Oper -> Bool
 | _, [] => true
 | j, o :: r => match aGd d0 ops j o with
  | true => wP d0 ops (j + 1) r
  | false => false
theorem vF {d0 : Nat} {ops : Array Oper} : ∀ {l : List Oper} {j : Nat}, wP d0 ops j l = true -> ∀ i o, l[i]? = some o -> aGd d0 ops (j + i) o = true
 | [], _, _, i, o, h => by simp at h
 | x :: r, j, hl, i, o, h => by
  unfold wP at hl
  split at hl
  .rename_i hx
   cases i with
   | zero => cases h; simpa using hx
   | succ i =>
    have := vF hl i o (by simpa using h)
    rwa [show j + (i + 1) = j + 1 + i by omega]
  .cases hl
structure LinOp (d0 : Nat) (ops : Array Oper) (j : Nat) (o : Oper) : Prop where
 dst : o.dst = some (d0 + j)
 nosel : (match o.op with | .select .. => false | _ => true) = true
 on : ∀ e ∈ o.after, e.on < j
 looks : ∀ t ∈ o.looksAt ops, t < d0 \/ (t < d0 + j /\ ∃ e ∈ o.after, Region.binds .any e = true /\ e.on + d0 = t)
theorem aD9 {d0 : Nat} {ops : Array Oper} {j : Nat} {o : Oper} (h : aGd d0 ops j o = true) : LinOp d0 ops j o := by
 simp only [aGd, Bool.and_eq_true, List.all_eq_true, Bool.or_eq_true, List.any_eq_true] at h
 obtain ⟨⟨⟨h1, h2⟩, h3⟩, h4⟩ := h
 refine ⟨?_, h2, fun e he => by simpa using h3 e (by simpa using he), fun t ht => ?_⟩
 .cases hd : o.dst with
  | none => simp [hd] at h1
  | some d => simp [hd] at h1; rw [h1]
 .rcases h4 t ht with h | ⟨h, e, he, hb, hq⟩
  .exact .inl (by simpa using h)
  .exact .inr ⟨by simpa using h, e, by simpa using he, hb, Nat.eq_of_beq_eq_true hq⟩
theorem vT {d0 : Nat} {ops : Array Oper} (hl : ∀ j o, ops[j]? = some o -> LinOp d0 ops j o) : ∀ (fuel k : Nat) (listed : Array Bool), fuel + k = ops.size -> listed.size = ops.size ->
  (∀ j, j < ops.size -> listed[j]? = some (decide (j < k))) -> Region.lexFrom .any ops fuel k listed = true
 | 0, k, listed, hk, hs, hL => by
  simp only [Region.lexFrom, List.isEmpty_iff]
  rw [List.eq_nil_iff_forall_not_mem]
  intro i hi
  simp only [Region.ready, List.mem_filter, List.mem_range, Bool.and_eq_true, Bool.not_eq_true'] at hi
  have := hL i hi.1
  rw [Array.getD_eq_getD_getElem?, this] at hi
  simp at hi
  omega
 | fuel + 1, k, listed, hk, hs, hL => by
  have hkn : k < ops.size := by omega
  have hk0 : ops[k]? = some ops[k] := Array.getElem?_eq_getElem hkn
  have lk := hl k _ hk0
  have hget : ∀ j, j < ops.size -> ∀ b, listed.getD j b = decide (j < k) := fun j hj b => by rw [Array.getD_eq_getD_getElem?, hL j hj]; rfl
  simp only [Region.lexFrom, Bool.and_eq_true]
  refine ⟨⟨?_, ?_⟩, ?_⟩
  .simp only [List.contains_iff_mem, Region.ready, List.mem_filter, List.mem_range, Bool.and_eq_true]
   refine ⟨hkn, by rw [hget k hkn]; simp, ?_⟩
   rw [hk0]
   simp only [Option.map_some, Option.getD_some, Array.all_eq_true']
   intro e he
   have h1 := lk.on e he
   rw [hget e.on oM]
   simp [h1]
  .unfold Region.free
   rw [hk0]
   simp only [List.all_eq_true, List.mem_range, Bool.or_eq_true, beq_iff_eq]
   intro j hj
   rcases Nat.lt_trichotomy j k with h | h | h
   .exact .inl (.inr (by rw [hget j hj]; simpa using h))
   .exact .inl (.inl h)
   .refine .inr ?_
    have hj0 : ops[j]? = some ops[j] := Array.getElem?_eq_getElem hj
    have lj := hl j _ hj0
    rw [hj0]
    simp only [Bool.or_eq_true]
    by_cases hz : (ops[j].after.any fun e => Region.binds .any e && e.on == k) = true
    .exact .inl hz
    .refine .inr ?_
     have hno : ∀ e ∈ ops[j].after, Region.binds .any e = true -> e.on ≠ k := fun e he hb heq => hz (by
      rw [Array.any_eq_true']; exact ⟨e, he, by simp [hb, heq]⟩)
     simp only [Oper.apart, lk.dst, lj.dst, Bool.and_eq_true, Bool.not_eq_true']
     refine ⟨⟨?_, ?_⟩, ?_⟩
     .rw [<- Bool.not_eq_true, List.contains_iff_mem]
      intro hm
      rcases lj.looks _ hm with h' | ⟨_, e, he, hb, hq⟩
      .have h2 : (d0 + k : Nat) < d0 := h'
       omega
      .have h2 : (e.on + d0 : Nat) = d0 + k := hq
       exact hno e he hb oM
     .simp; omega
     .rw [<- Bool.not_eq_true, List.contains_iff_mem]
      intro hm
      rcases lk.looks _ hm with h' | ⟨h', _⟩
      .have h2 : (d0 + j : Nat) < d0 := h'
       omega
      .have h2 : (d0 + j : Nat) < d0 + k := h'
       omega
  .refine vT hl fuel (k + 1) _ oM (by simpa using hs) fun j hj => ?_
   by_cases hjk : j = k
   .subst hjk; simp [hs, hkn]
   .rw [Array.getElem?_setIfInBounds_ne (fun e => hjk e.symm), hL j hj]
    congr 1
    simp only [decide_eq_decide]; omega
theorem aIc (d0 : Nat) {ops : Array Oper} (h : wP d0 ops 0 ops.toList = true) : Region.lexB .any ops = true := by
 have hl : ∀ j o, ops[j]? = some o -> LinOp d0 ops j o := fun j o ho => by
  have := vF h j o (by simpa using ho)
  rw [Nat.zero_add] at this
  exact aD9 this
 simp only [Region.lexB, Bool.and_eq_true]
 refine ⟨?_, vT hl _ 0 _ rfl (by simp) fun j hj => by simp [hj]⟩
 simp only [Region.noSelect, Array.all_eq_true']
 intro o ho
 obtain ⟨j, hj⟩ := Array.getElem?_of_mem ho
 exact (hl j o hj).nosel
def part : List Nat -> Code -> Code
 | [], c => c
 | i :: p, .seq x y => if i == 0 then part p x else part p y
 | i :: p, .cond _ x y => if i == 0 then part p x else part p y
 | _ :: p, .block _ c => part p c
 | _ :: p, .loop c => part p c
 | _ :: _, c => c
def aOc : Code -> Array Oper
 | .region _ o _ => o
 | _ => #[]
def bodyOf (f : Func) : Code := match f.body with
 | some c => c
 | none => .skip
end Go.Fr
namespace Go.Fr
open Go.RowKit
section
structure Bx (Y : Prop) : Prop where
 out : Y
class FO (P : Program) (t : TypeId) (f : Nat) (j : outParam Nat) : Prop where
 out : tM P t f = some j
theorem lk0 {β : Type} {k : Nat} {v : β} {l : List (Nat × β)} : lkp k ((k, v) :: l) = some v := bJ ..
theorem lkN {β : Type} {k j : Nat} {u : β} {r : Option β} {l : List (Nat × β)} (h : lkp k l = r) (hk : k ≠ j := by decide) : lkp k ((j, u) :: l) = r := (aA hk _ _).trans h
theorem rdl {P : Program} {N : Nat} {L : Loc} {F : Nat -> Prop} {w0 : World} {B : LN} {H : LV} {S : LS} {d : Nat} {v : Value} {ty : TypeId} {pos : String} {aft : Array Edge} {t : TypeId} {x : Operand} {b off : Nat} {g : Option (Nat × Bool)} {j : Nat} (hx : ev L x = some (.pointer (some ⟨b, off, none⟩))) (hb : lkp j B = some b) (hv : lkp (ky j off) H = some v) (ht : oU P t = true) (ho : off < 4096) : Rd P ⟨some d, .load t x, ty, pos, aft, g⟩ N L F w0 B H S v := bH j hx hb hv ht ho
theorem zlB {X : Prop} (h : X := by first | exact lk0 | exact lkN lk0 | exact lkN (lkN lk0) | exact lkN (lkN (lkN lk0)) | exact lkN (lkN (lkN (lkN lk0))) | exact st.hB | exact st.hR | exact hB | exact hR | exact q.hB | exact q.hR | exact hst.hB | exact hst.hR | exact hB4 | exact hB0 | exact hB1 | exact hB3 | exact hB2 | exact lkN st.hB | exact lkN st.hR | exact lkN hB | exact lkN hR | exact lkN q.hB | exact lkN q.hR | exact lkN hst.hB | exact lkN hst.hR | exact lkN hB4 | exact lkN hB0 | exact lkN hB1 | exact lkN hB3 | exact lkN hB2 | exact lkN (lkN st.hB) | exact lkN (lkN st.hR) | exact lkN (lkN hB) | exact lkN (lkN hR) | exact lkN (lkN q.hB) | exact lkN (lkN q.hR) | exact lkN (lkN hst.hB) | exact lkN (lkN hst.hR) | exact lkN (lkN hB4) | exact lkN (lkN hB0) | exact lkN (lkN hB1) | exact lkN (lkN hB3) | exact lkN (lkN hB2) | exact lkN (lkN (lkN st.hB)) | exact lkN (lkN (lkN st.hR)) | exact lkN (lkN (lkN hB)) | exact lkN (lkN (lkN hR)) | exact lkN (lkN (lkN q.hB)) | exact lkN (lkN (lkN q.hR))) : X := h
theorem zlH {X : Prop} (h : X := by first | exact rfl | exact q.r47 | exact q.r48 | exact q.r49 | exact q.r50 | exact q.r51 | exact q.r52 | exact q.r57 | exact q.h20 | exact q.h21 | exact q.h22 | exact q.h10 | exact q.h11 | exact q.h15 | exact q.h17 | exact q.h18 | exact q.h19 | exact st.r38 | exact m0_7 | exact h10 | exact r50 | exact st.r41 | exact h7 | exact st.r54 | exact st.h3 | exact st.r55 | exact r48 | exact st.h4 | exact h505 | exact st.h5 | exact st.r56 | exact st.h7 | exact m0_10 | exact h23 | exact m1_51 | exact m0_19 | exact h52 | exact m1_38 | exact hcnt | exact m1_42 | exact h8 | exact r57 | exact r49 | exact st.h2 | exact st.r42 | exact h51 | exact h53 | exact r51 | exact h17 | exact m1_47 | exact m0_16 | exact st.h0 | exact h54 | exact h26 | exact r47 | exact r52 | exact h21 | exact m1_53 | exact st.h1 | exact hst.h0 | exact st.h24 | exact st.h6 | exact r53 | exact st.h28 | exact h1 | exact h508 | exact h19 | exact h18 | exact h16 | exact hst.h2 | exact hst.h1 | exact h29 | exact m1_57 | exact st.r46 | exact st.h23 | exact h27 | exact h2 | exact m0_14 | exact h15 | exact h20 | exact h22 | exact h11 | exact h9 | exact r42 | exact hst.h24 | exact q0 | exact q4 | exact r46) : X := h
theorem rdx {X : Prop} (h : X := by
 first
 | (with_reducible apply bC); exact rfl
 | (with_reducible apply rB); exact rfl
 | (with_reducible apply gQ); exact rfl; exact rfl; omega
 | (with_reducible apply nK); exact rfl; exact rfl; omega
 | (with_reducible apply aQ); exact rfl; exact rfl
 | (with_reducible apply cR); exact rfl; exact rfl
 | (with_reducible apply bB); exact rfl; exact rfl; exact rfl
 | (with_reducible apply cF); exact rfl; exact rfl
 | (with_reducible apply bW); exact rfl
 | (with_reducible apply r9); exact rfl; exact rfl
 | (with_reducible apply aMw); kernel_rfl; exact rfl
 | (with_reducible apply dV); exact rfl; exact rfl
 | (with_reducible apply bU); exact rfl; exact rfl
 | (with_reducible apply d7); exact rfl; exact rfl
 | (with_reducible apply rK); exact rfl; exact rfl; omega
 | (with_reducible apply aD8); exact rfl; exact rfl
 | (with_reducible apply n8); exact rfl; exact rfl
 | (with_reducible apply aE0); exact rfl; exact rfl
 | (with_reducible apply oZ); exact rfl; exact rfl; omega; omega; omega
 | (with_reducible apply aI6); exact rfl; exact rfl; omega; omega; omega
 | (with_reducible apply aFa); exact rfl; exact rfl; omega
 | (with_reducible apply tU); exact rfl; exact rfl; omega; omega
 | (with_reducible apply yU); exact rfl; exact rfl; omega
 | (with_reducible apply gX); exact rfl
 | (with_reducible apply aKu); exact rfl; omega
 | (with_reducible apply aIr); exact rfl
 | (with_reducible apply vV); exact rfl; kernel_rfl; kernel_rfl; omega
 | (with_reducible apply aMm); kernel_rfl; exact rfl
 | (with_reducible apply s6); exact FO.out; exact rfl
 | (with_reducible apply rdl); exact rfl; exact zlB; exact zlH; kernel_rfl; decide) : X := h
theorem g1 {X Y : Prop} (k : Y) (h : Bx Y -> X := by
 intro k_
 first
 | (with_reducible apply aH4); exact rfl; decide; exact rdx; exact k_.out
 | (with_reducible apply aLl); exact k_.out
 | (with_reducible apply aH7); exact k_.out
 | (with_reducible apply aAj); exact k_.out
 | (with_reducible apply aNf); exact k_.out
 | (with_reducible apply aKy); decide; exact rfl; exact rfl; decide; exact k_.out
 | (with_reducible apply aH3); decide; exact rfl; exact rfl; exact k_.out
 | (with_reducible apply aLx); exact rfl; exact rfl; exact k_.out
 | (with_reducible apply aLg); exact k_.out
 | (with_reducible apply aMj); exact k_.out
 | (with_reducible apply aDy); exact k_.out
 | (with_reducible apply aK5); exact k_.out
 | (with_reducible apply aL2); exact k_.out
 | (with_reducible apply uP); exact k_.out
 | (with_reducible apply pQ); exact k_.out
 | (with_reducible apply aEw); exact k_.out
 | (with_reducible apply aB4); exact k_.out
 | (with_reducible apply aCq); decide; exact k_.out
 | (with_reducible apply aL4); exact rfl; decide; exact rdx; exact k_.out
 | (with_reducible apply aKo); decide; exact rfl; exact rfl; decide; exact k_.out
 | (with_reducible apply aIy); decide; exact rfl; exact rfl; exact k_.out
 | (with_reducible apply aK8); exact rfl; exact rfl; exact k_.out
 | (with_reducible apply aEc); exact k_.out
 | (apply aH7); exact k_.out
 | (apply aDy); exact k_.out
 | (apply aAj); exact k_.out
 | (apply aLz); decide; exact rdx; exact k_.out
 | (apply aKn); decide; exact rfl; exact rfl; decide; exact k_.out
 | (apply aH1); decide; exact rfl; exact rfl; exact k_.out
 | (apply aKs); exact rfl; exact rfl; exact k_.out
 | (apply aL9); exact rfl; decide; exact rdx; exact k_.out
 | (apply aMp); exact k_.out
 | (with_reducible apply aCx); kernel_rfl; kernel_rfl; exact k_.out) : X := h ⟨k⟩
theorem g2 {X Y : Prop} (k : Y) (h : Bx Y -> X := by intro k_; (iterate 2 (refine g1 ?_)); exact k_.out) : X := h ⟨k⟩
theorem g3 {X Y : Prop} (k : Y) (h : Bx Y -> X := by intro k_; (iterate 3 (refine g1 ?_)); exact k_.out) : X := h ⟨k⟩
theorem g4 {X Y : Prop} (k : Y) (h : Bx Y -> X := by intro k_; (iterate 4 (refine g1 ?_)); exact k_.out) : X := h ⟨k⟩
theorem g5 {X Y : Prop} (k : Y) (h : Bx Y -> X := by intro k_; (iterate 5 (refine g1 ?_)); exact k_.out) : X := h ⟨k⟩
theorem g6 {X Y : Prop} (k : Y) (h : Bx Y -> X := by intro k_; (iterate 6 (refine g1 ?_)); exact k_.out) : X := h ⟨k⟩
theorem g7 {X Y : Prop} (k : Y) (h : Bx Y -> X := by intro k_; (iterate 7 (refine g1 ?_)); exact k_.out) : X := h ⟨k⟩
theorem g8 {X Y : Prop} (k : Y) (h : Bx Y -> X := by intro k_; (iterate 8 (refine g1 ?_)); exact k_.out) : X := h ⟨k⟩
theorem g9 {X Y : Prop} (k : Y) (h : Bx Y -> X := by intro k_; (iterate 9 (refine g1 ?_)); exact k_.out) : X := h ⟨k⟩
theorem g10 {X Y : Prop} (k : Y) (h : Bx Y -> X := by intro k_; (iterate 10 (refine g1 ?_)); exact k_.out) : X := h ⟨k⟩
theorem g11 {X Y : Prop} (k : Y) (h : Bx Y -> X := by intro k_; (iterate 11 (refine g1 ?_)); exact k_.out) : X := h ⟨k⟩
theorem g12 {X Y : Prop} (k : Y) (h : Bx Y -> X := by intro k_; (iterate 12 (refine g1 ?_)); exact k_.out) : X := h ⟨k⟩
theorem g13 {X Y : Prop} (k : Y) (h : Bx Y -> X := by intro k_; (iterate 13 (refine g1 ?_)); exact k_.out) : X := h ⟨k⟩
theorem g14 {X Y : Prop} (k : Y) (h : Bx Y -> X := by intro k_; (iterate 14 (refine g1 ?_)); exact k_.out) : X := h ⟨k⟩
theorem g15 {X Y : Prop} (k : Y) (h : Bx Y -> X := by intro k_; (iterate 15 (refine g1 ?_)); exact k_.out) : X := h ⟨k⟩
theorem g16 {X Y : Prop} (k : Y) (h : Bx Y -> X := by intro k_; (iterate 16 (refine g1 ?_)); exact k_.out) : X := h ⟨k⟩
theorem g18 {X Y : Prop} (k : Y) (h : Bx Y -> X := by intro k_; (iterate 18 (refine g1 ?_)); exact k_.out) : X := h ⟨k⟩
theorem g20 {X Y : Prop} (k : Y) (h : Bx Y -> X := by intro k_; (iterate 20 (refine g1 ?_)); exact k_.out) : X := h ⟨k⟩
theorem g25 {X Y : Prop} (k : Y) (h : Bx Y -> X := by intro k_; (iterate 25 (refine g1 ?_)); exact k_.out) : X := h ⟨k⟩
theorem g30 {X Y : Prop} (k : Y) (h : Bx Y -> X := by intro k_; (iterate 30 (refine g1 ?_)); exact k_.out) : X := h ⟨k⟩
theorem g40 {X Y : Prop} (k : Y) (h : Bx Y -> X := by intro k_; (iterate 40 (refine g1 ?_)); exact k_.out) : X := h ⟨k⟩
theorem kns {X : Prop} (h : X := by intro a k; repeat (first | exact k.nil | refine k.cons rfl ?_)) : X := h
theorem kno {X : Prop} (h : X := by intro a k; repeat (first | exact k.nil | refine k.cons rfl ?_ | refine k.cons (by exact congrArg (fun n : Int => some (iV n)) oM) ?_)) : X := h
theorem ble {n m : Nat} (h : Nat.ble n m = true := by exact rfl) : n <= m := Nat.le_of_ble_eq_true h
variable {P : Program} {Q Q' : Exit -> Act -> World -> Prop} {K : Act -> World -> Prop} {K0 : Act -> Prop} {N : Nat} {L : Loc} {F : Nat -> Prop} {w0 : World} {B : LN} {H : LV} {S : LS}
variable {tl rest : List Oper} {ops : Array Oper} {d : Nat} {v : Value} {ty : TypeId} {pos : String} {aft : Array Edge} {op : Op} {t : TypeId} {x : Operand} {f b off : Nat}
theorem rl (h : Rd P ⟨some d, op, ty, pos, aft, none⟩ N L F w0 B H S v) (k : GL P ops Q rest N ((d, v) :: L) F w0 B H S) (hd : d < N := by decide) : GL P ops Q (⟨some d, op, ty, pos, aft, none⟩ :: rest) N L F w0 B H S := aH4 rfl hd h k
theorem rq (h : Rd P ⟨some d, op, ty, pos, aft, none⟩ N L F w0 B H S v) (k : GQ P ops Q rest N ((d, v) :: L) F w0 B H S) (hd : d < N := by decide) : GQ P ops Q (⟨some d, op, ty, pos, aft, none⟩ :: rest) N L F w0 B H S := aL4 rfl hd h k
theorem rt (h : Rd P ⟨some d, op, ty, pos, aft, none⟩ N L F w0 B H S v) (k : GT P ops Q tl rest N ((d, v) :: L) F w0 B H S) (hd : d < N := by decide) : GT P ops Q tl (⟨some d, op, ty, pos, aft, none⟩ :: rest) N L F w0 B H S := aL9 rfl hd h k
theorem rm (h : Rd P ⟨some d, op, ty, pos, aft, none⟩ N L F w0 B H S v) (k : GM P ops K0 rest N ((d, v) :: L) F w0 B H S) (hd : d < N := by decide) : GM P ops K0 (⟨some d, op, ty, pos, aft, none⟩ :: rest) N L F w0 B H S := aLz hd h k
theorem rfa (j : Nat) (hf : tM P t f = some j := by kernel_rfl) (hx : ev L x = some (.pointer (some ⟨b, off, none⟩)) := by exact rfl) : Rd P ⟨some d, .fieldAddr t x f, ty, pos, aft, none⟩ N L F w0 B H S (.pointer (some ⟨b, off + j, none⟩)) := s6 hf hx
theorem rld (j : Nat) (hx : ev L x = some (.pointer (some ⟨b, off, none⟩))) (hb : lkp j B = some b) (hv : lkp (ky j off) H = some v) (ht : oU P t = true := by kernel_rfl) (ho : off < 4096 := by decide) : Rd P ⟨some d, .load t x, ty, pos, aft, none⟩ N L F w0 B H S v := bH j hx hb hv ht ho
theorem dS {c : Code} {L' : Loc} {B' : LN} {H' : LV} {S' : LS} (k : GC P c Q N L' F w0 B' H' S') (hL : L = L' := by first | dsimp only | exact rfl) (hB : B = B' := by first | dsimp only | exact rfl) (hH : H = H' := by first | dsimp only | exact rfl) (hS : S = S' := by first | dsimp only | exact rfl) : GC P c Q N L F w0 B H S := by
 subst hL hB hH hS
 exact k
theorem agx {X : Prop} (h : X := by repeat (first | exact Agr.refl _ | apply Agr.pick rfl | apply Agr.skip dE | apply Agr.seq dE | apply Agr.put dE)) : X := h
theorem kI {X : Prop} (h : X := by repeat (first | assumption | exact Lim.nil | apply Lim.aPh _ dE dE | apply Lim.aPi _ dE | apply Lim.aPj _ dE | apply Lim.aPk dE _ 0 (Nat.le_of_ble_eq_true rfl))) : X := h
theorem blx {X : Prop} (h : X := by repeat (first | assumption | exact Blind.body | with_reducible apply Blind.then | with_reducible apply Blind.inBlock)) : X := h
theorem lhx {X : Prop} (h : X := by
 intro o ho
 repeat (first | rfl | exact Lim.h (by assumption) _ dE o ho | rw [aJ dE ho _ _ (Nat.le_of_ble_eq_true rfl)] | rw [dA dE ho _ _ (Nat.le_of_ble_eq_true rfl)] | rw [bV dE ho dE])) : X := h
theorem seex {X : Prop} (h : X := by
 first
 | exact fun w s => s
 | exact fun w s => s.noS
 | exact fun w s => Sees.low _ s (by assumption) agx agx agx
 | exact fun w s => Sees.low _ s kI agx agx agx) : X := h
variable {C : World -> Prop} {late : Nat -> Bool} {o : Oper} {y : Operand} {B0 : LN} {H0 : LV} {S0 : LS}
theorem gL (h : GO P o Q (wpList P ops Q rest) N L F w0 B H S) (hg : o.guard = none := by exact rfl) : GL P ops Q (o :: rest) N L F w0 B H S := aN5 hg h
theorem gr {g : Nat} {listed listed' : Array Bool} (i : Nat) (hi : ops[i]? = some ⟨some d, op, ty, pos, aft, none⟩) (hy : Rd P ⟨some d, op, ty, pos, aft, none⟩ N L F w0 B0 H0 S0 v) (hn : GA P ops Q (Sees F w0 B0 H0 S0) late g listed' N ((d, v) :: L) F w0 B H S)
  (hQ : Blind Q := by exact blx) (hls : listed.setIfInBounds i true = listed' := by exact rfl) (hchk : (Region.noSelect ops && Region.free .any ops listed i && (Region.ready .any ops listed).contains i && !late i && aDg ops late i) = true := by kernel_rfl) (hd : d < N := by decide) (hS : ∀ w, Sees F w0 B H S w -> Sees F w0 B0 H0 S0 w := by exact seex) :
  GA P ops Q (Sees F w0 B0 H0 S0) late (g + 1) listed N L F w0 B H S := yE hi rfl hQ hchk hls hd hy hS hn
theorem gn {g : Nat} {listed listed' : Array Bool} (i : Nat) (hi : ops[i]? = some o) (h : GO P o Q (fun a' w' => (late i = false -> C w') /\ l3 P ops Q C late g listed' a' w') N L F w0 B H S)
  (hg : o.guard = none := by exact rfl) (hls : listed.setIfInBounds i true = listed' := by exact rfl) (hr : Region.ready .any ops listed = [i] := by kernel_rfl) : GA P ops Q C late (g + 1) listed N L F w0 B H S := aMn hi hg hr hls h
theorem gk {lb : Bool} {K : Act -> World -> Prop} (h : GK K N L F w0 B H S) (hC : lb = false -> ∀ w, Sees F w0 B H S w -> C w := by first | exact fun h => absurd h dE | (intro _; exact seex)) : GK (fun a' w' => (lb = false -> C w') /\ K a' w') N L F w0 B H S := fS hC h
variable {fn : FuncId} {aS : List Operand} {ats : Array TypeId} {args : List Value} {u : Value} {cs : List Value}
theorem cvo (ha : Fr.evs L aS = some args) (hc : ∀ w, Sees F w0 B H S w -> Calls P fn args.toArray w fun e w' => e = .returned v /\ Below w.heap.size w w') (hn : GK K N ((d, v) :: L) F w0 B H S) (hd : d < N := by decide) (hf : gM P fn = true := by kernel_rfl) :
  GO P ⟨some d, .call ⟨.value (.func fn), aS.toArray, ats⟩, ty, pos, aft, none⟩ Q K N L F w0 B H S := aGl hd hf ha hc hn
theorem cao {ι : Type} (V : ι -> Value) (Pr : ι -> Prop) (Bx : ι -> LN) (Hx : ι -> LV) (Sx : ι -> LS) (ha : Fr.evs L aS = some args)
  (hc : ∀ w, Sees F w0 B H S w -> Calls P fn args.toArray w fun e w' => ∃ x, Pr x /\ e = .returned (V x) /\ Sees F w0 (Bx x) (Hx x) (Sx x) w') (hn : ∀ x, Pr x -> GK K N ((d, V x) :: L) F w0 (Bx x) (Hx x) (Sx x)) (hd : d < N := by decide) (hf : gM P fn = true := by kernel_rfl) :
  GO P ⟨some d, .call ⟨.value (.func fn), aS.toArray, ats⟩, ty, pos, aft, none⟩ Q K N L F w0 B H S := d8 V Pr Bx Hx Sx hd hf ha hc hn
theorem sto (j : Nat) (hx : ev L x = some (.pointer (some ⟨b, off, none⟩))) (hy : ev L y = some v) (hb : lkp j B = some b) (hl : lkp (ky j off) H = some u) (hn : GK K N L F w0 B ((ky j off, v) :: H) S) (ht : (P.info? t).map (·.size) = some 1 := by kernel_rfl) (h1 : v.oneCell' = true := by exact rfl) (ho : off < 4096 := by decide) :
  GO P ⟨none, .store t x y, ty, pos, aft, none⟩ Q K N L F w0 B H S := cY j hx hy hb hl ht h1 ho hn
theorem sta {cz : Array Value} (j : Nat) (hx : ev L x = some (.pointer (some ⟨b, off, none⟩))) (hy : ev L y = some (.agg cz)) (hb : lkp j B = some b) (hk : knwn j H off cz.toList.length = true) (hn : GK K N L F w0 B (dL j off cz.toList H) S) (ht : (P.info? t).map (·.size) = some cz.size := by kernel_rfl) (h1 : cz.toList.all (·.oneCell') = true := by exact rfl) (ho : off + cz.toList.length <= 4096 := by exact Nat.le_of_ble_eq_true rfl) :
  GO P ⟨none, .store t x y, ty, pos, aft, none⟩ Q K N L F w0 B H S := cI j hx hy hb hk ht h1 ho hn
theorem alo (n : Nat) (hz : aEo P t = some cs) (hk : lkp n B = none) (hn : ∀ b, w0.heap.size <= b -> GK K N ((d, pT b) :: L) F w0 ((n, b) :: B) (aL n 0 cs ++ H) S) (hkH : ∀ o, o < 4096 -> lkp (ky n o) H = none := by exact lhx) (hd : d < N := by decide) (hs : cs.length <= 4096 := by exact Nat.le_of_ble_eq_true rfl) :
  GO P ⟨some d, .alloc t, ty, pos, aft, none⟩ Q K N L F w0 B H S := eJ n hd hz hk hkH hs hn
theorem bxo (n : Nat) (hx : ev L x = some v) (hz : v.cells.toList = cs) (hk : lkp n B = none) (hn : ∀ b, w0.heap.size <= b -> GK K N ((d, pT b) :: L) F w0 ((n, b) :: B) (aL n 0 cs ++ H) S) (hkH : ∀ o, o < 4096 -> lkp (ky n o) H = none := by exact lhx) (hd : d < N := by decide) (hs : cs.length <= 4096 := by exact Nat.le_of_ble_eq_true rfl) :
  GO P ⟨some d, .box t x, ty, pos, aft, none⟩ Q K N L F w0 B H S := fU n hd hx hz hk hkH hs hn
end
end Go.Fr
namespace Go.Fr
section
variable {P : Program} {Q : Exit -> Act -> World -> Prop} {N : Nat} {L : Loc} {F : Nat -> Prop} {w0 : World} {B : List (Nat × Nat)} {H : List (Nat × Value)} {S : List (Nat × Slc)} {rest : List Oper} {ops : Array Oper} {d : Nat} {v : Value} {ty : TypeId} {pos : String} {aft : Array Edge} {op : Op}
theorem kX {X : Prop} (h : X := by repeat (first | exact Knw.refl _ | apply Knw.cons)) : X := h
theorem kW {X : Prop} (h : X := by intro w_; kernel_rfl) : X := h
theorem sI {p : World -> Prop} : ∀ w, p w -> p w := fun _ h => h
theorem lY {A X : Prop} (a : A) (h : A -> X := by intro a_; repeat (first | exact a_ | apply Lim.aPh _ dE dE | apply Lim.aPi _ dE)) : X := h a
theorem fX {A X : Prop} (a : A) (h : A -> X := by intro a_ k_ h1_ o_ ho_; exact Eq.trans (by repeat (first | rfl | rw [bV oM ho_ dE])) (a_ k_ h1_ o_ ho_)) : X := h a
theorem fW {A X : Prop} (a : A) (h : A -> X := by intro a_ k_ h1_ h2_ o_ ho_; exact Eq.trans (by repeat (first | rfl | rw [bV oM ho_ dE])) (a_ k_ h1_ h2_ o_ ho_)) : X := h a
theorem fV {A X : Prop} (a : A) (h : A -> X := by intro a_ k_ h1_ h2_; exact Eq.trans aH (a_ k_ h1_ h2_)) : X := h a
theorem eZ1 {X Y : Prop} (k : Y) (h : Bx Y -> X := by
  intro k_
  first
  | (with_reducible apply bK); exact rfl; exact rfl; exact k_.out
  | (with_reducible apply aU); exact rfl; exact rfl; exact k_.out
  | (refine g1 ?_; exact k_.out)) : X := h ⟨k⟩
theorem rX {Y : Prop} (h : Rd P ⟨some d, op, ty, pos, aft, none⟩ N L F w0 B H S v) (k : Y) (hk : Bx Y -> GL P ops Q rest N ((d, v) :: L) F w0 B H S) (hd : d < N) : GL P ops Q (⟨some d, op, ty, pos, aft, none⟩ :: rest) N L F w0 B H S := aH4 rfl hd h (hk ⟨k⟩)
theorem rZ1 {Y : Prop} (h : Rd P ⟨some d, op, ty, pos, aft, none⟩ N L F w0 B H S v) (k : Y) (hk : Bx Y -> GL P ops Q rest N ((d, v) :: L) F w0 B H S := by intro k_; (iterate 1 (refine g1 ?_)); exact k_.out) (hd : d < N := by decide) : GL P ops Q (⟨some d, op, ty, pos, aft, none⟩ :: rest) N L F w0 B H S := rX h k hk hd
theorem rZ2 {Y : Prop} (h : Rd P ⟨some d, op, ty, pos, aft, none⟩ N L F w0 B H S v) (k : Y) (hk : Bx Y -> GL P ops Q rest N ((d, v) :: L) F w0 B H S := by intro k_; (iterate 2 (refine g1 ?_)); exact k_.out) (hd : d < N := by decide) : GL P ops Q (⟨some d, op, ty, pos, aft, none⟩ :: rest) N L F w0 B H S := rX h k hk hd
theorem rZ3 {Y : Prop} (h : Rd P ⟨some d, op, ty, pos, aft, none⟩ N L F w0 B H S v) (k : Y) (hk : Bx Y -> GL P ops Q rest N ((d, v) :: L) F w0 B H S := by intro k_; (iterate 3 (refine g1 ?_)); exact k_.out) (hd : d < N := by decide) : GL P ops Q (⟨some d, op, ty, pos, aft, none⟩ :: rest) N L F w0 B H S := rX h k hk hd
theorem rZ4 {Y : Prop} (h : Rd P ⟨some d, op, ty, pos, aft, none⟩ N L F w0 B H S v) (k : Y) (hk : Bx Y -> GL P ops Q rest N ((d, v) :: L) F w0 B H S := by intro k_; (iterate 4 (refine g1 ?_)); exact k_.out) (hd : d < N := by decide) : GL P ops Q (⟨some d, op, ty, pos, aft, none⟩ :: rest) N L F w0 B H S := rX h k hk hd
theorem rZ5 {Y : Prop} (h : Rd P ⟨some d, op, ty, pos, aft, none⟩ N L F w0 B H S v) (k : Y) (hk : Bx Y -> GL P ops Q rest N ((d, v) :: L) F w0 B H S := by intro k_; (iterate 5 (refine g1 ?_)); exact k_.out) (hd : d < N := by decide) : GL P ops Q (⟨some d, op, ty, pos, aft, none⟩ :: rest) N L F w0 B H S := rX h k hk hd
theorem rZ6 {Y : Prop} (h : Rd P ⟨some d, op, ty, pos, aft, none⟩ N L F w0 B H S v) (k : Y) (hk : Bx Y -> GL P ops Q rest N ((d, v) :: L) F w0 B H S := by intro k_; (iterate 6 (refine g1 ?_)); exact k_.out) (hd : d < N := by decide) : GL P ops Q (⟨some d, op, ty, pos, aft, none⟩ :: rest) N L F w0 B H S := rX h k hk hd
theorem rZ7 {Y : Prop} (h : Rd P ⟨some d, op, ty, pos, aft, none⟩ N L F w0 B H S v) (k : Y) (hk : Bx Y -> GL P ops Q rest N ((d, v) :: L) F w0 B H S := by intro k_; (iterate 7 (refine g1 ?_)); exact k_.out) (hd : d < N := by decide) : GL P ops Q (⟨some d, op, ty, pos, aft, none⟩ :: rest) N L F w0 B H S := rX h k hk hd
theorem rZ8 {Y : Prop} (h : Rd P ⟨some d, op, ty, pos, aft, none⟩ N L F w0 B H S v) (k : Y) (hk : Bx Y -> GL P ops Q rest N ((d, v) :: L) F w0 B H S := by intro k_; (iterate 8 (refine g1 ?_)); exact k_.out) (hd : d < N := by decide) : GL P ops Q (⟨some d, op, ty, pos, aft, none⟩ :: rest) N L F w0 B H S := rX h k hk hd
theorem wZ9 {Y : Prop} (h : Rd P ⟨some d, op, ty, pos, aft, none⟩ N L F w0 B H S v) (k : Y) (hk : Bx Y -> GL P ops Q rest N ((d, v) :: L) F w0 B H S := by intro k_; (iterate 9 (refine eZ1 ?_)); exact k_.out) (hd : d < N := by decide) : GL P ops Q (⟨some d, op, ty, pos, aft, none⟩ :: rest) N L F w0 B H S := rX h k hk hd
theorem sA {Y : Prop} (h : Rd P ⟨some d, op, ty, pos, aft, none⟩ N L F w0 B H S v) (k : Y) (hk : Bx Y -> GL P ops Q rest N ((d, v) :: L) F w0 B H S := by intro k_; (iterate 11 (refine eZ1 ?_)); exact k_.out) (hd : d < N := by decide) : GL P ops Q (⟨some d, op, ty, pos, aft, none⟩ :: rest) N L F w0 B H S := rX h k hk hd
theorem sQ {Y : Prop} (h : Rd P ⟨some d, op, ty, pos, aft, none⟩ N L F w0 B H S v) (k : Y) (hk : Bx Y -> GL P ops Q rest N ((d, v) :: L) F w0 B H S := by intro k_; (iterate 13 (refine eZ1 ?_)); exact k_.out) (hd : d < N := by decide) : GL P ops Q (⟨some d, op, ty, pos, aft, none⟩ :: rest) N L F w0 B H S := rX h k hk hd
theorem wA {Y : Prop} (h : Rd P ⟨some d, op, ty, pos, aft, none⟩ N L F w0 B H S v) (k : Y) (hk : Bx Y -> GL P ops Q rest N ((d, v) :: L) F w0 B H S := by intro k_; (iterate 15 (refine eZ1 ?_)); exact k_.out) (hd : d < N := by decide) : GL P ops Q (⟨some d, op, ty, pos, aft, none⟩ :: rest) N L F w0 B H S := rX h k hk hd
theorem yZ7 {X Y : Prop} (k : Y) (h : Bx Y -> X := by intro k_; (iterate 7 (refine eZ1 ?_)); exact k_.out) : X := h ⟨k⟩
theorem yZ9 {X Y : Prop} (k : Y) (h : Bx Y -> X := by intro k_; (iterate 9 (refine eZ1 ?_)); exact k_.out) : X := h ⟨k⟩
theorem qG {X Y : Prop} (k : Y) (h : Bx Y -> X := by intro k_; (iterate 11 (refine eZ1 ?_)); exact k_.out) : X := h ⟨k⟩
theorem l5 {X Y : Prop} (k : Y) (h : Bx Y -> X := by intro k_; (iterate 12 (refine eZ1 ?_)); exact k_.out) : X := h ⟨k⟩
theorem pA {X Y : Prop} (k : Y) (h : Bx Y -> X := by intro k_; (iterate 13 (refine eZ1 ?_)); exact k_.out) : X := h ⟨k⟩
theorem oD {X Y : Prop} (k : Y) (h : Bx Y -> X := by intro k_; (iterate 14 (refine eZ1 ?_)); exact k_.out) : X := h ⟨k⟩
theorem s4 {X Y : Prop} (k : Y) (h : Bx Y -> X := by intro k_; (iterate 15 (refine eZ1 ?_)); exact k_.out) : X := h ⟨k⟩
theorem xH {X Y : Prop} (k : Y) (h : Bx Y -> X := by intro k_; (iterate 16 (refine eZ1 ?_)); exact k_.out) : X := h ⟨k⟩
theorem uC {X Y : Prop} (k : Y) (h : Bx Y -> X := by intro k_; (iterate 17 (refine eZ1 ?_)); exact k_.out) : X := h ⟨k⟩
theorem zE {X Y : Prop} (k : Y) (h : Bx Y -> X := by intro k_; (iterate 21 (refine eZ1 ?_)); exact k_.out) : X := h ⟨k⟩
end
end Go.Fr
namespace Go.Proofs.YthomapgobmdicaaGreat
open Go.RowKit Go.Fr Go.Tab
section
variable {F : Nat -> Prop} {w0 : World} {B : LN} {H : LV} {S : LS}
instance i25_0 : FO Tryz.prog 25 0 0 := ⟨by kernel_rfl⟩
instance i25_1 : FO Tryz.prog 25 1 1 := ⟨by kernel_rfl⟩
instance i25_2 : FO Tryz.prog 25 2 2 := ⟨by kernel_rfl⟩
instance i25_3 : FO Tryz.prog 25 3 3 := ⟨by kernel_rfl⟩
instance i25_4 : FO Tryz.prog 25 4 4 := ⟨by kernel_rfl⟩
instance i25_5 : FO Tryz.prog 25 5 5 := ⟨by kernel_rfl⟩
instance i25_6 : FO Tryz.prog 25 6 6 := ⟨by kernel_rfl⟩
instance i25_7 : FO Tryz.prog 25 7 7 := ⟨by kernel_rfl⟩
instance i25_8 : FO Tryz.prog 25 8 8 := ⟨by kernel_rfl⟩
instance i25_9 : FO Tryz.prog 25 9 9 := ⟨by kernel_rfl⟩
instance i25_10 : FO Tryz.prog 25 10 10 := ⟨by kernel_rfl⟩
instance i25_11 : FO Tryz.prog 25 11 11 := ⟨by kernel_rfl⟩
instance i25_12 : FO Tryz.prog 25 12 12 := ⟨by kernel_rfl⟩
instance i25_13 : FO Tryz.prog 25 13 13 := ⟨by kernel_rfl⟩
instance i25_14 : FO Tryz.prog 25 14 14 := ⟨by kernel_rfl⟩
instance i25_15 : FO Tryz.prog 25 15 15 := ⟨by kernel_rfl⟩
instance i25_16 : FO Tryz.prog 25 16 16 := ⟨by kernel_rfl⟩
instance i25_17 : FO Tryz.prog 25 17 17 := ⟨by kernel_rfl⟩
instance i43_0 : FO Tryz.prog 43 0 0 := ⟨by kernel_rfl⟩
instance i43_1 : FO Tryz.prog 43 1 1 := ⟨by kernel_rfl⟩
instance i51_1 : FO Tryz.prog 51 1 1 := ⟨by kernel_rfl⟩
instance i51_2 : FO Tryz.prog 51 2 2 := ⟨by kernel_rfl⟩
instance i51_6 : FO Tryz.prog 51 6 6 := ⟨by kernel_rfl⟩
instance i51_7 : FO Tryz.prog 51 7 7 := ⟨by kernel_rfl⟩
instance i51_13 : FO Tryz.prog 51 13 13 := ⟨by kernel_rfl⟩
instance i80_0 : FO Tryz.prog 80 0 0 := ⟨by kernel_rfl⟩
instance i80_1 : FO Tryz.prog 80 1 1 := ⟨by kernel_rfl⟩
instance i82_0 : FO Tryz.prog 82 0 0 := ⟨by kernel_rfl⟩
instance i82_1 : FO Tryz.prog 82 1 1 := ⟨by kernel_rfl⟩
instance i85_0 : FO Tryz.prog 85 0 0 := ⟨by kernel_rfl⟩
instance i85_1 : FO Tryz.prog 85 1 1 := ⟨by kernel_rfl⟩
instance i85_2 : FO Tryz.prog 85 2 3 := ⟨by kernel_rfl⟩
instance i85_3 : FO Tryz.prog 85 3 4 := ⟨by kernel_rfl⟩
instance i85_4 : FO Tryz.prog 85 4 6 := ⟨by kernel_rfl⟩
instance i85_5 : FO Tryz.prog 85 5 7 := ⟨by kernel_rfl⟩
instance i85_6 : FO Tryz.prog 85 6 9 := ⟨by kernel_rfl⟩
instance i85_7 : FO Tryz.prog 85 7 10 := ⟨by kernel_rfl⟩
instance i85_8 : FO Tryz.prog 85 8 11 := ⟨by kernel_rfl⟩
instance i85_9 : FO Tryz.prog 85 9 12 := ⟨by kernel_rfl⟩
instance i85_10 : FO Tryz.prog 85 10 13 := ⟨by kernel_rfl⟩
instance i85_11 : FO Tryz.prog 85 11 14 := ⟨by kernel_rfl⟩
instance i85_12 : FO Tryz.prog 85 12 15 := ⟨by kernel_rfl⟩
instance i85_13 : FO Tryz.prog 85 13 16 := ⟨by kernel_rfl⟩
instance i85_14 : FO Tryz.prog 85 14 17 := ⟨by kernel_rfl⟩
instance i85_15 : FO Tryz.prog 85 15 18 := ⟨by kernel_rfl⟩
instance i105_0 : FO Tryz.prog 105 0 0 := ⟨by kernel_rfl⟩
instance i105_1 : FO Tryz.prog 105 1 19 := ⟨by kernel_rfl⟩
instance i105_2 : FO Tryz.prog 105 2 38 := ⟨by kernel_rfl⟩
instance i105_3 : FO Tryz.prog 105 3 39 := ⟨by kernel_rfl⟩
instance i105_4 : FO Tryz.prog 105 4 41 := ⟨by kernel_rfl⟩
instance i105_5 : FO Tryz.prog 105 5 42 := ⟨by kernel_rfl⟩
instance i105_6 : FO Tryz.prog 105 6 43 := ⟨by kernel_rfl⟩
instance i105_7 : FO Tryz.prog 105 7 44 := ⟨by kernel_rfl⟩
instance i105_8 : FO Tryz.prog 105 8 46 := ⟨by kernel_rfl⟩
instance i105_9 : FO Tryz.prog 105 9 47 := ⟨by kernel_rfl⟩
instance i105_10 : FO Tryz.prog 105 10 48 := ⟨by kernel_rfl⟩
instance i105_11 : FO Tryz.prog 105 11 49 := ⟨by kernel_rfl⟩
instance i105_12 : FO Tryz.prog 105 12 50 := ⟨by kernel_rfl⟩
instance i105_13 : FO Tryz.prog 105 13 51 := ⟨by kernel_rfl⟩
instance i105_14 : FO Tryz.prog 105 14 52 := ⟨by kernel_rfl⟩
instance i105_15 : FO Tryz.prog 105 15 53 := ⟨by kernel_rfl⟩
instance i105_16 : FO Tryz.prog 105 16 54 := ⟨by kernel_rfl⟩
instance i105_17 : FO Tryz.prog 105 17 55 := ⟨by kernel_rfl⟩
instance i105_18 : FO Tryz.prog 105 18 56 := ⟨by kernel_rfl⟩
instance i105_19 : FO Tryz.prog 105 19 57 := ⟨by kernel_rfl⟩
instance i105_20 : FO Tryz.prog 105 20 58 := ⟨by kernel_rfl⟩
instance i105_21 : FO Tryz.prog 105 21 59 := ⟨by kernel_rfl⟩
instance i111_0 : FO Tryz.prog 111 0 0 := ⟨by kernel_rfl⟩
instance i111_1 : FO Tryz.prog 111 1 1 := ⟨by kernel_rfl⟩
instance i111_2 : FO Tryz.prog 111 2 2 := ⟨by kernel_rfl⟩
instance i111_3 : FO Tryz.prog 111 3 3 := ⟨by kernel_rfl⟩
instance i111_4 : FO Tryz.prog 111 4 4 := ⟨by kernel_rfl⟩
instance i111_5 : FO Tryz.prog 111 5 5 := ⟨by kernel_rfl⟩
instance i111_6 : FO Tryz.prog 111 6 7 := ⟨by kernel_rfl⟩
instance i111_7 : FO Tryz.prog 111 7 8 := ⟨by kernel_rfl⟩
instance i111_8 : FO Tryz.prog 111 8 9 := ⟨by kernel_rfl⟩
instance i111_9 : FO Tryz.prog 111 9 10 := ⟨by kernel_rfl⟩
instance i111_10 : FO Tryz.prog 111 10 11 := ⟨by kernel_rfl⟩
instance i111_11 : FO Tryz.prog 111 11 12 := ⟨by kernel_rfl⟩
instance i111_12 : FO Tryz.prog 111 12 13 := ⟨by kernel_rfl⟩
instance i111_13 : FO Tryz.prog 111 13 14 := ⟨by kernel_rfl⟩
instance i111_14 : FO Tryz.prog 111 14 15 := ⟨by kernel_rfl⟩
instance i113_0 : FO Tryz.prog 113 0 0 := ⟨by kernel_rfl⟩
instance i113_1 : FO Tryz.prog 113 1 1 := ⟨by kernel_rfl⟩
instance i116_0 : FO Tryz.prog 116 0 0 := ⟨by kernel_rfl⟩
instance i116_1 : FO Tryz.prog 116 1 1 := ⟨by kernel_rfl⟩
instance i116_2 : FO Tryz.prog 116 2 2 := ⟨by kernel_rfl⟩
instance i116_3 : FO Tryz.prog 116 3 3 := ⟨by kernel_rfl⟩
instance i116_4 : FO Tryz.prog 116 4 4 := ⟨by kernel_rfl⟩
instance i116_5 : FO Tryz.prog 116 5 5 := ⟨by kernel_rfl⟩
instance i116_6 : FO Tryz.prog 116 6 6 := ⟨by kernel_rfl⟩
instance i116_7 : FO Tryz.prog 116 7 7 := ⟨by kernel_rfl⟩
instance i116_8 : FO Tryz.prog 116 8 23 := ⟨by kernel_rfl⟩
instance i116_9 : FO Tryz.prog 116 9 24 := ⟨by kernel_rfl⟩
instance i116_10 : FO Tryz.prog 116 10 25 := ⟨by kernel_rfl⟩
instance i116_11 : FO Tryz.prog 116 11 26 := ⟨by kernel_rfl⟩
instance i116_12 : FO Tryz.prog 116 12 28 := ⟨by kernel_rfl⟩
instance i116_13 : FO Tryz.prog 116 13 29 := ⟨by kernel_rfl⟩
instance i128_0 : FO Tryz.prog 128 0 0 := ⟨by kernel_rfl⟩
instance i128_1 : FO Tryz.prog 128 1 1 := ⟨by kernel_rfl⟩
instance i128_2 : FO Tryz.prog 128 2 2 := ⟨by kernel_rfl⟩
instance i128_3 : FO Tryz.prog 128 3 3 := ⟨by kernel_rfl⟩
instance i171_0 : FO Tryz.prog 171 0 0 := ⟨by kernel_rfl⟩
instance i171_1 : FO Tryz.prog 171 1 1 := ⟨by kernel_rfl⟩
end
abbrev CB (n : Nat) (a : Array Value) (w : World) (v : Value) : Prop := Calls Tryz.prog n a w fun e w' => e = .returned v /\ Below w.heap.size w w'
theorem _root_.Go.Calls.mT {P : Program} {f : FuncId} {a : Array Value} {w : World} {v v' : Value} {R : World -> Prop} (h : Calls P f a w fun e w' => e = .returned v /\ R w') (x : Ending.returned v = .returned v') : Calls P f a w fun e w' => e = .returned v' /\ R w' := h.mono fun _ _ y => ⟨y.1.trans x, y.2⟩
theorem cRr {v v' : Value} (h : v = v') : Ending.returned v = Ending.returned v' := congrArg Ending.returned h
open Go.RowKit Go.Fr Go.Tab
section
variable {F : Nat -> Prop} {w0 : World} {B : LN} {H : LV} {S : LS}
theorem dX {k : IntKind} {a b : Int} (h : a = b) : Ending.returned (.int k a) = .returned (.int k b) := by rw [h]
theorem oK {a b : Bool} (h : a = b) : Ending.returned (.bool a) = .returned (.bool b) := by rw [h]
theorem aOw {k : IntKind} {a b a' b' : Int} (h : a = a') (h2 : b = b') : Ending.returned (.tuple #[.int k a, .int k b]) = .returned (.tuple #[.int k a', .int k b']) := by rw [h, h2]
theorem tJ {k : IntKind} {a b c a' b' c' : Int} (h : a = a') (h2 : b = b') (h3 : c = c') : Ending.returned (.tuple #[.int k a, .int k b, .int k c]) = .returned (.tuple #[.int k a', .int k b', .int k c']) := by rw [h, h2, h3]
theorem aJ9 {k : IntKind} {a b a' b' : Int} (h : a = a') (h2 : b = b') : Ending.returned (.agg #[.int k a, .int k b]) = .returned (.agg #[.int k a', .int k b']) := by rw [h, h2]
theorem dF (a b : Int) : a - a / b * b = a % b := by rw [Int.emod_def, Int.mul_comm]
theorem gU (a b : Int) (hb : 0 < b) (hb2 : b <= 1000000000) (ha : -4611686018427387904 <= a /\ a <= 4611686018427387904) (w : World) : CB 96 #[iV a, iV b] w (iV (a / b)) := by
 refine aF (args := [iV a, iV b]) (L := [(0, iV a), (1, iV b)]) (N := 16) Tryz.func96 rfl rfl ble rfl (sS w) ?_
 have hq := aFx (m := a) hb oM oM
 have hq2 : -4611686018427387904 <= a.tdiv b := by
  have h := Int.natAbs_tdiv a b
  have h3 : (a.tdiv b).natAbs <= a.natAbs := h ▸ Nat.div_le_self _ _
  omega
 refine g20 ?_
 refine g2 ?_
 refine aB rfl (fun c12_ => ?_) (fun c12_ => ?_)
 .first | have p12_ := oT c12_ | have p12_ := beq_iff_eq.1 c12_ | have p12_ := bne_iff_ne.1 c12_ | skip
  refine g13 ?_
  refine aT (.inl rfl) rfl (aE rfl) fun w_ s_ => ⟨?_, s_.aPg⟩
  first
   | exact dX (Cal.floor_t hb (oT c12_))
   | exact dX (Cal.floor_f hb (oF c12_))
 .first | have p12_ := oF c12_ | have p12_ := beq_eq_false_iff_ne.1 c12_ | have p12_ := bne_eq_false_iff_eq.1 c12_ | skip
  refine g9 ?_
  refine aT (.inl rfl) rfl (aE rfl) fun w_ s_ => ⟨?_, s_.aPg⟩
  first
   | exact dX (Cal.floor_t hb (oT c12_))
   | exact dX (Cal.floor_f hb (oF c12_))
theorem oP {a b : Int} (h : a = b) : (a == b) = true := beq_iff_eq.2 h
theorem nZ {a b : Int} (h : a ≠ b) : (a == b) = false := beq_eq_false_iff_ne.2 h
theorem jA {a b : Int} (h : a = b) : (a != b) = false := by rw [bne, oP h]; rfl
theorem iW {a b : Int} (h : a ≠ b) : (a != b) = true := by rw [bne, nZ h]; rfl
theorem aLv (y : Int) (h0 : 0 <= y) (h : y % 4 ≠ 0) (w : World) : CB 117 #[iV y] w (.bool false) := by
 refine aF (args := [iV y]) (L := [(0, iV y)]) (N := 16) Tryz.func117 rfl rfl ble rfl (sS w) (g9 ?_)
 refine rl ((aQ rfl rfl).to (cB (nZ h))) (g14 ?_)
 refine aT (.inl rfl) rfl (aE rfl) fun w_ s_ => ⟨?_, s_.aPg⟩
 first | rfl | (simp; done)
theorem aHz (y : Int) (h0 : 0 <= y) (h : y % 4 = 0) (h1 : y % 100 ≠ 0) (w : World) : CB 117 #[iV y] w (.bool true) := by
 refine aF (args := [iV y]) (L := [(0, iV y)]) (N := 16) Tryz.func117 rfl rfl ble rfl (sS w) (g9 ?_)
 refine rZ6 ((aQ rfl rfl).to (cB (oP h))) ?_
 refine rl ((cF rfl rfl).to (cB (iW h1))) (g12 ?_)
 refine aT (.inl rfl) rfl (aE rfl) fun w_ s_ => ⟨?_, s_.aPg⟩
 first | rfl | (simp; done)
theorem aJa (y : Int) (h0 : 0 <= y) (h : y % 4 = 0) (h1 : y % 100 = 0) (w : World) : CB 117 #[iV y] w (.bool (y % 400 == 0)) := by
 refine aF (args := [iV y]) (L := [(0, iV y)]) (N := 16) Tryz.func117 rfl rfl ble rfl (sS w) (g9 ?_)
 refine rZ6 ((aQ rfl rfl).to (cB (oP h))) ?_
 refine rl ((cF rfl rfl).to (cB (jA h1))) (g15 ?_)
 refine aT (.inl rfl) rfl (aE rfl) fun w_ s_ => ⟨?_, s_.aPg⟩
 first | rfl | (simp; done)
theorem aEp (y : Int) (h0 : 0 <= y) (w : World) : CB 117 #[iV y] w (.bool (Cal.leapB y)) := by
 by_cases h : y % 4 = 0
 .by_cases h1 : y % 100 = 0
  .refine (aJa y h0 h h1 w).mono fun e w' ⟨he, hb⟩ => ⟨he.trans (oK ?_), hb⟩
   unfold Cal.leapB
   by_cases h2 : y % 400 = 0 <;> simp [h, h1, h2]
  .refine (aHz y h0 h h1 w).mono fun e w' ⟨he, hb⟩ => ⟨he.trans (oK ?_), hb⟩
   unfold Cal.leapB
   simp [h, h1]
 .refine (aLv y h0 h w).mono fun e w' ⟨he, hb⟩ => ⟨he.trans (oK ?_), hb⟩
  unfold Cal.leapB
  simp [h]
theorem l0 (m y : Int) (h0 : 0 <= y) (w : World) : CB 95 #[iV m, iV y] w (iV (Cal.mdays m y)) := by
 refine aF (args := [iV m, iV y]) (L := [(0, iV m), (1, iV y)]) (N := 15) Tryz.func95 rfl rfl ble rfl (sS w) (g18 ?_)
 refine aB rfl (fun c6_ => ?_) (fun c6_ => ?_)
 .first | have p6_ := oT c6_ | have p6_ := beq_iff_eq.1 c6_ | have p6_ := bne_iff_ne.1 c6_ | skip
  refine g4 ?_
  refine gL (cvo rfl (fun w_ s_ => aEp _ oM w_) (g2 ?_))
  refine aB rfl (fun c9_ => ?_) (fun c9_ => ?_)
  .first | have p9_ := oT c9_ | have p9_ := beq_iff_eq.1 c9_ | have p9_ := bne_iff_ne.1 c9_ | skip
   refine g9 ?_
   refine aT (.inl rfl) rfl (aE rfl) fun w_ s_ => ⟨?_, s_.aPg⟩
   refine dX ?_
   simp_all [Cal.mdays, Cal.lp]
  .first | have p9_ := oF c9_ | have p9_ := beq_eq_false_iff_ne.1 c9_ | have p9_ := bne_eq_false_iff_eq.1 c9_ | skip
   refine g10 ?_
   refine aT (.inl rfl) rfl (aE rfl) fun w_ s_ => ⟨?_, s_.aPg⟩
   refine dX ?_
   simp_all [Cal.mdays, Cal.lp]
 .first | have p6_ := oF c6_ | have p6_ := beq_eq_false_iff_ne.1 c6_ | have p6_ := bne_eq_false_iff_eq.1 c6_ | skip
  refine g7 ?_
  refine aB rfl (fun c10_ => ?_) (fun c10_ => ?_)
  .first | have p10_ := oT c10_ | have p10_ := beq_iff_eq.1 c10_ | have p10_ := bne_iff_ne.1 c10_ | skip
   refine g2 ?_
   refine aB rfl (fun c10_ => ?_) (fun c10_ => ?_)
   .first | have p10_ := oT c10_ | have p10_ := beq_iff_eq.1 c10_ | have p10_ := bne_iff_ne.1 c10_ | skip
    refine g8 ?_
    refine aT (.inl rfl) rfl (aE rfl) fun w_ s_ => ⟨?_, s_.aPg⟩
    refine dX ?_
    simp_all [Cal.mdays, Cal.lp]
   .first | have p10_ := oF c10_ | have p10_ := beq_eq_false_iff_ne.1 c10_ | have p10_ := bne_eq_false_iff_eq.1 c10_ | skip
    refine g9 ?_
    refine aT (.inl rfl) rfl (aE rfl) fun w_ s_ => ⟨?_, s_.aPg⟩
    refine dX ?_
    simp_all [Cal.mdays, Cal.lp]
  .first | have p10_ := oF c10_ | have p10_ := beq_eq_false_iff_ne.1 c10_ | have p10_ := bne_eq_false_iff_eq.1 c10_ | skip
   refine g6 ?_
   refine aB rfl (fun c10_ => ?_) (fun c10_ => ?_)
   .first | have p10_ := oT c10_ | have p10_ := beq_iff_eq.1 c10_ | have p10_ := bne_iff_ne.1 c10_ | skip
    refine g2 ?_
    refine aB rfl (fun c10_ => ?_) (fun c10_ => ?_)
    .first | have p10_ := oT c10_ | have p10_ := beq_iff_eq.1 c10_ | have p10_ := bne_iff_ne.1 c10_ | skip
     refine g8 ?_
     refine aT (.inl rfl) rfl (aE rfl) fun w_ s_ => ⟨?_, s_.aPg⟩
     refine dX ?_
     simp_all [Cal.mdays, Cal.lp]
    .first | have p10_ := oF c10_ | have p10_ := beq_eq_false_iff_ne.1 c10_ | have p10_ := bne_eq_false_iff_eq.1 c10_ | skip
     refine g9 ?_
     refine aT (.inl rfl) rfl (aE rfl) fun w_ s_ => ⟨?_, s_.aPg⟩
     refine dX ?_
     simp_all [Cal.mdays, Cal.lp]
   .first | have p10_ := oF c10_ | have p10_ := beq_eq_false_iff_ne.1 c10_ | have p10_ := bne_eq_false_iff_eq.1 c10_ | skip
    refine g6 ?_
    refine aB rfl (fun c10_ => ?_) (fun c10_ => ?_)
    .first | have p10_ := oT c10_ | have p10_ := beq_iff_eq.1 c10_ | have p10_ := bne_iff_ne.1 c10_ | skip
     refine g2 ?_
     refine aB rfl (fun c10_ => ?_) (fun c10_ => ?_)
     .first | have p10_ := oT c10_ | have p10_ := beq_iff_eq.1 c10_ | have p10_ := bne_iff_ne.1 c10_ | skip
      refine g8 ?_
      refine aT (.inl rfl) rfl (aE rfl) fun w_ s_ => ⟨?_, s_.aPg⟩
      refine dX ?_
      simp_all [Cal.mdays, Cal.lp]
     .first | have p10_ := oF c10_ | have p10_ := beq_eq_false_iff_ne.1 c10_ | have p10_ := bne_eq_false_iff_eq.1 c10_ | skip
      refine g9 ?_
      refine aT (.inl rfl) rfl (aE rfl) fun w_ s_ => ⟨?_, s_.aPg⟩
      refine dX ?_
      simp_all [Cal.mdays, Cal.lp]
    .first | have p10_ := oF c10_ | have p10_ := beq_eq_false_iff_ne.1 c10_ | have p10_ := bne_eq_false_iff_eq.1 c10_ | skip
     refine g5 ?_
     refine aB rfl (fun c10_ => ?_) (fun c10_ => ?_)
     .first | have p10_ := oT c10_ | have p10_ := beq_iff_eq.1 c10_ | have p10_ := bne_iff_ne.1 c10_ | skip
      refine g8 ?_
      refine aT (.inl rfl) rfl (aE rfl) fun w_ s_ => ⟨?_, s_.aPg⟩
      refine dX ?_
      simp_all [Cal.mdays, Cal.lp]
     .first | have p10_ := oF c10_ | have p10_ := beq_eq_false_iff_ne.1 c10_ | have p10_ := bne_eq_false_iff_eq.1 c10_ | skip
      refine g9 ?_
      refine aT (.inl rfl) rfl (aE rfl) fun w_ s_ => ⟨?_, s_.aPg⟩
      refine dX ?_
      simp_all [Cal.mdays, Cal.lp]
theorem aBy (y : Int) (h0 : -1000000000 <= y /\ y <= 1000000000) (w : World) : CB 114 #[iV y] w (iV (Cal.daysTo y)) := by
 refine aF (args := [iV y]) (L := [(0, iV y)]) (N := 17) Tryz.func114 rfl rfl ble rfl (sS w) (g16 ?_)
 refine g1 ?_
 refine gL (cvo rfl (fun w_ s_ => gU _ _ oM oM oM w_) (g2 ?_))
 refine gL (cvo rfl (fun w_ s_ => gU _ _ oM oM oM w_) (g2 ?_))
 refine gL (cvo rfl (fun w_ s_ => gU _ _ oM oM oM w_) (g5 ?_))
 refine aT (.inl rfl) rfl (aE rfl) fun w_ s_ => ⟨?_, s_.aPg⟩
 exact dX rfl
theorem pO (x n : Int) (hx : -1000000000000000 <= x /\ x <= 1000000000000000) (w : World) : CB 94 #[.agg #[iV x, iV n]] w (.tuple #[iV (Cal.yearOf (x / 86400)), iV (Cal.ydayOf (x / 86400)), iV (x % 86400)]) := by
 refine aF (args := [.agg #[iV x, iV n]]) (L := [(0, .agg #[iV x, iV n])]) (N := 59) Tryz.func94 rfl rfl ble rfl (sS w) (g2 ?_)
 refine gL (bxo 50 rfl rfl rfl (fun b1_ hbb1_ => g9 ?_))
 refine gL (cvo rfl (fun w_ s_ => gU _ _ oM oM oM w_) (g16 ?_))
 refine gL (cvo rfl (fun w_ s_ => gU _ _ oM oM oM w_) (g25 ?_))
 refine g1 ?_
 refine aB rfl (fun c27_ => ?_) (fun c27_ => ?_)
 .first | have p27_ := oT c27_ | have p27_ := beq_iff_eq.1 c27_ | have p27_ := bne_iff_ne.1 c27_ | skip
  refine g40 ?_
  refine g3 ?_
  refine aB rfl (fun c41_ => ?_) (fun c41_ => ?_)
  .first | have p41_ := oT c41_ | have p41_ := beq_iff_eq.1 c41_ | have p41_ := bne_iff_ne.1 c41_ | skip
   refine g30 ?_
   refine g4 ?_
   refine jZ (.inl rfl) rfl (aE rfl) (aE rfl) (aE rfl) fun w_ s_ => ⟨?_, s_.aPg⟩
   simp only [dF] at p27_ p41_ ⊢
   generalize x / 86400 = q at *
   refine tJ ?_ ?_ rfl
   .unfold Cal.yearOf Cal.one Cal.d2 Cal.cen; (first | rw [if_pos p27_] | rw [if_neg p27_]); (try simp only [dF]); (first | rw [if_pos p41_] | rw [if_neg p41_]); (try simp only [dF])
   .unfold Cal.ydayOf Cal.one Cal.d2 Cal.cen; (first | rw [if_pos p27_] | rw [if_neg p27_]); (try simp only [dF]); (first | rw [if_pos p41_] | rw [if_neg p41_]); (try simp only [dF])
  .first | have p41_ := oF c41_ | have p41_ := beq_eq_false_iff_ne.1 c41_ | have p41_ := bne_eq_false_iff_eq.1 c41_ | skip
   refine g30 ?_
   refine g2 ?_
   refine jZ (.inl rfl) rfl (aE rfl) (aE rfl) (aE rfl) fun w_ s_ => ⟨?_, s_.aPg⟩
   simp only [dF] at p27_ p41_ ⊢
   generalize x / 86400 = q at *
   refine tJ ?_ ?_ rfl
   .unfold Cal.yearOf Cal.one Cal.d2 Cal.cen; (first | rw [if_pos p27_] | rw [if_neg p27_]); (try simp only [dF]); (first | rw [if_pos p41_] | rw [if_neg p41_]); (try simp only [dF])
   .unfold Cal.ydayOf Cal.one Cal.d2 Cal.cen; (first | rw [if_pos p27_] | rw [if_neg p27_]); (try simp only [dF]); (first | rw [if_pos p41_] | rw [if_neg p41_]); (try simp only [dF])
 .first | have p27_ := oF c27_ | have p27_ := beq_eq_false_iff_ne.1 c27_ | have p27_ := bne_eq_false_iff_eq.1 c27_ | skip
  refine g40 ?_
  refine g1 ?_
  refine aB rfl (fun c41_ => ?_) (fun c41_ => ?_)
  .first | have p41_ := oT c41_ | have p41_ := beq_iff_eq.1 c41_ | have p41_ := bne_iff_ne.1 c41_ | skip
   refine g30 ?_
   refine g4 ?_
   refine jZ (.inl rfl) rfl (aE rfl) (aE rfl) (aE rfl) fun w_ s_ => ⟨?_, s_.aPg⟩
   simp only [dF] at p27_ p41_ ⊢
   generalize x / 86400 = q at *
   refine tJ ?_ ?_ rfl
   .unfold Cal.yearOf Cal.one Cal.d2 Cal.cen; (first | rw [if_pos p27_] | rw [if_neg p27_]); (try simp only [dF]); (first | rw [if_pos p41_] | rw [if_neg p41_]); (try simp only [dF])
   .unfold Cal.ydayOf Cal.one Cal.d2 Cal.cen; (first | rw [if_pos p27_] | rw [if_neg p27_]); (try simp only [dF]); (first | rw [if_pos p41_] | rw [if_neg p41_]); (try simp only [dF])
  .first | have p41_ := oF c41_ | have p41_ := beq_eq_false_iff_ne.1 c41_ | have p41_ := bne_eq_false_iff_eq.1 c41_ | skip
   refine g30 ?_
   refine g2 ?_
   refine jZ (.inl rfl) rfl (aE rfl) (aE rfl) (aE rfl) fun w_ s_ => ⟨?_, s_.aPg⟩
   simp only [dF] at p27_ p41_ ⊢
   generalize x / 86400 = q at *
   refine tJ ?_ ?_ rfl
   .unfold Cal.yearOf Cal.one Cal.d2 Cal.cen; (first | rw [if_pos p27_] | rw [if_neg p27_]); (try simp only [dF]); (first | rw [if_pos p41_] | rw [if_neg p41_]); (try simp only [dF])
   .unfold Cal.ydayOf Cal.one Cal.d2 Cal.cen; (first | rw [if_pos p27_] | rw [if_neg p27_]); (try simp only [dF]); (first | rw [if_pos p41_] | rw [if_neg p41_]); (try simp only [dF])
theorem iQ {x : Int} (hx : 0 <= x /\ x <= 1000000000000000) : 0 <= Cal.ydayOf (x / 86400) /\ Cal.ydayOf (x / 86400) <= 365 /\ 1 <= Cal.yearOf (x / 86400) /\ Cal.yearOf (x / 86400) <= 40000000 := by
 have h := Cal.split_spec (x / 86400)
 have h2 := Cal.lp_01 (Cal.yearOf (x / 86400))
 have h1 : 1 <= Cal.yearOf (x / 86400) := by
  rcases Int.lt_or_le (Cal.yearOf (x / 86400)) 1 with hh | hh
  .exfalso
   have := Cal.daysTo_mono (show Cal.yearOf (x / 86400) <= 0 by omega)
   have e0 : Cal.daysTo 0 = -366 := by decide
   omega
  .exact hh
 unfold Cal.daysTo at h
 omega
theorem lC (x n : Int) (hx : 0 <= x /\ x <= 1000000000000000) (w : World) : CB 70 #[.agg #[iV x, iV n]] w (.tuple #[iV (Cal.yearOf (x / 86400)), iV (Cal.monthOf (x / 86400)), iV (Cal.mdayOf (x / 86400))]) := by
 refine aF (args := [.agg #[iV x, iV n]]) (L := [(0, .agg #[iV x, iV n])]) (N := 31) Tryz.func70 rfl rfl ble rfl (sS w) ?_
 have hbd := iQ hx
 have hsp := (Cal.split_spec (x / 86400)).2.2
 refine g2 ?_
 refine gL (bxo 50 rfl rfl rfl (fun b1_ hbb1_ => g7 ?_))
 refine rl (aW 50 rfl rfl rfl rfl kR dE) (gL (cvo rfl (fun w_ s_ => pO _ _ oM w_) (g16 ?_)))
 refine aY (ι := (Nat) × (Int) × (Int)) (fun | ⟨j, m, d⟩ => 12 - j) (fun | ⟨j, m, d⟩ => (j <= 11) /\ (m = j + 1) /\ (d = Cal.ydayOf (x / 86400) - Cal.cum (Cal.yearOf (x / 86400)) j) /\ (Cal.cum (Cal.yearOf (x / 86400)) j <= Cal.ydayOf (x / 86400))) (fun | ⟨j, m, d⟩ => [(5, iV (Cal.yearOf (x / 86400))), (6, iV d), (8, iV m)]) (fun _ => (50, b1_) :: []) (fun _ => aL 50 0 [iV x, iV n] ++ []) (fun _ => []) ⟨0, 1, Cal.ydayOf (x / 86400)⟩ ⟨by omega, by omega, by simp [Cal.cum], by simp only [Cal.cum]; omega⟩ kns (fun w s => by exact s) ?_
 rintro ⟨j, m, d⟩ ⟨hj, hm, hd, hc⟩
 refine dS ?_
 have hmd := Cal.mdays_bd m (Cal.yearOf (x / 86400))
 have hcs : Cal.cum (Cal.yearOf (x / 86400)) (j + 1) = Cal.cum (Cal.yearOf (x / 86400)) j + Cal.mdays m (Cal.yearOf (x / 86400)) := by rw [hm]; rfl
 have hc0 := Cal.cum_mono (Cal.yearOf (x / 86400)) 0 j (Nat.zero_le _)
 simp only [Cal.cum] at hc0
 refine g6 ?_
 refine gL (cvo rfl (fun w_ s_ => l0 _ _ oM w_) (g3 ?_))
 refine aB rfl (fun hc1 => ?_) (fun hc2 => ?_)
 .have hge : Cal.mdays m (Cal.yearOf (x / 86400)) <= d := oT hc1
  have hnx : Cal.cum (Cal.yearOf (x / 86400)) (j + 1) <= Cal.ydayOf (x / 86400) := by omega
  have hj1 : j + 1 <= 11 := by
   rcases Nat.lt_or_ge j 11 with h | h
   .omega
   .exfalso; obtain rfl : j = 11 := by omega
    rw [Cal.cum_12] at hnx; omega
  refine g8 ?_
  refine gL (cvo rfl (fun w_ s_ => l0 _ _ oM w_) (g10 ?_))
  refine aN ⟨j + 1, m + 1, d - Cal.mdays m (Cal.yearOf (x / 86400))⟩ sO ⟨by omega, by omega, by rw [hcs]; omega, hnx⟩ kns (fun w s => by exact s)
 .have hlt : ¬ Cal.mdays m (Cal.yearOf (x / 86400)) <= d := oF hc2
  have hfin := Cal.mon_unique hj hc oM
  refine g16 ?_
  refine g1 ?_
  refine jZ (.inl rfl) rfl (aE rfl) (aE rfl) (aE rfl) fun w_ s_ => ⟨?_, s_.aPg⟩
  unfold Cal.monthOf Cal.mdayOf
  rw [hfin]
  exact tJ rfl hm sO
theorem jF (x n : Int) (hx : -1000000000000000 <= x /\ x <= 1000000000000000) (w : World) : CB 71 #[.agg #[iV x, iV n]] w (.tuple #[iV (x % 86400 / 3600), iV (x % 86400 / 60 % 60), iV (x % 86400 % 60)]) := by
 refine aF (args := [.agg #[iV x, iV n]]) (L := [(0, .agg #[iV x, iV n])]) (N := 21) Tryz.func71 rfl rfl ble rfl (sS w) (g2 ?_)
 refine gL (bxo 50 rfl rfl rfl (fun b1_ hbb1_ => g7 ?_))
 refine rl (aW 50 rfl rfl rfl rfl kR dE) (gL (cvo rfl (fun w_ s_ => pO _ _ oM w_) (g20 ?_)))
 refine g4 ?_
 refine jZ (.inl rfl) rfl (aE rfl) (aE rfl) (aE rfl) fun w_ s_ => ⟨?_, s_.aPg⟩
 exact tJ rfl rfl rfl
theorem aCy (x n : Int) (hx : 0 <= x /\ x <= 1000000000000000) (w : World) : CB 86 #[.agg #[iV x, iV n]] w (iV (Cal.monthOf (x / 86400))) := by
 refine aF (args := [.agg #[iV x, iV n]]) (L := [(0, .agg #[iV x, iV n])]) (N := 13) Tryz.func86 rfl rfl ble rfl (sS w) (g2 ?_)
 refine gL (bxo 50 rfl rfl rfl (fun b1_ hbb1_ => g5 ?_))
 refine rl (aW 50 rfl rfl rfl rfl kR dE) (gL (cvo rfl (fun w_ s_ => lC _ _ oM w_) (g16 ?_)))
 refine aT (.inl rfl) rfl (aE rfl) fun w_ s_ => ⟨?_, s_.aPg⟩
 exact dX rfl
theorem rD (x n : Int) (hx : 0 <= x /\ x <= 1000000000000000) (w : World) : CB 87 #[.agg #[iV x, iV n]] w (iV (Cal.mdayOf (x / 86400))) := by
 refine aF (args := [.agg #[iV x, iV n]]) (L := [(0, .agg #[iV x, iV n])]) (N := 13) Tryz.func87 rfl rfl ble rfl (sS w) (g2 ?_)
 refine gL (bxo 50 rfl rfl rfl (fun b1_ hbb1_ => g5 ?_))
 refine rl (aW 50 rfl rfl rfl rfl kR dE) (gL (cvo rfl (fun w_ s_ => lC _ _ oM w_) (g16 ?_)))
 refine aT (.inl rfl) rfl (aE rfl) fun w_ s_ => ⟨?_, s_.aPg⟩
 exact dX rfl
theorem aE8 (x n : Int) (hx : 0 <= x /\ x <= 1000000000000000) (w : World) : CB 88 #[.agg #[iV x, iV n]] w (iV (x % 86400 / 3600)) := by
 refine aF (args := [.agg #[iV x, iV n]]) (L := [(0, .agg #[iV x, iV n])]) (N := 13) Tryz.func88 rfl rfl ble rfl (sS w) (g2 ?_)
 refine gL (bxo 50 rfl rfl rfl (fun b1_ hbb1_ => g5 ?_))
 refine rl (aW 50 rfl rfl rfl rfl kR dE) (gL (cvo rfl (fun w_ s_ => jF _ _ oM w_) (g16 ?_)))
 refine aT (.inl rfl) rfl (aE rfl) fun w_ s_ => ⟨?_, s_.aPg⟩
 exact dX rfl
theorem aAv (x n : Int) (hx : 0 <= x /\ x <= 1000000000000000) (w : World) : CB 89 #[.agg #[iV x, iV n]] w (iV (x % 86400 / 60 % 60)) := by
 refine aF (args := [.agg #[iV x, iV n]]) (L := [(0, .agg #[iV x, iV n])]) (N := 13) Tryz.func89 rfl rfl ble rfl (sS w) (g2 ?_)
 refine gL (bxo 50 rfl rfl rfl (fun b1_ hbb1_ => g5 ?_))
 refine rl (aW 50 rfl rfl rfl rfl kR dE) (gL (cvo rfl (fun w_ s_ => jF _ _ oM w_) (g16 ?_)))
 refine aT (.inl rfl) rfl (aE rfl) fun w_ s_ => ⟨?_, s_.aPg⟩
 exact dX rfl
theorem aBw (x n : Int) (hx : 0 <= x /\ x <= 1000000000000000) (w : World) : CB 90 #[.agg #[iV x, iV n]] w (iV (x % 86400 % 60)) := by
 refine aF (args := [.agg #[iV x, iV n]]) (L := [(0, .agg #[iV x, iV n])]) (N := 13) Tryz.func90 rfl rfl ble rfl (sS w) (g2 ?_)
 refine gL (bxo 50 rfl rfl rfl (fun b1_ hbb1_ => g5 ?_))
 refine rl (aW 50 rfl rfl rfl rfl kR dE) (gL (cvo rfl (fun w_ s_ => jF _ _ oM w_) (g16 ?_)))
 refine aT (.inl rfl) rfl (aE rfl) fun w_ s_ => ⟨?_, s_.aPg⟩
 exact dX rfl
theorem n6 (x n : Int) (hx : 0 <= x /\ x <= 1000000000000000) (w : World) : CB 110 #[.agg #[iV x, iV n]] w (iV (Cal.ydayOf (x / 86400) + 1)) := by
 refine aF (args := [.agg #[iV x, iV n]]) (L := [(0, .agg #[iV x, iV n])]) (N := 14) Tryz.func110 rfl rfl ble rfl (sS w) ?_
 have hbd := iQ hx
 have hsp := (Cal.split_spec (x / 86400)).2.2
 refine g2 ?_
 refine gL (bxo 50 rfl rfl rfl (fun b1_ hbb1_ => g5 ?_))
 refine rl (aW 50 rfl rfl rfl rfl kR dE) (gL (cvo rfl (fun w_ s_ => pO _ _ oM w_) (g16 ?_)))
 refine g1 ?_
 refine aT (.inl rfl) rfl (aE rfl) fun w_ s_ => ⟨?_, s_.aPg⟩
 exact dX rfl
theorem jV (x n : Int) (hx : -1000000000000000 <= x /\ x <= 1000000000000000) (w : World) : CB 73 #[.agg #[iV x, iV n]] w (iV ((x / 86400 + 1) % 7)) := by
 refine aF (args := [.agg #[iV x, iV n]]) (L := [(0, .agg #[iV x, iV n])]) (N := 13) Tryz.func73 rfl rfl ble rfl (sS w) (g2 ?_)
 refine gL (bxo 50 rfl rfl rfl (fun b1_ hbb1_ => g7 ?_))
 refine gL (cvo rfl (fun w_ s_ => gU _ _ oM oM oM w_) (g8 ?_))
 refine gL (cvo rfl (fun w_ s_ => gU _ _ oM oM oM w_) (g6 ?_))
 refine aT (.inl rfl) rfl (aE rfl) fun w_ s_ => ⟨?_, s_.aPg⟩
 exact dX oM
theorem zG (x n : Int) (w : World) : CB 53 #[.agg #[iV x, iV n]] w (iV x) := by
 refine aF (args := [.agg #[iV x, iV n]]) (L := [(0, .agg #[iV x, iV n])]) (N := 5) Tryz.func53 rfl rfl ble rfl (sS w) (g2 ?_)
 refine gL (bxo 50 rfl rfl rfl (fun b1_ hbb1_ => g11 ?_))
 refine aT (.inl rfl) rfl (aE rfl) fun w_ s_ => ⟨?_, s_.aPg⟩
 first | rfl | (simp; done)
theorem jK (x n : Int) (hn : 0 <= n /\ n < 1000000000) (w : World) : CB 128 #[.agg #[iV x, iV n]] w (iV n) := by
 refine aF (args := [.agg #[iV x, iV n]]) (L := [(0, .agg #[iV x, iV n])]) (N := 5) Tryz.func128 rfl rfl ble rfl (sS w) (g2 ?_)
 refine gL (bxo 50 rfl rfl rfl (fun b1_ hbb1_ => g11 ?_))
 refine aT (.inl rfl) rfl (aE rfl) fun w_ s_ => ⟨?_, s_.aPg⟩
 first | rfl | (simp; done)
theorem aC1 (x : Int) (w : World) : CB 69 #[iV x] w (.agg #[iV x, iV 0]) := by
 refine aF (args := [iV x]) (L := [(0, iV x)]) (N := 5) Tryz.func69 rfl rfl ble rfl (sS w) (g2 ?_)
 refine gL (alo 50 (cs := [iV 0, iV 0]) kR rfl (fun b1_ hbb1_ => g5 ?_))
 refine rl (qW (k2 := .i64) (n := 0) rfl kW) (gL (sta 50 rfl rfl rfl rfl (g3 ?_)))
 refine aT (.inl rfl) rfl (iP 50 rfl rfl rfl rfl kR) fun w_ s_ => ⟨?_, s_.aPg⟩
 first | rfl | (simp; done)
theorem qF (x n d : Int) (w : World) : CB 84 #[.agg #[iV x, iV n], iV d] w (.agg #[iV x, iV 0]) := by
 refine aF (args := [.agg #[iV x, iV n], iV d]) (L := [(0, .agg #[iV x, iV n]), (1, iV d)]) (N := 8) Tryz.func84 rfl rfl ble rfl (sS w) (g2 ?_)
 refine gL (bxo 50 rfl rfl rfl (fun b1_ hbb1_ => gL (alo 51 (cs := [iV 0, iV 0]) kR rfl (fun b2_ hbb2_ => g6 ?_))))
 refine rl (qW (k2 := .i64) (n := 0) rfl kW) (gL (sta 51 rfl rfl rfl rfl (g3 ?_)))
 refine aT (.inl rfl) rfl (iP 51 rfl rfl rfl rfl kR) fun w_ s_ => ⟨?_, s_.aPg⟩
 first | rfl | (simp; done)
theorem aGw (x n : Int) (h : x ≠ 0) (w : World) : CB 82 #[.agg #[iV x, iV n]] w (.bool false) := by
 refine aF (args := [.agg #[iV x, iV n]]) (L := [(0, .agg #[iV x, iV n])]) (N := 11) Tryz.func82 rfl rfl ble rfl (sS w) (g2 ?_)
 refine gL (bxo 50 rfl rfl rfl (fun b1_ hbb1_ => g7 ?_))
 refine rl ((aQ rfl rfl).to (cB (nZ h))) (g9 ?_)
 refine aT (.inl rfl) rfl (aE rfl) fun w_ s_ => ⟨?_, s_.aPg⟩
 first | rfl | (simp; done)
theorem aFk (x n : Int) (h : x = 0) (w : World) : CB 82 #[.agg #[iV x, iV n]] w (.bool (n == 0)) := by
 refine aF (args := [.agg #[iV x, iV n]]) (L := [(0, .agg #[iV x, iV n])]) (N := 11) Tryz.func82 rfl rfl ble rfl (sS w) (g2 ?_)
 refine gL (bxo 50 rfl rfl rfl (fun b1_ hbb1_ => g7 ?_))
 refine rl ((aQ rfl rfl).to (cB (oP h))) (g12 ?_)
 refine aT (.inl rfl) rfl (aE rfl) fun w_ s_ => ⟨?_, s_.aPg⟩
 first | rfl | (simp; done)
theorem l8 (x n : Int) (w : World) : CB 82 #[.agg #[iV x, iV n]] w (.bool (decide (x = 0 /\ n = 0))) := by
 by_cases h : x = 0
 .refine (aFk x n h w).mono fun e w' ⟨he, hb⟩ => ⟨he.trans (oK ?_), hb⟩
  by_cases h2 : n = 0 <;> simp [h, h2]
 .refine (aGw x n h w).mono fun e w' ⟨he, hb⟩ => ⟨he.trans (oK ?_), hb⟩
  simp [h]
theorem aG1 (x n y m : Int) (h : x < y) (w : World) : CB 131 #[.agg #[iV x, iV n], .agg #[iV y, iV m]] w (.bool true) := by
 refine aF (args := [.agg #[iV x, iV n], .agg #[iV y, iV m]]) (L := [(0, .agg #[iV x, iV n]), (1, .agg #[iV y, iV m])]) (N := 24) Tryz.func131 rfl rfl ble rfl (sS w) (g2 ?_)
 refine gL (bxo 50 rfl rfl rfl (fun b1_ hbb1_ => gL (bxo 51 rfl rfl rfl (fun b2_ hbb2_ => g9 ?_))))
 refine rl ((cR rfl rfl).to (cB (decide_eq_true h))) (g18 ?_)
 refine aT (.inl rfl) rfl (aE rfl) fun w_ s_ => ⟨?_, s_.aPg⟩
 first | rfl | (simp; done)
theorem aGg (x n y m : Int) (h : x = y) (w : World) : CB 131 #[.agg #[iV x, iV n], .agg #[iV y, iV m]] w (.bool (decide (n < m))) := by
 refine aF (args := [.agg #[iV x, iV n], .agg #[iV y, iV m]]) (L := [(0, .agg #[iV x, iV n]), (1, .agg #[iV y, iV m])]) (N := 24) Tryz.func131 rfl rfl ble rfl (sS w) (g2 ?_)
 refine gL (bxo 50 rfl rfl rfl (fun b1_ hbb1_ => gL (bxo 51 rfl rfl rfl (fun b2_ hbb2_ => g9 ?_))))
 refine rl ((cR rfl rfl).to (cB (decide_eq_false (show ¬ x < y by omega)))) (g10 ?_)
 refine rl ((aQ rfl rfl).to (cB (oP h))) (g18 ?_)
 refine g1 ?_
 refine aT (.inl rfl) rfl (aE rfl) fun w_ s_ => ⟨?_, s_.aPg⟩
 first | rfl | (simp; done)
theorem aG0 (x n y m : Int) (h : ¬ x < y) (h2 : x ≠ y) (w : World) : CB 131 #[.agg #[iV x, iV n], .agg #[iV y, iV m]] w (.bool false) := by
 refine aF (args := [.agg #[iV x, iV n], .agg #[iV y, iV m]]) (L := [(0, .agg #[iV x, iV n]), (1, .agg #[iV y, iV m])]) (N := 24) Tryz.func131 rfl rfl ble rfl (sS w) (g2 ?_)
 refine gL (bxo 50 rfl rfl rfl (fun b1_ hbb1_ => gL (bxo 51 rfl rfl rfl (fun b2_ hbb2_ => g9 ?_))))
 refine rl ((cR rfl rfl).to (cB (decide_eq_false h))) (g10 ?_)
 refine rl ((aQ rfl rfl).to (cB (nZ h2))) (g14 ?_)
 refine aT (.inl rfl) rfl (aE rfl) fun w_ s_ => ⟨?_, s_.aPg⟩
 first | rfl | (simp; done)
theorem mF (x n y m : Int) (w : World) : CB 131 #[.agg #[iV x, iV n], .agg #[iV y, iV m]] w (.bool (decide (x < y \/ x = y /\ n < m))) := by
 by_cases h : x < y
 .refine (aG1 x n y m h w).mono fun e w' ⟨he, hb⟩ => ⟨he.trans (oK ?_), hb⟩
  simp [h]
 .by_cases h2 : x = y
  .refine (aGg x n y m h2 w).mono fun e w' ⟨he, hb⟩ => ⟨he.trans (oK ?_), hb⟩
   simp [h2]
  .refine (aG0 x n y m h h2 w).mono fun e w' ⟨he, hb⟩ => ⟨he.trans (oK ?_), hb⟩
   simp [h, h2]
theorem vI (x n y m : Int) (w : World) : CB 130 #[.agg #[iV x, iV n], .agg #[iV y, iV m]] w (.bool (decide (y < x \/ y = x /\ m < n))) := by
 refine aF (args := [.agg #[iV x, iV n], .agg #[iV y, iV m]]) (L := [(0, .agg #[iV x, iV n]), (1, .agg #[iV y, iV m])]) (N := 8) Tryz.func130 rfl rfl ble rfl (sS w) (g2 ?_)
 refine gL (bxo 50 rfl rfl rfl (fun b1_ hbb1_ => gL (bxo 51 rfl rfl rfl (fun b2_ hbb2_ => g5 ?_))))
 refine rl (aW 51 rfl rfl rfl rfl kR dE) (rl (aW 50 rfl rfl rfl rfl kR dE) (gL (cvo rfl (fun w_ s_ => mF _ _ _ _ w_) (g4 ?_))))
 refine aT (.inl rfl) rfl (aE rfl) fun w_ s_ => ⟨?_, s_.aPg⟩
 first | rfl | (simp; done)
theorem dR (x n : Int) (w : World) : CB 92 #[.agg #[iV x, iV n]] w (.agg #[]) := by
 refine aF (args := [.agg #[iV x, iV n]]) (L := [(0, .agg #[iV x, iV n])]) (N := 4) Tryz.func92 rfl rfl ble rfl (sS w) (g2 ?_)
 refine gL (bxo 50 rfl rfl rfl (fun b1_ hbb1_ => gL (alo 51 (cs := []) kR rfl (fun b2_ hbb2_ => g4 ?_))))
 refine rl (n9 (v := .agg #[]) kW) (gL (sta 51 rfl rfl rfl rfl (g3 ?_)))
 refine aT (.inl rfl) rfl (lF 51 (cs := []) rfl rfl (fun i v h => by simp at h) dE kR) fun w_ s_ => ⟨rfl, s_.aPg⟩
theorem rC  (w : World) : CB 122 #[] w (.agg #[]) := by
 refine aF (args := []) (L := []) (N := 2) Tryz.func122 rfl rfl ble rfl (sS w) (g2 ?_)
 refine gL (alo 50 (cs := []) kR rfl (fun b1_ hbb1_ => g4 ?_))
 refine rl (n9 (v := .agg #[]) kW) (gL (sta 50 rfl rfl rfl rfl (g3 ?_)))
 refine aT (.inl rfl) rfl (lF 50 (cs := []) rfl rfl (fun i v h => by simp at h) dE kR) fun w_ s_ => ⟨rfl, s_.aPg⟩
theorem aJx {m b : Int} (hb : 0 < b) (hb2 : b <= 1000) : (-1000 < m.tmod b /\ m.tmod b < 1000) /\ -1000000 <= m.tmod b * b /\ m.tmod b * b <= 1000000 := by
 have h1 : m.tmod b < b := Int.tmod_lt_of_pos m hb
 have h2 : -b < m.tmod b := by
  have := Int.natAbs_tmod m b
  have h3 : m.natAbs % b.natAbs < b.natAbs := Nat.mod_lt _ oM
  omega
 refine ⟨by omega, ?_, ?_⟩
 .have := Int.mul_le_mul_of_nonneg_right (show -1000 <= m.tmod b by omega) (show 0 <= b by omega)
  omega
 .have := Int.mul_le_mul_of_nonneg_right (show m.tmod b <= 1000 by omega) (show 0 <= b by omega)
  omega
theorem z0 {m b : Int} (hb : 0 < b) : (m.tmod b * b < 0 -> m.tmod b + b = m % b) /\ (¬ m.tmod b * b < 0 -> m.tmod b = m % b) := by
 have hs : m.tmod b * b < 0 ↔ m.tmod b < 0 := by
  constructor
  .intro h
   rcases Int.lt_or_le (m.tmod b) 0 with h' | h'
   .exact h'
   .have := Int.mul_nonneg h' (Int.le_of_lt hb); omega
  .intro h; exact Int.mul_neg_of_neg_of_pos h hb
 have e := Int.tmod_def m b
 have f := Int.emod_def m b
 rw [hs]
 constructor
 .intro h
  have q := Cal.floor_t hb h
  have : m.tdiv b = m / b + 1 := by omega
  rw [f, e, this, Int.mul_add]; omega
 .intro h
  have q := Cal.floor_f hb h
  rw [f, e, q]
theorem aLe {d : Int} (hd : 0 <= d /\ d <= 6) : ([iV 6, iV 0, iV 1, iV 2, iV 3, iV 4, iV 5] : List Value)[0 + d.toNat * 1]? = some (iV ((d + 6) % 7)) := by
 obtain ⟨h0, h1⟩ := hd
 have : d = 0 \/ d = 1 \/ d = 2 \/ d = 3 \/ d = 4 \/ d = 5 \/ d = 6 := by omega
 rcases this with rfl | rfl | rfl | rfl | rfl | rfl | rfl <;> rfl
theorem aHn (x d : Int) (hx : 0 <= x /\ x <= 1000000000000000) (hd : 0 <= d /\ d <= 9223372036854775807) (w : World) : CB 85 #[.agg #[iV x, iV 0], iV d] w (.agg #[iV (x + d / 1000000000), iV (d % 1000000000)]) := by
 refine aF (args := [.agg #[iV x, iV 0], iV d]) (L := [(0, .agg #[iV x, iV 0]), (1, iV d)]) (N := 32) Tryz.func85 rfl rfl ble rfl (sS w) (g2 ?_)
 refine gL (bxo 50 rfl rfl rfl (fun b1_ hbb1_ => gL (alo 51 (cs := [iV 0, iV 0]) kR rfl (fun b2_ hbb2_ => g20 ?_))))
 refine g2 ?_
 refine aU rfl (decide_eq_false oM) ?_
 refine g6 ?_
 refine aU rfl (decide_eq_false oM) ?_
 refine g9 ?_
 refine rl (vD rfl rfl kW) (gL (sta 51 rfl rfl rfl rfl (g3 ?_)))
 refine aT (.inl rfl) rfl (iP 51 rfl rfl rfl rfl kR) fun w_ s_ => ⟨?_, s_.aPg⟩
 first | rfl | (refine aJ9 ?_ ?_ <;> omega)
theorem cV (y m d h mi s ns : Int) (hy : 0 <= y + (m - 1) / 12 /\ y <= 10000000 /\ -10000000 <= y) (hm : -1000000 <= m /\ m <= 1000000) (hd : -1000000000 <= d /\ d <= 1000000000) (hh : -1000000000 <= h /\ h <= 1000000000) (hmi : -1000000000 <= mi /\ mi <= 1000000000) (hs : -1000000000 <= s /\ s <= 1000000000) (hn : 0 <= ns /\ ns < 1000000000) (w : World) : CB 91 #[iV y, iV m, iV d, iV h, iV mi, iV s, iV ns, .agg #[]] w (.agg #[iV (Cal.dayNo y m d * 86400 + h * 3600 + mi * 60 + s), iV ns]) := by
 refine aF (args := [iV y, iV m, iV d, iV h, iV mi, iV s, iV ns, .agg #[]]) (L := [(0, iV y), (1, iV m), (2, iV d), (3, iV h), (4, iV mi), (5, iV s), (6, iV ns), (7, .agg #[])]) (N := 71) Tryz.func91 rfl rfl ble rfl (sS w) ?_
 have hdt : -40000000000 <= Cal.daysTo (y + (m - 1) / 12) /\ Cal.daysTo (y + (m - 1) / 12) <= 40000000000 := by unfold Cal.daysTo; omega
 refine g2 ?_
 refine gL (bxo 50 rfl rfl rfl (fun b1_ hbb1_ => gL (alo 51 (cs := [iV 0, iV 0]) kR rfl (fun b2_ hbb2_ => g13 ?_))))
 refine gL (cvo rfl (fun w_ s_ => gU _ _ oM oM oM w_) (g8 ?_))
 refine gL (cvo rfl (fun w_ s_ => gU _ _ oM oM oM w_) (g8 ?_))
 refine gL (cvo rfl (fun w_ s_ => aBy _ oM w_) (g13 ?_))
 refine aY (ι := (Nat) × (Int) × (Int)) (fun | ⟨j, i, t⟩ => 12 - j) (fun | ⟨j, i, t⟩ => (j <= ((m - 1) % 12).toNat) /\ (i = j + 1) /\ (t = Cal.daysTo (y + (m - 1) / 12) + d - 1 + Cal.cum (y + (m - 1) / 12) j)) (fun | ⟨j, i, t⟩ => [(3, iV h), (4, iV mi), (5, iV s), (6, iV ns), (15, pT b1_), (16, pT b2_), (17, iV (m - 1 - 12 * ((m - 1) / 12))), (18, iV (y + (m - 1) / 12)), (19, iV t), (20, iV i)]) (fun _ => (51, b2_) :: (50, b1_) :: []) (fun _ => aL 51 0 [iV 0, iV 0] ++ []) (fun _ => []) ⟨0, 1, Cal.daysTo (y + (m - 1) / 12) + d - 1⟩ ⟨by omega, by omega, by simp [Cal.cum]⟩ kns (fun w s => by exact s.to (fun _ _ h => h) (fun k o v ho h => ⟨(by exact h), (by obtain ⟨b, e, _⟩ := s.cells k o v ho (by exact h); rw [e]; rfl)⟩) (fun _ _ h => h)) ?_
 rintro ⟨j, i, t⟩ ⟨hj, hi, ht⟩
 refine dS ?_
 have hmd := Cal.mdays_bd i (y + (m - 1) / 12)
 have hcs : Cal.cum (y + (m - 1) / 12) (j + 1) = Cal.cum (y + (m - 1) / 12) j + Cal.mdays i (y + (m - 1) / 12) := by rw [hi]; rfl
 have hc0 := Cal.cum_bd (y + (m - 1) / 12) j
 refine g8 ?_
 refine aB rfl (fun c42_ => ?_) (fun c42_ => ?_)
 .first | have p42_ := oT c42_ | have p42_ := beq_iff_eq.1 c42_ | have p42_ := bne_iff_ne.1 c42_ | skip
  refine g8 ?_
  refine gL (cvo rfl (fun w_ s_ => l0 _ _ oM w_) (g10 ?_))
  refine aN ⟨j + 1, i + 1, t + Cal.mdays i (y + (m - 1) / 12)⟩ sO ⟨by omega, by omega, by rw [hcs, ht]; omega⟩ kns (fun w s => by exact s)
 .first | have p42_ := oF c42_ | have p42_ := beq_eq_false_iff_ne.1 c42_ | have p42_ := bne_eq_false_iff_eq.1 c42_ | skip
  refine g25 ?_
  refine g4 ?_
  refine gL (cvo rfl (fun w_ s_ => gU _ _ oM oM oM w_) (g12 ?_))
  refine rl (vD rfl rfl kW) (gL (sta 51 rfl rfl rfl rfl (g3 ?_)))
  refine aT (.inl rfl) rfl (iP 51 rfl rfl rfl rfl kR) fun w_ s_ => ⟨?_, s_.aPg⟩
  unfold Cal.dayNo
  obtain rfl : j = ((m - 1) % 12).toNat := by omega
  refine aJ9 ?_ ?_ <;> (try subst ht) <;> omega
theorem aHt (y : Int) (h0 : 0 <= y) (h : y % 4 ≠ 0) (w : World) : CB 97 #[iV y] w (iV 0) := by
 refine aF (args := [iV y]) (L := [(0, iV y)]) (N := 16) Tryz.func97 rfl rfl ble rfl (sS w) (g10 ?_)
 refine rl ((aQ rfl rfl).to (cB (nZ h))) (zE ?_)
 refine aT (.inl rfl) rfl (aE rfl) fun w_ s_ => ⟨?_, s_.aPg⟩
 first | rfl | (simp; done)
theorem aEy (y : Int) (h0 : 0 <= y) (h : y % 4 = 0) (h1 : y % 100 ≠ 0) (w : World) : CB 97 #[iV y] w (iV 1) := by
 refine aF (args := [iV y]) (L := [(0, iV y)]) (N := 16) Tryz.func97 rfl rfl ble rfl (sS w) (g10 ?_)
 refine rZ6 ((aQ rfl rfl).to (cB (oP h))) ?_
 refine rl ((cF rfl rfl).to (cB (iW h1))) (g10 ?_)
 refine bK rfl rfl ?_
 refine g7 ?_
 refine aT (.inl rfl) rfl (aE rfl) fun w_ s_ => ⟨?_, s_.aPg⟩
 first | rfl | (simp; done)
theorem aEz (y : Int) (h0 : 0 <= y) (h : y % 4 = 0) (h1 : y % 100 = 0) (w : World) : CB 97 #[iV y] w (iV (if y % 400 = 0 then 1 else 0)) := by
 refine aF (args := [iV y]) (L := [(0, iV y)]) (N := 16) Tryz.func97 rfl rfl ble rfl (sS w) (g10 ?_)
 refine rZ6 ((aQ rfl rfl).to (cB (oP h))) ?_
 refine rl ((cF rfl rfl).to (cB (jA h1))) (g13 ?_)
 refine aB rfl (fun c15_ => ?_) (fun c15_ => ?_)
 .first | have p15_ := oT c15_ | have p15_ := beq_iff_eq.1 c15_ | have p15_ := bne_iff_ne.1 c15_ | skip
  refine g7 ?_
  refine aT (.inl rfl) rfl (aE rfl) fun w_ s_ => ⟨?_, s_.aPg⟩
  refine dX ?_
  simp_all
 .first | have p15_ := oF c15_ | have p15_ := beq_eq_false_iff_ne.1 c15_ | have p15_ := bne_eq_false_iff_eq.1 c15_ | skip
  refine g8 ?_
  refine aT (.inl rfl) rfl (aE rfl) fun w_ s_ => ⟨?_, s_.aPg⟩
  refine dX ?_
  simp_all
theorem kQ (y : Int) (h0 : 0 <= y) (w : World) : CB 97 #[iV y] w (iV (Cal.lp y)) := by
 by_cases h : y % 4 = 0
 .by_cases h1 : y % 100 = 0
  .refine (aEz y h0 h h1 w).mono fun e w' ⟨he, hb⟩ => ⟨he.trans (dX ?_), hb⟩
   unfold Cal.lp Cal.leapB
   by_cases h2 : y % 400 = 0 <;> simp [h, h1, h2]
  .refine (aEy y h0 h h1 w).mono fun e w' ⟨he, hb⟩ => ⟨he.trans (dX ?_), hb⟩
   unfold Cal.lp Cal.leapB
   simp [h, h1]
 .refine (aHt y h0 h w).mono fun e w' ⟨he, hb⟩ => ⟨he.trans (dX ?_), hb⟩
  unfold Cal.lp Cal.leapB
  simp [h]
theorem mN (d : Int) (hd : 0 <= d /\ d <= 6) (w : World) : CB 72 #[iV d] w (iV ((d + 6) % 7)) := by
 refine aF (args := [iV d]) (L := [(0, iV d)]) (N := 7) Tryz.func72 rfl rfl ble rfl (sS w) (g7 ?_)
 refine gL (fY 50 (e := 3) (sz := 1) (n := 7) (vs := [(0, iV 6), (1, iV 0), (2, iV 1), (3, iV 2), (4, iV 3), (5, iV 4), (6, iV 5)]) (cs := [iV 6, iV 0, iV 1, iV 2, iV 3, iV 4, iV 5]) dE rfl kW rfl dE dE rfl (fun b1_ hbb1_ => g1 ?_))
 refine rl (aC (e := 3) (n := 1) kR rfl rfl oM oM) (rZ4 (bQ 50 rfl rfl rfl (aLe hd) kR) ?_)
 refine aT (.inl rfl) rfl (aE rfl) fun w_ s_ => ⟨?_, s_.aPg⟩
 first | rfl | (simp; done)
theorem gT (a b : Int) (ha : -1000000000000000 <= a /\ a <= 1000000000000000) (hb : 0 < b /\ b <= 1000) (w : World) : CB 107 #[iV a, iV b] w (iV (a % b)) := by
 refine aF (args := [iV a, iV b]) (L := [(0, iV a), (1, iV b)]) (N := 17) Tryz.func107 rfl rfl ble rfl (sS w) ?_
 have hr := aJx (m := a) hb.1 hb.2
 have hr2 := z0 (m := a) hb.1
 refine g9 ?_
 refine rl (yU rfl rfl oM) (g12 ?_)
 refine aB rfl (fun c12_ => ?_) (fun c12_ => ?_)
 .first | have p12_ := oT c12_ | have p12_ := beq_iff_eq.1 c12_ | have p12_ := bne_iff_ne.1 c12_ | skip
  refine g14 ?_
  refine aT (.inl rfl) rfl (aE rfl) fun w_ s_ => ⟨?_, s_.aPg⟩
  refine dX ?_
  omega
 .first | have p12_ := oF c12_ | have p12_ := beq_eq_false_iff_ne.1 c12_ | have p12_ := bne_eq_false_iff_eq.1 c12_ | skip
  refine g9 ?_
  refine aT (.inl rfl) rfl (aE rfl) fun w_ s_ => ⟨?_, s_.aPg⟩
  refine dX ?_
  omega
theorem rT (x n k : Int) (hx : 0 <= x /\ x <= 400000000000) (hk : -100000 <= k /\ k <= 100000) (hn : 0 <= n /\ n < 1000000000) (w : World) : CB 127 #[.agg #[iV x, iV n], iV 0, iV 0, iV k] w (.agg #[iV (x + k * 86400), iV n]) := by
 refine aF (args := [.agg #[iV x, iV n], iV 0, iV 0, iV k]) (L := [(0, .agg #[iV x, iV n]), (1, iV 0), (2, iV 0), (3, iV k)]) (N := 43) Tryz.func127 rfl rfl ble rfl (sS w) ?_
 have hbd := iQ (x := x) oM
 have hmo := Cal.month_bd (x / 86400)
 have hyy := Cal.year_le (x / 86400) oM
 refine g2 ?_
 refine gL (bxo 50 rfl rfl rfl (fun b1_ hbb1_ => gL (alo 51 (cs := [iV 0, iV 0]) kR rfl (fun b2_ hbb2_ => g4 ?_))))
 refine rl (aW 50 rfl rfl rfl rfl kR dE) (gL (cvo rfl (fun w_ s_ => lC _ _ oM w_) (g11 ?_)))
 refine rl (aW 50 rfl rfl rfl rfl kR dE) (gL (cvo rfl (fun w_ s_ => jF _ _ oM w_) (g25 ?_)))
 refine rl (n9 (v := .agg #[]) kW) (gL (cvo rfl (fun w_ s_ => cV _ _ _ _ _ _ _ oM oM oM oM oM oM oM w_) (gL (sta 51 rfl rfl rfl rfl (g3 ?_)))))
 refine aT (.inl rfl) rfl (iP 51 rfl rfl rfl rfl kR) fun w_ s_ => ⟨?_, s_.aPg⟩
 refine aJ9 ?_ rfl
 have := Cal.dayNo_of (x / 86400) k
 omega
theorem oX (m y : Int) (hm : 1 <= m /\ m <= 12) (hy : 1 <= y /\ y <= 10000) (w : World) : CB 133 #[iV m, iV y] w (iV (Cal.mdays m y)) := by
 refine aF (args := [iV m, iV y]) (L := [(0, iV m), (1, iV y)]) (N := 11) Tryz.func133 rfl rfl ble rfl (sS w) ?_
 have hlast := Cal.dayNo_last m y hm hy
 refine g10 ?_
 refine gL (cvo rfl (fun w_ s_ => rC w_) (gL (cvo rfl (fun w_ s_ => cV _ _ _ _ _ _ _ oM oM oM oM oM oM oM w_) (gL (cvo rfl (fun w_ s_ => rD _ _ oM w_) (g4 ?_))))))
 refine aT (.inl rfl) rfl (aE rfl) fun w_ s_ => ⟨?_, s_.aPg⟩
 refine dX ?_
 rw [show (Cal.dayNo y (m + 1) 0 * 86400 + 0 * 3600 + 0 * 60 + 0) / 86400 = Cal.dayNo y (m + 1) 0 by omega]
 exact hlast.2
theorem aR (xs : List Int) (x : Int) (v : Value) (hl : xs.length <= 1000000000) (w : World) (hI : Ints w v xs) : CB 75 #[v, iV x] w (.bool (xs.any (· == x))) := by
 obtain ⟨p, c, rfl, hI⟩ := hI
 refine aF (args := [.slice p xs.length c, iV x]) (L := [(0, .slice p xs.length c), (1, iV x)]) (N := 17) Tryz.func75 rfl rfl ble rfl (sS w) (g14 ?_)
 refine aY (ι := (Nat)) (fun k => xs.length - k) (fun k => (k <= xs.length) /\ ((xs.take k).any (· == x) = false)) (fun k => [(1, iV x), (7, .slice p xs.length c), (8, iV (xs.length)), (9, iV k)]) (fun k => []) (fun k => []) (fun k => []) 0 ⟨by omega, rfl⟩ kns (fun w s => by exact s) ?_
 rintro k ⟨hk, hn⟩
 refine dS ?_
 refine g6 ?_
 refine aB rfl (fun hc1 => ?_) (fun hc2 => ?_)
 .have hlt : k < xs.length := by have := oT hc1; omega
  obtain ⟨y, hy⟩ : ∃ y, xs[k]? = some y := ⟨_, List.getElem?_eq_getElem hlt⟩
  obtain ⟨b, o, rfl, hcell⟩ := hI k y hy
  refine g6 ?_
  refine rl (aC (e := 3) (n := 1) kR rfl rfl oM oM) (rl (gH rfl (v := iV y) (by rw [<- hcell]; congr 2; omega) (fun h => h) kR) (g10 ?_))
  refine aB rfl (fun c15_ => ?_) (fun hno => ?_)
  .refine g11 ?_
   refine aT (.inl rfl) rfl (aE rfl) fun w_ s_ => ⟨?_, s_.aPg⟩
   refine oK (Eq.symm (List.any_eq_true.2 ⟨y, List.mem_of_getElem? hy, ?_⟩))
   exact c15_
  .refine g7 ?_
   refine aN (k + 1) oM ⟨by omega, by rw [List.take_add_one, hy, List.any_append, hn]; simpa using hno⟩ kns (fun w s => by exact s)
 .have hge : ¬ k < xs.length := by have := oF hc2; omega
  refine g11 ?_
  refine aT (.inl rfl) rfl (aE rfl) fun w_ s_ => ⟨?_, s_.aPg⟩
  refine oK ?_
  have hkn : k = xs.length := by omega
  subst hkn
  rw [<- hn, List.take_length]
theorem aL5 {x : Int} : ∀ u ∈ [iV x], u.oneCell' = true := by
 intro u hu
 simp only [List.mem_cons, List.not_mem_nil, or_false] at hu
 subst hu; rfl
theorem aLk {xs : List Int} {x : Int} : xs.map iV ++ [iV x] = (xs ++ [x]).map iV := by simp
theorem aLf {k : Nat} {x : Int} : (List.replicate k x).map iV ++ [iV x] = (List.replicate (k + 1) x).map iV := by rw [List.replicate_succ', List.map_append]; rfl
theorem aKk {k : Nat} {a : Int} : (((List.range k).map fun (j : Nat) => a + (j : Int)).map iV) ++ [iV (a + k)] = ((List.range (k + 1)).map fun (j : Nat) => a + (j : Int)).map iV := by rw [List.range_succ, List.map_append, List.map_append]; rfl
theorem aFo {F : Nat -> Prop} {w0 w : World} {B : LN} {H : LV} {S : LS} {k : Nat} {v : Value} {e : TypeId} {sz n : Nat} {xs ys : List Value} (s : Sees F w0 B H S w) (hk : lkp k S = some ⟨v, e, sz, n, xs⟩) (hx : xs = ys) : Sees F w0 [] [] [(k, ⟨v, e, sz, n, ys⟩)] w := by
 subst hx; exact s.only hk
theorem eZ (x : Int) (n : Nat) (hn : n <= 1000) (w : World) : Calls Tryz.prog 119 #[iV x, iV ((n : Int))] w fun e w' => ∃ p c, e = .returned (.slice p n c) /\ gC w w' (.slice p n c) 3 1 n ((List.replicate n x).map iV) := by
 refine aF (args := [iV x, iV ((n : Int))]) (L := [(0, iV x), (1, iV ((n : Int)))]) (N := 18) Tryz.func119 rfl rfl ble rfl (sS w) (g7 ?_)
 refine gL (aAw 50 (e := 3) (sz := 1) dE kW rfl (fun b1_ hbb1_ => g10 ?_))
 refine aY (ι := (Nat) × (Option Addr) × (Nat)) (fun | ⟨k, p, c⟩ => n - k) (fun | ⟨k, p, c⟩ => (k <= n)) (fun | ⟨k, p, c⟩ => [(0, iV x), (1, iV n), (5, .slice p k c), (6, iV k)]) (fun _ => []) (fun _ => []) (fun | ⟨k, p, c⟩ => [(50, ⟨.slice p k c, 3, 1, k, (List.replicate k x).map iV⟩)]) ⟨0, some ⟨b1_, 0, none⟩, 0⟩ (Nat.zero_le _) kns (fun w s => by exact s) ?_
 rintro ⟨k, p, c⟩ hk
 refine dS ?_
 refine g8 ?_
 refine aB rfl (fun c10_ => ?_) (fun c10_ => ?_)
 .first | have p10_ := oT c10_ | have p10_ := beq_iff_eq.1 c10_ | have p10_ := bne_iff_ne.1 c10_ | skip
  refine g7 ?_
  refine gL (n5 51 (e := 3) (sz := 1) (by_ := 8) (zs := [iV 0]) dE kR rfl dE dE rfl rfl rfl rfl (fun b2_ => gL (cW 50 51 (e := 3) (sz := 1) (by_ := 8) (zs := [iV 0]) dE kR rfl dE rfl rfl rfl rfl ⟨rfl, rfl⟩ ⟨rfl, rfl⟩ aL5 sO sO (fun p' c' => g9 ?_))))
  refine aN ⟨k + 1, p', c'⟩ sO (show k + 1 <= n by omega) kns (fun w s => by exact aFo s rfl aLf)
 .first | have p10_ := oF c10_ | have p10_ := beq_eq_false_iff_ne.1 c10_ | have p10_ := bne_eq_false_iff_eq.1 c10_ | skip
  refine g12 ?_
  refine aT (.inl rfl) rfl (aE rfl) fun w_ s_ => ?_
  obtain rfl : k = n := by omega
  exact ⟨p, c, rfl, s_.toNew (k := 50) rfl⟩
theorem lH (a : Int) (n : Nat) (hn : n <= 1000) (ha : -1000 <= a /\ a <= 1000) (w : World) : Calls Tryz.prog 120 #[iV a, iV (a + (n : Int))] w fun e w' => ∃ p c, e = .returned (.slice p n c) /\ gC w w' (.slice p n c) 3 1 n (((List.range n).map fun (j : Nat) => a + (j : Int)).map iV) := by
 refine aF (args := [iV a, iV (a + (n : Int))]) (L := [(0, iV a), (1, iV (a + (n : Int)))]) (N := 19) Tryz.func120 rfl rfl ble rfl (sS w) (g7 ?_)
 refine gL (aAw 50 (e := 3) (sz := 1) dE kW rfl (fun b1_ hbb1_ => g11 ?_))
 refine aY (ι := (Nat) × (Int) × (Option Addr) × (Nat)) (fun | ⟨k, i, p, c⟩ => n - k) (fun | ⟨k, i, p, c⟩ => (i = a + k) /\ (k <= n)) (fun | ⟨k, i, p, c⟩ => [(1, iV (a + (n : Int))), (5, .slice p k c), (6, iV i)]) (fun _ => []) (fun _ => []) (fun | ⟨k, i, p, c⟩ => [(50, ⟨.slice p k c, 3, 1, k, ((List.range k).map fun (j : Nat) => a + j).map iV⟩)]) ⟨0, a, some ⟨b1_, 0, none⟩, 0⟩ ⟨by omega, Nat.zero_le _⟩ kns (fun w s => by exact s) ?_
 rintro ⟨k, i, p, c⟩ ⟨hi, hk⟩
 refine dS ?_
 refine g8 ?_
 refine aB rfl (fun c11_ => ?_) (fun c11_ => ?_)
 .first | have p11_ := oT c11_ | have p11_ := beq_iff_eq.1 c11_ | have p11_ := bne_iff_ne.1 c11_ | skip
  refine g7 ?_
  refine gL (n5 51 (e := 3) (sz := 1) (by_ := 8) (zs := [iV 0]) dE kR rfl dE dE rfl rfl rfl rfl (fun b2_ => gL (cW 50 51 (e := 3) (sz := 1) (by_ := 8) (zs := [iV 0]) dE kR rfl dE rfl rfl rfl rfl ⟨rfl, rfl⟩ ⟨rfl, rfl⟩ aL5 sO sO (fun p' c' => g9 ?_))))
  refine aN ⟨k + 1, i + 1, p', c'⟩ sO ⟨by omega, by omega⟩ kns (fun w s => by exact aFo s rfl (by rw [hi]; exact aKk))
 .first | have p11_ := oF c11_ | have p11_ := beq_eq_false_iff_ne.1 c11_ | have p11_ := bne_eq_false_iff_eq.1 c11_ | skip
  refine g12 ?_
  refine aT (.inl rfl) rfl (aE rfl) fun w_ s_ => ?_
  obtain rfl : k = n := by omega
  exact ⟨p, c, rfl, s_.toNew (k := 50) rfl⟩
def cat (ls : List (Value × List Int)) (k : Nat) : List Int := ((ls.take k).map (·.2)).flatten
theorem aC7 {ls : List (Value × List Int)} {k : Nat} {v : Value} {xs : List Int} (h : ls[k]? = some (v, xs)) : cat ls (k + 1) = cat ls k ++ xs := by
 unfold cat
 rw [List.take_add_one, h]
 simp
theorem aMl (ls : List (Value × List Int)) (k : Nat) : (cat ls k).length <= (cat ls ls.length).length := by
 unfold cat
 rw [List.take_length]
 conv => rhs; rw [<- List.take_append_drop k ls]
 rw [List.map_append, List.flatten_append, List.length_append]
 omega
theorem aG4 {k : Nat} {ls : List (Value × List Int)} {xs : List Int} {v : Value} (h : ls[k]? = some (v, xs)) : (cat ls k).map iV ++ xs.map iV = (cat ls (k + 1)).map iV := by rw [aC7 h, List.map_append]
theorem aIp {F : Nat -> Prop} {w0 w : World} {B : LN} {H : LV} {S : LS} {k : Nat} {p : Option Addr} {c : Nat} {e : TypeId} {sz n m : Nat} {xs ys : List Value} (s : Sees F w0 B H S w) (hk : lkp k S = some ⟨.slice p n c, e, sz, n, xs⟩) (hn : n = m) (hx : xs = ys) : Sees F w0 [] [] [(k, ⟨.slice p m c, e, sz, m, ys⟩)] w := by
 subst hn hx; exact s.only hk
theorem lG {w w' : World} {p : Option Addr} {c : Nat} {e : TypeId} {sz n m : Nat} {xs ys : List Value} (h : gC w w' (.slice p n c) e sz n xs) (e0 : n = m) (e1 : xs = ys) : gC w w' (.slice p m c) e sz m ys := by
 subst e0 e1; exact h
theorem jJ (ls : List (Value × List Int)) (b o c : Nat) (hl : (cat ls ls.length).length <= 1000000) (hn : ls.length <= 1000) (w : World) (h : Lists w b o ls) : Calls Tryz.prog 118 #[.slice (some ⟨b, o, none⟩) ls.length c] w fun e w' => ∃ p c, e = .returned (.slice p (cat ls ls.length).length c) /\ gC w w' (.slice p (cat ls ls.length).length c) 3 1 (cat ls ls.length).length ((cat ls ls.length).map iV) := by
 refine aF (args := [.slice (some ⟨b, o, none⟩) ls.length c]) (L := [(0, .slice (some ⟨b, o, none⟩) ls.length c)]) (N := 18) Tryz.func118 rfl rfl ble rfl (sS w) (g7 ?_)
 refine gL (aAw 50 (e := 3) (sz := 1) dE kW rfl (fun b1_ hbb1_ => g12 ?_))
 refine aY (ι := (Nat) × (Option Addr) × (Nat)) (fun | ⟨k, p, ca⟩ => ls.length - k) (fun | ⟨k, p, ca⟩ => (k <= ls.length)) (fun | ⟨k, p, ca⟩ => [(3, .slice p (cat ls k).length ca), (7, .slice (some ⟨b, o, none⟩) ls.length c), (8, iV (ls.length)), (9, iV k)]) (fun _ => []) (fun _ => []) (fun | ⟨k, p, ca⟩ => [(50, ⟨.slice p (cat ls k).length ca, 3, 1, (cat ls k).length, (cat ls k).map iV⟩)]) ⟨0, some ⟨b1_, 0, none⟩, 0⟩ (Nat.zero_le _) kns (fun w s => by exact s) ?_
 rintro ⟨k, p, ca⟩ hk
 refine dS ?_
 refine g6 ?_
 refine aB rfl (fun hc1 => ?_) (fun hc2 => ?_)
 .have hlt : k < ls.length := by have := oT hc1; omega
  obtain ⟨v, xs, hx⟩ : ∃ v xs, ls[k]? = some (v, xs) := ⟨_, _, List.getElem?_eq_getElem hlt⟩
  obtain ⟨hcell, ⟨p2, c2, rfl, hcs⟩, hne⟩ := h.get hx
  obtain ⟨x0, hx0⟩ : ∃ x0, xs[0]? = some x0 := ⟨_, List.getElem?_eq_getElem (List.length_pos_iff.2 hne)⟩
  obtain ⟨b2, o2, rfl, _⟩ := hcs 0 x0 hx0
  have hcl := aMl ls (k + 1)
  have hcs2 := aC7 hx
  have hlen : (cat ls (k + 1)).length = (cat ls k).length + xs.length := by rw [hcs2, List.length_append]
  refine g6 ?_
  refine rl (aC (e := 22) (n := 1) kR rfl rfl oM oM) (rZ6 (gH rfl (v := .slice (some ⟨b2, o2, none⟩) xs.length c2) (by rw [<- hcell]; congr 2; omega) (fun h => h) kR) ?_)
  refine gL (rU 50 (e := 3) (sz := 1) (by_ := 8) (zs := [iV 0]) (ys := xs.map iV) dE kR rfl dE rfl rfl rfl ⟨rfl, rfl⟩ (by simp) (fun w_ s_ i u hu => (by rw [List.getElem?_map] at hu; obtain ⟨x, hx1, rfl⟩ := Option.map_eq_some_iff.1 hu; obtain ⟨b3, o3, e3, hc3⟩ := hcs i x hx1; cases e3; exact s_.aPo hc3 (fun h => h))) gZ sO sO (fun p' c' => ?_))
  refine g8 ?_
  refine aN ⟨k + 1, p', c'⟩ sO (show k + 1 <= ls.length by omega) (fun a q => q.cons (by exact congrArg (fun n => some (Value.slice p' n c')) hlen.symm) (q.cons rfl (q.cons rfl (q.cons rfl q.nil)))) (fun w s => by exact aIp s rfl hlen.symm (aG4 hx))
 .have hge : ¬ k < ls.length := by have := oF hc2; omega
  refine g12 ?_
  refine aT (.inl rfl) rfl (aE rfl) fun w_ s_ => ?_
  obtain rfl : k = ls.length := by omega
  exact ⟨p, ca, rfl, s_.toNew (k := 50) rfl⟩
theorem xR (w : World) : Calls Tryz.prog 103 #[] w fun e w' => ∃ p c, e = .returned (.slice p 373 c) /\ gC w w' (.slice p 373 c) 3 1 373 (mQ.map iV) := by
 refine aF (args := []) (L := []) (N := 16) Tryz.func103 rfl rfl ble rfl (sS w) (g7 ?_)
 refine gL (bL 50 (e := 3) (sz := 1) (n := 31) (xs := (List.replicate 31 (1 : Int)).map iV) dE kR rfl (fun w_ s_ => eZ 1 31 dE w_) (fun p50 c50 => gL (bL 51 (e := 3) (sz := 1) (n := 29) (xs := (List.replicate 29 (2 : Int)).map iV) dE kR rfl (fun w_ s_ => eZ 2 29 dE w_) (fun p51 c51 => gL (bL 52 (e := 3) (sz := 1) (n := 31) (xs := (List.replicate 31 (3 : Int)).map iV) dE kR rfl (fun w_ s_ => eZ 3 31 dE w_) (fun p52 c52 => gL (bL 53 (e := 3) (sz := 1) (n := 30) (xs := (List.replicate 30 (4 : Int)).map iV) dE kR rfl (fun w_ s_ => eZ 4 30 dE w_) (fun p53 c53 => gL (bL 54 (e := 3) (sz := 1) (n := 31) (xs := (List.replicate 31 (5 : Int)).map iV) dE kR rfl (fun w_ s_ => eZ 5 31 dE w_) (fun p54 c54 => ?_))))))))))
 refine gL (bL 55 (e := 3) (sz := 1) (n := 30) (xs := (List.replicate 30 (6 : Int)).map iV) dE kR rfl (fun w_ s_ => eZ 6 30 dE w_) (fun p55 c55 => gL (bL 56 (e := 3) (sz := 1) (n := 31) (xs := (List.replicate 31 (7 : Int)).map iV) dE kR rfl (fun w_ s_ => eZ 7 31 dE w_) (fun p56 c56 => gL (bL 57 (e := 3) (sz := 1) (n := 31) (xs := (List.replicate 31 (8 : Int)).map iV) dE kR rfl (fun w_ s_ => eZ 8 31 dE w_) (fun p57 c57 => gL (bL 58 (e := 3) (sz := 1) (n := 30) (xs := (List.replicate 30 (9 : Int)).map iV) dE kR rfl (fun w_ s_ => eZ 9 30 dE w_) (fun p58 c58 => gL (bL 59 (e := 3) (sz := 1) (n := 31) (xs := (List.replicate 31 (10 : Int)).map iV) dE kR rfl (fun w_ s_ => eZ 10 31 dE w_) (fun p59 c59 => ?_))))))))))
 refine gL (bL 60 (e := 3) (sz := 1) (n := 30) (xs := (List.replicate 30 (11 : Int)).map iV) dE kR rfl (fun w_ s_ => eZ 11 30 dE w_) (fun p60 c60 => gL (bL 61 (e := 3) (sz := 1) (n := 31) (xs := (List.replicate 31 (12 : Int)).map iV) dE kR rfl (fun w_ s_ => eZ 12 31 dE w_) (fun p61 c61 => gL (bL 62 (e := 3) (sz := 1) (n := 7) (xs := (List.replicate 7 (1 : Int)).map iV) dE kR rfl (fun w_ s_ => eZ 1 7 dE w_) (fun p62 c62 => gL (fY 63 (e := 22) (sz := 1) (n := 13) (vs := [(0, .slice p50 31 c50), (1, .slice p51 29 c51), (2, .slice p52 31 c52), (3, .slice p53 30 c53), (4, .slice p54 31 c54), (5, .slice p55 30 c55), (6, .slice p56 31 c56), (7, .slice p57 31 c57), (8, .slice p58 30 c58), (9, .slice p59 31 c59), (10, .slice p60 30 c60), (11, .slice p61 31 c61), (12, .slice p62 7 c62)]) (cs := [.slice p50 31 c50, .slice p51 29 c51, .slice p52 31 c52, .slice p53 30 c53, .slice p54 31 c54, .slice p55 30 c55, .slice p56 31 c56, .slice p57 31 c57, .slice p58 30 c58, .slice p59 31 c59, .slice p60 30 c60, .slice p61 31 c61, .slice p62 7 c62]) dE rfl kW rfl dE dE rfl (fun b1_ hbb1_ => gL (bL 64 (e := 3) (sz := 1) (n := (cat [(.slice p50 31 c50, List.replicate 31 1), (.slice p51 29 c51, List.replicate 29 2), (.slice p52 31 c52, List.replicate 31 3), (.slice p53 30 c53, List.replicate 30 4), (.slice p54 31 c54, List.replicate 31 5), (.slice p55 30 c55, List.replicate 30 6), (.slice p56 31 c56, List.replicate 31 7), (.slice p57 31 c57, List.replicate 31 8), (.slice p58 30 c58, List.replicate 30 9), (.slice p59 31 c59, List.replicate 31 10), (.slice p60 30 c60, List.replicate 30 11), (.slice p61 31 c61, List.replicate 31 12), (.slice p62 7 c62, List.replicate 7 1)] 13).length) (xs := (cat [(.slice p50 31 c50, List.replicate 31 1), (.slice p51 29 c51, List.replicate 29 2), (.slice p52 31 c52, List.replicate 31 3), (.slice p53 30 c53, List.replicate 30 4), (.slice p54 31 c54, List.replicate 31 5), (.slice p55 30 c55, List.replicate 30 6), (.slice p56 31 c56, List.replicate 31 7), (.slice p57 31 c57, List.replicate 31 8), (.slice p58 30 c58, List.replicate 30 9), (.slice p59 31 c59, List.replicate 31 10), (.slice p60 30 c60, List.replicate 30 11), (.slice p61 31 c61, List.replicate 31 12), (.slice p62 7 c62, List.replicate 7 1)] 13).map iV) dE kR rfl (fun w_ s_ => jJ [(.slice p50 31 c50, List.replicate 31 1), (.slice p51 29 c51, List.replicate 29 2), (.slice p52 31 c52, List.replicate 31 3), (.slice p53 30 c53, List.replicate 30 4), (.slice p54 31 c54, List.replicate 31 5), (.slice p55 30 c55, List.replicate 30 6), (.slice p56 31 c56, List.replicate 31 7), (.slice p57 31 c57, List.replicate 31 8), (.slice p58 30 c58, List.replicate 30 9), (.slice p59 31 c59, List.replicate 31 10), (.slice p60 30 c60, List.replicate 30 11), (.slice p61 31 c61, List.replicate 31 12), (.slice p62 7 c62, List.replicate 7 1)] _ 0 13 (Nat.le_of_ble_eq_true kR) (Nat.le_of_ble_eq_true kR) w_ ⟨s_.aPl (k := 63) (o := 0) rfl rfl rfl, s_.ints 50 rfl, by decide, s_.aPl (k := 63) (o := 1) rfl rfl rfl, s_.ints 51 rfl, by decide, s_.aPl (k := 63) (o := 2) rfl rfl rfl, s_.ints 52 rfl, by decide, s_.aPl (k := 63) (o := 3) rfl rfl rfl, s_.ints 53 rfl, by decide, s_.aPl (k := 63) (o := 4) rfl rfl rfl, s_.ints 54 rfl, by decide, s_.aPl (k := 63) (o := 5) rfl rfl rfl, s_.ints 55 rfl, by decide, s_.aPl (k := 63) (o := 6) rfl rfl rfl, s_.ints 56 rfl, by decide, s_.aPl (k := 63) (o := 7) rfl rfl rfl, s_.ints 57 rfl, by decide, s_.aPl (k := 63) (o := 8) rfl rfl rfl, s_.ints 58 rfl, by decide, s_.aPl (k := 63) (o := 9) rfl rfl rfl, s_.ints 59 rfl, by decide, s_.aPl (k := 63) (o := 10) rfl rfl rfl, s_.ints 60 rfl, by decide, s_.aPl (k := 63) (o := 11) rfl rfl rfl, s_.ints 61 rfl, by decide, s_.aPl (k := 63) (o := 12) rfl rfl rfl, s_.ints 62 rfl, by decide, trivial⟩) (fun p64 c64 => ?_))))))))))
 refine g4 ?_
 refine aT (.inl rfl) rfl (aE rfl) fun w_ s_ => ?_
 exact ⟨_, _, rfl, lG (s_.toNew (k := 64) rfl) (by rfl) (congrArg (List.map _) (by rfl))⟩
theorem rY (w : World) : Calls Tryz.prog 104 #[] w fun e w' => ∃ p c, e = .returned (.slice p 373 c) /\ gC w w' (.slice p 373 c) 3 1 373 (m0.map iV) := by
 refine aF (args := []) (L := []) (N := 23) Tryz.func104 rfl rfl ble rfl (sS w) (g7 ?_)
 refine gL (bL 50 (e := 3) (sz := 1) (n := 29) (xs := (lR 29 (1)).map iV) dE kR rfl (fun w_ s_ => lH (1) 29 dE dE w_) (fun p50 c50 => gL (bL 51 (e := 3) (sz := 1) (n := 30) (xs := (lR 30 (1)).map iV) dE kR rfl (fun w_ s_ => lH (1) 30 dE dE w_) (fun p51 c51 => gL (bL 52 (e := 3) (sz := 1) (n := 31) (xs := (lR 31 (1)).map iV) dE kR rfl (fun w_ s_ => lH (1) 31 dE dE w_) (fun p52 c52 => g6 ?_))))))
 refine cQ (fun w s => s.head 52 rfl dE) fun hcap => ?_
 obtain ⟨q52, -, hcap⟩ := hcap
 refine g14 ?_
 refine rl (eN (e := 3) (n := 1) kR rfl rfl oM oM) (gL (fY 53 (e := 22) (sz := 1) (n := 13) (vs := [(0, .slice p52 31 c52), (1, .slice p50 29 c50), (2, .slice p52 31 c52), (3, .slice p51 30 c51), (4, .slice p52 31 c52), (5, .slice p51 30 c51), (6, .slice p52 31 c52), (7, .slice p52 31 c52), (8, .slice p51 30 c51), (9, .slice p52 31 c52), (10, .slice p51 30 c51), (11, .slice p52 31 c52), (12, .slice p52 7 c52)]) (cs := [.slice p52 31 c52, .slice p50 29 c50, .slice p52 31 c52, .slice p51 30 c51, .slice p52 31 c52, .slice p51 30 c51, .slice p52 31 c52, .slice p52 31 c52, .slice p51 30 c51, .slice p52 31 c52, .slice p51 30 c51, .slice p52 31 c52, .slice p52 7 c52]) dE rfl kW rfl dE dE rfl (fun b1_ hbb1_ => gL (bL 64 (e := 3) (sz := 1) (n := (cat [(.slice p52 31 c52, (lR 31 (1))), (.slice p50 29 c50, (lR 29 (1))), (.slice p52 31 c52, (lR 31 (1))), (.slice p51 30 c51, (lR 30 (1))), (.slice p52 31 c52, (lR 31 (1))), (.slice p51 30 c51, (lR 30 (1))), (.slice p52 31 c52, (lR 31 (1))), (.slice p52 31 c52, (lR 31 (1))), (.slice p51 30 c51, (lR 30 (1))), (.slice p52 31 c52, (lR 31 (1))), (.slice p51 30 c51, (lR 30 (1))), (.slice p52 31 c52, (lR 31 (1))), (.slice p52 7 c52, (lR 31 (1)).take 7)] 13).length) (xs := (cat [(.slice p52 31 c52, (lR 31 (1))), (.slice p50 29 c50, (lR 29 (1))), (.slice p52 31 c52, (lR 31 (1))), (.slice p51 30 c51, (lR 30 (1))), (.slice p52 31 c52, (lR 31 (1))), (.slice p51 30 c51, (lR 30 (1))), (.slice p52 31 c52, (lR 31 (1))), (.slice p52 31 c52, (lR 31 (1))), (.slice p51 30 c51, (lR 30 (1))), (.slice p52 31 c52, (lR 31 (1))), (.slice p51 30 c51, (lR 30 (1))), (.slice p52 31 c52, (lR 31 (1))), (.slice p52 7 c52, (lR 31 (1)).take 7)] 13).map iV) dE kR rfl (fun w_ s_ => jJ [(.slice p52 31 c52, (lR 31 (1))), (.slice p50 29 c50, (lR 29 (1))), (.slice p52 31 c52, (lR 31 (1))), (.slice p51 30 c51, (lR 30 (1))), (.slice p52 31 c52, (lR 31 (1))), (.slice p51 30 c51, (lR 30 (1))), (.slice p52 31 c52, (lR 31 (1))), (.slice p52 31 c52, (lR 31 (1))), (.slice p51 30 c51, (lR 30 (1))), (.slice p52 31 c52, (lR 31 (1))), (.slice p51 30 c51, (lR 30 (1))), (.slice p52 31 c52, (lR 31 (1))), (.slice p52 7 c52, (lR 31 (1)).take 7)] _ 0 13 (Nat.le_of_ble_eq_true kR) (Nat.le_of_ble_eq_true kR) w_ ⟨s_.aPl (k := 53) (o := 0) rfl rfl rfl, s_.ints 52 rfl, by decide, s_.aPl (k := 53) (o := 1) rfl rfl rfl, s_.ints 50 rfl, by decide, s_.aPl (k := 53) (o := 2) rfl rfl rfl, s_.ints 52 rfl, by decide, s_.aPl (k := 53) (o := 3) rfl rfl rfl, s_.ints 51 rfl, by decide, s_.aPl (k := 53) (o := 4) rfl rfl rfl, s_.ints 52 rfl, by decide, s_.aPl (k := 53) (o := 5) rfl rfl rfl, s_.ints 51 rfl, by decide, s_.aPl (k := 53) (o := 6) rfl rfl rfl, s_.ints 52 rfl, by decide, s_.aPl (k := 53) (o := 7) rfl rfl rfl, s_.ints 52 rfl, by decide, s_.aPl (k := 53) (o := 8) rfl rfl rfl, s_.ints 51 rfl, by decide, s_.aPl (k := 53) (o := 9) rfl rfl rfl, s_.ints 52 rfl, by decide, s_.aPl (k := 53) (o := 10) rfl rfl rfl, s_.ints 51 rfl, by decide, s_.aPl (k := 53) (o := 11) rfl rfl rfl, s_.ints 52 rfl, by decide, s_.aPl (k := 53) (o := 12) rfl rfl rfl, (s_.ints 52 rfl).take dE, by decide, trivial⟩) (fun p64 c64 => g4 ?_)))))
 refine aT (.inl rfl) rfl (aE rfl) fun w_ s_ => ?_
 exact ⟨_, _, rfl, lG (s_.toNew (k := 64) rfl) (by rfl) (congrArg (List.map _) (by rfl))⟩
theorem pP (w : World) : Calls Tryz.prog 105 #[] w fun e w' => ∃ p c, e = .returned (.slice p 373 c) /\ gC w w' (.slice p 373 c) 3 1 373 (j7.map iV) := by
 refine aF (args := []) (L := []) (N := 23) Tryz.func105 rfl rfl ble rfl (sS w) (g7 ?_)
 refine gL (bL 50 (e := 3) (sz := 1) (n := 29) (xs := (lR 29 (-29)).map iV) dE kR rfl (fun w_ s_ => lH (-29) 29 dE dE w_) (fun p50 c50 => gL (bL 51 (e := 3) (sz := 1) (n := 30) (xs := (lR 30 (-30)).map iV) dE kR rfl (fun w_ s_ => lH (-30) 30 dE dE w_) (fun p51 c51 => gL (bL 52 (e := 3) (sz := 1) (n := 31) (xs := (lR 31 (-31)).map iV) dE kR rfl (fun w_ s_ => lH (-31) 31 dE dE w_) (fun p52 c52 => g6 ?_))))))
 refine cQ (fun w s => s.head 52 rfl dE) fun hcap => ?_
 obtain ⟨q52, -, hcap⟩ := hcap
 refine g14 ?_
 refine rl (eN (e := 3) (n := 1) kR rfl rfl oM oM) (gL (fY 53 (e := 22) (sz := 1) (n := 13) (vs := [(0, .slice p52 31 c52), (1, .slice p50 29 c50), (2, .slice p52 31 c52), (3, .slice p51 30 c51), (4, .slice p52 31 c52), (5, .slice p51 30 c51), (6, .slice p52 31 c52), (7, .slice p52 31 c52), (8, .slice p51 30 c51), (9, .slice p52 31 c52), (10, .slice p51 30 c51), (11, .slice p52 31 c52), (12, .slice p52 7 c52)]) (cs := [.slice p52 31 c52, .slice p50 29 c50, .slice p52 31 c52, .slice p51 30 c51, .slice p52 31 c52, .slice p51 30 c51, .slice p52 31 c52, .slice p52 31 c52, .slice p51 30 c51, .slice p52 31 c52, .slice p51 30 c51, .slice p52 31 c52, .slice p52 7 c52]) dE rfl kW rfl dE dE rfl (fun b1_ hbb1_ => gL (bL 64 (e := 3) (sz := 1) (n := (cat [(.slice p52 31 c52, (lR 31 (-31))), (.slice p50 29 c50, (lR 29 (-29))), (.slice p52 31 c52, (lR 31 (-31))), (.slice p51 30 c51, (lR 30 (-30))), (.slice p52 31 c52, (lR 31 (-31))), (.slice p51 30 c51, (lR 30 (-30))), (.slice p52 31 c52, (lR 31 (-31))), (.slice p52 31 c52, (lR 31 (-31))), (.slice p51 30 c51, (lR 30 (-30))), (.slice p52 31 c52, (lR 31 (-31))), (.slice p51 30 c51, (lR 30 (-30))), (.slice p52 31 c52, (lR 31 (-31))), (.slice p52 7 c52, (lR 31 (-31)).take 7)] 13).length) (xs := (cat [(.slice p52 31 c52, (lR 31 (-31))), (.slice p50 29 c50, (lR 29 (-29))), (.slice p52 31 c52, (lR 31 (-31))), (.slice p51 30 c51, (lR 30 (-30))), (.slice p52 31 c52, (lR 31 (-31))), (.slice p51 30 c51, (lR 30 (-30))), (.slice p52 31 c52, (lR 31 (-31))), (.slice p52 31 c52, (lR 31 (-31))), (.slice p51 30 c51, (lR 30 (-30))), (.slice p52 31 c52, (lR 31 (-31))), (.slice p51 30 c51, (lR 30 (-30))), (.slice p52 31 c52, (lR 31 (-31))), (.slice p52 7 c52, (lR 31 (-31)).take 7)] 13).map iV) dE kR rfl (fun w_ s_ => jJ [(.slice p52 31 c52, (lR 31 (-31))), (.slice p50 29 c50, (lR 29 (-29))), (.slice p52 31 c52, (lR 31 (-31))), (.slice p51 30 c51, (lR 30 (-30))), (.slice p52 31 c52, (lR 31 (-31))), (.slice p51 30 c51, (lR 30 (-30))), (.slice p52 31 c52, (lR 31 (-31))), (.slice p52 31 c52, (lR 31 (-31))), (.slice p51 30 c51, (lR 30 (-30))), (.slice p52 31 c52, (lR 31 (-31))), (.slice p51 30 c51, (lR 30 (-30))), (.slice p52 31 c52, (lR 31 (-31))), (.slice p52 7 c52, (lR 31 (-31)).take 7)] _ 0 13 (Nat.le_of_ble_eq_true kR) (Nat.le_of_ble_eq_true kR) w_ ⟨s_.aPl (k := 53) (o := 0) rfl rfl rfl, s_.ints 52 rfl, by decide, s_.aPl (k := 53) (o := 1) rfl rfl rfl, s_.ints 50 rfl, by decide, s_.aPl (k := 53) (o := 2) rfl rfl rfl, s_.ints 52 rfl, by decide, s_.aPl (k := 53) (o := 3) rfl rfl rfl, s_.ints 51 rfl, by decide, s_.aPl (k := 53) (o := 4) rfl rfl rfl, s_.ints 52 rfl, by decide, s_.aPl (k := 53) (o := 5) rfl rfl rfl, s_.ints 51 rfl, by decide, s_.aPl (k := 53) (o := 6) rfl rfl rfl, s_.ints 52 rfl, by decide, s_.aPl (k := 53) (o := 7) rfl rfl rfl, s_.ints 52 rfl, by decide, s_.aPl (k := 53) (o := 8) rfl rfl rfl, s_.ints 51 rfl, by decide, s_.aPl (k := 53) (o := 9) rfl rfl rfl, s_.ints 52 rfl, by decide, s_.aPl (k := 53) (o := 10) rfl rfl rfl, s_.ints 51 rfl, by decide, s_.aPl (k := 53) (o := 11) rfl rfl rfl, s_.ints 52 rfl, by decide, s_.aPl (k := 53) (o := 12) rfl rfl rfl, (s_.ints 52 rfl).take dE, by decide, trivial⟩) (fun p64 c64 => g4 ?_)))))
 refine aT (.inl rfl) rfl (aE rfl) fun w_ s_ => ?_
 exact ⟨_, _, rfl, lG (s_.toNew (k := 64) rfl) (by rfl) (congrArg (List.map _) (by rfl))⟩
theorem aFf (w : World) : Calls Tryz.prog 99 #[] w fun e w' => ∃ p c, e = .returned (.slice p 372 c) /\ gC w w' (.slice p 372 c) 3 1 372 (aAl.map iV) := by
 refine aF (args := []) (L := []) (N := 9) Tryz.func99 rfl rfl ble rfl (sS w) (g7 ?_)
 refine gL (bL 50 (e := 3) (sz := 1) (n := 373) (xs := mQ.map iV) dE kR rfl (fun w_ s_ => xR w_) (fun p50 c50 => g4 ?_))
 refine cQ (fun w s => s.head 50 rfl dE) fun hcap => ?_
 obtain ⟨b50, rfl, hcap⟩ := hcap
 refine dH 4 kR kR (g1 ?_)
 refine rt (eN (e := 3) (n := 1) kR rfl rfl oM oM) (g1 ?_)
 refine rt (i6 (e := 3) (n := 1) kR rfl rfl oM oM oM) (g1 ?_)
 refine gL (fY 51 (e := 22) (sz := 1) (n := 2) (vs := [(0, sL b50 59 c50), (1, .slice (some ⟨b50, 0 + (60 : Int).toNat * 1, none⟩) (373 - (60 : Int).toNat) (c50 - (60 : Int).toNat))]) (cs := [sL b50 59 c50, .slice (some ⟨b50, 0 + (60 : Int).toNat * 1, none⟩) (373 - (60 : Int).toNat) (c50 - (60 : Int).toNat)]) dE rfl kW rfl dE dE rfl (fun b1_ hbb1_ => gL (bL 64 (e := 3) (sz := 1) (n := (cat [(sL b50 59 c50, mQ.take 59), (.slice (some ⟨b50, 0 + (60 : Int).toNat * 1, none⟩) (373 - (60 : Int).toNat) (c50 - (60 : Int).toNat), mQ.drop 60)] 2).length) (xs := (cat [(sL b50 59 c50, mQ.take 59), (.slice (some ⟨b50, 0 + (60 : Int).toNat * 1, none⟩) (373 - (60 : Int).toNat) (c50 - (60 : Int).toNat), mQ.drop 60)] 2).map iV) dE kR rfl (fun w_ s_ => jJ [(sL b50 59 c50, mQ.take 59), (.slice (some ⟨b50, 0 + (60 : Int).toNat * 1, none⟩) (373 - (60 : Int).toNat) (c50 - (60 : Int).toNat), mQ.drop 60)] _ 0 2 (Nat.le_of_ble_eq_true kR) (Nat.le_of_ble_eq_true kR) w_ ⟨s_.aPl (k := 51) (o := 0) rfl rfl rfl, (s_.ints 50 rfl).take dE, by decide, s_.aPl (k := 51) (o := 1) rfl rfl rfl, (s_.ints 50 rfl).from 60, by decide, trivial⟩) (fun p64 c64 => g4 ?_))))
 refine aT (.inl rfl) rfl (aE rfl) fun w_ s_ => ?_
 exact ⟨_, _, rfl, lG (s_.toNew (k := 64) rfl) (by rfl) (congrArg (List.map _) (by rfl))⟩
theorem zC (w : World) : Calls Tryz.prog 100 #[] w fun e w' => ∃ p c, e = .returned (.slice p 372 c) /\ gC w w' (.slice p 372 c) 3 1 372 (aAf.map iV) := by
 refine aF (args := []) (L := []) (N := 9) Tryz.func100 rfl rfl ble rfl (sS w) (g7 ?_)
 refine gL (bL 50 (e := 3) (sz := 1) (n := 373) (xs := m0.map iV) dE kR rfl (fun w_ s_ => rY w_) (fun p50 c50 => g4 ?_))
 refine cQ (fun w s => s.head 50 rfl dE) fun hcap => ?_
 obtain ⟨b50, rfl, hcap⟩ := hcap
 refine dH 4 kR kR (g1 ?_)
 refine rt (eN (e := 3) (n := 1) kR rfl rfl oM oM) (g1 ?_)
 refine rt (i6 (e := 3) (n := 1) kR rfl rfl oM oM oM) (g1 ?_)
 refine gL (fY 51 (e := 22) (sz := 1) (n := 2) (vs := [(0, sL b50 59 c50), (1, .slice (some ⟨b50, 0 + (60 : Int).toNat * 1, none⟩) (373 - (60 : Int).toNat) (c50 - (60 : Int).toNat))]) (cs := [sL b50 59 c50, .slice (some ⟨b50, 0 + (60 : Int).toNat * 1, none⟩) (373 - (60 : Int).toNat) (c50 - (60 : Int).toNat)]) dE rfl kW rfl dE dE rfl (fun b1_ hbb1_ => gL (bL 64 (e := 3) (sz := 1) (n := (cat [(sL b50 59 c50, m0.take 59), (.slice (some ⟨b50, 0 + (60 : Int).toNat * 1, none⟩) (373 - (60 : Int).toNat) (c50 - (60 : Int).toNat), m0.drop 60)] 2).length) (xs := (cat [(sL b50 59 c50, m0.take 59), (.slice (some ⟨b50, 0 + (60 : Int).toNat * 1, none⟩) (373 - (60 : Int).toNat) (c50 - (60 : Int).toNat), m0.drop 60)] 2).map iV) dE kR rfl (fun w_ s_ => jJ [(sL b50 59 c50, m0.take 59), (.slice (some ⟨b50, 0 + (60 : Int).toNat * 1, none⟩) (373 - (60 : Int).toNat) (c50 - (60 : Int).toNat), m0.drop 60)] _ 0 2 (Nat.le_of_ble_eq_true kR) (Nat.le_of_ble_eq_true kR) w_ ⟨s_.aPl (k := 51) (o := 0) rfl rfl rfl, (s_.ints 50 rfl).take dE, by decide, s_.aPl (k := 51) (o := 1) rfl rfl rfl, (s_.ints 50 rfl).from 60, by decide, trivial⟩) (fun p64 c64 => g4 ?_))))
 refine aT (.inl rfl) rfl (aE rfl) fun w_ s_ => ?_
 exact ⟨_, _, rfl, lG (s_.toNew (k := 64) rfl) (by rfl) (congrArg (List.map _) (by rfl))⟩
theorem w8 (w : World) : Calls Tryz.prog 101 #[] w fun e w' => ∃ p c, e = .returned (.slice p 372 c) /\ gC w w' (.slice p 372 c) 3 1 372 (uX.map iV) := by
 refine aF (args := []) (L := []) (N := 9) Tryz.func101 rfl rfl ble rfl (sS w) (g7 ?_)
 refine gL (bL 50 (e := 3) (sz := 1) (n := 373) (xs := j7.map iV) dE kR rfl (fun w_ s_ => pP w_) (fun p50 c50 => g4 ?_))
 refine cQ (fun w s => s.head 50 rfl dE) fun hcap => ?_
 obtain ⟨b50, rfl, hcap⟩ := hcap
 refine dH 4 kR kR (g1 ?_)
 refine rt (eN (e := 3) (n := 1) kR rfl rfl oM oM) (g1 ?_)
 refine rt (i6 (e := 3) (n := 1) kR rfl rfl oM oM oM) (g1 ?_)
 refine gL (fY 51 (e := 22) (sz := 1) (n := 2) (vs := [(0, sL b50 31 c50), (1, .slice (some ⟨b50, 0 + (32 : Int).toNat * 1, none⟩) (373 - (32 : Int).toNat) (c50 - (32 : Int).toNat))]) (cs := [sL b50 31 c50, .slice (some ⟨b50, 0 + (32 : Int).toNat * 1, none⟩) (373 - (32 : Int).toNat) (c50 - (32 : Int).toNat)]) dE rfl kW rfl dE dE rfl (fun b1_ hbb1_ => gL (bL 64 (e := 3) (sz := 1) (n := (cat [(sL b50 31 c50, j7.take 31), (.slice (some ⟨b50, 0 + (32 : Int).toNat * 1, none⟩) (373 - (32 : Int).toNat) (c50 - (32 : Int).toNat), j7.drop 32)] 2).length) (xs := (cat [(sL b50 31 c50, j7.take 31), (.slice (some ⟨b50, 0 + (32 : Int).toNat * 1, none⟩) (373 - (32 : Int).toNat) (c50 - (32 : Int).toNat), j7.drop 32)] 2).map iV) dE kR rfl (fun w_ s_ => jJ [(sL b50 31 c50, j7.take 31), (.slice (some ⟨b50, 0 + (32 : Int).toNat * 1, none⟩) (373 - (32 : Int).toNat) (c50 - (32 : Int).toNat), j7.drop 32)] _ 0 2 (Nat.le_of_ble_eq_true kR) (Nat.le_of_ble_eq_true kR) w_ ⟨s_.aPl (k := 51) (o := 0) rfl rfl rfl, (s_.ints 50 rfl).take dE, by decide, s_.aPl (k := 51) (o := 1) rfl rfl rfl, (s_.ints 50 rfl).from 32, by decide, trivial⟩) (fun p64 c64 => g4 ?_))))
 refine aT (.inl rfl) rfl (aE rfl) fun w_ s_ => ?_
 exact ⟨_, _, rfl, lG (s_.toNew (k := 64) rfl) (by rfl) (congrArg (List.map _) (by rfl))⟩
theorem aE9 (w : World) : Calls Tryz.prog 102 #[] w fun e w' => ∃ p c, e = .returned (.slice p 13 c) /\ gC w w' (.slice p 13 c) 3 1 13 (([0, 31, 59, 90, 120, 151, 181, 212, 243, 273, 304, 334, 365] : List Int).map iV) := by
 refine aF (args := []) (L := []) (N := 2) Tryz.func102 rfl rfl ble rfl (sS w) (g7 ?_)
 refine gL (fY 50 (e := 3) (sz := 1) (n := 13) (vs := [(0, iV 0), (1, iV 31), (2, iV 59), (3, iV 90), (4, iV 120), (5, iV 151), (6, iV 181), (7, iV 212), (8, iV 243), (9, iV 273), (10, iV 304), (11, iV 334), (12, iV 365)]) (cs := [iV 0, iV 31, iV 59, iV 90, iV 120, iV 151, iV 181, iV 212, iV 243, iV 273, iV 304, iV 334, iV 365]) dE rfl kW rfl dE dE rfl (fun b1_ hbb1_ => g4 ?_))
 refine aT (.inl rfl) rfl (aE rfl) fun w_ s_ => ?_
 exact ⟨_, _, rfl, s_.toNew (k := 50) rfl⟩
theorem aEk (w : World) : Calls Tryz.prog 106 #[] w fun e w' => ∃ p c, e = .returned (.slice p 13 c) /\ gC w w' (.slice p 13 c) 3 1 13 (([0, 31, 60, 91, 121, 152, 182, 213, 244, 274, 305, 335, 366] : List Int).map iV) := by
 refine aF (args := []) (L := []) (N := 2) Tryz.func106 rfl rfl ble rfl (sS w) (g7 ?_)
 refine gL (fY 50 (e := 3) (sz := 1) (n := 13) (vs := [(0, iV 0), (1, iV 31), (2, iV 60), (3, iV 91), (4, iV 121), (5, iV 152), (6, iV 182), (7, iV 213), (8, iV 244), (9, iV 274), (10, iV 305), (11, iV 335), (12, iV 366)]) (cs := [iV 0, iV 31, iV 60, iV 91, iV 121, iV 152, iV 182, iV 213, iV 244, iV 274, iV 305, iV 335, iV 366]) dE rfl kW rfl dE dE rfl (fun b1_ hbb1_ => g4 ?_))
 refine aT (.inl rfl) rfl (aE rfl) fun w_ s_ => ?_
 exact ⟨_, _, rfl, s_.toNew (k := 50) rfl⟩
theorem aKq (k : Nat) : (wd k).map iV ++ [iV 0, iV 1, iV 2, iV 3, iV 4, iV 5, iV 6] = (wd (k + 1)).map iV := by
 unfold wd
 rw [List.replicate_succ', List.flatten_append, List.map_append]
 rfl
theorem aMc : ∀ u ∈ [iV 0, iV 1, iV 2, iV 3, iV 4, iV 5, iV 6], u.oneCell' = true := by
 intro u hu
 simp only [List.mem_cons, List.not_mem_nil, or_false] at hu
 rcases hu with rfl | rfl | rfl | rfl | rfl | rfl | rfl <;> rfl
theorem x8 (w : World) : Calls Tryz.prog 98 #[] w fun e w' => ∃ p c, e = .returned (.slice p 385 c) /\ gC w w' (.slice p 385 c) 3 1 385 ((wd 55).map iV) := by
 refine aF (args := []) (L := []) (N := 11) Tryz.func98 rfl rfl ble rfl (sS w) (g16 ?_)
 refine g1 ?_
 refine aY (ι := (Nat) × (Option Addr) × (Nat)) (fun | ⟨k, p, c⟩ => 55 - k) (fun | ⟨k, p, c⟩ => (k <= 55)) (fun | ⟨k, p, c⟩ => [(1, .slice p (7 * k) c), (2, iV k)]) (fun _ => []) (fun _ => []) (fun | ⟨k, p, c⟩ => [(50, ⟨.slice p (7 * k) c, 3, 1, 7 * k, (wd k).map iV⟩)]) ⟨0, none, 0⟩ (Nat.zero_le _) kns (fun w s => by exact s.aPm 50 3 1) ?_
 rintro ⟨k, p, c⟩ hk
 refine dS ?_
 refine g7 ?_
 refine aB rfl (fun c4_ => ?_) (fun c4_ => ?_)
 .first | have p4_ := oT c4_ | have p4_ := beq_iff_eq.1 c4_ | have p4_ := bne_iff_ne.1 c4_ | skip
  refine g6 ?_
  refine gL (fY 51 (e := 3) (sz := 1) (n := 7) (vs := [(0, iV 0), (1, iV 1), (2, iV 2), (3, iV 3), (4, iV 4), (5, iV 5), (6, iV 6)]) (cs := [iV 0, iV 1, iV 2, iV 3, iV 4, iV 5, iV 6]) dE rfl kW rfl dE dE rfl (fun b1_ hbb1_ => gL (cW 50 51 (e := 3) (sz := 1) (by_ := 8) (zs := [iV 0]) dE kR rfl dE rfl rfl rfl rfl ⟨rfl, rfl⟩ ⟨rfl, rfl⟩ aMc sO sO (fun p' c' => g9 ?_))))
  refine aN ⟨k + 1, p', c'⟩ sO (show k + 1 <= 55 by omega) kns (fun w s => by exact aIp s rfl sO (aKq k))
 .first | have p4_ := oF c4_ | have p4_ := beq_eq_false_iff_ne.1 c4_ | have p4_ := bne_eq_false_iff_eq.1 c4_ | skip
  refine g12 ?_
  refine aT (.inl rfl) rfl (aE rfl) fun w_ s_ => ?_
  obtain rfl : k = 55 := by omega
  exact ⟨p, c, rfl, lG (s_.toNew (k := 50) rfl) rfl rfl⟩
theorem pU (y : Int) : Cal.dayNo y 1 1 * 86400 + 0 * 3600 + 0 * 60 + 0 = Cal.daysTo y * 86400 := by
 unfold Cal.dayNo
 show (Cal.daysTo (y + 0) + 0 + 1 - 1) * 86400 + 0 * 3600 + 0 * 60 + 0 = _
 simp only [Int.add_zero]; omega
theorem aJc (y : Int) : ((Cal.daysTo y * 86400 / 86400 + 1) % 7 + 6) % 7 = ywd y := by unfold ywd; omega
theorem aM8 : (List.range 385).all (fun k => (wd 55)[k]? == some ((k % 7 : Nat) : Int)) = true := by kernel_rfl
theorem aM5 {k : Nat} (h : k < 385) : (wd 55)[k]? = some ((k % 7 : Nat) : Int) := by
 have := List.all_eq_true.1 aM8 k (List.mem_range.2 h)
 exact beq_iff_eq.1 this
theorem nP {k : Nat} {x : Int} (h : k < 385) (hx : x = ((k % 7 : Nat) : Int)) : ((wd 55).map iV)[k]? = some (iV x) := by
 rw [List.getElem?_map, aM5 h, hx]; rfl
theorem x0_ (n : Int) : n * 86400 + 0 * 3600 + 0 * 60 + 0 = n * 86400 := by omega
theorem x1_ (n : Int) : n * 86400 / 86400 = n := by omega
theorem aC9 {it : Nat} (hB : lkp 0 B = some it) {yl : Int} (h10 : lkp (ky 0 10) H = some (iV yl)) {y m d : Int} : ∀ w, Sees F w0 B H S w -> Calls Tryz.prog 124 #[.pointer (some ⟨it, 7, none⟩), iV 0, iV y, iV m, iV d] w fun e w' => e = .returned (.tuple #[iV 0, iV yl]) /\ Sees F w0 B H S w' := by
 intro w s
 refine aF (args := [.pointer (some ⟨it, 7, none⟩), iV 0, iV y, iV m, iV d]) (L := [(0, .pointer (some ⟨it, 7, none⟩)), (1, iV 0), (2, iV y), (3, iV m), (4, iV d)]) (N := 88) Tryz.func124 rfl rfl ble rfl s (g18 ?_)
 refine pA ?_
 refine d9 (.inl rfl) rfl (aE rfl) (aE rfl) fun w_ s_ => ⟨rfl, s_⟩
theorem aAu {it : Nat} (hB : lkp 0 B = some it) {p7 : Option Addr} {c7 : Nat} {rg : List Value} (h16 : lkp (ky 0 16) H = some (.slice p7 13 c7)) (hS7 : lkp 7 S = some ⟨.slice p7 13 c7, 3, 1, 13, rg⟩) {m : Int} (hm : 1 <= m /\ m <= 12) {a b : Int} (ha : rg[(m - 1).toNat]? = some (iV a)) (hb : rg[m.toNat]? = some (iV b)) {y d : Int} : ∀ w, Sees F w0 B H S w -> Calls Tryz.prog 124 #[.pointer (some ⟨it, 7, none⟩), iV 1, iV y, iV m, iV d] w fun e w' => e = .returned (.tuple #[iV a, iV b]) /\ Sees F w0 B H S w' := by
 intro w s
 refine aF (args := [.pointer (some ⟨it, 7, none⟩), iV 1, iV y, iV m, iV d]) (L := [(0, .pointer (some ⟨it, 7, none⟩)), (1, iV 1), (2, iV y), (3, iV m), (4, iV d)]) (N := 88) Tryz.func124 rfl rfl ble rfl s (g13 ?_)
 refine cQ (fun w s => s.head 7 hS7 dE) fun hcap => ?_
 obtain ⟨b7, rfl, hc7⟩ := hcap
 refine zE ?_
 refine rq (aC (e := 3) (n := 1) kR rfl rfl oM oM) (rq (bQ 7 rfl hS7 rfl (by rw [Nat.zero_add, Nat.mul_one]; exact ha) kR) (g5 ?_))
 refine rq (aC (e := 3) (n := 1) kR rfl rfl oM oM) (rq (bQ 7 rfl hS7 rfl (by rw [Nat.zero_add, Nat.mul_one]; exact hb) kR) (g14 ?_))
 refine d9 (.inl rfl) rfl (aE rfl) (aE rfl) fun w_ s_ => ⟨rfl, s_⟩
theorem aEl {it : Nat} (hB : lkp 0 B = some it) {y m d : Int} (hy : 1 <= y /\ y <= 10000) (hm : 1 <= m /\ m <= 12) (hd : 1 <= d /\ d <= 1000) (hdn : 0 <= Cal.dayNo y m d /\ Cal.dayNo y m d <= 5000000) {f : Int} (hf : 3 <= f) : ∀ w, Sees F w0 B H S w -> Calls Tryz.prog 124 #[.pointer (some ⟨it, 7, none⟩), iV f, iV y, iV m, iV d] w fun e w' => e = .returned (.tuple #[iV (Cal.ydayOf (Cal.dayNo y m d)), iV (Cal.ydayOf (Cal.dayNo y m d) + 1)]) /\ Sees F w0 B H S w' := by
 have hsp := Cal.split_spec (Cal.dayNo y m d)
 have hlp := Cal.lp_01 (Cal.yearOf (Cal.dayNo y m d))
 intro w s
 refine aF (args := [.pointer (some ⟨it, 7, none⟩), iV f, iV y, iV m, iV d]) (L := [(0, .pointer (some ⟨it, 7, none⟩)), (1, iV f), (2, iV y), (3, iV m), (4, iV d)]) (N := 88) Tryz.func124 rfl rfl ble rfl s (g18 ?_)
 refine aU rfl (nZ oM) ?_
 refine g6 ?_
 refine aU rfl (nZ oM) ?_
 refine g6 ?_
 refine aU rfl (nZ oM) ?_
 refine g5 ?_
 refine gL (cvo rfl (fun w_ s_ => rC w_) (gL (cvo (v := .agg #[iV (Cal.dayNo y m d * 86400), iV 0]) rfl (fun w_ s_ => (cV y m d 0 0 0 0 oM oM oM oM oM oM oM w_).mT (cRr (by rw [x0_]))) (gL (cvo (v := iV (Cal.ydayOf (Cal.dayNo y m d) + 1)) rfl (fun w_ s_ => (n6 _ _ oM w_).mT (cRr (by rw [x1_]))) (g15 ?_))))))
 refine d9 (.inl rfl) rfl (aE rfl) (aE rfl) fun w_ s_ => ⟨(congrArg Ending.returned (congrArg Value.tuple (by rw [Int.add_sub_cancel]))), s_⟩
theorem aDi {it : Nat} (hB : lkp 0 B = some it) {y m d : Int} (hy : 1 <= y /\ y <= 10000) (hm : 1 <= m /\ m <= 12) (hd : 1 <= d /\ d <= 1000) (hdn : 0 <= Cal.dayNo y m d /\ Cal.dayNo y m d <= 5000000) {rb : Nat} (hR : lkp 1 B = some rb) (h7 : lkp (ky 0 7) H = some (pT rb)) {k : Int} (r42 : lkp (ky 1 42) H = some (iV k)) (hk : 0 <= k /\ k <= 6) {yw : Int} (hyw : 0 <= yw /\ yw <= 6) {b6 c6 : Nat}
  (h19 : lkp (ky 0 19) H = some (.slice (some ⟨b6, 0 + yw.toNat * 1, none⟩) (385 - yw.toNat) (c6 - yw.toNat))) (hS6 : lkp 6 S = some ⟨sL b6 385 c6, 3, 1, 385, (wd 55).map iV⟩) {i : Int} (hi : Cal.ydayOf (Cal.dayNo y m d) = i) :
  ∀ w, Sees F w0 B H S w -> Calls Tryz.prog 124 #[.pointer (some ⟨it, 7, none⟩), iV 2, iV y, iV m, iV d] w fun e w' => e = .returned (.tuple #[iV i, iV (i + 1 + (k - yw - i - 1) % 7)]) /\ Sees F w0 B H S w' := by
 have hsp := Cal.split_spec (Cal.dayNo y m d)
 have hlp := Cal.lp_01 (Cal.yearOf (Cal.dayNo y m d))
 intro w s
 refine aF (args := [.pointer (some ⟨it, 7, none⟩), iV 2, iV y, iV m, iV d]) (L := [(0, .pointer (some ⟨it, 7, none⟩)), (1, iV 2), (2, iV y), (3, iV m), (4, iV d)]) (N := 88) Tryz.func124 rfl rfl ble rfl s (g18 ?_)
 refine aU rfl rfl ?_
 refine g6 ?_
 refine pA ?_
 refine gL (cvo rfl (fun w_ s_ => rC w_) (gL (cvo (v := .agg #[iV (Cal.dayNo y m d * 86400), iV 0]) rfl (fun w_ s_ => (cV y m d 0 0 0 0 oM oM oM oM oM oM oM w_).mT (cRr (by rw [x0_]))) (gL (cvo (v := iV (Cal.ydayOf (Cal.dayNo y m d) + 1)) rfl (fun w_ s_ => (n6 _ _ oM w_).mT (cRr (by rw [x1_]))) (rl ((nK rfl rfl oM).to (congrArg (Value.int .i64) (show _ = i by omega))) (g18 ?_)))))))
 refine g1 ?_
 refine aY (ι := (Nat)) (fun j => 7 - j) (fun j => ((j : Int) <= (k - yw - i - 1) % 7)) (fun j => [(0, .pointer (some ⟨it, 7, none⟩)), (10, iV i), (11, iV (i + 1 + j)), (12, iV (i + j)), (13, iV ((j : Int)))]) (fun j => B) (fun j => H) (fun j => S) 0 (by show ((0 : Nat) : Int) <= _; omega) (fun a q => q.cons rfl (q.cons rfl (q.cons (by exact congrArg (fun n : Int => some (iV n)) oM) (q.cons (by exact congrArg (fun n : Int => some (iV n)) oM) (q.cons rfl q.nil))))) (fun w s => by exact s) ?_
 rintro j hj
 refine dS ?_
 refine g7 ?_
 refine bK rfl (decide_eq_true oM) ?_
 refine g18 ?_
 refine g1 ?_
 refine rq (aC (e := 3) (n := 1) kR rfl rfl oM oM) (rq (bQ 6 rfl hS6 rfl (nP (x := (yw + i + j + 1) % 7) oM oM) kR) (g10 ?_))
 refine aB rfl (fun hc1 => ?_) (fun hc2 => ?_)
 .have hhit := beq_iff_eq.1 hc1
  refine g16 ?_
  refine g1 ?_
  refine d9 (.inl rfl) rfl (aE rfl) (aE rfl) fun w_ s_ => ⟨?_, s_⟩
  refine aOw oM oM
 .have hmiss := beq_eq_false_iff_ne.1 hc2
  refine g14 ?_
  refine aN (j + 1) oM (by show ((j + 1 : Nat) : Int) <= _; omega) (fun a q => q.cons rfl (q.cons rfl (q.cons (by exact congrArg (fun n : Int => some (iV n)) oM) (q.cons (by exact congrArg (fun n : Int => some (iV n)) oM) (q.cons (by exact congrArg (fun n : Int => some (iV n)) oM) q.nil))))) (fun w s => by exact s)
end
end Go.Proofs.YthomapgobmdicaaGreat
