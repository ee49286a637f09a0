/-
  Operations that write or make memory, and calls, by knwn slots and cells.
-/
import Derived.Test.YtfcklceejjmjeaaGreatFo
import Derived.Maps.AppendAt
import Derived.Laws.OwnMore
import Derived.Laws.MakeOwn
import Derived.Laws.IdiomCopy
set_option linter.unusedVariables false
set_option linter.unusedSimpArgs false
namespace Go.Fr
open Go.RowKit
section
variable {P : Program} {Q Q' : Exit → Act → World → Prop} {K : Act → World → Prop} {N : Nat} {L : Loc} {F : Nat → Prop} {w0 : World} {B : List (Nat × Nat)} {H : List (Nat × Value)} {S : List (Nat × Slc)}
variable {id : Nat} {l tl rest : List Oper} {ops : Array Oper} {o : Oper} {d : Nat} {v : Value} {ty : TypeId} {pos : String} {aft : Array Edge} {op : Op} {g : Option (Nat × Bool)}

/-! ### guards -/
theorem GL_take {j dj : Nat} {want : Bool} {dst : Option Nat} (hj : (ops[j]?).bind (·.dst) = some dj) (hv : lkp dj L = some (.bool want)) (h : GL P ops Q (⟨dst, op, ty, pos, aft, none⟩ :: rest) N L F w0 B H S) : GL P ops Q (⟨dst, op, ty, pos, aft, some (j, want)⟩ :: rest) N L F w0 B H S := fun a w k s => by
  have h1 := h a w k s
  have hw : Region.wanted ⟨dst, op, ty, pos, aft, some (j, want)⟩ (yielded ops a.tmps) = true := by
    simp [Region.wanted, yielded, hj, k.get dj _ hv]
  unfold wpList at h1 ⊢
  rw [if_pos (by simp [Region.wanted])] at h1
  rw [if_pos hw]
  exact h1
theorem GL_pass {j dj : Nat} {want b : Bool} {dd : Nat} (hd : dd < N) (hj : (ops[j]?).bind (·.dst) = some dj) (hv : lkp dj L = some (.bool b)) (hne : b ≠ want) (h : GL P ops Q rest N ((dd, undef) :: L) F w0 B H S) : GL P ops Q (⟨some dd, op, ty, pos, aft, some (j, want)⟩ :: rest) N L F w0 B H S := fun a w k s => by
  have hw : ¬ Region.wanted ⟨some dd, op, ty, pos, aft, some (j, want)⟩ (yielded ops a.tmps) = true := by
    simp [Region.wanted, yielded, hj, k.get dj _ hv, hne]
  unfold wpList
  rw [if_neg hw]
  exact h _ w (k.put hd undef) s
theorem GL_passu {j dj : Nat} {want : Bool} {dd : Nat} (hd : dd < N) (hj : (ops[j]?).bind (·.dst) = some dj) (hv : lkp dj L = some undef) (h : GL P ops Q rest N ((dd, undef) :: L) F w0 B H S) : GL P ops Q (⟨some dd, op, ty, pos, aft, some (j, want)⟩ :: rest) N L F w0 B H S := fun a w k s => by
  have hw : ¬ Region.wanted ⟨some dd, op, ty, pos, aft, some (j, want)⟩ (yielded ops a.tmps) = true := by
    simp [Region.wanted, yielded, hj, k.get dj _ hv, undef]
  unfold wpList
  rw [if_neg hw]
  exact h _ w (k.put hd undef) s
theorem GQ_passu {j dj : Nat} {want : Bool} {dd : Nat} (hd : dd < N) (hj : (ops[j]?).bind (·.dst) = some dj) (hv : lkp dj L = some undef) (h : GQ P ops Q rest N ((dd, undef) :: L) F w0 B H S) : GQ P ops Q (⟨some dd, op, ty, pos, aft, some (j, want)⟩ :: rest) N L F w0 B H S := fun a k => by
  have hw : ¬ Region.wanted ⟨some dd, op, ty, pos, aft, some (j, want)⟩ (yielded ops a.tmps) = true := by
    simp [Region.wanted, yielded, hj, k.get dj _ hv, undef]
  unfold wpQuiet
  rw [if_neg hw]
  exact h _ (k.put hd undef)
theorem GQ_take {j dj : Nat} {want : Bool} {dst : Option Nat} (hj : (ops[j]?).bind (·.dst) = some dj) (hv : lkp dj L = some (.bool want)) (h : GQ P ops Q (⟨dst, op, ty, pos, aft, none⟩ :: rest) N L F w0 B H S) : GQ P ops Q (⟨dst, op, ty, pos, aft, some (j, want)⟩ :: rest) N L F w0 B H S := fun a k => by
  have h1 := h a k
  have hw : Region.wanted ⟨dst, op, ty, pos, aft, some (j, want)⟩ (yielded ops a.tmps) = true := by
    simp [Region.wanted, yielded, hj, k.get dj _ hv]
  unfold wpQuiet at h1 ⊢
  rw [if_pos (by simp [Region.wanted])] at h1
  rw [if_pos hw]
  exact h1
theorem GQ_pass {j dj : Nat} {want b : Bool} {dd : Nat} (hd : dd < N) (hj : (ops[j]?).bind (·.dst) = some dj) (hv : lkp dj L = some (.bool b)) (hne : b ≠ want) (h : GQ P ops Q rest N ((dd, undef) :: L) F w0 B H S) : GQ P ops Q (⟨some dd, op, ty, pos, aft, some (j, want)⟩ :: rest) N L F w0 B H S := fun a k => by
  have hw : ¬ Region.wanted ⟨some dd, op, ty, pos, aft, some (j, want)⟩ (yielded ops a.tmps) = true := by
    simp [Region.wanted, yielded, hj, k.get dj _ hv, hne]
  unfold wpQuiet
  rw [if_neg hw]
  exact h _ (k.put hd undef)
/-- The ways of a region meet again: what is knwn is told anew. -/
theorem GL_to {L' : Loc} {B' : List (Nat × Nat)} {H' : List (Nat × Value)} {S' : List (Nat × Slc)} (hL : ∀ a, Kn N L a → Kn N L' a) (hS : ∀ w, Sees F w0 B H S w → Sees F w0 B' H' S' w) (h : GL P ops Q rest N L' F w0 B' H' S') : GL P ops Q rest N L F w0 B H S :=
  fun a w k s => h a w (hL a k) (hS w s)
theorem GQ_to {L' : Loc} (hL : ∀ a, Kn N L a → Kn N L' a) (h : GQ P ops Q rest N L' F w0 B H S) : GQ P ops Q rest N L F w0 B H S :=
  fun a k => h a (hL a k)
theorem GE_to {e : Exit} {L' : Loc} {B' : List (Nat × Nat)} {H' : List (Nat × Value)} {S' : List (Nat × Slc)} (hL : ∀ a, Kn N L a → Kn N L' a) (hS : ∀ w, Sees F w0 B H S w → Sees F w0 B' H' S' w) (h : GE Q e N L' F w0 B' H' S') : GE Q e N L F w0 B H S :=
  fun a w k s => h a w (hL a k) (hS w s)
/-- The end of a round. -/
theorem GE_back {ι : Type} {μ : ι → Nat} {I : ι → Prop} {Lf : ι → Loc} {Bf : ι → List (Nat × Nat)} {Hf : ι → List (Nat × Value)} {Sf : ι → List (Nat × Slc)} {x : ι} (y : ι) (hμ : μ y < μ x) (hI : I y)
    (hL : ∀ a, Kn N L a → Kn N (Lf y) a) (hS : ∀ w, Sees F w0 B H S w → Sees F w0 (Bf y) (Hf y) (Sf y) w) :
    GE (Exit.then (Back μ I Lf Bf Hf Sf N F w0 x) Q) .normal N L F w0 B H S :=
  fun a w k s => ⟨y, hμ, hI, hL a k, hS w s⟩

/-- The ways of a piece meet behind it: what is known there, by a letter. -/
theorem GC_cut {ι : Type} {c y : Code} (I : ι → Prop) (Lf : ι → Loc) (Bf : ι → List (Nat × Nat)) (Hf : ι → List (Nat × Value)) (Sf : ι → List (Nat × Slc))
    (h1 : GC P c (Exit.then (Meet I Lf Bf Hf Sf N F w0) Q) N L F w0 B H S) (h2 : ∀ i, I i → GC P y Q N (Lf i) F w0 (Bf i) (Hf i) (Sf i)) : GC P (.seq c y) Q N L F w0 B H S := fun a w k s =>
  wp_seq (wp_mono (h1 a w k s) fun e a' w' q => by
    cases e with
    | normal =>
      obtain ⟨i, hi, hk, hs⟩ := q
      exact h2 i hi a' w' hk hs
    | _ => exact q)
theorem GE_meet {ι : Type} {I : ι → Prop} {Lf : ι → Loc} {Bf : ι → List (Nat × Nat)} {Hf : ι → List (Nat × Value)} {Sf : ι → List (Nat × Slc)} (y : ι) (hI : I y)
    (hL : ∀ a, Kn N L a → Kn N (Lf y) a) (hS : ∀ w, Sees F w0 B H S w → Sees F w0 (Bf y) (Hf y) (Sf y) w) :
    GE (Exit.then (Meet I Lf Bf Hf Sf N F w0) Q) .normal N L F w0 B H S :=
  fun a w k s => ⟨y, hI, hL a k, hS w s⟩

/-! ### stores -/
theorem at_store (j : Nat) {t : TypeId} {x y : Operand} {b off : Nat} {u : Value} (hx : ev L x = some (.pointer (some ⟨b, off, none⟩))) (hy : ev L y = some v) (hb : lkp j B = some b) (hl : lkp (ky j off) H = some u) (ht : (P.info? t).map (·.size) = some 1) (h1 : v.oneCell' = true) (ho : off < 4096)
    (hn : GK K N L F w0 B ((ky j off, v) :: H) S) : GO P ⟨none, .store t x y, ty, pos, aft, none⟩ Q K N L F w0 B H S := fun a w k s => by
  have hv : v.cells = #[v] := by cases v <;> simp_all [Value.cells, Value.oneCell']
  cases hq : P.info? t with
  | none => simp [hq] at ht
  | some i =>
    have hs : i.size = 1 := by simpa [hq] using ht
    have hc := s.cell hb ho hl
    have hf := s.free hb ho hl
    have hr : (Instr.storeAt t (.pointer (some ⟨b, off, none⟩)) v).run P w = .ok () (w.setCell ⟨b, off, none⟩ v) := by
      simp [Instr.storeAt, Instr.sureAddr, storeVar, sizeOf, typeInfo, hq, hv, hs, storeCells, Addr.add_mid, run_store P w _ _ _ h1, hc, hf]
    show Oper.upon _ _ _ _ _ _
    simp only [execOp, k.eval hx, k.eval hy, Sem.run_bind, hr, Result.andThen_ok, Sem.run_pure]
    exact hn _ _ k (s.set hb ho hl v)
def putSeq (j : Nat) : Nat → List Value → List (Nat × Value) → List (Nat × Value)
  | _, [], H => H
  | o, v :: r, H => putSeq j (o + 1) r ((ky j o, v) :: H)
def knwn (j : Nat) (H : List (Nat × Value)) : Nat → Nat → Bool
  | _, 0 => true
  | o, n + 1 => (lkp (ky j o) H).isSome && knwn j H (o + 1) n
theorem Sees.setN {w : World} {j b : Nat} (hb : lkp j B = some b) : ∀ (cs : List Value) (off : Nat) (H : List (Nat × Value)) (w : World), Sees F w0 B H S w → knwn j H off cs.length = true → off + cs.length ≤ 4096 →
    (∀ i, i < cs.length → (w.cell? ⟨b, off + i, none⟩).isSome = true ∧ w.frozen? ⟨b, off + i, none⟩ = false) ∧ Sees F w0 B (putSeq j off cs H) S (w.setCells b off cs)
  | [], off, H, w, s, _, _ => ⟨fun i hi => absurd hi (by simp), s⟩
  | v :: r, off, H, w, s, hk, ho => by
    simp only [List.length_cons, knwn, Bool.and_eq_true] at hk
    obtain ⟨u, hu⟩ := Option.isSome_iff_exists.1 hk.1
    simp only [List.length_cons] at ho
    have ho' : off < 4096 := by omega
    have s1 := s.set hb ho' hu v
    have hk1 : knwn j ((ky j off, v) :: H) (off + 1) r.length = true := by
      have mono : ∀ (n o : Nat), knwn j H o n = true → knwn j ((ky j off, v) :: H) o n = true := by
        intro n
        induction n with
        | zero => intro o _; rfl
        | succ n ih =>
          intro o h
          simp only [knwn, Bool.and_eq_true] at h ⊢
          refine ⟨?_, ih _ h.2⟩
          by_cases e : ky j o = ky j off
          · rw [e, lkp_cons_self]; rfl
          · rw [lkp_cons_ne e]; exact h.1
      exact mono _ _ hk.2
    obtain ⟨h1, h2⟩ := Sees.setN (w := w) hb r (off + 1) _ _ s1 hk1 (by omega)
    refine ⟨fun i hi => ?_, h2⟩
    cases i with
    | zero => rw [Nat.add_zero, s.cell hb ho' hu]; exact ⟨rfl, s.free hb ho' hu⟩
    | succ i =>
      obtain ⟨h3, h4⟩ := h1 i (by simpa using hi)
      have e : off + 1 + i = off + (i + 1) := by omega
      rw [e] at h3 h4
      have hlt : off + (i + 1) < 4096 := by simp at hi; omega
      refine ⟨?_, ?_⟩
      · simp only [World.cell?, World.setCell, Array.getElem?_modify, if_true] at h3 ⊢
        cases hq : w.heap[b]? with
        | none => rw [hq] at h3; simp at h3
        | some ob =>
          rw [hq] at h3
          cases ob <;> simp_all
      · simp only [World.frozen?, World.setCell, Array.getElem?_modify, if_true] at h4 ⊢
        cases hq : w.heap[b]? with
        | none => simp
        | some ob =>
          rw [hq] at h4
          cases ob <;> simp_all
/-- A struct's value, of n cells. -/
theorem at_storeAgg (j : Nat) {t : TypeId} {x y : Operand} {b off : Nat} {cs : Array Value} (hx : ev L x = some (.pointer (some ⟨b, off, none⟩))) (hy : ev L y = some (.agg cs)) (hb : lkp j B = some b) (hk : knwn j H off cs.toList.length = true) (ht : (P.info? t).map (·.size) = some cs.size) (h1 : cs.toList.all (·.oneCell') = true) (ho : off + cs.toList.length ≤ 4096)
    (hn : GK K N L F w0 B (putSeq j off cs.toList H) S) : GO P ⟨none, .store t x y, ty, pos, aft, none⟩ Q K N L F w0 B H S := fun a w k s => by
  obtain ⟨h2, h3⟩ := Sees.setN (w := w) hb cs.toList off H w s hk ho
  have hr := run_storeVar_mid (P := P) w b off t cs (fun i hi => h2 i (by simpa using hi)) ht (by simpa using h1)
  show Oper.upon _ _ _ _ _ _
  simp only [execOp, k.eval hx, k.eval hy, Instr.storeAt, Instr.sureAddr, Sem.run_bind, hr, Result.andThen_ok, Sem.run_pure]
  exact hn _ _ k h3
/-- An element's cell. -/
theorem Sees.stored {w : World} (s : Sees F w0 B H S w) (j : Nat) {b off len cap : Nat} {q : Slc} (hr : lkp j S = some q) (hs : q.v = .slice (some ⟨b, 0, none⟩) len cap) (v : Value) :
    Sees F w0 B H ((j, { q with xs := q.xs.set off v }) :: S) (w.setCell ⟨b, off, none⟩ v) := by
  have ho := s.slcs j q hr
  have hh := own_head ho hs
  have ho' : w.ownsRow 0 q.e q.sz (.slice (some ⟨b, 0, none⟩) q.n cap) q.n q.xs := by
    rw [← hh.2.2]; rw [← hs]; rw [hh.2.2]; exact ho
  have hst := ho'.stored off v
  refine s.slice (old := some b) (.inr ⟨q, hr, hh.1⟩) hst.2 ?_ (.inr (.inl ⟨by simp, hh.1⟩))
  show World.ownsRow _ _ _ _ q.v _ _
  rw [hs, hh.2.2]; exact hst.1
theorem at_store_row (j : Nat) {t : TypeId} {x y : Operand} {b off len cap : Nat} {q : Slc} (hx : ev L x = some (.pointer (some ⟨b, off, none⟩))) (hy : ev L y = some v) (hr : lkp j S = some q) (hs : q.v = .slice (some ⟨b, 0, none⟩) len cap) (hi : off < q.xs.length) (ht : (P.info? t).map (·.size) = some 1) (h1 : v.oneCell' = true)
    (hn : GK K N L F w0 B H ((j, { q with xs := q.xs.set off v }) :: S)) : GO P ⟨none, .store t x y, ty, pos, aft, none⟩ Q K N L F w0 B H S := fun a w k s => by
  have hv : v.cells = #[v] := by cases v <;> simp_all [Value.cells, Value.oneCell']
  cases hq : P.info? t with
  | none => simp [hq] at ht
  | some i =>
    have hs1 : i.size = 1 := by simpa [hq] using ht
    have hc := s.row_cell (o := off) hr hs (List.getElem?_eq_getElem hi)
    have ho := s.slcs j q hr
    have hh := own_head ho hs
    have ho' : w.ownsRow 0 q.e q.sz (.slice (some ⟨b, 0, none⟩) q.n cap) q.n q.xs := by
      rw [← hh.2.2]; rw [← hs]; rw [hh.2.2]; exact ho
    have hf := ho'.frozenAt off
    have hr' : (Instr.storeAt t (.pointer (some ⟨b, off, none⟩)) v).run P w = .ok () (w.setCell ⟨b, off, none⟩ v) := by
      simp [Instr.storeAt, Instr.sureAddr, storeVar, sizeOf, typeInfo, hq, hv, hs1, storeCells, Addr.add_mid, run_store P w _ _ _ h1, hc, hf]
    show Oper.upon _ _ _ _ _ _
    simp only [execOp, k.eval hx, k.eval hy, Sem.run_bind, hr', Result.andThen_ok, Sem.run_pure]
    exact hn _ _ k (s.stored j hr hs v)

/-! ### new blocks -/
def zeroOf (P : Program) (t : TypeId) : Option (List Value) := ((P.info? t).bind (·.zero)).map (·.cells.toList)
theorem at_alloc {t : TypeId} {cs : List Value} (n : Nat) (hd : d < N) (hz : zeroOf P t = some cs) (hk : lkp n B = none) (hkH : ∀ o, o < 4096 → lkp (ky n o) H = none) (hs : cs.length ≤ 4096)
    (hn : ∀ b, w0.heap.size ≤ b → GK K N ((d, .pointer (some ⟨b, 0, none⟩)) :: L) F w0 ((n, b) :: B) (putKeys n 0 cs ++ H) S) : GO P ⟨some d, .alloc t, ty, pos, aft, none⟩ Q K N L F w0 B H S := fun a w k s => by
  unfold zeroOf at hz
  cases hq : P.info? t with
  | none => simp [hq] at hz
  | some i =>
    cases hzz : i.zero with
    | none => simp [hq, hzz] at hz
    | some z =>
      have hcs : z.cells.toList = cs := by simpa [hq, hzz] using hz
      have hr : (Instr.alloc t true (.tuple #[])).run P w = .ok (.pointer (some ⟨w.heap.size, 0, none⟩)) (w.alloc (.cells cs.toArray t (0, 0))) := by
        subst hcs
        simp [Instr.alloc, zeroValue, typeInfo, hq, hzz, newVar, newRow]
      show Oper.upon _ _ _ _ _ _
      simp only [execOp, Sem.run_bind, hr, Result.andThen_ok, Sem.run_pure]
      exact hn _ s.size _ _ (k.put hd _) (s.alloc cs t n hk hkH hs)
theorem at_box {t : TypeId} {x : Operand} {cs : List Value} (n : Nat) (hd : d < N) (hx : ev L x = some v) (hz : v.cells.toList = cs) (hk : lkp n B = none) (hkH : ∀ o, o < 4096 → lkp (ky n o) H = none) (hs : cs.length ≤ 4096)
    (hn : ∀ b, w0.heap.size ≤ b → GK K N ((d, .pointer (some ⟨b, 0, none⟩)) :: L) F w0 ((n, b) :: B) (putKeys n 0 cs ++ H) S) : GO P ⟨some d, .box t x, ty, pos, aft, none⟩ Q K N L F w0 B H S := fun a w k s => by
  have hr : (Instr.box t v).run P w = .ok (.pointer (some ⟨w.heap.size, 0, none⟩)) (w.alloc (.cells cs.toArray t (0, 0))) := by
    subst hz
    simp [Instr.box, newVar, newRow]
  show Oper.upon _ _ _ _ _ _
  simp only [execOp, k.eval hx, Sem.run_bind, hr, Result.andThen_ok, Sem.run_pure]
  exact hn _ s.size _ _ (k.put hd _) (s.alloc cs t n hk hkH hs)

/-! ### calls -/
def enterB (P : Program) (f : FuncId) : Bool :=
  match P.funcs[f]? with
  | some fn => fn.body.isSome && !(fn.name == "runtime.NumGoroutine")
  | none => false
def evs (L : Loc) : List Operand → Option (List Value)
  | [] => some []
  | x :: r => match ev L x, evs L r with
    | some v, some vs => some (v :: vs)
    | _, _ => none
theorem Kn.evs {a : Act} (k : Kn N L a) : ∀ {xs : List Operand} {vs : List Value}, Fr.evs L xs = some vs → xs.map a.eval = vs
  | [], vs, h => by simpa [Fr.evs] using h
  | x :: r, vs, h => by
    simp only [Fr.evs] at h
    split at h
    · rename_i v vs' h1 h2
      cases h
      simp [k.eval h1, k.evs h2]
    · cases h
theorem run_call {a : Act} {w : World} {f : FuncId} {as : List Operand} {ats : Array TypeId} {args : List Value} {dst : Option Nat} (k : Kn N L a) (hf : enterB P f = true) (ha : Fr.evs L as = some args) :
    (execOp a.eval ⟨dst, .call ⟨.value (.func f), as.toArray, ats⟩, ty, pos, aft, g⟩).run P w = .ok (.enter f args.toArray) w := by
  unfold enterB at hf
  split at hf
  · rename_i fn hfn
    simp only [Bool.and_eq_true, Bool.not_eq_true'] at hf
    obtain ⟨c, hb⟩ := Option.isSome_iff_exists.1 hf.1
    have hnm : ¬ fn.name = "runtime.NumGoroutine" := by simpa using hf.2
    simp [execOp, resolve, Act.eval, Deferred.ofValue, invoke, callFunc, hfn, hnm, hb, k.evs ha]
  · cases hf
/-- What the callee hands back, and what is knwn then, by a letter x. -/
theorem at_call {ι : Type} {f : FuncId} {as : List Operand} {ats : Array TypeId} {args : List Value} (V : ι → Value) (Pr : ι → Prop) (Bx : ι → List (Nat × Nat)) (Hx : ι → List (Nat × Value)) (Sx : ι → List (Nat × Slc)) (hd : d < N) (hf : enterB P f = true) (ha : Fr.evs L as = some args)
    (hc : ∀ w, Sees F w0 B H S w → Calls P f args.toArray w fun e w' => ∃ x, Pr x ∧ e = .returned (V x) ∧ Sees F w0 (Bx x) (Hx x) (Sx x) w')
    (hn : ∀ x, Pr x → GK K N ((d, V x) :: L) F w0 (Bx x) (Hx x) (Sx x)) : GO P ⟨some d, .call ⟨.value (.func f), as.toArray, ats⟩, ty, pos, aft, none⟩ Q K N L F w0 B H S := fun a w k s => by
  show Oper.upon _ _ _ _ _ _
  rw [run_call k hf ha]
  refine (hc w s).mono ?_
  rintro e w' ⟨x, hx, rfl, s'⟩
  exact hn x hx _ _ (k.put hd _) s'
/-- A callee that only computes, or makes memory of its own. -/
theorem at_call_v {f : FuncId} {as : List Operand} {ats : Array TypeId} {args : List Value} (hd : d < N) (hf : enterB P f = true) (ha : Fr.evs L as = some args)
    (hc : ∀ w, Sees F w0 B H S w → Calls P f args.toArray w fun e w' => e = .returned v ∧ Below w.heap.size w w')
    (hn : GK K N ((d, v) :: L) F w0 B H S) : GO P ⟨some d, .call ⟨.value (.func f), as.toArray, ats⟩, ty, pos, aft, none⟩ Q K N L F w0 B H S :=
  at_call (ι := Unit) (fun _ => v) (fun _ => True) (fun _ => B) (fun _ => H) (fun _ => S) hd hf ha (fun w s => (hc w s).mono fun e w' ⟨he, hb⟩ => ⟨(), trivial, he, s.below hb⟩) (fun _ _ => hn)
theorem GQ_call_v {f : FuncId} {as : List Operand} {ats : Array TypeId} {args : List Value} (hd : d < N) (hf : enterB P f = true) (ha : Fr.evs L as = some args)
    (hc : ∀ w, Sees F w0 B H S w → Calls P f args.toArray w fun e w' => e = .returned v ∧ Below w.heap.size w w')
    (hn : GQ P ops Q rest N ((d, v) :: L) F w0 B H S) : GQ P ops Q (⟨some d, .call ⟨.value (.func f), as.toArray, ats⟩, ty, pos, aft, none⟩ :: rest) N L F w0 B H S := fun a k => wpQuiet_step fun K hK => by
  rw [if_pos (by simp [Region.wanted])]
  refine ⟨v, fun w s => ?_, hK _ (hn _ (k.put hd v))⟩
  show Oper.quietUpon _ _ _ _ _
  rw [run_call k hf ha]
  exact ⟨rfl, (hc w s).mono fun e w' ⟨he, hb⟩ => ⟨he, s.below hb⟩⟩

/-! ### composite values -/
def evp (L : Loc) : List (Nat × Operand) → Option (List (Nat × Value))
  | [] => some []
  | (i, x) :: r => match ev L x, evp L r with
    | some v, some vs => some ((i, v) :: vs)
    | _, _ => none
theorem Kn.evp {a : Act} (k : Kn N L a) : ∀ {xs : List (Nat × Operand)} {vs : List (Nat × Value)}, Fr.evp L xs = some vs → xs.map (fun p => (p.1, a.eval p.2)) = vs
  | [], vs, h => by simpa [Fr.evp] using h
  | (i, x) :: r, vs, h => by
    simp only [Fr.evp] at h
    split at h
    · rename_i v vs' h1 h2
      cases h
      simp [k.eval h1, k.evp h2]
    · cases h
theorem rd_build {t : TypeId} {ps : List (Nat × Operand)} {vs : List (Nat × Value)} (hv : Fr.evp L ps = some vs) (hb : ∀ w : World, (Instr.build t vs.toArray).run P w = .ok v w) : Rd P ⟨some d, .build t ps.toArray, ty, pos, aft, g⟩ N L F w0 B H S v := fun a w k s => by
  have : (ps.toArray.map fun p => (p.1, a.eval p.2)) = vs.toArray := by simp [k.evp hv]
  simp only [execOp, this, Sem.run_bind, hb w, Result.andThen_ok, Sem.run_pure]

/-! ### slices of the call's own -/
/-- xs[:m] of a slice that is owned. -/
theorem own_cut {w : World} {base n sz c : Nat} {e : TypeId} {p : Option Addr} {xs : List Value} (h : w.ownsRow base e sz (.slice p n c) n xs) (m : Nat) (hm : m ≤ n) : w.ownsRow base e sz (.slice p m c) m (xs.take (m * sz)) := by
  refine ⟨?_, ?_⟩
  · rw [List.length_take, h.1]; exact Nat.min_eq_left (Nat.mul_le_mul_right _ hm)
  · rcases h.2 with ⟨e1, e2⟩ | ⟨g, cap, cur, e1, hb, hh, hn, hc, hs, ht⟩
    · injection e1 with e3 e4 e5
      subst e3 e5
      have : m = 0 := by omega
      subst this
      exact .inl ⟨rfl, rfl⟩
    · injection e1 with e3 e4 e5
      subst e3 e5
      exact .inr ⟨g, _, cur, rfl, hb, hh, by omega, hc, hs, by rw [← ht, List.take_take]; congr 1; exact (Nat.min_eq_left (Nat.mul_le_mul_right _ hm)).symm⟩
theorem grownBy_refl (w : World) (r : Option Nat) : w.grownBy w r := ⟨rfl, rfl, rfl, Nat.le_refl _, fun _ _ _ => rfl⟩
theorem Sees.cut {w : World} (s : Sees F w0 B H S w) (j : Nat) {p : Option Addr} {n c : Nat} {q : Slc} (hr : lkp j S = some q) (hv : q.v = .slice p n c) (m : Nat) (hm : m ≤ q.n) : Sees F w0 B H ((j, ⟨.slice p m c, q.e, q.sz, m, q.xs.take (m * q.sz)⟩) :: S) w := by
  have ho := s.slcs j q hr
  have hn : n = q.n := by
    rcases ho.2 with ⟨e1, e2⟩ | ⟨g, cap, cur, e1, _⟩ <;> rw [hv] at e1 <;> injection e1
    omega
  subst hn
  rw [hv] at ho
  refine s.slice (old := q.v.ownBlock) (.inr ⟨q, hr, rfl⟩) (grownBy_refl w _) (own_cut ho m hm) ?_
  rw [hv]
  cases p with
  | none => exact .inl rfl
  | some ad => exact .inr (.inl ⟨by simp [Value.ownBlock], rfl⟩)
def elemInfo (P : Program) (t : TypeId) : Option (TypeId × Nat × Nat × List Value) :=
  match P.underlying t with
  | some (.slice e) => match P.info? e with
    | some i => match i.zero with
      | some z => some (e, i.size, i.bytes, z.cells.toList)
      | none => none
    | none => none
  | _ => none
theorem elemInfo_spec {t e : TypeId} {n b : Nat} {zs : List Value} (h : elemInfo P t = some (e, n, b, zs)) : P.underlying t = some (.slice e) ∧ ∃ i z, P.info? e = some i ∧ i.zero = some z ∧ i.size = n ∧ i.bytes = b ∧ z.cells.toList = zs := by
  unfold elemInfo at h
  split at h
  · rename_i e' hu
    split at h
    · rename_i i hi
      split at h
      · rename_i z hz
        cases h
        exact ⟨hu, i, z, hi, hz, rfl, rfl, rfl⟩
      · cases h
    · cases h
  · cases h
theorem one2 {k : IntKind} {x y : Int} : ∀ u ∈ [Value.int k x, .int k y], u.oneCell' = true := by
  intro u hu
  simp only [List.mem_cons, List.not_mem_nil, or_false] at hu
  rcases hu with rfl | rfl <;> rfl
/-- append(s, x...): s is tag j's; x is tag i's. -/
theorem at_append (j i : Nat) {t e : TypeId} {sz by_ : Nat} {zs : List Value} {x y : Operand} {q r : Slc} {b c : Nat} (hd : d < N) (ht : elemInfo P t = some (e, sz, by_, zs)) (hzs : zs.length = sz) (hsz : 0 < sz) (hx : ev L x = some q.v) (hy : ev L y = some (.slice (some ⟨b, 0, none⟩) r.n c)) (hq : lkp j S = some q) (hr : lkp i S = some r)
    (hqe : q.e = e ∧ q.sz = sz) (hre : r.sz = sz ∧ r.v = .slice (some ⟨b, 0, none⟩) r.n c) (h1 : ∀ u ∈ r.xs, u.oneCell' = true) (h63 : q.n + r.n ≤ 9223372036854775807) (hbytes : (q.n + r.n) * by_ ≤ 140737488355328)
    (hn : ∀ p cp, GK K N ((d, .slice p (q.n + r.n) cp) :: L) F w0 B H ((j, ⟨.slice p (q.n + r.n) cp, e, sz, q.n + r.n, q.xs ++ r.xs⟩) :: S)) :
    GO P ⟨some d, .call ⟨.builtin .append, #[x, y], #[t, t]⟩, ty, pos, aft, none⟩ Q K N L F w0 B H S := fun a w k s => by
  obtain ⟨hu, inf, z, hi, hz, h2, h3, h4⟩ := elemInfo_spec ht
  have ho := s.slcs j q hq
  have hor := s.slcs i r hr
  rw [hqe.1, hqe.2] at ho
  have hl : r.xs.length = r.n * sz := by rw [← hre.1]; exact hor.1
  have hnews : ∀ j' u, r.xs[j']? = some u → w.cell? ((⟨b, 0, none⟩ : Addr).add j') = some u := hor.cells (by rw [hre.2]; rfl)
  obtain ⟨v', w', hrun, hown, hg, _, hat⟩ := run_append_own_at (P := P) w 0 t ty e inf z sz by_ hu hi hz h2 h3 (by rw [← h4] at hzs; simpa using hzs) hsz q.v q.n q.xs ho ⟨b, 0, none⟩ r.n c r.xs hl hnews h1 h63 hbytes (Nat.zero_le _)
  have s' : Sees F w0 B H ((j, ⟨v', e, sz, q.n + r.n, q.xs ++ r.xs⟩) :: S) w' := s.slice (old := q.v.ownBlock) (.inr ⟨q, hq, rfl⟩) hg hown (by
    rcases hat with h' | h'
    · cases hb : q.v.ownBlock with
      | none => exact .inl (h'.trans hb)
      | some g' => exact .inr (.inl ⟨by simp, h'.trans hb⟩)
    · exact .inr (.inr ⟨_, h', Nat.le_refl _⟩))
  obtain ⟨p, cp, rfl⟩ : ∃ p cp, v' = .slice p (q.n + r.n) cp := by
    rcases hown.2 with ⟨e1, e2⟩ | ⟨g1, cap1, cur1, e1, _⟩
    · exact ⟨none, 0, by rw [e1, e2]⟩
    · exact ⟨_, _, e1⟩
  show Oper.upon _ _ _ _ _ _
  simp only [execOp, resolve, invoke, builtin, Sem.run_bind, Sem.run_pure, Result.andThen_ok, List.map_toArray, List.map_cons, List.map_nil, k.eval hx, k.eval hy, hrun]
  exact hn p cp _ _ (k.put hd _) s'
/-- A row that is written out: one element, of cells cs. -/
theorem at_one (j : Nat) {t e : TypeId} {sz by_ : Nat} {zs : List Value} {y : Operand} {cs : List Value} (hd : d < N) (ht : elemInfo P t = some (e, sz, by_, zs)) (hzs : zs.length = sz) (hsz : 0 < sz) (hsm : sz ≤ 4096) (hy : ev L y = some v) (hv : v.cells.toList = cs) (hcs : cs.length = sz) (hS : lkp j S = none)
    (hn : ∀ b, GK K N ((d, .slice (some ⟨b, 0, none⟩) 1 1) :: L) F w0 B H ((j, ⟨.slice (some ⟨b, 0, none⟩) 1 1, e, sz, 1, cs⟩) :: S)) :
    GO P ⟨some d, .buildSlice t 1 #[(0, y)], ty, pos, aft, none⟩ Q K N L F w0 B H S := fun a w k s => by
  obtain ⟨hu, inf, z, hi, hz, h2, h3, h4⟩ := elemInfo_spec ht
  subst h2
  have hvs : v.cells.size = inf.size := by rw [← Array.length_toList, hv, hcs]
  have hfold : ∀ (l : List Value) (n : Nat) (A : Array Value), n + l.length = A.size → ((l.zipIdx n).foldl (fun cs (c, j) => cs.setIfInBounds j c) A).toList = A.toList.take n ++ l := by
    intro l
    induction l with
    | nil => intro n A h; simp at h; subst h; simp [← Array.length_toList]
    | cons c l ih =>
      intro n A h
      simp only [List.length_cons] at h
      rw [List.zipIdx_cons, List.foldl_cons, ih (n + 1) _ (by simp; omega)]
      have hn : n < A.size := by omega
      rw [Array.toList_setIfInBounds, List.take_set, List.take_succ_eq_append_getElem (by simpa using hn), List.set_append_right _ _ (by simp; omega)]
      simp [Nat.min_eq_left (Nat.le_of_lt hn)]
  have hr : (Instr.buildSlice t 1 #[(0, v)]).run P w = .ok (.slice (some ⟨w.heap.size, 0, none⟩) 1 1) (w.alloc (.cells cs.toArray e (0, 0))) := by
    have hne : ¬ inf.size = 0 := by omega
    have hle : ¬ 16777216 < inf.size := by omega
    have hA : (Array.map (fun x => z.cells[x % z.cells.size]!) (Array.range inf.size)).size = inf.size := by simp
    have key : ((v.cells.zipIdx).foldl (fun cs (c, j) => cs.setIfInBounds j c) (Array.map (fun x => z.cells[x % z.cells.size]!) (Array.range inf.size))) = cs.toArray := by
      apply Array.toList_inj.1
      have := hfold v.cells.toList 0 (Array.map (fun x => z.cells[x % z.cells.size]!) (Array.range inf.size)) (by rw [hA, Array.length_toList, hvs]; omega)
      simp only [List.take_zero, List.nil_append, hv] at this
      rw [← Array.foldl_toList, Array.toList_zipIdx, hv]
      simpa using this
    simp [Instr.buildSlice, run_underlying hu, run_sizeOf_info hi, hne, hle, zeroValue, typeInfo, hi, hz, Instr.fill, hvs, newRow]
    have e1 : v.cells.zipIdx.size = inf.size := by simp [hvs]
    have key2 : Array.foldl (fun (cs : Array Value) (x : Value × Nat) => cs.setIfInBounds x.snd x.fst) (Array.map (fun x => z.cells[x % z.cells.size]!) (Array.range inf.size)) v.cells.zipIdx 0 inf.size = cs.toArray := by
      rw [show Array.foldl (fun (cs : Array Value) (x : Value × Nat) => cs.setIfInBounds x.snd x.fst) (Array.map (fun x => z.cells[x % z.cells.size]!) (Array.range inf.size)) v.cells.zipIdx 0 inf.size = Array.foldl (fun (cs : Array Value) (x : Value × Nat) => cs.setIfInBounds x.snd x.fst) (Array.map (fun x => z.cells[x % z.cells.size]!) (Array.range inf.size)) v.cells.zipIdx 0 v.cells.zipIdx.size by rw [e1]]
      exact key
    exact congrArg (fun A => w.alloc (.cells A e)) key2
  have s' : Sees F w0 B H ((j, ⟨.slice (some ⟨w.heap.size, 0, none⟩) 1 1, e, inf.size, 1, cs⟩) :: S) (w.alloc (.cells cs.toArray e (0, 0))) :=
    s.slice (old := none) (.inl rfl) (World.grownBy_alloc w _ none) ⟨by simp [hcs], .inr ⟨w.heap.size, 1, cs.toArray, rfl, Nat.zero_le _, heap_alloc_new w _, Nat.le_refl _, by unfold maxLen; omega, by simp [hcs], by simp [← hcs]⟩⟩ (.inr (.inr ⟨w.heap.size, rfl, Nat.le_refl _⟩))
  show Oper.upon _ _ _ _ _ _
  simp only [execOp, List.map_toArray, List.map_cons, List.map_nil, k.eval hy, Sem.run_bind, hr, Result.andThen_ok, Sem.run_pure]
  exact hn _ _ _ (k.put hd _) s'
/-- make([]T, 0, c). -/
theorem at_make0 (j : Nat) {t e : TypeId} {sz by_ : Nat} {zs : List Value} {x y : Operand} {q q' : IntKind} {c : Nat} (hd : d < N) (ht : elemInfo P t = some (e, sz, by_, zs)) (hx : ev L x = some (.int q 0)) (hy : ev L y = some (.int q' (c : Int))) (hb : by_ * c ≤ 281474976710656) (h63 : c ≤ 9223372036854775807)
    (hn : ∀ b, GK K N ((d, .slice (some ⟨b, 0, none⟩) 0 c) :: L) F w0 B H ((j, ⟨.slice (some ⟨b, 0, none⟩) 0 c, e, sz, 0, []⟩) :: S)) :
    GO P ⟨some d, .makeSlice t x y, ty, pos, aft, none⟩ Q K N L F w0 B H S := fun a w k s => by
  obtain ⟨hu, inf, z, hi, hz, h2, h3, h4⟩ := elemInfo_spec ht
  subst h3
  obtain ⟨w', hr, hown, hg⟩ := run_make_own (P := P) w 0 t e inf z sz hu hi hz h2 q q' c hb h63 (Nat.zero_le _)
  have s' : Sees F w0 B H ((j, ⟨.slice (some ⟨w.heap.size, 0, none⟩) 0 c, e, sz, 0, []⟩) :: S) w' := s.slice (old := none) (.inl rfl) hg hown (.inr (.inr ⟨w.heap.size, rfl, Nat.le_refl _⟩))
  show Oper.upon _ _ _ _ _ _
  simp only [execOp, k.eval hx, k.eval hy, Sem.run_bind, hr, Result.andThen_ok, Sem.run_pure]
  exact hn _ _ _ (k.put hd _) s'
end
end Go.Fr
