/-
  More operations: numbers, tests, fields, indexes, loads, parts of slices; stores, new memory, calls.
-/
import Derived.Test.YtfcklceejjmjeaaGreatFw
import Derived.WalkLawsBesides
set_option linter.unusedVariables false
set_option linter.unusedSimpArgs false
namespace Go.Fr
open Go.RowKit
section
variable {P : Program} {Q Q' : Exit → Act → World → Prop} {K : Act → World → Prop} {N : Nat} {L : Loc} {F : Nat → Prop} {w0 : World} {B : List (Nat × Nat)} {H : List (Nat × Value)} {S : List (Nat × Slc)}
variable {id : Nat} {l tl rest : List Oper} {ops : Array Oper} {o : Oper} {d : Nat} {v : Value} {ty : TypeId} {pos : String} {aft : Array Edge} {op : Op} {g : Option (Nat × Bool)}

/-! ### numbers -/
theorem rd_quo {xt yt : TypeId} {x y : Operand} {q : IntKind} {m n : Int} (hx : ev L x = some (.int q m)) (hy : ev L y = some (.int q n)) (hn : n ≠ 0) : Rd P ⟨some d, .binOp .quo xt x y yt, ty, pos, aft, g⟩ N L F w0 B H S (.int q (q.wrap (m.tdiv n))) := fun a w k s => by
  simp [execOp, eqGuard, binOp, Op.intDiv, k.eval hx, k.eval hy, hn]
theorem rd_rem {xt yt : TypeId} {x y : Operand} {q : IntKind} {m n : Int} (hx : ev L x = some (.int q m)) (hy : ev L y = some (.int q n)) (hn : n ≠ 0) : Rd P ⟨some d, .binOp .rem xt x y yt, ty, pos, aft, g⟩ N L F w0 B H S (.int q (m.tmod n)) := fun a w k s => by
  simp [execOp, eqGuard, binOp, Op.intDiv, k.eval hx, k.eval hy, hn]
theorem rd_eql {xt yt : TypeId} {x y : Operand} {q : IntKind} {m n : Int} (hx : ev L x = some (.int q m)) (hy : ev L y = some (.int q n)) : Rd P ⟨some d, .binOp .eql xt x y yt, ty, pos, aft, g⟩ N L F w0 B H S (.bool (m == n)) := fun a w k s => by
  simp [execOp, eqGuard, binOp, Op.intCmp, k.eval hx, k.eval hy]
theorem rd_neq {xt yt : TypeId} {x y : Operand} {q : IntKind} {m n : Int} (hx : ev L x = some (.int q m)) (hy : ev L y = some (.int q n)) : Rd P ⟨some d, .binOp .neq xt x y yt, ty, pos, aft, g⟩ N L F w0 B H S (.bool (m != n)) := fun a w k s => by
  simp [execOp, eqGuard, binOp, Op.intCmp, k.eval hx, k.eval hy]
theorem rd_lss {xt yt : TypeId} {x y : Operand} {q : IntKind} {m n : Int} (hx : ev L x = some (.int q m)) (hy : ev L y = some (.int q n)) : Rd P ⟨some d, .binOp .lss xt x y yt, ty, pos, aft, g⟩ N L F w0 B H S (.bool (decide (m < n))) := fun a w k s => by
  simp [execOp, eqGuard, binOp, Op.intCmp, k.eval hx, k.eval hy]
theorem rd_leq {xt yt : TypeId} {x y : Operand} {q : IntKind} {m n : Int} (hx : ev L x = some (.int q m)) (hy : ev L y = some (.int q n)) : Rd P ⟨some d, .binOp .leq xt x y yt, ty, pos, aft, g⟩ N L F w0 B H S (.bool (decide (m ≤ n))) := fun a w k s => by
  simp [execOp, eqGuard, binOp, Op.intCmp, k.eval hx, k.eval hy]
theorem rd_gtr {xt yt : TypeId} {x y : Operand} {q : IntKind} {m n : Int} (hx : ev L x = some (.int q m)) (hy : ev L y = some (.int q n)) : Rd P ⟨some d, .binOp .gtr xt x y yt, ty, pos, aft, g⟩ N L F w0 B H S (.bool (decide (n < m))) := fun a w k s => by
  simp [execOp, eqGuard, binOp, Op.intCmp, k.eval hx, k.eval hy]
theorem rd_geq {xt yt : TypeId} {x y : Operand} {q : IntKind} {m n : Int} (hx : ev L x = some (.int q m)) (hy : ev L y = some (.int q n)) : Rd P ⟨some d, .binOp .geq xt x y yt, ty, pos, aft, g⟩ N L F w0 B H S (.bool (decide (n ≤ m))) := fun a w k s => by
  simp [execOp, eqGuard, binOp, Op.intCmp, k.eval hx, k.eval hy]
theorem rd_not {xt : TypeId} {x : Operand} {b : Bool} (hx : ev L x = some (.bool b)) : Rd P ⟨some d, .unOp .not xt x, ty, pos, aft, g⟩ N L F w0 B H S (.bool (!b)) := fun a w k s => by
  simp [execOp, Op.unary, k.eval hx]
theorem rd_neg {xt : TypeId} {x : Operand} {q : IntKind} {m : Int} (hx : ev L x = some (.int q m)) : Rd P ⟨some d, .unOp .neg xt x, ty, pos, aft, g⟩ N L F w0 B H S (.int q (q.wrap (0 - m))) := fun a w k s => by
  simp [execOp, Op.unary, Op.intArith, k.eval hx]
/-- A number of the same value behind. -/
theorem Rd.to {v v' : Value} (h : Rd P o N L F w0 B H S v) (e : v = v') : Rd P o N L F w0 B H S v' := e ▸ h
theorem wrap_i64 {n : Int} (h : -9223372036854775808 ≤ n ∧ n ≤ 9223372036854775807) : IntKind.i64.wrap n = n := IntWalk.i64_in n h
theorem rd_add_ {xt yt : TypeId} {x y : Operand} {m n : Int} (hx : ev L x = some (.int .i64 m)) (hy : ev L y = some (.int .i64 n)) (hb : -9223372036854775808 ≤ m + n ∧ m + n ≤ 9223372036854775807) : Rd P ⟨some d, .binOp .add xt x y yt, ty, pos, aft, g⟩ N L F w0 B H S (.int .i64 (m + n)) := (rd_add hx hy).to (by rw [wrap_i64 hb])
theorem rd_sub_ {xt yt : TypeId} {x y : Operand} {m n : Int} (hx : ev L x = some (.int .i64 m)) (hy : ev L y = some (.int .i64 n)) (hb : -9223372036854775808 ≤ m - n ∧ m - n ≤ 9223372036854775807) : Rd P ⟨some d, .binOp .sub xt x y yt, ty, pos, aft, g⟩ N L F w0 B H S (.int .i64 (m - n)) := (rd_sub hx hy).to (by rw [wrap_i64 hb])
theorem rd_mul_ {xt yt : TypeId} {x y : Operand} {m n : Int} (hx : ev L x = some (.int .i64 m)) (hy : ev L y = some (.int .i64 n)) (hb : -9223372036854775808 ≤ m * n ∧ m * n ≤ 9223372036854775807) : Rd P ⟨some d, .binOp .mul xt x y yt, ty, pos, aft, g⟩ N L F w0 B H S (.int .i64 (m * n)) := (rd_mul hx hy).to (by rw [wrap_i64 hb])
theorem rd_quo_ {xt yt : TypeId} {x y : Operand} {m n : Int} (hx : ev L x = some (.int .i64 m)) (hy : ev L y = some (.int .i64 n)) (hn : 0 < n) (hm : 0 ≤ m) (hb : m ≤ 9223372036854775807) : Rd P ⟨some d, .binOp .quo xt x y yt, ty, pos, aft, g⟩ N L F w0 B H S (.int .i64 (m / n)) := (rd_quo hx hy (by omega)).to (by
  rw [Int.tdiv_eq_ediv_of_nonneg hm, wrap_i64]
  have h1 : 0 ≤ m / n := Int.ediv_nonneg hm (by omega)
  have h2 : m / n ≤ m := Int.ediv_le_self n hm
  omega)
theorem tdiv_bd {m n : Int} (hn : 0 < n) (h1 : -9223372036854775807 ≤ m) (h2 : m ≤ 9223372036854775807) : -9223372036854775808 ≤ m.tdiv n ∧ m.tdiv n ≤ 9223372036854775807 := by
  have h := Int.natAbs_tdiv m n
  have h3 : (m.tdiv n).natAbs ≤ m.natAbs := h ▸ Nat.div_le_self _ _
  omega
theorem rd_quo_s {xt yt : TypeId} {x y : Operand} {m n : Int} (hx : ev L x = some (.int .i64 m)) (hy : ev L y = some (.int .i64 n)) (hn : 0 < n) (h1 : -9223372036854775807 ≤ m) (h2 : m ≤ 9223372036854775807) : Rd P ⟨some d, .binOp .quo xt x y yt, ty, pos, aft, g⟩ N L F w0 B H S (.int .i64 (m.tdiv n)) := (rd_quo hx hy (by omega)).to (by rw [wrap_i64 (tdiv_bd hn h1 h2)])
theorem rd_rem_ {xt yt : TypeId} {x y : Operand} {m n : Int} (hx : ev L x = some (.int .i64 m)) (hy : ev L y = some (.int .i64 n)) (hn : 0 < n) (hm : 0 ≤ m) : Rd P ⟨some d, .binOp .rem xt x y yt, ty, pos, aft, g⟩ N L F w0 B H S (.int .i64 (m % n)) := (rd_rem hx hy (by omega)).to (by rw [Int.tmod_eq_emod_of_nonneg hm])
theorem rd_neg_ {xt : TypeId} {x : Operand} {m : Int} (hx : ev L x = some (.int .i64 m)) (hb : -9223372036854775808 ≤ -m ∧ -m ≤ 9223372036854775807) : Rd P ⟨some d, .unOp .neg xt x, ty, pos, aft, g⟩ N L F w0 B H S (.int .i64 (-m)) := (rd_neg hx).to (by rw [show (0 : Int) - m = -m by omega, wrap_i64 hb])
theorem rd_convert {src dst : TypeId} {x : Operand} {q q' : IntKind} {n : Int} (hx : ev L x = some (.int q n)) (hs : (P.underlying src).isSome = true) (hd : P.underlying dst = some (.int q')) : Rd P ⟨some d, .convert src dst x, ty, pos, aft, g⟩ N L F w0 B H S (.int q' (q'.wrap n)) := fun a w k s => by
  obtain ⟨t, ht⟩ := Option.isSome_iff_exists.mp hs
  simp [execOp, convert, run_underlying ht, run_underlying hd, Conv.intToInt, k.eval hx]
theorem rd_convert_ {src dst : TypeId} {x : Operand} {q : IntKind} {n : Int} (hx : ev L x = some (.int q n)) (hs : (P.underlying src).isSome = true) (hd : P.underlying dst = some (.int .i64)) (hb : -9223372036854775808 ≤ n ∧ n ≤ 9223372036854775807) : Rd P ⟨some d, .convert src dst x, ty, pos, aft, g⟩ N L F w0 B H S (.int .i64 n) := (rd_convert hx hs hd).to (by rw [wrap_i64 hb])

/-! ### fields, indexes -/
def fieldOff (P : Program) (t : TypeId) (f : Nat) : Option Nat :=
  match P.underlying t with
  | some (.struct fs) => match fs[f]? with
    | some x => match (P.info? x.type).map (·.size) with
      | some (_ + 1) => some x.offset
      | _ => none
    | none => none
  | _ => none
theorem rd_fieldAddr {t : TypeId} {x : Operand} {f j b off : Nat} (hf : fieldOff P t f = some j) (hx : ev L x = some (.pointer (some ⟨b, off, none⟩))) : Rd P ⟨some d, .fieldAddr t x f, ty, pos, aft, g⟩ N L F w0 B H S (.pointer (some ⟨b, off + j, none⟩)) := fun a w k s => by
  unfold fieldOff at hf
  split at hf
  · rename_i fs hu
    split at hf
    · rename_i fl hfl
      split at hf
      · rename_i m hm
        cases hf
        cases hq : P.info? fl.type with
        | none => simp [hq] at hm
        | some i =>
          have hs : i.size = m + 1 := by simpa [hq] using hm
          simp [execOp, Instr.fieldAt, run_underlying hu, hfl, Instr.sureAddr, k.eval hx, fieldPlace, sizeOf, typeInfo, hq, hs, Addr.add_mid]
      · cases hf
    · cases hf
  · cases hf
/-- The part of a slice's cells: its element's type and size. -/
def sliceElem (P : Program) (t : TypeId) : Option (TypeId × Nat) :=
  match P.underlying t with
  | some (.slice e) => (P.info? e).map fun i => (e, i.size)
  | _ => none
theorem sliceElem_spec {t e : TypeId} {n : Nat} (h : sliceElem P t = some (e, n)) : P.underlying t = some (.slice e) ∧ ∃ i, P.info? e = some i ∧ i.size = n := by
  unfold sliceElem at h
  split at h
  · rename_i e' hu
    cases hq : P.info? e' with
    | none => simp [hq] at h
    | some i =>
      simp [hq] at h
      obtain ⟨rfl, rfl⟩ := h
      exact ⟨hu, i, hq, rfl⟩
  · cases h
theorem run_sizeOf_info {P : Program} {e : TypeId} {i : TypeInfo} (h : P.info? e = some i) (w : World) : (sizeOf e).run P w = .ok i.size w := by simp [sizeOf, typeInfo, h]
theorem rd_indexAddr {t e : TypeId} {x y : Operand} {n b off len cap : Nat} {q : IntKind} {i : Int} (ht : sliceElem P t = some (e, n)) (hx : ev L x = some (.slice (some ⟨b, off, none⟩) len cap)) (hy : ev L y = some (.int q i)) (h0 : 0 ≤ i) (h1 : i < len) :
    Rd P ⟨some d, .indexAddr t x y, ty, pos, aft, g⟩ N L F w0 B H S (.pointer (some ⟨b, off + i.toNat * n, none⟩)) := fun a w k s => by
  obtain ⟨hu, inf, hi, rfl⟩ := sliceElem_spec ht
  simp [execOp, Instr.indexAt, run_underlying hu, k.eval hx, k.eval hy, asIntOf, h0, h1, run_sizeOf_info hi, Addr.add_mid]
/-- The same where the address is knwn as a whole. -/
theorem rd_indexAddr_at {t e : TypeId} {x y : Operand} {n len cap : Nat} {p : Addr} {q : IntKind} {i : Int} (ht : sliceElem P t = some (e, n)) (hx : ev L x = some (.slice (some p) len cap)) (hy : ev L y = some (.int q i)) (h0 : 0 ≤ i) (h1 : i < len) :
    Rd P ⟨some d, .indexAddr t x y, ty, pos, aft, g⟩ N L F w0 B H S (.pointer (some (p.add (i.toNat * n)))) := fun a w k s => by
  obtain ⟨hu, inf, hi, rfl⟩ := sliceElem_spec ht
  simp [execOp, Instr.indexAt, run_underlying hu, k.eval hx, k.eval hy, asIntOf, h0, h1, run_sizeOf_info hi]
theorem rd_extract {x : Operand} {vs : Array Value} {j : Nat} (hx : ev L x = some (.tuple vs)) (hv : vs[j]? = some v) : Rd P ⟨some d, .extract x j, ty, pos, aft, g⟩ N L F w0 B H S v := fun a w k s => by
  simp [execOp, Instr.extract, k.eval hx, hv]

/-! ### len, cap -/
def isSlice (P : Program) (t : TypeId) : Bool := match P.underlying t with | some (.slice _) => true | _ => false
theorem isSlice_spec {t : TypeId} (h : isSlice P t = true) : ∃ e, P.underlying t = some (.slice e) := by
  unfold isSlice at h
  split at h
  · exact ⟨_, ‹_›⟩
  · cases h
theorem rd_len {t : TypeId} {x : Operand} {p : Option Addr} {n c : Nat} (ht : isSlice P t = true) (hx : ev L x = some (.slice p n c)) : Rd P ⟨some d, .call ⟨.builtin .len, #[x], #[t]⟩, ty, pos, aft, g⟩ N L F w0 B H S (.int .i64 n) := fun a w k s => by
  obtain ⟨e, hu⟩ := isSlice_spec ht
  simp [execOp, resolve, invoke, builtin, Builtin.len_, run_underlying hu, k.eval hx, goInt]
theorem rd_cap {t : TypeId} {x : Operand} {p : Option Addr} {n c : Nat} (ht : isSlice P t = true) (hx : ev L x = some (.slice p n c)) : Rd P ⟨some d, .call ⟨.builtin .cap, #[x], #[t]⟩, ty, pos, aft, g⟩ N L F w0 B H S (.int .i64 c) := fun a w k s => by
  obtain ⟨e, hu⟩ := isSlice_spec ht
  simp [execOp, resolve, invoke, builtin, Builtin.cap_, run_underlying hu, k.eval hx, goInt]

/-! ### loads -/
/-- A type of one cell; an aggregate of n cells. -/
def plainT (P : Program) (t : TypeId) : Bool := match P.underlying t with | some (.struct _) | some (.array _ _) | none => false | _ => true
def aggT (P : Program) (t : TypeId) : Option Nat := match P.underlying t with | some (.struct _) | some (.array _ _) => (P.info? t).map (·.size) | _ => none
theorem run_loadAt_plain {P : Program} {t : TypeId} {p : Addr} {v : Value} {w : World} (ht : plainT P t = true) (hc : w.cell? p = some v) : (Instr.loadAt t (.pointer (some p))).run P w = .ok v w := by
  unfold plainT at ht
  cases hu : P.underlying t with
  | none => simp [hu] at ht
  | some u =>
    have ha : (isAgg t).run P w = .ok false w := by
      unfold isAgg
      rw [Sem.run_bind, run_underlying hu w]
      cases u <;> simp_all
    simp [Instr.loadAt, Instr.sureAddr, loadVar, ha, hc]
theorem rd_load_at {t : TypeId} {x : Operand} {p : Addr} (ht : plainT P t = true) (hx : ev L x = some (.pointer (some p))) (hc : ∀ w, Sees F w0 B H S w → w.cell? p = some v) : Rd P ⟨some d, .load t x, ty, pos, aft, g⟩ N L F w0 B H S v := fun a w k s => by
  simp only [execOp, k.eval hx, Sem.run_bind, run_loadAt_plain ht (hc w s), Result.andThen_ok, Sem.run_pure]
/-- Tag j. -/
theorem rd_load (j : Nat) {t : TypeId} {x : Operand} {b off : Nat} (hx : ev L x = some (.pointer (some ⟨b, off, none⟩))) (hb : lkp j B = some b) (hv : lkp (ky j off) H = some v) (ht : plainT P t = true) (ho : off < 4096) : Rd P ⟨some d, .load t x, ty, pos, aft, g⟩ N L F w0 B H S v :=
  rd_load_at ht hx fun w s => s.cell hb ho hv
theorem rd_load_old {t : TypeId} {x : Operand} {p : Addr} (hx : ev L x = some (.pointer (some p))) (hv : w0.cell? p = some v) (hF : ¬ F p.block) (ht : plainT P t = true) : Rd P ⟨some d, .load t x, ty, pos, aft, g⟩ N L F w0 B H S v :=
  rd_load_at ht hx fun w s => s.old_cell hv hF
theorem rd_load_row (j : Nat) {t : TypeId} {x : Operand} {b off len cap : Nat} {s : Slc} (hx : ev L x = some (.pointer (some ⟨b, off, none⟩))) (hr : lkp j S = some s) (hs : s.v = .slice (some ⟨b, 0, none⟩) len cap) (hv : s.xs[off]? = some v) (ht : plainT P t = true) : Rd P ⟨some d, .load t x, ty, pos, aft, g⟩ N L F w0 B H S v :=
  rd_load_at ht hx fun w q => q.row_cell hr hs hv
theorem rd_loadAgg_at {t : TypeId} {x : Operand} {b off : Nat} {cs : List Value} (ht : aggT P t = some cs.length) (hx : ev L x = some (.pointer (some ⟨b, off, none⟩))) (hc : ∀ w, Sees F w0 B H S w → w.rangeAt b off cs) : Rd P ⟨some d, .load t x, ty, pos, aft, g⟩ N L F w0 B H S (.agg cs.toArray) := fun a w k s => by
  have h : ∃ u, P.underlying t = some u ∧ u.isRow = true ∧ (P.info? t).map (·.size) = some cs.length := by
    unfold aggT at ht
    split at ht
    · exact ⟨_, ‹_›, rfl, ht⟩
    · exact ⟨_, ‹_›, rfl, ht⟩
    · cases ht
  obtain ⟨u, hu, hr, hi⟩ := h
  simp only [execOp, k.eval hx, Sem.run_bind, run_loadAt_mid w b off t cs u (hc w s) hu hr hi, Result.andThen_ok, Sem.run_pure]
theorem range2 {w : World} {b o : Nat} {u v : Value} (h0 : w.cell? ⟨b, o, none⟩ = some u) (h1 : w.cell? ⟨b, o + 1, none⟩ = some v) : w.rangeAt b o [u, v] := by
  intro j x hx
  match j, hx with
  | 0, hx => cases hx; exact h0
  | 1, hx => cases hx; exact h1
/-- A value of two cells (a moment, a weekday). -/
theorem rd_load2 (j : Nat) {t : TypeId} {x : Operand} {b off : Nat} {u v : Value} (hx : ev L x = some (.pointer (some ⟨b, off, none⟩))) (hb : lkp j B = some b) (h0 : lkp (ky j off) H = some u) (h1 : lkp (ky j (off + 1)) H = some v) (ht : aggT P t = some 2) (ho : off + 1 < 4096) : Rd P ⟨some d, .load t x, ty, pos, aft, g⟩ N L F w0 B H S (.agg #[u, v]) :=
  rd_loadAgg_at (cs := [u, v]) ht hx fun w s => range2 (s.cell hb (by omega) h0) (s.cell hb ho h1)
theorem rd_load2_old {t : TypeId} {x : Operand} {b off : Nat} {u v : Value} (hx : ev L x = some (.pointer (some ⟨b, off, none⟩))) (h0 : w0.cell? ⟨b, off, none⟩ = some u) (h1 : w0.cell? ⟨b, off + 1, none⟩ = some v) (hF : ¬ F b) (ht : aggT P t = some 2) : Rd P ⟨some d, .load t x, ty, pos, aft, g⟩ N L F w0 B H S (.agg #[u, v]) :=
  rd_loadAgg_at (cs := [u, v]) ht hx fun w s => range2 (s.old_cell h0 hF) (s.old_cell h1 hF)
theorem rd_load2_row (j : Nat) {t : TypeId} {x : Operand} {b off len cap : Nat} {s : Slc} {u v : Value} (hx : ev L x = some (.pointer (some ⟨b, off, none⟩))) (hr : lkp j S = some s) (hs : s.v = .slice (some ⟨b, 0, none⟩) len cap) (h0 : s.xs[off]? = some u) (h1 : s.xs[off + 1]? = some v) (ht : aggT P t = some 2) : Rd P ⟨some d, .load t x, ty, pos, aft, g⟩ N L F w0 B H S (.agg #[u, v]) :=
  rd_loadAgg_at (cs := [u, v]) ht hx fun w q => range2 (q.row_cell hr hs h0) (q.row_cell hr hs h1)

/-! ### parts of slices -/
theorem run_slice_from {P : Program} (w : World) {t e : TypeId} {n : Nat} (ht : sliceElem P t = some (e, n)) (p : Option Addr) (len cap : Nat) (kl : IntKind) (lo : Int) (h0 : 0 ≤ lo) (h1 : lo ≤ len) :
    (Instr.sliceAt t (.slice p len cap) (some (.int kl lo)) none none).run P w = .ok (.slice (if cap = lo.toNat then p else p.map (·.add (lo.toNat * n))) (len - lo.toNat) (cap - lo.toNat)) w := by
  obtain ⟨hu, i, hi, rfl⟩ := sliceElem_spec ht
  have he : P.elem t = e := by simp [Program.elem, hu]
  rw [run_sliceAt_slice w t _ _ _ _ (by rw [he]; exact hu), run_slice_l w t p len cap (by rw [he]; exact hu) kl lo h0 h1, he, run_sizeOf_info hi]
  rfl
theorem run_slice_upto {P : Program} (w : World) {t e : TypeId} {n : Nat} (ht : sliceElem P t = some (e, n)) (p : Option Addr) (len cap : Nat) (kh : IntKind) (hi_ : Int) (h0 : 0 ≤ hi_) (h1 : hi_ ≤ cap) :
    (Instr.sliceAt t (.slice p len cap) none (some (.int kh hi_)) none).run P w = .ok (.slice (if cap = 0 then p else p.map (·.add (0 * n))) (hi_.toNat - 0) (cap - 0)) w := by
  obtain ⟨hu, i, hi, rfl⟩ := sliceElem_spec ht
  have he : P.elem t = e := by simp [Program.elem, hu]
  rw [run_sliceAt_slice w t _ _ _ _ (by rw [he]; exact hu), run_slice_h w t p len cap (by rw [he]; exact hu) kh hi_ h0 h1, he, run_sizeOf_info hi]
  rfl
/-- xs[lo:], lo below the capacity. -/
theorem rd_slice_from {t e : TypeId} {n : Nat} {x y : Operand} {b off len cap : Nat} {kl : IntKind} {lo : Int} (ht : sliceElem P t = some (e, n)) (hx : ev L x = some (.slice (some ⟨b, off, none⟩) len cap)) (hy : ev L y = some (.int kl lo)) (h0 : 0 ≤ lo) (h1 : lo ≤ len) (h2 : lo < cap) :
    Rd P ⟨some d, .slice t x (some y) none none, ty, pos, aft, g⟩ N L F w0 B H S (.slice (some ⟨b, off + lo.toNat * n, none⟩) (len - lo.toNat) (cap - lo.toNat)) := fun a w k s => by
  have hne : ¬ cap = lo.toNat := by omega
  simp only [execOp, k.eval hx, Option.map_some, Option.map_none, k.eval hy, Sem.run_bind, run_slice_from w ht _ len cap kl lo h0 h1, Result.andThen_ok, Sem.run_pure, if_neg hne, Addr.add_mid]
theorem rd_slice_from_any {t e : TypeId} {n : Nat} {x y : Operand} {p : Option Addr} {len cap : Nat} {kl : IntKind} {lo : Int} (ht : sliceElem P t = some (e, n)) (hx : ev L x = some (.slice p len cap)) (hy : ev L y = some (.int kl lo)) (h0 : 0 ≤ lo) (h1 : lo ≤ len) :
    Rd P ⟨some d, .slice t x (some y) none none, ty, pos, aft, g⟩ N L F w0 B H S (.slice (if cap = lo.toNat then p else p.map (·.add (lo.toNat * n))) (len - lo.toNat) (cap - lo.toNat)) := fun a w k s => by
  simp only [execOp, k.eval hx, Option.map_some, Option.map_none, k.eval hy, Sem.run_bind, run_slice_from w ht _ len cap kl lo h0 h1, Result.andThen_ok, Sem.run_pure]
/-- xs[:hi]. -/
theorem rd_slice_upto {t e : TypeId} {n : Nat} {x y : Operand} {p : Option Addr} {len cap : Nat} {kh : IntKind} {hi_ : Int} (ht : sliceElem P t = some (e, n)) (hx : ev L x = some (.slice p len cap)) (hy : ev L y = some (.int kh hi_)) (h0 : 0 ≤ hi_) (h1 : hi_ ≤ cap) :
    Rd P ⟨some d, .slice t x none (some y) none, ty, pos, aft, g⟩ N L F w0 B H S (.slice p hi_.toNat cap) := fun a w k s => by
  have e : (if cap = 0 then p else p.map (·.add (0 * n))) = p := by
    split
    · rfl
    · cases p <;> simp [Addr.add]
  simp only [execOp, k.eval hx, Option.map_some, Option.map_none, k.eval hy, Sem.run_bind, run_slice_upto w ht _ len cap kh hi_ h0 h1, Result.andThen_ok, Sem.run_pure, e, Nat.sub_zero]
end
end Go.Fr
