/-
  The begin and the end of a function's walk.
-/
import Derived.Test.YtfcklceejjmjeaaGreatFq
set_option linter.unusedVariables false
set_option linter.unusedSimpArgs false
namespace Go.Fr
open Go.RowKit
section
variable {P : Program} {N : Nat} {L : Loc} {F : Nat → Prop} {w0 w : World} {B : List (Nat × Nat)} {H : List (Nat × Value)} {S : List (Nat × Slc)} {fn : Func} {R : Ending → World → Prop}

theorem calls_GC {f : FuncId} {c : Code} {args : List Value} (hf : P.funcs[f]? = some fn) (hb : fn.body = some c) (hN : fn.ntmps = N) (hsz : args.length ≤ N) (hL : (args.zipIdx.map fun p => (p.2, p.1)) = L) (s : Sees F w0 B H S w) (h : GC P c (bodyPost P fn R) N L F w0 B H S) : Calls P f args.toArray w R := by
  refine calls_of_wp hf hb (h _ w ?_ s)
  have := Kn.start (args := args.toArray) (N := N) (by simpa using hsz)
  subst hN hL
  simpa using this

/-! ### What is known below a tag -/
section
variable {α : Type} {m : Nat}
/-- Below m, and but for the keys of X, both lists tell the same. -/
def Agr (m : Nat) (X : List Nat) (A1 A0 : List (Nat × α)) : Prop := ∀ k, k < m → k ∉ X → lkp k A1 = lkp k A0
variable {X : List Nat} {A1 A0 : List (Nat × α)}
theorem Agr.refl (A0 : List (Nat × α)) : Agr m X A0 A0 := fun _ _ _ => rfl
theorem Agr.pick {q : Nat} {v : α} (h : lkp q A1 = some v) (r : Agr m (q :: X) A1 A0) : Agr m X A1 ((q, v) :: A0) := fun k hk hX => by
  by_cases e : k = q
  · subst e; rw [lkp_cons_self]; exact h
  · rw [lkp_cons_ne e]; exact r k hk (by simp [e, hX])
theorem Agr.skip {q : Nat} {v : α} (h : m ≤ q ∨ q ∈ X) (r : Agr m X A1 A0) : Agr m X ((q, v) :: A1) A0 := fun k hk hX => by
  have e : k ≠ q := by
    rintro rfl
    rcases h with h | h
    · omega
    · exact hX h
  rw [lkp_cons_ne e]; exact r k hk hX
theorem Agr.put {k : Nat} {H1 H0 : List (Nat × Value)} (hk : m ≤ k) : ∀ (cs : List Value) (o : Nat), Agr (ky m 0) X H1 H0 → Agr (ky m 0) X (putKeys k o cs ++ H1) H0
  | [], _, h => h
  | v :: r, o, h => Agr.skip (.inl (by unfold ky; omega)) (Agr.put hk r (o + 1) h)
theorem Agr.seq {k : Nat} (hk : m ≤ k) : ∀ (cs : List Value) (o : Nat) {H1 H0 : List (Nat × Value)}, Agr (ky m 0) X H1 H0 → Agr (ky m 0) X (putSeq k o cs H1) H0
  | [], _, _, _, h => h
  | v :: r, o, _, _, h => Agr.seq hk r (o + 1) (Agr.skip (.inl (by unfold ky; omega)) h)
theorem Lim.consH {B0 : List (Nat × Nat)} {H0 : List (Nat × Value)} {S0 : List (Nat × Slc)} (h : Lim m B0 H0 S0) {k o : Nat} {v : Value} (hk : k < m) (ho : o < 4096) : Lim m B0 ((ky k o, v) :: H0) S0 :=
  ⟨h.b, fun k' hk' o' ho' => by rw [lkp_cons_ne (by unfold ky; omega)]; exact h.h k' hk' o' ho', h.s⟩
theorem Lim.consS {B0 : List (Nat × Nat)} {H0 : List (Nat × Value)} {S0 : List (Nat × Slc)} (h : Lim m B0 H0 S0) {k : Nat} {v : Slc} (hk : k < m) : Lim m B0 H0 ((k, v) :: S0) :=
  ⟨h.b, h.h, fun k' hk' => by rw [lkp_cons_ne (by omega)]; exact h.s k' hk'⟩
theorem Lim.consB {B0 : List (Nat × Nat)} {H0 : List (Nat × Value)} {S0 : List (Nat × Slc)} (h : Lim m B0 H0 S0) {k : Nat} {v : Nat} (hk : k < m) : Lim m ((k, v) :: B0) H0 S0 :=
  ⟨fun k' hk' => by rw [lkp_cons_ne (by omega)]; exact h.b k' hk', h.h, h.s⟩
theorem Lim.putH {B0 : List (Nat × Nat)} {S0 : List (Nat × Slc)} {k : Nat} (hk : k < m) : ∀ (cs : List Value) (o : Nat) {H0 : List (Nat × Value)}, o + cs.length ≤ 4096 → Lim m B0 H0 S0 → Lim m B0 (putKeys k o cs ++ H0) S0
  | [], _, _, _, h => h
  | v :: r, o, _, ho, h => Lim.consH (Lim.putH hk r (o + 1) (by simp at ho ⊢; omega) h) hk (by simp at ho; omega)
theorem Lim.nil : Lim m [] [] [] := ⟨fun _ _ => rfl, fun _ _ _ _ => rfl, fun _ _ => rfl⟩
theorem Lim.mono {B0 : List (Nat × Nat)} {H0 : List (Nat × Value)} {S0 : List (Nat × Slc)} (h : Lim m B0 H0 S0) {n : Nat} (hn : m ≤ n) : Lim n B0 H0 S0 := ⟨fun k hk => h.b k (by omega), fun k hk => h.h k (by omega), fun k hk => h.s k (by omega)⟩
end
/-- What is told of tags from m on, or told anew, is let go. -/
theorem Sees.low {B1 : List (Nat × Nat)} {H1 : List (Nat × Value)} {S1 : List (Nat × Slc)} (m : Nat) (s : Sees F w0 B1 H1 S1 w) (hl : Lim m B H S) (hB : Agr m [] B1 B) (hH : Agr (ky m 0) [] H1 H) (hS : Agr m [] S1 S) : Sees F w0 B H S w := by
  have hb : ∀ k b, lkp k B = some b → k < m := fun k b h => by
    rcases Nat.lt_or_ge k m with h' | h'
    · exact h'
    · rw [hl.b k h'] at h; cases h
  refine s.to (fun k b h => by rw [hB k (hb k b h) (by simp)]; exact h) (fun k o v ho h => ?_) (fun k q h => ?_)
  · have hk : k < m := by
      rcases Nat.lt_or_ge k m with h' | h'
      · exact h'
      · rw [hl.h k h' o ho] at h; cases h
    have h1 : lkp (ky k o) H1 = some v := by rw [hH (ky k o) (by unfold ky; omega) (by simp)]; exact h
    obtain ⟨b, e, _, _⟩ := s.cells k o v ho h1
    refine ⟨h1, ?_⟩
    rw [← hB k hk (by simp), e]; rfl
  · have hk : k < m := by
      rcases Nat.lt_or_ge k m with h' | h'
      · exact h'
      · rw [hl.s k h'] at h; cases h
    rw [hS k hk (by simp)]; exact h

theorem lkp_ky_ne {k j o p : Nat} {v : Value} {A : List (Nat × Value)} (h : k ≠ j) (ho : o < 4096) (hp : p < 4096) : lkp (ky k o) ((ky j p, v) :: A) = lkp (ky k o) A := lkp_cons_ne (fun e => h (ky_inj ho hp e).1) _ _
theorem lkp_put_ne {k j o : Nat} {A : List (Nat × Value)} (h : k ≠ j) (ho : o < 4096) : ∀ (cs : List Value) (p : Nat), p + cs.length ≤ 4096 → lkp (ky k o) (putKeys j p cs ++ A) = lkp (ky k o) A
  | [], _, _ => rfl
  | v :: r, p, hp => by
    simp only [List.length_cons] at hp
    show lkp (ky k o) ((ky j p, v) :: (putKeys j (p + 1) r ++ A)) = _
    rw [lkp_ky_ne h ho (by omega)]
    exact lkp_put_ne h ho r (p + 1) (by omega)
theorem lkp_seq_ne {k j o : Nat} (h : k ≠ j) (ho : o < 4096) : ∀ (cs : List Value) (p : Nat) {A : List (Nat × Value)}, p + cs.length ≤ 4096 → lkp (ky k o) (putSeq j p cs A) = lkp (ky k o) A
  | [], _, _, _ => rfl
  | v :: r, p, A, hp => by
    simp only [List.length_cons] at hp
    show lkp (ky k o) (putSeq j (p + 1) r ((ky j p, v) :: A)) = _
    rw [lkp_seq_ne h ho r (p + 1) (by omega), lkp_ky_ne h ho (by omega)]
theorem Sees.toBelow (s : Sees (fun _ => False) w0 B H S w) : Below w0.heap.size w0 w := ⟨s.os, s.tape, s.output, s.size, fun k hk => s.frame k hk (fun h => h)⟩

/-- A result's value. -/
def Res (P : Program) (N : Nat) (L : Loc) (F : Nat → Prop) (w0 : World) (B : List (Nat × Nat)) (H : List (Nat × Value)) (S : List (Nat × Slc)) (r : ResultVar) (v : Value) : Prop :=
  ∀ a w, Kn N L a → Sees F w0 B H S w → (match r with
    | .tmp t => (pure (a.tmps.getD t undef) : Sem Value)
    | .cell p t => do loadVar t (← asAddr (a.tmps.getD p undef))).run P w = .ok v w
theorem res_tmp {t : Nat} {v : Value} (hx : lkp t L = some v) : Res P N L F w0 B H S (.tmp t) v := fun a w k s => by
  have : a.tmps.getD t undef = v := k.eval (x := .tmp t) hx
  simp [this]
theorem res_cell2 (j : Nat) {p b : Nat} {t : TypeId} {u v : Value} (hx : lkp p L = some (.pointer (some ⟨b, 0, none⟩))) (hb : lkp j B = some b) (h0 : lkp (ky j 0) H = some u) (h1 : lkp (ky j 1) H = some v) (ht : aggT P t = some 2) : Res P N L F w0 B H S (.cell p t) (.agg #[u, v]) := fun a w k s => by
  have e : a.tmps.getD p undef = .pointer (some ⟨b, 0, none⟩) := k.eval (x := .tmp p) hx
  have h : ∃ d, P.underlying t = some d ∧ d.isRow = true ∧ (P.info? t).map (·.size) = some 2 := by
    unfold aggT at ht
    split at ht
    · exact ⟨_, ‹_›, rfl, ht⟩
    · exact ⟨_, ‹_›, rfl, ht⟩
    · cases ht
  obtain ⟨d, hu, hr, hi⟩ := h
  have hl := run_loadVar_mid (P := P) w b 0 t [u, v] d (range2 (s.cell hb (by omega) h0) (s.cell hb (by omega) h1)) hu hr hi
  simp only [e, asAddr, Sem.run_bind, Sem.run_pure, Result.andThen_ok, hl]
/-- A struct's value of n cells. -/
theorem res_cellN (j : Nat) {p b : Nat} {t : TypeId} {cs : List Value} (hx : lkp p L = some (.pointer (some ⟨b, 0, none⟩))) (hb : lkp j B = some b) (hc : ∀ i v, cs[i]? = some v → lkp (ky j i) H = some v) (hn : cs.length ≤ 4096) (ht : aggT P t = some cs.length) : Res P N L F w0 B H S (.cell p t) (.agg cs.toArray) := fun a w k s => by
  have e : a.tmps.getD p undef = .pointer (some ⟨b, 0, none⟩) := k.eval (x := .tmp p) hx
  have h : ∃ d, P.underlying t = some d ∧ d.isRow = true ∧ (P.info? t).map (·.size) = some cs.length := by
    unfold aggT at ht
    split at ht
    · exact ⟨_, ‹_›, rfl, ht⟩
    · exact ⟨_, ‹_›, rfl, ht⟩
    · cases ht
  obtain ⟨d, hu, hr, hi⟩ := h
  have hl := run_loadVar_mid (P := P) w b 0 t cs d (fun i v hv => by
    have hi : i < cs.length := by
      rcases Nat.lt_or_ge i cs.length with h' | h'
      · exact h'
      · simp [List.getElem?_eq_none h'] at hv
    rw [Nat.zero_add]; exact s.cell hb (by omega) (hc i v hv)) hu hr hi
  simp only [e, asAddr, Sem.run_bind, Sem.run_pure, Result.andThen_ok, hl]

theorem run_res {a : Act} {rs : List ResultVar} {vs : List Value} (k : Kn N L a) (s : Sees F w0 B H S w) (h : ∀ (i : Nat) r v, rs[i]? = some r → vs[i]? = some v → Res P N L F w0 B H S r v) (hl : rs.length = vs.length) :
    (rs.mapM fun (r : ResultVar) => (match r with
      | .tmp t => (pure (a.tmps.getD t undef) : Sem Value)
      | .cell p t => do loadVar t (← asAddr (a.tmps.getD p undef)))).run P w = .ok vs w := by
  induction rs generalizing vs with
  | nil => cases vs <;> simp_all
  | cons r rs ih =>
    cases vs with
    | nil => simp at hl
    | cons v vs =>
      have h0 := h 0 r v rfl rfl a w k s
      have h1 := ih (vs := vs) (fun i r v hr hv => h (i + 1) r v (by simpa using hr) (by simpa using hv)) (by simpa using hl)
      simp only [List.mapM_cons, Sem.run_bind, h0, Result.andThen_ok, h1, Sem.run_pure]
def packV : List Value → Value
  | [v] => v
  | vs => .tuple vs.toArray
theorem GE_ret {e : Exit} (he : e = .ret ∨ e = .normal) {rs : List ResultVar} {vs : List Value} (hr : fn.results = rs.toArray) (h : ∀ (i : Nat) r v, rs[i]? = some r → vs[i]? = some v → Res P N L F w0 B H S r v) (hl : rs.length = vs.length)
    (hR : ∀ w, Sees F w0 B H S w → R (.returned (packV vs)) w) : GE (bodyPost P fn R) e N L F w0 B H S := fun a w k s => by
  have h1 := run_res k s h hl
  have h2 : (results fn a.tmps).run P w = .ok (packV vs) w := by
    unfold results
    rw [hr]
    simp only [List.mapM_toArray, Sem.run_bind, Sem.run_map]
    refine (congrArg (fun (r : Result (List Value)) => (r.andThen fun a w' => Result.ok a.toArray w').andThen fun a w' => Sem.run P (pure (if h : a.size = 1 then a[0] else Value.tuple a)) w') h1).trans ?_
    simp only [Result.andThen_ok, Sem.run_pure]
    match vs with
    | [] => rfl
    | [v] => rfl
    | u :: v :: r => rfl
  rcases he with rfl | rfl
  · exact ⟨k.defers, _, h2, hR w s⟩
  · exact ⟨k.defers, _, h2, hR w s⟩
theorem GE_ret0 {e : Exit} (he : e = .ret ∨ e = .normal) (hr : fn.results = #[]) (hR : ∀ w, Sees F w0 B H S w → R (.returned (.tuple #[])) w) : GE (bodyPost P fn R) e N L F w0 B H S :=
  GE_ret he (rs := []) (vs := []) hr (fun i r v h _ => by simp at h) rfl hR
theorem GE_ret1 {e : Exit} {r : ResultVar} {v : Value} (he : e = .ret ∨ e = .normal) (hr : fn.results = #[r]) (h : Res P N L F w0 B H S r v) (hR : ∀ w, Sees F w0 B H S w → R (.returned v) w) : GE (bodyPost P fn R) e N L F w0 B H S :=
  GE_ret he (rs := [r]) (vs := [v]) hr (fun i r' v' h1 h2 => by
    match i, h1, h2 with
    | 0, h1, h2 => cases h1; cases h2; exact h) rfl hR
theorem GE_ret2 {e : Exit} {r r2 : ResultVar} {v v2 : Value} (he : e = .ret ∨ e = .normal) (hr : fn.results = #[r, r2]) (h : Res P N L F w0 B H S r v) (h' : Res P N L F w0 B H S r2 v2) (hR : ∀ w, Sees F w0 B H S w → R (.returned (.tuple #[v, v2])) w) : GE (bodyPost P fn R) e N L F w0 B H S :=
  GE_ret he (rs := [r, r2]) (vs := [v, v2]) hr (fun i r' v' h1 h2 => by
    match i, h1, h2 with
    | 0, h1, h2 => cases h1; cases h2; exact h
    | 1, h1, h2 => cases h1; cases h2; exact h') rfl hR
theorem GE_ret3 {e : Exit} {r r2 r3 : ResultVar} {v v2 v3 : Value} (he : e = .ret ∨ e = .normal) (hr : fn.results = #[r, r2, r3]) (h : Res P N L F w0 B H S r v) (h' : Res P N L F w0 B H S r2 v2) (h'' : Res P N L F w0 B H S r3 v3) (hR : ∀ w, Sees F w0 B H S w → R (.returned (.tuple #[v, v2, v3])) w) : GE (bodyPost P fn R) e N L F w0 B H S :=
  GE_ret he (rs := [r, r2, r3]) (vs := [v, v2, v3]) hr (fun i r' v' h1 h2 => by
    match i, h1, h2 with
    | 0, h1, h2 => cases h1; cases h2; exact h
    | 1, h1, h2 => cases h1; cases h2; exact h'
    | 2, h1, h2 => cases h1; cases h2; exact h'') rfl hR
end
end Go.Fr
