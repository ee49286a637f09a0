/-
  Further words: composite values of numbers.
-/
import Derived.Test.YtfcklceejjmjeaaGreatFz
set_option linter.unusedVariables false
set_option linter.unusedSimpArgs false
namespace Go.Fr
open Go.RowKit
section
variable {P : Program} {Q Q' : Exit → Act → World → Prop} {K : Act → World → Prop} {N : Nat} {L : Loc} {F : Nat → Prop} {w0 : World} {B : List (Nat × Nat)} {H : List (Nat × Value)} {S : List (Nat × Slc)}
variable {id : Nat} {l tl rest : List Oper} {ops : Array Oper} {o : Oper} {d : Nat} {v : Value} {ty : TypeId} {pos : String} {aft : Array Edge} {op : Op} {g : Option (Nat × Bool)}
theorem rd_build1 {t : TypeId} {x : Operand} {k k2 : IntKind} {m n : Int} (hx : ev L x = some (.int k m)) (hb : ∀ w : World, (Instr.build t #[(0, .int k m)]).run P w = .ok (.agg #[.int k m, .int k2 n]) w) : Rd P ⟨some d, .build t #[(0, x)], ty, pos, aft, g⟩ N L F w0 B H S (.agg #[.int k m, .int k2 n]) :=
  rd_build (ps := [(0, x)]) (vs := [(0, .int k m)]) (by simp [evp, hx]) hb
theorem rd_build2 {t : TypeId} {x y : Operand} {k k2 : IntKind} {m n : Int} (hx : ev L x = some (.int k m)) (hy : ev L y = some (.int k2 n)) (hb : ∀ w : World, (Instr.build t #[(0, .int k m), (1, .int k2 n)]).run P w = .ok (.agg #[.int k m, .int k2 n]) w) : Rd P ⟨some d, .build t #[(0, x), (1, y)], ty, pos, aft, g⟩ N L F w0 B H S (.agg #[.int k m, .int k2 n]) :=
  rd_build (ps := [(0, x), (1, y)]) (vs := [(0, .int k m), (1, .int k2 n)]) (by simp [evp, hx, hy]) hb
theorem rd_build0 {t : TypeId} (hb : ∀ w : World, (Instr.build t #[]).run P w = .ok v w) : Rd P ⟨some d, .build t #[], ty, pos, aft, g⟩ N L F w0 B H S v :=
  rd_build (ps := []) (vs := []) rfl hb
/-- A place behind. -/
theorem rd_fieldAddr0 {t : TypeId} {x : Operand} {f j b off : Nat} (hf : fieldOff P t f = some j) (hx : ev L x = some (.pointer (some ⟨b, off, none⟩))) : Rd P ⟨some d, .fieldAddr t x f, ty, pos, aft, g⟩ N L F w0 B H S (.pointer (some ⟨b, off + j, none⟩)) := rd_fieldAddr hf hx
/-- A row that is written out. -/
theorem at_row (j : Nat) {t e : TypeId} {sz n : Nat} {ps : List (Nat × Operand)} {vs : List (Nat × Value)} {cs : List Value} (hd : d < N) (hv : evp L ps = some vs)
    (hb : ∀ w : World, (Instr.buildSlice t n vs.toArray).run P w = .ok (.slice (some ⟨w.heap.size, 0, none⟩) n n) (w.alloc (.cells cs.toArray e (0, 0)))) (hcs : cs.length = n * sz) (hmax : n ≤ 4096) (hn : 0 < n) (hS : lkp j S = none)
    (h : ∀ b, w0.heap.size ≤ b → GK K N ((d, .slice (some ⟨b, 0, none⟩) n n) :: L) F w0 B H ((j, ⟨.slice (some ⟨b, 0, none⟩) n n, e, sz, n, cs⟩) :: S)) :
    GO P ⟨some d, .buildSlice t n ps.toArray, ty, pos, aft, none⟩ Q K N L F w0 B H S := fun a w k s => by
  have hr := hb w
  have s' : Sees F w0 B H ((j, ⟨.slice (some ⟨w.heap.size, 0, none⟩) n n, e, sz, n, cs⟩) :: S) (w.alloc (.cells cs.toArray e (0, 0))) :=
    s.slice (old := none) (.inl rfl) (World.grownBy_alloc w _ none) ⟨hcs, .inr ⟨w.heap.size, n, cs.toArray, rfl, Nat.zero_le _, heap_alloc_new w _, Nat.le_refl _, by unfold maxLen; omega, by simp [hcs], by simp [← hcs]⟩⟩ (.inr (.inr ⟨w.heap.size, rfl, Nat.le_refl _⟩))
  have e1 : (ps.toArray.map fun p => (p.1, a.eval p.2)) = vs.toArray := by simp [k.evp hv]
  show Oper.upon _ _ _ _ _ _
  simp only [execOp, e1, Sem.run_bind, hr, Result.andThen_ok, Sem.run_pure]
  exact h _ s.size _ _ (k.put hd _) s'
/-- A row of nothing: []T{}. -/
theorem at_row0 (j : Nat) {t e : TypeId} {sz : Nat} (hd : d < N)
    (hb : ∀ w : World, (Instr.buildSlice t 0 #[]).run P w = .ok (.slice (some ⟨w.heap.size, 0, none⟩) 0 0) (w.alloc (.cells #[] e (0, 0)))) (hS : lkp j S = none)
    (h : ∀ b, w0.heap.size ≤ b → GK K N ((d, .slice (some ⟨b, 0, none⟩) 0 0) :: L) F w0 B H ((j, ⟨.slice (some ⟨b, 0, none⟩) 0 0, e, sz, 0, []⟩) :: S)) :
    GO P ⟨some d, .buildSlice t 0 #[], ty, pos, aft, none⟩ Q K N L F w0 B H S := fun a w k s => by
  have hr := hb w
  have s' : Sees F w0 B H ((j, ⟨.slice (some ⟨w.heap.size, 0, none⟩) 0 0, e, sz, 0, []⟩) :: S) (w.alloc (.cells #[] e (0, 0))) :=
    s.slice (old := none) (.inl rfl) (World.grownBy_alloc w _ none) ⟨by simp, .inr ⟨w.heap.size, 0, #[], rfl, Nat.zero_le _, heap_alloc_new w _, Nat.le_refl _, by unfold maxLen; omega, by simp, by simp⟩⟩ (.inr (.inr ⟨w.heap.size, rfl, Nat.le_refl _⟩))
  show Oper.upon _ _ _ _ _ _
  simp only [execOp, List.map_toArray, List.map_nil, Sem.run_bind, hr, Result.andThen_ok, Sem.run_pure]
  exact h _ s.size _ _ (k.put hd _) s'
end
/-- A list of numbers at a slice. -/
def Ints (w : World) (v : Value) (xs : List Int) : Prop := ∃ p c, v = .slice p xs.length c ∧ ∀ (i : Nat) (x : Int), xs[i]? = some x → ∃ b o, p = some ⟨b, o, none⟩ ∧ w.cell? ⟨b, o + i, none⟩ = some (.int .i64 x)
theorem Ints.take {w : World} {p : Option Addr} {n c : Nat} {xs : List Int} (h : Ints w (.slice p n c) xs) {m : Nat} (hm : m ≤ n) : Ints w (.slice p m c) (xs.take m) := by
  obtain ⟨p', c', e, h⟩ := h
  injection e with e1 e2 e3
  subst e1 e2 e3
  refine ⟨p, c, by rw [List.length_take, Nat.min_eq_left hm], fun i x hx => h i x ?_⟩
  rw [List.getElem?_take] at hx
  split at hx
  · exact hx
  · cases hx
theorem Ints.drop {w : World} {p : Option Addr} {n c : Nat} {xs : List Int} (h : Ints w (.slice p n c) xs) {m : Nat} (hm : m < c) : Ints w (.slice (if c = m then p else p.map (·.add (m * 1))) (n - m) (c - m)) (xs.drop m) := by
  obtain ⟨p', c', e, h⟩ := h
  injection e with e1 e2 e3
  subst e1 e2 e3
  refine ⟨_, _, by rw [List.length_drop], fun i x hx => ?_⟩
  rw [List.getElem?_drop] at hx
  obtain ⟨b, o, rfl, hc⟩ := h (m + i) x hx
  refine ⟨b, o + m, ?_, by rw [Nat.add_assoc]; exact hc⟩
  rw [if_neg (by omega)]
  simp [Addr.add]
theorem Ints.nil {w : World} {p : Option Addr} {c : Nat} : Ints w (.slice p 0 c) [] := ⟨p, c, rfl, fun i x h => by simp at h⟩
theorem Ints.from {w : World} {b o : Nat} {n c : Nat} {xs : List Int} (h : Ints w (.slice (some ⟨b, o, none⟩) n c) xs) (m : Nat) : Ints w (.slice (some ⟨b, o + m * 1, none⟩) (n - m) (c - m)) (xs.drop m) := by
  obtain ⟨p', c', e, h⟩ := h
  injection e with e1 e2 e3
  subst e1 e2 e3
  refine ⟨_, _, by rw [List.length_drop], fun i x hx => ?_⟩
  rw [List.getElem?_drop] at hx
  obtain ⟨b', o', e, hc⟩ := h (m + i) x hx
  cases e
  exact ⟨b, o + m * 1, rfl, by rw [Nat.mul_one, Nat.add_assoc]; exact hc⟩
/-- Lists of numbers, their slices side by side. -/
def Lists (w : World) (b : Nat) : Nat → List (Value × List Int) → Prop
  | _, [] => True
  | o, (v, xs) :: r => w.cell? ⟨b, o, none⟩ = some v ∧ Ints w v xs ∧ xs ≠ [] ∧ Lists w b (o + 1) r
theorem Lists.get {w : World} {b : Nat} : ∀ {o : Nat} {ls : List (Value × List Int)}, Lists w b o ls → ∀ {i : Nat} {v : Value} {xs : List Int}, ls[i]? = some (v, xs) → w.cell? ⟨b, o + i, none⟩ = some v ∧ Ints w v xs ∧ xs ≠ []
  | o, (v, xs) :: r, h, 0, v', xs', e => by cases e; exact ⟨h.1, h.2.1, h.2.2.1⟩
  | o, (v, xs) :: r, h, i + 1, v', xs', e => by
    have := Lists.get h.2.2.2 (i := i) (by simpa using e)
    rw [show o + (i + 1) = o + 1 + i by omega]; exact this
/-- A new row. -/
def NewRow (w w' : World) (v : Value) (e : TypeId) (sz n : Nat) (xs : List Value) : Prop := Below w.heap.size w w' ∧ w'.ownsRow 0 e sz v n xs ∧ ∀ b, v.ownBlock = some b → w.heap.size ≤ b
section
variable {P : Program} {Q Q' : Exit → Act → World → Prop} {K : Act → World → Prop} {N : Nat} {L : Loc} {F : Nat → Prop} {w0 w : World} {B : List (Nat × Nat)} {H : List (Nat × Value)} {S : List (Nat × Slc)}
variable {d : Nat} {v : Value} {ty : TypeId} {pos : String} {aft : Array Edge}
theorem Sees.newRow (s : Sees F w0 B H S w) {w' : World} {v : Value} {e : TypeId} {sz n : Nat} {xs : List Value} (h : NewRow w w' v e sz n xs) (k : Nat) : Sees F w0 B H ((k, ⟨v, e, sz, n, xs⟩) :: S) w' :=
  s.slice (old := none) (.inl rfl) ⟨h.1.os, h.1.tape, h.1.output, h.1.size, fun i hi _ => h.1.block i hi⟩ h.2.1 (by
    cases hq : v.ownBlock with
    | none => exact .inl rfl
    | some b => exact .inr (.inr ⟨b, rfl, h.2.2 b hq⟩))
theorem Sees.toNew {q : Slc} {k : Nat} (s : Sees (fun _ => False) w0 B H S w) (hk : lkp k S = some q) : NewRow w0 w q.v q.e q.sz q.n q.xs :=
  ⟨s.toBelow, s.slcs k q hk, fun b hb => by
    rcases Nat.lt_or_ge b w0.heap.size with h | h
    · exact (s.smay k q b hk hb h).elim
    · exact h⟩
/-- One row alone. -/
theorem Sees.only {k : Nat} {q : Slc} (s : Sees F w0 B H S w) (hk : lkp k S = some q) : Sees F w0 [] [] [(k, q)] w :=
  s.to (fun k b h => by simp [lkp] at h) (fun k o v ho h => by simp [lkp] at h) (fun k' q' h => by
    rcases lkp_cons h with ⟨rfl, rfl⟩ | ⟨_, h⟩
    · exact hk
    · simp [lkp] at h)
theorem own_ints {b0 : Nat} {p : Option Addr} {n c : Nat} {e : TypeId} {xs : List Int} (h : w.ownsRow b0 e 1 (.slice p n c) n (xs.map (.int .i64))) : Ints w (.slice p n c) xs ∧ n ≤ c := by
  have hl : xs.length = n := by have := h.1; simpa using this
  subst hl
  refine ⟨⟨p, c, rfl, fun i x hx => ?_⟩, ?_⟩
  · rcases h.2 with ⟨e1, e2⟩ | ⟨g, cap, cur, e1, _⟩
    · have : xs = [] := by simpa using e2
      subst this; simp at hx
    · injection e1 with e1 e2 e3
      subst e1 e3
      have hc := h.cells (g := g) (by rfl) i (.int .i64 x) (by rw [List.getElem?_map, hx]; rfl)
      exact ⟨g, 0, rfl, by rwa [Addr.add_mid] at hc⟩
  · rcases h.2 with ⟨e1, e2⟩ | ⟨g, cap, cur, e1, _, _, h3, _⟩
    · injection e1 with e1 e3 e4; omega
    · injection e1 with e1 e2 e3; omega
theorem Sees.ints (s : Sees F w0 B H S w) (k : Nat) {p : Option Addr} {n c : Nat} {e : TypeId} {xs : List Int} (hk : lkp k S = some ⟨.slice p n c, e, 1, n, xs.map (.int .i64)⟩) : Ints w (.slice p n c) xs := (own_ints (s.slcs k _ hk)).1
theorem Sees.cap (s : Sees F w0 B H S w) (k : Nat) {p : Option Addr} {n c : Nat} {e : TypeId} {xs : List Int} (hk : lkp k S = some ⟨.slice p n c, e, 1, n, xs.map (.int .i64)⟩) : n ≤ c := (own_ints (s.slcs k _ hk)).2
theorem Sees.head (s : Sees F w0 B H S w) (k : Nat) {p : Option Addr} {n c : Nat} {e : TypeId} {sz : Nat} {xs : List Value} (hk : lkp k S = some ⟨.slice p n c, e, sz, n, xs⟩) (hn : 0 < n) : ∃ b, p = some ⟨b, 0, none⟩ ∧ n ≤ c := by
  rcases (s.slcs k _ hk).2 with ⟨e1, e2⟩ | ⟨g, cap, cur, e1, _, _, h3, _⟩
  · simp only at e2; omega
  · injection e1 with e1 e2 e3; exact ⟨g, e1, by simp only at h3; omega⟩
theorem GC_have {c : Code} {φ : Prop} (hφ : ∀ w, Sees F w0 B H S w → φ) (h : φ → GC P c Q N L F w0 B H S) : GC P c Q N L F w0 B H S := fun a w k s => h (hφ w s) a w k s
theorem GK_have {φ : Prop} (hφ : ∀ w, Sees F w0 B H S w → φ) (h : φ → GK K N L F w0 B H S) : GK K N L F w0 B H S := fun a w k s => h (hφ w s) a w k s
theorem knwn2 {j o : Nat} {u u' : Value} (h : lkp (ky j o) H = some u) (h' : lkp (ky j (o + 1)) H = some u') : knwn j H o 2 = true := by simp [knwn, h, h']
theorem Sees.noS (s : Sees F w0 B H S w) : Sees F w0 B H [] w := s.to (fun _ _ h => h) (fun k o v ho h => ⟨h, by obtain ⟨b, e, _⟩ := s.cells k o v ho h; rw [e]; rfl⟩) (fun k q h => by simp [lkp] at h)
theorem GC_anyS {id : Nat} {l : List Oper} (late : Nat → Bool) (hm : P.follows .mixedOrders = true) (h : GA P l.toArray Q (Sees F w0 B H []) late l.length (Array.replicate l.length false) N L F w0 B H S) : GC P (.region id l.toArray true) Q N L F w0 B H S := GC_any _ late hm h
theorem GC_anyB {id : Nat} {l : List Oper} (late : Nat → Bool) (hm : P.follows .mixedOrders = true) (h : GA P l.toArray Q (Sees F w0 B H S) late l.length (Array.replicate l.length false) N L F w0 B H S) : GC P (.region id l.toArray true) Q N L F w0 B H S := GC_any _ late hm h
/-- A callee that makes a row. -/
theorem at_call_row (k : Nat) {f : FuncId} {as : List Operand} {ats : Array TypeId} {args : List Value} {e : TypeId} {sz n : Nat} {xs : List Value} (hd : d < N) (hf : enterB P f = true) (ha : Fr.evs L as = some args)
    (hc : ∀ w, Sees F w0 B H S w → Calls P f args.toArray w fun r w' => ∃ p c, r = .returned (.slice p n c) ∧ NewRow w w' (.slice p n c) e sz n xs)
    (hn : ∀ p c, GK K N ((d, .slice p n c) :: L) F w0 B H ((k, ⟨.slice p n c, e, sz, n, xs⟩) :: S)) : GO P ⟨some d, .call ⟨.value (.func f), as.toArray, ats⟩, ty, pos, aft, none⟩ Q K N L F w0 B H S :=
  at_call (ι := Option Addr × Nat) (fun x => .slice x.1 n x.2) (fun _ => True) (fun _ => B) (fun _ => H) (fun x => (k, ⟨.slice x.1 n x.2, e, sz, n, xs⟩) :: S) hd hf ha (fun w s => (hc w s).mono fun r w' ⟨p, c, he, hb⟩ => ⟨(p, c), trivial, he, s.newRow hb k⟩) (fun x _ => hn x.1 x.2)
/-- append(s, x...) where x is any list that stands. -/
theorem at_append_any (j : Nat) {t e : TypeId} {sz by_ m : Nat} {zs : List Value} {x y : Operand} {q : Slc} {ys : List Value} {b off c : Nat} (hd : d < N) (ht : elemInfo P t = some (e, sz, by_, zs)) (hzs : zs.length = sz) (hsz : 0 < sz) (hx : ev L x = some q.v) (hy : ev L y = some (.slice (some ⟨b, off, none⟩) m c)) (hq : lkp j S = some q)
    (hqe : q.e = e ∧ q.sz = sz) (hl : ys.length = m * sz) (hr : ∀ w, Sees F w0 B H S w → ∀ (i : Nat) u, ys[i]? = some u → w.cell? ⟨b, off + i, none⟩ = some u) (h1 : ∀ u ∈ ys, u.oneCell' = true) (h63 : q.n + m ≤ 9223372036854775807) (hbytes : (q.n + m) * by_ ≤ 140737488355328)
    (hn : ∀ p cp, GK K N ((d, .slice p (q.n + m) cp) :: L) F w0 B H ((j, ⟨.slice p (q.n + m) cp, e, sz, q.n + m, q.xs ++ ys⟩) :: S)) :
    GO P ⟨some d, .call ⟨.builtin .append, #[x, y], #[t, t]⟩, ty, pos, aft, none⟩ Q K N L F w0 B H S := fun a w k s => by
  obtain ⟨hu, inf, z, hi, hz, h2, h3, h4⟩ := elemInfo_spec ht
  have ho := s.slcs j q hq
  rw [hqe.1, hqe.2] at ho
  have hnews : ∀ j' u, ys[j']? = some u → w.cell? ((⟨b, off, none⟩ : Addr).add j') = some u := fun j' u hu => by rw [Addr.add_mid]; exact hr w s j' u hu
  obtain ⟨v', w', hrun, hown, hg, _, hat⟩ := run_append_own_at (P := P) w 0 t ty e inf z sz by_ hu hi hz h2 h3 (by rw [← h4] at hzs; simpa using hzs) hsz q.v q.n q.xs ho ⟨b, off, none⟩ m c ys hl hnews h1 h63 hbytes (Nat.zero_le _)
  have s' : Sees F w0 B H ((j, ⟨v', e, sz, q.n + m, q.xs ++ ys⟩) :: S) w' := s.slice (old := q.v.ownBlock) (.inr ⟨q, hq, rfl⟩) hg hown (by
    rcases hat with h' | h'
    · cases hb : q.v.ownBlock with
      | none => exact .inl (h'.trans hb)
      | some g' => exact .inr (.inl ⟨by simp, h'.trans hb⟩)
    · exact .inr (.inr ⟨_, h', Nat.le_refl _⟩))
  obtain ⟨p, cp, rfl⟩ : ∃ p cp, v' = .slice p (q.n + m) cp := by
    rcases hown.2 with ⟨e1, e2⟩ | ⟨g1, cap1, cur1, e1, _⟩
    · exact ⟨none, 0, by rw [e1, e2]⟩
    · exact ⟨_, _, e1⟩
  show Oper.upon _ _ _ _ _ _
  simp only [execOp, resolve, invoke, builtin, Sem.run_bind, Sem.run_pure, Result.andThen_ok, List.map_toArray, List.map_cons, List.map_nil, k.eval hx, k.eval hy, hrun]
  exact hn p cp _ _ (k.put hd _) s'
/-- The empty row that nothing is. -/
theorem Sees.nilRow (s : Sees F w0 B H S w) (k : Nat) (e : TypeId) (sz : Nat) : Sees F w0 B H ((k, ⟨.slice none 0 0, e, sz, 0, []⟩) :: S) w :=
  s.newRow ⟨Below.refl _ _, ⟨by simp, .inl ⟨rfl, rfl⟩⟩, fun b h => by simp [Value.ownBlock] at h⟩ k
theorem ints_one {xs : List Int} : ∀ u ∈ xs.map (Value.int .i64), u.oneCell' = true := by
  intro u hu
  obtain ⟨x, _, rfl⟩ := List.mem_map.1 hu
  rfl
end
end Go.Fr
