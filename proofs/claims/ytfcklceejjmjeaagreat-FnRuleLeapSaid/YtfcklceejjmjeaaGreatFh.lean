/-
  Lists that stand from before; cells of a row of pairs.
-/
import Derived.Test.YtfcklceejjmjeaaGreatFg
set_option linter.unusedVariables false
set_option linter.unusedSimpArgs false
namespace Go.Fr
open Go.RowKit
/-- A list of numbers that stands: from before, or as a row with a tag from 11 to 39. -/
def SrcI (F : Nat → Prop) (w0 : World) (S : List (Nat × Slc)) (v : Value) (xs : List Int) : Prop := ∀ B H S' w, (∀ k, 11 ≤ k → k < 30 → lkp k S' = lkp k S) → Sees F w0 B H S' w → Ints w v xs
theorem SrcI.at {F : Nat → Prop} {w0 : World} {B : List (Nat × Nat)} {H : List (Nat × Value)} {S S' : List (Nat × Slc)} {v : Value} {xs : List Int} (h : SrcI F w0 S v xs) (ha : ∀ k, 11 ≤ k → k < 30 → lkp k S' = lkp k S) : ∀ w, Sees F w0 B H S' w → Ints w v xs := fun w s => h _ _ _ w ha s
theorem SrcI.to {F : Nat → Prop} {w0 : World} {S S' : List (Nat × Slc)} {v : Value} {xs : List Int} (h : SrcI F w0 S v xs) (ha : ∀ k, 11 ≤ k → k < 30 → lkp k S' = lkp k S) : SrcI F w0 S' v xs := fun B H S2 w h2 s => h B H S2 w (fun k h3 h4 => (h2 k h3 h4).trans (ha k h3 h4)) s
theorem SrcI.old {F : Nat → Prop} {w0 : World} {S : List (Nat × Slc)} {v : Value} {xs : List Int} (h : Ints w0 v xs) (hF : ∀ b o n c, v = .slice (some ⟨b, o, none⟩) n c → ¬ F b) : SrcI F w0 S v xs := fun B H S' w _ s => by
  obtain ⟨p, c, rfl, hc⟩ := h
  refine ⟨p, c, rfl, fun i x hx => ?_⟩
  obtain ⟨b, o, rfl, h1⟩ := hc i x hx
  exact ⟨b, o, rfl, s.old_cell h1 (hF b o _ _ rfl)⟩
theorem SrcI.row {F : Nat → Prop} {w0 : World} {S : List (Nat × Slc)} {p : Option Addr} {n c k : Nat} {e : TypeId} {xs : List Int} (hk : 11 ≤ k ∧ k < 30) (h : lkp k S = some ⟨.slice p n c, e, 1, n, xs.map (.int .i64)⟩) : SrcI F w0 S (.slice p n c) xs := fun B H S' w ha s => s.ints k ((ha k hk.1 hk.2).trans h)
theorem SrcI.nil {F : Nat → Prop} {w0 : World} {S : List (Nat × Slc)} {p : Option Addr} {c : Nat} : SrcI F w0 S (.slice p 0 c) [] := fun _ _ _ _ _ _ => Ints.nil
section
variable {F : Nat → Prop} {w0 w : World} {B : List (Nat × Nat)} {H : List (Nat × Value)} {S : List (Nat × Slc)}
theorem Sees.rowTo (s : Sees F w0 B H S w) {k : Nat} {q : Slc} (hk : lkp k S = some q) : Sees F w0 B H ((k, q) :: S) w :=
  s.to (fun _ _ h => h) (fun k o v ho h => ⟨h, by obtain ⟨b, e, _⟩ := s.cells k o v ho h; rw [e]; rfl⟩) (fun j q' h => by
    rcases lkp_cons h with ⟨rfl, rfl⟩ | ⟨_, h⟩
    · exact hk
    · exact h)
end
/-- Days, and whether they are in. -/
def fltCells (a : Int) (n : Nat) (f : Nat → Bool) : List Value := ((List.range n).map fun (j : Nat) => [Value.int .i64 (a + j), Value.bool (f j)]).flatten
theorem flat2_len {α : Type} (g h : Nat → α) : ∀ n : Nat, (((List.range n).map fun j => [g j, h j]).flatten).length = 2 * n
  | 0 => rfl
  | n + 1 => by rw [List.range_succ, List.map_append, List.flatten_append, List.length_append, flat2_len g h n]; simp; omega
theorem flat2_get {α : Type} (g h : Nat → α) : ∀ (n k : Nat), k < n → (((List.range n).map fun j => [g j, h j]).flatten)[2 * k]? = some (g k) ∧ (((List.range n).map fun j => [g j, h j]).flatten)[2 * k + 1]? = some (h k)
  | 0, k, hk => by omega
  | n + 1, k, hk => by
    rw [List.range_succ, List.map_append, List.flatten_append]
    have hl := flat2_len g h n
    rcases Nat.lt_or_ge k n with h' | h'
    · rw [List.getElem?_append_left (by omega), List.getElem?_append_left (by omega)]
      exact flat2_get g h n k h'
    · obtain rfl : k = n := by omega
      rw [List.getElem?_append_right (by omega), List.getElem?_append_right (by omega), hl]
      simp
theorem flt_len (a : Int) (n : Nat) (f : Nat → Bool) : (fltCells a n f).length = 2 * n := flat2_len _ _ n
theorem flt_get (a : Int) (n : Nat) (f : Nat → Bool) {k : Nat} (hk : k < n) : (fltCells a n f)[2 * k]? = some (.int .i64 (a + k)) ∧ (fltCells a n f)[2 * k + 1]? = some (.bool (f k)) := flat2_get _ _ n k hk
theorem flt_set (a : Int) (n : Nat) (f f' : Nat → Bool) (v : Bool) {k : Nat} (hk : k < n) (hv : f' k = v) (h : ∀ j, j ≠ k → f' j = f j) : (fltCells a n f).set (2 * k + 1) (.bool v) = fltCells a n f' := by
  apply List.ext_getElem?
  intro i
  have hl := flt_len a n f
  have hl' := flt_len a n f'
  by_cases hi : i < 2 * n
  · obtain ⟨j, hj⟩ : ∃ j, i = 2 * j ∨ i = 2 * j + 1 := ⟨i / 2, by omega⟩
    have hjn : j < n := by omega
    obtain ⟨g1, g2⟩ := flt_get a n f hjn
    obtain ⟨g1', g2'⟩ := flt_get a n f' hjn
    rcases hj with rfl | rfl
    · rw [List.getElem?_set_ne (by omega), g1, g1']
    · by_cases hjk : j = k
      · subst hjk; rw [List.getElem?_set_self (by omega), g2', hv]
      · rw [List.getElem?_set_ne (by omega), g2, g2', h j hjk]
  · rw [List.getElem?_eq_none (by simp; omega), List.getElem?_eq_none (by omega)]
theorem flt_congr (a : Int) (n : Nat) {f f' : Nat → Bool} (h : ∀ j, j < n → f j = f' j) : fltCells a n f = fltCells a n f' := by
  unfold fltCells
  congr 1
  apply List.map_congr_left
  intro j hj
  rw [h j (by simpa using hj)]
section
variable {F : Nat → Prop} {w0 w : World} {B : List (Nat × Nat)} {H : List (Nat × Value)} {S : List (Nat × Slc)}
theorem lkp_append_ne {α : Type} {k : Nat} {l r : List (Nat × α)} (h : ∀ v, (k, v) ∉ l) : lkp k (l ++ r) = lkp k r := by
  induction l with
  | nil => rfl
  | cons p l ih =>
    obtain ⟨j, u⟩ := p
    have hne : k ≠ j := fun e => h u (by simp [e])
    show lkp k ((j, u) :: (l ++ r)) = _
    rw [lkp_cons_ne hne]
    exact ih (fun v hv => h v (List.mem_cons_of_mem _ hv))
theorem putKeys_mem {t k : Nat} {v : Value} : ∀ (cs : List Value) (o : Nat), (k, v) ∈ putKeys t o cs → ∃ j, k = ky t (o + j) ∧ j < cs.length
  | [], _, h => by simp [putKeys] at h
  | c :: cs, o, h => by
    simp only [putKeys, List.mem_cons] at h
    rcases h with h | h
    · injection h with h1 h2; exact ⟨0, h1, by simp⟩
    · obtain ⟨j, e, hj⟩ := putKeys_mem cs (o + 1) h
      exact ⟨j + 1, by rw [e]; congr 1; omega, by simp; omega⟩
/-- The newest block is let go, and all rows. -/
theorem Sees.dropNew {t b : Nat} {cs : List Value} (s : Sees F w0 ((t, b) :: B) (putKeys t 0 cs ++ H) S w) (hB : lkp t B = none) (hH : ∀ o, o < 4096 → lkp (ky t o) H = none) (hl : cs.length ≤ 4096) : Sees F w0 B H [] w :=
  s.to (fun k b' h => by
    rw [lkp_cons_ne (fun e => by rw [e, hB] at h; cases h)]; exact h) (fun k o v ho h => by
    have hkt : k ≠ t := fun e => by rw [e, hH o ho] at h; cases h
    have h2 : lkp (ky k o) (putKeys t 0 cs ++ H) = some v := by
      rw [lkp_append_ne (fun u hu => by
        obtain ⟨j, e, hj⟩ := putKeys_mem cs 0 hu
        exact hkt (ky_inj ho (by omega) e).1)]
      exact h
    refine ⟨h2, ?_⟩
    obtain ⟨b', e, _⟩ := s.cells k o v ho h2
    rw [lkp_cons_ne hkt] at e
    rw [e]; rfl) (fun k q h => by simp [lkp] at h)
end
/-- Moments without parts of a second. -/
def tcells (ts : List Int) : List Value := (ts.map fun t => [Value.int .i64 t, Value.int .i64 0]).flatten
theorem tcells_len (ts : List Int) : (tcells ts).length = 2 * ts.length := by
  unfold tcells
  induction ts with
  | nil => rfl
  | cons t ts ih => simp only [List.map_cons, List.flatten_cons, List.length_append, ih]; simp; omega
theorem tcells_append (ts : List Int) (t : Int) : tcells ts ++ [.int .i64 t, .int .i64 0] = tcells (ts ++ [t]) := by
  unfold tcells; rw [List.map_append, List.flatten_append]; rfl
theorem tcells_get {ts : List Int} {k : Nat} {t : Int} (h : ts[k]? = some t) : (tcells ts)[2 * k]? = some (.int .i64 t) ∧ (tcells ts)[2 * k + 1]? = some (.int .i64 0) := by
  induction ts generalizing k with
  | nil => simp at h
  | cons u ts ih =>
    cases k with
    | zero => cases h; exact ⟨rfl, rfl⟩
    | succ k =>
      obtain ⟨h1, h2⟩ := ih (k := k) (by simpa using h)
      refine ⟨?_, ?_⟩
      · show (tcells ts)[2 * k]? = _; exact h1
      · show (tcells ts)[2 * k + 1]? = _; exact h2
end Go.Fr
