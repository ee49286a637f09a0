import Derived.Test.YtdbbifbmkfmbkaaGreatRai
set_option linter.unusedVariables false
set_option linter.unusedSimpArgs false
set_option maxRecDepth 100000
set_option maxHeartbeats 8000000
namespace Go.Proofs.YtdbbifbmkfmbkaaGreat
open Go.RowKit Go.Fr Go.Tab
section
variable {F : Nat → Prop} {w0 : World} {B : LN} {H : LV} {S : LS}
theorem aEi {P : Program} {ops : Array Oper} {Q : Exit → Act → World → Prop} {C : World → Prop} {late : Nat → Bool} {N : Nat} {L : Fr.Loc} {g i j m : Nat} {listed li lj lm : Array Bool} {o o' o2 : Oper} (hi : ops[i]? = some o) (hj : ops[j]? = some o') (hm : ops[m]? = some o2) (hg : o.guard = none) (hg' : o'.guard = none) (hg2 : o2.guard = none) (hr : Region.ready .any ops listed = [i, j, m]) (hli : listed.setIfInBounds i true = li) (hlj : listed.setIfInBounds j true = lj) (hlm : listed.setIfInBounds m true = lm)
  (h : GO P o Q (fun a' w' => (late i = false → C w') ∧ kI P ops Q C late g li a' w') N L F w0 B H S)
  (h' : GO P o' Q (fun a' w' => (late j = false → C w') ∧ kI P ops Q C late g lj a' w') N L F w0 B H S)
  (h2 : GO P o2 Q (fun a' w' => (late m = false → C w') ∧ kI P ops Q C late g lm a' w') N L F w0 B H S) : GA P ops Q C late (g + 1) listed N L F w0 B H S := fun a w k s => by
 subst hli hlj hlm
 refine ⟨fun h0 => (by rw [hr] at h0; cases h0), fun q hq => ?_⟩
 rw [hr] at hq
 have : q = i ∨ q = j ∨ q = m := by simpa using hq
 unfold wpOp
 rcases this with rfl | rfl | rfl
 ·simp only [hi]
  rw [if_pos (by simp [Region.wanted, hg])]
  exact .inl (h a w k s)
 ·simp only [hj]
  rw [if_pos (by simp [Region.wanted, hg'])]
  exact .inl (h' a w k s)
 ·simp only [hm]
  rw [if_pos (by simp [Region.wanted, hg2])]
  exact .inl (h2 a w k s)
theorem jS {w : World} {B0 : LN} {H0 : LV} {b1 b4 b8 b9 : Nat} {u v m : Value} {r : Rul} {x : Av} (s : Sees F w0 B0 H0 S w) (hB : ∀ k b, lkp k [(53, b9), (52, b8), (51, b4), (50, b1)] = some b → lkp k B0 = some b) (h52 : lkp (ky 52 0) H0 = some u) (h53 : lkp (ky 53 0) H0 = some v)
  (hr : ∀ k o, o < 4096 → k ≠ 52 → k ≠ 53 → lkp (ky k o) H0 = lkp (ky k o) (aC 51 0 [m] ++ (aC 50 0 (bC r x) ++ []))) : Sees F w0 [(53, b9), (52, b8), (51, b4), (50, b1)] ((ky 53 0, v) :: (ky 52 0, u) :: (aC 51 0 [m] ++ (aC 50 0 (bC r x) ++ []))) S w :=
 s.to hB (fun k o y ho h => by
  rcases bB h with ⟨e, rfl⟩ | ⟨_, h⟩
  ·obtain ⟨rfl, rfl⟩ := gK ho dE e; exact ⟨h53, rfl⟩
  rcases bB h with ⟨e, rfl⟩ | ⟨_, h⟩
  ·obtain ⟨rfl, rfl⟩ := gK ho dE e; exact ⟨h52, rfl⟩
  have hk : k = 51 ∨ k = 50 := by
   by_cases h1 : k = 51
   ·exact .inl h1
   by_cases h2 : k = 50
   ·exact .inr h2
   rw [aK h1 ho _ _ ble, aK h2 ho _ _ ble] at h
   simp [lkp] at h
  rw [hr k o ho oM oM]
  exact ⟨h, by rcases hk with rfl | rfl <;> rfl⟩) (fun _ _ h => h)
theorem aH3 {n m : Nat} {r : Rul} {x : Av} {b1 b4 b8 b9 : Nat} (h : BkL (fun b => b < n ∨ m ≤ b) r x) (g1 : b1 < m) (g4 : b4 < m) (g8 : b8 < m) (g9 : b9 < m) (h1 : n ≤ b1) (h4 : n ≤ b4) (h8 : n ≤ b8) (h9 : n ≤ b9) : BkL (fun b => ¬(b = b1 ∨ b = b4 ∨ b = b8 ∨ b = b9)) r x :=
 have f : ∀ b, (b < n ∨ m ≤ b) → ¬(b = b1 ∨ b = b4 ∨ b = b8 ∨ b = b9) := fun b h => by omega
 ⟨fun a b o e => f b (h.g9 a b o e), fun a b o e => f b (h.g10 a b o e), fun a b o e => f b (h.g11 a b o e), fun a b o e => f b (h.g12 a b o e), fun a b o e => f b (h.g13 a b o e), fun a b o e => f b (h.g14 a b o e), fun a b o e => f b (h.g15 a b o e), fun a b o e => f b (h.g16 a b o e), fun a b o e => f b (h.g17 a b o e), fun a b o e => f b (h.g18 a b o e)⟩
theorem mH {j k o : Nat} {v : Value} {H : LV} : ∀ {cs : List Value} {i : Nat}, cellsAt j H i cs → i + cs.length ≤ 4096 → j ≠ k → o < 4096 → cellsAt j ((ky k o, v) :: H) i cs
 | [], _, _, _, _, _ => trivial
 | u :: cs, i, h, hb, hj, ho => by
  rw [List.length_cons] at hb
  exact ⟨(aA (fun e => hj (gK oM ho e).1) _ _).trans h.1, mH h.2 oM hj ho⟩
theorem lT {F' : Nat → Prop} {w w1 w2 : World} {B0 B : LN} {H0 H : LV} {S : LS} (s1 : Sees (fun _ => False) w B0 H0 [] w1) (s : Sees F' w1 B H S w2) (hF : ∀ b, F' b → w.heap.size ≤ b) {k : Nat} {q : Slc} (hk : lkp k S = some q) : fL w w2 q.v q.e q.sz q.n q.xs :=
 ⟨⟨s.os.trans s1.os, s.tape.trans s1.tape, s.output.trans s1.output, Nat.le_trans s1.size s.size, fun k hk => (s.frame k (Nat.lt_of_lt_of_le hk s1.size) (fun h => by have := hF k h; omega)).trans (s1.frame k hk (fun h => h))⟩, s.slcs k q hk, fun b hb => by
  rcases Nat.lt_or_ge b w1.heap.size with h | h
  ·exact hF b (s.smay k q b hk hb h)
  ·exact Nat.le_trans s1.size h⟩
open Go.Md
theorem aIc {k iv : Int} (hk : 0 ≤ k ∧ k ≤ 100000) (hi : 1 ≤ iv ∧ iv ≤ 1000) : 0 ≤ k * iv ∧ k * iv ≤ 100000000 := ⟨Int.mul_nonneg hk.1 oM, Int.le_trans (Int.mul_le_mul hk.2 hi.2 oM oM) oM⟩
theorem yG (r q : Rul) (x : Av) (dayF : Int → Bool) (most : Int) (work : Nat) (hq : aZ r = q) (hs : 1 ≤ r.start ∧ r.start < Cal.daysTo 9000 * 86400) (hf : 0 ≤ r.freq ∧ r.freq ≤ 6) (hi : 1 ≤ r.interval ∧ r.interval ≤ 1000) (hwk : 0 ≤ r.wkst ∧ r.wkst ≤ 6) (hl : LenL r) (hlq : LenL q) (hm : 0 ≤ most ∧ most ≤ 1000000) (hwork : work ≤ 100000)
  (hday : ∀ (x2 : Av) (day : Int), 0 ≤ day ∧ day ≤ 5000000 → ∀ w, InL w q x2 → Calls Tryz.prog 62 #[.agg (bC q x2).toArray, iV day] w fun e w' => e = .returned (.bool (dayF day)) ∧ Below w.heap.size w w') (w : World) (hin : InL w r x) (hb : BkL (fun b => b < w.heap.size) r x) :
  Calls Tryz.prog 38 #[.agg (bC r x).toArray, iV most, iV (work : Int)] w fun e w' => ∃ (b : Bool) (l : List Int) (p : Option Addr) (c : Nat), (b = true → DatesP q dayF (dM r) most 0 [] l) ∧ e = .returned (.tuple #[.slice p l.length c, .bool b]) ∧ fL w w' (.slice p l.length c) 2 1 l.length (l.map iV) := by
 obtain ⟨e1, e2, e3, e4, e5, e6, e7, e8, e9⟩ := dG r
 rw [hq] at e1 e2 e3 e4 e5 e6 e7 e8 e9
 obtain ⟨l9, l10, l11, l12, l13, l14, l15, l16, l17, l18⟩ := hlq
 have hN1 : Cal.daysTo 9000 = 3286817 := by decide
 have hN2 : Cal.daysTo 10000 = 3652059 := by decide
 have hyb : 1 ≤ Cal.yearOf (r.start / 86400) := (gX (x := r.start) oM).2.2.1
 have hye := Cal.year_le (r.start / 86400) oM
 have hmb := Cal.month_bd (r.start / 86400)
 refine aI (args := [.agg (bC r x).toArray, iV most, iV ((work : Int))]) (L := [(0, .agg (bC r x).toArray), (1, iV most), (2, iV ((work : Int)))]) (N := 189) Tryz.func38 rfl rfl ble rfl (sS w) ?_
 refine g2 ?_
 refine gL (fM 50 (cs := bC r x) dE rfl rfl rfl (fun o ho => rfl) ble (fun b1 hb1 => ?_))
 refine gL (fM 51 (cs := [iV most]) dE rfl rfl rfl (fun o ho => by repeat (first | rfl | rw [aK dE ho _ _ ble])) ble (fun b4 hb4 => ?_))
 refine g4 ?_
 refine cV (ι := (Nat) × (Nat)) (fun | ⟨b8, b9⟩ => (w.heap.size ≤ b8) ∧ (w.heap.size ≤ b9)) (fun | ⟨b8, b9⟩ => [(2, iV ((work : Int))), (3, pT b1), (4, pT b4), (8, pT b8), (9, pT b9)]) (fun | ⟨b8, b9⟩ => [(53, b9), (52, b8), (51, b4), (50, b1)]) (fun | ⟨b8, b9⟩ => ((ky 53 0, iV (dM r)) :: (ky 52 0, iV r.start) :: (aC 51 0 [iV most] ++ (aC 50 0 (bC r x) ++ [])))) (fun | ⟨b8, b9⟩ => []) ?_ ?_
 ·refine qR (Sees (fun _ => False) w [(51, b4), (50, b1)] (aC 51 0 [iV most] ++ (aC 50 0 (bC r x) ++ [])) []) (fun i => false) kR ?_
  refine gr 0 rfl (rfa 2) ?_
  refine gr 1 rfl (rld 50 rfl rfl rfl) ?_
  refine gr 2 rfl ((dP 50 (cs := bC r x) rfl rfl (fun i u h => by have hlt_ : i < 18 := (List.getElem?_eq_some_iff.1 h).1; first | exact fJ (bC r x) 0 ble i u h | (rcases i with _|_|_|_|_|_|_|_|_|_|_|_|_|_|_|_|_|_|i <;> first | exact h | omega)) ble kR)) ?_
  refine aEi (i := 3) (j := 4) (m := 5) rfl rfl rfl rfl rfl rfl kR rfl rfl rfl ?_ ?_ ?_
  ·refine cvo rfl (fun w_ s_ => jF r x oM w_) (eL (fun _ w s => by exact s.low 52 jH agx agx agx) ?_)
   refine kL (i := 4) (j := 5) rfl rfl rfl rfl kR rfl rfl ?_ ?_
   ·refine alo 52 (cs := [iV 0]) kR rfl (fun b8 hb8 => eL (fun _ w s => by exact s.low 52 jH agx agx agx) ?_)
    refine gn 5 rfl (alo 53 (cs := [iV 0]) kR rfl (fun b9 hb9 => eL (fun _ w s => by exact s.low 52 jH agx agx agx) ?_))
    refine gn 6 rfl (sto 52 rfl rfl rfl rfl (eL (fun _ w s => by exact s.low 52 jH agx agx agx) ?_))
    refine gn 7 rfl (sto 53 rfl rfl rfl rfl (eL (fun _ w s => by exact s.low 52 jH agx agx agx) ?_))
    refine eE kR ?_
    refine aO (ι := Nat × Nat) ⟨b8, b9⟩ ⟨hb8, hb9⟩ kns (fun w s => jS s (fun k b h => by rcases bB h with ⟨rfl, rfl⟩ | ⟨_, h⟩; exact rfl; rcases bB h with ⟨rfl, rfl⟩ | ⟨_, h⟩; exact rfl; rcases bB h with ⟨rfl, rfl⟩ | ⟨_, h⟩; exact rfl; rcases bB h with ⟨rfl, rfl⟩ | ⟨_, h⟩; exact rfl;  simp [lkp] at h) rfl rfl (fun k o ho h1 h2 => by repeat (first | rfl | rw [cH h1 ho dE] | rw [cH h2 ho dE] | rw [aK h1 ho _ _ ble] | rw [aK h2 ho _ _ ble])))
   ·refine alo 53 (cs := [iV 0]) kR rfl (fun b9 hb9 => eL (fun _ w s => by exact s.low 52 jH agx agx agx) ?_)
    refine gn 4 rfl (alo 52 (cs := [iV 0]) kR rfl (fun b8 hb8 => eL (fun _ w s => by exact s.low 52 jH agx agx agx) ?_))
    refine gn 6 rfl (sto 52 rfl rfl rfl rfl (eL (fun _ w s => by exact s.low 52 jH agx agx agx) ?_))
    refine gn 7 rfl (sto 53 rfl rfl rfl rfl (eL (fun _ w s => by exact s.low 52 jH agx agx agx) ?_))
    refine eE kR ?_
    refine aO (ι := Nat × Nat) ⟨b8, b9⟩ ⟨hb8, hb9⟩ kns (fun w s => jS s (fun k b h => by rcases bB h with ⟨rfl, rfl⟩ | ⟨_, h⟩; exact rfl; rcases bB h with ⟨rfl, rfl⟩ | ⟨_, h⟩; exact rfl; rcases bB h with ⟨rfl, rfl⟩ | ⟨_, h⟩; exact rfl; rcases bB h with ⟨rfl, rfl⟩ | ⟨_, h⟩; exact rfl;  simp [lkp] at h) rfl rfl (fun k o ho h1 h2 => by repeat (first | rfl | rw [cH h1 ho dE] | rw [cH h2 ho dE] | rw [aK h1 ho _ _ ble] | rw [aK h2 ho _ _ ble])))
  ·refine alo 52 (cs := [iV 0]) kR rfl (fun b8 hb8 => eL (fun _ w s => by exact s.low 52 jH agx agx agx) ?_)
   refine kL (i := 3) (j := 5) rfl rfl rfl rfl kR rfl rfl ?_ ?_
   ·refine cvo rfl (fun w_ s_ => jF r x oM w_) (eL (fun _ w s => by exact s.low 52 jH agx agx agx) ?_)
    refine gn 5 rfl (alo 53 (cs := [iV 0]) kR rfl (fun b9 hb9 => eL (fun _ w s => by exact s.low 52 jH agx agx agx) ?_))
    refine gn 6 rfl (sto 52 rfl rfl rfl rfl (eL (fun _ w s => by exact s.low 52 jH agx agx agx) ?_))
    refine gn 7 rfl (sto 53 rfl rfl rfl rfl (eL (fun _ w s => by exact s.low 52 jH agx agx agx) ?_))
    refine eE kR ?_
    refine aO (ι := Nat × Nat) ⟨b8, b9⟩ ⟨hb8, hb9⟩ kns (fun w s => jS s (fun k b h => by rcases bB h with ⟨rfl, rfl⟩ | ⟨_, h⟩; exact rfl; rcases bB h with ⟨rfl, rfl⟩ | ⟨_, h⟩; exact rfl; rcases bB h with ⟨rfl, rfl⟩ | ⟨_, h⟩; exact rfl; rcases bB h with ⟨rfl, rfl⟩ | ⟨_, h⟩; exact rfl;  simp [lkp] at h) rfl rfl (fun k o ho h1 h2 => by repeat (first | rfl | rw [cH h1 ho dE] | rw [cH h2 ho dE] | rw [aK h1 ho _ _ ble] | rw [aK h2 ho _ _ ble])))
   ·refine alo 53 (cs := [iV 0]) kR rfl (fun b9 hb9 => eL (fun _ w s => by exact s.low 52 jH agx agx agx) ?_)
    refine gn 3 rfl (cvo rfl (fun w_ s_ => jF r x oM w_) (eL (fun _ w s => by exact s.low 52 jH agx agx agx) ?_))
    refine gn 6 rfl (sto 52 rfl rfl rfl rfl (eL (fun _ w s => by exact s.low 52 jH agx agx agx) ?_))
    refine gn 7 rfl (sto 53 rfl rfl rfl rfl (eL (fun _ w s => by exact s.low 52 jH agx agx agx) ?_))
    refine eE kR ?_
    refine aO (ι := Nat × Nat) ⟨b8, b9⟩ ⟨hb8, hb9⟩ kns (fun w s => jS s (fun k b h => by rcases bB h with ⟨rfl, rfl⟩ | ⟨_, h⟩; exact rfl; rcases bB h with ⟨rfl, rfl⟩ | ⟨_, h⟩; exact rfl; rcases bB h with ⟨rfl, rfl⟩ | ⟨_, h⟩; exact rfl; rcases bB h with ⟨rfl, rfl⟩ | ⟨_, h⟩; exact rfl;  simp [lkp] at h) rfl rfl (fun k o ho h1 h2 => by repeat (first | rfl | rw [cH h1 ho dE] | rw [cH h2 ho dE] | rw [aK h1 ho _ _ ble] | rw [aK h2 ho _ _ ble])))
  ·refine alo 53 (cs := [iV 0]) kR rfl (fun b9 hb9 => eL (fun _ w s => by exact s.low 52 jH agx agx agx) ?_)
   refine kL (i := 3) (j := 4) rfl rfl rfl rfl kR rfl rfl ?_ ?_
   ·refine cvo rfl (fun w_ s_ => jF r x oM w_) (eL (fun _ w s => by exact s.low 52 jH agx agx agx) ?_)
    refine gn 4 rfl (alo 52 (cs := [iV 0]) kR rfl (fun b8 hb8 => eL (fun _ w s => by exact s.low 52 jH agx agx agx) ?_))
    refine gn 6 rfl (sto 52 rfl rfl rfl rfl (eL (fun _ w s => by exact s.low 52 jH agx agx agx) ?_))
    refine gn 7 rfl (sto 53 rfl rfl rfl rfl (eL (fun _ w s => by exact s.low 52 jH agx agx agx) ?_))
    refine eE kR ?_
    refine aO (ι := Nat × Nat) ⟨b8, b9⟩ ⟨hb8, hb9⟩ kns (fun w s => jS s (fun k b h => by rcases bB h with ⟨rfl, rfl⟩ | ⟨_, h⟩; exact rfl; rcases bB h with ⟨rfl, rfl⟩ | ⟨_, h⟩; exact rfl; rcases bB h with ⟨rfl, rfl⟩ | ⟨_, h⟩; exact rfl; rcases bB h with ⟨rfl, rfl⟩ | ⟨_, h⟩; exact rfl;  simp [lkp] at h) rfl rfl (fun k o ho h1 h2 => by repeat (first | rfl | rw [cH h1 ho dE] | rw [cH h2 ho dE] | rw [aK h1 ho _ _ ble] | rw [aK h2 ho _ _ ble])))
   ·refine alo 52 (cs := [iV 0]) kR rfl (fun b8 hb8 => eL (fun _ w s => by exact s.low 52 jH agx agx agx) ?_)
    refine gn 3 rfl (cvo rfl (fun w_ s_ => jF r x oM w_) (eL (fun _ w s => by exact s.low 52 jH agx agx agx) ?_))
    refine gn 6 rfl (sto 52 rfl rfl rfl rfl (eL (fun _ w s => by exact s.low 52 jH agx agx agx) ?_))
    refine gn 7 rfl (sto 53 rfl rfl rfl rfl (eL (fun _ w s => by exact s.low 52 jH agx agx agx) ?_))
    refine eE kR ?_
    refine aO (ι := Nat × Nat) ⟨b8, b9⟩ ⟨hb8, hb9⟩ kns (fun w s => jS s (fun k b h => by rcases bB h with ⟨rfl, rfl⟩ | ⟨_, h⟩; exact rfl; rcases bB h with ⟨rfl, rfl⟩ | ⟨_, h⟩; exact rfl; rcases bB h with ⟨rfl, rfl⟩ | ⟨_, h⟩; exact rfl; rcases bB h with ⟨rfl, rfl⟩ | ⟨_, h⟩; exact rfl;  simp [lkp] at h) rfl rfl (fun k o ho h1 h2 => by repeat (first | rfl | rw [cH h1 ho dE] | rw [cH h2 ho dE] | rw [aK h1 ho _ _ ble] | rw [aK h2 ho _ _ ble])))
 rintro ⟨b8, b9⟩ ⟨hb8, hb9⟩
 show GC _ _ _ _ [(2, iV ((work : Int))), (3, pT b1), (4, pT b4), (8, pT b8), (9, pT b9)] _ _ ([(53, b9), (52, b8), (51, b4), (50, b1)]) (((ky 53 0, iV (dM r)) :: (ky 52 0, iV r.start) :: (aC 51 0 [iV most] ++ (aC 50 0 (bC r x) ++ [])))) ([])
 refine g2 ?_
 refine rl ((dP 50 (cs := bC r x) rfl rfl (fun i u h => by have hlt_ : i < 18 := (List.getElem?_eq_some_iff.1 h).1; first | exact fJ (bC r x) 0 ble i u h | (rcases i with _|_|_|_|_|_|_|_|_|_|_|_|_|_|_|_|_|_|i <;> first | exact h | omega)) ble kR)) ?_
 refine gL (aBb (F' := fun b => b = b1 ∨ b = b4 ∨ b = b8 ∨ b = b9) (fun y : Av => .agg (bC q y).toArray) (fun y w1 => InL w1 q y ∧ BkL (fun b => ¬(b = b1 ∨ b = b4 ∨ b = b8 ∨ b = b9)) q y) (fun k b h => by rcases bB h with ⟨rfl, rfl⟩ | ⟨_, h⟩; exact .inr (.inr (.inr rfl)); rcases bB h with ⟨rfl, rfl⟩ | ⟨_, h⟩; exact .inr (.inr (.inl rfl)); rcases bB h with ⟨rfl, rfl⟩ | ⟨_, h⟩; exact .inr (.inl rfl); rcases bB h with ⟨rfl, rfl⟩ | ⟨_, h⟩; exact .inl rfl; simp [lkp] at h) rfl (fun w_ s_ => (aAx (G := fun b => b < w.heap.size) r x oM oM hl w_ (InL.see s_ hin) hb).mono fun e w' ⟨y, h1, h2, h3, h4⟩ => ⟨y, by rw [h1, hq], h2, by rw [← hq]; exact h3, by rw [← hq]; exact aH3 h4 (s_.lt 50 b1 rfl) (s_.lt 51 b4 rfl) (s_.lt 52 b8 rfl) (s_.lt 53 b9 rfl) hb1 hb4 hb8 hb9⟩) (fun x2 w1 s1 hx2 => ?_))
 obtain ⟨hin2, hbk⟩ := hx2
 refine gL (cA 50 (cs := (bC q x2).toArray) rfl rfl rfl rfl kR rfl ble ?_)
 refine g4 ?_
 refine gL (alo 54 (cs := [sN]) kR rfl (fun b10 hb10 => ?_))
 refine g4 ?_
 refine rZ5 ((gG (first := []) (capt := [pT b1, pT b8, pT b10, pT b4, pT b9]) rfl rfl)) ?_
 refine rZ1 (rld 52 rfl rfl rfl) ?_
 refine gL (cvo rfl (fun w_ s_ => nB _ oM w_) ?_)
 refine g11 ?_
 refine rl (rfa 3) ?_
 refine rZ9 (rld 50 rfl rfl rfl) ?_
 refine bJ (ι := (Nat) × (Nat) × (List Int) × (Option Addr) × (Nat) × (LV)) (fun | ⟨k, wk, o, p, c, Hx⟩ => wk) (fun | ⟨k, wk, o, p, c, Hx⟩ => (k + wk ≤ 100000) ∧ (∀ l, DatesP q dayF (dM r) most k o l → DatesP q dayF (dM r) most 0 [] l) ∧ ((o.length : Int) ≤ most) ∧ ((cellsAt 50 Hx 0 (bC q x2) ∧ lkp (ky 51 0) Hx = some (iV most) ∧ lkp (ky 52 0) Hx = some (iV r.start) ∧ lkp (ky 53 0) Hx = some (iV (dM r)) ∧ Lim 55 [(54, b10), (53, b9), (52, b8), (51, b4), (50, b1)] Hx [])) ∧ (lkp (ky 54 0) Hx = some (.slice p o.length c))) (fun | ⟨k, wk, o, p, c, Hx⟩ => [(3, pT b1), (4, pT b4), (8, pT b8), (9, pT b9), (10, pT b10), (11, .func (.func 56) #[] #[pT b1, pT b8, pT b10, pT b4, pT b9]), (12, iV (Cal.yearOf (r.start / 86400))), (13, iV (Cal.monthOf (r.start / 86400))), (15, iV (q.interval)), (2, iV ((wk : Int))), (16, iV ((k : Int)))]) (fun | ⟨k, wk, o, p, c, Hx⟩ => [(54, b10), (53, b9), (52, b8), (51, b4), (50, b1)]) (fun | ⟨k, wk, o, p, c, Hx⟩ => Hx) (fun | ⟨k, wk, o, p, c, Hx⟩ => [(55, ⟨.slice p o.length c, 2, 1, o.length, (o.map iV)⟩)]) ⟨0, work, [], none, 0, (aC 54 0 [sN] ++ cX 50 0 (bC q x2).toArray.toList ((ky 53 0, iV (dM r)) :: (ky 52 0, iV r.start) :: (aC 51 0 [iV most] ++ (aC 50 0 (bC r x) ++ []))))⟩ ⟨by omega, fun l h => h, by simp; omega, ⟨⟨rfl, rfl, rfl, rfl, rfl, rfl, rfl, rfl, rfl, rfl, rfl, rfl, rfl, rfl, rfl, rfl, rfl, rfl, trivial⟩, rfl, rfl, rfl, ⟨fun k hk => by repeat (first | rfl | rw [aA oM]), fun k hk o ho => by repeat (first | rw [aK oM ho _ _ ble] | rw [cT oM ho _ _ ble] | rw [cH oM ho dE] | rfl), fun k hk => rfl⟩⟩, rfl⟩ kno (fun w s => by exact s.aJ6 55 2 1) ?_
 rintro ⟨k, wk, o, p, c, Hx⟩ ⟨hkw, hD, hom, hH, h54⟩
 show GC _ _ _ _ [(3, pT b1), (4, pT b4), (8, pT b8), (9, pT b9), (10, pT b10), (11, .func (.func 56) #[] #[pT b1, pT b8, pT b10, pT b4, pT b9]), (12, iV (Cal.yearOf (r.start / 86400))), (13, iV (Cal.monthOf (r.start / 86400))), (15, iV (q.interval)), (2, iV ((wk : Int))), (16, iV ((k : Int)))] _ _ ([(54, b10), (53, b9), (52, b8), (51, b4), (50, b1)]) (Hx) ([(55, ⟨.slice p o.length c, 2, 1, o.length, (o.map iV)⟩)])
 obtain ⟨hcl, h51, h52, h53, limH⟩ := hH
 have hcl2 := hcl
 obtain ⟨q0, q1, q2, q3, q4, q5, q6, q7, q8, q9, q10, q11, q12, q13, q14, q15, q16, q17, _⟩ := hcl2
 have hki := aIc (k := (k : Int)) (iv := q.interval) oM oM
 have h7 : 7 * (k : Int) * q.interval = 7 * (k * q.interval) := Int.mul_assoc _ _ _
 refine g13 ?_
 refine cV (ι := (Int) × (Int)) (fun | ⟨first, many⟩ => (cF q k = first) ∧ (iS q k = many) ∧ (¬ (q.freq = 0 ∧ 9999 < pY q k) ∧ ¬ (q.freq = 1 ∧ 9999 < pM q k)) ∧ (q.freq ≤ 3) ∧ (1 ≤ many ∧ many ≤ 366) ∧ (-7 ≤ first ∧ first ≤ 1000000000000)) (fun | ⟨first, many⟩ => [(3, pT b1), (4, pT b4), (8, pT b8), (9, pT b9), (10, pT b10), (11, .func (.func 56) #[] #[pT b1, pT b8, pT b10, pT b4, pT b9]), (12, iV (Cal.yearOf (r.start / 86400))), (13, iV (Cal.monthOf (r.start / 86400))), (15, iV (q.interval)), (2, iV ((wk : Int))), (16, iV ((k : Int))), (17, sN), (18, iV first), (19, iV many)]) (fun | ⟨first, many⟩ => [(54, b10), (53, b9), (52, b8), (51, b4), (50, b1)]) (fun | ⟨first, many⟩ => Hx) (fun | ⟨first, many⟩ => [(55, ⟨.slice p o.length c, 2, 1, o.length, (o.map iV)⟩)]) ?_ ?_
 ·refine g2 ?_
  refine rl (rfa 0) ?_
  refine rZ9 (rld 50 rfl rfl q0) ?_
  refine aB rfl (fun hc1 => ?_) (fun hc2 => ?_)
  ·have hf0 : q.freq = 0 := beq_iff_eq.1 hc1
   refine g6 ?_
   refine rl ((mS rfl rfl oM).to (v' := iV (pY q k)) (congrArg (Value.int .i64) (by unfold pY; rw [e1]))) ?_
   refine g10 ?_
   refine aB rfl (fun hc1 => ?_) (fun hc2 => ?_)
   ·have hpy : 9999 < pY q k := oT hc1
    have hov : eK q k := by unfold eK; exact .inl ⟨hf0, hpy⟩
    refine g2 ?_
    refine rl (rld 54 rfl rfl h54) ?_
    refine g12 ?_
    exact dQ (.inl rfl) rfl (aD rfl) (aD rfl) fun w_ s_ => ⟨true, o, p, c, fun _ => hD _ (.over hov), rfl, lT s1 s_ (fun b h => by rcases h with rfl | rfl | rfl | rfl <;> assumption) (k := 55) rfl⟩
   ·have hpy : ¬ 9999 < pY q k := oF hc2
    have hpy1 : 1 ≤ pY q k := by unfold pY; rw [e1]; omega
    have hlp := Cal.lp_01 (pY q k)
    have hdt : 0 ≤ Cal.daysTo (pY q k) ∧ Cal.daysTo (pY q k) ≤ 4000000 := by unfold Cal.daysTo; omega
    refine g4 ?_
    refine gL (cvo rfl (fun w_ s_ => eZ _ oM w_) ?_)
    refine g1 ?_
    refine gL (cvo rfl (fun w_ s_ => iG _ oM w_) ?_)
    refine g4 ?_
    refine aO (ι := Int × Int) (⟨Cal.daysTo (pY q k), 365 + Cal.lp (pY q k)⟩) (⟨by unfold cF; rw [if_pos hf0], by unfold iS; rw [if_pos hf0], ⟨fun h => hpy h.2, fun h => by omega⟩, by omega, by omega, by omega⟩) kno (fun w s => s)
  ·have hf0 : q.freq ≠ 0 := beq_eq_false_iff_ne.1 hc2
   refine g6 ?_
   refine aB rfl (fun hc1 => ?_) (fun hc2 => ?_)
   ·have hf1 : q.freq = 1 := beq_iff_eq.1 hc1
    have hpn : 0 ≤ pN q k ∧ pN q k ≤ 100000100 := by unfold pN; rw [e1]; omega
    refine g7 ?_
    refine rl ((mS rfl rfl oM).to (v' := iV (pN q k)) (congrArg (Value.int .i64) (by unfold pN; rw [e1]))) ?_
    refine g8 ?_
    refine rl ((mS rfl rfl oM).to (v' := iV (pM q k)) (congrArg (Value.int .i64) (by unfold pM; rw [e1]))) ?_
    refine g10 ?_
    refine aB rfl (fun hc1 => ?_) (fun hc2 => ?_)
    ·have hpy : 9999 < pM q k := oT hc1
     have hov : eK q k := by unfold eK; exact .inr (.inl ⟨hf1, hpy⟩)
     refine g2 ?_
     refine rl (rld 54 rfl rfl h54) ?_
     refine g12 ?_
     exact dQ (.inl rfl) rfl (aD rfl) (aD rfl) fun w_ s_ => ⟨true, o, p, c, fun _ => hD _ (.over hov), rfl, lT s1 s_ (fun b h => by rcases h with rfl | rfl | rfl | rfl <;> assumption) (k := 55) rfl⟩
    ·have hpy : ¬ 9999 < pM q k := oF hc2
     have hpn : 0 ≤ pN q k := by unfold pN; rw [e1]; omega
     have hpy1 : 1 ≤ pM q k := by unfold pM; rw [e1]; omega
     have hmd := Cal.mdays_bd (pN q k % 12 + 1) (pM q k)
     have hcu := Cal.cum_bd (pM q k) (pN q k % 12 + 1 - 1).toNat
     have hdt : 0 ≤ Cal.daysTo (pM q k) ∧ Cal.daysTo (pM q k) ≤ 4000000 := by unfold Cal.daysTo; omega
     refine g7 ?_
     refine gL (cvo rfl (fun w_ s_ => w9 _ _ _ oM oM oM w_) ?_)
     refine g4 ?_
     refine gL (cvo rfl (fun w_ s_ => gM _ _ oM w_) ?_)
     refine g4 ?_
     refine aO (ι := Int × Int) (⟨Cal.daysTo (pM q k) + 1 - 1 + Cal.cum (pM q k) (pN q k % 12 + 1 - 1).toNat, Cal.mdays (pN q k % 12 + 1) (pM q k)⟩) (⟨by unfold cF; rw [if_neg hf0, if_pos hf1], by unfold iS; rw [if_neg hf0, if_pos hf1], ⟨fun h => hf0 h.1, fun h => hpy h.2⟩, by omega, by omega, by omega⟩) kno (fun w s => s)
   ·have hf1 : q.freq ≠ 1 := beq_eq_false_iff_ne.1 hc2
    refine g6 ?_
    refine aB rfl (fun hc1 => ?_) (fun hc2 => ?_)
    ·have hf2 : q.freq = 2 := beq_iff_eq.1 hc1
     have hpv : cF q k = r.start / 86400 - (r.start / 86400 % 7 - q.wkst + 7) % 7 + 7 * k * q.interval := by unfold cF; rw [if_neg hf0, if_neg hf1, if_pos hf2, e1]
     refine g2 ?_
     refine rl (rld 52 rfl rfl h52) ?_
     refine g8 ?_
     refine eU dE kR rfl (fun w_ s_ => jD _ oM w_) ?_
     refine rq (rfa 4) ?_
     refine rq (rld 50 rfl rfl q4) ?_
     refine g8 ?_
     refine rq ((mS rfl rfl oM).to (v' := iV (cF q k)) (congrArg (Value.int .i64) (by unfold cF; rw [if_neg hf0, if_neg hf1, if_pos hf2, e1]))) ?_
     refine g7 ?_
     refine aO (ι := Int × Int) (⟨cF q k, 7⟩) (⟨rfl, by unfold iS; rw [if_neg hf0, if_neg hf1, if_pos hf2], ⟨fun h => hf0 h.1, fun h => hf1 h.1⟩, by omega, by omega, by omega⟩) kno (fun w s => s)
    ·have hf2 : q.freq ≠ 2 := beq_eq_false_iff_ne.1 hc2
     refine g6 ?_
     refine aB rfl (fun hc1 => ?_) (fun hc2 => ?_)
     ·have hf3 : q.freq = 3 := beq_iff_eq.1 hc1
      have hpv : cF q k = r.start / 86400 + k * q.interval := by unfold cF; rw [if_neg hf0, if_neg hf1, if_neg hf2, if_pos hf3, e1]
      refine g1 ?_
      refine rZ4 (rld 52 rfl rfl h52) ?_
      refine rZ4 ((mS rfl rfl oM).to (v' := iV (cF q k)) (congrArg (Value.int .i64) (by unfold cF; rw [if_neg hf0, if_neg hf1, if_neg hf2, if_pos hf3, e1]))) ?_
      refine aO (ι := Int × Int) (⟨cF q k, 1⟩) (⟨rfl, by unfold iS; rw [if_neg hf0, if_neg hf1, if_neg hf2], ⟨fun h => hf0 h.1, fun h => hf1 h.1⟩, by omega, by omega, by omega⟩) kno (fun w s => s)
     ·have hf3 : q.freq ≠ 3 := beq_eq_false_iff_ne.1 hc2
      refine cV (ι := (Int)) (fun u => (UN q.freq = u) ∧ (1 ≤ u ∧ u ≤ 3600)) (fun u => [(3, pT b1), (4, pT b4), (8, pT b8), (9, pT b9), (10, pT b10), (11, .func (.func 56) #[] #[pT b1, pT b8, pT b10, pT b4, pT b9]), (12, iV (Cal.yearOf (r.start / 86400))), (13, iV (Cal.monthOf (r.start / 86400))), (15, iV (q.interval)), (2, iV ((wk : Int))), (16, iV ((k : Int))), (17, sN), (24, iV u)]) (fun u => [(54, b10), (53, b9), (52, b8), (51, b4), (50, b1)]) (fun u => Hx) (fun u => [(55, ⟨.slice p o.length c, 2, 1, o.length, (o.map iV)⟩)]) ?_ ?_
      ·rcases (by omega : q.freq = 4 ∨ q.freq = 5 ∨ q.freq = 6) with hqf | hqf | hqf
       ·refine g1 ?_
        refine gL (eG 50 (e := 2) (sz := 1) (n := 3) (vs := [(0, iV 3600), (1, iV 60), (2, iV 1)]) (cs := [iV 3600, iV 60, iV 1]) dE rfl kW rfl dE dE rfl (fun b1_ hbb1_ => ?_))
        refine rl (rfa 0) ?_
        refine rl ((rld 50 rfl rfl q0).to (v' := .int .u8 4) (congrArg (Value.int .u8) hqf)) ?_
        refine rl ((jC rfl rfl).to (v' := .int .u8 0) rfl) ?_
        refine rl (aF (e := 2) (n := 1) kR rfl rfl oM oM) ?_
        refine rZ2 (bP 50 rfl rfl rfl rfl kR) ?_
        refine aO (ι := Int) (3600) (⟨by unfold UN; rw [hqf]; rfl, by decide⟩) kno (fun w s => Sees.tailS s rfl)
       ·refine g1 ?_
        refine gL (eG 50 (e := 2) (sz := 1) (n := 3) (vs := [(0, iV 3600), (1, iV 60), (2, iV 1)]) (cs := [iV 3600, iV 60, iV 1]) dE rfl kW rfl dE dE rfl (fun b2_ hbb2_ => ?_))
        refine rl (rfa 0) ?_
        refine rl ((rld 50 rfl rfl q0).to (v' := .int .u8 5) (congrArg (Value.int .u8) hqf)) ?_
        refine rl ((jC rfl rfl).to (v' := .int .u8 1) rfl) ?_
        refine rl (aF (e := 2) (n := 1) kR rfl rfl oM oM) ?_
        refine rZ2 (bP 50 rfl rfl rfl rfl kR) ?_
        refine aO (ι := Int) (60) (⟨by unfold UN; rw [hqf]; rfl, by decide⟩) kno (fun w s => Sees.tailS s rfl)
       ·refine g1 ?_
        refine gL (eG 50 (e := 2) (sz := 1) (n := 3) (vs := [(0, iV 3600), (1, iV 60), (2, iV 1)]) (cs := [iV 3600, iV 60, iV 1]) dE rfl kW rfl dE dE rfl (fun b3_ hbb3_ => ?_))
        refine rl (rfa 0) ?_
        refine rl ((rld 50 rfl rfl q0).to (v' := .int .u8 6) (congrArg (Value.int .u8) hqf)) ?_
        refine rl ((jC rfl rfl).to (v' := .int .u8 2) rfl) ?_
        refine rl (aF (e := 2) (n := 1) kR rfl rfl oM oM) ?_
        refine rZ2 (bP 50 rfl rfl rfl rfl kR) ?_
        refine aO (ι := Int) (1) (⟨by unfold UN; rw [hqf]; rfl, by decide⟩) kno (fun w s => Sees.tailS s rfl)
      rintro u ⟨hu, hub⟩
      show GC _ _ _ _ [(3, pT b1), (4, pT b4), (8, pT b8), (9, pT b9), (10, pT b10), (11, .func (.func 56) #[] #[pT b1, pT b8, pT b10, pT b4, pT b9]), (12, iV (Cal.yearOf (r.start / 86400))), (13, iV (Cal.monthOf (r.start / 86400))), (15, iV (q.interval)), (2, iV ((wk : Int))), (16, iV ((k : Int))), (17, sN), (24, iV u)] _ _ ([(54, b10), (53, b9), (52, b8), (51, b4), (50, b1)]) (Hx) ([(55, ⟨.slice p o.length c, 2, 1, o.length, (o.map iV)⟩)])
      obtain ⟨hu1, hu2⟩ := hub
      have hmd : 0 ≤ r.start % u ∧ r.start % u < u := ⟨Int.emod_nonneg _ oM, Int.emod_lt_of_pos _ oM⟩
      have hml : r.start % u ≤ r.start := by rw [Int.emod_def]; have := Int.mul_nonneg (show 0 ≤ u by omega) (Int.ediv_nonneg (show 0 ≤ r.start by omega) (show 0 ≤ u by omega)); omega
      have hku : 0 ≤ k * q.interval * u ∧ k * q.interval * u ≤ 100000000 * 3600 := ⟨Int.mul_nonneg hki.1 oM, Int.mul_le_mul hki.2 hu2 oM oM⟩
      have hpa : pAt q k = r.start - r.start % u + k * q.interval * u := by unfold pAt; rw [hu, e1]
      have hpab : 0 ≤ pAt q k ∧ pAt q k ≤ 1000000000000 := by rw [hpa]; omega
      refine g2 ?_
      refine rq (rld 52 rfl rfl h52) ?_
      refine rq (rld 52 rfl rfl h52) ?_
      refine g8 ?_
      refine rq ((mS rfl rfl oM).to (v' := iV (pAt q k)) (congrArg (Value.int .i64) (by rw [hpa]))) ?_
      refine g20 ?_
      refine g4 ?_
      refine aB rfl (fun hc1 => ?_) (fun hc2 => ?_)
      ·refine g14 ?_
       exact dQ (.inl rfl) rfl (aD rfl) (aD rfl) fun w_ s_ => ⟨false, [], none, 0, fun h => (by cases h), rfl, lT s1 (s_.aJ6 57 2 1) (fun b h => by rcases h with rfl | rfl | rfl | rfl <;> assumption) (k := 57) rfl⟩
      ·have hwk1 : 1 ≤ wk := by have := oF hc2; omega
       refine g6 ?_
       refine gL (cvo rfl (fun w_ s_ => eZ _ oM w_) ?_)
       refine g3 ?_
       refine aB rfl (fun hc1 => ?_) (fun hc2 => ?_)
       ·have hlt_ : Cal.daysTo 10000 ≤ pAt q k / 86400 := oT hc1
        have hov : eK q k := by unfold eK cF; rw [if_neg hf0, if_neg hf1, if_neg hf2, if_neg hf3]; exact .inr (.inr oM)
        refine g2 ?_
        refine rl (rld 54 rfl rfl h54) ?_
        refine g12 ?_
        exact dQ (.inl rfl) rfl (aD rfl) (aD rfl) fun w_ s_ => ⟨true, o, p, c, fun _ => hD _ (.over hov), rfl, lT s1 s_ (fun b h => by rcases h with rfl | rfl | rfl | rfl <;> assumption) (k := 55) rfl⟩
       ·have hlt_ : ¬ Cal.daysTo 10000 ≤ pAt q k / 86400 := oF hc2
        refine g2 ?_
        refine cV (ι := (List Int) × (Option Addr) × (Nat)) (fun | ⟨L, pl, cl⟩ => (L = if dayF (pAt q k / 86400) = true then eD q.hour q.minute q.second (pAt q k / 86400) (pAt q k) (UN q.freq) else [])) (fun | ⟨L, pl, cl⟩ => [(3, pT b1), (4, pT b4), (8, pT b8), (9, pT b9), (10, pT b10), (11, .func (.func 56) #[] #[pT b1, pT b8, pT b10, pT b4, pT b9]), (12, iV (Cal.yearOf (r.start / 86400))), (13, iV (Cal.monthOf (r.start / 86400))), (15, iV (q.interval)), (2, iV ((wk : Int) - 1)), (16, iV ((k : Int))), (18, iV (pAt q k / 86400)), (24, iV u), (25, iV (pAt q k)), (17, .slice pl L.length cl)]) (fun | ⟨L, pl, cl⟩ => [(54, b10), (53, b9), (52, b8), (51, b4), (50, b1)]) (fun | ⟨L, pl, cl⟩ => Hx) (fun | ⟨L, pl, cl⟩ => [(56, ⟨.slice pl L.length cl, 2, 1, L.length, (L.map iV)⟩), (55, ⟨.slice p o.length c, 2, 1, o.length, (o.map iV)⟩)]) ?_ ?_
        ·refine g2 ?_
         refine rZ1 ((dP 50 (cs := bC q x2) rfl rfl (fun i u h => by have := hcl.get i u h; rwa [Nat.zero_add] at this ⊢) ble kR)) ?_
         refine gL (cvo (v := .bool (dayF (pAt q k / 86400))) rfl (fun w_ s_ => hday x2 _ oM w_ (InL.seeF (F := fun b => b = b1 ∨ b = b4 ∨ b = b8 ∨ b = b9) s_ hin2 hbk)) ?_)
         refine g2 ?_
         refine aB rfl (fun hc1 => ?_) (fun hc2 => ?_)
         ·refine g1 ?_
          refine rZ3 ((dP 50 (cs := bC q x2) rfl rfl (fun i u h => by have := hcl.get i u h; rwa [Nat.zero_add] at this ⊢) ble kR)) ?_
          refine gL (bK 56 (e := 2) (sz := 1) (n := (eD q.hour q.minute q.second (pAt q k / 86400) (pAt q k) (u)).length) (xs := (eD q.hour q.minute q.second (pAt q k / 86400) (pAt q k) (u)).map iV) dE kR rfl (fun w_ s_ => oQ q x2 (pAt q k / 86400) (pAt q k) (u) oM oM oM l15 l16 l17 w_ (InL.seeF (F := fun b => b = b1 ∨ b = b4 ∨ b = b8 ∨ b = b9) s_ hin2 hbk)) (fun pl_ cl_ => ?_))
          refine g2 ?_
          refine aO (ι := List Int × Option Addr × Nat) (⟨eD q.hour q.minute q.second (pAt q k / 86400) (pAt q k) u, pl_, cl_⟩) (by rw [if_pos hc1, hu]) kno (fun w s => s)
         ·refine g1 ?_
          refine aO (ι := List Int × Option Addr × Nat) (⟨[], none, 0⟩) (by rw [if_neg (by rw [hc2]; decide)]) kno (fun w s => s.aJ6 56 2 1)
        rintro ⟨L, pl, cl⟩ hL
        show GC _ _ _ _ [(3, pT b1), (4, pT b4), (8, pT b8), (9, pT b9), (10, pT b10), (11, .func (.func 56) #[] #[pT b1, pT b8, pT b10, pT b4, pT b9]), (12, iV (Cal.yearOf (r.start / 86400))), (13, iV (Cal.monthOf (r.start / 86400))), (15, iV (q.interval)), (2, iV ((wk : Int) - 1)), (16, iV ((k : Int))), (18, iV (pAt q k / 86400)), (24, iV u), (25, iV (pAt q k)), (17, .slice pl L.length cl)] _ _ ([(54, b10), (53, b9), (52, b8), (51, b4), (50, b1)]) (Hx) ([(56, ⟨.slice pl L.length cl, 2, 1, L.length, (L.map iV)⟩), (55, ⟨.slice p o.length c, 2, 1, o.length, (o.map iV)⟩)])
        have hll : L.length ≤ 1000000000 := by rw [hL]; split; exact Nat.le_trans (lF _ _ _ _ _ _) dE; simp
        have hpf : cF q k = pAt q k / 86400 := by unfold cF; rw [if_neg hf0, if_neg hf1, if_neg hf2, if_neg hf3]
        have hnov : ¬ eK q k := by unfold eK; rw [hpf]; omega
        have hdl : eJ q dayF k = L := by unfold eJ; rw [if_pos oM, hpf, hL]
        refine g5 ?_
        refine gL (iE (ι := Option Addr × Nat) (first := []) (capt := [pT b1, pT b8, pT b10, pT b4, pT b9]) (fun _ => .bool (dS q r.start (dM r) most o L).2) (fun _ => True) (fun _ => [(54, b10), (53, b9), (52, b8), (51, b4), (50, b1)]) (fun y => (ky 54 0, .slice y.1 (dS q r.start (dM r) most o L).1.length y.2) :: Hx) (fun y => (55, ⟨.slice y.1 (dS q r.start (dM r) most o L).1.length y.2, 2, 1, (dS q r.start (dM r) most o L).1.length, ((dS q r.start (dM r) most o L).1.map iV)⟩) :: [(56, ⟨.slice pl L.length cl, 2, 1, L.length, (L.map iV)⟩), (55, ⟨.slice p o.length c, 2, 1, o.length, (o.map iV)⟩)]) dE rfl kR rfl (fun w_ s_ => (nG (r := q) (x := x2) (l := L) rfl rfl rfl rfl rfl q5 q8 h51 h52 h53 h54 rfl rfl (Lim.aJ2 (Lim.aJ2 (Lim.mono limH (by decide : 55 ≤ 57)) dE) dE) ⟨hom, hm.2⟩ hll (fun w_ s_ => (InL.seeF (F := fun b => b = b1 ∨ b = b4 ∨ b = b8 ∨ b = b9) s_ hin2 hbk).i9) l9 w_ s_).mono fun e w' ⟨p', c', he, hs⟩ => ⟨(p', c'), trivial, he, hs⟩) (fun | (p', c'), _ => ?_))
        refine g3 ?_
        refine aB rfl (fun hc1 => ?_) (fun hc2 => ?_)
        ·have hstop : (dS q r.start (dM r) most o L).2 = false := by simpa using hc1
         refine g2 ?_
         refine rl (rld 54 rfl rfl rfl) ?_
         refine g12 ?_
         exact dQ (.inl rfl) rfl (aD rfl) (aD rfl) fun w_ s_ => ⟨true, (dS q r.start (dM r) most o L).1, p', c', fun _ => hD _ (by have h_ := DatesP.stop (en := dM r) (most := most) hnov (by rw [hdl, e1]; exact hstop); rw [hdl, e1] at h_; exact h_), rfl, lT s1 s_ (fun b h => by rcases h with rfl | rfl | rfl | rfl <;> assumption) (k := 55) rfl⟩
        ·have hgo : (dS q r.start (dM r) most o L).2 = true := by simpa using hc2
         refine g12 ?_
         refine aQ ⟨k + 1, wk - 1, (dS q r.start (dM r) most o L).1, p', c', (ky 54 0, .slice p' (dS q r.start (dM r) most o L).1.length c') :: Hx⟩ sO ⟨by omega, fun l h => hD l (.more hnov (by rw [hdl, e1]; exact hgo) (by rw [hdl, e1]; exact (show ((k + 1 : Nat) : Int) = (k : Int) + 1 by omega) ▸ h)), i6 _ _ _ _ _ _ hom, ⟨mH hcl ble dE dE, h51, h52, h53, limH.aJ1 (k := 54) (o := 0) dE dE⟩, rfl⟩ kno (fun w s => by exact (s.low 56 (Lim.aJ2 (Lim.mono (limH.aJ1 (k := 54) (o := 0) dE dE) (by decide : 55 ≤ 56)) (by decide : 55 < 56)) agx agx agx))
 rintro ⟨first, many⟩ ⟨hpf, hpm, hno, hf3, hmb2, hfb⟩
 show GC _ _ _ _ [(3, pT b1), (4, pT b4), (8, pT b8), (9, pT b9), (10, pT b10), (11, .func (.func 56) #[] #[pT b1, pT b8, pT b10, pT b4, pT b9]), (12, iV (Cal.yearOf (r.start / 86400))), (13, iV (Cal.monthOf (r.start / 86400))), (15, iV (q.interval)), (2, iV ((wk : Int))), (16, iV ((k : Int))), (17, sN), (18, iV first), (19, iV many)] _ _ ([(54, b10), (53, b9), (52, b8), (51, b4), (50, b1)]) (Hx) ([(55, ⟨.slice p o.length c, 2, 1, o.length, (o.map iV)⟩)])
 refine g4 ?_
 refine gL (cvo rfl (fun w_ s_ => eZ _ oM w_) ?_)
 refine g3 ?_
 refine aB rfl (fun hc1 => ?_) (fun hc2 => ?_)
 ·have hlt_ : Cal.daysTo 10000 ≤ first := oT hc1
  have hov : eK q k := by unfold eK; rw [hpf]; exact .inr (.inr oM)
  refine g2 ?_
  refine rl (rld 54 rfl rfl h54) ?_
  refine g10 ?_
  exact dQ (.inl rfl) rfl (aD rfl) (aD rfl) fun w_ s_ => ⟨true, o, p, c, fun _ => hD _ (.over hov), rfl, lT s1 s_ (fun b h => by rcases h with rfl | rfl | rfl | rfl <;> assumption) (k := 55) rfl⟩
 ·have hlt_ : ¬ Cal.daysTo 10000 ≤ first := oF hc2
  have hnov : ¬ eK q k := by unfold eK; rw [hpf]; intro h_; rcases h_ with h_ | h_ | h_; exact hno.1 h_; exact hno.2 h_; omega
  refine g16 ?_
  refine g1 ?_
  refine aB rfl (fun hc1 => ?_) (fun hc2 => ?_)
  ·refine g12 ?_
   exact dQ (.inl rfl) rfl (aD rfl) (aD rfl) fun w_ s_ => ⟨false, [], none, 0, fun h => (by cases h), rfl, lT s1 (s_.aJ6 57 2 1) (fun b h => by rcases h with rfl | rfl | rfl | rfl <;> assumption) (k := 57) rfl⟩
  ·have hwk1 : many ≤ wk := by have := oF hc2; omega
   refine g10 ?_
   refine bJ (ι := (Nat) × (List Int) × (Option Addr) × (Nat) × (Nat) × (List Value)) (fun | ⟨j, L, pl, cl, n, xs⟩ => (many - j).toNat) (fun | ⟨j, L, pl, cl, n, xs⟩ => ((j : Int) ≤ many) ∧ (L = jL q dayF first j) ∧ (n = L.length) ∧ (xs = L.map iV)) (fun | ⟨j, L, pl, cl, n, xs⟩ => [(3, pT b1), (4, pT b4), (8, pT b8), (9, pT b9), (10, pT b10), (11, .func (.func 56) #[] #[pT b1, pT b8, pT b10, pT b4, pT b9]), (12, iV (Cal.yearOf (r.start / 86400))), (13, iV (Cal.monthOf (r.start / 86400))), (15, iV (q.interval)), (2, iV ((wk : Int) - many)), (16, iV ((k : Int))), (18, iV first), (19, iV many), (162, iV many), (17, .slice pl n cl), (163, iV ((j : Int)))]) (fun | ⟨j, L, pl, cl, n, xs⟩ => [(54, b10), (53, b9), (52, b8), (51, b4), (50, b1)]) (fun | ⟨j, L, pl, cl, n, xs⟩ => Hx) (fun | ⟨j, L, pl, cl, n, xs⟩ => [(56, ⟨.slice pl n cl, 2, 1, n, xs⟩), (55, ⟨.slice p o.length c, 2, 1, o.length, (o.map iV)⟩)]) ⟨0, [], none, 0, 0, []⟩ ⟨by omega, rfl, rfl, rfl⟩ kno (fun w s => by exact s.aJ6 56 2 1) ?_
   rintro ⟨j, L, pl, cl, n, xs⟩ ⟨hj, hL, hn, hx⟩
   show GC _ _ _ _ [(3, pT b1), (4, pT b4), (8, pT b8), (9, pT b9), (10, pT b10), (11, .func (.func 56) #[] #[pT b1, pT b8, pT b10, pT b4, pT b9]), (12, iV (Cal.yearOf (r.start / 86400))), (13, iV (Cal.monthOf (r.start / 86400))), (15, iV (q.interval)), (2, iV ((wk : Int) - many)), (16, iV ((k : Int))), (18, iV first), (19, iV many), (162, iV many), (17, .slice pl n cl), (163, iV ((j : Int)))] _ _ ([(54, b10), (53, b9), (52, b8), (51, b4), (50, b1)]) (Hx) ([(56, ⟨.slice pl n cl, 2, 1, n, xs⟩), (55, ⟨.slice p o.length c, 2, 1, o.length, (o.map iV)⟩)])
   have hLl := rW q dayF first j
   rw [← hL] at hLl
   refine g6 ?_
   refine aB rfl (fun hc1 => ?_) (fun hc2 => ?_)
   ·have hlt : (j : Int) < many := oT hc1
    refine g20 ?_
    refine g1 ?_
    by_cases h0 : 0 ≤ first + j
    ·refine rZ2 ((bZ rfl rfl).to bT) ?_
     refine rZ3 ((dP 50 (cs := bC q x2) rfl rfl (fun i u h => by have := hcl.get i u h; rwa [Nat.zero_add] at this ⊢) ble kR)) ?_
     rcases bO (dayF (first + j)) with ha | ha
     ·refine gL (cvo (v := .bool true) rfl (fun w_ s_ => (hday x2 (first + j) ⟨h0, by omega⟩ w_ (InL.seeF (F := fun b => b = b1 ∨ b = b4 ∨ b = b8 ∨ b = b9) s_ hin2 hbk)).mono fun e_ w2_ h_ => ⟨h_.1.trans (cE ha), h_.2⟩) ?_)
      refine g3 ?_
      refine aY rfl rfl ?_
      refine g2 ?_
      refine rZ3 ((dP 50 (cs := bC q x2) rfl rfl (fun i u h => by have := hcl.get i u h; rwa [Nat.zero_add] at this ⊢) ble kR)) ?_
      refine gL (bK 60 (e := 2) (sz := 1) (n := (eD q.hour q.minute q.second (first + j) ((first + j) * 86400) (86400)).length) (xs := (eD q.hour q.minute q.second (first + j) ((first + j) * 86400) (86400)).map iV) dE kR rfl (fun w_ s_ => oQ q x2 (first + j) ((first + j) * 86400) (86400) oM oM oM l15 l16 l17 w_ (InL.seeF (F := fun b => b = b1 ∨ b = b4 ∨ b = b8 ∨ b = b9) s_ hin2 hbk)) (fun p6 c6 => ?_))
      refine gL (tE 56 60 (e := 2) (sz := 1) (by_ := 8) (zs := [iV 0]) (q := ⟨.slice pl n cl, 2, 1, n, xs⟩) (r := ⟨.slice p6 (eD q.hour q.minute q.second (first + j) ((first + j) * 86400) 86400).length c6, 2, 1, (eD q.hour q.minute q.second (first + j) ((first + j) * 86400) 86400).length, ((eD q.hour q.minute q.second (first + j) ((first + j) * 86400) 86400).map iV)⟩) dE kR rfl dE rfl rfl rfl rfl ⟨rfl, rfl⟩ ⟨rfl, rfl⟩ f9 (by have hcl_ := lF q.hour q.minute q.second (first + j) ((first + j) * 86400) 86400; simp only; omega) (by have hcl_ := lF q.hour q.minute q.second (first + j) ((first + j) * 86400) 86400; simp only; omega) (fun p7 c7 => ?_))
      refine g8 ?_
      refine aQ ⟨j + 1, L ++ eD q.hour q.minute q.second (first + j) ((first + j) * 86400) 86400, p7, c7, n + (eD q.hour q.minute q.second (first + j) ((first + j) * 86400) 86400).length, xs ++ (eD q.hour q.minute q.second (first + j) ((first + j) * 86400) 86400).map iV⟩ sO ⟨by omega, by rw [mR, ← hL]; unfold iX; rw [if_pos ⟨h0, ha⟩], by rw [List.length_append, hn], by rw [List.map_append, hx]⟩ kno (fun w s => by exact (s.low 57 ((Lim.mono limH (by decide : 55 ≤ 57)).aJ2 dE |>.aJ2 dE) agx agx agx))
     ·refine gL (cvo (v := .bool false) rfl (fun w_ s_ => (hday x2 (first + j) ⟨h0, by omega⟩ w_ (InL.seeF (F := fun b => b = b1 ∨ b = b4 ∨ b = b8 ∨ b = b9) s_ hin2 hbk)).mono fun e_ w2_ h_ => ⟨h_.1.trans (cE ha), h_.2⟩) ?_)
      refine kQ ?_
      refine aQ ⟨j + 1, L, pl, cl, n, xs⟩ sO ⟨by omega, by rw [mR, ← hL]; unfold iX; rw [if_neg (fun h_ => by rw [ha] at h_; exact absurd h_.2 dE), List.append_nil], hn, hx⟩ kno (fun w s => by exact (s.low 57 ((Lim.mono limH (by decide : 55 ≤ 57)).aJ2 dE |>.aJ2 dE) agx agx agx))
    ·refine rl ((bZ rfl rfl).to bF) ?_
     refine o6 ?_
     refine aQ ⟨j + 1, L, pl, cl, n, xs⟩ sO ⟨by omega, by rw [mR, ← hL]; unfold iX; rw [if_neg (fun h_ => h0 h_.1), List.append_nil], hn, hx⟩ kno (fun w s => by exact (s.low 57 ((Lim.mono limH (by decide : 55 ≤ 57)).aJ2 dE |>.aJ2 dE) agx agx agx))
   ·have hje : (j : Int) = many := by have := oF hc2; omega
    subst hn hx
    have hdl : eJ q dayF k = L := by unfold eJ; rw [if_neg oM, hpf, hpm, hL, show many.toNat = j by omega]
    refine g9 ?_
    refine gL (iE (ι := Option Addr × Nat) (first := []) (capt := [pT b1, pT b8, pT b10, pT b4, pT b9]) (fun _ => .bool (dS q r.start (dM r) most o L).2) (fun _ => True) (fun _ => [(54, b10), (53, b9), (52, b8), (51, b4), (50, b1)]) (fun y => (ky 54 0, .slice y.1 (dS q r.start (dM r) most o L).1.length y.2) :: Hx) (fun y => (55, ⟨.slice y.1 (dS q r.start (dM r) most o L).1.length y.2, 2, 1, (dS q r.start (dM r) most o L).1.length, ((dS q r.start (dM r) most o L).1.map iV)⟩) :: [(56, ⟨.slice pl L.length cl, 2, 1, L.length, (L.map iV)⟩), (55, ⟨.slice p o.length c, 2, 1, o.length, (o.map iV)⟩)]) dE rfl kR rfl (fun w_ s_ => (nG (r := q) (x := x2) (l := L) rfl rfl rfl rfl rfl q5 q8 h51 h52 h53 h54 rfl rfl (Lim.aJ2 (Lim.aJ2 (Lim.mono limH (by decide : 55 ≤ 57)) dE) dE) ⟨hom, hm.2⟩ oM (fun w_ s_ => (InL.seeF (F := fun b => b = b1 ∨ b = b4 ∨ b = b8 ∨ b = b9) s_ hin2 hbk).i9) l9 w_ s_).mono fun e w' ⟨p', c', he, hs⟩ => ⟨(p', c'), trivial, he, hs⟩) (fun | (p', c'), _ => ?_))
    refine g3 ?_
    refine aB rfl (fun hc1 => ?_) (fun hc2 => ?_)
    ·have hstop : (dS q r.start (dM r) most o L).2 = false := by simpa using hc1
     refine g2 ?_
     refine rZ9 (rld 54 rfl rfl rfl) ?_
     exact dQ (.inl rfl) rfl (aD rfl) (aD rfl) fun w_ s_ => ⟨true, (dS q r.start (dM r) most o L).1, p', c', fun _ => hD _ (by have h_ := DatesP.stop (en := dM r) (most := most) hnov (by rw [hdl, e1]; exact hstop); rw [hdl, e1] at h_; exact h_), rfl, lT s1 s_ (fun b h => by rcases h with rfl | rfl | rfl | rfl <;> assumption) (k := 55) rfl⟩
    ·have hgo : (dS q r.start (dM r) most o L).2 = true := by simpa using hc2
     refine g8 ?_
     refine aQ ⟨k + 1, wk - many.toNat, (dS q r.start (dM r) most o L).1, p', c', (ky 54 0, .slice p' (dS q r.start (dM r) most o L).1.length c') :: Hx⟩ sO ⟨by omega, fun l h => hD l (.more hnov (by rw [hdl, e1]; exact hgo) (by rw [hdl, e1]; exact (show ((k + 1 : Nat) : Int) = (k : Int) + 1 by omega) ▸ h)), i6 _ _ _ _ _ _ hom, ⟨mH hcl ble dE dE, h51, h52, h53, limH.aJ1 (k := 54) (o := 0) dE dE⟩, rfl⟩ kno (fun w s => by exact (s.low 56 (Lim.aJ2 (Lim.mono (limH.aJ1 (k := 54) (o := 0) dE dE) (by decide : 55 ≤ 56)) (by decide : 55 < 56)) agx agx agx))
theorem kP {w : World} {p : Option Addr} {n c : Nat} {xs : List Int} (h : Ints w (.slice p n c) xs) (hn : xs.length ≠ 0) (b o : Nat) (e : p = some ⟨b, o, none⟩) : b < w.heap.size := by
 obtain ⟨p', c', e1, hc⟩ := h
 injection e1 with e2 _ _
 obtain ⟨b', o', e3, h3⟩ := hc 0 _ (List.getElem?_eq_getElem (show 0 < xs.length by omega))
 have h4 := World.block_lt_of_cell? w _ h3
 have e4 : (some ⟨b, o, none⟩ : Option Addr) = some ⟨b', o', none⟩ := e.symm.trans (e2.trans e3)
 injection e4 with e4
 injection e4 with e4 _
 rw [e4]
 exact h4
theorem aD7 {w : World} {p : Option Addr} {n c : Nat} {xs : List (Int × Int)} (h : Prs w (.slice p n c) xs) (hn : xs.length ≠ 0) (b o : Nat) (e : p = some ⟨b, o, none⟩) : b < w.heap.size := by
 obtain ⟨p', c', e1, hc⟩ := h
 injection e1 with e2 _ _
 obtain ⟨b', o', e3, h3, _⟩ := hc 0 _ (List.getElem?_eq_getElem (show 0 < xs.length by omega))
 have h4 := World.block_lt_of_cell? w _ h3
 have e4 : (some ⟨b, o, none⟩ : Option Addr) = some ⟨b', o', none⟩ := e.symm.trans (e2.trans e3)
 injection e4 with e4
 injection e4 with e4 _
 rw [e4]
 exact h4
theorem InL.bk {w : World} {r : Rul} {x : Av} (h : InL w r x) : BkL (fun b => b < w.heap.size) r x :=
 ⟨kP h.i9, kP h.i10, kP h.i11, kP h.i12, kP h.i13, aD7 h.i14, kP h.i15, kP h.i16, kP h.i17, kP h.i18⟩
theorem yD (r : Rul) (x : Av) (w : World) : Calls Tryz.prog 20 #[.agg (bC r x).toArray] w fun e w' => ∃ b : Bool, (b = true → LenL r) ∧ e = .returned (.bool b) ∧ Below w.heap.size w w' := by
 refine aI (args := [.agg (bC r x).toArray]) (L := [(0, .agg (bC r x).toArray)]) (N := 43) Tryz.func20 rfl rfl ble rfl (sS w) ?_
 refine g2 ?_
 refine gL (fM 50 (cs := bC r x) dE rfl rfl rfl (fun o ho => rfl) ble (fun b1 hb1 => ?_))
 refine g6 ?_
 refine rl (rfa 8) ?_
 refine rZ4 (rld 50 rfl rfl rfl) ?_
 refine aB rfl (fun hc1 => ?_) (fun hc2 => ?_)
 ·refine g7 ?_
  exact aT (.inl rfl) rfl (aD rfl) fun w_ s_ => ⟨_, (by first | (intro h_; cases h_; done) | exact fun _ => ⟨g9_, g10_, g11_, g12_, g13_, g14_, g15_, g16_, g17_, g18_⟩), rfl, s_.aJ0⟩
 ·have g9_ : r.setpos.length ≤ 2147483647 := by have := oF hc2; omega
  refine g5 ?_
  refine rl (rfa 9) ?_
  refine rZ4 (rld 50 rfl rfl rfl) ?_
  refine aB rfl (fun hc1 => ?_) (fun hc2 => ?_)
  ·refine g7 ?_
   exact aT (.inl rfl) rfl (aD rfl) fun w_ s_ => ⟨_, (by first | (intro h_; cases h_; done) | exact fun _ => ⟨g9_, g10_, g11_, g12_, g13_, g14_, g15_, g16_, g17_, g18_⟩), rfl, s_.aJ0⟩
  ·have g10_ : r.month.length ≤ 2147483647 := by have := oF hc2; omega
   refine g5 ?_
   refine rl (rfa 10) ?_
   refine rZ4 (rld 50 rfl rfl rfl) ?_
   refine aB rfl (fun hc1 => ?_) (fun hc2 => ?_)
   ·refine g7 ?_
    exact aT (.inl rfl) rfl (aD rfl) fun w_ s_ => ⟨_, (by first | (intro h_; cases h_; done) | exact fun _ => ⟨g9_, g10_, g11_, g12_, g13_, g14_, g15_, g16_, g17_, g18_⟩), rfl, s_.aJ0⟩
   ·have g11_ : r.mday.length ≤ 2147483647 := by have := oF hc2; omega
    refine g5 ?_
    refine rl (rfa 11) ?_
    refine rZ4 (rld 50 rfl rfl rfl) ?_
    refine aB rfl (fun hc1 => ?_) (fun hc2 => ?_)
    ·refine g7 ?_
     exact aT (.inl rfl) rfl (aD rfl) fun w_ s_ => ⟨_, (by first | (intro h_; cases h_; done) | exact fun _ => ⟨g9_, g10_, g11_, g12_, g13_, g14_, g15_, g16_, g17_, g18_⟩), rfl, s_.aJ0⟩
    ·have g12_ : r.yday.length ≤ 2147483647 := by have := oF hc2; omega
     refine g5 ?_
     refine rl (rfa 12) ?_
     refine rZ4 (rld 50 rfl rfl rfl) ?_
     refine aB rfl (fun hc1 => ?_) (fun hc2 => ?_)
     ·refine g7 ?_
      exact aT (.inl rfl) rfl (aD rfl) fun w_ s_ => ⟨_, (by first | (intro h_; cases h_; done) | exact fun _ => ⟨g9_, g10_, g11_, g12_, g13_, g14_, g15_, g16_, g17_, g18_⟩), rfl, s_.aJ0⟩
     ·have g13_ : r.weekno.length ≤ 2147483647 := by have := oF hc2; omega
      refine g5 ?_
      refine rl (rfa 13) ?_
      refine rZ4 (rld 50 rfl rfl rfl) ?_
      refine aB rfl (fun hc1 => ?_) (fun hc2 => ?_)
      ·refine g7 ?_
       exact aT (.inl rfl) rfl (aD rfl) fun w_ s_ => ⟨_, (by first | (intro h_; cases h_; done) | exact fun _ => ⟨g9_, g10_, g11_, g12_, g13_, g14_, g15_, g16_, g17_, g18_⟩), rfl, s_.aJ0⟩
      ·have g14_ : r.wday.length ≤ 2147483647 := by have := oF hc2; omega
       refine g5 ?_
       refine rl (rfa 14) ?_
       refine rZ4 (rld 50 rfl rfl rfl) ?_
       refine aB rfl (fun hc1 => ?_) (fun hc2 => ?_)
       ·refine g7 ?_
        exact aT (.inl rfl) rfl (aD rfl) fun w_ s_ => ⟨_, (by first | (intro h_; cases h_; done) | exact fun _ => ⟨g9_, g10_, g11_, g12_, g13_, g14_, g15_, g16_, g17_, g18_⟩), rfl, s_.aJ0⟩
       ·have g15_ : r.hour.length ≤ 2147483647 := by have := oF hc2; omega
        refine g5 ?_
        refine rl (rfa 15) ?_
        refine rZ4 (rld 50 rfl rfl rfl) ?_
        refine aB rfl (fun hc1 => ?_) (fun hc2 => ?_)
        ·refine g7 ?_
         exact aT (.inl rfl) rfl (aD rfl) fun w_ s_ => ⟨_, (by first | (intro h_; cases h_; done) | exact fun _ => ⟨g9_, g10_, g11_, g12_, g13_, g14_, g15_, g16_, g17_, g18_⟩), rfl, s_.aJ0⟩
        ·have g16_ : r.minute.length ≤ 2147483647 := by have := oF hc2; omega
         refine g5 ?_
         refine rl (rfa 16) ?_
         refine rZ4 (rld 50 rfl rfl rfl) ?_
         refine aB rfl (fun hc1 => ?_) (fun hc2 => ?_)
         ·refine g7 ?_
          exact aT (.inl rfl) rfl (aD rfl) fun w_ s_ => ⟨_, (by first | (intro h_; cases h_; done) | exact fun _ => ⟨g9_, g10_, g11_, g12_, g13_, g14_, g15_, g16_, g17_, g18_⟩), rfl, s_.aJ0⟩
         ·have g17_ : r.second.length ≤ 2147483647 := by have := oF hc2; omega
          refine g5 ?_
          refine rl (rfa 17) ?_
          refine rZ4 (rld 50 rfl rfl rfl) ?_
          refine aB rfl (fun hc1 => ?_) (fun hc2 => ?_)
          ·refine g7 ?_
           exact aT (.inl rfl) rfl (aD rfl) fun w_ s_ => ⟨_, (by first | (intro h_; cases h_; done) | exact fun _ => ⟨g9_, g10_, g11_, g12_, g13_, g14_, g15_, g16_, g17_, g18_⟩), rfl, s_.aJ0⟩
          ·have g18_ : r.easter.length ≤ 2147483647 := by have := oF hc2; omega
           refine g8 ?_
           exact aT (.inl rfl) rfl (aD rfl) fun w_ s_ => ⟨_, (by first | (intro h_; cases h_; done) | exact fun _ => ⟨g9_, g10_, g11_, g12_, g13_, g14_, g15_, g16_, g17_, g18_⟩), rfl, s_.aJ0⟩
def cD (r : Rul) : Rul := { r with hasUntil := false, untl := 0 }
def lI (r : Rul) (dayF : Int → Bool) (most : Int) (l : List Int) : Prop := DatesP (aZ r) dayF (dM r) most 0 [] l
def aB8 (q : Rul) (dayF : Int → Bool) : Prop := ∀ (x2 : Av) (day : Int), 0 ≤ day ∧ day ≤ 5000000 → ∀ w, InL w q x2 → Calls Tryz.prog 62 #[.agg (bC q x2).toArray, iV day] w fun e w' => e = .returned (.bool (dayF day)) ∧ Below w.heap.size w w'
theorem yL (r : Rul) (x : Av) (dayF : Int → Bool) (most : Int) (rp : RightP r) (hl : LenL r) (hlq : LenL (aZ (cD r))) (hm : 0 ≤ most ∧ most ≤ 10000) (hday : aB8 (aZ (cD r)) dayF) (w : World) (hin : InL w r x) : Calls Tryz.prog 37 #[.agg (bC r x).toArray, iV most] w fun e w' => ∃ b : Bool, (b = true → ∃ l, lI (cD r) dayF (most + 1) l ∧ ((l.length : Int) = most + 1 ∨ (0 < r.count ∧ (l.length : Int) = r.count))) ∧ e = .returned (.bool b) ∧ Below w.heap.size w w' := by
 have hinu : ∀ {w_ : World}, InL w_ r x → InL w_ (cD r) x := fun h => ⟨h.i9, h.i10, h.i11, h.i12, h.i13, h.i14, h.i15, h.i16, h.i17, h.i18⟩
 refine aI (args := [.agg (bC r x).toArray, iV most]) (L := [(0, .agg (bC r x).toArray), (1, iV most)]) (N := 36) Tryz.func37 rfl rfl ble rfl (sS w) ?_
 refine g2 ?_
 refine gL (fM 50 (cs := bC r x) dE rfl rfl rfl (fun o ho => rfl) ble (fun b1 hb1 => ?_))
 refine g5 ?_
 refine rl (rfa 6) ?_
 refine gL (sto 50 rfl rfl rfl rfl ?_)
 refine rl (rfa 7) ?_
 refine gL (sto 50 rfl rfl rfl rfl ?_)
 refine g4 ?_
 refine rZ2 ((dP 50 (cs := bC (cD r) x) rfl rfl (fun i u h => by have hlt_ : i < 18 := (List.getElem?_eq_some_iff.1 h).1; rcases i with _|_|_|_|_|_|_|_|_|_|_|_|_|_|_|_|_|_|i <;> first | exact h | omega) ble kR)) ?_
 refine gL (cbx (ι := Bool × List Int × Option Addr × Nat) (fun y => .tuple #[.slice y.2.2.1 y.2.1.length y.2.2.2, .bool y.1]) (fun y => y.1 = true → lI (cD r) dayF (most + 1) y.2.1) rfl (fun w_ s_ => (yG (cD r) (aZ (cD r)) x dayF (most + 1) 3000 rfl rp.t1.start rp.t1.freq rp.t1.interval rp.t1.wkst ⟨hl.l9, hl.l10, hl.l11, hl.l12, hl.l13, hl.l14, hl.l15, hl.l16, hl.l17, hl.l18⟩ hlq oM dE hday w_ (hinu (InL.see s_ hin)) (InL.bk (hinu (InL.see s_ hin)))).mono fun e w' ⟨b, l, p, c, h1, h2, h3⟩ => ⟨(b, l, p, c), h1, h2, h3.1⟩) (fun | (b_, l, p, c), hy => ?_))
 refine g10 ?_
 rcases bO (b_) with hb_ | hb_
 ·refine rZ9 ((bD rfl).to (v' := .bool true) (cB hb_)) ?_
  by_cases h1 : (l.length : Int) = most + 1
  ·refine rl ((aR rfl rfl).to eT) ?_
   refine g18 ?_
   refine g1 ?_
   exact aT (.inl rfl) rfl (aD rfl) fun w_ s_ => ⟨_, (by first | (intro h_; cases h_; done) | exact fun _ => ⟨l, hy hb_, .inl h1⟩), rfl, s_.aJ0⟩
  ·refine rZ3 ((aR rfl rfl).to eF) ?_
   refine rZ1 (rfa 5) ?_
   refine rZ1 (rld 50 rfl rfl rfl) ?_
   by_cases h2 : 0 < r.count
   ·refine rZ7 ((bG rfl rfl).to bT) ?_
    refine rZ1 (rfa 5) ?_
    refine rZ1 (rld 50 rfl rfl rfl) ?_
    by_cases h3 : (l.length : Int) = r.count
    ·refine rZ9 ((aR rfl rfl).to eT) ?_
     exact aT (.inl rfl) rfl (aD rfl) fun w_ s_ => ⟨_, (by first | (intro h_; cases h_; done) | exact fun _ => ⟨l, hy hb_, .inr ⟨h2, h3⟩⟩), rfl, s_.aJ0⟩
    ·refine rZ9 ((aR rfl rfl).to eF) ?_
     exact aT (.inl rfl) rfl (aD rfl) fun w_ s_ => ⟨_, (by first | (intro h_; cases h_; done) | exact fun _ => ⟨l, hy hb_, .inr ⟨h2, h3⟩⟩), rfl, s_.aJ0⟩
   ·refine rl ((bG rfl rfl).to bF) ?_
    refine g16 ?_
    exact aT (.inl rfl) rfl (aD rfl) fun w_ s_ => ⟨_, (by first | (intro h_; cases h_; done) | exact fun _ => ⟨l, hy hb_, .inr ⟨h2, h3⟩⟩), rfl, s_.aJ0⟩
 ·refine rl ((bD rfl).to (v' := .bool false) (cB hb_)) ?_
  refine g20 ?_
  refine g2 ?_
  exact aT (.inl rfl) rfl (aD rfl) fun w_ s_ => ⟨_, (by first | (intro h_; cases h_; done) | exact fun _ => ⟨l, hy hb_, .inr ⟨h2, h3⟩⟩), rfl, s_.aJ0⟩
theorem wS (r : Rul) (x : Av) (hd : r.wday.length ≤ 1000) (w : World) (hin : InL w r x) : Calls Tryz.prog 19 #[.agg (bC r x).toArray] w fun e w' => ∃ (p : Option Addr) (c : Nat), e = .returned (.agg (bC r { x with p14 := p, c14 := c }).toArray) ∧ fL w w' (.slice p r.wday.length c) 69 2 r.wday.length (eI r.wday) := by
 have hID : ∀ i y, r.wday[i]? = some y → ∃ b o, x.p14 = some ⟨b, o, none⟩ ∧ w.cell? ⟨b, o + 2 * i, none⟩ = some (iV y.1) ∧ w.cell? ⟨b, o + 2 * i + 1, none⟩ = some (iV y.2) := by
  obtain ⟨p', c', e, hc'⟩ := hin.i14
  injection e with e1 _ _
  rw [e1]; exact hc'
 refine aI (args := [.agg (bC r x).toArray]) (L := [(0, .agg (bC r x).toArray)]) (N := 56) Tryz.func19 rfl rfl ble rfl (sS w) ?_
 refine g2 ?_
 refine gL (fM 50 (cs := bC r x) dE rfl rfl rfl (fun o ho => rfl) ble (fun b1 hb1 => ?_))
 refine gL (alo 51 (cs := zL1) kR rfl (fun b2 hb2 => ?_))
 refine g4 ?_
 refine rl (rfa 0) ?_
 refine rl (rld 50 rfl rfl rfl) ?_
 refine rl (rfa 1) ?_
 refine rl (rld 50 rfl rfl rfl) ?_
 refine rl (rfa 2) ?_
 refine rl (rld 50 rfl rfl rfl) ?_
 refine rl (rfa 3) ?_
 refine rl (rld 50 rfl rfl rfl) ?_
 refine rl (rfa 4) ?_
 refine rl (rld 50 rfl rfl rfl) ?_
 refine rl (rfa 5) ?_
 refine rl (rld 50 rfl rfl rfl) ?_
 refine rl (rfa 6) ?_
 refine rl (rld 50 rfl rfl rfl) ?_
 refine rl (rfa 7) ?_
 refine rl (rld 50 rfl rfl rfl) ?_
 refine rl (rfa 8) ?_
 refine rl (rld 50 rfl rfl rfl) ?_
 refine rl (rfa 9) ?_
 refine rl (rld 50 rfl rfl rfl) ?_
 refine rl (rfa 10) ?_
 refine rl (rld 50 rfl rfl rfl) ?_
 refine rl (rfa 11) ?_
 refine rl (rld 50 rfl rfl rfl) ?_
 refine rl (rfa 12) ?_
 refine rl (rld 50 rfl rfl rfl) ?_
 refine rl (rfa 14) ?_
 refine rl (rld 50 rfl rfl rfl) ?_
 refine rl (rfa 15) ?_
 refine rl (rld 50 rfl rfl rfl) ?_
 refine rl (rfa 16) ?_
 refine rl (rld 50 rfl rfl rfl) ?_
 refine rl (rfa 17) ?_
 refine rl (rld 50 rfl rfl rfl) ?_
 refine rl (gP (vs := [(0, .int .u8 r.freq), (1, .bool r.hasStart), (2, iV r.start), (3, iV r.interval), (4, iV r.wkst), (5, iV r.count), (6, .bool r.hasUntil), (7, iV r.untl), (8, .slice x.p9 (r.setpos).length x.c9), (9, .slice x.p10 (r.month).length x.c10), (10, .slice x.p11 (r.mday).length x.c11), (11, .slice x.p12 (r.yday).length x.c12), (12, .slice x.p13 (r.weekno).length x.c13), (14, .slice x.p15 (r.hour).length x.c15), (15, .slice x.p16 (r.minute).length x.c16), (16, .slice x.p17 (r.second).length x.c17), (17, .slice x.p18 (r.easter).length x.c18)]) (v := .agg (bC { r with wday := [] } { x with p14 := none, c14 := 0 }).toArray) rfl kW) ?_
 refine gL (alo 52 (cs := zL1) kR rfl (fun b3 hb3 => ?_))
 refine gL (cA 52 (cs := (bC { r with wday := [] } { x with p14 := none, c14 := 0 }).toArray) rfl rfl rfl rfl kR rfl ble ?_)
 refine g5 ?_
 refine rl (rfa 13) ?_
 refine rZ5 (rld 50 rfl rfl rfl) ?_
 refine bJ (ι := (Nat) × (Option Addr) × (Nat) × (Nat) × (List Value)) (fun | ⟨k, p, c, n, xs⟩ => r.wday.length - k) (fun | ⟨k, p, c, n, xs⟩ => (k ≤ r.wday.length) ∧ (n = k) ∧ (xs = eI (r.wday.take k))) (fun | ⟨k, p, c, n, xs⟩ => [(1, pT b1), (2, pT b2), (3, pT b3), (42, .slice x.p14 r.wday.length x.c14), (43, iV (r.wday.length)), (44, iV k)]) (fun | ⟨k, p, c, n, xs⟩ => [(52, b3), (51, b2), (50, b1)]) (fun | ⟨k, p, c, n, xs⟩ => (ky 52 13, .slice p n c) :: (cX 52 0 (bC { r with wday := [] } { x with p14 := none, c14 := 0 }).toArray.toList (aC 52 0 zL1 ++ (aC 51 0 zL1 ++ (aC 50 0 (bC r x) ++ []))))) (fun | ⟨k, p, c, n, xs⟩ => [(11, ⟨.slice p n c, 69, 2, n, xs⟩)]) ⟨0, none, 0, 0, []⟩ ⟨Nat.zero_le _, rfl, rfl⟩ kns (fun w s => by exact (Sees.aJ6 (s.to (fun _ _ h => h) (fun k o v ho h => (by rcases bB h with ⟨e, rfl⟩ | ⟨_, h⟩; { obtain ⟨rfl, rfl⟩ := gK ho dE e; exact ⟨rfl, rfl⟩ }; exact ⟨h, by obtain ⟨b, e, _⟩ := s.cells k o v ho h; rw [e]; rfl⟩)) (fun _ _ h => h)) 11 69 2)) ?_
 rintro ⟨k, p, c, n, xs⟩ ⟨hk, hn, hx⟩
 show GC _ _ _ _ [(1, pT b1), (2, pT b2), (3, pT b3), (42, .slice x.p14 r.wday.length x.c14), (43, iV (r.wday.length)), (44, iV k)] _ _ ([(52, b3), (51, b2), (50, b1)]) ((ky 52 13, .slice p n c) :: (cX 52 0 (bC { r with wday := [] } { x with p14 := none, c14 := 0 }).toArray.toList (aC 52 0 zL1 ++ (aC 51 0 zL1 ++ (aC 50 0 (bC r x) ++ []))))) ([(11, ⟨.slice p n c, 69, 2, n, xs⟩)])
 refine g6 ?_
 refine aB rfl (fun hc1 => ?_) (fun hc2 => ?_)
 ·have hlt : k < r.wday.length := by have := oT hc1; omega
  obtain ⟨y, hy⟩ : ∃ y, r.wday[k]? = some y := ⟨_, List.getElem?_eq_getElem hlt⟩
  obtain ⟨b_, o_, hp0, hca, hcb⟩ := hID k y hy
  refine g6 ?_
  refine rl (aF (e := 47) (n := 2) kR (congrArg (fun p => some (Value.slice p _ _)) hp0) rfl oM oM) ?_
  refine rl (gT rfl (by rw [← hca]; congr 2; omega) (by rw [← hcb]; congr 2; omega) (fun h => h) kR) ?_
  refine gL (alo 53 (cs := [iV 0, iV 0]) kR rfl (fun b4 hb4 => ?_))
  refine gL (sta 53 rfl rfl rfl rfl ?_)
  refine g3 ?_
  refine rl (rfa 13) ?_
  refine rl (rld 52 rfl rfl rfl) ?_
  refine rl (aV 53 rfl rfl rfl rfl kR dE) ?_
  refine gL (dK 60 (e := 69) (sz := 2) (by_ := 16) (zs := [iV 0, iV 0]) dE kR rfl dE dE rfl rfl rfl (fun bo => ?_))
  refine gL (cU 11 60 (e := 69) (sz := 2) (by_ := 16) (zs := [iV 0, iV 0]) dE kR rfl dE rfl rfl rfl rfl ⟨rfl, rfl⟩ ⟨rfl, rfl⟩ (fun u hu => by have hu : u ∈ [iV y.1, iV y.2] := hu; rcases List.mem_cons.1 hu with rfl | hu; rfl; rcases List.mem_cons.1 hu with rfl | hu; rfl; cases hu) sO sO (fun p' c' => ?_))
  refine rl (rfa 13) ?_
  refine gL (sto 52 rfl rfl rfl rfl ?_)
  refine g7 ?_
  refine aQ ⟨k + 1, p', c', n + 1, xs ++ [iV y.1, iV y.2]⟩ sO ⟨by omega, by omega, by rw [hx, List.take_add_one, hy]; simp [eI]⟩ kns (fun w s => by exact (s.low 53 (⟨fun k hk => by repeat (first | rfl | rw [aA oM]), fun k hk o ho => by repeat (first | rw [aK oM ho _ _ ble] | rw [cT oM ho _ _ ble] | rw [cH oM ho dE] | rfl), fun k hk => by repeat (first | rfl | rw [aA oM])⟩) agx agx agx))
 ·obtain rfl : k = r.wday.length := by have := oF hc2; omega
  rw [List.take_length] at hx
  subst hx hn
  refine g7 ?_
  refine rl ((dP 52 (cs := (bC r { x with p14 := p, c14 := c })) rfl rfl (fun i u h => by have hlt_ : i < 18 := (List.getElem?_eq_some_iff.1 h).1; rcases i with _|_|_|_|_|_|_|_|_|_|_|_|_|_|_|_|_|_|i <;> first | exact h | omega) ble kR)) ?_
  refine gL (cA 51 (cs := (bC r { x with p14 := p, c14 := c }).toArray) rfl rfl rfl rfl kR rfl ble ?_)
  refine g3 ?_
  exact aT (.inl rfl) rfl (jX 51 (cs := (bC r { x with p14 := p, c14 := c })) rfl rfl (fun i v h => by have := aN (j := 51) (bC r { x with p14 := p, c14 := c }) 0 (H := (ky 52 13, .slice p r.wday.length c) :: (cX 52 0 (bC { r with wday := [] } { x with p14 := none, c14 := 0 }).toArray.toList (aC 52 0 zL1 ++ (aC 51 0 zL1 ++ (aC 50 0 (bC r x) ++ []))))) ble i v h; rwa [Nat.zero_add] at this) ble kR) fun w_ s_ => ⟨p, c, rfl, s_.toNew (k := 11) rfl⟩
theorem vJ {r : Rul} (h : LenL r) : LenL (aZ r) := by
 have h4 : ∀ r, LenL r → LenL (gH r) := fun r h => by
  unfold gH; split
  ·exact ⟨h.l9, h.l10, h.l11, h.l12, h.l13, h.l14, h.l15, h.l16, by simp, h.l18⟩
  ·exact h
 have h3 : ∀ r, LenL r → LenL (eV r) := fun r h => by
  unfold eV; split
  ·exact ⟨h.l9, h.l10, h.l11, h.l12, h.l13, h.l14, h.l15, by simp, h.l17, h.l18⟩
  ·exact h
 have h2 : ∀ r, LenL r → LenL (eO r) := fun r h => by
  unfold eO; split
  ·exact ⟨h.l9, h.l10, h.l11, h.l12, h.l13, h.l14, by simp, h.l16, h.l17, h.l18⟩
  ·exact h
 have h1 : LenL (eN r) := by
  unfold eN
  split
  ·split
   ·exact ⟨h.l9, by simp only; split; simp; exact h.l10, by simp, h.l12, h.l13, h.l14, h.l15, h.l16, h.l17, h.l18⟩
   ·split
    ·exact ⟨h.l9, h.l10, by simp, h.l12, h.l13, h.l14, h.l15, h.l16, h.l17, h.l18⟩
    ·split
     ·exact ⟨h.l9, h.l10, h.l11, h.l12, h.l13, by simp, h.l15, h.l16, h.l17, h.l18⟩
     ·exact h
  ·exact h
 exact h4 _ (h3 _ (h2 _ h1))
theorem kV {r : Rul} (rp : RightP r) (hf : 2 ≤ r.freq) : r.yday.length = 0 ∧ r.weekno.length = 0 ∧ r.easter.length = 0 := by
 obtain ⟨h1, h2⟩ := rp.t5.1 oM
 refine ⟨h2, h1, ?_⟩
 rcases Nat.eq_zero_or_pos r.easter.length with h | h
 ·exact h
 ·have := (rp.t4 0 _ (List.getElem?_eq_getElem h)).2.2.1
  omega
theorem aHp {r : Rul} (hf : 2 ≤ r.freq ∧ r.freq ≤ 6) (h0 : r.yday.length = 0 ∧ r.weekno.length = 0 ∧ r.easter.length = 0) (hl : LenL r) : aB8 (aZ r) (cW (aZ r)) := fun x2 day hd w hin => by
 obtain ⟨e1, e2, e3, e4, e5, e6, e7, e8, e9⟩ := dG r
 exact wB (aZ r) x2 day hd (by rw [e2]; exact hf) (by rw [e7]; exact h0.1) (by rw [e8]; exact h0.2.1) (by rw [e9]; exact h0.2.2) (vJ hl) w hin
end
end Go.Proofs.YtdbbifbmkfmbkaaGreat
namespace Go.Proofs.YtdbbifbmkfmbkaaGreat
open Go.Md Go.Tab
theorem aAa {r : Ru} {s : It} (hk : ItOk r s) (hrem : s.rem = []) : ItOk r (out r s) where
 y := by rw [(dH r s).y]; exact hk.y
 ly := by rw [(dH r s).ly, (dH r s).y]; exact hk.ly
 mo := by rw [(dH r s).mo]; exact hk.mo
 d := by rw [(dH r s).d]; exact hk.d
 day := by rw [(dH r s).d, (dH r s).mo, (dH r s).y]; exact hk.day
 wd := by rw [(dH r s).wd]; exact hk.wd
 hr := by rw [(dH r s).h]; exact hk.hr
 mn := by rw [(dH r s).mi]; exact hk.mn
 sec := by rw [(dH r s).s]; exact hk.sec
 ts := by rw [(dH r s).ts]; exact hk.ts
 tsn := by rw [(dH r s).ts]; exact hk.tsn
 total := by
  have h := vL r s
  have h2 := hk.total
  rw [hrem] at h h2
  simp only [List.length_nil] at h h2
  omega
 count := wM r s hk.count
 wno := by rw [(dH r s).wno, (dH r s).ly]; exact hk.wno
 nwm := by rw [(dH r s).nwm, (dH r s).ly, (dH r s).lm]; exact hk.nwm
 eas := by rw [(dH r s).eas, (dH r s).ly]; exact hk.eas
 lm := by rw [(dH r s).lm, (dH r s).mo]; exact hk.lm
 meet := fun h b => by rw [j7 (dH r s).h (dH r s).mi (dH r s).s]; exact hk.meet h b
structure Msk (r : Ru) (s : It) : Prop where
 wno : s.wno = r.wnoF s.ly
 nwm : s.nwm = r.nwmF s.ly s.lm
 eas : s.eas = r.easF s.ly
theorem aCk {r : Ru} {s : It} (h : Msk r s) (y m : Int) : Msk r (reb r s y m) where
 wno := by
  unfold reb; simp only
  split
  ·rename_i e; rw [h.wno, e]
  ·rfl
 nwm := by
  unfold reb; simp only
  split
  ·rename_i e; rw [h.nwm, e.1, e.2]
  ·rfl
 eas := rfl
structure Rest (s o : It) : Prop where
 h : o.h = s.h
 mi : o.mi = s.mi
 sec : o.s = s.s
 wd : o.wd = s.wd
 ts : o.ts = s.ts
 total : o.total = s.total
 count : o.count = s.count
 rem : o.rem = s.rem
theorem Rest.refl (s : It) : Rest s s := ⟨rfl, rfl, rfl, rfl, rfl, rfl, rfl, rfl⟩
theorem sU {r : Ru} : ∀ (n : Nat) (s : It), 1 ≤ s.d → s.d ≤ n → (1 ≤ s.mo ∧ s.mo ≤ 12) → (1 ≤ s.y ∧ s.y ≤ 9999) → Msk r s → (d9 r n s).fin = false →
  (1 ≤ (d9 r n s).d ∧ (d9 r n s).d ≤ Cal.mdays (d9 r n s).mo (d9 r n s).y) ∧ (1 ≤ (d9 r n s).mo ∧ (d9 r n s).mo ≤ 12) ∧ (1 ≤ (d9 r n s).y ∧ (d9 r n s).y ≤ 9999) ∧ (d9 r n s).ly = (d9 r n s).y ∧ (d9 r n s).lm = (d9 r n s).mo ∧ Msk r (d9 r n s) ∧ Rest s (d9 r n s)
 | 0, s, h1, h2, _, _, _, _ => by omega
 | n + 1, s, h1, h2, hm, hy, hk, hf => by
  have hmd := Cal.mdays_bd s.mo s.y
  unfold d9 at hf ⊢
  by_cases hd : s.d ≤ Cal.mdays s.mo s.y
  ·rw [if_pos hd] at hf ⊢
   exact ⟨⟨h1, hd⟩, hm, hy, rfl, rfl, aCk hk _ _, ⟨rfl, rfl, rfl, rfl, rfl, rfl, rfl, rfl⟩⟩
  ·rw [if_neg hd] at hf ⊢
   by_cases h13 : s.mo + 1 = 13
   ·rw [if_pos h13] at hf ⊢
    by_cases hb : 9999 < s.y + 1
    ·rw [if_pos hb] at hf; cases hf
    ·rw [if_neg hb] at hf ⊢
     obtain ⟨a1, a2, a3, a4, a5, a6, a7⟩ := sU (r := r) n { s with d := s.d - Cal.mdays s.mo s.y, mo := 1, y := s.y + 1 } sO sO sO sO ⟨hk.wno, hk.nwm, hk.eas⟩ hf
     exact ⟨a1, a2, a3, a4, a5, a6, ⟨a7.h, a7.mi, a7.sec, a7.wd, a7.ts, a7.total, a7.count, a7.rem⟩⟩
   ·rw [if_neg h13] at hf ⊢
    obtain ⟨a1, a2, a3, a4, a5, a6, a7⟩ := sU (r := r) n { s with d := s.d - Cal.mdays s.mo s.y, mo := s.mo + 1 } sO sO sO hy ⟨hk.wno, hk.nwm, hk.eas⟩ hf
    exact ⟨a1, a2, a3, a4, a5, a6, ⟨a7.h, a7.mi, a7.sec, a7.wd, a7.ts, a7.total, a7.count, a7.rem⟩⟩
theorem xH {r : Ru} {s : It} (h1 : 1 ≤ s.d) (hm : 1 ≤ s.mo ∧ s.mo ≤ 12) (hy : 1 ≤ s.y ∧ s.y ≤ 9999) (hly : s.ly = s.y) (hk : Msk r s) (hf : (fix r s).fin = false) :
  (1 ≤ (fix r s).d ∧ (fix r s).d ≤ Cal.mdays (fix r s).mo (fix r s).y) ∧ (1 ≤ (fix r s).mo ∧ (fix r s).mo ≤ 12) ∧ (1 ≤ (fix r s).y ∧ (fix r s).y ≤ 9999) ∧ (fix r s).ly = (fix r s).y ∧ Msk r (fix r s) ∧ Rest s (fix r s) := by
 have hmd := Cal.mdays_bd s.mo s.y
 unfold fix at hf ⊢
 split at hf
 ·rename_i h
  rw [if_pos h]
  exact ⟨⟨h1, by omega⟩, hm, hy, hly, hk, Rest.refl s⟩
 ·rename_i h
  rw [if_neg h]
  obtain ⟨a1, a2, a3, a4, a5, a6, a7⟩ := sU (r := r) s.d.toNat s h1 oM hm hy hk hf
  exact ⟨a1, a2, a3, a4, a6, a7⟩
theorem tJ {r : Ru} (hr : RuOk r) (hfq : r.freq = 0 ∨ r.freq = 2 ∨ r.freq = 3) : vA r := by
 intro s hk hrem hfin hf
 have ho := aAa hk hrem
 have hof : (out r s).fin = false := by
  cases h : (out r s).fin with
  | false => rfl
  | true => rw [qD h, h] at hf; cases hf
 rw [l7 hof] at hf ⊢
 have hiv := hr.interval
 have hwk := hr.wkst
 have hmk : Msk r (out r s) := ⟨ho.wno, ho.nwm, ho.eas⟩
 have hy := ho.y
 have hd := ho.d
 have hwd := ho.wd
 have fixed : ∀ s2 : It, (1 ≤ s2.d) → s2.mo = (out r s).mo → s2.y = (out r s).y → s2.ly = (out r s).ly → s2.lm = (out r s).lm → s2.wno = (out r s).wno → s2.nwm = (out r s).nwm → s2.eas = (out r s).eas → (0 ≤ s2.wd ∧ s2.wd ≤ 6) → s2.h = (out r s).h → s2.mi = (out r s).mi → s2.s = (out r s).s → s2.ts = (out r s).ts → s2.total = (out r s).total → s2.count = (out r s).count → s2.rem = (out r s).rem → r.freq ≠ 1 → (fix r s2).fin = false → ItOk r (fix r s2) := by
  intro s2 h1 e1 e2 e3 e4 e5 e6 e7 e8 e9 e10 e11 e12 e13 e14 e15 e16 hf2
  obtain ⟨a1, a2, a3, a4, a5, a6⟩ := xH (r := r) (s := s2) h1 (by rw [e1]; exact ho.mo) (by rw [e2]; exact ho.y) (by rw [e3, e2]; exact ho.ly) ⟨by rw [e5, e3]; exact ho.wno, by rw [e6, e3, e4]; exact ho.nwm, by rw [e7, e3]; exact ho.eas⟩ hf2
  have hmd := Cal.mdays_bd (fix r s2).mo (fix r s2).y
  exact ⟨a3, a4, a2, ⟨a1.1, by omega⟩, fun _ => a1.2, by rw [a6.wd]; exact e8, by rw [a6.h, e9]; exact ho.hr, by rw [a6.mi, e10]; exact ho.mn, by rw [a6.sec, e11]; exact ho.sec, by rw [a6.ts, e12]; exact ho.ts, by rw [a6.ts, e12]; exact ho.tsn, by rw [a6.total, a6.rem, e13, e15]; exact ho.total, by rw [a6.count, e14]; exact ho.count, a5.wno, a5.nwm, a5.eas, fun h => absurd h e16, fun h => absurd h (by rcases hfq with h | h | h <;> omega)⟩
 unfold adv at hf ⊢
 rcases hfq with hq | hq | hq
 ·rw [if_pos hq] at hf ⊢
  by_cases hb : 9999 < (out r s).y + r.interval
  ·rw [if_pos hb] at hf; cases hf
  ·rw [if_neg hb] at hf ⊢
   have hm := aCk (s := { out r s with y := (out r s).y + r.interval }) ⟨hmk.wno, hmk.nwm, hmk.eas⟩ ((out r s).y + r.interval) (out r s).mo
   exact ⟨by show 1 ≤ (out r s).y + r.interval ∧ (out r s).y + r.interval ≤ 9999; omega, rfl, ho.mo, ho.d, fun h => by omega, ho.wd, ho.hr, ho.mn, ho.sec, ho.ts, ho.tsn, ho.total, ho.count, hm.wno, hm.nwm, hm.eas, fun h => by omega, fun h => by omega⟩
 ·rw [if_neg oM, if_neg oM, if_pos hq] at hf ⊢
  refine fixed _ ?_ rfl rfl rfl rfl rfl rfl rfl hwk rfl rfl rfl rfl rfl rfl rfl oM hf
  simp only
  split <;> omega
 ·rw [if_neg oM, if_neg oM, if_neg oM, if_pos hq] at hf ⊢
  exact fixed _ sO rfl rfl rfl rfl rfl rfl rfl ho.wd rfl rfl rfl rfl rfl rfl rfl oM hf
theorem Gen.mono {r : Ru} {n : Nat} {s e : It} (h : Gen r n s e) : ∀ {m : Nat}, n ≤ m → Gen r m s e := by
 induction h with
 | done h => intro m _; exact .done h
 | fin h hf =>
  intro m hm
  obtain ⟨j, rfl⟩ : ∃ j, m = j + 1 := ⟨m - 1, by omega⟩
  exact .fin h hf
 | more h hf _ ih =>
  intro m hm
  obtain ⟨j, rfl⟩ : ∃ j, m = j + 1 := ⟨m - 1, by omega⟩
  exact .more h hf (ih oM)
theorem GenTo.mono {r : Ru} {n m : Nat} {s e : It} (h : GenTo r n s e) (hm : n ≤ m) : GenTo r m s e := by
 rcases h with h | ⟨h1, h2, h3⟩
 ·exact .inl h
 ·exact .inr ⟨h1, Gen.mono h2 hm, h3⟩
end Go.Proofs.YtdbbifbmkfmbkaaGreat
namespace Go.Proofs.YtdbbifbmkfmbkaaGreat
open Go.Md Go.Tab Go.Fr
def cr (c : Int) (o : List Int) (s : It) : Prop := (c = 0 → s.count = 0) ∧ (0 < c → s.count = c - o.length ∧ (o.length : Int) < c)
theorem iZ (r : Ru) (s : It) (t : Int) (l : List Int) : dB r s (t :: l) = dB r (f7 r s t) l := rfl
theorem aBv {r : Ru} {c : Int} {o : List Int} {s : It} {t : Int} (hc : 0 ≤ c) (h : cr c (o ++ s.rem) s) (hf : (f7 r s t).fin = false) : cr c (o ++ (f7 r s t).rem) (f7 r s t) := by
 by_cases h1 : s.fin = true
 ·rw [tL h1]; exact h
 have h1 : s.fin = false := by simpa using h1
 by_cases h2 : r.u0 < t
 ·rw [lD h1 h2] at hf ⊢; cases hf
 by_cases h3 : t < r.d0
 ·rw [mK h1 h2 h3]; exact h
 by_cases h4 : s.count = 0
 ·rw [mA h1 h2 h3 h4]
  refine ⟨fun _ => h4, fun h0 => ?_⟩
  obtain ⟨a, b⟩ := h.2 h0
  omega
 ·rw [lE h1 h2 h3 h4] at hf ⊢
  refine ⟨fun h0 => absurd (h.1 h0) h4, fun h0 => ?_⟩
  obtain ⟨a, b⟩ := h.2 h0
  have : s.count - 1 ≠ 0 := by simpa using hf
  simp only [List.length_append, List.length_singleton] at a b ⊢
  omega
theorem uI {r : Ru} {c : Int} {o : List Int} (hc : 0 ≤ c) : ∀ (l : List Int) (s : It), cr c (o ++ s.rem) s → (dB r s l).fin = false → cr c (o ++ (dB r s l).rem) (dB r s l)
 | [], s, h, _ => h
 | t :: l, s, h, hf => by
  rw [iZ] at hf ⊢
  refine uI hc l _ (aBv hc h ?_) hf
  cases he : (f7 r s t).fin with
  | false => rfl
  | true => rw [jQ he, he] at hf; cases hf
theorem aDy (r : Ru) (s : It) (t : Int) : ∃ x, (f7 r s t).rem = s.rem ++ x ∧ x.length ≤ 1 := by
 unfold f7
 split
 ·exact ⟨[], by simp, by simp⟩
 ·split
  ·exact ⟨[], by simp, by simp⟩
  ·split
   ·exact ⟨[], by simp, by simp⟩
   ·split <;> exact ⟨[t], rfl, by simp⟩
theorem qS (r : Ru) : ∀ (l : List Int) (s : It), ∃ x, (dB r s l).rem = s.rem ++ x ∧ x.length ≤ l.length
 | [], s => ⟨[], by simp [dB], by simp⟩
 | t :: l, s => by
  obtain ⟨x, h1, h3⟩ := aDy r s t
  obtain ⟨y, h2, h4⟩ := qS r l (f7 r s t)
  exact ⟨x ++ y, by rw [iZ, h2, h1, List.append_assoc], by simp only [List.length_append, List.length_cons]; omega⟩
theorem fP {c st en most t : Int} {o l : List Int} : cI c st en most o (t :: l) = if t < st then cI c st en most o l else if (o.length : Int) = most ∨ (0 < c ∧ (o.length : Int) = c) ∨ en < t then (o, false) else cI c st en most (o ++ [t]) l := by rw [cI]
theorem sT {c st en most : Int} : ∀ (l o : List Int), 0 < c → (o.length : Int) = c → (cI c st en most o l).1 = o
 | [], o, _, _ => rfl
 | t :: l, o, h0, h => by
  rw [fP]
  split
  ·exact sT l o h0 h
  ·rw [if_pos (.inr (.inl ⟨h0, h⟩))]
theorem nW {r : Ru} {c most : Int} (hc : 0 ≤ c) (hd : r.d0 ≤ r.u0) (o : List Int) : ∀ (l : List Int) (s : It), s.fin = false → ((o ++ s.rem).length : Int) ≤ most → cr c (o ++ s.rem) s →
  (cI c r.d0 r.u0 most (o ++ s.rem) l).1 = (o ++ (dB r s l).rem).take most.toNat ∧
  ((cI c r.d0 r.u0 most (o ++ s.rem) l).2 = true → (cI c r.d0 r.u0 most (o ++ s.rem) l).1 = o ++ (dB r s l).rem ∧ ((dB r s l).fin = true → 0 < c ∧ ((o ++ (dB r s l).rem).length : Int) = c)) ∧
  ((cI c r.d0 r.u0 most (o ++ s.rem) l).2 = false → ((cI c r.d0 r.u0 most (o ++ s.rem) l).1.length : Int) = most ∨ ((dB r s l).fin = true ∧ (cI c r.d0 r.u0 most (o ++ s.rem) l).1 = o ++ (dB r s l).rem))
 | [], s, hf, hm, _ => by
  refine ⟨?_, fun _ => ⟨rfl, fun h => ?_⟩, fun h => (by cases h)⟩
  ·show o ++ s.rem = (o ++ s.rem).take most.toNat
   rw [List.take_of_length_le oM]
  ·rw [show (dB r s []).fin = s.fin from rfl, hf] at h; cases h
 | t :: l, s, hf, hm, hr => by
  by_cases h3 : t < r.d0
  ·have e : f7 r s t = s := mK hf oM h3
   rw [iZ, e, show cI c r.d0 r.u0 most (o ++ s.rem) (t :: l) = cI c r.d0 r.u0 most (o ++ s.rem) l by rw [fP, if_pos h3]]
   exact nW hc hd o l s hf hm hr
  ·have ea : cI c r.d0 r.u0 most (o ++ s.rem) (t :: l) = if ((o ++ s.rem).length : Int) = most ∨ (0 < c ∧ ((o ++ s.rem).length : Int) = c) ∨ r.u0 < t then (o ++ s.rem, false) else cI c r.d0 r.u0 most (o ++ s.rem ++ [t]) l := by rw [fP, if_neg h3]
   by_cases h5 : ((o ++ s.rem).length : Int) = most
   ·rw [ea, if_pos (.inl h5)]
    obtain ⟨x, hx, _⟩ := qS r (t :: l) s
    refine ⟨?_, fun h => (by cases h), fun _ => .inl h5⟩
    rw [hx, ← List.append_assoc, List.take_append_of_le_length oM, List.take_of_length_le oM]
   ·by_cases h2 : r.u0 < t
    ·rw [ea, if_pos (.inr (.inr h2)), iZ, lD hf h2, jQ rfl]
     refine ⟨?_, fun h => (by cases h), fun _ => .inr ⟨rfl, rfl⟩⟩
     rw [List.take_of_length_le sO]
    ·have h6 : ¬ (0 < c ∧ ((o ++ s.rem).length : Int) = c) := fun h => by have := (hr.2 h.1).2; omega
     rw [ea, if_neg (by rintro (h | h | h); exact h5 h; exact h6 h; exact h2 h), iZ]
     have hrem : (f7 r s t).rem = s.rem ++ [t] := by
      by_cases h4 : s.count = 0
      ·rw [mA hf h2 h3 h4]
      ·rw [lE hf h2 h3 h4]
     have hl : ((o ++ (f7 r s t).rem).length : Int) ≤ most := by rw [hrem, ← List.append_assoc]; simp only [List.length_append, List.length_singleton] at *; omega
     rw [List.append_assoc, ← hrem]
     by_cases hf2 : (f7 r s t).fin = false
     ·exact nW hc hd o l _ hf2 hl (aBv hc hr hf2)
     ·have hf2 : (f7 r s t).fin = true := by simpa using hf2
      rw [jQ hf2]
      have h4 : s.count ≠ 0 := fun h4 => by rw [mA hf h2 h3 h4] at hf2; exact absurd hf2 (by rw [hf]; decide)
      have hk : s.count - 1 = 0 := by rw [lE hf h2 h3 h4] at hf2; simpa using hf2
      have hc0 : 0 < c := by
       rcases Int.lt_or_eq_of_le hc with h | h
       ·exact h
       ·exact absurd (hr.1 h.symm) h4
      have hlc : ((o ++ (f7 r s t).rem).length : Int) = c := by rw [hrem]; have := hr.2 hc0; simp only [List.length_append, List.length_singleton] at *; omega
      have e1 := sT (st := r.d0) (en := r.u0) (most := most) l (o ++ (f7 r s t).rem) hc0 hlc
      rw [e1, List.take_of_length_le oM]
      exact ⟨rfl, fun _ => ⟨rfl, fun _ => ⟨hc0, hlc⟩⟩, fun _ => .inr ⟨hf2, rfl⟩⟩
theorem o7 {r : Ru} (hd : r.u0 < r.d0) : ∀ (l : List Int) (s : It), (dB r s l).rem = s.rem
 | [], s => rfl
 | t :: l, s => by
  rw [iZ, o7 hd l]
  unfold f7
  split
  ·rfl
  ·split
   ·rfl
   ·rw [if_pos oM]
theorem jU {c st en most : Int} (hd : en < st) : ∀ (l o : List Int), (cI c st en most o l).1 = o
 | [], o => rfl
 | t :: l, o => by
  rw [fP]
  split
  ·exact jU hd l o
  ·rw [if_pos (.inr (.inr oM))]
theorem s6 {r : Ru} {c most : Int} (hd : r.u0 < r.d0) : ∀ (l : List Int) (s : It) (o : List Int), (o.length : Int) < most → (0 < c → (o.length : Int) < c) → (cI c r.d0 r.u0 most o l).2 = false → (dB r s l).fin = true
 | [], s, o, _, _, h => by cases h
 | t :: l, s, o, hm, hc, h => by
  rw [iZ]
  cases hf : (f7 r s t).fin with
  | true => rw [jQ hf]; exact hf
  | false =>
   rw [fP] at h
   split at h
   ·exact s6 hd l _ o hm hc h
   ·exfalso
    have h1 : s.fin = false := by
     cases h1 : s.fin with
     | false => rfl
     | true => rw [tL h1, h1] at hf; cases hf
    rw [lD h1 oM] at hf; cases hf
theorem vW {r : Ru} {q : Rul} {most : Int} {o L1 L2 l : List Int} {s : It} (hc : 0 ≤ q.count) (hst : r.d0 = q.start) (hl : dJ l q.setpos = L1 ++ L2) (h1 : ∀ t ∈ L1, t < r.d0) (hf : s.fin = false) (hrem : s.rem = []) (hm : (o.length : Int) < most) (hr : cr q.count o s) :
  ((dS q q.start r.u0 most o l).2 = true → (dS q q.start r.u0 most o l).1 = o ++ (dB r s L2).rem ∧ ((o ++ (dB r s L2).rem).length : Int) < most ∧ ((dB r s L2).fin = true → r.u0 < r.d0)) ∧
  ((dS q q.start r.u0 most o l).2 = false → (dS q q.start r.u0 most o l).1 = (o ++ (dB r s L2).rem).take most.toNat ∧ (((o ++ (dB r s L2).rem).take most.toNat).length = most ∨ (dB r s L2).fin = true)) ∧
  ((dB r s L2).fin = false → cr q.count (o ++ (dB r s L2).rem) (dB r s L2)) := by
 have hgo : ∀ (L1 : List Int), (∀ t ∈ L1, t < r.d0) → cI q.count r.d0 r.u0 most o (L1 ++ L2) = cI q.count r.d0 r.u0 most o L2 := by
  intro L1
  induction L1 with
  | nil => intro _; rfl
  | cons t L1 ih =>
   intro h
   show cI _ _ _ _ _ (t :: (L1 ++ L2)) = _
   rw [fP, if_pos (h t (List.mem_cons_self ..))]
   exact ih fun u hu => h u (List.mem_cons_of_mem _ hu)
 have he : o ++ s.rem = o := by rw [hrem, List.append_nil]
 refine ⟨fun h => ?_, fun h => ?_, fun h => uI hc L2 s (by rw [he]; exact hr) h⟩
 all_goals
  unfold dS at h ⊢
  rw [hl, ← hst, hgo L1 h1] at h ⊢
  simp only at h ⊢
 ·rw [Bool.and_eq_true] at h
  obtain ⟨h2, h3⟩ := h
  unfold iU at h3
  rw [Bool.and_eq_true] at h3
  have h4 := oT h3.1
  rcases Int.lt_or_le r.u0 r.d0 with hd | hd
  ·rw [jU hd] at h4 ⊢
   rw [o7 hd, he]
   exact ⟨rfl, h4, fun _ => hd⟩
  ·obtain ⟨a1, a2, a3⟩ := nW (most := most) hc hd o L2 s hf (by rw [he]; omega) (by rw [he]; exact hr)
   rw [he] at a1 a2 a3
   obtain ⟨b1, b2⟩ := a2 h2
   rw [b1] at h4 h3 ⊢
   refine ⟨rfl, h4, fun h5 => ?_⟩
   obtain ⟨c1, c2⟩ := b2 h5
   have := h3.2
   rw [c2] at this
   simp at this; omega
 ·rcases Int.lt_or_le r.u0 r.d0 with hd | hd
  ·rw [jU hd, o7 hd, he, List.take_of_length_le oM]
   refine ⟨rfl, .inr ?_⟩
   have hcl : 0 < q.count → (o.length : Int) < q.count := fun h0 => (hr.2 h0).2
   refine s6 hd L2 s o hm hcl ?_
   rw [jU hd] at h
   cases h2 : (cI q.count r.d0 r.u0 most o L2).2 with
   | false => rfl
   | true =>
    exfalso
    rw [h2] at h
    unfold iU at h
    rw [decide_eq_true hm] at h
    simp at h
    have := hcl oM
    omega
  ·obtain ⟨a1, a2, a3⟩ := nW (most := most) hc hd o L2 s hf (by rw [he]; omega) (by rw [he]; exact hr)
   rw [he] at a1 a2 a3
   have hlen := i6 q.count r.d0 r.u0 most L2 o oM
   refine ⟨a1, ?_⟩
   rw [← a1]
   cases h2 : (cI q.count r.d0 r.u0 most o L2).2 with
   | false =>
    rcases a3 h2 with h5 | h5
    ·exact .inl h5
    ·exact .inr h5.1
   | true =>
    obtain ⟨b1, b2⟩ := a2 h2
    rw [h2] at h
    unfold iU at h
    simp only [Bool.true_and, Bool.and_eq_false_iff, decide_eq_false_iff_not, Bool.or_eq_false_iff, beq_eq_false_iff_ne] at h
    rcases h with h | ⟨h5, h6⟩
    ·exact .inl oM
    ·refine .inr ?_
     cases hf2 : (dB r s L2).fin with
     | true => rfl
     | false =>
      have := (uI hc L2 s (by rw [he]; exact hr) hf2).2 oM
      rw [b1] at h6; omega
theorem aAy {r : Ru} {N : Nat} {s : It} {k : Nat} {l : List Int} (h : Tells r N s k l) {M : Nat} (hm : N ≤ M) : Tells r M s k l := by
 induction h with
 | zero => exact .zero
 | stop h hr => exact .stop (GenTo.mono h hm) hr
 | more h hr _ ih => exact .more (GenTo.mono h hm) hr ih
theorem aDx {r : Ru} {s : It} (h : ItOk r s) (ht : s.total ≤ 1000000000000) (p : List Int) : ItOk r { s with rem := p } := ⟨h.y, h.ly, h.mo, h.d, h.day, h.wd, h.hr, h.mn, h.sec, h.ts, h.tsn, ⟨h.total.1, by simp only; omega⟩, h.count, h.wno, h.nwm, h.eas, h.lm, fun hf b => (h.meet hf b).imp fun _ hk => ⟨(j7 (s := s) (o := { s with rem := p }) rfl rfl rfl).trans hk.1, hk.2⟩⟩
theorem aA6 {s : It} {p : List Int} (h : s.rem = p) : s = { s with rem := p } := by subst h; rfl
theorem aDw {r : Ru} {N : Nat} {s : It} (h : s.fin = true) (hr : s.rem = []) : ∀ k, Tells r N s k []
 | 0 => .zero
 | k + 1 => .stop (.inl ⟨h, rfl⟩) hr
theorem vG {r : Ru} {N : Nat} {k : Nat} {l : List Int} : ∀ (P : List Int) (s : It), s.rem = P → (s.fin = true ∨ ∀ p, ItOk r { s with rem := p }) → Tells r N { s with rem := [] } k l → Tells r N s (P.length + k) (P ++ l)
 | [], s, hp, _, h => by rw [aA6 hp, List.length_nil, Nat.zero_add]; exact h
 | t :: P, s, hp, hok, h => by
  rw [List.length_cons, Nat.add_right_comm]
  refine .more (e := s) ?_ (by rw [hp]; rfl) (vG P { s with rem := s.rem.tail } (by rw [hp]; rfl) hok h)
  cases hf : s.fin with
  | true => exact .inl ⟨hf, rfl⟩
  | false =>
   rcases hok with hok | hok
   ·rw [hf] at hok; cases hok
   ·exact .inr ⟨hf, .done (by rw [hp]; exact List.cons_ne_nil _ _), by have := hok s.rem; rwa [← aA6 rfl] at this⟩
theorem oV {r : Ru} {N : Nat} : ∀ (P : List Int) (s : It) (k : Nat), s.rem = P → (s.fin = true ∨ ((∀ p, ItOk r { s with rem := p }) ∧ k ≤ P.length)) → Tells r N s k (P.take k)
 | P, s, 0, _, _ => by rw [List.take_zero]; exact .zero
 | [], s, k + 1, hp, hok => by
  rcases hok with h | ⟨_, h⟩
  ·exact aDw h hp _
  ·simp at h
 | t :: P, s, k + 1, hp, hok => by
  rw [List.take_succ_cons]
  refine .more (e := s) ?_ (by rw [hp]; rfl) (oV P { s with rem := s.rem.tail } k (by rw [hp]; rfl) (hok.imp id fun h => ⟨h.1, by have := h.2; simp only [List.length_cons] at this; omega⟩))
  cases hf : s.fin with
  | true => exact .inl ⟨hf, rfl⟩
  | false =>
   rcases hok with hok | ⟨hok, _⟩
   ·rw [hf] at hok; cases hok
   ·exact .inr ⟨hf, .done (by rw [hp]; exact List.cons_ne_nil _ _), by have := hok s.rem; rwa [← aA6 rfl] at this⟩
theorem vP {r : Ru} {N : Nat} {s e : It} (hi : ItOk r s) (hf : s.fin = false) (hr : s.rem = []) (h : GenTo r N (dY r s) e) : GenTo r (N + 1) s e := by
 refine .inr ⟨hf, ?_, hi⟩
 rcases h with ⟨h, rfl⟩ | ⟨h, hg, _⟩
 ·exact .fin hr h
 ·exact .more hr h hg
theorem nE {r : Ru} {N : Nat} {s : It} {k : Nat} {l : List Int} (hi : ItOk r s) (hf : s.fin = false) (hr : s.rem = []) (h : Tells r N (dY r s) k l) : Tells r (N + 1) s k l := by
 cases h with
 | zero => exact .zero
 | stop h hr2 => exact .stop (vP hi hf hr h) hr2
 | more h hr2 ht => exact .more (vP hi hf hr h) hr2 (aAy ht (Nat.le_succ N))
structure Fits (r : Ru) (q : Rul) (dayF : Int → Bool) (R : Int → It → Prop) : Prop where
 over : ∀ k, 0 ≤ k → eK q k → eK q (k + 1)
 same : ∀ k s s', R k s → Same s s' → R k s'
 pos : ∀ k s, 0 ≤ k → R k s → ItOk r s → ¬eK q k → ∃ L1 L2, dJ (eJ q dayF k) q.setpos = L1 ++ L2 ∧ (∀ t ∈ L1, t < r.d0) ∧ out r s = dB r s L2
 adv : ∀ k s, 0 ≤ k → R k s → ItOk r s → ¬eK q k → s.fin = false → ∃ k', k < k' ∧ (∀ j, k < j → j < k' → eJ q dayF j = []) ∧ ((adv r (cO r s) s).fin = false → R k' (adv r (cO r s) s) ∧ ¬eK q k') ∧ ((adv r (cO r s) s).fin = true → eK q k')
theorem Fits.overs {r : Ru} {q : Rul} {dayF : Int → Bool} {R : Int → It → Prop} (h : Fits r q dayF R) {k : Int} (hk : 0 ≤ k) (ho : eK q k) : ∀ n : Nat, eK q (k + n)
 | 0 => by simpa using ho
 | n + 1 => by have := h.over _ oM (h.overs hk ho n); rwa [show k + ((n + 1 : Nat) : Int) = k + n + 1 by omega]
theorem aE7 (r : Ru) (b : Bool) (s : It) : (adv r b s).rem = s.rem ∧ (adv r b s).total = s.total ∧ (adv r b s).count = s.count := by
 have hg : ∀ (n : Nat) (s : It), (d9 r n s).rem = s.rem ∧ (d9 r n s).total = s.total ∧ (d9 r n s).count = s.count := by
  intro n
  induction n with
  | zero => intro s; exact ⟨rfl, rfl, rfl⟩
  | succ n ih =>
   intro s
   unfold d9
   split
   ·exact ⟨rfl, rfl, rfl⟩
   ·split
    ·split
     ·exact ⟨rfl, rfl, rfl⟩
     ·exact ih _
    ·exact ih _
 have hx : ∀ s : It, (fix r s).rem = s.rem ∧ (fix r s).total = s.total ∧ (fix r s).count = s.count := by
  intro s
  unfold fix
  split
  ·exact ⟨rfl, rfl, rfl⟩
  ·exact hg _ s
 have hs : ∀ t, (bS r.freq s t).rem = s.rem ∧ (bS r.freq s t).total = s.total ∧ (bS r.freq s t).count = s.count := fun t => by
  unfold bS
  split
  ·exact ⟨rfl, rfl, rfl⟩
  ·split <;> exact ⟨rfl, rfl, rfl⟩
 unfold adv
 split
 ·split <;> exact ⟨rfl, rfl, rfl⟩
 ·split
  ·have key : ∀ y mo : Int, (if 9999 < y then { s with y := y, mo := mo, fin := true } else reb r { s with y := y, mo := mo } y mo).rem = s.rem ∧ (if 9999 < y then { s with y := y, mo := mo, fin := true } else reb r { s with y := y, mo := mo } y mo).total = s.total ∧ (if 9999 < y then { s with y := y, mo := mo, fin := true } else reb r { s with y := y, mo := mo } y mo).count = s.count := fun y mo => by split <;> exact ⟨rfl, rfl, rfl⟩
   exact key _ _
  ·split
   ·exact hx _
   ·split
    ·exact hx _
    ·unfold aH1
     exact ⟨(hx _).1.trans (hs _).1, (hx _).2.1.trans (hs _).2.1, (hx _).2.2.trans (hs _).2.2⟩
theorem uY {r : Ru} {s o : It} (h : Same s o) : cO r o = cO r s := by
 have hs : aW r o = aW r s := by unfold aW; rw [h.ly, h.mo, h.y, h.d]
 unfold cO
 rw [hs]
 congr 1
 funext k
 exact h.bad _
theorem pK {q : Rul} {st en most : Int} {o : List Int} (h1 : (o.length : Int) < most) (h2 : 0 < q.count → (o.length : Int) < q.count) (hc : 0 ≤ q.count) : dS q st en most o [] = (o, true) := by
 have e : dJ [] q.setpos = [] := by unfold dJ; split <;> rfl
 unfold dS
 rw [e]
 show (o, true && iU q.count most o.length) = _
 unfold iU
 rw [decide_eq_true h1]
 rcases Int.lt_or_eq_of_le hc with h | h
 ·rw [decide_eq_true (h2 h)]; simp
 ·rw [← h]; rfl
theorem z0 {q : Rul} {dayF : Int → Bool} {en most : Int} (hc : 0 ≤ q.count) {k : Int} {o l : List Int} (h : DatesP q dayF en most k o l) : ∀ k', k ≤ k' → (∀ j, k ≤ j → j < k' → eJ q dayF j = []) → eK q k' → (o.length : Int) < most → (0 < q.count → (o.length : Int) < q.count) → l = o := by
 induction h with
 | over _ => intros; rfl
 | @stop k o h hs =>
  intro k' hk he ho h1 h2
  by_cases e : k = k'
  ·subst e; exact absurd ho h
  ·rw [he k oM oM, pK h1 h2 hc] at hs; cases hs
 | @more k o l h hs hn ih =>
  intro k' hk he ho h1 h2
  by_cases e : k = k'
  ·subst e; exact absurd ho h
  ·rw [he k oM oM, pK h1 h2 hc] at ih
   exact ih k' oM (fun j h3 h4 => he j oM h4) ho h1 h2
theorem aA5 {q : Rul} {dayF : Int → Bool} {en most : Int} {k : Int} {o l : List Int} (h : DatesP q dayF en most k o l) (hd : en < q.start) : l = o := by
 induction h with
 | over _ => rfl
 | stop h hs => unfold dS; exact jU hd _ _
 | more h hs hn ih => rw [ih]; unfold dS; exact jU hd _ _
theorem aDc {q : Rul} (dayF : Int → Bool) (k : Int) : (eJ q dayF k).length ≤ 31622400 := by
 unfold eJ
 split
 ·split
  ·exact Nat.le_trans (lF _ _ _ _ _ _) dE
  ·simp
 ·have h1 := rW q dayF (cF q k) (iS q k).toNat
  have h2 : iS q k ≤ 366 := by
   have := Cal.lp_01 (pY q k)
   have := Cal.mdays_bd (pN q k % 12 + 1) (pM q k)
   unfold iS
   split
   ·omega
   ·split
    ·omega
    ·split <;> omega
  have h3 : (iS q k).toNat ≤ 366 := by omega
  have := Nat.mul_le_mul_right 86400 h3
  omega
theorem x5 {r : Ru} {q : Rul} {dayF : Int → Bool} {R : Int → It → Prop} (fits : Fits r q dayF R) (hpres : vA r) (hc : 0 ≤ q.count) (hst : r.d0 = q.start) {en most : Int} (hen : r.u0 = en) (hmost : most ≤ 1000000) {k : Int} {o l : List Int} (h : DatesP q dayF en most k o l) : 0 ≤ k → ∀ k' s, k ≤ k' → (∀ j, k ≤ j → j < k' → eJ q dayF j = []) → R k' s → ¬eK q k' → ItOk r s → s.fin = false → s.rem = [] → s.total = o.length → (o.length : Int) < most → cr q.count o s →
  ∃ N l', l = o ++ l' ∧ Tells r N s (most - o.length).toNat l' := by
 subst hen
 have hpos : ∀ k s (o : List Int), 0 ≤ k → R k s → ¬eK q k → ItOk r s → s.fin = false → s.rem = [] → s.total = o.length → (o.length : Int) < most → cr q.count o s → (dY r s).rem = (out r s).rem ∧ (dY r s).total = o.length + (out r s).rem.length ∧ (dY r s).total ≤ 1000000000000 ∧ (dY r s).count = (out r s).count ∧ ((dY r s).fin = true ∨ ∀ p, ItOk r { dY r s with rem := p }) := by
  intro k s o h0 hR ho hi hf hr ht hm hcr
  obtain ⟨L1, L2, hl, h1, he⟩ := fits.pos k s h0 hR hi ho
  obtain ⟨x, hx1, hx2⟩ := qS r L2 s
  have ht2 := vL r s
  rw [hr] at ht2 hx1
  rw [← he, List.nil_append] at hx1
  have hL : L2.length ≤ 31622400 := by
   have h2 := congrArg List.length hl
   have h3 := zF (eJ q dayF k) q.setpos
   have h4 := aDc (q := q) dayF k
   rw [List.length_append] at h2; omega
  simp only [List.length_nil] at ht2
  have hrd : (dY r s).rem = (out r s).rem ∧ (dY r s).total = (out r s).total ∧ (dY r s).count = (out r s).count := by
   unfold dY
   split
   ·exact ⟨rfl, rfl, rfl⟩
   ·exact aE7 r _ _
  have h5 : (dY r s).total = o.length + (out r s).rem.length := by rw [hrd.2.1]; omega
  have h6 : (dY r s).total ≤ 1000000000000 := by rw [h5, hx1]; omega
  refine ⟨hrd.1, h5, h6, hrd.2.2, ?_⟩
  cases hf2 : (dY r s).fin with
  | true => exact .inl rfl
  | false => exact .inr (aDx (hpres s hi hr hf hf2) h6)
 induction h with
 | @over k o h =>
  intro h0 k' s hk _ _ hno
  have := fits.overs h0 h (k' - k).toNat
  rw [Int.toNat_of_nonneg oM] at this
  exact absurd (by rwa [show ∀ a b : Int, a + (b - a) = b by omega] at this) hno
 | @stop k o h hs =>
  intro h0 k' s hk hem hR hno hi hf hr ht hm hcr
  by_cases e : k = k'
  ·subst e
   obtain ⟨L1, L2, hl, h1, he⟩ := fits.pos k s h0 hR hi h
   obtain ⟨_, a2, _⟩ := vW (most := most) hc hst hl h1 hf hr hm hcr
   obtain ⟨b1, b2⟩ := a2 hs
   obtain ⟨c1, c2, c3, c4, c5⟩ := hpos k s o h0 hR h hi hf hr ht hm hcr
   rw [← he] at b1 b2
   refine ⟨0 + 1, (out r s).rem.take (most - o.length).toNat, ?_, nE hi hf hr ?_⟩
   ·rw [b1, List.take_append, List.take_of_length_le oM]
    congr 2; omega
   ·refine oV _ _ _ c1 ?_
    rcases b2 with b2 | b2
    ·rcases c5 with c5 | c5
     ·exact .inl c5
     ·rw [List.length_take, List.length_append] at b2
      exact .inr ⟨c5, by omega⟩
    ·left
     unfold dY; rw [if_pos b2]; exact b2
  ·rw [hem k oM oM, pK hm (fun h => (hcr.2 h).2) hc] at hs; cases hs
 | @more k o l h hs hn ih =>
  intro h0 k' s hk hem hR hno hi hf hr ht hm hcr
  by_cases e : k = k'
  ·subst e
   obtain ⟨L1, L2, hl, h1, he⟩ := fits.pos k s h0 hR hi h
   obtain ⟨a1, _, a3⟩ := vW (most := most) hc hst hl h1 hf hr hm hcr
   obtain ⟨b1, b2, b3⟩ := a1 hs
   obtain ⟨c1, c2, c3, c4, c5⟩ := hpos k s o h0 hR h hi hf hr ht hm hcr
   rw [← he] at b1 b2 b3 a3
   rw [b1] at hn ih
   have hm2 : (o.length : Int) + (out r s).rem.length < most := by rw [List.length_append] at b2; omega
   have ends : l = o ++ (out r s).rem → (dY r s).fin = true → ∃ N l', l = o ++ l' ∧ Tells r N s (most - o.length).toNat l' := by
    intro e1 e2
    refine ⟨0 + 1, (out r s).rem, e1, nE hi hf hr ?_⟩
    have := oV (r := r) (N := 0) (out r s).rem (dY r s) (most - o.length).toNat c1 (.inl e2)
    rwa [List.take_of_length_le oM] at this
   cases hf3 : (out r s).fin with
   | true => exact ends (aA5 hn (by rw [← hst]; exact b3 hf3)) (by unfold dY; rw [if_pos hf3]; exact hf3)
   | false =>
    have hsm := dH r s
    have hi2 := aAa hi hr
    obtain ⟨k2, d1, d2, d3, d4⟩ := fits.adv k (out r s) h0 (fits.same k _ _ hR hsm) hi2 h hf3
    rw [uY hsm] at d3 d4
    have hrd : dY r s = adv r (cO r s) (out r s) := l7 hf3
    rw [← hrd] at d3 d4
    have hcr2 := a3 hf3
    cases hf4 : (dY r s).fin with
    | true => exact ends (z0 hc hn k2 oM (fun j h1 h2 => d2 j oM h2) (d4 hf4) b2 (fun h => (hcr2.2 h).2)) hf4
    | false =>
     obtain ⟨d5, d6⟩ := d3 hf4
     rcases c5 with c5 | c5
     ·rw [hf4] at c5; cases c5
     have hsm2 : Same (dY r s) { dY r s with rem := [] } := ⟨rfl, rfl, rfl, rfl, rfl, rfl, rfl, rfl, rfl, rfl, rfl, rfl, rfl⟩
     obtain ⟨N, l', e1, e2⟩ := ih oM k2 { dY r s with rem := [] } oM (fun j h1 h2 => d2 j oM h2) (fits.same _ _ _ d5 hsm2) d6 (c5 []) hf4 rfl (by rw [List.length_append]; simp only; omega) b2 ⟨fun h => by simp only; rw [c4]; exact hcr2.1 h, fun h => by simp only; rw [c4]; exact hcr2.2 h⟩
     refine ⟨N + 1, (out r s).rem ++ l', by rw [e1, List.append_assoc], nE hi hf hr ?_⟩
     have := vG (out r s).rem (dY r s) c1 (.inr c5) e2
     rwa [show (out r s).rem.length + (most - ((o ++ (out r s).rem).length : Int)).toNat = (most - o.length).toNat by rw [List.length_append]; omega] at this
  ·rw [hem k oM oM, pK hm (fun h => (hcr.2 h).2) hc] at ih
   exact ih oM k' s oM (fun j h1 h2 => hem j oM h2) hR hno hi hf hr ht hm hcr
end Go.Proofs.YtdbbifbmkfmbkaaGreat
namespace Go.Proofs.YtdbbifbmkfmbkaaGreat
open Go.Md Go.Tab Go.Fr
theorem n8 {l : List Int} {i : Nat} (d : Int) (h : i < l.length) : l.getD i d = l[i] := by rw [List.getD_eq_getElem?_getD, List.getElem?_eq_getElem h]; rfl
abbrev SI (l : List Int) : Prop := l.Pairwise (· < ·)
theorem SI.ext : ∀ {l m : List Int}, SI l → SI m → (∀ x, x ∈ l ↔ x ∈ m) → l = m
 | [], [], _, _, _ => rfl
 | [], b :: m, _, _, h => absurd ((h b).2 (List.mem_cons_self ..)) (by simp)
 | a :: l, [], _, _, h => absurd ((h a).1 (List.mem_cons_self ..)) (by simp)
 | a :: l, b :: m, hl, hm, h => by
  obtain ⟨l1, l2⟩ := List.pairwise_cons.1 hl
  obtain ⟨m1, m2⟩ := List.pairwise_cons.1 hm
  have e : a = b := by
   rcases List.mem_cons.1 ((h a).1 (List.mem_cons_self ..)) with e | h1
   ·exact e
   ·rcases List.mem_cons.1 ((h b).2 (List.mem_cons_self ..)) with e | h2
    ·exact e.symm
    ·have := m1 a h1; have := l1 b h2; omega
  subst e
  rw [SI.ext l2 m2 fun x => ⟨fun hx => ?_, fun hx => ?_⟩]
  ·rcases List.mem_cons.1 ((h x).1 (List.mem_cons_of_mem _ hx)) with e | h1
   ·have := l1 x hx; omega
   ·exact h1
  ·rcases List.mem_cons.1 ((h x).2 (List.mem_cons_of_mem _ hx)) with e | h1
   ·have := m1 x hx; omega
   ·exact h1
theorem n6 {x : Int} {l : List Int} : x ∈ dW l ↔ x ∈ l := by unfold dW; exact List.mem_mergeSort
theorem sY {l : List Int} (h : l.Nodup) : SI (dW l) := by
 have h1 : (dW l).Pairwise (fun a b => decide (a ≤ b) = true) := by
  unfold dW
  exact List.pairwise_mergeSort (fun a b c h1 h2 => by simp only [decide_eq_true_eq] at *; omega) (fun a b => by simp only [Bool.or_eq_true, decide_eq_true_eq]; omega) l
 have h2 : (dW l).Nodup := (List.mergeSort_perm l _).nodup_iff.2 h
 exact (h1.and h2).imp fun {a b} ⟨h3, h4⟩ => by simp only [decide_eq_true_eq] at h3; omega
theorem SI.nodup {l : List Int} (h : SI l) : l.Nodup := h.imp fun {a b} h => by omega
theorem SI.map_add {l : List Int} (h : SI l) (d : Int) : SI (l.map (d + ·)) := by
 unfold SI
 rw [List.pairwise_map]
 exact h.imp fun {a b} h => by omega
theorem SI.flat {f : Nat → List Int} {a : Int} {w : Int} (hw : 0 ≤ w) (h : ∀ i, SI (f i)) (hb : ∀ (i : Nat) x, x ∈ f i → a + i * w ≤ x ∧ x < a + i * w + w) (n : Nat) : SI ((List.range n).flatMap f) := by
 unfold SI
 rw [List.pairwise_flatMap]
 refine ⟨fun i _ => h i, List.pairwise_lt_range.imp fun {i j} hij x hx y hy => ?_⟩
 have h1 := (hb i x hx).2
 have h2 := (hb j y hy).1
 have h3 : ((i : Int) + 1) * w ≤ (j : Int) * w := Int.mul_le_mul_of_nonneg_right oM hw
 rw [Int.add_mul, Int.one_mul] at h3
 omega
theorem l4 {f : Nat → List Int} {n : Nat} {x : Int} : x ∈ (List.range n).flatMap f ↔ ∃ i, i < n ∧ x ∈ f i := by
 rw [List.mem_flatMap]
 exact ⟨fun ⟨i, h1, h2⟩ => ⟨i, List.mem_range.1 h1, h2⟩, fun ⟨i, h1, h2⟩ => ⟨i, List.mem_range.2 h1, h2⟩⟩
theorem yP {l at_ : List Int} (h : SI l) : SI (mX l at_ l.length) := by
 unfold mX SI
 rw [List.pairwise_map]
 have h1 : ((List.range l.length).filter (tH at_ l.length)).Pairwise (· < ·) := List.pairwise_lt_range.filter _
 refine h1.imp_of_mem fun {i j} hi hj hij => ?_
 have hj2 := List.mem_range.1 (List.mem_filter.1 hj).1
 rw [n8 _ hj2, n8 _ (Nat.lt_trans hij hj2)]
 exact List.pairwise_iff_getElem.1 h i j _ hj2 hij
theorem aDm {l at_ : List Int} {x : Int} : x ∈ mX l at_ l.length ↔ ∃ i, tH at_ l.length i = true ∧ l[i]? = some x := by
 unfold mX
 rw [List.mem_map]
 constructor
 ·rintro ⟨i, h1, rfl⟩
  obtain ⟨h2, h3⟩ := List.mem_filter.1 h1
  have := List.mem_range.1 h2
  exact ⟨i, h3, by rw [n8 _ this, List.getElem?_eq_getElem this]⟩
 ·rintro ⟨i, h1, h2⟩
  obtain ⟨h3, h4⟩ := List.getElem?_eq_some_iff.1 h2
  exact ⟨i, List.mem_filter.2 ⟨List.mem_range.2 h3, h1⟩, by rw [n8 _ h3, h4]⟩
theorem aAl {l : List Int} {t : Option Int} {x : Int} : x ∈ iQ l t ↔ x ∈ l ∨ t = some x := by
 unfold iQ
 cases t with
 | none => simp
 | some y =>
  simp only
  split
  ·rename_i h
   obtain ⟨z, h1, h2⟩ := List.any_eq_true.1 h
   have h2 := beq_iff_eq.1 h2
   subst h2
   exact ⟨.inl, fun h => h.elim id fun e => by cases e; exact h1⟩
  ·rw [List.mem_append, List.mem_singleton, Option.some.injEq]
   exact ⟨fun h => h.imp id Eq.symm, fun h => h.imp id Eq.symm⟩
theorem wE {l : List Int} {t : Option Int} (h : l.Nodup) : (iQ l t).Nodup := by
 unfold iQ
 cases t with
 | none => exact h
 | some y =>
  simp only
  split
  ·exact h
  ·rename_i h2
   rw [List.nodup_append]
   refine ⟨h, by simp, fun a ha b hb e => h2 ?_⟩
   rw [List.mem_singleton] at hb
   exact List.any_eq_true.2 ⟨a, ha, beq_iff_eq.2 (by rw [e, hb])⟩
theorem zP (f : Int → Option Int) : ∀ (ps l : List Int), l.Nodup → (ps.foldl (fun l p => iQ l (f p)) l).Nodup ∧ ∀ x, x ∈ ps.foldl (fun l p => iQ l (f p)) l ↔ x ∈ l ∨ ∃ p ∈ ps, f p = some x
 | [], l, h => ⟨h, fun x => by simp⟩
 | p :: ps, l, h => by
  obtain ⟨h1, h2⟩ := zP f ps (iQ l (f p)) (wE h)
  refine ⟨h1, fun x => ?_⟩
  show x ∈ ps.foldl _ _ ↔ _
  rw [h2 x, aAl]
  simp only [List.mem_cons, exists_eq_or_imp, or_assoc]
theorem zI {f : Int → Int → Int} (ts : List Int) (hn : 0 < ts.length) : ∀ (ds : List Int) (j : Nat), (ds.flatMap fun i => ts.map (f i))[j]? = (ds[j / ts.length]?).map fun i => f i (ts.getD (j % ts.length) 0)
 | [], j => by simp
 | d :: ds, j => by
  rw [List.flatMap_cons, List.getElem?_append, List.length_map]
  split
  ·rename_i h
   rw [Nat.div_eq_of_lt h, Nat.mod_eq_of_lt h, List.getElem?_map, List.getElem?_eq_getElem h, n8 _ h]; rfl
  ·rename_i h
   rw [zI ts hn ds (j - ts.length)]
   have e : j = (j - ts.length) + ts.length := by omega
   conv => rhs; rw [e]
   rw [Nat.add_div_right _ hn, Nat.add_mod_right]
   rfl
def gQ (r : Ru) (s : It) : List Int := (kH r s).flatMap (mY s.ts s.ly)
theorem vE (ts : List Int) (f : Int → Int → Int) : ∀ ds : List Int, (ds.flatMap fun i => ts.map (f i)).length = ds.length * ts.length
 | [] => by simp
 | d :: ds => by rw [List.flatMap_cons, List.length_append, vE ts f ds, List.length_map, List.length_cons, Nat.succ_mul]; omega
theorem s5 {r : Ru} {s : It} (hn : 0 < s.ts.length) (p : Int) (hz : p ≠ 0) : l3 r s p = if (if p < 0 then p + (gQ r s).length else p - 1) < 0 then none else (gQ r s)[(if p < 0 then p + (gQ r s).length else p - 1).toNat]? := by
 have hlen : (gQ r s).length = (kH r s).length * s.ts.length := vE s.ts _ _
 have hget : ∀ j : Nat, (gQ r s)[j]? = ((kH r s)[j / s.ts.length]?).map fun i => (Cal.daysTo s.ly + i) * 86400 + s.ts.getD (j % s.ts.length) 0 := zI s.ts hn _
 have hn' : (0 : Int) < s.ts.length := by omega
 have key : ∀ j : Nat, ∀ q : Int, q = ((j : Int) / (s.ts.length : Int)) → ∀ m : Int, m = (j : Int) % (s.ts.length : Int) → (if q < 0 then none else ((kH r s)[q.toNat]?).map fun i => (Cal.daysTo s.ly + i) * 86400 + s.ts.getD m.toNat 0) = (gQ r s)[j]? := by
  intro j q hq m hm
  rw [← Int.natCast_ediv] at hq
  rw [← Int.natCast_emod] at hm
  subst hq hm
  rw [if_neg (Int.not_lt.2 (Int.natCast_nonneg _)), hget, Int.toNat_natCast, Int.toNat_natCast]
 unfold l3
 simp only
 by_cases hp : p < 0
 ·simp only [if_pos hp]
  have hneg : p / (s.ts.length : Int) < 0 := Int.ediv_neg_of_neg_of_pos hp hn'
  rw [if_pos hneg]
  have e1 : (p + ((gQ r s).length : Int)) / (s.ts.length : Int) = p / s.ts.length + (kH r s).length := by
   rw [hlen, Int.natCast_mul, Int.mul_comm]; exact Int.add_mul_ediv_left p _ oM
  have e2 : (p + ((gQ r s).length : Int)) % (s.ts.length : Int) = p % s.ts.length := by
   rw [hlen, Int.natCast_mul, Int.mul_comm]; exact Int.add_mul_emod_self_left _ _ _
  by_cases h0 : p + ((gQ r s).length : Int) < 0
  ·rw [if_pos h0, if_pos]
   rw [← e1]; exact Int.ediv_neg_of_neg_of_pos h0 hn'
  ·rw [if_neg h0]
   refine key (p + ((gQ r s).length : Int)).toNat _ ?_ _ ?_
   ·rw [Int.toNat_of_nonneg oM, e1]
   ·rw [Int.toNat_of_nonneg oM, e2]
 ·simp only [if_neg hp]
  rw [if_neg (show ¬ p - 1 < 0 by omega)]
  have hneg : ¬ (p - 1) / (s.ts.length : Int) < 0 := by
   have := Int.ediv_nonneg (a := p - 1) (b := s.ts.length) oM oM
   omega
  rw [if_neg hneg]
  exact key (p - 1).toNat _ (by rw [Int.toNat_of_nonneg oM]) _ (by rw [Int.toNat_of_nonneg oM])
theorem aHr {r : Ru} {s : It} (hn : 0 < s.ts.length) (hs : SI (gQ r s)) (h0 : 0 < r.setpos.length) (hz : ∀ p ∈ r.setpos, p ≠ 0) : dW (fT r s) = dJ (gQ r s) r.setpos := by
 obtain ⟨h1, h2⟩ := zP (l3 r s) r.setpos [] List.nodup_nil
 unfold dJ
 rw [if_neg oM]
 refine SI.ext (sY h1) (yP hs) fun x => ?_
 rw [n6, aDm]
 refine (h2 x).trans ⟨?_, ?_⟩
 ·rintro (h | ⟨p, hp, h⟩)
  ·simp at h
  ·rw [s5 hn p (hz p hp)] at h
   have hz := hz p hp
   by_cases hp0 : p < 0
   ·simp only [if_pos hp0] at h
    by_cases hg : p + ((gQ r s).length : Int) < 0
    ·rw [if_pos hg] at h; cases h
    ·rw [if_neg hg] at h
     refine ⟨_, ?_, h⟩
     unfold tH
     rw [Bool.or_eq_true, List.any_eq_true, List.any_eq_true]
     exact .inr ⟨p, hp, beq_iff_eq.2 oM⟩
   ·simp only [if_neg hp0, if_neg (show ¬ p - 1 < 0 by omega)] at h
    refine ⟨_, ?_, h⟩
    unfold tH
    rw [Bool.or_eq_true, List.any_eq_true, List.any_eq_true]
    exact .inl ⟨p, hp, beq_iff_eq.2 oM⟩
 ·rintro ⟨i, hb, hx⟩
  have hl := (List.getElem?_eq_some_iff.1 hx).1
  unfold tH at hb
  rw [Bool.or_eq_true, List.any_eq_true, List.any_eq_true] at hb
  right
  rcases hb with ⟨p, hp, e⟩ | ⟨p, hp, e⟩
  ·have e := beq_iff_eq.1 e
   refine ⟨p, hp, ?_⟩
   rw [s5 hn p (hz p hp)]
   simp only [if_neg (show ¬ p < 0 by omega), if_neg (show ¬ p - 1 < 0 by omega)]
   rw [show (p - 1).toNat = i by omega]; exact hx
  ·have e := beq_iff_eq.1 e
   refine ⟨p, hp, ?_⟩
   rw [s5 hn p (hz p hp)]
   simp only [if_pos (show p < 0 by omega), if_neg (show ¬ p + ((gQ r s).length : Int) < 0 by omega)]
   rw [show (p + ((gQ r s).length : Int)).toNat = i by omega]; exact hx
theorem oW (r : Ru) (s : It) (a : Int) : ∀ k, iP r s a k = dB r s ((List.range k).flatMap fun (j : Nat) => if bad r s (a + j) = true then [] else mY s.ts s.ly (a + j))
 | 0 => rfl
 | k + 1 => by
  have h := iD r s a k
  rw [j6, gZ, mT, ← oW r s a k]
  unfold jM
  rw [h.bad, h.ts, h.ly]
  split <;> rfl
theorem nU (r : Ru) (s : It) : gQ r s = (List.range ((aW r s).2 - (aW r s).1).toNat).flatMap fun (j : Nat) => if bad r s ((aW r s).1 + j) = true then [] else mY s.ts s.ly ((aW r s).1 + j) := by
 unfold gQ kH
 generalize ((aW r s).2 - (aW r s).1).toNat = n
 induction n with
 | zero => rfl
 | succ n ih =>
  rw [gZ, List.range_succ, List.map_append, List.filter_append, List.flatMap_append, ih]
  congr 1
  cases h : bad r s ((aW r s).1 + (n : Int)) <;> simp [h]
theorem aGq {ts : List Int} (h : SI ts) (ly i : Int) : SI (mY ts ly i) := by
 unfold mY; exact h.map_add _
theorem aGt {ts : List Int} (h : ∀ t ∈ ts, 0 ≤ t ∧ t < 86400) {ly i x : Int} (hx : x ∈ mY ts ly i) : (Cal.daysTo ly + i) * 86400 ≤ x ∧ x < (Cal.daysTo ly + i) * 86400 + 86400 := by
 unfold mY at hx
 obtain ⟨t, h1, rfl⟩ := List.mem_map.1 hx
 have := h t h1
 omega
theorem aD6 {r : Ru} {s : It} (h : SI s.ts) (hb : ∀ t ∈ s.ts, 0 ≤ t ∧ t < 86400) : SI (gQ r s) := by
 rw [nU]
 refine SI.flat (a := (Cal.daysTo s.ly + (aW r s).1) * 86400) (w := 86400) oM (fun i => ?_) (fun i x hx => ?_) _
 ·split
  ·exact List.Pairwise.nil
  ·exact aGq h _ _
 ·split at hx
  ·simp at hx
  ·have := aGt hb hx
   omega
theorem zS {r : Ru} {s : It} (h : SI s.ts) (hb : ∀ t ∈ s.ts, 0 ≤ t ∧ t < 86400) (hz : ∀ p ∈ r.setpos, p ≠ 0) : out r s = dB r s (dJ (gQ r s) r.setpos) := by
 by_cases h0 : r.setpos.length = 0
 ·rw [nX _ _ (.inl h0), oR, oW, ← nU]
  unfold dJ; rw [if_pos h0]
 ·by_cases h1 : s.ts.length = 0
  ·rw [nX _ _ (.inr h1), oR, oW, ← nU]
   have e : gQ r s = [] := by
    unfold gQ
    rw [List.flatMap_eq_nil_iff]
    intro i _
    unfold mY
    rw [List.eq_nil_of_length_eq_zero h1]; rfl
   rw [e]
   unfold dJ; split <;> rfl
  ·unfold out
   rw [if_pos ⟨h0, h1⟩, aHr oM (aD6 h hb) oM hz]
theorem kU {hs ms ss : List Int} {day fr lg x : Int} : x ∈ eD hs ms ss day fr lg ↔ day * 86400 ≤ x ∧ x < day * 86400 + 86400 ∧ fr ≤ x ∧ x < fr + lg ∧ aJ hs ((x - day * 86400) / 3600) = true ∧ aJ ms ((x - day * 86400) / 60 % 60) = true ∧ aJ ss ((x - day * 86400) % 60) = true := by
 unfold eD zE
 rw [l4]
 constructor
 ·rintro ⟨h, hh, hx⟩
  split at hx
  ·rename_i h1
   unfold r8 at hx
   obtain ⟨m, hm, hx⟩ := l4.1 hx
   split at hx
   ·rename_i h2
    unfold r6 at hx
    obtain ⟨s, hs, rfl⟩ := List.mem_map.1 hx
    obtain ⟨h3, h4⟩ := List.mem_filter.1 hs
    have h3 := List.mem_range.1 h3
    rw [Bool.and_eq_true] at h1 h2 h4
    have h5 : wo fr lg (day * 86400 + h * 3600 + m * 60 + s) 1 = false := by simpa using h4.2
    unfold wo at h5
    rw [Bool.or_eq_false_iff, decide_eq_false_iff_not, decide_eq_false_iff_not] at h5
    have e : day * 86400 + (h : Int) * 3600 + m * 60 + s - day * 86400 = h * 3600 + m * 60 + s := by omega
    rw [e, show ((h : Int) * 3600 + m * 60 + s) / 3600 = h by omega, show ((h : Int) * 3600 + m * 60 + s) / 60 % 60 = m by omega, show ((h : Int) * 3600 + m * 60 + s) % 60 = s by omega]
    exact ⟨by omega, by omega, by omega, by omega, h1.1, h2.1, h4.1⟩
   ·simp at hx
  ·simp at hx
 ·rintro ⟨h1, h2, h3, h4, h5, h6, h7⟩
  have e : x = day * 86400 + (((x - day * 86400) / 3600).toNat : Nat) * 3600 + (((x - day * 86400) / 60 % 60).toNat : Nat) * 60 + (((x - day * 86400) % 60).toNat : Nat) := by omega
  have w : ∀ a n : Int, a ≤ x → x < a + n → (!wo fr lg a n) = true := fun a n ha hn => by
   unfold wo
   rw [decide_eq_false oM, decide_eq_false oM]; rfl
  refine ⟨((x - day * 86400) / 3600).toNat, by omega, ?_⟩
  rw [if_pos (by rw [Int.toNat_of_nonneg oM, h5, w _ _ oM oM]; rfl)]
  unfold r8
  refine l4.2 ⟨((x - day * 86400) / 60 % 60).toNat, by omega, ?_⟩
  rw [if_pos (by rw [Int.toNat_of_nonneg oM, Int.toNat_of_nonneg oM, h6, w _ _ oM oM]; rfl)]
  unfold r6
  exact List.mem_map.2 ⟨((x - day * 86400) % 60).toNat, List.mem_filter.2 ⟨List.mem_range.2 oM, by rw [Int.toNat_of_nonneg oM, Int.toNat_of_nonneg oM, Int.toNat_of_nonneg oM, h7, w _ _ oM oM]; rfl⟩, e.symm⟩
theorem sQ (hs ms ss : List Int) (day fr lg : Int) : SI (eD hs ms ss day fr lg) := by
 have h1 : ∀ b, SI (r6 ss fr lg b 60) ∧ ∀ x ∈ r6 ss fr lg b 60, b ≤ x ∧ x < b + 60 := fun b => by
  unfold r6
  refine ⟨?_, fun x hx => ?_⟩
  ·unfold SI
   rw [List.pairwise_map]
   exact (List.pairwise_lt_range.filter _).imp fun {i j} h => by omega
  ·obtain ⟨s, h, rfl⟩ := List.mem_map.1 hx
   have := List.mem_range.1 (List.mem_filter.1 h).1
   omega
 have h2 : ∀ b, SI (r8 ms ss fr lg b 60) ∧ ∀ x ∈ r8 ms ss fr lg b 60, b ≤ x ∧ x < b + 3600 := fun b => by
  unfold r8
  refine ⟨SI.flat (a := b) (w := 60) oM (fun i => ?_) (fun i x hx => ?_) _, fun x hx => ?_⟩
  ·split
   ·exact (h1 _).1
   ·exact List.Pairwise.nil
  ·split at hx
   ·have := (h1 _).2 x hx; omega
   ·simp at hx
  ·obtain ⟨i, hi, hx⟩ := l4.1 hx
   split at hx
   ·have := (h1 _).2 x hx; omega
   ·simp at hx
 unfold eD zE
 refine SI.flat (a := day * 86400) (w := 3600) oM (fun i => ?_) (fun i x hx => ?_) _
 ·split
  ·exact (h2 _).1
  ·exact List.Pairwise.nil
 ·split at hx
  ·have := (h2 _).2 x hx; omega
  ·simp at hx
structure PartOk (l : List Int) (n : Int) : Prop where
 some : 0 < l.length
 nd : l.Nodup
 bd : ∀ x ∈ l, 0 ≤ x ∧ x < n
theorem PartOk.among {l : List Int} {n : Int} (h : PartOk l n) (x : Int) : aJ l x = true ↔ x ∈ l := by
 unfold aJ
 rw [Bool.or_eq_true, beq_iff_eq, List.any_eq_true]
 constructor
 ·rintro (h1 | ⟨y, h1, h2⟩)
  ·have := h.some; omega
  ·rwa [← beq_iff_eq.1 h2]
 ·intro h1; exact .inr ⟨x, h1, beq_self_eq_true x⟩
theorem PartOk.one {x n : Int} (h : 0 ≤ x ∧ x < n) : PartOk [x] n := ⟨by simp, by simp, fun y hy => by rw [List.mem_singleton] at hy; rw [hy]; exact h⟩
theorem oD {hs ms ss : List Int} (h1 : PartOk hs 24) (h2 : PartOk ms 60) (h3 : PartOk ss 60) : SI (l6 hs ms ss) := by
 unfold l6
 refine sY ?_
 unfold List.Nodup
 rw [List.pairwise_flatMap]
 refine ⟨fun h hh => ?_, h1.nd.imp_of_mem fun {a b} ha hb hab x hx y hy => ?_⟩
 ·rw [List.pairwise_flatMap]
  refine ⟨fun m hm => ?_, h2.nd.imp_of_mem fun {a b} ha hb hab x hx y hy => ?_⟩
  ·rw [List.pairwise_map]
   exact h3.nd.imp fun {a b} h => by omega
  ·obtain ⟨s, hs, rfl⟩ := List.mem_map.1 hx
   obtain ⟨t, ht, rfl⟩ := List.mem_map.1 hy
   have := h3.bd s hs; have := h3.bd t ht
   omega
 ·obtain ⟨m, hm, hx⟩ := List.mem_flatMap.1 hx
  obtain ⟨n, hn, hy⟩ := List.mem_flatMap.1 hy
  obtain ⟨s, hs, rfl⟩ := List.mem_map.1 hx
  obtain ⟨t, ht, rfl⟩ := List.mem_map.1 hy
  have := h3.bd s hs; have := h3.bd t ht; have := h2.bd m hm; have := h2.bd n hn
  omega
theorem nT {hs ms ss : List Int} (h1 : PartOk hs 24) (h2 : PartOk ms 60) (h3 : PartOk ss 60) {t : Int} : t ∈ l6 hs ms ss ↔ 0 ≤ t ∧ t < 86400 ∧ t / 3600 ∈ hs ∧ t / 60 % 60 ∈ ms ∧ t % 60 ∈ ss := by
 unfold l6
 rw [n6, List.mem_flatMap]
 constructor
 ·rintro ⟨h, hh, hx⟩
  obtain ⟨m, hm, hx⟩ := List.mem_flatMap.1 hx
  obtain ⟨s, hs, rfl⟩ := List.mem_map.1 hx
  have := h1.bd h hh; have := h2.bd m hm; have := h3.bd s hs
  rw [show (h * 3600 + m * 60 + s) / 3600 = h by omega, show (h * 3600 + m * 60 + s) / 60 % 60 = m by omega, show (h * 3600 + m * 60 + s) % 60 = s by omega]
  exact ⟨by omega, by omega, hh, hm, hs⟩
 ·rintro ⟨a, b, c, d, e⟩
  exact ⟨_, c, List.mem_flatMap.2 ⟨_, d, List.mem_map.2 ⟨_, e, by omega⟩⟩⟩
theorem yV {hs ms ss T : List Int} {D fr lg : Int} (hT : SI T) (h : ∀ t, t ∈ T ↔ 0 ≤ t ∧ t < 86400 ∧ fr ≤ D * 86400 + t ∧ D * 86400 + t < fr + lg ∧ aJ hs (t / 3600) = true ∧ aJ ms (t / 60 % 60) = true ∧ aJ ss (t % 60) = true) : eD hs ms ss D fr lg = T.map (D * 86400 + ·) := by
 refine SI.ext (sQ _ _ _ _ _ _) (hT.map_add _) fun x => ?_
 rw [kU, List.mem_map]
 constructor
 ·rintro ⟨a, b, c, d, e⟩
  exact ⟨x - D * 86400, (h _).2 ⟨by omega, by omega, by omega, by omega, e⟩, by omega⟩
 ·rintro ⟨t, ht, rfl⟩
  obtain ⟨a, b, c, d, e⟩ := (h t).1 ht
  rw [show D * 86400 + t - D * 86400 = t by omega]
  exact ⟨by omega, by omega, c, d, e⟩
theorem vT {hs ms ss : List Int} (h1 : PartOk hs 24) (h2 : PartOk ms 60) (h3 : PartOk ss 60) (D : Int) : eD hs ms ss D (D * 86400) 86400 = (l6 hs ms ss).map (D * 86400 + ·) :=
 yV (oD h1 h2 h3) fun t => by
  rw [nT h1 h2 h3, h1.among, h2.among, h3.among]
  exact ⟨fun ⟨a, b, c⟩ => ⟨a, b, by omega, by omega, c⟩, fun ⟨a, b, _, _, c⟩ => ⟨a, b, c⟩⟩
end Go.Proofs.YtdbbifbmkfmbkaaGreat
namespace Go.Proofs.YtdbbifbmkfmbkaaGreat
open Go.Md Go.Tab Go.Fr
def aHz (rg mm md nm : List Int) (n : Nat) : Bool := (List.range n).all fun i => (List.range 12).any fun j => decide (rg.getD j 0 ≤ (i : Int)) && (decide ((i : Int) < rg.getD (j + 1) 0) && (mm.getD i 0 == (j : Int) + 1 && (md.getD i 0 == (i : Int) - rg.getD j 0 + 1 && nm.getD i 0 == (i : Int) - rg.getD (j + 1) 0)))
theorem aH9 : aHz [0, 31, 60, 91, 121, 152, 182, 213, 244, 274, 305, 335, 366] lQ lP jE 366 = true := by kernel_rfl
theorem aH7 : aHz [0, 31, 59, 90, 120, 151, 181, 212, 243, 273, 304, 334, 365] zC zG s7 365 = true := by kernel_rfl
theorem chkE : ((List.range 7).all fun j => (lQ.getD (366 + j) 0 == 1 && (lP.getD (366 + j) 0 == (j : Int) + 1 && jE.getD (366 + j) 0 == (j : Int) - 31)) && (zC.getD (365 + j) 0 == 1 && (zG.getD (365 + j) 0 == (j : Int) + 1 && s7.getD (365 + j) 0 == (j : Int) - 31))) = true := by kernel_rfl
theorem aF1 (y : Int) : aHz (rgY y) (mmY y) (mdY y) (mE y) (365 + Cal.lp y).toNat = true := by
 unfold rgY mmY mdY mE Cal.lp
 cases Cal.leapB y with
 | true => exact aH9
 | false => exact aH7
theorem aFf {y i : Int} (h0 : 0 ≤ i) (h1 : i < 372 + Cal.lp y) : (mmY y).getD i.toNat 0 = Cal.monthOf (Cal.daysTo y + i) ∧ (mdY y).getD i.toNat 0 = Cal.mdayOf (Cal.daysTo y + i) ∧ (mE y).getD i.toNat 0 = Cal.mdayOf (Cal.daysTo y + i) - Cal.mdays (Cal.monthOf (Cal.daysTo y + i)) (Cal.yearOf (Cal.daysTo y + i)) - 1 := by
 have hlp := Cal.lp_01 y
 rcases Int.lt_or_le i (365 + Cal.lp y) with h | h
 ·have hc := List.all_eq_true.1 (aF1 y) i.toNat (List.mem_range.2 oM)
  obtain ⟨j, hj, hc⟩ := List.any_eq_true.1 hc
  have hj := List.mem_range.1 hj
  rw [Int.toNat_of_nonneg h0, aDz oM, aDz oM] at hc
  simp only [Bool.and_eq_true, decide_eq_true_eq, beq_iff_eq] at hc
  obtain ⟨c1, c2, c3, c4, c5⟩ := hc
  obtain ⟨d1, d2, d3, d4⟩ := Cal.date_unique oM c1 c2
  have hs : Cal.cum y (j + 1) = Cal.cum y j + Cal.mdays ((j : Int) + 1) y := rfl
  rw [c3, c4, c5, d1, d3, d4]
  exact ⟨rfl, rfl, by omega⟩
 ·have hs := Cal.daysTo_succ y
  obtain ⟨j, rfl⟩ : ∃ j : Nat, i = 365 + Cal.lp y + j := ⟨(i - (365 + Cal.lp y)).toNat, by omega⟩
  have c0 : Cal.cum (y + 1) 0 = 0 := rfl
  have c1 : Cal.cum (y + 1) (0 + 1) = 31 := rfl
  obtain ⟨d1, d2, d3, d4⟩ := Cal.date_unique (y := y + 1) (D := j) (j := 0) oM (by rw [c0]; omega) (by rw [c1]; omega)
  have e : Cal.daysTo y + (365 + Cal.lp y + (j : Int)) = Cal.daysTo (y + 1) + j := by omega
  rw [e, d1, d3, d4, c0]
  have hc := List.all_eq_true.1 chkE j (List.mem_range.2 oM)
  simp only [Bool.and_eq_true, beq_iff_eq] at hc
  obtain ⟨⟨a1, a2, a3⟩, b1, b2, b3⟩ := hc
  have hm : Cal.mdays (((0 : Nat) : Int) + 1) (y + 1) = 31 := rfl
  rw [hm]
  unfold mmY mdY mE Cal.lp at *
  cases hl : Cal.leapB y with
  | true =>
   simp only [hl, if_true] at *
   rw [show (365 + 1 + (j : Int)).toNat = 366 + j by omega, a1, a2, a3]
   exact ⟨rfl, by omega, by omega⟩
  | false =>
   simp only [hl, Bool.false_eq_true, if_false] at *
   rw [show (365 + 0 + (j : Int)).toNat = 365 + j by omega, b1, b2, b3]
   exact ⟨rfl, by omega, by omega⟩
theorem aG8 {n : Nat} {b : Bool} : (n != 0 && !b) = !(n == 0 || b) := by cases n <;> cases b <;> rfl
theorem aF5 {month : List Int} {y i : Int} (h0 : 0 ≤ i) (h1 : i < 372 + Cal.lp y) : u7 month y i = !aJ month (Cal.monthOf (Cal.daysTo y + i)) := by
 unfold u7 aJ
 rw [(aFf h0 h1).1, aG8]
theorem aGi {l : List (Int × Int)} {f y i : Int} (hf : 1 < f) : uG ((l.filter (cP f)).map Prod.fst) y i = !yX l (Cal.daysTo y + i) := by
 have e : l.filter (cP f) = l := List.filter_eq_self.2 fun x _ => by unfold cP; rw [decide_eq_true hf, Bool.or_true]
 unfold uG yX
 rw [e, List.length_map, aG8, List.any_map]
 congr 2
 congr 1
 funext p
 show (p.1 == _) = (p.1 == _)
 congr 1
 unfold ywd; omega
theorem aGj {l : List Int} {y i : Int} (h0 : 0 ≤ i) (h1 : i < 372 + Cal.lp y) (hz : ∀ x ∈ l, x ≠ 0) : nH (gC l) (gB l) y i = !uF l (Cal.daysTo y + i) := by
 obtain ⟨_, e2, e3⟩ := aFf h0 h1
 have hm := Cal.month_bd (Cal.daysTo y + i)
 have hd := Cal.mdays_bd (Cal.monthOf (Cal.daysTo y + i)) (Cal.yearOf (Cal.daysTo y + i))
 have hu : Cal.mdayOf (Cal.daysTo y + i) ≤ Cal.mdays (Cal.monthOf (Cal.daysTo y + i)) (Cal.yearOf (Cal.daysTo y + i)) := by
  obtain ⟨s1, s2, s3⟩ := Cal.split_spec (Cal.daysTo y + i)
  obtain ⟨j, hj, c1, c2⟩ := Cal.mon_ex s2 s3
  have hs : Cal.cum (Cal.yearOf (Cal.daysTo y + i)) (j + 1) = Cal.cum (Cal.yearOf (Cal.daysTo y + i)) j + Cal.mdays ((j : Int) + 1) (Cal.yearOf (Cal.daysTo y + i)) := rfl
  obtain ⟨_, _, d3, d4⟩ := Cal.date_unique hj c1 c2
  rw [s1] at d3 d4
  rw [d3, d4]; omega
 unfold nH uF
 rw [e2, e3]
 have hp : (gC l).any (· == Cal.mdayOf (Cal.daysTo y + i)) = l.any (· == Cal.mdayOf (Cal.daysTo y + i)) := by
  rw [Bool.eq_iff_iff, List.any_eq_true, List.any_eq_true]
  unfold gC
  constructor
  ·rintro ⟨x, a, b⟩; exact ⟨x, (List.mem_filter.1 a).1, b⟩
  ·rintro ⟨x, a, b⟩; exact ⟨x, List.mem_filter.2 ⟨a, by have := beq_iff_eq.1 b; exact decide_eq_true oM⟩, b⟩
 have hn : (gB l).any (· == Cal.mdayOf (Cal.daysTo y + i) - Cal.mdays (Cal.monthOf (Cal.daysTo y + i)) (Cal.yearOf (Cal.daysTo y + i)) - 1) = l.any (· == Cal.mdayOf (Cal.daysTo y + i) - Cal.mdays (Cal.monthOf (Cal.daysTo y + i)) (Cal.yearOf (Cal.daysTo y + i)) - 1) := by
  rw [Bool.eq_iff_iff, List.any_eq_true, List.any_eq_true]
  unfold gB
  constructor
  ·rintro ⟨x, a, b⟩; exact ⟨x, (List.mem_filter.1 a).1, b⟩
  ·rintro ⟨x, a, b⟩; exact ⟨x, List.mem_filter.2 ⟨a, by have := beq_iff_eq.1 b; exact decide_eq_true oM⟩, b⟩
 have hl : ((gC l).length != 0 || (gB l).length != 0) = (l.length != 0) := by
  cases l with
  | nil => rfl
  | cons x l =>
   have := hz x (List.mem_cons_self ..)
   rcases Int.lt_or_le 0 x with h | h
   ·have : gC (x :: l) = x :: gC l := by unfold gC; exact List.filter_cons_of_pos (decide_eq_true h)
    rw [this]; rfl
   ·have : gB (x :: l) = x :: gB l := by unfold gB; exact List.filter_cons_of_pos (decide_eq_true oM)
    rw [this]; simp
 rw [hp, hn, hl]
 generalize l.any (· == Cal.mdayOf (Cal.daysTo y + i)) = p
 generalize l.any (· == Cal.mdayOf (Cal.daysTo y + i) - Cal.mdays (Cal.monthOf (Cal.daysTo y + i)) (Cal.yearOf (Cal.daysTo y + i)) - 1) = q
 cases l.length <;> cases p <;> cases q <;> rfl
theorem sM (r : Rul) : (aZ r).month = bX (aE r) ∧ (aZ r).mday = bL (aE r) ∧ (aZ r).wday = bU (aE r) ∧ (aZ r).hour = cL (aE r) ∧ (aZ r).minute = bA (aE r) ∧ (aZ r).second = bI (aE r) := by
 have hn : iB (aE r) = true ↔ pE r := by
  unfold iB pE
  simp only [Bool.and_eq_true, beq_iff_eq, and_assoc]
  exact Iff.rfl
 have f1 : (eN r).month = bX (aE r) ∧ (eN r).mday = bL (aE r) ∧ (eN r).wday = bU (aE r) := by
  have e2 : (((aE r).d / 86400 + 1) % 7 + 6) % 7 = r.start / 86400 % 7 := by show ((r.start / 86400 + 1) % 7 + 6) % 7 = _; omega
  unfold eN bX bL bU
  rw [e2]
  by_cases h : pE r
  ·have h2 := hn.2 h
   rw [if_pos h, h2]
   show _ ∧ _ ∧ _
   by_cases h0 : r.freq = 0
   ·have e0 : (aE r).freq = 0 := h0
    rw [if_pos h0]
    simp only [e0]
    refine ⟨?_, ?_, ?_⟩
    ·simp only [true_and]; rfl
    ·simp; rfl
    ·simp; rfl
   ·by_cases h1 : r.freq = 1
    ·have e0 : (aE r).freq = 1 := h1
     rw [if_neg h0, if_pos h1]
     simp only [e0]
     refine ⟨?_, ?_, ?_⟩
     ·simp; rfl
     ·simp; rfl
     ·simp; rfl
    ·by_cases h3 : r.freq = 2
     ·have e0 : (aE r).freq = 2 := h3
      rw [if_neg h0, if_neg h1, if_pos h3]
      simp only [e0]
      refine ⟨?_, ?_, ?_⟩
      ·simp; rfl
      ·simp; rfl
      ·simp
     ·have e0 : ¬ (aE r).freq = 0 := h0
      have e1 : ¬ (aE r).freq = 1 := h1
      have e3 : ¬ (aE r).freq = 2 := h3
      rw [if_neg h0, if_neg h1, if_neg h3]
      simp only [e0, e1, e3]
      refine ⟨?_, ?_, ?_⟩ <;> (simp; rfl)
  ·have h2 : ¬ iB (aE r) = true := fun h3 => h (hn.1 h3)
   rw [if_neg h, if_neg (fun h => h2 h.1), if_neg (fun h => h2 h.1), if_neg (fun h => h2 h.1)]
   exact ⟨rfl, rfl, rfl⟩
 obtain ⟨g1, g2, g3, g4, g5⟩ := uK r
 have k2 : ∀ q : Rul, (eO q).month = q.month ∧ (eO q).mday = q.mday ∧ (eO q).wday = q.wday ∧ (eO q).start = q.start ∧ (eO q).freq = q.freq ∧ (eO q).minute = q.minute ∧ (eO q).second = q.second ∧ (eO q).hour = if q.hour.length = 0 ∧ q.freq < 4 then [q.start % 86400 / 3600] else q.hour := fun q => by unfold eO; split <;> exact ⟨rfl, rfl, rfl, rfl, rfl, rfl, rfl, rfl⟩
 have k3 : ∀ q : Rul, (eV q).month = q.month ∧ (eV q).mday = q.mday ∧ (eV q).wday = q.wday ∧ (eV q).start = q.start ∧ (eV q).freq = q.freq ∧ (eV q).hour = q.hour ∧ (eV q).second = q.second ∧ (eV q).minute = if q.minute.length = 0 ∧ q.freq < 5 then [q.start % 86400 / 60 % 60] else q.minute := fun q => by unfold eV; split <;> exact ⟨rfl, rfl, rfl, rfl, rfl, rfl, rfl, rfl⟩
 have k4 : ∀ q : Rul, (gH q).month = q.month ∧ (gH q).mday = q.mday ∧ (gH q).wday = q.wday ∧ (gH q).hour = q.hour ∧ (gH q).minute = q.minute ∧ (gH q).second = if q.second.length = 0 ∧ q.freq < 6 then [q.start % 86400 % 60] else q.second := fun q => by unfold gH; split <;> exact ⟨rfl, rfl, rfl, rfl, rfl, rfl⟩
 unfold aZ
 obtain ⟨a1, a2, a3, a4, a5, a6⟩ := k4 (eV (eO (eN r)))
 obtain ⟨b1, b2, b3, b4, b5, b6, b7, b8⟩ := k3 (eO (eN r))
 obtain ⟨c1, c2, c3, c4, c5, c6, c7, c8⟩ := k2 (eN r)
 rw [a1, a2, a3, a4, a5, a6, b1, b2, b3, b4, b5, b6, b7, b8, c1, c2, c3, c4, c5, c6, c7, c8, f1.1, f1.2.1, f1.2.2, g1, g2, g3, g4, g5]
 refine ⟨rfl, rfl, rfl, ?_, ?_, ?_⟩
 ·unfold cL
  show _ = if r.hour.length = 0 then (if r.freq < 4 then _ else _) else r.hour
  by_cases h : r.hour.length = 0
  ·by_cases h2 : r.freq < 4
   ·rw [if_pos ⟨h, h2⟩, if_pos h, if_pos h2]; rfl
   ·rw [if_neg (fun h => h2 h.2), if_pos h, if_neg h2]; exact List.eq_nil_of_length_eq_zero h
  ·rw [if_neg (fun h2 => h h2.1), if_neg h]
 ·unfold bA
  show _ = if r.minute.length = 0 then (if r.freq < 5 then _ else _) else r.minute
  by_cases h : r.minute.length = 0
  ·by_cases h2 : r.freq < 5
   ·rw [if_pos ⟨h, h2⟩, if_pos h, if_pos h2]; rfl
   ·rw [if_neg (fun h => h2 h.2), if_pos h, if_neg h2]; exact List.eq_nil_of_length_eq_zero h
  ·rw [if_neg (fun h2 => h h2.1), if_neg h]
 ·unfold bI
  show _ = if r.second.length = 0 then (if r.freq < 6 then _ else _) else r.second
  by_cases h : r.second.length = 0
  ·by_cases h2 : r.freq < 6
   ·rw [if_pos ⟨h, h2⟩, if_pos h, if_pos h2]; rfl
   ·rw [if_neg (fun h => h2 h.2), if_pos h, if_neg h2]; exact List.eq_nil_of_length_eq_zero h
  ·rw [if_neg (fun h2 => h h2.1), if_neg h]
theorem eH {l : List Int} {a b : Int} {m : Bool} (h : iR l a b m = true) : l.Nodup ∧ (∀ x ∈ l, okR a b m x = true) ∧ l.length ≤ 100 := by
 unfold iR at h
 rw [Bool.and_eq_true] at h
 have h1 := List.all_eq_true.1 h.1
 have hg : ∀ i (hi : i < l.length), okR a b m l[i] = true ∧ ∀ x ∈ l.take i, x ≠ l[i] := fun i hi => by
  have := h1 i (List.mem_range.2 hi)
  rw [Bool.and_eq_true, n8 _ hi] at this
  refine ⟨this.1, fun x hx e => ?_⟩
  have h3 : (l.take i).any (· == l[i]) = false := by simpa using this.2
  rw [List.any_eq_false] at h3
  exact h3 x hx (beq_iff_eq.2 e)
 refine ⟨?_, fun x hx => ?_, oT h.2⟩
 ·unfold List.Nodup
  rw [List.pairwise_iff_getElem]
  intro i j hi hj hij e
  refine (hg j hj).2 l[i] ?_ e
  rw [List.mem_take_iff_getElem]
  exact ⟨i, by omega, rfl⟩
 ·obtain ⟨i, hi, rfl⟩ := List.mem_iff_getElem.1 hx
  exact (hg i hi).1
theorem qK {l : List Int} {b : Int} (h : iR l 0 b false = true) (h0 : 0 < l.length) : PartOk l (b + 1) := by
 obtain ⟨h1, h2, _⟩ := eH h
 refine ⟨h0, h1, fun x hx => ?_⟩
 have := h2 x hx
 unfold okR at this
 rw [if_neg (by simp), Bool.and_eq_true] at this
 have h3 := oT this.1
 have h4 := oT this.2
 omega
theorem xE {l : List Int} {b : Int} {m : Bool} (h : iR l 1 b m = true) : ∀ x ∈ l, x ≠ 0 := fun x hx e => by
 have := (eH h).2.1 x hx
 unfold okR at this
 split at this
 ·omega
 ·rw [Bool.and_eq_true] at this
  have h3 := oT this.1
  omega
theorem m7 {r : Rul} (rp : RightP r) : (r.freq < 4 → PartOk (cL (aE r)) 24) ∧ (r.freq < 5 → PartOk (bA (aE r)) 60) ∧ (r.freq < 6 → PartOk (bI (aE r)) 60) := by
 have hs := rp.t1.start
 refine ⟨fun hf => ?_, fun hf => ?_, fun hf => ?_⟩
 ·unfold cL
  split
  ·rw [if_pos (show (aE r).freq < 4 from hf)]
   exact PartOk.one (by show 0 ≤ r.start % 86400 / 3600 ∧ r.start % 86400 / 3600 < 24; omega)
  ·rename_i h
   exact qK rp.t3.h15 (Nat.pos_of_ne_zero h)
 ·unfold bA
  split
  ·rw [if_pos (show (aE r).freq < 5 from hf)]
   exact PartOk.one (by show 0 ≤ r.start % 86400 / 60 % 60 ∧ r.start % 86400 / 60 % 60 < 60; omega)
  ·rename_i h
   exact qK rp.t3.h16 (Nat.pos_of_ne_zero h)
 ·unfold bI
  split
  ·rw [if_pos (show (aE r).freq < 6 from hf)]
   exact PartOk.one (by show 0 ≤ r.start % 86400 % 60 ∧ r.start % 86400 % 60 < 60; omega)
  ·rename_i h
   exact qK rp.t3.h17 (Nat.pos_of_ne_zero h)
theorem aF9 {r : Rul} (rp : RightP r) : ∀ x ∈ bL (aE r), x ≠ 0 := by
 unfold bL
 split
 ·intro x hx
  rw [List.mem_singleton] at hx
  have := Cal.month_bd ((aE r).d / 86400)
  omega
 ·exact xE rp.t3.h11
theorem aH2 {r : Rul} {s : It} {wF : Int → List Int} {nF : Int → Int → List Int} {eF : Int → List Int} (rp : RightP r) (hf : 2 ≤ r.freq) (hn : s.nwm = []) {i : Int} (h0 : 0 ≤ i) (h1 : i < 372 + Cal.lp s.ly) : bad (bH (aE r) wF nF eF) s i = !cW (aZ r) (Cal.daysTo s.ly + i) := by
 obtain ⟨hy, hw, he⟩ := kV rp hf
 obtain ⟨e1, e2, e3, _⟩ := sM r
 unfold bad
 rw [show uU (bH (aE r) wF nF eF).weekno s.wno i = false by unfold uU; rw [show (bH (aE r) wF nF eF).weekno.length = 0 from hw]; rfl,
  show uT s.nwm i = false by unfold uT; rw [hn]; rfl,
  show uR (bH (aE r) wF nF eF).easter s.eas i = false by unfold uR; rw [show (bH (aE r) wF nF eF).easter.length = 0 from he]; rfl,
  show mZ (bH (aE r) wF nF eF).yday s.ly i = false by unfold mZ; rw [show (bH (aE r) wF nF eF).yday.length = 0 from hy]; rfl,
  show u7 (bH (aE r) wF nF eF).month s.ly i = _ from aF5 h0 h1, show uG (bH (aE r) wF nF eF).wday s.ly i = _ from aGi (show 1 < (aE r).freq from by show 1 < r.freq; omega), show nH (bH (aE r) wF nF eF).mday (bH (aE r) wF nF eF).nmday s.ly i = _ from aGj h0 h1 (aF9 rp)]
 unfold cW
 rw [e1, e2, e3]
 show (((((((!aJ (bX (aE r)) _) || false) || !yX (bU (aE r)) _) || false) || false) || !uF (bL (aE r)) _) || false) = _
 cases aJ (bX (aE r)) (Cal.monthOf (Cal.daysTo s.ly + i)) <;> cases uF (bL (aE r)) (Cal.daysTo s.ly + i) <;> cases yX (bU (aE r)) (Cal.daysTo s.ly + i) <;> rfl
end Go.Proofs.YtdbbifbmkfmbkaaGreat
