import Derived.Test.YthomapgobmdicaaGreatZri
set_option linter.unusedVariables false
set_option linter.unusedSimpArgs false
set_option maxRecDepth 100000
set_option maxHeartbeats 8000000
namespace Go.Proofs.YthomapgobmdicaaGreat
open Go.RowKit Go.Fr Go.Tab
section
variable {F : Nat -> Prop} {w0 : World} {B : LN} {H : LV} {S : LS}
theorem aI5 {P : Program} {ops : Array Oper} {Q : Exit -> Act -> World -> Prop} {C : World -> Prop} {late : Nat -> Bool} {N : Nat} {L : Fr.Loc} {g i j m : Nat} {listed li lj lm : Array Bool} {o o' o2 : Oper} (hi : ops[i]? = some o) (hj : ops[j]? = some o') (hm : ops[m]? = some o2) (hg : o.guard = none) (hg' : o'.guard = none) (hg2 : o2.guard = none) (hr : Region.ready .any ops listed = [i, j, m]) (hli : listed.setIfInBounds i true = li) (hlj : listed.setIfInBounds j true = lj) (hlm : listed.setIfInBounds m true = lm)
  (h : GO P o Q (fun a' w' => (late i = false -> C w') /\ l3 P ops Q C late g li a' w') N L F w0 B H S)
  (h' : GO P o' Q (fun a' w' => (late j = false -> C w') /\ l3 P ops Q C late g lj a' w') N L F w0 B H S)
  (h2 : GO P o2 Q (fun a' w' => (late m = false -> C w') /\ l3 P ops Q C late g lm a' w') N L F w0 B H S) : GA P ops Q C late (g + 1) listed N L F w0 B H S := fun a w k s => by
 subst hli hlj hlm
 refine ⟨fun h0 => (by rw [hr] at h0; cases h0), fun q hq => ?_⟩
 rw [hr] at hq
 have : q = i \/ q = j \/ q = m := by simpa using hq
 unfold wpOp
 rcases this with rfl | rfl | rfl
 .simp only [hi]
  rw [if_pos (by simp [Region.wanted, hg])]
  exact .inl (h a w k s)
 .simp only [hj]
  rw [if_pos (by simp [Region.wanted, hg'])]
  exact .inl (h' a w k s)
 .simp only [hm]
  rw [if_pos (by simp [Region.wanted, hg2])]
  exact .inl (h2 a w k s)
theorem kY {w : World} {B0 : LN} {H0 : LV} {b1 b4 b8 b9 : Nat} {u v m : Value} {r : Rul} {x : Av} (s : Sees F w0 B0 H0 S w) (hB : ∀ k b, lkp k [(53, b9), (52, b8), (51, b4), (50, b1)] = some b -> lkp k B0 = some b) (h52 : lkp (ky 52 0) H0 = some u) (h53 : lkp (ky 53 0) H0 = some v)
  (hr : ∀ k o, o < 4096 -> k ≠ 52 -> k ≠ 53 -> lkp (ky k o) H0 = lkp (ky k o) (aL 51 0 [m] ++ (aL 50 0 (bG r x) ++ []))) : Sees F w0 [(53, b9), (52, b8), (51, b4), (50, b1)] ((ky 53 0, v) :: (ky 52 0, u) :: (aL 51 0 [m] ++ (aL 50 0 (bG r x) ++ []))) S w :=
 s.to hB (fun k o y ho h => by
  rcases bD h with ⟨e, rfl⟩ | ⟨_, h⟩
  .obtain ⟨rfl, rfl⟩ := iA ho dE e; exact ⟨h53, rfl⟩
  rcases bD h with ⟨e, rfl⟩ | ⟨_, h⟩
  .obtain ⟨rfl, rfl⟩ := iA ho dE e; exact ⟨h52, rfl⟩
  have hk : k = 51 \/ k = 50 := by
   by_cases h1 : k = 51
   .exact .inl h1
   by_cases h2 : k = 50
   .exact .inr h2
   rw [aJ h1 ho _ _ ble, aJ h2 ho _ _ ble] at h
   simp [lkp] at h
  rw [hr k o ho oM oM]
  exact ⟨h, by rcases hk with rfl | rfl <;> rfl⟩) (fun _ _ h => h)
theorem aNj {n m : Nat} {r : Rul} {x : Av} {b1 b4 b8 b9 : Nat} (h : BkL (fun b => b < n \/ m <= b) r x) (g1 : b1 < m) (g4 : b4 < m) (g8 : b8 < m) (g9 : b9 < m) (h1 : n <= b1) (h4 : n <= b4) (h8 : n <= b8) (h9 : n <= b9) : BkL (fun b => ¬(b = b1 \/ b = b4 \/ b = b8 \/ b = b9)) r x :=
 have f : ∀ b, (b < n \/ m <= b) -> ¬(b = b1 \/ b = b4 \/ b = b8 \/ b = b9) := fun b h => by omega
 ⟨fun a b o e => f b (h.g9 a b o e), fun a b o e => f b (h.g10 a b o e), fun a b o e => f b (h.g11 a b o e), fun a b o e => f b (h.g12 a b o e), fun a b o e => f b (h.g13 a b o e), fun a b o e => f b (h.g14 a b o e), fun a b o e => f b (h.g15 a b o e), fun a b o e => f b (h.g16 a b o e), fun a b o e => f b (h.g17 a b o e), fun a b o e => f b (h.g18 a b o e)⟩
theorem oW {j k o : Nat} {v : Value} {H : LV} : ∀ {cs : List Value} {i : Nat}, cellsAt j H i cs -> i + cs.length <= 4096 -> j ≠ k -> o < 4096 -> cellsAt j ((ky k o, v) :: H) i cs
 | [], _, _, _, _, _ => trivial
 | u :: cs, i, h, hb, hj, ho => by
  rw [List.length_cons] at hb
  exact ⟨(aA (fun e => hj (iA oM ho e).1) _ _).trans h.1, oW h.2 oM hj ho⟩
theorem nD {F' : Nat -> Prop} {w w1 w2 : World} {B0 B : LN} {H0 H : LV} {S : LS} (s1 : Sees (fun _ => False) w B0 H0 [] w1) (s : Sees F' w1 B H S w2) (hF : ∀ b, F' b -> w.heap.size <= b) {k : Nat} {q : Slc} (hk : lkp k S = some q) : gC w w2 q.v q.e q.sz q.n q.xs :=
 ⟨⟨s.os.trans s1.os, s.tape.trans s1.tape, s.output.trans s1.output, Nat.le_trans s1.size s.size, fun k hk => (s.frame k (Nat.lt_of_lt_of_le hk s1.size) (fun h => by have := hF k h; omega)).trans (s1.frame k hk (fun h => h))⟩, s.slcs k q hk, fun b hb => by
  rcases Nat.lt_or_ge b w1.heap.size with h | h
  .exact hF b (s.smay k q b hk hb h)
  .exact Nat.le_trans s1.size h⟩
open Go.Md
theorem aNh {k iv : Int} (hk : 0 <= k /\ k <= 100000) (hi : 1 <= iv /\ iv <= 1000) : 0 <= k * iv /\ k * iv <= 100000000 := ⟨Int.mul_nonneg hk.1 oM, Int.le_trans (Int.mul_le_mul hk.2 hi.2 oM oM) oM⟩
theorem aBm (r q : Rul) (x : Av) (dayF : Int -> Bool) (most : Int) (work : Nat) (hq : aV r = q) (hs : 1 <= r.start /\ r.start < Cal.daysTo 9000 * 86400) (hf : 0 <= r.aP2 /\ r.aP2 <= 6) (hi : 1 <= r.aPp /\ r.aPp <= 1000) (hwk : 0 <= r.aPq /\ r.aPq <= 6) (hl : LenL r) (hlq : LenL q) (hm : 0 <= most /\ most <= 1000000) (hwork : work <= 100000)
  (hday : ∀ (x2 : Av) (day : Int), 0 <= day /\ day <= 5000000 -> ∀ w, InL w q x2 -> CB 47 #[.agg (bG q x2).toArray, iV day] w (.bool (dayF day))) (w : World) (hin : InL w r x) (hb : BkL (fun b => b < w.heap.size) r x) :
  Calls Tryz.prog 21 #[.agg (bG r x).toArray, iV most, iV (work : Int)] w fun e w' => ∃ (b : Bool) (l : List Int) (p : Option Addr) (c : Nat), Dw q dayF (fJ r) most 0 (work : Int) [] (cond b (some l) none) /\ e = .returned (.tuple #[.slice p l.length c, .bool b]) /\ gC w w' (.slice p l.length c) 2 1 l.length (l.map iV) := by
 obtain ⟨e1, e2, e3, e4, e5, e6, e7, e8, e9⟩ := cU r
 rw [hq] at e1 e2 e3 e4 e5 e6 e7 e8 e9
 obtain ⟨l9, l10, l11, l12, l13, l14, l15, l16, l17, l18⟩ := hlq
 have hN1 : Cal.daysTo 9000 = 3286817 := by decide
 have hN2 : Cal.daysTo 10000 = 3652059 := by decide
 have hyb : 1 <= Cal.yearOf (r.start / 86400) := (iQ (x := r.start) oM).2.2.1
 have hye := Cal.year_le (r.start / 86400) oM
 have hmb := Cal.month_bd (r.start / 86400)
 refine aF (args := [.agg (bG r x).toArray, iV most, iV ((work : Int))]) (L := [(0, .agg (bG r x).toArray), (1, iV most), (2, iV ((work : Int)))]) (N := 189) Tryz.func21 rfl rfl ble rfl (sS w) (g2 ?_)
 refine gL (fU 50 (cs := bG r x) dE rfl rfl rfl (fun o ho => rfl) ble (fun b1 hb1 => gL (fU 51 (cs := [iV most]) dE rfl rfl rfl (fun o ho => by repeat (first | rfl | rw [aJ dE ho _ _ ble])) ble (fun b4 hb4 => g4 ?_))))
 refine cO (ι := (Nat) × (Nat)) (fun | ⟨b8, b9⟩ => (w.heap.size <= b8) /\ (w.heap.size <= b9)) (fun | ⟨b8, b9⟩ => [(2, iV ((work : Int))), (3, pT b1), (4, pT b4), (8, pT b8), (9, pT b9)]) (fun | ⟨b8, b9⟩ => [(53, b9), (52, b8), (51, b4), (50, b1)]) (fun _ => ((ky 53 0, iV (fJ r)) :: (ky 52 0, iV r.start) :: (aL 51 0 [iV most] ++ (aL 50 0 (bG r x) ++ [])))) (fun _ => []) ?_ ?_
 .refine u4 (Sees (fun _ => False) w [(51, b4), (50, b1)] (aL 51 0 [iV most] ++ (aL 50 0 (bG r x) ++ [])) []) (fun i => false) kR (gr 0 rfl (rfa 2) (gr 1 rfl (rld 50 rfl rfl rfl) (gr 2 rfl ((dC 50 (cs := bG r x) rfl rfl (fun i u h => by have hlt_ : i < 18 := (List.getElem?_eq_some_iff.1 h).1; first | exact eD (bG r x) 0 ble i u h | (rcases i with _|_|_|_|_|_|_|_|_|_|_|_|_|_|_|_|_|_|i <;> first | exact h | omega)) ble kR)) ?_)))
  refine aI5 (i := 3) (j := 4) (m := 5) rfl rfl rfl rfl rfl rfl kR rfl rfl rfl ?_ ?_ ?_
  .refine cvo rfl (fun w_ s_ => kO r x oM w_) (fS (fun _ w s => by exact s.low 52 kI agx agx agx) ?_)
   refine l6 (i := 4) (j := 5) rfl rfl rfl rfl kR rfl rfl ?_ ?_
   .refine alo 52 (cs := [iV 0]) kR rfl (fun b8 hb8 => fS (fun _ w s => by exact s.low 52 kI agx agx agx) ?_)
    refine gn 5 rfl (alo 53 (cs := [iV 0]) kR rfl (fun b9 hb9 => fS (fun _ w s => by exact s.low 52 kI agx agx agx) (gn 6 rfl (sto 52 rfl rfl rfl rfl (fS (fun _ w s => by exact s.low 52 kI agx agx agx) (gn 7 rfl (sto 53 rfl rfl rfl rfl (fS (fun _ w s => by exact s.low 52 kI agx agx agx) (fM kR ?_)))))))))
    refine aK (ι := Nat × Nat) ⟨b8, b9⟩ ⟨hb8, hb9⟩ kns (fun w s => kY s (fun k b h => by rcases bD h with ⟨rfl, rfl⟩ | ⟨_, h⟩; exact rfl; rcases bD h with ⟨rfl, rfl⟩ | ⟨_, h⟩; exact rfl; rcases bD h with ⟨rfl, rfl⟩ | ⟨_, h⟩; exact rfl; rcases bD h with ⟨rfl, rfl⟩ | ⟨_, h⟩; exact rfl;  simp [lkp] at h) rfl rfl (fun k o ho h1 h2 => by repeat (first | rfl | rw [bV h1 ho dE] | rw [bV h2 ho dE] | rw [aJ h1 ho _ _ ble] | rw [aJ h2 ho _ _ ble])))
   .refine alo 53 (cs := [iV 0]) kR rfl (fun b9 hb9 => fS (fun _ w s => by exact s.low 52 kI agx agx agx) ?_)
    refine gn 4 rfl (alo 52 (cs := [iV 0]) kR rfl (fun b8 hb8 => fS (fun _ w s => by exact s.low 52 kI agx agx agx) (gn 6 rfl (sto 52 rfl rfl rfl rfl (fS (fun _ w s => by exact s.low 52 kI agx agx agx) (gn 7 rfl (sto 53 rfl rfl rfl rfl (fS (fun _ w s => by exact s.low 52 kI agx agx agx) (fM kR ?_)))))))))
    refine aK (ι := Nat × Nat) ⟨b8, b9⟩ ⟨hb8, hb9⟩ kns (fun w s => kY s (fun k b h => by rcases bD h with ⟨rfl, rfl⟩ | ⟨_, h⟩; exact rfl; rcases bD h with ⟨rfl, rfl⟩ | ⟨_, h⟩; exact rfl; rcases bD h with ⟨rfl, rfl⟩ | ⟨_, h⟩; exact rfl; rcases bD h with ⟨rfl, rfl⟩ | ⟨_, h⟩; exact rfl;  simp [lkp] at h) rfl rfl (fun k o ho h1 h2 => by repeat (first | rfl | rw [bV h1 ho dE] | rw [bV h2 ho dE] | rw [aJ h1 ho _ _ ble] | rw [aJ h2 ho _ _ ble])))
  .refine alo 52 (cs := [iV 0]) kR rfl (fun b8 hb8 => fS (fun _ w s => by exact s.low 52 kI agx agx agx) ?_)
   refine l6 (i := 3) (j := 5) rfl rfl rfl rfl kR rfl rfl ?_ ?_
   .refine cvo rfl (fun w_ s_ => kO r x oM w_) (fS (fun _ w s => by exact s.low 52 kI agx agx agx) ?_)
    refine gn 5 rfl (alo 53 (cs := [iV 0]) kR rfl (fun b9 hb9 => fS (fun _ w s => by exact s.low 52 kI agx agx agx) (gn 6 rfl (sto 52 rfl rfl rfl rfl (fS (fun _ w s => by exact s.low 52 kI agx agx agx) (gn 7 rfl (sto 53 rfl rfl rfl rfl (fS (fun _ w s => by exact s.low 52 kI agx agx agx) (fM kR ?_)))))))))
    refine aK (ι := Nat × Nat) ⟨b8, b9⟩ ⟨hb8, hb9⟩ kns (fun w s => kY s (fun k b h => by rcases bD h with ⟨rfl, rfl⟩ | ⟨_, h⟩; exact rfl; rcases bD h with ⟨rfl, rfl⟩ | ⟨_, h⟩; exact rfl; rcases bD h with ⟨rfl, rfl⟩ | ⟨_, h⟩; exact rfl; rcases bD h with ⟨rfl, rfl⟩ | ⟨_, h⟩; exact rfl;  simp [lkp] at h) rfl rfl (fun k o ho h1 h2 => by repeat (first | rfl | rw [bV h1 ho dE] | rw [bV h2 ho dE] | rw [aJ h1 ho _ _ ble] | rw [aJ h2 ho _ _ ble])))
   .refine alo 53 (cs := [iV 0]) kR rfl (fun b9 hb9 => fS (fun _ w s => by exact s.low 52 kI agx agx agx) ?_)
    refine gn 3 rfl (cvo rfl (fun w_ s_ => kO r x oM w_) (fS (fun _ w s => by exact s.low 52 kI agx agx agx) (gn 6 rfl (sto 52 rfl rfl rfl rfl (fS (fun _ w s => by exact s.low 52 kI agx agx agx) (gn 7 rfl (sto 53 rfl rfl rfl rfl (fS (fun _ w s => by exact s.low 52 kI agx agx agx) (fM kR ?_)))))))))
    refine aK (ι := Nat × Nat) ⟨b8, b9⟩ ⟨hb8, hb9⟩ kns (fun w s => kY s (fun k b h => by rcases bD h with ⟨rfl, rfl⟩ | ⟨_, h⟩; exact rfl; rcases bD h with ⟨rfl, rfl⟩ | ⟨_, h⟩; exact rfl; rcases bD h with ⟨rfl, rfl⟩ | ⟨_, h⟩; exact rfl; rcases bD h with ⟨rfl, rfl⟩ | ⟨_, h⟩; exact rfl;  simp [lkp] at h) rfl rfl (fun k o ho h1 h2 => by repeat (first | rfl | rw [bV h1 ho dE] | rw [bV h2 ho dE] | rw [aJ h1 ho _ _ ble] | rw [aJ h2 ho _ _ ble])))
  .refine alo 53 (cs := [iV 0]) kR rfl (fun b9 hb9 => fS (fun _ w s => by exact s.low 52 kI agx agx agx) ?_)
   refine l6 (i := 3) (j := 4) rfl rfl rfl rfl kR rfl rfl ?_ ?_
   .refine cvo rfl (fun w_ s_ => kO r x oM w_) (fS (fun _ w s => by exact s.low 52 kI agx agx agx) ?_)
    refine gn 4 rfl (alo 52 (cs := [iV 0]) kR rfl (fun b8 hb8 => fS (fun _ w s => by exact s.low 52 kI agx agx agx) (gn 6 rfl (sto 52 rfl rfl rfl rfl (fS (fun _ w s => by exact s.low 52 kI agx agx agx) (gn 7 rfl (sto 53 rfl rfl rfl rfl (fS (fun _ w s => by exact s.low 52 kI agx agx agx) (fM kR ?_)))))))))
    refine aK (ι := Nat × Nat) ⟨b8, b9⟩ ⟨hb8, hb9⟩ kns (fun w s => kY s (fun k b h => by rcases bD h with ⟨rfl, rfl⟩ | ⟨_, h⟩; exact rfl; rcases bD h with ⟨rfl, rfl⟩ | ⟨_, h⟩; exact rfl; rcases bD h with ⟨rfl, rfl⟩ | ⟨_, h⟩; exact rfl; rcases bD h with ⟨rfl, rfl⟩ | ⟨_, h⟩; exact rfl;  simp [lkp] at h) rfl rfl (fun k o ho h1 h2 => by repeat (first | rfl | rw [bV h1 ho dE] | rw [bV h2 ho dE] | rw [aJ h1 ho _ _ ble] | rw [aJ h2 ho _ _ ble])))
   .refine alo 52 (cs := [iV 0]) kR rfl (fun b8 hb8 => fS (fun _ w s => by exact s.low 52 kI agx agx agx) ?_)
    refine gn 3 rfl (cvo rfl (fun w_ s_ => kO r x oM w_) (fS (fun _ w s => by exact s.low 52 kI agx agx agx) (gn 6 rfl (sto 52 rfl rfl rfl rfl (fS (fun _ w s => by exact s.low 52 kI agx agx agx) (gn 7 rfl (sto 53 rfl rfl rfl rfl (fS (fun _ w s => by exact s.low 52 kI agx agx agx) (fM kR ?_)))))))))
    refine aK (ι := Nat × Nat) ⟨b8, b9⟩ ⟨hb8, hb9⟩ kns (fun w s => kY s (fun k b h => by rcases bD h with ⟨rfl, rfl⟩ | ⟨_, h⟩; exact rfl; rcases bD h with ⟨rfl, rfl⟩ | ⟨_, h⟩; exact rfl; rcases bD h with ⟨rfl, rfl⟩ | ⟨_, h⟩; exact rfl; rcases bD h with ⟨rfl, rfl⟩ | ⟨_, h⟩; exact rfl;  simp [lkp] at h) rfl rfl (fun k o ho h1 h2 => by repeat (first | rfl | rw [bV h1 ho dE] | rw [bV h2 ho dE] | rw [aJ h1 ho _ _ ble] | rw [aJ h2 ho _ _ ble])))
 rintro ⟨b8, b9⟩ ⟨hb8, hb9⟩
 refine dS ?_
 refine g2 ?_
 refine rl ((dC 50 (cs := bG r x) rfl rfl (fun i u h => by have hlt_ : i < 18 := (List.getElem?_eq_some_iff.1 h).1; first | exact eD (bG r x) 0 ble i u h | (rcases i with _|_|_|_|_|_|_|_|_|_|_|_|_|_|_|_|_|_|i <;> first | exact h | omega)) ble kR)) ?_
 refine gL (aEu (F' := fun b => b = b1 \/ b = b4 \/ b = b8 \/ b = b9) (fun y : Av => .agg (bG q y).toArray) (fun y w1 => InL w1 q y /\ BkL (fun b => ¬(b = b1 \/ b = b4 \/ b = b8 \/ b = b9)) q y) (fun k b h => by rcases bD h with ⟨rfl, rfl⟩ | ⟨_, h⟩; exact .inr (.inr (.inr rfl)); rcases bD h with ⟨rfl, rfl⟩ | ⟨_, h⟩; exact .inr (.inr (.inl rfl)); rcases bD h with ⟨rfl, rfl⟩ | ⟨_, h⟩; exact .inr (.inl rfl); rcases bD h with ⟨rfl, rfl⟩ | ⟨_, h⟩; exact .inl rfl; simp [lkp] at h) rfl (fun w_ s_ => (aEa (G := fun b => b < w.heap.size) r x oM oM hl w_ (InL.see s_ hin) hb).mono fun e w' ⟨y, h1, h2, h3, h4⟩ => ⟨y, by rw [h1, hq], h2, by rw [<- hq]; exact h3, by rw [<- hq]; exact aNj h4 (s_.lt 50 b1 rfl) (s_.lt 51 b4 rfl) (s_.lt 52 b8 rfl) (s_.lt 53 b9 rfl) hb1 hb4 hb8 hb9⟩) (fun x2 w1 s1 hx2 => ?_))
 obtain ⟨hin2, hbk⟩ := hx2
 refine gL (cI 50 (cs := (bG q x2).toArray) rfl rfl rfl rfl kR rfl ble (g4 ?_))
 refine gL (alo 54 (cs := [sN]) kR rfl (fun b10 hb10 => g4 ?_))
 refine rZ7 ((iJ (first := []) (capt := [pT b1, pT b8, pT b10, pT b4, pT b9]) rfl rfl)) ?_
 refine gL (cvo rfl (fun w_ s_ => lU _ oM w_) (g20 ?_))
 refine g2 ?_
 refine aY (ι := (Nat) × (Nat) × (List Int) × (Option Addr) × (Nat) × (LV)) (fun | ⟨k, wk, o, p, c, Hx⟩ => wk) (fun | ⟨k, wk, o, p, c, Hx⟩ => (k + wk <= 100000) /\ (∀ l, Dw q dayF (fJ r) most k (wk : Int) o l -> Dw q dayF (fJ r) most 0 (work : Int) [] l) /\ ((o.length : Int) <= most) /\ ((cellsAt 50 Hx 0 (bG q x2) /\ lkp (ky 51 0) Hx = some (iV most) /\ lkp (ky 52 0) Hx = some (iV r.start) /\ lkp (ky 53 0) Hx = some (iV (fJ r)) /\ Lim 55 [(54, b10), (53, b9), (52, b8), (51, b4), (50, b1)] Hx [])) /\ (lkp (ky 54 0) Hx = some (.slice p o.length c))) (fun | ⟨k, wk, o, p, c, Hx⟩ => [(3, pT b1), (4, pT b4), (8, pT b8), (9, pT b9), (10, pT b10), (11, .func (.func 41) #[] #[pT b1, pT b8, pT b10, pT b4, pT b9]), (12, iV (Cal.yearOf (r.start / 86400))), (13, iV (Cal.monthOf (r.start / 86400))), (15, iV (q.aPp)), (2, iV ((wk : Int))), (16, iV ((k : Int)))]) (fun _ => [(54, b10), (53, b9), (52, b8), (51, b4), (50, b1)]) (fun | ⟨k, wk, o, p, c, Hx⟩ => Hx) (fun | ⟨k, wk, o, p, c, Hx⟩ => [(55, ⟨.slice p o.length c, 2, 1, o.length, (o.map iV)⟩)]) ⟨0, work, [], none, 0, (aL 54 0 [sN] ++ dL 50 0 (bG q x2).toArray.toList ((ky 53 0, iV (fJ r)) :: (ky 52 0, iV r.start) :: (aL 51 0 [iV most] ++ (aL 50 0 (bG r x) ++ []))))⟩ ⟨by omega, fun l h => h, by simp; omega, ⟨⟨rfl, rfl, rfl, rfl, rfl, rfl, rfl, rfl, rfl, rfl, rfl, rfl, rfl, rfl, rfl, rfl, rfl, rfl, trivial⟩, rfl, rfl, rfl, ⟨fun k hk => by repeat (first | rfl | rw [aA oM]), fun k hk o ho => by repeat (first | rw [aJ oM ho _ _ ble] | rw [dA oM ho _ _ ble] | rw [bV oM ho dE] | rfl), fun k hk => rfl⟩⟩, rfl⟩ kno (fun w s => by exact s.aPm 55 2 1) ?_
 rintro ⟨k, wk, o, p, c, Hx⟩ ⟨hkw, hD, hom, hH, h54⟩
 refine dS ?_
 obtain ⟨hcl, h51, h52, h53, limH⟩ := hH
 have hcl2 := hcl
 obtain ⟨q0, q1, q2, q3, q4, q5, q6, q7, q8, q9, q10, q11, q12, q13, q14, q15, q16, q17, _⟩ := hcl2
 have hki := aNh (k := (k : Int)) (iv := q.aPp) oM oM
 have h7 : 7 * (k : Int) * q.aPp = 7 * (k * q.aPp) := Int.mul_assoc _ _ _
 refine g13 ?_
 refine cO (ι := (Int) × (Int)) (fun | ⟨first, many⟩ => (cH q k = first) /\ (fH q k = many) /\ (¬ (q.aP2 = 0 /\ 9999 < pY q k) /\ ¬ (q.aP2 = 1 /\ 9999 < pM q k)) /\ (q.aP2 <= 3) /\ (1 <= many /\ many <= 366) /\ (-7 <= first /\ first <= 1000000000000)) (fun | ⟨first, many⟩ => [(3, pT b1), (4, pT b4), (8, pT b8), (9, pT b9), (10, pT b10), (11, .func (.func 41) #[] #[pT b1, pT b8, pT b10, pT b4, pT b9]), (12, iV (Cal.yearOf (r.start / 86400))), (13, iV (Cal.monthOf (r.start / 86400))), (15, iV (q.aPp)), (2, iV ((wk : Int))), (16, iV ((k : Int))), (17, sN), (18, iV first), (19, iV many)]) (fun _ => [(54, b10), (53, b9), (52, b8), (51, b4), (50, b1)]) (fun _ => Hx) (fun _ => [(55, ⟨.slice p o.length c, 2, 1, o.length, (o.map iV)⟩)]) ?_ ?_
 .refine g13 ?_
  refine aB rfl (fun hc1 => ?_) (fun hc2 => ?_)
  .have hf0 : q.aP2 = 0 := beq_iff_eq.1 hc1
   refine g6 ?_
   refine rl ((gQ rfl rfl oM).to (v' := iV (pY q k)) (congrArg (Value.int .i64) (by unfold pY; rw [e1]))) (g10 ?_)
   refine aB rfl (fun hc1 => ?_) (fun hc2 => ?_)
   .have hpy : 9999 < pY q k := oT hc1
    have hov : eE q k := by unfold eE; exact .inl ⟨hf0, hpy⟩
    refine g15 ?_
    exact d9 (.inl rfl) rfl (aE rfl) (aE rfl) fun w_ s_ => ⟨true, o, p, c, hD _ (.over hov oM), rfl, nD s1 s_ (fun b h => by rcases h with rfl | rfl | rfl | rfl <;> assumption) (k := 55) rfl⟩
   .have hpy : ¬ 9999 < pY q k := oF hc2
    have hpy1 : 1 <= pY q k := by unfold pY; rw [e1]; omega
    have hlp := Cal.lp_01 (pY q k)
    have hdt : 0 <= Cal.daysTo (pY q k) /\ Cal.daysTo (pY q k) <= 4000000 := by unfold Cal.daysTo; omega
    refine g4 ?_
    refine gL (cvo rfl (fun w_ s_ => eO _ oM w_) (g1 ?_))
    refine gL (cvo rfl (fun w_ s_ => gY _ oM w_) (g4 ?_))
    refine aK (ι := Int × Int) (⟨Cal.daysTo (pY q k), 365 + Cal.lp (pY q k)⟩) (⟨by unfold cH; rw [if_pos hf0], by unfold fH; rw [if_pos hf0], ⟨fun h => hpy h.2, fun h => by omega⟩, by omega, by omega, by omega⟩) kno (fun w s => s)
  .have hf0 : q.aP2 ≠ 0 := beq_eq_false_iff_ne.1 hc2
   refine g6 ?_
   refine aB rfl (fun hc1 => ?_) (fun hc2 => ?_)
   .have hf1 : q.aP2 = 1 := beq_iff_eq.1 hc1
    have hpn : 0 <= pN q k /\ pN q k <= 100000100 := by unfold pN; rw [e1]; omega
    refine g7 ?_
    refine rZ8 ((gQ rfl rfl oM).to (v' := iV (pN q k)) (congrArg (Value.int .i64) (by unfold pN; rw [e1]))) ?_
    refine rl ((gQ rfl rfl oM).to (v' := iV (pM q k)) (congrArg (Value.int .i64) (by unfold pM; rw [e1]))) (g10 ?_)
    refine aB rfl (fun hc1 => ?_) (fun hc2 => ?_)
    .have hpy : 9999 < pM q k := oT hc1
     have hov : eE q k := by unfold eE; exact .inr (.inl ⟨hf1, hpy⟩)
     refine g15 ?_
     exact d9 (.inl rfl) rfl (aE rfl) (aE rfl) fun w_ s_ => ⟨true, o, p, c, hD _ (.over hov oM), rfl, nD s1 s_ (fun b h => by rcases h with rfl | rfl | rfl | rfl <;> assumption) (k := 55) rfl⟩
    .have hpy : ¬ 9999 < pM q k := oF hc2
     have hpn : 0 <= pN q k := by unfold pN; rw [e1]; omega
     have hpy1 : 1 <= pM q k := by unfold pM; rw [e1]; omega
     have hmd := Cal.mdays_bd (pN q k % 12 + 1) (pM q k)
     have hcu := Cal.cum_bd (pM q k) (pN q k % 12 + 1 - 1).toNat
     have hdt : 0 <= Cal.daysTo (pM q k) /\ Cal.daysTo (pM q k) <= 4000000 := by unfold Cal.daysTo; omega
     refine g7 ?_
     refine gL (cvo rfl (fun w_ s_ => mH _ _ _ oM oM oM w_) (g4 ?_))
     refine gL (cvo rfl (fun w_ s_ => fQ _ _ oM w_) (g4 ?_))
     refine aK (ι := Int × Int) (⟨Cal.daysTo (pM q k) + 1 - 1 + Cal.cum (pM q k) (pN q k % 12 + 1 - 1).toNat, Cal.mdays (pN q k % 12 + 1) (pM q k)⟩) (⟨by unfold cH; rw [if_neg hf0, if_pos hf1], by unfold fH; rw [if_neg hf0, if_pos hf1], ⟨fun h => hf0 h.1, fun h => hpy h.2⟩, by omega, by omega, by omega⟩) kno (fun w s => s)
   .have hf1 : q.aP2 ≠ 1 := beq_eq_false_iff_ne.1 hc2
    refine g6 ?_
    refine aB rfl (fun hc1 => ?_) (fun hc2 => ?_)
    .have hf2 : q.aP2 = 2 := beq_iff_eq.1 hc1
     have hpv : cH q k = r.start / 86400 - (r.start / 86400 % 7 - q.aPq + 7) % 7 + 7 * k * q.aPp := by unfold cH; rw [if_neg hf0, if_neg hf1, if_pos hf2, e1]
     refine g11 ?_
     refine cJ dE kR rfl (fun w_ s_ => jG _ oM w_) ?_
     refine g10 ?_
     refine rq ((gQ rfl rfl oM).to (v' := iV (cH q k)) (congrArg (Value.int .i64) (by unfold cH; rw [if_neg hf0, if_neg hf1, if_pos hf2, e1]))) (g7 ?_)
     refine aK (ι := Int × Int) (⟨cH q k, 7⟩) (⟨rfl, by unfold fH; rw [if_neg hf0, if_neg hf1, if_pos hf2], ⟨fun h => hf0 h.1, fun h => hf1 h.1⟩, by omega, by omega, by omega⟩) kno (fun w s => s)
    .have hf2 : q.aP2 ≠ 2 := beq_eq_false_iff_ne.1 hc2
     refine g6 ?_
     refine aB rfl (fun hc1 => ?_) (fun hc2 => ?_)
     .have hf3 : q.aP2 = 3 := beq_iff_eq.1 hc1
      have hpv : cH q k = r.start / 86400 + k * q.aPp := by unfold cH; rw [if_neg hf0, if_neg hf1, if_neg hf2, if_pos hf3, e1]
      refine g6 ?_
      refine rZ4 ((gQ rfl rfl oM).to (v' := iV (cH q k)) (congrArg (Value.int .i64) (by unfold cH; rw [if_neg hf0, if_neg hf1, if_neg hf2, if_pos hf3, e1]))) ?_
      refine aK (ι := Int × Int) (⟨cH q k, 1⟩) (⟨rfl, by unfold fH; rw [if_neg hf0, if_neg hf1, if_neg hf2], ⟨fun h => hf0 h.1, fun h => hf1 h.1⟩, by omega, by omega, by omega⟩) kno (fun w s => s)
     .have hf3 : q.aP2 ≠ 3 := beq_eq_false_iff_ne.1 hc2
      refine cO (ι := (Int)) (fun u => (UN q.aP2 = u) /\ (1 <= u /\ u <= 3600)) (fun u => [(3, pT b1), (4, pT b4), (8, pT b8), (9, pT b9), (10, pT b10), (11, .func (.func 41) #[] #[pT b1, pT b8, pT b10, pT b4, pT b9]), (12, iV (Cal.yearOf (r.start / 86400))), (13, iV (Cal.monthOf (r.start / 86400))), (15, iV (q.aPp)), (2, iV ((wk : Int))), (16, iV ((k : Int))), (17, sN), (24, iV u)]) (fun u => [(54, b10), (53, b9), (52, b8), (51, b4), (50, b1)]) (fun u => Hx) (fun u => [(55, ⟨.slice p o.length c, 2, 1, o.length, (o.map iV)⟩)]) ?_ ?_
      .rcases (by omega : q.aP2 = 4 \/ q.aP2 = 5 \/ q.aP2 = 6) with hqf | hqf | hqf
       .refine g1 ?_
        refine gL (fY 50 (e := 2) (sz := 1) (n := 3) (vs := [(0, iV 3600), (1, iV 60), (2, iV 1)]) (cs := [iV 3600, iV 60, iV 1]) dE rfl kW rfl dE dE rfl (fun b1_ hbb1_ => g1 ?_))
        refine rl ((rld 50 rfl rfl q0).to (v' := .int .u8 4) (congrArg (Value.int .u8) hqf)) (rl ((n8 rfl rfl).to (v' := .int .u8 0) rfl) (rl (aC (e := 2) (n := 1) kR rfl rfl oM oM) (rZ2 (bQ 50 rfl rfl rfl rfl kR) ?_)))
        refine aK (ι := Int) (3600) (⟨by unfold UN; rw [hqf]; rfl, by decide⟩) kno (fun w s => Sees.tailS s rfl)
       .refine g1 ?_
        refine gL (fY 50 (e := 2) (sz := 1) (n := 3) (vs := [(0, iV 3600), (1, iV 60), (2, iV 1)]) (cs := [iV 3600, iV 60, iV 1]) dE rfl kW rfl dE dE rfl (fun b2_ hbb2_ => g1 ?_))
        refine rl ((rld 50 rfl rfl q0).to (v' := .int .u8 5) (congrArg (Value.int .u8) hqf)) (rl ((n8 rfl rfl).to (v' := .int .u8 1) rfl) (rl (aC (e := 2) (n := 1) kR rfl rfl oM oM) (rZ2 (bQ 50 rfl rfl rfl rfl kR) ?_)))
        refine aK (ι := Int) (60) (⟨by unfold UN; rw [hqf]; rfl, by decide⟩) kno (fun w s => Sees.tailS s rfl)
       .refine g1 ?_
        refine gL (fY 50 (e := 2) (sz := 1) (n := 3) (vs := [(0, iV 3600), (1, iV 60), (2, iV 1)]) (cs := [iV 3600, iV 60, iV 1]) dE rfl kW rfl dE dE rfl (fun b3_ hbb3_ => g1 ?_))
        refine rl ((rld 50 rfl rfl q0).to (v' := .int .u8 6) (congrArg (Value.int .u8) hqf)) (rl ((n8 rfl rfl).to (v' := .int .u8 2) rfl) (rl (aC (e := 2) (n := 1) kR rfl rfl oM oM) (rZ2 (bQ 50 rfl rfl rfl rfl kR) ?_)))
        refine aK (ι := Int) (1) (⟨by unfold UN; rw [hqf]; rfl, by decide⟩) kno (fun w s => Sees.tailS s rfl)
      rintro u ⟨hu, hub⟩
      refine dS ?_
      obtain ⟨hu1, hu2⟩ := hub
      have hmd : 0 <= r.start % u /\ r.start % u < u := ⟨Int.emod_nonneg _ oM, Int.emod_lt_of_pos _ oM⟩
      have hml : r.start % u <= r.start := by rw [Int.emod_def]; have := Int.mul_nonneg (show 0 <= u by omega) (Int.ediv_nonneg (show 0 <= r.start by omega) (show 0 <= u by omega)); omega
      have hku : 0 <= k * q.aPp * u /\ k * q.aPp * u <= 100000000 * 3600 := ⟨Int.mul_nonneg hki.1 oM, Int.mul_le_mul hki.2 hu2 oM oM⟩
      have hpa : pAt q k = r.start - r.start % u + k * q.aPp * u := by unfold pAt; rw [hu, e1]
      have hpab : 0 <= pAt q k /\ pAt q k <= 1000000000000 := by rw [hpa]; omega
      refine g12 ?_
      refine rq ((gQ rfl rfl oM).to (v' := iV (pAt q k)) (congrArg (Value.int .i64) (by rw [hpa]))) (g20 ?_)
      refine g4 ?_
      refine aB rfl (fun hc1 => ?_) (fun hc2 => ?_)
      .have hwl : (wk : Int) < fH q k := by have := oT hc1; rw [show fH q k = 1 from by unfold fH; rw [if_neg hf0, if_neg hf1, if_neg hf2]]; omega
       refine g14 ?_
       exact d9 (.inl rfl) rfl (aE rfl) (aE rfl) fun w_ s_ => ⟨false, [], none, 0, hD _ (.none (.inl oM) hwl), rfl, nD s1 (s_.aPm 57 2 1) (fun b h => by rcases h with rfl | rfl | rfl | rfl <;> assumption) (k := 57) rfl⟩
      .have hpm : fH q k = 1 := by unfold fH; rw [if_neg hf0, if_neg hf1, if_neg hf2]
       have hwk1 : 1 <= wk := by have := oF hc2; omega
       refine g6 ?_
       refine gL (cvo rfl (fun w_ s_ => eO _ oM w_) (g3 ?_))
       refine aB rfl (fun hc1 => ?_) (fun hc2 => ?_)
       .have hlt_ : Cal.daysTo 10000 <= pAt q k / 86400 := oT hc1
        have hov : eE q k := by unfold eE cH; rw [if_neg hf0, if_neg hf1, if_neg hf2, if_neg hf3]; exact .inr (.inr oM)
        refine g15 ?_
        exact d9 (.inl rfl) rfl (aE rfl) (aE rfl) fun w_ s_ => ⟨true, o, p, c, hD _ (.over hov oM), rfl, nD s1 s_ (fun b h => by rcases h with rfl | rfl | rfl | rfl <;> assumption) (k := 55) rfl⟩
       .have hlt_ : ¬ Cal.daysTo 10000 <= pAt q k / 86400 := oF hc2
        refine g2 ?_
        refine cO (ι := (List Int) × (Option Addr) × (Nat)) (fun | ⟨L, pl, cl⟩ => (L = if dayF (pAt q k / 86400) = true then fP q.hour q.aPr q.aPs (pAt q k / 86400) (pAt q k) (UN q.aP2) else [])) (fun | ⟨L, pl, cl⟩ => [(3, pT b1), (4, pT b4), (8, pT b8), (9, pT b9), (10, pT b10), (11, .func (.func 41) #[] #[pT b1, pT b8, pT b10, pT b4, pT b9]), (12, iV (Cal.yearOf (r.start / 86400))), (13, iV (Cal.monthOf (r.start / 86400))), (15, iV (q.aPp)), (2, iV ((wk : Int) - 1)), (16, iV ((k : Int))), (18, iV (pAt q k / 86400)), (24, iV u), (25, iV (pAt q k)), (17, .slice pl L.length cl)]) (fun _ => [(54, b10), (53, b9), (52, b8), (51, b4), (50, b1)]) (fun _ => Hx) (fun | ⟨L, pl, cl⟩ => [(56, ⟨.slice pl L.length cl, 2, 1, L.length, (L.map iV)⟩), (55, ⟨.slice p o.length c, 2, 1, o.length, (o.map iV)⟩)]) ?_ ?_
        .refine g2 ?_
         refine rZ1 ((dC 50 (cs := bG q x2) rfl rfl (fun i u h => by have := hcl.get i u h; rwa [Nat.zero_add] at this ⊢) ble kR)) ?_
         refine gL (cvo (v := .bool (dayF (pAt q k / 86400))) rfl (fun w_ s_ => hday x2 _ oM w_ (InL.seeF (F := fun b => b = b1 \/ b = b4 \/ b = b8 \/ b = b9) s_ hin2 hbk)) (g2 ?_))
         refine aB rfl (fun hc1 => ?_) (fun hc2 => ?_)
         .refine g1 ?_
          refine rZ3 ((dC 50 (cs := bG q x2) rfl rfl (fun i u h => by have := hcl.get i u h; rwa [Nat.zero_add] at this ⊢) ble kR)) ?_
          refine gL (bL 56 (e := 2) (sz := 1) (n := (fP q.hour q.aPr q.aPs (pAt q k / 86400) (pAt q k) (u)).length) (xs := (fP q.hour q.aPr q.aPs (pAt q k / 86400) (pAt q k) (u)).map iV) dE kR rfl (fun w_ s_ => rW q x2 (pAt q k / 86400) (pAt q k) (u) oM oM oM l15 l16 l17 w_ (InL.seeF (F := fun b => b = b1 \/ b = b4 \/ b = b8 \/ b = b9) s_ hin2 hbk)) (fun pl_ cl_ => g2 ?_))
          refine aK (ι := List Int × Option Addr × Nat) (⟨fP q.hour q.aPr q.aPs (pAt q k / 86400) (pAt q k) u, pl_, cl_⟩) (by rw [if_pos hc1, hu]) kno (fun w s => s)
         .refine g1 ?_
          refine aK (ι := List Int × Option Addr × Nat) (⟨[], none, 0⟩) (by rw [if_neg (by rw [hc2]; decide)]) kno (fun w s => s.aPm 56 2 1)
        rintro ⟨L, pl, cl⟩ hL
        refine dS ?_
        have hll : L.length <= 1000000000 := by rw [hL]; split; exact Nat.le_trans (mX _ _ _ _ _ _) dE; simp
        have hpf : cH q k = pAt q k / 86400 := by unfold cH; rw [if_neg hf0, if_neg hf1, if_neg hf2, if_neg hf3]
        have hpm : fH q k = 1 := by unfold fH; rw [if_neg hf0, if_neg hf1, if_neg hf2]
        have hnov : ¬ eE q k := by unfold eE; rw [hpf]; omega
        have hdl : eU q dayF k = L := by unfold eU; rw [if_pos oM, hpf, hL]
        refine g5 ?_
        refine gL (jE (ι := Option Addr × Nat) (first := []) (capt := [pT b1, pT b8, pT b10, pT b4, pT b9]) (fun _ => .bool (dW q r.start (fJ r) most o L).2) (fun _ => True) (fun _ => [(54, b10), (53, b9), (52, b8), (51, b4), (50, b1)]) (fun y => (ky 54 0, .slice y.1 (dW q r.start (fJ r) most o L).1.length y.2) :: Hx) (fun y => (55, ⟨.slice y.1 (dW q r.start (fJ r) most o L).1.length y.2, 2, 1, (dW q r.start (fJ r) most o L).1.length, ((dW q r.start (fJ r) most o L).1.map iV)⟩) :: [(56, ⟨.slice pl L.length cl, 2, 1, L.length, (L.map iV)⟩), (55, ⟨.slice p o.length c, 2, 1, o.length, (o.map iV)⟩)]) dE rfl kR rfl (fun w_ s_ => (qB (r := q) (x := x2) (l := L) rfl rfl rfl rfl rfl q5 q8 h51 h52 h53 h54 rfl rfl (Lim.aPi (Lim.aPi (Lim.mono limH (by decide : 55 <= 57)) dE) dE) ⟨hom, hm.2⟩ hll (fun w_ s_ => (InL.seeF (F := fun b => b = b1 \/ b = b4 \/ b = b8 \/ b = b9) s_ hin2 hbk).i9) l9 w_ s_).mono fun e w' ⟨p', c', he, hs⟩ => ⟨(p', c'), trivial, he, hs⟩) (fun | (p', c'), _ => g3 ?_))
        refine aB rfl (fun hc1 => ?_) (fun hc2 => ?_)
        .have hstop : (dW q r.start (fJ r) most o L).2 = false := by simpa using hc1
         refine g15 ?_
         exact d9 (.inl rfl) rfl (aE rfl) (aE rfl) fun w_ s_ => ⟨true, (dW q r.start (fJ r) most o L).1, p', c', hD _ (by have h_ := Dw.stop (en := fJ r) (most := most) (wk := (wk : Int)) hnov oM (by rw [hdl, e1]; exact hstop); rw [hdl, e1] at h_; exact h_), rfl, nD s1 s_ (fun b h => by rcases h with rfl | rfl | rfl | rfl <;> assumption) (k := 55) rfl⟩
        .have hgo : (dW q r.start (fJ r) most o L).2 = true := by simpa using hc2
         refine g12 ?_
         refine aN ⟨k + 1, wk - 1, (dW q r.start (fJ r) most o L).1, p', c', (ky 54 0, .slice p' (dW q r.start (fJ r) most o L).1.length c') :: Hx⟩ sO ⟨by omega, fun l h => hD l (.more hnov oM (by rw [hdl, e1]; exact hgo) (by rw [hdl, e1]; rw [show ((k + 1 : Nat) : Int) = (k : Int) + 1 by omega, show ((wk - 1 : Nat) : Int) = (wk : Int) - fH q k by omega] at h; exact h)), kC _ _ _ _ _ _ hom, ⟨oW hcl ble dE dE, h51, h52, h53, limH.aPh (k := 54) (o := 0) dE dE⟩, rfl⟩ kno (fun w s => by exact (s.low 56 (Lim.aPi (Lim.mono (limH.aPh (k := 54) (o := 0) dE dE) (by decide : 55 <= 56)) (by decide : 55 < 56)) agx agx agx))
 rintro ⟨first, many⟩ ⟨hpf, hpm, hno, hf3, hmb2, hfb⟩
 refine dS ?_
 refine g4 ?_
 refine gL (cvo rfl (fun w_ s_ => eO _ oM w_) (g3 ?_))
 refine aB rfl (fun hc1 => ?_) (fun hc2 => ?_)
 .have hlt_ : Cal.daysTo 10000 <= first := oT hc1
  have hov : eE q k := by unfold eE; rw [hpf]; exact .inr (.inr oM)
  refine g13 ?_
  exact d9 (.inl rfl) rfl (aE rfl) (aE rfl) fun w_ s_ => ⟨true, o, p, c, hD _ (.over hov oM), rfl, nD s1 s_ (fun b h => by rcases h with rfl | rfl | rfl | rfl <;> assumption) (k := 55) rfl⟩
 .have hlt_ : ¬ Cal.daysTo 10000 <= first := oF hc2
  have hnov : ¬ eE q k := by unfold eE; rw [hpf]; intro h_; rcases h_ with h_ | h_ | h_; exact hno.1 h_; exact hno.2 h_; omega
  refine g16 ?_
  refine g1 ?_
  refine aB rfl (fun hc1 => ?_) (fun hc2 => ?_)
  .have hwl : (wk : Int) < fH q k := by have := oT hc1; rw [hpm]; omega
   refine g12 ?_
   exact d9 (.inl rfl) rfl (aE rfl) (aE rfl) fun w_ s_ => ⟨false, [], none, 0, hD _ (.none (.inr hnov) hwl), rfl, nD s1 (s_.aPm 57 2 1) (fun b h => by rcases h with rfl | rfl | rfl | rfl <;> assumption) (k := 57) rfl⟩
  .have hwk1 : many <= wk := by have := oF hc2; omega
   refine g10 ?_
   refine aY (ι := (Nat) × (List Int) × (Option Addr) × (Nat) × (Nat) × (List Value)) (fun | ⟨j, L, pl, cl, n, xs⟩ => (many - j).toNat) (fun | ⟨j, L, pl, cl, n, xs⟩ => ((j : Int) <= many) /\ (L = kL q dayF first j) /\ (n = L.length) /\ (xs = L.map iV)) (fun | ⟨j, L, pl, cl, n, xs⟩ => [(3, pT b1), (4, pT b4), (8, pT b8), (9, pT b9), (10, pT b10), (11, .func (.func 41) #[] #[pT b1, pT b8, pT b10, pT b4, pT b9]), (12, iV (Cal.yearOf (r.start / 86400))), (13, iV (Cal.monthOf (r.start / 86400))), (15, iV (q.aPp)), (2, iV ((wk : Int) - many)), (16, iV ((k : Int))), (18, iV first), (19, iV many), (162, iV many), (17, .slice pl n cl), (163, iV ((j : Int)))]) (fun _ => [(54, b10), (53, b9), (52, b8), (51, b4), (50, b1)]) (fun _ => Hx) (fun | ⟨j, L, pl, cl, n, xs⟩ => [(56, ⟨.slice pl n cl, 2, 1, n, xs⟩), (55, ⟨.slice p o.length c, 2, 1, o.length, (o.map iV)⟩)]) ⟨0, [], none, 0, 0, []⟩ ⟨by omega, rfl, rfl, rfl⟩ kno (fun w s => by exact s.aPm 56 2 1) ?_
   rintro ⟨j, L, pl, cl, n, xs⟩ ⟨hj, hL, hn, hx⟩
   refine dS ?_
   have hLl := vQ q dayF first j
   rw [<- hL] at hLl
   refine g6 ?_
   refine aB rfl (fun hc1 => ?_) (fun hc2 => ?_)
   .have hlt : (j : Int) < many := oT hc1
    refine g20 ?_
    refine g1 ?_
    by_cases h0 : 0 <= first + j
    .refine rZ2 ((dV rfl rfl).to bT) ?_
     refine rZ3 ((dC 50 (cs := bG q x2) rfl rfl (fun i u h => by have := hcl.get i u h; rwa [Nat.zero_add] at this ⊢) ble kR)) ?_
     rcases bO (dayF (first + j)) with ha | ha
     .refine gL (cvo (v := .bool true) rfl (fun w_ s_ => (hday x2 (first + j) ⟨h0, by omega⟩ w_ (InL.seeF (F := fun b => b = b1 \/ b = b4 \/ b = b8 \/ b = b9) s_ hin2 hbk)).mT (cE ha)) (g3 ?_))
      refine bK rfl rfl ?_
      refine g2 ?_
      refine rZ3 ((dC 50 (cs := bG q x2) rfl rfl (fun i u h => by have := hcl.get i u h; rwa [Nat.zero_add] at this ⊢) ble kR)) ?_
      refine gL (bL 60 (e := 2) (sz := 1) (n := (fP q.hour q.aPr q.aPs (first + j) ((first + j) * 86400) (86400)).length) (xs := (fP q.hour q.aPr q.aPs (first + j) ((first + j) * 86400) (86400)).map iV) dE kR rfl (fun w_ s_ => rW q x2 (first + j) ((first + j) * 86400) (86400) oM oM oM l15 l16 l17 w_ (InL.seeF (F := fun b => b = b1 \/ b = b4 \/ b = b8 \/ b = b9) s_ hin2 hbk)) (fun p6 c6 => gL (yB 56 60 (e := 2) (sz := 1) (by_ := 8) (zs := [iV 0]) (q := ⟨.slice pl n cl, 2, 1, n, xs⟩) (r := ⟨.slice p6 (fP q.hour q.aPr q.aPs (first + j) ((first + j) * 86400) 86400).length c6, 2, 1, (fP q.hour q.aPr q.aPs (first + j) ((first + j) * 86400) 86400).length, ((fP q.hour q.aPr q.aPs (first + j) ((first + j) * 86400) 86400).map iV)⟩) dE kR rfl dE rfl rfl rfl rfl ⟨rfl, rfl⟩ ⟨rfl, rfl⟩ gZ (by have hcl_ := mX q.hour q.aPr q.aPs (first + j) ((first + j) * 86400) 86400; simp only; omega) (by have hcl_ := mX q.hour q.aPr q.aPs (first + j) ((first + j) * 86400) 86400; simp only; omega) (fun p7 c7 => g8 ?_))))
      refine aN ⟨j + 1, L ++ fP q.hour q.aPr q.aPs (first + j) ((first + j) * 86400) 86400, p7, c7, n + (fP q.hour q.aPr q.aPs (first + j) ((first + j) * 86400) 86400).length, xs ++ (fP q.hour q.aPr q.aPs (first + j) ((first + j) * 86400) 86400).map iV⟩ sO ⟨by omega, by rw [o9, <- hL]; unfold j5; rw [if_pos ⟨h0, ha⟩], by rw [List.length_append, hn], by rw [List.map_append, hx]⟩ kno (fun w s => by exact (s.low 57 ((Lim.mono limH (by decide : 55 <= 57)).aPi dE |>.aPi dE) agx agx agx))
     .refine gL (cvo (v := .bool false) rfl (fun w_ s_ => (hday x2 (first + j) ⟨h0, by omega⟩ w_ (InL.seeF (F := fun b => b = b1 \/ b = b4 \/ b = b8 \/ b = b9) s_ hin2 hbk)).mT (cE ha)) (qG ?_))
      refine aN ⟨j + 1, L, pl, cl, n, xs⟩ sO ⟨by omega, by rw [o9, <- hL]; unfold j5; rw [if_neg (fun h_ => by rw [ha] at h_; exact absurd h_.2 dE), List.append_nil], hn, hx⟩ kno (fun w s => by exact (s.low 57 ((Lim.mono limH (by decide : 55 <= 57)).aPi dE |>.aPi dE) agx agx agx))
    .refine wA ((dV rfl rfl).to bF) ?_
     refine aN ⟨j + 1, L, pl, cl, n, xs⟩ sO ⟨by omega, by rw [o9, <- hL]; unfold j5; rw [if_neg (fun h_ => h0 h_.1), List.append_nil], hn, hx⟩ kno (fun w s => by exact (s.low 57 ((Lim.mono limH (by decide : 55 <= 57)).aPi dE |>.aPi dE) agx agx agx))
   .have hje : (j : Int) = many := by have := oF hc2; omega
    subst hn hx
    have hdl : eU q dayF k = L := by unfold eU; rw [if_neg oM, hpf, hpm, hL, show many.toNat = j by omega]
    refine g9 ?_
    refine gL (jE (ι := Option Addr × Nat) (first := []) (capt := [pT b1, pT b8, pT b10, pT b4, pT b9]) (fun _ => .bool (dW q r.start (fJ r) most o L).2) (fun _ => True) (fun _ => [(54, b10), (53, b9), (52, b8), (51, b4), (50, b1)]) (fun y => (ky 54 0, .slice y.1 (dW q r.start (fJ r) most o L).1.length y.2) :: Hx) (fun y => (55, ⟨.slice y.1 (dW q r.start (fJ r) most o L).1.length y.2, 2, 1, (dW q r.start (fJ r) most o L).1.length, ((dW q r.start (fJ r) most o L).1.map iV)⟩) :: [(56, ⟨.slice pl L.length cl, 2, 1, L.length, (L.map iV)⟩), (55, ⟨.slice p o.length c, 2, 1, o.length, (o.map iV)⟩)]) dE rfl kR rfl (fun w_ s_ => (qB (r := q) (x := x2) (l := L) rfl rfl rfl rfl rfl q5 q8 h51 h52 h53 h54 rfl rfl (Lim.aPi (Lim.aPi (Lim.mono limH (by decide : 55 <= 57)) dE) dE) ⟨hom, hm.2⟩ oM (fun w_ s_ => (InL.seeF (F := fun b => b = b1 \/ b = b4 \/ b = b8 \/ b = b9) s_ hin2 hbk).i9) l9 w_ s_).mono fun e w' ⟨p', c', he, hs⟩ => ⟨(p', c'), trivial, he, hs⟩) (fun | (p', c'), _ => g3 ?_))
    refine aB rfl (fun hc1 => ?_) (fun hc2 => ?_)
    .have hstop : (dW q r.start (fJ r) most o L).2 = false := by simpa using hc1
     refine g12 ?_
     exact d9 (.inl rfl) rfl (aE rfl) (aE rfl) fun w_ s_ => ⟨true, (dW q r.start (fJ r) most o L).1, p', c', hD _ (by have h_ := Dw.stop (en := fJ r) (most := most) (wk := (wk : Int)) hnov oM (by rw [hdl, e1]; exact hstop); rw [hdl, e1] at h_; exact h_), rfl, nD s1 s_ (fun b h => by rcases h with rfl | rfl | rfl | rfl <;> assumption) (k := 55) rfl⟩
    .have hgo : (dW q r.start (fJ r) most o L).2 = true := by simpa using hc2
     refine g8 ?_
     refine aN ⟨k + 1, wk - many.toNat, (dW q r.start (fJ r) most o L).1, p', c', (ky 54 0, .slice p' (dW q r.start (fJ r) most o L).1.length c') :: Hx⟩ sO ⟨by omega, fun l h => hD l (.more hnov oM (by rw [hdl, e1]; exact hgo) (by rw [hdl, e1]; rw [show ((k + 1 : Nat) : Int) = (k : Int) + 1 by omega, show ((wk - many.toNat : Nat) : Int) = (wk : Int) - fH q k by omega] at h; exact h)), kC _ _ _ _ _ _ hom, ⟨oW hcl ble dE dE, h51, h52, h53, limH.aPh (k := 54) (o := 0) dE dE⟩, rfl⟩ kno (fun w s => by exact (s.low 56 (Lim.aPi (Lim.mono (limH.aPh (k := 54) (o := 0) dE dE) (by decide : 55 <= 56)) (by decide : 55 < 56)) agx agx agx))
theorem vJ (r q : Rul) (x : Av) (dayF : Int -> Bool) (most : Int) (work : Nat) (hq : aV r = q) (hs : 1 <= r.start /\ r.start < Cal.daysTo 9000 * 86400) (hf : 0 <= r.aP2 /\ r.aP2 <= 6) (hi : 1 <= r.aPp /\ r.aPp <= 1000) (hwk : 0 <= r.aPq /\ r.aPq <= 6) (hl : LenL r) (hlq : LenL q) (hm : 0 <= most /\ most <= 1000000) (hwork : work <= 100000)
  (hday : ∀ (x2 : Av) (day : Int), 0 <= day /\ day <= 5000000 -> ∀ w, InL w q x2 -> CB 47 #[.agg (bG q x2).toArray, iV day] w (.bool (dayF day))) (w : World) (hin : InL w r x) (hb : BkL (fun b => b < w.heap.size) r x) :
  Calls Tryz.prog 21 #[.agg (bG r x).toArray, iV most, iV (work : Int)] w fun e w' => ∃ (b : Bool) (l : List Int) (p : Option Addr) (c : Nat), (b = true -> DatesP q dayF (fJ r) most 0 [] l) /\ e = .returned (.tuple #[.slice p l.length c, .bool b]) /\ gC w w' (.slice p l.length c) 2 1 l.length (l.map iV) :=
 (aBm r q x dayF most work hq hs hf hi hwk hl hlq hm hwork hday w hin hb).mono fun e w' ⟨b, l, p, c, h1, h2⟩ => ⟨b, l, p, c, fun h => by subst h; exact h1.toP rfl, h2⟩
theorem mE {w : World} {p : Option Addr} {n c : Nat} {xs : List Int} (h : Ints w (.slice p n c) xs) (hn : xs.length ≠ 0) (b o : Nat) (e : p = some ⟨b, o, none⟩) : b < w.heap.size := by
 obtain ⟨p', c', e1, hc⟩ := h
 injection e1 with e2 _ _
 obtain ⟨b', o', e3, h3⟩ := hc 0 _ (List.getElem?_eq_getElem (show 0 < xs.length by omega))
 have h4 := World.block_lt_of_cell? w _ h3
 have e4 : (some ⟨b, o, none⟩ : Option Addr) = some ⟨b', o', none⟩ := e.symm.trans (e2.trans e3)
 injection e4 with e4
 injection e4 with e4 _
 rw [e4]
 exact h4
theorem aJ5 {w : World} {p : Option Addr} {n c : Nat} {xs : List (Int × Int)} (h : Prs w (.slice p n c) xs) (hn : xs.length ≠ 0) (b o : Nat) (e : p = some ⟨b, o, none⟩) : b < w.heap.size := by
 obtain ⟨p', c', e1, hc⟩ := h
 injection e1 with e2 _ _
 obtain ⟨b', o', e3, h3, _⟩ := hc 0 _ (List.getElem?_eq_getElem (show 0 < xs.length by omega))
 have h4 := World.block_lt_of_cell? w _ h3
 have e4 : (some ⟨b, o, none⟩ : Option Addr) = some ⟨b', o', none⟩ := e.symm.trans (e2.trans e3)
 injection e4 with e4
 injection e4 with e4 _
 rw [e4]
 exact h4
theorem InL.bk {w : World} {r : Rul} {x : Av} (h : InL w r x) : BkL (fun b => b < w.heap.size) r x :=
 ⟨mE h.i9, mE h.i10, mE h.i11, mE h.i12, mE h.i13, aJ5 h.i14, mE h.i15, mE h.i16, mE h.i17, mE h.i18⟩
theorem qD (r : Rul) (x : Av) (w : World) : Calls Tryz.prog 15 #[.agg (bG r x).toArray] w fun e w' => ∃ b : Bool, (b = true -> LenL r) /\ e = .returned (.bool b) /\ Below w.heap.size w w' := by
 refine aF (args := [.agg (bG r x).toArray]) (L := [(0, .agg (bG r x).toArray)]) (N := 43) Tryz.func15 rfl rfl ble rfl (sS w) (g2 ?_)
 refine gL (fU 50 (cs := bG r x) dE rfl rfl rfl (fun o ho => rfl) ble (fun b1 hb1 => g12 ?_))
 refine aB rfl (fun hc1 => ?_) (fun hc2 => ?_)
 .refine g7 ?_
  exact aT (.inl rfl) rfl (aE rfl) fun w_ s_ => ⟨_, (by first | (intro h_; cases h_; done) | exact fun _ => ⟨g9_, g10_, g11_, g12_, g13_, g14_, g15_, g16_, g17_, g18_⟩), rfl, s_.aPg⟩
 .have g9_ : r.aPz.length <= 2147483647 := by have := oF hc2; omega
  refine g11 ?_
  refine aB rfl (fun hc1 => ?_) (fun hc2 => ?_)
  .refine g7 ?_
   exact aT (.inl rfl) rfl (aE rfl) fun w_ s_ => ⟨_, (by first | (intro h_; cases h_; done) | exact fun _ => ⟨g9_, g10_, g11_, g12_, g13_, g14_, g15_, g16_, g17_, g18_⟩), rfl, s_.aPg⟩
  .have g10_ : r.aPt.length <= 2147483647 := by have := oF hc2; omega
   refine g11 ?_
   refine aB rfl (fun hc1 => ?_) (fun hc2 => ?_)
   .refine g7 ?_
    exact aT (.inl rfl) rfl (aE rfl) fun w_ s_ => ⟨_, (by first | (intro h_; cases h_; done) | exact fun _ => ⟨g9_, g10_, g11_, g12_, g13_, g14_, g15_, g16_, g17_, g18_⟩), rfl, s_.aPg⟩
   .have g11_ : r.aPu.length <= 2147483647 := by have := oF hc2; omega
    refine g11 ?_
    refine aB rfl (fun hc1 => ?_) (fun hc2 => ?_)
    .refine g7 ?_
     exact aT (.inl rfl) rfl (aE rfl) fun w_ s_ => ⟨_, (by first | (intro h_; cases h_; done) | exact fun _ => ⟨g9_, g10_, g11_, g12_, g13_, g14_, g15_, g16_, g17_, g18_⟩), rfl, s_.aPg⟩
    .have g12_ : r.aPw.length <= 2147483647 := by have := oF hc2; omega
     refine g11 ?_
     refine aB rfl (fun hc1 => ?_) (fun hc2 => ?_)
     .refine g7 ?_
      exact aT (.inl rfl) rfl (aE rfl) fun w_ s_ => ⟨_, (by first | (intro h_; cases h_; done) | exact fun _ => ⟨g9_, g10_, g11_, g12_, g13_, g14_, g15_, g16_, g17_, g18_⟩), rfl, s_.aPg⟩
     .have g13_ : r.aPx.length <= 2147483647 := by have := oF hc2; omega
      refine g11 ?_
      refine aB rfl (fun hc1 => ?_) (fun hc2 => ?_)
      .refine g7 ?_
       exact aT (.inl rfl) rfl (aE rfl) fun w_ s_ => ⟨_, (by first | (intro h_; cases h_; done) | exact fun _ => ⟨g9_, g10_, g11_, g12_, g13_, g14_, g15_, g16_, g17_, g18_⟩), rfl, s_.aPg⟩
      .have g14_ : r.wday.length <= 2147483647 := by have := oF hc2; omega
       refine g11 ?_
       refine aB rfl (fun hc1 => ?_) (fun hc2 => ?_)
       .refine g7 ?_
        exact aT (.inl rfl) rfl (aE rfl) fun w_ s_ => ⟨_, (by first | (intro h_; cases h_; done) | exact fun _ => ⟨g9_, g10_, g11_, g12_, g13_, g14_, g15_, g16_, g17_, g18_⟩), rfl, s_.aPg⟩
       .have g15_ : r.hour.length <= 2147483647 := by have := oF hc2; omega
        refine g11 ?_
        refine aB rfl (fun hc1 => ?_) (fun hc2 => ?_)
        .refine g7 ?_
         exact aT (.inl rfl) rfl (aE rfl) fun w_ s_ => ⟨_, (by first | (intro h_; cases h_; done) | exact fun _ => ⟨g9_, g10_, g11_, g12_, g13_, g14_, g15_, g16_, g17_, g18_⟩), rfl, s_.aPg⟩
        .have g16_ : r.aPr.length <= 2147483647 := by have := oF hc2; omega
         refine g11 ?_
         refine aB rfl (fun hc1 => ?_) (fun hc2 => ?_)
         .refine g7 ?_
          exact aT (.inl rfl) rfl (aE rfl) fun w_ s_ => ⟨_, (by first | (intro h_; cases h_; done) | exact fun _ => ⟨g9_, g10_, g11_, g12_, g13_, g14_, g15_, g16_, g17_, g18_⟩), rfl, s_.aPg⟩
         .have g17_ : r.aPs.length <= 2147483647 := by have := oF hc2; omega
          refine g11 ?_
          refine aB rfl (fun hc1 => ?_) (fun hc2 => ?_)
          .refine g7 ?_
           exact aT (.inl rfl) rfl (aE rfl) fun w_ s_ => ⟨_, (by first | (intro h_; cases h_; done) | exact fun _ => ⟨g9_, g10_, g11_, g12_, g13_, g14_, g15_, g16_, g17_, g18_⟩), rfl, s_.aPg⟩
          .have g18_ : r.aPy.length <= 2147483647 := by have := oF hc2; omega
           refine g8 ?_
           exact aT (.inl rfl) rfl (aE rfl) fun w_ s_ => ⟨_, (by first | (intro h_; cases h_; done) | exact fun _ => ⟨g9_, g10_, g11_, g12_, g13_, g14_, g15_, g16_, g17_, g18_⟩), rfl, s_.aPg⟩
def cK (r : Rul) : Rul := { r with aP0 := false, untl := 0 }
def mP (r : Rul) (dayF : Int -> Bool) (most : Int) (l : List Int) : Prop := DatesP (aV r) dayF (fJ r) most 0 [] l
def xX (q : Rul) (dayF : Int -> Bool) : Prop := ∀ (x2 : Av) (day : Int), 0 <= day /\ day <= 5000000 -> ∀ w, InL w q x2 -> CB 47 #[.agg (bG q x2).toArray, iV day] w (.bool (dayF day))
theorem aCd (r : Rul) (x : Av) (dayF : Int -> Bool) (most : Int) (rp : RightP r) (hl : LenL r) (hlq : LenL (aV (cK r))) (hm : 0 <= most /\ most <= 10000) (hday : xX (aV (cK r)) dayF) (w : World) (hin : InL w r x) : Calls Tryz.prog 33 #[.agg (bG r x).toArray, iV most] w fun e w' => ∃ b : Bool, (b = true -> ∃ l, mP (cK r) dayF (most + 1) l /\ ((l.length : Int) = most + 1 \/ (0 < r.count /\ (l.length : Int) = r.count))) /\ e = .returned (.bool b) /\ Below w.heap.size w w' := by
 have hinu : ∀ {w_ : World}, InL w_ r x -> InL w_ (cK r) x := fun h => ⟨h.i9, h.i10, h.i11, h.i12, h.i13, h.i14, h.i15, h.i16, h.i17, h.i18⟩
 refine aF (args := [.agg (bG r x).toArray, iV most]) (L := [(0, .agg (bG r x).toArray), (1, iV most)]) (N := 36) Tryz.func33 rfl rfl ble rfl (sS w) (g2 ?_)
 refine gL (fU 50 (cs := bG r x) dE rfl rfl rfl (fun o ho => rfl) ble (fun b1 hb1 => g6 ?_))
 refine gL (sto 50 rfl rfl rfl rfl (g1 ?_))
 refine gL (sto 50 rfl rfl rfl rfl (g4 ?_))
 refine rZ2 ((dC 50 (cs := bG (cK r) x) rfl rfl (fun i u h => by have hlt_ : i < 18 := (List.getElem?_eq_some_iff.1 h).1; rcases i with _|_|_|_|_|_|_|_|_|_|_|_|_|_|_|_|_|_|i <;> first | exact h | omega) ble kR)) ?_
 refine gL (cbx (ι := Bool × List Int × Option Addr × Nat) (fun y => .tuple #[.slice y.2.2.1 y.2.1.length y.2.2.2, .bool y.1]) (fun y => y.1 = true -> mP (cK r) dayF (most + 1) y.2.1) rfl (fun w_ s_ => (vJ (cK r) (aV (cK r)) x dayF (most + 1) 3000 rfl rp.t1.start rp.t1.aP2 rp.t1.aPp rp.t1.aPq ⟨hl.l9, hl.l10, hl.l11, hl.l12, hl.l13, hl.l14, hl.l15, hl.l16, hl.l17, hl.l18⟩ hlq oM dE hday w_ (hinu (InL.see s_ hin)) (InL.bk (hinu (InL.see s_ hin)))).mono fun e w' ⟨b, l, p, c, h1, h2, h3⟩ => ⟨(b, l, p, c), h1, h2, h3.1⟩) (fun | (b_, l, p, c), hy => g10 ?_))
 rcases bO (b_) with hb_ | hb_
 .refine rl ((bC rfl).to (v' := .bool true) (cB hb_)) (g9 ?_)
  by_cases h1 : (l.length : Int) = most + 1
  .refine rl ((aQ rfl rfl).to eT) (g18 ?_)
   refine g1 ?_
   exact aT (.inl rfl) rfl (aE rfl) fun w_ s_ => ⟨_, (by first | (intro h_; cases h_; done) | exact fun _ => ⟨l, hy hb_, .inl h1⟩), rfl, s_.aPg⟩
  .refine rZ7 ((aQ rfl rfl).to eF) ?_
   by_cases h2 : 0 < r.count
   .refine rl ((bU rfl rfl).to bT) (g11 ?_)
    by_cases h3 : (l.length : Int) = r.count
    .refine rl ((aQ rfl rfl).to eT) (g9 ?_)
     exact aT (.inl rfl) rfl (aE rfl) fun w_ s_ => ⟨_, (by first | (intro h_; cases h_; done) | exact fun _ => ⟨l, hy hb_, .inr ⟨h2, h3⟩⟩), rfl, s_.aPg⟩
    .refine rl ((aQ rfl rfl).to eF) (g9 ?_)
     exact aT (.inl rfl) rfl (aE rfl) fun w_ s_ => ⟨_, (by first | (intro h_; cases h_; done) | exact fun _ => ⟨l, hy hb_, .inr ⟨h2, h3⟩⟩), rfl, s_.aPg⟩
   .refine rl ((bU rfl rfl).to bF) (g16 ?_)
    exact aT (.inl rfl) rfl (aE rfl) fun w_ s_ => ⟨_, (by first | (intro h_; cases h_; done) | exact fun _ => ⟨l, hy hb_, .inr ⟨h2, h3⟩⟩), rfl, s_.aPg⟩
 .refine rl ((bC rfl).to (v' := .bool false) (cB hb_)) (g20 ?_)
  refine g2 ?_
  exact aT (.inl rfl) rfl (aE rfl) fun w_ s_ => ⟨_, (by first | (intro h_; cases h_; done) | exact fun _ => ⟨l, hy hb_, .inr ⟨h2, h3⟩⟩), rfl, s_.aPg⟩
theorem tR (r : Rul) (x : Av) (hd : r.wday.length <= 1000) (w : World) (hin : InL w r x) : Calls Tryz.prog 31 #[.agg (bG r x).toArray] w fun e w' => ∃ (p : Option Addr) (c : Nat), e = .returned (.agg (bG r { x with p14 := p, c14 := c }).toArray) /\ gC w w' (.slice p r.wday.length c) 92 2 r.wday.length (eB r.wday) := by
 have hID : ∀ i y, r.wday[i]? = some y -> ∃ b o, x.p14 = some ⟨b, o, none⟩ /\ w.cell? ⟨b, o + 2 * i, none⟩ = some (iV y.1) /\ w.cell? ⟨b, o + 2 * i + 1, none⟩ = some (iV y.2) := by
  obtain ⟨p', c', e, hc'⟩ := hin.i14
  injection e with e1 _ _
  rw [e1]; exact hc'
 refine aF (args := [.agg (bG r x).toArray]) (L := [(0, .agg (bG r x).toArray)]) (N := 56) Tryz.func31 rfl rfl ble rfl (sS w) (g2 ?_)
 refine gL (fU 50 (cs := bG r x) dE rfl rfl rfl (fun o ho => rfl) ble (fun b1 hb1 => gL (alo 51 (cs := zL3) kR rfl (fun b2 hb2 => g30 ?_))))
 refine g8 ?_
 refine rl (iI (vs := [(0, .int .u8 r.aP2), (1, .bool r.aP1), (2, iV r.start), (3, iV r.aPp), (4, iV r.aPq), (5, iV r.count), (6, .bool r.aP0), (7, iV r.untl), (8, .slice x.p9 (r.aPz).length x.c9), (9, .slice x.p10 (r.aPt).length x.c10), (10, .slice x.p11 (r.aPu).length x.c11), (11, .slice x.p12 (r.aPw).length x.c12), (12, .slice x.p13 (r.aPx).length x.c13), (14, .slice x.p15 (r.hour).length x.c15), (15, .slice x.p16 (r.aPr).length x.c16), (16, .slice x.p17 (r.aPs).length x.c17), (17, .slice x.p18 (r.aPy).length x.c18)]) (v := .agg (bG { r with wday := [] } { x with p14 := none, c14 := 0 }).toArray) rfl kW) (gL (alo 52 (cs := zL3) kR rfl (fun b3 hb3 => gL (cI 52 (cs := (bG { r with wday := [] } { x with p14 := none, c14 := 0 }).toArray) rfl rfl rfl rfl kR rfl ble (g12 ?_)))))
 refine aY (ι := (Nat) × (Option Addr) × (Nat) × (Nat) × (List Value)) (fun | ⟨k, p, c, n, xs⟩ => r.wday.length - k) (fun | ⟨k, p, c, n, xs⟩ => (k <= r.wday.length) /\ (n = k) /\ (xs = eB (r.wday.take k))) (fun | ⟨k, p, c, n, xs⟩ => [(1, pT b1), (2, pT b2), (3, pT b3), (42, .slice x.p14 r.wday.length x.c14), (43, iV (r.wday.length)), (44, iV k)]) (fun _ => [(52, b3), (51, b2), (50, b1)]) (fun | ⟨k, p, c, n, xs⟩ => (ky 52 13, .slice p n c) :: (dL 52 0 (bG { r with wday := [] } { x with p14 := none, c14 := 0 }).toArray.toList (aL 52 0 zL3 ++ (aL 51 0 zL3 ++ (aL 50 0 (bG r x) ++ []))))) (fun | ⟨k, p, c, n, xs⟩ => [(11, ⟨.slice p n c, 92, 2, n, xs⟩)]) ⟨0, none, 0, 0, []⟩ ⟨Nat.zero_le _, rfl, rfl⟩ kns (fun w s => by exact (Sees.aPm (s.to (fun _ _ h => h) (fun k o v ho h => (by rcases bD h with ⟨e, rfl⟩ | ⟨_, h⟩; { obtain ⟨rfl, rfl⟩ := iA ho dE e; exact ⟨rfl, rfl⟩ }; exact ⟨h, by obtain ⟨b, e, _⟩ := s.cells k o v ho h; rw [e]; rfl⟩)) (fun _ _ h => h)) 11 92 2)) ?_
 rintro ⟨k, p, c, n, xs⟩ ⟨hk, hn, hx⟩
 refine dS ?_
 refine g6 ?_
 refine aB rfl (fun hc1 => ?_) (fun hc2 => ?_)
 .have hlt : k < r.wday.length := by have := oT hc1; omega
  obtain ⟨y, hy⟩ : ∃ y, r.wday[k]? = some y := ⟨_, List.getElem?_eq_getElem hlt⟩
  obtain ⟨b_, o_, hp0, hca, hcb⟩ := hID k y hy
  refine g6 ?_
  refine rl (aC (e := 43) (n := 2) kR (congrArg (fun p => some (Value.slice p _ _)) hp0) rfl oM oM) (rl (iK rfl (by rw [<- hca]; congr 2; omega) (by rw [<- hcb]; congr 2; omega) (fun h => h) kR) (gL (alo 53 (cs := [iV 0, iV 0]) kR rfl (fun b4 hb4 => gL (sta 53 rfl rfl rfl rfl (g5 ?_))))))
  refine rl (aW 53 rfl rfl rfl rfl kR dE) (gL (dB 60 (e := 92) (sz := 2) (by_ := 16) (zs := [iV 0, iV 0]) dE kR rfl dE dE rfl rfl rfl (fun bo => gL (cW 11 60 (e := 92) (sz := 2) (by_ := 16) (zs := [iV 0, iV 0]) dE kR rfl dE rfl rfl rfl rfl ⟨rfl, rfl⟩ ⟨rfl, rfl⟩ (fun u hu => by have hu : u ∈ [iV y.1, iV y.2] := hu; rcases List.mem_cons.1 hu with rfl | hu; rfl; rcases List.mem_cons.1 hu with rfl | hu; rfl; cases hu) sO sO (fun p' c' => g1 ?_)))))
  refine gL (sto 52 rfl rfl rfl rfl (g7 ?_))
  refine aN ⟨k + 1, p', c', n + 1, xs ++ [iV y.1, iV y.2]⟩ sO ⟨by omega, by omega, by rw [hx, List.take_add_one, hy]; simp [eB]⟩ kns (fun w s => by exact (s.low 53 (⟨fun k hk => by repeat (first | rfl | rw [aA oM]), fun k hk o ho => by repeat (first | rw [aJ oM ho _ _ ble] | rw [dA oM ho _ _ ble] | rw [bV oM ho dE] | rfl), fun k hk => by repeat (first | rfl | rw [aA oM])⟩) agx agx agx))
 .obtain rfl : k = r.wday.length := by have := oF hc2; omega
  rw [List.take_length] at hx
  subst hx hn
  refine g7 ?_
  refine rl ((dC 52 (cs := (bG r { x with p14 := p, c14 := c })) rfl rfl (fun i u h => by have hlt_ : i < 18 := (List.getElem?_eq_some_iff.1 h).1; rcases i with _|_|_|_|_|_|_|_|_|_|_|_|_|_|_|_|_|_|i <;> first | exact h | omega) ble kR)) ?_
  refine gL (cI 51 (cs := (bG r { x with p14 := p, c14 := c }).toArray) rfl rfl rfl rfl kR rfl ble (g3 ?_))
  exact aT (.inl rfl) rfl (lF 51 (cs := (bG r { x with p14 := p, c14 := c })) rfl rfl (fun i v h => by have := aP (j := 51) (bG r { x with p14 := p, c14 := c }) 0 (H := (ky 52 13, .slice p r.wday.length c) :: (dL 52 0 (bG { r with wday := [] } { x with p14 := none, c14 := 0 }).toArray.toList (aL 52 0 zL3 ++ (aL 51 0 zL3 ++ (aL 50 0 (bG r x) ++ []))))) ble i v h; rwa [Nat.zero_add] at this) ble kR) fun w_ s_ => ⟨p, c, rfl, s_.toNew (k := 11) rfl⟩
theorem qZ {r : Rul} (h : LenL r) : LenL (aV r) := by
 have h4 : ∀ r, LenL r -> LenL (iH r) := fun r h => by
  unfold iH; split
  .exact ⟨h.l9, h.l10, h.l11, h.l12, h.l13, h.l14, h.l15, h.l16, by simp, h.l18⟩
  .exact h
 have h3 : ∀ r, LenL r -> LenL (gD r) := fun r h => by
  unfold gD; split
  .exact ⟨h.l9, h.l10, h.l11, h.l12, h.l13, h.l14, h.l15, by simp, h.l17, h.l18⟩
  .exact h
 have h2 : ∀ r, LenL r -> LenL (fZ r) := fun r h => by
  unfold fZ; split
  .exact ⟨h.l9, h.l10, h.l11, h.l12, h.l13, h.l14, by simp, h.l16, h.l17, h.l18⟩
  .exact h
 have h1 : LenL (gA r) := by
  unfold gA
  split
  .split
   .exact ⟨h.l9, by simp only; split; simp; exact h.l10, by simp, h.l12, h.l13, h.l14, h.l15, h.l16, h.l17, h.l18⟩
   .split
    .exact ⟨h.l9, h.l10, by simp, h.l12, h.l13, h.l14, h.l15, h.l16, h.l17, h.l18⟩
    .split
     .exact ⟨h.l9, h.l10, h.l11, h.l12, h.l13, by simp, h.l15, h.l16, h.l17, h.l18⟩
     .exact h
  .exact h
 exact h4 _ (h3 _ (h2 _ h1))
theorem jM {r : Rul} (rp : RightP r) (hf : 2 <= r.aP2) : r.aPw.length = 0 /\ r.aPx.length = 0 /\ r.aPy.length = 0 := by
 obtain ⟨h1, h2⟩ := rp.t5.1 oM
 refine ⟨h2, h1, ?_⟩
 rcases Nat.eq_zero_or_pos r.aPy.length with h | h
 .exact h
 .have := (rp.t4 0 _ (List.getElem?_eq_getElem h)).2.2.1
  omega
theorem aNe {r : Rul} (hf : 2 <= r.aP2 /\ r.aP2 <= 6) (h0 : r.aPw.length = 0 /\ r.aPx.length = 0 /\ r.aPy.length = 0) (hl : LenL r) : xX (aV r) (eA (aV r)) := fun x2 day hd w hin => by
 obtain ⟨e1, e2, e3, e4, e5, e6, e7, e8, e9⟩ := cU r
 exact aB8 (aV r) x2 day hd (by rw [e2]; exact hf) (by rw [e7]; exact h0.1) (by rw [e8]; exact h0.2.1) (by rw [e9]; exact h0.2.2) (qZ hl) w hin
end
open Go.Md Go.Tab
theorem aBs {r : Ru} {s : It} (hk : ItOk r s) (hrem : s.rem = []) : ItOk r (out r s) where
 y := by rw [(dP r s).y]; exact hk.y
 ly := by rw [(dP r s).ly, (dP r s).y]; exact hk.ly
 mo := by rw [(dP r s).mo]; exact hk.mo
 d := by rw [(dP r s).d]; exact hk.d
 day := by rw [(dP r s).d, (dP r s).mo, (dP r s).y]; exact hk.day
 wd := by rw [(dP r s).wd]; exact hk.wd
 hr := by rw [(dP r s).h]; exact hk.hr
 mn := by rw [(dP r s).mi]; exact hk.mn
 sec := by rw [(dP r s).s]; exact hk.sec
 ts := by rw [(dP r s).ts]; exact hk.ts
 tsn := by rw [(dP r s).ts]; exact hk.tsn
 aP3 := by
  have h := aAi r s
  have h2 := hk.aP3
  rw [hrem] at h h2
  simp only [List.length_nil] at h h2
  omega
 count := aAq r s hk.count
 wno := by rw [(dP r s).wno, (dP r s).ly]; exact hk.wno
 nwm := by rw [(dP r s).nwm, (dP r s).ly, (dP r s).lm]; exact hk.nwm
 eas := by rw [(dP r s).eas, (dP r s).ly]; exact hk.eas
 lm := by rw [(dP r s).lm, (dP r s).mo]; exact hk.lm
 meet := fun h b => by rw [lL (dP r s).h (dP r s).mi (dP r s).s]; exact hk.meet h b
structure Msk (r : Ru) (s : It) : Prop where
 wno : s.wno = r.wnoF s.ly
 nwm : s.nwm = r.nwmF s.ly s.lm
 eas : s.eas = r.easF s.ly
theorem aB2 {r : Ru} {s : It} (h : Msk r s) (y m : Int) : Msk r (reb r s y m) where
 wno := by
  unfold reb; simp only
  split
  .rename_i e; rw [h.wno, e]
  .rfl
 nwm := by
  unfold reb; simp only
  split
  .rename_i e; rw [h.nwm, e.1, e.2]
  .rfl
 eas := rfl
structure Rest (s o : It) : Prop where
 h : o.h = s.h
 mi : o.mi = s.mi
 sec : o.s = s.s
 wd : o.wd = s.wd
 ts : o.ts = s.ts
 aP3 : o.aP3 = s.aP3
 count : o.count = s.count
 rem : o.rem = s.rem
theorem Rest.refl (s : It) : Rest s s := ⟨rfl, rfl, rfl, rfl, rfl, rfl, rfl, rfl⟩
theorem x7 {r : Ru} : ∀ (n : Nat) (s : It), 1 <= s.d -> s.d <= n -> (1 <= s.mo /\ s.mo <= 12) -> (1 <= s.y /\ s.y <= 9999) -> Msk r s -> (fK r n s).fin = false ->
  (1 <= (fK r n s).d /\ (fK r n s).d <= Cal.mdays (fK r n s).mo (fK r n s).y) /\ (1 <= (fK r n s).mo /\ (fK r n s).mo <= 12) /\ (1 <= (fK r n s).y /\ (fK r n s).y <= 9999) /\ (fK r n s).ly = (fK r n s).y /\ (fK r n s).lm = (fK r n s).mo /\ Msk r (fK r n s) /\ Rest s (fK r n s)
 | 0, s, h1, h2, _, _, _, _ => by omega
 | n + 1, s, h1, h2, hm, hy, hk, hf => by
  have hmd := Cal.mdays_bd s.mo s.y
  unfold fK at hf ⊢
  by_cases hd : s.d <= Cal.mdays s.mo s.y
  .rw [if_pos hd] at hf ⊢
   exact ⟨⟨h1, hd⟩, hm, hy, rfl, rfl, aB2 hk _ _, ⟨rfl, rfl, rfl, rfl, rfl, rfl, rfl, rfl⟩⟩
  .rw [if_neg hd] at hf ⊢
   by_cases h13 : s.mo + 1 = 13
   .rw [if_pos h13] at hf ⊢
    by_cases hb : 9999 < s.y + 1
    .rw [if_pos hb] at hf; cases hf
    .rw [if_neg hb] at hf ⊢
     obtain ⟨a1, a2, a3, a4, a5, a6, a7⟩ := x7 (r := r) n { s with d := s.d - Cal.mdays s.mo s.y, mo := 1, y := s.y + 1 } sO sO sO sO ⟨hk.wno, hk.nwm, hk.eas⟩ hf
     exact ⟨a1, a2, a3, a4, a5, a6, ⟨a7.h, a7.mi, a7.sec, a7.wd, a7.ts, a7.aP3, a7.count, a7.rem⟩⟩
   .rw [if_neg h13] at hf ⊢
    obtain ⟨a1, a2, a3, a4, a5, a6, a7⟩ := x7 (r := r) n { s with d := s.d - Cal.mdays s.mo s.y, mo := s.mo + 1 } sO sO sO hy ⟨hk.wno, hk.nwm, hk.eas⟩ hf
    exact ⟨a1, a2, a3, a4, a5, a6, ⟨a7.h, a7.mi, a7.sec, a7.wd, a7.ts, a7.aP3, a7.count, a7.rem⟩⟩
theorem aBh {r : Ru} {s : It} (h1 : 1 <= s.d) (hm : 1 <= s.mo /\ s.mo <= 12) (hy : 1 <= s.y /\ s.y <= 9999) (hly : s.ly = s.y) (hk : Msk r s) (hf : (fix r s).fin = false) :
  (1 <= (fix r s).d /\ (fix r s).d <= Cal.mdays (fix r s).mo (fix r s).y) /\ (1 <= (fix r s).mo /\ (fix r s).mo <= 12) /\ (1 <= (fix r s).y /\ (fix r s).y <= 9999) /\ (fix r s).ly = (fix r s).y /\ Msk r (fix r s) /\ Rest s (fix r s) := by
 have hmd := Cal.mdays_bd s.mo s.y
 unfold fix at hf ⊢
 split at hf
 .rename_i h
  rw [if_pos h]
  exact ⟨⟨h1, by omega⟩, hm, hy, hly, hk, Rest.refl s⟩
 .rename_i h
  rw [if_neg h]
  obtain ⟨a1, a2, a3, a4, a5, a6, a7⟩ := x7 (r := r) s.d.toNat s h1 oM hm hy hk hf
  exact ⟨a1, a2, a3, a4, a6, a7⟩
theorem r6 {r : Ru} (hr : RuOk r) (hfq : r.aP2 = 0 \/ r.aP2 = 2 \/ r.aP2 = 3) : wJ r := by
 intro s hk hrem hfin hf
 have ho := aBs hk hrem
 have hof : (out r s).fin = false := by
  cases h : (out r s).fin with
  | false => rfl
  | true => rw [rI h, h] at hf; cases hf
 rw [mJ hof] at hf ⊢
 have hiv := hr.aPp
 have hwk := hr.aPq
 have hmk : Msk r (out r s) := ⟨ho.wno, ho.nwm, ho.eas⟩
 have hy := ho.y
 have hd := ho.d
 have hwd := ho.wd
 have fixed : ∀ s2 : It, (1 <= s2.d) -> s2.mo = (out r s).mo -> s2.y = (out r s).y -> s2.ly = (out r s).ly -> s2.lm = (out r s).lm -> s2.wno = (out r s).wno -> s2.nwm = (out r s).nwm -> s2.eas = (out r s).eas -> (0 <= s2.wd /\ s2.wd <= 6) -> s2.h = (out r s).h -> s2.mi = (out r s).mi -> s2.s = (out r s).s -> s2.ts = (out r s).ts -> s2.aP3 = (out r s).aP3 -> s2.count = (out r s).count -> s2.rem = (out r s).rem -> r.aP2 ≠ 1 -> (fix r s2).fin = false -> ItOk r (fix r s2) := by
  intro s2 h1 e1 e2 e3 e4 e5 e6 e7 e8 e9 e10 e11 e12 e13 e14 e15 e16 hf2
  obtain ⟨a1, a2, a3, a4, a5, a6⟩ := aBh (r := r) (s := s2) h1 (by rw [e1]; exact ho.mo) (by rw [e2]; exact ho.y) (by rw [e3, e2]; exact ho.ly) ⟨by rw [e5, e3]; exact ho.wno, by rw [e6, e3, e4]; exact ho.nwm, by rw [e7, e3]; exact ho.eas⟩ hf2
  have hmd := Cal.mdays_bd (fix r s2).mo (fix r s2).y
  exact ⟨a3, a4, a2, ⟨a1.1, by omega⟩, fun _ => a1.2, by rw [a6.wd]; exact e8, by rw [a6.h, e9]; exact ho.hr, by rw [a6.mi, e10]; exact ho.mn, by rw [a6.sec, e11]; exact ho.sec, by rw [a6.ts, e12]; exact ho.ts, by rw [a6.ts, e12]; exact ho.tsn, by rw [a6.aP3, a6.rem, e13, e15]; exact ho.aP3, by rw [a6.count, e14]; exact ho.count, a5.wno, a5.nwm, a5.eas, fun h => absurd h e16, fun h => absurd h (by rcases hfq with h | h | h <;> omega)⟩
 unfold adv at hf ⊢
 rcases hfq with hq | hq | hq
 .rw [if_pos hq] at hf ⊢
  by_cases hb : 9999 < (out r s).y + r.aPp
  .rw [if_pos hb] at hf; cases hf
  .rw [if_neg hb] at hf ⊢
   have hm := aB2 (s := { out r s with y := (out r s).y + r.aPp }) ⟨hmk.wno, hmk.nwm, hmk.eas⟩ ((out r s).y + r.aPp) (out r s).mo
   exact ⟨by show 1 <= (out r s).y + r.aPp /\ (out r s).y + r.aPp <= 9999; omega, rfl, ho.mo, ho.d, fun h => by omega, ho.wd, ho.hr, ho.mn, ho.sec, ho.ts, ho.tsn, ho.aP3, ho.count, hm.wno, hm.nwm, hm.eas, fun h => by omega, fun h => by omega⟩
 .rw [if_neg oM, if_neg oM, if_pos hq] at hf ⊢
  refine fixed _ ?_ rfl rfl rfl rfl rfl rfl rfl hwk rfl rfl rfl rfl rfl rfl rfl oM hf
  simp only
  split <;> omega
 .rw [if_neg oM, if_neg oM, if_neg oM, if_pos hq] at hf ⊢
  exact fixed _ sO rfl rfl rfl rfl rfl rfl rfl ho.wd rfl rfl rfl rfl rfl rfl rfl oM hf
theorem Gen.mono {r : Ru} {n : Nat} {s e : It} (h : Gen r n s e) : ∀ {m : Nat}, n <= m -> Gen r m s e := by
 induction h with
 | done h => intro m _; exact .done h
 | fin h hf =>
  intro m hm
  obtain ⟨j, rfl⟩ : ∃ j, m = j + 1 := ⟨m - 1, by omega⟩
  exact .fin h hf
 | more h hf _ ih =>
  intro m hm
  obtain ⟨j, rfl⟩ : ∃ j, m = j + 1 := ⟨m - 1, by omega⟩
  exact .more h hf (ih oM)
theorem GenTo.mono {r : Ru} {n m : Nat} {s e : It} (h : GenTo r n s e) (hm : n <= m) : GenTo r m s e := by
 rcases h with h | ⟨h1, h2, h3⟩
 .exact .inl h
 .exact .inr ⟨h1, Gen.mono h2 hm, h3⟩
open Go.Md Go.Tab Go.Fr
def cr (c : Int) (o : List Int) (s : It) : Prop := (c = 0 -> s.count = 0) /\ (0 < c -> s.count = c - o.length /\ (o.length : Int) < c)
theorem j6 (r : Ru) (s : It) (t : Int) (l : List Int) : dD r s (t :: l) = dD r (gV r s t) l := rfl
theorem aF6 {r : Ru} {c : Int} {o : List Int} {s : It} {t : Int} (hc : 0 <= c) (h : cr c (o ++ s.rem) s) (hf : (gV r s t).fin = false) : cr c (o ++ (gV r s t).rem) (gV r s t) := by
 by_cases h1 : s.fin = true
 .rw [yM h1]; exact h
 have h1 : s.fin = false := by simpa using h1
 by_cases h2 : r.u0 < t
 .rw [mO h1 h2] at hf ⊢; cases hf
 by_cases h3 : t < r.d0
 .rw [o4 h1 h2 h3]; exact h
 by_cases h4 : s.count = 0
 .rw [oB h1 h2 h3 h4]
  refine ⟨fun _ => h4, fun h0 => ?_⟩
  obtain ⟨a, b⟩ := h.2 h0
  omega
 .rw [mS h1 h2 h3 h4] at hf ⊢
  refine ⟨fun h0 => absurd (h.1 h0) h4, fun h0 => ?_⟩
  obtain ⟨a, b⟩ := h.2 h0
  have : s.count - 1 ≠ 0 := by simpa using hf
  simp only [List.length_append, List.length_singleton] at a b ⊢
  omega
theorem xQ {r : Ru} {c : Int} {o : List Int} (hc : 0 <= c) : ∀ (l : List Int) (s : It), cr c (o ++ s.rem) s -> (dD r s l).fin = false -> cr c (o ++ (dD r s l).rem) (dD r s l)
 | [], s, h, _ => h
 | t :: l, s, h, hf => by
  rw [j6] at hf ⊢
  refine xQ hc l _ (aF6 hc h ?_) hf
  cases he : (gV r s t).fin with
  | false => rfl
  | true => rw [lA he, he] at hf; cases hf
theorem aIw (r : Ru) (s : It) (t : Int) : ∃ x, (gV r s t).rem = s.rem ++ x /\ x.length <= 1 := by
 unfold gV
 split
 .exact ⟨[], by simp, by simp⟩
 .split
  .exact ⟨[], by simp, by simp⟩
  .split
   .exact ⟨[], by simp, by simp⟩
   .split <;> exact ⟨[t], rfl, by simp⟩
theorem u3 (r : Ru) : ∀ (l : List Int) (s : It), ∃ x, (dD r s l).rem = s.rem ++ x /\ x.length <= l.length
 | [], s => ⟨[], by simp [dD], by simp⟩
 | t :: l, s => by
  obtain ⟨x, h1, h3⟩ := aIw r s t
  obtain ⟨y, h2, h4⟩ := u3 r l (gV r s t)
  exact ⟨x ++ y, by rw [j6, h2, h1, List.append_assoc], by simp only [List.length_append, List.length_cons]; omega⟩
theorem gO {c st en most t : Int} {o l : List Int} : cM c st en most o (t :: l) = if t < st then cM c st en most o l else if (o.length : Int) = most \/ (0 < c /\ (o.length : Int) = c) \/ en < t then (o, false) else cM c st en most (o ++ [t]) l := by rw [cM]
theorem yC {c st en most : Int} : ∀ (l o : List Int), 0 < c -> (o.length : Int) = c -> (cM c st en most o l).1 = o
 | [], o, _, _ => rfl
 | t :: l, o, h0, h => by
  rw [gO]
  split
  .exact yC l o h0 h
  .rw [if_pos (.inr (.inl ⟨h0, h⟩))]
theorem qY {r : Ru} {c most : Int} (hc : 0 <= c) (hd : r.d0 <= r.u0) (o : List Int) : ∀ (l : List Int) (s : It), s.fin = false -> ((o ++ s.rem).length : Int) <= most -> cr c (o ++ s.rem) s ->
  (cM c r.d0 r.u0 most (o ++ s.rem) l).1 = (o ++ (dD r s l).rem).take most.toNat /\
  ((cM c r.d0 r.u0 most (o ++ s.rem) l).2 = true -> (cM c r.d0 r.u0 most (o ++ s.rem) l).1 = o ++ (dD r s l).rem /\ ((dD r s l).fin = true -> 0 < c /\ ((o ++ (dD r s l).rem).length : Int) = c)) /\
  ((cM c r.d0 r.u0 most (o ++ s.rem) l).2 = false -> ((cM c r.d0 r.u0 most (o ++ s.rem) l).1.length : Int) = most \/ ((dD r s l).fin = true /\ (cM c r.d0 r.u0 most (o ++ s.rem) l).1 = o ++ (dD r s l).rem))
 | [], s, hf, hm, _ => by
  refine ⟨?_, fun _ => ⟨rfl, fun h => ?_⟩, fun h => (by cases h)⟩
  .show o ++ s.rem = (o ++ s.rem).take most.toNat
   rw [List.take_of_length_le oM]
  .rw [show (dD r s []).fin = s.fin from rfl, hf] at h; cases h
 | t :: l, s, hf, hm, hr => by
  by_cases h3 : t < r.d0
  .have e : gV r s t = s := o4 hf oM h3
   rw [j6, e, show cM c r.d0 r.u0 most (o ++ s.rem) (t :: l) = cM c r.d0 r.u0 most (o ++ s.rem) l by rw [gO, if_pos h3]]
   exact qY hc hd o l s hf hm hr
  .have ea : cM c r.d0 r.u0 most (o ++ s.rem) (t :: l) = if ((o ++ s.rem).length : Int) = most \/ (0 < c /\ ((o ++ s.rem).length : Int) = c) \/ r.u0 < t then (o ++ s.rem, false) else cM c r.d0 r.u0 most (o ++ s.rem ++ [t]) l := by rw [gO, if_neg h3]
   by_cases h5 : ((o ++ s.rem).length : Int) = most
   .rw [ea, if_pos (.inl h5)]
    obtain ⟨x, hx, _⟩ := u3 r (t :: l) s
    refine ⟨?_, fun h => (by cases h), fun _ => .inl h5⟩
    rw [hx, <- List.append_assoc, List.take_append_of_le_length oM, List.take_of_length_le oM]
   .by_cases h2 : r.u0 < t
    .rw [ea, if_pos (.inr (.inr h2)), j6, mO hf h2, lA rfl]
     refine ⟨?_, fun h => (by cases h), fun _ => .inr ⟨rfl, rfl⟩⟩
     rw [List.take_of_length_le sO]
    .have h6 : ¬ (0 < c /\ ((o ++ s.rem).length : Int) = c) := fun h => by have := (hr.2 h.1).2; omega
     rw [ea, if_neg (by rintro (h | h | h); exact h5 h; exact h6 h; exact h2 h), j6]
     have hrem : (gV r s t).rem = s.rem ++ [t] := by
      by_cases h4 : s.count = 0
      .rw [oB hf h2 h3 h4]
      .rw [mS hf h2 h3 h4]
     have hl : ((o ++ (gV r s t).rem).length : Int) <= most := by rw [hrem, <- List.append_assoc]; simp only [List.length_append, List.length_singleton] at *; omega
     rw [List.append_assoc, <- hrem]
     by_cases hf2 : (gV r s t).fin = false
     .exact qY hc hd o l _ hf2 hl (aF6 hc hr hf2)
     .have hf2 : (gV r s t).fin = true := by simpa using hf2
      rw [lA hf2]
      have h4 : s.count ≠ 0 := fun h4 => by rw [oB hf h2 h3 h4] at hf2; exact absurd hf2 (by rw [hf]; decide)
      have hk : s.count - 1 = 0 := by rw [mS hf h2 h3 h4] at hf2; simpa using hf2
      have hc0 : 0 < c := by
       rcases Int.lt_or_eq_of_le hc with h | h
       .exact h
       .exact absurd (hr.1 h.symm) h4
      have hlc : ((o ++ (gV r s t).rem).length : Int) = c := by rw [hrem]; have := hr.2 hc0; simp only [List.length_append, List.length_singleton] at *; omega
      have e1 := yC (st := r.d0) (en := r.u0) (most := most) l (o ++ (gV r s t).rem) hc0 hlc
      rw [e1, List.take_of_length_le oM]
      exact ⟨rfl, fun _ => ⟨rfl, fun _ => ⟨hc0, hlc⟩⟩, fun _ => .inr ⟨hf2, rfl⟩⟩
theorem sF {r : Ru} (hd : r.u0 < r.d0) : ∀ (l : List Int) (s : It), (dD r s l).rem = s.rem
 | [], s => rfl
 | t :: l, s => by
  rw [j6, sF hd l]
  unfold gV
  split
  .rfl
  .split
   .rfl
   .rw [if_pos oM]
theorem kZ {c st en most : Int} (hd : en < st) : ∀ (l o : List Int), (cM c st en most o l).1 = o
 | [], o => rfl
 | t :: l, o => by
  rw [gO]
  split
  .exact kZ hd l o
  .rw [if_pos (.inr (.inr oM))]
theorem xU {r : Ru} {c most : Int} (hd : r.u0 < r.d0) : ∀ (l : List Int) (s : It) (o : List Int), (o.length : Int) < most -> (0 < c -> (o.length : Int) < c) -> (cM c r.d0 r.u0 most o l).2 = false -> (dD r s l).fin = true
 | [], s, o, _, _, h => by cases h
 | t :: l, s, o, hm, hc, h => by
  rw [j6]
  cases hf : (gV r s t).fin with
  | true => rw [lA hf]; exact hf
  | false =>
   rw [gO] at h
   split at h
   .exact xU hd l _ o hm hc h
   .exfalso
    have h1 : s.fin = false := by
     cases h1 : s.fin with
     | false => rfl
     | true => rw [yM h1, h1] at hf; cases hf
    rw [mO h1 oM] at hf; cases hf
theorem zX {r : Ru} {q : Rul} {most : Int} {o L1 L2 l : List Int} {s : It} (hc : 0 <= q.count) (hst : r.d0 = q.start) (hl : dY l q.aPz = L1 ++ L2) (h1 : ∀ t ∈ L1, t < r.d0) (hf : s.fin = false) (hrem : s.rem = []) (hm : (o.length : Int) < most) (hr : cr q.count o s) :
  ((dW q q.start r.u0 most o l).2 = true -> (dW q q.start r.u0 most o l).1 = o ++ (dD r s L2).rem /\ ((o ++ (dD r s L2).rem).length : Int) < most /\ ((dD r s L2).fin = true -> r.u0 < r.d0)) /\
  ((dW q q.start r.u0 most o l).2 = false -> (dW q q.start r.u0 most o l).1 = (o ++ (dD r s L2).rem).take most.toNat /\ (((o ++ (dD r s L2).rem).take most.toNat).length = most \/ (dD r s L2).fin = true)) /\
  ((dD r s L2).fin = false -> cr q.count (o ++ (dD r s L2).rem) (dD r s L2)) := by
 have hgo : ∀ (L1 : List Int), (∀ t ∈ L1, t < r.d0) -> cM q.count r.d0 r.u0 most o (L1 ++ L2) = cM q.count r.d0 r.u0 most o L2 := by
  intro L1
  induction L1 with
  | nil => intro _; rfl
  | cons t L1 ih =>
   intro h
   show cM _ _ _ _ _ (t :: (L1 ++ L2)) = _
   rw [gO, if_pos (h t (List.mem_cons_self ..))]
   exact ih fun u hu => h u (List.mem_cons_of_mem _ hu)
 have he : o ++ s.rem = o := by rw [hrem, List.append_nil]
 refine ⟨fun h => ?_, fun h => ?_, fun h => xQ hc L2 s (by rw [he]; exact hr) h⟩
 all_goals
  unfold dW at h ⊢
  rw [hl, <- hst, hgo L1 h1] at h ⊢
  simp only at h ⊢
 .rw [Bool.and_eq_true] at h
  obtain ⟨h2, h3⟩ := h
  unfold jR at h3
  rw [Bool.and_eq_true] at h3
  have h4 := oT h3.1
  rcases Int.lt_or_le r.u0 r.d0 with hd | hd
  .rw [kZ hd] at h4 ⊢
   rw [sF hd, he]
   exact ⟨rfl, h4, fun _ => hd⟩
  .obtain ⟨a1, a2, a3⟩ := qY (most := most) hc hd o L2 s hf (by rw [he]; omega) (by rw [he]; exact hr)
   rw [he] at a1 a2 a3
   obtain ⟨b1, b2⟩ := a2 h2
   rw [b1] at h4 h3 ⊢
   refine ⟨rfl, h4, fun h5 => ?_⟩
   obtain ⟨c1, c2⟩ := b2 h5
   have := h3.2
   rw [c2] at this
   simp at this; omega
 .rcases Int.lt_or_le r.u0 r.d0 with hd | hd
  .rw [kZ hd, sF hd, he, List.take_of_length_le oM]
   refine ⟨rfl, .inr ?_⟩
   have hcl : 0 < q.count -> (o.length : Int) < q.count := fun h0 => (hr.2 h0).2
   refine xU hd L2 s o hm hcl ?_
   rw [kZ hd] at h
   cases h2 : (cM q.count r.d0 r.u0 most o L2).2 with
   | false => rfl
   | true =>
    exfalso
    rw [h2] at h
    unfold jR at h
    rw [decide_eq_true hm] at h
    simp at h
    have := hcl oM
    omega
  .obtain ⟨a1, a2, a3⟩ := qY (most := most) hc hd o L2 s hf (by rw [he]; omega) (by rw [he]; exact hr)
   rw [he] at a1 a2 a3
   have hlen := kC q.count r.d0 r.u0 most L2 o oM
   refine ⟨a1, ?_⟩
   rw [<- a1]
   cases h2 : (cM q.count r.d0 r.u0 most o L2).2 with
   | false =>
    rcases a3 h2 with h5 | h5
    .exact .inl h5
    .exact .inr h5.1
   | true =>
    obtain ⟨b1, b2⟩ := a2 h2
    rw [h2] at h
    unfold jR at h
    simp only [Bool.true_and, Bool.and_eq_false_iff, decide_eq_false_iff_not, Bool.or_eq_false_iff, beq_eq_false_iff_ne] at h
    rcases h with h | ⟨h5, h6⟩
    .exact .inl oM
    .refine .inr ?_
     cases hf2 : (dD r s L2).fin with
     | true => rfl
     | false =>
      have := (xQ hc L2 s (by rw [he]; exact hr) hf2).2 oM
      rw [b1] at h6; omega
theorem aD0 {r : Ru} {N : Nat} {s : It} {k : Nat} {l : List Int} (h : Tells r N s k l) {M : Nat} (hm : N <= M) : Tells r M s k l := by
 induction h with
 | zero => exact .zero
 | stop h hr => exact .stop (GenTo.mono h hm) hr
 | more h hr _ ih => exact .more (GenTo.mono h hm) hr ih
theorem aJ3 {r : Ru} {s : It} (h : ItOk r s) (ht : s.aP3 <= 1000000000000) (p : List Int) : ItOk r { s with rem := p } := ⟨h.y, h.ly, h.mo, h.d, h.day, h.wd, h.hr, h.mn, h.sec, h.ts, h.tsn, ⟨h.aP3.1, by simp only; omega⟩, h.count, h.wno, h.nwm, h.eas, h.lm, fun hf b => (h.meet hf b).imp fun _ hk => ⟨(lL (s := s) (o := { s with rem := p }) rfl rfl rfl).trans hk.1, hk.2⟩⟩
theorem aFj {s : It} {p : List Int} (h : s.rem = p) : s = { s with rem := p } := by subst h; rfl
theorem aHh {r : Ru} {N : Nat} {s : It} (h : s.fin = true) (hr : s.rem = []) : ∀ k, Tells r N s k []
 | 0 => .zero
 | k + 1 => .stop (.inl ⟨h, rfl⟩) hr
theorem aAg {r : Ru} {N : Nat} {k : Nat} {l : List Int} : ∀ (P : List Int) (s : It), s.rem = P -> (s.fin = true \/ ∀ p, ItOk r { s with rem := p }) -> Tells r N { s with rem := [] } k l -> Tells r N s (P.length + k) (P ++ l)
 | [], s, hp, _, h => by rw [aFj hp, List.length_nil, Nat.zero_add]; exact h
 | t :: P, s, hp, hok, h => by
  rw [List.length_cons, Nat.add_right_comm]
  refine .more (e := s) ?_ (by rw [hp]; rfl) (aAg P { s with rem := s.rem.tail } (by rw [hp]; rfl) hok h)
  cases hf : s.fin with
  | true => exact .inl ⟨hf, rfl⟩
  | false =>
   rcases hok with hok | hok
   .rw [hf] at hok; cases hok
   .exact .inr ⟨hf, .done (by rw [hp]; exact List.cons_ne_nil _ _), by have := hok s.rem; rwa [<- aFj rfl] at this⟩
theorem sV {r : Ru} {N : Nat} : ∀ (P : List Int) (s : It) (k : Nat), s.rem = P -> (s.fin = true \/ ((∀ p, ItOk r { s with rem := p }) /\ k <= P.length)) -> Tells r N s k (P.take k)
 | P, s, 0, _, _ => by rw [List.take_zero]; exact .zero
 | [], s, k + 1, hp, hok => by
  rcases hok with h | ⟨_, h⟩
  .exact aHh h hp _
  .simp at h
 | t :: P, s, k + 1, hp, hok => by
  rw [List.take_succ_cons]
  refine .more (e := s) ?_ (by rw [hp]; rfl) (sV P { s with rem := s.rem.tail } k (by rw [hp]; rfl) (hok.imp id fun h => ⟨h.1, by have := h.2; simp only [List.length_cons] at this; omega⟩))
  cases hf : s.fin with
  | true => exact .inl ⟨hf, rfl⟩
  | false =>
   rcases hok with hok | ⟨hok, _⟩
   .rw [hf] at hok; cases hok
   .exact .inr ⟨hf, .done (by rw [hp]; exact List.cons_ne_nil _ _), by have := hok s.rem; rwa [<- aFj rfl] at this⟩
theorem zT {r : Ru} {N : Nat} {s e : It} (hi : ItOk r s) (hf : s.fin = false) (hr : s.rem = []) (h : GenTo r N (eS r s) e) : GenTo r (N + 1) s e := by
 refine .inr ⟨hf, ?_, hi⟩
 rcases h with ⟨h, rfl⟩ | ⟨h, hg, _⟩
 .exact .fin hr h
 .exact .more hr h hg
theorem qN {r : Ru} {N : Nat} {s : It} {k : Nat} {l : List Int} (hi : ItOk r s) (hf : s.fin = false) (hr : s.rem = []) (h : Tells r N (eS r s) k l) : Tells r (N + 1) s k l := by
 cases h with
 | zero => exact .zero
 | stop h hr2 => exact .stop (zT hi hf hr h) hr2
 | more h hr2 ht => exact .more (zT hi hf hr h) hr2 (aD0 ht (Nat.le_succ N))
structure Fits (r : Ru) (q : Rul) (dayF : Int -> Bool) (R : Int -> It -> Prop) : Prop where
 over : ∀ k, 0 <= k -> eE q k -> eE q (k + 1)
 same : ∀ k s s', R k s -> Same s s' -> R k s'
 pos : ∀ k s, 0 <= k -> R k s -> ItOk r s -> ¬eE q k -> ∃ L1 L2, dY (eU q dayF k) q.aPz = L1 ++ L2 /\ (∀ t ∈ L1, t < r.d0) /\ out r s = dD r s L2
 adv : ∀ k s, 0 <= k -> R k s -> ItOk r s -> ¬eE q k -> s.fin = false -> ∃ k', k < k' /\ (∀ j, k < j -> j < k' -> eU q dayF j = []) /\ ((adv r (cS r s) s).fin = false -> R k' (adv r (cS r s) s) /\ ¬eE q k') /\ ((adv r (cS r s) s).fin = true -> eE q k')
theorem Fits.overs {r : Ru} {q : Rul} {dayF : Int -> Bool} {R : Int -> It -> Prop} (h : Fits r q dayF R) {k : Int} (hk : 0 <= k) (ho : eE q k) : ∀ n : Nat, eE q (k + n)
 | 0 => by simpa using ho
 | n + 1 => by have := h.over _ oM (h.overs hk ho n); rwa [show k + ((n + 1 : Nat) : Int) = k + n + 1 by omega]
theorem aJv (r : Ru) (b : Bool) (s : It) : (adv r b s).rem = s.rem /\ (adv r b s).aP3 = s.aP3 /\ (adv r b s).count = s.count := by
 have hg : ∀ (n : Nat) (s : It), (fK r n s).rem = s.rem /\ (fK r n s).aP3 = s.aP3 /\ (fK r n s).count = s.count := by
  intro n
  induction n with
  | zero => intro s; exact ⟨rfl, rfl, rfl⟩
  | succ n ih =>
   intro s
   unfold fK
   split
   .exact ⟨rfl, rfl, rfl⟩
   .split
    .split
     .exact ⟨rfl, rfl, rfl⟩
     .exact ih _
    .exact ih _
 have hx : ∀ s : It, (fix r s).rem = s.rem /\ (fix r s).aP3 = s.aP3 /\ (fix r s).count = s.count := by
  intro s
  unfold fix
  split
  .exact ⟨rfl, rfl, rfl⟩
  .exact hg _ s
 have hs : ∀ t, (bY r.aP2 s t).rem = s.rem /\ (bY r.aP2 s t).aP3 = s.aP3 /\ (bY r.aP2 s t).count = s.count := fun t => by
  unfold bY
  split
  .exact ⟨rfl, rfl, rfl⟩
  .split <;> exact ⟨rfl, rfl, rfl⟩
 unfold adv
 split
 .split <;> exact ⟨rfl, rfl, rfl⟩
 .split
  .have key : ∀ y mo : Int, (if 9999 < y then { s with y := y, mo := mo, fin := true } else reb r { s with y := y, mo := mo } y mo).rem = s.rem /\ (if 9999 < y then { s with y := y, mo := mo, fin := true } else reb r { s with y := y, mo := mo } y mo).aP3 = s.aP3 /\ (if 9999 < y then { s with y := y, mo := mo, fin := true } else reb r { s with y := y, mo := mo } y mo).count = s.count := fun y mo => by split <;> exact ⟨rfl, rfl, rfl⟩
   exact key _ _
  .split
   .exact hx _
   .split
    .exact hx _
    .unfold aMu
     exact ⟨(hx _).1.trans (hs _).1, (hx _).2.1.trans (hs _).2.1, (hx _).2.2.trans (hs _).2.2⟩
theorem zK {r : Ru} {s o : It} (h : Same s o) : cS r o = cS r s := by
 have hs : aX r o = aX r s := by unfold aX; rw [h.ly, h.mo, h.y, h.d]
 unfold cS
 rw [hs]
 congr 1
 funext k
 exact h.bad _
theorem tW {q : Rul} {st en most : Int} {o : List Int} (h1 : (o.length : Int) < most) (h2 : 0 < q.count -> (o.length : Int) < q.count) (hc : 0 <= q.count) : dW q st en most o [] = (o, true) := by
 have e : dY [] q.aPz = [] := by unfold dY; split <;> rfl
 unfold dW
 rw [e]
 show (o, true && jR q.count most o.length) = _
 unfold jR
 rw [decide_eq_true h1]
 rcases Int.lt_or_eq_of_le hc with h | h
 .rw [decide_eq_true (h2 h)]; simp
 .rw [<- h]; rfl
theorem aE3 {q : Rul} {dayF : Int -> Bool} {en most : Int} (hc : 0 <= q.count) {k : Int} {o l : List Int} (h : DatesP q dayF en most k o l) : ∀ k', k <= k' -> (∀ j, k <= j -> j < k' -> eU q dayF j = []) -> eE q k' -> (o.length : Int) < most -> (0 < q.count -> (o.length : Int) < q.count) -> l = o := by
 induction h with
 | over _ => intros; rfl
 | @stop k o h hs =>
  intro k' hk he ho h1 h2
  by_cases e : k = k'
  .subst e; exact absurd ho h
  .rw [he k oM oM, tW h1 h2 hc] at hs; cases hs
 | @more k o l h hs hn ih =>
  intro k' hk he ho h1 h2
  by_cases e : k = k'
  .subst e; exact absurd ho h
  .rw [he k oM oM, tW h1 h2 hc] at ih
   exact ih k' oM (fun j h3 h4 => he j oM h4) ho h1 h2
theorem aE5 {q : Rul} {dayF : Int -> Bool} {en most : Int} {k : Int} {o l : List Int} (h : DatesP q dayF en most k o l) (hd : en < q.start) : l = o := by
 induction h with
 | over _ => rfl
 | stop h hs => unfold dW; exact kZ hd _ _
 | more h hs hn ih => rw [ih]; unfold dW; exact kZ hd _ _
theorem aHk {q : Rul} (dayF : Int -> Bool) (k : Int) : (eU q dayF k).length <= 31622400 := by
 unfold eU
 split
 .split
  .exact Nat.le_trans (mX _ _ _ _ _ _) dE
  .simp
 .have h1 := vQ q dayF (cH q k) (fH q k).toNat
  have h2 : fH q k <= 366 := by
   have := Cal.lp_01 (pY q k)
   have := Cal.mdays_bd (pN q k % 12 + 1) (pM q k)
   unfold fH
   split
   .omega
   .split
    .omega
    .split <;> omega
  have h3 : (fH q k).toNat <= 366 := by omega
  have := Nat.mul_le_mul_right 86400 h3
  omega
theorem aCt {r : Ru} {q : Rul} {dayF : Int -> Bool} {R : Int -> It -> Prop} (fits : Fits r q dayF R) (hpres : wJ r) (hc : 0 <= q.count) (hst : r.d0 = q.start) {en most : Int} (hen : r.u0 = en) (hmost : most <= 1000000) {k : Int} {o l : List Int} (h : DatesP q dayF en most k o l) : 0 <= k -> ∀ k' s, k <= k' -> (∀ j, k <= j -> j < k' -> eU q dayF j = []) -> R k' s -> ¬eE q k' -> ItOk r s -> s.fin = false -> s.rem = [] -> s.aP3 = o.length -> (o.length : Int) < most -> cr q.count o s ->
  ∃ N l', l = o ++ l' /\ Tells r N s (most - o.length).toNat l' := by
 subst hen
 have hpos : ∀ k s (o : List Int), 0 <= k -> R k s -> ¬eE q k -> ItOk r s -> s.fin = false -> s.rem = [] -> s.aP3 = o.length -> (o.length : Int) < most -> cr q.count o s -> (eS r s).rem = (out r s).rem /\ (eS r s).aP3 = o.length + (out r s).rem.length /\ (eS r s).aP3 <= 1000000000000 /\ (eS r s).count = (out r s).count /\ ((eS r s).fin = true \/ ∀ p, ItOk r { eS r s with rem := p }) := by
  intro k s o h0 hR ho hi hf hr ht hm hcr
  obtain ⟨L1, L2, hl, h1, he⟩ := fits.pos k s h0 hR hi ho
  obtain ⟨x, hx1, hx2⟩ := u3 r L2 s
  have ht2 := aAi r s
  rw [hr] at ht2 hx1
  rw [<- he, List.nil_append] at hx1
  have hL : L2.length <= 31622400 := by
   have h2 := congrArg List.length hl
   have h3 := aCj (eU q dayF k) q.aPz
   have h4 := aHk (q := q) dayF k
   rw [List.length_append] at h2; omega
  simp only [List.length_nil] at ht2
  have hrd : (eS r s).rem = (out r s).rem /\ (eS r s).aP3 = (out r s).aP3 /\ (eS r s).count = (out r s).count := by
   unfold eS
   split
   .exact ⟨rfl, rfl, rfl⟩
   .exact aJv r _ _
  have h5 : (eS r s).aP3 = o.length + (out r s).rem.length := by rw [hrd.2.1]; omega
  have h6 : (eS r s).aP3 <= 1000000000000 := by rw [h5, hx1]; omega
  refine ⟨hrd.1, h5, h6, hrd.2.2, ?_⟩
  cases hf2 : (eS r s).fin with
  | true => exact .inl rfl
  | false => exact .inr (aJ3 (hpres s hi hr hf hf2) h6)
 induction h with
 | @over k o h =>
  intro h0 k' s hk _ _ hno
  have := fits.overs h0 h (k' - k).toNat
  rw [Int.toNat_of_nonneg oM] at this
  exact absurd (by rwa [show ∀ a b : Int, a + (b - a) = b by omega] at this) hno
 | @stop k o h hs =>
  intro h0 k' s hk hem hR hno hi hf hr ht hm hcr
  by_cases e : k = k'
  .subst e
   obtain ⟨L1, L2, hl, h1, he⟩ := fits.pos k s h0 hR hi h
   obtain ⟨_, a2, _⟩ := zX (most := most) hc hst hl h1 hf hr hm hcr
   obtain ⟨b1, b2⟩ := a2 hs
   obtain ⟨c1, c2, c3, c4, c5⟩ := hpos k s o h0 hR h hi hf hr ht hm hcr
   rw [<- he] at b1 b2
   refine ⟨0 + 1, (out r s).rem.take (most - o.length).toNat, ?_, qN hi hf hr ?_⟩
   .rw [b1, List.take_append, List.take_of_length_le oM]
    congr 2; omega
   .refine sV _ _ _ c1 ?_
    rcases b2 with b2 | b2
    .rcases c5 with c5 | c5
     .exact .inl c5
     .rw [List.length_take, List.length_append] at b2
      exact .inr ⟨c5, by omega⟩
    .left
     unfold eS; rw [if_pos b2]; exact b2
  .rw [hem k oM oM, tW hm (fun h => (hcr.2 h).2) hc] at hs; cases hs
 | @more k o l h hs hn ih =>
  intro h0 k' s hk hem hR hno hi hf hr ht hm hcr
  by_cases e : k = k'
  .subst e
   obtain ⟨L1, L2, hl, h1, he⟩ := fits.pos k s h0 hR hi h
   obtain ⟨a1, _, a3⟩ := zX (most := most) hc hst hl h1 hf hr hm hcr
   obtain ⟨b1, b2, b3⟩ := a1 hs
   obtain ⟨c1, c2, c3, c4, c5⟩ := hpos k s o h0 hR h hi hf hr ht hm hcr
   rw [<- he] at b1 b2 b3 a3
   rw [b1] at hn ih
   have hm2 : (o.length : Int) + (out r s).rem.length < most := by rw [List.length_append] at b2; omega
   have ends : l = o ++ (out r s).rem -> (eS r s).fin = true -> ∃ N l', l = o ++ l' /\ Tells r N s (most - o.length).toNat l' := by
    intro e1 e2
    refine ⟨0 + 1, (out r s).rem, e1, qN hi hf hr ?_⟩
    have := sV (r := r) (N := 0) (out r s).rem (eS r s) (most - o.length).toNat c1 (.inl e2)
    rwa [List.take_of_length_le oM] at this
   cases hf3 : (out r s).fin with
   | true => exact ends (aE5 hn (by rw [<- hst]; exact b3 hf3)) (by unfold eS; rw [if_pos hf3]; exact hf3)
   | false =>
    have hsm := dP r s
    have hi2 := aBs hi hr
    obtain ⟨k2, d1, d2, d3, d4⟩ := fits.adv k (out r s) h0 (fits.same k _ _ hR hsm) hi2 h hf3
    rw [zK hsm] at d3 d4
    have hrd : eS r s = adv r (cS r s) (out r s) := mJ hf3
    rw [<- hrd] at d3 d4
    have hcr2 := a3 hf3
    cases hf4 : (eS r s).fin with
    | true => exact ends (aE3 hc hn k2 oM (fun j h1 h2 => d2 j oM h2) (d4 hf4) b2 (fun h => (hcr2.2 h).2)) hf4
    | false =>
     obtain ⟨d5, d6⟩ := d3 hf4
     rcases c5 with c5 | c5
     .rw [hf4] at c5; cases c5
     have hsm2 : Same (eS r s) { eS r s with rem := [] } := ⟨rfl, rfl, rfl, rfl, rfl, rfl, rfl, rfl, rfl, rfl, rfl, rfl, rfl⟩
     obtain ⟨N, l', e1, e2⟩ := ih oM k2 { eS r s with rem := [] } oM (fun j h1 h2 => d2 j oM h2) (fits.same _ _ _ d5 hsm2) d6 (c5 []) hf4 rfl (by rw [List.length_append]; simp only; omega) b2 ⟨fun h => by simp only; rw [c4]; exact hcr2.1 h, fun h => by simp only; rw [c4]; exact hcr2.2 h⟩
     refine ⟨N + 1, (out r s).rem ++ l', by rw [e1, List.append_assoc], qN hi hf hr ?_⟩
     have := aAg (out r s).rem (eS r s) c1 (.inr c5) e2
     rwa [show (out r s).rem.length + (most - ((o ++ (out r s).rem).length : Int)).toNat = (most - o.length).toNat by rw [List.length_append]; omega] at this
  .rw [hem k oM oM, tW hm (fun h => (hcr.2 h).2) hc] at ih
   exact ih oM k' s oM (fun j h1 h2 => hem j oM h2) hR hno hi hf hr ht hm hcr
open Go.Md Go.Tab Go.Fr
theorem qO {l : List Int} {i : Nat} (d : Int) (h : i < l.length) : l.getD i d = l[i] := by rw [List.getD_eq_getElem?_getD, List.getElem?_eq_getElem h]; rfl
abbrev SI (l : List Int) : Prop := l.Pairwise (· < ·)
theorem SI.ext : ∀ {l m : List Int}, SI l -> SI m -> (∀ x, x ∈ l ↔ x ∈ m) -> l = m
 | [], [], _, _, _ => rfl
 | [], b :: m, _, _, h => absurd ((h b).2 (List.mem_cons_self ..)) (by simp)
 | a :: l, [], _, _, h => absurd ((h a).1 (List.mem_cons_self ..)) (by simp)
 | a :: l, b :: m, hl, hm, h => by
  obtain ⟨l1, l2⟩ := List.pairwise_cons.1 hl
  obtain ⟨m1, m2⟩ := List.pairwise_cons.1 hm
  have e : a = b := by
   rcases List.mem_cons.1 ((h a).1 (List.mem_cons_self ..)) with e | h1
   .exact e
   .rcases List.mem_cons.1 ((h b).2 (List.mem_cons_self ..)) with e | h2
    .exact e.symm
    .have := m1 a h1; have := l1 b h2; omega
  subst e
  rw [SI.ext l2 m2 fun x => ⟨fun hx => ?_, fun hx => ?_⟩]
  .rcases List.mem_cons.1 ((h x).1 (List.mem_cons_of_mem _ hx)) with e | h1
   .have := l1 x hx; omega
   .exact h1
  .rcases List.mem_cons.1 ((h x).2 (List.mem_cons_of_mem _ hx)) with e | h1
   .have := m1 x hx; omega
   .exact h1
theorem rH {x : Int} {l : List Int} : x ∈ eM l ↔ x ∈ l := by unfold eM; exact List.mem_mergeSort
theorem yI {l : List Int} (h : l.Nodup) : SI (eM l) := by
 have h1 : (eM l).Pairwise (fun a b => decide (a <= b) = true) := by
  unfold eM
  exact List.pairwise_mergeSort (fun a b c h1 h2 => by simp only [decide_eq_true_eq] at *; omega) (fun a b => by simp only [Bool.or_eq_true, decide_eq_true_eq]; omega) l
 have h2 : (eM l).Nodup := (List.mergeSort_perm l _).nodup_iff.2 h
 exact (h1.and h2).imp fun {a b} ⟨h3, h4⟩ => by simp only [decide_eq_true_eq] at h3; omega
theorem SI.nodup {l : List Int} (h : SI l) : l.Nodup := h.imp fun {a b} h => by omega
theorem SI.map_add {l : List Int} (h : SI l) (d : Int) : SI (l.map (d + ·)) := by
 unfold SI
 rw [List.pairwise_map]
 exact h.imp fun {a b} h => by omega
theorem SI.flat {f : Nat -> List Int} {a : Int} {w : Int} (hw : 0 <= w) (h : ∀ i, SI (f i)) (hb : ∀ (i : Nat) x, x ∈ f i -> a + i * w <= x /\ x < a + i * w + w) (n : Nat) : SI ((List.range n).flatMap f) := by
 unfold SI
 rw [List.pairwise_flatMap]
 refine ⟨fun i _ => h i, List.pairwise_lt_range.imp fun {i j} hij x hx y hy => ?_⟩
 have h1 := (hb i x hx).2
 have h2 := (hb j y hy).1
 have h3 : ((i : Int) + 1) * w <= (j : Int) * w := Int.mul_le_mul_of_nonneg_right oM hw
 rw [Int.add_mul, Int.one_mul] at h3
 omega
theorem oG {f : Nat -> List Int} {n : Nat} {x : Int} : x ∈ (List.range n).flatMap f ↔ ∃ i, i < n /\ x ∈ f i := by
 rw [List.mem_flatMap]
 exact ⟨fun ⟨i, h1, h2⟩ => ⟨i, List.mem_range.1 h1, h2⟩, fun ⟨i, h1, h2⟩ => ⟨i, List.mem_range.2 h1, h2⟩⟩
theorem aC3 {l at_ : List Int} (h : SI l) : SI (pE l at_ l.length) := by
 unfold pE SI
 rw [List.pairwise_map]
 have h1 : ((List.range l.length).filter (xY at_ l.length)).Pairwise (· < ·) := List.pairwise_lt_range.filter _
 refine h1.imp_of_mem fun {i j} hi hj hij => ?_
 have hj2 := List.mem_range.1 (List.mem_filter.1 hj).1
 rw [qO _ hj2, qO _ (Nat.lt_trans hij hj2)]
 exact List.pairwise_iff_getElem.1 h i j _ hj2 hij
theorem aGn {l at_ : List Int} {x : Int} : x ∈ pE l at_ l.length ↔ ∃ i, xY at_ l.length i = true /\ l[i]? = some x := by
 unfold pE
 rw [List.mem_map]
 constructor
 .rintro ⟨i, h1, rfl⟩
  obtain ⟨h2, h3⟩ := List.mem_filter.1 h1
  have := List.mem_range.1 h2
  exact ⟨i, h3, by rw [qO _ this, List.getElem?_eq_getElem this]⟩
 .rintro ⟨i, h1, h2⟩
  obtain ⟨h3, h4⟩ := List.getElem?_eq_some_iff.1 h2
  exact ⟨i, List.mem_filter.2 ⟨List.mem_range.2 h3, h1⟩, by rw [qO _ h3, h4]⟩
theorem aD6 {l : List Int} {t : Option Int} {x : Int} : x ∈ jP l t ↔ x ∈ l \/ t = some x := by
 unfold jP
 cases t with
 | none => simp
 | some y =>
  simp only
  split
  .rename_i h
   obtain ⟨z, h1, h2⟩ := List.any_eq_true.1 h
   have h2 := beq_iff_eq.1 h2
   subst h2
   exact ⟨.inl, fun h => h.elim id fun e => by cases e; exact h1⟩
  .rw [List.mem_append, List.mem_singleton, Option.some.injEq]
   exact ⟨fun h => h.imp id Eq.symm, fun h => h.imp id Eq.symm⟩
theorem aBb {l : List Int} {t : Option Int} (h : l.Nodup) : (jP l t).Nodup := by
 unfold jP
 cases t with
 | none => exact h
 | some y =>
  simp only
  split
  .exact h
  .rename_i h2
   rw [List.nodup_append]
   refine ⟨h, by simp, fun a ha b hb e => h2 ?_⟩
   rw [List.mem_singleton] at hb
   exact List.any_eq_true.2 ⟨a, ha, beq_iff_eq.2 (by rw [e, hb])⟩
theorem aCr (f : Int -> Option Int) : ∀ (ps l : List Int), l.Nodup -> (ps.foldl (fun l p => jP l (f p)) l).Nodup /\ ∀ x, x ∈ ps.foldl (fun l p => jP l (f p)) l ↔ x ∈ l \/ ∃ p ∈ ps, f p = some x
 | [], l, h => ⟨h, fun x => by simp⟩
 | p :: ps, l, h => by
  obtain ⟨h1, h2⟩ := aCr f ps (jP l (f p)) (aBb h)
  refine ⟨h1, fun x => ?_⟩
  show x ∈ ps.foldl _ _ ↔ _
  rw [h2 x, aD6]
  simp only [List.mem_cons, exists_eq_or_imp, or_assoc]
theorem aDf {f : Int -> Int -> Int} (ts : List Int) (hn : 0 < ts.length) : ∀ (ds : List Int) (j : Nat), (ds.flatMap fun i => ts.map (f i))[j]? = (ds[j / ts.length]?).map fun i => f i (ts.getD (j % ts.length) 0)
 | [], j => by simp
 | d :: ds, j => by
  rw [List.flatMap_cons, List.getElem?_append, List.length_map]
  split
  .rename_i h
   rw [Nat.div_eq_of_lt h, Nat.mod_eq_of_lt h, List.getElem?_map, List.getElem?_eq_getElem h, qO _ h]; rfl
  .rename_i h
   rw [aDf ts hn ds (j - ts.length)]
   have e : j = (j - ts.length) + ts.length := by omega
   conv => rhs; rw [e]
   rw [Nat.add_div_right _ hn, Nat.add_mod_right]
   rfl
def iN (r : Ru) (s : It) : List Int := (l4 r s).flatMap (pH s.ts s.ly)
theorem z8 (ts : List Int) (f : Int -> Int -> Int) : ∀ ds : List Int, (ds.flatMap fun i => ts.map (f i)).length = ds.length * ts.length
 | [] => by simp
 | d :: ds => by rw [List.flatMap_cons, List.length_append, z8 ts f ds, List.length_map, List.length_cons, Nat.succ_mul]; omega
theorem yG {r : Ru} {s : It} (hn : 0 < s.ts.length) (p : Int) (hz : p ≠ 0) : oI r s p = if (if p < 0 then p + (iN r s).length else p - 1) < 0 then none else (iN r s)[(if p < 0 then p + (iN r s).length else p - 1).toNat]? := by
 have hlen : (iN r s).length = (l4 r s).length * s.ts.length := z8 s.ts _ _
 have hget : ∀ j : Nat, (iN r s)[j]? = ((l4 r s)[j / s.ts.length]?).map fun i => (Cal.daysTo s.ly + i) * 86400 + s.ts.getD (j % s.ts.length) 0 := aDf s.ts hn _
 have hn' : (0 : Int) < s.ts.length := by omega
 have key : ∀ j : Nat, ∀ q : Int, q = ((j : Int) / (s.ts.length : Int)) -> ∀ m : Int, m = (j : Int) % (s.ts.length : Int) -> (if q < 0 then none else ((l4 r s)[q.toNat]?).map fun i => (Cal.daysTo s.ly + i) * 86400 + s.ts.getD m.toNat 0) = (iN r s)[j]? := by
  intro j q hq m hm
  rw [<- Int.natCast_ediv] at hq
  rw [<- Int.natCast_emod] at hm
  subst hq hm
  rw [if_neg (Int.not_lt.2 (Int.natCast_nonneg _)), hget, Int.toNat_natCast, Int.toNat_natCast]
 unfold oI
 simp only
 by_cases hp : p < 0
 .simp only [if_pos hp]
  have hneg : p / (s.ts.length : Int) < 0 := Int.ediv_neg_of_neg_of_pos hp hn'
  rw [if_pos hneg]
  have e1 : (p + ((iN r s).length : Int)) / (s.ts.length : Int) = p / s.ts.length + (l4 r s).length := by
   rw [hlen, Int.natCast_mul, Int.mul_comm]; exact Int.add_mul_ediv_left p _ oM
  have e2 : (p + ((iN r s).length : Int)) % (s.ts.length : Int) = p % s.ts.length := by
   rw [hlen, Int.natCast_mul, Int.mul_comm]; exact Int.add_mul_emod_self_left _ _ _
  by_cases h0 : p + ((iN r s).length : Int) < 0
  .rw [if_pos h0, if_pos]
   rw [<- e1]; exact Int.ediv_neg_of_neg_of_pos h0 hn'
  .rw [if_neg h0]
   refine key (p + ((iN r s).length : Int)).toNat _ ?_ _ ?_
   .rw [Int.toNat_of_nonneg oM, e1]
   .rw [Int.toNat_of_nonneg oM, e2]
 .simp only [if_neg hp]
  rw [if_neg (show ¬ p - 1 < 0 by omega)]
  have hneg : ¬ (p - 1) / (s.ts.length : Int) < 0 := by
   have := Int.ediv_nonneg (a := p - 1) (b := s.ts.length) oM oM
   omega
  rw [if_neg hneg]
  exact key (p - 1).toNat _ (by rw [Int.toNat_of_nonneg oM]) _ (by rw [Int.toNat_of_nonneg oM])
theorem aMo {r : Ru} {s : It} (hn : 0 < s.ts.length) (hs : SI (iN r s)) (h0 : 0 < r.aPz.length) (hz : ∀ p ∈ r.aPz, p ≠ 0) : eM (iB r s) = dY (iN r s) r.aPz := by
 obtain ⟨h1, h2⟩ := aCr (oI r s) r.aPz [] List.nodup_nil
 unfold dY
 rw [if_neg oM]
 refine SI.ext (yI h1) (aC3 hs) fun x => ?_
 rw [rH, aGn]
 refine (h2 x).trans ⟨?_, ?_⟩
 .rintro (h | ⟨p, hp, h⟩)
  .simp at h
  .rw [yG hn p (hz p hp)] at h
   have hz := hz p hp
   by_cases hp0 : p < 0
   .simp only [if_pos hp0] at h
    by_cases hg : p + ((iN r s).length : Int) < 0
    .rw [if_pos hg] at h; cases h
    .rw [if_neg hg] at h
     refine ⟨_, ?_, h⟩
     unfold xY
     rw [Bool.or_eq_true, List.any_eq_true, List.any_eq_true]
     exact .inr ⟨p, hp, beq_iff_eq.2 oM⟩
   .simp only [if_neg hp0, if_neg (show ¬ p - 1 < 0 by omega)] at h
    refine ⟨_, ?_, h⟩
    unfold xY
    rw [Bool.or_eq_true, List.any_eq_true, List.any_eq_true]
    exact .inl ⟨p, hp, beq_iff_eq.2 oM⟩
 .rintro ⟨i, hb, hx⟩
  have hl := (List.getElem?_eq_some_iff.1 hx).1
  unfold xY at hb
  rw [Bool.or_eq_true, List.any_eq_true, List.any_eq_true] at hb
  right
  rcases hb with ⟨p, hp, e⟩ | ⟨p, hp, e⟩
  .have e := beq_iff_eq.1 e
   refine ⟨p, hp, ?_⟩
   rw [yG hn p (hz p hp)]
   simp only [if_neg (show ¬ p < 0 by omega), if_neg (show ¬ p - 1 < 0 by omega)]
   rw [show (p - 1).toNat = i by omega]; exact hx
  .have e := beq_iff_eq.1 e
   refine ⟨p, hp, ?_⟩
   rw [yG hn p (hz p hp)]
   simp only [if_pos (show p < 0 by omega), if_neg (show ¬ p + ((iN r s).length : Int) < 0 by omega)]
   rw [show (p + ((iN r s).length : Int)).toNat = i by omega]; exact hx
theorem sC (r : Ru) (s : It) (a : Int) : ∀ k, jO r s a k = dD r s ((List.range k).flatMap fun (j : Nat) => if bad r s (a + j) = true then [] else pH s.ts s.ly (a + j))
 | 0 => rfl
 | k + 1 => by
  have h := jB r s a k
  rw [lB, i5, oY, <- sC r s a k]
  unfold kM
  rw [h.bad, h.ts, h.ly]
  split <;> rfl
theorem qC (r : Ru) (s : It) : iN r s = (List.range ((aX r s).2 - (aX r s).1).toNat).flatMap fun (j : Nat) => if bad r s ((aX r s).1 + j) = true then [] else pH s.ts s.ly ((aX r s).1 + j) := by
 unfold iN l4
 generalize ((aX r s).2 - (aX r s).1).toNat = n
 induction n with
 | zero => rfl
 | succ n ih =>
  rw [i5, List.range_succ, List.map_append, List.filter_append, List.flatMap_append, ih]
  congr 1
  cases h : bad r s ((aX r s).1 + (n : Int)) <;> simp [h]
theorem aLu {ts : List Int} (h : SI ts) (ly i : Int) : SI (pH ts ly i) := by
 unfold pH; exact h.map_add _
theorem aLw {ts : List Int} (h : ∀ t ∈ ts, 0 <= t /\ t < 86400) {ly i x : Int} (hx : x ∈ pH ts ly i) : (Cal.daysTo ly + i) * 86400 <= x /\ x < (Cal.daysTo ly + i) * 86400 + 86400 := by
 unfold pH at hx
 obtain ⟨t, h1, rfl⟩ := List.mem_map.1 hx
 have := h t h1
 omega
theorem aJ7 {r : Ru} {s : It} (h : SI s.ts) (hb : ∀ t ∈ s.ts, 0 <= t /\ t < 86400) : SI (iN r s) := by
 rw [qC]
 refine SI.flat (a := (Cal.daysTo s.ly + (aX r s).1) * 86400) (w := 86400) oM (fun i => ?_) (fun i x hx => ?_) _
 .split
  .exact List.Pairwise.nil
  .exact aLu h _ _
 .split at hx
  .simp at hx
  .have := aLw hb hx
   omega
theorem x6 {r : Ru} {s : It} (h : SI s.ts) (hb : ∀ t ∈ s.ts, 0 <= t /\ t < 86400) (hz : ∀ p ∈ r.aPz, p ≠ 0) : out r s = dD r s (dY (iN r s) r.aPz) := by
 by_cases h0 : r.aPz.length = 0
 .rw [qX _ _ (.inl h0), rO, sC, <- qC]
  unfold dY; rw [if_pos h0]
 .by_cases h1 : s.ts.length = 0
  .rw [qX _ _ (.inr h1), rO, sC, <- qC]
   have e : iN r s = [] := by
    unfold iN
    rw [List.flatMap_eq_nil_iff]
    intro i _
    unfold pH
    rw [List.eq_nil_of_length_eq_zero h1]; rfl
   rw [e]
   unfold dY; split <;> rfl
  .unfold out
   rw [if_pos ⟨h0, h1⟩, aMo oM (aJ7 h hb) oM hz]
theorem mK {hs ms ss : List Int} {day fr lg x : Int} : x ∈ fP hs ms ss day fr lg ↔ day * 86400 <= x /\ x < day * 86400 + 86400 /\ fr <= x /\ x < fr + lg /\ aI hs ((x - day * 86400) / 3600) = true /\ aI ms ((x - day * 86400) / 60 % 60) = true /\ aI ss ((x - day * 86400) % 60) = true := by
 unfold fP aCn
 rw [oG]
 constructor
 .rintro ⟨h, hh, hx⟩
  split at hx
  .rename_i h1
   unfold wC at hx
   obtain ⟨m, hm, hx⟩ := oG.1 hx
   split at hx
   .rename_i h2
    unfold vY at hx
    obtain ⟨s, hs, rfl⟩ := List.mem_map.1 hx
    obtain ⟨h3, h4⟩ := List.mem_filter.1 hs
    have h3 := List.mem_range.1 h3
    rw [Bool.and_eq_true] at h1 h2 h4
    have h5 : wo fr lg (day * 86400 + h * 3600 + m * 60 + s) 1 = false := by simpa using h4.2
    unfold wo at h5
    rw [Bool.or_eq_false_iff, decide_eq_false_iff_not, decide_eq_false_iff_not] at h5
    have e : day * 86400 + (h : Int) * 3600 + m * 60 + s - day * 86400 = h * 3600 + m * 60 + s := by omega
    rw [e, show ((h : Int) * 3600 + m * 60 + s) / 3600 = h by omega, show ((h : Int) * 3600 + m * 60 + s) / 60 % 60 = m by omega, show ((h : Int) * 3600 + m * 60 + s) % 60 = s by omega]
    exact ⟨by omega, by omega, by omega, by omega, h1.1, h2.1, h4.1⟩
   .simp at hx
  .simp at hx
 .rintro ⟨h1, h2, h3, h4, h5, h6, h7⟩
  have e : x = day * 86400 + (((x - day * 86400) / 3600).toNat : Nat) * 3600 + (((x - day * 86400) / 60 % 60).toNat : Nat) * 60 + (((x - day * 86400) % 60).toNat : Nat) := by omega
  have w : ∀ a n : Int, a <= x -> x < a + n -> (!wo fr lg a n) = true := fun a n ha hn => by
   unfold wo
   rw [decide_eq_false oM, decide_eq_false oM]; rfl
  refine ⟨((x - day * 86400) / 3600).toNat, by omega, ?_⟩
  rw [if_pos (by rw [Int.toNat_of_nonneg oM, h5, w _ _ oM oM]; rfl)]
  unfold wC
  refine oG.2 ⟨((x - day * 86400) / 60 % 60).toNat, by omega, ?_⟩
  rw [if_pos (by rw [Int.toNat_of_nonneg oM, Int.toNat_of_nonneg oM, h6, w _ _ oM oM]; rfl)]
  unfold vY
  exact List.mem_map.2 ⟨((x - day * 86400) % 60).toNat, List.mem_filter.2 ⟨List.mem_range.2 oM, by rw [Int.toNat_of_nonneg oM, Int.toNat_of_nonneg oM, Int.toNat_of_nonneg oM, h7, w _ _ oM oM]; rfl⟩, e.symm⟩
theorem zA (hs ms ss : List Int) (day fr lg : Int) : SI (fP hs ms ss day fr lg) := by
 have h1 : ∀ b, SI (vY ss fr lg b 60) /\ ∀ x ∈ vY ss fr lg b 60, b <= x /\ x < b + 60 := fun b => by
  unfold vY
  refine ⟨?_, fun x hx => ?_⟩
  .unfold SI
   rw [List.pairwise_map]
   exact (List.pairwise_lt_range.filter _).imp fun {i j} h => by omega
  .obtain ⟨s, h, rfl⟩ := List.mem_map.1 hx
   have := List.mem_range.1 (List.mem_filter.1 h).1
   omega
 have h2 : ∀ b, SI (wC ms ss fr lg b 60) /\ ∀ x ∈ wC ms ss fr lg b 60, b <= x /\ x < b + 3600 := fun b => by
  unfold wC
  refine ⟨SI.flat (a := b) (w := 60) oM (fun i => ?_) (fun i x hx => ?_) _, fun x hx => ?_⟩
  .split
   .exact (h1 _).1
   .exact List.Pairwise.nil
  .split at hx
   .have := (h1 _).2 x hx; omega
   .simp at hx
  .obtain ⟨i, hi, hx⟩ := oG.1 hx
   split at hx
   .have := (h1 _).2 x hx; omega
   .simp at hx
 unfold fP aCn
 refine SI.flat (a := day * 86400) (w := 3600) oM (fun i => ?_) (fun i x hx => ?_) _
 .split
  .exact (h2 _).1
  .exact List.Pairwise.nil
 .split at hx
  .have := (h2 _).2 x hx; omega
  .simp at hx
structure PartOk (l : List Int) (n : Int) : Prop where
 some : 0 < l.length
 nd : l.Nodup
 bd : ∀ x ∈ l, 0 <= x /\ x < n
theorem PartOk.among {l : List Int} {n : Int} (h : PartOk l n) (x : Int) : aI l x = true ↔ x ∈ l := by
 unfold aI
 rw [Bool.or_eq_true, beq_iff_eq, List.any_eq_true]
 constructor
 .rintro (h1 | ⟨y, h1, h2⟩)
  .have := h.some; omega
  .rwa [<- beq_iff_eq.1 h2]
 .intro h1; exact .inr ⟨x, h1, beq_self_eq_true x⟩
theorem PartOk.one {x n : Int} (h : 0 <= x /\ x < n) : PartOk [x] n := ⟨by simp, by simp, fun y hy => by rw [List.mem_singleton] at hy; rw [hy]; exact h⟩
theorem oV {hs ms ss : List Int} (h1 : PartOk hs 24) (h2 : PartOk ms 60) (h3 : PartOk ss 60) : SI (nV hs ms ss) := by
 unfold nV
 refine yI ?_
 unfold List.Nodup
 rw [List.pairwise_flatMap]
 refine ⟨fun h hh => ?_, h1.nd.imp_of_mem fun {a b} ha hb hab x hx y hy => ?_⟩
 .rw [List.pairwise_flatMap]
  refine ⟨fun m hm => ?_, h2.nd.imp_of_mem fun {a b} ha hb hab x hx y hy => ?_⟩
  .rw [List.pairwise_map]
   exact h3.nd.imp fun {a b} h => by omega
  .obtain ⟨s, hs, rfl⟩ := List.mem_map.1 hx
   obtain ⟨t, ht, rfl⟩ := List.mem_map.1 hy
   have := h3.bd s hs; have := h3.bd t ht
   omega
 .obtain ⟨m, hm, hx⟩ := List.mem_flatMap.1 hx
  obtain ⟨n, hn, hy⟩ := List.mem_flatMap.1 hy
  obtain ⟨s, hs, rfl⟩ := List.mem_map.1 hx
  obtain ⟨t, ht, rfl⟩ := List.mem_map.1 hy
  have := h3.bd s hs; have := h3.bd t ht; have := h2.bd m hm; have := h2.bd n hn
  omega
theorem qE {hs ms ss : List Int} (h1 : PartOk hs 24) (h2 : PartOk ms 60) (h3 : PartOk ss 60) {t : Int} : t ∈ nV hs ms ss ↔ 0 <= t /\ t < 86400 /\ t / 3600 ∈ hs /\ t / 60 % 60 ∈ ms /\ t % 60 ∈ ss := by
 unfold nV
 rw [rH, List.mem_flatMap]
 constructor
 .rintro ⟨h, hh, hx⟩
  obtain ⟨m, hm, hx⟩ := List.mem_flatMap.1 hx
  obtain ⟨s, hs, rfl⟩ := List.mem_map.1 hx
  have := h1.bd h hh; have := h2.bd m hm; have := h3.bd s hs
  rw [show (h * 3600 + m * 60 + s) / 3600 = h by omega, show (h * 3600 + m * 60 + s) / 60 % 60 = m by omega, show (h * 3600 + m * 60 + s) % 60 = s by omega]
  exact ⟨by omega, by omega, hh, hm, hs⟩
 .rintro ⟨a, b, c, d, e⟩
  exact ⟨_, c, List.mem_flatMap.2 ⟨_, d, List.mem_map.2 ⟨_, e, by omega⟩⟩⟩
theorem aDr {hs ms ss T : List Int} {D fr lg : Int} (hT : SI T) (h : ∀ t, t ∈ T ↔ 0 <= t /\ t < 86400 /\ fr <= D * 86400 + t /\ D * 86400 + t < fr + lg /\ aI hs (t / 3600) = true /\ aI ms (t / 60 % 60) = true /\ aI ss (t % 60) = true) : fP hs ms ss D fr lg = T.map (D * 86400 + ·) := by
 refine SI.ext (zA _ _ _ _ _ _) (hT.map_add _) fun x => ?_
 rw [mK, List.mem_map]
 constructor
 .rintro ⟨a, b, c, d, e⟩
  exact ⟨x - D * 86400, (h _).2 ⟨by omega, by omega, by omega, by omega, e⟩, by omega⟩
 .rintro ⟨t, ht, rfl⟩
  obtain ⟨a, b, c, d, e⟩ := (h t).1 ht
  rw [show D * 86400 + t - D * 86400 = t by omega]
  exact ⟨by omega, by omega, c, d, e⟩
theorem z6 {hs ms ss : List Int} (h1 : PartOk hs 24) (h2 : PartOk ms 60) (h3 : PartOk ss 60) (D : Int) : fP hs ms ss D (D * 86400) 86400 = (nV hs ms ss).map (D * 86400 + ·) :=
 aDr (oV h1 h2 h3) fun t => by
  rw [qE h1 h2 h3, h1.among, h2.among, h3.among]
  exact ⟨fun ⟨a, b, c⟩ => ⟨a, b, by omega, by omega, c⟩, fun ⟨a, b, _, _, c⟩ => ⟨a, b, c⟩⟩
open Go.Md Go.Tab Go.Fr
def aNb (rg mm md nm : List Int) (n : Nat) : Bool := (List.range n).all fun i => (List.range 12).any fun j => decide (rg.getD j 0 <= (i : Int)) && (decide ((i : Int) < rg.getD (j + 1) 0) && (mm.getD i 0 == (j : Int) + 1 && (md.getD i 0 == (i : Int) - rg.getD j 0 + 1 && nm.getD i 0 == (i : Int) - rg.getD (j + 1) 0)))
theorem aNa : aNb [0, 31, 60, 91, 121, 152, 182, 213, 244, 274, 305, 335, 366] mQ m0 j7 366 = true := by kernel_rfl
theorem aNg : aNb [0, 31, 59, 90, 120, 151, 181, 212, 243, 273, 304, 334, 365] aAl aAf uX 365 = true := by kernel_rfl
theorem chkE : ((List.range 7).all fun j => (mQ.getD (366 + j) 0 == 1 && (m0.getD (366 + j) 0 == (j : Int) + 1 && j7.getD (366 + j) 0 == (j : Int) - 31)) && (aAl.getD (365 + j) 0 == 1 && (aAf.getD (365 + j) 0 == (j : Int) + 1 && uX.getD (365 + j) 0 == (j : Int) - 31))) = true := by kernel_rfl
theorem aKp (y : Int) : aNb (rgY y) (mmY y) (mdY y) (mM y) (365 + Cal.lp y).toNat = true := by
 unfold rgY mmY mdY mM Cal.lp
 cases Cal.leapB y with
 | true => exact aNa
 | false => exact aNg
theorem aJd {y i : Int} (h0 : 0 <= i) (h1 : i < 372 + Cal.lp y) : (mmY y).getD i.toNat 0 = Cal.monthOf (Cal.daysTo y + i) /\ (mdY y).getD i.toNat 0 = Cal.mdayOf (Cal.daysTo y + i) /\ (mM y).getD i.toNat 0 = Cal.mdayOf (Cal.daysTo y + i) - Cal.mdays (Cal.monthOf (Cal.daysTo y + i)) (Cal.yearOf (Cal.daysTo y + i)) - 1 := by
 have hlp := Cal.lp_01 y
 rcases Int.lt_or_le i (365 + Cal.lp y) with h | h
 .have hc := List.all_eq_true.1 (aKp y) i.toNat (List.mem_range.2 oM)
  obtain ⟨j, hj, hc⟩ := List.any_eq_true.1 hc
  have hj := List.mem_range.1 hj
  rw [Int.toNat_of_nonneg h0, pX oM, pX oM] at hc
  simp only [Bool.and_eq_true, decide_eq_true_eq, beq_iff_eq] at hc
  obtain ⟨c1, c2, c3, c4, c5⟩ := hc
  obtain ⟨d1, d2, d3, d4⟩ := Cal.date_unique oM c1 c2
  have hs : Cal.cum y (j + 1) = Cal.cum y j + Cal.mdays ((j : Int) + 1) y := rfl
  rw [c3, c4, c5, d1, d3, d4]
  exact ⟨rfl, rfl, by omega⟩
 .have hs := Cal.daysTo_succ y
  obtain ⟨j, rfl⟩ : ∃ j : Nat, i = 365 + Cal.lp y + j := ⟨(i - (365 + Cal.lp y)).toNat, by omega⟩
  have c0 : Cal.cum (y + 1) 0 = 0 := rfl
  have c1 : Cal.cum (y + 1) (0 + 1) = 31 := rfl
  obtain ⟨d1, d2, d3, d4⟩ := Cal.date_unique (y := y + 1) (D := j) (j := 0) oM (by rw [c0]; omega) (by rw [c1]; omega)
  have e : Cal.daysTo y + (365 + Cal.lp y + (j : Int)) = Cal.daysTo (y + 1) + j := by omega
  rw [e, d1, d3, d4, c0]
  have hc := List.all_eq_true.1 chkE j (List.mem_range.2 oM)
  simp only [Bool.and_eq_true, beq_iff_eq] at hc
  obtain ⟨⟨a1, a2, a3⟩, b1, b2, b3⟩ := hc
  have hm : Cal.mdays (((0 : Nat) : Int) + 1) (y + 1) = 31 := rfl
  rw [hm]
  unfold mmY mdY mM Cal.lp at *
  cases hl : Cal.leapB y with
  | true =>
   simp only [hl, if_true] at *
   rw [show (365 + 1 + (j : Int)).toNat = 366 + j by omega, a1, a2, a3]
   exact ⟨rfl, by omega, by omega⟩
  | false =>
   simp only [hl, Bool.false_eq_true, if_false] at *
   rw [show (365 + 0 + (j : Int)).toNat = 365 + j by omega, b1, b2, b3]
   exact ⟨rfl, by omega, by omega⟩
theorem aJn {n : Nat} {b : Bool} : (n != 0 && !b) = !(n == 0 || b) := by cases n <;> cases b <;> rfl
theorem aF7 {aPt : List Int} {y i : Int} (h0 : 0 <= i) (h1 : i < 372 + Cal.lp y) : wK aPt y i = !aI aPt (Cal.monthOf (Cal.daysTo y + i)) := by
 unfold wK aI
 rw [(aJd h0 h1).1, aJn]
theorem aK9 {l : List (Int × Int)} {f y i : Int} (hf : 1 < f) : rM ((l.filter (bR f)).map Prod.fst) y i = !aAo l (Cal.daysTo y + i) := by
 have e : l.filter (bR f) = l := List.filter_eq_self.2 fun x _ => by unfold bR; rw [decide_eq_true hf, Bool.or_true]
 unfold rM aAo
 rw [e, List.length_map, aJn, List.any_map]
 congr 2
 congr 1
 funext p
 show (p.1 == _) = (p.1 == _)
 congr 1
 unfold ywd; omega
theorem aFz {l : List Int} {y i : Int} (h0 : 0 <= i) (h1 : i < 372 + Cal.lp y) (hz : ∀ x ∈ l, x ≠ 0) : pJ (iE l) (iD l) y i = !oJ l (Cal.daysTo y + i) := by
 obtain ⟨_, e2, e3⟩ := aJd h0 h1
 have hm := Cal.month_bd (Cal.daysTo y + i)
 have hd := Cal.mdays_bd (Cal.monthOf (Cal.daysTo y + i)) (Cal.yearOf (Cal.daysTo y + i))
 have hu : Cal.mdayOf (Cal.daysTo y + i) <= Cal.mdays (Cal.monthOf (Cal.daysTo y + i)) (Cal.yearOf (Cal.daysTo y + i)) := by
  obtain ⟨s1, s2, s3⟩ := Cal.split_spec (Cal.daysTo y + i)
  obtain ⟨j, hj, c1, c2⟩ := Cal.mon_ex s2 s3
  have hs : Cal.cum (Cal.yearOf (Cal.daysTo y + i)) (j + 1) = Cal.cum (Cal.yearOf (Cal.daysTo y + i)) j + Cal.mdays ((j : Int) + 1) (Cal.yearOf (Cal.daysTo y + i)) := rfl
  obtain ⟨_, _, d3, d4⟩ := Cal.date_unique hj c1 c2
  rw [s1] at d3 d4
  rw [d3, d4]; omega
 unfold pJ oJ
 rw [e2, e3]
 have hp : (iE l).any (· == Cal.mdayOf (Cal.daysTo y + i)) = l.any (· == Cal.mdayOf (Cal.daysTo y + i)) := by
  rw [Bool.eq_iff_iff, List.any_eq_true, List.any_eq_true]
  unfold iE
  constructor
  .rintro ⟨x, a, b⟩; exact ⟨x, (List.mem_filter.1 a).1, b⟩
  .rintro ⟨x, a, b⟩; exact ⟨x, List.mem_filter.2 ⟨a, by have := beq_iff_eq.1 b; exact decide_eq_true oM⟩, b⟩
 have hn : (iD l).any (· == Cal.mdayOf (Cal.daysTo y + i) - Cal.mdays (Cal.monthOf (Cal.daysTo y + i)) (Cal.yearOf (Cal.daysTo y + i)) - 1) = l.any (· == Cal.mdayOf (Cal.daysTo y + i) - Cal.mdays (Cal.monthOf (Cal.daysTo y + i)) (Cal.yearOf (Cal.daysTo y + i)) - 1) := by
  rw [Bool.eq_iff_iff, List.any_eq_true, List.any_eq_true]
  unfold iD
  constructor
  .rintro ⟨x, a, b⟩; exact ⟨x, (List.mem_filter.1 a).1, b⟩
  .rintro ⟨x, a, b⟩; exact ⟨x, List.mem_filter.2 ⟨a, by have := beq_iff_eq.1 b; exact decide_eq_true oM⟩, b⟩
 have hl : ((iE l).length != 0 || (iD l).length != 0) = (l.length != 0) := by
  cases l with
  | nil => rfl
  | cons x l =>
   have := hz x (List.mem_cons_self ..)
   rcases Int.lt_or_le 0 x with h | h
   .have : iE (x :: l) = x :: iE l := by unfold iE; exact List.filter_cons_of_pos (decide_eq_true h)
    rw [this]; rfl
   .have : iD (x :: l) = x :: iD l := by unfold iD; exact List.filter_cons_of_pos (decide_eq_true oM)
    rw [this]; simp
 rw [hp, hn, hl]
 generalize l.any (· == Cal.mdayOf (Cal.daysTo y + i)) = p
 generalize l.any (· == Cal.mdayOf (Cal.daysTo y + i) - Cal.mdays (Cal.monthOf (Cal.daysTo y + i)) (Cal.yearOf (Cal.daysTo y + i)) - 1) = q
 cases l.length <;> cases p <;> cases q <;> rfl
theorem rL (r : Rul) : (aV r).aPt = bZ (aD r) /\ (aV r).aPu = bN (aD r) /\ (aV r).wday = bP (aD r) /\ (aV r).hour = cT (aD r) /\ (aV r).aPr = bI (aD r) /\ (aV r).aPs = bM (aD r) := by
 have hn : iY (aD r) = true ↔ u7 r := by
  unfold iY u7
  simp only [Bool.and_eq_true, beq_iff_eq, and_assoc]
  exact Iff.rfl
 have f1 : (gA r).aPt = bZ (aD r) /\ (gA r).aPu = bN (aD r) /\ (gA r).wday = bP (aD r) := by
  have e2 : (((aD r).d / 86400 + 1) % 7 + 6) % 7 = r.start / 86400 % 7 := by show ((r.start / 86400 + 1) % 7 + 6) % 7 = _; omega
  unfold gA bZ bN bP
  rw [e2]
  by_cases h : u7 r
  .have h2 := hn.2 h
   rw [if_pos h, h2]
   show _ /\ _ /\ _
   by_cases h0 : r.aP2 = 0
   .have e0 : (aD r).aP2 = 0 := h0
    rw [if_pos h0]
    simp only [e0]
    refine ⟨?_, ?_, ?_⟩
    .simp only [true_and]; rfl
    .simp; rfl
    .simp; rfl
   .by_cases h1 : r.aP2 = 1
    .have e0 : (aD r).aP2 = 1 := h1
     rw [if_neg h0, if_pos h1]
     simp only [e0]
     refine ⟨?_, ?_, ?_⟩
     .simp; rfl
     .simp; rfl
     .simp; rfl
    .by_cases h3 : r.aP2 = 2
     .have e0 : (aD r).aP2 = 2 := h3
      rw [if_neg h0, if_neg h1, if_pos h3]
      simp only [e0]
      refine ⟨?_, ?_, ?_⟩
      .simp; rfl
      .simp; rfl
      .simp
     .have e0 : ¬ (aD r).aP2 = 0 := h0
      have e1 : ¬ (aD r).aP2 = 1 := h1
      have e3 : ¬ (aD r).aP2 = 2 := h3
      rw [if_neg h0, if_neg h1, if_neg h3]
      simp only [e0, e1, e3]
      refine ⟨?_, ?_, ?_⟩ <;> (simp; rfl)
  .have h2 : ¬ iY (aD r) = true := fun h3 => h (hn.1 h3)
   rw [if_neg h, if_neg (fun h => h2 h.1), if_neg (fun h => h2 h.1), if_neg (fun h => h2 h.1)]
   exact ⟨rfl, rfl, rfl⟩
 obtain ⟨g1, g2, g3, g4, g5⟩ := yD r
 have k2 : ∀ q : Rul, (fZ q).aPt = q.aPt /\ (fZ q).aPu = q.aPu /\ (fZ q).wday = q.wday /\ (fZ q).start = q.start /\ (fZ q).aP2 = q.aP2 /\ (fZ q).aPr = q.aPr /\ (fZ q).aPs = q.aPs /\ (fZ q).hour = if q.hour.length = 0 /\ q.aP2 < 4 then [q.start % 86400 / 3600] else q.hour := fun q => by unfold fZ; split <;> exact ⟨rfl, rfl, rfl, rfl, rfl, rfl, rfl, rfl⟩
 have k3 : ∀ q : Rul, (gD q).aPt = q.aPt /\ (gD q).aPu = q.aPu /\ (gD q).wday = q.wday /\ (gD q).start = q.start /\ (gD q).aP2 = q.aP2 /\ (gD q).hour = q.hour /\ (gD q).aPs = q.aPs /\ (gD q).aPr = if q.aPr.length = 0 /\ q.aP2 < 5 then [q.start % 86400 / 60 % 60] else q.aPr := fun q => by unfold gD; split <;> exact ⟨rfl, rfl, rfl, rfl, rfl, rfl, rfl, rfl⟩
 have k4 : ∀ q : Rul, (iH q).aPt = q.aPt /\ (iH q).aPu = q.aPu /\ (iH q).wday = q.wday /\ (iH q).hour = q.hour /\ (iH q).aPr = q.aPr /\ (iH q).aPs = if q.aPs.length = 0 /\ q.aP2 < 6 then [q.start % 86400 % 60] else q.aPs := fun q => by unfold iH; split <;> exact ⟨rfl, rfl, rfl, rfl, rfl, rfl⟩
 unfold aV
 obtain ⟨a1, a2, a3, a4, a5, a6⟩ := k4 (gD (fZ (gA r)))
 obtain ⟨b1, b2, b3, b4, b5, b6, b7, b8⟩ := k3 (fZ (gA r))
 obtain ⟨c1, c2, c3, c4, c5, c6, c7, c8⟩ := k2 (gA r)
 rw [a1, a2, a3, a4, a5, a6, b1, b2, b3, b4, b5, b6, b7, b8, c1, c2, c3, c4, c5, c6, c7, c8, f1.1, f1.2.1, f1.2.2, g1, g2, g3, g4, g5]
 refine ⟨rfl, rfl, rfl, ?_, ?_, ?_⟩
 .unfold cT
  show _ = if r.hour.length = 0 then (if r.aP2 < 4 then _ else _) else r.hour
  by_cases h : r.hour.length = 0
  .by_cases h2 : r.aP2 < 4
   .rw [if_pos ⟨h, h2⟩, if_pos h, if_pos h2]; rfl
   .rw [if_neg (fun h => h2 h.2), if_pos h, if_neg h2]; exact List.eq_nil_of_length_eq_zero h
  .rw [if_neg (fun h2 => h h2.1), if_neg h]
 .unfold bI
  show _ = if r.aPr.length = 0 then (if r.aP2 < 5 then _ else _) else r.aPr
  by_cases h : r.aPr.length = 0
  .by_cases h2 : r.aP2 < 5
   .rw [if_pos ⟨h, h2⟩, if_pos h, if_pos h2]; rfl
   .rw [if_neg (fun h => h2 h.2), if_pos h, if_neg h2]; exact List.eq_nil_of_length_eq_zero h
  .rw [if_neg (fun h2 => h h2.1), if_neg h]
 .unfold bM
  show _ = if r.aPs.length = 0 then (if r.aP2 < 6 then _ else _) else r.aPs
  by_cases h : r.aPs.length = 0
  .by_cases h2 : r.aP2 < 6
   .rw [if_pos ⟨h, h2⟩, if_pos h, if_pos h2]; rfl
   .rw [if_neg (fun h => h2 h.2), if_pos h, if_neg h2]; exact List.eq_nil_of_length_eq_zero h
  .rw [if_neg (fun h2 => h h2.1), if_neg h]
theorem fR {l : List Int} {a b : Int} {m : Bool} (h : jS l a b m = true) : l.Nodup /\ (∀ x ∈ l, okR a b m x = true) /\ l.length <= 100 := by
 unfold jS at h
 rw [Bool.and_eq_true] at h
 have h1 := List.all_eq_true.1 h.1
 have hg : ∀ i (hi : i < l.length), okR a b m l[i] = true /\ ∀ x ∈ l.take i, x ≠ l[i] := fun i hi => by
  have := h1 i (List.mem_range.2 hi)
  rw [Bool.and_eq_true, qO _ hi] at this
  refine ⟨this.1, fun x hx e => ?_⟩
  have h3 : (l.take i).any (· == l[i]) = false := by simpa using this.2
  rw [List.any_eq_false] at h3
  exact h3 x hx (beq_iff_eq.2 e)
 refine ⟨?_, fun x hx => ?_, oT h.2⟩
 .unfold List.Nodup
  rw [List.pairwise_iff_getElem]
  intro i j hi hj hij e
  refine (hg j hj).2 l[i] ?_ e
  rw [List.mem_take_iff_getElem]
  exact ⟨i, by omega, rfl⟩
 .obtain ⟨i, hi, rfl⟩ := List.mem_iff_getElem.1 hx
  exact (hg i hi).1
theorem uV {l : List Int} {b : Int} (h : jS l 0 b false = true) (h0 : 0 < l.length) : PartOk l (b + 1) := by
 obtain ⟨h1, h2, _⟩ := fR h
 refine ⟨h0, h1, fun x hx => ?_⟩
 have := h2 x hx
 unfold okR at this
 rw [if_neg (by simp), Bool.and_eq_true] at this
 have h3 := oT this.1
 have h4 := oT this.2
 omega
theorem wV {l : List Int} {b : Int} {m : Bool} (h : jS l 1 b m = true) : ∀ x ∈ l, x ≠ 0 := fun x hx e => by
 have := (fR h).2.1 x hx
 unfold okR at this
 split at this
 .omega
 .rw [Bool.and_eq_true] at this
  have h3 := oT this.1
  omega
theorem nG {r : Rul} (rp : RightP r) : (r.aP2 < 4 -> PartOk (cT (aD r)) 24) /\ (r.aP2 < 5 -> PartOk (bI (aD r)) 60) /\ (r.aP2 < 6 -> PartOk (bM (aD r)) 60) := by
 have hs := rp.t1.start
 refine ⟨fun hf => ?_, fun hf => ?_, fun hf => ?_⟩
 .unfold cT
  split
  .rw [if_pos (show (aD r).aP2 < 4 from hf)]
   exact PartOk.one (by show 0 <= r.start % 86400 / 3600 /\ r.start % 86400 / 3600 < 24; omega)
  .rename_i h
   exact uV rp.t3.h15 (Nat.pos_of_ne_zero h)
 .unfold bI
  split
  .rw [if_pos (show (aD r).aP2 < 5 from hf)]
   exact PartOk.one (by show 0 <= r.start % 86400 / 60 % 60 /\ r.start % 86400 / 60 % 60 < 60; omega)
  .rename_i h
   exact uV rp.t3.h16 (Nat.pos_of_ne_zero h)
 .unfold bM
  split
  .rw [if_pos (show (aD r).aP2 < 6 from hf)]
   exact PartOk.one (by show 0 <= r.start % 86400 % 60 /\ r.start % 86400 % 60 < 60; omega)
  .rename_i h
   exact uV rp.t3.h17 (Nat.pos_of_ne_zero h)
theorem aFp {r : Rul} (rp : RightP r) : ∀ x ∈ bN (aD r), x ≠ 0 := by
 unfold bN
 split
 .intro x hx
  rw [List.mem_singleton] at hx
  have := Cal.month_bd ((aD r).d / 86400)
  omega
 .exact wV rp.t3.h11
theorem aNc {r : Rul} {s : It} {wF : Int -> List Int} {nF : Int -> Int -> List Int} {eF : Int -> List Int} (rp : RightP r) (hf : 2 <= r.aP2) (hn : s.nwm = []) {i : Int} (h0 : 0 <= i) (h1 : i < 372 + Cal.lp s.ly) : bad (bE (aD r) wF nF eF) s i = !eA (aV r) (Cal.daysTo s.ly + i) := by
 obtain ⟨hy, hw, he⟩ := jM rp hf
 obtain ⟨e1, e2, e3, _⟩ := rL r
 unfold bad
 rw [show tQ (bE (aD r) wF nF eF).aPx s.wno i = false by unfold tQ; rw [show (bE (aD r) wF nF eF).aPx.length = 0 from hw]; rfl,
  show pI s.nwm i = false by unfold pI; rw [hn]; rfl,
  show u9 (bE (aD r) wF nF eF).aPy s.eas i = false by unfold u9; rw [show (bE (aD r) wF nF eF).aPy.length = 0 from he]; rfl,
  show nW (bE (aD r) wF nF eF).aPw s.ly i = false by unfold nW; rw [show (bE (aD r) wF nF eF).aPw.length = 0 from hy]; rfl,
  show wK (bE (aD r) wF nF eF).aPt s.ly i = _ from aF7 h0 h1, show rM (bE (aD r) wF nF eF).wday s.ly i = _ from aK9 (show 1 < (aD r).aP2 from by show 1 < r.aP2; omega), show pJ (bE (aD r) wF nF eF).aPu (bE (aD r) wF nF eF).aPv s.ly i = _ from aFz h0 h1 (aFp rp)]
 unfold eA
 rw [e1, e2, e3]
 show (((((((!aI (bZ (aD r)) _) || false) || !aAo (bP (aD r)) _) || false) || false) || !oJ (bN (aD r)) _) || false) = _
 cases aI (bZ (aD r)) (Cal.monthOf (Cal.daysTo s.ly + i)) <;> cases oJ (bN (aD r)) (Cal.daysTo s.ly + i) <;> cases aAo (bP (aD r)) (Cal.daysTo s.ly + i) <;> rfl
end Go.Proofs.YthomapgobmdicaaGreat
