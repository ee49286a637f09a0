import Derived.Test.YtdbbifbmkfmbkaaGreatDai
set_option linter.unusedVariables false
set_option linter.unusedSimpArgs false
set_option maxRecDepth 100000
set_option maxHeartbeats 8000000
namespace Go.Proofs.YtdbbifbmkfmbkaaGreat
open Go.RowKit Go.Fr Go.Tab
section
variable {F : Nat → Prop} {w0 : World} {B : List (Nat × Nat)} {H : List (Nat × Value)} {S : List (Nat × Slc)}
open Go.Md
section
variable {P : Program} {Q : Exit → Act → World → Prop} {K : Act → World → Prop} {N d : Nat} {L : Fr.Loc} {v : Value} {ty : TypeId} {pos : String} {aft : Array Edge} {f : FuncId} {asl : List Operand} {ats : Array TypeId} {args : List Value}
theorem Sees.rebase {F' : Nat → Prop} {w : World} (s : Sees F w0 B H [] w) (hF : ∀ k b, lkp k B = some b → F' b) : Sees F' w B H [] w where
 os := rfl
 tape := rfl
 output := rfl
 size := Nat.le_refl _
 frame := fun _ _ _ => rfl
 nodup := s.nodup
 lt := s.lt
 may := fun k b h _ => hF k b h
 cells := s.cells
 slcs := fun k q h => by simp [lkp] at h
 smay := fun k q b h => by simp [lkp] at h
 snot := fun k q b i h => by simp [lkp] at h
 sapart := fun i j q t b h => by simp [lkp] at h
theorem at_call_re {ι : Type} {F' : Nat → Prop} (V : ι → Value) (Φ : ι → World → Prop) (hF : ∀ k b, lkp k B = some b → F' b) (ha : Fr.evs L asl = some args) (hc : ∀ w, Sees F w0 B H [] w → Calls P f args.toArray w fun e w' => ∃ x, e = .returned (V x) ∧ Below w.heap.size w w' ∧ Φ x w')
  (hn : ∀ x w1, Sees F w0 B H [] w1 → Φ x w1 → GK K N ((d, V x) :: L) F' w1 B H []) (hd : d < N := by decide) (hf : enterB P f = true := by kernel_rfl) :
  GO P ⟨some d, .call ⟨.value (.func f), asl.toArray, ats⟩, ty, pos, aft, none⟩ Q K N L F w0 B H [] := fun a w k s => by
 show Oper.upon _ _ _ _ _ _
 rw [run_call k hf ha]
 refine (hc w s).mono ?_
 rintro e w' ⟨x, rfl, hb, hx⟩
 exact hn x w' (s.below hb) hx _ _ (k.put hd _) (Sees.rebase (s.below hb) hF)
theorem at_append_rows (j i : Nat) {t e : TypeId} {sz by_ : Nat} {zs : List Value} {x y : Operand} {q r : Slc} (hd : d < N) (ht : elemInfo P t = some (e, sz, by_, zs)) (hzs : zs.length = sz) (hsz : 0 < sz) (hx : ev L x = some q.v) (hy : ev L y = some r.v) (hq : lkp j S = some q) (hr : lkp i S = some r)
  (hqe : q.e = e ∧ q.sz = sz) (hre : r.e = e ∧ r.sz = sz) (h1 : ∀ u ∈ r.xs, u.oneCell' = true) (h63 : q.n + r.n ≤ 9223372036854775807) (hbytes : (q.n + r.n) * by_ ≤ 140737488355328)
  (hn : ∀ p cp, GK K N ((d, .slice p (q.n + r.n) cp) :: L) F w0 B H ((j, ⟨.slice p (q.n + r.n) cp, e, sz, q.n + r.n, q.xs ++ r.xs⟩) :: S)) :
  GO P ⟨some d, .call ⟨.builtin .append, #[x, y], #[t, t]⟩, ty, pos, aft, none⟩ Q K N L F w0 B H S := fun a w k s => by
 have hor := s.slcs i r hr
 have hl : r.xs.length = r.n * sz := by rw [← hre.2]; exact hor.1
 rcases hor.2 with ⟨e1, e2⟩ | ⟨g, cap, cur, e1, _⟩
 ·have hn0 : r.n = 0 := e2
  have hx0 : r.xs = [] := by rw [hn0, Nat.zero_mul] at hl; exact List.eq_nil_of_length_eq_zero hl
  obtain ⟨hu, inf, z, hi, hz, h2, h3, h4⟩ := elemInfo_spec ht
  have ho := s.slcs j q hq
  rw [hqe.1, hqe.2] at ho
  have hrun := run_append_owned_none (P := P) (w := w) 0 t ty e inf sz hu hi q.v q.n q.xs ho
  obtain ⟨p, cp, hv⟩ : ∃ p cp, q.v = .slice p q.n cp := by
   rcases ho.2 with ⟨e3, e4⟩ | ⟨g1, cap1, cur1, e3, _⟩
   ·exact ⟨none, 0, by rw [e3, e4]⟩
   ·exact ⟨_, _, e3⟩
  have hn' := hn p cp
  rw [hn0, hx0, Nat.add_zero, List.append_nil] at hn'
  show Oper.upon _ _ _ _ _ _
  rw [e1] at hy
  simp only [execOp, resolve, invoke, builtin, Sem.run_bind, Sem.run_pure, Result.andThen_ok, List.map_toArray, List.map_cons, List.map_nil, k.eval hx, k.eval hy, hrun]
  rw [hv]
  refine hn' _ _ (k.put hd _) (s.to (fun _ _ h => h) (fun k o v ho h => ⟨h, by obtain ⟨b, e, _⟩ := s.cells k o v ho h; rw [e]; rfl⟩) (fun j' u h => ?_))
  rcases lkp_cons h with ⟨rfl, rfl⟩ | ⟨_, h⟩
  ·rw [hq]; cases q; simp only at hv hqe; rw [hv, hqe.1, hqe.2]
  ·exact h
 ·exact at_append_any j hd ht hzs hsz hx (hy.trans (congrArg some e1)) hq hqe hl (fun w' s' i' u hu => by rw [Nat.zero_add]; exact s'.row_cell hr e1 hu) h1 h63 hbytes hn a w k s
end
theorem ints_seeF {w : World} {p : Option Addr} {n c : Nat} {xs : List Int} (s : Sees F w0 B H S w) (h : Ints w0 (.slice p n c) xs) (g : xs.length ≠ 0 → ∀ b o, p = some ⟨b, o, none⟩ → ¬F b) : Ints w (.slice p n c) xs := by
 obtain ⟨p', c', e, hc⟩ := h
 refine ⟨p', c', e, fun i x hx => ?_⟩
 obtain ⟨b, o, e2, h1⟩ := hc i x hx
 injection e with e3 _ _
 exact ⟨b, o, e2, s.old_cell h1 (g (by have := (List.getElem?_eq_some_iff.1 hx).1; omega) b o (e3.trans e2))⟩
theorem prs_seeF {w : World} {p : Option Addr} {n c : Nat} {xs : List (Int × Int)} (s : Sees F w0 B H S w) (h : Prs w0 (.slice p n c) xs) (g : xs.length ≠ 0 → ∀ b o, p = some ⟨b, o, none⟩ → ¬F b) : Prs w (.slice p n c) xs := by
 obtain ⟨p', c', e, hc⟩ := h
 refine ⟨p', c', e, fun i x hx => ?_⟩
 obtain ⟨b, o, e2, h1, h2⟩ := hc i x hx
 injection e with e3 _ _
 have hF := g (by have := (List.getElem?_eq_some_iff.1 hx).1; omega) b o (e3.trans e2)
 exact ⟨b, o, e2, s.old_cell h1 hF, s.old_cell h2 hF⟩
theorem InL.seeF {w : World} {r : Rul} {x : Av} (s : Sees F w0 B H S w) (h : InL w0 r x) (g : BkL (fun b => ¬F b) r x) : InL w r x :=
 ⟨ints_seeF s h.i9 g.g9, ints_seeF s h.i10 g.g10, ints_seeF s h.i11 g.g11, ints_seeF s h.i12 g.g12, ints_seeF s h.i13 g.g13, prs_seeF s h.i14 g.g14, ints_seeF s h.i15 g.g15, ints_seeF s h.i16 g.g16, ints_seeF s h.i17 g.g17, ints_seeF s h.i18 g.g18⟩
theorem flat_len (f : Nat → List Int) (m : Nat) (h : ∀ i, (f i).length ≤ m) : ∀ k, ((List.range k).flatMap f).length ≤ k * m
 | 0 => by simp
 | k + 1 => by
  have h1 := flat_len f m h k
  have h2 := h k
  rw [flat_succ, List.length_append, Nat.succ_mul]
  omega
theorem clockF_len (hs ms ss : List Int) (day fr lg : Int) : (clockF hs ms ss day fr lg).length ≤ 86400 := by
 unfold clockF chTo
 refine flat_len _ 3600 (fun h => ?_) 24
 split
 ·unfold cmTo
  refine flat_len _ 60 (fun m => ?_) 60
  split
  ·unfold ckTo
   rw [List.length_map]
   exact Nat.le_trans (List.length_filter_le _ _) (by simp)
  ·simp
 ·simp
theorem fullR_same (r : Rul) : (fullR r).start = r.start ∧ (fullR r).freq = r.freq ∧ (fullR r).interval = r.interval ∧ (fullR r).wkst = r.wkst ∧ (fullR r).count = r.count ∧ (fullR r).setpos = r.setpos ∧ (fullR r).yday = r.yday ∧ (fullR r).weekno = r.weekno ∧ (fullR r).easter = r.easter := by
 have h4 : ∀ r, (full4 r).start = r.start ∧ (full4 r).freq = r.freq ∧ (full4 r).interval = r.interval ∧ (full4 r).wkst = r.wkst ∧ (full4 r).count = r.count ∧ (full4 r).setpos = r.setpos ∧ (full4 r).yday = r.yday ∧ (full4 r).weekno = r.weekno ∧ (full4 r).easter = r.easter := fun r => by unfold full4; split <;> exact ⟨rfl, rfl, rfl, rfl, rfl, rfl, rfl, rfl, rfl⟩
 have h3 : ∀ r, (full3 r).start = r.start ∧ (full3 r).freq = r.freq ∧ (full3 r).interval = r.interval ∧ (full3 r).wkst = r.wkst ∧ (full3 r).count = r.count ∧ (full3 r).setpos = r.setpos ∧ (full3 r).yday = r.yday ∧ (full3 r).weekno = r.weekno ∧ (full3 r).easter = r.easter := fun r => by unfold full3; split <;> exact ⟨rfl, rfl, rfl, rfl, rfl, rfl, rfl, rfl, rfl⟩
 have h2 : ∀ r, (full2 r).start = r.start ∧ (full2 r).freq = r.freq ∧ (full2 r).interval = r.interval ∧ (full2 r).wkst = r.wkst ∧ (full2 r).count = r.count ∧ (full2 r).setpos = r.setpos ∧ (full2 r).yday = r.yday ∧ (full2 r).weekno = r.weekno ∧ (full2 r).easter = r.easter := fun r => by unfold full2; split <;> exact ⟨rfl, rfl, rfl, rfl, rfl, rfl, rfl, rfl, rfl⟩
 have h1 : (full1 r).start = r.start ∧ (full1 r).freq = r.freq ∧ (full1 r).interval = r.interval ∧ (full1 r).wkst = r.wkst ∧ (full1 r).count = r.count ∧ (full1 r).setpos = r.setpos ∧ (full1 r).yday = r.yday ∧ (full1 r).weekno = r.weekno ∧ (full1 r).easter = r.easter := by
  unfold full1
  split
  ·split
   ·exact ⟨rfl, rfl, rfl, rfl, rfl, rfl, rfl, rfl, rfl⟩
   ·split
    ·exact ⟨rfl, rfl, rfl, rfl, rfl, rfl, rfl, rfl, rfl⟩
    ·split <;> exact ⟨rfl, rfl, rfl, rfl, rfl, rfl, rfl, rfl, rfl⟩
  ·exact ⟨rfl, rfl, rfl, rfl, rfl, rfl, rfl, rfl, rfl⟩
 unfold fullR
 simp only [h4, h3, h2, h1, and_self]
def UN (f : Int) : Int := if f = 4 then 3600 else if f = 5 then 60 else 1
def pY (q : Rul) (k : Int) : Int := Cal.yearOf (q.start / 86400) + k * q.interval
def pN (q : Rul) (k : Int) : Int := Cal.monthOf (q.start / 86400) - 1 + k * q.interval
def pM (q : Rul) (k : Int) : Int := Cal.yearOf (q.start / 86400) + pN q k / 12
def pAt (q : Rul) (k : Int) : Int := q.start - q.start % UN q.freq + k * q.interval * UN q.freq
def pFirst (q : Rul) (k : Int) : Int :=
 if q.freq = 0 then Cal.daysTo (pY q k) else if q.freq = 1 then Cal.daysTo (pM q k) + 1 - 1 + Cal.cum (pM q k) (pN q k % 12 + 1 - 1).toNat
 else if q.freq = 2 then q.start / 86400 - (q.start / 86400 % 7 - q.wkst + 7) % 7 + 7 * k * q.interval else if q.freq = 3 then q.start / 86400 + k * q.interval else pAt q k / 86400
def pMany (q : Rul) (k : Int) : Int := if q.freq = 0 then 365 + Cal.lp (pY q k) else if q.freq = 1 then Cal.mdays (pN q k % 12 + 1) (pM q k) else if q.freq = 2 then 7 else 1
def pOver (q : Rul) (k : Int) : Prop := (q.freq = 0 ∧ 9999 < pY q k) ∨ (q.freq = 1 ∧ 9999 < pM q k) ∨ 3652059 ≤ pFirst q k
def dayOut (q : Rul) (dayF : Int → Bool) (d : Int) : List Int := if 0 ≤ d ∧ dayF d = true then clockF q.hour q.minute q.second d (d * 86400) 86400 else []
def daysTil (q : Rul) (dayF : Int → Bool) (first : Int) (j : Nat) : List Int := (List.range j).flatMap fun (i : Nat) => dayOut q dayF (first + i)
def pDays (q : Rul) (dayF : Int → Bool) (k : Int) : List Int := if 4 ≤ q.freq then (if dayF (pFirst q k) = true then clockF q.hour q.minute q.second (pFirst q k) (pAt q k) (UN q.freq) else []) else daysTil q dayF (pFirst q k) (pMany q k).toNat
inductive DatesP (q : Rul) (dayF : Int → Bool) (en most : Int) : Int → List Int → List Int → Prop
 | over {k : Int} {o : List Int} (h : pOver q k) : DatesP q dayF en most k o o
 | stop {k : Int} {o : List Int} (h : ¬pOver q k) (hs : (addF q q.start en most o (pDays q dayF k)).2 = false) : DatesP q dayF en most k o (addF q q.start en most o (pDays q dayF k)).1
 | more {k : Int} {o l : List Int} (h : ¬pOver q k) (hs : (addF q q.start en most o (pDays q dayF k)).2 = true) (hn : DatesP q dayF en most (k + 1) (addF q q.start en most o (pDays q dayF k)).1 l) : DatesP q dayF en most k o l
theorem dayOut_len (q : Rul) (dayF : Int → Bool) (d : Int) : (dayOut q dayF d).length ≤ 86400 := by
 unfold dayOut
 split
 ·exact clockF_len _ _ _ _ _ _
 ·simp
theorem daysTil_len (q : Rul) (dayF : Int → Bool) (first : Int) (j : Nat) : (daysTil q dayF first j).length ≤ j * 86400 := flat_len _ _ (fun i => dayOut_len q dayF _) j
theorem daysTil_succ (q : Rul) (dayF : Int → Bool) (first : Int) (j : Nat) : daysTil q dayF first (j + 1) = daysTil q dayF first j ++ dayOut q dayF (first + j) := flat_succ _ j
end
end Go.Proofs.YtdbbifbmkfmbkaaGreat
namespace Go.Proofs.YtdbbifbmkfmbkaaGreat
open Go.RowKit Go.Fr Go.Tab
section
variable {F : Nat → Prop} {w0 : World} {B : List (Nat × Nat)} {H : List (Nat × Value)} {S : List (Nat × Slc)}
theorem GA_three {P : Program} {ops : Array Oper} {Q : Exit → Act → World → Prop} {C : World → Prop} {late : Nat → Bool} {N : Nat} {L : Fr.Loc} {g i j m : Nat} {listed li lj lm : Array Bool} {o o' o2 : Oper} (hi : ops[i]? = some o) (hj : ops[j]? = some o') (hm : ops[m]? = some o2) (hg : o.guard = none) (hg' : o'.guard = none) (hg2 : o2.guard = none) (hr : Region.ready .any ops listed = [i, j, m]) (hli : listed.setIfInBounds i true = li) (hlj : listed.setIfInBounds j true = lj) (hlm : listed.setIfInBounds m true = lm)
  (h : GO P o Q (fun a' w' => (late i = false → C w') ∧ wpAnyC P ops Q C late g li a' w') N L F w0 B H S)
  (h' : GO P o' Q (fun a' w' => (late j = false → C w') ∧ wpAnyC P ops Q C late g lj a' w') N L F w0 B H S)
  (h2 : GO P o2 Q (fun a' w' => (late m = false → C w') ∧ wpAnyC P ops Q C late g lm a' w') N L F w0 B H S) : GA P ops Q C late (g + 1) listed N L F w0 B H S := fun a w k s => by
 subst hli hlj hlm
 refine ⟨fun h0 => (by rw [hr] at h0; cases h0), fun q hq => ?_⟩
 rw [hr] at hq
 have : q = i ∨ q = j ∨ q = m := by simpa using hq
 unfold wpOp
 rcases this with rfl | rfl | rfl
 ·simp only [hi]
  rw [if_pos (by simp [Region.wanted, hg])]
  exact .inl (h a w k s)
 ·simp only [hj]
  rw [if_pos (by simp [Region.wanted, hg'])]
  exact .inl (h' a w k s)
 ·simp only [hm]
  rw [if_pos (by simp [Region.wanted, hg2])]
  exact .inl (h2 a w k s)
theorem dates_meet {w : World} {B0 : List (Nat × Nat)} {H0 : List (Nat × Value)} {b1 b4 b8 b9 : Nat} {u v m : Value} {r : Rul} {x : Av} (s : Sees F w0 B0 H0 S w) (hB : ∀ k b, lkp k [(53, b9), (52, b8), (51, b4), (50, b1)] = some b → lkp k B0 = some b) (h52 : lkp (ky 52 0) H0 = some u) (h53 : lkp (ky 53 0) H0 = some v)
  (hr : ∀ k o, o < 4096 → k ≠ 52 → k ≠ 53 → lkp (ky k o) H0 = lkp (ky k o) (putKeys 51 0 [m] ++ (putKeys 50 0 (rulC r x) ++ []))) : Sees F w0 [(53, b9), (52, b8), (51, b4), (50, b1)] ((ky 53 0, v) :: (ky 52 0, u) :: (putKeys 51 0 [m] ++ (putKeys 50 0 (rulC r x) ++ []))) S w :=
 s.to hB (fun k o y ho h => by
  rcases lkp_cons h with ⟨e, rfl⟩ | ⟨_, h⟩
  ·obtain ⟨rfl, rfl⟩ := ky_inj ho dE e; exact ⟨h53, rfl⟩
  rcases lkp_cons h with ⟨e, rfl⟩ | ⟨_, h⟩
  ·obtain ⟨rfl, rfl⟩ := ky_inj ho dE e; exact ⟨h52, rfl⟩
  have hk : k = 51 ∨ k = 50 := by
   rcases Decidable.em (k = 51) with h1 | h1
   ·exact .inl h1
   rcases Decidable.em (k = 50) with h2 | h2
   ·exact .inr h2
   rw [lkp_put_ne h1 ho _ _ ble, lkp_put_ne h2 ho _ _ ble] at h
   simp [lkp] at h
  rw [hr k o ho oM oM]
  exact ⟨h, by rcases hk with rfl | rfl <;> rfl⟩) (fun _ _ h => h)
theorem bk_far {n m : Nat} {r : Rul} {x : Av} {b1 b4 b8 b9 : Nat} (h : BkL (fun b => b < n ∨ m ≤ b) r x) (g1 : b1 < m) (g4 : b4 < m) (g8 : b8 < m) (g9 : b9 < m) (h1 : n ≤ b1) (h4 : n ≤ b4) (h8 : n ≤ b8) (h9 : n ≤ b9) : BkL (fun b => ¬(b = b1 ∨ b = b4 ∨ b = b8 ∨ b = b9)) r x :=
 have f : ∀ b, (b < n ∨ m ≤ b) → ¬(b = b1 ∨ b = b4 ∨ b = b8 ∨ b = b9) := fun b h => by omega
 ⟨fun a b o e => f b (h.g9 a b o e), fun a b o e => f b (h.g10 a b o e), fun a b o e => f b (h.g11 a b o e), fun a b o e => f b (h.g12 a b o e), fun a b o e => f b (h.g13 a b o e), fun a b o e => f b (h.g14 a b o e), fun a b o e => f b (h.g15 a b o e), fun a b o e => f b (h.g16 a b o e), fun a b o e => f b (h.g17 a b o e), fun a b o e => f b (h.g18 a b o e)⟩
theorem cellsAt_cons {j k o : Nat} {v : Value} {H : List (Nat × Value)} : ∀ {cs : List Value} {i : Nat}, cellsAt j H i cs → i + cs.length ≤ 4096 → j ≠ k → o < 4096 → cellsAt j ((ky k o, v) :: H) i cs
 | [], _, _, _, _, _ => trivial
 | u :: cs, i, h, hb, hj, ho => by
  rw [List.length_cons] at hb
  exact ⟨(lkp_cons_ne (fun e => hj (ky_inj oM ho e).1) _ _).trans h.1, cellsAt_cons h.2 oM hj ho⟩
theorem new_far {F' : Nat → Prop} {w w1 w2 : World} {B0 B : List (Nat × Nat)} {H0 H : List (Nat × Value)} {S : List (Nat × Slc)} (s1 : Sees (fun _ => False) w B0 H0 [] w1) (s : Sees F' w1 B H S w2) (hF : ∀ b, F' b → w.heap.size ≤ b) {k : Nat} {q : Slc} (hk : lkp k S = some q) : NewRow w w2 q.v q.e q.sz q.n q.xs :=
 ⟨⟨s.os.trans s1.os, s.tape.trans s1.tape, s.output.trans s1.output, Nat.le_trans s1.size s.size, fun k hk => (s.frame k (Nat.lt_of_lt_of_le hk s1.size) (fun h => by have := hF k h; omega)).trans (s1.frame k hk (fun h => h))⟩, s.slcs k q hk, fun b hb => by
  rcases Nat.lt_or_ge b w1.heap.size with h | h
  ·exact hF b (s.smay k q b hk hb h)
  ·exact Nat.le_trans s1.size h⟩
open Go.Md
theorem hki_bd {k iv : Int} (hk : 0 ≤ k ∧ k ≤ 100000) (hi : 1 ≤ iv ∧ iv ≤ 1000) : 0 ≤ k * iv ∧ k * iv ≤ 100000000 := ⟨Int.mul_nonneg hk.1 oM, Int.le_trans (Int.mul_le_mul hk.2 hi.2 oM oM) oM⟩
theorem dates_calls (r q : Rul) (x : Av) (dayF : Int → Bool) (most : Int) (work : Nat) (hq : fullR r = q) (hs : 1 ≤ r.start ∧ r.start < Cal.daysTo 9000 * 86400) (hf : 0 ≤ r.freq ∧ r.freq ≤ 6) (hi : 1 ≤ r.interval ∧ r.interval ≤ 1000) (hwk : 0 ≤ r.wkst ∧ r.wkst ≤ 6) (hl : LenL r) (hlq : LenL q) (hm : 0 ≤ most ∧ most ≤ 1000000) (hwork : work ≤ 100000)
  (hday : ∀ (x2 : Av) (day : Int), 0 ≤ day ∧ day ≤ 5000000 → ∀ w, InL w q x2 → Calls Go.Proofs.Tryz.prog 62 #[.agg (rulC q x2).toArray, iV day] w fun e w' => e = .returned (.bool (dayF day)) ∧ Below w.heap.size w w') (w : World) (hin : InL w r x) (hb : BkL (fun b => b < w.heap.size) r x) :
  Calls Go.Proofs.Tryz.prog 38 #[.agg (rulC r x).toArray, iV most, iV (work : Int)] w fun e w' => ∃ (b : Bool) (l : List Int) (p : Option Addr) (c : Nat), (b = true → DatesP q dayF (lastF r) most 0 [] l) ∧ e = .returned (.tuple #[.slice p l.length c, .bool b]) ∧ NewRow w w' (.slice p l.length c) 2 1 l.length (l.map iV) := by
 obtain ⟨e1, e2, e3, e4, e5, e6, e7, e8, e9⟩ := fullR_same r
 rw [hq] at e1 e2 e3 e4 e5 e6 e7 e8 e9
 obtain ⟨l9, l10, l11, l12, l13, l14, l15, l16, l17, l18⟩ := hlq
 have hN1 : Cal.daysTo 9000 = 3286817 := by decide
 have hN2 : Cal.daysTo 10000 = 3652059 := by decide
 have hyb : 1 ≤ Cal.yearOf (r.start / 86400) := (split_bd0 (x := r.start) oM).2.2.1
 have hye := Cal.year_le (r.start / 86400) oM
 have hmb := Cal.month_bd (r.start / 86400)
 refine calls_GC (args := [.agg (rulC r x).toArray, iV most, iV ((work : Int))]) (L := [(0, .agg (rulC r x).toArray), (1, iV most), (2, iV ((work : Int)))]) (N := 189) Tryz.func38 rfl rfl ble rfl (Sees.start (fun _ => False) w) ?_
 refine g2 ?_
 refine gL (at_box 50 (cs := rulC r x) dE rfl rfl rfl (fun o ho => rfl) ble (fun b1 hb1 => ?_))
 refine gL (at_box 51 (cs := [iV most]) dE rfl rfl rfl (fun o ho => by repeat (first | rfl | rw [lkp_put_ne dE ho _ _ ble])) ble (fun b4 hb4 => ?_))
 refine g4 ?_
 refine GC_cut (ι := (Nat) × (Nat)) (fun | ⟨b8, b9⟩ => (w.heap.size ≤ b8) ∧ (w.heap.size ≤ b9)) (fun | ⟨b8, b9⟩ => [(2, iV ((work : Int))), (3, pT b1), (4, pT b4), (8, pT b8), (9, pT b9)]) (fun | ⟨b8, b9⟩ => [(53, b9), (52, b8), (51, b4), (50, b1)]) (fun | ⟨b8, b9⟩ => ((ky 53 0, iV (lastF r)) :: (ky 52 0, iV r.start) :: (putKeys 51 0 [iV most] ++ (putKeys 50 0 (rulC r x) ++ [])))) (fun | ⟨b8, b9⟩ => []) ?_ ?_
 ·refine GC_any (Sees (fun _ => False) w [(51, b4), (50, b1)] (putKeys 51 0 [iV most] ++ (putKeys 50 0 (rulC r x) ++ [])) []) (fun i => false) kR ?_
  refine gr 0 rfl (rfa 2) ?_
  refine gr 1 rfl (rld 50 rfl rfl rfl) ?_
  refine gr 2 rfl ((rd_loadN 50 (cs := rulC r x) rfl rfl (fun i u h => by have hlt_ : i < 18 := (List.getElem?_eq_some_iff.1 h).1; first | exact put_get (rulC r x) 0 ble i u h | (rcases i with _|_|_|_|_|_|_|_|_|_|_|_|_|_|_|_|_|_|i <;> first | exact h | omega)) ble kR)) ?_
  refine GA_three (i := 3) (j := 4) (m := 5) rfl rfl rfl rfl rfl rfl kR rfl rfl rfl ?_ ?_ ?_
  ·refine cvo rfl (fun w_ s_ => lastOf_calls r x oM w_) (GK_C (fun _ w s => by exact s.low 52 limx agx agx agx) ?_)
   refine GA_two (i := 4) (j := 5) rfl rfl rfl rfl kR rfl rfl ?_ ?_
   ·refine alo 52 (cs := [iV 0]) kR rfl (fun b8 hb8 => GK_C (fun _ w s => by exact s.low 52 limx agx agx agx) ?_)
    refine gn 5 rfl (alo 53 (cs := [iV 0]) kR rfl (fun b9 hb9 => GK_C (fun _ w s => by exact s.low 52 limx agx agx agx) ?_))
    refine gn 6 rfl (sto 52 rfl rfl rfl rfl (GK_C (fun _ w s => by exact s.low 52 limx agx agx agx) ?_))
    refine gn 7 rfl (sto 53 rfl rfl rfl rfl (GK_C (fun _ w s => by exact s.low 52 limx agx agx agx) ?_))
    refine GA_end kR ?_
    refine GE_meet (ι := Nat × Nat) ⟨b8, b9⟩ ⟨hb8, hb9⟩ kns (fun w s => dates_meet s (fun k b h => by rcases lkp_cons h with ⟨rfl, rfl⟩ | ⟨_, h⟩; exact rfl; rcases lkp_cons h with ⟨rfl, rfl⟩ | ⟨_, h⟩; exact rfl; rcases lkp_cons h with ⟨rfl, rfl⟩ | ⟨_, h⟩; exact rfl; rcases lkp_cons h with ⟨rfl, rfl⟩ | ⟨_, h⟩; exact rfl;  simp [lkp] at h) rfl rfl (fun k o ho h1 h2 => by repeat (first | rfl | rw [lkp_ky_ne h1 ho dE] | rw [lkp_ky_ne h2 ho dE] | rw [lkp_put_ne h1 ho _ _ ble] | rw [lkp_put_ne h2 ho _ _ ble])))
   ·refine alo 53 (cs := [iV 0]) kR rfl (fun b9 hb9 => GK_C (fun _ w s => by exact s.low 52 limx agx agx agx) ?_)
    refine gn 4 rfl (alo 52 (cs := [iV 0]) kR rfl (fun b8 hb8 => GK_C (fun _ w s => by exact s.low 52 limx agx agx agx) ?_))
    refine gn 6 rfl (sto 52 rfl rfl rfl rfl (GK_C (fun _ w s => by exact s.low 52 limx agx agx agx) ?_))
    refine gn 7 rfl (sto 53 rfl rfl rfl rfl (GK_C (fun _ w s => by exact s.low 52 limx agx agx agx) ?_))
    refine GA_end kR ?_
    refine GE_meet (ι := Nat × Nat) ⟨b8, b9⟩ ⟨hb8, hb9⟩ kns (fun w s => dates_meet s (fun k b h => by rcases lkp_cons h with ⟨rfl, rfl⟩ | ⟨_, h⟩; exact rfl; rcases lkp_cons h with ⟨rfl, rfl⟩ | ⟨_, h⟩; exact rfl; rcases lkp_cons h with ⟨rfl, rfl⟩ | ⟨_, h⟩; exact rfl; rcases lkp_cons h with ⟨rfl, rfl⟩ | ⟨_, h⟩; exact rfl;  simp [lkp] at h) rfl rfl (fun k o ho h1 h2 => by repeat (first | rfl | rw [lkp_ky_ne h1 ho dE] | rw [lkp_ky_ne h2 ho dE] | rw [lkp_put_ne h1 ho _ _ ble] | rw [lkp_put_ne h2 ho _ _ ble])))
  ·refine alo 52 (cs := [iV 0]) kR rfl (fun b8 hb8 => GK_C (fun _ w s => by exact s.low 52 limx agx agx agx) ?_)
   refine GA_two (i := 3) (j := 5) rfl rfl rfl rfl kR rfl rfl ?_ ?_
   ·refine cvo rfl (fun w_ s_ => lastOf_calls r x oM w_) (GK_C (fun _ w s => by exact s.low 52 limx agx agx agx) ?_)
    refine gn 5 rfl (alo 53 (cs := [iV 0]) kR rfl (fun b9 hb9 => GK_C (fun _ w s => by exact s.low 52 limx agx agx agx) ?_))
    refine gn 6 rfl (sto 52 rfl rfl rfl rfl (GK_C (fun _ w s => by exact s.low 52 limx agx agx agx) ?_))
    refine gn 7 rfl (sto 53 rfl rfl rfl rfl (GK_C (fun _ w s => by exact s.low 52 limx agx agx agx) ?_))
    refine GA_end kR ?_
    refine GE_meet (ι := Nat × Nat) ⟨b8, b9⟩ ⟨hb8, hb9⟩ kns (fun w s => dates_meet s (fun k b h => by rcases lkp_cons h with ⟨rfl, rfl⟩ | ⟨_, h⟩; exact rfl; rcases lkp_cons h with ⟨rfl, rfl⟩ | ⟨_, h⟩; exact rfl; rcases lkp_cons h with ⟨rfl, rfl⟩ | ⟨_, h⟩; exact rfl; rcases lkp_cons h with ⟨rfl, rfl⟩ | ⟨_, h⟩; exact rfl;  simp [lkp] at h) rfl rfl (fun k o ho h1 h2 => by repeat (first | rfl | rw [lkp_ky_ne h1 ho dE] | rw [lkp_ky_ne h2 ho dE] | rw [lkp_put_ne h1 ho _ _ ble] | rw [lkp_put_ne h2 ho _ _ ble])))
   ·refine alo 53 (cs := [iV 0]) kR rfl (fun b9 hb9 => GK_C (fun _ w s => by exact s.low 52 limx agx agx agx) ?_)
    refine gn 3 rfl (cvo rfl (fun w_ s_ => lastOf_calls r x oM w_) (GK_C (fun _ w s => by exact s.low 52 limx agx agx agx) ?_))
    refine gn 6 rfl (sto 52 rfl rfl rfl rfl (GK_C (fun _ w s => by exact s.low 52 limx agx agx agx) ?_))
    refine gn 7 rfl (sto 53 rfl rfl rfl rfl (GK_C (fun _ w s => by exact s.low 52 limx agx agx agx) ?_))
    refine GA_end kR ?_
    refine GE_meet (ι := Nat × Nat) ⟨b8, b9⟩ ⟨hb8, hb9⟩ kns (fun w s => dates_meet s (fun k b h => by rcases lkp_cons h with ⟨rfl, rfl⟩ | ⟨_, h⟩; exact rfl; rcases lkp_cons h with ⟨rfl, rfl⟩ | ⟨_, h⟩; exact rfl; rcases lkp_cons h with ⟨rfl, rfl⟩ | ⟨_, h⟩; exact rfl; rcases lkp_cons h with ⟨rfl, rfl⟩ | ⟨_, h⟩; exact rfl;  simp [lkp] at h) rfl rfl (fun k o ho h1 h2 => by repeat (first | rfl | rw [lkp_ky_ne h1 ho dE] | rw [lkp_ky_ne h2 ho dE] | rw [lkp_put_ne h1 ho _ _ ble] | rw [lkp_put_ne h2 ho _ _ ble])))
  ·refine alo 53 (cs := [iV 0]) kR rfl (fun b9 hb9 => GK_C (fun _ w s => by exact s.low 52 limx agx agx agx) ?_)
   refine GA_two (i := 3) (j := 4) rfl rfl rfl rfl kR rfl rfl ?_ ?_
   ·refine cvo rfl (fun w_ s_ => lastOf_calls r x oM w_) (GK_C (fun _ w s => by exact s.low 52 limx agx agx agx) ?_)
    refine gn 4 rfl (alo 52 (cs := [iV 0]) kR rfl (fun b8 hb8 => GK_C (fun _ w s => by exact s.low 52 limx agx agx agx) ?_))
    refine gn 6 rfl (sto 52 rfl rfl rfl rfl (GK_C (fun _ w s => by exact s.low 52 limx agx agx agx) ?_))
    refine gn 7 rfl (sto 53 rfl rfl rfl rfl (GK_C (fun _ w s => by exact s.low 52 limx agx agx agx) ?_))
    refine GA_end kR ?_
    refine GE_meet (ι := Nat × Nat) ⟨b8, b9⟩ ⟨hb8, hb9⟩ kns (fun w s => dates_meet s (fun k b h => by rcases lkp_cons h with ⟨rfl, rfl⟩ | ⟨_, h⟩; exact rfl; rcases lkp_cons h with ⟨rfl, rfl⟩ | ⟨_, h⟩; exact rfl; rcases lkp_cons h with ⟨rfl, rfl⟩ | ⟨_, h⟩; exact rfl; rcases lkp_cons h with ⟨rfl, rfl⟩ | ⟨_, h⟩; exact rfl;  simp [lkp] at h) rfl rfl (fun k o ho h1 h2 => by repeat (first | rfl | rw [lkp_ky_ne h1 ho dE] | rw [lkp_ky_ne h2 ho dE] | rw [lkp_put_ne h1 ho _ _ ble] | rw [lkp_put_ne h2 ho _ _ ble])))
   ·refine alo 52 (cs := [iV 0]) kR rfl (fun b8 hb8 => GK_C (fun _ w s => by exact s.low 52 limx agx agx agx) ?_)
    refine gn 3 rfl (cvo rfl (fun w_ s_ => lastOf_calls r x oM w_) (GK_C (fun _ w s => by exact s.low 52 limx agx agx agx) ?_))
    refine gn 6 rfl (sto 52 rfl rfl rfl rfl (GK_C (fun _ w s => by exact s.low 52 limx agx agx agx) ?_))
    refine gn 7 rfl (sto 53 rfl rfl rfl rfl (GK_C (fun _ w s => by exact s.low 52 limx agx agx agx) ?_))
    refine GA_end kR ?_
    refine GE_meet (ι := Nat × Nat) ⟨b8, b9⟩ ⟨hb8, hb9⟩ kns (fun w s => dates_meet s (fun k b h => by rcases lkp_cons h with ⟨rfl, rfl⟩ | ⟨_, h⟩; exact rfl; rcases lkp_cons h with ⟨rfl, rfl⟩ | ⟨_, h⟩; exact rfl; rcases lkp_cons h with ⟨rfl, rfl⟩ | ⟨_, h⟩; exact rfl; rcases lkp_cons h with ⟨rfl, rfl⟩ | ⟨_, h⟩; exact rfl;  simp [lkp] at h) rfl rfl (fun k o ho h1 h2 => by repeat (first | rfl | rw [lkp_ky_ne h1 ho dE] | rw [lkp_ky_ne h2 ho dE] | rw [lkp_put_ne h1 ho _ _ ble] | rw [lkp_put_ne h2 ho _ _ ble])))
 rintro ⟨b8, b9⟩ ⟨hb8, hb9⟩
 show GC _ _ _ _ [(2, iV ((work : Int))), (3, pT b1), (4, pT b4), (8, pT b8), (9, pT b9)] _ _ ([(53, b9), (52, b8), (51, b4), (50, b1)]) (((ky 53 0, iV (lastF r)) :: (ky 52 0, iV r.start) :: (putKeys 51 0 [iV most] ++ (putKeys 50 0 (rulC r x) ++ [])))) ([])
 refine g2 ?_
 refine rl ((rd_loadN 50 (cs := rulC r x) rfl rfl (fun i u h => by have hlt_ : i < 18 := (List.getElem?_eq_some_iff.1 h).1; first | exact put_get (rulC r x) 0 ble i u h | (rcases i with _|_|_|_|_|_|_|_|_|_|_|_|_|_|_|_|_|_|i <;> first | exact h | omega)) ble kR)) ?_
 refine gL (at_call_re (F' := fun b => b = b1 ∨ b = b4 ∨ b = b8 ∨ b = b9) (fun y : Av => .agg (rulC q y).toArray) (fun y w1 => InL w1 q y ∧ BkL (fun b => ¬(b = b1 ∨ b = b4 ∨ b = b8 ∨ b = b9)) q y) (fun k b h => by rcases lkp_cons h with ⟨rfl, rfl⟩ | ⟨_, h⟩; exact .inr (.inr (.inr rfl)); rcases lkp_cons h with ⟨rfl, rfl⟩ | ⟨_, h⟩; exact .inr (.inr (.inl rfl)); rcases lkp_cons h with ⟨rfl, rfl⟩ | ⟨_, h⟩; exact .inr (.inl rfl); rcases lkp_cons h with ⟨rfl, rfl⟩ | ⟨_, h⟩; exact .inl rfl; simp [lkp] at h) rfl (fun w_ s_ => (full_calls (G := fun b => b < w.heap.size) r x oM oM hl w_ (InL.see s_ hin) hb).mono fun e w' ⟨y, h1, h2, h3, h4⟩ => ⟨y, by rw [h1, hq], h2, by rw [← hq]; exact h3, by rw [← hq]; exact bk_far h4 (s_.lt 50 b1 rfl) (s_.lt 51 b4 rfl) (s_.lt 52 b8 rfl) (s_.lt 53 b9 rfl) hb1 hb4 hb8 hb9⟩) (fun x2 w1 s1 hx2 => ?_))
 obtain ⟨hin2, hbk⟩ := hx2
 refine gL (at_storeAgg 50 (cs := (rulC q x2).toArray) rfl rfl rfl rfl kR rfl ble ?_)
 refine g4 ?_
 refine gL (alo 54 (cs := [.slice none 0 0]) kR rfl (fun b10 hb10 => ?_))
 refine g4 ?_
 refine rl ((rd_makeFunc (first := []) (capt := [pT b1, pT b8, pT b10, pT b4, pT b9]) rfl rfl)) ?_
 refine g5 ?_
 refine rl (rld 52 rfl rfl rfl) ?_
 refine g1 ?_
 refine gL (cvo rfl (fun w_ s_ => civil_calls _ oM w_) ?_)
 refine g11 ?_
 refine rl (rfa 3) ?_
 refine rl (rld 50 rfl rfl rfl) ?_
 refine g9 ?_
 refine GC_loop (ι := (Nat) × (Nat) × (List Int) × (Option Addr) × (Nat) × (List (Nat × Value))) (fun | ⟨k, wk, o, p, c, Hx⟩ => wk) (fun | ⟨k, wk, o, p, c, Hx⟩ => (k + wk ≤ 100000) ∧ (∀ l, DatesP q dayF (lastF r) most k o l → DatesP q dayF (lastF r) most 0 [] l) ∧ ((o.length : Int) ≤ most) ∧ ((cellsAt 50 Hx 0 (rulC q x2) ∧ lkp (ky 51 0) Hx = some (iV most) ∧ lkp (ky 52 0) Hx = some (iV r.start) ∧ lkp (ky 53 0) Hx = some (iV (lastF r)) ∧ Lim 55 [(54, b10), (53, b9), (52, b8), (51, b4), (50, b1)] Hx [])) ∧ (lkp (ky 54 0) Hx = some (.slice p o.length c))) (fun | ⟨k, wk, o, p, c, Hx⟩ => [(3, pT b1), (4, pT b4), (8, pT b8), (9, pT b9), (10, pT b10), (11, .func (.func 56) #[] #[pT b1, pT b8, pT b10, pT b4, pT b9]), (12, iV (Cal.yearOf (r.start / 86400))), (13, iV (Cal.monthOf (r.start / 86400))), (15, iV (q.interval)), (2, iV ((wk : Int))), (16, iV ((k : Int)))]) (fun | ⟨k, wk, o, p, c, Hx⟩ => [(54, b10), (53, b9), (52, b8), (51, b4), (50, b1)]) (fun | ⟨k, wk, o, p, c, Hx⟩ => Hx) (fun | ⟨k, wk, o, p, c, Hx⟩ => [(55, ⟨.slice p o.length c, 2, 1, o.length, (o.map iV)⟩)]) ⟨0, work, [], none, 0, (putKeys 54 0 [.slice none 0 0] ++ putSeq 50 0 (rulC q x2).toArray.toList ((ky 53 0, iV (lastF r)) :: (ky 52 0, iV r.start) :: (putKeys 51 0 [iV most] ++ (putKeys 50 0 (rulC r x) ++ []))))⟩ ⟨by omega, fun l h => h, by simp; omega, ⟨⟨rfl, rfl, rfl, rfl, rfl, rfl, rfl, rfl, rfl, rfl, rfl, rfl, rfl, rfl, rfl, rfl, rfl, rfl, trivial⟩, rfl, rfl, rfl, ⟨fun k hk => by repeat (first | rfl | rw [lkp_cons_ne oM]), fun k hk o ho => by repeat (first | rw [lkp_put_ne oM ho _ _ ble] | rw [lkp_seq_ne oM ho _ _ ble] | rw [lkp_ky_ne oM ho dE] | rfl), fun k hk => rfl⟩⟩, rfl⟩ kno (fun w s => by exact s.nilRow 55 2 1) ?_
 rintro ⟨k, wk, o, p, c, Hx⟩ ⟨hkw, hD, hom, hH, h54⟩
 show GC _ _ _ _ [(3, pT b1), (4, pT b4), (8, pT b8), (9, pT b9), (10, pT b10), (11, .func (.func 56) #[] #[pT b1, pT b8, pT b10, pT b4, pT b9]), (12, iV (Cal.yearOf (r.start / 86400))), (13, iV (Cal.monthOf (r.start / 86400))), (15, iV (q.interval)), (2, iV ((wk : Int))), (16, iV ((k : Int)))] _ _ ([(54, b10), (53, b9), (52, b8), (51, b4), (50, b1)]) (Hx) ([(55, ⟨.slice p o.length c, 2, 1, o.length, (o.map iV)⟩)])
 obtain ⟨hcl, h51, h52, h53, limH⟩ := hH
 have hcl2 := hcl
 obtain ⟨q0, q1, q2, q3, q4, q5, q6, q7, q8, q9, q10, q11, q12, q13, q14, q15, q16, q17, _⟩ := hcl2
 have hki := hki_bd (k := (k : Int)) (iv := q.interval) oM oM
 have h7 : 7 * (k : Int) * q.interval = 7 * (k * q.interval) := Int.mul_assoc _ _ _
 refine g13 ?_
 refine GC_cut (ι := (Int) × (Int)) (fun | ⟨first, many⟩ => (pFirst q k = first) ∧ (pMany q k = many) ∧ (¬ (q.freq = 0 ∧ 9999 < pY q k) ∧ ¬ (q.freq = 1 ∧ 9999 < pM q k)) ∧ (q.freq ≤ 3) ∧ (1 ≤ many ∧ many ≤ 366) ∧ (-7 ≤ first ∧ first ≤ 1000000000000)) (fun | ⟨first, many⟩ => [(3, pT b1), (4, pT b4), (8, pT b8), (9, pT b9), (10, pT b10), (11, .func (.func 56) #[] #[pT b1, pT b8, pT b10, pT b4, pT b9]), (12, iV (Cal.yearOf (r.start / 86400))), (13, iV (Cal.monthOf (r.start / 86400))), (15, iV (q.interval)), (2, iV ((wk : Int))), (16, iV ((k : Int))), (17, .slice none 0 0), (18, iV first), (19, iV many)]) (fun | ⟨first, many⟩ => [(54, b10), (53, b9), (52, b8), (51, b4), (50, b1)]) (fun | ⟨first, many⟩ => Hx) (fun | ⟨first, many⟩ => [(55, ⟨.slice p o.length c, 2, 1, o.length, (o.map iV)⟩)]) ?_ ?_
 ·refine g2 ?_
  refine rl (rfa 0) ?_
  refine rl (rld 50 rfl rfl q0) ?_
  refine g9 ?_
  refine GC_cond rfl (fun hc1 => ?_) (fun hc2 => ?_)
  ·have hf0 : q.freq = 0 := beq_iff_eq.1 hc1
   refine g6 ?_
   refine rl ((rd_add_ rfl rfl oM).to (v' := iV (pY q k)) (congrArg (Value.int .i64) (by unfold pY; rw [e1]))) ?_
   refine g10 ?_
   refine GC_cond rfl (fun hc1 => ?_) (fun hc2 => ?_)
   ·have hpy : 9999 < pY q k := of_decide_eq_true hc1
    have hov : pOver q k := by unfold pOver; exact .inl ⟨hf0, hpy⟩
    refine g2 ?_
    refine rl (rld 54 rfl rfl h54) ?_
    refine g12 ?_
    exact GE_ret2 (.inl rfl) rfl (res_tmp rfl) (res_tmp rfl) fun w_ s_ => ⟨true, o, p, c, fun _ => hD _ (.over hov), rfl, new_far s1 s_ (fun b h => by rcases h with rfl | rfl | rfl | rfl <;> assumption) (k := 55) rfl⟩
   ·have hpy : ¬ 9999 < pY q k := of_decide_eq_false hc2
    have hpy1 : 1 ≤ pY q k := by unfold pY; rw [e1]; omega
    have hlp := Cal.lp_01 (pY q k)
    have hdt : 0 ≤ Cal.daysTo (pY q k) ∧ Cal.daysTo (pY q k) ≤ 4000000 := by unfold Cal.daysTo; omega
    refine g4 ?_
    refine gL (cvo rfl (fun w_ s_ => newYear_calls _ oM w_) ?_)
    refine g1 ?_
    refine gL (cvo rfl (fun w_ s_ => yearDays_calls _ oM w_) ?_)
    refine g4 ?_
    refine GE_meet (ι := Int × Int) (⟨Cal.daysTo (pY q k), 365 + Cal.lp (pY q k)⟩) (⟨by unfold pFirst; rw [if_pos hf0], by unfold pMany; rw [if_pos hf0], ⟨fun h => hpy h.2, fun h => by omega⟩, by omega, by omega, by omega⟩) kno (fun w s => s)
  ·have hf0 : q.freq ≠ 0 := beq_eq_false_iff_ne.1 hc2
   refine g6 ?_
   refine GC_cond rfl (fun hc1 => ?_) (fun hc2 => ?_)
   ·have hf1 : q.freq = 1 := beq_iff_eq.1 hc1
    have hpn : 0 ≤ pN q k ∧ pN q k ≤ 100000100 := by unfold pN; rw [e1]; omega
    refine g7 ?_
    refine rl ((rd_add_ rfl rfl oM).to (v' := iV (pN q k)) (congrArg (Value.int .i64) (by unfold pN; rw [e1]))) ?_
    refine g8 ?_
    refine rl ((rd_add_ rfl rfl oM).to (v' := iV (pM q k)) (congrArg (Value.int .i64) (by unfold pM; rw [e1]))) ?_
    refine g10 ?_
    refine GC_cond rfl (fun hc1 => ?_) (fun hc2 => ?_)
    ·have hpy : 9999 < pM q k := of_decide_eq_true hc1
     have hov : pOver q k := by unfold pOver; exact .inr (.inl ⟨hf1, hpy⟩)
     refine g2 ?_
     refine rl (rld 54 rfl rfl h54) ?_
     refine g12 ?_
     exact GE_ret2 (.inl rfl) rfl (res_tmp rfl) (res_tmp rfl) fun w_ s_ => ⟨true, o, p, c, fun _ => hD _ (.over hov), rfl, new_far s1 s_ (fun b h => by rcases h with rfl | rfl | rfl | rfl <;> assumption) (k := 55) rfl⟩
    ·have hpy : ¬ 9999 < pM q k := of_decide_eq_false hc2
     have hpn : 0 ≤ pN q k := by unfold pN; rw [e1]; omega
     have hpy1 : 1 ≤ pM q k := by unfold pM; rw [e1]; omega
     have hmd := Cal.mdays_bd (pN q k % 12 + 1) (pM q k)
     have hcu := Cal.cum_bd (pM q k) (pN q k % 12 + 1 - 1).toNat
     have hdt : 0 ≤ Cal.daysTo (pM q k) ∧ Cal.daysTo (pM q k) ≤ 4000000 := by unfold Cal.daysTo; omega
     refine g7 ?_
     refine gL (cvo rfl (fun w_ s_ => daysOf_calls _ _ _ oM oM oM w_) ?_)
     refine g4 ?_
     refine gL (cvo rfl (fun w_ s_ => smonthDays_calls _ _ oM w_) ?_)
     refine g4 ?_
     refine GE_meet (ι := Int × Int) (⟨Cal.daysTo (pM q k) + 1 - 1 + Cal.cum (pM q k) (pN q k % 12 + 1 - 1).toNat, Cal.mdays (pN q k % 12 + 1) (pM q k)⟩) (⟨by unfold pFirst; rw [if_neg hf0, if_pos hf1], by unfold pMany; rw [if_neg hf0, if_pos hf1], ⟨fun h => hf0 h.1, fun h => hpy h.2⟩, by omega, by omega, by omega⟩) kno (fun w s => s)
   ·have hf1 : q.freq ≠ 1 := beq_eq_false_iff_ne.1 hc2
    refine g6 ?_
    refine GC_cond rfl (fun hc1 => ?_) (fun hc2 => ?_)
    ·have hf2 : q.freq = 2 := beq_iff_eq.1 hc1
     have hpv : pFirst q k = r.start / 86400 - (r.start / 86400 % 7 - q.wkst + 7) % 7 + 7 * k * q.interval := by unfold pFirst; rw [if_neg hf0, if_neg hf1, if_pos hf2, e1]
     refine g2 ?_
     refine rl (rld 52 rfl rfl h52) ?_
     refine g8 ?_
     refine GQ_call_v dE kR rfl (fun w_ s_ => sweekday_calls _ oM w_) ?_
     refine rq (rfa 4) ?_
     refine rq (rld 50 rfl rfl q4) ?_
     refine g8 ?_
     refine rq ((rd_add_ rfl rfl oM).to (v' := iV (pFirst q k)) (congrArg (Value.int .i64) (by unfold pFirst; rw [if_neg hf0, if_neg hf1, if_pos hf2, e1]))) ?_
     refine g7 ?_
     refine GE_meet (ι := Int × Int) (⟨pFirst q k, 7⟩) (⟨rfl, by unfold pMany; rw [if_neg hf0, if_neg hf1, if_pos hf2], ⟨fun h => hf0 h.1, fun h => hf1 h.1⟩, by omega, by omega, by omega⟩) kno (fun w s => s)
    ·have hf2 : q.freq ≠ 2 := beq_eq_false_iff_ne.1 hc2
     refine g6 ?_
     refine GC_cond rfl (fun hc1 => ?_) (fun hc2 => ?_)
     ·have hf3 : q.freq = 3 := beq_iff_eq.1 hc1
      have hpv : pFirst q k = r.start / 86400 + k * q.interval := by unfold pFirst; rw [if_neg hf0, if_neg hf1, if_neg hf2, if_pos hf3, e1]
      refine g1 ?_
      refine rl (rld 52 rfl rfl h52) ?_
      refine g4 ?_
      refine rl ((rd_add_ rfl rfl oM).to (v' := iV (pFirst q k)) (congrArg (Value.int .i64) (by unfold pFirst; rw [if_neg hf0, if_neg hf1, if_neg hf2, if_pos hf3, e1]))) ?_
      refine g4 ?_
      refine GE_meet (ι := Int × Int) (⟨pFirst q k, 1⟩) (⟨rfl, by unfold pMany; rw [if_neg hf0, if_neg hf1, if_neg hf2], ⟨fun h => hf0 h.1, fun h => hf1 h.1⟩, by omega, by omega, by omega⟩) kno (fun w s => s)
     ·have hf3 : q.freq ≠ 3 := beq_eq_false_iff_ne.1 hc2
      refine GC_cut (ι := (Int)) (fun u => (UN q.freq = u) ∧ (1 ≤ u ∧ u ≤ 3600)) (fun u => [(3, pT b1), (4, pT b4), (8, pT b8), (9, pT b9), (10, pT b10), (11, .func (.func 56) #[] #[pT b1, pT b8, pT b10, pT b4, pT b9]), (12, iV (Cal.yearOf (r.start / 86400))), (13, iV (Cal.monthOf (r.start / 86400))), (15, iV (q.interval)), (2, iV ((wk : Int))), (16, iV ((k : Int))), (17, .slice none 0 0), (24, iV u)]) (fun u => [(54, b10), (53, b9), (52, b8), (51, b4), (50, b1)]) (fun u => Hx) (fun u => [(55, ⟨.slice p o.length c, 2, 1, o.length, (o.map iV)⟩)]) ?_ ?_
      ·rcases (by omega : q.freq = 4 ∨ q.freq = 5 ∨ q.freq = 6) with hqf | hqf | hqf
       ·refine g1 ?_
        refine gL (at_row 50 (e := 2) (sz := 1) (n := 3) (vs := [(0, iV 3600), (1, iV 60), (2, iV 1)]) (cs := [iV 3600, iV 60, iV 1]) dE rfl (fun w => by kernel_rfl) rfl dE dE rfl (fun b1_ hbb1_ => ?_))
        refine rl (rfa 0) ?_
        refine rl ((rld 50 rfl rfl q0).to (v' := .int .u8 4) (congrArg (Value.int .u8) hqf)) ?_
        refine rl ((rd_sub rfl rfl).to (v' := .int .u8 0) rfl) ?_
        refine rl (rd_indexAddr (e := 2) (n := 1) kR rfl rfl oM oM) ?_
        refine rl (rd_load_row 50 rfl rfl rfl rfl kR) ?_
        refine g2 ?_
        refine GE_meet (ι := Int) (3600) (⟨by unfold UN; rw [hqf]; rfl, by decide⟩) kno (fun w s => Sees.tailS s rfl)
       ·refine g1 ?_
        refine gL (at_row 50 (e := 2) (sz := 1) (n := 3) (vs := [(0, iV 3600), (1, iV 60), (2, iV 1)]) (cs := [iV 3600, iV 60, iV 1]) dE rfl (fun w => by kernel_rfl) rfl dE dE rfl (fun b2_ hbb2_ => ?_))
        refine rl (rfa 0) ?_
        refine rl ((rld 50 rfl rfl q0).to (v' := .int .u8 5) (congrArg (Value.int .u8) hqf)) ?_
        refine rl ((rd_sub rfl rfl).to (v' := .int .u8 1) rfl) ?_
        refine rl (rd_indexAddr (e := 2) (n := 1) kR rfl rfl oM oM) ?_
        refine rl (rd_load_row 50 rfl rfl rfl rfl kR) ?_
        refine g2 ?_
        refine GE_meet (ι := Int) (60) (⟨by unfold UN; rw [hqf]; rfl, by decide⟩) kno (fun w s => Sees.tailS s rfl)
       ·refine g1 ?_
        refine gL (at_row 50 (e := 2) (sz := 1) (n := 3) (vs := [(0, iV 3600), (1, iV 60), (2, iV 1)]) (cs := [iV 3600, iV 60, iV 1]) dE rfl (fun w => by kernel_rfl) rfl dE dE rfl (fun b3_ hbb3_ => ?_))
        refine rl (rfa 0) ?_
        refine rl ((rld 50 rfl rfl q0).to (v' := .int .u8 6) (congrArg (Value.int .u8) hqf)) ?_
        refine rl ((rd_sub rfl rfl).to (v' := .int .u8 2) rfl) ?_
        refine rl (rd_indexAddr (e := 2) (n := 1) kR rfl rfl oM oM) ?_
        refine rl (rd_load_row 50 rfl rfl rfl rfl kR) ?_
        refine g2 ?_
        refine GE_meet (ι := Int) (1) (⟨by unfold UN; rw [hqf]; rfl, by decide⟩) kno (fun w s => Sees.tailS s rfl)
      rintro u ⟨hu, hub⟩
      show GC _ _ _ _ [(3, pT b1), (4, pT b4), (8, pT b8), (9, pT b9), (10, pT b10), (11, .func (.func 56) #[] #[pT b1, pT b8, pT b10, pT b4, pT b9]), (12, iV (Cal.yearOf (r.start / 86400))), (13, iV (Cal.monthOf (r.start / 86400))), (15, iV (q.interval)), (2, iV ((wk : Int))), (16, iV ((k : Int))), (17, .slice none 0 0), (24, iV u)] _ _ ([(54, b10), (53, b9), (52, b8), (51, b4), (50, b1)]) (Hx) ([(55, ⟨.slice p o.length c, 2, 1, o.length, (o.map iV)⟩)])
      obtain ⟨hu1, hu2⟩ := hub
      have hmd : 0 ≤ r.start % u ∧ r.start % u < u := ⟨Int.emod_nonneg _ oM, Int.emod_lt_of_pos _ oM⟩
      have hml : r.start % u ≤ r.start := by rw [Int.emod_def]; have := Int.mul_nonneg (show 0 ≤ u by omega) (Int.ediv_nonneg (show 0 ≤ r.start by omega) (show 0 ≤ u by omega)); omega
      have hku : 0 ≤ k * q.interval * u ∧ k * q.interval * u ≤ 100000000 * 3600 := ⟨Int.mul_nonneg hki.1 oM, Int.mul_le_mul hki.2 hu2 oM oM⟩
      have hpa : pAt q k = r.start - r.start % u + k * q.interval * u := by unfold pAt; rw [hu, e1]
      have hpab : 0 ≤ pAt q k ∧ pAt q k ≤ 1000000000000 := by rw [hpa]; omega
      refine g2 ?_
      refine rq (rld 52 rfl rfl h52) ?_
      refine rq (rld 52 rfl rfl h52) ?_
      refine g8 ?_
      refine rq ((rd_add_ rfl rfl oM).to (v' := iV (pAt q k)) (congrArg (Value.int .i64) (by rw [hpa]))) ?_
      refine g20 ?_
      refine g4 ?_
      refine GC_cond rfl (fun hc1 => ?_) (fun hc2 => ?_)
      ·refine g14 ?_
       exact GE_ret2 (.inl rfl) rfl (res_tmp rfl) (res_tmp rfl) fun w_ s_ => ⟨false, [], none, 0, fun h => (by cases h), rfl, new_far s1 (s_.nilRow 57 2 1) (fun b h => by rcases h with rfl | rfl | rfl | rfl <;> assumption) (k := 57) rfl⟩
      ·have hwk1 : 1 ≤ wk := by have := of_decide_eq_false hc2; omega
       refine g6 ?_
       refine gL (cvo rfl (fun w_ s_ => newYear_calls _ oM w_) ?_)
       refine g3 ?_
       refine GC_cond rfl (fun hc1 => ?_) (fun hc2 => ?_)
       ·have hlt_ : Cal.daysTo 10000 ≤ pAt q k / 86400 := of_decide_eq_true hc1
        have hov : pOver q k := by unfold pOver pFirst; rw [if_neg hf0, if_neg hf1, if_neg hf2, if_neg hf3]; exact .inr (.inr oM)
        refine g2 ?_
        refine rl (rld 54 rfl rfl h54) ?_
        refine g12 ?_
        exact GE_ret2 (.inl rfl) rfl (res_tmp rfl) (res_tmp rfl) fun w_ s_ => ⟨true, o, p, c, fun _ => hD _ (.over hov), rfl, new_far s1 s_ (fun b h => by rcases h with rfl | rfl | rfl | rfl <;> assumption) (k := 55) rfl⟩
       ·have hlt_ : ¬ Cal.daysTo 10000 ≤ pAt q k / 86400 := of_decide_eq_false hc2
        refine g2 ?_
        refine GC_cut (ι := (List Int) × (Option Addr) × (Nat)) (fun | ⟨L, pl, cl⟩ => (L = if dayF (pAt q k / 86400) = true then clockF q.hour q.minute q.second (pAt q k / 86400) (pAt q k) (UN q.freq) else [])) (fun | ⟨L, pl, cl⟩ => [(3, pT b1), (4, pT b4), (8, pT b8), (9, pT b9), (10, pT b10), (11, .func (.func 56) #[] #[pT b1, pT b8, pT b10, pT b4, pT b9]), (12, iV (Cal.yearOf (r.start / 86400))), (13, iV (Cal.monthOf (r.start / 86400))), (15, iV (q.interval)), (2, iV ((wk : Int) - 1)), (16, iV ((k : Int))), (18, iV (pAt q k / 86400)), (24, iV u), (25, iV (pAt q k)), (17, .slice pl L.length cl)]) (fun | ⟨L, pl, cl⟩ => [(54, b10), (53, b9), (52, b8), (51, b4), (50, b1)]) (fun | ⟨L, pl, cl⟩ => Hx) (fun | ⟨L, pl, cl⟩ => [(56, ⟨.slice pl L.length cl, 2, 1, L.length, (L.map iV)⟩), (55, ⟨.slice p o.length c, 2, 1, o.length, (o.map iV)⟩)]) ?_ ?_
        ·refine g2 ?_
         refine rl ((rd_loadN 50 (cs := rulC q x2) rfl rfl (fun i u h => by have := hcl.get i u h; rwa [Nat.zero_add] at this ⊢) ble kR)) ?_
         refine g1 ?_
         refine gL (cvo (v := .bool (dayF (pAt q k / 86400))) rfl (fun w_ s_ => hday x2 _ oM w_ (InL.seeF (F := fun b => b = b1 ∨ b = b4 ∨ b = b8 ∨ b = b9) s_ hin2 hbk)) ?_)
         refine g2 ?_
         refine GC_cond rfl (fun hc1 => ?_) (fun hc2 => ?_)
         ·refine g1 ?_
          refine rl ((rd_loadN 50 (cs := rulC q x2) rfl rfl (fun i u h => by have := hcl.get i u h; rwa [Nat.zero_add] at this ⊢) ble kR)) ?_
          refine g3 ?_
          refine gL (at_call_row 56 (e := 2) (sz := 1) (n := (clockF q.hour q.minute q.second (pAt q k / 86400) (pAt q k) (u)).length) (xs := (clockF q.hour q.minute q.second (pAt q k / 86400) (pAt q k) (u)).map iV) dE kR rfl (fun w_ s_ => sclock2_calls q x2 (pAt q k / 86400) (pAt q k) (u) oM oM oM l15 l16 l17 w_ (InL.seeF (F := fun b => b = b1 ∨ b = b4 ∨ b = b8 ∨ b = b9) s_ hin2 hbk)) (fun pl_ cl_ => ?_))
          refine g2 ?_
          refine GE_meet (ι := List Int × Option Addr × Nat) (⟨clockF q.hour q.minute q.second (pAt q k / 86400) (pAt q k) u, pl_, cl_⟩) (by rw [if_pos hc1, hu]) kno (fun w s => s)
         ·refine g1 ?_
          refine GE_meet (ι := List Int × Option Addr × Nat) (⟨[], none, 0⟩) (by rw [if_neg (by rw [hc2]; decide)]) kno (fun w s => s.nilRow 56 2 1)
        rintro ⟨L, pl, cl⟩ hL
        show GC _ _ _ _ [(3, pT b1), (4, pT b4), (8, pT b8), (9, pT b9), (10, pT b10), (11, .func (.func 56) #[] #[pT b1, pT b8, pT b10, pT b4, pT b9]), (12, iV (Cal.yearOf (r.start / 86400))), (13, iV (Cal.monthOf (r.start / 86400))), (15, iV (q.interval)), (2, iV ((wk : Int) - 1)), (16, iV ((k : Int))), (18, iV (pAt q k / 86400)), (24, iV u), (25, iV (pAt q k)), (17, .slice pl L.length cl)] _ _ ([(54, b10), (53, b9), (52, b8), (51, b4), (50, b1)]) (Hx) ([(56, ⟨.slice pl L.length cl, 2, 1, L.length, (L.map iV)⟩), (55, ⟨.slice p o.length c, 2, 1, o.length, (o.map iV)⟩)])
        have hll : L.length ≤ 1000000000 := by rw [hL]; split; exact Nat.le_trans (clockF_len _ _ _ _ _ _) dE; simp
        have hpf : pFirst q k = pAt q k / 86400 := by unfold pFirst; rw [if_neg hf0, if_neg hf1, if_neg hf2, if_neg hf3]
        have hnov : ¬ pOver q k := by unfold pOver; rw [hpf]; omega
        have hdl : pDays q dayF k = L := by unfold pDays; rw [if_pos oM, hpf, hL]
        refine g5 ?_
        refine gL (at_callv (ι := Option Addr × Nat) (first := []) (capt := [pT b1, pT b8, pT b10, pT b4, pT b9]) (fun _ => .bool (addF q r.start (lastF r) most o L).2) (fun _ => True) (fun _ => [(54, b10), (53, b9), (52, b8), (51, b4), (50, b1)]) (fun y => (ky 54 0, .slice y.1 (addF q r.start (lastF r) most o L).1.length y.2) :: Hx) (fun y => (55, ⟨.slice y.1 (addF q r.start (lastF r) most o L).1.length y.2, 2, 1, (addF q r.start (lastF r) most o L).1.length, ((addF q r.start (lastF r) most o L).1.map iV)⟩) :: [(56, ⟨.slice pl L.length cl, 2, 1, L.length, (L.map iV)⟩), (55, ⟨.slice p o.length c, 2, 1, o.length, (o.map iV)⟩)]) dE rfl kR rfl (fun w_ s_ => (addDates_calls (r := q) (x := x2) (l := L) rfl rfl rfl rfl rfl q5 q8 h51 h52 h53 h54 rfl rfl (Lim.consS (Lim.consS (Lim.mono limH (by decide : 55 ≤ 57)) dE) dE) ⟨hom, hm.2⟩ hll (fun w_ s_ => (InL.seeF (F := fun b => b = b1 ∨ b = b4 ∨ b = b8 ∨ b = b9) s_ hin2 hbk).i9) l9 w_ s_).mono fun e w' ⟨p', c', he, hs⟩ => ⟨(p', c'), trivial, he, hs⟩) (fun | (p', c'), _ => ?_))
        refine g3 ?_
        refine GC_cond rfl (fun hc1 => ?_) (fun hc2 => ?_)
        ·have hstop : (addF q r.start (lastF r) most o L).2 = false := by simpa using hc1
         refine g2 ?_
         refine rl (rld 54 rfl rfl rfl) ?_
         refine g12 ?_
         exact GE_ret2 (.inl rfl) rfl (res_tmp rfl) (res_tmp rfl) fun w_ s_ => ⟨true, (addF q r.start (lastF r) most o L).1, p', c', fun _ => hD _ (by have h_ := DatesP.stop (en := lastF r) (most := most) hnov (by rw [hdl, e1]; exact hstop); rw [hdl, e1] at h_; exact h_), rfl, new_far s1 s_ (fun b h => by rcases h with rfl | rfl | rfl | rfl <;> assumption) (k := 55) rfl⟩
        ·have hgo : (addF q r.start (lastF r) most o L).2 = true := by simpa using hc2
         refine g12 ?_
         refine GE_back ⟨k + 1, wk - 1, (addF q r.start (lastF r) most o L).1, p', c', (ky 54 0, .slice p' (addF q r.start (lastF r) most o L).1.length c') :: Hx⟩ sO ⟨by omega, fun l h => hD l (.more hnov (by rw [hdl, e1]; exact hgo) (by rw [hdl, e1]; exact (show ((k + 1 : Nat) : Int) = (k : Int) + 1 by omega) ▸ h)), addGo_len _ _ _ _ _ _ hom, ⟨cellsAt_cons hcl ble dE dE, h51, h52, h53, limH.consH (k := 54) (o := 0) dE dE⟩, rfl⟩ kno (fun w s => by exact (s.low 56 (Lim.consS (Lim.mono (limH.consH (k := 54) (o := 0) dE dE) (by decide : 55 ≤ 56)) (by decide : 55 < 56)) agx agx agx))
 rintro ⟨first, many⟩ ⟨hpf, hpm, hno, hf3, hmb2, hfb⟩
 show GC _ _ _ _ [(3, pT b1), (4, pT b4), (8, pT b8), (9, pT b9), (10, pT b10), (11, .func (.func 56) #[] #[pT b1, pT b8, pT b10, pT b4, pT b9]), (12, iV (Cal.yearOf (r.start / 86400))), (13, iV (Cal.monthOf (r.start / 86400))), (15, iV (q.interval)), (2, iV ((wk : Int))), (16, iV ((k : Int))), (17, .slice none 0 0), (18, iV first), (19, iV many)] _ _ ([(54, b10), (53, b9), (52, b8), (51, b4), (50, b1)]) (Hx) ([(55, ⟨.slice p o.length c, 2, 1, o.length, (o.map iV)⟩)])
 refine g4 ?_
 refine gL (cvo rfl (fun w_ s_ => newYear_calls _ oM w_) ?_)
 refine g3 ?_
 refine GC_cond rfl (fun hc1 => ?_) (fun hc2 => ?_)
 ·have hlt_ : Cal.daysTo 10000 ≤ first := of_decide_eq_true hc1
  have hov : pOver q k := by unfold pOver; rw [hpf]; exact .inr (.inr oM)
  refine g2 ?_
  refine rl (rld 54 rfl rfl h54) ?_
  refine g10 ?_
  exact GE_ret2 (.inl rfl) rfl (res_tmp rfl) (res_tmp rfl) fun w_ s_ => ⟨true, o, p, c, fun _ => hD _ (.over hov), rfl, new_far s1 s_ (fun b h => by rcases h with rfl | rfl | rfl | rfl <;> assumption) (k := 55) rfl⟩
 ·have hlt_ : ¬ Cal.daysTo 10000 ≤ first := of_decide_eq_false hc2
  have hnov : ¬ pOver q k := by unfold pOver; rw [hpf]; intro h_; rcases h_ with h_ | h_ | h_; exact hno.1 h_; exact hno.2 h_; omega
  refine g16 ?_
  refine g1 ?_
  refine GC_cond rfl (fun hc1 => ?_) (fun hc2 => ?_)
  ·refine g12 ?_
   exact GE_ret2 (.inl rfl) rfl (res_tmp rfl) (res_tmp rfl) fun w_ s_ => ⟨false, [], none, 0, fun h => (by cases h), rfl, new_far s1 (s_.nilRow 57 2 1) (fun b h => by rcases h with rfl | rfl | rfl | rfl <;> assumption) (k := 57) rfl⟩
  ·have hwk1 : many ≤ wk := by have := of_decide_eq_false hc2; omega
   refine g10 ?_
   refine GC_loop (ι := (Nat) × (List Int) × (Option Addr) × (Nat) × (Nat) × (List Value)) (fun | ⟨j, L, pl, cl, n, xs⟩ => (many - j).toNat) (fun | ⟨j, L, pl, cl, n, xs⟩ => ((j : Int) ≤ many) ∧ (L = daysTil q dayF first j) ∧ (n = L.length) ∧ (xs = L.map iV)) (fun | ⟨j, L, pl, cl, n, xs⟩ => [(3, pT b1), (4, pT b4), (8, pT b8), (9, pT b9), (10, pT b10), (11, .func (.func 56) #[] #[pT b1, pT b8, pT b10, pT b4, pT b9]), (12, iV (Cal.yearOf (r.start / 86400))), (13, iV (Cal.monthOf (r.start / 86400))), (15, iV (q.interval)), (2, iV ((wk : Int) - many)), (16, iV ((k : Int))), (18, iV first), (19, iV many), (162, iV many), (17, .slice pl n cl), (163, iV ((j : Int)))]) (fun | ⟨j, L, pl, cl, n, xs⟩ => [(54, b10), (53, b9), (52, b8), (51, b4), (50, b1)]) (fun | ⟨j, L, pl, cl, n, xs⟩ => Hx) (fun | ⟨j, L, pl, cl, n, xs⟩ => [(56, ⟨.slice pl n cl, 2, 1, n, xs⟩), (55, ⟨.slice p o.length c, 2, 1, o.length, (o.map iV)⟩)]) ⟨0, [], none, 0, 0, []⟩ ⟨by omega, rfl, rfl, rfl⟩ kno (fun w s => by exact s.nilRow 56 2 1) ?_
   rintro ⟨j, L, pl, cl, n, xs⟩ ⟨hj, hL, hn, hx⟩
   show GC _ _ _ _ [(3, pT b1), (4, pT b4), (8, pT b8), (9, pT b9), (10, pT b10), (11, .func (.func 56) #[] #[pT b1, pT b8, pT b10, pT b4, pT b9]), (12, iV (Cal.yearOf (r.start / 86400))), (13, iV (Cal.monthOf (r.start / 86400))), (15, iV (q.interval)), (2, iV ((wk : Int) - many)), (16, iV ((k : Int))), (18, iV first), (19, iV many), (162, iV many), (17, .slice pl n cl), (163, iV ((j : Int)))] _ _ ([(54, b10), (53, b9), (52, b8), (51, b4), (50, b1)]) (Hx) ([(56, ⟨.slice pl n cl, 2, 1, n, xs⟩), (55, ⟨.slice p o.length c, 2, 1, o.length, (o.map iV)⟩)])
   have hLl := daysTil_len q dayF first j
   rw [← hL] at hLl
   refine g6 ?_
   refine GC_cond rfl (fun hc1 => ?_) (fun hc2 => ?_)
   ·have hlt : (j : Int) < many := of_decide_eq_true hc1
    refine g20 ?_
    refine g1 ?_
    rcases Decidable.em (0 ≤ first + j) with h0 | h0
    ·refine rl ((rd_geq rfl rfl).to bT) ?_
     refine g2 ?_
     refine rl ((rd_loadN 50 (cs := rulC q x2) rfl rfl (fun i u h => by have := hcl.get i u h; rwa [Nat.zero_add] at this ⊢) ble kR)) ?_
     refine g3 ?_
     rcases Bool.eq_false_or_eq_true (dayF (first + j)) with ha | ha
     ·refine gL (cvo (v := .bool true) rfl (fun w_ s_ => (hday x2 (first + j) ⟨h0, by omega⟩ w_ (InL.seeF (F := fun b => b = b1 ∨ b = b4 ∨ b = b8 ∨ b = b9) s_ hin2 hbk)).mono fun e_ w2_ h_ => ⟨h_.1.trans (congrArg (fun b => Ending.returned (Value.bool b)) ha), h_.2⟩) ?_)
      refine g3 ?_
      refine GC_is_true rfl rfl ?_
      refine g2 ?_
      refine rl ((rd_loadN 50 (cs := rulC q x2) rfl rfl (fun i u h => by have := hcl.get i u h; rwa [Nat.zero_add] at this ⊢) ble kR)) ?_
      refine g3 ?_
      refine gL (at_call_row 60 (e := 2) (sz := 1) (n := (clockF q.hour q.minute q.second (first + j) ((first + j) * 86400) (86400)).length) (xs := (clockF q.hour q.minute q.second (first + j) ((first + j) * 86400) (86400)).map iV) dE kR rfl (fun w_ s_ => sclock2_calls q x2 (first + j) ((first + j) * 86400) (86400) oM oM oM l15 l16 l17 w_ (InL.seeF (F := fun b => b = b1 ∨ b = b4 ∨ b = b8 ∨ b = b9) s_ hin2 hbk)) (fun p6 c6 => ?_))
      refine gL (at_append_rows 56 60 (e := 2) (sz := 1) (by_ := 8) (zs := [iV 0]) (q := ⟨.slice pl n cl, 2, 1, n, xs⟩) (r := ⟨.slice p6 (clockF q.hour q.minute q.second (first + j) ((first + j) * 86400) 86400).length c6, 2, 1, (clockF q.hour q.minute q.second (first + j) ((first + j) * 86400) 86400).length, ((clockF q.hour q.minute q.second (first + j) ((first + j) * 86400) 86400).map iV)⟩) dE kR rfl dE rfl rfl rfl rfl ⟨rfl, rfl⟩ ⟨rfl, rfl⟩ ints_one (by have hcl_ := clockF_len q.hour q.minute q.second (first + j) ((first + j) * 86400) 86400; simp only; omega) (by have hcl_ := clockF_len q.hour q.minute q.second (first + j) ((first + j) * 86400) 86400; simp only; omega) (fun p7 c7 => ?_))
      refine g8 ?_
      refine GE_back ⟨j + 1, L ++ clockF q.hour q.minute q.second (first + j) ((first + j) * 86400) 86400, p7, c7, n + (clockF q.hour q.minute q.second (first + j) ((first + j) * 86400) 86400).length, xs ++ (clockF q.hour q.minute q.second (first + j) ((first + j) * 86400) 86400).map iV⟩ sO ⟨by omega, by rw [daysTil_succ, ← hL]; unfold dayOut; rw [if_pos ⟨h0, ha⟩], by rw [List.length_append, hn], by rw [List.map_append, hx]⟩ kno (fun w s => by exact (s.low 57 ((Lim.mono limH (by decide : 55 ≤ 57)).consS dE |>.consS dE) agx agx agx))
     ·refine gL (cvo (v := .bool false) rfl (fun w_ s_ => (hday x2 (first + j) ⟨h0, by omega⟩ w_ (InL.seeF (F := fun b => b = b1 ∨ b = b4 ∨ b = b8 ∨ b = b9) s_ hin2 hbk)).mono fun e_ w2_ h_ => ⟨h_.1.trans (congrArg (fun b => Ending.returned (Value.bool b)) ha), h_.2⟩) ?_)
      refine g3 ?_
      refine GC_is_false rfl rfl ?_
      refine g7 ?_
      refine GE_back ⟨j + 1, L, pl, cl, n, xs⟩ sO ⟨by omega, by rw [daysTil_succ, ← hL]; unfold dayOut; rw [if_neg (fun h_ => by rw [ha] at h_; exact absurd h_.2 dE), List.append_nil], hn, hx⟩ kno (fun w s => by exact (s.low 57 ((Lim.mono limH (by decide : 55 ≤ 57)).consS dE |>.consS dE) agx agx agx))
    ·refine rl ((rd_geq rfl rfl).to bF) ?_
     refine g7 ?_
     refine GC_is_false rfl rfl ?_
     refine g7 ?_
     refine GE_back ⟨j + 1, L, pl, cl, n, xs⟩ sO ⟨by omega, by rw [daysTil_succ, ← hL]; unfold dayOut; rw [if_neg (fun h_ => h0 h_.1), List.append_nil], hn, hx⟩ kno (fun w s => by exact (s.low 57 ((Lim.mono limH (by decide : 55 ≤ 57)).consS dE |>.consS dE) agx agx agx))
   ·have hje : (j : Int) = many := by have := of_decide_eq_false hc2; omega
    subst hn hx
    have hdl : pDays q dayF k = L := by unfold pDays; rw [if_neg oM, hpf, hpm, hL, show many.toNat = j by omega]
    refine g9 ?_
    refine gL (at_callv (ι := Option Addr × Nat) (first := []) (capt := [pT b1, pT b8, pT b10, pT b4, pT b9]) (fun _ => .bool (addF q r.start (lastF r) most o L).2) (fun _ => True) (fun _ => [(54, b10), (53, b9), (52, b8), (51, b4), (50, b1)]) (fun y => (ky 54 0, .slice y.1 (addF q r.start (lastF r) most o L).1.length y.2) :: Hx) (fun y => (55, ⟨.slice y.1 (addF q r.start (lastF r) most o L).1.length y.2, 2, 1, (addF q r.start (lastF r) most o L).1.length, ((addF q r.start (lastF r) most o L).1.map iV)⟩) :: [(56, ⟨.slice pl L.length cl, 2, 1, L.length, (L.map iV)⟩), (55, ⟨.slice p o.length c, 2, 1, o.length, (o.map iV)⟩)]) dE rfl kR rfl (fun w_ s_ => (addDates_calls (r := q) (x := x2) (l := L) rfl rfl rfl rfl rfl q5 q8 h51 h52 h53 h54 rfl rfl (Lim.consS (Lim.consS (Lim.mono limH (by decide : 55 ≤ 57)) dE) dE) ⟨hom, hm.2⟩ oM (fun w_ s_ => (InL.seeF (F := fun b => b = b1 ∨ b = b4 ∨ b = b8 ∨ b = b9) s_ hin2 hbk).i9) l9 w_ s_).mono fun e w' ⟨p', c', he, hs⟩ => ⟨(p', c'), trivial, he, hs⟩) (fun | (p', c'), _ => ?_))
    refine g3 ?_
    refine GC_cond rfl (fun hc1 => ?_) (fun hc2 => ?_)
    ·have hstop : (addF q r.start (lastF r) most o L).2 = false := by simpa using hc1
     refine g2 ?_
     refine rl (rld 54 rfl rfl rfl) ?_
     refine g9 ?_
     exact GE_ret2 (.inl rfl) rfl (res_tmp rfl) (res_tmp rfl) fun w_ s_ => ⟨true, (addF q r.start (lastF r) most o L).1, p', c', fun _ => hD _ (by have h_ := DatesP.stop (en := lastF r) (most := most) hnov (by rw [hdl, e1]; exact hstop); rw [hdl, e1] at h_; exact h_), rfl, new_far s1 s_ (fun b h => by rcases h with rfl | rfl | rfl | rfl <;> assumption) (k := 55) rfl⟩
    ·have hgo : (addF q r.start (lastF r) most o L).2 = true := by simpa using hc2
     refine g8 ?_
     refine GE_back ⟨k + 1, wk - many.toNat, (addF q r.start (lastF r) most o L).1, p', c', (ky 54 0, .slice p' (addF q r.start (lastF r) most o L).1.length c') :: Hx⟩ sO ⟨by omega, fun l h => hD l (.more hnov (by rw [hdl, e1]; exact hgo) (by rw [hdl, e1]; exact (show ((k + 1 : Nat) : Int) = (k : Int) + 1 by omega) ▸ h)), addGo_len _ _ _ _ _ _ hom, ⟨cellsAt_cons hcl ble dE dE, h51, h52, h53, limH.consH (k := 54) (o := 0) dE dE⟩, rfl⟩ kno (fun w s => by exact (s.low 56 (Lim.consS (Lim.mono (limH.consH (k := 54) (o := 0) dE dE) (by decide : 55 ≤ 56)) (by decide : 55 < 56)) agx agx agx))
end
end Go.Proofs.YtdbbifbmkfmbkaaGreat
namespace Go.Proofs.YtdbbifbmkfmbkaaGreat
open Go.RowKit Go.Fr Go.Tab
section
variable {F : Nat → Prop} {w0 : World} {B : List (Nat × Nat)} {H : List (Nat × Value)} {S : List (Nat × Slc)}
open Go.Md
theorem in_head {w : World} {p : Option Addr} {n c : Nat} {xs : List Int} (h : Ints w (.slice p n c) xs) (hn : xs.length ≠ 0) (b o : Nat) (e : p = some ⟨b, o, none⟩) : b < w.heap.size := by
 obtain ⟨p', c', e1, hc⟩ := h
 injection e1 with e2 _ _
 obtain ⟨b', o', e3, h3⟩ := hc 0 _ (List.getElem?_eq_getElem (show 0 < xs.length by omega))
 have h4 := World.block_lt_of_cell? w _ h3
 have e4 : (some ⟨b, o, none⟩ : Option Addr) = some ⟨b', o', none⟩ := e.symm.trans (e2.trans e3)
 injection e4 with e4
 injection e4 with e4 _
 rw [e4]
 exact h4
theorem prs_head {w : World} {p : Option Addr} {n c : Nat} {xs : List (Int × Int)} (h : Prs w (.slice p n c) xs) (hn : xs.length ≠ 0) (b o : Nat) (e : p = some ⟨b, o, none⟩) : b < w.heap.size := by
 obtain ⟨p', c', e1, hc⟩ := h
 injection e1 with e2 _ _
 obtain ⟨b', o', e3, h3, _⟩ := hc 0 _ (List.getElem?_eq_getElem (show 0 < xs.length by omega))
 have h4 := World.block_lt_of_cell? w _ h3
 have e4 : (some ⟨b, o, none⟩ : Option Addr) = some ⟨b', o', none⟩ := e.symm.trans (e2.trans e3)
 injection e4 with e4
 injection e4 with e4 _
 rw [e4]
 exact h4
theorem InL.bk {w : World} {r : Rul} {x : Av} (h : InL w r x) : BkL (fun b => b < w.heap.size) r x :=
 ⟨in_head h.i9, in_head h.i10, in_head h.i11, in_head h.i12, in_head h.i13, prs_head h.i14, in_head h.i15, in_head h.i16, in_head h.i17, in_head h.i18⟩
theorem fits1_calls (r : Rul) (x : Av) (w : World) : Calls Go.Proofs.Tryz.prog 20 #[.agg (rulC r x).toArray] w fun e w' => ∃ b : Bool, (b = true → LenL r) ∧ e = .returned (.bool b) ∧ Below w.heap.size w w' := by
 refine calls_GC (args := [.agg (rulC r x).toArray]) (L := [(0, .agg (rulC r x).toArray)]) (N := 43) Tryz.func20 rfl rfl ble rfl (Sees.start (fun _ => False) w) ?_
 refine g2 ?_
 refine gL (at_box 50 (cs := rulC r x) dE rfl rfl rfl (fun o ho => rfl) ble (fun b1 hb1 => ?_))
 refine g6 ?_
 refine rl (rfa 8) ?_
 refine rl (rld 50 rfl rfl rfl) ?_
 refine g4 ?_
 refine GC_cond rfl (fun hc1 => ?_) (fun hc2 => ?_)
 ·refine g7 ?_
  exact GE_ret1 (.inl rfl) rfl (res_tmp rfl) fun w_ s_ => ⟨_, (by first | (intro h_; cases h_; done) | exact fun _ => ⟨g9_, g10_, g11_, g12_, g13_, g14_, g15_, g16_, g17_, g18_⟩), rfl, s_.toBelow⟩
 ·have g9_ : r.setpos.length ≤ 2147483647 := by have := of_decide_eq_false hc2; omega
  refine g5 ?_
  refine rl (rfa 9) ?_
  refine rl (rld 50 rfl rfl rfl) ?_
  refine g4 ?_
  refine GC_cond rfl (fun hc1 => ?_) (fun hc2 => ?_)
  ·refine g7 ?_
   exact GE_ret1 (.inl rfl) rfl (res_tmp rfl) fun w_ s_ => ⟨_, (by first | (intro h_; cases h_; done) | exact fun _ => ⟨g9_, g10_, g11_, g12_, g13_, g14_, g15_, g16_, g17_, g18_⟩), rfl, s_.toBelow⟩
  ·have g10_ : r.month.length ≤ 2147483647 := by have := of_decide_eq_false hc2; omega
   refine g5 ?_
   refine rl (rfa 10) ?_
   refine rl (rld 50 rfl rfl rfl) ?_
   refine g4 ?_
   refine GC_cond rfl (fun hc1 => ?_) (fun hc2 => ?_)
   ·refine g7 ?_
    exact GE_ret1 (.inl rfl) rfl (res_tmp rfl) fun w_ s_ => ⟨_, (by first | (intro h_; cases h_; done) | exact fun _ => ⟨g9_, g10_, g11_, g12_, g13_, g14_, g15_, g16_, g17_, g18_⟩), rfl, s_.toBelow⟩
   ·have g11_ : r.mday.length ≤ 2147483647 := by have := of_decide_eq_false hc2; omega
    refine g5 ?_
    refine rl (rfa 11) ?_
    refine rl (rld 50 rfl rfl rfl) ?_
    refine g4 ?_
    refine GC_cond rfl (fun hc1 => ?_) (fun hc2 => ?_)
    ·refine g7 ?_
     exact GE_ret1 (.inl rfl) rfl (res_tmp rfl) fun w_ s_ => ⟨_, (by first | (intro h_; cases h_; done) | exact fun _ => ⟨g9_, g10_, g11_, g12_, g13_, g14_, g15_, g16_, g17_, g18_⟩), rfl, s_.toBelow⟩
    ·have g12_ : r.yday.length ≤ 2147483647 := by have := of_decide_eq_false hc2; omega
     refine g5 ?_
     refine rl (rfa 12) ?_
     refine rl (rld 50 rfl rfl rfl) ?_
     refine g4 ?_
     refine GC_cond rfl (fun hc1 => ?_) (fun hc2 => ?_)
     ·refine g7 ?_
      exact GE_ret1 (.inl rfl) rfl (res_tmp rfl) fun w_ s_ => ⟨_, (by first | (intro h_; cases h_; done) | exact fun _ => ⟨g9_, g10_, g11_, g12_, g13_, g14_, g15_, g16_, g17_, g18_⟩), rfl, s_.toBelow⟩
     ·have g13_ : r.weekno.length ≤ 2147483647 := by have := of_decide_eq_false hc2; omega
      refine g5 ?_
      refine rl (rfa 13) ?_
      refine rl (rld 50 rfl rfl rfl) ?_
      refine g4 ?_
      refine GC_cond rfl (fun hc1 => ?_) (fun hc2 => ?_)
      ·refine g7 ?_
       exact GE_ret1 (.inl rfl) rfl (res_tmp rfl) fun w_ s_ => ⟨_, (by first | (intro h_; cases h_; done) | exact fun _ => ⟨g9_, g10_, g11_, g12_, g13_, g14_, g15_, g16_, g17_, g18_⟩), rfl, s_.toBelow⟩
      ·have g14_ : r.wday.length ≤ 2147483647 := by have := of_decide_eq_false hc2; omega
       refine g5 ?_
       refine rl (rfa 14) ?_
       refine rl (rld 50 rfl rfl rfl) ?_
       refine g4 ?_
       refine GC_cond rfl (fun hc1 => ?_) (fun hc2 => ?_)
       ·refine g7 ?_
        exact GE_ret1 (.inl rfl) rfl (res_tmp rfl) fun w_ s_ => ⟨_, (by first | (intro h_; cases h_; done) | exact fun _ => ⟨g9_, g10_, g11_, g12_, g13_, g14_, g15_, g16_, g17_, g18_⟩), rfl, s_.toBelow⟩
       ·have g15_ : r.hour.length ≤ 2147483647 := by have := of_decide_eq_false hc2; omega
        refine g5 ?_
        refine rl (rfa 15) ?_
        refine rl (rld 50 rfl rfl rfl) ?_
        refine g4 ?_
        refine GC_cond rfl (fun hc1 => ?_) (fun hc2 => ?_)
        ·refine g7 ?_
         exact GE_ret1 (.inl rfl) rfl (res_tmp rfl) fun w_ s_ => ⟨_, (by first | (intro h_; cases h_; done) | exact fun _ => ⟨g9_, g10_, g11_, g12_, g13_, g14_, g15_, g16_, g17_, g18_⟩), rfl, s_.toBelow⟩
        ·have g16_ : r.minute.length ≤ 2147483647 := by have := of_decide_eq_false hc2; omega
         refine g5 ?_
         refine rl (rfa 16) ?_
         refine rl (rld 50 rfl rfl rfl) ?_
         refine g4 ?_
         refine GC_cond rfl (fun hc1 => ?_) (fun hc2 => ?_)
         ·refine g7 ?_
          exact GE_ret1 (.inl rfl) rfl (res_tmp rfl) fun w_ s_ => ⟨_, (by first | (intro h_; cases h_; done) | exact fun _ => ⟨g9_, g10_, g11_, g12_, g13_, g14_, g15_, g16_, g17_, g18_⟩), rfl, s_.toBelow⟩
         ·have g17_ : r.second.length ≤ 2147483647 := by have := of_decide_eq_false hc2; omega
          refine g5 ?_
          refine rl (rfa 17) ?_
          refine rl (rld 50 rfl rfl rfl) ?_
          refine g4 ?_
          refine GC_cond rfl (fun hc1 => ?_) (fun hc2 => ?_)
          ·refine g7 ?_
           exact GE_ret1 (.inl rfl) rfl (res_tmp rfl) fun w_ s_ => ⟨_, (by first | (intro h_; cases h_; done) | exact fun _ => ⟨g9_, g10_, g11_, g12_, g13_, g14_, g15_, g16_, g17_, g18_⟩), rfl, s_.toBelow⟩
          ·have g18_ : r.easter.length ≤ 2147483647 := by have := of_decide_eq_false hc2; omega
           refine g8 ?_
           exact GE_ret1 (.inl rfl) rfl (res_tmp rfl) fun w_ s_ => ⟨_, (by first | (intro h_; cases h_; done) | exact fun _ => ⟨g9_, g10_, g11_, g12_, g13_, g14_, g15_, g16_, g17_, g18_⟩), rfl, s_.toBelow⟩
end
end Go.Proofs.YtdbbifbmkfmbkaaGreat
namespace Go.Proofs.YtdbbifbmkfmbkaaGreat
open Go.RowKit Go.Fr Go.Tab
section
variable {F : Nat → Prop} {w0 : World} {B : List (Nat × Nat)} {H : List (Nat × Value)} {S : List (Nat × Slc)}
open Go.Md
def noUntil (r : Rul) : Rul := { r with hasUntil := false, untl := 0 }
def RefP (r : Rul) (dayF : Int → Bool) (most : Int) (l : List Int) : Prop := DatesP (fullR r) dayF (lastF r) most 0 [] l
def DayOk (q : Rul) (dayF : Int → Bool) : Prop := ∀ (x2 : Av) (day : Int), 0 ≤ day ∧ day ≤ 5000000 → ∀ w, InL w q x2 → Calls Go.Proofs.Tryz.prog 62 #[.agg (rulC q x2).toArray, iV day] w fun e w' => e = .returned (.bool (dayF day)) ∧ Below w.heap.size w w'
theorem reach_calls (r : Rul) (x : Av) (dayF : Int → Bool) (most : Int) (rp : RightP r) (hl : LenL r) (hlq : LenL (fullR (noUntil r))) (hm : 0 ≤ most ∧ most ≤ 10000) (hday : DayOk (fullR (noUntil r)) dayF) (w : World) (hin : InL w r x) : Calls Go.Proofs.Tryz.prog 37 #[.agg (rulC r x).toArray, iV most] w fun e w' => ∃ b : Bool, (b = true → ∃ l, RefP (noUntil r) dayF (most + 1) l ∧ ((l.length : Int) = most + 1 ∨ (0 < r.count ∧ (l.length : Int) = r.count))) ∧ e = .returned (.bool b) ∧ Below w.heap.size w w' := by
 have hinu : ∀ {w_ : World}, InL w_ r x → InL w_ (noUntil r) x := fun h => ⟨h.i9, h.i10, h.i11, h.i12, h.i13, h.i14, h.i15, h.i16, h.i17, h.i18⟩
 refine calls_GC (args := [.agg (rulC r x).toArray, iV most]) (L := [(0, .agg (rulC r x).toArray), (1, iV most)]) (N := 36) Tryz.func37 rfl rfl ble rfl (Sees.start (fun _ => False) w) ?_
 refine g2 ?_
 refine gL (at_box 50 (cs := rulC r x) dE rfl rfl rfl (fun o ho => rfl) ble (fun b1 hb1 => ?_))
 refine g5 ?_
 refine rl (rfa 6) ?_
 refine gL (sto 50 rfl rfl rfl rfl ?_)
 refine rl (rfa 7) ?_
 refine gL (sto 50 rfl rfl rfl rfl ?_)
 refine g4 ?_
 refine rl ((rd_loadN 50 (cs := rulC (noUntil r) x) rfl rfl (fun i u h => by have hlt_ : i < 18 := (List.getElem?_eq_some_iff.1 h).1; rcases i with _|_|_|_|_|_|_|_|_|_|_|_|_|_|_|_|_|_|i <;> first | exact h | omega) ble kR)) ?_
 refine g2 ?_
 refine gL (cbx (ι := Bool × List Int × Option Addr × Nat) (fun y => .tuple #[.slice y.2.2.1 y.2.1.length y.2.2.2, .bool y.1]) (fun y => y.1 = true → RefP (noUntil r) dayF (most + 1) y.2.1) rfl (fun w_ s_ => (dates_calls (noUntil r) (fullR (noUntil r)) x dayF (most + 1) 3000 rfl rp.t1.start rp.t1.freq rp.t1.interval rp.t1.wkst ⟨hl.l9, hl.l10, hl.l11, hl.l12, hl.l13, hl.l14, hl.l15, hl.l16, hl.l17, hl.l18⟩ hlq oM dE hday w_ (hinu (InL.see s_ hin)) (InL.bk (hinu (InL.see s_ hin)))).mono fun e w' ⟨b, l, p, c, h1, h2, h3⟩ => ⟨(b, l, p, c), h1, h2, h3.1⟩) (fun | (b_, l, p, c), hy => ?_))
 refine g10 ?_
 rcases Bool.eq_false_or_eq_true (b_) with hb_ | hb_
 ·refine rl ((rd_move rfl).to (v' := .bool true) (congrArg Value.bool hb_)) ?_
  refine g9 ?_
  rcases Decidable.em ((l.length : Int) = most + 1) with h1 | h1
  ·refine rl ((rd_eql rfl rfl).to eT) ?_
   refine g18 ?_
   refine g1 ?_
   exact GE_ret1 (.inl rfl) rfl (res_tmp rfl) fun w_ s_ => ⟨_, (by first | (intro h_; cases h_; done) | exact fun _ => ⟨l, hy hb_, .inl h1⟩), rfl, s_.toBelow⟩
  ·refine rl ((rd_eql rfl rfl).to eF) ?_
   refine g3 ?_
   refine rl (rfa 5) ?_
   refine g1 ?_
   refine rl (rld 50 rfl rfl rfl) ?_
   refine g1 ?_
   rcases Decidable.em (0 < r.count) with h2 | h2
   ·refine rl ((rd_gtr rfl rfl).to bT) ?_
    refine g7 ?_
    refine rl (rfa 5) ?_
    refine g1 ?_
    refine rl (rld 50 rfl rfl rfl) ?_
    refine g1 ?_
    rcases Decidable.em ((l.length : Int) = r.count) with h3 | h3
    ·refine rl ((rd_eql rfl rfl).to eT) ?_
     refine g9 ?_
     exact GE_ret1 (.inl rfl) rfl (res_tmp rfl) fun w_ s_ => ⟨_, (by first | (intro h_; cases h_; done) | exact fun _ => ⟨l, hy hb_, .inr ⟨h2, h3⟩⟩), rfl, s_.toBelow⟩
    ·refine rl ((rd_eql rfl rfl).to eF) ?_
     refine g9 ?_
     exact GE_ret1 (.inl rfl) rfl (res_tmp rfl) fun w_ s_ => ⟨_, (by first | (intro h_; cases h_; done) | exact fun _ => ⟨l, hy hb_, .inr ⟨h2, h3⟩⟩), rfl, s_.toBelow⟩
   ·refine rl ((rd_gtr rfl rfl).to bF) ?_
    refine g16 ?_
    exact GE_ret1 (.inl rfl) rfl (res_tmp rfl) fun w_ s_ => ⟨_, (by first | (intro h_; cases h_; done) | exact fun _ => ⟨l, hy hb_, .inr ⟨h2, h3⟩⟩), rfl, s_.toBelow⟩
 ·refine rl ((rd_move rfl).to (v' := .bool false) (congrArg Value.bool hb_)) ?_
  refine g20 ?_
  refine g2 ?_
  exact GE_ret1 (.inl rfl) rfl (res_tmp rfl) fun w_ s_ => ⟨_, (by first | (intro h_; cases h_; done) | exact fun _ => ⟨l, hy hb_, .inr ⟨h2, h3⟩⟩), rfl, s_.toBelow⟩
end
end Go.Proofs.YtdbbifbmkfmbkaaGreat
namespace Go.Proofs.YtdbbifbmkfmbkaaGreat
open Go.RowKit Go.Fr Go.Tab
section
variable {F : Nat → Prop} {w0 : World} {B : List (Nat × Nat)} {H : List (Nat × Value)} {S : List (Nat × Slc)}
open Go.Md
theorem toRule_calls (r : Rul) (x : Av) (hd : r.wday.length ≤ 1000) (w : World) (hin : InL w r x) : Calls Go.Proofs.Tryz.prog 19 #[.agg (rulC r x).toArray] w fun e w' => ∃ (p : Option Addr) (c : Nat), e = .returned (.agg (rulC r { x with p14 := p, c14 := c }).toArray) ∧ NewRow w w' (.slice p r.wday.length c) 69 2 r.wday.length (pcells r.wday) := by
 have hID : ∀ i y, r.wday[i]? = some y → ∃ b o, x.p14 = some ⟨b, o, none⟩ ∧ w.cell? ⟨b, o + 2 * i, none⟩ = some (iV y.1) ∧ w.cell? ⟨b, o + 2 * i + 1, none⟩ = some (iV y.2) := by
  obtain ⟨p', c', e, hc'⟩ := hin.i14
  injection e with e1 _ _
  rw [e1]; exact hc'
 refine calls_GC (args := [.agg (rulC r x).toArray]) (L := [(0, .agg (rulC r x).toArray)]) (N := 56) Tryz.func19 rfl rfl ble rfl (Sees.start (fun _ => False) w) ?_
 refine g2 ?_
 refine gL (at_box 50 (cs := rulC r x) dE rfl rfl rfl (fun o ho => rfl) ble (fun b1 hb1 => ?_))
 refine gL (alo 51 (cs := [.int .u8 0, .bool false, iV 0, iV 0, iV 0, iV 0, .bool false, iV 0, .slice none 0 0, .slice none 0 0, .slice none 0 0, .slice none 0 0, .slice none 0 0, .slice none 0 0, .slice none 0 0, .slice none 0 0, .slice none 0 0, .slice none 0 0]) kR rfl (fun b2 hb2 => ?_))
 refine g4 ?_
 refine rl (rfa 0) ?_
 refine rl (rld 50 rfl rfl rfl) ?_
 refine rl (rfa 1) ?_
 refine rl (rld 50 rfl rfl rfl) ?_
 refine rl (rfa 2) ?_
 refine rl (rld 50 rfl rfl rfl) ?_
 refine rl (rfa 3) ?_
 refine rl (rld 50 rfl rfl rfl) ?_
 refine rl (rfa 4) ?_
 refine rl (rld 50 rfl rfl rfl) ?_
 refine rl (rfa 5) ?_
 refine rl (rld 50 rfl rfl rfl) ?_
 refine rl (rfa 6) ?_
 refine rl (rld 50 rfl rfl rfl) ?_
 refine rl (rfa 7) ?_
 refine rl (rld 50 rfl rfl rfl) ?_
 refine rl (rfa 8) ?_
 refine rl (rld 50 rfl rfl rfl) ?_
 refine rl (rfa 9) ?_
 refine rl (rld 50 rfl rfl rfl) ?_
 refine rl (rfa 10) ?_
 refine rl (rld 50 rfl rfl rfl) ?_
 refine rl (rfa 11) ?_
 refine rl (rld 50 rfl rfl rfl) ?_
 refine rl (rfa 12) ?_
 refine rl (rld 50 rfl rfl rfl) ?_
 refine rl (rfa 14) ?_
 refine rl (rld 50 rfl rfl rfl) ?_
 refine rl (rfa 15) ?_
 refine rl (rld 50 rfl rfl rfl) ?_
 refine rl (rfa 16) ?_
 refine rl (rld 50 rfl rfl rfl) ?_
 refine rl (rfa 17) ?_
 refine rl (rld 50 rfl rfl rfl) ?_
 refine rl (rd_build (vs := [(0, .int .u8 r.freq), (1, .bool r.hasStart), (2, iV r.start), (3, iV r.interval), (4, iV r.wkst), (5, iV r.count), (6, .bool r.hasUntil), (7, iV r.untl), (8, .slice x.p9 (r.setpos).length x.c9), (9, .slice x.p10 (r.month).length x.c10), (10, .slice x.p11 (r.mday).length x.c11), (11, .slice x.p12 (r.yday).length x.c12), (12, .slice x.p13 (r.weekno).length x.c13), (14, .slice x.p15 (r.hour).length x.c15), (15, .slice x.p16 (r.minute).length x.c16), (16, .slice x.p17 (r.second).length x.c17), (17, .slice x.p18 (r.easter).length x.c18)]) (v := .agg (rulC { r with wday := [] } { x with p14 := none, c14 := 0 }).toArray) rfl (fun w => by kernel_rfl)) ?_
 refine gL (alo 52 (cs := [.int .u8 0, .bool false, iV 0, iV 0, iV 0, iV 0, .bool false, iV 0, .slice none 0 0, .slice none 0 0, .slice none 0 0, .slice none 0 0, .slice none 0 0, .slice none 0 0, .slice none 0 0, .slice none 0 0, .slice none 0 0, .slice none 0 0]) kR rfl (fun b3 hb3 => ?_))
 refine gL (at_storeAgg 52 (cs := (rulC { r with wday := [] } { x with p14 := none, c14 := 0 }).toArray) rfl rfl rfl rfl kR rfl ble ?_)
 refine g5 ?_
 refine rl (rfa 13) ?_
 refine rl (rld 50 rfl rfl rfl) ?_
 refine g5 ?_
 refine GC_loop (ι := (Nat) × (Option Addr) × (Nat) × (Nat) × (List Value)) (fun | ⟨k, p, c, n, xs⟩ => r.wday.length - k) (fun | ⟨k, p, c, n, xs⟩ => (k ≤ r.wday.length) ∧ (n = k) ∧ (xs = pcells (r.wday.take k))) (fun | ⟨k, p, c, n, xs⟩ => [(1, pT b1), (2, pT b2), (3, pT b3), (42, .slice x.p14 r.wday.length x.c14), (43, iV (r.wday.length)), (44, iV k)]) (fun | ⟨k, p, c, n, xs⟩ => [(52, b3), (51, b2), (50, b1)]) (fun | ⟨k, p, c, n, xs⟩ => (ky 52 13, .slice p n c) :: (putSeq 52 0 (rulC { r with wday := [] } { x with p14 := none, c14 := 0 }).toArray.toList (putKeys 52 0 [.int .u8 0, .bool false, iV 0, iV 0, iV 0, iV 0, .bool false, iV 0, .slice none 0 0, .slice none 0 0, .slice none 0 0, .slice none 0 0, .slice none 0 0, .slice none 0 0, .slice none 0 0, .slice none 0 0, .slice none 0 0, .slice none 0 0] ++ (putKeys 51 0 [.int .u8 0, .bool false, iV 0, iV 0, iV 0, iV 0, .bool false, iV 0, .slice none 0 0, .slice none 0 0, .slice none 0 0, .slice none 0 0, .slice none 0 0, .slice none 0 0, .slice none 0 0, .slice none 0 0, .slice none 0 0, .slice none 0 0] ++ (putKeys 50 0 (rulC r x) ++ []))))) (fun | ⟨k, p, c, n, xs⟩ => [(11, ⟨.slice p n c, 69, 2, n, xs⟩)]) ⟨0, none, 0, 0, []⟩ ⟨Nat.zero_le _, rfl, rfl⟩ kns (fun w s => by exact (Sees.nilRow (s.to (fun _ _ h => h) (fun k o v ho h => (by rcases lkp_cons h with ⟨e, rfl⟩ | ⟨_, h⟩; { obtain ⟨rfl, rfl⟩ := ky_inj ho dE e; exact ⟨rfl, rfl⟩ }; exact ⟨h, by obtain ⟨b, e, _⟩ := s.cells k o v ho h; rw [e]; rfl⟩)) (fun _ _ h => h)) 11 69 2)) ?_
 rintro ⟨k, p, c, n, xs⟩ ⟨hk, hn, hx⟩
 show GC _ _ _ _ [(1, pT b1), (2, pT b2), (3, pT b3), (42, .slice x.p14 r.wday.length x.c14), (43, iV (r.wday.length)), (44, iV k)] _ _ ([(52, b3), (51, b2), (50, b1)]) ((ky 52 13, .slice p n c) :: (putSeq 52 0 (rulC { r with wday := [] } { x with p14 := none, c14 := 0 }).toArray.toList (putKeys 52 0 [.int .u8 0, .bool false, iV 0, iV 0, iV 0, iV 0, .bool false, iV 0, .slice none 0 0, .slice none 0 0, .slice none 0 0, .slice none 0 0, .slice none 0 0, .slice none 0 0, .slice none 0 0, .slice none 0 0, .slice none 0 0, .slice none 0 0] ++ (putKeys 51 0 [.int .u8 0, .bool false, iV 0, iV 0, iV 0, iV 0, .bool false, iV 0, .slice none 0 0, .slice none 0 0, .slice none 0 0, .slice none 0 0, .slice none 0 0, .slice none 0 0, .slice none 0 0, .slice none 0 0, .slice none 0 0, .slice none 0 0] ++ (putKeys 50 0 (rulC r x) ++ []))))) ([(11, ⟨.slice p n c, 69, 2, n, xs⟩)])
 refine g6 ?_
 refine GC_cond rfl (fun hc1 => ?_) (fun hc2 => ?_)
 ·have hlt : k < r.wday.length := by have := of_decide_eq_true hc1; omega
  obtain ⟨y, hy⟩ : ∃ y, r.wday[k]? = some y := ⟨_, List.getElem?_eq_getElem hlt⟩
  obtain ⟨b_, o_, hp0, hca, hcb⟩ := hID k y hy
  refine g6 ?_
  refine rl (rd_indexAddr (e := 47) (n := 2) kR (congrArg (fun p => some (Value.slice p _ _)) hp0) rfl oM oM) ?_
  refine rl (rd_load2_old rfl (by rw [← hca]; congr 2; omega) (by rw [← hcb]; congr 2; omega) (fun h => h) kR) ?_
  refine gL (alo 53 (cs := [iV 0, iV 0]) kR rfl (fun b4 hb4 => ?_))
  refine gL (sta 53 rfl rfl rfl rfl ?_)
  refine g3 ?_
  refine rl (rfa 13) ?_
  refine rl (rld 52 rfl rfl rfl) ?_
  refine rl (rd_load2 53 rfl rfl rfl rfl kR dE) ?_
  refine gL (at_one_ 60 (e := 69) (sz := 2) (by_ := 16) (zs := [iV 0, iV 0]) dE kR rfl dE dE rfl rfl rfl (fun bo => ?_))
  refine gL (at_append 11 60 (e := 69) (sz := 2) (by_ := 16) (zs := [iV 0, iV 0]) dE kR rfl dE rfl rfl rfl rfl ⟨rfl, rfl⟩ ⟨rfl, rfl⟩ (fun u hu => by have hu : u ∈ [iV y.1, iV y.2] := hu; rcases List.mem_cons.1 hu with rfl | hu; rfl; rcases List.mem_cons.1 hu with rfl | hu; rfl; cases hu) sO sO (fun p' c' => ?_))
  refine rl (rfa 13) ?_
  refine gL (sto 52 rfl rfl rfl rfl ?_)
  refine g7 ?_
  refine GE_back ⟨k + 1, p', c', n + 1, xs ++ [iV y.1, iV y.2]⟩ sO ⟨by omega, by omega, by rw [hx, List.take_add_one, hy]; simp [pcells]⟩ kns (fun w s => by exact (s.low 53 (⟨fun k hk => by repeat (first | rfl | rw [lkp_cons_ne oM]), fun k hk o ho => by repeat (first | rw [lkp_put_ne oM ho _ _ ble] | rw [lkp_seq_ne oM ho _ _ ble] | rw [lkp_ky_ne oM ho dE] | rfl), fun k hk => by repeat (first | rfl | rw [lkp_cons_ne oM])⟩) agx agx agx))
 ·obtain rfl : k = r.wday.length := by have := of_decide_eq_false hc2; omega
  rw [List.take_length] at hx
  subst hx hn
  refine g7 ?_
  refine rl ((rd_loadN 52 (cs := (rulC r { x with p14 := p, c14 := c })) rfl rfl (fun i u h => by have hlt_ : i < 18 := (List.getElem?_eq_some_iff.1 h).1; rcases i with _|_|_|_|_|_|_|_|_|_|_|_|_|_|_|_|_|_|i <;> first | exact h | omega) ble kR)) ?_
  refine gL (at_storeAgg 51 (cs := (rulC r { x with p14 := p, c14 := c }).toArray) rfl rfl rfl rfl kR rfl ble ?_)
  refine g3 ?_
  exact GE_ret1 (.inl rfl) rfl (res_cellN 51 (cs := (rulC r { x with p14 := p, c14 := c })) rfl rfl (fun i v h => by have := putSeq_get (j := 51) (rulC r { x with p14 := p, c14 := c }) 0 (H := (ky 52 13, .slice p r.wday.length c) :: (putSeq 52 0 (rulC { r with wday := [] } { x with p14 := none, c14 := 0 }).toArray.toList (putKeys 52 0 [.int .u8 0, .bool false, iV 0, iV 0, iV 0, iV 0, .bool false, iV 0, .slice none 0 0, .slice none 0 0, .slice none 0 0, .slice none 0 0, .slice none 0 0, .slice none 0 0, .slice none 0 0, .slice none 0 0, .slice none 0 0, .slice none 0 0] ++ (putKeys 51 0 [.int .u8 0, .bool false, iV 0, iV 0, iV 0, iV 0, .bool false, iV 0, .slice none 0 0, .slice none 0 0, .slice none 0 0, .slice none 0 0, .slice none 0 0, .slice none 0 0, .slice none 0 0, .slice none 0 0, .slice none 0 0, .slice none 0 0] ++ (putKeys 50 0 (rulC r x) ++ []))))) ble i v h; rwa [Nat.zero_add] at this) ble kR) fun w_ s_ => ⟨p, c, rfl, s_.toNew (k := 11) rfl⟩
end
end Go.Proofs.YtdbbifbmkfmbkaaGreat
namespace Go.Proofs.YtdbbifbmkfmbkaaGreat
open Go.RowKit Go.Fr Go.Tab
section
variable {F : Nat → Prop} {w0 : World} {B : List (Nat × Nat)} {H : List (Nat × Value)} {S : List (Nat × Slc)}
open Go.Md
theorem fullR_len {r : Rul} (h : LenL r) : LenL (fullR r) := by
 have h4 : ∀ r, LenL r → LenL (full4 r) := fun r h => by
  unfold full4; split
  ·exact ⟨h.l9, h.l10, h.l11, h.l12, h.l13, h.l14, h.l15, h.l16, by simp, h.l18⟩
  ·exact h
 have h3 : ∀ r, LenL r → LenL (full3 r) := fun r h => by
  unfold full3; split
  ·exact ⟨h.l9, h.l10, h.l11, h.l12, h.l13, h.l14, h.l15, by simp, h.l17, h.l18⟩
  ·exact h
 have h2 : ∀ r, LenL r → LenL (full2 r) := fun r h => by
  unfold full2; split
  ·exact ⟨h.l9, h.l10, h.l11, h.l12, h.l13, h.l14, by simp, h.l16, h.l17, h.l18⟩
  ·exact h
 have h1 : LenL (full1 r) := by
  unfold full1
  split
  ·split
   ·exact ⟨h.l9, by simp only; split; simp; exact h.l10, by simp, h.l12, h.l13, h.l14, h.l15, h.l16, h.l17, h.l18⟩
   ·split
    ·exact ⟨h.l9, h.l10, by simp, h.l12, h.l13, h.l14, h.l15, h.l16, h.l17, h.l18⟩
    ·split
     ·exact ⟨h.l9, h.l10, h.l11, h.l12, h.l13, by simp, h.l15, h.l16, h.l17, h.l18⟩
     ·exact h
  ·exact h
 exact h4 _ (h3 _ (h2 _ h1))
theorem right_two {r : Rul} (rp : RightP r) (hf : 2 ≤ r.freq) : r.yday.length = 0 ∧ r.weekno.length = 0 ∧ r.easter.length = 0 := by
 obtain ⟨h1, h2⟩ := rp.t5.1 oM
 refine ⟨h2, h1, ?_⟩
 rcases Nat.eq_zero_or_pos r.easter.length with h | h
 ·exact h
 ·have := (rp.t4 0 _ (List.getElem?_eq_getElem h)).2.2.1
  omega
theorem dayOk2 {r : Rul} (hf : 2 ≤ r.freq ∧ r.freq ≤ 6) (h0 : r.yday.length = 0 ∧ r.weekno.length = 0 ∧ r.easter.length = 0) (hl : LenL r) : DayOk (fullR r) (dayIn2 (fullR r)) := fun x2 day hd w hin => by
 obtain ⟨e1, e2, e3, e4, e5, e6, e7, e8, e9⟩ := fullR_same r
 exact dayIn2_calls (fullR r) x2 day hd (by rw [e2]; exact hf) (by rw [e7]; exact h0.1) (by rw [e8]; exact h0.2.1) (by rw [e9]; exact h0.2.2) (fullR_len hl) w hin
end
end Go.Proofs.YtdbbifbmkfmbkaaGreat
namespace Go.Proofs.YtdbbifbmkfmbkaaGreat
open Go.Md Go.Tab
theorem out_ok {r : Ru} {s : It} (hk : ItOk r s) (hrem : s.rem = []) : ItOk r (out r s) where
 y := by rw [(out_same r s).y]; exact hk.y
 ly := by rw [(out_same r s).ly, (out_same r s).y]; exact hk.ly
 mo := by rw [(out_same r s).mo]; exact hk.mo
 d := by rw [(out_same r s).d]; exact hk.d
 day := by rw [(out_same r s).d, (out_same r s).mo, (out_same r s).y]; exact hk.day
 wd := by rw [(out_same r s).wd]; exact hk.wd
 hr := by rw [(out_same r s).h]; exact hk.hr
 mn := by rw [(out_same r s).mi]; exact hk.mn
 sec := by rw [(out_same r s).s]; exact hk.sec
 ts := by rw [(out_same r s).ts]; exact hk.ts
 tsn := by rw [(out_same r s).ts]; exact hk.tsn
 total := by
  have h := out_total r s
  have h2 := hk.total
  rw [hrem] at h h2
  simp only [List.length_nil] at h h2
  omega
 count := out_count_bd r s hk.count
 wno := by rw [(out_same r s).wno, (out_same r s).ly]; exact hk.wno
 nwm := by rw [(out_same r s).nwm, (out_same r s).ly, (out_same r s).lm]; exact hk.nwm
 eas := by rw [(out_same r s).eas, (out_same r s).ly]; exact hk.eas
 lm := by rw [(out_same r s).lm, (out_same r s).mo]; exact hk.lm
structure Msk (r : Ru) (s : It) : Prop where
 wno : s.wno = r.wnoF s.ly
 nwm : s.nwm = r.nwmF s.ly s.lm
 eas : s.eas = r.easF s.ly
theorem reb_msk {r : Ru} {s : It} (h : Msk r s) (y m : Int) : Msk r (reb r s y m) where
 wno := by
  unfold reb; simp only
  split
  ·rename_i e; rw [h.wno, e]
  ·rfl
 nwm := by
  unfold reb; simp only
  split
  ·rename_i e; rw [h.nwm, e.1, e.2]
  ·rfl
 eas := rfl
structure Rest (s o : It) : Prop where
 h : o.h = s.h
 mi : o.mi = s.mi
 sec : o.s = s.s
 wd : o.wd = s.wd
 ts : o.ts = s.ts
 total : o.total = s.total
 count : o.count = s.count
 rem : o.rem = s.rem
theorem Rest.refl (s : It) : Rest s s := ⟨rfl, rfl, rfl, rfl, rfl, rfl, rfl, rfl⟩
theorem fixGo_ok {r : Ru} : ∀ (n : Nat) (s : It), 1 ≤ s.d → s.d ≤ n → (1 ≤ s.mo ∧ s.mo ≤ 12) → (1 ≤ s.y ∧ s.y ≤ 9999) → Msk r s → (fixGo r n s).fin = false →
  (1 ≤ (fixGo r n s).d ∧ (fixGo r n s).d ≤ Cal.mdays (fixGo r n s).mo (fixGo r n s).y) ∧ (1 ≤ (fixGo r n s).mo ∧ (fixGo r n s).mo ≤ 12) ∧ (1 ≤ (fixGo r n s).y ∧ (fixGo r n s).y ≤ 9999) ∧ (fixGo r n s).ly = (fixGo r n s).y ∧ (fixGo r n s).lm = (fixGo r n s).mo ∧ Msk r (fixGo r n s) ∧ Rest s (fixGo r n s)
 | 0, s, h1, h2, _, _, _, _ => by omega
 | n + 1, s, h1, h2, hm, hy, hk, hf => by
  have hmd := Cal.mdays_bd s.mo s.y
  unfold fixGo at hf ⊢
  by_cases hd : s.d ≤ Cal.mdays s.mo s.y
  ·rw [if_pos hd] at hf ⊢
   exact ⟨⟨h1, hd⟩, hm, hy, rfl, rfl, reb_msk hk _ _, ⟨rfl, rfl, rfl, rfl, rfl, rfl, rfl, rfl⟩⟩
  ·rw [if_neg hd] at hf ⊢
   by_cases h13 : s.mo + 1 = 13
   ·rw [if_pos h13] at hf ⊢
    by_cases hb : 9999 < s.y + 1
    ·rw [if_pos hb] at hf; cases hf
    ·rw [if_neg hb] at hf ⊢
     obtain ⟨a1, a2, a3, a4, a5, a6, a7⟩ := fixGo_ok (r := r) n { s with d := s.d - Cal.mdays s.mo s.y, mo := 1, y := s.y + 1 } sO sO sO sO ⟨hk.wno, hk.nwm, hk.eas⟩ hf
     exact ⟨a1, a2, a3, a4, a5, a6, ⟨a7.h, a7.mi, a7.sec, a7.wd, a7.ts, a7.total, a7.count, a7.rem⟩⟩
   ·rw [if_neg h13] at hf ⊢
    obtain ⟨a1, a2, a3, a4, a5, a6, a7⟩ := fixGo_ok (r := r) n { s with d := s.d - Cal.mdays s.mo s.y, mo := s.mo + 1 } sO sO sO hy ⟨hk.wno, hk.nwm, hk.eas⟩ hf
    exact ⟨a1, a2, a3, a4, a5, a6, ⟨a7.h, a7.mi, a7.sec, a7.wd, a7.ts, a7.total, a7.count, a7.rem⟩⟩
theorem fix_ok {r : Ru} {s : It} (h1 : 1 ≤ s.d) (hm : 1 ≤ s.mo ∧ s.mo ≤ 12) (hy : 1 ≤ s.y ∧ s.y ≤ 9999) (hly : s.ly = s.y) (hk : Msk r s) (hf : (fix r s).fin = false) :
  (1 ≤ (fix r s).d ∧ (fix r s).d ≤ Cal.mdays (fix r s).mo (fix r s).y) ∧ (1 ≤ (fix r s).mo ∧ (fix r s).mo ≤ 12) ∧ (1 ≤ (fix r s).y ∧ (fix r s).y ≤ 9999) ∧ (fix r s).ly = (fix r s).y ∧ Msk r (fix r s) ∧ Rest s (fix r s) := by
 have hmd := Cal.mdays_bd s.mo s.y
 unfold fix at hf ⊢
 split at hf
 ·rename_i h
  rw [if_pos h]
  exact ⟨⟨h1, by omega⟩, hm, hy, hly, hk, Rest.refl s⟩
 ·rename_i h
  rw [if_neg h]
  obtain ⟨a1, a2, a3, a4, a5, a6, a7⟩ := fixGo_ok (r := r) s.d.toNat s h1 oM hm hy hk hf
  exact ⟨a1, a2, a3, a4, a6, a7⟩
theorem pres_plain {r : Ru} (hr : RuOk r) (hfq : r.freq = 0 ∨ r.freq = 2 ∨ r.freq = 3) : Pres r := by
 intro s hk hrem hfin hf
 have ho := out_ok hk hrem
 have hof : (out r s).fin = false := by
  cases h : (out r s).fin with
  | false => rfl
  | true => rw [round_out h, h] at hf; cases hf
 rw [round_adv hof] at hf ⊢
 have hiv := hr.interval
 have hwk := hr.wkst
 have hmk : Msk r (out r s) := ⟨ho.wno, ho.nwm, ho.eas⟩
 have hy := ho.y
 have hd := ho.d
 have hwd := ho.wd
 have fixed : ∀ s2 : It, (1 ≤ s2.d) → s2.mo = (out r s).mo → s2.y = (out r s).y → s2.ly = (out r s).ly → s2.lm = (out r s).lm → s2.wno = (out r s).wno → s2.nwm = (out r s).nwm → s2.eas = (out r s).eas → (0 ≤ s2.wd ∧ s2.wd ≤ 6) → s2.h = (out r s).h → s2.mi = (out r s).mi → s2.s = (out r s).s → s2.ts = (out r s).ts → s2.total = (out r s).total → s2.count = (out r s).count → s2.rem = (out r s).rem → r.freq ≠ 1 → (fix r s2).fin = false → ItOk r (fix r s2) := by
  intro s2 h1 e1 e2 e3 e4 e5 e6 e7 e8 e9 e10 e11 e12 e13 e14 e15 e16 hf2
  obtain ⟨a1, a2, a3, a4, a5, a6⟩ := fix_ok (r := r) (s := s2) h1 (by rw [e1]; exact ho.mo) (by rw [e2]; exact ho.y) (by rw [e3, e2]; exact ho.ly) ⟨by rw [e5, e3]; exact ho.wno, by rw [e6, e3, e4]; exact ho.nwm, by rw [e7, e3]; exact ho.eas⟩ hf2
  have hmd := Cal.mdays_bd (fix r s2).mo (fix r s2).y
  exact ⟨a3, a4, a2, ⟨a1.1, by omega⟩, fun _ => a1.2, by rw [a6.wd]; exact e8, by rw [a6.h, e9]; exact ho.hr, by rw [a6.mi, e10]; exact ho.mn, by rw [a6.sec, e11]; exact ho.sec, by rw [a6.ts, e12]; exact ho.ts, by rw [a6.ts, e12]; exact ho.tsn, by rw [a6.total, a6.rem, e13, e15]; exact ho.total, by rw [a6.count, e14]; exact ho.count, a5.wno, a5.nwm, a5.eas, fun h => absurd h e16⟩
 unfold adv at hf ⊢
 rcases hfq with hq | hq | hq
 ·rw [if_pos hq] at hf ⊢
  by_cases hb : 9999 < (out r s).y + r.interval
  ·rw [if_pos hb] at hf; cases hf
  ·rw [if_neg hb] at hf ⊢
   have hm := reb_msk (s := { out r s with y := (out r s).y + r.interval }) ⟨hmk.wno, hmk.nwm, hmk.eas⟩ ((out r s).y + r.interval) (out r s).mo
   exact ⟨by show 1 ≤ (out r s).y + r.interval ∧ (out r s).y + r.interval ≤ 9999; omega, rfl, ho.mo, ho.d, fun h => by omega, ho.wd, ho.hr, ho.mn, ho.sec, ho.ts, ho.tsn, ho.total, ho.count, hm.wno, hm.nwm, hm.eas, fun h => by omega⟩
 ·rw [if_neg oM, if_neg oM, if_pos hq] at hf ⊢
  refine fixed _ ?_ rfl rfl rfl rfl rfl rfl rfl hwk rfl rfl rfl rfl rfl rfl rfl oM hf
  simp only
  split <;> omega
 ·rw [if_neg oM, if_neg oM, if_neg oM, if_pos hq] at hf ⊢
  exact fixed _ sO rfl rfl rfl rfl rfl rfl rfl ho.wd rfl rfl rfl rfl rfl rfl rfl oM hf
theorem Gen.mono {r : Ru} {n : Nat} {s e : It} (h : Gen r n s e) : ∀ {m : Nat}, n ≤ m → Gen r m s e := by
 induction h with
 | done h => intro m _; exact .done h
 | fin h hf =>
  intro m hm
  obtain ⟨j, rfl⟩ : ∃ j, m = j + 1 := ⟨m - 1, by omega⟩
  exact .fin h hf
 | more h hf _ ih =>
  intro m hm
  obtain ⟨j, rfl⟩ : ∃ j, m = j + 1 := ⟨m - 1, by omega⟩
  exact .more h hf (ih oM)
theorem GenTo.mono {r : Ru} {n m : Nat} {s e : It} (h : GenTo r n s e) (hm : n ≤ m) : GenTo r m s e := by
 rcases h with h | ⟨h1, h2, h3⟩
 ·exact .inl h
 ·exact .inr ⟨h1, Gen.mono h2 hm, h3⟩
end Go.Proofs.YtdbbifbmkfmbkaaGreat
namespace Go.Proofs.YtdbbifbmkfmbkaaGreat
open Go.Md Go.Tab Go.Fr
def cr (c : Int) (o : List Int) (s : It) : Prop := (c = 0 → s.count = 0) ∧ (0 < c → s.count = c - o.length ∧ (o.length : Int) < c)
theorem emits_cons (r : Ru) (s : It) (t : Int) (l : List Int) : emits r s (t :: l) = emits r (emit r s t) l := rfl
theorem emit_cr {r : Ru} {c : Int} {o : List Int} {s : It} {t : Int} (hc : 0 ≤ c) (h : cr c (o ++ s.rem) s) (hf : (emit r s t).fin = false) : cr c (o ++ (emit r s t).rem) (emit r s t) := by
 by_cases h1 : s.fin = true
 ·rw [emit_fin h1]; exact h
 have h1 : s.fin = false := by simpa using h1
 by_cases h2 : r.u0 < t
 ·rw [emit_until h1 h2] at hf ⊢; cases hf
 by_cases h3 : t < r.d0
 ·rw [emit_early h1 h2 h3]; exact h
 by_cases h4 : s.count = 0
 ·rw [emit_free h1 h2 h3 h4]
  refine ⟨fun _ => h4, fun h0 => ?_⟩
  obtain ⟨a, b⟩ := h.2 h0
  omega
 ·rw [emit_count h1 h2 h3 h4] at hf ⊢
  refine ⟨fun h0 => absurd (h.1 h0) h4, fun h0 => ?_⟩
  obtain ⟨a, b⟩ := h.2 h0
  have : s.count - 1 ≠ 0 := by simpa using hf
  simp only [List.length_append, List.length_singleton] at a b ⊢
  omega
theorem emits_cr {r : Ru} {c : Int} {o : List Int} (hc : 0 ≤ c) : ∀ (l : List Int) (s : It), cr c (o ++ s.rem) s → (emits r s l).fin = false → cr c (o ++ (emits r s l).rem) (emits r s l)
 | [], s, h, _ => h
 | t :: l, s, h, hf => by
  rw [emits_cons] at hf ⊢
  refine emits_cr hc l _ (emit_cr hc h ?_) hf
  cases he : (emit r s t).fin with
  | false => rfl
  | true => rw [emits_fin he, he] at hf; cases hf
theorem emit_pre (r : Ru) (s : It) (t : Int) : ∃ x, (emit r s t).rem = s.rem ++ x ∧ x.length ≤ 1 := by
 unfold emit
 split
 ·exact ⟨[], by simp, by simp⟩
 ·split
  ·exact ⟨[], by simp, by simp⟩
  ·split
   ·exact ⟨[], by simp, by simp⟩
   ·split <;> exact ⟨[t], rfl, by simp⟩
theorem emits_pre (r : Ru) : ∀ (l : List Int) (s : It), ∃ x, (emits r s l).rem = s.rem ++ x ∧ x.length ≤ l.length
 | [], s => ⟨[], by simp [emits], by simp⟩
 | t :: l, s => by
  obtain ⟨x, h1, h3⟩ := emit_pre r s t
  obtain ⟨y, h2, h4⟩ := emits_pre r l (emit r s t)
  exact ⟨x ++ y, by rw [emits_cons, h2, h1, List.append_assoc], by simp only [List.length_append, List.length_cons]; omega⟩
theorem addGo_cons {c st en most t : Int} {o l : List Int} : addGo c st en most o (t :: l) = if t < st then addGo c st en most o l else if (o.length : Int) = most ∨ (0 < c ∧ (o.length : Int) = c) ∨ en < t then (o, false) else addGo c st en most (o ++ [t]) l := by rw [addGo]
theorem addGo_full {c st en most : Int} : ∀ (l o : List Int), 0 < c → (o.length : Int) = c → (addGo c st en most o l).1 = o
 | [], o, _, _ => rfl
 | t :: l, o, h0, h => by
  rw [addGo_cons]
  split
  ·exact addGo_full l o h0 h
  ·rw [if_pos (.inr (.inl ⟨h0, h⟩))]
theorem round_add {r : Ru} {c most : Int} (hc : 0 ≤ c) (hd : r.d0 ≤ r.u0) (o : List Int) : ∀ (l : List Int) (s : It), s.fin = false → ((o ++ s.rem).length : Int) ≤ most → cr c (o ++ s.rem) s →
  (addGo c r.d0 r.u0 most (o ++ s.rem) l).1 = (o ++ (emits r s l).rem).take most.toNat ∧
  ((addGo c r.d0 r.u0 most (o ++ s.rem) l).2 = true → (addGo c r.d0 r.u0 most (o ++ s.rem) l).1 = o ++ (emits r s l).rem ∧ ((emits r s l).fin = true → 0 < c ∧ ((o ++ (emits r s l).rem).length : Int) = c)) ∧
  ((addGo c r.d0 r.u0 most (o ++ s.rem) l).2 = false → ((addGo c r.d0 r.u0 most (o ++ s.rem) l).1.length : Int) = most ∨ ((emits r s l).fin = true ∧ (addGo c r.d0 r.u0 most (o ++ s.rem) l).1 = o ++ (emits r s l).rem))
 | [], s, hf, hm, _ => by
  refine ⟨?_, fun _ => ⟨rfl, fun h => ?_⟩, fun h => (by cases h)⟩
  ·show o ++ s.rem = (o ++ s.rem).take most.toNat
   rw [List.take_of_length_le oM]
  ·rw [show (emits r s []).fin = s.fin from rfl, hf] at h; cases h
 | t :: l, s, hf, hm, hr => by
  by_cases h3 : t < r.d0
  ·have e : emit r s t = s := emit_early hf oM h3
   rw [emits_cons, e, show addGo c r.d0 r.u0 most (o ++ s.rem) (t :: l) = addGo c r.d0 r.u0 most (o ++ s.rem) l by rw [addGo_cons, if_pos h3]]
   exact round_add hc hd o l s hf hm hr
  ·have ea : addGo c r.d0 r.u0 most (o ++ s.rem) (t :: l) = if ((o ++ s.rem).length : Int) = most ∨ (0 < c ∧ ((o ++ s.rem).length : Int) = c) ∨ r.u0 < t then (o ++ s.rem, false) else addGo c r.d0 r.u0 most (o ++ s.rem ++ [t]) l := by rw [addGo_cons, if_neg h3]
   by_cases h5 : ((o ++ s.rem).length : Int) = most
   ·rw [ea, if_pos (.inl h5)]
    obtain ⟨x, hx, _⟩ := emits_pre r (t :: l) s
    refine ⟨?_, fun h => (by cases h), fun _ => .inl h5⟩
    rw [hx, ← List.append_assoc, List.take_append_of_le_length oM, List.take_of_length_le oM]
   ·by_cases h2 : r.u0 < t
    ·rw [ea, if_pos (.inr (.inr h2)), emits_cons, emit_until hf h2, emits_fin rfl]
     refine ⟨?_, fun h => (by cases h), fun _ => .inr ⟨rfl, rfl⟩⟩
     rw [List.take_of_length_le sO]
    ·have h6 : ¬ (0 < c ∧ ((o ++ s.rem).length : Int) = c) := fun h => by have := (hr.2 h.1).2; omega
     rw [ea, if_neg (by rintro (h | h | h); exact h5 h; exact h6 h; exact h2 h), emits_cons]
     have hrem : (emit r s t).rem = s.rem ++ [t] := by
      by_cases h4 : s.count = 0
      ·rw [emit_free hf h2 h3 h4]
      ·rw [emit_count hf h2 h3 h4]
     have hl : ((o ++ (emit r s t).rem).length : Int) ≤ most := by rw [hrem, ← List.append_assoc]; simp only [List.length_append, List.length_singleton] at *; omega
     rw [List.append_assoc, ← hrem]
     by_cases hf2 : (emit r s t).fin = false
     ·exact round_add hc hd o l _ hf2 hl (emit_cr hc hr hf2)
     ·have hf2 : (emit r s t).fin = true := by simpa using hf2
      rw [emits_fin hf2]
      have h4 : s.count ≠ 0 := fun h4 => by rw [emit_free hf h2 h3 h4] at hf2; exact absurd hf2 (by rw [hf]; decide)
      have hk : s.count - 1 = 0 := by rw [emit_count hf h2 h3 h4] at hf2; simpa using hf2
      have hc0 : 0 < c := by
       rcases Int.lt_or_eq_of_le hc with h | h
       ·exact h
       ·exact absurd (hr.1 h.symm) h4
      have hlc : ((o ++ (emit r s t).rem).length : Int) = c := by rw [hrem]; have := hr.2 hc0; simp only [List.length_append, List.length_singleton] at *; omega
      have e1 := addGo_full (st := r.d0) (en := r.u0) (most := most) l (o ++ (emit r s t).rem) hc0 hlc
      rw [e1, List.take_of_length_le oM]
      exact ⟨rfl, fun _ => ⟨rfl, fun _ => ⟨hc0, hlc⟩⟩, fun _ => .inr ⟨hf2, rfl⟩⟩
theorem emits_none {r : Ru} (hd : r.u0 < r.d0) : ∀ (l : List Int) (s : It), (emits r s l).rem = s.rem
 | [], s => rfl
 | t :: l, s => by
  rw [emits_cons, emits_none hd l]
  unfold emit
  split
  ·rfl
  ·split
   ·rfl
   ·rw [if_pos oM]
theorem addGo_none {c st en most : Int} (hd : en < st) : ∀ (l o : List Int), (addGo c st en most o l).1 = o
 | [], o => rfl
 | t :: l, o => by
  rw [addGo_cons]
  split
  ·exact addGo_none hd l o
  ·rw [if_pos (.inr (.inr oM))]
theorem emits_late {r : Ru} {c most : Int} (hd : r.u0 < r.d0) : ∀ (l : List Int) (s : It) (o : List Int), (o.length : Int) < most → (0 < c → (o.length : Int) < c) → (addGo c r.d0 r.u0 most o l).2 = false → (emits r s l).fin = true
 | [], s, o, _, _, h => by cases h
 | t :: l, s, o, hm, hc, h => by
  rw [emits_cons]
  cases hf : (emit r s t).fin with
  | true => rw [emits_fin hf]; exact hf
  | false =>
   rw [addGo_cons] at h
   split at h
   ·exact emits_late hd l _ o hm hc h
   ·exfalso
    have h1 : s.fin = false := by
     cases h1 : s.fin with
     | false => rfl
     | true => rw [emit_fin h1, h1] at hf; cases hf
    rw [emit_until h1 oM] at hf; cases hf
theorem round_res {r : Ru} {q : Rul} {most : Int} {o L1 L2 l : List Int} {s : It} (hc : 0 ≤ q.count) (hst : r.d0 = q.start) (hl : posF l q.setpos = L1 ++ L2) (h1 : ∀ t ∈ L1, t < r.d0) (hf : s.fin = false) (hrem : s.rem = []) (hm : (o.length : Int) < most) (hr : cr q.count o s) :
  ((addF q q.start r.u0 most o l).2 = true → (addF q q.start r.u0 most o l).1 = o ++ (emits r s L2).rem ∧ ((o ++ (emits r s L2).rem).length : Int) < most ∧ ((emits r s L2).fin = true → r.u0 < r.d0)) ∧
  ((addF q q.start r.u0 most o l).2 = false → (addF q q.start r.u0 most o l).1 = (o ++ (emits r s L2).rem).take most.toNat ∧ (((o ++ (emits r s L2).rem).take most.toNat).length = most ∨ (emits r s L2).fin = true)) ∧
  ((emits r s L2).fin = false → cr q.count (o ++ (emits r s L2).rem) (emits r s L2)) := by
 have hgo : ∀ (L1 : List Int), (∀ t ∈ L1, t < r.d0) → addGo q.count r.d0 r.u0 most o (L1 ++ L2) = addGo q.count r.d0 r.u0 most o L2 := by
  intro L1
  induction L1 with
  | nil => intro _; rfl
  | cons t L1 ih =>
   intro h
   show addGo _ _ _ _ _ (t :: (L1 ++ L2)) = _
   rw [addGo_cons, if_pos (h t (List.mem_cons_self ..))]
   exact ih fun u hu => h u (List.mem_cons_of_mem _ hu)
 have he : o ++ s.rem = o := by rw [hrem, List.append_nil]
 refine ⟨fun h => ?_, fun h => ?_, fun h => emits_cr hc L2 s (by rw [he]; exact hr) h⟩
 all_goals
  unfold addF at h ⊢
  rw [hl, ← hst, hgo L1 h1] at h ⊢
  simp only at h ⊢
 ·rw [Bool.and_eq_true] at h
  obtain ⟨h2, h3⟩ := h
  unfold addOk at h3
  rw [Bool.and_eq_true] at h3
  have h4 := of_decide_eq_true h3.1
  rcases Int.lt_or_le r.u0 r.d0 with hd | hd
  ·rw [addGo_none hd] at h4 ⊢
   rw [emits_none hd, he]
   exact ⟨rfl, h4, fun _ => hd⟩
  ·obtain ⟨a1, a2, a3⟩ := round_add (most := most) hc hd o L2 s hf (by rw [he]; omega) (by rw [he]; exact hr)
   rw [he] at a1 a2 a3
   obtain ⟨b1, b2⟩ := a2 h2
   rw [b1] at h4 h3 ⊢
   refine ⟨rfl, h4, fun h5 => ?_⟩
   obtain ⟨c1, c2⟩ := b2 h5
   have := h3.2
   rw [c2] at this
   simp at this; omega
 ·rcases Int.lt_or_le r.u0 r.d0 with hd | hd
  ·rw [addGo_none hd, emits_none hd, he, List.take_of_length_le oM]
   refine ⟨rfl, .inr ?_⟩
   have hcl : 0 < q.count → (o.length : Int) < q.count := fun h0 => (hr.2 h0).2
   refine emits_late hd L2 s o hm hcl ?_
   rw [addGo_none hd] at h
   cases h2 : (addGo q.count r.d0 r.u0 most o L2).2 with
   | false => rfl
   | true =>
    exfalso
    rw [h2] at h
    unfold addOk at h
    rw [decide_eq_true hm] at h
    simp at h
    have := hcl oM
    omega
  ·obtain ⟨a1, a2, a3⟩ := round_add (most := most) hc hd o L2 s hf (by rw [he]; omega) (by rw [he]; exact hr)
   rw [he] at a1 a2 a3
   have hlen := addGo_len q.count r.d0 r.u0 most L2 o oM
   refine ⟨a1, ?_⟩
   rw [← a1]
   cases h2 : (addGo q.count r.d0 r.u0 most o L2).2 with
   | false =>
    rcases a3 h2 with h5 | h5
    ·exact .inl h5
    ·exact .inr h5.1
   | true =>
    obtain ⟨b1, b2⟩ := a2 h2
    rw [h2] at h
    unfold addOk at h
    simp only [Bool.true_and, Bool.and_eq_false_iff, decide_eq_false_iff_not, Bool.or_eq_false_iff, beq_eq_false_iff_ne] at h
    rcases h with h | ⟨h5, h6⟩
    ·exact .inl oM
    ·refine .inr ?_
     cases hf2 : (emits r s L2).fin with
     | true => rfl
     | false =>
      have := (emits_cr hc L2 s (by rw [he]; exact hr) hf2).2 oM
      rw [b1] at h6; omega
theorem tells_mono {r : Ru} {N : Nat} {s : It} {k : Nat} {l : List Int} (h : Tells r N s k l) {M : Nat} (hm : N ≤ M) : Tells r M s k l := by
 induction h with
 | zero => exact .zero
 | stop h hr => exact .stop (GenTo.mono h hm) hr
 | more h hr _ ih => exact .more (GenTo.mono h hm) hr ih
theorem itOk_rem {r : Ru} {s : It} (h : ItOk r s) (ht : s.total ≤ 1000000000000) (p : List Int) : ItOk r { s with rem := p } := ⟨h.y, h.ly, h.mo, h.d, h.day, h.wd, h.hr, h.mn, h.sec, h.ts, h.tsn, ⟨h.total.1, by simp only; omega⟩, h.count, h.wno, h.nwm, h.eas, h.lm⟩
theorem it_rem {s : It} {p : List Int} (h : s.rem = p) : s = { s with rem := p } := by subst h; rfl
theorem tells_fin {r : Ru} {N : Nat} {s : It} (h : s.fin = true) (hr : s.rem = []) : ∀ k, Tells r N s k []
 | 0 => .zero
 | k + 1 => .stop (.inl ⟨h, rfl⟩) hr
theorem tells_pop {r : Ru} {N : Nat} {k : Nat} {l : List Int} : ∀ (P : List Int) (s : It), s.rem = P → (s.fin = true ∨ ∀ p, ItOk r { s with rem := p }) → Tells r N { s with rem := [] } k l → Tells r N s (P.length + k) (P ++ l)
 | [], s, hp, _, h => by rw [it_rem hp, List.length_nil, Nat.zero_add]; exact h
 | t :: P, s, hp, hok, h => by
  rw [List.length_cons, Nat.add_right_comm]
  refine .more (e := s) ?_ (by rw [hp]; rfl) (tells_pop P { s with rem := s.rem.tail } (by rw [hp]; rfl) hok h)
  cases hf : s.fin with
  | true => exact .inl ⟨hf, rfl⟩
  | false =>
   rcases hok with hok | hok
   ·rw [hf] at hok; cases hok
   ·exact .inr ⟨hf, .done (by rw [hp]; exact List.cons_ne_nil _ _), by have := hok s.rem; rwa [← it_rem rfl] at this⟩
theorem tells_take {r : Ru} {N : Nat} : ∀ (P : List Int) (s : It) (k : Nat), s.rem = P → (s.fin = true ∨ ((∀ p, ItOk r { s with rem := p }) ∧ k ≤ P.length)) → Tells r N s k (P.take k)
 | P, s, 0, _, _ => by rw [List.take_zero]; exact .zero
 | [], s, k + 1, hp, hok => by
  rcases hok with h | ⟨_, h⟩
  ·exact tells_fin h hp _
  ·simp at h
 | t :: P, s, k + 1, hp, hok => by
  rw [List.take_succ_cons]
  refine .more (e := s) ?_ (by rw [hp]; rfl) (tells_take P { s with rem := s.rem.tail } k (by rw [hp]; rfl) (hok.imp id fun h => ⟨h.1, by have := h.2; simp only [List.length_cons] at this; omega⟩))
  cases hf : s.fin with
  | true => exact .inl ⟨hf, rfl⟩
  | false =>
   rcases hok with hok | ⟨hok, _⟩
   ·rw [hf] at hok; cases hok
   ·exact .inr ⟨hf, .done (by rw [hp]; exact List.cons_ne_nil _ _), by have := hok s.rem; rwa [← it_rem rfl] at this⟩
theorem gen_round {r : Ru} {N : Nat} {s e : It} (hi : ItOk r s) (hf : s.fin = false) (hr : s.rem = []) (h : GenTo r N (round r s) e) : GenTo r (N + 1) s e := by
 refine .inr ⟨hf, ?_, hi⟩
 rcases h with ⟨h, rfl⟩ | ⟨h, hg, _⟩
 ·exact .fin hr h
 ·exact .more hr h hg
theorem tells_round {r : Ru} {N : Nat} {s : It} {k : Nat} {l : List Int} (hi : ItOk r s) (hf : s.fin = false) (hr : s.rem = []) (h : Tells r N (round r s) k l) : Tells r (N + 1) s k l := by
 cases h with
 | zero => exact .zero
 | stop h hr2 => exact .stop (gen_round hi hf hr h) hr2
 | more h hr2 ht => exact .more (gen_round hi hf hr h) hr2 (tells_mono ht (Nat.le_succ N))
structure Fits (r : Ru) (q : Rul) (dayF : Int → Bool) (R : Int → It → Prop) : Prop where
 over : ∀ k, 0 ≤ k → pOver q k → pOver q (k + 1)
 same : ∀ k s s', R k s → Same s s' → R k s'
 pos : ∀ k s, 0 ≤ k → R k s → ItOk r s → ¬pOver q k → ∃ L1 L2, posF (pDays q dayF k) q.setpos = L1 ++ L2 ∧ (∀ t ∈ L1, t < r.d0) ∧ out r s = emits r s L2
 adv : ∀ k s, 0 ≤ k → R k s → ItOk r s → ¬pOver q k → s.fin = false → ∃ k', k < k' ∧ (∀ j, k < j → j < k' → pDays q dayF j = []) ∧ ((adv r (filtered r s) s).fin = false → R k' (adv r (filtered r s) s) ∧ ¬pOver q k') ∧ ((adv r (filtered r s) s).fin = true → pOver q k')
theorem Fits.overs {r : Ru} {q : Rul} {dayF : Int → Bool} {R : Int → It → Prop} (h : Fits r q dayF R) {k : Int} (hk : 0 ≤ k) (ho : pOver q k) : ∀ n : Nat, pOver q (k + n)
 | 0 => by simpa using ho
 | n + 1 => by have := h.over _ oM (h.overs hk ho n); rwa [show k + ((n + 1 : Nat) : Int) = k + n + 1 by omega]
theorem adv_keep (r : Ru) (b : Bool) (s : It) : (adv r b s).rem = s.rem ∧ (adv r b s).total = s.total ∧ (adv r b s).count = s.count := by
 have hg : ∀ (n : Nat) (s : It), (fixGo r n s).rem = s.rem ∧ (fixGo r n s).total = s.total ∧ (fixGo r n s).count = s.count := by
  intro n
  induction n with
  | zero => intro s; exact ⟨rfl, rfl, rfl⟩
  | succ n ih =>
   intro s
   unfold fixGo
   split
   ·exact ⟨rfl, rfl, rfl⟩
   ·split
    ·split
     ·exact ⟨rfl, rfl, rfl⟩
     ·exact ih _
    ·exact ih _
 have hx : ∀ s : It, (fix r s).rem = s.rem ∧ (fix r s).total = s.total ∧ (fix r s).count = s.count := by
  intro s
  unfold fix
  split
  ·exact ⟨rfl, rfl, rfl⟩
  ·exact hg _ s
 have hs : ∀ t, (setSlot r.freq s t).rem = s.rem ∧ (setSlot r.freq s t).total = s.total ∧ (setSlot r.freq s t).count = s.count := fun t => by
  unfold setSlot
  split
  ·exact ⟨rfl, rfl, rfl⟩
  ·split <;> exact ⟨rfl, rfl, rfl⟩
 unfold adv
 split
 ·split <;> exact ⟨rfl, rfl, rfl⟩
 ·split
  ·have key : ∀ y mo : Int, (if 9999 < y then { s with y := y, mo := mo, fin := true } else reb r { s with y := y, mo := mo } y mo).rem = s.rem ∧ (if 9999 < y then { s with y := y, mo := mo, fin := true } else reb r { s with y := y, mo := mo } y mo).total = s.total ∧ (if 9999 < y then { s with y := y, mo := mo, fin := true } else reb r { s with y := y, mo := mo } y mo).count = s.count := fun y mo => by split <;> exact ⟨rfl, rfl, rfl⟩
   exact key _ _
  ·split
   ·exact hx _
   ·split
    ·exact hx _
    ·unfold advT
     exact ⟨(hx _).1.trans (hs _).1, (hx _).2.1.trans (hs _).2.1, (hx _).2.2.trans (hs _).2.2⟩
theorem filtered_same {r : Ru} {s o : It} (h : Same s o) : filtered r o = filtered r s := by
 have hs : span r o = span r s := by unfold span; rw [h.ly, h.mo, h.y, h.d]
 unfold filtered
 rw [hs]
 congr 1
 funext k
 exact h.bad _
theorem addF_nil {q : Rul} {st en most : Int} {o : List Int} (h1 : (o.length : Int) < most) (h2 : 0 < q.count → (o.length : Int) < q.count) (hc : 0 ≤ q.count) : addF q st en most o [] = (o, true) := by
 have e : posF [] q.setpos = [] := by unfold posF; split <;> rfl
 unfold addF
 rw [e]
 show (o, true && addOk q.count most o.length) = _
 unfold addOk
 rw [decide_eq_true h1]
 rcases Int.lt_or_eq_of_le hc with h | h
 ·rw [decide_eq_true (h2 h)]; simp
 ·rw [← h]; rfl
theorem dates_over {q : Rul} {dayF : Int → Bool} {en most : Int} (hc : 0 ≤ q.count) {k : Int} {o l : List Int} (h : DatesP q dayF en most k o l) : ∀ k', k ≤ k' → (∀ j, k ≤ j → j < k' → pDays q dayF j = []) → pOver q k' → (o.length : Int) < most → (0 < q.count → (o.length : Int) < q.count) → l = o := by
 induction h with
 | over _ => intros; rfl
 | @stop k o h hs =>
  intro k' hk he ho h1 h2
  by_cases e : k = k'
  ·subst e; exact absurd ho h
  ·rw [he k oM oM, addF_nil h1 h2 hc] at hs; cases hs
 | @more k o l h hs hn ih =>
  intro k' hk he ho h1 h2
  by_cases e : k = k'
  ·subst e; exact absurd ho h
  ·rw [he k oM oM, addF_nil h1 h2 hc] at ih
   exact ih k' oM (fun j h3 h4 => he j oM h4) ho h1 h2
theorem dates_none {q : Rul} {dayF : Int → Bool} {en most : Int} {k : Int} {o l : List Int} (h : DatesP q dayF en most k o l) (hd : en < q.start) : l = o := by
 induction h with
 | over _ => rfl
 | stop h hs => unfold addF; exact addGo_none hd _ _
 | more h hs hn ih => rw [ih]; unfold addF; exact addGo_none hd _ _
theorem pDays_len {q : Rul} (dayF : Int → Bool) (k : Int) : (pDays q dayF k).length ≤ 31622400 := by
 unfold pDays
 split
 ·split
  ·exact Nat.le_trans (clockF_len _ _ _ _ _ _) dE
  ·simp
 ·have h1 := daysTil_len q dayF (pFirst q k) (pMany q k).toNat
  have h2 : pMany q k ≤ 366 := by
   have := Cal.lp_01 (pY q k)
   have := Cal.mdays_bd (pN q k % 12 + 1) (pM q k)
   unfold pMany
   split
   ·omega
   ·split
    ·omega
    ·split <;> omega
  have h3 : (pMany q k).toNat ≤ 366 := by omega
  have := Nat.mul_le_mul_right 86400 h3
  omega
theorem tells_dates {r : Ru} {q : Rul} {dayF : Int → Bool} {R : Int → It → Prop} (fits : Fits r q dayF R) (hpres : Pres r) (hc : 0 ≤ q.count) (hst : r.d0 = q.start) {en most : Int} (hen : r.u0 = en) (hmost : most ≤ 1000000) {k : Int} {o l : List Int} (h : DatesP q dayF en most k o l) : 0 ≤ k → ∀ k' s, k ≤ k' → (∀ j, k ≤ j → j < k' → pDays q dayF j = []) → R k' s → ¬pOver q k' → ItOk r s → s.fin = false → s.rem = [] → s.total = o.length → (o.length : Int) < most → cr q.count o s →
  ∃ N l', l = o ++ l' ∧ Tells r N s (most - o.length).toNat l' := by
 subst hen
 have hpos : ∀ k s (o : List Int), 0 ≤ k → R k s → ¬pOver q k → ItOk r s → s.fin = false → s.rem = [] → s.total = o.length → (o.length : Int) < most → cr q.count o s → (round r s).rem = (out r s).rem ∧ (round r s).total = o.length + (out r s).rem.length ∧ (round r s).total ≤ 1000000000000 ∧ (round r s).count = (out r s).count ∧ ((round r s).fin = true ∨ ∀ p, ItOk r { round r s with rem := p }) := by
  intro k s o h0 hR ho hi hf hr ht hm hcr
  obtain ⟨L1, L2, hl, h1, he⟩ := fits.pos k s h0 hR hi ho
  obtain ⟨x, hx1, hx2⟩ := emits_pre r L2 s
  have ht2 := out_total r s
  rw [hr] at ht2 hx1
  rw [← he, List.nil_append] at hx1
  have hL : L2.length ≤ 31622400 := by
   have h2 := congrArg List.length hl
   have h3 := posF_len (pDays q dayF k) q.setpos
   have h4 := pDays_len (q := q) dayF k
   rw [List.length_append] at h2; omega
  simp only [List.length_nil] at ht2
  have hrd : (round r s).rem = (out r s).rem ∧ (round r s).total = (out r s).total ∧ (round r s).count = (out r s).count := by
   unfold round
   split
   ·exact ⟨rfl, rfl, rfl⟩
   ·exact adv_keep r _ _
  have h5 : (round r s).total = o.length + (out r s).rem.length := by rw [hrd.2.1]; omega
  have h6 : (round r s).total ≤ 1000000000000 := by rw [h5, hx1]; omega
  refine ⟨hrd.1, h5, h6, hrd.2.2, ?_⟩
  cases hf2 : (round r s).fin with
  | true => exact .inl rfl
  | false => exact .inr (itOk_rem (hpres s hi hr hf hf2) h6)
 induction h with
 | @over k o h =>
  intro h0 k' s hk _ _ hno
  have := fits.overs h0 h (k' - k).toNat
  rw [Int.toNat_of_nonneg oM] at this
  exact absurd (by rwa [show ∀ a b : Int, a + (b - a) = b by omega] at this) hno
 | @stop k o h hs =>
  intro h0 k' s hk hem hR hno hi hf hr ht hm hcr
  by_cases e : k = k'
  ·subst e
   obtain ⟨L1, L2, hl, h1, he⟩ := fits.pos k s h0 hR hi h
   obtain ⟨_, a2, _⟩ := round_res (most := most) hc hst hl h1 hf hr hm hcr
   obtain ⟨b1, b2⟩ := a2 hs
   obtain ⟨c1, c2, c3, c4, c5⟩ := hpos k s o h0 hR h hi hf hr ht hm hcr
   rw [← he] at b1 b2
   refine ⟨0 + 1, (out r s).rem.take (most - o.length).toNat, ?_, tells_round hi hf hr ?_⟩
   ·rw [b1, List.take_append, List.take_of_length_le oM]
    congr 2; omega
   ·refine tells_take _ _ _ c1 ?_
    rcases b2 with b2 | b2
    ·rcases c5 with c5 | c5
     ·exact .inl c5
     ·rw [List.length_take, List.length_append] at b2
      exact .inr ⟨c5, by omega⟩
    ·left
     unfold round; rw [if_pos b2]; exact b2
  ·rw [hem k oM oM, addF_nil hm (fun h => (hcr.2 h).2) hc] at hs; cases hs
 | @more k o l h hs hn ih =>
  intro h0 k' s hk hem hR hno hi hf hr ht hm hcr
  by_cases e : k = k'
  ·subst e
   obtain ⟨L1, L2, hl, h1, he⟩ := fits.pos k s h0 hR hi h
   obtain ⟨a1, _, a3⟩ := round_res (most := most) hc hst hl h1 hf hr hm hcr
   obtain ⟨b1, b2, b3⟩ := a1 hs
   obtain ⟨c1, c2, c3, c4, c5⟩ := hpos k s o h0 hR h hi hf hr ht hm hcr
   rw [← he] at b1 b2 b3 a3
   rw [b1] at hn ih
   have hm2 : (o.length : Int) + (out r s).rem.length < most := by rw [List.length_append] at b2; omega
   have ends : l = o ++ (out r s).rem → (round r s).fin = true → ∃ N l', l = o ++ l' ∧ Tells r N s (most - o.length).toNat l' := by
    intro e1 e2
    refine ⟨0 + 1, (out r s).rem, e1, tells_round hi hf hr ?_⟩
    have := tells_take (r := r) (N := 0) (out r s).rem (round r s) (most - o.length).toNat c1 (.inl e2)
    rwa [List.take_of_length_le oM] at this
   cases hf3 : (out r s).fin with
   | true => exact ends (dates_none hn (by rw [← hst]; exact b3 hf3)) (by unfold round; rw [if_pos hf3]; exact hf3)
   | false =>
    have hsm := out_same r s
    have hi2 := out_ok hi hr
    obtain ⟨k2, d1, d2, d3, d4⟩ := fits.adv k (out r s) h0 (fits.same k _ _ hR hsm) hi2 h hf3
    rw [filtered_same hsm] at d3 d4
    have hrd : round r s = adv r (filtered r s) (out r s) := round_adv hf3
    rw [← hrd] at d3 d4
    have hcr2 := a3 hf3
    cases hf4 : (round r s).fin with
    | true => exact ends (dates_over hc hn k2 oM (fun j h1 h2 => d2 j oM h2) (d4 hf4) b2 (fun h => (hcr2.2 h).2)) hf4
    | false =>
     obtain ⟨d5, d6⟩ := d3 hf4
     rcases c5 with c5 | c5
     ·rw [hf4] at c5; cases c5
     have hsm2 : Same (round r s) { round r s with rem := [] } := ⟨rfl, rfl, rfl, rfl, rfl, rfl, rfl, rfl, rfl, rfl, rfl, rfl, rfl⟩
     obtain ⟨N, l', e1, e2⟩ := ih oM k2 { round r s with rem := [] } oM (fun j h1 h2 => d2 j oM h2) (fits.same _ _ _ d5 hsm2) d6 (c5 []) hf4 rfl (by rw [List.length_append]; simp only; omega) b2 ⟨fun h => by simp only; rw [c4]; exact hcr2.1 h, fun h => by simp only; rw [c4]; exact hcr2.2 h⟩
     refine ⟨N + 1, (out r s).rem ++ l', by rw [e1, List.append_assoc], tells_round hi hf hr ?_⟩
     have := tells_pop (out r s).rem (round r s) c1 (.inr c5) e2
     rwa [show (out r s).rem.length + (most - ((o ++ (out r s).rem).length : Int)).toNat = (most - o.length).toNat by rw [List.length_append]; omega] at this
  ·rw [hem k oM oM, addF_nil hm (fun h => (hcr.2 h).2) hc] at ih
   exact ih oM k' s oM (fun j h1 h2 => hem j oM h2) hR hno hi hf hr ht hm hcr
end Go.Proofs.YtdbbifbmkfmbkaaGreat
namespace Go.Proofs.YtdbbifbmkfmbkaaGreat
open Go.Md Go.Tab Go.Fr
theorem getD_lt {l : List Int} {i : Nat} (d : Int) (h : i < l.length) : l.getD i d = l[i] := by rw [List.getD_eq_getElem?_getD, List.getElem?_eq_getElem h]; rfl
abbrev SI (l : List Int) : Prop := l.Pairwise (· < ·)
theorem SI.ext : ∀ {l m : List Int}, SI l → SI m → (∀ x, x ∈ l ↔ x ∈ m) → l = m
 | [], [], _, _, _ => rfl
 | [], b :: m, _, _, h => absurd ((h b).2 (List.mem_cons_self ..)) (by simp)
 | a :: l, [], _, _, h => absurd ((h a).1 (List.mem_cons_self ..)) (by simp)
 | a :: l, b :: m, hl, hm, h => by
  obtain ⟨l1, l2⟩ := List.pairwise_cons.1 hl
  obtain ⟨m1, m2⟩ := List.pairwise_cons.1 hm
  have e : a = b := by
   rcases List.mem_cons.1 ((h a).1 (List.mem_cons_self ..)) with e | h1
   ·exact e
   ·rcases List.mem_cons.1 ((h b).2 (List.mem_cons_self ..)) with e | h2
    ·exact e.symm
    ·have := m1 a h1; have := l1 b h2; omega
  subst e
  rw [SI.ext l2 m2 fun x => ⟨fun hx => ?_, fun hx => ?_⟩]
  ·rcases List.mem_cons.1 ((h x).1 (List.mem_cons_of_mem _ hx)) with e | h1
   ·have := l1 x hx; omega
   ·exact h1
  ·rcases List.mem_cons.1 ((h x).2 (List.mem_cons_of_mem _ hx)) with e | h1
   ·have := m1 x hx; omega
   ·exact h1
theorem mem_sortI {x : Int} {l : List Int} : x ∈ sortI l ↔ x ∈ l := by unfold sortI; exact List.mem_mergeSort
theorem sortI_SI {l : List Int} (h : l.Nodup) : SI (sortI l) := by
 have h1 : (sortI l).Pairwise (fun a b => decide (a ≤ b) = true) := by
  unfold sortI
  exact List.pairwise_mergeSort (fun a b c h1 h2 => by simp only [decide_eq_true_eq] at *; omega) (fun a b => by simp only [Bool.or_eq_true, decide_eq_true_eq]; omega) l
 have h2 : (sortI l).Nodup := (List.mergeSort_perm l _).nodup_iff.2 h
 exact (h1.and h2).imp fun {a b} ⟨h3, h4⟩ => by simp only [decide_eq_true_eq] at h3; omega
theorem SI.nodup {l : List Int} (h : SI l) : l.Nodup := h.imp fun {a b} h => by omega
theorem SI.map_add {l : List Int} (h : SI l) (d : Int) : SI (l.map (d + ·)) := by
 unfold SI
 rw [List.pairwise_map]
 exact h.imp fun {a b} h => by omega
theorem SI.flat {f : Nat → List Int} {a : Int} {w : Int} (hw : 0 ≤ w) (h : ∀ i, SI (f i)) (hb : ∀ (i : Nat) x, x ∈ f i → a + i * w ≤ x ∧ x < a + i * w + w) (n : Nat) : SI ((List.range n).flatMap f) := by
 unfold SI
 rw [List.pairwise_flatMap]
 refine ⟨fun i _ => h i, List.pairwise_lt_range.imp fun {i j} hij x hx y hy => ?_⟩
 have h1 := (hb i x hx).2
 have h2 := (hb j y hy).1
 have h3 : ((i : Int) + 1) * w ≤ (j : Int) * w := Int.mul_le_mul_of_nonneg_right oM hw
 rw [Int.add_mul, Int.one_mul] at h3
 omega
theorem mem_flatR {f : Nat → List Int} {n : Nat} {x : Int} : x ∈ (List.range n).flatMap f ↔ ∃ i, i < n ∧ x ∈ f i := by
 rw [List.mem_flatMap]
 exact ⟨fun ⟨i, h1, h2⟩ => ⟨i, List.mem_range.1 h1, h2⟩, fun ⟨i, h1, h2⟩ => ⟨i, List.mem_range.2 h1, h2⟩⟩
theorem posTo_SI {l at_ : List Int} (h : SI l) : SI (posTo l at_ l.length) := by
 unfold posTo SI
 rw [List.pairwise_map]
 have h1 : ((List.range l.length).filter (posB at_ l.length)).Pairwise (· < ·) := List.pairwise_lt_range.filter _
 refine h1.imp_of_mem fun {i j} hi hj hij => ?_
 have hj2 := List.mem_range.1 (List.mem_filter.1 hj).1
 rw [getD_lt _ hj2, getD_lt _ (Nat.lt_trans hij hj2)]
 exact List.pairwise_iff_getElem.1 h i j _ hj2 hij
theorem mem_posTo {l at_ : List Int} {x : Int} : x ∈ posTo l at_ l.length ↔ ∃ i, posB at_ l.length i = true ∧ l[i]? = some x := by
 unfold posTo
 rw [List.mem_map]
 constructor
 ·rintro ⟨i, h1, rfl⟩
  obtain ⟨h2, h3⟩ := List.mem_filter.1 h1
  have := List.mem_range.1 h2
  exact ⟨i, h3, by rw [getD_lt _ this, List.getElem?_eq_getElem this]⟩
 ·rintro ⟨i, h1, h2⟩
  obtain ⟨h3, h4⟩ := List.getElem?_eq_some_iff.1 h2
  exact ⟨i, List.mem_filter.2 ⟨List.mem_range.2 h3, h1⟩, by rw [getD_lt _ h3, h4]⟩
theorem addNew_mem {l : List Int} {t : Option Int} {x : Int} : x ∈ addNew l t ↔ x ∈ l ∨ t = some x := by
 unfold addNew
 cases t with
 | none => simp
 | some y =>
  simp only
  split
  ·rename_i h
   obtain ⟨z, h1, h2⟩ := List.any_eq_true.1 h
   have h2 := beq_iff_eq.1 h2
   subst h2
   exact ⟨.inl, fun h => h.elim id fun e => by cases e; exact h1⟩
  ·rw [List.mem_append, List.mem_singleton, Option.some.injEq]
   exact ⟨fun h => h.imp id Eq.symm, fun h => h.imp id Eq.symm⟩
theorem addNew_nodup {l : List Int} {t : Option Int} (h : l.Nodup) : (addNew l t).Nodup := by
 unfold addNew
 cases t with
 | none => exact h
 | some y =>
  simp only
  split
  ·exact h
  ·rename_i h2
   rw [List.nodup_append]
   refine ⟨h, by simp, fun a ha b hb e => h2 ?_⟩
   rw [List.mem_singleton] at hb
   exact List.any_eq_true.2 ⟨a, ha, beq_iff_eq.2 (by rw [e, hb])⟩
theorem fold_new (f : Int → Option Int) : ∀ (ps l : List Int), l.Nodup → (ps.foldl (fun l p => addNew l (f p)) l).Nodup ∧ ∀ x, x ∈ ps.foldl (fun l p => addNew l (f p)) l ↔ x ∈ l ∨ ∃ p ∈ ps, f p = some x
 | [], l, h => ⟨h, fun x => by simp⟩
 | p :: ps, l, h => by
  obtain ⟨h1, h2⟩ := fold_new f ps (addNew l (f p)) (addNew_nodup h)
  refine ⟨h1, fun x => ?_⟩
  show x ∈ ps.foldl _ _ ↔ _
  rw [h2 x, addNew_mem]
  simp only [List.mem_cons, exists_eq_or_imp, or_assoc]
theorem flat_get {f : Int → Int → Int} (ts : List Int) (hn : 0 < ts.length) : ∀ (ds : List Int) (j : Nat), (ds.flatMap fun i => ts.map (f i))[j]? = (ds[j / ts.length]?).map fun i => f i (ts.getD (j % ts.length) 0)
 | [], j => by simp
 | d :: ds, j => by
  rw [List.flatMap_cons, List.getElem?_append, List.length_map]
  split
  ·rename_i h
   rw [Nat.div_eq_of_lt h, Nat.mod_eq_of_lt h, List.getElem?_map, List.getElem?_eq_getElem h, getD_lt _ h]; rfl
  ·rename_i h
   rw [flat_get ts hn ds (j - ts.length)]
   have e : j = (j - ts.length) + ts.length := by omega
   conv => rhs; rw [e]
   rw [Nat.add_div_right _ hn, Nat.add_mod_right]
   rfl
def flatD (r : Ru) (s : It) : List Int := (daysIn r s).flatMap (cand s.ts s.ly)
theorem flat_len2 (ts : List Int) (f : Int → Int → Int) : ∀ ds : List Int, (ds.flatMap fun i => ts.map (f i)).length = ds.length * ts.length
 | [] => by simp
 | d :: ds => by rw [List.flatMap_cons, List.length_append, flat_len2 ts f ds, List.length_map, List.length_cons, Nat.succ_mul]; omega
theorem posAt_eq {r : Ru} {s : It} (hn : 0 < s.ts.length) (p : Int) (hz : p ≠ 0) : posAt r s p = if (if p < 0 then p + (flatD r s).length else p - 1) < 0 then none else (flatD r s)[(if p < 0 then p + (flatD r s).length else p - 1).toNat]? := by
 have hlen : (flatD r s).length = (daysIn r s).length * s.ts.length := flat_len2 s.ts _ _
 have hget : ∀ j : Nat, (flatD r s)[j]? = ((daysIn r s)[j / s.ts.length]?).map fun i => (Cal.daysTo s.ly + i) * 86400 + s.ts.getD (j % s.ts.length) 0 := flat_get s.ts hn _
 have hn' : (0 : Int) < s.ts.length := by omega
 have key : ∀ j : Nat, ∀ q : Int, q = ((j : Int) / (s.ts.length : Int)) → ∀ m : Int, m = (j : Int) % (s.ts.length : Int) → (if q < 0 then none else ((daysIn r s)[q.toNat]?).map fun i => (Cal.daysTo s.ly + i) * 86400 + s.ts.getD m.toNat 0) = (flatD r s)[j]? := by
  intro j q hq m hm
  rw [← Int.natCast_ediv] at hq
  rw [← Int.natCast_emod] at hm
  subst hq hm
  rw [if_neg (Int.not_lt.2 (Int.natCast_nonneg _)), hget, Int.toNat_natCast, Int.toNat_natCast]
 unfold posAt
 simp only
 by_cases hp : p < 0
 ·simp only [if_pos hp]
  have hneg : p / (s.ts.length : Int) < 0 := Int.ediv_neg_of_neg_of_pos hp hn'
  rw [if_pos hneg]
  have e1 : (p + ((flatD r s).length : Int)) / (s.ts.length : Int) = p / s.ts.length + (daysIn r s).length := by
   rw [hlen, Int.natCast_mul, Int.mul_comm]; exact Int.add_mul_ediv_left p _ oM
  have e2 : (p + ((flatD r s).length : Int)) % (s.ts.length : Int) = p % s.ts.length := by
   rw [hlen, Int.natCast_mul, Int.mul_comm]; exact Int.add_mul_emod_self_left _ _ _
  by_cases h0 : p + ((flatD r s).length : Int) < 0
  ·rw [if_pos h0, if_pos]
   rw [← e1]; exact Int.ediv_neg_of_neg_of_pos h0 hn'
  ·rw [if_neg h0]
   refine key (p + ((flatD r s).length : Int)).toNat _ ?_ _ ?_
   ·rw [Int.toNat_of_nonneg oM, e1]
   ·rw [Int.toNat_of_nonneg oM, e2]
 ·simp only [if_neg hp]
  rw [if_neg (show ¬ p - 1 < 0 by omega)]
  have hneg : ¬ (p - 1) / (s.ts.length : Int) < 0 := by
   have := Int.ediv_nonneg (a := p - 1) (b := s.ts.length) oM oM
   omega
  rw [if_neg hneg]
  exact key (p - 1).toNat _ (by rw [Int.toNat_of_nonneg oM]) _ (by rw [Int.toNat_of_nonneg oM])
theorem pos_eq {r : Ru} {s : It} (hn : 0 < s.ts.length) (hs : SI (flatD r s)) (h0 : 0 < r.setpos.length) (hz : ∀ p ∈ r.setpos, p ≠ 0) : sortI (poslist r s) = posF (flatD r s) r.setpos := by
 obtain ⟨h1, h2⟩ := fold_new (posAt r s) r.setpos [] List.nodup_nil
 unfold posF
 rw [if_neg oM]
 refine SI.ext (sortI_SI h1) (posTo_SI hs) fun x => ?_
 rw [mem_sortI, mem_posTo]
 refine (h2 x).trans ⟨?_, ?_⟩
 ·rintro (h | ⟨p, hp, h⟩)
  ·simp at h
  ·rw [posAt_eq hn p (hz p hp)] at h
   have hz := hz p hp
   by_cases hp0 : p < 0
   ·simp only [if_pos hp0] at h
    by_cases hg : p + ((flatD r s).length : Int) < 0
    ·rw [if_pos hg] at h; cases h
    ·rw [if_neg hg] at h
     refine ⟨_, ?_, h⟩
     unfold posB
     rw [Bool.or_eq_true, List.any_eq_true, List.any_eq_true]
     exact .inr ⟨p, hp, beq_iff_eq.2 oM⟩
   ·simp only [if_neg hp0, if_neg (show ¬ p - 1 < 0 by omega)] at h
    refine ⟨_, ?_, h⟩
    unfold posB
    rw [Bool.or_eq_true, List.any_eq_true, List.any_eq_true]
    exact .inl ⟨p, hp, beq_iff_eq.2 oM⟩
 ·rintro ⟨i, hb, hx⟩
  have hl := (List.getElem?_eq_some_iff.1 hx).1
  unfold posB at hb
  rw [Bool.or_eq_true, List.any_eq_true, List.any_eq_true] at hb
  right
  rcases hb with ⟨p, hp, e⟩ | ⟨p, hp, e⟩
  ·have e := beq_iff_eq.1 e
   refine ⟨p, hp, ?_⟩
   rw [posAt_eq hn p (hz p hp)]
   simp only [if_neg (show ¬ p < 0 by omega), if_neg (show ¬ p - 1 < 0 by omega)]
   rw [show (p - 1).toNat = i by omega]; exact hx
  ·have e := beq_iff_eq.1 e
   refine ⟨p, hp, ?_⟩
   rw [posAt_eq hn p (hz p hp)]
   simp only [if_pos (show p < 0 by omega), if_neg (show ¬ p + ((flatD r s).length : Int) < 0 by omega)]
   rw [show (p + ((flatD r s).length : Int)).toNat = i by omega]; exact hx
theorem outTo_flat (r : Ru) (s : It) (a : Int) : ∀ k, outTo r s a k = emits r s ((List.range k).flatMap fun (j : Nat) => if bad r s (a + j) = true then [] else cand s.ts s.ly (a + j))
 | 0 => rfl
 | k + 1 => by
  have h := outTo_same r s a k
  rw [outTo_succ, flat_succ, emits_append, ← outTo_flat r s a k]
  unfold outDay
  rw [h.bad, h.ts, h.ly]
  split <;> rfl
theorem flatD_eq (r : Ru) (s : It) : flatD r s = (List.range ((span r s).2 - (span r s).1).toNat).flatMap fun (j : Nat) => if bad r s ((span r s).1 + j) = true then [] else cand s.ts s.ly ((span r s).1 + j) := by
 unfold flatD daysIn
 generalize ((span r s).2 - (span r s).1).toNat = n
 induction n with
 | zero => rfl
 | succ n ih =>
  rw [flat_succ, List.range_succ, List.map_append, List.filter_append, List.flatMap_append, ih]
  congr 1
  cases h : bad r s ((span r s).1 + (n : Int)) <;> simp [h]
theorem cand_SI {ts : List Int} (h : SI ts) (ly i : Int) : SI (cand ts ly i) := by
 unfold cand; exact h.map_add _
theorem cand_bd {ts : List Int} (h : ∀ t ∈ ts, 0 ≤ t ∧ t < 86400) {ly i x : Int} (hx : x ∈ cand ts ly i) : (Cal.daysTo ly + i) * 86400 ≤ x ∧ x < (Cal.daysTo ly + i) * 86400 + 86400 := by
 unfold cand at hx
 obtain ⟨t, h1, rfl⟩ := List.mem_map.1 hx
 have := h t h1
 omega
theorem flatD_SI {r : Ru} {s : It} (h : SI s.ts) (hb : ∀ t ∈ s.ts, 0 ≤ t ∧ t < 86400) : SI (flatD r s) := by
 rw [flatD_eq]
 refine SI.flat (a := (Cal.daysTo s.ly + (span r s).1) * 86400) (w := 86400) oM (fun i => ?_) (fun i x hx => ?_) _
 ·split
  ·exact List.Pairwise.nil
  ·exact cand_SI h _ _
 ·split at hx
  ·simp at hx
  ·have := cand_bd hb hx
   omega
theorem out_flat {r : Ru} {s : It} (h : SI s.ts) (hb : ∀ t ∈ s.ts, 0 ≤ t ∧ t < 86400) (hz : ∀ p ∈ r.setpos, p ≠ 0) : out r s = emits r s (posF (flatD r s) r.setpos) := by
 by_cases h0 : r.setpos.length = 0
 ·rw [out_outTo _ _ (.inl h0), outDays_outTo, outTo_flat, ← flatD_eq]
  unfold posF; rw [if_pos h0]
 ·by_cases h1 : s.ts.length = 0
  ·rw [out_outTo _ _ (.inr h1), outDays_outTo, outTo_flat, ← flatD_eq]
   have e : flatD r s = [] := by
    unfold flatD
    rw [List.flatMap_eq_nil_iff]
    intro i _
    unfold cand
    rw [List.eq_nil_of_length_eq_zero h1]; rfl
   rw [e]
   unfold posF; split <;> rfl
  ·unfold out
   rw [if_pos ⟨h0, h1⟩, pos_eq oM (flatD_SI h hb) oM hz]
theorem mem_clock {hs ms ss : List Int} {day fr lg x : Int} : x ∈ clockF hs ms ss day fr lg ↔ day * 86400 ≤ x ∧ x < day * 86400 + 86400 ∧ fr ≤ x ∧ x < fr + lg ∧ amongB hs ((x - day * 86400) / 3600) = true ∧ amongB ms ((x - day * 86400) / 60 % 60) = true ∧ amongB ss ((x - day * 86400) % 60) = true := by
 unfold clockF chTo
 rw [mem_flatR]
 constructor
 ·rintro ⟨h, hh, hx⟩
  split at hx
  ·rename_i h1
   unfold cmTo at hx
   obtain ⟨m, hm, hx⟩ := mem_flatR.1 hx
   split at hx
   ·rename_i h2
    unfold ckTo at hx
    obtain ⟨s, hs, rfl⟩ := List.mem_map.1 hx
    obtain ⟨h3, h4⟩ := List.mem_filter.1 hs
    have h3 := List.mem_range.1 h3
    rw [Bool.and_eq_true] at h1 h2 h4
    have h5 : wo fr lg (day * 86400 + h * 3600 + m * 60 + s) 1 = false := by simpa using h4.2
    unfold wo at h5
    rw [Bool.or_eq_false_iff, decide_eq_false_iff_not, decide_eq_false_iff_not] at h5
    have e : day * 86400 + (h : Int) * 3600 + m * 60 + s - day * 86400 = h * 3600 + m * 60 + s := by omega
    rw [e, show ((h : Int) * 3600 + m * 60 + s) / 3600 = h by omega, show ((h : Int) * 3600 + m * 60 + s) / 60 % 60 = m by omega, show ((h : Int) * 3600 + m * 60 + s) % 60 = s by omega]
    exact ⟨by omega, by omega, by omega, by omega, h1.1, h2.1, h4.1⟩
   ·simp at hx
  ·simp at hx
 ·rintro ⟨h1, h2, h3, h4, h5, h6, h7⟩
  have e : x = day * 86400 + (((x - day * 86400) / 3600).toNat : Nat) * 3600 + (((x - day * 86400) / 60 % 60).toNat : Nat) * 60 + (((x - day * 86400) % 60).toNat : Nat) := by omega
  have w : ∀ a n : Int, a ≤ x → x < a + n → (!wo fr lg a n) = true := fun a n ha hn => by
   unfold wo
   rw [decide_eq_false oM, decide_eq_false oM]; rfl
  refine ⟨((x - day * 86400) / 3600).toNat, by omega, ?_⟩
  rw [if_pos (by rw [Int.toNat_of_nonneg oM, h5, w _ _ oM oM]; rfl)]
  unfold cmTo
  refine mem_flatR.2 ⟨((x - day * 86400) / 60 % 60).toNat, by omega, ?_⟩
  rw [if_pos (by rw [Int.toNat_of_nonneg oM, Int.toNat_of_nonneg oM, h6, w _ _ oM oM]; rfl)]
  unfold ckTo
  exact List.mem_map.2 ⟨((x - day * 86400) % 60).toNat, List.mem_filter.2 ⟨List.mem_range.2 oM, by rw [Int.toNat_of_nonneg oM, Int.toNat_of_nonneg oM, Int.toNat_of_nonneg oM, h7, w _ _ oM oM]; rfl⟩, e.symm⟩
theorem clock_SI (hs ms ss : List Int) (day fr lg : Int) : SI (clockF hs ms ss day fr lg) := by
 have h1 : ∀ b, SI (ckTo ss fr lg b 60) ∧ ∀ x ∈ ckTo ss fr lg b 60, b ≤ x ∧ x < b + 60 := fun b => by
  unfold ckTo
  refine ⟨?_, fun x hx => ?_⟩
  ·unfold SI
   rw [List.pairwise_map]
   exact (List.pairwise_lt_range.filter _).imp fun {i j} h => by omega
  ·obtain ⟨s, h, rfl⟩ := List.mem_map.1 hx
   have := List.mem_range.1 (List.mem_filter.1 h).1
   omega
 have h2 : ∀ b, SI (cmTo ms ss fr lg b 60) ∧ ∀ x ∈ cmTo ms ss fr lg b 60, b ≤ x ∧ x < b + 3600 := fun b => by
  unfold cmTo
  refine ⟨SI.flat (a := b) (w := 60) oM (fun i => ?_) (fun i x hx => ?_) _, fun x hx => ?_⟩
  ·split
   ·exact (h1 _).1
   ·exact List.Pairwise.nil
  ·split at hx
   ·have := (h1 _).2 x hx; omega
   ·simp at hx
  ·obtain ⟨i, hi, hx⟩ := mem_flatR.1 hx
   split at hx
   ·have := (h1 _).2 x hx; omega
   ·simp at hx
 unfold clockF chTo
 refine SI.flat (a := day * 86400) (w := 3600) oM (fun i => ?_) (fun i x hx => ?_) _
 ·split
  ·exact (h2 _).1
  ·exact List.Pairwise.nil
 ·split at hx
  ·have := (h2 _).2 x hx; omega
  ·simp at hx
structure PartOk (l : List Int) (n : Int) : Prop where
 some : 0 < l.length
 nd : l.Nodup
 bd : ∀ x ∈ l, 0 ≤ x ∧ x < n
theorem PartOk.among {l : List Int} {n : Int} (h : PartOk l n) (x : Int) : amongB l x = true ↔ x ∈ l := by
 unfold amongB
 rw [Bool.or_eq_true, beq_iff_eq, List.any_eq_true]
 constructor
 ·rintro (h1 | ⟨y, h1, h2⟩)
  ·have := h.some; omega
  ·rwa [← beq_iff_eq.1 h2]
 ·intro h1; exact .inr ⟨x, h1, beq_self_eq_true x⟩
theorem PartOk.one {x n : Int} (h : 0 ≤ x ∧ x < n) : PartOk [x] n := ⟨by simp, by simp, fun y hy => by rw [List.mem_singleton] at hy; rw [hy]; exact h⟩
theorem tsOf_SI {hs ms ss : List Int} (h1 : PartOk hs 24) (h2 : PartOk ms 60) (h3 : PartOk ss 60) : SI (tsOf hs ms ss) := by
 unfold tsOf
 refine sortI_SI ?_
 unfold List.Nodup
 rw [List.pairwise_flatMap]
 refine ⟨fun h hh => ?_, h1.nd.imp_of_mem fun {a b} ha hb hab x hx y hy => ?_⟩
 ·rw [List.pairwise_flatMap]
  refine ⟨fun m hm => ?_, h2.nd.imp_of_mem fun {a b} ha hb hab x hx y hy => ?_⟩
  ·rw [List.pairwise_map]
   exact h3.nd.imp fun {a b} h => by omega
  ·obtain ⟨s, hs, rfl⟩ := List.mem_map.1 hx
   obtain ⟨t, ht, rfl⟩ := List.mem_map.1 hy
   have := h3.bd s hs; have := h3.bd t ht
   omega
 ·obtain ⟨m, hm, hx⟩ := List.mem_flatMap.1 hx
  obtain ⟨n, hn, hy⟩ := List.mem_flatMap.1 hy
  obtain ⟨s, hs, rfl⟩ := List.mem_map.1 hx
  obtain ⟨t, ht, rfl⟩ := List.mem_map.1 hy
  have := h3.bd s hs; have := h3.bd t ht; have := h2.bd m hm; have := h2.bd n hn
  omega
theorem mem_tsOf {hs ms ss : List Int} (h1 : PartOk hs 24) (h2 : PartOk ms 60) (h3 : PartOk ss 60) {t : Int} : t ∈ tsOf hs ms ss ↔ 0 ≤ t ∧ t < 86400 ∧ t / 3600 ∈ hs ∧ t / 60 % 60 ∈ ms ∧ t % 60 ∈ ss := by
 unfold tsOf
 rw [mem_sortI, List.mem_flatMap]
 constructor
 ·rintro ⟨h, hh, hx⟩
  obtain ⟨m, hm, hx⟩ := List.mem_flatMap.1 hx
  obtain ⟨s, hs, rfl⟩ := List.mem_map.1 hx
  have := h1.bd h hh; have := h2.bd m hm; have := h3.bd s hs
  rw [show (h * 3600 + m * 60 + s) / 3600 = h by omega, show (h * 3600 + m * 60 + s) / 60 % 60 = m by omega, show (h * 3600 + m * 60 + s) % 60 = s by omega]
  exact ⟨by omega, by omega, hh, hm, hs⟩
 ·rintro ⟨a, b, c, d, e⟩
  exact ⟨_, c, List.mem_flatMap.2 ⟨_, d, List.mem_map.2 ⟨_, e, by omega⟩⟩⟩
theorem clock_eq {hs ms ss T : List Int} {D fr lg : Int} (hT : SI T) (h : ∀ t, t ∈ T ↔ 0 ≤ t ∧ t < 86400 ∧ fr ≤ D * 86400 + t ∧ D * 86400 + t < fr + lg ∧ amongB hs (t / 3600) = true ∧ amongB ms (t / 60 % 60) = true ∧ amongB ss (t % 60) = true) : clockF hs ms ss D fr lg = T.map (D * 86400 + ·) := by
 refine SI.ext (clock_SI _ _ _ _ _ _) (hT.map_add _) fun x => ?_
 rw [mem_clock, List.mem_map]
 constructor
 ·rintro ⟨a, b, c, d, e⟩
  exact ⟨x - D * 86400, (h _).2 ⟨by omega, by omega, by omega, by omega, e⟩, by omega⟩
 ·rintro ⟨t, ht, rfl⟩
  obtain ⟨a, b, c, d, e⟩ := (h t).1 ht
  rw [show D * 86400 + t - D * 86400 = t by omega]
  exact ⟨by omega, by omega, c, d, e⟩
theorem clock_day {hs ms ss : List Int} (h1 : PartOk hs 24) (h2 : PartOk ms 60) (h3 : PartOk ss 60) (D : Int) : clockF hs ms ss D (D * 86400) 86400 = (tsOf hs ms ss).map (D * 86400 + ·) :=
 clock_eq (tsOf_SI h1 h2 h3) fun t => by
  rw [mem_tsOf h1 h2 h3, h1.among, h2.among, h3.among]
  exact ⟨fun ⟨a, b, c⟩ => ⟨a, b, by omega, by omega, c⟩, fun ⟨a, b, _, _, c⟩ => ⟨a, b, c⟩⟩
end Go.Proofs.YtdbbifbmkfmbkaaGreat
