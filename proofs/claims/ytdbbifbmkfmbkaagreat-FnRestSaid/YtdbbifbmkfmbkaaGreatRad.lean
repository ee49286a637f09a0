import Derived.Test.YtdbbifbmkfmbkaaGreatRac
set_option linter.unusedVariables false
set_option linter.unusedSimpArgs false
set_option maxRecDepth 100000
set_option maxHeartbeats 8000000
namespace Go.Proofs.YtdbbifbmkfmbkaaGreat
open Go.Md Go.Tab
theorem aIg (y : Int) : (rgY y).length = 13 := by unfold rgY; split <;> rfl
theorem aEc {y : Int} {j : Nat} (h : j < 13) : (rgY y)[j]? = some ((rgY y).getD j 0) := by
 have hl := aIg y
 rw [List.getD_eq_getElem?_getD, List.getElem?_eq_getElem oM]; rfl
theorem aIu {y : Int} {j : Nat} (h : j < 12) : 0 ≤ (rgY y).getD j 0 ∧ (rgY y).getD j 0 + 28 ≤ (rgY y).getD (j + 1) 0 ∧ (rgY y).getD (j + 1) 0 ≤ (rgY y).getD j 0 + 31 ∧ (rgY y).getD (j + 1) 0 ≤ 365 + Cal.lp y := by
 unfold rgY Cal.lp
 split
 ·revert j; decide
 ·revert j; decide
theorem aDz {y : Int} {j : Nat} (h : j ≤ 12) : (rgY y).getD j 0 = Cal.cum y j := by
 have key : ∀ j : Nat, j ≤ 12 → (if Cal.leapB y then ([0, 31, 60, 91, 121, 152, 182, 213, 244, 274, 305, 335, 366] : List Int) else [0, 31, 59, 90, 120, 151, 181, 212, 243, 273, 304, 334, 365]).getD j 0 = Cal.cum y j := by
  intro j hj
  have e : j = 0 ∨ j = 1 ∨ j = 2 ∨ j = 3 ∨ j = 4 ∨ j = 5 ∨ j = 6 ∨ j = 7 ∨ j = 8 ∨ j = 9 ∨ j = 10 ∨ j = 11 ∨ j = 12 := by omega
  rcases e with rfl | rfl | rfl | rfl | rfl | rfl | rfl | rfl | rfl | rfl | rfl | rfl | rfl <;> (simp only [Cal.cum, Cal.mdays, Cal.lp]; cases Cal.leapB y <;> rfl)
 exact key j h
theorem aDe {y m d : Int} (hy : 1 ≤ y ∧ y ≤ 10000) (hm : 1 ≤ m ∧ m ≤ 12) (hd : 1 ≤ d ∧ d ≤ 1000) : 0 ≤ Cal.dayNo y m d ∧ Cal.dayNo y m d ≤ 5000000 := by
 have h1 := Cal.cum_bd y (m - 1).toNat
 have hq : (m - 1) / 12 = 0 := by omega
 have hr : (m - 1) % 12 = m - 1 := by omega
 unfold Cal.dayNo
 rw [hq, hr, Int.add_zero]
 have hb : 0 ≤ Cal.daysTo y ∧ Cal.daysTo y ≤ 4000000 := by unfold Cal.daysTo; omega
 omega
theorem pL {y m d : Int} (hm : 1 ≤ m ∧ m ≤ 12) (hd : 1 ≤ d ∧ d ≤ Cal.mdays m y) : Cal.dayNo y m d = Cal.daysTo y + (Cal.cum y (m - 1).toNat + d - 1) ∧ Cal.yearOf (Cal.dayNo y m d) = y ∧ Cal.ydayOf (Cal.dayNo y m d) = Cal.cum y (m - 1).toNat + d - 1 ∧ Cal.monthOf (Cal.dayNo y m d) = m ∧ Cal.mdayOf (Cal.dayNo y m d) = d := by
 obtain ⟨j, rfl⟩ : ∃ j : Nat, m = (j : Int) + 1 := ⟨(m - 1).toNat, by omega⟩
 have hq : ((j : Int) + 1 - 1) / 12 = 0 := by omega
 have hr : ((j : Int) + 1 - 1) % 12 = j := by omega
 have ht : ((j : Int) + 1 - 1).toNat = j := by omega
 have hs : Cal.cum y (j + 1) = Cal.cum y j + Cal.mdays ((j : Int) + 1) y := rfl
 have e : Cal.dayNo y ((j : Int) + 1) d = Cal.daysTo y + (Cal.cum y j + d - 1) := by
  unfold Cal.dayNo; rw [hq, hr, Int.add_zero, Int.toNat_natCast]; omega
 have u := Cal.date_unique (y := y) (D := Cal.cum y j + d - 1) (j := j) oM oM oM
 rw [ht, e]
 exact ⟨rfl, u.1, u.2.1, u.2.2.1, by rw [u.2.2.2]; omega⟩
theorem n5 {y m d : Int} (hm : 1 ≤ m ∧ m ≤ 12) (hd : 1 ≤ d ∧ d ≤ Cal.mdays m y) : 0 ≤ Cal.ydayOf (Cal.dayNo y m d) ∧ Cal.ydayOf (Cal.dayNo y m d) < 365 + Cal.lp y := by
 obtain ⟨e1, e2, e3, _⟩ := pL hm hd
 have h1 := Cal.split_spec (Cal.dayNo y m d)
 rw [e2] at h1
 exact ⟨h1.2.1, h1.2.2⟩
theorem aB6 {r : Ru} {s : It} (hr : RuOk r) (hk : ItOk r s) : 0 ≤ (aW r s).1 ∧ (aW r s).1 < (aW r s).2 ∧ (aW r s).2 ≤ 372 + Cal.lp s.ly ∧ (aW r s).2 ≤ (aW r s).1 + 366 ∧ (r.freq < 2 → (aW r s).2 ≤ 365 + Cal.lp s.ly) ∧ (2 ≤ r.freq → (aW r s).2 ≤ (aW r s).1 + 7) := by
 have hlp := Cal.lp_01 s.ly
 have hf := hr.freq
 unfold aW
 by_cases h0 : r.freq = 0
 ·rw [if_pos h0]; simp only; omega
 ·by_cases h1 : r.freq = 1
  ·rw [if_neg h0, if_pos h1]
   have hm := hk.mo
   have hb := aIu (y := s.ly) (j := (s.mo - 1).toNat) oM
   rw [show (s.mo - 1).toNat + 1 = s.mo.toNat by omega] at hb
   simp only; omega
  ·rw [if_neg h0, if_neg h1]
   have hb := n5 hk.mo ⟨hk.d.1, hk.day oM⟩
   rw [hk.ly] at hlp ⊢
   by_cases h2 : r.freq = 2
   ·simp only [if_pos h2]; omega
   ·simp only [if_neg h2]; omega
theorem aGh {r : Ru} {s : It} (hr : RuOk r) (hk : ItOk r s) : (r.weekno.length ≠ 0 → (aW r s).2 ≤ s.wno.length) ∧ (s.nwm.length ≠ 0 → (aW r s).2 ≤ s.nwm.length) ∧ (r.easter.length ≠ 0 → (aW r s).2 ≤ s.eas.length) := by
 obtain ⟨h1, h2, h3, h4, h5, h6⟩ := aB6 hr hk
 have hny := f8 s.ly
 refine ⟨fun h => ?_, fun h => ?_, fun h => ?_⟩
 ·rw [hk.wno, hr.wnoF h]; omega
 ·by_cases hn : r.nwd.length = 0
  ·rw [hk.nwm, hr.nwmF0 hn] at h; exact absurd rfl h
  ·have := hr.nwmF hn s.ly s.lm
   rw [hk.nwm, this]
   refine h5 ?_
   rcases Int.lt_or_le r.freq 2 with h' | h'
   ·exact h'
   ·exact absurd (hr.nwd h') hn
 ·rw [hk.eas, hr.easF h]; omega
theorem aAi (r : Ru) (o : It) (t : Int) : (f7 r o t).total - (f7 r o t).rem.length = o.total - o.rem.length := by
 unfold f7
 split
 ·rfl
 ·split
  ·rfl
  ·split
   ·rfl
   ·split <;> (simp only [List.length_append, List.length_singleton]; omega)
theorem nN (r : Ru) : ∀ (l : List Int) (o : It), (dB r o l).total - (dB r o l).rem.length = o.total - o.rem.length
 | [], o => rfl
 | t :: l, o => (nN r l (f7 r o t)).trans (aAi r o t)
theorem u6 (r : Ru) (o : It) (t : Int) (h : 0 ≤ o.count ∧ o.count ≤ 9223372036854775807) : 0 ≤ (f7 r o t).count ∧ (f7 r o t).count ≤ 9223372036854775807 := by
 unfold f7
 split
 ·exact h
 ·split
  ·exact h
  ·split
   ·exact h
   ·split
    ·exact h
    ·simp only; omega
theorem kY (r : Ru) : ∀ (l : List Int) (o : It), 0 ≤ o.count ∧ o.count ≤ 9223372036854775807 → 0 ≤ (dB r o l).count ∧ (dB r o l).count ≤ 9223372036854775807
 | [], o, h => h
 | t :: l, o, h => kY r l (f7 r o t) (u6 r o t h)
theorem nA (r : Ru) (s : It) (a : Int) : ∀ k, (iP r s a k).total - (iP r s a k).rem.length = s.total - s.rem.length
 | 0 => rfl
 | k + 1 => by
  rw [j6]
  unfold jM
  split
  ·exact nA r s a k
  ·rw [nN]; exact nA r s a k
theorem lG (r : Ru) (s : It) (a : Int) (h : 0 ≤ s.count ∧ s.count ≤ 9223372036854775807) : ∀ k, 0 ≤ (iP r s a k).count ∧ (iP r s a k).count ≤ 9223372036854775807
 | 0 => h
 | k + 1 => by
  rw [j6]
  unfold jM
  split
  ·exact lG r s a h k
  ·exact kY r _ _ (lG r s a h k)
theorem vL (r : Ru) (s : It) : (out r s).total - (out r s).rem.length = s.total - s.rem.length := by
 unfold out
 split
 ·exact nN r _ s
 ·exact nA r s _ _
theorem wM (r : Ru) (s : It) (h : 0 ≤ s.count ∧ s.count ≤ 9223372036854775807) : 0 ≤ (out r s).count ∧ (out r s).count ≤ 9223372036854775807 := by
 unfold out
 split
 ·exact kY r _ s h
 ·exact lG r s _ h _
theorem dH (r : Ru) (s : It) : Same s (out r s) := by
 unfold out
 split
 ·exact kZ r _ s
 ·exact iD r s _ _
end Go.Proofs.YtdbbifbmkfmbkaaGreat
namespace Go.Fr
open Go.RowKit
section
variable {P : Program} {Q Q' : Exit → Act → World → Prop} {K : Act → World → Prop} {N : Nat} {L : Loc} {F : Nat → Prop} {w0 : World} {B : LN} {H : LV} {S : LS}
variable {d : Nat} {v : Value} {ty : TypeId} {pos : String} {aft : Array Edge} {g : Option (Nat × Bool)}
theorem wD {a : Act} {w : World} {f : FuncId} {x : Operand} {first capt : List Value} {aS : List Operand} {ats : Array TypeId} {args : List Value} {dst : Option Nat} (k : Kn N L a) (hx : ev L x = some (.func (.func f) first.toArray capt.toArray)) (hf : fO P f = true) (ha : Fr.evs L aS = some args) :
  (execOp a.eval ⟨dst, .call ⟨.value x, aS.toArray, ats⟩, ty, pos, aft, g⟩).run P w = .ok (.enter f (first ++ args ++ capt).toArray) w := by
 unfold fO at hf
 split at hf
 ·rename_i fn hfn
  simp only [Bool.and_eq_true, Bool.not_eq_true'] at hf
  obtain ⟨c, hb⟩ := Option.isSome_iff_exists.1 hf.1
  have hnm : ¬ fn.name = "runtime.NumGoroutine" := by simpa using hf.2
  simp [execOp, resolve, k.eval hx, Deferred.ofValue, invoke, callFunc, hfn, hnm, hb, k.evs ha]
 ·cases hf
theorem iE {ι : Type} {f : FuncId} {x : Operand} {first capt : List Value} {aS : List Operand} {ats : Array TypeId} {args : List Value} (V : ι → Value) (Pr : ι → Prop) (Bx : ι → LN) (Hx : ι → LV) (Sx : ι → LS) (hd : d < N)
  (hx : ev L x = some (.func (.func f) first.toArray capt.toArray)) (hf : fO P f = true) (ha : Fr.evs L aS = some args)
  (hc : ∀ w, Sees F w0 B H S w → Calls P f (first ++ args ++ capt).toArray w fun e w' => ∃ x, Pr x ∧ e = .returned (V x) ∧ Sees F w0 (Bx x) (Hx x) (Sx x) w')
  (hn : ∀ x, Pr x → GK K N ((d, V x) :: L) F w0 (Bx x) (Hx x) (Sx x)) : GO P ⟨some d, .call ⟨.value x, aS.toArray, ats⟩, ty, pos, aft, none⟩ Q K N L F w0 B H S := fun a w k s => by
 show Oper.upon _ _ _ _ _ _
 rw [wD k hx hf ha]
 refine (hc w s).mono ?_
 rintro e w' ⟨x, hx, rfl, s'⟩
 exact hn x hx _ _ (k.put hd _) s'
theorem gG {f : FuncId} {aS cs : List Operand} {first capt : List Value} (ha : Fr.evs L aS = some first) (hc : Fr.evs L cs = some capt) : Rd P ⟨some d, .makeFunc (.func f) aS.toArray cs.toArray, ty, pos, aft, g⟩ N L F w0 B H S (.func (.func f) first.toArray capt.toArray) := fun a w k s => by
 simp [execOp, Instr.makeFunc, k.evs ha, k.evs hc]
theorem dP (j : Nat) {t : TypeId} {x : Operand} {b off : Nat} {cs : List Value} (hx : ev L x = some (.pointer (some ⟨b, off, none⟩))) (hb : lkp j B = some b) (hc : ∀ i u, cs[i]? = some u → lkp (ky j (off + i)) H = some u) (ho : off + cs.length ≤ 4096) (ht : u5 P t = some cs.length) : Rd P ⟨some d, .load t x, ty, pos, aft, g⟩ N L F w0 B H S (.agg cs.toArray) :=
 fI (cs := cs) ht hx fun w s i u hu => by
  have hi : i < cs.length := by
   rcases Nat.lt_or_ge i cs.length with h' | h'
   ·exact h'
   ·simp [List.getElem?_eq_none h'] at hu
  exact s.cell hb oM (hc i u hu)
def cellsAt (j : Nat) (H : LV) : Nat → List Value → Prop
 | _, [] => True
 | o, v :: r => lkp (ky j o) H = some v ∧ cellsAt j H (o + 1) r
theorem cellsAt.get {j : Nat} {H : LV} : ∀ {cs : List Value} {o : Nat}, cellsAt j H o cs → ∀ (i : Nat) (u : Value), cs[i]? = some u → lkp (ky j (o + i)) H = some u
 | [], _, _, i, u, h => by simp at h
 | v :: r, o, h, 0, u, e => by cases e; exact h.1
 | v :: r, o, h, i + 1, u, e => by
  have := cellsAt.get h.2 i u (by simpa using e)
  rwa [show o + 1 + i = o + (i + 1) by omega] at this
theorem sD {j : Nat} {H : LV} : ∀ (n o : Nat), (∀ k, o ≤ k → k < o + n → ∃ v, lkp (ky j k) H = some v) → knwn j H o n = true
 | 0, _, _ => rfl
 | n + 1, o, h => by
  obtain ⟨v, hv⟩ := h o (Nat.le_refl _) oM
  simp only [knwn, hv, Option.isSome_some, Bool.true_and]
  exact sD n (o + 1) fun k h1 h2 => h k oM oM
def i7 (k : Nat) (H : LV) : LV := H.filter fun p => p.1 / 4096 != k
theorem mF {α : Type} {f : Nat × α → Bool} {q : Nat} (hf : ∀ v, f (q, v) = true) : ∀ (l : List (Nat × α)), lkp q (l.filter f) = lkp q l
 | [] => rfl
 | (j, v) :: l => by
  by_cases e : q = j
  ·subst e
   rw [List.filter_cons_of_pos (hf v), bQ, bQ]
  ·rw [aA e]
   by_cases h : f (j, v) = true
   ·rw [List.filter_cons_of_pos h, aA e]; exact mF hf l
   ·rw [List.filter_cons_of_neg h]; exact mF hf l
theorem mP {α : Type} {f : Nat × α → Bool} {q : Nat} (hf : ∀ v, f (q, v) = false) : ∀ (l : List (Nat × α)), lkp q (l.filter f) = none
 | [] => rfl
 | (j, v) :: l => by
  by_cases h : f (j, v) = true
  ·rw [List.filter_cons_of_pos h]
   have e : q ≠ j := fun e => by subst e; rw [hf v] at h; cases h
   rw [aA e]; exact mP hf l
  ·rw [List.filter_cons_of_neg h]; exact mP hf l
theorem oZ {k o : Nat} (h : o < 4096) : ky k o / 4096 = k := by unfold ky; omega
theorem aL {k q : Nat} {H : LV} (h : q / 4096 ≠ k) : lkp q (i7 k H) = lkp q H := mF (fun v => by simpa using h) H
theorem kC {k o : Nat} (h : o < 4096) (H : LV) : lkp (ky k o) (i7 k H) = none := mP (fun v => by simp [oZ h]) H
theorem Sees.dropTag {w : World} {k b : Nat} (s : Sees F w0 ((k, b) :: B) H S w) (hk : lkp k B = none) : Sees F w0 B (i7 k H) S w :=
 s.to (fun j b' h => by rw [aA (fun e => by rw [e, hk] at h; cases h)]; exact h) (fun j o v ho h => by
  have hjk : j ≠ k := fun e => by rw [e, kC ho] at h; cases h
  rw [aL (by rw [oZ ho]; exact hjk)] at h
  obtain ⟨b', e, _⟩ := s.cells j o v ho h
  rw [aA hjk] at e
  exact ⟨h, by rw [e]; rfl⟩) (fun j q h => h)
theorem tP {k o : Nat} {v : Value} {H : LV} (h : o < 4096) : i7 k ((ky k o, v) :: H) = i7 k H := by
 unfold i7; rw [List.filter_cons_of_neg (by simp [oZ h])]
theorem rB {k : Nat} : ∀ (cs : List Value) (o : Nat) {H : LV}, o + cs.length ≤ 4096 → i7 k (cX k o cs H) = i7 k H
 | [], _, _, _ => rfl
 | v :: r, o, H, h => by
  simp only [List.length_cons] at h
  show i7 k (cX k (o + 1) r ((ky k o, v) :: H)) = _
  rw [rB r (o + 1) oM, tP oM]
theorem vC {k : Nat} : ∀ (cs : List Value) (o : Nat) {H : LV}, o + cs.length ≤ 4096 → i7 k (aC k o cs ++ H) = i7 k H
 | [], _, _, _ => rfl
 | v :: r, o, H, h => by
  simp only [List.length_cons] at h
  show i7 k ((ky k o, v) :: (aC k (o + 1) r ++ H)) = _
  rw [tP oM, vC r (o + 1) oM]
end
end Go.Fr
namespace Go.Fr
open Go.RowKit
def Prs (w : World) (v : Value) (xs : List (Int × Int)) : Prop := ∃ p c, v = .slice p xs.length c ∧ ∀ (i : Nat) (x : Int × Int), xs[i]? = some x → ∃ b o, p = some ⟨b, o, none⟩ ∧ w.cell? ⟨b, o + 2 * i, none⟩ = some (iV x.1) ∧ w.cell? ⟨b, o + 2 * i + 1, none⟩ = some (iV x.2)
def eI (xs : List (Int × Int)) : List Value := (xs.map fun x => [iV x.1, iV x.2]).flatten
theorem s4 (xs : List (Int × Int)) : (eI xs).length = 2 * xs.length := by
 unfold eI
 induction xs with
 | nil => rfl
 | cons t ts ih => simp only [List.map_cons, List.flatten_cons, List.length_append, ih]; simp; omega
theorem lV (xs : List (Int × Int)) (x : Int × Int) : eI xs ++ [iV x.1, iV x.2] = eI (xs ++ [x]) := by
 unfold eI; rw [List.map_append, List.flatten_append]; rfl
theorem tB {xs : List (Int × Int)} {k : Nat} {x : Int × Int} (h : xs[k]? = some x) : (eI xs)[2 * k]? = some (iV x.1) ∧ (eI xs)[2 * k + 1]? = some (iV x.2) := by
 induction xs generalizing k with
 | nil => simp at h
 | cons u us ih =>
  cases k with
  | zero => cases h; exact ⟨rfl, rfl⟩
  | succ k =>
   obtain ⟨h1, h2⟩ := ih (k := k) (by simpa using h)
   refine ⟨?_, ?_⟩
   ·show (eI us)[2 * k]? = _; exact h1
   ·show (eI us)[2 * k + 1]? = _; exact h2
def SrcP (F : Nat → Prop) (w0 : World) (S : LS) (v : Value) (xs : List (Int × Int)) : Prop := ∀ B H S' w, (∀ k, 11 ≤ k → k < 40 → lkp k S' = lkp k S) → Sees F w0 B H S' w → Prs w v xs
section
variable {F : Nat → Prop} {w0 w : World} {B : LN} {H : LV} {S S' : LS} {v : Value} {xs : List Int} {ps : List (Int × Int)} {p : Option Addr} {n c : Nat}
theorem SrcP.to (h : SrcP F w0 S v ps) (ha : ∀ k, 11 ≤ k → k < 40 → lkp k S' = lkp k S) : SrcP F w0 S' v ps := fun B H S2 w h2 s => h B H S2 w (fun k h3 h4 => (h2 k h3 h4).trans (ha k h3 h4)) s
theorem SrcP.nil {p : Option Addr} {c : Nat} : SrcP F w0 S (.slice p 0 c) [] := fun _ _ _ _ _ _ => ⟨p, c, rfl, fun i x h => by simp at h⟩
theorem SrcP.old (h : Prs w0 v ps) (hF : ∀ b o n c, v = .slice (some ⟨b, o, none⟩) n c → ¬ F b) : SrcP F w0 S v ps := fun B H S' w _ s => by
 obtain ⟨p, c, rfl, hc⟩ := h
 refine ⟨p, c, rfl, fun i x hx => ?_⟩
 obtain ⟨b, o, rfl, h1, h2⟩ := hc i x hx
 exact ⟨b, o, rfl, s.aJ8 h1 (hF b o _ _ rfl), s.aJ8 h2 (hF b o _ _ rfl)⟩
theorem SrcP.row {k : Nat} {e : TypeId} (hk : 11 ≤ k ∧ k < 40) (h : lkp k S = some ⟨.slice p n c, e, 2, n, eI ps⟩) : SrcP F w0 S (.slice p n c) ps := fun B H S' w ha s => by
 have h1 : lkp k S' = some ⟨.slice p n c, e, 2, n, eI ps⟩ := (ha k hk.1 hk.2).trans h
 have ho := s.slcs k _ h1
 have hl : ps.length = n := by have h2 : (eI ps).length = n * 2 := ho.1; rw [s4] at h2; omega
 subst hl
 refine ⟨p, c, rfl, fun i x hx => ?_⟩
 obtain ⟨g1, g2⟩ := tB hx
 rcases ho.2 with ⟨e1, e2⟩ | ⟨g, cap, cur, e1, _⟩
 ·have : ps = [] := List.eq_nil_of_length_eq_zero e2
  subst this; simp at hx
 ·injection e1 with e1 e2 e3
  subst e1 e3
  have hc1 := ho.cells (g := g) (by rfl) _ _ g1
  have hc2 := ho.cells (g := g) (by rfl) _ _ g2
  exact ⟨g, 0, rfl, by rwa [Addr.add_mid] at hc1, by rw [Addr.add_mid] at hc2; exact hc2⟩
theorem SrcI.head (h : SrcI F w0 S (.slice p n c) xs) (s : Sees F w0 B H S w) (hn : 0 < xs.length) : ∃ b o, p = some ⟨b, o, none⟩ := by
 obtain ⟨p', c', e, hc⟩ := h B H S w (fun _ _ _ => rfl) s
 injection e with e1 e2 e3
 subst e1
 obtain ⟨b, o, e, _⟩ := hc 0 _ (List.getElem?_eq_getElem hn)
 exact ⟨b, o, e⟩
theorem SrcI.cell {b o : Nat} (h : SrcI F w0 S (.slice (some ⟨b, o, none⟩) n c) xs) {i : Nat} {x : Int} (hx : xs[i]? = some x) (ha : ∀ k, 11 ≤ k → k < 30 → lkp k S' = lkp k S) (s : Sees F w0 B H S' w) : w.cell? ⟨b, o + i * 1, none⟩ = some (iV x) := by
 obtain ⟨p', c', e, hc⟩ := h B H S' w ha s
 injection e with e1 e2 e3
 subst e1
 obtain ⟨b', o', e, h1⟩ := hc i x hx
 cases e
 rw [Nat.mul_one]; exact h1
theorem SrcP.head (h : SrcP F w0 S (.slice p n c) ps) (s : Sees F w0 B H S w) (hn : 0 < ps.length) : ∃ b o, p = some ⟨b, o, none⟩ := by
 obtain ⟨p', c', e, hc⟩ := h B H S w (fun _ _ _ => rfl) s
 injection e with e1 e2 e3
 subst e1
 obtain ⟨b, o, e, _⟩ := hc 0 _ (List.getElem?_eq_getElem hn)
 exact ⟨b, o, e⟩
theorem SrcP.cell {b o : Nat} (h : SrcP F w0 S (.slice (some ⟨b, o, none⟩) n c) ps) {i : Nat} {x : Int × Int} (hx : ps[i]? = some x) (ha : ∀ k, 11 ≤ k → k < 40 → lkp k S' = lkp k S) (s : Sees F w0 B H S' w) : w.cell? ⟨b, o + i * 2, none⟩ = some (iV x.1) ∧ w.cell? ⟨b, o + i * 2 + 1, none⟩ = some (iV x.2) := by
 obtain ⟨p', c', e, hc⟩ := h B H S' w ha s
 injection e with e1 e2 e3
 subst e1
 obtain ⟨b', o', e, h1, h2⟩ := hc i x hx
 cases e
 rw [Nat.mul_comm i 2]; exact ⟨h1, h2⟩
end
abbrev TG (t k : Nat) : Prop := k = t ∨ k = 11 ∨ (26 ≤ k ∧ k < 30)
def SrcT (F : Nat → Prop) (w0 : World) (S : LS) (t : Nat) (v : Value) (xs : List Int) : Prop := ∀ B H S' w, (∀ k, TG t k → lkp k S' = lkp k S) → Sees F w0 B H S' w → Ints w v xs
def SrcU (F : Nat → Prop) (w0 : World) (S : LS) (t : Nat) (v : Value) (xs : List (Int × Int)) : Prop := ∀ B H S' w, (∀ k, TG t k → lkp k S' = lkp k S) → Sees F w0 B H S' w → Prs w v xs
section
variable {F : Nat → Prop} {w0 w : World} {B : LN} {H : LV} {S S' : LS} {v : Value} {xs : List Int} {ps : List (Int × Int)} {p : Option Addr} {n c t j : Nat} {q : Slc}
theorem SrcT.cons (h : SrcT F w0 S t v xs) (hj : ¬ TG t j) : SrcT F w0 ((j, q) :: S) t v xs := fun B H S' w ha s => h B H S' w (fun k hk => (ha k hk).trans (aA (fun e => by subst e; exact hj hk) _ _)) s
theorem SrcU.cons (h : SrcU F w0 S t v ps) (hj : ¬ TG t j) : SrcU F w0 ((j, q) :: S) t v ps := fun B H S' w ha s => h B H S' w (fun k hk => (ha k hk).trans (aA (fun e => by subst e; exact hj hk) _ _)) s
theorem SrcT.toI (h : SrcT F w0 S t v xs) (ht : 11 ≤ t ∧ t < 30) : SrcI F w0 S v xs := fun B H S' w ha s => h B H S' w (fun k hk => ha k oM oM) s
theorem SrcT.nil {c : Nat} : SrcT F w0 S t (.slice p 0 c) [] := fun _ _ _ _ _ _ => Ints.nil
theorem SrcT.row {e : TypeId} (h : lkp t S = some ⟨.slice p n c, e, 1, n, xs.map iV⟩) : SrcT F w0 S t (.slice p n c) xs := fun B H S' w ha s => s.ints t ((ha t (.inl rfl)).trans h)
theorem SrcU.row {e : TypeId} (h : lkp t S = some ⟨.slice p n c, e, 2, n, eI ps⟩) : SrcU F w0 S t (.slice p n c) ps := fun B H S' w ha s => by
 have h1 := (ha t (.inl rfl)).trans h
 have hr : SrcP F w0 S (.slice p n c) ps → True := fun _ => trivial
 have ho := s.slcs t _ h1
 have hl : ps.length = n := by have h2 : (eI ps).length = n * 2 := ho.1; rw [s4] at h2; omega
 subst hl
 refine ⟨p, c, rfl, fun i x hx => ?_⟩
 obtain ⟨g1, g2⟩ := tB hx
 rcases ho.2 with ⟨e1, e2⟩ | ⟨g, cap, cur, e1, _⟩
 ·have : ps = [] := List.eq_nil_of_length_eq_zero e2
  subst this; simp at hx
 ·injection e1 with e1 e2 e3
  subst e1 e3
  have hc1 := ho.cells (g := g) (by rfl) _ _ g1
  have hc2 := ho.cells (g := g) (by rfl) _ _ g2
  exact ⟨g, 0, rfl, by rwa [Addr.add_mid] at hc1, by rw [Addr.add_mid] at hc2; exact hc2⟩
theorem SrcT.head (h : SrcT F w0 S t (.slice p n c) xs) (s : Sees F w0 B H S w) (hn : 0 < xs.length) : ∃ b o, p = some ⟨b, o, none⟩ := by
 obtain ⟨p', c', e, hc⟩ := h B H S w (fun _ _ => rfl) s
 injection e with e1 e2 e3
 subst e1
 obtain ⟨b, o, e, _⟩ := hc 0 _ (List.getElem?_eq_getElem hn)
 exact ⟨b, o, e⟩
theorem SrcT.cell {b o : Nat} (h : SrcT F w0 S t (.slice (some ⟨b, o, none⟩) n c) xs) {i : Nat} {x : Int} (hx : xs[i]? = some x) (s : Sees F w0 B H S w) : w.cell? ⟨b, o + i * 1, none⟩ = some (iV x) := by
 obtain ⟨p', c', e, hc⟩ := h B H S w (fun _ _ => rfl) s
 injection e with e1 e2 e3
 subst e1
 obtain ⟨b', o', e, h1⟩ := hc i x hx
 cases e
 rw [Nat.mul_one]; exact h1
theorem SrcU.head (h : SrcU F w0 S t (.slice p n c) ps) (s : Sees F w0 B H S w) (hn : 0 < ps.length) : ∃ b o, p = some ⟨b, o, none⟩ := by
 obtain ⟨p', c', e, hc⟩ := h B H S w (fun _ _ => rfl) s
 injection e with e1 e2 e3
 subst e1
 obtain ⟨b, o, e, _⟩ := hc 0 _ (List.getElem?_eq_getElem hn)
 exact ⟨b, o, e⟩
theorem SrcU.cell {b o : Nat} (h : SrcU F w0 S t (.slice (some ⟨b, o, none⟩) n c) ps) {i : Nat} {x : Int × Int} (hx : ps[i]? = some x) (s : Sees F w0 B H S w) : w.rangeAt b (o + i * 2) [iV x.1, iV x.2] := by
 obtain ⟨p', c', e, hc⟩ := h B H S w (fun _ _ => rfl) s
 injection e with e1 e2 e3
 subst e1
 obtain ⟨b', o', e, h1, h2⟩ := hc i x hx
 cases e
 rw [Nat.mul_comm i 2]; exact sV h1 h2
theorem SrcT.old (h : Ints w0 v xs) (hF : ∀ b, ¬ F b) : SrcT F w0 S t v xs := fun B H S' w _ s => by
 obtain ⟨p, c, rfl, hc⟩ := h
 refine ⟨p, c, rfl, fun i x hx => ?_⟩
 obtain ⟨b, o, rfl, h1⟩ := hc i x hx
 exact ⟨b, o, rfl, s.aJ8 h1 (hF b)⟩
theorem SrcT.more (h : SrcT F w0 S 11 v xs) : SrcT F w0 S t v xs := fun B H S' w ha s => h B H S' w (fun k hk => ha k (by rcases hk with h | h | h; exact .inr (.inl h); exact .inr (.inl h); exact .inr (.inr h))) s
theorem SrcU.more (h : SrcU F w0 S 11 v ps) : SrcU F w0 S t v ps := fun B H S' w ha s => h B H S' w (fun k hk => ha k (by rcases hk with h | h | h; exact .inr (.inl h); exact .inr (.inl h); exact .inr (.inr h))) s
end
theorem gN {P : Program} {N : Nat} {L : Loc} {F : Nat → Prop} {w0 : World} {B : LN} {H : LV} {S : LS} {d : Nat} {v r : Value} {ty : TypeId} {pos : String} {aft : Array Edge} {g : Option (Nat × Bool)} {t : TypeId} {x : Operand} (hx : ev L x = some v) (h : ∀ w : World, (Instr.makeInterface t v).run P w = .ok r w) : Rd P ⟨some d, .makeInterface t x, ty, pos, aft, g⟩ N L F w0 B H S r := fun a w k s => by
 simp only [execOp, k.eval hx, Sem.run_bind, h w, Result.andThen_ok, Sem.run_pure]
section
variable {P : Program} {Q Q' : Exit → Act → World → Prop} {K : Act → World → Prop} {N : Nat} {L : Loc} {F : Nat → Prop} {w0 : World} {B : LN} {H : LV} {S : LS}
variable {d : Nat} {v : Value} {ty : TypeId} {pos : String} {aft : Array Edge} {g : Option (Nat × Bool)}
theorem aBh {a : Act} {w : World} {f : FuncId} {x : Operand} {t : TypeId} {rv : Value} {name : String} {aS : List Operand} {ats : Array TypeId} {args : List Value} {dst : Option Nat} (k : Kn N L a) (hx : ev L x = some (.iface t v)) (hm : ∀ w : World, (method (P.types.size + Made.depth) t v name).run P w = .ok (f, rv) w) (hf : fO P f = true) (ha : Fr.evs L aS = some args) :
  (execOp a.eval ⟨dst, .call ⟨.invoke x name, aS.toArray, ats⟩, ty, pos, aft, g⟩).run P w = .ok (.enter f (rv :: args).toArray) w := by
 unfold fO at hf
 split at hf
 ·rename_i fn hfn
  simp only [Bool.and_eq_true, Bool.not_eq_true'] at hf
  obtain ⟨c, hb⟩ := Option.isSome_iff_exists.1 hf.1
  have hnm : ¬ fn.name = "runtime.NumGoroutine" := by simpa using hf.2
  have e : (aS.map a.eval) = args := k.evs ha
  simp [execOp, resolve, k.eval hx, invoke, callMethod, callFunc, hfn, hnm, hb, e, hm]
 ·cases hf
theorem vM {ι : Type} {f : FuncId} {x : Operand} {t : TypeId} {rv : Value} {name : String} {aS : List Operand} {ats : Array TypeId} {args : List Value} (V : ι → Value) (Pr : ι → Prop) (Bx : ι → LN) (Hx : ι → LV) (Sx : ι → LS) (hd : d < N)
  (hx : ev L x = some (.iface t v)) (hm : ∀ w : World, (method (P.types.size + Made.depth) t v name).run P w = .ok (f, rv) w) (hf : fO P f = true) (ha : Fr.evs L aS = some args)
  (hc : ∀ w, Sees F w0 B H S w → Calls P f (rv :: args).toArray w fun e w' => ∃ x, Pr x ∧ e = .returned (V x) ∧ Sees F w0 (Bx x) (Hx x) (Sx x) w')
  (hn : ∀ x, Pr x → GK K N ((d, V x) :: L) F w0 (Bx x) (Hx x) (Sx x)) : GO P ⟨some d, .call ⟨.invoke x name, aS.toArray, ats⟩, ty, pos, aft, none⟩ Q K N L F w0 B H S := fun a w k s => by
 show Oper.upon _ _ _ _ _ _
 rw [aBh k hx hm hf ha]
 refine (hc w s).mono ?_
 rintro e w' ⟨x, hx, rfl, s'⟩
 exact hn x hx _ _ (k.put hd _) s'
theorem rZ {f : FuncId} {x : Operand} {t : TypeId} {u rv : Value} {name : String} {aS : List Operand} {ats : Array TypeId} {args : List Value} (hd : d < N)
  (hx : ev L x = some (.iface t u)) (hm : ∀ w : World, (method (P.types.size + Made.depth) t u name).run P w = .ok (f, rv) w) (hf : fO P f = true) (ha : Fr.evs L aS = some args)
  (hc : ∀ w, Sees F w0 B H S w → Calls P f (rv :: args).toArray w fun e w' => e = .returned v ∧ Below w.heap.size w w')
  (hn : GK K N ((d, v) :: L) F w0 B H S) : GO P ⟨some d, .call ⟨.invoke x name, aS.toArray, ats⟩, ty, pos, aft, none⟩ Q K N L F w0 B H S :=
 vM (ι := Unit) (fun _ => v) (fun _ => True) (fun _ => B) (fun _ => H) (fun _ => S) hd hx hm hf ha (fun w s => (hc w s).mono fun e w' ⟨he, hb⟩ => ⟨(), trivial, he, s.below hb⟩) (fun _ _ => hn)
end
theorem cN {j : Nat} {H : LV} {o : Nat} : cellsAt j H o [] := trivial
theorem cC {j : Nat} {H : LV} {o : Nat} {v : Value} {r : List Value} (h : lkp (ky j o) H = some v) (hr : cellsAt j H (o + 1) r) : cellsAt j H o (v :: r) := ⟨h, hr⟩
section
variable {P : Program} {Q Q' : Exit → Act → World → Prop} {K : Act → World → Prop} {N : Nat} {L : Loc} {F : Nat → Prop} {w0 : World} {B : LN} {H : LV} {S : LS}
variable {id : Nat} {l tl rest : List Oper} {ops : Array Oper} {o : Oper} {d : Nat} {v : Value} {ty : TypeId} {pos : String} {aft : Array Edge} {op : Op} {g : Option (Nat × Bool)}
theorem dK (j : Nat) {t e : TypeId} {sz by_ : Nat} {zs : List Value} {y : Operand} {cs : List Value} (hd : d < N) (ht : kF P t = some (e, sz, by_, zs)) (hzs : zs.length = sz) (hsz : 0 < sz) (hsm : sz ≤ 4096) (hy : ev L y = some v) (hv : v.cells.toList = cs) (hcs : cs.length = sz)
  (hn : ∀ b, GK K N ((d, sL b 1 1) :: L) F w0 B H ((j, ⟨sL b 1 1, e, sz, 1, cs⟩) :: S)) :
  GO P ⟨some d, .buildSlice t 1 #[(0, y)], ty, pos, aft, none⟩ Q K N L F w0 B H S := fun a w k s => by
 obtain ⟨hu, inf, z, hi, hz, h2, h3, h4⟩ := hY ht
 subst h2
 have hvs : v.cells.size = inf.size := by rw [← Array.length_toList, hv, hcs]
 have hfold : ∀ (l : List Value) (n : Nat) (A : Array Value), n + l.length = A.size → ((l.zipIdx n).foldl (fun cs (c, j) => cs.setIfInBounds j c) A).toList = A.toList.take n ++ l := by
  intro l
  induction l with
  | nil => intro n A h; simp at h; subst h; simp [← Array.length_toList]
  | cons c l ih =>
   intro n A h
   simp only [List.length_cons] at h
   rw [List.zipIdx_cons, List.foldl_cons, ih (n + 1) _ (by simp; omega)]
   have hn : n < A.size := by omega
   rw [Array.toList_setIfInBounds, List.take_set, List.take_succ_eq_append_getElem (by simpa using hn), List.set_append_right _ _ (by simp; omega)]
   simp [Nat.min_eq_left (Nat.le_of_lt hn)]
 have hr : (Instr.buildSlice t 1 #[(0, v)]).run P w = .ok (sL w.heap.size 1 1) (w.alloc (.cells cs.toArray e (0, 0))) := by
  have hne : ¬ inf.size = 0 := by omega
  have hle : ¬ 16777216 < inf.size := by omega
  have hA : (Array.map (fun x => z.cells[x % z.cells.size]!) (Array.range inf.size)).size = inf.size := by simp
  have key : ((v.cells.zipIdx).foldl (fun cs (c, j) => cs.setIfInBounds j c) (Array.map (fun x => z.cells[x % z.cells.size]!) (Array.range inf.size))) = cs.toArray := by
   apply Array.toList_inj.1
   have := hfold v.cells.toList 0 (Array.map (fun x => z.cells[x % z.cells.size]!) (Array.range inf.size)) (by rw [hA, Array.length_toList, hvs]; omega)
   simp only [List.take_zero, List.nil_append, hv] at this
   rw [← Array.foldl_toList, Array.toList_zipIdx, hv]
   simpa using this
  simp [Instr.buildSlice, run_underlying hu, gD hi, hne, hle, zeroValue, typeInfo, hi, hz, Instr.fill, hvs, newRow]
  have e1 : v.cells.zipIdx.size = inf.size := by simp [hvs]
  have key2 : Array.foldl (fun (cs : Array Value) (x : Value × Nat) => cs.setIfInBounds x.snd x.fst) (Array.map (fun x => z.cells[x % z.cells.size]!) (Array.range inf.size)) v.cells.zipIdx 0 inf.size = cs.toArray := by
   rw [show Array.foldl (fun (cs : Array Value) (x : Value × Nat) => cs.setIfInBounds x.snd x.fst) (Array.map (fun x => z.cells[x % z.cells.size]!) (Array.range inf.size)) v.cells.zipIdx 0 inf.size = Array.foldl (fun (cs : Array Value) (x : Value × Nat) => cs.setIfInBounds x.snd x.fst) (Array.map (fun x => z.cells[x % z.cells.size]!) (Array.range inf.size)) v.cells.zipIdx 0 v.cells.zipIdx.size by rw [e1]]
   exact key
  exact congrArg (fun A => w.alloc (.cells A e)) key2
 have s' : Sees F w0 B H ((j, ⟨sL w.heap.size 1 1, e, inf.size, 1, cs⟩) :: S) (w.alloc (.cells cs.toArray e (0, 0))) :=
  s.slice (old := none) (.inl rfl) (World.grownBy_alloc w _ none) ⟨by simp [hcs], .inr ⟨w.heap.size, 1, cs.toArray, rfl, Nat.zero_le _, heap_alloc_new w _, Nat.le_refl _, by unfold maxLen; omega, by simp [hcs], by simp [← hcs]⟩⟩ (.inr (.inr ⟨w.heap.size, rfl, Nat.le_refl _⟩))
 show Oper.upon _ _ _ _ _ _
 simp only [execOp, List.map_toArray, List.map_cons, List.map_nil, k.eval hy, Sem.run_bind, hr, Result.andThen_ok, Sem.run_pure]
 exact hn _ _ _ (k.put hd _) s'
end
end Go.Fr
namespace Go.Fr
open Go.RowKit Go.Sort
section
variable {P : Program} {Q : Exit → Act → World → Prop} {K : Act → World → Prop} {N : Nat} {L : Loc} {F : Nat → Prop} {w0 : World} {B : LN} {H : LV} {S : LS}
variable {d : Nat} {ty : TypeId} {pos : String} {aft : Array Edge}
theorem Sees.row_last {w : World} {j : Nat} {q r : Slc} (s : Sees F w0 B H ((j, q) :: (j, r) :: S) w) : Sees F w0 B H ((j, q) :: S) w :=
 s.to (fun _ _ h => h) (fun k o v ho h => ⟨h, by obtain ⟨b, e, _⟩ := s.cells k o v ho h; rw [e]; rfl⟩) (fun k u h => by
  rcases bB h with ⟨rfl, rfl⟩ | ⟨hne, h⟩
  ·exact bQ _ _ _
  ·rw [aA hne, aA hne]; exact h)
theorem j8 (j : Nat) {t : TypeId} {x y : Operand} {b off len cap : Nat} {q : Slc} {u v : Value} (hx : ev L x = some (.pointer (some ⟨b, off, none⟩))) (hy : ev L y = some (.agg #[u, v])) (hr : lkp j S = some q) (hs : q.v = sL b len cap) (hi : off + 1 < q.xs.length) (h1 : u.oneCell' = true) (h2 : v.oneCell' = true)
  (hn : GK K N L F w0 B H ((j, { q with xs := (q.xs.set off u).set (off + 1) v }) :: S)) (ht : (P.info? t).map (·.size) = some 2 := by kernel_rfl) : GO P ⟨none, .store t x y, ty, pos, aft, none⟩ Q K N L F w0 B H S := fun a w k s => by
 have s1 := s.stored j hr hs (off := off) u
 have s2 := s1.stored j (bQ _ _ _) hs (off := off + 1) v
 have ho := s.slcs j q hr
 have hh := pW ho hs
 have ho' : w.ownsRow 0 q.e q.sz (sL b q.n cap) q.n q.xs := by
  rw [← hh.2.2]; rw [← hs]; rw [hh.2.2]; exact ho
 have hr' := run_storeVar_mid (P := P) w b off t #[u, v] (fun i hi' => by
  have hi2 : i < 2 := hi'
  have hlt : off + i < q.xs.length := by omega
  exact ⟨by rw [s.aJ5 (o := off + i) hr hs (List.getElem?_eq_getElem hlt)]; rfl, ho'.frozenAt (off + i)⟩) ht (by simp [h1, h2])
 show Oper.upon _ _ _ _ _ _
 simp only [execOp, k.eval hx, k.eval hy, Instr.storeAt, Instr.sureAddr, Sem.run_bind, hr', Result.andThen_ok, Sem.run_pure]
 exact hn _ _ k s2.row_last
end
section
variable {F : Nat → Prop} {w0 : World} {B : LN} {H : LV} {S : LS}
theorem lH {n : Int} (h : 0 ≤ n ∧ n < 18446744073709551616) : IntKind.u64.wrap n = n := by
 simp [IntKind.wrap, IntKind.bits, IntKind.signed]; omega
section
variable {P : Program} {N d : Nat} {L : Loc} {v : Value} {ty : TypeId} {pos : String} {aft : Array Edge} {g : Option (Nat × Bool)} {xt yt : TypeId} {x y : Operand} {q qk : IntKind} {m k : Int}
theorem aAb (hx : ev L x = some (.int q m)) (hy : ev L y = some (.int qk k)) (hk : 0 ≤ k) : Rd P ⟨some d, .binOp .shl xt x y yt, ty, pos, aft, g⟩ N L F w0 B H S (.int q (q.wrap (m * 2 ^ (min k.toNat q.bits)))) := fun a w kk s => by
 have : ¬ k < 0 := by omega
 simp [execOp, eqGuard, binOp, Op.shift, kk.eval hx, kk.eval hy, this]
theorem aHm (hx : ev L x = some (.int q m)) (hy : ev L y = some (.int qk k)) (hk : 0 ≤ k) : Rd P ⟨some d, .binOp .shr xt x y yt, ty, pos, aft, g⟩ N L F w0 B H S (.int q (m.fdiv (2 ^ (min k.toNat q.bits)))) := fun a w kk s => by
 have : ¬ k < 0 := by omega
 simp [execOp, eqGuard, binOp, Op.shift, kk.eval hx, kk.eval hy, this]
theorem aAg (hx : ev L x = some (.int q m)) (hy : ev L y = some (.int q k)) : Rd P ⟨some d, .binOp .xor xt x y yt, ty, pos, aft, g⟩ N L F w0 B H S (.int q (q.wrap ((BitVec.ofInt q.bits m ^^^ BitVec.ofInt q.bits k).toNat : Int))) := fun a w kk s => by
 simp [execOp, eqGuard, binOp, Op.intBits, kk.eval hx, kk.eval hy]
theorem aIj (hx : ev L x = some (.int q m)) (hy : ev L y = some (.int q k)) : Rd P ⟨some d, .binOp .and xt x y yt, ty, pos, aft, g⟩ N L F w0 B H S (.int q (q.wrap ((BitVec.ofInt q.bits m &&& BitVec.ofInt q.bits k).toNat : Int))) := fun a w kk s => by
 simp [execOp, eqGuard, binOp, Op.intBits, kk.eval hx, kk.eval hy]
end
theorem Sees.cell_last {w : World} {j : Nat} {u v : Value} (s : Sees F w0 B ((j, u) :: (j, v) :: H) S w) : Sees F w0 B ((j, u) :: H) S w :=
 s.to (fun _ _ h => h) (fun k o x ho h => by
  have h2 : lkp (ky k o) ((j, u) :: (j, v) :: H) = some x := by
   rcases bB h with ⟨e, rfl⟩ | ⟨hne, h⟩
   ·rw [← e]; exact bQ _ _ _
   ·rw [aA hne, aA hne]; exact h
  obtain ⟨b, e, _⟩ := s.cells k o x ho h2
  exact ⟨h2, by rw [e]; rfl⟩) (fun _ _ h => h)
end
def bY (e b n c : Nat) (d : Array Int) : Slc := ⟨sL b n c, e, 2, n, bN d.toList⟩
theorem uH (ts : List Int) (x : Int) : ∀ i : Nat, ((bN ts).set (2 * i) (iV x)).set (2 * i + 1) (iV 0) = bN (ts.set i x) := by
 induction ts with
 | nil => intro i; rfl
 | cons t ts ih =>
  intro i
  cases i with
  | zero => rfl
  | succ i =>
   show ((iV t :: iV 0 :: bN ts).set (2 * (i + 1)) _).set (2 * (i + 1) + 1) _ = iV t :: iV 0 :: bN (ts.set i x)
   rw [← ih i]
   rfl
theorem pO {d : Array Int} {i : Nat} (h : i < d.size) : (bN d.toList)[2 * i]? = some (iV d[i]!) ∧ (bN d.toList)[2 * i + 1]? = some (iV 0) :=
 lB (by simp [h])
theorem aE4 (d : Array Int) {i j : Nat} (hi : i < d.size) (hj : j < d.size) : ((d.toList.set i d[j]!).set j d[i]!) = (swp d i j).toList := by
 unfold swp
 rw [Array.toList_setIfInBounds, Array.toList_setIfInBounds]
theorem aFl {d d' : Array Int} (hp : PermIn 0 d.size d d') (hs : SortedIn ltInt 0 d.size d') : d'.toList = d.toList.mergeSort (fun a b => decide (a ≤ b)) := by
 have h := sorted_unique_holds (lt := ltInt) swo_ltInt (fun x y h1 h2 => by simp [ltInt] at h1 h2; omega) d d' hp hs
 rw [h]
 congr 1
 funext x y
 show (!decide (y < x)) = decide (x ≤ y)
 by_cases h : y < x
 ·rw [decide_eq_true h, decide_eq_false (show ¬ x ≤ y by omega)]; rfl
 ·rw [decide_eq_false h, decide_eq_true (show x ≤ y by omega)]; rfl
def aGu (P : Program) (t : TypeId) : Bool := match P.underlying t with
 | some (.int _) => true
 | _ => false
def eq2B (P : Program) (t : TypeId) : Bool := !P.eqGuardType P.depth t && !P.stoodInHeld t && (match P.underlying t with | some (.struct _) => true | _ => false) && match (P.fieldsOf t).toList with
 | [f, g] => f.name != "_" && g.name != "_" && f.offset == 0 && g.offset == 1 && aGu P f.type && aGu P g.type
 | _ => false
theorem aFp {P : Program} {N : Nat} {L : Loc} {F : Nat → Prop} {w0 : World} {B : LN} {H : LV} {S : LS} {d : Nat} {ty : TypeId} {pos : String} {aft : Array Edge} {g : Option (Nat × Bool)} {xt yt : TypeId} {x y : Operand} {a b c e : Int}
  (hx : ev L x = some (.agg #[iV a, iV b])) (hy : ev L y = some (.agg #[iV c, iV e])) (ht : eq2B P xt = true := by kernel_rfl) :
  Rd P ⟨some d, .binOp .eql xt x y yt, ty, pos, aft, g⟩ N L F w0 B H S (.bool (a == c && b == e)) := fun act w k s => by
 simp only [eq2B, Bool.and_eq_true, Bool.not_eq_true'] at ht
 obtain ⟨⟨⟨hG, hp⟩, hst⟩, hf⟩ := ht
 have hu : P.underlying xt = some (.struct (P.fieldsOf xt)) := by
  unfold Program.fieldsOf
  cases hq : P.underlying xt with
  | none => simp [hq] at hst
  | some u => cases u <;> simp [hq] at hst ⊢
 split at hf
 ·rename_i f1 f2 hfs
  simp only [Bool.and_eq_true, bne_iff_ne, ne_eq, beq_iff_eq] at hf
  obtain ⟨⟨⟨⟨⟨n1, n2⟩, o1⟩, o2⟩, t1⟩, t2⟩ := hf
  have int : ∀ t, aGu P t = true → ∃ q, P.underlying t = some (.int q) := by
   intro t h
   unfold aGu at h
   split at h
   ·exact ⟨_, ‹_›⟩
   ·cases h
  obtain ⟨q1, u1⟩ := int _ t1
  obtain ⟨q2, u2⟩ := int _ t2
  have p1 : ∀ (v : Value) (xs : Array Value) (o : Nat) (t : TypeId) (q : IntKind), P.underlying t = some (.int q) → xs[o]? = some v → (Go.part t xs o).run P w = .ok v w := by
   intro v xs o t q hq hv
   simp [Go.part, isAgg, run_underlying hq, hv]
  have hE : (Op.equalIn 10000 xt (.agg #[iV a, iV b]) (.agg #[iV c, iV e])).run P w = .ok (a == c && b == e) w := by
   rw [show (10000 : Nat) = 9999 + 1 from rfl, run_equalIn_struct w 9999 xt _ _ hu hp, hfs]
   have a1 := p1 _ _ 0 _ _ u1 (show #[iV a, iV b][0]? = some (iV a) from rfl)
   have a2 := p1 _ _ 0 _ _ u1 (show #[iV c, iV e][0]? = some (iV c) from rfl)
   have a3 := p1 _ _ 1 _ _ u2 (show #[iV a, iV b][1]? = some (iV b) from rfl)
   have a4 := p1 _ _ 1 _ _ u2 (show #[iV c, iV e][1]? = some (iV e) from rfl)
   have b1 := fun m n => run_equalIn_int (P := P) w 9998 f1.type .i64 q1 m n u1
   have b2 := fun m n => run_equalIn_int (P := P) w 9998 f2.type .i64 q2 m n u2
   simp only [Op.eqFields, ne_eq, n1, n2, not_false_eq_true, if_true, o1, o2, Sem.run_bind, a1, a2, b1, Result.andThen_ok]
   cases a == c
   ·rfl
   ·simp only [Bool.not_true, Bool.false_eq_true, if_false, Sem.run_bind, a3, a4, b2, Result.andThen_ok, Bool.true_and]
    cases b == e <;> rfl
  simp only [execOp, k.eval hx, k.eval hy, Sem.run_bind, run_eqGuard_agg w .eql xt x y _ _ hG, Result.andThen_ok, run_eql_struct, hE, Sem.run_pure]
 ·cases hf
end Go.Fr
namespace Go.Proofs.YtdbbifbmkfmbkaaGreat
open Go.RowKit Go.Fr Go.Tab
section
variable {F : Nat → Prop} {w0 : World} {B : LN} {H : LV} {S : LS}
open Go.Sort
theorem aBl {t b n c : Nat} {d : Array Int} (hd : d.size = n) {i j : Int} (p q : Nat) (hi : i = p) (hj : j = q) (hp : p < n) (hq : q < n) (w : World) (s : Sees F w0 B H ((t, bY 57 b n c d) :: S) w) : Calls Tryz.prog 175 #[sL b n c, iV i, iV j] w fun e w' => e = .returned (.bool (ltInt d[p]! d[q]!)) ∧ Below w.heap.size w w' := by
 subst hi hj
 obtain ⟨gp1, gp2⟩ := pO (d := d) (i := p) oM
 obtain ⟨gq1, gq2⟩ := pO (d := d) (i := q) oM
 have kp1 := s.aJ5 (k := t) (o := 2 * p) (bQ _ _ _) rfl gp1
 have kp2 := s.aJ5 (k := t) (o := 2 * p + 1) (bQ _ _ _) rfl gp2
 have kq1 := s.aJ5 (k := t) (o := 2 * q) (bQ _ _ _) rfl gq1
 have kq2 := s.aJ5 (k := t) (o := 2 * q + 1) (bQ _ _ _) rfl gq2
 refine aI (args := [sL b n c, iV p, iV q]) (L := [(0, sL b n c), (1, iV p), (2, iV q)]) (N := 16) Tryz.func175 rfl rfl ble rfl (sS w) ?_
 refine g6 ?_
 refine dL 8 kR kR ?_
 refine g2 ?_
 refine rt (aF (e := 57) (n := 2) kR rfl rfl oM oM) ?_
 refine rt (gT rfl (by rw [← kp1]; congr 2; omega) (by rw [← kp2]; congr 2; omega) (fun h => h) kR) ?_
 refine g2 ?_
 refine rt (aF (e := 57) (n := 2) kR rfl rfl oM oM) ?_
 refine rt (gT rfl (by rw [← kq1]; congr 2; omega) (by rw [← kq2]; congr 2; omega) (fun h => h) kR) ?_
 refine g1 ?_
 refine gL (cvo (v := .bool (ltInt d[p]! d[q]!)) rfl (fun w_ s_ => (kS _ _ _ _ w_).mono fun e_ w2_ h_ => ⟨h_.1.trans (congrArg Ending.returned (cB (decide_eq_decide.2 oM))), h_.2⟩) ?_)
 refine g4 ?_
 exact aT (.inl rfl) rfl (aD rfl) fun w_ s_ => ⟨rfl, s_.aJ0⟩
theorem aA8 {t b n c : Nat} {d : Array Int} (hd : d.size = n) {i j : Int} (p q : Nat) (hi : i = p) (hj : j = q) (hp : p < n) (hq : q < n) : ∀ w, Sees F w0 B H ((t, bY 57 b n c d) :: S) w → Calls Tryz.prog 176 #[sL b n c, iV i, iV j] w fun e w' => e = .returned (.tuple #[]) ∧ Sees F w0 B H ((t, bY 57 b n c (swp d p q)) :: S) w' := by
 subst hi hj
 obtain ⟨gp1, gp2⟩ := pO (d := d) (i := p) oM
 obtain ⟨gq1, gq2⟩ := pO (d := d) (i := q) oM
 have hlen : (bN d.toList).length = 2 * n := by rw [aAh]; simp [hd]
 have e1 : ((bN d.toList).set (0 + p * 2) (iV d[q]!)).set (0 + p * 2 + 1) (iV 0) = bN (d.toList.set p d[q]!) := by
  rw [show 0 + p * 2 = 2 * p by omega]; exact uH _ _ _
 have e2 : ((bN (d.toList.set p d[q]!)).set (0 + q * 2) (iV d[p]!)).set (0 + q * 2 + 1) (iV 0) = bN (swp d p q).toList := by
  rw [show 0 + q * 2 = 2 * q by omega, uH, aE4 _ oM oM]
 have hblind : Blind (bodyPost Tryz.prog Tryz.f176 fun e w' => e = .returned (.tuple #[]) ∧ Sees F w0 B H ((t, bY 57 b n c (swp d p q)) :: S) w') := Blind.body
 intro w s_
 refine aI (args := [sL b n c, iV p, iV q]) (L := [(0, sL b n c), (1, iV p), (2, iV q)]) (N := 20) Tryz.func176 rfl rfl ble rfl s_ ?_
 refine jJ (fun i => false) kR ?_
 refine gr 0 rfl (bD rfl) ?_
 refine gr 1 rfl (bD rfl) ?_
 refine gr 2 rfl (bD rfl) ?_
 refine gr 3 rfl (bD rfl) ?_
 refine gr 4 rfl (bD rfl) ?_
 refine gr 5 rfl (bD rfl) ?_
 refine gr 6 rfl (aF (e := 57) (n := 2) kR rfl rfl oM oM) ?_
 refine gr 8 rfl (bD rfl) ?_
 refine gr 9 rfl (bD rfl) ?_
 refine gr 10 rfl (aF (e := 57) (n := 2) kR rfl rfl oM oM) ?_
 refine kL (i := 7) (j := 11) rfl rfl rfl rfl kR rfl rfl ?_ ?_
 ·refine fU dE (eC t rfl (bQ _ _ _) rfl (by rw [← gq1]; congr 1; omega) (by rw [← gq2]; congr 1; omega) kR) (gk ?_)
  refine gn 11 rfl (fU dE (eC t rfl (bQ _ _ _) rfl (by rw [← gp1]; congr 1; omega) (by rw [← gp2]; congr 1; omega) kR) (gk ?_))
  refine gn 12 rfl (fU dE (aF (e := 57) (n := 2) kR rfl rfl oM oM) (gk ?_))
  refine gn 13 rfl (j8 t rfl rfl (bQ _ _ _) rfl (by simp only [bY, hlen]; omega) rfl rfl (gk ?_))
  refine gn 14 rfl (fU dE (aF (e := 57) (n := 2) kR rfl rfl oM oM) (gk ?_))
  refine gn 15 rfl (j8 t rfl rfl (bQ _ _ _) rfl (by simp only [bY, List.length_set, hlen]; omega) rfl rfl (gk ?_))
  refine eE kR ?_
  refine d7 (.inr rfl) rfl fun w_ s_ => ⟨rfl, ?_⟩
  have s2 := s_.row_last
  simp only [bY, Int.toNat_natCast] at s2
  rw [e1, e2] at s2
  exact s2.row_last
 ·refine fU dE (eC t rfl (bQ _ _ _) rfl (by rw [← gp1]; congr 1; omega) (by rw [← gp2]; congr 1; omega) kR) (gk ?_)
  refine gn 7 rfl (fU dE (eC t rfl (bQ _ _ _) rfl (by rw [← gq1]; congr 1; omega) (by rw [← gq2]; congr 1; omega) kR) (gk ?_))
  refine gn 12 rfl (fU dE (aF (e := 57) (n := 2) kR rfl rfl oM oM) (gk ?_))
  refine gn 13 rfl (j8 t rfl rfl (bQ _ _ _) rfl (by simp only [bY, hlen]; omega) rfl rfl (gk ?_))
  refine gn 14 rfl (fU dE (aF (e := 57) (n := 2) kR rfl rfl oM oM) (gk ?_))
  refine gn 15 rfl (j8 t rfl rfl (bQ _ _ _) rfl (by simp only [bY, List.length_set, hlen]; omega) rfl rfl (gk ?_))
  refine eE kR ?_
  refine d7 (.inr rfl) rfl fun w_ s_ => ⟨rfl, ?_⟩
  have s2 := s_.row_last
  simp only [bY, Int.toNat_natCast] at s2
  rw [e1, e2] at s2
  exact s2.row_last
section
variable {P : Program} {Q : Exit → Act → World → Prop} {K : Act → World → Prop} {N dd : Nat} {L : Fr.Loc} {v : Value} {ty : TypeId} {pos : String} {aft : Array Edge}
theorem iC {x : Operand} {asl : List Operand} {ats : Array TypeId} {t b n c : Nat} {d : Array Int} {i j : Int} (p q : Nat) (hx : ev L x = some (nI b n c)) (ha : Fr.evs L asl = some [iV i, iV j]) (hd : d.size = n) (hi : i = p) (hj : j = q) (hp : p < n) (hq : q < n)
  (hn : GK K N ((dd, .bool (ltInt d[p]! d[q]!)) :: L) F w0 B H ((t, bY 57 b n c d) :: S)) (hdd : dd < N := by decide) : GO Tryz.prog ⟨some dd, .call ⟨.invoke x "Less", asl.toArray, ats⟩, ty, pos, aft, none⟩ Q K N L F w0 B H ((t, bY 57 b n c d) :: S) :=
 rZ (f := 175) hdd hx kW kR ha (fun w_ s_ => aBl hd p q hi hj hp hq w_ s_) hn
theorem gI {x : Operand} {asl : List Operand} {ats : Array TypeId} {t b n c : Nat} {d : Array Int} {i j : Int} (p q : Nat) (hx : ev L x = some (nI b n c)) (ha : Fr.evs L asl = some [iV i, iV j]) (hd : d.size = n) (hi : i = p) (hj : j = q) (hp : p < n) (hq : q < n)
  (hn : GK K N ((dd, .tuple #[]) :: L) F w0 B H ((t, bY 57 b n c (swp d p q)) :: S)) (hdd : dd < N := by decide) : GO Tryz.prog ⟨some dd, .call ⟨.invoke x "Swap", asl.toArray, ats⟩, ty, pos, aft, none⟩ Q K N L F w0 B H ((t, bY 57 b n c d) :: S) :=
 vM (ι := Unit) (f := 176) (fun _ => .tuple #[]) (fun _ => True) (fun _ => B) (fun _ => H) (fun _ => ((t, bY 57 b n c (swp d p q)) :: S)) hdd hx kW kR ha (fun w_ s_ => (aA8 hd p q hi hj hp hq w_ s_).mono fun e w' ⟨he, hs⟩ => ⟨(), trivial, he, hs⟩) (fun _ _ => hn)
theorem iH {f : FuncId} {asl : List Operand} {ats : Array TypeId} {args : List Value} (v : Value) {B' : LN} {H' : LV} {S' : LS} (ha : Fr.evs L asl = some args) (hc : ∀ w, Sees F w0 B H S w → Calls P f args.toArray w fun e w' => e = .returned v ∧ Sees F w0 B' H' S' w')
  (hn : GK K N ((dd, v) :: L) F w0 B' H' S') (hdd : dd < N := by decide) (hf : fO P f = true := by kernel_rfl) : GO P ⟨some dd, .call ⟨.value (.func f), asl.toArray, ats⟩, ty, pos, aft, none⟩ Q K N L F w0 B H S :=
 dR (ι := Unit) (fun _ => v) (fun _ => True) (fun _ => B') (fun _ => H') (fun _ => S') hdd hf ha (fun w s => (hc w s).mono fun e w' ⟨he, hs⟩ => ⟨(), trivial, he, hs⟩) (fun _ _ => hn)
theorem lA {ι : Type} {f : FuncId} {asl : List Operand} {ats : Array TypeId} {args : List Value} (V : ι → Value) (Pr : ι → Prop) (Sx : ι → LS) (ha : Fr.evs L asl = some args) (hc : ∀ w, Sees F w0 B H S w → Calls P f args.toArray w fun e w' => ∃ x, Pr x ∧ e = .returned (V x) ∧ Sees F w0 B H (Sx x) w')
  (hn : ∀ x, Pr x → GK K N ((dd, V x) :: L) F w0 B H (Sx x)) (hdd : dd < N := by decide) (hf : fO P f = true := by kernel_rfl) : GO P ⟨some dd, .call ⟨.value (.func f), asl.toArray, ats⟩, ty, pos, aft, none⟩ Q K N L F w0 B H S :=
 dR V Pr (fun _ => B) (fun _ => H) Sx hdd hf ha hc hn
end
theorem yS (a j : Nat) (d : Array Int) (hj : a < j) (hl : ltInt d[j]! d[j - 1]! = true) : insInner ltInt a j d = insInner ltInt a (j - 1) (swp d j (j - 1)) := by
 obtain ⟨k, rfl⟩ : ∃ k, j = k + 1 := ⟨j - 1, by omega⟩
 rw [Nat.add_sub_cancel] at hl ⊢
 conv => lhs; unfold insInner
 rw [if_pos (by rw [decide_eq_true hj, hl]; rfl)]
theorem oO (a j : Nat) (d : Array Int) (h : j ≤ a ∨ ltInt d[j]! d[j - 1]! = false) : insInner ltInt a j d = d := by
 cases j with
 | zero => rfl
 | succ j =>
  rw [Nat.add_sub_cancel] at h
  unfold insInner
  rw [if_neg]
  intro hh
  rw [Bool.and_eq_true, decide_eq_true_eq] at hh
  rcases h with h | h
  ·omega
  ·rw [h] at hh; exact absurd hh.2 dE
theorem rJ (a b i : Nat) (d : Array Int) (h : i < b) : insOuter ltInt a b i d = insOuter ltInt a b (i + 1) (insInner ltInt a i d) := by rw [insOuter, if_pos h]
theorem u4 (a b i : Nat) (d : Array Int) (h : ¬ i < b) : insOuter ltInt a b i d = d := by rw [insOuter, if_neg h]
theorem r7 {t b n c : Nat} {d : Array Int} (hd : d.size = n) (hn : n ≤ 1000000000) (a e : Nat) (ha : a ≤ n) (he : e ≤ n) : ∀ w, Sees F w0 B H ((t, bY 57 b n c d) :: S) w → Calls Tryz.prog 127 #[nI b n c, iV a, iV e] w fun e_ w' => e_ = .returned (.tuple #[]) ∧ Sees F w0 B H ((t, bY 57 b n c (insertionSort ltInt d a e)) :: S) w' := by
 intro w s
 refine aI (args := [nI b n c, iV a, iV e]) (L := [(0, nI b n c), (1, iV a), (2, iV e)]) (N := 33) Tryz.func127 rfl rfl ble rfl s ?_
 refine g8 ?_
 refine bJ (ι := (Nat) × (Array Int)) (fun | ⟨i, dk⟩ => e - i) (fun | ⟨i, dk⟩ => (a < i) ∧ (dk.size = n) ∧ (insOuter ltInt a e i dk = insOuter ltInt a e (a + 1) d)) (fun | ⟨i, dk⟩ => [(0, nI b n c), (1, iV a), (2, iV e), (6, iV i)]) (fun | ⟨i, dk⟩ => B) (fun | ⟨i, dk⟩ => H) (fun | ⟨i, dk⟩ => ((t, bY 57 b n c dk) :: S)) ⟨a + 1, d⟩ ⟨by omega, hd, rfl⟩ kno (fun w s => by exact s) ?_
 rintro ⟨i, dk⟩ ⟨hi, hds, hO⟩
 show GC _ _ _ _ [(0, nI b n c), (1, iV a), (2, iV e), (6, iV i)] _ _ (B) (H) (((t, bY 57 b n c dk) :: S))
 refine g8 ?_
 refine aB rfl (fun hc1 => ?_) (fun hc2 => ?_)
 ·have hlt : i < e := by have := oT hc1; omega
  refine g11 ?_
  refine bJ (ι := (Nat) × (Array Int)) (fun | ⟨j, dj⟩ => j) (fun | ⟨j, dj⟩ => (a ≤ j) ∧ (j ≤ i) ∧ (dj.size = n) ∧ (insInner ltInt a j dj = insInner ltInt a i dk)) (fun | ⟨j, dj⟩ => [(0, nI b n c), (1, iV a), (2, iV e), (6, iV i), (7, iV j)]) (fun | ⟨j, dj⟩ => B) (fun | ⟨j, dj⟩ => H) (fun | ⟨j, dj⟩ => ((t, bY 57 b n c dj) :: S)) ⟨i, dk⟩ ⟨by omega, Nat.le_refl _, hds, rfl⟩ kns (fun w s => by exact s) ?_
  rintro ⟨j, dj⟩ ⟨haj, hji, hsj, hI⟩
  show GC _ _ _ _ [(0, nI b n c), (1, iV a), (2, iV e), (6, iV i), (7, iV j)] _ _ (B) (H) (((t, bY 57 b n c dj) :: S))
  refine g2 ?_
  by_cases hja : a < j
  ·refine g3 ?_
   refine rl ((bG rfl rfl).to bT) ?_
   refine g10 ?_
   refine gL (iC (j) (j - 1) rfl rfl hsj oM oM oM oM ?_)
   refine g3 ?_
   refine aB rfl (fun hc1 => ?_) (fun hc2 => ?_)
   ·have hl : ltInt dj[j]! dj[j - 1]! = true := hc1
    refine g9 ?_
    refine gL (gI (j) (j - 1) rfl rfl hsj oM oM oM oM ?_)
    refine g8 ?_
    refine aQ ⟨j - 1, swp dj j (j - 1)⟩ sO ⟨by omega, by omega, by rw [size_swp]; exact hsj, by rw [← hI]; exact (yS a j dj hja hl).symm⟩ kno (fun w s => by exact s)
   ·have hl : ltInt dj[j]! dj[j - 1]! = false := hc2
    have hO2 : insOuter ltInt a e (i + 1) dj = insOuter ltInt a e (a + 1) d := by rw [← hO, rJ a e i dk hlt, ← hI, oO a j dj (.inr hl)]
    refine g11 ?_
    refine aQ ⟨i + 1, dj⟩ sO ⟨by omega, hsj, hO2⟩ kno (fun w s => by exact s)
  ·refine g3 ?_
   refine rZ9 ((bG rfl rfl).to bF) ?_
   have hO2 : insOuter ltInt a e (i + 1) dj = insOuter ltInt a e (a + 1) d := by rw [← hO, rJ a e i dk hlt, ← hI, oO a j dj (.inl oM)]
   refine mQ ?_
   refine aQ ⟨i + 1, dj⟩ sO ⟨by omega, hsj, hO2⟩ kno (fun w s => by exact s)
 ·have hge : ¬ i < e := by have := oF hc2; omega
  refine g4 ?_
  refine d7 (.inr rfl) rfl fun w_ s_ => ⟨rfl, ?_⟩
  rw [show insertionSort ltInt d a e = dk by unfold insertionSort; rw [← hO, u4 a e i dk hge]]
  exact s_
open Go.Sort
theorem uV {t b n c : Nat} {d : Array Int} (hd : d.size = n) (hn : n ≤ 1000000000) (a e : Nat) (ha : a ≤ e) (he : e ≤ n) : ∀ w, Sees F w0 B H ((t, bY 57 b n c d) :: S) w → Calls Tryz.prog 131 #[nI b n c, iV a, iV e] w fun e_ w' => e_ = .returned (.tuple #[]) ∧ Sees F w0 B H ((t, bY 57 b n c (reverseRange d a e)) :: S) w' := by
 intro w s
 refine aI (args := [nI b n c, iV a, iV e]) (L := [(0, nI b n c), (1, iV a), (2, iV e)]) (N := 22) Tryz.func131 rfl rfl ble rfl s ?_
 refine g14 ?_
 refine bJ (ι := (Nat) × (Int) × (Nat) × (Array Int)) (fun | ⟨i, z, j, dk⟩ => j - i) (fun | ⟨i, z, j, dk⟩ => (z = j ∨ (z = -1 ∧ j = 0)) ∧ (j ≤ e - 1) ∧ (i ≤ 1000000000) ∧ (dk.size = n) ∧ (reverseLoop i j dk = reverseLoop a (e - 1) d)) (fun | ⟨i, z, j, dk⟩ => [(0, nI b n c), (6, iV i), (7, iV z)]) (fun | ⟨i, z, j, dk⟩ => B) (fun | ⟨i, z, j, dk⟩ => H) (fun | ⟨i, z, j, dk⟩ => ((t, bY 57 b n c dk) :: S)) ⟨a, (e : Int) - 1, e - 1, d⟩ ⟨by omega, Nat.le_refl _, by omega, hd, rfl⟩ kno (fun w s => by exact s) ?_
 rintro ⟨i, z, j, dk⟩ ⟨hz, hj, hi, hds, hO⟩
 show GC _ _ _ _ [(0, nI b n c), (6, iV i), (7, iV z)] _ _ (B) (H) (((t, bY 57 b n c dk) :: S))
 refine g8 ?_
 refine aB rfl (fun hc1 => ?_) (fun hc2 => ?_)
 ·have hlt : i < j := by have := oT hc1; omega
  refine g8 ?_
  refine gL (gI (i) (j) rfl rfl hds oM oM oM oM ?_)
  refine g15 ?_
  refine aQ ⟨i + 1, z - 1, j - 1, swp dk i j⟩ sO ⟨by omega, by omega, by omega, by rw [size_swp]; exact hds, by rw [← hO]; conv => rhs; rw [reverseLoop, if_pos hlt]⟩ kno (fun w s => by exact s)
 ·have hge : ¬ i < j := by have := oF hc2; omega
  refine g4 ?_
  refine d7 (.inr rfl) rfl fun w_ s_ => ⟨rfl, ?_⟩
  rw [show reverseRange d a e = dk by unfold reverseRange; rw [← hO, reverseLoop, if_neg hge]]
  exact s_
theorem aB7 {hi f r ch : Nat} {d : Array Int} (h : ¬ hi ≤ 2 * r + 1) (hch : (ch = 2 * r + 1 ∧ (decide (2 * r + 1 + 1 < hi) && ltInt d[f + (2 * r + 1)]! d[f + (2 * r + 1) + 1]!) = false) ∨ (ch = 2 * r + 2 ∧ 2 * r + 2 < hi ∧ (decide (2 * r + 1 + 1 < hi) && ltInt d[f + (2 * r + 1)]! d[f + (2 * r + 1) + 1]!) = true)) :
  siftDown ltInt hi f r d = if ltInt d[f + r]! d[f + ch]! = false then d else siftDown ltInt hi f ch (swp d (f + r) (f + ch)) := by
 conv => lhs; rw [siftDown]
 rw [dif_neg h]
 rcases hch with ⟨rfl, h2⟩ | ⟨rfl, h3, h2⟩
 ·rw [if_neg (by rw [h2]; decide)]
  cases ltInt d[f + r]! d[f + (2 * r + 1)]! <;> rfl
 ·rw [if_pos h2]
  cases ltInt d[f + r]! d[f + (2 * r + 2)]!
  ·rfl
  ·simp only [Bool.not_true, Bool.false_eq_true, if_false, dif_pos h3]; rfl
theorem tW {t b n c : Nat} {d : Array Int} (hd : d.size = n) (hn : n ≤ 1000000000) (lo hi f : Nat) (hf : f + hi ≤ n) (hlo : lo ≤ n) : ∀ w, Sees F w0 B H ((t, bY 57 b n c d) :: S) w → Calls Tryz.prog 138 #[nI b n c, iV lo, iV hi, iV f] w fun e_ w' => e_ = .returned (.tuple #[]) ∧ Sees F w0 B H ((t, bY 57 b n c (siftDown ltInt hi f lo d)) :: S) w' := by
 intro w s
 refine aI (args := [nI b n c, iV lo, iV hi, iV f]) (L := [(0, nI b n c), (1, iV lo), (2, iV hi), (3, iV f)]) (N := 52) Tryz.func138 rfl rfl ble rfl s ?_
 refine g7 ?_
 refine bJ (ι := (Nat) × (Array Int)) (fun | ⟨r, dk⟩ => n - r) (fun | ⟨r, dk⟩ => (r ≤ n) ∧ (dk.size = n) ∧ (siftDown ltInt hi f r dk = siftDown ltInt hi f lo d)) (fun | ⟨r, dk⟩ => [(0, nI b n c), (2, iV hi), (3, iV f), (8, iV r)]) (fun | ⟨r, dk⟩ => B) (fun | ⟨r, dk⟩ => H) (fun | ⟨r, dk⟩ => ((t, bY 57 b n c dk) :: S)) ⟨lo, d⟩ ⟨hlo, hd, rfl⟩ kno (fun w s => by exact s) ?_
 rintro ⟨r, dk⟩ ⟨hr, hds, hO⟩
 show GC _ _ _ _ [(0, nI b n c), (2, iV hi), (3, iV f), (8, iV r)] _ _ (B) (H) (((t, bY 57 b n c dk) :: S))
 refine g16 ?_
 refine g1 ?_
 refine aB rfl (fun hc1 => ?_) (fun hc2 => ?_)
 ·have hge : hi ≤ 2 * r + 1 := by have := oT hc1; omega
  refine g5 ?_
  refine d7 (.inr rfl) rfl fun w_ s_ => ⟨rfl, ?_⟩
  rw [← hO]
  conv => arg 5; arg 1; arg 2; arg 5; rw [siftDown, dif_pos hge]
  exact s_
 ·have hlt : ¬ hi ≤ 2 * r + 1 := by have := oF hc2; omega
  refine g2 ?_
  refine cV (ι := (Nat)) (fun ch => ((ch = 2 * r + 1 ∧ (decide (2 * r + 1 + 1 < hi) && ltInt dk[f + (2 * r + 1)]! dk[f + (2 * r + 1) + 1]!) = false) ∨ (ch = 2 * r + 2 ∧ 2 * r + 2 < hi ∧ (decide (2 * r + 1 + 1 < hi) && ltInt dk[f + (2 * r + 1)]! dk[f + (2 * r + 1) + 1]!) = true))) (fun ch => [(0, nI b n c), (2, iV hi), (3, iV f), (8, iV r), (9, iV ch)]) (fun ch => B) (fun ch => H) (fun ch => ((t, bY 57 b n c dk) :: S)) ?_ ?_
  ·refine g1 ?_
   by_cases hin : 2 * r + 2 < hi
   ·refine g4 ?_
    refine rl ((cM rfl rfl).to bT) ?_
    refine g18 ?_
    refine gL (iC (f + (2 * r + 1)) (f + (2 * r + 1) + 1) rfl rfl hds oM oM oM oM ?_)
    refine g3 ?_
    refine aB rfl (fun hc1 => ?_) (fun hc2 => ?_)
    ·have hl1 : ltInt dk[f + (2 * r + 1)]! dk[f + (2 * r + 1) + 1]! = true := hc1
     refine g5 ?_
     refine aO (ι := Nat) (2 * r + 2) (.inr ⟨rfl, hin, by rw [decide_eq_true hin, hl1]; rfl⟩) kno (fun w s => s)
    ·have hl1 : ltInt dk[f + (2 * r + 1)]! dk[f + (2 * r + 1) + 1]! = false := hc2
     refine g1 ?_
     refine aO (ι := Nat) (2 * r + 1) (.inl ⟨rfl, by rw [decide_eq_true hin, hl1]; rfl⟩) kno (fun w s => s)
   ·refine g4 ?_
    refine rl ((cM rfl rfl).to bF) ?_
    refine o6 ?_
    refine aO (ι := Nat) (2 * r + 1) (.inl ⟨rfl, by rw [decide_eq_false hin]; rfl⟩) kno (fun w s => s)
  rintro ch hch
  show GC _ _ _ _ [(0, nI b n c), (2, iV hi), (3, iV f), (8, iV r), (9, iV ch)] _ _ (B) (H) (((t, bY 57 b n c dk) :: S))
  refine g10 ?_
  refine gL (iC (f + r) (f + ch) rfl rfl hds oM oM oM oM ?_)
  refine g3 ?_
  refine aB rfl (fun hc1 => ?_) (fun hc2 => ?_)
  ·have hl : ltInt dk[f + r]! dk[f + ch]! = false := by rw [Bool.not_eq_true'] at hc1; exact hc1
   refine g5 ?_
   refine d7 (.inl rfl) rfl fun w_ s_ => ⟨rfl, ?_⟩
   rw [← hO, aB7 hlt hch, if_pos hl]
   exact s_
  ·have hl : ltInt dk[f + r]! dk[f + ch]! = true := by rw [Bool.not_eq_false'] at hc2; exact hc2
   refine g11 ?_
   refine gL (gI (f + r) (f + ch) rfl rfl hds oM oM oM oM ?_)
   refine g7 ?_
   refine aQ ⟨ch, swp dk (f + r) (f + ch)⟩ sO ⟨by omega, by rw [size_swp]; exact hds, by rw [← hO, aB7 hlt hch, if_neg (by rw [hl]; decide)]⟩ kno (fun w s => by exact s)
theorem aCv (hi f : Nat) : ∀ (r : Nat) (x : Array Int), (siftDown ltInt hi f r x).size = x.size := by
 have key : ∀ (m r : Nat) (x : Array Int), hi - r ≤ m → (siftDown ltInt hi f r x).size = x.size := by
  intro m
  induction m with
  | zero => intro r x hm; rw [siftDown, dif_pos oM]
  | succ m ih =>
   intro r x hm
   rw [siftDown]
   split
   ·rfl
   ·split
    ·split
     ·rfl
     ·split
      ·rw [ih _ _ oM, size_swp]
      ·rfl
    ·split
     ·rfl
     ·rw [ih _ _ oM, size_swp]
 exact fun r x => key _ r x (Nat.le_refl _)
theorem aAp {t b n c : Nat} {d : Array Int} (hd : d.size = n) (hn : n ≤ 1000000000) (a e : Nat) (ha : a < e) (he : e ≤ n) : ∀ w, Sees F w0 B H ((t, bY 57 b n c d) :: S) w → Calls Tryz.prog 128 #[nI b n c, iV a, iV e] w fun e_ w' => e_ = .returned (.tuple #[]) ∧ Sees F w0 B H ((t, bY 57 b n c (heapSort ltInt d a e)) :: S) w' := by
 intro w s
 have hsz : ∀ (hi f r : Nat) (x : Array Int), (siftDown ltInt hi f r x).size = x.size := aCv
 refine aI (args := [nI b n c, iV a, iV e]) (L := [(0, nI b n c), (1, iV a), (2, iV e)]) (N := 44) Tryz.func128 rfl rfl ble rfl s ?_
 refine g25 ?_
 refine g4 ?_
 refine bJ (ι := (Nat) × (Array Int)) (fun | ⟨k, dk⟩ => k) (fun | ⟨k, dk⟩ => (k ≤ (e - a - 1) / 2 + 1) ∧ (dk.size = n) ∧ (heapBuild ltInt (e - a) a k dk = heapBuild ltInt (e - a) a ((e - a - 1) / 2 + 1) d)) (fun | ⟨k, dk⟩ => [(0, nI b n c), (6, iV a), (7, iV 0), (8, iV (((e - a : Nat) : Int))), (9, iV ((k : Int) - 1))]) (fun | ⟨k, dk⟩ => B) (fun | ⟨k, dk⟩ => H) (fun | ⟨k, dk⟩ => ((t, bY 57 b n c dk) :: S)) ⟨(e - a - 1) / 2 + 1, d⟩ ⟨Nat.le_refl _, hd, rfl⟩ kno (fun w s => by exact s) ?_
 rintro ⟨k, dk⟩ ⟨hk, hds, hO⟩
 show GC _ _ _ _ [(0, nI b n c), (6, iV a), (7, iV 0), (8, iV (((e - a : Nat) : Int))), (9, iV ((k : Int) - 1))] _ _ (B) (H) (((t, bY 57 b n c dk) :: S))
 refine g7 ?_
 refine aB rfl (fun hc1 => ?_) (fun hc2 => ?_)
 ·have hk1 : 1 ≤ k := by have := oT hc1; omega
  obtain ⟨k, rfl⟩ : ∃ m, k = m + 1 := ⟨k - 1, by omega⟩
  have e1 : ((k + 1 : Nat) : Int) - 1 = (k : Int) := by omega
  rw [e1]
  refine g9 ?_
  refine gL (iH (.tuple #[]) (S' := ((t, bY 57 b n c (siftDown ltInt (e - a) a k dk)) :: S)) rfl (fun w_ s_ => tW hds hn k (e - a) a oM oM w_ s_) ?_)
  refine g8 ?_
  refine aQ ⟨k, siftDown ltInt (e - a) a k dk⟩ sO ⟨by omega, by rw [hsz]; exact hds, hO⟩ kno (fun w s => by exact s)
 ·obtain rfl : k = 0 := by have := oF hc2; omega
  have hO : dk = heapBuild ltInt (e - a) a ((e - a - 1) / 2 + 1) d := hO
  refine g13 ?_
  refine bJ (ι := (Nat) × (Array Int)) (fun | ⟨k, dj⟩ => k) (fun | ⟨k, dj⟩ => (k ≤ e - a) ∧ (dj.size = n) ∧ (heapPop ltInt a k dj = heapSort ltInt d a e)) (fun | ⟨k, dj⟩ => [(0, nI b n c), (6, iV a), (7, iV 0), (8, iV (((e - a : Nat) : Int))), (10, iV ((k : Int) - 1))]) (fun | ⟨k, dj⟩ => B) (fun | ⟨k, dj⟩ => H) (fun | ⟨k, dj⟩ => ((t, bY 57 b n c dj) :: S)) ⟨e - a, dk⟩ ⟨Nat.le_refl _, hds, by unfold heapSort; rw [← hO]⟩ kno (fun w s => by exact s) ?_
  rintro ⟨k, dj⟩ ⟨hk, hds2, hO2⟩
  show GC _ _ _ _ [(0, nI b n c), (6, iV a), (7, iV 0), (8, iV (((e - a : Nat) : Int))), (10, iV ((k : Int) - 1))] _ _ (B) (H) (((t, bY 57 b n c dj) :: S))
  refine g7 ?_
  refine aB rfl (fun hc1 => ?_) (fun hc2 => ?_)
  ·have hk1 : 1 ≤ k := by have := oT hc1; omega
   obtain ⟨k, rfl⟩ : ∃ m, k = m + 1 := ⟨k - 1, by omega⟩
   have e1 : ((k + 1 : Nat) : Int) - 1 = (k : Int) := by omega
   rw [e1]
   refine g11 ?_
   refine gL (gI (a) (a + k) rfl rfl hds2 oM oM oM oM ?_)
   refine g7 ?_
   refine gL (iH (.tuple #[]) (S' := ((t, bY 57 b n c (siftDown ltInt k a 0 (swp dj a (a + k)))) :: S)) rfl (fun w_ s_ => tW (d := swp dj a (a + k)) (by rw [size_swp]; exact hds2) hn 0 k a oM oM w_ s_) ?_)
   refine g8 ?_
   refine aQ ⟨k, siftDown ltInt k a 0 (swp dj a (a + k))⟩ sO ⟨by omega, by rw [hsz, size_swp]; exact hds2, hO2⟩ kno (fun w s => by exact s)
  ·obtain rfl : k = 0 := by have := oF hc2; omega
   have hO2 : dj = heapSort ltInt d a e := hO2
   refine g4 ?_
   refine d7 (.inr rfl) rfl fun w_ s_ => ⟨rfl, ?_⟩
   rw [← hO2]
   exact s_
open Go.Sort
theorem aEd {p : Int → Bool} {d : Array Int} {j i : Nat} (h : i ≤ j) (hp : p d[i]! = true) : scanUp p d j (i + 1) = scanUp p d j i := by conv => rhs; rw [scanUp, if_pos (by rw [decide_eq_true h, hp]; rfl)]
theorem nV {p : Int → Bool} {d : Array Int} {j i : Nat} (h : ¬ i ≤ j ∨ p d[i]! = false) : i = scanUp p d j i := by
 rw [scanUp, if_neg]
 intro hh
 rw [Bool.and_eq_true, decide_eq_true_eq] at hh
 rcases h with h | h
 ·exact h hh.1
 ·rw [h] at hh; exact absurd hh.2 dE
theorem aFr {p : Int → Bool} {d : Array Int} {i j : Nat} (h1 : 1 ≤ j) (h : i ≤ j) (hp : p d[j]! = true) : scanDown p d i (j - 1) = scanDown p d i j := by
 obtain ⟨k, rfl⟩ : ∃ k, j = k + 1 := ⟨j - 1, by omega⟩
 conv => rhs; rw [scanDown, if_pos (by rw [decide_eq_true h, hp]; rfl)]
 rfl
theorem nZ {p : Int → Bool} {d : Array Int} {i j : Nat} (h : ¬ i ≤ j ∨ p d[j]! = false) : j = scanDown p d i j := by
 cases j with
 | zero => rfl
 | succ k =>
  rw [scanDown, if_neg]
  intro hh
  rw [Bool.and_eq_true, decide_eq_true_eq] at hh
  rcases h with h | h
  ·exact h hh.1
  ·rw [h] at hh; exact absurd hh.2 dE
theorem tI {p q : Int → Bool} (hq : ∀ x, q x = !p x) {d : Array Int} {i j : Nat} (hi : 1 ≤ i) (hij : i ≤ j + 1) (h : ¬ scanUp p d j i > scanDown q d (scanUp p d j i) j) : scanUp p d j i < scanDown q d (scanUp p d j i) j := by
 have hu := scanUp_spec p d j _ i rfl
 have hd := scanDown_spec q d (scanUp p d j i) j
 rcases Nat.lt_or_ge (scanUp p d j i) (scanDown q d (scanUp p d j i) j) with h' | h'
 ·exact h'
 ·exfalso
  have e : scanUp p d j i = scanDown q d (scanUp p d j i) j := by omega
  have h1 := hu.2.2.2 oM
  have h2 := hd.2.2.2 oM oM
  rw [← e, hq, h1] at h2
  exact absurd h2 dE
theorem xJ (p q : Int → Bool) (d : Array Int) {i j : Nat} (hij : i ≤ j + 1) : i ≤ scanUp p d j i ∧ scanUp p d j i ≤ j + 1 ∧ scanDown q d (scanUp p d j i) j ≤ j ∧ scanUp p d j i ≤ scanDown q d (scanUp p d j i) j + 1 := by
 have hu := scanUp_spec p d j _ i rfl
 have hd := scanDown_spec q d (scanUp p d j i) j
 exact ⟨hu.1, hu.2.1 hij, hd.1, hd.2.1 (hu.2.1 hij)⟩
theorem sA {t b n c : Nat} {d : Array Int} (hd : d.size = n) (hn : n ≤ 1000000000) (a e p : Nat) (ha : a ≤ p) (hp0 : p < e) (he : e ≤ n) : ∀ w, Sees F w0 B H ((t, bY 57 b n c d) :: S) w → Calls Tryz.prog 134 #[nI b n c, iV a, iV e, iV p] w fun e_ w' => e_ = .returned (.tuple #[iV ((partition ltInt d a e p).1 : Nat), .bool (partition ltInt d a e p).2.1]) ∧ Sees F w0 B H ((t, bY 57 b n c (partition ltInt d a e p).2.2) :: S) w' := by
 intro w s
 refine aI (args := [nI b n c, iV a, iV e, iV p]) (L := [(0, nI b n c), (1, iV a), (2, iV e), (3, iV p)]) (N := 98) Tryz.func134 rfl rfl ble rfl s ?_
 refine g11 ?_
 refine gL (gI a p rfl rfl hd rfl rfl oM oM ?_)
 obtain ⟨d1, hd1⟩ : ∃ x, x = swp d a p := ⟨_, rfl⟩
 rw [← hd1]
 have hds : d1.size = n := by rw [hd1, size_swp]; exact hd
 refine g12 ?_
 refine cV (ι := (Nat)) (fun i => (i = scanUp (fun x => ltInt x d1[a]!) d1 (e - 1) (a + 1)) ∧ (1 ≤ i ∧ i ≤ e - 1 + 1)) (fun i => [(0, nI b n c), (1, iV a), (10, iV i), (11, iV ((e : Int) - 1))]) (fun i => B) (fun i => H) (fun i => ((t, bY 57 b n c d1) :: S)) ?_ ?_
 ·refine g1 ?_
  refine bJ (ι := (Nat)) (fun i => e - 1 + 1 - i) (fun i => (1 ≤ i ∧ i ≤ e - 1 + 1) ∧ (scanUp (fun x => ltInt x d1[a]!) d1 (e - 1) i = scanUp (fun x => ltInt x d1[a]!) d1 (e - 1) (a + 1))) (fun i => [(0, nI b n c), (1, iV a), (10, iV i), (11, iV ((e : Int) - 1))]) (fun i => B) (fun i => H) (fun i => ((t, bY 57 b n c d1) :: S)) (a + 1) ⟨by omega, rfl⟩ kno (fun w s => by exact s) ?_
  rintro i ⟨hv, hsc⟩
  show GC _ _ _ _ [(0, nI b n c), (1, iV a), (10, iV i), (11, iV ((e : Int) - 1))] _ _ (B) (H) (((t, bY 57 b n c d1) :: S))
  refine g2 ?_
  by_cases hin : i ≤ e - 1
  ·refine g3 ?_
   refine rl ((gV rfl rfl).to bT) ?_
   refine g8 ?_
   refine gL (iC (i) (a) rfl rfl hds oM oM oM oM ?_)
   refine g3 ?_
   refine aB rfl (fun hc1 => ?_) (fun hc2 => ?_)
   ·have hp : (fun x => ltInt x d1[a]!) d1[i]! = true := hc1
    refine g9 ?_
    refine aQ (i + 1) oM ⟨by omega, (aEd hin hp).trans hsc⟩ kno (fun w s => by exact s)
   ·have hp : (fun x => ltInt x d1[a]!) d1[i]! = false := hc2
    refine g4 ?_
    refine aO (ι := Nat) i ⟨(nV (p := (fun x => ltInt x d1[a]!)) (.inr hp)).trans hsc, by omega⟩ kno (fun w s => s)
  ·refine g3 ?_
   refine rl ((gV rfl rfl).to bF) ?_
   refine jT ?_
   refine aO (ι := Nat) i ⟨(nV (p := (fun x => ltInt x d1[a]!)) (.inl hin)).trans hsc, by omega⟩ kno (fun w s => s)
 rintro i ⟨hi, hbi⟩
 show GC _ _ _ _ [(0, nI b n c), (1, iV a), (10, iV i), (11, iV ((e : Int) - 1))] _ _ (B) (H) (((t, bY 57 b n c d1) :: S))
 refine cV (ι := (Nat)) (fun j => (j = scanDown (fun x => !ltInt x d1[a]!) d1 (i) (e - 1)) ∧ (j ≤ e - 1 ∧ i ≤ j + 1)) (fun j => [(0, nI b n c), (1, iV a), (11, iV j), (10, iV i)]) (fun j => B) (fun j => H) (fun j => ((t, bY 57 b n c d1) :: S)) ?_ ?_
 ·refine g1 ?_
  refine bJ (ι := (Nat)) (fun j => j) (fun j => (j ≤ e - 1 ∧ i ≤ j + 1) ∧ (scanDown (fun x => !ltInt x d1[a]!) d1 (i) j = scanDown (fun x => !ltInt x d1[a]!) d1 (i) (e - 1))) (fun j => [(0, nI b n c), (1, iV a), (11, iV j), (10, iV i)]) (fun j => B) (fun j => H) (fun j => ((t, bY 57 b n c d1) :: S)) (e - 1) ⟨by omega, rfl⟩ kno (fun w s => by exact s) ?_
  rintro j ⟨hv, hsc⟩
  show GC _ _ _ _ [(0, nI b n c), (1, iV a), (11, iV j), (10, iV i)] _ _ (B) (H) (((t, bY 57 b n c d1) :: S))
  refine g2 ?_
  by_cases hin : i ≤ j
  ·refine g3 ?_
   refine rl ((gV rfl rfl).to bT) ?_
   refine g8 ?_
   refine gL (iC (j) (a) rfl rfl hds oM oM oM oM ?_)
   refine g5 ?_
   refine aB rfl (fun hc1 => ?_) (fun hc2 => ?_)
   ·have hp : (fun x => !ltInt x d1[a]!) d1[j]! = true := hc1
    refine g9 ?_
    refine aQ (j - 1) oM ⟨by omega, (aFr oM hin hp).trans hsc⟩ kno (fun w s => by exact s)
   ·have hp : (fun x => !ltInt x d1[a]!) d1[j]! = false := hc2
    refine g4 ?_
    refine aO (ι := Nat) j ⟨(nZ (p := (fun x => !ltInt x d1[a]!)) (.inr hp)).trans hsc, by omega⟩ kno (fun w s => s)
  ·refine g3 ?_
   refine rl ((gV rfl rfl).to bF) ?_
   refine lJ ?_
   refine aO (ι := Nat) j ⟨(nZ (p := (fun x => !ltInt x d1[a]!)) (.inl hin)).trans hsc, by omega⟩ kno (fun w s => s)
 rintro j ⟨hj, hbj⟩
 show GC _ _ _ _ [(0, nI b n c), (1, iV a), (11, iV j), (10, iV i)] _ _ (B) (H) (((t, bY 57 b n c d1) :: S))
 refine g8 ?_
 refine aB rfl (fun hc1 => ?_) (fun hc2 => ?_)
 ·have hgt : i > j := by have := oT hc1; omega
  refine g5 ?_
  refine gL (gI (j) (a) rfl rfl hds oM oM oM oM ?_)
  refine g11 ?_
  have hP : partition ltInt d a e p = (j, true, swp d1 j a) := by unfold partition; simp only [← hd1, ← hi, ← hj]; rw [if_pos hgt]
  rw [hP]
  refine dQ (.inl rfl) rfl (aD rfl) (aD rfl) fun w_ s_ => ⟨rfl, ?_⟩
  exact s_
 ·have hgt : ¬ i > j := by have := oF hc2; omega
  have hne := tI (p := (fun x => ltInt x d1[a]!)) (q := (fun x => !ltInt x d1[a]!)) (fun x => rfl) (d := d1) (i := a + 1) (j := e - 1) oM oM (by rw [← hi, ← hj]; exact hgt)
  rw [← hi, ← hj] at hne
  have hbu0 := xJ (fun x => ltInt x d1[a]!) (fun x => !ltInt x d1[a]!) d1 (i := a + 1) (j := e - 1) oM
  rw [← hi, ← hj] at hbu0
  obtain ⟨d2, hd2⟩ : ∃ x, x = swp d1 i j := ⟨_, rfl⟩
  have hds2 : d2.size = n := by rw [hd2, size_swp]; exact hds
  refine g7 ?_
  refine gL (gI i j rfl rfl hds rfl rfl oM oM ?_)
  rw [← hd2]
  refine g18 ?_
  refine bJ (ι := (Nat) × (Nat) × (Array Int)) (fun | ⟨u, v, dk⟩ => v + 1 - u) (fun | ⟨u, v, dk⟩ => (a < u ∧ u ≤ v + 1 ∧ v < e) ∧ (dk.size = n) ∧ (partLoop ltInt a u v dk = partLoop ltInt a (i + 1) (j - 1) d2)) (fun | ⟨u, v, dk⟩ => [(0, nI b n c), (1, iV a), (10, iV u), (11, iV v)]) (fun | ⟨u, v, dk⟩ => B) (fun | ⟨u, v, dk⟩ => H) (fun | ⟨u, v, dk⟩ => ((t, bY 57 b n c dk) :: S)) ⟨i + 1, j - 1, d2⟩ ⟨by omega, hds2, rfl⟩ kno (fun w s => by exact s) ?_
  rintro ⟨u, v, dk⟩ ⟨huv, hds, hO⟩
  show GC _ _ _ _ [(0, nI b n c), (1, iV a), (10, iV u), (11, iV v)] _ _ (B) (H) (((t, bY 57 b n c dk) :: S))
  refine g1 ?_
  refine cV (ι := (Nat)) (fun u2 => (u2 = scanUp (fun x => ltInt x dk[a]!) dk (v) (u)) ∧ (1 ≤ u2 ∧ u2 ≤ v + 1)) (fun u2 => [(0, nI b n c), (1, iV a), (10, iV u2), (11, iV v)]) (fun u2 => B) (fun u2 => H) (fun u2 => ((t, bY 57 b n c dk) :: S)) ?_ ?_
  ·refine g1 ?_
   refine bJ (ι := (Nat)) (fun u2 => v + 1 - u2) (fun u2 => (1 ≤ u2 ∧ u2 ≤ v + 1) ∧ (scanUp (fun x => ltInt x dk[a]!) dk (v) u2 = scanUp (fun x => ltInt x dk[a]!) dk (v) (u))) (fun u2 => [(0, nI b n c), (1, iV a), (10, iV u2), (11, iV v)]) (fun u2 => B) (fun u2 => H) (fun u2 => ((t, bY 57 b n c dk) :: S)) (u) ⟨by omega, rfl⟩ kno (fun w s => by exact s) ?_
   rintro u2 ⟨hv, hsc⟩
   show GC _ _ _ _ [(0, nI b n c), (1, iV a), (10, iV u2), (11, iV v)] _ _ (B) (H) (((t, bY 57 b n c dk) :: S))
   refine g2 ?_
   by_cases hin : u2 ≤ v
   ·refine g3 ?_
    refine rl ((gV rfl rfl).to bT) ?_
    refine g8 ?_
    refine gL (iC (u2) (a) rfl rfl hds oM oM oM oM ?_)
    refine g3 ?_
    refine aB rfl (fun hc1 => ?_) (fun hc2 => ?_)
    ·have hp : (fun x => ltInt x dk[a]!) dk[u2]! = true := hc1
     refine g9 ?_
     refine aQ (u2 + 1) oM ⟨by omega, (aEd hin hp).trans hsc⟩ kno (fun w s => by exact s)
    ·have hp : (fun x => ltInt x dk[a]!) dk[u2]! = false := hc2
     refine g4 ?_
     refine aO (ι := Nat) u2 ⟨(nV (p := (fun x => ltInt x dk[a]!)) (.inr hp)).trans hsc, by omega⟩ kno (fun w s => s)
   ·refine g3 ?_
    refine rl ((gV rfl rfl).to bF) ?_
    refine jT ?_
    refine aO (ι := Nat) u2 ⟨(nV (p := (fun x => ltInt x dk[a]!)) (.inl hin)).trans hsc, by omega⟩ kno (fun w s => s)
  rintro u2 ⟨hu2, hbu2⟩
  show GC _ _ _ _ [(0, nI b n c), (1, iV a), (10, iV u2), (11, iV v)] _ _ (B) (H) (((t, bY 57 b n c dk) :: S))
  refine cV (ι := (Nat)) (fun v2 => (v2 = scanDown (fun x => !ltInt x dk[a]!) dk (u2) (v)) ∧ (v2 ≤ v ∧ u2 ≤ v2 + 1)) (fun v2 => [(0, nI b n c), (1, iV a), (11, iV v2), (10, iV u2)]) (fun v2 => B) (fun v2 => H) (fun v2 => ((t, bY 57 b n c dk) :: S)) ?_ ?_
  ·refine g1 ?_
   refine bJ (ι := (Nat)) (fun v2 => v2) (fun v2 => (v2 ≤ v ∧ u2 ≤ v2 + 1) ∧ (scanDown (fun x => !ltInt x dk[a]!) dk (u2) v2 = scanDown (fun x => !ltInt x dk[a]!) dk (u2) (v))) (fun v2 => [(0, nI b n c), (1, iV a), (11, iV v2), (10, iV u2)]) (fun v2 => B) (fun v2 => H) (fun v2 => ((t, bY 57 b n c dk) :: S)) (v) ⟨by omega, rfl⟩ kno (fun w s => by exact s) ?_
   rintro v2 ⟨hv, hsc⟩
   show GC _ _ _ _ [(0, nI b n c), (1, iV a), (11, iV v2), (10, iV u2)] _ _ (B) (H) (((t, bY 57 b n c dk) :: S))
   refine g2 ?_
   by_cases hin : u2 ≤ v2
   ·refine g3 ?_
    refine rl ((gV rfl rfl).to bT) ?_
    refine g8 ?_
    refine gL (iC (v2) (a) rfl rfl hds oM oM oM oM ?_)
    refine g5 ?_
    refine aB rfl (fun hc1 => ?_) (fun hc2 => ?_)
    ·have hp : (fun x => !ltInt x dk[a]!) dk[v2]! = true := hc1
     refine g9 ?_
     refine aQ (v2 - 1) oM ⟨by omega, (aFr oM hin hp).trans hsc⟩ kno (fun w s => by exact s)
    ·have hp : (fun x => !ltInt x dk[a]!) dk[v2]! = false := hc2
     refine g4 ?_
     refine aO (ι := Nat) v2 ⟨(nZ (p := (fun x => !ltInt x dk[a]!)) (.inr hp)).trans hsc, by omega⟩ kno (fun w s => s)
   ·refine g3 ?_
    refine rl ((gV rfl rfl).to bF) ?_
    refine lJ ?_
    refine aO (ι := Nat) v2 ⟨(nZ (p := (fun x => !ltInt x dk[a]!)) (.inl hin)).trans hsc, by omega⟩ kno (fun w s => s)
  rintro v2 ⟨hv2, hbv2⟩
  show GC _ _ _ _ [(0, nI b n c), (1, iV a), (11, iV v2), (10, iV u2)] _ _ (B) (H) (((t, bY 57 b n c dk) :: S))
  refine g8 ?_
  refine aB rfl (fun hc1 => ?_) (fun hc2 => ?_)
  ·have hgt : u2 > v2 := by have := oT hc1; omega
   have hend : partLoop ltInt a (i + 1) (j - 1) d2 = (v2, dk) := by rw [← hO, partLoop_eq, ← hu2, ← hv2, if_pos hgt]
   refine g11 ?_
   refine gL (gI (v2) (a) rfl rfl hds oM oM oM oM ?_)
   refine g10 ?_
   have hP : partition ltInt d a e p = (v2, false, swp dk v2 a) := by unfold partition; simp only [← hd1, ← hi, ← hj]; rw [if_neg oM, ← hd2, hend]
   rw [hP]
   refine dQ (.inl rfl) rfl (aD rfl) (aD rfl) fun w_ s_ => ⟨rfl, ?_⟩
   exact s_
  ·have hgt : ¬ u2 > v2 := by have := oF hc2; omega
   have hne := tI (p := (fun x => ltInt x dk[a]!)) (q := (fun x => !ltInt x dk[a]!)) (fun x => rfl) (d := dk) (i := u) (j := v) oM oM (by rw [← hu2, ← hv2]; exact hgt)
   rw [← hu2, ← hv2] at hne
   have hO2 : partLoop ltInt a (u2 + 1) (v2 - 1) (swp dk u2 v2) = partLoop ltInt a (i + 1) (j - 1) d2 := by rw [← hO]; conv => rhs; rw [partLoop_eq, ← hu2, ← hv2, if_neg hgt]
   have hbu := xJ (fun x => ltInt x dk[a]!) (fun x => !ltInt x dk[a]!) dk (i := u) (j := v) oM
   rw [← hu2, ← hv2] at hbu
   refine g7 ?_
   refine gL (gI (u2) (v2) rfl rfl hds oM oM oM oM ?_)
   refine g15 ?_
   refine aQ ⟨u2 + 1, v2 - 1, swp dk u2 v2⟩ sO ⟨by omega, by rw [size_swp]; exact hds, hO2⟩ kno (fun w s => by exact s)
open Go.Sort
theorem xF {t b n c : Nat} {d : Array Int} (hd : d.size = n) (hn : n ≤ 1000000000) (a e p : Nat) (ha : a ≤ p) (hp0 : p < e) (he : e ≤ n) : ∀ w, Sees F w0 B H ((t, bY 57 b n c d) :: S) w → Calls Tryz.prog 133 #[nI b n c, iV a, iV e, iV p] w fun e_ w' => e_ = .returned (iV ((partitionEqual ltInt d a e p).1 : Nat)) ∧ Sees F w0 B H ((t, bY 57 b n c (partitionEqual ltInt d a e p).2) :: S) w' := by
 intro w s
 refine aI (args := [nI b n c, iV a, iV e, iV p]) (L := [(0, nI b n c), (1, iV a), (2, iV e), (3, iV p)]) (N := 54) Tryz.func133 rfl rfl ble rfl s ?_
 refine g10 ?_
 refine gL (gI a p rfl rfl hd rfl rfl oM oM ?_)
 obtain ⟨d1, hd1⟩ : ∃ x, x = swp d a p := ⟨_, rfl⟩
 rw [← hd1]
 have hds1 : d1.size = n := by rw [hd1, size_swp]; exact hd
 refine g14 ?_
 refine bJ (ι := (Nat) × (Nat) × (Array Int)) (fun | ⟨u, v, dk⟩ => v + 1 - u) (fun | ⟨u, v, dk⟩ => (a < u ∧ u ≤ v + 1 ∧ v < e) ∧ (dk.size = n) ∧ (partEqLoop ltInt a u v dk = partEqLoop ltInt a (a + 1) (e - 1) d1)) (fun | ⟨u, v, dk⟩ => [(0, nI b n c), (1, iV a), (9, iV u), (10, iV v)]) (fun | ⟨u, v, dk⟩ => B) (fun | ⟨u, v, dk⟩ => H) (fun | ⟨u, v, dk⟩ => ((t, bY 57 b n c dk) :: S)) ⟨a + 1, e - 1, d1⟩ ⟨by omega, hds1, rfl⟩ kno (fun w s => by exact s) ?_
 rintro ⟨u, v, dk⟩ ⟨huv, hds, hO⟩
 show GC _ _ _ _ [(0, nI b n c), (1, iV a), (9, iV u), (10, iV v)] _ _ (B) (H) (((t, bY 57 b n c dk) :: S))
 refine g1 ?_
 refine cV (ι := (Nat)) (fun u2 => (u2 = scanUp (fun x => !ltInt dk[a]! x) dk (v) (u)) ∧ (1 ≤ u2 ∧ u2 ≤ v + 1)) (fun u2 => [(0, nI b n c), (1, iV a), (9, iV u2), (10, iV v)]) (fun u2 => B) (fun u2 => H) (fun u2 => ((t, bY 57 b n c dk) :: S)) ?_ ?_
 ·refine g1 ?_
  refine bJ (ι := (Nat)) (fun u2 => v + 1 - u2) (fun u2 => (1 ≤ u2 ∧ u2 ≤ v + 1) ∧ (scanUp (fun x => !ltInt dk[a]! x) dk (v) u2 = scanUp (fun x => !ltInt dk[a]! x) dk (v) (u))) (fun u2 => [(0, nI b n c), (1, iV a), (9, iV u2), (10, iV v)]) (fun u2 => B) (fun u2 => H) (fun u2 => ((t, bY 57 b n c dk) :: S)) (u) ⟨by omega, rfl⟩ kno (fun w s => by exact s) ?_
  rintro u2 ⟨hv, hsc⟩
  show GC _ _ _ _ [(0, nI b n c), (1, iV a), (9, iV u2), (10, iV v)] _ _ (B) (H) (((t, bY 57 b n c dk) :: S))
  refine g2 ?_
  by_cases hin : u2 ≤ v
  ·refine g3 ?_
   refine rl ((gV rfl rfl).to bT) ?_
   refine g8 ?_
   refine gL (iC (a) (u2) rfl rfl hds oM oM oM oM ?_)
   refine g5 ?_
   refine aB rfl (fun hc1 => ?_) (fun hc2 => ?_)
   ·have hp : (fun x => !ltInt dk[a]! x) dk[u2]! = true := hc1
    refine g9 ?_
    refine aQ (u2 + 1) oM ⟨by omega, (aEd hin hp).trans hsc⟩ kno (fun w s => by exact s)
   ·have hp : (fun x => !ltInt dk[a]! x) dk[u2]! = false := hc2
    refine g4 ?_
    refine aO (ι := Nat) u2 ⟨(nV (p := (fun x => !ltInt dk[a]! x)) (.inr hp)).trans hsc, by omega⟩ kno (fun w s => s)
  ·refine g3 ?_
   refine rl ((gV rfl rfl).to bF) ?_
   refine lJ ?_
   refine aO (ι := Nat) u2 ⟨(nV (p := (fun x => !ltInt dk[a]! x)) (.inl hin)).trans hsc, by omega⟩ kno (fun w s => s)
 rintro u2 ⟨hu2, hbu2⟩
 show GC _ _ _ _ [(0, nI b n c), (1, iV a), (9, iV u2), (10, iV v)] _ _ (B) (H) (((t, bY 57 b n c dk) :: S))
 refine cV (ι := (Nat)) (fun v2 => (v2 = scanDown (fun x => ltInt dk[a]! x) dk (u2) (v)) ∧ (v2 ≤ v ∧ u2 ≤ v2 + 1)) (fun v2 => [(0, nI b n c), (1, iV a), (10, iV v2), (9, iV u2)]) (fun v2 => B) (fun v2 => H) (fun v2 => ((t, bY 57 b n c dk) :: S)) ?_ ?_
 ·refine g1 ?_
  refine bJ (ι := (Nat)) (fun v2 => v2) (fun v2 => (v2 ≤ v ∧ u2 ≤ v2 + 1) ∧ (scanDown (fun x => ltInt dk[a]! x) dk (u2) v2 = scanDown (fun x => ltInt dk[a]! x) dk (u2) (v))) (fun v2 => [(0, nI b n c), (1, iV a), (10, iV v2), (9, iV u2)]) (fun v2 => B) (fun v2 => H) (fun v2 => ((t, bY 57 b n c dk) :: S)) (v) ⟨by omega, rfl⟩ kno (fun w s => by exact s) ?_
  rintro v2 ⟨hv, hsc⟩
  show GC _ _ _ _ [(0, nI b n c), (1, iV a), (10, iV v2), (9, iV u2)] _ _ (B) (H) (((t, bY 57 b n c dk) :: S))
  refine g2 ?_
  by_cases hin : u2 ≤ v2
  ·refine g3 ?_
   refine rl ((gV rfl rfl).to bT) ?_
   refine g8 ?_
   refine gL (iC (a) (v2) rfl rfl hds oM oM oM oM ?_)
   refine g3 ?_
   refine aB rfl (fun hc1 => ?_) (fun hc2 => ?_)
   ·have hp : (fun x => ltInt dk[a]! x) dk[v2]! = true := hc1
    refine g9 ?_
    refine aQ (v2 - 1) oM ⟨by omega, (aFr oM hin hp).trans hsc⟩ kno (fun w s => by exact s)
   ·have hp : (fun x => ltInt dk[a]! x) dk[v2]! = false := hc2
    refine g4 ?_
    refine aO (ι := Nat) v2 ⟨(nZ (p := (fun x => ltInt dk[a]! x)) (.inr hp)).trans hsc, by omega⟩ kno (fun w s => s)
  ·refine g3 ?_
   refine rl ((gV rfl rfl).to bF) ?_
   refine jT ?_
   refine aO (ι := Nat) v2 ⟨(nZ (p := (fun x => ltInt dk[a]! x)) (.inl hin)).trans hsc, by omega⟩ kno (fun w s => s)
 rintro v2 ⟨hv2, hbv2⟩
 show GC _ _ _ _ [(0, nI b n c), (1, iV a), (10, iV v2), (9, iV u2)] _ _ (B) (H) (((t, bY 57 b n c dk) :: S))
 refine g8 ?_
 refine aB rfl (fun hc1 => ?_) (fun hc2 => ?_)
 ·have hgt : u2 > v2 := by have := oT hc1; omega
  have hend : partitionEqual ltInt d a e p = (u2, dk) := by unfold partitionEqual; rw [← hd1, ← hO, partEqLoop_eq, ← hu2, ← hv2, if_pos hgt]
  refine g13 ?_
  rw [hend]
  refine aT (.inl rfl) rfl (aD rfl) fun w_ s_ => ⟨rfl, ?_⟩
  exact s_
 ·have hgt : ¬ u2 > v2 := by have := oF hc2; omega
  have hne := tI (p := (fun x => !ltInt dk[a]! x)) (q := (fun x => ltInt dk[a]! x)) (fun x => by simp) (d := dk) (i := u) (j := v) oM oM (by rw [← hu2, ← hv2]; exact hgt)
  rw [← hu2, ← hv2] at hne
  have hO2 : partEqLoop ltInt a (u2 + 1) (v2 - 1) (swp dk u2 v2) = partEqLoop ltInt a (a + 1) (e - 1) d1 := by rw [← hO]; conv => rhs; rw [partEqLoop_eq, ← hu2, ← hv2, if_neg hgt]
  have hbu := xJ (fun x => !ltInt dk[a]! x) (fun x => ltInt dk[a]! x) dk (i := u) (j := v) oM
  rw [← hu2, ← hv2] at hbu
  refine g7 ?_
  refine gL (gI (u2) (v2) rfl rfl hds oM oM oM oM ?_)
  refine g15 ?_
  refine aQ ⟨u2 + 1, v2 - 1, swp dk u2 v2⟩ sO ⟨by omega, by rw [size_swp]; exact hds, hO2⟩ kno (fun w s => by exact s)
theorem vK {d : Array Int} {b i : Nat} (h : i < b) (hl : ltInt d[i]! d[i - 1]! = false) : scanSorted ltInt d b (i + 1) = scanSorted ltInt d b i := by conv => rhs; rw [scanSorted, if_pos (by rw [decide_eq_true h, hl]; rfl)]
theorem kG {d : Array Int} {b i : Nat} (h : ¬ i < b ∨ ltInt d[i]! d[i - 1]! = true) : i = scanSorted ltInt d b i := by
 rw [scanSorted, if_neg]
 intro hh
 rw [Bool.and_eq_true, decide_eq_true_eq] at hh
 rcases h with h | h
 ·exact h hh.1
 ·rw [h] at hh; exact absurd hh.2 dE
theorem aIe {d : Array Int} {j : Nat} (h1 : 1 ≤ j) (hl : ltInt d[j]! d[j - 1]! = true) : shiftDown ltInt (j - 1) (swp d j (j - 1)) = shiftDown ltInt j d := by
 obtain ⟨k, rfl⟩ : ∃ k, j = k + 1 := ⟨j - 1, by omega⟩
 rw [Nat.add_sub_cancel] at hl
 conv => rhs; rw [shiftDown, if_neg (by rw [hl]; decide)]
 rfl
theorem zB {d : Array Int} {j : Nat} (h : j = 0 ∨ ltInt d[j]! d[j - 1]! = false) : shiftDown ltInt j d = d := by
 cases j with
 | zero => rfl
 | succ k =>
  rcases h with h | h
  ·omega
  ·rw [Nat.add_sub_cancel] at h
   rw [shiftDown, if_pos (by rw [h]; rfl)]
theorem aHg {d : Array Int} {b j : Nat} (h1 : j < b) (hl : ltInt d[j]! d[j - 1]! = true) : shiftUp ltInt b (j + 1) (swp d j (j - 1)) = shiftUp ltInt b j d := by
 conv => rhs; rw [shiftUp, if_pos h1, if_neg (by rw [hl]; decide)]
theorem zK {d : Array Int} {b j : Nat} (h : ¬ j < b ∨ ltInt d[j]! d[j - 1]! = false) : shiftUp ltInt b j d = d := by
 rw [shiftUp]
 rcases h with h | h
 ·rw [if_neg h]
 ·by_cases hb : j < b
  ·rw [if_pos hb, if_pos (by rw [h]; rfl)]
  ·rw [if_neg hb]
theorem vR (d : Array Int) (b : Nat) : ∀ (m i : Nat), b - i ≤ m → i ≤ b → i ≤ scanSorted ltInt d b i ∧ scanSorted ltInt d b i ≤ b
 | 0, i, hm, hi => by rw [← kG (.inl oM)]; omega
 | m + 1, i, hm, hi => by
  by_cases h : i < b
  ·cases hl : ltInt d[i]! d[i - 1]! with
   | true => rw [← kG (.inr hl)]; omega
   | false =>
    rw [← vK h hl]
    have := vR d b m (i + 1) oM oM
    omega
  ·rw [← kG (.inl h)]; omega
theorem uX {t b n c : Nat} {d : Array Int} (hd : d.size = n) (hn : n ≤ 1000000000) (a e : Nat) (ha : a < e) (he : e ≤ n) : ∀ w, Sees F w0 B H ((t, bY 57 b n c d) :: S) w → Calls Tryz.prog 132 #[nI b n c, iV a, iV e] w fun e_ w' => e_ = .returned (.bool (partialInsertionSort ltInt d a e).2) ∧ Sees F w0 B H ((t, bY 57 b n c (partialInsertionSort ltInt d a e).1) :: S) w' := by
 intro w s
 refine aI (args := [nI b n c, iV a, iV e]) (L := [(0, nI b n c), (1, iV a), (2, iV e)]) (N := 85) Tryz.func132 rfl rfl ble rfl s ?_
 refine g18 ?_
 refine g1 ?_
 refine bJ (ι := (Nat) × (Nat) × (Array Int)) (fun | ⟨k, i, dk⟩ => k) (fun | ⟨k, i, dk⟩ => (k ≤ 5) ∧ (a < i ∧ i ≤ e) ∧ (dk.size = n) ∧ (partialIns ltInt a e k i dk = partialInsertionSort ltInt d a e)) (fun | ⟨k, i, dk⟩ => [(0, nI b n c), (1, iV a), (2, iV e), (7, iV i), (8, iV (5 - (k : Int)))]) (fun | ⟨k, i, dk⟩ => B) (fun | ⟨k, i, dk⟩ => H) (fun | ⟨k, i, dk⟩ => ((t, bY 57 b n c dk) :: S)) ⟨5, a + 1, d⟩ ⟨by omega, by omega, hd, rfl⟩ kno (fun w s => by exact s) ?_
 rintro ⟨k, i, dk⟩ ⟨hk, hi0, hds, hO⟩
 show GC _ _ _ _ [(0, nI b n c), (1, iV a), (2, iV e), (7, iV i), (8, iV (5 - (k : Int)))] _ _ (B) (H) (((t, bY 57 b n c dk) :: S))
 refine g7 ?_
 refine aB rfl (fun hc1 => ?_) (fun hc2 => ?_)
 ·have hk1 : 1 ≤ k := by have := oT hc1; omega
  obtain ⟨k, rfl⟩ : ∃ m, k = m + 1 := ⟨k - 1, by omega⟩
  have hsb := vR dk e _ i (Nat.le_refl _) hi0.2
  refine g4 ?_
  refine cV (ι := (Nat)) (fun i2 => (i2 = scanSorted ltInt dk e i) ∧ (a < i2 ∧ i2 ≤ e)) (fun i2 => [(0, nI b n c), (1, iV a), (2, iV e), (7, iV i2), (8, iV (5 - ((k + 1 : Nat) : Int)))]) (fun i2 => B) (fun i2 => H) (fun i2 => ((t, bY 57 b n c dk) :: S)) ?_ ?_
  ·refine g1 ?_
   refine bJ (ι := (Nat)) (fun i2 => e - i2) (fun i2 => (a < i2 ∧ i2 ≤ e) ∧ (scanSorted ltInt dk e i2 = scanSorted ltInt dk e i)) (fun i2 => [(0, nI b n c), (1, iV a), (2, iV e), (7, iV i2), (8, iV (5 - ((k + 1 : Nat) : Int)))]) (fun i2 => B) (fun i2 => H) (fun i2 => ((t, bY 57 b n c dk) :: S)) (i) ⟨by omega, rfl⟩ kno (fun w s => by exact s) ?_
   rintro i2 ⟨hv, hsc⟩
   show GC _ _ _ _ [(0, nI b n c), (1, iV a), (2, iV e), (7, iV i2), (8, iV (5 - ((k + 1 : Nat) : Int)))] _ _ (B) (H) (((t, bY 57 b n c dk) :: S))
   refine g2 ?_
   by_cases hin : i2 < e
   ·refine g3 ?_
    refine rl ((cM rfl rfl).to bT) ?_
    refine g10 ?_
    refine gL (iC (i2) (i2 - 1) rfl rfl hds oM oM oM oM ?_)
    refine g5 ?_
    refine aB rfl (fun hc1 => ?_) (fun hc2 => ?_)
    ·have hp : ltInt dk[i2]! dk[i2 - 1]! = false := by rw [Bool.not_eq_true'] at hc1; exact hc1
     refine g9 ?_
     refine aQ (i2 + 1) oM ⟨by omega, (vK hin hp).trans hsc⟩ kno (fun w s => by exact s)
    ·have hp : ltInt dk[i2]! dk[i2 - 1]! = true := by rw [Bool.not_eq_false'] at hc2; exact hc2
     refine g4 ?_
     refine aO (ι := Nat) i2 ⟨(kG (.inr hp)).trans hsc, by omega⟩ kno (fun w s => s)
   ·refine g3 ?_
    refine rl ((cM rfl rfl).to bF) ?_
    refine o6 ?_
    refine aO (ι := Nat) i2 ⟨(kG (.inl hin)).trans hsc, by omega⟩ kno (fun w s => s)
  rintro i2 ⟨hi2, hb2⟩
  show GC _ _ _ _ [(0, nI b n c), (1, iV a), (2, iV e), (7, iV i2), (8, iV (5 - ((k + 1 : Nat) : Int)))] _ _ (B) (H) (((t, bY 57 b n c dk) :: S))
  refine g8 ?_
  refine aB rfl (fun hc1 => ?_) (fun hc2 => ?_)
  ·have hie : i2 = e := by have := beq_iff_eq.1 hc1; omega
   have hend : partialInsertionSort ltInt d a e = (dk, true) := by rw [← hO]; unfold partialIns; simp only [← hi2]; rw [if_pos hie]
   refine g12 ?_
   rw [hend]
   refine aT (.inl rfl) rfl (aD rfl) fun w_ s_ => ⟨rfl, ?_⟩
   exact s_
  ·have hie : ¬ i2 = e := by have := beq_eq_false_iff_ne.1 hc2; omega
   refine g11 ?_
   refine aB rfl (fun hc1 => ?_) (fun hc2 => ?_)
   ·have h50 : e - a < 50 := by have := oT hc1; omega
    have hend : partialInsertionSort ltInt d a e = (dk, false) := by rw [← hO]; unfold partialIns; simp only [← hi2]; rw [if_neg hie, if_pos h50]
    refine g12 ?_
    rw [hend]
    refine aT (.inl rfl) rfl (aD rfl) fun w_ s_ => ⟨rfl, ?_⟩
    exact s_
   ·have h50 : ¬ e - a < 50 := by have := oF hc2; omega
    refine g8 ?_
    refine gL (gI i2 (i2 - 1) rfl rfl hds rfl oM oM oM ?_)
    obtain ⟨d2, hd2⟩ : ∃ x, x = swp dk i2 (i2 - 1) := ⟨_, rfl⟩
    rw [← hd2]
    have hds2 : d2.size = n := by rw [hd2, size_swp]; exact hds
    refine g2 ?_
    refine cV (ι := (Array Int)) (fun d3 => (d3 = if i2 - a ≥ 2 then shiftDown ltInt (i2 - 1) d2 else d2) ∧ (d3.size = n)) (fun d3 => [(0, nI b n c), (1, iV a), (2, iV e), (7, iV i2), (8, iV (5 - ((k + 1 : Nat) : Int)))]) (fun d3 => B) (fun d3 => H) (fun d3 => ((t, bY 57 b n c d3) :: S)) ?_ ?_
    ·refine g8 ?_
     refine aB rfl (fun hc1 => ?_) (fun hc2 => ?_)
     ·have h2 : i2 - a ≥ 2 := by have := oT hc1; omega
      refine g8 ?_
      refine bJ (ι := (Nat) × (Array Int)) (fun | ⟨j, dj⟩ => j) (fun | ⟨j, dj⟩ => (j < n) ∧ (dj.size = n) ∧ (shiftDown ltInt j dj = shiftDown ltInt (i2 - 1) d2)) (fun | ⟨j, dj⟩ => [(0, nI b n c), (1, iV a), (2, iV e), (7, iV i2), (8, iV (5 - ((k + 1 : Nat) : Int))), (9, iV j)]) (fun | ⟨j, dj⟩ => B) (fun | ⟨j, dj⟩ => H) (fun | ⟨j, dj⟩ => ((t, bY 57 b n c dj) :: S)) ⟨i2 - 1, d2⟩ ⟨by omega, hds2, rfl⟩ kno (fun w s => by exact s) ?_
      rintro ⟨j, dj⟩ ⟨hj, hdj, hJ⟩
      show GC _ _ _ _ [(0, nI b n c), (1, iV a), (2, iV e), (7, iV i2), (8, iV (5 - ((k + 1 : Nat) : Int))), (9, iV j)] _ _ (B) (H) (((t, bY 57 b n c dj) :: S))
      refine g7 ?_
      refine aB rfl (fun hc1 => ?_) (fun hc2 => ?_)
      ·have hj1 : 1 ≤ j := by have := oT hc1; omega
       refine g11 ?_
       refine gL (iC (j) (j - 1) rfl rfl hdj oM oM oM oM ?_)
       refine g3 ?_
       refine aB rfl (fun hc1 => ?_) (fun hc2 => ?_)
       ·have hl : ltInt dj[j]! dj[j - 1]! = false := by rw [Bool.not_eq_true'] at hc1; exact hc1
        refine g6 ?_
        refine aO (ι := Array Int) dj ⟨by rw [if_pos h2, ← hJ, zB (.inr hl)], hdj⟩ kno (fun w s => s)
       ·have hl : ltInt dj[j]! dj[j - 1]! = true := by rw [Bool.not_eq_false'] at hc2; exact hc2
        refine g7 ?_
        refine gL (gI (j) (j - 1) rfl rfl hdj oM oM oM oM ?_)
        refine g8 ?_
        refine aQ ⟨j - 1, swp dj j (j - 1)⟩ sO ⟨by omega, by rw [size_swp]; exact hdj, (aIe hj1 hl).trans hJ⟩ kno (fun w s => by exact s)
      ·refine g4 ?_
       refine aO (ι := Array Int) dj ⟨by rw [if_pos h2, ← hJ, zB (.inl (by have := oF hc2; omega))], hdj⟩ kno (fun w s => s)
     ·have h2 : ¬ i2 - a ≥ 2 := by have := oF hc2; omega
      refine g1 ?_
      refine aO (ι := Array Int) d2 ⟨by rw [if_neg h2], hds2⟩ kno (fun w s => s)
    rintro d3 ⟨hd3, hds3⟩
    show GC _ _ _ _ [(0, nI b n c), (1, iV a), (2, iV e), (7, iV i2), (8, iV (5 - ((k + 1 : Nat) : Int)))] _ _ (B) (H) (((t, bY 57 b n c d3) :: S))
    refine g8 ?_
    refine aB rfl (fun hc1 => ?_) (fun hc2 => ?_)
    ·have h4 : e - i2 ≥ 2 := by have := oT hc1; omega
     refine g8 ?_
     refine bJ (ι := (Nat) × (Array Int)) (fun | ⟨j, dj⟩ => e - j) (fun | ⟨j, dj⟩ => (i2 < j ∧ j ≤ e) ∧ (dj.size = n) ∧ (shiftUp ltInt e j dj = shiftUp ltInt e (i2 + 1) d3)) (fun | ⟨j, dj⟩ => [(0, nI b n c), (1, iV a), (2, iV e), (7, iV i2), (8, iV (5 - ((k + 1 : Nat) : Int))), (10, iV j)]) (fun | ⟨j, dj⟩ => B) (fun | ⟨j, dj⟩ => H) (fun | ⟨j, dj⟩ => ((t, bY 57 b n c dj) :: S)) ⟨i2 + 1, d3⟩ ⟨by omega, hds3, rfl⟩ kno (fun w s => by exact s) ?_
     rintro ⟨j, dj⟩ ⟨hj, hdj, hJ⟩
     show GC _ _ _ _ [(0, nI b n c), (1, iV a), (2, iV e), (7, iV i2), (8, iV (5 - ((k + 1 : Nat) : Int))), (10, iV j)] _ _ (B) (H) (((t, bY 57 b n c dj) :: S))
     refine g8 ?_
     refine aB rfl (fun hc1 => ?_) (fun hc2 => ?_)
     ·have hj1 : j < e := by have := oT hc1; omega
      refine g11 ?_
      refine gL (iC (j) (j - 1) rfl rfl hdj oM oM oM oM ?_)
      refine g3 ?_
      refine aB rfl (fun hc1 => ?_) (fun hc2 => ?_)
      ·have hl : ltInt dj[j]! dj[j - 1]! = false := by rw [Bool.not_eq_true'] at hc1; exact hc1
       refine g8 ?_
       obtain ⟨d4, hd4, hds4, hO4⟩ : ∃ x, x = dj ∧ x.size = n ∧ partialIns ltInt a e k i2 x = partialInsertionSort ltInt d a e := ⟨_, rfl, hdj, by
        rw [← hO]; symm; conv => lhs; unfold partialIns
        simp only [← hi2]; rw [if_neg hie, if_neg h50]; simp only [← hd2, ← hd3]; rw [if_pos h4, ← hJ, zK (.inr hl)]⟩
       rw [← hd4]
       refine g5 ?_
       refine aQ ⟨k, i2, d4⟩ sO ⟨by omega, by omega, hds4, hO4⟩ kno (fun w s => by exact s)
      ·have hl : ltInt dj[j]! dj[j - 1]! = true := by rw [Bool.not_eq_false'] at hc2; exact hc2
       refine g7 ?_
       refine gL (gI (j) (j - 1) rfl rfl hdj oM oM oM oM ?_)
       refine g8 ?_
       refine aQ ⟨j + 1, swp dj j (j - 1)⟩ sO ⟨by omega, by rw [size_swp]; exact hdj, (aHg hj1 hl).trans hJ⟩ kno (fun w s => by exact s)
     ·refine g6 ?_
      obtain ⟨d4, hd4, hds4, hO4⟩ : ∃ x, x = dj ∧ x.size = n ∧ partialIns ltInt a e k i2 x = partialInsertionSort ltInt d a e := ⟨_, rfl, hdj, by
       rw [← hO]; symm; conv => lhs; unfold partialIns
       simp only [← hi2]; rw [if_neg hie, if_neg h50]; simp only [← hd2, ← hd3]; rw [if_pos h4, ← hJ, zK (.inl (by have := oF hc2; omega))]⟩
      rw [← hd4]
      refine g5 ?_
      refine aQ ⟨k, i2, d4⟩ sO ⟨by omega, by omega, hds4, hO4⟩ kno (fun w s => by exact s)
    ·have h4 : ¬ e - i2 ≥ 2 := by have := oF hc2; omega
     refine g3 ?_
     obtain ⟨d4, hd4, hds4, hO4⟩ : ∃ x, x = d3 ∧ x.size = n ∧ partialIns ltInt a e k i2 x = partialInsertionSort ltInt d a e := ⟨_, rfl, hds3, by
      rw [← hO]; symm; conv => lhs; unfold partialIns
      simp only [← hi2]; rw [if_neg hie, if_neg h50]; simp only [← hd2, ← hd3]; rw [if_neg h4]⟩
     rw [← hd4]
     refine g5 ?_
     refine aQ ⟨k, i2, d4⟩ sO ⟨by omega, by omega, hds4, hO4⟩ kno (fun w s => by exact s)
 ·obtain rfl : k = 0 := by have := oF hc2; omega
  have hend : partialInsertionSort ltInt d a e = (dk, false) := hO.symm
  refine g11 ?_
  rw [hend]
  refine aT (.inl rfl) rfl (aD rfl) fun w_ s_ => ⟨rfl, ?_⟩
  exact s_
end
end Go.Proofs.YtdbbifbmkfmbkaaGreat
namespace Go.Proofs.YtdbbifbmkfmbkaaGreat
open Go.RowKit Go.Fr Go.Tab
open Go.Shelf
def Tryz.l125_ren : Go.Shelf.Ren := ⟨fun | 125 => 105 | 128 => 125 | 129 => 126 | n => n, fun | 46 => 146 | 3 => 3 | 51 => 167 | 53 => 169 | 4 => 4 | 5 => 5 | 9 => 9 | n => n, fun | n => n⟩
theorem Tryz.l125 : Go.Proofs.Lays.n125 Tryz.prog Tryz.l125_ren := {
 mixed := by kernel_rfl
 f125 := Tryz.func105.trans (congrArg some kR)
 f128 := Tryz.func125.trans (congrArg some kR)
 f129 := Tryz.func126.trans (congrArg some kR)
 t3 := Tryz.underlying3
 a3 := Tryz.isAgg3
 z3 := Tryz.sizeOf3
 v3 := Tryz.zeroValue3
 t4 := Tryz.underlying4
 a4 := Tryz.isAgg4
 z4 := Tryz.sizeOf4
 v4 := Tryz.zeroValue4
 t5 := Tryz.underlying5
 a5 := Tryz.isAgg5
 z5 := Tryz.sizeOf5
 v5 := Tryz.zeroValue5
 t9 := Tryz.underlying9
 a9 := Tryz.isAgg9
 z9 := Tryz.sizeOf9
 v9 := Tryz.zeroValue9
 t46 := Tryz.underlying146
 a46 := Tryz.isAgg146
 z46 := Tryz.sizeOf146
 v46 := Tryz.zeroValue146
 t51 := Tryz.underlying167
 a51 := Tryz.isAgg167
 z51 := Tryz.sizeOf167
 v51 := Tryz.zeroValue167
 t53 := Tryz.underlying169
 a53 := Tryz.isAgg169
 z53 := Tryz.sizeOf169
 v53 := Tryz.zeroValue169 }
section
variable {F : Nat → Prop} {w0 : World} {B : LN} {H : LV} {S : LS}
theorem oK (x : Int) (h0 : 0 ≤ x) (h1 : x ≤ 18446744073709551615) (w : World) : Calls Tryz.prog 105 #[.int .u64 x] w fun e w' => e = .returned (iV (Lib.bitLen x.toNat)) ∧ Below w.heap.size w w' :=
 (Any.bits_Len Tryz.l125 x w h0 h1).mono fun e w' ⟨he, hw⟩ => ⟨he, hw ▸ Below.refl _ _⟩
theorem bla : ∀ (f x : Nat), x < 2 ^ f → x < 2 ^ Lib.bitLenAux f x ∧ (x ≠ 0 → 2 ^ (Lib.bitLenAux f x - 1) ≤ x)
 | 0, x, h => by
  have : x = 0 := by simpa using h
  subst this; exact ⟨by decide, fun h => absurd rfl h⟩
 | f + 1, x, h => by
  rw [Nat.pow_succ] at h
  unfold Lib.bitLenAux
  by_cases h0 : x = 0
  ·rw [if_pos h0]; subst h0; exact ⟨by decide, fun h => absurd rfl h⟩
  ·rw [if_neg h0]
   obtain ⟨h1, h2⟩ := bla f (x / 2) oM
   refine ⟨by rw [Nat.add_comm 1, Nat.pow_succ]; omega, fun _ => ?_⟩
   rw [Nat.add_sub_cancel_left]
   by_cases h3 : x / 2 = 0
   ·rw [h3]
    have e0 : Lib.bitLenAux f 0 = 0 := by cases f <;> simp [Lib.bitLenAux]
    rw [e0]; omega
   ·have h4 := h2 h3
    have hp : 0 < Lib.bitLenAux f (x / 2) := by
     rcases Nat.eq_zero_or_pos (Lib.bitLenAux f (x / 2)) with e | e
     ·rw [e] at h1; omega
     ·exact e
    obtain ⟨k, hk⟩ : ∃ k, Lib.bitLenAux f (x / 2) = k + 1 := ⟨Lib.bitLenAux f (x / 2) - 1, by omega⟩
    rw [hk] at h4 ⊢
    rw [Nat.add_sub_cancel] at h4
    rw [Nat.pow_succ]; omega
theorem rD {n : Nat} (h : 1 ≤ n) (h2 : n ≤ 1000000000) : 2 ^ Lib.bitLen n ≤ 2 * n ∧ 1 ≤ Lib.bitLen n ∧ Lib.bitLen n ≤ 31 := by
 have hs := bla 64 n (Nat.lt_of_le_of_lt h2 dE)
 change n < 2 ^ Lib.bitLen n ∧ (n ≠ 0 → 2 ^ (Lib.bitLen n - 1) ≤ n) at hs
 have h3 := hs.2 oM
 have hL : 1 ≤ Lib.bitLen n := by
  rcases Nat.eq_zero_or_pos (Lib.bitLen n) with h0 | h0
  ·rw [h0] at hs; omega
  ·exact h0
 have h31 : Lib.bitLen n ≤ 31 := by
  rcases Nat.lt_or_ge 31 (Lib.bitLen n) with h' | h'
  ·have := Nat.pow_le_pow_right (show 0 < 2 by decide) (show 31 ≤ Lib.bitLen n - 1 by omega)
   have e31 : (2 : Nat) ^ 31 = 2147483648 := by decide
   omega
  ·exact h'
 refine ⟨?_, hL, h31⟩
 obtain ⟨k, hk⟩ : ∃ k, Lib.bitLen n = k + 1 := ⟨Lib.bitLen n - 1, by omega⟩
 rw [hk, Nat.add_sub_cancel] at h3
 rw [hk, Nat.pow_succ]; omega
theorem aGc (v : Int) {M : Nat} (h1 : 1 ≤ M) (h2 : M ≤ 4294967296) : ∃ o : Nat, o < M ∧ IntKind.u64.wrap ((BitVec.ofInt IntKind.u64.bits v &&& BitVec.ofInt IntKind.u64.bits ((M : Int) - 1)).toNat : Int) = (o : Int) := by
 refine ⟨(BitVec.ofInt IntKind.u64.bits v &&& BitVec.ofInt IntKind.u64.bits ((M : Int) - 1)).toNat, ?_, lH ⟨by omega, ?_⟩⟩
 ·have e : (BitVec.ofInt IntKind.u64.bits ((M : Int) - 1)).toNat = M - 1 := by
   rw [BitVec.toNat_ofInt, show IntKind.u64.bits = 64 from rfl, show ((M : Int) - 1) = ((M - 1 : Nat) : Int) by omega]
   rw [show (((M - 1 : Nat) : Int) % ((2 ^ 64 : Nat) : Int)) = ((M - 1 : Nat) : Int) by rw [Int.emod_eq_of_lt oM oM]]
   rfl
  rw [BitVec.toNat_and, e]
  have := @Nat.and_le_right (BitVec.ofInt IntKind.u64.bits v).toNat (M - 1)
  omega
 ·have := (BitVec.ofInt IntKind.u64.bits v &&& BitVec.ofInt IntKind.u64.bits ((M : Int) - 1)).isLt
  have e : (2 : Nat) ^ IntKind.u64.bits = 18446744073709551616 := by decide
  omega
theorem uW (x : Nat) (h1 : 1 ≤ x) (h2 : x ≤ 1000000000) (w : World) : Calls Tryz.prog 139 #[iV ((x : Int))] w fun e w' => e = .returned (.int .u64 ((2 ^ Lib.bitLen x : Nat) : Int)) ∧ Below w.heap.size w w' := by
 refine aI (args := [iV ((x : Int))]) (L := [(0, iV ((x : Int)))]) (N := 10) Tryz.func139 rfl rfl ble rfl (sS w) ?_
 have hbl := rD h1 h2
 refine g8 ?_
 refine rl ((jR rfl kR kR).to (congrArg (Value.int .u64) (lH oM))) ?_
 refine gL (cvo (v := iV (Lib.bitLen x)) rfl (fun w_ s_ => (oK _ oM oM w_).mono fun e_ w2_ h_ => ⟨h_.1.trans (congrArg Ending.returned rfl), h_.2⟩) ?_)
 refine rl ((jR rfl kR kR).to (congrArg (Value.int .u64) (lH oM))) ?_
 refine g6 ?_
 refine rZ4 ((aAb rfl rfl oM).to (v' := .int .u64 ((2 ^ Lib.bitLen x : Nat) : Int)) (congrArg (Value.int .u64) (by rw [Int.toNat_natCast, Nat.min_eq_left (Nat.le_trans hbl.2.2 dE), Int.one_mul, show ((2 : Int) ^ Lib.bitLen x) = ((2 ^ Lib.bitLen x : Nat) : Int) by simp]; exact lH ⟨Int.natCast_nonneg _, by have := hbl.1; omega⟩))) ?_
 refine aT (.inl rfl) rfl (aD rfl) fun w_ s_ => ⟨?_, s_.aJ0⟩
 rfl
theorem aCz {cb : Nat} (hB : lkp 60 B = some cb) (x : Int) : ∀ w, Sees F w0 B ((ky 60 0, .int .u64 x) :: H) S w → Calls Tryz.prog 140 #[pT cb] w fun e w' => ∃ v, True ∧ e = .returned (.int .u64 v) ∧ Sees F w0 B ((ky 60 0, .int .u64 v) :: H) S w' := by
 intro w s
 refine aI (args := [pT cb]) (L := [(0, pT cb)]) (N := 33) Tryz.func140 rfl rfl ble rfl s ?_
 refine g6 ?_
 refine dL 9 kR kR ?_
 refine g2 ?_
 refine rt (rld 60 rfl hB rfl) ?_
 refine g2 ?_
 refine rt (rld 60 rfl hB rfl) ?_
 refine rt (aAb rfl rfl oM) ?_
 refine rt (aAg rfl rfl) ?_
 refine g2 ?_
 refine gL (sto 60 rfl rfl hB rfl ?_)
 refine g3 ?_
 refine dL 9 kR kR ?_
 refine g2 ?_
 refine rt (rld 60 rfl hB rfl) ?_
 refine g2 ?_
 refine rt (rld 60 rfl hB rfl) ?_
 refine rt (aHm rfl rfl oM) ?_
 refine rt (aAg rfl rfl) ?_
 refine g2 ?_
 refine gL (sto 60 rfl rfl hB rfl ?_)
 refine g3 ?_
 refine dL 9 kR kR ?_
 refine g2 ?_
 refine rt (rld 60 rfl hB rfl) ?_
 refine g2 ?_
 refine rt (rld 60 rfl hB rfl) ?_
 refine rt (aAb rfl rfl oM) ?_
 refine rt (aAg rfl rfl) ?_
 refine g2 ?_
 refine gL (sto 60 rfl rfl hB rfl ?_)
 refine g6 ?_
 refine rZ4 (rld 60 rfl hB rfl) ?_
 exact aT (.inl rfl) rfl (aD rfl) fun w_ s_ => ⟨_, trivial, rfl, s_.cell_last.cell_last.cell_last⟩
theorem mL {t b n c cb : Nat} {d : Array Int} (hd : d.size = n) (hn : n ≤ 1000000000) (hB : lkp 60 B = some cb) (s0 : Int) {lo hi : Nat} (hhi : hi ≤ n) (p q : Nat) (hp : lo ≤ p ∧ p < hi) (hq : lo ≤ q ∧ q < hi) : ∀ w, Sees F w0 B ((ky 60 0, iV s0) :: H) ((t, bY 57 b n c d) :: S) w → Calls Tryz.prog 146 #[nI b n c, iV p, iV q, pT cb] w fun e_ w' => ∃ x : Nat × Nat × Int, ((lo ≤ x.1 ∧ x.1 < hi) ∧ lo ≤ x.2.1 ∧ x.2.1 < hi) ∧ e_ = .returned (.tuple #[iV x.1, iV x.2.1]) ∧ Sees F w0 B ((ky 60 0, iV x.2.2) :: H) ((t, bY 57 b n c d) :: S) w' := by
 intro w s
 refine aI (args := [nI b n c, iV p, iV q, pT cb]) (L := [(0, nI b n c), (1, iV p), (2, iV q), (3, pT cb)]) (N := 23) Tryz.func146 rfl rfl ble rfl s ?_
 refine g12 ?_
 refine gL (iC (q) (p) rfl rfl hd oM oM oM oM ?_)
 refine g2 ?_
 refine aB rfl (fun hc1 => ?_) (fun hc2 => ?_)
 ·refine g4 ?_
  refine rZ2 (rld 60 rfl hB rfl) ?_
  refine gL (sto 60 rfl rfl hB rfl ?_)
  refine g12 ?_
  exact dQ (.inl rfl) rfl (aD rfl) (aD rfl) fun w_ s_ => ⟨(q, p, _), ⟨hq, hp⟩, rfl, s_.cell_last⟩
 ·refine g11 ?_
  exact dQ (.inl rfl) rfl (aD rfl) (aD rfl) fun w_ s_ => ⟨(p, q, _), ⟨hp, hq⟩, rfl, s_⟩
theorem pV {t b n c cb : Nat} {d : Array Int} (hd : d.size = n) (hn : n ≤ 1000000000) (hB : lkp 60 B = some cb) (s0 : Int) {lo hi : Nat} (hhi : hi ≤ n) (p q r : Nat) (hp : lo ≤ p ∧ p < hi) (hq : lo ≤ q ∧ q < hi) (hr : lo ≤ r ∧ r < hi) : ∀ w, Sees F w0 B ((ky 60 0, iV s0) :: H) ((t, bY 57 b n c d) :: S) w → Calls Tryz.prog 142 #[nI b n c, iV p, iV q, iV r, pT cb] w fun e_ w' => ∃ x : Nat × Int, (lo ≤ x.1 ∧ x.1 < hi) ∧ e_ = .returned (iV x.1) ∧ Sees F w0 B ((ky 60 0, iV x.2) :: H) ((t, bY 57 b n c d) :: S) w' := by
 intro w s
 refine aI (args := [nI b n c, iV p, iV q, iV r, pT cb]) (L := [(0, nI b n c), (1, iV p), (2, iV q), (3, iV r), (4, pT cb)]) (N := 36) Tryz.func142 rfl rfl ble rfl s ?_
 refine g11 ?_
 refine gL (cao (ι := Nat × Nat × Int) (fun x => .tuple #[iV x.1, iV x.2.1]) (fun x => (lo ≤ x.1 ∧ x.1 < hi) ∧ lo ≤ x.2.1 ∧ x.2.1 < hi) (fun _ => B) (fun x => (ky 60 0, iV x.2.2) :: H) (fun _ => ((t, bY 57 b n c d) :: S)) rfl (fun w_ s_ => mL hd hn hB s0 hhi p q hp hq w_ s_) (fun | (x1, y1, z1), ⟨hx1, hy1⟩ => ?_))
 refine g13 ?_
 refine gL (cao (ι := Nat × Nat × Int) (fun x => .tuple #[iV x.1, iV x.2.1]) (fun x => (lo ≤ x.1 ∧ x.1 < hi) ∧ lo ≤ x.2.1 ∧ x.2.1 < hi) (fun _ => B) (fun x => (ky 60 0, iV x.2.2) :: H) (fun _ => ((t, bY 57 b n c d) :: S)) rfl (fun w_ s_ => mL hd hn hB z1 hhi y1 r hy1 hr w_ s_) (fun | (x2, y2, z2), ⟨hx2, hy2⟩ => ?_))
 refine g13 ?_
 refine gL (cao (ι := Nat × Nat × Int) (fun x => .tuple #[iV x.1, iV x.2.1]) (fun x => (lo ≤ x.1 ∧ x.1 < hi) ∧ lo ≤ x.2.1 ∧ x.2.1 < hi) (fun _ => B) (fun x => (ky 60 0, iV x.2.2) :: H) (fun _ => ((t, bY 57 b n c d) :: S)) rfl (fun w_ s_ => mL hd hn hB z2 hhi x1 x2 hx1 hx2 w_ s_) (fun | (x3, y3, z3), ⟨hx3, hy3⟩ => ?_))
 refine g14 ?_
 exact aT (.inl rfl) rfl (aD rfl) fun w_ s_ => ⟨(y3, z3), hy3, rfl, s_⟩
theorem mJ {t b n c cb : Nat} {d : Array Int} (hd : d.size = n) (hn : n ≤ 1000000000) (hB : lkp 60 B = some cb) (s0 : Int) {lo hi : Nat} (hhi : hi ≤ n) (p : Nat) (hp : lo + 1 ≤ p ∧ p + 1 < hi) : ∀ w, Sees F w0 B ((ky 60 0, iV s0) :: H) ((t, bY 57 b n c d) :: S) w → Calls Tryz.prog 141 #[nI b n c, iV p, pT cb] w fun e_ w' => ∃ x : Nat × Int, (lo ≤ x.1 ∧ x.1 < hi) ∧ e_ = .returned (iV x.1) ∧ Sees F w0 B ((ky 60 0, iV x.2) :: H) ((t, bY 57 b n c d) :: S) w' := by
 intro w s
 refine aI (args := [nI b n c, iV p, pT cb]) (L := [(0, nI b n c), (1, iV p), (2, pT cb)]) (N := 15) Tryz.func141 rfl rfl ble rfl s ?_
 refine g14 ?_
 refine gL (cao (ι := Nat × Int) (fun x => iV x.1) (fun x => lo ≤ x.1 ∧ x.1 < hi) (fun _ => B) (fun x => (ky 60 0, iV x.2) :: H) (fun _ => ((t, bY 57 b n c d) :: S)) rfl (fun w_ s_ => (by have := pV hd hn hB s0 (lo := lo) hhi (p - 1) p (p + 1) oM oM oM w_ s_; rw [show ((p - 1 : Nat) : Int) = (p : Int) - 1 by omega, show ((p + 1 : Nat) : Int) = (p : Int) + 1 by omega] at this; exact this)) (fun | (x1, z1), hx1 => ?_))
 refine g4 ?_
 exact aT (.inl rfl) rfl (aD rfl) fun w_ s_ => ⟨(x1, z1), hx1, rfl, s_⟩
theorem wJ {t b n c : Nat} {d : Array Int} (hd : d.size = n) (hn : n ≤ 1000000000) (hlim : Lim 60 B H ((t, bY 57 b n c d) :: S)) (a e : Nat) (hae : a + 12 < e) (hhi : e ≤ n) : ∀ w, Sees F w0 B H ((t, bY 57 b n c d) :: S) w → Calls Tryz.prog 130 #[nI b n c, iV a, iV e] w fun e_ w' => ∃ x : Nat × Int, (a ≤ x.1 ∧ x.1 < e) ∧ e_ = .returned (.tuple #[iV x.1, iV x.2]) ∧ Sees F w0 B H ((t, bY 57 b n c d) :: S) w' := by
 intro w s
 refine aI (args := [nI b n c, iV a, iV e]) (L := [(0, nI b n c), (1, iV a), (2, iV e)]) (N := 57) Tryz.func130 rfl rfl ble rfl s ?_
 refine g16 ?_
 refine gL (alo 60 (cs := [iV 0]) kR (hlim.b 60 dE) (fun cb hcb => ?_))
 refine g30 ?_
 refine g9 ?_
 refine aY rfl (decide_eq_true oM) ?_
 refine cV (ι := (Nat) × (Nat) × (Nat) × (Int)) (fun | ⟨i, j, k, s0⟩ => (a ≤ i ∧ i < e) ∧ (a ≤ j ∧ j < e) ∧ (a ≤ k ∧ k < e)) (fun | ⟨i, j, k, s0⟩ => [(0, nI b n c), (9, pT cb), (10, iV i), (11, iV j), (12, iV k)]) (fun | ⟨i, j, k, s0⟩ => ((60, cb) :: B)) (fun | ⟨i, j, k, s0⟩ => (ky 60 0, iV s0) :: H) (fun | ⟨i, j, k, s0⟩ => ((t, bY 57 b n c d) :: S)) ?_ ?_
 ·refine g6 ?_
  refine aB rfl (fun hc1 => ?_) (fun hc2 => ?_)
  ·have h50 : 50 ≤ e - a := by have := oT hc1; omega
   refine g4 ?_
   refine gL (cao (ι := Nat × Int) (fun x => iV x.1) (fun x => a ≤ x.1 ∧ x.1 < e) (fun _ => ((60, cb) :: B)) (fun x => (ky 60 0, iV x.2) :: H) (fun _ => ((t, bY 57 b n c d) :: S)) rfl (fun w_ s_ => (by have := mJ (H := H) hd hn (cb := cb) (B := ((60, cb) :: B)) rfl 0 hhi (lo := a) (a + (e - a) / 4 * 1) oM w_ s_; rw [show (((a + (e - a) / 4 * 1) : Nat) : Int) = (a : Int) + ((e : Int) - a) / 4 * 1 by omega] at this; exact this)) (fun | (x1, z1), hx1 => ?_))
   refine g7 ?_
   refine gL (cao (ι := Nat × Int) (fun x => iV x.1) (fun x => a ≤ x.1 ∧ x.1 < e) (fun _ => ((60, cb) :: B)) (fun x => (ky 60 0, iV x.2) :: H) (fun _ => ((t, bY 57 b n c d) :: S)) rfl (fun w_ s_ => (by have := mJ (H := H) hd hn (cb := cb) (B := ((60, cb) :: B)) rfl z1 hhi (lo := a) (a + (e - a) / 4 * 2) oM w_ s_; rw [show (((a + (e - a) / 4 * 2) : Nat) : Int) = (a : Int) + ((e : Int) - a) / 4 * 2 by omega] at this; exact this)) (fun | (x2, z2), hx2 => ?_))
   refine g6 ?_
   refine gL (cao (ι := Nat × Int) (fun x => iV x.1) (fun x => a ≤ x.1 ∧ x.1 < e) (fun _ => ((60, cb) :: B)) (fun x => (ky 60 0, iV x.2) :: H) (fun _ => ((t, bY 57 b n c d) :: S)) rfl (fun w_ s_ => (by have := mJ (H := H) hd hn (cb := cb) (B := ((60, cb) :: B)) rfl z2 hhi (lo := a) (a + (e - a) / 4 * 3) oM w_ s_; rw [show (((a + (e - a) / 4 * 3) : Nat) : Int) = (a : Int) + ((e : Int) - a) / 4 * 3 by omega] at this; exact this)) (fun | (x3, z3), hx3 => ?_))
   refine g2 ?_
   refine aO (ι := Nat × Nat × Nat × Int) ⟨x1, x2, x3, z3⟩ ⟨by omega, by omega, by omega⟩ kno (fun w s => s)
  ·skip
   refine g1 ?_
   refine aO (ι := Nat × Nat × Nat × Int) ⟨a + (e - a) / 4 * 1, a + (e - a) / 4 * 2, a + (e - a) / 4 * 3, 0⟩ ⟨by omega, by omega, by omega⟩ kno (fun w s => s)
 rintro ⟨i, j, k, s0⟩ ⟨hi, hj, hk⟩
 show GC _ _ _ _ [(0, nI b n c), (9, pT cb), (10, iV i), (11, iV j), (12, iV k)] _ _ (((60, cb) :: B)) ((ky 60 0, iV s0) :: H) (((t, bY 57 b n c d) :: S))
 refine g5 ?_
 refine gL (cao (ι := Nat × Int) (fun x => iV x.1) (fun x => a ≤ x.1 ∧ x.1 < e) (fun _ => ((60, cb) :: B)) (fun x => (ky 60 0, iV x.2) :: H) (fun _ => ((t, bY 57 b n c d) :: S)) rfl (fun w_ s_ => pV (H := H) hd hn rfl s0 hhi i j k hi hj hk w_ s_) (fun | (x4, z4), hx4 => ?_))
 refine g5 ?_
 refine rZ9 (rld 60 rfl rfl rfl) ?_
 refine aB rfl (fun hc1 => ?_) (fun hc2 => ?_)
 ·refine g9 ?_
  exact dQ (.inl rfl) rfl (aD rfl) (aD rfl) fun w_ s_ => ⟨(x4, 1), hx4, rfl, s_.low 60 hlim agx agx agx⟩
 ·refine g6 ?_
  refine aB rfl (fun hc1 => ?_) (fun hc2 => ?_)
  ·refine g9 ?_
   exact dQ (.inl rfl) rfl (aD rfl) (aD rfl) fun w_ s_ => ⟨(x4, 2), hx4, rfl, s_.low 60 hlim agx agx agx⟩
  ·refine g9 ?_
   exact dQ (.inl rfl) rfl (aD rfl) (aD rfl) fun w_ s_ => ⟨(x4, 0), hx4, rfl, s_.low 60 hlim agx agx agx⟩
end
end Go.Proofs.YtdbbifbmkfmbkaaGreat
namespace Go.Proofs.YtdbbifbmkfmbkaaGreat
open Go.RowKit Go.Fr Go.Tab
section
variable {F : Nat → Prop} {w0 : World} {B : LN} {H : LV} {S : LS}
open Go.Sort Go.Md
theorem yJ {t b n c : Nat} {d : Array Int} (hd : d.size = n) (hn : n ≤ 1000000000) (hlim : Lim 60 B H S) (ht : t < 60) (a e : Nat) (hae : a + 12 < e) (he : e ≤ n) : ∀ w, Sees F w0 B H ((t, bY 57 b n c d) :: S) w → Calls Tryz.prog 129 #[nI b n c, iV a, iV e] w fun e_ w' => ∃ x : Array Int, (x.size = n ∧ PermIn a e d x) ∧ e_ = .returned (.tuple #[]) ∧ Sees F w0 B H ((t, bY 57 b n c x) :: S) w' := by
 have hl2 : Lim 60 B H ((t, bY 57 b n c d) :: S) := hlim.aJ2 ht
 have hbl := rD (n := e - a) oM oM
 intro w s
 refine aI (args := [nI b n c, iV a, iV e]) (L := [(0, nI b n c), (1, iV a), (2, iV e)]) (N := 53) Tryz.func129 rfl rfl ble rfl s ?_
 refine g14 ?_
 refine aY rfl (decide_eq_true oM) ?_
 refine g3 ?_
 refine rl ((jR rfl kR kR).to (congrArg (Value.int .u64) (lH oM))) ?_
 refine gL (alo 60 (cs := [.int .u64 0]) kR (hlim.b 60 dE) (fun cb hcb => ?_))
 refine gL (sto 60 rfl rfl rfl rfl ?_)
 refine g5 ?_
 refine gL (cvo (v := (.int .u64 ((2 ^ Lib.bitLen (e - a) : Nat) : Int))) rfl (fun w_ s_ => by have := uW (e - a) oM oM w_; rw [show ((e - a : Nat) : Int) = (e : Int) - a by omega] at this; exact this) ?_)
 refine g15 ?_
 obtain ⟨M, hM⟩ : ∃ M, M = 2 ^ Lib.bitLen (e - a) := ⟨_, rfl⟩
 have hM1 : 1 ≤ M := by rw [hM]; exact Nat.one_le_two_pow
 have hM2 : M ≤ 2 * (e - a) := by rw [hM]; exact hbl.1
 rw [← hM]
 refine bJ (ι := (Nat) × (Int) × (Array Int)) (fun | ⟨i, v, dk⟩ => a + (e - a) / 4 * 2 + 3 - i) (fun | ⟨i, v, dk⟩ => (a ≤ i ∧ i ≤ a + (e - a) / 4 * 2 + 2) ∧ (dk.size = n) ∧ (PermIn a e d dk)) (fun | ⟨i, v, dk⟩ => [(0, nI b n c), (1, iV a), (6, iV (((e : Int) - a))), (7, pT cb), (8, .int .u64 (M : Int)), (9, iV i)]) (fun | ⟨i, v, dk⟩ => ((60, cb) :: B)) (fun | ⟨i, v, dk⟩ => (ky 60 0, .int .u64 v) :: H) (fun | ⟨i, v, dk⟩ => ((t, bY 57 b n c dk) :: S)) ⟨a + (e - a) / 4 * 2 - 1, _, d⟩ ⟨by omega, hd, permIn_refl _ _ _⟩ kno (fun w s => by exact s.cell_last) ?_
 rintro ⟨i, v, dk⟩ ⟨hi, hds, hP⟩
 show GC _ _ _ _ [(0, nI b n c), (1, iV a), (6, iV (((e : Int) - a))), (7, pT cb), (8, .int .u64 (M : Int)), (9, iV i)] _ _ (((60, cb) :: B)) ((ky 60 0, .int .u64 v) :: H) (((t, bY 57 b n c dk) :: S))
 refine g13 ?_
 refine aB rfl (fun hc1 => ?_) (fun hc2 => ?_)
 ·have hle : i ≤ a + (e - a) / 4 * 2 + 1 := by have := oT hc1; omega
  refine g6 ?_
  refine gL (cao (ι := Int) (fun x => .int .u64 x) (fun _ => True) (fun _ => ((60, cb) :: B)) (fun x => (ky 60 0, .int .u64 x) :: H) (fun _ => ((t, bY 57 b n c dk) :: S)) rfl (fun w_ s_ => aCz (H := H) rfl v w_ s_) (fun v2 _ => ?_))
  refine g1 ?_
  refine rl ((jC rfl rfl).to (v' := .int .u64 ((M : Int) - 1)) (congrArg (Value.int .u64) (lH oM))) ?_
  obtain ⟨o, ho, hov⟩ := aGc v2 hM1 oM
  refine rl ((aIj rfl rfl).to (v' := .int .u64 (o : Int)) (congrArg (Value.int .u64) hov)) ?_
  refine g12 ?_
  refine aB rfl (fun hc1 => ?_) (fun hc2 => ?_)
  ·have hge : e - a ≤ o := by have := oT hc1; omega
   refine g13 ?_
   refine gL (gI i (a + (o - (e - a))) rfl rfl hds rfl oM oM oM ?_)
   refine g8 ?_
   refine aQ ⟨i + 1, v2, swp dk i (a + (o - (e - a)))⟩ sO ⟨by omega, by rw [size_swp]; exact hds, permIn_trans _ _ _ _ _ hP (swp_permIn _ _ _ _ _ oM oM oM oM oM)⟩ kno (fun w s => by exact s)
  ·have hge : ¬ e - a ≤ o := by have := oF hc2; omega
   refine g8 ?_
   refine gL (gI i (a + o) rfl rfl hds rfl oM oM oM ?_)
   refine g8 ?_
   refine aQ ⟨i + 1, v2, swp dk i (a + o)⟩ sO ⟨by omega, by rw [size_swp]; exact hds, permIn_trans _ _ _ _ _ hP (swp_permIn _ _ _ _ _ oM oM oM oM oM)⟩ kno (fun w s => by exact s)
 ·skip
  refine g4 ?_
  exact d7 (.inr rfl) rfl fun w_ s_ => ⟨dk, ⟨hds, hP⟩, rfl, s_.low 60 (hlim.aJ2 ht) agx agx agx⟩
theorem aCq {t b n c : Nat} (hn : n ≤ 1000000000) (hlim : Lim 60 B H S) (ht : t < 60) : ∀ (m : Nat) {d : Array Int} (hd : d.size = n) (a e lm : Nat) (hm : e - a ≤ m) (hae : a ≤ e) (he : e ≤ n) (hlm : lm ≤ 1000) (hB0 : Go.Sort.Below ltInt a e d), ∀ w, Sees F w0 B H ((t, bY 57 b n c d) :: S) w → Calls Tryz.prog 106 #[nI b n c, iV a, iV e, iV lm] w fun e_ w' => ∃ x : Array Int, (PermIn a e d x ∧ SortedIn ltInt a e x) ∧ e_ = .returned (.tuple #[]) ∧ Sees F w0 B H ((t, bY 57 b n c x) :: S) w' := by
 intro m
 induction m using Nat.strongRecOn with
 | _ m ih =>
 intro d hd a e lm hm hae he hlm hB0
 intro w s
 refine aI (args := [nI b n c, iV a, iV e, iV lm]) (L := [(0, nI b n c), (1, iV a), (2, iV e), (3, iV lm)]) (N := 129) Tryz.func106 rfl rfl ble rfl s ?_
 refine g11 ?_
 refine bJ (ι := (Nat) × (Nat) × (Nat) × (Bool) × (Bool) × (Array Int)) (fun | ⟨a1, e1, lk, wb, wp, d1⟩ => e1 - a1) (fun | ⟨a1, e1, lk, wb, wp, d1⟩ => (a ≤ a1 ∧ a1 ≤ e1 ∧ e1 ≤ e ∧ lk ≤ 1000) ∧ (d1.size = n) ∧ (Go.Sort.Below ltInt a1 e1 d1) ∧ (∀ R, PermIn a1 e1 d1 R → SortedIn ltInt a1 e1 R → PermIn a e d R ∧ SortedIn ltInt a e R)) (fun | ⟨a1, e1, lk, wb, wp, d1⟩ => [(0, nI b n c), (1, iV a1), (2, iV e1), (3, iV lk), (8, .bool wb), (9, .bool wp)]) (fun | ⟨a1, e1, lk, wb, wp, d1⟩ => B) (fun | ⟨a1, e1, lk, wb, wp, d1⟩ => H) (fun | ⟨a1, e1, lk, wb, wp, d1⟩ => ((t, bY 57 b n c d1) :: S)) ⟨a, e, lm, true, true, d⟩ ⟨by omega, hd, hB0, fun R h1 h2 => ⟨h1, h2⟩⟩ kno (fun w s => by exact s) ?_
 rintro ⟨a1, e1, lk, wb, wp, d1⟩ ⟨hr, hds, hB1, hC⟩
 show GC _ _ _ _ [(0, nI b n c), (1, iV a1), (2, iV e1), (3, iV lk), (8, .bool wb), (9, .bool wp)] _ _ (B) (H) (((t, bY 57 b n c d1) :: S))
 refine g16 ?_
 refine aB rfl (fun hc1 => ?_) (fun hc2 => ?_)
 ·have hins := insertionSort_holds (lt := ltInt) swo_ltInt d1 a1 e1 oM oM
  refine g5 ?_
  refine gL (iH (.tuple #[]) (S' := ((t, bY 57 b n c (insertionSort ltInt d1 a1 e1)) :: S)) rfl (fun w_ s_ => r7 hds hn a1 e1 oM oM w_ s_) ?_)
  refine g7 ?_
  exact d7 (.inl rfl) rfl fun w_ s_ => ⟨_, hC _ hins.1 hins.2, rfl, s_⟩
 ·have h12 : 12 < e1 - a1 := by have := oF hc2; omega
  refine g9 ?_
  refine aB rfl (fun hc1 => ?_) (fun hc2 => ?_)
  ·have hhp := heapSort_holds (lt := ltInt) swo_ltInt d1 a1 e1 oM oM
   refine g5 ?_
   refine gL (iH (.tuple #[]) (S' := ((t, bY 57 b n c (heapSort ltInt d1 a1 e1)) :: S)) rfl (fun w_ s_ => aAp hds hn a1 e1 oM oM w_ s_) ?_)
   refine g7 ?_
   exact d7 (.inl rfl) rfl fun w_ s_ => ⟨_, hC _ hhp.1 hhp.2, rfl, s_⟩
  ·have hlk : lk ≠ 0 := by have := beq_eq_false_iff_ne.1 hc2; omega
   refine g2 ?_
   refine cV (ι := (Nat) × (Array Int)) (fun | ⟨lk2, d2⟩ => (lk2 ≤ 1000) ∧ (d2.size = n ∧ PermIn a1 e1 d1 d2)) (fun | ⟨lk2, d2⟩ => [(0, nI b n c), (1, iV a1), (2, iV e1), (3, iV lk2), (8, .bool wb), (9, .bool wp), (10, iV ((e1 : Int) - a1))]) (fun | ⟨lk2, d2⟩ => B) (fun | ⟨lk2, d2⟩ => H) (fun | ⟨lk2, d2⟩ => ((t, bY 57 b n c d2) :: S)) ?_ ?_
   ·refine g6 ?_
    refine aB rfl (fun hc1 => ?_) (fun hc2 => ?_)
    ·refine g5 ?_
     refine gL (lA (ι := Array Int) (fun _ => .tuple #[]) (fun x => x.size = n ∧ PermIn a1 e1 d1 x) (fun x => ((t, bY 57 b n c x) :: S)) rfl (fun w_ s_ => yJ hds hn hlim ht a1 e1 oM oM w_ s_) (fun x2 hx2 => ?_))
     refine g7 ?_
     refine aO (ι := Nat × Array Int) ⟨lk - 1, x2⟩ ⟨by omega, hx2⟩ kno (fun w s => s)
    ·refine g1 ?_
     refine aO (ι := Nat × Array Int) ⟨lk, d1⟩ ⟨by omega, ⟨hds, permIn_refl _ _ _⟩⟩ kno (fun w s => s)
   rintro ⟨lk2, d2⟩ ⟨hl2, hP2⟩
   show GC _ _ _ _ [(0, nI b n c), (1, iV a1), (2, iV e1), (3, iV lk2), (8, .bool wb), (9, .bool wp), (10, iV ((e1 : Int) - a1))] _ _ (B) (H) (((t, bY 57 b n c d2) :: S))
   refine g5 ?_
   refine gL (lA (ι := Nat × Int) (fun x => .tuple #[iV x.1, iV x.2]) (fun x => a1 ≤ x.1 ∧ x.1 < e1) (fun _ => ((t, bY 57 b n c d2) :: S)) rfl (fun w_ s_ => wJ hP2.1 hn (hlim.aJ2 ht) a1 e1 oM oM w_ s_) (fun | (p1, h1), hp1 => ?_))
   refine g7 ?_
   refine cV (ι := (Nat) × (Int) × (Array Int)) (fun | ⟨p2, hint, d3⟩ => (a1 ≤ p2 ∧ p2 < e1) ∧ (d3.size = n ∧ PermIn a1 e1 d1 d3)) (fun | ⟨p2, hint, d3⟩ => [(0, nI b n c), (1, iV a1), (2, iV e1), (3, iV lk2), (8, .bool wb), (9, .bool wp), (10, iV ((e1 : Int) - a1)), (11, iV p2), (12, iV hint)]) (fun | ⟨p2, hint, d3⟩ => B) (fun | ⟨p2, hint, d3⟩ => H) (fun | ⟨p2, hint, d3⟩ => ((t, bY 57 b n c d3) :: S)) ?_ ?_
   ·refine g6 ?_
    refine aB rfl (fun hc1 => ?_) (fun hc2 => ?_)
    ·refine g5 ?_
     refine gL (iH (.tuple #[]) (S' := ((t, bY 57 b n c (reverseRange d2 a1 e1)) :: S)) rfl (fun w_ s_ => uV hP2.1 hn a1 e1 oM oM w_ s_) ?_)
     have hrv := reverseRange_holds d2 a1 e1 oM oM
     refine g16 ?_
     refine aO (ι := Nat × Int × Array Int) ⟨(e1 - 1) - (p1 - a1), 1, reverseRange d2 a1 e1⟩ ⟨by omega, ⟨hrv.1.trans hP2.1, permIn_trans _ _ _ _ _ hP2.2 hrv⟩⟩ kno (fun w s => s)
    ·refine g1 ?_
     refine aO (ι := Nat × Int × Array Int) ⟨p1, h1, d2⟩ ⟨by omega, hP2⟩ kno (fun w s => s)
   rintro ⟨p2, hint, d3⟩ ⟨hp2, hP3⟩
   show GC _ _ _ _ [(0, nI b n c), (1, iV a1), (2, iV e1), (3, iV lk2), (8, .bool wb), (9, .bool wp), (10, iV ((e1 : Int) - a1)), (11, iV p2), (12, iV hint)] _ _ (B) (H) (((t, bY 57 b n c d3) :: S))
   refine cV (ι := (Array Int)) (fun d4 => (d4.size = n ∧ PermIn a1 e1 d1 d4)) (fun d4 => [(0, nI b n c), (1, iV a1), (2, iV e1), (3, iV lk2), (8, .bool wb), (9, .bool wp), (10, iV ((e1 : Int) - a1)), (11, iV p2)]) (fun d4 => B) (fun d4 => H) (fun d4 => ((t, bY 57 b n c d4) :: S)) ?_ ?_
   ·refine g1 ?_
    rcases (show (wb = true ∧ wp = true) ∨ (wb = true ∧ wp = false) ∨ wb = false by cases wb <;> cases wp <;> simp) with ⟨rfl, rfl⟩ | ⟨rfl, rfl⟩ | rfl
    ·refine g14 ?_
     refine aB rfl (fun hc1 => ?_) (fun hc2 => ?_)
     ·skip
      refine g5 ?_
      refine gL (iH (.bool (partialInsertionSort ltInt d3 a1 e1).2) (S' := ((t, bY 57 b n c (partialInsertionSort ltInt d3 a1 e1).1) :: S)) rfl (fun w_ s_ => uX hP3.1 hn a1 e1 oM oM w_ s_) ?_)
      have hpi := partialInsertionSort_holds (lt := ltInt) swo_ltInt d3 a1 e1 oM oM (hB1.perm oM hP3.2)
      refine g2 ?_
      refine aB rfl (fun hc1 => ?_) (fun hc2 => ?_)
      ·have hpt : (partialInsertionSort ltInt d3 a1 e1).2 = true := hc1
       refine g5 ?_
       exact d7 (.inl rfl) rfl fun w_ s_ => ⟨_, hC _ (permIn_trans _ _ _ _ _ hP3.2 hpi.1) (hpi.2 hpt), rfl, s_⟩
      ·refine g1 ?_
       refine aO (ι := Array Int) (partialInsertionSort ltInt d3 a1 e1).1 ⟨hpi.1.1.trans hP3.1, permIn_trans _ _ _ _ _ hP3.2 hpi.1⟩ kno (fun w s => s)
     ·refine g1 ?_
      refine aO (ι := Array Int) d3 hP3 kno (fun w s => s)
    ·refine lJ ?_
     refine aO (ι := Array Int) d3 hP3 kno (fun w s => s)
    ·refine jT ?_
     refine aO (ι := Array Int) d3 hP3 kno (fun w s => s)
   rintro d4 hP4
   show GC _ _ _ _ [(0, nI b n c), (1, iV a1), (2, iV e1), (3, iV lk2), (8, .bool wb), (9, .bool wp), (10, iV ((e1 : Int) - a1)), (11, iV p2)] _ _ (B) (H) (((t, bY 57 b n c d4) :: S))
   have hB4 : Go.Sort.Below ltInt a1 e1 d4 := hB1.perm oM hP4.2
   refine cV (ι := (Unit)) (fun u => True) (fun u => [(0, nI b n c), (1, iV a1), (2, iV e1), (3, iV lk2), (8, .bool wb), (9, .bool wp), (10, iV ((e1 : Int) - a1)), (11, iV p2)]) (fun u => B) (fun u => H) (fun u => ((t, bY 57 b n c d4) :: S)) ?_ ?_
   ·refine g1 ?_
    by_cases hp0 : 0 < a1
    ·refine g2 ?_
     refine rl ((bG rfl rfl).to bT) ?_
     refine g10 ?_
     refine gL (iC (a1 - 1) (p2) rfl rfl hP4.1 oM oM oM oM ?_)
     refine g5 ?_
     refine aB rfl (fun hc1 => ?_) (fun hc2 => ?_)
     ·have hnl : ltInt d4[a1 - 1]! d4[p2]! = false := by rw [Bool.not_eq_true'] at hc1; exact hc1
      refine g6 ?_
      refine gL (iH (iV ((partitionEqual ltInt d4 a1 e1 p2).1 : Nat)) (S' := ((t, bY 57 b n c (partitionEqual ltInt d4 a1 e1 p2).2) :: S)) rfl (fun w_ s_ => xF hP4.1 hn a1 e1 p2 oM oM oM w_ s_) ?_)
      obtain ⟨q1, q2, q3, q4, q5⟩ := round_eq swo_ltInt (partitionEqual_holds ltInt) (d3 := d4) (a := a1) (b := e1) (pivot := p2) (mid := (partitionEqual ltInt d4 a1 e1 p2).1) (d4 := (partitionEqual ltInt d4 a1 e1 p2).2) hp0 oM oM oM hB4 hnl rfl
      refine g12 ?_
      refine aQ ⟨(partitionEqual ltInt d4 a1 e1 p2).1, e1, lk2, wb, wp, (partitionEqual ltInt d4 a1 e1 p2).2⟩ sO ⟨by omega, q3.trans hP4.1, q4, fun R h1 h2 => by have h3 := q5 R h1 h2; exact hC R (permIn_trans _ _ _ _ _ hP4.2 h3.1) h3.2⟩ kno (fun w s => by exact s)
     ·skip
      refine g1 ?_
      refine aO (ι := Unit) () trivial kno (fun w s => s)
    ·refine g2 ?_
     refine rl ((bG rfl rfl).to bF) ?_
     refine mQ ?_
     refine aO (ι := Unit) () trivial kno (fun w s => s)
   rintro u -
   show GC _ _ _ _ [(0, nI b n c), (1, iV a1), (2, iV e1), (3, iV lk2), (8, .bool wb), (9, .bool wp), (10, iV ((e1 : Int) - a1)), (11, iV p2)] _ _ (B) (H) (((t, bY 57 b n c d4) :: S))
   refine g6 ?_
   refine gL (iH (.tuple #[iV ((partition ltInt d4 a1 e1 p2).1 : Nat), .bool (partition ltInt d4 a1 e1 p2).2.1]) (S' := ((t, bY 57 b n c (partition ltInt d4 a1 e1 p2).2.2) :: S)) rfl (fun w_ s_ => sA hP4.1 hn a1 e1 p2 oM oM oM w_ s_) ?_)
   obtain ⟨q1, q2, q3, q4, q5, q6, q7⟩ := round_part swo_ltInt (partition_holds ltInt) (d3 := d4) (a := a1) (b := e1) (pivot := p2) (mid := (partition ltInt d4 a1 e1 p2).1) (ap := (partition ltInt d4 a1 e1 p2).2.1) (d4 := (partition ltInt d4 a1 e1 p2).2.2) oM oM oM hB4 rfl
   generalize (partition ltInt d4 a1 e1 p2).1 = mid at *
   generalize (partition ltInt d4 a1 e1 p2).2.1 = ap at *
   generalize (partition ltInt d4 a1 e1 p2).2.2 = d5 at *
   refine g30 ?_
   refine g9 ?_
   refine aB rfl (fun hc1 => ?_) (fun hc2 => ?_)
   ·refine g14 ?_
    have ih2 := ih (mid - (a1)) oM (d := d5) (q3.trans hP4.1) (a1) (mid) lk2 (Nat.le_refl _) oM oM hl2 q4
    refine gL (lA (ι := Array Int) (fun _ => .tuple #[]) (fun x => PermIn (a1) (mid) d5 x ∧ SortedIn ltInt (a1) (mid) x) (fun x => ((t, bY 57 b n c x) :: S)) rfl ih2 (fun L ⟨hL1, hL2⟩ => ?_))
    refine g8 ?_
    refine aQ ⟨mid + 1, e1, lk2, decide (((e1 : Int) - a1) / 8 ≤ (mid : Int) - a1), ap, L⟩ sO ⟨by omega, hL1.1.trans (q3.trans hP4.1), (q6 L hL1 hL2).1, fun R h1 h2 => by have h3 := (q6 L hL1 hL2).2 R h1 h2; exact hC R (permIn_trans _ _ _ _ _ hP4.2 h3.1) h3.2⟩ kno (fun w s => by exact s)
   ·refine g15 ?_
    have ih2 := ih (e1 - (mid + 1)) oM (d := d5) (q3.trans hP4.1) (mid + 1) (e1) lk2 (Nat.le_refl _) oM oM hl2 q5
    rw [show ((mid + 1 : Nat) : Int) = (mid : Int) + 1 by omega] at ih2
    refine gL (lA (ι := Array Int) (fun _ => .tuple #[]) (fun x => PermIn (mid + 1) (e1) d5 x ∧ SortedIn ltInt (mid + 1) (e1) x) (fun x => ((t, bY 57 b n c x) :: S)) rfl ih2 (fun L ⟨hL1, hL2⟩ => ?_))
    refine g7 ?_
    refine aQ ⟨a1, mid, lk2, decide (((e1 : Int) - a1) / 8 ≤ (e1 : Int) - mid), ap, L⟩ sO ⟨by omega, hL1.1.trans (q3.trans hP4.1), (q7 L hL1 hL2).1, fun R h1 h2 => by have h3 := (q7 L hL1 hL2).2 R h1 h2; exact hC R (permIn_trans _ _ _ _ _ hP4.2 h3.1) h3.2⟩ kno (fun w s => by exact s)
theorem yE (p : Option Addr) (n c : Nat) (w : World) : Calls Tryz.prog 174 #[.slice p n c] w fun e w' => e = .returned (iV n) ∧ Below w.heap.size w w' := by
 refine aI (args := [.slice p n c]) (L := [(0, .slice p n c)]) (N := 5) Tryz.func174 rfl rfl ble rfl (sS w) ?_
 refine g13 ?_
 exact aT (.inl rfl) rfl (aD rfl) fun w_ s_ => ⟨rfl, s_.aJ0⟩
theorem mI {t : Nat} {ts : List Int} {p : Option Addr} {c : Nat} (ht : t < 60) (hn : ts.length ≤ 1000000000) (hlim : Lim 60 B H S) (hrow : lkp t S = some ⟨.slice p ts.length c, 57, 2, ts.length, bN ts⟩) : ∀ w, Sees F w0 B H S w → Calls Tryz.prog 77 #[.iface 122 (.slice p ts.length c)] w fun e w' => e = .returned (.tuple #[]) ∧ Sees F w0 B H ((t, ⟨.slice p ts.length c, 57, 2, ts.length, bN (dW ts)⟩) :: S) w' := by
 intro w s
 refine aI (args := [.iface 122 (.slice p ts.length c)]) (L := [(0, .iface 122 (.slice p ts.length c))]) (N := 15) Tryz.func77 rfl rfl ble rfl s ?_
 refine g3 ?_
 refine gL (rZ (v := iV (ts.length : Int)) (rv := .slice p ts.length c) (f := 174) dE rfl kW kR rfl (fun w_ s_ => yE _ _ _ w_) ?_)
 refine g10 ?_
 refine aB rfl (fun hc1 => ?_) (fun hc2 => ?_)
 ·have h1 : ts.length ≤ 1 := by have := oT hc1; omega
  have hst : dW ts = ts := by
   match ts, h1 with
   | [], _ => unfold dW; simp
   | [x], _ => unfold dW; simp
  refine g2 ?_
  exact d7 (.inl rfl) rfl fun w_ s_ => ⟨rfl, by rw [hst]; exact s_.rowTo hrow⟩
 ·have h1 : ¬ ts.length ≤ 1 := by have := oF hc2; omega
  refine eA (fun w s => s.head t hrow oM) fun hh => ?_
  obtain ⟨b, rfl, hcap⟩ := hh
  have hbl := rD (n := ts.length) oM oM
  refine g5 ?_
  refine rl ((jR rfl kR kR).to (congrArg (Value.int .u64) (lH oM))) ?_
  refine gL (cvo (v := iV (Lib.bitLen ts.length)) rfl (fun w_ s_ => (oK _ oM oM w_).mono fun e_ w2_ h_ => ⟨h_.1.trans (congrArg Ending.returned rfl), h_.2⟩) ?_)
  refine g7 ?_
  refine aB1 (S' := (t, bY 57 b ts.length c ts.toArray) :: S) (fun a k => k) (fun w s => (s.rowTo hrow).to (fun _ _ h => h) (fun k o v ho h => ⟨h, by obtain ⟨b, e, _⟩ := s.cells k o v ho h; rw [e]; rfl⟩) (fun _ _ h => h)) ?_
  refine gL (lA (ι := Array Int) (fun _ => .tuple #[]) (fun x => PermIn 0 ts.length ts.toArray x ∧ SortedIn ltInt 0 ts.length x) (fun x => (t, bY 57 b ts.length c x) :: S) rfl (fun w_ s_ => aCq hn hlim ht _ (d := ts.toArray) (by simp) 0 ts.length (Lib.bitLen ts.length) (Nat.le_refl _) oM (Nat.le_refl _) oM (.inl rfl) w_ s_) (fun x ⟨hx1, hx2⟩ => ?_))
  refine g1 ?_
  have hs := aFl (d := ts.toArray) (d' := x) (by simpa using hx1) (by simpa using hx2)
  refine d7 (.inr rfl) rfl fun w_ s_ => ⟨rfl, ?_⟩
  have e1 : dW ts = x.toList := by rw [hs]; rfl
  rw [e1]
  exact s_
end
end Go.Proofs.YtdbbifbmkfmbkaaGreat
namespace Go.Proofs.YtdbbifbmkfmbkaaGreat
open Go.RowKit Go.Fr
section
variable {F : Nat → Prop} {w0 : World} {B : LN} {H : LV} {S : LS}
section
variable {P : Program} {Q : Exit → Act → World → Prop} {K : Act → World → Prop} {N d : Nat} {L : Fr.Loc} {v : Value} {ty : TypeId} {pos : String} {aft : Array Edge} {f : FuncId} {asl : List Operand} {ats : Array TypeId} {args : List Value}
def aFz (fn : Func) (L : Fr.Loc) : Option Value := match fn.results.toList with
 | [.tmp d] => lkp d L
 | _ => none
theorem aG4 {fn : Func} (h : aFz fn L = some v) : ∃ d, fn.results = #[.tmp d] ∧ lkp d L = some v := by
 unfold aFz at h
 split at h
 ·rename_i d hd
  exact ⟨d, Array.toList_inj.1 hd, h⟩
 ·cases h
theorem gR {fn : Func} {e : Exit} {R : Ending → World → Prop} (h : aFz fn L = some v) (hR : ∀ w, Sees F w0 B H S w → R (.returned v) w) (he : e = .ret ∨ e = .normal := by first | exact .inl rfl | exact .inr rfl) : GE (bodyPost P fn R) e N L F w0 B H S := by
 obtain ⟨d, h1, h2⟩ := aG4 h
 exact aT he h1 (aD h2) hR
theorem gNo {fn : Func} {e : Exit} {w : World} {X : Prop} (h : aFz fn L = some (.bool false)) (he : e = .ret ∨ e = .normal := by first | exact .inl rfl | exact .inr rfl) : GE (bodyPost P fn fun e w' => ∃ b : Bool, (b = true → X) ∧ e = .returned (.bool b) ∧ Below w.heap.size w w') e N L (fun _ => False) w B H S :=
 gR h (fun w_ s_ => ⟨false, fun h => absurd h dE, rfl, s_.aJ0⟩) he
theorem cbx {ι : Type} (V : ι → Value) (Pr : ι → Prop) (ha : Fr.evs L asl = some args) (hc : ∀ w, Sees F w0 B H S w → Calls P f args.toArray w fun e w' => ∃ x, Pr x ∧ e = .returned (V x) ∧ Below w.heap.size w w') (hn : ∀ x, Pr x → GK K N ((d, V x) :: L) F w0 B H S) (hd : d < N := by decide) (hf : fO P f = true := by kernel_rfl) :
  GO P ⟨some d, .call ⟨.value (.func f), asl.toArray, ats⟩, ty, pos, aft, none⟩ Q K N L F w0 B H S :=
 dR V Pr (fun _ => B) (fun _ => H) (fun _ => S) hd hf ha (fun w s => (hc w s).mono fun e w' ⟨x, h1, h2, h3⟩ => ⟨x, h1, h2, s.below h3⟩) hn
theorem crx {ι : Type} (k : Nat) (V : ι → Value) (Pr : ι → Prop) (q : ι → Slc) (ha : Fr.evs L asl = some args) (hc : ∀ w, Sees F w0 B H S w → Calls P f args.toArray w fun e w' => ∃ x, Pr x ∧ e = .returned (V x) ∧ fL w w' (q x).v (q x).e (q x).sz (q x).n (q x).xs) (hn : ∀ x, Pr x → GK K N ((d, V x) :: L) F w0 B H ((k, q x) :: S)) (hd : d < N := by decide) (hf : fO P f = true := by kernel_rfl) :
  GO P ⟨some d, .call ⟨.value (.func f), asl.toArray, ats⟩, ty, pos, aft, none⟩ Q K N L F w0 B H S :=
 dR V Pr (fun _ => B) (fun _ => H) (fun x => (k, q x) :: S) hd hf ha (fun w s => (hc w s).mono fun e w' ⟨x, h1, h2, h3⟩ => ⟨x, h1, h2, s.newRow h3 k⟩) hn
end
section
variable {P : Program} {N d : Nat} {L : Fr.Loc} {v : Value} {ty : TypeId} {pos : String} {aft : Array Edge} {g : Option (Nat × Bool)}
theorem tR {op : BinOp} {xt yt : TypeId} {x y : Operand} {vx vy : Value} (hx : ev L x = some vx) (hy : ev L y = some vy) (hb : ∀ w : World, (do eqGuard op xt x y vx vy; binOp op xt vx vy : Sem Value).run P w = .ok v w) : Rd P ⟨some d, .binOp op xt x y yt, ty, pos, aft, g⟩ N L F w0 B H S v := fun a w k s => by
 have := hb w
 rw [Sem.run_bind] at this
 simp only [execOp, k.eval hx, k.eval hy, Sem.run_bind, this, Result.andThen_ok, Sem.run_pure]
end
theorem bM {w : World} {v : Value} {xs : List Int} (s : Sees (fun _ => False) w0 B H S w) (h : Ints w0 v xs) : Ints w v xs := by
 obtain ⟨p, c, rfl, hc⟩ := h
 exact ⟨p, c, rfl, fun i x hx => by
  obtain ⟨b, o, e, h1⟩ := hc i x hx
  exact ⟨b, o, e, s.aJ8 h1 (fun h => h)⟩⟩
theorem oC {w : World} {v : Value} {ps : List (Int × Int)} (s : Sees (fun _ => False) w0 B H S w) (h : Prs w0 v ps) : Prs w v ps := by
 obtain ⟨p, c, rfl, hc⟩ := h
 exact ⟨p, c, rfl, fun i x hx => by
  obtain ⟨b, o, e, h1, h2⟩ := hc i x hx
  exact ⟨b, o, e, s.aJ8 h1 (fun h => h), s.aJ8 h2 (fun h => h)⟩⟩
theorem Lim.seqH {m : Nat} {B0 : LN} {S0 : LS} {k : Nat} (hk : k < m) : ∀ (cs : List Value) (o : Nat) {H0 : LV}, o + cs.length ≤ 4096 → Lim m B0 H0 S0 → Lim m B0 (cX k o cs H0) S0
 | [], _, _, _, h => h
 | v :: r, o, H0, ho, h => by
  simp only [List.length_cons] at ho
  show Lim m B0 (cX k (o + 1) r ((ky k o, v) :: H0)) S0
  exact Lim.seqH hk r (o + 1) oM (Lim.aJ1 h hk oM)
end
end Go.Proofs.YtdbbifbmkfmbkaaGreat
namespace Go.Proofs.YtdbbifbmkfmbkaaGreat
open Go.RowKit Go.Fr Go.Tab
section
variable {F : Nat → Prop} {w0 : World} {B : LN} {H : LV} {S : LS}
open Go.Md
theorem wW (a b : Int) (w : World) : Calls Tryz.prog 137 #[.agg #[iV (a), iV 0], .agg #[iV (b), iV 0]] w fun e w' => e = .returned (.bool (a == b)) ∧ Below w.heap.size w w' := by
 refine aI (args := [.agg #[iV (a), iV 0], .agg #[iV (b), iV 0]]) (L := [(0, .agg #[iV (a), iV 0]), (1, .agg #[iV (b), iV 0])]) (N := 8) Tryz.func137 rfl rfl ble rfl (sS w) ?_
 refine g2 ?_
 refine gL (fM 50 (cs := [iV (a), iV 0]) dE rfl rfl rfl (fun o ho => by repeat (first | rfl | rw [aK dE ho _ _ ble])) ble (fun b1 hb1 => ?_))
 refine gL (fM 51 (cs := [iV (b), iV 0]) dE rfl rfl rfl (fun o ho => by repeat (first | rfl | rw [aK dE ho _ _ ble])) ble (fun b2 hb2 => ?_))
 refine g5 ?_
 refine rl (aV 50 rfl rfl rfl rfl kR dE) ?_
 refine rl (aV 51 rfl rfl rfl rfl kR dE) ?_
 refine rZ4 ((aFp rfl rfl).to (v' := .bool (a == b)) (cB (by simp))) ?_
 exact gR rfl fun w_ s_ => ⟨rfl, s_.aJ0⟩
theorem pA (ts : List Int) (t : Int) (p : Option Addr) (c : Nat) (hl : ts.length ≤ 1000000000) (w : World) (hI : Prs w (.slice p ts.length c) (ts.map fun t => (t, (0 : Int)))) : Calls Tryz.prog 119 #[.slice p ts.length c, .agg #[iV (t), iV 0]] w fun e w' => e = .returned (.bool (ts.any (· == t))) ∧ Below w.heap.size w w' := by
 have hT : ∀ i y, ts[i]? = some y → ∃ b o, p = some ⟨b, o, none⟩ ∧ w.cell? ⟨b, o + 2 * i, none⟩ = some (iV y) ∧ w.cell? ⟨b, o + 2 * i + 1, none⟩ = some (iV 0) := fun i y hy => by
  obtain ⟨p', c', e, hc⟩ := hI
  injection e with e1 _ _
  rw [e1]
  exact hc i (y, 0) (by rw [List.getElem?_map, hy]; rfl)
 refine aI (args := [.slice p ts.length c, .agg #[iV (t), iV 0]]) (L := [(0, .slice p ts.length c), (1, .agg #[iV (t), iV 0])]) (N := 17) Tryz.func119 rfl rfl ble rfl (sS w) ?_
 refine g2 ?_
 refine gL (fM 50 (cs := [iV (t), iV 0]) dE rfl rfl rfl (fun o ho => by repeat (first | rfl | rw [aK dE ho _ _ ble])) ble (fun b1 hb1 => ?_))
 refine g12 ?_
 refine bJ (ι := (Nat)) (fun k => ts.length - k) (fun k => (k ≤ ts.length) ∧ ((ts.take k).any (· == t) = false)) (fun k => [(3, pT b1), (7, .slice p ts.length c), (8, iV (ts.length)), (9, iV k)]) (fun k => [(50, b1)]) (fun k => (aC 50 0 [iV (t), iV 0] ++ [])) (fun k => []) 0 ⟨Nat.zero_le _, rfl⟩ kns (fun w s => by exact s) ?_
 rintro k ⟨hk, hn⟩
 show GC _ _ _ _ [(3, pT b1), (7, .slice p ts.length c), (8, iV (ts.length)), (9, iV k)] _ _ ([(50, b1)]) ((aC 50 0 [iV (t), iV 0] ++ [])) ([])
 refine g6 ?_
 refine aB rfl (fun hc1 => ?_) (fun hc2 => ?_)
 ·have hlt : k < ts.length := by have := oT hc1; omega
  obtain ⟨y, hy⟩ : ∃ y, ts[k]? = some y := ⟨_, List.getElem?_eq_getElem hlt⟩
  obtain ⟨b_, o_, rfl, hca, hcb⟩ := hT k y hy
  refine g6 ?_
  refine rl (aF (e := 57) (n := 2) kR rfl rfl oM oM) ?_
  refine rl (gT rfl (by rw [← hca]; congr 2; omega) (by rw [← hcb]; congr 2; omega) (fun h => h) kR) ?_
  refine gL (eB 51 (cs := [iV 0, iV 0]) dE kR rfl (fun o ho => by repeat (first | rfl | rw [aK dE ho _ _ ble])) ble (fun b2 hb2 => ?_))
  refine gL (sta 51 rfl rfl rfl rfl ?_)
  refine g4 ?_
  refine rl (aV 51 rfl rfl rfl rfl kR dE) ?_
  refine rl (aV 50 rfl rfl rfl rfl kR dE) ?_
  refine gL (cvo rfl (fun w_ s_ => wW _ _ w_) ?_)
  refine g2 ?_
  refine aB rfl (fun hc1 => ?_) (fun hc2 => ?_)
  ·have hF : ts.any (· == t) = true := List.any_eq_true.2 ⟨y, List.mem_of_getElem? hy, hc1⟩
   refine g11 ?_
   exact gR rfl fun w_ s_ => ⟨by rw [hF], s_.aJ0⟩
  ·have hne : (y == t) = false := hc2
   refine g7 ?_
   refine aQ (k + 1) oM ⟨by omega, by rw [List.take_add_one, hy, List.any_append, hn]; simpa using hc2⟩ kns (fun w s => by exact (s.low 51 jH agx agx agx))
 ·obtain rfl : k = ts.length := by have := oF hc2; omega
  rw [List.take_length] at hn
  have hF : ts.any (· == t) = false := hn
  refine g11 ?_
  exact gR rfl fun w_ s_ => ⟨by rw [hF], s_.aJ0⟩
end
end Go.Proofs.YtdbbifbmkfmbkaaGreat
