import Derived.Test.YthomapgobmdicaaGreatZrl
set_option linter.unusedVariables false
set_option linter.unusedSimpArgs false
set_option maxRecDepth 100000
set_option maxHeartbeats 8000000
namespace Go.Proofs.YthomapgobmdicaaGreat
open Go.RowKit Go.Fr Go.Tab
section
variable {F : Nat -> Prop} {w0 : World} {B : LN} {H : LV} {S : LS}
open Go.Md
theorem x5  (w : World) : CB 28 #[iV 0] w (iV (-365)) := by
 refine aF (args := [iV 0]) (L := [(0, iV 0)]) (N := 17) Tryz.func28 rfl rfl ble rfl (sS w) (g25 ?_)
 refine g4 ?_
 refine gR rfl fun w_ s_ => ⟨?_, s_.aPg⟩
 rfl
theorem yJ (y : Int) (h0 : 0 <= y /\ y <= 1000000000) (w : World) : CB 28 #[iV y] w (iV (nyF y)) := by
 by_cases h : y = 0
 .subst h
  exact x5 w
 .refine (eO y oM w).mono fun e w' ⟨he, hb⟩ => ⟨he.trans (dX ?_), hb⟩
  unfold nyF
  rw [if_neg h]
theorem sJ {y : Int} (h0 : 0 <= y /\ y <= 1000000) : -365 <= nyF y /\ nyF y <= 400000000 /\ -1 <= (nyF y).tmod 7 /\ (nyF y).tmod 7 <= 6 := by
 by_cases h : y = 0
 .subst h
  exact ⟨by decide, by decide, by decide, by decide⟩
 .have hd : 0 <= Cal.daysTo y /\ Cal.daysTo y <= 400000000 := by unfold Cal.daysTo; omega
  have e : nyF y = Cal.daysTo y := by unfold nyF; rw [if_neg h]
  rw [e, Int.tmod_eq_emod_of_nonneg hd.1]
  omega
theorem wH (x : Int) (w : World) : CB 37 #[iV x] w (iV (x.tmod 7)) := by
 refine aF (args := [iV x]) (L := [(0, iV x)]) (N := 5) Tryz.func37 rfl rfl ble rfl (sS w) (g13 ?_)
 refine gR rfl fun w_ s_ => ⟨?_, s_.aPg⟩
 rfl
theorem lK (y aPq : Int) (h0 : 0 <= y /\ y <= 1000000) (hk : 0 <= aPq /\ aPq <= 6) (w : World) : CB 79 #[iV y, iV aPq] w (iV (dZ y aPq)) := by
 refine aF (args := [iV y, iV aPq]) (L := [(0, iV y), (1, iV aPq)]) (N := 24) Tryz.func79 rfl rfl ble rfl (sS w) ?_
 obtain ⟨n1, n2, n3, n4⟩ := sJ h0
 have hz : y = 0 -> (nyF y).tmod 7 = -1 := fun h => by subst h; decide
 have hz2 : y ≠ 0 -> 0 <= (nyF y).tmod 7 := fun h => by
  have hd : 0 <= Cal.daysTo y := by unfold Cal.daysTo; omega
  have e : nyF y = Cal.daysTo y := by unfold nyF; rw [if_neg h]
  rw [e, Int.tmod_eq_emod_of_nonneg hd]; omega
 have hz3 : 0 <= (nyF y).tmod 7 - aPq + 7 := by omega
 refine g8 ?_
 refine gL (cvo rfl (fun w_ s_ => yJ _ oM w_) (g6 ?_))
 refine gL (cvo rfl (fun w_ s_ => wH _ w_) (g14 ?_))
 refine aB rfl (fun hc1 => ?_) (fun hc2 => ?_)
 .have hle := oT hc1
  refine g10 ?_
  refine gR rfl fun w_ s_ => ⟨?_, s_.aPg⟩
  refine dX ?_
  unfold dZ
  split <;> split <;> omega
 .have hgt := oF hc2
  refine g12 ?_
  refine gR rfl fun w_ s_ => ⟨?_, s_.aPg⟩
  refine dX ?_
  unfold dZ
  split <;> split <;> omega
theorem mY {y aPq : Int} (h0 : 0 <= y /\ y <= 1000000) (hk : 0 <= aPq /\ aPq <= 6) : nyF y - 13 <= dZ y aPq /\ dZ y aPq <= nyF y + 7 := by
 obtain ⟨n1, n2, n3, n4⟩ := sJ h0
 have hz : y = 0 -> (nyF y).tmod 7 = -1 := fun h => by subst h; decide
 have hz2 : y ≠ 0 -> 0 <= (nyF y).tmod 7 := fun h => by
  have hd : 0 <= Cal.daysTo y := by unfold Cal.daysTo; omega
  have e : nyF y = Cal.daysTo y := by unfold nyF; rw [if_neg h]
  rw [e, Int.tmod_eq_emod_of_nonneg hd]; omega
 unfold dZ
 split <;> split <;> omega
theorem aFc {a b : Int} (h0 : 0 <= a) (h : a + 1 <= b) : nyF a + 365 <= nyF b := by
 unfold nyF Cal.daysTo
 split <;> split <;> omega
theorem zY {day aPq : Int} (hd : 0 <= day /\ day <= 5000000) (hy : 1 <= Cal.yearOf day /\ Cal.yearOf day <= 14000) (hk : 0 <= aPq /\ aPq <= 6) : 0 <= eL day aPq /\ eL day aPq <= 14001 /\ dZ (eL day aPq) aPq <= day := by
 have h1 := mY (y := Cal.yearOf day) (aPq := aPq) oM hk
 have h2 := mY (y := Cal.yearOf day - 1) (aPq := aPq) oM hk
 have h3 := aFc (a := Cal.yearOf day - 1) (b := Cal.yearOf day) oM oM
 have hs := Cal.split_spec day
 have e : nyF (Cal.yearOf day) = Cal.daysTo (Cal.yearOf day) := by unfold nyF; rw [if_neg oM]
 unfold eL
 split
 .exact ⟨by omega, by omega, by omega⟩
 .split
  .rename_i h; exact ⟨by omega, by omega, h⟩
  .exact ⟨by omega, by omega, by omega⟩
theorem aA8 (day aPq : Int) (hd : 0 <= day /\ day <= 5000000) (hyb : 1 <= Cal.yearOf day /\ Cal.yearOf day <= 14000) (hk : 0 <= aPq /\ aPq <= 6) (w : World) : CB 61 #[iV day, iV aPq] w (.tuple #[iV (eL day aPq), iV (nT day aPq), iV (rZ day aPq)]) := by
 refine aF (args := [iV day, iV aPq]) (L := [(0, iV day), (1, iV aPq)]) (N := 47) Tryz.func61 rfl rfl ble rfl (sS w) (g10 ?_)
 refine gL (cvo rfl (fun w_ s_ => lU _ oM w_) (g7 ?_))
 refine cO (ι := (Unit)) (fun u => (True)) (fun u => [(0, iV day), (1, iV aPq), (4, iV (eL day aPq))]) (fun u => []) (fun u => []) (fun u => []) ?_ ?_
 .refine g6 ?_
  refine gL (cvo rfl (fun w_ s_ => lK _ _ oM hk w_) (g4 ?_))
  refine aB rfl (fun hc1 => ?_) (fun hc2 => ?_)
  .have h14 := oT hc1
   have hwy : eL day aPq = Cal.yearOf day - 1 := by unfold eL; rw [if_pos h14]
   refine g6 ?_
   refine aK (ι := Unit) () trivial (fun a q => q.cons rfl (q.cons rfl (q.cons (by exact congrArg (fun n : Int => some (iV n)) hwy.symm) q.nil))) (fun w s => s)
  .have h14 := oF hc2
   refine g6 ?_
   refine gL (cvo rfl (fun w_ s_ => lK _ _ oM hk w_) (g4 ?_))
   refine aB rfl (fun hc1 => ?_) (fun hc2 => ?_)
   .have h22 := oT hc1
    have hwy : eL day aPq = Cal.yearOf day + 1 := by unfold eL; rw [if_neg h14, if_pos h22]
    refine g6 ?_
    refine aK (ι := Unit) () trivial (fun a q => q.cons rfl (q.cons rfl (q.cons (by exact congrArg (fun n : Int => some (iV n)) hwy.symm) q.nil))) (fun w s => s)
   .have h22 := oF hc2
    have hwy : eL day aPq = Cal.yearOf day := by unfold eL; rw [if_neg h14, if_neg h22]
    refine g2 ?_
    refine aK (ι := Unit) () trivial (fun a q => q.cons rfl (q.cons rfl (q.cons (by exact congrArg (fun n : Int => some (iV n)) hwy.symm) q.nil))) (fun w s => s)
 rintro u hu
 refine dS ?_
 obtain ⟨y1, y2, y3⟩ := zY hd hyb hk
 have y4 := mY (y := eL day aPq) oM hk
 have y5 := sJ (y := eL day aPq) oM
 have y6 := mY (y := eL day aPq + 1) oM hk
 have y7 := sJ (y := eL day aPq + 1) oM
 have y8 := aFc (a := eL day aPq) (b := eL day aPq + 1) y1 oM
 have y9 : 0 <= dZ (eL day aPq + 1) aPq - dZ (eL day aPq) aPq := by omega
 refine g4 ?_
 refine gL (cvo rfl (fun w_ s_ => lK _ _ oM hk w_) (g14 ?_))
 refine gL (cvo rfl (fun w_ s_ => lK _ _ oM hk w_) (g9 ?_))
 refine jZ (.inl rfl) rfl (aE rfl) (aE rfl) (aE rfl) fun w_ s_ => ⟨?_, s_.aPg⟩
 exact tJ rfl rfl rfl
theorem aAy (y : Int) : 0 <= seH y /\ seH y < 30 := by unfold seH; omega
theorem aFg (y : Int) : 0 <= seL y /\ seL y < 7 := by
 have := aAy y
 unfold seL
 rw [Int.tmod_eq_emod_of_nonneg oM]
 omega
theorem aIe {y : Int} : 0 <= seM y /\ seM y <= 1 := by
 have := aAy y
 have := aFg y
 unfold seM
 omega
theorem wE (y : Int) (h0 : 1 <= y /\ y <= 1000000) (w : World) : CB 62 #[iV y] w (iV (tT y)) := by
 refine aF (args := [iV y]) (L := [(0, iV y)]) (N := 84) Tryz.func62 rfl rfl ble rfl (sS w) ?_
 have hH := aAy y
 have hL := aFg y
 have hM := aIe (y := y)
 have hN : seN y = seH y + seL y - 7 * seM y + 114 := rfl
 refine g40 ?_
 refine g8 ?_
 refine rl ((tU rfl rfl oM oM).to (v' := iV (seH y)) rfl) (g25 ?_)
 refine rl ((yU rfl rfl oM).to (v' := iV (seL y)) rfl) (g12 ?_)
 refine rl ((oZ rfl rfl oM oM oM).to (v' := iV (seM y)) rfl) (g11 ?_)
 refine rl ((gQ rfl rfl oM).to (v' := iV (seN y)) rfl) (g12 ?_)
 refine rl ((gQ rfl rfl oM).to (v' := iV (seN y)) rfl) (g10 ?_)
 refine gL (cvo rfl (fun w_ s_ => mH _ _ _ oM oM oM w_) (g4 ?_))
 refine gR rfl fun w_ s_ => ⟨?_, s_.aPg⟩
 refine dX ?_
 unfold tT
 omega
theorem mL (day first many n : Int) (h1 : 0 <= first /\ first <= day) (h2 : day < first + many) (h3 : day <= 5000000 /\ many <= 400) (hn : -1000 <= n /\ n <= 1000) (w : World) : CB 63 #[iV day, iV first, iV many, iV n] w (.bool (tI day first many n)) := by
 refine aF (args := [iV day, iV first, iV many, iV n]) (L := [(0, iV day), (1, iV first), (2, iV many), (3, iV n)]) (N := 29) Tryz.func63 rfl rfl ble rfl (sS w) (g12 ?_)
 refine aB rfl (fun hc1 => ?_) (fun hc2 => ?_)
 .have hp : 0 < n := oT hc1
  have hF : tI day first many n = ((day - first) / 7 == n - 1) := by unfold tI; rw [if_pos hp]
  refine g14 ?_
  refine gR rfl fun w_ s_ => ⟨?_, s_.aPg⟩
  rw [hF]
 .have hp : ¬ 0 < n := oF hc2
  have hF : tI day first many n = ((first + many - 1 - day) / 7 == -n - 1) := by unfold tI; rw [if_neg hp]
  refine g18 ?_
  refine g1 ?_
  refine gR rfl fun w_ s_ => ⟨?_, s_.aPg⟩
  rw [hF]
theorem aHq {day : Int} : Cal.daysTo (Cal.yearOf day) + 1 - 1 + Cal.cum (Cal.yearOf day) (Cal.monthOf day - 1).toNat = oA day /\ 0 <= Cal.ydayOf day - Cal.cum (Cal.yearOf day) (Cal.monthOf day - 1).toNat /\ Cal.ydayOf day - Cal.cum (Cal.yearOf day) (Cal.monthOf day - 1).toNat < Cal.mdays (Cal.monthOf day) (Cal.yearOf day) /\ 0 <= Cal.cum (Cal.yearOf day) (Cal.monthOf day - 1).toNat := by
 obtain ⟨s1, s2, s3⟩ := Cal.split_spec day
 obtain ⟨j, hj, c1, c2⟩ := Cal.mon_ex s2 s3
 obtain ⟨_, _, d3, d4⟩ := Cal.date_unique hj c1 c2
 rw [s1] at d3 d4
 have hs : Cal.cum (Cal.yearOf day) (j + 1) = Cal.cum (Cal.yearOf day) j + Cal.mdays ((j : Int) + 1) (Cal.yearOf day) := rfl
 have hb := Cal.cum_bd (Cal.yearOf day) j
 unfold oA
 rw [d3, d4, show ((j : Int) + 1 - 1).toNat = j by omega]
 exact ⟨by omega, by omega, by omega, hb.1⟩
theorem aBd (r : Rul) (x : Av) (day : Int) (hday : 0 <= day /\ day <= 5000000) (hf : 0 <= r.aP2 /\ r.aP2 <= 6) (hwk : 0 <= r.aPq /\ r.aPq <= 6) (hwn : ∀ p ∈ r.wday, -1000 <= p.2 /\ p.2 <= 1000) (hl : LenL r) (w : World) (hin : InL w r x) : CB 47 #[.agg (bG r x).toArray, iV day] w (.bool (eC r day)) := by
 obtain ⟨l9, l10, l11, l12, l13, l14, l15, l16, l17, l18⟩ := hl
 have hye := Cal.year_le day oM
 have hyb : 1 <= Cal.yearOf day := by have := iQ (x := day * 86400) oM; rw [show day * 86400 / 86400 = day by omega] at this; omega
 have hmb := Cal.month_bd day
 have hmds := Cal.mdays_bd (Cal.monthOf day) (Cal.yearOf day)
 obtain ⟨hdt, hdt1, hdt2⟩ := Cal.split_spec day
 have hlp := Cal.lp_01 (Cal.yearOf day)
 have hdy0 : 0 <= Cal.daysTo (Cal.yearOf day) := by unfold Cal.daysTo; omega
 obtain ⟨hmf, hmf1, hmf2, hmf3⟩ := aHq (day := day)
 obtain ⟨hwy1, hwy2, hwy3⟩ := zY hday ⟨hyb, hye⟩ hwk
 have hwn0 : 0 <= nT day r.aPq /\ nT day r.aPq <= 1000000 := by
  have b1 := mY (y := eL day r.aPq) oM hwk
  have b2 := sJ (y := eL day r.aPq) oM
  unfold nT; omega
 have hwa0 : -1 <= rZ day r.aPq /\ rZ day r.aPq <= 100000000 := by
  have b1 := mY (y := eL day r.aPq) oM hwk
  have b2 := sJ (y := eL day r.aPq) oM
  have b3 := mY (y := eL day r.aPq + 1) oM hwk
  have b4 := sJ (y := eL day r.aPq + 1) oM
  have b5 := aFc (a := eL day r.aPq) (b := eL day r.aPq + 1) oM oM
  unfold rZ; omega
 have hse : -1000 <= tT (Cal.yearOf day) /\ tT (Cal.yearOf day) <= 10000000 := by
  have b1 := aAy (Cal.yearOf day)
  have b2 := aFg (Cal.yearOf day)
  have b3 := aIe (y := Cal.yearOf day)
  have b4 := Cal.cum_bd (Cal.yearOf day) (seN (Cal.yearOf day) / 31 - 1).toNat
  have b5 : seN (Cal.yearOf day) = seH (Cal.yearOf day) + seL (Cal.yearOf day) - 7 * seM (Cal.yearOf day) + 114 := rfl
  unfold tT
  omega
 have hI : ∀ i y, r.wday[i]? = some y -> ∃ b o, x.p14 = some ⟨b, o, none⟩ /\ w.cell? ⟨b, o + 2 * i, none⟩ = some (iV y.1) /\ w.cell? ⟨b, o + 2 * i + 1, none⟩ = some (iV y.2) := by
  obtain ⟨p', c', e, hc⟩ := hin.i14
  injection e with e1 _ _
  rw [e1]; exact hc
 refine aF (args := [.agg (bG r x).toArray, iV day]) (L := [(0, .agg (bG r x).toArray), (1, iV day)]) (N := 179) Tryz.func47 rfl rfl ble rfl (sS w) (g2 ?_)
 refine gL (fU 50 (cs := bG r x) dE rfl rfl rfl (fun o ho => rfl) ble (fun b1 hb1 => g6 ?_))
 refine gL (cvo rfl (fun w_ s_ => lU _ oM w_) (g9 ?_))
 refine cO (ι := (Unit)) (fun u => (aI r.aPt (Cal.monthOf day) = true)) (fun u => [(1, iV day), (2, pT b1), (5, iV (Cal.yearOf day)), (6, iV (Cal.monthOf day)), (7, iV (Cal.mdayOf day))]) (fun u => [(50, b1)]) (fun u => aL 50 0 (bG r x) ++ []) (fun u => []) ?_ ?_
 .refine g5 ?_
  by_cases h0 : 0 < r.aPt.length
  .refine rZ8 ((bU rfl rfl).to bT) ?_
   rcases bO (r.aPt.any (· == Cal.monthOf day)) with ha | ha
   .refine gL (cvo (v := .bool true) rfl (fun w_ s_ => (bA r.aPt _ _ oM w_ (aZ s_ hin.i10)).mT (cE ha)) (yZ7 ?_))
    refine aK (ι := Unit) () (by unfold aI; rw [ha, Bool.or_true]) kns (fun w s => s)
   .have hF : eC r day = false := by unfold eC; rw [show aI r.aPt (Cal.monthOf day) = false from by unfold aI; rw [ha, rP oM]; rfl]; simp
    refine gL (cvo (v := .bool false) rfl (fun w_ s_ => (bA r.aPt _ _ oM w_ (aZ s_ hin.i10)).mT (cE ha)) (pA ?_))
    exact gR rfl fun w_ s_ => ⟨by rw [hF], s_.aPg⟩
  .refine sA ((bU rfl rfl).to bF) ?_
   refine aK (ι := Unit) () (by unfold aI; rw [show r.aPt.length = 0 by omega]; rfl) kns (fun w s => s)
 rintro u hA
 refine dS ?_
 refine cO (ι := (Unit)) (fun u => (oJ r.aPu day = true)) (fun u => [(1, iV day), (2, pT b1), (5, iV (Cal.yearOf day)), (6, iV (Cal.monthOf day)), (7, iV (Cal.mdayOf day))]) (fun u => [(50, b1)]) (fun u => aL 50 0 (bG r x) ++ []) (fun u => []) ?_ ?_
 .refine g4 ?_
  refine gL (cvo rfl (fun w_ s_ => fQ _ _ oM w_) (g8 ?_))
  by_cases h0 : 0 < r.aPu.length
  .refine rZ8 ((bU rfl rfl).to bT) ?_
   rcases bO (r.aPu.any (· == Cal.mdayOf day)) with ha | ha
   .refine gL (cvo (v := .bool true) rfl (fun w_ s_ => (bA r.aPu _ _ oM w_ (aZ s_ hin.i11)).mT (cE ha)) (uC ?_))
    refine aK (ι := Unit) () (by unfold oJ; rw [ha, Bool.or_true, Bool.true_or]) kns (fun w s => s)
   .refine gL (cvo (v := .bool false) rfl (fun w_ s_ => (bA r.aPu _ _ oM w_ (aZ s_ hin.i11)).mT (cE ha)) (g16 ?_))
    refine g1 ?_
    rcases bO (r.aPu.any (· == Cal.mdayOf day - Cal.mdays (Cal.monthOf day) (Cal.yearOf day) - 1)) with hb | hb
    .refine gL (cvo (v := .bool true) rfl (fun w_ s_ => (bA r.aPu _ _ oM w_ (aZ s_ hin.i11)).mT (cE hb)) (yZ7 ?_))
     refine aK (ι := Unit) () (by unfold oJ; rw [hb, Bool.or_true]) kns (fun w s => s)
    .have hF : eC r day = false := by unfold eC; rw [show oJ r.aPu day = false from by unfold oJ; rw [ha, hb, rP oM]; rfl]; simp
     refine gL (cvo (v := .bool false) rfl (fun w_ s_ => (bA r.aPu _ _ oM w_ (aZ s_ hin.i11)).mT (cE hb)) (pA ?_))
     exact gR rfl fun w_ s_ => ⟨by rw [hF], s_.aPg⟩
  .refine rl ((bU rfl rfl).to bF) (zE ?_)
   refine aK (ι := Unit) () (by unfold oJ; rw [show r.aPu.length = 0 by omega]; rfl) kns (fun w s => s)
 rintro u hM
 refine dS ?_
 refine cO (ι := (Unit)) (fun u => (wG r.aPw day = true)) (fun u => [(1, iV day), (2, pT b1), (5, iV (Cal.yearOf day)), (6, iV (Cal.monthOf day)), (7, iV (Cal.mdayOf day))]) (fun u => [(50, b1)]) (fun u => aL 50 0 (bG r x) ++ []) (fun u => []) ?_ ?_
 .refine g4 ?_
  refine gL (cvo rfl (fun w_ s_ => eO _ oM w_) (g1 ?_))
  refine rZ8 ((gQ rfl rfl oM).to (v' := iV (Cal.ydayOf day + 1)) (congrArg (Value.int .i64) oM)) ?_
  by_cases h0 : 0 < r.aPw.length
  .refine rq ((bU rfl rfl).to bT) (g8 ?_)
   rcases bO (r.aPw.any (· == Cal.ydayOf day + 1)) with ha | ha
   .refine cJ (v := .bool true) dE kR rfl (fun w_ s_ => (bA r.aPw _ _ oM w_ (aZ s_ hin.i12)).mT (cE ha)) ?_
    refine g16 ?_
    refine aU rfl rfl ?_
    refine g1 ?_
    refine aK (ι := Unit) () (by unfold wG; rw [ha, Bool.or_true, Bool.true_or]) kns (fun w s => s)
   .refine cJ (v := .bool false) dE kR rfl (fun w_ s_ => (bA r.aPw _ _ oM w_ (aZ s_ hin.i12)).mT (cE ha)) ?_
    refine g13 ?_
    refine cJ dE kR rfl (fun w_ s_ => gY _ oM w_) ?_
    refine g5 ?_
    rcases bO (r.aPw.any (· == Cal.ydayOf day + 1 - (365 + Cal.lp (Cal.yearOf day)) - 1)) with hb | hb
    .refine cJ (v := .bool true) dE kR rfl (fun w_ s_ => (bA r.aPw _ _ oM w_ (aZ s_ hin.i12)).mT (cE hb)) ?_
     refine yZ7 ?_
     refine aK (ι := Unit) () (by unfold wG; rw [hb, Bool.or_true]) kns (fun w s => s)
    .have hF : eC r day = false := by unfold eC; rw [show wG r.aPw day = false from by unfold wG; rw [ha, hb, rP oM]; rfl]; simp
     refine cJ (v := .bool false) dE kR rfl (fun w_ s_ => (bA r.aPw _ _ oM w_ (aZ s_ hin.i12)).mT (cE hb)) ?_
     refine pA ?_
     exact gR rfl fun w_ s_ => ⟨by rw [hF], s_.aPg⟩
  .refine rq ((bU rfl rfl).to bF) (g20 ?_)
   refine aU rfl rfl ?_
   refine g1 ?_
   refine aK (ι := Unit) () (by unfold wG; rw [show r.aPw.length = 0 by omega]; rfl) kns (fun w s => s)
 rintro u hY
 refine dS ?_
 refine cO (ι := (Unit)) (fun u => (wI r.aPx r.aPq day = true)) (fun u => [(1, iV day), (2, pT b1), (5, iV (Cal.yearOf day)), (6, iV (Cal.monthOf day)), (7, iV (Cal.mdayOf day))]) (fun u => [(50, b1)]) (fun u => aL 50 0 (bG r x) ++ []) (fun u => []) ?_ ?_
 .refine g5 ?_
  by_cases h0 : 0 < r.aPx.length
  .refine rl ((bU rfl rfl).to bT) (g2 ?_)
   refine bK rfl rfl ?_
   refine g5 ?_
   refine gL (cvo rfl (fun w_ s_ => aA8 _ _ hday ⟨hyb, hye⟩ hwk w_) (g14 ?_))
   rcases bO (r.aPx.any (· == nT day r.aPq)) with ha | ha
   .refine gL (cvo (v := .bool true) rfl (fun w_ s_ => (bA r.aPx _ _ oM w_ (aZ s_ hin.i13)).mT (cE ha)) (s4 ?_))
    refine aK (ι := Unit) () (by unfold wI; rw [ha, Bool.or_true, Bool.true_or]) kns (fun w s => s)
   .refine gL (cvo (v := .bool false) rfl (fun w_ s_ => (bA r.aPx _ _ oM w_ (aZ s_ hin.i13)).mT (cE ha)) (g15 ?_))
    rcases bO (r.aPx.any (· == nT day r.aPq - rZ day r.aPq - 1)) with hb | hb
    .refine gL (cvo (v := .bool true) rfl (fun w_ s_ => (bA r.aPx _ _ oM w_ (aZ s_ hin.i13)).mT (cE hb)) (yZ7 ?_))
     refine aK (ι := Unit) () (by unfold wI; rw [hb, Bool.or_true]) kns (fun w s => s)
    .have hF : eC r day = false := by unfold eC; rw [show wI r.aPx r.aPq day = false from by unfold wI; rw [ha, hb, rP oM]; rfl]; simp
     refine gL (cvo (v := .bool false) rfl (fun w_ s_ => (bA r.aPx _ _ oM w_ (aZ s_ hin.i13)).mT (cE hb)) (pA ?_))
     exact gR rfl fun w_ s_ => ⟨by rw [hF], s_.aPg⟩
  .refine rl ((bU rfl rfl).to bF) (g2 ?_)
   refine aU rfl rfl ?_
   refine g1 ?_
   refine aK (ι := Unit) () (by unfold wI; rw [show r.aPx.length = 0 by omega]; rfl) kns (fun w s => s)
 rintro u hW
 refine dS ?_
 refine cO (ι := (Unit)) (fun u => (w9 r.aPy day = true)) (fun u => [(1, iV day), (2, pT b1), (5, iV (Cal.yearOf day)), (6, iV (Cal.monthOf day)), (7, iV (Cal.mdayOf day))]) (fun u => [(50, b1)]) (fun u => aL 50 0 (bG r x) ++ []) (fun u => []) ?_ ?_
 .refine g5 ?_
  by_cases h0 : 0 < r.aPy.length
  .refine rq ((bU rfl rfl).to bT) (g10 ?_)
   refine cJ dE kR rfl (fun w_ s_ => wE _ oM w_) ?_
   refine g3 ?_
   rcases bO (r.aPy.any (· == day - tT (Cal.yearOf day))) with ha | ha
   .refine cJ (v := .bool true) dE kR rfl (fun w_ s_ => (bA r.aPy _ _ oM w_ (aZ s_ hin.i18)).mT (cE ha)) ?_
    refine yZ7 ?_
    refine aK (ι := Unit) () (by unfold w9; rw [ha, Bool.or_true]) kns (fun w s => s)
   .have hF : eC r day = false := by unfold eC; rw [show w9 r.aPy day = false from by unfold w9; rw [ha, rP oM]; rfl]; simp
    refine cJ (v := .bool false) dE kR rfl (fun w_ s_ => (bA r.aPy _ _ oM w_ (aZ s_ hin.i18)).mT (cE ha)) ?_
    refine pA ?_
    exact gR rfl fun w_ s_ => ⟨by rw [hF], s_.aPg⟩
  .refine rq ((bU rfl rfl).to bF) (oD ?_)
   refine aK (ι := Unit) () (by unfold w9; rw [show r.aPy.length = 0 by omega]; rfl) kns (fun w s => s)
 rintro u hE
 refine dS ?_
 refine g6 ?_
 by_cases h0 : r.wday.length = 0
 .have hF : eC r day = true := by unfold eC pF; rw [hA, hM, hY, hW, hE, h0]; rfl
  refine rl ((aQ rfl rfl).to eT) (g2 ?_)
  refine bK rfl rfl ?_
  refine g7 ?_
  exact gR rfl fun w_ s_ => ⟨by rw [hF], s_.aPg⟩
 .refine wA ((aQ rfl rfl).to eF) ?_
  refine aY (ι := (Nat)) (fun k => r.wday.length - k) (fun k => (k <= r.wday.length) /\ ((r.wday.take k).any (iC r.aP2 r.aPt day) = false)) (fun k => [(1, iV day), (2, pT b1), (5, iV (Cal.yearOf day)), (6, iV (Cal.monthOf day)), (129, .slice x.p14 r.wday.length x.c14), (130, iV (r.wday.length)), (131, iV k)]) (fun k => [(50, b1)]) (fun k => aL 50 0 (bG r x) ++ []) (fun k => []) 0 ⟨Nat.zero_le _, rfl⟩ kns (fun w s => by exact s) ?_
  rintro k ⟨hk, hn⟩
  refine dS ?_
  refine g6 ?_
  refine aB rfl (fun hc1 => ?_) (fun hc2 => ?_)
  .have hlt : k < r.wday.length := by have := oT hc1; omega
   obtain ⟨y, hy⟩ : ∃ y, r.wday[k]? = some y := ⟨_, List.getElem?_eq_getElem hlt⟩
   obtain ⟨b_, o_, hp0, hca, hcb⟩ := hI k y hy
   have hyn := hwn y (List.mem_of_getElem? hy)
   refine g6 ?_
   refine rl (aC (e := 43) (n := 2) kR (congrArg (fun p => some (Value.slice p _ _)) hp0) rfl oM oM) (rl (iK rfl (by rw [<- hca]; congr 2; omega) (by rw [<- hcb]; congr 2; omega) (fun h => h) kR) (gL (eJ 51 (cs := [iV 0, iV 0]) dE kR rfl (fun o ho => by repeat (first | rfl | rw [aJ dE ho _ _ ble])) ble (fun b2_ hb2_ => gL (sta 51 rfl rfl rfl rfl (g8 ?_))))))
   refine cJ dE kR rfl (fun w_ s_ => jG _ oM w_) ?_
   refine g3 ?_
   refine aB rfl (fun hc1 => ?_) (fun hc2 => ?_)
   .have hne0 : (y.1 == day % 7) = false := by have := bne_iff_ne.1 hc1; exact nZ this
    have hne : iC r.aP2 r.aPt day y = false := by unfold iC; rw [hne0]; rfl
    refine g8 ?_
    refine aN (k + 1) oM ⟨by omega, by rw [List.take_add_one, hy, List.any_append, hn]; simp [hne]⟩ kns (fun w s => by exact (s.low 51 (by exact ⟨fun k hk => by rw [aA oM]; rfl, fun k hk o ho => by rw [aJ oM ho _ _ ble]; rfl, fun _ _ => rfl⟩) agx agx agx))
   .have heq : (y.1 == day % 7) = true := by have := bne_eq_false_iff_eq.1 hc2; exact oP this
    refine g7 ?_
    by_cases hz : y.2 = 0
    .have hone : iC r.aP2 r.aPt day y = true := by unfold iC; rw [heq, oP hz]; rfl
     have hF : eC r day = true := by unfold eC pF; rw [hA, hM, hY, hW, hE, show r.wday.any (iC r.aP2 r.aPt day) = true from List.any_eq_true.2 ⟨y, List.mem_of_getElem? hy, hone⟩]; simp
     refine rl ((aQ rfl rfl).to eT) (zE ?_)
     exact gR rfl fun w_ s_ => ⟨by rw [hF], s_.aPg⟩
    .refine rZ6 ((aQ rfl rfl).to eF) ?_
     by_cases h1f : 1 < r.aP2
     .have hone : iC r.aP2 r.aPt day y = true := by unfold iC; rw [heq, decide_eq_true h1f, Bool.or_true]; rfl
      have hF : eC r day = true := by unfold eC pF; rw [hA, hM, hY, hW, hE, show r.wday.any (iC r.aP2 r.aPt day) = true from List.any_eq_true.2 ⟨y, List.mem_of_getElem? hy, hone⟩]; simp
      refine rl ((bU rfl rfl).to bT) (uC ?_)
      exact gR rfl fun w_ s_ => ⟨by rw [hF], s_.aPg⟩
     .refine wZ9 ((bU rfl rfl).to bF) ?_
      by_cases hf1 : r.aP2 = 1
      .refine wA ((aQ rfl rfl).to eT) ?_
       refine cJ dE kR rfl (fun w_ s_ => mH _ _ _ oM oM oM w_) ?_
       refine g2 ?_
       refine cJ dE kR rfl (fun w_ s_ => fQ _ _ oM w_) ?_
       refine g2 ?_
       rcases bO (tI day (Cal.daysTo (Cal.yearOf day) + 1 - 1 + Cal.cum (Cal.yearOf day) (Cal.monthOf day - 1).toNat) (Cal.mdays (Cal.monthOf day) (Cal.yearOf day)) y.2) with hnb | hnb
       .have hnb2 := hnb; rw [hmf] at hnb2; have hone : iC r.aP2 r.aPt day y = true := by unfold iC; rw [heq, nZ hz, decide_eq_false h1f, if_pos (show r.aP2 = 1 \/ 0 < r.aPt.length by omega), hnb2]; rfl
        have hF : eC r day = true := by unfold eC pF; rw [hA, hM, hY, hW, hE, show r.wday.any (iC r.aP2 r.aPt day) = true from List.any_eq_true.2 ⟨y, List.mem_of_getElem? hy, hone⟩]; simp
        refine cJ (v := .bool true) dE kR rfl (fun w_ s_ => (mL _ _ _ _ oM oM oM hyn w_).mT (cE hnb)) ?_
        refine s4 ?_
        exact gR rfl fun w_ s_ => ⟨by rw [hF], s_.aPg⟩
       .have hnb2 := hnb; rw [hmf] at hnb2; have hne : iC r.aP2 r.aPt day y = false := by unfold iC; rw [heq, nZ hz, decide_eq_false h1f, if_pos (show r.aP2 = 1 \/ 0 < r.aPt.length by omega), hnb2]; rfl
        refine cJ (v := .bool false) dE kR rfl (fun w_ s_ => (mL _ _ _ _ oM oM oM hyn w_).mT (cE hnb)) ?_
        refine qG ?_
        refine aN (k + 1) oM ⟨by omega, by rw [List.take_add_one, hy, List.any_append, hn]; simp [hne]⟩ kns (fun w s => by exact (s.low 51 (by exact ⟨fun k hk => by rw [aA oM]; rfl, fun k hk o ho => by rw [aJ oM ho _ _ ble]; rfl, fun _ _ => rfl⟩) agx agx agx))
      .refine rZ8 ((aQ rfl rfl).to eF) ?_
       by_cases hml : 0 < r.aPt.length
       .refine rl ((bU rfl rfl).to bT) (g4 ?_)
        refine bK rfl rfl ?_
        refine g5 ?_
        refine cJ dE kR rfl (fun w_ s_ => mH _ _ _ oM oM oM w_) ?_
        refine g2 ?_
        refine cJ dE kR rfl (fun w_ s_ => fQ _ _ oM w_) ?_
        refine g2 ?_
        rcases bO (tI day (Cal.daysTo (Cal.yearOf day) + 1 - 1 + Cal.cum (Cal.yearOf day) (Cal.monthOf day - 1).toNat) (Cal.mdays (Cal.monthOf day) (Cal.yearOf day)) y.2) with hnb | hnb
        .have hnb2 := hnb; rw [hmf] at hnb2; have hone : iC r.aP2 r.aPt day y = true := by unfold iC; rw [heq, nZ hz, decide_eq_false h1f, if_pos (show r.aP2 = 1 \/ 0 < r.aPt.length by omega), hnb2]; rfl
         have hF : eC r day = true := by unfold eC pF; rw [hA, hM, hY, hW, hE, show r.wday.any (iC r.aP2 r.aPt day) = true from List.any_eq_true.2 ⟨y, List.mem_of_getElem? hy, hone⟩]; simp
         refine cJ (v := .bool true) dE kR rfl (fun w_ s_ => (mL _ _ _ _ oM oM oM hyn w_).mT (cE hnb)) ?_
         refine s4 ?_
         exact gR rfl fun w_ s_ => ⟨by rw [hF], s_.aPg⟩
        .have hnb2 := hnb; rw [hmf] at hnb2; have hne : iC r.aP2 r.aPt day y = false := by unfold iC; rw [heq, nZ hz, decide_eq_false h1f, if_pos (show r.aP2 = 1 \/ 0 < r.aPt.length by omega), hnb2]; rfl
         refine cJ (v := .bool false) dE kR rfl (fun w_ s_ => (mL _ _ _ _ oM oM oM hyn w_).mT (cE hnb)) ?_
         refine qG ?_
         refine aN (k + 1) oM ⟨by omega, by rw [List.take_add_one, hy, List.any_append, hn]; simp [hne]⟩ kns (fun w s => by exact (s.low 51 (by exact ⟨fun k hk => by rw [aA oM]; rfl, fun k hk o ho => by rw [aJ oM ho _ _ ble]; rfl, fun _ _ => rfl⟩) agx agx agx))
       .refine wZ9 ((bU rfl rfl).to bF) ?_
        refine cJ dE kR rfl (fun w_ s_ => eO _ oM w_) ?_
        refine g1 ?_
        refine cJ dE kR rfl (fun w_ s_ => gY _ oM w_) ?_
        refine g2 ?_
        rcases bO (tI day (Cal.daysTo (Cal.yearOf day)) (365 + Cal.lp (Cal.yearOf day)) y.2) with hnb | hnb
        .have hnb2 := hnb; have hone : iC r.aP2 r.aPt day y = true := by unfold iC; rw [heq, nZ hz, decide_eq_false h1f, if_neg (show ¬ (r.aP2 = 1 \/ 0 < r.aPt.length) by omega), hnb2]; rfl
         have hF : eC r day = true := by unfold eC pF; rw [hA, hM, hY, hW, hE, show r.wday.any (iC r.aP2 r.aPt day) = true from List.any_eq_true.2 ⟨y, List.mem_of_getElem? hy, hone⟩]; simp
         refine cJ (v := .bool true) dE kR rfl (fun w_ s_ => (mL _ _ _ _ oM oM oM hyn w_).mT (cE hnb)) ?_
         refine xH ?_
         exact gR rfl fun w_ s_ => ⟨by rw [hF], s_.aPg⟩
        .have hnb2 := hnb; have hne : iC r.aP2 r.aPt day y = false := by unfold iC; rw [heq, nZ hz, decide_eq_false h1f, if_neg (show ¬ (r.aP2 = 1 \/ 0 < r.aPt.length) by omega), hnb2]; rfl
         refine cJ (v := .bool false) dE kR rfl (fun w_ s_ => (mL _ _ _ _ oM oM oM hyn w_).mT (cE hnb)) ?_
         refine l5 ?_
         refine aN (k + 1) oM ⟨by omega, by rw [List.take_add_one, hy, List.any_append, hn]; simp [hne]⟩ kns (fun w s => by exact (s.low 51 (by exact ⟨fun k hk => by rw [aA oM]; rfl, fun k hk o ho => by rw [aJ oM ho _ _ ble]; rfl, fun _ _ => rfl⟩) agx agx agx))
  .obtain rfl : k = r.wday.length := by have := oF hc2; omega
   rw [List.take_length] at hn
   have hF : eC r day = false := by unfold eC pF; rw [hn, rP h0]; simp
   refine g11 ?_
   exact gR rfl fun w_ s_ => ⟨by rw [hF], s_.aPg⟩
end
open Go.Md Go.Tab Go.Fr
theorem aA0 {r : Rul} (rp : RightP r) (hf : r.aP2 = 0 \/ r.aP2 = 1) (hl : LenL r) : xX (aV r) (eC (aV r)) := fun x2 day hd w hin => by
 obtain ⟨e1, e2, e3, e4, e5, e6, e7, e8, e9⟩ := cU r
 refine aBd (aV r) x2 day hd (by rw [e2]; exact rp.t1.aP2) (by rw [e4]; exact rp.t1.aPq) (fun p hp => ?_) (qZ hl) w hin
 have hw : (aV r).wday = r.wday := by
  have h4 : ∀ q : Rul, (iH q).wday = q.wday := fun q => by unfold iH; split <;> rfl
  have h3 : ∀ q : Rul, (gD q).wday = q.wday := fun q => by unfold gD; split <;> rfl
  have h2 : ∀ q : Rul, (fZ q).wday = q.wday := fun q => by unfold fZ; split <;> rfl
  unfold aV
  rw [h4, h3, h2]
  unfold gA
  split
  .rcases hf with hf | hf
   .rw [if_pos hf]
   .rw [if_neg oM, if_pos hf]
  .rfl
 rw [hw] at hp
 obtain ⟨i, hi, rfl⟩ := List.mem_iff_getElem.1 hp
 have h := (rp.t6 i _ (List.getElem?_eq_getElem hi)).2.2.1
 have hm : nU r <= 53 := by
  have h53 : jD r <= 53 := by unfold jD; split <;> (try split) <;> omega
  unfold nU
  split
  .omega
  .exact h53
 omega
open Go.Md Go.Tab Go.Fr
theorem vA {c st en most : Int} (hc : 0 < c) : ∀ (l o : List Int), (o.length : Int) <= c -> ((cM c st en most o l).1.length : Int) <= c
 | [], o, h => h
 | t :: l, o, h => by
  rw [gO]
  by_cases h1 : t < st
  .rw [if_pos h1]; exact vA hc l o h
  .rw [if_neg h1]
   by_cases h2 : (o.length : Int) = most \/ (0 < c /\ (o.length : Int) = c) \/ en < t
   .rw [if_pos h2]; exact h
   .rw [if_neg h2]
    exact vA hc l (o ++ [t]) (by rw [List.length_append, List.length_singleton]; omega)
open Go.Md Go.Tab Go.Fr
def rN (c most : Int) (n : Nat) : Prop := (n : Int) = most \/ (0 < c /\ (n : Int) = c)
structure Pre (H : Int -> Prop) (c most : Int) (l : List Int) : Prop where
 si : SI l
 hit : ∀ x ∈ l, H x
 all : ∀ x, H x -> x ∈ l \/ (rN c most l.length /\ ∀ y ∈ l, y < x)
 le : (l.length : Int) <= most /\ (0 < c -> (l.length : Int) <= c)
theorem SI.sub : ∀ {l m : List Int}, SI l -> SI m -> (∀ x ∈ l, x ∈ m) -> l.length <= m.length /\ (m.length <= l.length -> l = m)
 | [], [], _, _, _ => ⟨Nat.le_refl _, fun _ => rfl⟩
 | [], b :: m, _, _, _ => ⟨Nat.zero_le _, fun h => by simp only [List.length_cons, List.length_nil] at h; omega⟩
 | a :: l, [], _, _, h => by have := h a List.mem_cons_self; cases this
 | a :: l, b :: m, hl, hm, h => by
  obtain ⟨l1, l2⟩ := List.pairwise_cons.1 hl
  obtain ⟨m1, m2⟩ := List.pairwise_cons.1 hm
  by_cases e : a = b
  .subst e
   obtain ⟨h1, h2⟩ := SI.sub l2 m2 fun x hx => by
    rcases List.mem_cons.1 (h x (List.mem_cons_of_mem _ hx)) with rfl | h3
    .have := l1 x hx; omega
    .exact h3
   simp only [List.length_cons]
   exact ⟨by omega, fun h3 => by rw [h2 oM]⟩
  .have hb : b < a := by
    rcases List.mem_cons.1 (h a List.mem_cons_self) with h3 | h3
    .exact absurd h3 e
    .exact m1 a h3
   obtain ⟨h1, _⟩ := SI.sub hl m2 fun x hx => by
    rcases List.mem_cons.1 (h x hx) with h3 | h3
    .subst h3
     rcases List.mem_cons.1 hx with h4 | h4
     .omega
     .have := l1 _ h4; omega
    .exact h3
   simp only [List.length_cons] at h1 ⊢
   exact ⟨by omega, fun h3 => by omega⟩
theorem SI.snoc {o : List Int} {t : Int} (h : SI o) (hb : ∀ x ∈ o, x < t) : SI (o ++ [t]) := by
 unfold SI at *
 rw [List.pairwise_append]
 exact ⟨h, by simp, fun a ha b hb2 => by rw [List.mem_singleton] at hb2; subst hb2; exact hb a ha⟩
theorem oE {c st en most : Int} : ∀ (L o : List Int), SI L -> SI o -> (∀ x ∈ o, ∀ t ∈ L, x < t) ->
  SI (cM c st en most o L).1 /\ (∀ x ∈ (cM c st en most o L).1, x ∈ o \/ (x ∈ L /\ st <= x /\ x <= en)) /\ (∀ x ∈ o, x ∈ (cM c st en most o L).1) /\
  ((cM c st en most o L).2 = true -> ∀ x ∈ L, st <= x -> x ∈ (cM c st en most o L).1) /\
  ((cM c st en most o L).2 = false -> (∀ x ∈ L, st <= x -> x <= en -> x ∈ (cM c st en most o L).1 \/ (rN c most (cM c st en most o L).1.length /\ ∀ y ∈ (cM c st en most o L).1, y < x)) /\ (rN c most (cM c st en most o L).1.length \/ ∃ t ∈ L, en < t))
 | [], o, _, ho, _ => ⟨ho, fun x hx => .inl hx, fun x hx => hx, fun _ x hx => (by cases hx), fun h => (by cases h)⟩
 | t :: l, o, hL, ho, hlt => by
  have hL1 : SI l := (List.pairwise_cons.1 hL).2
  have hL2 : ∀ x ∈ l, t < x := (List.pairwise_cons.1 hL).1
  rw [gO]
  by_cases h1 : t < st
  .rw [if_pos h1]
   obtain ⟨a1, a2, a3, a4, a5⟩ := oE (c := c) (st := st) (en := en) (most := most) l o hL1 ho fun x hx y hy => hlt x hx y (List.mem_cons_of_mem _ hy)
   refine ⟨a1, fun x hx => ?_, a3, fun h x hx hs => ?_, fun h => ⟨fun x hx hs he => ?_, ?_⟩⟩
   .rcases a2 x hx with h | ⟨h, g⟩
    .exact .inl h
    .exact .inr ⟨List.mem_cons_of_mem _ h, g⟩
   .rcases List.mem_cons.1 hx with rfl | hx
    .omega
    .exact a4 h x hx hs
   .rcases List.mem_cons.1 hx with rfl | hx
    .omega
    .exact (a5 h).1 x hx hs he
   .rcases (a5 h).2 with h | ⟨y, h, g⟩
    .exact .inl h
    .exact .inr ⟨y, List.mem_cons_of_mem _ h, g⟩
  .rw [if_neg h1]
   by_cases h2 : (o.length : Int) = most \/ (0 < c /\ (o.length : Int) = c) \/ en < t
   .rw [if_pos h2]
    refine ⟨ho, fun x hx => .inl hx, fun x hx => hx, fun h => (by cases h), fun _ => ⟨fun x hx hs he => ?_, ?_⟩⟩
    .have hx2 : t <= x := by
      rcases List.mem_cons.1 hx with rfl | hx
      .exact Int.le_refl _
      .exact Int.le_of_lt (hL2 x hx)
     refine .inr ⟨?_, fun y hy => hlt y hy x hx⟩
     show rN c most o.length
     unfold rN
     omega
    .by_cases h3 : en < t
     .exact .inr ⟨t, List.mem_cons_self, h3⟩
     .refine .inl ?_
      show rN c most o.length
      unfold rN
      omega
   .rw [if_neg h2]
    have g1 : SI (o ++ [t]) := ho.snoc fun x hx => hlt x hx t List.mem_cons_self
    obtain ⟨a1, a2, a3, a4, a5⟩ := oE (c := c) (st := st) (en := en) (most := most) l (o ++ [t]) hL1 g1 fun x hx y hy => by
     rcases List.mem_append.1 hx with hx | hx
     .exact hlt x hx y (List.mem_cons_of_mem _ hy)
     .rw [List.mem_singleton] at hx; subst hx; exact hL2 y hy
    refine ⟨a1, fun x hx => ?_, fun x hx => a3 x (List.mem_append_left _ hx), fun h x hx hs => ?_, fun h => ⟨fun x hx hs he => ?_, ?_⟩⟩
    .rcases a2 x hx with h | ⟨h, g⟩
     .rcases List.mem_append.1 h with h | h
      .exact .inl h
      .rw [List.mem_singleton] at h; subst h
       exact .inr ⟨List.mem_cons_self, by omega⟩
     .exact .inr ⟨List.mem_cons_of_mem _ h, g⟩
    .rcases List.mem_cons.1 hx with rfl | hx
     .exact a3 _ (List.mem_append_right _ (List.mem_singleton.2 rfl))
     .exact a4 h x hx hs
    .rcases List.mem_cons.1 hx with rfl | hx
     .exact .inl (a3 _ (List.mem_append_right _ (List.mem_singleton.2 rfl)))
     .exact (a5 h).1 x hx hs he
    .rcases (a5 h).2 with h | ⟨y, h, g⟩
     .exact .inl h
     .exact .inr ⟨y, List.mem_cons_of_mem _ h, g⟩
def jU (q : Rul) (dayF : Int -> Bool) (k : Int) : List Int := dY (eU q dayF k) q.aPz
def aMh (q : Rul) (dayF : Int -> Bool) (en : Int) (x : Int) : Prop := ∃ k, 0 <= k /\ x ∈ jU q dayF k /\ q.start <= x /\ x <= en
structure Rises (q : Rul) (dayF : Int -> Bool) (en : Int) : Prop where
 si : ∀ k, 0 <= k -> SI (jU q dayF k)
 lt : ∀ j k, 0 <= j -> j < k -> ∀ x ∈ jU q dayF j, ∀ y ∈ jU q dayF k, x < y
 over : ∀ j k, 0 <= j -> j <= k -> eE q j -> ∀ x ∈ jU q dayF k, en < x
theorem aHw {q : Rul} {dayF : Int -> Bool} {en most : Int} (R : Rises q dayF en) (hc0 : 0 <= q.count) {k : Int} {o l : List Int} (h : DatesP q dayF en most k o l) : 0 <= k -> SI o -> (∀ x ∈ o, ∃ j, 0 <= j /\ j < k /\ x ∈ jU q dayF j /\ q.start <= x /\ x <= en) -> (∀ j, 0 <= j -> j < k -> ∀ x ∈ jU q dayF j, q.start <= x -> x <= en -> x ∈ o) -> (o.length : Int) <= most /\ (0 < q.count -> (o.length : Int) <= q.count) -> Pre (aMh q dayF en) q.count most l := by
 have step : ∀ (k : Int) (o : List Int), 0 <= k -> SI o -> (∀ x ∈ o, ∃ j, 0 <= j /\ j < k /\ x ∈ jU q dayF j /\ q.start <= x /\ x <= en) -> (o.length : Int) <= most /\ (0 < q.count -> (o.length : Int) <= q.count) ->
   (∀ x ∈ (dW q q.start en most o (eU q dayF k)).1, ∃ j, 0 <= j /\ j < k + 1 /\ x ∈ jU q dayF j /\ q.start <= x /\ x <= en) /\ SI (dW q q.start en most o (eU q dayF k)).1 /\ (((dW q q.start en most o (eU q dayF k)).1.length : Int) <= most /\ (0 < q.count -> ((dW q q.start en most o (eU q dayF k)).1.length : Int) <= q.count)) := by
  intro k o h0 hs ho hn
  have hlt : ∀ x ∈ o, ∀ t ∈ jU q dayF k, x < t := fun x hx t ht => by
   obtain ⟨j, j0, j1, j2, _⟩ := ho x hx
   exact R.lt j k j0 j1 x j2 t ht
  obtain ⟨a1, a2, a3, a4, a5⟩ := oE (c := q.count) (st := q.start) (en := en) (most := most) (jU q dayF k) o (R.si k h0) hs hlt
  refine ⟨fun x hx => ?_, a1, kC _ _ _ _ _ _ hn.1, fun hp => vA hp _ _ (hn.2 hp)⟩
  rcases a2 x hx with h | ⟨h, g⟩
  .obtain ⟨j, j0, j1, j2⟩ := ho x h
   exact ⟨j, j0, by omega, j2⟩
  .exact ⟨k, h0, by omega, h, g⟩
 induction h with
 | @over k o h =>
  intro h0 hs ho ha hn
  refine ⟨hs, fun x hx => ?_, fun x ⟨j, j0, j1, j2, j3⟩ => ?_, hn⟩
  .obtain ⟨j, j0, _, j2⟩ := ho x hx
   exact ⟨j, j0, j2⟩
  .by_cases hj : j < k
   .exact .inl (ha j j0 hj x j1 j2 j3)
   .have := R.over k j h0 oM h x j1
    omega
 | @stop k o h hs2 =>
  intro h0 hs ho ha hn
  obtain ⟨b1, b2, b3⟩ := step k o h0 hs ho hn
  have hlt : ∀ x ∈ o, ∀ t ∈ jU q dayF k, x < t := fun x hx t ht => by
   obtain ⟨j, j0, j1, j2, _⟩ := ho x hx
   exact R.lt j k j0 j1 x j2 t ht
  obtain ⟨a1, a2, a3, a4, a5⟩ := oE (c := q.count) (st := q.start) (en := en) (most := most) (jU q dayF k) o (R.si k h0) hs hlt
  refine ⟨b2, fun x hx => ?_, fun x ⟨j, j0, j1, j2, j3⟩ => ?_, b3⟩
  .obtain ⟨j, j0, _, j2⟩ := b1 x hx
   exact ⟨j, j0, j2⟩
  .have hfull : (cM q.count q.start en most o (jU q dayF k)).2 = true -> rN q.count most (cM q.count q.start en most o (jU q dayF k)).1.length := fun hg => by
    unfold dW at hs2
    simp only at hs2
    change ((cM q.count q.start en most o (jU q dayF k)).2 && jR q.count most (cM q.count q.start en most o (jU q dayF k)).1.length) = false at hs2
    rw [hg, Bool.true_and] at hs2
    unfold jR at hs2
    simp only [Bool.and_eq_false_iff, Bool.or_eq_false_iff, decide_eq_false_iff_not, beq_eq_false_iff_ne] at hs2
    have b31 : ((cM q.count q.start en most o (jU q dayF k)).1.length : Int) <= most := b3.1
    have b32 : 0 < q.count -> ((cM q.count q.start en most o (jU q dayF k)).1.length : Int) <= q.count := b3.2
    unfold rN
    by_cases hc : 0 < q.count
    .have := b32 hc
     omega
    .rcases hs2 with g | ⟨g1, g2⟩
     .omega
     .omega
   change x ∈ (cM q.count q.start en most o (jU q dayF k)).1 \/ (rN q.count most (cM q.count q.start en most o (jU q dayF k)).1.length /\ ∀ y ∈ (cM q.count q.start en most o (jU q dayF k)).1, y < x)
   rcases Int.lt_trichotomy j k with hj | hj | hj
   .exact .inl (a3 x (ha j j0 hj x j1 j2 j3))
   .subst hj
    cases hg : (cM q.count q.start en most o (jU q dayF j)).2 with
    | true => exact .inl (a4 hg x j1 j2)
    | false => exact (a5 hg).1 x j1 j2 j3
   .have hbig : ∀ y ∈ (cM q.count q.start en most o (jU q dayF k)).1, y < x := fun y hy => by
     obtain ⟨i, i0, i1, i2, _⟩ := b1 y hy
     exact R.lt i j i0 oM y i2 x j1
    cases hg : (cM q.count q.start en most o (jU q dayF k)).2 with
    | true => exact .inr ⟨hfull hg, hbig⟩
    | false =>
     rcases (a5 hg).2 with h5 | ⟨t, h5, h6⟩
     .exact .inr ⟨h5, hbig⟩
     .have := R.lt k j h0 hj t h5 x j1
      omega
 | @more k o l h hs2 hn2 ih =>
  intro h0 hs ho ha hn
  obtain ⟨b1, b2, b3⟩ := step k o h0 hs ho hn
  have hlt : ∀ x ∈ o, ∀ t ∈ jU q dayF k, x < t := fun x hx t ht => by
   obtain ⟨j, j0, j1, j2, _⟩ := ho x hx
   exact R.lt j k j0 j1 x j2 t ht
  obtain ⟨a1, a2, a3, a4, a5⟩ := oE (c := q.count) (st := q.start) (en := en) (most := most) (jU q dayF k) o (R.si k h0) hs hlt
  have hg : (cM q.count q.start en most o (jU q dayF k)).2 = true := by
   have : ((cM q.count q.start en most o (jU q dayF k)).2 && jR q.count most (cM q.count q.start en most o (jU q dayF k)).1.length) = true := hs2
   exact (Bool.and_eq_true_iff.1 this).1
  refine ih oM b2 b1 (fun j j0 j1 x j2 j3 j4 => ?_) b3
  change x ∈ (cM q.count q.start en most o (jU q dayF k)).1
  by_cases hj : j < k
  .exact a3 x (ha j j0 hj x j2 j3 j4)
  .obtain rfl : j = k := by omega
   exact a4 hg x j2 j3
theorem aLt {q : Rul} {dayF : Int -> Bool} {en most : Int} (R : Rises q dayF en) (hm : 0 <= most) (hc : 0 <= q.count) {l : List Int} (h : DatesP q dayF en most 0 [] l) : Pre (aMh q dayF en) q.count most l :=
 aHw R hc h (Int.le_refl _) List.Pairwise.nil (fun x hx => by cases hx) (fun j j0 j1 => by omega) ⟨hm, fun h => hc⟩
open Go.Md Go.Tab Go.Fr
def aBr (q : Rul) (x : Int) : Prop := aI q.hour (x % 86400 / 3600) = true /\ aI q.aPr (x % 86400 / 60 % 60) = true /\ aI q.aPs (x % 60) = true
def pLo (q : Rul) (k : Int) : Int := if 4 <= q.aP2 then pAt q k else cH q k * 86400
def pHi (q : Rul) (k : Int) : Int := if 4 <= q.aP2 then pAt q k + UN q.aP2 else (cH q k + fH q k) * 86400
theorem aFy (f : Int) : (UN f = 3600 \/ UN f = 60 \/ UN f = 1) := by
 unfold UN
 split
 .exact .inl rfl
 .split
  .exact .inr (.inl rfl)
  .exact .inr (.inr rfl)
theorem sK {q : Rul} {dayF : Int -> Bool} {d x : Int} : x ∈ j5 q dayF d ↔ d * 86400 <= x /\ x < (d + 1) * 86400 /\ 0 <= x /\ dayF (x / 86400) = true /\ aBr q x := by
 unfold j5 aBr
 by_cases h : 0 <= d /\ dayF d = true
 .rw [if_pos h, mK]
  constructor
  .rintro ⟨h1, h2, h3, h4, h5, h6, h7⟩
   obtain rfl : x / 86400 = d := by omega
   refine ⟨by omega, by omega, by omega, h.2, ?_, ?_, ?_⟩
   .rw [show x % 86400 = x - x / 86400 * 86400 by omega]; exact h5
   .rw [show x % 86400 = x - x / 86400 * 86400 by omega]; exact h6
   .rw [show x % 60 = (x - x / 86400 * 86400) % 60 by omega]; exact h7
  .rintro ⟨h1, h2, h3, h4, h5, h6, h7⟩
   obtain rfl : x / 86400 = d := by omega
   refine ⟨by omega, by omega, by omega, by omega, ?_, ?_, ?_⟩
   .rw [show x - x / 86400 * 86400 = x % 86400 by omega]; exact h5
   .rw [show x - x / 86400 * 86400 = x % 86400 by omega]; exact h6
   .rw [show (x - x / 86400 * 86400) % 60 = x % 60 by omega]; exact h7
 .rw [if_neg h]
  constructor
  .intro h; cases h
  .rintro ⟨h1, h2, h3, h4, _⟩
   obtain rfl : x / 86400 = d := by omega
   exact absurd ⟨by omega, h4⟩ h
theorem aG5 (q : Rul) (dayF : Int -> Bool) (d : Int) : SI (j5 q dayF d) := by
 unfold j5
 split
 .exact zA _ _ _ _ _ _
 .exact List.Pairwise.nil
theorem aJw (q : Rul) (dayF : Int -> Bool) (k : Int) : SI (eU q dayF k) := by
 unfold eU
 split
 .split
  .exact zA _ _ _ _ _ _
  .exact List.Pairwise.nil
 .unfold kL
  refine SI.flat (a := cH q k * 86400) (w := 86400) dE (fun i => aG5 _ _ _) (fun i x hx => ?_) _
  have := sK.1 hx
  omega
theorem aHs {q : Rul} {dayF : Int -> Bool} {k x : Int} (hm : 0 <= fH q k) (hf : 4 <= q.aP2 -> cH q k = pAt q k / 86400 /\ 0 <= pAt q k /\ pAt q k % UN q.aP2 = 0) : x ∈ eU q dayF k ↔ pLo q k <= x /\ x < pHi q k /\ 0 <= x /\ dayF (x / 86400) = true /\ aBr q x := by
 unfold eU pLo pHi
 by_cases h4 : 4 <= q.aP2
 .rw [if_pos h4, if_pos h4, if_pos h4]
  obtain ⟨g1, g2, g3⟩ := hf h4
  have hday : ∀ y, pAt q k <= y -> y < pAt q k + UN q.aP2 -> y / 86400 = cH q k := fun y h1 h2 => by
   rw [g1]
   rcases aFy q.aP2 with h | h | h <;> rw [h] at h2 g3 <;> omega
  constructor
  .intro h
   split at h
   .rename_i hd
    rw [mK] at h
    obtain ⟨h1, h2, h3, h4, h5, h6, h7⟩ := h
    have e := hday x h3 h4
    refine ⟨h3, h4, by omega, by rw [e]; exact hd, ?_, ?_, ?_⟩
    .rw [show x % 86400 = x - cH q k * 86400 by omega]; exact h5
    .rw [show x % 86400 = x - cH q k * 86400 by omega]; exact h6
    .rw [show x % 60 = (x - cH q k * 86400) % 60 by omega]; exact h7
   .cases h
  .rintro ⟨h1, h2, h3, h4, h5, h6, h7⟩
   have e := hday x h1 h2
   rw [e] at h4
   rw [if_pos h4, mK]
   refine ⟨by omega, by omega, h1, h2, ?_, ?_, ?_⟩
   .rw [show x - cH q k * 86400 = x % 86400 by omega]; exact h5
   .rw [show x - cH q k * 86400 = x % 86400 by omega]; exact h6
   .rw [show (x - cH q k * 86400) % 60 = x % 60 by omega]; exact h7
 .rw [if_neg h4, if_neg h4, if_neg h4]
  unfold kL
  rw [List.mem_flatMap]
  constructor
  .rintro ⟨i, hi, h⟩
   rw [List.mem_range] at hi
   obtain ⟨h1, h2, h3⟩ := sK.1 h
   exact ⟨by omega, by omega, h3⟩
  .rintro ⟨h1, h2, h3⟩
   refine ⟨(x / 86400 - cH q k).toNat, List.mem_range.2 oM, sK.2 ⟨by omega, by omega, h3⟩⟩
theorem aKh {L at_ : List Int} {x : Int} (h : x ∈ dY L at_) : x ∈ L := by
 unfold dY at h
 split at h
 .exact h
 .unfold pE at h
  obtain ⟨i, hi, rfl⟩ := List.mem_map.1 h
  have := List.mem_range.1 (List.mem_filter.1 hi).1
  rw [List.getD_eq_getElem?_getD, List.getElem?_eq_getElem this]
  exact List.getElem_mem this
theorem aLd {L : List Int} (at_ : List Int) (h : SI L) : SI (dY L at_) := by
 unfold dY
 split
 .exact h
 .exact aC3 h
theorem aM2 {q : Rul} (hf : 2 <= q.aP2) (k : Int) : fH q k = if q.aP2 = 2 then 7 else 1 := by
 unfold fH
 rw [if_neg oM, if_neg oM]
theorem atOk {q : Rul} (hs : 0 <= q.start) (hi : 1 <= q.aPp) {k : Int} (hk : 0 <= k) (hf : 4 <= q.aP2) : cH q k = pAt q k / 86400 /\ 0 <= pAt q k /\ pAt q k % UN q.aP2 = 0 := by
 have h0 : 0 <= k * q.aPp := Int.mul_nonneg hk oM
 refine ⟨?_, ?_⟩
 .unfold cH
  rw [if_neg oM, if_neg oM, if_neg oM, if_neg oM]
 .unfold pAt
  rcases aFy q.aP2 with h | h | h <;> rw [h] <;> omega
theorem yA {q : Rul} (hf : 2 <= q.aP2) (k : Int) : cH q k = if q.aP2 = 2 then q.start / 86400 - (q.start / 86400 % 7 - q.aPq + 7) % 7 + 7 * (k * q.aPp) else if q.aP2 = 3 then q.start / 86400 + k * q.aPp else pAt q k / 86400 := by
 unfold cH
 rw [if_neg oM, if_neg oM, Int.mul_assoc]
theorem aJt {q : Rul} (hf : 2 <= q.aP2) (hi : 1 <= q.aPp) {j k : Int} (h : j < k) : pHi q j <= pLo q k := by
 have h0 : 0 <= (k - j - 1) * q.aPp := Int.mul_nonneg oM oM
 have h1 : (k - j - 1) * q.aPp = k * q.aPp - j * q.aPp - q.aPp := by rw [Int.sub_mul, Int.sub_mul, Int.one_mul]
 unfold pHi pLo
 by_cases h4 : 4 <= q.aP2
 .rw [if_pos h4, if_pos h4]
  unfold pAt
  rcases aFy q.aP2 with h | h | h <;> rw [h] <;> omega
 .rw [if_neg h4, if_neg h4, aM2 hf, yA hf, yA hf]
  by_cases h2 : q.aP2 = 2
  .rw [if_pos h2, if_pos h2, if_pos h2]
   omega
  .rw [if_neg h2, if_neg h2, if_neg h2, if_pos oM, if_pos oM]
   omega
theorem aGj {q : Rul} (hs : 0 <= q.start) (hi : 1 <= q.aPp) {k : Int} (hk : 0 <= k) : cH q k * 86400 <= pLo q k := by
 unfold pLo
 by_cases h4 : 4 <= q.aP2
 .rw [if_pos h4, (atOk hs hi hk h4).1]; omega
 .rw [if_neg h4]; exact Int.le_refl _
open Go.Md Go.Tab Go.Fr
theorem aLm {r : Rul} (rp : RightP r) : fJ r < 3652059 * 86400 := by
 have hN1 : Cal.daysTo 9000 = 3286817 := by decide
 have hN2 : Cal.daysTo 10000 = 3652059 := by decide
 have h1 := rp.t1.start
 have h2 := rp.t2.2
 rw [hN1] at h1
 rw [hN2] at h2
 unfold fJ
 split
 .rename_i h; exact (h2 h).2.2
 .omega
theorem SI.filter {l : List Int} (h : SI l) (p : Int -> Bool) : SI (l.filter p) := List.Pairwise.filter p h
open Go.Md Go.Tab Go.Fr
theorem Pre.congr {H H' : Int -> Prop} {c most : Int} {l : List Int} (h : Pre H c most l) (e : ∀ x, H x ↔ H' x) : Pre H' c most l where
 si := h.si
 hit := fun x hx => (e x).1 (h.hit x hx)
 all := fun x hx => h.all x ((e x).2 hx)
 le := h.le
theorem SI.get_lt {l : List Int} (h : SI l) {i j : Nat} {a b : Int} (hi : l[i]? = some a) (hj : l[j]? = some b) (hij : i < j) : a < b := by
 obtain ⟨h1, rfl⟩ := List.getElem?_eq_some_iff.1 hi
 obtain ⟨h2, rfl⟩ := List.getElem?_eq_some_iff.1 hj
 exact List.pairwise_iff_getElem.1 h i j h1 h2 hij
open Go.Md Go.Tab Go.Fr
def GetC (k : Nat) (H : LV) (cs : List Value) : Prop := ∀ i u, cs[i]? = some u -> lkp (ky k (0 + i)) H = some u
theorem GetC.put {k : Nat} {H : LV} (cs : List Value) (h : 0 + cs.length <= 4096) : GetC k (aL k 0 cs ++ H) cs := eD cs 0 h
theorem GetC.seq {k : Nat} {H : LV} (cs : List Value) (h : 0 + cs.length <= 4096) : GetC k (dL k 0 cs H) cs := aP cs 0 h
theorem GetC.cons {k m j : Nat} {H : LV} {cs : List Value} {v : Value} (h : GetC k H cs) (hl : cs.length <= 4096) (hj : j < 4096) (hk : k ≠ m) : GetC k ((ky m j, v) :: H) cs := fun i u hi => by
 have := (List.getElem?_eq_some_iff.1 hi).1
 rw [bV hk oM hj]
 exact h i u hi
theorem GetC.of {k : Nat} {H : LV} {cs ds : List Value} (h : GetC k H cs) (e : ds = cs) : GetC k H ds := e ▸ h
theorem wX {k : Nat} {H : LV} : ∀ (n o : Nat), (∀ i, o <= i -> i < o + n -> (lkp (ky k i) H).isSome = true) -> knwn k H o n = true
 | 0, _, _ => rfl
 | n + 1, o, h => by
  unfold knwn
  rw [h o oM oM, wX n (o + 1) (fun i h1 h2 => h i oM oM)]
  rfl
theorem GetC.knwn {k : Nat} {H : LV} {cs : List Value} (h : GetC k H cs) {n : Nat} (e : cs.length = n) : Go.Fr.knwn k H 0 n = true := wX n 0 fun i _ h2 => by
 have := h i _ (List.getElem?_eq_getElem (show i < cs.length by omega))
 rw [Nat.zero_add] at this
 rw [this]; rfl
theorem aLc {r : Rul} (hf : 2 <= r.aP2) : RightP r -> nB r (eA (aV r)) := fun rp => by
 have := rp.t1.aP2
 rcases (show (r.aP2 = 2 \/ r.aP2 = 3) \/ (4 <= r.aP2 /\ r.aP2 <= 6) by omega) with h | h
 .exact aCu rp h
 .exact aCw rp h
open Go.Md Go.Tab Go.Fr
def vM (y n : Int) : Int := Cal.daysTo (y + n / 12) + Cal.cum (y + n / 12) (n % 12).toNat
theorem x9 (y n : Int) : vM y (n + 1) = vM y n + Cal.mdays (n % 12 + 1) (y + n / 12) := by
 unfold vM
 by_cases h : n % 12 = 11
 .have e1 : (n + 1) / 12 = n / 12 + 1 := by omega
  have e2 : (n + 1) % 12 = 0 := by omega
  have h1 := Cal.cum_12 (y + n / 12)
  have h2 : Cal.cum (y + n / 12) 12 = Cal.cum (y + n / 12) 11 + Cal.mdays 12 (y + n / 12) := rfl
  have h3 := Cal.daysTo_succ (y + n / 12)
  have h4 : Cal.cum (y + n / 12 + 1) 0 = 0 := rfl
  rw [e1, e2, h, show y + (n / 12 + 1) = y + n / 12 + 1 by omega, show (0 : Int).toNat = 0 from rfl, show (11 : Int).toNat = 11 from rfl, show (11 : Int) + 1 = 12 from rfl]
  omega
 .have e1 : (n + 1) / 12 = n / 12 := by omega
  have e2 : ((n + 1) % 12).toNat = (n % 12).toNat + 1 := by omega
  have h1 : Cal.cum (y + n / 12) ((n % 12).toNat + 1) = Cal.cum (y + n / 12) (n % 12).toNat + Cal.mdays (((n % 12).toNat : Int) + 1) (y + n / 12) := rfl
  rw [e1, e2, h1, show (((n % 12).toNat : Nat) : Int) = n % 12 by omega]
  omega
theorem yK (y a : Int) : ∀ n : Nat, vM y a <= vM y (a + n)
 | 0 => by simp
 | n + 1 => by
  have h1 := yK y a n
  have h2 := x9 y (a + n)
  have h3 := Cal.mdays_bd ((a + n) % 12 + 1) (y + (a + n) / 12)
  rw [show a + ((n + 1 : Nat) : Int) = a + n + 1 by omega]
  omega
theorem wY {q : Rul} (hf : q.aP2 = 1) (k : Int) : cH q k = vM (Cal.yearOf (q.start / 86400)) (pN q k) /\ fH q k = Cal.mdays (pN q k % 12 + 1) (Cal.yearOf (q.start / 86400) + pN q k / 12) := by
 unfold cH fH pM vM
 rw [if_neg oM, if_pos hf, if_neg oM, if_pos hf, show pN q k % 12 + 1 - 1 = pN q k % 12 by omega]
 exact ⟨by omega, rfl⟩
theorem wM {q : Rul} (hf : q.aP2 = 0) (k : Int) : cH q k = Cal.daysTo (pY q k) /\ fH q k = 365 + Cal.lp (pY q k) := by
 unfold cH fH
 rw [if_pos hf, if_pos hf]
 exact ⟨rfl, rfl⟩
theorem aCp (q : Rul) (k : Int) : 1 <= fH q k := by
 unfold fH
 have h1 := Cal.lp_01 (pY q k)
 have h2 := Cal.mdays_bd (pN q k % 12 + 1) (pM q k)
 split
 .omega
 .split
  .omega
  .split <;> omega
theorem aF4 {q : Rul} (hf : 0 <= q.aP2) (hi : 1 <= q.aPp) {j k : Int} (h : j < k) : pHi q j <= pLo q k := by
 by_cases h2 : 2 <= q.aP2
 .exact aJt h2 hi h
 .have h0 : 0 <= (k - j - 1) * q.aPp := Int.mul_nonneg oM oM
  have h1 : (k - j - 1) * q.aPp = k * q.aPp - j * q.aPp - q.aPp := by rw [Int.sub_mul, Int.sub_mul, Int.one_mul]
  unfold pHi pLo
  rw [if_neg oM, if_neg oM]
  rcases (show q.aP2 = 0 \/ q.aP2 = 1 by omega) with hq | hq
  .rw [(wM hq j).1, (wM hq j).2, (wM hq k).1]
   have := Cal.daysTo_succ (pY q j)
   have := Cal.daysTo_mono (a := pY q j + 1) (b := pY q k) (by unfold pY; omega)
   omega
  .rw [(wY hq j).1, (wY hq j).2, (wY hq k).1]
   have h3 := x9 (Cal.yearOf (q.start / 86400)) (pN q j)
   have h4 := yK (Cal.yearOf (q.start / 86400)) (pN q j + 1) (pN q k - (pN q j + 1)).toNat
   have h5 : pN q j + 1 <= pN q k := by unfold pN; omega
   rw [show pN q j + 1 + (((pN q k - (pN q j + 1)).toNat : Nat) : Int) = pN q k by omega] at h4
   omega
theorem aO0 (q : Rul) (k : Int) : pLo q k <= pHi q k := by
 have := aCp q k
 unfold pLo pHi
 split
 .rcases aFy q.aP2 with h | h | h <;> rw [h] <;> omega
 .omega
theorem aNs {q : Rul} (hf : 0 <= q.aP2) (hi : 1 <= q.aPp) {j k : Int} (h : j <= k) : pLo q j <= pLo q k := by
 by_cases e : j = k
 .rw [e]; exact Int.le_refl _
 .have h1 := aF4 hf hi (show j < k by omega)
  have h2 := aO0 q j
  omega
theorem uQ {q : Rul} {dayF : Int -> Bool} (hs : 0 <= q.start) (hi : 1 <= q.aPp) {k x : Int} (hk : 0 <= k) (h : x ∈ jU q dayF k) : pLo q k <= x /\ x < pHi q k /\ 0 <= x /\ dayF (x / 86400) = true /\ aBr q x :=
 (aHs (by have := aCp q k; omega) fun h4 => atOk hs hi hk h4).1 (aKh h)
theorem aD3 {q : Rul} {k : Int} (h : eE q k) : 3652059 <= cH q k := by
 have hN : Cal.daysTo 10000 = 3652059 := by decide
 rcases h with ⟨h1, h2⟩ | ⟨h1, h2⟩ | h
 .rw [(wM h1 k).1]
  have := Cal.daysTo_mono (a := 10000) (b := pY q k) oM
  omega
 .rw [(wY h1 k).1]
  unfold vM
  have := Cal.daysTo_mono (a := 10000) (b := pM q k) oM
  have := Cal.cum_bd (pM q k) (pN q k % 12).toNat
  unfold pM at *
  omega
 .exact h
theorem aNw {q : Rul} {dayF : Int -> Bool} {en : Int} (hs : 0 <= q.start) (hf : 0 <= q.aP2) (hi : 1 <= q.aPp) (he : en < 3652059 * 86400) : Rises q dayF en where
 si := fun k _ => aLd _ (aJw _ _ _)
 lt := fun j k j0 jk x hx y hy => by
  have h1 := uQ hs hi j0 hx
  have h2 := uQ hs hi (show 0 <= k by omega) hy
  have h3 := aF4 hf hi jk
  omega
 over := fun j k j0 jk ho x hx => by
  have h2 := uQ hs hi (show 0 <= k by omega) hx
  have h3 := aNs hf hi jk
  have h4 := aGj hs hi j0
  have h5 := aD3 ho
  omega
theorem aH2 {r : Rul} (rp : RightP r) {dayF : Int -> Bool} {m : Nat} {l : List Int} (h : mP r dayF (m : Int) l) : Pre (aMh (aV r) dayF (fJ r)) r.count (m : Int) l := by
 obtain ⟨e1, e2, e3, e4, e5, e6, _⟩ := cU r
 have h1 := aLt (aNw (q := aV r) (by rw [e1]; have := rp.t1.start; omega) (by rw [e2]; exact rp.t1.aP2.1) (by rw [e3]; exact rp.t1.aPp.1) (aLm rp)) oM (by rw [e5]; exact rp.t1.count.1) h
 rw [e5] at h1
 exact h1
abbrev vZ (r : Rul) : Int -> Bool := eC (aV r)
theorem aJi {r : Rul} (rp : RightP r) (hf : 2 <= r.aP2) : vZ r = eA (aV r) := by
 obtain ⟨e1, e2, e3, e4, e5, e6, e7, e8, e9⟩ := cU r
 obtain ⟨h1, h2, h3⟩ := jM rp hf
 exact aKi (by rw [e2]; omega) (by rw [e7]; exact h1) (by rw [e8]; exact h2) (by rw [e9]; exact h3)
theorem aK1 {r : Rul} (rp : RightP r) (hl : LenL r) : xX (aV r) (vZ r) := by
 rcases (show (r.aP2 = 0 \/ r.aP2 = 1) \/ 2 <= r.aP2 by have := rp.t1.aP2; omega) with h | h
 .exact aA0 rp h hl
 .rw [aJi rp h]
  exact aNe ⟨h, rp.t1.aP2.2⟩ (jM rp h) hl
theorem zF {r : Rul} (rp : RightP r) : RightP (cK r) where
 t1 := ⟨rp.t1.aP2, rp.t1.hs, rp.t1.start, rp.t1.aPp, rp.t1.aPq, rp.t1.count⟩
 t2 := ⟨fun _ => rfl, fun h => by cases h⟩
 t3 := ⟨rp.t3.h9, rp.t3.h10, rp.t3.h11, rp.t3.h12, rp.t3.h13, rp.t3.h15, rp.t3.h16, rp.t3.h17⟩
 t4 := rp.t4
 t5 := rp.t5
 t6 := rp.t6
 t7 := rp.t7
 t8 := rp.t8
 t9 := rp.t9
theorem aNi {r : Rul} (hl : LenL r) : RightP r -> xX (aV (cK r)) (vZ (cK r)) := fun rp => aK1 (zF rp) (vL hl)
theorem aGm {r : Rul} : RightP r -> nB r (vZ r) := fun rp => by
 rcases (show (r.aP2 = 0 \/ r.aP2 = 1) \/ 2 <= r.aP2 by have := rp.t1.aP2; omega) with h | h
 .exact qM rp h
 .rw [aJi rp h]
  exact aLc h rp
theorem aEe {r : Rul} {m : Nat} (h : ∃ l, mP (cK r) (vZ (cK r)) ((m : Int) + 1) l /\ ((l.length : Int) = (m : Int) + 1 \/ (0 < r.count /\ (l.length : Int) = r.count))) : ∃ l, mP r (vZ r) (m : Int) l := by
 obtain ⟨l, h1, h2⟩ := h
 unfold mP vZ at h1
 rw [aBa] at h1
 have h3 := zQ h1
 have e5 := (cU r).2.2.2.2.1
 exact aG2 (q := aV r) (dayF := eC (aV r)) (en' := fJ r) (m := (m : Int)) oM h3 (by simp) (by rw [e5]; exact h2)
theorem aIj {r : Rul} {m : Nat} (h : ∃ l, mP (cK r) (vZ (cK r)) ((m : Int) + 1) l /\ ((l.length : Int) = (m : Int) + 1 \/ (0 < r.count /\ (l.length : Int) = r.count))) : ∃ l, mP r (vZ r) (m : Int) l /\ True := by
 obtain ⟨l, h⟩ := aEe h
 exact ⟨l, h, trivial⟩
theorem aE1 {r : Rul} (rp : RightP r) {m : Nat} {l : List Int} (h : mP r (vZ r) (m : Int) l) : SI l /\ (∀ x ∈ l, r.start <= x /\ (r.aP0 = true -> x <= r.untl)) /\ (r.count = 0 \/ (l.length : Int) <= r.count) := by
 have hp := aH2 rp h
 have e1 := (cU r).1
 refine ⟨hp.si, fun x hx => ?_, ?_⟩
 .obtain ⟨k, _, _, h1, h2⟩ := hp.hit x hx
  rw [e1] at h1
  refine ⟨h1, fun hu => ?_⟩
  unfold fJ at h2
  rw [if_pos hu] at h2
  exact h2
 .have := rp.t1.count
  rcases (show r.count = 0 \/ 0 < r.count by omega) with h0 | h0
  .exact .inl h0
  .exact .inr (hp.le.2 h0)
open Go.RowKit Go.Fr Go.Tab
section
variable {F : Nat -> Prop} {w0 : World} {B : LN} {H : LV} {S : LS}
open Go.Md
theorem jI (w : World) : CB 19 #[] w (.bool true) := by
 have href : mP (gE 86400 0) (eA (aV (gE 86400 0))) 3 ([86400, 172800, 259200] : List Int) := ref3 dE (.inl dE)
 refine aF (args := []) (L := []) (N := 14) Tryz.func19 rfl rfl ble rfl (sS w) (g7 ?_)
 refine rl (iI (vs := [(0, .int .u8 3), (1, .bool true), (2, iV 86400), (3, iV 1)]) (v := .agg (bG (gE 86400 0) xO).toArray) rfl kW) (gL (crx (ι := Option Addr × Nat) 10 (fun y => .tuple #[.slice y.1 3 y.2, .bool true]) (fun _ => True) (fun y => ⟨.slice y.1 3 y.2, 2, 1, 3, (([86400, 172800, 259200] : List Int).map iV)⟩) rfl (fun w_ s_ => (yR (vU dE dE) rfl 3 dE ([86400, 172800, 259200] : List Int) href xO w_ (aDw _ _ w_)).mono fun e w' ⟨p, c, h1, h2⟩ => ⟨(p, c), trivial, h1, h2⟩) (fun | (pr, cr), _ => g14 ?_)))
 refine gL (fY 11 (e := 2) (sz := 1) (n := 3) (vs := [(0, iV 86400), (1, iV 172800), (2, iV 259200)]) (cs := [iV 86400, iV 172800, iV 259200]) dE rfl kW rfl dE dE rfl (fun b1_ hbb1_ => g1 ?_))
 refine gL (cvo (v := .bool true) rfl (fun w_ s_ => qK _ _ _ _ ([86400, 172800, 259200] : List Int) dE w_ (s_.ints 10 (xs := ([86400, 172800, 259200] : List Int)) rfl) (s_.ints 11 (xs := ([86400, 172800, 259200] : List Int)) rfl)) (g5 ?_))
 exact gR rfl fun w_ s_ => ⟨rfl, s_.aPg⟩
theorem s5 (r : Rul) (x : Av) (hfb : 0 <= r.aP2) (hl : LenL r) (hcap : CapL r x) (hR : RightP r) (a : Int) (ha : 0 <= a /\ a < 256) {dayF : Int -> Bool} (hd : xX (aV r) dayF) (hfirst : RightP r -> nB r dayF) (w : World) (hin : InL w r x) : CB 20 #[.agg (bG r x).toArray, .int .u8 a] w (.bool true) := by
 obtain ⟨m, hm⟩ : ∃ m : Nat, 1 + a % 20 = (m : Int) := ⟨(1 + a % 20).toNat, by omega⟩
 refine aF (args := [.agg (bG r x).toArray, .int .u8 a]) (L := [(0, .agg (bG r x).toArray), (1, .int .u8 a)]) (N := 39) Tryz.func20 rfl rfl ble rfl (sS w) (g2 ?_)
 refine gL (fU 50 (cs := bG r x) dE rfl rfl rfl (fun o ho => rfl) ble (fun b1 hb1 => g8 ?_))
 refine rZ5 ((gQ rfl rfl oM).to (v' := iV (m : Int)) (congrArg (Value.int .i64) hm)) ?_
 refine rZ1 ((dC 50 (cs := bG r x) rfl rfl (eD (bG r x) 0 ble) ble kR)) ?_
 refine gL (crx (ι := Bool × List Int × Option Addr × Nat) 10 (fun y => .tuple #[.slice y.2.2.1 y.2.1.length y.2.2.2, .bool y.1]) (fun y => y.1 = true -> mP r dayF (m : Int) y.2.1) (fun y => ⟨.slice y.2.2.1 y.2.1.length y.2.2.2, 2, 1, y.2.1.length, (y.2.1.map iV)⟩) rfl (fun w_ s_ => (vJ r (aV r) x dayF (m : Int) 8000 rfl hR.t1.start hR.t1.aP2 hR.t1.aPp hR.t1.aPq hl (qZ hl) oM dE hd w_ (InL.see s_ hin) (InL.bk (InL.see s_ hin))).mono fun e w' ⟨b, l, p, c, h1, h2, h3⟩ => ⟨(b, l, p, c), h1, h2, h3⟩) (fun | (b_, l, pw, cw), hy => g14 ?_))
 refine aB rfl (fun hc1 => ?_) (fun hc2 => ?_)
 .refine g2 ?_
  refine gL (cvo rfl (fun w_ s_ => jI w_) (g5 ?_))
  exact gR rfl fun w_ s_ => ⟨rfl, s_.aPg⟩
 .have hb_ : b_ = true := by simpa using hc2
  subst hb_
  have href := hy rfl
  refine g4 ?_
  refine rl ((dC 50 (cs := bG r x) rfl rfl (eD (bG r x) 0 ble) ble kR)) (gL (crx (ι := Option Addr × Nat) 12 (fun y => .agg (bG r { x with p14 := y.1, c14 := y.2 }).toArray) (fun _ => True) (fun y => ⟨.slice y.1 r.wday.length y.2, 92, 2, r.wday.length, eB r.wday⟩) rfl (fun w_ s_ => (tR r x (by have := oC hR; omega) w_ (InL.see s_ hin)).mono fun e w' ⟨p, c, h1, h2⟩ => ⟨(p, c), trivial, h1, h2⟩) (fun | (pd, cd), _ => g1 ?_)))
  refine gL (crx (ι := Option Addr × Nat) 11 (fun y => .tuple #[.slice y.1 (l).length y.2, .bool true]) (fun _ => True) (fun y => ⟨.slice y.1 (l).length y.2, 2, 1, (l).length, ((l).map iV)⟩) rfl (fun w_ s_ => (hfirst hR m oM l href { x with p14 := pd, c14 := cd } w_ (InL.day (InL.see s_ hin) (aBc (ps := r.wday) s_ 12 rfl))).mono fun e w' ⟨p, c, h1, h2⟩ => ⟨(p, c), trivial, h1, h2⟩) (fun | (pf, cf), _ => g9 ?_))
  refine gL (cvo rfl (fun w_ s_ => jI w_) (g10 ?_))
  refine gL (cvo (v := .bool true) rfl (fun w_ s_ => qK _ _ _ _ l (by have h_ : (l.length : Int) <= m := u6 href (by simp); omega) w_ (s_.ints 11 (xs := l) rfl) (s_.ints 10 (xs := l) rfl)) (g5 ?_))
  exact gR rfl fun w_ s_ => ⟨rfl, s_.aPg⟩
end
end Go.Proofs.YthomapgobmdicaaGreat
