import Derived.Test.YthomapgobmdicaaGreatZrh
set_option linter.unusedVariables false
set_option linter.unusedSimpArgs false
set_option maxRecDepth 100000
set_option maxHeartbeats 8000000
namespace Go.Proofs.YthomapgobmdicaaGreat
open Go.RowKit Go.Fr Go.Tab
section
variable {F : Nat -> Prop} {w0 : World} {B : LN} {H : LV} {S : LS}
open Go.Md
def wo (fr lg at_ many : Int) : Bool := decide (at_ + many <= fr) || decide (fr + lg <= at_)
theorem i4 {fb lb : Nat} {fr lg : Int} (hB1 : lkp 51 B = some fb) (hB2 : lkp 52 B = some lb) (h1 : lkp (ky 51 0) H = some (iV fr)) (h2 : lkp (ky 52 0) H = some (iV lg)) (hf : 0 <= fr /\ fr <= 1000000000000) (hg : 0 <= lg /\ lg <= 100000) (a m : Int) (ha : 0 <= a /\ a <= 1000000000000) (hm : 0 <= m /\ m <= 100000) :
  ∀ w, Sees F w0 B H S w -> Calls Tryz.prog 64 #[iV a, iV m, pT fb, pT lb] w fun e w' => ∃ _u : Unit, True /\ e = .returned (.bool (wo fr lg a m)) /\ Sees F w0 B H S w' := by
 intro w s
 refine aF (args := [iV a, iV m, pT fb, pT lb]) (L := [(0, iV a), (1, iV m), (2, pT fb), (3, pT lb)]) (N := 19) Tryz.func64 rfl rfl ble rfl s (g11 ?_)
 by_cases hq : a + m <= fr
 .have hF : wo fr lg a m = true := by unfold wo; rw [decide_eq_true hq]; rfl
  refine rl ((d7 rfl rfl).to bT) (g11 ?_)
  refine gR rfl fun w_ s_ => ⟨(), trivial, ?_, s_⟩
  rw [hF]
  rfl
 .have hF : wo fr lg a m = decide (fr + lg <= a) := by unfold wo; rw [decide_eq_false hq]; rfl
  refine rl ((d7 rfl rfl).to bF) (g16 ?_)
  refine gR rfl fun w_ s_ => ⟨(), trivial, ?_, s_⟩
  rw [hF]
  rfl
def vY (ss : List Int) (fr lg b : Int) (k : Nat) : List Int := ((List.range k).filter fun (s : Nat) => aI ss s && !wo fr lg (b + s) 1).map fun (s : Nat) => b + (s : Int)
def wC (ms ss : List Int) (fr lg b : Int) (k : Nat) : List Int := (List.range k).flatMap fun (m : Nat) => if aI ms m && !wo fr lg (b + m * 60) 60 then vY ss fr lg (b + m * 60) 60 else []
def aCn (hs ms ss : List Int) (fr lg b : Int) (k : Nat) : List Int := (List.range k).flatMap fun (h : Nat) => if aI hs h && !wo fr lg (b + h * 3600) 3600 then wC ms ss fr lg (b + h * 3600) 60 else []
def fP (hs ms ss : List Int) (day fr lg : Int) : List Int := aCn hs ms ss fr lg (day * 86400) 24
theorem uO (ss : List Int) (fr lg b : Int) (k : Nat) : vY ss fr lg b (k + 1) = vY ss fr lg b k ++ if aI ss k && !wo fr lg (b + k) 1 then [b + (k : Int)] else [] := by
 unfold vY
 rw [List.range_succ, List.filter_append, List.map_append]
 cases h : (aI ss k && !wo fr lg (b + k) 1) <;> simp [h]
theorem i5 {α : Type} (f : Nat -> List α) (k : Nat) : (List.range (k + 1)).flatMap f = (List.range k).flatMap f ++ f k := by rw [List.range_succ, List.flatMap_append]; simp
theorem rW (r : Rul) (x : Av) (day fr lg : Int) (hd : 0 <= day /\ day <= 5000000) (hf : 0 <= fr /\ fr <= 1000000000000) (hg : 0 <= lg /\ lg <= 100000) (l15 : r.hour.length <= 2147483647) (l16 : r.aPr.length <= 2147483647) (l17 : r.aPs.length <= 2147483647) (w : World) (hin : InL w r x) : Calls Tryz.prog 48 #[.agg (bG r x).toArray, iV day, iV fr, iV lg] w fun e w' => ∃ p c, e = .returned (.slice p (fP r.hour r.aPr r.aPs day fr lg).length c) /\ gC w w' (.slice p (fP r.hour r.aPr r.aPs day fr lg).length c) 2 1 (fP r.hour r.aPr r.aPs day fr lg).length ((fP r.hour r.aPr r.aPs day fr lg).map iV) := by
 refine aF (args := [.agg (bG r x).toArray, iV day, iV fr, iV lg]) (L := [(0, .agg (bG r x).toArray), (1, iV day), (2, iV fr), (3, iV lg)]) (N := 77) Tryz.func48 rfl rfl ble rfl (sS w) (g2 ?_)
 refine gL (fU 50 (cs := bG r x) dE rfl rfl rfl (fun o ho => by repeat (first | rfl | rw [aJ dE ho _ _ ble])) ble (fun b1 hbb1 => gL (fU 51 (cs := [iV fr]) dE rfl rfl rfl (fun o ho => by repeat (first | rfl | rw [aJ dE ho _ _ ble])) ble (fun b2_ hbb2_ => gL (fU 52 (cs := [iV lg]) dE rfl rfl rfl (fun o ho => by repeat (first | rfl | rw [aJ dE ho _ _ ble])) ble (fun b3_ hbb3_ => g10 ?_))))))
 refine rl ((iJ (first := []) (capt := [pT b2_, pT b3_]) rfl rfl)) (g10 ?_)
 refine aY (ι := (Nat) × (List Int) × (Option Addr) × (Nat) × (Nat) × (List Value)) (fun | ⟨h, acc, p, c, n, xs⟩ => 24 - h) (fun | ⟨h, acc, p, c, n, xs⟩ => (h <= 24) /\ (acc = aCn r.hour r.aPr r.aPs fr lg (day * 86400) h) /\ (n = acc.length) /\ (xs = acc.map iV) /\ (n <= h * 3600)) (fun | ⟨h, acc, p, c, n, xs⟩ => [(1, iV day), (4, pT b1), (10, .func (.func 64) #[] #[pT b2_, pT b3_]), (9, .slice p n c), (18, iV h)]) (fun _ => [(52, b3_), (51, b2_), (50, b1)]) (fun _ => (aL 52 0 [iV lg] ++ (aL 51 0 [iV fr] ++ (aL 50 0 (bG r x) ++ [])))) (fun | ⟨h, acc, p, c, n, xs⟩ => [(11, ⟨.slice p n c, 2, 1, n, xs⟩)]) ⟨0, [], none, 0, 0, []⟩ ⟨Nat.zero_le _, rfl, rfl, rfl, Nat.zero_le _⟩ kno (fun w s => by exact s.aPm 11 2 1) ?_
 rintro ⟨h, acc, p, c, n, xs⟩ ⟨hkh, hah, hnh, hxh, hbh⟩
 refine dS ?_
 refine g6 ?_
 refine aB rfl (fun hc1 => ?_) (fun hc2 => ?_)
 .have hlt : h < 24 := by have := oT hc1; omega
  refine g25 ?_
  refine g1 ?_
  rcases bO (aI r.hour h) with hq1 | hq1
  .refine gL (cvo (v := .bool true) rfl (fun w_ s_ => (eI r.hour h _ l15 w_ (aZ s_ hin.i15)).mT (cE hq1)) (g7 ?_))
   rcases bO (wo fr lg (day * 86400 + h * 3600) 3600) with hq2 | hq2
   .refine gL (jE (ι := Unit) (first := []) (capt := [pT b2_, pT b3_]) (fun _ => .bool true) (fun _ => True) (fun _ => [(52, b3_), (51, b2_), (50, b1)]) (fun _ => (aL 52 0 [iV lg] ++ (aL 51 0 [iV fr] ++ (aL 50 0 (bG r x) ++ [])))) (fun _ => [(11, ⟨.slice p n c, 2, 1, n, xs⟩)]) dE rfl kR rfl (fun w_ s_ => (i4 rfl rfl rfl rfl hf hg (day * 86400 + h * 3600) 3600 oM oM w_ s_).mono fun e w' ⟨_, _, he, hs⟩ => ⟨(), trivial, he.trans (cE hq2), hs⟩) (fun _ _ => l5 ?_))
    refine aN ⟨h + 1, acc, p, c, n, xs⟩ sO ⟨by omega, by unfold aCn; rw [i5, if_neg (by rw [hq2, Bool.not_true, Bool.and_false]; decide), List.append_nil]; exact hah, hnh, hxh, by omega⟩ kno (fun w s => by exact s)
   .refine gL (jE (ι := Unit) (first := []) (capt := [pT b2_, pT b3_]) (fun _ => .bool false) (fun _ => True) (fun _ => [(52, b3_), (51, b2_), (50, b1)]) (fun _ => (aL 52 0 [iV lg] ++ (aL 51 0 [iV fr] ++ (aL 50 0 (bG r x) ++ [])))) (fun _ => [(11, ⟨.slice p n c, 2, 1, n, xs⟩)]) dE rfl kR rfl (fun w_ s_ => (i4 rfl rfl rfl rfl hf hg (day * 86400 + h * 3600) 3600 oM oM w_ s_).mono fun e w' ⟨_, _, he, hs⟩ => ⟨(), trivial, he.trans (cE hq2), hs⟩) (fun _ _ => l5 ?_))
    refine aY (ι := (Nat) × (List Int) × (Option Addr) × (Nat) × (Nat) × (List Value)) (fun | ⟨m, acc2, p2, c2, n2, xs2⟩ => 60 - m) (fun | ⟨m, acc2, p2, c2, n2, xs2⟩ => (m <= 60) /\ (acc2 = acc ++ wC r.aPr r.aPs fr lg (day * 86400 + h * 3600) m) /\ (n2 = acc2.length) /\ (xs2 = acc2.map iV) /\ (n2 <= h * 3600 + m * 60)) (fun | ⟨m, acc2, p2, c2, n2, xs2⟩ => [(1, iV day), (4, pT b1), (10, .func (.func 64) #[] #[pT b2_, pT b3_]), (12, iV (day * 86400 + h * 3600)), (18, iV h), (9, .slice p2 n2 c2), (36, iV m)]) (fun _ => [(52, b3_), (51, b2_), (50, b1)]) (fun _ => (aL 52 0 [iV lg] ++ (aL 51 0 [iV fr] ++ (aL 50 0 (bG r x) ++ [])))) (fun | ⟨m, acc2, p2, c2, n2, xs2⟩ => [(11, ⟨.slice p2 n2 c2, 2, 1, n2, xs2⟩)]) ⟨0, acc, p, c, n, xs⟩ ⟨Nat.zero_le _, by simp [wC], hnh, hxh, by omega⟩ kno (fun w s => by exact s) ?_
    rintro ⟨m, acc2, p2, c2, n2, xs2⟩ ⟨hkm, ham, hnm, hxm, hbm⟩
    refine dS ?_
    refine g6 ?_
    refine aB rfl (fun hc1 => ?_) (fun hc2 => ?_)
    .have hlt2 : m < 60 := by have := oT hc1; omega
     refine g25 ?_
     rcases bO (aI r.aPr m) with hq3 | hq3
     .refine gL (cvo (v := .bool true) rfl (fun w_ s_ => (eI r.aPr m _ l16 w_ (aZ s_ hin.i16)).mT (cE hq3)) (g7 ?_))
      rcases bO (wo fr lg (day * 86400 + h * 3600 + m * 60) 60) with hq4 | hq4
      .refine gL (jE (ι := Unit) (first := []) (capt := [pT b2_, pT b3_]) (fun _ => .bool true) (fun _ => True) (fun _ => [(52, b3_), (51, b2_), (50, b1)]) (fun _ => (aL 52 0 [iV lg] ++ (aL 51 0 [iV fr] ++ (aL 50 0 (bG r x) ++ [])))) (fun _ => [(11, ⟨.slice p2 n2 c2, 2, 1, n2, xs2⟩)]) dE rfl kR rfl (fun w_ s_ => (i4 rfl rfl rfl rfl hf hg (day * 86400 + h * 3600 + m * 60) 60 oM oM w_ s_).mono fun e w' ⟨_, _, he, hs⟩ => ⟨(), trivial, he.trans (cE hq4), hs⟩) (fun _ _ => l5 ?_))
       refine aN ⟨m + 1, acc2, p2, c2, n2, xs2⟩ sO ⟨by omega, by unfold wC; rw [i5, if_neg (by rw [hq4, Bool.not_true, Bool.and_false]; decide), List.append_nil]; exact ham, hnm, hxm, by omega⟩ kno (fun w s => by exact s)
      .refine gL (jE (ι := Unit) (first := []) (capt := [pT b2_, pT b3_]) (fun _ => .bool false) (fun _ => True) (fun _ => [(52, b3_), (51, b2_), (50, b1)]) (fun _ => (aL 52 0 [iV lg] ++ (aL 51 0 [iV fr] ++ (aL 50 0 (bG r x) ++ [])))) (fun _ => [(11, ⟨.slice p2 n2 c2, 2, 1, n2, xs2⟩)]) dE rfl kR rfl (fun w_ s_ => (i4 rfl rfl rfl rfl hf hg (day * 86400 + h * 3600 + m * 60) 60 oM oM w_ s_).mono fun e w' ⟨_, _, he, hs⟩ => ⟨(), trivial, he.trans (cE hq4), hs⟩) (fun _ _ => l5 ?_))
       refine aY (ι := (Nat) × (List Int) × (Option Addr) × (Nat) × (Nat) × (List Value)) (fun | ⟨s, acc3, p3, c3, n3, xs3⟩ => 60 - s) (fun | ⟨s, acc3, p3, c3, n3, xs3⟩ => (s <= 60) /\ (acc3 = acc2 ++ vY r.aPs fr lg (day * 86400 + h * 3600 + m * 60) s) /\ (n3 = acc3.length) /\ (xs3 = acc3.map iV) /\ (n3 <= h * 3600 + m * 60 + s)) (fun | ⟨s, acc3, p3, c3, n3, xs3⟩ => [(1, iV day), (4, pT b1), (10, .func (.func 64) #[] #[pT b2_, pT b3_]), (12, iV (day * 86400 + h * 3600)), (18, iV h), (14, iV (day * 86400 + h * 3600 + m * 60)), (36, iV m), (9, .slice p3 n3 c3), (53, iV s)]) (fun _ => [(52, b3_), (51, b2_), (50, b1)]) (fun _ => (aL 52 0 [iV lg] ++ (aL 51 0 [iV fr] ++ (aL 50 0 (bG r x) ++ [])))) (fun | ⟨s, acc3, p3, c3, n3, xs3⟩ => [(11, ⟨.slice p3 n3 c3, 2, 1, n3, xs3⟩)]) ⟨0, acc2, p2, c2, n2, xs2⟩ ⟨Nat.zero_le _, by simp [vY], hnm, hxm, by omega⟩ kno (fun w s => by exact s) ?_
       rintro ⟨s, acc3, p3, c3, n3, xs3⟩ ⟨hks, has, hns, hxs, hbs⟩
       refine dS ?_
       refine g6 ?_
       refine aB rfl (fun hc1 => ?_) (fun hc2 => ?_)
       .have hlt3 : s < 60 := by have := oT hc1; omega
        refine g20 ?_
        refine g3 ?_
        rcases bO (aI r.aPs s) with hq5 | hq5
        .refine gL (cvo (v := .bool true) rfl (fun w_ s_ => (eI r.aPs s _ l17 w_ (aZ s_ hin.i17)).mT (cE hq5)) (g6 ?_))
         rcases bO (wo fr lg (day * 86400 + h * 3600 + m * 60 + s) 1) with hq6 | hq6
         .refine gL (jE (ι := Unit) (first := []) (capt := [pT b2_, pT b3_]) (fun _ => .bool true) (fun _ => True) (fun _ => [(52, b3_), (51, b2_), (50, b1)]) (fun _ => (aL 52 0 [iV lg] ++ (aL 51 0 [iV fr] ++ (aL 50 0 (bG r x) ++ [])))) (fun _ => [(11, ⟨.slice p3 n3 c3, 2, 1, n3, xs3⟩)]) dE rfl kR rfl (fun w_ s_ => (i4 rfl rfl rfl rfl hf hg (day * 86400 + h * 3600 + m * 60 + s) 1 oM oM w_ s_).mono fun e w' ⟨_, _, he, hs⟩ => ⟨(), trivial, he.trans (cE hq6), hs⟩) (fun _ _ => pA ?_))
          refine aN ⟨s + 1, acc3, p3, c3, n3, xs3⟩ sO ⟨by omega, by rw [uO, if_neg (by rw [hq6, Bool.not_true, Bool.and_false]; decide), List.append_nil]; exact has, hns, hxs, by omega⟩ kno (fun w s => by exact s.low 60 (by repeat (first | exact Lim.nil | apply Lim.aPi _ dE | apply Lim.aPj _ dE | apply Lim.aPk dE _ 0 ble)) agx agx agx)
         .refine gL (jE (ι := Unit) (first := []) (capt := [pT b2_, pT b3_]) (fun _ => .bool false) (fun _ => True) (fun _ => [(52, b3_), (51, b2_), (50, b1)]) (fun _ => (aL 52 0 [iV lg] ++ (aL 51 0 [iV fr] ++ (aL 50 0 (bG r x) ++ [])))) (fun _ => [(11, ⟨.slice p3 n3 c3, 2, 1, n3, xs3⟩)]) dE rfl kR rfl (fun w_ s_ => (i4 rfl rfl rfl rfl hf hg (day * 86400 + h * 3600 + m * 60 + s) 1 oM oM w_ s_).mono fun e w' ⟨_, _, he, hs⟩ => ⟨(), trivial, he.trans (cE hq6), hs⟩) (fun _ _ => yZ9 ?_))
          refine gL (dB 60 (e := 2) (sz := 1) (by_ := 8) (zs := [iV 0]) dE kR rfl dE dE rfl rfl rfl (fun bo => gL (cW 11 60 (e := 2) (sz := 1) (by_ := 8) (zs := [iV 0]) dE kR rfl dE rfl rfl rfl rfl ⟨rfl, rfl⟩ ⟨rfl, rfl⟩ (gZ (xs := [day * 86400 + h * 3600 + m * 60 + s])) sO sO (fun p' c' => g8 ?_))))
          refine aN ⟨s + 1, acc3 ++ [day * 86400 + h * 3600 + m * 60 + s], p', c', n3 + 1, xs3 ++ [iV (day * 86400 + h * 3600 + m * 60 + s)]⟩ sO ⟨by omega, by rw [uO, if_pos (by rw [hq5, hq6]; rfl), has, List.append_assoc], by rw [List.length_append, hns]; rfl, by rw [hxs]; simp, by omega⟩ kno (fun w s => by exact s.low 60 (by repeat (first | exact Lim.nil | apply Lim.aPi _ dE | apply Lim.aPj _ dE | apply Lim.aPk dE _ 0 ble)) agx agx agx)
        .refine gL (cvo (v := .bool false) rfl (fun w_ s_ => (eI r.aPs s _ l17 w_ (aZ s_ hin.i17)).mT (cE hq5)) (xH ?_))
         refine aN ⟨s + 1, acc3, p3, c3, n3, xs3⟩ sO ⟨by omega, by rw [uO, if_neg (by rw [hq5, Bool.false_and]; decide), List.append_nil]; exact has, hns, hxs, by omega⟩ kno (fun w s => by exact s.low 60 (by repeat (first | exact Lim.nil | apply Lim.aPi _ dE | apply Lim.aPj _ dE | apply Lim.aPk dE _ 0 ble)) agx agx agx)
       .obtain rfl : s = 60 := by have := oF hc2; omega
        refine g10 ?_
        refine aN ⟨m + 1, acc3, p3, c3, n3, xs3⟩ sO ⟨by omega, by unfold wC; rw [i5, if_pos (by rw [hq3, hq4]; rfl)]; rw [has, ham, List.append_assoc]; rfl, hns, hxs, by omega⟩ kno (fun w s => by exact s)
     .refine gL (cvo (v := .bool false) rfl (fun w_ s_ => (eI r.aPr m _ l16 w_ (aZ s_ hin.i16)).mT (cE hq3)) (uC ?_))
      refine aN ⟨m + 1, acc2, p2, c2, n2, xs2⟩ sO ⟨by omega, by unfold wC; rw [i5, if_neg (by rw [hq3, Bool.false_and]; decide), List.append_nil]; exact ham, hnm, hxm, by omega⟩ kno (fun w s => by exact s)
    .obtain rfl : m = 60 := by have := oF hc2; omega
     refine g10 ?_
     refine aN ⟨h + 1, acc2, p2, c2, n2, xs2⟩ sO ⟨by omega, by unfold aCn; rw [i5, if_pos (by rw [hq1, hq2]; rfl)]; rw [ham, hah]; rfl, hnm, hxm, by omega⟩ kno (fun w s => by exact s)
  .refine gL (cvo (v := .bool false) rfl (fun w_ s_ => (eI r.hour h _ l15 w_ (aZ s_ hin.i15)).mT (cE hq1)) (uC ?_))
   refine aN ⟨h + 1, acc, p, c, n, xs⟩ sO ⟨by omega, by unfold aCn; rw [i5, if_neg (by rw [hq1, Bool.false_and]; decide), List.append_nil]; exact hah, hnh, hxh, by omega⟩ kno (fun w s => by exact s)
 .have hge : ¬ h < 24 := by have := oF hc2; omega
  refine g12 ?_
  have hF : fP r.hour r.aPr r.aPs day fr lg = acc := by unfold fP; rw [hah, show (24 : Nat) = h by omega]
  rw [hF]
  subst hnh hxh
  exact gR rfl fun w_ s_ => ⟨p, c, rfl, s_.toNew (k := 11) rfl⟩
def u7 (r : Rul) : Prop := r.aPx.length = 0 /\ r.aPw.length = 0 /\ r.aPu.length = 0 /\ r.wday.length = 0 /\ r.aPy.length = 0
instance (r : Rul) : Decidable (u7 r) := by unfold u7; infer_instance
def gA (r : Rul) : Rul := if u7 r then
  (if r.aP2 = 0 then { r with aPt := if r.aPt.length = 0 then [Cal.monthOf (r.start / 86400)] else r.aPt, aPu := [Cal.mdayOf (r.start / 86400)] }
  else if r.aP2 = 1 then { r with aPu := [Cal.mdayOf (r.start / 86400)] }
  else if r.aP2 = 2 then { r with wday := [(r.start / 86400 % 7, 0)] } else r)
 else r
def fZ (r : Rul) : Rul := if r.hour.length = 0 /\ r.aP2 < 4 then { r with hour := [r.start % 86400 / 3600] } else r
def gD (r : Rul) : Rul := if r.aPr.length = 0 /\ r.aP2 < 5 then { r with aPr := [r.start % 86400 / 60 % 60] } else r
def iH (r : Rul) : Rul := if r.aPs.length = 0 /\ r.aP2 < 6 then { r with aPs := [r.start % 86400 % 60] } else r
def aV (r : Rul) : Rul := iH (gD (fZ (gA r)))
theorem yD (r : Rul) : (gA r).start = r.start /\ (gA r).aP2 = r.aP2 /\ (gA r).hour = r.hour /\ (gA r).aPr = r.aPr /\ (gA r).aPs = r.aPs := by
 unfold gA
 split
 .split
  .exact ⟨rfl, rfl, rfl, rfl, rfl⟩
  .split
   .exact ⟨rfl, rfl, rfl, rfl, rfl⟩
   .split <;> exact ⟨rfl, rfl, rfl, rfl, rfl⟩
 .exact ⟨rfl, rfl, rfl, rfl, rfl⟩
theorem aEr (r : Rul) : (fZ r).start = r.start /\ (fZ r).aP2 = r.aP2 /\ (fZ r).aPr = r.aPr /\ (fZ r).aPs = r.aPs := by
 unfold fZ; split <;> exact ⟨rfl, rfl, rfl, rfl⟩
theorem aE2 (r : Rul) : (gD r).start = r.start /\ (gD r).aP2 = r.aP2 /\ (gD r).aPs = r.aPs := by
 unfold gD; split <;> exact ⟨rfl, rfl, rfl⟩
structure LenL (r : Rul) : Prop where
 l9 : r.aPz.length <= 2147483647
 l10 : r.aPt.length <= 2147483647
 l11 : r.aPu.length <= 2147483647
 l12 : r.aPw.length <= 2147483647
 l13 : r.aPx.length <= 2147483647
 l14 : r.wday.length <= 2147483647
 l15 : r.hour.length <= 2147483647
 l16 : r.aPr.length <= 2147483647
 l17 : r.aPs.length <= 2147483647
 l18 : r.aPy.length <= 2147483647
theorem aBc {w : World} {p : Option Addr} {n c : Nat} {e : TypeId} {ps : List (Int × Int)} (s : Sees F w0 B H S w) (k : Nat) (h : lkp k S = some ⟨.slice p n c, e, 2, n, eB ps⟩) : Prs w (.slice p n c) ps := by
 have := (SrcU.row (F := F) (w0 := w0) (S := S) (t := k) h)
 exact this B H S w (fun _ _ => rfl) s
theorem Sees.tailS {w : World} {k : Nat} {q : Slc} (s : Sees F w0 B H ((k, q) :: S) w) (h : lkp k S = none) : Sees F w0 B H S w :=
 s.to (fun _ _ h => h) (fun k o v ho h => ⟨h, by obtain ⟨b, e, _⟩ := s.cells k o v ho h; rw [e]; rfl⟩) (fun j u hj => by
  by_cases e : j = k
  .subst e; rw [h] at hj; cases hj
  .rw [aA e]; exact hj)
theorem Sees.fresh {w : World} {k b : Nat} {q : Slc} (s : Sees (fun _ => False) w0 B H S w) (hk : lkp k S = some q) (hb : q.v.ownBlock = some b) : w0.heap.size <= b := by
 rcases Nat.lt_or_ge b w0.heap.size with h | h
 .exact (s.smay k q b hk hb h).elim
 .exact h
structure BkL (G : Nat -> Prop) (r : Rul) (x : Av) : Prop where
 g9 : r.aPz.length ≠ 0 -> ∀ b o, x.p9 = some ⟨b, o, none⟩ -> G b
 g10 : r.aPt.length ≠ 0 -> ∀ b o, x.p10 = some ⟨b, o, none⟩ -> G b
 g11 : r.aPu.length ≠ 0 -> ∀ b o, x.p11 = some ⟨b, o, none⟩ -> G b
 g12 : r.aPw.length ≠ 0 -> ∀ b o, x.p12 = some ⟨b, o, none⟩ -> G b
 g13 : r.aPx.length ≠ 0 -> ∀ b o, x.p13 = some ⟨b, o, none⟩ -> G b
 g14 : r.wday.length ≠ 0 -> ∀ b o, x.p14 = some ⟨b, o, none⟩ -> G b
 g15 : r.hour.length ≠ 0 -> ∀ b o, x.p15 = some ⟨b, o, none⟩ -> G b
 g16 : r.aPr.length ≠ 0 -> ∀ b o, x.p16 = some ⟨b, o, none⟩ -> G b
 g17 : r.aPs.length ≠ 0 -> ∀ b o, x.p17 = some ⟨b, o, none⟩ -> G b
 g18 : r.aPy.length ≠ 0 -> ∀ b o, x.p18 = some ⟨b, o, none⟩ -> G b
def InS (w0 : World) (S : LS) (r : Rul) (x : Av) : Prop := ∀ B H w, Sees (fun _ => False) w0 B H S w -> InL w r x
theorem aEa {G : Nat -> Prop} (r : Rul) (x : Av) (hs : 0 <= r.start /\ r.start <= 1000000000000) (hf : 0 <= r.aP2 /\ r.aP2 <= 255) (hl : LenL r) (w : World) (hin : InL w r x) (hG : BkL G r x) : Calls Tryz.prog 40 #[.agg (bG r x).toArray] w fun e w' => ∃ x', e = .returned (.agg (bG (aV r) x').toArray) /\ Below w.heap.size w w' /\ InL w' (aV r) x' /\ BkL (fun b => G b \/ w.heap.size <= b) (aV r) x' := by
 obtain ⟨l9, l10, l11, l12, l13, l14, l15, l16, l17, l18⟩ := hl
 have hG0 : BkL (fun b => G b \/ w.heap.size <= b) r x := ⟨fun h b o e => .inl (hG.g9 h b o e), fun h b o e => .inl (hG.g10 h b o e), fun h b o e => .inl (hG.g11 h b o e), fun h b o e => .inl (hG.g12 h b o e), fun h b o e => .inl (hG.g13 h b o e), fun h b o e => .inl (hG.g14 h b o e), fun h b o e => .inl (hG.g15 h b o e), fun h b o e => .inl (hG.g16 h b o e), fun h b o e => .inl (hG.g17 h b o e), fun h b o e => .inl (hG.g18 h b o e)⟩
 refine aF (args := [.agg (bG r x).toArray]) (L := [(0, .agg (bG r x).toArray)]) (N := 109) Tryz.func40 rfl rfl ble rfl (sS w) (g2 ?_)
 refine gL (fU 50 (cs := bG r x) dE rfl rfl rfl (fun o ho => rfl) ble (fun b1 hb1 => gL (eJ 51 (cs := zL3) dE kR rfl (fun o ho => by repeat (first | rfl | rw [aJ dE ho _ _ ble])) ble (fun b2_ hb2_ => g7 ?_))))
 refine gL (cvo rfl (fun w_ s_ => lU _ oM w_) (g9 ?_))
 refine cO (ι := (Rul) × (Av) × (LS)) (fun | ⟨r1, x1, S1⟩ => (r1 = gA (r)) /\ (InS w S1 r1 x1) /\ (BkL (fun b => G b \/ w.heap.size <= b) r1 x1) /\ (∀ k, 24 <= k -> lkp k S1 = none)) (fun _ => [(1, pT b1), (2, pT b2_), (4, iV (Cal.monthOf (r.start / 86400))), (5, iV (Cal.mdayOf (r.start / 86400)))]) (fun _ => [(51, b2_), (50, b1)]) (fun | ⟨r1, x1, S1⟩ => (aL 51 0 zL3 ++ (aL 50 0 (bG (r1) (x1)) ++ []))) (fun | ⟨r1, x1, S1⟩ => S1) ?_ ?_
 .refine g20 ?_
  refine g4 ?_
  refine aB rfl (fun hc1 => ?_) (fun hc2 => ?_)
  .have hno : u7 r := by unfold u7; have := beq_iff_eq.1 hc1; omega
   refine g13 ?_
   refine aB rfl (fun hc1 => ?_) (fun hc2 => ?_)
   .have hf0 : r.aP2 = 0 := beq_iff_eq.1 hc1
    refine g9 ?_
    refine aB rfl (fun hc1 => ?_) (fun hc2 => ?_)
    .have hm0 : r.aPt.length = 0 := by have := beq_iff_eq.1 hc1; omega
     refine g2 ?_
     refine gL (dB 21 (e := 3) (sz := 1) (by_ := 8) (zs := [iV 0]) dE kR rfl dE dE rfl rfl rfl (fun o21 => kK (fun w s => Sees.fresh s (k := 21) rfl rfl) (fun ho21 => ?_)))
     refine g1 ?_
     refine gL (sto 50 rfl rfl rfl rfl (g4 ?_))
     refine gL (dB 22 (e := 3) (sz := 1) (by_ := 8) (zs := [iV 0]) dE kR rfl dE dE rfl rfl rfl (fun o22 => kK (fun w s => Sees.fresh s (k := 22) rfl rfl) (fun ho22 => ?_)))
     refine g1 ?_
     refine gL (sto 50 rfl rfl rfl rfl (g2 ?_))
     refine aK (ι := Rul × Av × LS) ⟨{ r with aPt := [Cal.monthOf (r.start / 86400)], aPu := [Cal.mdayOf (r.start / 86400)] }, { x with p10 := some ⟨o21, 0, none⟩, c10 := 1, p11 := some ⟨o22, 0, none⟩, c11 := 1 }, (22, ⟨sL o22 1 1, 3, 1, 1, [iV (Cal.mdayOf (r.start / 86400))]⟩) :: (21, ⟨sL o21 1 1, 3, 1, 1, [iV (Cal.monthOf (r.start / 86400))]⟩) :: []⟩ ⟨by unfold gA; rw [if_pos hno, if_pos hf0, if_pos hm0], fun B' H' w_ s_ => (by have hz_ : InL w_ (r) (x) := InL.see s_ hin; exact ⟨hz_.i9, (s_.ints 21 (xs := [Cal.monthOf (r.start / 86400)]) rfl), (s_.ints 22 (xs := [Cal.mdayOf (r.start / 86400)]) rfl), hz_.i12, hz_.i13, hz_.i14, hz_.i15, hz_.i16, hz_.i17, hz_.i18⟩), (by exact ⟨hG0.g9, fun _ b_ o_ h_ => (by injection h_ with h_; injection h_ with h_; exact .inr (h_ ▸ ho21)), fun _ b_ o_ h_ => (by injection h_ with h_; injection h_ with h_; exact .inr (h_ ▸ ho22)), hG0.g12, hG0.g13, hG0.g14, hG0.g15, hG0.g16, hG0.g17, hG0.g18⟩), fun k hk => by repeat (first | rfl | exact hk k oM | rw [aA oM])⟩ kno (fun w s => (s.low 60 (by exact ⟨fun k hk => by rw [aA oM, aA oM]; rfl, fun k hk o ho => by rw [aJ oM ho _ _ ble, aJ oM ho _ _ ble]; rfl, fun k hk => by repeat (first | rfl | exact hk k oM | rw [aA oM])⟩) agx agx agx))
    .have hm0 : ¬ r.aPt.length = 0 := by have := beq_eq_false_iff_ne.1 hc2; omega
     refine g4 ?_
     refine gL (dB 22 (e := 3) (sz := 1) (by_ := 8) (zs := [iV 0]) dE kR rfl dE dE rfl rfl rfl (fun o22 => kK (fun w s => Sees.fresh s (k := 22) rfl rfl) (fun ho22 => ?_)))
     refine g1 ?_
     refine gL (sto 50 rfl rfl rfl rfl (g2 ?_))
     refine aK (ι := Rul × Av × LS) ⟨{ r with aPu := [Cal.mdayOf (r.start / 86400)] }, { x with p11 := some ⟨o22, 0, none⟩, c11 := 1 }, (22, ⟨sL o22 1 1, 3, 1, 1, [iV (Cal.mdayOf (r.start / 86400))]⟩) :: []⟩ ⟨by unfold gA; rw [if_pos hno, if_pos hf0, if_neg hm0], fun B' H' w_ s_ => (by have hz_ : InL w_ (r) (x) := InL.see s_ hin; exact ⟨hz_.i9, hz_.i10, (s_.ints 22 (xs := [Cal.mdayOf (r.start / 86400)]) rfl), hz_.i12, hz_.i13, hz_.i14, hz_.i15, hz_.i16, hz_.i17, hz_.i18⟩), (by exact ⟨hG0.g9, hG0.g10, fun _ b_ o_ h_ => (by injection h_ with h_; injection h_ with h_; exact .inr (h_ ▸ ho22)), hG0.g12, hG0.g13, hG0.g14, hG0.g15, hG0.g16, hG0.g17, hG0.g18⟩), fun k hk => by repeat (first | rfl | exact hk k oM | rw [aA oM])⟩ kno (fun w s => (s.low 60 (by exact ⟨fun k hk => by rw [aA oM, aA oM]; rfl, fun k hk o ho => by rw [aJ oM ho _ _ ble, aJ oM ho _ _ ble]; rfl, fun k hk => by repeat (first | rfl | exact hk k oM | rw [aA oM])⟩) agx agx agx))
   .have hf0 : ¬ r.aP2 = 0 := beq_eq_false_iff_ne.1 hc2
    refine g6 ?_
    refine aB rfl (fun hc1 => ?_) (fun hc2 => ?_)
    .have hf1 : r.aP2 = 1 := beq_iff_eq.1 hc1
     refine g2 ?_
     refine gL (dB 22 (e := 3) (sz := 1) (by_ := 8) (zs := [iV 0]) dE kR rfl dE dE rfl rfl rfl (fun o22 => kK (fun w s => Sees.fresh s (k := 22) rfl rfl) (fun ho22 => ?_)))
     refine g1 ?_
     refine gL (sto 50 rfl rfl rfl rfl (g2 ?_))
     refine aK (ι := Rul × Av × LS) ⟨{ r with aPu := [Cal.mdayOf (r.start / 86400)] }, { x with p11 := some ⟨o22, 0, none⟩, c11 := 1 }, (22, ⟨sL o22 1 1, 3, 1, 1, [iV (Cal.mdayOf (r.start / 86400))]⟩) :: []⟩ ⟨by unfold gA; rw [if_pos hno, if_neg hf0, if_pos hf1], fun B' H' w_ s_ => (by have hz_ : InL w_ (r) (x) := InL.see s_ hin; exact ⟨hz_.i9, hz_.i10, (s_.ints 22 (xs := [Cal.mdayOf (r.start / 86400)]) rfl), hz_.i12, hz_.i13, hz_.i14, hz_.i15, hz_.i16, hz_.i17, hz_.i18⟩), (by exact ⟨hG0.g9, hG0.g10, fun _ b_ o_ h_ => (by injection h_ with h_; injection h_ with h_; exact .inr (h_ ▸ ho22)), hG0.g12, hG0.g13, hG0.g14, hG0.g15, hG0.g16, hG0.g17, hG0.g18⟩), fun k hk => by repeat (first | rfl | exact hk k oM | rw [aA oM])⟩ kno (fun w s => (s.low 60 (by exact ⟨fun k hk => by rw [aA oM, aA oM]; rfl, fun k hk o ho => by rw [aJ oM ho _ _ ble, aJ oM ho _ _ ble]; rfl, fun k hk => by repeat (first | rfl | exact hk k oM | rw [aA oM])⟩) agx agx agx))
    .have hf1 : ¬ r.aP2 = 1 := beq_eq_false_iff_ne.1 hc2
     refine g6 ?_
     refine aB rfl (fun hc1 => ?_) (fun hc2 => ?_)
     .have hf2 : r.aP2 = 2 := beq_iff_eq.1 hc1
      refine g4 ?_
      refine gL (cvo rfl (fun w_ s_ => jG _ oM w_) (rl (qW (k2 := .i64) (n := 0) rfl kW) (gL (dB 23 (e := 43) (sz := 2) (by_ := 16) (zs := [iV 0, iV 0]) dE kR rfl dE dE rfl rfl rfl (fun o23 => kK (fun w s => Sees.fresh s (k := 23) rfl rfl) (fun ho23 => ?_))))))
      refine g1 ?_
      refine gL (sto 50 rfl rfl rfl rfl (g2 ?_))
      refine aK (ι := Rul × Av × LS) ⟨{ r with wday := [(r.start / 86400 % 7, 0)] }, { x with p14 := some ⟨o23, 0, none⟩, c14 := 1 }, (23, ⟨sL o23 1 1, 43, 2, 1, [iV (r.start / 86400 % 7), iV 0]⟩) :: []⟩ ⟨by unfold gA; rw [if_pos hno, if_neg hf0, if_neg hf1, if_pos hf2], fun B' H' w_ s_ => (by have hz_ : InL w_ (r) (x) := InL.see s_ hin; exact ⟨hz_.i9, hz_.i10, hz_.i11, hz_.i12, hz_.i13, (aBc (ps := [(r.start / 86400 % 7, 0)]) s_ 23 rfl), hz_.i15, hz_.i16, hz_.i17, hz_.i18⟩), (by exact ⟨hG0.g9, hG0.g10, hG0.g11, hG0.g12, hG0.g13, fun _ b_ o_ h_ => (by injection h_ with h_; injection h_ with h_; exact .inr (h_ ▸ ho23)), hG0.g15, hG0.g16, hG0.g17, hG0.g18⟩), fun k hk => by repeat (first | rfl | exact hk k oM | rw [aA oM])⟩ kno (fun w s => (s.low 60 (by exact ⟨fun k hk => by rw [aA oM, aA oM]; rfl, fun k hk o ho => by rw [aJ oM ho _ _ ble, aJ oM ho _ _ ble]; rfl, fun k hk => by repeat (first | rfl | exact hk k oM | rw [aA oM])⟩) agx agx agx))
     .have hf2 : ¬ r.aP2 = 2 := beq_eq_false_iff_ne.1 hc2
      refine g2 ?_
      refine aK (ι := Rul × Av × LS) ⟨r, x, []⟩ ⟨by unfold gA; rw [if_pos hno, if_neg hf0, if_neg hf1, if_neg hf2], fun B' H' w_ s_ => (by have hz_ : InL w_ (r) (x) := InL.see s_ hin; exact ⟨hz_.i9, hz_.i10, hz_.i11, hz_.i12, hz_.i13, hz_.i14, hz_.i15, hz_.i16, hz_.i17, hz_.i18⟩), (by exact ⟨hG0.g9, hG0.g10, hG0.g11, hG0.g12, hG0.g13, hG0.g14, hG0.g15, hG0.g16, hG0.g17, hG0.g18⟩), fun k hk => by repeat (first | rfl | exact hk k oM | rw [aA oM])⟩ kno (fun w s => (s.low 60 (by exact ⟨fun k hk => by rw [aA oM, aA oM]; rfl, fun k hk o ho => by rw [aJ oM ho _ _ ble, aJ oM ho _ _ ble]; rfl, fun k hk => by repeat (first | rfl | exact hk k oM | rw [aA oM])⟩) agx agx agx))
  .have hno : ¬ u7 r := by unfold u7; have := beq_eq_false_iff_ne.1 hc2; omega
   refine g1 ?_
   refine aK (ι := Rul × Av × LS) ⟨r, x, []⟩ ⟨by unfold gA; rw [if_neg hno], fun B' H' w_ s_ => (by have hz_ : InL w_ (r) (x) := InL.see s_ hin; exact ⟨hz_.i9, hz_.i10, hz_.i11, hz_.i12, hz_.i13, hz_.i14, hz_.i15, hz_.i16, hz_.i17, hz_.i18⟩), (by exact ⟨hG0.g9, hG0.g10, hG0.g11, hG0.g12, hG0.g13, hG0.g14, hG0.g15, hG0.g16, hG0.g17, hG0.g18⟩), fun k hk => by repeat (first | rfl | exact hk k oM | rw [aA oM])⟩ kno (fun w s => (s.low 60 (by exact ⟨fun k hk => by rw [aA oM, aA oM]; rfl, fun k hk o ho => by rw [aJ oM ho _ _ ble, aJ oM ho _ _ ble]; rfl, fun k hk => by repeat (first | rfl | exact hk k oM | rw [aA oM])⟩) agx agx agx))
 rintro ⟨r1, x1, S1⟩ ⟨hr1, ir1, gr1, hkS1⟩
 refine dS ?_
 obtain ⟨e1, e2, e3, e4, e5⟩ := yD r
 rw [<- hr1] at e1 e2 e3 e4 e5
 refine g4 ?_
 refine gL (cvo rfl (fun w_ s_ => aAn _ oM w_) (g9 ?_))
 refine cO (ι := (Rul) × (Av) × (LS)) (fun | ⟨r2, x2, S2⟩ => (r2 = fZ (r1)) /\ (InS w S2 r2 x2) /\ (BkL (fun b => G b \/ w.heap.size <= b) r2 x2) /\ (∀ k, 25 <= k -> lkp k S2 = none)) (fun _ => [(1, pT b1), (2, pT b2_), (6, iV (r1.start % 86400 / 3600)), (7, iV (r1.start % 86400 / 60 % 60)), (8, iV (r1.start % 86400 % 60))]) (fun _ => [(51, b2_), (50, b1)]) (fun | ⟨r2, x2, S2⟩ => (aL 51 0 zL3 ++ (aL 50 0 (bG (r2) (x2)) ++ []))) (fun | ⟨r2, x2, S2⟩ => S2) ?_ ?_
 .refine g1 ?_
  have hb_ : r1.hour.length <= 2147483647 := by rw [e3]; exact l15
  refine g4 ?_
  by_cases h0 : r1.hour.length = 0
  .refine rZ6 ((aQ rfl rfl).to eT) ?_
   by_cases hfl : r1.aP2 < 4
   .refine rl ((cR rfl rfl).to bT) (g3 ?_)
    refine bK rfl rfl ?_
    refine g2 ?_
    refine gL (dB 24 (e := 3) (sz := 1) (by_ := 8) (zs := [iV 0]) dE kR rfl dE dE rfl rfl rfl (fun o24 => kK (fun w s => Sees.fresh s (k := 24) rfl rfl) (fun ho24 => ?_)))
    refine g1 ?_
    refine gL (sto 50 rfl rfl rfl rfl (g1 ?_))
    refine aK (ι := Rul × Av × LS) ⟨{ r1 with hour := [r1.start % 86400 / 3600] }, { x1 with p15 := some ⟨o24, 0, none⟩, c15 := 1 }, (24, ⟨sL o24 1 1, 3, 1, 1, [iV (r1.start % 86400 / 3600)]⟩) :: S1⟩ ⟨by unfold fZ; rw [if_pos ⟨h0, hfl⟩], fun B' H' w_ s_ => (by have hz_ : InL w_ (r1) (x1) := ir1 B' H' w_ (Sees.tailS s_ (hkS1 24 oM)); exact ⟨hz_.i9, hz_.i10, hz_.i11, hz_.i12, hz_.i13, hz_.i14, (s_.ints 24 (xs := [r1.start % 86400 / 3600]) rfl), hz_.i16, hz_.i17, hz_.i18⟩), (by exact ⟨gr1.g9, gr1.g10, gr1.g11, gr1.g12, gr1.g13, gr1.g14, fun _ b_ o_ h_ => (by injection h_ with h_; injection h_ with h_; exact .inr (h_ ▸ ho24)), gr1.g16, gr1.g17, gr1.g18⟩), fun k hk => by repeat (first | rfl | exact hkS1 k oM | rw [aA oM])⟩ kno (fun w s => (s.low 60 (by exact ⟨fun k hk => by rw [aA oM, aA oM]; rfl, fun k hk o ho => by rw [aJ oM ho _ _ ble, aJ oM ho _ _ ble]; rfl, fun k hk => by repeat (first | rfl | exact hkS1 k oM | rw [aA oM])⟩) agx agx agx))
   .refine rl ((cR rfl rfl).to bF) (g3 ?_)
    refine aU rfl rfl ?_
    refine g1 ?_
    refine aK (ι := Rul × Av × LS) ⟨r1, x1, S1⟩ ⟨by unfold fZ; rw [if_neg (fun h => hfl h.2)], fun B' H' w_ s_ => (by have hz_ : InL w_ (r1) (x1) := ir1 B' H' w_ s_; exact ⟨hz_.i9, hz_.i10, hz_.i11, hz_.i12, hz_.i13, hz_.i14, hz_.i15, hz_.i16, hz_.i17, hz_.i18⟩), (by exact ⟨gr1.g9, gr1.g10, gr1.g11, gr1.g12, gr1.g13, gr1.g14, gr1.g15, gr1.g16, gr1.g17, gr1.g18⟩), fun k hk => by repeat (first | rfl | exact hkS1 k oM | rw [aA oM])⟩ kno (fun w s => (s.low 60 (by exact ⟨fun k hk => by rw [aA oM, aA oM]; rfl, fun k hk o ho => by rw [aJ oM ho _ _ ble, aJ oM ho _ _ ble]; rfl, fun k hk => by repeat (first | rfl | exact hkS1 k oM | rw [aA oM])⟩) agx agx agx))
  .refine wZ9 ((aQ rfl rfl).to eF) ?_
   refine aK (ι := Rul × Av × LS) ⟨r1, x1, S1⟩ ⟨by unfold fZ; rw [if_neg (fun h => h0 h.1)], fun B' H' w_ s_ => (by have hz_ : InL w_ (r1) (x1) := ir1 B' H' w_ s_; exact ⟨hz_.i9, hz_.i10, hz_.i11, hz_.i12, hz_.i13, hz_.i14, hz_.i15, hz_.i16, hz_.i17, hz_.i18⟩), (by exact ⟨gr1.g9, gr1.g10, gr1.g11, gr1.g12, gr1.g13, gr1.g14, gr1.g15, gr1.g16, gr1.g17, gr1.g18⟩), fun k hk => by repeat (first | rfl | exact hkS1 k oM | rw [aA oM])⟩ kno (fun w s => (s.low 60 (by exact ⟨fun k hk => by rw [aA oM, aA oM]; rfl, fun k hk o ho => by rw [aJ oM ho _ _ ble, aJ oM ho _ _ ble]; rfl, fun k hk => by repeat (first | rfl | exact hkS1 k oM | rw [aA oM])⟩) agx agx agx))
 rintro ⟨r2, x2, S2⟩ ⟨hr2, ir2, gr2, hkS2⟩
 refine dS ?_
 obtain ⟨f1, f2, f3, f4⟩ := aEr r1
 rw [<- hr2] at f1 f2 f3 f4
 refine cO (ι := (Rul) × (Av) × (LS)) (fun | ⟨r3, x3, S3⟩ => (r3 = gD (r2)) /\ (InS w S3 r3 x3) /\ (BkL (fun b => G b \/ w.heap.size <= b) r3 x3) /\ (∀ k, 26 <= k -> lkp k S3 = none)) (fun _ => [(1, pT b1), (2, pT b2_), (6, iV (r1.start % 86400 / 3600)), (7, iV (r1.start % 86400 / 60 % 60)), (8, iV (r1.start % 86400 % 60))]) (fun _ => [(51, b2_), (50, b1)]) (fun | ⟨r3, x3, S3⟩ => (aL 51 0 zL3 ++ (aL 50 0 (bG (r3) (x3)) ++ []))) (fun | ⟨r3, x3, S3⟩ => S3) ?_ ?_
 .refine g1 ?_
  have hb_ : r2.aPr.length <= 2147483647 := by rw [f3, e4]; exact l16
  refine g4 ?_
  by_cases h0 : r2.aPr.length = 0
  .refine rZ6 ((aQ rfl rfl).to eT) ?_
   by_cases hfl : r2.aP2 < 5
   .refine rl ((cR rfl rfl).to bT) (g3 ?_)
    refine bK rfl rfl ?_
    refine g2 ?_
    refine gL (dB 25 (e := 3) (sz := 1) (by_ := 8) (zs := [iV 0]) dE kR rfl dE dE rfl rfl rfl (fun o25 => kK (fun w s => Sees.fresh s (k := 25) rfl rfl) (fun ho25 => ?_)))
    refine g1 ?_
    refine gL (sto 50 rfl rfl rfl rfl (g1 ?_))
    refine aK (ι := Rul × Av × LS) ⟨{ r2 with aPr := [r1.start % 86400 / 60 % 60] }, { x2 with p16 := some ⟨o25, 0, none⟩, c16 := 1 }, (25, ⟨sL o25 1 1, 3, 1, 1, [iV (r1.start % 86400 / 60 % 60)]⟩) :: S2⟩ ⟨by unfold gD; rw [if_pos ⟨h0, hfl⟩, f1], fun B' H' w_ s_ => (by have hz_ : InL w_ (r2) (x2) := ir2 B' H' w_ (Sees.tailS s_ (hkS2 25 oM)); exact ⟨hz_.i9, hz_.i10, hz_.i11, hz_.i12, hz_.i13, hz_.i14, hz_.i15, (s_.ints 25 (xs := [r1.start % 86400 / 60 % 60]) rfl), hz_.i17, hz_.i18⟩), (by exact ⟨gr2.g9, gr2.g10, gr2.g11, gr2.g12, gr2.g13, gr2.g14, gr2.g15, fun _ b_ o_ h_ => (by injection h_ with h_; injection h_ with h_; exact .inr (h_ ▸ ho25)), gr2.g17, gr2.g18⟩), fun k hk => by repeat (first | rfl | exact hkS2 k oM | rw [aA oM])⟩ kno (fun w s => (s.low 60 (by exact ⟨fun k hk => by rw [aA oM, aA oM]; rfl, fun k hk o ho => by rw [aJ oM ho _ _ ble, aJ oM ho _ _ ble]; rfl, fun k hk => by repeat (first | rfl | exact hkS2 k oM | rw [aA oM])⟩) agx agx agx))
   .refine rl ((cR rfl rfl).to bF) (g3 ?_)
    refine aU rfl rfl ?_
    refine g1 ?_
    refine aK (ι := Rul × Av × LS) ⟨r2, x2, S2⟩ ⟨by unfold gD; rw [if_neg (fun h => hfl h.2)], fun B' H' w_ s_ => (by have hz_ : InL w_ (r2) (x2) := ir2 B' H' w_ s_; exact ⟨hz_.i9, hz_.i10, hz_.i11, hz_.i12, hz_.i13, hz_.i14, hz_.i15, hz_.i16, hz_.i17, hz_.i18⟩), (by exact ⟨gr2.g9, gr2.g10, gr2.g11, gr2.g12, gr2.g13, gr2.g14, gr2.g15, gr2.g16, gr2.g17, gr2.g18⟩), fun k hk => by repeat (first | rfl | exact hkS2 k oM | rw [aA oM])⟩ kno (fun w s => (s.low 60 (by exact ⟨fun k hk => by rw [aA oM, aA oM]; rfl, fun k hk o ho => by rw [aJ oM ho _ _ ble, aJ oM ho _ _ ble]; rfl, fun k hk => by repeat (first | rfl | exact hkS2 k oM | rw [aA oM])⟩) agx agx agx))
  .refine wZ9 ((aQ rfl rfl).to eF) ?_
   refine aK (ι := Rul × Av × LS) ⟨r2, x2, S2⟩ ⟨by unfold gD; rw [if_neg (fun h => h0 h.1)], fun B' H' w_ s_ => (by have hz_ : InL w_ (r2) (x2) := ir2 B' H' w_ s_; exact ⟨hz_.i9, hz_.i10, hz_.i11, hz_.i12, hz_.i13, hz_.i14, hz_.i15, hz_.i16, hz_.i17, hz_.i18⟩), (by exact ⟨gr2.g9, gr2.g10, gr2.g11, gr2.g12, gr2.g13, gr2.g14, gr2.g15, gr2.g16, gr2.g17, gr2.g18⟩), fun k hk => by repeat (first | rfl | exact hkS2 k oM | rw [aA oM])⟩ kno (fun w s => (s.low 60 (by exact ⟨fun k hk => by rw [aA oM, aA oM]; rfl, fun k hk o ho => by rw [aJ oM ho _ _ ble, aJ oM ho _ _ ble]; rfl, fun k hk => by repeat (first | rfl | exact hkS2 k oM | rw [aA oM])⟩) agx agx agx))
 rintro ⟨r3, x3, S3⟩ ⟨hr3, ir3, gr3, hkS3⟩
 refine dS ?_
 obtain ⟨g1_, g2_, g3_⟩ := aE2 r2
 rw [<- hr3] at g1_ g2_ g3_
 refine cO (ι := (Rul) × (Av) × (LS)) (fun | ⟨r4, x4, S4⟩ => (r4 = iH (r3)) /\ (InS w S4 r4 x4) /\ (BkL (fun b => G b \/ w.heap.size <= b) r4 x4) /\ (∀ k, 27 <= k -> lkp k S4 = none)) (fun _ => [(1, pT b1), (2, pT b2_), (6, iV (r1.start % 86400 / 3600)), (7, iV (r1.start % 86400 / 60 % 60)), (8, iV (r1.start % 86400 % 60))]) (fun _ => [(51, b2_), (50, b1)]) (fun | ⟨r4, x4, S4⟩ => (aL 51 0 zL3 ++ (aL 50 0 (bG (r4) (x4)) ++ []))) (fun | ⟨r4, x4, S4⟩ => S4) ?_ ?_
 .refine g1 ?_
  have hb_ : r3.aPs.length <= 2147483647 := by rw [g3_, f4, e5]; exact l17
  refine g4 ?_
  by_cases h0 : r3.aPs.length = 0
  .refine rZ6 ((aQ rfl rfl).to eT) ?_
   by_cases hfl : r3.aP2 < 6
   .refine rl ((cR rfl rfl).to bT) (g3 ?_)
    refine bK rfl rfl ?_
    refine g2 ?_
    refine gL (dB 26 (e := 3) (sz := 1) (by_ := 8) (zs := [iV 0]) dE kR rfl dE dE rfl rfl rfl (fun o26 => kK (fun w s => Sees.fresh s (k := 26) rfl rfl) (fun ho26 => ?_)))
    refine g1 ?_
    refine gL (sto 50 rfl rfl rfl rfl (g1 ?_))
    refine aK (ι := Rul × Av × LS) ⟨{ r3 with aPs := [r1.start % 86400 % 60] }, { x3 with p17 := some ⟨o26, 0, none⟩, c17 := 1 }, (26, ⟨sL o26 1 1, 3, 1, 1, [iV (r1.start % 86400 % 60)]⟩) :: S3⟩ ⟨by unfold iH; rw [if_pos ⟨h0, hfl⟩, g1_, f1], fun B' H' w_ s_ => (by have hz_ : InL w_ (r3) (x3) := ir3 B' H' w_ (Sees.tailS s_ (hkS3 26 oM)); exact ⟨hz_.i9, hz_.i10, hz_.i11, hz_.i12, hz_.i13, hz_.i14, hz_.i15, hz_.i16, (s_.ints 26 (xs := [r1.start % 86400 % 60]) rfl), hz_.i18⟩), (by exact ⟨gr3.g9, gr3.g10, gr3.g11, gr3.g12, gr3.g13, gr3.g14, gr3.g15, gr3.g16, fun _ b_ o_ h_ => (by injection h_ with h_; injection h_ with h_; exact .inr (h_ ▸ ho26)), gr3.g18⟩), fun k hk => by repeat (first | rfl | exact hkS3 k oM | rw [aA oM])⟩ kno (fun w s => (s.low 60 (by exact ⟨fun k hk => by rw [aA oM, aA oM]; rfl, fun k hk o ho => by rw [aJ oM ho _ _ ble, aJ oM ho _ _ ble]; rfl, fun k hk => by repeat (first | rfl | exact hkS3 k oM | rw [aA oM])⟩) agx agx agx))
   .refine rl ((cR rfl rfl).to bF) (g3 ?_)
    refine aU rfl rfl ?_
    refine g1 ?_
    refine aK (ι := Rul × Av × LS) ⟨r3, x3, S3⟩ ⟨by unfold iH; rw [if_neg (fun h => hfl h.2)], fun B' H' w_ s_ => (by have hz_ : InL w_ (r3) (x3) := ir3 B' H' w_ s_; exact ⟨hz_.i9, hz_.i10, hz_.i11, hz_.i12, hz_.i13, hz_.i14, hz_.i15, hz_.i16, hz_.i17, hz_.i18⟩), (by exact ⟨gr3.g9, gr3.g10, gr3.g11, gr3.g12, gr3.g13, gr3.g14, gr3.g15, gr3.g16, gr3.g17, gr3.g18⟩), fun k hk => by repeat (first | rfl | exact hkS3 k oM | rw [aA oM])⟩ kno (fun w s => (s.low 60 (by exact ⟨fun k hk => by rw [aA oM, aA oM]; rfl, fun k hk o ho => by rw [aJ oM ho _ _ ble, aJ oM ho _ _ ble]; rfl, fun k hk => by repeat (first | rfl | exact hkS3 k oM | rw [aA oM])⟩) agx agx agx))
  .refine wZ9 ((aQ rfl rfl).to eF) ?_
   refine aK (ι := Rul × Av × LS) ⟨r3, x3, S3⟩ ⟨by unfold iH; rw [if_neg (fun h => h0 h.1)], fun B' H' w_ s_ => (by have hz_ : InL w_ (r3) (x3) := ir3 B' H' w_ s_; exact ⟨hz_.i9, hz_.i10, hz_.i11, hz_.i12, hz_.i13, hz_.i14, hz_.i15, hz_.i16, hz_.i17, hz_.i18⟩), (by exact ⟨gr3.g9, gr3.g10, gr3.g11, gr3.g12, gr3.g13, gr3.g14, gr3.g15, gr3.g16, gr3.g17, gr3.g18⟩), fun k hk => by repeat (first | rfl | exact hkS3 k oM | rw [aA oM])⟩ kno (fun w s => (s.low 60 (by exact ⟨fun k hk => by rw [aA oM, aA oM]; rfl, fun k hk o ho => by rw [aJ oM ho _ _ ble, aJ oM ho _ _ ble]; rfl, fun k hk => by repeat (first | rfl | exact hkS3 k oM | rw [aA oM])⟩) agx agx agx))
 rintro ⟨r4, x4, S4⟩ ⟨hr4, ir4, gr4, hkS4⟩
 refine dS ?_
 refine g2 ?_
 refine rl ((dC 50 (cs := bG r4 x4) rfl rfl (fun i u h => (aJ (j := 51) dE (by have := (List.getElem?_eq_some_iff.1 h).1; have h18 : (bG r4 x4).length = 18 := rfl; omega) _ _ ble).trans (eD (bG r4 x4) 0 ble i u h)) ble kR)) ?_
 refine gL (cI 51 (cs := (bG r4 x4).toArray) rfl rfl rfl rfl kR rfl ble (g3 ?_))
 have hF : aV r = r4 := by unfold aV; rw [<- hr1, <- hr2, <- hr3, <- hr4]
 rw [hF]
 refine aT (.inl rfl) rfl (lF 51 (cs := bG r4 x4) rfl rfl (fun i v h => by have := aP (j := 51) (bG r4 x4) 0 (H := (aL 51 0 zL3 ++ (aL 50 0 (bG (r4) (x4)) ++ []))) ble i v h; rwa [Nat.zero_add] at this) ble kR) fun w_ s_ => ⟨x4, rfl, s_.aPg, ir4 _ _ _ s_, gr4⟩
def oJ (l : List Int) (day : Int) : Bool := l.length == 0 || l.any (· == Cal.mdayOf day) || l.any (· == Cal.mdayOf day - Cal.mdays (Cal.monthOf day) (Cal.yearOf day) - 1)
def aAo (l : List (Int × Int)) (day : Int) : Bool := l.length == 0 || l.any (fun p => p.1 == day % 7)
def eA (r : Rul) (day : Int) : Bool := aI r.aPt (Cal.monthOf day) && (oJ r.aPu day && aAo r.wday day)
theorem aB8 (r : Rul) (x : Av) (day : Int) (hday : 0 <= day /\ day <= 5000000) (hf : 2 <= r.aP2 /\ r.aP2 <= 6) (hy0 : r.aPw.length = 0) (hw0 : r.aPx.length = 0) (he0 : r.aPy.length = 0) (hl : LenL r) (w : World) (hin : InL w r x) : CB 47 #[.agg (bG r x).toArray, iV day] w (.bool (eA r day)) := by
 obtain ⟨l9, l10, l11, l12, l13, l14, l15, l16, l17, l18⟩ := hl
 have hye := Cal.year_le day oM
 have hyb : 1 <= Cal.yearOf day := by have := iQ (x := day * 86400) oM; rw [show day * 86400 / 86400 = day by omega] at this; omega
 have hmb := Cal.month_bd day
 have hmds := Cal.mdays_bd (Cal.monthOf day) (Cal.yearOf day)
 have hdt := (Cal.split_spec day).1
 have hI : ∀ i y, r.wday[i]? = some y -> ∃ b o, x.p14 = some ⟨b, o, none⟩ /\ w.cell? ⟨b, o + 2 * i, none⟩ = some (iV y.1) /\ w.cell? ⟨b, o + 2 * i + 1, none⟩ = some (iV y.2) := by
  obtain ⟨p', c', e, hc⟩ := hin.i14
  injection e with e1 _ _
  rw [e1]; exact hc
 refine aF (args := [.agg (bG r x).toArray, iV day]) (L := [(0, .agg (bG r x).toArray), (1, iV day)]) (N := 179) Tryz.func47 rfl rfl ble rfl (sS w) (g2 ?_)
 refine gL (fU 50 (cs := bG r x) dE rfl rfl rfl (fun o ho => rfl) ble (fun b1 hb1 => g6 ?_))
 refine gL (cvo rfl (fun w_ s_ => lU _ oM w_) (g9 ?_))
 refine cO (ι := (Unit)) (fun u => (aI r.aPt (Cal.monthOf day) = true)) (fun u => [(1, iV day), (2, pT b1), (5, iV (Cal.yearOf day)), (6, iV (Cal.monthOf day)), (7, iV (Cal.mdayOf day))]) (fun u => [(50, b1)]) (fun u => aL 50 0 (bG r x) ++ []) (fun u => []) ?_ ?_
 .refine g5 ?_
  by_cases h0 : 0 < r.aPt.length
  .refine rZ8 ((bU rfl rfl).to bT) ?_
   rcases bO (r.aPt.any (· == Cal.monthOf day)) with ha | ha
   .refine gL (cvo (v := .bool true) rfl (fun w_ s_ => (bA r.aPt _ _ oM w_ (aZ s_ hin.i10)).mT (cE ha)) (yZ7 ?_))
    refine aK (ι := Unit) () (by unfold aI; rw [ha, Bool.or_true]) kns (fun w s => s)
   .have hF : eA r day = false := by unfold eA; rw [show aI r.aPt (Cal.monthOf day) = false from by unfold aI; rw [ha, rP oM]; rfl]; simp
    refine gL (cvo (v := .bool false) rfl (fun w_ s_ => (bA r.aPt _ _ oM w_ (aZ s_ hin.i10)).mT (cE ha)) (pA ?_))
    exact gR rfl fun w_ s_ => ⟨by rw [hF], s_.aPg⟩
  .refine sA ((bU rfl rfl).to bF) ?_
   refine aK (ι := Unit) () (by unfold aI; rw [show r.aPt.length = 0 by omega]; rfl) kns (fun w s => s)
 rintro u hA
 refine dS ?_
 refine cO (ι := (Unit)) (fun u => (oJ r.aPu day = true)) (fun u => [(1, iV day), (2, pT b1), (5, iV (Cal.yearOf day)), (6, iV (Cal.monthOf day)), (7, iV (Cal.mdayOf day))]) (fun u => [(50, b1)]) (fun u => aL 50 0 (bG r x) ++ []) (fun u => []) ?_ ?_
 .refine g4 ?_
  refine gL (cvo rfl (fun w_ s_ => fQ _ _ oM w_) (g8 ?_))
  by_cases h0 : 0 < r.aPu.length
  .refine rZ8 ((bU rfl rfl).to bT) ?_
   rcases bO (r.aPu.any (· == Cal.mdayOf day)) with ha | ha
   .refine gL (cvo (v := .bool true) rfl (fun w_ s_ => (bA r.aPu _ _ oM w_ (aZ s_ hin.i11)).mT (cE ha)) (uC ?_))
    refine aK (ι := Unit) () (by unfold oJ; rw [ha, Bool.or_true, Bool.true_or]) kns (fun w s => s)
   .refine gL (cvo (v := .bool false) rfl (fun w_ s_ => (bA r.aPu _ _ oM w_ (aZ s_ hin.i11)).mT (cE ha)) (g16 ?_))
    refine g1 ?_
    rcases bO (r.aPu.any (· == Cal.mdayOf day - Cal.mdays (Cal.monthOf day) (Cal.yearOf day) - 1)) with hb | hb
    .refine gL (cvo (v := .bool true) rfl (fun w_ s_ => (bA r.aPu _ _ oM w_ (aZ s_ hin.i11)).mT (cE hb)) (yZ7 ?_))
     refine aK (ι := Unit) () (by unfold oJ; rw [hb, Bool.or_true]) kns (fun w s => s)
    .have hF : eA r day = false := by unfold eA; rw [show oJ r.aPu day = false from by unfold oJ; rw [ha, hb, rP oM]; rfl]; simp
     skip
     refine gL (cvo (v := .bool false) rfl (fun w_ s_ => (bA r.aPu _ _ oM w_ (aZ s_ hin.i11)).mT (cE hb)) (pA ?_))
     exact gR rfl fun w_ s_ => ⟨by rw [hF], s_.aPg⟩
  .refine rl ((bU rfl rfl).to bF) (zE ?_)
   refine aK (ι := Unit) () (by unfold oJ; rw [show r.aPu.length = 0 by omega]; rfl) kns (fun w s => s)
 rintro u hM
 refine dS ?_
 refine g5 ?_
 refine gL (cvo rfl (fun w_ s_ => eO _ oM w_) (g10 ?_))
 by_cases h0 : 0 < r.aPw.length
 .omega
 .refine rq ((bU rfl rfl).to bF) (g20 ?_)
  refine yZ9 ?_
  by_cases h0 : 0 < r.aPx.length
  .omega
  .refine sA ((bU rfl rfl).to bF) ?_
   by_cases h0 : 0 < r.aPy.length
   .omega
   .refine rq ((bU rfl rfl).to bF) (zE ?_)
    by_cases h0 : r.wday.length = 0
    .have hF : eA r day = true := by unfold eA aAo; rw [hA, hM, h0]; rfl
     refine rl ((aQ rfl rfl).to eT) (g2 ?_)
     refine bK rfl rfl ?_
     refine g7 ?_
     exact gR rfl fun w_ s_ => ⟨by rw [hF], s_.aPg⟩
    .refine wA ((aQ rfl rfl).to eF) ?_
     refine aY (ι := (Nat)) (fun k => r.wday.length - k) (fun k => (k <= r.wday.length) /\ ((r.wday.take k).any (fun p => p.1 == day % 7) = false)) (fun k => [(1, iV day), (2, pT b1), (129, .slice x.p14 r.wday.length x.c14), (130, iV (r.wday.length)), (131, iV k)]) (fun k => [(50, b1)]) (fun k => aL 50 0 (bG r x) ++ []) (fun k => []) 0 ⟨Nat.zero_le _, rfl⟩ kns (fun w s => by exact s) ?_
     rintro k ⟨hk, hn⟩
     refine dS ?_
     refine g6 ?_
     refine aB rfl (fun hc1 => ?_) (fun hc2 => ?_)
     .have hlt : k < r.wday.length := by have := oT hc1; omega
      obtain ⟨y, hy⟩ : ∃ y, r.wday[k]? = some y := ⟨_, List.getElem?_eq_getElem hlt⟩
      obtain ⟨b_, o_, hp0, hca, hcb⟩ := hI k y hy
      refine g6 ?_
      refine rl (aC (e := 43) (n := 2) kR (congrArg (fun p => some (Value.slice p _ _)) hp0) rfl oM oM) (rl (iK rfl (by rw [<- hca]; congr 2; omega) (by rw [<- hcb]; congr 2; omega) (fun h => h) kR) (gL (eJ 51 (cs := [iV 0, iV 0]) dE kR rfl (fun o ho => by repeat (first | rfl | rw [aJ dE ho _ _ ble])) ble (fun b2_ hb2_ => gL (sta 51 rfl rfl rfl rfl (g8 ?_))))))
      refine cJ dE kR rfl (fun w_ s_ => jG _ oM w_) ?_
      refine g3 ?_
      refine aB rfl (fun hc1 => ?_) (fun hc2 => ?_)
      .have hne : (y.1 == day % 7) = false := by have := bne_iff_ne.1 hc1; exact nZ this
       refine g8 ?_
       refine aN (k + 1) oM ⟨by omega, by rw [List.take_add_one, hy, List.any_append, hn]; simp [hne]⟩ kns (fun w s => by exact (s.low 51 (by exact ⟨fun k hk => by rw [aA oM]; rfl, fun k hk o ho => by rw [aJ oM ho _ _ ble]; rfl, fun _ _ => rfl⟩) agx agx agx))
      .have heq : (y.1 == day % 7) = true := by have := bne_eq_false_iff_eq.1 hc2; exact oP this
       have hF : eA r day = true := by unfold eA aAo; rw [hA, hM, show r.wday.any (fun p => p.1 == day % 7) = true from List.any_eq_true.2 ⟨y, List.mem_of_getElem? hy, heq⟩]; simp
       refine g7 ?_
       by_cases hz : y.2 = 0
       .refine rl ((aQ rfl rfl).to eT) (zE ?_)
        exact gR rfl fun w_ s_ => ⟨by rw [hF], s_.aPg⟩
       .refine rZ6 ((aQ rfl rfl).to eF) ?_
        refine rl ((bU rfl rfl).to bT) (uC ?_)
        exact gR rfl fun w_ s_ => ⟨by rw [hF], s_.aPg⟩
     .obtain rfl : k = r.wday.length := by have := oF hc2; omega
      rw [List.take_length] at hn
      have hF : eA r day = false := by unfold eA aAo; rw [hn, rP h0]; simp
      refine g11 ?_
      exact gR rfl fun w_ s_ => ⟨by rw [hF], s_.aPg⟩
def UD (r : Rul) (u dy : Int) : Prop := (u = 3600 /\ dy = 24 /\ r.aP2 = 4) \/ (u = 60 /\ dy = 1440 /\ r.aP2 = 5) \/ (u = 1 /\ dy = 86400 /\ r.aP2 = 6)
def aEx (r : Rul) : Prop := ∃ u dy at_ : Int, UD r u dy /\ 0 <= at_ /\ at_ < dy /\ at_ % (Nat.gcd r.aPp.toNat dy.toNat : Nat) = r.start % 86400 / u % (Nat.gcd r.aPp.toNat dy.toNat : Nat) /\
 aI r.hour (at_ * u / 3600) = true /\ (5 <= r.aP2 -> aI r.aPr (at_ * u / 60 % 60) = true) /\ (r.aP2 = 6 -> aI r.aPs (at_ * u % 60) = true)
theorem aDu (r : Rul) (x : Av) (hs : 0 <= r.start /\ r.start <= 1000000000000) (hi : 1 <= r.aPp /\ r.aPp <= 1000) (hf : r.aP2 = 4 \/ r.aP2 = 5 \/ r.aP2 = 6) (hl : LenL r) (w : World) (hin : InL w r x) : Calls Tryz.prog 38 #[.agg (bG r x).toArray] w fun e w' => ∃ b : Bool, (b = true -> aEx r) /\ e = .returned (.bool b) /\ Below w.heap.size w w' := by
 obtain ⟨l9, l10, l11, l12, l13, l14, l15, l16, l17, l18⟩ := hl
 refine aF (args := [.agg (bG r x).toArray]) (L := [(0, .agg (bG r x).toArray)]) (N := 77) Tryz.func38 rfl rfl ble rfl (sS w) (g2 ?_)
 refine gL (fU 50 (cs := bG r x) dE rfl rfl rfl (fun o ho => rfl) ble (fun b1 hb1 => g3 ?_))
 refine cO (ι := (Int) × (Int)) (fun | ⟨u, dy⟩ => (UD r u dy)) (fun | ⟨u, dy⟩ => [(1, pT b1), (3, iV u)]) (fun _ => [(50, b1)]) (fun _ => aL 50 0 (bG r x) ++ []) (fun _ => []) ?_ ?_
 .rcases hf with hq | hq | hq
  .refine g1 ?_
   refine gL (fY 50 (e := 3) (sz := 1) (n := 3) (vs := [(0, iV 3600), (1, iV 60), (2, iV 1)]) (cs := [iV 3600, iV 60, iV 1]) dE rfl kW rfl dE dE rfl (fun b1_ hbb1_ => g1 ?_))
   refine rl ((rld 50 rfl rfl rfl).to (v' := .int .u8 4) (congrArg (Value.int .u8) hq)) (rl ((n8 rfl rfl).to (v' := .int .u8 0) rfl) (rl (aC (e := 3) (n := 1) kR rfl rfl oM oM) (rZ2 (bQ 50 rfl rfl rfl rfl kR) ?_)))
   refine aK (ι := Int × Int) (⟨3600, 24⟩) (.inl ⟨rfl, rfl, hq⟩) kno (fun w s => Sees.tailS s rfl)
  .refine g1 ?_
   refine gL (fY 50 (e := 3) (sz := 1) (n := 3) (vs := [(0, iV 3600), (1, iV 60), (2, iV 1)]) (cs := [iV 3600, iV 60, iV 1]) dE rfl kW rfl dE dE rfl (fun b2_ hbb2_ => g1 ?_))
   refine rl ((rld 50 rfl rfl rfl).to (v' := .int .u8 5) (congrArg (Value.int .u8) hq)) (rl ((n8 rfl rfl).to (v' := .int .u8 1) rfl) (rl (aC (e := 3) (n := 1) kR rfl rfl oM oM) (rZ2 (bQ 50 rfl rfl rfl rfl kR) ?_)))
   refine aK (ι := Int × Int) (⟨60, 1440⟩) (.inr (.inl ⟨rfl, rfl, hq⟩)) kno (fun w s => Sees.tailS s rfl)
  .refine g1 ?_
   refine gL (fY 50 (e := 3) (sz := 1) (n := 3) (vs := [(0, iV 3600), (1, iV 60), (2, iV 1)]) (cs := [iV 3600, iV 60, iV 1]) dE rfl kW rfl dE dE rfl (fun b3_ hbb3_ => g1 ?_))
   refine rl ((rld 50 rfl rfl rfl).to (v' := .int .u8 6) (congrArg (Value.int .u8) hq)) (rl ((n8 rfl rfl).to (v' := .int .u8 2) rfl) (rl (aC (e := 3) (n := 1) kR rfl rfl oM oM) (rZ2 (bQ 50 rfl rfl rfl rfl kR) ?_)))
   refine aK (ι := Int × Int) (⟨1, 86400⟩) (.inr (.inr ⟨rfl, rfl, hq⟩)) kno (fun w s => Sees.tailS s rfl)
 rintro ⟨u, dy⟩ hu
 refine dS ?_
 have hub : 1 <= u /\ u <= 3600 /\ 1 <= dy /\ dy <= 86400 /\ 86400 / u = dy := by rcases hu with ⟨rfl, rfl, _⟩ | ⟨rfl, rfl, _⟩ | ⟨rfl, rfl, _⟩ <;> decide
 obtain ⟨hu1, hu2, hd1, hd2, hud⟩ := hub
 have hst : 0 <= r.start % 86400 / u /\ r.start % 86400 / u < dy := by rcases hu with ⟨rfl, rfl, _⟩ | ⟨rfl, rfl, _⟩ | ⟨rfl, rfl, _⟩ <;> omega
 obtain ⟨i0, hi0⟩ : ∃ i0 : Nat, r.aPp = i0 := ⟨r.aPp.toNat, by omega⟩
 obtain ⟨d0, hd0⟩ : ∃ d0 : Nat, dy = d0 := ⟨dy.toNat, by omega⟩
 have hgp : 0 < Nat.gcd i0 d0 := Nat.gcd_pos_of_pos_left _ oM
 refine g3 ?_
 refine rl ((oZ rfl rfl oM oM oM).to (v' := iV dy) (congrArg (Value.int .i64) hud)) (g14 ?_)
 refine aY (ι := (Nat) × (Nat)) (fun | ⟨a, b⟩ => b) (fun | ⟨a, b⟩ => (Nat.gcd a b = Nat.gcd i0 d0) /\ (b <= 86400 /\ a <= 86400)) (fun | ⟨a, b⟩ => [(1, pT b1), (3, iV u), (4, iV dy), (5, iV ((a : Int))), (6, iV ((b : Int)))]) (fun _ => [(50, b1)]) (fun _ => aL 50 0 (bG r x) ++ []) (fun _ => []) ⟨i0, d0⟩ ⟨rfl, by omega⟩ kno (fun w s => by exact s) ?_
 rintro ⟨a, b⟩ ⟨hg, hb⟩
 refine dS ?_
 refine g7 ?_
 refine aB rfl (fun hc1 => ?_) (fun hc2 => ?_)
 .have hb0 : b ≠ 0 := by have := bne_iff_ne.1 hc1; omega
  refine g7 ?_
  refine rq ((tU rfl rfl oM oM).to (v' := iV ((a % b : Nat) : Int)) (congrArg (Value.int .i64) oM)) (g4 ?_)
  refine aN ⟨b, a % b⟩ (by exact Nat.mod_lt a oM) ⟨by rw [Nat.gcd_comm, <- Nat.gcd_rec, Nat.gcd_comm]; exact hg, by have := Nat.mod_lt a (show 0 < b by omega); omega⟩ kno (fun w s => by exact s)
 .obtain rfl : b = 0 := by have := bne_eq_false_iff_eq.1 hc2; omega
  obtain rfl : a = Nat.gcd i0 d0 := by rw [<- hg, Nat.gcd_zero_right]
  refine g25 ?_
  refine aY (ι := (Int)) (fun t => (dy - t).toNat) (fun t => (0 <= t) /\ (t % (Nat.gcd i0 d0 : Nat) = r.start % 86400 / u % (Nat.gcd i0 d0 : Nat))) (fun t => [(1, pT b1), (3, iV u), (4, iV dy), (5, iV ((Nat.gcd i0 d0 : Nat))), (8, iV t)]) (fun t => [(50, b1)]) (fun t => aL 50 0 (bG r x) ++ []) (fun t => []) (r.start % 86400 / u % (Nat.gcd i0 d0 : Nat)) ⟨Int.emod_nonneg _ oM, Int.emod_emod_of_dvd _ (Int.dvd_refl _)⟩ kno (fun w s => by exact s) ?_
  rintro t ⟨ht0, htg⟩
  refine dS ?_
  refine g8 ?_
  refine aB rfl (fun hc1 => ?_) (fun hc2 => ?_)
  .have hlt : t < dy := oT hc1
   have hm : 0 <= t * u /\ t * u < 86400 := by rcases hu with ⟨rfl, rfl, _⟩ | ⟨rfl, rfl, _⟩ | ⟨rfl, rfl, _⟩ <;> omega
   refine g18 ?_
   refine g1 ?_
   rcases bO (aI r.hour (t * u / 3600)) with ha | ha
   .refine gL (cvo (v := .bool true) rfl (fun w_ s_ => (eI r.hour (t * u / 3600) _ oM w_ (aZ s_ hin.i15)).mT (cE ha)) (g7 ?_))
    by_cases h5 : 5 <= r.aP2
    .refine rl ((dV rfl rfl).to bT) (g13 ?_)
     rcases bO (aI r.aPr (t * u / 60 % 60)) with hb | hb
     .refine gL (cvo (v := .bool true) rfl (fun w_ s_ => (eI r.aPr (t * u / 60 % 60) _ oM w_ (aZ s_ hin.i16)).mT (cE hb)) (g11 ?_))
      by_cases h6 : r.aP2 = 6
      .refine rl ((aQ rfl rfl).to eT) (g11 ?_)
       rcases bO (aI r.aPs (t * u % 60)) with hc | hc
       .refine gL (cvo (v := .bool true) rfl (fun w_ s_ => (eI r.aPs (t * u % 60) _ oM w_ (aZ s_ hin.i17)).mT (cE hc)) (zE ?_))
        exact aT (.inl rfl) rfl (aE rfl) fun w_ s_ => ⟨_, (by first | (intro h_; cases h_; done) | exact fun _ => ⟨u, dy, t, hu, ht0, hlt, by rw [hi0, hd0]; exact htg, ha, fun h => by first | exact hb | omega, fun h => by first | exact hc | omega⟩), rfl, s_.aPg⟩
       .refine gL (cvo (v := .bool false) rfl (fun w_ s_ => (eI r.aPs (t * u % 60) _ oM w_ (aZ s_ hin.i17)).mT (cE hc)) (g7 ?_))
        refine qG ?_
        refine aN (t + (Nat.gcd i0 d0 : Nat)) oM ⟨by omega, by rw [Int.add_emod_right]; exact htg⟩ kno (fun w s => by exact s)
      .refine rl ((aQ rfl rfl).to eF) (g13 ?_)
       refine oD ?_
       exact aT (.inl rfl) rfl (aE rfl) fun w_ s_ => ⟨_, (by first | (intro h_; cases h_; done) | exact fun _ => ⟨u, dy, t, hu, ht0, hlt, by rw [hi0, hd0]; exact htg, ha, fun h => by first | exact hb | omega, fun h => by first | exact hc | omega⟩), rfl, s_.aPg⟩
     .refine gL (cvo (v := .bool false) rfl (fun w_ s_ => (eI r.aPr (t * u / 60 % 60) _ oM w_ (aZ s_ hin.i16)).mT (cE hb)) (g20 ?_))
      refine qG ?_
      refine aN (t + (Nat.gcd i0 d0 : Nat)) oM ⟨by omega, by rw [Int.add_emod_right]; exact htg⟩ kno (fun w s => by exact s)
    .refine rl ((dV rfl rfl).to bF) (g18 ?_)
     by_cases h6 : r.aP2 = 6
     .refine rl ((aQ rfl rfl).to eT) (g11 ?_)
      rcases bO (aI r.aPs (t * u % 60)) with hc | hc
      .refine gL (cvo (v := .bool true) rfl (fun w_ s_ => (eI r.aPs (t * u % 60) _ oM w_ (aZ s_ hin.i17)).mT (cE hc)) (zE ?_))
       exact aT (.inl rfl) rfl (aE rfl) fun w_ s_ => ⟨_, (by first | (intro h_; cases h_; done) | exact fun _ => ⟨u, dy, t, hu, ht0, hlt, by rw [hi0, hd0]; exact htg, ha, fun h => by first | exact hb | omega, fun h => by first | exact hc | omega⟩), rfl, s_.aPg⟩
      .refine gL (cvo (v := .bool false) rfl (fun w_ s_ => (eI r.aPs (t * u % 60) _ oM w_ (aZ s_ hin.i17)).mT (cE hc)) (g7 ?_))
       refine qG ?_
       refine aN (t + (Nat.gcd i0 d0 : Nat)) oM ⟨by omega, by rw [Int.add_emod_right]; exact htg⟩ kno (fun w s => by exact s)
     .refine rl ((aQ rfl rfl).to eF) (g13 ?_)
      refine oD ?_
      exact aT (.inl rfl) rfl (aE rfl) fun w_ s_ => ⟨_, (by first | (intro h_; cases h_; done) | exact fun _ => ⟨u, dy, t, hu, ht0, hlt, by rw [hi0, hd0]; exact htg, ha, fun h => by first | exact hb | omega, fun h => by first | exact hc | omega⟩), rfl, s_.aPg⟩
   .refine gL (cvo (v := .bool false) rfl (fun w_ s_ => (eI r.hour (t * u / 3600) _ oM w_ (aZ s_ hin.i15)).mT (cE ha)) (g30 ?_))
    refine qG ?_
    refine aN (t + (Nat.gcd i0 d0 : Nat)) oM ⟨by omega, by rw [Int.add_emod_right]; exact htg⟩ kno (fun w s => by exact s)
  .refine g11 ?_
   exact aT (.inl rfl) rfl (aE rfl) fun w_ s_ => ⟨_, (by first | (intro h_; cases h_; done) | exact fun _ => ⟨u, dy, t, hu, ht0, hlt, by rw [hi0, hd0]; exact htg, ha, fun h => by first | exact hb | omega, fun h => by first | exact hc | omega⟩), rfl, s_.aPg⟩
end
open Go.RowKit Go.Fr Go.Tab
section
variable {F : Nat -> Prop} {w0 : World} {B : LN} {H : LV} {S : LS}
open Go.Fr
section
variable {P : Program} {N : Nat} {L : Fr.Loc} {F : Nat -> Prop} {w0 : World} {B : LN} {H : LV} {S : LS} {d : Nat} {ty : TypeId} {pos : String} {aft : Array Edge} {g : Option (Nat × Bool)}
def aI4 (P : Program) (t : TypeId) : Bool := match P.underlying t with
 | some .bool => true
 | _ => false
theorem aH9 {t : TypeId} (h : aI4 P t = true) : P.underlying t = some .bool := by
 unfold aI4 at h
 split at h
 .assumption
 .cases h
theorem wT {xt yt : TypeId} {x y : Operand} {m n : Bool} (hx : ev L x = some (.bool m)) (hy : ev L y = some (.bool n)) (ht : aI4 P xt = true := by kernel_rfl) : Rd P ⟨some d, .binOp .neq xt x y yt, ty, pos, aft, g⟩ N L F w0 B H S (.bool (m != n)) := fun a w k s => by
 simp [execOp, eqGuard, k.eval hx, k.eval hy, run_neq_bool w xt m n (aH9 ht), bne]
end
theorem tV {w : World} {p : Option Addr} {c : Nat} {xs : List (Int × Int)} {k : Nat} (h : Prs w (.slice p xs.length c) xs) (hk : k <= xs.length) : Prs w (.slice p k c) (xs.take k) := by
 obtain ⟨p', c', e, hc⟩ := h
 injection e with e1 _ e3
 subst e1 e3
 refine ⟨p, c, by rw [List.length_take, Nat.min_eq_left hk], fun i x hx => ?_⟩
 rw [List.getElem?_take] at hx
 split at hx
 .exact hc i x hx
 .cases hx
structure CapL (r : Rul) (x : Av) : Prop where
 c9 : r.aPz.length <= x.c9
 c10 : r.aPt.length <= x.c10
 c11 : r.aPu.length <= x.c11
 c12 : r.aPw.length <= x.c12
 c13 : r.aPx.length <= x.c13
 c14 : r.wday.length <= x.c14
 c15 : r.hour.length <= x.c15
 c16 : r.aPr.length <= x.c16
 c17 : r.aPs.length <= x.c17
 c18 : r.aPy.length <= x.c18
structure Rt1 (r : Rul) : Prop where
 aP2 : 0 <= r.aP2 /\ r.aP2 <= 6
 hs : r.aP1 = true
 start : 1 <= r.start /\ r.start < Cal.daysTo 9000 * 86400
 aPp : 1 <= r.aPp /\ r.aPp <= 1000
 aPq : 0 <= r.aPq /\ r.aPq <= 6
 count : 0 <= r.count /\ r.count <= 1000000
def Rt2 (r : Rul) : Prop := (r.aP0 = false -> r.untl = 0) /\ (r.aP0 = true -> r.count = 0 /\ 1 <= r.untl /\ r.untl < Cal.daysTo 10000 * 86400)
structure Rt3 (r : Rul) : Prop where
 h9 : jS r.aPz 1 366 true = true
 h10 : jS r.aPt 1 12 false = true
 h11 : jS r.aPu 1 31 true = true
 h12 : jS r.aPw 1 366 true = true
 h13 : jS r.aPx 1 51 true = true
 h15 : jS r.hour 0 23 false = true
 h16 : jS r.aPr 0 59 false = true
 h17 : jS r.aPs 0 59 false = true
def EOk (r : Rul) (i : Nat) (y : Int) : Prop := -80 <= y /\ y <= 200 /\ r.aP2 = 0 /\ (r.aPy.take i).any (· == y) = false
def Rt4 (r : Rul) : Prop := ∀ i y, r.aPy[i]? = some y -> EOk r i y
def Rt5 (r : Rul) : Prop := (r.aP2 ≠ 0 -> r.aPx.length = 0 /\ r.aPw.length = 0) /\ (r.aP2 = 2 -> r.aPu.length = 0)
def jD (r : Rul) : Int := if r.aP2 = 1 \/ (r.aP2 = 0 /\ 0 < r.aPt.length) then 5 else if r.aP2 = 0 then 53 else 0
def nU (r : Rul) : Int := if 0 < r.aPx.length then 0 else jD r
def DOk (r : Rul) (i : Nat) (y : Int × Int) : Prop := (∀ y0, r.wday[0]? = some y0 -> (y.2 = 0 ↔ y0.2 = 0)) /\ (0 <= y.1 /\ y.1 <= 6) /\ (-nU r <= y.2 /\ y.2 <= nU r) /\ (r.wday.take i).any (· == y) = false /\ i < 100
def Rt6 (r : Rul) : Prop := ∀ i y, r.wday[i]? = some y -> DOk r i y
def Rt7 (r : Rul) : Prop := r.aP2 = 2 -> 0 < r.aPz.length -> r.start / 86400 % 7 = r.aPq
def Rt8 (r : Rul) : Prop := 4 <= r.aP2 -> aEx r
def Rt9 (r : Rul) : Prop := r.aPz.length = 0 \/ 0 < r.aPt.length + r.aPu.length + r.aPw.length + r.aPx.length + r.wday.length + r.hour.length + r.aPr.length + r.aPs.length + r.aPy.length
structure RightP (r : Rul) : Prop where
 t1 : Rt1 r
 t2 : Rt2 r
 t3 : Rt3 r
 t4 : Rt4 r
 t5 : Rt5 r
 t6 : Rt6 r
 t7 : Rt7 r
 t8 : Rt8 r
 t9 : Rt9 r
theorem pS (r : Rul) (x : Av) (hfb : 0 <= r.aP2) (hl : LenL r) (hc : CapL r x) (w : World) (hin : InL w r x) : Calls Tryz.prog 18 #[.agg (bG r x).toArray] w fun e w' => ∃ b : Bool, (b = true -> RightP r) /\ e = .returned (.bool b) /\ Below w.heap.size w w' := by
 obtain ⟨l9, l10, l11, l12, l13, l14, l15, l16, l17, l18⟩ := hl
 have hN1 : Cal.daysTo 9000 = 3286817 := by decide
 have hN2 : Cal.daysTo 10000 = 3652059 := by decide
 have hIE : ∀ i y, r.aPy[i]? = some y -> ∃ b o, x.p18 = some ⟨b, o, none⟩ /\ w.cell? ⟨b, o + i, none⟩ = some (iV y) := by
  obtain ⟨p', c', e, hc'⟩ := hin.i18
  injection e with e1 _ _
  rw [e1]; exact hc'
 have hID : ∀ i y, r.wday[i]? = some y -> ∃ b o, x.p14 = some ⟨b, o, none⟩ /\ w.cell? ⟨b, o + 2 * i, none⟩ = some (iV y.1) /\ w.cell? ⟨b, o + 2 * i + 1, none⟩ = some (iV y.2) := by
  obtain ⟨p', c', e, hc'⟩ := hin.i14
  injection e with e1 _ _
  rw [e1]; exact hc'
 refine aF (args := [.agg (bG r x).toArray]) (L := [(0, .agg (bG r x).toArray)]) (N := 330) Tryz.func18 rfl rfl ble rfl (sS w) (g2 ?_)
 refine gL (fU 50 (cs := bG r x) dE rfl rfl rfl (fun o ho => rfl) ble (fun b1 hb1 => g3 ?_))
 refine cO (ι := (Unit)) (fun u => (Rt1 r)) (fun u => [(1, pT b1)]) (fun u => [(50, b1)]) (fun u => aL 50 0 (bG r x) ++ []) (fun u => []) ?_ ?_
 .refine g4 ?_
  by_cases h0 : 6 < r.aP2
  .refine rq ((bU rfl rfl).to bT) (g40 ?_)
   refine uC ?_
   exact gNo rfl
  .refine rq ((bU rfl rfl).to bF) (g4 ?_)
   rcases bO (r.aP1) with hh | hh
   .refine rq ((rld 50 rfl rfl rfl).to (v' := .bool true) (cB hh)) (g9 ?_)
    by_cases h1 : r.start < 1
    .refine rq ((cR rfl rfl).to bT) (g40 ?_)
     refine bK rfl rfl ?_
     refine g7 ?_
     exact gNo rfl
    .refine rq ((cR rfl rfl).to bF) (g7 ?_)
     refine cJ dE kR rfl (fun w_ s_ => eO _ oM w_) ?_
     refine g3 ?_
     by_cases h2 : Cal.daysTo 9000 * 86400 <= r.start
     .refine rq ((dV rfl rfl).to bT) (g30 ?_)
      refine qG ?_
      exact gNo rfl
     .refine rq ((dV rfl rfl).to bF) (g7 ?_)
      by_cases h3 : r.aPp < 1
      .refine rq ((cR rfl rfl).to bT) (g25 ?_)
       refine qG ?_
       exact gNo rfl
      .refine rq ((cR rfl rfl).to bF) (g7 ?_)
       by_cases h4 : 1000 < r.aPp
       .refine rq ((bU rfl rfl).to bT) (g20 ?_)
        refine qG ?_
        exact gNo rfl
       .refine rq ((bU rfl rfl).to bF) (g7 ?_)
        by_cases h5 : r.aPq < 0
        .refine rq ((cR rfl rfl).to bT) (g18 ?_)
         refine bK rfl rfl ?_
         refine g7 ?_
         exact gNo rfl
        .refine rq ((cR rfl rfl).to bF) (g7 ?_)
         by_cases h6 : 6 < r.aPq
         .refine rq ((bU rfl rfl).to bT) (zE ?_)
          exact gNo rfl
         .refine rq ((bU rfl rfl).to bF) (g7 ?_)
          by_cases h7 : r.count < 0
          .refine rq ((cR rfl rfl).to bT) (xH ?_)
           exact gNo rfl
          .refine rq ((cR rfl rfl).to bF) (g7 ?_)
           by_cases h8 : 1000000 < r.count
           .refine rq ((bU rfl rfl).to bT) (qG ?_)
            exact gNo rfl
           .refine rq ((bU rfl rfl).to bF) (g3 ?_)
            refine aU rfl rfl ?_
            refine g1 ?_
            refine aK (ι := Unit) () (⟨⟨by omega, by omega⟩, hh, ⟨by omega, by omega⟩, ⟨by omega, by omega⟩, ⟨by omega, by omega⟩, ⟨by omega, by omega⟩⟩) kns (fun w s => s)
   .refine rq ((rld 50 rfl rfl rfl).to (v' := .bool false) (cB hh)) (g40 ?_)
    refine s4 ?_
    exact gNo rfl
 rintro u t1
 refine dS ?_
 obtain ⟨hf1, hf2⟩ := t1.aP2
 obtain ⟨hs1, hs2⟩ := t1.start
 obtain ⟨hi1, hi2⟩ := t1.aPp
 refine cO (ι := (Unit)) (fun u => (Rt2 r)) (fun u => [(1, pT b1)]) (fun u => [(50, b1)]) (fun u => aL 50 0 (bG r x) ++ []) (fun u => []) ?_ ?_
 .refine g3 ?_
  rcases bO (r.aP0) with hhu | hhu
  .refine rq ((rld 50 rfl rfl rfl).to (v' := .bool true) (cB hhu)) (g10 ?_)
   refine rq ((rld 50 rfl rfl rfl).to (v' := .bool true) (cB hhu)) (g7 ?_)
   by_cases h1 : 0 < r.count
   .refine rq ((bU rfl rfl).to bT) (g20 ?_)
    refine yZ9 ?_
    exact gNo rfl
   .refine rq ((bU rfl rfl).to bF) (g7 ?_)
    by_cases h2 : r.untl < 1
    .refine rq ((cR rfl rfl).to bT) (g16 ?_)
     refine bK rfl rfl ?_
     refine g7 ?_
     exact gNo rfl
    .refine rq ((cR rfl rfl).to bF) (g9 ?_)
     refine cJ dE kR rfl (fun w_ s_ => eO _ oM w_) ?_
     refine g3 ?_
     by_cases h3 : Cal.daysTo 10000 * 86400 <= r.untl
     .refine rq ((dV rfl rfl).to bT) (s4 ?_)
      exact gNo rfl
     .refine rq ((dV rfl rfl).to bF) (yZ9 ?_)
      refine aK (ι := Unit) () (⟨fun h_ => (by rw [hhu] at h_; cases h_), fun _ => ⟨by have := t1.count; omega, by omega, by omega⟩⟩) kns (fun w s => s)
  .refine rq ((rld 50 rfl rfl rfl).to (v' := .bool false) (cB hhu)) (g7 ?_)
   by_cases h0 : r.untl ≠ 0
   .refine rq ((cF rfl rfl).to (v' := .bool true) (cB (iW oM))) (g20 ?_)
    refine l5 ?_
    exact gNo rfl
   .refine rq ((cF rfl rfl).to (v' := .bool false) (cB (jA oM))) (g5 ?_)
    refine rq ((rld 50 rfl rfl rfl).to (v' := .bool false) (cB hhu)) (g20 ?_)
    refine g2 ?_
    refine aU rfl rfl ?_
    refine g1 ?_
    refine aK (ι := Unit) () (⟨fun _ => by omega, fun h_ => (by rw [hhu] at h_; cases h_)⟩) kns (fun w s => s)
 rintro u t2
 refine dS ?_
 refine cO (ι := (Unit)) (fun u => (Rt3 r)) (fun u => [(1, pT b1)]) (fun u => [(50, b1)]) (fun u => aL 50 0 (bG r x) ++ []) (fun u => []) ?_ ?_
 .refine g4 ?_
  rcases bO (jS r.aPz 1 366 true) with q9 | q9
  .refine gL (cvo (v := .bool true) rfl (fun w_ s_ => (dG r.aPz x.p9 x.c9 1 366 true hc.c9 oM oM oM w_ (aZ s_ hin.i9)).mT (cE q9)) (g7 ?_))
   rcases bO (jS r.aPt 1 12 false) with q10 | q10
   .refine gL (cvo (v := .bool true) rfl (fun w_ s_ => (dG r.aPt x.p10 x.c10 1 12 false hc.c10 oM oM oM w_ (aZ s_ hin.i10)).mT (cE q10)) (g9 ?_))
    rcases bO (jS r.aPu 1 31 true) with q11 | q11
    .refine gL (cvo (v := .bool true) rfl (fun w_ s_ => (dG r.aPu x.p11 x.c11 1 31 true hc.c11 oM oM oM w_ (aZ s_ hin.i11)).mT (cE q11)) (g9 ?_))
     rcases bO (jS r.aPw 1 366 true) with q12 | q12
     .refine gL (cvo (v := .bool true) rfl (fun w_ s_ => (dG r.aPw x.p12 x.c12 1 366 true hc.c12 oM oM oM w_ (aZ s_ hin.i12)).mT (cE q12)) (g9 ?_))
      rcases bO (jS r.aPx 1 51 true) with q13 | q13
      .refine gL (cvo (v := .bool true) rfl (fun w_ s_ => (dG r.aPx x.p13 x.c13 1 51 true hc.c13 oM oM oM w_ (aZ s_ hin.i13)).mT (cE q13)) (g9 ?_))
       rcases bO (jS r.hour 0 23 false) with q15 | q15
       .refine gL (cvo (v := .bool true) rfl (fun w_ s_ => (dG r.hour x.p15 x.c15 0 23 false hc.c15 oM oM oM w_ (aZ s_ hin.i15)).mT (cE q15)) (g9 ?_))
        rcases bO (jS r.aPr 0 59 false) with q16 | q16
        .refine gL (cvo (v := .bool true) rfl (fun w_ s_ => (dG r.aPr x.p16 x.c16 0 59 false hc.c16 oM oM oM w_ (aZ s_ hin.i16)).mT (cE q16)) (g9 ?_))
         rcases bO (jS r.aPs 0 59 false) with q17 | q17
         .refine gL (cvo (v := .bool true) rfl (fun w_ s_ => (dG r.aPs x.p17 x.c17 0 59 false hc.c17 oM oM oM w_ (aZ s_ hin.i17)).mT (cE q17)) (yZ7 ?_))
          refine aK (ι := Unit) () (⟨q9, q10, q11, q12, q13, q15, q16, q17⟩) kns (fun w s => s)
         .refine gL (cvo (v := .bool false) rfl (fun w_ s_ => (dG r.aPs x.p17 x.c17 0 59 false hc.c17 oM oM oM w_ (aZ s_ hin.i17)).mT (cE q17)) (pA ?_))
          exact gNo rfl
        .refine gL (cvo (v := .bool false) rfl (fun w_ s_ => (dG r.aPr x.p16 x.c16 0 59 false hc.c16 oM oM oM w_ (aZ s_ hin.i16)).mT (cE q16)) (g11 ?_))
         refine bK rfl rfl ?_
         refine g7 ?_
         exact gNo rfl
       .refine gL (cvo (v := .bool false) rfl (fun w_ s_ => (dG r.hour x.p15 x.c15 0 23 false hc.c15 oM oM oM w_ (aZ s_ hin.i15)).mT (cE q15)) (g16 ?_))
        refine yZ9 ?_
        exact gNo rfl
      .refine gL (cvo (v := .bool false) rfl (fun w_ s_ => (dG r.aPx x.p13 x.c13 1 51 true hc.c13 oM oM oM w_ (aZ s_ hin.i13)).mT (cE q13)) (g20 ?_))
       refine qG ?_
       exact gNo rfl
     .refine gL (cvo (v := .bool false) rfl (fun w_ s_ => (dG r.aPw x.p12 x.c12 1 366 true hc.c12 oM oM oM w_ (aZ s_ hin.i12)).mT (cE q12)) (g25 ?_))
      refine l5 ?_
      exact gNo rfl
    .refine gL (cvo (v := .bool false) rfl (fun w_ s_ => (dG r.aPu x.p11 x.c11 1 31 true hc.c11 oM oM oM w_ (aZ s_ hin.i11)).mT (cE q11)) (g30 ?_))
     refine pA ?_
     exact gNo rfl
   .refine gL (cvo (v := .bool false) rfl (fun w_ s_ => (dG r.aPt x.p10 x.c10 1 12 false hc.c10 oM oM oM w_ (aZ s_ hin.i10)).mT (cE q10)) (g40 ?_))
    refine yZ9 ?_
    exact gNo rfl
  .refine gL (cvo (v := .bool false) rfl (fun w_ s_ => (dG r.aPz x.p9 x.c9 1 366 true hc.c9 oM oM oM w_ (aZ s_ hin.i9)).mT (cE q9)) (g40 ?_))
   refine pA ?_
   exact gNo rfl
 rintro u t3
 refine dS ?_
 refine cO (ι := (Unit)) (fun u => (Rt4 r)) (fun u => [(1, pT b1)]) (fun u => [(50, b1)]) (fun u => aL 50 0 (bG r x) ++ []) (fun u => []) ?_ ?_
 .refine g9 ?_
  refine aY (ι := (Nat)) (fun k => r.aPy.length - k) (fun k => (k <= r.aPy.length) /\ (∀ i y, i < k -> r.aPy[i]? = some y -> EOk r i y)) (fun k => [(1, pT b1), (135, .slice x.p18 r.aPy.length x.c18), (136, iV (r.aPy.length)), (137, iV k)]) (fun k => [(50, b1)]) (fun k => aL 50 0 (bG r x) ++ []) (fun k => []) 0 ⟨Nat.zero_le _, fun i y h => absurd h (Nat.not_lt_zero _)⟩ kns (fun w s => by exact s) ?_
  rintro k ⟨hk, hE⟩
  refine dS ?_
  refine g6 ?_
  refine aB rfl (fun hc1 => ?_) (fun hc2 => ?_)
  .have hlt : k < r.aPy.length := by have := oT hc1; omega
   obtain ⟨y, hy⟩ : ∃ y, r.aPy[k]? = some y := ⟨_, List.getElem?_eq_getElem hlt⟩
   obtain ⟨b_, o_, hp0, hcell⟩ := hIE k y hy
   have hI18 : Ints w (.slice (some ⟨b_, o_, none⟩) r.aPy.length x.c18) r.aPy := hp0 ▸ hin.i18
   refine g7 ?_
   refine rl (aC (e := 3) (n := 1) kR (congrArg (fun p => some (Value.slice p _ _)) hp0) rfl oM oM) (rZ7 (gH rfl (v := iV y) (by rw [<- hcell]; congr 2; omega) (fun h => h) kR) ?_)
   by_cases h0 : y < -80
   .refine rl ((cR rfl rfl).to bT) (g18 ?_)
    refine pA ?_
    exact gNo rfl
   .refine rZ4 ((cR rfl rfl).to bF) ?_
    by_cases h1 : 200 < y
    .refine rl ((bU rfl rfl).to bT) (g16 ?_)
     refine l5 ?_
     exact gNo rfl
    .refine rl ((bU rfl rfl).to bF) (g9 ?_)
     refine rZ3 ((eN (e := 3) (n := 1) kR rfl rfl oM (by have := hc.c18; omega)).to (v' := .slice (some ⟨b_, o_, none⟩) k x.c18) (by rw [hp0]; rfl)) ?_
     rcases bO ((r.aPy.take k).any (· == y)) with hno | hno
     .refine gL (cvo (v := .bool true) rfl (fun w_ s_ => (bA (r.aPy.take k) y _ (by rw [List.length_take]; omega) w_ (rF (aZ s_ hI18) (Nat.le_of_lt hlt))).mT (cE hno)) (g8 ?_))
      refine l5 ?_
      exact gNo rfl
     .refine gL (cvo (v := .bool false) rfl (fun w_ s_ => (bA (r.aPy.take k) y _ (by rw [List.length_take]; omega) w_ (rF (aZ s_ hI18) (Nat.le_of_lt hlt))).mT (cE hno)) (g7 ?_))
      by_cases h2 : r.aP2 ≠ 0
      .refine wA ((cF rfl rfl).to (v' := .bool true) (cB (iW oM))) ?_
       exact gNo rfl
      .refine sA ((cF rfl rfl).to (v' := .bool false) (cB (jA oM))) ?_
       refine aN (k + 1) oM ⟨by omega, fun i y' hi_ hy_ => by
         rcases Nat.lt_or_ge i k with h_ | h_
         .exact hE i y' h_ hy_
         .obtain rfl : i = k := by omega
          obtain rfl : y' = y := by rw [hy] at hy_; injection hy_ with e_; exact e_.symm
          exact ⟨by omega, by omega, by omega, hno⟩⟩ kns (fun w s => by exact s)
  .obtain rfl : k = r.aPy.length := by have := oF hc2; omega
   refine g4 ?_
   refine aK (ι := Unit) () (fun i y hy => hE i y (by have := (List.getElem?_eq_some_iff.1 hy).1; omega) hy) kns (fun w s => s)
 rintro u t4
 refine dS ?_
 refine cO (ι := (Unit)) (fun u => (Rt5 r)) (fun u => [(1, pT b1)]) (fun u => [(50, b1)]) (fun u => aL 50 0 (bG r x) ++ []) (fun u => []) ?_ ?_
 .refine g4 ?_
  by_cases h0 : r.aP2 ≠ 0
  .refine rZ8 ((cF rfl rfl).to (v' := .bool true) (cB (iW oM))) ?_
   by_cases h1 : 0 < r.aPx.length
   .refine rl ((bU rfl rfl).to bT) (g20 ?_)
    refine g2 ?_
    refine bK rfl rfl ?_
    refine g7 ?_
    exact gNo rfl
   .refine rl ((bU rfl rfl).to bF) (g9 ?_)
    by_cases h2 : 0 < r.aPw.length
    .refine rl ((bU rfl rfl).to bT) (g16 ?_)
     refine bK rfl rfl ?_
     refine g7 ?_
     exact gNo rfl
    .refine rl ((bU rfl rfl).to bF) (g9 ?_)
     by_cases h3 : r.aP2 = 2
     .refine rl ((aQ rfl rfl).to eT) (g9 ?_)
      by_cases h4 : 0 < r.aPu.length
      .refine sQ ((bU rfl rfl).to bT) ?_
       exact gNo rfl
      .refine rl ((bU rfl rfl).to bF) (yZ7 ?_)
       refine aK (ι := Unit) () (⟨fun h_ => by omega, fun h_ => by omega⟩) kns (fun w s => s)
     .refine sQ ((aQ rfl rfl).to eF) ?_
      refine aK (ι := Unit) () (⟨fun h_ => by omega, fun h_ => by omega⟩) kns (fun w s => s)
  .refine rl ((cF rfl rfl).to (v' := .bool false) (cB (jA oM))) (g18 ?_)
   by_cases h3 : r.aP2 = 2
   .refine rl ((aQ rfl rfl).to eT) (g9 ?_)
    by_cases h4 : 0 < r.aPu.length
    .refine sQ ((bU rfl rfl).to bT) ?_
     exact gNo rfl
    .refine rl ((bU rfl rfl).to bF) (yZ7 ?_)
     refine aK (ι := Unit) () (⟨fun h_ => by omega, fun h_ => by omega⟩) kns (fun w s => s)
   .refine sQ ((aQ rfl rfl).to eF) ?_
    refine aK (ι := Unit) () (⟨fun h_ => by omega, fun h_ => by omega⟩) kns (fun w s => s)
 rintro u t5
 refine dS ?_
 refine cO (ι := (Unit)) (fun u => (Rt6 r)) (fun u => [(1, pT b1)]) (fun u => [(50, b1)]) (fun u => aL 50 0 (bG r x) ++ []) (fun u => []) ?_ ?_
 .refine g9 ?_
  refine aY (ι := (Nat)) (fun k => r.wday.length - k) (fun k => (k <= r.wday.length) /\ (∀ i y, i < k -> r.wday[i]? = some y -> DOk r i y)) (fun k => [(1, pT b1), (189, .slice x.p14 r.wday.length x.c14), (190, iV (r.wday.length)), (191, iV k)]) (fun k => [(50, b1)]) (fun k => aL 50 0 (bG r x) ++ []) (fun k => []) 0 ⟨Nat.zero_le _, fun i y h => absurd h (Nat.not_lt_zero _)⟩ kns (fun w s => by exact s) ?_
  rintro k ⟨hk, hE⟩
  refine dS ?_
  refine g6 ?_
  refine aB rfl (fun hc1 => ?_) (fun hc2 => ?_)
  .have hlt : k < r.wday.length := by have := oT hc1; omega
   obtain ⟨y, hy⟩ : ∃ y, r.wday[k]? = some y := ⟨_, List.getElem?_eq_getElem hlt⟩
   obtain ⟨y0, hy0⟩ : ∃ y0, r.wday[0]? = some y0 := ⟨_, List.getElem?_eq_getElem (show 0 < r.wday.length by omega)⟩
   obtain ⟨b_, o_, hp0, hca, hcb⟩ := hID k y hy
   obtain ⟨b0, o0, hp00, hca0, hcb0⟩ := hID 0 y0 hy0
   have hI14 : Prs w (.slice (some ⟨b_, o_, none⟩) r.wday.length x.c14) r.wday := hp0 ▸ hin.i14
   refine g7 ?_
   refine rl (aC (e := 43) (n := 2) kR (congrArg (fun p => some (Value.slice p _ _)) hp0) rfl oM oM) (rl (iK rfl (by rw [<- hca]; congr 2; omega) (by rw [<- hcb]; congr 2; omega) (fun h => h) kR) (gL (eJ 51 (cs := [iV 0, iV 0]) dE kR rfl (fun o ho => by repeat (first | rfl | rw [aJ dE ho _ _ ble])) ble (fun b2_ hb2_ => g1 ?_))))
   refine gL (sta 51 rfl rfl rfl rfl (g7 ?_))
   refine cO (ι := (Int)) (fun m1 => (m1 = jD r)) (fun m1 => [(1, pT b1), (189, .slice x.p14 r.wday.length x.c14), (190, iV (r.wday.length)), (191, iV k), (5, iV k), (6, pT b2_), (7, iV m1)]) (fun m1 => [(51, b2_), (50, b1)]) (fun m1 => (dL 51 0 #[iV y.1, iV y.2].toList (aL 51 0 [iV 0, iV 0] ++ (aL 50 0 (bG r x) ++ [])))) (fun m1 => []) ?_ ?_
   .refine g4 ?_
    by_cases h0 : r.aP2 = 1
    .refine rl ((aQ rfl rfl).to eT) (uC ?_)
     refine aK (ι := Int) (5) (by unfold jD; rw [if_pos oM]) kno (fun w s => s)
    .refine rZ6 ((aQ rfl rfl).to eF) ?_
     by_cases h1 : r.aP2 = 0
     .refine rl ((aQ rfl rfl).to eT) (g9 ?_)
      by_cases h2 : 0 < r.aPt.length
      .refine wZ9 ((bU rfl rfl).to bT) ?_
       refine aK (ι := Int) (5) (by unfold jD; rw [if_pos oM]) kno (fun w s => s)
      .refine sQ ((bU rfl rfl).to bF) ?_
       refine aB rfl (fun hc1 => ?_) (fun hc2 => ?_)
       .have h3 : r.aP2 = 0 := beq_iff_eq.1 hc1
        refine g3 ?_
        refine aK (ι := Int) (53) (by unfold jD; rw [if_neg oM, if_pos h3]) kno (fun w s => s)
       .have h3 : r.aP2 ≠ 0 := beq_eq_false_iff_ne.1 hc2
        refine g1 ?_
        refine aK (ι := Int) (0) (by unfold jD; rw [if_neg oM, if_neg h3]) kno (fun w s => s)
     .refine rl ((aQ rfl rfl).to eF) (g11 ?_)
      refine aU rfl rfl ?_
      refine g7 ?_
      refine aB rfl (fun hc1 => ?_) (fun hc2 => ?_)
      .have h3 : r.aP2 = 0 := beq_iff_eq.1 hc1
       refine g3 ?_
       refine aK (ι := Int) (53) (by unfold jD; rw [if_neg oM, if_pos h3]) kno (fun w s => s)
      .have h3 : r.aP2 ≠ 0 := beq_eq_false_iff_ne.1 hc2
       refine g1 ?_
       refine aK (ι := Int) (0) (by unfold jD; rw [if_neg oM, if_neg h3]) kno (fun w s => s)
   rintro m1 hm1
   refine dS ?_
   have hbm1 : 0 <= m1 /\ m1 <= 53 := by rw [hm1]; unfold jD; repeat (first | omega | split)
   refine cO (ι := (Int)) (fun m => (m = nU r)) (fun m => [(1, pT b1), (189, .slice x.p14 r.wday.length x.c14), (190, iV (r.wday.length)), (191, iV k), (5, iV k), (6, pT b2_), (7, iV m)]) (fun m => [(51, b2_), (50, b1)]) (fun m => (dL 51 0 #[iV y.1, iV y.2].toList (aL 51 0 [iV 0, iV 0] ++ (aL 50 0 (bG r x) ++ [])))) (fun m => []) ?_ ?_
   .refine g8 ?_
    refine aB rfl (fun hc1 => ?_) (fun hc2 => ?_)
    .have h4 : 0 < r.aPx.length := by have := oT hc1; omega
     refine g3 ?_
     refine aK (ι := Int) (0) (by unfold nU; rw [if_pos h4]) kno (fun w s => s)
    .have h4 : ¬ 0 < r.aPx.length := by have := oF hc2; omega
     refine g1 ?_
     refine aK (ι := Int) (m1) (by unfold nU; rw [if_neg h4]; exact hm1) kno (fun w s => s)
   rintro m hm
   refine dS ?_
   have hbm : 0 <= m /\ m <= 53 := by rw [hm]; unfold nU jD; repeat (first | omega | split)
   refine g5 ?_
   by_cases hz : y.2 = 0
   .refine rq ((aQ rfl rfl).to eT) (g2 ?_)
    refine rq (aC (e := 43) (n := 2) kR (congrArg (fun p => some (Value.slice p _ _)) hp00) rfl oM oM) (g1 ?_)
    refine rq (gH rfl (v := iV y0.2) (by rw [<- hcb0]; congr 2 <;> omega) (fun h => h) kR) ?_
    by_cases hz0 : y0.2 = 0
    .refine rq ((aQ rfl rfl).to eT) (rq ((wT rfl rfl).to (v' := .bool false) rfl) (yZ9 ?_))
     by_cases g0 : y.1 < 0
     .refine rq ((cR rfl rfl).to bT) (g30 ?_)
      refine oD ?_
      exact gNo rfl
     .refine rq ((cR rfl rfl).to bF) (g6 ?_)
      by_cases g1_ : 6 < y.1
      .refine rq ((bU rfl rfl).to bT) (g25 ?_)
       refine s4 ?_
       exact gNo rfl
      .refine rq ((bU rfl rfl).to bF) (g11 ?_)
       by_cases g2_ : y.2 < -m
       .refine rq ((cR rfl rfl).to bT) (g20 ?_)
        refine pA ?_
        exact gNo rfl
       .refine rq ((cR rfl rfl).to bF) (g9 ?_)
        by_cases g3_ : m < y.2
        .refine rq ((bU rfl rfl).to bT) (g15 ?_)
         refine l5 ?_
         exact gNo rfl
        .refine rq ((bU rfl rfl).to bF) (g9 ?_)
         refine rq ((eN (e := 43) (n := 2) kR rfl rfl oM (by have := hc.c14; omega)).to (v' := .slice (some ⟨b_, o_, none⟩) k x.c14) (by rw [hp0]; rfl)) (g1 ?_)
         refine rq (aW 51 rfl rfl rfl rfl kR dE) (g1 ?_)
         rcases bO ((r.wday.take k).any (· == y)) with hno | hno
         .refine cJ (v := .bool true) dE kR rfl (fun w_ s_ => (jX (r.wday.take k) y _ (by rw [List.length_take]; omega) w_ (tV (qV s_ hI14) (Nat.le_of_lt hlt))).mT (cE hno)) ?_
          refine g7 ?_
          refine l5 ?_
          exact gNo rfl
         .refine cJ (v := .bool false) dE kR rfl (fun w_ s_ => (jX (r.wday.take k) y _ (by rw [List.length_take]; omega) w_ (tV (qV s_ hI14) (Nat.le_of_lt hlt))).mT (cE hno)) ?_
          refine g5 ?_
          by_cases g4_ : 100 <= (k : Int)
          .refine rq ((dV rfl rfl).to bT) (s4 ?_)
           exact gNo rfl
          .refine rq ((dV rfl rfl).to bF) (qG ?_)
           refine aN (k + 1) oM ⟨by omega, fun i y' hi_ hy_ => by
             rcases Nat.lt_or_ge i k with h_ | h_
             .exact hE i y' h_ hy_
             .obtain rfl : i = k := by omega
              obtain rfl : y' = y := by rw [hy] at hy_; injection hy_ with e_; exact e_.symm
              exact ⟨fun y1 h1 => by rw [hy0] at h1; injection h1 with h1; rw [<- h1]; omega, by omega, by rw [hm, hm1] at *; omega, hno, by omega⟩⟩ kns (fun w s => by exact (s.low 51 (by exact ⟨fun k hk => by rw [aA oM]; rfl, fun k hk o ho => by rw [aJ oM ho _ _ ble]; rfl, fun _ _ => rfl⟩) agx agx agx))
    .refine rq ((aQ rfl rfl).to eF) (rq ((wT rfl rfl).to (v' := .bool true) rfl) (s4 ?_))
     exact gNo rfl
   .refine rq ((aQ rfl rfl).to eF) (g2 ?_)
    refine rq (aC (e := 43) (n := 2) kR (congrArg (fun p => some (Value.slice p _ _)) hp00) rfl oM oM) (g1 ?_)
    refine rq (gH rfl (v := iV y0.2) (by rw [<- hcb0]; congr 2 <;> omega) (fun h => h) kR) ?_
    by_cases hz0 : y0.2 = 0
    .refine rq ((aQ rfl rfl).to eT) (rq ((wT rfl rfl).to (v' := .bool true) rfl) (s4 ?_))
     exact gNo rfl
    .refine rq ((aQ rfl rfl).to eF) (rq ((wT rfl rfl).to (v' := .bool false) rfl) (yZ9 ?_))
     by_cases g0 : y.1 < 0
     .refine rq ((cR rfl rfl).to bT) (g30 ?_)
      refine oD ?_
      exact gNo rfl
     .refine rq ((cR rfl rfl).to bF) (g6 ?_)
      by_cases g1_ : 6 < y.1
      .refine rq ((bU rfl rfl).to bT) (g25 ?_)
       refine s4 ?_
       exact gNo rfl
      .refine rq ((bU rfl rfl).to bF) (g11 ?_)
       by_cases g2_ : y.2 < -m
       .refine rq ((cR rfl rfl).to bT) (g20 ?_)
        refine pA ?_
        exact gNo rfl
       .refine rq ((cR rfl rfl).to bF) (g9 ?_)
        by_cases g3_ : m < y.2
        .refine rq ((bU rfl rfl).to bT) (g15 ?_)
         refine l5 ?_
         exact gNo rfl
        .refine rq ((bU rfl rfl).to bF) (g9 ?_)
         refine rq ((eN (e := 43) (n := 2) kR rfl rfl oM (by have := hc.c14; omega)).to (v' := .slice (some ⟨b_, o_, none⟩) k x.c14) (by rw [hp0]; rfl)) (g1 ?_)
         refine rq (aW 51 rfl rfl rfl rfl kR dE) (g1 ?_)
         rcases bO ((r.wday.take k).any (· == y)) with hno | hno
         .refine cJ (v := .bool true) dE kR rfl (fun w_ s_ => (jX (r.wday.take k) y _ (by rw [List.length_take]; omega) w_ (tV (qV s_ hI14) (Nat.le_of_lt hlt))).mT (cE hno)) ?_
          refine g7 ?_
          refine l5 ?_
          exact gNo rfl
         .refine cJ (v := .bool false) dE kR rfl (fun w_ s_ => (jX (r.wday.take k) y _ (by rw [List.length_take]; omega) w_ (tV (qV s_ hI14) (Nat.le_of_lt hlt))).mT (cE hno)) ?_
          refine g5 ?_
          by_cases g4_ : 100 <= (k : Int)
          .refine rq ((dV rfl rfl).to bT) (s4 ?_)
           exact gNo rfl
          .refine rq ((dV rfl rfl).to bF) (qG ?_)
           refine aN (k + 1) oM ⟨by omega, fun i y' hi_ hy_ => by
             rcases Nat.lt_or_ge i k with h_ | h_
             .exact hE i y' h_ hy_
             .obtain rfl : i = k := by omega
              obtain rfl : y' = y := by rw [hy] at hy_; injection hy_ with e_; exact e_.symm
              exact ⟨fun y1 h1 => by rw [hy0] at h1; injection h1 with h1; rw [<- h1]; omega, by omega, by rw [hm, hm1] at *; omega, hno, by omega⟩⟩ kns (fun w s => by exact (s.low 51 (by exact ⟨fun k hk => by rw [aA oM]; rfl, fun k hk o ho => by rw [aJ oM ho _ _ ble]; rfl, fun _ _ => rfl⟩) agx agx agx))
  .obtain rfl : k = r.wday.length := by have := oF hc2; omega
   refine g4 ?_
   refine aK (ι := Unit) () (fun i y hy => hE i y (by have := (List.getElem?_eq_some_iff.1 hy).1; omega) hy) kns (fun w s => s)
 rintro u t6
 refine dS ?_
 refine cO (ι := (Unit)) (fun u => (Rt7 r)) (fun u => [(1, pT b1)]) (fun u => [(50, b1)]) (fun u => aL 50 0 (bG r x) ++ []) (fun u => []) ?_ ?_
 .refine g4 ?_
  by_cases h0 : r.aP2 = 2
  .refine rq ((aQ rfl rfl).to eT) (g8 ?_)
   by_cases h1 : 0 < r.aPz.length
   .refine rq ((bU rfl rfl).to bT) (g9 ?_)
    refine cJ dE kR rfl (fun w_ s_ => jG _ oM w_) ?_
    refine g5 ?_
    by_cases h2 : r.start / 86400 % 7 ≠ r.aPq
    .refine rq ((cF rfl rfl).to (v' := .bool true) (cB (iW oM))) (qG ?_)
     exact gNo rfl
    .refine rq ((cF rfl rfl).to (v' := .bool false) (cB (jA oM))) (g3 ?_)
     refine aU rfl rfl ?_
     refine g1 ?_
     refine aK (ι := Unit) () (fun _ _ => by omega) kns (fun w s => s)
   .refine rq ((bU rfl rfl).to bF) (oD ?_)
    refine aK (ι := Unit) () (fun _ h_ => absurd h_ h1) kns (fun w s => s)
  .refine rq ((aQ rfl rfl).to eF) (g16 ?_)
   refine g1 ?_
   refine aU rfl rfl ?_
   refine g1 ?_
   refine aK (ι := Unit) () (fun h_ => absurd h_ h0) kns (fun w s => s)
 rintro u t7
 refine dS ?_
 refine cO (ι := (Unit)) (fun u => (Rt8 r)) (fun u => [(1, pT b1)]) (fun u => [(50, b1)]) (fun u => aL 50 0 (bG r x) ++ []) (fun u => []) ?_ ?_
 .refine g4 ?_
  by_cases h0 : 4 <= r.aP2
  .refine rZ2 ((dV rfl rfl).to bT) ?_
   refine rZ1 ((dC 50 (cs := bG r x) rfl rfl (eD (bG r x) 0 ble) ble kR)) ?_
   refine gL (cbx (fun b : Bool => .bool b) (fun b => b = true -> aEx r) rfl (fun w_ s_ => aDu r x oM t1.aPp oM ⟨l9, l10, l11, l12, l13, l14, l15, l16, l17, l18⟩ w_ (InL.see s_ hin)) (fun mb hmb => g1 ?_))
   rcases bO ((!mb)) with hm | hm
   .refine sA ((gX rfl).to (v' := .bool true) (cB hm)) ?_
    exact gNo rfl
   .refine rl ((gX rfl).to (v' := .bool false) (cB hm)) (g3 ?_)
    refine aU rfl rfl ?_
    refine g1 ?_
    refine aK (ι := Unit) () (fun _ => hmb (by simpa using hm)) kns (fun w s => s)
  .refine wZ9 ((dV rfl rfl).to bF) ?_
   refine aK (ι := Unit) () (fun h_ => absurd h_ h0) kns (fun w s => s)
 rintro u t8
 refine dS ?_
 refine g40 ?_
 refine g5 ?_
 by_cases h0 : r.aPz.length = 0
 .refine rZ8 ((aQ rfl rfl).to eT) ?_
  exact aT (.inl rfl) rfl (aE rfl) fun w_ s_ => ⟨_, (by first | (intro h_; cases h_; done) | exact fun _ => ⟨t1, t2, t3, t4, t5, t6, t7, t8, .inl h0⟩), rfl, s_.aPg⟩
 .refine rZ4 ((aQ rfl rfl).to eF) ?_
  by_cases h1 : 0 < (r.aPt.length : Int) + r.aPu.length + r.aPw.length + r.aPx.length + r.wday.length + r.hour.length + r.aPr.length + r.aPs.length + r.aPy.length
  .refine rZ5 ((bU rfl rfl).to bT) ?_
   exact aT (.inl rfl) rfl (aE rfl) fun w_ s_ => ⟨_, (by first | (intro h_; cases h_; done) | exact fun _ => ⟨t1, t2, t3, t4, t5, t6, t7, t8, .inr oM⟩), rfl, s_.aPg⟩
  .refine rZ5 ((bU rfl rfl).to bF) ?_
   exact gNo rfl
open Go.Md
def cM (c st en most : Int) : List Int -> List Int -> List Int × Bool
 | o, [] => (o, true)
 | o, t :: l => if t < st then cM c st en most o l else if (o.length : Int) = most \/ (0 < c /\ (o.length : Int) = c) \/ en < t then (o, false) else cM c st en most (o ++ [t]) l
def jR (c most : Int) (n : Nat) : Bool := decide ((n : Int) < most) && (c == 0 || decide ((n : Int) < c))
def dW (r : Rul) (st en most : Int) (o l : List Int) : List Int × Bool := ((cM r.count st en most o (dY l r.aPz)).1, (cM r.count st en most o (dY l r.aPz)).2 && jR r.count most (cM r.count st en most o (dY l r.aPz)).1.length)
theorem kC (c st en most : Int) : ∀ (l o : List Int), (o.length : Int) <= most -> ((cM c st en most o l).1.length : Int) <= most
 | [], o, h => h
 | t :: l, o, h => by
  unfold cM
  split
  .exact kC c st en most l o h
  .split
   .exact h
   .exact kC c st en most l _ (by rw [List.length_append]; simp only [List.length_singleton]; omega)
theorem aCj (l at_ : List Int) : (dY l at_).length <= l.length := by
 unfold dY
 split
 .exact Nat.le_refl _
 .exact aIi _ _ _
theorem xV (c st en most : Int) (o : List Int) {L : List Int} {k : Nat} {y : Int} (hy : L[k]? = some y) : cM c st en most o (L.drop k) = if y < st then cM c st en most o (L.drop (k + 1)) else if (o.length : Int) = most \/ (0 < c /\ (o.length : Int) = c) \/ en < y then (o, false) else cM c st en most (o ++ [y]) (L.drop (k + 1)) := by
 obtain ⟨hk, rfl⟩ := List.getElem?_eq_some_iff.1 hy
 rw [List.drop_eq_getElem_cons hk]
 rfl
theorem kH {P : Program} {N : Nat} {L : Fr.Loc} {d : Nat} {ty : TypeId} {pos : String} {aft : Array Edge} {g : Option (Nat × Bool)} (j : Nat) {t : TypeId} {x : Operand} {b off len n cap : Nat} {e : TypeId} {y : Int} {xs : List Int} (hx : ev L x = some (.pointer (some ⟨b, off, none⟩))) (hr : lkp j S = some ⟨sL b len cap, e, 1, n, xs.map iV⟩) (hv : xs[off]? = some y) (ht : oU P t = true) : Rd P ⟨some d, .load t x, ty, pos, aft, g⟩ N L F w0 B H S (iV y) :=
 bQ j hx hr rfl (by rw [List.getElem?_map, hv]; rfl) ht
theorem qB {r : Rul} {x : Av} {b1 b4 b8 b9 b10 : Nat} (hB0 : lkp 50 B = some b1) (hB1 : lkp 51 B = some b4) (hB2 : lkp 52 B = some b8) (hB3 : lkp 53 B = some b9) (hB4 : lkp 54 B = some b10) {most st en : Int} (h505 : lkp (ky 50 5) H = some (iV r.count)) (h508 : lkp (ky 50 8) H = some (.slice x.p9 r.aPz.length x.c9)) (h51 : lkp (ky 51 0) H = some (iV most)) (h52 : lkp (ky 52 0) H = some (iV st)) (h53 : lkp (ky 53 0) H = some (iV en))
  {p0 : Option Addr} {c0 : Nat} {o0 : List Int} (h54 : lkp (ky 54 0) H = some (.slice p0 o0.length c0)) (hS5 : lkp 55 S = some ⟨.slice p0 o0.length c0, 2, 1, o0.length, (o0.map iV)⟩) {pl : Option Addr} {cl : Nat} {l : List Int} (hS6 : lkp 56 S = some ⟨.slice pl l.length cl, 2, 1, l.length, (l.map iV)⟩) (lim : Lim 57 B H S) (hm : (o0.length : Int) <= most /\ most <= 1000000) (hll : l.length <= 1000000000) (hsp : ∀ w, Sees F w0 B H S w -> Ints w (.slice x.p9 r.aPz.length x.c9) r.aPz) (l9 : r.aPz.length <= 2147483647) : ∀ w, Sees F w0 B H S w -> Calls Tryz.prog 41 #[.slice pl l.length cl, pT b1, pT b8, pT b10, pT b4, pT b9] w fun e w' => ∃ p' c', e = .returned (.bool (dW r st en most o0 l).2) /\ Sees F w0 B ((ky 54 0, .slice p' (dW r st en most o0 l).1.length c') :: H) ((55, ⟨.slice p' (dW r st en most o0 l).1.length c', 2, 1, (dW r st en most o0 l).1.length, ((dW r st en most o0 l).1.map iV)⟩) :: S) w' := by
 intro w s
 refine aF (args := [.slice pl l.length cl, pT b1, pT b8, pT b10, pT b4, pT b9]) (L := [(0, .slice pl l.length cl), (1, pT b1), (2, pT b8), (3, pT b10), (4, pT b4), (5, pT b9)]) (N := 64) Tryz.func41 rfl rfl ble rfl s (g5 ?_)
 have hpl_ := aCj l r.aPz
 by_cases h0 : r.aPz.length = 0
 .refine g6 ?_
  refine gL (cvo (v := .slice pl l.length cl) rfl (fun w_ s_ => (pG l r.aPz pl cl _ hll l9 w_ (s_.ints 56 hS6) (hsp w_ s_)).mono fun e_ w2_ ⟨p_, c_, h1_, h2_⟩ => by rcases h2_ with ⟨_, rfl, rfl, h3_⟩ | ⟨h3_, _⟩; exact ⟨by rw [h1_]; unfold dY; rw [if_pos h0], h3_⟩; exact absurd h0 h3_) (g5 ?_))
  refine aY (ι := (Nat) × (List Int) × (Option Addr) × (Nat) × (Nat) × (List Value)) (fun | ⟨k, o, p, c, n, xs⟩ => l.length - k) (fun | ⟨k, o, p, c, n, xs⟩ => (k <= l.length) /\ (cM r.count st en most o (l.drop k) = cM r.count st en most o0 l) /\ (n = o.length) /\ (xs = o.map iV) /\ ((n : Int) <= most)) (fun | ⟨k, o, p, c, n, xs⟩ => [(1, pT b1), (2, pT b8), (3, pT b10), (4, pT b4), (5, pT b9), (13, .slice pl l.length cl), (14, iV (l.length)), (15, iV k)]) (fun _ => B) (fun | ⟨k, o, p, c, n, xs⟩ => (ky 54 0, .slice p n c) :: H) (fun | ⟨k, o, p, c, n, xs⟩ => (55, ⟨.slice p n c, 2, 1, n, xs⟩) :: S) ⟨0, o0, p0, c0, o0.length, o0.map iV⟩ ⟨Nat.zero_le _, rfl, rfl, rfl, hm.1⟩ kns (fun w s => by exact (s.to (fun _ _ h => h) (fun k o v ho h => (by rcases bD h with ⟨e, rfl⟩ | ⟨_, h⟩; { rw [e]; exact ⟨h54, by obtain ⟨rfl, rfl⟩ := iA ho dE e; rw [hB4]; rfl⟩ }; exact ⟨h, by obtain ⟨b, e, _⟩ := s.cells k o v ho h; rw [e]; rfl⟩)) (fun j q h => (by rcases bD h with ⟨rfl, rfl⟩ | ⟨_, h⟩; exact hS5; exact h)))) ?_
  rintro ⟨k, o, p, c, n, xs⟩ ⟨hk, hg, hn, hx, hnm⟩
  refine dS ?_
  refine g6 ?_
  refine aB rfl (fun hc1 => ?_) (fun hc2 => ?_)
  .have hlt : k < l.length := by have := oT hc1; omega
   obtain ⟨y, hy⟩ : ∃ y, l[k]? = some y := ⟨_, List.getElem?_eq_getElem hlt⟩
   have hst := xV r.count st en most o hy
   rw [hg] at hst
   refine cQ (fun w s => s.head 56 hS6 oM) (fun ⟨bl, hpl, hcl⟩ => ?_)
   subst hpl
   refine g6 ?_
   refine rl (aC (e := 2) (n := 1) kR rfl rfl oM oM) (rl (kH 56 rfl hS6 (by rw [<- hy]; congr 1; omega) kR) (g11 ?_))
   refine aB rfl (fun hc1 => ?_) (fun hc2 => ?_)
   .have hlo : y < st := oT hc1
    refine g8 ?_
    refine aN ⟨k + 1, o, p, c, n, xs⟩ sO ⟨by omega, by rw [hst, if_pos hlo], hn, hx, hnm⟩ kns (fun w s => by exact (s.low 60 ((((lim.mono dE).aPh dE dE)).aPi dE) agx agx agx))
   .have hlo : ¬ y < st := oF hc2
    refine g8 ?_
    by_cases h1 : (n : Int) = most
    .have hA : dW r st en most o0 l = (o, false) := by have hq : cM r.count st en most o0 (dY l r.aPz) = (o, false) := (by first | (rw [show dY l r.aPz = l from by unfold dY; rw [if_pos h0]]; rw [hst, if_neg hlo, if_pos oM]) | rw [hst, if_neg hlo, if_pos oM]); unfold dW; rw [hq]; rfl
     refine rl ((aQ rfl rfl).to eT) (g18 ?_)
     refine oD ?_
     rw [hA]
     subst hn hx
     exact gR rfl fun w_ s_ => ⟨p, c, by simp only, s_.low 57 ((lim.aPh dE dE).aPi dE) agx agx agx⟩
    .refine rZ6 ((aQ rfl rfl).to eF) ?_
     by_cases h2 : 0 < r.count
     .refine rl ((bU rfl rfl).to bT) (g11 ?_)
      by_cases h3 : (n : Int) = r.count
      .have hA : dW r st en most o0 l = (o, false) := by have hq : cM r.count st en most o0 (dY l r.aPz) = (o, false) := (by first | (rw [show dY l r.aPz = l from by unfold dY; rw [if_pos h0]]; rw [hst, if_neg hlo, if_pos oM]) | rw [hst, if_neg hlo, if_pos oM]); unfold dW; rw [hq]; rfl
       refine rl ((aQ rfl rfl).to eT) (g10 ?_)
       refine pA ?_
       rw [hA]
       subst hn hx
       exact gR rfl fun w_ s_ => ⟨p, c, by simp only, s_.low 57 ((lim.aPh dE dE).aPi dE) agx agx agx⟩
      .refine rl ((aQ rfl rfl).to eF) (g9 ?_)
       by_cases h4 : en < y
       .have hA : dW r st en most o0 l = (o, false) := by have hq : cM r.count st en most o0 (dY l r.aPz) = (o, false) := (by first | (rw [show dY l r.aPz = l from by unfold dY; rw [if_pos h0]]; rw [hst, if_neg hlo, if_pos oM]) | rw [hst, if_neg hlo, if_pos oM]); unfold dW; rw [hq]; rfl
        refine rl ((bU rfl rfl).to bT) (xH ?_)
        rw [hA]
        subst hn hx
        exact gR rfl fun w_ s_ => ⟨p, c, by simp only, s_.low 57 ((lim.aPh dE dE).aPi dE) agx agx agx⟩
       .refine wZ9 ((bU rfl rfl).to bF) ?_
        refine gL (dB 60 (e := 2) (sz := 1) (by_ := 8) (zs := [iV 0]) dE kR rfl dE dE (by first | rfl | exact lim.s 60 dE) (by first | rfl | exact lim.b 60 dE) rfl (fun bo => gL (cW 55 60 (e := 2) (sz := 1) (by_ := 8) (zs := [iV 0]) (q := ⟨.slice p n c, 2, 1, n, xs⟩) dE kR rfl dE rfl rfl rfl rfl ⟨rfl, rfl⟩ ⟨rfl, rfl⟩ (gZ (xs := [y])) sO sO (fun p' c' => gL (sto 54 rfl rfl hB4 rfl (g7 ?_))))))
        refine aN ⟨k + 1, o ++ [y], p', c', n + 1, xs ++ [iV y]⟩ sO ⟨by omega, by rw [hst, if_neg hlo, if_neg oM], by rw [List.length_append, hn]; rfl, by rw [hx]; simp, by omega⟩ kns (fun w s => by exact (s.low 60 ((((lim.mono dE).aPh dE dE)).aPi dE) agx agx agx))
     .refine rl ((bU rfl rfl).to bF) (g16 ?_)
      by_cases h4 : en < y
      .have hA : dW r st en most o0 l = (o, false) := by have hq : cM r.count st en most o0 (dY l r.aPz) = (o, false) := (by first | (rw [show dY l r.aPz = l from by unfold dY; rw [if_pos h0]]; rw [hst, if_neg hlo, if_pos oM]) | rw [hst, if_neg hlo, if_pos oM]); unfold dW; rw [hq]; rfl
       refine rl ((bU rfl rfl).to bT) (xH ?_)
       rw [hA]
       subst hn hx
       exact gR rfl fun w_ s_ => ⟨p, c, by simp only, s_.low 57 ((lim.aPh dE dE).aPi dE) agx agx agx⟩
      .refine wZ9 ((bU rfl rfl).to bF) ?_
       refine gL (dB 60 (e := 2) (sz := 1) (by_ := 8) (zs := [iV 0]) dE kR rfl dE dE (by first | rfl | exact lim.s 60 dE) (by first | rfl | exact lim.b 60 dE) rfl (fun bo => gL (cW 55 60 (e := 2) (sz := 1) (by_ := 8) (zs := [iV 0]) (q := ⟨.slice p n c, 2, 1, n, xs⟩) dE kR rfl dE rfl rfl rfl rfl ⟨rfl, rfl⟩ ⟨rfl, rfl⟩ (gZ (xs := [y])) sO sO (fun p' c' => gL (sto 54 rfl rfl hB4 rfl (g7 ?_))))))
       refine aN ⟨k + 1, o ++ [y], p', c', n + 1, xs ++ [iV y]⟩ sO ⟨by omega, by rw [hst, if_neg hlo, if_neg oM], by rw [List.length_append, hn]; rfl, by rw [hx]; simp, by omega⟩ kns (fun w s => by exact (s.low 60 ((((lim.mono dE).aPh dE dE)).aPi dE) agx agx agx))
  .obtain rfl : k = l.length := by have := oF hc2; omega
   rw [List.drop_length] at hg
   have hA1 : (o, true) = cM r.count st en most o0 (l) := hg
   have hA : dW r st en most o0 l = (o, jR r.count most n) := by unfold dW; rw [show dY l r.aPz = l from by unfold dY; rw [if_pos h0], <- hA1, hn]; simp
   refine g10 ?_
   by_cases h1 : (n : Int) < most
   .refine rZ6 ((cR rfl rfl).to bT) ?_
    by_cases h2 : r.count = 0
    .refine rl ((aQ rfl rfl).to eT) (g14 ?_)
     rw [hA]
     subst hn hx
     exact gR rfl fun w_ s_ => ⟨p, c, by simp only [jR]; rw [decide_eq_true h1, oP h2]; rfl, s_.low 57 ((lim.aPh dE dE).aPi dE) agx agx agx⟩
    .refine rl ((aQ rfl rfl).to eF) (g11 ?_)
     by_cases h3 : (n : Int) < r.count
     .refine rZ7 ((cR rfl rfl).to bT) ?_
      rw [hA]
      subst hn hx
      exact gR rfl fun w_ s_ => ⟨p, c, by simp only [jR]; rw [decide_eq_true h1, decide_eq_true h3, Bool.or_true]; rfl, s_.low 57 ((lim.aPh dE dE).aPi dE) agx agx agx⟩
     .refine rZ7 ((cR rfl rfl).to bF) ?_
      rw [hA]
      subst hn hx
      exact gR rfl fun w_ s_ => ⟨p, c, by simp only [jR]; rw [decide_eq_true h1, decide_eq_false h3, nZ h2]; rfl, s_.low 57 ((lim.aPh dE dE).aPi dE) agx agx agx⟩
   .refine rl ((cR rfl rfl).to bF) (g16 ?_)
    rw [hA]
    subst hn hx
    exact gR rfl fun w_ s_ => ⟨p, c, by simp only [jR]; rw [decide_eq_false h1]; rfl, s_.low 57 ((lim.aPh dE dE).aPi dE) agx agx agx⟩
 .refine g6 ?_
  refine gL (bL 57 (e := 2) (sz := 1) (n := (dY l r.aPz).length) (xs := (dY l r.aPz).map iV) dE kR rfl (fun w_ s_ => (pG l r.aPz pl cl _ hll l9 w_ (s_.ints 56 hS6) (hsp w_ s_)).mono fun e_ w2_ ⟨p_, c_, h1_, h2_⟩ => by rcases h2_ with ⟨h3_, _⟩ | ⟨_, h3_⟩; exact absurd h3_ h0; exact ⟨p_, c_, h1_, h3_⟩) (fun pr cr => g5 ?_))
  refine aY (ι := (Nat) × (List Int) × (Option Addr) × (Nat) × (Nat) × (List Value)) (fun | ⟨k, o, p, c, n, xs⟩ => (dY l r.aPz).length - k) (fun | ⟨k, o, p, c, n, xs⟩ => (k <= (dY l r.aPz).length) /\ (cM r.count st en most o ((dY l r.aPz).drop k) = cM r.count st en most o0 (dY l r.aPz)) /\ (n = o.length) /\ (xs = o.map iV) /\ ((n : Int) <= most)) (fun | ⟨k, o, p, c, n, xs⟩ => [(1, pT b1), (2, pT b8), (3, pT b10), (4, pT b4), (5, pT b9), (13, .slice pr (dY l r.aPz).length cr), (14, iV ((dY l r.aPz).length)), (15, iV k)]) (fun _ => B) (fun | ⟨k, o, p, c, n, xs⟩ => (ky 54 0, .slice p n c) :: H) (fun | ⟨k, o, p, c, n, xs⟩ => (55, ⟨.slice p n c, 2, 1, n, xs⟩) :: (57, ⟨.slice pr (dY l r.aPz).length cr, 2, 1, (dY l r.aPz).length, ((dY l r.aPz).map iV)⟩) :: S) ⟨0, o0, p0, c0, o0.length, o0.map iV⟩ ⟨Nat.zero_le _, rfl, rfl, rfl, hm.1⟩ kns (fun w s => by exact (s.to (fun _ _ h => h) (fun k o v ho h => (by rcases bD h with ⟨e, rfl⟩ | ⟨_, h⟩; { rw [e]; exact ⟨h54, by obtain ⟨rfl, rfl⟩ := iA ho dE e; rw [hB4]; rfl⟩ }; exact ⟨h, by obtain ⟨b, e, _⟩ := s.cells k o v ho h; rw [e]; rfl⟩)) (fun j q h => (by rcases bD h with ⟨rfl, rfl⟩ | ⟨_, h⟩; exact hS5; exact h)))) ?_
  rintro ⟨k, o, p, c, n, xs⟩ ⟨hk, hg, hn, hx, hnm⟩
  refine dS ?_
  refine g6 ?_
  refine aB rfl (fun hc1 => ?_) (fun hc2 => ?_)
  .have hlt : k < (dY l r.aPz).length := by have := oT hc1; omega
   obtain ⟨y, hy⟩ : ∃ y, (dY l r.aPz)[k]? = some y := ⟨_, List.getElem?_eq_getElem hlt⟩
   have hst := xV r.count st en most o hy
   rw [hg] at hst
   refine cQ (fun w s => s.head 57 rfl oM) (fun ⟨bl, hpl, hcl⟩ => ?_)
   subst hpl
   refine g6 ?_
   refine rl (aC (e := 2) (n := 1) kR rfl rfl oM oM) (rl (kH 57 rfl rfl (by rw [<- hy]; congr 1; omega) kR) (g11 ?_))
   refine aB rfl (fun hc1 => ?_) (fun hc2 => ?_)
   .have hlo : y < st := oT hc1
    refine g8 ?_
    refine aN ⟨k + 1, o, p, c, n, xs⟩ sO ⟨by omega, by rw [hst, if_pos hlo], hn, hx, hnm⟩ kns (fun w s => by exact (s.low 60 ((((lim.mono dE).aPh dE dE).aPi dE).aPi dE) agx agx agx))
   .have hlo : ¬ y < st := oF hc2
    refine g8 ?_
    by_cases h1 : (n : Int) = most
    .have hA : dW r st en most o0 l = (o, false) := by have hq : cM r.count st en most o0 (dY l r.aPz) = (o, false) := (by first | (rw [show dY l r.aPz = l from by unfold dY; rw [if_pos h0]]; rw [hst, if_neg hlo, if_pos oM]) | rw [hst, if_neg hlo, if_pos oM]); unfold dW; rw [hq]; rfl
     refine rl ((aQ rfl rfl).to eT) (g18 ?_)
     refine oD ?_
     rw [hA]
     subst hn hx
     exact gR rfl fun w_ s_ => ⟨p, c, by simp only, s_.low 57 ((lim.aPh dE dE).aPi dE) agx agx agx⟩
    .refine rZ6 ((aQ rfl rfl).to eF) ?_
     by_cases h2 : 0 < r.count
     .refine rl ((bU rfl rfl).to bT) (g11 ?_)
      by_cases h3 : (n : Int) = r.count
      .have hA : dW r st en most o0 l = (o, false) := by have hq : cM r.count st en most o0 (dY l r.aPz) = (o, false) := (by first | (rw [show dY l r.aPz = l from by unfold dY; rw [if_pos h0]]; rw [hst, if_neg hlo, if_pos oM]) | rw [hst, if_neg hlo, if_pos oM]); unfold dW; rw [hq]; rfl
       refine rl ((aQ rfl rfl).to eT) (g10 ?_)
       refine pA ?_
       rw [hA]
       subst hn hx
       exact gR rfl fun w_ s_ => ⟨p, c, by simp only, s_.low 57 ((lim.aPh dE dE).aPi dE) agx agx agx⟩
      .refine rl ((aQ rfl rfl).to eF) (g9 ?_)
       by_cases h4 : en < y
       .have hA : dW r st en most o0 l = (o, false) := by have hq : cM r.count st en most o0 (dY l r.aPz) = (o, false) := (by first | (rw [show dY l r.aPz = l from by unfold dY; rw [if_pos h0]]; rw [hst, if_neg hlo, if_pos oM]) | rw [hst, if_neg hlo, if_pos oM]); unfold dW; rw [hq]; rfl
        refine rl ((bU rfl rfl).to bT) (xH ?_)
        rw [hA]
        subst hn hx
        exact gR rfl fun w_ s_ => ⟨p, c, by simp only, s_.low 57 ((lim.aPh dE dE).aPi dE) agx agx agx⟩
       .refine wZ9 ((bU rfl rfl).to bF) ?_
        refine gL (dB 60 (e := 2) (sz := 1) (by_ := 8) (zs := [iV 0]) dE kR rfl dE dE (by first | rfl | exact lim.s 60 dE) (by first | rfl | exact lim.b 60 dE) rfl (fun bo => gL (cW 55 60 (e := 2) (sz := 1) (by_ := 8) (zs := [iV 0]) (q := ⟨.slice p n c, 2, 1, n, xs⟩) dE kR rfl dE rfl rfl rfl rfl ⟨rfl, rfl⟩ ⟨rfl, rfl⟩ (gZ (xs := [y])) sO sO (fun p' c' => gL (sto 54 rfl rfl hB4 rfl (g7 ?_))))))
        refine aN ⟨k + 1, o ++ [y], p', c', n + 1, xs ++ [iV y]⟩ sO ⟨by omega, by rw [hst, if_neg hlo, if_neg oM], by rw [List.length_append, hn]; rfl, by rw [hx]; simp, by omega⟩ kns (fun w s => by exact (s.low 60 ((((lim.mono dE).aPh dE dE).aPi dE).aPi dE) agx agx agx))
     .refine rl ((bU rfl rfl).to bF) (g16 ?_)
      by_cases h4 : en < y
      .have hA : dW r st en most o0 l = (o, false) := by have hq : cM r.count st en most o0 (dY l r.aPz) = (o, false) := (by first | (rw [show dY l r.aPz = l from by unfold dY; rw [if_pos h0]]; rw [hst, if_neg hlo, if_pos oM]) | rw [hst, if_neg hlo, if_pos oM]); unfold dW; rw [hq]; rfl
       refine rl ((bU rfl rfl).to bT) (xH ?_)
       rw [hA]
       subst hn hx
       exact gR rfl fun w_ s_ => ⟨p, c, by simp only, s_.low 57 ((lim.aPh dE dE).aPi dE) agx agx agx⟩
      .refine wZ9 ((bU rfl rfl).to bF) ?_
       refine gL (dB 60 (e := 2) (sz := 1) (by_ := 8) (zs := [iV 0]) dE kR rfl dE dE (by first | rfl | exact lim.s 60 dE) (by first | rfl | exact lim.b 60 dE) rfl (fun bo => gL (cW 55 60 (e := 2) (sz := 1) (by_ := 8) (zs := [iV 0]) (q := ⟨.slice p n c, 2, 1, n, xs⟩) dE kR rfl dE rfl rfl rfl rfl ⟨rfl, rfl⟩ ⟨rfl, rfl⟩ (gZ (xs := [y])) sO sO (fun p' c' => gL (sto 54 rfl rfl hB4 rfl (g7 ?_))))))
       refine aN ⟨k + 1, o ++ [y], p', c', n + 1, xs ++ [iV y]⟩ sO ⟨by omega, by rw [hst, if_neg hlo, if_neg oM], by rw [List.length_append, hn]; rfl, by rw [hx]; simp, by omega⟩ kns (fun w s => by exact (s.low 60 ((((lim.mono dE).aPh dE dE).aPi dE).aPi dE) agx agx agx))
  .obtain rfl : k = (dY l r.aPz).length := by have := oF hc2; omega
   rw [List.drop_length] at hg
   have hA1 : (o, true) = cM r.count st en most o0 ((dY l r.aPz)) := hg
   have hA : dW r st en most o0 l = (o, jR r.count most n) := by unfold dW; rw [show dY l r.aPz = dY l r.aPz from rfl, <- hA1, hn]; simp
   refine g10 ?_
   by_cases h1 : (n : Int) < most
   .refine rZ6 ((cR rfl rfl).to bT) ?_
    by_cases h2 : r.count = 0
    .refine rl ((aQ rfl rfl).to eT) (g14 ?_)
     rw [hA]
     subst hn hx
     exact gR rfl fun w_ s_ => ⟨p, c, by simp only [jR]; rw [decide_eq_true h1, oP h2]; rfl, s_.low 57 ((lim.aPh dE dE).aPi dE) agx agx agx⟩
    .refine rl ((aQ rfl rfl).to eF) (g11 ?_)
     by_cases h3 : (n : Int) < r.count
     .refine rZ7 ((cR rfl rfl).to bT) ?_
      rw [hA]
      subst hn hx
      exact gR rfl fun w_ s_ => ⟨p, c, by simp only [jR]; rw [decide_eq_true h1, decide_eq_true h3, Bool.or_true]; rfl, s_.low 57 ((lim.aPh dE dE).aPi dE) agx agx agx⟩
     .refine rZ7 ((cR rfl rfl).to bF) ?_
      rw [hA]
      subst hn hx
      exact gR rfl fun w_ s_ => ⟨p, c, by simp only [jR]; rw [decide_eq_true h1, decide_eq_false h3, nZ h2]; rfl, s_.low 57 ((lim.aPh dE dE).aPi dE) agx agx agx⟩
   .refine rl ((cR rfl rfl).to bF) (g16 ?_)
    rw [hA]
    subst hn hx
    exact gR rfl fun w_ s_ => ⟨p, c, by simp only [jR]; rw [decide_eq_false h1]; rfl, s_.low 57 ((lim.aPh dE dE).aPi dE) agx agx agx⟩
section
variable {P : Program} {Q : Exit -> Act -> World -> Prop} {K : Act -> World -> Prop} {N d : Nat} {L : Fr.Loc} {v : Value} {ty : TypeId} {pos : String} {aft : Array Edge} {f : FuncId} {asl : List Operand} {ats : Array TypeId} {args : List Value}
theorem Sees.rebase {F' : Nat -> Prop} {w : World} (s : Sees F w0 B H [] w) (hF : ∀ k b, lkp k B = some b -> F' b) : Sees F' w B H [] w where
 os := rfl
 tape := rfl
 output := rfl
 size := Nat.le_refl _
 frame := fun _ _ _ => rfl
 nodup := s.nodup
 lt := s.lt
 may := fun k b h _ => hF k b h
 cells := s.cells
 slcs := fun k q h => by simp [lkp] at h
 smay := fun k q b h => by simp [lkp] at h
 snot := fun k q b i h => by simp [lkp] at h
 sapart := fun i j q t b h => by simp [lkp] at h
theorem aEu {ι : Type} {F' : Nat -> Prop} (V : ι -> Value) (Φ : ι -> World -> Prop) (hF : ∀ k b, lkp k B = some b -> F' b) (ha : Fr.evs L asl = some args) (hc : ∀ w, Sees F w0 B H [] w -> Calls P f args.toArray w fun e w' => ∃ x, e = .returned (V x) /\ Below w.heap.size w w' /\ Φ x w')
  (hn : ∀ x w1, Sees F w0 B H [] w1 -> Φ x w1 -> GK K N ((d, V x) :: L) F' w1 B H []) (hd : d < N := by decide) (hf : gM P f = true := by kernel_rfl) :
  GO P ⟨some d, .call ⟨.value (.func f), asl.toArray, ats⟩, ty, pos, aft, none⟩ Q K N L F w0 B H [] := fun a w k s => by
 show Oper.upon _ _ _ _ _ _
 rw [oL k hf ha]
 refine (hc w s).mono ?_
 rintro e w' ⟨x, rfl, hb, hx⟩
 exact hn x w' (s.below hb) hx _ _ (k.put hd _) (Sees.rebase (s.below hb) hF)
theorem yB (j i : Nat) {t e : TypeId} {sz by_ : Nat} {zs : List Value} {x y : Operand} {q r : Slc} (hd : d < N) (ht : kP P t = some (e, sz, by_, zs)) (hzs : zs.length = sz) (hsz : 0 < sz) (hx : ev L x = some q.v) (hy : ev L y = some r.v) (hq : lkp j S = some q) (hr : lkp i S = some r)
  (hqe : q.e = e /\ q.sz = sz) (hre : r.e = e /\ r.sz = sz) (h1 : ∀ u ∈ r.xs, u.oneCell' = true) (h63 : q.n + r.n <= 9223372036854775807) (hbytes : (q.n + r.n) * by_ <= 140737488355328)
  (hn : ∀ p cp, GK K N ((d, .slice p (q.n + r.n) cp) :: L) F w0 B H ((j, ⟨.slice p (q.n + r.n) cp, e, sz, q.n + r.n, q.xs ++ r.xs⟩) :: S)) :
  GO P ⟨some d, .call ⟨.builtin .append, #[x, y], #[t, t]⟩, ty, pos, aft, none⟩ Q K N L F w0 B H S := fun a w k s => by
 have hor := s.slcs i r hr
 have hl : r.xs.length = r.n * sz := by rw [<- hre.2]; exact hor.1
 rcases hor.2 with ⟨e1, e2⟩ | ⟨g, cap, cur, e1, _⟩
 .have hn0 : r.n = 0 := e2
  have hx0 : r.xs = [] := by rw [hn0, Nat.zero_mul] at hl; exact List.eq_nil_of_length_eq_zero hl
  obtain ⟨hu, inf, z, hi, hz, h2, h3, h4⟩ := iM ht
  have ho := s.slcs j q hq
  rw [hqe.1, hqe.2] at ho
  have hrun := run_append_owned_none (P := P) (w := w) 0 t ty e inf sz hu hi q.v q.n q.xs ho
  obtain ⟨p, cp, hv⟩ : ∃ p cp, q.v = .slice p q.n cp := by
   rcases ho.2 with ⟨e3, e4⟩ | ⟨g1, cap1, cur1, e3, _⟩
   .exact ⟨none, 0, by rw [e3, e4]⟩
   .exact ⟨_, _, e3⟩
  have hn' := hn p cp
  rw [hn0, hx0, Nat.add_zero, List.append_nil] at hn'
  show Oper.upon _ _ _ _ _ _
  rw [e1] at hy
  simp only [execOp, resolve, invoke, builtin, Sem.run_bind, Sem.run_pure, Result.andThen_ok, List.map_toArray, List.map_cons, List.map_nil, k.eval hx, k.eval hy, hrun]
  rw [hv]
  refine hn' _ _ (k.put hd _) (s.to (fun _ _ h => h) (fun k o v ho h => ⟨h, by obtain ⟨b, e, _⟩ := s.cells k o v ho h; rw [e]; rfl⟩) (fun j' u h => ?_))
  rcases bD h with ⟨rfl, rfl⟩ | ⟨_, h⟩
  .rw [hq]; cases q; simp only at hv hqe; rw [hv, hqe.1, hqe.2]
  .exact h
 .exact rU j hd ht hzs hsz hx (hy.trans (congrArg some e1)) hq hqe hl (fun w' s' i' u hu => by rw [Nat.zero_add]; exact s'.aPl hr e1 hu) h1 h63 hbytes hn a w k s
end
theorem jN {w : World} {p : Option Addr} {n c : Nat} {xs : List Int} (s : Sees F w0 B H S w) (h : Ints w0 (.slice p n c) xs) (g : xs.length ≠ 0 -> ∀ b o, p = some ⟨b, o, none⟩ -> ¬F b) : Ints w (.slice p n c) xs := by
 obtain ⟨p', c', e, hc⟩ := h
 refine ⟨p', c', e, fun i x hx => ?_⟩
 obtain ⟨b, o, e2, h1⟩ := hc i x hx
 injection e with e3 _ _
 exact ⟨b, o, e2, s.aPo h1 (g (by have := (List.getElem?_eq_some_iff.1 hx).1; omega) b o (e3.trans e2))⟩
theorem aJb {w : World} {p : Option Addr} {n c : Nat} {xs : List (Int × Int)} (s : Sees F w0 B H S w) (h : Prs w0 (.slice p n c) xs) (g : xs.length ≠ 0 -> ∀ b o, p = some ⟨b, o, none⟩ -> ¬F b) : Prs w (.slice p n c) xs := by
 obtain ⟨p', c', e, hc⟩ := h
 refine ⟨p', c', e, fun i x hx => ?_⟩
 obtain ⟨b, o, e2, h1, h2⟩ := hc i x hx
 injection e with e3 _ _
 have hF := g (by have := (List.getElem?_eq_some_iff.1 hx).1; omega) b o (e3.trans e2)
 exact ⟨b, o, e2, s.aPo h1 hF, s.aPo h2 hF⟩
theorem InL.seeF {w : World} {r : Rul} {x : Av} (s : Sees F w0 B H S w) (h : InL w0 r x) (g : BkL (fun b => ¬F b) r x) : InL w r x :=
 ⟨jN s h.i9 g.g9, jN s h.i10 g.g10, jN s h.i11 g.g11, jN s h.i12 g.g12, jN s h.i13 g.g13, aJb s h.i14 g.g14, jN s h.i15 g.g15, jN s h.i16 g.g16, jN s h.i17 g.g17, jN s h.i18 g.g18⟩
theorem tE (f : Nat -> List Int) (m : Nat) (h : ∀ i, (f i).length <= m) : ∀ k, ((List.range k).flatMap f).length <= k * m
 | 0 => by simp
 | k + 1 => by
  have h1 := tE f m h k
  have h2 := h k
  rw [i5, List.length_append, Nat.succ_mul]
  omega
theorem mX (hs ms ss : List Int) (day fr lg : Int) : (fP hs ms ss day fr lg).length <= 86400 := by
 unfold fP aCn
 refine tE _ 3600 (fun h => ?_) 24
 split
 .unfold wC
  refine tE _ 60 (fun m => ?_) 60
  split
  .unfold vY
   rw [List.length_map]
   exact Nat.le_trans (List.length_filter_le _ _) (by simp)
  .simp
 .simp
theorem cU (r : Rul) : (aV r).start = r.start /\ (aV r).aP2 = r.aP2 /\ (aV r).aPp = r.aPp /\ (aV r).aPq = r.aPq /\ (aV r).count = r.count /\ (aV r).aPz = r.aPz /\ (aV r).aPw = r.aPw /\ (aV r).aPx = r.aPx /\ (aV r).aPy = r.aPy := by
 have h4 : ∀ r, (iH r).start = r.start /\ (iH r).aP2 = r.aP2 /\ (iH r).aPp = r.aPp /\ (iH r).aPq = r.aPq /\ (iH r).count = r.count /\ (iH r).aPz = r.aPz /\ (iH r).aPw = r.aPw /\ (iH r).aPx = r.aPx /\ (iH r).aPy = r.aPy := fun r => by unfold iH; split <;> exact ⟨rfl, rfl, rfl, rfl, rfl, rfl, rfl, rfl, rfl⟩
 have h3 : ∀ r, (gD r).start = r.start /\ (gD r).aP2 = r.aP2 /\ (gD r).aPp = r.aPp /\ (gD r).aPq = r.aPq /\ (gD r).count = r.count /\ (gD r).aPz = r.aPz /\ (gD r).aPw = r.aPw /\ (gD r).aPx = r.aPx /\ (gD r).aPy = r.aPy := fun r => by unfold gD; split <;> exact ⟨rfl, rfl, rfl, rfl, rfl, rfl, rfl, rfl, rfl⟩
 have h2 : ∀ r, (fZ r).start = r.start /\ (fZ r).aP2 = r.aP2 /\ (fZ r).aPp = r.aPp /\ (fZ r).aPq = r.aPq /\ (fZ r).count = r.count /\ (fZ r).aPz = r.aPz /\ (fZ r).aPw = r.aPw /\ (fZ r).aPx = r.aPx /\ (fZ r).aPy = r.aPy := fun r => by unfold fZ; split <;> exact ⟨rfl, rfl, rfl, rfl, rfl, rfl, rfl, rfl, rfl⟩
 have h1 : (gA r).start = r.start /\ (gA r).aP2 = r.aP2 /\ (gA r).aPp = r.aPp /\ (gA r).aPq = r.aPq /\ (gA r).count = r.count /\ (gA r).aPz = r.aPz /\ (gA r).aPw = r.aPw /\ (gA r).aPx = r.aPx /\ (gA r).aPy = r.aPy := by
  unfold gA
  split
  .split
   .exact ⟨rfl, rfl, rfl, rfl, rfl, rfl, rfl, rfl, rfl⟩
   .split
    .exact ⟨rfl, rfl, rfl, rfl, rfl, rfl, rfl, rfl, rfl⟩
    .split <;> exact ⟨rfl, rfl, rfl, rfl, rfl, rfl, rfl, rfl, rfl⟩
  .exact ⟨rfl, rfl, rfl, rfl, rfl, rfl, rfl, rfl, rfl⟩
 unfold aV
 simp only [h4, h3, h2, h1, and_self]
def UN (f : Int) : Int := if f = 4 then 3600 else if f = 5 then 60 else 1
def pY (q : Rul) (k : Int) : Int := Cal.yearOf (q.start / 86400) + k * q.aPp
def pN (q : Rul) (k : Int) : Int := Cal.monthOf (q.start / 86400) - 1 + k * q.aPp
def pM (q : Rul) (k : Int) : Int := Cal.yearOf (q.start / 86400) + pN q k / 12
def pAt (q : Rul) (k : Int) : Int := q.start - q.start % UN q.aP2 + k * q.aPp * UN q.aP2
def cH (q : Rul) (k : Int) : Int :=
 if q.aP2 = 0 then Cal.daysTo (pY q k) else if q.aP2 = 1 then Cal.daysTo (pM q k) + 1 - 1 + Cal.cum (pM q k) (pN q k % 12 + 1 - 1).toNat
 else if q.aP2 = 2 then q.start / 86400 - (q.start / 86400 % 7 - q.aPq + 7) % 7 + 7 * k * q.aPp else if q.aP2 = 3 then q.start / 86400 + k * q.aPp else pAt q k / 86400
def fH (q : Rul) (k : Int) : Int := if q.aP2 = 0 then 365 + Cal.lp (pY q k) else if q.aP2 = 1 then Cal.mdays (pN q k % 12 + 1) (pM q k) else if q.aP2 = 2 then 7 else 1
def eE (q : Rul) (k : Int) : Prop := (q.aP2 = 0 /\ 9999 < pY q k) \/ (q.aP2 = 1 /\ 9999 < pM q k) \/ 3652059 <= cH q k
def j5 (q : Rul) (dayF : Int -> Bool) (d : Int) : List Int := if 0 <= d /\ dayF d = true then fP q.hour q.aPr q.aPs d (d * 86400) 86400 else []
def kL (q : Rul) (dayF : Int -> Bool) (first : Int) (j : Nat) : List Int := (List.range j).flatMap fun (i : Nat) => j5 q dayF (first + i)
def eU (q : Rul) (dayF : Int -> Bool) (k : Int) : List Int := if 4 <= q.aP2 then (if dayF (cH q k) = true then fP q.hour q.aPr q.aPs (cH q k) (pAt q k) (UN q.aP2) else []) else kL q dayF (cH q k) (fH q k).toNat
inductive DatesP (q : Rul) (dayF : Int -> Bool) (en most : Int) : Int -> List Int -> List Int -> Prop
 | over {k : Int} {o : List Int} (h : eE q k) : DatesP q dayF en most k o o
 | stop {k : Int} {o : List Int} (h : ¬eE q k) (hs : (dW q q.start en most o (eU q dayF k)).2 = false) : DatesP q dayF en most k o (dW q q.start en most o (eU q dayF k)).1
 | more {k : Int} {o l : List Int} (h : ¬eE q k) (hs : (dW q q.start en most o (eU q dayF k)).2 = true) (hn : DatesP q dayF en most (k + 1) (dW q q.start en most o (eU q dayF k)).1 l) : DatesP q dayF en most k o l
inductive Dw (q : Rul) (dayF : Int -> Bool) (en most : Int) : Int -> Int -> List Int -> Option (List Int) -> Prop
 | none {k wk : Int} {o : List Int} (h : 4 <= q.aP2 \/ ¬eE q k) (hw : wk < fH q k) : Dw q dayF en most k wk o none
 | over {k wk : Int} {o : List Int} (h : eE q k) (hw : q.aP2 < 4 \/ fH q k <= wk) : Dw q dayF en most k wk o (some o)
 | stop {k wk : Int} {o : List Int} (h : ¬eE q k) (hw : fH q k <= wk) (hs : (dW q q.start en most o (eU q dayF k)).2 = false) : Dw q dayF en most k wk o (some (dW q q.start en most o (eU q dayF k)).1)
 | more {k wk : Int} {o : List Int} {l : Option (List Int)} (h : ¬eE q k) (hw : fH q k <= wk) (hs : (dW q q.start en most o (eU q dayF k)).2 = true) (hn : Dw q dayF en most (k + 1) (wk - fH q k) (dW q q.start en most o (eU q dayF k)).1 l) : Dw q dayF en most k wk o l
theorem Dw.toP {q : Rul} {dayF : Int -> Bool} {en most k wk : Int} {o : List Int} {l : Option (List Int)} (h : Dw q dayF en most k wk o l) : ∀ {m}, l = some m -> DatesP q dayF en most k o m := by
 induction h with
 | none h hw => intro m e; cases e
 | over h hw => intro m e; injection e with e; subst e; exact .over h
 | stop h hw hs => intro m e; injection e with e; subst e; exact .stop h hs
 | more h hw hs hn ih => intro m e; exact .more h hs (ih e)
theorem aD4 (q : Rul) (dayF : Int -> Bool) (d : Int) : (j5 q dayF d).length <= 86400 := by
 unfold j5
 split
 .exact mX _ _ _ _ _ _
 .simp
theorem vQ (q : Rul) (dayF : Int -> Bool) (first : Int) (j : Nat) : (kL q dayF first j).length <= j * 86400 := tE _ _ (fun i => aD4 q dayF _) j
theorem o9 (q : Rul) (dayF : Int -> Bool) (first : Int) (j : Nat) : kL q dayF first (j + 1) = kL q dayF first j ++ j5 q dayF (first + j) := i5 _ j
end
end Go.Proofs.YthomapgobmdicaaGreat
