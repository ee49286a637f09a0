import Derived.Test.YthomapgobmdicaaGreatZrg
set_option linter.unusedVariables false
set_option linter.unusedSimpArgs false
set_option maxRecDepth 100000
set_option maxHeartbeats 8000000
namespace Go.Proofs.YthomapgobmdicaaGreat
open Go.RowKit Go.Fr Go.Tab
section
variable {F : Nat -> Prop} {w0 : World} {B : LN} {H : LV} {S : LS}
open Go.Md
theorem gP {j : Nat} : ∀ {cs : List Value} {o : Nat}, (∀ i v, cs[i]? = some v -> lkp (ky j (o + i)) H = some v) -> cellsAt j H o cs
 | [], _, _ => trivial
 | c :: r, o, h => ⟨h 0 c rfl, gP fun i v hv => by
   have := h (i + 1) v (by simpa using hv)
   rwa [show o + (i + 1) = o + 1 + i by omega] at this⟩
theorem eD {j : Nat} : ∀ (cs : List Value) (o : Nat), o + cs.length <= 4096 -> ∀ (i : Nat) (v : Value), cs[i]? = some v -> lkp (ky j (o + i)) (aL j o cs ++ H) = some v
 | [], _, _, i, v, h => by simp at h
 | u :: r, o, hl, 0, v, h => by cases h; exact bJ _ _ _
 | u :: r, o, hl, i + 1, v, h => by
  simp only [List.length_cons] at hl
  show lkp (ky j (o + (i + 1))) ((ky j o, u) :: (aL j (o + 1) r ++ H)) = _
  rw [aA (by unfold ky; omega)]
  have := eD (j := j) r (o + 1) oM i v (by simpa using h)
  rwa [show o + 1 + i = o + (i + 1) by omega] at this
theorem gW {j : Nat} (cs : List Value) (h : cs.length <= 4096) : cellsAt j (aL j 0 cs ++ H) 0 cs := gP fun i v hv => eD cs 0 oM i v hv
theorem aO {j : Nat} : ∀ (cs : List Value) (o q : Nat) {H : LV}, o + cs.length <= q -> lkp (ky j q) (dL j o cs H) = lkp (ky j q) H
 | [], _, _, _, _ => rfl
 | v :: r, o, q, H, h => by
  simp only [List.length_cons] at h
  show lkp (ky j q) (dL j (o + 1) r ((ky j o, v) :: H)) = _
  rw [aO r (o + 1) q oM, aA (by unfold ky; omega)]
theorem xJ {o : Opn} {x : Av} (vk : VbOk o) (limB : Lim 40 B H S) (s9 : yS9 F w0 S x o) (s10 : aHo F w0 S x o) (s11 : aGy F w0 S x o) (s12 : u5 F w0 S x o) (s13 : uK F w0 S x o) (s14 : SrcU F w0 S 11 (.slice x.p14 (o.wday).length x.c14) o.wday) (s15 : aBk F w0 S x o) (s16 : zM F w0 S x o) (s17 : xP F w0 S x o) (s18 : uY F w0 S x o) : ∀ w, Sees F w0 B H S w -> Calls Tryz.prog 66 #[.agg (oc0 o x).toArray] w fun e w' => e = .returned .nilIface /\ Sees F w0 B H S w' := by
 intro w s
 refine aF (args := [.agg (oc0 o x).toArray]) (L := [(0, .agg (oc0 o x).toArray)]) (N := 93) Tryz.func66 rfl rfl ble rfl s (g2 ?_)
 refine gL (fU 50 (cs := oc0 o x) dE rfl rfl (limB.b 50 dE) (fun o ho => limB.h 50 dE o ho) ble (fun b1 hb1 => g3 ?_))
 refine dO (L' := [(1, pT b1)]) kns (fun w s => s) ?_
 exact aLr (B := (50, b1) :: B) (H := aL 50 0 (oc0 o x) ++ H) (S := S) vk rfl (gW _ ble) (Lim.aPk dE _ 0 ble ((limB.mono dE).aPj dE)) s9 s10 s11 s12 s13 s14 s15 s16 s17 s18 (fun w s => ⟨rfl, s.low 50 (limB.mono dE) agx agx agx⟩)
def z60 : List Value := zL1
theorem Knw.put {H : LV} {j : Nat} : ∀ (cs : List Value) (o : Nat) {H' : LV}, Knw H' H -> Knw (aL j o cs ++ H') H
 | [], _, _, h => h
 | v :: r, o, _, h => Knw.cons (Knw.put r (o + 1) h)
theorem aDe {o : Opn} {x : Av} (ok : OpOk o) (hsort : o.aP2 < 4 -> kV F w0 (raw o)) (limB : Lim 40 B H S) (s9 : yS9 F w0 S x o) (s10 : aHo F w0 S x o) (s11 : aGy F w0 S x o) (s12 : u5 F w0 S x o) (s13 : uK F w0 S x o) (s14 : SrcU F w0 S 11 (.slice x.p14 (o.wday).length x.c14) o.wday) (s15 : aBk F w0 S x o) (s16 : zM F w0 S x o) (s17 : xP F w0 S x o) (s18 : uY F w0 S x o) : ∀ w, Sees F w0 B H S w -> Calls Tryz.prog 67 #[.agg (oc0 o x).toArray] w fun e w' => ∃ x' S', e = .returned (.agg (j8 o x').toArray) /\ OutF F w0 o x' S S' /\ Sees F w0 B H S' w' := by
 intro w s
 refine aF (args := [.agg (oc0 o x).toArray]) (L := [(0, .agg (oc0 o x).toArray)]) (N := 300) Tryz.func67 rfl rfl ble rfl s (g2 ?_)
 refine gL (fU 50 (cs := oc0 o x) dE rfl rfl (limB.b 50 dE) (fun o ho => limB.h 50 dE o ho) ble (fun b1 hb1 => gL (eJ 51 (cs := zL1) dE kR (limB.b 51 dE) (fun o ho => by repeat (first | exact limB.h 51 dE o ho | rw [aJ dE ho _ _ ble])) ble (fun b2 hb2 => g4 ?_))))
 refine rl ((n9 (v := .agg (zL1 : List Value).toArray) kW)) (gL (eJ 52 (cs := zL1) dE kR (limB.b 52 dE) (fun o ho => by repeat (first | exact limB.h 52 dE o ho | rw [aJ dE ho _ _ ble])) ble (fun b3 hb3 => gL (cI 52 (cs := (zL1 : List Value).toArray) rfl rfl rfl (eG (gW zL1 ble) 0 60 ble) kR rfl ble (g4 ?_)))))
 refine rZ1 ((dC 50 (cs := oc0 o x) rfl rfl (fun i u h => (dA dE (by have := (List.getElem?_eq_some_iff.1 h).1; have h3 : (oc0 o x).length = 19 := rfl; omega) _ _ ble).trans ((aJ dE (by have := (List.getElem?_eq_some_iff.1 h).1; have h3 : (oc0 o x).length = 19 := rfl; omega) _ _ ble).trans ((aJ dE (by have := (List.getElem?_eq_some_iff.1 h).1; have h3 : (oc0 o x).length = 19 := rfl; omega) _ _ ble).trans (eD (oc0 o x) 0 ble i u h)))) ble kR)) ?_
 refine gL (cI 52 (cs := (oc0 o x).toArray) rfl rfl rfl (cL (Knw.seq _ _ (Knw.refl _)) (eG (gW zL1 ble) 0 19 ble)) kR rfl ble (g2 ?_))
 refine dO (L' := [(1, pT b1), (2, pT b2), (3, pT b3)]) kns (fun w s => s) (H' := dL 52 0 (oc0 o x) (dL 52 0 zL1 (aL 52 0 zL1 ++ (aL 51 0 zL1 ++ (aL 50 0 (oc0 o x) ++ H))))) ?_
 have hcs : cellsAt 52 (dL 52 0 (oc0 o x) (dL 52 0 z60 (aL 52 0 z60 ++ (aL 51 0 z60 ++ (aL 50 0 (oc0 o x) ++ H))))) 0 (rc0 o x) := (cC (aP (oc0 o x) 0 ble 0 _ rfl) (cC (aP (oc0 o x) 0 ble 1 _ rfl) (cC (aP (oc0 o x) 0 ble 2 _ rfl) (cC (aP (oc0 o x) 0 ble 3 _ rfl) (cC (aP (oc0 o x) 0 ble 4 _ rfl) (cC (aP (oc0 o x) 0 ble 5 _ rfl) (cC (aP (oc0 o x) 0 ble 6 _ rfl) (cC (aP (oc0 o x) 0 ble 7 _ rfl) (cC (aP (oc0 o x) 0 ble 8 _ rfl) (cC (aP (oc0 o x) 0 ble 9 _ rfl) (cC (aP (oc0 o x) 0 ble 10 _ rfl) (cC (aP (oc0 o x) 0 ble 11 _ rfl) (cC (aP (oc0 o x) 0 ble 12 _ rfl) (cC (aP (oc0 o x) 0 ble 13 _ rfl) (cC (aP (oc0 o x) 0 ble 14 _ rfl) (cC (aP (oc0 o x) 0 ble 15 _ rfl) (cC (aP (oc0 o x) 0 ble 16 _ rfl) (cC (aP (oc0 o x) 0 ble 17 _ rfl) (cC (aP (oc0 o x) 0 ble 18 _ rfl) (cC ((aO (oc0 o x) 0 19 ble).trans (aP z60 0 ble 19 _ rfl)) (cC ((aO (oc0 o x) 0 20 ble).trans (aP z60 0 ble 20 _ rfl)) (cC ((aO (oc0 o x) 0 21 ble).trans (aP z60 0 ble 21 _ rfl)) (cC ((aO (oc0 o x) 0 22 ble).trans (aP z60 0 ble 22 _ rfl)) (cC ((aO (oc0 o x) 0 23 ble).trans (aP z60 0 ble 23 _ rfl)) (cC ((aO (oc0 o x) 0 24 ble).trans (aP z60 0 ble 24 _ rfl)) (cC ((aO (oc0 o x) 0 25 ble).trans (aP z60 0 ble 25 _ rfl)) (cC ((aO (oc0 o x) 0 26 ble).trans (aP z60 0 ble 26 _ rfl)) (cC ((aO (oc0 o x) 0 27 ble).trans (aP z60 0 ble 27 _ rfl)) (cC ((aO (oc0 o x) 0 28 ble).trans (aP z60 0 ble 28 _ rfl)) (cC ((aO (oc0 o x) 0 29 ble).trans (aP z60 0 ble 29 _ rfl)) (cC ((aO (oc0 o x) 0 30 ble).trans (aP z60 0 ble 30 _ rfl)) (cC ((aO (oc0 o x) 0 31 ble).trans (aP z60 0 ble 31 _ rfl)) (cC ((aO (oc0 o x) 0 32 ble).trans (aP z60 0 ble 32 _ rfl)) (cC ((aO (oc0 o x) 0 33 ble).trans (aP z60 0 ble 33 _ rfl)) (cC ((aO (oc0 o x) 0 34 ble).trans (aP z60 0 ble 34 _ rfl)) (cC ((aO (oc0 o x) 0 35 ble).trans (aP z60 0 ble 35 _ rfl)) (cC ((aO (oc0 o x) 0 36 ble).trans (aP z60 0 ble 36 _ rfl)) (cC ((aO (oc0 o x) 0 37 ble).trans (aP z60 0 ble 37 _ rfl)) (cC ((aO (oc0 o x) 0 38 ble).trans (aP z60 0 ble 38 _ rfl)) (cC ((aO (oc0 o x) 0 39 ble).trans (aP z60 0 ble 39 _ rfl)) (cC ((aO (oc0 o x) 0 40 ble).trans (aP z60 0 ble 40 _ rfl)) (cC ((aO (oc0 o x) 0 41 ble).trans (aP z60 0 ble 41 _ rfl)) (cC ((aO (oc0 o x) 0 42 ble).trans (aP z60 0 ble 42 _ rfl)) (cC ((aO (oc0 o x) 0 43 ble).trans (aP z60 0 ble 43 _ rfl)) (cC ((aO (oc0 o x) 0 44 ble).trans (aP z60 0 ble 44 _ rfl)) (cC ((aO (oc0 o x) 0 45 ble).trans (aP z60 0 ble 45 _ rfl)) (cC ((aO (oc0 o x) 0 46 ble).trans (aP z60 0 ble 46 _ rfl)) (cC ((aO (oc0 o x) 0 47 ble).trans (aP z60 0 ble 47 _ rfl)) (cC ((aO (oc0 o x) 0 48 ble).trans (aP z60 0 ble 48 _ rfl)) (cC ((aO (oc0 o x) 0 49 ble).trans (aP z60 0 ble 49 _ rfl)) (cC ((aO (oc0 o x) 0 50 ble).trans (aP z60 0 ble 50 _ rfl)) (cC ((aO (oc0 o x) 0 51 ble).trans (aP z60 0 ble 51 _ rfl)) (cC ((aO (oc0 o x) 0 52 ble).trans (aP z60 0 ble 52 _ rfl)) (cC ((aO (oc0 o x) 0 53 ble).trans (aP z60 0 ble 53 _ rfl)) (cC ((aO (oc0 o x) 0 54 ble).trans (aP z60 0 ble 54 _ rfl)) (cC ((aO (oc0 o x) 0 55 ble).trans (aP z60 0 ble 55 _ rfl)) (cC ((aO (oc0 o x) 0 56 ble).trans (aP z60 0 ble 56 _ rfl)) (cC ((aO (oc0 o x) 0 57 ble).trans (aP z60 0 ble 57 _ rfl)) (cC ((aO (oc0 o x) 0 58 ble).trans (aP z60 0 ble 58 _ rfl)) (cC ((aO (oc0 o x) 0 59 ble).trans (aP z60 0 ble 59 _ rfl)) cN))))))))))))))))))))))))))))))))))))))))))))))))))))))))))))
 have bs : Bs F w0 B H S b1 b2 b3 (oc0 o x) (rc0 o x) (dL 52 0 (oc0 o x) (dL 52 0 zL1 (aL 52 0 zL1 ++ (aL 51 0 zL1 ++ (aL 50 0 (oc0 o x) ++ H))))) S := ⟨gP fun i u h => (dA dE (by have := (List.getElem?_eq_some_iff.1 h).1; have h3 : (oc0 o x).length = 19 := rfl; omega) _ _ ble).trans ((dA dE (by have := (List.getElem?_eq_some_iff.1 h).1; have h3 : (oc0 o x).length = 19 := rfl; omega) _ _ ble).trans ((aJ dE (by have := (List.getElem?_eq_some_iff.1 h).1; have h3 : (oc0 o x).length = 19 := rfl; omega) _ _ ble).trans ((aJ dE (by have := (List.getElem?_eq_some_iff.1 h).1; have h3 : (oc0 o x).length = 19 := rfl; omega) _ _ ble).trans (eD (oc0 o x) 0 ble i u h)))), hcs, ?_, ?_, limB, ?_, fun _ _ _ => rfl⟩
 .exact aOj (x := x) ok hsort bs s9 s10 s11 s12 s13 s14 s15 s16 s17 s18 (fun x' S' hf w s => ⟨x', S', rfl, hf, s⟩)
 .exact cL (Knw.seq _ _ (Knw.seq _ _ (Knw.put _ _ (Knw.refl _)))) (eG (gW zL1 ble) 0 60 ble)
 .exact Lim.seqH dE _ 0 ble (Lim.seqH dE _ 0 ble (Lim.aPk dE _ 0 ble (Lim.aPk dE _ 0 ble (Lim.aPk dE _ 0 ble ((((limB.mono dE).aPj dE).aPj dE).aPj dE)))))
 .exact fun k hk o_ ho_ => (dA oM ho_ _ _ ble).trans ((dA oM ho_ _ _ ble).trans ((aJ oM ho_ _ _ ble).trans ((aJ oM ho_ _ _ ble).trans (aJ oM ho_ _ _ ble))))
theorem Agr.skip_under {α : Type} {m q k : Nat} {v u : α} {A : List (Nat × α)} (h : m <= q) : Agr m [] ((k, u) :: (q, v) :: A) ((k, u) :: A) := fun j hj _ => by
 by_cases e : j = k
 .subst e; rw [bJ, bJ]
 .rw [aA e, aA e, aA oM]
theorem aK6 {H : LV} {cs zs os : List Value} (hl : ∀ k, 36 <= k -> ∀ o, o < 4096 -> lkp (ky k o) H = none) (h1 : cs.length <= 4096) (h2 : zs.length <= 4096) (h3 : os.length <= 4096) (he : cs.length = zs.length) : Agr (ky 36 0) [] (dL 1 0 cs (aL 1 0 zs ++ (aL 36 0 os ++ H))) (aL 1 0 cs ++ H) := fun q hq _ => by
 obtain ⟨k, o, ho, rfl⟩ : ∃ k o, o < 4096 /\ q = ky k o := ⟨q / 4096, q % 4096, Nat.mod_lt _ dE, by unfold ky; omega⟩
 have hk : k < 36 := by unfold ky at hq; omega
 by_cases e : k = 1
 .subst e
  rcases Nat.lt_or_ge o cs.length with h | h
  .have e1 := aP (j := 1) cs 0 (H := aL 1 0 zs ++ (aL 36 0 os ++ H)) oM o _ (List.getElem?_eq_getElem h)
   have e2 := eD (j := 1) (H := H) cs 0 oM o _ (List.getElem?_eq_getElem h)
   rw [Nat.zero_add] at e1 e2
   rw [e1, e2]
  .rw [aO cs 0 o oM, lJ (fun v hv => ?_), lJ (fun v hv => ?_), lJ (fun v hv => ?_)]
   .obtain ⟨j, hj, hlt⟩ := lS cs 0 hv
    unfold ky at hj; omega
   .obtain ⟨j, hj, hlt⟩ := lS os 0 hv
    unfold ky at hj; omega
   .obtain ⟨j, hj, hlt⟩ := lS zs 0 hv
    unfold ky at hj; omega
 .rw [dA e ho cs 0 oM, aJ e ho zs 0 oM, aJ oM ho os 0 oM, aJ e ho cs 0 oM]
theorem xI {o : Opn} {x : Av} (ok : OpOk o) (vk : VbOk o) (hsort : o.aP2 < 4 -> kV F w0 (raw o)) (limB : Lim 36 B H S) (h1 : lkp 1 B = none) (h1h : ∀ q, q < 4096 -> lkp (ky 1 q) H = none) (s9 : yS9 F w0 S x o) (s10 : aHo F w0 S x o) (s11 : aGy F w0 S x o) (s12 : u5 F w0 S x o) (s13 : uK F w0 S x o) (s14 : SrcU F w0 S 11 (.slice x.p14 (o.wday).length x.c14) o.wday) (s15 : aBk F w0 S x o) (s16 : zM F w0 S x o) (s17 : xP F w0 S x o) (s18 : uY F w0 S x o) : ∀ w, Sees F w0 B H S w -> Calls Tryz.prog 50 #[.agg (oc0 o x).toArray] w fun e w' => ∃ rb x' S', e = .returned (.tuple #[pT rb, .nilIface]) /\ OutF F w0 o x' S S' /\ Sees F w0 ((1, rb) :: B) (aL 1 0 (j8 o x') ++ H) S' w' := by
 intro w s
 refine aF (args := [.agg (oc0 o x).toArray]) (L := [(0, .agg (oc0 o x).toArray)]) (N := 13) Tryz.func50 rfl rfl ble rfl s (g2 ?_)
 refine gL (fU 36 (cs := oc0 o x) dE rfl rfl (limB.b 36 dE) (fun o ho => limB.h 36 dE o ho) ble (fun b1 hb1 => g7 ?_))
 refine rl ((dC 36 (cs := oc0 o x) rfl rfl (eD (oc0 o x) 0 ble) ble kR)) (gL (oQ (v := .nilIface) dE kR rfl (xJ vk (Lim.aPk dE _ 0 ble ((limB.mono dE).aPj dE)) s9 s10 s11 s12 s13 s14 s15 s16 s17 s18) (g6 ?_)))
 refine rl ((yT (v := .bool false) rfl rfl kW)) (yZ7 ?_)
 refine rl ((dC 36 (cs := oc0 o x) rfl rfl (eD (oc0 o x) 0 ble) ble kR)) (gL (d8 (ι := Av × LS) (fun y => .agg (j8 o y.1).toArray) (fun y => OutF F w0 o y.1 S y.2) (fun _ => (36, b1) :: B) (fun _ => aL 36 0 (oc0 o x) ++ H) (fun y => y.2) dE kR rfl (fun w_ s_ => (aDe ok hsort (Lim.aPk dE _ 0 ble ((limB.mono dE).aPj dE)) s9 s10 s11 s12 s13 s14 s15 s16 s17 s18 w_ s_).mono fun e w' ⟨x', S', he, hf, hs⟩ => ⟨(x', S'), hf, he, hs⟩) (fun | (x2, S2), hf2 => gL (eJ 1 (cs := zL1) dE kR h1 (fun o ho => (aJ dE ho _ _ ble).trans (h1h o ho)) ble (fun rb hrb => gL (cI 1 (cs := (j8 o x2).toArray) rfl rfl rfl (eG (gW zL1 ble) 0 60 ble) kR rfl ble (g9 ?_)))))))
 refine d9 (.inl rfl) rfl (aE rfl) (aE rfl) fun w s => ⟨rb, x2, S2, rfl, hf2, ?_⟩
 refine s.low 36 (Lim.aPk dE _ 0 ble (Lim.aPj ⟨limB.b, limB.h, fun k hk => ?_⟩ dE)) ?_ ?_ (Agr.refl _)
 .rcases Nat.lt_or_ge k 53 with h | h
  .rw [hf2.fr k h oM]; exact limB.s k hk
  .exact hf2.lim k h
 .exact Agr.skip_under dE
 .exact aK6 limB.h ble ble ble rfl
structure Rul where
 aP2 : Int
 aP1 : Bool
 start : Int
 aPp : Int
 aPq : Int
 count : Int
 aP0 : Bool
 untl : Int
 aPz : List Int
 aPt : List Int
 aPu : List Int
 aPw : List Int
 aPx : List Int
 wday : List (Int × Int)
 hour : List Int
 aPr : List Int
 aPs : List Int
 aPy : List Int
def aD (r : Rul) : Opn := ⟨r.aP2, r.start, r.aPp, r.aPq, r.count, if r.aP0 = true then r.untl else 0, r.aPz, r.aPt, r.aPu, r.aPw, r.aPx, r.wday, r.hour, r.aPr, r.aPs, r.aPy⟩
def bG (r : Rul) (x : Av) : List Value := [.int .u8 r.aP2, .bool r.aP1, iV r.start, iV r.aPp, iV r.aPq, iV r.count, .bool r.aP0, iV r.untl, .slice x.p9 (r.aPz).length x.c9, .slice x.p10 (r.aPt).length x.c10, .slice x.p11 (r.aPu).length x.c11, .slice x.p12 (r.aPw).length x.c12, .slice x.p13 (r.aPx).length x.c13, .slice x.p14 (r.wday).length x.c14, .slice x.p15 (r.hour).length x.c15, .slice x.p16 (r.aPr).length x.c16, .slice x.p17 (r.aPs).length x.c17, .slice x.p18 (r.aPy).length x.c18]
theorem rJ (x n : Int) (w : World) : CB 68 #[iV x, iV n] w (.agg #[iV x, iV n]) := by
 refine aF (args := [iV x, iV n]) (L := [(0, iV x), (1, iV n)]) (N := 8) Tryz.func68 rfl rfl ble rfl (sS w) (g2 ?_)
 refine gL (alo 50 (cs := [iV 0, iV 0]) kR rfl (fun b1_ hbb1_ => g6 ?_))
 refine rl (vD rfl rfl kW) (gL (sta 50 rfl rfl rfl rfl (g3 ?_)))
 refine aT (.inl rfl) rfl (iP 50 rfl rfl rfl rfl kR) fun w_ s_ => ⟨?_, s_.aPg⟩
 first | rfl | (simp; done)
def uM (r : Rul) (x : Av) : List Value := [iV r.aP2, iV 0, iV 0, iV r.aPp, iV r.aPq, iV 0, iV r.count, iV 0, iV 0, .slice x.p9 (r.aPz).length x.c9, .slice x.p10 (r.aPt).length x.c10, .slice x.p11 (r.aPu).length x.c11, .slice x.p12 (r.aPw).length x.c12, .slice x.p13 (r.aPx).length x.c13, sN, .slice x.p15 (r.hour).length x.c15, .slice x.p16 (r.aPr).length x.c16, .slice x.p17 (r.aPs).length x.c17, .slice x.p18 (r.aPy).length x.c18]
structure RulOk (r : Rul) : Prop where
 aP2 : 0 <= r.aP2 /\ r.aP2 <= 255
 hs : r.aP1 = true
 days : r.wday.length <= 1000
theorem yF {R : Ending -> World -> Prop} {r : Rul} {x : Av} (rk : RulOk r) {b1 b2 b3 : Nat} {H0 : LV} (hr : cellsAt 36 H 0 (bG r x)) (h2 : knwn 37 H 0 19 = true) (ho : cellsAt 38 H 0 (uM r x)) (limB : Lim 36 B H0 S) (hno : lkp 11 S = none) (lim : Lim 39 ((38, b3) :: (37, b2) :: (36, b1) :: B) H S) (frH : ∀ k, k < 36 -> ∀ q, q < 4096 -> lkp (ky k q) H = lkp (ky k q) H0) (hday : ∀ S, SrcU F w0 S 11 (.slice x.p14 (r.wday).length x.c14) r.wday)
  (hR : ∀ (p : Option Addr) (c : Nat) w, Sees F w0 B H0 ((11, ⟨.slice p r.wday.length c, 82, 2, r.wday.length, eB r.wday⟩) :: S) w -> R (.returned (.agg (oc0 (aD r) { x with p14 := p, c14 := c }).toArray)) w) :
  GC Tryz.prog (Go.Fr.part [1, 1] (Go.Fr.bodyOf Tryz.f51)) (bodyPost Tryz.prog Tryz.f51 R) 66 [(1, pT b1), (2, pT b2), (3, pT b3)] F w0 ((38, b3) :: (37, b2) :: (36, b1) :: B) H S := by
 refine g4 ?_
 refine rZ2 (bH 36 rfl rfl (hr.get 1 _ rfl) kR dE) ?_
 refine bK rfl rk.hs ?_
 refine g2 ?_
 refine rl (bH 36 rfl rfl (hr.get 2 _ rfl) kR dE) (gL (cvo rfl (fun w_ s_ => aC1 _ w_) (g1 ?_)))
 refine gL (cI 38 rfl rfl rfl (rV (ho.get 1 _ rfl) (ho.get 2 _ rfl)) kR rfl ble (g6 ?_))
 refine rZ2 (bH 36 rfl rfl (hr.get 6 _ rfl) kR dE) ?_
 refine aB rfl (fun hc1 => ?_) (fun hc2 => ?_)
 .have hu1 : r.aP0 = true := hc1
  have hu : (aD r).u = r.untl := by unfold aD; simp only; rw [if_pos hu1]
  refine g2 ?_
  refine rl (bH 36 rfl rfl (hr.get 7 _ rfl) kR dE) (gL (cvo rfl (fun w_ s_ => aC1 _ w_) (g1 ?_)))
  refine gL (cI 38 rfl rfl rfl (rV (ho.get 7 _ rfl) (ho.get 8 _ rfl)) kR rfl ble (g6 ?_))
  refine rZ5 (bH 36 rfl rfl (hr.get 13 _ rfl) kR dE) ?_
  refine aY (ι := (Nat) × (Option Addr) × (Nat) × (Nat) × (List Value) × (List (Int × Int))) (fun | ⟨k, q, e, n, xs, l⟩ => r.wday.length - k) (fun | ⟨k, q, e, n, xs, l⟩ => (k <= r.wday.length) /\ (l = r.wday.take k) /\ (n = l.length) /\ (xs = eB l)) (fun | ⟨k, q, e, n, xs, l⟩ => [(1, pT b1), (2, pT b2), (3, pT b3), (48, .slice x.p14 (r.wday).length x.c14), (49, iV (r.wday.length)), (50, iV k)]) (fun _ => ((38, b3) :: (37, b2) :: (36, b1) :: B)) (fun | ⟨k, q, e, n, xs, l⟩ => (ky 38 14, .slice q n e) :: (ky 38 8, iV 0) :: (ky 38 7, iV r.untl) :: (ky 38 2, iV 0) :: (ky 38 1, iV r.start) :: H) (fun | ⟨k, q, e, n, xs, l⟩ => (11, ⟨.slice q n e, 82, 2, n, xs⟩) :: S) ⟨0, none, 0, 0, [], []⟩ ⟨Nat.zero_le _, rfl, rfl, rfl⟩ kns (fun w s => by exact (s.aPm 11 82 2).low 39 ((by repeat (first | exact lim | apply Lim.aPh _ dE dE | apply Lim.aPi _ dE))) agx (by exact Agr.pick (ho.get 14 _ rfl) (Agr.pick rfl (Agr.pick rfl (Agr.pick rfl (Agr.pick rfl (by repeat (first | exact Agr.refl _ | apply Agr.skip dE | apply Agr.seq dE))))))) agx) ?_
  rintro ⟨k, q, e, n, xs, l⟩ ⟨hk, hl, hn, hx⟩
  refine dS ?_
  refine g6 ?_
  refine aB rfl (fun hc1 => ?_) (fun hc2 => ?_)
  .have hlt : k < r.wday.length := by have := oT hc1; omega
   obtain ⟨y, hy⟩ : ∃ y, r.wday[k]? = some y := ⟨_, List.getElem?_eq_getElem hlt⟩
   refine cQ (fun w s => (hday _).head s oM) fun hh => ?_
   obtain ⟨by_, oy_, hp_y⟩ := hh
   have src_y := hday
   rw [hp_y] at src_y
   have hdl := rk.days
   have hln : l.length = k := by rw [hl, List.length_take]; omega
   refine g6 ?_
   refine rl (aC (e := 92) (n := 2) kR (congrArg (fun p => some (Value.slice p _ _)) hp_y) rfl oM oM) (rl (fL (cs := [iV y.1, iV y.2]) kR rfl (fun w s => (src_y _).cell hy s)) (gL (eJ 53 (cs := [iV 0, iV 0]) dE kR (lim.b 53 dE) (fun o ho => by repeat (first | exact lim.h 53 dE o ho | rw [bV dE ho dE])) ble (fun b5 hb5 => gL (sta 53 rfl rfl rfl rfl (g2 ?_))))))
   refine jY (fun i => i == 10) kR (gr 0 rfl (rfa 14) (gr 1 rfl (rld 38 rfl rfl rfl) (gr 2 rfl (rfa 0) (gr 3 rfl (rld 53 rfl rfl rfl) ?_))))
   refine gr 4 rfl (rfa 1) (gr 5 rfl (rld 53 rfl rfl rfl) (gn 6 rfl (cvo rfl (fun w_ s_ => rJ _ _ w_) (gk (gn 7 rfl (dB 60 (e := 82) (sz := 2) (by_ := 16) (zs := [iV 0, iV 0]) dE kR rfl dE dE rfl rfl rfl (fun bo => gk (gn 8 rfl (cW 11 60 (e := 82) (sz := 2) (by_ := 16) (zs := [iV 0, iV 0]) dE kR rfl dE rfl rfl rfl rfl ⟨rfl, rfl⟩ ⟨rfl, rfl⟩ aA7 sO sO (fun p' c' => gk ?_))))))))))
   refine gn 9 rfl (gI dE (rfa 14) (gk (gn 10 rfl (sto 38 rfl rfl rfl rfl (gk (fM kR ?_))))))
   refine g6 ?_
   refine aN ⟨k + 1, p', c', n + 1, xs ++ [iV y.1, iV y.2], l ++ [y]⟩ sO ⟨by omega, by rw [hl, List.take_add_one, hy]; rfl, by rw [List.length_append, hn]; rfl, by rw [hx]; exact nX _ _⟩ kns (fun w s => by exact s.low 39 ((by repeat (first | exact lim | apply Lim.aPh _ dE dE | apply Lim.aPi _ dE))) agx agx agx)
  .have hge : ¬ k < r.wday.length := by have := oF hc2; omega
   obtain rfl : k = r.wday.length := by omega
   rw [List.take_length] at hl
   subst hl hn hx
   refine g7 ?_
   have hc2_ : cellsAt 38 ((ky 38 14, .slice q r.wday.length e) :: (ky 38 8, iV 0) :: (ky 38 7, iV r.untl) :: (ky 38 2, iV 0) :: (ky 38 1, iV r.start) :: H) 0 (oc0 (aD r) { x with p14 := q, c14 := e }) := (cA1 ho (show lkp (ky 38 7) _ = some (iV (aD r).u) from by rw [hu]; rfl))
   refine aF0 (fun a k => k) (fun w s => s) (H' := (ky 38 14, .slice q r.wday.length e) :: (ky 38 8, iV 0) :: (ky 38 7, iV r.untl) :: (ky 38 2, iV 0) :: (ky 38 1, iV r.start) :: H) ?_
   refine rl ((dC 38 (cs := oc0 (aD r) { x with p14 := q, c14 := e }) rfl rfl hc2_.get ble kR)) (gL (cI 37 (cs := (oc0 (aD r) { x with p14 := q, c14 := e }).toArray) rfl rfl rfl (cL kX h2) kR rfl ble (g3 ?_)))
   refine aT (.inl rfl) rfl (lF 37 (cs := oc0 (aD r) { x with p14 := q, c14 := e }) rfl rfl (fun i v h => by have := aP (j := 37) (oc0 (aD r) { x with p14 := q, c14 := e }) 0 (H := (ky 38 14, .slice q r.wday.length e) :: (ky 38 8, iV 0) :: (ky 38 7, iV r.untl) :: (ky 38 2, iV 0) :: (ky 38 1, iV r.start) :: H) ble i v h; rwa [Nat.zero_add] at this) ble kR) fun w s => hR q e w ?_
   refine s.to (fun k b h => ?_) (fun k o v ho_ h => ?_) (fun k q h => ?_)
   .have hk : k < 36 := by
     rcases Nat.lt_or_ge k 36 with h' | h'
     .exact h'
     .rw [limB.b k h'] at h; cases h
    rw [aA oM, aA oM, aA oM]; exact h
   .have hk : k < 36 := by
     rcases Nat.lt_or_ge k 36 with h' | h'
     .exact h'
     .rw [limB.h k h' o ho_] at h; cases h
    have h1 := (dA (j := 37) (k := k) oM ho_ (oc0 (aD r) { x with p14 := q, c14 := e }) 0 (A := (ky 38 14, .slice q r.wday.length e) :: (ky 38 8, iV 0) :: (ky 38 7, iV r.untl) :: (ky 38 2, iV 0) :: (ky 38 1, iV r.start) :: H) ble).trans (Eq.trans (by repeat (first | rfl | rw [bV oM ho_ dE])) ((frH k hk o ho_).trans h))
    obtain ⟨b, e_, _⟩ := s.cells k o v ho_ h1
    rw [aA oM, aA oM, aA oM] at e_
    exact ⟨h1, by rw [e_]; rfl⟩
   .exact h
 .have hu1 : r.aP0 = false := hc2
  have hu : (aD r).u = 0 := by unfold aD; simp only; rw [hu1]; rfl
  refine g6 ?_
  refine rZ5 (bH 36 rfl rfl (hr.get 13 _ rfl) kR dE) ?_
  refine aY (ι := (Nat) × (Option Addr) × (Nat) × (Nat) × (List Value) × (List (Int × Int))) (fun | ⟨k, q, e, n, xs, l⟩ => r.wday.length - k) (fun | ⟨k, q, e, n, xs, l⟩ => (k <= r.wday.length) /\ (l = r.wday.take k) /\ (n = l.length) /\ (xs = eB l)) (fun | ⟨k, q, e, n, xs, l⟩ => [(1, pT b1), (2, pT b2), (3, pT b3), (48, .slice x.p14 (r.wday).length x.c14), (49, iV (r.wday.length)), (50, iV k)]) (fun _ => ((38, b3) :: (37, b2) :: (36, b1) :: B)) (fun | ⟨k, q, e, n, xs, l⟩ => (ky 38 14, .slice q n e) :: (ky 38 8, iV 0) :: (ky 38 7, iV 0) :: (ky 38 2, iV 0) :: (ky 38 1, iV r.start) :: H) (fun | ⟨k, q, e, n, xs, l⟩ => (11, ⟨.slice q n e, 82, 2, n, xs⟩) :: S) ⟨0, none, 0, 0, [], []⟩ ⟨Nat.zero_le _, rfl, rfl, rfl⟩ kns (fun w s => by exact (s.aPm 11 82 2).low 39 ((by repeat (first | exact lim | apply Lim.aPh _ dE dE | apply Lim.aPi _ dE))) agx (by exact Agr.pick (ho.get 14 _ rfl) (Agr.pick (ho.get 8 _ rfl) (Agr.pick (ho.get 7 _ rfl) (Agr.pick rfl (Agr.pick rfl (by repeat (first | exact Agr.refl _ | apply Agr.skip dE | apply Agr.seq dE))))))) agx) ?_
  rintro ⟨k, q, e, n, xs, l⟩ ⟨hk, hl, hn, hx⟩
  refine dS ?_
  refine g6 ?_
  refine aB rfl (fun hc1 => ?_) (fun hc2 => ?_)
  .have hlt : k < r.wday.length := by have := oT hc1; omega
   obtain ⟨y, hy⟩ : ∃ y, r.wday[k]? = some y := ⟨_, List.getElem?_eq_getElem hlt⟩
   refine cQ (fun w s => (hday _).head s oM) fun hh => ?_
   obtain ⟨by_, oy_, hp_y⟩ := hh
   have src_y := hday
   rw [hp_y] at src_y
   have hdl := rk.days
   have hln : l.length = k := by rw [hl, List.length_take]; omega
   refine g6 ?_
   refine rl (aC (e := 92) (n := 2) kR (congrArg (fun p => some (Value.slice p _ _)) hp_y) rfl oM oM) (rl (fL (cs := [iV y.1, iV y.2]) kR rfl (fun w s => (src_y _).cell hy s)) (gL (eJ 53 (cs := [iV 0, iV 0]) dE kR (lim.b 53 dE) (fun o ho => by repeat (first | exact lim.h 53 dE o ho | rw [bV dE ho dE])) ble (fun b5 hb5 => gL (sta 53 rfl rfl rfl rfl (g2 ?_))))))
   refine jY (fun i => i == 10) kR (gr 0 rfl (rfa 14) (gr 1 rfl (rld 38 rfl rfl rfl) (gr 2 rfl (rfa 0) (gr 3 rfl (rld 53 rfl rfl rfl) ?_))))
   refine gr 4 rfl (rfa 1) (gr 5 rfl (rld 53 rfl rfl rfl) (gn 6 rfl (cvo rfl (fun w_ s_ => rJ _ _ w_) (gk (gn 7 rfl (dB 60 (e := 82) (sz := 2) (by_ := 16) (zs := [iV 0, iV 0]) dE kR rfl dE dE rfl rfl rfl (fun bo => gk (gn 8 rfl (cW 11 60 (e := 82) (sz := 2) (by_ := 16) (zs := [iV 0, iV 0]) dE kR rfl dE rfl rfl rfl rfl ⟨rfl, rfl⟩ ⟨rfl, rfl⟩ aA7 sO sO (fun p' c' => gk ?_))))))))))
   refine gn 9 rfl (gI dE (rfa 14) (gk (gn 10 rfl (sto 38 rfl rfl rfl rfl (gk (fM kR ?_))))))
   refine g6 ?_
   refine aN ⟨k + 1, p', c', n + 1, xs ++ [iV y.1, iV y.2], l ++ [y]⟩ sO ⟨by omega, by rw [hl, List.take_add_one, hy]; rfl, by rw [List.length_append, hn]; rfl, by rw [hx]; exact nX _ _⟩ kns (fun w s => by exact s.low 39 ((by repeat (first | exact lim | apply Lim.aPh _ dE dE | apply Lim.aPi _ dE))) agx agx agx)
  .have hge : ¬ k < r.wday.length := by have := oF hc2; omega
   obtain rfl : k = r.wday.length := by omega
   rw [List.take_length] at hl
   subst hl hn hx
   refine g7 ?_
   have hc2_ : cellsAt 38 ((ky 38 14, .slice q r.wday.length e) :: (ky 38 8, iV 0) :: (ky 38 7, iV 0) :: (ky 38 2, iV 0) :: (ky 38 1, iV r.start) :: H) 0 (oc0 (aD r) { x with p14 := q, c14 := e }) := (cA1 ho (show lkp (ky 38 7) _ = some (iV (aD r).u) from by rw [hu]; rfl))
   refine aF0 (fun a k => k) (fun w s => s) (H' := (ky 38 14, .slice q r.wday.length e) :: (ky 38 8, iV 0) :: (ky 38 7, iV 0) :: (ky 38 2, iV 0) :: (ky 38 1, iV r.start) :: H) ?_
   refine rl ((dC 38 (cs := oc0 (aD r) { x with p14 := q, c14 := e }) rfl rfl hc2_.get ble kR)) (gL (cI 37 (cs := (oc0 (aD r) { x with p14 := q, c14 := e }).toArray) rfl rfl rfl (cL kX h2) kR rfl ble (g3 ?_)))
   refine aT (.inl rfl) rfl (lF 37 (cs := oc0 (aD r) { x with p14 := q, c14 := e }) rfl rfl (fun i v h => by have := aP (j := 37) (oc0 (aD r) { x with p14 := q, c14 := e }) 0 (H := (ky 38 14, .slice q r.wday.length e) :: (ky 38 8, iV 0) :: (ky 38 7, iV 0) :: (ky 38 2, iV 0) :: (ky 38 1, iV r.start) :: H) ble i v h; rwa [Nat.zero_add] at this) ble kR) fun w s => hR q e w ?_
   refine s.to (fun k b h => ?_) (fun k o v ho_ h => ?_) (fun k q h => ?_)
   .have hk : k < 36 := by
     rcases Nat.lt_or_ge k 36 with h' | h'
     .exact h'
     .rw [limB.b k h'] at h; cases h
    rw [aA oM, aA oM, aA oM]; exact h
   .have hk : k < 36 := by
     rcases Nat.lt_or_ge k 36 with h' | h'
     .exact h'
     .rw [limB.h k h' o ho_] at h; cases h
    have h1 := (dA (j := 37) (k := k) oM ho_ (oc0 (aD r) { x with p14 := q, c14 := e }) 0 (A := (ky 38 14, .slice q r.wday.length e) :: (ky 38 8, iV 0) :: (ky 38 7, iV 0) :: (ky 38 2, iV 0) :: (ky 38 1, iV r.start) :: H) ble).trans (Eq.trans (by repeat (first | rfl | rw [bV oM ho_ dE])) ((frH k hk o ho_).trans h))
    obtain ⟨b, e_, _⟩ := s.cells k o v ho_ h1
    rw [aA oM, aA oM, aA oM] at e_
    exact ⟨h1, by rw [e_]; rfl⟩
   .exact h
theorem aA5 {r : Rul} {x : Av} (rk : RulOk r) (limB : Lim 36 B H S) (hno : lkp 11 S = none) (hday : ∀ S, SrcU F w0 S 11 (.slice x.p14 (r.wday).length x.c14) r.wday) : ∀ w, Sees F w0 B H S w -> Calls Tryz.prog 51 #[.agg (bG r x).toArray] w fun e w' => ∃ p c, e = .returned (.agg (oc0 (aD r) { x with p14 := p, c14 := c }).toArray) /\ Sees F w0 B H ((11, ⟨.slice p r.wday.length c, 82, 2, r.wday.length, eB r.wday⟩) :: S) w' := by
 have hfq := rk.aP2
 intro w s
 refine aF (args := [.agg (bG r x).toArray]) (L := [(0, .agg (bG r x).toArray)]) (N := 66) Tryz.func51 rfl rfl ble rfl s (g2 ?_)
 refine gL (fU 36 (cs := bG r x) dE rfl rfl (limB.b 36 dE) (fun o ho => limB.h 36 dE o ho) ble (fun b1 hb1 => gL (eJ 37 (cs := zL2) dE kR (limB.b 37 dE) (fun o ho => by repeat (first | exact limB.h 37 dE o ho | rw [aJ dE ho _ _ ble])) ble (fun b2 hb2 => g3 ?_))))
 refine aF5 (fun i => i == 30) kR (gr 0 rfl (rfa 0) (gr 1 rfl (rld 36 rfl rfl rfl) ?_))
 first
  | refine gr 2 rfl (vV rfl kR kR oM) ?_
  | refine gr 2 rfl (lE rfl kR kR) ?_
 refine gr 3 rfl (rfa 3) (gr 4 rfl (rld 36 rfl rfl rfl) (gr 5 rfl (rfa 4) (gr 6 rfl (rld 36 rfl rfl rfl) (gr 8 rfl (rfa 5) ?_))))
 refine gr 9 rfl (rld 36 rfl rfl rfl) (gr 10 rfl (rfa 8) (gr 11 rfl (rld 36 rfl rfl rfl) (gr 12 rfl (rfa 9) (gr 13 rfl (rld 36 rfl rfl rfl) ?_))))
 refine gr 14 rfl (rfa 10) (gr 15 rfl (rld 36 rfl rfl rfl) (gr 16 rfl (rfa 11) (gr 17 rfl (rld 36 rfl rfl rfl) (gr 18 rfl (rfa 12) ?_))))
 refine gr 19 rfl (rld 36 rfl rfl rfl) (gr 20 rfl (rfa 14) (gr 21 rfl (rld 36 rfl rfl rfl) (gr 22 rfl (rfa 15) (gr 23 rfl (rld 36 rfl rfl rfl) ?_))))
 refine gr 24 rfl (rfa 16) (gr 25 rfl (rld 36 rfl rfl rfl) (gr 26 rfl (rfa 17) (gr 27 rfl (rld 36 rfl rfl rfl) (l6 (i := 7) (j := 29) rfl rfl rfl rfl kR rfl rfl ?_ ?_))))
 .refine cvo rfl (fun w_ s_ => rJ _ _ w_) (fS (fun _ w s => by exact s.low 38 (Lim.aPk dE _ 0 ble (Lim.aPk dE _ 0 ble (((limB.mono dE).aPj dE).aPj dE))) agx agx agx) ?_)
  refine l6 (i := 28) (j := 29) rfl rfl rfl rfl kR rfl rfl ?_ ?_
  .refine gI dE (iI (vs := [(0, iV r.aP2), (2, iV r.aPp), (3, .agg #[iV r.aPq, iV 0]), (4, iV r.count), (6, .slice x.p9 (r.aPz).length x.c9), (7, .slice x.p10 (r.aPt).length x.c10), (8, .slice x.p11 (r.aPu).length x.c11), (9, .slice x.p12 (r.aPw).length x.c12), (10, .slice x.p13 (r.aPx).length x.c13), (12, .slice x.p15 (r.hour).length x.c15), (13, .slice x.p16 (r.aPr).length x.c16), (14, .slice x.p17 (r.aPs).length x.c17), (15, .slice x.p18 (r.aPy).length x.c18)]) (v := .agg (uM r x).toArray) rfl kW) (fS (fun _ w s => by exact s.low 38 (Lim.aPk dE _ 0 ble (Lim.aPk dE _ 0 ble (((limB.mono dE).aPj dE).aPj dE))) agx agx agx) ?_)
   refine gn 29 rfl (eJ 38 (cs := zL2) dE kR (limB.b 38 dE) (fun o ho => by repeat (first | exact limB.h 38 dE o ho | rw [aJ dE ho _ _ ble])) ble (fun b3 hb3 => fS (fun _ w s => by exact s.low 38 (Lim.aPk dE _ 0 ble (Lim.aPk dE _ 0 ble (((limB.mono dE).aPj dE).aPj dE))) agx agx agx) (gn 30 rfl (cI 38 (cs := (uM r x).toArray) rfl rfl rfl (eG (gW zL2 ble) 0 19 ble) kR rfl ble (gk (fM kR ?_))))))
   refine g1 ?_
   refine dO (L' := [(1, pT b1), (2, pT b2), (3, pT b3)]) kns (fun w s => s) (H' := dL 38 0 (uM r x) (aL 38 0 zL2 ++ (aL 37 0 zL2 ++ (aL 36 0 (bG r x) ++ H)))) ?_
   refine yF (x := x) rk (gP fun i u h => (dA dE (by have := (List.getElem?_eq_some_iff.1 h).1; have h3 : (bG r x).length = 18 := rfl; omega) _ _ ble).trans ((aJ dE (by have := (List.getElem?_eq_some_iff.1 h).1; have h3 : (bG r x).length = 18 := rfl; omega) _ _ ble).trans ((aJ dE (by have := (List.getElem?_eq_some_iff.1 h).1; have h3 : (bG r x).length = 18 := rfl; omega) _ _ ble).trans (eD (bG r x) 0 ble i u h)))) ?_ (gP fun i u h => aP (uM r x) 0 ble i u h) limB hno ?_ ?_ hday (fun p c w s => ⟨p, c, rfl, s⟩)
   .exact cL (Knw.seq _ _ (Knw.put _ _ (Knw.refl _))) (eG (gW zL2 ble) 0 19 ble)
   .exact Lim.seqH dE _ 0 ble (Lim.aPk dE _ 0 ble (Lim.aPk dE _ 0 ble (Lim.aPk dE _ 0 ble ((((limB.mono dE).aPj dE).aPj dE).aPj dE))))
   .exact fun k hk o_ ho_ => (dA oM ho_ _ _ ble).trans ((aJ oM ho_ _ _ ble).trans ((aJ oM ho_ _ _ ble).trans (aJ oM ho_ _ _ ble)))
  .refine eJ 38 (cs := zL2) dE kR (limB.b 38 dE) (fun o ho => by repeat (first | exact limB.h 38 dE o ho | rw [aJ dE ho _ _ ble])) ble (fun b3 hb3 => fS (fun _ w s => by exact s.low 38 (Lim.aPk dE _ 0 ble (Lim.aPk dE _ 0 ble (((limB.mono dE).aPj dE).aPj dE))) agx agx agx) ?_)
   refine gn 28 rfl (gI dE (iI (vs := [(0, iV r.aP2), (2, iV r.aPp), (3, .agg #[iV r.aPq, iV 0]), (4, iV r.count), (6, .slice x.p9 (r.aPz).length x.c9), (7, .slice x.p10 (r.aPt).length x.c10), (8, .slice x.p11 (r.aPu).length x.c11), (9, .slice x.p12 (r.aPw).length x.c12), (10, .slice x.p13 (r.aPx).length x.c13), (12, .slice x.p15 (r.hour).length x.c15), (13, .slice x.p16 (r.aPr).length x.c16), (14, .slice x.p17 (r.aPs).length x.c17), (15, .slice x.p18 (r.aPy).length x.c18)]) (v := .agg (uM r x).toArray) rfl kW) (fS (fun _ w s => by exact s.low 38 (Lim.aPk dE _ 0 ble (Lim.aPk dE _ 0 ble (((limB.mono dE).aPj dE).aPj dE))) agx agx agx) (gn 30 rfl (cI 38 (cs := (uM r x).toArray) rfl rfl rfl (eG (gW zL2 ble) 0 19 ble) kR rfl ble (gk (fM kR ?_))))))
   refine g1 ?_
   refine dO (L' := [(1, pT b1), (2, pT b2), (3, pT b3)]) kns (fun w s => s) (H' := dL 38 0 (uM r x) (aL 38 0 zL2 ++ (aL 37 0 zL2 ++ (aL 36 0 (bG r x) ++ H)))) ?_
   refine yF (x := x) rk (gP fun i u h => (dA dE (by have := (List.getElem?_eq_some_iff.1 h).1; have h3 : (bG r x).length = 18 := rfl; omega) _ _ ble).trans ((aJ dE (by have := (List.getElem?_eq_some_iff.1 h).1; have h3 : (bG r x).length = 18 := rfl; omega) _ _ ble).trans ((aJ dE (by have := (List.getElem?_eq_some_iff.1 h).1; have h3 : (bG r x).length = 18 := rfl; omega) _ _ ble).trans (eD (bG r x) 0 ble i u h)))) ?_ (gP fun i u h => aP (uM r x) 0 ble i u h) limB hno ?_ ?_ hday (fun p c w s => ⟨p, c, rfl, s⟩)
   .exact cL (Knw.seq _ _ (Knw.put _ _ (Knw.refl _))) (eG (gW zL2 ble) 0 19 ble)
   .exact Lim.seqH dE _ 0 ble (Lim.aPk dE _ 0 ble (Lim.aPk dE _ 0 ble (Lim.aPk dE _ 0 ble ((((limB.mono dE).aPj dE).aPj dE).aPj dE))))
   .exact fun k hk o_ ho_ => (dA oM ho_ _ _ ble).trans ((aJ oM ho_ _ _ ble).trans ((aJ oM ho_ _ _ ble).trans (aJ oM ho_ _ _ ble)))
 .refine eJ 38 (cs := zL2) dE kR (limB.b 38 dE) (fun o ho => by repeat (first | exact limB.h 38 dE o ho | rw [aJ dE ho _ _ ble])) ble (fun b3 hb3 => fS (fun _ w s => by exact s.low 38 (Lim.aPk dE _ 0 ble (Lim.aPk dE _ 0 ble (((limB.mono dE).aPj dE).aPj dE))) agx agx agx) ?_)
  refine gn 7 rfl (cvo rfl (fun w_ s_ => rJ _ _ w_) (fS (fun _ w s => by exact s.low 38 (Lim.aPk dE _ 0 ble (Lim.aPk dE _ 0 ble (((limB.mono dE).aPj dE).aPj dE))) agx agx agx) (gn 28 rfl (gI dE (iI (vs := [(0, iV r.aP2), (2, iV r.aPp), (3, .agg #[iV r.aPq, iV 0]), (4, iV r.count), (6, .slice x.p9 (r.aPz).length x.c9), (7, .slice x.p10 (r.aPt).length x.c10), (8, .slice x.p11 (r.aPu).length x.c11), (9, .slice x.p12 (r.aPw).length x.c12), (10, .slice x.p13 (r.aPx).length x.c13), (12, .slice x.p15 (r.hour).length x.c15), (13, .slice x.p16 (r.aPr).length x.c16), (14, .slice x.p17 (r.aPs).length x.c17), (15, .slice x.p18 (r.aPy).length x.c18)]) (v := .agg (uM r x).toArray) rfl kW) (fS (fun _ w s => by exact s.low 38 (Lim.aPk dE _ 0 ble (Lim.aPk dE _ 0 ble (((limB.mono dE).aPj dE).aPj dE))) agx agx agx) (gn 30 rfl (cI 38 (cs := (uM r x).toArray) rfl rfl rfl (eG (gW zL2 ble) 0 19 ble) kR rfl ble (gk (fM kR ?_)))))))))
  refine g1 ?_
  refine dO (L' := [(1, pT b1), (2, pT b2), (3, pT b3)]) kns (fun w s => s) (H' := dL 38 0 (uM r x) (aL 38 0 zL2 ++ (aL 37 0 zL2 ++ (aL 36 0 (bG r x) ++ H)))) ?_
  refine yF (x := x) rk (gP fun i u h => (dA dE (by have := (List.getElem?_eq_some_iff.1 h).1; have h3 : (bG r x).length = 18 := rfl; omega) _ _ ble).trans ((aJ dE (by have := (List.getElem?_eq_some_iff.1 h).1; have h3 : (bG r x).length = 18 := rfl; omega) _ _ ble).trans ((aJ dE (by have := (List.getElem?_eq_some_iff.1 h).1; have h3 : (bG r x).length = 18 := rfl; omega) _ _ ble).trans (eD (bG r x) 0 ble i u h)))) ?_ (gP fun i u h => aP (uM r x) 0 ble i u h) limB hno ?_ ?_ hday (fun p c w s => ⟨p, c, rfl, s⟩)
  .exact cL (Knw.seq _ _ (Knw.put _ _ (Knw.refl _))) (eG (gW zL2 ble) 0 19 ble)
  .exact Lim.seqH dE _ 0 ble (Lim.aPk dE _ 0 ble (Lim.aPk dE _ 0 ble (Lim.aPk dE _ 0 ble ((((limB.mono dE).aPj dE).aPj dE).aPj dE))))
  .exact fun k hk o_ ho_ => (dA oM ho_ _ _ ble).trans ((aJ oM ho_ _ _ ble).trans ((aJ oM ho_ _ _ ble).trans (aJ oM ho_ _ _ ble)))
def z30 : List Value := [iV 0, iV 0, iV 0, iV 0, iV 0, iV 0, iV 0, .pointer none, iV 0, iV 0, iV 0, iV 0, iV 0, iV 0, iV 0, sN, sN, sN, sN, sN, sN, sN, sN, sN, iV 0, iV 0, sN, sN, .bool false, sN]
def it1 (o : Opn) (r : Ru) (ts : List Int) : It where
 y := Cal.yearOf (o.d / 86400)
 mo := Cal.monthOf (o.d / 86400)
 d := Cal.mdayOf (o.d / 86400)
 h := o.d % 86400 / 3600
 mi := o.d % 86400 / 60 % 60
 s := o.d % 86400 % 60
 wd := ((o.d / 86400 + 1) % 7 + 6) % 7
 ly := Cal.yearOf (o.d / 86400)
 lm := Cal.monthOf (o.d / 86400)
 wno := r.wnoF (Cal.yearOf (o.d / 86400))
 nwm := r.nwmF (Cal.yearOf (o.d / 86400)) (Cal.monthOf (o.d / 86400))
 eas := r.easF (Cal.yearOf (o.d / 86400))
 ts := ts
 aP3 := 0
 count := o.count
 rem := []
 fin := false
abbrev it0 (o : Opn) (r : Ru) : It := it1 o r (l7 o)
def r5 (x : Av) : Ra := ⟨x.p9, x.c9, x.pm, x.cm, x.q48, x.e48, x.q49, x.e49, x.p12, x.c12, x.p13, x.c13, x.q52, x.e52, x.q53, x.e53, x.q54, x.e54, x.q55, x.e55, x.q56, x.e56, x.p18, x.c18⟩
structure RuLen (r : Ru) : Prop where
 l46 : r.aPz.length <= 1000000000
 l47 : r.aPt.length <= 1000000000
 l48 : r.aPu.length <= 1000000000
 l49 : r.aPv.length <= 1000000000
 l50 : r.aPw.length <= 1000000000
 l51 : r.aPx.length <= 1000000000
 l52 : r.wday.length <= 1000000000
 l54 : r.hour.length <= 1000000000
 l55 : r.aPr.length <= 1000000000
 l56 : r.aPs.length <= 1000000000
 l57 : r.aPy.length <= 1000000000
 l53 : r.nwd.length <= 1000000000
theorem yP {d : Int} (h : 0 <= d) : 1 <= Cal.yearOf d := by
 obtain ⟨e, h0, h1⟩ := Cal.split_spec d
 have := Cal.lp_01 (Cal.yearOf d)
 unfold Cal.daysTo at e
 omega
theorem aC4 {d : Int} (h : d < 3652059) : Cal.yearOf d <= 9999 := by
 obtain ⟨e, h0, h1⟩ := Cal.split_spec d
 rcases Int.lt_or_le 9999 (Cal.yearOf d) with hh | hh
 .have := Cal.daysTo_mono (show (10000 : Int) <= Cal.yearOf d by omega)
  have e2 : Cal.daysTo 10000 = 3652059 := by decide
  omega
 .exact hh
def z5 (o : Opn) (rb : Nat) : List Value := [iV (Cal.yearOf (o.d / 86400)), iV (Cal.monthOf (o.d / 86400)), iV (Cal.mdayOf (o.d / 86400)), iV (o.d % 86400 / 3600), iV (o.d % 86400 / 60 % 60), iV (o.d % 86400 % 60), iV (((o.d / 86400 + 1) % 7 + 6) % 7), pT rb, iV 0, iV 0, iV 0, iV 0, iV 0, iV 0, iV 0, sN, sN, sN, sN, sN, sN, sN, sN, sN, iV 0, iV 0, sN, sN, .bool false, sN]
theorem vok (t c : Value) : VOk [(ky 0 23, t), (ky 0 25, c)] := fun q v h => by
 rcases bD h with ⟨h, _⟩ | ⟨_, h⟩
 .exact .inl h
 .rcases bD h with ⟨h, _⟩ | ⟨_, h⟩
  .exact .inr h
  .simp [lkp] at h
theorem uG {Q : Exit -> Act -> World -> Prop} {K : Act -> World -> Prop} {N d : Nat} {L : Fr.Loc} {ty : TypeId} {pos : String} {aft : Array Edge} {V Hp : LV} {S0 : LS} {H0 : LV} {it rb : Nat} {r : Ru} {l : Ra} {s : It} {y m : Int} {f : FuncId} {asl : List Operand} {ats : Array TypeId} {args : List Value} (hd : d < N) (hf : gM Tryz.prog f = true) (ha : Fr.evs L asl = some args)
  (hc : ∀ w, Sees F w0 B H S w -> Calls Tryz.prog f args.toArray w fun e w' => rG V Hp y m F w0 S0 H0 it rb r l s B e w')
  (hn : ∀ a H' S', St F w0 S0 H0 it rb r l s a B ((ky 0 9, iV m) :: (ky 0 8, iV y) :: (V ++ H')) S' -> Kp H' Hp -> GK K N ((d, .tuple #[]) :: L) F w0 B ((ky 0 9, iV m) :: (ky 0 8, iV y) :: H') S') : GO Tryz.prog ⟨some d, .call ⟨.value (.func f), asl.toArray, ats⟩, ty, pos, aft, none⟩ Q K N L F w0 B H S := fun a w k s => by
 show Oper.upon _ _ _ _ _ _
 rw [oL k hf ha]
 refine (hc w s).mono ?_
 rintro e w' ⟨a', H', S', rfl, hst, hkp, s'⟩
 exact hn a' H' S' hst hkp _ _ (k.put hd _) s'
theorem it_b {R : Ending -> World -> Prop} {o : Opn} {x : Av} {wF : Int -> List Int} {nF : Int -> Int -> List Int} {eF : Int -> List Int} (ok : OpOk o) (hf4 : o.aP2 < 4) (hr : RuOk (bE o wF nF eF)) (hmk : MkOk (bE o wF nF eF)) (hlen : RuLen (bE o wF nF eF)) {rb : Nat} {S0 : LS} (of : OutF F w0 o x S0 S) (hR1 : lkp 1 B = some rb) (hc1 : cellsAt 1 H 0 (j8 o x)) (h38 : ∀ q, q < 4096 -> lkp (ky 38 q) H = none) {it : Nat} (h0 : cellsAt 0 H 0 (z5 o rb)) (lim : Lim 40 ((0, it) :: B) H S) (hdm : o.d < 315537897600) (hR : ∀ a H' S' w, St F w0 S' H' it rb (bE o wF nF eF) (r5 x) (it0 o (bE o wF nF eF)) a ((0, it) :: B) H' S' -> (∀ k, 26 <= k -> k < 40 -> lkp k S' = lkp k S) -> (∀ q, q < 4096 -> lkp (ky 38 q) H' = none) -> Sees F w0 ((0, it) :: B) H' S' w -> R (.returned (.func (.func 77) #[pT it] #[])) w) :
  GC Tryz.prog (Go.Fr.part [1, 1, 1, 1, 1, 1] (Go.Fr.bodyOf Tryz.f52)) (bodyPost Tryz.prog Tryz.f52 R) 148 [(0, pT rb), (3, pT it)] F w0 ((0, it) :: B) H S := by
 have hd_ := ok.d
 have hyp_ := yP (d := o.d / 86400) oM
 have hyd := iQ (x := o.d) oM
 have hym := aC4 (d := o.d / 86400) oM
 refine g4 ?_
 refine rZ1 (bH 0 rfl rfl (h0.get 0 _ rfl) kR dE) ?_
 refine rl (bH 0 rfl rfl (h0.get 1 _ rfl) kR dE) ?_
 have hgen : ∀ w, Sees F w0 ((0, it) :: B) H S w -> Calls Tryz.prog 74 #[.pointer (some ⟨it, 7, none⟩), iV (Cal.yearOf (o.d / 86400)), iV (Cal.monthOf (o.d / 86400))] w fun e w' => rG [(ky 0 23, .slice x.tp (l7 o).length x.tc), (ky 0 25, iV o.count)] H (Cal.yearOf (o.d / 86400)) (Cal.monthOf (o.d / 86400)) F w0 ((0, ⟨sN, 80, 2, 0, []⟩) :: (1, ⟨sN, 171, 2, 0, []⟩) :: S) H it rb (bE o wF nF eF) (r5 x) (it0 o (bE o wF nF eF)) ((0, it) :: B) e w' := fun w s => by
  have hg := qJ (vok (.slice x.tp (l7 o).length x.tc) (iV o.count)) (S0 := ((0, ⟨sN, 80, 2, 0, []⟩) :: (1, ⟨sN, 171, 2, 0, []⟩) :: S)) (H0 := H) (r := (bE o wF nF eF)) (l := r5 x) (s := { it0 o (bE o wF nF eF) with ly := 0, lm := 0, wno := [], nwm := [], eas := [] }) (a := ({ b3 := 0, c3 := 0, b4 := 0, c4 := 0, b5 := 0, c5 := 0, b6 := 0, c6 := 0, b7 := 0, c7 := 0, p20 := none, c20 := 0, p21 := none, c21 := 0, p22 := none, c22 := 0, tp := x.tp, tc := x.tc, rp := none, rc := 0, rs := none, rk := 0, rn := 0, rj := 0, rall := [], bk := sN, dp := none, dc := 0, dn := 0, dxs := [], ln := iV 0 } : Ad)) (B := (0, it) :: B) (H := H) (S := ((0, ⟨sN, 80, 2, 0, []⟩) :: (1, ⟨sN, 171, 2, 0, []⟩) :: S)) rfl hR1 (h0.get 7 _ rfl) (hc1.get 39 _ rfl) (hc1.get 40 _ rfl) (h0.get 10 _ rfl) (h0.get 11 _ rfl) (h0.get 12 _ rfl) (h0.get 13 _ rfl) (h0.get 14 _ rfl) (h0.get 15 _ rfl) (h0.get 16 _ rfl) (h0.get 17 _ rfl) (h0.get 18 _ rfl) (h0.get 19 _ rfl) (y := Cal.yearOf (o.d / 86400)) (m := Cal.monthOf (o.d / 86400)) oM hr hmk (by have := Cal.month_bd (o.d / 86400); omega) (ly := 0) (lm := 0) (h0.get 8 _ rfl) (h0.get 9 _ rfl) (fun _ => rfl) (fun _ => rfl) (fun h => absurd h oM) (fun _ b6 c6 b3 c3 b4 c4 b5 c5 b7 c7 h385 => ⟨rfl, hR1, (by repeat (first | exact lim | apply Lim.aPh _ dE dE | apply Lim.aPi _ dE)), (h0.get 0 _ rfl), (h0.get 1 _ rfl), (h0.get 2 _ rfl), (h0.get 3 _ rfl), (h0.get 4 _ rfl), (h0.get 5 _ rfl), (h0.get 6 _ rfl), (h0.get 7 _ rfl), rfl, rfl, rfl, rfl, rfl, rfl, rfl, rfl, rfl, rfl, rfl, rfl, (h0.get 20 _ rfl), (h0.get 21 _ rfl), (h0.get 22 _ rfl), rfl, (h0.get 24 _ rfl), rfl, (h0.get 26 _ rfl), (h0.get 27 _ rfl), (h0.get 28 _ rfl), (h0.get 29 _ rfl), rfl, rfl, (of.r2 hf4), rfl, rfl, rfl, rfl, rfl, (fun h => absurd h (Nat.lt_irrefl 0)), (fun h => absurd h (Nat.lt_irrefl 0)), (fun h => absurd h (Nat.lt_irrefl 0)), (fun h => absurd h (Nat.lt_irrefl 0)), (fun h => absurd h (Nat.lt_irrefl 0)), (fun h => absurd h (Nat.lt_irrefl 0)), h385, aG, (fun k_ h1_ h2_ o_ ho_ => by repeat (first | rfl | rw [bV oM ho_ dE] | rw [List.cons_append] | rw [List.nil_append])), (fun _ => ⟨rfl, rfl, rfl, rfl⟩), (fun h => absurd rfl h), (hc1.get 38 _ rfl), (hc1.get 39 _ rfl), (hc1.get 40 _ rfl), (hc1.get 41 _ rfl), (hc1.get 42 _ rfl), (hc1.get 44 _ rfl), (hc1.get 45 _ rfl), (hc1.get 46 _ rfl), (hc1.get 47 _ rfl), (hc1.get 48 _ rfl), (hc1.get 49 _ rfl), (hc1.get 50 _ rfl), (hc1.get 51 _ rfl), (hc1.get 52 _ rfl), (hc1.get 53 _ rfl), (hc1.get 54 _ rfl), (hc1.get 55 _ rfl), (hc1.get 56 _ rfl), (hc1.get 57 _ rfl), (hc1.get 59 _ rfl), ((of.s9.toI dE).to aG), ((of.sm.toI dE).to aG), ((SrcI.row dE of.r12).to aG), ((SrcI.row dE of.r13).to aG), ((of.s12.toI dE).to aG), ((of.s13.toI dE).to aG), ((SrcI.row dE of.r14).to aG), ((of.sh.toI dE).to aG), ((of.si.toI dE).to aG), ((of.ss.toI dE).to aG), ((of.s18.toI dE).to aG), hlen.l46, hlen.l47, hlen.l48, hlen.l49, hlen.l50, hlen.l51, hlen.l52, hlen.l54, hlen.l55, hlen.l56, hlen.l57, ((SrcP.row dE of.r15).to aG), hlen.l53⟩) w ((s.aPm 1 171 2).aPm 0 80 2)
  have e1 : (if Cal.yearOf (o.d / 86400) = (0 : Int) then ([] : List Int) else (bE o wF nF eF).wnoF (Cal.yearOf (o.d / 86400))) = (bE o wF nF eF).wnoF (Cal.yearOf (o.d / 86400)) := if_neg oM
  have e2 : (if Cal.yearOf (o.d / 86400) = (0 : Int) /\ Cal.monthOf (o.d / 86400) = (0 : Int) then ([] : List Int) else (bE o wF nF eF).nwmF (Cal.yearOf (o.d / 86400)) (Cal.monthOf (o.d / 86400))) = (bE o wF nF eF).nwmF (Cal.yearOf (o.d / 86400)) (Cal.monthOf (o.d / 86400)) := if_neg oM
  rw [e1, e2] at hg
  exact hg
 refine gL (uG dE kR rfl hgen (fun a1 H1 S1 hst hkp => g8 ?_))
 refine rZ3 (bH 1 rfl hR1 ((hkp 1 38 dE (.inl dE)).trans (hc1.get 38 _ rfl)) kR dE) ?_
 refine bK rfl (decide_eq_true hf4) ?_
 refine g4 ?_
 refine rZ1 (bH 1 rfl hR1 ((hkp 1 58 dE (.inl dE)).trans (hc1.get 58 _ rfl)) kR dE) ?_
 refine gL (cY 0 rfl rfl rfl ((hkp 0 23 dE (.inr (.inr (.inr dE)))).trans (h0.get 23 _ rfl)) kR rfl dE (g7 ?_))
 refine rZ1 (bH 1 rfl hR1 ((hkp 1 43 dE (.inl dE)).trans (hc1.get 43 _ rfl)) kR dE) ?_
 refine gL (cY 0 rfl rfl rfl ((hkp 0 25 dE (.inr (.inr (.inr dE)))).trans (h0.get 25 _ rfl)) kR rfl dE (g4 ?_))
 refine rZ4 ((iJ (first := [pT it]) (capt := []) rfl rfl)) ?_
 refine gR rfl fun w s => ?_
 refine hR a1 _ _ w ?_ ?_ ?_ s
 .exact (sT hst (lim := fun _ => ⟨hst.lim.b, fun k_ h_ o_ ho_ => (aD2 (vok _ _) oM ho_).trans (hst.lim.h k_ h_ o_ ho_), hst.lim.s⟩))
 .exact fun k h1 h2 => (hst.frS k oM h2).trans aH
 .exact fun q hq => (aD2 (vok _ _) dE hq).trans ((hst.frH 38 dE dE q hq).trans (h38 q hq))
theorem it_a {R : Ending -> World -> Prop} {o : Opn} {x : Av} (ok : OpOk o) {rb : Nat} (hR1 : lkp 1 B = some rb) (hc1 : cellsAt 1 H 0 (j8 o x)) (h38 : ∀ q, q < 4096 -> lkp (ky 38 q) H = none) {it : Nat} (h0 : cellsAt 0 H 0 z30) (lim : Lim 40 ((0, it) :: B) H S)
  (hb : ∀ {H' : LV}, cellsAt 1 H' 0 (j8 o x) -> (∀ q, q < 4096 -> lkp (ky 38 q) H' = none) -> cellsAt 0 H' 0 (z5 o rb) -> Lim 40 ((0, it) :: B) H' S -> GC Tryz.prog (Go.Fr.part [1, 1, 1, 1, 1, 1] (Go.Fr.bodyOf Tryz.f52)) (bodyPost Tryz.prog Tryz.f52 R) 148 [(0, pT rb), (3, pT it)] F w0 ((0, it) :: B) H' S) :
  GC Tryz.prog (Go.Fr.part [1, 1] (Go.Fr.bodyOf Tryz.f52)) (bodyPost Tryz.prog Tryz.f52 R) 148 [(0, pT rb), (3, pT it)] F w0 ((0, it) :: B) H S := by
 have hd_ := ok.d
 have hyp_ := yP (d := o.d / 86400) oM
 have hyd := iQ (x := o.d) oM
 refine g5 ?_
 refine rl (aW 1 rfl hR1 (hc1.get 39 _ rfl) (hc1.get 40 _ rfl) kR dE) (gL (cvo (v := .tuple #[iV (Cal.yearOf (o.d / 86400)), iV (Cal.monthOf (o.d / 86400)), iV (Cal.mdayOf (o.d / 86400))]) rfl (fun w_ s_ => (lC _ _ oM w_).mT (cRr rfl)) (g5 ?_)))
 refine gL (cY 0 rfl rfl rfl (h0.get 0 _ rfl) kR rfl dE (g1 ?_))
 refine gL (cY 0 rfl rfl rfl (h0.get 1 _ rfl) kR rfl dE (g1 ?_))
 refine gL (cY 0 rfl rfl rfl (h0.get 2 _ rfl) kR rfl dE (g7 ?_))
 refine rl (aW 1 rfl hR1 (hc1.get 39 _ rfl) (hc1.get 40 _ rfl) kR dE) (gL (cvo (v := .tuple #[iV (o.d % 86400 / 3600), iV (o.d % 86400 / 60 % 60), iV (o.d % 86400 % 60)]) rfl (fun w_ s_ => (jF _ _ oM w_).mT (cRr rfl)) (g5 ?_)))
 refine gL (cY 0 rfl rfl rfl (h0.get 3 _ rfl) kR rfl dE (g1 ?_))
 refine gL (cY 0 rfl rfl rfl (h0.get 4 _ rfl) kR rfl dE (g1 ?_))
 refine gL (cY 0 rfl rfl rfl (h0.get 5 _ rfl) kR rfl dE (g7 ?_))
 refine rl (aW 1 rfl hR1 (hc1.get 39 _ rfl) (hc1.get 40 _ rfl) kR dE) (gL (cvo (v := iV ((o.d / 86400 + 1) % 7)) rfl (fun w_ s_ => (jV _ _ oM w_).mT (cRr rfl)) (gL (cvo (v := iV (((o.d / 86400 + 1) % 7 + 6) % 7)) rfl (fun w_ s_ => (mN _ oM w_).mT (cRr rfl)) (g1 ?_)))))
 refine gL (cY 0 rfl rfl rfl (h0.get 6 _ rfl) kR rfl dE (g5 ?_))
 refine rZ1 (iI (vs := [(0, pT rb)]) (v := .agg #[pT rb, iV 0, iV 0, iV 0, iV 0, iV 0, iV 0, iV 0, sN, sN, sN, sN, sN, sN, sN, sN]) rfl kW) ?_
 refine gL (cI 0 (cs := #[pT rb, iV 0, iV 0, iV 0, iV 0, iV 0, iV 0, iV 0, sN, sN, sN, sN, sN, sN, sN, sN]) rfl rfl rfl (cL kX (eG h0 7 16 ble)) kR rfl ble (g2 ?_))
 refine dO (L' := [(0, pT rb), (3, pT it)]) kns (fun w s => s) (H' := dL 0 7 (pT rb :: zL0) ((ky 0 6, iV (((o.d / 86400 + 1) % 7 + 6) % 7)) :: (ky 0 5, iV (o.d % 86400 % 60)) :: (ky 0 4, iV (o.d % 86400 / 60 % 60)) :: (ky 0 3, iV (o.d % 86400 / 3600)) :: (ky 0 2, iV (Cal.mdayOf (o.d / 86400))) :: (ky 0 1, iV (Cal.monthOf (o.d / 86400))) :: (ky 0 0, iV (Cal.yearOf (o.d / 86400))) :: H)) ?_
 have h5 : cellsAt 0 (dL 0 7 (pT rb :: zL0) ((ky 0 6, iV (((o.d / 86400 + 1) % 7 + 6) % 7)) :: (ky 0 5, iV (o.d % 86400 % 60)) :: (ky 0 4, iV (o.d % 86400 / 60 % 60)) :: (ky 0 3, iV (o.d % 86400 / 3600)) :: (ky 0 2, iV (Cal.mdayOf (o.d / 86400))) :: (ky 0 1, iV (Cal.monthOf (o.d / 86400))) :: (ky 0 0, iV (Cal.yearOf (o.d / 86400))) :: H)) 0 (z5 o rb) := (cC ((gF (j := 0) (pT rb :: zL0) 7 0 dE ble).trans rfl) (cC ((gF (j := 0) (pT rb :: zL0) 7 1 dE ble).trans rfl) (cC ((gF (j := 0) (pT rb :: zL0) 7 2 dE ble).trans rfl) (cC ((gF (j := 0) (pT rb :: zL0) 7 3 dE ble).trans rfl) (cC ((gF (j := 0) (pT rb :: zL0) 7 4 dE ble).trans rfl) (cC ((gF (j := 0) (pT rb :: zL0) 7 5 dE ble).trans rfl) (cC ((gF (j := 0) (pT rb :: zL0) 7 6 dE ble).trans rfl) (cC (aP (j := 0) (pT rb :: zL0) 7 ble 0 _ rfl) (cC (aP (j := 0) (pT rb :: zL0) 7 ble 1 _ rfl) (cC (aP (j := 0) (pT rb :: zL0) 7 ble 2 _ rfl) (cC (aP (j := 0) (pT rb :: zL0) 7 ble 3 _ rfl) (cC (aP (j := 0) (pT rb :: zL0) 7 ble 4 _ rfl) (cC (aP (j := 0) (pT rb :: zL0) 7 ble 5 _ rfl) (cC (aP (j := 0) (pT rb :: zL0) 7 ble 6 _ rfl) (cC (aP (j := 0) (pT rb :: zL0) 7 ble 7 _ rfl) (cC (aP (j := 0) (pT rb :: zL0) 7 ble 8 _ rfl) (cC (aP (j := 0) (pT rb :: zL0) 7 ble 9 _ rfl) (cC (aP (j := 0) (pT rb :: zL0) 7 ble 10 _ rfl) (cC (aP (j := 0) (pT rb :: zL0) 7 ble 11 _ rfl) (cC (aP (j := 0) (pT rb :: zL0) 7 ble 12 _ rfl) (cC (aP (j := 0) (pT rb :: zL0) 7 ble 13 _ rfl) (cC (aP (j := 0) (pT rb :: zL0) 7 ble 14 _ rfl) (cC (aP (j := 0) (pT rb :: zL0) 7 ble 15 _ rfl) (cC ((aO (j := 0) (pT rb :: zL0) 7 23 ble).trans (h0.get 23 _ rfl)) (cC ((aO (j := 0) (pT rb :: zL0) 7 24 ble).trans (h0.get 24 _ rfl)) (cC ((aO (j := 0) (pT rb :: zL0) 7 25 ble).trans (h0.get 25 _ rfl)) (cC ((aO (j := 0) (pT rb :: zL0) 7 26 ble).trans (h0.get 26 _ rfl)) (cC ((aO (j := 0) (pT rb :: zL0) 7 27 ble).trans (h0.get 27 _ rfl)) (cC ((aO (j := 0) (pT rb :: zL0) 7 28 ble).trans (h0.get 28 _ rfl)) (cC ((aO (j := 0) (pT rb :: zL0) 7 29 ble).trans (h0.get 29 _ rfl)) cN))))))))))))))))))))))))))))))
 have hc5 : cellsAt 1 (dL 0 7 (pT rb :: zL0) ((ky 0 6, iV (((o.d / 86400 + 1) % 7 + 6) % 7)) :: (ky 0 5, iV (o.d % 86400 % 60)) :: (ky 0 4, iV (o.d % 86400 / 60 % 60)) :: (ky 0 3, iV (o.d % 86400 / 3600)) :: (ky 0 2, iV (Cal.mdayOf (o.d / 86400))) :: (ky 0 1, iV (Cal.monthOf (o.d / 86400))) :: (ky 0 0, iV (Cal.yearOf (o.d / 86400))) :: H)) 0 (j8 o x) := gP fun i u h => by have hi : 0 + i < 4096 := by { have := (List.getElem?_eq_some_iff.1 h).1; have h3 : (j8 o x).length = 60 := rfl; omega }; exact (dA (j := 0) dE hi _ _ ble).trans (Eq.trans (by repeat (first | rfl | rw [bV dE hi dE])) (hc1.get i u h))
 have h385 : ∀ q, q < 4096 -> lkp (ky 38 q) (dL 0 7 (pT rb :: zL0) ((ky 0 6, iV (((o.d / 86400 + 1) % 7 + 6) % 7)) :: (ky 0 5, iV (o.d % 86400 % 60)) :: (ky 0 4, iV (o.d % 86400 / 60 % 60)) :: (ky 0 3, iV (o.d % 86400 / 3600)) :: (ky 0 2, iV (Cal.mdayOf (o.d / 86400))) :: (ky 0 1, iV (Cal.monthOf (o.d / 86400))) :: (ky 0 0, iV (Cal.yearOf (o.d / 86400))) :: H)) = none := fun q hq => (dA (j := 0) dE hq _ _ ble).trans (Eq.trans (by repeat (first | rfl | rw [bV dE hq dE])) (h38 q hq))
 exact hb hc5 h385 h5 (Lim.seqH dE _ 7 ble (by repeat (first | exact lim | apply Lim.aPh _ dE dE)))
def aCv (o : Opn) (r : Ru) (s0 : It) : Prop := ∀ (F : Nat -> Prop) (w0 : World) (B : LN) (H : LV) (S S0 : LS) (x : Av) (rb : Nat), OutF F w0 o x S0 S -> lkp 1 B = some rb -> cellsAt 1 H 0 (j8 o x) -> (∀ q, q < 4096 -> lkp (ky 38 q) H = none) -> lkp 0 B = none -> (∀ q, q < 4096 -> lkp (ky 0 q) H = none) -> Lim 40 B H S ->
 ∀ w, Sees F w0 B H S w -> Calls Tryz.prog 52 #[pT rb] w fun e w' => ∃ it a H' S', e = .returned (.func (.func 77) #[pT it] #[]) /\ St F w0 S' H' it rb r (r5 x) s0 a ((0, it) :: B) H' S' /\ (∀ k, 26 <= k -> k < 40 -> lkp k S' = lkp k S) /\ (∀ q, q < 4096 -> lkp (ky 38 q) H' = none) /\ Sees F w0 ((0, it) :: B) H' S' w'
theorem aF1 {o : Opn} {r : Ru} {s0 : It} (ok : OpOk o) (hb : ∀ {F : Nat -> Prop} {w0 : World} {B : LN} {H' : LV} {S S0 : LS} {x : Av} {rb it : Nat} {R : Ending -> World -> Prop}, OutF F w0 o x S0 S -> lkp 1 B = some rb -> cellsAt 1 H' 0 (j8 o x) -> (∀ q, q < 4096 -> lkp (ky 38 q) H' = none) -> cellsAt 0 H' 0 (z5 o rb) -> Lim 40 ((0, it) :: B) H' S ->
  (∀ a H2 S' w, St F w0 S' H2 it rb r (r5 x) s0 a ((0, it) :: B) H2 S' -> (∀ k, 26 <= k -> k < 40 -> lkp k S' = lkp k S) -> (∀ q, q < 4096 -> lkp (ky 38 q) H2 = none) -> Sees F w0 ((0, it) :: B) H2 S' w -> R (.returned (.func (.func 77) #[pT it] #[])) w) -> GC Tryz.prog (Go.Fr.part [1, 1, 1, 1, 1, 1] (Go.Fr.bodyOf Tryz.f52)) (bodyPost Tryz.prog Tryz.f52 R) 148 [(0, pT rb), (3, pT it)] F w0 ((0, it) :: B) H' S) : aCv o r s0 := by
 intro F w0 B H S S0 x rb of hR1 hc1 h38 hno hno2 lim
 intro w s
 refine aF (args := [pT rb]) (L := [(0, pT rb)]) (N := 148) Tryz.func52 rfl rfl ble rfl s (g7 ?_)
 refine rl ((n9 (v := .agg z30.toArray) kW)) (gL (eJ 0 (cs := z30) dE kR hno hno2 ble (fun it hit => gL (cI 0 (cs := z30.toArray) rfl rfl rfl (eG (gW z30 ble) 0 30 ble) kR rfl ble (g2 ?_)))))
 refine dO (L' := [(0, pT rb), (3, pT it)]) kns (fun w s => s) (H' := dL 0 0 z30 (aL 0 0 z30 ++ H)) ?_
 have hc5 : cellsAt 1 (dL 0 0 z30 (aL 0 0 z30 ++ H)) 0 (j8 o x) := gP fun i u h => by have hi : 0 + i < 4096 := by { have := (List.getElem?_eq_some_iff.1 h).1; have h3 : (j8 o x).length = 60 := rfl; omega }; exact (dA (j := 0) dE hi _ _ ble).trans ((aJ (j := 0) dE hi _ _ ble).trans (hc1.get i u h))
 exact it_a ok hR1 hc5 (fun q hq => (dA (j := 0) dE hq _ _ ble).trans ((aJ (j := 0) dE hq _ _ ble).trans (h38 q hq))) (gP fun i u h => aP (j := 0) z30 0 ble i u h) (Lim.seqH dE _ 0 ble (Lim.aPk dE _ 0 ble (lim.aPj dE))) (fun a1 a2 a3 a4 => hb of hR1 a1 a2 a3 a4 (fun a H' S' w hst h1 h2 hs => ⟨it, a, H', S', rfl, hst, h1, h2, hs⟩))
theorem vE {o : Opn} {wF : Int -> List Int} {nF : Int -> Int -> List Int} {eF : Int -> List Int} (ok : OpOk o) (hf4 : o.aP2 < 4) (hr : RuOk (bE o wF nF eF)) (hmk : MkOk (bE o wF nF eF)) (hlen : RuLen (bE o wF nF eF)) (hdm : o.d < 315537897600) : aCv o (bE o wF nF eF) (it0 o (bE o wF nF eF)) := aF1 ok (fun of hR1 a1 a2 a3 a4 hR => it_b ok hf4 hr hmk hlen of hR1 a1 a2 a3 a4 hdm hR)
inductive Tells (r : Ru) (N : Nat) : It -> Nat -> List Int -> Prop
 | zero {s : It} : Tells r N s 0 []
 | stop {s e : It} {k : Nat} (h : GenTo r N s e) (hr : e.rem = []) : Tells r N s (k + 1) []
 | more {s e : It} {k : Nat} {t : Int} {l : List Int} (h : GenTo r N s e) (hr : e.rem.head? = some t) (ht : Tells r N { e with rem := e.rem.tail } k l) : Tells r N s (k + 1) (t :: l)
theorem aI8 {e : It} (h : e.rem = []) : uE e = .tuple #[.agg #[iV 0, iV 0], .bool false] := by unfold uE; rw [h]
theorem aGo {e : It} {t : Int} (h : e.rem.head? = some t) : uE e = .tuple #[.agg #[iV t, iV 0], .bool true] := by
 unfold uE
 cases hr : e.rem with
 | nil => rw [hr] at h; cases h
 | cons a l => rw [hr] at h; cases h; rfl
def St1 (F : Nat -> Prop) (w0 : World) (it rb : Nat) (r : Ru) (l : Ra) (s : It) (a : Ad) (B : LN) (H : LV) (S : LS) : Prop := St F w0 S H it rb r l s a B H S
theorem St.row35 {S0 : LS} {H0 : LV} {r : Ru} {l : Ra} {it rb : Nat} {s : It} {a : Ad} (st : St F w0 S0 H0 it rb r l s a B H S) (q : Slc) : St1 F w0 it rb r l s a B (kE 38 H) ((35, q) :: S) := ⟨st.hB, st.hR, ⟨st.lim.b, fun k_ h_ o_ ho_ => (aM (by rw [r7 ho_]; omega)).trans (st.lim.h k_ h_ o_ ho_), fun k_ h_ => (aA oM _ _).trans (st.lim.s k_ h_)⟩, (aM dE).trans st.h0, (aM dE).trans st.h1, (aM dE).trans st.h2, (aM dE).trans st.h3, (aM dE).trans st.h4, (aM dE).trans st.h5, (aM dE).trans st.h6, (aM dE).trans st.h7, (aM dE).trans st.h8, (aM dE).trans st.h9, (aM dE).trans st.h10, (aM dE).trans st.h11, (aM dE).trans st.h12, (aM dE).trans st.h13, (aM dE).trans st.h14, (aM dE).trans st.h15, (aM dE).trans st.h16, (aM dE).trans st.h17, (aM dE).trans st.h18, (aM dE).trans st.h19, (aM dE).trans st.h20, (aM dE).trans st.h21, (aM dE).trans st.h22, (aM dE).trans st.h23, (aM dE).trans st.h24, (aM dE).trans st.h25, (aM dE).trans st.h26, (aM dE).trans st.h27, (aM dE).trans st.h28, (aM dE).trans st.h29, st.hS0, st.hS1, st.hS2, st.hS3, st.hS4, st.hS5, st.hS6, st.hS7, st.hS8, st.hS9, st.hS10, st.hp20, st.hp21, st.hp22, st.c6, (fun _ _ _ => rfl), (fun _ _ _ _ _ => rfl), st.hq0, st.hq1, (aM dE).trans st.r38, (aM dE).trans st.r39, (aM dE).trans st.r40, (aM dE).trans st.r41, (aM dE).trans st.r42, (aM dE).trans st.r44, (aM dE).trans st.r45, (aM dE).trans st.r46, (aM dE).trans st.r47, (aM dE).trans st.r48, (aM dE).trans st.r49, (aM dE).trans st.r50, (aM dE).trans st.r51, (aM dE).trans st.r52, (aM dE).trans st.r53, (aM dE).trans st.r54, (aM dE).trans st.r55, (aM dE).trans st.r56, (aM dE).trans st.r57, (aM dE).trans st.r59, (st.hI46.to aG), (st.hI47.to aG), (st.hI48.to aG), (st.hI49.to aG), (st.hI50.to aG), (st.hI51.to aG), (st.hI52.to aG), (st.hI54.to aG), (st.hI55.to aG), (st.hI56.to aG), (st.hI57.to aG), st.hl46, st.hl47, st.hl48, st.hl49, st.hl50, st.hl51, st.hl52, st.hl54, st.hl55, st.hl56, st.hl57, (st.hI53.to aG), st.hl53⟩
theorem aJy {F : Nat -> Prop} {w0 : World} {S : LS} {t : Nat} {v : Value} {ps : List (Int × Int)} (h : Prs w0 v ps) (hF : ∀ b, ¬ F b) : SrcU F w0 S t v ps := fun B H S' w _ s => by
 obtain ⟨p, c, rfl, hc⟩ := h
 refine ⟨p, c, rfl, fun i x hx => ?_⟩
 obtain ⟨b, o, rfl, h1, h2⟩ := hc i x hx
 exact ⟨b, o, rfl, s.aPo h1 (hF b), s.aPo h2 (hF b)⟩
theorem aEb {r : Ru} {N : Nat} {s : It} {k : Nat} {l : List Int} (h : Tells r N s (k + 1) l) : ∃ e, GenTo r N s e /\ ((e.rem = [] /\ l = []) \/ ∃ t l2, e.rem.head? = some t /\ l = t :: l2 /\ Tells r N { e with rem := e.rem.tail } k l2) := by
 cases h with
 | stop h hr => exact ⟨_, h, .inl ⟨hr, rfl⟩⟩
 | more h hr ht => exact ⟨_, h, .inr ⟨_, _, hr, rfl, ht⟩⟩
theorem Sees.lessH {w : World} {k : Nat} (s : Sees F w0 B H S w) : Sees F w0 B (kE k H) S w := s.to (fun _ _ h => h) (fun j o v ho h => by
 have hjk : j ≠ k := fun e => by rw [e, lQ ho] at h; cases h
 rw [aM (by rw [r7 ho]; exact hjk)] at h
 obtain ⟨b, e, _⟩ := s.cells j o v ho h
 exact ⟨h, by rw [e]; rfl⟩) (fun _ _ h => h)
theorem Sees.dropRow2 {w : World} {k j : Nat} {q u : Slc} (s : Sees F w0 B H ((k, q) :: (j, u) :: S) w) (hj : lkp j S = none) (hjk : j ≠ k) : Sees F w0 B H ((k, q) :: S) w :=
 s.to (fun _ _ h => h) (fun j o v ho h => ⟨h, by obtain ⟨b, e, _⟩ := s.cells j o v ho h; rw [e]; rfl⟩) (fun i r h => by
  by_cases e : i = k
  .subst e; rw [bJ] at h ⊢; exact h
  .rw [aA e] at h ⊢
   by_cases e2 : i = j
   .subst e2; rw [hj] at h; cases h
   .rw [aA e2]; exact h)
structure InL (w : World) (r : Rul) (x : Av) : Prop where
 i9 : Ints w (.slice x.p9 (r.aPz).length x.c9) r.aPz
 i10 : Ints w (.slice x.p10 (r.aPt).length x.c10) r.aPt
 i11 : Ints w (.slice x.p11 (r.aPu).length x.c11) r.aPu
 i12 : Ints w (.slice x.p12 (r.aPw).length x.c12) r.aPw
 i13 : Ints w (.slice x.p13 (r.aPx).length x.c13) r.aPx
 i14 : Prs w (.slice x.p14 (r.wday).length x.c14) r.wday
 i15 : Ints w (.slice x.p15 (r.hour).length x.c15) r.hour
 i16 : Ints w (.slice x.p16 (r.aPr).length x.c16) r.aPr
 i17 : Ints w (.slice x.p17 (r.aPs).length x.c17) r.aPs
 i18 : Ints w (.slice x.p18 (r.aPy).length x.c18) r.aPy
theorem nC {r : Rul} {x : Av} {ru : Ru} {s0 : It} (ok : OpOk (aD r)) (hit : aCv (aD r) ru s0) (rk : RulOk r) (vk : VbOk (aD r)) (hsort : ∀ F w0, kV F w0 (raw (aD r))) (hr : RuOk ru) (hp : Plain ru) (hpres : wJ ru) {most N : Nat} (hm : most <= 1000000) {l : List Int} (hT : Tells ru N s0 most l) (w : World) (hin : InL w r x) :
  Calls Tryz.prog 30 #[.agg (bG r x).toArray, iV most] w fun e w' => ∃ p c, e = .returned (.tuple #[.slice p l.length c, .bool true]) /\ gC w w' (.slice p l.length c) 2 1 l.length (l.map iV) := by
 refine aF (args := [.agg (bG r x).toArray, iV most]) (L := [(0, .agg (bG r x).toArray), (1, iV most)]) (N := 38) Tryz.func30 rfl rfl ble rfl (sS w) (g2 ?_)
 refine gL (fU 30 (cs := bG r x) dE rfl rfl rfl (fun o ho => rfl) ble (fun b1 hb1 => g6 ?_))
 refine rl ((dC 30 (cs := bG r x) rfl rfl (eD (bG r x) 0 ble) ble kR)) (gL (d8 (ι := Option Addr × Nat) (fun y => .agg (oc0 (aD r) { x with p14 := y.1, c14 := y.2 }).toArray) (fun _ => True) (fun _ => [(30, b1)]) (fun _ => (aL 30 0 (bG r x) ++ [])) (fun y => [(11, ⟨.slice y.1 r.wday.length y.2, 82, 2, r.wday.length, eB r.wday⟩)]) dE kR rfl (fun w_ s_ => (aA5 (x := x) rk (Lim.aPk dE _ 0 ble ((Lim.nil).aPj dE)) rfl (fun S => aJy hin.i14 (fun b h => h)) w_ s_).mono fun e w' ⟨p, c, he, hs⟩ => ⟨(p, c), trivial, he, hs⟩) (fun | (p0, c0), _ => gL (d8 (ι := Nat × Av × LS) (fun y => .tuple #[pT y.1, .nilIface]) (fun y => OutF (fun _ => False) w (aD r) y.2.1 [(11, ⟨.slice p0 r.wday.length c0, 82, 2, r.wday.length, eB r.wday⟩)] y.2.2) (fun y => (1, y.1) :: [(30, b1)]) (fun y => aL 1 0 (j8 (aD r) y.2.1) ++ (aL 30 0 (bG r x) ++ [])) (fun y => y.2.2) dE kR rfl (fun w_ s_ => (xI (x := { x with p14 := p0, c14 := c0 }) ok vk (fun _ => hsort _ _) ((Lim.aPk dE _ 0 ble ((Lim.nil).aPj dE)).aPi dE) rfl (fun q hq => aJ dE hq _ _ ble) (SrcT.old hin.i9 (fun b h => h)) (SrcT.old hin.i10 (fun b h => h)) (SrcT.old hin.i11 (fun b h => h)) (SrcT.old hin.i12 (fun b h => h)) (SrcT.old hin.i13 (fun b h => h)) (SrcU.row (t := 11) (e := 82) rfl) (SrcT.old hin.i15 (fun b h => h)) (SrcT.old hin.i16 (fun b h => h)) (SrcT.old hin.i17 (fun b h => h)) (SrcT.old hin.i18 (fun b h => h)) w_ s_).mono fun e w' ⟨rb, x', S', he, hf, hs⟩ => ⟨(rb, x', S'), hf, he, hs⟩) (fun | (rb, x2, S2), hf2 => g11 ?_)))))
 refine rl ((yT (v := .bool false) rfl rfl kW)) (g2 ?_)
 refine aU rfl rfl ?_
 refine g5 ?_
 have hf2 : OutF (fun _ => False) w (aD r) x2 [(11, ⟨.slice p0 r.wday.length c0, 82, 2, r.wday.length, eB r.wday⟩)] S2 := hf2
 have hS2 : ∀ k, 26 <= k -> lkp k S2 = none := fun k hk => by
  rcases Nat.lt_or_ge k 53 with h | h
  .rw [hf2.fr k h oM, aA oM]; rfl
  .exact hf2.lim k h
 have lim2 : Lim 40 ((1, rb) :: [(30, b1)]) (aL 1 0 (j8 (aD r) x2) ++ (aL 30 0 (bG r x) ++ [])) S2 := ⟨fun k hk => by rw [aA oM, aA oM]; rfl, fun k hk o ho => by rw [aJ oM ho _ _ ble, aJ oM ho _ _ ble]; rfl, fun k hk => hS2 k oM⟩
 have hk2 : ∀ k, k ≠ 1 -> k ≠ 30 -> ∀ q, q < 4096 -> lkp (ky k q) (aL 1 0 (j8 (aD r) x2) ++ (aL 30 0 (bG r x) ++ [])) = none := fun k h1 h30 q hq => by rw [aJ h1 hq _ _ ble, aJ h30 hq _ _ ble]; rfl
 refine gL (d8 (ι := Nat × Ad × LV × LS) (fun y => .func (.func 77) #[pT y.1] #[]) (fun y => St (fun _ => False) w y.2.2.2 y.2.2.1 y.1 rb ru (r5 x2) s0 y.2.1 ((0, y.1) :: (1, rb) :: [(30, b1)]) y.2.2.1 y.2.2.2 /\ (∀ k, 26 <= k -> k < 40 -> lkp k y.2.2.2 = lkp k S2) /\ (∀ q, q < 4096 -> lkp (ky 38 q) y.2.2.1 = none)) (fun y => (0, y.1) :: (1, rb) :: [(30, b1)]) (fun y => y.2.2.1) (fun y => y.2.2.2) dE kR rfl (fun w_ s_ => (hit _ _ _ _ _ _ x2 rb hf2 rfl (gW _ ble) (hk2 38 dE dE) rfl (hk2 0 dE dE) lim2 w_ s_).mono fun e w' ⟨it, a, H', S', he, h1, h2, h3, hs⟩ => ⟨(it, a, H', S'), ⟨h1, h2, h3⟩, he, hs⟩) (fun | (it, a0, H3, S3), ⟨st3, hS3, h38_3⟩ => g5 ?_))
 refine aY (ι := (List Int) × (Nat) × (It) × (Ad) × (LV) × (LS) × (Option Addr) × (Nat) × (Nat) × (List Value)) (fun | ⟨acc, k, s1, a1, H1, S1, p, c, n, xs⟩ => k) (fun | ⟨acc, k, s1, a1, H1, S1, p, c, n, xs⟩ => (∃ l', l = acc ++ l' /\ Tells ru N s1 k l') /\ (acc.length + k = most) /\ (St1 (fun _ => False) w it rb ru (r5 x2) s1 a1 ((0, it) :: (1, rb) :: [(30, b1)]) H1 S1) /\ (∀ q, q < 4096 -> lkp (ky 38 q) H1 = none) /\ (lkp 35 S1 = some ⟨.slice p n c, 2, 1, n, xs⟩) /\ (n = acc.length) /\ (xs = acc.map iV)) (fun | ⟨acc, k, s1, a1, H1, S1, p, c, n, xs⟩ => [(1, iV most), (4, .slice p n c), (8, .func (.func 77) #[pT it] #[])]) (fun _ => ((0, it) :: (1, rb) :: [(30, b1)])) (fun | ⟨acc, k, s1, a1, H1, S1, p, c, n, xs⟩ => H1) (fun | ⟨acc, k, s1, a1, H1, S1, p, c, n, xs⟩ => S1) ⟨[], most, s0, a0, kE 38 H3, (35, ⟨sN, 2, 1, 0, []⟩) :: S3, none, 0, 0, []⟩ ⟨⟨l, rfl, hT⟩, by simp, St.row35 st3 _, fun q hq => lQ hq _, rfl, rfl, rfl⟩ kns (fun w s => by exact (Sees.lessH (s.aPm 35 2 1))) ?_
 rintro ⟨acc, k, s1, a1, H1, S1, p, c, n, xs⟩ ⟨hl, hk, st1, h38, hrow, hn, hx⟩
 refine dS ?_
 refine g9 ?_
 refine aB rfl (fun hc1 => ?_) (fun hc2 => ?_)
 .have hlt : n < most := by have := oT hc1; omega
  obtain ⟨k, rfl⟩ : ∃ j, k = j + 1 := ⟨k - 1, by omega⟩
  obtain ⟨l', hl0, hT1⟩ := hl
  obtain ⟨e, hG, hways⟩ := aEb hT1
  refine g4 ?_
  rcases hways with ⟨hre, hl1⟩ | ⟨t, l2, hre, hl1, ht2⟩
  .have hpv := aI8 hre
   refine g2 ?_
   refine gL (jE (ι := Ad × LV × LS) (first := [pT it]) (capt := []) (fun _ => uE e) (fun y => St (fun _ => False) w S1 H1 it rb ru (r5 x2) { e with rem := e.rem.tail } y.1 ((0, it) :: (1, rb) :: [(30, b1)]) y.2.1 y.2.2) (fun _ => ((0, it) :: (1, rb) :: [(30, b1)])) (fun y => y.2.1) (fun y => y.2.2) dE rfl kR rfl (fun w_ s_ => (yO st1 rfl h38 hr hp hpres hG w_ s_).mono fun e2 w' ⟨a', H', S', he, hst, hs⟩ => ⟨(a', H', S'), hst, he, hs⟩) (fun | (a2, H2, S2'), st2 => ?_))
   have st2 : St (fun _ => False) w S1 H1 it rb ru (r5 x2) { e with rem := e.rem.tail } a2 ((0, it) :: (1, rb) :: [(30, b1)]) H2 S2' := st2
   rw [hpv]
   have hrow2 : lkp 35 S2' = some ⟨.slice p n c, 2, 1, n, xs⟩ := (st2.frS 35 dE dE).trans hrow
   refine g3 ?_
   refine gL (eJ 38 (cs := [iV 0, iV 0]) dE kR rfl (fun o ho => (st2.frH 38 dE dE o ho).trans (h38 o ho)) ble (fun b9 hb9 => gL (sta 38 rfl rfl rfl rfl (g10 ?_))))
   refine s4 ?_
   rw [hl1, List.append_nil] at hl0
   subst hl0 hn hx
   refine d9 (.inl rfl) rfl (aE rfl) (aE rfl) fun w_ s_ => ⟨p, c, rfl, ?_⟩
   have h := s_.toNew (k := 35) hrow2
   exact h
  .have hpv := aGo hre
   refine g2 ?_
   refine gL (jE (ι := Ad × LV × LS) (first := [pT it]) (capt := []) (fun _ => uE e) (fun y => St (fun _ => False) w S1 H1 it rb ru (r5 x2) { e with rem := e.rem.tail } y.1 ((0, it) :: (1, rb) :: [(30, b1)]) y.2.1 y.2.2) (fun _ => ((0, it) :: (1, rb) :: [(30, b1)])) (fun y => y.2.1) (fun y => y.2.2) dE rfl kR rfl (fun w_ s_ => (yO st1 rfl h38 hr hp hpres hG w_ s_).mono fun e2 w' ⟨a', H', S', he, hst, hs⟩ => ⟨(a', H', S'), hst, he, hs⟩) (fun | (a2, H2, S2'), st2 => ?_))
   have st2 : St (fun _ => False) w S1 H1 it rb ru (r5 x2) { e with rem := e.rem.tail } a2 ((0, it) :: (1, rb) :: [(30, b1)]) H2 S2' := st2
   rw [hpv]
   have hrow2 : lkp 35 S2' = some ⟨.slice p n c, 2, 1, n, xs⟩ := (st2.frS 35 dE dE).trans hrow
   refine g3 ?_
   refine gL (eJ 38 (cs := [iV 0, iV 0]) dE kR rfl (fun o ho => (st2.frH 38 dE dE o ho).trans (h38 o ho)) ble (fun b9 hb9 => gL (sta 38 rfl rfl rfl rfl (s4 ?_))))
   refine rl (aW 38 rfl rfl rfl rfl kR dE) (gL (cvo rfl (fun w_ s_ => zG _ _ w_) (gL (dB 60 (e := 2) (sz := 1) (by_ := 8) (zs := [iV 0]) dE kR rfl dE dE rfl rfl rfl (fun bo => gL (cW 35 60 (e := 2) (sz := 1) (by_ := 8) (zs := [iV 0]) (q := ⟨.slice p n c, 2, 1, n, xs⟩) dE kR rfl dE rfl rfl hrow2 rfl ⟨rfl, rfl⟩ ⟨rfl, rfl⟩ (gZ (xs := [t])) sO sO (fun p' c' => ?_)))))))
   have hback : ∀ {w1 : World} {u1 : Slc} {Hx : LV}, Sees (fun _ => False) w ((38, b9) :: ((0, it) :: (1, rb) :: [(30, b1)])) Hx ((35, ⟨.slice p' (n + 1) c', 2, 1, (n + 1), (xs ++ [iV t])⟩) :: (60, u1) :: S2') w1 -> kE 38 Hx = kE 38 H2 -> Sees (fun _ => False) w ((0, it) :: (1, rb) :: [(30, b1)]) (kE 38 H2) ((35, ⟨.slice p' (n + 1) c', 2, 1, (n + 1), (xs ++ [iV t])⟩) :: S2') w1 := fun s hx => by have s2 := Sees.dropTag s rfl; rw [hx] at s2; exact Sees.dropRow2 s2 (st2.lim.s 60 dE) dE
   refine g3 ?_
   refine aN ⟨acc ++ [t], k, { e with rem := e.rem.tail }, a2, kE 38 H2, (35, ⟨.slice p' (n + 1) c', 2, 1, (n + 1), (xs ++ [iV t])⟩) :: S2', p', c', n + 1, xs ++ [iV t]⟩ sO ⟨⟨l2, by rw [hl0, hl1, List.append_assoc]; rfl, ht2⟩, by rw [List.length_append]; simp only [List.length_singleton]; omega, St.row35 st2 _, fun q hq => lQ hq _, rfl, by rw [List.length_append, hn]; rfl, by rw [hx]; simp⟩ kns (fun w s => by exact hback s (by rw [uT _ _ ble, aAa _ _ ble]))
 .have hge : ¬ n < most := by have := oF hc2; omega
  obtain rfl : k = 0 := by omega
  obtain ⟨l', hl0, hT1⟩ := hl
  cases hT1
  rw [List.append_nil] at hl0
  subst hl0 hn hx
  refine g13 ?_
  refine d9 (.inl rfl) rfl (aE rfl) (aE rfl) fun w_ s_ => ⟨p, c, rfl, ?_⟩
  have h := s_.toNew (k := 35) hrow
  exact h
theorem aH8 (y : Int) (h0 : 0 <= y) (h : y % 4 ≠ 0) (w : World) : CB 60 #[iV y] w (.bool false) := by
 refine aF (args := [iV y]) (L := [(0, iV y)]) (N := 16) Tryz.func60 rfl rfl ble rfl (sS w) (g9 ?_)
 refine rl ((aQ rfl rfl).to (cB (nZ h))) (g14 ?_)
 refine gR rfl fun w_ s_ => ⟨?_, s_.aPg⟩
 first | rfl | (simp; done)
theorem aHe (y : Int) (h0 : 0 <= y) (h : y % 4 = 0) (h1 : y % 100 ≠ 0) (w : World) : CB 60 #[iV y] w (.bool true) := by
 refine aF (args := [iV y]) (L := [(0, iV y)]) (N := 16) Tryz.func60 rfl rfl ble rfl (sS w) (g9 ?_)
 refine rZ6 ((aQ rfl rfl).to (cB (oP h))) ?_
 refine rl ((cF rfl rfl).to (cB (iW h1))) (g12 ?_)
 refine gR rfl fun w_ s_ => ⟨?_, s_.aPg⟩
 first | rfl | (simp; done)
theorem aGx (y : Int) (h0 : 0 <= y) (h : y % 4 = 0) (h1 : y % 100 = 0) (w : World) : CB 60 #[iV y] w (.bool (y % 400 == 0)) := by
 refine aF (args := [iV y]) (L := [(0, iV y)]) (N := 16) Tryz.func60 rfl rfl ble rfl (sS w) (g9 ?_)
 refine rZ6 ((aQ rfl rfl).to (cB (oP h))) ?_
 refine rl ((cF rfl rfl).to (cB (jA h1))) (g15 ?_)
 refine gR rfl fun w_ s_ => ⟨?_, s_.aPg⟩
 first | rfl | (simp; done)
theorem aDn (y : Int) (h0 : 0 <= y) (w : World) : CB 60 #[iV y] w (.bool (Cal.leapB y)) := by
 by_cases h : y % 4 = 0
 .by_cases h1 : y % 100 = 0
  .refine (aGx y h0 h h1 w).mono fun e w' ⟨he, hb⟩ => ⟨he.trans (oK ?_), hb⟩
   unfold Cal.leapB
   by_cases h2 : y % 400 = 0 <;> simp [h, h1, h2]
  .refine (aHe y h0 h h1 w).mono fun e w' ⟨he, hb⟩ => ⟨he.trans (oK ?_), hb⟩
   unfold Cal.leapB
   simp [h, h1]
 .refine (aH8 y h0 h w).mono fun e w' ⟨he, hb⟩ => ⟨he.trans (oK ?_), hb⟩
  unfold Cal.leapB
  simp [h]
theorem gY (y : Int) (h0 : 0 <= y) (w : World) : CB 44 #[iV y] w (iV (365 + Cal.lp y)) := by
 refine aF (args := [iV y]) (L := [(0, iV y)]) (N := 5) Tryz.func44 rfl rfl ble rfl (sS w) (g9 ?_)
 refine gL (cvo rfl (fun w_ s_ => aDn _ oM w_) (g2 ?_))
 refine aB rfl (fun c4_ => ?_) (fun c4_ => ?_)
 .first | have p4_ := oT c4_ | have p4_ := beq_iff_eq.1 c4_ | have p4_ := bne_iff_ne.1 c4_ | skip
  refine g7 ?_
  refine gR rfl fun w_ s_ => ⟨?_, s_.aPg⟩
  refine dX ?_
  simp_all [Cal.lp]
 .first | have p4_ := oF c4_ | have p4_ := beq_eq_false_iff_ne.1 c4_ | have p4_ := bne_eq_false_iff_eq.1 c4_ | skip
  refine g8 ?_
  refine gR rfl fun w_ s_ => ⟨?_, s_.aPg⟩
  refine dX ?_
  simp_all [Cal.lp]
theorem eO (y : Int) (h0 : 1 <= y /\ y <= 1000000000) (w : World) : CB 28 #[iV y] w (iV (Cal.daysTo y)) := by
 refine aF (args := [iV y]) (L := [(0, iV y)]) (N := 17) Tryz.func28 rfl rfl ble rfl (sS w) (g25 ?_)
 refine g4 ?_
 refine gR rfl fun w_ s_ => ⟨?_, s_.aPg⟩
 refine dX ?_
 unfold Cal.daysTo
 omega
theorem fQ (y m : Int) (h0 : 0 <= y) (w : World) : CB 46 #[iV y, iV m] w (iV (Cal.mdays m y)) := by
 refine aF (args := [iV y, iV m]) (L := [(0, iV y), (1, iV m)]) (N := 16) Tryz.func46 rfl rfl ble rfl (sS w) ?_
 have hlp := Cal.lp_01 y
 refine g18 ?_
 refine g1 ?_
 refine aB rfl (fun c6_ => ?_) (fun c6_ => ?_)
 .first | have p6_ := oT c6_ | have p6_ := beq_iff_eq.1 c6_ | have p6_ := bne_iff_ne.1 c6_ | skip
  refine g2 ?_
  refine aB rfl (fun c6_ => ?_) (fun c6_ => ?_)
  .first | have p6_ := oT c6_ | have p6_ := beq_iff_eq.1 c6_ | have p6_ := bne_iff_ne.1 c6_ | skip
   refine g8 ?_
   refine gR rfl fun w_ s_ => ⟨?_, s_.aPg⟩
   refine dX ?_
   unfold Cal.mdays
   simp_all
   try omega
  .first | have p6_ := oF c6_ | have p6_ := beq_eq_false_iff_ne.1 c6_ | have p6_ := bne_eq_false_iff_eq.1 c6_ | skip
   refine g6 ?_
   refine aB rfl (fun c11_ => ?_) (fun c11_ => ?_)
   .first | have p11_ := oT c11_ | have p11_ := beq_iff_eq.1 c11_ | have p11_ := bne_iff_ne.1 c11_ | skip
    refine g3 ?_
    refine gL (cvo rfl (fun w_ s_ => gY _ oM w_) (g7 ?_))
    refine gR rfl fun w_ s_ => ⟨?_, s_.aPg⟩
    refine dX ?_
    unfold Cal.mdays
    simp_all
    try omega
   .first | have p11_ := oF c11_ | have p11_ := beq_eq_false_iff_ne.1 c11_ | have p11_ := bne_eq_false_iff_eq.1 c11_ | skip
    refine g9 ?_
    refine gR rfl fun w_ s_ => ⟨?_, s_.aPg⟩
    refine dX ?_
    unfold Cal.mdays
    simp_all
    try omega
 .first | have p6_ := oF c6_ | have p6_ := beq_eq_false_iff_ne.1 c6_ | have p6_ := bne_eq_false_iff_eq.1 c6_ | skip
  refine g6 ?_
  refine aB rfl (fun c6_ => ?_) (fun c6_ => ?_)
  .first | have p6_ := oT c6_ | have p6_ := beq_iff_eq.1 c6_ | have p6_ := bne_iff_ne.1 c6_ | skip
   refine g2 ?_
   refine aB rfl (fun c6_ => ?_) (fun c6_ => ?_)
   .first | have p6_ := oT c6_ | have p6_ := beq_iff_eq.1 c6_ | have p6_ := bne_iff_ne.1 c6_ | skip
    refine g8 ?_
    refine gR rfl fun w_ s_ => ⟨?_, s_.aPg⟩
    refine dX ?_
    unfold Cal.mdays
    simp_all
    try omega
   .first | have p6_ := oF c6_ | have p6_ := beq_eq_false_iff_ne.1 c6_ | have p6_ := bne_eq_false_iff_eq.1 c6_ | skip
    refine g6 ?_
    refine aB rfl (fun c11_ => ?_) (fun c11_ => ?_)
    .first | have p11_ := oT c11_ | have p11_ := beq_iff_eq.1 c11_ | have p11_ := bne_iff_ne.1 c11_ | skip
     refine g3 ?_
     refine gL (cvo rfl (fun w_ s_ => gY _ oM w_) (g7 ?_))
     refine gR rfl fun w_ s_ => ⟨?_, s_.aPg⟩
     refine dX ?_
     unfold Cal.mdays
     simp_all
     try omega
    .first | have p11_ := oF c11_ | have p11_ := beq_eq_false_iff_ne.1 c11_ | have p11_ := bne_eq_false_iff_eq.1 c11_ | skip
     refine g9 ?_
     refine gR rfl fun w_ s_ => ⟨?_, s_.aPg⟩
     refine dX ?_
     unfold Cal.mdays
     simp_all
     try omega
  .first | have p6_ := oF c6_ | have p6_ := beq_eq_false_iff_ne.1 c6_ | have p6_ := bne_eq_false_iff_eq.1 c6_ | skip
   refine g6 ?_
   refine aB rfl (fun c6_ => ?_) (fun c6_ => ?_)
   .first | have p6_ := oT c6_ | have p6_ := beq_iff_eq.1 c6_ | have p6_ := bne_iff_ne.1 c6_ | skip
    refine g2 ?_
    refine aB rfl (fun c6_ => ?_) (fun c6_ => ?_)
    .first | have p6_ := oT c6_ | have p6_ := beq_iff_eq.1 c6_ | have p6_ := bne_iff_ne.1 c6_ | skip
     refine g8 ?_
     refine gR rfl fun w_ s_ => ⟨?_, s_.aPg⟩
     refine dX ?_
     unfold Cal.mdays
     simp_all
     try omega
    .first | have p6_ := oF c6_ | have p6_ := beq_eq_false_iff_ne.1 c6_ | have p6_ := bne_eq_false_iff_eq.1 c6_ | skip
     refine g6 ?_
     refine aB rfl (fun c11_ => ?_) (fun c11_ => ?_)
     .first | have p11_ := oT c11_ | have p11_ := beq_iff_eq.1 c11_ | have p11_ := bne_iff_ne.1 c11_ | skip
      refine g3 ?_
      refine gL (cvo rfl (fun w_ s_ => gY _ oM w_) (g7 ?_))
      refine gR rfl fun w_ s_ => ⟨?_, s_.aPg⟩
      refine dX ?_
      unfold Cal.mdays
      simp_all
      try omega
     .first | have p11_ := oF c11_ | have p11_ := beq_eq_false_iff_ne.1 c11_ | have p11_ := bne_eq_false_iff_eq.1 c11_ | skip
      refine g9 ?_
      refine gR rfl fun w_ s_ => ⟨?_, s_.aPg⟩
      refine dX ?_
      unfold Cal.mdays
      simp_all
      try omega
   .first | have p6_ := oF c6_ | have p6_ := beq_eq_false_iff_ne.1 c6_ | have p6_ := bne_eq_false_iff_eq.1 c6_ | skip
    refine g5 ?_
    refine aB rfl (fun c6_ => ?_) (fun c6_ => ?_)
    .first | have p6_ := oT c6_ | have p6_ := beq_iff_eq.1 c6_ | have p6_ := bne_iff_ne.1 c6_ | skip
     refine g8 ?_
     refine gR rfl fun w_ s_ => ⟨?_, s_.aPg⟩
     refine dX ?_
     unfold Cal.mdays
     simp_all
     try omega
    .first | have p6_ := oF c6_ | have p6_ := beq_eq_false_iff_ne.1 c6_ | have p6_ := bne_eq_false_iff_eq.1 c6_ | skip
     refine g6 ?_
     refine aB rfl (fun c11_ => ?_) (fun c11_ => ?_)
     .first | have p11_ := oT c11_ | have p11_ := beq_iff_eq.1 c11_ | have p11_ := bne_iff_ne.1 c11_ | skip
      refine g3 ?_
      refine gL (cvo rfl (fun w_ s_ => gY _ oM w_) (g7 ?_))
      refine gR rfl fun w_ s_ => ⟨?_, s_.aPg⟩
      refine dX ?_
      unfold Cal.mdays
      simp_all
      try omega
     .first | have p11_ := oF c11_ | have p11_ := beq_eq_false_iff_ne.1 c11_ | have p11_ := bne_eq_false_iff_eq.1 c11_ | skip
      refine g9 ?_
      refine gR rfl fun w_ s_ => ⟨?_, s_.aPg⟩
      refine dX ?_
      unfold Cal.mdays
      simp_all
      try omega
theorem mH (y m d : Int) (h0 : 1 <= y /\ y <= 1000000000) (hm : 1 <= m /\ m <= 12) (hd : 0 <= d /\ d <= 1000) (w : World) : CB 45 #[iV y, iV m, iV d] w (iV (Cal.daysTo y + d - 1 + Cal.cum y (m - 1).toNat)) := by
 refine aF (args := [iV y, iV m, iV d]) (L := [(0, iV y), (1, iV m), (2, iV d)]) (N := 25) Tryz.func45 rfl rfl ble rfl (sS w) ?_
 have hdt0 : 0 <= Cal.daysTo y /\ Cal.daysTo y <= 400000000000 := by unfold Cal.daysTo; omega
 refine g8 ?_
 refine gL (cvo rfl (fun w_ s_ => eO _ oM w_) (g13 ?_))
 refine aY (ι := (Nat)) (fun k => (m - 1).toNat - k) (fun k => ((k : Int) + 1 <= m)) (fun k => [(0, iV y), (1, iV m), (7, iV (Cal.daysTo y + d - 1 + Cal.cum y k)), (8, iV ((k : Int) + 1))]) (fun k => []) (fun k => []) (fun k => []) 0 (by show ((0 : Nat) : Int) + 1 <= m; omega) (fun a q => q.cons rfl (q.cons rfl (q.cons (by exact congrArg (fun n : Int => some (iV n)) (by simp [Cal.cum])) (q.cons rfl q.nil)))) (fun w s => by exact s) ?_
 rintro k hk
 refine dS ?_
 have hcb := Cal.cum_bd y k
 have hmd := Cal.mdays_bd ((k : Int) + 1) y
 have hdt : 0 <= Cal.daysTo y /\ Cal.daysTo y <= 400000000000 := by unfold Cal.daysTo; omega
 refine g8 ?_
 refine aB rfl (fun hc1 => ?_) (fun hc2 => ?_)
 .have hlt : (k : Int) + 1 < m := oT hc1
  refine g8 ?_
  refine gL (cvo rfl (fun w_ s_ => fQ _ _ oM w_) (g10 ?_))
  refine aN (k + 1) oM (by show ((k + 1 : Nat) : Int) + 1 <= m; omega) (fun a q => q.cons rfl (q.cons rfl (q.cons (by exact congrArg (fun n : Int => some (iV n)) (by simp only [Cal.cum]; omega)) (q.cons (by exact congrArg (fun n : Int => some (iV n)) oM) q.nil)))) (fun w s => by exact s)
 .have hge : ¬ (k : Int) + 1 < m := oF hc2
  obtain rfl : m = (k : Int) + 1 := by omega
  refine g12 ?_
  refine gR rfl fun w_ s_ => ⟨?_, s_.aPg⟩
  exact dX (by rw [show ((k : Int) + 1 - 1).toNat = k by omega])
theorem qK (p p' : Option Addr) (c c' : Nat) (l : List Int) (hl : l.length <= 1000000000) (w : World) (h : Ints w (.slice p l.length c) l) (h' : Ints w (.slice p' l.length c') l) : CB 23 #[.slice p l.length c, .slice p' l.length c'] w (.bool true) := by
 obtain ⟨p1, c1, e1, hc1_⟩ := h
 obtain ⟨p2, c2, e2, hc2_⟩ := h'
 injection e1 with e11 e12 e13
 injection e2 with e21 e22 e23
 subst e11 e21
 refine aF (args := [.slice p l.length c, .slice p' l.length c']) (L := [(0, .slice p l.length c), (1, .slice p' l.length c')]) (N := 26) Tryz.func23 rfl rfl ble rfl (sS w) (g15 ?_)
 refine aU rfl (jA rfl) ?_
 refine g11 ?_
 refine aY (ι := (Nat)) (fun k => l.length - k) (fun k => (k <= l.length)) (fun k => [(0, .slice p l.length c), (1, .slice p' l.length c'), (11, .slice p l.length c), (12, iV (l.length)), (13, iV k)]) (fun k => []) (fun k => []) (fun k => []) 0 (Nat.zero_le _) kns (fun w s => by exact s) ?_
 rintro k hk
 refine dS ?_
 refine g6 ?_
 refine aB rfl (fun hc1 => ?_) (fun hc2 => ?_)
 .have hlt : k < l.length := by have := oT hc1; omega
  obtain ⟨y, hy⟩ : ∃ y, l[k]? = some y := ⟨_, List.getElem?_eq_getElem hlt⟩
  obtain ⟨b, o, rfl, q1⟩ := hc1_ k y hy
  obtain ⟨b', o', rfl, q2⟩ := hc2_ k y hy
  refine g14 ?_
  refine rq (aC (e := 2) (n := 1) kR rfl rfl oM oM) (rq (gH rfl (by rw [<- q1]; congr 2; omega) (fun h => h) kR) (g2 ?_))
  refine rq (aC (e := 2) (n := 1) kR rfl rfl oM oM) (rq (gH rfl (by rw [<- q2]; congr 2; omega) (fun h => h) kR) (g3 ?_))
  refine aU rfl (jA rfl) ?_
  refine g7 ?_
  refine aN (k + 1) oM (by show k + 1 <= l.length; omega) kns (fun w s => by exact s)
 .have hge : ¬ k < l.length := by have := oF hc2; omega
  refine g11 ?_
  exact gR rfl fun w_ s_ => ⟨rfl, s_.aPg⟩
theorem tO {ts : List Int} (h : ts.length <= 1000000000) (F : Nat -> Prop) (w0 : World) : kV F w0 ts := fun B H S p c w lim hrow hs => o6 (t := 2) dE h lim hrow w hs
theorem InL.see {w : World} {r : Rul} {x : Av} (s : Sees (fun _ => False) w0 B H S w) (h : InL w0 r x) : InL w r x :=
 ⟨aZ s h.i9, aZ s h.i10, aZ s h.i11, aZ s h.i12, aZ s h.i13, qV s h.i14, aZ s h.i15, aZ s h.i16, aZ s h.i17, aZ s h.i18⟩
theorem aDc (xs : List Int) (x : Int) (v : Value) (hl : xs.length <= 2147483647) (w : World) (hI : Ints w v xs) : Calls Tryz.prog 56 #[v, iV x] w fun e w' => ∃ i : Int, decide (0 <= i) = xs.any (· == x) /\ e = .returned (iV i) /\ Below w.heap.size w w' := by
 obtain ⟨p, c, rfl, hI⟩ := hI
 refine aF (args := [.slice p xs.length c, iV x]) (L := [(0, .slice p xs.length c), (1, iV x)]) (N := 19) Tryz.func56 rfl rfl ble rfl (sS w) (g14 ?_)
 refine aY (ι := (Nat)) (fun k => xs.length - k) (fun k => (k <= xs.length) /\ ((xs.take k).any (· == x) = false)) (fun k => [(0, .slice p xs.length c), (1, iV x), (7, iV (xs.length)), (8, iV k)]) (fun k => []) (fun k => []) (fun k => []) 0 ⟨by omega, rfl⟩ kns (fun w s => by exact s) ?_
 rintro k ⟨hk, hn⟩
 refine dS ?_
 refine g6 ?_
 refine aB rfl (fun hc1 => ?_) (fun hc2 => ?_)
 .have hlt : k < xs.length := by have := oT hc1; omega
  obtain ⟨y, hy⟩ : ∃ y, xs[k]? = some y := ⟨_, List.getElem?_eq_getElem hlt⟩
  obtain ⟨b, o, rfl, hcell⟩ := hI k y hy
  refine g15 ?_
  refine rl (aC (e := 3) (n := 1) kR rfl rfl oM oM) (rZ3 (gH rfl (v := iV y) (by rw [<- hcell]; congr 2; omega) (fun h => h) kR) ?_)
  refine aB rfl (fun hc1 => ?_) (fun hc2 => ?_)
  .have hq : y = x := (beq_iff_eq.1 hc1).symm
   refine g12 ?_
   exact aT (.inl rfl) rfl (aE rfl) fun w_ s_ => ⟨_, by rw [decide_eq_true oM]; exact (List.any_eq_true.2 ⟨y, List.mem_of_getElem? hy, by rw [hq]; exact beq_self_eq_true _⟩).symm, rfl, s_.aPg⟩
  .have hne : y ≠ x := fun e => beq_eq_false_iff_ne.1 hc2 e.symm
   refine g7 ?_
   refine aN (k + 1) oM ⟨by omega, by rw [List.take_add_one, hy, List.any_append, hn]; simpa using hne⟩ kns (fun w s => by exact s)
 .have hge : ¬ k < xs.length := by have := oF hc2; omega
  refine g11 ?_
  exact aT (.inl rfl) rfl (aE rfl) fun w_ s_ => ⟨_, by rw [<- List.take_length (l := xs), show xs.length = k by omega, hn]; rfl, rfl, s_.aPg⟩
theorem bA (xs : List Int) (x : Int) (v : Value) (hl : xs.length <= 2147483647) (w : World) (hI : Ints w v xs) : CB 35 #[v, iV x] w (.bool (xs.any (· == x))) := by
 refine aF (args := [v, iV x]) (L := [(0, v), (1, iV x)]) (N := 9) Tryz.func35 rfl rfl ble rfl (sS w) (g9 ?_)
 refine gL (cbx (fun i : Int => iV i) (fun i => decide (0 <= i) = xs.any (· == x)) rfl (fun w_ s_ => aDc xs x v hl w_ (aZ s_ hI)) (fun i hi => rZ4 ((dV rfl rfl).to (v' := .bool (xs.any (· == x))) (cB hi)) ?_))
 exact gR rfl fun w_ s_ => ⟨rfl, s_.aPg⟩
theorem aB7 (xs : List (Int × Int)) (x : Int × Int) (v : Value) (hl : xs.length <= 2147483647) (w : World) (hI : Prs w v xs) : Calls Tryz.prog 57 #[v, .agg #[iV x.1, iV x.2]] w fun e w' => ∃ i : Int, decide (0 <= i) = xs.any (· == x) /\ e = .returned (iV i) /\ Below w.heap.size w w' := by
 obtain ⟨p, c, rfl, hI⟩ := hI
 refine aF (args := [.slice p xs.length c, .agg #[iV x.1, iV x.2]]) (L := [(0, .slice p xs.length c), (1, .agg #[iV x.1, iV x.2])]) (N := 19) Tryz.func57 rfl rfl ble rfl (sS w) (g2 ?_)
 refine gL (bxo 50 rfl rfl rfl (fun b1_ hbb1_ => g12 ?_))
 refine aY (ι := (Nat)) (fun k => xs.length - k) (fun k => (k <= xs.length) /\ ((xs.take k).any (· == x) = false)) (fun k => [(0, .slice p xs.length c), (3, pT b1_), (7, iV (xs.length)), (8, iV k)]) (fun k => (50, b1_) :: []) (fun k => aL 50 0 [iV x.1, iV x.2] ++ []) (fun k => []) 0 ⟨by omega, rfl⟩ kns (fun w s => by exact s) ?_
 rintro k ⟨hk, hn⟩
 refine dS ?_
 refine g6 ?_
 refine aB rfl (fun hc1 => ?_) (fun hc2 => ?_)
 .have hlt : k < xs.length := by have := oT hc1; omega
  obtain ⟨y, hy⟩ : ∃ y, xs[k]? = some y := ⟨_, List.getElem?_eq_getElem hlt⟩
  obtain ⟨b, o, rfl, hca, hcb⟩ := hI k y hy
  refine g12 ?_
  refine rq (aW 50 rfl rfl rfl rfl kR dE) (g2 ?_)
  refine rq (aC (e := 43) (n := 2) kR rfl rfl oM oM) (rq (iK rfl (by rw [<- hca]; congr 2; omega) (by rw [<- hcb]; congr 2; omega) (fun h => h) kR) (rq ((aId rfl rfl).to (v' := .bool (x == y)) rfl) (g2 ?_)))
  refine aB rfl (fun hc1 => ?_) (fun hc2 => ?_)
  .have hq : y = x := (beq_iff_eq.1 hc1).symm
   refine g12 ?_
   exact aT (.inl rfl) rfl (aE rfl) fun w_ s_ => ⟨_, by rw [decide_eq_true oM]; exact (List.any_eq_true.2 ⟨y, List.mem_of_getElem? hy, by rw [hq]; exact beq_self_eq_true _⟩).symm, rfl, s_.aPg⟩
  .have hne : y ≠ x := fun e => beq_eq_false_iff_ne.1 hc2 e.symm
   refine g7 ?_
   refine aN (k + 1) oM ⟨by omega, by rw [List.take_add_one, hy, List.any_append, hn]; simpa using hne⟩ kns (fun w s => by exact s)
 .have hge : ¬ k < xs.length := by have := oF hc2; omega
  refine g11 ?_
  exact aT (.inl rfl) rfl (aE rfl) fun w_ s_ => ⟨_, by rw [<- List.take_length (l := xs), show xs.length = k by omega, hn]; rfl, rfl, s_.aPg⟩
theorem jX (xs : List (Int × Int)) (x : Int × Int) (v : Value) (hl : xs.length <= 2147483647) (w : World) (hI : Prs w v xs) : CB 36 #[v, .agg #[iV x.1, iV x.2]] w (.bool (xs.any (· == x))) := by
 refine aF (args := [v, .agg #[iV x.1, iV x.2]]) (L := [(0, v), (1, .agg #[iV x.1, iV x.2])]) (N := 9) Tryz.func36 rfl rfl ble rfl (sS w) (g2 ?_)
 refine gL (bxo 50 rfl rfl rfl (fun b1_ hbb1_ => g6 ?_))
 refine rl (aW 50 rfl rfl rfl rfl kR dE) (gL (cbx (fun i : Int => iV i) (fun i => decide (0 <= i) = xs.any (· == x)) rfl (fun w_ s_ => aB7 xs x v hl w_ (qV s_ hI)) (fun i hi => rZ4 ((dV rfl rfl).to (v' := .bool (xs.any (· == x))) (cB hi)) ?_)))
 exact gR rfl fun w_ s_ => ⟨rfl, s_.aPg⟩
theorem jG (x : Int) (h0 : 0 <= x) (w : World) : CB 37 #[iV x] w (iV (x % 7)) := by
 refine aF (args := [iV x]) (L := [(0, iV x)]) (N := 5) Tryz.func37 rfl rfl ble rfl (sS w) (g13 ?_)
 refine gR rfl fun w_ s_ => ⟨?_, s_.aPg⟩
 rfl
theorem aAn (x : Int) (h0 : 0 <= x /\ x <= 1000000000000000) (w : World) : CB 59 #[iV x] w (.tuple #[iV (x % 86400 / 3600), iV (x % 86400 / 60 % 60), iV (x % 86400 % 60)]) := by
 refine aF (args := [iV x]) (L := [(0, iV x)]) (N := 15) Tryz.func59 rfl rfl ble rfl (sS w) (g25 ?_)
 refine g4 ?_
 refine jZ (.inl rfl) rfl (aE rfl) (aE rfl) (aE rfl) fun w_ s_ => ⟨?_, s_.aPg⟩
 exact tJ rfl rfl rfl
theorem aG8 {d y : Int} (h1 : Cal.daysTo y <= d) (h2 : d < Cal.daysTo (y + 1)) : Cal.yearOf d = y := by
 have hs := Cal.split_spec d
 have hd1 : Cal.daysTo (Cal.yearOf d) <= d /\ d < Cal.daysTo (Cal.yearOf d + 1) := by
  have := Cal.daysTo_succ (Cal.yearOf d)
  omega
 rcases Int.lt_trichotomy (Cal.yearOf d) y with h | h | h
 .have := Cal.daysTo_mono (show Cal.yearOf d + 1 <= y by omega); omega
 .exact h
 .have := Cal.daysTo_mono (show y + 1 <= Cal.yearOf d by omega); omega
theorem lU (d : Int) (h0 : 0 <= d /\ d <= 100000000) (w : World) : CB 43 #[iV d] w (.tuple #[iV (Cal.yearOf d), iV (Cal.monthOf d), iV (Cal.mdayOf d)]) := by
 refine aF (args := [iV d]) (L := [(0, iV d)]) (N := 35) Tryz.func43 rfl rfl ble rfl (sS w) (g16 ?_)
 refine g1 ?_
 refine aY (ι := (Int)) (fun y => (d / 365 + 2 - y).toNat) (fun y => (1 <= y /\ y <= d / 365 + 1) /\ (Cal.daysTo y <= d)) (fun y => [(0, iV d), (2, iV y)]) (fun y => []) (fun y => []) (fun y => []) (d / 366 + 1) ⟨by omega, by unfold Cal.daysTo; omega⟩ kns (fun w s => by exact s) ?_
 rintro y ⟨hy1, hy⟩
 refine dS ?_
 have hdy : 0 <= Cal.daysTo (y + 1) /\ Cal.daysTo (y + 1) <= 400000000000 := by unfold Cal.daysTo; omega
 refine g5 ?_
 refine gL (cvo rfl (fun w_ s_ => eO _ oM w_) (g4 ?_))
 refine aB rfl (fun hc1 => ?_) (fun hc2 => ?_)
 .have hle : Cal.daysTo (y + 1) <= d := oT hc1
  refine g9 ?_
  refine aN (y + 1) oM ⟨by have := hle; unfold Cal.daysTo at this; omega, hle⟩ kno (fun w s => by exact s)
 .have hlt : d < Cal.daysTo (y + 1) := by have := oF hc2; omega
  have hdy0 : 0 <= Cal.daysTo y := by unfold Cal.daysTo; omega
  refine g9 ?_
  refine gL (cvo rfl (fun w_ s_ => eO _ oM w_) (g11 ?_))
  have hYD := aG8 hy hlt
  have hsp := (Cal.split_spec d).2
  have hs1 := (Cal.split_spec d).1
  rw [hYD] at hsp hs1
  refine aY (ι := (Nat) × (Int) × (Int)) (fun | ⟨j, m, q⟩ => 12 - j) (fun | ⟨j, m, q⟩ => (j <= 11) /\ (m = j + 1) /\ (q = Cal.ydayOf d - Cal.cum y j) /\ (Cal.cum y j <= Cal.ydayOf d)) (fun | ⟨j, m, q⟩ => [(2, iV y), (3, iV m), (4, iV q)]) (fun _ => []) (fun _ => []) (fun _ => []) ⟨0, 1, d - Cal.daysTo y⟩ ⟨by omega, by omega, by simp only [Cal.cum]; omega, by simp only [Cal.cum]; omega⟩ kns (fun w s => by exact s) ?_
  rintro ⟨j, m, q⟩ ⟨hj, hm, hq, hc⟩
  refine dS ?_
  have hmd := Cal.mdays_bd m y
  have hcs : Cal.cum y (j + 1) = Cal.cum y j + Cal.mdays m y := by rw [hm]; rfl
  have hc0 := Cal.cum_mono y 0 j (Nat.zero_le _)
  simp only [Cal.cum] at hc0
  have hlp := Cal.lp_01 y
  refine g6 ?_
  refine gL (cvo rfl (fun w_ s_ => fQ _ _ oM w_) (g3 ?_))
  refine aB rfl (fun hc1 => ?_) (fun hc2 => ?_)
  .have hge : Cal.mdays m y <= q := oT hc1
   have hnx : Cal.cum y (j + 1) <= Cal.ydayOf d := by omega
   have hj1 : j + 1 <= 11 := by
    rcases Nat.lt_or_ge j 11 with h | h
    .omega
    .exfalso; obtain rfl : j = 11 := by omega
     rw [Cal.cum_12] at hnx; omega
   refine g8 ?_
   refine gL (cvo rfl (fun w_ s_ => fQ _ _ oM w_) (g10 ?_))
   refine aN ⟨j + 1, m + 1, q - Cal.mdays m y⟩ sO ⟨by omega, by omega, by rw [hcs]; omega, hnx⟩ kns (fun w s => by exact s)
  .have hlt2 : ¬ Cal.mdays m y <= q := oF hc2
   have hfin := Cal.mon_unique (y := y) (D := Cal.ydayOf d) hj hc oM
   refine g16 ?_
   refine g1 ?_
   refine jZ (.inl rfl) rfl (aE rfl) (aE rfl) (aE rfl) fun w_ s_ => ⟨?_, s_.aPg⟩
   unfold Cal.monthOf Cal.mdayOf
   rw [hYD, hfin]
   exact tJ rfl hm sO
theorem rF {w : World} {p : Option Addr} {c : Nat} {xs : List Int} {k : Nat} (h : Ints w (.slice p xs.length c) xs) (hk : k <= xs.length) : Ints w (.slice p k c) (xs.take k) := by
 obtain ⟨p', c', e, hc⟩ := h
 injection e with e1 _ e3
 subst e1 e3
 refine ⟨p, c, by rw [List.length_take, Nat.min_eq_left hk], fun i x hx => ?_⟩
 rw [List.getElem?_take] at hx
 split at hx
 .exact hc i x hx
 .cases hx
def okR (a b : Int) (m : Bool) (x : Int) : Bool := if m = true /\ x < 0 then decide (-b <= x) && (decide (a <= -x) && decide (-x <= b)) else decide (a <= x) && decide (x <= b)
def jS (l : List Int) (a b : Int) (m : Bool) : Bool := ((List.range l.length).all fun i => okR a b m (l.getD i 0) && !((l.take i).any (· == l.getD i 0))) && decide (l.length <= 100)
theorem aIb (p : Nat -> Bool) (k : Nat) : (List.range (k + 1)).all p = ((List.range k).all p && p k) := by rw [List.range_succ, List.all_append]; simp
theorem qR {p : Nat -> Bool} {k n : Nat} (hk : k < n) (h : p k = false) : (List.range n).all p = false := by
 rw [Bool.eq_false_iff]
 intro h2
 rw [List.all_eq_true] at h2
 have := h2 k (by simpa using hk)
 rw [h] at this; cases this
theorem dG (xs : List Int) (p : Option Addr) (c : Nat) (a b : Int) (m : Bool) (hcap : xs.length <= c) (ha : 0 <= a /\ a <= 1000) (hb : 0 <= b /\ b <= 1000) (hl : xs.length <= 2147483647) (w : World) (hI0 : Ints w (.slice p xs.length c) xs) : CB 34 #[.slice p xs.length c, iV a, iV b, .bool m] w (.bool (jS xs a b m)) := by
 have hI : ∀ i x, xs[i]? = some x -> ∃ b o, p = some ⟨b, o, none⟩ /\ w.cell? ⟨b, o + i, none⟩ = some (iV x) := by
  obtain ⟨p', c', e, hc⟩ := hI0
  injection e with e1 _ _
  subst e1
  exact hc
 refine aF (args := [.slice p xs.length c, iV a, iV b, .bool m]) (L := [(0, .slice p xs.length c), (1, iV a), (2, iV b), (3, .bool m)]) (N := 50) Tryz.func34 rfl rfl ble rfl (sS w) (g14 ?_)
 refine aY (ι := (Nat)) (fun k => xs.length - k) (fun k => (k <= xs.length) /\ ((List.range k).all (fun i => okR a b m (xs.getD i 0) && !((xs.take i).any (· == xs.getD i 0))) = true)) (fun k => [(0, .slice p xs.length c), (1, iV a), (2, iV b), (3, .bool m), (12, .slice p xs.length c), (13, iV (xs.length)), (14, iV k)]) (fun k => []) (fun k => []) (fun k => []) 0 ⟨by omega, rfl⟩ kns (fun w s => by exact s) ?_
 rintro k ⟨hk, hn⟩
 refine dS ?_
 refine g6 ?_
 refine aB rfl (fun hc1 => ?_) (fun hc2 => ?_)
 .have hlt : k < xs.length := by have := oT hc1; omega
  obtain ⟨y, hy⟩ : ∃ y, xs[k]? = some y := ⟨_, List.getElem?_eq_getElem hlt⟩
  have hgd : xs.getD k 0 = y := by rw [List.getD_eq_getElem?_getD, hy]; rfl
  obtain ⟨b_, o, rfl, hcell⟩ := hI k y hy
  refine g7 ?_
  refine rl (aC (e := 3) (n := 1) kR rfl rfl oM oM) (rl (gH rfl (v := iV y) (by rw [<- hcell]; congr 2; omega) (fun h => h) kR) (g10 ?_))
  refine cO (ι := (Int)) (fun nn => (okR a b m y = (decide (a <= nn) && decide (nn <= b)))) (fun nn => [(0, .slice (some ⟨b_, o, none⟩) xs.length c), (1, iV a), (2, iV b), (3, .bool m), (12, .slice (some ⟨b_, o, none⟩) xs.length c), (13, iV (xs.length)), (14, iV k), (9, iV k), (10, iV y), (11, iV nn)]) (fun nn => []) (fun nn => []) (fun nn => []) ?_ ?_
  .refine g3 ?_
   by_cases hneg : y < 0
   .refine rZ2 ((cR rfl rfl).to bT) ?_
    rcases bO (m) with hm | hm
    .refine sQ ((bC rfl).to (v' := .bool true) (cB hm)) ?_
     refine aB rfl (fun hc1 => ?_) (fun hc2 => ?_)
     .have hlb : y < -b := oT hc1
      have hF : jS xs a b m = false := by unfold jS; rw [(qR (p := (fun i => okR a b m (xs.getD i 0) && !((xs.take i).any (· == xs.getD i 0)))) hlt (by rw [hgd, show okR a b m y = false from by unfold okR; rw [if_pos ⟨hm, hneg⟩, decide_eq_false (show ¬ -b <= y by omega)]; rfl]; first | done | simp))]; rfl
      refine g13 ?_
      exact gR rfl fun w_ s_ => ⟨by rw [hF], s_.aPg⟩
     .have hlb : ¬ y < -b := oF hc2
      refine g7 ?_
      refine aK (ι := Int) (-y) (by unfold okR; rw [if_pos ⟨hm, hneg⟩, decide_eq_true (show -b <= y by omega)]; rfl) kno (fun w s => s)
    .refine rl ((bC rfl).to (v' := .bool false) (cB hm)) (g3 ?_)
     refine aU rfl rfl ?_
     refine g1 ?_
     refine aK (ι := Int) (y) (by unfold okR; rw [if_neg (fun h => by rw [hm] at h; cases h.1)]) kno (fun w s => s)
   .refine rl ((cR rfl rfl).to bF) (yZ7 ?_)
    refine aK (ι := Int) (y) (by unfold okR; rw [if_neg (fun h => hneg h.2)]) kno (fun w s => s)
  rintro nn hnn
  refine dS ?_
  refine g4 ?_
  by_cases hlo : nn < a
  .have hF : jS xs a b m = false := by unfold jS; rw [(qR (p := (fun i => okR a b m (xs.getD i 0) && !((xs.take i).any (· == xs.getD i 0)))) hlt (by rw [hgd, hnn, decide_eq_false (show ¬ a <= nn by omega)]; first | done | simp))]; rfl
   refine rl ((cR rfl rfl).to bT) (g14 ?_)
   refine l5 ?_
   exact gR rfl fun w_ s_ => ⟨by rw [hF], s_.aPg⟩
  .have hok1 : decide (a <= nn) = true := decide_eq_true oM
   refine rZ6 ((cR rfl rfl).to bF) ?_
   by_cases hhi : b < nn
   .have hF : jS xs a b m = false := by unfold jS; rw [(qR (p := (fun i => okR a b m (xs.getD i 0) && !((xs.take i).any (· == xs.getD i 0)))) hlt (by rw [hgd, hnn, decide_eq_false (show ¬ nn <= b by omega), Bool.and_false]; first | done | simp))]; rfl
    refine rl ((bU rfl rfl).to bT) (g10 ?_)
    refine l5 ?_
    exact gR rfl fun w_ s_ => ⟨by rw [hF], s_.aPg⟩
   .have hok2 : decide (nn <= b) = true := decide_eq_true oM
    refine rZ7 ((bU rfl rfl).to bF) ?_
    refine rZ3 ((eN (e := 3) (n := 1) kR rfl rfl oM oM).to (v' := .slice (some ⟨b_, o, none⟩) k c) rfl) ?_
    rcases bO ((xs.take k).any (· == y)) with hno | hno
    .have hF : jS xs a b m = false := by unfold jS; rw [(qR (p := (fun i => okR a b m (xs.getD i 0) && !((xs.take i).any (· == xs.getD i 0)))) hlt (by rw [hgd, hno, Bool.not_true, Bool.and_false]; first | done | simp))]; rfl
     refine gL (cvo (v := .bool true) rfl (fun w_ s_ => (bA (xs.take k) y _ (by rw [List.length_take]; omega) w_ (rF (aZ s_ hI0) (Nat.le_of_lt hlt))).mT (cE hno)) (s4 ?_))
     exact gR rfl fun w_ s_ => ⟨by rw [hF], s_.aPg⟩
    .refine gL (cvo (v := .bool false) rfl (fun w_ s_ => (bA (xs.take k) y _ (by rw [List.length_take]; omega) w_ (rF (aZ s_ hI0) (Nat.le_of_lt hlt))).mT (cE hno)) (qG ?_))
     refine aN (k + 1) oM ⟨by omega, by rw [aIb, hn, hgd, hnn, hok1, hok2, hno]; rfl⟩ kns (fun w s => by exact s)
 .obtain rfl : k = xs.length := by have := oF hc2; omega
  have hF : jS xs a b m = decide ((xs.length : Int) <= 100) := by unfold jS; rw [hn, Bool.true_and]; exact decide_eq_decide.2 oM
  refine g14 ?_
  exact gR rfl fun w_ s_ => ⟨by rw [hF], s_.aPg⟩
theorem aNt {a b : Nat} (h : a = b) : (a == b) = true := beq_iff_eq.2 h
theorem rP {a b : Nat} (h : ¬ a = b) : (a == b) = false := beq_eq_false_iff_ne.2 h
theorem eI (xs : List Int) (x : Int) (v : Value) (hl : xs.length <= 2147483647) (w : World) (hI0 : Ints w v xs) : CB 58 #[v, iV x] w (.bool (aI xs x)) := by
 obtain ⟨p, c, rfl, hI⟩ := id hI0
 refine aF (args := [.slice p xs.length c, iV x]) (L := [(0, .slice p xs.length c), (1, iV x)]) (N := 13) Tryz.func58 rfl rfl ble rfl (sS w) (g9 ?_)
 by_cases h0 : xs.length = 0
 .have hF : aI xs x = true := by unfold aI; rw [aNt h0]; rfl
  refine rl ((aQ rfl rfl).to eT) (g9 ?_)
  exact gR rfl fun w_ s_ => ⟨by rw [hF]; rfl, s_.aPg⟩
 .refine rZ6 ((aQ rfl rfl).to eF) ?_
  rcases bO (xs.any (· == x)) with ha | ha
  .have hF : aI xs x = true := by unfold aI; rw [ha, Bool.or_true]
   refine gL (cvo (v := .bool true) rfl (fun w_ s_ => (bA xs x _ hl w_ (aZ s_ hI0)).mT (cE ha)) (g5 ?_))
   exact gR rfl fun w_ s_ => ⟨by rw [hF]; rfl, s_.aPg⟩
  .have hF : aI xs x = false := by unfold aI; rw [ha, rP h0]; rfl
   refine gL (cvo (v := .bool false) rfl (fun w_ s_ => (bA xs x _ hl w_ (aZ s_ hI0)).mT (cE ha)) (g5 ?_))
   exact gR rfl fun w_ s_ => ⟨by rw [hF]; rfl, s_.aPg⟩
def fJ (r : Rul) : Int := if r.aP0 = true then r.untl else r.start + 9223372036
theorem kO (r : Rul) (x : Av) (hs : 0 <= r.start /\ r.start <= 1000000000000) (w : World) : CB 39 #[.agg (bG r x).toArray] w (iV (fJ r)) := by
 refine aF (args := [.agg (bG r x).toArray]) (L := [(0, .agg (bG r x).toArray)]) (N := 10) Tryz.func39 rfl rfl ble rfl (sS w) (g2 ?_)
 refine gL (fU 50 (cs := bG r x) dE rfl rfl rfl (fun o ho => rfl) ble (fun b1 hb1 => g10 ?_))
 refine aB rfl (fun hc1 => ?_) (fun hc2 => ?_)
 .have hF : fJ r = r.untl := by unfold fJ; rw [if_pos hc1]
  refine g9 ?_
  exact gR rfl fun w_ s_ => ⟨by rw [hF], s_.aPg⟩
 .have hF : fJ r = r.start + 9223372036 := by unfold fJ; rw [if_neg (by rw [hc2]; decide)]
  refine g11 ?_
  exact gR rfl fun w_ s_ => ⟨by rw [hF], s_.aPg⟩
def xY (at_ : List Int) (n i : Nat) : Bool := at_.any (· == (i : Int) + 1) || at_.any (· == (i : Int) - n)
def pE (l at_ : List Int) (k : Nat) : List Int := ((List.range k).filter (xY at_ l.length)).map fun i => l.getD i 0
def dY (l at_ : List Int) : List Int := if at_.length = 0 then l else pE l at_ l.length
theorem aEh (l at_ : List Int) (k : Nat) : pE l at_ (k + 1) = pE l at_ k ++ if xY at_ l.length k = true then [l.getD k 0] else [] := by
 unfold pE
 rw [List.range_succ, List.filter_append, List.map_append]
 cases h : xY at_ l.length k <;> simp [h]
theorem aIi (l at_ : List Int) (k : Nat) : (pE l at_ k).length <= k := by
 unfold pE
 rw [List.length_map]
 exact Nat.le_trans (List.length_filter_le _ _) (by simp)
theorem pG (l at_ : List Int) (p0 : Option Addr) (c0 : Nat) (v : Value) (hl : l.length <= 1000000000) (ha : at_.length <= 2147483647) (w : World) (hI0 : Ints w (.slice p0 l.length c0) l) (hA : Ints w v at_) : Calls Tryz.prog 42 #[.slice p0 l.length c0, v] w fun e w' => ∃ p c, e = .returned (.slice p (dY l at_).length c) /\ ((at_.length = 0 /\ p = p0 /\ c = c0 /\ Below w.heap.size w w') \/ (at_.length ≠ 0 /\ gC w w' (.slice p (dY l at_).length c) 2 1 (dY l at_).length ((dY l at_).map iV))) := by
 have hI : ∀ i x, l[i]? = some x -> ∃ b o, p0 = some ⟨b, o, none⟩ /\ w.cell? ⟨b, o + i, none⟩ = some (iV x) := by
  obtain ⟨p', c', e, hc⟩ := hI0
  injection e with e1 _ _
  subst e1
  exact hc
 obtain ⟨pa, ca, rfl, _⟩ := id hA
 refine aF (args := [.slice p0 l.length c0, .slice pa at_.length ca]) (L := [(0, .slice p0 l.length c0), (1, .slice pa at_.length ca)]) (N := 37) Tryz.func42 rfl rfl ble rfl (sS w) (g10 ?_)
 by_cases h0 : at_.length = 0
 .refine sA ((aQ rfl rfl).to eT) ?_
  exact gR rfl fun w_ s_ => ⟨p0, c0, by unfold dY; rw [if_pos h0], .inl ⟨h0, rfl, rfl, s_.aPg⟩⟩
 .refine rl ((aQ rfl rfl).to eF) (g2 ?_)
  refine uC ?_
  refine aY (ι := (Nat) × (List Int) × (Option Addr) × (Nat) × (Nat) × (List Value)) (fun | ⟨k, acc, p, c, n, xs⟩ => l.length - k) (fun | ⟨k, acc, p, c, n, xs⟩ => (k <= l.length) /\ (acc = pE l at_ k) /\ (n = acc.length) /\ (xs = acc.map iV) /\ (n <= k)) (fun | ⟨k, acc, p, c, n, xs⟩ => [(0, .slice p0 l.length c0), (1, .slice pa at_.length ca), (5, .slice p n c), (12, .slice p0 l.length c0), (13, iV (l.length)), (14, iV k)]) (fun _ => []) (fun _ => []) (fun | ⟨k, acc, p, c, n, xs⟩ => [(11, ⟨.slice p n c, 2, 1, n, xs⟩)]) ⟨0, [], none, 0, 0, []⟩ ⟨Nat.zero_le _, rfl, rfl, rfl, Nat.le_refl _⟩ kns (fun w s => by exact s.aPm 11 2 1) ?_
  rintro ⟨k, acc, p, c, n, xs⟩ ⟨hk, hacc, hn, hx, hnk⟩
  refine dS ?_
  refine g6 ?_
  refine aB rfl (fun hc1 => ?_) (fun hc2 => ?_)
  .have hlt : k < l.length := by have := oT hc1; omega
   obtain ⟨y, hy⟩ : ∃ y, l[k]? = some y := ⟨_, List.getElem?_eq_getElem hlt⟩
   have hgd : l.getD k 0 = y := by rw [List.getD_eq_getElem?_getD, hy]; rfl
   obtain ⟨b_, o, hp0, hcell⟩ := hI k y hy
   have hps := aEh l at_ k
   rw [<- hacc, hgd] at hps
   refine g7 ?_
   refine rl (aC (e := 2) (n := 1) kR (congrArg (fun p => some (Value.slice p _ _)) hp0) rfl oM oM) (rl (gH rfl (v := iV y) (by rw [<- hcell]; congr 2; omega) (fun h => h) kR) (g9 ?_))
   rcases bO (at_.any (· == (k : Int) + 1)) with hq1 | hq1
   .refine gL (cvo (v := .bool true) rfl (fun w_ s_ => (bA at_ _ _ ha w_ (aZ s_ hA)).mT (cE hq1)) (oD ?_))
    refine gL (dB 60 (e := 2) (sz := 1) (by_ := 8) (zs := [iV 0]) dE kR rfl dE dE rfl rfl rfl (fun bo => gL (cW 11 60 (e := 2) (sz := 1) (by_ := 8) (zs := [iV 0]) dE kR rfl dE rfl rfl rfl rfl ⟨rfl, rfl⟩ ⟨rfl, rfl⟩ (gZ (xs := [y])) sO sO (fun p' c' => g8 ?_))))
    refine aN ⟨k + 1, acc ++ [y], p', c', n + 1, xs ++ [iV y]⟩ sO ⟨by omega, by rw [hps, if_pos (by unfold xY; rw [hq1, Bool.true_or])], by rw [List.length_append, hn]; rfl, by rw [hx]; simp, by omega⟩ kns (fun w s => by exact s.low 40 ((Lim.nil).aPi dE) agx agx agx)
   .refine gL (cvo (v := .bool false) rfl (fun w_ s_ => (bA at_ _ _ ha w_ (aZ s_ hA)).mT (cE hq1)) (g12 ?_))
    rcases bO (at_.any (· == (k : Int) - l.length)) with hq2 | hq2
    .refine gL (cvo (v := .bool true) rfl (fun w_ s_ => (bA at_ _ _ ha w_ (aZ s_ hA)).mT (cE hq2)) (yZ7 ?_))
     refine gL (dB 60 (e := 2) (sz := 1) (by_ := 8) (zs := [iV 0]) dE kR rfl dE dE rfl rfl rfl (fun bo => gL (cW 11 60 (e := 2) (sz := 1) (by_ := 8) (zs := [iV 0]) dE kR rfl dE rfl rfl rfl rfl ⟨rfl, rfl⟩ ⟨rfl, rfl⟩ (gZ (xs := [y])) sO sO (fun p' c' => g8 ?_))))
     refine aN ⟨k + 1, acc ++ [y], p', c', n + 1, xs ++ [iV y]⟩ sO ⟨by omega, by rw [hps, if_pos (by unfold xY; rw [hq2, Bool.or_true])], by rw [List.length_append, hn]; rfl, by rw [hx]; simp, by omega⟩ kns (fun w s => by exact s.low 40 ((Lim.nil).aPi dE) agx agx agx)
    .refine gL (cvo (v := .bool false) rfl (fun w_ s_ => (bA at_ _ _ ha w_ (aZ s_ hA)).mT (cE hq2)) (qG ?_))
     refine aN ⟨k + 1, acc, p, c, n, xs⟩ sO ⟨by omega, by rw [hps, if_neg (by unfold xY; rw [hq1, hq2]; decide), List.append_nil], hn, hx, by omega⟩ kns (fun w s => by exact s.low 40 ((Lim.nil).aPi dE) agx agx agx)
  .have hge : ¬ k < l.length := by have := oF hc2; omega
   refine g12 ?_
   have hF : dY l at_ = acc := by unfold dY; rw [if_neg h0, hacc, show l.length = k by omega]
   rw [hF]
   subst hn hx
   exact gR rfl fun w_ s_ => ⟨p, c, rfl, .inr ⟨h0, Sees.toNew (k := 11) s_ rfl⟩⟩
end
end Go.Proofs.YthomapgobmdicaaGreat
