import Derived.Test.YthomapgobmdicaaGreatZre
set_option linter.unusedVariables false
set_option linter.unusedSimpArgs false
set_option maxRecDepth 100000
set_option maxHeartbeats 8000000
namespace Go.Proofs.YthomapgobmdicaaGreat
open Go.RowKit Go.Fr Go.Tab
section
variable {F : Nat -> Prop} {w0 : World} {B : LN} {H : LV} {S : LS}
open Go.Md
abbrev rgV (t : Nat × Nat × Nat) : Value := .slice (some ⟨t.1, t.2.1, none⟩) 2 t.2.2
def aMr (F : Nat -> Prop) (w0 : World) (S : LS) (t : Nat × Nat × Nat) (p : Int × Int) : Prop := ∀ B' H' S' w, (∀ k, k ≠ 9 -> k < 53 -> lkp k S' = lkp k S) -> Sees F w0 B' H' S' w -> w.cell? ⟨t.1, t.2.1, none⟩ = some (iV p.1) /\ w.cell? ⟨t.1, t.2.1 + 1, none⟩ = some (iV p.2)
def rgT (b c : Nat) (x : Int) : Nat × Nat × Nat := (b, (x - 1).toNat, c - (x - 1).toNat)
theorem aBl {b c : Nat} {x : Int} (h : 1 <= x) : Value.slice (some ⟨b, 0 + (x - 1).toNat * 1, none⟩) ((x + 1).toNat - (x - 1).toNat) (c - (x - 1).toNat) = rgV (rgT b c x) := by
 show _ = Value.slice (some ⟨b, (x - 1).toNat, none⟩) 2 (c - (x - 1).toNat)
 rw [Nat.zero_add, Nat.mul_one, show (x + 1).toNat - (x - 1).toNat = 2 by omega]
theorem aJz {t : Nat × Nat × Nat} : ∀ u ∈ [rgV t], u.oneCell' = true := fun u hu => by
 rw [List.mem_singleton] at hu; subst hu; rfl
theorem aMs (y : Int) : (rgY y).length = 13 := by unfold rgY; split <;> rfl
theorem aBq {F : Nat -> Prop} {w0 : World} {S : LS} {b c : Nat} {y x : Int} {e : TypeId} (h7 : lkp 7 S = some ⟨sL b 13 c, e, 1, 13, (rgY y).map iV⟩) (hx : 1 <= x /\ x <= 12) : aMr F w0 S (rgT b c x) (jQ y x) := fun B' H' S' w ha s => by
 have hr := (ha 7 dE dE).trans h7
 have hl := aMs y
 have g : ∀ k : Nat, k < 13 -> ((rgY y).map iV)[k]? = some (iV ((rgY y).getD k 0)) := fun k hk => by
  rw [List.getElem?_map, List.getD_eq_getElem?_getD, List.getElem?_eq_getElem oM]; rfl
 have h1 := s.aPl (o := (x - 1).toNat) hr rfl (g _ oM)
 have h2 := s.aPl (o := (x - 1).toNat + 1) hr rfl (g _ oM)
 refine ⟨h1, ?_⟩
 rw [show (x - 1).toNat + 1 = x.toNat by omega] at h2
 show w.cell? ⟨b, (x - 1).toNat + 1, none⟩ = _
 rw [show (x - 1).toNat + 1 = x.toNat by omega]
 exact h2
theorem Sees.rowOver {F : Nat -> Prop} {w0 w : World} {B : LN} {H : LV} {S S2 : LS} {q : Slc} (hl : ∀ k, 41 <= k -> lkp k S = none) (hlo : ∀ k, k < 41 -> lkp k S2 = lkp k S) (s : Sees F w0 B H ((9, q) :: S2) w) : Sees F w0 B H ((9, q) :: S) w :=
 s.to (fun _ _ h => h) (fun k o v ho h => ⟨h, by obtain ⟨b, e, _⟩ := s.cells k o v ho h; rw [e]; rfl⟩) (fun j u hj => by
  by_cases e : j = 9
  .subst e; exact hj
  .rw [aA e] at hj ⊢
   rcases Nat.lt_or_ge j 41 with h | h
   .rw [hlo j h]; exact hj
   .rw [hl j h] at hj; cases hj)
def NwOk (r : Ru) (y m : Int) : Prop := ∀ q ∈ cD r.aP2 r.aPt y m, 0 <= q.1 /\ q.1 < q.2 /\ q.2 <= 365 + Cal.lp y /\ ∀ p ∈ r.nwd, (0 <= p.1 /\ p.1 <= 6) /\ p.2 ≠ 0 /\ -60 <= p.2 /\ p.2 <= 60 /\ (p.2 < 0 -> 0 <= q.2 + p.2 * 7 + 6) /\ (0 < p.2 -> q.1 + p.2 * 7 <= 377)
theorem aOu {Q : Exit -> Act -> World -> Prop} {V : LV} (hV : VOk V) {S0 : LS} {H0 : LV} {r : Ru} {l : Ra} {it rb : Nat} {s : It} {a : Ad} (st : St F w0 S0 H0 it rb r l s a B ((ky 0 9, iV s.lm) :: (ky 0 8, iV s.ly) :: (V ++ H)) S) (hr : RuOk r) {ly0 lm0 : Int} (h8 : lkp (ky 0 8) H = some (iV ly0)) (h9 : lkp (ky 0 9) H = some (iV lm0)) (hlm : 1 <= s.lm /\ s.lm <= 12) (hmb : ∀ x ∈ r.aPt, 1 <= x /\ x <= 12) (hnF : r.nwmF s.ly s.lm = nwM r.aP2 r.aPt r.nwd s.ly s.lm) (hok : NwOk r s.ly s.lm) (hold : r.nwd.length = 0 -> s.nwm = [])
  (hn : ∀ a' H' S', St F w0 S0 H0 it rb r l { s with nwm := (if s.ly = ly0 /\ s.lm = lm0 then s.nwm else r.nwmF s.ly s.lm) } a' B ((ky 0 9, iV s.lm) :: (ky 0 8, iV s.ly) :: (V ++ H')) S' -> Kp H' H -> GE Q .normal 638 [(0, .pointer (some ⟨it, 7, none⟩)), (1, iV (s.ly)), (2, iV (s.lm))] F w0 B H' S') : GC Tryz.prog (Go.Fr.part [1, 0] (Go.Fr.bodyOf Tryz.f74)) Q 638 [(0, .pointer (some ⟨it, 7, none⟩)), (1, iV (s.ly)), (2, iV (s.lm))] F w0 B H S := by
 have m0_7 := (eV hV dE dE dE dE).symm.trans st.h7
 have m0_10 := (eV hV dE dE dE dE).symm.trans st.h10
 have m0_14 := (eV hV dE dE dE dE).symm.trans st.h14
 have m0_16 := (eV hV dE dE dE dE).symm.trans st.h16
 have m0_19 := (eV hV dE dE dE dE).symm.trans st.h19
 have m0_20 := (eV hV dE dE dE dE).symm.trans st.h20
 have m0_21 := (eV hV dE dE dE dE).symm.trans st.h21
 have m0_22 := (eV hV dE dE dE dE).symm.trans st.h22
 have m1_38 := (dI hV dE dE).symm.trans st.r38
 have m1_39 := (dI hV dE dE).symm.trans st.r39
 have m1_40 := (dI hV dE dE).symm.trans st.r40
 have m1_42 := (dI hV dE dE).symm.trans st.r42
 have m1_47 := (dI hV dE dE).symm.trans st.r47
 have m1_51 := (dI hV dE dE).symm.trans st.r51
 have m1_53 := (dI hV dE dE).symm.trans st.r53
 have m1_57 := (dI hV dE dE).symm.trans st.r57
 have hlp := Cal.lp_01 s.ly
 have hl53 := st.hl53
 have hl47 := st.hl47
 have hyw : 0 <= ywd s.ly /\ ywd s.ly <= 6 := by unfold ywd; omega
 have lm0_ := lim0 hV st.lim
 have hfr := hr.aP2
 have hnw := hr.nwd
 have hc6 := st.c6
 refine g10 ?_
 by_cases hz : r.nwd.length ≠ 0
 .refine rl ((cF rfl rfl).to (v' := .bool true) (cB (iW oM))) (g12 ?_)
  by_cases hm_ : s.lm ≠ lm0
  .refine rl ((cF rfl rfl).to (v' := .bool true) (cB (iW oM))) (g13 ?_)
   refine bK rfl rfl ?_
   refine g5 ?_
   refine cO (ι := (List (Nat × Nat × Nat)) × (Option Addr) × (Nat) × (LS)) (fun | ⟨bs, p, c, S2⟩ => (bs.length = (cD r.aP2 r.aPt s.ly s.lm).length) /\ (∀ (i : Nat) t q, bs[i]? = some t -> (cD r.aP2 r.aPt s.ly s.lm)[i]? = some q -> aMr F w0 S2 t q) /\ (lkp 41 S2 = some ⟨.slice p bs.length c, 22, 1, bs.length, bs.map rgV⟩) /\ (∀ k, k < 41 -> lkp k S2 = lkp k S) /\ (Lim 43 B H S2)) (fun | ⟨bs, p, c, S2⟩ => [(0, .pointer (some ⟨it, 7, none⟩)), (1, iV (s.ly)), (2, iV (s.lm)), (23, .slice p bs.length c)]) (fun _ => B) (fun _ => H) (fun | ⟨bs, p, c, S2⟩ => S2) ?_ ?_
   .refine g1 ?_
    rcases (show r.aP2 = 0 \/ r.aP2 = 1 by omega) with hf | hf
    .refine cQ (fun w s => s.head 7 st.hS7 dE) (fun ⟨b7_, hb7_, hc7_⟩ => ?_)
     have hc7 : 13 <= a.c7 := hc7_
     refine g8 ?_
     refine sQ ((aQ rfl rfl).to (v' := .bool true) (cB (oP hf))) ?_
     by_cases hmz : r.aPt.length ≠ 0
     .have hRS : (cD r.aP2 r.aPt s.ly s.lm) = r.aPt.map (jQ s.ly) := by unfold cD; rw [if_pos hf, if_pos hmz]
      refine rl ((cF rfl rfl).to (v' := .bool true) (cB (iW oM))) (uC ?_)
      refine aY (ι := (Nat) × (Option Addr) × (Nat) × (Nat) × (List Value)) (fun | ⟨k, p, c, n, xs⟩ => r.aPt.length - k) (fun | ⟨k, p, c, n, xs⟩ => (k <= r.aPt.length) /\ (n = k) /\ (xs = (r.aPt.take k).map fun x => rgV (rgT a.b7 a.c7 x))) (fun | ⟨k, p, c, n, xs⟩ => [(0, .pointer (some ⟨it, 7, none⟩)), (1, iV (s.ly)), (2, iV (s.lm)), (23, .slice p n c), (450, .slice l.p47 r.aPt.length l.c47), (451, iV (r.aPt.length)), (452, iV k)]) (fun _ => B) (fun _ => H) (fun | ⟨k, p, c, n, xs⟩ => ((41, ⟨.slice p n c, 22, 1, n, xs⟩) :: S)) ⟨0, none, 0, 0, []⟩ ⟨Nat.zero_le _, rfl, rfl⟩ kns (fun w s => by exact s.aPm 41 22 1) ?_
      rintro ⟨k, p, c, n, xs⟩ ⟨hk, hnk, hxs⟩
      refine dS ?_
      refine g6 ?_
      refine aB rfl (fun hc1 => ?_) (fun hc2 => ?_)
      .have hlt_k : k < r.aPt.length := by have := oT hc1; omega
       obtain ⟨ex, hx_ex⟩ : ∃ y, r.aPt[k]? = some y := ⟨_, List.getElem?_eq_getElem hlt_k⟩
       refine cQ (fun w s => (st.hI47.to aG).head s oM) fun hh_ => ?_
       obtain ⟨b_ex, o_ex, hp_ex⟩ := hh_
       have src_ex := st.hI47
       rw [hp_ex] at src_ex
       have hexb := hmb ex (List.mem_of_getElem? hx_ex)
       have hmx : (r.aPt.take (k + 1)).map (fun x => rgV (rgT a.b7 a.c7 x)) = (r.aPt.take k).map (fun x => rgV (rgT a.b7 a.c7 x)) ++ [rgV (rgT a.b7 a.c7 ex)] := by rw [kA hx_ex, List.map_append]; rfl
       refine g6 ?_
       refine rl (aC (e := 3) (n := 1) kR (congrArg (fun p => some (Value.slice p _ _)) hp_ex) rfl oM oM) (rl (dT kR rfl (fun w s => src_ex.cell hx_ex aG s)) (g13 ?_))
       refine rl ((mG (e := 3) (n := 1) (b := a.b7) (off := 0) (len := 13) (cap := a.c7) kR rfl rfl rfl oM oM oM oM).to (v' := rgV (rgT a.b7 a.c7 ex)) (aBl oM)) (gL (dB 60 (e := 22) (sz := 1) (by_ := 24) (zs := [sN]) dE kR rfl dE dE rfl rfl rfl (fun bo => gL (cW 41 60 (e := 22) (sz := 1) (by_ := 24) (zs := [sN]) dE kR rfl dE rfl rfl rfl rfl ⟨rfl, rfl⟩ ⟨rfl, rfl⟩ aJz sO sO (fun p' c' => g8 ?_)))))
       refine aN ⟨k + 1, p', c', n + 1, xs ++ [rgV (rgT a.b7 a.c7 ex)]⟩ sO ⟨by omega, by omega, by rw [hmx, hxs]⟩ kns (fun w s => by exact s.low 43 (by repeat (first | exact lm0_.mono dE | exact hlim | apply Lim.aPh _ dE dE | apply Lim.aPi _ dE)) agx agx agx)
      .have hge_k : ¬ k < r.aPt.length := by have := oF hc2; omega
       refine g4 ?_
       have hke : k = r.aPt.length := by omega
       subst hke
       rw [List.take_length] at hxs
       have hnl : n = (r.aPt.map (rgT a.b7 a.c7)).length := by rw [List.length_map]; exact hnk
       subst hnl
       subst hxs
       refine aK (ι := List (Nat × Nat × Nat) × Option Addr × Nat × LS) ⟨r.aPt.map (rgT a.b7 a.c7), p, c, (41, ⟨.slice p (r.aPt.map (rgT a.b7 a.c7)).length c, 22, 1, (r.aPt.map (rgT a.b7 a.c7)).length, (r.aPt.map fun x => rgV (rgT a.b7 a.c7 x))⟩) :: S⟩ ⟨by rw [hRS, List.length_map, List.length_map], fun i t q h1 h2 => by rw [hRS] at h2; rw [List.getElem?_map] at h1 h2; obtain ⟨x, hx, rfl⟩ := Option.map_eq_some_iff.1 h1; rw [hx] at h2; cases h2; exact aBq st.hS7 (hmb x (List.mem_of_getElem? hx)), by rw [bJ, List.map_map]; rfl, fun k hk => aA oM _ _, (by repeat (first | exact lm0_.mono dE | exact hlim | apply Lim.aPh _ dE dE | apply Lim.aPi _ dE))⟩ kns (fun w s => s)
     .have hRS : (cD r.aP2 r.aPt s.ly s.lm) = [(0, 365 + Cal.lp s.ly)] := by unfold cD; rw [if_pos hf, if_neg hmz]
      refine rl ((cF rfl rfl).to (v' := .bool false) (cB (jA oM))) (g2 ?_)
      refine aU rfl rfl ?_
      refine g5 ?_
      refine gL (fY 42 (e := 3) (sz := 1) (vs := [(0, iV 0), (1, iV (365 + Cal.lp s.ly))]) (cs := [iV 0, iV (365 + Cal.lp s.ly)]) dE rfl kW rfl dE dE (lm0_.s 42 dE) (fun by_ hby_ => gL (dB 41 (e := 22) (sz := 1) (by_ := 24) (zs := [sN]) dE kR rfl dE dE rfl rfl rfl (fun bo => g2 ?_))))
      refine aK (ι := List (Nat × Nat × Nat) × Option Addr × Nat × LS) ⟨[(by_, 0, 2)], some ⟨bo, 0, none⟩, 1, _⟩ ⟨by rw [hRS]; rfl, fun i t q h1 h2 => ?_, rfl, fun k hk => (aA oM _ _).trans (aA oM _ _), (by repeat (first | exact lm0_.mono dE | exact hlim | apply Lim.aPh _ dE dE | apply Lim.aPi _ dE))⟩ kns (fun w s => s)
      rw [hRS] at h2
      match i, h1, h2 with
      | 0, h1, h2 => cases h1; cases h2; exact fun B1 H1 S1 w1 ha s1 => ⟨s1.aPl (o := 0) ((ha 42 dE dE).trans rfl) rfl rfl, s1.aPl (o := 1) ((ha 42 dE dE).trans rfl) rfl rfl⟩
      | i + 1, h1, h2 => cases h1
    .refine cQ (fun w s => s.head 7 st.hS7 dE) (fun ⟨b7_, hb7_, hc7_⟩ => ?_)
     have hc7 : 13 <= a.c7 := hc7_
     have hRS : (cD r.aP2 r.aPt s.ly s.lm) = [jQ s.ly s.lm] := by unfold cD; rw [if_neg oM]
     refine g8 ?_
     refine rl ((aQ rfl rfl).to eF) (l5 ?_)
     refine rl ((aQ rfl rfl).to (v' := .bool true) (cB (oP hf))) (l5 ?_)
     refine rl ((mG (e := 3) (n := 1) (b := a.b7) (off := 0) (len := 13) (cap := a.c7) kR rfl rfl rfl oM oM oM oM).to (v' := rgV (rgT a.b7 a.c7 s.lm)) (aBl oM)) (gL (dB 41 (e := 22) (sz := 1) (by_ := 24) (zs := [sN]) dE kR rfl dE dE rfl rfl rfl (fun bo => g2 ?_)))
     refine aK (ι := List (Nat × Nat × Nat) × Option Addr × Nat × LS) ⟨[rgT a.b7 a.c7 s.lm], some ⟨bo, 0, none⟩, 1, _⟩ ⟨by rw [hRS]; rfl, fun i t q h1 h2 => ?_, rfl, fun k hk => aA oM _ _, (by repeat (first | exact lm0_.mono dE | exact hlim | apply Lim.aPh _ dE dE | apply Lim.aPi _ dE))⟩ kns (fun w s => s)
     rw [hRS] at h2
     match i, h1, h2 with
     | 0, h1, h2 => cases h1; cases h2; exact aBq ((aA dE _ _).trans st.hS7) hlm
     | i + 1, h1, h2 => cases h1
   rintro ⟨bs, p, c, S2⟩ ⟨hbl, hat, hrow, hlo, hlim⟩
   refine dS ?_
   have hRl : 0 < (cD r.aP2 r.aPt s.ly s.lm).length := by unfold cD; split; split; rw [List.length_map]; omega; simp; simp
   have hRb : (cD r.aP2 r.aPt s.ly s.lm).length <= 1000000001 := by unfold cD; split; split; rw [List.length_map]; omega; simp; simp
   obtain ⟨N, hN⟩ : ∃ N : Nat, 365 + Cal.lp s.ly = (N : Int) := ⟨(365 + Cal.lp s.ly).toNat, by omega⟩
   have hNb : N <= 366 := by omega
   refine g4 ?_
   refine wZ9 ((cF rfl rfl).to (v' := .bool true) (cB (iW oM))) ?_
   refine rl ((rld 0 rfl st.hB m0_10).to (v' := iV (N : Int)) (congrArg (Value.int .i64) hN)) (gL (uB 9 (e := 3) (by_ := 8) (n := N) dE kR rfl rfl oM oM (fun bz => g2 ?_)))
   refine gL (sto 0 rfl rfl st.hB m0_21 (g10 ?_))
   refine aY (ι := (Nat)) (fun k => bs.length - k) (fun k => (k <= bs.length)) (fun k => [(0, .pointer (some ⟨it, 7, none⟩)), (1, iV (s.ly)), (2, iV (s.lm)), (504, .slice p bs.length c), (505, iV (bs.length)), (506, iV k)]) (fun k => B) (fun k => ((ky 0 21, sL bz N N) :: H)) (fun k => ((9, ⟨sL bz N N, 3, 1, N, (gN (dU N) (((cD r.aP2 r.aPt s.ly s.lm).take k).flatMap (eH s.ly r.nwd))).map iV⟩) :: S2)) 0 (Nat.zero_le _) kns (fun w s => by exact by rw [List.take_zero]; exact s) ?_
   rintro k hk
   refine dS ?_
   refine g6 ?_
   refine aB rfl (fun hc1 => ?_) (fun hc2 => ?_)
   .have hlt : k < bs.length := by have := oT hc1; omega
    obtain ⟨t, ht⟩ : ∃ t, bs[k]? = some t := ⟨_, List.getElem?_eq_getElem hlt⟩
    obtain ⟨q, hq⟩ : ∃ q, (cD r.aP2 r.aPt s.ly s.lm)[k]? = some q := ⟨_, List.getElem?_eq_getElem oM⟩
    have hqb := hok q (List.mem_of_getElem? hq)
    have hatk := hat k t q ht hq
    have hAk : ((cD r.aP2 r.aPt s.ly s.lm).take (k + 1)).flatMap (eH s.ly r.nwd) = (((cD r.aP2 r.aPt s.ly s.lm).take k).flatMap (eH s.ly r.nwd)) ++ r.nwd.flatMap (dN s.ly q.1 (q.2 - 1)) := by rw [kA hq, List.flatMap_append]; simp [eH]
    refine cQ (fun w s => s.head 41 ((aA dE _ _).trans hrow) oM) (fun ⟨bp, hbp, hcp⟩ => ?_)
    have hrow1 := hrow
    rw [hbp] at hrow1
    refine g6 ?_
    refine rl (aC (e := 22) (n := 1) (b := bp) (off := 0) (len := bs.length) (cap := c) kR (by exact congrArg (fun p => some (Value.slice p _ _)) hbp) rfl oM oM) (rZ6 (bQ 41 rfl ((aA dE _ _).trans hrow1) rfl (v := rgV t) (by rw [Nat.zero_add, Nat.mul_one, Int.toNat_natCast, List.getElem?_map, ht]; rfl) kR) ?_)
    refine rq (aC (e := 3) (n := 1) (b := t.1) (off := t.2.1) (len := 2) (cap := t.2.2) kR rfl rfl dE dE) (rq (dT (v := iV q.1) kR rfl (fun w s => (hatk _ _ _ w (fun k_ h1_ h2_ => aA h1_ _ _) s).1)) (g1 ?_))
    refine rq (aC (e := 3) (n := 1) (b := t.1) (off := t.2.1) (len := 2) (cap := t.2.2) kR rfl rfl dE dE) (rq (dT (v := iV q.2) kR rfl (fun w s => (hatk _ _ _ w (fun k_ h1_ h2_ => aA h1_ _ _) s).2)) (g25 ?_))
    refine aY (ι := (Nat)) (fun j => r.nwd.length - j) (fun j => (j <= r.nwd.length)) (fun j => [(0, .pointer (some ⟨it, 7, none⟩)), (1, iV (s.ly)), (2, iV (s.lm)), (28, iV (q.1)), (29, iV ((q.2 - 1))), (504, .slice p bs.length c), (505, iV (bs.length)), (506, iV k), (524, .slice l.p53 r.nwd.length l.c53), (525, iV (r.nwd.length)), (526, iV j)]) (fun j => B) (fun j => ((ky 0 21, sL bz N N) :: H)) (fun j => ((9, ⟨sL bz N N, 3, 1, N, (gN (dU N) ((((cD r.aP2 r.aPt s.ly s.lm).take k).flatMap (eH s.ly r.nwd)) ++ (r.nwd.take j).flatMap (dN s.ly q.1 (q.2 - 1)))).map iV⟩) :: S2)) 0 (Nat.zero_le _) kns (fun w s => by exact by rw [List.take_zero, List.flatMap_nil, List.append_nil]; exact s) ?_
    rintro j hj
    refine dS ?_
    refine g6 ?_
    refine aB rfl (fun hc1 => ?_) (fun hc2 => ?_)
    .have hltj : j < r.nwd.length := by have := oT hc1; omega
     obtain ⟨y, hy⟩ : ∃ y, r.nwd[j]? = some y := ⟨_, List.getElem?_eq_getElem hltj⟩
     obtain ⟨hyd, hyz, hy1, hy2, hyn, hyp⟩ := hqb.2.2.2 y (List.mem_of_getElem? hy)
     have hagr : ∀ k_, 11 <= k_ -> k_ < 30 -> lkp k_ ((9, ⟨sL bz N N, 3, 1, N, (gN (dU N) ((((cD r.aP2 r.aPt s.ly s.lm).take k).flatMap (eH s.ly r.nwd)) ++ (r.nwd.take j).flatMap (dN s.ly q.1 (q.2 - 1)))).map iV⟩) :: S2) = lkp k_ S := fun k_ h1_ h2_ => (aA oM _ _).trans (hlo k_ oM)
     refine cQ (fun w s => (st.hI53.to hagr).head s oM) fun hh_ => ?_
     obtain ⟨b_y, o_y, hp_y⟩ := hh_
     have src_y := st.hI53
     rw [hp_y] at src_y
     have htj : (r.nwd.take (j + 1)).flatMap (dN s.ly q.1 (q.2 - 1)) = (r.nwd.take j).flatMap (dN s.ly q.1 (q.2 - 1)) ++ (dN s.ly q.1 (q.2 - 1)) y := by rw [kA hy, List.flatMap_append]; simp
     obtain ⟨I, hI⟩ : ∃ I, nwI s.ly q.1 (q.2 - 1) y = I := ⟨_, rfl⟩
     refine g6 ?_
     refine rl (aC (e := 82) (n := 2) kR (congrArg (fun p => some (Value.slice p _ _)) hp_y) rfl oM oM) (rl (fL (cs := [iV y.1, iV y.2]) kR rfl (fun w s => sH (src_y.cell hy hagr s).1 (src_y.cell hy hagr s).2)) (gL (eJ 53 (cs := [iV 0, iV 0]) dE kR (hlim.b 53 dE) (fun o ho => by repeat (first | exact hlim.h 53 dE o ho | rw [bV dE ho dE])) ble (fun b53 hb53 => gL (sta 53 rfl rfl rfl rfl (g20 ?_))))))
     refine g4 ?_
     refine aB rfl (fun hc1 => ?_) (fun hc2 => ?_)
     .have hneg : y.2 < 0 := oT hc1
      have hyn := hyn hneg
      have hIe : q.2 - 1 + (y.2 + 1) * 7 - ((ywd s.ly + (q.2 - 1 + (y.2 + 1) * 7)) % 7 - y.1) % 7 = I := by rw [<- hI]; unfold nwI wdm; rw [if_pos hneg]
      refine g16 ?_
      refine g1 ?_
      refine rl (aC (e := 3) (n := 1) kR rfl rfl oM oM) (rZ2 ((bQ 6 rfl ((aA dE _ _).trans ((hlo 6 dE).trans st.hS6)) rfl (nP (x := (ywd s.ly + (q.2 - 1 + (y.2 + 1) * 7)) % 7) oM oM) kR)) ?_)
      refine gL (cvo rfl (fun w_ s_ => gT _ _ oM oM w_) (rZ7 ((nK rfl rfl oM).to (v' := iV (I)) (congrArg (Value.int .i64) (hIe))) ?_))
      by_cases h1 : q.1 <= I
      .refine rZ6 ((d7 rfl rfl).to bT) ?_
       by_cases h2 : I <= q.2 - 1
       .have hin : (dN s.ly q.1 (q.2 - 1)) y = [I] := by unfold dN; rw [hI, if_pos ⟨h1, h2⟩]
        have hset : ((gN (dU N) ((((cD r.aP2 r.aPt s.ly s.lm).take k).flatMap (eH s.ly r.nwd)) ++ (r.nwd.take j).flatMap (dN s.ly q.1 (q.2 - 1)))).map iV).set (0 + I.toNat * 1) (iV 1) = (gN (dU N) ((((cD r.aP2 r.aPt s.ly s.lm).take k).flatMap (eH s.ly r.nwd)) ++ (r.nwd.take (j + 1)).flatMap (dN s.ly q.1 (q.2 - 1)))).map iV := by rw [htj, hin, <- List.append_assoc]; exact lX oM
        refine rl ((d7 rfl rfl).to bT) (g3 ?_)
        refine yZ7 ?_
        refine rl (aC (e := 3) (n := 1) kR rfl rfl oM oM) (gL (gS 9 rfl rfl rfl rfl (by rw [List.length_map, iS, gJ]; omega) kR rfl (g7 ?_)))
        refine aN (j + 1) oM oM kns (fun w s => by exact by rw [<- hset]; exact s.low 43 (by repeat (first | exact lm0_.mono dE | exact hlim | apply Lim.aPh _ dE dE | apply Lim.aPi _ dE)) agx agx agx)
       .have hsame : (((cD r.aP2 r.aPt s.ly s.lm).take k).flatMap (eH s.ly r.nwd)) ++ (r.nwd.take (j + 1)).flatMap (dN s.ly q.1 (q.2 - 1)) = (((cD r.aP2 r.aPt s.ly s.lm).take k).flatMap (eH s.ly r.nwd)) ++ (r.nwd.take j).flatMap (dN s.ly q.1 (q.2 - 1)) := by rw [htj]; unfold dN; rw [hI, if_neg oM, List.append_nil]
        refine sA ((d7 rfl rfl).to bF) ?_
        refine aN (j + 1) oM oM kns (fun w s => by exact by rw [hsame]; exact s.low 43 (by repeat (first | exact lm0_.mono dE | exact hlim | apply Lim.aPh _ dE dE | apply Lim.aPi _ dE)) agx agx agx)
      .have hsame : (((cD r.aP2 r.aPt s.ly s.lm).take k).flatMap (eH s.ly r.nwd)) ++ (r.nwd.take (j + 1)).flatMap (dN s.ly q.1 (q.2 - 1)) = (((cD r.aP2 r.aPt s.ly s.lm).take k).flatMap (eH s.ly r.nwd)) ++ (r.nwd.take j).flatMap (dN s.ly q.1 (q.2 - 1)) := by rw [htj]; unfold dN; rw [hI, if_neg oM, List.append_nil]
       refine wA ((d7 rfl rfl).to bF) ?_
       refine aN (j + 1) oM oM kns (fun w s => by exact by rw [hsame]; exact s.low 43 (by repeat (first | exact lm0_.mono dE | exact hlim | apply Lim.aPh _ dE dE | apply Lim.aPi _ dE)) agx agx agx)
     .have hneg : ¬ y.2 < 0 := oF hc2
      have hyp := hyp oM
      have hIe : q.1 + (y.2 - 1) * 7 + (7 - (ywd s.ly + (q.1 + (y.2 - 1) * 7)) % 7 + y.1) % 7 = I := by rw [<- hI]; unfold nwI wdm; rw [if_neg hneg]
      refine g16 ?_
      refine g1 ?_
      refine rl (aC (e := 3) (n := 1) kR rfl rfl oM oM) (rZ3 ((bQ 6 rfl ((aA dE _ _).trans ((hlo 6 dE).trans st.hS6)) rfl (nP (x := (ywd s.ly + (q.1 + (y.2 - 1) * 7)) % 7) oM oM) kR)) ?_)
      refine gL (cvo rfl (fun w_ s_ => gT _ _ oM oM w_) (rZ7 ((gQ rfl rfl oM).to (v' := iV (I)) (congrArg (Value.int .i64) (hIe))) ?_))
      by_cases h1 : q.1 <= I
      .refine rZ6 ((d7 rfl rfl).to bT) ?_
       by_cases h2 : I <= q.2 - 1
       .have hin : (dN s.ly q.1 (q.2 - 1)) y = [I] := by unfold dN; rw [hI, if_pos ⟨h1, h2⟩]
        have hset : ((gN (dU N) ((((cD r.aP2 r.aPt s.ly s.lm).take k).flatMap (eH s.ly r.nwd)) ++ (r.nwd.take j).flatMap (dN s.ly q.1 (q.2 - 1)))).map iV).set (0 + I.toNat * 1) (iV 1) = (gN (dU N) ((((cD r.aP2 r.aPt s.ly s.lm).take k).flatMap (eH s.ly r.nwd)) ++ (r.nwd.take (j + 1)).flatMap (dN s.ly q.1 (q.2 - 1)))).map iV := by rw [htj, hin, <- List.append_assoc]; exact lX oM
        refine rl ((d7 rfl rfl).to bT) (g3 ?_)
        refine yZ7 ?_
        refine rl (aC (e := 3) (n := 1) kR rfl rfl oM oM) (gL (gS 9 rfl rfl rfl rfl (by rw [List.length_map, iS, gJ]; omega) kR rfl (g7 ?_)))
        refine aN (j + 1) oM oM kns (fun w s => by exact by rw [<- hset]; exact s.low 43 (by repeat (first | exact lm0_.mono dE | exact hlim | apply Lim.aPh _ dE dE | apply Lim.aPi _ dE)) agx agx agx)
       .have hsame : (((cD r.aP2 r.aPt s.ly s.lm).take k).flatMap (eH s.ly r.nwd)) ++ (r.nwd.take (j + 1)).flatMap (dN s.ly q.1 (q.2 - 1)) = (((cD r.aP2 r.aPt s.ly s.lm).take k).flatMap (eH s.ly r.nwd)) ++ (r.nwd.take j).flatMap (dN s.ly q.1 (q.2 - 1)) := by rw [htj]; unfold dN; rw [hI, if_neg oM, List.append_nil]
        refine sA ((d7 rfl rfl).to bF) ?_
        refine aN (j + 1) oM oM kns (fun w s => by exact by rw [hsame]; exact s.low 43 (by repeat (first | exact lm0_.mono dE | exact hlim | apply Lim.aPh _ dE dE | apply Lim.aPi _ dE)) agx agx agx)
      .have hsame : (((cD r.aP2 r.aPt s.ly s.lm).take k).flatMap (eH s.ly r.nwd)) ++ (r.nwd.take (j + 1)).flatMap (dN s.ly q.1 (q.2 - 1)) = (((cD r.aP2 r.aPt s.ly s.lm).take k).flatMap (eH s.ly r.nwd)) ++ (r.nwd.take j).flatMap (dN s.ly q.1 (q.2 - 1)) := by rw [htj]; unfold dN; rw [hI, if_neg oM, List.append_nil]
       refine wA ((d7 rfl rfl).to bF) ?_
       refine aN (j + 1) oM oM kns (fun w s => by exact by rw [hsame]; exact s.low 43 (by repeat (first | exact lm0_.mono dE | exact hlim | apply Lim.aPh _ dE dE | apply Lim.aPi _ dE)) agx agx agx)
    .have hge : j = r.nwd.length := by have := oF hc2; omega
     subst hge
     rw [List.take_length, <- hAk]
     refine g10 ?_
     refine aN (k + 1) oM oM kns (fun w s => by exact s)
   .have hge : k = bs.length := by have := oF hc2; omega
    refine g4 ?_
    subst hge
    rw [hbl, List.take_length]
    have hne : r.nwd.length ≠ 0 := hz
    have hze : gN (dU N) ((cD r.aP2 r.aPt s.ly s.lm).flatMap (eH s.ly r.nwd)) = r.nwmF s.ly s.lm := by rw [hnF]; unfold nwM; rw [if_neg hne, show (365 + Cal.lp s.ly).toNat = N by omega]
    have hZ : N = (r.nwmF s.ly s.lm).length := by rw [<- hze, iS, gJ]
    have hnew : (if s.ly = ly0 /\ s.lm = lm0 then s.nwm else r.nwmF s.ly s.lm) = r.nwmF s.ly s.lm := if_neg oM
    rw [hnew] at hn
    rw [hze]
    refine gK kns (fun w s => Sees.rowOver (fun k hk => lm0_.s k oM) hlo s) (hn { a with p21 := some ⟨bz, 0, none⟩, c21 := N } _ _ ?_ (Kp.refl _).cons)
    rw [hZ]
    exact (sT st (lim := fun _ => ((aD7 hV dE st.lim).aPi dE)) (hS9 := fun _ => (fun _ => rfl)) (hp21 := fun _ => (fun _ => ⟨bz, rfl⟩)) (frH := fun _ => (fun k_ h1_ h2_ o_ ho_ => (lkF hV dE oM ho_).trans (st.frH k_ h1_ h2_ o_ ho_))))
  .refine rl ((cF rfl rfl).to (v' := .bool false) (cB (jA oM))) (g13 ?_)
   by_cases hy_ : s.ly ≠ ly0
   .refine sA ((cF rfl rfl).to (v' := .bool true) (cB (iW oM))) ?_
    refine cO (ι := (List (Nat × Nat × Nat)) × (Option Addr) × (Nat) × (LS)) (fun | ⟨bs, p, c, S2⟩ => (bs.length = (cD r.aP2 r.aPt s.ly s.lm).length) /\ (∀ (i : Nat) t q, bs[i]? = some t -> (cD r.aP2 r.aPt s.ly s.lm)[i]? = some q -> aMr F w0 S2 t q) /\ (lkp 41 S2 = some ⟨.slice p bs.length c, 22, 1, bs.length, bs.map rgV⟩) /\ (∀ k, k < 41 -> lkp k S2 = lkp k S) /\ (Lim 43 B H S2)) (fun | ⟨bs, p, c, S2⟩ => [(0, .pointer (some ⟨it, 7, none⟩)), (1, iV (s.ly)), (2, iV (s.lm)), (23, .slice p bs.length c)]) (fun _ => B) (fun _ => H) (fun | ⟨bs, p, c, S2⟩ => S2) ?_ ?_
    .refine g1 ?_
     rcases (show r.aP2 = 0 \/ r.aP2 = 1 by omega) with hf | hf
     .refine cQ (fun w s => s.head 7 st.hS7 dE) (fun ⟨b7_, hb7_, hc7_⟩ => ?_)
      have hc7 : 13 <= a.c7 := hc7_
      refine g8 ?_
      refine sQ ((aQ rfl rfl).to (v' := .bool true) (cB (oP hf))) ?_
      by_cases hmz : r.aPt.length ≠ 0
      .have hRS : (cD r.aP2 r.aPt s.ly s.lm) = r.aPt.map (jQ s.ly) := by unfold cD; rw [if_pos hf, if_pos hmz]
       refine rl ((cF rfl rfl).to (v' := .bool true) (cB (iW oM))) (uC ?_)
       refine aY (ι := (Nat) × (Option Addr) × (Nat) × (Nat) × (List Value)) (fun | ⟨k, p, c, n, xs⟩ => r.aPt.length - k) (fun | ⟨k, p, c, n, xs⟩ => (k <= r.aPt.length) /\ (n = k) /\ (xs = (r.aPt.take k).map fun x => rgV (rgT a.b7 a.c7 x))) (fun | ⟨k, p, c, n, xs⟩ => [(0, .pointer (some ⟨it, 7, none⟩)), (1, iV (s.ly)), (2, iV (s.lm)), (23, .slice p n c), (450, .slice l.p47 r.aPt.length l.c47), (451, iV (r.aPt.length)), (452, iV k)]) (fun _ => B) (fun _ => H) (fun | ⟨k, p, c, n, xs⟩ => ((41, ⟨.slice p n c, 22, 1, n, xs⟩) :: S)) ⟨0, none, 0, 0, []⟩ ⟨Nat.zero_le _, rfl, rfl⟩ kns (fun w s => by exact s.aPm 41 22 1) ?_
       rintro ⟨k, p, c, n, xs⟩ ⟨hk, hnk, hxs⟩
       refine dS ?_
       refine g6 ?_
       refine aB rfl (fun hc1 => ?_) (fun hc2 => ?_)
       .have hlt_k : k < r.aPt.length := by have := oT hc1; omega
        obtain ⟨ex, hx_ex⟩ : ∃ y, r.aPt[k]? = some y := ⟨_, List.getElem?_eq_getElem hlt_k⟩
        refine cQ (fun w s => (st.hI47.to aG).head s oM) fun hh_ => ?_
        obtain ⟨b_ex, o_ex, hp_ex⟩ := hh_
        have src_ex := st.hI47
        rw [hp_ex] at src_ex
        have hexb := hmb ex (List.mem_of_getElem? hx_ex)
        have hmx : (r.aPt.take (k + 1)).map (fun x => rgV (rgT a.b7 a.c7 x)) = (r.aPt.take k).map (fun x => rgV (rgT a.b7 a.c7 x)) ++ [rgV (rgT a.b7 a.c7 ex)] := by rw [kA hx_ex, List.map_append]; rfl
        refine g6 ?_
        refine rl (aC (e := 3) (n := 1) kR (congrArg (fun p => some (Value.slice p _ _)) hp_ex) rfl oM oM) (rl (dT kR rfl (fun w s => src_ex.cell hx_ex aG s)) (g13 ?_))
        refine rl ((mG (e := 3) (n := 1) (b := a.b7) (off := 0) (len := 13) (cap := a.c7) kR rfl rfl rfl oM oM oM oM).to (v' := rgV (rgT a.b7 a.c7 ex)) (aBl oM)) (gL (dB 60 (e := 22) (sz := 1) (by_ := 24) (zs := [sN]) dE kR rfl dE dE rfl rfl rfl (fun bo => gL (cW 41 60 (e := 22) (sz := 1) (by_ := 24) (zs := [sN]) dE kR rfl dE rfl rfl rfl rfl ⟨rfl, rfl⟩ ⟨rfl, rfl⟩ aJz sO sO (fun p' c' => g8 ?_)))))
        refine aN ⟨k + 1, p', c', n + 1, xs ++ [rgV (rgT a.b7 a.c7 ex)]⟩ sO ⟨by omega, by omega, by rw [hmx, hxs]⟩ kns (fun w s => by exact s.low 43 (by repeat (first | exact lm0_.mono dE | exact hlim | apply Lim.aPh _ dE dE | apply Lim.aPi _ dE)) agx agx agx)
       .have hge_k : ¬ k < r.aPt.length := by have := oF hc2; omega
        refine g4 ?_
        have hke : k = r.aPt.length := by omega
        subst hke
        rw [List.take_length] at hxs
        have hnl : n = (r.aPt.map (rgT a.b7 a.c7)).length := by rw [List.length_map]; exact hnk
        subst hnl
        subst hxs
        refine aK (ι := List (Nat × Nat × Nat) × Option Addr × Nat × LS) ⟨r.aPt.map (rgT a.b7 a.c7), p, c, (41, ⟨.slice p (r.aPt.map (rgT a.b7 a.c7)).length c, 22, 1, (r.aPt.map (rgT a.b7 a.c7)).length, (r.aPt.map fun x => rgV (rgT a.b7 a.c7 x))⟩) :: S⟩ ⟨by rw [hRS, List.length_map, List.length_map], fun i t q h1 h2 => by rw [hRS] at h2; rw [List.getElem?_map] at h1 h2; obtain ⟨x, hx, rfl⟩ := Option.map_eq_some_iff.1 h1; rw [hx] at h2; cases h2; exact aBq st.hS7 (hmb x (List.mem_of_getElem? hx)), by rw [bJ, List.map_map]; rfl, fun k hk => aA oM _ _, (by repeat (first | exact lm0_.mono dE | exact hlim | apply Lim.aPh _ dE dE | apply Lim.aPi _ dE))⟩ kns (fun w s => s)
      .have hRS : (cD r.aP2 r.aPt s.ly s.lm) = [(0, 365 + Cal.lp s.ly)] := by unfold cD; rw [if_pos hf, if_neg hmz]
       refine rl ((cF rfl rfl).to (v' := .bool false) (cB (jA oM))) (g2 ?_)
       refine aU rfl rfl ?_
       refine g5 ?_
       refine gL (fY 42 (e := 3) (sz := 1) (vs := [(0, iV 0), (1, iV (365 + Cal.lp s.ly))]) (cs := [iV 0, iV (365 + Cal.lp s.ly)]) dE rfl kW rfl dE dE (lm0_.s 42 dE) (fun by_ hby_ => gL (dB 41 (e := 22) (sz := 1) (by_ := 24) (zs := [sN]) dE kR rfl dE dE rfl rfl rfl (fun bo => g2 ?_))))
       refine aK (ι := List (Nat × Nat × Nat) × Option Addr × Nat × LS) ⟨[(by_, 0, 2)], some ⟨bo, 0, none⟩, 1, _⟩ ⟨by rw [hRS]; rfl, fun i t q h1 h2 => ?_, rfl, fun k hk => (aA oM _ _).trans (aA oM _ _), (by repeat (first | exact lm0_.mono dE | exact hlim | apply Lim.aPh _ dE dE | apply Lim.aPi _ dE))⟩ kns (fun w s => s)
       rw [hRS] at h2
       match i, h1, h2 with
       | 0, h1, h2 => cases h1; cases h2; exact fun B1 H1 S1 w1 ha s1 => ⟨s1.aPl (o := 0) ((ha 42 dE dE).trans rfl) rfl rfl, s1.aPl (o := 1) ((ha 42 dE dE).trans rfl) rfl rfl⟩
       | i + 1, h1, h2 => cases h1
     .refine cQ (fun w s => s.head 7 st.hS7 dE) (fun ⟨b7_, hb7_, hc7_⟩ => ?_)
      have hc7 : 13 <= a.c7 := hc7_
      have hRS : (cD r.aP2 r.aPt s.ly s.lm) = [jQ s.ly s.lm] := by unfold cD; rw [if_neg oM]
      refine g8 ?_
      refine rl ((aQ rfl rfl).to eF) (l5 ?_)
      refine rl ((aQ rfl rfl).to (v' := .bool true) (cB (oP hf))) (l5 ?_)
      refine rl ((mG (e := 3) (n := 1) (b := a.b7) (off := 0) (len := 13) (cap := a.c7) kR rfl rfl rfl oM oM oM oM).to (v' := rgV (rgT a.b7 a.c7 s.lm)) (aBl oM)) (gL (dB 41 (e := 22) (sz := 1) (by_ := 24) (zs := [sN]) dE kR rfl dE dE rfl rfl rfl (fun bo => g2 ?_)))
      refine aK (ι := List (Nat × Nat × Nat) × Option Addr × Nat × LS) ⟨[rgT a.b7 a.c7 s.lm], some ⟨bo, 0, none⟩, 1, _⟩ ⟨by rw [hRS]; rfl, fun i t q h1 h2 => ?_, rfl, fun k hk => aA oM _ _, (by repeat (first | exact lm0_.mono dE | exact hlim | apply Lim.aPh _ dE dE | apply Lim.aPi _ dE))⟩ kns (fun w s => s)
      rw [hRS] at h2
      match i, h1, h2 with
      | 0, h1, h2 => cases h1; cases h2; exact aBq ((aA dE _ _).trans st.hS7) hlm
      | i + 1, h1, h2 => cases h1
    rintro ⟨bs, p, c, S2⟩ ⟨hbl, hat, hrow, hlo, hlim⟩
    refine dS ?_
    have hRl : 0 < (cD r.aP2 r.aPt s.ly s.lm).length := by unfold cD; split; split; rw [List.length_map]; omega; simp; simp
    have hRb : (cD r.aP2 r.aPt s.ly s.lm).length <= 1000000001 := by unfold cD; split; split; rw [List.length_map]; omega; simp; simp
    obtain ⟨N, hN⟩ : ∃ N : Nat, 365 + Cal.lp s.ly = (N : Int) := ⟨(365 + Cal.lp s.ly).toNat, by omega⟩
    have hNb : N <= 366 := by omega
    refine g4 ?_
    refine wZ9 ((cF rfl rfl).to (v' := .bool true) (cB (iW oM))) ?_
    refine rl ((rld 0 rfl st.hB m0_10).to (v' := iV (N : Int)) (congrArg (Value.int .i64) hN)) (gL (uB 9 (e := 3) (by_ := 8) (n := N) dE kR rfl rfl oM oM (fun bz => g2 ?_)))
    refine gL (sto 0 rfl rfl st.hB m0_21 (g10 ?_))
    refine aY (ι := (Nat)) (fun k => bs.length - k) (fun k => (k <= bs.length)) (fun k => [(0, .pointer (some ⟨it, 7, none⟩)), (1, iV (s.ly)), (2, iV (s.lm)), (504, .slice p bs.length c), (505, iV (bs.length)), (506, iV k)]) (fun k => B) (fun k => ((ky 0 21, sL bz N N) :: H)) (fun k => ((9, ⟨sL bz N N, 3, 1, N, (gN (dU N) (((cD r.aP2 r.aPt s.ly s.lm).take k).flatMap (eH s.ly r.nwd))).map iV⟩) :: S2)) 0 (Nat.zero_le _) kns (fun w s => by exact by rw [List.take_zero]; exact s) ?_
    rintro k hk
    refine dS ?_
    refine g6 ?_
    refine aB rfl (fun hc1 => ?_) (fun hc2 => ?_)
    .have hlt : k < bs.length := by have := oT hc1; omega
     obtain ⟨t, ht⟩ : ∃ t, bs[k]? = some t := ⟨_, List.getElem?_eq_getElem hlt⟩
     obtain ⟨q, hq⟩ : ∃ q, (cD r.aP2 r.aPt s.ly s.lm)[k]? = some q := ⟨_, List.getElem?_eq_getElem oM⟩
     have hqb := hok q (List.mem_of_getElem? hq)
     have hatk := hat k t q ht hq
     have hAk : ((cD r.aP2 r.aPt s.ly s.lm).take (k + 1)).flatMap (eH s.ly r.nwd) = (((cD r.aP2 r.aPt s.ly s.lm).take k).flatMap (eH s.ly r.nwd)) ++ r.nwd.flatMap (dN s.ly q.1 (q.2 - 1)) := by rw [kA hq, List.flatMap_append]; simp [eH]
     refine cQ (fun w s => s.head 41 ((aA dE _ _).trans hrow) oM) (fun ⟨bp, hbp, hcp⟩ => ?_)
     have hrow1 := hrow
     rw [hbp] at hrow1
     refine g6 ?_
     refine rl (aC (e := 22) (n := 1) (b := bp) (off := 0) (len := bs.length) (cap := c) kR (by exact congrArg (fun p => some (Value.slice p _ _)) hbp) rfl oM oM) (rZ6 (bQ 41 rfl ((aA dE _ _).trans hrow1) rfl (v := rgV t) (by rw [Nat.zero_add, Nat.mul_one, Int.toNat_natCast, List.getElem?_map, ht]; rfl) kR) ?_)
     refine rq (aC (e := 3) (n := 1) (b := t.1) (off := t.2.1) (len := 2) (cap := t.2.2) kR rfl rfl dE dE) (rq (dT (v := iV q.1) kR rfl (fun w s => (hatk _ _ _ w (fun k_ h1_ h2_ => aA h1_ _ _) s).1)) (g1 ?_))
     refine rq (aC (e := 3) (n := 1) (b := t.1) (off := t.2.1) (len := 2) (cap := t.2.2) kR rfl rfl dE dE) (rq (dT (v := iV q.2) kR rfl (fun w s => (hatk _ _ _ w (fun k_ h1_ h2_ => aA h1_ _ _) s).2)) (g25 ?_))
     refine aY (ι := (Nat)) (fun j => r.nwd.length - j) (fun j => (j <= r.nwd.length)) (fun j => [(0, .pointer (some ⟨it, 7, none⟩)), (1, iV (s.ly)), (2, iV (s.lm)), (28, iV (q.1)), (29, iV ((q.2 - 1))), (504, .slice p bs.length c), (505, iV (bs.length)), (506, iV k), (524, .slice l.p53 r.nwd.length l.c53), (525, iV (r.nwd.length)), (526, iV j)]) (fun j => B) (fun j => ((ky 0 21, sL bz N N) :: H)) (fun j => ((9, ⟨sL bz N N, 3, 1, N, (gN (dU N) ((((cD r.aP2 r.aPt s.ly s.lm).take k).flatMap (eH s.ly r.nwd)) ++ (r.nwd.take j).flatMap (dN s.ly q.1 (q.2 - 1)))).map iV⟩) :: S2)) 0 (Nat.zero_le _) kns (fun w s => by exact by rw [List.take_zero, List.flatMap_nil, List.append_nil]; exact s) ?_
     rintro j hj
     refine dS ?_
     refine g6 ?_
     refine aB rfl (fun hc1 => ?_) (fun hc2 => ?_)
     .have hltj : j < r.nwd.length := by have := oT hc1; omega
      obtain ⟨y, hy⟩ : ∃ y, r.nwd[j]? = some y := ⟨_, List.getElem?_eq_getElem hltj⟩
      obtain ⟨hyd, hyz, hy1, hy2, hyn, hyp⟩ := hqb.2.2.2 y (List.mem_of_getElem? hy)
      have hagr : ∀ k_, 11 <= k_ -> k_ < 30 -> lkp k_ ((9, ⟨sL bz N N, 3, 1, N, (gN (dU N) ((((cD r.aP2 r.aPt s.ly s.lm).take k).flatMap (eH s.ly r.nwd)) ++ (r.nwd.take j).flatMap (dN s.ly q.1 (q.2 - 1)))).map iV⟩) :: S2) = lkp k_ S := fun k_ h1_ h2_ => (aA oM _ _).trans (hlo k_ oM)
      refine cQ (fun w s => (st.hI53.to hagr).head s oM) fun hh_ => ?_
      obtain ⟨b_y, o_y, hp_y⟩ := hh_
      have src_y := st.hI53
      rw [hp_y] at src_y
      have htj : (r.nwd.take (j + 1)).flatMap (dN s.ly q.1 (q.2 - 1)) = (r.nwd.take j).flatMap (dN s.ly q.1 (q.2 - 1)) ++ (dN s.ly q.1 (q.2 - 1)) y := by rw [kA hy, List.flatMap_append]; simp
      obtain ⟨I, hI⟩ : ∃ I, nwI s.ly q.1 (q.2 - 1) y = I := ⟨_, rfl⟩
      refine g6 ?_
      refine rl (aC (e := 82) (n := 2) kR (congrArg (fun p => some (Value.slice p _ _)) hp_y) rfl oM oM) (rl (fL (cs := [iV y.1, iV y.2]) kR rfl (fun w s => sH (src_y.cell hy hagr s).1 (src_y.cell hy hagr s).2)) (gL (eJ 53 (cs := [iV 0, iV 0]) dE kR (hlim.b 53 dE) (fun o ho => by repeat (first | exact hlim.h 53 dE o ho | rw [bV dE ho dE])) ble (fun b53 hb53 => gL (sta 53 rfl rfl rfl rfl (g20 ?_))))))
      refine g4 ?_
      refine aB rfl (fun hc1 => ?_) (fun hc2 => ?_)
      .have hneg : y.2 < 0 := oT hc1
       have hyn := hyn hneg
       have hIe : q.2 - 1 + (y.2 + 1) * 7 - ((ywd s.ly + (q.2 - 1 + (y.2 + 1) * 7)) % 7 - y.1) % 7 = I := by rw [<- hI]; unfold nwI wdm; rw [if_pos hneg]
       refine g16 ?_
       refine g1 ?_
       refine rl (aC (e := 3) (n := 1) kR rfl rfl oM oM) (rZ2 ((bQ 6 rfl ((aA dE _ _).trans ((hlo 6 dE).trans st.hS6)) rfl (nP (x := (ywd s.ly + (q.2 - 1 + (y.2 + 1) * 7)) % 7) oM oM) kR)) ?_)
       refine gL (cvo rfl (fun w_ s_ => gT _ _ oM oM w_) (rZ7 ((nK rfl rfl oM).to (v' := iV (I)) (congrArg (Value.int .i64) (hIe))) ?_))
       by_cases h1 : q.1 <= I
       .refine rZ6 ((d7 rfl rfl).to bT) ?_
        by_cases h2 : I <= q.2 - 1
        .have hin : (dN s.ly q.1 (q.2 - 1)) y = [I] := by unfold dN; rw [hI, if_pos ⟨h1, h2⟩]
         have hset : ((gN (dU N) ((((cD r.aP2 r.aPt s.ly s.lm).take k).flatMap (eH s.ly r.nwd)) ++ (r.nwd.take j).flatMap (dN s.ly q.1 (q.2 - 1)))).map iV).set (0 + I.toNat * 1) (iV 1) = (gN (dU N) ((((cD r.aP2 r.aPt s.ly s.lm).take k).flatMap (eH s.ly r.nwd)) ++ (r.nwd.take (j + 1)).flatMap (dN s.ly q.1 (q.2 - 1)))).map iV := by rw [htj, hin, <- List.append_assoc]; exact lX oM
         refine rl ((d7 rfl rfl).to bT) (g3 ?_)
         refine yZ7 ?_
         refine rl (aC (e := 3) (n := 1) kR rfl rfl oM oM) (gL (gS 9 rfl rfl rfl rfl (by rw [List.length_map, iS, gJ]; omega) kR rfl (g7 ?_)))
         refine aN (j + 1) oM oM kns (fun w s => by exact by rw [<- hset]; exact s.low 43 (by repeat (first | exact lm0_.mono dE | exact hlim | apply Lim.aPh _ dE dE | apply Lim.aPi _ dE)) agx agx agx)
        .have hsame : (((cD r.aP2 r.aPt s.ly s.lm).take k).flatMap (eH s.ly r.nwd)) ++ (r.nwd.take (j + 1)).flatMap (dN s.ly q.1 (q.2 - 1)) = (((cD r.aP2 r.aPt s.ly s.lm).take k).flatMap (eH s.ly r.nwd)) ++ (r.nwd.take j).flatMap (dN s.ly q.1 (q.2 - 1)) := by rw [htj]; unfold dN; rw [hI, if_neg oM, List.append_nil]
         refine sA ((d7 rfl rfl).to bF) ?_
         refine aN (j + 1) oM oM kns (fun w s => by exact by rw [hsame]; exact s.low 43 (by repeat (first | exact lm0_.mono dE | exact hlim | apply Lim.aPh _ dE dE | apply Lim.aPi _ dE)) agx agx agx)
       .have hsame : (((cD r.aP2 r.aPt s.ly s.lm).take k).flatMap (eH s.ly r.nwd)) ++ (r.nwd.take (j + 1)).flatMap (dN s.ly q.1 (q.2 - 1)) = (((cD r.aP2 r.aPt s.ly s.lm).take k).flatMap (eH s.ly r.nwd)) ++ (r.nwd.take j).flatMap (dN s.ly q.1 (q.2 - 1)) := by rw [htj]; unfold dN; rw [hI, if_neg oM, List.append_nil]
        refine wA ((d7 rfl rfl).to bF) ?_
        refine aN (j + 1) oM oM kns (fun w s => by exact by rw [hsame]; exact s.low 43 (by repeat (first | exact lm0_.mono dE | exact hlim | apply Lim.aPh _ dE dE | apply Lim.aPi _ dE)) agx agx agx)
      .have hneg : ¬ y.2 < 0 := oF hc2
       have hyp := hyp oM
       have hIe : q.1 + (y.2 - 1) * 7 + (7 - (ywd s.ly + (q.1 + (y.2 - 1) * 7)) % 7 + y.1) % 7 = I := by rw [<- hI]; unfold nwI wdm; rw [if_neg hneg]
       refine g16 ?_
       refine g1 ?_
       refine rl (aC (e := 3) (n := 1) kR rfl rfl oM oM) (rZ3 ((bQ 6 rfl ((aA dE _ _).trans ((hlo 6 dE).trans st.hS6)) rfl (nP (x := (ywd s.ly + (q.1 + (y.2 - 1) * 7)) % 7) oM oM) kR)) ?_)
       refine gL (cvo rfl (fun w_ s_ => gT _ _ oM oM w_) (rZ7 ((gQ rfl rfl oM).to (v' := iV (I)) (congrArg (Value.int .i64) (hIe))) ?_))
       by_cases h1 : q.1 <= I
       .refine rZ6 ((d7 rfl rfl).to bT) ?_
        by_cases h2 : I <= q.2 - 1
        .have hin : (dN s.ly q.1 (q.2 - 1)) y = [I] := by unfold dN; rw [hI, if_pos ⟨h1, h2⟩]
         have hset : ((gN (dU N) ((((cD r.aP2 r.aPt s.ly s.lm).take k).flatMap (eH s.ly r.nwd)) ++ (r.nwd.take j).flatMap (dN s.ly q.1 (q.2 - 1)))).map iV).set (0 + I.toNat * 1) (iV 1) = (gN (dU N) ((((cD r.aP2 r.aPt s.ly s.lm).take k).flatMap (eH s.ly r.nwd)) ++ (r.nwd.take (j + 1)).flatMap (dN s.ly q.1 (q.2 - 1)))).map iV := by rw [htj, hin, <- List.append_assoc]; exact lX oM
         refine rl ((d7 rfl rfl).to bT) (g3 ?_)
         refine yZ7 ?_
         refine rl (aC (e := 3) (n := 1) kR rfl rfl oM oM) (gL (gS 9 rfl rfl rfl rfl (by rw [List.length_map, iS, gJ]; omega) kR rfl (g7 ?_)))
         refine aN (j + 1) oM oM kns (fun w s => by exact by rw [<- hset]; exact s.low 43 (by repeat (first | exact lm0_.mono dE | exact hlim | apply Lim.aPh _ dE dE | apply Lim.aPi _ dE)) agx agx agx)
        .have hsame : (((cD r.aP2 r.aPt s.ly s.lm).take k).flatMap (eH s.ly r.nwd)) ++ (r.nwd.take (j + 1)).flatMap (dN s.ly q.1 (q.2 - 1)) = (((cD r.aP2 r.aPt s.ly s.lm).take k).flatMap (eH s.ly r.nwd)) ++ (r.nwd.take j).flatMap (dN s.ly q.1 (q.2 - 1)) := by rw [htj]; unfold dN; rw [hI, if_neg oM, List.append_nil]
         refine sA ((d7 rfl rfl).to bF) ?_
         refine aN (j + 1) oM oM kns (fun w s => by exact by rw [hsame]; exact s.low 43 (by repeat (first | exact lm0_.mono dE | exact hlim | apply Lim.aPh _ dE dE | apply Lim.aPi _ dE)) agx agx agx)
       .have hsame : (((cD r.aP2 r.aPt s.ly s.lm).take k).flatMap (eH s.ly r.nwd)) ++ (r.nwd.take (j + 1)).flatMap (dN s.ly q.1 (q.2 - 1)) = (((cD r.aP2 r.aPt s.ly s.lm).take k).flatMap (eH s.ly r.nwd)) ++ (r.nwd.take j).flatMap (dN s.ly q.1 (q.2 - 1)) := by rw [htj]; unfold dN; rw [hI, if_neg oM, List.append_nil]
        refine wA ((d7 rfl rfl).to bF) ?_
        refine aN (j + 1) oM oM kns (fun w s => by exact by rw [hsame]; exact s.low 43 (by repeat (first | exact lm0_.mono dE | exact hlim | apply Lim.aPh _ dE dE | apply Lim.aPi _ dE)) agx agx agx)
     .have hge : j = r.nwd.length := by have := oF hc2; omega
      subst hge
      rw [List.take_length, <- hAk]
      refine g10 ?_
      refine aN (k + 1) oM oM kns (fun w s => by exact s)
    .have hge : k = bs.length := by have := oF hc2; omega
     refine g4 ?_
     subst hge
     rw [hbl, List.take_length]
     have hne : r.nwd.length ≠ 0 := hz
     have hze : gN (dU N) ((cD r.aP2 r.aPt s.ly s.lm).flatMap (eH s.ly r.nwd)) = r.nwmF s.ly s.lm := by rw [hnF]; unfold nwM; rw [if_neg hne, show (365 + Cal.lp s.ly).toNat = N by omega]
     have hZ : N = (r.nwmF s.ly s.lm).length := by rw [<- hze, iS, gJ]
     have hnew : (if s.ly = ly0 /\ s.lm = lm0 then s.nwm else r.nwmF s.ly s.lm) = r.nwmF s.ly s.lm := if_neg oM
     rw [hnew] at hn
     rw [hze]
     refine gK kns (fun w s => Sees.rowOver (fun k hk => lm0_.s k oM) hlo s) (hn { a with p21 := some ⟨bz, 0, none⟩, c21 := N } _ _ ?_ (Kp.refl _).cons)
     rw [hZ]
     exact (sT st (lim := fun _ => ((aD7 hV dE st.lim).aPi dE)) (hS9 := fun _ => (fun _ => rfl)) (hp21 := fun _ => (fun _ => ⟨bz, rfl⟩)) (frH := fun _ => (fun k_ h1_ h2_ o_ ho_ => (lkF hV dE oM ho_).trans (st.frH k_ h1_ h2_ o_ ho_))))
   .refine rl ((cF rfl rfl).to (v' := .bool false) (cB (jA oM))) (yZ7 ?_)
    have hsame : { s with nwm := (if s.ly = ly0 /\ s.lm = lm0 then s.nwm else r.nwmF s.ly s.lm) } = s := by
     have : (if s.ly = ly0 /\ s.lm = lm0 then s.nwm else r.nwmF s.ly s.lm) = s.nwm := by
      by_cases hc : s.ly = ly0 /\ s.lm = lm0
      .rw [if_pos hc]
      .rw [if_neg hc, hnF]; unfold nwM; rw [if_pos oM, hold oM]
     rw [this]
    refine gK kns (fun w s => s) (hn a H S ?_ (Kp.refl _))
    rw [hsame]; exact st
 .refine rl ((cF rfl rfl).to (v' := .bool false) (cB (jA oM))) (g18 ?_)
  refine aU rfl rfl ?_
  refine g1 ?_
  have hsame : { s with nwm := (if s.ly = ly0 /\ s.lm = lm0 then s.nwm else r.nwmF s.ly s.lm) } = s := by
   have : (if s.ly = ly0 /\ s.lm = lm0 then s.nwm else r.nwmF s.ly s.lm) = s.nwm := by
    by_cases hc : s.ly = ly0 /\ s.lm = lm0
    .rw [if_pos hc]
    .rw [if_neg hc, hnF]; unfold nwM; rw [if_pos oM, hold oM]
   rw [this]
  refine gK kns (fun w s => s) (hn a H S ?_ (Kp.refl _))
  rw [hsame]; exact st
theorem sD {f : Nat -> Int} (j : Nat) : (List.range (j + 1)).map f = (List.range j).map f ++ [f j] := by rw [List.range_succ, List.map_append]; rfl
theorem aOg {Q : Exit -> Act -> World -> Prop} (hblind : Blind Q) {V : LV} (hV : VOk V) {S0 : LS} {H0 : LV} {r : Ru} {l : Ra} {it rb : Nat} {s : It} {a : Ad} (st : St F w0 S0 H0 it rb r l s a B ((ky 0 9, iV s.lm) :: (ky 0 8, iV s.ly) :: (V ++ H)) S) (hr : RuOk r) (hy : 1 <= s.ly /\ s.ly <= 9999) (hne : r.aPx.length ≠ 0) (hwF : r.wnoF s.ly = sM r.aPx r.aPq s.ly) (hwb : ∀ x ∈ r.aPx, -51 <= x /\ x <= 51)
  (hn : ∀ a' H' S', St F w0 S0 H0 it rb r l { s with wno := r.wnoF s.ly } a' B ((ky 0 9, iV s.lm) :: (ky 0 8, iV s.ly) :: (V ++ H')) S' -> Kp H' H -> GE Q .normal 638 [(0, .pointer (some ⟨it, 7, none⟩)), (1, iV (s.ly)), (2, iV (s.lm))] F w0 B H' S') : GC Tryz.prog (Go.Fr.part [0, 1, 0, 1, 1, 1, 1, 1, 1, 1, 1] (Go.Fr.bodyOf Tryz.f74)) Q 638 [(0, .pointer (some ⟨it, 7, none⟩)), (1, iV (s.ly)), (2, iV (s.lm))] F w0 B H S := by
 have m0_7 := (eV hV dE dE dE dE).symm.trans st.h7
 have m0_10 := (eV hV dE dE dE dE).symm.trans st.h10
 have m0_14 := (eV hV dE dE dE dE).symm.trans st.h14
 have m0_16 := (eV hV dE dE dE dE).symm.trans st.h16
 have m0_19 := (eV hV dE dE dE dE).symm.trans st.h19
 have m0_20 := (eV hV dE dE dE dE).symm.trans st.h20
 have m0_21 := (eV hV dE dE dE dE).symm.trans st.h21
 have m0_22 := (eV hV dE dE dE dE).symm.trans st.h22
 have m1_38 := (dI hV dE dE).symm.trans st.r38
 have m1_39 := (dI hV dE dE).symm.trans st.r39
 have m1_40 := (dI hV dE dE).symm.trans st.r40
 have m1_42 := (dI hV dE dE).symm.trans st.r42
 have m1_47 := (dI hV dE dE).symm.trans st.r47
 have m1_51 := (dI hV dE dE).symm.trans st.r51
 have m1_53 := (dI hV dE dE).symm.trans st.r53
 have m1_57 := (dI hV dE dE).symm.trans st.r57
 have hlp := Cal.lp_01 s.ly
 have hlp1 := Cal.lp_01 (s.ly - 1)
 have hny := aAs s.ly
 have hl51 := st.hl51
 have hyw := aB0 s.ly
 have lm0_ := lim0 hV st.lim
 have hwk := hr.aPq
 have hc6 := st.c6
 have hdt1 : -1000 <= Cal.daysTo (s.ly - 1) /\ Cal.daysTo (s.ly - 1) <= 4000000 := by unfold Cal.daysTo; omega
 have hfwb := pL s.ly r.aPq
 have hn1b := aHy s.ly r.aPq
 have hnwb := uH s.ly r.aPq
 obtain ⟨fw, hfw⟩ : ∃ z, fwk s.ly r.aPq = z := ⟨_, rfl⟩
 obtain ⟨n1, hn1⟩ : ∃ z, no1 s.ly r.aPq = z := ⟨_, rfl⟩
 obtain ⟨wl, hwl⟩ : ∃ z, wyl s.ly r.aPq = z := ⟨_, rfl⟩
 obtain ⟨nw, hnw_⟩ : ∃ z, pB s.ly r.aPq = z := ⟨_, rfl⟩
 obtain ⟨nx, hnx⟩ : ∃ z, o5 s.ly r.aPq = z := ⟨_, rfl⟩
 have hnxb := zU s.ly r.aPq
 rw [hfw] at hfwb
 rw [hn1] at hn1b
 rw [hnw_] at hnwb
 rw [hnx] at hnxb
 have hfe : (7 - ywd s.ly + r.aPq) % 7 = fw := by rw [<- hfw]; rfl
 have hn1e : n1 = if 4 <= fw then 0 else fw := by rw [<- hn1, <- hfw]; rfl
 have hwle : wl = if 4 <= fw then 365 + Cal.lp s.ly + (ywd s.ly - r.aPq) % 7 else 365 + Cal.lp s.ly - fw := by rw [<- hwl, <- hfw]; rfl
 have hnwe : wl / 7 + wl % 7 / 4 = nw := by rw [<- hwl, <- hnw_]; rfl
 have hoff : tZ s.ly r.aPq = if n1 ≠ fw then 7 - fw else 0 := by rw [<- hn1, <- hfw]; rfl
 have hnxe : nx = n1 + nw * 7 - tZ s.ly r.aPq := by rw [<- hnx, <- hn1, <- hnw_]; rfl
 refine g7 ?_
 refine rl ((gQ rfl rfl oM).to (v' := iV (((nY s.ly : Nat) : Int))) (congrArg (Value.int .i64) (oM))) (gL (uB 8 (e := 3) (by_ := 8) (n := (nY s.ly)) dE kR rfl rfl oM oM (fun bz => g2 ?_)))
 refine gL (sto 0 rfl rfl st.hB m0_20 (g3 ?_))
 refine dH 13 kR kR (g14 ?_)
 refine gL (cvo (v := iV fw) rfl (fun w_ s_ => (gT _ _ oM oM w_).mT (cRr (congrArg _ hfe))) (g14 ?_))
 refine cO (ι := (Unit)) (fun _u => True) (fun _u => [(0, .pointer (some ⟨it, 7, none⟩)), (1, iV (s.ly)), (2, iV (s.lm)), (6, iV fw), (7, iV n1), (8, iV wl)]) (fun _u => B) (fun _u => ((ky 0 20, sL bz (nY s.ly) (nY s.ly)) :: H)) (fun _u => ((8, ⟨sL bz (nY s.ly) (nY s.ly), 3, 1, (nY s.ly), (gN (dU (nY s.ly)) ([])).map iV⟩) :: S)) ?_ ?_
 .refine g6 ?_
  refine aB rfl (fun hc1 => ?_) (fun hc2 => ?_)
  .have h4 : 4 <= fw := oT hc1
   rw [if_pos h4] at hn1e hwle
   refine g5 ?_
   refine jY (fun i => false) kR (gr 0 rfl (bC rfl) (gr 1 rfl (bW rfl) (gr 2 rfl (rfa 3) (gr 3 rfl (rld 0 rfl st.hB m0_10) ?_))))
   refine gr 4 rfl (bC rfl) (gr 5 rfl (bW rfl) (gr 6 rfl (rfa 7) (gr 7 rfl (rld 0 rfl st.hB m0_14) (gr 8 rfl (bC rfl) ?_))))
   refine gr 9 rfl (bW rfl) (gr 10 rfl (rfa 0) (gr 11 rfl (rld 0 rfl st.hB m0_7) (gr 12 rfl (bW rfl) (gr 13 rfl (rfa 42) ?_))))
   refine gr 14 rfl (rld 1 rfl st.hR m1_42) ?_
   first
    | refine gr 15 rfl (nK rfl rfl oM) ?_
    | refine gr 15 rfl (n8 rfl rfl) ?_
   refine gn 16 rfl (cvo rfl (fun w_ s_ => gT _ _ oM oM w_) (gk ?_))
   first
    | refine gn 17 rfl (gI dE (gQ rfl rfl oM) (gk ?_))
    | refine gn 17 rfl (gI dE (aD8 rfl rfl) (gk ?_))
   refine gn 18 rfl (gI dE (rB rfl) (gk (fM kR ?_)))
   refine aK (ι := Unit) () trivial kno (fun w s => by exact s)
  .have h4 : ¬ 4 <= fw := oF hc2
   rw [if_neg h4] at hn1e hwle
   refine g9 ?_
   refine aK (ι := Unit) () trivial kno (fun w s => by exact s)
 rintro _u -
 refine dS ?_
 refine g3 ?_
 refine gL (cvo rfl (fun w_ s_ => gG _ _ oM oM w_) (g12 ?_))
 refine rl ((gQ rfl rfl oM).to (v' := iV (nw)) (congrArg (Value.int .i64) (hnwe))) (g18 ?_)
 refine aY (ι := (Nat)) (fun k => r.aPx.length - k) (fun k => (k <= r.aPx.length)) (fun k => [(0, .pointer (some ⟨it, 7, none⟩)), (1, iV (s.ly)), (2, iV (s.lm)), (6, iV fw), (7, iV n1), (11, iV nw), (202, .slice l.p51 r.aPx.length l.c51), (203, iV (r.aPx.length)), (204, iV k)]) (fun k => B) (fun k => ((ky 0 20, sL bz (nY s.ly) (nY s.ly)) :: H)) (fun k => ((8, ⟨sL bz (nY s.ly) (nY s.ly), 3, 1, (nY s.ly), (gN (dU (nY s.ly)) (((r.aPx.take k).flatMap (jW s.ly r.aPq)))).map iV⟩) :: S)) 0 (Nat.zero_le _) kns (fun w s => by exact by rw [List.take_zero]; exact s) ?_
 rintro k hk
 refine dS ?_
 refine g6 ?_
 refine aB rfl (fun hc1 => ?_) (fun hc2 => ?_)
 .have hlt_k : k < r.aPx.length := by have := oT hc1; omega
  obtain ⟨ex, hx_ex⟩ : ∃ y, r.aPx[k]? = some y := ⟨_, List.getElem?_eq_getElem hlt_k⟩
  refine cQ (fun w s => (st.hI51.to aG).head s oM) fun hh_ => ?_
  obtain ⟨b_ex, o_ex, hp_ex⟩ := hh_
  have src_ex := st.hI51
  rw [hp_ex] at src_ex
  have hexb := hwb ex (List.mem_of_getElem? hx_ex)
  have htk : (r.aPx.take (k + 1)).flatMap (jW s.ly r.aPq) = ((r.aPx.take k).flatMap (jW s.ly r.aPq)) ++ jW s.ly r.aPq ex := by rw [kA hx_ex, List.flatMap_append]; simp
  obtain ⟨v, hv⟩ : ∃ v, wkN s.ly r.aPq ex = v := ⟨_, rfl⟩
  have hve : v = if ex < 0 then ex + (nw + 1) else ex := by rw [<- hv, <- hnw_]; rfl
  refine g6 ?_
  refine rl (aC (e := 3) (n := 1) kR (congrArg (fun p => some (Value.slice p _ _)) hp_ex) rfl oM oM) (rZ3 (dT kR rfl (fun w s => src_ex.cell hx_ex aG s)) ?_)
  refine cO (ι := (Unit)) (fun _u => True) (fun _u => [(0, .pointer (some ⟨it, 7, none⟩)), (1, iV (s.ly)), (2, iV (s.lm)), (6, iV fw), (7, iV n1), (11, iV nw), (202, .slice l.p51 r.aPx.length l.c51), (203, iV (r.aPx.length)), (204, iV k), (13, iV v)]) (fun _u => B) (fun _u => ((ky 0 20, sL bz (nY s.ly) (nY s.ly)) :: H)) (fun _u => ((8, ⟨sL bz (nY s.ly) (nY s.ly), 3, 1, (nY s.ly), (gN (dU (nY s.ly)) (((r.aPx.take k).flatMap (jW s.ly r.aPq)))).map iV⟩) :: S)) ?_ ?_
  .refine g6 ?_
   refine aB rfl (fun hc1 => ?_) (fun hc2 => ?_)
   .have hneg : ex < 0 := oT hc1
    rw [if_pos hneg] at hve
    refine g7 ?_
    refine aK (ι := Unit) () trivial kno (fun w s => by exact s)
   .have hneg : ¬ ex < 0 := oF hc2
    rw [if_neg hneg] at hve
    refine g1 ?_
    refine aK (ι := Unit) () trivial kno (fun w s => by exact s)
  rintro _u -
  refine dS ?_
  refine g4 ?_
  by_cases h1 : 0 < v
  .refine rZ6 ((cR rfl rfl).to bT) ?_
   by_cases h2 : v <= nw
   .refine rl ((d7 rfl rfl).to bT) (g4 ?_)
    refine aU rfl rfl ?_
    refine g3 ?_
    obtain ⟨i0, hi0⟩ : ∃ z, aDj s.ly r.aPq v = z := ⟨_, rfl⟩
    have hib := aGe (y := s.ly) (aPq := r.aPq) (n := v) oM oM
    rw [hi0] at hib
    have hie : i0 = if 1 < v then n1 + (v - 1) * 7 - tZ s.ly r.aPq else n1 := by rw [<- hi0, <- hn1]; rfl
    have hrun : jW s.ly r.aPq ex = vW s.ly r.aPq i0 := by unfold jW; rw [hv, hnw_, if_pos ⟨h1, h2⟩, hi0]
    refine g4 ?_
    refine cO (ι := (Unit)) (fun _u => True) (fun _u => [(0, .pointer (some ⟨it, 7, none⟩)), (1, iV (s.ly)), (2, iV (s.lm)), (6, iV fw), (7, iV n1), (11, iV nw), (202, .slice l.p51 r.aPx.length l.c51), (203, iV (r.aPx.length)), (204, iV k), (14, iV i0)]) (fun _u => B) (fun _u => ((ky 0 20, sL bz (nY s.ly) (nY s.ly)) :: H)) (fun _u => ((8, ⟨sL bz (nY s.ly) (nY s.ly), 3, 1, (nY s.ly), (gN (dU (nY s.ly)) (((r.aPx.take k).flatMap (jW s.ly r.aPq)))).map iV⟩) :: S)) ?_ ?_
    .refine g6 ?_
     refine aB rfl (fun hc1 => ?_) (fun hc2 => ?_)
     .have h1v : 1 < v := oT hc1
      rw [if_pos h1v] at hie
      refine g16 ?_
      refine g1 ?_
      refine aB rfl (fun hc1 => ?_) (fun hc2 => ?_)
      .have hnf : n1 ≠ fw := bne_iff_ne.1 hc1
       rw [if_pos hnf] at hoff
       refine g7 ?_
       refine aK (ι := Unit) () trivial kno (fun w s => by exact s)
      .have hnf : ¬ n1 ≠ fw := fun h => absurd (bne_eq_false_iff_eq.1 hc2) h
       rw [if_neg hnf] at hoff
       refine g1 ?_
       refine aK (ι := Unit) () trivial kno (fun w s => by exact s)
     .have h1v : ¬ 1 < v := oF hc2
      rw [if_neg h1v] at hie
      refine g4 ?_
      refine aK (ι := Unit) () trivial kno (fun w s => by exact s)
    rintro _u -
    refine dS ?_
    refine g6 ?_
    refine aY (ι := (Nat)) (fun j => 7 - j) (fun j => ((j : Int) <= (r.aPq - ywd s.ly - i0 - 1) % 7)) (fun j => [(0, .pointer (some ⟨it, 7, none⟩)), (1, iV (s.ly)), (2, iV (s.lm)), (6, iV fw), (7, iV n1), (11, iV nw), (202, .slice l.p51 r.aPx.length l.c51), (203, iV (r.aPx.length)), (204, iV k), (14, iV ((i0 + (j : Int)))), (15, iV j)]) (fun j => B) (fun j => ((ky 0 20, sL bz (nY s.ly) (nY s.ly)) :: H)) (fun j => ((8, ⟨sL bz (nY s.ly) (nY s.ly), 3, 1, (nY s.ly), (gN (dU (nY s.ly)) (((r.aPx.take k).flatMap (jW s.ly r.aPq)) ++ (List.range j).map fun (z : Nat) => i0 + (z : Int))).map iV⟩) :: S)) 0 (by show ((0 : Nat) : Int) <= _; omega) kno (fun w s => by exact by rw [List.range_zero, List.map_nil, List.append_nil]; exact s) ?_
    rintro j hj
    refine dS ?_
    refine g7 ?_
    refine bK rfl (decide_eq_true oM) ?_
    refine g5 ?_
    have hset : ((gN (dU (nY s.ly)) (((r.aPx.take k).flatMap (jW s.ly r.aPq)) ++ (List.range j).map fun (z : Nat) => i0 + (z : Int))).map iV).set (0 + (i0 + (j : Int)).toNat * 1) (iV 1) = (gN (dU (nY s.ly)) (((r.aPx.take k).flatMap (jW s.ly r.aPq)) ++ (List.range (j + 1)).map fun (z : Nat) => i0 + (z : Int))).map iV := by rw [sD, <- List.append_assoc]; exact lX oM
    refine g6 ?_
    refine rl (aC (e := 3) (n := 1) kR rfl rfl oM oM) (gL (gS 8 rfl rfl rfl rfl (by rw [List.length_map, iS, gJ]; omega) kR rfl (g16 ?_)))
    refine rq (aC (e := 3) (n := 1) kR rfl rfl oM oM) (rq ((bQ 6 rfl ((aA dE _ _).trans ((aA dE _ _).trans st.hS6)) rfl (nP (x := (ywd s.ly + (i0 + (j : Int) + 1)) % 7) oM oM) kR)) (g10 ?_))
    refine aB rfl (fun hc1 => ?_) (fun hc2 => ?_)
    .have hhit := beq_iff_eq.1 hc1
     have hjl : j + 1 = (qL s.ly r.aPq i0).toNat := by unfold qL; omega
     have hfull : ((r.aPx.take k).flatMap (jW s.ly r.aPq)) ++ (List.range (j + 1)).map (fun (z : Nat) => i0 + (z : Int)) = (r.aPx.take (k + 1)).flatMap (jW s.ly r.aPq) := by rw [hjl]; rw [htk, hrun]; rfl
     refine g11 ?_
     refine aN (k + 1) oM oM kns (fun w s => by exact by rw [<- hfull, <- hset]; exact s.low 40 (by repeat (first | exact lm0_ | apply Lim.aPh _ dE dE | apply Lim.aPi _ dE)) agx agx agx)
    .have hmiss := beq_eq_false_iff_ne.1 hc2
     refine g8 ?_
     refine aN (j + 1) oM (by show ((j + 1 : Nat) : Int) <= _; omega) kno (fun w s => by exact by rw [<- hset]; exact s.low 40 (by repeat (first | exact lm0_ | apply Lim.aPh _ dE dE | apply Lim.aPi _ dE)) agx agx agx)
   .have hem : jW s.ly r.aPq ex = [] := by unfold jW; rw [hv, hnw_, if_neg oM]
    refine sQ ((d7 rfl rfl).to bF) ?_
    refine aN (k + 1) oM oM kns (fun w s => by exact by rw [htk, hem, List.append_nil]; exact s)
  .have hem : jW s.ly r.aPq ex = [] := by unfold jW; rw [hv, hnw_, if_neg oM]
   refine rl ((cR rfl rfl).to bF) (uC ?_)
   refine aN (k + 1) oM oM kns (fun w s => by exact by rw [htk, hem, List.append_nil]; exact s)
 .have hge_k : ¬ k < r.aPx.length := by have := oF hc2; omega
  have hke : k = r.aPx.length := by omega
  subst hke
  rw [List.take_length]
  refine g5 ?_
  refine cO (ι := (Unit)) (fun _u => True) (fun _u => [(0, .pointer (some ⟨it, 7, none⟩)), (1, iV (s.ly)), (2, iV (s.lm)), (6, iV fw), (7, iV n1), (11, iV nw)]) (fun _u => B) (fun _u => ((ky 0 20, sL bz (nY s.ly) (nY s.ly)) :: H)) (fun _u => ((8, ⟨sL bz (nY s.ly) (nY s.ly), 3, 1, (nY s.ly), (gN (dU (nY s.ly)) ((kU s.ly r.aPq r.aPx ++ kN s.ly r.aPq r.aPx))).map iV⟩) :: S)) ?_ ?_
  .refine g9 ?_
   rcases bO (r.aPx.any (· == 1)) with hc1_ | hc1_
   .refine gL (cvo (v := .bool true) rfl (fun w_ s_ => (aR r.aPx 1 _ st.hl51 w_ (st.hI51 _ _ _ w_ aG s_)).mT (cE hc1_)) (l5 ?_))
    refine cO (ι := (Unit)) (fun _u => True) (fun _u => [(0, .pointer (some ⟨it, 7, none⟩)), (1, iV (s.ly)), (2, iV (s.lm)), (6, iV fw), (7, iV n1), (11, iV nw), (16, iV nx)]) (fun _u => B) (fun _u => ((ky 0 20, sL bz (nY s.ly) (nY s.ly)) :: H)) (fun _u => ((8, ⟨sL bz (nY s.ly) (nY s.ly), 3, 1, (nY s.ly), (gN (dU (nY s.ly)) ((kU s.ly r.aPq r.aPx))).map iV⟩) :: S)) ?_ ?_
    .refine g7 ?_
     refine aB rfl (fun hc1 => ?_) (fun hc2 => ?_)
     .have hnf : n1 ≠ fw := bne_iff_ne.1 hc1
      rw [if_pos hnf] at hoff
      refine g7 ?_
      refine aK (ι := Unit) () trivial kno (fun w s => by exact s)
     .have hnf : ¬ n1 ≠ fw := fun h => absurd (bne_eq_false_iff_eq.1 hc2) h
      rw [if_neg hnf] at hoff
      refine g1 ?_
      refine aK (ι := Unit) () trivial kno (fun w s => by exact s)
    rintro _u -
    refine dS ?_
    refine g10 ?_
    refine aB rfl (fun hc1 => ?_) (fun hc2 => ?_)
    .have hlt : nx < 365 + Cal.lp s.ly := oT hc1
     have hBr : kN s.ly r.aPq r.aPx = vW s.ly r.aPq nx := by unfold kN; rw [if_pos ⟨hc1_, by rw [hnx]; exact hlt⟩, hnx]
     refine g6 ?_
     refine aY (ι := (Nat)) (fun j => 7 - j) (fun j => ((j : Int) <= (r.aPq - ywd s.ly - nx - 1) % 7)) (fun j => [(0, .pointer (some ⟨it, 7, none⟩)), (1, iV (s.ly)), (2, iV (s.lm)), (6, iV fw), (7, iV n1), (11, iV nw), (16, iV ((nx + (j : Int)))), (17, iV j)]) (fun j => B) (fun j => ((ky 0 20, sL bz (nY s.ly) (nY s.ly)) :: H)) (fun j => ((8, ⟨sL bz (nY s.ly) (nY s.ly), 3, 1, (nY s.ly), (gN (dU (nY s.ly)) ((kU s.ly r.aPq r.aPx) ++ (List.range j).map fun (z : Nat) => nx + (z : Int))).map iV⟩) :: S)) 0 (by show ((0 : Nat) : Int) <= _; omega) kno (fun w s => by exact by rw [List.range_zero, List.map_nil, List.append_nil]; exact s) ?_
     rintro j hj
     refine dS ?_
     refine g7 ?_
     refine bK rfl (decide_eq_true oM) ?_
     refine g5 ?_
     have hset : ((gN (dU (nY s.ly)) ((kU s.ly r.aPq r.aPx) ++ (List.range j).map fun (z : Nat) => nx + (z : Int))).map iV).set (0 + (nx + (j : Int)).toNat * 1) (iV 1) = (gN (dU (nY s.ly)) ((kU s.ly r.aPq r.aPx) ++ (List.range (j + 1)).map fun (z : Nat) => nx + (z : Int))).map iV := by rw [sD, <- List.append_assoc]; exact lX oM
     refine g6 ?_
     refine rl (aC (e := 3) (n := 1) kR rfl rfl oM oM) (gL (gS 8 rfl rfl rfl rfl (by rw [List.length_map, iS, gJ]; omega) kR rfl (g16 ?_)))
     refine rq (aC (e := 3) (n := 1) kR rfl rfl oM oM) (rq ((bQ 6 rfl ((aA dE _ _).trans ((aA dE _ _).trans st.hS6)) rfl (nP (x := (ywd s.ly + (nx + (j : Int) + 1)) % 7) oM oM) kR)) (g10 ?_))
     refine aB rfl (fun hc1 => ?_) (fun hc2 => ?_)
     .have hhit := beq_iff_eq.1 hc1
      have hjl : j + 1 = (qL s.ly r.aPq nx).toNat := by unfold qL; omega
      have hfull : (kU s.ly r.aPq r.aPx) ++ (List.range (j + 1)).map (fun (z : Nat) => nx + (z : Int)) = (kU s.ly r.aPq r.aPx ++ kN s.ly r.aPq r.aPx) := by rw [hjl]; rw [hBr]; rfl
      refine g5 ?_
      refine aK (ι := Unit) () trivial kno (fun w s => by exact (by rw [<- hfull, <- hset]; exact s.low 40 (by repeat (first | exact lm0_ | apply Lim.aPh _ dE dE | apply Lim.aPi _ dE)) agx agx agx))
     .have hmiss := beq_eq_false_iff_ne.1 hc2
      refine g8 ?_
      refine aN (j + 1) oM (by show ((j + 1 : Nat) : Int) <= _; omega) kno (fun w s => by exact by rw [<- hset]; exact s.low 40 (by repeat (first | exact lm0_ | apply Lim.aPh _ dE dE | apply Lim.aPi _ dE)) agx agx agx)
    .have hlt : ¬ nx < 365 + Cal.lp s.ly := oF hc2
     have hBe : kN s.ly r.aPq r.aPx = [] := by unfold kN; rw [if_neg (fun h => hlt (by rw [<- hnx]; exact h.2))]
     refine g1 ?_
     refine aK (ι := Unit) () trivial kno (fun w s => by exact (by rw [hBe, List.append_nil]; exact s))
   .have hBe : kN s.ly r.aPq r.aPx = [] := by unfold kN; rw [if_neg (fun h => by rw [hc1_] at h; exact absurd h.1 dE)]
    refine gL (cvo (v := .bool false) rfl (fun w_ s_ => (aR r.aPx 1 _ st.hl51 w_ (st.hI51 _ _ _ w_ aG s_)).mT (cE hc1_)) (g2 ?_))
    refine aU rfl rfl ?_
    refine g1 ?_
    refine aK (ι := Unit) () trivial kno (fun w s => by exact (by rw [hBe, List.append_nil]; exact s))
  rintro _u -
  refine dS ?_
  refine g6 ?_
  refine aB rfl (fun hc1 => ?_) (fun hc2 => ?_)
  .have hn0 : n1 ≠ 0 := bne_iff_ne.1 hc1
   refine g5 ?_
   refine cO (ι := (Int)) (fun z => ((r.aPx.any (· == -1) = true /\ z = -1) \/ (r.aPx.any (· == -1) = false /\ 52 <= z /\ z <= 60))) (fun z => [(0, .pointer (some ⟨it, 7, none⟩)), (1, iV (s.ly)), (2, iV (s.lm)), (7, iV n1), (18, iV z)]) (fun z => B) (fun z => ((ky 0 20, sL bz (nY s.ly) (nY s.ly)) :: H)) (fun z => ((8, ⟨sL bz (nY s.ly) (nY s.ly), 3, 1, (nY s.ly), (gN (dU (nY s.ly)) ((kU s.ly r.aPq r.aPx ++ kN s.ly r.aPq r.aPx))).map iV⟩) :: S)) ?_ ?_
   .refine g9 ?_
    rcases bO (r.aPx.any (· == -1)) with hcm | hcm
    .refine gL (cvo (v := .bool true) rfl (fun w_ s_ => (aR r.aPx (-1) _ st.hl51 w_ (st.hI51 _ _ _ w_ aG s_)).mT (cE hcm)) (yZ7 ?_))
     refine aK (ι := Int) (-1) (.inl ⟨hcm, rfl⟩) kns (fun w s => s)
    .refine gL (cvo (v := .bool false) rfl (fun w_ s_ => (aR r.aPx (-1) _ st.hl51 w_ (st.hI51 _ _ _ w_ aG s_)).mT (cE hcm)) (oD ?_))
     refine rl (aW 1 rfl st.hR m1_39 m1_40 kR dE) (gL (cvo rfl (fun w_ s_ => dR _ _ w_) (gL (cvo (v := .agg #[iV (Cal.daysTo (s.ly - 1) * 86400), iV 0]) rfl (fun w_ s_ => (cV (s.ly - 1) 1 1 0 0 0 0 oM oM oM oM oM oM oM w_).mT (cRr (by rw [pU]))) (gL (cvo rfl (fun w_ s_ => jV _ _ oM w_) (gL (cvo rfl (fun w_ s_ => mN _ oM w_) ?_))))))))
     refine g15 ?_
     refine gL (cvo rfl (fun w_ s_ => gT _ _ oM oM w_) (g7 ?_))
     refine gL (cvo rfl (fun w_ s_ => kQ _ oM w_) (g10 ?_))
     refine aB rfl (fun c357_ => ?_) (fun c357_ => ?_)
     .first | have p357_ := oT c357_ | have p357_ := beq_iff_eq.1 c357_ | have p357_ := bne_iff_ne.1 c357_ | skip
      refine g16 ?_
      refine gL (cvo rfl (fun w_ s_ => gT _ _ oM oM w_) (g1 ?_))
      refine gL (cvo rfl (fun w_ s_ => gT _ _ oM oM w_) (g4 ?_))
      refine aK (ι := Int) _ (.inr ⟨hcm, ?_, ?_⟩) kns (fun w s => s)
      .omega
      .omega
     .first | have p357_ := oF c357_ | have p357_ := beq_eq_false_iff_ne.1 c357_ | have p357_ := bne_eq_false_iff_eq.1 c357_ | skip
      refine g7 ?_
      refine gL (cvo rfl (fun w_ s_ => gT _ _ oM oM w_) (g4 ?_))
      refine aK (ι := Int) _ (.inr ⟨hcm, ?_, ?_⟩) kns (fun w s => s)
      .omega
      .omega
   rintro z hz
   refine dS ?_
   refine g1 ?_
   rcases hz with ⟨hcm, hz⟩ | ⟨hcm, hz1, hz2⟩
   .subst hz
    have hzc : r.aPx.any (· == -1) = true := hcm
    refine g9 ?_
    refine gL (cvo (v := .bool true) rfl (fun w_ s_ => (aR r.aPx (-1) _ st.hl51 w_ (st.hI51 _ _ _ w_ aG s_)).mT (cE hzc)) (yZ9 ?_))
    refine aY (ι := (Nat)) (fun j => n1.toNat - j) (fun j => ((j : Int) <= n1)) (fun j => [(0, .pointer (some ⟨it, 7, none⟩)), (1, iV (s.ly)), (2, iV (s.lm)), (7, iV n1), (22, iV j)]) (fun j => B) (fun j => ((ky 0 20, sL bz (nY s.ly) (nY s.ly)) :: H)) (fun j => ((8, ⟨sL bz (nY s.ly) (nY s.ly), 3, 1, (nY s.ly), (gN (dU (nY s.ly)) ((kU s.ly r.aPq r.aPx ++ kN s.ly r.aPq r.aPx) ++ (List.range j).map fun (z : Nat) => (z : Int))).map iV⟩) :: S)) 0 (by show ((0 : Nat) : Int) <= _; omega) kns (fun w s => by exact by rw [List.range_zero, List.map_nil, List.append_nil]; exact s) ?_
    rintro j hj
    refine dS ?_
    refine g8 ?_
    refine aB rfl (fun hc1 => ?_) (fun hc2 => ?_)
    .have hlt : (j : Int) < n1 := oT hc1
     have hset : ((gN (dU (nY s.ly)) ((kU s.ly r.aPq r.aPx ++ kN s.ly r.aPq r.aPx) ++ (List.range j).map fun (z : Nat) => (z : Int))).map iV).set (0 + (j : Int).toNat * 1) (iV 1) = (gN (dU (nY s.ly)) ((kU s.ly r.aPq r.aPx ++ kN s.ly r.aPq r.aPx) ++ (List.range (j + 1)).map fun (z : Nat) => (z : Int))).map iV := by rw [sD, <- List.append_assoc]; exact lX oM
     refine g10 ?_
     refine rl (aC (e := 3) (n := 1) kR rfl rfl oM oM) (gL (gS 8 rfl rfl rfl rfl (by rw [List.length_map, iS, gJ]; omega) kR rfl (g8 ?_)))
     refine aN (j + 1) oM (by show ((j + 1 : Nat) : Int) <= _; omega) kns (fun w s => by exact by rw [<- hset]; exact s.low 40 (by repeat (first | exact lm0_ | apply Lim.aPh _ dE dE | apply Lim.aPi _ dE)) agx agx agx)
    .have hge : ¬ (j : Int) < n1 := oF hc2
     have hCe : (oN s.ly r.aPq r.aPx) = (List.range j).map fun (z : Nat) => (z : Int) := by unfold oN; rw [hn1, if_pos ⟨hn0, hcm⟩, show n1.toNat = j by omega]
     refine g4 ?_
     have hall : s7 s.ly r.aPq r.aPx = (kU s.ly r.aPq r.aPx ++ kN s.ly r.aPq r.aPx) ++ (oN s.ly r.aPq r.aPx) := rfl
     rw [hCe] at hall
     have hze : gN (dU (nY s.ly)) (s7 s.ly r.aPq r.aPx) = r.wnoF s.ly := by rw [hwF]; unfold sM; rw [if_neg hne]
     rw [<- hall, hze]
     have hZ : nY s.ly = (r.wnoF s.ly).length := by rw [hwF]; exact (sZ hne _ _).symm
     refine gK kns (fun w s => s) (hn { a with p20 := some ⟨bz, 0, none⟩, c20 := nY s.ly } _ _ ?_ (Kp.refl _).cons)
     rw [hZ]
     exact (sT st (lim := fun _ => ((aD7 hV dE st.lim).aPi dE)) (hS8 := fun _ => (fun _ => rfl)) (hp20 := fun _ => (fun _ => ⟨bz, rfl⟩)) (frH := fun _ => (fun k_ h1_ h2_ o_ ho_ => (lkF hV dE oM ho_).trans (st.frH k_ h1_ h2_ o_ ho_))))
   .have hzc : r.aPx.any (· == z) = false := by
     rw [List.any_eq_false]
     intro x hx h
     have h1 := hwb x hx
     have h2 : x = z := beq_iff_eq.1 h
     omega
    have hCe : (oN s.ly r.aPq r.aPx) = [] := by unfold oN; rw [if_neg (fun h => by rw [hcm] at h; exact absurd h.2 dE)]
    refine g9 ?_
    refine gL (cvo (v := .bool false) rfl (fun w_ s_ => (aR r.aPx z _ st.hl51 w_ (st.hI51 _ _ _ w_ aG s_)).mT (cE hzc)) (g2 ?_))
    refine aU rfl rfl ?_
    refine g1 ?_
    have hall : s7 s.ly r.aPq r.aPx = (kU s.ly r.aPq r.aPx ++ kN s.ly r.aPq r.aPx) ++ (oN s.ly r.aPq r.aPx) := rfl
    rw [hCe, List.append_nil] at hall
    have hze : gN (dU (nY s.ly)) (s7 s.ly r.aPq r.aPx) = r.wnoF s.ly := by rw [hwF]; unfold sM; rw [if_neg hne]
    rw [<- hall, hze]
    have hZ : nY s.ly = (r.wnoF s.ly).length := by rw [hwF]; exact (sZ hne _ _).symm
    refine gK kns (fun w s => s) (hn { a with p20 := some ⟨bz, 0, none⟩, c20 := nY s.ly } _ _ ?_ (Kp.refl _).cons)
    rw [hZ]
    exact (sT st (lim := fun _ => ((aD7 hV dE st.lim).aPi dE)) (hS8 := fun _ => (fun _ => rfl)) (hp20 := fun _ => (fun _ => ⟨bz, rfl⟩)) (frH := fun _ => (fun k_ h1_ h2_ o_ ho_ => (lkF hV dE oM ho_).trans (st.frH k_ h1_ h2_ o_ ho_))))
  .have hn0 : ¬ n1 ≠ 0 := fun h => absurd (bne_eq_false_iff_eq.1 hc2) h
   have hCe : (oN s.ly r.aPq r.aPx) = [] := by unfold oN; rw [hn1, if_neg (fun h => hn0 h.1)]
   refine g1 ?_
   have hall : s7 s.ly r.aPq r.aPx = (kU s.ly r.aPq r.aPx ++ kN s.ly r.aPq r.aPx) ++ (oN s.ly r.aPq r.aPx) := rfl
   rw [hCe, List.append_nil] at hall
   have hze : gN (dU (nY s.ly)) (s7 s.ly r.aPq r.aPx) = r.wnoF s.ly := by rw [hwF]; unfold sM; rw [if_neg hne]
   rw [<- hall, hze]
   have hZ : nY s.ly = (r.wnoF s.ly).length := by rw [hwF]; exact (sZ hne _ _).symm
   refine gK kns (fun w s => s) (hn { a with p20 := some ⟨bz, 0, none⟩, c20 := nY s.ly } _ _ ?_ (Kp.refl _).cons)
   rw [hZ]
   exact (sT st (lim := fun _ => ((aD7 hV dE st.lim).aPi dE)) (hS8 := fun _ => (fun _ => rfl)) (hp20 := fun _ => (fun _ => ⟨bz, rfl⟩)) (frH := fun _ => (fun k_ h1_ h2_ o_ ho_ => (lkF hV dE oM ho_).trans (st.frH k_ h1_ h2_ o_ ho_))))
structure MkOk (r : Ru) : Prop where
 wnoF : ∀ y, r.wnoF y = sM r.aPx r.aPq y
 nwmF : ∀ y m, r.nwmF y m = nwM r.aP2 r.aPt r.nwd y m
 easF : ∀ y, r.easF y = uJ r.aPy y
 wk : ∀ x ∈ r.aPx, -51 <= x /\ x <= 51
 ea : ∀ x ∈ r.aPy, -80 <= x /\ x <= 200
 mo : ∀ x ∈ r.aPt, 1 <= x /\ x <= 12
 nw : ∀ y m, 1 <= m /\ m <= 12 -> NwOk r y m
theorem aJ1 {Q : Exit -> Act -> World -> Prop} (hblind : Blind Q) {it rb : Nat} (hB : lkp 0 B = some it) (hR : lkp 1 B = some rb) (h7 : lkp (ky 0 7) H = some (pT rb)) {d0 d1 : Int} (r39 : lkp (ky 1 39) H = some (iV d0)) (r40 : lkp (ky 1 40) H = some (iV d1)) {v10 : Value} (h10 : lkp (ky 0 10) H = some v10) {v11 : Value} (h11 : lkp (ky 0 11) H = some v11) {v12 : Value} (h12 : lkp (ky 0 12) H = some v12) {v13 : Value} (h13 : lkp (ky 0 13) H = some v13) {v14 : Value} (h14 : lkp (ky 0 14) H = some v14) {v15 : Value} (h15 : lkp (ky 0 15) H = some v15) {v16 : Value} (h16 : lkp (ky 0 16) H = some v16) {v17 : Value} (h17 : lkp (ky 0 17) H = some v17) {v18 : Value} (h18 : lkp (ky 0 18) H = some v18) {v19 : Value} (h19 : lkp (ky 0 19) H = some v19) {y m : Int} (hy1 : 1 <= y /\ y <= 9999) (hleap : Cal.leapB y = false) (hn : ∀ b6 c6 b3 c3 b4 c4 b5 c5 b7 c7 : Nat, 385 <= c6 -> GC Tryz.prog (Go.Fr.part [0, 1, 0, 1, 1, 1, 1, 1, 1] (Go.Fr.bodyOf Tryz.f74)) Q 638 [(0, .pointer (some ⟨it, 7, none⟩)), (1, iV y), (2, iV m)] F w0 B ((ky 0 16, sL b7 13 c7) :: (ky 0 18, sL b5 (nY y) c5) :: (ky 0 17, sL b4 (nY y) c4) :: (ky 0 15, sL b3 (nY y) c3) ::
   (ky 0 19, .slice (some ⟨b6, 0 + (ywd y).toNat * 1, none⟩) (385 - (ywd y).toNat) (c6 - (ywd y).toNat)) :: (ky 0 14, iV (ywd y)) :: (ky 0 13, iV 0) :: (ky 0 12, iV (Cal.daysTo y * 86400)) ::
   (ky 0 11, iV (365 + Cal.lp (y + 1))) :: (ky 0 10, iV (365 + Cal.lp y)) :: H) ((7, ⟨sL b7 13 c7, 3, 1, 13, (rgY y).map iV⟩) :: (5, ⟨sL b5 (nY y) c5, 3, 1, nY y, (mM y).map iV⟩) :: (4, ⟨sL b4 (nY y) c4, 3, 1, nY y, (mdY y).map iV⟩) :: (3, ⟨sL b3 (nY y) c3, 3, 1, nY y, (mmY y).map iV⟩) ::
   (6, ⟨sL b6 385 c6, 3, 1, 385, (wd 55).map iV⟩) :: S)) : GC Tryz.prog (Go.Fr.part [0, 1, 0] (Go.Fr.bodyOf Tryz.f74)) Q 638 [(0, .pointer (some ⟨it, 7, none⟩)), (1, iV y), (2, iV m)] F w0 B H S := by
 have hdt : 0 <= Cal.daysTo y /\ Cal.daysTo y <= 4000000 := by unfold Cal.daysTo; omega
 have hyw : 0 <= ywd y /\ ywd y <= 6 := by unfold ywd; omega
 have hlp : Cal.lp y = 0 := by unfold Cal.lp; rw [hleap]; rfl
 have hlp2 := Cal.lp_01 (y + 1)
 have emm : mmY y = aAl := by unfold mmY; rw [hleap]; rfl
 have emd : mdY y = aAf := by unfold mdY; rw [hleap]; rfl
 have enm : mM y = uX := by unfold mM; rw [hleap]; rfl
 have enY : nY y = 372 := by unfold nY; rw [hleap]; rfl
 have erg : rgY y = [0, 31, 59, 90, 120, 151, 181, 212, 243, 273, 304, 334, 365] := by unfold rgY; rw [hleap]; rfl
 refine g4 ?_
 refine gL (cvo (v := iV (Cal.lp y)) rfl (fun w_ s_ => (kQ _ oM w_).mT (cRr rfl)) (g3 ?_))
 refine gL (sto 0 rfl rfl hB h10 (g7 ?_))
 refine gL (cvo (v := iV (Cal.lp (y + 1))) rfl (fun w_ s_ => (kQ _ oM w_).mT (cRr rfl)) (g3 ?_))
 refine gL (sto 0 rfl rfl hB h11 (g12 ?_))
 refine rl (aW 1 rfl hR r39 r40 kR dE) (gL (cvo rfl (fun w_ s_ => dR _ _ w_) (gL (cvo (v := .agg #[iV (Cal.daysTo y * 86400), iV 0]) rfl (fun w_ s_ => (cV y 1 1 0 0 0 0 oM oM oM oM oM oM oM w_).mT (cRr (by rw [pU]))) (g2 ?_)))))
 refine gL (cI 0 rfl rfl hB (rV h12 h13) kR rfl ble (g8 ?_))
 refine rl (aW 0 rfl hB rfl rfl kR dE) (gL (cvo rfl (fun w_ s_ => jV _ _ oM w_) (gL (cvo (v := iV (ywd y)) rfl (fun w_ s_ => (mN _ oM w_).mT (cRr (congrArg _ (aJc y)))) (g2 ?_)))))
 refine gL (sto 0 rfl rfl hB h14 (g3 ?_))
 refine jY (fun i => i == 9) kR (gr 0 rfl (bC rfl) (gr 2 rfl (bC rfl) (gr 3 rfl (bW rfl) (gr 4 rfl (rfa 7) ?_))))
 refine gr 5 rfl (rld 0 rfl hB rfl) (gn 1 rfl (bL 6 (e := 3) (sz := 1) (n := 385) (xs := (wd 55).map iV) dE kR rfl (fun w_ s_ => x8 w_) (fun p6 c6 => gk (kK (fun w s => s.head 6 rfl dE) fun hcap => ?_))))
 obtain ⟨b6, rfl, hc6⟩ := hcap
 refine gn 6 rfl (gI dE (i6 (e := 3) (n := 1) kR rfl rfl oM oM oM) (gk (gn 7 rfl (gI dE (bW rfl) (gk (gn 8 rfl (gI dE (rfa 12) (gk (gn 9 rfl (sto 0 rfl rfl hB h19 (gk (fM kR ?_))))))))))))
 refine g11 ?_
 refine bK rfl (oP (by rw [hlp]; rfl)) ?_
 refine g3 ?_
 refine gL (bL 3 (e := 3) (sz := 1) (n := 372) (xs := aAl.map iV) dE kR rfl (fun w_ s_ => aFf w_) (fun p3 c3 => g2 ?_))
 refine gL (sto 0 rfl rfl hB h15 (g5 ?_))
 refine gL (bL 4 (e := 3) (sz := 1) (n := 372) (xs := aAf.map iV) dE kR rfl (fun w_ s_ => zC w_) (fun p4 c4 => g2 ?_))
 refine gL (sto 0 rfl rfl hB h17 (g5 ?_))
 refine gL (bL 5 (e := 3) (sz := 1) (n := 372) (xs := uX.map iV) dE kR rfl (fun w_ s_ => w8 w_) (fun p5 c5 => g2 ?_))
 refine gL (sto 0 rfl rfl hB h18 (g4 ?_))
 refine gL (bL 7 (e := 3) (sz := 1) (n := 13) (xs := ([0, 31, 59, 90, 120, 151, 181, 212, 243, 273, 304, 334, 365] : List Int).map iV) dE kR rfl (fun w_ s_ => aE9 w_) (fun p7 c7 => g2 ?_))
 refine gL (sto 0 rfl rfl hB h16 (g2 ?_))
 refine cQ (fun w s => s.head 3 rfl dE) (fun ⟨b3, hb3, _⟩ => ?_)
 subst hb3
 refine cQ (fun w s => s.head 4 rfl dE) (fun ⟨b4, hb4, _⟩ => ?_)
 subst hb4
 refine cQ (fun w s => s.head 5 rfl dE) (fun ⟨b5, hb5, _⟩ => ?_)
 subst hb5
 refine cQ (fun w s => s.head 7 rfl dE) (fun ⟨b7, hb7, _⟩ => ?_)
 subst hb7
 refine dO (L' := [(0, .pointer (some ⟨it, 7, none⟩)), (1, iV y), (2, iV m)]) kns (fun w s => s) ?_
 have hn_ := hn b6 c6 b3 c3 b4 c4 b5 c5 b7 c7 hc6
 rw [emm, emd, enm, enY, erg] at hn_
 exact hn_
theorem aJk {Q : Exit -> Act -> World -> Prop} (hblind : Blind Q) {it rb : Nat} (hB : lkp 0 B = some it) (hR : lkp 1 B = some rb) (h7 : lkp (ky 0 7) H = some (pT rb)) {d0 d1 : Int} (r39 : lkp (ky 1 39) H = some (iV d0)) (r40 : lkp (ky 1 40) H = some (iV d1)) {v10 : Value} (h10 : lkp (ky 0 10) H = some v10) {v11 : Value} (h11 : lkp (ky 0 11) H = some v11) {v12 : Value} (h12 : lkp (ky 0 12) H = some v12) {v13 : Value} (h13 : lkp (ky 0 13) H = some v13) {v14 : Value} (h14 : lkp (ky 0 14) H = some v14) {v15 : Value} (h15 : lkp (ky 0 15) H = some v15) {v16 : Value} (h16 : lkp (ky 0 16) H = some v16) {v17 : Value} (h17 : lkp (ky 0 17) H = some v17) {v18 : Value} (h18 : lkp (ky 0 18) H = some v18) {v19 : Value} (h19 : lkp (ky 0 19) H = some v19) {y m : Int} (hy1 : 1 <= y /\ y <= 9999) (hleap : Cal.leapB y = true) (hn : ∀ b6 c6 b3 c3 b4 c4 b5 c5 b7 c7 : Nat, 385 <= c6 -> GC Tryz.prog (Go.Fr.part [0, 1, 0, 1, 1, 1, 1, 1, 1] (Go.Fr.bodyOf Tryz.f74)) Q 638 [(0, .pointer (some ⟨it, 7, none⟩)), (1, iV y), (2, iV m)] F w0 B ((ky 0 16, sL b7 13 c7) :: (ky 0 18, sL b5 (nY y) c5) :: (ky 0 17, sL b4 (nY y) c4) :: (ky 0 15, sL b3 (nY y) c3) ::
   (ky 0 19, .slice (some ⟨b6, 0 + (ywd y).toNat * 1, none⟩) (385 - (ywd y).toNat) (c6 - (ywd y).toNat)) :: (ky 0 14, iV (ywd y)) :: (ky 0 13, iV 0) :: (ky 0 12, iV (Cal.daysTo y * 86400)) ::
   (ky 0 11, iV (365 + Cal.lp (y + 1))) :: (ky 0 10, iV (365 + Cal.lp y)) :: H) ((7, ⟨sL b7 13 c7, 3, 1, 13, (rgY y).map iV⟩) :: (5, ⟨sL b5 (nY y) c5, 3, 1, nY y, (mM y).map iV⟩) :: (4, ⟨sL b4 (nY y) c4, 3, 1, nY y, (mdY y).map iV⟩) :: (3, ⟨sL b3 (nY y) c3, 3, 1, nY y, (mmY y).map iV⟩) ::
   (6, ⟨sL b6 385 c6, 3, 1, 385, (wd 55).map iV⟩) :: S)) : GC Tryz.prog (Go.Fr.part [0, 1, 0] (Go.Fr.bodyOf Tryz.f74)) Q 638 [(0, .pointer (some ⟨it, 7, none⟩)), (1, iV y), (2, iV m)] F w0 B H S := by
 have hdt : 0 <= Cal.daysTo y /\ Cal.daysTo y <= 4000000 := by unfold Cal.daysTo; omega
 have hyw : 0 <= ywd y /\ ywd y <= 6 := by unfold ywd; omega
 have hlp : Cal.lp y = 1 := by unfold Cal.lp; rw [hleap]; rfl
 have hlp2 := Cal.lp_01 (y + 1)
 have emm : mmY y = mQ := by unfold mmY; rw [hleap]; rfl
 have emd : mdY y = m0 := by unfold mdY; rw [hleap]; rfl
 have enm : mM y = j7 := by unfold mM; rw [hleap]; rfl
 have enY : nY y = 373 := by unfold nY; rw [hleap]; rfl
 have erg : rgY y = [0, 31, 60, 91, 121, 152, 182, 213, 244, 274, 305, 335, 366] := by unfold rgY; rw [hleap]; rfl
 refine g4 ?_
 refine gL (cvo (v := iV (Cal.lp y)) rfl (fun w_ s_ => (kQ _ oM w_).mT (cRr rfl)) (g3 ?_))
 refine gL (sto 0 rfl rfl hB h10 (g7 ?_))
 refine gL (cvo (v := iV (Cal.lp (y + 1))) rfl (fun w_ s_ => (kQ _ oM w_).mT (cRr rfl)) (g3 ?_))
 refine gL (sto 0 rfl rfl hB h11 (g12 ?_))
 refine rl (aW 1 rfl hR r39 r40 kR dE) (gL (cvo rfl (fun w_ s_ => dR _ _ w_) (gL (cvo (v := .agg #[iV (Cal.daysTo y * 86400), iV 0]) rfl (fun w_ s_ => (cV y 1 1 0 0 0 0 oM oM oM oM oM oM oM w_).mT (cRr (by rw [pU]))) (g2 ?_)))))
 refine gL (cI 0 rfl rfl hB (rV h12 h13) kR rfl ble (g8 ?_))
 refine rl (aW 0 rfl hB rfl rfl kR dE) (gL (cvo rfl (fun w_ s_ => jV _ _ oM w_) (gL (cvo (v := iV (ywd y)) rfl (fun w_ s_ => (mN _ oM w_).mT (cRr (congrArg _ (aJc y)))) (g2 ?_)))))
 refine gL (sto 0 rfl rfl hB h14 (g3 ?_))
 refine jY (fun i => i == 9) kR (gr 0 rfl (bC rfl) (gr 2 rfl (bC rfl) (gr 3 rfl (bW rfl) (gr 4 rfl (rfa 7) ?_))))
 refine gr 5 rfl (rld 0 rfl hB rfl) (gn 1 rfl (bL 6 (e := 3) (sz := 1) (n := 385) (xs := (wd 55).map iV) dE kR rfl (fun w_ s_ => x8 w_) (fun p6 c6 => gk (kK (fun w s => s.head 6 rfl dE) fun hcap => ?_))))
 obtain ⟨b6, rfl, hc6⟩ := hcap
 refine gn 6 rfl (gI dE (i6 (e := 3) (n := 1) kR rfl rfl oM oM oM) (gk (gn 7 rfl (gI dE (bW rfl) (gk (gn 8 rfl (gI dE (rfa 12) (gk (gn 9 rfl (sto 0 rfl rfl hB h19 (gk (fM kR ?_))))))))))))
 refine g11 ?_
 refine aU rfl (nZ (by rw [hlp]; decide)) ?_
 refine g3 ?_
 refine gL (bL 3 (e := 3) (sz := 1) (n := 373) (xs := mQ.map iV) dE kR rfl (fun w_ s_ => xR w_) (fun p3 c3 => g2 ?_))
 refine gL (sto 0 rfl rfl hB h15 (g5 ?_))
 refine gL (bL 4 (e := 3) (sz := 1) (n := 373) (xs := m0.map iV) dE kR rfl (fun w_ s_ => rY w_) (fun p4 c4 => g2 ?_))
 refine gL (sto 0 rfl rfl hB h17 (g5 ?_))
 refine gL (bL 5 (e := 3) (sz := 1) (n := 373) (xs := j7.map iV) dE kR rfl (fun w_ s_ => pP w_) (fun p5 c5 => g2 ?_))
 refine gL (sto 0 rfl rfl hB h18 (g4 ?_))
 refine gL (bL 7 (e := 3) (sz := 1) (n := 13) (xs := ([0, 31, 60, 91, 121, 152, 182, 213, 244, 274, 305, 335, 366] : List Int).map iV) dE kR rfl (fun w_ s_ => aEk w_) (fun p7 c7 => g2 ?_))
 refine gL (sto 0 rfl rfl hB h16 (g2 ?_))
 refine cQ (fun w s => s.head 3 rfl dE) (fun ⟨b3, hb3, _⟩ => ?_)
 subst hb3
 refine cQ (fun w s => s.head 4 rfl dE) (fun ⟨b4, hb4, _⟩ => ?_)
 subst hb4
 refine cQ (fun w s => s.head 5 rfl dE) (fun ⟨b5, hb5, _⟩ => ?_)
 subst hb5
 refine cQ (fun w s => s.head 7 rfl dE) (fun ⟨b7, hb7, _⟩ => ?_)
 subst hb7
 refine dO (L' := [(0, .pointer (some ⟨it, 7, none⟩)), (1, iV y), (2, iV m)]) kns (fun w s => s) ?_
 have hn_ := hn b6 c6 b3 c3 b4 c4 b5 c5 b7 c7 hc6
 rw [emm, emd, enm, enY, erg] at hn_
 exact hn_
theorem aOb {Q : Exit -> Act -> World -> Prop} (hblind : Blind Q) {it rb : Nat} (hB : lkp 0 B = some it) (hR : lkp 1 B = some rb) (h7 : lkp (ky 0 7) H = some (pT rb)) {d0 d1 : Int} (r39 : lkp (ky 1 39) H = some (iV d0)) (r40 : lkp (ky 1 40) H = some (iV d1)) {v10 : Value} (h10 : lkp (ky 0 10) H = some v10) {v11 : Value} (h11 : lkp (ky 0 11) H = some v11) {v12 : Value} (h12 : lkp (ky 0 12) H = some v12) {v13 : Value} (h13 : lkp (ky 0 13) H = some v13) {v14 : Value} (h14 : lkp (ky 0 14) H = some v14) {v15 : Value} (h15 : lkp (ky 0 15) H = some v15) {v16 : Value} (h16 : lkp (ky 0 16) H = some v16) {v17 : Value} (h17 : lkp (ky 0 17) H = some v17) {v18 : Value} (h18 : lkp (ky 0 18) H = some v18) {v19 : Value} (h19 : lkp (ky 0 19) H = some v19) {y m : Int} (hy1 : 1 <= y /\ y <= 9999) (hn : ∀ b6 c6 b3 c3 b4 c4 b5 c5 b7 c7 : Nat, 385 <= c6 -> GC Tryz.prog (Go.Fr.part [0, 1, 0, 1, 1, 1, 1, 1, 1] (Go.Fr.bodyOf Tryz.f74)) Q 638 [(0, .pointer (some ⟨it, 7, none⟩)), (1, iV y), (2, iV m)] F w0 B ((ky 0 16, sL b7 13 c7) :: (ky 0 18, sL b5 (nY y) c5) :: (ky 0 17, sL b4 (nY y) c4) :: (ky 0 15, sL b3 (nY y) c3) ::
   (ky 0 19, .slice (some ⟨b6, 0 + (ywd y).toNat * 1, none⟩) (385 - (ywd y).toNat) (c6 - (ywd y).toNat)) :: (ky 0 14, iV (ywd y)) :: (ky 0 13, iV 0) :: (ky 0 12, iV (Cal.daysTo y * 86400)) ::
   (ky 0 11, iV (365 + Cal.lp (y + 1))) :: (ky 0 10, iV (365 + Cal.lp y)) :: H) ((7, ⟨sL b7 13 c7, 3, 1, 13, (rgY y).map iV⟩) :: (5, ⟨sL b5 (nY y) c5, 3, 1, nY y, (mM y).map iV⟩) :: (4, ⟨sL b4 (nY y) c4, 3, 1, nY y, (mdY y).map iV⟩) :: (3, ⟨sL b3 (nY y) c3, 3, 1, nY y, (mmY y).map iV⟩) ::
   (6, ⟨sL b6 385 c6, 3, 1, 385, (wd 55).map iV⟩) :: S)) : GC Tryz.prog (Go.Fr.part [0, 1, 0] (Go.Fr.bodyOf Tryz.f74)) Q 638 [(0, .pointer (some ⟨it, 7, none⟩)), (1, iV y), (2, iV m)] F w0 B H S := by
 cases hl : Cal.leapB y with
 | true => exact aJk hblind hB hR h7 r39 r40 h10 h11 h12 h13 h14 h15 h16 h17 h18 h19 hy1 hl hn
 | false => exact aJ1 hblind hB hR h7 r39 r40 h10 h11 h12 h13 h14 h15 h16 h17 h18 h19 hy1 hl hn
theorem aMe {Q : Exit -> Act -> World -> Prop} (hblind : Blind Q) {V : LV} (hV : VOk V) {S0 : LS} {H0 : LV} {r : Ru} {l : Ra} {it rb : Nat} {s : It} {a : Ad} (st : St F w0 S0 H0 it rb r l s a B ((ky 0 9, iV s.lm) :: (ky 0 8, iV s.ly) :: (V ++ H)) S) (hr : RuOk r) (hmk : MkOk r) (hy : 1 <= s.ly /\ s.ly <= 9999) (hn : ∀ a' H' S', St F w0 S0 H0 it rb r l { s with wno := r.wnoF s.ly } a' B ((ky 0 9, iV s.lm) :: (ky 0 8, iV s.ly) :: (V ++ H')) S' -> Kp H' H -> GE Q .normal 638 [(0, .pointer (some ⟨it, 7, none⟩)), (1, iV (s.ly)), (2, iV (s.lm))] F w0 B H' S') : GC Tryz.prog (Go.Fr.part [0, 1, 0, 1, 1, 1, 1, 1, 1] (Go.Fr.bodyOf Tryz.f74)) Q 638 [(0, .pointer (some ⟨it, 7, none⟩)), (1, iV (s.ly)), (2, iV (s.lm))] F w0 B H S := by
 have m0_7 := (eV hV dE dE dE dE).symm.trans st.h7
 have m0_10 := (eV hV dE dE dE dE).symm.trans st.h10
 have m0_14 := (eV hV dE dE dE dE).symm.trans st.h14
 have m0_16 := (eV hV dE dE dE dE).symm.trans st.h16
 have m0_19 := (eV hV dE dE dE dE).symm.trans st.h19
 have m0_20 := (eV hV dE dE dE dE).symm.trans st.h20
 have m0_21 := (eV hV dE dE dE dE).symm.trans st.h21
 have m0_22 := (eV hV dE dE dE dE).symm.trans st.h22
 have m1_38 := (dI hV dE dE).symm.trans st.r38
 have m1_39 := (dI hV dE dE).symm.trans st.r39
 have m1_40 := (dI hV dE dE).symm.trans st.r40
 have m1_42 := (dI hV dE dE).symm.trans st.r42
 have m1_47 := (dI hV dE dE).symm.trans st.r47
 have m1_51 := (dI hV dE dE).symm.trans st.r51
 have m1_53 := (dI hV dE dE).symm.trans st.r53
 have m1_57 := (dI hV dE dE).symm.trans st.r57
 have hl51 := st.hl51
 refine g13 ?_
 by_cases hz : r.aPx.length = 0
 .refine bK rfl (oP oM) ?_
  refine g4 ?_
  refine gL (sto 0 rfl rfl st.hB m0_20 (g1 ?_))
  refine gK kns (fun w s => s) (hn { a with p20 := none, c20 := 0 } _ _ ?_ (Kp.refl _).cons)
  have he : r.wnoF s.ly = [] := by rw [hmk.wnoF]; unfold sM; rw [if_pos hz]
  rw [he]
  exact (sT st (lim := fun _ => (aD7 hV dE st.lim)) (hS8 := fun _ => (fun h => absurd h (Nat.lt_irrefl 0))) (hp20 := fun _ => (fun h => absurd h (Nat.lt_irrefl 0))) (frH := fun _ => (fun k_ h1_ h2_ o_ ho_ => (lkF hV dE oM ho_).trans (st.frH k_ h1_ h2_ o_ ho_))))
 .refine aU rfl (nZ oM) ?_
  refine dO (L' := [(0, .pointer (some ⟨it, 7, none⟩)), (1, iV (s.ly)), (2, iV (s.lm))]) kns (fun w s => s) ?_
  exact aOg blx hV st hr hy hz (hmk.wnoF _) hmk.wk hn
theorem aDk {Q : Exit -> Act -> World -> Prop} {V : LV} (hV : VOk V) {S0 : LS} {H0 : LV} {r : Ru} {l : Ra} {it rb : Nat} {s : It} {a : Ad} (st : St F w0 S0 H0 it rb r l s a B ((ky 0 9, iV s.lm) :: (ky 0 8, iV s.ly) :: (V ++ H)) S) (hr : RuOk r) (hmk : MkOk r) (hy : 1 <= s.ly /\ s.ly <= 9999) {ly0 lm0 : Int} (h8 : lkp (ky 0 8) H = some (iV ly0)) (h9 : lkp (ky 0 9) H = some (iV lm0)) (hlm : 1 <= s.lm /\ s.lm <= 12) (hd : r.nwd.length = 0 -> s.nwm = []) (he : r.aPy.length = 0 -> s.eas = [])
  (hn : ∀ a' H' S', St F w0 S0 H0 it rb r l { s with nwm := (if s.ly = ly0 /\ s.lm = lm0 then s.nwm else r.nwmF s.ly s.lm), eas := r.easF s.ly } a' B ((ky 0 9, iV s.lm) :: (ky 0 8, iV s.ly) :: (V ++ H')) S' -> Kp H' H -> GE Q .normal 638 [] F w0 B ((ky 0 9, iV s.lm) :: (ky 0 8, iV s.ly) :: H') S') : GC Tryz.prog (Go.Fr.part [1] (Go.Fr.bodyOf Tryz.f74)) Q 638 [(0, .pointer (some ⟨it, 7, none⟩)), (1, iV (s.ly)), (2, iV (s.lm))] F w0 B H S := by
 refine g1 ?_
 refine aOu hV st hr h8 h9 hlm hmk.mo (hmk.nwmF _ _) (hmk.nw _ _ hlm) hd (fun a1 H1 S1 st1 e8 => ?_)
 refine g2 ?_
 refine aNv (s := { s with nwm := (if s.ly = ly0 /\ s.lm = lm0 then s.nwm else r.nwmF s.ly s.lm) }) hV st1 hy (hmk.easF _) hmk.ea he (fun a2 H2 S2 st2 f8 => ?_)
 refine g1 ?_
 have hkp := f8.trans e8
 have g8 := (hkp 0 8 dE (.inr (.inl rfl))).trans h8
 have g9 := (hkp 0 9 dE (.inr (.inr (.inl rfl)))).trans h9
 refine g6 ?_
 refine gL (sto 0 rfl rfl st2.hB g8 (g7 ?_))
 refine gL (sto 0 rfl rfl st2.hB g9 (g1 ?_))
 refine gK (fun a q => q.nil) (fun w s => s) (hn a2 _ _ st2 hkp)
def rG (V Hp : LV) (y m : Int) (F : Nat -> Prop) (w0 : World) (S0 : LS) (H0 : LV) (it rb : Nat) (r : Ru) (l : Ra) (s : It) (B : LN) (e : Ending) (w' : World) : Prop :=
 ∃ (a : Ad) (H : LV) (S : LS), e = .returned (.tuple #[]) /\ St F w0 S0 H0 it rb r l s a B ((ky 0 9, iV m) :: (ky 0 8, iV y) :: (V ++ H)) S /\ Kp H Hp /\ Sees F w0 B ((ky 0 9, iV m) :: (ky 0 8, iV y) :: H) S w'
theorem qJ {V : LV} (hV : VOk V) {S0 : LS} {H0 : LV} {r : Ru} {l : Ra} {s : It} {a : Ad} {it rb : Nat} (hB : lkp 0 B = some it) (hR : lkp 1 B = some rb) (h7 : lkp (ky 0 7) H = some (pT rb)) {d0 d1 : Int} (r39 : lkp (ky 1 39) H = some (iV d0)) (r40 : lkp (ky 1 40) H = some (iV d1)) {v10 : Value} (h10 : lkp (ky 0 10) H = some v10) {v11 : Value} (h11 : lkp (ky 0 11) H = some v11) {v12 : Value} (h12 : lkp (ky 0 12) H = some v12) {v13 : Value} (h13 : lkp (ky 0 13) H = some v13) {v14 : Value} (h14 : lkp (ky 0 14) H = some v14) {v15 : Value} (h15 : lkp (ky 0 15) H = some v15) {v16 : Value} (h16 : lkp (ky 0 16) H = some v16) {v17 : Value} (h17 : lkp (ky 0 17) H = some v17) {v18 : Value} (h18 : lkp (ky 0 18) H = some v18) {v19 : Value} (h19 : lkp (ky 0 19) H = some v19) {y m : Int} (hy1 : 1 <= y /\ y <= 9999) (hr : RuOk r) (hmk : MkOk r) (hm : 1 <= m /\ m <= 12) {ly lm : Int} (h8 : lkp (ky 0 8) H = some (iV ly)) (h9 : lkp (ky 0 9) H = some (iV lm)) (hd : r.nwd.length = 0 -> s.nwm = []) (he : r.aPy.length = 0 -> s.eas = [])
  (hS : y = ly -> St F w0 S0 H0 it rb r l { s with ly := y, lm := m } a B ((ky 0 9, iV m) :: (ky 0 8, iV y) :: (V ++ H)) S) (hN : y ≠ ly -> ∀ b6 c6 b3 c3 b4 c4 b5 c5 b7 c7 : Nat, 385 <= c6 -> St F w0 S0 H0 it rb r l { s with ly := y, lm := m } { a with b3 := b3, c3 := c3, b4 := b4, c4 := c4, b5 := b5, c5 := c5, b6 := b6, c6 := c6, b7 := b7, c7 := c7 } B ((ky 0 9, iV m) :: (ky 0 8, iV y) :: (V ++ ((ky 0 16, sL b7 13 c7) :: (ky 0 18, sL b5 (nY y) c5) :: (ky 0 17, sL b4 (nY y) c4) :: (ky 0 15, sL b3 (nY y) c3) ::
   (ky 0 19, .slice (some ⟨b6, 0 + (ywd y).toNat * 1, none⟩) (385 - (ywd y).toNat) (c6 - (ywd y).toNat)) :: (ky 0 14, iV (ywd y)) :: (ky 0 13, iV 0) :: (ky 0 12, iV (Cal.daysTo y * 86400)) ::
   (ky 0 11, iV (365 + Cal.lp (y + 1))) :: (ky 0 10, iV (365 + Cal.lp y)) :: H))) ((7, ⟨sL b7 13 c7, 3, 1, 13, (rgY y).map iV⟩) :: (5, ⟨sL b5 (nY y) c5, 3, 1, nY y, (mM y).map iV⟩) :: (4, ⟨sL b4 (nY y) c4, 3, 1, nY y, (mdY y).map iV⟩) :: (3, ⟨sL b3 (nY y) c3, 3, 1, nY y, (mmY y).map iV⟩) ::
   (6, ⟨sL b6 385 c6, 3, 1, 385, (wd 55).map iV⟩) :: S)) :
  ∀ w, Sees F w0 B H S w -> Calls Tryz.prog 74 #[.pointer (some ⟨it, 7, none⟩), iV y, iV m] w fun e w' => rG V H y m F w0 S0 H0 it rb r l ({ s with ly := y, lm := m, wno := if y = ly then s.wno else r.wnoF y, nwm := if y = ly /\ m = lm then s.nwm else r.nwmF y m, eas := r.easF y }) B e w' := by
 intro w s_
 refine aF (args := [.pointer (some ⟨it, 7, none⟩), iV y, iV m]) (L := [(0, .pointer (some ⟨it, 7, none⟩)), (1, iV y), (2, iV m)]) (N := 638) Tryz.func74 rfl rfl ble rfl s_ (g11 ?_)
 by_cases hy : y = ly
 .refine aU rfl (jA hy) ?_
  refine g2 ?_
  refine dO (L' := [(0, .pointer (some ⟨it, 7, none⟩)), (1, iV y), (2, iV m)]) kns (fun w s => s) ?_
  refine aDk (s := { s with ly := y, lm := m }) (a := a) hV (hS hy) hr hmk hy1 h8 h9 hm hd he (fun a' H' S' st' hk' => ?_)
  refine fI (.inr rfl) rfl fun w_ s_ => ⟨a', H', S', rfl, ?_, hk', s_⟩
  have e1 : (if y = ly then s.wno else r.wnoF y) = s.wno := if_pos hy
  rw [e1]
  exact st'
 .refine bK rfl (iW hy) ?_
  refine dO (L' := [(0, .pointer (some ⟨it, 7, none⟩)), (1, iV y), (2, iV m)]) kns (fun w s => s) ?_
  refine aOb (by repeat (first | exact Blind.body | with_reducible apply Blind.then | with_reducible apply Blind.inBlock)) hB hR h7 r39 r40 h10 h11 h12 h13 h14 h15 h16 h17 h18 h19 hy1 (fun b6 c6 b3 c3 b4 c4 b5 c5 b7 c7 hc6 => ?_)
  refine aMe (s := { s with ly := y, lm := m }) (by repeat (first | exact Blind.body | with_reducible apply Blind.then | with_reducible apply Blind.inBlock)) hV (hN hy b6 c6 b3 c3 b4 c4 b5 c5 b7 c7 hc6) hr hmk hy1 (fun a1 H1 S1 st1 hk1 => ?_)
  refine g1 ?_
  have hk2 := hk1.trans (((((((((((Kp.refl H).cons (j := 10)).cons (j := 11)).cons (j := 12)).cons (j := 13)).cons (j := 14)).cons (j := 19)).cons (j := 15)).cons (j := 17)).cons (j := 18)).cons (j := 16))
  refine aDk (s := { s with ly := y, lm := m, wno := r.wnoF y }) (a := a1) hV st1 hr hmk hy1 ((hk2 0 8 dE (.inr (.inl rfl))).trans h8) ((hk2 0 9 dE (.inr (.inr (.inl rfl)))).trans h9) hm hd he (fun a' H' S' st' hk' => ?_)
  refine fI (.inr rfl) rfl fun w_ s_ => ⟨a', H', S', rfl, ?_, hk'.trans hk2, s_⟩
  have e1 : (if y = ly then s.wno else r.wnoF y) = r.wnoF y := if_neg hy
  rw [e1]
  exact st'
theorem m7 {S0 : LS} {H0 : LV} {r : Ru} {l : Ra} {it rb : Nat} {s : It} {a : Ad} (st : St F w0 S0 H0 it rb r l s a B H S) (hr : RuOk r) (hmk : MkOk r) (hwn : s.wno = r.wnoF s.ly) (hnw : s.nwm = r.nwmF s.ly s.lm) (hea : s.eas = r.easF s.ly) {y m : Int} (hm1 : 1 <= m /\ m <= 12) (hy1 : 1 <= y /\ y <= 9999) :
  ∀ w, Sees F w0 B H S w -> Calls Tryz.prog 74 #[.pointer (some ⟨it, 7, none⟩), iV y, iV m] w fun e w' => rG [] H y m F w0 S0 H0 it rb r l (reb r s y m) B e w' := by
 refine qJ VOk.nil (s := s) (a := a) st.hB st.hR st.h7 st.r39 st.r40 st.h10 st.h11 st.h12 st.h13 st.h14 st.h15 st.h16 st.h17 st.h18 st.h19 hy1 hr hmk hm1 st.h8 st.h9 (fun h => hnw.trans (hr.nwmF0 h _ _)) (fun h => hea.trans (hr.easF0 h _)) (fun hy => ?_) (fun hy b6 c6 b3 c3 b4 c4 b5 c5 b7 c7 h385 => ?_)
 .subst hy
  rw [List.nil_append]
  exact (sT st (lim := fun _ => (st.lim.aPh dE dE).aPh dE dE))
 .rw [List.nil_append]
  exact (sT st (c6 := fun _ => h385))
theorem lP {Q : Exit -> Act -> World -> Prop} {K : Act -> World -> Prop} {N d : Nat} {L : Fr.Loc} {ty : TypeId} {pos : String} {aft : Array Edge} {S0 : LS} {H0 : LV} {it rb : Nat} {r : Ru} {l : Ra} {s : It} {y_ m_ : Int} {f : FuncId} {asl : List Operand} {ats : Array TypeId} {args : List Value} (hd : d < N) (hf : gM Tryz.prog f = true) (ha : Fr.evs L asl = some args)
  (hc : ∀ w, Sees F w0 B H S w -> Calls Tryz.prog f args.toArray w fun e w' => rG [] H y_ m_ F w0 S0 H0 it rb r l s B e w')
  (hn : ∀ a H' S', St F w0 S0 H0 it rb r l s a B H' S' -> GK K N ((d, .tuple #[]) :: L) F w0 B H' S') : GO Tryz.prog ⟨some d, .call ⟨.value (.func f), asl.toArray, ats⟩, ty, pos, aft, none⟩ Q K N L F w0 B H S := fun a w k s => by
 show Oper.upon _ _ _ _ _ _
 rw [oL k hf ha]
 refine (hc w s).mono ?_
 rintro e w' ⟨a', H', S', rfl, hst, _, s'⟩
 exact hn a' _ S' hst _ _ (k.put hd _) s'
theorem oH {Q : Exit -> Act -> World -> Prop} {S0 : LS} {H0 : LV} {r : Ru} {l : Ra} {it rb : Nat} {s : It} {a : Ad} (st : St F w0 S0 H0 it rb r l s a B H S) (hr : RuOk r) (hmk : MkOk r) (hwn : s.wno = r.wnoF s.ly) (hnw : s.nwm = r.nwmF s.ly s.lm) (hea : s.eas = r.easF s.ly) (hd : 1 <= s.d /\ s.d <= 1000000) (hmo : 1 <= s.mo /\ s.mo <= 12) (hy : 1 <= s.y /\ s.y <= 9999) (hly : 1 <= s.ly /\ s.ly <= 9999) (hfin : s.fin = false)
  (hn : ∀ o a' H' S', o = fix r s -> o.fin = false -> St F w0 S0 H0 it rb r l o a' B H' S' -> GE Q .normal 1418 [(0, pT it), (2, pT rb)] F w0 B H' S')
  (hq : ∀ o a' H' S', o = fix r s -> o.fin = true -> St F w0 S0 H0 it rb r l o a' B H' S' -> GE Q .ret 1418 [] F w0 B H' S') : GC Tryz.prog (Go.Fr.part [1, 1, 0, 0, 1, 0, 1, 1, 1, 1, 1, 1, 1, 1] (Go.Fr.bodyOf Tryz.f112)) Q 1418 [(0, pT it), (2, pT rb), (42, .bool true)] F w0 B H S := by
 refine g16 ?_
 refine g1 ?_
 refine aB rfl (fun hc1 => ?_) (fun hc2 => ?_)
 .have h28 : 28 < s.d := oT hc1
  refine g1 ?_
  refine dH 8 kR kR (g9 ?_)
  refine gL (cvo rfl (fun w_ s_ => oX _ _ oM oM w_) (g13 ?_))
  refine aB rfl (fun hc1 => ?_) (fun hc2 => ?_)
  .have hgt : Cal.mdays s.mo s.y < s.d := oT hc1
   have hfix : fix r s = fK r s.d.toNat s := by unfold fix; rw [if_neg oM]
   refine g2 ?_
   refine aY (ι := (Nat) × (It) × (LV)) (fun | ⟨n, s1, H1⟩ => n) (fun | ⟨n, s1, H1⟩ => (fK r n s1 = fK r s.d.toNat s) /\ (1 <= s1.d /\ s1.d <= n /\ n <= 1000000) /\ (1 <= s1.mo /\ s1.mo <= 12) /\ (1 <= s1.y /\ s1.y <= 9999) /\ (s1.ly = s.ly /\ s1.lm = s.lm /\ s1.wno = s.wno /\ s1.nwm = s.nwm /\ s1.eas = s.eas /\ s1.fin = s.fin) /\ (St F w0 S0 H0 it rb r l s1 a B H1 S)) (fun | ⟨n, s1, H1⟩ => [(0, pT it), (2, pT rb), (51, iV (Cal.mdays s1.mo s1.y))]) (fun _ => B) (fun | ⟨n, s1, H1⟩ => H1) (fun _ => S) ⟨s.d.toNat, s, H⟩ ⟨rfl, by omega, hmo, hy, ⟨rfl, rfl, rfl, rfl, rfl, rfl⟩, st⟩ kns (fun w s => by exact s) ?_
   rintro ⟨n, s1, H1⟩ ⟨hgo, hnd, hmo1, hy1, hsm, hst⟩
   refine dS ?_
   obtain ⟨m, rfl⟩ : ∃ m, n = m + 1 := ⟨n - 1, by omega⟩
   have hmd := Cal.mdays_bd s1.mo s1.y
   have hfin1 : s1.fin = false := hsm.2.2.2.2.2.trans hfin
   refine g11 ?_
   refine aB rfl (fun hc1 => ?_) (fun hc2 => ?_)
   .have hgt1 : Cal.mdays s1.mo s1.y < s1.d := oT hc1
    refine g13 ?_
    refine gL (sto 0 rfl rfl hst.hB hst.h2 (g11 ?_))
    refine gL (sto 0 rfl rfl hst.hB hst.h1 (g12 ?_))
    refine aB rfl (fun hc1 => ?_) (fun hc2 => ?_)
    .have h13 : s1.mo + 1 = 13 := beq_iff_eq.1 hc1
     refine g5 ?_
     refine gL (sto 0 rfl rfl hst.hB rfl (g11 ?_))
     refine gL (sto 0 rfl rfl hst.hB hst.h0 (g11 ?_))
     refine aB rfl (fun hc1 => ?_) (fun hc2 => ?_)
     .have hbig : 9999 < s1.y + 1 := oT hc1
      have hfg : fK r s.d.toNat s = { s1 with d := s1.d - Cal.mdays s1.mo s1.y, mo := 1, y := s1.y + 1, fin := true } := by rw [<- hgo]; simp only [fK]; rw [if_neg oM, if_pos h13, if_pos hbig]
      refine g9 ?_
      refine gL (sto 1 rfl rfl hst.hR hst.r59 (g7 ?_))
      refine gL (sto 0 rfl rfl hst.hB hst.h28 (g8 ?_))
      refine gK (fun a q => q.nil) (fun w s => s) (hq ({ s1 with d := s1.d - Cal.mdays s1.mo s1.y, mo := 1, y := s1.y + 1, fin := true }) ({ a with ln := iV s1.aP3 }) _ _ (hfg.symm.trans hfix.symm) (rfl) (sT hst))
     .have hbig : ¬ 9999 < s1.y + 1 := oF hc2
      have hgo1 : fK r m ({ s1 with d := s1.d - Cal.mdays s1.mo s1.y, mo := 1, y := s1.y + 1 }) = fK r s.d.toNat s := by rw [<- hgo]; conv => rhs; simp only [fK]; rw [if_neg oM, if_pos h13, if_neg hbig]
      refine g2 ?_
      refine dH 8 kR kR (g9 ?_)
      refine gL (cvo rfl (fun w_ s_ => oX _ _ oM oM w_) (g3 ?_))
      refine aN ⟨m, ({ s1 with d := s1.d - Cal.mdays s1.mo s1.y, mo := 1, y := s1.y + 1 } : It), (ky 0 0, iV (s1.y + 1)) :: (ky 0 1, iV 1) :: (ky 0 1, iV (s1.mo + 1)) :: (ky 0 2, iV (s1.d - Cal.mdays s1.mo s1.y)) :: H1⟩ sO ⟨hgo1, by simp only; omega, by simp only; omega, by simp only; omega, hsm, (sT hst)⟩ kns (fun w s => by exact s)
    .have h13 : s1.mo + 1 ≠ 13 := beq_eq_false_iff_ne.1 hc2
     have hgo1 : fK r m ({ s1 with d := s1.d - Cal.mdays s1.mo s1.y, mo := s1.mo + 1 }) = fK r s.d.toNat s := by rw [<- hgo]; conv => rhs; simp only [fK]; rw [if_neg oM, if_neg h13]
     refine g2 ?_
     refine dH 8 kR kR (g9 ?_)
     refine gL (cvo rfl (fun w_ s_ => oX _ _ oM oM w_) (g3 ?_))
     refine aN ⟨m, ({ s1 with d := s1.d - Cal.mdays s1.mo s1.y, mo := s1.mo + 1 } : It), (ky 0 1, iV (s1.mo + 1)) :: (ky 0 2, iV (s1.d - Cal.mdays s1.mo s1.y)) :: H1⟩ sO ⟨hgo1, by simp only; omega, by simp only; omega, hy1, hsm, (sT hst)⟩ kns (fun w s => by exact s)
   .have hgt1 : ¬ Cal.mdays s1.mo s1.y < s1.d := oF hc2
    have hfg : fK r s.d.toNat s = reb r s1 s1.y s1.mo := by rw [<- hgo]; simp only [fK]; rw [if_pos oM]
    refine g5 ?_
    refine dH 11 kR kR (g12 ?_)
    refine gL (lP (it := it) (rb := rb) (r := r) (l := l) (s := reb r (s1) s1.y s1.mo) dE kR rfl (m7 hst hr hmk (by rw [hsm.2.2.1, hsm.1]; exact hwn) (by rw [hsm.2.2.2.1, hsm.1, hsm.2.1]; exact hnw) (by rw [hsm.2.2.2.2.1, hsm.1]; exact hea) hmo1 oM) (fun a2 H2 S2 st2 => g1 ?_))
    refine gK kns (fun w s => s) (hn (reb r s1 s1.y s1.mo) (a2) _ _ (hfg.symm.trans hfix.symm) (hfin1) st2)
  .have hgt : ¬ Cal.mdays s.mo s.y < s.d := oF hc2
   have hfix : fix r s = s := by unfold fix; rw [if_pos (.inr oM)]
   refine g1 ?_
   refine gK kns (fun w s => s) (hn (s) (a) _ _ (hfix.symm) (hfin) st)
 .have h28 : ¬ 28 < s.d := oF hc2
  have hfix : fix r s = s := by unfold fix; rw [if_pos (.inl oM)]
  refine g1 ?_
  refine gK kns (fun w s => s) (hn (s) (a) _ _ (hfix.symm) (hfin) st)
theorem aDz {Q : Exit -> Act -> World -> Prop} {S0 : LS} {H0 : LV} {r : Ru} {l : Ra} {it rb : Nat} {s : It} {a : Ad} (st : St F w0 S0 H0 it rb r l s a B H S) (hr : RuOk r) (hmk : MkOk r) (hwn : s.wno = r.wnoF s.ly) (hnw : s.nwm = r.nwmF s.ly s.lm) (hea : s.eas = r.easF s.ly) (hy : 1 <= s.y /\ s.y <= 9999) (hmo : 1 <= s.mo /\ s.mo <= 12) (hd : 1 <= s.d /\ s.d <= 31) (hwd : 0 <= s.wd /\ s.wd <= 6) (hly : 1 <= s.ly /\ s.ly <= 9999) (hfin : s.fin = false) (hfr : r.aP2 = 0) {flt : Bool}
  (hn : ∀ o a' H' S', o = adv r flt s -> o.fin = false -> St F w0 S0 H0 it rb r l o a' B H' S' -> GE Q .normal 1418 [(0, pT it), (2, pT rb)] F w0 B H' S')
  (hq : ∀ o a' H' S', o = adv r flt s -> o.fin = true -> St F w0 S0 H0 it rb r l o a' B H' S' -> GE Q .ret 1418 [] F w0 B H' S') : GC Tryz.prog (Go.Fr.part [1, 1, 0, 0, 1, 0, 1, 1, 1, 1, 1, 1] (Go.Fr.bodyOf Tryz.f112)) Q 1418 [(0, pT it), (2, pT rb), (6, .bool flt)] F w0 B H S := by
 have hiv := hr.aPp
 have hwk := hr.aPq
 refine g12 ?_
 refine rl ((aQ rfl rfl).to (v' := .bool true) (cB (by rw [hfr]; rfl))) (g2 ?_)
 refine bK rfl rfl ?_
 refine g1 ?_
 refine dH 11 kR kR (g12 ?_)
 refine gL (sto 0 rfl rfl st.hB st.h0 (g12 ?_))
 refine aB rfl (fun hc1 => ?_) (fun hc2 => ?_)
 .have hbig : 9999 < s.y + r.aPp := oT hc1
  have hadv : adv r flt s = { s with y := s.y + r.aPp, fin := true } := by unfold adv; rw [if_pos hfr, if_pos hbig]
  refine g9 ?_
  refine gL (sto 1 rfl rfl st.hR st.r59 (g7 ?_))
  refine gL (sto 0 rfl rfl st.hB st.h28 (g5 ?_))
  refine gK (fun a q => q.nil) (fun w s => s) (hq ({ s with y := s.y + r.aPp, fin := true }) ({ a with ln := iV s.aP3 }) _ _ (hadv.symm) (rfl) (sT st))
 .have hbig : ¬ 9999 < s.y + r.aPp := oF hc2
  have hadv : adv r flt s = reb r { s with y := s.y + r.aPp } (s.y + r.aPp) s.mo := by unfold adv; rw [if_pos hfr, if_neg hbig]
  refine g2 ?_
  refine dH 11 kR kR (g12 ?_)
  refine gL (lP (it := it) (rb := rb) (r := r) (l := l) (s := reb r ({ s with y := s.y + r.aPp }) (s.y + r.aPp) s.mo) dE kR rfl (m7 ((sT st) : St F w0 S0 H0 it rb r l { s with y := s.y + r.aPp } a B ((ky 0 0, iV (s.y + r.aPp)) :: H) S) hr hmk hwn hnw hea hmo oM) (fun a2 H2 S2 st2 => xH ?_))
  refine gK kns (fun w s => s) (hn (reb r { s with y := s.y + r.aPp } (s.y + r.aPp) s.mo) (a2) _ _ (hadv.symm) (hfin) st2)
theorem aDs {Q : Exit -> Act -> World -> Prop} {S0 : LS} {H0 : LV} {r : Ru} {l : Ra} {it rb : Nat} {s : It} {a : Ad} (st : St F w0 S0 H0 it rb r l s a B H S) (hr : RuOk r) (hmk : MkOk r) (hwn : s.wno = r.wnoF s.ly) (hnw : s.nwm = r.nwmF s.ly s.lm) (hea : s.eas = r.easF s.ly) (hy : 1 <= s.y /\ s.y <= 9999) (hmo : 1 <= s.mo /\ s.mo <= 12) (hd : 1 <= s.d /\ s.d <= 31) (hwd : 0 <= s.wd /\ s.wd <= 6) (hly : 1 <= s.ly /\ s.ly <= 9999) (hfin : s.fin = false) (hfr : r.aP2 = 1) {flt : Bool}
  (hn : ∀ o a' H' S', o = adv r flt s -> o.fin = false -> St F w0 S0 H0 it rb r l o a' B H' S' -> GE Q .normal 1418 [(0, pT it), (2, pT rb)] F w0 B H' S')
  (hq : ∀ o a' H' S', o = adv r flt s -> o.fin = true -> St F w0 S0 H0 it rb r l o a' B H' S' -> GE Q .ret 1418 [] F w0 B H' S') : GC Tryz.prog (Go.Fr.part [1, 1, 0, 0, 1, 0, 1, 1, 1, 1, 1, 1] (Go.Fr.bodyOf Tryz.f112)) Q 1418 [(0, pT it), (2, pT rb), (6, .bool flt)] F w0 B H S := by
 have hiv := hr.aPp
 have hwk := hr.aPq
 refine g12 ?_
 refine wZ9 ((aQ rfl rfl).to (v' := .bool false) (cB (by rw [hfr]; rfl))) ?_
 refine rl ((aQ rfl rfl).to (v' := .bool true) (cB (by rw [hfr]; rfl))) (g2 ?_)
 refine bK rfl rfl ?_
 refine g1 ?_
 refine dH 11 kR kR (g12 ?_)
 refine gL (sto 0 rfl rfl st.hB st.h1 (g12 ?_))
 refine aB rfl (fun hc1 => ?_) (fun hc2 => ?_)
 .have hgt : 12 < (s.mo + r.aPp) := oT hc1
  refine g6 ?_
  refine gL (cvo rfl (fun w_ s_ => gG _ _ oM oM w_) (g13 ?_))
  refine gL (sto 0 rfl rfl st.hB rfl (g12 ?_))
  refine gL (sto 0 rfl rfl st.hB st.h0 (g12 ?_))
  refine aB rfl (fun hc1 => ?_) (fun hc2 => ?_)
  .have hz : (s.mo + r.aPp) % 12 = 0 := beq_iff_eq.1 hc1
   refine g5 ?_
   refine gL (sto 0 rfl rfl st.hB rfl (g10 ?_))
   refine gL (sto 0 rfl rfl st.hB rfl (g11 ?_))
   refine aB rfl (fun hc1 => ?_) (fun hc2 => ?_)
   .have hbig := oT hc1
    have hadv : adv r flt s = { s with y := s.y + (s.mo + r.aPp) / 12 - 1, mo := 12, fin := true } := by unfold adv; rw [if_neg oM, if_pos hfr]; simp only []; simp only [if_neg (show ¬ (s.mo + r.aPp) <= 12 by omega), if_pos hz]; rw [if_pos oM]
    refine g9 ?_
    refine gL (sto 1 rfl rfl st.hR st.r59 (g7 ?_))
    refine gL (sto 0 rfl rfl st.hB st.h28 (g5 ?_))
    refine gK (fun a q => q.nil) (fun w s => s) (hq ({ s with y := s.y + (s.mo + r.aPp) / 12 - 1, mo := 12, fin := true }) ({ a with ln := iV s.aP3 }) _ _ (hadv.symm) (rfl) (sT st))
   .have hbig := oF hc2
    have hadv : adv r flt s = reb r { s with y := s.y + (s.mo + r.aPp) / 12 - 1, mo := 12 } (s.y + (s.mo + r.aPp) / 12 - 1) 12 := by unfold adv; rw [if_neg oM, if_pos hfr]; simp only []; simp only [if_neg (show ¬ (s.mo + r.aPp) <= 12 by omega), if_pos hz]; rw [if_neg oM]
    refine g2 ?_
    refine dH 11 kR kR (g12 ?_)
    refine gL (lP (it := it) (rb := rb) (r := r) (l := l) (s := reb r ({ s with y := s.y + (s.mo + r.aPp) / 12 - 1, mo := 12 }) (s.y + (s.mo + r.aPp) / 12 - 1) 12) dE kR rfl (m7 ((sT st) : St F w0 S0 H0 it rb r l { s with y := s.y + (s.mo + r.aPp) / 12 - 1, mo := 12 } a B ((ky 0 0, iV (s.y + (s.mo + r.aPp) / 12 - 1)) :: (ky 0 1, iV 12) :: (ky 0 0, iV (s.y + (s.mo + r.aPp) / 12)) :: (ky 0 1, iV ((s.mo + r.aPp) % 12)) :: (ky 0 1, iV (s.mo + r.aPp)) :: H) S) hr hmk hwn hnw hea oM oM) (fun a2 H2 S2 st2 => xH ?_))
    refine gK kns (fun w s => s) (hn (reb r { s with y := s.y + (s.mo + r.aPp) / 12 - 1, mo := 12 } (s.y + (s.mo + r.aPp) / 12 - 1) 12) (a2) _ _ (hadv.symm) (hfin) st2)
  .have hz : ¬ (s.mo + r.aPp) % 12 = 0 := beq_eq_false_iff_ne.1 hc2
   refine g11 ?_
   refine aB rfl (fun hc1 => ?_) (fun hc2 => ?_)
   .have hbig := oT hc1
    have hadv : adv r flt s = { s with y := s.y + (s.mo + r.aPp) / 12, mo := ((s.mo + r.aPp) % 12), fin := true } := by unfold adv; rw [if_neg oM, if_pos hfr]; simp only []; simp only [if_neg (show ¬ (s.mo + r.aPp) <= 12 by omega), if_neg hz]; rw [if_pos oM]
    refine g9 ?_
    refine gL (sto 1 rfl rfl st.hR st.r59 (g7 ?_))
    refine gL (sto 0 rfl rfl st.hB st.h28 (g5 ?_))
    refine gK (fun a q => q.nil) (fun w s => s) (hq ({ s with y := s.y + (s.mo + r.aPp) / 12, mo := ((s.mo + r.aPp) % 12), fin := true }) ({ a with ln := iV s.aP3 }) _ _ (hadv.symm) (rfl) (sT st))
   .have hbig := oF hc2
    have hadv : adv r flt s = reb r { s with y := s.y + (s.mo + r.aPp) / 12, mo := ((s.mo + r.aPp) % 12) } (s.y + (s.mo + r.aPp) / 12) ((s.mo + r.aPp) % 12) := by unfold adv; rw [if_neg oM, if_pos hfr]; simp only []; simp only [if_neg (show ¬ (s.mo + r.aPp) <= 12 by omega), if_neg hz]; rw [if_neg oM]
    refine g2 ?_
    refine dH 11 kR kR (g12 ?_)
    refine gL (lP (it := it) (rb := rb) (r := r) (l := l) (s := reb r ({ s with y := s.y + (s.mo + r.aPp) / 12, mo := ((s.mo + r.aPp) % 12) }) (s.y + (s.mo + r.aPp) / 12) ((s.mo + r.aPp) % 12)) dE kR rfl (m7 ((sT st) : St F w0 S0 H0 it rb r l { s with y := s.y + (s.mo + r.aPp) / 12, mo := ((s.mo + r.aPp) % 12) } a B ((ky 0 0, iV (s.y + (s.mo + r.aPp) / 12)) :: (ky 0 1, iV ((s.mo + r.aPp) % 12)) :: (ky 0 1, iV (s.mo + r.aPp)) :: H) S) hr hmk hwn hnw hea oM oM) (fun a2 H2 S2 st2 => xH ?_))
    refine gK kns (fun w s => s) (hn (reb r { s with y := s.y + (s.mo + r.aPp) / 12, mo := ((s.mo + r.aPp) % 12) } (s.y + (s.mo + r.aPp) / 12) ((s.mo + r.aPp) % 12)) (a2) _ _ (hadv.symm) (hfin) st2)
 .have hgt : ¬ 12 < (s.mo + r.aPp) := oF hc2
  have hadv : adv r flt s = reb r { s with y := s.y, mo := (s.mo + r.aPp) } (s.y) (s.mo + r.aPp) := by unfold adv; rw [if_neg oM, if_pos hfr]; simp only []; simp only [if_pos (show (s.mo + r.aPp) <= 12 by omega)]; rw [if_neg oM]
  refine g2 ?_
  refine dH 11 kR kR (g12 ?_)
  refine gL (lP (it := it) (rb := rb) (r := r) (l := l) (s := reb r ({ s with y := s.y, mo := (s.mo + r.aPp) }) (s.y) (s.mo + r.aPp)) dE kR rfl (m7 ((sT st) : St F w0 S0 H0 it rb r l { s with y := s.y, mo := (s.mo + r.aPp) } a B ((ky 0 1, iV (s.mo + r.aPp)) :: H) S) hr hmk hwn hnw hea oM oM) (fun a2 H2 S2 st2 => xH ?_))
  refine gK kns (fun w s => s) (hn (reb r { s with y := s.y, mo := (s.mo + r.aPp) } (s.y) (s.mo + r.aPp)) (a2) _ _ (hadv.symm) (hfin) st2)
theorem aHa {Q : Exit -> Act -> World -> Prop} {S0 : LS} {H0 : LV} {r : Ru} {l : Ra} {it rb : Nat} {s : It} {a : Ad} (st : St F w0 S0 H0 it rb r l s a B H S) (hr : RuOk r) (hmk : MkOk r) (hwn : s.wno = r.wnoF s.ly) (hnw : s.nwm = r.nwmF s.ly s.lm) (hea : s.eas = r.easF s.ly) (hy : 1 <= s.y /\ s.y <= 9999) (hmo : 1 <= s.mo /\ s.mo <= 12) (hd : 1 <= s.d /\ s.d <= 31) (hwd : 0 <= s.wd /\ s.wd <= 6) (hly : 1 <= s.ly /\ s.ly <= 9999) (hfin : s.fin = false) (hfr : r.aP2 = 3) {flt : Bool}
  (hn : ∀ o a' H' S', o = adv r flt s -> o.fin = false -> St F w0 S0 H0 it rb r l o a' B H' S' -> GE Q .normal 1418 [(0, pT it), (2, pT rb)] F w0 B H' S')
  (hq : ∀ o a' H' S', o = adv r flt s -> o.fin = true -> St F w0 S0 H0 it rb r l o a' B H' S' -> GE Q .ret 1418 [] F w0 B H' S') : GC Tryz.prog (Go.Fr.part [1, 1, 0, 0, 1, 0, 1, 1, 1, 1, 1, 1] (Go.Fr.bodyOf Tryz.f112)) Q 1418 [(0, pT it), (2, pT rb), (6, .bool flt)] F w0 B H S := by
 have hiv := hr.aPp
 have hwk := hr.aPq
 refine g12 ?_
 refine wZ9 ((aQ rfl rfl).to (v' := .bool false) (cB (by rw [hfr]; rfl))) ?_
 refine wZ9 ((aQ rfl rfl).to (v' := .bool false) (cB (by rw [hfr]; rfl))) ?_
 refine wZ9 ((aQ rfl rfl).to (v' := .bool false) (cB (by rw [hfr]; rfl))) ?_
 refine rl ((aQ rfl rfl).to (v' := .bool true) (cB (by rw [hfr]; rfl))) (g2 ?_)
 refine bK rfl rfl ?_
 refine g1 ?_
 refine dH 11 kR kR (g12 ?_)
 refine gL (sto 0 rfl rfl st.hB st.h2 (g6 ?_))
 refine dO (L' := [(0, pT it), (2, pT rb), (42, .bool true)]) kns (fun w s => s) ?_
 have hadv : adv r flt s = fix r { s with d := s.d + r.aPp } := by unfold adv; rw [if_neg oM, if_neg oM, if_neg oM, if_pos hfr]
 refine oH (s := { s with d := s.d + r.aPp }) (a := a) (H := (ky 0 2, iV (s.d + r.aPp)) :: H) ((sT st) : St F w0 S0 H0 it rb r l { s with d := s.d + r.aPp } a B ((ky 0 2, iV (s.d + r.aPp)) :: H) S) hr hmk hwn hnw hea sO hmo hy hly hfin (fun o a' H' S' ho => hn o a' H' S' (ho.trans hadv.symm)) (fun o a' H' S' ho => hq o a' H' S' (ho.trans hadv.symm))
theorem aE6 {Q : Exit -> Act -> World -> Prop} {S0 : LS} {H0 : LV} {r : Ru} {l : Ra} {it rb : Nat} {s : It} {a : Ad} (st : St F w0 S0 H0 it rb r l s a B H S) (hr : RuOk r) (hmk : MkOk r) (hwn : s.wno = r.wnoF s.ly) (hnw : s.nwm = r.nwmF s.ly s.lm) (hea : s.eas = r.easF s.ly) (hy : 1 <= s.y /\ s.y <= 9999) (hmo : 1 <= s.mo /\ s.mo <= 12) (hd : 1 <= s.d /\ s.d <= 31) (hwd : 0 <= s.wd /\ s.wd <= 6) (hly : 1 <= s.ly /\ s.ly <= 9999) (hfin : s.fin = false) (hfr : r.aP2 = 2) {flt : Bool}
  (hn : ∀ o a' H' S', o = adv r flt s -> o.fin = false -> St F w0 S0 H0 it rb r l o a' B H' S' -> GE Q .normal 1418 [(0, pT it), (2, pT rb)] F w0 B H' S')
  (hq : ∀ o a' H' S', o = adv r flt s -> o.fin = true -> St F w0 S0 H0 it rb r l o a' B H' S' -> GE Q .ret 1418 [] F w0 B H' S') : GC Tryz.prog (Go.Fr.part [1, 1, 0, 0, 1, 0, 1, 1, 1, 1, 1, 1] (Go.Fr.bodyOf Tryz.f112)) Q 1418 [(0, pT it), (2, pT rb), (6, .bool flt)] F w0 B H S := by
 have hiv := hr.aPp
 have hwk := hr.aPq
 refine g12 ?_
 refine wZ9 ((aQ rfl rfl).to (v' := .bool false) (cB (by rw [hfr]; rfl))) ?_
 refine wZ9 ((aQ rfl rfl).to (v' := .bool false) (cB (by rw [hfr]; rfl))) ?_
 refine rl ((aQ rfl rfl).to (v' := .bool true) (cB (by rw [hfr]; rfl))) (uC ?_)
 refine aB rfl (fun hc1 => ?_) (fun hc2 => ?_)
 .have hlt : s.wd < r.aPq := oT hc1
  refine dH 25 kR kR (g25 ?_)
  refine g1 ?_
  refine gL (sto 0 rfl rfl st.hB st.h2 (g11 ?_))
  refine gL (sto 0 rfl rfl st.hB st.h6 (g6 ?_))
  refine dO (L' := [(0, pT it), (2, pT rb), (42, .bool true)]) kns (fun w s => s) ?_
  have hadv : adv r flt s = fix r { s with d := s.d + (-(s.wd + 1 + (6 - r.aPq)) + r.aPp * 7), wd := r.aPq } := by unfold adv; rw [if_neg oM, if_neg oM, if_pos hfr, if_pos hlt]
  refine oH (s := { s with d := s.d + (-(s.wd + 1 + (6 - r.aPq)) + r.aPp * 7), wd := r.aPq }) (a := a) (H := (ky 0 6, iV r.aPq) :: (ky 0 2, iV (s.d + (-(s.wd + 1 + (6 - r.aPq)) + r.aPp * 7))) :: H) ((sT st) : St F w0 S0 H0 it rb r l { s with d := s.d + (-(s.wd + 1 + (6 - r.aPq)) + r.aPp * 7), wd := r.aPq } a B ((ky 0 6, iV r.aPq) :: (ky 0 2, iV (s.d + (-(s.wd + 1 + (6 - r.aPq)) + r.aPp * 7))) :: H) S) hr hmk hwn hnw hea sO hmo hy hly hfin (fun o a' H' S' ho => hn o a' H' S' (ho.trans hadv.symm)) (fun o a' H' S' ho => hq o a' H' S' (ho.trans hadv.symm))
 .have hlt : ¬ s.wd < r.aPq := oF hc2
  refine dH 23 kR kR (g20 ?_)
  refine g4 ?_
  refine gL (sto 0 rfl rfl st.hB st.h2 (g11 ?_))
  refine gL (sto 0 rfl rfl st.hB st.h6 (g6 ?_))
  refine dO (L' := [(0, pT it), (2, pT rb), (42, .bool true)]) kns (fun w s => s) ?_
  have hadv : adv r flt s = fix r { s with d := s.d + (-(s.wd - r.aPq) + r.aPp * 7), wd := r.aPq } := by unfold adv; rw [if_neg oM, if_neg oM, if_pos hfr, if_neg hlt]
  refine oH (s := { s with d := s.d + (-(s.wd - r.aPq) + r.aPp * 7), wd := r.aPq }) (a := a) (H := (ky 0 6, iV r.aPq) :: (ky 0 2, iV (s.d + (-(s.wd - r.aPq) + r.aPp * 7))) :: H) ((sT st) : St F w0 S0 H0 it rb r l { s with d := s.d + (-(s.wd - r.aPq) + r.aPp * 7), wd := r.aPq } a B ((ky 0 6, iV r.aPq) :: (ky 0 2, iV (s.d + (-(s.wd - r.aPq) + r.aPp * 7))) :: H) S) hr hmk hwn hnw hea sO hmo hy hly hfin (fun o a' H' S' ho => hn o a' H' S' (ho.trans hadv.symm)) (fun o a' H' S' ho => hq o a' H' S' (ho.trans hadv.symm))
theorem aF3 {r : Ru} {n : Nat} {s sEnd : It} (h : Gen r n s sEnd) (hr : s.rem = []) (hf : (eS r s).fin = true) : sEnd = eS r s := by
 cases h with
 | done h => exact absurd hr h
 | fin _ _ => rfl
 | more _ h _ => rw [hf] at h; cases h
theorem aKg {r : Ru} {n : Nat} {s sEnd : It} (h : Gen r n s sEnd) (hr : s.rem = []) (hf : (eS r s).fin = false) : ∃ m, m < n /\ Gen r m (eS r s) sEnd := by
 cases h with
 | done h => exact absurd hr h
 | fin _ h => rw [hf] at h; cases h
 | more _ _ h => exact ⟨_, Nat.lt_succ_self _, h⟩
theorem aJp {r : Ru} {n : Nat} {s sEnd : It} (h : Gen r n s sEnd) (hr : s.rem ≠ []) : sEnd = s := by
 cases h with
 | done _ => rfl
 | fin h _ => exact absurd h hr
 | more h _ _ => exact absurd h hr
theorem rI {r : Ru} {s : It} (h : (out r s).fin = true) : eS r s = out r s := by unfold eS; rw [if_pos h]
theorem mJ {r : Ru} {s : It} (h : (out r s).fin = false) : eS r s = adv r (cS r s) (out r s) := by unfold eS; rw [if_neg (by rw [h]; decide)]
def aLb (r : Ru) : Prop := ∀ (F : Nat -> Prop) (w0 : World) (B : LN) (H : LV) (S S0 : LS) (H0 : LV) (l : Ra) (it rb : Nat) (s : It) (a : Ad) (Q : Exit -> Act -> World -> Prop) (flt : Bool), St F w0 S0 H0 it rb r l s a B H S -> ∀ s0, ItOk r s0 -> Same s0 s -> s.fin = false ->
  ∀ (hn : ∀ o a' H' S', o = adv r flt s -> o.fin = false -> St F w0 S0 H0 it rb r l o a' B H' S' -> GE Q .normal 1418 [(0, pT it), (2, pT rb)] F w0 B H' S')
  (hq : ∀ o a' H' S', o = adv r flt s -> o.fin = true -> St F w0 S0 H0 it rb r l o a' B H' S' -> GE Q .ret 1418 [] F w0 B H' S'), GC Tryz.prog (Go.Fr.part [1, 1, 0, 0, 1, 0, 1, 1, 1, 1, 1, 1] (Go.Fr.bodyOf Tryz.f112)) Q 1418 [(0, pT it), (2, pT rb), (6, .bool flt)] F w0 B H S
structure Plain (r : Ru) : Prop where
 setl : r.aPz.length <= 1000
 setb : ∀ q ∈ r.aPz, -1000 <= q /\ q <= 1000
 adv : aLb r
theorem aB5 {S0 : LS} {H0 : LV} {r : Ru} {l : Ra} {it rb : Nat} {s : It} {a : Ad} (st : St F w0 S0 H0 it rb r l s a B H S) (hfin : s.fin = true) : ∀ w, Sees F w0 B H S w -> Calls Tryz.prog 112 #[pT it] w fun e w' => e = .returned (.tuple #[]) /\ ∃ a H' S', St F w0 S0 H0 it rb r l s a B H' S' /\ Sees F w0 B H' S' w' := by
 intro w s
 refine aF (args := [pT it]) (L := [(0, pT it)]) (N := 1418) Tryz.func112 rfl rfl ble rfl s (g9 ?_)
 refine bK rfl hfin ?_
 refine g2 ?_
 refine fI (.inl rfl) rfl fun w s => ⟨rfl, a, _, _, st, s⟩
theorem xC {S0 : LS} {H0 : LV} {r : Ru} {l : Ra} {it rb : Nat} {s : It} {a : Ad} (st : St F w0 S0 H0 it rb r l s a B H S) (hr : RuOk r) (hp : Plain r) {n : Nat} {sEnd : It} (hG : Gen r n s sEnd) (hk : ItOk r s) (hfin : s.fin = false)
  (hpres : ∀ s, ItOk r s -> s.rem = [] -> s.fin = false -> (eS r s).fin = false -> ItOk r (eS r s)) : ∀ w, Sees F w0 B H S w -> Calls Tryz.prog 112 #[pT it] w fun e w' => e = .returned (.tuple #[]) /\ ∃ a H' S', St F w0 S0 H0 it rb r l sEnd a B H' S' /\ Sees F w0 B H' S' w' := by
 intro w s_
 refine aF (args := [pT it]) (L := [(0, pT it)]) (N := 1418) Tryz.func112 rfl rfl ble rfl s_ (g9 ?_)
 refine aU rfl hfin ?_
 refine g13 ?_
 refine aY (ι := (Nat) × (It) × (Ad) × (LV) × (LS)) (fun | ⟨n1, s1, a1, H1, S1⟩ => n1) (fun | ⟨n1, s1, a1, H1, S1⟩ => (Gen r n1 s1 sEnd) /\ (ItOk r s1) /\ (s1.fin = false) /\ (St F w0 S0 H0 it rb r l s1 a1 B H1 S1)) (fun _ => [(0, pT it), (2, pT rb)]) (fun _ => B) (fun | ⟨n1, s1, a1, H1, S1⟩ => H1) (fun | ⟨n1, s1, a1, H1, S1⟩ => S1) ⟨n, s, a, H, S⟩ ⟨hG, hk, hfin, st⟩ kns (fun w s => by exact s) ?_
 rintro ⟨n1, s1, a1, H1, S1⟩ ⟨hG1, hk1, hf1, st1⟩
 refine dS ?_
 refine g6 ?_
 refine rl (aW 0 rfl st1.hB st1.h26 st1.h27 kR dE) (gL (oQ (v := iV (s1.rem.length : Int)) dE kR rfl (aHi (st1.lim.mono dE)) (g3 ?_)))
 refine aB rfl (fun hc1 => ?_) (fun hc2 => ?_)
 .have hrem : s1.rem = [] := List.eq_nil_of_length_eq_zero (by have := beq_iff_eq.1 hc1; omega)
  refine g3 ?_
  refine dO (L' := [(0, pT it), (2, pT rb)]) kns (fun w s => s) ?_
  refine aDb (B := B) (H := H1) (S := S1) ?_ st1 hr hk1 hrem hf1 hp.setl hp.setb (fun o a' H' S' ho hof hsm st' => ?_) (fun o a' H' S' ho hof hsm st' => ?_)
  .exact Blind.inBlock (Blind.then (Blind.inBlock Blind.body))
  .refine hp.adv F w0 B H' S' _ _ _ _ _ _ _ _ _ st' s1 hk1 hsm hof (fun o2 a2 H2 S2 ho2 hof2 st2 => ?_) (fun o2 a2 H2 S2 ho2 hof2 st2 => ?_)
   .have hround : eS r s1 = o2 := by rw [mJ (by rw [<- ho]; exact hof), <- ho]; exact ho2.symm
    obtain ⟨m, hm, hG2⟩ := aKg hG1 hrem (by rw [hround]; exact hof2)
    have hk2 := hpres s1 hk1 hrem hf1 (by rw [hround]; exact hof2)
    rw [hround] at hG2 hk2
    exact aL2 (aN (B := B) (H := H2) (S := S2) ⟨m, o2, a2, H2, S2⟩ hm ⟨hG2, hk2, hof2, st2⟩ kns (fun w s => s))
   .have hround : eS r s1 = o2 := by rw [mJ (by rw [<- ho]; exact hof), <- ho]; exact ho2.symm
    have hend := aF3 hG1 hrem (by rw [hround]; exact hof2)
    rw [hround] at hend; subst hend
    repeat (first | refine uP ?_ | refine pQ ?_)
    exact fI (.inl rfl) rfl fun w s => ⟨rfl, a2, H2, S2, st2, s⟩
  .have hround : eS r s1 = o := (rI (by rw [<- ho]; exact hof)).trans ho.symm
   have hend := aF3 hG1 hrem (by rw [hround]; exact hof)
   rw [hround] at hend; subst hend
   repeat (first | refine uP ?_ | refine pQ ?_)
   exact fI (.inl rfl) rfl fun w s => ⟨rfl, a', H', S', st', s⟩
 .have hrem : s1.rem ≠ [] := fun h => by have := beq_eq_false_iff_ne.1 hc2; rw [h] at this; exact this rfl
  have hend := aJp hG1 hrem
  refine g4 ?_
  subst hend
  refine fI (.inr rfl) rfl fun w s => ⟨rfl, a1, _, _, st1, s⟩
def uE (s : It) : Value := match s.rem with
 | [] => .tuple #[.agg #[iV 0, iV 0], .bool false]
 | t :: _ => .tuple #[.agg #[iV t, iV 0], .bool true]
theorem aM1 {S0 : LS} {H0 : LV} {r : Ru} {l : Ra} {it rb : Nat} {s : It} {a : Ad} (st : St F w0 S0 H0 it rb r l s a B H S) : ∀ w, Sees F w0 B H S w -> Calls Tryz.prog 113 #[.pointer (some ⟨it, 26, none⟩)] w fun e w' => ∃ a' H' S', e = .returned (uE s) /\ St F w0 S0 H0 it rb r l { s with rem := s.rem.tail } a' B H' S' /\ Sees F w0 B H' S' w' := by
 intro w hs
 cases hrem : s.rem with
 | nil =>
  have h26 := st.h26
  rw [hrem] at h26
  refine (aKe (st.lim.mono dE) st.hB h26 w hs).mono ?_
  rintro e w' ⟨he, hs'⟩
  refine ⟨a, H, S, ?_, ?_, hs'⟩
  .rw [he]; unfold uE; rw [hrem]
  .have e1 : ({ s with rem := s.rem.tail } : It) = s := by rw [hrem]; cases s; simp only at hrem; subst hrem; rfl
   rw [hrem] at e1
   exact e1.symm ▸ st
 | cons t rest =>
  have hne : s.rem ≠ [] := by rw [hrem]; exact List.cons_ne_nil _ _
  obtain ⟨q1, q2, q3, q4, q5, q6⟩ := st.hq1 hne
  obtain ⟨g, hrp, hcap⟩ := hs.head 0 st.hS0 oM
  have hrs := q1 g hrp
  have hlen : s.rem.length = a.rn - a.rj := by rw [q2, List.length_drop, q3]
  have h26 := st.h26
  rw [hrs, q5, hlen] at h26
  have hS0 := st.hS0
  have hrow : (⟨.slice a.rp a.rn a.rc, 80, 2, a.rn, bS a.rall⟩ : Slc).v = sL g a.rn a.rc := by rw [hrp]
  have hrj : a.rall[a.rj]? = some t := by
   have : (a.rall.drop a.rj)[0]? = some t := by rw [<- q2, hrem]; rfl
   rwa [List.getElem?_drop, Nat.add_zero] at this
  obtain ⟨hx, hy⟩ := mV hrj
  have hrest : rest = a.rall.drop (a.rj + 1) := by
   have : (t :: rest).tail = (a.rall.drop a.rj).tail := by rw [<- hrem, q2]
   rw [List.tail_drop] at this
   exact this
  have hrl : rest.length = a.rn - (a.rj + 1) := by rw [hrest, List.length_drop, q3]
  by_cases hlast : a.rj + 1 = a.rn
  .have h27 := st.h27
   rw [q6, hrp] at h27
   refine (aIv (st.lim.mono dE) st.hB hlast hcap h26 h27 hS0 hrow hx hy w hs).mono ?_
   rintro e w' ⟨u, he, hs'⟩
   have hs2 := hs'.cut 0 hS0 rfl 0 (Nat.zero_le _)
   have hr0 : rest = [] := List.eq_nil_of_length_eq_zero oM
   unfold sL at hs2; rw [<- hrp] at hs2
   refine ⟨{ a with rs := a.rp, rk := a.rc, rn := 0, rall := [], rj := 0 }, _, _, ?_, ?_, hs2⟩
   .rw [he]; unfold uE; rw [hrem]
   .subst hr0
    exact (sT st (hq0 := fun _ => (fun _ => ⟨rfl, rfl, rfl, rfl⟩)) (hq1 := fun _ => (fun h => absurd rfl h)))
  .refine (aI2 (st.lim.mono dE) st.hB oM hcap h26 hS0 hrow hx hy w hs).mono ?_
   rintro e w' ⟨he, hs'⟩
   refine ⟨{ a with rs := some ⟨g, 2 * (a.rj + 1), none⟩, rk := a.rc - (a.rj + 1), rj := a.rj + 1 }, _, _, ?_, ?_, hs'⟩
   .rw [he]; unfold uE; rw [hrem]
   .exact (sT st (h26 := fun _ => (by simp only [List.tail_cons]; rw [hrl]; rfl)) (hq0 := fun _ => (fun h => absurd (congrArg List.length h) (by simp only [List.tail_cons, List.length_nil]; omega))) (hq1 := fun _ => (fun _ => ⟨fun g2 e2 => by rw [hrp] at e2; cases e2; rfl, hrest, q3, by simp only; omega, rfl, q6⟩)))
def GenTo (r : Ru) (n : Nat) (s e : It) : Prop := (s.fin = true /\ e = s) \/ (s.fin = false /\ Gen r n s e /\ ItOk r s)
def wJ (r : Ru) : Prop := ∀ s, ItOk r s -> s.rem = [] -> s.fin = false -> (eS r s).fin = false -> ItOk r (eS r s)
theorem aM9 {S0 : LS} {H0 : LV} {r : Ru} {l : Ra} {it rb : Nat} {s : It} {a : Ad} (st : St F w0 S0 H0 it rb r l s a B H S) (hr : RuOk r) (hp : Plain r) (hpres : wJ r) {n : Nat} {sEnd : It} (hG : GenTo r n s sEnd) : ∀ w, Sees F w0 B H S w -> Calls Tryz.prog 112 #[pT it] w fun e w' => e = .returned (.tuple #[]) /\ ∃ a H' S', St F w0 S0 H0 it rb r l sEnd a B H' S' /\ Sees F w0 B H' S' w' := by
 rcases hG with ⟨hf, rfl⟩ | ⟨hf, hG, hk⟩
 .exact aB5 st hf
 .exact xC st hr hp hG hk hf hpres
theorem St.drop38 {b : Nat} {S0 : LS} {H0 : LV} {r : Ru} {l : Ra} {it rb : Nat} {s : It} {a : Ad} (st : St F w0 S0 H0 it rb r l s a B H S) {s3 : It} {a3 : Ad} {H3 : LV} {S3 : LS} (st3 : St F w0 S (aL 38 0 [iV 0, iV 0] ++ H) it rb r l s3 a3 ((38, b) :: B) H3 S3) (h38h : ∀ o, o < 4096 -> lkp (ky 38 o) H0 = none) : St F w0 S0 H0 it rb r l s3 a3 B (kE 38 H3) S3 := ⟨st3.hB, st3.hR, ⟨fun k_ h_ => by have := st3.lim.b k_ h_; rwa [aA oM] at this, fun k_ h_ o_ ho_ => (aM (by rw [r7 ho_]; omega)).trans (st3.lim.h k_ h_ o_ ho_), st3.lim.s⟩, (aM dE).trans st3.h0, (aM dE).trans st3.h1, (aM dE).trans st3.h2, (aM dE).trans st3.h3, (aM dE).trans st3.h4, (aM dE).trans st3.h5, (aM dE).trans st3.h6, (aM dE).trans st3.h7, (aM dE).trans st3.h8, (aM dE).trans st3.h9, (aM dE).trans st3.h10, (aM dE).trans st3.h11, (aM dE).trans st3.h12, (aM dE).trans st3.h13, (aM dE).trans st3.h14, (aM dE).trans st3.h15, (aM dE).trans st3.h16, (aM dE).trans st3.h17, (aM dE).trans st3.h18, (aM dE).trans st3.h19, (aM dE).trans st3.h20, (aM dE).trans st3.h21, (aM dE).trans st3.h22, (aM dE).trans st3.h23, (aM dE).trans st3.h24, (aM dE).trans st3.h25, (aM dE).trans st3.h26, (aM dE).trans st3.h27, (aM dE).trans st3.h28, (aM dE).trans st3.h29, st3.hS0, st3.hS1, st3.hS2, st3.hS3, st3.hS4, st3.hS5, st3.hS6, st3.hS7, st3.hS8, st3.hS9, st3.hS10, st3.hp20, st3.hp21, st3.hp22, st3.c6, (fun k_ h1_ h2_ => (st3.frS k_ h1_ h2_).trans (st.frS k_ h1_ h2_)), (fun k_ h1_ h2_ o_ ho_ => by by_cases e_ : k_ = 38; { subst e_; rw [lQ ho_, h38h o_ ho_] }; { rw [aM (by rw [r7 ho_]; exact e_), st3.frH k_ h1_ h2_ o_ ho_, aJ e_ ho_ _ _ ble]; exact st.frH k_ h1_ h2_ o_ ho_ }), st3.hq0, st3.hq1, (aM dE).trans st3.r38, (aM dE).trans st3.r39, (aM dE).trans st3.r40, (aM dE).trans st3.r41, (aM dE).trans st3.r42, (aM dE).trans st3.r44, (aM dE).trans st3.r45, (aM dE).trans st3.r46, (aM dE).trans st3.r47, (aM dE).trans st3.r48, (aM dE).trans st3.r49, (aM dE).trans st3.r50, (aM dE).trans st3.r51, (aM dE).trans st3.r52, (aM dE).trans st3.r53, (aM dE).trans st3.r54, (aM dE).trans st3.r55, (aM dE).trans st3.r56, (aM dE).trans st3.r57, (aM dE).trans st3.r59, st3.hI46, st3.hI47, st3.hI48, st3.hI49, st3.hI50, st3.hI51, st3.hI52, st3.hI54, st3.hI55, st3.hI56, st3.hI57, st3.hl46, st3.hl47, st3.hl48, st3.hl49, st3.hl50, st3.hl51, st3.hl52, st3.hl54, st3.hl55, st3.hl56, st3.hl57, st3.hI53, st3.hl53⟩
theorem yO {S0 : LS} {H0 : LV} {r : Ru} {l : Ra} {it rb : Nat} {s : It} {a : Ad} (st : St F w0 S0 H0 it rb r l s a B H S) (h38b : lkp 38 B = none) (h38h : ∀ o, o < 4096 -> lkp (ky 38 o) H0 = none) (hr : RuOk r) (hp : Plain r) (hpres : wJ r) {n : Nat} {sEnd : It} (hG : GenTo r n s sEnd) : ∀ w, Sees F w0 B H S w -> Calls Tryz.prog 77 #[pT it] w fun e w' => ∃ a' H' S', e = .returned (uE sEnd) /\ St F w0 S0 H0 it rb r l { sEnd with rem := sEnd.rem.tail } a' B H' S' /\ Sees F w0 B H' S' w' := by
 intro w s_
 refine aF (args := [pT it]) (L := [(0, pT it)]) (N := 12) Tryz.func77 rfl rfl ble rfl s_ (g2 ?_)
 refine gL (eJ 38 (cs := [iV 0, iV 0]) dE kR h38b (fun o ho => (st.frH 38 dE dE o ho).trans (h38h o ho)) ble (fun b1_ hbb1_ => g6 ?_))
 have st38 : St F w0 S (aL 38 0 [iV 0, iV 0] ++ H) it rb r l s a ((38, b1_) :: B) (aL 38 0 [iV 0, iV 0] ++ H) S := ⟨st.hB, st.hR, (Lim.aPk dE _ 0 ble (st.lim.aPj dE)), st.h0, st.h1, st.h2, st.h3, st.h4, st.h5, st.h6, st.h7, st.h8, st.h9, st.h10, st.h11, st.h12, st.h13, st.h14, st.h15, st.h16, st.h17, st.h18, st.h19, st.h20, st.h21, st.h22, st.h23, st.h24, st.h25, st.h26, st.h27, st.h28, st.h29, st.hS0, st.hS1, st.hS2, st.hS3, st.hS4, st.hS5, st.hS6, st.hS7, st.hS8, st.hS9, st.hS10, st.hp20, st.hp21, st.hp22, st.c6, (fun _ _ _ => rfl), (fun _ _ _ _ _ => rfl), st.hq0, st.hq1, st.r38, st.r39, st.r40, st.r41, st.r42, st.r44, st.r45, st.r46, st.r47, st.r48, st.r49, st.r50, st.r51, st.r52, st.r53, st.r54, st.r55, st.r56, st.r57, st.r59, st.hI46, st.hI47, st.hI48, st.hI49, st.hI50, st.hI51, st.hI52, st.hI54, st.hI55, st.hI56, st.hI57, st.hl46, st.hl47, st.hl48, st.hl49, st.hl50, st.hl51, st.hl52, st.hl54, st.hl55, st.hl56, st.hl57, st.hI53, st.hl53⟩
 refine gL (d8 (ι := Ad × LV × LS) (fun _ => .tuple #[]) (fun x => St F w0 S (aL 38 0 [iV 0, iV 0] ++ H) it rb r l sEnd x.1 ((38, b1_) :: B) x.2.1 x.2.2) (fun _ => ((38, b1_) :: B)) (fun x => x.2.1) (fun x => x.2.2) dE kR rfl (fun w_ s_ => (aM9 st38 hr hp hpres hG w_ s_).mono fun e w' ⟨he, a', H', S', hst, hs⟩ => ⟨(a', H', S'), hst, he, hs⟩) (fun | (a2, H2, S2), st2 => g7 ?_))
 refine gL (d8 (ι := Ad × LV × LS) (fun _ => uE sEnd) (fun x => St F w0 S (aL 38 0 [iV 0, iV 0] ++ H) it rb r l { sEnd with rem := sEnd.rem.tail } x.1 ((38, b1_) :: B) x.2.1 x.2.2) (fun _ => ((38, b1_) :: B)) (fun x => x.2.1) (fun x => x.2.2) dE kR rfl (fun w_ s_ => (aM1 st2 w_ s_).mono fun e w' ⟨a', H', S', he, hst, hs⟩ => ⟨(a', H', S'), hst, he, hs⟩) (fun | (a3, H3, S3), st3 => ?_))
 have q0 : lkp (ky 38 0) H3 = some (iV 0) := (st3.frH 38 dE dE 0 dE).trans rfl
 have q1 : lkp (ky 38 1) H3 = some (iV 0) := (st3.frH 38 dE dE 1 dE).trans rfl
 obtain ⟨tv, bv, hpv⟩ : ∃ (tv : Int) (bv : Bool), uE sEnd = .tuple #[.agg #[iV tv, iV 0], .bool bv] := by unfold uE; cases sEnd.rem with | nil => exact ⟨0, false, rfl⟩ | cons t _ => exact ⟨t, true, rfl⟩
 rw [hpv]
 refine g2 ?_
 refine gL (cI 38 rfl rfl rfl (rV q0 q1) kR rfl ble (g4 ?_))
 refine d9 (.inl rfl) rfl (iP 38 rfl rfl rfl rfl kR) (aE rfl) fun w s => ⟨a3, _, _, rfl, St.drop38 (s3 := { sEnd with rem := sEnd.rem.tail }) (a3 := a3) (H3 := H3) (S3 := S3) st st3 h38h, ?_⟩
 have s2 := s.dropTag h38b
 rw [uT _ _ ble] at s2
 exact s2
end
end Go.Proofs.YthomapgobmdicaaGreat
namespace Go.Md
structure Opn where
 aP2 : Int
 d : Int
 aPp : Int
 aPq : Int
 count : Int
 u : Int
 aPz : List Int
 aPt : List Int
 aPu : List Int
 aPw : List Int
 aPx : List Int
 wday : List (Int × Int)
 hour : List Int
 aPr : List Int
 aPs : List Int
 aPy : List Int
def iY (o : Opn) : Bool := o.aPx.length == 0 && o.aPw.length == 0 && o.aPu.length == 0 && o.wday.length == 0 && o.aPy.length == 0
def bZ (o : Opn) : List Int := if iY o /\ o.aP2 = 0 /\ o.aPt.length = 0 then [Cal.monthOf (o.d / 86400)] else o.aPt
def bN (o : Opn) : List Int := if iY o /\ (o.aP2 = 0 \/ o.aP2 = 1) then [Cal.mdayOf (o.d / 86400)] else o.aPu
def bP (o : Opn) : List (Int × Int) := if iY o /\ o.aP2 = 2 then [(((o.d / 86400 + 1) % 7 + 6) % 7, 0)] else o.wday
def bR (f : Int) (x : Int × Int) : Bool := x.2 == 0 || decide (1 < f)
def cT (o : Opn) : List Int := if o.hour.length = 0 then (if o.aP2 < 4 then [o.d % 86400 / 3600] else []) else o.hour
def bI (o : Opn) : List Int := if o.aPr.length = 0 then (if o.aP2 < 5 then [o.d % 86400 / 60 % 60] else []) else o.aPr
def bM (o : Opn) : List Int := if o.aPs.length = 0 then (if o.aP2 < 6 then [o.d % 86400 % 60] else []) else o.aPs
def until0 (o : Opn) : Int := if o.u = 0 then o.d + 9223372036 else o.u
def until1 (o : Opn) : Int := if o.u = 0 then 854775807 else 0
def iE (l : List Int) : List Int := l.filter fun x => decide (0 < x)
def iD (l : List Int) : List Int := l.filter fun x => decide (x < 0)
def bE (o : Opn) (wnoF : Int -> List Int) (nwmF : Int -> Int -> List Int) (easF : Int -> List Int) : Ru where
 aP2 := o.aP2
 aPp := o.aPp
 aPq := o.aPq
 d0 := o.d
 u0 := until0 o
 u1 := until1 o
 aPz := o.aPz
 aPt := bZ o
 aPu := iE (bN o)
 aPv := iD (bN o)
 aPw := o.aPw
 aPx := o.aPx
 wday := ((bP o).filter (bR o.aP2)).map Prod.fst
 nwd := (bP o).filter fun x => !bR o.aP2 x
 hour := cT o
 aPr := bI o
 aPs := bM o
 aPy := o.aPy
 wnoF := wnoF
 nwmF := nwmF
 easF := easF
def raw (o : Opn) : List Int := (cT o).flatMap fun h => (bI o).flatMap fun m => (bM o).map fun s => h * 3600 + m * 60 + s
def l7 (o : Opn) : List Int := if o.aP2 < 4 then eM (raw o) else []
theorem dK {α : Type} {p : α -> Bool} {l : List α} {k : Nat} {x : α} (h : l[k]? = some x) : (l.take (k + 1)).filter p = (l.take k).filter p ++ (if p x then [x] else []) := by
 rw [List.take_add_one, h, List.filter_append]
 cases hp : p x <;> simp [hp]
end Go.Md
