import Derived.Test.YtdbbifbmkfmbkaaGreatDaf
set_option linter.unusedVariables false
set_option linter.unusedSimpArgs false
set_option maxRecDepth 100000
set_option maxHeartbeats 8000000
namespace Go.Proofs.YtdbbifbmkfmbkaaGreat
open Go.RowKit Go.Fr Go.Tab
section
variable {F : Nat → Prop} {w0 : World} {B : List (Nat × Nat)} {H : List (Nat × Value)} {S : List (Nat × Slc)}
open Go.Md
theorem bu_D {R : Ending → World → Prop} {o : Opn} {x : Av} {b1 b2 b3 : Nat} {H0 : List (Nat × Value)} {S0 : List (Nat × Slc)} (ok : OpOk o) (hsort : o.freq < 4 → SortOk F w0 (raw o)) (bs : Bs F w0 B H0 S0 b1 b2 b3 (oc1 o x) (rcC o x) H S) (s9 : SrcT F w0 S 11 (.slice x.p9 (o.setpos).length x.c9) o.setpos) (sm : SrcT F w0 S 16 (.slice x.pm (month' o).length x.cm) (month' o)) (s12 : SrcT F w0 S 11 (.slice x.p12 (o.yday).length x.c12) o.yday) (s13 : SrcT F w0 S 11 (.slice x.p13 (o.weekno).length x.c13) o.weekno) (sw : SrcU F w0 S 21 (.slice x.pw (wday' o).length x.cw) (wday' o)) (s15 : SrcT F w0 S 11 (.slice x.p15 (o.hour).length x.c15) o.hour) (s16 : SrcT F w0 S 11 (.slice x.p16 (o.minute).length x.c16) o.minute) (s17 : SrcT F w0 S 11 (.slice x.p17 (o.second).length x.c17) o.second) (s18 : SrcT F w0 S 11 (.slice x.p18 (o.easter).length x.c18) o.easter) (r12 : lkp 12 S = some ⟨.slice x.q48 (posM (mday' o)).length x.e48, 3, 1, (posM (mday' o)).length, (posM (mday' o)).map iV⟩) (r13 : lkp 13 S = some ⟨.slice x.q49 (negM (mday' o)).length x.e49, 3, 1, (negM (mday' o)).length, (negM (mday' o)).map iV⟩)  (hR : ∀ (x : Av) (S' : List (Nat × Slc)), OutF F w0 o x S0 S' → ∀ w, Sees F w0 B H0 S' w → R (.returned (.agg (outC o x).toArray)) w) : GC Go.Proofs.Tryz.prog (Go.Fr.part [1, 1, 1, 1, 1, 1, 1, 1, 1, 1, 1, 1, 1, 1, 1, 1, 1, 1, 1] (Go.Fr.bodyOf Tryz.f43)) (bodyPost Go.Proofs.Tryz.prog Tryz.f43 R) 300 [(1, pT b1), (2, pT b2), (3, pT b3)] F w0 ((52, b3) :: (51, b2) :: (50, b1) :: B) H S := by
 have ok_ := ok
 have hwl : (wday' o).length ≤ 1000 := by unfold wday'; split; exact (by simp); exact ok.wday
 refine g2 ?_
 refine rl (rfa 13) ?_
 refine rl (rd_load 50 rfl rfl (bs.ho.get 13 _ rfl) kR dE) ?_
 refine rl (rfa 51) ?_
 refine gL (at_store 52 rfl rfl rfl (bs.hc.get 51 _ rfl) kR rfl dE ?_)
 refine g5 ?_
 refine rl (rfa 14) ?_
 refine rl (rd_load 50 rfl rfl (bs.ho.get 14 _ rfl) kR dE) ?_
 refine g5 ?_
 refine GC_loop (ι := (Nat) × (Option Addr) × (Nat) × (Nat) × (List Value) × (List Int) × (Option Addr) × (Nat) × (Nat) × (List Value) × (List (Int × Int))) (fun | ⟨k, q14, e14, n14, xs14, l14, q15, e15, n15, xs15, l15⟩ => (wday' o).length - k) (fun | ⟨k, q14, e14, n14, xs14, l14, q15, e15, n15, xs15, l15⟩ => (k ≤ (wday' o).length) ∧ (l14 = ((wday' o).take k |>.filter (plainW o.freq)).map Prod.fst) ∧ (n14 = l14.length) ∧ (xs14 = l14.map iV) ∧ (l15 = ((wday' o).take k).filter fun y => !plainW o.freq y) ∧ (n15 = l15.length) ∧ (xs15 = pcells l15)) (fun | ⟨k, q14, e14, n14, xs14, l14, q15, e15, n15, xs15, l15⟩ => [(1, pT b1), (2, pT b2), (3, pT b3), (167, .slice x.pw (wday' o).length x.cw), (168, iV ((wday' o).length)), (169, iV k)]) (fun | ⟨k, q14, e14, n14, xs14, l14, q15, e15, n15, xs15, l15⟩ => ((52, b3) :: (51, b2) :: (50, b1) :: B)) (fun | ⟨k, q14, e14, n14, xs14, l14, q15, e15, n15, xs15, l15⟩ => (ky 52 53, .slice q15 n15 e15) :: (ky 52 52, .slice q14 n14 e14) :: (ky 52 51, .slice x.p13 (o.weekno).length x.c13) :: H) (fun | ⟨k, q14, e14, n14, xs14, l14, q15, e15, n15, xs15, l15⟩ => (15, ⟨.slice q15 n15 e15, 59, 2, n15, xs15⟩) :: (14, ⟨.slice q14 n14 e14, 3, 1, n14, xs14⟩) :: S) ⟨0, none, 0, 0, [], [], none, 0, 0, [], []⟩ ⟨Nat.zero_le _, rfl, rfl, rfl, rfl, rfl, rfl⟩ kns (fun w s => by exact ((s.nilRow 14 3 1).nilRow 15 59 2).low 53 ((by repeat (first | exact bs.lim | apply Lim.consH _ dE dE | apply Lim.consS _ dE))) agx (by exact Agr.pick (bs.hc.get 53 _ rfl) (Agr.pick (bs.hc.get 52 _ rfl) (Agr.refl _))) agx) ?_
 rintro ⟨k, q14, e14, n14, xs14, l14, q15, e15, n15, xs15, l15⟩ ⟨hk, hl14, hn14, hx14, hl15, hn15, hx15⟩
 show GC _ _ _ _ [(1, pT b1), (2, pT b2), (3, pT b3), (167, .slice x.pw (wday' o).length x.cw), (168, iV ((wday' o).length)), (169, iV k)] _ _ (((52, b3) :: (51, b2) :: (50, b1) :: B)) ((ky 52 53, .slice q15 n15 e15) :: (ky 52 52, .slice q14 n14 e14) :: (ky 52 51, .slice x.p13 (o.weekno).length x.c13) :: H) ((15, ⟨.slice q15 n15 e15, 59, 2, n15, xs15⟩) :: (14, ⟨.slice q14 n14 e14, 3, 1, n14, xs14⟩) :: S)
 refine g6 ?_
 refine GC_cond rfl (fun hc1 => ?_) (fun hc2 => ?_)
 ·have hlt : k < (wday' o).length := by have := of_decide_eq_true hc1; omega
  obtain ⟨y, hy⟩ : ∃ y, (wday' o)[k]? = some y := ⟨_, List.getElem?_eq_getElem hlt⟩
  refine GC_have (fun w s => ((sw.cons (j := 14) dE).cons (j := 15) dE).head s oM) fun hh => ?_
  obtain ⟨by_, oy_, hp_y⟩ := hh
  have src_y := sw
  rw [hp_y] at src_y
  have hn14b : n14 ≤ 1000 := by rw [hn14, hl14, List.length_map]; exact Nat.le_trans (List.length_filter_le _ _) (by rw [List.length_take]; omega)
  have hn15b : n15 ≤ 1000 := by rw [hn15, hl15]; exact Nat.le_trans (List.length_filter_le _ _) (by rw [List.length_take]; omega)
  refine g6 ?_
  refine rl (rd_indexAddr (e := 59) (n := 2) kR (congrArg (fun p => some (Value.slice p _ _)) hp_y) rfl oM oM) ?_
  refine rl (rd_loadAgg_at (cs := [iV y.1, iV y.2]) kR rfl (fun w s => ((src_y.cons dE).cons dE).cell hy s)) ?_
  refine gL (at_alloc 53 (cs := [iV 0, iV 0]) dE kR (bs.lim.b 53 dE) (fun o ho => by repeat (first | exact bs.lim.h 53 dE o ho | rw [lkp_ky_ne dE ho dE])) ble (fun b1_ hbb1_ => ?_))
  refine gL (sta 53 rfl rfl rfl rfl ?_)
  refine g3 ?_
  rcases Decidable.em (y.2 = 0) with hz | hz
  ·refine g1 ?_
   refine rl (rfa 1) ?_
   refine rl (rld 53 rfl rfl rfl) ?_
   refine rl ((rd_eql rfl rfl).to (v' := .bool true) (congrArg Value.bool (beq_iff_eq.2 hz))) ?_
   refine g7 ?_
   have hpw : plainW o.freq y = true := by unfold plainW; rw [hz]; rfl
   refine GC_is_true rfl rfl ?_
   refine g1 ?_
   refine rl (rfa 52) ?_
   refine rl (rld 52 rfl rfl rfl) ?_
   refine rl (rfa 0) ?_
   refine rl (rld 53 rfl rfl rfl) ?_
   refine gL (at_one 60 (e := 3) (sz := 1) (by_ := 8) (zs := [iV 0]) dE kR rfl dE dE rfl rfl rfl (bs.lim.s 60 dE) (fun bo => ?_))
   refine gL (at_append 14 60 (e := 3) (sz := 1) (by_ := 8) (zs := [iV 0]) dE kR rfl dE rfl rfl rfl rfl ⟨rfl, rfl⟩ ⟨rfl, rfl⟩ (ints_one (xs := [y.1])) sO sO (fun p' c' => ?_))
   refine rl (rfa 52) ?_
   refine gL (sto 52 rfl rfl rfl rfl ?_)
   refine g7 ?_
   refine GE_back ⟨k + 1, p', c', n14 + 1, xs14 ++ [iV y.1], l14 ++ [y.1], q15, e15, n15, xs15, l15⟩ sO ⟨by omega, by rw [hl14, filter_take_succ hy]; simp [hpw], by rw [List.length_append, hn14]; rfl, by rw [hx14]; simp, by rw [hl15, filter_take_succ hy]; simp [hpw], hn15, hx15⟩ kns (fun w s => by exact s.low 53 ((by repeat (first | exact bs.lim | apply Lim.consH _ dE dE | apply Lim.consS _ dE))) agx agx agx)
  ·refine g1 ?_
   refine rl (rfa 1) ?_
   refine rl (rld 53 rfl rfl rfl) ?_
   refine rl ((rd_eql rfl rfl).to (v' := .bool false) (congrArg Value.bool (beq_eq_false_iff_ne.2 hz))) ?_
   refine g2 ?_
   refine rl (rfa 38) ?_
   refine g1 ?_
   refine rl (rd_load 52 rfl rfl (bs.hc.get 38 _ rfl) kR dE) ?_
   refine g5 ?_
   refine GC_cond rfl (fun hc1 => ?_) (fun hc2 => ?_)
   ·have hpw : plainW o.freq y = true := by unfold plainW; rw [show decide (1 < o.freq) = true from hc1]; simp
    refine g1 ?_
    refine rl (rfa 52) ?_
    refine rl (rld 52 rfl rfl rfl) ?_
    refine rl (rfa 0) ?_
    refine rl (rld 53 rfl rfl rfl) ?_
    refine gL (at_one 60 (e := 3) (sz := 1) (by_ := 8) (zs := [iV 0]) dE kR rfl dE dE rfl rfl rfl (bs.lim.s 60 dE) (fun bo => ?_))
    refine gL (at_append 14 60 (e := 3) (sz := 1) (by_ := 8) (zs := [iV 0]) dE kR rfl dE rfl rfl rfl rfl ⟨rfl, rfl⟩ ⟨rfl, rfl⟩ (ints_one (xs := [y.1])) sO sO (fun p' c' => ?_))
    refine rl (rfa 52) ?_
    refine gL (sto 52 rfl rfl rfl rfl ?_)
    refine g7 ?_
    refine GE_back ⟨k + 1, p', c', n14 + 1, xs14 ++ [iV y.1], l14 ++ [y.1], q15, e15, n15, xs15, l15⟩ sO ⟨by omega, by rw [hl14, filter_take_succ hy]; simp [hpw], by rw [List.length_append, hn14]; rfl, by rw [hx14]; simp, by rw [hl15, filter_take_succ hy]; simp [hpw], hn15, hx15⟩ kns (fun w s => by exact s.low 53 ((by repeat (first | exact bs.lim | apply Lim.consH _ dE dE | apply Lim.consS _ dE))) agx agx agx)
   ·have hpw : plainW o.freq y = false := by unfold plainW; rw [show decide (1 < o.freq) = false from hc2, beq_eq_false_iff_ne.2 hz]; rfl
    refine g1 ?_
    refine rl (rfa 53) ?_
    refine rl (rld 52 rfl rfl rfl) ?_
    refine rl (rd_load2 53 rfl rfl rfl rfl kR dE) ?_
    refine gL (at_one 60 (e := 59) (sz := 2) (by_ := 16) (zs := [iV 0, iV 0]) dE kR rfl dE dE rfl rfl rfl (bs.lim.s 60 dE) (fun bo => ?_))
    refine gL (at_append 15 60 (e := 59) (sz := 2) (by_ := 16) (zs := [iV 0, iV 0]) dE kR rfl dE rfl rfl rfl rfl ⟨rfl, rfl⟩ ⟨rfl, rfl⟩ one2 sO sO (fun p' c' => ?_))
    refine rl (rfa 53) ?_
    refine gL (sto 52 rfl rfl rfl rfl ?_)
    refine g7 ?_
    refine GE_back ⟨k + 1, q14, e14, n14, xs14, l14, p', c', n15 + 1, xs15 ++ [iV y.1, iV y.2], l15 ++ [y]⟩ sO ⟨by omega, by rw [hl14, filter_take_succ hy]; simp [hpw], hn14, hx14, by rw [hl15, filter_take_succ hy]; simp [hpw], by rw [List.length_append, hn15]; rfl, by rw [hx15]; exact pcells_append _ _⟩ kns (fun w s => by exact s.low 53 ((by repeat (first | exact bs.lim | apply Lim.consH _ dE dE | apply Lim.consS _ dE))) agx agx agx)
 ·have hge : ¬ k < (wday' o).length := by have := of_decide_eq_false hc2; omega
  obtain rfl : k = (wday' o).length := by omega
  rw [List.take_length] at hl14 hl15
  subst hl14 hl15 hn14 hn15 hx14 hx15
  refine g5 ?_
  refine GC_to (L' := [(1, pT b1), (2, pT b2), (3, pT b3)]) kns (fun w s => s) ?_
  refine bu_E (x := { x with q52 := q14, e52 := e14, q53 := q15, e53 := e15 }) ok hsort (H := (ky 52 53, .slice q15 ((wday' o).filter fun y => !plainW o.freq y).length e15) :: (ky 52 52, .slice q14 (((wday' o).filter (plainW o.freq)).map Prod.fst).length e14) :: (ky 52 51, .slice x.p13 (o.weekno).length x.c13) :: H) (S := (15, ⟨.slice q15 ((wday' o).filter fun y => !plainW o.freq y).length e15, 59, 2, ((wday' o).filter fun y => !plainW o.freq y).length, pcells ((wday' o).filter fun y => !plainW o.freq y)⟩) :: (14, ⟨.slice q14 (((wday' o).filter (plainW o.freq)).map Prod.fst).length e14, 3, 1, (((wday' o).filter (plainW o.freq)).map Prod.fst).length, (((wday' o).filter (plainW o.freq)).map Prod.fst).map iV⟩) :: S) ⟨bs.ho, (cellsAt.cons (bs.hc.get 0 _ rfl) (cellsAt.cons (bs.hc.get 1 _ rfl) (cellsAt.cons (bs.hc.get 2 _ rfl) (cellsAt.cons (bs.hc.get 3 _ rfl) (cellsAt.cons (bs.hc.get 4 _ rfl) (cellsAt.cons (bs.hc.get 5 _ rfl) (cellsAt.cons (bs.hc.get 6 _ rfl) (cellsAt.cons (bs.hc.get 7 _ rfl) (cellsAt.cons (bs.hc.get 8 _ rfl) (cellsAt.cons (bs.hc.get 9 _ rfl) (cellsAt.cons (bs.hc.get 10 _ rfl) (cellsAt.cons (bs.hc.get 11 _ rfl) (cellsAt.cons (bs.hc.get 12 _ rfl) (cellsAt.cons (bs.hc.get 13 _ rfl) (cellsAt.cons (bs.hc.get 14 _ rfl) (cellsAt.cons (bs.hc.get 15 _ rfl) (cellsAt.cons (bs.hc.get 16 _ rfl) (cellsAt.cons (bs.hc.get 17 _ rfl) (cellsAt.cons (bs.hc.get 18 _ rfl) (cellsAt.cons (bs.hc.get 19 _ rfl) (cellsAt.cons (bs.hc.get 20 _ rfl) (cellsAt.cons (bs.hc.get 21 _ rfl) (cellsAt.cons (bs.hc.get 22 _ rfl) (cellsAt.cons (bs.hc.get 23 _ rfl) (cellsAt.cons (bs.hc.get 24 _ rfl) (cellsAt.cons (bs.hc.get 25 _ rfl) (cellsAt.cons (bs.hc.get 26 _ rfl) (cellsAt.cons (bs.hc.get 27 _ rfl) (cellsAt.cons (bs.hc.get 28 _ rfl) (cellsAt.cons (bs.hc.get 29 _ rfl) (cellsAt.cons (bs.hc.get 30 _ rfl) (cellsAt.cons (bs.hc.get 31 _ rfl) (cellsAt.cons (bs.hc.get 32 _ rfl) (cellsAt.cons (bs.hc.get 33 _ rfl) (cellsAt.cons (bs.hc.get 34 _ rfl) (cellsAt.cons (bs.hc.get 35 _ rfl) (cellsAt.cons (bs.hc.get 36 _ rfl) (cellsAt.cons (bs.hc.get 37 _ rfl) (cellsAt.cons (bs.hc.get 38 _ rfl) (cellsAt.cons (bs.hc.get 39 _ rfl) (cellsAt.cons (bs.hc.get 40 _ rfl) (cellsAt.cons (bs.hc.get 41 _ rfl) (cellsAt.cons (bs.hc.get 42 _ rfl) (cellsAt.cons (bs.hc.get 43 _ rfl) (cellsAt.cons (bs.hc.get 44 _ rfl) (cellsAt.cons (bs.hc.get 45 _ rfl) (cellsAt.cons (bs.hc.get 46 _ rfl) (cellsAt.cons (bs.hc.get 47 _ rfl) (cellsAt.cons (bs.hc.get 48 _ rfl) (cellsAt.cons (bs.hc.get 49 _ rfl) (cellsAt.cons (bs.hc.get 50 _ rfl) (cellsAt.cons rfl (cellsAt.cons rfl (cellsAt.cons rfl (cellsAt.cons (bs.hc.get 54 _ rfl) (cellsAt.cons (bs.hc.get 55 _ rfl) (cellsAt.cons (bs.hc.get 56 _ rfl) (cellsAt.cons (bs.hc.get 57 _ rfl) (cellsAt.cons (bs.hc.get 58 _ rfl) (cellsAt.cons (bs.hc.get 59 _ rfl) cellsAt.nil)))))))))))))))))))))))))))))))))))))))))))))))))))))))))))), (knwn_mono (by repeat (first | exact Knw.refl _ | apply Knw.cons)) bs.h2), (by repeat (first | exact bs.lim | apply Lim.consH _ dE dE | apply Lim.consS _ dE)), bs.limB, (fun k_ h1_ o_ ho_ => Eq.trans (by repeat (first | rfl | rw [lkp_ky_ne oM ho_ dE])) (bs.frH k_ h1_ o_ ho_)), (fun k_ h1_ h2_ => Eq.trans aH (bs.frS k_ h1_ h2_))⟩ ((s9.cons dE).cons dE) ((sm.cons dE).cons dE) ((s12.cons dE).cons dE) ((s13.cons dE).cons dE) ((s15.cons dE).cons dE) ((s16.cons dE).cons dE) ((s17.cons dE).cons dE) ((s18.cons dE).cons dE) r12 r13 rfl hR
theorem bu_C {R : Ending → World → Prop} {o : Opn} {x : Av} {b1 b2 b3 : Nat} {H0 : List (Nat × Value)} {S0 : List (Nat × Slc)} (ok : OpOk o) (hsort : o.freq < 4 → SortOk F w0 (raw o)) (bs : Bs F w0 B H0 S0 b1 b2 b3 (oc1 o x) (rcA o x) H S) (s9 : SrcT F w0 S 11 (.slice x.p9 (o.setpos).length x.c9) o.setpos) (sm : SrcT F w0 S 16 (.slice x.pm (month' o).length x.cm) (month' o)) (sd : SrcT F w0 S 17 (.slice x.pd (mday' o).length x.cd) (mday' o)) (s12 : SrcT F w0 S 11 (.slice x.p12 (o.yday).length x.c12) o.yday) (s13 : SrcT F w0 S 11 (.slice x.p13 (o.weekno).length x.c13) o.weekno) (sw : SrcU F w0 S 21 (.slice x.pw (wday' o).length x.cw) (wday' o)) (s15 : SrcT F w0 S 11 (.slice x.p15 (o.hour).length x.c15) o.hour) (s16 : SrcT F w0 S 11 (.slice x.p16 (o.minute).length x.c16) o.minute) (s17 : SrcT F w0 S 11 (.slice x.p17 (o.second).length x.c17) o.second) (s18 : SrcT F w0 S 11 (.slice x.p18 (o.easter).length x.c18) o.easter)  (hR : ∀ (x : Av) (S' : List (Nat × Slc)), OutF F w0 o x S0 S' → ∀ w, Sees F w0 B H0 S' w → R (.returned (.agg (outC o x).toArray)) w) : GC Go.Proofs.Tryz.prog (Go.Fr.part [1, 1, 1, 1, 1, 1, 1, 1, 1, 1, 1, 1, 1, 1, 1] (Go.Fr.bodyOf Tryz.f43)) (bodyPost Go.Proofs.Tryz.prog Tryz.f43 R) 300 [(1, pT b1), (2, pT b2), (3, pT b3)] F w0 ((52, b3) :: (51, b2) :: (50, b1) :: B) H S := by
 have ok_ := ok
 have hml : (mday' o).length ≤ 1000 := by unfold mday'; split; exact (by simp); exact ok.mday
 refine g2 ?_
 refine rl (rfa 10) ?_
 refine rl (rd_load 50 rfl rfl (bs.ho.get 10 _ rfl) kR dE) ?_
 refine rl (rfa 47) ?_
 refine gL (at_store 52 rfl rfl rfl (bs.hc.get 47 _ rfl) kR rfl dE ?_)
 refine g4 ?_
 refine rl (rfa 12) ?_
 refine rl (rd_load 50 rfl rfl (bs.ho.get 12 _ rfl) kR dE) ?_
 refine rl (rfa 50) ?_
 refine gL (at_store 52 rfl rfl rfl (bs.hc.get 50 _ rfl) kR rfl dE ?_)
 refine g4 ?_
 refine rl (rfa 18) ?_
 refine rl (rd_load 50 rfl rfl (bs.ho.get 18 _ rfl) kR dE) ?_
 refine rl (rfa 57) ?_
 refine gL (at_store 52 rfl rfl rfl (bs.hc.get 57 _ rfl) kR rfl dE ?_)
 refine g5 ?_
 refine rl (rfa 11) ?_
 refine rl (rd_load 50 rfl rfl (bs.ho.get 11 _ rfl) kR dE) ?_
 refine g5 ?_
 refine GC_loop (ι := (Nat) × (Option Addr) × (Nat) × (Nat) × (List Value) × (List Int) × (Option Addr) × (Nat) × (Nat) × (List Value) × (List Int)) (fun | ⟨k, q12, e12, n12, xs12, l12, q13, e13, n13, xs13, l13⟩ => (mday' o).length - k) (fun | ⟨k, q12, e12, n12, xs12, l12, q13, e13, n13, xs13, l13⟩ => (k ≤ (mday' o).length) ∧ (l12 = posM ((mday' o).take k)) ∧ (n12 = l12.length) ∧ (xs12 = l12.map iV) ∧ (l13 = negM ((mday' o).take k)) ∧ (n13 = l13.length) ∧ (xs13 = l13.map iV)) (fun | ⟨k, q12, e12, n12, xs12, l12, q13, e13, n13, xs13, l13⟩ => [(1, pT b1), (2, pT b2), (3, pT b3), (140, .slice x.pd (mday' o).length x.cd), (141, iV ((mday' o).length)), (142, iV k)]) (fun | ⟨k, q12, e12, n12, xs12, l12, q13, e13, n13, xs13, l13⟩ => ((52, b3) :: (51, b2) :: (50, b1) :: B)) (fun | ⟨k, q12, e12, n12, xs12, l12, q13, e13, n13, xs13, l13⟩ => (ky 52 49, .slice q13 n13 e13) :: (ky 52 48, .slice q12 n12 e12) :: (ky 52 57, .slice x.p18 (o.easter).length x.c18) :: (ky 52 50, .slice x.p12 (o.yday).length x.c12) :: (ky 52 47, .slice x.pm (month' o).length x.cm) :: H) (fun | ⟨k, q12, e12, n12, xs12, l12, q13, e13, n13, xs13, l13⟩ => (13, ⟨.slice q13 n13 e13, 3, 1, n13, xs13⟩) :: (12, ⟨.slice q12 n12 e12, 3, 1, n12, xs12⟩) :: S) ⟨0, none, 0, 0, [], [], none, 0, 0, [], []⟩ ⟨Nat.zero_le _, rfl, rfl, rfl, rfl, rfl, rfl⟩ kns (fun w s => by exact ((s.nilRow 12 3 1).nilRow 13 3 1).low 53 ((by repeat (first | exact bs.lim | apply Lim.consH _ dE dE | apply Lim.consS _ dE))) agx (by exact Agr.pick (bs.hc.get 49 _ rfl) (Agr.pick (bs.hc.get 48 _ rfl) (Agr.refl _))) agx) ?_
 rintro ⟨k, q12, e12, n12, xs12, l12, q13, e13, n13, xs13, l13⟩ ⟨hk, hl12, hn12, hx12, hl13, hn13, hx13⟩
 show GC _ _ _ _ [(1, pT b1), (2, pT b2), (3, pT b3), (140, .slice x.pd (mday' o).length x.cd), (141, iV ((mday' o).length)), (142, iV k)] _ _ (((52, b3) :: (51, b2) :: (50, b1) :: B)) ((ky 52 49, .slice q13 n13 e13) :: (ky 52 48, .slice q12 n12 e12) :: (ky 52 57, .slice x.p18 (o.easter).length x.c18) :: (ky 52 50, .slice x.p12 (o.yday).length x.c12) :: (ky 52 47, .slice x.pm (month' o).length x.cm) :: H) ((13, ⟨.slice q13 n13 e13, 3, 1, n13, xs13⟩) :: (12, ⟨.slice q12 n12 e12, 3, 1, n12, xs12⟩) :: S)
 refine g6 ?_
 refine GC_cond rfl (fun hc1 => ?_) (fun hc2 => ?_)
 ·have hlt : k < (mday' o).length := by have := of_decide_eq_true hc1; omega
  obtain ⟨y, hy⟩ : ∃ y, (mday' o)[k]? = some y := ⟨_, List.getElem?_eq_getElem hlt⟩
  refine GC_have (fun w s => ((sd.cons (j := 12) dE).cons (j := 13) dE).head s oM) fun hh => ?_
  obtain ⟨by_, oy_, hp_y⟩ := hh
  have src_y := sd
  rw [hp_y] at src_y
  have hn12b : n12 ≤ 1000 := by rw [hn12, hl12]; unfold posM; exact Nat.le_trans (List.length_filter_le _ _) (by rw [List.length_take]; omega)
  have hn13b : n13 ≤ 1000 := by rw [hn13, hl13]; unfold negM; exact Nat.le_trans (List.length_filter_le _ _) (by rw [List.length_take]; omega)
  refine g6 ?_
  refine rl (rd_indexAddr (e := 3) (n := 1) kR (congrArg (fun p => some (Value.slice p _ _)) hp_y) rfl oM oM) ?_
  refine rl (rd_load_at kR rfl (fun w s => ((src_y.cons dE).cons dE).cell hy s)) ?_
  refine g9 ?_
  refine GC_cond rfl (fun hc1 => ?_) (fun hc2 => ?_)
  ·have hp1 : decide (0 < y) = true := hc1
   have hp2 : decide (y < 0) = false := by have := of_decide_eq_true hc1; exact decide_eq_false oM
   refine g1 ?_
   refine rl (rfa 48) ?_
   refine rl (rld 52 rfl rfl rfl) ?_
   refine g1 ?_
   refine gL (at_one 60 (e := 3) (sz := 1) (by_ := 8) (zs := [iV 0]) dE kR rfl dE dE rfl rfl rfl (bs.lim.s 60 dE) (fun bo => ?_))
   refine gL (at_append 12 60 (e := 3) (sz := 1) (by_ := 8) (zs := [iV 0]) dE kR rfl dE rfl rfl rfl rfl ⟨rfl, rfl⟩ ⟨rfl, rfl⟩ (ints_one (xs := [y])) sO sO (fun p' c' => ?_))
   refine rl (rfa 48) ?_
   refine gL (sto 52 rfl rfl rfl rfl ?_)
   refine g7 ?_
   refine GE_back ⟨k + 1, p', c', n12 + 1, xs12 ++ [iV y], l12 ++ [y], q13, e13, n13, xs13, l13⟩ sO ⟨by omega, by rw [hl12]; unfold posM; rw [filter_take_succ hy]; simp [hp1], by rw [List.length_append, hn12]; rfl, by rw [hx12]; simp, by rw [hl13]; unfold negM; rw [filter_take_succ hy]; simp [hp2], hn13, hx13⟩ kns (fun w s => by exact s.low 53 ((by repeat (first | exact bs.lim | apply Lim.consH _ dE dE | apply Lim.consS _ dE))) agx agx agx)
  ·have hp1 : decide (0 < y) = false := hc2
   refine g6 ?_
   refine GC_cond rfl (fun hc1 => ?_) (fun hc2 => ?_)
   ·have hp2 : decide (y < 0) = true := hc1
    refine g1 ?_
    refine rl (rfa 49) ?_
    refine rl (rld 52 rfl rfl rfl) ?_
    refine g1 ?_
    refine gL (at_one 60 (e := 3) (sz := 1) (by_ := 8) (zs := [iV 0]) dE kR rfl dE dE rfl rfl rfl (bs.lim.s 60 dE) (fun bo => ?_))
    refine gL (at_append 13 60 (e := 3) (sz := 1) (by_ := 8) (zs := [iV 0]) dE kR rfl dE rfl rfl rfl rfl ⟨rfl, rfl⟩ ⟨rfl, rfl⟩ (ints_one (xs := [y])) sO sO (fun p' c' => ?_))
    refine rl (rfa 49) ?_
    refine gL (sto 52 rfl rfl rfl rfl ?_)
    refine g7 ?_
    refine GE_back ⟨k + 1, q12, e12, n12, xs12, l12, p', c', n13 + 1, xs13 ++ [iV y], l13 ++ [y]⟩ sO ⟨by omega, by rw [hl12]; unfold posM; rw [filter_take_succ hy]; simp [hp1], hn12, hx12, by rw [hl13]; unfold negM; rw [filter_take_succ hy]; simp [hp2], by rw [List.length_append, hn13]; rfl, by rw [hx13]; simp⟩ kns (fun w s => by exact s.low 53 ((by repeat (first | exact bs.lim | apply Lim.consH _ dE dE | apply Lim.consS _ dE))) agx agx agx)
   ·have hp2 : decide (y < 0) = false := hc2
    refine g7 ?_
    refine GE_back ⟨k + 1, q12, e12, n12, xs12, l12, q13, e13, n13, xs13, l13⟩ sO ⟨by omega, by rw [hl12]; unfold posM; rw [filter_take_succ hy]; simp [hp1], hn12, hx12, by rw [hl13]; unfold negM; rw [filter_take_succ hy]; simp [hp2], hn13, hx13⟩ kns (fun w s => by exact s.low 53 ((by repeat (first | exact bs.lim | apply Lim.consH _ dE dE | apply Lim.consS _ dE))) agx agx agx)
 ·have hge : ¬ k < (mday' o).length := by have := of_decide_eq_false hc2; omega
  obtain rfl : k = (mday' o).length := by omega
  rw [List.take_length] at hl12 hl13
  subst hl12 hl13 hn12 hn13 hx12 hx13
  refine g5 ?_
  refine GC_to (L' := [(1, pT b1), (2, pT b2), (3, pT b3)]) kns (fun w s => s) ?_
  refine bu_D (x := { x with q48 := q12, e48 := e12, q49 := q13, e49 := e13 }) ok hsort (H := (ky 52 49, .slice q13 (negM (mday' o)).length e13) :: (ky 52 48, .slice q12 (posM (mday' o)).length e12) :: (ky 52 57, .slice x.p18 (o.easter).length x.c18) :: (ky 52 50, .slice x.p12 (o.yday).length x.c12) :: (ky 52 47, .slice x.pm (month' o).length x.cm) :: H) (S := (13, ⟨.slice q13 (negM (mday' o)).length e13, 3, 1, (negM (mday' o)).length, (negM (mday' o)).map iV⟩) :: (12, ⟨.slice q12 (posM (mday' o)).length e12, 3, 1, (posM (mday' o)).length, (posM (mday' o)).map iV⟩) :: S) ⟨bs.ho, (cellsAt.cons (bs.hc.get 0 _ rfl) (cellsAt.cons (bs.hc.get 1 _ rfl) (cellsAt.cons (bs.hc.get 2 _ rfl) (cellsAt.cons (bs.hc.get 3 _ rfl) (cellsAt.cons (bs.hc.get 4 _ rfl) (cellsAt.cons (bs.hc.get 5 _ rfl) (cellsAt.cons (bs.hc.get 6 _ rfl) (cellsAt.cons (bs.hc.get 7 _ rfl) (cellsAt.cons (bs.hc.get 8 _ rfl) (cellsAt.cons (bs.hc.get 9 _ rfl) (cellsAt.cons (bs.hc.get 10 _ rfl) (cellsAt.cons (bs.hc.get 11 _ rfl) (cellsAt.cons (bs.hc.get 12 _ rfl) (cellsAt.cons (bs.hc.get 13 _ rfl) (cellsAt.cons (bs.hc.get 14 _ rfl) (cellsAt.cons (bs.hc.get 15 _ rfl) (cellsAt.cons (bs.hc.get 16 _ rfl) (cellsAt.cons (bs.hc.get 17 _ rfl) (cellsAt.cons (bs.hc.get 18 _ rfl) (cellsAt.cons (bs.hc.get 19 _ rfl) (cellsAt.cons (bs.hc.get 20 _ rfl) (cellsAt.cons (bs.hc.get 21 _ rfl) (cellsAt.cons (bs.hc.get 22 _ rfl) (cellsAt.cons (bs.hc.get 23 _ rfl) (cellsAt.cons (bs.hc.get 24 _ rfl) (cellsAt.cons (bs.hc.get 25 _ rfl) (cellsAt.cons (bs.hc.get 26 _ rfl) (cellsAt.cons (bs.hc.get 27 _ rfl) (cellsAt.cons (bs.hc.get 28 _ rfl) (cellsAt.cons (bs.hc.get 29 _ rfl) (cellsAt.cons (bs.hc.get 30 _ rfl) (cellsAt.cons (bs.hc.get 31 _ rfl) (cellsAt.cons (bs.hc.get 32 _ rfl) (cellsAt.cons (bs.hc.get 33 _ rfl) (cellsAt.cons (bs.hc.get 34 _ rfl) (cellsAt.cons (bs.hc.get 35 _ rfl) (cellsAt.cons (bs.hc.get 36 _ rfl) (cellsAt.cons (bs.hc.get 37 _ rfl) (cellsAt.cons (bs.hc.get 38 _ rfl) (cellsAt.cons (bs.hc.get 39 _ rfl) (cellsAt.cons (bs.hc.get 40 _ rfl) (cellsAt.cons (bs.hc.get 41 _ rfl) (cellsAt.cons (bs.hc.get 42 _ rfl) (cellsAt.cons (bs.hc.get 43 _ rfl) (cellsAt.cons (bs.hc.get 44 _ rfl) (cellsAt.cons (bs.hc.get 45 _ rfl) (cellsAt.cons (bs.hc.get 46 _ rfl) (cellsAt.cons rfl (cellsAt.cons rfl (cellsAt.cons rfl (cellsAt.cons rfl (cellsAt.cons (bs.hc.get 51 _ rfl) (cellsAt.cons (bs.hc.get 52 _ rfl) (cellsAt.cons (bs.hc.get 53 _ rfl) (cellsAt.cons (bs.hc.get 54 _ rfl) (cellsAt.cons (bs.hc.get 55 _ rfl) (cellsAt.cons (bs.hc.get 56 _ rfl) (cellsAt.cons rfl (cellsAt.cons (bs.hc.get 58 _ rfl) (cellsAt.cons (bs.hc.get 59 _ rfl) cellsAt.nil)))))))))))))))))))))))))))))))))))))))))))))))))))))))))))), (knwn_mono (by repeat (first | exact Knw.refl _ | apply Knw.cons)) bs.h2), (by repeat (first | exact bs.lim | apply Lim.consH _ dE dE | apply Lim.consS _ dE)), bs.limB, (fun k_ h1_ o_ ho_ => Eq.trans (by repeat (first | rfl | rw [lkp_ky_ne oM ho_ dE])) (bs.frH k_ h1_ o_ ho_)), (fun k_ h1_ h2_ => Eq.trans aH (bs.frS k_ h1_ h2_))⟩ ((s9.cons dE).cons dE) ((sm.cons dE).cons dE) ((s12.cons dE).cons dE) ((s13.cons dE).cons dE) ((sw.cons dE).cons dE) ((s15.cons dE).cons dE) ((s16.cons dE).cons dE) ((s17.cons dE).cons dE) ((s18.cons dE).cons dE) rfl rfl hR
end
end Go.Proofs.YtdbbifbmkfmbkaaGreat
namespace Go.Proofs.YtdbbifbmkfmbkaaGreat
open Go.RowKit Go.Fr Go.Tab
section
variable {F : Nat → Prop} {w0 : World} {B : List (Nat × Nat)} {H : List (Nat × Value)} {S : List (Nat × Slc)}
open Go.Md
theorem bu_B {R : Ending → World → Prop} {o : Opn} {x : Av} {b1 b2 b3 : Nat} {H0 : List (Nat × Value)} {S0 : List (Nat × Slc)} (ok : OpOk o) (hsort : o.freq < 4 → SortOk F w0 (raw o)) (bs : Bs F w0 B H0 S0 b1 b2 b3 (oc0 o x) (rcA o x) H S) (s9 : SrcT F w0 S 11 (.slice x.p9 (o.setpos).length x.c9) o.setpos) (s10 : SrcT F w0 S 11 (.slice x.p10 (o.month).length x.c10) o.month) (s11 : SrcT F w0 S 11 (.slice x.p11 (o.mday).length x.c11) o.mday) (s12 : SrcT F w0 S 11 (.slice x.p12 (o.yday).length x.c12) o.yday) (s13 : SrcT F w0 S 11 (.slice x.p13 (o.weekno).length x.c13) o.weekno) (s14 : SrcU F w0 S 11 (.slice x.p14 (o.wday).length x.c14) o.wday) (s15 : SrcT F w0 S 11 (.slice x.p15 (o.hour).length x.c15) o.hour) (s16 : SrcT F w0 S 11 (.slice x.p16 (o.minute).length x.c16) o.minute) (s17 : SrcT F w0 S 11 (.slice x.p17 (o.second).length x.c17) o.second) (s18 : SrcT F w0 S 11 (.slice x.p18 (o.easter).length x.c18) o.easter)  (hR : ∀ (x : Av) (S' : List (Nat × Slc)), OutF F w0 o x S0 S' → ∀ w, Sees F w0 B H0 S' w → R (.returned (.agg (outC o x).toArray)) w) : GC Go.Proofs.Tryz.prog (Go.Fr.part [1, 1, 1, 1, 1, 1, 1, 1, 1, 1, 1, 1, 1, 1] (Go.Fr.bodyOf Tryz.f43)) (bodyPost Go.Proofs.Tryz.prog Tryz.f43 R) 300 [(1, pT b1), (2, pT b2), (3, pT b3)] F w0 ((52, b3) :: (51, b2) :: (50, b1) :: B) H S := by
 have ok_ := ok
 have hd_ := ok.d
 refine g2 ?_
 rcases Decidable.em (o.weekno.length = 0) with hz0 | hz0
 ·rcases Decidable.em (o.yday.length = 0) with hz1 | hz1
  ·rcases Decidable.em (o.mday.length = 0) with hz2 | hz2
   ·rcases Decidable.em (o.wday.length = 0) with hz3 | hz3
    ·rcases Decidable.em (o.easter.length = 0) with hz4 | hz4
     ·have hnd : noDays o = true := by unfold noDays; rw [hz0, hz1, hz2, hz3, hz4]; rfl
      refine g1 ?_
      refine rl (rfa 13) ?_
      refine rl (rd_load 50 rfl rfl (bs.ho.get 13 _ rfl) kR dE) ?_
      refine g1 ?_
      refine rl ((rd_eql rfl rfl).to eT) ?_
      refine g2 ?_
      refine rl (rfa 12) ?_
      refine g1 ?_
      refine rl (rd_load 50 rfl rfl (bs.ho.get 12 _ rfl) kR dE) ?_
      refine g3 ?_
      refine rl ((rd_eql rfl rfl).to eT) ?_
      refine g3 ?_
      refine rl (rfa 11) ?_
      refine g1 ?_
      refine rl (rd_load 50 rfl rfl (bs.ho.get 11 _ rfl) kR dE) ?_
      refine g3 ?_
      refine rl ((rd_eql rfl rfl).to eT) ?_
      refine g3 ?_
      refine rl (rfa 14) ?_
      refine g1 ?_
      refine rl (rd_load 50 rfl rfl (bs.ho.get 14 _ rfl) kR dE) ?_
      refine g3 ?_
      refine rl ((rd_eql rfl rfl).to eT) ?_
      refine g3 ?_
      refine rl (rfa 18) ?_
      refine g1 ?_
      refine rl (rd_load 50 rfl rfl (bs.ho.get 18 _ rfl) kR dE) ?_
      refine g3 ?_
      refine rl ((rd_eql rfl rfl).to eT) ?_
      refine g3 ?_
      refine GC_is_true rfl rfl ?_
      refine g2 ?_
      refine rl (rfa 38) ?_
      refine rl (rd_load 52 rfl rfl (bs.hc.get 38 _ rfl) kR dE) ?_
      refine g3 ?_
      refine GC_cond rfl (fun hc1 => ?_) (fun hc2 => ?_)
      ·have hf0 : o.freq = 0 := beq_iff_eq.1 hc1
       refine g3 ?_
       refine rl (rfa 10) ?_
       refine rl (rd_load 50 rfl rfl (bs.ho.get 10 _ rfl) kR dE) ?_
       refine g4 ?_
       refine GC_cond rfl (fun hc1 => ?_) (fun hc2 => ?_)
       ·have hmz : o.month.length = 0 := by have := beq_iff_eq.1 hc1; omega
        refine g1 ?_
        refine rl (rfa 39) ?_
        refine rl (rd_load2 52 rfl rfl (bs.hc.get 39 _ rfl) (bs.hc.get 40 _ rfl) kR dE) ?_
        refine gL (cvo rfl (fun w_ s_ => month_calls _ _ oM w_) ?_)
        refine gL (at_one_ 16 (e := 3) (sz := 1) (by_ := 8) (zs := [iV 0]) (cs := [iV (Cal.monthOf (o.d / 86400))]) dE kR rfl dE dE rfl rfl rfl (fun bmo => ?_))
        refine rl (rfa 10) ?_
        refine gL (at_store 50 rfl rfl rfl (bs.ho.get 10 _ rfl) kR rfl dE ?_)
        refine g3 ?_
        refine rl (rfa 39) ?_
        refine rl (rd_load2 52 rfl rfl (bs.hc.get 39 _ rfl) (bs.hc.get 40 _ rfl) kR dE) ?_
        refine gL (cvo rfl (fun w_ s_ => day_calls _ _ oM w_) ?_)
        refine gL (at_one_ 17 (e := 3) (sz := 1) (by_ := 8) (zs := [iV 0]) (cs := [iV (Cal.mdayOf (o.d / 86400))]) dE kR rfl dE dE rfl rfl rfl (fun bda => ?_))
        refine rl (rfa 11) ?_
        refine gL (at_store 50 rfl rfl rfl (bs.ho.get 11 _ rfl) kR rfl dE ?_)
        refine g2 ?_
        refine GC_to (L' := [(1, pT b1), (2, pT b2), (3, pT b3)]) kns (fun w s => s) ?_
        have e_month : month' o = [Cal.monthOf (o.d / 86400)] := by unfold month'; simp [hnd, hf0, hmz]
        have e_mday : mday' o = [Cal.mdayOf (o.d / 86400)] := by unfold mday'; simp [hnd, hf0, hmz]
        have e_wday : wday' o = o.wday := by unfold wday'; simp [hnd, hf0, hmz]
        refine bu_C (x := { x with pm := some ⟨bmo, 0, none⟩, cm := 1, pd := some ⟨bda, 0, none⟩, cd := 1, pw := x.p14, cw := x.c14 }) ok hsort (H := (ky 50 11, sL bda 1 1) :: (ky 50 10, sL bmo 1 1) :: H) (S := (17, ⟨sL bda 1 1, 3, 1, 1, [iV (Cal.mdayOf (o.d / 86400))]⟩) :: (16, ⟨sL bmo 1 1, 3, 1, 1, [iV (Cal.monthOf (o.d / 86400))]⟩) :: S) ⟨(cellsAt.cons (bs.ho.get 0 _ rfl) (cellsAt.cons (bs.ho.get 1 _ rfl) (cellsAt.cons (bs.ho.get 2 _ rfl) (cellsAt.cons (bs.ho.get 3 _ rfl) (cellsAt.cons (bs.ho.get 4 _ rfl) (cellsAt.cons (bs.ho.get 5 _ rfl) (cellsAt.cons (bs.ho.get 6 _ rfl) (cellsAt.cons (bs.ho.get 7 _ rfl) (cellsAt.cons (bs.ho.get 8 _ rfl) (cellsAt.cons (bs.ho.get 9 _ rfl) (cellsAt.cons (show lkp (ky 50 10) _ = some (sL bmo (month' o).length 1) from by rw [e_month]; rfl) (cellsAt.cons (show lkp (ky 50 11) _ = some (sL bda (mday' o).length 1) from by rw [e_mday]; rfl) (cellsAt.cons (bs.ho.get 12 _ rfl) (cellsAt.cons (bs.ho.get 13 _ rfl) (cellsAt.cons (show lkp (ky 50 14) _ = some (Value.slice x.p14 (wday' o).length x.c14) from by rw [e_wday]; exact bs.ho.get 14 _ rfl) (cellsAt.cons (bs.ho.get 15 _ rfl) (cellsAt.cons (bs.ho.get 16 _ rfl) (cellsAt.cons (bs.ho.get 17 _ rfl) (cellsAt.cons (bs.ho.get 18 _ rfl) cellsAt.nil))))))))))))))))))), bs.hc, (knwn_mono (by repeat (first | exact Knw.refl _ | apply Knw.cons)) bs.h2), (by repeat (first | exact bs.lim | apply Lim.consH _ dE dE | apply Lim.consS _ dE)), bs.limB, (fun k_ h1_ o_ ho_ => Eq.trans (by repeat (first | rfl | rw [lkp_ky_ne oM ho_ dE])) (bs.frH k_ h1_ o_ ho_)), (fun k_ h1_ h2_ => Eq.trans aH (bs.frS k_ h1_ h2_))⟩ ((s9.cons dE).cons dE) (SrcT.row (e := 3) (by rw [e_month]; rfl)) (SrcT.row (e := 3) (by rw [e_mday]; rfl)) ((s12.cons dE).cons dE) ((s13.cons dE).cons dE) (by rw [e_wday]; exact (((s14.cons dE).cons dE)).more) ((s15.cons dE).cons dE) ((s16.cons dE).cons dE) ((s17.cons dE).cons dE) ((s18.cons dE).cons dE) hR
       ·have hmz : ¬ o.month.length = 0 := by have := beq_eq_false_iff_ne.1 hc2; omega
        refine g3 ?_
        refine rl (rfa 39) ?_
        refine rl (rd_load2 52 rfl rfl (bs.hc.get 39 _ rfl) (bs.hc.get 40 _ rfl) kR dE) ?_
        refine gL (cvo rfl (fun w_ s_ => day_calls _ _ oM w_) ?_)
        refine gL (at_one_ 17 (e := 3) (sz := 1) (by_ := 8) (zs := [iV 0]) (cs := [iV (Cal.mdayOf (o.d / 86400))]) dE kR rfl dE dE rfl rfl rfl (fun bda => ?_))
        refine rl (rfa 11) ?_
        refine gL (at_store 50 rfl rfl rfl (bs.ho.get 11 _ rfl) kR rfl dE ?_)
        refine g2 ?_
        refine GC_to (L' := [(1, pT b1), (2, pT b2), (3, pT b3)]) kns (fun w s => s) ?_
        have e_month : month' o = o.month := by unfold month'; simp [hnd, hf0, hmz]
        have e_mday : mday' o = [Cal.mdayOf (o.d / 86400)] := by unfold mday'; simp [hnd, hf0, hmz]
        have e_wday : wday' o = o.wday := by unfold wday'; simp [hnd, hf0, hmz]
        refine bu_C (x := { x with pm := x.p10, cm := x.c10, pd := some ⟨bda, 0, none⟩, cd := 1, pw := x.p14, cw := x.c14 }) ok hsort (H := (ky 50 11, sL bda 1 1) :: H) (S := (17, ⟨sL bda 1 1, 3, 1, 1, [iV (Cal.mdayOf (o.d / 86400))]⟩) :: S) ⟨(cellsAt.cons (bs.ho.get 0 _ rfl) (cellsAt.cons (bs.ho.get 1 _ rfl) (cellsAt.cons (bs.ho.get 2 _ rfl) (cellsAt.cons (bs.ho.get 3 _ rfl) (cellsAt.cons (bs.ho.get 4 _ rfl) (cellsAt.cons (bs.ho.get 5 _ rfl) (cellsAt.cons (bs.ho.get 6 _ rfl) (cellsAt.cons (bs.ho.get 7 _ rfl) (cellsAt.cons (bs.ho.get 8 _ rfl) (cellsAt.cons (bs.ho.get 9 _ rfl) (cellsAt.cons (show lkp (ky 50 10) _ = some (Value.slice x.p10 (month' o).length x.c10) from by rw [e_month]; exact bs.ho.get 10 _ rfl) (cellsAt.cons (show lkp (ky 50 11) _ = some (sL bda (mday' o).length 1) from by rw [e_mday]; rfl) (cellsAt.cons (bs.ho.get 12 _ rfl) (cellsAt.cons (bs.ho.get 13 _ rfl) (cellsAt.cons (show lkp (ky 50 14) _ = some (Value.slice x.p14 (wday' o).length x.c14) from by rw [e_wday]; exact bs.ho.get 14 _ rfl) (cellsAt.cons (bs.ho.get 15 _ rfl) (cellsAt.cons (bs.ho.get 16 _ rfl) (cellsAt.cons (bs.ho.get 17 _ rfl) (cellsAt.cons (bs.ho.get 18 _ rfl) cellsAt.nil))))))))))))))))))), bs.hc, (knwn_mono (by repeat (first | exact Knw.refl _ | apply Knw.cons)) bs.h2), (by repeat (first | exact bs.lim | apply Lim.consH _ dE dE | apply Lim.consS _ dE)), bs.limB, (fun k_ h1_ o_ ho_ => Eq.trans (by repeat (first | rfl | rw [lkp_ky_ne oM ho_ dE])) (bs.frH k_ h1_ o_ ho_)), (fun k_ h1_ h2_ => Eq.trans aH (bs.frS k_ h1_ h2_))⟩ (s9.cons dE) (by rw [e_month]; exact ((s10.cons dE)).more) (SrcT.row (e := 3) (by rw [e_mday]; rfl)) (s12.cons dE) (s13.cons dE) (by rw [e_wday]; exact ((s14.cons dE)).more) (s15.cons dE) (s16.cons dE) (s17.cons dE) (s18.cons dE) hR
      ·have hf0 : o.freq ≠ 0 := beq_eq_false_iff_ne.1 hc2
       refine g2 ?_
       refine rl (rfa 38) ?_
       refine rl (rd_load 52 rfl rfl (bs.hc.get 38 _ rfl) kR dE) ?_
       refine g3 ?_
       refine GC_cond rfl (fun hc1 => ?_) (fun hc2 => ?_)
       ·have hf1 : o.freq = 1 := beq_iff_eq.1 hc1
        refine g1 ?_
        refine rl (rfa 39) ?_
        refine rl (rd_load2 52 rfl rfl (bs.hc.get 39 _ rfl) (bs.hc.get 40 _ rfl) kR dE) ?_
        refine gL (cvo rfl (fun w_ s_ => day_calls _ _ oM w_) ?_)
        refine gL (at_one_ 17 (e := 3) (sz := 1) (by_ := 8) (zs := [iV 0]) (cs := [iV (Cal.mdayOf (o.d / 86400))]) dE kR rfl dE dE rfl rfl rfl (fun bda => ?_))
        refine rl (rfa 11) ?_
        refine gL (at_store 50 rfl rfl rfl (bs.ho.get 11 _ rfl) kR rfl dE ?_)
        refine g2 ?_
        refine GC_to (L' := [(1, pT b1), (2, pT b2), (3, pT b3)]) kns (fun w s => s) ?_
        have e_month : month' o = o.month := by unfold month'; simp [hnd, hf0, hf1]
        have e_mday : mday' o = [Cal.mdayOf (o.d / 86400)] := by unfold mday'; simp [hnd, hf0, hf1]
        have e_wday : wday' o = o.wday := by unfold wday'; simp [hnd, hf0, hf1]
        refine bu_C (x := { x with pm := x.p10, cm := x.c10, pd := some ⟨bda, 0, none⟩, cd := 1, pw := x.p14, cw := x.c14 }) ok hsort (H := (ky 50 11, sL bda 1 1) :: H) (S := (17, ⟨sL bda 1 1, 3, 1, 1, [iV (Cal.mdayOf (o.d / 86400))]⟩) :: S) ⟨(cellsAt.cons (bs.ho.get 0 _ rfl) (cellsAt.cons (bs.ho.get 1 _ rfl) (cellsAt.cons (bs.ho.get 2 _ rfl) (cellsAt.cons (bs.ho.get 3 _ rfl) (cellsAt.cons (bs.ho.get 4 _ rfl) (cellsAt.cons (bs.ho.get 5 _ rfl) (cellsAt.cons (bs.ho.get 6 _ rfl) (cellsAt.cons (bs.ho.get 7 _ rfl) (cellsAt.cons (bs.ho.get 8 _ rfl) (cellsAt.cons (bs.ho.get 9 _ rfl) (cellsAt.cons (show lkp (ky 50 10) _ = some (Value.slice x.p10 (month' o).length x.c10) from by rw [e_month]; exact bs.ho.get 10 _ rfl) (cellsAt.cons (show lkp (ky 50 11) _ = some (sL bda (mday' o).length 1) from by rw [e_mday]; rfl) (cellsAt.cons (bs.ho.get 12 _ rfl) (cellsAt.cons (bs.ho.get 13 _ rfl) (cellsAt.cons (show lkp (ky 50 14) _ = some (Value.slice x.p14 (wday' o).length x.c14) from by rw [e_wday]; exact bs.ho.get 14 _ rfl) (cellsAt.cons (bs.ho.get 15 _ rfl) (cellsAt.cons (bs.ho.get 16 _ rfl) (cellsAt.cons (bs.ho.get 17 _ rfl) (cellsAt.cons (bs.ho.get 18 _ rfl) cellsAt.nil))))))))))))))))))), bs.hc, (knwn_mono (by repeat (first | exact Knw.refl _ | apply Knw.cons)) bs.h2), (by repeat (first | exact bs.lim | apply Lim.consH _ dE dE | apply Lim.consS _ dE)), bs.limB, (fun k_ h1_ o_ ho_ => Eq.trans (by repeat (first | rfl | rw [lkp_ky_ne oM ho_ dE])) (bs.frH k_ h1_ o_ ho_)), (fun k_ h1_ h2_ => Eq.trans aH (bs.frS k_ h1_ h2_))⟩ (s9.cons dE) (by rw [e_month]; exact ((s10.cons dE)).more) (SrcT.row (e := 3) (by rw [e_mday]; rfl)) (s12.cons dE) (s13.cons dE) (by rw [e_wday]; exact ((s14.cons dE)).more) (s15.cons dE) (s16.cons dE) (s17.cons dE) (s18.cons dE) hR
       ·have hf1 : o.freq ≠ 1 := beq_eq_false_iff_ne.1 hc2
        refine g2 ?_
        refine rl (rfa 38) ?_
        refine rl (rd_load 52 rfl rfl (bs.hc.get 38 _ rfl) kR dE) ?_
        refine g3 ?_
        refine GC_cond rfl (fun hc1 => ?_) (fun hc2 => ?_)
        ·have hf2 : o.freq = 2 := beq_iff_eq.1 hc1
         refine g1 ?_
         refine rl (rfa 39) ?_
         refine rl (rd_load2 52 rfl rfl (bs.hc.get 39 _ rfl) (bs.hc.get 40 _ rfl) kR dE) ?_
         refine gL (cvo (v := iV ((o.d / 86400 + 1) % 7)) rfl (fun w_ s_ => (weekday_calls _ _ oM w_).mono fun e_ w2_ h_ => ⟨h_.1.trans (congrArg Ending.returned rfl), h_.2⟩) ?_)
         refine gL (cvo (v := iV (((o.d / 86400 + 1) % 7 + 6) % 7)) rfl (fun w_ s_ => (toPy_calls _ oM w_).mono fun e_ w2_ h_ => ⟨h_.1.trans (congrArg Ending.returned rfl), h_.2⟩) ?_)
         refine rl ((rd_build1 (k2 := .i64) (n := 0) rfl (fun w => by kernel_rfl))) ?_
         refine gL (at_one_ 21 (e := 59) (sz := 2) (by_ := 16) (zs := [iV 0, iV 0]) (cs := [iV (((o.d / 86400 + 1) % 7 + 6) % 7), iV 0]) dE kR rfl dE dE rfl rfl rfl (fun bwd => ?_))
         refine rl (rfa 14) ?_
         refine gL (at_store 50 rfl rfl rfl (bs.ho.get 14 _ rfl) kR rfl dE ?_)
         refine g2 ?_
         refine GC_to (L' := [(1, pT b1), (2, pT b2), (3, pT b3)]) kns (fun w s => s) ?_
         have e_month : month' o = o.month := by unfold month'; simp [hnd, hf0, hf1, hf2]
         have e_mday : mday' o = o.mday := by unfold mday'; simp [hnd, hf0, hf1, hf2]
         have e_wday : wday' o = [(((o.d / 86400 + 1) % 7 + 6) % 7, 0)] := by unfold wday'; simp [hnd, hf0, hf1, hf2]
         refine bu_C (x := { x with pm := x.p10, cm := x.c10, pd := x.p11, cd := x.c11, pw := some ⟨bwd, 0, none⟩, cw := 1 }) ok hsort (H := (ky 50 14, sL bwd 1 1) :: H) (S := (21, ⟨sL bwd 1 1, 59, 2, 1, [iV (((o.d / 86400 + 1) % 7 + 6) % 7), iV 0]⟩) :: S) ⟨(cellsAt.cons (bs.ho.get 0 _ rfl) (cellsAt.cons (bs.ho.get 1 _ rfl) (cellsAt.cons (bs.ho.get 2 _ rfl) (cellsAt.cons (bs.ho.get 3 _ rfl) (cellsAt.cons (bs.ho.get 4 _ rfl) (cellsAt.cons (bs.ho.get 5 _ rfl) (cellsAt.cons (bs.ho.get 6 _ rfl) (cellsAt.cons (bs.ho.get 7 _ rfl) (cellsAt.cons (bs.ho.get 8 _ rfl) (cellsAt.cons (bs.ho.get 9 _ rfl) (cellsAt.cons (show lkp (ky 50 10) _ = some (Value.slice x.p10 (month' o).length x.c10) from by rw [e_month]; exact bs.ho.get 10 _ rfl) (cellsAt.cons (show lkp (ky 50 11) _ = some (Value.slice x.p11 (mday' o).length x.c11) from by rw [e_mday]; exact bs.ho.get 11 _ rfl) (cellsAt.cons (bs.ho.get 12 _ rfl) (cellsAt.cons (bs.ho.get 13 _ rfl) (cellsAt.cons (show lkp (ky 50 14) _ = some (sL bwd (wday' o).length 1) from by rw [e_wday]; rfl) (cellsAt.cons (bs.ho.get 15 _ rfl) (cellsAt.cons (bs.ho.get 16 _ rfl) (cellsAt.cons (bs.ho.get 17 _ rfl) (cellsAt.cons (bs.ho.get 18 _ rfl) cellsAt.nil))))))))))))))))))), bs.hc, (knwn_mono (by repeat (first | exact Knw.refl _ | apply Knw.cons)) bs.h2), (by repeat (first | exact bs.lim | apply Lim.consH _ dE dE | apply Lim.consS _ dE)), bs.limB, (fun k_ h1_ o_ ho_ => Eq.trans (by repeat (first | rfl | rw [lkp_ky_ne oM ho_ dE])) (bs.frH k_ h1_ o_ ho_)), (fun k_ h1_ h2_ => Eq.trans aH (bs.frS k_ h1_ h2_))⟩ (s9.cons dE) (by rw [e_month]; exact ((s10.cons dE)).more) (by rw [e_mday]; exact ((s11.cons dE)).more) (s12.cons dE) (s13.cons dE) (SrcU.row (e := 59) (by rw [e_wday]; rfl)) (s15.cons dE) (s16.cons dE) (s17.cons dE) (s18.cons dE) hR
        ·have hf2 : o.freq ≠ 2 := beq_eq_false_iff_ne.1 hc2
         refine g2 ?_
         refine GC_to (L' := [(1, pT b1), (2, pT b2), (3, pT b3)]) kns (fun w s => s) ?_
         have e_month : month' o = o.month := by unfold month'; simp [hnd, hf0, hf1, hf2]
         have e_mday : mday' o = o.mday := by unfold mday'; simp [hnd, hf0, hf1, hf2]
         have e_wday : wday' o = o.wday := by unfold wday'; simp [hnd, hf0, hf1, hf2]
         refine bu_C (x := { x with pm := x.p10, cm := x.c10, pd := x.p11, cd := x.c11, pw := x.p14, cw := x.c14 }) ok hsort (H := H) (S := S) ⟨(cellsAt.cons (bs.ho.get 0 _ rfl) (cellsAt.cons (bs.ho.get 1 _ rfl) (cellsAt.cons (bs.ho.get 2 _ rfl) (cellsAt.cons (bs.ho.get 3 _ rfl) (cellsAt.cons (bs.ho.get 4 _ rfl) (cellsAt.cons (bs.ho.get 5 _ rfl) (cellsAt.cons (bs.ho.get 6 _ rfl) (cellsAt.cons (bs.ho.get 7 _ rfl) (cellsAt.cons (bs.ho.get 8 _ rfl) (cellsAt.cons (bs.ho.get 9 _ rfl) (cellsAt.cons (show lkp (ky 50 10) _ = some (Value.slice x.p10 (month' o).length x.c10) from by rw [e_month]; exact bs.ho.get 10 _ rfl) (cellsAt.cons (show lkp (ky 50 11) _ = some (Value.slice x.p11 (mday' o).length x.c11) from by rw [e_mday]; exact bs.ho.get 11 _ rfl) (cellsAt.cons (bs.ho.get 12 _ rfl) (cellsAt.cons (bs.ho.get 13 _ rfl) (cellsAt.cons (show lkp (ky 50 14) _ = some (Value.slice x.p14 (wday' o).length x.c14) from by rw [e_wday]; exact bs.ho.get 14 _ rfl) (cellsAt.cons (bs.ho.get 15 _ rfl) (cellsAt.cons (bs.ho.get 16 _ rfl) (cellsAt.cons (bs.ho.get 17 _ rfl) (cellsAt.cons (bs.ho.get 18 _ rfl) cellsAt.nil))))))))))))))))))), bs.hc, (knwn_mono (by repeat (first | exact Knw.refl _ | apply Knw.cons)) bs.h2), bs.lim, bs.limB, (fun k_ h1_ o_ ho_ => Eq.trans (by repeat (first | rfl | rw [lkp_ky_ne oM ho_ dE])) (bs.frH k_ h1_ o_ ho_)), (fun k_ h1_ h2_ => Eq.trans aH (bs.frS k_ h1_ h2_))⟩ s9 (by rw [e_month]; exact (s10).more) (by rw [e_mday]; exact (s11).more) s12 s13 (by rw [e_wday]; exact (s14).more) s15 s16 s17 s18 hR
     ·have hnd : noDays o = false := by unfold noDays; rw [hz0, hz1, hz2, hz3, beq_eq_false_iff_ne.2 hz4]; simp
      refine g1 ?_
      refine rl (rfa 13) ?_
      refine rl (rd_load 50 rfl rfl (bs.ho.get 13 _ rfl) kR dE) ?_
      refine g1 ?_
      refine rl ((rd_eql rfl rfl).to eT) ?_
      refine g2 ?_
      refine rl (rfa 12) ?_
      refine g1 ?_
      refine rl (rd_load 50 rfl rfl (bs.ho.get 12 _ rfl) kR dE) ?_
      refine g3 ?_
      refine rl ((rd_eql rfl rfl).to eT) ?_
      refine g3 ?_
      refine rl (rfa 11) ?_
      refine g1 ?_
      refine rl (rd_load 50 rfl rfl (bs.ho.get 11 _ rfl) kR dE) ?_
      refine g3 ?_
      refine rl ((rd_eql rfl rfl).to eT) ?_
      refine g3 ?_
      refine rl (rfa 14) ?_
      refine g1 ?_
      refine rl (rd_load 50 rfl rfl (bs.ho.get 14 _ rfl) kR dE) ?_
      refine g3 ?_
      refine rl ((rd_eql rfl rfl).to eT) ?_
      refine g3 ?_
      refine rl (rfa 18) ?_
      refine g1 ?_
      refine rl (rd_load 50 rfl rfl (bs.ho.get 18 _ rfl) kR dE) ?_
      refine g3 ?_
      refine rl ((rd_eql rfl rfl).to eF) ?_
      refine g3 ?_
      refine GC_is_false rfl rfl ?_
      refine g2 ?_
      refine GC_to (L' := [(1, pT b1), (2, pT b2), (3, pT b3)]) kns (fun w s => s) ?_
      have e_month : month' o = o.month := by unfold month'; simp [hnd]
      have e_mday : mday' o = o.mday := by unfold mday'; simp [hnd]
      have e_wday : wday' o = o.wday := by unfold wday'; simp [hnd]
      refine bu_C (x := { x with pm := x.p10, cm := x.c10, pd := x.p11, cd := x.c11, pw := x.p14, cw := x.c14 }) ok hsort (H := H) (S := S) ⟨(cellsAt.cons (bs.ho.get 0 _ rfl) (cellsAt.cons (bs.ho.get 1 _ rfl) (cellsAt.cons (bs.ho.get 2 _ rfl) (cellsAt.cons (bs.ho.get 3 _ rfl) (cellsAt.cons (bs.ho.get 4 _ rfl) (cellsAt.cons (bs.ho.get 5 _ rfl) (cellsAt.cons (bs.ho.get 6 _ rfl) (cellsAt.cons (bs.ho.get 7 _ rfl) (cellsAt.cons (bs.ho.get 8 _ rfl) (cellsAt.cons (bs.ho.get 9 _ rfl) (cellsAt.cons (show lkp (ky 50 10) _ = some (Value.slice x.p10 (month' o).length x.c10) from by rw [e_month]; exact bs.ho.get 10 _ rfl) (cellsAt.cons (show lkp (ky 50 11) _ = some (Value.slice x.p11 (mday' o).length x.c11) from by rw [e_mday]; exact bs.ho.get 11 _ rfl) (cellsAt.cons (bs.ho.get 12 _ rfl) (cellsAt.cons (bs.ho.get 13 _ rfl) (cellsAt.cons (show lkp (ky 50 14) _ = some (Value.slice x.p14 (wday' o).length x.c14) from by rw [e_wday]; exact bs.ho.get 14 _ rfl) (cellsAt.cons (bs.ho.get 15 _ rfl) (cellsAt.cons (bs.ho.get 16 _ rfl) (cellsAt.cons (bs.ho.get 17 _ rfl) (cellsAt.cons (bs.ho.get 18 _ rfl) cellsAt.nil))))))))))))))))))), bs.hc, (knwn_mono (by repeat (first | exact Knw.refl _ | apply Knw.cons)) bs.h2), bs.lim, bs.limB, (fun k_ h1_ o_ ho_ => Eq.trans (by repeat (first | rfl | rw [lkp_ky_ne oM ho_ dE])) (bs.frH k_ h1_ o_ ho_)), (fun k_ h1_ h2_ => Eq.trans aH (bs.frS k_ h1_ h2_))⟩ s9 (by rw [e_month]; exact (s10).more) (by rw [e_mday]; exact (s11).more) s12 s13 (by rw [e_wday]; exact (s14).more) s15 s16 s17 s18 hR
    ·have hnd : noDays o = false := by unfold noDays; rw [hz0, hz1, hz2, beq_eq_false_iff_ne.2 hz3]; simp
     refine g1 ?_
     refine rl (rfa 13) ?_
     refine rl (rd_load 50 rfl rfl (bs.ho.get 13 _ rfl) kR dE) ?_
     refine g1 ?_
     refine rl ((rd_eql rfl rfl).to eT) ?_
     refine g2 ?_
     refine rl (rfa 12) ?_
     refine g1 ?_
     refine rl (rd_load 50 rfl rfl (bs.ho.get 12 _ rfl) kR dE) ?_
     refine g3 ?_
     refine rl ((rd_eql rfl rfl).to eT) ?_
     refine g3 ?_
     refine rl (rfa 11) ?_
     refine g1 ?_
     refine rl (rd_load 50 rfl rfl (bs.ho.get 11 _ rfl) kR dE) ?_
     refine g3 ?_
     refine rl ((rd_eql rfl rfl).to eT) ?_
     refine g3 ?_
     refine rl (rfa 14) ?_
     refine g1 ?_
     refine rl (rd_load 50 rfl rfl (bs.ho.get 14 _ rfl) kR dE) ?_
     refine g3 ?_
     refine rl ((rd_eql rfl rfl).to eF) ?_
     refine g9 ?_
     refine GC_is_false rfl rfl ?_
     refine g2 ?_
     refine GC_to (L' := [(1, pT b1), (2, pT b2), (3, pT b3)]) kns (fun w s => s) ?_
     have e_month : month' o = o.month := by unfold month'; simp [hnd]
     have e_mday : mday' o = o.mday := by unfold mday'; simp [hnd]
     have e_wday : wday' o = o.wday := by unfold wday'; simp [hnd]
     refine bu_C (x := { x with pm := x.p10, cm := x.c10, pd := x.p11, cd := x.c11, pw := x.p14, cw := x.c14 }) ok hsort (H := H) (S := S) ⟨(cellsAt.cons (bs.ho.get 0 _ rfl) (cellsAt.cons (bs.ho.get 1 _ rfl) (cellsAt.cons (bs.ho.get 2 _ rfl) (cellsAt.cons (bs.ho.get 3 _ rfl) (cellsAt.cons (bs.ho.get 4 _ rfl) (cellsAt.cons (bs.ho.get 5 _ rfl) (cellsAt.cons (bs.ho.get 6 _ rfl) (cellsAt.cons (bs.ho.get 7 _ rfl) (cellsAt.cons (bs.ho.get 8 _ rfl) (cellsAt.cons (bs.ho.get 9 _ rfl) (cellsAt.cons (show lkp (ky 50 10) _ = some (Value.slice x.p10 (month' o).length x.c10) from by rw [e_month]; exact bs.ho.get 10 _ rfl) (cellsAt.cons (show lkp (ky 50 11) _ = some (Value.slice x.p11 (mday' o).length x.c11) from by rw [e_mday]; exact bs.ho.get 11 _ rfl) (cellsAt.cons (bs.ho.get 12 _ rfl) (cellsAt.cons (bs.ho.get 13 _ rfl) (cellsAt.cons (show lkp (ky 50 14) _ = some (Value.slice x.p14 (wday' o).length x.c14) from by rw [e_wday]; exact bs.ho.get 14 _ rfl) (cellsAt.cons (bs.ho.get 15 _ rfl) (cellsAt.cons (bs.ho.get 16 _ rfl) (cellsAt.cons (bs.ho.get 17 _ rfl) (cellsAt.cons (bs.ho.get 18 _ rfl) cellsAt.nil))))))))))))))))))), bs.hc, (knwn_mono (by repeat (first | exact Knw.refl _ | apply Knw.cons)) bs.h2), bs.lim, bs.limB, (fun k_ h1_ o_ ho_ => Eq.trans (by repeat (first | rfl | rw [lkp_ky_ne oM ho_ dE])) (bs.frH k_ h1_ o_ ho_)), (fun k_ h1_ h2_ => Eq.trans aH (bs.frS k_ h1_ h2_))⟩ s9 (by rw [e_month]; exact (s10).more) (by rw [e_mday]; exact (s11).more) s12 s13 (by rw [e_wday]; exact (s14).more) s15 s16 s17 s18 hR
   ·have hnd : noDays o = false := by unfold noDays; rw [hz0, hz1, beq_eq_false_iff_ne.2 hz2]; simp
    refine g1 ?_
    refine rl (rfa 13) ?_
    refine rl (rd_load 50 rfl rfl (bs.ho.get 13 _ rfl) kR dE) ?_
    refine g1 ?_
    refine rl ((rd_eql rfl rfl).to eT) ?_
    refine g2 ?_
    refine rl (rfa 12) ?_
    refine g1 ?_
    refine rl (rd_load 50 rfl rfl (bs.ho.get 12 _ rfl) kR dE) ?_
    refine g3 ?_
    refine rl ((rd_eql rfl rfl).to eT) ?_
    refine g3 ?_
    refine rl (rfa 11) ?_
    refine g1 ?_
    refine rl (rd_load 50 rfl rfl (bs.ho.get 11 _ rfl) kR dE) ?_
    refine g3 ?_
    refine rl ((rd_eql rfl rfl).to eF) ?_
    refine g15 ?_
    refine GC_is_false rfl rfl ?_
    refine g2 ?_
    refine GC_to (L' := [(1, pT b1), (2, pT b2), (3, pT b3)]) kns (fun w s => s) ?_
    have e_month : month' o = o.month := by unfold month'; simp [hnd]
    have e_mday : mday' o = o.mday := by unfold mday'; simp [hnd]
    have e_wday : wday' o = o.wday := by unfold wday'; simp [hnd]
    refine bu_C (x := { x with pm := x.p10, cm := x.c10, pd := x.p11, cd := x.c11, pw := x.p14, cw := x.c14 }) ok hsort (H := H) (S := S) ⟨(cellsAt.cons (bs.ho.get 0 _ rfl) (cellsAt.cons (bs.ho.get 1 _ rfl) (cellsAt.cons (bs.ho.get 2 _ rfl) (cellsAt.cons (bs.ho.get 3 _ rfl) (cellsAt.cons (bs.ho.get 4 _ rfl) (cellsAt.cons (bs.ho.get 5 _ rfl) (cellsAt.cons (bs.ho.get 6 _ rfl) (cellsAt.cons (bs.ho.get 7 _ rfl) (cellsAt.cons (bs.ho.get 8 _ rfl) (cellsAt.cons (bs.ho.get 9 _ rfl) (cellsAt.cons (show lkp (ky 50 10) _ = some (Value.slice x.p10 (month' o).length x.c10) from by rw [e_month]; exact bs.ho.get 10 _ rfl) (cellsAt.cons (show lkp (ky 50 11) _ = some (Value.slice x.p11 (mday' o).length x.c11) from by rw [e_mday]; exact bs.ho.get 11 _ rfl) (cellsAt.cons (bs.ho.get 12 _ rfl) (cellsAt.cons (bs.ho.get 13 _ rfl) (cellsAt.cons (show lkp (ky 50 14) _ = some (Value.slice x.p14 (wday' o).length x.c14) from by rw [e_wday]; exact bs.ho.get 14 _ rfl) (cellsAt.cons (bs.ho.get 15 _ rfl) (cellsAt.cons (bs.ho.get 16 _ rfl) (cellsAt.cons (bs.ho.get 17 _ rfl) (cellsAt.cons (bs.ho.get 18 _ rfl) cellsAt.nil))))))))))))))))))), bs.hc, (knwn_mono (by repeat (first | exact Knw.refl _ | apply Knw.cons)) bs.h2), bs.lim, bs.limB, (fun k_ h1_ o_ ho_ => Eq.trans (by repeat (first | rfl | rw [lkp_ky_ne oM ho_ dE])) (bs.frH k_ h1_ o_ ho_)), (fun k_ h1_ h2_ => Eq.trans aH (bs.frS k_ h1_ h2_))⟩ s9 (by rw [e_month]; exact (s10).more) (by rw [e_mday]; exact (s11).more) s12 s13 (by rw [e_wday]; exact (s14).more) s15 s16 s17 s18 hR
  ·have hnd : noDays o = false := by unfold noDays; rw [hz0, beq_eq_false_iff_ne.2 hz1]; simp
   refine g1 ?_
   refine rl (rfa 13) ?_
   refine rl (rd_load 50 rfl rfl (bs.ho.get 13 _ rfl) kR dE) ?_
   refine g1 ?_
   refine rl ((rd_eql rfl rfl).to eT) ?_
   refine g2 ?_
   refine rl (rfa 12) ?_
   refine g1 ?_
   refine rl (rd_load 50 rfl rfl (bs.ho.get 12 _ rfl) kR dE) ?_
   refine g3 ?_
   refine rl ((rd_eql rfl rfl).to eF) ?_
   refine g20 ?_
   refine g1 ?_
   refine GC_is_false rfl rfl ?_
   refine g2 ?_
   refine GC_to (L' := [(1, pT b1), (2, pT b2), (3, pT b3)]) kns (fun w s => s) ?_
   have e_month : month' o = o.month := by unfold month'; simp [hnd]
   have e_mday : mday' o = o.mday := by unfold mday'; simp [hnd]
   have e_wday : wday' o = o.wday := by unfold wday'; simp [hnd]
   refine bu_C (x := { x with pm := x.p10, cm := x.c10, pd := x.p11, cd := x.c11, pw := x.p14, cw := x.c14 }) ok hsort (H := H) (S := S) ⟨(cellsAt.cons (bs.ho.get 0 _ rfl) (cellsAt.cons (bs.ho.get 1 _ rfl) (cellsAt.cons (bs.ho.get 2 _ rfl) (cellsAt.cons (bs.ho.get 3 _ rfl) (cellsAt.cons (bs.ho.get 4 _ rfl) (cellsAt.cons (bs.ho.get 5 _ rfl) (cellsAt.cons (bs.ho.get 6 _ rfl) (cellsAt.cons (bs.ho.get 7 _ rfl) (cellsAt.cons (bs.ho.get 8 _ rfl) (cellsAt.cons (bs.ho.get 9 _ rfl) (cellsAt.cons (show lkp (ky 50 10) _ = some (Value.slice x.p10 (month' o).length x.c10) from by rw [e_month]; exact bs.ho.get 10 _ rfl) (cellsAt.cons (show lkp (ky 50 11) _ = some (Value.slice x.p11 (mday' o).length x.c11) from by rw [e_mday]; exact bs.ho.get 11 _ rfl) (cellsAt.cons (bs.ho.get 12 _ rfl) (cellsAt.cons (bs.ho.get 13 _ rfl) (cellsAt.cons (show lkp (ky 50 14) _ = some (Value.slice x.p14 (wday' o).length x.c14) from by rw [e_wday]; exact bs.ho.get 14 _ rfl) (cellsAt.cons (bs.ho.get 15 _ rfl) (cellsAt.cons (bs.ho.get 16 _ rfl) (cellsAt.cons (bs.ho.get 17 _ rfl) (cellsAt.cons (bs.ho.get 18 _ rfl) cellsAt.nil))))))))))))))))))), bs.hc, (knwn_mono (by repeat (first | exact Knw.refl _ | apply Knw.cons)) bs.h2), bs.lim, bs.limB, (fun k_ h1_ o_ ho_ => Eq.trans (by repeat (first | rfl | rw [lkp_ky_ne oM ho_ dE])) (bs.frH k_ h1_ o_ ho_)), (fun k_ h1_ h2_ => Eq.trans aH (bs.frS k_ h1_ h2_))⟩ s9 (by rw [e_month]; exact (s10).more) (by rw [e_mday]; exact (s11).more) s12 s13 (by rw [e_wday]; exact (s14).more) s15 s16 s17 s18 hR
 ·have hnd : noDays o = false := by unfold noDays; rw [beq_eq_false_iff_ne.2 hz0]; simp
  refine g1 ?_
  refine rl (rfa 13) ?_
  refine rl (rd_load 50 rfl rfl (bs.ho.get 13 _ rfl) kR dE) ?_
  refine g1 ?_
  refine rl ((rd_eql rfl rfl).to eF) ?_
  refine g25 ?_
  refine g1 ?_
  refine GC_is_false rfl rfl ?_
  refine g2 ?_
  refine GC_to (L' := [(1, pT b1), (2, pT b2), (3, pT b3)]) kns (fun w s => s) ?_
  have e_month : month' o = o.month := by unfold month'; simp [hnd]
  have e_mday : mday' o = o.mday := by unfold mday'; simp [hnd]
  have e_wday : wday' o = o.wday := by unfold wday'; simp [hnd]
  refine bu_C (x := { x with pm := x.p10, cm := x.c10, pd := x.p11, cd := x.c11, pw := x.p14, cw := x.c14 }) ok hsort (H := H) (S := S) ⟨(cellsAt.cons (bs.ho.get 0 _ rfl) (cellsAt.cons (bs.ho.get 1 _ rfl) (cellsAt.cons (bs.ho.get 2 _ rfl) (cellsAt.cons (bs.ho.get 3 _ rfl) (cellsAt.cons (bs.ho.get 4 _ rfl) (cellsAt.cons (bs.ho.get 5 _ rfl) (cellsAt.cons (bs.ho.get 6 _ rfl) (cellsAt.cons (bs.ho.get 7 _ rfl) (cellsAt.cons (bs.ho.get 8 _ rfl) (cellsAt.cons (bs.ho.get 9 _ rfl) (cellsAt.cons (show lkp (ky 50 10) _ = some (Value.slice x.p10 (month' o).length x.c10) from by rw [e_month]; exact bs.ho.get 10 _ rfl) (cellsAt.cons (show lkp (ky 50 11) _ = some (Value.slice x.p11 (mday' o).length x.c11) from by rw [e_mday]; exact bs.ho.get 11 _ rfl) (cellsAt.cons (bs.ho.get 12 _ rfl) (cellsAt.cons (bs.ho.get 13 _ rfl) (cellsAt.cons (show lkp (ky 50 14) _ = some (Value.slice x.p14 (wday' o).length x.c14) from by rw [e_wday]; exact bs.ho.get 14 _ rfl) (cellsAt.cons (bs.ho.get 15 _ rfl) (cellsAt.cons (bs.ho.get 16 _ rfl) (cellsAt.cons (bs.ho.get 17 _ rfl) (cellsAt.cons (bs.ho.get 18 _ rfl) cellsAt.nil))))))))))))))))))), bs.hc, (knwn_mono (by repeat (first | exact Knw.refl _ | apply Knw.cons)) bs.h2), bs.lim, bs.limB, (fun k_ h1_ o_ ho_ => Eq.trans (by repeat (first | rfl | rw [lkp_ky_ne oM ho_ dE])) (bs.frH k_ h1_ o_ ho_)), (fun k_ h1_ h2_ => Eq.trans aH (bs.frS k_ h1_ h2_))⟩ s9 (by rw [e_month]; exact (s10).more) (by rw [e_mday]; exact (s11).more) s12 s13 (by rw [e_wday]; exact (s14).more) s15 s16 s17 s18 hR
def rc0 (o : Opn) (x : Av) : List Value := [iV o.freq, iV o.d, iV 0, iV o.interval, iV o.wkst, iV 0, iV o.count, iV o.u, iV 0, .slice x.p9 (o.setpos).length x.c9, .slice x.p10 (o.month).length x.c10, .slice x.p11 (o.mday).length x.c11, .slice x.p12 (o.yday).length x.c12, .slice x.p13 (o.weekno).length x.c13, .slice x.p14 (o.wday).length x.c14, .slice x.p15 (o.hour).length x.c15, .slice x.p16 (o.minute).length x.c16, .slice x.p17 (o.second).length x.c17, .slice x.p18 (o.easter).length x.c18, iV 0, iV 0, iV 0, iV 0, iV 0, iV 0, iV 0, iV 0, iV 0, .slice none 0 0, .slice none 0 0, .slice none 0 0, .slice none 0 0, .slice none 0 0, .slice none 0 0, .slice none 0 0, .slice none 0 0, .slice none 0 0, .slice none 0 0, iV 0, iV 0, iV 0, iV 0, iV 0, iV 0, iV 0, iV 0, .slice none 0 0, .slice none 0 0, .slice none 0 0, .slice none 0 0, .slice none 0 0, .slice none 0 0, .slice none 0 0, .slice none 0 0, .slice none 0 0, .slice none 0 0, .slice none 0 0, .slice none 0 0, .slice none 0 0, iV 0]
theorem bu_A2 {R : Ending → World → Prop} {o : Opn} {x : Av} {b1 b2 b3 : Nat} {H0 : List (Nat × Value)} {S0 : List (Nat × Slc)} (ok : OpOk o) (hsort : o.freq < 4 → SortOk F w0 (raw o)) (bs : Bs F w0 B H0 S0 b1 b2 b3 (oc0 o x) (rc0 o x) H S) (s9 : SrcT F w0 S 11 (.slice x.p9 (o.setpos).length x.c9) o.setpos) (s10 : SrcT F w0 S 11 (.slice x.p10 (o.month).length x.c10) o.month) (s11 : SrcT F w0 S 11 (.slice x.p11 (o.mday).length x.c11) o.mday) (s12 : SrcT F w0 S 11 (.slice x.p12 (o.yday).length x.c12) o.yday) (s13 : SrcT F w0 S 11 (.slice x.p13 (o.weekno).length x.c13) o.weekno) (s14 : SrcU F w0 S 11 (.slice x.p14 (o.wday).length x.c14) o.wday) (s15 : SrcT F w0 S 11 (.slice x.p15 (o.hour).length x.c15) o.hour) (s16 : SrcT F w0 S 11 (.slice x.p16 (o.minute).length x.c16) o.minute) (s17 : SrcT F w0 S 11 (.slice x.p17 (o.second).length x.c17) o.second) (s18 : SrcT F w0 S 11 (.slice x.p18 (o.easter).length x.c18) o.easter)  (hR : ∀ (x : Av) (S' : List (Nat × Slc)), OutF F w0 o x S0 S' → ∀ w, Sees F w0 B H0 S' w → R (.returned (.agg (outC o x).toArray)) w) : GC Go.Proofs.Tryz.prog (Go.Fr.part [1, 1, 1] (Go.Fr.bodyOf Tryz.f43)) (bodyPost Go.Proofs.Tryz.prog Tryz.f43 R) 300 [(1, pT b1), (2, pT b2), (3, pT b3)] F w0 ((52, b3) :: (51, b2) :: (50, b1) :: B) H S := by
 have ok_ := ok
 have hd_ := ok.d
 have hi_ := ok.interval
 have hcn := ok.count
 have hu_ := ok.u
 refine g2 ?_
 refine rl (rfa 0) ?_
 refine rl (rd_load 50 rfl rfl (bs.ho.get 0 _ rfl) kR dE) ?_
 refine rl (rfa 38) ?_
 refine gL (at_store 52 rfl rfl rfl (bs.hc.get 38 _ rfl) kR rfl dE ?_)
 refine g5 ?_
 refine rl (rfa 3) ?_
 refine rl (rd_load 50 rfl rfl (bs.ho.get 3 _ rfl) kR dE) ?_
 refine g3 ?_
 refine GC_is_false rfl (decide_eq_false oM) ?_
 refine g4 ?_
 refine rl (rfa 3) ?_
 refine rl (rd_load 50 rfl rfl (bs.ho.get 3 _ rfl) kR dE) ?_
 refine rl (rfa 41) ?_
 refine gL (at_store 52 rfl rfl rfl (bs.hc.get 41 _ rfl) kR rfl dE ?_)
 refine g5 ?_
 refine rl (rfa 6) ?_
 refine rl (rd_load 50 rfl rfl (bs.ho.get 6 _ rfl) kR dE) ?_
 refine g3 ?_
 refine GC_is_false rfl (decide_eq_false oM) ?_
 refine g4 ?_
 refine rl (rfa 6) ?_
 refine rl (rd_load 50 rfl rfl (bs.ho.get 6 _ rfl) kR dE) ?_
 refine rl (rfa 43) ?_
 refine gL (at_store 52 rfl rfl rfl (bs.hc.get 43 _ rfl) kR rfl dE ?_)
 refine g5 ?_
 refine rl (rfa 1) ?_
 refine rl (rd_load2 50 rfl rfl (bs.ho.get 1 _ rfl) (bs.ho.get 2 _ rfl) kR dE) ?_
 refine gL (cvo rfl (fun w_ s_ => isZero_calls _ _ w_) ?_)
 refine g2 ?_
 refine GC_is_false rfl (decide_eq_false oM) ?_
 refine g4 ?_
 refine rl (rfa 1) ?_
 refine rl (rd_load2 50 rfl rfl (bs.ho.get 1 _ rfl) (bs.ho.get 2 _ rfl) kR dE) ?_
 refine gL (cvo rfl (fun w_ s_ => truncate_calls _ _ _ w_) ?_)
 refine rl (rfa 1) ?_
 refine gL (at_storeAgg 50 rfl rfl rfl (knwn2 (bs.ho.get 1 _ rfl) (bs.ho.get 2 _ rfl)) kR rfl ble ?_)
 refine g4 ?_
 refine rl (rfa 1) ?_
 refine rl (rd_load2 50 rfl rfl rfl rfl kR dE) ?_
 refine rl (rfa 39) ?_
 refine gL (at_storeAgg 52 rfl rfl rfl (knwn2 (bs.hc.get 39 _ rfl) (bs.hc.get 40 _ rfl)) kR rfl ble ?_)
 refine g5 ?_
 refine rl (rfa 7) ?_
 refine rl (rd_load2 50 rfl rfl (bs.ho.get 7 _ rfl) (bs.ho.get 8 _ rfl) kR dE) ?_
 refine gL (cvo rfl (fun w_ s_ => isZero_calls _ _ w_) ?_)
 refine g2 ?_
 refine GC_cond rfl (fun hc1 => ?_) (fun hc2 => ?_)
 ·have hu0 : o.u = 0 := by have := of_decide_eq_true hc1; exact this.1
  refine g1 ?_
  refine rl (rfa 39) ?_
  refine rl (rd_load2 52 rfl rfl rfl rfl kR dE) ?_
  refine gL (cvo (v := .agg #[iV (o.d + 9223372036), iV 854775807]) rfl (fun w_ s_ => (add_calls _ _ oM oM w_).mono fun e_ w2_ h_ => ⟨h_.1.trans (congrArg Ending.returned rfl), h_.2⟩) ?_)
  refine rl (rfa 44) ?_
  refine gL (at_storeAgg 52 rfl rfl rfl (knwn2 (bs.hc.get 44 _ rfl) (bs.hc.get 45 _ rfl)) kR rfl ble ?_)
  refine g4 ?_
  refine rl (rfa 4) ?_
  refine rl (rfa 0) ?_
  refine rl (rd_load 50 rfl rfl (bs.ho.get 4 _ rfl) kR dE) ?_
  refine rl (rfa 42) ?_
  refine gL (at_store 52 rfl rfl rfl (bs.hc.get 42 _ rfl) kR rfl dE ?_)
  refine g4 ?_
  refine rl (rfa 9) ?_
  refine rl (rd_load 50 rfl rfl (bs.ho.get 9 _ rfl) kR dE) ?_
  refine rl (rfa 46) ?_
  refine gL (at_store 52 rfl rfl rfl (bs.hc.get 46 _ rfl) kR rfl dE ?_)
  refine g2 ?_
  refine GC_to (L' := [(1, pT b1), (2, pT b2), (3, pT b3)]) kns (fun w s => s) ?_
  have e0 : until0 o = o.d + 9223372036 := by unfold until0; rw [if_pos hu0]
  have e1 : until1 o = 854775807 := by unfold until1; rw [if_pos hu0]
  refine bu_B (x := x) ok hsort (H := (ky 52 46, .slice x.p9 (o.setpos).length x.c9) :: (ky 52 42, iV o.wkst) :: (ky 52 45, iV 854775807) :: (ky 52 44, iV (o.d + 9223372036)) :: (ky 52 40, iV 0) :: (ky 52 39, iV o.d) :: (ky 50 2, iV 0) :: (ky 50 1, iV o.d) :: (ky 52 43, iV o.count) :: (ky 52 41, iV o.interval) :: (ky 52 38, iV o.freq) :: H) (S := S) ⟨(cellsAt.cons (bs.ho.get 0 _ rfl) (cellsAt.cons rfl (cellsAt.cons rfl (cellsAt.cons (bs.ho.get 3 _ rfl) (cellsAt.cons (bs.ho.get 4 _ rfl) (cellsAt.cons (bs.ho.get 5 _ rfl) (cellsAt.cons (bs.ho.get 6 _ rfl) (cellsAt.cons (bs.ho.get 7 _ rfl) (cellsAt.cons (bs.ho.get 8 _ rfl) (cellsAt.cons (bs.ho.get 9 _ rfl) (cellsAt.cons (bs.ho.get 10 _ rfl) (cellsAt.cons (bs.ho.get 11 _ rfl) (cellsAt.cons (bs.ho.get 12 _ rfl) (cellsAt.cons (bs.ho.get 13 _ rfl) (cellsAt.cons (bs.ho.get 14 _ rfl) (cellsAt.cons (bs.ho.get 15 _ rfl) (cellsAt.cons (bs.ho.get 16 _ rfl) (cellsAt.cons (bs.ho.get 17 _ rfl) (cellsAt.cons (bs.ho.get 18 _ rfl) cellsAt.nil))))))))))))))))))), (cellsAt.cons (bs.hc.get 0 _ rfl) (cellsAt.cons (bs.hc.get 1 _ rfl) (cellsAt.cons (bs.hc.get 2 _ rfl) (cellsAt.cons (bs.hc.get 3 _ rfl) (cellsAt.cons (bs.hc.get 4 _ rfl) (cellsAt.cons (bs.hc.get 5 _ rfl) (cellsAt.cons (bs.hc.get 6 _ rfl) (cellsAt.cons (bs.hc.get 7 _ rfl) (cellsAt.cons (bs.hc.get 8 _ rfl) (cellsAt.cons (bs.hc.get 9 _ rfl) (cellsAt.cons (bs.hc.get 10 _ rfl) (cellsAt.cons (bs.hc.get 11 _ rfl) (cellsAt.cons (bs.hc.get 12 _ rfl) (cellsAt.cons (bs.hc.get 13 _ rfl) (cellsAt.cons (bs.hc.get 14 _ rfl) (cellsAt.cons (bs.hc.get 15 _ rfl) (cellsAt.cons (bs.hc.get 16 _ rfl) (cellsAt.cons (bs.hc.get 17 _ rfl) (cellsAt.cons (bs.hc.get 18 _ rfl) (cellsAt.cons (bs.hc.get 19 _ rfl) (cellsAt.cons (bs.hc.get 20 _ rfl) (cellsAt.cons (bs.hc.get 21 _ rfl) (cellsAt.cons (bs.hc.get 22 _ rfl) (cellsAt.cons (bs.hc.get 23 _ rfl) (cellsAt.cons (bs.hc.get 24 _ rfl) (cellsAt.cons (bs.hc.get 25 _ rfl) (cellsAt.cons (bs.hc.get 26 _ rfl) (cellsAt.cons (bs.hc.get 27 _ rfl) (cellsAt.cons (bs.hc.get 28 _ rfl) (cellsAt.cons (bs.hc.get 29 _ rfl) (cellsAt.cons (bs.hc.get 30 _ rfl) (cellsAt.cons (bs.hc.get 31 _ rfl) (cellsAt.cons (bs.hc.get 32 _ rfl) (cellsAt.cons (bs.hc.get 33 _ rfl) (cellsAt.cons (bs.hc.get 34 _ rfl) (cellsAt.cons (bs.hc.get 35 _ rfl) (cellsAt.cons (bs.hc.get 36 _ rfl) (cellsAt.cons (bs.hc.get 37 _ rfl) (cellsAt.cons rfl (cellsAt.cons rfl (cellsAt.cons rfl (cellsAt.cons rfl (cellsAt.cons rfl (cellsAt.cons rfl (cellsAt.cons (show lkp (ky 52 44) _ = some (iV (until0 o)) from by rw [e0]; rfl) (cellsAt.cons (show lkp (ky 52 45) _ = some (iV (until1 o)) from by rw [e1]; rfl) (cellsAt.cons rfl (cellsAt.cons (bs.hc.get 47 _ rfl) (cellsAt.cons (bs.hc.get 48 _ rfl) (cellsAt.cons (bs.hc.get 49 _ rfl) (cellsAt.cons (bs.hc.get 50 _ rfl) (cellsAt.cons (bs.hc.get 51 _ rfl) (cellsAt.cons (bs.hc.get 52 _ rfl) (cellsAt.cons (bs.hc.get 53 _ rfl) (cellsAt.cons (bs.hc.get 54 _ rfl) (cellsAt.cons (bs.hc.get 55 _ rfl) (cellsAt.cons (bs.hc.get 56 _ rfl) (cellsAt.cons (bs.hc.get 57 _ rfl) (cellsAt.cons (bs.hc.get 58 _ rfl) (cellsAt.cons (bs.hc.get 59 _ rfl) cellsAt.nil)))))))))))))))))))))))))))))))))))))))))))))))))))))))))))), (knwn_mono (by repeat (first | exact Knw.refl _ | apply Knw.cons)) bs.h2), (by repeat (first | exact bs.lim | apply Lim.consH _ dE dE | apply Lim.consS _ dE)), bs.limB, (fun k_ h1_ o_ ho_ => Eq.trans (by repeat (first | rfl | rw [lkp_ky_ne oM ho_ dE])) (bs.frH k_ h1_ o_ ho_)), (fun k_ h1_ h2_ => Eq.trans aH (bs.frS k_ h1_ h2_))⟩ s9 s10 s11 s12 s13 s14 s15 s16 s17 s18 hR
 ·have hu0 : ¬ o.u = 0 := by have := of_decide_eq_false hc2; omega
  refine g2 ?_
  refine rl (rfa 7) ?_
  refine rl (rd_load2 50 rfl rfl (bs.ho.get 7 _ rfl) (bs.ho.get 8 _ rfl) kR dE) ?_
  refine gL (cvo rfl (fun w_ s_ => truncate_calls _ _ _ w_) ?_)
  refine rl (rfa 7) ?_
  refine gL (at_storeAgg 50 rfl rfl rfl (knwn2 (bs.ho.get 7 _ rfl) (bs.ho.get 8 _ rfl)) kR rfl ble ?_)
  refine g3 ?_
  refine rl (rfa 7) ?_
  refine rl (rd_load2 50 rfl rfl rfl rfl kR dE) ?_
  refine rl (rfa 44) ?_
  refine gL (at_storeAgg 52 rfl rfl rfl (knwn2 (bs.hc.get 44 _ rfl) (bs.hc.get 45 _ rfl)) kR rfl ble ?_)
  refine g4 ?_
  refine rl (rfa 4) ?_
  refine rl (rfa 0) ?_
  refine rl (rd_load 50 rfl rfl (bs.ho.get 4 _ rfl) kR dE) ?_
  refine rl (rfa 42) ?_
  refine gL (at_store 52 rfl rfl rfl (bs.hc.get 42 _ rfl) kR rfl dE ?_)
  refine g4 ?_
  refine rl (rfa 9) ?_
  refine rl (rd_load 50 rfl rfl (bs.ho.get 9 _ rfl) kR dE) ?_
  refine rl (rfa 46) ?_
  refine gL (at_store 52 rfl rfl rfl (bs.hc.get 46 _ rfl) kR rfl dE ?_)
  refine g2 ?_
  refine GC_to (L' := [(1, pT b1), (2, pT b2), (3, pT b3)]) kns (fun w s => s) ?_
  have e0 : until0 o = o.u := by unfold until0; rw [if_neg hu0]
  have e1 : until1 o = 0 := by unfold until1; rw [if_neg hu0]
  refine bu_B (x := x) ok hsort (H := (ky 52 46, .slice x.p9 (o.setpos).length x.c9) :: (ky 52 42, iV o.wkst) :: (ky 52 45, iV 0) :: (ky 52 44, iV o.u) :: (ky 50 8, iV 0) :: (ky 50 7, iV o.u) :: (ky 52 40, iV 0) :: (ky 52 39, iV o.d) :: (ky 50 2, iV 0) :: (ky 50 1, iV o.d) :: (ky 52 43, iV o.count) :: (ky 52 41, iV o.interval) :: (ky 52 38, iV o.freq) :: H) (S := S) ⟨(cellsAt.cons (bs.ho.get 0 _ rfl) (cellsAt.cons rfl (cellsAt.cons rfl (cellsAt.cons (bs.ho.get 3 _ rfl) (cellsAt.cons (bs.ho.get 4 _ rfl) (cellsAt.cons (bs.ho.get 5 _ rfl) (cellsAt.cons (bs.ho.get 6 _ rfl) (cellsAt.cons rfl (cellsAt.cons rfl (cellsAt.cons (bs.ho.get 9 _ rfl) (cellsAt.cons (bs.ho.get 10 _ rfl) (cellsAt.cons (bs.ho.get 11 _ rfl) (cellsAt.cons (bs.ho.get 12 _ rfl) (cellsAt.cons (bs.ho.get 13 _ rfl) (cellsAt.cons (bs.ho.get 14 _ rfl) (cellsAt.cons (bs.ho.get 15 _ rfl) (cellsAt.cons (bs.ho.get 16 _ rfl) (cellsAt.cons (bs.ho.get 17 _ rfl) (cellsAt.cons (bs.ho.get 18 _ rfl) cellsAt.nil))))))))))))))))))), (cellsAt.cons (bs.hc.get 0 _ rfl) (cellsAt.cons (bs.hc.get 1 _ rfl) (cellsAt.cons (bs.hc.get 2 _ rfl) (cellsAt.cons (bs.hc.get 3 _ rfl) (cellsAt.cons (bs.hc.get 4 _ rfl) (cellsAt.cons (bs.hc.get 5 _ rfl) (cellsAt.cons (bs.hc.get 6 _ rfl) (cellsAt.cons (bs.hc.get 7 _ rfl) (cellsAt.cons (bs.hc.get 8 _ rfl) (cellsAt.cons (bs.hc.get 9 _ rfl) (cellsAt.cons (bs.hc.get 10 _ rfl) (cellsAt.cons (bs.hc.get 11 _ rfl) (cellsAt.cons (bs.hc.get 12 _ rfl) (cellsAt.cons (bs.hc.get 13 _ rfl) (cellsAt.cons (bs.hc.get 14 _ rfl) (cellsAt.cons (bs.hc.get 15 _ rfl) (cellsAt.cons (bs.hc.get 16 _ rfl) (cellsAt.cons (bs.hc.get 17 _ rfl) (cellsAt.cons (bs.hc.get 18 _ rfl) (cellsAt.cons (bs.hc.get 19 _ rfl) (cellsAt.cons (bs.hc.get 20 _ rfl) (cellsAt.cons (bs.hc.get 21 _ rfl) (cellsAt.cons (bs.hc.get 22 _ rfl) (cellsAt.cons (bs.hc.get 23 _ rfl) (cellsAt.cons (bs.hc.get 24 _ rfl) (cellsAt.cons (bs.hc.get 25 _ rfl) (cellsAt.cons (bs.hc.get 26 _ rfl) (cellsAt.cons (bs.hc.get 27 _ rfl) (cellsAt.cons (bs.hc.get 28 _ rfl) (cellsAt.cons (bs.hc.get 29 _ rfl) (cellsAt.cons (bs.hc.get 30 _ rfl) (cellsAt.cons (bs.hc.get 31 _ rfl) (cellsAt.cons (bs.hc.get 32 _ rfl) (cellsAt.cons (bs.hc.get 33 _ rfl) (cellsAt.cons (bs.hc.get 34 _ rfl) (cellsAt.cons (bs.hc.get 35 _ rfl) (cellsAt.cons (bs.hc.get 36 _ rfl) (cellsAt.cons (bs.hc.get 37 _ rfl) (cellsAt.cons rfl (cellsAt.cons rfl (cellsAt.cons rfl (cellsAt.cons rfl (cellsAt.cons rfl (cellsAt.cons rfl (cellsAt.cons (show lkp (ky 52 44) _ = some (iV (until0 o)) from by rw [e0]; rfl) (cellsAt.cons (show lkp (ky 52 45) _ = some (iV (until1 o)) from by rw [e1]; rfl) (cellsAt.cons rfl (cellsAt.cons (bs.hc.get 47 _ rfl) (cellsAt.cons (bs.hc.get 48 _ rfl) (cellsAt.cons (bs.hc.get 49 _ rfl) (cellsAt.cons (bs.hc.get 50 _ rfl) (cellsAt.cons (bs.hc.get 51 _ rfl) (cellsAt.cons (bs.hc.get 52 _ rfl) (cellsAt.cons (bs.hc.get 53 _ rfl) (cellsAt.cons (bs.hc.get 54 _ rfl) (cellsAt.cons (bs.hc.get 55 _ rfl) (cellsAt.cons (bs.hc.get 56 _ rfl) (cellsAt.cons (bs.hc.get 57 _ rfl) (cellsAt.cons (bs.hc.get 58 _ rfl) (cellsAt.cons (bs.hc.get 59 _ rfl) cellsAt.nil)))))))))))))))))))))))))))))))))))))))))))))))))))))))))))), (knwn_mono (by repeat (first | exact Knw.refl _ | apply Knw.cons)) bs.h2), (by repeat (first | exact bs.lim | apply Lim.consH _ dE dE | apply Lim.consS _ dE)), bs.limB, (fun k_ h1_ o_ ho_ => Eq.trans (by repeat (first | rfl | rw [lkp_ky_ne oM ho_ dE])) (bs.frH k_ h1_ o_ ho_)), (fun k_ h1_ h2_ => Eq.trans aH (bs.frS k_ h1_ h2_))⟩ s9 s10 s11 s12 s13 s14 s15 s16 s17 s18 hR
end
end Go.Proofs.YtdbbifbmkfmbkaaGreat
namespace Go.Proofs.YtdbbifbmkfmbkaaGreat
open Go.RowKit Go.Fr Go.Tab
section
variable {F : Nat → Prop} {w0 : World} {B : List (Nat × Nat)} {H : List (Nat × Value)} {S : List (Nat × Slc)}
open Go.Md
def vbLo (i : Nat) : Int := match i with | 0 => 0 | 1 => 0 | 2 => 0 | 3 => 1 | 4 => 1 | 5 => 1 | 6 => 1 | 7 => 1 | _ => 0
def vbHi (i : Nat) : Int := match i with | 0 => 59 | 1 => 59 | 2 => 23 | 3 => 31 | 4 => 366 | 5 => 53 | 6 => 12 | 7 => 366 | _ => 0
def vbP (i : Nat) : Bool := match i with | 0 => false | 1 => false | 2 => false | 3 => true | 4 => true | 5 => true | 6 => false | 7 => true | _ => false
def vbStr (i : Nat) : Value := match i with | 0 => .string ⟨#[98, 121, 115, 101, 99, 111, 110, 100]⟩ | 1 => .string ⟨#[98, 121, 109, 105, 110, 117, 116, 101]⟩ | 2 => .string ⟨#[98, 121, 104, 111, 117, 114]⟩ | 3 => .string ⟨#[98, 121, 109, 111, 110, 116, 104, 100, 97, 121]⟩ | 4 => .string ⟨#[98, 121, 121, 101, 97, 114, 100, 97, 121]⟩ | 5 => .string ⟨#[98, 121, 119, 101, 101, 107, 110, 111]⟩ | 6 => .string ⟨#[98, 121, 109, 111, 110, 116, 104]⟩ | 7 => .string ⟨#[98, 121, 115, 101, 116, 112, 111, 115]⟩ | _ => .nilIface
def vbL (o : Opn) (i : Nat) : List Int := match i with | 0 => o.second | 1 => o.minute | 2 => o.hour | 3 => o.mday | 4 => o.yday | 5 => o.weekno | 6 => o.month | 7 => o.setpos | _ => []
def vbAp (x : Av) (i : Nat) : Option Addr := match i with | 0 => x.p17 | 1 => x.p16 | 2 => x.p15 | 3 => x.p11 | 4 => x.p12 | 5 => x.p13 | 6 => x.p10 | 7 => x.p9 | _ => none
def vbAc (x : Av) (i : Nat) : Nat := match i with | 0 => x.c17 | 1 => x.c16 | 2 => x.c15 | 3 => x.c11 | 4 => x.c12 | 5 => x.c13 | 6 => x.c10 | 7 => x.c9 | _ => 0
def vbB (bb0 bb1 bb2 bb3 bb4 bb5 bb6 bb7 : Nat) (i : Nat) : Nat := match i with | 0 => bb0 | 1 => bb1 | 2 => bb2 | 3 => bb3 | 4 => bb4 | 5 => bb5 | 6 => bb6 | 7 => bb7 | _ => 0
def vbCs (o : Opn) (x : Av) (bb0 bb1 bb2 bb3 bb4 bb5 bb6 bb7 : Nat) : List Value := [.slice x.p17 (o.second).length x.c17, .string ⟨#[98, 121, 115, 101, 99, 111, 110, 100]⟩, sL bb0 2 2, .bool false, .slice x.p16 (o.minute).length x.c16, .string ⟨#[98, 121, 109, 105, 110, 117, 116, 101]⟩, sL bb1 2 2, .bool false, .slice x.p15 (o.hour).length x.c15, .string ⟨#[98, 121, 104, 111, 117, 114]⟩, sL bb2 2 2, .bool false, .slice x.p11 (o.mday).length x.c11, .string ⟨#[98, 121, 109, 111, 110, 116, 104, 100, 97, 121]⟩, sL bb3 2 2, .bool true, .slice x.p12 (o.yday).length x.c12, .string ⟨#[98, 121, 121, 101, 97, 114, 100, 97, 121]⟩, sL bb4 2 2, .bool true, .slice x.p13 (o.weekno).length x.c13, .string ⟨#[98, 121, 119, 101, 101, 107, 110, 111]⟩, sL bb5 2 2, .bool true, .slice x.p10 (o.month).length x.c10, .string ⟨#[98, 121, 109, 111, 110, 116, 104]⟩, sL bb6 2 2, .bool false, .slice x.p9 (o.setpos).length x.c9, .string ⟨#[98, 121, 115, 101, 116, 112, 111, 115]⟩, sL bb7 2 2, .bool true]
theorem vb_cs (o : Opn) (x : Av) {bb0 bb1 bb2 bb3 bb4 bb5 bb6 bb7 : Nat} {i : Nat} (h : i < 8) : (vbCs o x bb0 bb1 bb2 bb3 bb4 bb5 bb6 bb7)[4 * i]? = some (.slice (vbAp x i) (vbL o i).length (vbAc x i)) ∧ (vbCs o x bb0 bb1 bb2 bb3 bb4 bb5 bb6 bb7)[4 * i + 1]? = some (vbStr i) ∧ (vbCs o x bb0 bb1 bb2 bb3 bb4 bb5 bb6 bb7)[4 * i + 2]? = some (.slice (some ⟨vbB bb0 bb1 bb2 bb3 bb4 bb5 bb6 bb7 i, 0, none⟩) 2 2) ∧ (vbCs o x bb0 bb1 bb2 bb3 bb4 bb5 bb6 bb7)[4 * i + 3]? = some (.bool (vbP i)) := by
 have e : i = 0 ∨ i = 1 ∨ i = 2 ∨ i = 3 ∨ i = 4 ∨ i = 5 ∨ i = 6 ∨ i = 7 := by omega
 rcases e with rfl | rfl | rfl | rfl | rfl | rfl | rfl | rfl <;> exact ⟨rfl, rfl, rfl, rfl⟩
def inB (lo hi : Int) (pm : Bool) (y : Int) : Prop := (lo ≤ y ∧ y ≤ hi) ∨ (pm = true ∧ -hi ≤ y ∧ y ≤ -lo)
structure VbOk (o : Opn) : Prop where
 nums : ∀ i, i < 8 → ∀ y ∈ vbL o i, inB (vbLo i) (vbHi i) (vbP i) y
 days : ∀ y ∈ o.wday, -53 ≤ y.2 ∧ y.2 ≤ 53
 interval : 0 ≤ o.interval
 lens : ∀ i, i < 8 → (vbL o i).length ≤ 1000000000
 wlen : o.wday.length ≤ 1000000000
theorem vb1_calls {b k : Nat} {lo hi y : Int} {pm : Bool} {ps : Value} (hrow : lkp k S = some ⟨sL b 2 2, 3, 1, 2, [iV lo, iV hi]⟩) (hb : 0 ≤ lo ∧ lo ≤ 1000 ∧ 0 ≤ hi ∧ hi ≤ 1000) (hin : inB lo hi pm y) :
  ∀ w, Sees F w0 B H S w → Calls Go.Proofs.Tryz.prog 64 #[ps, iV y, sL b 2 2, .bool pm] w fun e w' => e = .returned .nilIface ∧ Sees F w0 B H S w' := by
 intro w s
 refine calls_GC (args := [ps, iV y, sL b 2 2, .bool pm]) (L := [(0, ps), (1, iV y), (2, sL b 2 2), (3, .bool pm)]) (N := 44) Tryz.func64 rfl rfl ble rfl s ?_
 refine g7 ?_
 rcases Decidable.em (lo ≤ y) with h1 | h1
 ·rcases Decidable.em (y ≤ hi) with h2 | h2
  ·refine g3 ?_
   refine rl (rd_indexAddr (e := 3) (n := 1) kR rfl rfl dE dE) ?_
   refine rl (rd_load_row k rfl hrow rfl rfl kR) ?_
   refine rl ((rd_geq rfl rfl).to (v' := .bool true) (congrArg Value.bool (decide_eq_true h1))) ?_
   refine g6 ?_
   refine rl (rd_indexAddr (e := 3) (n := 1) kR rfl rfl dE dE) ?_
   refine g1 ?_
   refine rl (rd_load_row k rfl hrow rfl rfl kR) ?_
   refine g1 ?_
   refine rl ((rd_leq rfl rfl).to (v' := .bool true) (congrArg Value.bool (decide_eq_true h2))) ?_
   refine g1 ?_
   refine rl ((rd_not rfl).to (v' := .bool false) (congrArg Value.bool (rfl))) ?_
   refine g20 ?_
   refine g3 ?_
   refine GC_is_false rfl rfl ?_
   refine g8 ?_
   refine GE_ret1 (.inl rfl) rfl (res_tmp rfl) fun w s => ⟨rfl, s⟩
  ·obtain ⟨hpm, h3, h4⟩ : pm = true ∧ -hi ≤ y ∧ y ≤ -lo := by rcases hin with h | h; exact absurd h.2 h2; exact h
   refine g3 ?_
   refine rl (rd_indexAddr (e := 3) (n := 1) kR rfl rfl dE dE) ?_
   refine rl (rd_load_row k rfl hrow rfl rfl kR) ?_
   refine rl ((rd_geq rfl rfl).to (v' := .bool true) (congrArg Value.bool (decide_eq_true h1))) ?_
   refine g6 ?_
   refine rl (rd_indexAddr (e := 3) (n := 1) kR rfl rfl dE dE) ?_
   refine g1 ?_
   refine rl (rd_load_row k rfl hrow rfl rfl kR) ?_
   refine g1 ?_
   refine rl ((rd_leq rfl rfl).to (v' := .bool false) (congrArg Value.bool (decide_eq_false h2))) ?_
   refine g1 ?_
   refine rl ((rd_not rfl).to (v' := .bool true) (congrArg Value.bool (rfl))) ?_
   refine g4 ?_
   refine rl ((rd_not rfl).to (v' := .bool false) (congrArg Value.bool (by rw [hpm]; rfl))) ?_
   refine g7 ?_
   refine rl (rd_indexAddr (e := 3) (n := 1) kR rfl rfl dE dE) ?_
   refine g1 ?_
   refine rl (rd_load_row k rfl hrow rfl rfl kR) ?_
   refine g3 ?_
   refine rl ((rd_leq rfl rfl).to bT) ?_
   refine g7 ?_
   refine rl (rd_indexAddr (e := 3) (n := 1) kR rfl rfl dE dE) ?_
   refine g1 ?_
   refine rl (rd_load_row k rfl hrow rfl rfl kR) ?_
   refine g3 ?_
   refine rl ((rd_geq rfl rfl).to bT) ?_
   refine g3 ?_
   refine rl ((rd_not rfl).to (v' := .bool false) (congrArg Value.bool (rfl))) ?_
   refine g5 ?_
   refine GC_is_false rfl rfl ?_
   refine g8 ?_
   refine GE_ret1 (.inl rfl) rfl (res_tmp rfl) fun w s => ⟨rfl, s⟩
 ·obtain ⟨hpm, h3, h4⟩ : pm = true ∧ -hi ≤ y ∧ y ≤ -lo := by rcases hin with h | h; exact absurd h.1 h1; exact h
  refine g3 ?_
  refine rl (rd_indexAddr (e := 3) (n := 1) kR rfl rfl dE dE) ?_
  refine rl (rd_load_row k rfl hrow rfl rfl kR) ?_
  refine rl ((rd_geq rfl rfl).to (v' := .bool false) (congrArg Value.bool (decide_eq_false h1))) ?_
  refine g7 ?_
  refine rl ((rd_not rfl).to (v' := .bool true) (congrArg Value.bool (rfl))) ?_
  refine g4 ?_
  refine rl ((rd_not rfl).to (v' := .bool false) (congrArg Value.bool (by rw [hpm]; rfl))) ?_
  refine g7 ?_
  refine rl (rd_indexAddr (e := 3) (n := 1) kR rfl rfl dE dE) ?_
  refine g1 ?_
  refine rl (rd_load_row k rfl hrow rfl rfl kR) ?_
  refine g3 ?_
  refine rl ((rd_leq rfl rfl).to bT) ?_
  refine g7 ?_
  refine rl (rd_indexAddr (e := 3) (n := 1) kR rfl rfl dE dE) ?_
  refine g1 ?_
  refine rl (rd_load_row k rfl hrow rfl rfl kR) ?_
  refine g3 ?_
  refine rl ((rd_geq rfl rfl).to bT) ?_
  refine g3 ?_
  refine rl ((rd_not rfl).to (v' := .bool false) (congrArg Value.bool (rfl))) ?_
  refine g5 ?_
  refine GC_is_false rfl rfl ?_
  refine g8 ?_
  refine GE_ret1 (.inl rfl) rfl (res_tmp rfl) fun w s => ⟨rfl, s⟩
end
end Go.Proofs.YtdbbifbmkfmbkaaGreat
namespace Go.Proofs.YtdbbifbmkfmbkaaGreat
open Go.RowKit Go.Fr Go.Tab
section
variable {F : Nat → Prop} {w0 : World} {B : List (Nat × Nat)} {H : List (Nat × Value)} {S : List (Nat × Slc)}
open Go.Md
section
variable {P : Program} {N : Nat} {L : Fr.Loc} {d : Nat} {v : Value} {ty : TypeId} {pos : String} {aft : Array Edge} {g : Option (Nat × Bool)}
theorem rd_build4 {t : TypeId} {x y z u : Operand} {vx vy vz vu : Value} (hx : ev L x = some vx) (hy : ev L y = some vy) (hz : ev L z = some vz) (hu : ev L u = some vu) (hb : ∀ w : World, (Instr.build t #[(0, vx), (1, vy), (2, vz), (3, vu)]).run P w = .ok (.agg #[vx, vy, vz, vu]) w) : Rd P ⟨some d, .build t #[(0, x), (1, y), (2, z), (3, u)], ty, pos, aft, g⟩ N L F w0 B H S (.agg #[vx, vy, vz, vu]) :=
 rd_build (ps := [(0, x), (1, y), (2, z), (3, u)]) (vs := [(0, vx), (1, vy), (2, vz), (3, vu)]) (by simp [evp, hx, hy, hz, hu]) hb
end
theorem row_range {k b o len cap : Nat} {q : Slc} {w : World} (s : Sees F w0 B H S w) (hl : lkp k S = some q) (hv : q.v = sL b len cap) {cs : List Value} (h : ∀ (j : Nat) u, cs[j]? = some u → q.xs[o + j]? = some u) : w.rangeAt b o cs := fun j u hu => s.row_cell hl hv (h j u hu)
theorem vb_main {R : Ending → World → Prop} {o : Opn} {x : Av} (vk : VbOk o) {b1 : Nat} (hb1 : lkp 50 B = some b1) (hc : cellsAt 50 H 0 (oc0 o x)) (lim : Lim 53 B H S) (s9 : SrcT F w0 S 11 (.slice x.p9 (o.setpos).length x.c9) o.setpos) (s10 : SrcT F w0 S 11 (.slice x.p10 (o.month).length x.c10) o.month) (s11 : SrcT F w0 S 11 (.slice x.p11 (o.mday).length x.c11) o.mday) (s12 : SrcT F w0 S 11 (.slice x.p12 (o.yday).length x.c12) o.yday) (s13 : SrcT F w0 S 11 (.slice x.p13 (o.weekno).length x.c13) o.weekno) (s14 : SrcU F w0 S 11 (.slice x.p14 (o.wday).length x.c14) o.wday) (s15 : SrcT F w0 S 11 (.slice x.p15 (o.hour).length x.c15) o.hour) (s16 : SrcT F w0 S 11 (.slice x.p16 (o.minute).length x.c16) o.minute) (s17 : SrcT F w0 S 11 (.slice x.p17 (o.second).length x.c17) o.second) (s18 : SrcT F w0 S 11 (.slice x.p18 (o.easter).length x.c18) o.easter) (hR : ∀ w, Sees F w0 B H S w → R (.returned .nilIface) w) :
  GC Go.Proofs.Tryz.prog (Go.Fr.part [1] (Go.Fr.bodyOf Tryz.f42)) (bodyPost Go.Proofs.Tryz.prog Tryz.f42 R) 93 [(1, pT b1)] F w0 B H S := by
 refine g2 ?_
 refine rl (rfa 17) ?_
 refine rl (rd_load 50 rfl hb1 (hc.get 17 _ rfl) kR dE) ?_
 refine gL (at_row 60 (e := 3) (sz := 1) (n := 2) (vs := [(0, iV 0), (1, iV 59)]) (cs := [iV 0, iV 59]) dE rfl (fun w => by kernel_rfl) rfl dE dE (lim.s 60 dE) (fun bb0 hbb0 => ?_))
 refine rl ((rd_build4 rfl rfl rfl rfl (fun w => by kernel_rfl))) ?_
 refine rl (rfa 16) ?_
 refine rl (rd_load 50 rfl hb1 (hc.get 16 _ rfl) kR dE) ?_
 refine gL (at_row 61 (e := 3) (sz := 1) (n := 2) (vs := [(0, iV 0), (1, iV 59)]) (cs := [iV 0, iV 59]) dE rfl (fun w => by kernel_rfl) rfl dE dE (lim.s 61 dE) (fun bb1 hbb1 => ?_))
 refine rl ((rd_build4 rfl rfl rfl rfl (fun w => by kernel_rfl))) ?_
 refine rl (rfa 15) ?_
 refine rl (rd_load 50 rfl hb1 (hc.get 15 _ rfl) kR dE) ?_
 refine gL (at_row 62 (e := 3) (sz := 1) (n := 2) (vs := [(0, iV 0), (1, iV 23)]) (cs := [iV 0, iV 23]) dE rfl (fun w => by kernel_rfl) rfl dE dE (lim.s 62 dE) (fun bb2 hbb2 => ?_))
 refine rl ((rd_build4 rfl rfl rfl rfl (fun w => by kernel_rfl))) ?_
 refine rl (rfa 11) ?_
 refine rl (rd_load 50 rfl hb1 (hc.get 11 _ rfl) kR dE) ?_
 refine gL (at_row 63 (e := 3) (sz := 1) (n := 2) (vs := [(0, iV 1), (1, iV 31)]) (cs := [iV 1, iV 31]) dE rfl (fun w => by kernel_rfl) rfl dE dE (lim.s 63 dE) (fun bb3 hbb3 => ?_))
 refine rl ((rd_build4 rfl rfl rfl rfl (fun w => by kernel_rfl))) ?_
 refine rl (rfa 12) ?_
 refine rl (rd_load 50 rfl hb1 (hc.get 12 _ rfl) kR dE) ?_
 refine gL (at_row 64 (e := 3) (sz := 1) (n := 2) (vs := [(0, iV 1), (1, iV 366)]) (cs := [iV 1, iV 366]) dE rfl (fun w => by kernel_rfl) rfl dE dE (lim.s 64 dE) (fun bb4 hbb4 => ?_))
 refine rl ((rd_build4 rfl rfl rfl rfl (fun w => by kernel_rfl))) ?_
 refine rl (rfa 13) ?_
 refine rl (rd_load 50 rfl hb1 (hc.get 13 _ rfl) kR dE) ?_
 refine gL (at_row 65 (e := 3) (sz := 1) (n := 2) (vs := [(0, iV 1), (1, iV 53)]) (cs := [iV 1, iV 53]) dE rfl (fun w => by kernel_rfl) rfl dE dE (lim.s 65 dE) (fun bb5 hbb5 => ?_))
 refine rl ((rd_build4 rfl rfl rfl rfl (fun w => by kernel_rfl))) ?_
 refine rl (rfa 10) ?_
 refine rl (rd_load 50 rfl hb1 (hc.get 10 _ rfl) kR dE) ?_
 refine gL (at_row 66 (e := 3) (sz := 1) (n := 2) (vs := [(0, iV 1), (1, iV 12)]) (cs := [iV 1, iV 12]) dE rfl (fun w => by kernel_rfl) rfl dE dE (lim.s 66 dE) (fun bb6 hbb6 => ?_))
 refine rl ((rd_build4 rfl rfl rfl rfl (fun w => by kernel_rfl))) ?_
 refine rl (rfa 9) ?_
 refine rl (rd_load 50 rfl hb1 (hc.get 9 _ rfl) kR dE) ?_
 refine gL (at_row 67 (e := 3) (sz := 1) (n := 2) (vs := [(0, iV 1), (1, iV 366)]) (cs := [iV 1, iV 366]) dE rfl (fun w => by kernel_rfl) rfl dE dE (lim.s 67 dE) (fun bb7 hbb7 => ?_))
 refine rl ((rd_build4 rfl rfl rfl rfl (fun w => by kernel_rfl))) ?_
 refine gL (at_row 68 (e := 109) (sz := 4) (n := 8) (vs := [(0, .agg #[.slice x.p17 (o.second).length x.c17, .string ⟨#[98, 121, 115, 101, 99, 111, 110, 100]⟩, sL bb0 2 2, .bool false]), (1, .agg #[.slice x.p16 (o.minute).length x.c16, .string ⟨#[98, 121, 109, 105, 110, 117, 116, 101]⟩, sL bb1 2 2, .bool false]), (2, .agg #[.slice x.p15 (o.hour).length x.c15, .string ⟨#[98, 121, 104, 111, 117, 114]⟩, sL bb2 2 2, .bool false]), (3, .agg #[.slice x.p11 (o.mday).length x.c11, .string ⟨#[98, 121, 109, 111, 110, 116, 104, 100, 97, 121]⟩, sL bb3 2 2, .bool true]), (4, .agg #[.slice x.p12 (o.yday).length x.c12, .string ⟨#[98, 121, 121, 101, 97, 114, 100, 97, 121]⟩, sL bb4 2 2, .bool true]), (5, .agg #[.slice x.p13 (o.weekno).length x.c13, .string ⟨#[98, 121, 119, 101, 101, 107, 110, 111]⟩, sL bb5 2 2, .bool true]), (6, .agg #[.slice x.p10 (o.month).length x.c10, .string ⟨#[98, 121, 109, 111, 110, 116, 104]⟩, sL bb6 2 2, .bool false]), (7, .agg #[.slice x.p9 (o.setpos).length x.c9, .string ⟨#[98, 121, 115, 101, 116, 112, 111, 115]⟩, sL bb7 2 2, .bool true])]) (cs := vbCs o x bb0 bb1 bb2 bb3 bb4 bb5 bb6 bb7) dE rfl (fun w => by kernel_rfl) rfl dE dE (lim.s 68 dE) (fun bz hbz => ?_))
 refine g16 ?_
 refine g1 ?_
 refine GC_loop (ι := (Nat)) (fun i => 8 - i) (fun i => (i ≤ 8)) (fun i => [(1, pT b1), (4, .func (.func 64) #[] #[]), (45, sL bz 8 8), (46, iV 8), (47, iV i)]) (fun i => B) (fun i => H) (fun i => (68, ⟨sL bz 8 8, 109, 4, 8, vbCs o x bb0 bb1 bb2 bb3 bb4 bb5 bb6 bb7⟩) :: (67, ⟨sL bb7 2 2, 3, 1, 2, [iV 1, iV 366]⟩) :: (66, ⟨sL bb6 2 2, 3, 1, 2, [iV 1, iV 12]⟩) :: (65, ⟨sL bb5 2 2, 3, 1, 2, [iV 1, iV 53]⟩) :: (64, ⟨sL bb4 2 2, 3, 1, 2, [iV 1, iV 366]⟩) :: (63, ⟨sL bb3 2 2, 3, 1, 2, [iV 1, iV 31]⟩) :: (62, ⟨sL bb2 2 2, 3, 1, 2, [iV 0, iV 23]⟩) :: (61, ⟨sL bb1 2 2, 3, 1, 2, [iV 0, iV 59]⟩) :: (60, ⟨sL bb0 2 2, 3, 1, 2, [iV 0, iV 59]⟩) :: S) 0 (Nat.zero_le _) kns (fun w s => by exact s) ?_
 rintro i hi
 show GC _ _ _ _ [(1, pT b1), (4, .func (.func 64) #[] #[]), (45, sL bz 8 8), (46, iV 8), (47, iV i)] _ _ (B) (H) ((68, ⟨sL bz 8 8, 109, 4, 8, vbCs o x bb0 bb1 bb2 bb3 bb4 bb5 bb6 bb7⟩) :: (67, ⟨sL bb7 2 2, 3, 1, 2, [iV 1, iV 366]⟩) :: (66, ⟨sL bb6 2 2, 3, 1, 2, [iV 1, iV 12]⟩) :: (65, ⟨sL bb5 2 2, 3, 1, 2, [iV 1, iV 53]⟩) :: (64, ⟨sL bb4 2 2, 3, 1, 2, [iV 1, iV 366]⟩) :: (63, ⟨sL bb3 2 2, 3, 1, 2, [iV 1, iV 31]⟩) :: (62, ⟨sL bb2 2 2, 3, 1, 2, [iV 0, iV 23]⟩) :: (61, ⟨sL bb1 2 2, 3, 1, 2, [iV 0, iV 59]⟩) :: (60, ⟨sL bb0 2 2, 3, 1, 2, [iV 0, iV 59]⟩) :: S)
 refine g6 ?_
 refine GC_cond rfl (fun hc1 => ?_) (fun hc2 => ?_)
 ·have hlt : i < 8 := by have := of_decide_eq_true hc1; omega
  obtain ⟨q0, q1, q2, q3⟩ := vb_cs o x (bb0 := bb0) (bb1 := bb1) (bb2 := bb2) (bb3 := bb3) (bb4 := bb4) (bb5 := bb5) (bb6 := bb6) (bb7 := bb7) hlt
  have e8 : i = 0 ∨ i = 1 ∨ i = 2 ∨ i = 3 ∨ i = 4 ∨ i = 5 ∨ i = 6 ∨ i = 7 := by omega
  have hrow : lkp (60 + i) ((68, ⟨sL bz 8 8, 109, 4, 8, vbCs o x bb0 bb1 bb2 bb3 bb4 bb5 bb6 bb7⟩) :: (67, ⟨sL bb7 2 2, 3, 1, 2, [iV 1, iV 366]⟩) :: (66, ⟨sL bb6 2 2, 3, 1, 2, [iV 1, iV 12]⟩) :: (65, ⟨sL bb5 2 2, 3, 1, 2, [iV 1, iV 53]⟩) :: (64, ⟨sL bb4 2 2, 3, 1, 2, [iV 1, iV 366]⟩) :: (63, ⟨sL bb3 2 2, 3, 1, 2, [iV 1, iV 31]⟩) :: (62, ⟨sL bb2 2 2, 3, 1, 2, [iV 0, iV 23]⟩) :: (61, ⟨sL bb1 2 2, 3, 1, 2, [iV 0, iV 59]⟩) :: (60, ⟨sL bb0 2 2, 3, 1, 2, [iV 0, iV 59]⟩) :: S) = some ⟨.slice (some ⟨vbB bb0 bb1 bb2 bb3 bb4 bb5 bb6 bb7 i, 0, none⟩) 2 2, 3, 1, 2, [iV (vbLo i), iV (vbHi i)]⟩ := by rcases e8 with rfl | rfl | rfl | rfl | rfl | rfl | rfl | rfl <;> rfl
  have hbd : 0 ≤ vbLo i ∧ vbLo i ≤ 1000 ∧ 0 ≤ vbHi i ∧ vbHi i ≤ 1000 := by rcases e8 with rfl | rfl | rfl | rfl | rfl | rfl | rfl | rfl <;> decide
  have hvl := vk.lens i hlt
  have src : SrcT F w0 S 11 (.slice (vbAp x i) (vbL o i).length (vbAc x i)) (vbL o i) := by rcases e8 with rfl | rfl | rfl | rfl | rfl | rfl | rfl | rfl <;> first | exact s17 | exact s16 | exact s15 | exact s11 | exact s12 | exact s13 | exact s10 | exact s9
  refine g6 ?_
  refine rl (rd_indexAddr (e := 109) (n := 4) kR rfl rfl oM oM) ?_
  refine rl (rd_loadAgg_at (cs := [.slice (vbAp x i) (vbL o i).length (vbAc x i), vbStr i, .slice (some ⟨vbB bb0 bb1 bb2 bb3 bb4 bb5 bb6 bb7 i, 0, none⟩) 2 2, .bool (vbP i)]) kR rfl (fun w s => row_range (k := 68) s rfl rfl (fun j u hu => by match j, hu with | 0, hu => exact (by rw [← hu]; exact (congrArg (fun n => (vbCs o x bb0 bb1 bb2 bb3 bb4 bb5 bb6 bb7)[n]?) (show 0 + (i : Int).toNat * 4 + 0 = 4 * i by omega)).trans q0) | 1, hu => exact (by rw [← hu]; exact (congrArg (fun n => (vbCs o x bb0 bb1 bb2 bb3 bb4 bb5 bb6 bb7)[n]?) (show 0 + (i : Int).toNat * 4 + 1 = 4 * i + 1 by omega)).trans q1) | 2, hu => exact (by rw [← hu]; exact (congrArg (fun n => (vbCs o x bb0 bb1 bb2 bb3 bb4 bb5 bb6 bb7)[n]?) (show 0 + (i : Int).toNat * 4 + 2 = 4 * i + 2 by omega)).trans q2) | 3, hu => exact (by rw [← hu]; exact (congrArg (fun n => (vbCs o x bb0 bb1 bb2 bb3 bb4 bb5 bb6 bb7)[n]?) (show 0 + (i : Int).toNat * 4 + 3 = 4 * i + 3 by omega)).trans q3)))) ?_
  refine gL (at_alloc 70 (cs := [.slice none 0 0, .string ⟨#[]⟩, .slice none 0 0, .bool false]) dE kR (lim.b 70 dE) (fun o ho => lim.h 70 dE o ho) ble (fun b6 hb6 => ?_))
  refine gL (at_storeAgg 70 rfl rfl rfl rfl kR (by rcases e8 with rfl | rfl | rfl | rfl | rfl | rfl | rfl | rfl <;> rfl) ble ?_)
  refine g4 ?_
  refine rl (rfa 0) ?_
  refine rl (rld 70 rfl rfl rfl) ?_
  refine g5 ?_
  refine GC_loop (ι := (Nat)) (fun j => (vbL o i).length - j) (fun j => (j ≤ (vbL o i).length)) (fun j => [(1, pT b1), (4, .func (.func 64) #[] #[]), (45, sL bz 8 8), (46, iV 8), (47, iV i), (6, pT b6), (52, .slice (vbAp x i) (vbL o i).length (vbAc x i)), (53, iV ((vbL o i).length)), (54, iV j)]) (fun j => (70, b6) :: B) (fun j => putKeys 70 0 [.slice (vbAp x i) (vbL o i).length (vbAc x i), vbStr i, .slice (some ⟨vbB bb0 bb1 bb2 bb3 bb4 bb5 bb6 bb7 i, 0, none⟩) 2 2, .bool (vbP i)] ++ H) (fun j => (68, ⟨sL bz 8 8, 109, 4, 8, vbCs o x bb0 bb1 bb2 bb3 bb4 bb5 bb6 bb7⟩) :: (67, ⟨sL bb7 2 2, 3, 1, 2, [iV 1, iV 366]⟩) :: (66, ⟨sL bb6 2 2, 3, 1, 2, [iV 1, iV 12]⟩) :: (65, ⟨sL bb5 2 2, 3, 1, 2, [iV 1, iV 53]⟩) :: (64, ⟨sL bb4 2 2, 3, 1, 2, [iV 1, iV 366]⟩) :: (63, ⟨sL bb3 2 2, 3, 1, 2, [iV 1, iV 31]⟩) :: (62, ⟨sL bb2 2 2, 3, 1, 2, [iV 0, iV 23]⟩) :: (61, ⟨sL bb1 2 2, 3, 1, 2, [iV 0, iV 59]⟩) :: (60, ⟨sL bb0 2 2, 3, 1, 2, [iV 0, iV 59]⟩) :: S) 0 (Nat.zero_le _) kns (fun w s => by exact s.low 71 (Lim.putH dE _ 0 ble (by repeat (first | exact lim.mono dE | apply Lim.consS _ dE | apply Lim.consB _ dE))) agx agx agx) ?_
  rintro j hj
  show GC _ _ _ _ [(1, pT b1), (4, .func (.func 64) #[] #[]), (45, sL bz 8 8), (46, iV 8), (47, iV i), (6, pT b6), (52, .slice (vbAp x i) (vbL o i).length (vbAc x i)), (53, iV ((vbL o i).length)), (54, iV j)] _ _ ((70, b6) :: B) (putKeys 70 0 [.slice (vbAp x i) (vbL o i).length (vbAc x i), vbStr i, .slice (some ⟨vbB bb0 bb1 bb2 bb3 bb4 bb5 bb6 bb7 i, 0, none⟩) 2 2, .bool (vbP i)] ++ H) ((68, ⟨sL bz 8 8, 109, 4, 8, vbCs o x bb0 bb1 bb2 bb3 bb4 bb5 bb6 bb7⟩) :: (67, ⟨sL bb7 2 2, 3, 1, 2, [iV 1, iV 366]⟩) :: (66, ⟨sL bb6 2 2, 3, 1, 2, [iV 1, iV 12]⟩) :: (65, ⟨sL bb5 2 2, 3, 1, 2, [iV 1, iV 53]⟩) :: (64, ⟨sL bb4 2 2, 3, 1, 2, [iV 1, iV 366]⟩) :: (63, ⟨sL bb3 2 2, 3, 1, 2, [iV 1, iV 31]⟩) :: (62, ⟨sL bb2 2 2, 3, 1, 2, [iV 0, iV 23]⟩) :: (61, ⟨sL bb1 2 2, 3, 1, 2, [iV 0, iV 59]⟩) :: (60, ⟨sL bb0 2 2, 3, 1, 2, [iV 0, iV 59]⟩) :: S)
  refine g6 ?_
  refine GC_cond rfl (fun hc1 => ?_) (fun hc2 => ?_)
  ·have hltj : j < (vbL o i).length := by have := of_decide_eq_true hc1; omega
   obtain ⟨y, hy⟩ : ∃ y, (vbL o i)[j]? = some y := ⟨_, List.getElem?_eq_getElem hltj⟩
   have hin := vk.nums i hlt y (List.mem_of_getElem? hy)
   refine GC_have (fun w s => ((((((((((src.cons dE).cons dE).cons dE).cons dE).cons dE).cons dE).cons dE).cons dE).cons dE)).head s oM) fun hh => ?_
   obtain ⟨by_, oy_, hp_y⟩ := hh
   have src_y := src
   rw [hp_y] at src_y
   refine g6 ?_
   refine rl (rd_indexAddr (e := 3) (n := 1) kR (congrArg (fun p => some (Value.slice p _ _)) hp_y) rfl oM oM) ?_
   refine rl (rd_load_at kR rfl (fun w s => ((((((((((src_y.cons dE).cons dE).cons dE).cons dE).cons dE).cons dE).cons dE).cons dE).cons dE)).cell hy s)) ?_
   refine g6 ?_
   refine rl (rfa 1) ?_
   refine rl (rld 70 rfl rfl rfl) ?_
   refine g1 ?_
   refine rl (rfa 2) ?_
   refine rl (rld 70 rfl rfl rfl) ?_
   refine rl (rfa 3) ?_
   refine rl (rld 70 rfl rfl rfl) ?_
   refine gL (at_callv (ι := Unit) (first := []) (capt := []) (fun _ => .nilIface) (fun _ => True) (fun _ => _) (fun _ => _) (fun _ => _) dE rfl kR rfl (fun w_ s_ => (vb1_calls hrow hbd hin w_ s_).mono fun e_ w2_ h_ => ⟨(), trivial, h_.1, h_.2⟩) (fun _ _ => ?_))
   refine g6 ?_
   refine rl ((rd_bin (v := .bool false) rfl rfl (fun w => by kernel_rfl))) ?_
   refine g2 ?_
   refine GC_is_false rfl rfl ?_
   refine g7 ?_
   refine GE_back (j + 1) oM (by show j + 1 ≤ (vbL o i).length; omega) kns (fun w s => by exact s)
  ·have hgej : ¬ j < (vbL o i).length := by have := of_decide_eq_false hc2; omega
   refine g10 ?_
   refine GE_back (i + 1) oM (by show i + 1 ≤ 8; omega) kns (fun w s => by exact s.low 69 ((by repeat (first | exact lim.mono dE | apply Lim.consS _ dE))) agx agx agx)
 ·have hge : ¬ i < 8 := by have := of_decide_eq_false hc2; omega
  refine g8 ?_
  refine rl (rfa 14) ?_
  refine rl (rd_load 50 rfl hb1 (hc.get 14 _ rfl) kR dE) ?_
  refine g5 ?_
  refine GC_loop (ι := (Nat)) (fun k => o.wday.length - k) (fun k => (k ≤ o.wday.length)) (fun k => [(1, pT b1), (73, .slice x.p14 (o.wday).length x.c14), (74, iV (o.wday.length)), (75, iV k)]) (fun k => B) (fun k => H) (fun k => S) 0 (Nat.zero_le _) kns (fun w s => by exact s.low 53 lim agx agx agx) ?_
  rintro k hk
  show GC _ _ _ _ [(1, pT b1), (73, .slice x.p14 (o.wday).length x.c14), (74, iV (o.wday.length)), (75, iV k)] _ _ (B) (H) (S)
  refine g6 ?_
  refine GC_cond rfl (fun hc1 => ?_) (fun hc2 => ?_)
  ·have hltk : k < o.wday.length := by have := of_decide_eq_true hc1; omega
   obtain ⟨y, hy⟩ : ∃ y, o.wday[k]? = some y := ⟨_, List.getElem?_eq_getElem hltk⟩
   have hwl := vk.wlen
   have hdy := vk.days y (List.mem_of_getElem? hy)
   refine GC_have (fun w s => s14.head s oM) fun hh => ?_
   obtain ⟨by_, oy_, hp_y⟩ := hh
   have src_y := s14
   rw [hp_y] at src_y
   refine g6 ?_
   refine rl (rd_indexAddr (e := 59) (n := 2) kR (congrArg (fun p => some (Value.slice p _ _)) hp_y) rfl oM oM) ?_
   refine rl (rd_loadAgg_at (cs := [iV y.1, iV y.2]) kR rfl (fun w s => src_y.cell hy s)) ?_
   refine gL (at_alloc 53 (cs := [iV 0, iV 0]) dE kR (lim.b 53 dE) (fun o ho => lim.h 53 dE o ho) ble (fun b11 hb11 => ?_))
   refine gL (sta 53 rfl rfl rfl rfl ?_)
   refine g4 ?_
   refine rl (rfa 1) ?_
   refine rl (rld 53 rfl rfl rfl) ?_
   refine rl ((rd_gtr rfl rfl).to bF) ?_
   refine g2 ?_
   refine rl (rfa 1) ?_
   refine g1 ?_
   refine rl (rld 53 rfl rfl rfl) ?_
   refine g1 ?_
   refine rl ((rd_lss rfl rfl).to bF) ?_
   refine g3 ?_
   refine GC_is_false rfl rfl ?_
   refine g7 ?_
   refine GE_back (k + 1) oM (by show k + 1 ≤ o.wday.length; omega) kns (fun w s => by exact s.low 53 lim agx agx agx)
  ·have hgek : ¬ k < o.wday.length := by have := of_decide_eq_false hc2; omega
   refine g8 ?_
   refine rl (rfa 3) ?_
   refine rl (rd_load 50 rfl hb1 (hc.get 3 _ rfl) kR dE) ?_
   refine g3 ?_
   refine GC_is_false rfl (decide_eq_false (by have := vk.interval; omega)) ?_
   refine g8 ?_
   exact GE_ret1 (.inl rfl) rfl (res_tmp rfl) hR
end
end Go.Proofs.YtdbbifbmkfmbkaaGreat
namespace Go.Proofs.YtdbbifbmkfmbkaaGreat
open Go.RowKit Go.Fr Go.Tab
section
variable {F : Nat → Prop} {w0 : World} {B : List (Nat × Nat)} {H : List (Nat × Value)} {S : List (Nat × Slc)}
open Go.Md
theorem cellsAt_of {j : Nat} : ∀ {cs : List Value} {o : Nat}, (∀ i v, cs[i]? = some v → lkp (ky j (o + i)) H = some v) → cellsAt j H o cs
 | [], _, _ => trivial
 | c :: r, o, h => ⟨h 0 c rfl, cellsAt_of fun i v hv => by
   have := h (i + 1) v (by simpa using hv)
   rwa [show o + (i + 1) = o + 1 + i by omega] at this⟩
theorem put_get {j : Nat} : ∀ (cs : List Value) (o : Nat), o + cs.length ≤ 4096 → ∀ (i : Nat) (v : Value), cs[i]? = some v → lkp (ky j (o + i)) (putKeys j o cs ++ H) = some v
 | [], _, _, i, v, h => by simp at h
 | u :: r, o, hl, 0, v, h => by cases h; exact lkp_cons_self _ _ _
 | u :: r, o, hl, i + 1, v, h => by
  simp only [List.length_cons] at hl
  show lkp (ky j (o + (i + 1))) ((ky j o, u) :: (putKeys j (o + 1) r ++ H)) = _
  rw [lkp_cons_ne (by unfold ky; omega)]
  have := put_get (j := j) r (o + 1) oM i v (by simpa using h)
  rwa [show o + 1 + i = o + (i + 1) by omega] at this
theorem put_cells {j : Nat} (cs : List Value) (h : cs.length ≤ 4096) : cellsAt j (putKeys j 0 cs ++ H) 0 cs := cellsAt_of fun i v hv => put_get cs 0 oM i v hv
theorem lkp_putSeq_above {j : Nat} : ∀ (cs : List Value) (o q : Nat) {H : List (Nat × Value)}, o + cs.length ≤ q → lkp (ky j q) (putSeq j o cs H) = lkp (ky j q) H
 | [], _, _, _, _ => rfl
 | v :: r, o, q, H, h => by
  simp only [List.length_cons] at h
  show lkp (ky j q) (putSeq j (o + 1) r ((ky j o, v) :: H)) = _
  rw [lkp_putSeq_above r (o + 1) q oM, lkp_cons_ne (by unfold ky; omega)]
theorem validate_calls {o : Opn} {x : Av} (vk : VbOk o) (limB : Lim 40 B H S) (s9 : SrcT F w0 S 11 (.slice x.p9 (o.setpos).length x.c9) o.setpos) (s10 : SrcT F w0 S 11 (.slice x.p10 (o.month).length x.c10) o.month) (s11 : SrcT F w0 S 11 (.slice x.p11 (o.mday).length x.c11) o.mday) (s12 : SrcT F w0 S 11 (.slice x.p12 (o.yday).length x.c12) o.yday) (s13 : SrcT F w0 S 11 (.slice x.p13 (o.weekno).length x.c13) o.weekno) (s14 : SrcU F w0 S 11 (.slice x.p14 (o.wday).length x.c14) o.wday) (s15 : SrcT F w0 S 11 (.slice x.p15 (o.hour).length x.c15) o.hour) (s16 : SrcT F w0 S 11 (.slice x.p16 (o.minute).length x.c16) o.minute) (s17 : SrcT F w0 S 11 (.slice x.p17 (o.second).length x.c17) o.second) (s18 : SrcT F w0 S 11 (.slice x.p18 (o.easter).length x.c18) o.easter) : ∀ w, Sees F w0 B H S w → Calls Go.Proofs.Tryz.prog 42 #[.agg (oc0 o x).toArray] w fun e w' => e = .returned .nilIface ∧ Sees F w0 B H S w' := by
 intro w s
 refine calls_GC (args := [.agg (oc0 o x).toArray]) (L := [(0, .agg (oc0 o x).toArray)]) (N := 93) Tryz.func42 rfl rfl ble rfl s ?_
 refine g2 ?_
 refine gL (at_box 50 (cs := oc0 o x) dE rfl rfl (limB.b 50 dE) (fun o ho => limB.h 50 dE o ho) ble (fun b1 hb1 => ?_))
 refine g3 ?_
 refine GC_to (L' := [(1, pT b1)]) kns (fun w s => s) ?_
 exact vb_main (B := (50, b1) :: B) (H := putKeys 50 0 (oc0 o x) ++ H) (S := S) vk rfl (put_cells _ ble) (Lim.putH dE _ 0 ble ((limB.mono dE).consB dE)) s9 s10 s11 s12 s13 s14 s15 s16 s17 s18 (fun w s => ⟨rfl, s.low 50 (limB.mono dE) agx agx agx⟩)
def z60 : List Value := [iV 0, iV 0, iV 0, iV 0, iV 0, iV 0, iV 0, iV 0, iV 0, .slice none 0 0, .slice none 0 0, .slice none 0 0, .slice none 0 0, .slice none 0 0, .slice none 0 0, .slice none 0 0, .slice none 0 0, .slice none 0 0, .slice none 0 0, iV 0, iV 0, iV 0, iV 0, iV 0, iV 0, iV 0, iV 0, iV 0, .slice none 0 0, .slice none 0 0, .slice none 0 0, .slice none 0 0, .slice none 0 0, .slice none 0 0, .slice none 0 0, .slice none 0 0, .slice none 0 0, .slice none 0 0, iV 0, iV 0, iV 0, iV 0, iV 0, iV 0, iV 0, iV 0, .slice none 0 0, .slice none 0 0, .slice none 0 0, .slice none 0 0, .slice none 0 0, .slice none 0 0, .slice none 0 0, .slice none 0 0, .slice none 0 0, .slice none 0 0, .slice none 0 0, .slice none 0 0, .slice none 0 0, iV 0]
theorem Knw.put {H : List (Nat × Value)} {j : Nat} : ∀ (cs : List Value) (o : Nat) {H' : List (Nat × Value)}, Knw H' H → Knw (putKeys j o cs ++ H') H
 | [], _, _, h => h
 | v :: r, o, _, h => Knw.cons (Knw.put r (o + 1) h)
theorem build_calls {o : Opn} {x : Av} (ok : OpOk o) (hsort : o.freq < 4 → SortOk F w0 (raw o)) (limB : Lim 40 B H S) (s9 : SrcT F w0 S 11 (.slice x.p9 (o.setpos).length x.c9) o.setpos) (s10 : SrcT F w0 S 11 (.slice x.p10 (o.month).length x.c10) o.month) (s11 : SrcT F w0 S 11 (.slice x.p11 (o.mday).length x.c11) o.mday) (s12 : SrcT F w0 S 11 (.slice x.p12 (o.yday).length x.c12) o.yday) (s13 : SrcT F w0 S 11 (.slice x.p13 (o.weekno).length x.c13) o.weekno) (s14 : SrcU F w0 S 11 (.slice x.p14 (o.wday).length x.c14) o.wday) (s15 : SrcT F w0 S 11 (.slice x.p15 (o.hour).length x.c15) o.hour) (s16 : SrcT F w0 S 11 (.slice x.p16 (o.minute).length x.c16) o.minute) (s17 : SrcT F w0 S 11 (.slice x.p17 (o.second).length x.c17) o.second) (s18 : SrcT F w0 S 11 (.slice x.p18 (o.easter).length x.c18) o.easter) : ∀ w, Sees F w0 B H S w → Calls Go.Proofs.Tryz.prog 43 #[.agg (oc0 o x).toArray] w fun e w' => ∃ x' S', e = .returned (.agg (outC o x').toArray) ∧ OutF F w0 o x' S S' ∧ Sees F w0 B H S' w' := by
 intro w s
 refine calls_GC (args := [.agg (oc0 o x).toArray]) (L := [(0, .agg (oc0 o x).toArray)]) (N := 300) Tryz.func43 rfl rfl ble rfl s ?_
 refine g2 ?_
 refine gL (at_box 50 (cs := oc0 o x) dE rfl rfl (limB.b 50 dE) (fun o ho => limB.h 50 dE o ho) ble (fun b1 hb1 => ?_))
 refine gL (at_alloc 51 (cs := [iV 0, iV 0, iV 0, iV 0, iV 0, iV 0, iV 0, iV 0, iV 0, .slice none 0 0, .slice none 0 0, .slice none 0 0, .slice none 0 0, .slice none 0 0, .slice none 0 0, .slice none 0 0, .slice none 0 0, .slice none 0 0, .slice none 0 0, iV 0, iV 0, iV 0, iV 0, iV 0, iV 0, iV 0, iV 0, iV 0, .slice none 0 0, .slice none 0 0, .slice none 0 0, .slice none 0 0, .slice none 0 0, .slice none 0 0, .slice none 0 0, .slice none 0 0, .slice none 0 0, .slice none 0 0, iV 0, iV 0, iV 0, iV 0, iV 0, iV 0, iV 0, iV 0, .slice none 0 0, .slice none 0 0, .slice none 0 0, .slice none 0 0, .slice none 0 0, .slice none 0 0, .slice none 0 0, .slice none 0 0, .slice none 0 0, .slice none 0 0, .slice none 0 0, .slice none 0 0, .slice none 0 0, iV 0]) dE kR (limB.b 51 dE) (fun o ho => by repeat (first | exact limB.h 51 dE o ho | rw [lkp_put_ne dE ho _ _ ble])) ble (fun b2 hb2 => ?_))
 refine g4 ?_
 refine rl ((rd_build0 (v := .agg ([iV 0, iV 0, iV 0, iV 0, iV 0, iV 0, iV 0, iV 0, iV 0, .slice none 0 0, .slice none 0 0, .slice none 0 0, .slice none 0 0, .slice none 0 0, .slice none 0 0, .slice none 0 0, .slice none 0 0, .slice none 0 0, .slice none 0 0, iV 0, iV 0, iV 0, iV 0, iV 0, iV 0, iV 0, iV 0, iV 0, .slice none 0 0, .slice none 0 0, .slice none 0 0, .slice none 0 0, .slice none 0 0, .slice none 0 0, .slice none 0 0, .slice none 0 0, .slice none 0 0, .slice none 0 0, iV 0, iV 0, iV 0, iV 0, iV 0, iV 0, iV 0, iV 0, .slice none 0 0, .slice none 0 0, .slice none 0 0, .slice none 0 0, .slice none 0 0, .slice none 0 0, .slice none 0 0, .slice none 0 0, .slice none 0 0, .slice none 0 0, .slice none 0 0, .slice none 0 0, .slice none 0 0, iV 0] : List Value).toArray) (fun w => by kernel_rfl))) ?_
 refine gL (at_alloc 52 (cs := [iV 0, iV 0, iV 0, iV 0, iV 0, iV 0, iV 0, iV 0, iV 0, .slice none 0 0, .slice none 0 0, .slice none 0 0, .slice none 0 0, .slice none 0 0, .slice none 0 0, .slice none 0 0, .slice none 0 0, .slice none 0 0, .slice none 0 0, iV 0, iV 0, iV 0, iV 0, iV 0, iV 0, iV 0, iV 0, iV 0, .slice none 0 0, .slice none 0 0, .slice none 0 0, .slice none 0 0, .slice none 0 0, .slice none 0 0, .slice none 0 0, .slice none 0 0, .slice none 0 0, .slice none 0 0, iV 0, iV 0, iV 0, iV 0, iV 0, iV 0, iV 0, iV 0, .slice none 0 0, .slice none 0 0, .slice none 0 0, .slice none 0 0, .slice none 0 0, .slice none 0 0, .slice none 0 0, .slice none 0 0, .slice none 0 0, .slice none 0 0, .slice none 0 0, .slice none 0 0, .slice none 0 0, iV 0]) dE kR (limB.b 52 dE) (fun o ho => by repeat (first | exact limB.h 52 dE o ho | rw [lkp_put_ne dE ho _ _ ble])) ble (fun b3 hb3 => ?_))
 refine gL (at_storeAgg 52 (cs := ([iV 0, iV 0, iV 0, iV 0, iV 0, iV 0, iV 0, iV 0, iV 0, .slice none 0 0, .slice none 0 0, .slice none 0 0, .slice none 0 0, .slice none 0 0, .slice none 0 0, .slice none 0 0, .slice none 0 0, .slice none 0 0, .slice none 0 0, iV 0, iV 0, iV 0, iV 0, iV 0, iV 0, iV 0, iV 0, iV 0, .slice none 0 0, .slice none 0 0, .slice none 0 0, .slice none 0 0, .slice none 0 0, .slice none 0 0, .slice none 0 0, .slice none 0 0, .slice none 0 0, .slice none 0 0, iV 0, iV 0, iV 0, iV 0, iV 0, iV 0, iV 0, iV 0, .slice none 0 0, .slice none 0 0, .slice none 0 0, .slice none 0 0, .slice none 0 0, .slice none 0 0, .slice none 0 0, .slice none 0 0, .slice none 0 0, .slice none 0 0, .slice none 0 0, .slice none 0 0, .slice none 0 0, iV 0] : List Value).toArray) rfl rfl rfl (cellsAt_some (put_cells [iV 0, iV 0, iV 0, iV 0, iV 0, iV 0, iV 0, iV 0, iV 0, .slice none 0 0, .slice none 0 0, .slice none 0 0, .slice none 0 0, .slice none 0 0, .slice none 0 0, .slice none 0 0, .slice none 0 0, .slice none 0 0, .slice none 0 0, iV 0, iV 0, iV 0, iV 0, iV 0, iV 0, iV 0, iV 0, iV 0, .slice none 0 0, .slice none 0 0, .slice none 0 0, .slice none 0 0, .slice none 0 0, .slice none 0 0, .slice none 0 0, .slice none 0 0, .slice none 0 0, .slice none 0 0, iV 0, iV 0, iV 0, iV 0, iV 0, iV 0, iV 0, iV 0, .slice none 0 0, .slice none 0 0, .slice none 0 0, .slice none 0 0, .slice none 0 0, .slice none 0 0, .slice none 0 0, .slice none 0 0, .slice none 0 0, .slice none 0 0, .slice none 0 0, .slice none 0 0, .slice none 0 0, iV 0] ble) 0 60 ble) kR rfl ble ?_)
 refine g4 ?_
 refine rl ((rd_loadN 50 (cs := oc0 o x) rfl rfl (fun i u h => (lkp_seq_ne dE (by have := (List.getElem?_eq_some_iff.1 h).1; have h3 : (oc0 o x).length = 19 := rfl; omega) _ _ ble).trans ((lkp_put_ne dE (by have := (List.getElem?_eq_some_iff.1 h).1; have h3 : (oc0 o x).length = 19 := rfl; omega) _ _ ble).trans ((lkp_put_ne dE (by have := (List.getElem?_eq_some_iff.1 h).1; have h3 : (oc0 o x).length = 19 := rfl; omega) _ _ ble).trans (put_get (oc0 o x) 0 ble i u h)))) ble kR)) ?_
 refine rl (rfa 0) ?_
 refine gL (at_storeAgg 52 (cs := (oc0 o x).toArray) rfl rfl rfl (knwn_mono (Knw.seq _ _ (Knw.refl _)) (cellsAt_some (put_cells [iV 0, iV 0, iV 0, iV 0, iV 0, iV 0, iV 0, iV 0, iV 0, .slice none 0 0, .slice none 0 0, .slice none 0 0, .slice none 0 0, .slice none 0 0, .slice none 0 0, .slice none 0 0, .slice none 0 0, .slice none 0 0, .slice none 0 0, iV 0, iV 0, iV 0, iV 0, iV 0, iV 0, iV 0, iV 0, iV 0, .slice none 0 0, .slice none 0 0, .slice none 0 0, .slice none 0 0, .slice none 0 0, .slice none 0 0, .slice none 0 0, .slice none 0 0, .slice none 0 0, .slice none 0 0, iV 0, iV 0, iV 0, iV 0, iV 0, iV 0, iV 0, iV 0, .slice none 0 0, .slice none 0 0, .slice none 0 0, .slice none 0 0, .slice none 0 0, .slice none 0 0, .slice none 0 0, .slice none 0 0, .slice none 0 0, .slice none 0 0, .slice none 0 0, .slice none 0 0, .slice none 0 0, iV 0] ble) 0 19 ble)) kR rfl ble ?_)
 refine g2 ?_
 refine GC_to (L' := [(1, pT b1), (2, pT b2), (3, pT b3)]) kns (fun w s => s) (H' := putSeq 52 0 (oc0 o x) (putSeq 52 0 [iV 0, iV 0, iV 0, iV 0, iV 0, iV 0, iV 0, iV 0, iV 0, .slice none 0 0, .slice none 0 0, .slice none 0 0, .slice none 0 0, .slice none 0 0, .slice none 0 0, .slice none 0 0, .slice none 0 0, .slice none 0 0, .slice none 0 0, iV 0, iV 0, iV 0, iV 0, iV 0, iV 0, iV 0, iV 0, iV 0, .slice none 0 0, .slice none 0 0, .slice none 0 0, .slice none 0 0, .slice none 0 0, .slice none 0 0, .slice none 0 0, .slice none 0 0, .slice none 0 0, .slice none 0 0, iV 0, iV 0, iV 0, iV 0, iV 0, iV 0, iV 0, iV 0, .slice none 0 0, .slice none 0 0, .slice none 0 0, .slice none 0 0, .slice none 0 0, .slice none 0 0, .slice none 0 0, .slice none 0 0, .slice none 0 0, .slice none 0 0, .slice none 0 0, .slice none 0 0, .slice none 0 0, iV 0] (putKeys 52 0 [iV 0, iV 0, iV 0, iV 0, iV 0, iV 0, iV 0, iV 0, iV 0, .slice none 0 0, .slice none 0 0, .slice none 0 0, .slice none 0 0, .slice none 0 0, .slice none 0 0, .slice none 0 0, .slice none 0 0, .slice none 0 0, .slice none 0 0, iV 0, iV 0, iV 0, iV 0, iV 0, iV 0, iV 0, iV 0, iV 0, .slice none 0 0, .slice none 0 0, .slice none 0 0, .slice none 0 0, .slice none 0 0, .slice none 0 0, .slice none 0 0, .slice none 0 0, .slice none 0 0, .slice none 0 0, iV 0, iV 0, iV 0, iV 0, iV 0, iV 0, iV 0, iV 0, .slice none 0 0, .slice none 0 0, .slice none 0 0, .slice none 0 0, .slice none 0 0, .slice none 0 0, .slice none 0 0, .slice none 0 0, .slice none 0 0, .slice none 0 0, .slice none 0 0, .slice none 0 0, .slice none 0 0, iV 0] ++ (putKeys 51 0 [iV 0, iV 0, iV 0, iV 0, iV 0, iV 0, iV 0, iV 0, iV 0, .slice none 0 0, .slice none 0 0, .slice none 0 0, .slice none 0 0, .slice none 0 0, .slice none 0 0, .slice none 0 0, .slice none 0 0, .slice none 0 0, .slice none 0 0, iV 0, iV 0, iV 0, iV 0, iV 0, iV 0, iV 0, iV 0, iV 0, .slice none 0 0, .slice none 0 0, .slice none 0 0, .slice none 0 0, .slice none 0 0, .slice none 0 0, .slice none 0 0, .slice none 0 0, .slice none 0 0, .slice none 0 0, iV 0, iV 0, iV 0, iV 0, iV 0, iV 0, iV 0, iV 0, .slice none 0 0, .slice none 0 0, .slice none 0 0, .slice none 0 0, .slice none 0 0, .slice none 0 0, .slice none 0 0, .slice none 0 0, .slice none 0 0, .slice none 0 0, .slice none 0 0, .slice none 0 0, .slice none 0 0, iV 0] ++ (putKeys 50 0 (oc0 o x) ++ H))))) ?_
 have hcs : cellsAt 52 (putSeq 52 0 (oc0 o x) (putSeq 52 0 z60 (putKeys 52 0 z60 ++ (putKeys 51 0 z60 ++ (putKeys 50 0 (oc0 o x) ++ H))))) 0 (rc0 o x) := (cellsAt.cons (putSeq_get (oc0 o x) 0 ble 0 _ rfl) (cellsAt.cons (putSeq_get (oc0 o x) 0 ble 1 _ rfl) (cellsAt.cons (putSeq_get (oc0 o x) 0 ble 2 _ rfl) (cellsAt.cons (putSeq_get (oc0 o x) 0 ble 3 _ rfl) (cellsAt.cons (putSeq_get (oc0 o x) 0 ble 4 _ rfl) (cellsAt.cons (putSeq_get (oc0 o x) 0 ble 5 _ rfl) (cellsAt.cons (putSeq_get (oc0 o x) 0 ble 6 _ rfl) (cellsAt.cons (putSeq_get (oc0 o x) 0 ble 7 _ rfl) (cellsAt.cons (putSeq_get (oc0 o x) 0 ble 8 _ rfl) (cellsAt.cons (putSeq_get (oc0 o x) 0 ble 9 _ rfl) (cellsAt.cons (putSeq_get (oc0 o x) 0 ble 10 _ rfl) (cellsAt.cons (putSeq_get (oc0 o x) 0 ble 11 _ rfl) (cellsAt.cons (putSeq_get (oc0 o x) 0 ble 12 _ rfl) (cellsAt.cons (putSeq_get (oc0 o x) 0 ble 13 _ rfl) (cellsAt.cons (putSeq_get (oc0 o x) 0 ble 14 _ rfl) (cellsAt.cons (putSeq_get (oc0 o x) 0 ble 15 _ rfl) (cellsAt.cons (putSeq_get (oc0 o x) 0 ble 16 _ rfl) (cellsAt.cons (putSeq_get (oc0 o x) 0 ble 17 _ rfl) (cellsAt.cons (putSeq_get (oc0 o x) 0 ble 18 _ rfl) (cellsAt.cons ((lkp_putSeq_above (oc0 o x) 0 19 ble).trans (putSeq_get z60 0 ble 19 _ rfl)) (cellsAt.cons ((lkp_putSeq_above (oc0 o x) 0 20 ble).trans (putSeq_get z60 0 ble 20 _ rfl)) (cellsAt.cons ((lkp_putSeq_above (oc0 o x) 0 21 ble).trans (putSeq_get z60 0 ble 21 _ rfl)) (cellsAt.cons ((lkp_putSeq_above (oc0 o x) 0 22 ble).trans (putSeq_get z60 0 ble 22 _ rfl)) (cellsAt.cons ((lkp_putSeq_above (oc0 o x) 0 23 ble).trans (putSeq_get z60 0 ble 23 _ rfl)) (cellsAt.cons ((lkp_putSeq_above (oc0 o x) 0 24 ble).trans (putSeq_get z60 0 ble 24 _ rfl)) (cellsAt.cons ((lkp_putSeq_above (oc0 o x) 0 25 ble).trans (putSeq_get z60 0 ble 25 _ rfl)) (cellsAt.cons ((lkp_putSeq_above (oc0 o x) 0 26 ble).trans (putSeq_get z60 0 ble 26 _ rfl)) (cellsAt.cons ((lkp_putSeq_above (oc0 o x) 0 27 ble).trans (putSeq_get z60 0 ble 27 _ rfl)) (cellsAt.cons ((lkp_putSeq_above (oc0 o x) 0 28 ble).trans (putSeq_get z60 0 ble 28 _ rfl)) (cellsAt.cons ((lkp_putSeq_above (oc0 o x) 0 29 ble).trans (putSeq_get z60 0 ble 29 _ rfl)) (cellsAt.cons ((lkp_putSeq_above (oc0 o x) 0 30 ble).trans (putSeq_get z60 0 ble 30 _ rfl)) (cellsAt.cons ((lkp_putSeq_above (oc0 o x) 0 31 ble).trans (putSeq_get z60 0 ble 31 _ rfl)) (cellsAt.cons ((lkp_putSeq_above (oc0 o x) 0 32 ble).trans (putSeq_get z60 0 ble 32 _ rfl)) (cellsAt.cons ((lkp_putSeq_above (oc0 o x) 0 33 ble).trans (putSeq_get z60 0 ble 33 _ rfl)) (cellsAt.cons ((lkp_putSeq_above (oc0 o x) 0 34 ble).trans (putSeq_get z60 0 ble 34 _ rfl)) (cellsAt.cons ((lkp_putSeq_above (oc0 o x) 0 35 ble).trans (putSeq_get z60 0 ble 35 _ rfl)) (cellsAt.cons ((lkp_putSeq_above (oc0 o x) 0 36 ble).trans (putSeq_get z60 0 ble 36 _ rfl)) (cellsAt.cons ((lkp_putSeq_above (oc0 o x) 0 37 ble).trans (putSeq_get z60 0 ble 37 _ rfl)) (cellsAt.cons ((lkp_putSeq_above (oc0 o x) 0 38 ble).trans (putSeq_get z60 0 ble 38 _ rfl)) (cellsAt.cons ((lkp_putSeq_above (oc0 o x) 0 39 ble).trans (putSeq_get z60 0 ble 39 _ rfl)) (cellsAt.cons ((lkp_putSeq_above (oc0 o x) 0 40 ble).trans (putSeq_get z60 0 ble 40 _ rfl)) (cellsAt.cons ((lkp_putSeq_above (oc0 o x) 0 41 ble).trans (putSeq_get z60 0 ble 41 _ rfl)) (cellsAt.cons ((lkp_putSeq_above (oc0 o x) 0 42 ble).trans (putSeq_get z60 0 ble 42 _ rfl)) (cellsAt.cons ((lkp_putSeq_above (oc0 o x) 0 43 ble).trans (putSeq_get z60 0 ble 43 _ rfl)) (cellsAt.cons ((lkp_putSeq_above (oc0 o x) 0 44 ble).trans (putSeq_get z60 0 ble 44 _ rfl)) (cellsAt.cons ((lkp_putSeq_above (oc0 o x) 0 45 ble).trans (putSeq_get z60 0 ble 45 _ rfl)) (cellsAt.cons ((lkp_putSeq_above (oc0 o x) 0 46 ble).trans (putSeq_get z60 0 ble 46 _ rfl)) (cellsAt.cons ((lkp_putSeq_above (oc0 o x) 0 47 ble).trans (putSeq_get z60 0 ble 47 _ rfl)) (cellsAt.cons ((lkp_putSeq_above (oc0 o x) 0 48 ble).trans (putSeq_get z60 0 ble 48 _ rfl)) (cellsAt.cons ((lkp_putSeq_above (oc0 o x) 0 49 ble).trans (putSeq_get z60 0 ble 49 _ rfl)) (cellsAt.cons ((lkp_putSeq_above (oc0 o x) 0 50 ble).trans (putSeq_get z60 0 ble 50 _ rfl)) (cellsAt.cons ((lkp_putSeq_above (oc0 o x) 0 51 ble).trans (putSeq_get z60 0 ble 51 _ rfl)) (cellsAt.cons ((lkp_putSeq_above (oc0 o x) 0 52 ble).trans (putSeq_get z60 0 ble 52 _ rfl)) (cellsAt.cons ((lkp_putSeq_above (oc0 o x) 0 53 ble).trans (putSeq_get z60 0 ble 53 _ rfl)) (cellsAt.cons ((lkp_putSeq_above (oc0 o x) 0 54 ble).trans (putSeq_get z60 0 ble 54 _ rfl)) (cellsAt.cons ((lkp_putSeq_above (oc0 o x) 0 55 ble).trans (putSeq_get z60 0 ble 55 _ rfl)) (cellsAt.cons ((lkp_putSeq_above (oc0 o x) 0 56 ble).trans (putSeq_get z60 0 ble 56 _ rfl)) (cellsAt.cons ((lkp_putSeq_above (oc0 o x) 0 57 ble).trans (putSeq_get z60 0 ble 57 _ rfl)) (cellsAt.cons ((lkp_putSeq_above (oc0 o x) 0 58 ble).trans (putSeq_get z60 0 ble 58 _ rfl)) (cellsAt.cons ((lkp_putSeq_above (oc0 o x) 0 59 ble).trans (putSeq_get z60 0 ble 59 _ rfl)) cellsAt.nil))))))))))))))))))))))))))))))))))))))))))))))))))))))))))))
 have bs : Bs F w0 B H S b1 b2 b3 (oc0 o x) (rc0 o x) (putSeq 52 0 (oc0 o x) (putSeq 52 0 [iV 0, iV 0, iV 0, iV 0, iV 0, iV 0, iV 0, iV 0, iV 0, .slice none 0 0, .slice none 0 0, .slice none 0 0, .slice none 0 0, .slice none 0 0, .slice none 0 0, .slice none 0 0, .slice none 0 0, .slice none 0 0, .slice none 0 0, iV 0, iV 0, iV 0, iV 0, iV 0, iV 0, iV 0, iV 0, iV 0, .slice none 0 0, .slice none 0 0, .slice none 0 0, .slice none 0 0, .slice none 0 0, .slice none 0 0, .slice none 0 0, .slice none 0 0, .slice none 0 0, .slice none 0 0, iV 0, iV 0, iV 0, iV 0, iV 0, iV 0, iV 0, iV 0, .slice none 0 0, .slice none 0 0, .slice none 0 0, .slice none 0 0, .slice none 0 0, .slice none 0 0, .slice none 0 0, .slice none 0 0, .slice none 0 0, .slice none 0 0, .slice none 0 0, .slice none 0 0, .slice none 0 0, iV 0] (putKeys 52 0 [iV 0, iV 0, iV 0, iV 0, iV 0, iV 0, iV 0, iV 0, iV 0, .slice none 0 0, .slice none 0 0, .slice none 0 0, .slice none 0 0, .slice none 0 0, .slice none 0 0, .slice none 0 0, .slice none 0 0, .slice none 0 0, .slice none 0 0, iV 0, iV 0, iV 0, iV 0, iV 0, iV 0, iV 0, iV 0, iV 0, .slice none 0 0, .slice none 0 0, .slice none 0 0, .slice none 0 0, .slice none 0 0, .slice none 0 0, .slice none 0 0, .slice none 0 0, .slice none 0 0, .slice none 0 0, iV 0, iV 0, iV 0, iV 0, iV 0, iV 0, iV 0, iV 0, .slice none 0 0, .slice none 0 0, .slice none 0 0, .slice none 0 0, .slice none 0 0, .slice none 0 0, .slice none 0 0, .slice none 0 0, .slice none 0 0, .slice none 0 0, .slice none 0 0, .slice none 0 0, .slice none 0 0, iV 0] ++ (putKeys 51 0 [iV 0, iV 0, iV 0, iV 0, iV 0, iV 0, iV 0, iV 0, iV 0, .slice none 0 0, .slice none 0 0, .slice none 0 0, .slice none 0 0, .slice none 0 0, .slice none 0 0, .slice none 0 0, .slice none 0 0, .slice none 0 0, .slice none 0 0, iV 0, iV 0, iV 0, iV 0, iV 0, iV 0, iV 0, iV 0, iV 0, .slice none 0 0, .slice none 0 0, .slice none 0 0, .slice none 0 0, .slice none 0 0, .slice none 0 0, .slice none 0 0, .slice none 0 0, .slice none 0 0, .slice none 0 0, iV 0, iV 0, iV 0, iV 0, iV 0, iV 0, iV 0, iV 0, .slice none 0 0, .slice none 0 0, .slice none 0 0, .slice none 0 0, .slice none 0 0, .slice none 0 0, .slice none 0 0, .slice none 0 0, .slice none 0 0, .slice none 0 0, .slice none 0 0, .slice none 0 0, .slice none 0 0, iV 0] ++ (putKeys 50 0 (oc0 o x) ++ H))))) S := ⟨cellsAt_of fun i u h => (lkp_seq_ne dE (by have := (List.getElem?_eq_some_iff.1 h).1; have h3 : (oc0 o x).length = 19 := rfl; omega) _ _ ble).trans ((lkp_seq_ne dE (by have := (List.getElem?_eq_some_iff.1 h).1; have h3 : (oc0 o x).length = 19 := rfl; omega) _ _ ble).trans ((lkp_put_ne dE (by have := (List.getElem?_eq_some_iff.1 h).1; have h3 : (oc0 o x).length = 19 := rfl; omega) _ _ ble).trans ((lkp_put_ne dE (by have := (List.getElem?_eq_some_iff.1 h).1; have h3 : (oc0 o x).length = 19 := rfl; omega) _ _ ble).trans (put_get (oc0 o x) 0 ble i u h)))), hcs, ?_, ?_, limB, ?_, fun _ _ _ => rfl⟩
 ·exact bu_A2 (x := x) ok hsort bs s9 s10 s11 s12 s13 s14 s15 s16 s17 s18 (fun x' S' hf w s => ⟨x', S', rfl, hf, s⟩)
 ·exact knwn_mono (Knw.seq _ _ (Knw.seq _ _ (Knw.put _ _ (Knw.refl _)))) (cellsAt_some (put_cells [iV 0, iV 0, iV 0, iV 0, iV 0, iV 0, iV 0, iV 0, iV 0, .slice none 0 0, .slice none 0 0, .slice none 0 0, .slice none 0 0, .slice none 0 0, .slice none 0 0, .slice none 0 0, .slice none 0 0, .slice none 0 0, .slice none 0 0, iV 0, iV 0, iV 0, iV 0, iV 0, iV 0, iV 0, iV 0, iV 0, .slice none 0 0, .slice none 0 0, .slice none 0 0, .slice none 0 0, .slice none 0 0, .slice none 0 0, .slice none 0 0, .slice none 0 0, .slice none 0 0, .slice none 0 0, iV 0, iV 0, iV 0, iV 0, iV 0, iV 0, iV 0, iV 0, .slice none 0 0, .slice none 0 0, .slice none 0 0, .slice none 0 0, .slice none 0 0, .slice none 0 0, .slice none 0 0, .slice none 0 0, .slice none 0 0, .slice none 0 0, .slice none 0 0, .slice none 0 0, .slice none 0 0, iV 0] ble) 0 60 ble)
 ·exact Lim.seqH dE _ 0 ble (Lim.seqH dE _ 0 ble (Lim.putH dE _ 0 ble (Lim.putH dE _ 0 ble (Lim.putH dE _ 0 ble ((((limB.mono dE).consB dE).consB dE).consB dE)))))
 ·exact fun k hk o_ ho_ => (lkp_seq_ne oM ho_ _ _ ble).trans ((lkp_seq_ne oM ho_ _ _ ble).trans ((lkp_put_ne oM ho_ _ _ ble).trans ((lkp_put_ne oM ho_ _ _ ble).trans (lkp_put_ne oM ho_ _ _ ble))))
theorem Agr.skip_under {α : Type} {m q k : Nat} {v u : α} {A : List (Nat × α)} (h : m ≤ q) : Agr m [] ((k, u) :: (q, v) :: A) ((k, u) :: A) := fun j hj _ => by
 by_cases e : j = k
 ·subst e; rw [lkp_cons_self, lkp_cons_self]
 ·rw [lkp_cons_ne e, lkp_cons_ne e, lkp_cons_ne oM]
theorem agr_new {H : List (Nat × Value)} {cs zs os : List Value} (hl : ∀ k, 36 ≤ k → ∀ o, o < 4096 → lkp (ky k o) H = none) (h1 : cs.length ≤ 4096) (h2 : zs.length ≤ 4096) (h3 : os.length ≤ 4096) (he : cs.length = zs.length) : Agr (ky 36 0) [] (putSeq 1 0 cs (putKeys 1 0 zs ++ (putKeys 36 0 os ++ H))) (putKeys 1 0 cs ++ H) := fun q hq _ => by
 obtain ⟨k, o, ho, rfl⟩ : ∃ k o, o < 4096 ∧ q = ky k o := ⟨q / 4096, q % 4096, Nat.mod_lt _ dE, by unfold ky; omega⟩
 have hk : k < 36 := by unfold ky at hq; omega
 by_cases e : k = 1
 ·subst e
  rcases Nat.lt_or_ge o cs.length with h | h
  ·have e1 := putSeq_get (j := 1) cs 0 (H := putKeys 1 0 zs ++ (putKeys 36 0 os ++ H)) oM o _ (List.getElem?_eq_getElem h)
   have e2 := put_get (j := 1) (H := H) cs 0 oM o _ (List.getElem?_eq_getElem h)
   rw [Nat.zero_add] at e1 e2
   rw [e1, e2]
  ·rw [lkp_putSeq_above cs 0 o oM, lkp_append_ne (fun v hv => ?_), lkp_append_ne (fun v hv => ?_), lkp_append_ne (fun v hv => ?_)]
   ·obtain ⟨j, hj, hlt⟩ := putKeys_mem cs 0 hv
    unfold ky at hj; omega
   ·obtain ⟨j, hj, hlt⟩ := putKeys_mem os 0 hv
    unfold ky at hj; omega
   ·obtain ⟨j, hj, hlt⟩ := putKeys_mem zs 0 hv
    unfold ky at hj; omega
 ·rw [lkp_seq_ne e ho cs 0 oM, lkp_put_ne e ho zs 0 oM, lkp_put_ne oM ho os 0 oM, lkp_put_ne e ho cs 0 oM]
theorem newRRule_calls {o : Opn} {x : Av} (ok : OpOk o) (vk : VbOk o) (hsort : o.freq < 4 → SortOk F w0 (raw o)) (limB : Lim 36 B H S) (h1 : lkp 1 B = none) (h1h : ∀ q, q < 4096 → lkp (ky 1 q) H = none) (s9 : SrcT F w0 S 11 (.slice x.p9 (o.setpos).length x.c9) o.setpos) (s10 : SrcT F w0 S 11 (.slice x.p10 (o.month).length x.c10) o.month) (s11 : SrcT F w0 S 11 (.slice x.p11 (o.mday).length x.c11) o.mday) (s12 : SrcT F w0 S 11 (.slice x.p12 (o.yday).length x.c12) o.yday) (s13 : SrcT F w0 S 11 (.slice x.p13 (o.weekno).length x.c13) o.weekno) (s14 : SrcU F w0 S 11 (.slice x.p14 (o.wday).length x.c14) o.wday) (s15 : SrcT F w0 S 11 (.slice x.p15 (o.hour).length x.c15) o.hour) (s16 : SrcT F w0 S 11 (.slice x.p16 (o.minute).length x.c16) o.minute) (s17 : SrcT F w0 S 11 (.slice x.p17 (o.second).length x.c17) o.second) (s18 : SrcT F w0 S 11 (.slice x.p18 (o.easter).length x.c18) o.easter) : ∀ w, Sees F w0 B H S w → Calls Go.Proofs.Tryz.prog 33 #[.agg (oc0 o x).toArray] w fun e w' => ∃ rb x' S', e = .returned (.tuple #[pT rb, .nilIface]) ∧ OutF F w0 o x' S S' ∧ Sees F w0 ((1, rb) :: B) (putKeys 1 0 (outC o x') ++ H) S' w' := by
 intro w s
 refine calls_GC (args := [.agg (oc0 o x).toArray]) (L := [(0, .agg (oc0 o x).toArray)]) (N := 13) Tryz.func33 rfl rfl ble rfl s ?_
 refine g2 ?_
 refine gL (at_box 36 (cs := oc0 o x) dE rfl rfl (limB.b 36 dE) (fun o ho => limB.h 36 dE o ho) ble (fun b1 hb1 => ?_))
 refine g7 ?_
 refine rl ((rd_loadN 36 (cs := oc0 o x) rfl rfl (put_get (oc0 o x) 0 ble) ble kR)) ?_
 refine gL (at_call_same (v := .nilIface) dE kR rfl (validate_calls vk (Lim.putH dE _ 0 ble ((limB.mono dE).consB dE)) s9 s10 s11 s12 s13 s14 s15 s16 s17 s18) ?_)
 refine g6 ?_
 refine rl ((rd_bin (v := .bool false) rfl rfl (fun w => by kernel_rfl))) ?_
 refine g2 ?_
 refine GC_is_false rfl rfl ?_
 refine g4 ?_
 refine rl ((rd_loadN 36 (cs := oc0 o x) rfl rfl (put_get (oc0 o x) 0 ble) ble kR)) ?_
 refine gL (at_call (ι := Av × List (Nat × Slc)) (fun y => .agg (outC o y.1).toArray) (fun y => OutF F w0 o y.1 S y.2) (fun _ => (36, b1) :: B) (fun _ => putKeys 36 0 (oc0 o x) ++ H) (fun y => y.2) dE kR rfl (fun w_ s_ => (build_calls ok hsort (Lim.putH dE _ 0 ble ((limB.mono dE).consB dE)) s9 s10 s11 s12 s13 s14 s15 s16 s17 s18 w_ s_).mono fun e w' ⟨x', S', he, hf, hs⟩ => ⟨(x', S'), hf, he, hs⟩) (fun | (x2, S2), hf2 => ?_))
 refine gL (at_alloc 1 (cs := [iV 0, iV 0, iV 0, iV 0, iV 0, iV 0, iV 0, iV 0, iV 0, .slice none 0 0, .slice none 0 0, .slice none 0 0, .slice none 0 0, .slice none 0 0, .slice none 0 0, .slice none 0 0, .slice none 0 0, .slice none 0 0, .slice none 0 0, iV 0, iV 0, iV 0, iV 0, iV 0, iV 0, iV 0, iV 0, iV 0, .slice none 0 0, .slice none 0 0, .slice none 0 0, .slice none 0 0, .slice none 0 0, .slice none 0 0, .slice none 0 0, .slice none 0 0, .slice none 0 0, .slice none 0 0, iV 0, iV 0, iV 0, iV 0, iV 0, iV 0, iV 0, iV 0, .slice none 0 0, .slice none 0 0, .slice none 0 0, .slice none 0 0, .slice none 0 0, .slice none 0 0, .slice none 0 0, .slice none 0 0, .slice none 0 0, .slice none 0 0, .slice none 0 0, .slice none 0 0, .slice none 0 0, iV 0]) dE kR h1 (fun o ho => (lkp_put_ne dE ho _ _ ble).trans (h1h o ho)) ble (fun rb hrb => ?_))
 refine gL (at_storeAgg 1 (cs := (outC o x2).toArray) rfl rfl rfl (cellsAt_some (put_cells [iV 0, iV 0, iV 0, iV 0, iV 0, iV 0, iV 0, iV 0, iV 0, .slice none 0 0, .slice none 0 0, .slice none 0 0, .slice none 0 0, .slice none 0 0, .slice none 0 0, .slice none 0 0, .slice none 0 0, .slice none 0 0, .slice none 0 0, iV 0, iV 0, iV 0, iV 0, iV 0, iV 0, iV 0, iV 0, iV 0, .slice none 0 0, .slice none 0 0, .slice none 0 0, .slice none 0 0, .slice none 0 0, .slice none 0 0, .slice none 0 0, .slice none 0 0, .slice none 0 0, .slice none 0 0, iV 0, iV 0, iV 0, iV 0, iV 0, iV 0, iV 0, iV 0, .slice none 0 0, .slice none 0 0, .slice none 0 0, .slice none 0 0, .slice none 0 0, .slice none 0 0, .slice none 0 0, .slice none 0 0, .slice none 0 0, .slice none 0 0, .slice none 0 0, .slice none 0 0, .slice none 0 0, iV 0] ble) 0 60 ble) kR rfl ble ?_)
 refine g9 ?_
 refine GE_ret2 (.inl rfl) rfl (res_tmp rfl) (res_tmp rfl) fun w s => ⟨rb, x2, S2, rfl, hf2, ?_⟩
 refine s.low 36 (Lim.putH dE _ 0 ble (Lim.consB ⟨limB.b, limB.h, fun k hk => ?_⟩ dE)) ?_ ?_ (Agr.refl _)
 ·rcases Nat.lt_or_ge k 53 with h | h
  ·rw [hf2.fr k h oM]; exact limB.s k hk
  ·exact hf2.lim k h
 ·exact Agr.skip_under dE
 ·exact agr_new limB.h ble ble ble rfl
end
end Go.Proofs.YtdbbifbmkfmbkaaGreat
namespace Go.Proofs.YtdbbifbmkfmbkaaGreat
open Go.RowKit Go.Fr Go.Tab
section
variable {F : Nat → Prop} {w0 : World} {B : List (Nat × Nat)} {H : List (Nat × Value)} {S : List (Nat × Slc)}
open Go.Md
structure Rul where
 freq : Int
 hasStart : Bool
 start : Int
 interval : Int
 wkst : Int
 count : Int
 hasUntil : Bool
 untl : Int
 setpos : List Int
 month : List Int
 mday : List Int
 yday : List Int
 weekno : List Int
 wday : List (Int × Int)
 hour : List Int
 minute : List Int
 second : List Int
 easter : List Int
def optOf (r : Rul) : Opn := ⟨r.freq, r.start, r.interval, r.wkst, r.count, if r.hasUntil = true then r.untl else 0, r.setpos, r.month, r.mday, r.yday, r.weekno, r.wday, r.hour, r.minute, r.second, r.easter⟩
def rulC (r : Rul) (x : Av) : List Value := [.int .u8 r.freq, .bool r.hasStart, iV r.start, iV r.interval, iV r.wkst, iV r.count, .bool r.hasUntil, iV r.untl, .slice x.p9 (r.setpos).length x.c9, .slice x.p10 (r.month).length x.c10, .slice x.p11 (r.mday).length x.c11, .slice x.p12 (r.yday).length x.c12, .slice x.p13 (r.weekno).length x.c13, .slice x.p14 (r.wday).length x.c14, .slice x.p15 (r.hour).length x.c15, .slice x.p16 (r.minute).length x.c16, .slice x.p17 (r.second).length x.c17, .slice x.p18 (r.easter).length x.c18]
theorem zzw_calls (x n : Int) (w : World) : Calls Go.Proofs.Tryz.prog 44 #[iV x, iV n] w fun e w' => e = .returned (.agg #[iV x, iV n]) ∧ Below w.heap.size w w' := by
 refine calls_GC (args := [iV x, iV n]) (L := [(0, iV x), (1, iV n)]) (N := 8) Tryz.func44 rfl rfl ble rfl (Sees.start (fun _ => False) w) ?_
 refine g2 ?_
 refine gL (alo 50 (cs := [iV 0, iV 0]) kR rfl (fun b1_ hbb1_ => ?_))
 refine g6 ?_
 refine rl (rd_build2 rfl rfl (fun w => by kernel_rfl)) ?_
 refine gL (sta 50 rfl rfl rfl rfl ?_)
 refine g3 ?_
 refine GE_ret1 (.inl rfl) rfl (res_cell2 50 rfl rfl rfl rfl kR) fun w_ s_ => ⟨?_, s_.toBelow⟩
 first | rfl | (simp; done)
def opt1 (r : Rul) (x : Av) : List Value := [iV r.freq, iV 0, iV 0, iV r.interval, iV r.wkst, iV 0, iV r.count, iV 0, iV 0, .slice x.p9 (r.setpos).length x.c9, .slice x.p10 (r.month).length x.c10, .slice x.p11 (r.mday).length x.c11, .slice x.p12 (r.yday).length x.c12, .slice x.p13 (r.weekno).length x.c13, .slice none 0 0, .slice x.p15 (r.hour).length x.c15, .slice x.p16 (r.minute).length x.c16, .slice x.p17 (r.second).length x.c17, .slice x.p18 (r.easter).length x.c18]
structure RulOk (r : Rul) : Prop where
 freq : 0 ≤ r.freq ∧ r.freq ≤ 255
 hs : r.hasStart = true
 days : r.wday.length ≤ 1000
theorem opt_main {R : Ending → World → Prop} {r : Rul} {x : Av} (rk : RulOk r) {b1 b2 b3 : Nat} {H0 : List (Nat × Value)} (hr : cellsAt 36 H 0 (rulC r x)) (h2 : knwn 37 H 0 19 = true) (ho : cellsAt 38 H 0 (opt1 r x)) (limB : Lim 36 B H0 S) (hno : lkp 11 S = none) (lim : Lim 39 ((38, b3) :: (37, b2) :: (36, b1) :: B) H S) (frH : ∀ k, k < 36 → ∀ q, q < 4096 → lkp (ky k q) H = lkp (ky k q) H0) (hday : ∀ S, SrcU F w0 S 11 (.slice x.p14 (r.wday).length x.c14) r.wday)
  (hR : ∀ (p : Option Addr) (c : Nat) w, Sees F w0 B H0 ((11, ⟨.slice p r.wday.length c, 59, 2, r.wday.length, pcells r.wday⟩) :: S) w → R (.returned (.agg (oc0 (optOf r) { x with p14 := p, c14 := c }).toArray)) w) :
  GC Go.Proofs.Tryz.prog (Go.Fr.part [1, 1] (Go.Fr.bodyOf Tryz.f34)) (bodyPost Go.Proofs.Tryz.prog Tryz.f34 R) 66 [(1, pT b1), (2, pT b2), (3, pT b3)] F w0 ((38, b3) :: (37, b2) :: (36, b1) :: B) H S := by
 refine g3 ?_
 refine rl (rfa 1) ?_
 refine rl (rd_load 36 rfl rfl (hr.get 1 _ rfl) kR dE) ?_
 refine g2 ?_
 refine GC_is_true rfl rk.hs ?_
 refine g1 ?_
 refine rl (rfa 2) ?_
 refine rl (rd_load 36 rfl rfl (hr.get 2 _ rfl) kR dE) ?_
 refine gL (cvo rfl (fun w_ s_ => of_calls _ w_) ?_)
 refine rl (rfa 1) ?_
 refine gL (at_storeAgg 38 rfl rfl rfl (knwn2 (ho.get 1 _ rfl) (ho.get 2 _ rfl)) kR rfl ble ?_)
 refine g5 ?_
 refine rl (rfa 6) ?_
 refine rl (rd_load 36 rfl rfl (hr.get 6 _ rfl) kR dE) ?_
 refine g2 ?_
 refine GC_cond rfl (fun hc1 => ?_) (fun hc2 => ?_)
 ·have hu1 : r.hasUntil = true := hc1
  have hu : (optOf r).u = r.untl := by unfold optOf; simp only; rw [if_pos hu1]
  refine g1 ?_
  refine rl (rfa 7) ?_
  refine rl (rd_load 36 rfl rfl (hr.get 7 _ rfl) kR dE) ?_
  refine gL (cvo rfl (fun w_ s_ => of_calls _ w_) ?_)
  refine rl (rfa 7) ?_
  refine gL (at_storeAgg 38 rfl rfl rfl (knwn2 (ho.get 7 _ rfl) (ho.get 8 _ rfl)) kR rfl ble ?_)
  refine g5 ?_
  refine rl (rfa 13) ?_
  refine rl (rd_load 36 rfl rfl (hr.get 13 _ rfl) kR dE) ?_
  refine g5 ?_
  refine GC_loop (ι := (Nat) × (Option Addr) × (Nat) × (Nat) × (List Value) × (List (Int × Int))) (fun | ⟨k, q, e, n, xs, l⟩ => r.wday.length - k) (fun | ⟨k, q, e, n, xs, l⟩ => (k ≤ r.wday.length) ∧ (l = r.wday.take k) ∧ (n = l.length) ∧ (xs = pcells l)) (fun | ⟨k, q, e, n, xs, l⟩ => [(1, pT b1), (2, pT b2), (3, pT b3), (48, .slice x.p14 (r.wday).length x.c14), (49, iV (r.wday.length)), (50, iV k)]) (fun | ⟨k, q, e, n, xs, l⟩ => ((38, b3) :: (37, b2) :: (36, b1) :: B)) (fun | ⟨k, q, e, n, xs, l⟩ => (ky 38 14, .slice q n e) :: (ky 38 8, iV 0) :: (ky 38 7, iV r.untl) :: (ky 38 2, iV 0) :: (ky 38 1, iV r.start) :: H) (fun | ⟨k, q, e, n, xs, l⟩ => (11, ⟨.slice q n e, 59, 2, n, xs⟩) :: S) ⟨0, none, 0, 0, [], []⟩ ⟨Nat.zero_le _, rfl, rfl, rfl⟩ kns (fun w s => by exact (s.nilRow 11 59 2).low 39 ((by repeat (first | exact lim | apply Lim.consH _ dE dE | apply Lim.consS _ dE))) agx (by exact Agr.pick (ho.get 14 _ rfl) (Agr.pick rfl (Agr.pick rfl (Agr.pick rfl (Agr.pick rfl (by repeat (first | exact Agr.refl _ | apply Agr.skip dE | apply Agr.seq dE))))))) agx) ?_
  rintro ⟨k, q, e, n, xs, l⟩ ⟨hk, hl, hn, hx⟩
  show GC _ _ _ _ [(1, pT b1), (2, pT b2), (3, pT b3), (48, .slice x.p14 (r.wday).length x.c14), (49, iV (r.wday.length)), (50, iV k)] _ _ (((38, b3) :: (37, b2) :: (36, b1) :: B)) ((ky 38 14, .slice q n e) :: (ky 38 8, iV 0) :: (ky 38 7, iV r.untl) :: (ky 38 2, iV 0) :: (ky 38 1, iV r.start) :: H) ((11, ⟨.slice q n e, 59, 2, n, xs⟩) :: S)
  refine g6 ?_
  refine GC_cond rfl (fun hc1 => ?_) (fun hc2 => ?_)
  ·have hlt : k < r.wday.length := by have := of_decide_eq_true hc1; omega
   obtain ⟨y, hy⟩ : ∃ y, r.wday[k]? = some y := ⟨_, List.getElem?_eq_getElem hlt⟩
   refine GC_have (fun w s => (hday _).head s oM) fun hh => ?_
   obtain ⟨by_, oy_, hp_y⟩ := hh
   have src_y := hday
   rw [hp_y] at src_y
   have hdl := rk.days
   have hln : l.length = k := by rw [hl, List.length_take]; omega
   refine g6 ?_
   refine rl (rd_indexAddr (e := 69) (n := 2) kR (congrArg (fun p => some (Value.slice p _ _)) hp_y) rfl oM oM) ?_
   refine rl (rd_loadAgg_at (cs := [iV y.1, iV y.2]) kR rfl (fun w s => (src_y _).cell hy s)) ?_
   refine gL (at_alloc 53 (cs := [iV 0, iV 0]) dE kR (lim.b 53 dE) (fun o ho => by repeat (first | exact lim.h 53 dE o ho | rw [lkp_ky_ne dE ho dE])) ble (fun b5 hb5 => ?_))
   refine gL (sta 53 rfl rfl rfl rfl ?_)
   refine g2 ?_
   refine GC_anyS (fun i => i == 10) kR ?_
   refine gr 0 rfl (rfa 14) ?_
   refine gr 1 rfl (rld 38 rfl rfl rfl) ?_
   refine gr 2 rfl (rfa 0) ?_
   refine gr 3 rfl (rld 53 rfl rfl rfl) ?_
   refine gr 4 rfl (rfa 1) ?_
   refine gr 5 rfl (rld 53 rfl rfl rfl) ?_
   refine gn 6 rfl (cvo rfl (fun w_ s_ => zzw_calls _ _ w_) (gk ?_))
   refine gn 7 rfl (at_one_ 60 (e := 59) (sz := 2) (by_ := 16) (zs := [iV 0, iV 0]) dE kR rfl dE dE rfl rfl rfl (fun bo => gk ?_))
   refine gn 8 rfl (at_append 11 60 (e := 59) (sz := 2) (by_ := 16) (zs := [iV 0, iV 0]) dE kR rfl dE rfl rfl rfl rfl ⟨rfl, rfl⟩ ⟨rfl, rfl⟩ one2 sO sO (fun p' c' => gk ?_))
   refine gn 9 rfl (at_rd dE (rfa 14) (gk ?_))
   refine gn 10 rfl (sto 38 rfl rfl rfl rfl (gk ?_))
   refine GA_end kR ?_
   refine g6 ?_
   refine GE_back ⟨k + 1, p', c', n + 1, xs ++ [iV y.1, iV y.2], l ++ [y]⟩ sO ⟨by omega, by rw [hl, List.take_add_one, hy]; rfl, by rw [List.length_append, hn]; rfl, by rw [hx]; exact pcells_append _ _⟩ kns (fun w s => by exact s.low 39 ((by repeat (first | exact lim | apply Lim.consH _ dE dE | apply Lim.consS _ dE))) agx agx agx)
  ·have hge : ¬ k < r.wday.length := by have := of_decide_eq_false hc2; omega
   obtain rfl : k = r.wday.length := by omega
   rw [List.take_length] at hl
   subst hl hn hx
   refine g7 ?_
   have hc2_ : cellsAt 38 ((ky 38 14, .slice q r.wday.length e) :: (ky 38 8, iV 0) :: (ky 38 7, iV r.untl) :: (ky 38 2, iV 0) :: (ky 38 1, iV r.start) :: H) 0 (oc0 (optOf r) { x with p14 := q, c14 := e }) := (cellsAt.cons (ho.get 0 _ rfl) (cellsAt.cons rfl (cellsAt.cons rfl (cellsAt.cons (ho.get 3 _ rfl) (cellsAt.cons (ho.get 4 _ rfl) (cellsAt.cons (ho.get 5 _ rfl) (cellsAt.cons (ho.get 6 _ rfl) (cellsAt.cons (show lkp (ky 38 7) _ = some (iV (optOf r).u) from by rw [hu]; rfl) (cellsAt.cons rfl (cellsAt.cons (ho.get 9 _ rfl) (cellsAt.cons (ho.get 10 _ rfl) (cellsAt.cons (ho.get 11 _ rfl) (cellsAt.cons (ho.get 12 _ rfl) (cellsAt.cons (ho.get 13 _ rfl) (cellsAt.cons rfl (cellsAt.cons (ho.get 15 _ rfl) (cellsAt.cons (ho.get 16 _ rfl) (cellsAt.cons (ho.get 17 _ rfl) (cellsAt.cons (ho.get 18 _ rfl) cellsAt.nil)))))))))))))))))))
   refine GL_to (fun a k => k) (fun w s => s) (H' := (ky 38 14, .slice q r.wday.length e) :: (ky 38 8, iV 0) :: (ky 38 7, iV r.untl) :: (ky 38 2, iV 0) :: (ky 38 1, iV r.start) :: H) ?_
   refine rl ((rd_loadN 38 (cs := oc0 (optOf r) { x with p14 := q, c14 := e }) rfl rfl hc2_.get ble kR)) ?_
   refine gL (at_storeAgg 37 (cs := (oc0 (optOf r) { x with p14 := q, c14 := e }).toArray) rfl rfl rfl (knwn_mono (by repeat (first | exact Knw.refl _ | apply Knw.cons)) h2) kR rfl ble ?_)
   refine g3 ?_
   refine GE_ret1 (.inl rfl) rfl (res_cellN 37 (cs := oc0 (optOf r) { x with p14 := q, c14 := e }) rfl rfl (fun i v h => by have := putSeq_get (j := 37) (oc0 (optOf r) { x with p14 := q, c14 := e }) 0 (H := (ky 38 14, .slice q r.wday.length e) :: (ky 38 8, iV 0) :: (ky 38 7, iV r.untl) :: (ky 38 2, iV 0) :: (ky 38 1, iV r.start) :: H) ble i v h; rwa [Nat.zero_add] at this) ble kR) fun w s => hR q e w ?_
   refine s.to (fun k b h => ?_) (fun k o v ho_ h => ?_) (fun k q h => ?_)
   ·have hk : k < 36 := by
     rcases Nat.lt_or_ge k 36 with h' | h'
     ·exact h'
     ·rw [limB.b k h'] at h; cases h
    rw [lkp_cons_ne oM, lkp_cons_ne oM, lkp_cons_ne oM]; exact h
   ·have hk : k < 36 := by
     rcases Nat.lt_or_ge k 36 with h' | h'
     ·exact h'
     ·rw [limB.h k h' o ho_] at h; cases h
    have h1 := (lkp_seq_ne (j := 37) (k := k) oM ho_ (oc0 (optOf r) { x with p14 := q, c14 := e }) 0 (A := (ky 38 14, .slice q r.wday.length e) :: (ky 38 8, iV 0) :: (ky 38 7, iV r.untl) :: (ky 38 2, iV 0) :: (ky 38 1, iV r.start) :: H) ble).trans (Eq.trans (by repeat (first | rfl | rw [lkp_ky_ne oM ho_ dE])) ((frH k hk o ho_).trans h))
    obtain ⟨b, e_, _⟩ := s.cells k o v ho_ h1
    rw [lkp_cons_ne oM, lkp_cons_ne oM, lkp_cons_ne oM] at e_
    exact ⟨h1, by rw [e_]; rfl⟩
   ·exact h
 ·have hu1 : r.hasUntil = false := hc2
  have hu : (optOf r).u = 0 := by unfold optOf; simp only; rw [hu1]; rfl
  refine g5 ?_
  refine rl (rfa 13) ?_
  refine rl (rd_load 36 rfl rfl (hr.get 13 _ rfl) kR dE) ?_
  refine g5 ?_
  refine GC_loop (ι := (Nat) × (Option Addr) × (Nat) × (Nat) × (List Value) × (List (Int × Int))) (fun | ⟨k, q, e, n, xs, l⟩ => r.wday.length - k) (fun | ⟨k, q, e, n, xs, l⟩ => (k ≤ r.wday.length) ∧ (l = r.wday.take k) ∧ (n = l.length) ∧ (xs = pcells l)) (fun | ⟨k, q, e, n, xs, l⟩ => [(1, pT b1), (2, pT b2), (3, pT b3), (48, .slice x.p14 (r.wday).length x.c14), (49, iV (r.wday.length)), (50, iV k)]) (fun | ⟨k, q, e, n, xs, l⟩ => ((38, b3) :: (37, b2) :: (36, b1) :: B)) (fun | ⟨k, q, e, n, xs, l⟩ => (ky 38 14, .slice q n e) :: (ky 38 8, iV 0) :: (ky 38 7, iV 0) :: (ky 38 2, iV 0) :: (ky 38 1, iV r.start) :: H) (fun | ⟨k, q, e, n, xs, l⟩ => (11, ⟨.slice q n e, 59, 2, n, xs⟩) :: S) ⟨0, none, 0, 0, [], []⟩ ⟨Nat.zero_le _, rfl, rfl, rfl⟩ kns (fun w s => by exact (s.nilRow 11 59 2).low 39 ((by repeat (first | exact lim | apply Lim.consH _ dE dE | apply Lim.consS _ dE))) agx (by exact Agr.pick (ho.get 14 _ rfl) (Agr.pick (ho.get 8 _ rfl) (Agr.pick (ho.get 7 _ rfl) (Agr.pick rfl (Agr.pick rfl (by repeat (first | exact Agr.refl _ | apply Agr.skip dE | apply Agr.seq dE))))))) agx) ?_
  rintro ⟨k, q, e, n, xs, l⟩ ⟨hk, hl, hn, hx⟩
  show GC _ _ _ _ [(1, pT b1), (2, pT b2), (3, pT b3), (48, .slice x.p14 (r.wday).length x.c14), (49, iV (r.wday.length)), (50, iV k)] _ _ (((38, b3) :: (37, b2) :: (36, b1) :: B)) ((ky 38 14, .slice q n e) :: (ky 38 8, iV 0) :: (ky 38 7, iV 0) :: (ky 38 2, iV 0) :: (ky 38 1, iV r.start) :: H) ((11, ⟨.slice q n e, 59, 2, n, xs⟩) :: S)
  refine g6 ?_
  refine GC_cond rfl (fun hc1 => ?_) (fun hc2 => ?_)
  ·have hlt : k < r.wday.length := by have := of_decide_eq_true hc1; omega
   obtain ⟨y, hy⟩ : ∃ y, r.wday[k]? = some y := ⟨_, List.getElem?_eq_getElem hlt⟩
   refine GC_have (fun w s => (hday _).head s oM) fun hh => ?_
   obtain ⟨by_, oy_, hp_y⟩ := hh
   have src_y := hday
   rw [hp_y] at src_y
   have hdl := rk.days
   have hln : l.length = k := by rw [hl, List.length_take]; omega
   refine g6 ?_
   refine rl (rd_indexAddr (e := 69) (n := 2) kR (congrArg (fun p => some (Value.slice p _ _)) hp_y) rfl oM oM) ?_
   refine rl (rd_loadAgg_at (cs := [iV y.1, iV y.2]) kR rfl (fun w s => (src_y _).cell hy s)) ?_
   refine gL (at_alloc 53 (cs := [iV 0, iV 0]) dE kR (lim.b 53 dE) (fun o ho => by repeat (first | exact lim.h 53 dE o ho | rw [lkp_ky_ne dE ho dE])) ble (fun b5 hb5 => ?_))
   refine gL (sta 53 rfl rfl rfl rfl ?_)
   refine g2 ?_
   refine GC_anyS (fun i => i == 10) kR ?_
   refine gr 0 rfl (rfa 14) ?_
   refine gr 1 rfl (rld 38 rfl rfl rfl) ?_
   refine gr 2 rfl (rfa 0) ?_
   refine gr 3 rfl (rld 53 rfl rfl rfl) ?_
   refine gr 4 rfl (rfa 1) ?_
   refine gr 5 rfl (rld 53 rfl rfl rfl) ?_
   refine gn 6 rfl (cvo rfl (fun w_ s_ => zzw_calls _ _ w_) (gk ?_))
   refine gn 7 rfl (at_one_ 60 (e := 59) (sz := 2) (by_ := 16) (zs := [iV 0, iV 0]) dE kR rfl dE dE rfl rfl rfl (fun bo => gk ?_))
   refine gn 8 rfl (at_append 11 60 (e := 59) (sz := 2) (by_ := 16) (zs := [iV 0, iV 0]) dE kR rfl dE rfl rfl rfl rfl ⟨rfl, rfl⟩ ⟨rfl, rfl⟩ one2 sO sO (fun p' c' => gk ?_))
   refine gn 9 rfl (at_rd dE (rfa 14) (gk ?_))
   refine gn 10 rfl (sto 38 rfl rfl rfl rfl (gk ?_))
   refine GA_end kR ?_
   refine g6 ?_
   refine GE_back ⟨k + 1, p', c', n + 1, xs ++ [iV y.1, iV y.2], l ++ [y]⟩ sO ⟨by omega, by rw [hl, List.take_add_one, hy]; rfl, by rw [List.length_append, hn]; rfl, by rw [hx]; exact pcells_append _ _⟩ kns (fun w s => by exact s.low 39 ((by repeat (first | exact lim | apply Lim.consH _ dE dE | apply Lim.consS _ dE))) agx agx agx)
  ·have hge : ¬ k < r.wday.length := by have := of_decide_eq_false hc2; omega
   obtain rfl : k = r.wday.length := by omega
   rw [List.take_length] at hl
   subst hl hn hx
   refine g7 ?_
   have hc2_ : cellsAt 38 ((ky 38 14, .slice q r.wday.length e) :: (ky 38 8, iV 0) :: (ky 38 7, iV 0) :: (ky 38 2, iV 0) :: (ky 38 1, iV r.start) :: H) 0 (oc0 (optOf r) { x with p14 := q, c14 := e }) := (cellsAt.cons (ho.get 0 _ rfl) (cellsAt.cons rfl (cellsAt.cons rfl (cellsAt.cons (ho.get 3 _ rfl) (cellsAt.cons (ho.get 4 _ rfl) (cellsAt.cons (ho.get 5 _ rfl) (cellsAt.cons (ho.get 6 _ rfl) (cellsAt.cons (show lkp (ky 38 7) _ = some (iV (optOf r).u) from by rw [hu]; rfl) (cellsAt.cons rfl (cellsAt.cons (ho.get 9 _ rfl) (cellsAt.cons (ho.get 10 _ rfl) (cellsAt.cons (ho.get 11 _ rfl) (cellsAt.cons (ho.get 12 _ rfl) (cellsAt.cons (ho.get 13 _ rfl) (cellsAt.cons rfl (cellsAt.cons (ho.get 15 _ rfl) (cellsAt.cons (ho.get 16 _ rfl) (cellsAt.cons (ho.get 17 _ rfl) (cellsAt.cons (ho.get 18 _ rfl) cellsAt.nil)))))))))))))))))))
   refine GL_to (fun a k => k) (fun w s => s) (H' := (ky 38 14, .slice q r.wday.length e) :: (ky 38 8, iV 0) :: (ky 38 7, iV 0) :: (ky 38 2, iV 0) :: (ky 38 1, iV r.start) :: H) ?_
   refine rl ((rd_loadN 38 (cs := oc0 (optOf r) { x with p14 := q, c14 := e }) rfl rfl hc2_.get ble kR)) ?_
   refine gL (at_storeAgg 37 (cs := (oc0 (optOf r) { x with p14 := q, c14 := e }).toArray) rfl rfl rfl (knwn_mono (by repeat (first | exact Knw.refl _ | apply Knw.cons)) h2) kR rfl ble ?_)
   refine g3 ?_
   refine GE_ret1 (.inl rfl) rfl (res_cellN 37 (cs := oc0 (optOf r) { x with p14 := q, c14 := e }) rfl rfl (fun i v h => by have := putSeq_get (j := 37) (oc0 (optOf r) { x with p14 := q, c14 := e }) 0 (H := (ky 38 14, .slice q r.wday.length e) :: (ky 38 8, iV 0) :: (ky 38 7, iV 0) :: (ky 38 2, iV 0) :: (ky 38 1, iV r.start) :: H) ble i v h; rwa [Nat.zero_add] at this) ble kR) fun w s => hR q e w ?_
   refine s.to (fun k b h => ?_) (fun k o v ho_ h => ?_) (fun k q h => ?_)
   ·have hk : k < 36 := by
     rcases Nat.lt_or_ge k 36 with h' | h'
     ·exact h'
     ·rw [limB.b k h'] at h; cases h
    rw [lkp_cons_ne oM, lkp_cons_ne oM, lkp_cons_ne oM]; exact h
   ·have hk : k < 36 := by
     rcases Nat.lt_or_ge k 36 with h' | h'
     ·exact h'
     ·rw [limB.h k h' o ho_] at h; cases h
    have h1 := (lkp_seq_ne (j := 37) (k := k) oM ho_ (oc0 (optOf r) { x with p14 := q, c14 := e }) 0 (A := (ky 38 14, .slice q r.wday.length e) :: (ky 38 8, iV 0) :: (ky 38 7, iV 0) :: (ky 38 2, iV 0) :: (ky 38 1, iV r.start) :: H) ble).trans (Eq.trans (by repeat (first | rfl | rw [lkp_ky_ne oM ho_ dE])) ((frH k hk o ho_).trans h))
    obtain ⟨b, e_, _⟩ := s.cells k o v ho_ h1
    rw [lkp_cons_ne oM, lkp_cons_ne oM, lkp_cons_ne oM] at e_
    exact ⟨h1, by rw [e_]; rfl⟩
   ·exact h
end
end Go.Proofs.YtdbbifbmkfmbkaaGreat
