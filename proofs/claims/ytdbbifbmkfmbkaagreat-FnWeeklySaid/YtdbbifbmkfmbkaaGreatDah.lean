import Derived.Test.YtdbbifbmkfmbkaaGreatDag
set_option linter.unusedVariables false
set_option linter.unusedSimpArgs false
set_option maxRecDepth 100000
set_option maxHeartbeats 8000000
namespace Go.Proofs.YtdbbifbmkfmbkaaGreat
open Go.RowKit Go.Fr Go.Tab
section
variable {F : Nat → Prop} {w0 : World} {B : List (Nat × Nat)} {H : List (Nat × Value)} {S : List (Nat × Slc)}
open Go.Md
theorem option_calls {r : Rul} {x : Av} (rk : RulOk r) (limB : Lim 36 B H S) (hno : lkp 11 S = none) (hday : ∀ S, SrcU F w0 S 11 (.slice x.p14 (r.wday).length x.c14) r.wday) : ∀ w, Sees F w0 B H S w → Calls Go.Proofs.Tryz.prog 34 #[.agg (rulC r x).toArray] w fun e w' => ∃ p c, e = .returned (.agg (oc0 (optOf r) { x with p14 := p, c14 := c }).toArray) ∧ Sees F w0 B H ((11, ⟨.slice p r.wday.length c, 59, 2, r.wday.length, pcells r.wday⟩) :: S) w' := by
 have hfq := rk.freq
 intro w s
 refine calls_GC (args := [.agg (rulC r x).toArray]) (L := [(0, .agg (rulC r x).toArray)]) (N := 66) Tryz.func34 rfl rfl ble rfl s ?_
 refine g2 ?_
 refine gL (at_box 36 (cs := rulC r x) dE rfl rfl (limB.b 36 dE) (fun o ho => limB.h 36 dE o ho) ble (fun b1 hb1 => ?_))
 refine gL (at_alloc 37 (cs := [iV 0, iV 0, iV 0, iV 0, iV 0, iV 0, iV 0, iV 0, iV 0, .slice none 0 0, .slice none 0 0, .slice none 0 0, .slice none 0 0, .slice none 0 0, .slice none 0 0, .slice none 0 0, .slice none 0 0, .slice none 0 0, .slice none 0 0]) dE kR (limB.b 37 dE) (fun o ho => by repeat (first | exact limB.h 37 dE o ho | rw [lkp_put_ne dE ho _ _ ble])) ble (fun b2 hb2 => ?_))
 refine g3 ?_
 refine GC_anyB (fun i => i == 30) kR ?_
 refine gr 0 rfl (rfa 0) ?_
 refine gr 1 rfl (rld 36 rfl rfl rfl) ?_
 first
  | refine gr 2 rfl (rd_convert_ rfl kR kR oM) ?_
  | refine gr 2 rfl (rd_convert rfl kR kR) ?_
 refine gr 3 rfl (rfa 3) ?_
 refine gr 4 rfl (rld 36 rfl rfl rfl) ?_
 refine gr 5 rfl (rfa 4) ?_
 refine gr 6 rfl (rld 36 rfl rfl rfl) ?_
 refine gr 8 rfl (rfa 5) ?_
 refine gr 9 rfl (rld 36 rfl rfl rfl) ?_
 refine gr 10 rfl (rfa 8) ?_
 refine gr 11 rfl (rld 36 rfl rfl rfl) ?_
 refine gr 12 rfl (rfa 9) ?_
 refine gr 13 rfl (rld 36 rfl rfl rfl) ?_
 refine gr 14 rfl (rfa 10) ?_
 refine gr 15 rfl (rld 36 rfl rfl rfl) ?_
 refine gr 16 rfl (rfa 11) ?_
 refine gr 17 rfl (rld 36 rfl rfl rfl) ?_
 refine gr 18 rfl (rfa 12) ?_
 refine gr 19 rfl (rld 36 rfl rfl rfl) ?_
 refine gr 20 rfl (rfa 14) ?_
 refine gr 21 rfl (rld 36 rfl rfl rfl) ?_
 refine gr 22 rfl (rfa 15) ?_
 refine gr 23 rfl (rld 36 rfl rfl rfl) ?_
 refine gr 24 rfl (rfa 16) ?_
 refine gr 25 rfl (rld 36 rfl rfl rfl) ?_
 refine gr 26 rfl (rfa 17) ?_
 refine gr 27 rfl (rld 36 rfl rfl rfl) ?_
 refine GA_two (i := 7) (j := 29) rfl rfl rfl rfl kR rfl rfl ?_ ?_
 ·refine cvo rfl (fun w_ s_ => zzw_calls _ _ w_) (GK_C (fun _ w s => by exact s.low 38 (Lim.putH dE _ 0 ble (Lim.putH dE _ 0 ble (((limB.mono dE).consB dE).consB dE))) agx agx agx) ?_)
  refine GA_two (i := 28) (j := 29) rfl rfl rfl rfl kR rfl rfl ?_ ?_
  ·refine at_rd dE (rd_build (vs := [(0, iV r.freq), (2, iV r.interval), (3, .agg #[iV r.wkst, iV 0]), (4, iV r.count), (6, .slice x.p9 (r.setpos).length x.c9), (7, .slice x.p10 (r.month).length x.c10), (8, .slice x.p11 (r.mday).length x.c11), (9, .slice x.p12 (r.yday).length x.c12), (10, .slice x.p13 (r.weekno).length x.c13), (12, .slice x.p15 (r.hour).length x.c15), (13, .slice x.p16 (r.minute).length x.c16), (14, .slice x.p17 (r.second).length x.c17), (15, .slice x.p18 (r.easter).length x.c18)]) (v := .agg (opt1 r x).toArray) rfl (fun w => by kernel_rfl)) (GK_C (fun _ w s => by exact s.low 38 (Lim.putH dE _ 0 ble (Lim.putH dE _ 0 ble (((limB.mono dE).consB dE).consB dE))) agx agx agx) ?_)
   refine gn 29 rfl (at_alloc 38 (cs := [iV 0, iV 0, iV 0, iV 0, iV 0, iV 0, iV 0, iV 0, iV 0, .slice none 0 0, .slice none 0 0, .slice none 0 0, .slice none 0 0, .slice none 0 0, .slice none 0 0, .slice none 0 0, .slice none 0 0, .slice none 0 0, .slice none 0 0]) dE kR (limB.b 38 dE) (fun o ho => by repeat (first | exact limB.h 38 dE o ho | rw [lkp_put_ne dE ho _ _ ble])) ble (fun b3 hb3 => GK_C (fun _ w s => by exact s.low 38 (Lim.putH dE _ 0 ble (Lim.putH dE _ 0 ble (((limB.mono dE).consB dE).consB dE))) agx agx agx) ?_))
   refine gn 30 rfl (at_storeAgg 38 (cs := (opt1 r x).toArray) rfl rfl rfl (cellsAt_some (put_cells [iV 0, iV 0, iV 0, iV 0, iV 0, iV 0, iV 0, iV 0, iV 0, .slice none 0 0, .slice none 0 0, .slice none 0 0, .slice none 0 0, .slice none 0 0, .slice none 0 0, .slice none 0 0, .slice none 0 0, .slice none 0 0, .slice none 0 0] ble) 0 19 ble) kR rfl ble (gk ?_))
   refine GA_end kR ?_
   refine g1 ?_
   refine GC_to (L' := [(1, pT b1), (2, pT b2), (3, pT b3)]) kns (fun w s => s) (H' := putSeq 38 0 (opt1 r x) (putKeys 38 0 [iV 0, iV 0, iV 0, iV 0, iV 0, iV 0, iV 0, iV 0, iV 0, .slice none 0 0, .slice none 0 0, .slice none 0 0, .slice none 0 0, .slice none 0 0, .slice none 0 0, .slice none 0 0, .slice none 0 0, .slice none 0 0, .slice none 0 0] ++ (putKeys 37 0 [iV 0, iV 0, iV 0, iV 0, iV 0, iV 0, iV 0, iV 0, iV 0, .slice none 0 0, .slice none 0 0, .slice none 0 0, .slice none 0 0, .slice none 0 0, .slice none 0 0, .slice none 0 0, .slice none 0 0, .slice none 0 0, .slice none 0 0] ++ (putKeys 36 0 (rulC r x) ++ H)))) ?_
   refine opt_main (x := x) rk (cellsAt_of fun i u h => (lkp_seq_ne dE (by have := (List.getElem?_eq_some_iff.1 h).1; have h3 : (rulC r x).length = 18 := rfl; omega) _ _ ble).trans ((lkp_put_ne dE (by have := (List.getElem?_eq_some_iff.1 h).1; have h3 : (rulC r x).length = 18 := rfl; omega) _ _ ble).trans ((lkp_put_ne dE (by have := (List.getElem?_eq_some_iff.1 h).1; have h3 : (rulC r x).length = 18 := rfl; omega) _ _ ble).trans (put_get (rulC r x) 0 ble i u h)))) ?_ (cellsAt_of fun i u h => putSeq_get (opt1 r x) 0 ble i u h) limB hno ?_ ?_ hday (fun p c w s => ⟨p, c, rfl, s⟩)
   ·exact knwn_mono (Knw.seq _ _ (Knw.put _ _ (Knw.refl _))) (cellsAt_some (put_cells [iV 0, iV 0, iV 0, iV 0, iV 0, iV 0, iV 0, iV 0, iV 0, .slice none 0 0, .slice none 0 0, .slice none 0 0, .slice none 0 0, .slice none 0 0, .slice none 0 0, .slice none 0 0, .slice none 0 0, .slice none 0 0, .slice none 0 0] ble) 0 19 ble)
   ·exact Lim.seqH dE _ 0 ble (Lim.putH dE _ 0 ble (Lim.putH dE _ 0 ble (Lim.putH dE _ 0 ble ((((limB.mono dE).consB dE).consB dE).consB dE))))
   ·exact fun k hk o_ ho_ => (lkp_seq_ne oM ho_ _ _ ble).trans ((lkp_put_ne oM ho_ _ _ ble).trans ((lkp_put_ne oM ho_ _ _ ble).trans (lkp_put_ne oM ho_ _ _ ble)))
  ·refine at_alloc 38 (cs := [iV 0, iV 0, iV 0, iV 0, iV 0, iV 0, iV 0, iV 0, iV 0, .slice none 0 0, .slice none 0 0, .slice none 0 0, .slice none 0 0, .slice none 0 0, .slice none 0 0, .slice none 0 0, .slice none 0 0, .slice none 0 0, .slice none 0 0]) dE kR (limB.b 38 dE) (fun o ho => by repeat (first | exact limB.h 38 dE o ho | rw [lkp_put_ne dE ho _ _ ble])) ble (fun b3 hb3 => GK_C (fun _ w s => by exact s.low 38 (Lim.putH dE _ 0 ble (Lim.putH dE _ 0 ble (((limB.mono dE).consB dE).consB dE))) agx agx agx) ?_)
   refine gn 28 rfl (at_rd dE (rd_build (vs := [(0, iV r.freq), (2, iV r.interval), (3, .agg #[iV r.wkst, iV 0]), (4, iV r.count), (6, .slice x.p9 (r.setpos).length x.c9), (7, .slice x.p10 (r.month).length x.c10), (8, .slice x.p11 (r.mday).length x.c11), (9, .slice x.p12 (r.yday).length x.c12), (10, .slice x.p13 (r.weekno).length x.c13), (12, .slice x.p15 (r.hour).length x.c15), (13, .slice x.p16 (r.minute).length x.c16), (14, .slice x.p17 (r.second).length x.c17), (15, .slice x.p18 (r.easter).length x.c18)]) (v := .agg (opt1 r x).toArray) rfl (fun w => by kernel_rfl)) (GK_C (fun _ w s => by exact s.low 38 (Lim.putH dE _ 0 ble (Lim.putH dE _ 0 ble (((limB.mono dE).consB dE).consB dE))) agx agx agx) ?_))
   refine gn 30 rfl (at_storeAgg 38 (cs := (opt1 r x).toArray) rfl rfl rfl (cellsAt_some (put_cells [iV 0, iV 0, iV 0, iV 0, iV 0, iV 0, iV 0, iV 0, iV 0, .slice none 0 0, .slice none 0 0, .slice none 0 0, .slice none 0 0, .slice none 0 0, .slice none 0 0, .slice none 0 0, .slice none 0 0, .slice none 0 0, .slice none 0 0] ble) 0 19 ble) kR rfl ble (gk ?_))
   refine GA_end kR ?_
   refine g1 ?_
   refine GC_to (L' := [(1, pT b1), (2, pT b2), (3, pT b3)]) kns (fun w s => s) (H' := putSeq 38 0 (opt1 r x) (putKeys 38 0 [iV 0, iV 0, iV 0, iV 0, iV 0, iV 0, iV 0, iV 0, iV 0, .slice none 0 0, .slice none 0 0, .slice none 0 0, .slice none 0 0, .slice none 0 0, .slice none 0 0, .slice none 0 0, .slice none 0 0, .slice none 0 0, .slice none 0 0] ++ (putKeys 37 0 [iV 0, iV 0, iV 0, iV 0, iV 0, iV 0, iV 0, iV 0, iV 0, .slice none 0 0, .slice none 0 0, .slice none 0 0, .slice none 0 0, .slice none 0 0, .slice none 0 0, .slice none 0 0, .slice none 0 0, .slice none 0 0, .slice none 0 0] ++ (putKeys 36 0 (rulC r x) ++ H)))) ?_
   refine opt_main (x := x) rk (cellsAt_of fun i u h => (lkp_seq_ne dE (by have := (List.getElem?_eq_some_iff.1 h).1; have h3 : (rulC r x).length = 18 := rfl; omega) _ _ ble).trans ((lkp_put_ne dE (by have := (List.getElem?_eq_some_iff.1 h).1; have h3 : (rulC r x).length = 18 := rfl; omega) _ _ ble).trans ((lkp_put_ne dE (by have := (List.getElem?_eq_some_iff.1 h).1; have h3 : (rulC r x).length = 18 := rfl; omega) _ _ ble).trans (put_get (rulC r x) 0 ble i u h)))) ?_ (cellsAt_of fun i u h => putSeq_get (opt1 r x) 0 ble i u h) limB hno ?_ ?_ hday (fun p c w s => ⟨p, c, rfl, s⟩)
   ·exact knwn_mono (Knw.seq _ _ (Knw.put _ _ (Knw.refl _))) (cellsAt_some (put_cells [iV 0, iV 0, iV 0, iV 0, iV 0, iV 0, iV 0, iV 0, iV 0, .slice none 0 0, .slice none 0 0, .slice none 0 0, .slice none 0 0, .slice none 0 0, .slice none 0 0, .slice none 0 0, .slice none 0 0, .slice none 0 0, .slice none 0 0] ble) 0 19 ble)
   ·exact Lim.seqH dE _ 0 ble (Lim.putH dE _ 0 ble (Lim.putH dE _ 0 ble (Lim.putH dE _ 0 ble ((((limB.mono dE).consB dE).consB dE).consB dE))))
   ·exact fun k hk o_ ho_ => (lkp_seq_ne oM ho_ _ _ ble).trans ((lkp_put_ne oM ho_ _ _ ble).trans ((lkp_put_ne oM ho_ _ _ ble).trans (lkp_put_ne oM ho_ _ _ ble)))
 ·refine at_alloc 38 (cs := [iV 0, iV 0, iV 0, iV 0, iV 0, iV 0, iV 0, iV 0, iV 0, .slice none 0 0, .slice none 0 0, .slice none 0 0, .slice none 0 0, .slice none 0 0, .slice none 0 0, .slice none 0 0, .slice none 0 0, .slice none 0 0, .slice none 0 0]) dE kR (limB.b 38 dE) (fun o ho => by repeat (first | exact limB.h 38 dE o ho | rw [lkp_put_ne dE ho _ _ ble])) ble (fun b3 hb3 => GK_C (fun _ w s => by exact s.low 38 (Lim.putH dE _ 0 ble (Lim.putH dE _ 0 ble (((limB.mono dE).consB dE).consB dE))) agx agx agx) ?_)
  refine gn 7 rfl (cvo rfl (fun w_ s_ => zzw_calls _ _ w_) (GK_C (fun _ w s => by exact s.low 38 (Lim.putH dE _ 0 ble (Lim.putH dE _ 0 ble (((limB.mono dE).consB dE).consB dE))) agx agx agx) ?_))
  refine gn 28 rfl (at_rd dE (rd_build (vs := [(0, iV r.freq), (2, iV r.interval), (3, .agg #[iV r.wkst, iV 0]), (4, iV r.count), (6, .slice x.p9 (r.setpos).length x.c9), (7, .slice x.p10 (r.month).length x.c10), (8, .slice x.p11 (r.mday).length x.c11), (9, .slice x.p12 (r.yday).length x.c12), (10, .slice x.p13 (r.weekno).length x.c13), (12, .slice x.p15 (r.hour).length x.c15), (13, .slice x.p16 (r.minute).length x.c16), (14, .slice x.p17 (r.second).length x.c17), (15, .slice x.p18 (r.easter).length x.c18)]) (v := .agg (opt1 r x).toArray) rfl (fun w => by kernel_rfl)) (GK_C (fun _ w s => by exact s.low 38 (Lim.putH dE _ 0 ble (Lim.putH dE _ 0 ble (((limB.mono dE).consB dE).consB dE))) agx agx agx) ?_))
  refine gn 30 rfl (at_storeAgg 38 (cs := (opt1 r x).toArray) rfl rfl rfl (cellsAt_some (put_cells [iV 0, iV 0, iV 0, iV 0, iV 0, iV 0, iV 0, iV 0, iV 0, .slice none 0 0, .slice none 0 0, .slice none 0 0, .slice none 0 0, .slice none 0 0, .slice none 0 0, .slice none 0 0, .slice none 0 0, .slice none 0 0, .slice none 0 0] ble) 0 19 ble) kR rfl ble (gk ?_))
  refine GA_end kR ?_
  refine g1 ?_
  refine GC_to (L' := [(1, pT b1), (2, pT b2), (3, pT b3)]) kns (fun w s => s) (H' := putSeq 38 0 (opt1 r x) (putKeys 38 0 [iV 0, iV 0, iV 0, iV 0, iV 0, iV 0, iV 0, iV 0, iV 0, .slice none 0 0, .slice none 0 0, .slice none 0 0, .slice none 0 0, .slice none 0 0, .slice none 0 0, .slice none 0 0, .slice none 0 0, .slice none 0 0, .slice none 0 0] ++ (putKeys 37 0 [iV 0, iV 0, iV 0, iV 0, iV 0, iV 0, iV 0, iV 0, iV 0, .slice none 0 0, .slice none 0 0, .slice none 0 0, .slice none 0 0, .slice none 0 0, .slice none 0 0, .slice none 0 0, .slice none 0 0, .slice none 0 0, .slice none 0 0] ++ (putKeys 36 0 (rulC r x) ++ H)))) ?_
  refine opt_main (x := x) rk (cellsAt_of fun i u h => (lkp_seq_ne dE (by have := (List.getElem?_eq_some_iff.1 h).1; have h3 : (rulC r x).length = 18 := rfl; omega) _ _ ble).trans ((lkp_put_ne dE (by have := (List.getElem?_eq_some_iff.1 h).1; have h3 : (rulC r x).length = 18 := rfl; omega) _ _ ble).trans ((lkp_put_ne dE (by have := (List.getElem?_eq_some_iff.1 h).1; have h3 : (rulC r x).length = 18 := rfl; omega) _ _ ble).trans (put_get (rulC r x) 0 ble i u h)))) ?_ (cellsAt_of fun i u h => putSeq_get (opt1 r x) 0 ble i u h) limB hno ?_ ?_ hday (fun p c w s => ⟨p, c, rfl, s⟩)
  ·exact knwn_mono (Knw.seq _ _ (Knw.put _ _ (Knw.refl _))) (cellsAt_some (put_cells [iV 0, iV 0, iV 0, iV 0, iV 0, iV 0, iV 0, iV 0, iV 0, .slice none 0 0, .slice none 0 0, .slice none 0 0, .slice none 0 0, .slice none 0 0, .slice none 0 0, .slice none 0 0, .slice none 0 0, .slice none 0 0, .slice none 0 0] ble) 0 19 ble)
  ·exact Lim.seqH dE _ 0 ble (Lim.putH dE _ 0 ble (Lim.putH dE _ 0 ble (Lim.putH dE _ 0 ble ((((limB.mono dE).consB dE).consB dE).consB dE))))
  ·exact fun k hk o_ ho_ => (lkp_seq_ne oM ho_ _ _ ble).trans ((lkp_put_ne oM ho_ _ _ ble).trans ((lkp_put_ne oM ho_ _ _ ble).trans (lkp_put_ne oM ho_ _ _ ble)))
end
end Go.Proofs.YtdbbifbmkfmbkaaGreat
namespace Go.Proofs.YtdbbifbmkfmbkaaGreat
open Go.RowKit Go.Fr Go.Tab
section
variable {F : Nat → Prop} {w0 : World} {B : List (Nat × Nat)} {H : List (Nat × Value)} {S : List (Nat × Slc)}
open Go.Md
def z30 : List Value := [iV 0, iV 0, iV 0, iV 0, iV 0, iV 0, iV 0, .pointer none, iV 0, iV 0, iV 0, iV 0, iV 0, iV 0, iV 0, .slice none 0 0, .slice none 0 0, .slice none 0 0, .slice none 0 0, .slice none 0 0, .slice none 0 0, .slice none 0 0, .slice none 0 0, .slice none 0 0, iV 0, iV 0, .slice none 0 0, .slice none 0 0, .bool false, .slice none 0 0]
def it0 (o : Opn) (r : Ru) : It where
 y := Cal.yearOf (o.d / 86400)
 mo := Cal.monthOf (o.d / 86400)
 d := Cal.mdayOf (o.d / 86400)
 h := o.d % 86400 / 3600
 mi := o.d % 86400 / 60 % 60
 s := o.d % 86400 % 60
 wd := ((o.d / 86400 + 1) % 7 + 6) % 7
 ly := Cal.yearOf (o.d / 86400)
 lm := Cal.monthOf (o.d / 86400)
 wno := r.wnoF (Cal.yearOf (o.d / 86400))
 nwm := r.nwmF (Cal.yearOf (o.d / 86400)) (Cal.monthOf (o.d / 86400))
 eas := r.easF (Cal.yearOf (o.d / 86400))
 ts := tset o
 total := 0
 count := o.count
 rem := []
 fin := false
def raOf (x : Av) : Ra := ⟨x.p9, x.c9, x.pm, x.cm, x.q48, x.e48, x.q49, x.e49, x.p12, x.c12, x.p13, x.c13, x.q52, x.e52, x.q53, x.e53, x.q54, x.e54, x.q55, x.e55, x.q56, x.e56, x.p18, x.c18⟩
structure RuLen (r : Ru) : Prop where
 l46 : r.setpos.length ≤ 1000000000
 l47 : r.month.length ≤ 1000000000
 l48 : r.mday.length ≤ 1000000000
 l49 : r.nmday.length ≤ 1000000000
 l50 : r.yday.length ≤ 1000000000
 l51 : r.weekno.length ≤ 1000000000
 l52 : r.wday.length ≤ 1000000000
 l54 : r.hour.length ≤ 1000000000
 l55 : r.minute.length ≤ 1000000000
 l56 : r.second.length ≤ 1000000000
 l57 : r.easter.length ≤ 1000000000
theorem year_pos {d : Int} (h : 0 ≤ d) : 1 ≤ Cal.yearOf d := by
 obtain ⟨e, h0, h1⟩ := Cal.split_spec d
 have := Cal.lp_01 (Cal.yearOf d)
 unfold Cal.daysTo at e
 omega
theorem year_max {d : Int} (h : d < 3652059) : Cal.yearOf d ≤ 9999 := by
 obtain ⟨e, h0, h1⟩ := Cal.split_spec d
 rcases Int.lt_or_le 9999 (Cal.yearOf d) with hh | hh
 ·have := Cal.daysTo_mono (show (10000 : Int) ≤ Cal.yearOf d by omega)
  have e2 : Cal.daysTo 10000 = 3652059 := by decide
  omega
 ·exact hh
def z5 (o : Opn) (rb : Nat) : List Value := [iV (Cal.yearOf (o.d / 86400)), iV (Cal.monthOf (o.d / 86400)), iV (Cal.mdayOf (o.d / 86400)), iV (o.d % 86400 / 3600), iV (o.d % 86400 / 60 % 60), iV (o.d % 86400 % 60), iV (((o.d / 86400 + 1) % 7 + 6) % 7), pT rb, iV 0, iV 0, iV 0, iV 0, iV 0, iV 0, iV 0, .slice none 0 0, .slice none 0 0, .slice none 0 0, .slice none 0 0, .slice none 0 0, .slice none 0 0, .slice none 0 0, .slice none 0 0, .slice none 0 0, iV 0, iV 0, .slice none 0 0, .slice none 0 0, .bool false, .slice none 0 0]
theorem it_b {R : Ending → World → Prop} {o : Opn} {x : Av} {wF : Int → List Int} {nF : Int → Int → List Int} {eF : Int → List Int} (ok : OpOk o) (hf4 : o.freq < 4) (hw0 : o.weekno.length = 0) (hd0 : ((ruOf o wF nF eF)).nwd.length = 0) (he0 : o.easter.length = 0) (hwF : ∀ y, wF y = []) (hnF : ∀ y m, nF y m = []) (heF : ∀ y, eF y = []) (hlen : RuLen (ruOf o wF nF eF)) {rb : Nat} {S0 : List (Nat × Slc)} (of : OutF F w0 o x S0 S) (hR1 : lkp 1 B = some rb) (hc1 : cellsAt 1 H 0 (outC o x)) (h38 : ∀ q, q < 4096 → lkp (ky 38 q) H = none) {it : Nat} (h0 : cellsAt 0 H 0 (z5 o rb)) (lim : Lim 40 ((0, it) :: B) H S) (hdm : o.d < 315537897600) (hR : ∀ a H' S' w, St F w0 S' H' it rb (ruOf o wF nF eF) (raOf x) (it0 o (ruOf o wF nF eF)) a ((0, it) :: B) H' S' → (∀ k, 26 ≤ k → k < 40 → lkp k S' = lkp k S) → (∀ q, q < 4096 → lkp (ky 38 q) H' = none) → Sees F w0 ((0, it) :: B) H' S' w → R (.returned (.func (.func 53) #[pT it] #[])) w) :
  GC Go.Proofs.Tryz.prog (Go.Fr.part [1, 1, 1, 1, 1, 1] (Go.Fr.bodyOf Tryz.f35)) (bodyPost Go.Proofs.Tryz.prog Tryz.f35 R) 148 [(0, pT rb), (3, pT it)] F w0 ((0, it) :: B) H S := by
 have hd_ := ok.d
 have hyp_ := year_pos (d := o.d / 86400) oM
 have hyd := split_bd0 (x := o.d) oM
 have hym := year_max (d := o.d / 86400) oM
 have hr51 : lkp (ky 1 51) H = some (.slice x.p13 0 x.c13) := by have := hc1.get 51 _ rfl; rw [hw0] at this; exact this
 have hr53 : lkp (ky 1 53) H = some (.slice x.q53 0 x.e53) := by have := hc1.get 53 _ rfl; rw [show (List.filter (fun y => !plainW o.freq y) (wday' o)).length = 0 from hd0] at this; exact this
 have hr57 : lkp (ky 1 57) H = some (.slice x.p18 0 x.c18) := by have := hc1.get 57 _ rfl; rw [he0] at this; exact this
 refine g2 ?_
 refine rl (rfa 7) ?_
 refine rl (rfa 0) ?_
 refine rl (rd_load 0 rfl rfl (h0.get 0 _ rfl) kR dE) ?_
 refine rl (rfa 1) ?_
 refine rl (rd_load 0 rfl rfl (h0.get 1 _ rfl) kR dE) ?_
 refine gL (at_call_new (B := (0, it) :: B) (H := H) (S := S) (yv := Cal.yearOf (o.d / 86400)) (mv := Cal.monthOf (o.d / 86400)) dE kR rfl (fun w_ s_ => new_year (B := (0, it) :: B) (H := H) (S := S) (ly := 0) (lm := 0) rfl hR1 (h0.get 7 _ rfl) (h0.get 8 _ rfl) (h0.get 9 _ rfl) hr51 hr53 hr57 (hc1.get 39 _ rfl) (hc1.get 40 _ rfl) (h0.get 10 _ rfl) (h0.get 11 _ rfl) (h0.get 12 _ rfl) (h0.get 13 _ rfl) (h0.get 14 _ rfl) (h0.get 15 _ rfl) (h0.get 16 _ rfl) (h0.get 17 _ rfl) (h0.get 18 _ rfl) (h0.get 19 _ rfl) (h0.get 20 _ rfl) oM oM w_ s_) (fun b6 c6 b3 c3 b4 c4 b5 c5 b7 c7 h385 => ?_))
 refine g7 ?_
 refine rl (rfa 38) ?_
 refine rl (rd_load 1 rfl hR1 (hc1.get 38 _ rfl) kR dE) ?_
 refine g3 ?_
 refine GC_is_true rfl (decide_eq_true hf4) ?_
 refine g3 ?_
 refine rl (rfa 58) ?_
 refine rl (rd_load 1 rfl hR1 (hc1.get 58 _ rfl) kR dE) ?_
 refine rl (rfa 23) ?_
 refine gL (at_store 0 rfl rfl rfl (h0.get 23 _ rfl) kR rfl dE ?_)
 refine g6 ?_
 refine rl (rfa 43) ?_
 refine rl (rd_load 1 rfl hR1 (hc1.get 43 _ rfl) kR dE) ?_
 refine rl (rfa 25) ?_
 refine gL (at_store 0 rfl rfl rfl (h0.get 25 _ rfl) kR rfl dE ?_)
 refine g4 ?_
 refine rl ((rd_makeFunc (first := [pT it]) (capt := []) rfl rfl)) ?_
 refine g4 ?_
 refine GE_ret1 (.inl rfl) rfl (res_tmp rfl) fun w s => ?_
 have s := (s.nilRow 1 156 2).nilRow 0 57 2
 have e_w : (it0 o (ruOf o wF nF eF)).wno.length = 0 := by show (wF _).length = 0; rw [hwF]; rfl
 have e_n : (it0 o (ruOf o wF nF eF)).nwm.length = 0 := by show (nF _ _).length = 0; rw [hnF]; rfl
 have e_e : (it0 o (ruOf o wF nF eF)).eas.length = 0 := by show (eF _).length = 0; rw [heF]; rfl
 have fin : ∀ (a : Ad) {H' : List (Nat × Value)} {S' : List (Nat × Slc)}, Sees F w0 ((0, it) :: B) H' S' w → St F w0 S' H' it rb (ruOf o wF nF eF) (raOf x) (it0 o (ruOf o wF nF eF)) a ((0, it) :: B) H' S' → (∀ k, 26 ≤ k → k < 40 → lkp k S' = lkp k S) → (∀ q, q < 4096 → lkp (ky 38 q) H' = none) → R (.returned (.func (.func 53) #[pT it] #[])) w := fun a _ _ s h1 h2 h3 => hR a _ _ w h1 h2 h3 s
 refine fin ({ b3 := b3, c3 := c3, b4 := b4, c4 := c4, b5 := b5, c5 := c5, b6 := b6, c6 := c6, b7 := b7, c7 := c7, p20 := none, c20 := 0, p21 := none, c21 := 0, p22 := none, c22 := 0, tp := x.tp, tc := x.tc, rp := none, rc := 0, rs := none, rk := 0, rn := 0, rj := 0, rall := [], bk := .slice none 0 0, dp := none, dc := 0, dn := 0, dxs := [], ln := iV 0 } : Ad) s ⟨rfl, hR1, (by repeat (first | exact lim | apply Lim.consH _ dE dE | apply Lim.consS _ dE)), (h0.get 0 _ rfl), (h0.get 1 _ rfl), (h0.get 2 _ rfl), (h0.get 3 _ rfl), (h0.get 4 _ rfl), (h0.get 5 _ rfl), (h0.get 6 _ rfl), (h0.get 7 _ rfl), rfl, rfl, rfl, rfl, rfl, rfl, rfl, rfl, rfl, rfl, rfl, rfl, (show lkp (ky 0 20) _ = some (Value.slice none (it0 o (ruOf o wF nF eF)).wno.length 0) from by rw [e_w]; exact rfl), (show lkp (ky 0 21) _ = some (Value.slice none (it0 o (ruOf o wF nF eF)).nwm.length 0) from by rw [e_n]; exact h0.get 21 _ rfl), (show lkp (ky 0 22) _ = some (Value.slice none (it0 o (ruOf o wF nF eF)).eas.length 0) from by rw [e_e]; exact h0.get 22 _ rfl), rfl, (h0.get 24 _ rfl), rfl, (h0.get 26 _ rfl), (h0.get 27 _ rfl), (h0.get 28 _ rfl), (h0.get 29 _ rfl), rfl, rfl, (of.r2 hf4), rfl, rfl, rfl, rfl, rfl, (fun h => absurd h (by rw [e_w]; decide)), (fun h => absurd h (by rw [e_n]; decide)), (fun h => absurd h (by rw [e_e]; decide)), (fun h => absurd h (by rw [e_w]; decide)), (fun h => absurd h (by rw [e_n]; decide)), (fun h => absurd h (by rw [e_e]; decide)), h385, (fun _ _ _ => rfl), (fun _ _ _ _ _ => rfl), (fun _ => ⟨rfl, rfl, rfl, rfl⟩), (fun h => absurd rfl h), (hc1.get 38 _ rfl), (hc1.get 39 _ rfl), (hc1.get 40 _ rfl), (hc1.get 41 _ rfl), (hc1.get 42 _ rfl), (hc1.get 44 _ rfl), (hc1.get 45 _ rfl), (hc1.get 46 _ rfl), (hc1.get 47 _ rfl), (hc1.get 48 _ rfl), (hc1.get 49 _ rfl), (hc1.get 50 _ rfl), (hc1.get 51 _ rfl), (hc1.get 52 _ rfl), (hc1.get 53 _ rfl), (hc1.get 54 _ rfl), (hc1.get 55 _ rfl), (hc1.get 56 _ rfl), (hc1.get 57 _ rfl), (hc1.get 59 _ rfl), ((of.s9.toI dE).to aG), ((of.sm.toI dE).to aG), ((SrcI.row dE of.r12).to aG), ((SrcI.row dE of.r13).to aG), ((of.s12.toI dE).to aG), ((of.s13.toI dE).to aG), ((SrcI.row dE of.r14).to aG), ((of.sh.toI dE).to aG), ((of.si.toI dE).to aG), ((of.ss.toI dE).to aG), ((of.s18.toI dE).to aG), hlen.l46, hlen.l47, hlen.l48, hlen.l49, hlen.l50, hlen.l51, hlen.l52, hlen.l54, hlen.l55, hlen.l56, hlen.l57⟩ (fun k h1 h2 => by repeat (first | rfl | rw [lkp_cons_ne oM])) (fun q hq => ?_)
 repeat (first | exact h38 q hq | rw [lkp_ky_ne dE hq dE])
theorem it_a {R : Ending → World → Prop} {o : Opn} {x : Av} {wF : Int → List Int} {nF : Int → Int → List Int} {eF : Int → List Int} (ok : OpOk o) (hf4 : o.freq < 4) (hw0 : o.weekno.length = 0) (hd0 : ((ruOf o wF nF eF)).nwd.length = 0) (he0 : o.easter.length = 0) (hwF : ∀ y, wF y = []) (hnF : ∀ y m, nF y m = []) (heF : ∀ y, eF y = []) (hlen : RuLen (ruOf o wF nF eF)) {rb : Nat} {S0 : List (Nat × Slc)} (of : OutF F w0 o x S0 S) (hR1 : lkp 1 B = some rb) (hc1 : cellsAt 1 H 0 (outC o x)) (h38 : ∀ q, q < 4096 → lkp (ky 38 q) H = none) {it : Nat} (h0 : cellsAt 0 H 0 z30) (lim : Lim 40 ((0, it) :: B) H S) (hdm : o.d < 315537897600) (hR : ∀ a H' S' w, St F w0 S' H' it rb (ruOf o wF nF eF) (raOf x) (it0 o (ruOf o wF nF eF)) a ((0, it) :: B) H' S' → (∀ k, 26 ≤ k → k < 40 → lkp k S' = lkp k S) → (∀ q, q < 4096 → lkp (ky 38 q) H' = none) → Sees F w0 ((0, it) :: B) H' S' w → R (.returned (.func (.func 53) #[pT it] #[])) w) :
  GC Go.Proofs.Tryz.prog (Go.Fr.part [1, 1] (Go.Fr.bodyOf Tryz.f35)) (bodyPost Go.Proofs.Tryz.prog Tryz.f35 R) 148 [(0, pT rb), (3, pT it)] F w0 ((0, it) :: B) H S := by
 have hd_ := ok.d
 have hyp_ := year_pos (d := o.d / 86400) oM
 have hyd := split_bd0 (x := o.d) oM
 refine g4 ?_
 refine rl (rfa 39) ?_
 refine rl (rd_load2 1 rfl hR1 (hc1.get 39 _ rfl) (hc1.get 40 _ rfl) kR dE) ?_
 refine gL (cvo (v := .tuple #[iV (Cal.yearOf (o.d / 86400)), iV (Cal.monthOf (o.d / 86400)), iV (Cal.mdayOf (o.d / 86400))]) rfl (fun w_ s_ => (date_calls _ _ oM w_).mono fun e_ w2_ h_ => ⟨h_.1.trans (congrArg Ending.returned rfl), h_.2⟩) ?_)
 refine g4 ?_
 refine rl (rfa 0) ?_
 refine gL (at_store 0 rfl rfl rfl (h0.get 0 _ rfl) kR rfl dE ?_)
 refine rl (rfa 1) ?_
 refine gL (at_store 0 rfl rfl rfl (h0.get 1 _ rfl) kR rfl dE ?_)
 refine rl (rfa 2) ?_
 refine gL (at_store 0 rfl rfl rfl (h0.get 2 _ rfl) kR rfl dE ?_)
 refine g6 ?_
 refine rl (rfa 39) ?_
 refine rl (rd_load2 1 rfl hR1 (hc1.get 39 _ rfl) (hc1.get 40 _ rfl) kR dE) ?_
 refine gL (cvo (v := .tuple #[iV (o.d % 86400 / 3600), iV (o.d % 86400 / 60 % 60), iV (o.d % 86400 % 60)]) rfl (fun w_ s_ => (clock_calls _ _ oM w_).mono fun e_ w2_ h_ => ⟨h_.1.trans (congrArg Ending.returned rfl), h_.2⟩) ?_)
 refine g4 ?_
 refine rl (rfa 3) ?_
 refine gL (at_store 0 rfl rfl rfl (h0.get 3 _ rfl) kR rfl dE ?_)
 refine rl (rfa 4) ?_
 refine gL (at_store 0 rfl rfl rfl (h0.get 4 _ rfl) kR rfl dE ?_)
 refine rl (rfa 5) ?_
 refine gL (at_store 0 rfl rfl rfl (h0.get 5 _ rfl) kR rfl dE ?_)
 refine g6 ?_
 refine rl (rfa 39) ?_
 refine rl (rd_load2 1 rfl hR1 (hc1.get 39 _ rfl) (hc1.get 40 _ rfl) kR dE) ?_
 refine gL (cvo (v := iV ((o.d / 86400 + 1) % 7)) rfl (fun w_ s_ => (weekday_calls _ _ oM w_).mono fun e_ w2_ h_ => ⟨h_.1.trans (congrArg Ending.returned rfl), h_.2⟩) ?_)
 refine gL (cvo (v := iV (((o.d / 86400 + 1) % 7 + 6) % 7)) rfl (fun w_ s_ => (toPy_calls _ oM w_).mono fun e_ w2_ h_ => ⟨h_.1.trans (congrArg Ending.returned rfl), h_.2⟩) ?_)
 refine rl (rfa 6) ?_
 refine gL (at_store 0 rfl rfl rfl (h0.get 6 _ rfl) kR rfl dE ?_)
 refine g5 ?_
 refine rl (rd_build (vs := [(0, pT rb)]) (v := .agg #[pT rb, iV 0, iV 0, iV 0, iV 0, iV 0, iV 0, iV 0, .slice none 0 0, .slice none 0 0, .slice none 0 0, .slice none 0 0, .slice none 0 0, .slice none 0 0, .slice none 0 0, .slice none 0 0]) rfl (fun w => by kernel_rfl)) ?_
 refine rl (rfa 7) ?_
 refine gL (at_storeAgg 0 (cs := #[pT rb, iV 0, iV 0, iV 0, iV 0, iV 0, iV 0, iV 0, .slice none 0 0, .slice none 0 0, .slice none 0 0, .slice none 0 0, .slice none 0 0, .slice none 0 0, .slice none 0 0, .slice none 0 0]) rfl rfl rfl (knwn_mono (by repeat (first | exact Knw.refl _ | apply Knw.cons)) (cellsAt_some h0 7 16 ble)) kR rfl ble ?_)
 refine g2 ?_
 refine GC_to (L' := [(0, pT rb), (3, pT it)]) kns (fun w s => s) (H' := putSeq 0 7 [pT rb, iV 0, iV 0, iV 0, iV 0, iV 0, iV 0, iV 0, .slice none 0 0, .slice none 0 0, .slice none 0 0, .slice none 0 0, .slice none 0 0, .slice none 0 0, .slice none 0 0, .slice none 0 0] ((ky 0 6, iV (((o.d / 86400 + 1) % 7 + 6) % 7)) :: (ky 0 5, iV (o.d % 86400 % 60)) :: (ky 0 4, iV (o.d % 86400 / 60 % 60)) :: (ky 0 3, iV (o.d % 86400 / 3600)) :: (ky 0 2, iV (Cal.mdayOf (o.d / 86400))) :: (ky 0 1, iV (Cal.monthOf (o.d / 86400))) :: (ky 0 0, iV (Cal.yearOf (o.d / 86400))) :: H)) ?_
 have h5 : cellsAt 0 (putSeq 0 7 [pT rb, iV 0, iV 0, iV 0, iV 0, iV 0, iV 0, iV 0, .slice none 0 0, .slice none 0 0, .slice none 0 0, .slice none 0 0, .slice none 0 0, .slice none 0 0, .slice none 0 0, .slice none 0 0] ((ky 0 6, iV (((o.d / 86400 + 1) % 7 + 6) % 7)) :: (ky 0 5, iV (o.d % 86400 % 60)) :: (ky 0 4, iV (o.d % 86400 / 60 % 60)) :: (ky 0 3, iV (o.d % 86400 / 3600)) :: (ky 0 2, iV (Cal.mdayOf (o.d / 86400))) :: (ky 0 1, iV (Cal.monthOf (o.d / 86400))) :: (ky 0 0, iV (Cal.yearOf (o.d / 86400))) :: H)) 0 (z5 o rb) := (cellsAt.cons ((lkp_putSeq_hi (j := 0) [pT rb, iV 0, iV 0, iV 0, iV 0, iV 0, iV 0, iV 0, .slice none 0 0, .slice none 0 0, .slice none 0 0, .slice none 0 0, .slice none 0 0, .slice none 0 0, .slice none 0 0, .slice none 0 0] 7 0 dE ble).trans rfl) (cellsAt.cons ((lkp_putSeq_hi (j := 0) [pT rb, iV 0, iV 0, iV 0, iV 0, iV 0, iV 0, iV 0, .slice none 0 0, .slice none 0 0, .slice none 0 0, .slice none 0 0, .slice none 0 0, .slice none 0 0, .slice none 0 0, .slice none 0 0] 7 1 dE ble).trans rfl) (cellsAt.cons ((lkp_putSeq_hi (j := 0) [pT rb, iV 0, iV 0, iV 0, iV 0, iV 0, iV 0, iV 0, .slice none 0 0, .slice none 0 0, .slice none 0 0, .slice none 0 0, .slice none 0 0, .slice none 0 0, .slice none 0 0, .slice none 0 0] 7 2 dE ble).trans rfl) (cellsAt.cons ((lkp_putSeq_hi (j := 0) [pT rb, iV 0, iV 0, iV 0, iV 0, iV 0, iV 0, iV 0, .slice none 0 0, .slice none 0 0, .slice none 0 0, .slice none 0 0, .slice none 0 0, .slice none 0 0, .slice none 0 0, .slice none 0 0] 7 3 dE ble).trans rfl) (cellsAt.cons ((lkp_putSeq_hi (j := 0) [pT rb, iV 0, iV 0, iV 0, iV 0, iV 0, iV 0, iV 0, .slice none 0 0, .slice none 0 0, .slice none 0 0, .slice none 0 0, .slice none 0 0, .slice none 0 0, .slice none 0 0, .slice none 0 0] 7 4 dE ble).trans rfl) (cellsAt.cons ((lkp_putSeq_hi (j := 0) [pT rb, iV 0, iV 0, iV 0, iV 0, iV 0, iV 0, iV 0, .slice none 0 0, .slice none 0 0, .slice none 0 0, .slice none 0 0, .slice none 0 0, .slice none 0 0, .slice none 0 0, .slice none 0 0] 7 5 dE ble).trans rfl) (cellsAt.cons ((lkp_putSeq_hi (j := 0) [pT rb, iV 0, iV 0, iV 0, iV 0, iV 0, iV 0, iV 0, .slice none 0 0, .slice none 0 0, .slice none 0 0, .slice none 0 0, .slice none 0 0, .slice none 0 0, .slice none 0 0, .slice none 0 0] 7 6 dE ble).trans rfl) (cellsAt.cons (putSeq_get (j := 0) [pT rb, iV 0, iV 0, iV 0, iV 0, iV 0, iV 0, iV 0, .slice none 0 0, .slice none 0 0, .slice none 0 0, .slice none 0 0, .slice none 0 0, .slice none 0 0, .slice none 0 0, .slice none 0 0] 7 ble 0 _ rfl) (cellsAt.cons (putSeq_get (j := 0) [pT rb, iV 0, iV 0, iV 0, iV 0, iV 0, iV 0, iV 0, .slice none 0 0, .slice none 0 0, .slice none 0 0, .slice none 0 0, .slice none 0 0, .slice none 0 0, .slice none 0 0, .slice none 0 0] 7 ble 1 _ rfl) (cellsAt.cons (putSeq_get (j := 0) [pT rb, iV 0, iV 0, iV 0, iV 0, iV 0, iV 0, iV 0, .slice none 0 0, .slice none 0 0, .slice none 0 0, .slice none 0 0, .slice none 0 0, .slice none 0 0, .slice none 0 0, .slice none 0 0] 7 ble 2 _ rfl) (cellsAt.cons (putSeq_get (j := 0) [pT rb, iV 0, iV 0, iV 0, iV 0, iV 0, iV 0, iV 0, .slice none 0 0, .slice none 0 0, .slice none 0 0, .slice none 0 0, .slice none 0 0, .slice none 0 0, .slice none 0 0, .slice none 0 0] 7 ble 3 _ rfl) (cellsAt.cons (putSeq_get (j := 0) [pT rb, iV 0, iV 0, iV 0, iV 0, iV 0, iV 0, iV 0, .slice none 0 0, .slice none 0 0, .slice none 0 0, .slice none 0 0, .slice none 0 0, .slice none 0 0, .slice none 0 0, .slice none 0 0] 7 ble 4 _ rfl) (cellsAt.cons (putSeq_get (j := 0) [pT rb, iV 0, iV 0, iV 0, iV 0, iV 0, iV 0, iV 0, .slice none 0 0, .slice none 0 0, .slice none 0 0, .slice none 0 0, .slice none 0 0, .slice none 0 0, .slice none 0 0, .slice none 0 0] 7 ble 5 _ rfl) (cellsAt.cons (putSeq_get (j := 0) [pT rb, iV 0, iV 0, iV 0, iV 0, iV 0, iV 0, iV 0, .slice none 0 0, .slice none 0 0, .slice none 0 0, .slice none 0 0, .slice none 0 0, .slice none 0 0, .slice none 0 0, .slice none 0 0] 7 ble 6 _ rfl) (cellsAt.cons (putSeq_get (j := 0) [pT rb, iV 0, iV 0, iV 0, iV 0, iV 0, iV 0, iV 0, .slice none 0 0, .slice none 0 0, .slice none 0 0, .slice none 0 0, .slice none 0 0, .slice none 0 0, .slice none 0 0, .slice none 0 0] 7 ble 7 _ rfl) (cellsAt.cons (putSeq_get (j := 0) [pT rb, iV 0, iV 0, iV 0, iV 0, iV 0, iV 0, iV 0, .slice none 0 0, .slice none 0 0, .slice none 0 0, .slice none 0 0, .slice none 0 0, .slice none 0 0, .slice none 0 0, .slice none 0 0] 7 ble 8 _ rfl) (cellsAt.cons (putSeq_get (j := 0) [pT rb, iV 0, iV 0, iV 0, iV 0, iV 0, iV 0, iV 0, .slice none 0 0, .slice none 0 0, .slice none 0 0, .slice none 0 0, .slice none 0 0, .slice none 0 0, .slice none 0 0, .slice none 0 0] 7 ble 9 _ rfl) (cellsAt.cons (putSeq_get (j := 0) [pT rb, iV 0, iV 0, iV 0, iV 0, iV 0, iV 0, iV 0, .slice none 0 0, .slice none 0 0, .slice none 0 0, .slice none 0 0, .slice none 0 0, .slice none 0 0, .slice none 0 0, .slice none 0 0] 7 ble 10 _ rfl) (cellsAt.cons (putSeq_get (j := 0) [pT rb, iV 0, iV 0, iV 0, iV 0, iV 0, iV 0, iV 0, .slice none 0 0, .slice none 0 0, .slice none 0 0, .slice none 0 0, .slice none 0 0, .slice none 0 0, .slice none 0 0, .slice none 0 0] 7 ble 11 _ rfl) (cellsAt.cons (putSeq_get (j := 0) [pT rb, iV 0, iV 0, iV 0, iV 0, iV 0, iV 0, iV 0, .slice none 0 0, .slice none 0 0, .slice none 0 0, .slice none 0 0, .slice none 0 0, .slice none 0 0, .slice none 0 0, .slice none 0 0] 7 ble 12 _ rfl) (cellsAt.cons (putSeq_get (j := 0) [pT rb, iV 0, iV 0, iV 0, iV 0, iV 0, iV 0, iV 0, .slice none 0 0, .slice none 0 0, .slice none 0 0, .slice none 0 0, .slice none 0 0, .slice none 0 0, .slice none 0 0, .slice none 0 0] 7 ble 13 _ rfl) (cellsAt.cons (putSeq_get (j := 0) [pT rb, iV 0, iV 0, iV 0, iV 0, iV 0, iV 0, iV 0, .slice none 0 0, .slice none 0 0, .slice none 0 0, .slice none 0 0, .slice none 0 0, .slice none 0 0, .slice none 0 0, .slice none 0 0] 7 ble 14 _ rfl) (cellsAt.cons (putSeq_get (j := 0) [pT rb, iV 0, iV 0, iV 0, iV 0, iV 0, iV 0, iV 0, .slice none 0 0, .slice none 0 0, .slice none 0 0, .slice none 0 0, .slice none 0 0, .slice none 0 0, .slice none 0 0, .slice none 0 0] 7 ble 15 _ rfl) (cellsAt.cons ((lkp_putSeq_above (j := 0) [pT rb, iV 0, iV 0, iV 0, iV 0, iV 0, iV 0, iV 0, .slice none 0 0, .slice none 0 0, .slice none 0 0, .slice none 0 0, .slice none 0 0, .slice none 0 0, .slice none 0 0, .slice none 0 0] 7 23 ble).trans (h0.get 23 _ rfl)) (cellsAt.cons ((lkp_putSeq_above (j := 0) [pT rb, iV 0, iV 0, iV 0, iV 0, iV 0, iV 0, iV 0, .slice none 0 0, .slice none 0 0, .slice none 0 0, .slice none 0 0, .slice none 0 0, .slice none 0 0, .slice none 0 0, .slice none 0 0] 7 24 ble).trans (h0.get 24 _ rfl)) (cellsAt.cons ((lkp_putSeq_above (j := 0) [pT rb, iV 0, iV 0, iV 0, iV 0, iV 0, iV 0, iV 0, .slice none 0 0, .slice none 0 0, .slice none 0 0, .slice none 0 0, .slice none 0 0, .slice none 0 0, .slice none 0 0, .slice none 0 0] 7 25 ble).trans (h0.get 25 _ rfl)) (cellsAt.cons ((lkp_putSeq_above (j := 0) [pT rb, iV 0, iV 0, iV 0, iV 0, iV 0, iV 0, iV 0, .slice none 0 0, .slice none 0 0, .slice none 0 0, .slice none 0 0, .slice none 0 0, .slice none 0 0, .slice none 0 0, .slice none 0 0] 7 26 ble).trans (h0.get 26 _ rfl)) (cellsAt.cons ((lkp_putSeq_above (j := 0) [pT rb, iV 0, iV 0, iV 0, iV 0, iV 0, iV 0, iV 0, .slice none 0 0, .slice none 0 0, .slice none 0 0, .slice none 0 0, .slice none 0 0, .slice none 0 0, .slice none 0 0, .slice none 0 0] 7 27 ble).trans (h0.get 27 _ rfl)) (cellsAt.cons ((lkp_putSeq_above (j := 0) [pT rb, iV 0, iV 0, iV 0, iV 0, iV 0, iV 0, iV 0, .slice none 0 0, .slice none 0 0, .slice none 0 0, .slice none 0 0, .slice none 0 0, .slice none 0 0, .slice none 0 0, .slice none 0 0] 7 28 ble).trans (h0.get 28 _ rfl)) (cellsAt.cons ((lkp_putSeq_above (j := 0) [pT rb, iV 0, iV 0, iV 0, iV 0, iV 0, iV 0, iV 0, .slice none 0 0, .slice none 0 0, .slice none 0 0, .slice none 0 0, .slice none 0 0, .slice none 0 0, .slice none 0 0, .slice none 0 0] 7 29 ble).trans (h0.get 29 _ rfl)) cellsAt.nil))))))))))))))))))))))))))))))
 have hc5 : cellsAt 1 (putSeq 0 7 [pT rb, iV 0, iV 0, iV 0, iV 0, iV 0, iV 0, iV 0, .slice none 0 0, .slice none 0 0, .slice none 0 0, .slice none 0 0, .slice none 0 0, .slice none 0 0, .slice none 0 0, .slice none 0 0] ((ky 0 6, iV (((o.d / 86400 + 1) % 7 + 6) % 7)) :: (ky 0 5, iV (o.d % 86400 % 60)) :: (ky 0 4, iV (o.d % 86400 / 60 % 60)) :: (ky 0 3, iV (o.d % 86400 / 3600)) :: (ky 0 2, iV (Cal.mdayOf (o.d / 86400))) :: (ky 0 1, iV (Cal.monthOf (o.d / 86400))) :: (ky 0 0, iV (Cal.yearOf (o.d / 86400))) :: H)) 0 (outC o x) := cellsAt_of fun i u h => by have hi : 0 + i < 4096 := by { have := (List.getElem?_eq_some_iff.1 h).1; have h3 : (outC o x).length = 60 := rfl; omega }; exact (lkp_seq_ne (j := 0) dE hi _ _ ble).trans (Eq.trans (by repeat (first | rfl | rw [lkp_ky_ne dE hi dE])) (hc1.get i u h))
 have h385 : ∀ q, q < 4096 → lkp (ky 38 q) (putSeq 0 7 [pT rb, iV 0, iV 0, iV 0, iV 0, iV 0, iV 0, iV 0, .slice none 0 0, .slice none 0 0, .slice none 0 0, .slice none 0 0, .slice none 0 0, .slice none 0 0, .slice none 0 0, .slice none 0 0] ((ky 0 6, iV (((o.d / 86400 + 1) % 7 + 6) % 7)) :: (ky 0 5, iV (o.d % 86400 % 60)) :: (ky 0 4, iV (o.d % 86400 / 60 % 60)) :: (ky 0 3, iV (o.d % 86400 / 3600)) :: (ky 0 2, iV (Cal.mdayOf (o.d / 86400))) :: (ky 0 1, iV (Cal.monthOf (o.d / 86400))) :: (ky 0 0, iV (Cal.yearOf (o.d / 86400))) :: H)) = none := fun q hq => (lkp_seq_ne (j := 0) dE hq _ _ ble).trans (Eq.trans (by repeat (first | rfl | rw [lkp_ky_ne dE hq dE])) (h38 q hq))
 exact it_b ok hf4 hw0 hd0 he0 hwF hnF heF hlen of hR1 hc5 h385 h5 (Lim.seqH dE _ 7 ble (by repeat (first | exact lim | apply Lim.consH _ dE dE))) hdm hR
end
end Go.Proofs.YtdbbifbmkfmbkaaGreat
namespace Go.Proofs.YtdbbifbmkfmbkaaGreat
open Go.RowKit Go.Fr Go.Tab
section
variable {F : Nat → Prop} {w0 : World} {B : List (Nat × Nat)} {H : List (Nat × Value)} {S : List (Nat × Slc)}
open Go.Md
theorem iterator_calls {o : Opn} {x : Av} {wF : Int → List Int} {nF : Int → Int → List Int} {eF : Int → List Int} (ok : OpOk o) (hf4 : o.freq < 4) (hw0 : o.weekno.length = 0) (hd0 : ((ruOf o wF nF eF)).nwd.length = 0) (he0 : o.easter.length = 0) (hwF : ∀ y, wF y = []) (hnF : ∀ y m, nF y m = []) (heF : ∀ y, eF y = []) (hlen : RuLen (ruOf o wF nF eF)) {rb : Nat} {S0 : List (Nat × Slc)} (of : OutF F w0 o x S0 S) (hR1 : lkp 1 B = some rb) (hc1 : cellsAt 1 H 0 (outC o x)) (h38 : ∀ q, q < 4096 → lkp (ky 38 q) H = none) (hdm : o.d < 315537897600) (hno : lkp 0 B = none) (hno2 : ∀ q, q < 4096 → lkp (ky 0 q) H = none) (lim : Lim 40 B H S) : ∀ w, Sees F w0 B H S w → Calls Go.Proofs.Tryz.prog 35 #[pT rb] w fun e w' => ∃ it a H' S', e = .returned (.func (.func 53) #[pT it] #[]) ∧ St F w0 S' H' it rb (ruOf o wF nF eF) (raOf x) (it0 o (ruOf o wF nF eF)) a ((0, it) :: B) H' S' ∧ (∀ k, 26 ≤ k → k < 40 → lkp k S' = lkp k S) ∧ (∀ q, q < 4096 → lkp (ky 38 q) H' = none) ∧ Sees F w0 ((0, it) :: B) H' S' w' := by
 intro w s
 refine calls_GC (args := [pT rb]) (L := [(0, pT rb)]) (N := 148) Tryz.func35 rfl rfl ble rfl s ?_
 refine g7 ?_
 refine rl ((rd_build0 (v := .agg z30.toArray) (fun w => by kernel_rfl))) ?_
 refine gL (at_alloc 0 (cs := z30) dE kR hno hno2 ble (fun it hit => ?_))
 refine gL (at_storeAgg 0 (cs := z30.toArray) rfl rfl rfl (cellsAt_some (put_cells z30 ble) 0 30 ble) kR rfl ble ?_)
 refine g2 ?_
 refine GC_to (L' := [(0, pT rb), (3, pT it)]) kns (fun w s => s) (H' := putSeq 0 0 z30 (putKeys 0 0 z30 ++ H)) ?_
 have hc5 : cellsAt 1 (putSeq 0 0 z30 (putKeys 0 0 z30 ++ H)) 0 (outC o x) := cellsAt_of fun i u h => by have hi : 0 + i < 4096 := by { have := (List.getElem?_eq_some_iff.1 h).1; have h3 : (outC o x).length = 60 := rfl; omega }; exact (lkp_seq_ne (j := 0) dE hi _ _ ble).trans ((lkp_put_ne (j := 0) dE hi _ _ ble).trans (hc1.get i u h))
 exact it_a ok hf4 hw0 hd0 he0 hwF hnF heF hlen of hR1 hc5 (fun q hq => (lkp_seq_ne (j := 0) dE hq _ _ ble).trans ((lkp_put_ne (j := 0) dE hq _ _ ble).trans (h38 q hq))) (cellsAt_of fun i u h => putSeq_get (j := 0) z30 0 ble i u h) (Lim.seqH dE _ 0 ble (Lim.putH dE _ 0 ble (lim.consB dE))) hdm (fun a H' S' w hst h1 h2 hs => ⟨it, a, H', S', rfl, hst, h1, h2, hs⟩)
inductive Tells (r : Ru) (N : Nat) : It → Nat → List Int → Prop
 | zero {s : It} : Tells r N s 0 []
 | stop {s e : It} {k : Nat} (h : GenTo r N s e) (hr : e.rem = []) : Tells r N s (k + 1) []
 | more {s e : It} {k : Nat} {t : Int} {l : List Int} (h : GenTo r N s e) (hr : e.rem.head? = some t) (ht : Tells r N { e with rem := e.rem.tail } k l) : Tells r N s (k + 1) (t :: l)
theorem popV_nil {e : It} (h : e.rem = []) : popV e = .tuple #[.agg #[iV 0, iV 0], .bool false] := by unfold popV; rw [h]
theorem popV_some {e : It} {t : Int} (h : e.rem.head? = some t) : popV e = .tuple #[.agg #[iV t, iV 0], .bool true] := by
 unfold popV
 cases hr : e.rem with
 | nil => rw [hr] at h; cases h
 | cons a l => rw [hr] at h; cases h; rfl
def St1 (F : Nat → Prop) (w0 : World) (it rb : Nat) (r : Ru) (l : Ra) (s : It) (a : Ad) (B : List (Nat × Nat)) (H : List (Nat × Value)) (S : List (Nat × Slc)) : Prop := St F w0 S H it rb r l s a B H S
theorem St.row35 {S0 : List (Nat × Slc)} {H0 : List (Nat × Value)} {r : Ru} {l : Ra} {it rb : Nat} {s : It} {a : Ad} (st : St F w0 S0 H0 it rb r l s a B H S) (q : Slc) : St1 F w0 it rb r l s a B (dropH 38 H) ((35, q) :: S) := ⟨st.hB, st.hR, ⟨st.lim.b, fun k_ h_ o_ ho_ => (lkp_dropH (by rw [ky_div ho_]; omega)).trans (st.lim.h k_ h_ o_ ho_), fun k_ h_ => (lkp_cons_ne oM _ _).trans (st.lim.s k_ h_)⟩, (lkp_dropH dE).trans st.h0, (lkp_dropH dE).trans st.h1, (lkp_dropH dE).trans st.h2, (lkp_dropH dE).trans st.h3, (lkp_dropH dE).trans st.h4, (lkp_dropH dE).trans st.h5, (lkp_dropH dE).trans st.h6, (lkp_dropH dE).trans st.h7, (lkp_dropH dE).trans st.h8, (lkp_dropH dE).trans st.h9, (lkp_dropH dE).trans st.h10, (lkp_dropH dE).trans st.h11, (lkp_dropH dE).trans st.h12, (lkp_dropH dE).trans st.h13, (lkp_dropH dE).trans st.h14, (lkp_dropH dE).trans st.h15, (lkp_dropH dE).trans st.h16, (lkp_dropH dE).trans st.h17, (lkp_dropH dE).trans st.h18, (lkp_dropH dE).trans st.h19, (lkp_dropH dE).trans st.h20, (lkp_dropH dE).trans st.h21, (lkp_dropH dE).trans st.h22, (lkp_dropH dE).trans st.h23, (lkp_dropH dE).trans st.h24, (lkp_dropH dE).trans st.h25, (lkp_dropH dE).trans st.h26, (lkp_dropH dE).trans st.h27, (lkp_dropH dE).trans st.h28, (lkp_dropH dE).trans st.h29, st.hS0, st.hS1, st.hS2, st.hS3, st.hS4, st.hS5, st.hS6, st.hS7, st.hS8, st.hS9, st.hS10, st.hp20, st.hp21, st.hp22, st.c6, (fun _ _ _ => rfl), (fun _ _ _ _ _ => rfl), st.hq0, st.hq1, (lkp_dropH dE).trans st.r38, (lkp_dropH dE).trans st.r39, (lkp_dropH dE).trans st.r40, (lkp_dropH dE).trans st.r41, (lkp_dropH dE).trans st.r42, (lkp_dropH dE).trans st.r44, (lkp_dropH dE).trans st.r45, (lkp_dropH dE).trans st.r46, (lkp_dropH dE).trans st.r47, (lkp_dropH dE).trans st.r48, (lkp_dropH dE).trans st.r49, (lkp_dropH dE).trans st.r50, (lkp_dropH dE).trans st.r51, (lkp_dropH dE).trans st.r52, (lkp_dropH dE).trans st.r53, (lkp_dropH dE).trans st.r54, (lkp_dropH dE).trans st.r55, (lkp_dropH dE).trans st.r56, (lkp_dropH dE).trans st.r57, (lkp_dropH dE).trans st.r59, (st.hI46.to aG), (st.hI47.to aG), (st.hI48.to aG), (st.hI49.to aG), (st.hI50.to aG), (st.hI51.to aG), (st.hI52.to aG), (st.hI54.to aG), (st.hI55.to aG), (st.hI56.to aG), (st.hI57.to aG), st.hl46, st.hl47, st.hl48, st.hl49, st.hl50, st.hl51, st.hl52, st.hl54, st.hl55, st.hl56, st.hl57⟩
theorem SrcU_old {F : Nat → Prop} {w0 : World} {S : List (Nat × Slc)} {t : Nat} {v : Value} {ps : List (Int × Int)} (h : Prs w0 v ps) (hF : ∀ b, ¬ F b) : SrcU F w0 S t v ps := fun B H S' w _ s => by
 obtain ⟨p, c, rfl, hc⟩ := h
 refine ⟨p, c, rfl, fun i x hx => ?_⟩
 obtain ⟨b, o, rfl, h1, h2⟩ := hc i x hx
 exact ⟨b, o, rfl, s.old_cell h1 (hF b), s.old_cell h2 (hF b)⟩
theorem tells_succ {r : Ru} {N : Nat} {s : It} {k : Nat} {l : List Int} (h : Tells r N s (k + 1) l) : ∃ e, GenTo r N s e ∧ ((e.rem = [] ∧ l = []) ∨ ∃ t l2, e.rem.head? = some t ∧ l = t :: l2 ∧ Tells r N { e with rem := e.rem.tail } k l2) := by
 cases h with
 | stop h hr => exact ⟨_, h, .inl ⟨hr, rfl⟩⟩
 | more h hr ht => exact ⟨_, h, .inr ⟨_, _, hr, rfl, ht⟩⟩
theorem Sees.lessH {w : World} {k : Nat} (s : Sees F w0 B H S w) : Sees F w0 B (dropH k H) S w := s.to (fun _ _ h => h) (fun j o v ho h => by
 have hjk : j ≠ k := fun e => by rw [e, lkp_dropped ho] at h; cases h
 rw [lkp_dropH (by rw [ky_div ho]; exact hjk)] at h
 obtain ⟨b, e, _⟩ := s.cells j o v ho h
 exact ⟨h, by rw [e]; rfl⟩) (fun _ _ h => h)
theorem Sees.dropRow2 {w : World} {k j : Nat} {q u : Slc} (s : Sees F w0 B H ((k, q) :: (j, u) :: S) w) (hj : lkp j S = none) (hjk : j ≠ k) : Sees F w0 B H ((k, q) :: S) w :=
 s.to (fun _ _ h => h) (fun j o v ho h => ⟨h, by obtain ⟨b, e, _⟩ := s.cells j o v ho h; rw [e]; rfl⟩) (fun i r h => by
  by_cases e : i = k
  ·subst e; rw [lkp_cons_self] at h ⊢; exact h
  ·rw [lkp_cons_ne e] at h ⊢
   by_cases e2 : i = j
   ·subst e2; rw [hj] at h; cases h
   ·rw [lkp_cons_ne e2]; exact h)
structure InL (w : World) (r : Rul) (x : Av) : Prop where
 i9 : Ints w (.slice x.p9 (r.setpos).length x.c9) r.setpos
 i10 : Ints w (.slice x.p10 (r.month).length x.c10) r.month
 i11 : Ints w (.slice x.p11 (r.mday).length x.c11) r.mday
 i12 : Ints w (.slice x.p12 (r.yday).length x.c12) r.yday
 i13 : Ints w (.slice x.p13 (r.weekno).length x.c13) r.weekno
 i14 : Prs w (.slice x.p14 (r.wday).length x.c14) r.wday
 i15 : Ints w (.slice x.p15 (r.hour).length x.c15) r.hour
 i16 : Ints w (.slice x.p16 (r.minute).length x.c16) r.minute
 i17 : Ints w (.slice x.p17 (r.second).length x.c17) r.second
 i18 : Ints w (.slice x.p18 (r.easter).length x.c18) r.easter
theorem first_calls {r : Rul} {x : Av} {wF : Int → List Int} {nF : Int → Int → List Int} {eF : Int → List Int} (ok : OpOk (optOf r)) (hf4 : (optOf r).freq < 4) (hw0 : (optOf r).weekno.length = 0) (hd0 : ((ruOf (optOf r) wF nF eF)).nwd.length = 0) (he0 : (optOf r).easter.length = 0) (hwF : ∀ y, wF y = []) (hnF : ∀ y m, nF y m = []) (heF : ∀ y, eF y = []) (hlen : RuLen (ruOf (optOf r) wF nF eF)) (rk : RulOk r) (vk : VbOk (optOf r)) (hdm : (optOf r).d < 315537897600) (hsort : ∀ F w0, SortOk F w0 (raw (optOf r))) (hr : RuOk (ruOf (optOf r) wF nF eF)) (hp : Plain (ruOf (optOf r) wF nF eF)) (hpres : Pres (ruOf (optOf r) wF nF eF)) {most N : Nat} (hm : most ≤ 1000000) {l : List Int} (hT : Tells (ruOf (optOf r) wF nF eF) N (it0 (optOf r) (ruOf (optOf r) wF nF eF)) most l) (w : World) (hin : InL w r x) :
  Calls Go.Proofs.Tryz.prog 18 #[.agg (rulC r x).toArray, iV most] w fun e w' => ∃ p c, e = .returned (.tuple #[.slice p l.length c, .bool true]) ∧ NewRow w w' (.slice p l.length c) 2 1 l.length (l.map iV) := by
 refine calls_GC (args := [.agg (rulC r x).toArray, iV most]) (L := [(0, .agg (rulC r x).toArray), (1, iV most)]) (N := 38) Tryz.func18 rfl rfl ble rfl (Sees.start (fun _ => False) w) ?_
 refine g2 ?_
 refine gL (at_box 30 (cs := rulC r x) dE rfl rfl rfl (fun o ho => rfl) ble (fun b1 hb1 => ?_))
 refine g6 ?_
 refine rl ((rd_loadN 30 (cs := rulC r x) rfl rfl (put_get (rulC r x) 0 ble) ble kR)) ?_
 refine gL (at_call (ι := Option Addr × Nat) (fun y => .agg (oc0 (optOf r) { x with p14 := y.1, c14 := y.2 }).toArray) (fun _ => True) (fun _ => [(30, b1)]) (fun _ => (putKeys 30 0 (rulC r x) ++ [])) (fun y => [(11, ⟨.slice y.1 r.wday.length y.2, 59, 2, r.wday.length, pcells r.wday⟩)]) dE kR rfl (fun w_ s_ => (option_calls (x := x) rk (Lim.putH dE _ 0 ble ((Lim.nil).consB dE)) rfl (fun S => SrcU_old hin.i14 (fun b h => h)) w_ s_).mono fun e w' ⟨p, c, he, hs⟩ => ⟨(p, c), trivial, he, hs⟩) (fun | (p0, c0), _ => ?_))
 refine gL (at_call (ι := Nat × Av × List (Nat × Slc)) (fun y => .tuple #[pT y.1, .nilIface]) (fun y => OutF (fun _ => False) w (optOf r) y.2.1 [(11, ⟨.slice p0 r.wday.length c0, 59, 2, r.wday.length, pcells r.wday⟩)] y.2.2) (fun y => (1, y.1) :: [(30, b1)]) (fun y => putKeys 1 0 (outC (optOf r) y.2.1) ++ (putKeys 30 0 (rulC r x) ++ [])) (fun y => y.2.2) dE kR rfl (fun w_ s_ => (newRRule_calls (x := { x with p14 := p0, c14 := c0 }) ok vk (fun _ => hsort _ _) ((Lim.putH dE _ 0 ble ((Lim.nil).consB dE)).consS dE) rfl (fun q hq => lkp_put_ne dE hq _ _ ble) (SrcT.old hin.i9 (fun b h => h)) (SrcT.old hin.i10 (fun b h => h)) (SrcT.old hin.i11 (fun b h => h)) (SrcT.old hin.i12 (fun b h => h)) (SrcT.old hin.i13 (fun b h => h)) (SrcU.row (t := 11) (e := 59) rfl) (SrcT.old hin.i15 (fun b h => h)) (SrcT.old hin.i16 (fun b h => h)) (SrcT.old hin.i17 (fun b h => h)) (SrcT.old hin.i18 (fun b h => h)) w_ s_).mono fun e w' ⟨rb, x', S', he, hf, hs⟩ => ⟨(rb, x', S'), hf, he, hs⟩) (fun | (rb, x2, S2), hf2 => ?_))
 refine g11 ?_
 refine rl ((rd_bin (v := .bool false) rfl rfl (fun w => by kernel_rfl))) ?_
 refine g2 ?_
 refine GC_is_false rfl rfl ?_
 refine g5 ?_
 have hf2 : OutF (fun _ => False) w (optOf r) x2 [(11, ⟨.slice p0 r.wday.length c0, 59, 2, r.wday.length, pcells r.wday⟩)] S2 := hf2
 have hS2 : ∀ k, 26 ≤ k → lkp k S2 = none := fun k hk => by
  rcases Nat.lt_or_ge k 53 with h | h
  ·rw [hf2.fr k h oM, lkp_cons_ne oM]; rfl
  ·exact hf2.lim k h
 have lim2 : Lim 40 ((1, rb) :: [(30, b1)]) (putKeys 1 0 (outC (optOf r) x2) ++ (putKeys 30 0 (rulC r x) ++ [])) S2 := ⟨fun k hk => by rw [lkp_cons_ne oM, lkp_cons_ne oM]; rfl, fun k hk o ho => by rw [lkp_put_ne oM ho _ _ ble, lkp_put_ne oM ho _ _ ble]; rfl, fun k hk => hS2 k oM⟩
 have hk2 : ∀ k, k ≠ 1 → k ≠ 30 → ∀ q, q < 4096 → lkp (ky k q) (putKeys 1 0 (outC (optOf r) x2) ++ (putKeys 30 0 (rulC r x) ++ [])) = none := fun k h1 h30 q hq => by rw [lkp_put_ne h1 hq _ _ ble, lkp_put_ne h30 hq _ _ ble]; rfl
 refine gL (at_call (ι := Nat × Ad × List (Nat × Value) × List (Nat × Slc)) (fun y => .func (.func 53) #[pT y.1] #[]) (fun y => St (fun _ => False) w y.2.2.2 y.2.2.1 y.1 rb (ruOf (optOf r) wF nF eF) (raOf x2) (it0 (optOf r) (ruOf (optOf r) wF nF eF)) y.2.1 ((0, y.1) :: (1, rb) :: [(30, b1)]) y.2.2.1 y.2.2.2 ∧ (∀ k, 26 ≤ k → k < 40 → lkp k y.2.2.2 = lkp k S2) ∧ (∀ q, q < 4096 → lkp (ky 38 q) y.2.2.1 = none)) (fun y => (0, y.1) :: (1, rb) :: [(30, b1)]) (fun y => y.2.2.1) (fun y => y.2.2.2) dE kR rfl (fun w_ s_ => (iterator_calls ok hf4 hw0 hd0 he0 hwF hnF heF hlen hf2 rfl (put_cells _ ble) (hk2 38 dE dE) hdm rfl (hk2 0 dE dE) lim2 w_ s_).mono fun e w' ⟨it, a, H', S', he, h1, h2, h3, hs⟩ => ⟨(it, a, H', S'), ⟨h1, h2, h3⟩, he, hs⟩) (fun | (it, a0, H3, S3), ⟨st3, hS3, h38_3⟩ => ?_))
 refine g5 ?_
 refine GC_loop (ι := (List Int) × (Nat) × (It) × (Ad) × (List (Nat × Value)) × (List (Nat × Slc)) × (Option Addr) × (Nat) × (Nat) × (List Value)) (fun | ⟨acc, k, s1, a1, H1, S1, p, c, n, xs⟩ => k) (fun | ⟨acc, k, s1, a1, H1, S1, p, c, n, xs⟩ => (∃ l', l = acc ++ l' ∧ Tells (ruOf (optOf r) wF nF eF) N s1 k l') ∧ (acc.length + k = most) ∧ (St1 (fun _ => False) w it rb (ruOf (optOf r) wF nF eF) (raOf x2) s1 a1 ((0, it) :: (1, rb) :: [(30, b1)]) H1 S1) ∧ (∀ q, q < 4096 → lkp (ky 38 q) H1 = none) ∧ (lkp 35 S1 = some ⟨.slice p n c, 2, 1, n, xs⟩) ∧ (n = acc.length) ∧ (xs = acc.map iV)) (fun | ⟨acc, k, s1, a1, H1, S1, p, c, n, xs⟩ => [(1, iV most), (4, .slice p n c), (8, .func (.func 53) #[pT it] #[])]) (fun | ⟨acc, k, s1, a1, H1, S1, p, c, n, xs⟩ => ((0, it) :: (1, rb) :: [(30, b1)])) (fun | ⟨acc, k, s1, a1, H1, S1, p, c, n, xs⟩ => H1) (fun | ⟨acc, k, s1, a1, H1, S1, p, c, n, xs⟩ => S1) ⟨[], most, it0 (optOf r) (ruOf (optOf r) wF nF eF), a0, dropH 38 H3, (35, ⟨.slice none 0 0, 2, 1, 0, []⟩) :: S3, none, 0, 0, []⟩ ⟨⟨l, rfl, hT⟩, by simp, St.row35 st3 _, fun q hq => lkp_dropped hq _, rfl, rfl, rfl⟩ kns (fun w s => by exact (Sees.lessH (s.nilRow 35 2 1))) ?_
 rintro ⟨acc, k, s1, a1, H1, S1, p, c, n, xs⟩ ⟨hl, hk, st1, h38, hrow, hn, hx⟩
 show GC _ _ _ _ [(1, iV most), (4, .slice p n c), (8, .func (.func 53) #[pT it] #[])] _ _ (((0, it) :: (1, rb) :: [(30, b1)])) (H1) (S1)
 refine g9 ?_
 refine GC_cond rfl (fun hc1 => ?_) (fun hc2 => ?_)
 ·have hlt : n < most := by have := of_decide_eq_true hc1; omega
  obtain ⟨k, rfl⟩ : ∃ j, k = j + 1 := ⟨k - 1, by omega⟩
  obtain ⟨l', hl0, hT1⟩ := hl
  obtain ⟨e, hG, hways⟩ := tells_succ hT1
  refine g4 ?_
  rcases hways with ⟨hre, hl1⟩ | ⟨t, l2, hre, hl1, ht2⟩
  ·have hpv := popV_nil hre
   refine g2 ?_
   refine gL (at_callv (ι := Ad × List (Nat × Value) × List (Nat × Slc)) (first := [pT it]) (capt := []) (fun _ => popV e) (fun y => St (fun _ => False) w S1 H1 it rb (ruOf (optOf r) wF nF eF) (raOf x2) { e with rem := e.rem.tail } y.1 ((0, it) :: (1, rb) :: [(30, b1)]) y.2.1 y.2.2) (fun _ => ((0, it) :: (1, rb) :: [(30, b1)])) (fun y => y.2.1) (fun y => y.2.2) dE rfl kR rfl (fun w_ s_ => (next_calls st1 rfl h38 hr hp hpres hG w_ s_).mono fun e2 w' ⟨a', H', S', he, hst, hs⟩ => ⟨(a', H', S'), hst, he, hs⟩) (fun | (a2, H2, S2'), st2 => ?_))
   have st2 : St (fun _ => False) w S1 H1 it rb (ruOf (optOf r) wF nF eF) (raOf x2) { e with rem := e.rem.tail } a2 ((0, it) :: (1, rb) :: [(30, b1)]) H2 S2' := st2
   rw [hpv]
   have hrow2 : lkp 35 S2' = some ⟨.slice p n c, 2, 1, n, xs⟩ := (st2.frS 35 dE dE).trans hrow
   refine g3 ?_
   refine gL (at_alloc 38 (cs := [iV 0, iV 0]) dE kR rfl (fun o ho => (st2.frH 38 dE dE o ho).trans (h38 o ho)) ble (fun b9 hb9 => ?_))
   refine gL (sta 38 rfl rfl rfl rfl ?_)
   refine g10 ?_
   refine GC_is_true rfl rfl ?_
   refine g14 ?_
   rw [hl1, List.append_nil] at hl0
   subst hl0 hn hx
   refine GE_ret2 (.inl rfl) rfl (res_tmp rfl) (res_tmp rfl) fun w_ s_ => ⟨p, c, rfl, ?_⟩
   have h := s_.toNew (k := 35) hrow2
   exact h
  ·have hpv := popV_some hre
   refine g2 ?_
   refine gL (at_callv (ι := Ad × List (Nat × Value) × List (Nat × Slc)) (first := [pT it]) (capt := []) (fun _ => popV e) (fun y => St (fun _ => False) w S1 H1 it rb (ruOf (optOf r) wF nF eF) (raOf x2) { e with rem := e.rem.tail } y.1 ((0, it) :: (1, rb) :: [(30, b1)]) y.2.1 y.2.2) (fun _ => ((0, it) :: (1, rb) :: [(30, b1)])) (fun y => y.2.1) (fun y => y.2.2) dE rfl kR rfl (fun w_ s_ => (next_calls st1 rfl h38 hr hp hpres hG w_ s_).mono fun e2 w' ⟨a', H', S', he, hst, hs⟩ => ⟨(a', H', S'), hst, he, hs⟩) (fun | (a2, H2, S2'), st2 => ?_))
   have st2 : St (fun _ => False) w S1 H1 it rb (ruOf (optOf r) wF nF eF) (raOf x2) { e with rem := e.rem.tail } a2 ((0, it) :: (1, rb) :: [(30, b1)]) H2 S2' := st2
   rw [hpv]
   have hrow2 : lkp 35 S2' = some ⟨.slice p n c, 2, 1, n, xs⟩ := (st2.frS 35 dE dE).trans hrow
   refine g3 ?_
   refine gL (at_alloc 38 (cs := [iV 0, iV 0]) dE kR rfl (fun o ho => (st2.frH 38 dE dE o ho).trans (h38 o ho)) ble (fun b9 hb9 => ?_))
   refine gL (sta 38 rfl rfl rfl rfl ?_)
   refine g10 ?_
   refine GC_is_false rfl rfl ?_
   refine g4 ?_
   refine rl (rd_load2 38 rfl rfl rfl rfl kR dE) ?_
   refine gL (cvo rfl (fun w_ s_ => seconds_calls _ _ w_) ?_)
   refine gL (at_one_ 60 (e := 2) (sz := 1) (by_ := 8) (zs := [iV 0]) dE kR rfl dE dE rfl rfl rfl (fun bo => ?_))
   refine gL (at_append 35 60 (e := 2) (sz := 1) (by_ := 8) (zs := [iV 0]) (q := ⟨.slice p n c, 2, 1, n, xs⟩) dE kR rfl dE rfl rfl hrow2 rfl ⟨rfl, rfl⟩ ⟨rfl, rfl⟩ (ints_one (xs := [t])) sO sO (fun p' c' => ?_))
   have hback : ∀ {w1 : World} {u1 : Slc} {Hx : List (Nat × Value)}, Sees (fun _ => False) w ((38, b9) :: ((0, it) :: (1, rb) :: [(30, b1)])) Hx ((35, ⟨.slice p' (n + 1) c', 2, 1, (n + 1), (xs ++ [iV t])⟩) :: (60, u1) :: S2') w1 → dropH 38 Hx = dropH 38 H2 → Sees (fun _ => False) w ((0, it) :: (1, rb) :: [(30, b1)]) (dropH 38 H2) ((35, ⟨.slice p' (n + 1) c', 2, 1, (n + 1), (xs ++ [iV t])⟩) :: S2') w1 := fun s hx => by have s2 := Sees.dropTag s rfl; rw [hx] at s2; exact Sees.dropRow2 s2 (st2.lim.s 60 dE) dE
   refine g3 ?_
   refine GE_back ⟨acc ++ [t], k, { e with rem := e.rem.tail }, a2, dropH 38 H2, (35, ⟨.slice p' (n + 1) c', 2, 1, (n + 1), (xs ++ [iV t])⟩) :: S2', p', c', n + 1, xs ++ [iV t]⟩ sO ⟨⟨l2, by rw [hl0, hl1, List.append_assoc]; rfl, ht2⟩, by rw [List.length_append]; simp only [List.length_singleton]; omega, St.row35 st2 _, fun q hq => lkp_dropped hq _, rfl, by rw [List.length_append, hn]; rfl, by rw [hx]; simp⟩ kns (fun w s => by exact hback s (by rw [dropH_seq _ _ ble, dropH_put _ _ ble]))
 ·have hge : ¬ n < most := by have := of_decide_eq_false hc2; omega
  obtain rfl : k = 0 := by omega
  obtain ⟨l', hl0, hT1⟩ := hl
  cases hT1
  rw [List.append_nil] at hl0
  subst hl0 hn hx
  refine g13 ?_
  refine GE_ret2 (.inl rfl) rfl (res_tmp rfl) (res_tmp rfl) fun w_ s_ => ⟨p, c, rfl, ?_⟩
  have h := s_.toNew (k := 35) hrow
  exact h
end
end Go.Proofs.YtdbbifbmkfmbkaaGreat
namespace Go.Proofs.YtdbbifbmkfmbkaaGreat
open Go.RowKit Go.Fr Go.Tab
section
variable {F : Nat → Prop} {w0 : World} {B : List (Nat × Nat)} {H : List (Nat × Value)} {S : List (Nat × Slc)}
open Go.Md
theorem sleap_no (y : Int) (h0 : 0 ≤ y) (h : y % 4 ≠ 0) (w : World) : Calls Go.Proofs.Tryz.prog 99 #[iV y] w fun e w' => e = .returned (.bool false) ∧ Below w.heap.size w w' := by
 refine calls_GC (args := [iV y]) (L := [(0, iV y)]) (N := 16) Tryz.func99 rfl rfl ble rfl (Sees.start (fun _ => False) w) ?_
 refine g9 ?_
 refine rl ((rd_eql rfl rfl).to (congrArg Value.bool (b_ne h))) ?_
 refine g14 ?_
 refine GE_ret1 (.inl rfl) rfl (res_tmp rfl) fun w_ s_ => ⟨?_, s_.toBelow⟩
 first | rfl | (simp; done)
theorem sleap_yes (y : Int) (h0 : 0 ≤ y) (h : y % 4 = 0) (h1 : y % 100 ≠ 0) (w : World) : Calls Go.Proofs.Tryz.prog 99 #[iV y] w fun e w' => e = .returned (.bool true) ∧ Below w.heap.size w w' := by
 refine calls_GC (args := [iV y]) (L := [(0, iV y)]) (N := 16) Tryz.func99 rfl rfl ble rfl (Sees.start (fun _ => False) w) ?_
 refine g9 ?_
 refine rl ((rd_eql rfl rfl).to (congrArg Value.bool (b_eq h))) ?_
 refine g6 ?_
 refine rl ((rd_neq rfl rfl).to (congrArg Value.bool (n_ne h1))) ?_
 refine g12 ?_
 refine GE_ret1 (.inl rfl) rfl (res_tmp rfl) fun w_ s_ => ⟨?_, s_.toBelow⟩
 first | rfl | (simp; done)
theorem sleap_400 (y : Int) (h0 : 0 ≤ y) (h : y % 4 = 0) (h1 : y % 100 = 0) (w : World) : Calls Go.Proofs.Tryz.prog 99 #[iV y] w fun e w' => e = .returned (.bool (y % 400 == 0)) ∧ Below w.heap.size w w' := by
 refine calls_GC (args := [iV y]) (L := [(0, iV y)]) (N := 16) Tryz.func99 rfl rfl ble rfl (Sees.start (fun _ => False) w) ?_
 refine g9 ?_
 refine rl ((rd_eql rfl rfl).to (congrArg Value.bool (b_eq h))) ?_
 refine g6 ?_
 refine rl ((rd_neq rfl rfl).to (congrArg Value.bool (n_eq h1))) ?_
 refine g15 ?_
 refine GE_ret1 (.inl rfl) rfl (res_tmp rfl) fun w_ s_ => ⟨?_, s_.toBelow⟩
 first | rfl | (simp; done)
theorem sleap_calls (y : Int) (h0 : 0 ≤ y) (w : World) : Calls Go.Proofs.Tryz.prog 99 #[iV y] w fun e w' => e = .returned (.bool (Cal.leapB y)) ∧ Below w.heap.size w w' := by
 by_cases h : y % 4 = 0
 ·by_cases h1 : y % 100 = 0
  ·refine (sleap_400 y h0 h h1 w).mono fun e w' ⟨he, hb⟩ => ⟨he.trans (retb_ ?_), hb⟩
   unfold Cal.leapB
   by_cases h2 : y % 400 = 0 <;> simp [h, h1, h2]
  ·refine (sleap_yes y h0 h h1 w).mono fun e w' ⟨he, hb⟩ => ⟨he.trans (retb_ ?_), hb⟩
   unfold Cal.leapB
   simp [h, h1]
 ·refine (sleap_no y h0 h w).mono fun e w' ⟨he, hb⟩ => ⟨he.trans (retb_ ?_), hb⟩
  unfold Cal.leapB
  simp [h]
theorem yearDays_calls (y : Int) (h0 : 0 ≤ y) (w : World) : Calls Go.Proofs.Tryz.prog 59 #[iV y] w fun e w' => e = .returned (iV (365 + Cal.lp y)) ∧ Below w.heap.size w w' := by
 refine calls_GC (args := [iV y]) (L := [(0, iV y)]) (N := 5) Tryz.func59 rfl rfl ble rfl (Sees.start (fun _ => False) w) ?_
 refine g9 ?_
 refine gL (cvo rfl (fun w_ s_ => sleap_calls _ oM w_) ?_)
 refine g2 ?_
 refine GC_cond rfl (fun c4_ => ?_) (fun c4_ => ?_)
 ·first | have p4_ := of_decide_eq_true c4_ | have p4_ := beq_iff_eq.1 c4_ | have p4_ := bne_iff_ne.1 c4_ | skip
  refine g7 ?_
  refine GE_ret1 (.inl rfl) rfl (res_tmp rfl) fun w_ s_ => ⟨?_, s_.toBelow⟩
  refine ret1_ ?_
  simp_all [Cal.lp]
 ·first | have p4_ := of_decide_eq_false c4_ | have p4_ := beq_eq_false_iff_ne.1 c4_ | have p4_ := bne_eq_false_iff_eq.1 c4_ | skip
  refine g8 ?_
  refine GE_ret1 (.inl rfl) rfl (res_tmp rfl) fun w_ s_ => ⟨?_, s_.toBelow⟩
  refine ret1_ ?_
  simp_all [Cal.lp]
theorem newYear_calls (y : Int) (h0 : 1 ≤ y ∧ y ≤ 1000000000) (w : World) : Calls Go.Proofs.Tryz.prog 27 #[iV y] w fun e w' => e = .returned (iV (Cal.daysTo y)) ∧ Below w.heap.size w w' := by
 refine calls_GC (args := [iV y]) (L := [(0, iV y)]) (N := 17) Tryz.func27 rfl rfl ble rfl (Sees.start (fun _ => False) w) ?_
 refine g25 ?_
 refine g4 ?_
 refine GE_ret1 (.inl rfl) rfl (res_tmp rfl) fun w_ s_ => ⟨?_, s_.toBelow⟩
 refine ret1_ ?_
 unfold Cal.daysTo
 omega
theorem smonthDays_calls (y m : Int) (h0 : 0 ≤ y) (w : World) : Calls Go.Proofs.Tryz.prog 61 #[iV y, iV m] w fun e w' => e = .returned (iV (Cal.mdays m y)) ∧ Below w.heap.size w w' := by
 refine calls_GC (args := [iV y, iV m]) (L := [(0, iV y), (1, iV m)]) (N := 16) Tryz.func61 rfl rfl ble rfl (Sees.start (fun _ => False) w) ?_
 have hlp := Cal.lp_01 y
 refine g18 ?_
 refine g1 ?_
 refine GC_cond rfl (fun c6_ => ?_) (fun c6_ => ?_)
 ·first | have p6_ := of_decide_eq_true c6_ | have p6_ := beq_iff_eq.1 c6_ | have p6_ := bne_iff_ne.1 c6_ | skip
  refine g2 ?_
  refine GC_cond rfl (fun c6_ => ?_) (fun c6_ => ?_)
  ·first | have p6_ := of_decide_eq_true c6_ | have p6_ := beq_iff_eq.1 c6_ | have p6_ := bne_iff_ne.1 c6_ | skip
   refine g8 ?_
   refine GE_ret1 (.inl rfl) rfl (res_tmp rfl) fun w_ s_ => ⟨?_, s_.toBelow⟩
   refine ret1_ ?_
   unfold Cal.mdays
   simp_all
   try omega
  ·first | have p6_ := of_decide_eq_false c6_ | have p6_ := beq_eq_false_iff_ne.1 c6_ | have p6_ := bne_eq_false_iff_eq.1 c6_ | skip
   refine g6 ?_
   refine GC_cond rfl (fun c11_ => ?_) (fun c11_ => ?_)
   ·first | have p11_ := of_decide_eq_true c11_ | have p11_ := beq_iff_eq.1 c11_ | have p11_ := bne_iff_ne.1 c11_ | skip
    refine g3 ?_
    refine gL (cvo rfl (fun w_ s_ => yearDays_calls _ oM w_) ?_)
    refine g7 ?_
    refine GE_ret1 (.inl rfl) rfl (res_tmp rfl) fun w_ s_ => ⟨?_, s_.toBelow⟩
    refine ret1_ ?_
    unfold Cal.mdays
    simp_all
    try omega
   ·first | have p11_ := of_decide_eq_false c11_ | have p11_ := beq_eq_false_iff_ne.1 c11_ | have p11_ := bne_eq_false_iff_eq.1 c11_ | skip
    refine g9 ?_
    refine GE_ret1 (.inl rfl) rfl (res_tmp rfl) fun w_ s_ => ⟨?_, s_.toBelow⟩
    refine ret1_ ?_
    unfold Cal.mdays
    simp_all
    try omega
 ·first | have p6_ := of_decide_eq_false c6_ | have p6_ := beq_eq_false_iff_ne.1 c6_ | have p6_ := bne_eq_false_iff_eq.1 c6_ | skip
  refine g6 ?_
  refine GC_cond rfl (fun c6_ => ?_) (fun c6_ => ?_)
  ·first | have p6_ := of_decide_eq_true c6_ | have p6_ := beq_iff_eq.1 c6_ | have p6_ := bne_iff_ne.1 c6_ | skip
   refine g2 ?_
   refine GC_cond rfl (fun c6_ => ?_) (fun c6_ => ?_)
   ·first | have p6_ := of_decide_eq_true c6_ | have p6_ := beq_iff_eq.1 c6_ | have p6_ := bne_iff_ne.1 c6_ | skip
    refine g8 ?_
    refine GE_ret1 (.inl rfl) rfl (res_tmp rfl) fun w_ s_ => ⟨?_, s_.toBelow⟩
    refine ret1_ ?_
    unfold Cal.mdays
    simp_all
    try omega
   ·first | have p6_ := of_decide_eq_false c6_ | have p6_ := beq_eq_false_iff_ne.1 c6_ | have p6_ := bne_eq_false_iff_eq.1 c6_ | skip
    refine g6 ?_
    refine GC_cond rfl (fun c11_ => ?_) (fun c11_ => ?_)
    ·first | have p11_ := of_decide_eq_true c11_ | have p11_ := beq_iff_eq.1 c11_ | have p11_ := bne_iff_ne.1 c11_ | skip
     refine g3 ?_
     refine gL (cvo rfl (fun w_ s_ => yearDays_calls _ oM w_) ?_)
     refine g7 ?_
     refine GE_ret1 (.inl rfl) rfl (res_tmp rfl) fun w_ s_ => ⟨?_, s_.toBelow⟩
     refine ret1_ ?_
     unfold Cal.mdays
     simp_all
     try omega
    ·first | have p11_ := of_decide_eq_false c11_ | have p11_ := beq_eq_false_iff_ne.1 c11_ | have p11_ := bne_eq_false_iff_eq.1 c11_ | skip
     refine g9 ?_
     refine GE_ret1 (.inl rfl) rfl (res_tmp rfl) fun w_ s_ => ⟨?_, s_.toBelow⟩
     refine ret1_ ?_
     unfold Cal.mdays
     simp_all
     try omega
  ·first | have p6_ := of_decide_eq_false c6_ | have p6_ := beq_eq_false_iff_ne.1 c6_ | have p6_ := bne_eq_false_iff_eq.1 c6_ | skip
   refine g6 ?_
   refine GC_cond rfl (fun c6_ => ?_) (fun c6_ => ?_)
   ·first | have p6_ := of_decide_eq_true c6_ | have p6_ := beq_iff_eq.1 c6_ | have p6_ := bne_iff_ne.1 c6_ | skip
    refine g2 ?_
    refine GC_cond rfl (fun c6_ => ?_) (fun c6_ => ?_)
    ·first | have p6_ := of_decide_eq_true c6_ | have p6_ := beq_iff_eq.1 c6_ | have p6_ := bne_iff_ne.1 c6_ | skip
     refine g8 ?_
     refine GE_ret1 (.inl rfl) rfl (res_tmp rfl) fun w_ s_ => ⟨?_, s_.toBelow⟩
     refine ret1_ ?_
     unfold Cal.mdays
     simp_all
     try omega
    ·first | have p6_ := of_decide_eq_false c6_ | have p6_ := beq_eq_false_iff_ne.1 c6_ | have p6_ := bne_eq_false_iff_eq.1 c6_ | skip
     refine g6 ?_
     refine GC_cond rfl (fun c11_ => ?_) (fun c11_ => ?_)
     ·first | have p11_ := of_decide_eq_true c11_ | have p11_ := beq_iff_eq.1 c11_ | have p11_ := bne_iff_ne.1 c11_ | skip
      refine g3 ?_
      refine gL (cvo rfl (fun w_ s_ => yearDays_calls _ oM w_) ?_)
      refine g7 ?_
      refine GE_ret1 (.inl rfl) rfl (res_tmp rfl) fun w_ s_ => ⟨?_, s_.toBelow⟩
      refine ret1_ ?_
      unfold Cal.mdays
      simp_all
      try omega
     ·first | have p11_ := of_decide_eq_false c11_ | have p11_ := beq_eq_false_iff_ne.1 c11_ | have p11_ := bne_eq_false_iff_eq.1 c11_ | skip
      refine g9 ?_
      refine GE_ret1 (.inl rfl) rfl (res_tmp rfl) fun w_ s_ => ⟨?_, s_.toBelow⟩
      refine ret1_ ?_
      unfold Cal.mdays
      simp_all
      try omega
   ·first | have p6_ := of_decide_eq_false c6_ | have p6_ := beq_eq_false_iff_ne.1 c6_ | have p6_ := bne_eq_false_iff_eq.1 c6_ | skip
    refine g5 ?_
    refine GC_cond rfl (fun c6_ => ?_) (fun c6_ => ?_)
    ·first | have p6_ := of_decide_eq_true c6_ | have p6_ := beq_iff_eq.1 c6_ | have p6_ := bne_iff_ne.1 c6_ | skip
     refine g8 ?_
     refine GE_ret1 (.inl rfl) rfl (res_tmp rfl) fun w_ s_ => ⟨?_, s_.toBelow⟩
     refine ret1_ ?_
     unfold Cal.mdays
     simp_all
     try omega
    ·first | have p6_ := of_decide_eq_false c6_ | have p6_ := beq_eq_false_iff_ne.1 c6_ | have p6_ := bne_eq_false_iff_eq.1 c6_ | skip
     refine g6 ?_
     refine GC_cond rfl (fun c11_ => ?_) (fun c11_ => ?_)
     ·first | have p11_ := of_decide_eq_true c11_ | have p11_ := beq_iff_eq.1 c11_ | have p11_ := bne_iff_ne.1 c11_ | skip
      refine g3 ?_
      refine gL (cvo rfl (fun w_ s_ => yearDays_calls _ oM w_) ?_)
      refine g7 ?_
      refine GE_ret1 (.inl rfl) rfl (res_tmp rfl) fun w_ s_ => ⟨?_, s_.toBelow⟩
      refine ret1_ ?_
      unfold Cal.mdays
      simp_all
      try omega
     ·first | have p11_ := of_decide_eq_false c11_ | have p11_ := beq_eq_false_iff_ne.1 c11_ | have p11_ := bne_eq_false_iff_eq.1 c11_ | skip
      refine g9 ?_
      refine GE_ret1 (.inl rfl) rfl (res_tmp rfl) fun w_ s_ => ⟨?_, s_.toBelow⟩
      refine ret1_ ?_
      unfold Cal.mdays
      simp_all
      try omega
theorem daysOf_calls (y m d : Int) (h0 : 1 ≤ y ∧ y ≤ 1000000000) (hm : 1 ≤ m ∧ m ≤ 12) (hd : 0 ≤ d ∧ d ≤ 1000) (w : World) : Calls Go.Proofs.Tryz.prog 60 #[iV y, iV m, iV d] w fun e w' => e = .returned (iV (Cal.daysTo y + d - 1 + Cal.cum y (m - 1).toNat)) ∧ Below w.heap.size w w' := by
 refine calls_GC (args := [iV y, iV m, iV d]) (L := [(0, iV y), (1, iV m), (2, iV d)]) (N := 25) Tryz.func60 rfl rfl ble rfl (Sees.start (fun _ => False) w) ?_
 have hdt0 : 0 ≤ Cal.daysTo y ∧ Cal.daysTo y ≤ 400000000000 := by unfold Cal.daysTo; omega
 refine g8 ?_
 refine gL (cvo rfl (fun w_ s_ => newYear_calls _ oM w_) ?_)
 refine g13 ?_
 refine GC_loop (ι := (Nat)) (fun k => (m - 1).toNat - k) (fun k => ((k : Int) + 1 ≤ m)) (fun k => [(0, iV y), (1, iV m), (7, iV (Cal.daysTo y + d - 1 + Cal.cum y k)), (8, iV ((k : Int) + 1))]) (fun k => []) (fun k => []) (fun k => []) 0 (by show ((0 : Nat) : Int) + 1 ≤ m; omega) (fun a q => q.cons rfl (q.cons rfl (q.cons (by exact congrArg (fun n : Int => some (iV n)) (by simp [Cal.cum])) (q.cons rfl q.nil)))) (fun w s => by exact s) ?_
 rintro k hk
 show GC _ _ _ _ [(0, iV y), (1, iV m), (7, iV (Cal.daysTo y + d - 1 + Cal.cum y k)), (8, iV ((k : Int) + 1))] _ _ ([]) ([]) ([])
 have hcb := Cal.cum_bd y k
 have hmd := Cal.mdays_bd ((k : Int) + 1) y
 have hdt : 0 ≤ Cal.daysTo y ∧ Cal.daysTo y ≤ 400000000000 := by unfold Cal.daysTo; omega
 refine g8 ?_
 refine GC_cond rfl (fun hc1 => ?_) (fun hc2 => ?_)
 ·have hlt : (k : Int) + 1 < m := of_decide_eq_true hc1
  refine g8 ?_
  refine gL (cvo rfl (fun w_ s_ => smonthDays_calls _ _ oM w_) ?_)
  refine g10 ?_
  refine GE_back (k + 1) oM (by show ((k + 1 : Nat) : Int) + 1 ≤ m; omega) (fun a q => q.cons rfl (q.cons rfl (q.cons (by exact congrArg (fun n : Int => some (iV n)) (by simp only [Cal.cum]; omega)) (q.cons (by exact congrArg (fun n : Int => some (iV n)) oM) q.nil)))) (fun w s => by exact s)
 ·have hge : ¬ (k : Int) + 1 < m := of_decide_eq_false hc2
  obtain rfl : m = (k : Int) + 1 := by omega
  refine g12 ?_
  refine GE_ret1 (.inl rfl) rfl (res_tmp rfl) fun w_ s_ => ⟨?_, s_.toBelow⟩
  exact ret1_ (by rw [show ((k : Int) + 1 - 1).toNat = k by omega])
theorem equal_calls (p p' : Option Addr) (c c' : Nat) (l : List Int) (hl : l.length ≤ 1000000000) (w : World) (h : Ints w (.slice p l.length c) l) (h' : Ints w (.slice p' l.length c') l) : Calls Go.Proofs.Tryz.prog 23 #[.slice p l.length c, .slice p' l.length c'] w fun e w' => e = .returned (.bool true) ∧ Below w.heap.size w w' := by
 obtain ⟨p1, c1, e1, hc1_⟩ := h
 obtain ⟨p2, c2, e2, hc2_⟩ := h'
 injection e1 with e11 e12 e13
 injection e2 with e21 e22 e23
 subst e11 e21
 refine calls_GC (args := [.slice p l.length c, .slice p' l.length c']) (L := [(0, .slice p l.length c), (1, .slice p' l.length c')]) (N := 26) Tryz.func23 rfl rfl ble rfl (Sees.start (fun _ => False) w) ?_
 refine g15 ?_
 refine GC_is_false rfl (n_eq rfl) ?_
 refine g11 ?_
 refine GC_loop (ι := (Nat)) (fun k => l.length - k) (fun k => (k ≤ l.length)) (fun k => [(0, .slice p l.length c), (1, .slice p' l.length c'), (11, .slice p l.length c), (12, iV (l.length)), (13, iV k)]) (fun k => []) (fun k => []) (fun k => []) 0 (Nat.zero_le _) kns (fun w s => by exact s) ?_
 rintro k hk
 show GC _ _ _ _ [(0, .slice p l.length c), (1, .slice p' l.length c'), (11, .slice p l.length c), (12, iV (l.length)), (13, iV k)] _ _ ([]) ([]) ([])
 refine g6 ?_
 refine GC_cond rfl (fun hc1 => ?_) (fun hc2 => ?_)
 ·have hlt : k < l.length := by have := of_decide_eq_true hc1; omega
  obtain ⟨y, hy⟩ : ∃ y, l[k]? = some y := ⟨_, List.getElem?_eq_getElem hlt⟩
  obtain ⟨b, o, rfl, q1⟩ := hc1_ k y hy
  obtain ⟨b', o', rfl, q2⟩ := hc2_ k y hy
  refine g14 ?_
  refine rq (rd_indexAddr (e := 2) (n := 1) kR rfl rfl oM oM) ?_
  refine rq (rd_load_old rfl (by rw [← q1]; congr 2; omega) (fun h => h) kR) ?_
  refine g2 ?_
  refine rq (rd_indexAddr (e := 2) (n := 1) kR rfl rfl oM oM) ?_
  refine rq (rd_load_old rfl (by rw [← q2]; congr 2; omega) (fun h => h) kR) ?_
  refine g3 ?_
  refine GC_is_false rfl (n_eq rfl) ?_
  refine g7 ?_
  refine GE_back (k + 1) oM (by show k + 1 ≤ l.length; omega) kns (fun w s => by exact s)
 ·have hge : ¬ k < l.length := by have := of_decide_eq_false hc2; omega
  refine g11 ?_
  exact GE_ret1 (.inl rfl) rfl (res_tmp rfl) fun w_ s_ => ⟨rfl, s_.toBelow⟩
theorem sort_all {ts : List Int} (h : ts.length ≤ 1000000000) (F : Nat → Prop) (w0 : World) : SortOk F w0 ts := fun B H S p c w lim hrow hs => sort_calls (t := 2) dE h lim hrow w hs
end
end Go.Proofs.YtdbbifbmkfmbkaaGreat
namespace Go.Proofs.YtdbbifbmkfmbkaaGreat
open Go.RowKit Go.Fr Go.Tab
section
variable {F : Nat → Prop} {w0 : World} {B : List (Nat × Nat)} {H : List (Nat × Value)} {S : List (Nat × Slc)}
open Go.Md
theorem InL.see {w : World} {r : Rul} {x : Av} (s : Sees (fun _ => False) w0 B H S w) (h : InL w0 r x) : InL w r x :=
 ⟨ints_see s h.i9, ints_see s h.i10, ints_see s h.i11, ints_see s h.i12, ints_see s h.i13, prs_see s h.i14, ints_see s h.i15, ints_see s h.i16, ints_see s h.i17, ints_see s h.i18⟩
theorem index_calls (xs : List Int) (x : Int) (v : Value) (hl : xs.length ≤ 2147483647) (w : World) (hI : Ints w v xs) : Calls Go.Proofs.Tryz.prog 39 #[v, iV x] w fun e w' => ∃ i : Int, decide (0 ≤ i) = xs.any (· == x) ∧ e = .returned (iV i) ∧ Below w.heap.size w w' := by
 obtain ⟨p, c, rfl, hI⟩ := hI
 refine calls_GC (args := [.slice p xs.length c, iV x]) (L := [(0, .slice p xs.length c), (1, iV x)]) (N := 19) Tryz.func39 rfl rfl ble rfl (Sees.start (fun _ => False) w) ?_
 refine g14 ?_
 refine GC_loop (ι := (Nat)) (fun k => xs.length - k) (fun k => (k ≤ xs.length) ∧ ((xs.take k).any (· == x) = false)) (fun k => [(0, .slice p xs.length c), (1, iV x), (7, iV (xs.length)), (8, iV k)]) (fun k => []) (fun k => []) (fun k => []) 0 ⟨by omega, rfl⟩ kns (fun w s => by exact s) ?_
 rintro k ⟨hk, hn⟩
 show GC _ _ _ _ [(0, .slice p xs.length c), (1, iV x), (7, iV (xs.length)), (8, iV k)] _ _ ([]) ([]) ([])
 refine g6 ?_
 refine GC_cond rfl (fun hc1 => ?_) (fun hc2 => ?_)
 ·have hlt : k < xs.length := by have := of_decide_eq_true hc1; omega
  obtain ⟨y, hy⟩ : ∃ y, xs[k]? = some y := ⟨_, List.getElem?_eq_getElem hlt⟩
  obtain ⟨b, o, rfl, hcell⟩ := hI k y hy
  refine g15 ?_
  refine rl (rd_indexAddr (e := 3) (n := 1) kR rfl rfl oM oM) ?_
  refine rl (rd_load_old rfl (v := iV y) (by rw [← hcell]; congr 2; omega) (fun h => h) kR) ?_
  refine g3 ?_
  refine GC_cond rfl (fun hc1 => ?_) (fun hc2 => ?_)
  ·have hq : y = x := (beq_iff_eq.1 hc1).symm
   refine g12 ?_
   exact GE_ret1 (.inl rfl) rfl (res_tmp rfl) fun w_ s_ => ⟨_, by rw [decide_eq_true oM]; exact (List.any_eq_true.2 ⟨y, List.mem_of_getElem? hy, by rw [hq]; exact beq_self_eq_true _⟩).symm, rfl, s_.toBelow⟩
  ·have hne : y ≠ x := fun e => beq_eq_false_iff_ne.1 hc2 e.symm
   refine g7 ?_
   refine GE_back (k + 1) oM ⟨by omega, by rw [List.take_add_one, hy, List.any_append, hn]; simpa using hne⟩ kns (fun w s => by exact s)
 ·have hge : ¬ k < xs.length := by have := of_decide_eq_false hc2; omega
  refine g11 ?_
  exact GE_ret1 (.inl rfl) rfl (res_tmp rfl) fun w_ s_ => ⟨_, by rw [← List.take_length (l := xs), show xs.length = k by omega, hn]; rfl, rfl, s_.toBelow⟩
theorem scontains_calls (xs : List Int) (x : Int) (v : Value) (hl : xs.length ≤ 2147483647) (w : World) (hI : Ints w v xs) : Calls Go.Proofs.Tryz.prog 29 #[v, iV x] w fun e w' => e = .returned (.bool (xs.any (· == x))) ∧ Below w.heap.size w w' := by
 refine calls_GC (args := [v, iV x]) (L := [(0, v), (1, iV x)]) (N := 9) Tryz.func29 rfl rfl ble rfl (Sees.start (fun _ => False) w) ?_
 refine g9 ?_
 refine gL (cbx (fun i : Int => iV i) (fun i => decide (0 ≤ i) = xs.any (· == x)) rfl (fun w_ s_ => index_calls xs x v hl w_ (ints_see s_ hI)) (fun i hi => ?_))
 refine rl ((rd_geq rfl rfl).to (v' := .bool (xs.any (· == x))) (congrArg Value.bool hi)) ?_
 refine g4 ?_
 exact GE_ret1 (.inl rfl) rfl (res_tmp rfl) fun w_ s_ => ⟨rfl, s_.toBelow⟩
theorem indexD_calls (xs : List (Int × Int)) (x : Int × Int) (v : Value) (hl : xs.length ≤ 2147483647) (w : World) (hI : Prs w v xs) : Calls Go.Proofs.Tryz.prog 40 #[v, .agg #[iV x.1, iV x.2]] w fun e w' => ∃ i : Int, decide (0 ≤ i) = xs.any (· == x) ∧ e = .returned (iV i) ∧ Below w.heap.size w w' := by
 obtain ⟨p, c, rfl, hI⟩ := hI
 refine calls_GC (args := [.slice p xs.length c, .agg #[iV x.1, iV x.2]]) (L := [(0, .slice p xs.length c), (1, .agg #[iV x.1, iV x.2])]) (N := 19) Tryz.func40 rfl rfl ble rfl (Sees.start (fun _ => False) w) ?_
 refine g2 ?_
 refine gL (bxo 50 rfl rfl rfl (fun b1_ hbb1_ => ?_))
 refine g12 ?_
 refine GC_loop (ι := (Nat)) (fun k => xs.length - k) (fun k => (k ≤ xs.length) ∧ ((xs.take k).any (· == x) = false)) (fun k => [(0, .slice p xs.length c), (3, pT b1_), (7, iV (xs.length)), (8, iV k)]) (fun k => (50, b1_) :: []) (fun k => putKeys 50 0 [iV x.1, iV x.2] ++ []) (fun k => []) 0 ⟨by omega, rfl⟩ kns (fun w s => by exact s) ?_
 rintro k ⟨hk, hn⟩
 show GC _ _ _ _ [(0, .slice p xs.length c), (3, pT b1_), (7, iV (xs.length)), (8, iV k)] _ _ ((50, b1_) :: []) (putKeys 50 0 [iV x.1, iV x.2] ++ []) ([])
 refine g6 ?_
 refine GC_cond rfl (fun hc1 => ?_) (fun hc2 => ?_)
 ·have hlt : k < xs.length := by have := of_decide_eq_true hc1; omega
  obtain ⟨y, hy⟩ : ∃ y, xs[k]? = some y := ⟨_, List.getElem?_eq_getElem hlt⟩
  obtain ⟨b, o, rfl, hca, hcb⟩ := hI k y hy
  refine g12 ?_
  refine rq (rd_load2 50 rfl rfl rfl rfl kR dE) ?_
  refine g2 ?_
  refine rq (rd_indexAddr (e := 47) (n := 2) kR rfl rfl oM oM) ?_
  refine rq (rd_load2_old rfl (by rw [← hca]; congr 2; omega) (by rw [← hcb]; congr 2; omega) (fun h => h) kR) ?_
  refine rq ((rd_eq2 rfl rfl).to (v' := .bool (x == y)) rfl) ?_
  refine g2 ?_
  refine GC_cond rfl (fun hc1 => ?_) (fun hc2 => ?_)
  ·have hq : y = x := (beq_iff_eq.1 hc1).symm
   refine g12 ?_
   exact GE_ret1 (.inl rfl) rfl (res_tmp rfl) fun w_ s_ => ⟨_, by rw [decide_eq_true oM]; exact (List.any_eq_true.2 ⟨y, List.mem_of_getElem? hy, by rw [hq]; exact beq_self_eq_true _⟩).symm, rfl, s_.toBelow⟩
  ·have hne : y ≠ x := fun e => beq_eq_false_iff_ne.1 hc2 e.symm
   refine g7 ?_
   refine GE_back (k + 1) oM ⟨by omega, by rw [List.take_add_one, hy, List.any_append, hn]; simpa using hne⟩ kns (fun w s => by exact s)
 ·have hge : ¬ k < xs.length := by have := of_decide_eq_false hc2; omega
  refine g11 ?_
  exact GE_ret1 (.inl rfl) rfl (res_tmp rfl) fun w_ s_ => ⟨_, by rw [← List.take_length (l := xs), show xs.length = k by omega, hn]; rfl, rfl, s_.toBelow⟩
theorem containsD_calls (xs : List (Int × Int)) (x : Int × Int) (v : Value) (hl : xs.length ≤ 2147483647) (w : World) (hI : Prs w v xs) : Calls Go.Proofs.Tryz.prog 30 #[v, .agg #[iV x.1, iV x.2]] w fun e w' => e = .returned (.bool (xs.any (· == x))) ∧ Below w.heap.size w w' := by
 refine calls_GC (args := [v, .agg #[iV x.1, iV x.2]]) (L := [(0, v), (1, .agg #[iV x.1, iV x.2])]) (N := 9) Tryz.func30 rfl rfl ble rfl (Sees.start (fun _ => False) w) ?_
 refine g2 ?_
 refine gL (bxo 50 rfl rfl rfl (fun b1_ hbb1_ => ?_))
 refine g6 ?_
 refine rl (rd_load2 50 rfl rfl rfl rfl kR dE) ?_
 refine gL (cbx (fun i : Int => iV i) (fun i => decide (0 ≤ i) = xs.any (· == x)) rfl (fun w_ s_ => indexD_calls xs x v hl w_ (prs_see s_ hI)) (fun i hi => ?_))
 refine rl ((rd_geq rfl rfl).to (v' := .bool (xs.any (· == x))) (congrArg Value.bool hi)) ?_
 refine g4 ?_
 exact GE_ret1 (.inl rfl) rfl (res_tmp rfl) fun w_ s_ => ⟨rfl, s_.toBelow⟩
theorem sweekday_calls (x : Int) (h0 : 0 ≤ x) (w : World) : Calls Go.Proofs.Tryz.prog 31 #[iV x] w fun e w' => e = .returned (iV (x % 7)) ∧ Below w.heap.size w w' := by
 refine calls_GC (args := [iV x]) (L := [(0, iV x)]) (N := 5) Tryz.func31 rfl rfl ble rfl (Sees.start (fun _ => False) w) ?_
 refine g13 ?_
 refine GE_ret1 (.inl rfl) rfl (res_tmp rfl) fun w_ s_ => ⟨?_, s_.toBelow⟩
 rfl
theorem sclock_calls (x : Int) (h0 : 0 ≤ x ∧ x ≤ 1000000000000000) (w : World) : Calls Go.Proofs.Tryz.prog 98 #[iV x] w fun e w' => e = .returned (.tuple #[iV (x % 86400 / 3600), iV (x % 86400 / 60 % 60), iV (x % 86400 % 60)]) ∧ Below w.heap.size w w' := by
 refine calls_GC (args := [iV x]) (L := [(0, iV x)]) (N := 15) Tryz.func98 rfl rfl ble rfl (Sees.start (fun _ => False) w) ?_
 refine g25 ?_
 refine g4 ?_
 refine GE_ret3 (.inl rfl) rfl (res_tmp rfl) (res_tmp rfl) (res_tmp rfl) fun w_ s_ => ⟨?_, s_.toBelow⟩
 exact ret3_ rfl rfl rfl
theorem yearOf_of {d y : Int} (h1 : Cal.daysTo y ≤ d) (h2 : d < Cal.daysTo (y + 1)) : Cal.yearOf d = y := by
 have hs := Cal.split_spec d
 have hd1 : Cal.daysTo (Cal.yearOf d) ≤ d ∧ d < Cal.daysTo (Cal.yearOf d + 1) := by
  have := Cal.daysTo_succ (Cal.yearOf d)
  omega
 rcases Int.lt_trichotomy (Cal.yearOf d) y with h | h | h
 ·have := Cal.daysTo_mono (show Cal.yearOf d + 1 ≤ y by omega); omega
 ·exact h
 ·have := Cal.daysTo_mono (show y + 1 ≤ Cal.yearOf d by omega); omega
theorem civil_calls (d : Int) (h0 : 0 ≤ d ∧ d ≤ 100000000) (w : World) : Calls Go.Proofs.Tryz.prog 58 #[iV d] w fun e w' => e = .returned (.tuple #[iV (Cal.yearOf d), iV (Cal.monthOf d), iV (Cal.mdayOf d)]) ∧ Below w.heap.size w w' := by
 refine calls_GC (args := [iV d]) (L := [(0, iV d)]) (N := 35) Tryz.func58 rfl rfl ble rfl (Sees.start (fun _ => False) w) ?_
 refine g16 ?_
 refine g1 ?_
 refine GC_loop (ι := (Int)) (fun y => (d / 365 + 2 - y).toNat) (fun y => (1 ≤ y ∧ y ≤ d / 365 + 1) ∧ (Cal.daysTo y ≤ d)) (fun y => [(0, iV d), (2, iV y)]) (fun y => []) (fun y => []) (fun y => []) (d / 366 + 1) ⟨by omega, by unfold Cal.daysTo; omega⟩ kns (fun w s => by exact s) ?_
 rintro y ⟨hy1, hy⟩
 show GC _ _ _ _ [(0, iV d), (2, iV y)] _ _ ([]) ([]) ([])
 have hdy : 0 ≤ Cal.daysTo (y + 1) ∧ Cal.daysTo (y + 1) ≤ 400000000000 := by unfold Cal.daysTo; omega
 refine g5 ?_
 refine gL (cvo rfl (fun w_ s_ => newYear_calls _ oM w_) ?_)
 refine g4 ?_
 refine GC_cond rfl (fun hc1 => ?_) (fun hc2 => ?_)
 ·have hle : Cal.daysTo (y + 1) ≤ d := of_decide_eq_true hc1
  refine g9 ?_
  refine GE_back (y + 1) oM ⟨by have := hle; unfold Cal.daysTo at this; omega, hle⟩ kno (fun w s => by exact s)
 ·have hlt : d < Cal.daysTo (y + 1) := by have := of_decide_eq_false hc2; omega
  have hdy0 : 0 ≤ Cal.daysTo y := by unfold Cal.daysTo; omega
  refine g9 ?_
  refine gL (cvo rfl (fun w_ s_ => newYear_calls _ oM w_) ?_)
  refine g11 ?_
  have hYD := yearOf_of hy hlt
  have hsp := (Cal.split_spec d).2
  have hs1 := (Cal.split_spec d).1
  rw [hYD] at hsp hs1
  refine GC_loop (ι := (Nat) × (Int) × (Int)) (fun | ⟨j, m, q⟩ => 12 - j) (fun | ⟨j, m, q⟩ => (j ≤ 11) ∧ (m = j + 1) ∧ (q = Cal.ydayOf d - Cal.cum y j) ∧ (Cal.cum y j ≤ Cal.ydayOf d)) (fun | ⟨j, m, q⟩ => [(2, iV y), (3, iV m), (4, iV q)]) (fun | ⟨j, m, q⟩ => []) (fun | ⟨j, m, q⟩ => []) (fun | ⟨j, m, q⟩ => []) ⟨0, 1, d - Cal.daysTo y⟩ ⟨by omega, by omega, by simp only [Cal.cum]; omega, by simp only [Cal.cum]; omega⟩ kns (fun w s => by exact s) ?_
  rintro ⟨j, m, q⟩ ⟨hj, hm, hq, hc⟩
  show GC _ _ _ _ [(2, iV y), (3, iV m), (4, iV q)] _ _ ([]) ([]) ([])
  have hmd := Cal.mdays_bd m y
  have hcs : Cal.cum y (j + 1) = Cal.cum y j + Cal.mdays m y := by rw [hm]; rfl
  have hc0 := Cal.cum_mono y 0 j (Nat.zero_le _)
  simp only [Cal.cum] at hc0
  have hlp := Cal.lp_01 y
  refine g6 ?_
  refine gL (cvo rfl (fun w_ s_ => smonthDays_calls _ _ oM w_) ?_)
  refine g3 ?_
  refine GC_cond rfl (fun hc1 => ?_) (fun hc2 => ?_)
  ·have hge : Cal.mdays m y ≤ q := of_decide_eq_true hc1
   have hnx : Cal.cum y (j + 1) ≤ Cal.ydayOf d := by omega
   have hj1 : j + 1 ≤ 11 := by
    rcases Nat.lt_or_ge j 11 with h | h
    ·omega
    ·exfalso; obtain rfl : j = 11 := by omega
     rw [Cal.cum_12] at hnx; omega
   refine g8 ?_
   refine gL (cvo rfl (fun w_ s_ => smonthDays_calls _ _ oM w_) ?_)
   refine g10 ?_
   refine GE_back ⟨j + 1, m + 1, q - Cal.mdays m y⟩ sO ⟨by omega, by omega, by rw [hcs]; omega, hnx⟩ kns (fun w s => by exact s)
  ·have hlt2 : ¬ Cal.mdays m y ≤ q := of_decide_eq_false hc2
   have hfin := Cal.mon_unique (y := y) (D := Cal.ydayOf d) hj hc oM
   refine g16 ?_
   refine g1 ?_
   refine GE_ret3 (.inl rfl) rfl (res_tmp rfl) (res_tmp rfl) (res_tmp rfl) fun w_ s_ => ⟨?_, s_.toBelow⟩
   unfold Cal.monthOf Cal.mdayOf
   rw [hYD, hfin]
   exact ret3_ rfl hm sO
end
end Go.Proofs.YtdbbifbmkfmbkaaGreat
namespace Go.Proofs.YtdbbifbmkfmbkaaGreat
open Go.RowKit Go.Fr Go.Tab
section
variable {F : Nat → Prop} {w0 : World} {B : List (Nat × Nat)} {H : List (Nat × Value)} {S : List (Nat × Slc)}
open Go.Md
theorem ints_take {w : World} {p : Option Addr} {c : Nat} {xs : List Int} {k : Nat} (h : Ints w (.slice p xs.length c) xs) (hk : k ≤ xs.length) : Ints w (.slice p k c) (xs.take k) := by
 obtain ⟨p', c', e, hc⟩ := h
 injection e with e1 _ e3
 subst e1 e3
 refine ⟨p, c, by rw [List.length_take, Nat.min_eq_left hk], fun i x hx => ?_⟩
 rw [List.getElem?_take] at hx
 split at hx
 ·exact hc i x hx
 ·cases hx
def okR (a b : Int) (m : Bool) (x : Int) : Bool := if m = true ∧ x < 0 then decide (-b ≤ x) && (decide (a ≤ -x) && decide (-x ≤ b)) else decide (a ≤ x) && decide (x ≤ b)
def inRF (l : List Int) (a b : Int) (m : Bool) : Bool := ((List.range l.length).all fun i => okR a b m (l.getD i 0) && !((l.take i).any (· == l.getD i 0))) && decide (l.length ≤ 100)
theorem all_succ (p : Nat → Bool) (k : Nat) : (List.range (k + 1)).all p = ((List.range k).all p && p k) := by rw [List.range_succ, List.all_append]; simp
theorem all_false {p : Nat → Bool} {k n : Nat} (hk : k < n) (h : p k = false) : (List.range n).all p = false := by
 rw [Bool.eq_false_iff]
 intro h2
 rw [List.all_eq_true] at h2
 have := h2 k (by simpa using hk)
 rw [h] at this; cases this
theorem inRange_calls (xs : List Int) (p : Option Addr) (c : Nat) (a b : Int) (m : Bool) (hcap : xs.length ≤ c) (ha : 0 ≤ a ∧ a ≤ 1000) (hb : 0 ≤ b ∧ b ≤ 1000) (hl : xs.length ≤ 2147483647) (w : World) (hI0 : Ints w (.slice p xs.length c) xs) : Calls Go.Proofs.Tryz.prog 28 #[.slice p xs.length c, iV a, iV b, .bool m] w fun e w' => e = .returned (.bool (inRF xs a b m)) ∧ Below w.heap.size w w' := by
 have hI : ∀ i x, xs[i]? = some x → ∃ b o, p = some ⟨b, o, none⟩ ∧ w.cell? ⟨b, o + i, none⟩ = some (iV x) := by
  obtain ⟨p', c', e, hc⟩ := hI0
  injection e with e1 _ _
  subst e1
  exact hc
 refine calls_GC (args := [.slice p xs.length c, iV a, iV b, .bool m]) (L := [(0, .slice p xs.length c), (1, iV a), (2, iV b), (3, .bool m)]) (N := 50) Tryz.func28 rfl rfl ble rfl (Sees.start (fun _ => False) w) ?_
 refine g14 ?_
 refine GC_loop (ι := (Nat)) (fun k => xs.length - k) (fun k => (k ≤ xs.length) ∧ ((List.range k).all (fun i => okR a b m (xs.getD i 0) && !((xs.take i).any (· == xs.getD i 0))) = true)) (fun k => [(0, .slice p xs.length c), (1, iV a), (2, iV b), (3, .bool m), (12, .slice p xs.length c), (13, iV (xs.length)), (14, iV k)]) (fun k => []) (fun k => []) (fun k => []) 0 ⟨by omega, rfl⟩ kns (fun w s => by exact s) ?_
 rintro k ⟨hk, hn⟩
 show GC _ _ _ _ [(0, .slice p xs.length c), (1, iV a), (2, iV b), (3, .bool m), (12, .slice p xs.length c), (13, iV (xs.length)), (14, iV k)] _ _ ([]) ([]) ([])
 refine g6 ?_
 refine GC_cond rfl (fun hc1 => ?_) (fun hc2 => ?_)
 ·have hlt : k < xs.length := by have := of_decide_eq_true hc1; omega
  obtain ⟨y, hy⟩ : ∃ y, xs[k]? = some y := ⟨_, List.getElem?_eq_getElem hlt⟩
  have hgd : xs.getD k 0 = y := by rw [List.getD_eq_getElem?_getD, hy]; rfl
  obtain ⟨b_, o, rfl, hcell⟩ := hI k y hy
  refine g7 ?_
  refine rl (rd_indexAddr (e := 3) (n := 1) kR rfl rfl oM oM) ?_
  refine rl (rd_load_old rfl (v := iV y) (by rw [← hcell]; congr 2; omega) (fun h => h) kR) ?_
  refine g10 ?_
  refine GC_cut (ι := (Int)) (fun nn => (okR a b m y = (decide (a ≤ nn) && decide (nn ≤ b)))) (fun nn => [(0, .slice (some ⟨b_, o, none⟩) xs.length c), (1, iV a), (2, iV b), (3, .bool m), (12, .slice (some ⟨b_, o, none⟩) xs.length c), (13, iV (xs.length)), (14, iV k), (9, iV k), (10, iV y), (11, iV nn)]) (fun nn => []) (fun nn => []) (fun nn => []) ?_ ?_
  ·refine g3 ?_
   rcases Decidable.em (y < 0) with hneg | hneg
   ·refine rl ((rd_lss rfl rfl).to bT) ?_
    refine g2 ?_
    rcases Bool.eq_false_or_eq_true (m) with hm | hm
    ·refine rl ((rd_move rfl).to (v' := .bool true) (congrArg Value.bool hm)) ?_
     refine g3 ?_
     refine GC_is_true rfl rfl ?_
     refine g9 ?_
     refine GC_cond rfl (fun hc1 => ?_) (fun hc2 => ?_)
     ·have hlb : y < -b := of_decide_eq_true hc1
      have hF : inRF xs a b m = false := by unfold inRF; rw [(all_false (p := (fun i => okR a b m (xs.getD i 0) && !((xs.take i).any (· == xs.getD i 0)))) hlt (by rw [hgd, show okR a b m y = false from by unfold okR; rw [if_pos ⟨hm, hneg⟩, decide_eq_false (show ¬ -b ≤ y by omega)]; rfl]; first | done | simp))]; rfl
      refine g13 ?_
      exact GE_ret1 (.inl rfl) rfl (res_tmp rfl) fun w_ s_ => ⟨by rw [hF], s_.toBelow⟩
     ·have hlb : ¬ y < -b := of_decide_eq_false hc2
      refine g7 ?_
      refine GE_meet (ι := Int) (-y) (by unfold okR; rw [if_pos ⟨hm, hneg⟩, decide_eq_true (show -b ≤ y by omega)]; rfl) kno (fun w s => s)
    ·refine rl ((rd_move rfl).to (v' := .bool false) (congrArg Value.bool hm)) ?_
     refine g3 ?_
     refine GC_is_false rfl rfl ?_
     refine g1 ?_
     refine GE_meet (ι := Int) (y) (by unfold okR; rw [if_neg (fun h => by rw [hm] at h; cases h.1)]) kno (fun w s => s)
   ·refine rl ((rd_lss rfl rfl).to bF) ?_
    refine g5 ?_
    refine GC_is_false rfl rfl ?_
    refine g1 ?_
    refine GE_meet (ι := Int) (y) (by unfold okR; rw [if_neg (fun h => hneg h.2)]) kno (fun w s => s)
  rintro nn hnn
  show GC _ _ _ _ [(0, .slice (some ⟨b_, o, none⟩) xs.length c), (1, iV a), (2, iV b), (3, .bool m), (12, .slice (some ⟨b_, o, none⟩) xs.length c), (13, iV (xs.length)), (14, iV k), (9, iV k), (10, iV y), (11, iV nn)] _ _ ([]) ([]) ([])
  refine g4 ?_
  rcases Decidable.em (nn < a) with hlo | hlo
  ·have hF : inRF xs a b m = false := by unfold inRF; rw [(all_false (p := (fun i => okR a b m (xs.getD i 0) && !((xs.take i).any (· == xs.getD i 0)))) hlt (by rw [hgd, hnn, decide_eq_false (show ¬ a ≤ nn by omega)]; first | done | simp))]; rfl
   refine rl ((rd_lss rfl rfl).to bT) ?_
   refine g14 ?_
   refine GC_is_true rfl rfl ?_
   refine g11 ?_
   exact GE_ret1 (.inl rfl) rfl (res_tmp rfl) fun w_ s_ => ⟨by rw [hF], s_.toBelow⟩
  ·have hok1 : decide (a ≤ nn) = true := decide_eq_true oM
   refine rl ((rd_lss rfl rfl).to bF) ?_
   refine g6 ?_
   rcases Decidable.em (b < nn) with hhi | hhi
   ·have hF : inRF xs a b m = false := by unfold inRF; rw [(all_false (p := (fun i => okR a b m (xs.getD i 0) && !((xs.take i).any (· == xs.getD i 0)))) hlt (by rw [hgd, hnn, decide_eq_false (show ¬ nn ≤ b by omega), Bool.and_false]; first | done | simp))]; rfl
    refine rl ((rd_gtr rfl rfl).to bT) ?_
    refine g10 ?_
    refine GC_is_true rfl rfl ?_
    refine g11 ?_
    exact GE_ret1 (.inl rfl) rfl (res_tmp rfl) fun w_ s_ => ⟨by rw [hF], s_.toBelow⟩
   ·have hok2 : decide (nn ≤ b) = true := decide_eq_true oM
    refine rl ((rd_gtr rfl rfl).to bF) ?_
    refine g7 ?_
    refine rl ((rd_slice_upto (e := 3) (n := 1) kR rfl rfl oM oM).to (v' := .slice (some ⟨b_, o, none⟩) k c) rfl) ?_
    refine g3 ?_
    rcases Bool.eq_false_or_eq_true ((xs.take k).any (· == y)) with hno | hno
    ·have hF : inRF xs a b m = false := by unfold inRF; rw [(all_false (p := (fun i => okR a b m (xs.getD i 0) && !((xs.take i).any (· == xs.getD i 0)))) hlt (by rw [hgd, hno, Bool.not_true, Bool.and_false]; first | done | simp))]; rfl
     refine gL (cvo (v := .bool true) rfl (fun w_ s_ => (scontains_calls (xs.take k) y _ (by rw [List.length_take]; omega) w_ (ints_take (ints_see s_ hI0) (Nat.le_of_lt hlt))).mono fun e_ w2_ h_ => ⟨h_.1.trans (congrArg (fun b => Ending.returned (Value.bool b)) hno), h_.2⟩) ?_)
     refine g3 ?_
     refine GC_is_true rfl rfl ?_
     refine g11 ?_
     exact GE_ret1 (.inl rfl) rfl (res_tmp rfl) fun w_ s_ => ⟨by rw [hF], s_.toBelow⟩
    ·refine gL (cvo (v := .bool false) rfl (fun w_ s_ => (scontains_calls (xs.take k) y _ (by rw [List.length_take]; omega) w_ (ints_take (ints_see s_ hI0) (Nat.le_of_lt hlt))).mono fun e_ w2_ h_ => ⟨h_.1.trans (congrArg (fun b => Ending.returned (Value.bool b)) hno), h_.2⟩) ?_)
     refine g3 ?_
     refine GC_is_false rfl rfl ?_
     refine g7 ?_
     refine GE_back (k + 1) oM ⟨by omega, by rw [all_succ, hn, hgd, hnn, hok1, hok2, hno]; rfl⟩ kns (fun w s => by exact s)
 ·obtain rfl : k = xs.length := by have := of_decide_eq_false hc2; omega
  have hF : inRF xs a b m = decide ((xs.length : Int) ≤ 100) := by unfold inRF; rw [hn, Bool.true_and]; exact decide_eq_decide.2 oM
  refine g14 ?_
  exact GE_ret1 (.inl rfl) rfl (res_tmp rfl) fun w_ s_ => ⟨by rw [hF], s_.toBelow⟩
theorem b_eqN {a b : Nat} (h : a = b) : (a == b) = true := beq_iff_eq.2 h
theorem b_neN {a b : Nat} (h : ¬ a = b) : (a == b) = false := beq_eq_false_iff_ne.2 h
theorem samong_calls (xs : List Int) (x : Int) (v : Value) (hl : xs.length ≤ 2147483647) (w : World) (hI0 : Ints w v xs) : Calls Go.Proofs.Tryz.prog 41 #[v, iV x] w fun e w' => e = .returned (.bool (amongB xs x)) ∧ Below w.heap.size w w' := by
 obtain ⟨p, c, rfl, hI⟩ := id hI0
 refine calls_GC (args := [.slice p xs.length c, iV x]) (L := [(0, .slice p xs.length c), (1, iV x)]) (N := 13) Tryz.func41 rfl rfl ble rfl (Sees.start (fun _ => False) w) ?_
 refine g9 ?_
 rcases Decidable.em (xs.length = 0) with h0 | h0
 ·have hF : amongB xs x = true := by unfold amongB; rw [b_eqN h0]; rfl
  refine rl ((rd_eql rfl rfl).to eT) ?_
  refine g9 ?_
  exact GE_ret1 (.inl rfl) rfl (res_tmp rfl) fun w_ s_ => ⟨by rw [hF]; rfl, s_.toBelow⟩
 ·refine rl ((rd_eql rfl rfl).to eF) ?_
  refine g6 ?_
  rcases Bool.eq_false_or_eq_true (xs.any (· == x)) with ha | ha
  ·have hF : amongB xs x = true := by unfold amongB; rw [ha, Bool.or_true]
   refine gL (cvo (v := .bool true) rfl (fun w_ s_ => (scontains_calls xs x _ hl w_ (ints_see s_ hI0)).mono fun e_ w2_ h_ => ⟨h_.1.trans (congrArg (fun b => Ending.returned (Value.bool b)) ha), h_.2⟩) ?_)
   refine g5 ?_
   exact GE_ret1 (.inl rfl) rfl (res_tmp rfl) fun w_ s_ => ⟨by rw [hF]; rfl, s_.toBelow⟩
  ·have hF : amongB xs x = false := by unfold amongB; rw [ha, b_neN h0]; rfl
   refine gL (cvo (v := .bool false) rfl (fun w_ s_ => (scontains_calls xs x _ hl w_ (ints_see s_ hI0)).mono fun e_ w2_ h_ => ⟨h_.1.trans (congrArg (fun b => Ending.returned (Value.bool b)) ha), h_.2⟩) ?_)
   refine g5 ?_
   exact GE_ret1 (.inl rfl) rfl (res_tmp rfl) fun w_ s_ => ⟨by rw [hF]; rfl, s_.toBelow⟩
def lastF (r : Rul) : Int := if r.hasUntil = true then r.untl else r.start + 9223372036
theorem lastOf_calls (r : Rul) (x : Av) (hs : 0 ≤ r.start ∧ r.start ≤ 1000000000000) (w : World) : Calls Go.Proofs.Tryz.prog 54 #[.agg (rulC r x).toArray] w fun e w' => e = .returned (iV (lastF r)) ∧ Below w.heap.size w w' := by
 refine calls_GC (args := [.agg (rulC r x).toArray]) (L := [(0, .agg (rulC r x).toArray)]) (N := 10) Tryz.func54 rfl rfl ble rfl (Sees.start (fun _ => False) w) ?_
 refine g2 ?_
 refine gL (at_box 50 (cs := rulC r x) dE rfl rfl rfl (fun o ho => rfl) ble (fun b1 hb1 => ?_))
 refine g6 ?_
 refine rl (rfa 6) ?_
 refine rl (rld 50 rfl rfl rfl) ?_
 refine g2 ?_
 refine GC_cond rfl (fun hc1 => ?_) (fun hc2 => ?_)
 ·have hF : lastF r = r.untl := by unfold lastF; rw [if_pos hc1]
  refine g2 ?_
  refine rl (rfa 7) ?_
  refine rl (rld 50 rfl rfl rfl) ?_
  refine g5 ?_
  exact GE_ret1 (.inl rfl) rfl (res_tmp rfl) fun w_ s_ => ⟨by rw [hF], s_.toBelow⟩
 ·have hF : lastF r = r.start + 9223372036 := by unfold lastF; rw [if_neg (by rw [hc2]; decide)]
  refine g4 ?_
  refine rl (rfa 2) ?_
  refine rl (rld 50 rfl rfl rfl) ?_
  refine g5 ?_
  exact GE_ret1 (.inl rfl) rfl (res_tmp rfl) fun w_ s_ => ⟨by rw [hF], s_.toBelow⟩
end
end Go.Proofs.YtdbbifbmkfmbkaaGreat
namespace Go.Proofs.YtdbbifbmkfmbkaaGreat
open Go.RowKit Go.Fr Go.Tab
section
variable {F : Nat → Prop} {w0 : World} {B : List (Nat × Nat)} {H : List (Nat × Value)} {S : List (Nat × Slc)}
open Go.Md
def posB (at_ : List Int) (n i : Nat) : Bool := at_.any (· == (i : Int) + 1) || at_.any (· == (i : Int) - n)
def posTo (l at_ : List Int) (k : Nat) : List Int := ((List.range k).filter (posB at_ l.length)).map fun i => l.getD i 0
def posF (l at_ : List Int) : List Int := if at_.length = 0 then l else posTo l at_ l.length
theorem posTo_succ (l at_ : List Int) (k : Nat) : posTo l at_ (k + 1) = posTo l at_ k ++ if posB at_ l.length k = true then [l.getD k 0] else [] := by
 unfold posTo
 rw [List.range_succ, List.filter_append, List.map_append]
 cases h : posB at_ l.length k <;> simp [h]
theorem posTo_le (l at_ : List Int) (k : Nat) : (posTo l at_ k).length ≤ k := by
 unfold posTo
 rw [List.length_map]
 exact Nat.le_trans (List.length_filter_le _ _) (by simp)
theorem positions_calls (l at_ : List Int) (p0 : Option Addr) (c0 : Nat) (v : Value) (hl : l.length ≤ 1000000000) (ha : at_.length ≤ 2147483647) (w : World) (hI0 : Ints w (.slice p0 l.length c0) l) (hA : Ints w v at_) : Calls Go.Proofs.Tryz.prog 57 #[.slice p0 l.length c0, v] w fun e w' => ∃ p c, e = .returned (.slice p (posF l at_).length c) ∧ ((at_.length = 0 ∧ p = p0 ∧ c = c0 ∧ Below w.heap.size w w') ∨ (at_.length ≠ 0 ∧ NewRow w w' (.slice p (posF l at_).length c) 2 1 (posF l at_).length ((posF l at_).map iV))) := by
 have hI : ∀ i x, l[i]? = some x → ∃ b o, p0 = some ⟨b, o, none⟩ ∧ w.cell? ⟨b, o + i, none⟩ = some (iV x) := by
  obtain ⟨p', c', e, hc⟩ := hI0
  injection e with e1 _ _
  subst e1
  exact hc
 obtain ⟨pa, ca, rfl, _⟩ := id hA
 refine calls_GC (args := [.slice p0 l.length c0, .slice pa at_.length ca]) (L := [(0, .slice p0 l.length c0), (1, .slice pa at_.length ca)]) (N := 37) Tryz.func57 rfl rfl ble rfl (Sees.start (fun _ => False) w) ?_
 refine g10 ?_
 rcases Decidable.em (at_.length = 0) with h0 | h0
 ·refine rl ((rd_eql rfl rfl).to eT) ?_
  refine g2 ?_
  refine GC_is_true rfl rfl ?_
  refine g8 ?_
  exact GE_ret1 (.inl rfl) rfl (res_tmp rfl) fun w_ s_ => ⟨p0, c0, by unfold posF; rw [if_pos h0], .inl ⟨h0, rfl, rfl, s_.toBelow⟩⟩
 ·refine rl ((rd_eql rfl rfl).to eF) ?_
  refine g2 ?_
  refine GC_is_false rfl rfl ?_
  refine g16 ?_
  refine GC_loop (ι := (Nat) × (List Int) × (Option Addr) × (Nat) × (Nat) × (List Value)) (fun | ⟨k, acc, p, c, n, xs⟩ => l.length - k) (fun | ⟨k, acc, p, c, n, xs⟩ => (k ≤ l.length) ∧ (acc = posTo l at_ k) ∧ (n = acc.length) ∧ (xs = acc.map iV) ∧ (n ≤ k)) (fun | ⟨k, acc, p, c, n, xs⟩ => [(0, .slice p0 l.length c0), (1, .slice pa at_.length ca), (5, .slice p n c), (12, .slice p0 l.length c0), (13, iV (l.length)), (14, iV k)]) (fun | ⟨k, acc, p, c, n, xs⟩ => []) (fun | ⟨k, acc, p, c, n, xs⟩ => []) (fun | ⟨k, acc, p, c, n, xs⟩ => [(11, ⟨.slice p n c, 2, 1, n, xs⟩)]) ⟨0, [], none, 0, 0, []⟩ ⟨Nat.zero_le _, rfl, rfl, rfl, Nat.le_refl _⟩ kns (fun w s => by exact s.nilRow 11 2 1) ?_
  rintro ⟨k, acc, p, c, n, xs⟩ ⟨hk, hacc, hn, hx, hnk⟩
  show GC _ _ _ _ [(0, .slice p0 l.length c0), (1, .slice pa at_.length ca), (5, .slice p n c), (12, .slice p0 l.length c0), (13, iV (l.length)), (14, iV k)] _ _ ([]) ([]) ([(11, ⟨.slice p n c, 2, 1, n, xs⟩)])
  refine g6 ?_
  refine GC_cond rfl (fun hc1 => ?_) (fun hc2 => ?_)
  ·have hlt : k < l.length := by have := of_decide_eq_true hc1; omega
   obtain ⟨y, hy⟩ : ∃ y, l[k]? = some y := ⟨_, List.getElem?_eq_getElem hlt⟩
   have hgd : l.getD k 0 = y := by rw [List.getD_eq_getElem?_getD, hy]; rfl
   obtain ⟨b_, o, hp0, hcell⟩ := hI k y hy
   have hps := posTo_succ l at_ k
   rw [← hacc, hgd] at hps
   refine g7 ?_
   refine rl (rd_indexAddr (e := 2) (n := 1) kR (congrArg (fun p => some (Value.slice p _ _)) hp0) rfl oM oM) ?_
   refine rl (rd_load_old rfl (v := iV y) (by rw [← hcell]; congr 2; omega) (fun h => h) kR) ?_
   refine g9 ?_
   rcases Bool.eq_false_or_eq_true (at_.any (· == (k : Int) + 1)) with hq1 | hq1
   ·refine gL (cvo (v := .bool true) rfl (fun w_ s_ => (scontains_calls at_ _ _ ha w_ (ints_see s_ hA)).mono fun e_ w2_ h_ => ⟨h_.1.trans (congrArg (fun b => Ending.returned (Value.bool b)) hq1), h_.2⟩) ?_)
    refine g10 ?_
    refine GC_is_true rfl rfl ?_
    refine g3 ?_
    refine gL (at_one_ 60 (e := 2) (sz := 1) (by_ := 8) (zs := [iV 0]) dE kR rfl dE dE rfl rfl rfl (fun bo => ?_))
    refine gL (at_append 11 60 (e := 2) (sz := 1) (by_ := 8) (zs := [iV 0]) dE kR rfl dE rfl rfl rfl rfl ⟨rfl, rfl⟩ ⟨rfl, rfl⟩ (ints_one (xs := [y])) sO sO (fun p' c' => ?_))
    refine g8 ?_
    refine GE_back ⟨k + 1, acc ++ [y], p', c', n + 1, xs ++ [iV y]⟩ sO ⟨by omega, by rw [hps, if_pos (by unfold posB; rw [hq1, Bool.true_or])], by rw [List.length_append, hn]; rfl, by rw [hx]; simp, by omega⟩ kns (fun w s => by exact s.low 40 ((Lim.nil).consS dE) agx agx agx)
   ·refine gL (cvo (v := .bool false) rfl (fun w_ s_ => (scontains_calls at_ _ _ ha w_ (ints_see s_ hA)).mono fun e_ w2_ h_ => ⟨h_.1.trans (congrArg (fun b => Ending.returned (Value.bool b)) hq1), h_.2⟩) ?_)
    refine g12 ?_
    rcases Bool.eq_false_or_eq_true (at_.any (· == (k : Int) - l.length)) with hq2 | hq2
    ·refine gL (cvo (v := .bool true) rfl (fun w_ s_ => (scontains_calls at_ _ _ ha w_ (ints_see s_ hA)).mono fun e_ w2_ h_ => ⟨h_.1.trans (congrArg (fun b => Ending.returned (Value.bool b)) hq2), h_.2⟩) ?_)
     refine g3 ?_
     refine GC_is_true rfl rfl ?_
     refine g3 ?_
     refine gL (at_one_ 60 (e := 2) (sz := 1) (by_ := 8) (zs := [iV 0]) dE kR rfl dE dE rfl rfl rfl (fun bo => ?_))
     refine gL (at_append 11 60 (e := 2) (sz := 1) (by_ := 8) (zs := [iV 0]) dE kR rfl dE rfl rfl rfl rfl ⟨rfl, rfl⟩ ⟨rfl, rfl⟩ (ints_one (xs := [y])) sO sO (fun p' c' => ?_))
     refine g8 ?_
     refine GE_back ⟨k + 1, acc ++ [y], p', c', n + 1, xs ++ [iV y]⟩ sO ⟨by omega, by rw [hps, if_pos (by unfold posB; rw [hq2, Bool.or_true])], by rw [List.length_append, hn]; rfl, by rw [hx]; simp, by omega⟩ kns (fun w s => by exact s.low 40 ((Lim.nil).consS dE) agx agx agx)
    ·refine gL (cvo (v := .bool false) rfl (fun w_ s_ => (scontains_calls at_ _ _ ha w_ (ints_see s_ hA)).mono fun e_ w2_ h_ => ⟨h_.1.trans (congrArg (fun b => Ending.returned (Value.bool b)) hq2), h_.2⟩) ?_)
     refine g3 ?_
     refine GC_is_false rfl rfl ?_
     refine g7 ?_
     refine GE_back ⟨k + 1, acc, p, c, n, xs⟩ sO ⟨by omega, by rw [hps, if_neg (by unfold posB; rw [hq1, hq2]; decide), List.append_nil], hn, hx, by omega⟩ kns (fun w s => by exact s.low 40 ((Lim.nil).consS dE) agx agx agx)
  ·have hge : ¬ k < l.length := by have := of_decide_eq_false hc2; omega
   refine g12 ?_
   have hF : posF l at_ = acc := by unfold posF; rw [if_neg h0, hacc, show l.length = k by omega]
   rw [hF]
   subst hn hx
   exact GE_ret1 (.inl rfl) rfl (res_tmp rfl) fun w_ s_ => ⟨p, c, rfl, .inr ⟨h0, Sees.toNew (k := 11) s_ rfl⟩⟩
end
end Go.Proofs.YtdbbifbmkfmbkaaGreat
namespace Go.Proofs.YtdbbifbmkfmbkaaGreat
open Go.RowKit Go.Fr Go.Tab
section
variable {F : Nat → Prop} {w0 : World} {B : List (Nat × Nat)} {H : List (Nat × Value)} {S : List (Nat × Slc)}
open Go.Md
def wo (fr lg at_ many : Int) : Bool := decide (at_ + many ≤ fr) || decide (fr + lg ≤ at_)
theorem without_calls {fb lb : Nat} {fr lg : Int} (hB1 : lkp 51 B = some fb) (hB2 : lkp 52 B = some lb) (h1 : lkp (ky 51 0) H = some (iV fr)) (h2 : lkp (ky 52 0) H = some (iV lg)) (hf : 0 ≤ fr ∧ fr ≤ 1000000000000) (hg : 0 ≤ lg ∧ lg ≤ 100000) (a m : Int) (ha : 0 ≤ a ∧ a ≤ 1000000000000) (hm : 0 ≤ m ∧ m ≤ 100000) :
  ∀ w, Sees F w0 B H S w → Calls Go.Proofs.Tryz.prog 103 #[iV a, iV m, pT fb, pT lb] w fun e w' => ∃ _u : Unit, True ∧ e = .returned (.bool (wo fr lg a m)) ∧ Sees F w0 B H S w' := by
 intro w s
 refine calls_GC (args := [iV a, iV m, pT fb, pT lb]) (L := [(0, iV a), (1, iV m), (2, pT fb), (3, pT lb)]) (N := 19) Tryz.func103 rfl rfl ble rfl s ?_
 refine g10 ?_
 refine rl (rld 51 rfl hB1 h1) ?_
 rcases Decidable.em (a + m ≤ fr) with hq | hq
 ·have hF : wo fr lg a m = true := by unfold wo; rw [decide_eq_true hq]; rfl
  refine rl ((rd_leq rfl rfl).to bT) ?_
  refine g11 ?_
  refine GE_ret1 (.inl rfl) rfl (res_tmp rfl) fun w_ s_ => ⟨(), trivial, ?_, s_⟩
  rw [hF]
  rfl
 ·have hF : wo fr lg a m = decide (fr + lg ≤ a) := by unfold wo; rw [decide_eq_false hq]; rfl
  refine rl ((rd_leq rfl rfl).to bF) ?_
  refine g4 ?_
  refine rl (rld 51 rfl hB1 h1) ?_
  refine g1 ?_
  refine rl (rld 52 rfl hB2 h2) ?_
  refine g9 ?_
  refine GE_ret1 (.inl rfl) rfl (res_tmp rfl) fun w_ s_ => ⟨(), trivial, ?_, s_⟩
  rw [hF]
  rfl
def ckTo (ss : List Int) (fr lg b : Int) (k : Nat) : List Int := ((List.range k).filter fun (s : Nat) => amongB ss s && !wo fr lg (b + s) 1).map fun (s : Nat) => b + (s : Int)
def cmTo (ms ss : List Int) (fr lg b : Int) (k : Nat) : List Int := (List.range k).flatMap fun (m : Nat) => if amongB ms m && !wo fr lg (b + m * 60) 60 then ckTo ss fr lg (b + m * 60) 60 else []
def chTo (hs ms ss : List Int) (fr lg b : Int) (k : Nat) : List Int := (List.range k).flatMap fun (h : Nat) => if amongB hs h && !wo fr lg (b + h * 3600) 3600 then cmTo ms ss fr lg (b + h * 3600) 60 else []
def clockF (hs ms ss : List Int) (day fr lg : Int) : List Int := chTo hs ms ss fr lg (day * 86400) 24
theorem ckTo_succ (ss : List Int) (fr lg b : Int) (k : Nat) : ckTo ss fr lg b (k + 1) = ckTo ss fr lg b k ++ if amongB ss k && !wo fr lg (b + k) 1 then [b + (k : Int)] else [] := by
 unfold ckTo
 rw [List.range_succ, List.filter_append, List.map_append]
 cases h : (amongB ss k && !wo fr lg (b + k) 1) <;> simp [h]
theorem flat_succ {α : Type} (f : Nat → List α) (k : Nat) : (List.range (k + 1)).flatMap f = (List.range k).flatMap f ++ f k := by rw [List.range_succ, List.flatMap_append]; simp
theorem sclock2_calls (r : Rul) (x : Av) (day fr lg : Int) (hd : 0 ≤ day ∧ day ≤ 5000000) (hf : 0 ≤ fr ∧ fr ≤ 1000000000000) (hg : 0 ≤ lg ∧ lg ≤ 100000) (l15 : r.hour.length ≤ 2147483647) (l16 : r.minute.length ≤ 2147483647) (l17 : r.second.length ≤ 2147483647) (w : World) (hin : InL w r x) : Calls Go.Proofs.Tryz.prog 63 #[.agg (rulC r x).toArray, iV day, iV fr, iV lg] w fun e w' => ∃ p c, e = .returned (.slice p (clockF r.hour r.minute r.second day fr lg).length c) ∧ NewRow w w' (.slice p (clockF r.hour r.minute r.second day fr lg).length c) 2 1 (clockF r.hour r.minute r.second day fr lg).length ((clockF r.hour r.minute r.second day fr lg).map iV) := by
 refine calls_GC (args := [.agg (rulC r x).toArray, iV day, iV fr, iV lg]) (L := [(0, .agg (rulC r x).toArray), (1, iV day), (2, iV fr), (3, iV lg)]) (N := 77) Tryz.func63 rfl rfl ble rfl (Sees.start (fun _ => False) w) ?_
 refine g2 ?_
 refine gL (at_box 50 (cs := rulC r x) dE rfl rfl rfl (fun o ho => by repeat (first | rfl | rw [lkp_put_ne dE ho _ _ ble])) ble (fun b1 hbb1 => ?_))
 refine gL (at_box 51 (cs := [iV fr]) dE rfl rfl rfl (fun o ho => by repeat (first | rfl | rw [lkp_put_ne dE ho _ _ ble])) ble (fun b2_ hbb2_ => ?_))
 refine gL (at_box 52 (cs := [iV lg]) dE rfl rfl rfl (fun o ho => by repeat (first | rfl | rw [lkp_put_ne dE ho _ _ ble])) ble (fun b3_ hbb3_ => ?_))
 refine g10 ?_
 refine rl ((rd_makeFunc (first := []) (capt := [pT b2_, pT b3_]) rfl rfl)) ?_
 refine g10 ?_
 refine GC_loop (ι := (Nat) × (List Int) × (Option Addr) × (Nat) × (Nat) × (List Value)) (fun | ⟨h, acc, p, c, n, xs⟩ => 24 - h) (fun | ⟨h, acc, p, c, n, xs⟩ => (h ≤ 24) ∧ (acc = chTo r.hour r.minute r.second fr lg (day * 86400) h) ∧ (n = acc.length) ∧ (xs = acc.map iV) ∧ (n ≤ h * 3600)) (fun | ⟨h, acc, p, c, n, xs⟩ => [(1, iV day), (4, pT b1), (10, .func (.func 103) #[] #[pT b2_, pT b3_]), (9, .slice p n c), (18, iV h)]) (fun | ⟨h, acc, p, c, n, xs⟩ => [(52, b3_), (51, b2_), (50, b1)]) (fun | ⟨h, acc, p, c, n, xs⟩ => (putKeys 52 0 [iV lg] ++ (putKeys 51 0 [iV fr] ++ (putKeys 50 0 (rulC r x) ++ [])))) (fun | ⟨h, acc, p, c, n, xs⟩ => [(11, ⟨.slice p n c, 2, 1, n, xs⟩)]) ⟨0, [], none, 0, 0, []⟩ ⟨Nat.zero_le _, rfl, rfl, rfl, Nat.zero_le _⟩ kno (fun w s => by exact s.nilRow 11 2 1) ?_
 rintro ⟨h, acc, p, c, n, xs⟩ ⟨hkh, hah, hnh, hxh, hbh⟩
 show GC _ _ _ _ [(1, iV day), (4, pT b1), (10, .func (.func 103) #[] #[pT b2_, pT b3_]), (9, .slice p n c), (18, iV h)] _ _ ([(52, b3_), (51, b2_), (50, b1)]) ((putKeys 52 0 [iV lg] ++ (putKeys 51 0 [iV fr] ++ (putKeys 50 0 (rulC r x) ++ [])))) ([(11, ⟨.slice p n c, 2, 1, n, xs⟩)])
 refine g6 ?_
 refine GC_cond rfl (fun hc1 => ?_) (fun hc2 => ?_)
 ·have hlt : h < 24 := by have := of_decide_eq_true hc1; omega
  refine g20 ?_
  refine g3 ?_
  refine rl (rfa 14) ?_
  refine rl (rld 50 rfl rfl rfl) ?_
  refine g1 ?_
  rcases Bool.eq_false_or_eq_true (amongB r.hour h) with hq1 | hq1
  ·refine gL (cvo (v := .bool true) rfl (fun w_ s_ => (samong_calls r.hour h _ l15 w_ (ints_see s_ hin.i15)).mono fun e_ w2_ h_ => ⟨h_.1.trans (congrArg (fun b => Ending.returned (Value.bool b)) hq1), h_.2⟩) ?_)
   refine g7 ?_
   rcases Bool.eq_false_or_eq_true (wo fr lg (day * 86400 + h * 3600) 3600) with hq2 | hq2
   ·refine gL (at_callv (ι := Unit) (first := []) (capt := [pT b2_, pT b3_]) (fun _ => .bool true) (fun _ => True) (fun _ => [(52, b3_), (51, b2_), (50, b1)]) (fun _ => (putKeys 52 0 [iV lg] ++ (putKeys 51 0 [iV fr] ++ (putKeys 50 0 (rulC r x) ++ [])))) (fun _ => [(11, ⟨.slice p n c, 2, 1, n, xs⟩)]) dE rfl kR rfl (fun w_ s_ => (without_calls rfl rfl rfl rfl hf hg (day * 86400 + h * 3600) 3600 oM oM w_ s_).mono fun e w' ⟨_, _, he, hs⟩ => ⟨(), trivial, he.trans (congrArg (fun b => Ending.returned (Value.bool b)) hq2), hs⟩) (fun _ _ => ?_))
    refine g3 ?_
    refine GC_is_true rfl rfl ?_
    refine g8 ?_
    refine GE_back ⟨h + 1, acc, p, c, n, xs⟩ sO ⟨by omega, by unfold chTo; rw [flat_succ, if_neg (by rw [hq2, Bool.not_true, Bool.and_false]; decide), List.append_nil]; exact hah, hnh, hxh, by omega⟩ kno (fun w s => by exact s)
   ·refine gL (at_callv (ι := Unit) (first := []) (capt := [pT b2_, pT b3_]) (fun _ => .bool false) (fun _ => True) (fun _ => [(52, b3_), (51, b2_), (50, b1)]) (fun _ => (putKeys 52 0 [iV lg] ++ (putKeys 51 0 [iV fr] ++ (putKeys 50 0 (rulC r x) ++ [])))) (fun _ => [(11, ⟨.slice p n c, 2, 1, n, xs⟩)]) dE rfl kR rfl (fun w_ s_ => (without_calls rfl rfl rfl rfl hf hg (day * 86400 + h * 3600) 3600 oM oM w_ s_).mono fun e w' ⟨_, _, he, hs⟩ => ⟨(), trivial, he.trans (congrArg (fun b => Ending.returned (Value.bool b)) hq2), hs⟩) (fun _ _ => ?_))
    refine g3 ?_
    refine GC_is_false rfl rfl ?_
    refine g8 ?_
    refine GC_loop (ι := (Nat) × (List Int) × (Option Addr) × (Nat) × (Nat) × (List Value)) (fun | ⟨m, acc2, p2, c2, n2, xs2⟩ => 60 - m) (fun | ⟨m, acc2, p2, c2, n2, xs2⟩ => (m ≤ 60) ∧ (acc2 = acc ++ cmTo r.minute r.second fr lg (day * 86400 + h * 3600) m) ∧ (n2 = acc2.length) ∧ (xs2 = acc2.map iV) ∧ (n2 ≤ h * 3600 + m * 60)) (fun | ⟨m, acc2, p2, c2, n2, xs2⟩ => [(1, iV day), (4, pT b1), (10, .func (.func 103) #[] #[pT b2_, pT b3_]), (12, iV (day * 86400 + h * 3600)), (18, iV h), (9, .slice p2 n2 c2), (36, iV m)]) (fun | ⟨m, acc2, p2, c2, n2, xs2⟩ => [(52, b3_), (51, b2_), (50, b1)]) (fun | ⟨m, acc2, p2, c2, n2, xs2⟩ => (putKeys 52 0 [iV lg] ++ (putKeys 51 0 [iV fr] ++ (putKeys 50 0 (rulC r x) ++ [])))) (fun | ⟨m, acc2, p2, c2, n2, xs2⟩ => [(11, ⟨.slice p2 n2 c2, 2, 1, n2, xs2⟩)]) ⟨0, acc, p, c, n, xs⟩ ⟨Nat.zero_le _, by simp [cmTo], hnh, hxh, by omega⟩ kno (fun w s => by exact s) ?_
    rintro ⟨m, acc2, p2, c2, n2, xs2⟩ ⟨hkm, ham, hnm, hxm, hbm⟩
    show GC _ _ _ _ [(1, iV day), (4, pT b1), (10, .func (.func 103) #[] #[pT b2_, pT b3_]), (12, iV (day * 86400 + h * 3600)), (18, iV h), (9, .slice p2 n2 c2), (36, iV m)] _ _ ([(52, b3_), (51, b2_), (50, b1)]) ((putKeys 52 0 [iV lg] ++ (putKeys 51 0 [iV fr] ++ (putKeys 50 0 (rulC r x) ++ [])))) ([(11, ⟨.slice p2 n2 c2, 2, 1, n2, xs2⟩)])
    refine g6 ?_
    refine GC_cond rfl (fun hc1 => ?_) (fun hc2 => ?_)
    ·have hlt2 : m < 60 := by have := of_decide_eq_true hc1; omega
     refine g20 ?_
     refine g2 ?_
     refine rl (rfa 15) ?_
     refine rl (rld 50 rfl rfl rfl) ?_
     refine g1 ?_
     rcases Bool.eq_false_or_eq_true (amongB r.minute m) with hq3 | hq3
     ·refine gL (cvo (v := .bool true) rfl (fun w_ s_ => (samong_calls r.minute m _ l16 w_ (ints_see s_ hin.i16)).mono fun e_ w2_ h_ => ⟨h_.1.trans (congrArg (fun b => Ending.returned (Value.bool b)) hq3), h_.2⟩) ?_)
      refine g7 ?_
      rcases Bool.eq_false_or_eq_true (wo fr lg (day * 86400 + h * 3600 + m * 60) 60) with hq4 | hq4
      ·refine gL (at_callv (ι := Unit) (first := []) (capt := [pT b2_, pT b3_]) (fun _ => .bool true) (fun _ => True) (fun _ => [(52, b3_), (51, b2_), (50, b1)]) (fun _ => (putKeys 52 0 [iV lg] ++ (putKeys 51 0 [iV fr] ++ (putKeys 50 0 (rulC r x) ++ [])))) (fun _ => [(11, ⟨.slice p2 n2 c2, 2, 1, n2, xs2⟩)]) dE rfl kR rfl (fun w_ s_ => (without_calls rfl rfl rfl rfl hf hg (day * 86400 + h * 3600 + m * 60) 60 oM oM w_ s_).mono fun e w' ⟨_, _, he, hs⟩ => ⟨(), trivial, he.trans (congrArg (fun b => Ending.returned (Value.bool b)) hq4), hs⟩) (fun _ _ => ?_))
       refine g3 ?_
       refine GC_is_true rfl rfl ?_
       refine g8 ?_
       refine GE_back ⟨m + 1, acc2, p2, c2, n2, xs2⟩ sO ⟨by omega, by unfold cmTo; rw [flat_succ, if_neg (by rw [hq4, Bool.not_true, Bool.and_false]; decide), List.append_nil]; exact ham, hnm, hxm, by omega⟩ kno (fun w s => by exact s)
      ·refine gL (at_callv (ι := Unit) (first := []) (capt := [pT b2_, pT b3_]) (fun _ => .bool false) (fun _ => True) (fun _ => [(52, b3_), (51, b2_), (50, b1)]) (fun _ => (putKeys 52 0 [iV lg] ++ (putKeys 51 0 [iV fr] ++ (putKeys 50 0 (rulC r x) ++ [])))) (fun _ => [(11, ⟨.slice p2 n2 c2, 2, 1, n2, xs2⟩)]) dE rfl kR rfl (fun w_ s_ => (without_calls rfl rfl rfl rfl hf hg (day * 86400 + h * 3600 + m * 60) 60 oM oM w_ s_).mono fun e w' ⟨_, _, he, hs⟩ => ⟨(), trivial, he.trans (congrArg (fun b => Ending.returned (Value.bool b)) hq4), hs⟩) (fun _ _ => ?_))
       refine g3 ?_
       refine GC_is_false rfl rfl ?_
       refine g8 ?_
       refine GC_loop (ι := (Nat) × (List Int) × (Option Addr) × (Nat) × (Nat) × (List Value)) (fun | ⟨s, acc3, p3, c3, n3, xs3⟩ => 60 - s) (fun | ⟨s, acc3, p3, c3, n3, xs3⟩ => (s ≤ 60) ∧ (acc3 = acc2 ++ ckTo r.second fr lg (day * 86400 + h * 3600 + m * 60) s) ∧ (n3 = acc3.length) ∧ (xs3 = acc3.map iV) ∧ (n3 ≤ h * 3600 + m * 60 + s)) (fun | ⟨s, acc3, p3, c3, n3, xs3⟩ => [(1, iV day), (4, pT b1), (10, .func (.func 103) #[] #[pT b2_, pT b3_]), (12, iV (day * 86400 + h * 3600)), (18, iV h), (14, iV (day * 86400 + h * 3600 + m * 60)), (36, iV m), (9, .slice p3 n3 c3), (53, iV s)]) (fun | ⟨s, acc3, p3, c3, n3, xs3⟩ => [(52, b3_), (51, b2_), (50, b1)]) (fun | ⟨s, acc3, p3, c3, n3, xs3⟩ => (putKeys 52 0 [iV lg] ++ (putKeys 51 0 [iV fr] ++ (putKeys 50 0 (rulC r x) ++ [])))) (fun | ⟨s, acc3, p3, c3, n3, xs3⟩ => [(11, ⟨.slice p3 n3 c3, 2, 1, n3, xs3⟩)]) ⟨0, acc2, p2, c2, n2, xs2⟩ ⟨Nat.zero_le _, by simp [ckTo], hnm, hxm, by omega⟩ kno (fun w s => by exact s) ?_
       rintro ⟨s, acc3, p3, c3, n3, xs3⟩ ⟨hks, has, hns, hxs, hbs⟩
       show GC _ _ _ _ [(1, iV day), (4, pT b1), (10, .func (.func 103) #[] #[pT b2_, pT b3_]), (12, iV (day * 86400 + h * 3600)), (18, iV h), (14, iV (day * 86400 + h * 3600 + m * 60)), (36, iV m), (9, .slice p3 n3 c3), (53, iV s)] _ _ ([(52, b3_), (51, b2_), (50, b1)]) ((putKeys 52 0 [iV lg] ++ (putKeys 51 0 [iV fr] ++ (putKeys 50 0 (rulC r x) ++ [])))) ([(11, ⟨.slice p3 n3 c3, 2, 1, n3, xs3⟩)])
       refine g6 ?_
       refine GC_cond rfl (fun hc1 => ?_) (fun hc2 => ?_)
       ·have hlt3 : s < 60 := by have := of_decide_eq_true hc1; omega
        refine g20 ?_
        refine rl (rfa 16) ?_
        refine rl (rld 50 rfl rfl rfl) ?_
        refine g1 ?_
        rcases Bool.eq_false_or_eq_true (amongB r.second s) with hq5 | hq5
        ·refine gL (cvo (v := .bool true) rfl (fun w_ s_ => (samong_calls r.second s _ l17 w_ (ints_see s_ hin.i17)).mono fun e_ w2_ h_ => ⟨h_.1.trans (congrArg (fun b => Ending.returned (Value.bool b)) hq5), h_.2⟩) ?_)
         refine g6 ?_
         rcases Bool.eq_false_or_eq_true (wo fr lg (day * 86400 + h * 3600 + m * 60 + s) 1) with hq6 | hq6
         ·refine gL (at_callv (ι := Unit) (first := []) (capt := [pT b2_, pT b3_]) (fun _ => .bool true) (fun _ => True) (fun _ => [(52, b3_), (51, b2_), (50, b1)]) (fun _ => (putKeys 52 0 [iV lg] ++ (putKeys 51 0 [iV fr] ++ (putKeys 50 0 (rulC r x) ++ [])))) (fun _ => [(11, ⟨.slice p3 n3 c3, 2, 1, n3, xs3⟩)]) dE rfl kR rfl (fun w_ s_ => (without_calls rfl rfl rfl rfl hf hg (day * 86400 + h * 3600 + m * 60 + s) 1 oM oM w_ s_).mono fun e w' ⟨_, _, he, hs⟩ => ⟨(), trivial, he.trans (congrArg (fun b => Ending.returned (Value.bool b)) hq6), hs⟩) (fun _ _ => ?_))
          refine g5 ?_
          refine GC_is_false rfl rfl ?_
          refine g7 ?_
          refine GE_back ⟨s + 1, acc3, p3, c3, n3, xs3⟩ sO ⟨by omega, by rw [ckTo_succ, if_neg (by rw [hq6, Bool.not_true, Bool.and_false]; decide), List.append_nil]; exact has, hns, hxs, by omega⟩ kno (fun w s => by exact s.low 60 (by repeat (first | exact Lim.nil | apply Lim.consS _ dE | apply Lim.consB _ dE | apply Lim.putH dE _ 0 ble)) agx agx agx)
         ·refine gL (at_callv (ι := Unit) (first := []) (capt := [pT b2_, pT b3_]) (fun _ => .bool false) (fun _ => True) (fun _ => [(52, b3_), (51, b2_), (50, b1)]) (fun _ => (putKeys 52 0 [iV lg] ++ (putKeys 51 0 [iV fr] ++ (putKeys 50 0 (rulC r x) ++ [])))) (fun _ => [(11, ⟨.slice p3 n3 c3, 2, 1, n3, xs3⟩)]) dE rfl kR rfl (fun w_ s_ => (without_calls rfl rfl rfl rfl hf hg (day * 86400 + h * 3600 + m * 60 + s) 1 oM oM w_ s_).mono fun e w' ⟨_, _, he, hs⟩ => ⟨(), trivial, he.trans (congrArg (fun b => Ending.returned (Value.bool b)) hq6), hs⟩) (fun _ _ => ?_))
          refine g5 ?_
          refine GC_is_true rfl rfl ?_
          refine g3 ?_
          refine gL (at_one_ 60 (e := 2) (sz := 1) (by_ := 8) (zs := [iV 0]) dE kR rfl dE dE rfl rfl rfl (fun bo => ?_))
          refine gL (at_append 11 60 (e := 2) (sz := 1) (by_ := 8) (zs := [iV 0]) dE kR rfl dE rfl rfl rfl rfl ⟨rfl, rfl⟩ ⟨rfl, rfl⟩ (ints_one (xs := [day * 86400 + h * 3600 + m * 60 + s])) sO sO (fun p' c' => ?_))
          refine g8 ?_
          refine GE_back ⟨s + 1, acc3 ++ [day * 86400 + h * 3600 + m * 60 + s], p', c', n3 + 1, xs3 ++ [iV (day * 86400 + h * 3600 + m * 60 + s)]⟩ sO ⟨by omega, by rw [ckTo_succ, if_pos (by rw [hq5, hq6]; rfl), has, List.append_assoc], by rw [List.length_append, hns]; rfl, by rw [hxs]; simp, by omega⟩ kno (fun w s => by exact s.low 60 (by repeat (first | exact Lim.nil | apply Lim.consS _ dE | apply Lim.consB _ dE | apply Lim.putH dE _ 0 ble)) agx agx agx)
        ·refine gL (cvo (v := .bool false) rfl (fun w_ s_ => (samong_calls r.second s _ l17 w_ (ints_see s_ hin.i17)).mono fun e_ w2_ h_ => ⟨h_.1.trans (congrArg (fun b => Ending.returned (Value.bool b)) hq5), h_.2⟩) ?_)
         refine g8 ?_
         refine GC_is_false rfl rfl ?_
         refine g7 ?_
         refine GE_back ⟨s + 1, acc3, p3, c3, n3, xs3⟩ sO ⟨by omega, by rw [ckTo_succ, if_neg (by rw [hq5, Bool.false_and]; decide), List.append_nil]; exact has, hns, hxs, by omega⟩ kno (fun w s => by exact s.low 60 (by repeat (first | exact Lim.nil | apply Lim.consS _ dE | apply Lim.consB _ dE | apply Lim.putH dE _ 0 ble)) agx agx agx)
       ·obtain rfl : s = 60 := by have := of_decide_eq_false hc2; omega
        refine g10 ?_
        refine GE_back ⟨m + 1, acc3, p3, c3, n3, xs3⟩ sO ⟨by omega, by unfold cmTo; rw [flat_succ, if_pos (by rw [hq3, hq4]; rfl)]; rw [has, ham, List.append_assoc]; rfl, hns, hxs, by omega⟩ kno (fun w s => by exact s)
     ·refine gL (cvo (v := .bool false) rfl (fun w_ s_ => (samong_calls r.minute m _ l16 w_ (ints_see s_ hin.i16)).mono fun e_ w2_ h_ => ⟨h_.1.trans (congrArg (fun b => Ending.returned (Value.bool b)) hq3), h_.2⟩) ?_)
      refine g8 ?_
      refine GC_is_true rfl rfl ?_
      refine g8 ?_
      refine GE_back ⟨m + 1, acc2, p2, c2, n2, xs2⟩ sO ⟨by omega, by unfold cmTo; rw [flat_succ, if_neg (by rw [hq3, Bool.false_and]; decide), List.append_nil]; exact ham, hnm, hxm, by omega⟩ kno (fun w s => by exact s)
    ·obtain rfl : m = 60 := by have := of_decide_eq_false hc2; omega
     refine g10 ?_
     refine GE_back ⟨h + 1, acc2, p2, c2, n2, xs2⟩ sO ⟨by omega, by unfold chTo; rw [flat_succ, if_pos (by rw [hq1, hq2]; rfl)]; rw [ham, hah]; rfl, hnm, hxm, by omega⟩ kno (fun w s => by exact s)
  ·refine gL (cvo (v := .bool false) rfl (fun w_ s_ => (samong_calls r.hour h _ l15 w_ (ints_see s_ hin.i15)).mono fun e_ w2_ h_ => ⟨h_.1.trans (congrArg (fun b => Ending.returned (Value.bool b)) hq1), h_.2⟩) ?_)
   refine g8 ?_
   refine GC_is_true rfl rfl ?_
   refine g8 ?_
   refine GE_back ⟨h + 1, acc, p, c, n, xs⟩ sO ⟨by omega, by unfold chTo; rw [flat_succ, if_neg (by rw [hq1, Bool.false_and]; decide), List.append_nil]; exact hah, hnh, hxh, by omega⟩ kno (fun w s => by exact s)
 ·have hge : ¬ h < 24 := by have := of_decide_eq_false hc2; omega
  refine g12 ?_
  have hF : clockF r.hour r.minute r.second day fr lg = acc := by unfold clockF; rw [hah, show (24 : Nat) = h by omega]
  rw [hF]
  subst hnh hxh
  exact GE_ret1 (.inl rfl) rfl (res_tmp rfl) fun w_ s_ => ⟨p, c, rfl, s_.toNew (k := 11) rfl⟩
end
end Go.Proofs.YtdbbifbmkfmbkaaGreat
