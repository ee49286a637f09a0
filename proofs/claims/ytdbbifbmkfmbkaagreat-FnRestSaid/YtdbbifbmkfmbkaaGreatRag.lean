import Derived.Test.YtdbbifbmkfmbkaaGreatRaf
set_option linter.unusedVariables false
set_option linter.unusedSimpArgs false
set_option maxRecDepth 100000
set_option maxHeartbeats 8000000
namespace Go.Proofs.YtdbbifbmkfmbkaaGreat
open Go.RowKit Go.Fr Go.Tab
section
variable {F : Nat → Prop} {w0 : World} {B : LN} {H : LV} {S : LS}
open Go.Md
theorem bu_B {R : Ending → World → Prop} {o : Opn} {x : Av} {b1 b2 b3 : Nat} {H0 : LV} {S0 : LS} (ok : OpOk o) (hsort : o.freq < 4 → j5 F w0 (raw o)) (bs : Bs F w0 B H0 S0 b1 b2 b3 (oc0 o x) (rcA o x) H S) (s9 : SrcT F w0 S 11 (.slice x.p9 (o.setpos).length x.c9) o.setpos) (s10 : SrcT F w0 S 11 (.slice x.p10 (o.month).length x.c10) o.month) (s11 : SrcT F w0 S 11 (.slice x.p11 (o.mday).length x.c11) o.mday) (s12 : SrcT F w0 S 11 (.slice x.p12 (o.yday).length x.c12) o.yday) (s13 : SrcT F w0 S 11 (.slice x.p13 (o.weekno).length x.c13) o.weekno) (s14 : SrcU F w0 S 11 (.slice x.p14 (o.wday).length x.c14) o.wday) (s15 : SrcT F w0 S 11 (.slice x.p15 (o.hour).length x.c15) o.hour) (s16 : SrcT F w0 S 11 (.slice x.p16 (o.minute).length x.c16) o.minute) (s17 : SrcT F w0 S 11 (.slice x.p17 (o.second).length x.c17) o.second) (s18 : SrcT F w0 S 11 (.slice x.p18 (o.easter).length x.c18) o.easter)  (hR : ∀ (x : Av) (S' : LS), OutF F w0 o x S0 S' → ∀ w, Sees F w0 B H0 S' w → R (.returned (.agg (iY o x).toArray)) w) : GC Tryz.prog (Go.Fr.part [1, 1, 1, 1, 1, 1, 1, 1, 1, 1, 1, 1, 1, 1] (Go.Fr.bodyOf Tryz.f43)) (bodyPost Tryz.prog Tryz.f43 R) 300 [(1, pT b1), (2, pT b2), (3, pT b3)] F w0 ((52, b3) :: (51, b2) :: (50, b1) :: B) H S := by
 have ok_ := ok
 have hd_ := ok.d
 refine g2 ?_
 by_cases hz0 : o.weekno.length = 0
 ·by_cases hz1 : o.yday.length = 0
  ·by_cases hz2 : o.mday.length = 0
   ·by_cases hz3 : o.wday.length = 0
    ·by_cases hz4 : o.easter.length = 0
     ·have hnd : iB o = true := by unfold iB; rw [hz0, hz1, hz2, hz3, hz4]; rfl
      refine g1 ?_
      refine rl (rfa 13) ?_
      refine rZ1 (bE 50 rfl rfl (bs.ho.get 13 _ rfl) kR dE) ?_
      refine rZ2 ((aR rfl rfl).to eT) ?_
      refine rZ1 (rfa 12) ?_
      refine rZ3 (bE 50 rfl rfl (bs.ho.get 12 _ rfl) kR dE) ?_
      refine rZ3 ((aR rfl rfl).to eT) ?_
      refine rZ1 (rfa 11) ?_
      refine rZ3 (bE 50 rfl rfl (bs.ho.get 11 _ rfl) kR dE) ?_
      refine rZ3 ((aR rfl rfl).to eT) ?_
      refine rZ1 (rfa 14) ?_
      refine rZ3 (bE 50 rfl rfl (bs.ho.get 14 _ rfl) kR dE) ?_
      refine rZ3 ((aR rfl rfl).to eT) ?_
      refine rZ1 (rfa 18) ?_
      refine rZ3 (bE 50 rfl rfl (bs.ho.get 18 _ rfl) kR dE) ?_
      refine rl ((aR rfl rfl).to eT) ?_
      refine g3 ?_
      refine aY rfl rfl ?_
      refine g2 ?_
      refine rl (rfa 38) ?_
      refine rZ3 (bE 52 rfl rfl (bs.hc.get 38 _ rfl) kR dE) ?_
      refine aB rfl (fun hc1 => ?_) (fun hc2 => ?_)
      ·have hf0 : o.freq = 0 := beq_iff_eq.1 hc1
       refine g3 ?_
       refine rl (rfa 10) ?_
       refine rZ4 (bE 50 rfl rfl (bs.ho.get 10 _ rfl) kR dE) ?_
       refine aB rfl (fun hc1 => ?_) (fun hc2 => ?_)
       ·have hmz : o.month.length = 0 := by have := beq_iff_eq.1 hc1; omega
        refine g1 ?_
        refine rl (rfa 39) ?_
        refine rl (aV 52 rfl rfl (bs.hc.get 39 _ rfl) (bs.hc.get 40 _ rfl) kR dE) ?_
        refine gL (cvo rfl (fun w_ s_ => xS _ _ oM w_) ?_)
        refine gL (dK 16 (e := 3) (sz := 1) (by_ := 8) (zs := [iV 0]) (cs := [iV (Cal.monthOf (o.d / 86400))]) dE kR rfl dE dE rfl rfl rfl (fun bmo => ?_))
        refine rl (rfa 10) ?_
        refine gL (cR 50 rfl rfl rfl (bs.ho.get 10 _ rfl) kR rfl dE ?_)
        refine g3 ?_
        refine rl (rfa 39) ?_
        refine rl (aV 52 rfl rfl (bs.hc.get 39 _ rfl) (bs.hc.get 40 _ rfl) kR dE) ?_
        refine gL (cvo rfl (fun w_ s_ => oA _ _ oM w_) ?_)
        refine gL (dK 17 (e := 3) (sz := 1) (by_ := 8) (zs := [iV 0]) (cs := [iV (Cal.mdayOf (o.d / 86400))]) dE kR rfl dE dE rfl rfl rfl (fun bda => ?_))
        refine rl (rfa 11) ?_
        refine gL (cR 50 rfl rfl rfl (bs.ho.get 11 _ rfl) kR rfl dE ?_)
        refine g2 ?_
        refine dO (L' := [(1, pT b1), (2, pT b2), (3, pT b3)]) kns (fun w s => s) ?_
        have e_month : bX o = [Cal.monthOf (o.d / 86400)] := by unfold bX; simp [hnd, hf0, hmz]
        have e_mday : bL o = [Cal.mdayOf (o.d / 86400)] := by unfold bL; simp [hnd, hf0, hmz]
        have e_wday : bU o = o.wday := by unfold bU; simp [hnd, hf0, hmz]
        refine uS (x := { x with pm := some ⟨bmo, 0, none⟩, cm := 1, pd := some ⟨bda, 0, none⟩, cd := 1, pw := x.p14, cw := x.c14 }) ok hsort (H := (ky 50 11, sL bda 1 1) :: (ky 50 10, sL bmo 1 1) :: H) (S := (17, ⟨sL bda 1 1, 3, 1, 1, [iV (Cal.mdayOf (o.d / 86400))]⟩) :: (16, ⟨sL bmo 1 1, 3, 1, 1, [iV (Cal.monthOf (o.d / 86400))]⟩) :: S) ⟨(cC (bs.ho.get 0 _ rfl) (cC (bs.ho.get 1 _ rfl) (cC (bs.ho.get 2 _ rfl) (cC (bs.ho.get 3 _ rfl) (cC (bs.ho.get 4 _ rfl) (cC (bs.ho.get 5 _ rfl) (cC (bs.ho.get 6 _ rfl) (cC (bs.ho.get 7 _ rfl) (cC (bs.ho.get 8 _ rfl) (cC (bs.ho.get 9 _ rfl) (cC (show lkp (ky 50 10) _ = some (sL bmo (bX o).length 1) from by rw [e_month]; rfl) (cC (show lkp (ky 50 11) _ = some (sL bda (bL o).length 1) from by rw [e_mday]; rfl) (cC (bs.ho.get 12 _ rfl) (cC (bs.ho.get 13 _ rfl) (cC (show lkp (ky 50 14) _ = some (Value.slice x.p14 (bU o).length x.c14) from by rw [e_wday]; exact bs.ho.get 14 _ rfl) (cC (bs.ho.get 15 _ rfl) (cC (bs.ho.get 16 _ rfl) (cC (bs.ho.get 17 _ rfl) (cC (bs.ho.get 18 _ rfl) cN))))))))))))))))))), bs.hc, (cG kX bs.h2), (lY bs.lim), bs.limB, (fX bs.frH), (fV bs.frS)⟩ ((s9.cons dE).cons dE) (SrcT.row (e := 3) (by rw [e_month]; rfl)) (SrcT.row (e := 3) (by rw [e_mday]; rfl)) ((s12.cons dE).cons dE) ((s13.cons dE).cons dE) (by rw [e_wday]; exact (((s14.cons dE).cons dE)).more) ((s15.cons dE).cons dE) ((s16.cons dE).cons dE) ((s17.cons dE).cons dE) ((s18.cons dE).cons dE) hR
       ·have hmz : ¬ o.month.length = 0 := by have := beq_eq_false_iff_ne.1 hc2; omega
        refine g3 ?_
        refine rl (rfa 39) ?_
        refine rl (aV 52 rfl rfl (bs.hc.get 39 _ rfl) (bs.hc.get 40 _ rfl) kR dE) ?_
        refine gL (cvo rfl (fun w_ s_ => oA _ _ oM w_) ?_)
        refine gL (dK 17 (e := 3) (sz := 1) (by_ := 8) (zs := [iV 0]) (cs := [iV (Cal.mdayOf (o.d / 86400))]) dE kR rfl dE dE rfl rfl rfl (fun bda => ?_))
        refine rl (rfa 11) ?_
        refine gL (cR 50 rfl rfl rfl (bs.ho.get 11 _ rfl) kR rfl dE ?_)
        refine g2 ?_
        refine dO (L' := [(1, pT b1), (2, pT b2), (3, pT b3)]) kns (fun w s => s) ?_
        have e_month : bX o = o.month := by unfold bX; simp [hnd, hf0, hmz]
        have e_mday : bL o = [Cal.mdayOf (o.d / 86400)] := by unfold bL; simp [hnd, hf0, hmz]
        have e_wday : bU o = o.wday := by unfold bU; simp [hnd, hf0, hmz]
        refine uS (x := { x with pm := x.p10, cm := x.c10, pd := some ⟨bda, 0, none⟩, cd := 1, pw := x.p14, cw := x.c14 }) ok hsort (H := (ky 50 11, sL bda 1 1) :: H) (S := (17, ⟨sL bda 1 1, 3, 1, 1, [iV (Cal.mdayOf (o.d / 86400))]⟩) :: S) ⟨(cC (bs.ho.get 0 _ rfl) (cC (bs.ho.get 1 _ rfl) (cC (bs.ho.get 2 _ rfl) (cC (bs.ho.get 3 _ rfl) (cC (bs.ho.get 4 _ rfl) (cC (bs.ho.get 5 _ rfl) (cC (bs.ho.get 6 _ rfl) (cC (bs.ho.get 7 _ rfl) (cC (bs.ho.get 8 _ rfl) (cC (bs.ho.get 9 _ rfl) (cC (show lkp (ky 50 10) _ = some (Value.slice x.p10 (bX o).length x.c10) from by rw [e_month]; exact bs.ho.get 10 _ rfl) (cC (show lkp (ky 50 11) _ = some (sL bda (bL o).length 1) from by rw [e_mday]; rfl) (cC (bs.ho.get 12 _ rfl) (cC (bs.ho.get 13 _ rfl) (cC (show lkp (ky 50 14) _ = some (Value.slice x.p14 (bU o).length x.c14) from by rw [e_wday]; exact bs.ho.get 14 _ rfl) (cC (bs.ho.get 15 _ rfl) (cC (bs.ho.get 16 _ rfl) (cC (bs.ho.get 17 _ rfl) (cC (bs.ho.get 18 _ rfl) cN))))))))))))))))))), bs.hc, (cG kX bs.h2), (lY bs.lim), bs.limB, (fX bs.frH), (fV bs.frS)⟩ (s9.cons dE) (by rw [e_month]; exact ((s10.cons dE)).more) (SrcT.row (e := 3) (by rw [e_mday]; rfl)) (s12.cons dE) (s13.cons dE) (by rw [e_wday]; exact ((s14.cons dE)).more) (s15.cons dE) (s16.cons dE) (s17.cons dE) (s18.cons dE) hR
      ·have hf0 : o.freq ≠ 0 := beq_eq_false_iff_ne.1 hc2
       refine g2 ?_
       refine rl (rfa 38) ?_
       refine rZ3 (bE 52 rfl rfl (bs.hc.get 38 _ rfl) kR dE) ?_
       refine aB rfl (fun hc1 => ?_) (fun hc2 => ?_)
       ·have hf1 : o.freq = 1 := beq_iff_eq.1 hc1
        refine g1 ?_
        refine rl (rfa 39) ?_
        refine rl (aV 52 rfl rfl (bs.hc.get 39 _ rfl) (bs.hc.get 40 _ rfl) kR dE) ?_
        refine gL (cvo rfl (fun w_ s_ => oA _ _ oM w_) ?_)
        refine gL (dK 17 (e := 3) (sz := 1) (by_ := 8) (zs := [iV 0]) (cs := [iV (Cal.mdayOf (o.d / 86400))]) dE kR rfl dE dE rfl rfl rfl (fun bda => ?_))
        refine rl (rfa 11) ?_
        refine gL (cR 50 rfl rfl rfl (bs.ho.get 11 _ rfl) kR rfl dE ?_)
        refine g2 ?_
        refine dO (L' := [(1, pT b1), (2, pT b2), (3, pT b3)]) kns (fun w s => s) ?_
        have e_month : bX o = o.month := by unfold bX; simp [hnd, hf0, hf1]
        have e_mday : bL o = [Cal.mdayOf (o.d / 86400)] := by unfold bL; simp [hnd, hf0, hf1]
        have e_wday : bU o = o.wday := by unfold bU; simp [hnd, hf0, hf1]
        refine uS (x := { x with pm := x.p10, cm := x.c10, pd := some ⟨bda, 0, none⟩, cd := 1, pw := x.p14, cw := x.c14 }) ok hsort (H := (ky 50 11, sL bda 1 1) :: H) (S := (17, ⟨sL bda 1 1, 3, 1, 1, [iV (Cal.mdayOf (o.d / 86400))]⟩) :: S) ⟨(cC (bs.ho.get 0 _ rfl) (cC (bs.ho.get 1 _ rfl) (cC (bs.ho.get 2 _ rfl) (cC (bs.ho.get 3 _ rfl) (cC (bs.ho.get 4 _ rfl) (cC (bs.ho.get 5 _ rfl) (cC (bs.ho.get 6 _ rfl) (cC (bs.ho.get 7 _ rfl) (cC (bs.ho.get 8 _ rfl) (cC (bs.ho.get 9 _ rfl) (cC (show lkp (ky 50 10) _ = some (Value.slice x.p10 (bX o).length x.c10) from by rw [e_month]; exact bs.ho.get 10 _ rfl) (cC (show lkp (ky 50 11) _ = some (sL bda (bL o).length 1) from by rw [e_mday]; rfl) (cC (bs.ho.get 12 _ rfl) (cC (bs.ho.get 13 _ rfl) (cC (show lkp (ky 50 14) _ = some (Value.slice x.p14 (bU o).length x.c14) from by rw [e_wday]; exact bs.ho.get 14 _ rfl) (cC (bs.ho.get 15 _ rfl) (cC (bs.ho.get 16 _ rfl) (cC (bs.ho.get 17 _ rfl) (cC (bs.ho.get 18 _ rfl) cN))))))))))))))))))), bs.hc, (cG kX bs.h2), (lY bs.lim), bs.limB, (fX bs.frH), (fV bs.frS)⟩ (s9.cons dE) (by rw [e_month]; exact ((s10.cons dE)).more) (SrcT.row (e := 3) (by rw [e_mday]; rfl)) (s12.cons dE) (s13.cons dE) (by rw [e_wday]; exact ((s14.cons dE)).more) (s15.cons dE) (s16.cons dE) (s17.cons dE) (s18.cons dE) hR
       ·have hf1 : o.freq ≠ 1 := beq_eq_false_iff_ne.1 hc2
        refine g2 ?_
        refine rl (rfa 38) ?_
        refine rZ3 (bE 52 rfl rfl (bs.hc.get 38 _ rfl) kR dE) ?_
        refine aB rfl (fun hc1 => ?_) (fun hc2 => ?_)
        ·have hf2 : o.freq = 2 := beq_iff_eq.1 hc1
         refine g1 ?_
         refine rl (rfa 39) ?_
         refine rl (aV 52 rfl rfl (bs.hc.get 39 _ rfl) (bs.hc.get 40 _ rfl) kR dE) ?_
         refine gL (cvo (v := iV ((o.d / 86400 + 1) % 7)) rfl (fun w_ s_ => (kA _ _ oM w_).mono fun e_ w2_ h_ => ⟨h_.1.trans (congrArg Ending.returned rfl), h_.2⟩) ?_)
         refine gL (cvo (v := iV (((o.d / 86400 + 1) % 7 + 6) % 7)) rfl (fun w_ s_ => (mN _ oM w_).mono fun e_ w2_ h_ => ⟨h_.1.trans (congrArg Ending.returned rfl), h_.2⟩) ?_)
         refine rl ((oH (k2 := .i64) (n := 0) rfl kW)) ?_
         refine gL (dK 21 (e := 59) (sz := 2) (by_ := 16) (zs := [iV 0, iV 0]) (cs := [iV (((o.d / 86400 + 1) % 7 + 6) % 7), iV 0]) dE kR rfl dE dE rfl rfl rfl (fun bwd => ?_))
         refine rl (rfa 14) ?_
         refine gL (cR 50 rfl rfl rfl (bs.ho.get 14 _ rfl) kR rfl dE ?_)
         refine g2 ?_
         refine dO (L' := [(1, pT b1), (2, pT b2), (3, pT b3)]) kns (fun w s => s) ?_
         have e_month : bX o = o.month := by unfold bX; simp [hnd, hf0, hf1, hf2]
         have e_mday : bL o = o.mday := by unfold bL; simp [hnd, hf0, hf1, hf2]
         have e_wday : bU o = [(((o.d / 86400 + 1) % 7 + 6) % 7, 0)] := by unfold bU; simp [hnd, hf0, hf1, hf2]
         refine uS (x := { x with pm := x.p10, cm := x.c10, pd := x.p11, cd := x.c11, pw := some ⟨bwd, 0, none⟩, cw := 1 }) ok hsort (H := (ky 50 14, sL bwd 1 1) :: H) (S := (21, ⟨sL bwd 1 1, 59, 2, 1, [iV (((o.d / 86400 + 1) % 7 + 6) % 7), iV 0]⟩) :: S) ⟨(cC (bs.ho.get 0 _ rfl) (cC (bs.ho.get 1 _ rfl) (cC (bs.ho.get 2 _ rfl) (cC (bs.ho.get 3 _ rfl) (cC (bs.ho.get 4 _ rfl) (cC (bs.ho.get 5 _ rfl) (cC (bs.ho.get 6 _ rfl) (cC (bs.ho.get 7 _ rfl) (cC (bs.ho.get 8 _ rfl) (cC (bs.ho.get 9 _ rfl) (cC (show lkp (ky 50 10) _ = some (Value.slice x.p10 (bX o).length x.c10) from by rw [e_month]; exact bs.ho.get 10 _ rfl) (cC (show lkp (ky 50 11) _ = some (Value.slice x.p11 (bL o).length x.c11) from by rw [e_mday]; exact bs.ho.get 11 _ rfl) (cC (bs.ho.get 12 _ rfl) (cC (bs.ho.get 13 _ rfl) (cC (show lkp (ky 50 14) _ = some (sL bwd (bU o).length 1) from by rw [e_wday]; rfl) (cC (bs.ho.get 15 _ rfl) (cC (bs.ho.get 16 _ rfl) (cC (bs.ho.get 17 _ rfl) (cC (bs.ho.get 18 _ rfl) cN))))))))))))))))))), bs.hc, (cG kX bs.h2), (lY bs.lim), bs.limB, (fX bs.frH), (fV bs.frS)⟩ (s9.cons dE) (by rw [e_month]; exact ((s10.cons dE)).more) (by rw [e_mday]; exact ((s11.cons dE)).more) (s12.cons dE) (s13.cons dE) (SrcU.row (e := 59) (by rw [e_wday]; rfl)) (s15.cons dE) (s16.cons dE) (s17.cons dE) (s18.cons dE) hR
        ·have hf2 : o.freq ≠ 2 := beq_eq_false_iff_ne.1 hc2
         refine g2 ?_
         refine dO (L' := [(1, pT b1), (2, pT b2), (3, pT b3)]) kns (fun w s => s) ?_
         have e_month : bX o = o.month := by unfold bX; simp [hnd, hf0, hf1, hf2]
         have e_mday : bL o = o.mday := by unfold bL; simp [hnd, hf0, hf1, hf2]
         have e_wday : bU o = o.wday := by unfold bU; simp [hnd, hf0, hf1, hf2]
         refine uS (x := { x with pm := x.p10, cm := x.c10, pd := x.p11, cd := x.c11, pw := x.p14, cw := x.c14 }) ok hsort (H := H) (S := S) ⟨(cC (bs.ho.get 0 _ rfl) (cC (bs.ho.get 1 _ rfl) (cC (bs.ho.get 2 _ rfl) (cC (bs.ho.get 3 _ rfl) (cC (bs.ho.get 4 _ rfl) (cC (bs.ho.get 5 _ rfl) (cC (bs.ho.get 6 _ rfl) (cC (bs.ho.get 7 _ rfl) (cC (bs.ho.get 8 _ rfl) (cC (bs.ho.get 9 _ rfl) (cC (show lkp (ky 50 10) _ = some (Value.slice x.p10 (bX o).length x.c10) from by rw [e_month]; exact bs.ho.get 10 _ rfl) (cC (show lkp (ky 50 11) _ = some (Value.slice x.p11 (bL o).length x.c11) from by rw [e_mday]; exact bs.ho.get 11 _ rfl) (cC (bs.ho.get 12 _ rfl) (cC (bs.ho.get 13 _ rfl) (cC (show lkp (ky 50 14) _ = some (Value.slice x.p14 (bU o).length x.c14) from by rw [e_wday]; exact bs.ho.get 14 _ rfl) (cC (bs.ho.get 15 _ rfl) (cC (bs.ho.get 16 _ rfl) (cC (bs.ho.get 17 _ rfl) (cC (bs.ho.get 18 _ rfl) cN))))))))))))))))))), bs.hc, (cG kX bs.h2), bs.lim, bs.limB, (fX bs.frH), (fV bs.frS)⟩ s9 (by rw [e_month]; exact (s10).more) (by rw [e_mday]; exact (s11).more) s12 s13 (by rw [e_wday]; exact (s14).more) s15 s16 s17 s18 hR
     ·have hnd : iB o = false := by unfold iB; rw [hz0, hz1, hz2, hz3, beq_eq_false_iff_ne.2 hz4]; simp
      refine g1 ?_
      refine rl (rfa 13) ?_
      refine rZ1 (bE 50 rfl rfl (bs.ho.get 13 _ rfl) kR dE) ?_
      refine rZ2 ((aR rfl rfl).to eT) ?_
      refine rZ1 (rfa 12) ?_
      refine rZ3 (bE 50 rfl rfl (bs.ho.get 12 _ rfl) kR dE) ?_
      refine rZ3 ((aR rfl rfl).to eT) ?_
      refine rZ1 (rfa 11) ?_
      refine rZ3 (bE 50 rfl rfl (bs.ho.get 11 _ rfl) kR dE) ?_
      refine rZ3 ((aR rfl rfl).to eT) ?_
      refine rZ1 (rfa 14) ?_
      refine rZ3 (bE 50 rfl rfl (bs.ho.get 14 _ rfl) kR dE) ?_
      refine rZ3 ((aR rfl rfl).to eT) ?_
      refine rZ1 (rfa 18) ?_
      refine rZ3 (bE 50 rfl rfl (bs.ho.get 18 _ rfl) kR dE) ?_
      refine rl ((aR rfl rfl).to eF) ?_
      refine g3 ?_
      refine aP rfl rfl ?_
      refine g2 ?_
      refine dO (L' := [(1, pT b1), (2, pT b2), (3, pT b3)]) kns (fun w s => s) ?_
      have e_month : bX o = o.month := by unfold bX; simp [hnd]
      have e_mday : bL o = o.mday := by unfold bL; simp [hnd]
      have e_wday : bU o = o.wday := by unfold bU; simp [hnd]
      refine uS (x := { x with pm := x.p10, cm := x.c10, pd := x.p11, cd := x.c11, pw := x.p14, cw := x.c14 }) ok hsort (H := H) (S := S) ⟨(cC (bs.ho.get 0 _ rfl) (cC (bs.ho.get 1 _ rfl) (cC (bs.ho.get 2 _ rfl) (cC (bs.ho.get 3 _ rfl) (cC (bs.ho.get 4 _ rfl) (cC (bs.ho.get 5 _ rfl) (cC (bs.ho.get 6 _ rfl) (cC (bs.ho.get 7 _ rfl) (cC (bs.ho.get 8 _ rfl) (cC (bs.ho.get 9 _ rfl) (cC (show lkp (ky 50 10) _ = some (Value.slice x.p10 (bX o).length x.c10) from by rw [e_month]; exact bs.ho.get 10 _ rfl) (cC (show lkp (ky 50 11) _ = some (Value.slice x.p11 (bL o).length x.c11) from by rw [e_mday]; exact bs.ho.get 11 _ rfl) (cC (bs.ho.get 12 _ rfl) (cC (bs.ho.get 13 _ rfl) (cC (show lkp (ky 50 14) _ = some (Value.slice x.p14 (bU o).length x.c14) from by rw [e_wday]; exact bs.ho.get 14 _ rfl) (cC (bs.ho.get 15 _ rfl) (cC (bs.ho.get 16 _ rfl) (cC (bs.ho.get 17 _ rfl) (cC (bs.ho.get 18 _ rfl) cN))))))))))))))))))), bs.hc, (cG kX bs.h2), bs.lim, bs.limB, (fX bs.frH), (fV bs.frS)⟩ s9 (by rw [e_month]; exact (s10).more) (by rw [e_mday]; exact (s11).more) s12 s13 (by rw [e_wday]; exact (s14).more) s15 s16 s17 s18 hR
    ·have hnd : iB o = false := by unfold iB; rw [hz0, hz1, hz2, beq_eq_false_iff_ne.2 hz3]; simp
     refine g1 ?_
     refine rl (rfa 13) ?_
     refine rZ1 (bE 50 rfl rfl (bs.ho.get 13 _ rfl) kR dE) ?_
     refine rZ2 ((aR rfl rfl).to eT) ?_
     refine rZ1 (rfa 12) ?_
     refine rZ3 (bE 50 rfl rfl (bs.ho.get 12 _ rfl) kR dE) ?_
     refine rZ3 ((aR rfl rfl).to eT) ?_
     refine rZ1 (rfa 11) ?_
     refine rZ3 (bE 50 rfl rfl (bs.ho.get 11 _ rfl) kR dE) ?_
     refine rZ3 ((aR rfl rfl).to eT) ?_
     refine rZ1 (rfa 14) ?_
     refine rZ3 (bE 50 rfl rfl (bs.ho.get 14 _ rfl) kR dE) ?_
     refine rl ((aR rfl rfl).to eF) ?_
     refine mQ ?_
     refine dO (L' := [(1, pT b1), (2, pT b2), (3, pT b3)]) kns (fun w s => s) ?_
     have e_month : bX o = o.month := by unfold bX; simp [hnd]
     have e_mday : bL o = o.mday := by unfold bL; simp [hnd]
     have e_wday : bU o = o.wday := by unfold bU; simp [hnd]
     refine uS (x := { x with pm := x.p10, cm := x.c10, pd := x.p11, cd := x.c11, pw := x.p14, cw := x.c14 }) ok hsort (H := H) (S := S) ⟨(cC (bs.ho.get 0 _ rfl) (cC (bs.ho.get 1 _ rfl) (cC (bs.ho.get 2 _ rfl) (cC (bs.ho.get 3 _ rfl) (cC (bs.ho.get 4 _ rfl) (cC (bs.ho.get 5 _ rfl) (cC (bs.ho.get 6 _ rfl) (cC (bs.ho.get 7 _ rfl) (cC (bs.ho.get 8 _ rfl) (cC (bs.ho.get 9 _ rfl) (cC (show lkp (ky 50 10) _ = some (Value.slice x.p10 (bX o).length x.c10) from by rw [e_month]; exact bs.ho.get 10 _ rfl) (cC (show lkp (ky 50 11) _ = some (Value.slice x.p11 (bL o).length x.c11) from by rw [e_mday]; exact bs.ho.get 11 _ rfl) (cC (bs.ho.get 12 _ rfl) (cC (bs.ho.get 13 _ rfl) (cC (show lkp (ky 50 14) _ = some (Value.slice x.p14 (bU o).length x.c14) from by rw [e_wday]; exact bs.ho.get 14 _ rfl) (cC (bs.ho.get 15 _ rfl) (cC (bs.ho.get 16 _ rfl) (cC (bs.ho.get 17 _ rfl) (cC (bs.ho.get 18 _ rfl) cN))))))))))))))))))), bs.hc, (cG kX bs.h2), bs.lim, bs.limB, (fX bs.frH), (fV bs.frS)⟩ s9 (by rw [e_month]; exact (s10).more) (by rw [e_mday]; exact (s11).more) s12 s13 (by rw [e_wday]; exact (s14).more) s15 s16 s17 s18 hR
   ·have hnd : iB o = false := by unfold iB; rw [hz0, hz1, beq_eq_false_iff_ne.2 hz2]; simp
    refine g1 ?_
    refine rl (rfa 13) ?_
    refine rZ1 (bE 50 rfl rfl (bs.ho.get 13 _ rfl) kR dE) ?_
    refine rZ2 ((aR rfl rfl).to eT) ?_
    refine rZ1 (rfa 12) ?_
    refine rZ3 (bE 50 rfl rfl (bs.ho.get 12 _ rfl) kR dE) ?_
    refine rZ3 ((aR rfl rfl).to eT) ?_
    refine rZ1 (rfa 11) ?_
    refine rZ3 (bE 50 rfl rfl (bs.ho.get 11 _ rfl) kR dE) ?_
    refine rl ((aR rfl rfl).to eF) ?_
    refine g15 ?_
    refine aP rfl rfl ?_
    refine g2 ?_
    refine dO (L' := [(1, pT b1), (2, pT b2), (3, pT b3)]) kns (fun w s => s) ?_
    have e_month : bX o = o.month := by unfold bX; simp [hnd]
    have e_mday : bL o = o.mday := by unfold bL; simp [hnd]
    have e_wday : bU o = o.wday := by unfold bU; simp [hnd]
    refine uS (x := { x with pm := x.p10, cm := x.c10, pd := x.p11, cd := x.c11, pw := x.p14, cw := x.c14 }) ok hsort (H := H) (S := S) ⟨(cC (bs.ho.get 0 _ rfl) (cC (bs.ho.get 1 _ rfl) (cC (bs.ho.get 2 _ rfl) (cC (bs.ho.get 3 _ rfl) (cC (bs.ho.get 4 _ rfl) (cC (bs.ho.get 5 _ rfl) (cC (bs.ho.get 6 _ rfl) (cC (bs.ho.get 7 _ rfl) (cC (bs.ho.get 8 _ rfl) (cC (bs.ho.get 9 _ rfl) (cC (show lkp (ky 50 10) _ = some (Value.slice x.p10 (bX o).length x.c10) from by rw [e_month]; exact bs.ho.get 10 _ rfl) (cC (show lkp (ky 50 11) _ = some (Value.slice x.p11 (bL o).length x.c11) from by rw [e_mday]; exact bs.ho.get 11 _ rfl) (cC (bs.ho.get 12 _ rfl) (cC (bs.ho.get 13 _ rfl) (cC (show lkp (ky 50 14) _ = some (Value.slice x.p14 (bU o).length x.c14) from by rw [e_wday]; exact bs.ho.get 14 _ rfl) (cC (bs.ho.get 15 _ rfl) (cC (bs.ho.get 16 _ rfl) (cC (bs.ho.get 17 _ rfl) (cC (bs.ho.get 18 _ rfl) cN))))))))))))))))))), bs.hc, (cG kX bs.h2), bs.lim, bs.limB, (fX bs.frH), (fV bs.frS)⟩ s9 (by rw [e_month]; exact (s10).more) (by rw [e_mday]; exact (s11).more) s12 s13 (by rw [e_wday]; exact (s14).more) s15 s16 s17 s18 hR
  ·have hnd : iB o = false := by unfold iB; rw [hz0, beq_eq_false_iff_ne.2 hz1]; simp
   refine g1 ?_
   refine rl (rfa 13) ?_
   refine rZ1 (bE 50 rfl rfl (bs.ho.get 13 _ rfl) kR dE) ?_
   refine rZ2 ((aR rfl rfl).to eT) ?_
   refine rZ1 (rfa 12) ?_
   refine rZ3 (bE 50 rfl rfl (bs.ho.get 12 _ rfl) kR dE) ?_
   refine rl ((aR rfl rfl).to eF) ?_
   refine g20 ?_
   refine g1 ?_
   refine aP rfl rfl ?_
   refine g2 ?_
   refine dO (L' := [(1, pT b1), (2, pT b2), (3, pT b3)]) kns (fun w s => s) ?_
   have e_month : bX o = o.month := by unfold bX; simp [hnd]
   have e_mday : bL o = o.mday := by unfold bL; simp [hnd]
   have e_wday : bU o = o.wday := by unfold bU; simp [hnd]
   refine uS (x := { x with pm := x.p10, cm := x.c10, pd := x.p11, cd := x.c11, pw := x.p14, cw := x.c14 }) ok hsort (H := H) (S := S) ⟨(cC (bs.ho.get 0 _ rfl) (cC (bs.ho.get 1 _ rfl) (cC (bs.ho.get 2 _ rfl) (cC (bs.ho.get 3 _ rfl) (cC (bs.ho.get 4 _ rfl) (cC (bs.ho.get 5 _ rfl) (cC (bs.ho.get 6 _ rfl) (cC (bs.ho.get 7 _ rfl) (cC (bs.ho.get 8 _ rfl) (cC (bs.ho.get 9 _ rfl) (cC (show lkp (ky 50 10) _ = some (Value.slice x.p10 (bX o).length x.c10) from by rw [e_month]; exact bs.ho.get 10 _ rfl) (cC (show lkp (ky 50 11) _ = some (Value.slice x.p11 (bL o).length x.c11) from by rw [e_mday]; exact bs.ho.get 11 _ rfl) (cC (bs.ho.get 12 _ rfl) (cC (bs.ho.get 13 _ rfl) (cC (show lkp (ky 50 14) _ = some (Value.slice x.p14 (bU o).length x.c14) from by rw [e_wday]; exact bs.ho.get 14 _ rfl) (cC (bs.ho.get 15 _ rfl) (cC (bs.ho.get 16 _ rfl) (cC (bs.ho.get 17 _ rfl) (cC (bs.ho.get 18 _ rfl) cN))))))))))))))))))), bs.hc, (cG kX bs.h2), bs.lim, bs.limB, (fX bs.frH), (fV bs.frS)⟩ s9 (by rw [e_month]; exact (s10).more) (by rw [e_mday]; exact (s11).more) s12 s13 (by rw [e_wday]; exact (s14).more) s15 s16 s17 s18 hR
 ·have hnd : iB o = false := by unfold iB; rw [beq_eq_false_iff_ne.2 hz0]; simp
  refine g1 ?_
  refine rl (rfa 13) ?_
  refine rZ1 (bE 50 rfl rfl (bs.ho.get 13 _ rfl) kR dE) ?_
  refine rl ((aR rfl rfl).to eF) ?_
  refine g25 ?_
  refine g1 ?_
  refine aP rfl rfl ?_
  refine g2 ?_
  refine dO (L' := [(1, pT b1), (2, pT b2), (3, pT b3)]) kns (fun w s => s) ?_
  have e_month : bX o = o.month := by unfold bX; simp [hnd]
  have e_mday : bL o = o.mday := by unfold bL; simp [hnd]
  have e_wday : bU o = o.wday := by unfold bU; simp [hnd]
  refine uS (x := { x with pm := x.p10, cm := x.c10, pd := x.p11, cd := x.c11, pw := x.p14, cw := x.c14 }) ok hsort (H := H) (S := S) ⟨(cC (bs.ho.get 0 _ rfl) (cC (bs.ho.get 1 _ rfl) (cC (bs.ho.get 2 _ rfl) (cC (bs.ho.get 3 _ rfl) (cC (bs.ho.get 4 _ rfl) (cC (bs.ho.get 5 _ rfl) (cC (bs.ho.get 6 _ rfl) (cC (bs.ho.get 7 _ rfl) (cC (bs.ho.get 8 _ rfl) (cC (bs.ho.get 9 _ rfl) (cC (show lkp (ky 50 10) _ = some (Value.slice x.p10 (bX o).length x.c10) from by rw [e_month]; exact bs.ho.get 10 _ rfl) (cC (show lkp (ky 50 11) _ = some (Value.slice x.p11 (bL o).length x.c11) from by rw [e_mday]; exact bs.ho.get 11 _ rfl) (cC (bs.ho.get 12 _ rfl) (cC (bs.ho.get 13 _ rfl) (cC (show lkp (ky 50 14) _ = some (Value.slice x.p14 (bU o).length x.c14) from by rw [e_wday]; exact bs.ho.get 14 _ rfl) (cC (bs.ho.get 15 _ rfl) (cC (bs.ho.get 16 _ rfl) (cC (bs.ho.get 17 _ rfl) (cC (bs.ho.get 18 _ rfl) cN))))))))))))))))))), bs.hc, (cG kX bs.h2), bs.lim, bs.limB, (fX bs.frH), (fV bs.frS)⟩ s9 (by rw [e_month]; exact (s10).more) (by rw [e_mday]; exact (s11).more) s12 s13 (by rw [e_wday]; exact (s14).more) s15 s16 s17 s18 hR
def rc0 (o : Opn) (x : Av) : List Value := [iV o.freq, iV o.d, iV 0, iV o.interval, iV o.wkst, iV 0, iV o.count, iV o.u, iV 0, .slice x.p9 (o.setpos).length x.c9, .slice x.p10 (o.month).length x.c10, .slice x.p11 (o.mday).length x.c11, .slice x.p12 (o.yday).length x.c12, .slice x.p13 (o.weekno).length x.c13, .slice x.p14 (o.wday).length x.c14, .slice x.p15 (o.hour).length x.c15, .slice x.p16 (o.minute).length x.c16, .slice x.p17 (o.second).length x.c17, .slice x.p18 (o.easter).length x.c18, iV 0, iV 0, iV 0, iV 0, iV 0, iV 0, iV 0, iV 0, iV 0, sN, sN, sN, sN, sN, sN, sN, sN, sN, sN, iV 0, iV 0, iV 0, iV 0, iV 0, iV 0, iV 0, iV 0, sN, sN, sN, sN, sN, sN, sN, sN, sN, sN, sN, sN, sN, iV 0]
theorem aIo {R : Ending → World → Prop} {o : Opn} {x : Av} {b1 b2 b3 : Nat} {H0 : LV} {S0 : LS} (ok : OpOk o) (hsort : o.freq < 4 → j5 F w0 (raw o)) (bs : Bs F w0 B H0 S0 b1 b2 b3 (oc0 o x) (rc0 o x) H S) (s9 : SrcT F w0 S 11 (.slice x.p9 (o.setpos).length x.c9) o.setpos) (s10 : SrcT F w0 S 11 (.slice x.p10 (o.month).length x.c10) o.month) (s11 : SrcT F w0 S 11 (.slice x.p11 (o.mday).length x.c11) o.mday) (s12 : SrcT F w0 S 11 (.slice x.p12 (o.yday).length x.c12) o.yday) (s13 : SrcT F w0 S 11 (.slice x.p13 (o.weekno).length x.c13) o.weekno) (s14 : SrcU F w0 S 11 (.slice x.p14 (o.wday).length x.c14) o.wday) (s15 : SrcT F w0 S 11 (.slice x.p15 (o.hour).length x.c15) o.hour) (s16 : SrcT F w0 S 11 (.slice x.p16 (o.minute).length x.c16) o.minute) (s17 : SrcT F w0 S 11 (.slice x.p17 (o.second).length x.c17) o.second) (s18 : SrcT F w0 S 11 (.slice x.p18 (o.easter).length x.c18) o.easter)  (hR : ∀ (x : Av) (S' : LS), OutF F w0 o x S0 S' → ∀ w, Sees F w0 B H0 S' w → R (.returned (.agg (iY o x).toArray)) w) : GC Tryz.prog (Go.Fr.part [1, 1, 1] (Go.Fr.bodyOf Tryz.f43)) (bodyPost Tryz.prog Tryz.f43 R) 300 [(1, pT b1), (2, pT b2), (3, pT b3)] F w0 ((52, b3) :: (51, b2) :: (50, b1) :: B) H S := by
 have ok_ := ok
 have hd_ := ok.d
 have hi_ := ok.interval
 have hcn := ok.count
 have hu_ := ok.u
 refine g2 ?_
 refine rl (rfa 0) ?_
 refine rl (bE 50 rfl rfl (bs.ho.get 0 _ rfl) kR dE) ?_
 refine rl (rfa 38) ?_
 refine gL (cR 52 rfl rfl rfl (bs.hc.get 38 _ rfl) kR rfl dE ?_)
 refine g5 ?_
 refine rl (rfa 3) ?_
 refine rZ3 (bE 50 rfl rfl (bs.ho.get 3 _ rfl) kR dE) ?_
 refine aP rfl (decide_eq_false oM) ?_
 refine g4 ?_
 refine rl (rfa 3) ?_
 refine rl (bE 50 rfl rfl (bs.ho.get 3 _ rfl) kR dE) ?_
 refine rl (rfa 41) ?_
 refine gL (cR 52 rfl rfl rfl (bs.hc.get 41 _ rfl) kR rfl dE ?_)
 refine g5 ?_
 refine rl (rfa 6) ?_
 refine rZ3 (bE 50 rfl rfl (bs.ho.get 6 _ rfl) kR dE) ?_
 refine aP rfl (decide_eq_false oM) ?_
 refine g4 ?_
 refine rl (rfa 6) ?_
 refine rl (bE 50 rfl rfl (bs.ho.get 6 _ rfl) kR dE) ?_
 refine rl (rfa 43) ?_
 refine gL (cR 52 rfl rfl rfl (bs.hc.get 43 _ rfl) kR rfl dE ?_)
 refine g5 ?_
 refine rl (rfa 1) ?_
 refine rl (aV 50 rfl rfl (bs.ho.get 1 _ rfl) (bs.ho.get 2 _ rfl) kR dE) ?_
 refine gL (cvo rfl (fun w_ s_ => kM _ _ w_) ?_)
 refine g2 ?_
 refine aP rfl (decide_eq_false oM) ?_
 refine g4 ?_
 refine rl (rfa 1) ?_
 refine rl (aV 50 rfl rfl (bs.ho.get 1 _ rfl) (bs.ho.get 2 _ rfl) kR dE) ?_
 refine gL (cvo rfl (fun w_ s_ => nM _ _ _ w_) ?_)
 refine rl (rfa 1) ?_
 refine gL (cA 50 rfl rfl rfl (oJ (bs.ho.get 1 _ rfl) (bs.ho.get 2 _ rfl)) kR rfl ble ?_)
 refine g4 ?_
 refine rl (rfa 1) ?_
 refine rl (aV 50 rfl rfl rfl rfl kR dE) ?_
 refine rl (rfa 39) ?_
 refine gL (cA 52 rfl rfl rfl (oJ (bs.hc.get 39 _ rfl) (bs.hc.get 40 _ rfl)) kR rfl ble ?_)
 refine g5 ?_
 refine rl (rfa 7) ?_
 refine rl (aV 50 rfl rfl (bs.ho.get 7 _ rfl) (bs.ho.get 8 _ rfl) kR dE) ?_
 refine gL (cvo rfl (fun w_ s_ => kM _ _ w_) ?_)
 refine g2 ?_
 refine aB rfl (fun hc1 => ?_) (fun hc2 => ?_)
 ·have hu0 : o.u = 0 := by have := oT hc1; exact this.1
  refine g1 ?_
  refine rl (rfa 39) ?_
  refine rl (aV 52 rfl rfl rfl rfl kR dE) ?_
  refine gL (cvo (v := .agg #[iV (o.d + 9223372036), iV 854775807]) rfl (fun w_ s_ => (aDl _ _ oM oM w_).mono fun e_ w2_ h_ => ⟨h_.1.trans (congrArg Ending.returned rfl), h_.2⟩) ?_)
  refine rl (rfa 44) ?_
  refine gL (cA 52 rfl rfl rfl (oJ (bs.hc.get 44 _ rfl) (bs.hc.get 45 _ rfl)) kR rfl ble ?_)
  refine g4 ?_
  refine rl (rfa 4) ?_
  refine rl (rfa 0) ?_
  refine rl (bE 50 rfl rfl (bs.ho.get 4 _ rfl) kR dE) ?_
  refine rl (rfa 42) ?_
  refine gL (cR 52 rfl rfl rfl (bs.hc.get 42 _ rfl) kR rfl dE ?_)
  refine g4 ?_
  refine rl (rfa 9) ?_
  refine rl (bE 50 rfl rfl (bs.ho.get 9 _ rfl) kR dE) ?_
  refine rl (rfa 46) ?_
  refine gL (cR 52 rfl rfl rfl (bs.hc.get 46 _ rfl) kR rfl dE ?_)
  refine g2 ?_
  refine dO (L' := [(1, pT b1), (2, pT b2), (3, pT b3)]) kns (fun w s => s) ?_
  have e0 : until0 o = o.d + 9223372036 := by unfold until0; rw [if_pos hu0]
  have e1 : until1 o = 854775807 := by unfold until1; rw [if_pos hu0]
  refine bu_B (x := x) ok hsort (H := (ky 52 46, .slice x.p9 (o.setpos).length x.c9) :: (ky 52 42, iV o.wkst) :: (ky 52 45, iV 854775807) :: (ky 52 44, iV (o.d + 9223372036)) :: (ky 52 40, iV 0) :: (ky 52 39, iV o.d) :: (ky 50 2, iV 0) :: (ky 50 1, iV o.d) :: (ky 52 43, iV o.count) :: (ky 52 41, iV o.interval) :: (ky 52 38, iV o.freq) :: H) (S := S) ⟨(cC (bs.ho.get 0 _ rfl) (cC rfl (cC rfl (cC (bs.ho.get 3 _ rfl) (cC (bs.ho.get 4 _ rfl) (cC (bs.ho.get 5 _ rfl) (cC (bs.ho.get 6 _ rfl) (cC (bs.ho.get 7 _ rfl) (cC (bs.ho.get 8 _ rfl) (cC (bs.ho.get 9 _ rfl) (cC (bs.ho.get 10 _ rfl) (cC (bs.ho.get 11 _ rfl) (cC (bs.ho.get 12 _ rfl) (cC (bs.ho.get 13 _ rfl) (cC (bs.ho.get 14 _ rfl) (cC (bs.ho.get 15 _ rfl) (cC (bs.ho.get 16 _ rfl) (cC (bs.ho.get 17 _ rfl) (cC (bs.ho.get 18 _ rfl) cN))))))))))))))))))), (cC (bs.hc.get 0 _ rfl) (cC (bs.hc.get 1 _ rfl) (cC (bs.hc.get 2 _ rfl) (cC (bs.hc.get 3 _ rfl) (cC (bs.hc.get 4 _ rfl) (cC (bs.hc.get 5 _ rfl) (cC (bs.hc.get 6 _ rfl) (cC (bs.hc.get 7 _ rfl) (cC (bs.hc.get 8 _ rfl) (cC (bs.hc.get 9 _ rfl) (cC (bs.hc.get 10 _ rfl) (cC (bs.hc.get 11 _ rfl) (cC (bs.hc.get 12 _ rfl) (cC (bs.hc.get 13 _ rfl) (cC (bs.hc.get 14 _ rfl) (cC (bs.hc.get 15 _ rfl) (cC (bs.hc.get 16 _ rfl) (cC (bs.hc.get 17 _ rfl) (cC (bs.hc.get 18 _ rfl) (cC (bs.hc.get 19 _ rfl) (cC (bs.hc.get 20 _ rfl) (cC (bs.hc.get 21 _ rfl) (cC (bs.hc.get 22 _ rfl) (cC (bs.hc.get 23 _ rfl) (cC (bs.hc.get 24 _ rfl) (cC (bs.hc.get 25 _ rfl) (cC (bs.hc.get 26 _ rfl) (cC (bs.hc.get 27 _ rfl) (cC (bs.hc.get 28 _ rfl) (cC (bs.hc.get 29 _ rfl) (cC (bs.hc.get 30 _ rfl) (cC (bs.hc.get 31 _ rfl) (cC (bs.hc.get 32 _ rfl) (cC (bs.hc.get 33 _ rfl) (cC (bs.hc.get 34 _ rfl) (cC (bs.hc.get 35 _ rfl) (cC (bs.hc.get 36 _ rfl) (cC (bs.hc.get 37 _ rfl) (cC rfl (cC rfl (cC rfl (cC rfl (cC rfl (cC rfl (cC (show lkp (ky 52 44) _ = some (iV (until0 o)) from by rw [e0]; rfl) (cC (show lkp (ky 52 45) _ = some (iV (until1 o)) from by rw [e1]; rfl) (cC rfl (cC (bs.hc.get 47 _ rfl) (cC (bs.hc.get 48 _ rfl) (cC (bs.hc.get 49 _ rfl) (cC (bs.hc.get 50 _ rfl) (cC (bs.hc.get 51 _ rfl) (cC (bs.hc.get 52 _ rfl) (cC (bs.hc.get 53 _ rfl) (cC (bs.hc.get 54 _ rfl) (cC (bs.hc.get 55 _ rfl) (cC (bs.hc.get 56 _ rfl) (cC (bs.hc.get 57 _ rfl) (cC (bs.hc.get 58 _ rfl) (cC (bs.hc.get 59 _ rfl) cN)))))))))))))))))))))))))))))))))))))))))))))))))))))))))))), (cG kX bs.h2), (lY bs.lim), bs.limB, (fX bs.frH), (fV bs.frS)⟩ s9 s10 s11 s12 s13 s14 s15 s16 s17 s18 hR
 ·have hu0 : ¬ o.u = 0 := by have := oF hc2; omega
  refine g2 ?_
  refine rl (rfa 7) ?_
  refine rl (aV 50 rfl rfl (bs.ho.get 7 _ rfl) (bs.ho.get 8 _ rfl) kR dE) ?_
  refine gL (cvo rfl (fun w_ s_ => nM _ _ _ w_) ?_)
  refine rl (rfa 7) ?_
  refine gL (cA 50 rfl rfl rfl (oJ (bs.ho.get 7 _ rfl) (bs.ho.get 8 _ rfl)) kR rfl ble ?_)
  refine g3 ?_
  refine rl (rfa 7) ?_
  refine rl (aV 50 rfl rfl rfl rfl kR dE) ?_
  refine rl (rfa 44) ?_
  refine gL (cA 52 rfl rfl rfl (oJ (bs.hc.get 44 _ rfl) (bs.hc.get 45 _ rfl)) kR rfl ble ?_)
  refine g4 ?_
  refine rl (rfa 4) ?_
  refine rl (rfa 0) ?_
  refine rl (bE 50 rfl rfl (bs.ho.get 4 _ rfl) kR dE) ?_
  refine rl (rfa 42) ?_
  refine gL (cR 52 rfl rfl rfl (bs.hc.get 42 _ rfl) kR rfl dE ?_)
  refine g4 ?_
  refine rl (rfa 9) ?_
  refine rl (bE 50 rfl rfl (bs.ho.get 9 _ rfl) kR dE) ?_
  refine rl (rfa 46) ?_
  refine gL (cR 52 rfl rfl rfl (bs.hc.get 46 _ rfl) kR rfl dE ?_)
  refine g2 ?_
  refine dO (L' := [(1, pT b1), (2, pT b2), (3, pT b3)]) kns (fun w s => s) ?_
  have e0 : until0 o = o.u := by unfold until0; rw [if_neg hu0]
  have e1 : until1 o = 0 := by unfold until1; rw [if_neg hu0]
  refine bu_B (x := x) ok hsort (H := (ky 52 46, .slice x.p9 (o.setpos).length x.c9) :: (ky 52 42, iV o.wkst) :: (ky 52 45, iV 0) :: (ky 52 44, iV o.u) :: (ky 50 8, iV 0) :: (ky 50 7, iV o.u) :: (ky 52 40, iV 0) :: (ky 52 39, iV o.d) :: (ky 50 2, iV 0) :: (ky 50 1, iV o.d) :: (ky 52 43, iV o.count) :: (ky 52 41, iV o.interval) :: (ky 52 38, iV o.freq) :: H) (S := S) ⟨(cC (bs.ho.get 0 _ rfl) (cC rfl (cC rfl (cC (bs.ho.get 3 _ rfl) (cC (bs.ho.get 4 _ rfl) (cC (bs.ho.get 5 _ rfl) (cC (bs.ho.get 6 _ rfl) (cC rfl (cC rfl (cC (bs.ho.get 9 _ rfl) (cC (bs.ho.get 10 _ rfl) (cC (bs.ho.get 11 _ rfl) (cC (bs.ho.get 12 _ rfl) (cC (bs.ho.get 13 _ rfl) (cC (bs.ho.get 14 _ rfl) (cC (bs.ho.get 15 _ rfl) (cC (bs.ho.get 16 _ rfl) (cC (bs.ho.get 17 _ rfl) (cC (bs.ho.get 18 _ rfl) cN))))))))))))))))))), (cC (bs.hc.get 0 _ rfl) (cC (bs.hc.get 1 _ rfl) (cC (bs.hc.get 2 _ rfl) (cC (bs.hc.get 3 _ rfl) (cC (bs.hc.get 4 _ rfl) (cC (bs.hc.get 5 _ rfl) (cC (bs.hc.get 6 _ rfl) (cC (bs.hc.get 7 _ rfl) (cC (bs.hc.get 8 _ rfl) (cC (bs.hc.get 9 _ rfl) (cC (bs.hc.get 10 _ rfl) (cC (bs.hc.get 11 _ rfl) (cC (bs.hc.get 12 _ rfl) (cC (bs.hc.get 13 _ rfl) (cC (bs.hc.get 14 _ rfl) (cC (bs.hc.get 15 _ rfl) (cC (bs.hc.get 16 _ rfl) (cC (bs.hc.get 17 _ rfl) (cC (bs.hc.get 18 _ rfl) (cC (bs.hc.get 19 _ rfl) (cC (bs.hc.get 20 _ rfl) (cC (bs.hc.get 21 _ rfl) (cC (bs.hc.get 22 _ rfl) (cC (bs.hc.get 23 _ rfl) (cC (bs.hc.get 24 _ rfl) (cC (bs.hc.get 25 _ rfl) (cC (bs.hc.get 26 _ rfl) (cC (bs.hc.get 27 _ rfl) (cC (bs.hc.get 28 _ rfl) (cC (bs.hc.get 29 _ rfl) (cC (bs.hc.get 30 _ rfl) (cC (bs.hc.get 31 _ rfl) (cC (bs.hc.get 32 _ rfl) (cC (bs.hc.get 33 _ rfl) (cC (bs.hc.get 34 _ rfl) (cC (bs.hc.get 35 _ rfl) (cC (bs.hc.get 36 _ rfl) (cC (bs.hc.get 37 _ rfl) (cC rfl (cC rfl (cC rfl (cC rfl (cC rfl (cC rfl (cC (show lkp (ky 52 44) _ = some (iV (until0 o)) from by rw [e0]; rfl) (cC (show lkp (ky 52 45) _ = some (iV (until1 o)) from by rw [e1]; rfl) (cC rfl (cC (bs.hc.get 47 _ rfl) (cC (bs.hc.get 48 _ rfl) (cC (bs.hc.get 49 _ rfl) (cC (bs.hc.get 50 _ rfl) (cC (bs.hc.get 51 _ rfl) (cC (bs.hc.get 52 _ rfl) (cC (bs.hc.get 53 _ rfl) (cC (bs.hc.get 54 _ rfl) (cC (bs.hc.get 55 _ rfl) (cC (bs.hc.get 56 _ rfl) (cC (bs.hc.get 57 _ rfl) (cC (bs.hc.get 58 _ rfl) (cC (bs.hc.get 59 _ rfl) cN)))))))))))))))))))))))))))))))))))))))))))))))))))))))))))), (cG kX bs.h2), (lY bs.lim), bs.limB, (fX bs.frH), (fV bs.frS)⟩ s9 s10 s11 s12 s13 s14 s15 s16 s17 s18 hR
def aGz (i : Nat) : Int := match i with | 0 => 0 | 1 => 0 | 2 => 0 | 3 => 1 | 4 => 1 | 5 => 1 | 6 => 1 | 7 => 1 | _ => 0
def aGy (i : Nat) : Int := match i with | 0 => 59 | 1 => 59 | 2 => 23 | 3 => 31 | 4 => 366 | 5 => 53 | 6 => 12 | 7 => 366 | _ => 0
def vbP (i : Nat) : Bool := match i with | 0 => false | 1 => false | 2 => false | 3 => true | 4 => true | 5 => true | 6 => false | 7 => true | _ => false
def aBr (i : Nat) : Value := match i with | 0 => .string ⟨#[98, 121, 115, 101, 99, 111, 110, 100]⟩ | 1 => .string ⟨#[98, 121, 109, 105, 110, 117, 116, 101]⟩ | 2 => .string ⟨#[98, 121, 104, 111, 117, 114]⟩ | 3 => .string ⟨#[98, 121, 109, 111, 110, 116, 104, 100, 97, 121]⟩ | 4 => .string ⟨#[98, 121, 121, 101, 97, 114, 100, 97, 121]⟩ | 5 => .string ⟨#[98, 121, 119, 101, 101, 107, 110, 111]⟩ | 6 => .string ⟨#[98, 121, 109, 111, 110, 116, 104]⟩ | 7 => .string ⟨#[98, 121, 115, 101, 116, 112, 111, 115]⟩ | _ => .nilIface
def vbL (o : Opn) (i : Nat) : List Int := match i with | 0 => o.second | 1 => o.minute | 2 => o.hour | 3 => o.mday | 4 => o.yday | 5 => o.weekno | 6 => o.month | 7 => o.setpos | _ => []
def aBi (x : Av) (i : Nat) : Option Addr := match i with | 0 => x.p17 | 1 => x.p16 | 2 => x.p15 | 3 => x.p11 | 4 => x.p12 | 5 => x.p13 | 6 => x.p10 | 7 => x.p9 | _ => none
def aAs (x : Av) (i : Nat) : Nat := match i with | 0 => x.c17 | 1 => x.c16 | 2 => x.c15 | 3 => x.c11 | 4 => x.c12 | 5 => x.c13 | 6 => x.c10 | 7 => x.c9 | _ => 0
def vbB (bb0 bb1 bb2 bb3 bb4 bb5 bb6 bb7 : Nat) (i : Nat) : Nat := match i with | 0 => bb0 | 1 => bb1 | 2 => bb2 | 3 => bb3 | 4 => bb4 | 5 => bb5 | 6 => bb6 | 7 => bb7 | _ => 0
def pI (o : Opn) (x : Av) (bb0 bb1 bb2 bb3 bb4 bb5 bb6 bb7 : Nat) : List Value := [.slice x.p17 (o.second).length x.c17, .string ⟨#[98, 121, 115, 101, 99, 111, 110, 100]⟩, sL bb0 2 2, .bool false, .slice x.p16 (o.minute).length x.c16, .string ⟨#[98, 121, 109, 105, 110, 117, 116, 101]⟩, sL bb1 2 2, .bool false, .slice x.p15 (o.hour).length x.c15, .string ⟨#[98, 121, 104, 111, 117, 114]⟩, sL bb2 2 2, .bool false, .slice x.p11 (o.mday).length x.c11, .string ⟨#[98, 121, 109, 111, 110, 116, 104, 100, 97, 121]⟩, sL bb3 2 2, .bool true, .slice x.p12 (o.yday).length x.c12, .string ⟨#[98, 121, 121, 101, 97, 114, 100, 97, 121]⟩, sL bb4 2 2, .bool true, .slice x.p13 (o.weekno).length x.c13, .string ⟨#[98, 121, 119, 101, 101, 107, 110, 111]⟩, sL bb5 2 2, .bool true, .slice x.p10 (o.month).length x.c10, .string ⟨#[98, 121, 109, 111, 110, 116, 104]⟩, sL bb6 2 2, .bool false, .slice x.p9 (o.setpos).length x.c9, .string ⟨#[98, 121, 115, 101, 116, 112, 111, 115]⟩, sL bb7 2 2, .bool true]
theorem aJh (o : Opn) (x : Av) {bb0 bb1 bb2 bb3 bb4 bb5 bb6 bb7 : Nat} {i : Nat} (h : i < 8) : (pI o x bb0 bb1 bb2 bb3 bb4 bb5 bb6 bb7)[4 * i]? = some (.slice (aBi x i) (vbL o i).length (aAs x i)) ∧ (pI o x bb0 bb1 bb2 bb3 bb4 bb5 bb6 bb7)[4 * i + 1]? = some (aBr i) ∧ (pI o x bb0 bb1 bb2 bb3 bb4 bb5 bb6 bb7)[4 * i + 2]? = some (.slice (some ⟨vbB bb0 bb1 bb2 bb3 bb4 bb5 bb6 bb7 i, 0, none⟩) 2 2) ∧ (pI o x bb0 bb1 bb2 bb3 bb4 bb5 bb6 bb7)[4 * i + 3]? = some (.bool (vbP i)) := by
 have e : i = 0 ∨ i = 1 ∨ i = 2 ∨ i = 3 ∨ i = 4 ∨ i = 5 ∨ i = 6 ∨ i = 7 := by omega
 rcases e with rfl | rfl | rfl | rfl | rfl | rfl | rfl | rfl <;> exact ⟨rfl, rfl, rfl, rfl⟩
def inB (lo hi : Int) (pm : Bool) (y : Int) : Prop := (lo ≤ y ∧ y ≤ hi) ∨ (pm = true ∧ -hi ≤ y ∧ y ≤ -lo)
structure VbOk (o : Opn) : Prop where
 nums : ∀ i, i < 8 → ∀ y ∈ vbL o i, inB (aGz i) (aGy i) (vbP i) y
 days : ∀ y ∈ o.wday, -53 ≤ y.2 ∧ y.2 ≤ 53
 interval : 0 ≤ o.interval
 lens : ∀ i, i < 8 → (vbL o i).length ≤ 1000000000
 wlen : o.wday.length ≤ 1000000000
theorem aC7 {b k : Nat} {lo hi y : Int} {pm : Bool} {ps : Value} (hrow : lkp k S = some ⟨sL b 2 2, 3, 1, 2, [iV lo, iV hi]⟩) (hb : 0 ≤ lo ∧ lo ≤ 1000 ∧ 0 ≤ hi ∧ hi ≤ 1000) (hin : inB lo hi pm y) :
  ∀ w, Sees F w0 B H S w → Calls Tryz.prog 64 #[ps, iV y, sL b 2 2, .bool pm] w fun e w' => e = .returned .nilIface ∧ Sees F w0 B H S w' := by
 intro w s
 refine aI (args := [ps, iV y, sL b 2 2, .bool pm]) (L := [(0, ps), (1, iV y), (2, sL b 2 2), (3, .bool pm)]) (N := 44) Tryz.func64 rfl rfl ble rfl s ?_
 refine g7 ?_
 by_cases h1 : lo ≤ y
 ·by_cases h2 : y ≤ hi
  ·refine g3 ?_
   refine rl (aF (e := 3) (n := 1) kR rfl rfl dE dE) ?_
   refine rl (bP k rfl hrow rfl rfl kR) ?_
   refine rl ((bZ rfl rfl).to (v' := .bool true) (cB (decide_eq_true h1))) ?_
   refine g6 ?_
   refine rZ1 (aF (e := 3) (n := 1) kR rfl rfl dE dE) ?_
   refine rZ1 (bP k rfl hrow rfl rfl kR) ?_
   refine rZ1 ((gV rfl rfl).to (v' := .bool true) (cB (decide_eq_true h2))) ?_
   refine rl ((gA rfl).to (v' := .bool false) (cB (rfl))) ?_
   refine g20 ?_
   refine mQ ?_
   refine gR rfl fun w s => ⟨rfl, s⟩
  ·obtain ⟨hpm, h3, h4⟩ : pm = true ∧ -hi ≤ y ∧ y ≤ -lo := by rcases hin with h | h; exact absurd h.2 h2; exact h
   refine g3 ?_
   refine rl (aF (e := 3) (n := 1) kR rfl rfl dE dE) ?_
   refine rl (bP k rfl hrow rfl rfl kR) ?_
   refine rl ((bZ rfl rfl).to (v' := .bool true) (cB (decide_eq_true h1))) ?_
   refine g6 ?_
   refine rZ1 (aF (e := 3) (n := 1) kR rfl rfl dE dE) ?_
   refine rZ1 (bP k rfl hrow rfl rfl kR) ?_
   refine rZ1 ((gV rfl rfl).to (v' := .bool false) (cB (decide_eq_false h2))) ?_
   refine rZ4 ((gA rfl).to (v' := .bool true) (cB (rfl))) ?_
   refine rZ7 ((gA rfl).to (v' := .bool false) (cB (by rw [hpm]; rfl))) ?_
   refine rZ1 (aF (e := 3) (n := 1) kR rfl rfl dE dE) ?_
   refine rZ3 (bP k rfl hrow rfl rfl kR) ?_
   refine rZ7 ((gV rfl rfl).to bT) ?_
   refine rZ1 (aF (e := 3) (n := 1) kR rfl rfl dE dE) ?_
   refine rZ3 (bP k rfl hrow rfl rfl kR) ?_
   refine rZ3 ((bZ rfl rfl).to bT) ?_
   refine rl ((gA rfl).to (v' := .bool false) (cB (rfl))) ?_
   refine lJ ?_
   refine gR rfl fun w s => ⟨rfl, s⟩
 ·obtain ⟨hpm, h3, h4⟩ : pm = true ∧ -hi ≤ y ∧ y ≤ -lo := by rcases hin with h | h; exact absurd h.1 h1; exact h
  refine g3 ?_
  refine rl (aF (e := 3) (n := 1) kR rfl rfl dE dE) ?_
  refine rl (bP k rfl hrow rfl rfl kR) ?_
  refine rZ7 ((bZ rfl rfl).to (v' := .bool false) (cB (decide_eq_false h1))) ?_
  refine rZ4 ((gA rfl).to (v' := .bool true) (cB (rfl))) ?_
  refine rZ7 ((gA rfl).to (v' := .bool false) (cB (by rw [hpm]; rfl))) ?_
  refine rZ1 (aF (e := 3) (n := 1) kR rfl rfl dE dE) ?_
  refine rZ3 (bP k rfl hrow rfl rfl kR) ?_
  refine rZ7 ((gV rfl rfl).to bT) ?_
  refine rZ1 (aF (e := 3) (n := 1) kR rfl rfl dE dE) ?_
  refine rZ3 (bP k rfl hrow rfl rfl kR) ?_
  refine rZ3 ((bZ rfl rfl).to bT) ?_
  refine rl ((gA rfl).to (v' := .bool false) (cB (rfl))) ?_
  refine lJ ?_
  refine gR rfl fun w s => ⟨rfl, s⟩
section
variable {P : Program} {N : Nat} {L : Fr.Loc} {d : Nat} {v : Value} {ty : TypeId} {pos : String} {aft : Array Edge} {g : Option (Nat × Bool)}
theorem i4 {t : TypeId} {x y z u : Operand} {vx vy vz vu : Value} (hx : ev L x = some vx) (hy : ev L y = some vy) (hz : ev L z = some vz) (hu : ev L u = some vu) (hb : ∀ w : World, (Instr.build t #[(0, vx), (1, vy), (2, vz), (3, vu)]).run P w = .ok (.agg #[vx, vy, vz, vu]) w) : Rd P ⟨some d, .build t #[(0, x), (1, y), (2, z), (3, u)], ty, pos, aft, g⟩ N L F w0 B H S (.agg #[vx, vy, vz, vu]) :=
 gP (ps := [(0, x), (1, y), (2, z), (3, u)]) (vs := [(0, vx), (1, vy), (2, vz), (3, vu)]) (by simp [evp, hx, hy, hz, hu]) hb
end
theorem aCm {k b o len cap : Nat} {q : Slc} {w : World} (s : Sees F w0 B H S w) (hl : lkp k S = some q) (hv : q.v = sL b len cap) {cs : List Value} (h : ∀ (j : Nat) u, cs[j]? = some u → q.xs[o + j]? = some u) : w.rangeAt b o cs := fun j u hu => s.aJ5 hl hv (h j u hu)
theorem aG2 {R : Ending → World → Prop} {o : Opn} {x : Av} (vk : VbOk o) {b1 : Nat} (hb1 : lkp 50 B = some b1) (hc : cellsAt 50 H 0 (oc0 o x)) (lim : Lim 53 B H S) (s9 : SrcT F w0 S 11 (.slice x.p9 (o.setpos).length x.c9) o.setpos) (s10 : SrcT F w0 S 11 (.slice x.p10 (o.month).length x.c10) o.month) (s11 : SrcT F w0 S 11 (.slice x.p11 (o.mday).length x.c11) o.mday) (s12 : SrcT F w0 S 11 (.slice x.p12 (o.yday).length x.c12) o.yday) (s13 : SrcT F w0 S 11 (.slice x.p13 (o.weekno).length x.c13) o.weekno) (s14 : SrcU F w0 S 11 (.slice x.p14 (o.wday).length x.c14) o.wday) (s15 : SrcT F w0 S 11 (.slice x.p15 (o.hour).length x.c15) o.hour) (s16 : SrcT F w0 S 11 (.slice x.p16 (o.minute).length x.c16) o.minute) (s17 : SrcT F w0 S 11 (.slice x.p17 (o.second).length x.c17) o.second) (s18 : SrcT F w0 S 11 (.slice x.p18 (o.easter).length x.c18) o.easter) (hR : ∀ w, Sees F w0 B H S w → R (.returned .nilIface) w) :
  GC Tryz.prog (Go.Fr.part [1] (Go.Fr.bodyOf Tryz.f42)) (bodyPost Tryz.prog Tryz.f42 R) 93 [(1, pT b1)] F w0 B H S := by
 refine g2 ?_
 refine rl (rfa 17) ?_
 refine rl (bE 50 rfl hb1 (hc.get 17 _ rfl) kR dE) ?_
 refine gL (eG 60 (e := 3) (sz := 1) (n := 2) (vs := [(0, iV 0), (1, iV 59)]) (cs := [iV 0, iV 59]) dE rfl kW rfl dE dE (lim.s 60 dE) (fun bb0 hbb0 => ?_))
 refine rl ((i4 rfl rfl rfl rfl kW)) ?_
 refine rl (rfa 16) ?_
 refine rl (bE 50 rfl hb1 (hc.get 16 _ rfl) kR dE) ?_
 refine gL (eG 61 (e := 3) (sz := 1) (n := 2) (vs := [(0, iV 0), (1, iV 59)]) (cs := [iV 0, iV 59]) dE rfl kW rfl dE dE (lim.s 61 dE) (fun bb1 hbb1 => ?_))
 refine rl ((i4 rfl rfl rfl rfl kW)) ?_
 refine rl (rfa 15) ?_
 refine rl (bE 50 rfl hb1 (hc.get 15 _ rfl) kR dE) ?_
 refine gL (eG 62 (e := 3) (sz := 1) (n := 2) (vs := [(0, iV 0), (1, iV 23)]) (cs := [iV 0, iV 23]) dE rfl kW rfl dE dE (lim.s 62 dE) (fun bb2 hbb2 => ?_))
 refine rl ((i4 rfl rfl rfl rfl kW)) ?_
 refine rl (rfa 11) ?_
 refine rl (bE 50 rfl hb1 (hc.get 11 _ rfl) kR dE) ?_
 refine gL (eG 63 (e := 3) (sz := 1) (n := 2) (vs := [(0, iV 1), (1, iV 31)]) (cs := [iV 1, iV 31]) dE rfl kW rfl dE dE (lim.s 63 dE) (fun bb3 hbb3 => ?_))
 refine rl ((i4 rfl rfl rfl rfl kW)) ?_
 refine rl (rfa 12) ?_
 refine rl (bE 50 rfl hb1 (hc.get 12 _ rfl) kR dE) ?_
 refine gL (eG 64 (e := 3) (sz := 1) (n := 2) (vs := [(0, iV 1), (1, iV 366)]) (cs := [iV 1, iV 366]) dE rfl kW rfl dE dE (lim.s 64 dE) (fun bb4 hbb4 => ?_))
 refine rl ((i4 rfl rfl rfl rfl kW)) ?_
 refine rl (rfa 13) ?_
 refine rl (bE 50 rfl hb1 (hc.get 13 _ rfl) kR dE) ?_
 refine gL (eG 65 (e := 3) (sz := 1) (n := 2) (vs := [(0, iV 1), (1, iV 53)]) (cs := [iV 1, iV 53]) dE rfl kW rfl dE dE (lim.s 65 dE) (fun bb5 hbb5 => ?_))
 refine rl ((i4 rfl rfl rfl rfl kW)) ?_
 refine rl (rfa 10) ?_
 refine rl (bE 50 rfl hb1 (hc.get 10 _ rfl) kR dE) ?_
 refine gL (eG 66 (e := 3) (sz := 1) (n := 2) (vs := [(0, iV 1), (1, iV 12)]) (cs := [iV 1, iV 12]) dE rfl kW rfl dE dE (lim.s 66 dE) (fun bb6 hbb6 => ?_))
 refine rl ((i4 rfl rfl rfl rfl kW)) ?_
 refine rl (rfa 9) ?_
 refine rl (bE 50 rfl hb1 (hc.get 9 _ rfl) kR dE) ?_
 refine gL (eG 67 (e := 3) (sz := 1) (n := 2) (vs := [(0, iV 1), (1, iV 366)]) (cs := [iV 1, iV 366]) dE rfl kW rfl dE dE (lim.s 67 dE) (fun bb7 hbb7 => ?_))
 refine rl ((i4 rfl rfl rfl rfl kW)) ?_
 refine gL (eG 68 (e := 109) (sz := 4) (n := 8) (vs := [(0, .agg #[.slice x.p17 (o.second).length x.c17, .string ⟨#[98, 121, 115, 101, 99, 111, 110, 100]⟩, sL bb0 2 2, .bool false]), (1, .agg #[.slice x.p16 (o.minute).length x.c16, .string ⟨#[98, 121, 109, 105, 110, 117, 116, 101]⟩, sL bb1 2 2, .bool false]), (2, .agg #[.slice x.p15 (o.hour).length x.c15, .string ⟨#[98, 121, 104, 111, 117, 114]⟩, sL bb2 2 2, .bool false]), (3, .agg #[.slice x.p11 (o.mday).length x.c11, .string ⟨#[98, 121, 109, 111, 110, 116, 104, 100, 97, 121]⟩, sL bb3 2 2, .bool true]), (4, .agg #[.slice x.p12 (o.yday).length x.c12, .string ⟨#[98, 121, 121, 101, 97, 114, 100, 97, 121]⟩, sL bb4 2 2, .bool true]), (5, .agg #[.slice x.p13 (o.weekno).length x.c13, .string ⟨#[98, 121, 119, 101, 101, 107, 110, 111]⟩, sL bb5 2 2, .bool true]), (6, .agg #[.slice x.p10 (o.month).length x.c10, .string ⟨#[98, 121, 109, 111, 110, 116, 104]⟩, sL bb6 2 2, .bool false]), (7, .agg #[.slice x.p9 (o.setpos).length x.c9, .string ⟨#[98, 121, 115, 101, 116, 112, 111, 115]⟩, sL bb7 2 2, .bool true])]) (cs := pI o x bb0 bb1 bb2 bb3 bb4 bb5 bb6 bb7) dE rfl kW rfl dE dE (lim.s 68 dE) (fun bz hbz => ?_))
 refine g16 ?_
 refine g1 ?_
 refine bJ (ι := (Nat)) (fun i => 8 - i) (fun i => (i ≤ 8)) (fun i => [(1, pT b1), (4, .func (.func 64) #[] #[]), (45, sL bz 8 8), (46, iV 8), (47, iV i)]) (fun i => B) (fun i => H) (fun i => (68, ⟨sL bz 8 8, 109, 4, 8, pI o x bb0 bb1 bb2 bb3 bb4 bb5 bb6 bb7⟩) :: (67, ⟨sL bb7 2 2, 3, 1, 2, [iV 1, iV 366]⟩) :: (66, ⟨sL bb6 2 2, 3, 1, 2, [iV 1, iV 12]⟩) :: (65, ⟨sL bb5 2 2, 3, 1, 2, [iV 1, iV 53]⟩) :: (64, ⟨sL bb4 2 2, 3, 1, 2, [iV 1, iV 366]⟩) :: (63, ⟨sL bb3 2 2, 3, 1, 2, [iV 1, iV 31]⟩) :: (62, ⟨sL bb2 2 2, 3, 1, 2, [iV 0, iV 23]⟩) :: (61, ⟨sL bb1 2 2, 3, 1, 2, [iV 0, iV 59]⟩) :: (60, ⟨sL bb0 2 2, 3, 1, 2, [iV 0, iV 59]⟩) :: S) 0 (Nat.zero_le _) kns (fun w s => by exact s) ?_
 rintro i hi
 show GC _ _ _ _ [(1, pT b1), (4, .func (.func 64) #[] #[]), (45, sL bz 8 8), (46, iV 8), (47, iV i)] _ _ (B) (H) ((68, ⟨sL bz 8 8, 109, 4, 8, pI o x bb0 bb1 bb2 bb3 bb4 bb5 bb6 bb7⟩) :: (67, ⟨sL bb7 2 2, 3, 1, 2, [iV 1, iV 366]⟩) :: (66, ⟨sL bb6 2 2, 3, 1, 2, [iV 1, iV 12]⟩) :: (65, ⟨sL bb5 2 2, 3, 1, 2, [iV 1, iV 53]⟩) :: (64, ⟨sL bb4 2 2, 3, 1, 2, [iV 1, iV 366]⟩) :: (63, ⟨sL bb3 2 2, 3, 1, 2, [iV 1, iV 31]⟩) :: (62, ⟨sL bb2 2 2, 3, 1, 2, [iV 0, iV 23]⟩) :: (61, ⟨sL bb1 2 2, 3, 1, 2, [iV 0, iV 59]⟩) :: (60, ⟨sL bb0 2 2, 3, 1, 2, [iV 0, iV 59]⟩) :: S)
 refine g6 ?_
 refine aB rfl (fun hc1 => ?_) (fun hc2 => ?_)
 ·have hlt : i < 8 := by have := oT hc1; omega
  obtain ⟨q0, q1, q2, q3⟩ := aJh o x (bb0 := bb0) (bb1 := bb1) (bb2 := bb2) (bb3 := bb3) (bb4 := bb4) (bb5 := bb5) (bb6 := bb6) (bb7 := bb7) hlt
  have e8 : i = 0 ∨ i = 1 ∨ i = 2 ∨ i = 3 ∨ i = 4 ∨ i = 5 ∨ i = 6 ∨ i = 7 := by omega
  have hrow : lkp (60 + i) ((68, ⟨sL bz 8 8, 109, 4, 8, pI o x bb0 bb1 bb2 bb3 bb4 bb5 bb6 bb7⟩) :: (67, ⟨sL bb7 2 2, 3, 1, 2, [iV 1, iV 366]⟩) :: (66, ⟨sL bb6 2 2, 3, 1, 2, [iV 1, iV 12]⟩) :: (65, ⟨sL bb5 2 2, 3, 1, 2, [iV 1, iV 53]⟩) :: (64, ⟨sL bb4 2 2, 3, 1, 2, [iV 1, iV 366]⟩) :: (63, ⟨sL bb3 2 2, 3, 1, 2, [iV 1, iV 31]⟩) :: (62, ⟨sL bb2 2 2, 3, 1, 2, [iV 0, iV 23]⟩) :: (61, ⟨sL bb1 2 2, 3, 1, 2, [iV 0, iV 59]⟩) :: (60, ⟨sL bb0 2 2, 3, 1, 2, [iV 0, iV 59]⟩) :: S) = some ⟨.slice (some ⟨vbB bb0 bb1 bb2 bb3 bb4 bb5 bb6 bb7 i, 0, none⟩) 2 2, 3, 1, 2, [iV (aGz i), iV (aGy i)]⟩ := by rcases e8 with rfl | rfl | rfl | rfl | rfl | rfl | rfl | rfl <;> rfl
  have hbd : 0 ≤ aGz i ∧ aGz i ≤ 1000 ∧ 0 ≤ aGy i ∧ aGy i ≤ 1000 := by rcases e8 with rfl | rfl | rfl | rfl | rfl | rfl | rfl | rfl <;> decide
  have hvl := vk.lens i hlt
  have src : SrcT F w0 S 11 (.slice (aBi x i) (vbL o i).length (aAs x i)) (vbL o i) := by rcases e8 with rfl | rfl | rfl | rfl | rfl | rfl | rfl | rfl <;> first | exact s17 | exact s16 | exact s15 | exact s11 | exact s12 | exact s13 | exact s10 | exact s9
  refine g6 ?_
  refine rl (aF (e := 109) (n := 4) kR rfl rfl oM oM) ?_
  refine rl (fI (cs := [.slice (aBi x i) (vbL o i).length (aAs x i), aBr i, .slice (some ⟨vbB bb0 bb1 bb2 bb3 bb4 bb5 bb6 bb7 i, 0, none⟩) 2 2, .bool (vbP i)]) kR rfl (fun w s => aCm (k := 68) s rfl rfl (fun j u hu => by match j, hu with | 0, hu => exact (by rw [← hu]; exact (congrArg (fun n => (pI o x bb0 bb1 bb2 bb3 bb4 bb5 bb6 bb7)[n]?) (show 0 + (i : Int).toNat * 4 + 0 = 4 * i by omega)).trans q0) | 1, hu => exact (by rw [← hu]; exact (congrArg (fun n => (pI o x bb0 bb1 bb2 bb3 bb4 bb5 bb6 bb7)[n]?) (show 0 + (i : Int).toNat * 4 + 1 = 4 * i + 1 by omega)).trans q1) | 2, hu => exact (by rw [← hu]; exact (congrArg (fun n => (pI o x bb0 bb1 bb2 bb3 bb4 bb5 bb6 bb7)[n]?) (show 0 + (i : Int).toNat * 4 + 2 = 4 * i + 2 by omega)).trans q2) | 3, hu => exact (by rw [← hu]; exact (congrArg (fun n => (pI o x bb0 bb1 bb2 bb3 bb4 bb5 bb6 bb7)[n]?) (show 0 + (i : Int).toNat * 4 + 3 = 4 * i + 3 by omega)).trans q3)))) ?_
  refine gL (eB 70 (cs := [sN, .string ⟨#[]⟩, sN, .bool false]) dE kR (lim.b 70 dE) (fun o ho => lim.h 70 dE o ho) ble (fun b6 hb6 => ?_))
  refine gL (cA 70 rfl rfl rfl rfl kR (by rcases e8 with rfl | rfl | rfl | rfl | rfl | rfl | rfl | rfl <;> rfl) ble ?_)
  refine g4 ?_
  refine rl (rfa 0) ?_
  refine rZ5 (rld 70 rfl rfl rfl) ?_
  refine bJ (ι := (Nat)) (fun j => (vbL o i).length - j) (fun j => (j ≤ (vbL o i).length)) (fun j => [(1, pT b1), (4, .func (.func 64) #[] #[]), (45, sL bz 8 8), (46, iV 8), (47, iV i), (6, pT b6), (52, .slice (aBi x i) (vbL o i).length (aAs x i)), (53, iV ((vbL o i).length)), (54, iV j)]) (fun j => (70, b6) :: B) (fun j => aC 70 0 [.slice (aBi x i) (vbL o i).length (aAs x i), aBr i, .slice (some ⟨vbB bb0 bb1 bb2 bb3 bb4 bb5 bb6 bb7 i, 0, none⟩) 2 2, .bool (vbP i)] ++ H) (fun j => (68, ⟨sL bz 8 8, 109, 4, 8, pI o x bb0 bb1 bb2 bb3 bb4 bb5 bb6 bb7⟩) :: (67, ⟨sL bb7 2 2, 3, 1, 2, [iV 1, iV 366]⟩) :: (66, ⟨sL bb6 2 2, 3, 1, 2, [iV 1, iV 12]⟩) :: (65, ⟨sL bb5 2 2, 3, 1, 2, [iV 1, iV 53]⟩) :: (64, ⟨sL bb4 2 2, 3, 1, 2, [iV 1, iV 366]⟩) :: (63, ⟨sL bb3 2 2, 3, 1, 2, [iV 1, iV 31]⟩) :: (62, ⟨sL bb2 2 2, 3, 1, 2, [iV 0, iV 23]⟩) :: (61, ⟨sL bb1 2 2, 3, 1, 2, [iV 0, iV 59]⟩) :: (60, ⟨sL bb0 2 2, 3, 1, 2, [iV 0, iV 59]⟩) :: S) 0 (Nat.zero_le _) kns (fun w s => by exact s.low 71 (Lim.aJ4 dE _ 0 ble (by repeat (first | exact lim.mono dE | apply Lim.aJ2 _ dE | apply Lim.aJ3 _ dE))) agx agx agx) ?_
  rintro j hj
  show GC _ _ _ _ [(1, pT b1), (4, .func (.func 64) #[] #[]), (45, sL bz 8 8), (46, iV 8), (47, iV i), (6, pT b6), (52, .slice (aBi x i) (vbL o i).length (aAs x i)), (53, iV ((vbL o i).length)), (54, iV j)] _ _ ((70, b6) :: B) (aC 70 0 [.slice (aBi x i) (vbL o i).length (aAs x i), aBr i, .slice (some ⟨vbB bb0 bb1 bb2 bb3 bb4 bb5 bb6 bb7 i, 0, none⟩) 2 2, .bool (vbP i)] ++ H) ((68, ⟨sL bz 8 8, 109, 4, 8, pI o x bb0 bb1 bb2 bb3 bb4 bb5 bb6 bb7⟩) :: (67, ⟨sL bb7 2 2, 3, 1, 2, [iV 1, iV 366]⟩) :: (66, ⟨sL bb6 2 2, 3, 1, 2, [iV 1, iV 12]⟩) :: (65, ⟨sL bb5 2 2, 3, 1, 2, [iV 1, iV 53]⟩) :: (64, ⟨sL bb4 2 2, 3, 1, 2, [iV 1, iV 366]⟩) :: (63, ⟨sL bb3 2 2, 3, 1, 2, [iV 1, iV 31]⟩) :: (62, ⟨sL bb2 2 2, 3, 1, 2, [iV 0, iV 23]⟩) :: (61, ⟨sL bb1 2 2, 3, 1, 2, [iV 0, iV 59]⟩) :: (60, ⟨sL bb0 2 2, 3, 1, 2, [iV 0, iV 59]⟩) :: S)
  refine g6 ?_
  refine aB rfl (fun hc1 => ?_) (fun hc2 => ?_)
  ·have hltj : j < (vbL o i).length := by have := oT hc1; omega
   obtain ⟨y, hy⟩ : ∃ y, (vbL o i)[j]? = some y := ⟨_, List.getElem?_eq_getElem hltj⟩
   have hin := vk.nums i hlt y (List.mem_of_getElem? hy)
   refine eA (fun w s => ((((((((((src.cons dE).cons dE).cons dE).cons dE).cons dE).cons dE).cons dE).cons dE).cons dE)).head s oM) fun hh => ?_
   obtain ⟨by_, oy_, hp_y⟩ := hh
   have src_y := src
   rw [hp_y] at src_y
   refine g6 ?_
   refine rl (aF (e := 3) (n := 1) kR (congrArg (fun p => some (Value.slice p _ _)) hp_y) rfl oM oM) ?_
   refine rl (fR kR rfl (fun w s => ((((((((((src_y.cons dE).cons dE).cons dE).cons dE).cons dE).cons dE).cons dE).cons dE).cons dE)).cell hy s)) ?_
   refine g6 ?_
   refine rl (rfa 1) ?_
   refine rZ1 (rld 70 rfl rfl rfl) ?_
   refine rl (rfa 2) ?_
   refine rl (rld 70 rfl rfl rfl) ?_
   refine rl (rfa 3) ?_
   refine rl (rld 70 rfl rfl rfl) ?_
   refine gL (iE (ι := Unit) (first := []) (capt := []) (fun _ => .nilIface) (fun _ => True) (fun _ => _) (fun _ => _) (fun _ => _) dE rfl kR rfl (fun w_ s_ => (aC7 hrow hbd hin w_ s_).mono fun e_ w2_ h_ => ⟨(), trivial, h_.1, h_.2⟩) (fun _ _ => ?_))
   refine g6 ?_
   refine rl ((tR (v := .bool false) rfl rfl kW)) ?_
   refine g2 ?_
   refine aP rfl rfl ?_
   refine g7 ?_
   refine aQ (j + 1) oM (by show j + 1 ≤ (vbL o i).length; omega) kns (fun w s => by exact s)
  ·have hgej : ¬ j < (vbL o i).length := by have := oF hc2; omega
   refine g10 ?_
   refine aQ (i + 1) oM (by show i + 1 ≤ 8; omega) kns (fun w s => by exact s.low 69 ((by repeat (first | exact lim.mono dE | apply Lim.aJ2 _ dE))) agx agx agx)
 ·have hge : ¬ i < 8 := by have := oF hc2; omega
  refine g8 ?_
  refine rl (rfa 14) ?_
  refine rZ5 (bE 50 rfl hb1 (hc.get 14 _ rfl) kR dE) ?_
  refine bJ (ι := (Nat)) (fun k => o.wday.length - k) (fun k => (k ≤ o.wday.length)) (fun k => [(1, pT b1), (73, .slice x.p14 (o.wday).length x.c14), (74, iV (o.wday.length)), (75, iV k)]) (fun k => B) (fun k => H) (fun k => S) 0 (Nat.zero_le _) kns (fun w s => by exact s.low 53 lim agx agx agx) ?_
  rintro k hk
  show GC _ _ _ _ [(1, pT b1), (73, .slice x.p14 (o.wday).length x.c14), (74, iV (o.wday.length)), (75, iV k)] _ _ (B) (H) (S)
  refine g6 ?_
  refine aB rfl (fun hc1 => ?_) (fun hc2 => ?_)
  ·have hltk : k < o.wday.length := by have := oT hc1; omega
   obtain ⟨y, hy⟩ : ∃ y, o.wday[k]? = some y := ⟨_, List.getElem?_eq_getElem hltk⟩
   have hwl := vk.wlen
   have hdy := vk.days y (List.mem_of_getElem? hy)
   refine eA (fun w s => s14.head s oM) fun hh => ?_
   obtain ⟨by_, oy_, hp_y⟩ := hh
   have src_y := s14
   rw [hp_y] at src_y
   refine g6 ?_
   refine rl (aF (e := 59) (n := 2) kR (congrArg (fun p => some (Value.slice p _ _)) hp_y) rfl oM oM) ?_
   refine rl (fI (cs := [iV y.1, iV y.2]) kR rfl (fun w s => src_y.cell hy s)) ?_
   refine gL (eB 53 (cs := [iV 0, iV 0]) dE kR (lim.b 53 dE) (fun o ho => lim.h 53 dE o ho) ble (fun b11 hb11 => ?_))
   refine gL (sta 53 rfl rfl rfl rfl ?_)
   refine g4 ?_
   refine rl (rfa 1) ?_
   refine rl (rld 53 rfl rfl rfl) ?_
   refine rZ2 ((bG rfl rfl).to bF) ?_
   refine rZ1 (rfa 1) ?_
   refine rZ1 (rld 53 rfl rfl rfl) ?_
   refine rl ((cM rfl rfl).to bF) ?_
   refine kQ ?_
   refine aQ (k + 1) oM (by show k + 1 ≤ o.wday.length; omega) kns (fun w s => by exact s.low 53 lim agx agx agx)
  ·have hgek : ¬ k < o.wday.length := by have := oF hc2; omega
   refine g8 ?_
   refine rl (rfa 3) ?_
   refine rZ3 (bE 50 rfl hb1 (hc.get 3 _ rfl) kR dE) ?_
   refine aP rfl (decide_eq_false (by have := vk.interval; omega)) ?_
   refine g8 ?_
   exact aT (.inl rfl) rfl (aD rfl) hR
theorem fQ {j : Nat} : ∀ {cs : List Value} {o : Nat}, (∀ i v, cs[i]? = some v → lkp (ky j (o + i)) H = some v) → cellsAt j H o cs
 | [], _, _ => trivial
 | c :: r, o, h => ⟨h 0 c rfl, fQ fun i v hv => by
   have := h (i + 1) v (by simpa using hv)
   rwa [show o + (i + 1) = o + 1 + i by omega] at this⟩
theorem fJ {j : Nat} : ∀ (cs : List Value) (o : Nat), o + cs.length ≤ 4096 → ∀ (i : Nat) (v : Value), cs[i]? = some v → lkp (ky j (o + i)) (aC j o cs ++ H) = some v
 | [], _, _, i, v, h => by simp at h
 | u :: r, o, hl, 0, v, h => by cases h; exact bQ _ _ _
 | u :: r, o, hl, i + 1, v, h => by
  simp only [List.length_cons] at hl
  show lkp (ky j (o + (i + 1))) ((ky j o, u) :: (aC j (o + 1) r ++ H)) = _
  rw [aA (by unfold ky; omega)]
  have := fJ (j := j) r (o + 1) oM i v (by simpa using h)
  rwa [show o + 1 + i = o + (i + 1) by omega] at this
theorem fZ {j : Nat} (cs : List Value) (h : cs.length ≤ 4096) : cellsAt j (aC j 0 cs ++ H) 0 cs := fQ fun i v hv => fJ cs 0 oM i v hv
theorem aM {j : Nat} : ∀ (cs : List Value) (o q : Nat) {H : LV}, o + cs.length ≤ q → lkp (ky j q) (cX j o cs H) = lkp (ky j q) H
 | [], _, _, _, _ => rfl
 | v :: r, o, q, H, h => by
  simp only [List.length_cons] at h
  show lkp (ky j q) (cX j (o + 1) r ((ky j o, v) :: H)) = _
  rw [aM r (o + 1) q oM, aA (by unfold ky; omega)]
theorem uP {o : Opn} {x : Av} (vk : VbOk o) (limB : Lim 40 B H S) (s9 : SrcT F w0 S 11 (.slice x.p9 (o.setpos).length x.c9) o.setpos) (s10 : SrcT F w0 S 11 (.slice x.p10 (o.month).length x.c10) o.month) (s11 : SrcT F w0 S 11 (.slice x.p11 (o.mday).length x.c11) o.mday) (s12 : SrcT F w0 S 11 (.slice x.p12 (o.yday).length x.c12) o.yday) (s13 : SrcT F w0 S 11 (.slice x.p13 (o.weekno).length x.c13) o.weekno) (s14 : SrcU F w0 S 11 (.slice x.p14 (o.wday).length x.c14) o.wday) (s15 : SrcT F w0 S 11 (.slice x.p15 (o.hour).length x.c15) o.hour) (s16 : SrcT F w0 S 11 (.slice x.p16 (o.minute).length x.c16) o.minute) (s17 : SrcT F w0 S 11 (.slice x.p17 (o.second).length x.c17) o.second) (s18 : SrcT F w0 S 11 (.slice x.p18 (o.easter).length x.c18) o.easter) : ∀ w, Sees F w0 B H S w → Calls Tryz.prog 42 #[.agg (oc0 o x).toArray] w fun e w' => e = .returned .nilIface ∧ Sees F w0 B H S w' := by
 intro w s
 refine aI (args := [.agg (oc0 o x).toArray]) (L := [(0, .agg (oc0 o x).toArray)]) (N := 93) Tryz.func42 rfl rfl ble rfl s ?_
 refine g2 ?_
 refine gL (fM 50 (cs := oc0 o x) dE rfl rfl (limB.b 50 dE) (fun o ho => limB.h 50 dE o ho) ble (fun b1 hb1 => ?_))
 refine g3 ?_
 refine dO (L' := [(1, pT b1)]) kns (fun w s => s) ?_
 exact aG2 (B := (50, b1) :: B) (H := aC 50 0 (oc0 o x) ++ H) (S := S) vk rfl (fZ _ ble) (Lim.aJ4 dE _ 0 ble ((limB.mono dE).aJ3 dE)) s9 s10 s11 s12 s13 s14 s15 s16 s17 s18 (fun w s => ⟨rfl, s.low 50 (limB.mono dE) agx agx agx⟩)
def z60 : List Value := zL2
theorem Knw.put {H : LV} {j : Nat} : ∀ (cs : List Value) (o : Nat) {H' : LV}, Knw H' H → Knw (aC j o cs ++ H') H
 | [], _, _, h => h
 | v :: r, o, _, h => Knw.cons (Knw.put r (o + 1) h)
theorem xT {o : Opn} {x : Av} (ok : OpOk o) (hsort : o.freq < 4 → j5 F w0 (raw o)) (limB : Lim 40 B H S) (s9 : SrcT F w0 S 11 (.slice x.p9 (o.setpos).length x.c9) o.setpos) (s10 : SrcT F w0 S 11 (.slice x.p10 (o.month).length x.c10) o.month) (s11 : SrcT F w0 S 11 (.slice x.p11 (o.mday).length x.c11) o.mday) (s12 : SrcT F w0 S 11 (.slice x.p12 (o.yday).length x.c12) o.yday) (s13 : SrcT F w0 S 11 (.slice x.p13 (o.weekno).length x.c13) o.weekno) (s14 : SrcU F w0 S 11 (.slice x.p14 (o.wday).length x.c14) o.wday) (s15 : SrcT F w0 S 11 (.slice x.p15 (o.hour).length x.c15) o.hour) (s16 : SrcT F w0 S 11 (.slice x.p16 (o.minute).length x.c16) o.minute) (s17 : SrcT F w0 S 11 (.slice x.p17 (o.second).length x.c17) o.second) (s18 : SrcT F w0 S 11 (.slice x.p18 (o.easter).length x.c18) o.easter) : ∀ w, Sees F w0 B H S w → Calls Tryz.prog 43 #[.agg (oc0 o x).toArray] w fun e w' => ∃ x' S', e = .returned (.agg (iY o x').toArray) ∧ OutF F w0 o x' S S' ∧ Sees F w0 B H S' w' := by
 intro w s
 refine aI (args := [.agg (oc0 o x).toArray]) (L := [(0, .agg (oc0 o x).toArray)]) (N := 300) Tryz.func43 rfl rfl ble rfl s ?_
 refine g2 ?_
 refine gL (fM 50 (cs := oc0 o x) dE rfl rfl (limB.b 50 dE) (fun o ho => limB.h 50 dE o ho) ble (fun b1 hb1 => ?_))
 refine gL (eB 51 (cs := zL2) dE kR (limB.b 51 dE) (fun o ho => by repeat (first | exact limB.h 51 dE o ho | rw [aK dE ho _ _ ble])) ble (fun b2 hb2 => ?_))
 refine g4 ?_
 refine rl ((mC (v := .agg (zL2 : List Value).toArray) kW)) ?_
 refine gL (eB 52 (cs := zL2) dE kR (limB.b 52 dE) (fun o ho => by repeat (first | exact limB.h 52 dE o ho | rw [aK dE ho _ _ ble])) ble (fun b3 hb3 => ?_))
 refine gL (cA 52 (cs := (zL2 : List Value).toArray) rfl rfl rfl (dV (fZ zL2 ble) 0 60 ble) kR rfl ble ?_)
 refine g4 ?_
 refine rl ((dP 50 (cs := oc0 o x) rfl rfl (fun i u h => (cT dE (by have := (List.getElem?_eq_some_iff.1 h).1; have h3 : (oc0 o x).length = 19 := rfl; omega) _ _ ble).trans ((aK dE (by have := (List.getElem?_eq_some_iff.1 h).1; have h3 : (oc0 o x).length = 19 := rfl; omega) _ _ ble).trans ((aK dE (by have := (List.getElem?_eq_some_iff.1 h).1; have h3 : (oc0 o x).length = 19 := rfl; omega) _ _ ble).trans (fJ (oc0 o x) 0 ble i u h)))) ble kR)) ?_
 refine rl (rfa 0) ?_
 refine gL (cA 52 (cs := (oc0 o x).toArray) rfl rfl rfl (cG (Knw.seq _ _ (Knw.refl _)) (dV (fZ zL2 ble) 0 19 ble)) kR rfl ble ?_)
 refine g2 ?_
 refine dO (L' := [(1, pT b1), (2, pT b2), (3, pT b3)]) kns (fun w s => s) (H' := cX 52 0 (oc0 o x) (cX 52 0 zL2 (aC 52 0 zL2 ++ (aC 51 0 zL2 ++ (aC 50 0 (oc0 o x) ++ H))))) ?_
 have hcs : cellsAt 52 (cX 52 0 (oc0 o x) (cX 52 0 z60 (aC 52 0 z60 ++ (aC 51 0 z60 ++ (aC 50 0 (oc0 o x) ++ H))))) 0 (rc0 o x) := (cC (aN (oc0 o x) 0 ble 0 _ rfl) (cC (aN (oc0 o x) 0 ble 1 _ rfl) (cC (aN (oc0 o x) 0 ble 2 _ rfl) (cC (aN (oc0 o x) 0 ble 3 _ rfl) (cC (aN (oc0 o x) 0 ble 4 _ rfl) (cC (aN (oc0 o x) 0 ble 5 _ rfl) (cC (aN (oc0 o x) 0 ble 6 _ rfl) (cC (aN (oc0 o x) 0 ble 7 _ rfl) (cC (aN (oc0 o x) 0 ble 8 _ rfl) (cC (aN (oc0 o x) 0 ble 9 _ rfl) (cC (aN (oc0 o x) 0 ble 10 _ rfl) (cC (aN (oc0 o x) 0 ble 11 _ rfl) (cC (aN (oc0 o x) 0 ble 12 _ rfl) (cC (aN (oc0 o x) 0 ble 13 _ rfl) (cC (aN (oc0 o x) 0 ble 14 _ rfl) (cC (aN (oc0 o x) 0 ble 15 _ rfl) (cC (aN (oc0 o x) 0 ble 16 _ rfl) (cC (aN (oc0 o x) 0 ble 17 _ rfl) (cC (aN (oc0 o x) 0 ble 18 _ rfl) (cC ((aM (oc0 o x) 0 19 ble).trans (aN z60 0 ble 19 _ rfl)) (cC ((aM (oc0 o x) 0 20 ble).trans (aN z60 0 ble 20 _ rfl)) (cC ((aM (oc0 o x) 0 21 ble).trans (aN z60 0 ble 21 _ rfl)) (cC ((aM (oc0 o x) 0 22 ble).trans (aN z60 0 ble 22 _ rfl)) (cC ((aM (oc0 o x) 0 23 ble).trans (aN z60 0 ble 23 _ rfl)) (cC ((aM (oc0 o x) 0 24 ble).trans (aN z60 0 ble 24 _ rfl)) (cC ((aM (oc0 o x) 0 25 ble).trans (aN z60 0 ble 25 _ rfl)) (cC ((aM (oc0 o x) 0 26 ble).trans (aN z60 0 ble 26 _ rfl)) (cC ((aM (oc0 o x) 0 27 ble).trans (aN z60 0 ble 27 _ rfl)) (cC ((aM (oc0 o x) 0 28 ble).trans (aN z60 0 ble 28 _ rfl)) (cC ((aM (oc0 o x) 0 29 ble).trans (aN z60 0 ble 29 _ rfl)) (cC ((aM (oc0 o x) 0 30 ble).trans (aN z60 0 ble 30 _ rfl)) (cC ((aM (oc0 o x) 0 31 ble).trans (aN z60 0 ble 31 _ rfl)) (cC ((aM (oc0 o x) 0 32 ble).trans (aN z60 0 ble 32 _ rfl)) (cC ((aM (oc0 o x) 0 33 ble).trans (aN z60 0 ble 33 _ rfl)) (cC ((aM (oc0 o x) 0 34 ble).trans (aN z60 0 ble 34 _ rfl)) (cC ((aM (oc0 o x) 0 35 ble).trans (aN z60 0 ble 35 _ rfl)) (cC ((aM (oc0 o x) 0 36 ble).trans (aN z60 0 ble 36 _ rfl)) (cC ((aM (oc0 o x) 0 37 ble).trans (aN z60 0 ble 37 _ rfl)) (cC ((aM (oc0 o x) 0 38 ble).trans (aN z60 0 ble 38 _ rfl)) (cC ((aM (oc0 o x) 0 39 ble).trans (aN z60 0 ble 39 _ rfl)) (cC ((aM (oc0 o x) 0 40 ble).trans (aN z60 0 ble 40 _ rfl)) (cC ((aM (oc0 o x) 0 41 ble).trans (aN z60 0 ble 41 _ rfl)) (cC ((aM (oc0 o x) 0 42 ble).trans (aN z60 0 ble 42 _ rfl)) (cC ((aM (oc0 o x) 0 43 ble).trans (aN z60 0 ble 43 _ rfl)) (cC ((aM (oc0 o x) 0 44 ble).trans (aN z60 0 ble 44 _ rfl)) (cC ((aM (oc0 o x) 0 45 ble).trans (aN z60 0 ble 45 _ rfl)) (cC ((aM (oc0 o x) 0 46 ble).trans (aN z60 0 ble 46 _ rfl)) (cC ((aM (oc0 o x) 0 47 ble).trans (aN z60 0 ble 47 _ rfl)) (cC ((aM (oc0 o x) 0 48 ble).trans (aN z60 0 ble 48 _ rfl)) (cC ((aM (oc0 o x) 0 49 ble).trans (aN z60 0 ble 49 _ rfl)) (cC ((aM (oc0 o x) 0 50 ble).trans (aN z60 0 ble 50 _ rfl)) (cC ((aM (oc0 o x) 0 51 ble).trans (aN z60 0 ble 51 _ rfl)) (cC ((aM (oc0 o x) 0 52 ble).trans (aN z60 0 ble 52 _ rfl)) (cC ((aM (oc0 o x) 0 53 ble).trans (aN z60 0 ble 53 _ rfl)) (cC ((aM (oc0 o x) 0 54 ble).trans (aN z60 0 ble 54 _ rfl)) (cC ((aM (oc0 o x) 0 55 ble).trans (aN z60 0 ble 55 _ rfl)) (cC ((aM (oc0 o x) 0 56 ble).trans (aN z60 0 ble 56 _ rfl)) (cC ((aM (oc0 o x) 0 57 ble).trans (aN z60 0 ble 57 _ rfl)) (cC ((aM (oc0 o x) 0 58 ble).trans (aN z60 0 ble 58 _ rfl)) (cC ((aM (oc0 o x) 0 59 ble).trans (aN z60 0 ble 59 _ rfl)) cN))))))))))))))))))))))))))))))))))))))))))))))))))))))))))))
 have bs : Bs F w0 B H S b1 b2 b3 (oc0 o x) (rc0 o x) (cX 52 0 (oc0 o x) (cX 52 0 zL2 (aC 52 0 zL2 ++ (aC 51 0 zL2 ++ (aC 50 0 (oc0 o x) ++ H))))) S := ⟨fQ fun i u h => (cT dE (by have := (List.getElem?_eq_some_iff.1 h).1; have h3 : (oc0 o x).length = 19 := rfl; omega) _ _ ble).trans ((cT dE (by have := (List.getElem?_eq_some_iff.1 h).1; have h3 : (oc0 o x).length = 19 := rfl; omega) _ _ ble).trans ((aK dE (by have := (List.getElem?_eq_some_iff.1 h).1; have h3 : (oc0 o x).length = 19 := rfl; omega) _ _ ble).trans ((aK dE (by have := (List.getElem?_eq_some_iff.1 h).1; have h3 : (oc0 o x).length = 19 := rfl; omega) _ _ ble).trans (fJ (oc0 o x) 0 ble i u h)))), hcs, ?_, ?_, limB, ?_, fun _ _ _ => rfl⟩
 ·exact aIo (x := x) ok hsort bs s9 s10 s11 s12 s13 s14 s15 s16 s17 s18 (fun x' S' hf w s => ⟨x', S', rfl, hf, s⟩)
 ·exact cG (Knw.seq _ _ (Knw.seq _ _ (Knw.put _ _ (Knw.refl _)))) (dV (fZ zL2 ble) 0 60 ble)
 ·exact Lim.seqH dE _ 0 ble (Lim.seqH dE _ 0 ble (Lim.aJ4 dE _ 0 ble (Lim.aJ4 dE _ 0 ble (Lim.aJ4 dE _ 0 ble ((((limB.mono dE).aJ3 dE).aJ3 dE).aJ3 dE)))))
 ·exact fun k hk o_ ho_ => (cT oM ho_ _ _ ble).trans ((cT oM ho_ _ _ ble).trans ((aK oM ho_ _ _ ble).trans ((aK oM ho_ _ _ ble).trans (aK oM ho_ _ _ ble))))
theorem Agr.skip_under {α : Type} {m q k : Nat} {v u : α} {A : List (Nat × α)} (h : m ≤ q) : Agr m [] ((k, u) :: (q, v) :: A) ((k, u) :: A) := fun j hj _ => by
 by_cases e : j = k
 ·subst e; rw [bQ, bQ]
 ·rw [aA e, aA e, aA oM]
theorem aGk {H : LV} {cs zs os : List Value} (hl : ∀ k, 36 ≤ k → ∀ o, o < 4096 → lkp (ky k o) H = none) (h1 : cs.length ≤ 4096) (h2 : zs.length ≤ 4096) (h3 : os.length ≤ 4096) (he : cs.length = zs.length) : Agr (ky 36 0) [] (cX 1 0 cs (aC 1 0 zs ++ (aC 36 0 os ++ H))) (aC 1 0 cs ++ H) := fun q hq _ => by
 obtain ⟨k, o, ho, rfl⟩ : ∃ k o, o < 4096 ∧ q = ky k o := ⟨q / 4096, q % 4096, Nat.mod_lt _ dE, by unfold ky; omega⟩
 have hk : k < 36 := by unfold ky at hq; omega
 by_cases e : k = 1
 ·subst e
  rcases Nat.lt_or_ge o cs.length with h | h
  ·have e1 := aN (j := 1) cs 0 (H := aC 1 0 zs ++ (aC 36 0 os ++ H)) oM o _ (List.getElem?_eq_getElem h)
   have e2 := fJ (j := 1) (H := H) cs 0 oM o _ (List.getElem?_eq_getElem h)
   rw [Nat.zero_add] at e1 e2
   rw [e1, e2]
  ·rw [aM cs 0 o oM, j9 (fun v hv => ?_), j9 (fun v hv => ?_), j9 (fun v hv => ?_)]
   ·obtain ⟨j, hj, hlt⟩ := kB cs 0 hv
    unfold ky at hj; omega
   ·obtain ⟨j, hj, hlt⟩ := kB os 0 hv
    unfold ky at hj; omega
   ·obtain ⟨j, hj, hlt⟩ := kB zs 0 hv
    unfold ky at hj; omega
 ·rw [cT e ho cs 0 oM, aK e ho zs 0 oM, aK oM ho os 0 oM, aK e ho cs 0 oM]
theorem uC {o : Opn} {x : Av} (ok : OpOk o) (vk : VbOk o) (hsort : o.freq < 4 → j5 F w0 (raw o)) (limB : Lim 36 B H S) (h1 : lkp 1 B = none) (h1h : ∀ q, q < 4096 → lkp (ky 1 q) H = none) (s9 : SrcT F w0 S 11 (.slice x.p9 (o.setpos).length x.c9) o.setpos) (s10 : SrcT F w0 S 11 (.slice x.p10 (o.month).length x.c10) o.month) (s11 : SrcT F w0 S 11 (.slice x.p11 (o.mday).length x.c11) o.mday) (s12 : SrcT F w0 S 11 (.slice x.p12 (o.yday).length x.c12) o.yday) (s13 : SrcT F w0 S 11 (.slice x.p13 (o.weekno).length x.c13) o.weekno) (s14 : SrcU F w0 S 11 (.slice x.p14 (o.wday).length x.c14) o.wday) (s15 : SrcT F w0 S 11 (.slice x.p15 (o.hour).length x.c15) o.hour) (s16 : SrcT F w0 S 11 (.slice x.p16 (o.minute).length x.c16) o.minute) (s17 : SrcT F w0 S 11 (.slice x.p17 (o.second).length x.c17) o.second) (s18 : SrcT F w0 S 11 (.slice x.p18 (o.easter).length x.c18) o.easter) : ∀ w, Sees F w0 B H S w → Calls Tryz.prog 33 #[.agg (oc0 o x).toArray] w fun e w' => ∃ rb x' S', e = .returned (.tuple #[pT rb, .nilIface]) ∧ OutF F w0 o x' S S' ∧ Sees F w0 ((1, rb) :: B) (aC 1 0 (iY o x') ++ H) S' w' := by
 intro w s
 refine aI (args := [.agg (oc0 o x).toArray]) (L := [(0, .agg (oc0 o x).toArray)]) (N := 13) Tryz.func33 rfl rfl ble rfl s ?_
 refine g2 ?_
 refine gL (fM 36 (cs := oc0 o x) dE rfl rfl (limB.b 36 dE) (fun o ho => limB.h 36 dE o ho) ble (fun b1 hb1 => ?_))
 refine g7 ?_
 refine rl ((dP 36 (cs := oc0 o x) rfl rfl (fJ (oc0 o x) 0 ble) ble kR)) ?_
 refine gL (mM (v := .nilIface) dE kR rfl (uP vk (Lim.aJ4 dE _ 0 ble ((limB.mono dE).aJ3 dE)) s9 s10 s11 s12 s13 s14 s15 s16 s17 s18) ?_)
 refine g6 ?_
 refine wZ7 ((tR (v := .bool false) rfl rfl kW)) ?_
 refine rl ((dP 36 (cs := oc0 o x) rfl rfl (fJ (oc0 o x) 0 ble) ble kR)) ?_
 refine gL (dR (ι := Av × LS) (fun y => .agg (iY o y.1).toArray) (fun y => OutF F w0 o y.1 S y.2) (fun _ => (36, b1) :: B) (fun _ => aC 36 0 (oc0 o x) ++ H) (fun y => y.2) dE kR rfl (fun w_ s_ => (xT ok hsort (Lim.aJ4 dE _ 0 ble ((limB.mono dE).aJ3 dE)) s9 s10 s11 s12 s13 s14 s15 s16 s17 s18 w_ s_).mono fun e w' ⟨x', S', he, hf, hs⟩ => ⟨(x', S'), hf, he, hs⟩) (fun | (x2, S2), hf2 => ?_))
 refine gL (eB 1 (cs := zL2) dE kR h1 (fun o ho => (aK dE ho _ _ ble).trans (h1h o ho)) ble (fun rb hrb => ?_))
 refine gL (cA 1 (cs := (iY o x2).toArray) rfl rfl rfl (dV (fZ zL2 ble) 0 60 ble) kR rfl ble ?_)
 refine g9 ?_
 refine dQ (.inl rfl) rfl (aD rfl) (aD rfl) fun w s => ⟨rb, x2, S2, rfl, hf2, ?_⟩
 refine s.low 36 (Lim.aJ4 dE _ 0 ble (Lim.aJ3 ⟨limB.b, limB.h, fun k hk => ?_⟩ dE)) ?_ ?_ (Agr.refl _)
 ·rcases Nat.lt_or_ge k 53 with h | h
  ·rw [hf2.fr k h oM]; exact limB.s k hk
  ·exact hf2.lim k h
 ·exact Agr.skip_under dE
 ·exact aGk limB.h ble ble ble rfl
structure Rul where
 freq : Int
 hasStart : Bool
 start : Int
 interval : Int
 wkst : Int
 count : Int
 hasUntil : Bool
 untl : Int
 setpos : List Int
 month : List Int
 mday : List Int
 yday : List Int
 weekno : List Int
 wday : List (Int × Int)
 hour : List Int
 minute : List Int
 second : List Int
 easter : List Int
def aE (r : Rul) : Opn := ⟨r.freq, r.start, r.interval, r.wkst, r.count, if r.hasUntil = true then r.untl else 0, r.setpos, r.month, r.mday, r.yday, r.weekno, r.wday, r.hour, r.minute, r.second, r.easter⟩
def bC (r : Rul) (x : Av) : List Value := [.int .u8 r.freq, .bool r.hasStart, iV r.start, iV r.interval, iV r.wkst, iV r.count, .bool r.hasUntil, iV r.untl, .slice x.p9 (r.setpos).length x.c9, .slice x.p10 (r.month).length x.c10, .slice x.p11 (r.mday).length x.c11, .slice x.p12 (r.yday).length x.c12, .slice x.p13 (r.weekno).length x.c13, .slice x.p14 (r.wday).length x.c14, .slice x.p15 (r.hour).length x.c15, .slice x.p16 (r.minute).length x.c16, .slice x.p17 (r.second).length x.c17, .slice x.p18 (r.easter).length x.c18]
theorem n7 (x n : Int) (w : World) : Calls Tryz.prog 44 #[iV x, iV n] w fun e w' => e = .returned (.agg #[iV x, iV n]) ∧ Below w.heap.size w w' := by
 refine aI (args := [iV x, iV n]) (L := [(0, iV x), (1, iV n)]) (N := 8) Tryz.func44 rfl rfl ble rfl (sS w) ?_
 refine g2 ?_
 refine gL (alo 50 (cs := [iV 0, iV 0]) kR rfl (fun b1_ hbb1_ => ?_))
 refine g6 ?_
 refine rl (qJ rfl rfl kW) ?_
 refine gL (sta 50 rfl rfl rfl rfl ?_)
 refine g3 ?_
 refine aT (.inl rfl) rfl (hZ 50 rfl rfl rfl rfl kR) fun w_ s_ => ⟨?_, s_.aJ0⟩
 first | rfl | (simp; done)
def qM (r : Rul) (x : Av) : List Value := [iV r.freq, iV 0, iV 0, iV r.interval, iV r.wkst, iV 0, iV r.count, iV 0, iV 0, .slice x.p9 (r.setpos).length x.c9, .slice x.p10 (r.month).length x.c10, .slice x.p11 (r.mday).length x.c11, .slice x.p12 (r.yday).length x.c12, .slice x.p13 (r.weekno).length x.c13, sN, .slice x.p15 (r.hour).length x.c15, .slice x.p16 (r.minute).length x.c16, .slice x.p17 (r.second).length x.c17, .slice x.p18 (r.easter).length x.c18]
structure RulOk (r : Rul) : Prop where
 freq : 0 ≤ r.freq ∧ r.freq ≤ 255
 hs : r.hasStart = true
 days : r.wday.length ≤ 1000
theorem tY {R : Ending → World → Prop} {r : Rul} {x : Av} (rk : RulOk r) {b1 b2 b3 : Nat} {H0 : LV} (hr : cellsAt 36 H 0 (bC r x)) (h2 : knwn 37 H 0 19 = true) (ho : cellsAt 38 H 0 (qM r x)) (limB : Lim 36 B H0 S) (hno : lkp 11 S = none) (lim : Lim 39 ((38, b3) :: (37, b2) :: (36, b1) :: B) H S) (frH : ∀ k, k < 36 → ∀ q, q < 4096 → lkp (ky k q) H = lkp (ky k q) H0) (hday : ∀ S, SrcU F w0 S 11 (.slice x.p14 (r.wday).length x.c14) r.wday)
  (hR : ∀ (p : Option Addr) (c : Nat) w, Sees F w0 B H0 ((11, ⟨.slice p r.wday.length c, 59, 2, r.wday.length, eI r.wday⟩) :: S) w → R (.returned (.agg (oc0 (aE r) { x with p14 := p, c14 := c }).toArray)) w) :
  GC Tryz.prog (Go.Fr.part [1, 1] (Go.Fr.bodyOf Tryz.f34)) (bodyPost Tryz.prog Tryz.f34 R) 66 [(1, pT b1), (2, pT b2), (3, pT b3)] F w0 ((38, b3) :: (37, b2) :: (36, b1) :: B) H S := by
 refine g3 ?_
 refine rl (rfa 1) ?_
 refine rZ2 (bE 36 rfl rfl (hr.get 1 _ rfl) kR dE) ?_
 refine aY rfl rk.hs ?_
 refine g1 ?_
 refine rl (rfa 2) ?_
 refine rl (bE 36 rfl rfl (hr.get 2 _ rfl) kR dE) ?_
 refine gL (cvo rfl (fun w_ s_ => yT _ w_) ?_)
 refine rl (rfa 1) ?_
 refine gL (cA 38 rfl rfl rfl (oJ (ho.get 1 _ rfl) (ho.get 2 _ rfl)) kR rfl ble ?_)
 refine g5 ?_
 refine rl (rfa 6) ?_
 refine rZ2 (bE 36 rfl rfl (hr.get 6 _ rfl) kR dE) ?_
 refine aB rfl (fun hc1 => ?_) (fun hc2 => ?_)
 ·have hu1 : r.hasUntil = true := hc1
  have hu : (aE r).u = r.untl := by unfold aE; simp only; rw [if_pos hu1]
  refine g1 ?_
  refine rl (rfa 7) ?_
  refine rl (bE 36 rfl rfl (hr.get 7 _ rfl) kR dE) ?_
  refine gL (cvo rfl (fun w_ s_ => yT _ w_) ?_)
  refine rl (rfa 7) ?_
  refine gL (cA 38 rfl rfl rfl (oJ (ho.get 7 _ rfl) (ho.get 8 _ rfl)) kR rfl ble ?_)
  refine g5 ?_
  refine rl (rfa 13) ?_
  refine rZ5 (bE 36 rfl rfl (hr.get 13 _ rfl) kR dE) ?_
  refine bJ (ι := (Nat) × (Option Addr) × (Nat) × (Nat) × (List Value) × (List (Int × Int))) (fun | ⟨k, q, e, n, xs, l⟩ => r.wday.length - k) (fun | ⟨k, q, e, n, xs, l⟩ => (k ≤ r.wday.length) ∧ (l = r.wday.take k) ∧ (n = l.length) ∧ (xs = eI l)) (fun | ⟨k, q, e, n, xs, l⟩ => [(1, pT b1), (2, pT b2), (3, pT b3), (48, .slice x.p14 (r.wday).length x.c14), (49, iV (r.wday.length)), (50, iV k)]) (fun | ⟨k, q, e, n, xs, l⟩ => ((38, b3) :: (37, b2) :: (36, b1) :: B)) (fun | ⟨k, q, e, n, xs, l⟩ => (ky 38 14, .slice q n e) :: (ky 38 8, iV 0) :: (ky 38 7, iV r.untl) :: (ky 38 2, iV 0) :: (ky 38 1, iV r.start) :: H) (fun | ⟨k, q, e, n, xs, l⟩ => (11, ⟨.slice q n e, 59, 2, n, xs⟩) :: S) ⟨0, none, 0, 0, [], []⟩ ⟨Nat.zero_le _, rfl, rfl, rfl⟩ kns (fun w s => by exact (s.aJ6 11 59 2).low 39 ((by repeat (first | exact lim | apply Lim.aJ1 _ dE dE | apply Lim.aJ2 _ dE))) agx (by exact Agr.pick (ho.get 14 _ rfl) (Agr.pick rfl (Agr.pick rfl (Agr.pick rfl (Agr.pick rfl (by repeat (first | exact Agr.refl _ | apply Agr.skip dE | apply Agr.seq dE))))))) agx) ?_
  rintro ⟨k, q, e, n, xs, l⟩ ⟨hk, hl, hn, hx⟩
  show GC _ _ _ _ [(1, pT b1), (2, pT b2), (3, pT b3), (48, .slice x.p14 (r.wday).length x.c14), (49, iV (r.wday.length)), (50, iV k)] _ _ (((38, b3) :: (37, b2) :: (36, b1) :: B)) ((ky 38 14, .slice q n e) :: (ky 38 8, iV 0) :: (ky 38 7, iV r.untl) :: (ky 38 2, iV 0) :: (ky 38 1, iV r.start) :: H) ((11, ⟨.slice q n e, 59, 2, n, xs⟩) :: S)
  refine g6 ?_
  refine aB rfl (fun hc1 => ?_) (fun hc2 => ?_)
  ·have hlt : k < r.wday.length := by have := oT hc1; omega
   obtain ⟨y, hy⟩ : ∃ y, r.wday[k]? = some y := ⟨_, List.getElem?_eq_getElem hlt⟩
   refine eA (fun w s => (hday _).head s oM) fun hh => ?_
   obtain ⟨by_, oy_, hp_y⟩ := hh
   have src_y := hday
   rw [hp_y] at src_y
   have hdl := rk.days
   have hln : l.length = k := by rw [hl, List.length_take]; omega
   refine g6 ?_
   refine rl (aF (e := 69) (n := 2) kR (congrArg (fun p => some (Value.slice p _ _)) hp_y) rfl oM oM) ?_
   refine rl (fI (cs := [iV y.1, iV y.2]) kR rfl (fun w s => (src_y _).cell hy s)) ?_
   refine gL (eB 53 (cs := [iV 0, iV 0]) dE kR (lim.b 53 dE) (fun o ho => by repeat (first | exact lim.h 53 dE o ho | rw [cH dE ho dE])) ble (fun b5 hb5 => ?_))
   refine gL (sta 53 rfl rfl rfl rfl ?_)
   refine g2 ?_
   refine jJ (fun i => i == 10) kR ?_
   refine gr 0 rfl (rfa 14) ?_
   refine gr 1 rfl (rld 38 rfl rfl rfl) ?_
   refine gr 2 rfl (rfa 0) ?_
   refine gr 3 rfl (rld 53 rfl rfl rfl) ?_
   refine gr 4 rfl (rfa 1) ?_
   refine gr 5 rfl (rld 53 rfl rfl rfl) ?_
   refine gn 6 rfl (cvo rfl (fun w_ s_ => n7 _ _ w_) (gk ?_))
   refine gn 7 rfl (dK 60 (e := 59) (sz := 2) (by_ := 16) (zs := [iV 0, iV 0]) dE kR rfl dE dE rfl rfl rfl (fun bo => gk ?_))
   refine gn 8 rfl (cU 11 60 (e := 59) (sz := 2) (by_ := 16) (zs := [iV 0, iV 0]) dE kR rfl dE rfl rfl rfl rfl ⟨rfl, rfl⟩ ⟨rfl, rfl⟩ xA sO sO (fun p' c' => gk ?_))
   refine gn 9 rfl (fU dE (rfa 14) (gk ?_))
   refine gn 10 rfl (sto 38 rfl rfl rfl rfl (gk ?_))
   refine eE kR ?_
   refine g6 ?_
   refine aQ ⟨k + 1, p', c', n + 1, xs ++ [iV y.1, iV y.2], l ++ [y]⟩ sO ⟨by omega, by rw [hl, List.take_add_one, hy]; rfl, by rw [List.length_append, hn]; rfl, by rw [hx]; exact lV _ _⟩ kns (fun w s => by exact s.low 39 ((by repeat (first | exact lim | apply Lim.aJ1 _ dE dE | apply Lim.aJ2 _ dE))) agx agx agx)
  ·have hge : ¬ k < r.wday.length := by have := oF hc2; omega
   obtain rfl : k = r.wday.length := by omega
   rw [List.take_length] at hl
   subst hl hn hx
   refine g7 ?_
   have hc2_ : cellsAt 38 ((ky 38 14, .slice q r.wday.length e) :: (ky 38 8, iV 0) :: (ky 38 7, iV r.untl) :: (ky 38 2, iV 0) :: (ky 38 1, iV r.start) :: H) 0 (oc0 (aE r) { x with p14 := q, c14 := e }) := (cC (ho.get 0 _ rfl) (cC rfl (cC rfl (cC (ho.get 3 _ rfl) (cC (ho.get 4 _ rfl) (cC (ho.get 5 _ rfl) (cC (ho.get 6 _ rfl) (cC (show lkp (ky 38 7) _ = some (iV (aE r).u) from by rw [hu]; rfl) (cC rfl (cC (ho.get 9 _ rfl) (cC (ho.get 10 _ rfl) (cC (ho.get 11 _ rfl) (cC (ho.get 12 _ rfl) (cC (ho.get 13 _ rfl) (cC rfl (cC (ho.get 15 _ rfl) (cC (ho.get 16 _ rfl) (cC (ho.get 17 _ rfl) (cC (ho.get 18 _ rfl) cN)))))))))))))))))))
   refine aB1 (fun a k => k) (fun w s => s) (H' := (ky 38 14, .slice q r.wday.length e) :: (ky 38 8, iV 0) :: (ky 38 7, iV r.untl) :: (ky 38 2, iV 0) :: (ky 38 1, iV r.start) :: H) ?_
   refine rl ((dP 38 (cs := oc0 (aE r) { x with p14 := q, c14 := e }) rfl rfl hc2_.get ble kR)) ?_
   refine gL (cA 37 (cs := (oc0 (aE r) { x with p14 := q, c14 := e }).toArray) rfl rfl rfl (cG kX h2) kR rfl ble ?_)
   refine g3 ?_
   refine aT (.inl rfl) rfl (jX 37 (cs := oc0 (aE r) { x with p14 := q, c14 := e }) rfl rfl (fun i v h => by have := aN (j := 37) (oc0 (aE r) { x with p14 := q, c14 := e }) 0 (H := (ky 38 14, .slice q r.wday.length e) :: (ky 38 8, iV 0) :: (ky 38 7, iV r.untl) :: (ky 38 2, iV 0) :: (ky 38 1, iV r.start) :: H) ble i v h; rwa [Nat.zero_add] at this) ble kR) fun w s => hR q e w ?_
   refine s.to (fun k b h => ?_) (fun k o v ho_ h => ?_) (fun k q h => ?_)
   ·have hk : k < 36 := by
     rcases Nat.lt_or_ge k 36 with h' | h'
     ·exact h'
     ·rw [limB.b k h'] at h; cases h
    rw [aA oM, aA oM, aA oM]; exact h
   ·have hk : k < 36 := by
     rcases Nat.lt_or_ge k 36 with h' | h'
     ·exact h'
     ·rw [limB.h k h' o ho_] at h; cases h
    have h1 := (cT (j := 37) (k := k) oM ho_ (oc0 (aE r) { x with p14 := q, c14 := e }) 0 (A := (ky 38 14, .slice q r.wday.length e) :: (ky 38 8, iV 0) :: (ky 38 7, iV r.untl) :: (ky 38 2, iV 0) :: (ky 38 1, iV r.start) :: H) ble).trans (Eq.trans (by repeat (first | rfl | rw [cH oM ho_ dE])) ((frH k hk o ho_).trans h))
    obtain ⟨b, e_, _⟩ := s.cells k o v ho_ h1
    rw [aA oM, aA oM, aA oM] at e_
    exact ⟨h1, by rw [e_]; rfl⟩
   ·exact h
 ·have hu1 : r.hasUntil = false := hc2
  have hu : (aE r).u = 0 := by unfold aE; simp only; rw [hu1]; rfl
  refine g5 ?_
  refine rl (rfa 13) ?_
  refine rZ5 (bE 36 rfl rfl (hr.get 13 _ rfl) kR dE) ?_
  refine bJ (ι := (Nat) × (Option Addr) × (Nat) × (Nat) × (List Value) × (List (Int × Int))) (fun | ⟨k, q, e, n, xs, l⟩ => r.wday.length - k) (fun | ⟨k, q, e, n, xs, l⟩ => (k ≤ r.wday.length) ∧ (l = r.wday.take k) ∧ (n = l.length) ∧ (xs = eI l)) (fun | ⟨k, q, e, n, xs, l⟩ => [(1, pT b1), (2, pT b2), (3, pT b3), (48, .slice x.p14 (r.wday).length x.c14), (49, iV (r.wday.length)), (50, iV k)]) (fun | ⟨k, q, e, n, xs, l⟩ => ((38, b3) :: (37, b2) :: (36, b1) :: B)) (fun | ⟨k, q, e, n, xs, l⟩ => (ky 38 14, .slice q n e) :: (ky 38 8, iV 0) :: (ky 38 7, iV 0) :: (ky 38 2, iV 0) :: (ky 38 1, iV r.start) :: H) (fun | ⟨k, q, e, n, xs, l⟩ => (11, ⟨.slice q n e, 59, 2, n, xs⟩) :: S) ⟨0, none, 0, 0, [], []⟩ ⟨Nat.zero_le _, rfl, rfl, rfl⟩ kns (fun w s => by exact (s.aJ6 11 59 2).low 39 ((by repeat (first | exact lim | apply Lim.aJ1 _ dE dE | apply Lim.aJ2 _ dE))) agx (by exact Agr.pick (ho.get 14 _ rfl) (Agr.pick (ho.get 8 _ rfl) (Agr.pick (ho.get 7 _ rfl) (Agr.pick rfl (Agr.pick rfl (by repeat (first | exact Agr.refl _ | apply Agr.skip dE | apply Agr.seq dE))))))) agx) ?_
  rintro ⟨k, q, e, n, xs, l⟩ ⟨hk, hl, hn, hx⟩
  show GC _ _ _ _ [(1, pT b1), (2, pT b2), (3, pT b3), (48, .slice x.p14 (r.wday).length x.c14), (49, iV (r.wday.length)), (50, iV k)] _ _ (((38, b3) :: (37, b2) :: (36, b1) :: B)) ((ky 38 14, .slice q n e) :: (ky 38 8, iV 0) :: (ky 38 7, iV 0) :: (ky 38 2, iV 0) :: (ky 38 1, iV r.start) :: H) ((11, ⟨.slice q n e, 59, 2, n, xs⟩) :: S)
  refine g6 ?_
  refine aB rfl (fun hc1 => ?_) (fun hc2 => ?_)
  ·have hlt : k < r.wday.length := by have := oT hc1; omega
   obtain ⟨y, hy⟩ : ∃ y, r.wday[k]? = some y := ⟨_, List.getElem?_eq_getElem hlt⟩
   refine eA (fun w s => (hday _).head s oM) fun hh => ?_
   obtain ⟨by_, oy_, hp_y⟩ := hh
   have src_y := hday
   rw [hp_y] at src_y
   have hdl := rk.days
   have hln : l.length = k := by rw [hl, List.length_take]; omega
   refine g6 ?_
   refine rl (aF (e := 69) (n := 2) kR (congrArg (fun p => some (Value.slice p _ _)) hp_y) rfl oM oM) ?_
   refine rl (fI (cs := [iV y.1, iV y.2]) kR rfl (fun w s => (src_y _).cell hy s)) ?_
   refine gL (eB 53 (cs := [iV 0, iV 0]) dE kR (lim.b 53 dE) (fun o ho => by repeat (first | exact lim.h 53 dE o ho | rw [cH dE ho dE])) ble (fun b5 hb5 => ?_))
   refine gL (sta 53 rfl rfl rfl rfl ?_)
   refine g2 ?_
   refine jJ (fun i => i == 10) kR ?_
   refine gr 0 rfl (rfa 14) ?_
   refine gr 1 rfl (rld 38 rfl rfl rfl) ?_
   refine gr 2 rfl (rfa 0) ?_
   refine gr 3 rfl (rld 53 rfl rfl rfl) ?_
   refine gr 4 rfl (rfa 1) ?_
   refine gr 5 rfl (rld 53 rfl rfl rfl) ?_
   refine gn 6 rfl (cvo rfl (fun w_ s_ => n7 _ _ w_) (gk ?_))
   refine gn 7 rfl (dK 60 (e := 59) (sz := 2) (by_ := 16) (zs := [iV 0, iV 0]) dE kR rfl dE dE rfl rfl rfl (fun bo => gk ?_))
   refine gn 8 rfl (cU 11 60 (e := 59) (sz := 2) (by_ := 16) (zs := [iV 0, iV 0]) dE kR rfl dE rfl rfl rfl rfl ⟨rfl, rfl⟩ ⟨rfl, rfl⟩ xA sO sO (fun p' c' => gk ?_))
   refine gn 9 rfl (fU dE (rfa 14) (gk ?_))
   refine gn 10 rfl (sto 38 rfl rfl rfl rfl (gk ?_))
   refine eE kR ?_
   refine g6 ?_
   refine aQ ⟨k + 1, p', c', n + 1, xs ++ [iV y.1, iV y.2], l ++ [y]⟩ sO ⟨by omega, by rw [hl, List.take_add_one, hy]; rfl, by rw [List.length_append, hn]; rfl, by rw [hx]; exact lV _ _⟩ kns (fun w s => by exact s.low 39 ((by repeat (first | exact lim | apply Lim.aJ1 _ dE dE | apply Lim.aJ2 _ dE))) agx agx agx)
  ·have hge : ¬ k < r.wday.length := by have := oF hc2; omega
   obtain rfl : k = r.wday.length := by omega
   rw [List.take_length] at hl
   subst hl hn hx
   refine g7 ?_
   have hc2_ : cellsAt 38 ((ky 38 14, .slice q r.wday.length e) :: (ky 38 8, iV 0) :: (ky 38 7, iV 0) :: (ky 38 2, iV 0) :: (ky 38 1, iV r.start) :: H) 0 (oc0 (aE r) { x with p14 := q, c14 := e }) := (cC (ho.get 0 _ rfl) (cC rfl (cC rfl (cC (ho.get 3 _ rfl) (cC (ho.get 4 _ rfl) (cC (ho.get 5 _ rfl) (cC (ho.get 6 _ rfl) (cC (show lkp (ky 38 7) _ = some (iV (aE r).u) from by rw [hu]; rfl) (cC rfl (cC (ho.get 9 _ rfl) (cC (ho.get 10 _ rfl) (cC (ho.get 11 _ rfl) (cC (ho.get 12 _ rfl) (cC (ho.get 13 _ rfl) (cC rfl (cC (ho.get 15 _ rfl) (cC (ho.get 16 _ rfl) (cC (ho.get 17 _ rfl) (cC (ho.get 18 _ rfl) cN)))))))))))))))))))
   refine aB1 (fun a k => k) (fun w s => s) (H' := (ky 38 14, .slice q r.wday.length e) :: (ky 38 8, iV 0) :: (ky 38 7, iV 0) :: (ky 38 2, iV 0) :: (ky 38 1, iV r.start) :: H) ?_
   refine rl ((dP 38 (cs := oc0 (aE r) { x with p14 := q, c14 := e }) rfl rfl hc2_.get ble kR)) ?_
   refine gL (cA 37 (cs := (oc0 (aE r) { x with p14 := q, c14 := e }).toArray) rfl rfl rfl (cG kX h2) kR rfl ble ?_)
   refine g3 ?_
   refine aT (.inl rfl) rfl (jX 37 (cs := oc0 (aE r) { x with p14 := q, c14 := e }) rfl rfl (fun i v h => by have := aN (j := 37) (oc0 (aE r) { x with p14 := q, c14 := e }) 0 (H := (ky 38 14, .slice q r.wday.length e) :: (ky 38 8, iV 0) :: (ky 38 7, iV 0) :: (ky 38 2, iV 0) :: (ky 38 1, iV r.start) :: H) ble i v h; rwa [Nat.zero_add] at this) ble kR) fun w s => hR q e w ?_
   refine s.to (fun k b h => ?_) (fun k o v ho_ h => ?_) (fun k q h => ?_)
   ·have hk : k < 36 := by
     rcases Nat.lt_or_ge k 36 with h' | h'
     ·exact h'
     ·rw [limB.b k h'] at h; cases h
    rw [aA oM, aA oM, aA oM]; exact h
   ·have hk : k < 36 := by
     rcases Nat.lt_or_ge k 36 with h' | h'
     ·exact h'
     ·rw [limB.h k h' o ho_] at h; cases h
    have h1 := (cT (j := 37) (k := k) oM ho_ (oc0 (aE r) { x with p14 := q, c14 := e }) 0 (A := (ky 38 14, .slice q r.wday.length e) :: (ky 38 8, iV 0) :: (ky 38 7, iV 0) :: (ky 38 2, iV 0) :: (ky 38 1, iV r.start) :: H) ble).trans (Eq.trans (by repeat (first | rfl | rw [cH oM ho_ dE])) ((frH k hk o ho_).trans h))
    obtain ⟨b, e_, _⟩ := s.cells k o v ho_ h1
    rw [aA oM, aA oM, aA oM] at e_
    exact ⟨h1, by rw [e_]; rfl⟩
   ·exact h
theorem wQ {r : Rul} {x : Av} (rk : RulOk r) (limB : Lim 36 B H S) (hno : lkp 11 S = none) (hday : ∀ S, SrcU F w0 S 11 (.slice x.p14 (r.wday).length x.c14) r.wday) : ∀ w, Sees F w0 B H S w → Calls Tryz.prog 34 #[.agg (bC r x).toArray] w fun e w' => ∃ p c, e = .returned (.agg (oc0 (aE r) { x with p14 := p, c14 := c }).toArray) ∧ Sees F w0 B H ((11, ⟨.slice p r.wday.length c, 59, 2, r.wday.length, eI r.wday⟩) :: S) w' := by
 have hfq := rk.freq
 intro w s
 refine aI (args := [.agg (bC r x).toArray]) (L := [(0, .agg (bC r x).toArray)]) (N := 66) Tryz.func34 rfl rfl ble rfl s ?_
 refine g2 ?_
 refine gL (fM 36 (cs := bC r x) dE rfl rfl (limB.b 36 dE) (fun o ho => limB.h 36 dE o ho) ble (fun b1 hb1 => ?_))
 refine gL (eB 37 (cs := zL3) dE kR (limB.b 37 dE) (fun o ho => by repeat (first | exact limB.h 37 dE o ho | rw [aK dE ho _ _ ble])) ble (fun b2 hb2 => ?_))
 refine g3 ?_
 refine aBo (fun i => i == 30) kR ?_
 refine gr 0 rfl (rfa 0) ?_
 refine gr 1 rfl (rld 36 rfl rfl rfl) ?_
 first
  | refine gr 2 rfl (rH rfl kR kR oM) ?_
  | refine gr 2 rfl (jR rfl kR kR) ?_
 refine gr 3 rfl (rfa 3) ?_
 refine gr 4 rfl (rld 36 rfl rfl rfl) ?_
 refine gr 5 rfl (rfa 4) ?_
 refine gr 6 rfl (rld 36 rfl rfl rfl) ?_
 refine gr 8 rfl (rfa 5) ?_
 refine gr 9 rfl (rld 36 rfl rfl rfl) ?_
 refine gr 10 rfl (rfa 8) ?_
 refine gr 11 rfl (rld 36 rfl rfl rfl) ?_
 refine gr 12 rfl (rfa 9) ?_
 refine gr 13 rfl (rld 36 rfl rfl rfl) ?_
 refine gr 14 rfl (rfa 10) ?_
 refine gr 15 rfl (rld 36 rfl rfl rfl) ?_
 refine gr 16 rfl (rfa 11) ?_
 refine gr 17 rfl (rld 36 rfl rfl rfl) ?_
 refine gr 18 rfl (rfa 12) ?_
 refine gr 19 rfl (rld 36 rfl rfl rfl) ?_
 refine gr 20 rfl (rfa 14) ?_
 refine gr 21 rfl (rld 36 rfl rfl rfl) ?_
 refine gr 22 rfl (rfa 15) ?_
 refine gr 23 rfl (rld 36 rfl rfl rfl) ?_
 refine gr 24 rfl (rfa 16) ?_
 refine gr 25 rfl (rld 36 rfl rfl rfl) ?_
 refine gr 26 rfl (rfa 17) ?_
 refine gr 27 rfl (rld 36 rfl rfl rfl) ?_
 refine kL (i := 7) (j := 29) rfl rfl rfl rfl kR rfl rfl ?_ ?_
 ·refine cvo rfl (fun w_ s_ => n7 _ _ w_) (eL (fun _ w s => by exact s.low 38 (Lim.aJ4 dE _ 0 ble (Lim.aJ4 dE _ 0 ble (((limB.mono dE).aJ3 dE).aJ3 dE))) agx agx agx) ?_)
  refine kL (i := 28) (j := 29) rfl rfl rfl rfl kR rfl rfl ?_ ?_
  ·refine fU dE (gP (vs := [(0, iV r.freq), (2, iV r.interval), (3, .agg #[iV r.wkst, iV 0]), (4, iV r.count), (6, .slice x.p9 (r.setpos).length x.c9), (7, .slice x.p10 (r.month).length x.c10), (8, .slice x.p11 (r.mday).length x.c11), (9, .slice x.p12 (r.yday).length x.c12), (10, .slice x.p13 (r.weekno).length x.c13), (12, .slice x.p15 (r.hour).length x.c15), (13, .slice x.p16 (r.minute).length x.c16), (14, .slice x.p17 (r.second).length x.c17), (15, .slice x.p18 (r.easter).length x.c18)]) (v := .agg (qM r x).toArray) rfl kW) (eL (fun _ w s => by exact s.low 38 (Lim.aJ4 dE _ 0 ble (Lim.aJ4 dE _ 0 ble (((limB.mono dE).aJ3 dE).aJ3 dE))) agx agx agx) ?_)
   refine gn 29 rfl (eB 38 (cs := zL3) dE kR (limB.b 38 dE) (fun o ho => by repeat (first | exact limB.h 38 dE o ho | rw [aK dE ho _ _ ble])) ble (fun b3 hb3 => eL (fun _ w s => by exact s.low 38 (Lim.aJ4 dE _ 0 ble (Lim.aJ4 dE _ 0 ble (((limB.mono dE).aJ3 dE).aJ3 dE))) agx agx agx) ?_))
   refine gn 30 rfl (cA 38 (cs := (qM r x).toArray) rfl rfl rfl (dV (fZ zL3 ble) 0 19 ble) kR rfl ble (gk ?_))
   refine eE kR ?_
   refine g1 ?_
   refine dO (L' := [(1, pT b1), (2, pT b2), (3, pT b3)]) kns (fun w s => s) (H' := cX 38 0 (qM r x) (aC 38 0 zL3 ++ (aC 37 0 zL3 ++ (aC 36 0 (bC r x) ++ H)))) ?_
   refine tY (x := x) rk (fQ fun i u h => (cT dE (by have := (List.getElem?_eq_some_iff.1 h).1; have h3 : (bC r x).length = 18 := rfl; omega) _ _ ble).trans ((aK dE (by have := (List.getElem?_eq_some_iff.1 h).1; have h3 : (bC r x).length = 18 := rfl; omega) _ _ ble).trans ((aK dE (by have := (List.getElem?_eq_some_iff.1 h).1; have h3 : (bC r x).length = 18 := rfl; omega) _ _ ble).trans (fJ (bC r x) 0 ble i u h)))) ?_ (fQ fun i u h => aN (qM r x) 0 ble i u h) limB hno ?_ ?_ hday (fun p c w s => ⟨p, c, rfl, s⟩)
   ·exact cG (Knw.seq _ _ (Knw.put _ _ (Knw.refl _))) (dV (fZ zL3 ble) 0 19 ble)
   ·exact Lim.seqH dE _ 0 ble (Lim.aJ4 dE _ 0 ble (Lim.aJ4 dE _ 0 ble (Lim.aJ4 dE _ 0 ble ((((limB.mono dE).aJ3 dE).aJ3 dE).aJ3 dE))))
   ·exact fun k hk o_ ho_ => (cT oM ho_ _ _ ble).trans ((aK oM ho_ _ _ ble).trans ((aK oM ho_ _ _ ble).trans (aK oM ho_ _ _ ble)))
  ·refine eB 38 (cs := zL3) dE kR (limB.b 38 dE) (fun o ho => by repeat (first | exact limB.h 38 dE o ho | rw [aK dE ho _ _ ble])) ble (fun b3 hb3 => eL (fun _ w s => by exact s.low 38 (Lim.aJ4 dE _ 0 ble (Lim.aJ4 dE _ 0 ble (((limB.mono dE).aJ3 dE).aJ3 dE))) agx agx agx) ?_)
   refine gn 28 rfl (fU dE (gP (vs := [(0, iV r.freq), (2, iV r.interval), (3, .agg #[iV r.wkst, iV 0]), (4, iV r.count), (6, .slice x.p9 (r.setpos).length x.c9), (7, .slice x.p10 (r.month).length x.c10), (8, .slice x.p11 (r.mday).length x.c11), (9, .slice x.p12 (r.yday).length x.c12), (10, .slice x.p13 (r.weekno).length x.c13), (12, .slice x.p15 (r.hour).length x.c15), (13, .slice x.p16 (r.minute).length x.c16), (14, .slice x.p17 (r.second).length x.c17), (15, .slice x.p18 (r.easter).length x.c18)]) (v := .agg (qM r x).toArray) rfl kW) (eL (fun _ w s => by exact s.low 38 (Lim.aJ4 dE _ 0 ble (Lim.aJ4 dE _ 0 ble (((limB.mono dE).aJ3 dE).aJ3 dE))) agx agx agx) ?_))
   refine gn 30 rfl (cA 38 (cs := (qM r x).toArray) rfl rfl rfl (dV (fZ zL3 ble) 0 19 ble) kR rfl ble (gk ?_))
   refine eE kR ?_
   refine g1 ?_
   refine dO (L' := [(1, pT b1), (2, pT b2), (3, pT b3)]) kns (fun w s => s) (H' := cX 38 0 (qM r x) (aC 38 0 zL3 ++ (aC 37 0 zL3 ++ (aC 36 0 (bC r x) ++ H)))) ?_
   refine tY (x := x) rk (fQ fun i u h => (cT dE (by have := (List.getElem?_eq_some_iff.1 h).1; have h3 : (bC r x).length = 18 := rfl; omega) _ _ ble).trans ((aK dE (by have := (List.getElem?_eq_some_iff.1 h).1; have h3 : (bC r x).length = 18 := rfl; omega) _ _ ble).trans ((aK dE (by have := (List.getElem?_eq_some_iff.1 h).1; have h3 : (bC r x).length = 18 := rfl; omega) _ _ ble).trans (fJ (bC r x) 0 ble i u h)))) ?_ (fQ fun i u h => aN (qM r x) 0 ble i u h) limB hno ?_ ?_ hday (fun p c w s => ⟨p, c, rfl, s⟩)
   ·exact cG (Knw.seq _ _ (Knw.put _ _ (Knw.refl _))) (dV (fZ zL3 ble) 0 19 ble)
   ·exact Lim.seqH dE _ 0 ble (Lim.aJ4 dE _ 0 ble (Lim.aJ4 dE _ 0 ble (Lim.aJ4 dE _ 0 ble ((((limB.mono dE).aJ3 dE).aJ3 dE).aJ3 dE))))
   ·exact fun k hk o_ ho_ => (cT oM ho_ _ _ ble).trans ((aK oM ho_ _ _ ble).trans ((aK oM ho_ _ _ ble).trans (aK oM ho_ _ _ ble)))
 ·refine eB 38 (cs := zL3) dE kR (limB.b 38 dE) (fun o ho => by repeat (first | exact limB.h 38 dE o ho | rw [aK dE ho _ _ ble])) ble (fun b3 hb3 => eL (fun _ w s => by exact s.low 38 (Lim.aJ4 dE _ 0 ble (Lim.aJ4 dE _ 0 ble (((limB.mono dE).aJ3 dE).aJ3 dE))) agx agx agx) ?_)
  refine gn 7 rfl (cvo rfl (fun w_ s_ => n7 _ _ w_) (eL (fun _ w s => by exact s.low 38 (Lim.aJ4 dE _ 0 ble (Lim.aJ4 dE _ 0 ble (((limB.mono dE).aJ3 dE).aJ3 dE))) agx agx agx) ?_))
  refine gn 28 rfl (fU dE (gP (vs := [(0, iV r.freq), (2, iV r.interval), (3, .agg #[iV r.wkst, iV 0]), (4, iV r.count), (6, .slice x.p9 (r.setpos).length x.c9), (7, .slice x.p10 (r.month).length x.c10), (8, .slice x.p11 (r.mday).length x.c11), (9, .slice x.p12 (r.yday).length x.c12), (10, .slice x.p13 (r.weekno).length x.c13), (12, .slice x.p15 (r.hour).length x.c15), (13, .slice x.p16 (r.minute).length x.c16), (14, .slice x.p17 (r.second).length x.c17), (15, .slice x.p18 (r.easter).length x.c18)]) (v := .agg (qM r x).toArray) rfl kW) (eL (fun _ w s => by exact s.low 38 (Lim.aJ4 dE _ 0 ble (Lim.aJ4 dE _ 0 ble (((limB.mono dE).aJ3 dE).aJ3 dE))) agx agx agx) ?_))
  refine gn 30 rfl (cA 38 (cs := (qM r x).toArray) rfl rfl rfl (dV (fZ zL3 ble) 0 19 ble) kR rfl ble (gk ?_))
  refine eE kR ?_
  refine g1 ?_
  refine dO (L' := [(1, pT b1), (2, pT b2), (3, pT b3)]) kns (fun w s => s) (H' := cX 38 0 (qM r x) (aC 38 0 zL3 ++ (aC 37 0 zL3 ++ (aC 36 0 (bC r x) ++ H)))) ?_
  refine tY (x := x) rk (fQ fun i u h => (cT dE (by have := (List.getElem?_eq_some_iff.1 h).1; have h3 : (bC r x).length = 18 := rfl; omega) _ _ ble).trans ((aK dE (by have := (List.getElem?_eq_some_iff.1 h).1; have h3 : (bC r x).length = 18 := rfl; omega) _ _ ble).trans ((aK dE (by have := (List.getElem?_eq_some_iff.1 h).1; have h3 : (bC r x).length = 18 := rfl; omega) _ _ ble).trans (fJ (bC r x) 0 ble i u h)))) ?_ (fQ fun i u h => aN (qM r x) 0 ble i u h) limB hno ?_ ?_ hday (fun p c w s => ⟨p, c, rfl, s⟩)
  ·exact cG (Knw.seq _ _ (Knw.put _ _ (Knw.refl _))) (dV (fZ zL3 ble) 0 19 ble)
  ·exact Lim.seqH dE _ 0 ble (Lim.aJ4 dE _ 0 ble (Lim.aJ4 dE _ 0 ble (Lim.aJ4 dE _ 0 ble ((((limB.mono dE).aJ3 dE).aJ3 dE).aJ3 dE))))
  ·exact fun k hk o_ ho_ => (cT oM ho_ _ _ ble).trans ((aK oM ho_ _ _ ble).trans ((aK oM ho_ _ _ ble).trans (aK oM ho_ _ _ ble)))
end
end Go.Proofs.YtdbbifbmkfmbkaaGreat
