/-
  The rule that the package builds from its options: the begin, and what the start gives.
-/
import Derived.Test.YtfcklceejjmjeaaGreatProg
import Derived.Test.YtfcklceejjmjeaaGreatMd
import Derived.Test.YtfcklceejjmjeaaGreatFg
import Derived.Test.YtfcklceejjmjeaaGreatBuc
set_option linter.unusedVariables false
set_option linter.unusedSimpArgs false
set_option maxRecDepth 100000
set_option maxHeartbeats 8000000
namespace Go.Proofs.YtfcklceejjmjeaaGreat
open Go.RowKit Go.Fr Go.Tab
section
variable {F : Nat → Prop} {w0 : World} {B : List (Nat × Nat)} {H : List (Nat × Value)} {S : List (Nat × Slc)}

open Go.Md
theorem bu_B {R : Ending → World → Prop} {o : Opn} {x : Av} {b1 b2 b3 : Nat} {H0 : List (Nat × Value)} {S0 : List (Nat × Slc)} (ok : OpOk o) (hsort : o.freq < 4 → SortOk F w0 (raw o)) (bs : Bs F w0 B H0 S0 b1 b2 b3 (oc0 o x) (rcA o x) H S) (s9 : SrcT F w0 S 11 (.slice x.p9 (o.setpos).length x.c9) o.setpos) (s10 : SrcT F w0 S 11 (.slice x.p10 (o.month).length x.c10) o.month) (s11 : SrcT F w0 S 11 (.slice x.p11 (o.mday).length x.c11) o.mday) (s12 : SrcT F w0 S 11 (.slice x.p12 (o.yday).length x.c12) o.yday) (s13 : SrcT F w0 S 11 (.slice x.p13 (o.weekno).length x.c13) o.weekno) (s14 : SrcU F w0 S 11 (.slice x.p14 (o.wday).length x.c14) o.wday) (s15 : SrcT F w0 S 11 (.slice x.p15 (o.hour).length x.c15) o.hour) (s16 : SrcT F w0 S 11 (.slice x.p16 (o.minute).length x.c16) o.minute) (s17 : SrcT F w0 S 11 (.slice x.p17 (o.second).length x.c17) o.second) (s18 : SrcT F w0 S 11 (.slice x.p18 (o.easter).length x.c18) o.easter)  (hR : ∀ (x : Av) (S' : List (Nat × Slc)), OutF F w0 o x S0 S' → ∀ w, Sees F w0 B H0 S' w → R (.returned (.agg (outC o x).toArray)) w) : GC Go.Proofs.Tryz.prog (Go.Fr.part [1, 1, 1, 1, 1, 1, 1, 1, 1, 1, 1, 1, 1, 1] (Go.Fr.bodyOf Tryz.f17)) (bodyPost Go.Proofs.Tryz.prog Tryz.f17 R) 300 [(1, .pointer (some ⟨b1, 0, none⟩)), (2, .pointer (some ⟨b2, 0, none⟩)), (3, .pointer (some ⟨b3, 0, none⟩))] F w0 ((52, b3) :: (51, b2) :: (50, b1) :: B) H S := by
  have ok_ := ok
  have hd_ := ok.d
  refine GC_seq ?_
  refine GC_seq ?_
  rcases Decidable.em (o.weekno.length = 0) with hz0 | hz0
  · skip
    rcases Decidable.em (o.yday.length = 0) with hz1 | hz1
    · skip
      rcases Decidable.em (o.mday.length = 0) with hz2 | hz2
      · skip
        rcases Decidable.em (o.wday.length = 0) with hz3 | hz3
        · skip
          rcases Decidable.em (o.easter.length = 0) with hz4 | hz4
          · skip
            have hnd : noDays o = true := by unfold noDays; rw [hz0, hz1, hz2, hz3, hz4]; rfl
            refine GC_region ?_
            refine GL_rd rfl (by decide) (rd_fieldAddr (j := 13) (by kernel_rfl) rfl) ?_
            refine GL_rd rfl (by decide) (rd_load 50 rfl rfl (bs.ho.get 13 _ rfl) (by kernel_rfl) (by decide)) ?_
            refine GL_rd rfl (by decide) (rd_len (by kernel_rfl) rfl) ?_
            refine GL_rd rfl (by decide) ((rd_eql rfl rfl).to (v' := .bool true) (congrArg Value.bool (b_eq (by omega)))) ?_
            refine GL_rd rfl (by decide) (rd_move rfl) ?_
            refine GL_take rfl rfl ?_
            refine GL_rd rfl (by decide) (rd_fieldAddr (j := 12) (by kernel_rfl) rfl) ?_
            refine GL_take rfl rfl ?_
            refine GL_rd rfl (by decide) (rd_load 50 rfl rfl (bs.ho.get 12 _ rfl) (by kernel_rfl) (by decide)) ?_
            refine GL_take rfl rfl ?_
            refine GL_rd rfl (by decide) (rd_len (by kernel_rfl) rfl) ?_
            refine GL_take rfl rfl ?_
            refine GL_rd rfl (by decide) ((rd_eql rfl rfl).to (v' := .bool true) (congrArg Value.bool (b_eq (by omega)))) ?_
            refine GL_rd rfl (by decide) (rd_pick rfl rfl rfl) ?_
            refine GL_rd rfl (by decide) (rd_move rfl) ?_
            refine GL_take rfl rfl ?_
            refine GL_rd rfl (by decide) (rd_fieldAddr (j := 11) (by kernel_rfl) rfl) ?_
            refine GL_take rfl rfl ?_
            refine GL_rd rfl (by decide) (rd_load 50 rfl rfl (bs.ho.get 11 _ rfl) (by kernel_rfl) (by decide)) ?_
            refine GL_take rfl rfl ?_
            refine GL_rd rfl (by decide) (rd_len (by kernel_rfl) rfl) ?_
            refine GL_take rfl rfl ?_
            refine GL_rd rfl (by decide) ((rd_eql rfl rfl).to (v' := .bool true) (congrArg Value.bool (b_eq (by omega)))) ?_
            refine GL_rd rfl (by decide) (rd_pick rfl rfl rfl) ?_
            refine GL_rd rfl (by decide) (rd_move rfl) ?_
            refine GL_take rfl rfl ?_
            refine GL_rd rfl (by decide) (rd_fieldAddr (j := 14) (by kernel_rfl) rfl) ?_
            refine GL_take rfl rfl ?_
            refine GL_rd rfl (by decide) (rd_load 50 rfl rfl (bs.ho.get 14 _ rfl) (by kernel_rfl) (by decide)) ?_
            refine GL_take rfl rfl ?_
            refine GL_rd rfl (by decide) (rd_len (by kernel_rfl) rfl) ?_
            refine GL_take rfl rfl ?_
            refine GL_rd rfl (by decide) ((rd_eql rfl rfl).to (v' := .bool true) (congrArg Value.bool (b_eq (by omega)))) ?_
            refine GL_rd rfl (by decide) (rd_pick rfl rfl rfl) ?_
            refine GL_rd rfl (by decide) (rd_move rfl) ?_
            refine GL_take rfl rfl ?_
            refine GL_rd rfl (by decide) (rd_fieldAddr (j := 18) (by kernel_rfl) rfl) ?_
            refine GL_take rfl rfl ?_
            refine GL_rd rfl (by decide) (rd_load 50 rfl rfl (bs.ho.get 18 _ rfl) (by kernel_rfl) (by decide)) ?_
            refine GL_take rfl rfl ?_
            refine GL_rd rfl (by decide) (rd_len (by kernel_rfl) rfl) ?_
            refine GL_take rfl rfl ?_
            refine GL_rd rfl (by decide) ((rd_eql rfl rfl).to (v' := .bool true) (congrArg Value.bool (b_eq (by omega)))) ?_
            refine GL_rd rfl (by decide) (rd_pick rfl rfl rfl) ?_
            refine GL_nil ?_
            refine GE_then ?_
            refine GC_is_true rfl rfl ?_
            refine GC_seq ?_
            refine GC_region ?_
            refine GL_rd rfl (by decide) (rd_fieldAddr (j := 38) (by kernel_rfl) rfl) ?_
            refine GL_rd rfl (by decide) (rd_load 52 rfl rfl (bs.hc.get 38 _ rfl) (by kernel_rfl) (by decide)) ?_
            refine GL_rd rfl (by decide) (rd_eql rfl rfl) ?_
            refine GL_nil ?_
            refine GE_then ?_
            refine GC_cond rfl (fun hc1 => ?_) (fun hc2 => ?_)
            · skip
              have hf0 : o.freq = 0 := beq_iff_eq.1 hc1
              refine GC_seq ?_
              refine GC_seq ?_
              refine GC_region ?_
              refine GL_rd rfl (by decide) (rd_fieldAddr (j := 10) (by kernel_rfl) rfl) ?_
              refine GL_rd rfl (by decide) (rd_load 50 rfl rfl (bs.ho.get 10 _ rfl) (by kernel_rfl) (by decide)) ?_
              refine GL_rd rfl (by decide) (rd_len (by kernel_rfl) rfl) ?_
              refine GL_rd rfl (by decide) (rd_eql rfl rfl) ?_
              refine GL_nil ?_
              refine GE_then ?_
              refine GC_cond rfl (fun hc1 => ?_) (fun hc2 => ?_)
              · skip
                have hmz : o.month.length = 0 := by have := beq_iff_eq.1 hc1; omega
                refine GC_region ?_
                refine GL_rd rfl (by decide) (rd_fieldAddr (j := 39) (by kernel_rfl) rfl) ?_
                refine GL_rd rfl (by decide) (rd_load2 52 rfl rfl (bs.hc.get 39 _ rfl) (bs.hc.get 40 _ rfl) (by kernel_rfl) (by decide)) ?_
                refine GL_at rfl (at_call_v (by decide) (by kernel_rfl) rfl (fun w_ s_ => month_calls _ _ (by omega) w_) ?_)
                refine GL_at rfl (at_one_ 16 (e := 3) (sz := 1) (by_ := 8) (zs := [.int .i64 0]) (cs := [.int .i64 (Cal.monthOf (o.d / 86400))]) (by decide) (by kernel_rfl) rfl (by decide) (by decide) rfl rfl rfl (fun bmo => ?_))
                refine GL_rd rfl (by decide) (rd_fieldAddr (j := 10) (by kernel_rfl) rfl) ?_
                refine GL_at rfl (at_store 50 rfl rfl rfl (bs.ho.get 10 _ rfl) (by kernel_rfl) rfl (by decide) ?_)
                refine GL_nil ?_
                refine GE_then ?_
                refine GC_region ?_
                refine GL_rd rfl (by decide) (rd_fieldAddr (j := 39) (by kernel_rfl) rfl) ?_
                refine GL_rd rfl (by decide) (rd_load2 52 rfl rfl (bs.hc.get 39 _ rfl) (bs.hc.get 40 _ rfl) (by kernel_rfl) (by decide)) ?_
                refine GL_at rfl (at_call_v (by decide) (by kernel_rfl) rfl (fun w_ s_ => day_calls _ _ (by omega) w_) ?_)
                refine GL_at rfl (at_one_ 17 (e := 3) (sz := 1) (by_ := 8) (zs := [.int .i64 0]) (cs := [.int .i64 (Cal.mdayOf (o.d / 86400))]) (by decide) (by kernel_rfl) rfl (by decide) (by decide) rfl rfl rfl (fun bda => ?_))
                refine GL_rd rfl (by decide) (rd_fieldAddr (j := 11) (by kernel_rfl) rfl) ?_
                refine GL_at rfl (at_store 50 rfl rfl rfl (bs.ho.get 11 _ rfl) (by kernel_rfl) rfl (by decide) ?_)
                refine GL_nil ?_
                refine GE_then ?_
                refine GC_to (L' := [(1, .pointer (some ⟨b1, 0, none⟩)), (2, .pointer (some ⟨b2, 0, none⟩)), (3, .pointer (some ⟨b3, 0, none⟩))]) (fun a k => k.cons rfl (k.cons rfl (k.cons rfl (k.nil)))) (fun w s => s) ?_
                have e_month : month' o = [Cal.monthOf (o.d / 86400)] := by unfold month'; simp [hnd, hf0, hmz]
                have e_mday : mday' o = [Cal.mdayOf (o.d / 86400)] := by unfold mday'; simp [hnd, hf0, hmz]
                have e_wday : wday' o = o.wday := by unfold wday'; simp [hnd, hf0, hmz]
                refine bu_C (x := { x with pm := some ⟨bmo, 0, none⟩, cm := 1, pd := some ⟨bda, 0, none⟩, cd := 1, pw := x.p14, cw := x.c14 }) ok hsort (H := (ky 50 11, .slice (some ⟨bda, 0, none⟩) 1 1) :: (ky 50 10, .slice (some ⟨bmo, 0, none⟩) 1 1) :: H) (S := (17, ⟨.slice (some ⟨bda, 0, none⟩) 1 1, 3, 1, 1, [.int .i64 (Cal.mdayOf (o.d / 86400))]⟩) :: (16, ⟨.slice (some ⟨bmo, 0, none⟩) 1 1, 3, 1, 1, [.int .i64 (Cal.monthOf (o.d / 86400))]⟩) :: S) ⟨(cellsAt.cons (bs.ho.get 0 _ rfl) (cellsAt.cons (bs.ho.get 1 _ rfl) (cellsAt.cons (bs.ho.get 2 _ rfl) (cellsAt.cons (bs.ho.get 3 _ rfl) (cellsAt.cons (bs.ho.get 4 _ rfl) (cellsAt.cons (bs.ho.get 5 _ rfl) (cellsAt.cons (bs.ho.get 6 _ rfl) (cellsAt.cons (bs.ho.get 7 _ rfl) (cellsAt.cons (bs.ho.get 8 _ rfl) (cellsAt.cons (bs.ho.get 9 _ rfl) (cellsAt.cons (show lkp (ky 50 10) _ = some (Value.slice (some ⟨bmo, 0, none⟩) (month' o).length 1) from by rw [e_month]; rfl) (cellsAt.cons (show lkp (ky 50 11) _ = some (Value.slice (some ⟨bda, 0, none⟩) (mday' o).length 1) from by rw [e_mday]; rfl) (cellsAt.cons (bs.ho.get 12 _ rfl) (cellsAt.cons (bs.ho.get 13 _ rfl) (cellsAt.cons (show lkp (ky 50 14) _ = some (Value.slice x.p14 (wday' o).length x.c14) from by rw [e_wday]; exact bs.ho.get 14 _ rfl) (cellsAt.cons (bs.ho.get 15 _ rfl) (cellsAt.cons (bs.ho.get 16 _ rfl) (cellsAt.cons (bs.ho.get 17 _ rfl) (cellsAt.cons (bs.ho.get 18 _ rfl) cellsAt.nil))))))))))))))))))), bs.hc, (knwn_mono (by repeat (first | exact Knw.refl _ | apply Knw.cons)) bs.h2), (by repeat (first | exact bs.lim | apply Lim.consH _ (by decide) (by decide) | apply Lim.consS _ (by decide))), bs.limB, (fun k_ h1_ o_ ho_ => Eq.trans (by repeat (first | rfl | rw [lkp_ky_ne (by omega) ho_ (by decide)])) (bs.frH k_ h1_ o_ ho_)), (fun k_ h1_ h2_ => Eq.trans (by repeat (first | rfl | rw [lkp_cons_ne (by omega)])) (bs.frS k_ h1_ h2_))⟩ ((s9.cons (by decide)).cons (by decide)) (SrcT.row (e := 3) (by rw [e_month]; rfl)) (SrcT.row (e := 3) (by rw [e_mday]; rfl)) ((s12.cons (by decide)).cons (by decide)) ((s13.cons (by decide)).cons (by decide)) (by rw [e_wday]; exact (((s14.cons (by decide)).cons (by decide))).more) ((s15.cons (by decide)).cons (by decide)) ((s16.cons (by decide)).cons (by decide)) ((s17.cons (by decide)).cons (by decide)) ((s18.cons (by decide)).cons (by decide)) hR
              · skip
                have hmz : ¬ o.month.length = 0 := by have := beq_eq_false_iff_ne.1 hc2; omega
                refine GC_skip ?_
                refine GE_then ?_
                refine GC_region ?_
                refine GL_rd rfl (by decide) (rd_fieldAddr (j := 39) (by kernel_rfl) rfl) ?_
                refine GL_rd rfl (by decide) (rd_load2 52 rfl rfl (bs.hc.get 39 _ rfl) (bs.hc.get 40 _ rfl) (by kernel_rfl) (by decide)) ?_
                refine GL_at rfl (at_call_v (by decide) (by kernel_rfl) rfl (fun w_ s_ => day_calls _ _ (by omega) w_) ?_)
                refine GL_at rfl (at_one_ 17 (e := 3) (sz := 1) (by_ := 8) (zs := [.int .i64 0]) (cs := [.int .i64 (Cal.mdayOf (o.d / 86400))]) (by decide) (by kernel_rfl) rfl (by decide) (by decide) rfl rfl rfl (fun bda => ?_))
                refine GL_rd rfl (by decide) (rd_fieldAddr (j := 11) (by kernel_rfl) rfl) ?_
                refine GL_at rfl (at_store 50 rfl rfl rfl (bs.ho.get 11 _ rfl) (by kernel_rfl) rfl (by decide) ?_)
                refine GL_nil ?_
                refine GE_then ?_
                refine GC_to (L' := [(1, .pointer (some ⟨b1, 0, none⟩)), (2, .pointer (some ⟨b2, 0, none⟩)), (3, .pointer (some ⟨b3, 0, none⟩))]) (fun a k => k.cons rfl (k.cons rfl (k.cons rfl (k.nil)))) (fun w s => s) ?_
                have e_month : month' o = o.month := by unfold month'; simp [hnd, hf0, hmz]
                have e_mday : mday' o = [Cal.mdayOf (o.d / 86400)] := by unfold mday'; simp [hnd, hf0, hmz]
                have e_wday : wday' o = o.wday := by unfold wday'; simp [hnd, hf0, hmz]
                refine bu_C (x := { x with pm := x.p10, cm := x.c10, pd := some ⟨bda, 0, none⟩, cd := 1, pw := x.p14, cw := x.c14 }) ok hsort (H := (ky 50 11, .slice (some ⟨bda, 0, none⟩) 1 1) :: H) (S := (17, ⟨.slice (some ⟨bda, 0, none⟩) 1 1, 3, 1, 1, [.int .i64 (Cal.mdayOf (o.d / 86400))]⟩) :: S) ⟨(cellsAt.cons (bs.ho.get 0 _ rfl) (cellsAt.cons (bs.ho.get 1 _ rfl) (cellsAt.cons (bs.ho.get 2 _ rfl) (cellsAt.cons (bs.ho.get 3 _ rfl) (cellsAt.cons (bs.ho.get 4 _ rfl) (cellsAt.cons (bs.ho.get 5 _ rfl) (cellsAt.cons (bs.ho.get 6 _ rfl) (cellsAt.cons (bs.ho.get 7 _ rfl) (cellsAt.cons (bs.ho.get 8 _ rfl) (cellsAt.cons (bs.ho.get 9 _ rfl) (cellsAt.cons (show lkp (ky 50 10) _ = some (Value.slice x.p10 (month' o).length x.c10) from by rw [e_month]; exact bs.ho.get 10 _ rfl) (cellsAt.cons (show lkp (ky 50 11) _ = some (Value.slice (some ⟨bda, 0, none⟩) (mday' o).length 1) from by rw [e_mday]; rfl) (cellsAt.cons (bs.ho.get 12 _ rfl) (cellsAt.cons (bs.ho.get 13 _ rfl) (cellsAt.cons (show lkp (ky 50 14) _ = some (Value.slice x.p14 (wday' o).length x.c14) from by rw [e_wday]; exact bs.ho.get 14 _ rfl) (cellsAt.cons (bs.ho.get 15 _ rfl) (cellsAt.cons (bs.ho.get 16 _ rfl) (cellsAt.cons (bs.ho.get 17 _ rfl) (cellsAt.cons (bs.ho.get 18 _ rfl) cellsAt.nil))))))))))))))))))), bs.hc, (knwn_mono (by repeat (first | exact Knw.refl _ | apply Knw.cons)) bs.h2), (by repeat (first | exact bs.lim | apply Lim.consH _ (by decide) (by decide) | apply Lim.consS _ (by decide))), bs.limB, (fun k_ h1_ o_ ho_ => Eq.trans (by repeat (first | rfl | rw [lkp_ky_ne (by omega) ho_ (by decide)])) (bs.frH k_ h1_ o_ ho_)), (fun k_ h1_ h2_ => Eq.trans (by repeat (first | rfl | rw [lkp_cons_ne (by omega)])) (bs.frS k_ h1_ h2_))⟩ (s9.cons (by decide)) (by rw [e_month]; exact ((s10.cons (by decide))).more) (SrcT.row (e := 3) (by rw [e_mday]; rfl)) (s12.cons (by decide)) (s13.cons (by decide)) (by rw [e_wday]; exact ((s14.cons (by decide))).more) (s15.cons (by decide)) (s16.cons (by decide)) (s17.cons (by decide)) (s18.cons (by decide)) hR
            · skip
              have hf0 : o.freq ≠ 0 := beq_eq_false_iff_ne.1 hc2
              refine GC_seq ?_
              refine GC_region ?_
              refine GL_rd rfl (by decide) (rd_fieldAddr (j := 38) (by kernel_rfl) rfl) ?_
              refine GL_rd rfl (by decide) (rd_load 52 rfl rfl (bs.hc.get 38 _ rfl) (by kernel_rfl) (by decide)) ?_
              refine GL_rd rfl (by decide) (rd_eql rfl rfl) ?_
              refine GL_nil ?_
              refine GE_then ?_
              refine GC_cond rfl (fun hc1 => ?_) (fun hc2 => ?_)
              · skip
                have hf1 : o.freq = 1 := beq_iff_eq.1 hc1
                refine GC_region ?_
                refine GL_rd rfl (by decide) (rd_fieldAddr (j := 39) (by kernel_rfl) rfl) ?_
                refine GL_rd rfl (by decide) (rd_load2 52 rfl rfl (bs.hc.get 39 _ rfl) (bs.hc.get 40 _ rfl) (by kernel_rfl) (by decide)) ?_
                refine GL_at rfl (at_call_v (by decide) (by kernel_rfl) rfl (fun w_ s_ => day_calls _ _ (by omega) w_) ?_)
                refine GL_at rfl (at_one_ 17 (e := 3) (sz := 1) (by_ := 8) (zs := [.int .i64 0]) (cs := [.int .i64 (Cal.mdayOf (o.d / 86400))]) (by decide) (by kernel_rfl) rfl (by decide) (by decide) rfl rfl rfl (fun bda => ?_))
                refine GL_rd rfl (by decide) (rd_fieldAddr (j := 11) (by kernel_rfl) rfl) ?_
                refine GL_at rfl (at_store 50 rfl rfl rfl (bs.ho.get 11 _ rfl) (by kernel_rfl) rfl (by decide) ?_)
                refine GL_nil ?_
                refine GE_then ?_
                refine GC_to (L' := [(1, .pointer (some ⟨b1, 0, none⟩)), (2, .pointer (some ⟨b2, 0, none⟩)), (3, .pointer (some ⟨b3, 0, none⟩))]) (fun a k => k.cons rfl (k.cons rfl (k.cons rfl (k.nil)))) (fun w s => s) ?_
                have e_month : month' o = o.month := by unfold month'; simp [hnd, hf0, hf1]
                have e_mday : mday' o = [Cal.mdayOf (o.d / 86400)] := by unfold mday'; simp [hnd, hf0, hf1]
                have e_wday : wday' o = o.wday := by unfold wday'; simp [hnd, hf0, hf1]
                refine bu_C (x := { x with pm := x.p10, cm := x.c10, pd := some ⟨bda, 0, none⟩, cd := 1, pw := x.p14, cw := x.c14 }) ok hsort (H := (ky 50 11, .slice (some ⟨bda, 0, none⟩) 1 1) :: H) (S := (17, ⟨.slice (some ⟨bda, 0, none⟩) 1 1, 3, 1, 1, [.int .i64 (Cal.mdayOf (o.d / 86400))]⟩) :: S) ⟨(cellsAt.cons (bs.ho.get 0 _ rfl) (cellsAt.cons (bs.ho.get 1 _ rfl) (cellsAt.cons (bs.ho.get 2 _ rfl) (cellsAt.cons (bs.ho.get 3 _ rfl) (cellsAt.cons (bs.ho.get 4 _ rfl) (cellsAt.cons (bs.ho.get 5 _ rfl) (cellsAt.cons (bs.ho.get 6 _ rfl) (cellsAt.cons (bs.ho.get 7 _ rfl) (cellsAt.cons (bs.ho.get 8 _ rfl) (cellsAt.cons (bs.ho.get 9 _ rfl) (cellsAt.cons (show lkp (ky 50 10) _ = some (Value.slice x.p10 (month' o).length x.c10) from by rw [e_month]; exact bs.ho.get 10 _ rfl) (cellsAt.cons (show lkp (ky 50 11) _ = some (Value.slice (some ⟨bda, 0, none⟩) (mday' o).length 1) from by rw [e_mday]; rfl) (cellsAt.cons (bs.ho.get 12 _ rfl) (cellsAt.cons (bs.ho.get 13 _ rfl) (cellsAt.cons (show lkp (ky 50 14) _ = some (Value.slice x.p14 (wday' o).length x.c14) from by rw [e_wday]; exact bs.ho.get 14 _ rfl) (cellsAt.cons (bs.ho.get 15 _ rfl) (cellsAt.cons (bs.ho.get 16 _ rfl) (cellsAt.cons (bs.ho.get 17 _ rfl) (cellsAt.cons (bs.ho.get 18 _ rfl) cellsAt.nil))))))))))))))))))), bs.hc, (knwn_mono (by repeat (first | exact Knw.refl _ | apply Knw.cons)) bs.h2), (by repeat (first | exact bs.lim | apply Lim.consH _ (by decide) (by decide) | apply Lim.consS _ (by decide))), bs.limB, (fun k_ h1_ o_ ho_ => Eq.trans (by repeat (first | rfl | rw [lkp_ky_ne (by omega) ho_ (by decide)])) (bs.frH k_ h1_ o_ ho_)), (fun k_ h1_ h2_ => Eq.trans (by repeat (first | rfl | rw [lkp_cons_ne (by omega)])) (bs.frS k_ h1_ h2_))⟩ (s9.cons (by decide)) (by rw [e_month]; exact ((s10.cons (by decide))).more) (SrcT.row (e := 3) (by rw [e_mday]; rfl)) (s12.cons (by decide)) (s13.cons (by decide)) (by rw [e_wday]; exact ((s14.cons (by decide))).more) (s15.cons (by decide)) (s16.cons (by decide)) (s17.cons (by decide)) (s18.cons (by decide)) hR
              · skip
                have hf1 : o.freq ≠ 1 := beq_eq_false_iff_ne.1 hc2
                refine GC_seq ?_
                refine GC_region ?_
                refine GL_rd rfl (by decide) (rd_fieldAddr (j := 38) (by kernel_rfl) rfl) ?_
                refine GL_rd rfl (by decide) (rd_load 52 rfl rfl (bs.hc.get 38 _ rfl) (by kernel_rfl) (by decide)) ?_
                refine GL_rd rfl (by decide) (rd_eql rfl rfl) ?_
                refine GL_nil ?_
                refine GE_then ?_
                refine GC_cond rfl (fun hc1 => ?_) (fun hc2 => ?_)
                · skip
                  have hf2 : o.freq = 2 := beq_iff_eq.1 hc1
                  refine GC_region ?_
                  refine GL_rd rfl (by decide) (rd_fieldAddr (j := 39) (by kernel_rfl) rfl) ?_
                  refine GL_rd rfl (by decide) (rd_load2 52 rfl rfl (bs.hc.get 39 _ rfl) (bs.hc.get 40 _ rfl) (by kernel_rfl) (by decide)) ?_
                  refine GL_at rfl (at_call_v (v := .int .i64 ((o.d / 86400 + 1) % 7)) (by decide) (by kernel_rfl) rfl (fun w_ s_ => (weekday_calls _ _ (by omega) w_).mono fun e_ w2_ h_ => ⟨h_.1.trans (congrArg Ending.returned rfl), h_.2⟩) ?_)
                  refine GL_at rfl (at_call_v (v := .int .i64 (((o.d / 86400 + 1) % 7 + 6) % 7)) (by decide) (by kernel_rfl) rfl (fun w_ s_ => (toPy_calls _ (by omega) w_).mono fun e_ w2_ h_ => ⟨h_.1.trans (congrArg Ending.returned rfl), h_.2⟩) ?_)
                  refine GL_rd rfl (by decide) ((rd_build1 (k2 := .i64) (n := 0) rfl (fun w => by kernel_rfl))) ?_
                  refine GL_at rfl (at_one_ 21 (e := 46) (sz := 2) (by_ := 16) (zs := [.int .i64 0, .int .i64 0]) (cs := [.int .i64 (((o.d / 86400 + 1) % 7 + 6) % 7), .int .i64 0]) (by decide) (by kernel_rfl) rfl (by decide) (by decide) rfl rfl rfl (fun bwd => ?_))
                  refine GL_rd rfl (by decide) (rd_fieldAddr (j := 14) (by kernel_rfl) rfl) ?_
                  refine GL_at rfl (at_store 50 rfl rfl rfl (bs.ho.get 14 _ rfl) (by kernel_rfl) rfl (by decide) ?_)
                  refine GL_nil ?_
                  refine GE_then ?_
                  refine GC_to (L' := [(1, .pointer (some ⟨b1, 0, none⟩)), (2, .pointer (some ⟨b2, 0, none⟩)), (3, .pointer (some ⟨b3, 0, none⟩))]) (fun a k => k.cons rfl (k.cons rfl (k.cons rfl (k.nil)))) (fun w s => s) ?_
                  have e_month : month' o = o.month := by unfold month'; simp [hnd, hf0, hf1, hf2]
                  have e_mday : mday' o = o.mday := by unfold mday'; simp [hnd, hf0, hf1, hf2]
                  have e_wday : wday' o = [(((o.d / 86400 + 1) % 7 + 6) % 7, 0)] := by unfold wday'; simp [hnd, hf0, hf1, hf2]
                  refine bu_C (x := { x with pm := x.p10, cm := x.c10, pd := x.p11, cd := x.c11, pw := some ⟨bwd, 0, none⟩, cw := 1 }) ok hsort (H := (ky 50 14, .slice (some ⟨bwd, 0, none⟩) 1 1) :: H) (S := (21, ⟨.slice (some ⟨bwd, 0, none⟩) 1 1, 46, 2, 1, [.int .i64 (((o.d / 86400 + 1) % 7 + 6) % 7), .int .i64 0]⟩) :: S) ⟨(cellsAt.cons (bs.ho.get 0 _ rfl) (cellsAt.cons (bs.ho.get 1 _ rfl) (cellsAt.cons (bs.ho.get 2 _ rfl) (cellsAt.cons (bs.ho.get 3 _ rfl) (cellsAt.cons (bs.ho.get 4 _ rfl) (cellsAt.cons (bs.ho.get 5 _ rfl) (cellsAt.cons (bs.ho.get 6 _ rfl) (cellsAt.cons (bs.ho.get 7 _ rfl) (cellsAt.cons (bs.ho.get 8 _ rfl) (cellsAt.cons (bs.ho.get 9 _ rfl) (cellsAt.cons (show lkp (ky 50 10) _ = some (Value.slice x.p10 (month' o).length x.c10) from by rw [e_month]; exact bs.ho.get 10 _ rfl) (cellsAt.cons (show lkp (ky 50 11) _ = some (Value.slice x.p11 (mday' o).length x.c11) from by rw [e_mday]; exact bs.ho.get 11 _ rfl) (cellsAt.cons (bs.ho.get 12 _ rfl) (cellsAt.cons (bs.ho.get 13 _ rfl) (cellsAt.cons (show lkp (ky 50 14) _ = some (Value.slice (some ⟨bwd, 0, none⟩) (wday' o).length 1) from by rw [e_wday]; rfl) (cellsAt.cons (bs.ho.get 15 _ rfl) (cellsAt.cons (bs.ho.get 16 _ rfl) (cellsAt.cons (bs.ho.get 17 _ rfl) (cellsAt.cons (bs.ho.get 18 _ rfl) cellsAt.nil))))))))))))))))))), bs.hc, (knwn_mono (by repeat (first | exact Knw.refl _ | apply Knw.cons)) bs.h2), (by repeat (first | exact bs.lim | apply Lim.consH _ (by decide) (by decide) | apply Lim.consS _ (by decide))), bs.limB, (fun k_ h1_ o_ ho_ => Eq.trans (by repeat (first | rfl | rw [lkp_ky_ne (by omega) ho_ (by decide)])) (bs.frH k_ h1_ o_ ho_)), (fun k_ h1_ h2_ => Eq.trans (by repeat (first | rfl | rw [lkp_cons_ne (by omega)])) (bs.frS k_ h1_ h2_))⟩ (s9.cons (by decide)) (by rw [e_month]; exact ((s10.cons (by decide))).more) (by rw [e_mday]; exact ((s11.cons (by decide))).more) (s12.cons (by decide)) (s13.cons (by decide)) (SrcU.row (e := 46) (by rw [e_wday]; rfl)) (s15.cons (by decide)) (s16.cons (by decide)) (s17.cons (by decide)) (s18.cons (by decide)) hR
                · skip
                  have hf2 : o.freq ≠ 2 := beq_eq_false_iff_ne.1 hc2
                  refine GC_skip ?_
                  refine GE_then ?_
                  refine GC_to (L' := [(1, .pointer (some ⟨b1, 0, none⟩)), (2, .pointer (some ⟨b2, 0, none⟩)), (3, .pointer (some ⟨b3, 0, none⟩))]) (fun a k => k.cons rfl (k.cons rfl (k.cons rfl (k.nil)))) (fun w s => s) ?_
                  have e_month : month' o = o.month := by unfold month'; simp [hnd, hf0, hf1, hf2]
                  have e_mday : mday' o = o.mday := by unfold mday'; simp [hnd, hf0, hf1, hf2]
                  have e_wday : wday' o = o.wday := by unfold wday'; simp [hnd, hf0, hf1, hf2]
                  refine bu_C (x := { x with pm := x.p10, cm := x.c10, pd := x.p11, cd := x.c11, pw := x.p14, cw := x.c14 }) ok hsort (H := H) (S := S) ⟨(cellsAt.cons (bs.ho.get 0 _ rfl) (cellsAt.cons (bs.ho.get 1 _ rfl) (cellsAt.cons (bs.ho.get 2 _ rfl) (cellsAt.cons (bs.ho.get 3 _ rfl) (cellsAt.cons (bs.ho.get 4 _ rfl) (cellsAt.cons (bs.ho.get 5 _ rfl) (cellsAt.cons (bs.ho.get 6 _ rfl) (cellsAt.cons (bs.ho.get 7 _ rfl) (cellsAt.cons (bs.ho.get 8 _ rfl) (cellsAt.cons (bs.ho.get 9 _ rfl) (cellsAt.cons (show lkp (ky 50 10) _ = some (Value.slice x.p10 (month' o).length x.c10) from by rw [e_month]; exact bs.ho.get 10 _ rfl) (cellsAt.cons (show lkp (ky 50 11) _ = some (Value.slice x.p11 (mday' o).length x.c11) from by rw [e_mday]; exact bs.ho.get 11 _ rfl) (cellsAt.cons (bs.ho.get 12 _ rfl) (cellsAt.cons (bs.ho.get 13 _ rfl) (cellsAt.cons (show lkp (ky 50 14) _ = some (Value.slice x.p14 (wday' o).length x.c14) from by rw [e_wday]; exact bs.ho.get 14 _ rfl) (cellsAt.cons (bs.ho.get 15 _ rfl) (cellsAt.cons (bs.ho.get 16 _ rfl) (cellsAt.cons (bs.ho.get 17 _ rfl) (cellsAt.cons (bs.ho.get 18 _ rfl) cellsAt.nil))))))))))))))))))), bs.hc, (knwn_mono (by repeat (first | exact Knw.refl _ | apply Knw.cons)) bs.h2), bs.lim, bs.limB, (fun k_ h1_ o_ ho_ => Eq.trans (by repeat (first | rfl | rw [lkp_ky_ne (by omega) ho_ (by decide)])) (bs.frH k_ h1_ o_ ho_)), (fun k_ h1_ h2_ => Eq.trans (by repeat (first | rfl | rw [lkp_cons_ne (by omega)])) (bs.frS k_ h1_ h2_))⟩ s9 (by rw [e_month]; exact (s10).more) (by rw [e_mday]; exact (s11).more) s12 s13 (by rw [e_wday]; exact (s14).more) s15 s16 s17 s18 hR
          · skip
            have hnd : noDays o = false := by unfold noDays; rw [hz0, hz1, hz2, hz3, beq_eq_false_iff_ne.2 hz4]; simp
            refine GC_region ?_
            refine GL_rd rfl (by decide) (rd_fieldAddr (j := 13) (by kernel_rfl) rfl) ?_
            refine GL_rd rfl (by decide) (rd_load 50 rfl rfl (bs.ho.get 13 _ rfl) (by kernel_rfl) (by decide)) ?_
            refine GL_rd rfl (by decide) (rd_len (by kernel_rfl) rfl) ?_
            refine GL_rd rfl (by decide) ((rd_eql rfl rfl).to (v' := .bool true) (congrArg Value.bool (b_eq (by omega)))) ?_
            refine GL_rd rfl (by decide) (rd_move rfl) ?_
            refine GL_take rfl rfl ?_
            refine GL_rd rfl (by decide) (rd_fieldAddr (j := 12) (by kernel_rfl) rfl) ?_
            refine GL_take rfl rfl ?_
            refine GL_rd rfl (by decide) (rd_load 50 rfl rfl (bs.ho.get 12 _ rfl) (by kernel_rfl) (by decide)) ?_
            refine GL_take rfl rfl ?_
            refine GL_rd rfl (by decide) (rd_len (by kernel_rfl) rfl) ?_
            refine GL_take rfl rfl ?_
            refine GL_rd rfl (by decide) ((rd_eql rfl rfl).to (v' := .bool true) (congrArg Value.bool (b_eq (by omega)))) ?_
            refine GL_rd rfl (by decide) (rd_pick rfl rfl rfl) ?_
            refine GL_rd rfl (by decide) (rd_move rfl) ?_
            refine GL_take rfl rfl ?_
            refine GL_rd rfl (by decide) (rd_fieldAddr (j := 11) (by kernel_rfl) rfl) ?_
            refine GL_take rfl rfl ?_
            refine GL_rd rfl (by decide) (rd_load 50 rfl rfl (bs.ho.get 11 _ rfl) (by kernel_rfl) (by decide)) ?_
            refine GL_take rfl rfl ?_
            refine GL_rd rfl (by decide) (rd_len (by kernel_rfl) rfl) ?_
            refine GL_take rfl rfl ?_
            refine GL_rd rfl (by decide) ((rd_eql rfl rfl).to (v' := .bool true) (congrArg Value.bool (b_eq (by omega)))) ?_
            refine GL_rd rfl (by decide) (rd_pick rfl rfl rfl) ?_
            refine GL_rd rfl (by decide) (rd_move rfl) ?_
            refine GL_take rfl rfl ?_
            refine GL_rd rfl (by decide) (rd_fieldAddr (j := 14) (by kernel_rfl) rfl) ?_
            refine GL_take rfl rfl ?_
            refine GL_rd rfl (by decide) (rd_load 50 rfl rfl (bs.ho.get 14 _ rfl) (by kernel_rfl) (by decide)) ?_
            refine GL_take rfl rfl ?_
            refine GL_rd rfl (by decide) (rd_len (by kernel_rfl) rfl) ?_
            refine GL_take rfl rfl ?_
            refine GL_rd rfl (by decide) ((rd_eql rfl rfl).to (v' := .bool true) (congrArg Value.bool (b_eq (by omega)))) ?_
            refine GL_rd rfl (by decide) (rd_pick rfl rfl rfl) ?_
            refine GL_rd rfl (by decide) (rd_move rfl) ?_
            refine GL_take rfl rfl ?_
            refine GL_rd rfl (by decide) (rd_fieldAddr (j := 18) (by kernel_rfl) rfl) ?_
            refine GL_take rfl rfl ?_
            refine GL_rd rfl (by decide) (rd_load 50 rfl rfl (bs.ho.get 18 _ rfl) (by kernel_rfl) (by decide)) ?_
            refine GL_take rfl rfl ?_
            refine GL_rd rfl (by decide) (rd_len (by kernel_rfl) rfl) ?_
            refine GL_take rfl rfl ?_
            refine GL_rd rfl (by decide) ((rd_eql rfl rfl).to (v' := .bool false) (congrArg Value.bool (b_ne (by omega)))) ?_
            refine GL_rd rfl (by decide) (rd_pick rfl rfl rfl) ?_
            refine GL_nil ?_
            refine GE_then ?_
            refine GC_is_false rfl rfl ?_
            refine GC_skip ?_
            refine GE_then ?_
            refine GC_to (L' := [(1, .pointer (some ⟨b1, 0, none⟩)), (2, .pointer (some ⟨b2, 0, none⟩)), (3, .pointer (some ⟨b3, 0, none⟩))]) (fun a k => k.cons rfl (k.cons rfl (k.cons rfl (k.nil)))) (fun w s => s) ?_
            have e_month : month' o = o.month := by unfold month'; simp [hnd]
            have e_mday : mday' o = o.mday := by unfold mday'; simp [hnd]
            have e_wday : wday' o = o.wday := by unfold wday'; simp [hnd]
            refine bu_C (x := { x with pm := x.p10, cm := x.c10, pd := x.p11, cd := x.c11, pw := x.p14, cw := x.c14 }) ok hsort (H := H) (S := S) ⟨(cellsAt.cons (bs.ho.get 0 _ rfl) (cellsAt.cons (bs.ho.get 1 _ rfl) (cellsAt.cons (bs.ho.get 2 _ rfl) (cellsAt.cons (bs.ho.get 3 _ rfl) (cellsAt.cons (bs.ho.get 4 _ rfl) (cellsAt.cons (bs.ho.get 5 _ rfl) (cellsAt.cons (bs.ho.get 6 _ rfl) (cellsAt.cons (bs.ho.get 7 _ rfl) (cellsAt.cons (bs.ho.get 8 _ rfl) (cellsAt.cons (bs.ho.get 9 _ rfl) (cellsAt.cons (show lkp (ky 50 10) _ = some (Value.slice x.p10 (month' o).length x.c10) from by rw [e_month]; exact bs.ho.get 10 _ rfl) (cellsAt.cons (show lkp (ky 50 11) _ = some (Value.slice x.p11 (mday' o).length x.c11) from by rw [e_mday]; exact bs.ho.get 11 _ rfl) (cellsAt.cons (bs.ho.get 12 _ rfl) (cellsAt.cons (bs.ho.get 13 _ rfl) (cellsAt.cons (show lkp (ky 50 14) _ = some (Value.slice x.p14 (wday' o).length x.c14) from by rw [e_wday]; exact bs.ho.get 14 _ rfl) (cellsAt.cons (bs.ho.get 15 _ rfl) (cellsAt.cons (bs.ho.get 16 _ rfl) (cellsAt.cons (bs.ho.get 17 _ rfl) (cellsAt.cons (bs.ho.get 18 _ rfl) cellsAt.nil))))))))))))))))))), bs.hc, (knwn_mono (by repeat (first | exact Knw.refl _ | apply Knw.cons)) bs.h2), bs.lim, bs.limB, (fun k_ h1_ o_ ho_ => Eq.trans (by repeat (first | rfl | rw [lkp_ky_ne (by omega) ho_ (by decide)])) (bs.frH k_ h1_ o_ ho_)), (fun k_ h1_ h2_ => Eq.trans (by repeat (first | rfl | rw [lkp_cons_ne (by omega)])) (bs.frS k_ h1_ h2_))⟩ s9 (by rw [e_month]; exact (s10).more) (by rw [e_mday]; exact (s11).more) s12 s13 (by rw [e_wday]; exact (s14).more) s15 s16 s17 s18 hR
        · skip
          have hnd : noDays o = false := by unfold noDays; rw [hz0, hz1, hz2, beq_eq_false_iff_ne.2 hz3]; simp
          refine GC_region ?_
          refine GL_rd rfl (by decide) (rd_fieldAddr (j := 13) (by kernel_rfl) rfl) ?_
          refine GL_rd rfl (by decide) (rd_load 50 rfl rfl (bs.ho.get 13 _ rfl) (by kernel_rfl) (by decide)) ?_
          refine GL_rd rfl (by decide) (rd_len (by kernel_rfl) rfl) ?_
          refine GL_rd rfl (by decide) ((rd_eql rfl rfl).to (v' := .bool true) (congrArg Value.bool (b_eq (by omega)))) ?_
          refine GL_rd rfl (by decide) (rd_move rfl) ?_
          refine GL_take rfl rfl ?_
          refine GL_rd rfl (by decide) (rd_fieldAddr (j := 12) (by kernel_rfl) rfl) ?_
          refine GL_take rfl rfl ?_
          refine GL_rd rfl (by decide) (rd_load 50 rfl rfl (bs.ho.get 12 _ rfl) (by kernel_rfl) (by decide)) ?_
          refine GL_take rfl rfl ?_
          refine GL_rd rfl (by decide) (rd_len (by kernel_rfl) rfl) ?_
          refine GL_take rfl rfl ?_
          refine GL_rd rfl (by decide) ((rd_eql rfl rfl).to (v' := .bool true) (congrArg Value.bool (b_eq (by omega)))) ?_
          refine GL_rd rfl (by decide) (rd_pick rfl rfl rfl) ?_
          refine GL_rd rfl (by decide) (rd_move rfl) ?_
          refine GL_take rfl rfl ?_
          refine GL_rd rfl (by decide) (rd_fieldAddr (j := 11) (by kernel_rfl) rfl) ?_
          refine GL_take rfl rfl ?_
          refine GL_rd rfl (by decide) (rd_load 50 rfl rfl (bs.ho.get 11 _ rfl) (by kernel_rfl) (by decide)) ?_
          refine GL_take rfl rfl ?_
          refine GL_rd rfl (by decide) (rd_len (by kernel_rfl) rfl) ?_
          refine GL_take rfl rfl ?_
          refine GL_rd rfl (by decide) ((rd_eql rfl rfl).to (v' := .bool true) (congrArg Value.bool (b_eq (by omega)))) ?_
          refine GL_rd rfl (by decide) (rd_pick rfl rfl rfl) ?_
          refine GL_rd rfl (by decide) (rd_move rfl) ?_
          refine GL_take rfl rfl ?_
          refine GL_rd rfl (by decide) (rd_fieldAddr (j := 14) (by kernel_rfl) rfl) ?_
          refine GL_take rfl rfl ?_
          refine GL_rd rfl (by decide) (rd_load 50 rfl rfl (bs.ho.get 14 _ rfl) (by kernel_rfl) (by decide)) ?_
          refine GL_take rfl rfl ?_
          refine GL_rd rfl (by decide) (rd_len (by kernel_rfl) rfl) ?_
          refine GL_take rfl rfl ?_
          refine GL_rd rfl (by decide) ((rd_eql rfl rfl).to (v' := .bool false) (congrArg Value.bool (b_ne (by omega)))) ?_
          refine GL_rd rfl (by decide) (rd_pick rfl rfl rfl) ?_
          refine GL_rd rfl (by decide) (rd_move rfl) ?_
          refine GL_pass (by decide) rfl rfl (by decide) ?_
          refine GL_pass (by decide) rfl rfl (by decide) ?_
          refine GL_pass (by decide) rfl rfl (by decide) ?_
          refine GL_pass (by decide) rfl rfl (by decide) ?_
          refine GL_rd rfl (by decide) (rd_pick rfl rfl rfl) ?_
          refine GL_nil ?_
          refine GE_then ?_
          refine GC_is_false rfl rfl ?_
          refine GC_skip ?_
          refine GE_then ?_
          refine GC_to (L' := [(1, .pointer (some ⟨b1, 0, none⟩)), (2, .pointer (some ⟨b2, 0, none⟩)), (3, .pointer (some ⟨b3, 0, none⟩))]) (fun a k => k.cons rfl (k.cons rfl (k.cons rfl (k.nil)))) (fun w s => s) ?_
          have e_month : month' o = o.month := by unfold month'; simp [hnd]
          have e_mday : mday' o = o.mday := by unfold mday'; simp [hnd]
          have e_wday : wday' o = o.wday := by unfold wday'; simp [hnd]
          refine bu_C (x := { x with pm := x.p10, cm := x.c10, pd := x.p11, cd := x.c11, pw := x.p14, cw := x.c14 }) ok hsort (H := H) (S := S) ⟨(cellsAt.cons (bs.ho.get 0 _ rfl) (cellsAt.cons (bs.ho.get 1 _ rfl) (cellsAt.cons (bs.ho.get 2 _ rfl) (cellsAt.cons (bs.ho.get 3 _ rfl) (cellsAt.cons (bs.ho.get 4 _ rfl) (cellsAt.cons (bs.ho.get 5 _ rfl) (cellsAt.cons (bs.ho.get 6 _ rfl) (cellsAt.cons (bs.ho.get 7 _ rfl) (cellsAt.cons (bs.ho.get 8 _ rfl) (cellsAt.cons (bs.ho.get 9 _ rfl) (cellsAt.cons (show lkp (ky 50 10) _ = some (Value.slice x.p10 (month' o).length x.c10) from by rw [e_month]; exact bs.ho.get 10 _ rfl) (cellsAt.cons (show lkp (ky 50 11) _ = some (Value.slice x.p11 (mday' o).length x.c11) from by rw [e_mday]; exact bs.ho.get 11 _ rfl) (cellsAt.cons (bs.ho.get 12 _ rfl) (cellsAt.cons (bs.ho.get 13 _ rfl) (cellsAt.cons (show lkp (ky 50 14) _ = some (Value.slice x.p14 (wday' o).length x.c14) from by rw [e_wday]; exact bs.ho.get 14 _ rfl) (cellsAt.cons (bs.ho.get 15 _ rfl) (cellsAt.cons (bs.ho.get 16 _ rfl) (cellsAt.cons (bs.ho.get 17 _ rfl) (cellsAt.cons (bs.ho.get 18 _ rfl) cellsAt.nil))))))))))))))))))), bs.hc, (knwn_mono (by repeat (first | exact Knw.refl _ | apply Knw.cons)) bs.h2), bs.lim, bs.limB, (fun k_ h1_ o_ ho_ => Eq.trans (by repeat (first | rfl | rw [lkp_ky_ne (by omega) ho_ (by decide)])) (bs.frH k_ h1_ o_ ho_)), (fun k_ h1_ h2_ => Eq.trans (by repeat (first | rfl | rw [lkp_cons_ne (by omega)])) (bs.frS k_ h1_ h2_))⟩ s9 (by rw [e_month]; exact (s10).more) (by rw [e_mday]; exact (s11).more) s12 s13 (by rw [e_wday]; exact (s14).more) s15 s16 s17 s18 hR
      · skip
        have hnd : noDays o = false := by unfold noDays; rw [hz0, hz1, beq_eq_false_iff_ne.2 hz2]; simp
        refine GC_region ?_
        refine GL_rd rfl (by decide) (rd_fieldAddr (j := 13) (by kernel_rfl) rfl) ?_
        refine GL_rd rfl (by decide) (rd_load 50 rfl rfl (bs.ho.get 13 _ rfl) (by kernel_rfl) (by decide)) ?_
        refine GL_rd rfl (by decide) (rd_len (by kernel_rfl) rfl) ?_
        refine GL_rd rfl (by decide) ((rd_eql rfl rfl).to (v' := .bool true) (congrArg Value.bool (b_eq (by omega)))) ?_
        refine GL_rd rfl (by decide) (rd_move rfl) ?_
        refine GL_take rfl rfl ?_
        refine GL_rd rfl (by decide) (rd_fieldAddr (j := 12) (by kernel_rfl) rfl) ?_
        refine GL_take rfl rfl ?_
        refine GL_rd rfl (by decide) (rd_load 50 rfl rfl (bs.ho.get 12 _ rfl) (by kernel_rfl) (by decide)) ?_
        refine GL_take rfl rfl ?_
        refine GL_rd rfl (by decide) (rd_len (by kernel_rfl) rfl) ?_
        refine GL_take rfl rfl ?_
        refine GL_rd rfl (by decide) ((rd_eql rfl rfl).to (v' := .bool true) (congrArg Value.bool (b_eq (by omega)))) ?_
        refine GL_rd rfl (by decide) (rd_pick rfl rfl rfl) ?_
        refine GL_rd rfl (by decide) (rd_move rfl) ?_
        refine GL_take rfl rfl ?_
        refine GL_rd rfl (by decide) (rd_fieldAddr (j := 11) (by kernel_rfl) rfl) ?_
        refine GL_take rfl rfl ?_
        refine GL_rd rfl (by decide) (rd_load 50 rfl rfl (bs.ho.get 11 _ rfl) (by kernel_rfl) (by decide)) ?_
        refine GL_take rfl rfl ?_
        refine GL_rd rfl (by decide) (rd_len (by kernel_rfl) rfl) ?_
        refine GL_take rfl rfl ?_
        refine GL_rd rfl (by decide) ((rd_eql rfl rfl).to (v' := .bool false) (congrArg Value.bool (b_ne (by omega)))) ?_
        refine GL_rd rfl (by decide) (rd_pick rfl rfl rfl) ?_
        refine GL_rd rfl (by decide) (rd_move rfl) ?_
        refine GL_pass (by decide) rfl rfl (by decide) ?_
        refine GL_pass (by decide) rfl rfl (by decide) ?_
        refine GL_pass (by decide) rfl rfl (by decide) ?_
        refine GL_pass (by decide) rfl rfl (by decide) ?_
        refine GL_rd rfl (by decide) (rd_pick rfl rfl rfl) ?_
        refine GL_rd rfl (by decide) (rd_move rfl) ?_
        refine GL_pass (by decide) rfl rfl (by decide) ?_
        refine GL_pass (by decide) rfl rfl (by decide) ?_
        refine GL_pass (by decide) rfl rfl (by decide) ?_
        refine GL_pass (by decide) rfl rfl (by decide) ?_
        refine GL_rd rfl (by decide) (rd_pick rfl rfl rfl) ?_
        refine GL_nil ?_
        refine GE_then ?_
        refine GC_is_false rfl rfl ?_
        refine GC_skip ?_
        refine GE_then ?_
        refine GC_to (L' := [(1, .pointer (some ⟨b1, 0, none⟩)), (2, .pointer (some ⟨b2, 0, none⟩)), (3, .pointer (some ⟨b3, 0, none⟩))]) (fun a k => k.cons rfl (k.cons rfl (k.cons rfl (k.nil)))) (fun w s => s) ?_
        have e_month : month' o = o.month := by unfold month'; simp [hnd]
        have e_mday : mday' o = o.mday := by unfold mday'; simp [hnd]
        have e_wday : wday' o = o.wday := by unfold wday'; simp [hnd]
        refine bu_C (x := { x with pm := x.p10, cm := x.c10, pd := x.p11, cd := x.c11, pw := x.p14, cw := x.c14 }) ok hsort (H := H) (S := S) ⟨(cellsAt.cons (bs.ho.get 0 _ rfl) (cellsAt.cons (bs.ho.get 1 _ rfl) (cellsAt.cons (bs.ho.get 2 _ rfl) (cellsAt.cons (bs.ho.get 3 _ rfl) (cellsAt.cons (bs.ho.get 4 _ rfl) (cellsAt.cons (bs.ho.get 5 _ rfl) (cellsAt.cons (bs.ho.get 6 _ rfl) (cellsAt.cons (bs.ho.get 7 _ rfl) (cellsAt.cons (bs.ho.get 8 _ rfl) (cellsAt.cons (bs.ho.get 9 _ rfl) (cellsAt.cons (show lkp (ky 50 10) _ = some (Value.slice x.p10 (month' o).length x.c10) from by rw [e_month]; exact bs.ho.get 10 _ rfl) (cellsAt.cons (show lkp (ky 50 11) _ = some (Value.slice x.p11 (mday' o).length x.c11) from by rw [e_mday]; exact bs.ho.get 11 _ rfl) (cellsAt.cons (bs.ho.get 12 _ rfl) (cellsAt.cons (bs.ho.get 13 _ rfl) (cellsAt.cons (show lkp (ky 50 14) _ = some (Value.slice x.p14 (wday' o).length x.c14) from by rw [e_wday]; exact bs.ho.get 14 _ rfl) (cellsAt.cons (bs.ho.get 15 _ rfl) (cellsAt.cons (bs.ho.get 16 _ rfl) (cellsAt.cons (bs.ho.get 17 _ rfl) (cellsAt.cons (bs.ho.get 18 _ rfl) cellsAt.nil))))))))))))))))))), bs.hc, (knwn_mono (by repeat (first | exact Knw.refl _ | apply Knw.cons)) bs.h2), bs.lim, bs.limB, (fun k_ h1_ o_ ho_ => Eq.trans (by repeat (first | rfl | rw [lkp_ky_ne (by omega) ho_ (by decide)])) (bs.frH k_ h1_ o_ ho_)), (fun k_ h1_ h2_ => Eq.trans (by repeat (first | rfl | rw [lkp_cons_ne (by omega)])) (bs.frS k_ h1_ h2_))⟩ s9 (by rw [e_month]; exact (s10).more) (by rw [e_mday]; exact (s11).more) s12 s13 (by rw [e_wday]; exact (s14).more) s15 s16 s17 s18 hR
    · skip
      have hnd : noDays o = false := by unfold noDays; rw [hz0, beq_eq_false_iff_ne.2 hz1]; simp
      refine GC_region ?_
      refine GL_rd rfl (by decide) (rd_fieldAddr (j := 13) (by kernel_rfl) rfl) ?_
      refine GL_rd rfl (by decide) (rd_load 50 rfl rfl (bs.ho.get 13 _ rfl) (by kernel_rfl) (by decide)) ?_
      refine GL_rd rfl (by decide) (rd_len (by kernel_rfl) rfl) ?_
      refine GL_rd rfl (by decide) ((rd_eql rfl rfl).to (v' := .bool true) (congrArg Value.bool (b_eq (by omega)))) ?_
      refine GL_rd rfl (by decide) (rd_move rfl) ?_
      refine GL_take rfl rfl ?_
      refine GL_rd rfl (by decide) (rd_fieldAddr (j := 12) (by kernel_rfl) rfl) ?_
      refine GL_take rfl rfl ?_
      refine GL_rd rfl (by decide) (rd_load 50 rfl rfl (bs.ho.get 12 _ rfl) (by kernel_rfl) (by decide)) ?_
      refine GL_take rfl rfl ?_
      refine GL_rd rfl (by decide) (rd_len (by kernel_rfl) rfl) ?_
      refine GL_take rfl rfl ?_
      refine GL_rd rfl (by decide) ((rd_eql rfl rfl).to (v' := .bool false) (congrArg Value.bool (b_ne (by omega)))) ?_
      refine GL_rd rfl (by decide) (rd_pick rfl rfl rfl) ?_
      refine GL_rd rfl (by decide) (rd_move rfl) ?_
      refine GL_pass (by decide) rfl rfl (by decide) ?_
      refine GL_pass (by decide) rfl rfl (by decide) ?_
      refine GL_pass (by decide) rfl rfl (by decide) ?_
      refine GL_pass (by decide) rfl rfl (by decide) ?_
      refine GL_rd rfl (by decide) (rd_pick rfl rfl rfl) ?_
      refine GL_rd rfl (by decide) (rd_move rfl) ?_
      refine GL_pass (by decide) rfl rfl (by decide) ?_
      refine GL_pass (by decide) rfl rfl (by decide) ?_
      refine GL_pass (by decide) rfl rfl (by decide) ?_
      refine GL_pass (by decide) rfl rfl (by decide) ?_
      refine GL_rd rfl (by decide) (rd_pick rfl rfl rfl) ?_
      refine GL_rd rfl (by decide) (rd_move rfl) ?_
      refine GL_pass (by decide) rfl rfl (by decide) ?_
      refine GL_pass (by decide) rfl rfl (by decide) ?_
      refine GL_pass (by decide) rfl rfl (by decide) ?_
      refine GL_pass (by decide) rfl rfl (by decide) ?_
      refine GL_rd rfl (by decide) (rd_pick rfl rfl rfl) ?_
      refine GL_nil ?_
      refine GE_then ?_
      refine GC_is_false rfl rfl ?_
      refine GC_skip ?_
      refine GE_then ?_
      refine GC_to (L' := [(1, .pointer (some ⟨b1, 0, none⟩)), (2, .pointer (some ⟨b2, 0, none⟩)), (3, .pointer (some ⟨b3, 0, none⟩))]) (fun a k => k.cons rfl (k.cons rfl (k.cons rfl (k.nil)))) (fun w s => s) ?_
      have e_month : month' o = o.month := by unfold month'; simp [hnd]
      have e_mday : mday' o = o.mday := by unfold mday'; simp [hnd]
      have e_wday : wday' o = o.wday := by unfold wday'; simp [hnd]
      refine bu_C (x := { x with pm := x.p10, cm := x.c10, pd := x.p11, cd := x.c11, pw := x.p14, cw := x.c14 }) ok hsort (H := H) (S := S) ⟨(cellsAt.cons (bs.ho.get 0 _ rfl) (cellsAt.cons (bs.ho.get 1 _ rfl) (cellsAt.cons (bs.ho.get 2 _ rfl) (cellsAt.cons (bs.ho.get 3 _ rfl) (cellsAt.cons (bs.ho.get 4 _ rfl) (cellsAt.cons (bs.ho.get 5 _ rfl) (cellsAt.cons (bs.ho.get 6 _ rfl) (cellsAt.cons (bs.ho.get 7 _ rfl) (cellsAt.cons (bs.ho.get 8 _ rfl) (cellsAt.cons (bs.ho.get 9 _ rfl) (cellsAt.cons (show lkp (ky 50 10) _ = some (Value.slice x.p10 (month' o).length x.c10) from by rw [e_month]; exact bs.ho.get 10 _ rfl) (cellsAt.cons (show lkp (ky 50 11) _ = some (Value.slice x.p11 (mday' o).length x.c11) from by rw [e_mday]; exact bs.ho.get 11 _ rfl) (cellsAt.cons (bs.ho.get 12 _ rfl) (cellsAt.cons (bs.ho.get 13 _ rfl) (cellsAt.cons (show lkp (ky 50 14) _ = some (Value.slice x.p14 (wday' o).length x.c14) from by rw [e_wday]; exact bs.ho.get 14 _ rfl) (cellsAt.cons (bs.ho.get 15 _ rfl) (cellsAt.cons (bs.ho.get 16 _ rfl) (cellsAt.cons (bs.ho.get 17 _ rfl) (cellsAt.cons (bs.ho.get 18 _ rfl) cellsAt.nil))))))))))))))))))), bs.hc, (knwn_mono (by repeat (first | exact Knw.refl _ | apply Knw.cons)) bs.h2), bs.lim, bs.limB, (fun k_ h1_ o_ ho_ => Eq.trans (by repeat (first | rfl | rw [lkp_ky_ne (by omega) ho_ (by decide)])) (bs.frH k_ h1_ o_ ho_)), (fun k_ h1_ h2_ => Eq.trans (by repeat (first | rfl | rw [lkp_cons_ne (by omega)])) (bs.frS k_ h1_ h2_))⟩ s9 (by rw [e_month]; exact (s10).more) (by rw [e_mday]; exact (s11).more) s12 s13 (by rw [e_wday]; exact (s14).more) s15 s16 s17 s18 hR
  · skip
    have hnd : noDays o = false := by unfold noDays; rw [beq_eq_false_iff_ne.2 hz0]; simp
    refine GC_region ?_
    refine GL_rd rfl (by decide) (rd_fieldAddr (j := 13) (by kernel_rfl) rfl) ?_
    refine GL_rd rfl (by decide) (rd_load 50 rfl rfl (bs.ho.get 13 _ rfl) (by kernel_rfl) (by decide)) ?_
    refine GL_rd rfl (by decide) (rd_len (by kernel_rfl) rfl) ?_
    refine GL_rd rfl (by decide) ((rd_eql rfl rfl).to (v' := .bool false) (congrArg Value.bool (b_ne (by omega)))) ?_
    refine GL_rd rfl (by decide) (rd_move rfl) ?_
    refine GL_pass (by decide) rfl rfl (by decide) ?_
    refine GL_pass (by decide) rfl rfl (by decide) ?_
    refine GL_pass (by decide) rfl rfl (by decide) ?_
    refine GL_pass (by decide) rfl rfl (by decide) ?_
    refine GL_rd rfl (by decide) (rd_pick rfl rfl rfl) ?_
    refine GL_rd rfl (by decide) (rd_move rfl) ?_
    refine GL_pass (by decide) rfl rfl (by decide) ?_
    refine GL_pass (by decide) rfl rfl (by decide) ?_
    refine GL_pass (by decide) rfl rfl (by decide) ?_
    refine GL_pass (by decide) rfl rfl (by decide) ?_
    refine GL_rd rfl (by decide) (rd_pick rfl rfl rfl) ?_
    refine GL_rd rfl (by decide) (rd_move rfl) ?_
    refine GL_pass (by decide) rfl rfl (by decide) ?_
    refine GL_pass (by decide) rfl rfl (by decide) ?_
    refine GL_pass (by decide) rfl rfl (by decide) ?_
    refine GL_pass (by decide) rfl rfl (by decide) ?_
    refine GL_rd rfl (by decide) (rd_pick rfl rfl rfl) ?_
    refine GL_rd rfl (by decide) (rd_move rfl) ?_
    refine GL_pass (by decide) rfl rfl (by decide) ?_
    refine GL_pass (by decide) rfl rfl (by decide) ?_
    refine GL_pass (by decide) rfl rfl (by decide) ?_
    refine GL_pass (by decide) rfl rfl (by decide) ?_
    refine GL_rd rfl (by decide) (rd_pick rfl rfl rfl) ?_
    refine GL_nil ?_
    refine GE_then ?_
    refine GC_is_false rfl rfl ?_
    refine GC_skip ?_
    refine GE_then ?_
    refine GC_to (L' := [(1, .pointer (some ⟨b1, 0, none⟩)), (2, .pointer (some ⟨b2, 0, none⟩)), (3, .pointer (some ⟨b3, 0, none⟩))]) (fun a k => k.cons rfl (k.cons rfl (k.cons rfl (k.nil)))) (fun w s => s) ?_
    have e_month : month' o = o.month := by unfold month'; simp [hnd]
    have e_mday : mday' o = o.mday := by unfold mday'; simp [hnd]
    have e_wday : wday' o = o.wday := by unfold wday'; simp [hnd]
    refine bu_C (x := { x with pm := x.p10, cm := x.c10, pd := x.p11, cd := x.c11, pw := x.p14, cw := x.c14 }) ok hsort (H := H) (S := S) ⟨(cellsAt.cons (bs.ho.get 0 _ rfl) (cellsAt.cons (bs.ho.get 1 _ rfl) (cellsAt.cons (bs.ho.get 2 _ rfl) (cellsAt.cons (bs.ho.get 3 _ rfl) (cellsAt.cons (bs.ho.get 4 _ rfl) (cellsAt.cons (bs.ho.get 5 _ rfl) (cellsAt.cons (bs.ho.get 6 _ rfl) (cellsAt.cons (bs.ho.get 7 _ rfl) (cellsAt.cons (bs.ho.get 8 _ rfl) (cellsAt.cons (bs.ho.get 9 _ rfl) (cellsAt.cons (show lkp (ky 50 10) _ = some (Value.slice x.p10 (month' o).length x.c10) from by rw [e_month]; exact bs.ho.get 10 _ rfl) (cellsAt.cons (show lkp (ky 50 11) _ = some (Value.slice x.p11 (mday' o).length x.c11) from by rw [e_mday]; exact bs.ho.get 11 _ rfl) (cellsAt.cons (bs.ho.get 12 _ rfl) (cellsAt.cons (bs.ho.get 13 _ rfl) (cellsAt.cons (show lkp (ky 50 14) _ = some (Value.slice x.p14 (wday' o).length x.c14) from by rw [e_wday]; exact bs.ho.get 14 _ rfl) (cellsAt.cons (bs.ho.get 15 _ rfl) (cellsAt.cons (bs.ho.get 16 _ rfl) (cellsAt.cons (bs.ho.get 17 _ rfl) (cellsAt.cons (bs.ho.get 18 _ rfl) cellsAt.nil))))))))))))))))))), bs.hc, (knwn_mono (by repeat (first | exact Knw.refl _ | apply Knw.cons)) bs.h2), bs.lim, bs.limB, (fun k_ h1_ o_ ho_ => Eq.trans (by repeat (first | rfl | rw [lkp_ky_ne (by omega) ho_ (by decide)])) (bs.frH k_ h1_ o_ ho_)), (fun k_ h1_ h2_ => Eq.trans (by repeat (first | rfl | rw [lkp_cons_ne (by omega)])) (bs.frS k_ h1_ h2_))⟩ s9 (by rw [e_month]; exact (s10).more) (by rw [e_mday]; exact (s11).more) s12 s13 (by rw [e_wday]; exact (s14).more) s15 s16 s17 s18 hR
def rc0 (o : Opn) (x : Av) : List Value := [.int .i64 o.freq, .int .i64 o.d, .int .i64 0, .int .i64 o.interval, .int .i64 o.wkst, .int .i64 0, .int .i64 o.count, .int .i64 o.u, .int .i64 0, .slice x.p9 (o.setpos).length x.c9, .slice x.p10 (o.month).length x.c10, .slice x.p11 (o.mday).length x.c11, .slice x.p12 (o.yday).length x.c12, .slice x.p13 (o.weekno).length x.c13, .slice x.p14 (o.wday).length x.c14, .slice x.p15 (o.hour).length x.c15, .slice x.p16 (o.minute).length x.c16, .slice x.p17 (o.second).length x.c17, .slice x.p18 (o.easter).length x.c18, .int .i64 0, .int .i64 0, .int .i64 0, .int .i64 0, .int .i64 0, .int .i64 0, .int .i64 0, .int .i64 0, .int .i64 0, .slice none 0 0, .slice none 0 0, .slice none 0 0, .slice none 0 0, .slice none 0 0, .slice none 0 0, .slice none 0 0, .slice none 0 0, .slice none 0 0, .slice none 0 0, .int .i64 0, .int .i64 0, .int .i64 0, .int .i64 0, .int .i64 0, .int .i64 0, .int .i64 0, .int .i64 0, .slice none 0 0, .slice none 0 0, .slice none 0 0, .slice none 0 0, .slice none 0 0, .slice none 0 0, .slice none 0 0, .slice none 0 0, .slice none 0 0, .slice none 0 0, .slice none 0 0, .slice none 0 0, .slice none 0 0, .int .i64 0]
theorem bu_A2 {R : Ending → World → Prop} {o : Opn} {x : Av} {b1 b2 b3 : Nat} {H0 : List (Nat × Value)} {S0 : List (Nat × Slc)} (ok : OpOk o) (hsort : o.freq < 4 → SortOk F w0 (raw o)) (bs : Bs F w0 B H0 S0 b1 b2 b3 (oc0 o x) (rc0 o x) H S) (s9 : SrcT F w0 S 11 (.slice x.p9 (o.setpos).length x.c9) o.setpos) (s10 : SrcT F w0 S 11 (.slice x.p10 (o.month).length x.c10) o.month) (s11 : SrcT F w0 S 11 (.slice x.p11 (o.mday).length x.c11) o.mday) (s12 : SrcT F w0 S 11 (.slice x.p12 (o.yday).length x.c12) o.yday) (s13 : SrcT F w0 S 11 (.slice x.p13 (o.weekno).length x.c13) o.weekno) (s14 : SrcU F w0 S 11 (.slice x.p14 (o.wday).length x.c14) o.wday) (s15 : SrcT F w0 S 11 (.slice x.p15 (o.hour).length x.c15) o.hour) (s16 : SrcT F w0 S 11 (.slice x.p16 (o.minute).length x.c16) o.minute) (s17 : SrcT F w0 S 11 (.slice x.p17 (o.second).length x.c17) o.second) (s18 : SrcT F w0 S 11 (.slice x.p18 (o.easter).length x.c18) o.easter)  (hR : ∀ (x : Av) (S' : List (Nat × Slc)), OutF F w0 o x S0 S' → ∀ w, Sees F w0 B H0 S' w → R (.returned (.agg (outC o x).toArray)) w) : GC Go.Proofs.Tryz.prog (Go.Fr.part [1, 1, 1] (Go.Fr.bodyOf Tryz.f17)) (bodyPost Go.Proofs.Tryz.prog Tryz.f17 R) 300 [(1, .pointer (some ⟨b1, 0, none⟩)), (2, .pointer (some ⟨b2, 0, none⟩)), (3, .pointer (some ⟨b3, 0, none⟩))] F w0 ((52, b3) :: (51, b2) :: (50, b1) :: B) H S := by
  have ok_ := ok
  have hd_ := ok.d
  have hi_ := ok.interval
  have hcn := ok.count
  have hu_ := ok.u
  refine GC_seq ?_
  refine GC_region ?_
  refine GL_rd rfl (by decide) (rd_fieldAddr (j := 0) (by kernel_rfl) rfl) ?_
  refine GL_rd rfl (by decide) (rd_load 50 rfl rfl (bs.ho.get 0 _ rfl) (by kernel_rfl) (by decide)) ?_
  refine GL_rd rfl (by decide) (rd_fieldAddr (j := 38) (by kernel_rfl) rfl) ?_
  refine GL_at rfl (at_store 52 rfl rfl rfl (bs.hc.get 38 _ rfl) (by kernel_rfl) rfl (by decide) ?_)
  refine GL_nil ?_
  refine GE_then ?_
  refine GC_seq ?_
  refine GC_seq ?_
  refine GC_region ?_
  refine GL_rd rfl (by decide) (rd_fieldAddr (j := 3) (by kernel_rfl) rfl) ?_
  refine GL_rd rfl (by decide) (rd_load 50 rfl rfl (bs.ho.get 3 _ rfl) (by kernel_rfl) (by decide)) ?_
  refine GL_rd rfl (by decide) (rd_lss rfl rfl) ?_
  refine GL_nil ?_
  refine GE_then ?_
  refine GC_is_false rfl (decide_eq_false (by omega)) ?_
  refine GC_skip ?_
  refine GE_then ?_
  refine GC_seq ?_
  refine GC_region ?_
  refine GL_rd rfl (by decide) (rd_fieldAddr (j := 3) (by kernel_rfl) rfl) ?_
  refine GL_rd rfl (by decide) (rd_load 50 rfl rfl (bs.ho.get 3 _ rfl) (by kernel_rfl) (by decide)) ?_
  refine GL_rd rfl (by decide) (rd_fieldAddr (j := 41) (by kernel_rfl) rfl) ?_
  refine GL_at rfl (at_store 52 rfl rfl rfl (bs.hc.get 41 _ rfl) (by kernel_rfl) rfl (by decide) ?_)
  refine GL_nil ?_
  refine GE_then ?_
  refine GC_seq ?_
  refine GC_seq ?_
  refine GC_region ?_
  refine GL_rd rfl (by decide) (rd_fieldAddr (j := 6) (by kernel_rfl) rfl) ?_
  refine GL_rd rfl (by decide) (rd_load 50 rfl rfl (bs.ho.get 6 _ rfl) (by kernel_rfl) (by decide)) ?_
  refine GL_rd rfl (by decide) (rd_lss rfl rfl) ?_
  refine GL_nil ?_
  refine GE_then ?_
  refine GC_is_false rfl (decide_eq_false (by omega)) ?_
  refine GC_skip ?_
  refine GE_then ?_
  refine GC_seq ?_
  refine GC_region ?_
  refine GL_rd rfl (by decide) (rd_fieldAddr (j := 6) (by kernel_rfl) rfl) ?_
  refine GL_rd rfl (by decide) (rd_load 50 rfl rfl (bs.ho.get 6 _ rfl) (by kernel_rfl) (by decide)) ?_
  refine GL_rd rfl (by decide) (rd_fieldAddr (j := 43) (by kernel_rfl) rfl) ?_
  refine GL_at rfl (at_store 52 rfl rfl rfl (bs.hc.get 43 _ rfl) (by kernel_rfl) rfl (by decide) ?_)
  refine GL_nil ?_
  refine GE_then ?_
  refine GC_seq ?_
  refine GC_seq ?_
  refine GC_region ?_
  refine GL_rd rfl (by decide) (rd_fieldAddr (j := 1) (by kernel_rfl) rfl) ?_
  refine GL_rd rfl (by decide) (rd_load2 50 rfl rfl (bs.ho.get 1 _ rfl) (bs.ho.get 2 _ rfl) (by kernel_rfl) (by decide)) ?_
  refine GL_at rfl (at_call_v (by decide) (by kernel_rfl) rfl (fun w_ s_ => isZero_calls _ _ w_) ?_)
  refine GL_nil ?_
  refine GE_then ?_
  refine GC_is_false rfl (decide_eq_false (by omega)) ?_
  refine GC_skip ?_
  refine GE_then ?_
  refine GC_seq ?_
  refine GC_region ?_
  refine GL_rd rfl (by decide) (rd_fieldAddr (j := 1) (by kernel_rfl) rfl) ?_
  refine GL_rd rfl (by decide) (rd_load2 50 rfl rfl (bs.ho.get 1 _ rfl) (bs.ho.get 2 _ rfl) (by kernel_rfl) (by decide)) ?_
  refine GL_at rfl (at_call_v (by decide) (by kernel_rfl) rfl (fun w_ s_ => truncate_calls _ _ _ w_) ?_)
  refine GL_rd rfl (by decide) (rd_fieldAddr (j := 1) (by kernel_rfl) rfl) ?_
  refine GL_at rfl (at_storeAgg 50 rfl rfl rfl (knwn2 (bs.ho.get 1 _ rfl) (bs.ho.get 2 _ rfl)) (by kernel_rfl) rfl (Nat.le_of_ble_eq_true rfl) ?_)
  refine GL_nil ?_
  refine GE_then ?_
  refine GC_seq ?_
  refine GC_region ?_
  refine GL_rd rfl (by decide) (rd_fieldAddr (j := 1) (by kernel_rfl) rfl) ?_
  refine GL_rd rfl (by decide) (rd_load2 50 rfl rfl rfl rfl (by kernel_rfl) (by decide)) ?_
  refine GL_rd rfl (by decide) (rd_fieldAddr (j := 39) (by kernel_rfl) rfl) ?_
  refine GL_at rfl (at_storeAgg 52 rfl rfl rfl (knwn2 (bs.hc.get 39 _ rfl) (bs.hc.get 40 _ rfl)) (by kernel_rfl) rfl (Nat.le_of_ble_eq_true rfl) ?_)
  refine GL_nil ?_
  refine GE_then ?_
  refine GC_seq ?_
  refine GC_seq ?_
  refine GC_region ?_
  refine GL_rd rfl (by decide) (rd_fieldAddr (j := 7) (by kernel_rfl) rfl) ?_
  refine GL_rd rfl (by decide) (rd_load2 50 rfl rfl (bs.ho.get 7 _ rfl) (bs.ho.get 8 _ rfl) (by kernel_rfl) (by decide)) ?_
  refine GL_at rfl (at_call_v (by decide) (by kernel_rfl) rfl (fun w_ s_ => isZero_calls _ _ w_) ?_)
  refine GL_nil ?_
  refine GE_then ?_
  refine GC_cond rfl (fun hc1 => ?_) (fun hc2 => ?_)
  · skip
    have hu0 : o.u = 0 := by have := of_decide_eq_true hc1; exact this.1
    refine GC_region ?_
    refine GL_rd rfl (by decide) (rd_fieldAddr (j := 39) (by kernel_rfl) rfl) ?_
    refine GL_rd rfl (by decide) (rd_load2 52 rfl rfl rfl rfl (by kernel_rfl) (by decide)) ?_
    refine GL_at rfl (at_call_v (v := .agg #[.int .i64 (o.d + 9223372036), .int .i64 854775807]) (by decide) (by kernel_rfl) rfl (fun w_ s_ => (add_calls _ _ (by omega) (by omega) w_).mono fun e_ w2_ h_ => ⟨h_.1.trans (congrArg Ending.returned rfl), h_.2⟩) ?_)
    refine GL_rd rfl (by decide) (rd_fieldAddr (j := 44) (by kernel_rfl) rfl) ?_
    refine GL_at rfl (at_storeAgg 52 rfl rfl rfl (knwn2 (bs.hc.get 44 _ rfl) (bs.hc.get 45 _ rfl)) (by kernel_rfl) rfl (Nat.le_of_ble_eq_true rfl) ?_)
    refine GL_nil ?_
    refine GE_then ?_
    refine GC_seq ?_
    refine GC_region ?_
    refine GL_rd rfl (by decide) (rd_fieldAddr (j := 4) (by kernel_rfl) rfl) ?_
    refine GL_rd rfl (by decide) (rd_fieldAddr (j := 0) (by kernel_rfl) rfl) ?_
    refine GL_rd rfl (by decide) (rd_load 50 rfl rfl (bs.ho.get 4 _ rfl) (by kernel_rfl) (by decide)) ?_
    refine GL_rd rfl (by decide) (rd_fieldAddr (j := 42) (by kernel_rfl) rfl) ?_
    refine GL_at rfl (at_store 52 rfl rfl rfl (bs.hc.get 42 _ rfl) (by kernel_rfl) rfl (by decide) ?_)
    refine GL_nil ?_
    refine GE_then ?_
    refine GC_seq ?_
    refine GC_region ?_
    refine GL_rd rfl (by decide) (rd_fieldAddr (j := 9) (by kernel_rfl) rfl) ?_
    refine GL_rd rfl (by decide) (rd_load 50 rfl rfl (bs.ho.get 9 _ rfl) (by kernel_rfl) (by decide)) ?_
    refine GL_rd rfl (by decide) (rd_fieldAddr (j := 46) (by kernel_rfl) rfl) ?_
    refine GL_at rfl (at_store 52 rfl rfl rfl (bs.hc.get 46 _ rfl) (by kernel_rfl) rfl (by decide) ?_)
    refine GL_nil ?_
    refine GE_then ?_
    refine GC_to (L' := [(1, .pointer (some ⟨b1, 0, none⟩)), (2, .pointer (some ⟨b2, 0, none⟩)), (3, .pointer (some ⟨b3, 0, none⟩))]) (fun a k => k.cons rfl (k.cons rfl (k.cons rfl (k.nil)))) (fun w s => s) ?_
    have e0 : until0 o = o.d + 9223372036 := by unfold until0; rw [if_pos hu0]
    have e1 : until1 o = 854775807 := by unfold until1; rw [if_pos hu0]
    refine bu_B (x := x) ok hsort (H := (ky 52 46, .slice x.p9 (o.setpos).length x.c9) :: (ky 52 42, .int .i64 o.wkst) :: (ky 52 45, .int .i64 854775807) :: (ky 52 44, .int .i64 (o.d + 9223372036)) :: (ky 52 40, .int .i64 0) :: (ky 52 39, .int .i64 o.d) :: (ky 50 2, .int .i64 0) :: (ky 50 1, .int .i64 o.d) :: (ky 52 43, .int .i64 o.count) :: (ky 52 41, .int .i64 o.interval) :: (ky 52 38, .int .i64 o.freq) :: H) (S := S) ⟨(cellsAt.cons (bs.ho.get 0 _ rfl) (cellsAt.cons rfl (cellsAt.cons rfl (cellsAt.cons (bs.ho.get 3 _ rfl) (cellsAt.cons (bs.ho.get 4 _ rfl) (cellsAt.cons (bs.ho.get 5 _ rfl) (cellsAt.cons (bs.ho.get 6 _ rfl) (cellsAt.cons (bs.ho.get 7 _ rfl) (cellsAt.cons (bs.ho.get 8 _ rfl) (cellsAt.cons (bs.ho.get 9 _ rfl) (cellsAt.cons (bs.ho.get 10 _ rfl) (cellsAt.cons (bs.ho.get 11 _ rfl) (cellsAt.cons (bs.ho.get 12 _ rfl) (cellsAt.cons (bs.ho.get 13 _ rfl) (cellsAt.cons (bs.ho.get 14 _ rfl) (cellsAt.cons (bs.ho.get 15 _ rfl) (cellsAt.cons (bs.ho.get 16 _ rfl) (cellsAt.cons (bs.ho.get 17 _ rfl) (cellsAt.cons (bs.ho.get 18 _ rfl) cellsAt.nil))))))))))))))))))), (cellsAt.cons (bs.hc.get 0 _ rfl) (cellsAt.cons (bs.hc.get 1 _ rfl) (cellsAt.cons (bs.hc.get 2 _ rfl) (cellsAt.cons (bs.hc.get 3 _ rfl) (cellsAt.cons (bs.hc.get 4 _ rfl) (cellsAt.cons (bs.hc.get 5 _ rfl) (cellsAt.cons (bs.hc.get 6 _ rfl) (cellsAt.cons (bs.hc.get 7 _ rfl) (cellsAt.cons (bs.hc.get 8 _ rfl) (cellsAt.cons (bs.hc.get 9 _ rfl) (cellsAt.cons (bs.hc.get 10 _ rfl) (cellsAt.cons (bs.hc.get 11 _ rfl) (cellsAt.cons (bs.hc.get 12 _ rfl) (cellsAt.cons (bs.hc.get 13 _ rfl) (cellsAt.cons (bs.hc.get 14 _ rfl) (cellsAt.cons (bs.hc.get 15 _ rfl) (cellsAt.cons (bs.hc.get 16 _ rfl) (cellsAt.cons (bs.hc.get 17 _ rfl) (cellsAt.cons (bs.hc.get 18 _ rfl) (cellsAt.cons (bs.hc.get 19 _ rfl) (cellsAt.cons (bs.hc.get 20 _ rfl) (cellsAt.cons (bs.hc.get 21 _ rfl) (cellsAt.cons (bs.hc.get 22 _ rfl) (cellsAt.cons (bs.hc.get 23 _ rfl) (cellsAt.cons (bs.hc.get 24 _ rfl) (cellsAt.cons (bs.hc.get 25 _ rfl) (cellsAt.cons (bs.hc.get 26 _ rfl) (cellsAt.cons (bs.hc.get 27 _ rfl) (cellsAt.cons (bs.hc.get 28 _ rfl) (cellsAt.cons (bs.hc.get 29 _ rfl) (cellsAt.cons (bs.hc.get 30 _ rfl) (cellsAt.cons (bs.hc.get 31 _ rfl) (cellsAt.cons (bs.hc.get 32 _ rfl) (cellsAt.cons (bs.hc.get 33 _ rfl) (cellsAt.cons (bs.hc.get 34 _ rfl) (cellsAt.cons (bs.hc.get 35 _ rfl) (cellsAt.cons (bs.hc.get 36 _ rfl) (cellsAt.cons (bs.hc.get 37 _ rfl) (cellsAt.cons rfl (cellsAt.cons rfl (cellsAt.cons rfl (cellsAt.cons rfl (cellsAt.cons rfl (cellsAt.cons rfl (cellsAt.cons (show lkp (ky 52 44) _ = some (Value.int .i64 (until0 o)) from by rw [e0]; rfl) (cellsAt.cons (show lkp (ky 52 45) _ = some (Value.int .i64 (until1 o)) from by rw [e1]; rfl) (cellsAt.cons rfl (cellsAt.cons (bs.hc.get 47 _ rfl) (cellsAt.cons (bs.hc.get 48 _ rfl) (cellsAt.cons (bs.hc.get 49 _ rfl) (cellsAt.cons (bs.hc.get 50 _ rfl) (cellsAt.cons (bs.hc.get 51 _ rfl) (cellsAt.cons (bs.hc.get 52 _ rfl) (cellsAt.cons (bs.hc.get 53 _ rfl) (cellsAt.cons (bs.hc.get 54 _ rfl) (cellsAt.cons (bs.hc.get 55 _ rfl) (cellsAt.cons (bs.hc.get 56 _ rfl) (cellsAt.cons (bs.hc.get 57 _ rfl) (cellsAt.cons (bs.hc.get 58 _ rfl) (cellsAt.cons (bs.hc.get 59 _ rfl) cellsAt.nil)))))))))))))))))))))))))))))))))))))))))))))))))))))))))))), (knwn_mono (by repeat (first | exact Knw.refl _ | apply Knw.cons)) bs.h2), (by repeat (first | exact bs.lim | apply Lim.consH _ (by decide) (by decide) | apply Lim.consS _ (by decide))), bs.limB, (fun k_ h1_ o_ ho_ => Eq.trans (by repeat (first | rfl | rw [lkp_ky_ne (by omega) ho_ (by decide)])) (bs.frH k_ h1_ o_ ho_)), (fun k_ h1_ h2_ => Eq.trans (by repeat (first | rfl | rw [lkp_cons_ne (by omega)])) (bs.frS k_ h1_ h2_))⟩ s9 s10 s11 s12 s13 s14 s15 s16 s17 s18 hR
  · skip
    have hu0 : ¬ o.u = 0 := by have := of_decide_eq_false hc2; omega
    refine GC_seq ?_
    refine GC_region ?_
    refine GL_rd rfl (by decide) (rd_fieldAddr (j := 7) (by kernel_rfl) rfl) ?_
    refine GL_rd rfl (by decide) (rd_load2 50 rfl rfl (bs.ho.get 7 _ rfl) (bs.ho.get 8 _ rfl) (by kernel_rfl) (by decide)) ?_
    refine GL_at rfl (at_call_v (by decide) (by kernel_rfl) rfl (fun w_ s_ => truncate_calls _ _ _ w_) ?_)
    refine GL_rd rfl (by decide) (rd_fieldAddr (j := 7) (by kernel_rfl) rfl) ?_
    refine GL_at rfl (at_storeAgg 50 rfl rfl rfl (knwn2 (bs.ho.get 7 _ rfl) (bs.ho.get 8 _ rfl)) (by kernel_rfl) rfl (Nat.le_of_ble_eq_true rfl) ?_)
    refine GL_nil ?_
    refine GE_then ?_
    refine GC_region ?_
    refine GL_rd rfl (by decide) (rd_fieldAddr (j := 7) (by kernel_rfl) rfl) ?_
    refine GL_rd rfl (by decide) (rd_load2 50 rfl rfl rfl rfl (by kernel_rfl) (by decide)) ?_
    refine GL_rd rfl (by decide) (rd_fieldAddr (j := 44) (by kernel_rfl) rfl) ?_
    refine GL_at rfl (at_storeAgg 52 rfl rfl rfl (knwn2 (bs.hc.get 44 _ rfl) (bs.hc.get 45 _ rfl)) (by kernel_rfl) rfl (Nat.le_of_ble_eq_true rfl) ?_)
    refine GL_nil ?_
    refine GE_then ?_
    refine GC_seq ?_
    refine GC_region ?_
    refine GL_rd rfl (by decide) (rd_fieldAddr (j := 4) (by kernel_rfl) rfl) ?_
    refine GL_rd rfl (by decide) (rd_fieldAddr (j := 0) (by kernel_rfl) rfl) ?_
    refine GL_rd rfl (by decide) (rd_load 50 rfl rfl (bs.ho.get 4 _ rfl) (by kernel_rfl) (by decide)) ?_
    refine GL_rd rfl (by decide) (rd_fieldAddr (j := 42) (by kernel_rfl) rfl) ?_
    refine GL_at rfl (at_store 52 rfl rfl rfl (bs.hc.get 42 _ rfl) (by kernel_rfl) rfl (by decide) ?_)
    refine GL_nil ?_
    refine GE_then ?_
    refine GC_seq ?_
    refine GC_region ?_
    refine GL_rd rfl (by decide) (rd_fieldAddr (j := 9) (by kernel_rfl) rfl) ?_
    refine GL_rd rfl (by decide) (rd_load 50 rfl rfl (bs.ho.get 9 _ rfl) (by kernel_rfl) (by decide)) ?_
    refine GL_rd rfl (by decide) (rd_fieldAddr (j := 46) (by kernel_rfl) rfl) ?_
    refine GL_at rfl (at_store 52 rfl rfl rfl (bs.hc.get 46 _ rfl) (by kernel_rfl) rfl (by decide) ?_)
    refine GL_nil ?_
    refine GE_then ?_
    refine GC_to (L' := [(1, .pointer (some ⟨b1, 0, none⟩)), (2, .pointer (some ⟨b2, 0, none⟩)), (3, .pointer (some ⟨b3, 0, none⟩))]) (fun a k => k.cons rfl (k.cons rfl (k.cons rfl (k.nil)))) (fun w s => s) ?_
    have e0 : until0 o = o.u := by unfold until0; rw [if_neg hu0]
    have e1 : until1 o = 0 := by unfold until1; rw [if_neg hu0]
    refine bu_B (x := x) ok hsort (H := (ky 52 46, .slice x.p9 (o.setpos).length x.c9) :: (ky 52 42, .int .i64 o.wkst) :: (ky 52 45, .int .i64 0) :: (ky 52 44, .int .i64 o.u) :: (ky 50 8, .int .i64 0) :: (ky 50 7, .int .i64 o.u) :: (ky 52 40, .int .i64 0) :: (ky 52 39, .int .i64 o.d) :: (ky 50 2, .int .i64 0) :: (ky 50 1, .int .i64 o.d) :: (ky 52 43, .int .i64 o.count) :: (ky 52 41, .int .i64 o.interval) :: (ky 52 38, .int .i64 o.freq) :: H) (S := S) ⟨(cellsAt.cons (bs.ho.get 0 _ rfl) (cellsAt.cons rfl (cellsAt.cons rfl (cellsAt.cons (bs.ho.get 3 _ rfl) (cellsAt.cons (bs.ho.get 4 _ rfl) (cellsAt.cons (bs.ho.get 5 _ rfl) (cellsAt.cons (bs.ho.get 6 _ rfl) (cellsAt.cons rfl (cellsAt.cons rfl (cellsAt.cons (bs.ho.get 9 _ rfl) (cellsAt.cons (bs.ho.get 10 _ rfl) (cellsAt.cons (bs.ho.get 11 _ rfl) (cellsAt.cons (bs.ho.get 12 _ rfl) (cellsAt.cons (bs.ho.get 13 _ rfl) (cellsAt.cons (bs.ho.get 14 _ rfl) (cellsAt.cons (bs.ho.get 15 _ rfl) (cellsAt.cons (bs.ho.get 16 _ rfl) (cellsAt.cons (bs.ho.get 17 _ rfl) (cellsAt.cons (bs.ho.get 18 _ rfl) cellsAt.nil))))))))))))))))))), (cellsAt.cons (bs.hc.get 0 _ rfl) (cellsAt.cons (bs.hc.get 1 _ rfl) (cellsAt.cons (bs.hc.get 2 _ rfl) (cellsAt.cons (bs.hc.get 3 _ rfl) (cellsAt.cons (bs.hc.get 4 _ rfl) (cellsAt.cons (bs.hc.get 5 _ rfl) (cellsAt.cons (bs.hc.get 6 _ rfl) (cellsAt.cons (bs.hc.get 7 _ rfl) (cellsAt.cons (bs.hc.get 8 _ rfl) (cellsAt.cons (bs.hc.get 9 _ rfl) (cellsAt.cons (bs.hc.get 10 _ rfl) (cellsAt.cons (bs.hc.get 11 _ rfl) (cellsAt.cons (bs.hc.get 12 _ rfl) (cellsAt.cons (bs.hc.get 13 _ rfl) (cellsAt.cons (bs.hc.get 14 _ rfl) (cellsAt.cons (bs.hc.get 15 _ rfl) (cellsAt.cons (bs.hc.get 16 _ rfl) (cellsAt.cons (bs.hc.get 17 _ rfl) (cellsAt.cons (bs.hc.get 18 _ rfl) (cellsAt.cons (bs.hc.get 19 _ rfl) (cellsAt.cons (bs.hc.get 20 _ rfl) (cellsAt.cons (bs.hc.get 21 _ rfl) (cellsAt.cons (bs.hc.get 22 _ rfl) (cellsAt.cons (bs.hc.get 23 _ rfl) (cellsAt.cons (bs.hc.get 24 _ rfl) (cellsAt.cons (bs.hc.get 25 _ rfl) (cellsAt.cons (bs.hc.get 26 _ rfl) (cellsAt.cons (bs.hc.get 27 _ rfl) (cellsAt.cons (bs.hc.get 28 _ rfl) (cellsAt.cons (bs.hc.get 29 _ rfl) (cellsAt.cons (bs.hc.get 30 _ rfl) (cellsAt.cons (bs.hc.get 31 _ rfl) (cellsAt.cons (bs.hc.get 32 _ rfl) (cellsAt.cons (bs.hc.get 33 _ rfl) (cellsAt.cons (bs.hc.get 34 _ rfl) (cellsAt.cons (bs.hc.get 35 _ rfl) (cellsAt.cons (bs.hc.get 36 _ rfl) (cellsAt.cons (bs.hc.get 37 _ rfl) (cellsAt.cons rfl (cellsAt.cons rfl (cellsAt.cons rfl (cellsAt.cons rfl (cellsAt.cons rfl (cellsAt.cons rfl (cellsAt.cons (show lkp (ky 52 44) _ = some (Value.int .i64 (until0 o)) from by rw [e0]; rfl) (cellsAt.cons (show lkp (ky 52 45) _ = some (Value.int .i64 (until1 o)) from by rw [e1]; rfl) (cellsAt.cons rfl (cellsAt.cons (bs.hc.get 47 _ rfl) (cellsAt.cons (bs.hc.get 48 _ rfl) (cellsAt.cons (bs.hc.get 49 _ rfl) (cellsAt.cons (bs.hc.get 50 _ rfl) (cellsAt.cons (bs.hc.get 51 _ rfl) (cellsAt.cons (bs.hc.get 52 _ rfl) (cellsAt.cons (bs.hc.get 53 _ rfl) (cellsAt.cons (bs.hc.get 54 _ rfl) (cellsAt.cons (bs.hc.get 55 _ rfl) (cellsAt.cons (bs.hc.get 56 _ rfl) (cellsAt.cons (bs.hc.get 57 _ rfl) (cellsAt.cons (bs.hc.get 58 _ rfl) (cellsAt.cons (bs.hc.get 59 _ rfl) cellsAt.nil)))))))))))))))))))))))))))))))))))))))))))))))))))))))))))), (knwn_mono (by repeat (first | exact Knw.refl _ | apply Knw.cons)) bs.h2), (by repeat (first | exact bs.lim | apply Lim.consH _ (by decide) (by decide) | apply Lim.consS _ (by decide))), bs.limB, (fun k_ h1_ o_ ho_ => Eq.trans (by repeat (first | rfl | rw [lkp_ky_ne (by omega) ho_ (by decide)])) (bs.frH k_ h1_ o_ ho_)), (fun k_ h1_ h2_ => Eq.trans (by repeat (first | rfl | rw [lkp_cons_ne (by omega)])) (bs.frS k_ h1_ h2_))⟩ s9 s10 s11 s12 s13 s14 s15 s16 s17 s18 hR
end
end Go.Proofs.YtfcklceejjmjeaaGreat
