/-
  The rule that the package builds from its options: its times, and the end.
-/
import Derived.Test.YtfcklceejjmjeaaGreatProg
import Derived.Test.YtfcklceejjmjeaaGreatMd
import Derived.Test.YtfcklceejjmjeaaGreatFg
import Derived.Test.YtfcklceejjmjeaaGreatBld
set_option linter.unusedVariables false
set_option linter.unusedSimpArgs false
set_option maxRecDepth 100000
set_option maxHeartbeats 8000000
namespace Go.Proofs.YtfcklceejjmjeaaGreat
open Go.RowKit Go.Fr Go.Tab
section
variable {F : Nat → Prop} {w0 : World} {B : List (Nat × Nat)} {H : List (Nat × Value)} {S : List (Nat × Slc)}

open Go.Md
theorem bu_J {R : Ending → World → Prop} {o : Opn} {x : Av} {b1 b2 b3 : Nat} {H0 : List (Nat × Value)} {S0 : List (Nat × Slc)} (ok : OpOk o) (hsort : o.freq < 4 → SortOk F w0 (raw o)) (bs : Bs F w0 B H0 S0 b1 b2 b3 (oc1 o x) (rcI o x) H S) (s9 : SrcT F w0 S 11 (.slice x.p9 (o.setpos).length x.c9) o.setpos) (sm : SrcT F w0 S 16 (.slice x.pm (month' o).length x.cm) (month' o)) (s12 : SrcT F w0 S 11 (.slice x.p12 (o.yday).length x.c12) o.yday) (s13 : SrcT F w0 S 11 (.slice x.p13 (o.weekno).length x.c13) o.weekno) (s18 : SrcT F w0 S 11 (.slice x.p18 (o.easter).length x.c18) o.easter) (r12 : lkp 12 S = some ⟨.slice x.q48 (posM (mday' o)).length x.e48, 3, 1, (posM (mday' o)).length, (posM (mday' o)).map (Value.int .i64)⟩) (r13 : lkp 13 S = some ⟨.slice x.q49 (negM (mday' o)).length x.e49, 3, 1, (negM (mday' o)).length, (negM (mday' o)).map (Value.int .i64)⟩) (r14 : lkp 14 S = some ⟨.slice x.q52 (((wday' o).filter (plainW o.freq)).map Prod.fst).length x.e52, 3, 1, (((wday' o).filter (plainW o.freq)).map Prod.fst).length, (((wday' o).filter (plainW o.freq)).map Prod.fst).map (Value.int .i64)⟩) (sh : SrcT F w0 S 18 (.slice x.q54 (hour' o).length x.e54) (hour' o)) (si : SrcT F w0 S 19 (.slice x.q55 (minute' o).length x.e55) (minute' o)) (ss : SrcT F w0 S 20 (.slice x.q56 (second' o).length x.e56) (second' o)) (r2 : o.freq < 4 → lkp 2 S = some ⟨.slice x.tp (tset o).length x.tc, 44, 2, (tset o).length, tcells (tset o)⟩)  (hR : ∀ (x : Av) (S' : List (Nat × Slc)), OutF F w0 o x S0 S' → ∀ w, Sees F w0 B H0 S' w → R (.returned (.agg (outC o x).toArray)) w) : GC Go.Proofs.Tryz.prog (Go.Fr.part [1, 1, 1, 1, 1, 1, 1, 1, 1, 1, 1, 1, 1, 1, 1, 1, 1, 1, 1, 1, 1, 1, 1, 1, 1, 1] (Go.Fr.bodyOf Tryz.f17)) (bodyPost Go.Proofs.Tryz.prog Tryz.f17 R) 300 [(1, .pointer (some ⟨b1, 0, none⟩)), (2, .pointer (some ⟨b2, 0, none⟩)), (3, .pointer (some ⟨b3, 0, none⟩))] F w0 ((52, b3) :: (51, b2) :: (50, b1) :: B) H S := by
  have ok_ := ok
  refine GC_seq ?_
  refine GC_region ?_
  refine GL_rd rfl (by decide) ((rd_loadN 50 (cs := oc1 o x) rfl rfl bs.ho.get (Nat.le_of_ble_eq_true rfl) (by kernel_rfl))) ?_
  refine GL_rd rfl (by decide) (rd_fieldAddr (j := 19) (by kernel_rfl) rfl) ?_
  refine GL_at rfl (at_storeAgg 52 (cs := (oc1 o x).toArray) rfl rfl rfl (cellsAt_some bs.hc 19 19 (Nat.le_of_ble_eq_true rfl)) (by kernel_rfl) rfl (Nat.le_of_ble_eq_true rfl) ?_)
  refine GL_nil ?_
  refine GE_then ?_
  refine GC_seq ?_
  refine GC_region ?_
  have hcJ : cellsAt 52 (putSeq 52 19 (oc1 o x) H) 0 (outC o x) := (cellsAt.cons (bs.hc.get 0 _ rfl) (cellsAt.cons (bs.hc.get 1 _ rfl) (cellsAt.cons (bs.hc.get 2 _ rfl) (cellsAt.cons (bs.hc.get 3 _ rfl) (cellsAt.cons (bs.hc.get 4 _ rfl) (cellsAt.cons (bs.hc.get 5 _ rfl) (cellsAt.cons (bs.hc.get 6 _ rfl) (cellsAt.cons (bs.hc.get 7 _ rfl) (cellsAt.cons (bs.hc.get 8 _ rfl) (cellsAt.cons (bs.hc.get 9 _ rfl) (cellsAt.cons (bs.hc.get 10 _ rfl) (cellsAt.cons (bs.hc.get 11 _ rfl) (cellsAt.cons (bs.hc.get 12 _ rfl) (cellsAt.cons (bs.hc.get 13 _ rfl) (cellsAt.cons (bs.hc.get 14 _ rfl) (cellsAt.cons (bs.hc.get 15 _ rfl) (cellsAt.cons (bs.hc.get 16 _ rfl) (cellsAt.cons (bs.hc.get 17 _ rfl) (cellsAt.cons (bs.hc.get 18 _ rfl) (cellsAt.cons rfl (cellsAt.cons rfl (cellsAt.cons rfl (cellsAt.cons rfl (cellsAt.cons rfl (cellsAt.cons rfl (cellsAt.cons rfl (cellsAt.cons rfl (cellsAt.cons rfl (cellsAt.cons rfl (cellsAt.cons rfl (cellsAt.cons rfl (cellsAt.cons rfl (cellsAt.cons rfl (cellsAt.cons rfl (cellsAt.cons rfl (cellsAt.cons rfl (cellsAt.cons rfl (cellsAt.cons rfl (cellsAt.cons (bs.hc.get 38 _ rfl) (cellsAt.cons (bs.hc.get 39 _ rfl) (cellsAt.cons (bs.hc.get 40 _ rfl) (cellsAt.cons (bs.hc.get 41 _ rfl) (cellsAt.cons (bs.hc.get 42 _ rfl) (cellsAt.cons (bs.hc.get 43 _ rfl) (cellsAt.cons (bs.hc.get 44 _ rfl) (cellsAt.cons (bs.hc.get 45 _ rfl) (cellsAt.cons (bs.hc.get 46 _ rfl) (cellsAt.cons (bs.hc.get 47 _ rfl) (cellsAt.cons (bs.hc.get 48 _ rfl) (cellsAt.cons (bs.hc.get 49 _ rfl) (cellsAt.cons (bs.hc.get 50 _ rfl) (cellsAt.cons (bs.hc.get 51 _ rfl) (cellsAt.cons (bs.hc.get 52 _ rfl) (cellsAt.cons (bs.hc.get 53 _ rfl) (cellsAt.cons (bs.hc.get 54 _ rfl) (cellsAt.cons (bs.hc.get 55 _ rfl) (cellsAt.cons (bs.hc.get 56 _ rfl) (cellsAt.cons (bs.hc.get 57 _ rfl) (cellsAt.cons (bs.hc.get 58 _ rfl) (cellsAt.cons (bs.hc.get 59 _ rfl) cellsAt.nil))))))))))))))))))))))))))))))))))))))))))))))))))))))))))))
  refine GL_to (fun a k => k) (fun w s => s) (H' := (putSeq 52 19 (oc1 o x) H)) ?_
  refine GL_rd rfl (by decide) ((rd_loadN 52 (cs := outC o x) rfl rfl hcJ.get (Nat.le_of_ble_eq_true rfl) (by kernel_rfl))) ?_
  refine GL_at rfl (at_storeAgg 51 (cs := (outC o x).toArray) rfl rfl rfl (knwn_mono (Knw.seq _ _ (Knw.refl _)) bs.h2) (by kernel_rfl) rfl (Nat.le_of_ble_eq_true rfl) ?_)
  refine GL_nil ?_
  refine GE_then ?_
  refine GC_ret ?_
  refine GE_ret1 (.inl rfl) rfl (res_cellN 51 (cs := outC o x) rfl rfl (fun i v h => by have := putSeq_get (j := 51) (outC o x) 0 (H := (putSeq 52 19 (oc1 o x) H)) (Nat.le_of_ble_eq_true rfl) i v h; rwa [Nat.zero_add] at this) (Nat.le_of_ble_eq_true rfl) (by kernel_rfl)) fun w s => ?_
  refine hR x S ⟨s9, sm, s12, s13, s18, r12, r13, r14, sh, si, ss, r2, bs.frS, bs.lim.s⟩ w (Sees.back3 s bs.limB (fun k hk o_ ho_ => ?_))
  exact (lkp_seq_ne (by omega) ho_ _ _ (Nat.le_of_ble_eq_true rfl)).trans ((lkp_seq_ne (by omega) ho_ _ _ (Nat.le_of_ble_eq_true rfl)).trans (bs.frH k hk o_ ho_))
theorem bu_I {R : Ending → World → Prop} {o : Opn} {x : Av} {b1 b2 b3 : Nat} {H0 : List (Nat × Value)} {S0 : List (Nat × Slc)} (ok : OpOk o) (hsort : o.freq < 4 → SortOk F w0 (raw o)) (bs : Bs F w0 B H0 S0 b1 b2 b3 (oc1 o x) (rcG o x) H S) (s9 : SrcT F w0 S 11 (.slice x.p9 (o.setpos).length x.c9) o.setpos) (sm : SrcT F w0 S 16 (.slice x.pm (month' o).length x.cm) (month' o)) (s12 : SrcT F w0 S 11 (.slice x.p12 (o.yday).length x.c12) o.yday) (s13 : SrcT F w0 S 11 (.slice x.p13 (o.weekno).length x.c13) o.weekno) (s18 : SrcT F w0 S 11 (.slice x.p18 (o.easter).length x.c18) o.easter) (r12 : lkp 12 S = some ⟨.slice x.q48 (posM (mday' o)).length x.e48, 3, 1, (posM (mday' o)).length, (posM (mday' o)).map (Value.int .i64)⟩) (r13 : lkp 13 S = some ⟨.slice x.q49 (negM (mday' o)).length x.e49, 3, 1, (negM (mday' o)).length, (negM (mday' o)).map (Value.int .i64)⟩) (r14 : lkp 14 S = some ⟨.slice x.q52 (((wday' o).filter (plainW o.freq)).map Prod.fst).length x.e52, 3, 1, (((wday' o).filter (plainW o.freq)).map Prod.fst).length, (((wday' o).filter (plainW o.freq)).map Prod.fst).map (Value.int .i64)⟩) (sh : SrcT F w0 S 18 (.slice x.q54 (hour' o).length x.e54) (hour' o)) (si : SrcT F w0 S 19 (.slice x.q55 (minute' o).length x.e55) (minute' o)) (ss : SrcT F w0 S 20 (.slice x.q56 (second' o).length x.e56) (second' o))  (hR : ∀ (x : Av) (S' : List (Nat × Slc)), OutF F w0 o x S0 S' → ∀ w, Sees F w0 B H0 S' w → R (.returned (.agg (outC o x).toArray)) w) : GC Go.Proofs.Tryz.prog (Go.Fr.part [1, 1, 1, 1, 1, 1, 1, 1, 1, 1, 1, 1, 1, 1, 1, 1, 1, 1, 1, 1, 1, 1, 1, 1] (Go.Fr.bodyOf Tryz.f17)) (bodyPost Go.Proofs.Tryz.prog Tryz.f17 R) 300 [(1, .pointer (some ⟨b1, 0, none⟩)), (2, .pointer (some ⟨b2, 0, none⟩)), (3, .pointer (some ⟨b3, 0, none⟩))] F w0 ((52, b3) :: (51, b2) :: (50, b1) :: B) H S := by
  have ok_ := ok
  have la := len_hour' ok
  have lb := len_minute' ok
  have lc := len_second' ok
  have hm1 : (((hour' o).length : Nat) : Int) * (((minute' o).length : Nat) : Int) = (((hour' o).length * (minute' o).length : Nat) : Int) := by rw [Int.natCast_mul]
  have hm2 : (((hour' o).length * (minute' o).length : Nat) : Int) * (((second' o).length : Nat) : Int) = (((hour' o).length * (minute' o).length * (second' o).length : Nat) : Int) := by rw [Int.natCast_mul (_ * _)]
  have hP1 : (hour' o).length * (minute' o).length ≤ 400 * 400 := Nat.mul_le_mul la lb
  have hP2 : (hour' o).length * (minute' o).length * (second' o).length ≤ 400 * 400 * 400 := Nat.mul_le_mul hP1 lc
  have hP3 : (minute' o).length * (second' o).length ≤ 400 * 400 := Nat.mul_le_mul lb lc
  have hP4 : (hour' o).length * ((minute' o).length * (second' o).length) ≤ 400 * (400 * 400) := Nat.mul_le_mul la hP3
  refine GC_seq ?_
  refine GC_region ?_
  refine GL_rd rfl (by decide) (rd_fieldAddr (j := 58) (by kernel_rfl) rfl) ?_
  refine GL_at rfl (at_store 52 rfl rfl rfl (bs.hc.get 58 _ rfl) (by kernel_rfl) rfl (by decide) ?_)
  refine GL_nil ?_
  refine GE_then ?_
  refine GC_seq ?_
  refine GC_seq ?_
  refine GC_region ?_
  refine GL_rd rfl (by decide) (rd_fieldAddr (j := 38) (by kernel_rfl) rfl) ?_
  refine GL_rd rfl (by decide) (rd_load 52 rfl rfl (bs.hc.get 38 _ rfl) (by kernel_rfl) (by decide)) ?_
  refine GL_rd rfl (by decide) (rd_lss rfl rfl) ?_
  refine GL_nil ?_
  refine GE_then ?_
  refine GC_cond rfl (fun hc1 => ?_) (fun hc2 => ?_)
  · skip
    have hf4 : o.freq < 4 := of_decide_eq_true hc1
    refine GC_seq ?_
    refine GC_region ?_
    refine GL_rd rfl (by decide) (rd_fieldAddr (j := 54) (by kernel_rfl) rfl) ?_
    refine GL_rd rfl (by decide) (rd_load 52 rfl rfl (bs.hc.get 54 _ rfl) (by kernel_rfl) (by decide)) ?_
    refine GL_rd rfl (by decide) (rd_len (by kernel_rfl) rfl) ?_
    refine GL_rd rfl (by decide) (rd_fieldAddr (j := 55) (by kernel_rfl) rfl) ?_
    refine GL_rd rfl (by decide) (rd_load 52 rfl rfl (bs.hc.get 55 _ rfl) (by kernel_rfl) (by decide)) ?_
    refine GL_rd rfl (by decide) (rd_len (by kernel_rfl) rfl) ?_
    refine GL_rd rfl (by decide) ((rd_mul_ rfl rfl (by rw [hm1]; omega)).to (congrArg (Value.int .i64) hm1)) ?_
    refine GL_rd rfl (by decide) (rd_fieldAddr (j := 56) (by kernel_rfl) rfl) ?_
    refine GL_rd rfl (by decide) (rd_load 52 rfl rfl (bs.hc.get 56 _ rfl) (by kernel_rfl) (by decide)) ?_
    refine GL_rd rfl (by decide) (rd_len (by kernel_rfl) rfl) ?_
    refine GL_rd rfl (by decide) ((rd_mul_ rfl rfl (by rw [hm2]; omega)).to (congrArg (Value.int .i64) hm2)) ?_
    refine GL_at rfl (at_make0 2 (e := 44) (sz := 2) (by_ := 16) (zs := [.int .i64 0, .int .i64 0]) (c := (hour' o).length * (minute' o).length * (second' o).length) (by decide) (by kernel_rfl) rfl rfl (by omega) (by omega) (fun bm => ?_))
    refine GL_rd rfl (by decide) (rd_fieldAddr (j := 58) (by kernel_rfl) rfl) ?_
    refine GL_at rfl (at_store 52 rfl rfl rfl rfl (by kernel_rfl) rfl (by decide) ?_)
    refine GL_nil ?_
    refine GE_then ?_
    refine GC_seq ?_
    refine GC_seq ?_
    refine GC_region ?_
    refine GL_rd rfl (by decide) (rd_fieldAddr (j := 54) (by kernel_rfl) rfl) ?_
    refine GL_rd rfl (by decide) (rd_load 52 rfl rfl (bs.hc.get 54 _ rfl) (by kernel_rfl) (by decide)) ?_
    refine GL_rd rfl (by decide) (rd_len (by kernel_rfl) rfl) ?_
    refine GL_rd rfl (by decide) (rd_move rfl) ?_
    refine GL_nil ?_
    refine GE_then ?_
    refine GC_block ?_
    refine GC_loop (ι := (Nat) × (Option Addr) × (Nat) × (Nat) × (List Value) × (List Int)) (fun | ⟨i, q, e, n, xs, l⟩ => (hour' o).length - i) (fun | ⟨i, q, e, n, xs, l⟩ => (i ≤ (hour' o).length) ∧ (l = ((hour' o).take i).flatMap (fun h => (minute' o).flatMap fun m => (second' o).map fun s => h * 3600 + m * 60 + s)) ∧ (n = l.length) ∧ (xs = tcells l) ∧ (n ≤ i * ((minute' o).length * (second' o).length))) (fun | ⟨i, q, e, n, xs, l⟩ => [(1, .pointer (some ⟨b1, 0, none⟩)), (2, .pointer (some ⟨b2, 0, none⟩)), (3, .pointer (some ⟨b3, 0, none⟩)), (258, .slice x.q54 (hour' o).length x.e54), (259, .int .i64 ((hour' o).length)), (260, .int .i64 i)]) (fun | ⟨i, q, e, n, xs, l⟩ => ((52, b3) :: (51, b2) :: (50, b1) :: B)) (fun | ⟨i, q, e, n, xs, l⟩ => (ky 52 58, .slice q n e) :: H) (fun | ⟨i, q, e, n, xs, l⟩ => (2, ⟨.slice q n e, 44, 2, n, xs⟩) :: S) ⟨0, some ⟨bm, 0, none⟩, (hour' o).length * (minute' o).length * (second' o).length, 0, [], []⟩ ⟨Nat.zero_le _, rfl, rfl, rfl, Nat.zero_le _⟩ (fun a k => k.cons rfl (k.cons rfl (k.cons rfl (k.cons rfl (k.cons rfl (k.cons rfl (k.nil))))))) (fun w s => by exact s.low 53 (((bs.lim.consH (by decide) (by decide)).consS (by decide))) (by repeat (first | exact Agr.refl _ | apply Agr.pick rfl | apply Agr.skip (by decide) | apply Agr.seq (by decide) | apply Agr.put (by decide))) (by repeat (first | exact Agr.refl _ | apply Agr.pick rfl | apply Agr.skip (by decide) | apply Agr.seq (by decide) | apply Agr.put (by decide))) (by repeat (first | exact Agr.refl _ | apply Agr.pick rfl | apply Agr.skip (by decide) | apply Agr.seq (by decide) | apply Agr.put (by decide)))) ?_
    rintro ⟨i, q, e, n, xs, l⟩ ⟨hi, hl, hn, hxs, hb⟩
    show GC _ _ _ _ [(1, .pointer (some ⟨b1, 0, none⟩)), (2, .pointer (some ⟨b2, 0, none⟩)), (3, .pointer (some ⟨b3, 0, none⟩)), (258, .slice x.q54 (hour' o).length x.e54), (259, .int .i64 ((hour' o).length)), (260, .int .i64 i)] _ _ (((52, b3) :: (51, b2) :: (50, b1) :: B)) ((ky 52 58, .slice q n e) :: H) ((2, ⟨.slice q n e, 44, 2, n, xs⟩) :: S)
    refine GC_seq ?_
    refine GC_region ?_
    refine GL_rd rfl (by decide) (rd_lss rfl rfl) ?_
    refine GL_nil ?_
    refine GE_then ?_
    refine GC_seq ?_
    refine GC_cond rfl (fun hc1 => ?_) (fun hc2 => ?_)
    · skip
      have hlt_i : i < (hour' o).length := by have := of_decide_eq_true hc1; omega
      obtain ⟨h, hx_h⟩ : ∃ y, (hour' o)[i]? = some y := ⟨_, List.getElem?_eq_getElem hlt_i⟩
      refine GC_have (fun w s => (sh.cons (j := 2) (by decide)).head s (by omega)) fun hh => ?_
      obtain ⟨b_h, o_h, hp_h⟩ := hh
      have src_h := sh
      rw [hp_h] at src_h
      have hiP : i * ((minute' o).length * (second' o).length) + (minute' o).length * (second' o).length ≤ (hour' o).length * ((minute' o).length * (second' o).length) := by rw [← Nat.succ_mul]; exact Nat.mul_le_mul_right _ hlt_i
      have hhr := mem_hour' ok h (List.mem_of_getElem? hx_h)
      refine GC_skip ?_
      refine GE_then ?_
      refine GC_seq ?_
      refine GC_block ?_
      refine GC_seq ?_
      refine GC_region ?_
      refine GL_rd rfl (by decide) (rd_indexAddr (e := 3) (n := 1) (by kernel_rfl) (congrArg (fun p => some (Value.slice p _ _)) hp_h) rfl (by omega) (by omega)) ?_
      refine GL_rd rfl (by decide) (rd_load_at (by kernel_rfl) rfl (fun w s => (src_h.cons (by decide)).cell hx_h s)) ?_
      refine GL_rd rfl (by decide) (rd_assign rfl) ?_
      refine GL_nil ?_
      refine GE_then ?_
      refine GC_seq ?_
      refine GC_region ?_
      refine GL_rd rfl (by decide) (rd_fieldAddr (j := 55) (by kernel_rfl) rfl) ?_
      refine GL_rd rfl (by decide) (rd_load 52 rfl rfl (bs.hc.get 55 _ rfl) (by kernel_rfl) (by decide)) ?_
      refine GL_rd rfl (by decide) (rd_len (by kernel_rfl) rfl) ?_
      refine GL_rd rfl (by decide) (rd_move rfl) ?_
      refine GL_nil ?_
      refine GE_then ?_
      refine GC_block ?_
      refine GC_loop (ι := (Nat) × (Option Addr) × (Nat) × (Nat) × (List Value) × (List Int)) (fun | ⟨j, q1, e1, n1, xs1, l1⟩ => (minute' o).length - j) (fun | ⟨j, q1, e1, n1, xs1, l1⟩ => (j ≤ (minute' o).length) ∧ (l1 = l ++ ((minute' o).take j).flatMap (fun m => (second' o).map fun s => h * 3600 + m * 60 + s)) ∧ (n1 = l1.length) ∧ (xs1 = tcells l1) ∧ (n1 ≤ i * ((minute' o).length * (second' o).length) + j * (second' o).length)) (fun | ⟨j, q1, e1, n1, xs1, l1⟩ => [(1, .pointer (some ⟨b1, 0, none⟩)), (2, .pointer (some ⟨b2, 0, none⟩)), (3, .pointer (some ⟨b3, 0, none⟩)), (9, .int .i64 h), (258, .slice x.q54 (hour' o).length x.e54), (259, .int .i64 ((hour' o).length)), (260, .int .i64 i), (265, .slice x.q55 (minute' o).length x.e55), (266, .int .i64 ((minute' o).length)), (267, .int .i64 j)]) (fun | ⟨j, q1, e1, n1, xs1, l1⟩ => ((52, b3) :: (51, b2) :: (50, b1) :: B)) (fun | ⟨j, q1, e1, n1, xs1, l1⟩ => (ky 52 58, .slice q1 n1 e1) :: H) (fun | ⟨j, q1, e1, n1, xs1, l1⟩ => (2, ⟨.slice q1 n1 e1, 44, 2, n1, xs1⟩) :: S) ⟨0, q, e, n, xs, l⟩ ⟨Nat.zero_le _, by simp, hn, hxs, by omega⟩ (fun a k => k.cons rfl (k.cons rfl (k.cons rfl (k.cons rfl (k.cons rfl (k.cons rfl (k.cons rfl (k.cons rfl (k.cons rfl (k.cons rfl (k.nil))))))))))) (fun w s => by exact s.low 53 (((bs.lim.consH (by decide) (by decide)).consS (by decide))) (by repeat (first | exact Agr.refl _ | apply Agr.pick rfl | apply Agr.skip (by decide) | apply Agr.seq (by decide) | apply Agr.put (by decide))) (by repeat (first | exact Agr.refl _ | apply Agr.pick rfl | apply Agr.skip (by decide) | apply Agr.seq (by decide) | apply Agr.put (by decide))) (by repeat (first | exact Agr.refl _ | apply Agr.pick rfl | apply Agr.skip (by decide) | apply Agr.seq (by decide) | apply Agr.put (by decide)))) ?_
      rintro ⟨j, q1, e1, n1, xs1, l1⟩ ⟨hj, hl1, hn1, hxs1, hb1⟩
      show GC _ _ _ _ [(1, .pointer (some ⟨b1, 0, none⟩)), (2, .pointer (some ⟨b2, 0, none⟩)), (3, .pointer (some ⟨b3, 0, none⟩)), (9, .int .i64 h), (258, .slice x.q54 (hour' o).length x.e54), (259, .int .i64 ((hour' o).length)), (260, .int .i64 i), (265, .slice x.q55 (minute' o).length x.e55), (266, .int .i64 ((minute' o).length)), (267, .int .i64 j)] _ _ (((52, b3) :: (51, b2) :: (50, b1) :: B)) ((ky 52 58, .slice q1 n1 e1) :: H) ((2, ⟨.slice q1 n1 e1, 44, 2, n1, xs1⟩) :: S)
      refine GC_seq ?_
      refine GC_region ?_
      refine GL_rd rfl (by decide) (rd_lss rfl rfl) ?_
      refine GL_nil ?_
      refine GE_then ?_
      refine GC_seq ?_
      refine GC_cond rfl (fun hc1 => ?_) (fun hc2 => ?_)
      · skip
        have hlt_j : j < (minute' o).length := by have := of_decide_eq_true hc1; omega
        obtain ⟨m, hx_m⟩ : ∃ y, (minute' o)[j]? = some y := ⟨_, List.getElem?_eq_getElem hlt_j⟩
        refine GC_have (fun w s => (si.cons (j := 2) (by decide)).head s (by omega)) fun hh => ?_
        obtain ⟨b_m, o_m, hp_m⟩ := hh
        have src_m := si
        rw [hp_m] at src_m
        have hjP : j * (second' o).length + (second' o).length ≤ (minute' o).length * (second' o).length := by rw [← Nat.succ_mul]; exact Nat.mul_le_mul_right _ hlt_j
        have hmr := mem_minute' ok m (List.mem_of_getElem? hx_m)
        refine GC_skip ?_
        refine GE_then ?_
        refine GC_seq ?_
        refine GC_block ?_
        refine GC_seq ?_
        refine GC_region ?_
        refine GL_rd rfl (by decide) (rd_indexAddr (e := 3) (n := 1) (by kernel_rfl) (congrArg (fun p => some (Value.slice p _ _)) hp_m) rfl (by omega) (by omega)) ?_
        refine GL_rd rfl (by decide) (rd_load_at (by kernel_rfl) rfl (fun w s => (src_m.cons (by decide)).cell hx_m s)) ?_
        refine GL_rd rfl (by decide) (rd_assign rfl) ?_
        refine GL_nil ?_
        refine GE_then ?_
        refine GC_seq ?_
        refine GC_region ?_
        refine GL_rd rfl (by decide) (rd_fieldAddr (j := 56) (by kernel_rfl) rfl) ?_
        refine GL_rd rfl (by decide) (rd_load 52 rfl rfl (bs.hc.get 56 _ rfl) (by kernel_rfl) (by decide)) ?_
        refine GL_rd rfl (by decide) (rd_len (by kernel_rfl) rfl) ?_
        refine GL_rd rfl (by decide) (rd_move rfl) ?_
        refine GL_nil ?_
        refine GE_then ?_
        refine GC_block ?_
        refine GC_loop (ι := (Nat) × (Option Addr) × (Nat) × (Nat) × (List Value) × (List Int)) (fun | ⟨k, q2, e2, n2, xs2, l2⟩ => (second' o).length - k) (fun | ⟨k, q2, e2, n2, xs2, l2⟩ => (k ≤ (second' o).length) ∧ (l2 = l1 ++ ((second' o).take k).map (fun s => h * 3600 + m * 60 + s)) ∧ (n2 = l2.length) ∧ (xs2 = tcells l2) ∧ (n2 ≤ i * ((minute' o).length * (second' o).length) + j * (second' o).length + k)) (fun | ⟨k, q2, e2, n2, xs2, l2⟩ => [(1, .pointer (some ⟨b1, 0, none⟩)), (2, .pointer (some ⟨b2, 0, none⟩)), (3, .pointer (some ⟨b3, 0, none⟩)), (9, .int .i64 h), (11, .int .i64 m), (258, .slice x.q54 (hour' o).length x.e54), (259, .int .i64 ((hour' o).length)), (260, .int .i64 i), (265, .slice x.q55 (minute' o).length x.e55), (266, .int .i64 ((minute' o).length)), (267, .int .i64 j), (272, .slice x.q56 (second' o).length x.e56), (273, .int .i64 ((second' o).length)), (274, .int .i64 k)]) (fun | ⟨k, q2, e2, n2, xs2, l2⟩ => ((52, b3) :: (51, b2) :: (50, b1) :: B)) (fun | ⟨k, q2, e2, n2, xs2, l2⟩ => (ky 52 58, .slice q2 n2 e2) :: H) (fun | ⟨k, q2, e2, n2, xs2, l2⟩ => (2, ⟨.slice q2 n2 e2, 44, 2, n2, xs2⟩) :: S) ⟨0, q1, e1, n1, xs1, l1⟩ ⟨Nat.zero_le _, by simp, hn1, hxs1, by omega⟩ (fun a k => k.cons rfl (k.cons rfl (k.cons rfl (k.cons rfl (k.cons rfl (k.cons rfl (k.cons rfl (k.cons rfl (k.cons rfl (k.cons rfl (k.cons rfl (k.cons rfl (k.cons rfl (k.cons rfl (k.nil))))))))))))))) (fun w s => by exact s.low 53 (((bs.lim.consH (by decide) (by decide)).consS (by decide))) (by repeat (first | exact Agr.refl _ | apply Agr.pick rfl | apply Agr.skip (by decide) | apply Agr.seq (by decide) | apply Agr.put (by decide))) (by repeat (first | exact Agr.refl _ | apply Agr.pick rfl | apply Agr.skip (by decide) | apply Agr.seq (by decide) | apply Agr.put (by decide))) (by repeat (first | exact Agr.refl _ | apply Agr.pick rfl | apply Agr.skip (by decide) | apply Agr.seq (by decide) | apply Agr.put (by decide)))) ?_
        rintro ⟨k, q2, e2, n2, xs2, l2⟩ ⟨hk, hl2, hn2, hxs2, hb2⟩
        show GC _ _ _ _ [(1, .pointer (some ⟨b1, 0, none⟩)), (2, .pointer (some ⟨b2, 0, none⟩)), (3, .pointer (some ⟨b3, 0, none⟩)), (9, .int .i64 h), (11, .int .i64 m), (258, .slice x.q54 (hour' o).length x.e54), (259, .int .i64 ((hour' o).length)), (260, .int .i64 i), (265, .slice x.q55 (minute' o).length x.e55), (266, .int .i64 ((minute' o).length)), (267, .int .i64 j), (272, .slice x.q56 (second' o).length x.e56), (273, .int .i64 ((second' o).length)), (274, .int .i64 k)] _ _ (((52, b3) :: (51, b2) :: (50, b1) :: B)) ((ky 52 58, .slice q2 n2 e2) :: H) ((2, ⟨.slice q2 n2 e2, 44, 2, n2, xs2⟩) :: S)
        refine GC_seq ?_
        refine GC_region ?_
        refine GL_rd rfl (by decide) (rd_lss rfl rfl) ?_
        refine GL_nil ?_
        refine GE_then ?_
        refine GC_seq ?_
        refine GC_cond rfl (fun hc1 => ?_) (fun hc2 => ?_)
        · skip
          have hlt_k : k < (second' o).length := by have := of_decide_eq_true hc1; omega
          obtain ⟨sc, hx_sc⟩ : ∃ y, (second' o)[k]? = some y := ⟨_, List.getElem?_eq_getElem hlt_k⟩
          refine GC_have (fun w s => (ss.cons (j := 2) (by decide)).head s (by omega)) fun hh => ?_
          obtain ⟨b_sc, o_sc, hp_sc⟩ := hh
          have src_sc := ss
          rw [hp_sc] at src_sc
          have hsr := mem_second' ok sc (List.mem_of_getElem? hx_sc)
          refine GC_skip ?_
          refine GE_then ?_
          refine GC_seq ?_
          refine GC_block ?_
          refine GC_seq ?_
          refine GC_region ?_
          refine GL_rd rfl (by decide) (rd_indexAddr (e := 3) (n := 1) (by kernel_rfl) (congrArg (fun p => some (Value.slice p _ _)) hp_sc) rfl (by omega) (by omega)) ?_
          refine GL_rd rfl (by decide) (rd_load_at (by kernel_rfl) rfl (fun w s => (src_sc.cons (by decide)).cell hx_sc s)) ?_
          refine GL_rd rfl (by decide) (rd_assign rfl) ?_
          refine GL_nil ?_
          refine GE_then ?_
          refine GC_anyS (fun i => i == 12) (by kernel_rfl) ?_
          refine GA_rd (i := 0) rfl rfl (by repeat (first | exact hblind | exact Blind.body | with_reducible apply Blind.then | with_reducible apply Blind.inBlock)) (by kernel_rfl) rfl (by decide) (rd_fieldAddr (j := 58) (by kernel_rfl) rfl) (fun w s => by exact s.noS) ?_
          refine GA_rd (i := 1) rfl rfl (by repeat (first | exact hblind | exact Blind.body | with_reducible apply Blind.then | with_reducible apply Blind.inBlock)) (by kernel_rfl) rfl (by decide) (rd_load 52 rfl rfl rfl (by kernel_rfl) (by decide)) (fun w s => by exact s.noS) ?_
          refine GA_rd (i := 2) rfl rfl (by repeat (first | exact hblind | exact Blind.body | with_reducible apply Blind.then | with_reducible apply Blind.inBlock)) (by kernel_rfl) rfl (by decide) (rd_move rfl) (fun w s => by exact s.noS) ?_
          refine GA_rd (i := 3) rfl rfl (by repeat (first | exact hblind | exact Blind.body | with_reducible apply Blind.then | with_reducible apply Blind.inBlock)) (by kernel_rfl) rfl (by decide) (rd_move rfl) (fun w s => by exact s.noS) ?_
          refine GA_rd (i := 4) rfl rfl (by repeat (first | exact hblind | exact Blind.body | with_reducible apply Blind.then | with_reducible apply Blind.inBlock)) (by kernel_rfl) rfl (by decide) (rd_move rfl) (fun w s => by exact s.noS) ?_
          refine GA_rd (i := 5) rfl rfl (by repeat (first | exact hblind | exact Blind.body | with_reducible apply Blind.then | with_reducible apply Blind.inBlock)) (by kernel_rfl) rfl (by decide) (rd_fieldAddr (j := 39) (by kernel_rfl) rfl) (fun w s => by exact s.noS) ?_
          refine GA_rd (i := 6) rfl rfl (by repeat (first | exact hblind | exact Blind.body | with_reducible apply Blind.then | with_reducible apply Blind.inBlock)) (by kernel_rfl) rfl (by decide) (rd_load2 52 rfl rfl (bs.hc.get 39 _ rfl) (bs.hc.get 40 _ rfl) (by kernel_rfl) (by decide)) (fun w s => by exact s.noS) ?_
          refine GA_one (i := 7) rfl rfl (by kernel_rfl) rfl (at_call_v (by decide) (by kernel_rfl) rfl (fun w_ s_ => location_calls _ _ w_) (GK_C (fun _ w s => by exact s.noS) ?_))
          refine GA_one (i := 8) rfl rfl (by kernel_rfl) rfl (at_call_v (v := .agg #[.int .i64 (h * 3600 + m * 60 + sc), .int .i64 0]) (by decide) (by kernel_rfl) rfl (fun w_ s_ => (mkdate_calls 1 1 1 _ _ _ 0 (by omega) (by omega) (by omega) (by omega) (by omega) (by omega) (by omega) w_).mono fun e_ w2_ h_ => ⟨h_.1.trans (congrArg Ending.returned (by rw [show Cal.dayNo 1 1 1 = 0 from rfl, show (0 : Int) * 86400 + h * 3600 + m * 60 + sc = h * 3600 + m * 60 + sc by omega])), h_.2⟩) (GK_C (fun _ w s => by exact s.noS) ?_))
          refine GA_one (i := 9) rfl rfl (by kernel_rfl) rfl (at_one 60 (e := 44) (sz := 2) (by_ := 16) (zs := [.int .i64 0, .int .i64 0]) (by decide) (by kernel_rfl) rfl (by decide) (by decide) rfl rfl rfl (bs.lim.s 60 (by decide)) (fun bo => GK_C (fun _ w s => by exact s.noS) ?_))
          refine GA_one (i := 10) rfl rfl (by kernel_rfl) rfl (at_append 2 60 (e := 44) (sz := 2) (by_ := 16) (zs := [.int .i64 0, .int .i64 0]) (by decide) (by kernel_rfl) rfl (by decide) rfl rfl rfl rfl ⟨rfl, rfl⟩ ⟨rfl, rfl⟩ one2 (by simp only; omega) (by simp only; omega) (fun q3 e3 => GK_C (fun _ w s => by exact s.noS) ?_))
          refine GA_one (i := 11) rfl rfl (by kernel_rfl) rfl (at_rd (by decide) (rd_fieldAddr (j := 58) (by kernel_rfl) rfl) (GK_C (fun _ w s => by exact s.noS) ?_))
          refine GA_one (i := 12) rfl rfl (by kernel_rfl) rfl (at_store 52 rfl rfl rfl rfl (by kernel_rfl) rfl (by decide) (GK_C (fun h => absurd h (by decide)) ?_))
          refine GA_end (by kernel_rfl) ?_
          refine GE_in ?_
          refine GE_then ?_
          refine GC_region ?_
          first
            | refine GL_rd rfl (by decide) (rd_add_ rfl rfl (by omega)) ?_
            | refine GL_rd rfl (by decide) (rd_add rfl rfl) ?_
          refine GL_rd rfl (by decide) (rd_move rfl) ?_
          refine GL_nil ?_
          refine GE_back ⟨k + 1, q3, e3, n2 + 1, xs2 ++ [.int .i64 (h * 3600 + m * 60 + sc), .int .i64 0], l2 ++ [h * 3600 + m * 60 + sc]⟩ (by simp only; omega) ⟨by omega, by rw [hl2, List.take_add_one, hx_sc]; simp only [Option.toList_some, List.map_append, List.map_cons, List.map_nil, List.append_assoc], by rw [List.length_append, hn2]; rfl, by rw [hxs2]; exact tcells_append _ _, by omega⟩ (fun a k => k.cons rfl (k.cons rfl (k.cons rfl (k.cons rfl (k.cons rfl (k.cons rfl (k.cons rfl (k.cons rfl (k.cons rfl (k.cons rfl (k.cons rfl (k.cons rfl (k.cons rfl (k.cons rfl (k.nil))))))))))))))) (fun w s => by exact s.low 53 (((bs.lim.consH (by decide) (by decide)).consS (by decide))) (by repeat (first | exact Agr.refl _ | apply Agr.pick rfl | apply Agr.skip (by decide) | apply Agr.seq (by decide) | apply Agr.put (by decide))) (by repeat (first | exact Agr.refl _ | apply Agr.pick rfl | apply Agr.skip (by decide) | apply Agr.seq (by decide) | apply Agr.put (by decide))) (by repeat (first | exact Agr.refl _ | apply Agr.pick rfl | apply Agr.skip (by decide) | apply Agr.seq (by decide) | apply Agr.put (by decide))))
        · skip
          have hge_k : ¬ k < (second' o).length := by have := of_decide_eq_false hc2; omega
          obtain rfl : k = (second' o).length := by omega
          refine GC_exit ?_
          refine GE_then_exit ?_
          refine GE_then_exit ?_
          refine GE_in_self ?_
          refine GE_in ?_
          refine GE_then ?_
          refine GC_region ?_
          first
            | refine GL_rd rfl (by decide) (rd_add_ rfl rfl (by omega)) ?_
            | refine GL_rd rfl (by decide) (rd_add rfl rfl) ?_
          refine GL_rd rfl (by decide) (rd_move rfl) ?_
          refine GL_nil ?_
          refine GE_back ⟨j + 1, q2, e2, n2, xs2, l2⟩ (by simp only; omega) ⟨by omega, by rw [hl2, hl1, List.take_add_one, hx_m]; simp only [Option.toList_some, List.flatMap_append, List.flatMap_cons, List.flatMap_nil, List.append_nil, List.append_assoc]; rw [List.take_length], hn2, hxs2, by rw [Nat.succ_mul]; omega⟩ (fun a k => k.cons rfl (k.cons rfl (k.cons rfl (k.cons rfl (k.cons rfl (k.cons rfl (k.cons rfl (k.cons rfl (k.cons rfl (k.cons rfl (k.nil))))))))))) (fun w s => by exact s.low 53 (((bs.lim.consH (by decide) (by decide)).consS (by decide))) (by repeat (first | exact Agr.refl _ | apply Agr.pick rfl | apply Agr.skip (by decide) | apply Agr.seq (by decide) | apply Agr.put (by decide))) (by repeat (first | exact Agr.refl _ | apply Agr.pick rfl | apply Agr.skip (by decide) | apply Agr.seq (by decide) | apply Agr.put (by decide))) (by repeat (first | exact Agr.refl _ | apply Agr.pick rfl | apply Agr.skip (by decide) | apply Agr.seq (by decide) | apply Agr.put (by decide))))
      · skip
        have hge_j : ¬ j < (minute' o).length := by have := of_decide_eq_false hc2; omega
        obtain rfl : j = (minute' o).length := by omega
        refine GC_exit ?_
        refine GE_then_exit ?_
        refine GE_then_exit ?_
        refine GE_in_self ?_
        refine GE_in ?_
        refine GE_then ?_
        refine GC_region ?_
        first
          | refine GL_rd rfl (by decide) (rd_add_ rfl rfl (by omega)) ?_
          | refine GL_rd rfl (by decide) (rd_add rfl rfl) ?_
        refine GL_rd rfl (by decide) (rd_move rfl) ?_
        refine GL_nil ?_
        refine GE_back ⟨i + 1, q1, e1, n1, xs1, l1⟩ (by simp only; omega) ⟨by omega, by rw [hl1, hl, List.take_add_one, hx_h]; simp only [Option.toList_some, List.flatMap_append, List.flatMap_cons, List.flatMap_nil, List.append_nil]; rw [List.take_length], hn1, hxs1, by rw [Nat.succ_mul]; omega⟩ (fun a k => k.cons rfl (k.cons rfl (k.cons rfl (k.cons rfl (k.cons rfl (k.cons rfl (k.nil))))))) (fun w s => by exact s.low 53 (((bs.lim.consH (by decide) (by decide)).consS (by decide))) (by repeat (first | exact Agr.refl _ | apply Agr.pick rfl | apply Agr.skip (by decide) | apply Agr.seq (by decide) | apply Agr.put (by decide))) (by repeat (first | exact Agr.refl _ | apply Agr.pick rfl | apply Agr.skip (by decide) | apply Agr.seq (by decide) | apply Agr.put (by decide))) (by repeat (first | exact Agr.refl _ | apply Agr.pick rfl | apply Agr.skip (by decide) | apply Agr.seq (by decide) | apply Agr.put (by decide))))
    · skip
      have hge_i : ¬ i < (hour' o).length := by have := of_decide_eq_false hc2; omega
      obtain rfl : i = (hour' o).length := by omega
      rw [List.take_length] at hl
      have hraw : l = raw o := hl
      subst hraw
      subst hn hxs
      refine GC_exit ?_
      refine GE_then_exit ?_
      refine GE_then_exit ?_
      refine GE_in_self ?_
      refine GE_then ?_
      refine GC_region ?_
      refine GL_rd rfl (by decide) (rd_fieldAddr (j := 58) (by kernel_rfl) rfl) ?_
      refine GL_rd rfl (by decide) (rd_load 52 rfl rfl rfl (by kernel_rfl) (by decide)) ?_
      refine GL_rd rfl (by decide) ((rd_makeInterface (r := .iface 98 (.slice q (raw o).length e)) rfl (fun w => by kernel_rfl))) ?_
      refine GL_at rfl (at_call (ι := Unit) (fun _ => .tuple #[]) (fun _ => True) (fun _ => _) (fun _ => _) (fun _ => ((2, ⟨.slice q (raw o).length e, 44, 2, (raw o).length, tcells (sortI (raw o))⟩) :: (2, ⟨.slice q (raw o).length e, 44, 2, (raw o).length, tcells (raw o)⟩) :: S)) (by decide) (by kernel_rfl) rfl (fun w_ s_ => (hsort hf4 _ _ _ q e w_ (((bs.lim.consH (by decide) (by decide)).consS (by decide)).mono (by decide)) rfl s_).mono fun e_ w2_ h_ => ⟨(), trivial, h_.1, h_.2⟩) (fun _ _ => ?_))
      refine GL_nil ?_
      refine GE_then ?_
      refine GC_to (L' := [(1, .pointer (some ⟨b1, 0, none⟩)), (2, .pointer (some ⟨b2, 0, none⟩)), (3, .pointer (some ⟨b3, 0, none⟩))]) (fun a k => k.cons rfl (k.cons rfl (k.cons rfl (k.nil)))) (fun w s => s) ?_
      have hts : tset o = sortI (raw o) := by unfold tset; rw [if_pos hf4]
      have htl : (tset o).length = (raw o).length := by rw [hts]; exact List.length_mergeSort _
      refine bu_J (x := { x with tp := q, tc := e }) ok hsort (H := (ky 52 58, .slice q (raw o).length e) :: H) (S := ((2, ⟨.slice q (raw o).length e, 44, 2, (raw o).length, tcells (sortI (raw o))⟩) :: (2, ⟨.slice q (raw o).length e, 44, 2, (raw o).length, tcells (raw o)⟩) :: S)) ⟨bs.ho, (cellsAt.cons (bs.hc.get 0 _ rfl) (cellsAt.cons (bs.hc.get 1 _ rfl) (cellsAt.cons (bs.hc.get 2 _ rfl) (cellsAt.cons (bs.hc.get 3 _ rfl) (cellsAt.cons (bs.hc.get 4 _ rfl) (cellsAt.cons (bs.hc.get 5 _ rfl) (cellsAt.cons (bs.hc.get 6 _ rfl) (cellsAt.cons (bs.hc.get 7 _ rfl) (cellsAt.cons (bs.hc.get 8 _ rfl) (cellsAt.cons (bs.hc.get 9 _ rfl) (cellsAt.cons (bs.hc.get 10 _ rfl) (cellsAt.cons (bs.hc.get 11 _ rfl) (cellsAt.cons (bs.hc.get 12 _ rfl) (cellsAt.cons (bs.hc.get 13 _ rfl) (cellsAt.cons (bs.hc.get 14 _ rfl) (cellsAt.cons (bs.hc.get 15 _ rfl) (cellsAt.cons (bs.hc.get 16 _ rfl) (cellsAt.cons (bs.hc.get 17 _ rfl) (cellsAt.cons (bs.hc.get 18 _ rfl) (cellsAt.cons (bs.hc.get 19 _ rfl) (cellsAt.cons (bs.hc.get 20 _ rfl) (cellsAt.cons (bs.hc.get 21 _ rfl) (cellsAt.cons (bs.hc.get 22 _ rfl) (cellsAt.cons (bs.hc.get 23 _ rfl) (cellsAt.cons (bs.hc.get 24 _ rfl) (cellsAt.cons (bs.hc.get 25 _ rfl) (cellsAt.cons (bs.hc.get 26 _ rfl) (cellsAt.cons (bs.hc.get 27 _ rfl) (cellsAt.cons (bs.hc.get 28 _ rfl) (cellsAt.cons (bs.hc.get 29 _ rfl) (cellsAt.cons (bs.hc.get 30 _ rfl) (cellsAt.cons (bs.hc.get 31 _ rfl) (cellsAt.cons (bs.hc.get 32 _ rfl) (cellsAt.cons (bs.hc.get 33 _ rfl) (cellsAt.cons (bs.hc.get 34 _ rfl) (cellsAt.cons (bs.hc.get 35 _ rfl) (cellsAt.cons (bs.hc.get 36 _ rfl) (cellsAt.cons (bs.hc.get 37 _ rfl) (cellsAt.cons (bs.hc.get 38 _ rfl) (cellsAt.cons (bs.hc.get 39 _ rfl) (cellsAt.cons (bs.hc.get 40 _ rfl) (cellsAt.cons (bs.hc.get 41 _ rfl) (cellsAt.cons (bs.hc.get 42 _ rfl) (cellsAt.cons (bs.hc.get 43 _ rfl) (cellsAt.cons (bs.hc.get 44 _ rfl) (cellsAt.cons (bs.hc.get 45 _ rfl) (cellsAt.cons (bs.hc.get 46 _ rfl) (cellsAt.cons (bs.hc.get 47 _ rfl) (cellsAt.cons (bs.hc.get 48 _ rfl) (cellsAt.cons (bs.hc.get 49 _ rfl) (cellsAt.cons (bs.hc.get 50 _ rfl) (cellsAt.cons (bs.hc.get 51 _ rfl) (cellsAt.cons (bs.hc.get 52 _ rfl) (cellsAt.cons (bs.hc.get 53 _ rfl) (cellsAt.cons (bs.hc.get 54 _ rfl) (cellsAt.cons (bs.hc.get 55 _ rfl) (cellsAt.cons (bs.hc.get 56 _ rfl) (cellsAt.cons (bs.hc.get 57 _ rfl) (cellsAt.cons (show lkp (ky 52 58) _ = some (Value.slice q (tset o).length e) from by rw [htl]; rfl) (cellsAt.cons (bs.hc.get 59 _ rfl) cellsAt.nil)))))))))))))))))))))))))))))))))))))))))))))))))))))))))))), (knwn_mono (by repeat (first | exact Knw.refl _ | apply Knw.cons)) bs.h2), (by repeat (first | exact bs.lim | apply Lim.consH _ (by decide) (by decide) | apply Lim.consS _ (by decide))), bs.limB, (fun k_ h1_ o_ ho_ => Eq.trans (by repeat (first | rfl | rw [lkp_ky_ne (by omega) ho_ (by decide)])) (bs.frH k_ h1_ o_ ho_)), (fun k_ h1_ h2_ => Eq.trans (by repeat (first | rfl | rw [lkp_cons_ne (by omega)])) (bs.frS k_ h1_ h2_))⟩ ((s9.cons (by decide)).cons (by decide)) ((sm.cons (by decide)).cons (by decide)) ((s12.cons (by decide)).cons (by decide)) ((s13.cons (by decide)).cons (by decide)) ((s18.cons (by decide)).cons (by decide)) r12 r13 r14 ((sh.cons (by decide)).cons (by decide)) ((si.cons (by decide)).cons (by decide)) ((ss.cons (by decide)).cons (by decide)) (fun _ => by rw [hts, show (sortI (raw o)).length = (raw o).length from List.length_mergeSort _]; rfl) hR
  · skip
    have hf4 : ¬ o.freq < 4 := of_decide_eq_false hc2
    refine GC_skip ?_
    refine GE_then ?_
    refine GC_to (L' := [(1, .pointer (some ⟨b1, 0, none⟩)), (2, .pointer (some ⟨b2, 0, none⟩)), (3, .pointer (some ⟨b3, 0, none⟩))]) (fun a k => k.cons rfl (k.cons rfl (k.cons rfl (k.nil)))) (fun w s => s) ?_
    have hts : tset o = [] := by unfold tset; rw [if_neg hf4]
    refine bu_J (x := { x with tp := none, tc := 0 }) ok hsort (H := (ky 52 58, .slice none 0 0) :: H) (S := S) ⟨bs.ho, (cellsAt.cons (bs.hc.get 0 _ rfl) (cellsAt.cons (bs.hc.get 1 _ rfl) (cellsAt.cons (bs.hc.get 2 _ rfl) (cellsAt.cons (bs.hc.get 3 _ rfl) (cellsAt.cons (bs.hc.get 4 _ rfl) (cellsAt.cons (bs.hc.get 5 _ rfl) (cellsAt.cons (bs.hc.get 6 _ rfl) (cellsAt.cons (bs.hc.get 7 _ rfl) (cellsAt.cons (bs.hc.get 8 _ rfl) (cellsAt.cons (bs.hc.get 9 _ rfl) (cellsAt.cons (bs.hc.get 10 _ rfl) (cellsAt.cons (bs.hc.get 11 _ rfl) (cellsAt.cons (bs.hc.get 12 _ rfl) (cellsAt.cons (bs.hc.get 13 _ rfl) (cellsAt.cons (bs.hc.get 14 _ rfl) (cellsAt.cons (bs.hc.get 15 _ rfl) (cellsAt.cons (bs.hc.get 16 _ rfl) (cellsAt.cons (bs.hc.get 17 _ rfl) (cellsAt.cons (bs.hc.get 18 _ rfl) (cellsAt.cons (bs.hc.get 19 _ rfl) (cellsAt.cons (bs.hc.get 20 _ rfl) (cellsAt.cons (bs.hc.get 21 _ rfl) (cellsAt.cons (bs.hc.get 22 _ rfl) (cellsAt.cons (bs.hc.get 23 _ rfl) (cellsAt.cons (bs.hc.get 24 _ rfl) (cellsAt.cons (bs.hc.get 25 _ rfl) (cellsAt.cons (bs.hc.get 26 _ rfl) (cellsAt.cons (bs.hc.get 27 _ rfl) (cellsAt.cons (bs.hc.get 28 _ rfl) (cellsAt.cons (bs.hc.get 29 _ rfl) (cellsAt.cons (bs.hc.get 30 _ rfl) (cellsAt.cons (bs.hc.get 31 _ rfl) (cellsAt.cons (bs.hc.get 32 _ rfl) (cellsAt.cons (bs.hc.get 33 _ rfl) (cellsAt.cons (bs.hc.get 34 _ rfl) (cellsAt.cons (bs.hc.get 35 _ rfl) (cellsAt.cons (bs.hc.get 36 _ rfl) (cellsAt.cons (bs.hc.get 37 _ rfl) (cellsAt.cons (bs.hc.get 38 _ rfl) (cellsAt.cons (bs.hc.get 39 _ rfl) (cellsAt.cons (bs.hc.get 40 _ rfl) (cellsAt.cons (bs.hc.get 41 _ rfl) (cellsAt.cons (bs.hc.get 42 _ rfl) (cellsAt.cons (bs.hc.get 43 _ rfl) (cellsAt.cons (bs.hc.get 44 _ rfl) (cellsAt.cons (bs.hc.get 45 _ rfl) (cellsAt.cons (bs.hc.get 46 _ rfl) (cellsAt.cons (bs.hc.get 47 _ rfl) (cellsAt.cons (bs.hc.get 48 _ rfl) (cellsAt.cons (bs.hc.get 49 _ rfl) (cellsAt.cons (bs.hc.get 50 _ rfl) (cellsAt.cons (bs.hc.get 51 _ rfl) (cellsAt.cons (bs.hc.get 52 _ rfl) (cellsAt.cons (bs.hc.get 53 _ rfl) (cellsAt.cons (bs.hc.get 54 _ rfl) (cellsAt.cons (bs.hc.get 55 _ rfl) (cellsAt.cons (bs.hc.get 56 _ rfl) (cellsAt.cons (bs.hc.get 57 _ rfl) (cellsAt.cons (show lkp (ky 52 58) _ = some (Value.slice none (tset o).length 0) from by rw [hts]; rfl) (cellsAt.cons (bs.hc.get 59 _ rfl) cellsAt.nil)))))))))))))))))))))))))))))))))))))))))))))))))))))))))))), (knwn_mono (by repeat (first | exact Knw.refl _ | apply Knw.cons)) bs.h2), (by repeat (first | exact bs.lim | apply Lim.consH _ (by decide) (by decide) | apply Lim.consS _ (by decide))), bs.limB, (fun k_ h1_ o_ ho_ => Eq.trans (by repeat (first | rfl | rw [lkp_ky_ne (by omega) ho_ (by decide)])) (bs.frH k_ h1_ o_ ho_)), (fun k_ h1_ h2_ => Eq.trans (by repeat (first | rfl | rw [lkp_cons_ne (by omega)])) (bs.frS k_ h1_ h2_))⟩ s9 sm s12 s13 s18 r12 r13 r14 sh si ss (fun h => absurd h hf4) hR
end
end Go.Proofs.YtfcklceejjmjeaaGreat
