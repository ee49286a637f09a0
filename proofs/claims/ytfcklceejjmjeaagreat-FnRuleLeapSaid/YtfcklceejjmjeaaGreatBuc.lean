/-
  The rule that the package builds from its options: days of the month and of the week.
-/
import Derived.Test.YtfcklceejjmjeaaGreatProg
import Derived.Test.YtfcklceejjmjeaaGreatMd
import Derived.Test.YtfcklceejjmjeaaGreatFg
import Derived.Test.YtfcklceejjmjeaaGreatBub
set_option linter.unusedVariables false
set_option linter.unusedSimpArgs false
set_option maxRecDepth 100000
set_option maxHeartbeats 8000000
namespace Go.Proofs.YtfcklceejjmjeaaGreat
open Go.RowKit Go.Fr Go.Tab
section
variable {F : Nat → Prop} {w0 : World} {B : List (Nat × Nat)} {H : List (Nat × Value)} {S : List (Nat × Slc)}

open Go.Md
theorem bu_D {R : Ending → World → Prop} {o : Opn} {x : Av} {b1 b2 b3 : Nat} {H0 : List (Nat × Value)} {S0 : List (Nat × Slc)} (ok : OpOk o) (hsort : o.freq < 4 → SortOk F w0 (raw o)) (bs : Bs F w0 B H0 S0 b1 b2 b3 (oc1 o x) (rcC o x) H S) (s9 : SrcT F w0 S 11 (.slice x.p9 (o.setpos).length x.c9) o.setpos) (sm : SrcT F w0 S 16 (.slice x.pm (month' o).length x.cm) (month' o)) (s12 : SrcT F w0 S 11 (.slice x.p12 (o.yday).length x.c12) o.yday) (s13 : SrcT F w0 S 11 (.slice x.p13 (o.weekno).length x.c13) o.weekno) (sw : SrcU F w0 S 21 (.slice x.pw (wday' o).length x.cw) (wday' o)) (s15 : SrcT F w0 S 11 (.slice x.p15 (o.hour).length x.c15) o.hour) (s16 : SrcT F w0 S 11 (.slice x.p16 (o.minute).length x.c16) o.minute) (s17 : SrcT F w0 S 11 (.slice x.p17 (o.second).length x.c17) o.second) (s18 : SrcT F w0 S 11 (.slice x.p18 (o.easter).length x.c18) o.easter) (r12 : lkp 12 S = some ⟨.slice x.q48 (posM (mday' o)).length x.e48, 3, 1, (posM (mday' o)).length, (posM (mday' o)).map (Value.int .i64)⟩) (r13 : lkp 13 S = some ⟨.slice x.q49 (negM (mday' o)).length x.e49, 3, 1, (negM (mday' o)).length, (negM (mday' o)).map (Value.int .i64)⟩)  (hR : ∀ (x : Av) (S' : List (Nat × Slc)), OutF F w0 o x S0 S' → ∀ w, Sees F w0 B H0 S' w → R (.returned (.agg (outC o x).toArray)) w) : GC Go.Proofs.Tryz.prog (Go.Fr.part [1, 1, 1, 1, 1, 1, 1, 1, 1, 1, 1, 1, 1, 1, 1, 1, 1, 1, 1] (Go.Fr.bodyOf Tryz.f17)) (bodyPost Go.Proofs.Tryz.prog Tryz.f17 R) 300 [(1, .pointer (some ⟨b1, 0, none⟩)), (2, .pointer (some ⟨b2, 0, none⟩)), (3, .pointer (some ⟨b3, 0, none⟩))] F w0 ((52, b3) :: (51, b2) :: (50, b1) :: B) H S := by
  have ok_ := ok
  have hwl : (wday' o).length ≤ 1000 := by unfold wday'; split; exact (by simp); exact ok.wday
  refine GC_seq ?_
  refine GC_region ?_
  refine GL_rd rfl (by decide) (rd_fieldAddr (j := 13) (by kernel_rfl) rfl) ?_
  refine GL_rd rfl (by decide) (rd_load 50 rfl rfl (bs.ho.get 13 _ rfl) (by kernel_rfl) (by decide)) ?_
  refine GL_rd rfl (by decide) (rd_fieldAddr (j := 51) (by kernel_rfl) rfl) ?_
  refine GL_at rfl (at_store 52 rfl rfl rfl (bs.hc.get 51 _ rfl) (by kernel_rfl) rfl (by decide) ?_)
  refine GL_nil ?_
  refine GE_then ?_
  refine GC_seq ?_
  refine GC_seq ?_
  refine GC_region ?_
  refine GL_rd rfl (by decide) (rd_fieldAddr (j := 14) (by kernel_rfl) rfl) ?_
  refine GL_rd rfl (by decide) (rd_load 50 rfl rfl (bs.ho.get 14 _ rfl) (by kernel_rfl) (by decide)) ?_
  refine GL_rd rfl (by decide) (rd_len (by kernel_rfl) rfl) ?_
  refine GL_rd rfl (by decide) (rd_move rfl) ?_
  refine GL_nil ?_
  refine GE_then ?_
  refine GC_block ?_
  refine GC_loop (ι := (Nat) × (Option Addr) × (Nat) × (Nat) × (List Value) × (List Int) × (Option Addr) × (Nat) × (Nat) × (List Value) × (List (Int × Int))) (fun | ⟨k, q14, e14, n14, xs14, l14, q15, e15, n15, xs15, l15⟩ => (wday' o).length - k) (fun | ⟨k, q14, e14, n14, xs14, l14, q15, e15, n15, xs15, l15⟩ => (k ≤ (wday' o).length) ∧ (l14 = ((wday' o).take k |>.filter (plainW o.freq)).map Prod.fst) ∧ (n14 = l14.length) ∧ (xs14 = l14.map (Value.int .i64)) ∧ (l15 = ((wday' o).take k).filter fun y => !plainW o.freq y) ∧ (n15 = l15.length) ∧ (xs15 = pcells l15)) (fun | ⟨k, q14, e14, n14, xs14, l14, q15, e15, n15, xs15, l15⟩ => [(1, .pointer (some ⟨b1, 0, none⟩)), (2, .pointer (some ⟨b2, 0, none⟩)), (3, .pointer (some ⟨b3, 0, none⟩)), (167, .slice x.pw (wday' o).length x.cw), (168, .int .i64 ((wday' o).length)), (169, .int .i64 k)]) (fun | ⟨k, q14, e14, n14, xs14, l14, q15, e15, n15, xs15, l15⟩ => ((52, b3) :: (51, b2) :: (50, b1) :: B)) (fun | ⟨k, q14, e14, n14, xs14, l14, q15, e15, n15, xs15, l15⟩ => (ky 52 53, .slice q15 n15 e15) :: (ky 52 52, .slice q14 n14 e14) :: (ky 52 51, .slice x.p13 (o.weekno).length x.c13) :: H) (fun | ⟨k, q14, e14, n14, xs14, l14, q15, e15, n15, xs15, l15⟩ => (15, ⟨.slice q15 n15 e15, 46, 2, n15, xs15⟩) :: (14, ⟨.slice q14 n14 e14, 3, 1, n14, xs14⟩) :: S) ⟨0, none, 0, 0, [], [], none, 0, 0, [], []⟩ ⟨Nat.zero_le _, rfl, rfl, rfl, rfl, rfl, rfl⟩ (fun a k => k.cons rfl (k.cons rfl (k.cons rfl (k.cons rfl (k.cons rfl (k.cons rfl (k.nil))))))) (fun w s => by exact ((s.nilRow 14 3 1).nilRow 15 46 2).low 53 ((by repeat (first | exact bs.lim | apply Lim.consH _ (by decide) (by decide) | apply Lim.consS _ (by decide)))) (by repeat (first | exact Agr.refl _ | apply Agr.pick rfl | apply Agr.skip (by decide) | apply Agr.seq (by decide) | apply Agr.put (by decide))) (by exact Agr.pick (bs.hc.get 53 _ rfl) (Agr.pick (bs.hc.get 52 _ rfl) (Agr.refl _))) (by repeat (first | exact Agr.refl _ | apply Agr.pick rfl | apply Agr.skip (by decide) | apply Agr.seq (by decide) | apply Agr.put (by decide)))) ?_
  rintro ⟨k, q14, e14, n14, xs14, l14, q15, e15, n15, xs15, l15⟩ ⟨hk, hl14, hn14, hx14, hl15, hn15, hx15⟩
  show GC _ _ _ _ [(1, .pointer (some ⟨b1, 0, none⟩)), (2, .pointer (some ⟨b2, 0, none⟩)), (3, .pointer (some ⟨b3, 0, none⟩)), (167, .slice x.pw (wday' o).length x.cw), (168, .int .i64 ((wday' o).length)), (169, .int .i64 k)] _ _ (((52, b3) :: (51, b2) :: (50, b1) :: B)) ((ky 52 53, .slice q15 n15 e15) :: (ky 52 52, .slice q14 n14 e14) :: (ky 52 51, .slice x.p13 (o.weekno).length x.c13) :: H) ((15, ⟨.slice q15 n15 e15, 46, 2, n15, xs15⟩) :: (14, ⟨.slice q14 n14 e14, 3, 1, n14, xs14⟩) :: S)
  refine GC_seq ?_
  refine GC_region ?_
  refine GL_rd rfl (by decide) (rd_lss rfl rfl) ?_
  refine GL_nil ?_
  refine GE_then ?_
  refine GC_seq ?_
  refine GC_cond rfl (fun hc1 => ?_) (fun hc2 => ?_)
  · skip
    have hlt : k < (wday' o).length := by have := of_decide_eq_true hc1; omega
    obtain ⟨y, hy⟩ : ∃ y, (wday' o)[k]? = some y := ⟨_, List.getElem?_eq_getElem hlt⟩
    refine GC_have (fun w s => ((sw.cons (j := 14) (by decide)).cons (j := 15) (by decide)).head s (by omega)) fun hh => ?_
    obtain ⟨by_, oy_, hp_y⟩ := hh
    have src_y := sw
    rw [hp_y] at src_y
    have hn14b : n14 ≤ 1000 := by rw [hn14, hl14, List.length_map]; exact Nat.le_trans (List.length_filter_le _ _) (by rw [List.length_take]; omega)
    have hn15b : n15 ≤ 1000 := by rw [hn15, hl15]; exact Nat.le_trans (List.length_filter_le _ _) (by rw [List.length_take]; omega)
    refine GC_skip ?_
    refine GE_then ?_
    refine GC_seq ?_
    refine GC_block ?_
    refine GC_seq ?_
    refine GC_region ?_
    refine GL_rd rfl (by decide) (rd_indexAddr (e := 46) (n := 2) (by kernel_rfl) (congrArg (fun p => some (Value.slice p _ _)) hp_y) rfl (by omega) (by omega)) ?_
    refine GL_rd rfl (by decide) (rd_loadAgg_at (cs := [.int .i64 y.1, .int .i64 y.2]) (by kernel_rfl) rfl (fun w s => ((src_y.cons (by decide)).cons (by decide)).cell hy s)) ?_
    refine GL_at rfl (at_alloc 53 (cs := [.int .i64 0, .int .i64 0]) (by decide) (by kernel_rfl) (bs.lim.b 53 (by decide)) (fun o ho => by repeat (first | exact bs.lim.h 53 (by decide) o ho | rw [lkp_ky_ne (by decide) ho (by decide)])) (Nat.le_of_ble_eq_true rfl) (fun b1_ hbb1_ => ?_))
    refine GL_at rfl (at_storeAgg 53 rfl rfl rfl rfl (by kernel_rfl) rfl (Nat.le_of_ble_eq_true rfl) ?_)
    refine GL_nil ?_
    refine GE_then ?_
    refine GC_seq ?_
    rcases Decidable.em (y.2 = 0) with hz | hz
    · skip
      refine GC_region ?_
      refine GL_rd rfl (by decide) (rd_fieldAddr (j := 1) (by kernel_rfl) rfl) ?_
      refine GL_rd rfl (by decide) (rd_load 53 rfl rfl rfl (by kernel_rfl) (by decide)) ?_
      refine GL_rd rfl (by decide) ((rd_eql rfl rfl).to (v' := .bool true) (congrArg Value.bool (beq_iff_eq.2 hz))) ?_
      refine GL_rd rfl (by decide) (rd_move rfl) ?_
      refine GL_pass (by decide) rfl rfl (by decide) ?_
      refine GL_pass (by decide) rfl rfl (by decide) ?_
      refine GL_pass (by decide) rfl rfl (by decide) ?_
      refine GL_rd rfl (by decide) (rd_pick rfl rfl rfl) ?_
      refine GL_nil ?_
      refine GE_then ?_
      have hpw : plainW o.freq y = true := by unfold plainW; rw [hz]; rfl
      refine GC_is_true rfl rfl ?_
      refine GC_region ?_
      refine GL_rd rfl (by decide) (rd_fieldAddr (j := 52) (by kernel_rfl) rfl) ?_
      refine GL_rd rfl (by decide) (rd_load 52 rfl rfl rfl (by kernel_rfl) (by decide)) ?_
      refine GL_rd rfl (by decide) (rd_fieldAddr (j := 0) (by kernel_rfl) rfl) ?_
      refine GL_rd rfl (by decide) (rd_load 53 rfl rfl rfl (by kernel_rfl) (by decide)) ?_
      refine GL_at rfl (at_one 60 (e := 3) (sz := 1) (by_ := 8) (zs := [.int .i64 0]) (by decide) (by kernel_rfl) rfl (by decide) (by decide) rfl rfl rfl (bs.lim.s 60 (by decide)) (fun bo => ?_))
      refine GL_at rfl (at_append 14 60 (e := 3) (sz := 1) (by_ := 8) (zs := [.int .i64 0]) (by decide) (by kernel_rfl) rfl (by decide) rfl rfl rfl rfl ⟨rfl, rfl⟩ ⟨rfl, rfl⟩ (ints_one (xs := [y.1])) (by simp only; omega) (by simp only; omega) (fun p' c' => ?_))
      refine GL_rd rfl (by decide) (rd_fieldAddr (j := 52) (by kernel_rfl) rfl) ?_
      refine GL_at rfl (at_store 52 rfl rfl rfl rfl (by kernel_rfl) rfl (by decide) ?_)
      refine GL_nil ?_
      refine GE_in ?_
      refine GE_then ?_
      refine GC_region ?_
      first
        | refine GL_rd rfl (by decide) (rd_add_ rfl rfl (by omega)) ?_
        | refine GL_rd rfl (by decide) (rd_add rfl rfl) ?_
      refine GL_rd rfl (by decide) (rd_move rfl) ?_
      refine GL_nil ?_
      refine GE_back ⟨k + 1, p', c', n14 + 1, xs14 ++ [.int .i64 y.1], l14 ++ [y.1], q15, e15, n15, xs15, l15⟩ (by simp only; omega) ⟨by omega, by rw [hl14, filter_take_succ hy]; simp [hpw], by rw [List.length_append, hn14]; rfl, by rw [hx14]; simp, by rw [hl15, filter_take_succ hy]; simp [hpw], hn15, hx15⟩ (fun a k => k.cons rfl (k.cons rfl (k.cons rfl (k.cons rfl (k.cons rfl (k.cons rfl (k.nil))))))) (fun w s => by exact s.low 53 ((by repeat (first | exact bs.lim | apply Lim.consH _ (by decide) (by decide) | apply Lim.consS _ (by decide)))) (by repeat (first | exact Agr.refl _ | apply Agr.pick rfl | apply Agr.skip (by decide) | apply Agr.seq (by decide) | apply Agr.put (by decide))) (by repeat (first | exact Agr.refl _ | apply Agr.pick rfl | apply Agr.skip (by decide) | apply Agr.seq (by decide) | apply Agr.put (by decide))) (by repeat (first | exact Agr.refl _ | apply Agr.pick rfl | apply Agr.skip (by decide) | apply Agr.seq (by decide) | apply Agr.put (by decide))))
    · skip
      refine GC_region ?_
      refine GL_rd rfl (by decide) (rd_fieldAddr (j := 1) (by kernel_rfl) rfl) ?_
      refine GL_rd rfl (by decide) (rd_load 53 rfl rfl rfl (by kernel_rfl) (by decide)) ?_
      refine GL_rd rfl (by decide) ((rd_eql rfl rfl).to (v' := .bool false) (congrArg Value.bool (beq_eq_false_iff_ne.2 hz))) ?_
      refine GL_rd rfl (by decide) (rd_move rfl) ?_
      refine GL_take rfl rfl ?_
      refine GL_rd rfl (by decide) (rd_fieldAddr (j := 38) (by kernel_rfl) rfl) ?_
      refine GL_take rfl rfl ?_
      refine GL_rd rfl (by decide) (rd_load 52 rfl rfl (bs.hc.get 38 _ rfl) (by kernel_rfl) (by decide)) ?_
      refine GL_take rfl rfl ?_
      refine GL_rd rfl (by decide) (rd_gtr rfl rfl) ?_
      refine GL_rd rfl (by decide) (rd_pick rfl rfl rfl) ?_
      refine GL_nil ?_
      refine GE_then ?_
      refine GC_cond rfl (fun hc1 => ?_) (fun hc2 => ?_)
      · skip
        have hpw : plainW o.freq y = true := by unfold plainW; rw [show decide (1 < o.freq) = true from hc1]; simp
        refine GC_region ?_
        refine GL_rd rfl (by decide) (rd_fieldAddr (j := 52) (by kernel_rfl) rfl) ?_
        refine GL_rd rfl (by decide) (rd_load 52 rfl rfl rfl (by kernel_rfl) (by decide)) ?_
        refine GL_rd rfl (by decide) (rd_fieldAddr (j := 0) (by kernel_rfl) rfl) ?_
        refine GL_rd rfl (by decide) (rd_load 53 rfl rfl rfl (by kernel_rfl) (by decide)) ?_
        refine GL_at rfl (at_one 60 (e := 3) (sz := 1) (by_ := 8) (zs := [.int .i64 0]) (by decide) (by kernel_rfl) rfl (by decide) (by decide) rfl rfl rfl (bs.lim.s 60 (by decide)) (fun bo => ?_))
        refine GL_at rfl (at_append 14 60 (e := 3) (sz := 1) (by_ := 8) (zs := [.int .i64 0]) (by decide) (by kernel_rfl) rfl (by decide) rfl rfl rfl rfl ⟨rfl, rfl⟩ ⟨rfl, rfl⟩ (ints_one (xs := [y.1])) (by simp only; omega) (by simp only; omega) (fun p' c' => ?_))
        refine GL_rd rfl (by decide) (rd_fieldAddr (j := 52) (by kernel_rfl) rfl) ?_
        refine GL_at rfl (at_store 52 rfl rfl rfl rfl (by kernel_rfl) rfl (by decide) ?_)
        refine GL_nil ?_
        refine GE_in ?_
        refine GE_then ?_
        refine GC_region ?_
        first
          | refine GL_rd rfl (by decide) (rd_add_ rfl rfl (by omega)) ?_
          | refine GL_rd rfl (by decide) (rd_add rfl rfl) ?_
        refine GL_rd rfl (by decide) (rd_move rfl) ?_
        refine GL_nil ?_
        refine GE_back ⟨k + 1, p', c', n14 + 1, xs14 ++ [.int .i64 y.1], l14 ++ [y.1], q15, e15, n15, xs15, l15⟩ (by simp only; omega) ⟨by omega, by rw [hl14, filter_take_succ hy]; simp [hpw], by rw [List.length_append, hn14]; rfl, by rw [hx14]; simp, by rw [hl15, filter_take_succ hy]; simp [hpw], hn15, hx15⟩ (fun a k => k.cons rfl (k.cons rfl (k.cons rfl (k.cons rfl (k.cons rfl (k.cons rfl (k.nil))))))) (fun w s => by exact s.low 53 ((by repeat (first | exact bs.lim | apply Lim.consH _ (by decide) (by decide) | apply Lim.consS _ (by decide)))) (by repeat (first | exact Agr.refl _ | apply Agr.pick rfl | apply Agr.skip (by decide) | apply Agr.seq (by decide) | apply Agr.put (by decide))) (by repeat (first | exact Agr.refl _ | apply Agr.pick rfl | apply Agr.skip (by decide) | apply Agr.seq (by decide) | apply Agr.put (by decide))) (by repeat (first | exact Agr.refl _ | apply Agr.pick rfl | apply Agr.skip (by decide) | apply Agr.seq (by decide) | apply Agr.put (by decide))))
      · skip
        have hpw : plainW o.freq y = false := by unfold plainW; rw [show decide (1 < o.freq) = false from hc2, beq_eq_false_iff_ne.2 hz]; rfl
        refine GC_region ?_
        refine GL_rd rfl (by decide) (rd_fieldAddr (j := 53) (by kernel_rfl) rfl) ?_
        refine GL_rd rfl (by decide) (rd_load 52 rfl rfl rfl (by kernel_rfl) (by decide)) ?_
        refine GL_rd rfl (by decide) (rd_load2 53 rfl rfl rfl rfl (by kernel_rfl) (by decide)) ?_
        refine GL_at rfl (at_one 60 (e := 46) (sz := 2) (by_ := 16) (zs := [.int .i64 0, .int .i64 0]) (by decide) (by kernel_rfl) rfl (by decide) (by decide) rfl rfl rfl (bs.lim.s 60 (by decide)) (fun bo => ?_))
        refine GL_at rfl (at_append 15 60 (e := 46) (sz := 2) (by_ := 16) (zs := [.int .i64 0, .int .i64 0]) (by decide) (by kernel_rfl) rfl (by decide) rfl rfl rfl rfl ⟨rfl, rfl⟩ ⟨rfl, rfl⟩ one2 (by simp only; omega) (by simp only; omega) (fun p' c' => ?_))
        refine GL_rd rfl (by decide) (rd_fieldAddr (j := 53) (by kernel_rfl) rfl) ?_
        refine GL_at rfl (at_store 52 rfl rfl rfl rfl (by kernel_rfl) rfl (by decide) ?_)
        refine GL_nil ?_
        refine GE_in ?_
        refine GE_then ?_
        refine GC_region ?_
        first
          | refine GL_rd rfl (by decide) (rd_add_ rfl rfl (by omega)) ?_
          | refine GL_rd rfl (by decide) (rd_add rfl rfl) ?_
        refine GL_rd rfl (by decide) (rd_move rfl) ?_
        refine GL_nil ?_
        refine GE_back ⟨k + 1, q14, e14, n14, xs14, l14, p', c', n15 + 1, xs15 ++ [.int .i64 y.1, .int .i64 y.2], l15 ++ [y]⟩ (by simp only; omega) ⟨by omega, by rw [hl14, filter_take_succ hy]; simp [hpw], hn14, hx14, by rw [hl15, filter_take_succ hy]; simp [hpw], by rw [List.length_append, hn15]; rfl, by rw [hx15]; exact pcells_append _ _⟩ (fun a k => k.cons rfl (k.cons rfl (k.cons rfl (k.cons rfl (k.cons rfl (k.cons rfl (k.nil))))))) (fun w s => by exact s.low 53 ((by repeat (first | exact bs.lim | apply Lim.consH _ (by decide) (by decide) | apply Lim.consS _ (by decide)))) (by repeat (first | exact Agr.refl _ | apply Agr.pick rfl | apply Agr.skip (by decide) | apply Agr.seq (by decide) | apply Agr.put (by decide))) (by repeat (first | exact Agr.refl _ | apply Agr.pick rfl | apply Agr.skip (by decide) | apply Agr.seq (by decide) | apply Agr.put (by decide))) (by repeat (first | exact Agr.refl _ | apply Agr.pick rfl | apply Agr.skip (by decide) | apply Agr.seq (by decide) | apply Agr.put (by decide))))
  · skip
    have hge : ¬ k < (wday' o).length := by have := of_decide_eq_false hc2; omega
    obtain rfl : k = (wday' o).length := by omega
    rw [List.take_length] at hl14 hl15
    subst hl14 hl15 hn14 hn15 hx14 hx15
    refine GC_exit ?_
    refine GE_then_exit ?_
    refine GE_then_exit ?_
    refine GE_in_self ?_
    refine GE_then ?_
    refine GC_to (L' := [(1, .pointer (some ⟨b1, 0, none⟩)), (2, .pointer (some ⟨b2, 0, none⟩)), (3, .pointer (some ⟨b3, 0, none⟩))]) (fun a k => k.cons rfl (k.cons rfl (k.cons rfl (k.nil)))) (fun w s => s) ?_
    refine bu_E (x := { x with q52 := q14, e52 := e14, q53 := q15, e53 := e15 }) ok hsort (H := (ky 52 53, .slice q15 ((wday' o).filter fun y => !plainW o.freq y).length e15) :: (ky 52 52, .slice q14 (((wday' o).filter (plainW o.freq)).map Prod.fst).length e14) :: (ky 52 51, .slice x.p13 (o.weekno).length x.c13) :: H) (S := (15, ⟨.slice q15 ((wday' o).filter fun y => !plainW o.freq y).length e15, 46, 2, ((wday' o).filter fun y => !plainW o.freq y).length, pcells ((wday' o).filter fun y => !plainW o.freq y)⟩) :: (14, ⟨.slice q14 (((wday' o).filter (plainW o.freq)).map Prod.fst).length e14, 3, 1, (((wday' o).filter (plainW o.freq)).map Prod.fst).length, (((wday' o).filter (plainW o.freq)).map Prod.fst).map (Value.int .i64)⟩) :: S) ⟨bs.ho, (cellsAt.cons (bs.hc.get 0 _ rfl) (cellsAt.cons (bs.hc.get 1 _ rfl) (cellsAt.cons (bs.hc.get 2 _ rfl) (cellsAt.cons (bs.hc.get 3 _ rfl) (cellsAt.cons (bs.hc.get 4 _ rfl) (cellsAt.cons (bs.hc.get 5 _ rfl) (cellsAt.cons (bs.hc.get 6 _ rfl) (cellsAt.cons (bs.hc.get 7 _ rfl) (cellsAt.cons (bs.hc.get 8 _ rfl) (cellsAt.cons (bs.hc.get 9 _ rfl) (cellsAt.cons (bs.hc.get 10 _ rfl) (cellsAt.cons (bs.hc.get 11 _ rfl) (cellsAt.cons (bs.hc.get 12 _ rfl) (cellsAt.cons (bs.hc.get 13 _ rfl) (cellsAt.cons (bs.hc.get 14 _ rfl) (cellsAt.cons (bs.hc.get 15 _ rfl) (cellsAt.cons (bs.hc.get 16 _ rfl) (cellsAt.cons (bs.hc.get 17 _ rfl) (cellsAt.cons (bs.hc.get 18 _ rfl) (cellsAt.cons (bs.hc.get 19 _ rfl) (cellsAt.cons (bs.hc.get 20 _ rfl) (cellsAt.cons (bs.hc.get 21 _ rfl) (cellsAt.cons (bs.hc.get 22 _ rfl) (cellsAt.cons (bs.hc.get 23 _ rfl) (cellsAt.cons (bs.hc.get 24 _ rfl) (cellsAt.cons (bs.hc.get 25 _ rfl) (cellsAt.cons (bs.hc.get 26 _ rfl) (cellsAt.cons (bs.hc.get 27 _ rfl) (cellsAt.cons (bs.hc.get 28 _ rfl) (cellsAt.cons (bs.hc.get 29 _ rfl) (cellsAt.cons (bs.hc.get 30 _ rfl) (cellsAt.cons (bs.hc.get 31 _ rfl) (cellsAt.cons (bs.hc.get 32 _ rfl) (cellsAt.cons (bs.hc.get 33 _ rfl) (cellsAt.cons (bs.hc.get 34 _ rfl) (cellsAt.cons (bs.hc.get 35 _ rfl) (cellsAt.cons (bs.hc.get 36 _ rfl) (cellsAt.cons (bs.hc.get 37 _ rfl) (cellsAt.cons (bs.hc.get 38 _ rfl) (cellsAt.cons (bs.hc.get 39 _ rfl) (cellsAt.cons (bs.hc.get 40 _ rfl) (cellsAt.cons (bs.hc.get 41 _ rfl) (cellsAt.cons (bs.hc.get 42 _ rfl) (cellsAt.cons (bs.hc.get 43 _ rfl) (cellsAt.cons (bs.hc.get 44 _ rfl) (cellsAt.cons (bs.hc.get 45 _ rfl) (cellsAt.cons (bs.hc.get 46 _ rfl) (cellsAt.cons (bs.hc.get 47 _ rfl) (cellsAt.cons (bs.hc.get 48 _ rfl) (cellsAt.cons (bs.hc.get 49 _ rfl) (cellsAt.cons (bs.hc.get 50 _ rfl) (cellsAt.cons rfl (cellsAt.cons rfl (cellsAt.cons rfl (cellsAt.cons (bs.hc.get 54 _ rfl) (cellsAt.cons (bs.hc.get 55 _ rfl) (cellsAt.cons (bs.hc.get 56 _ rfl) (cellsAt.cons (bs.hc.get 57 _ rfl) (cellsAt.cons (bs.hc.get 58 _ rfl) (cellsAt.cons (bs.hc.get 59 _ rfl) cellsAt.nil)))))))))))))))))))))))))))))))))))))))))))))))))))))))))))), (knwn_mono (by repeat (first | exact Knw.refl _ | apply Knw.cons)) bs.h2), (by repeat (first | exact bs.lim | apply Lim.consH _ (by decide) (by decide) | apply Lim.consS _ (by decide))), bs.limB, (fun k_ h1_ o_ ho_ => Eq.trans (by repeat (first | rfl | rw [lkp_ky_ne (by omega) ho_ (by decide)])) (bs.frH k_ h1_ o_ ho_)), (fun k_ h1_ h2_ => Eq.trans (by repeat (first | rfl | rw [lkp_cons_ne (by omega)])) (bs.frS k_ h1_ h2_))⟩ ((s9.cons (by decide)).cons (by decide)) ((sm.cons (by decide)).cons (by decide)) ((s12.cons (by decide)).cons (by decide)) ((s13.cons (by decide)).cons (by decide)) ((s15.cons (by decide)).cons (by decide)) ((s16.cons (by decide)).cons (by decide)) ((s17.cons (by decide)).cons (by decide)) ((s18.cons (by decide)).cons (by decide)) r12 r13 rfl hR
theorem bu_C {R : Ending → World → Prop} {o : Opn} {x : Av} {b1 b2 b3 : Nat} {H0 : List (Nat × Value)} {S0 : List (Nat × Slc)} (ok : OpOk o) (hsort : o.freq < 4 → SortOk F w0 (raw o)) (bs : Bs F w0 B H0 S0 b1 b2 b3 (oc1 o x) (rcA o x) H S) (s9 : SrcT F w0 S 11 (.slice x.p9 (o.setpos).length x.c9) o.setpos) (sm : SrcT F w0 S 16 (.slice x.pm (month' o).length x.cm) (month' o)) (sd : SrcT F w0 S 17 (.slice x.pd (mday' o).length x.cd) (mday' o)) (s12 : SrcT F w0 S 11 (.slice x.p12 (o.yday).length x.c12) o.yday) (s13 : SrcT F w0 S 11 (.slice x.p13 (o.weekno).length x.c13) o.weekno) (sw : SrcU F w0 S 21 (.slice x.pw (wday' o).length x.cw) (wday' o)) (s15 : SrcT F w0 S 11 (.slice x.p15 (o.hour).length x.c15) o.hour) (s16 : SrcT F w0 S 11 (.slice x.p16 (o.minute).length x.c16) o.minute) (s17 : SrcT F w0 S 11 (.slice x.p17 (o.second).length x.c17) o.second) (s18 : SrcT F w0 S 11 (.slice x.p18 (o.easter).length x.c18) o.easter)  (hR : ∀ (x : Av) (S' : List (Nat × Slc)), OutF F w0 o x S0 S' → ∀ w, Sees F w0 B H0 S' w → R (.returned (.agg (outC o x).toArray)) w) : GC Go.Proofs.Tryz.prog (Go.Fr.part [1, 1, 1, 1, 1, 1, 1, 1, 1, 1, 1, 1, 1, 1, 1] (Go.Fr.bodyOf Tryz.f17)) (bodyPost Go.Proofs.Tryz.prog Tryz.f17 R) 300 [(1, .pointer (some ⟨b1, 0, none⟩)), (2, .pointer (some ⟨b2, 0, none⟩)), (3, .pointer (some ⟨b3, 0, none⟩))] F w0 ((52, b3) :: (51, b2) :: (50, b1) :: B) H S := by
  have ok_ := ok
  have hml : (mday' o).length ≤ 1000 := by unfold mday'; split; exact (by simp); exact ok.mday
  refine GC_seq ?_
  refine GC_region ?_
  refine GL_rd rfl (by decide) (rd_fieldAddr (j := 10) (by kernel_rfl) rfl) ?_
  refine GL_rd rfl (by decide) (rd_load 50 rfl rfl (bs.ho.get 10 _ rfl) (by kernel_rfl) (by decide)) ?_
  refine GL_rd rfl (by decide) (rd_fieldAddr (j := 47) (by kernel_rfl) rfl) ?_
  refine GL_at rfl (at_store 52 rfl rfl rfl (bs.hc.get 47 _ rfl) (by kernel_rfl) rfl (by decide) ?_)
  refine GL_nil ?_
  refine GE_then ?_
  refine GC_seq ?_
  refine GC_region ?_
  refine GL_rd rfl (by decide) (rd_fieldAddr (j := 12) (by kernel_rfl) rfl) ?_
  refine GL_rd rfl (by decide) (rd_load 50 rfl rfl (bs.ho.get 12 _ rfl) (by kernel_rfl) (by decide)) ?_
  refine GL_rd rfl (by decide) (rd_fieldAddr (j := 50) (by kernel_rfl) rfl) ?_
  refine GL_at rfl (at_store 52 rfl rfl rfl (bs.hc.get 50 _ rfl) (by kernel_rfl) rfl (by decide) ?_)
  refine GL_nil ?_
  refine GE_then ?_
  refine GC_seq ?_
  refine GC_region ?_
  refine GL_rd rfl (by decide) (rd_fieldAddr (j := 18) (by kernel_rfl) rfl) ?_
  refine GL_rd rfl (by decide) (rd_load 50 rfl rfl (bs.ho.get 18 _ rfl) (by kernel_rfl) (by decide)) ?_
  refine GL_rd rfl (by decide) (rd_fieldAddr (j := 57) (by kernel_rfl) rfl) ?_
  refine GL_at rfl (at_store 52 rfl rfl rfl (bs.hc.get 57 _ rfl) (by kernel_rfl) rfl (by decide) ?_)
  refine GL_nil ?_
  refine GE_then ?_
  refine GC_seq ?_
  refine GC_seq ?_
  refine GC_region ?_
  refine GL_rd rfl (by decide) (rd_fieldAddr (j := 11) (by kernel_rfl) rfl) ?_
  refine GL_rd rfl (by decide) (rd_load 50 rfl rfl (bs.ho.get 11 _ rfl) (by kernel_rfl) (by decide)) ?_
  refine GL_rd rfl (by decide) (rd_len (by kernel_rfl) rfl) ?_
  refine GL_rd rfl (by decide) (rd_move rfl) ?_
  refine GL_nil ?_
  refine GE_then ?_
  refine GC_block ?_
  refine GC_loop (ι := (Nat) × (Option Addr) × (Nat) × (Nat) × (List Value) × (List Int) × (Option Addr) × (Nat) × (Nat) × (List Value) × (List Int)) (fun | ⟨k, q12, e12, n12, xs12, l12, q13, e13, n13, xs13, l13⟩ => (mday' o).length - k) (fun | ⟨k, q12, e12, n12, xs12, l12, q13, e13, n13, xs13, l13⟩ => (k ≤ (mday' o).length) ∧ (l12 = posM ((mday' o).take k)) ∧ (n12 = l12.length) ∧ (xs12 = l12.map (Value.int .i64)) ∧ (l13 = negM ((mday' o).take k)) ∧ (n13 = l13.length) ∧ (xs13 = l13.map (Value.int .i64))) (fun | ⟨k, q12, e12, n12, xs12, l12, q13, e13, n13, xs13, l13⟩ => [(1, .pointer (some ⟨b1, 0, none⟩)), (2, .pointer (some ⟨b2, 0, none⟩)), (3, .pointer (some ⟨b3, 0, none⟩)), (140, .slice x.pd (mday' o).length x.cd), (141, .int .i64 ((mday' o).length)), (142, .int .i64 k)]) (fun | ⟨k, q12, e12, n12, xs12, l12, q13, e13, n13, xs13, l13⟩ => ((52, b3) :: (51, b2) :: (50, b1) :: B)) (fun | ⟨k, q12, e12, n12, xs12, l12, q13, e13, n13, xs13, l13⟩ => (ky 52 49, .slice q13 n13 e13) :: (ky 52 48, .slice q12 n12 e12) :: (ky 52 57, .slice x.p18 (o.easter).length x.c18) :: (ky 52 50, .slice x.p12 (o.yday).length x.c12) :: (ky 52 47, .slice x.pm (month' o).length x.cm) :: H) (fun | ⟨k, q12, e12, n12, xs12, l12, q13, e13, n13, xs13, l13⟩ => (13, ⟨.slice q13 n13 e13, 3, 1, n13, xs13⟩) :: (12, ⟨.slice q12 n12 e12, 3, 1, n12, xs12⟩) :: S) ⟨0, none, 0, 0, [], [], none, 0, 0, [], []⟩ ⟨Nat.zero_le _, rfl, rfl, rfl, rfl, rfl, rfl⟩ (fun a k => k.cons rfl (k.cons rfl (k.cons rfl (k.cons rfl (k.cons rfl (k.cons rfl (k.nil))))))) (fun w s => by exact ((s.nilRow 12 3 1).nilRow 13 3 1).low 53 ((by repeat (first | exact bs.lim | apply Lim.consH _ (by decide) (by decide) | apply Lim.consS _ (by decide)))) (by repeat (first | exact Agr.refl _ | apply Agr.pick rfl | apply Agr.skip (by decide) | apply Agr.seq (by decide) | apply Agr.put (by decide))) (by exact Agr.pick (bs.hc.get 49 _ rfl) (Agr.pick (bs.hc.get 48 _ rfl) (Agr.refl _))) (by repeat (first | exact Agr.refl _ | apply Agr.pick rfl | apply Agr.skip (by decide) | apply Agr.seq (by decide) | apply Agr.put (by decide)))) ?_
  rintro ⟨k, q12, e12, n12, xs12, l12, q13, e13, n13, xs13, l13⟩ ⟨hk, hl12, hn12, hx12, hl13, hn13, hx13⟩
  show GC _ _ _ _ [(1, .pointer (some ⟨b1, 0, none⟩)), (2, .pointer (some ⟨b2, 0, none⟩)), (3, .pointer (some ⟨b3, 0, none⟩)), (140, .slice x.pd (mday' o).length x.cd), (141, .int .i64 ((mday' o).length)), (142, .int .i64 k)] _ _ (((52, b3) :: (51, b2) :: (50, b1) :: B)) ((ky 52 49, .slice q13 n13 e13) :: (ky 52 48, .slice q12 n12 e12) :: (ky 52 57, .slice x.p18 (o.easter).length x.c18) :: (ky 52 50, .slice x.p12 (o.yday).length x.c12) :: (ky 52 47, .slice x.pm (month' o).length x.cm) :: H) ((13, ⟨.slice q13 n13 e13, 3, 1, n13, xs13⟩) :: (12, ⟨.slice q12 n12 e12, 3, 1, n12, xs12⟩) :: S)
  refine GC_seq ?_
  refine GC_region ?_
  refine GL_rd rfl (by decide) (rd_lss rfl rfl) ?_
  refine GL_nil ?_
  refine GE_then ?_
  refine GC_seq ?_
  refine GC_cond rfl (fun hc1 => ?_) (fun hc2 => ?_)
  · skip
    have hlt : k < (mday' o).length := by have := of_decide_eq_true hc1; omega
    obtain ⟨y, hy⟩ : ∃ y, (mday' o)[k]? = some y := ⟨_, List.getElem?_eq_getElem hlt⟩
    refine GC_have (fun w s => ((sd.cons (j := 12) (by decide)).cons (j := 13) (by decide)).head s (by omega)) fun hh => ?_
    obtain ⟨by_, oy_, hp_y⟩ := hh
    have src_y := sd
    rw [hp_y] at src_y
    have hn12b : n12 ≤ 1000 := by rw [hn12, hl12]; unfold posM; exact Nat.le_trans (List.length_filter_le _ _) (by rw [List.length_take]; omega)
    have hn13b : n13 ≤ 1000 := by rw [hn13, hl13]; unfold negM; exact Nat.le_trans (List.length_filter_le _ _) (by rw [List.length_take]; omega)
    refine GC_skip ?_
    refine GE_then ?_
    refine GC_seq ?_
    refine GC_block ?_
    refine GC_seq ?_
    refine GC_region ?_
    refine GL_rd rfl (by decide) (rd_indexAddr (e := 3) (n := 1) (by kernel_rfl) (congrArg (fun p => some (Value.slice p _ _)) hp_y) rfl (by omega) (by omega)) ?_
    refine GL_rd rfl (by decide) (rd_load_at (by kernel_rfl) rfl (fun w s => ((src_y.cons (by decide)).cons (by decide)).cell hy s)) ?_
    refine GL_rd rfl (by decide) (rd_assign rfl) ?_
    refine GL_nil ?_
    refine GE_then ?_
    refine GC_seq ?_
    refine GC_region ?_
    refine GL_rd rfl (by decide) (rd_move rfl) ?_
    refine GL_rd rfl (by decide) (rd_gtr rfl rfl) ?_
    refine GL_nil ?_
    refine GE_then ?_
    refine GC_cond rfl (fun hc1 => ?_) (fun hc2 => ?_)
    · skip
      have hp1 : decide (0 < y) = true := hc1
      have hp2 : decide (y < 0) = false := by have := of_decide_eq_true hc1; exact decide_eq_false (by omega)
      refine GC_region ?_
      refine GL_rd rfl (by decide) (rd_fieldAddr (j := 48) (by kernel_rfl) rfl) ?_
      refine GL_rd rfl (by decide) (rd_load 52 rfl rfl rfl (by kernel_rfl) (by decide)) ?_
      refine GL_rd rfl (by decide) (rd_move rfl) ?_
      refine GL_at rfl (at_one 60 (e := 3) (sz := 1) (by_ := 8) (zs := [.int .i64 0]) (by decide) (by kernel_rfl) rfl (by decide) (by decide) rfl rfl rfl (bs.lim.s 60 (by decide)) (fun bo => ?_))
      refine GL_at rfl (at_append 12 60 (e := 3) (sz := 1) (by_ := 8) (zs := [.int .i64 0]) (by decide) (by kernel_rfl) rfl (by decide) rfl rfl rfl rfl ⟨rfl, rfl⟩ ⟨rfl, rfl⟩ (ints_one (xs := [y])) (by simp only; omega) (by simp only; omega) (fun p' c' => ?_))
      refine GL_rd rfl (by decide) (rd_fieldAddr (j := 48) (by kernel_rfl) rfl) ?_
      refine GL_at rfl (at_store 52 rfl rfl rfl rfl (by kernel_rfl) rfl (by decide) ?_)
      refine GL_nil ?_
      refine GE_in ?_
      refine GE_then ?_
      refine GC_region ?_
      first
        | refine GL_rd rfl (by decide) (rd_add_ rfl rfl (by omega)) ?_
        | refine GL_rd rfl (by decide) (rd_add rfl rfl) ?_
      refine GL_rd rfl (by decide) (rd_move rfl) ?_
      refine GL_nil ?_
      refine GE_back ⟨k + 1, p', c', n12 + 1, xs12 ++ [.int .i64 y], l12 ++ [y], q13, e13, n13, xs13, l13⟩ (by simp only; omega) ⟨by omega, by rw [hl12]; unfold posM; rw [filter_take_succ hy]; simp [hp1], by rw [List.length_append, hn12]; rfl, by rw [hx12]; simp, by rw [hl13]; unfold negM; rw [filter_take_succ hy]; simp [hp2], hn13, hx13⟩ (fun a k => k.cons rfl (k.cons rfl (k.cons rfl (k.cons rfl (k.cons rfl (k.cons rfl (k.nil))))))) (fun w s => by exact s.low 53 ((by repeat (first | exact bs.lim | apply Lim.consH _ (by decide) (by decide) | apply Lim.consS _ (by decide)))) (by repeat (first | exact Agr.refl _ | apply Agr.pick rfl | apply Agr.skip (by decide) | apply Agr.seq (by decide) | apply Agr.put (by decide))) (by repeat (first | exact Agr.refl _ | apply Agr.pick rfl | apply Agr.skip (by decide) | apply Agr.seq (by decide) | apply Agr.put (by decide))) (by repeat (first | exact Agr.refl _ | apply Agr.pick rfl | apply Agr.skip (by decide) | apply Agr.seq (by decide) | apply Agr.put (by decide))))
    · skip
      have hp1 : decide (0 < y) = false := hc2
      refine GC_seq ?_
      refine GC_region ?_
      refine GL_rd rfl (by decide) (rd_move rfl) ?_
      refine GL_rd rfl (by decide) (rd_lss rfl rfl) ?_
      refine GL_nil ?_
      refine GE_then ?_
      refine GC_cond rfl (fun hc1 => ?_) (fun hc2 => ?_)
      · skip
        have hp2 : decide (y < 0) = true := hc1
        refine GC_region ?_
        refine GL_rd rfl (by decide) (rd_fieldAddr (j := 49) (by kernel_rfl) rfl) ?_
        refine GL_rd rfl (by decide) (rd_load 52 rfl rfl rfl (by kernel_rfl) (by decide)) ?_
        refine GL_rd rfl (by decide) (rd_move rfl) ?_
        refine GL_at rfl (at_one 60 (e := 3) (sz := 1) (by_ := 8) (zs := [.int .i64 0]) (by decide) (by kernel_rfl) rfl (by decide) (by decide) rfl rfl rfl (bs.lim.s 60 (by decide)) (fun bo => ?_))
        refine GL_at rfl (at_append 13 60 (e := 3) (sz := 1) (by_ := 8) (zs := [.int .i64 0]) (by decide) (by kernel_rfl) rfl (by decide) rfl rfl rfl rfl ⟨rfl, rfl⟩ ⟨rfl, rfl⟩ (ints_one (xs := [y])) (by simp only; omega) (by simp only; omega) (fun p' c' => ?_))
        refine GL_rd rfl (by decide) (rd_fieldAddr (j := 49) (by kernel_rfl) rfl) ?_
        refine GL_at rfl (at_store 52 rfl rfl rfl rfl (by kernel_rfl) rfl (by decide) ?_)
        refine GL_nil ?_
        refine GE_in ?_
        refine GE_then ?_
        refine GC_region ?_
        first
          | refine GL_rd rfl (by decide) (rd_add_ rfl rfl (by omega)) ?_
          | refine GL_rd rfl (by decide) (rd_add rfl rfl) ?_
        refine GL_rd rfl (by decide) (rd_move rfl) ?_
        refine GL_nil ?_
        refine GE_back ⟨k + 1, q12, e12, n12, xs12, l12, p', c', n13 + 1, xs13 ++ [.int .i64 y], l13 ++ [y]⟩ (by simp only; omega) ⟨by omega, by rw [hl12]; unfold posM; rw [filter_take_succ hy]; simp [hp1], hn12, hx12, by rw [hl13]; unfold negM; rw [filter_take_succ hy]; simp [hp2], by rw [List.length_append, hn13]; rfl, by rw [hx13]; simp⟩ (fun a k => k.cons rfl (k.cons rfl (k.cons rfl (k.cons rfl (k.cons rfl (k.cons rfl (k.nil))))))) (fun w s => by exact s.low 53 ((by repeat (first | exact bs.lim | apply Lim.consH _ (by decide) (by decide) | apply Lim.consS _ (by decide)))) (by repeat (first | exact Agr.refl _ | apply Agr.pick rfl | apply Agr.skip (by decide) | apply Agr.seq (by decide) | apply Agr.put (by decide))) (by repeat (first | exact Agr.refl _ | apply Agr.pick rfl | apply Agr.skip (by decide) | apply Agr.seq (by decide) | apply Agr.put (by decide))) (by repeat (first | exact Agr.refl _ | apply Agr.pick rfl | apply Agr.skip (by decide) | apply Agr.seq (by decide) | apply Agr.put (by decide))))
      · skip
        have hp2 : decide (y < 0) = false := hc2
        refine GC_skip ?_
        refine GE_in ?_
        refine GE_then ?_
        refine GC_region ?_
        first
          | refine GL_rd rfl (by decide) (rd_add_ rfl rfl (by omega)) ?_
          | refine GL_rd rfl (by decide) (rd_add rfl rfl) ?_
        refine GL_rd rfl (by decide) (rd_move rfl) ?_
        refine GL_nil ?_
        refine GE_back ⟨k + 1, q12, e12, n12, xs12, l12, q13, e13, n13, xs13, l13⟩ (by simp only; omega) ⟨by omega, by rw [hl12]; unfold posM; rw [filter_take_succ hy]; simp [hp1], hn12, hx12, by rw [hl13]; unfold negM; rw [filter_take_succ hy]; simp [hp2], hn13, hx13⟩ (fun a k => k.cons rfl (k.cons rfl (k.cons rfl (k.cons rfl (k.cons rfl (k.cons rfl (k.nil))))))) (fun w s => by exact s.low 53 ((by repeat (first | exact bs.lim | apply Lim.consH _ (by decide) (by decide) | apply Lim.consS _ (by decide)))) (by repeat (first | exact Agr.refl _ | apply Agr.pick rfl | apply Agr.skip (by decide) | apply Agr.seq (by decide) | apply Agr.put (by decide))) (by repeat (first | exact Agr.refl _ | apply Agr.pick rfl | apply Agr.skip (by decide) | apply Agr.seq (by decide) | apply Agr.put (by decide))) (by repeat (first | exact Agr.refl _ | apply Agr.pick rfl | apply Agr.skip (by decide) | apply Agr.seq (by decide) | apply Agr.put (by decide))))
  · skip
    have hge : ¬ k < (mday' o).length := by have := of_decide_eq_false hc2; omega
    obtain rfl : k = (mday' o).length := by omega
    rw [List.take_length] at hl12 hl13
    subst hl12 hl13 hn12 hn13 hx12 hx13
    refine GC_exit ?_
    refine GE_then_exit ?_
    refine GE_then_exit ?_
    refine GE_in_self ?_
    refine GE_then ?_
    refine GC_to (L' := [(1, .pointer (some ⟨b1, 0, none⟩)), (2, .pointer (some ⟨b2, 0, none⟩)), (3, .pointer (some ⟨b3, 0, none⟩))]) (fun a k => k.cons rfl (k.cons rfl (k.cons rfl (k.nil)))) (fun w s => s) ?_
    refine bu_D (x := { x with q48 := q12, e48 := e12, q49 := q13, e49 := e13 }) ok hsort (H := (ky 52 49, .slice q13 (negM (mday' o)).length e13) :: (ky 52 48, .slice q12 (posM (mday' o)).length e12) :: (ky 52 57, .slice x.p18 (o.easter).length x.c18) :: (ky 52 50, .slice x.p12 (o.yday).length x.c12) :: (ky 52 47, .slice x.pm (month' o).length x.cm) :: H) (S := (13, ⟨.slice q13 (negM (mday' o)).length e13, 3, 1, (negM (mday' o)).length, (negM (mday' o)).map (Value.int .i64)⟩) :: (12, ⟨.slice q12 (posM (mday' o)).length e12, 3, 1, (posM (mday' o)).length, (posM (mday' o)).map (Value.int .i64)⟩) :: S) ⟨bs.ho, (cellsAt.cons (bs.hc.get 0 _ rfl) (cellsAt.cons (bs.hc.get 1 _ rfl) (cellsAt.cons (bs.hc.get 2 _ rfl) (cellsAt.cons (bs.hc.get 3 _ rfl) (cellsAt.cons (bs.hc.get 4 _ rfl) (cellsAt.cons (bs.hc.get 5 _ rfl) (cellsAt.cons (bs.hc.get 6 _ rfl) (cellsAt.cons (bs.hc.get 7 _ rfl) (cellsAt.cons (bs.hc.get 8 _ rfl) (cellsAt.cons (bs.hc.get 9 _ rfl) (cellsAt.cons (bs.hc.get 10 _ rfl) (cellsAt.cons (bs.hc.get 11 _ rfl) (cellsAt.cons (bs.hc.get 12 _ rfl) (cellsAt.cons (bs.hc.get 13 _ rfl) (cellsAt.cons (bs.hc.get 14 _ rfl) (cellsAt.cons (bs.hc.get 15 _ rfl) (cellsAt.cons (bs.hc.get 16 _ rfl) (cellsAt.cons (bs.hc.get 17 _ rfl) (cellsAt.cons (bs.hc.get 18 _ rfl) (cellsAt.cons (bs.hc.get 19 _ rfl) (cellsAt.cons (bs.hc.get 20 _ rfl) (cellsAt.cons (bs.hc.get 21 _ rfl) (cellsAt.cons (bs.hc.get 22 _ rfl) (cellsAt.cons (bs.hc.get 23 _ rfl) (cellsAt.cons (bs.hc.get 24 _ rfl) (cellsAt.cons (bs.hc.get 25 _ rfl) (cellsAt.cons (bs.hc.get 26 _ rfl) (cellsAt.cons (bs.hc.get 27 _ rfl) (cellsAt.cons (bs.hc.get 28 _ rfl) (cellsAt.cons (bs.hc.get 29 _ rfl) (cellsAt.cons (bs.hc.get 30 _ rfl) (cellsAt.cons (bs.hc.get 31 _ rfl) (cellsAt.cons (bs.hc.get 32 _ rfl) (cellsAt.cons (bs.hc.get 33 _ rfl) (cellsAt.cons (bs.hc.get 34 _ rfl) (cellsAt.cons (bs.hc.get 35 _ rfl) (cellsAt.cons (bs.hc.get 36 _ rfl) (cellsAt.cons (bs.hc.get 37 _ rfl) (cellsAt.cons (bs.hc.get 38 _ rfl) (cellsAt.cons (bs.hc.get 39 _ rfl) (cellsAt.cons (bs.hc.get 40 _ rfl) (cellsAt.cons (bs.hc.get 41 _ rfl) (cellsAt.cons (bs.hc.get 42 _ rfl) (cellsAt.cons (bs.hc.get 43 _ rfl) (cellsAt.cons (bs.hc.get 44 _ rfl) (cellsAt.cons (bs.hc.get 45 _ rfl) (cellsAt.cons (bs.hc.get 46 _ rfl) (cellsAt.cons rfl (cellsAt.cons rfl (cellsAt.cons rfl (cellsAt.cons rfl (cellsAt.cons (bs.hc.get 51 _ rfl) (cellsAt.cons (bs.hc.get 52 _ rfl) (cellsAt.cons (bs.hc.get 53 _ rfl) (cellsAt.cons (bs.hc.get 54 _ rfl) (cellsAt.cons (bs.hc.get 55 _ rfl) (cellsAt.cons (bs.hc.get 56 _ rfl) (cellsAt.cons rfl (cellsAt.cons (bs.hc.get 58 _ rfl) (cellsAt.cons (bs.hc.get 59 _ rfl) cellsAt.nil)))))))))))))))))))))))))))))))))))))))))))))))))))))))))))), (knwn_mono (by repeat (first | exact Knw.refl _ | apply Knw.cons)) bs.h2), (by repeat (first | exact bs.lim | apply Lim.consH _ (by decide) (by decide) | apply Lim.consS _ (by decide))), bs.limB, (fun k_ h1_ o_ ho_ => Eq.trans (by repeat (first | rfl | rw [lkp_ky_ne (by omega) ho_ (by decide)])) (bs.frH k_ h1_ o_ ho_)), (fun k_ h1_ h2_ => Eq.trans (by repeat (first | rfl | rw [lkp_cons_ne (by omega)])) (bs.frS k_ h1_ h2_))⟩ ((s9.cons (by decide)).cons (by decide)) ((sm.cons (by decide)).cons (by decide)) ((s12.cons (by decide)).cons (by decide)) ((s13.cons (by decide)).cons (by decide)) ((sw.cons (by decide)).cons (by decide)) ((s15.cons (by decide)).cons (by decide)) ((s16.cons (by decide)).cons (by decide)) ((s17.cons (by decide)).cons (by decide)) ((s18.cons (by decide)).cons (by decide)) rfl rfl hR
end
end Go.Proofs.YtfcklceejjmjeaaGreat
