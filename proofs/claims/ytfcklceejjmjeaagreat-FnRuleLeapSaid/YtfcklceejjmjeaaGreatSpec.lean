/-
  What the reference's functions on the calendar give; two lists held side by side; a sort of one.
-/
import Derived.Test.YtfcklceejjmjeaaGreatProg
import Derived.Test.YtfcklceejjmjeaaGreatMd
import Derived.Test.YtfcklceejjmjeaaGreatFg
import Derived.Test.YtfcklceejjmjeaaGreatFirst
set_option linter.unusedVariables false
set_option linter.unusedSimpArgs false
set_option maxRecDepth 100000
set_option maxHeartbeats 8000000
namespace Go.Proofs.YtfcklceejjmjeaaGreat
open Go.RowKit Go.Fr Go.Tab
section
variable {F : Nat → Prop} {w0 : World} {B : List (Nat × Nat)} {H : List (Nat × Value)} {S : List (Nat × Slc)}

open Go.Md
theorem sleap_no (y : Int) (h0 : 0 ≤ y) (h : y % 4 ≠ 0) (w : World) : Calls Go.Proofs.Tryz.prog 4 #[.int .i64 y] w fun e w' => e = .returned (.bool false) ∧ Below w.heap.size w w' := by
  refine calls_GC (args := [.int .i64 y]) (L := [(0, .int .i64 y)]) (N := 16) Tryz.func4 rfl rfl (Nat.le_of_ble_eq_true rfl) rfl (Sees.start (fun _ => False) w) ?_
  refine GC_seq ?_
  refine GC_region ?_
  refine GL_rd rfl (by decide) (rd_assign rfl) ?_
  refine GL_nil ?_
  refine GE_then ?_
  refine GC_seq ?_
  refine GC_region ?_
  refine GL_rd rfl (by decide) (rd_move rfl) ?_
  first
    | refine GL_rd rfl (by decide) (rd_rem_ rfl rfl (by omega) (by omega)) ?_
    | refine GL_rd rfl (by decide) (rd_rem rfl rfl (by omega)) ?_
  refine GL_rd rfl (by decide) ((rd_eql rfl rfl).to (congrArg Value.bool (b_ne h))) ?_
  refine GL_rd rfl (by decide) (rd_move rfl) ?_
  refine GL_pass (by decide) rfl rfl (by decide) ?_
  refine GL_pass (by decide) rfl rfl (by decide) ?_
  refine GL_pass (by decide) rfl rfl (by decide) ?_
  refine GL_pass (by decide) rfl rfl (by decide) ?_
  refine GL_passu (by decide) rfl rfl ?_
  refine GL_passu (by decide) rfl rfl ?_
  refine GL_passu (by decide) rfl rfl ?_
  refine GL_pass (by decide) rfl rfl (by decide) ?_
  refine GL_rd rfl (by decide) (rd_pick rfl rfl rfl) ?_
  refine GL_rd rfl (by decide) (rd_assign rfl) ?_
  refine GL_nil ?_
  refine GE_then ?_
  refine GC_ret ?_
  refine GE_ret1 (.inl rfl) rfl (res_tmp rfl) fun w_ s_ => ⟨?_, s_.toBelow⟩
  first | rfl | (simp; done)
theorem sleap_yes (y : Int) (h0 : 0 ≤ y) (h : y % 4 = 0) (h1 : y % 100 ≠ 0) (w : World) : Calls Go.Proofs.Tryz.prog 4 #[.int .i64 y] w fun e w' => e = .returned (.bool true) ∧ Below w.heap.size w w' := by
  refine calls_GC (args := [.int .i64 y]) (L := [(0, .int .i64 y)]) (N := 16) Tryz.func4 rfl rfl (Nat.le_of_ble_eq_true rfl) rfl (Sees.start (fun _ => False) w) ?_
  refine GC_seq ?_
  refine GC_region ?_
  refine GL_rd rfl (by decide) (rd_assign rfl) ?_
  refine GL_nil ?_
  refine GE_then ?_
  refine GC_seq ?_
  refine GC_region ?_
  refine GL_rd rfl (by decide) (rd_move rfl) ?_
  first
    | refine GL_rd rfl (by decide) (rd_rem_ rfl rfl (by omega) (by omega)) ?_
    | refine GL_rd rfl (by decide) (rd_rem rfl rfl (by omega)) ?_
  refine GL_rd rfl (by decide) ((rd_eql rfl rfl).to (congrArg Value.bool (b_eq h))) ?_
  refine GL_rd rfl (by decide) (rd_move rfl) ?_
  refine GL_take rfl rfl ?_
  refine GL_rd rfl (by decide) (rd_move rfl) ?_
  refine GL_take rfl rfl ?_
  first
    | refine GL_rd rfl (by decide) (rd_rem_ rfl rfl (by omega) (by omega)) ?_
    | refine GL_rd rfl (by decide) (rd_rem rfl rfl (by omega)) ?_
  refine GL_take rfl rfl ?_
  refine GL_rd rfl (by decide) ((rd_neq rfl rfl).to (congrArg Value.bool (n_ne h1))) ?_
  refine GL_take rfl rfl ?_
  refine GL_rd rfl (by decide) (rd_move rfl) ?_
  refine GL_pass (by decide) rfl rfl (by decide) ?_
  refine GL_pass (by decide) rfl rfl (by decide) ?_
  refine GL_pass (by decide) rfl rfl (by decide) ?_
  refine GL_take rfl rfl ?_
  refine GL_rd rfl (by decide) (rd_pick rfl rfl rfl) ?_
  refine GL_rd rfl (by decide) (rd_pick rfl rfl rfl) ?_
  refine GL_rd rfl (by decide) (rd_assign rfl) ?_
  refine GL_nil ?_
  refine GE_then ?_
  refine GC_ret ?_
  refine GE_ret1 (.inl rfl) rfl (res_tmp rfl) fun w_ s_ => ⟨?_, s_.toBelow⟩
  first | rfl | (simp; done)
theorem sleap_400 (y : Int) (h0 : 0 ≤ y) (h : y % 4 = 0) (h1 : y % 100 = 0) (w : World) : Calls Go.Proofs.Tryz.prog 4 #[.int .i64 y] w fun e w' => e = .returned (.bool (y % 400 == 0)) ∧ Below w.heap.size w w' := by
  refine calls_GC (args := [.int .i64 y]) (L := [(0, .int .i64 y)]) (N := 16) Tryz.func4 rfl rfl (Nat.le_of_ble_eq_true rfl) rfl (Sees.start (fun _ => False) w) ?_
  refine GC_seq ?_
  refine GC_region ?_
  refine GL_rd rfl (by decide) (rd_assign rfl) ?_
  refine GL_nil ?_
  refine GE_then ?_
  refine GC_seq ?_
  refine GC_region ?_
  refine GL_rd rfl (by decide) (rd_move rfl) ?_
  first
    | refine GL_rd rfl (by decide) (rd_rem_ rfl rfl (by omega) (by omega)) ?_
    | refine GL_rd rfl (by decide) (rd_rem rfl rfl (by omega)) ?_
  refine GL_rd rfl (by decide) ((rd_eql rfl rfl).to (congrArg Value.bool (b_eq h))) ?_
  refine GL_rd rfl (by decide) (rd_move rfl) ?_
  refine GL_take rfl rfl ?_
  refine GL_rd rfl (by decide) (rd_move rfl) ?_
  refine GL_take rfl rfl ?_
  first
    | refine GL_rd rfl (by decide) (rd_rem_ rfl rfl (by omega) (by omega)) ?_
    | refine GL_rd rfl (by decide) (rd_rem rfl rfl (by omega)) ?_
  refine GL_take rfl rfl ?_
  refine GL_rd rfl (by decide) ((rd_neq rfl rfl).to (congrArg Value.bool (n_eq h1))) ?_
  refine GL_take rfl rfl ?_
  refine GL_rd rfl (by decide) (rd_move rfl) ?_
  refine GL_take rfl rfl ?_
  refine GL_rd rfl (by decide) (rd_move rfl) ?_
  refine GL_take rfl rfl ?_
  first
    | refine GL_rd rfl (by decide) (rd_rem_ rfl rfl (by omega) (by omega)) ?_
    | refine GL_rd rfl (by decide) (rd_rem rfl rfl (by omega)) ?_
  refine GL_take rfl rfl ?_
  refine GL_rd rfl (by decide) (rd_eql rfl rfl) ?_
  refine GL_take rfl rfl ?_
  refine GL_rd rfl (by decide) (rd_pick rfl rfl rfl) ?_
  refine GL_rd rfl (by decide) (rd_pick rfl rfl rfl) ?_
  refine GL_rd rfl (by decide) (rd_assign rfl) ?_
  refine GL_nil ?_
  refine GE_then ?_
  refine GC_ret ?_
  refine GE_ret1 (.inl rfl) rfl (res_tmp rfl) fun w_ s_ => ⟨?_, s_.toBelow⟩
  first | rfl | (simp; done)
theorem sleap_calls (y : Int) (h0 : 0 ≤ y) (w : World) : Calls Go.Proofs.Tryz.prog 4 #[.int .i64 y] w fun e w' => e = .returned (.bool (Cal.leapB y)) ∧ Below w.heap.size w w' := by
  by_cases h : y % 4 = 0
  · by_cases h1 : y % 100 = 0
    · refine (sleap_400 y h0 h h1 w).mono fun e w' ⟨he, hb⟩ => ⟨he.trans (retb_ ?_), hb⟩
      unfold Cal.leapB
      by_cases h2 : y % 400 = 0 <;> simp [h, h1, h2]
    · refine (sleap_yes y h0 h h1 w).mono fun e w' ⟨he, hb⟩ => ⟨he.trans (retb_ ?_), hb⟩
      unfold Cal.leapB
      simp [h, h1]
  · refine (sleap_no y h0 h w).mono fun e w' ⟨he, hb⟩ => ⟨he.trans (retb_ ?_), hb⟩
    unfold Cal.leapB
    simp [h]
theorem yearDays_calls (y : Int) (h0 : 0 ≤ y) (w : World) : Calls Go.Proofs.Tryz.prog 15 #[.int .i64 y] w fun e w' => e = .returned (.int .i64 (365 + Cal.lp y)) ∧ Below w.heap.size w w' := by
  refine calls_GC (args := [.int .i64 y]) (L := [(0, .int .i64 y)]) (N := 5) Tryz.func15 rfl rfl (Nat.le_of_ble_eq_true rfl) rfl (Sees.start (fun _ => False) w) ?_
  refine GC_seq ?_
  refine GC_region ?_
  refine GL_rd rfl (by decide) (rd_assign rfl) ?_
  refine GL_nil ?_
  refine GE_then ?_
  refine GC_seq ?_
  refine GC_seq ?_
  refine GC_region ?_
  refine GL_rd rfl (by decide) (rd_move rfl) ?_
  refine GL_at rfl (at_call_v (by decide) (by kernel_rfl) rfl (fun w_ s_ => sleap_calls _ (by omega) w_) ?_)
  refine GL_nil ?_
  refine GE_then ?_
  refine GC_cond rfl (fun c4_ => ?_) (fun c4_ => ?_)
  · first | have p4_ := of_decide_eq_true c4_ | have p4_ := beq_iff_eq.1 c4_ | have p4_ := bne_iff_ne.1 c4_ | skip
    refine GC_seq ?_
    refine GC_region ?_
    refine GL_rd rfl (by decide) (rd_assign rfl) ?_
    refine GL_nil ?_
    refine GE_then ?_
    refine GC_ret ?_
    refine GE_then_ret ?_
    refine GE_ret1 (.inl rfl) rfl (res_tmp rfl) fun w_ s_ => ⟨?_, s_.toBelow⟩
    refine ret1_ ?_
    simp_all [Cal.lp]
  · first | have p4_ := of_decide_eq_false c4_ | have p4_ := beq_eq_false_iff_ne.1 c4_ | have p4_ := bne_eq_false_iff_eq.1 c4_ | skip
    refine GC_skip ?_
    refine GE_then ?_
    refine GC_seq ?_
    refine GC_region ?_
    refine GL_rd rfl (by decide) (rd_assign rfl) ?_
    refine GL_nil ?_
    refine GE_then ?_
    refine GC_ret ?_
    refine GE_ret1 (.inl rfl) rfl (res_tmp rfl) fun w_ s_ => ⟨?_, s_.toBelow⟩
    refine ret1_ ?_
    simp_all [Cal.lp]
theorem newYear_calls (y : Int) (h0 : 1 ≤ y ∧ y ≤ 1000000000) (w : World) : Calls Go.Proofs.Tryz.prog 9 #[.int .i64 y] w fun e w' => e = .returned (.int .i64 (Cal.daysTo y)) ∧ Below w.heap.size w w' := by
  refine calls_GC (args := [.int .i64 y]) (L := [(0, .int .i64 y)]) (N := 17) Tryz.func9 rfl rfl (Nat.le_of_ble_eq_true rfl) rfl (Sees.start (fun _ => False) w) ?_
  refine GC_seq ?_
  refine GC_region ?_
  refine GL_rd rfl (by decide) (rd_assign rfl) ?_
  refine GL_nil ?_
  refine GE_then ?_
  refine GC_seq ?_
  refine GC_region ?_
  refine GL_rd rfl (by decide) (rd_move rfl) ?_
  first
    | refine GL_rd rfl (by decide) (rd_sub_ rfl rfl (by omega)) ?_
    | refine GL_rd rfl (by decide) (rd_sub rfl rfl) ?_
  refine GL_rd rfl (by decide) (rd_assign rfl) ?_
  refine GL_nil ?_
  refine GE_then ?_
  refine GC_seq ?_
  refine GC_region ?_
  refine GL_rd rfl (by decide) (rd_move rfl) ?_
  first
    | refine GL_rd rfl (by decide) (rd_mul_ rfl rfl (by omega)) ?_
    | refine GL_rd rfl (by decide) (rd_mul rfl rfl) ?_
  refine GL_rd rfl (by decide) (rd_move rfl) ?_
  first
    | refine GL_rd rfl (by decide) (rd_quo_ rfl rfl (by omega) (by omega) (by omega)) ?_
    | refine GL_rd rfl (by decide) (rd_quo_s rfl rfl (by omega) (by omega) (by omega)) ?_
    | refine GL_rd rfl (by decide) (rd_quo rfl rfl (by omega)) ?_
  first
    | refine GL_rd rfl (by decide) (rd_add_ rfl rfl (by omega)) ?_
    | refine GL_rd rfl (by decide) (rd_add rfl rfl) ?_
  refine GL_rd rfl (by decide) (rd_move rfl) ?_
  first
    | refine GL_rd rfl (by decide) (rd_quo_ rfl rfl (by omega) (by omega) (by omega)) ?_
    | refine GL_rd rfl (by decide) (rd_quo_s rfl rfl (by omega) (by omega) (by omega)) ?_
    | refine GL_rd rfl (by decide) (rd_quo rfl rfl (by omega)) ?_
  first
    | refine GL_rd rfl (by decide) (rd_sub_ rfl rfl (by omega)) ?_
    | refine GL_rd rfl (by decide) (rd_sub rfl rfl) ?_
  refine GL_rd rfl (by decide) (rd_move rfl) ?_
  first
    | refine GL_rd rfl (by decide) (rd_quo_ rfl rfl (by omega) (by omega) (by omega)) ?_
    | refine GL_rd rfl (by decide) (rd_quo_s rfl rfl (by omega) (by omega) (by omega)) ?_
    | refine GL_rd rfl (by decide) (rd_quo rfl rfl (by omega)) ?_
  first
    | refine GL_rd rfl (by decide) (rd_add_ rfl rfl (by omega)) ?_
    | refine GL_rd rfl (by decide) (rd_add rfl rfl) ?_
  refine GL_rd rfl (by decide) (rd_assign rfl) ?_
  refine GL_nil ?_
  refine GE_then ?_
  refine GC_ret ?_
  refine GE_ret1 (.inl rfl) rfl (res_tmp rfl) fun w_ s_ => ⟨?_, s_.toBelow⟩
  refine ret1_ ?_
  unfold Cal.daysTo
  omega
theorem smonthDays_calls (y m : Int) (h0 : 0 ≤ y) (w : World) : Calls Go.Proofs.Tryz.prog 10 #[.int .i64 y, .int .i64 m] w fun e w' => e = .returned (.int .i64 (Cal.mdays m y)) ∧ Below w.heap.size w w' := by
  refine calls_GC (args := [.int .i64 y, .int .i64 m]) (L := [(0, .int .i64 y), (1, .int .i64 m)]) (N := 16) Tryz.func10 rfl rfl (Nat.le_of_ble_eq_true rfl) rfl (Sees.start (fun _ => False) w) ?_
  have hlp := Cal.lp_01 y
  refine GC_seq ?_
  refine GC_region ?_
  refine GL_rd rfl (by decide) (rd_assign rfl) ?_
  refine GL_nil ?_
  refine GE_then ?_
  refine GC_seq ?_
  refine GC_seq ?_
  refine GC_region ?_
  refine GL_rd rfl (by decide) (rd_move rfl) ?_
  refine GL_nil ?_
  refine GE_then ?_
  refine GC_block ?_
  refine GC_seq ?_
  refine GC_seq ?_
  refine GC_region ?_
  refine GL_rd rfl (by decide) (rd_eql rfl rfl) ?_
  refine GL_rd rfl (by decide) (rd_assign rfl) ?_
  refine GL_nil ?_
  refine GE_then ?_
  refine GC_cond rfl (fun c6_ => ?_) (fun c6_ => ?_)
  · first | have p6_ := of_decide_eq_true c6_ | have p6_ := beq_iff_eq.1 c6_ | have p6_ := bne_iff_ne.1 c6_ | skip
    refine GC_skip ?_
    refine GE_then ?_
    refine GC_cond rfl (fun c6_ => ?_) (fun c6_ => ?_)
    · first | have p6_ := of_decide_eq_true c6_ | have p6_ := beq_iff_eq.1 c6_ | have p6_ := bne_iff_ne.1 c6_ | skip
      refine GC_seq ?_
      refine GC_region ?_
      refine GL_rd rfl (by decide) (rd_assign rfl) ?_
      refine GL_nil ?_
      refine GE_then ?_
      refine GC_ret ?_
      refine GE_in_ret ?_
      refine GE_then_ret ?_
      refine GE_ret1 (.inl rfl) rfl (res_tmp rfl) fun w_ s_ => ⟨?_, s_.toBelow⟩
      refine ret1_ ?_
      unfold Cal.mdays
      simp_all
      try omega
    · first | have p6_ := of_decide_eq_false c6_ | have p6_ := beq_eq_false_iff_ne.1 c6_ | have p6_ := bne_eq_false_iff_eq.1 c6_ | skip
      refine GC_seq ?_
      refine GC_region ?_
      refine GL_rd rfl (by decide) (rd_eql rfl rfl) ?_
      refine GL_rd rfl (by decide) (rd_assign rfl) ?_
      refine GL_nil ?_
      refine GE_then ?_
      refine GC_cond rfl (fun c11_ => ?_) (fun c11_ => ?_)
      · first | have p11_ := of_decide_eq_true c11_ | have p11_ := beq_iff_eq.1 c11_ | have p11_ := bne_iff_ne.1 c11_ | skip
        refine GC_seq ?_
        refine GC_region ?_
        refine GL_rd rfl (by decide) (rd_move rfl) ?_
        refine GL_at rfl (at_call_v (by decide) (by kernel_rfl) rfl (fun w_ s_ => yearDays_calls _ (by omega) w_) ?_)
        first
          | refine GL_rd rfl (by decide) (rd_sub_ rfl rfl (by omega)) ?_
          | refine GL_rd rfl (by decide) (rd_sub rfl rfl) ?_
        refine GL_rd rfl (by decide) (rd_assign rfl) ?_
        refine GL_nil ?_
        refine GE_then ?_
        refine GC_ret ?_
        refine GE_in_ret ?_
        refine GE_then_ret ?_
        refine GE_ret1 (.inl rfl) rfl (res_tmp rfl) fun w_ s_ => ⟨?_, s_.toBelow⟩
        refine ret1_ ?_
        unfold Cal.mdays
        simp_all
        try omega
      · first | have p11_ := of_decide_eq_false c11_ | have p11_ := beq_eq_false_iff_ne.1 c11_ | have p11_ := bne_eq_false_iff_eq.1 c11_ | skip
        refine GC_skip ?_
        refine GE_in ?_
        refine GE_then ?_
        refine GC_seq ?_
        refine GC_region ?_
        refine GL_rd rfl (by decide) (rd_assign rfl) ?_
        refine GL_nil ?_
        refine GE_then ?_
        refine GC_ret ?_
        refine GE_ret1 (.inl rfl) rfl (res_tmp rfl) fun w_ s_ => ⟨?_, s_.toBelow⟩
        refine ret1_ ?_
        unfold Cal.mdays
        simp_all
        try omega
  · first | have p6_ := of_decide_eq_false c6_ | have p6_ := beq_eq_false_iff_ne.1 c6_ | have p6_ := bne_eq_false_iff_eq.1 c6_ | skip
    refine GC_seq ?_
    refine GC_region ?_
    refine GL_rd rfl (by decide) (rd_eql rfl rfl) ?_
    refine GL_rd rfl (by decide) (rd_assign rfl) ?_
    refine GL_nil ?_
    refine GE_then ?_
    refine GC_cond rfl (fun c6_ => ?_) (fun c6_ => ?_)
    · first | have p6_ := of_decide_eq_true c6_ | have p6_ := beq_iff_eq.1 c6_ | have p6_ := bne_iff_ne.1 c6_ | skip
      refine GC_skip ?_
      refine GE_then ?_
      refine GC_cond rfl (fun c6_ => ?_) (fun c6_ => ?_)
      · first | have p6_ := of_decide_eq_true c6_ | have p6_ := beq_iff_eq.1 c6_ | have p6_ := bne_iff_ne.1 c6_ | skip
        refine GC_seq ?_
        refine GC_region ?_
        refine GL_rd rfl (by decide) (rd_assign rfl) ?_
        refine GL_nil ?_
        refine GE_then ?_
        refine GC_ret ?_
        refine GE_in_ret ?_
        refine GE_then_ret ?_
        refine GE_ret1 (.inl rfl) rfl (res_tmp rfl) fun w_ s_ => ⟨?_, s_.toBelow⟩
        refine ret1_ ?_
        unfold Cal.mdays
        simp_all
        try omega
      · first | have p6_ := of_decide_eq_false c6_ | have p6_ := beq_eq_false_iff_ne.1 c6_ | have p6_ := bne_eq_false_iff_eq.1 c6_ | skip
        refine GC_seq ?_
        refine GC_region ?_
        refine GL_rd rfl (by decide) (rd_eql rfl rfl) ?_
        refine GL_rd rfl (by decide) (rd_assign rfl) ?_
        refine GL_nil ?_
        refine GE_then ?_
        refine GC_cond rfl (fun c11_ => ?_) (fun c11_ => ?_)
        · first | have p11_ := of_decide_eq_true c11_ | have p11_ := beq_iff_eq.1 c11_ | have p11_ := bne_iff_ne.1 c11_ | skip
          refine GC_seq ?_
          refine GC_region ?_
          refine GL_rd rfl (by decide) (rd_move rfl) ?_
          refine GL_at rfl (at_call_v (by decide) (by kernel_rfl) rfl (fun w_ s_ => yearDays_calls _ (by omega) w_) ?_)
          first
            | refine GL_rd rfl (by decide) (rd_sub_ rfl rfl (by omega)) ?_
            | refine GL_rd rfl (by decide) (rd_sub rfl rfl) ?_
          refine GL_rd rfl (by decide) (rd_assign rfl) ?_
          refine GL_nil ?_
          refine GE_then ?_
          refine GC_ret ?_
          refine GE_in_ret ?_
          refine GE_then_ret ?_
          refine GE_ret1 (.inl rfl) rfl (res_tmp rfl) fun w_ s_ => ⟨?_, s_.toBelow⟩
          refine ret1_ ?_
          unfold Cal.mdays
          simp_all
          try omega
        · first | have p11_ := of_decide_eq_false c11_ | have p11_ := beq_eq_false_iff_ne.1 c11_ | have p11_ := bne_eq_false_iff_eq.1 c11_ | skip
          refine GC_skip ?_
          refine GE_in ?_
          refine GE_then ?_
          refine GC_seq ?_
          refine GC_region ?_
          refine GL_rd rfl (by decide) (rd_assign rfl) ?_
          refine GL_nil ?_
          refine GE_then ?_
          refine GC_ret ?_
          refine GE_ret1 (.inl rfl) rfl (res_tmp rfl) fun w_ s_ => ⟨?_, s_.toBelow⟩
          refine ret1_ ?_
          unfold Cal.mdays
          simp_all
          try omega
    · first | have p6_ := of_decide_eq_false c6_ | have p6_ := beq_eq_false_iff_ne.1 c6_ | have p6_ := bne_eq_false_iff_eq.1 c6_ | skip
      refine GC_seq ?_
      refine GC_region ?_
      refine GL_rd rfl (by decide) (rd_eql rfl rfl) ?_
      refine GL_rd rfl (by decide) (rd_assign rfl) ?_
      refine GL_nil ?_
      refine GE_then ?_
      refine GC_cond rfl (fun c6_ => ?_) (fun c6_ => ?_)
      · first | have p6_ := of_decide_eq_true c6_ | have p6_ := beq_iff_eq.1 c6_ | have p6_ := bne_iff_ne.1 c6_ | skip
        refine GC_skip ?_
        refine GE_then ?_
        refine GC_cond rfl (fun c6_ => ?_) (fun c6_ => ?_)
        · first | have p6_ := of_decide_eq_true c6_ | have p6_ := beq_iff_eq.1 c6_ | have p6_ := bne_iff_ne.1 c6_ | skip
          refine GC_seq ?_
          refine GC_region ?_
          refine GL_rd rfl (by decide) (rd_assign rfl) ?_
          refine GL_nil ?_
          refine GE_then ?_
          refine GC_ret ?_
          refine GE_in_ret ?_
          refine GE_then_ret ?_
          refine GE_ret1 (.inl rfl) rfl (res_tmp rfl) fun w_ s_ => ⟨?_, s_.toBelow⟩
          refine ret1_ ?_
          unfold Cal.mdays
          simp_all
          try omega
        · first | have p6_ := of_decide_eq_false c6_ | have p6_ := beq_eq_false_iff_ne.1 c6_ | have p6_ := bne_eq_false_iff_eq.1 c6_ | skip
          refine GC_seq ?_
          refine GC_region ?_
          refine GL_rd rfl (by decide) (rd_eql rfl rfl) ?_
          refine GL_rd rfl (by decide) (rd_assign rfl) ?_
          refine GL_nil ?_
          refine GE_then ?_
          refine GC_cond rfl (fun c11_ => ?_) (fun c11_ => ?_)
          · first | have p11_ := of_decide_eq_true c11_ | have p11_ := beq_iff_eq.1 c11_ | have p11_ := bne_iff_ne.1 c11_ | skip
            refine GC_seq ?_
            refine GC_region ?_
            refine GL_rd rfl (by decide) (rd_move rfl) ?_
            refine GL_at rfl (at_call_v (by decide) (by kernel_rfl) rfl (fun w_ s_ => yearDays_calls _ (by omega) w_) ?_)
            first
              | refine GL_rd rfl (by decide) (rd_sub_ rfl rfl (by omega)) ?_
              | refine GL_rd rfl (by decide) (rd_sub rfl rfl) ?_
            refine GL_rd rfl (by decide) (rd_assign rfl) ?_
            refine GL_nil ?_
            refine GE_then ?_
            refine GC_ret ?_
            refine GE_in_ret ?_
            refine GE_then_ret ?_
            refine GE_ret1 (.inl rfl) rfl (res_tmp rfl) fun w_ s_ => ⟨?_, s_.toBelow⟩
            refine ret1_ ?_
            unfold Cal.mdays
            simp_all
            try omega
          · first | have p11_ := of_decide_eq_false c11_ | have p11_ := beq_eq_false_iff_ne.1 c11_ | have p11_ := bne_eq_false_iff_eq.1 c11_ | skip
            refine GC_skip ?_
            refine GE_in ?_
            refine GE_then ?_
            refine GC_seq ?_
            refine GC_region ?_
            refine GL_rd rfl (by decide) (rd_assign rfl) ?_
            refine GL_nil ?_
            refine GE_then ?_
            refine GC_ret ?_
            refine GE_ret1 (.inl rfl) rfl (res_tmp rfl) fun w_ s_ => ⟨?_, s_.toBelow⟩
            refine ret1_ ?_
            unfold Cal.mdays
            simp_all
            try omega
      · first | have p6_ := of_decide_eq_false c6_ | have p6_ := beq_eq_false_iff_ne.1 c6_ | have p6_ := bne_eq_false_iff_eq.1 c6_ | skip
        refine GC_region ?_
        refine GL_rd rfl (by decide) (rd_eql rfl rfl) ?_
        refine GL_rd rfl (by decide) (rd_assign rfl) ?_
        refine GL_nil ?_
        refine GE_then ?_
        refine GC_cond rfl (fun c6_ => ?_) (fun c6_ => ?_)
        · first | have p6_ := of_decide_eq_true c6_ | have p6_ := beq_iff_eq.1 c6_ | have p6_ := bne_iff_ne.1 c6_ | skip
          refine GC_seq ?_
          refine GC_region ?_
          refine GL_rd rfl (by decide) (rd_assign rfl) ?_
          refine GL_nil ?_
          refine GE_then ?_
          refine GC_ret ?_
          refine GE_in_ret ?_
          refine GE_then_ret ?_
          refine GE_ret1 (.inl rfl) rfl (res_tmp rfl) fun w_ s_ => ⟨?_, s_.toBelow⟩
          refine ret1_ ?_
          unfold Cal.mdays
          simp_all
          try omega
        · first | have p6_ := of_decide_eq_false c6_ | have p6_ := beq_eq_false_iff_ne.1 c6_ | have p6_ := bne_eq_false_iff_eq.1 c6_ | skip
          refine GC_seq ?_
          refine GC_region ?_
          refine GL_rd rfl (by decide) (rd_eql rfl rfl) ?_
          refine GL_rd rfl (by decide) (rd_assign rfl) ?_
          refine GL_nil ?_
          refine GE_then ?_
          refine GC_cond rfl (fun c11_ => ?_) (fun c11_ => ?_)
          · first | have p11_ := of_decide_eq_true c11_ | have p11_ := beq_iff_eq.1 c11_ | have p11_ := bne_iff_ne.1 c11_ | skip
            refine GC_seq ?_
            refine GC_region ?_
            refine GL_rd rfl (by decide) (rd_move rfl) ?_
            refine GL_at rfl (at_call_v (by decide) (by kernel_rfl) rfl (fun w_ s_ => yearDays_calls _ (by omega) w_) ?_)
            first
              | refine GL_rd rfl (by decide) (rd_sub_ rfl rfl (by omega)) ?_
              | refine GL_rd rfl (by decide) (rd_sub rfl rfl) ?_
            refine GL_rd rfl (by decide) (rd_assign rfl) ?_
            refine GL_nil ?_
            refine GE_then ?_
            refine GC_ret ?_
            refine GE_in_ret ?_
            refine GE_then_ret ?_
            refine GE_ret1 (.inl rfl) rfl (res_tmp rfl) fun w_ s_ => ⟨?_, s_.toBelow⟩
            refine ret1_ ?_
            unfold Cal.mdays
            simp_all
            try omega
          · first | have p11_ := of_decide_eq_false c11_ | have p11_ := beq_eq_false_iff_ne.1 c11_ | have p11_ := bne_eq_false_iff_eq.1 c11_ | skip
            refine GC_skip ?_
            refine GE_in ?_
            refine GE_then ?_
            refine GC_seq ?_
            refine GC_region ?_
            refine GL_rd rfl (by decide) (rd_assign rfl) ?_
            refine GL_nil ?_
            refine GE_then ?_
            refine GC_ret ?_
            refine GE_ret1 (.inl rfl) rfl (res_tmp rfl) fun w_ s_ => ⟨?_, s_.toBelow⟩
            refine ret1_ ?_
            unfold Cal.mdays
            simp_all
            try omega
theorem daysOf_calls (y m d : Int) (h0 : 1 ≤ y ∧ y ≤ 1000000000) (hm : 1 ≤ m ∧ m ≤ 12) (hd : 0 ≤ d ∧ d ≤ 1000) (w : World) : Calls Go.Proofs.Tryz.prog 5 #[.int .i64 y, .int .i64 m, .int .i64 d] w fun e w' => e = .returned (.int .i64 (Cal.daysTo y + d - 1 + Cal.cum y (m - 1).toNat)) ∧ Below w.heap.size w w' := by
  refine calls_GC (args := [.int .i64 y, .int .i64 m, .int .i64 d]) (L := [(0, .int .i64 y), (1, .int .i64 m), (2, .int .i64 d)]) (N := 25) Tryz.func5 rfl rfl (Nat.le_of_ble_eq_true rfl) rfl (Sees.start (fun _ => False) w) ?_
  have hdt0 : 0 ≤ Cal.daysTo y ∧ Cal.daysTo y ≤ 400000000000 := by unfold Cal.daysTo; omega
  refine GC_seq ?_
  refine GC_region ?_
  refine GL_rd rfl (by decide) (rd_assign rfl) ?_
  refine GL_nil ?_
  refine GE_then ?_
  refine GC_seq ?_
  refine GC_region ?_
  refine GL_rd rfl (by decide) (rd_move rfl) ?_
  refine GL_at rfl (at_call_v (by decide) (by kernel_rfl) rfl (fun w_ s_ => newYear_calls _ (by omega) w_) ?_)
  refine GL_rd rfl (by decide) (rd_move rfl) ?_
  first
    | refine GL_rd rfl (by decide) (rd_add_ rfl rfl (by omega)) ?_
    | refine GL_rd rfl (by decide) (rd_add rfl rfl) ?_
  first
    | refine GL_rd rfl (by decide) (rd_sub_ rfl rfl (by omega)) ?_
    | refine GL_rd rfl (by decide) (rd_sub rfl rfl) ?_
  refine GL_rd rfl (by decide) (rd_assign rfl) ?_
  refine GL_nil ?_
  refine GE_then ?_
  refine GC_seq ?_
  refine GC_seq ?_
  refine GC_region ?_
  refine GL_rd rfl (by decide) (rd_assign rfl) ?_
  refine GL_nil ?_
  refine GE_then ?_
  refine GC_block ?_
  refine GC_loop (ι := (Nat)) (fun k => (m - 1).toNat - k) (fun k => ((k : Int) + 1 ≤ m)) (fun k => [(0, .int .i64 y), (1, .int .i64 m), (7, .int .i64 (Cal.daysTo y + d - 1 + Cal.cum y k)), (8, .int .i64 ((k : Int) + 1))]) (fun k => []) (fun k => []) (fun k => []) 0 (by show ((0 : Nat) : Int) + 1 ≤ m; omega) (fun a q => q.cons rfl (q.cons rfl (q.cons (by exact congrArg (fun n : Int => some (Value.int .i64 n)) (by simp [Cal.cum])) (q.cons rfl q.nil)))) (fun w s => by exact s) ?_
  rintro k hk
  show GC _ _ _ _ [(0, .int .i64 y), (1, .int .i64 m), (7, .int .i64 (Cal.daysTo y + d - 1 + Cal.cum y k)), (8, .int .i64 ((k : Int) + 1))] _ _ ([]) ([]) ([])
  have hcb := Cal.cum_bd y k
  have hmd := Cal.mdays_bd ((k : Int) + 1) y
  have hdt : 0 ≤ Cal.daysTo y ∧ Cal.daysTo y ≤ 400000000000 := by unfold Cal.daysTo; omega
  refine GC_seq ?_
  refine GC_seq ?_
  refine GC_region ?_
  refine GL_rd rfl (by decide) (rd_move rfl) ?_
  refine GL_rd rfl (by decide) (rd_move rfl) ?_
  refine GL_rd rfl (by decide) (rd_lss rfl rfl) ?_
  refine GL_nil ?_
  refine GE_then ?_
  refine GC_cond rfl (fun hc1 => ?_) (fun hc2 => ?_)
  · skip
    have hlt : (k : Int) + 1 < m := of_decide_eq_true hc1
    refine GC_skip ?_
    refine GE_then ?_
    refine GC_seq ?_
    refine GC_block ?_
    refine GC_region ?_
    refine GL_rd rfl (by decide) (rd_move rfl) ?_
    refine GL_rd rfl (by decide) (rd_move rfl) ?_
    refine GL_rd rfl (by decide) (rd_move rfl) ?_
    refine GL_at rfl (at_call_v (by decide) (by kernel_rfl) rfl (fun w_ s_ => smonthDays_calls _ _ (by omega) w_) ?_)
    first
      | refine GL_rd rfl (by decide) (rd_add_ rfl rfl (by omega)) ?_
      | refine GL_rd rfl (by decide) (rd_add rfl rfl) ?_
    refine GL_rd rfl (by decide) (rd_assign rfl) ?_
    refine GL_nil ?_
    refine GE_in ?_
    refine GE_then ?_
    refine GC_region ?_
    refine GL_rd rfl (by decide) (rd_move rfl) ?_
    first
      | refine GL_rd rfl (by decide) (rd_add_ rfl rfl (by omega)) ?_
      | refine GL_rd rfl (by decide) (rd_add rfl rfl) ?_
    refine GL_rd rfl (by decide) (rd_assign rfl) ?_
    refine GL_nil ?_
    refine GE_back (k + 1) (by omega) (by show ((k + 1 : Nat) : Int) + 1 ≤ m; omega) (fun a q => q.cons rfl (q.cons rfl (q.cons (by exact congrArg (fun n : Int => some (Value.int .i64 n)) (by simp only [Cal.cum]; omega)) (q.cons (by exact congrArg (fun n : Int => some (Value.int .i64 n)) (by omega)) q.nil)))) (fun w s => by exact s)
  · skip
    have hge : ¬ (k : Int) + 1 < m := of_decide_eq_false hc2
    obtain rfl : m = (k : Int) + 1 := by omega
    refine GC_exit ?_
    refine GE_then_exit ?_
    refine GE_then_exit ?_
    refine GE_in_self ?_
    refine GE_then ?_
    refine GC_seq ?_
    refine GC_region ?_
    refine GL_rd rfl (by decide) (rd_move rfl) ?_
    refine GL_rd rfl (by decide) (rd_assign rfl) ?_
    refine GL_nil ?_
    refine GE_then ?_
    refine GC_ret ?_
    refine GE_ret1 (.inl rfl) rfl (res_tmp rfl) fun w_ s_ => ⟨?_, s_.toBelow⟩
    exact ret1_ (by rw [show ((k : Int) + 1 - 1).toNat = k by omega])
theorem equal_calls (p p' : Option Addr) (c c' : Nat) (l : List Int) (hl : l.length ≤ 1000000000) (w : World) (h : Ints w (.slice p l.length c) l) (h' : Ints w (.slice p' l.length c') l) : Calls Go.Proofs.Tryz.prog 8 #[.slice p l.length c, .slice p' l.length c'] w fun e w' => e = .returned (.bool true) ∧ Below w.heap.size w w' := by
  obtain ⟨p1, c1, e1, hc1_⟩ := h
  obtain ⟨p2, c2, e2, hc2_⟩ := h'
  injection e1 with e11 e12 e13
  injection e2 with e21 e22 e23
  subst e11 e21
  refine calls_GC (args := [.slice p l.length c, .slice p' l.length c']) (L := [(0, .slice p l.length c), (1, .slice p' l.length c')]) (N := 26) Tryz.func8 rfl rfl (Nat.le_of_ble_eq_true rfl) rfl (Sees.start (fun _ => False) w) ?_
  refine GC_seq ?_
  refine GC_region ?_
  refine GL_rd rfl (by decide) (rd_assign rfl) ?_
  refine GL_nil ?_
  refine GE_then ?_
  refine GC_seq ?_
  refine GC_seq ?_
  refine GC_region ?_
  refine GL_rd rfl (by decide) (rd_move rfl) ?_
  refine GL_rd rfl (by decide) (rd_len (by kernel_rfl) rfl) ?_
  refine GL_rd rfl (by decide) (rd_move rfl) ?_
  refine GL_rd rfl (by decide) (rd_len (by kernel_rfl) rfl) ?_
  refine GL_rd rfl (by decide) (rd_neq rfl rfl) ?_
  refine GL_nil ?_
  refine GE_then ?_
  refine GC_is_false rfl (n_eq rfl) ?_
  refine GC_skip ?_
  refine GE_then ?_
  refine GC_seq ?_
  refine GC_seq ?_
  refine GC_region ?_
  refine GL_rd rfl (by decide) (rd_move rfl) ?_
  refine GL_rd rfl (by decide) (rd_len (by kernel_rfl) rfl) ?_
  refine GL_rd rfl (by decide) (rd_move rfl) ?_
  refine GL_nil ?_
  refine GE_then ?_
  refine GC_block ?_
  refine GC_loop (ι := (Nat)) (fun k => l.length - k) (fun k => (k ≤ l.length)) (fun k => [(0, .slice p l.length c), (1, .slice p' l.length c'), (11, .slice p l.length c), (12, .int .i64 (l.length)), (13, .int .i64 k)]) (fun k => []) (fun k => []) (fun k => []) 0 (Nat.zero_le _) (fun a k => k.cons rfl (k.cons rfl (k.cons rfl (k.cons rfl (k.cons rfl (k.nil)))))) (fun w s => by exact s) ?_
  rintro k hk
  show GC _ _ _ _ [(0, .slice p l.length c), (1, .slice p' l.length c'), (11, .slice p l.length c), (12, .int .i64 (l.length)), (13, .int .i64 k)] _ _ ([]) ([]) ([])
  refine GC_seq ?_
  refine GC_region ?_
  refine GL_rd rfl (by decide) (rd_lss rfl rfl) ?_
  refine GL_nil ?_
  refine GE_then ?_
  refine GC_seq ?_
  refine GC_cond rfl (fun hc1 => ?_) (fun hc2 => ?_)
  · skip
    have hlt : k < l.length := by have := of_decide_eq_true hc1; omega
    obtain ⟨y, hy⟩ : ∃ y, l[k]? = some y := ⟨_, List.getElem?_eq_getElem hlt⟩
    obtain ⟨b, o, rfl, q1⟩ := hc1_ k y hy
    obtain ⟨b', o', rfl, q2⟩ := hc2_ k y hy
    refine GC_skip ?_
    refine GE_then ?_
    refine GC_seq ?_
    refine GC_block ?_
    refine GC_seq ?_
    refine GC_region ?_
    refine GL_rd rfl (by decide) (rd_move rfl) ?_
    refine GL_rd rfl (by decide) (rd_assign rfl) ?_
    refine GL_nil ?_
    refine GE_then ?_
    refine GC_seq ?_
    refine GC_quiet (by kernel_rfl) (by kernel_rfl) ?_
    refine GQ_rd rfl (by decide) (rd_move rfl) ?_
    refine GQ_rd rfl (by decide) (rd_move rfl) ?_
    refine GQ_rd rfl (by decide) (rd_indexAddr (e := 2) (n := 1) (by kernel_rfl) rfl rfl (by omega) (by omega)) ?_
    refine GQ_rd rfl (by decide) (rd_load_old rfl (by rw [← q1]; congr 2; omega) (fun h => h) (by kernel_rfl)) ?_
    refine GQ_rd rfl (by decide) (rd_move rfl) ?_
    refine GQ_rd rfl (by decide) (rd_move rfl) ?_
    refine GQ_rd rfl (by decide) (rd_indexAddr (e := 2) (n := 1) (by kernel_rfl) rfl rfl (by omega) (by omega)) ?_
    refine GQ_rd rfl (by decide) (rd_load_old rfl (by rw [← q2]; congr 2; omega) (fun h => h) (by kernel_rfl)) ?_
    refine GQ_rd rfl (by decide) (rd_neq rfl rfl) ?_
    refine GQ_nil ?_
    refine GE_then ?_
    refine GC_is_false rfl (n_eq rfl) ?_
    refine GC_skip ?_
    refine GE_in ?_
    refine GE_then ?_
    refine GC_region ?_
    first
      | refine GL_rd rfl (by decide) (rd_add_ rfl rfl (by omega)) ?_
      | refine GL_rd rfl (by decide) (rd_add rfl rfl) ?_
    refine GL_rd rfl (by decide) (rd_move rfl) ?_
    refine GL_nil ?_
    refine GE_back (k + 1) (by omega) (by show k + 1 ≤ l.length; omega) (fun a k => k.cons rfl (k.cons rfl (k.cons rfl (k.cons rfl (k.cons rfl (k.nil)))))) (fun w s => by exact s)
  · skip
    have hge : ¬ k < l.length := by have := of_decide_eq_false hc2; omega
    refine GC_exit ?_
    refine GE_then_exit ?_
    refine GE_then_exit ?_
    refine GE_in_self ?_
    refine GE_then ?_
    refine GC_seq ?_
    refine GC_region ?_
    refine GL_rd rfl (by decide) (rd_assign rfl) ?_
    refine GL_nil ?_
    refine GE_then ?_
    refine GC_ret ?_
    exact GE_ret1 (.inl rfl) rfl (res_tmp rfl) fun w_ s_ => ⟨rfl, s_.toBelow⟩
theorem tslen_calls (p : Option Addr) (n c : Nat) (w : World) : Calls Go.Proofs.Tryz.prog 131 #[.slice p n c] w fun e w' => e = .returned (.int .i64 n) ∧ Below w.heap.size w w' := by
  refine calls_GC (args := [.slice p n c]) (L := [(0, .slice p n c)]) (N := 5) Tryz.func131 rfl rfl (Nat.le_of_ble_eq_true rfl) rfl (Sees.start (fun _ => False) w) ?_
  refine GC_seq ?_
  refine GC_region ?_
  refine GL_rd rfl (by decide) (rd_assign rfl) ?_
  refine GL_nil ?_
  refine GE_then ?_
  refine GC_seq ?_
  refine GC_region ?_
  refine GL_rd rfl (by decide) (rd_move rfl) ?_
  refine GL_rd rfl (by decide) (rd_len (by kernel_rfl) rfl) ?_
  refine GL_rd rfl (by decide) (rd_assign rfl) ?_
  refine GL_nil ?_
  refine GE_then ?_
  refine GC_ret ?_
  exact GE_ret1 (.inl rfl) rfl (res_tmp rfl) fun w_ s_ => ⟨rfl, s_.toBelow⟩
theorem sort_one {ts : List Int} (h1 : ts.length ≤ 1) (F : Nat → Prop) (w0 : World) : SortOk F w0 ts := by
  intro B H S p c w hlim hrow hs
  have hst : sortI ts = ts := by
    match ts, h1 with
    | [], _ => unfold sortI; simp
    | [x], _ => unfold sortI; simp
  rw [hst]
  revert hs
  revert w
  intro w s
  refine calls_GC (args := [.iface 98 (.slice p ts.length c)]) (L := [(0, .iface 98 (.slice p ts.length c))]) (N := 15) Tryz.func41 rfl rfl (Nat.le_of_ble_eq_true rfl) rfl s ?_
  refine GC_seq ?_
  refine GC_region ?_
  refine GL_rd rfl (by decide) (rd_move rfl) ?_
  refine GL_at rfl (at_invoke_v (v := .int .i64 (ts.length : Int)) (rv := .slice p ts.length c) (f := 131) (by decide) rfl (fun w => by kernel_rfl) (by kernel_rfl) rfl (fun w_ s_ => tslen_calls _ _ _ w_) ?_)
  refine GL_rd rfl (by decide) (rd_assign rfl) ?_
  refine GL_nil ?_
  refine GE_then ?_
  refine GC_seq ?_
  refine GC_seq ?_
  refine GC_region ?_
  refine GL_rd rfl (by decide) (rd_move rfl) ?_
  refine GL_rd rfl (by decide) (rd_leq rfl rfl) ?_
  refine GL_nil ?_
  refine GE_then ?_
  refine GC_is_true rfl (decide_eq_true (by omega)) ?_
  refine GC_ret ?_
  refine GE_then_ret ?_
  exact GE_ret0 (.inl rfl) rfl fun w_ s_ => ⟨rfl, s_.rowTo hrow⟩
end
end Go.Proofs.YtfcklceejjmjeaaGreat
