/-
  What the package's small functions on numbers and moments give.
-/
import Derived.Test.YtfcklceejjmjeaaGreatProg
import Derived.Test.YtfcklceejjmjeaaGreatMd
import Derived.Test.YtfcklceejjmjeaaGreatFg
import Derived.Test.YtfcklceejjmjeaaGreatCal
set_option linter.unusedVariables false
set_option linter.unusedSimpArgs false
set_option maxRecDepth 100000
set_option maxHeartbeats 8000000
namespace Go.Proofs.YtfcklceejjmjeaaGreat
open Go.RowKit Go.Fr Go.Tab
section
variable {F : Nat → Prop} {w0 : World} {B : List (Nat × Nat)} {H : List (Nat × Value)} {S : List (Nat × Slc)}

theorem ret1_ {k : IntKind} {a b : Int} (h : a = b) : Ending.returned (.int k a) = .returned (.int k b) := by rw [h]
theorem retb_ {a b : Bool} (h : a = b) : Ending.returned (.bool a) = .returned (.bool b) := by rw [h]
theorem ret2_ {k : IntKind} {a b a' b' : Int} (h : a = a') (h2 : b = b') : Ending.returned (.tuple #[.int k a, .int k b]) = .returned (.tuple #[.int k a', .int k b']) := by rw [h, h2]
theorem ret3_ {k : IntKind} {a b c a' b' c' : Int} (h : a = a') (h2 : b = b') (h3 : c = c') : Ending.returned (.tuple #[.int k a, .int k b, .int k c]) = .returned (.tuple #[.int k a', .int k b', .int k c']) := by rw [h, h2, h3]
theorem reta_ {k : IntKind} {a b a' b' : Int} (h : a = a') (h2 : b = b') : Ending.returned (.agg #[.int k a, .int k b]) = .returned (.agg #[.int k a', .int k b']) := by rw [h, h2]
theorem sub_div_mul (a b : Int) : a - a / b * b = a % b := by rw [Int.emod_def, Int.mul_comm]
theorem floor_calls (a b : Int) (hb : 0 < b) (hb2 : b ≤ 1000000000) (ha : -4611686018427387904 ≤ a ∧ a ≤ 4611686018427387904) (w : World) : Calls Go.Proofs.Tryz.prog 44 #[.int .i64 a, .int .i64 b] w fun e w' => e = .returned (.int .i64 (a / b)) ∧ Below w.heap.size w w' := by
  refine calls_GC (args := [.int .i64 a, .int .i64 b]) (L := [(0, .int .i64 a), (1, .int .i64 b)]) (N := 16) Tryz.func44 rfl rfl (Nat.le_of_ble_eq_true rfl) rfl (Sees.start (fun _ => False) w) ?_
  have hq := tdiv_bd (m := a) hb (by omega) (by omega)
  have hq2 : -4611686018427387904 ≤ a.tdiv b := by
    have h := Int.natAbs_tdiv a b
    have h3 : (a.tdiv b).natAbs ≤ a.natAbs := h ▸ Nat.div_le_self _ _
    omega
  refine GC_seq ?_
  refine GC_region ?_
  refine GL_rd rfl (by decide) (rd_assign rfl) ?_
  refine GL_nil ?_
  refine GE_then ?_
  refine GC_seq ?_
  refine GC_region ?_
  refine GL_rd rfl (by decide) (rd_move rfl) ?_
  refine GL_rd rfl (by decide) (rd_move rfl) ?_
  first
    | refine GL_rd rfl (by decide) (rd_quo_ rfl rfl (by omega) (by omega) (by omega)) ?_
    | refine GL_rd rfl (by decide) (rd_quo_s rfl rfl (by omega) (by omega) (by omega)) ?_
    | refine GL_rd rfl (by decide) (rd_quo rfl rfl (by omega)) ?_
  refine GL_rd rfl (by decide) (rd_assign rfl) ?_
  refine GL_nil ?_
  refine GE_then ?_
  refine GC_seq ?_
  refine GC_seq ?_
  refine GC_region ?_
  refine GL_rd rfl (by decide) (rd_move rfl) ?_
  refine GL_rd rfl (by decide) (rd_move rfl) ?_
  first
    | refine GL_rd rfl (by decide) (rd_rem_ rfl rfl (by omega) (by omega)) ?_
    | refine GL_rd rfl (by decide) (rd_rem rfl rfl (by omega)) ?_
  refine GL_rd rfl (by decide) (rd_lss rfl rfl) ?_
  refine GL_nil ?_
  refine GE_then ?_
  refine GC_cond rfl (fun c12_ => ?_) (fun c12_ => ?_)
  · first | have p12_ := of_decide_eq_true c12_ | have p12_ := beq_iff_eq.1 c12_ | have p12_ := bne_iff_ne.1 c12_ | skip
    refine GC_region ?_
    refine GL_rd rfl (by decide) (rd_move rfl) ?_
    first
      | refine GL_rd rfl (by decide) (rd_sub_ rfl rfl (by omega)) ?_
      | refine GL_rd rfl (by decide) (rd_sub rfl rfl) ?_
    refine GL_rd rfl (by decide) (rd_assign rfl) ?_
    refine GL_nil ?_
    refine GE_then ?_
    refine GC_seq ?_
    refine GC_region ?_
    refine GL_rd rfl (by decide) (rd_move rfl) ?_
    refine GL_rd rfl (by decide) (rd_assign rfl) ?_
    refine GL_nil ?_
    refine GE_then ?_
    refine GC_ret ?_
    refine GE_ret1 (.inl rfl) rfl (res_tmp rfl) fun w_ s_ => ⟨?_, s_.toBelow⟩
    first
      | exact ret1_ (Cal.floor_t hb (of_decide_eq_true c12_))
      | exact ret1_ (Cal.floor_f hb (of_decide_eq_false c12_))
  · first | have p12_ := of_decide_eq_false c12_ | have p12_ := beq_eq_false_iff_ne.1 c12_ | have p12_ := bne_eq_false_iff_eq.1 c12_ | skip
    refine GC_skip ?_
    refine GE_then ?_
    refine GC_seq ?_
    refine GC_region ?_
    refine GL_rd rfl (by decide) (rd_move rfl) ?_
    refine GL_rd rfl (by decide) (rd_assign rfl) ?_
    refine GL_nil ?_
    refine GE_then ?_
    refine GC_ret ?_
    refine GE_ret1 (.inl rfl) rfl (res_tmp rfl) fun w_ s_ => ⟨?_, s_.toBelow⟩
    first
      | exact ret1_ (Cal.floor_t hb (of_decide_eq_true c12_))
      | exact ret1_ (Cal.floor_f hb (of_decide_eq_false c12_))
theorem b_eq {a b : Int} (h : a = b) : (a == b) = true := beq_iff_eq.2 h
theorem b_ne {a b : Int} (h : a ≠ b) : (a == b) = false := beq_eq_false_iff_ne.2 h
theorem n_eq {a b : Int} (h : a = b) : (a != b) = false := by rw [bne, b_eq h]; rfl
theorem n_ne {a b : Int} (h : a ≠ b) : (a != b) = true := by rw [bne, b_ne h]; rfl
theorem leap_no (y : Int) (h0 : 0 ≤ y) (h : y % 4 ≠ 0) (w : World) : Calls Go.Proofs.Tryz.prog 65 #[.int .i64 y] w fun e w' => e = .returned (.bool false) ∧ Below w.heap.size w w' := by
  refine calls_GC (args := [.int .i64 y]) (L := [(0, .int .i64 y)]) (N := 16) Tryz.func65 rfl rfl (Nat.le_of_ble_eq_true rfl) rfl (Sees.start (fun _ => False) w) ?_
  refine GC_seq ?_
  refine GC_region ?_
  refine GL_rd rfl (by decide) (rd_assign rfl) ?_
  refine GL_nil ?_
  refine GE_then ?_
  refine GC_seq ?_
  refine GC_region ?_
  refine GL_rd rfl (by decide) (rd_move rfl) ?_
  first
    | refine GL_rd rfl (by decide) (rd_rem_ rfl rfl (by omega) (by omega)) ?_
    | refine GL_rd rfl (by decide) (rd_rem rfl rfl (by omega)) ?_
  refine GL_rd rfl (by decide) ((rd_eql rfl rfl).to (congrArg Value.bool (b_ne h))) ?_
  refine GL_rd rfl (by decide) (rd_move rfl) ?_
  refine GL_pass (by decide) rfl rfl (by decide) ?_
  refine GL_pass (by decide) rfl rfl (by decide) ?_
  refine GL_pass (by decide) rfl rfl (by decide) ?_
  refine GL_pass (by decide) rfl rfl (by decide) ?_
  refine GL_passu (by decide) rfl rfl ?_
  refine GL_passu (by decide) rfl rfl ?_
  refine GL_passu (by decide) rfl rfl ?_
  refine GL_pass (by decide) rfl rfl (by decide) ?_
  refine GL_rd rfl (by decide) (rd_pick rfl rfl rfl) ?_
  refine GL_rd rfl (by decide) (rd_assign rfl) ?_
  refine GL_nil ?_
  refine GE_then ?_
  refine GC_ret ?_
  refine GE_ret1 (.inl rfl) rfl (res_tmp rfl) fun w_ s_ => ⟨?_, s_.toBelow⟩
  first | rfl | (simp; done)
theorem leap_yes (y : Int) (h0 : 0 ≤ y) (h : y % 4 = 0) (h1 : y % 100 ≠ 0) (w : World) : Calls Go.Proofs.Tryz.prog 65 #[.int .i64 y] w fun e w' => e = .returned (.bool true) ∧ Below w.heap.size w w' := by
  refine calls_GC (args := [.int .i64 y]) (L := [(0, .int .i64 y)]) (N := 16) Tryz.func65 rfl rfl (Nat.le_of_ble_eq_true rfl) rfl (Sees.start (fun _ => False) w) ?_
  refine GC_seq ?_
  refine GC_region ?_
  refine GL_rd rfl (by decide) (rd_assign rfl) ?_
  refine GL_nil ?_
  refine GE_then ?_
  refine GC_seq ?_
  refine GC_region ?_
  refine GL_rd rfl (by decide) (rd_move rfl) ?_
  first
    | refine GL_rd rfl (by decide) (rd_rem_ rfl rfl (by omega) (by omega)) ?_
    | refine GL_rd rfl (by decide) (rd_rem rfl rfl (by omega)) ?_
  refine GL_rd rfl (by decide) ((rd_eql rfl rfl).to (congrArg Value.bool (b_eq h))) ?_
  refine GL_rd rfl (by decide) (rd_move rfl) ?_
  refine GL_take rfl rfl ?_
  refine GL_rd rfl (by decide) (rd_move rfl) ?_
  refine GL_take rfl rfl ?_
  first
    | refine GL_rd rfl (by decide) (rd_rem_ rfl rfl (by omega) (by omega)) ?_
    | refine GL_rd rfl (by decide) (rd_rem rfl rfl (by omega)) ?_
  refine GL_take rfl rfl ?_
  refine GL_rd rfl (by decide) ((rd_neq rfl rfl).to (congrArg Value.bool (n_ne h1))) ?_
  refine GL_take rfl rfl ?_
  refine GL_rd rfl (by decide) (rd_move rfl) ?_
  refine GL_pass (by decide) rfl rfl (by decide) ?_
  refine GL_pass (by decide) rfl rfl (by decide) ?_
  refine GL_pass (by decide) rfl rfl (by decide) ?_
  refine GL_take rfl rfl ?_
  refine GL_rd rfl (by decide) (rd_pick rfl rfl rfl) ?_
  refine GL_rd rfl (by decide) (rd_pick rfl rfl rfl) ?_
  refine GL_rd rfl (by decide) (rd_assign rfl) ?_
  refine GL_nil ?_
  refine GE_then ?_
  refine GC_ret ?_
  refine GE_ret1 (.inl rfl) rfl (res_tmp rfl) fun w_ s_ => ⟨?_, s_.toBelow⟩
  first | rfl | (simp; done)
theorem leap_400 (y : Int) (h0 : 0 ≤ y) (h : y % 4 = 0) (h1 : y % 100 = 0) (w : World) : Calls Go.Proofs.Tryz.prog 65 #[.int .i64 y] w fun e w' => e = .returned (.bool (y % 400 == 0)) ∧ Below w.heap.size w w' := by
  refine calls_GC (args := [.int .i64 y]) (L := [(0, .int .i64 y)]) (N := 16) Tryz.func65 rfl rfl (Nat.le_of_ble_eq_true rfl) rfl (Sees.start (fun _ => False) w) ?_
  refine GC_seq ?_
  refine GC_region ?_
  refine GL_rd rfl (by decide) (rd_assign rfl) ?_
  refine GL_nil ?_
  refine GE_then ?_
  refine GC_seq ?_
  refine GC_region ?_
  refine GL_rd rfl (by decide) (rd_move rfl) ?_
  first
    | refine GL_rd rfl (by decide) (rd_rem_ rfl rfl (by omega) (by omega)) ?_
    | refine GL_rd rfl (by decide) (rd_rem rfl rfl (by omega)) ?_
  refine GL_rd rfl (by decide) ((rd_eql rfl rfl).to (congrArg Value.bool (b_eq h))) ?_
  refine GL_rd rfl (by decide) (rd_move rfl) ?_
  refine GL_take rfl rfl ?_
  refine GL_rd rfl (by decide) (rd_move rfl) ?_
  refine GL_take rfl rfl ?_
  first
    | refine GL_rd rfl (by decide) (rd_rem_ rfl rfl (by omega) (by omega)) ?_
    | refine GL_rd rfl (by decide) (rd_rem rfl rfl (by omega)) ?_
  refine GL_take rfl rfl ?_
  refine GL_rd rfl (by decide) ((rd_neq rfl rfl).to (congrArg Value.bool (n_eq h1))) ?_
  refine GL_take rfl rfl ?_
  refine GL_rd rfl (by decide) (rd_move rfl) ?_
  refine GL_take rfl rfl ?_
  refine GL_rd rfl (by decide) (rd_move rfl) ?_
  refine GL_take rfl rfl ?_
  first
    | refine GL_rd rfl (by decide) (rd_rem_ rfl rfl (by omega) (by omega)) ?_
    | refine GL_rd rfl (by decide) (rd_rem rfl rfl (by omega)) ?_
  refine GL_take rfl rfl ?_
  refine GL_rd rfl (by decide) (rd_eql rfl rfl) ?_
  refine GL_take rfl rfl ?_
  refine GL_rd rfl (by decide) (rd_pick rfl rfl rfl) ?_
  refine GL_rd rfl (by decide) (rd_pick rfl rfl rfl) ?_
  refine GL_rd rfl (by decide) (rd_assign rfl) ?_
  refine GL_nil ?_
  refine GE_then ?_
  refine GC_ret ?_
  refine GE_ret1 (.inl rfl) rfl (res_tmp rfl) fun w_ s_ => ⟨?_, s_.toBelow⟩
  first | rfl | (simp; done)
theorem leap_calls (y : Int) (h0 : 0 ≤ y) (w : World) : Calls Go.Proofs.Tryz.prog 65 #[.int .i64 y] w fun e w' => e = .returned (.bool (Cal.leapB y)) ∧ Below w.heap.size w w' := by
  by_cases h : y % 4 = 0
  · by_cases h1 : y % 100 = 0
    · refine (leap_400 y h0 h h1 w).mono fun e w' ⟨he, hb⟩ => ⟨he.trans (retb_ ?_), hb⟩
      unfold Cal.leapB
      by_cases h2 : y % 400 = 0 <;> simp [h, h1, h2]
    · refine (leap_yes y h0 h h1 w).mono fun e w' ⟨he, hb⟩ => ⟨he.trans (retb_ ?_), hb⟩
      unfold Cal.leapB
      simp [h, h1]
  · refine (leap_no y h0 h w).mono fun e w' ⟨he, hb⟩ => ⟨he.trans (retb_ ?_), hb⟩
    unfold Cal.leapB
    simp [h]
theorem monthDays_calls (m y : Int) (h0 : 0 ≤ y) (w : World) : Calls Go.Proofs.Tryz.prog 43 #[.int .i64 m, .int .i64 y] w fun e w' => e = .returned (.int .i64 (Cal.mdays m y)) ∧ Below w.heap.size w w' := by
  refine calls_GC (args := [.int .i64 m, .int .i64 y]) (L := [(0, .int .i64 m), (1, .int .i64 y)]) (N := 15) Tryz.func43 rfl rfl (Nat.le_of_ble_eq_true rfl) rfl (Sees.start (fun _ => False) w) ?_
  refine GC_seq ?_
  refine GC_region ?_
  refine GL_rd rfl (by decide) (rd_assign rfl) ?_
  refine GL_nil ?_
  refine GE_then ?_
  refine GC_seq ?_
  refine GC_seq ?_
  refine GC_region ?_
  refine GL_rd rfl (by decide) (rd_move rfl) ?_
  refine GL_nil ?_
  refine GE_then ?_
  refine GC_block ?_
  refine GC_seq ?_
  refine GC_region ?_
  refine GL_rd rfl (by decide) (rd_eql rfl rfl) ?_
  refine GL_rd rfl (by decide) (rd_assign rfl) ?_
  refine GL_nil ?_
  refine GE_then ?_
  refine GC_cond rfl (fun c6_ => ?_) (fun c6_ => ?_)
  · first | have p6_ := of_decide_eq_true c6_ | have p6_ := beq_iff_eq.1 c6_ | have p6_ := bne_iff_ne.1 c6_ | skip
    refine GC_seq ?_
    refine GC_seq ?_
    refine GC_region ?_
    refine GL_rd rfl (by decide) (rd_move rfl) ?_
    refine GL_at rfl (at_call_v (by decide) (by kernel_rfl) rfl (fun w_ s_ => leap_calls _ (by omega) w_) ?_)
    refine GL_nil ?_
    refine GE_then ?_
    refine GC_cond rfl (fun c9_ => ?_) (fun c9_ => ?_)
    · first | have p9_ := of_decide_eq_true c9_ | have p9_ := beq_iff_eq.1 c9_ | have p9_ := bne_iff_ne.1 c9_ | skip
      refine GC_seq ?_
      refine GC_region ?_
      refine GL_rd rfl (by decide) (rd_assign rfl) ?_
      refine GL_nil ?_
      refine GE_then ?_
      refine GC_ret ?_
      refine GE_then_ret ?_
      refine GE_in_ret ?_
      refine GE_then_ret ?_
      refine GE_ret1 (.inl rfl) rfl (res_tmp rfl) fun w_ s_ => ⟨?_, s_.toBelow⟩
      refine ret1_ ?_
      simp_all [Cal.mdays, Cal.lp]
    · first | have p9_ := of_decide_eq_false c9_ | have p9_ := beq_eq_false_iff_ne.1 c9_ | have p9_ := bne_eq_false_iff_eq.1 c9_ | skip
      refine GC_skip ?_
      refine GE_then ?_
      refine GC_seq ?_
      refine GC_region ?_
      refine GL_rd rfl (by decide) (rd_assign rfl) ?_
      refine GL_nil ?_
      refine GE_then ?_
      refine GC_ret ?_
      refine GE_in_ret ?_
      refine GE_then_ret ?_
      refine GE_ret1 (.inl rfl) rfl (res_tmp rfl) fun w_ s_ => ⟨?_, s_.toBelow⟩
      refine ret1_ ?_
      simp_all [Cal.mdays, Cal.lp]
  · first | have p6_ := of_decide_eq_false c6_ | have p6_ := beq_eq_false_iff_ne.1 c6_ | have p6_ := bne_eq_false_iff_eq.1 c6_ | skip
    refine GC_seq ?_
    refine GC_seq ?_
    refine GC_region ?_
    refine GL_rd rfl (by decide) (rd_eql rfl rfl) ?_
    refine GL_rd rfl (by decide) (rd_assign rfl) ?_
    refine GL_nil ?_
    refine GE_then ?_
    refine GC_cond rfl (fun c10_ => ?_) (fun c10_ => ?_)
    · first | have p10_ := of_decide_eq_true c10_ | have p10_ := beq_iff_eq.1 c10_ | have p10_ := bne_iff_ne.1 c10_ | skip
      refine GC_skip ?_
      refine GE_then ?_
      refine GC_cond rfl (fun c10_ => ?_) (fun c10_ => ?_)
      · first | have p10_ := of_decide_eq_true c10_ | have p10_ := beq_iff_eq.1 c10_ | have p10_ := bne_iff_ne.1 c10_ | skip
        refine GC_seq ?_
        refine GC_region ?_
        refine GL_rd rfl (by decide) (rd_assign rfl) ?_
        refine GL_nil ?_
        refine GE_then ?_
        refine GC_ret ?_
        refine GE_in_ret ?_
        refine GE_then_ret ?_
        refine GE_ret1 (.inl rfl) rfl (res_tmp rfl) fun w_ s_ => ⟨?_, s_.toBelow⟩
        refine ret1_ ?_
        simp_all [Cal.mdays, Cal.lp]
      · first | have p10_ := of_decide_eq_false c10_ | have p10_ := beq_eq_false_iff_ne.1 c10_ | have p10_ := bne_eq_false_iff_eq.1 c10_ | skip
        refine GC_skip ?_
        refine GE_in ?_
        refine GE_then ?_
        refine GC_seq ?_
        refine GC_region ?_
        refine GL_rd rfl (by decide) (rd_assign rfl) ?_
        refine GL_nil ?_
        refine GE_then ?_
        refine GC_ret ?_
        refine GE_ret1 (.inl rfl) rfl (res_tmp rfl) fun w_ s_ => ⟨?_, s_.toBelow⟩
        refine ret1_ ?_
        simp_all [Cal.mdays, Cal.lp]
    · first | have p10_ := of_decide_eq_false c10_ | have p10_ := beq_eq_false_iff_ne.1 c10_ | have p10_ := bne_eq_false_iff_eq.1 c10_ | skip
      refine GC_seq ?_
      refine GC_region ?_
      refine GL_rd rfl (by decide) (rd_eql rfl rfl) ?_
      refine GL_rd rfl (by decide) (rd_assign rfl) ?_
      refine GL_nil ?_
      refine GE_then ?_
      refine GC_cond rfl (fun c10_ => ?_) (fun c10_ => ?_)
      · first | have p10_ := of_decide_eq_true c10_ | have p10_ := beq_iff_eq.1 c10_ | have p10_ := bne_iff_ne.1 c10_ | skip
        refine GC_skip ?_
        refine GE_then ?_
        refine GC_cond rfl (fun c10_ => ?_) (fun c10_ => ?_)
        · first | have p10_ := of_decide_eq_true c10_ | have p10_ := beq_iff_eq.1 c10_ | have p10_ := bne_iff_ne.1 c10_ | skip
          refine GC_seq ?_
          refine GC_region ?_
          refine GL_rd rfl (by decide) (rd_assign rfl) ?_
          refine GL_nil ?_
          refine GE_then ?_
          refine GC_ret ?_
          refine GE_in_ret ?_
          refine GE_then_ret ?_
          refine GE_ret1 (.inl rfl) rfl (res_tmp rfl) fun w_ s_ => ⟨?_, s_.toBelow⟩
          refine ret1_ ?_
          simp_all [Cal.mdays, Cal.lp]
        · first | have p10_ := of_decide_eq_false c10_ | have p10_ := beq_eq_false_iff_ne.1 c10_ | have p10_ := bne_eq_false_iff_eq.1 c10_ | skip
          refine GC_skip ?_
          refine GE_in ?_
          refine GE_then ?_
          refine GC_seq ?_
          refine GC_region ?_
          refine GL_rd rfl (by decide) (rd_assign rfl) ?_
          refine GL_nil ?_
          refine GE_then ?_
          refine GC_ret ?_
          refine GE_ret1 (.inl rfl) rfl (res_tmp rfl) fun w_ s_ => ⟨?_, s_.toBelow⟩
          refine ret1_ ?_
          simp_all [Cal.mdays, Cal.lp]
      · first | have p10_ := of_decide_eq_false c10_ | have p10_ := beq_eq_false_iff_ne.1 c10_ | have p10_ := bne_eq_false_iff_eq.1 c10_ | skip
        refine GC_seq ?_
        refine GC_region ?_
        refine GL_rd rfl (by decide) (rd_eql rfl rfl) ?_
        refine GL_rd rfl (by decide) (rd_assign rfl) ?_
        refine GL_nil ?_
        refine GE_then ?_
        refine GC_cond rfl (fun c10_ => ?_) (fun c10_ => ?_)
        · first | have p10_ := of_decide_eq_true c10_ | have p10_ := beq_iff_eq.1 c10_ | have p10_ := bne_iff_ne.1 c10_ | skip
          refine GC_skip ?_
          refine GE_then ?_
          refine GC_cond rfl (fun c10_ => ?_) (fun c10_ => ?_)
          · first | have p10_ := of_decide_eq_true c10_ | have p10_ := beq_iff_eq.1 c10_ | have p10_ := bne_iff_ne.1 c10_ | skip
            refine GC_seq ?_
            refine GC_region ?_
            refine GL_rd rfl (by decide) (rd_assign rfl) ?_
            refine GL_nil ?_
            refine GE_then ?_
            refine GC_ret ?_
            refine GE_in_ret ?_
            refine GE_then_ret ?_
            refine GE_ret1 (.inl rfl) rfl (res_tmp rfl) fun w_ s_ => ⟨?_, s_.toBelow⟩
            refine ret1_ ?_
            simp_all [Cal.mdays, Cal.lp]
          · first | have p10_ := of_decide_eq_false c10_ | have p10_ := beq_eq_false_iff_ne.1 c10_ | have p10_ := bne_eq_false_iff_eq.1 c10_ | skip
            refine GC_skip ?_
            refine GE_in ?_
            refine GE_then ?_
            refine GC_seq ?_
            refine GC_region ?_
            refine GL_rd rfl (by decide) (rd_assign rfl) ?_
            refine GL_nil ?_
            refine GE_then ?_
            refine GC_ret ?_
            refine GE_ret1 (.inl rfl) rfl (res_tmp rfl) fun w_ s_ => ⟨?_, s_.toBelow⟩
            refine ret1_ ?_
            simp_all [Cal.mdays, Cal.lp]
        · first | have p10_ := of_decide_eq_false c10_ | have p10_ := beq_eq_false_iff_ne.1 c10_ | have p10_ := bne_eq_false_iff_eq.1 c10_ | skip
          refine GC_region ?_
          refine GL_rd rfl (by decide) (rd_eql rfl rfl) ?_
          refine GL_rd rfl (by decide) (rd_assign rfl) ?_
          refine GL_nil ?_
          refine GE_then ?_
          refine GC_cond rfl (fun c10_ => ?_) (fun c10_ => ?_)
          · first | have p10_ := of_decide_eq_true c10_ | have p10_ := beq_iff_eq.1 c10_ | have p10_ := bne_iff_ne.1 c10_ | skip
            refine GC_seq ?_
            refine GC_region ?_
            refine GL_rd rfl (by decide) (rd_assign rfl) ?_
            refine GL_nil ?_
            refine GE_then ?_
            refine GC_ret ?_
            refine GE_in_ret ?_
            refine GE_then_ret ?_
            refine GE_ret1 (.inl rfl) rfl (res_tmp rfl) fun w_ s_ => ⟨?_, s_.toBelow⟩
            refine ret1_ ?_
            simp_all [Cal.mdays, Cal.lp]
          · first | have p10_ := of_decide_eq_false c10_ | have p10_ := beq_eq_false_iff_ne.1 c10_ | have p10_ := bne_eq_false_iff_eq.1 c10_ | skip
            refine GC_skip ?_
            refine GE_in ?_
            refine GE_then ?_
            refine GC_seq ?_
            refine GC_region ?_
            refine GL_rd rfl (by decide) (rd_assign rfl) ?_
            refine GL_nil ?_
            refine GE_then ?_
            refine GC_ret ?_
            refine GE_ret1 (.inl rfl) rfl (res_tmp rfl) fun w_ s_ => ⟨?_, s_.toBelow⟩
            refine ret1_ ?_
            simp_all [Cal.mdays, Cal.lp]
theorem daysTo_calls (y : Int) (h0 : -1000000000 ≤ y ∧ y ≤ 1000000000) (w : World) : Calls Go.Proofs.Tryz.prog 62 #[.int .i64 y] w fun e w' => e = .returned (.int .i64 (Cal.daysTo y)) ∧ Below w.heap.size w w' := by
  refine calls_GC (args := [.int .i64 y]) (L := [(0, .int .i64 y)]) (N := 17) Tryz.func62 rfl rfl (Nat.le_of_ble_eq_true rfl) rfl (Sees.start (fun _ => False) w) ?_
  refine GC_seq ?_
  refine GC_region ?_
  refine GL_rd rfl (by decide) (rd_assign rfl) ?_
  refine GL_nil ?_
  refine GE_then ?_
  refine GC_seq ?_
  refine GC_region ?_
  refine GL_rd rfl (by decide) (rd_move rfl) ?_
  first
    | refine GL_rd rfl (by decide) (rd_sub_ rfl rfl (by omega)) ?_
    | refine GL_rd rfl (by decide) (rd_sub rfl rfl) ?_
  refine GL_rd rfl (by decide) (rd_assign rfl) ?_
  refine GL_nil ?_
  refine GE_then ?_
  refine GC_seq ?_
  refine GC_region ?_
  refine GL_rd rfl (by decide) (rd_move rfl) ?_
  first
    | refine GL_rd rfl (by decide) (rd_mul_ rfl rfl (by omega)) ?_
    | refine GL_rd rfl (by decide) (rd_mul rfl rfl) ?_
  refine GL_rd rfl (by decide) (rd_move rfl) ?_
  refine GL_at rfl (at_call_v (by decide) (by kernel_rfl) rfl (fun w_ s_ => floor_calls _ _ (by omega) (by omega) (by omega) w_) ?_)
  first
    | refine GL_rd rfl (by decide) (rd_add_ rfl rfl (by omega)) ?_
    | refine GL_rd rfl (by decide) (rd_add rfl rfl) ?_
  refine GL_rd rfl (by decide) (rd_move rfl) ?_
  refine GL_at rfl (at_call_v (by decide) (by kernel_rfl) rfl (fun w_ s_ => floor_calls _ _ (by omega) (by omega) (by omega) w_) ?_)
  first
    | refine GL_rd rfl (by decide) (rd_sub_ rfl rfl (by omega)) ?_
    | refine GL_rd rfl (by decide) (rd_sub rfl rfl) ?_
  refine GL_rd rfl (by decide) (rd_move rfl) ?_
  refine GL_at rfl (at_call_v (by decide) (by kernel_rfl) rfl (fun w_ s_ => floor_calls _ _ (by omega) (by omega) (by omega) w_) ?_)
  first
    | refine GL_rd rfl (by decide) (rd_add_ rfl rfl (by omega)) ?_
    | refine GL_rd rfl (by decide) (rd_add rfl rfl) ?_
  refine GL_rd rfl (by decide) (rd_assign rfl) ?_
  refine GL_nil ?_
  refine GE_then ?_
  refine GC_ret ?_
  refine GE_ret1 (.inl rfl) rfl (res_tmp rfl) fun w_ s_ => ⟨?_, s_.toBelow⟩
  exact ret1_ rfl
theorem split_calls (x n : Int) (hx : -1000000000000000 ≤ x ∧ x ≤ 1000000000000000) (w : World) : Calls Go.Proofs.Tryz.prog 42 #[.agg #[.int .i64 x, .int .i64 n]] w fun e w' => e = .returned (.tuple #[.int .i64 (Cal.yearOf (x / 86400)), .int .i64 (Cal.ydayOf (x / 86400)), .int .i64 (x % 86400)]) ∧ Below w.heap.size w w' := by
  refine calls_GC (args := [.agg #[.int .i64 x, .int .i64 n]]) (L := [(0, .agg #[.int .i64 x, .int .i64 n])]) (N := 59) Tryz.func42 rfl rfl (Nat.le_of_ble_eq_true rfl) rfl (Sees.start (fun _ => False) w) ?_
  refine GC_seq ?_
  refine GC_region ?_
  refine GL_at rfl (at_box 50 (by decide) rfl rfl rfl (fun o ho => by repeat (first | rfl | rw [lkp_put_ne (by decide) ho _ _ (Nat.le_of_ble_eq_true rfl)] | rw [lkp_seq_ne (by decide) ho _ _ (Nat.le_of_ble_eq_true rfl)] | rw [lkp_ky_ne (by decide) ho (by decide)])) (Nat.le_of_ble_eq_true rfl) (fun b1_ hbb1_ => ?_))
  refine GL_rd rfl (by decide) (rd_assign rfl) ?_
  refine GL_rd rfl (by decide) (rd_assign rfl) ?_
  refine GL_rd rfl (by decide) (rd_assign rfl) ?_
  refine GL_nil ?_
  refine GE_then ?_
  refine GC_seq ?_
  refine GC_region ?_
  refine GL_rd rfl (by decide) (rd_fieldAddr (j := 0) (by kernel_rfl) rfl) ?_
  refine GL_rd rfl (by decide) (rd_load 50 rfl rfl rfl (by kernel_rfl) (by decide)) ?_
  refine GL_at rfl (at_call_v (by decide) (by kernel_rfl) rfl (fun w_ s_ => floor_calls _ _ (by omega) (by omega) (by omega) w_) ?_)
  refine GL_rd rfl (by decide) (rd_assign rfl) ?_
  refine GL_nil ?_
  refine GE_then ?_
  refine GC_seq ?_
  refine GC_region ?_
  refine GL_rd rfl (by decide) (rd_fieldAddr (j := 0) (by kernel_rfl) rfl) ?_
  refine GL_rd rfl (by decide) (rd_load 50 rfl rfl rfl (by kernel_rfl) (by decide)) ?_
  refine GL_rd rfl (by decide) (rd_move rfl) ?_
  first
    | refine GL_rd rfl (by decide) (rd_mul_ rfl rfl (by omega)) ?_
    | refine GL_rd rfl (by decide) (rd_mul rfl rfl) ?_
  first
    | refine GL_rd rfl (by decide) (rd_sub_ rfl rfl (by omega)) ?_
    | refine GL_rd rfl (by decide) (rd_sub rfl rfl) ?_
  refine GL_rd rfl (by decide) (rd_assign rfl) ?_
  refine GL_nil ?_
  refine GE_then ?_
  refine GC_seq ?_
  refine GC_region ?_
  refine GL_rd rfl (by decide) (rd_move rfl) ?_
  refine GL_at rfl (at_call_v (by decide) (by kernel_rfl) rfl (fun w_ s_ => floor_calls _ _ (by omega) (by omega) (by omega) w_) ?_)
  refine GL_rd rfl (by decide) (rd_assign rfl) ?_
  refine GL_nil ?_
  refine GE_then ?_
  refine GC_seq ?_
  refine GC_region ?_
  refine GL_rd rfl (by decide) (rd_move rfl) ?_
  refine GL_rd rfl (by decide) (rd_move rfl) ?_
  first
    | refine GL_rd rfl (by decide) (rd_mul_ rfl rfl (by omega)) ?_
    | refine GL_rd rfl (by decide) (rd_mul rfl rfl) ?_
  first
    | refine GL_rd rfl (by decide) (rd_sub_ rfl rfl (by omega)) ?_
    | refine GL_rd rfl (by decide) (rd_sub rfl rfl) ?_
  refine GL_rd rfl (by decide) (rd_assign rfl) ?_
  refine GL_nil ?_
  refine GE_then ?_
  refine GC_seq ?_
  refine GC_region ?_
  refine GL_rd rfl (by decide) (rd_move rfl) ?_
  first
    | refine GL_rd rfl (by decide) (rd_quo_ rfl rfl (by omega) (by omega) (by omega)) ?_
    | refine GL_rd rfl (by decide) (rd_quo_s rfl rfl (by omega) (by omega) (by omega)) ?_
    | refine GL_rd rfl (by decide) (rd_quo rfl rfl (by omega)) ?_
  refine GL_rd rfl (by decide) (rd_assign rfl) ?_
  refine GL_nil ?_
  refine GE_then ?_
  refine GC_seq ?_
  refine GC_seq ?_
  refine GC_region ?_
  refine GL_rd rfl (by decide) (rd_move rfl) ?_
  refine GL_rd rfl (by decide) (rd_eql rfl rfl) ?_
  refine GL_nil ?_
  refine GE_then ?_
  refine GC_cond rfl (fun c27_ => ?_) (fun c27_ => ?_)
  · first | have p27_ := of_decide_eq_true c27_ | have p27_ := beq_iff_eq.1 c27_ | have p27_ := bne_iff_ne.1 c27_ | skip
    refine GC_region ?_
    refine GL_rd rfl (by decide) (rd_assign rfl) ?_
    refine GL_nil ?_
    refine GE_then ?_
    refine GC_seq ?_
    refine GC_region ?_
    refine GL_rd rfl (by decide) (rd_move rfl) ?_
    refine GL_rd rfl (by decide) (rd_move rfl) ?_
    first
      | refine GL_rd rfl (by decide) (rd_mul_ rfl rfl (by omega)) ?_
      | refine GL_rd rfl (by decide) (rd_mul rfl rfl) ?_
    first
      | refine GL_rd rfl (by decide) (rd_sub_ rfl rfl (by omega)) ?_
      | refine GL_rd rfl (by decide) (rd_sub rfl rfl) ?_
    refine GL_rd rfl (by decide) (rd_assign rfl) ?_
    refine GL_nil ?_
    refine GE_then ?_
    refine GC_seq ?_
    refine GC_region ?_
    refine GL_rd rfl (by decide) (rd_move rfl) ?_
    first
      | refine GL_rd rfl (by decide) (rd_quo_ rfl rfl (by omega) (by omega) (by omega)) ?_
      | refine GL_rd rfl (by decide) (rd_quo_s rfl rfl (by omega) (by omega) (by omega)) ?_
      | refine GL_rd rfl (by decide) (rd_quo rfl rfl (by omega)) ?_
    refine GL_rd rfl (by decide) (rd_assign rfl) ?_
    refine GL_nil ?_
    refine GE_then ?_
    refine GC_seq ?_
    refine GC_region ?_
    refine GL_rd rfl (by decide) (rd_move rfl) ?_
    refine GL_rd rfl (by decide) (rd_move rfl) ?_
    first
      | refine GL_rd rfl (by decide) (rd_mul_ rfl rfl (by omega)) ?_
      | refine GL_rd rfl (by decide) (rd_mul rfl rfl) ?_
    first
      | refine GL_rd rfl (by decide) (rd_sub_ rfl rfl (by omega)) ?_
      | refine GL_rd rfl (by decide) (rd_sub rfl rfl) ?_
    refine GL_rd rfl (by decide) (rd_assign rfl) ?_
    refine GL_nil ?_
    refine GE_then ?_
    refine GC_seq ?_
    refine GC_region ?_
    refine GL_rd rfl (by decide) (rd_move rfl) ?_
    first
      | refine GL_rd rfl (by decide) (rd_quo_ rfl rfl (by omega) (by omega) (by omega)) ?_
      | refine GL_rd rfl (by decide) (rd_quo_s rfl rfl (by omega) (by omega) (by omega)) ?_
      | refine GL_rd rfl (by decide) (rd_quo rfl rfl (by omega)) ?_
    refine GL_rd rfl (by decide) (rd_assign rfl) ?_
    refine GL_nil ?_
    refine GE_then ?_
    refine GC_seq ?_
    refine GC_seq ?_
    refine GC_region ?_
    refine GL_rd rfl (by decide) (rd_move rfl) ?_
    refine GL_rd rfl (by decide) (rd_eql rfl rfl) ?_
    refine GL_nil ?_
    refine GE_then ?_
    refine GC_cond rfl (fun c41_ => ?_) (fun c41_ => ?_)
    · first | have p41_ := of_decide_eq_true c41_ | have p41_ := beq_iff_eq.1 c41_ | have p41_ := bne_iff_ne.1 c41_ | skip
      refine GC_region ?_
      refine GL_rd rfl (by decide) (rd_assign rfl) ?_
      refine GL_nil ?_
      refine GE_then ?_
      refine GC_seq ?_
      refine GC_region ?_
      refine GL_rd rfl (by decide) (rd_move rfl) ?_
      refine GL_rd rfl (by decide) (rd_move rfl) ?_
      first
        | refine GL_rd rfl (by decide) (rd_mul_ rfl rfl (by omega)) ?_
        | refine GL_rd rfl (by decide) (rd_mul rfl rfl) ?_
      first
        | refine GL_rd rfl (by decide) (rd_sub_ rfl rfl (by omega)) ?_
        | refine GL_rd rfl (by decide) (rd_sub rfl rfl) ?_
      refine GL_rd rfl (by decide) (rd_assign rfl) ?_
      refine GL_nil ?_
      refine GE_then ?_
      refine GC_seq ?_
      refine GC_region ?_
      refine GL_rd rfl (by decide) (rd_move rfl) ?_
      first
        | refine GL_rd rfl (by decide) (rd_mul_ rfl rfl (by omega)) ?_
        | refine GL_rd rfl (by decide) (rd_mul rfl rfl) ?_
      refine GL_rd rfl (by decide) (rd_move rfl) ?_
      first
        | refine GL_rd rfl (by decide) (rd_mul_ rfl rfl (by omega)) ?_
        | refine GL_rd rfl (by decide) (rd_mul rfl rfl) ?_
      first
        | refine GL_rd rfl (by decide) (rd_add_ rfl rfl (by omega)) ?_
        | refine GL_rd rfl (by decide) (rd_add rfl rfl) ?_
      refine GL_rd rfl (by decide) (rd_move rfl) ?_
      first
        | refine GL_rd rfl (by decide) (rd_mul_ rfl rfl (by omega)) ?_
        | refine GL_rd rfl (by decide) (rd_mul rfl rfl) ?_
      first
        | refine GL_rd rfl (by decide) (rd_add_ rfl rfl (by omega)) ?_
        | refine GL_rd rfl (by decide) (rd_add rfl rfl) ?_
      refine GL_rd rfl (by decide) (rd_move rfl) ?_
      first
        | refine GL_rd rfl (by decide) (rd_add_ rfl rfl (by omega)) ?_
        | refine GL_rd rfl (by decide) (rd_add rfl rfl) ?_
      first
        | refine GL_rd rfl (by decide) (rd_add_ rfl rfl (by omega)) ?_
        | refine GL_rd rfl (by decide) (rd_add rfl rfl) ?_
      refine GL_rd rfl (by decide) (rd_move rfl) ?_
      refine GL_rd rfl (by decide) (rd_move rfl) ?_
      refine GL_rd rfl (by decide) (rd_assign rfl) ?_
      refine GL_rd rfl (by decide) (rd_assign rfl) ?_
      refine GL_rd rfl (by decide) (rd_assign rfl) ?_
      refine GL_nil ?_
      refine GE_then ?_
      refine GC_ret ?_
      refine GE_ret3 (.inl rfl) rfl (res_tmp rfl) (res_tmp rfl) (res_tmp rfl) fun w_ s_ => ⟨?_, s_.toBelow⟩
      simp only [sub_div_mul] at p27_ p41_ ⊢
      generalize x / 86400 = q at *
      refine ret3_ ?_ ?_ rfl
      · unfold Cal.yearOf Cal.one Cal.d2 Cal.cen; (first | rw [if_pos p27_] | rw [if_neg p27_]); (try simp only [sub_div_mul]); (first | rw [if_pos p41_] | rw [if_neg p41_]); (try simp only [sub_div_mul])
      · unfold Cal.ydayOf Cal.one Cal.d2 Cal.cen; (first | rw [if_pos p27_] | rw [if_neg p27_]); (try simp only [sub_div_mul]); (first | rw [if_pos p41_] | rw [if_neg p41_]); (try simp only [sub_div_mul])
    · first | have p41_ := of_decide_eq_false c41_ | have p41_ := beq_eq_false_iff_ne.1 c41_ | have p41_ := bne_eq_false_iff_eq.1 c41_ | skip
      refine GC_skip ?_
      refine GE_then ?_
      refine GC_seq ?_
      refine GC_region ?_
      refine GL_rd rfl (by decide) (rd_move rfl) ?_
      refine GL_rd rfl (by decide) (rd_move rfl) ?_
      first
        | refine GL_rd rfl (by decide) (rd_mul_ rfl rfl (by omega)) ?_
        | refine GL_rd rfl (by decide) (rd_mul rfl rfl) ?_
      first
        | refine GL_rd rfl (by decide) (rd_sub_ rfl rfl (by omega)) ?_
        | refine GL_rd rfl (by decide) (rd_sub rfl rfl) ?_
      refine GL_rd rfl (by decide) (rd_assign rfl) ?_
      refine GL_nil ?_
      refine GE_then ?_
      refine GC_seq ?_
      refine GC_region ?_
      refine GL_rd rfl (by decide) (rd_move rfl) ?_
      first
        | refine GL_rd rfl (by decide) (rd_mul_ rfl rfl (by omega)) ?_
        | refine GL_rd rfl (by decide) (rd_mul rfl rfl) ?_
      refine GL_rd rfl (by decide) (rd_move rfl) ?_
      first
        | refine GL_rd rfl (by decide) (rd_mul_ rfl rfl (by omega)) ?_
        | refine GL_rd rfl (by decide) (rd_mul rfl rfl) ?_
      first
        | refine GL_rd rfl (by decide) (rd_add_ rfl rfl (by omega)) ?_
        | refine GL_rd rfl (by decide) (rd_add rfl rfl) ?_
      refine GL_rd rfl (by decide) (rd_move rfl) ?_
      first
        | refine GL_rd rfl (by decide) (rd_mul_ rfl rfl (by omega)) ?_
        | refine GL_rd rfl (by decide) (rd_mul rfl rfl) ?_
      first
        | refine GL_rd rfl (by decide) (rd_add_ rfl rfl (by omega)) ?_
        | refine GL_rd rfl (by decide) (rd_add rfl rfl) ?_
      refine GL_rd rfl (by decide) (rd_move rfl) ?_
      first
        | refine GL_rd rfl (by decide) (rd_add_ rfl rfl (by omega)) ?_
        | refine GL_rd rfl (by decide) (rd_add rfl rfl) ?_
      first
        | refine GL_rd rfl (by decide) (rd_add_ rfl rfl (by omega)) ?_
        | refine GL_rd rfl (by decide) (rd_add rfl rfl) ?_
      refine GL_rd rfl (by decide) (rd_move rfl) ?_
      refine GL_rd rfl (by decide) (rd_move rfl) ?_
      refine GL_rd rfl (by decide) (rd_assign rfl) ?_
      refine GL_rd rfl (by decide) (rd_assign rfl) ?_
      refine GL_rd rfl (by decide) (rd_assign rfl) ?_
      refine GL_nil ?_
      refine GE_then ?_
      refine GC_ret ?_
      refine GE_ret3 (.inl rfl) rfl (res_tmp rfl) (res_tmp rfl) (res_tmp rfl) fun w_ s_ => ⟨?_, s_.toBelow⟩
      simp only [sub_div_mul] at p27_ p41_ ⊢
      generalize x / 86400 = q at *
      refine ret3_ ?_ ?_ rfl
      · unfold Cal.yearOf Cal.one Cal.d2 Cal.cen; (first | rw [if_pos p27_] | rw [if_neg p27_]); (try simp only [sub_div_mul]); (first | rw [if_pos p41_] | rw [if_neg p41_]); (try simp only [sub_div_mul])
      · unfold Cal.ydayOf Cal.one Cal.d2 Cal.cen; (first | rw [if_pos p27_] | rw [if_neg p27_]); (try simp only [sub_div_mul]); (first | rw [if_pos p41_] | rw [if_neg p41_]); (try simp only [sub_div_mul])
  · first | have p27_ := of_decide_eq_false c27_ | have p27_ := beq_eq_false_iff_ne.1 c27_ | have p27_ := bne_eq_false_iff_eq.1 c27_ | skip
    refine GC_skip ?_
    refine GE_then ?_
    refine GC_seq ?_
    refine GC_region ?_
    refine GL_rd rfl (by decide) (rd_move rfl) ?_
    refine GL_rd rfl (by decide) (rd_move rfl) ?_
    first
      | refine GL_rd rfl (by decide) (rd_mul_ rfl rfl (by omega)) ?_
      | refine GL_rd rfl (by decide) (rd_mul rfl rfl) ?_
    first
      | refine GL_rd rfl (by decide) (rd_sub_ rfl rfl (by omega)) ?_
      | refine GL_rd rfl (by decide) (rd_sub rfl rfl) ?_
    refine GL_rd rfl (by decide) (rd_assign rfl) ?_
    refine GL_nil ?_
    refine GE_then ?_
    refine GC_seq ?_
    refine GC_region ?_
    refine GL_rd rfl (by decide) (rd_move rfl) ?_
    first
      | refine GL_rd rfl (by decide) (rd_quo_ rfl rfl (by omega) (by omega) (by omega)) ?_
      | refine GL_rd rfl (by decide) (rd_quo_s rfl rfl (by omega) (by omega) (by omega)) ?_
      | refine GL_rd rfl (by decide) (rd_quo rfl rfl (by omega)) ?_
    refine GL_rd rfl (by decide) (rd_assign rfl) ?_
    refine GL_nil ?_
    refine GE_then ?_
    refine GC_seq ?_
    refine GC_region ?_
    refine GL_rd rfl (by decide) (rd_move rfl) ?_
    refine GL_rd rfl (by decide) (rd_move rfl) ?_
    first
      | refine GL_rd rfl (by decide) (rd_mul_ rfl rfl (by omega)) ?_
      | refine GL_rd rfl (by decide) (rd_mul rfl rfl) ?_
    first
      | refine GL_rd rfl (by decide) (rd_sub_ rfl rfl (by omega)) ?_
      | refine GL_rd rfl (by decide) (rd_sub rfl rfl) ?_
    refine GL_rd rfl (by decide) (rd_assign rfl) ?_
    refine GL_nil ?_
    refine GE_then ?_
    refine GC_seq ?_
    refine GC_region ?_
    refine GL_rd rfl (by decide) (rd_move rfl) ?_
    first
      | refine GL_rd rfl (by decide) (rd_quo_ rfl rfl (by omega) (by omega) (by omega)) ?_
      | refine GL_rd rfl (by decide) (rd_quo_s rfl rfl (by omega) (by omega) (by omega)) ?_
      | refine GL_rd rfl (by decide) (rd_quo rfl rfl (by omega)) ?_
    refine GL_rd rfl (by decide) (rd_assign rfl) ?_
    refine GL_nil ?_
    refine GE_then ?_
    refine GC_seq ?_
    refine GC_seq ?_
    refine GC_region ?_
    refine GL_rd rfl (by decide) (rd_move rfl) ?_
    refine GL_rd rfl (by decide) (rd_eql rfl rfl) ?_
    refine GL_nil ?_
    refine GE_then ?_
    refine GC_cond rfl (fun c41_ => ?_) (fun c41_ => ?_)
    · first | have p41_ := of_decide_eq_true c41_ | have p41_ := beq_iff_eq.1 c41_ | have p41_ := bne_iff_ne.1 c41_ | skip
      refine GC_region ?_
      refine GL_rd rfl (by decide) (rd_assign rfl) ?_
      refine GL_nil ?_
      refine GE_then ?_
      refine GC_seq ?_
      refine GC_region ?_
      refine GL_rd rfl (by decide) (rd_move rfl) ?_
      refine GL_rd rfl (by decide) (rd_move rfl) ?_
      first
        | refine GL_rd rfl (by decide) (rd_mul_ rfl rfl (by omega)) ?_
        | refine GL_rd rfl (by decide) (rd_mul rfl rfl) ?_
      first
        | refine GL_rd rfl (by decide) (rd_sub_ rfl rfl (by omega)) ?_
        | refine GL_rd rfl (by decide) (rd_sub rfl rfl) ?_
      refine GL_rd rfl (by decide) (rd_assign rfl) ?_
      refine GL_nil ?_
      refine GE_then ?_
      refine GC_seq ?_
      refine GC_region ?_
      refine GL_rd rfl (by decide) (rd_move rfl) ?_
      first
        | refine GL_rd rfl (by decide) (rd_mul_ rfl rfl (by omega)) ?_
        | refine GL_rd rfl (by decide) (rd_mul rfl rfl) ?_
      refine GL_rd rfl (by decide) (rd_move rfl) ?_
      first
        | refine GL_rd rfl (by decide) (rd_mul_ rfl rfl (by omega)) ?_
        | refine GL_rd rfl (by decide) (rd_mul rfl rfl) ?_
      first
        | refine GL_rd rfl (by decide) (rd_add_ rfl rfl (by omega)) ?_
        | refine GL_rd rfl (by decide) (rd_add rfl rfl) ?_
      refine GL_rd rfl (by decide) (rd_move rfl) ?_
      first
        | refine GL_rd rfl (by decide) (rd_mul_ rfl rfl (by omega)) ?_
        | refine GL_rd rfl (by decide) (rd_mul rfl rfl) ?_
      first
        | refine GL_rd rfl (by decide) (rd_add_ rfl rfl (by omega)) ?_
        | refine GL_rd rfl (by decide) (rd_add rfl rfl) ?_
      refine GL_rd rfl (by decide) (rd_move rfl) ?_
      first
        | refine GL_rd rfl (by decide) (rd_add_ rfl rfl (by omega)) ?_
        | refine GL_rd rfl (by decide) (rd_add rfl rfl) ?_
      first
        | refine GL_rd rfl (by decide) (rd_add_ rfl rfl (by omega)) ?_
        | refine GL_rd rfl (by decide) (rd_add rfl rfl) ?_
      refine GL_rd rfl (by decide) (rd_move rfl) ?_
      refine GL_rd rfl (by decide) (rd_move rfl) ?_
      refine GL_rd rfl (by decide) (rd_assign rfl) ?_
      refine GL_rd rfl (by decide) (rd_assign rfl) ?_
      refine GL_rd rfl (by decide) (rd_assign rfl) ?_
      refine GL_nil ?_
      refine GE_then ?_
      refine GC_ret ?_
      refine GE_ret3 (.inl rfl) rfl (res_tmp rfl) (res_tmp rfl) (res_tmp rfl) fun w_ s_ => ⟨?_, s_.toBelow⟩
      simp only [sub_div_mul] at p27_ p41_ ⊢
      generalize x / 86400 = q at *
      refine ret3_ ?_ ?_ rfl
      · unfold Cal.yearOf Cal.one Cal.d2 Cal.cen; (first | rw [if_pos p27_] | rw [if_neg p27_]); (try simp only [sub_div_mul]); (first | rw [if_pos p41_] | rw [if_neg p41_]); (try simp only [sub_div_mul])
      · unfold Cal.ydayOf Cal.one Cal.d2 Cal.cen; (first | rw [if_pos p27_] | rw [if_neg p27_]); (try simp only [sub_div_mul]); (first | rw [if_pos p41_] | rw [if_neg p41_]); (try simp only [sub_div_mul])
    · first | have p41_ := of_decide_eq_false c41_ | have p41_ := beq_eq_false_iff_ne.1 c41_ | have p41_ := bne_eq_false_iff_eq.1 c41_ | skip
      refine GC_skip ?_
      refine GE_then ?_
      refine GC_seq ?_
      refine GC_region ?_
      refine GL_rd rfl (by decide) (rd_move rfl) ?_
      refine GL_rd rfl (by decide) (rd_move rfl) ?_
      first
        | refine GL_rd rfl (by decide) (rd_mul_ rfl rfl (by omega)) ?_
        | refine GL_rd rfl (by decide) (rd_mul rfl rfl) ?_
      first
        | refine GL_rd rfl (by decide) (rd_sub_ rfl rfl (by omega)) ?_
        | refine GL_rd rfl (by decide) (rd_sub rfl rfl) ?_
      refine GL_rd rfl (by decide) (rd_assign rfl) ?_
      refine GL_nil ?_
      refine GE_then ?_
      refine GC_seq ?_
      refine GC_region ?_
      refine GL_rd rfl (by decide) (rd_move rfl) ?_
      first
        | refine GL_rd rfl (by decide) (rd_mul_ rfl rfl (by omega)) ?_
        | refine GL_rd rfl (by decide) (rd_mul rfl rfl) ?_
      refine GL_rd rfl (by decide) (rd_move rfl) ?_
      first
        | refine GL_rd rfl (by decide) (rd_mul_ rfl rfl (by omega)) ?_
        | refine GL_rd rfl (by decide) (rd_mul rfl rfl) ?_
      first
        | refine GL_rd rfl (by decide) (rd_add_ rfl rfl (by omega)) ?_
        | refine GL_rd rfl (by decide) (rd_add rfl rfl) ?_
      refine GL_rd rfl (by decide) (rd_move rfl) ?_
      first
        | refine GL_rd rfl (by decide) (rd_mul_ rfl rfl (by omega)) ?_
        | refine GL_rd rfl (by decide) (rd_mul rfl rfl) ?_
      first
        | refine GL_rd rfl (by decide) (rd_add_ rfl rfl (by omega)) ?_
        | refine GL_rd rfl (by decide) (rd_add rfl rfl) ?_
      refine GL_rd rfl (by decide) (rd_move rfl) ?_
      first
        | refine GL_rd rfl (by decide) (rd_add_ rfl rfl (by omega)) ?_
        | refine GL_rd rfl (by decide) (rd_add rfl rfl) ?_
      first
        | refine GL_rd rfl (by decide) (rd_add_ rfl rfl (by omega)) ?_
        | refine GL_rd rfl (by decide) (rd_add rfl rfl) ?_
      refine GL_rd rfl (by decide) (rd_move rfl) ?_
      refine GL_rd rfl (by decide) (rd_move rfl) ?_
      refine GL_rd rfl (by decide) (rd_assign rfl) ?_
      refine GL_rd rfl (by decide) (rd_assign rfl) ?_
      refine GL_rd rfl (by decide) (rd_assign rfl) ?_
      refine GL_nil ?_
      refine GE_then ?_
      refine GC_ret ?_
      refine GE_ret3 (.inl rfl) rfl (res_tmp rfl) (res_tmp rfl) (res_tmp rfl) fun w_ s_ => ⟨?_, s_.toBelow⟩
      simp only [sub_div_mul] at p27_ p41_ ⊢
      generalize x / 86400 = q at *
      refine ret3_ ?_ ?_ rfl
      · unfold Cal.yearOf Cal.one Cal.d2 Cal.cen; (first | rw [if_pos p27_] | rw [if_neg p27_]); (try simp only [sub_div_mul]); (first | rw [if_pos p41_] | rw [if_neg p41_]); (try simp only [sub_div_mul])
      · unfold Cal.ydayOf Cal.one Cal.d2 Cal.cen; (first | rw [if_pos p27_] | rw [if_neg p27_]); (try simp only [sub_div_mul]); (first | rw [if_pos p41_] | rw [if_neg p41_]); (try simp only [sub_div_mul])
theorem split_bd0 {x : Int} (hx : 0 ≤ x ∧ x ≤ 1000000000000000) : 0 ≤ Cal.ydayOf (x / 86400) ∧ Cal.ydayOf (x / 86400) ≤ 365 ∧ 1 ≤ Cal.yearOf (x / 86400) ∧ Cal.yearOf (x / 86400) ≤ 40000000 := by
  have h := Cal.split_spec (x / 86400)
  have h2 := Cal.lp_01 (Cal.yearOf (x / 86400))
  have h1 : 1 ≤ Cal.yearOf (x / 86400) := by
    rcases Int.lt_or_le (Cal.yearOf (x / 86400)) 1 with hh | hh
    · exfalso
      have := Cal.daysTo_mono (show Cal.yearOf (x / 86400) ≤ 0 by omega)
      have e0 : Cal.daysTo 0 = -366 := by decide
      omega
    · exact hh
  unfold Cal.daysTo at h
  omega
theorem split_bd {x : Int} (hx : -1000000000000000 ≤ x ∧ x ≤ 1000000000000000) : 0 ≤ Cal.ydayOf (x / 86400) ∧ Cal.ydayOf (x / 86400) ≤ 365 ∧ -40000000 ≤ Cal.yearOf (x / 86400) ∧ Cal.yearOf (x / 86400) ≤ 40000000 := by
  have h := Cal.split_spec (x / 86400)
  have h2 := Cal.lp_01 (Cal.yearOf (x / 86400))
  unfold Cal.daysTo at h
  omega
theorem date_calls (x n : Int) (hx : 0 ≤ x ∧ x ≤ 1000000000000000) (w : World) : Calls Go.Proofs.Tryz.prog 20 #[.agg #[.int .i64 x, .int .i64 n]] w fun e w' => e = .returned (.tuple #[.int .i64 (Cal.yearOf (x / 86400)), .int .i64 (Cal.monthOf (x / 86400)), .int .i64 (Cal.mdayOf (x / 86400))]) ∧ Below w.heap.size w w' := by
  refine calls_GC (args := [.agg #[.int .i64 x, .int .i64 n]]) (L := [(0, .agg #[.int .i64 x, .int .i64 n])]) (N := 31) Tryz.func20 rfl rfl (Nat.le_of_ble_eq_true rfl) rfl (Sees.start (fun _ => False) w) ?_
  have hbd := split_bd0 hx
  have hsp := (Cal.split_spec (x / 86400)).2.2
  refine GC_seq ?_
  refine GC_region ?_
  refine GL_at rfl (at_box 50 (by decide) rfl rfl rfl (fun o ho => by repeat (first | rfl | rw [lkp_put_ne (by decide) ho _ _ (Nat.le_of_ble_eq_true rfl)] | rw [lkp_seq_ne (by decide) ho _ _ (Nat.le_of_ble_eq_true rfl)] | rw [lkp_ky_ne (by decide) ho (by decide)])) (Nat.le_of_ble_eq_true rfl) (fun b1_ hbb1_ => ?_))
  refine GL_rd rfl (by decide) (rd_assign rfl) ?_
  refine GL_rd rfl (by decide) (rd_assign rfl) ?_
  refine GL_rd rfl (by decide) (rd_assign rfl) ?_
  refine GL_nil ?_
  refine GE_then ?_
  refine GC_seq ?_
  refine GC_region ?_
  refine GL_rd rfl (by decide) (rd_load2 50 rfl rfl rfl rfl (by kernel_rfl) (by decide)) ?_
  refine GL_at rfl (at_call_v (by decide) (by kernel_rfl) rfl (fun w_ s_ => split_calls _ _ (by omega) w_) ?_)
  refine GL_rd rfl (by decide) (rd_move rfl) ?_
  refine GL_rd rfl (by decide) (rd_extract rfl rfl) ?_
  refine GL_rd rfl (by decide) (rd_extract rfl rfl) ?_
  refine GL_rd rfl (by decide) (rd_extract rfl rfl) ?_
  refine GL_rd rfl (by decide) (rd_assign rfl) ?_
  refine GL_rd rfl (by decide) (rd_assign rfl) ?_
  refine GL_rd rfl (by decide) (rd_assign rfl) ?_
  refine GL_nil ?_
  refine GE_then ?_
  refine GC_seq ?_
  refine GC_region ?_
  refine GL_rd rfl (by decide) (rd_assign rfl) ?_
  refine GL_nil ?_
  refine GE_then ?_
  refine GC_seq ?_
  refine GC_block ?_
  refine GC_loop (ι := (Nat) × (Int) × (Int)) (fun | ⟨j, m, d⟩ => 12 - j) (fun | ⟨j, m, d⟩ => (j ≤ 11) ∧ (m = j + 1) ∧ (d = Cal.ydayOf (x / 86400) - Cal.cum (Cal.yearOf (x / 86400)) j) ∧ (Cal.cum (Cal.yearOf (x / 86400)) j ≤ Cal.ydayOf (x / 86400))) (fun | ⟨j, m, d⟩ => [(5, .int .i64 (Cal.yearOf (x / 86400))), (6, .int .i64 d), (8, .int .i64 m)]) (fun | ⟨j, m, d⟩ => (50, b1_) :: []) (fun | ⟨j, m, d⟩ => putKeys 50 0 [.int .i64 x, .int .i64 n] ++ []) (fun | ⟨j, m, d⟩ => []) ⟨0, 1, Cal.ydayOf (x / 86400)⟩ ⟨by omega, by omega, by simp [Cal.cum], by simp only [Cal.cum]; omega⟩ (fun a k => k.cons rfl (k.cons rfl (k.cons rfl (k.nil)))) (fun w s => by exact s) ?_
  rintro ⟨j, m, d⟩ ⟨hj, hm, hd, hc⟩
  show GC _ _ _ _ [(5, .int .i64 (Cal.yearOf (x / 86400))), (6, .int .i64 d), (8, .int .i64 m)] _ _ ((50, b1_) :: []) (putKeys 50 0 [.int .i64 x, .int .i64 n] ++ []) ([])
  have hmd := Cal.mdays_bd m (Cal.yearOf (x / 86400))
  have hcs : Cal.cum (Cal.yearOf (x / 86400)) (j + 1) = Cal.cum (Cal.yearOf (x / 86400)) j + Cal.mdays m (Cal.yearOf (x / 86400)) := by rw [hm]; rfl
  have hc0 := Cal.cum_mono (Cal.yearOf (x / 86400)) 0 j (Nat.zero_le _)
  simp only [Cal.cum] at hc0
  refine GC_seq ?_
  refine GC_seq ?_
  refine GC_region ?_
  refine GL_rd rfl (by decide) (rd_move rfl) ?_
  refine GL_rd rfl (by decide) (rd_move rfl) ?_
  refine GL_rd rfl (by decide) (rd_move rfl) ?_
  refine GL_at rfl (at_call_v (by decide) (by kernel_rfl) rfl (fun w_ s_ => monthDays_calls _ _ (by omega) w_) ?_)
  refine GL_rd rfl (by decide) (rd_geq rfl rfl) ?_
  refine GL_nil ?_
  refine GE_then ?_
  refine GC_cond rfl (fun hc1 => ?_) (fun hc2 => ?_)
  · have hge : Cal.mdays m (Cal.yearOf (x / 86400)) ≤ d := of_decide_eq_true hc1
    have hnx : Cal.cum (Cal.yearOf (x / 86400)) (j + 1) ≤ Cal.ydayOf (x / 86400) := by omega
    have hj1 : j + 1 ≤ 11 := by
      rcases Nat.lt_or_ge j 11 with h | h
      · omega
      · exfalso; obtain rfl : j = 11 := by omega
        rw [Cal.cum_12] at hnx; omega
    refine GC_skip ?_
    refine GE_then ?_
    refine GC_block ?_
    refine GC_seq ?_
    refine GC_region ?_
    refine GL_rd rfl (by decide) (rd_move rfl) ?_
    refine GL_rd rfl (by decide) (rd_move rfl) ?_
    refine GL_rd rfl (by decide) (rd_move rfl) ?_
    refine GL_at rfl (at_call_v (by decide) (by kernel_rfl) rfl (fun w_ s_ => monthDays_calls _ _ (by omega) w_) ?_)
    first
      | refine GL_rd rfl (by decide) (rd_sub_ rfl rfl (by omega)) ?_
      | refine GL_rd rfl (by decide) (rd_sub rfl rfl) ?_
    refine GL_rd rfl (by decide) (rd_assign rfl) ?_
    refine GL_nil ?_
    refine GE_then ?_
    refine GC_region ?_
    refine GL_rd rfl (by decide) (rd_move rfl) ?_
    first
      | refine GL_rd rfl (by decide) (rd_add_ rfl rfl (by omega)) ?_
      | refine GL_rd rfl (by decide) (rd_add rfl rfl) ?_
    refine GL_rd rfl (by decide) (rd_assign rfl) ?_
    refine GL_nil ?_
    refine GE_in ?_
    refine GE_back ⟨j + 1, m + 1, d - Cal.mdays m (Cal.yearOf (x / 86400))⟩ (by simp only; omega) ⟨by omega, by omega, by rw [hcs]; omega, hnx⟩ (fun a k => k.cons rfl (k.cons rfl (k.cons rfl (k.nil)))) (fun w s => by exact s)
  · have hlt : ¬ Cal.mdays m (Cal.yearOf (x / 86400)) ≤ d := of_decide_eq_false hc2
    have hfin := Cal.mon_unique hj hc (by omega)
    refine GC_exit ?_
    refine GE_then_exit ?_
    refine GE_then_exit ?_
    refine GE_in_self ?_
    refine GE_then ?_
    refine GC_seq ?_
    refine GC_region ?_
    refine GL_rd rfl (by decide) (rd_move rfl) ?_
    refine GL_rd rfl (by decide) (rd_move rfl) ?_
    refine GL_rd rfl (by decide) (rd_move rfl) ?_
    first
      | refine GL_rd rfl (by decide) (rd_add_ rfl rfl (by omega)) ?_
      | refine GL_rd rfl (by decide) (rd_add rfl rfl) ?_
    refine GL_rd rfl (by decide) (rd_assign rfl) ?_
    refine GL_rd rfl (by decide) (rd_assign rfl) ?_
    refine GL_rd rfl (by decide) (rd_assign rfl) ?_
    refine GL_nil ?_
    refine GE_then ?_
    refine GC_ret ?_
    refine GE_ret3 (.inl rfl) rfl (res_tmp rfl) (res_tmp rfl) (res_tmp rfl) fun w_ s_ => ⟨?_, s_.toBelow⟩
    unfold Cal.monthOf Cal.mdayOf
    rw [hfin]
    exact ret3_ rfl hm (by simp only; omega)
theorem clock_calls (x n : Int) (hx : -1000000000000000 ≤ x ∧ x ≤ 1000000000000000) (w : World) : Calls Go.Proofs.Tryz.prog 21 #[.agg #[.int .i64 x, .int .i64 n]] w fun e w' => e = .returned (.tuple #[.int .i64 (x % 86400 / 3600), .int .i64 (x % 86400 / 60 % 60), .int .i64 (x % 86400 % 60)]) ∧ Below w.heap.size w w' := by
  refine calls_GC (args := [.agg #[.int .i64 x, .int .i64 n]]) (L := [(0, .agg #[.int .i64 x, .int .i64 n])]) (N := 21) Tryz.func21 rfl rfl (Nat.le_of_ble_eq_true rfl) rfl (Sees.start (fun _ => False) w) ?_
  refine GC_seq ?_
  refine GC_region ?_
  refine GL_at rfl (at_box 50 (by decide) rfl rfl rfl (fun o ho => by repeat (first | rfl | rw [lkp_put_ne (by decide) ho _ _ (Nat.le_of_ble_eq_true rfl)] | rw [lkp_seq_ne (by decide) ho _ _ (Nat.le_of_ble_eq_true rfl)] | rw [lkp_ky_ne (by decide) ho (by decide)])) (Nat.le_of_ble_eq_true rfl) (fun b1_ hbb1_ => ?_))
  refine GL_rd rfl (by decide) (rd_assign rfl) ?_
  refine GL_rd rfl (by decide) (rd_assign rfl) ?_
  refine GL_rd rfl (by decide) (rd_assign rfl) ?_
  refine GL_nil ?_
  refine GE_then ?_
  refine GC_seq ?_
  refine GC_region ?_
  refine GL_rd rfl (by decide) (rd_load2 50 rfl rfl rfl rfl (by kernel_rfl) (by decide)) ?_
  refine GL_at rfl (at_call_v (by decide) (by kernel_rfl) rfl (fun w_ s_ => split_calls _ _ (by omega) w_) ?_)
  refine GL_rd rfl (by decide) (rd_move rfl) ?_
  refine GL_rd rfl (by decide) (rd_extract rfl rfl) ?_
  refine GL_rd rfl (by decide) (rd_extract rfl rfl) ?_
  refine GL_rd rfl (by decide) (rd_extract rfl rfl) ?_
  refine GL_rd rfl (by decide) (rd_assign rfl) ?_
  refine GL_rd rfl (by decide) (rd_assign rfl) ?_
  refine GL_rd rfl (by decide) (rd_assign rfl) ?_
  refine GL_nil ?_
  refine GE_then ?_
  refine GC_seq ?_
  refine GC_region ?_
  refine GL_rd rfl (by decide) (rd_move rfl) ?_
  first
    | refine GL_rd rfl (by decide) (rd_quo_ rfl rfl (by omega) (by omega) (by omega)) ?_
    | refine GL_rd rfl (by decide) (rd_quo_s rfl rfl (by omega) (by omega) (by omega)) ?_
    | refine GL_rd rfl (by decide) (rd_quo rfl rfl (by omega)) ?_
  refine GL_rd rfl (by decide) (rd_move rfl) ?_
  first
    | refine GL_rd rfl (by decide) (rd_quo_ rfl rfl (by omega) (by omega) (by omega)) ?_
    | refine GL_rd rfl (by decide) (rd_quo_s rfl rfl (by omega) (by omega) (by omega)) ?_
    | refine GL_rd rfl (by decide) (rd_quo rfl rfl (by omega)) ?_
  first
    | refine GL_rd rfl (by decide) (rd_rem_ rfl rfl (by omega) (by omega)) ?_
    | refine GL_rd rfl (by decide) (rd_rem rfl rfl (by omega)) ?_
  refine GL_rd rfl (by decide) (rd_move rfl) ?_
  first
    | refine GL_rd rfl (by decide) (rd_rem_ rfl rfl (by omega) (by omega)) ?_
    | refine GL_rd rfl (by decide) (rd_rem rfl rfl (by omega)) ?_
  refine GL_rd rfl (by decide) (rd_assign rfl) ?_
  refine GL_rd rfl (by decide) (rd_assign rfl) ?_
  refine GL_rd rfl (by decide) (rd_assign rfl) ?_
  refine GL_nil ?_
  refine GE_then ?_
  refine GC_ret ?_
  refine GE_ret3 (.inl rfl) rfl (res_tmp rfl) (res_tmp rfl) (res_tmp rfl) fun w_ s_ => ⟨?_, s_.toBelow⟩
  exact ret3_ rfl rfl rfl
theorem month_calls (x n : Int) (hx : 0 ≤ x ∧ x ≤ 1000000000000000) (w : World) : Calls Go.Proofs.Tryz.prog 34 #[.agg #[.int .i64 x, .int .i64 n]] w fun e w' => e = .returned (.int .i64 (Cal.monthOf (x / 86400))) ∧ Below w.heap.size w w' := by
  refine calls_GC (args := [.agg #[.int .i64 x, .int .i64 n]]) (L := [(0, .agg #[.int .i64 x, .int .i64 n])]) (N := 13) Tryz.func34 rfl rfl (Nat.le_of_ble_eq_true rfl) rfl (Sees.start (fun _ => False) w) ?_
  refine GC_seq ?_
  refine GC_region ?_
  refine GL_at rfl (at_box 50 (by decide) rfl rfl rfl (fun o ho => by repeat (first | rfl | rw [lkp_put_ne (by decide) ho _ _ (Nat.le_of_ble_eq_true rfl)] | rw [lkp_seq_ne (by decide) ho _ _ (Nat.le_of_ble_eq_true rfl)] | rw [lkp_ky_ne (by decide) ho (by decide)])) (Nat.le_of_ble_eq_true rfl) (fun b1_ hbb1_ => ?_))
  refine GL_rd rfl (by decide) (rd_assign rfl) ?_
  refine GL_nil ?_
  refine GE_then ?_
  refine GC_seq ?_
  refine GC_region ?_
  refine GL_rd rfl (by decide) (rd_load2 50 rfl rfl rfl rfl (by kernel_rfl) (by decide)) ?_
  refine GL_at rfl (at_call_v (by decide) (by kernel_rfl) rfl (fun w_ s_ => date_calls _ _ (by omega) w_) ?_)
  refine GL_rd rfl (by decide) (rd_move rfl) ?_
  refine GL_rd rfl (by decide) (rd_extract rfl rfl) ?_
  refine GL_rd rfl (by decide) (rd_extract rfl rfl) ?_
  refine GL_rd rfl (by decide) (rd_extract rfl rfl) ?_
  refine GL_rd rfl (by decide) (rd_assign rfl) ?_
  refine GL_rd rfl (by decide) (rd_assign rfl) ?_
  refine GL_rd rfl (by decide) (rd_assign rfl) ?_
  refine GL_nil ?_
  refine GE_then ?_
  refine GC_seq ?_
  refine GC_region ?_
  refine GL_rd rfl (by decide) (rd_move rfl) ?_
  refine GL_rd rfl (by decide) (rd_assign rfl) ?_
  refine GL_nil ?_
  refine GE_then ?_
  refine GC_ret ?_
  refine GE_ret1 (.inl rfl) rfl (res_tmp rfl) fun w_ s_ => ⟨?_, s_.toBelow⟩
  exact ret1_ rfl
theorem day_calls (x n : Int) (hx : 0 ≤ x ∧ x ≤ 1000000000000000) (w : World) : Calls Go.Proofs.Tryz.prog 35 #[.agg #[.int .i64 x, .int .i64 n]] w fun e w' => e = .returned (.int .i64 (Cal.mdayOf (x / 86400))) ∧ Below w.heap.size w w' := by
  refine calls_GC (args := [.agg #[.int .i64 x, .int .i64 n]]) (L := [(0, .agg #[.int .i64 x, .int .i64 n])]) (N := 13) Tryz.func35 rfl rfl (Nat.le_of_ble_eq_true rfl) rfl (Sees.start (fun _ => False) w) ?_
  refine GC_seq ?_
  refine GC_region ?_
  refine GL_at rfl (at_box 50 (by decide) rfl rfl rfl (fun o ho => by repeat (first | rfl | rw [lkp_put_ne (by decide) ho _ _ (Nat.le_of_ble_eq_true rfl)] | rw [lkp_seq_ne (by decide) ho _ _ (Nat.le_of_ble_eq_true rfl)] | rw [lkp_ky_ne (by decide) ho (by decide)])) (Nat.le_of_ble_eq_true rfl) (fun b1_ hbb1_ => ?_))
  refine GL_rd rfl (by decide) (rd_assign rfl) ?_
  refine GL_nil ?_
  refine GE_then ?_
  refine GC_seq ?_
  refine GC_region ?_
  refine GL_rd rfl (by decide) (rd_load2 50 rfl rfl rfl rfl (by kernel_rfl) (by decide)) ?_
  refine GL_at rfl (at_call_v (by decide) (by kernel_rfl) rfl (fun w_ s_ => date_calls _ _ (by omega) w_) ?_)
  refine GL_rd rfl (by decide) (rd_move rfl) ?_
  refine GL_rd rfl (by decide) (rd_extract rfl rfl) ?_
  refine GL_rd rfl (by decide) (rd_extract rfl rfl) ?_
  refine GL_rd rfl (by decide) (rd_extract rfl rfl) ?_
  refine GL_rd rfl (by decide) (rd_assign rfl) ?_
  refine GL_rd rfl (by decide) (rd_assign rfl) ?_
  refine GL_rd rfl (by decide) (rd_assign rfl) ?_
  refine GL_nil ?_
  refine GE_then ?_
  refine GC_seq ?_
  refine GC_region ?_
  refine GL_rd rfl (by decide) (rd_move rfl) ?_
  refine GL_rd rfl (by decide) (rd_assign rfl) ?_
  refine GL_nil ?_
  refine GE_then ?_
  refine GC_ret ?_
  refine GE_ret1 (.inl rfl) rfl (res_tmp rfl) fun w_ s_ => ⟨?_, s_.toBelow⟩
  exact ret1_ rfl
theorem hour_calls (x n : Int) (hx : 0 ≤ x ∧ x ≤ 1000000000000000) (w : World) : Calls Go.Proofs.Tryz.prog 36 #[.agg #[.int .i64 x, .int .i64 n]] w fun e w' => e = .returned (.int .i64 (x % 86400 / 3600)) ∧ Below w.heap.size w w' := by
  refine calls_GC (args := [.agg #[.int .i64 x, .int .i64 n]]) (L := [(0, .agg #[.int .i64 x, .int .i64 n])]) (N := 13) Tryz.func36 rfl rfl (Nat.le_of_ble_eq_true rfl) rfl (Sees.start (fun _ => False) w) ?_
  refine GC_seq ?_
  refine GC_region ?_
  refine GL_at rfl (at_box 50 (by decide) rfl rfl rfl (fun o ho => by repeat (first | rfl | rw [lkp_put_ne (by decide) ho _ _ (Nat.le_of_ble_eq_true rfl)] | rw [lkp_seq_ne (by decide) ho _ _ (Nat.le_of_ble_eq_true rfl)] | rw [lkp_ky_ne (by decide) ho (by decide)])) (Nat.le_of_ble_eq_true rfl) (fun b1_ hbb1_ => ?_))
  refine GL_rd rfl (by decide) (rd_assign rfl) ?_
  refine GL_nil ?_
  refine GE_then ?_
  refine GC_seq ?_
  refine GC_region ?_
  refine GL_rd rfl (by decide) (rd_load2 50 rfl rfl rfl rfl (by kernel_rfl) (by decide)) ?_
  refine GL_at rfl (at_call_v (by decide) (by kernel_rfl) rfl (fun w_ s_ => clock_calls _ _ (by omega) w_) ?_)
  refine GL_rd rfl (by decide) (rd_move rfl) ?_
  refine GL_rd rfl (by decide) (rd_extract rfl rfl) ?_
  refine GL_rd rfl (by decide) (rd_extract rfl rfl) ?_
  refine GL_rd rfl (by decide) (rd_extract rfl rfl) ?_
  refine GL_rd rfl (by decide) (rd_assign rfl) ?_
  refine GL_rd rfl (by decide) (rd_assign rfl) ?_
  refine GL_rd rfl (by decide) (rd_assign rfl) ?_
  refine GL_nil ?_
  refine GE_then ?_
  refine GC_seq ?_
  refine GC_region ?_
  refine GL_rd rfl (by decide) (rd_move rfl) ?_
  refine GL_rd rfl (by decide) (rd_assign rfl) ?_
  refine GL_nil ?_
  refine GE_then ?_
  refine GC_ret ?_
  refine GE_ret1 (.inl rfl) rfl (res_tmp rfl) fun w_ s_ => ⟨?_, s_.toBelow⟩
  exact ret1_ rfl
theorem minute_calls (x n : Int) (hx : 0 ≤ x ∧ x ≤ 1000000000000000) (w : World) : Calls Go.Proofs.Tryz.prog 37 #[.agg #[.int .i64 x, .int .i64 n]] w fun e w' => e = .returned (.int .i64 (x % 86400 / 60 % 60)) ∧ Below w.heap.size w w' := by
  refine calls_GC (args := [.agg #[.int .i64 x, .int .i64 n]]) (L := [(0, .agg #[.int .i64 x, .int .i64 n])]) (N := 13) Tryz.func37 rfl rfl (Nat.le_of_ble_eq_true rfl) rfl (Sees.start (fun _ => False) w) ?_
  refine GC_seq ?_
  refine GC_region ?_
  refine GL_at rfl (at_box 50 (by decide) rfl rfl rfl (fun o ho => by repeat (first | rfl | rw [lkp_put_ne (by decide) ho _ _ (Nat.le_of_ble_eq_true rfl)] | rw [lkp_seq_ne (by decide) ho _ _ (Nat.le_of_ble_eq_true rfl)] | rw [lkp_ky_ne (by decide) ho (by decide)])) (Nat.le_of_ble_eq_true rfl) (fun b1_ hbb1_ => ?_))
  refine GL_rd rfl (by decide) (rd_assign rfl) ?_
  refine GL_nil ?_
  refine GE_then ?_
  refine GC_seq ?_
  refine GC_region ?_
  refine GL_rd rfl (by decide) (rd_load2 50 rfl rfl rfl rfl (by kernel_rfl) (by decide)) ?_
  refine GL_at rfl (at_call_v (by decide) (by kernel_rfl) rfl (fun w_ s_ => clock_calls _ _ (by omega) w_) ?_)
  refine GL_rd rfl (by decide) (rd_move rfl) ?_
  refine GL_rd rfl (by decide) (rd_extract rfl rfl) ?_
  refine GL_rd rfl (by decide) (rd_extract rfl rfl) ?_
  refine GL_rd rfl (by decide) (rd_extract rfl rfl) ?_
  refine GL_rd rfl (by decide) (rd_assign rfl) ?_
  refine GL_rd rfl (by decide) (rd_assign rfl) ?_
  refine GL_rd rfl (by decide) (rd_assign rfl) ?_
  refine GL_nil ?_
  refine GE_then ?_
  refine GC_seq ?_
  refine GC_region ?_
  refine GL_rd rfl (by decide) (rd_move rfl) ?_
  refine GL_rd rfl (by decide) (rd_assign rfl) ?_
  refine GL_nil ?_
  refine GE_then ?_
  refine GC_ret ?_
  refine GE_ret1 (.inl rfl) rfl (res_tmp rfl) fun w_ s_ => ⟨?_, s_.toBelow⟩
  exact ret1_ rfl
theorem second_calls (x n : Int) (hx : 0 ≤ x ∧ x ≤ 1000000000000000) (w : World) : Calls Go.Proofs.Tryz.prog 38 #[.agg #[.int .i64 x, .int .i64 n]] w fun e w' => e = .returned (.int .i64 (x % 86400 % 60)) ∧ Below w.heap.size w w' := by
  refine calls_GC (args := [.agg #[.int .i64 x, .int .i64 n]]) (L := [(0, .agg #[.int .i64 x, .int .i64 n])]) (N := 13) Tryz.func38 rfl rfl (Nat.le_of_ble_eq_true rfl) rfl (Sees.start (fun _ => False) w) ?_
  refine GC_seq ?_
  refine GC_region ?_
  refine GL_at rfl (at_box 50 (by decide) rfl rfl rfl (fun o ho => by repeat (first | rfl | rw [lkp_put_ne (by decide) ho _ _ (Nat.le_of_ble_eq_true rfl)] | rw [lkp_seq_ne (by decide) ho _ _ (Nat.le_of_ble_eq_true rfl)] | rw [lkp_ky_ne (by decide) ho (by decide)])) (Nat.le_of_ble_eq_true rfl) (fun b1_ hbb1_ => ?_))
  refine GL_rd rfl (by decide) (rd_assign rfl) ?_
  refine GL_nil ?_
  refine GE_then ?_
  refine GC_seq ?_
  refine GC_region ?_
  refine GL_rd rfl (by decide) (rd_load2 50 rfl rfl rfl rfl (by kernel_rfl) (by decide)) ?_
  refine GL_at rfl (at_call_v (by decide) (by kernel_rfl) rfl (fun w_ s_ => clock_calls _ _ (by omega) w_) ?_)
  refine GL_rd rfl (by decide) (rd_move rfl) ?_
  refine GL_rd rfl (by decide) (rd_extract rfl rfl) ?_
  refine GL_rd rfl (by decide) (rd_extract rfl rfl) ?_
  refine GL_rd rfl (by decide) (rd_extract rfl rfl) ?_
  refine GL_rd rfl (by decide) (rd_assign rfl) ?_
  refine GL_rd rfl (by decide) (rd_assign rfl) ?_
  refine GL_rd rfl (by decide) (rd_assign rfl) ?_
  refine GL_nil ?_
  refine GE_then ?_
  refine GC_seq ?_
  refine GC_region ?_
  refine GL_rd rfl (by decide) (rd_move rfl) ?_
  refine GL_rd rfl (by decide) (rd_assign rfl) ?_
  refine GL_nil ?_
  refine GE_then ?_
  refine GC_ret ?_
  refine GE_ret1 (.inl rfl) rfl (res_tmp rfl) fun w_ s_ => ⟨?_, s_.toBelow⟩
  exact ret1_ rfl
theorem yearDay_calls (x n : Int) (hx : 0 ≤ x ∧ x ≤ 1000000000000000) (w : World) : Calls Go.Proofs.Tryz.prog 58 #[.agg #[.int .i64 x, .int .i64 n]] w fun e w' => e = .returned (.int .i64 (Cal.ydayOf (x / 86400) + 1)) ∧ Below w.heap.size w w' := by
  refine calls_GC (args := [.agg #[.int .i64 x, .int .i64 n]]) (L := [(0, .agg #[.int .i64 x, .int .i64 n])]) (N := 14) Tryz.func58 rfl rfl (Nat.le_of_ble_eq_true rfl) rfl (Sees.start (fun _ => False) w) ?_
  have hbd := split_bd0 hx
  have hsp := (Cal.split_spec (x / 86400)).2.2
  refine GC_seq ?_
  refine GC_region ?_
  refine GL_at rfl (at_box 50 (by decide) rfl rfl rfl (fun o ho => by repeat (first | rfl | rw [lkp_put_ne (by decide) ho _ _ (Nat.le_of_ble_eq_true rfl)] | rw [lkp_seq_ne (by decide) ho _ _ (Nat.le_of_ble_eq_true rfl)] | rw [lkp_ky_ne (by decide) ho (by decide)])) (Nat.le_of_ble_eq_true rfl) (fun b1_ hbb1_ => ?_))
  refine GL_rd rfl (by decide) (rd_assign rfl) ?_
  refine GL_nil ?_
  refine GE_then ?_
  refine GC_seq ?_
  refine GC_region ?_
  refine GL_rd rfl (by decide) (rd_load2 50 rfl rfl rfl rfl (by kernel_rfl) (by decide)) ?_
  refine GL_at rfl (at_call_v (by decide) (by kernel_rfl) rfl (fun w_ s_ => split_calls _ _ (by omega) w_) ?_)
  refine GL_rd rfl (by decide) (rd_move rfl) ?_
  refine GL_rd rfl (by decide) (rd_extract rfl rfl) ?_
  refine GL_rd rfl (by decide) (rd_extract rfl rfl) ?_
  refine GL_rd rfl (by decide) (rd_extract rfl rfl) ?_
  refine GL_rd rfl (by decide) (rd_assign rfl) ?_
  refine GL_rd rfl (by decide) (rd_assign rfl) ?_
  refine GL_rd rfl (by decide) (rd_assign rfl) ?_
  refine GL_nil ?_
  refine GE_then ?_
  refine GC_seq ?_
  refine GC_region ?_
  refine GL_rd rfl (by decide) (rd_move rfl) ?_
  first
    | refine GL_rd rfl (by decide) (rd_add_ rfl rfl (by omega)) ?_
    | refine GL_rd rfl (by decide) (rd_add rfl rfl) ?_
  refine GL_rd rfl (by decide) (rd_assign rfl) ?_
  refine GL_nil ?_
  refine GE_then ?_
  refine GC_ret ?_
  refine GE_ret1 (.inl rfl) rfl (res_tmp rfl) fun w_ s_ => ⟨?_, s_.toBelow⟩
  exact ret1_ rfl
theorem weekday_calls (x n : Int) (hx : -1000000000000000 ≤ x ∧ x ≤ 1000000000000000) (w : World) : Calls Go.Proofs.Tryz.prog 23 #[.agg #[.int .i64 x, .int .i64 n]] w fun e w' => e = .returned (.int .i64 ((x / 86400 + 1) % 7)) ∧ Below w.heap.size w w' := by
  refine calls_GC (args := [.agg #[.int .i64 x, .int .i64 n]]) (L := [(0, .agg #[.int .i64 x, .int .i64 n])]) (N := 13) Tryz.func23 rfl rfl (Nat.le_of_ble_eq_true rfl) rfl (Sees.start (fun _ => False) w) ?_
  refine GC_seq ?_
  refine GC_region ?_
  refine GL_at rfl (at_box 50 (by decide) rfl rfl rfl (fun o ho => by repeat (first | rfl | rw [lkp_put_ne (by decide) ho _ _ (Nat.le_of_ble_eq_true rfl)] | rw [lkp_seq_ne (by decide) ho _ _ (Nat.le_of_ble_eq_true rfl)] | rw [lkp_ky_ne (by decide) ho (by decide)])) (Nat.le_of_ble_eq_true rfl) (fun b1_ hbb1_ => ?_))
  refine GL_rd rfl (by decide) (rd_assign rfl) ?_
  refine GL_nil ?_
  refine GE_then ?_
  refine GC_seq ?_
  refine GC_region ?_
  refine GL_rd rfl (by decide) (rd_fieldAddr (j := 0) (by kernel_rfl) rfl) ?_
  refine GL_rd rfl (by decide) (rd_load 50 rfl rfl rfl (by kernel_rfl) (by decide)) ?_
  refine GL_at rfl (at_call_v (by decide) (by kernel_rfl) rfl (fun w_ s_ => floor_calls _ _ (by omega) (by omega) (by omega) w_) ?_)
  first
    | refine GL_rd rfl (by decide) (rd_add_ rfl rfl (by omega)) ?_
    | refine GL_rd rfl (by decide) (rd_add rfl rfl) ?_
  refine GL_rd rfl (by decide) (rd_assign rfl) ?_
  refine GL_nil ?_
  refine GE_then ?_
  refine GC_seq ?_
  refine GC_region ?_
  refine GL_rd rfl (by decide) (rd_move rfl) ?_
  refine GL_rd rfl (by decide) (rd_move rfl) ?_
  refine GL_at rfl (at_call_v (by decide) (by kernel_rfl) rfl (fun w_ s_ => floor_calls _ _ (by omega) (by omega) (by omega) w_) ?_)
  first
    | refine GL_rd rfl (by decide) (rd_mul_ rfl rfl (by omega)) ?_
    | refine GL_rd rfl (by decide) (rd_mul rfl rfl) ?_
  first
    | refine GL_rd rfl (by decide) (rd_sub_ rfl rfl (by omega)) ?_
    | refine GL_rd rfl (by decide) (rd_sub rfl rfl) ?_
  refine GL_rd rfl (by decide) (rd_assign rfl) ?_
  refine GL_nil ?_
  refine GE_then ?_
  refine GC_ret ?_
  refine GE_ret1 (.inl rfl) rfl (res_tmp rfl) fun w_ s_ => ⟨?_, s_.toBelow⟩
  exact ret1_ (by omega)
theorem seconds_calls (x n : Int) (w : World) : Calls Go.Proofs.Tryz.prog 14 #[.agg #[.int .i64 x, .int .i64 n]] w fun e w' => e = .returned (.int .i64 x) ∧ Below w.heap.size w w' := by
  refine calls_GC (args := [.agg #[.int .i64 x, .int .i64 n]]) (L := [(0, .agg #[.int .i64 x, .int .i64 n])]) (N := 5) Tryz.func14 rfl rfl (Nat.le_of_ble_eq_true rfl) rfl (Sees.start (fun _ => False) w) ?_
  refine GC_seq ?_
  refine GC_region ?_
  refine GL_at rfl (at_box 50 (by decide) rfl rfl rfl (fun o ho => by repeat (first | rfl | rw [lkp_put_ne (by decide) ho _ _ (Nat.le_of_ble_eq_true rfl)] | rw [lkp_seq_ne (by decide) ho _ _ (Nat.le_of_ble_eq_true rfl)] | rw [lkp_ky_ne (by decide) ho (by decide)])) (Nat.le_of_ble_eq_true rfl) (fun b1_ hbb1_ => ?_))
  refine GL_rd rfl (by decide) (rd_assign rfl) ?_
  refine GL_nil ?_
  refine GE_then ?_
  refine GC_seq ?_
  refine GC_region ?_
  refine GL_rd rfl (by decide) (rd_fieldAddr (j := 0) (by kernel_rfl) rfl) ?_
  refine GL_rd rfl (by decide) (rd_load 50 rfl rfl rfl (by kernel_rfl) (by decide)) ?_
  refine GL_rd rfl (by decide) (rd_assign rfl) ?_
  refine GL_nil ?_
  refine GE_then ?_
  refine GC_ret ?_
  refine GE_ret1 (.inl rfl) rfl (res_tmp rfl) fun w_ s_ => ⟨?_, s_.toBelow⟩
  first | rfl | (simp; done)
theorem nanosecond_calls (x n : Int) (hn : 0 ≤ n ∧ n < 1000000000) (w : World) : Calls Go.Proofs.Tryz.prog 76 #[.agg #[.int .i64 x, .int .i64 n]] w fun e w' => e = .returned (.int .i64 n) ∧ Below w.heap.size w w' := by
  refine calls_GC (args := [.agg #[.int .i64 x, .int .i64 n]]) (L := [(0, .agg #[.int .i64 x, .int .i64 n])]) (N := 5) Tryz.func76 rfl rfl (Nat.le_of_ble_eq_true rfl) rfl (Sees.start (fun _ => False) w) ?_
  refine GC_seq ?_
  refine GC_region ?_
  refine GL_at rfl (at_box 50 (by decide) rfl rfl rfl (fun o ho => by repeat (first | rfl | rw [lkp_put_ne (by decide) ho _ _ (Nat.le_of_ble_eq_true rfl)] | rw [lkp_seq_ne (by decide) ho _ _ (Nat.le_of_ble_eq_true rfl)] | rw [lkp_ky_ne (by decide) ho (by decide)])) (Nat.le_of_ble_eq_true rfl) (fun b1_ hbb1_ => ?_))
  refine GL_rd rfl (by decide) (rd_assign rfl) ?_
  refine GL_nil ?_
  refine GE_then ?_
  refine GC_seq ?_
  refine GC_region ?_
  refine GL_rd rfl (by decide) (rd_fieldAddr (j := 1) (by kernel_rfl) rfl) ?_
  refine GL_rd rfl (by decide) (rd_load 50 rfl rfl rfl (by kernel_rfl) (by decide)) ?_
  refine GL_rd rfl (by decide) (rd_assign rfl) ?_
  refine GL_nil ?_
  refine GE_then ?_
  refine GC_ret ?_
  refine GE_ret1 (.inl rfl) rfl (res_tmp rfl) fun w_ s_ => ⟨?_, s_.toBelow⟩
  first | rfl | (simp; done)
theorem of_calls (x : Int) (w : World) : Calls Go.Proofs.Tryz.prog 19 #[.int .i64 x] w fun e w' => e = .returned (.agg #[.int .i64 x, .int .i64 0]) ∧ Below w.heap.size w w' := by
  refine calls_GC (args := [.int .i64 x]) (L := [(0, .int .i64 x)]) (N := 5) Tryz.func19 rfl rfl (Nat.le_of_ble_eq_true rfl) rfl (Sees.start (fun _ => False) w) ?_
  refine GC_seq ?_
  refine GC_region ?_
  refine GL_at rfl (at_alloc 50 (cs := [.int .i64 0, .int .i64 0]) (by decide) (by kernel_rfl) rfl (fun o ho => by repeat (first | rfl | rw [lkp_put_ne (by decide) ho _ _ (Nat.le_of_ble_eq_true rfl)] | rw [lkp_seq_ne (by decide) ho _ _ (Nat.le_of_ble_eq_true rfl)] | rw [lkp_ky_ne (by decide) ho (by decide)])) (Nat.le_of_ble_eq_true rfl) (fun b1_ hbb1_ => ?_))
  refine GL_nil ?_
  refine GE_then ?_
  refine GC_seq ?_
  refine GC_region ?_
  refine GL_rd rfl (by decide) (rd_move rfl) ?_
  refine GL_rd rfl (by decide) (rd_build1 (k2 := .i64) (n := 0) rfl (fun w => by kernel_rfl)) ?_
  refine GL_at rfl (at_storeAgg 50 rfl rfl rfl rfl (by kernel_rfl) rfl (Nat.le_of_ble_eq_true rfl) ?_)
  refine GL_nil ?_
  refine GE_then ?_
  refine GC_ret ?_
  refine GE_ret1 (.inl rfl) rfl (res_cell2 50 rfl rfl rfl rfl (by kernel_rfl)) fun w_ s_ => ⟨?_, s_.toBelow⟩
  first | rfl | (simp; done)
end
end Go.Proofs.YtfcklceejjmjeaaGreat
