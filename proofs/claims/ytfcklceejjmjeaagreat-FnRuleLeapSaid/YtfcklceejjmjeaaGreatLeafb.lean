/-
  What the small functions on moments and lists give, second part.
-/
import Derived.Test.YtfcklceejjmjeaaGreatProg
import Derived.Test.YtfcklceejjmjeaaGreatMd
import Derived.Test.YtfcklceejjmjeaaGreatFg
import Derived.Test.YtfcklceejjmjeaaGreatLeaf
set_option linter.unusedVariables false
set_option linter.unusedSimpArgs false
set_option maxRecDepth 100000
set_option maxHeartbeats 8000000
namespace Go.Proofs.YtfcklceejjmjeaaGreat
open Go.RowKit Go.Fr Go.Tab
section
variable {F : Nat → Prop} {w0 : World} {B : List (Nat × Nat)} {H : List (Nat × Value)} {S : List (Nat × Slc)}

theorem at_calls (x : Int) (hx : (-4000000000000000000 ≤ x ∧ x ≤ 4000000000000000000)) (w : World) : Calls Go.Proofs.Tryz.prog 31 #[.int .i64 x] w fun e w' => e = .returned (.agg #[.int .i64 (x + 62135596800), .int .i64 0]) ∧ Below w.heap.size w w' := by
  refine calls_GC (args := [.int .i64 x]) (L := [(0, .int .i64 x)]) (N := 6) Tryz.func31 rfl rfl (Nat.le_of_ble_eq_true rfl) rfl (Sees.start (fun _ => False) w) ?_
  refine GC_seq ?_
  refine GC_region ?_
  refine GL_at rfl (at_alloc 50 (cs := [.int .i64 0, .int .i64 0]) (by decide) (by kernel_rfl) rfl (fun o ho => by repeat (first | rfl | rw [lkp_put_ne (by decide) ho _ _ (Nat.le_of_ble_eq_true rfl)] | rw [lkp_seq_ne (by decide) ho _ _ (Nat.le_of_ble_eq_true rfl)] | rw [lkp_ky_ne (by decide) ho (by decide)])) (Nat.le_of_ble_eq_true rfl) (fun b1_ hbb1_ => ?_))
  refine GL_nil ?_
  refine GE_then ?_
  refine GC_seq ?_
  refine GC_region ?_
  refine GL_rd rfl (by decide) (rd_move rfl) ?_
  first
    | refine GL_rd rfl (by decide) (rd_add_ rfl rfl (by omega)) ?_
    | refine GL_rd rfl (by decide) (rd_add rfl rfl) ?_
  refine GL_rd rfl (by decide) (rd_build1 (k2 := .i64) (n := 0) rfl (fun w => by kernel_rfl)) ?_
  refine GL_at rfl (at_storeAgg 50 rfl rfl rfl rfl (by kernel_rfl) rfl (Nat.le_of_ble_eq_true rfl) ?_)
  refine GL_nil ?_
  refine GE_then ?_
  refine GC_ret ?_
  refine GE_ret1 (.inl rfl) rfl (res_cell2 50 rfl rfl rfl rfl (by kernel_rfl)) fun w_ s_ => ⟨?_, s_.toBelow⟩
  first | rfl | (simp; done)
theorem truncate_calls (x n d : Int) (w : World) : Calls Go.Proofs.Tryz.prog 32 #[.agg #[.int .i64 x, .int .i64 n], .int .i64 d] w fun e w' => e = .returned (.agg #[.int .i64 x, .int .i64 0]) ∧ Below w.heap.size w w' := by
  refine calls_GC (args := [.agg #[.int .i64 x, .int .i64 n], .int .i64 d]) (L := [(0, .agg #[.int .i64 x, .int .i64 n]), (1, .int .i64 d)]) (N := 8) Tryz.func32 rfl rfl (Nat.le_of_ble_eq_true rfl) rfl (Sees.start (fun _ => False) w) ?_
  refine GC_seq ?_
  refine GC_region ?_
  refine GL_at rfl (at_box 50 (by decide) rfl rfl rfl (fun o ho => by repeat (first | rfl | rw [lkp_put_ne (by decide) ho _ _ (Nat.le_of_ble_eq_true rfl)] | rw [lkp_seq_ne (by decide) ho _ _ (Nat.le_of_ble_eq_true rfl)] | rw [lkp_ky_ne (by decide) ho (by decide)])) (Nat.le_of_ble_eq_true rfl) (fun b1_ hbb1_ => ?_))
  refine GL_at rfl (at_alloc 51 (cs := [.int .i64 0, .int .i64 0]) (by decide) (by kernel_rfl) rfl (fun o ho => by repeat (first | rfl | rw [lkp_put_ne (by decide) ho _ _ (Nat.le_of_ble_eq_true rfl)] | rw [lkp_seq_ne (by decide) ho _ _ (Nat.le_of_ble_eq_true rfl)] | rw [lkp_ky_ne (by decide) ho (by decide)])) (Nat.le_of_ble_eq_true rfl) (fun b2_ hbb2_ => ?_))
  refine GL_nil ?_
  refine GE_then ?_
  refine GC_seq ?_
  refine GC_region ?_
  refine GL_rd rfl (by decide) (rd_fieldAddr (j := 0) (by kernel_rfl) rfl) ?_
  refine GL_rd rfl (by decide) (rd_load 50 rfl rfl rfl (by kernel_rfl) (by decide)) ?_
  refine GL_rd rfl (by decide) (rd_build1 (k2 := .i64) (n := 0) rfl (fun w => by kernel_rfl)) ?_
  refine GL_at rfl (at_storeAgg 51 rfl rfl rfl rfl (by kernel_rfl) rfl (Nat.le_of_ble_eq_true rfl) ?_)
  refine GL_nil ?_
  refine GE_then ?_
  refine GC_ret ?_
  refine GE_ret1 (.inl rfl) rfl (res_cell2 51 rfl rfl rfl rfl (by kernel_rfl)) fun w_ s_ => ⟨?_, s_.toBelow⟩
  first | rfl | (simp; done)
theorem isZero_no (x n : Int) (h : x ≠ 0) (w : World) : Calls Go.Proofs.Tryz.prog 30 #[.agg #[.int .i64 x, .int .i64 n]] w fun e w' => e = .returned (.bool false) ∧ Below w.heap.size w w' := by
  refine calls_GC (args := [.agg #[.int .i64 x, .int .i64 n]]) (L := [(0, .agg #[.int .i64 x, .int .i64 n])]) (N := 11) Tryz.func30 rfl rfl (Nat.le_of_ble_eq_true rfl) rfl (Sees.start (fun _ => False) w) ?_
  refine GC_seq ?_
  refine GC_region ?_
  refine GL_at rfl (at_box 50 (by decide) rfl rfl rfl (fun o ho => by repeat (first | rfl | rw [lkp_put_ne (by decide) ho _ _ (Nat.le_of_ble_eq_true rfl)] | rw [lkp_seq_ne (by decide) ho _ _ (Nat.le_of_ble_eq_true rfl)] | rw [lkp_ky_ne (by decide) ho (by decide)])) (Nat.le_of_ble_eq_true rfl) (fun b1_ hbb1_ => ?_))
  refine GL_rd rfl (by decide) (rd_assign rfl) ?_
  refine GL_nil ?_
  refine GE_then ?_
  refine GC_seq ?_
  refine GC_region ?_
  refine GL_rd rfl (by decide) (rd_fieldAddr (j := 0) (by kernel_rfl) rfl) ?_
  refine GL_rd rfl (by decide) (rd_load 50 rfl rfl rfl (by kernel_rfl) (by decide)) ?_
  refine GL_rd rfl (by decide) ((rd_eql rfl rfl).to (congrArg Value.bool (b_ne h))) ?_
  refine GL_rd rfl (by decide) (rd_move rfl) ?_
  refine GL_pass (by decide) rfl rfl (by decide) ?_
  refine GL_pass (by decide) rfl rfl (by decide) ?_
  refine GL_pass (by decide) rfl rfl (by decide) ?_
  refine GL_rd rfl (by decide) (rd_pick rfl rfl rfl) ?_
  refine GL_rd rfl (by decide) (rd_assign rfl) ?_
  refine GL_nil ?_
  refine GE_then ?_
  refine GC_ret ?_
  refine GE_ret1 (.inl rfl) rfl (res_tmp rfl) fun w_ s_ => ⟨?_, s_.toBelow⟩
  first | rfl | (simp; done)
theorem isZero_yes (x n : Int) (h : x = 0) (w : World) : Calls Go.Proofs.Tryz.prog 30 #[.agg #[.int .i64 x, .int .i64 n]] w fun e w' => e = .returned (.bool (n == 0)) ∧ Below w.heap.size w w' := by
  refine calls_GC (args := [.agg #[.int .i64 x, .int .i64 n]]) (L := [(0, .agg #[.int .i64 x, .int .i64 n])]) (N := 11) Tryz.func30 rfl rfl (Nat.le_of_ble_eq_true rfl) rfl (Sees.start (fun _ => False) w) ?_
  refine GC_seq ?_
  refine GC_region ?_
  refine GL_at rfl (at_box 50 (by decide) rfl rfl rfl (fun o ho => by repeat (first | rfl | rw [lkp_put_ne (by decide) ho _ _ (Nat.le_of_ble_eq_true rfl)] | rw [lkp_seq_ne (by decide) ho _ _ (Nat.le_of_ble_eq_true rfl)] | rw [lkp_ky_ne (by decide) ho (by decide)])) (Nat.le_of_ble_eq_true rfl) (fun b1_ hbb1_ => ?_))
  refine GL_rd rfl (by decide) (rd_assign rfl) ?_
  refine GL_nil ?_
  refine GE_then ?_
  refine GC_seq ?_
  refine GC_region ?_
  refine GL_rd rfl (by decide) (rd_fieldAddr (j := 0) (by kernel_rfl) rfl) ?_
  refine GL_rd rfl (by decide) (rd_load 50 rfl rfl rfl (by kernel_rfl) (by decide)) ?_
  refine GL_rd rfl (by decide) ((rd_eql rfl rfl).to (congrArg Value.bool (b_eq h))) ?_
  refine GL_rd rfl (by decide) (rd_move rfl) ?_
  refine GL_take rfl rfl ?_
  refine GL_rd rfl (by decide) (rd_fieldAddr (j := 1) (by kernel_rfl) rfl) ?_
  refine GL_take rfl rfl ?_
  refine GL_rd rfl (by decide) (rd_load 50 rfl rfl rfl (by kernel_rfl) (by decide)) ?_
  refine GL_take rfl rfl ?_
  refine GL_rd rfl (by decide) (rd_eql rfl rfl) ?_
  refine GL_rd rfl (by decide) (rd_pick rfl rfl rfl) ?_
  refine GL_rd rfl (by decide) (rd_assign rfl) ?_
  refine GL_nil ?_
  refine GE_then ?_
  refine GC_ret ?_
  refine GE_ret1 (.inl rfl) rfl (res_tmp rfl) fun w_ s_ => ⟨?_, s_.toBelow⟩
  first | rfl | (simp; done)
theorem isZero_calls (x n : Int) (w : World) : Calls Go.Proofs.Tryz.prog 30 #[.agg #[.int .i64 x, .int .i64 n]] w fun e w' => e = .returned (.bool (decide (x = 0 ∧ n = 0))) ∧ Below w.heap.size w w' := by
  by_cases h : x = 0
  · refine (isZero_yes x n h w).mono fun e w' ⟨he, hb⟩ => ⟨he.trans (retb_ ?_), hb⟩
    by_cases h2 : n = 0 <;> simp [h, h2]
  · refine (isZero_no x n h w).mono fun e w' ⟨he, hb⟩ => ⟨he.trans (retb_ ?_), hb⟩
    simp [h]
theorem before_lt (x n y m : Int) (h : x < y) (w : World) : Calls Go.Proofs.Tryz.prog 79 #[.agg #[.int .i64 x, .int .i64 n], .agg #[.int .i64 y, .int .i64 m]] w fun e w' => e = .returned (.bool true) ∧ Below w.heap.size w w' := by
  refine calls_GC (args := [.agg #[.int .i64 x, .int .i64 n], .agg #[.int .i64 y, .int .i64 m]]) (L := [(0, .agg #[.int .i64 x, .int .i64 n]), (1, .agg #[.int .i64 y, .int .i64 m])]) (N := 24) Tryz.func79 rfl rfl (Nat.le_of_ble_eq_true rfl) rfl (Sees.start (fun _ => False) w) ?_
  refine GC_seq ?_
  refine GC_region ?_
  refine GL_at rfl (at_box 50 (by decide) rfl rfl rfl (fun o ho => by repeat (first | rfl | rw [lkp_put_ne (by decide) ho _ _ (Nat.le_of_ble_eq_true rfl)] | rw [lkp_seq_ne (by decide) ho _ _ (Nat.le_of_ble_eq_true rfl)] | rw [lkp_ky_ne (by decide) ho (by decide)])) (Nat.le_of_ble_eq_true rfl) (fun b1_ hbb1_ => ?_))
  refine GL_at rfl (at_box 51 (by decide) rfl rfl rfl (fun o ho => by repeat (first | rfl | rw [lkp_put_ne (by decide) ho _ _ (Nat.le_of_ble_eq_true rfl)] | rw [lkp_seq_ne (by decide) ho _ _ (Nat.le_of_ble_eq_true rfl)] | rw [lkp_ky_ne (by decide) ho (by decide)])) (Nat.le_of_ble_eq_true rfl) (fun b2_ hbb2_ => ?_))
  refine GL_rd rfl (by decide) (rd_assign rfl) ?_
  refine GL_nil ?_
  refine GE_then ?_
  refine GC_seq ?_
  refine GC_region ?_
  refine GL_rd rfl (by decide) (rd_fieldAddr (j := 0) (by kernel_rfl) rfl) ?_
  refine GL_rd rfl (by decide) (rd_load 50 rfl rfl rfl (by kernel_rfl) (by decide)) ?_
  refine GL_rd rfl (by decide) (rd_fieldAddr (j := 0) (by kernel_rfl) rfl) ?_
  refine GL_rd rfl (by decide) (rd_load 51 rfl rfl rfl (by kernel_rfl) (by decide)) ?_
  refine GL_rd rfl (by decide) ((rd_lss rfl rfl).to (congrArg Value.bool (decide_eq_true h))) ?_
  refine GL_rd rfl (by decide) (rd_move rfl) ?_
  refine GL_pass (by decide) rfl rfl (by decide) ?_
  refine GL_pass (by decide) rfl rfl (by decide) ?_
  refine GL_pass (by decide) rfl rfl (by decide) ?_
  refine GL_pass (by decide) rfl rfl (by decide) ?_
  refine GL_pass (by decide) rfl rfl (by decide) ?_
  refine GL_pass (by decide) rfl rfl (by decide) ?_
  refine GL_passu (by decide) rfl rfl ?_
  refine GL_passu (by decide) rfl rfl ?_
  refine GL_passu (by decide) rfl rfl ?_
  refine GL_passu (by decide) rfl rfl ?_
  refine GL_passu (by decide) rfl rfl ?_
  refine GL_pass (by decide) rfl rfl (by decide) ?_
  refine GL_rd rfl (by decide) (rd_pick rfl rfl rfl) ?_
  refine GL_rd rfl (by decide) (rd_assign rfl) ?_
  refine GL_nil ?_
  refine GE_then ?_
  refine GC_ret ?_
  refine GE_ret1 (.inl rfl) rfl (res_tmp rfl) fun w_ s_ => ⟨?_, s_.toBelow⟩
  first | rfl | (simp; done)
theorem before_eq (x n y m : Int) (h : x = y) (w : World) : Calls Go.Proofs.Tryz.prog 79 #[.agg #[.int .i64 x, .int .i64 n], .agg #[.int .i64 y, .int .i64 m]] w fun e w' => e = .returned (.bool (decide (n < m))) ∧ Below w.heap.size w w' := by
  refine calls_GC (args := [.agg #[.int .i64 x, .int .i64 n], .agg #[.int .i64 y, .int .i64 m]]) (L := [(0, .agg #[.int .i64 x, .int .i64 n]), (1, .agg #[.int .i64 y, .int .i64 m])]) (N := 24) Tryz.func79 rfl rfl (Nat.le_of_ble_eq_true rfl) rfl (Sees.start (fun _ => False) w) ?_
  refine GC_seq ?_
  refine GC_region ?_
  refine GL_at rfl (at_box 50 (by decide) rfl rfl rfl (fun o ho => by repeat (first | rfl | rw [lkp_put_ne (by decide) ho _ _ (Nat.le_of_ble_eq_true rfl)] | rw [lkp_seq_ne (by decide) ho _ _ (Nat.le_of_ble_eq_true rfl)] | rw [lkp_ky_ne (by decide) ho (by decide)])) (Nat.le_of_ble_eq_true rfl) (fun b1_ hbb1_ => ?_))
  refine GL_at rfl (at_box 51 (by decide) rfl rfl rfl (fun o ho => by repeat (first | rfl | rw [lkp_put_ne (by decide) ho _ _ (Nat.le_of_ble_eq_true rfl)] | rw [lkp_seq_ne (by decide) ho _ _ (Nat.le_of_ble_eq_true rfl)] | rw [lkp_ky_ne (by decide) ho (by decide)])) (Nat.le_of_ble_eq_true rfl) (fun b2_ hbb2_ => ?_))
  refine GL_rd rfl (by decide) (rd_assign rfl) ?_
  refine GL_nil ?_
  refine GE_then ?_
  refine GC_seq ?_
  refine GC_region ?_
  refine GL_rd rfl (by decide) (rd_fieldAddr (j := 0) (by kernel_rfl) rfl) ?_
  refine GL_rd rfl (by decide) (rd_load 50 rfl rfl rfl (by kernel_rfl) (by decide)) ?_
  refine GL_rd rfl (by decide) (rd_fieldAddr (j := 0) (by kernel_rfl) rfl) ?_
  refine GL_rd rfl (by decide) (rd_load 51 rfl rfl rfl (by kernel_rfl) (by decide)) ?_
  refine GL_rd rfl (by decide) ((rd_lss rfl rfl).to (congrArg Value.bool (decide_eq_false (show ¬ x < y by omega)))) ?_
  refine GL_rd rfl (by decide) (rd_move rfl) ?_
  refine GL_take rfl rfl ?_
  refine GL_rd rfl (by decide) (rd_fieldAddr (j := 0) (by kernel_rfl) rfl) ?_
  refine GL_take rfl rfl ?_
  refine GL_rd rfl (by decide) (rd_load 50 rfl rfl rfl (by kernel_rfl) (by decide)) ?_
  refine GL_take rfl rfl ?_
  refine GL_rd rfl (by decide) (rd_fieldAddr (j := 0) (by kernel_rfl) rfl) ?_
  refine GL_take rfl rfl ?_
  refine GL_rd rfl (by decide) (rd_load 51 rfl rfl rfl (by kernel_rfl) (by decide)) ?_
  refine GL_take rfl rfl ?_
  refine GL_rd rfl (by decide) ((rd_eql rfl rfl).to (congrArg Value.bool (b_eq h))) ?_
  refine GL_take rfl rfl ?_
  refine GL_rd rfl (by decide) (rd_move rfl) ?_
  refine GL_take rfl rfl ?_
  refine GL_rd rfl (by decide) (rd_fieldAddr (j := 1) (by kernel_rfl) rfl) ?_
  refine GL_take rfl rfl ?_
  refine GL_rd rfl (by decide) (rd_load 50 rfl rfl rfl (by kernel_rfl) (by decide)) ?_
  refine GL_take rfl rfl ?_
  refine GL_rd rfl (by decide) (rd_fieldAddr (j := 1) (by kernel_rfl) rfl) ?_
  refine GL_take rfl rfl ?_
  refine GL_rd rfl (by decide) (rd_load 51 rfl rfl rfl (by kernel_rfl) (by decide)) ?_
  refine GL_take rfl rfl ?_
  refine GL_rd rfl (by decide) (rd_lss rfl rfl) ?_
  refine GL_take rfl rfl ?_
  refine GL_rd rfl (by decide) (rd_pick rfl rfl rfl) ?_
  refine GL_rd rfl (by decide) (rd_pick rfl rfl rfl) ?_
  refine GL_rd rfl (by decide) (rd_assign rfl) ?_
  refine GL_nil ?_
  refine GE_then ?_
  refine GC_ret ?_
  refine GE_ret1 (.inl rfl) rfl (res_tmp rfl) fun w_ s_ => ⟨?_, s_.toBelow⟩
  first | rfl | (simp; done)
theorem before_gt (x n y m : Int) (h : ¬ x < y) (h2 : x ≠ y) (w : World) : Calls Go.Proofs.Tryz.prog 79 #[.agg #[.int .i64 x, .int .i64 n], .agg #[.int .i64 y, .int .i64 m]] w fun e w' => e = .returned (.bool false) ∧ Below w.heap.size w w' := by
  refine calls_GC (args := [.agg #[.int .i64 x, .int .i64 n], .agg #[.int .i64 y, .int .i64 m]]) (L := [(0, .agg #[.int .i64 x, .int .i64 n]), (1, .agg #[.int .i64 y, .int .i64 m])]) (N := 24) Tryz.func79 rfl rfl (Nat.le_of_ble_eq_true rfl) rfl (Sees.start (fun _ => False) w) ?_
  refine GC_seq ?_
  refine GC_region ?_
  refine GL_at rfl (at_box 50 (by decide) rfl rfl rfl (fun o ho => by repeat (first | rfl | rw [lkp_put_ne (by decide) ho _ _ (Nat.le_of_ble_eq_true rfl)] | rw [lkp_seq_ne (by decide) ho _ _ (Nat.le_of_ble_eq_true rfl)] | rw [lkp_ky_ne (by decide) ho (by decide)])) (Nat.le_of_ble_eq_true rfl) (fun b1_ hbb1_ => ?_))
  refine GL_at rfl (at_box 51 (by decide) rfl rfl rfl (fun o ho => by repeat (first | rfl | rw [lkp_put_ne (by decide) ho _ _ (Nat.le_of_ble_eq_true rfl)] | rw [lkp_seq_ne (by decide) ho _ _ (Nat.le_of_ble_eq_true rfl)] | rw [lkp_ky_ne (by decide) ho (by decide)])) (Nat.le_of_ble_eq_true rfl) (fun b2_ hbb2_ => ?_))
  refine GL_rd rfl (by decide) (rd_assign rfl) ?_
  refine GL_nil ?_
  refine GE_then ?_
  refine GC_seq ?_
  refine GC_region ?_
  refine GL_rd rfl (by decide) (rd_fieldAddr (j := 0) (by kernel_rfl) rfl) ?_
  refine GL_rd rfl (by decide) (rd_load 50 rfl rfl rfl (by kernel_rfl) (by decide)) ?_
  refine GL_rd rfl (by decide) (rd_fieldAddr (j := 0) (by kernel_rfl) rfl) ?_
  refine GL_rd rfl (by decide) (rd_load 51 rfl rfl rfl (by kernel_rfl) (by decide)) ?_
  refine GL_rd rfl (by decide) ((rd_lss rfl rfl).to (congrArg Value.bool (decide_eq_false h))) ?_
  refine GL_rd rfl (by decide) (rd_move rfl) ?_
  refine GL_take rfl rfl ?_
  refine GL_rd rfl (by decide) (rd_fieldAddr (j := 0) (by kernel_rfl) rfl) ?_
  refine GL_take rfl rfl ?_
  refine GL_rd rfl (by decide) (rd_load 50 rfl rfl rfl (by kernel_rfl) (by decide)) ?_
  refine GL_take rfl rfl ?_
  refine GL_rd rfl (by decide) (rd_fieldAddr (j := 0) (by kernel_rfl) rfl) ?_
  refine GL_take rfl rfl ?_
  refine GL_rd rfl (by decide) (rd_load 51 rfl rfl rfl (by kernel_rfl) (by decide)) ?_
  refine GL_take rfl rfl ?_
  refine GL_rd rfl (by decide) ((rd_eql rfl rfl).to (congrArg Value.bool (b_ne h2))) ?_
  refine GL_take rfl rfl ?_
  refine GL_rd rfl (by decide) (rd_move rfl) ?_
  refine GL_pass (by decide) rfl rfl (by decide) ?_
  refine GL_pass (by decide) rfl rfl (by decide) ?_
  refine GL_pass (by decide) rfl rfl (by decide) ?_
  refine GL_pass (by decide) rfl rfl (by decide) ?_
  refine GL_pass (by decide) rfl rfl (by decide) ?_
  refine GL_take rfl rfl ?_
  refine GL_rd rfl (by decide) (rd_pick rfl rfl rfl) ?_
  refine GL_rd rfl (by decide) (rd_pick rfl rfl rfl) ?_
  refine GL_rd rfl (by decide) (rd_assign rfl) ?_
  refine GL_nil ?_
  refine GE_then ?_
  refine GC_ret ?_
  refine GE_ret1 (.inl rfl) rfl (res_tmp rfl) fun w_ s_ => ⟨?_, s_.toBelow⟩
  first | rfl | (simp; done)
theorem before_calls (x n y m : Int) (w : World) : Calls Go.Proofs.Tryz.prog 79 #[.agg #[.int .i64 x, .int .i64 n], .agg #[.int .i64 y, .int .i64 m]] w fun e w' => e = .returned (.bool (decide (x < y ∨ x = y ∧ n < m))) ∧ Below w.heap.size w w' := by
  by_cases h : x < y
  · refine (before_lt x n y m h w).mono fun e w' ⟨he, hb⟩ => ⟨he.trans (retb_ ?_), hb⟩
    simp [h]
  · by_cases h2 : x = y
    · refine (before_eq x n y m h2 w).mono fun e w' ⟨he, hb⟩ => ⟨he.trans (retb_ ?_), hb⟩
      simp [h2]
    · refine (before_gt x n y m h h2 w).mono fun e w' ⟨he, hb⟩ => ⟨he.trans (retb_ ?_), hb⟩
      simp [h, h2]
theorem after_calls (x n y m : Int) (w : World) : Calls Go.Proofs.Tryz.prog 78 #[.agg #[.int .i64 x, .int .i64 n], .agg #[.int .i64 y, .int .i64 m]] w fun e w' => e = .returned (.bool (decide (y < x ∨ y = x ∧ m < n))) ∧ Below w.heap.size w w' := by
  refine calls_GC (args := [.agg #[.int .i64 x, .int .i64 n], .agg #[.int .i64 y, .int .i64 m]]) (L := [(0, .agg #[.int .i64 x, .int .i64 n]), (1, .agg #[.int .i64 y, .int .i64 m])]) (N := 8) Tryz.func78 rfl rfl (Nat.le_of_ble_eq_true rfl) rfl (Sees.start (fun _ => False) w) ?_
  refine GC_seq ?_
  refine GC_region ?_
  refine GL_at rfl (at_box 50 (by decide) rfl rfl rfl (fun o ho => by repeat (first | rfl | rw [lkp_put_ne (by decide) ho _ _ (Nat.le_of_ble_eq_true rfl)] | rw [lkp_seq_ne (by decide) ho _ _ (Nat.le_of_ble_eq_true rfl)] | rw [lkp_ky_ne (by decide) ho (by decide)])) (Nat.le_of_ble_eq_true rfl) (fun b1_ hbb1_ => ?_))
  refine GL_at rfl (at_box 51 (by decide) rfl rfl rfl (fun o ho => by repeat (first | rfl | rw [lkp_put_ne (by decide) ho _ _ (Nat.le_of_ble_eq_true rfl)] | rw [lkp_seq_ne (by decide) ho _ _ (Nat.le_of_ble_eq_true rfl)] | rw [lkp_ky_ne (by decide) ho (by decide)])) (Nat.le_of_ble_eq_true rfl) (fun b2_ hbb2_ => ?_))
  refine GL_rd rfl (by decide) (rd_assign rfl) ?_
  refine GL_nil ?_
  refine GE_then ?_
  refine GC_seq ?_
  refine GC_region ?_
  refine GL_rd rfl (by decide) (rd_load2 51 rfl rfl rfl rfl (by kernel_rfl) (by decide)) ?_
  refine GL_rd rfl (by decide) (rd_load2 50 rfl rfl rfl rfl (by kernel_rfl) (by decide)) ?_
  refine GL_at rfl (at_call_v (by decide) (by kernel_rfl) rfl (fun w_ s_ => before_calls _ _ _ _ w_) ?_)
  refine GL_rd rfl (by decide) (rd_assign rfl) ?_
  refine GL_nil ?_
  refine GE_then ?_
  refine GC_ret ?_
  refine GE_ret1 (.inl rfl) rfl (res_tmp rfl) fun w_ s_ => ⟨?_, s_.toBelow⟩
  first | rfl | (simp; done)
theorem location_calls (x n : Int) (w : World) : Calls Go.Proofs.Tryz.prog 40 #[.agg #[.int .i64 x, .int .i64 n]] w fun e w' => e = .returned (.agg #[]) ∧ Below w.heap.size w w' := by
  refine calls_GC (args := [.agg #[.int .i64 x, .int .i64 n]]) (L := [(0, .agg #[.int .i64 x, .int .i64 n])]) (N := 4) Tryz.func40 rfl rfl (Nat.le_of_ble_eq_true rfl) rfl (Sees.start (fun _ => False) w) ?_
  refine GC_seq ?_
  refine GC_region ?_
  refine GL_at rfl (at_box 50 (by decide) rfl rfl rfl (fun o ho => by repeat (first | rfl | rw [lkp_put_ne (by decide) ho _ _ (Nat.le_of_ble_eq_true rfl)] | rw [lkp_seq_ne (by decide) ho _ _ (Nat.le_of_ble_eq_true rfl)] | rw [lkp_ky_ne (by decide) ho (by decide)])) (Nat.le_of_ble_eq_true rfl) (fun b1_ hbb1_ => ?_))
  refine GL_at rfl (at_alloc 51 (cs := []) (by decide) (by kernel_rfl) rfl (fun o ho => by repeat (first | rfl | rw [lkp_put_ne (by decide) ho _ _ (Nat.le_of_ble_eq_true rfl)] | rw [lkp_seq_ne (by decide) ho _ _ (Nat.le_of_ble_eq_true rfl)] | rw [lkp_ky_ne (by decide) ho (by decide)])) (Nat.le_of_ble_eq_true rfl) (fun b2_ hbb2_ => ?_))
  refine GL_nil ?_
  refine GE_then ?_
  refine GC_seq ?_
  refine GC_region ?_
  refine GL_rd rfl (by decide) (rd_build0 (v := .agg #[]) (fun w => by kernel_rfl)) ?_
  refine GL_at rfl (at_storeAgg 51 rfl rfl rfl rfl (by kernel_rfl) rfl (Nat.le_of_ble_eq_true rfl) ?_)
  refine GL_nil ?_
  refine GE_then ?_
  refine GC_ret ?_
  refine GE_ret1 (.inl rfl) rfl (res_cellN 51 (cs := []) rfl rfl (fun i v h => by simp at h) (by decide) (by kernel_rfl)) fun w_ s_ => ⟨rfl, s_.toBelow⟩
theorem utc_calls  (w : World) : Calls Go.Proofs.Tryz.prog 70 #[] w fun e w' => e = .returned (.agg #[]) ∧ Below w.heap.size w w' := by
  refine calls_GC (args := []) (L := []) (N := 2) Tryz.func70 rfl rfl (Nat.le_of_ble_eq_true rfl) rfl (Sees.start (fun _ => False) w) ?_
  refine GC_seq ?_
  refine GC_region ?_
  refine GL_at rfl (at_alloc 50 (cs := []) (by decide) (by kernel_rfl) rfl (fun o ho => by repeat (first | rfl | rw [lkp_put_ne (by decide) ho _ _ (Nat.le_of_ble_eq_true rfl)] | rw [lkp_seq_ne (by decide) ho _ _ (Nat.le_of_ble_eq_true rfl)] | rw [lkp_ky_ne (by decide) ho (by decide)])) (Nat.le_of_ble_eq_true rfl) (fun b1_ hbb1_ => ?_))
  refine GL_nil ?_
  refine GE_then ?_
  refine GC_seq ?_
  refine GC_region ?_
  refine GL_rd rfl (by decide) (rd_build0 (v := .agg #[]) (fun w => by kernel_rfl)) ?_
  refine GL_at rfl (at_storeAgg 50 rfl rfl rfl rfl (by kernel_rfl) rfl (Nat.le_of_ble_eq_true rfl) ?_)
  refine GL_nil ?_
  refine GE_then ?_
  refine GC_ret ?_
  refine GE_ret1 (.inl rfl) rfl (res_cellN 50 (cs := []) rfl rfl (fun i v h => by simp at h) (by decide) (by kernel_rfl)) fun w_ s_ => ⟨rfl, s_.toBelow⟩
end
end Go.Proofs.YtfcklceejjmjeaaGreat
