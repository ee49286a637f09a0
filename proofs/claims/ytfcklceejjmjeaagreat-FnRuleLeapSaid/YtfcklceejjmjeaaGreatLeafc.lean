/-
  What the small functions on moments and lists give, third part.
-/
import Derived.Test.YtfcklceejjmjeaaGreatProg
import Derived.Test.YtfcklceejjmjeaaGreatMd
import Derived.Test.YtfcklceejjmjeaaGreatFg
import Derived.Test.YtfcklceejjmjeaaGreatLeafb
set_option linter.unusedVariables false
set_option linter.unusedSimpArgs false
set_option maxRecDepth 100000
set_option maxHeartbeats 8000000
namespace Go.Proofs.YtfcklceejjmjeaaGreat
open Go.RowKit Go.Fr Go.Tab
section
variable {F : Nat → Prop} {w0 : World} {B : List (Nat × Nat)} {H : List (Nat × Value)} {S : List (Nat × Slc)}

theorem tmod_mul {m b : Int} (hb : 0 < b) (hb2 : b ≤ 1000) : (-1000 < m.tmod b ∧ m.tmod b < 1000) ∧ -1000000 ≤ m.tmod b * b ∧ m.tmod b * b ≤ 1000000 := by
  have h1 : m.tmod b < b := Int.tmod_lt_of_pos m hb
  have h2 : -b < m.tmod b := by
    have := Int.natAbs_tmod m b
    have h3 : m.natAbs % b.natAbs < b.natAbs := Nat.mod_lt _ (by omega)
    omega
  refine ⟨by omega, ?_, ?_⟩
  · have := Int.mul_le_mul_of_nonneg_right (show -1000 ≤ m.tmod b by omega) (show 0 ≤ b by omega)
    omega
  · have := Int.mul_le_mul_of_nonneg_right (show m.tmod b ≤ 1000 by omega) (show 0 ≤ b by omega)
    omega
theorem tmod_emod {m b : Int} (hb : 0 < b) : (m.tmod b * b < 0 → m.tmod b + b = m % b) ∧ (¬ m.tmod b * b < 0 → m.tmod b = m % b) := by
  have hs : m.tmod b * b < 0 ↔ m.tmod b < 0 := by
    constructor
    · intro h
      rcases Int.lt_or_le (m.tmod b) 0 with h' | h'
      · exact h'
      · have := Int.mul_nonneg h' (Int.le_of_lt hb); omega
    · intro h; exact Int.mul_neg_of_neg_of_pos h hb
  have e := Int.tmod_def m b
  have f := Int.emod_def m b
  rw [hs]
  constructor
  · intro h
    have q := Cal.floor_t hb h
    have : m.tdiv b = m / b + 1 := by omega
    rw [f, e, this, Int.mul_add]; omega
  · intro h
    have q := Cal.floor_f hb h
    rw [f, e, q]
theorem py_elem {d : Int} (hd : 0 ≤ d ∧ d ≤ 6) : ([.int .i64 6, .int .i64 0, .int .i64 1, .int .i64 2, .int .i64 3, .int .i64 4, .int .i64 5] : List Value)[0 + d.toNat * 1]? = some (.int .i64 ((d + 6) % 7)) := by
  obtain ⟨h0, h1⟩ := hd
  have : d = 0 ∨ d = 1 ∨ d = 2 ∨ d = 3 ∨ d = 4 ∨ d = 5 ∨ d = 6 := by omega
  rcases this with rfl | rfl | rfl | rfl | rfl | rfl | rfl <;> rfl
theorem add_calls (x d : Int) (hx : 0 ≤ x ∧ x ≤ 1000000000000000) (hd : 0 ≤ d ∧ d ≤ 9223372036854775807) (w : World) : Calls Go.Proofs.Tryz.prog 33 #[.agg #[.int .i64 x, .int .i64 0], .int .i64 d] w fun e w' => e = .returned (.agg #[.int .i64 (x + d / 1000000000), .int .i64 (d % 1000000000)]) ∧ Below w.heap.size w w' := by
  refine calls_GC (args := [.agg #[.int .i64 x, .int .i64 0], .int .i64 d]) (L := [(0, .agg #[.int .i64 x, .int .i64 0]), (1, .int .i64 d)]) (N := 32) Tryz.func33 rfl rfl (Nat.le_of_ble_eq_true rfl) rfl (Sees.start (fun _ => False) w) ?_
  refine GC_seq ?_
  refine GC_region ?_
  refine GL_at rfl (at_box 50 (by decide) rfl rfl rfl (fun o ho => by repeat (first | rfl | rw [lkp_put_ne (by decide) ho _ _ (Nat.le_of_ble_eq_true rfl)] | rw [lkp_seq_ne (by decide) ho _ _ (Nat.le_of_ble_eq_true rfl)] | rw [lkp_ky_ne (by decide) ho (by decide)])) (Nat.le_of_ble_eq_true rfl) (fun b1_ hbb1_ => ?_))
  refine GL_at rfl (at_alloc 51 (cs := [.int .i64 0, .int .i64 0]) (by decide) (by kernel_rfl) rfl (fun o ho => by repeat (first | rfl | rw [lkp_put_ne (by decide) ho _ _ (Nat.le_of_ble_eq_true rfl)] | rw [lkp_seq_ne (by decide) ho _ _ (Nat.le_of_ble_eq_true rfl)] | rw [lkp_ky_ne (by decide) ho (by decide)])) (Nat.le_of_ble_eq_true rfl) (fun b2_ hbb2_ => ?_))
  refine GL_nil ?_
  refine GE_then ?_
  refine GC_seq ?_
  refine GC_quiet (by kernel_rfl) (by kernel_rfl) ?_
  refine GQ_rd rfl (by decide) (rd_move rfl) ?_
  first
    | refine GQ_rd rfl (by decide) (rd_quo_ rfl rfl (by omega) (by omega) (by omega)) ?_
    | refine GQ_rd rfl (by decide) (rd_quo_s rfl rfl (by omega) (by omega) (by omega)) ?_
    | refine GQ_rd rfl (by decide) (rd_quo rfl rfl (by omega)) ?_
  refine GQ_rd rfl (by decide) (rd_fieldAddr (j := 1) (by kernel_rfl) rfl) ?_
  refine GQ_rd rfl (by decide) (rd_load 50 rfl rfl rfl (by kernel_rfl) (by decide)) ?_
  refine GQ_rd rfl (by decide) (rd_move rfl) ?_
  first
    | refine GQ_rd rfl (by decide) (rd_rem_ rfl rfl (by omega) (by omega)) ?_
    | refine GQ_rd rfl (by decide) (rd_rem rfl rfl (by omega)) ?_
  first
    | refine GQ_rd rfl (by decide) (rd_add_ rfl rfl (by omega)) ?_
    | refine GQ_rd rfl (by decide) (rd_add rfl rfl) ?_
  refine GQ_rd rfl (by decide) (rd_assign rfl) ?_
  refine GQ_rd rfl (by decide) (rd_assign rfl) ?_
  refine GQ_nil ?_
  refine GE_then ?_
  refine GC_seq ?_
  refine GC_seq ?_
  refine GC_region ?_
  refine GL_rd rfl (by decide) (rd_move rfl) ?_
  refine GL_rd rfl (by decide) (rd_geq rfl rfl) ?_
  refine GL_nil ?_
  refine GE_then ?_
  refine GC_is_false rfl (decide_eq_false (by omega)) ?_
  refine GC_seq ?_
  refine GC_region ?_
  refine GL_rd rfl (by decide) (rd_move rfl) ?_
  refine GL_rd rfl (by decide) (rd_lss rfl rfl) ?_
  refine GL_nil ?_
  refine GE_then ?_
  refine GC_is_false rfl (decide_eq_false (by omega)) ?_
  refine GC_skip ?_
  refine GE_then ?_
  refine GC_seq ?_
  refine GC_region ?_
  refine GL_rd rfl (by decide) (rd_fieldAddr (j := 0) (by kernel_rfl) rfl) ?_
  refine GL_rd rfl (by decide) (rd_load 50 rfl rfl rfl (by kernel_rfl) (by decide)) ?_
  refine GL_rd rfl (by decide) (rd_move rfl) ?_
  first
    | refine GL_rd rfl (by decide) (rd_add_ rfl rfl (by omega)) ?_
    | refine GL_rd rfl (by decide) (rd_add rfl rfl) ?_
  refine GL_rd rfl (by decide) (rd_move rfl) ?_
  refine GL_rd rfl (by decide) (rd_build2 rfl rfl (fun w => by kernel_rfl)) ?_
  refine GL_at rfl (at_storeAgg 51 rfl rfl rfl rfl (by kernel_rfl) rfl (Nat.le_of_ble_eq_true rfl) ?_)
  refine GL_nil ?_
  refine GE_then ?_
  refine GC_ret ?_
  refine GE_ret1 (.inl rfl) rfl (res_cell2 51 rfl rfl rfl rfl (by kernel_rfl)) fun w_ s_ => ⟨?_, s_.toBelow⟩
  first | rfl | (refine reta_ ?_ ?_ <;> omega)
theorem mkdate_calls (y m d h mi s ns : Int) (hy : 0 ≤ y + (m - 1) / 12 ∧ y ≤ 10000000 ∧ -10000000 ≤ y) (hm : -1000000 ≤ m ∧ m ≤ 1000000) (hd : -1000000000 ≤ d ∧ d ≤ 1000000000) (hh : -1000000000 ≤ h ∧ h ≤ 1000000000) (hmi : -1000000000 ≤ mi ∧ mi ≤ 1000000000) (hs : -1000000000 ≤ s ∧ s ≤ 1000000000) (hn : 0 ≤ ns ∧ ns < 1000000000) (w : World) : Calls Go.Proofs.Tryz.prog 39 #[.int .i64 y, .int .i64 m, .int .i64 d, .int .i64 h, .int .i64 mi, .int .i64 s, .int .i64 ns, .agg #[]] w fun e w' => e = .returned (.agg #[.int .i64 (Cal.dayNo y m d * 86400 + h * 3600 + mi * 60 + s), .int .i64 ns]) ∧ Below w.heap.size w w' := by
  refine calls_GC (args := [.int .i64 y, .int .i64 m, .int .i64 d, .int .i64 h, .int .i64 mi, .int .i64 s, .int .i64 ns, .agg #[]]) (L := [(0, .int .i64 y), (1, .int .i64 m), (2, .int .i64 d), (3, .int .i64 h), (4, .int .i64 mi), (5, .int .i64 s), (6, .int .i64 ns), (7, .agg #[])]) (N := 71) Tryz.func39 rfl rfl (Nat.le_of_ble_eq_true rfl) rfl (Sees.start (fun _ => False) w) ?_
  have hdt : -40000000000 ≤ Cal.daysTo (y + (m - 1) / 12) ∧ Cal.daysTo (y + (m - 1) / 12) ≤ 40000000000 := by unfold Cal.daysTo; omega
  refine GC_seq ?_
  refine GC_region ?_
  refine GL_at rfl (at_box 50 (by decide) rfl rfl rfl (fun o ho => by repeat (first | rfl | rw [lkp_put_ne (by decide) ho _ _ (Nat.le_of_ble_eq_true rfl)] | rw [lkp_seq_ne (by decide) ho _ _ (Nat.le_of_ble_eq_true rfl)] | rw [lkp_ky_ne (by decide) ho (by decide)])) (Nat.le_of_ble_eq_true rfl) (fun b1_ hbb1_ => ?_))
  refine GL_at rfl (at_alloc 51 (cs := [.int .i64 0, .int .i64 0]) (by decide) (by kernel_rfl) rfl (fun o ho => by repeat (first | rfl | rw [lkp_put_ne (by decide) ho _ _ (Nat.le_of_ble_eq_true rfl)] | rw [lkp_seq_ne (by decide) ho _ _ (Nat.le_of_ble_eq_true rfl)] | rw [lkp_ky_ne (by decide) ho (by decide)])) (Nat.le_of_ble_eq_true rfl) (fun b2_ hbb2_ => ?_))
  refine GL_nil ?_
  refine GE_then ?_
  refine GC_seq ?_
  refine GC_region ?_
  refine GL_rd rfl (by decide) (rd_move rfl) ?_
  first
    | refine GL_rd rfl (by decide) (rd_sub_ rfl rfl (by omega)) ?_
    | refine GL_rd rfl (by decide) (rd_sub rfl rfl) ?_
  refine GL_rd rfl (by decide) (rd_assign rfl) ?_
  refine GL_nil ?_
  refine GE_then ?_
  refine GC_seq ?_
  refine GC_region ?_
  refine GL_rd rfl (by decide) (rd_move rfl) ?_
  refine GL_rd rfl (by decide) (rd_move rfl) ?_
  refine GL_at rfl (at_call_v (by decide) (by kernel_rfl) rfl (fun w_ s_ => floor_calls _ _ (by omega) (by omega) (by omega) w_) ?_)
  first
    | refine GL_rd rfl (by decide) (rd_add_ rfl rfl (by omega)) ?_
    | refine GL_rd rfl (by decide) (rd_add rfl rfl) ?_
  refine GL_rd rfl (by decide) (rd_assign rfl) ?_
  refine GL_nil ?_
  refine GE_then ?_
  refine GC_seq ?_
  refine GC_region ?_
  refine GL_rd rfl (by decide) (rd_move rfl) ?_
  refine GL_rd rfl (by decide) (rd_move rfl) ?_
  refine GL_at rfl (at_call_v (by decide) (by kernel_rfl) rfl (fun w_ s_ => floor_calls _ _ (by omega) (by omega) (by omega) w_) ?_)
  first
    | refine GL_rd rfl (by decide) (rd_mul_ rfl rfl (by omega)) ?_
    | refine GL_rd rfl (by decide) (rd_mul rfl rfl) ?_
  first
    | refine GL_rd rfl (by decide) (rd_sub_ rfl rfl (by omega)) ?_
    | refine GL_rd rfl (by decide) (rd_sub rfl rfl) ?_
  refine GL_rd rfl (by decide) (rd_assign rfl) ?_
  refine GL_nil ?_
  refine GE_then ?_
  refine GC_seq ?_
  refine GC_region ?_
  refine GL_rd rfl (by decide) (rd_move rfl) ?_
  refine GL_at rfl (at_call_v (by decide) (by kernel_rfl) rfl (fun w_ s_ => daysTo_calls _ (by omega) w_) ?_)
  refine GL_rd rfl (by decide) (rd_move rfl) ?_
  first
    | refine GL_rd rfl (by decide) (rd_add_ rfl rfl (by omega)) ?_
    | refine GL_rd rfl (by decide) (rd_add rfl rfl) ?_
  first
    | refine GL_rd rfl (by decide) (rd_sub_ rfl rfl (by omega)) ?_
    | refine GL_rd rfl (by decide) (rd_sub rfl rfl) ?_
  refine GL_rd rfl (by decide) (rd_assign rfl) ?_
  refine GL_nil ?_
  refine GE_then ?_
  refine GC_seq ?_
  refine GC_seq ?_
  refine GC_region ?_
  refine GL_rd rfl (by decide) (rd_assign rfl) ?_
  refine GL_nil ?_
  refine GE_then ?_
  refine GC_block ?_
  refine GC_loop (ι := (Nat) × (Int) × (Int)) (fun | ⟨j, i, t⟩ => 12 - j) (fun | ⟨j, i, t⟩ => (j ≤ ((m - 1) % 12).toNat) ∧ (i = j + 1) ∧ (t = Cal.daysTo (y + (m - 1) / 12) + d - 1 + Cal.cum (y + (m - 1) / 12) j)) (fun | ⟨j, i, t⟩ => [(3, .int .i64 h), (4, .int .i64 mi), (5, .int .i64 s), (6, .int .i64 ns), (15, .pointer (some ⟨b1_, 0, none⟩)), (16, .pointer (some ⟨b2_, 0, none⟩)), (17, .int .i64 (m - 1 - 12 * ((m - 1) / 12))), (18, .int .i64 (y + (m - 1) / 12)), (19, .int .i64 t), (20, .int .i64 i)]) (fun | ⟨j, i, t⟩ => (51, b2_) :: (50, b1_) :: []) (fun | ⟨j, i, t⟩ => putKeys 51 0 [.int .i64 0, .int .i64 0] ++ []) (fun | ⟨j, i, t⟩ => []) ⟨0, 1, Cal.daysTo (y + (m - 1) / 12) + d - 1⟩ ⟨by omega, by omega, by simp [Cal.cum]⟩ (fun a k => k.cons rfl (k.cons rfl (k.cons rfl (k.cons rfl (k.cons rfl (k.cons rfl (k.cons rfl (k.cons rfl (k.cons rfl (k.cons rfl (k.nil))))))))))) (fun w s => by exact s.to (fun _ _ h => h) (fun k o v ho h => ⟨(by exact h), (by obtain ⟨b, e, _⟩ := s.cells k o v ho (by exact h); rw [e]; rfl)⟩) (fun _ _ h => h)) ?_
  rintro ⟨j, i, t⟩ ⟨hj, hi, ht⟩
  show GC _ _ _ _ [(3, .int .i64 h), (4, .int .i64 mi), (5, .int .i64 s), (6, .int .i64 ns), (15, .pointer (some ⟨b1_, 0, none⟩)), (16, .pointer (some ⟨b2_, 0, none⟩)), (17, .int .i64 (m - 1 - 12 * ((m - 1) / 12))), (18, .int .i64 (y + (m - 1) / 12)), (19, .int .i64 t), (20, .int .i64 i)] _ _ ((51, b2_) :: (50, b1_) :: []) (putKeys 51 0 [.int .i64 0, .int .i64 0] ++ []) ([])
  have hmd := Cal.mdays_bd i (y + (m - 1) / 12)
  have hcs : Cal.cum (y + (m - 1) / 12) (j + 1) = Cal.cum (y + (m - 1) / 12) j + Cal.mdays i (y + (m - 1) / 12) := by rw [hi]; rfl
  have hc0 := Cal.cum_bd (y + (m - 1) / 12) j
  refine GC_seq ?_
  refine GC_seq ?_
  refine GC_region ?_
  refine GL_rd rfl (by decide) (rd_move rfl) ?_
  refine GL_rd rfl (by decide) (rd_move rfl) ?_
  refine GL_rd rfl (by decide) (rd_leq rfl rfl) ?_
  refine GL_nil ?_
  refine GE_then ?_
  refine GC_cond rfl (fun c42_ => ?_) (fun c42_ => ?_)
  · first | have p42_ := of_decide_eq_true c42_ | have p42_ := beq_iff_eq.1 c42_ | have p42_ := bne_iff_ne.1 c42_ | skip
    refine GC_skip ?_
    refine GE_then ?_
    refine GC_seq ?_
    refine GC_block ?_
    refine GC_region ?_
    refine GL_rd rfl (by decide) (rd_move rfl) ?_
    refine GL_rd rfl (by decide) (rd_move rfl) ?_
    refine GL_rd rfl (by decide) (rd_move rfl) ?_
    refine GL_at rfl (at_call_v (by decide) (by kernel_rfl) rfl (fun w_ s_ => monthDays_calls _ _ (by omega) w_) ?_)
    first
      | refine GL_rd rfl (by decide) (rd_add_ rfl rfl (by omega)) ?_
      | refine GL_rd rfl (by decide) (rd_add rfl rfl) ?_
    refine GL_rd rfl (by decide) (rd_assign rfl) ?_
    refine GL_nil ?_
    refine GE_in ?_
    refine GE_then ?_
    refine GC_region ?_
    refine GL_rd rfl (by decide) (rd_move rfl) ?_
    first
      | refine GL_rd rfl (by decide) (rd_add_ rfl rfl (by omega)) ?_
      | refine GL_rd rfl (by decide) (rd_add rfl rfl) ?_
    refine GL_rd rfl (by decide) (rd_assign rfl) ?_
    refine GL_nil ?_
    refine GE_back ⟨j + 1, i + 1, t + Cal.mdays i (y + (m - 1) / 12)⟩ (by simp only; omega) ⟨by omega, by omega, by rw [hcs, ht]; omega⟩ (fun a k => k.cons rfl (k.cons rfl (k.cons rfl (k.cons rfl (k.cons rfl (k.cons rfl (k.cons rfl (k.cons rfl (k.cons rfl (k.cons rfl (k.nil))))))))))) (fun w s => by exact s)
  · first | have p42_ := of_decide_eq_false c42_ | have p42_ := beq_eq_false_iff_ne.1 c42_ | have p42_ := bne_eq_false_iff_eq.1 c42_ | skip
    refine GC_exit ?_
    refine GE_then_exit ?_
    refine GE_then_exit ?_
    refine GE_in_self ?_
    refine GE_then ?_
    refine GC_seq ?_
    refine GC_region ?_
    refine GL_rd rfl (by decide) (rd_move rfl) ?_
    first
      | refine GL_rd rfl (by decide) (rd_mul_ rfl rfl (by omega)) ?_
      | refine GL_rd rfl (by decide) (rd_mul rfl rfl) ?_
    refine GL_rd rfl (by decide) (rd_move rfl) ?_
    first
      | refine GL_rd rfl (by decide) (rd_mul_ rfl rfl (by omega)) ?_
      | refine GL_rd rfl (by decide) (rd_mul rfl rfl) ?_
    first
      | refine GL_rd rfl (by decide) (rd_add_ rfl rfl (by omega)) ?_
      | refine GL_rd rfl (by decide) (rd_add rfl rfl) ?_
    refine GL_rd rfl (by decide) (rd_move rfl) ?_
    first
      | refine GL_rd rfl (by decide) (rd_mul_ rfl rfl (by omega)) ?_
      | refine GL_rd rfl (by decide) (rd_mul rfl rfl) ?_
    first
      | refine GL_rd rfl (by decide) (rd_add_ rfl rfl (by omega)) ?_
      | refine GL_rd rfl (by decide) (rd_add rfl rfl) ?_
    refine GL_rd rfl (by decide) (rd_move rfl) ?_
    first
      | refine GL_rd rfl (by decide) (rd_add_ rfl rfl (by omega)) ?_
      | refine GL_rd rfl (by decide) (rd_add rfl rfl) ?_
    refine GL_rd rfl (by decide) (rd_assign rfl) ?_
    refine GL_nil ?_
    refine GE_then ?_
    refine GC_seq ?_
    refine GC_region ?_
    refine GL_rd rfl (by decide) (rd_move rfl) ?_
    refine GL_rd rfl (by decide) (rd_assign rfl) ?_
    refine GL_nil ?_
    refine GE_then ?_
    refine GC_seq ?_
    refine GC_region ?_
    refine GL_rd rfl (by decide) (rd_move rfl) ?_
    refine GL_at rfl (at_call_v (by decide) (by kernel_rfl) rfl (fun w_ s_ => floor_calls _ _ (by omega) (by omega) (by omega) w_) ?_)
    refine GL_rd rfl (by decide) (rd_assign rfl) ?_
    refine GL_nil ?_
    refine GE_then ?_
    refine GC_seq ?_
    refine GC_region ?_
    refine GL_rd rfl (by decide) (rd_move rfl) ?_
    refine GL_rd rfl (by decide) (rd_move rfl) ?_
    first
      | refine GL_rd rfl (by decide) (rd_add_ rfl rfl (by omega)) ?_
      | refine GL_rd rfl (by decide) (rd_add rfl rfl) ?_
    refine GL_rd rfl (by decide) (rd_move rfl) ?_
    refine GL_rd rfl (by decide) (rd_move rfl) ?_
    first
      | refine GL_rd rfl (by decide) (rd_mul_ rfl rfl (by omega)) ?_
      | refine GL_rd rfl (by decide) (rd_mul rfl rfl) ?_
    first
      | refine GL_rd rfl (by decide) (rd_sub_ rfl rfl (by omega)) ?_
      | refine GL_rd rfl (by decide) (rd_sub rfl rfl) ?_
    refine GL_rd rfl (by decide) (rd_build2 rfl rfl (fun w => by kernel_rfl)) ?_
    refine GL_at rfl (at_storeAgg 51 rfl rfl rfl rfl (by kernel_rfl) rfl (Nat.le_of_ble_eq_true rfl) ?_)
    refine GL_nil ?_
    refine GE_then ?_
    refine GC_ret ?_
    refine GE_ret1 (.inl rfl) rfl (res_cell2 51 rfl rfl rfl rfl (by kernel_rfl)) fun w_ s_ => ⟨?_, s_.toBelow⟩
    unfold Cal.dayNo
    obtain rfl : j = ((m - 1) % 12).toNat := by omega
    refine reta_ ?_ ?_ <;> (try subst ht) <;> omega
theorem isLeap_no (y : Int) (h0 : 0 ≤ y) (h : y % 4 ≠ 0) (w : World) : Calls Go.Proofs.Tryz.prog 45 #[.int .i64 y] w fun e w' => e = .returned (.int .i64 0) ∧ Below w.heap.size w w' := by
  refine calls_GC (args := [.int .i64 y]) (L := [(0, .int .i64 y)]) (N := 16) Tryz.func45 rfl rfl (Nat.le_of_ble_eq_true rfl) rfl (Sees.start (fun _ => False) w) ?_
  refine GC_seq ?_
  refine GC_region ?_
  refine GL_rd rfl (by decide) (rd_assign rfl) ?_
  refine GL_nil ?_
  refine GE_then ?_
  refine GC_seq ?_
  refine GC_seq ?_
  refine GC_region ?_
  refine GL_rd rfl (by decide) (rd_move rfl) ?_
  first
    | refine GL_rd rfl (by decide) (rd_rem_ rfl rfl (by omega) (by omega)) ?_
    | refine GL_rd rfl (by decide) (rd_rem rfl rfl (by omega)) ?_
  refine GL_rd rfl (by decide) ((rd_eql rfl rfl).to (congrArg Value.bool (b_ne h))) ?_
  refine GL_rd rfl (by decide) (rd_move rfl) ?_
  refine GL_pass (by decide) rfl rfl (by decide) ?_
  refine GL_pass (by decide) rfl rfl (by decide) ?_
  refine GL_pass (by decide) rfl rfl (by decide) ?_
  refine GL_pass (by decide) rfl rfl (by decide) ?_
  refine GL_passu (by decide) rfl rfl ?_
  refine GL_passu (by decide) rfl rfl ?_
  refine GL_passu (by decide) rfl rfl ?_
  refine GL_pass (by decide) rfl rfl (by decide) ?_
  refine GL_rd rfl (by decide) (rd_pick rfl rfl rfl) ?_
  refine GL_nil ?_
  refine GE_then ?_
  refine GC_is_false rfl rfl ?_
  refine GC_skip ?_
  refine GE_then ?_
  refine GC_seq ?_
  refine GC_region ?_
  refine GL_rd rfl (by decide) (rd_assign rfl) ?_
  refine GL_nil ?_
  refine GE_then ?_
  refine GC_ret ?_
  refine GE_ret1 (.inl rfl) rfl (res_tmp rfl) fun w_ s_ => ⟨?_, s_.toBelow⟩
  first | rfl | (simp; done)
theorem isLeap_yes (y : Int) (h0 : 0 ≤ y) (h : y % 4 = 0) (h1 : y % 100 ≠ 0) (w : World) : Calls Go.Proofs.Tryz.prog 45 #[.int .i64 y] w fun e w' => e = .returned (.int .i64 1) ∧ Below w.heap.size w w' := by
  refine calls_GC (args := [.int .i64 y]) (L := [(0, .int .i64 y)]) (N := 16) Tryz.func45 rfl rfl (Nat.le_of_ble_eq_true rfl) rfl (Sees.start (fun _ => False) w) ?_
  refine GC_seq ?_
  refine GC_region ?_
  refine GL_rd rfl (by decide) (rd_assign rfl) ?_
  refine GL_nil ?_
  refine GE_then ?_
  refine GC_seq ?_
  refine GC_seq ?_
  refine GC_region ?_
  refine GL_rd rfl (by decide) (rd_move rfl) ?_
  first
    | refine GL_rd rfl (by decide) (rd_rem_ rfl rfl (by omega) (by omega)) ?_
    | refine GL_rd rfl (by decide) (rd_rem rfl rfl (by omega)) ?_
  refine GL_rd rfl (by decide) ((rd_eql rfl rfl).to (congrArg Value.bool (b_eq h))) ?_
  refine GL_rd rfl (by decide) (rd_move rfl) ?_
  refine GL_take rfl rfl ?_
  refine GL_rd rfl (by decide) (rd_move rfl) ?_
  refine GL_take rfl rfl ?_
  first
    | refine GL_rd rfl (by decide) (rd_rem_ rfl rfl (by omega) (by omega)) ?_
    | refine GL_rd rfl (by decide) (rd_rem rfl rfl (by omega)) ?_
  refine GL_take rfl rfl ?_
  refine GL_rd rfl (by decide) ((rd_neq rfl rfl).to (congrArg Value.bool (n_ne h1))) ?_
  refine GL_take rfl rfl ?_
  refine GL_rd rfl (by decide) (rd_move rfl) ?_
  refine GL_pass (by decide) rfl rfl (by decide) ?_
  refine GL_pass (by decide) rfl rfl (by decide) ?_
  refine GL_pass (by decide) rfl rfl (by decide) ?_
  refine GL_take rfl rfl ?_
  refine GL_rd rfl (by decide) (rd_pick rfl rfl rfl) ?_
  refine GL_rd rfl (by decide) (rd_pick rfl rfl rfl) ?_
  refine GL_nil ?_
  refine GE_then ?_
  refine GC_is_true rfl rfl ?_
  refine GC_seq ?_
  refine GC_region ?_
  refine GL_rd rfl (by decide) (rd_assign rfl) ?_
  refine GL_nil ?_
  refine GE_then ?_
  refine GC_ret ?_
  refine GE_then_ret ?_
  refine GE_ret1 (.inl rfl) rfl (res_tmp rfl) fun w_ s_ => ⟨?_, s_.toBelow⟩
  first | rfl | (simp; done)
theorem isLeap_400 (y : Int) (h0 : 0 ≤ y) (h : y % 4 = 0) (h1 : y % 100 = 0) (w : World) : Calls Go.Proofs.Tryz.prog 45 #[.int .i64 y] w fun e w' => e = .returned (.int .i64 (if y % 400 = 0 then 1 else 0)) ∧ Below w.heap.size w w' := by
  refine calls_GC (args := [.int .i64 y]) (L := [(0, .int .i64 y)]) (N := 16) Tryz.func45 rfl rfl (Nat.le_of_ble_eq_true rfl) rfl (Sees.start (fun _ => False) w) ?_
  refine GC_seq ?_
  refine GC_region ?_
  refine GL_rd rfl (by decide) (rd_assign rfl) ?_
  refine GL_nil ?_
  refine GE_then ?_
  refine GC_seq ?_
  refine GC_seq ?_
  refine GC_region ?_
  refine GL_rd rfl (by decide) (rd_move rfl) ?_
  first
    | refine GL_rd rfl (by decide) (rd_rem_ rfl rfl (by omega) (by omega)) ?_
    | refine GL_rd rfl (by decide) (rd_rem rfl rfl (by omega)) ?_
  refine GL_rd rfl (by decide) ((rd_eql rfl rfl).to (congrArg Value.bool (b_eq h))) ?_
  refine GL_rd rfl (by decide) (rd_move rfl) ?_
  refine GL_take rfl rfl ?_
  refine GL_rd rfl (by decide) (rd_move rfl) ?_
  refine GL_take rfl rfl ?_
  first
    | refine GL_rd rfl (by decide) (rd_rem_ rfl rfl (by omega) (by omega)) ?_
    | refine GL_rd rfl (by decide) (rd_rem rfl rfl (by omega)) ?_
  refine GL_take rfl rfl ?_
  refine GL_rd rfl (by decide) ((rd_neq rfl rfl).to (congrArg Value.bool (n_eq h1))) ?_
  refine GL_take rfl rfl ?_
  refine GL_rd rfl (by decide) (rd_move rfl) ?_
  refine GL_take rfl rfl ?_
  refine GL_rd rfl (by decide) (rd_move rfl) ?_
  refine GL_take rfl rfl ?_
  first
    | refine GL_rd rfl (by decide) (rd_rem_ rfl rfl (by omega) (by omega)) ?_
    | refine GL_rd rfl (by decide) (rd_rem rfl rfl (by omega)) ?_
  refine GL_take rfl rfl ?_
  refine GL_rd rfl (by decide) (rd_eql rfl rfl) ?_
  refine GL_take rfl rfl ?_
  refine GL_rd rfl (by decide) (rd_pick rfl rfl rfl) ?_
  refine GL_rd rfl (by decide) (rd_pick rfl rfl rfl) ?_
  refine GL_nil ?_
  refine GE_then ?_
  refine GC_cond rfl (fun c15_ => ?_) (fun c15_ => ?_)
  · first | have p15_ := of_decide_eq_true c15_ | have p15_ := beq_iff_eq.1 c15_ | have p15_ := bne_iff_ne.1 c15_ | skip
    refine GC_seq ?_
    refine GC_region ?_
    refine GL_rd rfl (by decide) (rd_assign rfl) ?_
    refine GL_nil ?_
    refine GE_then ?_
    refine GC_ret ?_
    refine GE_then_ret ?_
    refine GE_ret1 (.inl rfl) rfl (res_tmp rfl) fun w_ s_ => ⟨?_, s_.toBelow⟩
    refine ret1_ ?_
    simp_all
  · first | have p15_ := of_decide_eq_false c15_ | have p15_ := beq_eq_false_iff_ne.1 c15_ | have p15_ := bne_eq_false_iff_eq.1 c15_ | skip
    refine GC_skip ?_
    refine GE_then ?_
    refine GC_seq ?_
    refine GC_region ?_
    refine GL_rd rfl (by decide) (rd_assign rfl) ?_
    refine GL_nil ?_
    refine GE_then ?_
    refine GC_ret ?_
    refine GE_ret1 (.inl rfl) rfl (res_tmp rfl) fun w_ s_ => ⟨?_, s_.toBelow⟩
    refine ret1_ ?_
    simp_all
theorem isLeap_calls (y : Int) (h0 : 0 ≤ y) (w : World) : Calls Go.Proofs.Tryz.prog 45 #[.int .i64 y] w fun e w' => e = .returned (.int .i64 (Cal.lp y)) ∧ Below w.heap.size w w' := by
  by_cases h : y % 4 = 0
  · by_cases h1 : y % 100 = 0
    · refine (isLeap_400 y h0 h h1 w).mono fun e w' ⟨he, hb⟩ => ⟨he.trans (ret1_ ?_), hb⟩
      unfold Cal.lp Cal.leapB
      by_cases h2 : y % 400 = 0 <;> simp [h, h1, h2]
    · refine (isLeap_yes y h0 h h1 w).mono fun e w' ⟨he, hb⟩ => ⟨he.trans (ret1_ ?_), hb⟩
      unfold Cal.lp Cal.leapB
      simp [h, h1]
  · refine (isLeap_no y h0 h w).mono fun e w' ⟨he, hb⟩ => ⟨he.trans (ret1_ ?_), hb⟩
    unfold Cal.lp Cal.leapB
    simp [h]
theorem toPy_calls (d : Int) (hd : 0 ≤ d ∧ d ≤ 6) (w : World) : Calls Go.Proofs.Tryz.prog 22 #[.int .i64 d] w fun e w' => e = .returned (.int .i64 ((d + 6) % 7)) ∧ Below w.heap.size w w' := by
  refine calls_GC (args := [.int .i64 d]) (L := [(0, .int .i64 d)]) (N := 7) Tryz.func22 rfl rfl (Nat.le_of_ble_eq_true rfl) rfl (Sees.start (fun _ => False) w) ?_
  refine GC_seq ?_
  refine GC_region ?_
  refine GL_rd rfl (by decide) (rd_assign rfl) ?_
  refine GL_nil ?_
  refine GE_then ?_
  refine GC_seq ?_
  refine GC_region ?_
  refine GL_at rfl (at_row 50 (e := 3) (sz := 1) (n := 7) (vs := [(0, .int .i64 6), (1, .int .i64 0), (2, .int .i64 1), (3, .int .i64 2), (4, .int .i64 3), (5, .int .i64 4), (6, .int .i64 5)]) (cs := [.int .i64 6, .int .i64 0, .int .i64 1, .int .i64 2, .int .i64 3, .int .i64 4, .int .i64 5]) (by decide) rfl (fun w => by kernel_rfl) rfl (by decide) (by decide) rfl (fun b1_ hbb1_ => ?_))
  refine GL_rd rfl (by decide) (rd_move rfl) ?_
  refine GL_rd rfl (by decide) (rd_indexAddr (e := 3) (n := 1) (by kernel_rfl) rfl rfl (by omega) (by omega)) ?_
  refine GL_rd rfl (by decide) (rd_load_row 50 rfl rfl rfl (py_elem hd) (by kernel_rfl)) ?_
  refine GL_rd rfl (by decide) (rd_assign rfl) ?_
  refine GL_nil ?_
  refine GE_then ?_
  refine GC_ret ?_
  refine GE_ret1 (.inl rfl) rfl (res_tmp rfl) fun w_ s_ => ⟨?_, s_.toBelow⟩
  first | rfl | (simp; done)
theorem pymod_calls (a b : Int) (ha : -1000000000000000 ≤ a ∧ a ≤ 1000000000000000) (hb : 0 < b ∧ b ≤ 1000) (w : World) : Calls Go.Proofs.Tryz.prog 55 #[.int .i64 a, .int .i64 b] w fun e w' => e = .returned (.int .i64 (a % b)) ∧ Below w.heap.size w w' := by
  refine calls_GC (args := [.int .i64 a, .int .i64 b]) (L := [(0, .int .i64 a), (1, .int .i64 b)]) (N := 17) Tryz.func55 rfl rfl (Nat.le_of_ble_eq_true rfl) rfl (Sees.start (fun _ => False) w) ?_
  have hr := tmod_mul (m := a) hb.1 hb.2
  have hr2 := tmod_emod (m := a) hb.1
  refine GC_seq ?_
  refine GC_region ?_
  refine GL_rd rfl (by decide) (rd_assign rfl) ?_
  refine GL_nil ?_
  refine GE_then ?_
  refine GC_seq ?_
  refine GC_region ?_
  refine GL_rd rfl (by decide) (rd_move rfl) ?_
  refine GL_rd rfl (by decide) (rd_move rfl) ?_
  refine GL_rd rfl (by decide) (rd_rem rfl rfl (by omega)) ?_
  refine GL_rd rfl (by decide) (rd_assign rfl) ?_
  refine GL_nil ?_
  refine GE_then ?_
  refine GC_seq ?_
  refine GC_seq ?_
  refine GC_region ?_
  refine GL_rd rfl (by decide) (rd_move rfl) ?_
  refine GL_rd rfl (by decide) (rd_move rfl) ?_
  first
    | refine GL_rd rfl (by decide) (rd_mul_ rfl rfl (by omega)) ?_
    | refine GL_rd rfl (by decide) (rd_mul rfl rfl) ?_
  refine GL_rd rfl (by decide) (rd_lss rfl rfl) ?_
  refine GL_nil ?_
  refine GE_then ?_
  refine GC_cond rfl (fun c12_ => ?_) (fun c12_ => ?_)
  · first | have p12_ := of_decide_eq_true c12_ | have p12_ := beq_iff_eq.1 c12_ | have p12_ := bne_iff_ne.1 c12_ | skip
    refine GC_region ?_
    refine GL_rd rfl (by decide) (rd_move rfl) ?_
    refine GL_rd rfl (by decide) (rd_move rfl) ?_
    first
      | refine GL_rd rfl (by decide) (rd_add_ rfl rfl (by omega)) ?_
      | refine GL_rd rfl (by decide) (rd_add rfl rfl) ?_
    refine GL_rd rfl (by decide) (rd_assign rfl) ?_
    refine GL_nil ?_
    refine GE_then ?_
    refine GC_seq ?_
    refine GC_region ?_
    refine GL_rd rfl (by decide) (rd_move rfl) ?_
    refine GL_rd rfl (by decide) (rd_assign rfl) ?_
    refine GL_nil ?_
    refine GE_then ?_
    refine GC_ret ?_
    refine GE_ret1 (.inl rfl) rfl (res_tmp rfl) fun w_ s_ => ⟨?_, s_.toBelow⟩
    refine ret1_ ?_
    omega
  · first | have p12_ := of_decide_eq_false c12_ | have p12_ := beq_eq_false_iff_ne.1 c12_ | have p12_ := bne_eq_false_iff_eq.1 c12_ | skip
    refine GC_skip ?_
    refine GE_then ?_
    refine GC_seq ?_
    refine GC_region ?_
    refine GL_rd rfl (by decide) (rd_move rfl) ?_
    refine GL_rd rfl (by decide) (rd_assign rfl) ?_
    refine GL_nil ?_
    refine GE_then ?_
    refine GC_ret ?_
    refine GE_ret1 (.inl rfl) rfl (res_tmp rfl) fun w_ s_ => ⟨?_, s_.toBelow⟩
    refine ret1_ ?_
    omega
theorem addDate_calls (x n k : Int) (hx : 0 ≤ x ∧ x ≤ 400000000000) (hk : -100000 ≤ k ∧ k ≤ 100000) (hn : 0 ≤ n ∧ n < 1000000000) (w : World) : Calls Go.Proofs.Tryz.prog 75 #[.agg #[.int .i64 x, .int .i64 n], .int .i64 0, .int .i64 0, .int .i64 k] w fun e w' => e = .returned (.agg #[.int .i64 (x + k * 86400), .int .i64 n]) ∧ Below w.heap.size w w' := by
  refine calls_GC (args := [.agg #[.int .i64 x, .int .i64 n], .int .i64 0, .int .i64 0, .int .i64 k]) (L := [(0, .agg #[.int .i64 x, .int .i64 n]), (1, .int .i64 0), (2, .int .i64 0), (3, .int .i64 k)]) (N := 43) Tryz.func75 rfl rfl (Nat.le_of_ble_eq_true rfl) rfl (Sees.start (fun _ => False) w) ?_
  have hbd := split_bd0 (x := x) (by omega)
  have hmo := Cal.month_bd (x / 86400)
  have hyy := Cal.year_le (x / 86400) (by omega)
  refine GC_seq ?_
  refine GC_region ?_
  refine GL_at rfl (at_box 50 (by decide) rfl rfl rfl (fun o ho => by repeat (first | rfl | rw [lkp_put_ne (by decide) ho _ _ (Nat.le_of_ble_eq_true rfl)] | rw [lkp_seq_ne (by decide) ho _ _ (Nat.le_of_ble_eq_true rfl)] | rw [lkp_ky_ne (by decide) ho (by decide)])) (Nat.le_of_ble_eq_true rfl) (fun b1_ hbb1_ => ?_))
  refine GL_at rfl (at_alloc 51 (cs := [.int .i64 0, .int .i64 0]) (by decide) (by kernel_rfl) rfl (fun o ho => by repeat (first | rfl | rw [lkp_put_ne (by decide) ho _ _ (Nat.le_of_ble_eq_true rfl)] | rw [lkp_seq_ne (by decide) ho _ _ (Nat.le_of_ble_eq_true rfl)] | rw [lkp_ky_ne (by decide) ho (by decide)])) (Nat.le_of_ble_eq_true rfl) (fun b2_ hbb2_ => ?_))
  refine GL_nil ?_
  refine GE_then ?_
  refine GC_seq ?_
  refine GC_region ?_
  refine GL_rd rfl (by decide) (rd_load2 50 rfl rfl rfl rfl (by kernel_rfl) (by decide)) ?_
  refine GL_at rfl (at_call_v (by decide) (by kernel_rfl) rfl (fun w_ s_ => date_calls _ _ (by omega) w_) ?_)
  refine GL_rd rfl (by decide) (rd_move rfl) ?_
  refine GL_rd rfl (by decide) (rd_extract rfl rfl) ?_
  refine GL_rd rfl (by decide) (rd_extract rfl rfl) ?_
  refine GL_rd rfl (by decide) (rd_extract rfl rfl) ?_
  refine GL_rd rfl (by decide) (rd_assign rfl) ?_
  refine GL_rd rfl (by decide) (rd_assign rfl) ?_
  refine GL_rd rfl (by decide) (rd_assign rfl) ?_
  refine GL_nil ?_
  refine GE_then ?_
  refine GC_seq ?_
  refine GC_region ?_
  refine GL_rd rfl (by decide) (rd_load2 50 rfl rfl rfl rfl (by kernel_rfl) (by decide)) ?_
  refine GL_at rfl (at_call_v (by decide) (by kernel_rfl) rfl (fun w_ s_ => clock_calls _ _ (by omega) w_) ?_)
  refine GL_rd rfl (by decide) (rd_move rfl) ?_
  refine GL_rd rfl (by decide) (rd_extract rfl rfl) ?_
  refine GL_rd rfl (by decide) (rd_extract rfl rfl) ?_
  refine GL_rd rfl (by decide) (rd_extract rfl rfl) ?_
  refine GL_rd rfl (by decide) (rd_assign rfl) ?_
  refine GL_rd rfl (by decide) (rd_assign rfl) ?_
  refine GL_rd rfl (by decide) (rd_assign rfl) ?_
  refine GL_nil ?_
  refine GE_then ?_
  refine GC_seq ?_
  refine GC_region ?_
  refine GL_rd rfl (by decide) (rd_move rfl) ?_
  refine GL_rd rfl (by decide) (rd_move rfl) ?_
  first
    | refine GL_rd rfl (by decide) (rd_add_ rfl rfl (by omega)) ?_
    | refine GL_rd rfl (by decide) (rd_add rfl rfl) ?_
  refine GL_rd rfl (by decide) (rd_move rfl) ?_
  refine GL_rd rfl (by decide) (rd_move rfl) ?_
  first
    | refine GL_rd rfl (by decide) (rd_add_ rfl rfl (by omega)) ?_
    | refine GL_rd rfl (by decide) (rd_add rfl rfl) ?_
  refine GL_rd rfl (by decide) (rd_move rfl) ?_
  refine GL_rd rfl (by decide) (rd_move rfl) ?_
  first
    | refine GL_rd rfl (by decide) (rd_add_ rfl rfl (by omega)) ?_
    | refine GL_rd rfl (by decide) (rd_add rfl rfl) ?_
  refine GL_rd rfl (by decide) (rd_move rfl) ?_
  refine GL_rd rfl (by decide) (rd_move rfl) ?_
  refine GL_rd rfl (by decide) (rd_move rfl) ?_
  refine GL_rd rfl (by decide) (rd_fieldAddr (j := 1) (by kernel_rfl) rfl) ?_
  refine GL_rd rfl (by decide) (rd_load 50 rfl rfl rfl (by kernel_rfl) (by decide)) ?_
  refine GL_rd rfl (by decide) (rd_build0 (v := .agg #[]) (fun w => by kernel_rfl)) ?_
  refine GL_at rfl (at_call_v (by decide) (by kernel_rfl) rfl (fun w_ s_ => mkdate_calls _ _ _ _ _ _ _ (by omega) (by omega) (by omega) (by omega) (by omega) (by omega) (by omega) w_) ?_)
  refine GL_at rfl (at_storeAgg 51 rfl rfl rfl rfl (by kernel_rfl) rfl (Nat.le_of_ble_eq_true rfl) ?_)
  refine GL_nil ?_
  refine GE_then ?_
  refine GC_ret ?_
  refine GE_ret1 (.inl rfl) rfl (res_cell2 51 rfl rfl rfl rfl (by kernel_rfl)) fun w_ s_ => ⟨?_, s_.toBelow⟩
  refine reta_ ?_ rfl
  have := Cal.dayNo_of (x / 86400) k
  omega
theorem daysIn_calls (m y : Int) (hm : 1 ≤ m ∧ m ≤ 12) (hy : 1 ≤ y ∧ y ≤ 10000) (w : World) : Calls Go.Proofs.Tryz.prog 81 #[.int .i64 m, .int .i64 y] w fun e w' => e = .returned (.int .i64 (Cal.mdays m y)) ∧ Below w.heap.size w w' := by
  refine calls_GC (args := [.int .i64 m, .int .i64 y]) (L := [(0, .int .i64 m), (1, .int .i64 y)]) (N := 11) Tryz.func81 rfl rfl (Nat.le_of_ble_eq_true rfl) rfl (Sees.start (fun _ => False) w) ?_
  have hlast := Cal.dayNo_last m y hm hy
  refine GC_seq ?_
  refine GC_region ?_
  refine GL_rd rfl (by decide) (rd_assign rfl) ?_
  refine GL_nil ?_
  refine GE_then ?_
  refine GC_seq ?_
  refine GC_region ?_
  refine GL_rd rfl (by decide) (rd_move rfl) ?_
  refine GL_rd rfl (by decide) (rd_move rfl) ?_
  first
    | refine GL_rd rfl (by decide) (rd_add_ rfl rfl (by omega)) ?_
    | refine GL_rd rfl (by decide) (rd_add rfl rfl) ?_
  refine GL_at rfl (at_call_v (by decide) (by kernel_rfl) rfl (fun w_ s_ => utc_calls w_) ?_)
  refine GL_at rfl (at_call_v (by decide) (by kernel_rfl) rfl (fun w_ s_ => mkdate_calls _ _ _ _ _ _ _ (by omega) (by omega) (by omega) (by omega) (by omega) (by omega) (by omega) w_) ?_)
  refine GL_at rfl (at_call_v (by decide) (by kernel_rfl) rfl (fun w_ s_ => day_calls _ _ (by omega) w_) ?_)
  refine GL_rd rfl (by decide) (rd_assign rfl) ?_
  refine GL_nil ?_
  refine GE_then ?_
  refine GC_ret ?_
  refine GE_ret1 (.inl rfl) rfl (res_tmp rfl) fun w_ s_ => ⟨?_, s_.toBelow⟩
  refine ret1_ ?_
  rw [show (Cal.dayNo y (m + 1) 0 * 86400 + 0 * 3600 + 0 * 60 + 0) / 86400 = Cal.dayNo y (m + 1) 0 by omega]
  exact hlast.2
end
end Go.Proofs.YtfcklceejjmjeaaGreat
