/-
  The days of a period: from which to which of the year.
-/
import Derived.Test.YtfcklceejjmjeaaGreatProg
import Derived.Test.YtfcklceejjmjeaaGreatMd
import Derived.Test.YtfcklceejjmjeaaGreatFg
import Derived.Test.YtfcklceejjmjeaaGreatReb
set_option linter.unusedVariables false
set_option linter.unusedSimpArgs false
set_option maxRecDepth 100000
set_option maxHeartbeats 8000000
namespace Go.Proofs.YtfcklceejjmjeaaGreat
open Go.RowKit Go.Fr Go.Tab
section
variable {F : Nat → Prop} {w0 : World} {B : List (Nat × Nat)} {H : List (Nat × Value)} {S : List (Nat × Slc)}

theorem wd_all : (List.range 385).all (fun k => (wd 55)[k]? == some ((k % 7 : Nat) : Int)) = true := by kernel_rfl
theorem wd_get {k : Nat} (h : k < 385) : (wd 55)[k]? = some ((k % 7 : Nat) : Int) := by
  have := List.all_eq_true.1 wd_all k (List.mem_range.2 h)
  exact beq_iff_eq.1 this
theorem wd_cell {k : Nat} {x : Int} (h : k < 385) (hx : x = ((k % 7 : Nat) : Int)) : ((wd 55).map (Value.int .i64))[k]? = some (.int .i64 x) := by
  rw [List.getElem?_map, wd_get h, hx]; rfl
theorem x0_ (n : Int) : n * 86400 + 0 * 3600 + 0 * 60 + 0 = n * 86400 := by omega
theorem x1_ (n : Int) : n * 86400 / 86400 = n := by omega
theorem calc_yearly {it : Nat} (hB : lkp 0 B = some it) {yl : Int} (h10 : lkp (ky 0 10) H = some (.int .i64 yl)) {y m d : Int} : ∀ w, Sees F w0 B H S w → Calls Go.Proofs.Tryz.prog 72 #[.pointer (some ⟨it, 7, none⟩), .int .i64 0, .int .i64 y, .int .i64 m, .int .i64 d] w fun e w' => e = .returned (.tuple #[.int .i64 0, .int .i64 yl]) ∧ Sees F w0 B H S w' := by
  intro w s
  refine calls_GC (args := [.pointer (some ⟨it, 7, none⟩), .int .i64 0, .int .i64 y, .int .i64 m, .int .i64 d]) (L := [(0, .pointer (some ⟨it, 7, none⟩)), (1, .int .i64 0), (2, .int .i64 y), (3, .int .i64 m), (4, .int .i64 d)]) (N := 88) Tryz.func72 rfl rfl (Nat.le_of_ble_eq_true rfl) rfl s ?_
  refine GC_seq ?_
  refine GC_region ?_
  refine GL_rd rfl (by decide) (rd_assign rfl) ?_
  refine GL_rd rfl (by decide) (rd_assign rfl) ?_
  refine GL_nil ?_
  refine GE_then ?_
  refine GC_seq ?_
  refine GC_region ?_
  refine GL_rd rfl (by decide) (rd_move rfl) ?_
  refine GL_nil ?_
  refine GE_then ?_
  refine GC_block ?_
  refine GC_seq ?_
  refine GC_region ?_
  refine GL_rd rfl (by decide) (rd_eql rfl rfl) ?_
  refine GL_rd rfl (by decide) (rd_assign rfl) ?_
  refine GL_nil ?_
  refine GE_then ?_
  refine GC_is_true rfl rfl ?_
  refine GC_seq ?_
  refine GC_quiet (by kernel_rfl) (by kernel_rfl) ?_
  refine GQ_rd rfl (by decide) (rd_move rfl) ?_
  refine GQ_rd rfl (by decide) (rd_nilCheck rfl) ?_
  refine GQ_rd rfl (by decide) (rd_fieldAddr (j := 3) (by kernel_rfl) rfl) ?_
  refine GQ_rd rfl (by decide) (rd_load 0 rfl hB h10 (by kernel_rfl) (by decide)) ?_
  refine GQ_rd rfl (by decide) (rd_assign rfl) ?_
  refine GQ_rd rfl (by decide) (rd_assign rfl) ?_
  refine GQ_nil ?_
  refine GE_then ?_
  refine GC_ret ?_
  refine GE_in_ret ?_
  refine GE_ret2 (.inl rfl) rfl (res_tmp rfl) (res_tmp rfl) fun w_ s_ => ⟨rfl, s_⟩
theorem calc_monthly {it : Nat} (hB : lkp 0 B = some it) {p7 : Option Addr} {c7 : Nat} {rg : List Value} (h16 : lkp (ky 0 16) H = some (.slice p7 13 c7)) (hS7 : lkp 7 S = some ⟨.slice p7 13 c7, 3, 1, 13, rg⟩) {m : Int} (hm : 1 ≤ m ∧ m ≤ 12) {a b : Int} (ha : rg[(m - 1).toNat]? = some (.int .i64 a)) (hb : rg[m.toNat]? = some (.int .i64 b)) {y d : Int} : ∀ w, Sees F w0 B H S w → Calls Go.Proofs.Tryz.prog 72 #[.pointer (some ⟨it, 7, none⟩), .int .i64 1, .int .i64 y, .int .i64 m, .int .i64 d] w fun e w' => e = .returned (.tuple #[.int .i64 a, .int .i64 b]) ∧ Sees F w0 B H S w' := by
  intro w s
  refine calls_GC (args := [.pointer (some ⟨it, 7, none⟩), .int .i64 1, .int .i64 y, .int .i64 m, .int .i64 d]) (L := [(0, .pointer (some ⟨it, 7, none⟩)), (1, .int .i64 1), (2, .int .i64 y), (3, .int .i64 m), (4, .int .i64 d)]) (N := 88) Tryz.func72 rfl rfl (Nat.le_of_ble_eq_true rfl) rfl s ?_
  refine GC_seq ?_
  refine GC_region ?_
  refine GL_rd rfl (by decide) (rd_assign rfl) ?_
  refine GL_rd rfl (by decide) (rd_assign rfl) ?_
  refine GL_nil ?_
  refine GE_then ?_
  refine GC_seq ?_
  refine GC_region ?_
  refine GL_rd rfl (by decide) (rd_move rfl) ?_
  refine GL_nil ?_
  refine GE_then ?_
  refine GC_block ?_
  refine GC_seq ?_
  refine GC_have (fun w s => s.head 7 hS7 (by decide)) fun hcap => ?_
  obtain ⟨b7, rfl, hc7⟩ := hcap
  refine GC_region ?_
  refine GL_rd rfl (by decide) (rd_eql rfl rfl) ?_
  refine GL_rd rfl (by decide) (rd_assign rfl) ?_
  refine GL_nil ?_
  refine GE_then ?_
  refine GC_is_false rfl rfl ?_
  refine GC_seq ?_
  refine GC_region ?_
  refine GL_rd rfl (by decide) (rd_eql rfl rfl) ?_
  refine GL_rd rfl (by decide) (rd_assign rfl) ?_
  refine GL_nil ?_
  refine GE_then ?_
  refine GC_is_true rfl rfl ?_
  refine GC_seq ?_
  refine GC_quiet (by kernel_rfl) (by kernel_rfl) ?_
  refine GQ_rd rfl (by decide) (rd_move rfl) ?_
  refine GQ_rd rfl (by decide) (rd_nilCheck rfl) ?_
  refine GQ_rd rfl (by decide) (rd_fieldAddr (j := 9) (by kernel_rfl) rfl) ?_
  refine GQ_rd rfl (by decide) (rd_load 0 rfl hB h16 (by kernel_rfl) (by decide)) ?_
  refine GQ_rd rfl (by decide) (rd_move rfl) ?_
  first
    | refine GQ_rd rfl (by decide) (rd_sub_ rfl rfl (by omega)) ?_
    | refine GQ_rd rfl (by decide) (rd_sub rfl rfl) ?_
  refine GQ_rd rfl (by decide) (rd_indexAddr (e := 3) (n := 1) (by kernel_rfl) rfl rfl (by omega) (by omega)) ?_
  refine GQ_rd rfl (by decide) (rd_load_row 7 rfl hS7 rfl (by rw [Nat.zero_add, Nat.mul_one]; exact ha) (by kernel_rfl)) ?_
  refine GQ_rd rfl (by decide) (rd_move rfl) ?_
  refine GQ_rd rfl (by decide) (rd_nilCheck rfl) ?_
  refine GQ_rd rfl (by decide) (rd_fieldAddr (j := 9) (by kernel_rfl) rfl) ?_
  refine GQ_rd rfl (by decide) (rd_load 0 rfl hB h16 (by kernel_rfl) (by decide)) ?_
  refine GQ_rd rfl (by decide) (rd_move rfl) ?_
  refine GQ_rd rfl (by decide) (rd_indexAddr (e := 3) (n := 1) (by kernel_rfl) rfl rfl (by omega) (by omega)) ?_
  refine GQ_rd rfl (by decide) (rd_load_row 7 rfl hS7 rfl (by rw [Nat.zero_add, Nat.mul_one]; exact hb) (by kernel_rfl)) ?_
  refine GQ_rd rfl (by decide) (rd_assign rfl) ?_
  refine GQ_rd rfl (by decide) (rd_assign rfl) ?_
  refine GQ_nil ?_
  refine GE_then ?_
  refine GC_seq ?_
  refine GC_region ?_
  refine GL_rd rfl (by decide) (rd_move rfl) ?_
  refine GL_rd rfl (by decide) (rd_move rfl) ?_
  refine GL_rd rfl (by decide) (rd_assign rfl) ?_
  refine GL_rd rfl (by decide) (rd_assign rfl) ?_
  refine GL_nil ?_
  refine GE_then ?_
  refine GC_ret ?_
  refine GE_in_ret ?_
  refine GE_ret2 (.inl rfl) rfl (res_tmp rfl) (res_tmp rfl) fun w_ s_ => ⟨rfl, s_⟩
theorem calc_daily {it : Nat} (hB : lkp 0 B = some it) {y m d : Int} (hy : 1 ≤ y ∧ y ≤ 10000) (hm : 1 ≤ m ∧ m ≤ 12) (hd : 1 ≤ d ∧ d ≤ 1000) (hdn : 0 ≤ Cal.dayNo y m d ∧ Cal.dayNo y m d ≤ 5000000) {f : Int} (hf : 3 ≤ f) : ∀ w, Sees F w0 B H S w → Calls Go.Proofs.Tryz.prog 72 #[.pointer (some ⟨it, 7, none⟩), .int .i64 f, .int .i64 y, .int .i64 m, .int .i64 d] w fun e w' => e = .returned (.tuple #[.int .i64 (Cal.ydayOf (Cal.dayNo y m d)), .int .i64 (Cal.ydayOf (Cal.dayNo y m d) + 1)]) ∧ Sees F w0 B H S w' := by
  have hsp := Cal.split_spec (Cal.dayNo y m d)
  have hlp := Cal.lp_01 (Cal.yearOf (Cal.dayNo y m d))
  intro w s
  refine calls_GC (args := [.pointer (some ⟨it, 7, none⟩), .int .i64 f, .int .i64 y, .int .i64 m, .int .i64 d]) (L := [(0, .pointer (some ⟨it, 7, none⟩)), (1, .int .i64 f), (2, .int .i64 y), (3, .int .i64 m), (4, .int .i64 d)]) (N := 88) Tryz.func72 rfl rfl (Nat.le_of_ble_eq_true rfl) rfl s ?_
  refine GC_seq ?_
  refine GC_region ?_
  refine GL_rd rfl (by decide) (rd_assign rfl) ?_
  refine GL_rd rfl (by decide) (rd_assign rfl) ?_
  refine GL_nil ?_
  refine GE_then ?_
  refine GC_seq ?_
  refine GC_region ?_
  refine GL_rd rfl (by decide) (rd_move rfl) ?_
  refine GL_nil ?_
  refine GE_then ?_
  refine GC_block ?_
  refine GC_seq ?_
  refine GC_region ?_
  refine GL_rd rfl (by decide) (rd_eql rfl rfl) ?_
  refine GL_rd rfl (by decide) (rd_assign rfl) ?_
  refine GL_nil ?_
  refine GE_then ?_
  refine GC_is_false rfl (b_ne (by omega)) ?_
  refine GC_seq ?_
  refine GC_region ?_
  refine GL_rd rfl (by decide) (rd_eql rfl rfl) ?_
  refine GL_rd rfl (by decide) (rd_assign rfl) ?_
  refine GL_nil ?_
  refine GE_then ?_
  refine GC_is_false rfl (b_ne (by omega)) ?_
  refine GC_seq ?_
  refine GC_region ?_
  refine GL_rd rfl (by decide) (rd_eql rfl rfl) ?_
  refine GL_rd rfl (by decide) (rd_assign rfl) ?_
  refine GL_nil ?_
  refine GE_then ?_
  refine GC_is_false rfl (b_ne (by omega)) ?_
  refine GC_seq ?_
  refine GC_region ?_
  refine GL_rd rfl (by decide) (rd_move rfl) ?_
  refine GL_rd rfl (by decide) (rd_move rfl) ?_
  refine GL_rd rfl (by decide) (rd_move rfl) ?_
  refine GL_at rfl (at_call_v (by decide) (by kernel_rfl) rfl (fun w_ s_ => utc_calls w_) ?_)
  refine GL_at rfl (at_call_v (v := .agg #[.int .i64 (Cal.dayNo y m d * 86400), .int .i64 0]) (by decide) (by kernel_rfl) rfl (fun w_ s_ => (mkdate_calls y m d 0 0 0 0 (by omega) (by omega) (by omega) (by omega) (by omega) (by omega) (by omega) w_).mono fun e_ w2_ h_ => ⟨h_.1.trans (congrArg Ending.returned (by rw [x0_])), h_.2⟩) ?_)
  refine GL_at rfl (at_call_v (v := .int .i64 (Cal.ydayOf (Cal.dayNo y m d) + 1)) (by decide) (by kernel_rfl) rfl (fun w_ s_ => (yearDay_calls _ _ (by omega) w_).mono fun e_ w2_ h_ => ⟨h_.1.trans (congrArg Ending.returned (by rw [x1_])), h_.2⟩) ?_)
  first
    | refine GL_rd rfl (by decide) (rd_sub_ rfl rfl (by omega)) ?_
    | refine GL_rd rfl (by decide) (rd_sub rfl rfl) ?_
  refine GL_rd rfl (by decide) (rd_assign rfl) ?_
  refine GL_nil ?_
  refine GE_then ?_
  refine GC_seq ?_
  refine GC_region ?_
  refine GL_rd rfl (by decide) (rd_move rfl) ?_
  refine GL_rd rfl (by decide) (rd_move rfl) ?_
  first
    | refine GL_rd rfl (by decide) (rd_add_ rfl rfl (by omega)) ?_
    | refine GL_rd rfl (by decide) (rd_add rfl rfl) ?_
  refine GL_rd rfl (by decide) (rd_assign rfl) ?_
  refine GL_rd rfl (by decide) (rd_assign rfl) ?_
  refine GL_nil ?_
  refine GE_then ?_
  refine GC_ret ?_
  refine GE_in_ret ?_
  refine GE_ret2 (.inl rfl) rfl (res_tmp rfl) (res_tmp rfl) fun w_ s_ => ⟨(congrArg Ending.returned (congrArg Value.tuple (by rw [Int.add_sub_cancel]))), s_⟩
theorem calc_weekly {it : Nat} (hB : lkp 0 B = some it) {y m d : Int} (hy : 1 ≤ y ∧ y ≤ 10000) (hm : 1 ≤ m ∧ m ≤ 12) (hd : 1 ≤ d ∧ d ≤ 1000) (hdn : 0 ≤ Cal.dayNo y m d ∧ Cal.dayNo y m d ≤ 5000000) {rb : Nat} (hR : lkp 1 B = some rb) (h7 : lkp (ky 0 7) H = some (.pointer (some ⟨rb, 0, none⟩))) {k : Int} (r42 : lkp (ky 1 42) H = some (.int .i64 k)) (hk : 0 ≤ k ∧ k ≤ 6) {yw : Int} (hyw : 0 ≤ yw ∧ yw ≤ 6) {b6 c6 : Nat}
    (h19 : lkp (ky 0 19) H = some (.slice (some ⟨b6, 0 + yw.toNat * 1, none⟩) (385 - yw.toNat) (c6 - yw.toNat))) (hS6 : lkp 6 S = some ⟨.slice (some ⟨b6, 0, none⟩) 385 c6, 3, 1, 385, (wd 55).map (Value.int .i64)⟩) {i : Int} (hi : Cal.ydayOf (Cal.dayNo y m d) = i) :
    ∀ w, Sees F w0 B H S w → Calls Go.Proofs.Tryz.prog 72 #[.pointer (some ⟨it, 7, none⟩), .int .i64 2, .int .i64 y, .int .i64 m, .int .i64 d] w fun e w' => e = .returned (.tuple #[.int .i64 i, .int .i64 (i + 1 + (k - yw - i - 1) % 7)]) ∧ Sees F w0 B H S w' := by
  have hsp := Cal.split_spec (Cal.dayNo y m d)
  have hlp := Cal.lp_01 (Cal.yearOf (Cal.dayNo y m d))
  intro w s
  refine calls_GC (args := [.pointer (some ⟨it, 7, none⟩), .int .i64 2, .int .i64 y, .int .i64 m, .int .i64 d]) (L := [(0, .pointer (some ⟨it, 7, none⟩)), (1, .int .i64 2), (2, .int .i64 y), (3, .int .i64 m), (4, .int .i64 d)]) (N := 88) Tryz.func72 rfl rfl (Nat.le_of_ble_eq_true rfl) rfl s ?_
  refine GC_seq ?_
  refine GC_region ?_
  refine GL_rd rfl (by decide) (rd_assign rfl) ?_
  refine GL_rd rfl (by decide) (rd_assign rfl) ?_
  refine GL_nil ?_
  refine GE_then ?_
  refine GC_seq ?_
  refine GC_region ?_
  refine GL_rd rfl (by decide) (rd_move rfl) ?_
  refine GL_nil ?_
  refine GE_then ?_
  refine GC_block ?_
  refine GC_seq ?_
  refine GC_region ?_
  refine GL_rd rfl (by decide) (rd_eql rfl rfl) ?_
  refine GL_rd rfl (by decide) (rd_assign rfl) ?_
  refine GL_nil ?_
  refine GE_then ?_
  refine GC_is_false rfl rfl ?_
  refine GC_seq ?_
  refine GC_region ?_
  refine GL_rd rfl (by decide) (rd_eql rfl rfl) ?_
  refine GL_rd rfl (by decide) (rd_assign rfl) ?_
  refine GL_nil ?_
  refine GE_then ?_
  refine GC_is_false rfl rfl ?_
  refine GC_seq ?_
  refine GC_region ?_
  refine GL_rd rfl (by decide) (rd_eql rfl rfl) ?_
  refine GL_rd rfl (by decide) (rd_assign rfl) ?_
  refine GL_nil ?_
  refine GE_then ?_
  refine GC_is_true rfl rfl ?_
  refine GC_seq ?_
  refine GC_region ?_
  refine GL_rd rfl (by decide) (rd_move rfl) ?_
  refine GL_rd rfl (by decide) (rd_move rfl) ?_
  refine GL_rd rfl (by decide) (rd_move rfl) ?_
  refine GL_at rfl (at_call_v (by decide) (by kernel_rfl) rfl (fun w_ s_ => utc_calls w_) ?_)
  refine GL_at rfl (at_call_v (v := .agg #[.int .i64 (Cal.dayNo y m d * 86400), .int .i64 0]) (by decide) (by kernel_rfl) rfl (fun w_ s_ => (mkdate_calls y m d 0 0 0 0 (by omega) (by omega) (by omega) (by omega) (by omega) (by omega) (by omega) w_).mono fun e_ w2_ h_ => ⟨h_.1.trans (congrArg Ending.returned (by rw [x0_])), h_.2⟩) ?_)
  refine GL_at rfl (at_call_v (v := .int .i64 (Cal.ydayOf (Cal.dayNo y m d) + 1)) (by decide) (by kernel_rfl) rfl (fun w_ s_ => (yearDay_calls _ _ (by omega) w_).mono fun e_ w2_ h_ => ⟨h_.1.trans (congrArg Ending.returned (by rw [x1_])), h_.2⟩) ?_)
  refine GL_rd rfl (by decide) ((rd_sub_ rfl rfl (by omega)).to (congrArg (Value.int .i64) (show _ = i by omega))) ?_
  refine GL_rd rfl (by decide) (rd_assign rfl) ?_
  refine GL_nil ?_
  refine GE_then ?_
  refine GC_seq ?_
  refine GC_region ?_
  refine GL_rd rfl (by decide) (rd_move rfl) ?_
  refine GL_rd rfl (by decide) (rd_move rfl) ?_
  first
    | refine GL_rd rfl (by decide) (rd_add_ rfl rfl (by omega)) ?_
    | refine GL_rd rfl (by decide) (rd_add rfl rfl) ?_
  refine GL_rd rfl (by decide) (rd_assign rfl) ?_
  refine GL_rd rfl (by decide) (rd_assign rfl) ?_
  refine GL_nil ?_
  refine GE_then ?_
  refine GC_seq ?_
  refine GC_seq ?_
  refine GC_region ?_
  refine GL_rd rfl (by decide) (rd_assign rfl) ?_
  refine GL_nil ?_
  refine GE_then ?_
  refine GC_block ?_
  refine GC_loop (ι := (Nat)) (fun j => 7 - j) (fun j => ((j : Int) ≤ (k - yw - i - 1) % 7)) (fun j => [(0, .pointer (some ⟨it, 7, none⟩)), (10, .int .i64 i), (11, .int .i64 (i + 1 + j)), (12, .int .i64 (i + j)), (13, .int .i64 ((j : Int)))]) (fun j => B) (fun j => H) (fun j => S) 0 (by show ((0 : Nat) : Int) ≤ _; omega) (fun a q => q.cons rfl (q.cons rfl (q.cons (by exact congrArg (fun n : Int => some (Value.int .i64 n)) (by omega)) (q.cons (by exact congrArg (fun n : Int => some (Value.int .i64 n)) (by omega)) (q.cons rfl q.nil))))) (fun w s => by exact s) ?_
  rintro j hj
  show GC _ _ _ _ [(0, .pointer (some ⟨it, 7, none⟩)), (10, .int .i64 i), (11, .int .i64 (i + 1 + j)), (12, .int .i64 (i + j)), (13, .int .i64 ((j : Int)))] _ _ (B) (H) (S)
  refine GC_seq ?_
  refine GC_seq ?_
  refine GC_region ?_
  refine GL_rd rfl (by decide) (rd_move rfl) ?_
  refine GL_rd rfl (by decide) (rd_lss rfl rfl) ?_
  refine GL_nil ?_
  refine GE_then ?_
  refine GC_is_true rfl (decide_eq_true (by omega)) ?_
  refine GC_skip ?_
  refine GE_then ?_
  refine GC_seq ?_
  refine GC_block ?_
  refine GC_seq ?_
  refine GC_region ?_
  refine GL_rd rfl (by decide) (rd_move rfl) ?_
  first
    | refine GL_rd rfl (by decide) (rd_add_ rfl rfl (by omega)) ?_
    | refine GL_rd rfl (by decide) (rd_add rfl rfl) ?_
  refine GL_rd rfl (by decide) (rd_assign rfl) ?_
  refine GL_nil ?_
  refine GE_then ?_
  refine GC_seq ?_
  refine GC_seq ?_
  refine GC_quiet (by kernel_rfl) (by kernel_rfl) ?_
  refine GQ_rd rfl (by decide) (rd_move rfl) ?_
  refine GQ_rd rfl (by decide) (rd_nilCheck rfl) ?_
  refine GQ_rd rfl (by decide) (rd_fieldAddr (j := 12) (by kernel_rfl) rfl) ?_
  refine GQ_rd rfl (by decide) (rd_load 0 rfl hB h19 (by kernel_rfl) (by decide)) ?_
  refine GQ_rd rfl (by decide) (rd_move rfl) ?_
  refine GQ_rd rfl (by decide) (rd_indexAddr (e := 3) (n := 1) (by kernel_rfl) rfl rfl (by omega) (by omega)) ?_
  refine GQ_rd rfl (by decide) (rd_load_row 6 rfl hS6 rfl (wd_cell (x := (yw + i + j + 1) % 7) (by omega) (by omega)) (by kernel_rfl)) ?_
  refine GQ_rd rfl (by decide) (rd_move rfl) ?_
  refine GQ_rd rfl (by decide) (rd_nilCheck rfl) ?_
  refine GQ_rd rfl (by decide) (rd_fieldAddr (j := 0) (by kernel_rfl) rfl) ?_
  refine GQ_rd rfl (by decide) (rd_load 0 rfl hB h7 (by kernel_rfl) (by decide)) ?_
  refine GQ_rd rfl (by decide) (rd_nilCheck rfl) ?_
  refine GQ_rd rfl (by decide) (rd_fieldAddr (j := 42) (by kernel_rfl) rfl) ?_
  refine GQ_rd rfl (by decide) (rd_load 1 rfl hR r42 (by kernel_rfl) (by decide)) ?_
  refine GQ_rd rfl (by decide) (rd_eql rfl rfl) ?_
  refine GQ_nil ?_
  refine GE_then ?_
  refine GC_cond rfl (fun hc1 => ?_) (fun hc2 => ?_)
  · have hhit := beq_iff_eq.1 hc1
    refine GC_exit ?_
    refine GE_then_exit ?_
    refine GE_in_other (by decide) ?_
    refine GE_then_exit ?_
    refine GE_then_exit ?_
    refine GE_in_self ?_
    refine GE_then ?_
    refine GC_seq ?_
    refine GC_region ?_
    refine GL_rd rfl (by decide) (rd_move rfl) ?_
    refine GL_rd rfl (by decide) (rd_move rfl) ?_
    refine GL_rd rfl (by decide) (rd_assign rfl) ?_
    refine GL_rd rfl (by decide) (rd_assign rfl) ?_
    refine GL_nil ?_
    refine GE_then ?_
    refine GC_ret ?_
    refine GE_in_ret ?_
    refine GE_ret2 (.inl rfl) rfl (res_tmp rfl) (res_tmp rfl) fun w_ s_ => ⟨?_, s_⟩
    refine ret2_ (by omega) (by omega)
  · have hmiss := beq_eq_false_iff_ne.1 hc2
    refine GC_skip ?_
    refine GE_then ?_
    refine GC_region ?_
    refine GL_rd rfl (by decide) (rd_move rfl) ?_
    first
      | refine GL_rd rfl (by decide) (rd_add_ rfl rfl (by omega)) ?_
      | refine GL_rd rfl (by decide) (rd_add rfl rfl) ?_
    refine GL_rd rfl (by decide) (rd_assign rfl) ?_
    refine GL_nil ?_
    refine GE_in ?_
    refine GE_then ?_
    refine GC_region ?_
    refine GL_rd rfl (by decide) (rd_move rfl) ?_
    first
      | refine GL_rd rfl (by decide) (rd_add_ rfl rfl (by omega)) ?_
      | refine GL_rd rfl (by decide) (rd_add rfl rfl) ?_
    refine GL_rd rfl (by decide) (rd_assign rfl) ?_
    refine GL_nil ?_
    refine GE_back (j + 1) (by omega) (by show ((j + 1 : Nat) : Int) ≤ _; omega) (fun a q => q.cons rfl (q.cons rfl (q.cons (by exact congrArg (fun n : Int => some (Value.int .i64 n)) (by omega)) (q.cons (by exact congrArg (fun n : Int => some (Value.int .i64 n)) (by omega)) (q.cons (by exact congrArg (fun n : Int => some (Value.int .i64 n)) (by omega)) q.nil))))) (fun w s => by exact s)
end
end Go.Proofs.YtfcklceejjmjeaaGreat
