/-
  The year's tables of the iterator are made anew, or stand: rules without weeks, numbered days of the week, and Easter.
-/
import Derived.Test.YtfcklceejjmjeaaGreatProg
import Derived.Test.YtfcklceejjmjeaaGreatMd
import Derived.Test.YtfcklceejjmjeaaGreatFg
import Derived.Test.YtfcklceejjmjeaaGreatListb
set_option linter.unusedVariables false
set_option linter.unusedSimpArgs false
set_option maxRecDepth 100000
set_option maxHeartbeats 8000000
namespace Go.Proofs.YtfcklceejjmjeaaGreat
open Go.RowKit Go.Fr Go.Tab
section
variable {F : Nat → Prop} {w0 : World} {B : List (Nat × Nat)} {H : List (Nat × Value)} {S : List (Nat × Slc)}

theorem dayNo_first (y : Int) : Cal.dayNo y 1 1 * 86400 + 0 * 3600 + 0 * 60 + 0 = Cal.daysTo y * 86400 := by
  unfold Cal.dayNo
  show (Cal.daysTo (y + 0) + 0 + 1 - 1) * 86400 + 0 * 3600 + 0 * 60 + 0 = _
  simp only [Int.add_zero]; omega
theorem ywd_of (y : Int) : ((Cal.daysTo y * 86400 / 86400 + 1) % 7 + 6) % 7 = ywd y := by unfold ywd; omega
theorem rebuild_same {it rb : Nat} (hB : lkp 0 B = some it) (hR : lkp 1 B = some rb) (h7 : lkp (ky 0 7) H = some (.pointer (some ⟨rb, 0, none⟩))) {ly lm : Int} (h8 : lkp (ky 0 8) H = some (.int .i64 ly)) (h9 : lkp (ky 0 9) H = some (.int .i64 lm))
    {p51 p53 p57 : Option Addr} {c51 c53 c57 : Nat} (r51 : lkp (ky 1 51) H = some (.slice p51 0 c51)) (r53 : lkp (ky 1 53) H = some (.slice p53 0 c53)) (r57 : lkp (ky 1 57) H = some (.slice p57 0 c57)) {y m : Int} (hy : y = ly) :
    ∀ w, Sees F w0 B H S w → Calls Go.Proofs.Tryz.prog 24 #[.pointer (some ⟨it, 7, none⟩), .int .i64 y, .int .i64 m] w fun e w' => e = .returned (.tuple #[]) ∧ Sees F w0 B ((ky 0 9, .int .i64 m) :: (ky 0 8, .int .i64 y) :: H) S w' := by
  intro w s
  refine calls_GC (args := [.pointer (some ⟨it, 7, none⟩), .int .i64 y, .int .i64 m]) (L := [(0, .pointer (some ⟨it, 7, none⟩)), (1, .int .i64 y), (2, .int .i64 m)]) (N := 638) Tryz.func24 rfl rfl (Nat.le_of_ble_eq_true rfl) rfl s ?_
  refine GC_seq ?_
  refine GC_seq ?_
  refine GC_region ?_
  refine GL_rd rfl (by decide) (rd_move rfl) ?_
  refine GL_rd rfl (by decide) (rd_move rfl) ?_
  refine GL_rd rfl (by decide) (rd_nilCheck rfl) ?_
  refine GL_rd rfl (by decide) (rd_fieldAddr (j := 1) (by kernel_rfl) rfl) ?_
  refine GL_rd rfl (by decide) (rd_load 0 rfl hB h8 (by kernel_rfl) (by decide)) ?_
  refine GL_rd rfl (by decide) (rd_neq rfl rfl) ?_
  refine GL_nil ?_
  refine GE_then ?_
  refine GC_is_false rfl (n_eq hy) ?_
  refine GC_skip ?_
  refine GE_then ?_
  refine GC_seq ?_
  refine GC_seq ?_
  refine GC_region ?_
  refine GL_rd rfl (by decide) (rd_move rfl) ?_
  refine GL_rd rfl (by decide) (rd_nilCheck rfl) ?_
  refine GL_rd rfl (by decide) (rd_fieldAddr (j := 0) (by kernel_rfl) rfl) ?_
  refine GL_rd rfl (by decide) (rd_load 0 rfl hB h7 (by kernel_rfl) (by decide)) ?_
  refine GL_rd rfl (by decide) (rd_nilCheck rfl) ?_
  refine GL_rd rfl (by decide) (rd_fieldAddr (j := 53) (by kernel_rfl) rfl) ?_
  refine GL_rd rfl (by decide) (rd_load 1 rfl hR r53 (by kernel_rfl) (by decide)) ?_
  refine GL_rd rfl (by decide) (rd_len (by kernel_rfl) rfl) ?_
  refine GL_rd rfl (by decide) ((rd_neq rfl rfl).to (v' := .bool false) rfl) ?_
  refine GL_rd rfl (by decide) (rd_move rfl) ?_
  refine GL_pass (by decide) rfl rfl (by decide) ?_
  refine GL_pass (by decide) rfl rfl (by decide) ?_
  refine GL_pass (by decide) rfl rfl (by decide) ?_
  refine GL_pass (by decide) rfl rfl (by decide) ?_
  refine GL_pass (by decide) rfl rfl (by decide) ?_
  refine GL_pass (by decide) rfl rfl (by decide) ?_
  refine GL_pass (by decide) rfl rfl (by decide) ?_
  refine GL_passu (by decide) rfl rfl ?_
  refine GL_passu (by decide) rfl rfl ?_
  refine GL_passu (by decide) rfl rfl ?_
  refine GL_passu (by decide) rfl rfl ?_
  refine GL_passu (by decide) rfl rfl ?_
  refine GL_passu (by decide) rfl rfl ?_
  refine GL_pass (by decide) rfl rfl (by decide) ?_
  refine GL_rd rfl (by decide) (rd_pick rfl rfl rfl) ?_
  refine GL_nil ?_
  refine GE_then ?_
  refine GC_is_false rfl rfl ?_
  refine GC_skip ?_
  refine GE_then ?_
  refine GC_seq ?_
  refine GC_seq ?_
  refine GC_region ?_
  refine GL_rd rfl (by decide) (rd_move rfl) ?_
  refine GL_rd rfl (by decide) (rd_nilCheck rfl) ?_
  refine GL_rd rfl (by decide) (rd_fieldAddr (j := 0) (by kernel_rfl) rfl) ?_
  refine GL_rd rfl (by decide) (rd_load 0 rfl hB h7 (by kernel_rfl) (by decide)) ?_
  refine GL_rd rfl (by decide) (rd_nilCheck rfl) ?_
  refine GL_rd rfl (by decide) (rd_fieldAddr (j := 57) (by kernel_rfl) rfl) ?_
  refine GL_rd rfl (by decide) (rd_load 1 rfl hR r57 (by kernel_rfl) (by decide)) ?_
  refine GL_rd rfl (by decide) (rd_len (by kernel_rfl) rfl) ?_
  refine GL_rd rfl (by decide) ((rd_neq rfl rfl).to (v' := .bool false) rfl) ?_
  refine GL_nil ?_
  refine GE_then ?_
  refine GC_is_false rfl rfl ?_
  refine GC_skip ?_
  refine GE_then ?_
  refine GC_seq ?_
  refine GC_region ?_
  refine GL_rd rfl (by decide) (rd_move rfl) ?_
  refine GL_rd rfl (by decide) (rd_move rfl) ?_
  refine GL_rd rfl (by decide) (rd_nilCheck rfl) ?_
  refine GL_rd rfl (by decide) (rd_fieldAddr (j := 1) (by kernel_rfl) rfl) ?_
  refine GL_at rfl (at_store 0 rfl rfl hB h8 (by kernel_rfl) rfl (by decide) ?_)
  refine GL_nil ?_
  refine GE_then ?_
  refine GC_region ?_
  refine GL_rd rfl (by decide) (rd_move rfl) ?_
  refine GL_rd rfl (by decide) (rd_move rfl) ?_
  refine GL_rd rfl (by decide) (rd_nilCheck rfl) ?_
  refine GL_rd rfl (by decide) (rd_fieldAddr (j := 2) (by kernel_rfl) rfl) ?_
  refine GL_at rfl (at_store 0 rfl rfl hB h9 (by kernel_rfl) rfl (by decide) ?_)
  refine GL_nil ?_
  refine GE_ret0 (.inr rfl) rfl fun w s => ⟨rfl, s⟩
/-- What stands after the tables were made. -/
def NewYear (e : Ending) (F : Nat → Prop) (w0 : World) (B : List (Nat × Nat)) (H : List (Nat × Value)) (S : List (Nat × Slc)) (y m : Int) (w' : World) : Prop :=
  ∃ (b6 c6 : Nat) (p3 : Option Addr) (c3 : Nat) (p4 : Option Addr) (c4 : Nat) (p5 : Option Addr) (c5 : Nat) (p7 : Option Addr) (c7 : Nat), 385 ≤ c6 ∧ e = .returned (.tuple #[]) ∧
    Sees F w0 B ((ky 0 9, .int .i64 m) :: (ky 0 8, .int .i64 y) :: (ky 0 20, .slice none 0 0) :: (ky 0 16, .slice p7 13 c7) :: (ky 0 18, .slice p5 (nY y) c5) :: (ky 0 17, .slice p4 (nY y) c4) :: (ky 0 15, .slice p3 (nY y) c3) ::
      (ky 0 19, .slice (some ⟨b6, 0 + (ywd y).toNat * 1, none⟩) (385 - (ywd y).toNat) (c6 - (ywd y).toNat)) :: (ky 0 14, .int .i64 (ywd y)) :: (ky 0 13, .int .i64 0) :: (ky 0 12, .int .i64 (Cal.daysTo y * 86400)) ::
      (ky 0 11, .int .i64 (365 + Cal.lp (y + 1))) :: (ky 0 10, .int .i64 (365 + Cal.lp y)) :: H)
      ((7, ⟨.slice p7 13 c7, 3, 1, 13, (rgY y).map (Value.int .i64)⟩) :: (5, ⟨.slice p5 (nY y) c5, 3, 1, nY y, (nmdY y).map (Value.int .i64)⟩) :: (4, ⟨.slice p4 (nY y) c4, 3, 1, nY y, (mdY y).map (Value.int .i64)⟩) :: (3, ⟨.slice p3 (nY y) c3, 3, 1, nY y, (mmY y).map (Value.int .i64)⟩) ::
      (6, ⟨.slice (some ⟨b6, 0, none⟩) 385 c6, 3, 1, 385, (wd 55).map (Value.int .i64)⟩) :: S) w'
theorem rebuild_365 {it rb : Nat} (hB : lkp 0 B = some it) (hR : lkp 1 B = some rb) (h7 : lkp (ky 0 7) H = some (.pointer (some ⟨rb, 0, none⟩))) {ly lm : Int} (h8 : lkp (ky 0 8) H = some (.int .i64 ly)) (h9 : lkp (ky 0 9) H = some (.int .i64 lm))
    {p51 p53 p57 : Option Addr} {c51 c53 c57 : Nat} (r51 : lkp (ky 1 51) H = some (.slice p51 0 c51)) (r53 : lkp (ky 1 53) H = some (.slice p53 0 c53)) (r57 : lkp (ky 1 57) H = some (.slice p57 0 c57)) {y m : Int} {d0 d1 : Int} (r39 : lkp (ky 1 39) H = some (.int .i64 d0)) (r40 : lkp (ky 1 40) H = some (.int .i64 d1)) {v10 : Value} (h10 : lkp (ky 0 10) H = some v10) {v11 : Value} (h11 : lkp (ky 0 11) H = some v11) {v12 : Value} (h12 : lkp (ky 0 12) H = some v12) {v13 : Value} (h13 : lkp (ky 0 13) H = some v13) {v14 : Value} (h14 : lkp (ky 0 14) H = some v14) {v15 : Value} (h15 : lkp (ky 0 15) H = some v15) {v16 : Value} (h16 : lkp (ky 0 16) H = some v16) {v17 : Value} (h17 : lkp (ky 0 17) H = some v17) {v18 : Value} (h18 : lkp (ky 0 18) H = some v18) {v19 : Value} (h19 : lkp (ky 0 19) H = some v19) {v20 : Value} (h20 : lkp (ky 0 20) H = some v20) (hy : y ≠ ly) (hy1 : 1 ≤ y ∧ y ≤ 10000) (hleap : Cal.leapB y = false) :
    ∀ w, Sees F w0 B H S w → Calls Go.Proofs.Tryz.prog 24 #[.pointer (some ⟨it, 7, none⟩), .int .i64 y, .int .i64 m] w fun e w' => NewYear e F w0 B H S y m w' := by
  have hdt : 0 ≤ Cal.daysTo y ∧ Cal.daysTo y ≤ 4000000 := by unfold Cal.daysTo; omega
  have hyw : 0 ≤ ywd y ∧ ywd y ≤ 6 := by unfold ywd; omega
  have hlp : Cal.lp y = 0 := by unfold Cal.lp; rw [hleap]; rfl
  have hlp2 := Cal.lp_01 (y + 1)
  intro w s
  refine calls_GC (args := [.pointer (some ⟨it, 7, none⟩), .int .i64 y, .int .i64 m]) (L := [(0, .pointer (some ⟨it, 7, none⟩)), (1, .int .i64 y), (2, .int .i64 m)]) (N := 638) Tryz.func24 rfl rfl (Nat.le_of_ble_eq_true rfl) rfl s ?_
  refine GC_seq ?_
  refine GC_seq ?_
  refine GC_region ?_
  refine GL_rd rfl (by decide) (rd_move rfl) ?_
  refine GL_rd rfl (by decide) (rd_move rfl) ?_
  refine GL_rd rfl (by decide) (rd_nilCheck rfl) ?_
  refine GL_rd rfl (by decide) (rd_fieldAddr (j := 1) (by kernel_rfl) rfl) ?_
  refine GL_rd rfl (by decide) (rd_load 0 rfl hB h8 (by kernel_rfl) (by decide)) ?_
  refine GL_rd rfl (by decide) (rd_neq rfl rfl) ?_
  refine GL_nil ?_
  refine GE_then ?_
  refine GC_is_true rfl (n_ne hy) ?_
  refine GC_seq ?_
  refine GC_region ?_
  refine GL_rd rfl (by decide) (rd_move rfl) ?_
  refine GL_rd rfl (by decide) (rd_move rfl) ?_
  refine GL_at rfl (at_call_v (v := .int .i64 (Cal.lp y)) (by decide) (by kernel_rfl) rfl (fun w_ s_ => (isLeap_calls _ (by omega) w_).mono fun e_ w2_ h_ => ⟨h_.1.trans (congrArg Ending.returned rfl), h_.2⟩) ?_)
  first
    | refine GL_rd rfl (by decide) (rd_add_ rfl rfl (by omega)) ?_
    | refine GL_rd rfl (by decide) (rd_add rfl rfl) ?_
  refine GL_rd rfl (by decide) (rd_nilCheck rfl) ?_
  refine GL_rd rfl (by decide) (rd_fieldAddr (j := 3) (by kernel_rfl) rfl) ?_
  refine GL_at rfl (at_store 0 rfl rfl hB h10 (by kernel_rfl) rfl (by decide) ?_)
  refine GL_nil ?_
  refine GE_then ?_
  refine GC_seq ?_
  refine GC_region ?_
  refine GL_rd rfl (by decide) (rd_move rfl) ?_
  refine GL_rd rfl (by decide) (rd_move rfl) ?_
  first
    | refine GL_rd rfl (by decide) (rd_add_ rfl rfl (by omega)) ?_
    | refine GL_rd rfl (by decide) (rd_add rfl rfl) ?_
  refine GL_at rfl (at_call_v (v := .int .i64 (Cal.lp (y + 1))) (by decide) (by kernel_rfl) rfl (fun w_ s_ => (isLeap_calls _ (by omega) w_).mono fun e_ w2_ h_ => ⟨h_.1.trans (congrArg Ending.returned rfl), h_.2⟩) ?_)
  first
    | refine GL_rd rfl (by decide) (rd_add_ rfl rfl (by omega)) ?_
    | refine GL_rd rfl (by decide) (rd_add rfl rfl) ?_
  refine GL_rd rfl (by decide) (rd_nilCheck rfl) ?_
  refine GL_rd rfl (by decide) (rd_fieldAddr (j := 4) (by kernel_rfl) rfl) ?_
  refine GL_at rfl (at_store 0 rfl rfl hB h11 (by kernel_rfl) rfl (by decide) ?_)
  refine GL_nil ?_
  refine GE_then ?_
  refine GC_seq ?_
  refine GC_region ?_
  refine GL_rd rfl (by decide) (rd_move rfl) ?_
  refine GL_rd rfl (by decide) (rd_move rfl) ?_
  refine GL_rd rfl (by decide) (rd_move rfl) ?_
  refine GL_rd rfl (by decide) (rd_nilCheck rfl) ?_
  refine GL_rd rfl (by decide) (rd_fieldAddr (j := 0) (by kernel_rfl) rfl) ?_
  refine GL_rd rfl (by decide) (rd_load 0 rfl hB h7 (by kernel_rfl) (by decide)) ?_
  refine GL_rd rfl (by decide) (rd_nilCheck rfl) ?_
  refine GL_rd rfl (by decide) (rd_fieldAddr (j := 39) (by kernel_rfl) rfl) ?_
  refine GL_rd rfl (by decide) (rd_load2 1 rfl hR r39 r40 (by kernel_rfl) (by decide)) ?_
  refine GL_at rfl (at_call_v (by decide) (by kernel_rfl) rfl (fun w_ s_ => location_calls _ _ w_) ?_)
  refine GL_at rfl (at_call_v (v := .agg #[.int .i64 (Cal.daysTo y * 86400), .int .i64 0]) (by decide) (by kernel_rfl) rfl (fun w_ s_ => (mkdate_calls y 1 1 0 0 0 0 (by omega) (by omega) (by omega) (by omega) (by omega) (by omega) (by omega) w_).mono fun e_ w2_ h_ => ⟨h_.1.trans (congrArg Ending.returned (by rw [dayNo_first])), h_.2⟩) ?_)
  refine GL_rd rfl (by decide) (rd_nilCheck rfl) ?_
  refine GL_rd rfl (by decide) (rd_fieldAddr (j := 5) (by kernel_rfl) rfl) ?_
  refine GL_at rfl (at_storeAgg 0 rfl rfl hB (knwn2 h12 h13) (by kernel_rfl) rfl (Nat.le_of_ble_eq_true rfl) ?_)
  refine GL_nil ?_
  refine GE_then ?_
  refine GC_seq ?_
  refine GC_region ?_
  refine GL_rd rfl (by decide) (rd_move rfl) ?_
  refine GL_rd rfl (by decide) (rd_move rfl) ?_
  refine GL_rd rfl (by decide) (rd_nilCheck rfl) ?_
  refine GL_rd rfl (by decide) (rd_fieldAddr (j := 5) (by kernel_rfl) rfl) ?_
  refine GL_rd rfl (by decide) (rd_load2 0 rfl hB rfl rfl (by kernel_rfl) (by decide)) ?_
  refine GL_at rfl (at_call_v (by decide) (by kernel_rfl) rfl (fun w_ s_ => weekday_calls _ _ (by omega) w_) ?_)
  refine GL_at rfl (at_call_v (v := .int .i64 (ywd y)) (by decide) (by kernel_rfl) rfl (fun w_ s_ => (toPy_calls _ (by omega) w_).mono fun e_ w2_ h_ => ⟨h_.1.trans (congrArg Ending.returned (congrArg _ (ywd_of y))), h_.2⟩) ?_)
  refine GL_rd rfl (by decide) (rd_nilCheck rfl) ?_
  refine GL_rd rfl (by decide) (rd_fieldAddr (j := 7) (by kernel_rfl) rfl) ?_
  refine GL_at rfl (at_store 0 rfl rfl hB h14 (by kernel_rfl) rfl (by decide) ?_)
  refine GL_nil ?_
  refine GE_then ?_
  refine GC_seq ?_
  refine GC_anyS (fun i => i == 9) (by kernel_rfl) ?_
  refine GA_rd (i := 0) rfl rfl (by repeat (first | exact hblind | exact Blind.body | apply Blind.then | apply Blind.inBlock)) (by kernel_rfl) rfl (by decide) (rd_move rfl) (fun w s => by exact s.noS) ?_
  refine GA_rd (i := 2) rfl rfl (by repeat (first | exact hblind | exact Blind.body | apply Blind.then | apply Blind.inBlock)) (by kernel_rfl) rfl (by decide) (rd_move rfl) (fun w s => by exact s.noS) ?_
  refine GA_rd (i := 3) rfl rfl (by repeat (first | exact hblind | exact Blind.body | apply Blind.then | apply Blind.inBlock)) (by kernel_rfl) rfl (by decide) (rd_nilCheck rfl) (fun w s => by exact s.noS) ?_
  refine GA_rd (i := 4) rfl rfl (by repeat (first | exact hblind | exact Blind.body | apply Blind.then | apply Blind.inBlock)) (by kernel_rfl) rfl (by decide) (rd_fieldAddr (j := 7) (by kernel_rfl) rfl) (fun w s => by exact s.noS) ?_
  refine GA_rd (i := 5) rfl rfl (by repeat (first | exact hblind | exact Blind.body | apply Blind.then | apply Blind.inBlock)) (by kernel_rfl) rfl (by decide) (rd_load 0 rfl hB rfl (by kernel_rfl) (by decide)) (fun w s => by exact s.noS) ?_
  refine GA_one (i := 1) rfl rfl (by kernel_rfl) rfl (at_call_row 6 (e := 3) (sz := 1) (n := 385) (xs := (wd 55).map (Value.int .i64)) (by decide) (by kernel_rfl) rfl (fun w_ s_ => wday_calls w_) (fun p6 c6 => GK_C (fun _ w s => by exact s.noS) ?_))
  refine GK_have (fun w s => s.head 6 rfl (by decide)) fun hcap => ?_
  obtain ⟨b6, rfl, hc6⟩ := hcap
  refine GA_one (i := 6) rfl rfl (by kernel_rfl) rfl (at_rd (by decide) (rd_slice_from (e := 3) (n := 1) (by kernel_rfl) rfl rfl (by omega) (by omega) (by omega)) (GK_C (fun _ w s => by exact s.noS) ?_))
  refine GA_one (i := 7) rfl rfl (by kernel_rfl) rfl (at_rd (by decide) (rd_nilCheck rfl) (GK_C (fun _ w s => by exact s.noS) ?_))
  refine GA_one (i := 8) rfl rfl (by kernel_rfl) rfl (at_rd (by decide) (rd_fieldAddr (j := 12) (by kernel_rfl) rfl) (GK_C (fun _ w s => by exact s.noS) ?_))
  refine GA_one (i := 9) rfl rfl (by kernel_rfl) rfl (at_store 0 rfl rfl hB h19 (by kernel_rfl) rfl (by decide) (GK_C (fun h => absurd h (by decide)) ?_))
  refine GA_end (by kernel_rfl) ?_
  refine GE_then ?_
  refine GC_seq ?_
  refine GC_seq ?_
  refine GC_region ?_
  refine GL_rd rfl (by decide) (rd_move rfl) ?_
  refine GL_rd rfl (by decide) (rd_nilCheck rfl) ?_
  refine GL_rd rfl (by decide) (rd_fieldAddr (j := 3) (by kernel_rfl) rfl) ?_
  refine GL_rd rfl (by decide) (rd_load 0 rfl hB rfl (by kernel_rfl) (by decide)) ?_
  refine GL_rd rfl (by decide) (rd_eql rfl rfl) ?_
  refine GL_nil ?_
  refine GE_then ?_
  refine GC_is_true rfl (b_eq (by rw [hlp]; rfl)) ?_
  refine GC_seq ?_
  refine GC_region ?_
  refine GL_rd rfl (by decide) (rd_move rfl) ?_
  refine GL_at rfl (at_call_row 3 (e := 3) (sz := 1) (n := 372) (xs := mm365.map (Value.int .i64)) (by decide) (by kernel_rfl) rfl (fun w_ s_ => m365_calls w_) (fun p3 c3 => ?_))
  refine GL_rd rfl (by decide) (rd_nilCheck rfl) ?_
  refine GL_rd rfl (by decide) (rd_fieldAddr (j := 8) (by kernel_rfl) rfl) ?_
  refine GL_at rfl (at_store 0 rfl rfl hB h15 (by kernel_rfl) rfl (by decide) ?_)
  refine GL_nil ?_
  refine GE_then ?_
  refine GC_seq ?_
  refine GC_region ?_
  refine GL_rd rfl (by decide) (rd_move rfl) ?_
  refine GL_at rfl (at_call_row 4 (e := 3) (sz := 1) (n := 372) (xs := md365.map (Value.int .i64)) (by decide) (by kernel_rfl) rfl (fun w_ s_ => mday365_calls w_) (fun p4 c4 => ?_))
  refine GL_rd rfl (by decide) (rd_nilCheck rfl) ?_
  refine GL_rd rfl (by decide) (rd_fieldAddr (j := 10) (by kernel_rfl) rfl) ?_
  refine GL_at rfl (at_store 0 rfl rfl hB h17 (by kernel_rfl) rfl (by decide) ?_)
  refine GL_nil ?_
  refine GE_then ?_
  refine GC_seq ?_
  refine GC_region ?_
  refine GL_rd rfl (by decide) (rd_move rfl) ?_
  refine GL_at rfl (at_call_row 5 (e := 3) (sz := 1) (n := 372) (xs := nmd365.map (Value.int .i64)) (by decide) (by kernel_rfl) rfl (fun w_ s_ => nmday365_calls w_) (fun p5 c5 => ?_))
  refine GL_rd rfl (by decide) (rd_nilCheck rfl) ?_
  refine GL_rd rfl (by decide) (rd_fieldAddr (j := 11) (by kernel_rfl) rfl) ?_
  refine GL_at rfl (at_store 0 rfl rfl hB h18 (by kernel_rfl) rfl (by decide) ?_)
  refine GL_nil ?_
  refine GE_then ?_
  refine GC_region ?_
  refine GL_rd rfl (by decide) (rd_move rfl) ?_
  refine GL_at rfl (at_call_row 7 (e := 3) (sz := 1) (n := 13) (xs := ([0, 31, 59, 90, 120, 151, 181, 212, 243, 273, 304, 334, 365] : List Int).map (Value.int .i64)) (by decide) (by kernel_rfl) rfl (fun w_ s_ => r365_calls w_) (fun p7 c7 => ?_))
  refine GL_rd rfl (by decide) (rd_nilCheck rfl) ?_
  refine GL_rd rfl (by decide) (rd_fieldAddr (j := 9) (by kernel_rfl) rfl) ?_
  refine GL_at rfl (at_store 0 rfl rfl hB h16 (by kernel_rfl) rfl (by decide) ?_)
  refine GL_nil ?_
  refine GE_then ?_
  refine GC_seq ?_
  refine GC_region ?_
  refine GL_rd rfl (by decide) (rd_move rfl) ?_
  refine GL_rd rfl (by decide) (rd_nilCheck rfl) ?_
  refine GL_rd rfl (by decide) (rd_fieldAddr (j := 0) (by kernel_rfl) rfl) ?_
  refine GL_rd rfl (by decide) (rd_load 0 rfl hB h7 (by kernel_rfl) (by decide)) ?_
  refine GL_rd rfl (by decide) (rd_nilCheck rfl) ?_
  refine GL_rd rfl (by decide) (rd_fieldAddr (j := 51) (by kernel_rfl) rfl) ?_
  refine GL_rd rfl (by decide) (rd_load 1 rfl hR r51 (by kernel_rfl) (by decide)) ?_
  refine GL_rd rfl (by decide) (rd_len (by kernel_rfl) rfl) ?_
  refine GL_rd rfl (by decide) (rd_eql rfl rfl) ?_
  refine GL_nil ?_
  refine GE_then ?_
  refine GC_is_true rfl rfl ?_
  refine GC_region ?_
  refine GL_rd rfl (by decide) (rd_move rfl) ?_
  refine GL_rd rfl (by decide) (rd_nilCheck rfl) ?_
  refine GL_rd rfl (by decide) (rd_fieldAddr (j := 13) (by kernel_rfl) rfl) ?_
  refine GL_at rfl (at_store 0 rfl rfl hB h20 (by kernel_rfl) rfl (by decide) ?_)
  refine GL_nil ?_
  refine GE_then ?_
  refine GC_seq ?_
  refine GC_seq ?_
  refine GC_region ?_
  refine GL_rd rfl (by decide) (rd_move rfl) ?_
  refine GL_rd rfl (by decide) (rd_nilCheck rfl) ?_
  refine GL_rd rfl (by decide) (rd_fieldAddr (j := 0) (by kernel_rfl) rfl) ?_
  refine GL_rd rfl (by decide) (rd_load 0 rfl hB h7 (by kernel_rfl) (by decide)) ?_
  refine GL_rd rfl (by decide) (rd_nilCheck rfl) ?_
  refine GL_rd rfl (by decide) (rd_fieldAddr (j := 53) (by kernel_rfl) rfl) ?_
  refine GL_rd rfl (by decide) (rd_load 1 rfl hR r53 (by kernel_rfl) (by decide)) ?_
  refine GL_rd rfl (by decide) (rd_len (by kernel_rfl) rfl) ?_
  refine GL_rd rfl (by decide) ((rd_neq rfl rfl).to (v' := .bool false) rfl) ?_
  refine GL_rd rfl (by decide) (rd_move rfl) ?_
  refine GL_pass (by decide) rfl rfl (by decide) ?_
  refine GL_pass (by decide) rfl rfl (by decide) ?_
  refine GL_pass (by decide) rfl rfl (by decide) ?_
  refine GL_pass (by decide) rfl rfl (by decide) ?_
  refine GL_pass (by decide) rfl rfl (by decide) ?_
  refine GL_pass (by decide) rfl rfl (by decide) ?_
  refine GL_pass (by decide) rfl rfl (by decide) ?_
  refine GL_passu (by decide) rfl rfl ?_
  refine GL_passu (by decide) rfl rfl ?_
  refine GL_passu (by decide) rfl rfl ?_
  refine GL_passu (by decide) rfl rfl ?_
  refine GL_passu (by decide) rfl rfl ?_
  refine GL_passu (by decide) rfl rfl ?_
  refine GL_pass (by decide) rfl rfl (by decide) ?_
  refine GL_rd rfl (by decide) (rd_pick rfl rfl rfl) ?_
  refine GL_nil ?_
  refine GE_then ?_
  refine GC_is_false rfl rfl ?_
  refine GC_skip ?_
  refine GE_then ?_
  refine GC_seq ?_
  refine GC_seq ?_
  refine GC_region ?_
  refine GL_rd rfl (by decide) (rd_move rfl) ?_
  refine GL_rd rfl (by decide) (rd_nilCheck rfl) ?_
  refine GL_rd rfl (by decide) (rd_fieldAddr (j := 0) (by kernel_rfl) rfl) ?_
  refine GL_rd rfl (by decide) (rd_load 0 rfl hB h7 (by kernel_rfl) (by decide)) ?_
  refine GL_rd rfl (by decide) (rd_nilCheck rfl) ?_
  refine GL_rd rfl (by decide) (rd_fieldAddr (j := 57) (by kernel_rfl) rfl) ?_
  refine GL_rd rfl (by decide) (rd_load 1 rfl hR r57 (by kernel_rfl) (by decide)) ?_
  refine GL_rd rfl (by decide) (rd_len (by kernel_rfl) rfl) ?_
  refine GL_rd rfl (by decide) ((rd_neq rfl rfl).to (v' := .bool false) rfl) ?_
  refine GL_nil ?_
  refine GE_then ?_
  refine GC_is_false rfl rfl ?_
  refine GC_skip ?_
  refine GE_then ?_
  refine GC_seq ?_
  refine GC_region ?_
  refine GL_rd rfl (by decide) (rd_move rfl) ?_
  refine GL_rd rfl (by decide) (rd_move rfl) ?_
  refine GL_rd rfl (by decide) (rd_nilCheck rfl) ?_
  refine GL_rd rfl (by decide) (rd_fieldAddr (j := 1) (by kernel_rfl) rfl) ?_
  refine GL_at rfl (at_store 0 rfl rfl hB h8 (by kernel_rfl) rfl (by decide) ?_)
  refine GL_nil ?_
  refine GE_then ?_
  refine GC_region ?_
  refine GL_rd rfl (by decide) (rd_move rfl) ?_
  refine GL_rd rfl (by decide) (rd_move rfl) ?_
  refine GL_rd rfl (by decide) (rd_nilCheck rfl) ?_
  refine GL_rd rfl (by decide) (rd_fieldAddr (j := 2) (by kernel_rfl) rfl) ?_
  refine GL_at rfl (at_store 0 rfl rfl hB h9 (by kernel_rfl) rfl (by decide) ?_)
  refine GL_nil ?_
  refine GE_ret0 (.inr rfl) rfl fun w s => ⟨b6, c6, p3, c3, p4, c4, p5, c5, p7, c7, hc6, rfl, ?_⟩
  unfold mmY mdY nmdY rgY nY
  simp only [hleap, if_true, if_false, Bool.false_eq_true]
  exact s
theorem rebuild_366 {it rb : Nat} (hB : lkp 0 B = some it) (hR : lkp 1 B = some rb) (h7 : lkp (ky 0 7) H = some (.pointer (some ⟨rb, 0, none⟩))) {ly lm : Int} (h8 : lkp (ky 0 8) H = some (.int .i64 ly)) (h9 : lkp (ky 0 9) H = some (.int .i64 lm))
    {p51 p53 p57 : Option Addr} {c51 c53 c57 : Nat} (r51 : lkp (ky 1 51) H = some (.slice p51 0 c51)) (r53 : lkp (ky 1 53) H = some (.slice p53 0 c53)) (r57 : lkp (ky 1 57) H = some (.slice p57 0 c57)) {y m : Int} {d0 d1 : Int} (r39 : lkp (ky 1 39) H = some (.int .i64 d0)) (r40 : lkp (ky 1 40) H = some (.int .i64 d1)) {v10 : Value} (h10 : lkp (ky 0 10) H = some v10) {v11 : Value} (h11 : lkp (ky 0 11) H = some v11) {v12 : Value} (h12 : lkp (ky 0 12) H = some v12) {v13 : Value} (h13 : lkp (ky 0 13) H = some v13) {v14 : Value} (h14 : lkp (ky 0 14) H = some v14) {v15 : Value} (h15 : lkp (ky 0 15) H = some v15) {v16 : Value} (h16 : lkp (ky 0 16) H = some v16) {v17 : Value} (h17 : lkp (ky 0 17) H = some v17) {v18 : Value} (h18 : lkp (ky 0 18) H = some v18) {v19 : Value} (h19 : lkp (ky 0 19) H = some v19) {v20 : Value} (h20 : lkp (ky 0 20) H = some v20) (hy : y ≠ ly) (hy1 : 1 ≤ y ∧ y ≤ 10000) (hleap : Cal.leapB y = true) :
    ∀ w, Sees F w0 B H S w → Calls Go.Proofs.Tryz.prog 24 #[.pointer (some ⟨it, 7, none⟩), .int .i64 y, .int .i64 m] w fun e w' => NewYear e F w0 B H S y m w' := by
  have hdt : 0 ≤ Cal.daysTo y ∧ Cal.daysTo y ≤ 4000000 := by unfold Cal.daysTo; omega
  have hyw : 0 ≤ ywd y ∧ ywd y ≤ 6 := by unfold ywd; omega
  have hlp : Cal.lp y = 1 := by unfold Cal.lp; rw [hleap]; rfl
  have hlp2 := Cal.lp_01 (y + 1)
  intro w s
  refine calls_GC (args := [.pointer (some ⟨it, 7, none⟩), .int .i64 y, .int .i64 m]) (L := [(0, .pointer (some ⟨it, 7, none⟩)), (1, .int .i64 y), (2, .int .i64 m)]) (N := 638) Tryz.func24 rfl rfl (Nat.le_of_ble_eq_true rfl) rfl s ?_
  refine GC_seq ?_
  refine GC_seq ?_
  refine GC_region ?_
  refine GL_rd rfl (by decide) (rd_move rfl) ?_
  refine GL_rd rfl (by decide) (rd_move rfl) ?_
  refine GL_rd rfl (by decide) (rd_nilCheck rfl) ?_
  refine GL_rd rfl (by decide) (rd_fieldAddr (j := 1) (by kernel_rfl) rfl) ?_
  refine GL_rd rfl (by decide) (rd_load 0 rfl hB h8 (by kernel_rfl) (by decide)) ?_
  refine GL_rd rfl (by decide) (rd_neq rfl rfl) ?_
  refine GL_nil ?_
  refine GE_then ?_
  refine GC_is_true rfl (n_ne hy) ?_
  refine GC_seq ?_
  refine GC_region ?_
  refine GL_rd rfl (by decide) (rd_move rfl) ?_
  refine GL_rd rfl (by decide) (rd_move rfl) ?_
  refine GL_at rfl (at_call_v (v := .int .i64 (Cal.lp y)) (by decide) (by kernel_rfl) rfl (fun w_ s_ => (isLeap_calls _ (by omega) w_).mono fun e_ w2_ h_ => ⟨h_.1.trans (congrArg Ending.returned rfl), h_.2⟩) ?_)
  first
    | refine GL_rd rfl (by decide) (rd_add_ rfl rfl (by omega)) ?_
    | refine GL_rd rfl (by decide) (rd_add rfl rfl) ?_
  refine GL_rd rfl (by decide) (rd_nilCheck rfl) ?_
  refine GL_rd rfl (by decide) (rd_fieldAddr (j := 3) (by kernel_rfl) rfl) ?_
  refine GL_at rfl (at_store 0 rfl rfl hB h10 (by kernel_rfl) rfl (by decide) ?_)
  refine GL_nil ?_
  refine GE_then ?_
  refine GC_seq ?_
  refine GC_region ?_
  refine GL_rd rfl (by decide) (rd_move rfl) ?_
  refine GL_rd rfl (by decide) (rd_move rfl) ?_
  first
    | refine GL_rd rfl (by decide) (rd_add_ rfl rfl (by omega)) ?_
    | refine GL_rd rfl (by decide) (rd_add rfl rfl) ?_
  refine GL_at rfl (at_call_v (v := .int .i64 (Cal.lp (y + 1))) (by decide) (by kernel_rfl) rfl (fun w_ s_ => (isLeap_calls _ (by omega) w_).mono fun e_ w2_ h_ => ⟨h_.1.trans (congrArg Ending.returned rfl), h_.2⟩) ?_)
  first
    | refine GL_rd rfl (by decide) (rd_add_ rfl rfl (by omega)) ?_
    | refine GL_rd rfl (by decide) (rd_add rfl rfl) ?_
  refine GL_rd rfl (by decide) (rd_nilCheck rfl) ?_
  refine GL_rd rfl (by decide) (rd_fieldAddr (j := 4) (by kernel_rfl) rfl) ?_
  refine GL_at rfl (at_store 0 rfl rfl hB h11 (by kernel_rfl) rfl (by decide) ?_)
  refine GL_nil ?_
  refine GE_then ?_
  refine GC_seq ?_
  refine GC_region ?_
  refine GL_rd rfl (by decide) (rd_move rfl) ?_
  refine GL_rd rfl (by decide) (rd_move rfl) ?_
  refine GL_rd rfl (by decide) (rd_move rfl) ?_
  refine GL_rd rfl (by decide) (rd_nilCheck rfl) ?_
  refine GL_rd rfl (by decide) (rd_fieldAddr (j := 0) (by kernel_rfl) rfl) ?_
  refine GL_rd rfl (by decide) (rd_load 0 rfl hB h7 (by kernel_rfl) (by decide)) ?_
  refine GL_rd rfl (by decide) (rd_nilCheck rfl) ?_
  refine GL_rd rfl (by decide) (rd_fieldAddr (j := 39) (by kernel_rfl) rfl) ?_
  refine GL_rd rfl (by decide) (rd_load2 1 rfl hR r39 r40 (by kernel_rfl) (by decide)) ?_
  refine GL_at rfl (at_call_v (by decide) (by kernel_rfl) rfl (fun w_ s_ => location_calls _ _ w_) ?_)
  refine GL_at rfl (at_call_v (v := .agg #[.int .i64 (Cal.daysTo y * 86400), .int .i64 0]) (by decide) (by kernel_rfl) rfl (fun w_ s_ => (mkdate_calls y 1 1 0 0 0 0 (by omega) (by omega) (by omega) (by omega) (by omega) (by omega) (by omega) w_).mono fun e_ w2_ h_ => ⟨h_.1.trans (congrArg Ending.returned (by rw [dayNo_first])), h_.2⟩) ?_)
  refine GL_rd rfl (by decide) (rd_nilCheck rfl) ?_
  refine GL_rd rfl (by decide) (rd_fieldAddr (j := 5) (by kernel_rfl) rfl) ?_
  refine GL_at rfl (at_storeAgg 0 rfl rfl hB (knwn2 h12 h13) (by kernel_rfl) rfl (Nat.le_of_ble_eq_true rfl) ?_)
  refine GL_nil ?_
  refine GE_then ?_
  refine GC_seq ?_
  refine GC_region ?_
  refine GL_rd rfl (by decide) (rd_move rfl) ?_
  refine GL_rd rfl (by decide) (rd_move rfl) ?_
  refine GL_rd rfl (by decide) (rd_nilCheck rfl) ?_
  refine GL_rd rfl (by decide) (rd_fieldAddr (j := 5) (by kernel_rfl) rfl) ?_
  refine GL_rd rfl (by decide) (rd_load2 0 rfl hB rfl rfl (by kernel_rfl) (by decide)) ?_
  refine GL_at rfl (at_call_v (by decide) (by kernel_rfl) rfl (fun w_ s_ => weekday_calls _ _ (by omega) w_) ?_)
  refine GL_at rfl (at_call_v (v := .int .i64 (ywd y)) (by decide) (by kernel_rfl) rfl (fun w_ s_ => (toPy_calls _ (by omega) w_).mono fun e_ w2_ h_ => ⟨h_.1.trans (congrArg Ending.returned (congrArg _ (ywd_of y))), h_.2⟩) ?_)
  refine GL_rd rfl (by decide) (rd_nilCheck rfl) ?_
  refine GL_rd rfl (by decide) (rd_fieldAddr (j := 7) (by kernel_rfl) rfl) ?_
  refine GL_at rfl (at_store 0 rfl rfl hB h14 (by kernel_rfl) rfl (by decide) ?_)
  refine GL_nil ?_
  refine GE_then ?_
  refine GC_seq ?_
  refine GC_anyS (fun i => i == 9) (by kernel_rfl) ?_
  refine GA_rd (i := 0) rfl rfl (by repeat (first | exact hblind | exact Blind.body | apply Blind.then | apply Blind.inBlock)) (by kernel_rfl) rfl (by decide) (rd_move rfl) (fun w s => by exact s.noS) ?_
  refine GA_rd (i := 2) rfl rfl (by repeat (first | exact hblind | exact Blind.body | apply Blind.then | apply Blind.inBlock)) (by kernel_rfl) rfl (by decide) (rd_move rfl) (fun w s => by exact s.noS) ?_
  refine GA_rd (i := 3) rfl rfl (by repeat (first | exact hblind | exact Blind.body | apply Blind.then | apply Blind.inBlock)) (by kernel_rfl) rfl (by decide) (rd_nilCheck rfl) (fun w s => by exact s.noS) ?_
  refine GA_rd (i := 4) rfl rfl (by repeat (first | exact hblind | exact Blind.body | apply Blind.then | apply Blind.inBlock)) (by kernel_rfl) rfl (by decide) (rd_fieldAddr (j := 7) (by kernel_rfl) rfl) (fun w s => by exact s.noS) ?_
  refine GA_rd (i := 5) rfl rfl (by repeat (first | exact hblind | exact Blind.body | apply Blind.then | apply Blind.inBlock)) (by kernel_rfl) rfl (by decide) (rd_load 0 rfl hB rfl (by kernel_rfl) (by decide)) (fun w s => by exact s.noS) ?_
  refine GA_one (i := 1) rfl rfl (by kernel_rfl) rfl (at_call_row 6 (e := 3) (sz := 1) (n := 385) (xs := (wd 55).map (Value.int .i64)) (by decide) (by kernel_rfl) rfl (fun w_ s_ => wday_calls w_) (fun p6 c6 => GK_C (fun _ w s => by exact s.noS) ?_))
  refine GK_have (fun w s => s.head 6 rfl (by decide)) fun hcap => ?_
  obtain ⟨b6, rfl, hc6⟩ := hcap
  refine GA_one (i := 6) rfl rfl (by kernel_rfl) rfl (at_rd (by decide) (rd_slice_from (e := 3) (n := 1) (by kernel_rfl) rfl rfl (by omega) (by omega) (by omega)) (GK_C (fun _ w s => by exact s.noS) ?_))
  refine GA_one (i := 7) rfl rfl (by kernel_rfl) rfl (at_rd (by decide) (rd_nilCheck rfl) (GK_C (fun _ w s => by exact s.noS) ?_))
  refine GA_one (i := 8) rfl rfl (by kernel_rfl) rfl (at_rd (by decide) (rd_fieldAddr (j := 12) (by kernel_rfl) rfl) (GK_C (fun _ w s => by exact s.noS) ?_))
  refine GA_one (i := 9) rfl rfl (by kernel_rfl) rfl (at_store 0 rfl rfl hB h19 (by kernel_rfl) rfl (by decide) (GK_C (fun h => absurd h (by decide)) ?_))
  refine GA_end (by kernel_rfl) ?_
  refine GE_then ?_
  refine GC_seq ?_
  refine GC_seq ?_
  refine GC_region ?_
  refine GL_rd rfl (by decide) (rd_move rfl) ?_
  refine GL_rd rfl (by decide) (rd_nilCheck rfl) ?_
  refine GL_rd rfl (by decide) (rd_fieldAddr (j := 3) (by kernel_rfl) rfl) ?_
  refine GL_rd rfl (by decide) (rd_load 0 rfl hB rfl (by kernel_rfl) (by decide)) ?_
  refine GL_rd rfl (by decide) (rd_eql rfl rfl) ?_
  refine GL_nil ?_
  refine GE_then ?_
  refine GC_is_false rfl (b_ne (by rw [hlp]; decide)) ?_
  refine GC_seq ?_
  refine GC_region ?_
  refine GL_rd rfl (by decide) (rd_move rfl) ?_
  refine GL_at rfl (at_call_row 3 (e := 3) (sz := 1) (n := 373) (xs := mm366.map (Value.int .i64)) (by decide) (by kernel_rfl) rfl (fun w_ s_ => m366_calls w_) (fun p3 c3 => ?_))
  refine GL_rd rfl (by decide) (rd_nilCheck rfl) ?_
  refine GL_rd rfl (by decide) (rd_fieldAddr (j := 8) (by kernel_rfl) rfl) ?_
  refine GL_at rfl (at_store 0 rfl rfl hB h15 (by kernel_rfl) rfl (by decide) ?_)
  refine GL_nil ?_
  refine GE_then ?_
  refine GC_seq ?_
  refine GC_region ?_
  refine GL_rd rfl (by decide) (rd_move rfl) ?_
  refine GL_at rfl (at_call_row 4 (e := 3) (sz := 1) (n := 373) (xs := md366.map (Value.int .i64)) (by decide) (by kernel_rfl) rfl (fun w_ s_ => mday366_calls w_) (fun p4 c4 => ?_))
  refine GL_rd rfl (by decide) (rd_nilCheck rfl) ?_
  refine GL_rd rfl (by decide) (rd_fieldAddr (j := 10) (by kernel_rfl) rfl) ?_
  refine GL_at rfl (at_store 0 rfl rfl hB h17 (by kernel_rfl) rfl (by decide) ?_)
  refine GL_nil ?_
  refine GE_then ?_
  refine GC_seq ?_
  refine GC_region ?_
  refine GL_rd rfl (by decide) (rd_move rfl) ?_
  refine GL_at rfl (at_call_row 5 (e := 3) (sz := 1) (n := 373) (xs := nmd366.map (Value.int .i64)) (by decide) (by kernel_rfl) rfl (fun w_ s_ => nmday366_calls w_) (fun p5 c5 => ?_))
  refine GL_rd rfl (by decide) (rd_nilCheck rfl) ?_
  refine GL_rd rfl (by decide) (rd_fieldAddr (j := 11) (by kernel_rfl) rfl) ?_
  refine GL_at rfl (at_store 0 rfl rfl hB h18 (by kernel_rfl) rfl (by decide) ?_)
  refine GL_nil ?_
  refine GE_then ?_
  refine GC_region ?_
  refine GL_rd rfl (by decide) (rd_move rfl) ?_
  refine GL_at rfl (at_call_row 7 (e := 3) (sz := 1) (n := 13) (xs := ([0, 31, 60, 91, 121, 152, 182, 213, 244, 274, 305, 335, 366] : List Int).map (Value.int .i64)) (by decide) (by kernel_rfl) rfl (fun w_ s_ => r366_calls w_) (fun p7 c7 => ?_))
  refine GL_rd rfl (by decide) (rd_nilCheck rfl) ?_
  refine GL_rd rfl (by decide) (rd_fieldAddr (j := 9) (by kernel_rfl) rfl) ?_
  refine GL_at rfl (at_store 0 rfl rfl hB h16 (by kernel_rfl) rfl (by decide) ?_)
  refine GL_nil ?_
  refine GE_then ?_
  refine GC_seq ?_
  refine GC_region ?_
  refine GL_rd rfl (by decide) (rd_move rfl) ?_
  refine GL_rd rfl (by decide) (rd_nilCheck rfl) ?_
  refine GL_rd rfl (by decide) (rd_fieldAddr (j := 0) (by kernel_rfl) rfl) ?_
  refine GL_rd rfl (by decide) (rd_load 0 rfl hB h7 (by kernel_rfl) (by decide)) ?_
  refine GL_rd rfl (by decide) (rd_nilCheck rfl) ?_
  refine GL_rd rfl (by decide) (rd_fieldAddr (j := 51) (by kernel_rfl) rfl) ?_
  refine GL_rd rfl (by decide) (rd_load 1 rfl hR r51 (by kernel_rfl) (by decide)) ?_
  refine GL_rd rfl (by decide) (rd_len (by kernel_rfl) rfl) ?_
  refine GL_rd rfl (by decide) (rd_eql rfl rfl) ?_
  refine GL_nil ?_
  refine GE_then ?_
  refine GC_is_true rfl rfl ?_
  refine GC_region ?_
  refine GL_rd rfl (by decide) (rd_move rfl) ?_
  refine GL_rd rfl (by decide) (rd_nilCheck rfl) ?_
  refine GL_rd rfl (by decide) (rd_fieldAddr (j := 13) (by kernel_rfl) rfl) ?_
  refine GL_at rfl (at_store 0 rfl rfl hB h20 (by kernel_rfl) rfl (by decide) ?_)
  refine GL_nil ?_
  refine GE_then ?_
  refine GC_seq ?_
  refine GC_seq ?_
  refine GC_region ?_
  refine GL_rd rfl (by decide) (rd_move rfl) ?_
  refine GL_rd rfl (by decide) (rd_nilCheck rfl) ?_
  refine GL_rd rfl (by decide) (rd_fieldAddr (j := 0) (by kernel_rfl) rfl) ?_
  refine GL_rd rfl (by decide) (rd_load 0 rfl hB h7 (by kernel_rfl) (by decide)) ?_
  refine GL_rd rfl (by decide) (rd_nilCheck rfl) ?_
  refine GL_rd rfl (by decide) (rd_fieldAddr (j := 53) (by kernel_rfl) rfl) ?_
  refine GL_rd rfl (by decide) (rd_load 1 rfl hR r53 (by kernel_rfl) (by decide)) ?_
  refine GL_rd rfl (by decide) (rd_len (by kernel_rfl) rfl) ?_
  refine GL_rd rfl (by decide) ((rd_neq rfl rfl).to (v' := .bool false) rfl) ?_
  refine GL_rd rfl (by decide) (rd_move rfl) ?_
  refine GL_pass (by decide) rfl rfl (by decide) ?_
  refine GL_pass (by decide) rfl rfl (by decide) ?_
  refine GL_pass (by decide) rfl rfl (by decide) ?_
  refine GL_pass (by decide) rfl rfl (by decide) ?_
  refine GL_pass (by decide) rfl rfl (by decide) ?_
  refine GL_pass (by decide) rfl rfl (by decide) ?_
  refine GL_pass (by decide) rfl rfl (by decide) ?_
  refine GL_passu (by decide) rfl rfl ?_
  refine GL_passu (by decide) rfl rfl ?_
  refine GL_passu (by decide) rfl rfl ?_
  refine GL_passu (by decide) rfl rfl ?_
  refine GL_passu (by decide) rfl rfl ?_
  refine GL_passu (by decide) rfl rfl ?_
  refine GL_pass (by decide) rfl rfl (by decide) ?_
  refine GL_rd rfl (by decide) (rd_pick rfl rfl rfl) ?_
  refine GL_nil ?_
  refine GE_then ?_
  refine GC_is_false rfl rfl ?_
  refine GC_skip ?_
  refine GE_then ?_
  refine GC_seq ?_
  refine GC_seq ?_
  refine GC_region ?_
  refine GL_rd rfl (by decide) (rd_move rfl) ?_
  refine GL_rd rfl (by decide) (rd_nilCheck rfl) ?_
  refine GL_rd rfl (by decide) (rd_fieldAddr (j := 0) (by kernel_rfl) rfl) ?_
  refine GL_rd rfl (by decide) (rd_load 0 rfl hB h7 (by kernel_rfl) (by decide)) ?_
  refine GL_rd rfl (by decide) (rd_nilCheck rfl) ?_
  refine GL_rd rfl (by decide) (rd_fieldAddr (j := 57) (by kernel_rfl) rfl) ?_
  refine GL_rd rfl (by decide) (rd_load 1 rfl hR r57 (by kernel_rfl) (by decide)) ?_
  refine GL_rd rfl (by decide) (rd_len (by kernel_rfl) rfl) ?_
  refine GL_rd rfl (by decide) ((rd_neq rfl rfl).to (v' := .bool false) rfl) ?_
  refine GL_nil ?_
  refine GE_then ?_
  refine GC_is_false rfl rfl ?_
  refine GC_skip ?_
  refine GE_then ?_
  refine GC_seq ?_
  refine GC_region ?_
  refine GL_rd rfl (by decide) (rd_move rfl) ?_
  refine GL_rd rfl (by decide) (rd_move rfl) ?_
  refine GL_rd rfl (by decide) (rd_nilCheck rfl) ?_
  refine GL_rd rfl (by decide) (rd_fieldAddr (j := 1) (by kernel_rfl) rfl) ?_
  refine GL_at rfl (at_store 0 rfl rfl hB h8 (by kernel_rfl) rfl (by decide) ?_)
  refine GL_nil ?_
  refine GE_then ?_
  refine GC_region ?_
  refine GL_rd rfl (by decide) (rd_move rfl) ?_
  refine GL_rd rfl (by decide) (rd_move rfl) ?_
  refine GL_rd rfl (by decide) (rd_nilCheck rfl) ?_
  refine GL_rd rfl (by decide) (rd_fieldAddr (j := 2) (by kernel_rfl) rfl) ?_
  refine GL_at rfl (at_store 0 rfl rfl hB h9 (by kernel_rfl) rfl (by decide) ?_)
  refine GL_nil ?_
  refine GE_ret0 (.inr rfl) rfl fun w s => ⟨b6, c6, p3, c3, p4, c4, p5, c5, p7, c7, hc6, rfl, ?_⟩
  unfold mmY mdY nmdY rgY nY
  simp only [hleap, if_true, if_false, Bool.false_eq_true]
  exact s
end
end Go.Proofs.YtfcklceejjmjeaaGreat
