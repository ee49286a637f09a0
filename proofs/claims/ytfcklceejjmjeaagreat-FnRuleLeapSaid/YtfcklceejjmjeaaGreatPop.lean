/-
  The queue of dates that are left to tell: Pop, Append, Len.
-/
import Derived.Test.YtfcklceejjmjeaaGreatProg
import Derived.Test.YtfcklceejjmjeaaGreatMd
import Derived.Test.YtfcklceejjmjeaaGreatFg
set_option linter.unusedVariables false
set_option linter.unusedSimpArgs false
set_option maxRecDepth 100000
set_option maxHeartbeats 8000000
namespace Go.Proofs.YtfcklceejjmjeaaGreat
open Go.RowKit Go.Fr Go.Tab
section
variable {F : Nat → Prop} {w0 : World} {B : List (Nat × Nat)} {H : List (Nat × Value)} {S : List (Nat × Slc)}

theorem pop_more (hlim : Lim 50 B H S) {it g nb cap j : Nat} (hB : lkp 0 B = some it) (hj : j + 1 < nb) (hc : nb ≤ cap) (h26 : lkp (ky 0 26) H = some (.slice (some ⟨g, 2 * j, none⟩) (nb - j) (cap - j)))
    {q : Slc} (hS : lkp 0 S = some q) (hq : q.v = .slice (some ⟨g, 0, none⟩) nb cap) {x y : Int} (hx : q.xs[2 * j]? = some (.int .i64 x)) (hy : q.xs[2 * j + 1]? = some (.int .i64 y)) :
    ∀ w, Sees F w0 B H S w → Calls Go.Proofs.Tryz.prog 61 #[.pointer (some ⟨it, 26, none⟩)] w fun e w' => e = .returned (.tuple #[.agg #[.int .i64 x, .int .i64 y], .bool true]) ∧
      Sees F w0 B ((ky 0 26, .slice (some ⟨g, 2 * (j + 1), none⟩) (nb - (j + 1)) (cap - (j + 1))) :: H) S w' := by
  intro w s
  refine calls_GC (args := [.pointer (some ⟨it, 26, none⟩)]) (L := [(0, .pointer (some ⟨it, 26, none⟩))]) (N := 40) Tryz.func61 rfl rfl (Nat.le_of_ble_eq_true rfl) rfl s ?_
  refine GC_seq ?_
  refine GC_region ?_
  refine GL_at rfl (at_alloc 50 (cs := [.int .i64 0, .int .i64 0]) (by decide) (by kernel_rfl) (hlim.b 50 (by decide)) (fun o ho => by repeat (first | rfl | exact hlim.h _ (by decide) o ho | rw [lkp_put_ne (by decide) ho _ _ (Nat.le_of_ble_eq_true rfl)] | rw [lkp_seq_ne (by decide) ho _ _ (Nat.le_of_ble_eq_true rfl)] | rw [lkp_ky_ne (by decide) ho (by decide)])) (Nat.le_of_ble_eq_true rfl) (fun b1_ hbb1_ => ?_))
  refine GL_rd rfl (by decide) (rd_assign rfl) ?_
  refine GL_nil ?_
  refine GE_then ?_
  refine GC_seq ?_
  refine GC_seq ?_
  refine GC_region ?_
  refine GL_rd rfl (by decide) (rd_move rfl) ?_
  refine GL_rd rfl (by decide) (rd_nilCheck rfl) ?_
  refine GL_rd rfl (by decide) (rd_fieldAddr (j := 0) (by kernel_rfl) rfl) ?_
  refine GL_rd rfl (by decide) (rd_load 0 rfl hB h26 (by kernel_rfl) (by decide)) ?_
  refine GL_rd rfl (by decide) (rd_len (by kernel_rfl) rfl) ?_
  refine GL_rd rfl (by decide) (rd_eql rfl rfl) ?_
  refine GL_nil ?_
  refine GE_then ?_
  refine GC_is_false rfl (beq_eq_false_iff_ne.2 (by omega)) ?_
  refine GC_skip ?_
  refine GE_then ?_
  refine GC_seq ?_
  refine GC_any (Sees F w0 B H S) (fun i => i == 15) (by kernel_rfl) ?_
  refine GA_rd (i := 0) rfl rfl (by repeat (first | exact hblind | exact Blind.body | apply Blind.then | apply Blind.inBlock)) (by kernel_rfl) rfl (by decide) (rd_move rfl) (fun w s => by exact s.low 50 (hlim) (by repeat (first | exact Agr.refl _ | apply Agr.pick rfl | apply Agr.skip (by decide) | apply Agr.seq (by decide) | apply Agr.put (by decide))) (by repeat (first | exact Agr.refl _ | apply Agr.pick rfl | apply Agr.skip (by decide) | apply Agr.seq (by decide) | apply Agr.put (by decide))) (by repeat (first | exact Agr.refl _ | apply Agr.pick rfl | apply Agr.skip (by decide) | apply Agr.seq (by decide) | apply Agr.put (by decide)))) ?_
  refine GA_rd (i := 1) rfl rfl (by repeat (first | exact hblind | exact Blind.body | apply Blind.then | apply Blind.inBlock)) (by kernel_rfl) rfl (by decide) (rd_move rfl) (fun w s => by exact s.low 50 (hlim) (by repeat (first | exact Agr.refl _ | apply Agr.pick rfl | apply Agr.skip (by decide) | apply Agr.seq (by decide) | apply Agr.put (by decide))) (by repeat (first | exact Agr.refl _ | apply Agr.pick rfl | apply Agr.skip (by decide) | apply Agr.seq (by decide) | apply Agr.put (by decide))) (by repeat (first | exact Agr.refl _ | apply Agr.pick rfl | apply Agr.skip (by decide) | apply Agr.seq (by decide) | apply Agr.put (by decide)))) ?_
  refine GA_rd (i := 2) rfl rfl (by repeat (first | exact hblind | exact Blind.body | apply Blind.then | apply Blind.inBlock)) (by kernel_rfl) rfl (by decide) (rd_nilCheck rfl) (fun w s => by exact s.low 50 (hlim) (by repeat (first | exact Agr.refl _ | apply Agr.pick rfl | apply Agr.skip (by decide) | apply Agr.seq (by decide) | apply Agr.put (by decide))) (by repeat (first | exact Agr.refl _ | apply Agr.pick rfl | apply Agr.skip (by decide) | apply Agr.seq (by decide) | apply Agr.put (by decide))) (by repeat (first | exact Agr.refl _ | apply Agr.pick rfl | apply Agr.skip (by decide) | apply Agr.seq (by decide) | apply Agr.put (by decide)))) ?_
  refine GA_rd (i := 3) rfl rfl (by repeat (first | exact hblind | exact Blind.body | apply Blind.then | apply Blind.inBlock)) (by kernel_rfl) rfl (by decide) (rd_fieldAddr (j := 0) (by kernel_rfl) rfl) (fun w s => by exact s.low 50 (hlim) (by repeat (first | exact Agr.refl _ | apply Agr.pick rfl | apply Agr.skip (by decide) | apply Agr.seq (by decide) | apply Agr.put (by decide))) (by repeat (first | exact Agr.refl _ | apply Agr.pick rfl | apply Agr.skip (by decide) | apply Agr.seq (by decide) | apply Agr.put (by decide))) (by repeat (first | exact Agr.refl _ | apply Agr.pick rfl | apply Agr.skip (by decide) | apply Agr.seq (by decide) | apply Agr.put (by decide)))) ?_
  refine GA_rd (i := 4) rfl rfl (by repeat (first | exact hblind | exact Blind.body | apply Blind.then | apply Blind.inBlock)) (by kernel_rfl) rfl (by decide) (rd_load 0 rfl hB h26 (by kernel_rfl) (by decide)) (fun w s => by exact s.low 50 (hlim) (by repeat (first | exact Agr.refl _ | apply Agr.pick rfl | apply Agr.skip (by decide) | apply Agr.seq (by decide) | apply Agr.put (by decide))) (by repeat (first | exact Agr.refl _ | apply Agr.pick rfl | apply Agr.skip (by decide) | apply Agr.seq (by decide) | apply Agr.put (by decide))) (by repeat (first | exact Agr.refl _ | apply Agr.pick rfl | apply Agr.skip (by decide) | apply Agr.seq (by decide) | apply Agr.put (by decide)))) ?_
  refine GA_rd (i := 5) rfl rfl (by repeat (first | exact hblind | exact Blind.body | apply Blind.then | apply Blind.inBlock)) (by kernel_rfl) rfl (by decide) (rd_indexAddr (e := 44) (n := 2) (by kernel_rfl) rfl rfl (by omega) (by omega)) (fun w s => by exact s.low 50 (hlim) (by repeat (first | exact Agr.refl _ | apply Agr.pick rfl | apply Agr.skip (by decide) | apply Agr.seq (by decide) | apply Agr.put (by decide))) (by repeat (first | exact Agr.refl _ | apply Agr.pick rfl | apply Agr.skip (by decide) | apply Agr.seq (by decide) | apply Agr.put (by decide))) (by repeat (first | exact Agr.refl _ | apply Agr.pick rfl | apply Agr.skip (by decide) | apply Agr.seq (by decide) | apply Agr.put (by decide)))) ?_
  refine GA_rd (i := 6) rfl rfl (by repeat (first | exact hblind | exact Blind.body | apply Blind.then | apply Blind.inBlock)) (by kernel_rfl) rfl (by decide) (rd_load2_row 0 rfl hS hq hx hy (by kernel_rfl)) (fun w s => by exact s.low 50 (hlim) (by repeat (first | exact Agr.refl _ | apply Agr.pick rfl | apply Agr.skip (by decide) | apply Agr.seq (by decide) | apply Agr.put (by decide))) (by repeat (first | exact Agr.refl _ | apply Agr.pick rfl | apply Agr.skip (by decide) | apply Agr.seq (by decide) | apply Agr.put (by decide))) (by repeat (first | exact Agr.refl _ | apply Agr.pick rfl | apply Agr.skip (by decide) | apply Agr.seq (by decide) | apply Agr.put (by decide)))) ?_
  refine GA_rd (i := 7) rfl rfl (by repeat (first | exact hblind | exact Blind.body | apply Blind.then | apply Blind.inBlock)) (by kernel_rfl) rfl (by decide) (rd_move rfl) (fun w s => by exact s.low 50 (hlim) (by repeat (first | exact Agr.refl _ | apply Agr.pick rfl | apply Agr.skip (by decide) | apply Agr.seq (by decide) | apply Agr.put (by decide))) (by repeat (first | exact Agr.refl _ | apply Agr.pick rfl | apply Agr.skip (by decide) | apply Agr.seq (by decide) | apply Agr.put (by decide))) (by repeat (first | exact Agr.refl _ | apply Agr.pick rfl | apply Agr.skip (by decide) | apply Agr.seq (by decide) | apply Agr.put (by decide)))) ?_
  refine GA_rd (i := 8) rfl rfl (by repeat (first | exact hblind | exact Blind.body | apply Blind.then | apply Blind.inBlock)) (by kernel_rfl) rfl (by decide) (rd_nilCheck rfl) (fun w s => by exact s.low 50 (hlim) (by repeat (first | exact Agr.refl _ | apply Agr.pick rfl | apply Agr.skip (by decide) | apply Agr.seq (by decide) | apply Agr.put (by decide))) (by repeat (first | exact Agr.refl _ | apply Agr.pick rfl | apply Agr.skip (by decide) | apply Agr.seq (by decide) | apply Agr.put (by decide))) (by repeat (first | exact Agr.refl _ | apply Agr.pick rfl | apply Agr.skip (by decide) | apply Agr.seq (by decide) | apply Agr.put (by decide)))) ?_
  refine GA_rd (i := 9) rfl rfl (by repeat (first | exact hblind | exact Blind.body | apply Blind.then | apply Blind.inBlock)) (by kernel_rfl) rfl (by decide) (rd_fieldAddr (j := 0) (by kernel_rfl) rfl) (fun w s => by exact s.low 50 (hlim) (by repeat (first | exact Agr.refl _ | apply Agr.pick rfl | apply Agr.skip (by decide) | apply Agr.seq (by decide) | apply Agr.put (by decide))) (by repeat (first | exact Agr.refl _ | apply Agr.pick rfl | apply Agr.skip (by decide) | apply Agr.seq (by decide) | apply Agr.put (by decide))) (by repeat (first | exact Agr.refl _ | apply Agr.pick rfl | apply Agr.skip (by decide) | apply Agr.seq (by decide) | apply Agr.put (by decide)))) ?_
  refine GA_rd (i := 10) rfl rfl (by repeat (first | exact hblind | exact Blind.body | apply Blind.then | apply Blind.inBlock)) (by kernel_rfl) rfl (by decide) (rd_load 0 rfl hB h26 (by kernel_rfl) (by decide)) (fun w s => by exact s.low 50 (hlim) (by repeat (first | exact Agr.refl _ | apply Agr.pick rfl | apply Agr.skip (by decide) | apply Agr.seq (by decide) | apply Agr.put (by decide))) (by repeat (first | exact Agr.refl _ | apply Agr.pick rfl | apply Agr.skip (by decide) | apply Agr.seq (by decide) | apply Agr.put (by decide))) (by repeat (first | exact Agr.refl _ | apply Agr.pick rfl | apply Agr.skip (by decide) | apply Agr.seq (by decide) | apply Agr.put (by decide)))) ?_
  refine GA_rd (i := 11) rfl rfl (by repeat (first | exact hblind | exact Blind.body | apply Blind.then | apply Blind.inBlock)) (by kernel_rfl) rfl (by decide) (rd_slice_from (e := 44) (n := 2) (by kernel_rfl) rfl rfl (by omega) (by omega) (by omega)) (fun w s => by exact s.low 50 (hlim) (by repeat (first | exact Agr.refl _ | apply Agr.pick rfl | apply Agr.skip (by decide) | apply Agr.seq (by decide) | apply Agr.put (by decide))) (by repeat (first | exact Agr.refl _ | apply Agr.pick rfl | apply Agr.skip (by decide) | apply Agr.seq (by decide) | apply Agr.put (by decide))) (by repeat (first | exact Agr.refl _ | apply Agr.pick rfl | apply Agr.skip (by decide) | apply Agr.seq (by decide) | apply Agr.put (by decide)))) ?_
  refine GA_one (i := 12) rfl rfl (by kernel_rfl) rfl (at_storeAgg 50 rfl rfl rfl rfl (by kernel_rfl) rfl (Nat.le_of_ble_eq_true rfl) (GK_C (fun _ w s => by exact s.low 50 (hlim) (by repeat (first | exact Agr.refl _ | apply Agr.pick rfl | apply Agr.skip (by decide) | apply Agr.seq (by decide) | apply Agr.put (by decide))) (by repeat (first | exact Agr.refl _ | apply Agr.pick rfl | apply Agr.skip (by decide) | apply Agr.seq (by decide) | apply Agr.put (by decide))) (by repeat (first | exact Agr.refl _ | apply Agr.pick rfl | apply Agr.skip (by decide) | apply Agr.seq (by decide) | apply Agr.put (by decide)))) ?_))
  refine GA_one (i := 13) rfl rfl (by kernel_rfl) rfl (at_rd (by decide) (rd_nilCheck rfl) (GK_C (fun _ w s => by exact s.low 50 (hlim) (by repeat (first | exact Agr.refl _ | apply Agr.pick rfl | apply Agr.skip (by decide) | apply Agr.seq (by decide) | apply Agr.put (by decide))) (by repeat (first | exact Agr.refl _ | apply Agr.pick rfl | apply Agr.skip (by decide) | apply Agr.seq (by decide) | apply Agr.put (by decide))) (by repeat (first | exact Agr.refl _ | apply Agr.pick rfl | apply Agr.skip (by decide) | apply Agr.seq (by decide) | apply Agr.put (by decide)))) ?_))
  refine GA_one (i := 14) rfl rfl (by kernel_rfl) rfl (at_rd (by decide) (rd_fieldAddr (j := 0) (by kernel_rfl) rfl) (GK_C (fun _ w s => by exact s.low 50 (hlim) (by repeat (first | exact Agr.refl _ | apply Agr.pick rfl | apply Agr.skip (by decide) | apply Agr.seq (by decide) | apply Agr.put (by decide))) (by repeat (first | exact Agr.refl _ | apply Agr.pick rfl | apply Agr.skip (by decide) | apply Agr.seq (by decide) | apply Agr.put (by decide))) (by repeat (first | exact Agr.refl _ | apply Agr.pick rfl | apply Agr.skip (by decide) | apply Agr.seq (by decide) | apply Agr.put (by decide)))) ?_))
  refine GA_one (i := 15) rfl rfl (by kernel_rfl) rfl (at_store 0 rfl rfl hB h26 (by kernel_rfl) rfl (by decide) (GK_C (fun h => absurd h (by decide)) ?_))
  refine GA_end (by kernel_rfl) ?_
  refine GE_then ?_
  refine GC_seq ?_
  refine GC_seq ?_
  refine GC_region ?_
  refine GL_rd rfl (by decide) (rd_move rfl) ?_
  refine GL_rd rfl (by decide) (rd_nilCheck rfl) ?_
  refine GL_rd rfl (by decide) (rd_fieldAddr (j := 0) (by kernel_rfl) rfl) ?_
  refine GL_rd rfl (by decide) (rd_load 0 rfl hB rfl (by kernel_rfl) (by decide)) ?_
  refine GL_rd rfl (by decide) (rd_len (by kernel_rfl) rfl) ?_
  refine GL_rd rfl (by decide) (rd_eql rfl rfl) ?_
  refine GL_nil ?_
  refine GE_then ?_
  refine GC_is_false rfl (beq_eq_false_iff_ne.2 (by omega)) ?_
  refine GC_skip ?_
  refine GE_then ?_
  refine GC_seq ?_
  refine GC_region ?_
  refine GL_rd rfl (by decide) (rd_load2 50 rfl rfl rfl rfl (by kernel_rfl) (by decide)) ?_
  refine GL_at rfl (at_storeAgg 50 rfl rfl rfl rfl (by kernel_rfl) rfl (Nat.le_of_ble_eq_true rfl) ?_)
  refine GL_rd rfl (by decide) (rd_assign rfl) ?_
  refine GL_nil ?_
  refine GE_then ?_
  refine GC_ret ?_
  refine GE_ret2 (.inl rfl) rfl (res_cell2 50 rfl rfl rfl rfl (by kernel_rfl)) (res_tmp rfl) fun w s => ⟨rfl, s.low 50 (hlim.consH (by decide) (by decide)) (by repeat (first | exact Agr.refl _ | apply Agr.pick rfl | apply Agr.skip (by decide) | apply Agr.seq (by decide) | apply Agr.put (by decide))) (by repeat (first | exact Agr.refl _ | apply Agr.pick rfl | apply Agr.skip (by decide) | apply Agr.seq (by decide) | apply Agr.put (by decide))) (by repeat (first | exact Agr.refl _ | apply Agr.pick rfl | apply Agr.skip (by decide) | apply Agr.seq (by decide) | apply Agr.put (by decide)))⟩
theorem pop_last (hlim : Lim 50 B H S) {it g nb cap j : Nat} (hB : lkp 0 B = some it) (hj : j + 1 = nb) (hc : nb ≤ cap) (h26 : lkp (ky 0 26) H = some (.slice (some ⟨g, 2 * j, none⟩) (nb - j) (cap - j))) (h27 : lkp (ky 0 27) H = some (.slice (some ⟨g, 0, none⟩) nb cap))
    {q : Slc} (hS : lkp 0 S = some q) (hq : q.v = .slice (some ⟨g, 0, none⟩) nb cap) {x y : Int} (hx : q.xs[2 * j]? = some (.int .i64 x)) (hy : q.xs[2 * j + 1]? = some (.int .i64 y)) :
    ∀ w, Sees F w0 B H S w → Calls Go.Proofs.Tryz.prog 61 #[.pointer (some ⟨it, 26, none⟩)] w fun e w' => ∃ u, e = .returned (.tuple #[.agg #[.int .i64 x, .int .i64 y], .bool true]) ∧
      Sees F w0 B ((ky 0 26, .slice (some ⟨g, 0, none⟩) 0 cap) :: (ky 0 26, u) :: H) S w' := by
  intro w s
  refine calls_GC (args := [.pointer (some ⟨it, 26, none⟩)]) (L := [(0, .pointer (some ⟨it, 26, none⟩))]) (N := 40) Tryz.func61 rfl rfl (Nat.le_of_ble_eq_true rfl) rfl s ?_
  refine GC_seq ?_
  refine GC_region ?_
  refine GL_at rfl (at_alloc 50 (cs := [.int .i64 0, .int .i64 0]) (by decide) (by kernel_rfl) (hlim.b 50 (by decide)) (fun o ho => by repeat (first | rfl | exact hlim.h _ (by decide) o ho | rw [lkp_put_ne (by decide) ho _ _ (Nat.le_of_ble_eq_true rfl)] | rw [lkp_seq_ne (by decide) ho _ _ (Nat.le_of_ble_eq_true rfl)] | rw [lkp_ky_ne (by decide) ho (by decide)])) (Nat.le_of_ble_eq_true rfl) (fun b1_ hbb1_ => ?_))
  refine GL_rd rfl (by decide) (rd_assign rfl) ?_
  refine GL_nil ?_
  refine GE_then ?_
  refine GC_seq ?_
  refine GC_seq ?_
  refine GC_region ?_
  refine GL_rd rfl (by decide) (rd_move rfl) ?_
  refine GL_rd rfl (by decide) (rd_nilCheck rfl) ?_
  refine GL_rd rfl (by decide) (rd_fieldAddr (j := 0) (by kernel_rfl) rfl) ?_
  refine GL_rd rfl (by decide) (rd_load 0 rfl hB h26 (by kernel_rfl) (by decide)) ?_
  refine GL_rd rfl (by decide) (rd_len (by kernel_rfl) rfl) ?_
  refine GL_rd rfl (by decide) (rd_eql rfl rfl) ?_
  refine GL_nil ?_
  refine GE_then ?_
  refine GC_is_false rfl (beq_eq_false_iff_ne.2 (by omega)) ?_
  refine GC_skip ?_
  refine GE_then ?_
  refine GC_seq ?_
  refine GC_any (Sees F w0 B H S) (fun i => i == 15) (by kernel_rfl) ?_
  refine GA_rd (i := 0) rfl rfl (by repeat (first | exact hblind | exact Blind.body | apply Blind.then | apply Blind.inBlock)) (by kernel_rfl) rfl (by decide) (rd_move rfl) (fun w s => by exact s.low 50 (hlim) (by repeat (first | exact Agr.refl _ | apply Agr.pick rfl | apply Agr.skip (by decide) | apply Agr.seq (by decide) | apply Agr.put (by decide))) (by repeat (first | exact Agr.refl _ | apply Agr.pick rfl | apply Agr.skip (by decide) | apply Agr.seq (by decide) | apply Agr.put (by decide))) (by repeat (first | exact Agr.refl _ | apply Agr.pick rfl | apply Agr.skip (by decide) | apply Agr.seq (by decide) | apply Agr.put (by decide)))) ?_
  refine GA_rd (i := 1) rfl rfl (by repeat (first | exact hblind | exact Blind.body | apply Blind.then | apply Blind.inBlock)) (by kernel_rfl) rfl (by decide) (rd_move rfl) (fun w s => by exact s.low 50 (hlim) (by repeat (first | exact Agr.refl _ | apply Agr.pick rfl | apply Agr.skip (by decide) | apply Agr.seq (by decide) | apply Agr.put (by decide))) (by repeat (first | exact Agr.refl _ | apply Agr.pick rfl | apply Agr.skip (by decide) | apply Agr.seq (by decide) | apply Agr.put (by decide))) (by repeat (first | exact Agr.refl _ | apply Agr.pick rfl | apply Agr.skip (by decide) | apply Agr.seq (by decide) | apply Agr.put (by decide)))) ?_
  refine GA_rd (i := 2) rfl rfl (by repeat (first | exact hblind | exact Blind.body | apply Blind.then | apply Blind.inBlock)) (by kernel_rfl) rfl (by decide) (rd_nilCheck rfl) (fun w s => by exact s.low 50 (hlim) (by repeat (first | exact Agr.refl _ | apply Agr.pick rfl | apply Agr.skip (by decide) | apply Agr.seq (by decide) | apply Agr.put (by decide))) (by repeat (first | exact Agr.refl _ | apply Agr.pick rfl | apply Agr.skip (by decide) | apply Agr.seq (by decide) | apply Agr.put (by decide))) (by repeat (first | exact Agr.refl _ | apply Agr.pick rfl | apply Agr.skip (by decide) | apply Agr.seq (by decide) | apply Agr.put (by decide)))) ?_
  refine GA_rd (i := 3) rfl rfl (by repeat (first | exact hblind | exact Blind.body | apply Blind.then | apply Blind.inBlock)) (by kernel_rfl) rfl (by decide) (rd_fieldAddr (j := 0) (by kernel_rfl) rfl) (fun w s => by exact s.low 50 (hlim) (by repeat (first | exact Agr.refl _ | apply Agr.pick rfl | apply Agr.skip (by decide) | apply Agr.seq (by decide) | apply Agr.put (by decide))) (by repeat (first | exact Agr.refl _ | apply Agr.pick rfl | apply Agr.skip (by decide) | apply Agr.seq (by decide) | apply Agr.put (by decide))) (by repeat (first | exact Agr.refl _ | apply Agr.pick rfl | apply Agr.skip (by decide) | apply Agr.seq (by decide) | apply Agr.put (by decide)))) ?_
  refine GA_rd (i := 4) rfl rfl (by repeat (first | exact hblind | exact Blind.body | apply Blind.then | apply Blind.inBlock)) (by kernel_rfl) rfl (by decide) (rd_load 0 rfl hB h26 (by kernel_rfl) (by decide)) (fun w s => by exact s.low 50 (hlim) (by repeat (first | exact Agr.refl _ | apply Agr.pick rfl | apply Agr.skip (by decide) | apply Agr.seq (by decide) | apply Agr.put (by decide))) (by repeat (first | exact Agr.refl _ | apply Agr.pick rfl | apply Agr.skip (by decide) | apply Agr.seq (by decide) | apply Agr.put (by decide))) (by repeat (first | exact Agr.refl _ | apply Agr.pick rfl | apply Agr.skip (by decide) | apply Agr.seq (by decide) | apply Agr.put (by decide)))) ?_
  refine GA_rd (i := 5) rfl rfl (by repeat (first | exact hblind | exact Blind.body | apply Blind.then | apply Blind.inBlock)) (by kernel_rfl) rfl (by decide) (rd_indexAddr (e := 44) (n := 2) (by kernel_rfl) rfl rfl (by omega) (by omega)) (fun w s => by exact s.low 50 (hlim) (by repeat (first | exact Agr.refl _ | apply Agr.pick rfl | apply Agr.skip (by decide) | apply Agr.seq (by decide) | apply Agr.put (by decide))) (by repeat (first | exact Agr.refl _ | apply Agr.pick rfl | apply Agr.skip (by decide) | apply Agr.seq (by decide) | apply Agr.put (by decide))) (by repeat (first | exact Agr.refl _ | apply Agr.pick rfl | apply Agr.skip (by decide) | apply Agr.seq (by decide) | apply Agr.put (by decide)))) ?_
  refine GA_rd (i := 6) rfl rfl (by repeat (first | exact hblind | exact Blind.body | apply Blind.then | apply Blind.inBlock)) (by kernel_rfl) rfl (by decide) (rd_load2_row 0 rfl hS hq hx hy (by kernel_rfl)) (fun w s => by exact s.low 50 (hlim) (by repeat (first | exact Agr.refl _ | apply Agr.pick rfl | apply Agr.skip (by decide) | apply Agr.seq (by decide) | apply Agr.put (by decide))) (by repeat (first | exact Agr.refl _ | apply Agr.pick rfl | apply Agr.skip (by decide) | apply Agr.seq (by decide) | apply Agr.put (by decide))) (by repeat (first | exact Agr.refl _ | apply Agr.pick rfl | apply Agr.skip (by decide) | apply Agr.seq (by decide) | apply Agr.put (by decide)))) ?_
  refine GA_rd (i := 7) rfl rfl (by repeat (first | exact hblind | exact Blind.body | apply Blind.then | apply Blind.inBlock)) (by kernel_rfl) rfl (by decide) (rd_move rfl) (fun w s => by exact s.low 50 (hlim) (by repeat (first | exact Agr.refl _ | apply Agr.pick rfl | apply Agr.skip (by decide) | apply Agr.seq (by decide) | apply Agr.put (by decide))) (by repeat (first | exact Agr.refl _ | apply Agr.pick rfl | apply Agr.skip (by decide) | apply Agr.seq (by decide) | apply Agr.put (by decide))) (by repeat (first | exact Agr.refl _ | apply Agr.pick rfl | apply Agr.skip (by decide) | apply Agr.seq (by decide) | apply Agr.put (by decide)))) ?_
  refine GA_rd (i := 8) rfl rfl (by repeat (first | exact hblind | exact Blind.body | apply Blind.then | apply Blind.inBlock)) (by kernel_rfl) rfl (by decide) (rd_nilCheck rfl) (fun w s => by exact s.low 50 (hlim) (by repeat (first | exact Agr.refl _ | apply Agr.pick rfl | apply Agr.skip (by decide) | apply Agr.seq (by decide) | apply Agr.put (by decide))) (by repeat (first | exact Agr.refl _ | apply Agr.pick rfl | apply Agr.skip (by decide) | apply Agr.seq (by decide) | apply Agr.put (by decide))) (by repeat (first | exact Agr.refl _ | apply Agr.pick rfl | apply Agr.skip (by decide) | apply Agr.seq (by decide) | apply Agr.put (by decide)))) ?_
  refine GA_rd (i := 9) rfl rfl (by repeat (first | exact hblind | exact Blind.body | apply Blind.then | apply Blind.inBlock)) (by kernel_rfl) rfl (by decide) (rd_fieldAddr (j := 0) (by kernel_rfl) rfl) (fun w s => by exact s.low 50 (hlim) (by repeat (first | exact Agr.refl _ | apply Agr.pick rfl | apply Agr.skip (by decide) | apply Agr.seq (by decide) | apply Agr.put (by decide))) (by repeat (first | exact Agr.refl _ | apply Agr.pick rfl | apply Agr.skip (by decide) | apply Agr.seq (by decide) | apply Agr.put (by decide))) (by repeat (first | exact Agr.refl _ | apply Agr.pick rfl | apply Agr.skip (by decide) | apply Agr.seq (by decide) | apply Agr.put (by decide)))) ?_
  refine GA_rd (i := 10) rfl rfl (by repeat (first | exact hblind | exact Blind.body | apply Blind.then | apply Blind.inBlock)) (by kernel_rfl) rfl (by decide) (rd_load 0 rfl hB h26 (by kernel_rfl) (by decide)) (fun w s => by exact s.low 50 (hlim) (by repeat (first | exact Agr.refl _ | apply Agr.pick rfl | apply Agr.skip (by decide) | apply Agr.seq (by decide) | apply Agr.put (by decide))) (by repeat (first | exact Agr.refl _ | apply Agr.pick rfl | apply Agr.skip (by decide) | apply Agr.seq (by decide) | apply Agr.put (by decide))) (by repeat (first | exact Agr.refl _ | apply Agr.pick rfl | apply Agr.skip (by decide) | apply Agr.seq (by decide) | apply Agr.put (by decide)))) ?_
  refine GA_rd (i := 11) rfl rfl (by repeat (first | exact hblind | exact Blind.body | apply Blind.then | apply Blind.inBlock)) (by kernel_rfl) rfl (by decide) (rd_slice_from_any (e := 44) (n := 2) (by kernel_rfl) rfl rfl (by omega) (by omega)) (fun w s => by exact s.low 50 (hlim) (by repeat (first | exact Agr.refl _ | apply Agr.pick rfl | apply Agr.skip (by decide) | apply Agr.seq (by decide) | apply Agr.put (by decide))) (by repeat (first | exact Agr.refl _ | apply Agr.pick rfl | apply Agr.skip (by decide) | apply Agr.seq (by decide) | apply Agr.put (by decide))) (by repeat (first | exact Agr.refl _ | apply Agr.pick rfl | apply Agr.skip (by decide) | apply Agr.seq (by decide) | apply Agr.put (by decide)))) ?_
  refine GA_one (i := 12) rfl rfl (by kernel_rfl) rfl (at_storeAgg 50 rfl rfl rfl rfl (by kernel_rfl) rfl (Nat.le_of_ble_eq_true rfl) (GK_C (fun _ w s => by exact s.low 50 (hlim) (by repeat (first | exact Agr.refl _ | apply Agr.pick rfl | apply Agr.skip (by decide) | apply Agr.seq (by decide) | apply Agr.put (by decide))) (by repeat (first | exact Agr.refl _ | apply Agr.pick rfl | apply Agr.skip (by decide) | apply Agr.seq (by decide) | apply Agr.put (by decide))) (by repeat (first | exact Agr.refl _ | apply Agr.pick rfl | apply Agr.skip (by decide) | apply Agr.seq (by decide) | apply Agr.put (by decide)))) ?_))
  refine GA_one (i := 13) rfl rfl (by kernel_rfl) rfl (at_rd (by decide) (rd_nilCheck rfl) (GK_C (fun _ w s => by exact s.low 50 (hlim) (by repeat (first | exact Agr.refl _ | apply Agr.pick rfl | apply Agr.skip (by decide) | apply Agr.seq (by decide) | apply Agr.put (by decide))) (by repeat (first | exact Agr.refl _ | apply Agr.pick rfl | apply Agr.skip (by decide) | apply Agr.seq (by decide) | apply Agr.put (by decide))) (by repeat (first | exact Agr.refl _ | apply Agr.pick rfl | apply Agr.skip (by decide) | apply Agr.seq (by decide) | apply Agr.put (by decide)))) ?_))
  refine GA_one (i := 14) rfl rfl (by kernel_rfl) rfl (at_rd (by decide) (rd_fieldAddr (j := 0) (by kernel_rfl) rfl) (GK_C (fun _ w s => by exact s.low 50 (hlim) (by repeat (first | exact Agr.refl _ | apply Agr.pick rfl | apply Agr.skip (by decide) | apply Agr.seq (by decide) | apply Agr.put (by decide))) (by repeat (first | exact Agr.refl _ | apply Agr.pick rfl | apply Agr.skip (by decide) | apply Agr.seq (by decide) | apply Agr.put (by decide))) (by repeat (first | exact Agr.refl _ | apply Agr.pick rfl | apply Agr.skip (by decide) | apply Agr.seq (by decide) | apply Agr.put (by decide)))) ?_))
  refine GA_one (i := 15) rfl rfl (by kernel_rfl) rfl (at_store 0 rfl rfl hB h26 (by kernel_rfl) rfl (by decide) (GK_C (fun h => absurd h (by decide)) ?_))
  refine GA_end (by kernel_rfl) ?_
  refine GE_then ?_
  refine GC_seq ?_
  refine GC_seq ?_
  refine GC_region ?_
  refine GL_rd rfl (by decide) (rd_move rfl) ?_
  refine GL_rd rfl (by decide) (rd_nilCheck rfl) ?_
  refine GL_rd rfl (by decide) (rd_fieldAddr (j := 0) (by kernel_rfl) rfl) ?_
  refine GL_rd rfl (by decide) (rd_load 0 rfl hB rfl (by kernel_rfl) (by decide)) ?_
  refine GL_rd rfl (by decide) (rd_len (by kernel_rfl) rfl) ?_
  refine GL_rd rfl (by decide) (rd_eql rfl rfl) ?_
  refine GL_nil ?_
  refine GE_then ?_
  refine GC_is_true rfl (beq_iff_eq.2 (by omega)) ?_
  refine GC_region ?_
  refine GL_rd rfl (by decide) (rd_move rfl) ?_
  refine GL_rd rfl (by decide) (rd_move rfl) ?_
  refine GL_rd rfl (by decide) (rd_nilCheck rfl) ?_
  refine GL_rd rfl (by decide) (rd_fieldAddr (j := 1) (by kernel_rfl) rfl) ?_
  refine GL_rd rfl (by decide) (rd_load 0 rfl hB h27 (by kernel_rfl) (by decide)) ?_
  refine GL_rd rfl (by decide) (rd_slice_upto (e := 44) (n := 2) (by kernel_rfl) rfl rfl (by omega) (by omega)) ?_
  refine GL_rd rfl (by decide) (rd_nilCheck rfl) ?_
  refine GL_rd rfl (by decide) (rd_fieldAddr (j := 0) (by kernel_rfl) rfl) ?_
  refine GL_at rfl (at_store 0 rfl rfl hB rfl (by kernel_rfl) rfl (by decide) ?_)
  refine GL_nil ?_
  refine GE_then ?_
  refine GC_seq ?_
  refine GC_region ?_
  refine GL_rd rfl (by decide) (rd_load2 50 rfl rfl rfl rfl (by kernel_rfl) (by decide)) ?_
  refine GL_at rfl (at_storeAgg 50 rfl rfl rfl rfl (by kernel_rfl) rfl (Nat.le_of_ble_eq_true rfl) ?_)
  refine GL_rd rfl (by decide) (rd_assign rfl) ?_
  refine GL_nil ?_
  refine GE_then ?_
  refine GC_ret ?_
  refine GE_ret2 (.inl rfl) rfl (res_cell2 50 rfl rfl rfl rfl (by kernel_rfl)) (res_tmp rfl) fun w s => ⟨_, rfl, s.low 50 ((hlim.consH (by decide) (by decide)).consH (by decide) (by decide)) (by repeat (first | exact Agr.refl _ | apply Agr.pick rfl | apply Agr.skip (by decide) | apply Agr.seq (by decide) | apply Agr.put (by decide))) (by repeat (first | exact Agr.refl _ | apply Agr.pick rfl | apply Agr.skip (by decide) | apply Agr.seq (by decide) | apply Agr.put (by decide))) (by repeat (first | exact Agr.refl _ | apply Agr.pick rfl | apply Agr.skip (by decide) | apply Agr.seq (by decide) | apply Agr.put (by decide)))⟩
theorem pop_none (hlim : Lim 50 B H S) {it c : Nat} {p : Option Addr} (hB : lkp 0 B = some it) (h26 : lkp (ky 0 26) H = some (.slice p 0 c)) :
    ∀ w, Sees F w0 B H S w → Calls Go.Proofs.Tryz.prog 61 #[.pointer (some ⟨it, 26, none⟩)] w fun e w' => e = .returned (.tuple #[.agg #[.int .i64 0, .int .i64 0], .bool false]) ∧ Sees F w0 B H S w' := by
  intro w s
  refine calls_GC (args := [.pointer (some ⟨it, 26, none⟩)]) (L := [(0, .pointer (some ⟨it, 26, none⟩))]) (N := 40) Tryz.func61 rfl rfl (Nat.le_of_ble_eq_true rfl) rfl s ?_
  refine GC_seq ?_
  refine GC_region ?_
  refine GL_at rfl (at_alloc 50 (cs := [.int .i64 0, .int .i64 0]) (by decide) (by kernel_rfl) (hlim.b 50 (by decide)) (fun o ho => by repeat (first | rfl | exact hlim.h _ (by decide) o ho | rw [lkp_put_ne (by decide) ho _ _ (Nat.le_of_ble_eq_true rfl)] | rw [lkp_seq_ne (by decide) ho _ _ (Nat.le_of_ble_eq_true rfl)] | rw [lkp_ky_ne (by decide) ho (by decide)])) (Nat.le_of_ble_eq_true rfl) (fun b1_ hbb1_ => ?_))
  refine GL_rd rfl (by decide) (rd_assign rfl) ?_
  refine GL_nil ?_
  refine GE_then ?_
  refine GC_seq ?_
  refine GC_seq ?_
  refine GC_region ?_
  refine GL_rd rfl (by decide) (rd_move rfl) ?_
  refine GL_rd rfl (by decide) (rd_nilCheck rfl) ?_
  refine GL_rd rfl (by decide) (rd_fieldAddr (j := 0) (by kernel_rfl) rfl) ?_
  refine GL_rd rfl (by decide) (rd_load 0 rfl hB h26 (by kernel_rfl) (by decide)) ?_
  refine GL_rd rfl (by decide) (rd_len (by kernel_rfl) rfl) ?_
  refine GL_rd rfl (by decide) (rd_eql rfl rfl) ?_
  refine GL_nil ?_
  refine GE_then ?_
  refine GC_is_true rfl rfl ?_
  refine GC_seq ?_
  refine GC_region ?_
  refine GL_rd rfl (by decide) (rd_build (vs := []) (v := .agg #[.int .i64 0, .int .i64 0]) rfl (fun w => by kernel_rfl)) ?_
  refine GL_at rfl (at_storeAgg 50 rfl rfl rfl rfl (by kernel_rfl) rfl (Nat.le_of_ble_eq_true rfl) ?_)
  refine GL_rd rfl (by decide) (rd_assign rfl) ?_
  refine GL_nil ?_
  refine GE_then ?_
  refine GC_ret ?_
  refine GE_then_ret ?_
  refine GE_ret2 (.inl rfl) rfl (res_cell2 50 rfl rfl rfl rfl (by kernel_rfl)) (res_tmp rfl) fun w s => ⟨rfl, s.low 50 (hlim) (by repeat (first | exact Agr.refl _ | apply Agr.pick rfl | apply Agr.skip (by decide) | apply Agr.seq (by decide) | apply Agr.put (by decide))) (by repeat (first | exact Agr.refl _ | apply Agr.pick rfl | apply Agr.skip (by decide) | apply Agr.seq (by decide) | apply Agr.put (by decide))) (by repeat (first | exact Agr.refl _ | apply Agr.pick rfl | apply Agr.skip (by decide) | apply Agr.seq (by decide) | apply Agr.put (by decide)))⟩
theorem len_calls (hlim : Lim 50 B H S) {p : Option Addr} {k c : Nat} {bk : Value} :
    ∀ w, Sees F w0 B H S w → Calls Go.Proofs.Tryz.prog 71 #[.agg #[.slice p k c, bk]] w fun e w' => e = .returned (.int .i64 k) ∧ Sees F w0 B H S w' := by
  intro w s
  refine calls_GC (args := [.agg #[.slice p k c, bk]]) (L := [(0, .agg #[.slice p k c, bk])]) (N := 6) Tryz.func71 rfl rfl (Nat.le_of_ble_eq_true rfl) rfl s ?_
  refine GC_seq ?_
  refine GC_region ?_
  refine GL_at rfl (at_box 50 (by decide) rfl rfl (hlim.b 50 (by decide)) (fun o ho => by repeat (first | rfl | exact hlim.h _ (by decide) o ho | rw [lkp_put_ne (by decide) ho _ _ (Nat.le_of_ble_eq_true rfl)] | rw [lkp_seq_ne (by decide) ho _ _ (Nat.le_of_ble_eq_true rfl)] | rw [lkp_ky_ne (by decide) ho (by decide)])) (Nat.le_of_ble_eq_true rfl) (fun b1_ hbb1_ => ?_))
  refine GL_rd rfl (by decide) (rd_assign rfl) ?_
  refine GL_nil ?_
  refine GE_then ?_
  refine GC_seq ?_
  refine GC_region ?_
  refine GL_rd rfl (by decide) (rd_fieldAddr (j := 0) (by kernel_rfl) rfl) ?_
  refine GL_rd rfl (by decide) (rd_load 50 rfl rfl rfl (by kernel_rfl) (by decide)) ?_
  refine GL_rd rfl (by decide) (rd_len (by kernel_rfl) rfl) ?_
  refine GL_rd rfl (by decide) (rd_assign rfl) ?_
  refine GL_nil ?_
  refine GE_then ?_
  refine GC_ret ?_
  refine GE_ret1 (.inl rfl) rfl (res_tmp rfl) fun w s => ⟨rfl, s.low 50 (hlim) (by repeat (first | exact Agr.refl _ | apply Agr.pick rfl | apply Agr.skip (by decide) | apply Agr.seq (by decide) | apply Agr.put (by decide))) (by repeat (first | exact Agr.refl _ | apply Agr.pick rfl | apply Agr.skip (by decide) | apply Agr.seq (by decide) | apply Agr.put (by decide))) (by repeat (first | exact Agr.refl _ | apply Agr.pick rfl | apply Agr.skip (by decide) | apply Agr.seq (by decide) | apply Agr.put (by decide)))⟩
theorem append_calls (hlim : Lim 50 B H S) {it : Nat} (hB : lkp 0 B = some it) {q : Slc} (hS : lkp 0 S = some q) (h26 : lkp (ky 0 26) H = some q.v) {v27 : Value} (h27 : lkp (ky 0 27) H = some v27) (hqe : q.e = 44 ∧ q.sz = 2) (hn : q.n ≤ 1000000000) {x y : Int} :
    ∀ w, Sees F w0 B H S w → Calls Go.Proofs.Tryz.prog 80 #[.pointer (some ⟨it, 26, none⟩), .agg #[.int .i64 x, .int .i64 y]] w fun e w' => ∃ p' c', e = .returned (.tuple #[]) ∧
      Sees F w0 B ((ky 0 27, .slice p' (q.n + 1) c') :: (ky 0 26, .slice p' (q.n + 1) c') :: H) ((0, ⟨.slice p' (q.n + 1) c', 44, 2, q.n + 1, q.xs ++ [.int .i64 x, .int .i64 y]⟩) :: S) w' := by
  intro w s
  refine calls_GC (args := [.pointer (some ⟨it, 26, none⟩), .agg #[.int .i64 x, .int .i64 y]]) (L := [(0, .pointer (some ⟨it, 26, none⟩)), (1, .agg #[.int .i64 x, .int .i64 y])]) (N := 21) Tryz.func80 rfl rfl (Nat.le_of_ble_eq_true rfl) rfl s ?_
  refine GC_seq ?_
  refine GC_region ?_
  refine GL_at rfl (at_box 50 (by decide) rfl rfl (hlim.b 50 (by decide)) (fun o ho => by repeat (first | rfl | exact hlim.h _ (by decide) o ho | rw [lkp_put_ne (by decide) ho _ _ (Nat.le_of_ble_eq_true rfl)] | rw [lkp_seq_ne (by decide) ho _ _ (Nat.le_of_ble_eq_true rfl)] | rw [lkp_ky_ne (by decide) ho (by decide)])) (Nat.le_of_ble_eq_true rfl) (fun b1_ hbb1_ => ?_))
  refine GL_nil ?_
  refine GE_then ?_
  refine GC_seq ?_
  refine GC_any (Sees F w0 ((50, b1_) :: B) (putKeys 50 0 [.int .i64 x, .int .i64 y] ++ H) []) (fun i => i == 10) (by kernel_rfl) ?_
  refine GA_rd (i := 0) rfl rfl (by repeat (first | exact hblind | exact Blind.body | apply Blind.then | apply Blind.inBlock)) (by kernel_rfl) rfl (by decide) (rd_move rfl) (fun w s => by exact s.to (fun _ _ h => h) (fun k o v ho h => ⟨h, (by obtain ⟨b, e, _⟩ := s.cells k o v ho h; rw [e]; rfl)⟩) (fun _ _ h => by simp [lkp] at h)) ?_
  refine GA_rd (i := 1) rfl rfl (by repeat (first | exact hblind | exact Blind.body | apply Blind.then | apply Blind.inBlock)) (by kernel_rfl) rfl (by decide) (rd_move rfl) (fun w s => by exact s.to (fun _ _ h => h) (fun k o v ho h => ⟨h, (by obtain ⟨b, e, _⟩ := s.cells k o v ho h; rw [e]; rfl)⟩) (fun _ _ h => by simp [lkp] at h)) ?_
  refine GA_rd (i := 2) rfl rfl (by repeat (first | exact hblind | exact Blind.body | apply Blind.then | apply Blind.inBlock)) (by kernel_rfl) rfl (by decide) (rd_nilCheck rfl) (fun w s => by exact s.to (fun _ _ h => h) (fun k o v ho h => ⟨h, (by obtain ⟨b, e, _⟩ := s.cells k o v ho h; rw [e]; rfl)⟩) (fun _ _ h => by simp [lkp] at h)) ?_
  refine GA_rd (i := 3) rfl rfl (by repeat (first | exact hblind | exact Blind.body | apply Blind.then | apply Blind.inBlock)) (by kernel_rfl) rfl (by decide) (rd_fieldAddr (j := 0) (by kernel_rfl) rfl) (fun w s => by exact s.to (fun _ _ h => h) (fun k o v ho h => ⟨h, (by obtain ⟨b, e, _⟩ := s.cells k o v ho h; rw [e]; rfl)⟩) (fun _ _ h => by simp [lkp] at h)) ?_
  refine GA_rd (i := 4) rfl rfl (by repeat (first | exact hblind | exact Blind.body | apply Blind.then | apply Blind.inBlock)) (by kernel_rfl) rfl (by decide) (rd_load 0 rfl hB h26 (by kernel_rfl) (by decide)) (fun w s => by exact s.to (fun _ _ h => h) (fun k o v ho h => ⟨h, (by obtain ⟨b, e, _⟩ := s.cells k o v ho h; rw [e]; rfl)⟩) (fun _ _ h => by simp [lkp] at h)) ?_
  refine GA_rd (i := 5) rfl rfl (by repeat (first | exact hblind | exact Blind.body | apply Blind.then | apply Blind.inBlock)) (by kernel_rfl) rfl (by decide) (rd_load2 50 rfl rfl rfl rfl (by kernel_rfl) (by decide)) (fun w s => by exact s.to (fun _ _ h => h) (fun k o v ho h => ⟨h, (by obtain ⟨b, e, _⟩ := s.cells k o v ho h; rw [e]; rfl)⟩) (fun _ _ h => by simp [lkp] at h)) ?_
  refine GA_one (i := 6) rfl rfl (by kernel_rfl) rfl (at_one 50 (e := 44) (sz := 2) (by_ := 16) (zs := [.int .i64 0, .int .i64 0]) (by decide) (by kernel_rfl) rfl (by decide) (by decide) rfl rfl rfl (hlim.s 50 (by decide)) (fun b2_ => GK_C (fun _ w s => by exact s.to (fun _ _ h => h) (fun k o v ho h => ⟨h, (by obtain ⟨b, e, _⟩ := s.cells k o v ho h; rw [e]; rfl)⟩) (fun _ _ h => by simp [lkp] at h)) ?_))
  refine GA_one (i := 7) rfl rfl (by kernel_rfl) rfl (at_append 0 50 (e := 44) (sz := 2) (by_ := 16) (zs := [.int .i64 0, .int .i64 0]) (by decide) (by kernel_rfl) rfl (by decide) rfl rfl hS rfl hqe ⟨rfl, rfl⟩ one2 (by simp only; omega) (by simp only; omega) (fun p' c' => GK_C (fun _ w s => by exact s.to (fun _ _ h => h) (fun k o v ho h => ⟨h, (by obtain ⟨b, e, _⟩ := s.cells k o v ho h; rw [e]; rfl)⟩) (fun _ _ h => by simp [lkp] at h)) ?_))
  refine GA_one (i := 8) rfl rfl (by kernel_rfl) rfl (at_rd (by decide) (rd_nilCheck rfl) (GK_C (fun _ w s => by exact s.to (fun _ _ h => h) (fun k o v ho h => ⟨h, (by obtain ⟨b, e, _⟩ := s.cells k o v ho h; rw [e]; rfl)⟩) (fun _ _ h => by simp [lkp] at h)) ?_))
  refine GA_one (i := 9) rfl rfl (by kernel_rfl) rfl (at_rd (by decide) (rd_fieldAddr (j := 0) (by kernel_rfl) rfl) (GK_C (fun _ w s => by exact s.to (fun _ _ h => h) (fun k o v ho h => ⟨h, (by obtain ⟨b, e, _⟩ := s.cells k o v ho h; rw [e]; rfl)⟩) (fun _ _ h => by simp [lkp] at h)) ?_))
  refine GA_one (i := 10) rfl rfl (by kernel_rfl) rfl (at_store 0 rfl rfl hB h26 (by kernel_rfl) rfl (by decide) (GK_C (fun h => absurd h (by decide)) ?_))
  refine GA_end (by kernel_rfl) ?_
  refine GE_then ?_
  refine GC_region ?_
  refine GL_rd rfl (by decide) (rd_move rfl) ?_
  refine GL_rd rfl (by decide) (rd_move rfl) ?_
  refine GL_rd rfl (by decide) (rd_nilCheck rfl) ?_
  refine GL_rd rfl (by decide) (rd_fieldAddr (j := 0) (by kernel_rfl) rfl) ?_
  refine GL_rd rfl (by decide) (rd_load 0 rfl hB rfl (by kernel_rfl) (by decide)) ?_
  refine GL_rd rfl (by decide) (rd_nilCheck rfl) ?_
  refine GL_rd rfl (by decide) (rd_fieldAddr (j := 1) (by kernel_rfl) rfl) ?_
  refine GL_at rfl (at_store 0 rfl rfl hB h27 (by kernel_rfl) rfl (by decide) ?_)
  refine GL_nil ?_
  refine GE_ret0 (.inr rfl) rfl fun w s => ⟨p', c', rfl, s.low 50 (((hlim.consS (by decide)).consH (by decide) (by decide)).consH (by decide) (by decide)) (by repeat (first | exact Agr.refl _ | apply Agr.pick rfl | apply Agr.skip (by decide) | apply Agr.seq (by decide) | apply Agr.put (by decide))) (by repeat (first | exact Agr.refl _ | apply Agr.pick rfl | apply Agr.skip (by decide) | apply Agr.seq (by decide) | apply Agr.put (by decide))) (by repeat (first | exact Agr.refl _ | apply Agr.pick rfl | apply Agr.skip (by decide) | apply Agr.seq (by decide) | apply Agr.put (by decide)))⟩
end
end Go.Proofs.YtfcklceejjmjeaaGreat
