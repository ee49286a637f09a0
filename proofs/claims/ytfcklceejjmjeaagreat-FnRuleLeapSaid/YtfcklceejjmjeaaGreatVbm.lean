/-
  The bounds of a rule's numbers are looked at: all parts.
-/
import Derived.Test.YtfcklceejjmjeaaGreatProg
import Derived.Test.YtfcklceejjmjeaaGreatMd
import Derived.Test.YtfcklceejjmjeaaGreatFg
import Derived.Test.YtfcklceejjmjeaaGreatVb
set_option linter.unusedVariables false
set_option linter.unusedSimpArgs false
set_option maxRecDepth 100000
set_option maxHeartbeats 8000000
namespace Go.Proofs.YtfcklceejjmjeaaGreat
open Go.RowKit Go.Fr Go.Tab
section
variable {F : Nat → Prop} {w0 : World} {B : List (Nat × Nat)} {H : List (Nat × Value)} {S : List (Nat × Slc)}

open Go.Md
section
variable {P : Program} {N : Nat} {L : Fr.Loc} {d : Nat} {v : Value} {ty : TypeId} {pos : String} {aft : Array Edge} {g : Option (Nat × Bool)}
theorem rd_build4 {t : TypeId} {x y z u : Operand} {vx vy vz vu : Value} (hx : ev L x = some vx) (hy : ev L y = some vy) (hz : ev L z = some vz) (hu : ev L u = some vu) (hb : ∀ w : World, (Instr.build t #[(0, vx), (1, vy), (2, vz), (3, vu)]).run P w = .ok (.agg #[vx, vy, vz, vu]) w) : Rd P ⟨some d, .build t #[(0, x), (1, y), (2, z), (3, u)], ty, pos, aft, g⟩ N L F w0 B H S (.agg #[vx, vy, vz, vu]) :=
  rd_build (ps := [(0, x), (1, y), (2, z), (3, u)]) (vs := [(0, vx), (1, vy), (2, vz), (3, vu)]) (by simp [evp, hx, hy, hz, hu]) hb
theorem rd_bin {op : BinOp} {xt yt : TypeId} {x y : Operand} {vx vy : Value} (hx : ev L x = some vx) (hy : ev L y = some vy) (hb : ∀ w : World, (do eqGuard op xt x y vx vy; binOp op xt vx vy : Sem Value).run P w = .ok v w) : Rd P ⟨some d, .binOp op xt x y yt, ty, pos, aft, g⟩ N L F w0 B H S v := fun a w k s => by
  have := hb w
  rw [Sem.run_bind] at this
  simp only [execOp, k.eval hx, k.eval hy, Sem.run_bind, this, Result.andThen_ok, Sem.run_pure]
end
theorem row_range {k b o len cap : Nat} {q : Slc} {w : World} (s : Sees F w0 B H S w) (hl : lkp k S = some q) (hv : q.v = .slice (some ⟨b, 0, none⟩) len cap) {cs : List Value} (h : ∀ (j : Nat) u, cs[j]? = some u → q.xs[o + j]? = some u) : w.rangeAt b o cs := fun j u hu => s.row_cell hl hv (h j u hu)
theorem vb_main {R : Ending → World → Prop} {o : Opn} {x : Av} (vk : VbOk o) {b1 : Nat} (hb1 : lkp 50 B = some b1) (hc : cellsAt 50 H 0 (oc0 o x)) (lim : Lim 53 B H S) (s9 : SrcT F w0 S 11 (.slice x.p9 (o.setpos).length x.c9) o.setpos) (s10 : SrcT F w0 S 11 (.slice x.p10 (o.month).length x.c10) o.month) (s11 : SrcT F w0 S 11 (.slice x.p11 (o.mday).length x.c11) o.mday) (s12 : SrcT F w0 S 11 (.slice x.p12 (o.yday).length x.c12) o.yday) (s13 : SrcT F w0 S 11 (.slice x.p13 (o.weekno).length x.c13) o.weekno) (s14 : SrcU F w0 S 11 (.slice x.p14 (o.wday).length x.c14) o.wday) (s15 : SrcT F w0 S 11 (.slice x.p15 (o.hour).length x.c15) o.hour) (s16 : SrcT F w0 S 11 (.slice x.p16 (o.minute).length x.c16) o.minute) (s17 : SrcT F w0 S 11 (.slice x.p17 (o.second).length x.c17) o.second) (s18 : SrcT F w0 S 11 (.slice x.p18 (o.easter).length x.c18) o.easter) (hR : ∀ w, Sees F w0 B H S w → R (.returned .nilIface) w) :
    GC Go.Proofs.Tryz.prog (Go.Fr.part [1] (Go.Fr.bodyOf Tryz.f16)) (bodyPost Go.Proofs.Tryz.prog Tryz.f16 R) 93 [(1, .pointer (some ⟨b1, 0, none⟩))] F w0 B H S := by
  refine GC_seq ?_
  refine GC_region ?_
  refine GL_rd rfl (by decide) (rd_fieldAddr (j := 17) (by kernel_rfl) rfl) ?_
  refine GL_rd rfl (by decide) (rd_load 50 rfl hb1 (hc.get 17 _ rfl) (by kernel_rfl) (by decide)) ?_
  refine GL_at rfl (at_row 60 (e := 3) (sz := 1) (n := 2) (vs := [(0, .int .i64 0), (1, .int .i64 59)]) (cs := [.int .i64 0, .int .i64 59]) (by decide) rfl (fun w => by kernel_rfl) rfl (by decide) (by decide) (lim.s 60 (by decide)) (fun bb0 hbb0 => ?_))
  refine GL_rd rfl (by decide) ((rd_build4 rfl rfl rfl rfl (fun w => by kernel_rfl))) ?_
  refine GL_rd rfl (by decide) (rd_fieldAddr (j := 16) (by kernel_rfl) rfl) ?_
  refine GL_rd rfl (by decide) (rd_load 50 rfl hb1 (hc.get 16 _ rfl) (by kernel_rfl) (by decide)) ?_
  refine GL_at rfl (at_row 61 (e := 3) (sz := 1) (n := 2) (vs := [(0, .int .i64 0), (1, .int .i64 59)]) (cs := [.int .i64 0, .int .i64 59]) (by decide) rfl (fun w => by kernel_rfl) rfl (by decide) (by decide) (lim.s 61 (by decide)) (fun bb1 hbb1 => ?_))
  refine GL_rd rfl (by decide) ((rd_build4 rfl rfl rfl rfl (fun w => by kernel_rfl))) ?_
  refine GL_rd rfl (by decide) (rd_fieldAddr (j := 15) (by kernel_rfl) rfl) ?_
  refine GL_rd rfl (by decide) (rd_load 50 rfl hb1 (hc.get 15 _ rfl) (by kernel_rfl) (by decide)) ?_
  refine GL_at rfl (at_row 62 (e := 3) (sz := 1) (n := 2) (vs := [(0, .int .i64 0), (1, .int .i64 23)]) (cs := [.int .i64 0, .int .i64 23]) (by decide) rfl (fun w => by kernel_rfl) rfl (by decide) (by decide) (lim.s 62 (by decide)) (fun bb2 hbb2 => ?_))
  refine GL_rd rfl (by decide) ((rd_build4 rfl rfl rfl rfl (fun w => by kernel_rfl))) ?_
  refine GL_rd rfl (by decide) (rd_fieldAddr (j := 11) (by kernel_rfl) rfl) ?_
  refine GL_rd rfl (by decide) (rd_load 50 rfl hb1 (hc.get 11 _ rfl) (by kernel_rfl) (by decide)) ?_
  refine GL_at rfl (at_row 63 (e := 3) (sz := 1) (n := 2) (vs := [(0, .int .i64 1), (1, .int .i64 31)]) (cs := [.int .i64 1, .int .i64 31]) (by decide) rfl (fun w => by kernel_rfl) rfl (by decide) (by decide) (lim.s 63 (by decide)) (fun bb3 hbb3 => ?_))
  refine GL_rd rfl (by decide) ((rd_build4 rfl rfl rfl rfl (fun w => by kernel_rfl))) ?_
  refine GL_rd rfl (by decide) (rd_fieldAddr (j := 12) (by kernel_rfl) rfl) ?_
  refine GL_rd rfl (by decide) (rd_load 50 rfl hb1 (hc.get 12 _ rfl) (by kernel_rfl) (by decide)) ?_
  refine GL_at rfl (at_row 64 (e := 3) (sz := 1) (n := 2) (vs := [(0, .int .i64 1), (1, .int .i64 366)]) (cs := [.int .i64 1, .int .i64 366]) (by decide) rfl (fun w => by kernel_rfl) rfl (by decide) (by decide) (lim.s 64 (by decide)) (fun bb4 hbb4 => ?_))
  refine GL_rd rfl (by decide) ((rd_build4 rfl rfl rfl rfl (fun w => by kernel_rfl))) ?_
  refine GL_rd rfl (by decide) (rd_fieldAddr (j := 13) (by kernel_rfl) rfl) ?_
  refine GL_rd rfl (by decide) (rd_load 50 rfl hb1 (hc.get 13 _ rfl) (by kernel_rfl) (by decide)) ?_
  refine GL_at rfl (at_row 65 (e := 3) (sz := 1) (n := 2) (vs := [(0, .int .i64 1), (1, .int .i64 53)]) (cs := [.int .i64 1, .int .i64 53]) (by decide) rfl (fun w => by kernel_rfl) rfl (by decide) (by decide) (lim.s 65 (by decide)) (fun bb5 hbb5 => ?_))
  refine GL_rd rfl (by decide) ((rd_build4 rfl rfl rfl rfl (fun w => by kernel_rfl))) ?_
  refine GL_rd rfl (by decide) (rd_fieldAddr (j := 10) (by kernel_rfl) rfl) ?_
  refine GL_rd rfl (by decide) (rd_load 50 rfl hb1 (hc.get 10 _ rfl) (by kernel_rfl) (by decide)) ?_
  refine GL_at rfl (at_row 66 (e := 3) (sz := 1) (n := 2) (vs := [(0, .int .i64 1), (1, .int .i64 12)]) (cs := [.int .i64 1, .int .i64 12]) (by decide) rfl (fun w => by kernel_rfl) rfl (by decide) (by decide) (lim.s 66 (by decide)) (fun bb6 hbb6 => ?_))
  refine GL_rd rfl (by decide) ((rd_build4 rfl rfl rfl rfl (fun w => by kernel_rfl))) ?_
  refine GL_rd rfl (by decide) (rd_fieldAddr (j := 9) (by kernel_rfl) rfl) ?_
  refine GL_rd rfl (by decide) (rd_load 50 rfl hb1 (hc.get 9 _ rfl) (by kernel_rfl) (by decide)) ?_
  refine GL_at rfl (at_row 67 (e := 3) (sz := 1) (n := 2) (vs := [(0, .int .i64 1), (1, .int .i64 366)]) (cs := [.int .i64 1, .int .i64 366]) (by decide) rfl (fun w => by kernel_rfl) rfl (by decide) (by decide) (lim.s 67 (by decide)) (fun bb7 hbb7 => ?_))
  refine GL_rd rfl (by decide) ((rd_build4 rfl rfl rfl rfl (fun w => by kernel_rfl))) ?_
  refine GL_at rfl (at_row 68 (e := 85) (sz := 4) (n := 8) (vs := [(0, .agg #[.slice x.p17 (o.second).length x.c17, .string ⟨#[98, 121, 115, 101, 99, 111, 110, 100]⟩, .slice (some ⟨bb0, 0, none⟩) 2 2, .bool false]), (1, .agg #[.slice x.p16 (o.minute).length x.c16, .string ⟨#[98, 121, 109, 105, 110, 117, 116, 101]⟩, .slice (some ⟨bb1, 0, none⟩) 2 2, .bool false]), (2, .agg #[.slice x.p15 (o.hour).length x.c15, .string ⟨#[98, 121, 104, 111, 117, 114]⟩, .slice (some ⟨bb2, 0, none⟩) 2 2, .bool false]), (3, .agg #[.slice x.p11 (o.mday).length x.c11, .string ⟨#[98, 121, 109, 111, 110, 116, 104, 100, 97, 121]⟩, .slice (some ⟨bb3, 0, none⟩) 2 2, .bool true]), (4, .agg #[.slice x.p12 (o.yday).length x.c12, .string ⟨#[98, 121, 121, 101, 97, 114, 100, 97, 121]⟩, .slice (some ⟨bb4, 0, none⟩) 2 2, .bool true]), (5, .agg #[.slice x.p13 (o.weekno).length x.c13, .string ⟨#[98, 121, 119, 101, 101, 107, 110, 111]⟩, .slice (some ⟨bb5, 0, none⟩) 2 2, .bool true]), (6, .agg #[.slice x.p10 (o.month).length x.c10, .string ⟨#[98, 121, 109, 111, 110, 116, 104]⟩, .slice (some ⟨bb6, 0, none⟩) 2 2, .bool false]), (7, .agg #[.slice x.p9 (o.setpos).length x.c9, .string ⟨#[98, 121, 115, 101, 116, 112, 111, 115]⟩, .slice (some ⟨bb7, 0, none⟩) 2 2, .bool true])]) (cs := vbCs o x bb0 bb1 bb2 bb3 bb4 bb5 bb6 bb7) (by decide) rfl (fun w => by kernel_rfl) rfl (by decide) (by decide) (lim.s 68 (by decide)) (fun bz hbz => ?_))
  refine GL_rd rfl (by decide) (rd_assign rfl) ?_
  refine GL_nil ?_
  refine GE_then ?_
  refine GC_seq ?_
  refine GC_region ?_
  refine GL_rd rfl (by decide) (rd_assign rfl) ?_
  refine GL_nil ?_
  refine GE_then ?_
  refine GC_seq ?_
  refine GC_seq ?_
  refine GC_region ?_
  refine GL_rd rfl (by decide) (rd_move rfl) ?_
  refine GL_rd rfl (by decide) (rd_len (by kernel_rfl) rfl) ?_
  refine GL_rd rfl (by decide) (rd_move rfl) ?_
  refine GL_nil ?_
  refine GE_then ?_
  refine GC_block ?_
  refine GC_loop (ι := (Nat)) (fun i => 8 - i) (fun i => (i ≤ 8)) (fun i => [(1, .pointer (some ⟨b1, 0, none⟩)), (4, .func (.func 28) #[] #[]), (45, .slice (some ⟨bz, 0, none⟩) 8 8), (46, .int .i64 8), (47, .int .i64 i)]) (fun i => B) (fun i => H) (fun i => (68, ⟨.slice (some ⟨bz, 0, none⟩) 8 8, 85, 4, 8, vbCs o x bb0 bb1 bb2 bb3 bb4 bb5 bb6 bb7⟩) :: (67, ⟨.slice (some ⟨bb7, 0, none⟩) 2 2, 3, 1, 2, [.int .i64 1, .int .i64 366]⟩) :: (66, ⟨.slice (some ⟨bb6, 0, none⟩) 2 2, 3, 1, 2, [.int .i64 1, .int .i64 12]⟩) :: (65, ⟨.slice (some ⟨bb5, 0, none⟩) 2 2, 3, 1, 2, [.int .i64 1, .int .i64 53]⟩) :: (64, ⟨.slice (some ⟨bb4, 0, none⟩) 2 2, 3, 1, 2, [.int .i64 1, .int .i64 366]⟩) :: (63, ⟨.slice (some ⟨bb3, 0, none⟩) 2 2, 3, 1, 2, [.int .i64 1, .int .i64 31]⟩) :: (62, ⟨.slice (some ⟨bb2, 0, none⟩) 2 2, 3, 1, 2, [.int .i64 0, .int .i64 23]⟩) :: (61, ⟨.slice (some ⟨bb1, 0, none⟩) 2 2, 3, 1, 2, [.int .i64 0, .int .i64 59]⟩) :: (60, ⟨.slice (some ⟨bb0, 0, none⟩) 2 2, 3, 1, 2, [.int .i64 0, .int .i64 59]⟩) :: S) 0 (Nat.zero_le _) (fun a k => k.cons rfl (k.cons rfl (k.cons rfl (k.cons rfl (k.cons rfl (k.nil)))))) (fun w s => by exact s) ?_
  rintro i hi
  show GC _ _ _ _ [(1, .pointer (some ⟨b1, 0, none⟩)), (4, .func (.func 28) #[] #[]), (45, .slice (some ⟨bz, 0, none⟩) 8 8), (46, .int .i64 8), (47, .int .i64 i)] _ _ (B) (H) ((68, ⟨.slice (some ⟨bz, 0, none⟩) 8 8, 85, 4, 8, vbCs o x bb0 bb1 bb2 bb3 bb4 bb5 bb6 bb7⟩) :: (67, ⟨.slice (some ⟨bb7, 0, none⟩) 2 2, 3, 1, 2, [.int .i64 1, .int .i64 366]⟩) :: (66, ⟨.slice (some ⟨bb6, 0, none⟩) 2 2, 3, 1, 2, [.int .i64 1, .int .i64 12]⟩) :: (65, ⟨.slice (some ⟨bb5, 0, none⟩) 2 2, 3, 1, 2, [.int .i64 1, .int .i64 53]⟩) :: (64, ⟨.slice (some ⟨bb4, 0, none⟩) 2 2, 3, 1, 2, [.int .i64 1, .int .i64 366]⟩) :: (63, ⟨.slice (some ⟨bb3, 0, none⟩) 2 2, 3, 1, 2, [.int .i64 1, .int .i64 31]⟩) :: (62, ⟨.slice (some ⟨bb2, 0, none⟩) 2 2, 3, 1, 2, [.int .i64 0, .int .i64 23]⟩) :: (61, ⟨.slice (some ⟨bb1, 0, none⟩) 2 2, 3, 1, 2, [.int .i64 0, .int .i64 59]⟩) :: (60, ⟨.slice (some ⟨bb0, 0, none⟩) 2 2, 3, 1, 2, [.int .i64 0, .int .i64 59]⟩) :: S)
  refine GC_seq ?_
  refine GC_region ?_
  refine GL_rd rfl (by decide) (rd_lss rfl rfl) ?_
  refine GL_nil ?_
  refine GE_then ?_
  refine GC_seq ?_
  refine GC_cond rfl (fun hc1 => ?_) (fun hc2 => ?_)
  · skip
    have hlt : i < 8 := by have := of_decide_eq_true hc1; omega
    obtain ⟨q0, q1, q2, q3⟩ := vb_cs o x (bb0 := bb0) (bb1 := bb1) (bb2 := bb2) (bb3 := bb3) (bb4 := bb4) (bb5 := bb5) (bb6 := bb6) (bb7 := bb7) hlt
    have e8 : i = 0 ∨ i = 1 ∨ i = 2 ∨ i = 3 ∨ i = 4 ∨ i = 5 ∨ i = 6 ∨ i = 7 := by omega
    have hrow : lkp (60 + i) ((68, ⟨.slice (some ⟨bz, 0, none⟩) 8 8, 85, 4, 8, vbCs o x bb0 bb1 bb2 bb3 bb4 bb5 bb6 bb7⟩) :: (67, ⟨.slice (some ⟨bb7, 0, none⟩) 2 2, 3, 1, 2, [.int .i64 1, .int .i64 366]⟩) :: (66, ⟨.slice (some ⟨bb6, 0, none⟩) 2 2, 3, 1, 2, [.int .i64 1, .int .i64 12]⟩) :: (65, ⟨.slice (some ⟨bb5, 0, none⟩) 2 2, 3, 1, 2, [.int .i64 1, .int .i64 53]⟩) :: (64, ⟨.slice (some ⟨bb4, 0, none⟩) 2 2, 3, 1, 2, [.int .i64 1, .int .i64 366]⟩) :: (63, ⟨.slice (some ⟨bb3, 0, none⟩) 2 2, 3, 1, 2, [.int .i64 1, .int .i64 31]⟩) :: (62, ⟨.slice (some ⟨bb2, 0, none⟩) 2 2, 3, 1, 2, [.int .i64 0, .int .i64 23]⟩) :: (61, ⟨.slice (some ⟨bb1, 0, none⟩) 2 2, 3, 1, 2, [.int .i64 0, .int .i64 59]⟩) :: (60, ⟨.slice (some ⟨bb0, 0, none⟩) 2 2, 3, 1, 2, [.int .i64 0, .int .i64 59]⟩) :: S) = some ⟨.slice (some ⟨vbB bb0 bb1 bb2 bb3 bb4 bb5 bb6 bb7 i, 0, none⟩) 2 2, 3, 1, 2, [.int .i64 (vbLo i), .int .i64 (vbHi i)]⟩ := by rcases e8 with rfl | rfl | rfl | rfl | rfl | rfl | rfl | rfl <;> rfl
    have hbd : 0 ≤ vbLo i ∧ vbLo i ≤ 1000 ∧ 0 ≤ vbHi i ∧ vbHi i ≤ 1000 := by rcases e8 with rfl | rfl | rfl | rfl | rfl | rfl | rfl | rfl <;> decide
    have hvl := vk.lens i hlt
    have src : SrcT F w0 S 11 (.slice (vbAp x i) (vbL o i).length (vbAc x i)) (vbL o i) := by rcases e8 with rfl | rfl | rfl | rfl | rfl | rfl | rfl | rfl <;> first | exact s17 | exact s16 | exact s15 | exact s11 | exact s12 | exact s13 | exact s10 | exact s9
    refine GC_skip ?_
    refine GE_then ?_
    refine GC_seq ?_
    refine GC_block ?_
    refine GC_seq ?_
    refine GC_region ?_
    refine GL_rd rfl (by decide) (rd_indexAddr (e := 85) (n := 4) (by kernel_rfl) rfl rfl (by omega) (by omega)) ?_
    refine GL_rd rfl (by decide) (rd_loadAgg_at (cs := [.slice (vbAp x i) (vbL o i).length (vbAc x i), vbStr i, .slice (some ⟨vbB bb0 bb1 bb2 bb3 bb4 bb5 bb6 bb7 i, 0, none⟩) 2 2, .bool (vbP i)]) (by kernel_rfl) rfl (fun w s => row_range (k := 68) s rfl rfl (fun j u hu => by match j, hu with | 0, hu => exact (by rw [← hu]; exact (congrArg (fun n => (vbCs o x bb0 bb1 bb2 bb3 bb4 bb5 bb6 bb7)[n]?) (show 0 + (i : Int).toNat * 4 + 0 = 4 * i by omega)).trans q0) | 1, hu => exact (by rw [← hu]; exact (congrArg (fun n => (vbCs o x bb0 bb1 bb2 bb3 bb4 bb5 bb6 bb7)[n]?) (show 0 + (i : Int).toNat * 4 + 1 = 4 * i + 1 by omega)).trans q1) | 2, hu => exact (by rw [← hu]; exact (congrArg (fun n => (vbCs o x bb0 bb1 bb2 bb3 bb4 bb5 bb6 bb7)[n]?) (show 0 + (i : Int).toNat * 4 + 2 = 4 * i + 2 by omega)).trans q2) | 3, hu => exact (by rw [← hu]; exact (congrArg (fun n => (vbCs o x bb0 bb1 bb2 bb3 bb4 bb5 bb6 bb7)[n]?) (show 0 + (i : Int).toNat * 4 + 3 = 4 * i + 3 by omega)).trans q3)))) ?_
    refine GL_at rfl (at_alloc 70 (cs := [.slice none 0 0, .string ⟨#[]⟩, .slice none 0 0, .bool false]) (by decide) (by kernel_rfl) (lim.b 70 (by decide)) (fun o ho => lim.h 70 (by decide) o ho) (Nat.le_of_ble_eq_true rfl) (fun b6 hb6 => ?_))
    refine GL_at rfl (at_storeAgg 70 rfl rfl rfl rfl (by kernel_rfl) (by rcases e8 with rfl | rfl | rfl | rfl | rfl | rfl | rfl | rfl <;> rfl) (Nat.le_of_ble_eq_true rfl) ?_)
    refine GL_nil ?_
    refine GE_then ?_
    refine GC_seq ?_
    refine GC_region ?_
    refine GL_rd rfl (by decide) (rd_fieldAddr (j := 0) (by kernel_rfl) rfl) ?_
    refine GL_rd rfl (by decide) (rd_load 70 rfl rfl rfl (by kernel_rfl) (by decide)) ?_
    refine GL_rd rfl (by decide) (rd_len (by kernel_rfl) rfl) ?_
    refine GL_rd rfl (by decide) (rd_move rfl) ?_
    refine GL_nil ?_
    refine GE_then ?_
    refine GC_block ?_
    refine GC_loop (ι := (Nat)) (fun j => (vbL o i).length - j) (fun j => (j ≤ (vbL o i).length)) (fun j => [(1, .pointer (some ⟨b1, 0, none⟩)), (4, .func (.func 28) #[] #[]), (45, .slice (some ⟨bz, 0, none⟩) 8 8), (46, .int .i64 8), (47, .int .i64 i), (6, .pointer (some ⟨b6, 0, none⟩)), (52, .slice (vbAp x i) (vbL o i).length (vbAc x i)), (53, .int .i64 ((vbL o i).length)), (54, .int .i64 j)]) (fun j => (70, b6) :: B) (fun j => putKeys 70 0 [.slice (vbAp x i) (vbL o i).length (vbAc x i), vbStr i, .slice (some ⟨vbB bb0 bb1 bb2 bb3 bb4 bb5 bb6 bb7 i, 0, none⟩) 2 2, .bool (vbP i)] ++ H) (fun j => (68, ⟨.slice (some ⟨bz, 0, none⟩) 8 8, 85, 4, 8, vbCs o x bb0 bb1 bb2 bb3 bb4 bb5 bb6 bb7⟩) :: (67, ⟨.slice (some ⟨bb7, 0, none⟩) 2 2, 3, 1, 2, [.int .i64 1, .int .i64 366]⟩) :: (66, ⟨.slice (some ⟨bb6, 0, none⟩) 2 2, 3, 1, 2, [.int .i64 1, .int .i64 12]⟩) :: (65, ⟨.slice (some ⟨bb5, 0, none⟩) 2 2, 3, 1, 2, [.int .i64 1, .int .i64 53]⟩) :: (64, ⟨.slice (some ⟨bb4, 0, none⟩) 2 2, 3, 1, 2, [.int .i64 1, .int .i64 366]⟩) :: (63, ⟨.slice (some ⟨bb3, 0, none⟩) 2 2, 3, 1, 2, [.int .i64 1, .int .i64 31]⟩) :: (62, ⟨.slice (some ⟨bb2, 0, none⟩) 2 2, 3, 1, 2, [.int .i64 0, .int .i64 23]⟩) :: (61, ⟨.slice (some ⟨bb1, 0, none⟩) 2 2, 3, 1, 2, [.int .i64 0, .int .i64 59]⟩) :: (60, ⟨.slice (some ⟨bb0, 0, none⟩) 2 2, 3, 1, 2, [.int .i64 0, .int .i64 59]⟩) :: S) 0 (Nat.zero_le _) (fun a k => k.cons rfl (k.cons rfl (k.cons rfl (k.cons rfl (k.cons rfl (k.cons rfl (k.cons rfl (k.cons rfl (k.cons rfl (k.nil)))))))))) (fun w s => by exact s.low 71 (Lim.putH (by decide) _ 0 (Nat.le_of_ble_eq_true rfl) (by repeat (first | exact lim.mono (by decide) | apply Lim.consS _ (by decide) | apply Lim.consB _ (by decide)))) (by repeat (first | exact Agr.refl _ | apply Agr.pick rfl | apply Agr.skip (by decide) | apply Agr.seq (by decide) | apply Agr.put (by decide))) (by repeat (first | exact Agr.refl _ | apply Agr.pick rfl | apply Agr.skip (by decide) | apply Agr.seq (by decide) | apply Agr.put (by decide))) (by repeat (first | exact Agr.refl _ | apply Agr.pick rfl | apply Agr.skip (by decide) | apply Agr.seq (by decide) | apply Agr.put (by decide)))) ?_
    rintro j hj
    show GC _ _ _ _ [(1, .pointer (some ⟨b1, 0, none⟩)), (4, .func (.func 28) #[] #[]), (45, .slice (some ⟨bz, 0, none⟩) 8 8), (46, .int .i64 8), (47, .int .i64 i), (6, .pointer (some ⟨b6, 0, none⟩)), (52, .slice (vbAp x i) (vbL o i).length (vbAc x i)), (53, .int .i64 ((vbL o i).length)), (54, .int .i64 j)] _ _ ((70, b6) :: B) (putKeys 70 0 [.slice (vbAp x i) (vbL o i).length (vbAc x i), vbStr i, .slice (some ⟨vbB bb0 bb1 bb2 bb3 bb4 bb5 bb6 bb7 i, 0, none⟩) 2 2, .bool (vbP i)] ++ H) ((68, ⟨.slice (some ⟨bz, 0, none⟩) 8 8, 85, 4, 8, vbCs o x bb0 bb1 bb2 bb3 bb4 bb5 bb6 bb7⟩) :: (67, ⟨.slice (some ⟨bb7, 0, none⟩) 2 2, 3, 1, 2, [.int .i64 1, .int .i64 366]⟩) :: (66, ⟨.slice (some ⟨bb6, 0, none⟩) 2 2, 3, 1, 2, [.int .i64 1, .int .i64 12]⟩) :: (65, ⟨.slice (some ⟨bb5, 0, none⟩) 2 2, 3, 1, 2, [.int .i64 1, .int .i64 53]⟩) :: (64, ⟨.slice (some ⟨bb4, 0, none⟩) 2 2, 3, 1, 2, [.int .i64 1, .int .i64 366]⟩) :: (63, ⟨.slice (some ⟨bb3, 0, none⟩) 2 2, 3, 1, 2, [.int .i64 1, .int .i64 31]⟩) :: (62, ⟨.slice (some ⟨bb2, 0, none⟩) 2 2, 3, 1, 2, [.int .i64 0, .int .i64 23]⟩) :: (61, ⟨.slice (some ⟨bb1, 0, none⟩) 2 2, 3, 1, 2, [.int .i64 0, .int .i64 59]⟩) :: (60, ⟨.slice (some ⟨bb0, 0, none⟩) 2 2, 3, 1, 2, [.int .i64 0, .int .i64 59]⟩) :: S)
    refine GC_seq ?_
    refine GC_region ?_
    refine GL_rd rfl (by decide) (rd_lss rfl rfl) ?_
    refine GL_nil ?_
    refine GE_then ?_
    refine GC_seq ?_
    refine GC_cond rfl (fun hc1 => ?_) (fun hc2 => ?_)
    · skip
      have hltj : j < (vbL o i).length := by have := of_decide_eq_true hc1; omega
      obtain ⟨y, hy⟩ : ∃ y, (vbL o i)[j]? = some y := ⟨_, List.getElem?_eq_getElem hltj⟩
      have hin := vk.nums i hlt y (List.mem_of_getElem? hy)
      refine GC_have (fun w s => ((((((((((src.cons (by decide)).cons (by decide)).cons (by decide)).cons (by decide)).cons (by decide)).cons (by decide)).cons (by decide)).cons (by decide)).cons (by decide))).head s (by omega)) fun hh => ?_
      obtain ⟨by_, oy_, hp_y⟩ := hh
      have src_y := src
      rw [hp_y] at src_y
      refine GC_skip ?_
      refine GE_then ?_
      refine GC_seq ?_
      refine GC_block ?_
      refine GC_seq ?_
      refine GC_region ?_
      refine GL_rd rfl (by decide) (rd_indexAddr (e := 3) (n := 1) (by kernel_rfl) (congrArg (fun p => some (Value.slice p _ _)) hp_y) rfl (by omega) (by omega)) ?_
      refine GL_rd rfl (by decide) (rd_load_at (by kernel_rfl) rfl (fun w s => ((((((((((src_y.cons (by decide)).cons (by decide)).cons (by decide)).cons (by decide)).cons (by decide)).cons (by decide)).cons (by decide)).cons (by decide)).cons (by decide))).cell hy s)) ?_
      refine GL_rd rfl (by decide) (rd_assign rfl) ?_
      refine GL_nil ?_
      refine GE_then ?_
      refine GC_seq ?_
      refine GC_region ?_
      refine GL_rd rfl (by decide) (rd_move rfl) ?_
      refine GL_rd rfl (by decide) (rd_fieldAddr (j := 1) (by kernel_rfl) rfl) ?_
      refine GL_rd rfl (by decide) (rd_load 70 rfl rfl rfl (by kernel_rfl) (by decide)) ?_
      refine GL_rd rfl (by decide) (rd_move rfl) ?_
      refine GL_rd rfl (by decide) (rd_fieldAddr (j := 2) (by kernel_rfl) rfl) ?_
      refine GL_rd rfl (by decide) (rd_load 70 rfl rfl rfl (by kernel_rfl) (by decide)) ?_
      refine GL_rd rfl (by decide) (rd_fieldAddr (j := 3) (by kernel_rfl) rfl) ?_
      refine GL_rd rfl (by decide) (rd_load 70 rfl rfl rfl (by kernel_rfl) (by decide)) ?_
      refine GL_at rfl (at_callv (ι := Unit) (first := []) (capt := []) (fun _ => .nilIface) (fun _ => True) (fun _ => _) (fun _ => _) (fun _ => _) (by decide) rfl (by kernel_rfl) rfl (fun w_ s_ => (vb1_calls hrow hbd hin w_ s_).mono fun e_ w2_ h_ => ⟨(), trivial, h_.1, h_.2⟩) (fun _ _ => ?_))
      refine GL_rd rfl (by decide) (rd_assign rfl) ?_
      refine GL_nil ?_
      refine GE_then ?_
      refine GC_seq ?_
      refine GC_region ?_
      refine GL_rd rfl (by decide) (rd_move rfl) ?_
      refine GL_rd rfl (by decide) ((rd_bin (v := .bool false) rfl rfl (fun w => by kernel_rfl))) ?_
      refine GL_nil ?_
      refine GE_then ?_
      refine GC_is_false rfl rfl ?_
      refine GC_skip ?_
      refine GE_in ?_
      refine GE_then ?_
      refine GC_region ?_
      first
        | refine GL_rd rfl (by decide) (rd_add_ rfl rfl (by omega)) ?_
        | refine GL_rd rfl (by decide) (rd_add rfl rfl) ?_
      refine GL_rd rfl (by decide) (rd_move rfl) ?_
      refine GL_nil ?_
      refine GE_back (j + 1) (by omega) (by show j + 1 ≤ (vbL o i).length; omega) (fun a k => k.cons rfl (k.cons rfl (k.cons rfl (k.cons rfl (k.cons rfl (k.cons rfl (k.cons rfl (k.cons rfl (k.cons rfl (k.nil)))))))))) (fun w s => by exact s)
    · skip
      have hgej : ¬ j < (vbL o i).length := by have := of_decide_eq_false hc2; omega
      refine GC_exit ?_
      refine GE_then_exit ?_
      refine GE_then_exit ?_
      refine GE_in_self ?_
      refine GE_in ?_
      refine GE_then ?_
      refine GC_region ?_
      first
        | refine GL_rd rfl (by decide) (rd_add_ rfl rfl (by omega)) ?_
        | refine GL_rd rfl (by decide) (rd_add rfl rfl) ?_
      refine GL_rd rfl (by decide) (rd_move rfl) ?_
      refine GL_nil ?_
      refine GE_back (i + 1) (by omega) (by show i + 1 ≤ 8; omega) (fun a k => k.cons rfl (k.cons rfl (k.cons rfl (k.cons rfl (k.cons rfl (k.nil)))))) (fun w s => by exact s.low 69 ((by repeat (first | exact lim.mono (by decide) | apply Lim.consS _ (by decide)))) (by repeat (first | exact Agr.refl _ | apply Agr.pick rfl | apply Agr.skip (by decide) | apply Agr.seq (by decide) | apply Agr.put (by decide))) (by repeat (first | exact Agr.refl _ | apply Agr.pick rfl | apply Agr.skip (by decide) | apply Agr.seq (by decide) | apply Agr.put (by decide))) (by repeat (first | exact Agr.refl _ | apply Agr.pick rfl | apply Agr.skip (by decide) | apply Agr.seq (by decide) | apply Agr.put (by decide))))
  · skip
    have hge : ¬ i < 8 := by have := of_decide_eq_false hc2; omega
    refine GC_exit ?_
    refine GE_then_exit ?_
    refine GE_then_exit ?_
    refine GE_in_self ?_
    refine GE_then ?_
    refine GC_seq ?_
    refine GC_seq ?_
    refine GC_region ?_
    refine GL_rd rfl (by decide) (rd_fieldAddr (j := 14) (by kernel_rfl) rfl) ?_
    refine GL_rd rfl (by decide) (rd_load 50 rfl hb1 (hc.get 14 _ rfl) (by kernel_rfl) (by decide)) ?_
    refine GL_rd rfl (by decide) (rd_len (by kernel_rfl) rfl) ?_
    refine GL_rd rfl (by decide) (rd_move rfl) ?_
    refine GL_nil ?_
    refine GE_then ?_
    refine GC_block ?_
    refine GC_loop (ι := (Nat)) (fun k => o.wday.length - k) (fun k => (k ≤ o.wday.length)) (fun k => [(1, .pointer (some ⟨b1, 0, none⟩)), (73, .slice x.p14 (o.wday).length x.c14), (74, .int .i64 (o.wday.length)), (75, .int .i64 k)]) (fun k => B) (fun k => H) (fun k => S) 0 (Nat.zero_le _) (fun a k => k.cons rfl (k.cons rfl (k.cons rfl (k.cons rfl (k.nil))))) (fun w s => by exact s.low 53 lim (by repeat (first | exact Agr.refl _ | apply Agr.pick rfl | apply Agr.skip (by decide) | apply Agr.seq (by decide) | apply Agr.put (by decide))) (by repeat (first | exact Agr.refl _ | apply Agr.pick rfl | apply Agr.skip (by decide) | apply Agr.seq (by decide) | apply Agr.put (by decide))) (by repeat (first | exact Agr.refl _ | apply Agr.pick rfl | apply Agr.skip (by decide) | apply Agr.seq (by decide) | apply Agr.put (by decide)))) ?_
    rintro k hk
    show GC _ _ _ _ [(1, .pointer (some ⟨b1, 0, none⟩)), (73, .slice x.p14 (o.wday).length x.c14), (74, .int .i64 (o.wday.length)), (75, .int .i64 k)] _ _ (B) (H) (S)
    refine GC_seq ?_
    refine GC_region ?_
    refine GL_rd rfl (by decide) (rd_lss rfl rfl) ?_
    refine GL_nil ?_
    refine GE_then ?_
    refine GC_seq ?_
    refine GC_cond rfl (fun hc1 => ?_) (fun hc2 => ?_)
    · skip
      have hltk : k < o.wday.length := by have := of_decide_eq_true hc1; omega
      obtain ⟨y, hy⟩ : ∃ y, o.wday[k]? = some y := ⟨_, List.getElem?_eq_getElem hltk⟩
      have hwl := vk.wlen
      have hdy := vk.days y (List.mem_of_getElem? hy)
      refine GC_have (fun w s => s14.head s (by omega)) fun hh => ?_
      obtain ⟨by_, oy_, hp_y⟩ := hh
      have src_y := s14
      rw [hp_y] at src_y
      refine GC_skip ?_
      refine GE_then ?_
      refine GC_seq ?_
      refine GC_block ?_
      refine GC_seq ?_
      refine GC_region ?_
      refine GL_rd rfl (by decide) (rd_indexAddr (e := 46) (n := 2) (by kernel_rfl) (congrArg (fun p => some (Value.slice p _ _)) hp_y) rfl (by omega) (by omega)) ?_
      refine GL_rd rfl (by decide) (rd_loadAgg_at (cs := [.int .i64 y.1, .int .i64 y.2]) (by kernel_rfl) rfl (fun w s => src_y.cell hy s)) ?_
      refine GL_at rfl (at_alloc 53 (cs := [.int .i64 0, .int .i64 0]) (by decide) (by kernel_rfl) (lim.b 53 (by decide)) (fun o ho => lim.h 53 (by decide) o ho) (Nat.le_of_ble_eq_true rfl) (fun b11 hb11 => ?_))
      refine GL_at rfl (at_storeAgg 53 rfl rfl rfl rfl (by kernel_rfl) rfl (Nat.le_of_ble_eq_true rfl) ?_)
      refine GL_nil ?_
      refine GE_then ?_
      refine GC_seq ?_
      refine GC_region ?_
      refine GL_rd rfl (by decide) (rd_fieldAddr (j := 1) (by kernel_rfl) rfl) ?_
      refine GL_rd rfl (by decide) (rd_load 53 rfl rfl rfl (by kernel_rfl) (by decide)) ?_
      refine GL_rd rfl (by decide) ((rd_gtr rfl rfl).to (v' := .bool false) (congrArg Value.bool (decide_eq_false (by omega)))) ?_
      refine GL_rd rfl (by decide) (rd_move rfl) ?_
      refine GL_take rfl rfl ?_
      refine GL_rd rfl (by decide) (rd_fieldAddr (j := 1) (by kernel_rfl) rfl) ?_
      refine GL_take rfl rfl ?_
      refine GL_rd rfl (by decide) (rd_load 53 rfl rfl rfl (by kernel_rfl) (by decide)) ?_
      refine GL_take rfl rfl ?_
      refine GL_rd rfl (by decide) ((rd_lss rfl rfl).to (v' := .bool false) (congrArg Value.bool (decide_eq_false (by omega)))) ?_
      refine GL_rd rfl (by decide) (rd_pick rfl rfl rfl) ?_
      refine GL_nil ?_
      refine GE_then ?_
      refine GC_is_false rfl rfl ?_
      refine GC_skip ?_
      refine GE_in ?_
      refine GE_then ?_
      refine GC_region ?_
      first
        | refine GL_rd rfl (by decide) (rd_add_ rfl rfl (by omega)) ?_
        | refine GL_rd rfl (by decide) (rd_add rfl rfl) ?_
      refine GL_rd rfl (by decide) (rd_move rfl) ?_
      refine GL_nil ?_
      refine GE_back (k + 1) (by omega) (by show k + 1 ≤ o.wday.length; omega) (fun a k => k.cons rfl (k.cons rfl (k.cons rfl (k.cons rfl (k.nil))))) (fun w s => by exact s.low 53 lim (by repeat (first | exact Agr.refl _ | apply Agr.pick rfl | apply Agr.skip (by decide) | apply Agr.seq (by decide) | apply Agr.put (by decide))) (by repeat (first | exact Agr.refl _ | apply Agr.pick rfl | apply Agr.skip (by decide) | apply Agr.seq (by decide) | apply Agr.put (by decide))) (by repeat (first | exact Agr.refl _ | apply Agr.pick rfl | apply Agr.skip (by decide) | apply Agr.seq (by decide) | apply Agr.put (by decide))))
    · skip
      have hgek : ¬ k < o.wday.length := by have := of_decide_eq_false hc2; omega
      refine GC_exit ?_
      refine GE_then_exit ?_
      refine GE_then_exit ?_
      refine GE_in_self ?_
      refine GE_then ?_
      refine GC_seq ?_
      refine GC_seq ?_
      refine GC_region ?_
      refine GL_rd rfl (by decide) (rd_fieldAddr (j := 3) (by kernel_rfl) rfl) ?_
      refine GL_rd rfl (by decide) (rd_load 50 rfl hb1 (hc.get 3 _ rfl) (by kernel_rfl) (by decide)) ?_
      refine GL_rd rfl (by decide) (rd_lss rfl rfl) ?_
      refine GL_nil ?_
      refine GE_then ?_
      refine GC_is_false rfl (decide_eq_false (by have := vk.interval; omega)) ?_
      refine GC_skip ?_
      refine GE_then ?_
      refine GC_seq ?_
      refine GC_region ?_
      refine GL_rd rfl (by decide) (rd_assign rfl) ?_
      refine GL_nil ?_
      refine GE_then ?_
      refine GC_ret ?_
      exact GE_ret1 (.inl rfl) rfl (res_tmp rfl) hR
end
end Go.Proofs.YtfcklceejjmjeaaGreat
