/-
  The days of a period, as the iterator lists them.
-/
import Derived.Test.YtfcklceejjmjeaaGreatProg
import Derived.Test.YtfcklceejjmjeaaGreatMd
import Derived.Test.YtfcklceejjmjeaaGreatFg
set_option linter.unusedVariables false
set_option linter.unusedSimpArgs false
set_option maxRecDepth 100000
set_option maxHeartbeats 8000000
namespace Go.Proofs.YtfcklceejjmjeaaGreat
open Go.RowKit Go.Fr Go.Tab
section
variable {F : Nat → Prop} {w0 : World} {B : List (Nat × Nat)} {H : List (Nat × Value)} {S : List (Nat × Slc)}

/-- The days from a day on, as the row holds them. -/
def dayCells (a : Int) (n : Nat) : List Value := ((List.range n).map fun (i : Nat) => [Value.int .i64 (a + i), Value.bool true]).flatten
theorem oneDay {x : Int} : ∀ u ∈ [Value.int .i64 x, .bool true], u.oneCell' = true := by
  intro u hu
  simp only [List.mem_cons, List.not_mem_nil, or_false] at hu
  rcases hu with rfl | rfl <;> rfl
theorem dayCells_succ (a : Int) (n : Nat) : dayCells a (n + 1) = dayCells a n ++ [.int .i64 (a + n), .bool true] := by
  simp [dayCells, List.range_succ]
theorem fill_days (hlim : Lim 50 B H S) {it : Nat} (hB : lkp 0 B = some it) {xs0 : List Value} {p0 : Option Addr} {n0 c0 : Nat} (hS : lkp 1 S = some ⟨.slice p0 n0 c0, 128, 2, n0, xs0⟩) (h29 : lkp (ky 0 29) H = some (.slice p0 n0 c0)) {a e : Int} (ha : a ≤ e) (hb : -1000000 ≤ a ∧ e ≤ 1000000) :
    ∀ w, Sees F w0 B H S w → Calls Go.Proofs.Tryz.prog 73 #[.pointer (some ⟨it, 0, none⟩), .int .i64 a, .int .i64 e] w fun r w' => ∃ p c, r = .returned (.tuple #[]) ∧
      Sees F w0 B ((ky 0 29, .slice p (e - a).toNat c) :: H) ((1, ⟨.slice p (e - a).toNat c, 128, 2, (e - a).toNat, dayCells a (e - a).toNat⟩) :: S) w' := by
  intro w s
  refine calls_GC (args := [.pointer (some ⟨it, 0, none⟩), .int .i64 a, .int .i64 e]) (L := [(0, .pointer (some ⟨it, 0, none⟩)), (1, .int .i64 a), (2, .int .i64 e)]) (N := 48) Tryz.func73 rfl rfl (Nat.le_of_ble_eq_true rfl) rfl s ?_
  refine GC_seq ?_
  refine GC_region ?_
  refine GL_rd rfl (by decide) (rd_move rfl) ?_
  refine GL_rd rfl (by decide) (rd_move rfl) ?_
  first
    | refine GL_rd rfl (by decide) (rd_sub_ rfl rfl (by omega)) ?_
    | refine GL_rd rfl (by decide) (rd_sub rfl rfl) ?_
  refine GL_rd rfl (by decide) (rd_assign rfl) ?_
  refine GL_nil ?_
  refine GE_then ?_
  refine GC_cut (ι := (Option Addr) × (Nat)) (fun | ⟨p, c⟩ => True) (fun | ⟨p, c⟩ => [(0, .pointer (some ⟨it, 0, none⟩)), (1, .int .i64 a), (2, .int .i64 e), (6, .int .i64 (e - a))]) (fun | ⟨p, c⟩ => B) (fun | ⟨p, c⟩ => (ky 0 29, .slice p 0 c) :: H) (fun | ⟨p, c⟩ => (1, ⟨.slice p 0 c, 128, 2, 0, []⟩) :: S) ?_ ?_
  · refine GC_seq ?_
    refine GC_region ?_
    refine GL_rd rfl (by decide) (rd_move rfl) ?_
    refine GL_rd rfl (by decide) (rd_nilCheck rfl) ?_
    refine GL_rd rfl (by decide) (rd_fieldAddr (j := 29) (by kernel_rfl) rfl) ?_
    refine GL_rd rfl (by decide) (rd_load 0 rfl hB h29 (by kernel_rfl) (by decide)) ?_
    refine GL_rd rfl (by decide) (rd_cap (by kernel_rfl) rfl) ?_
    refine GL_rd rfl (by decide) (rd_move rfl) ?_
    refine GL_rd rfl (by decide) (rd_lss rfl rfl) ?_
    refine GL_nil ?_
    refine GE_then ?_
    refine GC_cond rfl (fun hc => ?_) (fun hc => ?_)
    · refine GC_region ?_
      refine GL_rd rfl (by decide) (rd_move rfl) ?_
      refine GL_rd rfl (by decide) (rd_move rfl) ?_
      refine GL_at rfl (at_make0 1 (e := 128) (sz := 2) (by_ := 16) (zs := [.int .i64 0, .bool false]) (c := (e - a).toNat) (by decide) (by kernel_rfl) rfl (by first | rfl | exact congrArg (fun x : Int => some (Value.int .i64 x)) (show e - a = (((e - a).toNat : Nat) : Int) by omega)) (by omega) (by omega) (fun bm => ?_))
      refine GL_rd rfl (by decide) (rd_nilCheck rfl) ?_
      refine GL_rd rfl (by decide) (rd_fieldAddr (j := 29) (by kernel_rfl) rfl) ?_
      refine GL_at rfl (at_store 0 rfl rfl hB h29 (by kernel_rfl) rfl (by decide) ?_)
      refine GL_nil ?_
      refine GE_meet ⟨some ⟨bm, 0, none⟩, (e - a).toNat⟩ trivial (fun a k => k.cons rfl (k.cons rfl (k.cons rfl (k.cons rfl (k.nil))))) (fun w s => by exact s.low 50 ((hlim.consS (by decide)).consH (by decide) (by decide)) (by repeat (first | exact Agr.refl _ | apply Agr.pick rfl | apply Agr.skip (by decide) | apply Agr.seq (by decide) | apply Agr.put (by decide))) (by repeat (first | exact Agr.refl _ | apply Agr.pick rfl | apply Agr.skip (by decide) | apply Agr.seq (by decide) | apply Agr.put (by decide))) (by repeat (first | exact Agr.refl _ | apply Agr.pick rfl | apply Agr.skip (by decide) | apply Agr.seq (by decide) | apply Agr.put (by decide))))
    · refine GC_region ?_
      refine GL_rd rfl (by decide) (rd_move rfl) ?_
      refine GL_rd rfl (by decide) (rd_move rfl) ?_
      refine GL_rd rfl (by decide) (rd_nilCheck rfl) ?_
      refine GL_rd rfl (by decide) (rd_fieldAddr (j := 29) (by kernel_rfl) rfl) ?_
      refine GL_rd rfl (by decide) (rd_load 0 rfl hB h29 (by kernel_rfl) (by decide)) ?_
      refine GL_rd rfl (by decide) (rd_slice_upto (e := 128) (n := 2) (by kernel_rfl) rfl rfl (by omega) (by omega)) ?_
      refine GL_rd rfl (by decide) (rd_nilCheck rfl) ?_
      refine GL_rd rfl (by decide) (rd_fieldAddr (j := 29) (by kernel_rfl) rfl) ?_
      refine GL_at rfl (at_store 0 rfl rfl hB h29 (by kernel_rfl) rfl (by decide) ?_)
      refine GL_nil ?_
      refine GE_meet ⟨p0, c0⟩ trivial (fun a k => k.cons rfl (k.cons rfl (k.cons rfl (k.cons rfl (k.nil))))) (fun w s => by exact (s.cut 1 hS rfl 0 (Nat.zero_le _)).low 50 ((hlim.consS (by decide)).consH (by decide) (by decide)) (by repeat (first | exact Agr.refl _ | apply Agr.pick rfl | apply Agr.skip (by decide) | apply Agr.seq (by decide) | apply Agr.put (by decide))) (by repeat (first | exact Agr.refl _ | apply Agr.pick rfl | apply Agr.skip (by decide) | apply Agr.seq (by decide) | apply Agr.put (by decide))) (by exact Agr.pick (by rfl) (Agr.skip (by decide) (Agr.refl _))))
  rintro ⟨p, c⟩ -
  show GC _ _ _ _ [(0, .pointer (some ⟨it, 0, none⟩)), (1, .int .i64 a), (2, .int .i64 e), (6, .int .i64 (e - a))] _ _ (B) ((ky 0 29, .slice p 0 c) :: H) ((1, ⟨.slice p 0 c, 128, 2, 0, []⟩) :: S)
  refine GC_seq ?_
  refine GC_region ?_
  refine GL_rd rfl (by decide) (rd_move rfl) ?_
  refine GL_rd rfl (by decide) (rd_assign rfl) ?_
  refine GL_nil ?_
  refine GE_then ?_
  refine GC_block ?_
  refine GC_loop (ι := (Nat) × (Int) × (Option Addr) × (Nat) × (List Value)) (fun | ⟨k, i, p, c, xs⟩ => (e - i).toNat) (fun | ⟨k, i, p, c, xs⟩ => (i = a + k) ∧ (i ≤ e) ∧ (xs = dayCells a k)) (fun | ⟨k, i, p, c, xs⟩ => [(0, .pointer (some ⟨it, 0, none⟩)), (1, .int .i64 a), (2, .int .i64 e), (7, .int .i64 i)]) (fun | ⟨k, i, p, c, xs⟩ => B) (fun | ⟨k, i, p, c, xs⟩ => (ky 0 29, .slice p k c) :: H) (fun | ⟨k, i, p, c, xs⟩ => (1, ⟨.slice p k c, 128, 2, k, xs⟩) :: S) ⟨0, a, p, c, []⟩ ⟨by omega, ha, rfl⟩ (fun a k => k.cons rfl (k.cons rfl (k.cons rfl (k.cons rfl (k.nil))))) (fun w s => by exact s) ?_
  rintro ⟨k, i, p, c, xs⟩ ⟨hi, hk, hx⟩
  show GC _ _ _ _ [(0, .pointer (some ⟨it, 0, none⟩)), (1, .int .i64 a), (2, .int .i64 e), (7, .int .i64 i)] _ _ (B) ((ky 0 29, .slice p k c) :: H) ((1, ⟨.slice p k c, 128, 2, k, xs⟩) :: S)
  refine GC_seq ?_
  refine GC_seq ?_
  refine GC_region ?_
  refine GL_rd rfl (by decide) (rd_move rfl) ?_
  refine GL_rd rfl (by decide) (rd_move rfl) ?_
  refine GL_rd rfl (by decide) (rd_lss rfl rfl) ?_
  refine GL_nil ?_
  refine GE_then ?_
  refine GC_cond rfl (fun hc1 => ?_) (fun hc2 => ?_)
  · have hlt : i < e := of_decide_eq_true hc1
    refine GC_skip ?_
    refine GE_then ?_
    refine GC_seq ?_
    refine GC_block ?_
    refine GC_region ?_
    refine GL_rd rfl (by decide) (rd_move rfl) ?_
    refine GL_rd rfl (by decide) (rd_move rfl) ?_
    refine GL_rd rfl (by decide) (rd_nilCheck rfl) ?_
    refine GL_rd rfl (by decide) (rd_fieldAddr (j := 29) (by kernel_rfl) rfl) ?_
    refine GL_rd rfl (by decide) (rd_load 0 rfl hB rfl (by kernel_rfl) (by decide)) ?_
    refine GL_rd rfl (by decide) (rd_move rfl) ?_
    refine GL_rd rfl (by decide) (rd_build (vs := [(0, .int .i64 i), (1, .bool true)]) (v := .agg #[.int .i64 i, .bool true]) rfl (fun w => by kernel_rfl)) ?_
    refine GL_at rfl (at_one 51 (e := 128) (sz := 2) (by_ := 16) (zs := [.int .i64 0, .bool false]) (by decide) (by kernel_rfl) rfl (by decide) (by decide) rfl rfl rfl (hlim.s 51 (by decide)) (fun bo => ?_))
    refine GL_at rfl (at_append 1 51 (e := 128) (sz := 2) (by_ := 16) (zs := [.int .i64 0, .bool false]) (by decide) (by kernel_rfl) rfl (by decide) rfl rfl rfl rfl ⟨rfl, rfl⟩ ⟨rfl, rfl⟩ oneDay (by simp only; omega) (by simp only; omega) (fun p' c' => ?_))
    refine GL_rd rfl (by decide) (rd_nilCheck rfl) ?_
    refine GL_rd rfl (by decide) (rd_fieldAddr (j := 29) (by kernel_rfl) rfl) ?_
    refine GL_at rfl (at_store 0 rfl rfl hB rfl (by kernel_rfl) rfl (by decide) ?_)
    refine GL_nil ?_
    refine GE_in ?_
    refine GE_then ?_
    refine GC_region ?_
    refine GL_rd rfl (by decide) (rd_move rfl) ?_
    first
      | refine GL_rd rfl (by decide) (rd_add_ rfl rfl (by omega)) ?_
      | refine GL_rd rfl (by decide) (rd_add rfl rfl) ?_
    refine GL_rd rfl (by decide) (rd_assign rfl) ?_
    refine GL_nil ?_
    refine GE_back ⟨k + 1, i + 1, p', c', xs ++ [.int .i64 i, .bool true]⟩ (by simp only; omega) ⟨by omega, by omega, by rw [dayCells_succ, ← hi, ← hx]⟩ (fun a k => k.cons rfl (k.cons rfl (k.cons rfl (k.cons rfl (k.nil))))) (fun w s => by exact s.low 50 ((hlim.consS (by decide)).consH (by decide) (by decide)) (by repeat (first | exact Agr.refl _ | apply Agr.pick rfl | apply Agr.skip (by decide) | apply Agr.seq (by decide) | apply Agr.put (by decide))) (by repeat (first | exact Agr.refl _ | apply Agr.pick rfl | apply Agr.skip (by decide) | apply Agr.seq (by decide) | apply Agr.put (by decide))) (by repeat (first | exact Agr.refl _ | apply Agr.pick rfl | apply Agr.skip (by decide) | apply Agr.seq (by decide) | apply Agr.put (by decide))))
  · refine GC_exit ?_
    refine GE_then_exit ?_
    refine GE_then_exit ?_
    refine GE_in_self ?_
    obtain rfl : i = e := by have := of_decide_eq_false hc2; omega
    refine GE_ret0 (.inr rfl) rfl fun w s => ⟨p, c, rfl, ?_⟩
    obtain rfl : k = (i - a).toNat := by omega
    subst hx; exact s
end
end Go.Proofs.YtfcklceejjmjeaaGreat
