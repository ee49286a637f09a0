/-
  The days of a period that are left out: the loop of generate.
-/
import Derived.Test.YtfcklceejjmjeaaGreatProg
import Derived.Test.YtfcklceejjmjeaaGreatMd
import Derived.Test.YtfcklceejjmjeaaGreatFg
import Derived.Test.YtfcklceejjmjeaaGreatFilt
import Derived.Test.YtfcklceejjmjeaaGreatFh
import Derived.Test.YtfcklceejjmjeaaGreatDay
set_option linter.unusedVariables false
set_option linter.unusedSimpArgs false
set_option maxRecDepth 100000
set_option maxHeartbeats 8000000
namespace Go.Proofs.YtfcklceejjmjeaaGreat
open Go.RowKit Go.Fr Go.Tab
section
variable {F : Nat → Prop} {w0 : World} {B : List (Nat × Nat)} {H : List (Nat × Value)} {S : List (Nat × Slc)}

open Go.Md
theorem flt_days (a : Int) (n : Nat) : fltCells a n (fun _ => true) = dayCells a n := rfl
def fltAt (r : Ru) (it0 : It) (a : Int) (k j : Nat) : Bool := if j < k then !bad r it0 (a + j) else true
theorem any_succ (f : Nat → Bool) (k : Nat) : (List.range (k + 1)).any f = ((List.range k).any f || f k) := by rw [List.range_succ, List.any_append]; simp
theorem fltAt_bad {r : Ru} {it0 : It} {a : Int} {n k : Nat} (hk : k < n) (hb : bad r it0 (a + k) = true) : (fltCells a n (fltAt r it0 a k)).set (2 * k + 1) (.bool false) = fltCells a n (fltAt r it0 a (k + 1)) := by
  refine flt_set a n _ _ false hk (by unfold fltAt; rw [if_pos (Nat.lt_succ_self k), hb]; rfl) (fun j hj => ?_)
  unfold fltAt
  rcases Nat.lt_trichotomy j k with h | h | h
  · rw [if_pos h, if_pos (by omega)]
  · exact absurd h hj
  · rw [if_neg (by omega), if_neg (by omega)]
theorem fltAt_ok {r : Ru} {it0 : It} {a : Int} {n k : Nat} (hb : bad r it0 (a + k) = false) : fltCells a n (fltAt r it0 a k) = fltCells a n (fltAt r it0 a (k + 1)) := by
  refine flt_congr a n fun j hj => ?_
  unfold fltAt
  rcases Nat.lt_trichotomy j k with h | h | h
  · rw [if_pos h, if_pos (by omega)]
  · subst h; rw [if_neg (Nat.lt_irrefl _), if_pos (Nat.lt_succ_self _), hb]; rfl
  · rw [if_neg (by omega), if_neg (by omega)]
theorem filter_loop {Q : Exit → Act → World → Prop} {r : Ru} {it0 : It} {it rb : Nat} (hB : lkp 0 B = some it) (hR : lkp 1 B = some rb) {p47 : Option Addr} {c47 : Nat} (r47 : lkp (ky 1 47) H = some (.slice p47 r.month.length c47)) (hl47 : r.month.length ≤ 1000000000) (hI47 : SrcI F w0 S (.slice p47 r.month.length c47) r.month) {p48 : Option Addr} {c48 : Nat} (r48 : lkp (ky 1 48) H = some (.slice p48 r.mday.length c48)) (hl48 : r.mday.length ≤ 1000000000) (hI48 : SrcI F w0 S (.slice p48 r.mday.length c48) r.mday) {p49 : Option Addr} {c49 : Nat} (r49 : lkp (ky 1 49) H = some (.slice p49 r.nmday.length c49)) (hl49 : r.nmday.length ≤ 1000000000) (hI49 : SrcI F w0 S (.slice p49 r.nmday.length c49) r.nmday) {p50 : Option Addr} {c50 : Nat} (r50 : lkp (ky 1 50) H = some (.slice p50 r.yday.length c50)) (hl50 : r.yday.length ≤ 1000000000) (hI50 : SrcI F w0 S (.slice p50 r.yday.length c50) r.yday) {p52 : Option Addr} {c52 : Nat} (r52 : lkp (ky 1 52) H = some (.slice p52 r.wday.length c52)) (hl52 : r.wday.length ≤ 1000000000) (hI52 : SrcI F w0 S (.slice p52 r.wday.length c52) r.wday) {p51 p57 : Option Addr} {c51 c57 : Nat} (r51 : lkp (ky 1 51) H = some (.slice p51 r.weekno.length c51)) (r57 : lkp (ky 1 57) H = some (.slice p57 r.easter.length c57)) {p20 : Option Addr} {c20 : Nat} (h20 : lkp (ky 0 20) H = some (.slice p20 it0.wno.length c20)) (hp20 : 0 < it0.wno.length → ∃ b, p20 = some ⟨b, 0, none⟩) (hS8 : 0 < it0.wno.length → lkp 8 S = some ⟨.slice p20 it0.wno.length c20, 3, 1, it0.wno.length, it0.wno.map (Value.int .i64)⟩) {p21 : Option Addr} {c21 : Nat} (h21 : lkp (ky 0 21) H = some (.slice p21 it0.nwm.length c21)) (hp21 : 0 < it0.nwm.length → ∃ b, p21 = some ⟨b, 0, none⟩) (hS9 : 0 < it0.nwm.length → lkp 9 S = some ⟨.slice p21 it0.nwm.length c21, 3, 1, it0.nwm.length, it0.nwm.map (Value.int .i64)⟩) {p22 : Option Addr} {c22 : Nat} (h22 : lkp (ky 0 22) H = some (.slice p22 it0.eas.length c22)) (hp22 : 0 < it0.eas.length → ∃ b, p22 = some ⟨b, 0, none⟩) (hS10 : 0 < it0.eas.length → lkp 10 S = some ⟨.slice p22 it0.eas.length c22, 3, 1, it0.eas.length, it0.eas.map (Value.int .i64)⟩) 
    (h10 : lkp (ky 0 10) H = some (.int .i64 (365 + Cal.lp it0.ly))) (h11 : lkp (ky 0 11) H = some (.int .i64 (365 + Cal.lp (it0.ly + 1)))) {b3 b4 b5 b6 c3 c4 c5 c6 : Nat} (h15 : lkp (ky 0 15) H = some (.slice (some ⟨b3, 0, none⟩) (nY it0.ly) c3)) (h17 : lkp (ky 0 17) H = some (.slice (some ⟨b4, 0, none⟩) (nY it0.ly) c4))
    (h18 : lkp (ky 0 18) H = some (.slice (some ⟨b5, 0, none⟩) (nY it0.ly) c5)) (h19 : lkp (ky 0 19) H = some (.slice (some ⟨b6, 0 + (ywd it0.ly).toNat * 1, none⟩) (385 - (ywd it0.ly).toNat) (c6 - (ywd it0.ly).toNat)))
    (hS3 : lkp 3 S = some ⟨.slice (some ⟨b3, 0, none⟩) (nY it0.ly) c3, 3, 1, nY it0.ly, (mmY it0.ly).map (Value.int .i64)⟩) (hS4 : lkp 4 S = some ⟨.slice (some ⟨b4, 0, none⟩) (nY it0.ly) c4, 3, 1, nY it0.ly, (mdY it0.ly).map (Value.int .i64)⟩) (hS5 : lkp 5 S = some ⟨.slice (some ⟨b5, 0, none⟩) (nY it0.ly) c5, 3, 1, nY it0.ly, (nmdY it0.ly).map (Value.int .i64)⟩)
    (hS6 : lkp 6 S = some ⟨.slice (some ⟨b6, 0, none⟩) 385 c6, 3, 1, 385, (wd 55).map (Value.int .i64)⟩) (hlim : Lim 50 B H S) {db n dc : Nat} {a : Int} (hS1 : lkp 1 S = some ⟨.slice (some ⟨db, 0, none⟩) n dc, 128, 2, n, dayCells a n⟩) (ha : 0 ≤ a) (han : a + n ≤ nY it0.ly) (hwn : r.weekno.length ≠ 0 → a + n ≤ it0.wno.length) (hnw : it0.nwm.length ≠ 0 → a + n ≤ it0.nwm.length) (hea : r.easter.length ≠ 0 → a + n ≤ it0.eas.length)
    (hn : GE Q .normal 1418 [(0, .pointer (some ⟨it, 0, none⟩)), (2, .pointer (some ⟨rb, 0, none⟩)), (5, .slice (some ⟨db, 0, none⟩) n dc), (6, .bool ((List.range n).any fun (j : Nat) => bad r it0 (a + j)))] F w0 B H ((1, ⟨.slice (some ⟨db, 0, none⟩) n dc, 128, 2, n, fltCells a n (fun j => !bad r it0 (a + j))⟩) :: S)) : GC Go.Proofs.Tryz.prog (Go.Fr.part [1, 1, 0, 0, 1, 0, 1, 1, 1, 1, 0, 1] (Go.Fr.bodyOf Tryz.f60)) Q 1418 [(0, .pointer (some ⟨it, 0, none⟩)), (2, .pointer (some ⟨rb, 0, none⟩)), (5, .slice (some ⟨db, 0, none⟩) n dc), (6, .bool false), (98, .slice (some ⟨db, 0, none⟩) n dc), (99, .int .i64 n), (100, .int .i64 0)] F w0 B H S := by
  have hny := nY_lp it0.ly
  have hlp := Cal.lp_01 it0.ly
  show GC _ (Code.block 2 (Go.Fr.part [1, 1, 0, 0, 1, 0, 1, 1, 1, 1, 0, 1, 0] (Go.Fr.bodyOf Tryz.f60))) _ _ _ _ _ _ _ _
  refine GC_block ?_
  refine GC_loop (ι := (Nat) × (List Value) × (Bool)) (fun | ⟨k, xs, f⟩ => n - k) (fun | ⟨k, xs, f⟩ => (k ≤ n) ∧ (xs = fltCells a n (fltAt r it0 a k)) ∧ (f = (List.range k).any fun (j : Nat) => bad r it0 (a + j))) (fun | ⟨k, xs, f⟩ => [(0, .pointer (some ⟨it, 0, none⟩)), (2, .pointer (some ⟨rb, 0, none⟩)), (5, .slice (some ⟨db, 0, none⟩) n dc), (6, .bool f), (98, .slice (some ⟨db, 0, none⟩) n dc), (99, .int .i64 n), (100, .int .i64 k)]) (fun | ⟨k, xs, f⟩ => B) (fun | ⟨k, xs, f⟩ => H) (fun | ⟨k, xs, f⟩ => (1, ⟨.slice (some ⟨db, 0, none⟩) n dc, 128, 2, n, xs⟩) :: S) ⟨0, dayCells a n, false⟩ ⟨Nat.zero_le _, by rw [← flt_days]; exact flt_congr a n (fun j hj => by unfold fltAt; rw [if_neg (Nat.not_lt_zero j)]), rfl⟩ (fun a k => k.cons rfl (k.cons rfl (k.cons rfl (k.cons rfl (k.cons rfl (k.cons rfl (k.cons rfl (k.nil)))))))) (fun w s => by exact s.rowTo hS1) ?_
  rintro ⟨k, xs, f⟩ ⟨hk, hx, hf⟩
  show GC _ _ _ _ [(0, .pointer (some ⟨it, 0, none⟩)), (2, .pointer (some ⟨rb, 0, none⟩)), (5, .slice (some ⟨db, 0, none⟩) n dc), (6, .bool f), (98, .slice (some ⟨db, 0, none⟩) n dc), (99, .int .i64 n), (100, .int .i64 k)] _ _ (B) (H) ((1, ⟨.slice (some ⟨db, 0, none⟩) n dc, 128, 2, n, xs⟩) :: S)
  refine GC_seq ?_
  refine GC_region ?_
  refine GL_rd rfl (by decide) (rd_lss rfl rfl) ?_
  refine GL_nil ?_
  refine GE_then ?_
  refine GC_seq ?_
  refine GC_cond rfl (fun hc1 => ?_) (fun hc2 => ?_)
  · have hlt : k < n := by have := of_decide_eq_true hc1; omega
    obtain ⟨hx1, hx2⟩ := flt_get a n (fltAt r it0 a k) hlt
    rw [← hx] at hx1 hx2
    have hxl : xs.length = 2 * n := by rw [hx]; exact flt_len _ _ _
    have hfk : fltAt r it0 a k k = true := by unfold fltAt; rw [if_neg (Nat.lt_irrefl k)]
    rw [hfk] at hx2
    refine GC_skip ?_
    refine GE_then ?_
    refine GC_seq ?_
    refine GC_block ?_
    refine GC_seq ?_
    refine GC_region ?_
    refine GL_rd rfl (by decide) (rd_move rfl) ?_
    refine GL_rd rfl (by decide) (rd_indexAddr (e := 128) (n := 2) (by kernel_rfl) rfl rfl (by omega) (by omega)) ?_
    refine GL_rd rfl (by decide) (rd_load2_row 1 rfl rfl rfl (by rw [← hx1]; congr 1; omega) (by rw [← hx2]; congr 1; omega) (by kernel_rfl)) ?_
    refine GL_at rfl (at_alloc 50 (cs := [.int .i64 0, .bool false]) (by decide) (by kernel_rfl) (hlim.b 50 (by decide)) (fun o ho => by repeat (first | rfl | exact hlim.h _ (by decide) o ho | rw [lkp_put_ne (by decide) ho _ _ (Nat.le_of_ble_eq_true rfl)] | rw [lkp_seq_ne (by decide) ho _ _ (Nat.le_of_ble_eq_true rfl)] | rw [lkp_ky_ne (by decide) ho (by decide)])) (Nat.le_of_ble_eq_true rfl) (fun b1_ hbb1_ => ?_))
    refine GL_rd rfl (by decide) (rd_assign rfl) ?_
    refine GL_at rfl (at_storeAgg 50 rfl rfl rfl rfl (by kernel_rfl) rfl (Nat.le_of_ble_eq_true rfl) ?_)
    refine GL_nil ?_
    refine GE_then ?_
    refine GC_seq ?_
    refine GC_region ?_
    refine GL_rd rfl (by decide) (rd_fieldAddr (j := 0) (by kernel_rfl) rfl) ?_
    refine GL_rd rfl (by decide) (rd_load 50 rfl rfl rfl (by kernel_rfl) (by decide)) ?_
    refine GL_rd rfl (by decide) (rd_assign rfl) ?_
    refine GL_nil ?_
    refine GE_then ?_
    refine GC_seq ?_
    refine GC_to (L' := [(0, .pointer (some ⟨it, 0, none⟩)), (2, .pointer (some ⟨rb, 0, none⟩)), (5, .slice (some ⟨db, 0, none⟩) n dc), (6, .bool f), (7, .int .i64 k), (9, .int .i64 (a + k)), (98, .slice (some ⟨db, 0, none⟩) n dc), (99, .int .i64 n), (100, .int .i64 k)]) (fun a k => k.cons rfl (k.cons rfl (k.cons rfl (k.cons rfl (k.cons rfl (k.cons rfl (k.cons rfl (k.cons rfl (k.cons rfl (k.nil)))))))))) (fun w s => s) ?_
    refine filter_test (i := a + k) (by exact hB) (by exact hR) (by exact r47) (by exact hl47) (hI47.at (fun k_ h1_ h2_ => by repeat (first | rfl | rw [lkp_cons_ne (by omega)]))) (by exact r48) (by exact hl48) (hI48.at (fun k_ h1_ h2_ => by repeat (first | rfl | rw [lkp_cons_ne (by omega)]))) (by exact r49) (by exact hl49) (hI49.at (fun k_ h1_ h2_ => by repeat (first | rfl | rw [lkp_cons_ne (by omega)]))) (by exact r50) (by exact hl50) (hI50.at (fun k_ h1_ h2_ => by repeat (first | rfl | rw [lkp_cons_ne (by omega)]))) (by exact r52) (by exact hl52) (hI52.at (fun k_ h1_ h2_ => by repeat (first | rfl | rw [lkp_cons_ne (by omega)]))) (by exact r51) (by exact r57) (by exact h20) (by exact hp20) (by exact hS8) (by exact h21) (by exact hp21) (by exact hS9) (by exact h22) (by exact hp22) (by exact hS10) (by exact h10) (by exact h11) (by exact h15) (by exact h17) (by exact h18) (by exact h19) (by exact hS3) (by exact hS4) (by exact hS5) (by exact hS6) (by omega) (fun h => by have := hwn h; omega) (fun h => by have := hnw h; omega) (fun h => by have := hea h; omega) ?_
    refine GE_then ?_
    refine GC_cond rfl (fun hb => ?_) (fun hb => ?_)
    · have hbad : bad r it0 (a + k) = true := hb
      refine GC_seq ?_
      refine GC_region ?_
      refine GL_rd rfl (by decide) (rd_move rfl) ?_
      refine GL_rd rfl (by decide) (rd_move rfl) ?_
      refine GL_rd rfl (by decide) (rd_indexAddr (e := 128) (n := 2) (by kernel_rfl) rfl rfl (by omega) (by omega)) ?_
      refine GL_rd rfl (by decide) (rd_fieldAddr (j := 1) (by kernel_rfl) rfl) ?_
      refine GL_at rfl (at_store_row 1 rfl rfl rfl rfl (by rw [hxl]; omega) (by kernel_rfl) rfl ?_)
      refine GL_nil ?_
      refine GE_then ?_
      refine GC_region ?_
      refine GL_rd rfl (by decide) (rd_assign rfl) ?_
      refine GL_nil ?_
      refine GE_in ?_
      refine GE_then ?_
      refine GC_region ?_
      first
        | refine GL_rd rfl (by decide) (rd_add_ rfl rfl (by omega)) ?_
        | refine GL_rd rfl (by decide) (rd_add rfl rfl) ?_
      refine GL_rd rfl (by decide) (rd_move rfl) ?_
      refine GL_nil ?_
      refine GE_back ⟨k + 1, xs.set (0 + (k : Int).toNat * 2 + 1) (.bool false), true⟩ (by simp only; omega) ⟨by omega, by rw [hx, show 0 + (k : Int).toNat * 2 + 1 = 2 * k + 1 by omega]; exact fltAt_bad hlt hbad, by rw [any_succ, ← hf, hbad]; simp⟩ (fun a k => k.cons rfl (k.cons rfl (k.cons rfl (k.cons rfl (k.cons rfl (k.cons rfl (k.cons rfl (k.nil)))))))) (fun w s => by exact s.low 50 ((hlim.consS (by decide))) (by repeat (first | exact Agr.refl _ | apply Agr.pick rfl | apply Agr.skip (by decide) | apply Agr.seq (by decide) | apply Agr.put (by decide))) (by repeat (first | exact Agr.refl _ | apply Agr.pick rfl | apply Agr.skip (by decide) | apply Agr.seq (by decide) | apply Agr.put (by decide))) (by repeat (first | exact Agr.refl _ | apply Agr.pick rfl | apply Agr.skip (by decide) | apply Agr.seq (by decide) | apply Agr.put (by decide))))
    · have hbad : bad r it0 (a + k) = false := hb
      refine GC_skip ?_
      refine GE_in ?_
      refine GE_then ?_
      refine GC_region ?_
      first
        | refine GL_rd rfl (by decide) (rd_add_ rfl rfl (by omega)) ?_
        | refine GL_rd rfl (by decide) (rd_add rfl rfl) ?_
      refine GL_rd rfl (by decide) (rd_move rfl) ?_
      refine GL_nil ?_
      refine GE_back ⟨k + 1, xs, f⟩ (by simp only; omega) ⟨by omega, by rw [hx]; exact fltAt_ok hbad, by rw [any_succ, ← hf, hbad]; simp⟩ (fun a k => k.cons rfl (k.cons rfl (k.cons rfl (k.cons rfl (k.cons rfl (k.cons rfl (k.cons rfl (k.nil)))))))) (fun w s => by exact s.low 50 ((hlim.consS (by decide))) (by repeat (first | exact Agr.refl _ | apply Agr.pick rfl | apply Agr.skip (by decide) | apply Agr.seq (by decide) | apply Agr.put (by decide))) (by repeat (first | exact Agr.refl _ | apply Agr.pick rfl | apply Agr.skip (by decide) | apply Agr.seq (by decide) | apply Agr.put (by decide))) (by repeat (first | exact Agr.refl _ | apply Agr.pick rfl | apply Agr.skip (by decide) | apply Agr.seq (by decide) | apply Agr.put (by decide))))
  · have hge : ¬ k < n := by have := of_decide_eq_false hc2; omega
    obtain rfl : k = n := by omega
    refine GC_exit ?_
    refine GE_then_exit ?_
    refine GE_then_exit ?_
    refine GE_in_self ?_
    refine GE_to (fun a q => q.cons rfl (q.cons rfl (q.cons rfl (q.cons (by exact congrArg (fun b => some (Value.bool b)) hf) q.nil)))) (fun w s => ?_) hn
    rw [hx, show fltCells a k (fltAt r it0 a k) = fltCells a k (fun j => !bad r it0 (a + j)) from flt_congr a k (fun j hj => by unfold fltAt; rw [if_pos hj])] at s
    exact s
end
end Go.Proofs.YtfcklceejjmjeaaGreat
