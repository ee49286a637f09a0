/-
  A period of the iterator: its days, those that are left out, and the dates that are told.
-/
import Derived.Test.YtfcklceejjmjeaaGreatProg
import Derived.Test.YtfcklceejjmjeaaGreatMd
import Derived.Test.YtfcklceejjmjeaaGreatFg
import Derived.Test.YtfcklceejjmjeaaGreatOut
import Derived.Test.YtfcklceejjmjeaaGreatSt
import Derived.Test.YtfcklceejjmjeaaGreatRebb
import Derived.Test.YtfcklceejjmjeaaGreatMf
set_option linter.unusedVariables false
set_option linter.unusedSimpArgs false
set_option maxRecDepth 100000
set_option maxHeartbeats 8000000
namespace Go.Proofs.YtfcklceejjmjeaaGreat
open Go.RowKit Go.Fr Go.Tab
section
variable {F : Nat → Prop} {w0 : World} {B : List (Nat × Nat)} {H : List (Nat × Value)} {S : List (Nat × Slc)}

open Go.Md
theorem calc_span {S0 : List (Nat × Slc)} {H0 : List (Nat × Value)} {r : Ru} {l : Ra} {it rb : Nat} {s : It} {a : Ad} (st : St F w0 S0 H0 it rb r l s a B H S) (hr : RuOk r) (hk : ItOk r s) : ∀ w, Sees F w0 B H S w → Calls Go.Proofs.Tryz.prog 72 #[.pointer (some ⟨it, 7, none⟩), .int .i64 r.freq, .int .i64 s.y, .int .i64 s.mo, .int .i64 s.d] w fun e w' => e = .returned (.tuple #[.int .i64 (span r s).1, .int .i64 (span r s).2]) ∧ Sees F w0 B H S w' := by
  have hf := hr.freq
  unfold span
  by_cases h0 : r.freq = 0
  · rw [if_pos h0, h0]; exact calc_yearly st.hB st.h10
  · rw [if_neg h0]
    by_cases h1 : r.freq = 1
    · rw [if_pos h1, h1]
      have hm := hk.mo
      exact calc_monthly st.hB st.h16 st.hS7 hk.mo (by rw [List.getElem?_map, rg_get (by omega)]; rfl) (by rw [List.getElem?_map, rg_get (by omega)]; rfl)
    · rw [if_neg h1]
      have hy := hk.y
      have hd := hk.d
      have hyd := yday_bd hk.mo ⟨hk.d.1, hk.day (by omega)⟩
      have hno := day_no_bd (y := s.y) (m := s.mo) (d := s.d) (by omega) hk.mo (by omega)
      by_cases h2 : r.freq = 2
      · simp only [if_pos h2]
        rw [h2]
        exact calc_weekly st.hB (by omega) hk.mo (by omega) hno st.hR st.h7 st.r42 hr.wkst (yw := ywd s.ly) (by unfold ywd; omega) st.h19 st.hS6 rfl
      · simp only [if_neg h2]
        exact calc_daily st.hB (by omega) hk.mo (by omega) hno (by omega)
theorem round_front {Q : Exit → Act → World → Prop} (hblind : Blind Q) {S0 : List (Nat × Slc)} {H0 : List (Nat × Value)} {r : Ru} {l : Ra} {it rb : Nat} {s : It} {a : Ad} (st : St F w0 S0 H0 it rb r l s a B H S) (hr : RuOk r) (hk : ItOk r s) (hrem : s.rem = []) (hfin : s.fin = false) (hsp : r.setpos.length = 0)
    (hn : ∀ o a' H' S', o = out r s → o.fin = false → Same s o → St F w0 S0 H0 it rb r l o a' B H' S' → GC Go.Proofs.Tryz.prog (Go.Fr.part [1, 1, 0, 0, 1, 0, 1, 1, 1, 1, 1, 1] (Go.Fr.bodyOf Tryz.f60)) Q 1418 [(0, .pointer (some ⟨it, 0, none⟩)), (2, .pointer (some ⟨rb, 0, none⟩)), (6, .bool (filtered r s))] F w0 B H' S')
    (hq : ∀ o a' H' S', o = out r s → o.fin = true → Same s o → St F w0 S0 H0 it rb r l o a' B H' S' → GE Q .ret 1418 [] F w0 B H' S') : GC Go.Proofs.Tryz.prog (Go.Fr.part [1, 1, 0, 0, 1, 0] (Go.Fr.bodyOf Tryz.f60)) Q 1418 [(0, .pointer (some ⟨it, 0, none⟩)), (2, .pointer (some ⟨rb, 0, none⟩))] F w0 B H S := by
  obtain ⟨hs1, hs2, hs3, hs4, hs5, hs6⟩ := span_bd hr hk
  obtain ⟨ht1, ht2, ht3⟩ := tabs_bd hr hk
  have hlp := Cal.lp_01 s.ly
  have hny := nY_lp s.ly
  have hy := hk.y
  have hly := hk.ly
  have hout : out r s = outTo r s (span r s).1 ((span r s).2 - (span r s).1).toNat := by rw [out_outTo r s (.inl hsp)]; rfl
  obtain ⟨e1_, e2_, e3_, e4_⟩ := st.hq0 hrem
  have hst26 := st.h26
  have hstS0 := st.hS0
  rw [hrem, e1_, e2_] at hst26
  rw [e3_, e4_] at hstS0
  refine GC_seq ?_
  refine GC_anyB (fun i => false) (by kernel_rfl) ?_
  refine GA_rd (i := 0) rfl rfl (by repeat (first | exact hblind | exact Blind.body | apply Blind.then | apply Blind.inBlock)) (by kernel_rfl) rfl (by decide) (rd_move rfl) (fun w s => by exact s) ?_
  refine GA_rd (i := 1) rfl rfl (by repeat (first | exact hblind | exact Blind.body | apply Blind.then | apply Blind.inBlock)) (by kernel_rfl) rfl (by decide) (rd_nilCheck rfl) (fun w s => by exact s) ?_
  refine GA_rd (i := 2) rfl rfl (by repeat (first | exact hblind | exact Blind.body | apply Blind.then | apply Blind.inBlock)) (by kernel_rfl) rfl (by decide) (rd_fieldAddr (j := 7) (by kernel_rfl) rfl) (fun w s => by exact s) ?_
  refine GA_rd (i := 3) rfl rfl (by repeat (first | exact hblind | exact Blind.body | apply Blind.then | apply Blind.inBlock)) (by kernel_rfl) rfl (by decide) (rd_move rfl) (fun w s => by exact s) ?_
  refine GA_rd (i := 4) rfl rfl (by repeat (first | exact hblind | exact Blind.body | apply Blind.then | apply Blind.inBlock)) (by kernel_rfl) rfl (by decide) (rd_nilCheck rfl) (fun w s => by exact s) ?_
  refine GA_rd (i := 5) rfl rfl (by repeat (first | exact hblind | exact Blind.body | apply Blind.then | apply Blind.inBlock)) (by kernel_rfl) rfl (by decide) (rd_fieldAddr (j := 38) (by kernel_rfl) rfl) (fun w s => by exact s) ?_
  refine GA_rd (i := 6) rfl rfl (by repeat (first | exact hblind | exact Blind.body | apply Blind.then | apply Blind.inBlock)) (by kernel_rfl) rfl (by decide) (rd_load 1 rfl st.hR st.r38 (by kernel_rfl) (by decide)) (fun w s => by exact s) ?_
  refine GA_rd (i := 7) rfl rfl (by repeat (first | exact hblind | exact Blind.body | apply Blind.then | apply Blind.inBlock)) (by kernel_rfl) rfl (by decide) (rd_move rfl) (fun w s => by exact s) ?_
  refine GA_rd (i := 8) rfl rfl (by repeat (first | exact hblind | exact Blind.body | apply Blind.then | apply Blind.inBlock)) (by kernel_rfl) rfl (by decide) (rd_nilCheck rfl) (fun w s => by exact s) ?_
  refine GA_rd (i := 9) rfl rfl (by repeat (first | exact hblind | exact Blind.body | apply Blind.then | apply Blind.inBlock)) (by kernel_rfl) rfl (by decide) (rd_fieldAddr (j := 0) (by kernel_rfl) rfl) (fun w s => by exact s) ?_
  refine GA_rd (i := 10) rfl rfl (by repeat (first | exact hblind | exact Blind.body | apply Blind.then | apply Blind.inBlock)) (by kernel_rfl) rfl (by decide) (rd_load 0 rfl st.hB st.h0 (by kernel_rfl) (by decide)) (fun w s => by exact s) ?_
  refine GA_rd (i := 11) rfl rfl (by repeat (first | exact hblind | exact Blind.body | apply Blind.then | apply Blind.inBlock)) (by kernel_rfl) rfl (by decide) (rd_move rfl) (fun w s => by exact s) ?_
  refine GA_rd (i := 12) rfl rfl (by repeat (first | exact hblind | exact Blind.body | apply Blind.then | apply Blind.inBlock)) (by kernel_rfl) rfl (by decide) (rd_nilCheck rfl) (fun w s => by exact s) ?_
  refine GA_rd (i := 13) rfl rfl (by repeat (first | exact hblind | exact Blind.body | apply Blind.then | apply Blind.inBlock)) (by kernel_rfl) rfl (by decide) (rd_fieldAddr (j := 1) (by kernel_rfl) rfl) (fun w s => by exact s) ?_
  refine GA_rd (i := 14) rfl rfl (by repeat (first | exact hblind | exact Blind.body | apply Blind.then | apply Blind.inBlock)) (by kernel_rfl) rfl (by decide) (rd_load 0 rfl st.hB st.h1 (by kernel_rfl) (by decide)) (fun w s => by exact s) ?_
  refine GA_rd (i := 15) rfl rfl (by repeat (first | exact hblind | exact Blind.body | apply Blind.then | apply Blind.inBlock)) (by kernel_rfl) rfl (by decide) (rd_move rfl) (fun w s => by exact s) ?_
  refine GA_rd (i := 16) rfl rfl (by repeat (first | exact hblind | exact Blind.body | apply Blind.then | apply Blind.inBlock)) (by kernel_rfl) rfl (by decide) (rd_nilCheck rfl) (fun w s => by exact s) ?_
  refine GA_rd (i := 17) rfl rfl (by repeat (first | exact hblind | exact Blind.body | apply Blind.then | apply Blind.inBlock)) (by kernel_rfl) rfl (by decide) (rd_fieldAddr (j := 2) (by kernel_rfl) rfl) (fun w s => by exact s) ?_
  refine GA_rd (i := 18) rfl rfl (by repeat (first | exact hblind | exact Blind.body | apply Blind.then | apply Blind.inBlock)) (by kernel_rfl) rfl (by decide) (rd_load 0 rfl st.hB st.h2 (by kernel_rfl) (by decide)) (fun w s => by exact s) ?_
  refine GA_one (i := 19) rfl rfl (by kernel_rfl) rfl (at_call_same (v := .tuple #[.int .i64 (span r s).1, .int .i64 (span r s).2]) (by decide) (by kernel_rfl) rfl (calc_span st hr hk) (GK_C (fun _ w s => by exact s) ?_))
  refine GA_one (i := 20) rfl rfl (by kernel_rfl) rfl (at_rd (by decide) (rd_move rfl) (GK_C (fun _ w s => by exact s) ?_))
  refine GA_rd (i := 21) rfl rfl (by repeat (first | exact hblind | exact Blind.body | apply Blind.then | apply Blind.inBlock)) (by kernel_rfl) rfl (by decide) (rd_extract rfl rfl) (fun w s => by exact s) ?_
  refine GA_rd (i := 22) rfl rfl (by repeat (first | exact hblind | exact Blind.body | apply Blind.then | apply Blind.inBlock)) (by kernel_rfl) rfl (by decide) (rd_extract rfl rfl) (fun w s => by exact s) ?_
  refine GA_one (i := 23) rfl rfl (by kernel_rfl) rfl (at_rd (by decide) (rd_assign rfl) (GK_C (fun _ w s => by exact s) ?_))
  refine GA_one (i := 24) rfl rfl (by kernel_rfl) rfl (at_rd (by decide) (rd_assign rfl) (GK_C (fun _ w s => by exact s) ?_))
  refine GA_end (by kernel_rfl) ?_
  refine GE_then ?_
  refine GC_seq ?_
  refine GC_region ?_
  refine GL_rd rfl (by decide) (rd_move rfl) ?_
  refine GL_rd rfl (by decide) (rd_move rfl) ?_
  refine GL_rd rfl (by decide) (rd_move rfl) ?_
  refine GL_at rfl (at_call_row1 1 (fun p c => (ky 0 29, .slice p ((span r s).2 - (span r s).1).toNat c)) (fun p c => ⟨.slice p ((span r s).2 - (span r s).1).toNat c, 128, 2, ((span r s).2 - (span r s).1).toNat, dayCells (span r s).1 ((span r s).2 - (span r s).1).toNat⟩) (by decide) (by kernel_rfl) rfl (fill_days (st.lim.mono (by decide)) st.hB st.hS1 st.h29 (by omega) (by omega)) (fun dp dc => ?_))
  refine GK_have (fun w s => s.head 1 rfl (by omega)) fun hcap => ?_
  obtain ⟨db, rfl, hdc⟩ := hcap
  refine GL_nil ?_
  refine GE_then ?_
  refine GC_seq ?_
  refine GC_region ?_
  refine GL_rd rfl (by decide) (rd_move rfl) ?_
  refine GL_rd rfl (by decide) (rd_nilCheck rfl) ?_
  refine GL_rd rfl (by decide) (rd_fieldAddr (j := 29) (by kernel_rfl) rfl) ?_
  refine GL_rd rfl (by decide) (rd_load 0 rfl st.hB rfl (by kernel_rfl) (by decide)) ?_
  refine GL_rd rfl (by decide) (rd_assign rfl) ?_
  refine GL_nil ?_
  refine GE_then ?_
  refine GC_seq ?_
  refine GC_region ?_
  refine GL_rd rfl (by decide) (rd_assign rfl) ?_
  refine GL_nil ?_
  refine GE_then ?_
  refine GC_seq ?_
  refine GC_seq ?_
  refine GC_region ?_
  refine GL_rd rfl (by decide) (rd_move rfl) ?_
  refine GL_rd rfl (by decide) (rd_len (by kernel_rfl) rfl) ?_
  refine GL_rd rfl (by decide) (rd_move rfl) ?_
  refine GL_nil ?_
  refine GE_then ?_
  refine GC_to (L' := [(0, .pointer (some ⟨it, 0, none⟩)), (2, .pointer (some ⟨rb, 0, none⟩)), (5, .slice (some ⟨db, 0, none⟩) ((span r s).2 - (span r s).1).toNat dc), (6, .bool false), (98, .slice (some ⟨db, 0, none⟩) ((span r s).2 - (span r s).1).toNat dc), (99, .int .i64 (((span r s).2 - (span r s).1).toNat : Nat)), (100, .int .i64 0)]) (fun a k => k.cons rfl (k.cons rfl (k.cons rfl (k.cons rfl (k.cons rfl (k.cons rfl (k.cons rfl (k.nil)))))))) (fun w s => s) ?_
  refine filter_loop (r := r) (it0 := s) (B := B) (H := ((ky 0 29, .slice (some ⟨db, 0, none⟩) ((span r s).2 - (span r s).1).toNat dc) :: H)) (S := ((1, ⟨.slice (some ⟨db, 0, none⟩) ((span r s).2 - (span r s).1).toNat dc, 128, 2, ((span r s).2 - (span r s).1).toNat, dayCells (span r s).1 ((span r s).2 - (span r s).1).toNat⟩) :: S)) (n := ((span r s).2 - (span r s).1).toNat) (db := db) (dc := dc) (a := (span r s).1) (hB := st.hB) (hR := st.hR) (r47 := st.r47) (hl47 := st.hl47) (hI47 := (st.hI47.to (fun k_ h1_ h2_ => by repeat (first | rfl | rw [lkp_cons_ne (by omega)])))) (r48 := st.r48) (hl48 := st.hl48) (hI48 := (st.hI48.to (fun k_ h1_ h2_ => by repeat (first | rfl | rw [lkp_cons_ne (by omega)])))) (r49 := st.r49) (hl49 := st.hl49) (hI49 := (st.hI49.to (fun k_ h1_ h2_ => by repeat (first | rfl | rw [lkp_cons_ne (by omega)])))) (r50 := st.r50) (hl50 := st.hl50) (hI50 := (st.hI50.to (fun k_ h1_ h2_ => by repeat (first | rfl | rw [lkp_cons_ne (by omega)])))) (r52 := st.r52) (hl52 := st.hl52) (hI52 := (st.hI52.to (fun k_ h1_ h2_ => by repeat (first | rfl | rw [lkp_cons_ne (by omega)])))) (r51 := st.r51) (r57 := st.r57) (h20 := st.h20) (hp20 := st.hp20) (hS8 := st.hS8) (h21 := st.h21) (hp21 := st.hp21) (hS9 := st.hS9) (h22 := st.h22) (hp22 := st.hp22) (hS10 := st.hS10) (h10 := st.h10) (h11 := st.h11) (h15 := st.h15) (h17 := st.h17) (h18 := st.h18) (h19 := st.h19) (hS3 := st.hS3) (hS4 := st.hS4) (hS5 := st.hS5) (hS6 := st.hS6) (hlim := ((st.lim.mono (by decide)).consH (by decide) (by decide)).consS (by decide)) (hS1 := rfl) (ha := hs1) (han := by omega) (hwn := fun h => by have := ht1 h; omega) (hnw := fun h => by have := ht2 h; omega) (hea := fun h => by have := ht3 h; omega) ?_
  refine GE_then ?_
  refine GC_seq ?_
  refine GC_seq ?_
  refine GC_region ?_
  refine GL_rd rfl (by decide) (rd_move rfl) ?_
  refine GL_rd rfl (by decide) (rd_nilCheck rfl) ?_
  refine GL_rd rfl (by decide) (rd_fieldAddr (j := 46) (by kernel_rfl) rfl) ?_
  refine GL_rd rfl (by decide) (rd_load 1 rfl st.hR st.r46 (by kernel_rfl) (by decide)) ?_
  refine GL_rd rfl (by decide) (rd_len (by kernel_rfl) rfl) ?_
  refine GL_rd rfl (by decide) ((rd_neq rfl rfl).to (v' := .bool false) (congrArg Value.bool (by rw [hsp]; rfl))) ?_
  refine GL_rd rfl (by decide) (rd_move rfl) ?_
  refine GL_pass (by decide) rfl rfl (by decide) ?_
  refine GL_pass (by decide) rfl rfl (by decide) ?_
  refine GL_pass (by decide) rfl rfl (by decide) ?_
  refine GL_pass (by decide) rfl rfl (by decide) ?_
  refine GL_pass (by decide) rfl rfl (by decide) ?_
  refine GL_pass (by decide) rfl rfl (by decide) ?_
  refine GL_rd rfl (by decide) (rd_pick rfl rfl rfl) ?_
  refine GL_nil ?_
  refine GE_then ?_
  refine GC_is_false rfl rfl ?_
  refine GC_seq ?_
  refine GC_region ?_
  refine GL_rd rfl (by decide) (rd_move rfl) ?_
  refine GL_rd rfl (by decide) (rd_len (by kernel_rfl) rfl) ?_
  refine GL_rd rfl (by decide) (rd_move rfl) ?_
  refine GL_nil ?_
  refine GE_then ?_
  refine GC_to (L' := [(0, .pointer (some ⟨it, 0, none⟩)), (2, .pointer (some ⟨rb, 0, none⟩)), (6, .bool (filtered r s)), (547, .slice (some ⟨db, 0, none⟩) ((span r s).2 - (span r s).1).toNat dc), (548, .int .i64 (((span r s).2 - (span r s).1).toNat : Nat)), (549, .int .i64 0)]) (fun a k => k.cons rfl (k.cons rfl (k.cons rfl (k.cons rfl (k.cons rfl (k.cons rfl (k.nil))))))) (fun w s => s) ?_
  refine out_loop (B := B) (H := ((ky 0 29, .slice (some ⟨db, 0, none⟩) ((span r s).2 - (span r s).1).toNat dc) :: H)) (S := ((1, ⟨.slice (some ⟨db, 0, none⟩) ((span r s).2 - (span r s).1).toNat dc, 128, 2, ((span r s).2 - (span r s).1).toNat, fltCells (span r s).1 ((span r s).2 - (span r s).1).toNat (fun j => !bad r s ((span r s).1 + j))⟩) :: ((1, ⟨.slice (some ⟨db, 0, none⟩) ((span r s).2 - (span r s).1).toNat dc, 128, 2, ((span r s).2 - (span r s).1).toNat, dayCells (span r s).1 ((span r s).2 - (span r s).1).toNat⟩) :: S))) (db := db) (dc := dc) (hblind := (by repeat (first | exact hblind | apply Blind.then | apply Blind.inBlock))) (r := r) (it0 := s) (a := (span r s).1) (n := ((span r s).2 - (span r s).1).toNat) (hlim := ((((st.lim).consH (by decide) (by decide)).consS (by decide)).consS (by decide))) (hB := st.hB) (hR := st.hR) (hS1 := rfl) (ha := hs1) (han := by omega) (hly := by omega) (h12 := st.h12) (h13 := st.h13) (h23 := st.h23) (hS2 := st.hS2) (hts := hk.ts) (hbig := by have := hk.tsn; have h2 := Nat.mul_le_mul_left ((span r s).2 - (span r s).1).toNat this; omega) (r39 := st.r39) (r40 := st.r40) (r44 := st.r44) (r45 := st.r45) (hu := hr.until0) (hu1 := hr.until1) (r59 := st.r59) (h28 := st.h28) (h24 := st.h24) (h25 := st.h25) (h26 := hst26) (h27 := st.h27) (hS0 := hstS0) (hrem := hrem) (hfin := hfin) (htot := by have := hk.total; rw [hrem] at this; simp at this; omega) (hcnt := hk.count) (hn := fun o p c bk ho hof hbk => ?_) (hr := fun o p c bk ln ho hof hbk => ?_)
  · have hsame := outTo_same r s (span r s).1 ((span r s).2 - (span r s).1).toNat
    rw [← ho] at hsame
    refine GE_then ?_
    obtain ⟨y_, mo_, d_, h_, mi_, s_, wd_, ly_, lm_, wno_, nwm_, eas_, ts_, tt_, cc_, rem_, fin_⟩ := o
    obtain ⟨q1, q2, q3, q4, q5, q6, q7, q8, q9, q10, q11, q12, q13⟩ := hsame
    simp only at q1 q2 q3 q4 q5 q6 q7 q8 q9 q10 q11 q12 q13 hof
    subst q1 q2 q3 q4 q5 q6 q7 q8 q9 q10 q11 q12 q13 hof
    refine GC_to (L' := [(0, .pointer (some ⟨it, 0, none⟩)), (2, .pointer (some ⟨rb, 0, none⟩)), (6, .bool (filtered r s))]) (fun a k => k.cons rfl (k.cons rfl (k.cons rfl (k.nil)))) (fun w s => s) ?_
    refine hn _ ({ a with rp := p, rc := c, rs := p, rk := c, rn := rem_.length, rj := 0, rall := rem_, bk := bk, dp := some ⟨db, 0, none⟩, dc := dc, dn := ((span r s).2 - (span r s).1).toNat, dxs := fltCells (span r s).1 ((span r s).2 - (span r s).1).toNat (fun j => !bad r s ((span r s).1 + j)) } : Ad) _ _ (ho.trans hout.symm) rfl ⟨rfl, rfl, rfl, rfl, rfl, rfl, rfl, rfl, rfl, rfl, rfl, rfl, rfl⟩ ?_
    exact ⟨st.hB, st.hR, (((((((st.lim.consH (by decide) (by decide)).consS (by decide)).consS (by decide)).consH (by decide) (by decide)).consH (by decide) (by decide)).consH (by decide) (by decide)).consH (by decide) (by decide)).consS (by decide), st.h0, st.h1, st.h2, st.h3, st.h4, st.h5, st.h6, st.h7, st.h8, st.h9, st.h10, st.h11, st.h12, st.h13, st.h14, st.h15, st.h16, st.h17, st.h18, st.h19, st.h20, st.h21, st.h22, st.h23, rfl, rfl, rfl, rfl, (by rw [← hfin]; exact st.h28), rfl, rfl, rfl, st.hS2, st.hS3, st.hS4, st.hS5, st.hS6, st.hS7, st.hS8, st.hS9, st.hS10, st.hp20, st.hp21, st.hp22, st.c6, (fun k_ h1_ h2_ => Eq.trans (by repeat (first | rfl | rw [lkp_cons_ne (by omega)])) (st.frS k_ h1_ h2_)), (fun k_ h1_ h2_ o_ ho_ => Eq.trans (by repeat (first | rfl | rw [lkp_ky_ne (by omega) ho_ (by decide)])) (st.frH k_ h1_ h2_ o_ ho_)), (fun h => ⟨rfl, rfl, by rw [show rem_ = [] from h]; rfl, h⟩), (fun h => ⟨fun g e => e, rfl, rfl, List.length_pos_iff.2 h, rfl, hbk h⟩), st.r38, st.r39, st.r40, st.r41, st.r42, st.r44, st.r45, st.r46, st.r47, st.r48, st.r49, st.r50, st.r51, st.r52, st.r53, st.r54, st.r55, st.r56, st.r57, st.r59, (st.hI46.to (fun k_ h1_ h2_ => by repeat (first | rfl | rw [lkp_cons_ne (by omega)]))), (st.hI47.to (fun k_ h1_ h2_ => by repeat (first | rfl | rw [lkp_cons_ne (by omega)]))), (st.hI48.to (fun k_ h1_ h2_ => by repeat (first | rfl | rw [lkp_cons_ne (by omega)]))), (st.hI49.to (fun k_ h1_ h2_ => by repeat (first | rfl | rw [lkp_cons_ne (by omega)]))), (st.hI50.to (fun k_ h1_ h2_ => by repeat (first | rfl | rw [lkp_cons_ne (by omega)]))), (st.hI51.to (fun k_ h1_ h2_ => by repeat (first | rfl | rw [lkp_cons_ne (by omega)]))), (st.hI52.to (fun k_ h1_ h2_ => by repeat (first | rfl | rw [lkp_cons_ne (by omega)]))), (st.hI54.to (fun k_ h1_ h2_ => by repeat (first | rfl | rw [lkp_cons_ne (by omega)]))), (st.hI55.to (fun k_ h1_ h2_ => by repeat (first | rfl | rw [lkp_cons_ne (by omega)]))), (st.hI56.to (fun k_ h1_ h2_ => by repeat (first | rfl | rw [lkp_cons_ne (by omega)]))), (st.hI57.to (fun k_ h1_ h2_ => by repeat (first | rfl | rw [lkp_cons_ne (by omega)]))), st.hl46, st.hl47, st.hl48, st.hl49, st.hl50, st.hl51, st.hl52, st.hl54, st.hl55, st.hl56, st.hl57⟩
  · have hsame := outTo_same r s (span r s).1 ((span r s).2 - (span r s).1).toNat
    rw [← ho] at hsame
    obtain ⟨y_, mo_, d_, h_, mi_, s_, wd_, ly_, lm_, wno_, nwm_, eas_, ts_, tt_, cc_, rem_, fin_⟩ := o
    obtain ⟨q1, q2, q3, q4, q5, q6, q7, q8, q9, q10, q11, q12, q13⟩ := hsame
    simp only at q1 q2 q3 q4 q5 q6 q7 q8 q9 q10 q11 q12 q13 hof
    subst q1 q2 q3 q4 q5 q6 q7 q8 q9 q10 q11 q12 q13 hof
    refine GE_then_ret ?_
    refine hq _ ({ a with rp := p, rc := c, rs := p, rk := c, rn := rem_.length, rj := 0, rall := rem_, bk := bk, dp := some ⟨db, 0, none⟩, dc := dc, dn := ((span r s).2 - (span r s).1).toNat, dxs := fltCells (span r s).1 ((span r s).2 - (span r s).1).toNat (fun j => !bad r s ((span r s).1 + j)) , ln := ln } : Ad) _ _ (ho.trans hout.symm) rfl ⟨rfl, rfl, rfl, rfl, rfl, rfl, rfl, rfl, rfl, rfl, rfl, rfl, rfl⟩ ?_
    exact ⟨st.hB, st.hR, (((((((((st.lim.consH (by decide) (by decide)).consS (by decide)).consS (by decide)).consH (by decide) (by decide)).consH (by decide) (by decide)).consH (by decide) (by decide)).consH (by decide) (by decide)).consS (by decide)).consH (by decide) (by decide)).consH (by decide) (by decide), st.h0, st.h1, st.h2, st.h3, st.h4, st.h5, st.h6, st.h7, st.h8, st.h9, st.h10, st.h11, st.h12, st.h13, st.h14, st.h15, st.h16, st.h17, st.h18, st.h19, st.h20, st.h21, st.h22, st.h23, rfl, rfl, rfl, rfl, rfl, rfl, rfl, rfl, st.hS2, st.hS3, st.hS4, st.hS5, st.hS6, st.hS7, st.hS8, st.hS9, st.hS10, st.hp20, st.hp21, st.hp22, st.c6, (fun k_ h1_ h2_ => Eq.trans (by repeat (first | rfl | rw [lkp_cons_ne (by omega)])) (st.frS k_ h1_ h2_)), (fun k_ h1_ h2_ o_ ho_ => Eq.trans (by repeat (first | rfl | rw [lkp_ky_ne (by omega) ho_ (by decide)])) (st.frH k_ h1_ h2_ o_ ho_)), (fun h => ⟨rfl, rfl, by rw [show rem_ = [] from h]; rfl, h⟩), (fun h => ⟨fun g e => e, rfl, rfl, List.length_pos_iff.2 h, rfl, hbk h⟩), st.r38, st.r39, st.r40, st.r41, st.r42, st.r44, st.r45, st.r46, st.r47, st.r48, st.r49, st.r50, st.r51, st.r52, st.r53, st.r54, st.r55, st.r56, st.r57, rfl, (st.hI46.to (fun k_ h1_ h2_ => by repeat (first | rfl | rw [lkp_cons_ne (by omega)]))), (st.hI47.to (fun k_ h1_ h2_ => by repeat (first | rfl | rw [lkp_cons_ne (by omega)]))), (st.hI48.to (fun k_ h1_ h2_ => by repeat (first | rfl | rw [lkp_cons_ne (by omega)]))), (st.hI49.to (fun k_ h1_ h2_ => by repeat (first | rfl | rw [lkp_cons_ne (by omega)]))), (st.hI50.to (fun k_ h1_ h2_ => by repeat (first | rfl | rw [lkp_cons_ne (by omega)]))), (st.hI51.to (fun k_ h1_ h2_ => by repeat (first | rfl | rw [lkp_cons_ne (by omega)]))), (st.hI52.to (fun k_ h1_ h2_ => by repeat (first | rfl | rw [lkp_cons_ne (by omega)]))), (st.hI54.to (fun k_ h1_ h2_ => by repeat (first | rfl | rw [lkp_cons_ne (by omega)]))), (st.hI55.to (fun k_ h1_ h2_ => by repeat (first | rfl | rw [lkp_cons_ne (by omega)]))), (st.hI56.to (fun k_ h1_ h2_ => by repeat (first | rfl | rw [lkp_cons_ne (by omega)]))), (st.hI57.to (fun k_ h1_ h2_ => by repeat (first | rfl | rw [lkp_cons_ne (by omega)]))), st.hl46, st.hl47, st.hl48, st.hl49, st.hl50, st.hl51, st.hl52, st.hl54, st.hl55, st.hl56, st.hl57⟩
end
end Go.Proofs.YtfcklceejjmjeaaGreat
