/-
  The next period of the iterator: years, weeks and days; the days past a month's end.
-/
import Derived.Test.YtfcklceejjmjeaaGreatProg
import Derived.Test.YtfcklceejjmjeaaGreatMd
import Derived.Test.YtfcklceejjmjeaaGreatFg
import Derived.Test.YtfcklceejjmjeaaGreatRebs
set_option linter.unusedVariables false
set_option linter.unusedSimpArgs false
set_option maxRecDepth 100000
set_option maxHeartbeats 8000000
namespace Go.Proofs.YtfcklceejjmjeaaGreat
open Go.RowKit Go.Fr Go.Tab
section
variable {F : Nat → Prop} {w0 : World} {B : List (Nat × Nat)} {H : List (Nat × Value)} {S : List (Nat × Slc)}

open Go.Md
theorem fix_code {Q : Exit → Act → World → Prop} {S0 : List (Nat × Slc)} {H0 : List (Nat × Value)} {r : Ru} {l : Ra} {it rb : Nat} {s : It} {a : Ad} (st : St F w0 S0 H0 it rb r l s a B H S) (hr : RuOk r) (hw0 : r.weekno.length = 0) (hd0 : r.nwd.length = 0) (he0 : r.easter.length = 0) (hwn : s.wno = r.wnoF s.ly) (hnw : s.nwm = r.nwmF s.ly s.lm) (hea : s.eas = r.easF s.ly) (hd : 1 ≤ s.d ∧ s.d ≤ 1000000) (hmo : 1 ≤ s.mo ∧ s.mo ≤ 12) (hy : 1 ≤ s.y ∧ s.y ≤ 9999) (hly : 1 ≤ s.ly ∧ s.ly ≤ 9999) (hfin : s.fin = false)
    (hn : ∀ o a' H' S', o = fix r s → o.fin = false → St F w0 S0 H0 it rb r l o a' B H' S' → GE Q .normal 1418 [(0, .pointer (some ⟨it, 0, none⟩)), (2, .pointer (some ⟨rb, 0, none⟩))] F w0 B H' S')
    (hq : ∀ o a' H' S', o = fix r s → o.fin = true → St F w0 S0 H0 it rb r l o a' B H' S' → GE Q .ret 1418 [] F w0 B H' S') : GC Go.Proofs.Tryz.prog (Go.Fr.part [1, 1, 0, 0, 1, 0, 1, 1, 1, 1, 1, 1, 1, 1] (Go.Fr.bodyOf Tryz.f60)) Q 1418 [(0, .pointer (some ⟨it, 0, none⟩)), (2, .pointer (some ⟨rb, 0, none⟩)), (42, .bool true)] F w0 B H S := by
  refine GC_seq ?_
  refine GC_region ?_
  refine GL_rd rfl (by decide) (rd_move rfl) ?_
  refine GL_rd rfl (by decide) (rd_move rfl) ?_
  refine GL_take rfl rfl ?_
  refine GL_rd rfl (by decide) (rd_move rfl) ?_
  refine GL_take rfl rfl ?_
  refine GL_rd rfl (by decide) (rd_nilCheck rfl) ?_
  refine GL_take rfl rfl ?_
  refine GL_rd rfl (by decide) (rd_fieldAddr (j := 2) (by kernel_rfl) rfl) ?_
  refine GL_take rfl rfl ?_
  refine GL_rd rfl (by decide) (rd_load 0 rfl st.hB st.h2 (by kernel_rfl) (by decide)) ?_
  refine GL_take rfl rfl ?_
  refine GL_rd rfl (by decide) (rd_gtr rfl rfl) ?_
  refine GL_rd rfl (by decide) (rd_pick rfl rfl rfl) ?_
  refine GL_nil ?_
  refine GE_then ?_
  refine GC_cond rfl (fun hc1 => ?_) (fun hc2 => ?_)
  · skip
    have h28 : 28 < s.d := of_decide_eq_true hc1
    refine GC_seq ?_
    refine GC_tail 8 (by kernel_rfl) (by kernel_rfl) ?_
    refine GT_rd rfl (by decide) (rd_move rfl) ?_
    refine GT_rd rfl (by decide) (rd_nilCheck rfl) ?_
    refine GT_rd rfl (by decide) (rd_fieldAddr (j := 1) (by kernel_rfl) rfl) ?_
    refine GT_rd rfl (by decide) (rd_load 0 rfl st.hB st.h1 (by kernel_rfl) (by decide)) ?_
    refine GT_rd rfl (by decide) (rd_move rfl) ?_
    refine GT_rd rfl (by decide) (rd_nilCheck rfl) ?_
    refine GT_rd rfl (by decide) (rd_fieldAddr (j := 0) (by kernel_rfl) rfl) ?_
    refine GT_rd rfl (by decide) (rd_load 0 rfl st.hB st.h0 (by kernel_rfl) (by decide)) ?_
    refine GT_nil ?_
    refine GL_at rfl (at_call_v (by decide) (by kernel_rfl) rfl (fun w_ s_ => daysIn_calls _ _ (by omega) (by omega) w_) ?_)
    refine GL_rd rfl (by decide) (rd_assign rfl) ?_
    refine GL_nil ?_
    refine GE_then ?_
    refine GC_seq ?_
    refine GC_region ?_
    refine GL_rd rfl (by decide) (rd_move rfl) ?_
    refine GL_rd rfl (by decide) (rd_nilCheck rfl) ?_
    refine GL_rd rfl (by decide) (rd_fieldAddr (j := 2) (by kernel_rfl) rfl) ?_
    refine GL_rd rfl (by decide) (rd_load 0 rfl st.hB st.h2 (by kernel_rfl) (by decide)) ?_
    refine GL_rd rfl (by decide) (rd_move rfl) ?_
    refine GL_rd rfl (by decide) (rd_gtr rfl rfl) ?_
    refine GL_nil ?_
    refine GE_then ?_
    refine GC_cond rfl (fun hc1 => ?_) (fun hc2 => ?_)
    · skip
      have hgt : Cal.mdays s.mo s.y < s.d := of_decide_eq_true hc1
      have hfix : fix r s = fixGo r s.d.toNat s := by unfold fix; rw [if_neg (by omega)]
      refine GC_seq ?_
      refine GC_block ?_
      refine GC_loop (ι := (Nat) × (It) × (List (Nat × Value))) (fun | ⟨n, s1, H1⟩ => n) (fun | ⟨n, s1, H1⟩ => (fixGo r n s1 = fixGo r s.d.toNat s) ∧ (1 ≤ s1.d ∧ s1.d ≤ n ∧ n ≤ 1000000) ∧ (1 ≤ s1.mo ∧ s1.mo ≤ 12) ∧ (1 ≤ s1.y ∧ s1.y ≤ 9999) ∧ (s1.ly = s.ly ∧ s1.lm = s.lm ∧ s1.wno = s.wno ∧ s1.nwm = s.nwm ∧ s1.eas = s.eas ∧ s1.fin = s.fin) ∧ (St F w0 S0 H0 it rb r l s1 a B H1 S)) (fun | ⟨n, s1, H1⟩ => [(0, .pointer (some ⟨it, 0, none⟩)), (2, .pointer (some ⟨rb, 0, none⟩)), (51, .int .i64 (Cal.mdays s1.mo s1.y))]) (fun | ⟨n, s1, H1⟩ => B) (fun | ⟨n, s1, H1⟩ => H1) (fun | ⟨n, s1, H1⟩ => S) ⟨s.d.toNat, s, H⟩ ⟨rfl, by omega, hmo, hy, ⟨rfl, rfl, rfl, rfl, rfl, rfl⟩, st⟩ (fun a k => k.cons rfl (k.cons rfl (k.cons rfl (k.nil)))) (fun w s => by exact s) ?_
      rintro ⟨n, s1, H1⟩ ⟨hgo, hnd, hmo1, hy1, hsm, hst⟩
      show GC _ _ _ _ [(0, .pointer (some ⟨it, 0, none⟩)), (2, .pointer (some ⟨rb, 0, none⟩)), (51, .int .i64 (Cal.mdays s1.mo s1.y))] _ _ (B) (H1) (S)
      obtain ⟨m, rfl⟩ : ∃ m, n = m + 1 := ⟨n - 1, by omega⟩
      have hmd := Cal.mdays_bd s1.mo s1.y
      have hfin1 : s1.fin = false := hsm.2.2.2.2.2.trans hfin
      refine GC_seq ?_
      refine GC_seq ?_
      refine GC_region ?_
      refine GL_rd rfl (by decide) (rd_move rfl) ?_
      refine GL_rd rfl (by decide) (rd_nilCheck rfl) ?_
      refine GL_rd rfl (by decide) (rd_fieldAddr (j := 2) (by kernel_rfl) rfl) ?_
      refine GL_rd rfl (by decide) (rd_load 0 rfl hst.hB hst.h2 (by kernel_rfl) (by decide)) ?_
      refine GL_rd rfl (by decide) (rd_move rfl) ?_
      refine GL_rd rfl (by decide) (rd_gtr rfl rfl) ?_
      refine GL_nil ?_
      refine GE_then ?_
      refine GC_cond rfl (fun hc1 => ?_) (fun hc2 => ?_)
      · skip
        have hgt1 : Cal.mdays s1.mo s1.y < s1.d := of_decide_eq_true hc1
        refine GC_skip ?_
        refine GE_then ?_
        refine GC_block ?_
        refine GC_seq ?_
        refine GC_region ?_
        refine GL_rd rfl (by decide) (rd_move rfl) ?_
        refine GL_rd rfl (by decide) (rd_nilCheck rfl) ?_
        refine GL_rd rfl (by decide) (rd_fieldAddr (j := 2) (by kernel_rfl) rfl) ?_
        refine GL_rd rfl (by decide) (rd_load 0 rfl hst.hB hst.h2 (by kernel_rfl) (by decide)) ?_
        refine GL_rd rfl (by decide) (rd_move rfl) ?_
        first
          | refine GL_rd rfl (by decide) (rd_sub_ rfl rfl (by omega)) ?_
          | refine GL_rd rfl (by decide) (rd_sub rfl rfl) ?_
        refine GL_rd rfl (by decide) (rd_nilCheck rfl) ?_
        refine GL_rd rfl (by decide) (rd_fieldAddr (j := 2) (by kernel_rfl) rfl) ?_
        refine GL_at rfl (at_store 0 rfl rfl hst.hB hst.h2 (by kernel_rfl) rfl (by decide) ?_)
        refine GL_nil ?_
        refine GE_then ?_
        refine GC_seq ?_
        refine GC_region ?_
        refine GL_rd rfl (by decide) (rd_move rfl) ?_
        refine GL_rd rfl (by decide) (rd_nilCheck rfl) ?_
        refine GL_rd rfl (by decide) (rd_fieldAddr (j := 1) (by kernel_rfl) rfl) ?_
        refine GL_rd rfl (by decide) (rd_load 0 rfl hst.hB hst.h1 (by kernel_rfl) (by decide)) ?_
        first
          | refine GL_rd rfl (by decide) (rd_add_ rfl rfl (by omega)) ?_
          | refine GL_rd rfl (by decide) (rd_add rfl rfl) ?_
        refine GL_rd rfl (by decide) (rd_nilCheck rfl) ?_
        refine GL_rd rfl (by decide) (rd_fieldAddr (j := 1) (by kernel_rfl) rfl) ?_
        refine GL_at rfl (at_store 0 rfl rfl hst.hB hst.h1 (by kernel_rfl) rfl (by decide) ?_)
        refine GL_nil ?_
        refine GE_then ?_
        refine GC_seq ?_
        refine GC_seq ?_
        refine GC_region ?_
        refine GL_rd rfl (by decide) (rd_move rfl) ?_
        refine GL_rd rfl (by decide) (rd_nilCheck rfl) ?_
        refine GL_rd rfl (by decide) (rd_fieldAddr (j := 1) (by kernel_rfl) rfl) ?_
        refine GL_rd rfl (by decide) (rd_load 0 rfl hst.hB rfl (by kernel_rfl) (by decide)) ?_
        refine GL_rd rfl (by decide) (rd_eql rfl rfl) ?_
        refine GL_nil ?_
        refine GE_then ?_
        refine GC_cond rfl (fun hc1 => ?_) (fun hc2 => ?_)
        · skip
          have h13 : s1.mo + 1 = 13 := beq_iff_eq.1 hc1
          refine GC_seq ?_
          refine GC_region ?_
          refine GL_rd rfl (by decide) (rd_move rfl) ?_
          refine GL_rd rfl (by decide) (rd_nilCheck rfl) ?_
          refine GL_rd rfl (by decide) (rd_fieldAddr (j := 1) (by kernel_rfl) rfl) ?_
          refine GL_at rfl (at_store 0 rfl rfl hst.hB rfl (by kernel_rfl) rfl (by decide) ?_)
          refine GL_nil ?_
          refine GE_then ?_
          refine GC_seq ?_
          refine GC_region ?_
          refine GL_rd rfl (by decide) (rd_move rfl) ?_
          refine GL_rd rfl (by decide) (rd_nilCheck rfl) ?_
          refine GL_rd rfl (by decide) (rd_fieldAddr (j := 0) (by kernel_rfl) rfl) ?_
          refine GL_rd rfl (by decide) (rd_load 0 rfl hst.hB hst.h0 (by kernel_rfl) (by decide)) ?_
          first
            | refine GL_rd rfl (by decide) (rd_add_ rfl rfl (by omega)) ?_
            | refine GL_rd rfl (by decide) (rd_add rfl rfl) ?_
          refine GL_rd rfl (by decide) (rd_nilCheck rfl) ?_
          refine GL_rd rfl (by decide) (rd_fieldAddr (j := 0) (by kernel_rfl) rfl) ?_
          refine GL_at rfl (at_store 0 rfl rfl hst.hB hst.h0 (by kernel_rfl) rfl (by decide) ?_)
          refine GL_nil ?_
          refine GE_then ?_
          refine GC_seq ?_
          refine GC_region ?_
          refine GL_rd rfl (by decide) (rd_move rfl) ?_
          refine GL_rd rfl (by decide) (rd_nilCheck rfl) ?_
          refine GL_rd rfl (by decide) (rd_fieldAddr (j := 0) (by kernel_rfl) rfl) ?_
          refine GL_rd rfl (by decide) (rd_load 0 rfl hst.hB rfl (by kernel_rfl) (by decide)) ?_
          refine GL_rd rfl (by decide) (rd_gtr rfl rfl) ?_
          refine GL_nil ?_
          refine GE_then ?_
          refine GC_cond rfl (fun hc1 => ?_) (fun hc2 => ?_)
          · skip
            have hbig : 9999 < s1.y + 1 := of_decide_eq_true hc1
            have hfg : fixGo r s.d.toNat s = { s1 with d := s1.d - Cal.mdays s1.mo s1.y, mo := 1, y := s1.y + 1, fin := true } := by rw [← hgo]; simp only [fixGo]; rw [if_neg (by omega), if_pos h13, if_pos hbig]
            refine GC_seq ?_
            refine GC_region ?_
            refine GL_rd rfl (by decide) (rd_move rfl) ?_
            refine GL_rd rfl (by decide) (rd_move rfl) ?_
            refine GL_rd rfl (by decide) (rd_nilCheck rfl) ?_
            refine GL_rd rfl (by decide) (rd_fieldAddr (j := 24) (by kernel_rfl) rfl) ?_
            refine GL_rd rfl (by decide) (rd_load 0 rfl hst.hB hst.h24 (by kernel_rfl) (by decide)) ?_
            refine GL_rd rfl (by decide) (rd_nilCheck rfl) ?_
            refine GL_rd rfl (by decide) (rd_fieldAddr (j := 59) (by kernel_rfl) rfl) ?_
            refine GL_at rfl (at_store 1 rfl rfl hst.hR hst.r59 (by kernel_rfl) rfl (by decide) ?_)
            refine GL_nil ?_
            refine GE_then ?_
            refine GC_seq ?_
            refine GC_region ?_
            refine GL_rd rfl (by decide) (rd_move rfl) ?_
            refine GL_rd rfl (by decide) (rd_nilCheck rfl) ?_
            refine GL_rd rfl (by decide) (rd_fieldAddr (j := 28) (by kernel_rfl) rfl) ?_
            refine GL_at rfl (at_store 0 rfl rfl hst.hB hst.h28 (by kernel_rfl) rfl (by decide) ?_)
            refine GL_nil ?_
            refine GE_then ?_
            refine GC_ret ?_
            refine GE_then_ret ?_
            refine GE_in_ret ?_
            refine GE_then_ret ?_
            refine GE_in_ret ?_
            refine GE_then_ret ?_
            refine GE_to (fun a q => q.nil) (fun w s => s) (hq ({ s1 with d := s1.d - Cal.mdays s1.mo s1.y, mo := 1, y := s1.y + 1, fin := true }) ({ a with ln := .int .i64 s1.total }) _ _ (hfg.symm.trans hfix.symm) (rfl) ⟨hst.hB, hst.hR, (by repeat (first | exact hst.lim | apply Lim.consH _ (by decide) (by decide) | apply Lim.consS _ (by decide))), rfl, rfl, rfl, hst.h3, hst.h4, hst.h5, hst.h6, hst.h7, hst.h8, hst.h9, hst.h10, hst.h11, hst.h12, hst.h13, hst.h14, hst.h15, hst.h16, hst.h17, hst.h18, hst.h19, hst.h20, hst.h21, hst.h22, hst.h23, hst.h24, hst.h25, hst.h26, hst.h27, rfl, hst.h29, hst.hS0, hst.hS1, hst.hS2, hst.hS3, hst.hS4, hst.hS5, hst.hS6, hst.hS7, hst.hS8, hst.hS9, hst.hS10, hst.hp20, hst.hp21, hst.hp22, hst.c6, (fun k_ h1_ h2_ => Eq.trans (by repeat (first | rfl | rw [lkp_cons_ne (by omega)])) (hst.frS k_ h1_ h2_)), (fun k_ h1_ h2_ o_ ho_ => Eq.trans (by repeat (first | rfl | rw [lkp_ky_ne (by omega) ho_ (by decide)])) (hst.frH k_ h1_ h2_ o_ ho_)), hst.hq0, hst.hq1, hst.r38, hst.r39, hst.r40, hst.r41, hst.r42, hst.r44, hst.r45, hst.r46, hst.r47, hst.r48, hst.r49, hst.r50, hst.r51, hst.r52, hst.r53, hst.r54, hst.r55, hst.r56, hst.r57, rfl, (hst.hI46.to (fun k_ h1_ h2_ => by repeat (first | rfl | rw [lkp_cons_ne (by omega)]))), (hst.hI47.to (fun k_ h1_ h2_ => by repeat (first | rfl | rw [lkp_cons_ne (by omega)]))), (hst.hI48.to (fun k_ h1_ h2_ => by repeat (first | rfl | rw [lkp_cons_ne (by omega)]))), (hst.hI49.to (fun k_ h1_ h2_ => by repeat (first | rfl | rw [lkp_cons_ne (by omega)]))), (hst.hI50.to (fun k_ h1_ h2_ => by repeat (first | rfl | rw [lkp_cons_ne (by omega)]))), (hst.hI51.to (fun k_ h1_ h2_ => by repeat (first | rfl | rw [lkp_cons_ne (by omega)]))), (hst.hI52.to (fun k_ h1_ h2_ => by repeat (first | rfl | rw [lkp_cons_ne (by omega)]))), (hst.hI54.to (fun k_ h1_ h2_ => by repeat (first | rfl | rw [lkp_cons_ne (by omega)]))), (hst.hI55.to (fun k_ h1_ h2_ => by repeat (first | rfl | rw [lkp_cons_ne (by omega)]))), (hst.hI56.to (fun k_ h1_ h2_ => by repeat (first | rfl | rw [lkp_cons_ne (by omega)]))), (hst.hI57.to (fun k_ h1_ h2_ => by repeat (first | rfl | rw [lkp_cons_ne (by omega)]))), hst.hl46, hst.hl47, hst.hl48, hst.hl49, hst.hl50, hst.hl51, hst.hl52, hst.hl54, hst.hl55, hst.hl56, hst.hl57⟩)
          · skip
            have hbig : ¬ 9999 < s1.y + 1 := of_decide_eq_false hc2
            have hgo1 : fixGo r m ({ s1 with d := s1.d - Cal.mdays s1.mo s1.y, mo := 1, y := s1.y + 1 }) = fixGo r s.d.toNat s := by rw [← hgo]; conv => rhs; simp only [fixGo]; rw [if_neg (by omega), if_pos h13, if_neg hbig]
            refine GC_skip ?_
            refine GE_then ?_
            refine GC_tail 8 (by kernel_rfl) (by kernel_rfl) ?_
            refine GT_rd rfl (by decide) (rd_move rfl) ?_
            refine GT_rd rfl (by decide) (rd_nilCheck rfl) ?_
            refine GT_rd rfl (by decide) (rd_fieldAddr (j := 1) (by kernel_rfl) rfl) ?_
            refine GT_rd rfl (by decide) (rd_load 0 rfl hst.hB rfl (by kernel_rfl) (by decide)) ?_
            refine GT_rd rfl (by decide) (rd_move rfl) ?_
            refine GT_rd rfl (by decide) (rd_nilCheck rfl) ?_
            refine GT_rd rfl (by decide) (rd_fieldAddr (j := 0) (by kernel_rfl) rfl) ?_
            refine GT_rd rfl (by decide) (rd_load 0 rfl hst.hB rfl (by kernel_rfl) (by decide)) ?_
            refine GT_nil ?_
            refine GL_at rfl (at_call_v (by decide) (by kernel_rfl) rfl (fun w_ s_ => daysIn_calls _ _ (by omega) (by omega) w_) ?_)
            refine GL_rd rfl (by decide) (rd_assign rfl) ?_
            refine GL_nil ?_
            refine GE_in ?_
            refine GE_back ⟨m, ({ s1 with d := s1.d - Cal.mdays s1.mo s1.y, mo := 1, y := s1.y + 1 } : It), (ky 0 0, .int .i64 (s1.y + 1)) :: (ky 0 1, .int .i64 1) :: (ky 0 1, .int .i64 (s1.mo + 1)) :: (ky 0 2, .int .i64 (s1.d - Cal.mdays s1.mo s1.y)) :: H1⟩ (by simp only; omega) ⟨hgo1, by simp only; omega, by simp only; omega, by simp only; omega, hsm, ⟨hst.hB, hst.hR, (by repeat (first | exact hst.lim | apply Lim.consH _ (by decide) (by decide) | apply Lim.consS _ (by decide))), rfl, rfl, rfl, hst.h3, hst.h4, hst.h5, hst.h6, hst.h7, hst.h8, hst.h9, hst.h10, hst.h11, hst.h12, hst.h13, hst.h14, hst.h15, hst.h16, hst.h17, hst.h18, hst.h19, hst.h20, hst.h21, hst.h22, hst.h23, hst.h24, hst.h25, hst.h26, hst.h27, hst.h28, hst.h29, hst.hS0, hst.hS1, hst.hS2, hst.hS3, hst.hS4, hst.hS5, hst.hS6, hst.hS7, hst.hS8, hst.hS9, hst.hS10, hst.hp20, hst.hp21, hst.hp22, hst.c6, (fun k_ h1_ h2_ => Eq.trans (by repeat (first | rfl | rw [lkp_cons_ne (by omega)])) (hst.frS k_ h1_ h2_)), (fun k_ h1_ h2_ o_ ho_ => Eq.trans (by repeat (first | rfl | rw [lkp_ky_ne (by omega) ho_ (by decide)])) (hst.frH k_ h1_ h2_ o_ ho_)), hst.hq0, hst.hq1, hst.r38, hst.r39, hst.r40, hst.r41, hst.r42, hst.r44, hst.r45, hst.r46, hst.r47, hst.r48, hst.r49, hst.r50, hst.r51, hst.r52, hst.r53, hst.r54, hst.r55, hst.r56, hst.r57, hst.r59, (hst.hI46.to (fun k_ h1_ h2_ => by repeat (first | rfl | rw [lkp_cons_ne (by omega)]))), (hst.hI47.to (fun k_ h1_ h2_ => by repeat (first | rfl | rw [lkp_cons_ne (by omega)]))), (hst.hI48.to (fun k_ h1_ h2_ => by repeat (first | rfl | rw [lkp_cons_ne (by omega)]))), (hst.hI49.to (fun k_ h1_ h2_ => by repeat (first | rfl | rw [lkp_cons_ne (by omega)]))), (hst.hI50.to (fun k_ h1_ h2_ => by repeat (first | rfl | rw [lkp_cons_ne (by omega)]))), (hst.hI51.to (fun k_ h1_ h2_ => by repeat (first | rfl | rw [lkp_cons_ne (by omega)]))), (hst.hI52.to (fun k_ h1_ h2_ => by repeat (first | rfl | rw [lkp_cons_ne (by omega)]))), (hst.hI54.to (fun k_ h1_ h2_ => by repeat (first | rfl | rw [lkp_cons_ne (by omega)]))), (hst.hI55.to (fun k_ h1_ h2_ => by repeat (first | rfl | rw [lkp_cons_ne (by omega)]))), (hst.hI56.to (fun k_ h1_ h2_ => by repeat (first | rfl | rw [lkp_cons_ne (by omega)]))), (hst.hI57.to (fun k_ h1_ h2_ => by repeat (first | rfl | rw [lkp_cons_ne (by omega)]))), hst.hl46, hst.hl47, hst.hl48, hst.hl49, hst.hl50, hst.hl51, hst.hl52, hst.hl54, hst.hl55, hst.hl56, hst.hl57⟩⟩ (fun a k => k.cons rfl (k.cons rfl (k.cons rfl (k.nil)))) (fun w s => by exact s)
        · skip
          have h13 : s1.mo + 1 ≠ 13 := beq_eq_false_iff_ne.1 hc2
          have hgo1 : fixGo r m ({ s1 with d := s1.d - Cal.mdays s1.mo s1.y, mo := s1.mo + 1 }) = fixGo r s.d.toNat s := by rw [← hgo]; conv => rhs; simp only [fixGo]; rw [if_neg (by omega), if_neg h13]
          refine GC_skip ?_
          refine GE_then ?_
          refine GC_tail 8 (by kernel_rfl) (by kernel_rfl) ?_
          refine GT_rd rfl (by decide) (rd_move rfl) ?_
          refine GT_rd rfl (by decide) (rd_nilCheck rfl) ?_
          refine GT_rd rfl (by decide) (rd_fieldAddr (j := 1) (by kernel_rfl) rfl) ?_
          refine GT_rd rfl (by decide) (rd_load 0 rfl hst.hB rfl (by kernel_rfl) (by decide)) ?_
          refine GT_rd rfl (by decide) (rd_move rfl) ?_
          refine GT_rd rfl (by decide) (rd_nilCheck rfl) ?_
          refine GT_rd rfl (by decide) (rd_fieldAddr (j := 0) (by kernel_rfl) rfl) ?_
          refine GT_rd rfl (by decide) (rd_load 0 rfl hst.hB hst.h0 (by kernel_rfl) (by decide)) ?_
          refine GT_nil ?_
          refine GL_at rfl (at_call_v (by decide) (by kernel_rfl) rfl (fun w_ s_ => daysIn_calls _ _ (by omega) (by omega) w_) ?_)
          refine GL_rd rfl (by decide) (rd_assign rfl) ?_
          refine GL_nil ?_
          refine GE_in ?_
          refine GE_back ⟨m, ({ s1 with d := s1.d - Cal.mdays s1.mo s1.y, mo := s1.mo + 1 } : It), (ky 0 1, .int .i64 (s1.mo + 1)) :: (ky 0 2, .int .i64 (s1.d - Cal.mdays s1.mo s1.y)) :: H1⟩ (by simp only; omega) ⟨hgo1, by simp only; omega, by simp only; omega, hy1, hsm, ⟨hst.hB, hst.hR, (by repeat (first | exact hst.lim | apply Lim.consH _ (by decide) (by decide) | apply Lim.consS _ (by decide))), hst.h0, rfl, rfl, hst.h3, hst.h4, hst.h5, hst.h6, hst.h7, hst.h8, hst.h9, hst.h10, hst.h11, hst.h12, hst.h13, hst.h14, hst.h15, hst.h16, hst.h17, hst.h18, hst.h19, hst.h20, hst.h21, hst.h22, hst.h23, hst.h24, hst.h25, hst.h26, hst.h27, hst.h28, hst.h29, hst.hS0, hst.hS1, hst.hS2, hst.hS3, hst.hS4, hst.hS5, hst.hS6, hst.hS7, hst.hS8, hst.hS9, hst.hS10, hst.hp20, hst.hp21, hst.hp22, hst.c6, (fun k_ h1_ h2_ => Eq.trans (by repeat (first | rfl | rw [lkp_cons_ne (by omega)])) (hst.frS k_ h1_ h2_)), (fun k_ h1_ h2_ o_ ho_ => Eq.trans (by repeat (first | rfl | rw [lkp_ky_ne (by omega) ho_ (by decide)])) (hst.frH k_ h1_ h2_ o_ ho_)), hst.hq0, hst.hq1, hst.r38, hst.r39, hst.r40, hst.r41, hst.r42, hst.r44, hst.r45, hst.r46, hst.r47, hst.r48, hst.r49, hst.r50, hst.r51, hst.r52, hst.r53, hst.r54, hst.r55, hst.r56, hst.r57, hst.r59, (hst.hI46.to (fun k_ h1_ h2_ => by repeat (first | rfl | rw [lkp_cons_ne (by omega)]))), (hst.hI47.to (fun k_ h1_ h2_ => by repeat (first | rfl | rw [lkp_cons_ne (by omega)]))), (hst.hI48.to (fun k_ h1_ h2_ => by repeat (first | rfl | rw [lkp_cons_ne (by omega)]))), (hst.hI49.to (fun k_ h1_ h2_ => by repeat (first | rfl | rw [lkp_cons_ne (by omega)]))), (hst.hI50.to (fun k_ h1_ h2_ => by repeat (first | rfl | rw [lkp_cons_ne (by omega)]))), (hst.hI51.to (fun k_ h1_ h2_ => by repeat (first | rfl | rw [lkp_cons_ne (by omega)]))), (hst.hI52.to (fun k_ h1_ h2_ => by repeat (first | rfl | rw [lkp_cons_ne (by omega)]))), (hst.hI54.to (fun k_ h1_ h2_ => by repeat (first | rfl | rw [lkp_cons_ne (by omega)]))), (hst.hI55.to (fun k_ h1_ h2_ => by repeat (first | rfl | rw [lkp_cons_ne (by omega)]))), (hst.hI56.to (fun k_ h1_ h2_ => by repeat (first | rfl | rw [lkp_cons_ne (by omega)]))), (hst.hI57.to (fun k_ h1_ h2_ => by repeat (first | rfl | rw [lkp_cons_ne (by omega)]))), hst.hl46, hst.hl47, hst.hl48, hst.hl49, hst.hl50, hst.hl51, hst.hl52, hst.hl54, hst.hl55, hst.hl56, hst.hl57⟩⟩ (fun a k => k.cons rfl (k.cons rfl (k.cons rfl (k.nil)))) (fun w s => by exact s)
      · skip
        have hgt1 : ¬ Cal.mdays s1.mo s1.y < s1.d := of_decide_eq_false hc2
        have hfg : fixGo r s.d.toNat s = reb r s1 s1.y s1.mo := by rw [← hgo]; simp only [fixGo]; rw [if_pos (by omega)]
        refine GC_exit ?_
        refine GE_then_exit ?_
        refine GE_then_exit ?_
        refine GE_in_self ?_
        refine GE_then ?_
        refine GC_tail 11 (by kernel_rfl) (by kernel_rfl) ?_
        refine GT_rd rfl (by decide) (rd_move rfl) ?_
        refine GT_rd rfl (by decide) (rd_nilCheck rfl) ?_
        refine GT_rd rfl (by decide) (rd_fieldAddr (j := 7) (by kernel_rfl) rfl) ?_
        refine GT_rd rfl (by decide) (rd_move rfl) ?_
        refine GT_rd rfl (by decide) (rd_nilCheck rfl) ?_
        refine GT_rd rfl (by decide) (rd_fieldAddr (j := 0) (by kernel_rfl) rfl) ?_
        refine GT_rd rfl (by decide) (rd_load 0 rfl hst.hB hst.h0 (by kernel_rfl) (by decide)) ?_
        refine GT_rd rfl (by decide) (rd_move rfl) ?_
        refine GT_rd rfl (by decide) (rd_nilCheck rfl) ?_
        refine GT_rd rfl (by decide) (rd_fieldAddr (j := 1) (by kernel_rfl) rfl) ?_
        refine GT_rd rfl (by decide) (rd_load 0 rfl hst.hB hst.h1 (by kernel_rfl) (by decide)) ?_
        refine GT_nil ?_
        refine GL_at rfl (at_call_reb (it := it) (rb := rb) (r := r) (l := l) (s := reb r (s1) s1.y s1.mo) (by decide) (by kernel_rfl) rfl (rebuild_st hst hr hw0 hd0 he0 (by rw [hsm.2.2.1, hsm.1]; exact hwn) (by rw [hsm.2.2.2.1, hsm.1, hsm.2.1]; exact hnw) (by rw [hsm.2.2.2.2.1, hsm.1]; exact hea) (by omega)) (fun a2 H2 S2 st2 => ?_))
        refine GL_nil ?_
        refine GE_to (fun a k => k.cons rfl (k.cons rfl (k.nil))) (fun w s => s) (hn (reb r s1 s1.y s1.mo) (a2) _ _ (hfg.symm.trans hfix.symm) (hfin1) st2)
    · skip
      have hgt : ¬ Cal.mdays s.mo s.y < s.d := of_decide_eq_false hc2
      have hfix : fix r s = s := by unfold fix; rw [if_pos (.inr (by omega))]
      refine GC_skip ?_
      refine GE_to (fun a k => k.cons rfl (k.cons rfl (k.nil))) (fun w s => s) (hn (s) (a) _ _ (hfix.symm) (hfin) st)
  · skip
    have h28 : ¬ 28 < s.d := of_decide_eq_false hc2
    have hfix : fix r s = s := by unfold fix; rw [if_pos (.inl (by omega))]
    refine GC_skip ?_
    refine GE_to (fun a k => k.cons rfl (k.cons rfl (k.nil))) (fun w s => s) (hn (s) (a) _ _ (hfix.symm) (hfin) st)
theorem adv_yearly {Q : Exit → Act → World → Prop} {S0 : List (Nat × Slc)} {H0 : List (Nat × Value)} {r : Ru} {l : Ra} {it rb : Nat} {s : It} {a : Ad} (st : St F w0 S0 H0 it rb r l s a B H S) (hr : RuOk r) (hw0 : r.weekno.length = 0) (hd0 : r.nwd.length = 0) (he0 : r.easter.length = 0) (hwn : s.wno = r.wnoF s.ly) (hnw : s.nwm = r.nwmF s.ly s.lm) (hea : s.eas = r.easF s.ly) (hy : 1 ≤ s.y ∧ s.y ≤ 9999) (hmo : 1 ≤ s.mo ∧ s.mo ≤ 12) (hd : 1 ≤ s.d ∧ s.d ≤ 31) (hwd : 0 ≤ s.wd ∧ s.wd ≤ 6) (hly : 1 ≤ s.ly ∧ s.ly ≤ 9999) (hfin : s.fin = false) (hfr : r.freq = 0) {flt : Bool}
    (hn : ∀ o a' H' S', o = adv r flt s → o.fin = false → St F w0 S0 H0 it rb r l o a' B H' S' → GE Q .normal 1418 [(0, .pointer (some ⟨it, 0, none⟩)), (2, .pointer (some ⟨rb, 0, none⟩))] F w0 B H' S')
    (hq : ∀ o a' H' S', o = adv r flt s → o.fin = true → St F w0 S0 H0 it rb r l o a' B H' S' → GE Q .ret 1418 [] F w0 B H' S') : GC Go.Proofs.Tryz.prog (Go.Fr.part [1, 1, 0, 0, 1, 0, 1, 1, 1, 1, 1, 1] (Go.Fr.bodyOf Tryz.f60)) Q 1418 [(0, .pointer (some ⟨it, 0, none⟩)), (2, .pointer (some ⟨rb, 0, none⟩)), (6, .bool flt)] F w0 B H S := by
  have hiv := hr.interval
  have hwk := hr.wkst
  refine GC_seq ?_
  refine GC_region ?_
  refine GL_rd rfl (by decide) (rd_assign rfl) ?_
  refine GL_nil ?_
  refine GE_then ?_
  refine GC_seq ?_
  refine GC_seq ?_
  refine GC_region ?_
  refine GL_rd rfl (by decide) (rd_move rfl) ?_
  refine GL_rd rfl (by decide) (rd_nilCheck rfl) ?_
  refine GL_rd rfl (by decide) (rd_fieldAddr (j := 38) (by kernel_rfl) rfl) ?_
  refine GL_rd rfl (by decide) (rd_load 1 rfl st.hR st.r38 (by kernel_rfl) (by decide)) ?_
  refine GL_rd rfl (by decide) ((rd_eql rfl rfl).to (v' := .bool true) (congrArg Value.bool (by rw [hfr]; rfl))) ?_
  refine GL_nil ?_
  refine GE_then ?_
  refine GC_is_true rfl rfl ?_
  refine GC_seq ?_
  refine GC_tail 11 (by kernel_rfl) (by kernel_rfl) ?_
  refine GT_rd rfl (by decide) (rd_move rfl) ?_
  refine GT_rd rfl (by decide) (rd_nilCheck rfl) ?_
  refine GT_rd rfl (by decide) (rd_fieldAddr (j := 0) (by kernel_rfl) rfl) ?_
  refine GT_rd rfl (by decide) (rd_load 0 rfl st.hB st.h0 (by kernel_rfl) (by decide)) ?_
  refine GT_rd rfl (by decide) (rd_move rfl) ?_
  refine GT_rd rfl (by decide) (rd_nilCheck rfl) ?_
  refine GT_rd rfl (by decide) (rd_fieldAddr (j := 41) (by kernel_rfl) rfl) ?_
  refine GT_rd rfl (by decide) (rd_load 1 rfl st.hR st.r41 (by kernel_rfl) (by decide)) ?_
  first
    | refine GT_rd rfl (by decide) (rd_add_ rfl rfl (by omega)) ?_
    | refine GT_rd rfl (by decide) (rd_add rfl rfl) ?_
  refine GT_rd rfl (by decide) (rd_nilCheck rfl) ?_
  refine GT_rd rfl (by decide) (rd_fieldAddr (j := 0) (by kernel_rfl) rfl) ?_
  refine GT_nil ?_
  refine GL_at rfl (at_store 0 rfl rfl st.hB st.h0 (by kernel_rfl) rfl (by decide) ?_)
  refine GL_nil ?_
  refine GE_then ?_
  refine GC_seq ?_
  refine GC_seq ?_
  refine GC_region ?_
  refine GL_rd rfl (by decide) (rd_move rfl) ?_
  refine GL_rd rfl (by decide) (rd_nilCheck rfl) ?_
  refine GL_rd rfl (by decide) (rd_fieldAddr (j := 0) (by kernel_rfl) rfl) ?_
  refine GL_rd rfl (by decide) (rd_load 0 rfl st.hB rfl (by kernel_rfl) (by decide)) ?_
  refine GL_rd rfl (by decide) (rd_gtr rfl rfl) ?_
  refine GL_nil ?_
  refine GE_then ?_
  refine GC_cond rfl (fun hc1 => ?_) (fun hc2 => ?_)
  · skip
    have hbig : 9999 < s.y + r.interval := of_decide_eq_true hc1
    have hadv : adv r flt s = { s with y := s.y + r.interval, fin := true } := by unfold adv; rw [if_pos hfr, if_pos hbig]
    refine GC_seq ?_
    refine GC_region ?_
    refine GL_rd rfl (by decide) (rd_move rfl) ?_
    refine GL_rd rfl (by decide) (rd_move rfl) ?_
    refine GL_rd rfl (by decide) (rd_nilCheck rfl) ?_
    refine GL_rd rfl (by decide) (rd_fieldAddr (j := 24) (by kernel_rfl) rfl) ?_
    refine GL_rd rfl (by decide) (rd_load 0 rfl st.hB st.h24 (by kernel_rfl) (by decide)) ?_
    refine GL_rd rfl (by decide) (rd_nilCheck rfl) ?_
    refine GL_rd rfl (by decide) (rd_fieldAddr (j := 59) (by kernel_rfl) rfl) ?_
    refine GL_at rfl (at_store 1 rfl rfl st.hR st.r59 (by kernel_rfl) rfl (by decide) ?_)
    refine GL_nil ?_
    refine GE_then ?_
    refine GC_seq ?_
    refine GC_region ?_
    refine GL_rd rfl (by decide) (rd_move rfl) ?_
    refine GL_rd rfl (by decide) (rd_nilCheck rfl) ?_
    refine GL_rd rfl (by decide) (rd_fieldAddr (j := 28) (by kernel_rfl) rfl) ?_
    refine GL_at rfl (at_store 0 rfl rfl st.hB st.h28 (by kernel_rfl) rfl (by decide) ?_)
    refine GL_nil ?_
    refine GE_then ?_
    refine GC_ret ?_
    refine GE_then_ret ?_
    refine GE_then_ret ?_
    refine GE_to (fun a q => q.nil) (fun w s => s) (hq ({ s with y := s.y + r.interval, fin := true }) ({ a with ln := .int .i64 s.total }) _ _ (hadv.symm) (rfl) ⟨st.hB, st.hR, (by repeat (first | exact st.lim | apply Lim.consH _ (by decide) (by decide) | apply Lim.consS _ (by decide))), rfl, st.h1, st.h2, st.h3, st.h4, st.h5, st.h6, st.h7, st.h8, st.h9, st.h10, st.h11, st.h12, st.h13, st.h14, st.h15, st.h16, st.h17, st.h18, st.h19, st.h20, st.h21, st.h22, st.h23, st.h24, st.h25, st.h26, st.h27, rfl, st.h29, st.hS0, st.hS1, st.hS2, st.hS3, st.hS4, st.hS5, st.hS6, st.hS7, st.hS8, st.hS9, st.hS10, st.hp20, st.hp21, st.hp22, st.c6, (fun k_ h1_ h2_ => Eq.trans (by repeat (first | rfl | rw [lkp_cons_ne (by omega)])) (st.frS k_ h1_ h2_)), (fun k_ h1_ h2_ o_ ho_ => Eq.trans (by repeat (first | rfl | rw [lkp_ky_ne (by omega) ho_ (by decide)])) (st.frH k_ h1_ h2_ o_ ho_)), st.hq0, st.hq1, st.r38, st.r39, st.r40, st.r41, st.r42, st.r44, st.r45, st.r46, st.r47, st.r48, st.r49, st.r50, st.r51, st.r52, st.r53, st.r54, st.r55, st.r56, st.r57, rfl, (st.hI46.to (fun k_ h1_ h2_ => by repeat (first | rfl | rw [lkp_cons_ne (by omega)]))), (st.hI47.to (fun k_ h1_ h2_ => by repeat (first | rfl | rw [lkp_cons_ne (by omega)]))), (st.hI48.to (fun k_ h1_ h2_ => by repeat (first | rfl | rw [lkp_cons_ne (by omega)]))), (st.hI49.to (fun k_ h1_ h2_ => by repeat (first | rfl | rw [lkp_cons_ne (by omega)]))), (st.hI50.to (fun k_ h1_ h2_ => by repeat (first | rfl | rw [lkp_cons_ne (by omega)]))), (st.hI51.to (fun k_ h1_ h2_ => by repeat (first | rfl | rw [lkp_cons_ne (by omega)]))), (st.hI52.to (fun k_ h1_ h2_ => by repeat (first | rfl | rw [lkp_cons_ne (by omega)]))), (st.hI54.to (fun k_ h1_ h2_ => by repeat (first | rfl | rw [lkp_cons_ne (by omega)]))), (st.hI55.to (fun k_ h1_ h2_ => by repeat (first | rfl | rw [lkp_cons_ne (by omega)]))), (st.hI56.to (fun k_ h1_ h2_ => by repeat (first | rfl | rw [lkp_cons_ne (by omega)]))), (st.hI57.to (fun k_ h1_ h2_ => by repeat (first | rfl | rw [lkp_cons_ne (by omega)]))), st.hl46, st.hl47, st.hl48, st.hl49, st.hl50, st.hl51, st.hl52, st.hl54, st.hl55, st.hl56, st.hl57⟩)
  · skip
    have hbig : ¬ 9999 < s.y + r.interval := of_decide_eq_false hc2
    have hadv : adv r flt s = reb r { s with y := s.y + r.interval } (s.y + r.interval) s.mo := by unfold adv; rw [if_pos hfr, if_neg hbig]
    refine GC_skip ?_
    refine GE_then ?_
    refine GC_tail 11 (by kernel_rfl) (by kernel_rfl) ?_
    refine GT_rd rfl (by decide) (rd_move rfl) ?_
    refine GT_rd rfl (by decide) (rd_nilCheck rfl) ?_
    refine GT_rd rfl (by decide) (rd_fieldAddr (j := 7) (by kernel_rfl) rfl) ?_
    refine GT_rd rfl (by decide) (rd_move rfl) ?_
    refine GT_rd rfl (by decide) (rd_nilCheck rfl) ?_
    refine GT_rd rfl (by decide) (rd_fieldAddr (j := 0) (by kernel_rfl) rfl) ?_
    refine GT_rd rfl (by decide) (rd_load 0 rfl st.hB rfl (by kernel_rfl) (by decide)) ?_
    refine GT_rd rfl (by decide) (rd_move rfl) ?_
    refine GT_rd rfl (by decide) (rd_nilCheck rfl) ?_
    refine GT_rd rfl (by decide) (rd_fieldAddr (j := 1) (by kernel_rfl) rfl) ?_
    refine GT_rd rfl (by decide) (rd_load 0 rfl st.hB st.h1 (by kernel_rfl) (by decide)) ?_
    refine GT_nil ?_
    refine GL_at rfl (at_call_reb (it := it) (rb := rb) (r := r) (l := l) (s := reb r ({ s with y := s.y + r.interval }) (s.y + r.interval) s.mo) (by decide) (by kernel_rfl) rfl (rebuild_st (⟨st.hB, st.hR, (by repeat (first | exact st.lim | apply Lim.consH _ (by decide) (by decide) | apply Lim.consS _ (by decide))), rfl, st.h1, st.h2, st.h3, st.h4, st.h5, st.h6, st.h7, st.h8, st.h9, st.h10, st.h11, st.h12, st.h13, st.h14, st.h15, st.h16, st.h17, st.h18, st.h19, st.h20, st.h21, st.h22, st.h23, st.h24, st.h25, st.h26, st.h27, st.h28, st.h29, st.hS0, st.hS1, st.hS2, st.hS3, st.hS4, st.hS5, st.hS6, st.hS7, st.hS8, st.hS9, st.hS10, st.hp20, st.hp21, st.hp22, st.c6, (fun k_ h1_ h2_ => Eq.trans (by repeat (first | rfl | rw [lkp_cons_ne (by omega)])) (st.frS k_ h1_ h2_)), (fun k_ h1_ h2_ o_ ho_ => Eq.trans (by repeat (first | rfl | rw [lkp_ky_ne (by omega) ho_ (by decide)])) (st.frH k_ h1_ h2_ o_ ho_)), st.hq0, st.hq1, st.r38, st.r39, st.r40, st.r41, st.r42, st.r44, st.r45, st.r46, st.r47, st.r48, st.r49, st.r50, st.r51, st.r52, st.r53, st.r54, st.r55, st.r56, st.r57, st.r59, (st.hI46.to (fun k_ h1_ h2_ => by repeat (first | rfl | rw [lkp_cons_ne (by omega)]))), (st.hI47.to (fun k_ h1_ h2_ => by repeat (first | rfl | rw [lkp_cons_ne (by omega)]))), (st.hI48.to (fun k_ h1_ h2_ => by repeat (first | rfl | rw [lkp_cons_ne (by omega)]))), (st.hI49.to (fun k_ h1_ h2_ => by repeat (first | rfl | rw [lkp_cons_ne (by omega)]))), (st.hI50.to (fun k_ h1_ h2_ => by repeat (first | rfl | rw [lkp_cons_ne (by omega)]))), (st.hI51.to (fun k_ h1_ h2_ => by repeat (first | rfl | rw [lkp_cons_ne (by omega)]))), (st.hI52.to (fun k_ h1_ h2_ => by repeat (first | rfl | rw [lkp_cons_ne (by omega)]))), (st.hI54.to (fun k_ h1_ h2_ => by repeat (first | rfl | rw [lkp_cons_ne (by omega)]))), (st.hI55.to (fun k_ h1_ h2_ => by repeat (first | rfl | rw [lkp_cons_ne (by omega)]))), (st.hI56.to (fun k_ h1_ h2_ => by repeat (first | rfl | rw [lkp_cons_ne (by omega)]))), (st.hI57.to (fun k_ h1_ h2_ => by repeat (first | rfl | rw [lkp_cons_ne (by omega)]))), st.hl46, st.hl47, st.hl48, st.hl49, st.hl50, st.hl51, st.hl52, st.hl54, st.hl55, st.hl56, st.hl57⟩ : St F w0 S0 H0 it rb r l { s with y := s.y + r.interval } a B ((ky 0 0, .int .i64 (s.y + r.interval)) :: H) S) hr hw0 hd0 he0 hwn hnw hea (by omega)) (fun a2 H2 S2 st2 => ?_))
    refine GL_nil ?_
    refine GE_then ?_
    refine GC_seq ?_
    refine GC_region ?_
    refine GL_rd rfl (by decide) (rd_move rfl) ?_
    refine GL_rd rfl (by decide) (rd_move rfl) ?_
    refine GL_pass (by decide) rfl rfl (by decide) ?_
    refine GL_pass (by decide) rfl rfl (by decide) ?_
    refine GL_pass (by decide) rfl rfl (by decide) ?_
    refine GL_pass (by decide) rfl rfl (by decide) ?_
    refine GL_pass (by decide) rfl rfl (by decide) ?_
    refine GL_rd rfl (by decide) (rd_pick rfl rfl rfl) ?_
    refine GL_nil ?_
    refine GE_then ?_
    refine GC_is_false rfl rfl ?_
    refine GC_skip ?_
    refine GE_to (fun a k => k.cons rfl (k.cons rfl (k.nil))) (fun w s => s) (hn (reb r { s with y := s.y + r.interval } (s.y + r.interval) s.mo) (a2) _ _ (hadv.symm) (hfin) st2)
theorem adv_daily {Q : Exit → Act → World → Prop} {S0 : List (Nat × Slc)} {H0 : List (Nat × Value)} {r : Ru} {l : Ra} {it rb : Nat} {s : It} {a : Ad} (st : St F w0 S0 H0 it rb r l s a B H S) (hr : RuOk r) (hw0 : r.weekno.length = 0) (hd0 : r.nwd.length = 0) (he0 : r.easter.length = 0) (hwn : s.wno = r.wnoF s.ly) (hnw : s.nwm = r.nwmF s.ly s.lm) (hea : s.eas = r.easF s.ly) (hy : 1 ≤ s.y ∧ s.y ≤ 9999) (hmo : 1 ≤ s.mo ∧ s.mo ≤ 12) (hd : 1 ≤ s.d ∧ s.d ≤ 31) (hwd : 0 ≤ s.wd ∧ s.wd ≤ 6) (hly : 1 ≤ s.ly ∧ s.ly ≤ 9999) (hfin : s.fin = false) (hfr : r.freq = 3) {flt : Bool}
    (hn : ∀ o a' H' S', o = adv r flt s → o.fin = false → St F w0 S0 H0 it rb r l o a' B H' S' → GE Q .normal 1418 [(0, .pointer (some ⟨it, 0, none⟩)), (2, .pointer (some ⟨rb, 0, none⟩))] F w0 B H' S')
    (hq : ∀ o a' H' S', o = adv r flt s → o.fin = true → St F w0 S0 H0 it rb r l o a' B H' S' → GE Q .ret 1418 [] F w0 B H' S') : GC Go.Proofs.Tryz.prog (Go.Fr.part [1, 1, 0, 0, 1, 0, 1, 1, 1, 1, 1, 1] (Go.Fr.bodyOf Tryz.f60)) Q 1418 [(0, .pointer (some ⟨it, 0, none⟩)), (2, .pointer (some ⟨rb, 0, none⟩)), (6, .bool flt)] F w0 B H S := by
  have hiv := hr.interval
  have hwk := hr.wkst
  refine GC_seq ?_
  refine GC_region ?_
  refine GL_rd rfl (by decide) (rd_assign rfl) ?_
  refine GL_nil ?_
  refine GE_then ?_
  refine GC_seq ?_
  refine GC_seq ?_
  refine GC_region ?_
  refine GL_rd rfl (by decide) (rd_move rfl) ?_
  refine GL_rd rfl (by decide) (rd_nilCheck rfl) ?_
  refine GL_rd rfl (by decide) (rd_fieldAddr (j := 38) (by kernel_rfl) rfl) ?_
  refine GL_rd rfl (by decide) (rd_load 1 rfl st.hR st.r38 (by kernel_rfl) (by decide)) ?_
  refine GL_rd rfl (by decide) ((rd_eql rfl rfl).to (v' := .bool false) (congrArg Value.bool (by rw [hfr]; rfl))) ?_
  refine GL_nil ?_
  refine GE_then ?_
  refine GC_is_false rfl rfl ?_
  refine GC_seq ?_
  refine GC_region ?_
  refine GL_rd rfl (by decide) (rd_move rfl) ?_
  refine GL_rd rfl (by decide) (rd_nilCheck rfl) ?_
  refine GL_rd rfl (by decide) (rd_fieldAddr (j := 38) (by kernel_rfl) rfl) ?_
  refine GL_rd rfl (by decide) (rd_load 1 rfl st.hR st.r38 (by kernel_rfl) (by decide)) ?_
  refine GL_rd rfl (by decide) ((rd_eql rfl rfl).to (v' := .bool false) (congrArg Value.bool (by rw [hfr]; rfl))) ?_
  refine GL_nil ?_
  refine GE_then ?_
  refine GC_is_false rfl rfl ?_
  refine GC_seq ?_
  refine GC_region ?_
  refine GL_rd rfl (by decide) (rd_move rfl) ?_
  refine GL_rd rfl (by decide) (rd_nilCheck rfl) ?_
  refine GL_rd rfl (by decide) (rd_fieldAddr (j := 38) (by kernel_rfl) rfl) ?_
  refine GL_rd rfl (by decide) (rd_load 1 rfl st.hR st.r38 (by kernel_rfl) (by decide)) ?_
  refine GL_rd rfl (by decide) ((rd_eql rfl rfl).to (v' := .bool false) (congrArg Value.bool (by rw [hfr]; rfl))) ?_
  refine GL_nil ?_
  refine GE_then ?_
  refine GC_is_false rfl rfl ?_
  refine GC_seq ?_
  refine GC_region ?_
  refine GL_rd rfl (by decide) (rd_move rfl) ?_
  refine GL_rd rfl (by decide) (rd_nilCheck rfl) ?_
  refine GL_rd rfl (by decide) (rd_fieldAddr (j := 38) (by kernel_rfl) rfl) ?_
  refine GL_rd rfl (by decide) (rd_load 1 rfl st.hR st.r38 (by kernel_rfl) (by decide)) ?_
  refine GL_rd rfl (by decide) ((rd_eql rfl rfl).to (v' := .bool true) (congrArg Value.bool (by rw [hfr]; rfl))) ?_
  refine GL_nil ?_
  refine GE_then ?_
  refine GC_is_true rfl rfl ?_
  refine GC_seq ?_
  refine GC_tail 11 (by kernel_rfl) (by kernel_rfl) ?_
  refine GT_rd rfl (by decide) (rd_move rfl) ?_
  refine GT_rd rfl (by decide) (rd_nilCheck rfl) ?_
  refine GT_rd rfl (by decide) (rd_fieldAddr (j := 2) (by kernel_rfl) rfl) ?_
  refine GT_rd rfl (by decide) (rd_load 0 rfl st.hB st.h2 (by kernel_rfl) (by decide)) ?_
  refine GT_rd rfl (by decide) (rd_move rfl) ?_
  refine GT_rd rfl (by decide) (rd_nilCheck rfl) ?_
  refine GT_rd rfl (by decide) (rd_fieldAddr (j := 41) (by kernel_rfl) rfl) ?_
  refine GT_rd rfl (by decide) (rd_load 1 rfl st.hR st.r41 (by kernel_rfl) (by decide)) ?_
  first
    | refine GT_rd rfl (by decide) (rd_add_ rfl rfl (by omega)) ?_
    | refine GT_rd rfl (by decide) (rd_add rfl rfl) ?_
  refine GT_rd rfl (by decide) (rd_nilCheck rfl) ?_
  refine GT_rd rfl (by decide) (rd_fieldAddr (j := 2) (by kernel_rfl) rfl) ?_
  refine GT_nil ?_
  refine GL_at rfl (at_store 0 rfl rfl st.hB st.h2 (by kernel_rfl) rfl (by decide) ?_)
  refine GL_nil ?_
  refine GE_then ?_
  refine GC_region ?_
  refine GL_rd rfl (by decide) (rd_assign rfl) ?_
  refine GL_nil ?_
  refine GE_then ?_
  refine GC_to (L' := [(0, .pointer (some ⟨it, 0, none⟩)), (2, .pointer (some ⟨rb, 0, none⟩)), (42, .bool true)]) (fun a k => k.cons rfl (k.cons rfl (k.cons rfl (k.nil)))) (fun w s => s) ?_
  have hadv : adv r flt s = fix r { s with d := s.d + r.interval } := by unfold adv; rw [if_neg (by omega), if_neg (by omega), if_neg (by omega), if_pos hfr]
  refine fix_code (s := { s with d := s.d + r.interval }) (a := a) (H := (ky 0 2, .int .i64 (s.d + r.interval)) :: H) (⟨st.hB, st.hR, (by repeat (first | exact st.lim | apply Lim.consH _ (by decide) (by decide) | apply Lim.consS _ (by decide))), st.h0, st.h1, rfl, st.h3, st.h4, st.h5, st.h6, st.h7, st.h8, st.h9, st.h10, st.h11, st.h12, st.h13, st.h14, st.h15, st.h16, st.h17, st.h18, st.h19, st.h20, st.h21, st.h22, st.h23, st.h24, st.h25, st.h26, st.h27, st.h28, st.h29, st.hS0, st.hS1, st.hS2, st.hS3, st.hS4, st.hS5, st.hS6, st.hS7, st.hS8, st.hS9, st.hS10, st.hp20, st.hp21, st.hp22, st.c6, (fun k_ h1_ h2_ => Eq.trans (by repeat (first | rfl | rw [lkp_cons_ne (by omega)])) (st.frS k_ h1_ h2_)), (fun k_ h1_ h2_ o_ ho_ => Eq.trans (by repeat (first | rfl | rw [lkp_ky_ne (by omega) ho_ (by decide)])) (st.frH k_ h1_ h2_ o_ ho_)), st.hq0, st.hq1, st.r38, st.r39, st.r40, st.r41, st.r42, st.r44, st.r45, st.r46, st.r47, st.r48, st.r49, st.r50, st.r51, st.r52, st.r53, st.r54, st.r55, st.r56, st.r57, st.r59, (st.hI46.to (fun k_ h1_ h2_ => by repeat (first | rfl | rw [lkp_cons_ne (by omega)]))), (st.hI47.to (fun k_ h1_ h2_ => by repeat (first | rfl | rw [lkp_cons_ne (by omega)]))), (st.hI48.to (fun k_ h1_ h2_ => by repeat (first | rfl | rw [lkp_cons_ne (by omega)]))), (st.hI49.to (fun k_ h1_ h2_ => by repeat (first | rfl | rw [lkp_cons_ne (by omega)]))), (st.hI50.to (fun k_ h1_ h2_ => by repeat (first | rfl | rw [lkp_cons_ne (by omega)]))), (st.hI51.to (fun k_ h1_ h2_ => by repeat (first | rfl | rw [lkp_cons_ne (by omega)]))), (st.hI52.to (fun k_ h1_ h2_ => by repeat (first | rfl | rw [lkp_cons_ne (by omega)]))), (st.hI54.to (fun k_ h1_ h2_ => by repeat (first | rfl | rw [lkp_cons_ne (by omega)]))), (st.hI55.to (fun k_ h1_ h2_ => by repeat (first | rfl | rw [lkp_cons_ne (by omega)]))), (st.hI56.to (fun k_ h1_ h2_ => by repeat (first | rfl | rw [lkp_cons_ne (by omega)]))), (st.hI57.to (fun k_ h1_ h2_ => by repeat (first | rfl | rw [lkp_cons_ne (by omega)]))), st.hl46, st.hl47, st.hl48, st.hl49, st.hl50, st.hl51, st.hl52, st.hl54, st.hl55, st.hl56, st.hl57⟩ : St F w0 S0 H0 it rb r l { s with d := s.d + r.interval } a B ((ky 0 2, .int .i64 (s.d + r.interval)) :: H) S) hr hw0 hd0 he0 hwn hnw hea (by simp only; omega) hmo hy hly hfin (fun o a' H' S' ho => hn o a' H' S' (ho.trans hadv.symm)) (fun o a' H' S' ho => hq o a' H' S' (ho.trans hadv.symm))
theorem adv_weekly {Q : Exit → Act → World → Prop} {S0 : List (Nat × Slc)} {H0 : List (Nat × Value)} {r : Ru} {l : Ra} {it rb : Nat} {s : It} {a : Ad} (st : St F w0 S0 H0 it rb r l s a B H S) (hr : RuOk r) (hw0 : r.weekno.length = 0) (hd0 : r.nwd.length = 0) (he0 : r.easter.length = 0) (hwn : s.wno = r.wnoF s.ly) (hnw : s.nwm = r.nwmF s.ly s.lm) (hea : s.eas = r.easF s.ly) (hy : 1 ≤ s.y ∧ s.y ≤ 9999) (hmo : 1 ≤ s.mo ∧ s.mo ≤ 12) (hd : 1 ≤ s.d ∧ s.d ≤ 31) (hwd : 0 ≤ s.wd ∧ s.wd ≤ 6) (hly : 1 ≤ s.ly ∧ s.ly ≤ 9999) (hfin : s.fin = false) (hfr : r.freq = 2) {flt : Bool}
    (hn : ∀ o a' H' S', o = adv r flt s → o.fin = false → St F w0 S0 H0 it rb r l o a' B H' S' → GE Q .normal 1418 [(0, .pointer (some ⟨it, 0, none⟩)), (2, .pointer (some ⟨rb, 0, none⟩))] F w0 B H' S')
    (hq : ∀ o a' H' S', o = adv r flt s → o.fin = true → St F w0 S0 H0 it rb r l o a' B H' S' → GE Q .ret 1418 [] F w0 B H' S') : GC Go.Proofs.Tryz.prog (Go.Fr.part [1, 1, 0, 0, 1, 0, 1, 1, 1, 1, 1, 1] (Go.Fr.bodyOf Tryz.f60)) Q 1418 [(0, .pointer (some ⟨it, 0, none⟩)), (2, .pointer (some ⟨rb, 0, none⟩)), (6, .bool flt)] F w0 B H S := by
  have hiv := hr.interval
  have hwk := hr.wkst
  refine GC_seq ?_
  refine GC_region ?_
  refine GL_rd rfl (by decide) (rd_assign rfl) ?_
  refine GL_nil ?_
  refine GE_then ?_
  refine GC_seq ?_
  refine GC_seq ?_
  refine GC_region ?_
  refine GL_rd rfl (by decide) (rd_move rfl) ?_
  refine GL_rd rfl (by decide) (rd_nilCheck rfl) ?_
  refine GL_rd rfl (by decide) (rd_fieldAddr (j := 38) (by kernel_rfl) rfl) ?_
  refine GL_rd rfl (by decide) (rd_load 1 rfl st.hR st.r38 (by kernel_rfl) (by decide)) ?_
  refine GL_rd rfl (by decide) ((rd_eql rfl rfl).to (v' := .bool false) (congrArg Value.bool (by rw [hfr]; rfl))) ?_
  refine GL_nil ?_
  refine GE_then ?_
  refine GC_is_false rfl rfl ?_
  refine GC_seq ?_
  refine GC_region ?_
  refine GL_rd rfl (by decide) (rd_move rfl) ?_
  refine GL_rd rfl (by decide) (rd_nilCheck rfl) ?_
  refine GL_rd rfl (by decide) (rd_fieldAddr (j := 38) (by kernel_rfl) rfl) ?_
  refine GL_rd rfl (by decide) (rd_load 1 rfl st.hR st.r38 (by kernel_rfl) (by decide)) ?_
  refine GL_rd rfl (by decide) ((rd_eql rfl rfl).to (v' := .bool false) (congrArg Value.bool (by rw [hfr]; rfl))) ?_
  refine GL_nil ?_
  refine GE_then ?_
  refine GC_is_false rfl rfl ?_
  refine GC_seq ?_
  refine GC_region ?_
  refine GL_rd rfl (by decide) (rd_move rfl) ?_
  refine GL_rd rfl (by decide) (rd_nilCheck rfl) ?_
  refine GL_rd rfl (by decide) (rd_fieldAddr (j := 38) (by kernel_rfl) rfl) ?_
  refine GL_rd rfl (by decide) (rd_load 1 rfl st.hR st.r38 (by kernel_rfl) (by decide)) ?_
  refine GL_rd rfl (by decide) ((rd_eql rfl rfl).to (v' := .bool true) (congrArg Value.bool (by rw [hfr]; rfl))) ?_
  refine GL_nil ?_
  refine GE_then ?_
  refine GC_is_true rfl rfl ?_
  refine GC_seq ?_
  refine GC_seq ?_
  refine GC_quiet (by kernel_rfl) (by kernel_rfl) ?_
  refine GQ_rd rfl (by decide) (rd_move rfl) ?_
  refine GQ_rd rfl (by decide) (rd_nilCheck rfl) ?_
  refine GQ_rd rfl (by decide) (rd_fieldAddr (j := 42) (by kernel_rfl) rfl) ?_
  refine GQ_rd rfl (by decide) (rd_load 1 rfl st.hR st.r42 (by kernel_rfl) (by decide)) ?_
  refine GQ_rd rfl (by decide) (rd_move rfl) ?_
  refine GQ_rd rfl (by decide) (rd_nilCheck rfl) ?_
  refine GQ_rd rfl (by decide) (rd_fieldAddr (j := 6) (by kernel_rfl) rfl) ?_
  refine GQ_rd rfl (by decide) (rd_load 0 rfl st.hB st.h6 (by kernel_rfl) (by decide)) ?_
  refine GQ_rd rfl (by decide) (rd_gtr rfl rfl) ?_
  refine GQ_nil ?_
  refine GE_then ?_
  refine GC_cond rfl (fun hc1 => ?_) (fun hc2 => ?_)
  · skip
    have hlt : s.wd < r.wkst := of_decide_eq_true hc1
    refine GC_tail 25 (by kernel_rfl) (by kernel_rfl) ?_
    refine GT_rd rfl (by decide) (rd_move rfl) ?_
    refine GT_rd rfl (by decide) (rd_nilCheck rfl) ?_
    refine GT_rd rfl (by decide) (rd_fieldAddr (j := 2) (by kernel_rfl) rfl) ?_
    refine GT_rd rfl (by decide) (rd_load 0 rfl st.hB st.h2 (by kernel_rfl) (by decide)) ?_
    refine GT_rd rfl (by decide) (rd_move rfl) ?_
    refine GT_rd rfl (by decide) (rd_nilCheck rfl) ?_
    refine GT_rd rfl (by decide) (rd_fieldAddr (j := 6) (by kernel_rfl) rfl) ?_
    refine GT_rd rfl (by decide) (rd_load 0 rfl st.hB st.h6 (by kernel_rfl) (by decide)) ?_
    first
      | refine GT_rd rfl (by decide) (rd_add_ rfl rfl (by omega)) ?_
      | refine GT_rd rfl (by decide) (rd_add rfl rfl) ?_
    refine GT_rd rfl (by decide) (rd_move rfl) ?_
    refine GT_rd rfl (by decide) (rd_nilCheck rfl) ?_
    refine GT_rd rfl (by decide) (rd_fieldAddr (j := 42) (by kernel_rfl) rfl) ?_
    refine GT_rd rfl (by decide) (rd_load 1 rfl st.hR st.r42 (by kernel_rfl) (by decide)) ?_
    first
      | refine GT_rd rfl (by decide) (rd_sub_ rfl rfl (by omega)) ?_
      | refine GT_rd rfl (by decide) (rd_sub rfl rfl) ?_
    first
      | refine GT_rd rfl (by decide) (rd_add_ rfl rfl (by omega)) ?_
      | refine GT_rd rfl (by decide) (rd_add rfl rfl) ?_
    first
      | refine GT_rd rfl (by decide) (rd_neg_ rfl (by omega)) ?_
      | refine GT_rd rfl (by decide) (rd_neg rfl) ?_
    refine GT_rd rfl (by decide) (rd_move rfl) ?_
    refine GT_rd rfl (by decide) (rd_nilCheck rfl) ?_
    refine GT_rd rfl (by decide) (rd_fieldAddr (j := 41) (by kernel_rfl) rfl) ?_
    refine GT_rd rfl (by decide) (rd_load 1 rfl st.hR st.r41 (by kernel_rfl) (by decide)) ?_
    first
      | refine GT_rd rfl (by decide) (rd_mul_ rfl rfl (by omega)) ?_
      | refine GT_rd rfl (by decide) (rd_mul rfl rfl) ?_
    first
      | refine GT_rd rfl (by decide) (rd_add_ rfl rfl (by omega)) ?_
      | refine GT_rd rfl (by decide) (rd_add rfl rfl) ?_
    first
      | refine GT_rd rfl (by decide) (rd_add_ rfl rfl (by omega)) ?_
      | refine GT_rd rfl (by decide) (rd_add rfl rfl) ?_
    refine GT_rd rfl (by decide) (rd_nilCheck rfl) ?_
    refine GT_rd rfl (by decide) (rd_fieldAddr (j := 2) (by kernel_rfl) rfl) ?_
    refine GT_nil ?_
    refine GL_at rfl (at_store 0 rfl rfl st.hB st.h2 (by kernel_rfl) rfl (by decide) ?_)
    refine GL_nil ?_
    refine GE_then ?_
    refine GC_seq ?_
    refine GC_region ?_
    refine GL_rd rfl (by decide) (rd_move rfl) ?_
    refine GL_rd rfl (by decide) (rd_move rfl) ?_
    refine GL_rd rfl (by decide) (rd_nilCheck rfl) ?_
    refine GL_rd rfl (by decide) (rd_fieldAddr (j := 42) (by kernel_rfl) rfl) ?_
    refine GL_rd rfl (by decide) (rd_load 1 rfl st.hR st.r42 (by kernel_rfl) (by decide)) ?_
    refine GL_rd rfl (by decide) (rd_nilCheck rfl) ?_
    refine GL_rd rfl (by decide) (rd_fieldAddr (j := 6) (by kernel_rfl) rfl) ?_
    refine GL_at rfl (at_store 0 rfl rfl st.hB st.h6 (by kernel_rfl) rfl (by decide) ?_)
    refine GL_nil ?_
    refine GE_then ?_
    refine GC_region ?_
    refine GL_rd rfl (by decide) (rd_assign rfl) ?_
    refine GL_nil ?_
    refine GE_then ?_
    refine GC_to (L' := [(0, .pointer (some ⟨it, 0, none⟩)), (2, .pointer (some ⟨rb, 0, none⟩)), (42, .bool true)]) (fun a k => k.cons rfl (k.cons rfl (k.cons rfl (k.nil)))) (fun w s => s) ?_
    have hadv : adv r flt s = fix r { s with d := s.d + (-(s.wd + 1 + (6 - r.wkst)) + r.interval * 7), wd := r.wkst } := by unfold adv; rw [if_neg (by omega), if_neg (by omega), if_pos hfr, if_pos hlt]
    refine fix_code (s := { s with d := s.d + (-(s.wd + 1 + (6 - r.wkst)) + r.interval * 7), wd := r.wkst }) (a := a) (H := (ky 0 6, .int .i64 r.wkst) :: (ky 0 2, .int .i64 (s.d + (-(s.wd + 1 + (6 - r.wkst)) + r.interval * 7))) :: H) (⟨st.hB, st.hR, (by repeat (first | exact st.lim | apply Lim.consH _ (by decide) (by decide) | apply Lim.consS _ (by decide))), st.h0, st.h1, rfl, st.h3, st.h4, st.h5, rfl, st.h7, st.h8, st.h9, st.h10, st.h11, st.h12, st.h13, st.h14, st.h15, st.h16, st.h17, st.h18, st.h19, st.h20, st.h21, st.h22, st.h23, st.h24, st.h25, st.h26, st.h27, st.h28, st.h29, st.hS0, st.hS1, st.hS2, st.hS3, st.hS4, st.hS5, st.hS6, st.hS7, st.hS8, st.hS9, st.hS10, st.hp20, st.hp21, st.hp22, st.c6, (fun k_ h1_ h2_ => Eq.trans (by repeat (first | rfl | rw [lkp_cons_ne (by omega)])) (st.frS k_ h1_ h2_)), (fun k_ h1_ h2_ o_ ho_ => Eq.trans (by repeat (first | rfl | rw [lkp_ky_ne (by omega) ho_ (by decide)])) (st.frH k_ h1_ h2_ o_ ho_)), st.hq0, st.hq1, st.r38, st.r39, st.r40, st.r41, st.r42, st.r44, st.r45, st.r46, st.r47, st.r48, st.r49, st.r50, st.r51, st.r52, st.r53, st.r54, st.r55, st.r56, st.r57, st.r59, (st.hI46.to (fun k_ h1_ h2_ => by repeat (first | rfl | rw [lkp_cons_ne (by omega)]))), (st.hI47.to (fun k_ h1_ h2_ => by repeat (first | rfl | rw [lkp_cons_ne (by omega)]))), (st.hI48.to (fun k_ h1_ h2_ => by repeat (first | rfl | rw [lkp_cons_ne (by omega)]))), (st.hI49.to (fun k_ h1_ h2_ => by repeat (first | rfl | rw [lkp_cons_ne (by omega)]))), (st.hI50.to (fun k_ h1_ h2_ => by repeat (first | rfl | rw [lkp_cons_ne (by omega)]))), (st.hI51.to (fun k_ h1_ h2_ => by repeat (first | rfl | rw [lkp_cons_ne (by omega)]))), (st.hI52.to (fun k_ h1_ h2_ => by repeat (first | rfl | rw [lkp_cons_ne (by omega)]))), (st.hI54.to (fun k_ h1_ h2_ => by repeat (first | rfl | rw [lkp_cons_ne (by omega)]))), (st.hI55.to (fun k_ h1_ h2_ => by repeat (first | rfl | rw [lkp_cons_ne (by omega)]))), (st.hI56.to (fun k_ h1_ h2_ => by repeat (first | rfl | rw [lkp_cons_ne (by omega)]))), (st.hI57.to (fun k_ h1_ h2_ => by repeat (first | rfl | rw [lkp_cons_ne (by omega)]))), st.hl46, st.hl47, st.hl48, st.hl49, st.hl50, st.hl51, st.hl52, st.hl54, st.hl55, st.hl56, st.hl57⟩ : St F w0 S0 H0 it rb r l { s with d := s.d + (-(s.wd + 1 + (6 - r.wkst)) + r.interval * 7), wd := r.wkst } a B ((ky 0 6, .int .i64 r.wkst) :: (ky 0 2, .int .i64 (s.d + (-(s.wd + 1 + (6 - r.wkst)) + r.interval * 7))) :: H) S) hr hw0 hd0 he0 hwn hnw hea (by simp only; omega) hmo hy hly hfin (fun o a' H' S' ho => hn o a' H' S' (ho.trans hadv.symm)) (fun o a' H' S' ho => hq o a' H' S' (ho.trans hadv.symm))
  · skip
    have hlt : ¬ s.wd < r.wkst := of_decide_eq_false hc2
    refine GC_tail 23 (by kernel_rfl) (by kernel_rfl) ?_
    refine GT_rd rfl (by decide) (rd_move rfl) ?_
    refine GT_rd rfl (by decide) (rd_nilCheck rfl) ?_
    refine GT_rd rfl (by decide) (rd_fieldAddr (j := 2) (by kernel_rfl) rfl) ?_
    refine GT_rd rfl (by decide) (rd_load 0 rfl st.hB st.h2 (by kernel_rfl) (by decide)) ?_
    refine GT_rd rfl (by decide) (rd_move rfl) ?_
    refine GT_rd rfl (by decide) (rd_nilCheck rfl) ?_
    refine GT_rd rfl (by decide) (rd_fieldAddr (j := 6) (by kernel_rfl) rfl) ?_
    refine GT_rd rfl (by decide) (rd_load 0 rfl st.hB st.h6 (by kernel_rfl) (by decide)) ?_
    refine GT_rd rfl (by decide) (rd_move rfl) ?_
    refine GT_rd rfl (by decide) (rd_nilCheck rfl) ?_
    refine GT_rd rfl (by decide) (rd_fieldAddr (j := 42) (by kernel_rfl) rfl) ?_
    refine GT_rd rfl (by decide) (rd_load 1 rfl st.hR st.r42 (by kernel_rfl) (by decide)) ?_
    first
      | refine GT_rd rfl (by decide) (rd_sub_ rfl rfl (by omega)) ?_
      | refine GT_rd rfl (by decide) (rd_sub rfl rfl) ?_
    first
      | refine GT_rd rfl (by decide) (rd_neg_ rfl (by omega)) ?_
      | refine GT_rd rfl (by decide) (rd_neg rfl) ?_
    refine GT_rd rfl (by decide) (rd_move rfl) ?_
    refine GT_rd rfl (by decide) (rd_nilCheck rfl) ?_
    refine GT_rd rfl (by decide) (rd_fieldAddr (j := 41) (by kernel_rfl) rfl) ?_
    refine GT_rd rfl (by decide) (rd_load 1 rfl st.hR st.r41 (by kernel_rfl) (by decide)) ?_
    first
      | refine GT_rd rfl (by decide) (rd_mul_ rfl rfl (by omega)) ?_
      | refine GT_rd rfl (by decide) (rd_mul rfl rfl) ?_
    first
      | refine GT_rd rfl (by decide) (rd_add_ rfl rfl (by omega)) ?_
      | refine GT_rd rfl (by decide) (rd_add rfl rfl) ?_
    first
      | refine GT_rd rfl (by decide) (rd_add_ rfl rfl (by omega)) ?_
      | refine GT_rd rfl (by decide) (rd_add rfl rfl) ?_
    refine GT_rd rfl (by decide) (rd_nilCheck rfl) ?_
    refine GT_rd rfl (by decide) (rd_fieldAddr (j := 2) (by kernel_rfl) rfl) ?_
    refine GT_nil ?_
    refine GL_at rfl (at_store 0 rfl rfl st.hB st.h2 (by kernel_rfl) rfl (by decide) ?_)
    refine GL_nil ?_
    refine GE_then ?_
    refine GC_seq ?_
    refine GC_region ?_
    refine GL_rd rfl (by decide) (rd_move rfl) ?_
    refine GL_rd rfl (by decide) (rd_move rfl) ?_
    refine GL_rd rfl (by decide) (rd_nilCheck rfl) ?_
    refine GL_rd rfl (by decide) (rd_fieldAddr (j := 42) (by kernel_rfl) rfl) ?_
    refine GL_rd rfl (by decide) (rd_load 1 rfl st.hR st.r42 (by kernel_rfl) (by decide)) ?_
    refine GL_rd rfl (by decide) (rd_nilCheck rfl) ?_
    refine GL_rd rfl (by decide) (rd_fieldAddr (j := 6) (by kernel_rfl) rfl) ?_
    refine GL_at rfl (at_store 0 rfl rfl st.hB st.h6 (by kernel_rfl) rfl (by decide) ?_)
    refine GL_nil ?_
    refine GE_then ?_
    refine GC_region ?_
    refine GL_rd rfl (by decide) (rd_assign rfl) ?_
    refine GL_nil ?_
    refine GE_then ?_
    refine GC_to (L' := [(0, .pointer (some ⟨it, 0, none⟩)), (2, .pointer (some ⟨rb, 0, none⟩)), (42, .bool true)]) (fun a k => k.cons rfl (k.cons rfl (k.cons rfl (k.nil)))) (fun w s => s) ?_
    have hadv : adv r flt s = fix r { s with d := s.d + (-(s.wd - r.wkst) + r.interval * 7), wd := r.wkst } := by unfold adv; rw [if_neg (by omega), if_neg (by omega), if_pos hfr, if_neg hlt]
    refine fix_code (s := { s with d := s.d + (-(s.wd - r.wkst) + r.interval * 7), wd := r.wkst }) (a := a) (H := (ky 0 6, .int .i64 r.wkst) :: (ky 0 2, .int .i64 (s.d + (-(s.wd - r.wkst) + r.interval * 7))) :: H) (⟨st.hB, st.hR, (by repeat (first | exact st.lim | apply Lim.consH _ (by decide) (by decide) | apply Lim.consS _ (by decide))), st.h0, st.h1, rfl, st.h3, st.h4, st.h5, rfl, st.h7, st.h8, st.h9, st.h10, st.h11, st.h12, st.h13, st.h14, st.h15, st.h16, st.h17, st.h18, st.h19, st.h20, st.h21, st.h22, st.h23, st.h24, st.h25, st.h26, st.h27, st.h28, st.h29, st.hS0, st.hS1, st.hS2, st.hS3, st.hS4, st.hS5, st.hS6, st.hS7, st.hS8, st.hS9, st.hS10, st.hp20, st.hp21, st.hp22, st.c6, (fun k_ h1_ h2_ => Eq.trans (by repeat (first | rfl | rw [lkp_cons_ne (by omega)])) (st.frS k_ h1_ h2_)), (fun k_ h1_ h2_ o_ ho_ => Eq.trans (by repeat (first | rfl | rw [lkp_ky_ne (by omega) ho_ (by decide)])) (st.frH k_ h1_ h2_ o_ ho_)), st.hq0, st.hq1, st.r38, st.r39, st.r40, st.r41, st.r42, st.r44, st.r45, st.r46, st.r47, st.r48, st.r49, st.r50, st.r51, st.r52, st.r53, st.r54, st.r55, st.r56, st.r57, st.r59, (st.hI46.to (fun k_ h1_ h2_ => by repeat (first | rfl | rw [lkp_cons_ne (by omega)]))), (st.hI47.to (fun k_ h1_ h2_ => by repeat (first | rfl | rw [lkp_cons_ne (by omega)]))), (st.hI48.to (fun k_ h1_ h2_ => by repeat (first | rfl | rw [lkp_cons_ne (by omega)]))), (st.hI49.to (fun k_ h1_ h2_ => by repeat (first | rfl | rw [lkp_cons_ne (by omega)]))), (st.hI50.to (fun k_ h1_ h2_ => by repeat (first | rfl | rw [lkp_cons_ne (by omega)]))), (st.hI51.to (fun k_ h1_ h2_ => by repeat (first | rfl | rw [lkp_cons_ne (by omega)]))), (st.hI52.to (fun k_ h1_ h2_ => by repeat (first | rfl | rw [lkp_cons_ne (by omega)]))), (st.hI54.to (fun k_ h1_ h2_ => by repeat (first | rfl | rw [lkp_cons_ne (by omega)]))), (st.hI55.to (fun k_ h1_ h2_ => by repeat (first | rfl | rw [lkp_cons_ne (by omega)]))), (st.hI56.to (fun k_ h1_ h2_ => by repeat (first | rfl | rw [lkp_cons_ne (by omega)]))), (st.hI57.to (fun k_ h1_ h2_ => by repeat (first | rfl | rw [lkp_cons_ne (by omega)]))), st.hl46, st.hl47, st.hl48, st.hl49, st.hl50, st.hl51, st.hl52, st.hl54, st.hl55, st.hl56, st.hl57⟩ : St F w0 S0 H0 it rb r l { s with d := s.d + (-(s.wd - r.wkst) + r.interval * 7), wd := r.wkst } a B ((ky 0 6, .int .i64 r.wkst) :: (ky 0 2, .int .i64 (s.d + (-(s.wd - r.wkst) + r.interval * 7))) :: H) S) hr hw0 hd0 he0 hwn hnw hea (by simp only; omega) hmo hy hly hfin (fun o a' H' S' ho => hn o a' H' S' (ho.trans hadv.symm)) (fun o a' H' S' ho => hq o a' H' S' (ho.trans hadv.symm))
end
end Go.Proofs.YtfcklceejjmjeaaGreat
