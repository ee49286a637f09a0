/-
  The iterator looks for its next dates: rules by years, weeks and days, without weeks, numbered days, Easter, and positions.
-/
import Derived.Test.YtfcklceejjmjeaaGreatProg
import Derived.Test.YtfcklceejjmjeaaGreatMd
import Derived.Test.YtfcklceejjmjeaaGreatFg
import Derived.Test.YtfcklceejjmjeaaGreatAdv
set_option linter.unusedVariables false
set_option linter.unusedSimpArgs false
set_option maxRecDepth 100000
set_option maxHeartbeats 8000000
namespace Go.Proofs.YtfcklceejjmjeaaGreat
open Go.RowKit Go.Fr Go.Tab
section
variable {F : Nat → Prop} {w0 : World} {B : List (Nat × Nat)} {H : List (Nat × Value)} {S : List (Nat × Slc)}

open Go.Md
theorem Gen_fin {r : Ru} {n : Nat} {s sEnd : It} (h : Gen r n s sEnd) (hr : s.rem = []) (hf : (round r s).fin = true) : sEnd = round r s := by
  cases h with
  | done h => exact absurd hr h
  | fin _ _ => rfl
  | more _ h _ => rw [hf] at h; cases h
theorem Gen_more {r : Ru} {n : Nat} {s sEnd : It} (h : Gen r n s sEnd) (hr : s.rem = []) (hf : (round r s).fin = false) : ∃ m, m < n ∧ Gen r m (round r s) sEnd := by
  cases h with
  | done h => exact absurd hr h
  | fin _ h => rw [hf] at h; cases h
  | more _ _ h => exact ⟨_, Nat.lt_succ_self _, h⟩
theorem Gen_done {r : Ru} {n : Nat} {s sEnd : It} (h : Gen r n s sEnd) (hr : s.rem ≠ []) : sEnd = s := by
  cases h with
  | done _ => rfl
  | fin h _ => exact absurd h hr
  | more h _ _ => exact absurd h hr
theorem round_out {r : Ru} {s : It} (h : (out r s).fin = true) : round r s = out r s := by unfold round; rw [if_pos h]
theorem round_adv {r : Ru} {s : It} (h : (out r s).fin = false) : round r s = adv r (filtered r s) (out r s) := by unfold round; rw [if_neg (by rw [h]; decide)]
/-- A rule whose walk is at hand. -/
structure Plain (r : Ru) : Prop where
  freq : r.freq = 0 ∨ r.freq = 2 ∨ r.freq = 3
  setpos : r.setpos.length = 0
  weekno : r.weekno.length = 0
  nwd : r.nwd.length = 0
  easter : r.easter.length = 0
theorem adv_all {Q : Exit → Act → World → Prop} {S0 : List (Nat × Slc)} {H0 : List (Nat × Value)} {r : Ru} {l : Ra} {it rb : Nat} {s : It} {a : Ad} (st : St F w0 S0 H0 it rb r l s a B H S) (hr : RuOk r) (hp : Plain r) (s0 : It) (hk : ItOk r s0) (hsm : Same s0 s) (hfin : s.fin = false) {flt : Bool}
    (hn : ∀ o a' H' S', o = adv r flt s → o.fin = false → St F w0 S0 H0 it rb r l o a' B H' S' → GE Q .normal 1418 [(0, .pointer (some ⟨it, 0, none⟩)), (2, .pointer (some ⟨rb, 0, none⟩))] F w0 B H' S')
    (hq : ∀ o a' H' S', o = adv r flt s → o.fin = true → St F w0 S0 H0 it rb r l o a' B H' S' → GE Q .ret 1418 [] F w0 B H' S') : GC Go.Proofs.Tryz.prog (Go.Fr.part [1, 1, 0, 0, 1, 0, 1, 1, 1, 1, 1, 1] (Go.Fr.bodyOf Tryz.f60)) Q 1418 [(0, .pointer (some ⟨it, 0, none⟩)), (2, .pointer (some ⟨rb, 0, none⟩)), (6, .bool flt)] F w0 B H S := by
  have h1 := hk.y
  have h2 := hk.mo
  have h3 := hk.d
  have h4 := hk.wd
  have h5 := hk.ly
  have h6 := hsm.y
  have h7 := hsm.mo
  have h8 := hsm.d
  have h9 := hsm.wd
  have h10 := hsm.ly
  have m1 : s.wno = r.wnoF s.ly := by rw [hsm.wno, hsm.ly]; exact hk.wno
  have m2 : s.nwm = r.nwmF s.ly s.lm := by rw [hsm.nwm, hsm.ly, hsm.lm]; exact hk.nwm
  have m3 : s.eas = r.easF s.ly := by rw [hsm.eas, hsm.ly]; exact hk.eas
  rcases hp.freq with hf | hf | hf
  · exact adv_yearly st hr hp.weekno hp.nwd hp.easter m1 m2 m3 (by omega) (by omega) (by omega) (by omega) (by omega) hfin hf hn hq
  · exact adv_weekly st hr hp.weekno hp.nwd hp.easter m1 m2 m3 (by omega) (by omega) (by omega) (by omega) (by omega) hfin hf hn hq
  · exact adv_daily st hr hp.weekno hp.nwd hp.easter m1 m2 m3 (by omega) (by omega) (by omega) (by omega) (by omega) hfin hf hn hq
theorem generate_fin {S0 : List (Nat × Slc)} {H0 : List (Nat × Value)} {r : Ru} {l : Ra} {it rb : Nat} {s : It} {a : Ad} (st : St F w0 S0 H0 it rb r l s a B H S) (hfin : s.fin = true) : ∀ w, Sees F w0 B H S w → Calls Go.Proofs.Tryz.prog 60 #[.pointer (some ⟨it, 0, none⟩)] w fun e w' => e = .returned (.tuple #[]) ∧ ∃ a H' S', St F w0 S0 H0 it rb r l s a B H' S' ∧ Sees F w0 B H' S' w' := by
  intro w s
  refine calls_GC (args := [.pointer (some ⟨it, 0, none⟩)]) (L := [(0, .pointer (some ⟨it, 0, none⟩))]) (N := 1418) Tryz.func60 rfl rfl (Nat.le_of_ble_eq_true rfl) rfl s ?_
  refine GC_seq ?_
  refine GC_seq ?_
  refine GC_region ?_
  refine GL_rd rfl (by decide) (rd_move rfl) ?_
  refine GL_rd rfl (by decide) (rd_nilCheck rfl) ?_
  refine GL_rd rfl (by decide) (rd_fieldAddr (j := 28) (by kernel_rfl) rfl) ?_
  refine GL_rd rfl (by decide) (rd_load 0 rfl st.hB st.h28 (by kernel_rfl) (by decide)) ?_
  refine GL_nil ?_
  refine GE_then ?_
  refine GC_is_true rfl hfin ?_
  refine GC_ret ?_
  refine GE_then_ret ?_
  refine GE_ret0 (.inl rfl) rfl fun w s => ⟨rfl, a, _, _, st, s⟩
theorem generate_calls {S0 : List (Nat × Slc)} {H0 : List (Nat × Value)} {r : Ru} {l : Ra} {it rb : Nat} {s : It} {a : Ad} (st : St F w0 S0 H0 it rb r l s a B H S) (hr : RuOk r) (hp : Plain r) {n : Nat} {sEnd : It} (hG : Gen r n s sEnd) (hk : ItOk r s) (hfin : s.fin = false)
    (hpres : ∀ s, ItOk r s → s.rem = [] → s.fin = false → (round r s).fin = false → ItOk r (round r s)) : ∀ w, Sees F w0 B H S w → Calls Go.Proofs.Tryz.prog 60 #[.pointer (some ⟨it, 0, none⟩)] w fun e w' => e = .returned (.tuple #[]) ∧ ∃ a H' S', St F w0 S0 H0 it rb r l sEnd a B H' S' ∧ Sees F w0 B H' S' w' := by
  intro w s_
  refine calls_GC (args := [.pointer (some ⟨it, 0, none⟩)]) (L := [(0, .pointer (some ⟨it, 0, none⟩))]) (N := 1418) Tryz.func60 rfl rfl (Nat.le_of_ble_eq_true rfl) rfl s_ ?_
  refine GC_seq ?_
  refine GC_seq ?_
  refine GC_region ?_
  refine GL_rd rfl (by decide) (rd_move rfl) ?_
  refine GL_rd rfl (by decide) (rd_nilCheck rfl) ?_
  refine GL_rd rfl (by decide) (rd_fieldAddr (j := 28) (by kernel_rfl) rfl) ?_
  refine GL_rd rfl (by decide) (rd_load 0 rfl st.hB st.h28 (by kernel_rfl) (by decide)) ?_
  refine GL_nil ?_
  refine GE_then ?_
  refine GC_is_false rfl hfin ?_
  refine GC_skip ?_
  refine GE_then ?_
  refine GC_seq ?_
  refine GC_region ?_
  refine GL_rd rfl (by decide) (rd_move rfl) ?_
  refine GL_rd rfl (by decide) (rd_nilCheck rfl) ?_
  refine GL_rd rfl (by decide) (rd_fieldAddr (j := 7) (by kernel_rfl) rfl) ?_
  refine GL_rd rfl (by decide) (rd_fieldAddr (j := 0) (by kernel_rfl) rfl) ?_
  refine GL_rd rfl (by decide) (rd_load 0 rfl st.hB st.h7 (by kernel_rfl) (by decide)) ?_
  refine GL_rd rfl (by decide) (rd_assign rfl) ?_
  refine GL_nil ?_
  refine GE_then ?_
  refine GC_block ?_
  refine GC_loop (ι := (Nat) × (It) × (Ad) × (List (Nat × Value)) × (List (Nat × Slc))) (fun | ⟨n1, s1, a1, H1, S1⟩ => n1) (fun | ⟨n1, s1, a1, H1, S1⟩ => (Gen r n1 s1 sEnd) ∧ (ItOk r s1) ∧ (s1.fin = false) ∧ (St F w0 S0 H0 it rb r l s1 a1 B H1 S1)) (fun | ⟨n1, s1, a1, H1, S1⟩ => [(0, .pointer (some ⟨it, 0, none⟩)), (2, .pointer (some ⟨rb, 0, none⟩))]) (fun | ⟨n1, s1, a1, H1, S1⟩ => B) (fun | ⟨n1, s1, a1, H1, S1⟩ => H1) (fun | ⟨n1, s1, a1, H1, S1⟩ => S1) ⟨n, s, a, H, S⟩ ⟨hG, hk, hfin, st⟩ (fun a k => k.cons rfl (k.cons rfl (k.nil))) (fun w s => by exact s) ?_
  rintro ⟨n1, s1, a1, H1, S1⟩ ⟨hG1, hk1, hf1, st1⟩
  show GC _ _ _ _ [(0, .pointer (some ⟨it, 0, none⟩)), (2, .pointer (some ⟨rb, 0, none⟩))] _ _ (B) (H1) (S1)
  refine GC_seq ?_
  refine GC_seq ?_
  refine GC_region ?_
  refine GL_rd rfl (by decide) (rd_move rfl) ?_
  refine GL_rd rfl (by decide) (rd_nilCheck rfl) ?_
  refine GL_rd rfl (by decide) (rd_fieldAddr (j := 26) (by kernel_rfl) rfl) ?_
  refine GL_rd rfl (by decide) (rd_load2 0 rfl st1.hB st1.h26 st1.h27 (by kernel_rfl) (by decide)) ?_
  refine GL_at rfl (at_call_same (v := .int .i64 (s1.rem.length : Int)) (by decide) (by kernel_rfl) rfl (len_calls (st1.lim.mono (by decide))) ?_)
  refine GL_rd rfl (by decide) (rd_eql rfl rfl) ?_
  refine GL_nil ?_
  refine GE_then ?_
  refine GC_cond rfl (fun hc1 => ?_) (fun hc2 => ?_)
  · skip
    have hrem : s1.rem = [] := List.eq_nil_of_length_eq_zero (by have := beq_iff_eq.1 hc1; omega)
    refine GC_skip ?_
    refine GE_then ?_
    refine GC_block ?_
    refine GC_to (L' := [(0, .pointer (some ⟨it, 0, none⟩)), (2, .pointer (some ⟨rb, 0, none⟩))]) (fun a k => k.cons rfl (k.cons rfl (k.nil))) (fun w s => s) ?_
    refine round_front (B := B) (H := H1) (S := S1) ?_ st1 hr hk1 hrem hf1 hp.setpos (fun o a' H' S' ho hof hsm st' => ?_) (fun o a' H' S' ho hof hsm st' => ?_)
    · exact Blind.inBlock (Blind.then (Blind.inBlock Blind.body))
    · refine adv_all (B := B) (H := H') (S := S') st' hr hp s1 hk1 hsm hof (fun o2 a2 H2 S2 ho2 hof2 st2 => ?_) (fun o2 a2 H2 S2 ho2 hof2 st2 => ?_)
      · have hround : round r s1 = o2 := by rw [round_adv (by rw [← ho]; exact hof), ← ho]; exact ho2.symm
        obtain ⟨m, hm, hG2⟩ := Gen_more hG1 hrem (by rw [hround]; exact hof2)
        have hk2 := hpres s1 hk1 hrem hf1 (by rw [hround]; exact hof2)
        rw [hround] at hG2 hk2
        exact GE_in (GE_back (B := B) (H := H2) (S := S2) ⟨m, o2, a2, H2, S2⟩ hm ⟨hG2, hk2, hof2, st2⟩ (fun a k => k.cons rfl (k.cons rfl (k.nil))) (fun w s => s))
      · have hround : round r s1 = o2 := by rw [round_adv (by rw [← ho]; exact hof), ← ho]; exact ho2.symm
        have hend := Gen_fin hG1 hrem (by rw [hround]; exact hof2)
        rw [hround] at hend; subst hend
        repeat (first | refine GE_in_ret ?_ | refine GE_then_ret ?_)
        exact GE_ret0 (.inl rfl) rfl fun w s => ⟨rfl, a2, H2, S2, st2, s⟩
    · have hround : round r s1 = o := (round_out (by rw [← ho]; exact hof)).trans ho.symm
      have hend := Gen_fin hG1 hrem (by rw [hround]; exact hof)
      rw [hround] at hend; subst hend
      repeat (first | refine GE_in_ret ?_ | refine GE_then_ret ?_)
      exact GE_ret0 (.inl rfl) rfl fun w s => ⟨rfl, a', H', S', st', s⟩
  · skip
    have hrem : s1.rem ≠ [] := fun h => by have := beq_eq_false_iff_ne.1 hc2; rw [h] at this; exact this rfl
    have hend := Gen_done hG1 hrem
    refine GC_exit ?_
    refine GE_then_exit ?_
    refine GE_then_exit ?_
    refine GE_in_self ?_
    subst hend
    refine GE_ret0 (.inr rfl) rfl fun w s => ⟨rfl, a1, _, _, st1, s⟩
end
end Go.Proofs.YtfcklceejjmjeaaGreat
