/-
  The tables are made anew, as far as the year is new.
-/
import Derived.Test.YtfcklceejjmjeaaGreatProg
import Derived.Test.YtfcklceejjmjeaaGreatMd
import Derived.Test.YtfcklceejjmjeaaGreatFg
import Derived.Test.YtfcklceejjmjeaaGreatFront
set_option linter.unusedVariables false
set_option linter.unusedSimpArgs false
set_option maxRecDepth 100000
set_option maxHeartbeats 8000000
namespace Go.Proofs.YtfcklceejjmjeaaGreat
open Go.RowKit Go.Fr Go.Tab
section
variable {F : Nat → Prop} {w0 : World} {B : List (Nat × Nat)} {H : List (Nat × Value)} {S : List (Nat × Slc)}

open Go.Md
/-- What stands behind 'rebuild'. -/
def RebPost (F : Nat → Prop) (w0 : World) (S0 : List (Nat × Slc)) (H0 : List (Nat × Value)) (it rb : Nat) (r : Ru) (l : Ra) (s : It) (B : List (Nat × Nat)) (e : Ending) (w' : World) : Prop :=
  ∃ (a : Ad) (H : List (Nat × Value)) (S : List (Nat × Slc)), e = .returned (.tuple #[]) ∧ St F w0 S0 H0 it rb r l s a B H S ∧ Sees F w0 B H S w'
theorem reb_simple {r : Ru} {s : It} (hr : RuOk r) (hw0 : r.weekno.length = 0) (hd0 : r.nwd.length = 0) (he0 : r.easter.length = 0) (hwn : s.wno = r.wnoF s.ly) (hnw : s.nwm = r.nwmF s.ly s.lm) (y m : Int) : reb r s y m = ⟨s.y, s.mo, s.d, s.h, s.mi, s.s, s.wd, y, m, [], [], [], s.ts, s.total, s.count, s.rem, s.fin⟩ := by
  have h1 : s.wno = [] := hwn.trans (hr.wnoF0 hw0 _)
  have h2 : s.nwm = [] := hnw.trans (hr.nwmF0 hd0 _ _)
  unfold reb
  rw [h1, h2, hr.wnoF0 hw0, hr.nwmF0 hd0, hr.easF0 he0]
  simp only [ite_self]
theorem rebuild_st {S0 : List (Nat × Slc)} {H0 : List (Nat × Value)} {r : Ru} {l : Ra} {it rb : Nat} {s : It} {a : Ad} (st : St F w0 S0 H0 it rb r l s a B H S) (hr : RuOk r) (hw0 : r.weekno.length = 0) (hd0 : r.nwd.length = 0) (he0 : r.easter.length = 0) (hwn : s.wno = r.wnoF s.ly) (hnw : s.nwm = r.nwmF s.ly s.lm) (hea : s.eas = r.easF s.ly) {y m : Int} (hy1 : 1 ≤ y ∧ y ≤ 10000) :
    ∀ w, Sees F w0 B H S w → Calls Go.Proofs.Tryz.prog 24 #[.pointer (some ⟨it, 7, none⟩), .int .i64 y, .int .i64 m] w fun e w' => RebPost F w0 S0 H0 it rb r l (reb r s y m) B e w' := by
  intro w hs
  rw [reb_simple hr hw0 hd0 he0 hwn hnw]
  have r51 := st.r51
  have r53 := st.r53
  have r57 := st.r57
  rw [hw0] at r51
  rw [hd0] at r53
  rw [he0] at r57
  have h1 : s.wno = [] := hwn.trans (hr.wnoF0 hw0 _)
  have h2 : s.nwm = [] := hnw.trans (hr.nwmF0 hd0 _ _)
  have h3 : s.eas = [] := hea.trans (hr.easF0 he0 _)
  by_cases hy : y = s.ly
  · refine (rebuild_same (m := m) st.hB st.hR st.h7 st.h8 st.h9 r51 r53 r57 hy w hs).mono ?_
    rintro e w' ⟨he, hs'⟩
    refine ⟨a, _, _, he, ?_, hs'⟩
    subst hy
    obtain ⟨y_, mo_, d_, h_, mi_, s_, wd_, ly_, lm_, wno_, nwm_, eas_, ts_, tt_, cc_, rem_, fin_⟩ := s
    simp only at h1 h2 h3
    subst h1 h2 h3
    exact ⟨st.hB, st.hR, (st.lim.consH (by decide) (by decide)).consH (by decide) (by decide), st.h0, st.h1, st.h2, st.h3, st.h4, st.h5, st.h6, st.h7, rfl, rfl, st.h10, st.h11, st.h12, st.h13, st.h14, st.h15, st.h16, st.h17, st.h18, st.h19, st.h20, st.h21, st.h22, st.h23, st.h24, st.h25, st.h26, st.h27, st.h28, st.h29, st.hS0, st.hS1, st.hS2, st.hS3, st.hS4, st.hS5, st.hS6, st.hS7, st.hS8, st.hS9, st.hS10, st.hp20, st.hp21, st.hp22, st.c6, (fun k_ h1_ h2_ => Eq.trans (by repeat (first | rfl | rw [lkp_cons_ne (by omega)])) (st.frS k_ h1_ h2_)), (fun k_ h1_ h2_ o_ ho_ => Eq.trans (by repeat (first | rfl | rw [lkp_ky_ne (by omega) ho_ (by decide)])) (st.frH k_ h1_ h2_ o_ ho_)), st.hq0, st.hq1, st.r38, st.r39, st.r40, st.r41, st.r42, st.r44, st.r45, st.r46, st.r47, st.r48, st.r49, st.r50, st.r51, st.r52, st.r53, st.r54, st.r55, st.r56, st.r57, st.r59, (st.hI46.to (fun k_ h1_ h2_ => by repeat (first | rfl | rw [lkp_cons_ne (by omega)]))), (st.hI47.to (fun k_ h1_ h2_ => by repeat (first | rfl | rw [lkp_cons_ne (by omega)]))), (st.hI48.to (fun k_ h1_ h2_ => by repeat (first | rfl | rw [lkp_cons_ne (by omega)]))), (st.hI49.to (fun k_ h1_ h2_ => by repeat (first | rfl | rw [lkp_cons_ne (by omega)]))), (st.hI50.to (fun k_ h1_ h2_ => by repeat (first | rfl | rw [lkp_cons_ne (by omega)]))), (st.hI51.to (fun k_ h1_ h2_ => by repeat (first | rfl | rw [lkp_cons_ne (by omega)]))), (st.hI52.to (fun k_ h1_ h2_ => by repeat (first | rfl | rw [lkp_cons_ne (by omega)]))), (st.hI54.to (fun k_ h1_ h2_ => by repeat (first | rfl | rw [lkp_cons_ne (by omega)]))), (st.hI55.to (fun k_ h1_ h2_ => by repeat (first | rfl | rw [lkp_cons_ne (by omega)]))), (st.hI56.to (fun k_ h1_ h2_ => by repeat (first | rfl | rw [lkp_cons_ne (by omega)]))), (st.hI57.to (fun k_ h1_ h2_ => by repeat (first | rfl | rw [lkp_cons_ne (by omega)]))), st.hl46, st.hl47, st.hl48, st.hl49, st.hl50, st.hl51, st.hl52, st.hl54, st.hl55, st.hl56, st.hl57⟩
  · refine (new_year (m := m) st.hB st.hR st.h7 st.h8 st.h9 r51 r53 r57 st.r39 st.r40 st.h10 st.h11 st.h12 st.h13 st.h14 st.h15 st.h16 st.h17 st.h18 st.h19 st.h20 hy hy1 w hs).mono ?_
    rintro e w' ⟨b6, c6, p3, c3, p4, c4, p5, c5, p7, c7, h385, rfl, s'⟩
    obtain ⟨b3, rfl, _⟩ := s'.head 3 rfl (nY_pos y)
    obtain ⟨b4, rfl, _⟩ := s'.head 4 rfl (nY_pos y)
    obtain ⟨b5, rfl, _⟩ := s'.head 5 rfl (nY_pos y)
    obtain ⟨b7, rfl, _⟩ := s'.head 7 rfl (by decide)
    refine ⟨{ a with b3 := b3, c3 := c3, b4 := b4, c4 := c4, b5 := b5, c5 := c5, b6 := b6, c6 := c6, b7 := b7, c7 := c7, p20 := none, c20 := 0 }, _, _, rfl, ?_, s'⟩
    obtain ⟨y_, mo_, d_, h_, mi_, s_, wd_, ly_, lm_, wno_, nwm_, eas_, ts_, tt_, cc_, rem_, fin_⟩ := s
    simp only at h1 h2 h3
    subst h1 h2 h3
    exact ⟨st.hB, st.hR, (by repeat (first | exact st.lim | apply Lim.consH _ (by decide) (by decide) | apply Lim.consS _ (by decide))), st.h0, st.h1, st.h2, st.h3, st.h4, st.h5, st.h6, st.h7, rfl, rfl, rfl, rfl, rfl, rfl, rfl, rfl, rfl, rfl, rfl, rfl, rfl, st.h21, st.h22, st.h23, st.h24, st.h25, st.h26, st.h27, st.h28, st.h29, st.hS0, st.hS1, st.hS2, rfl, rfl, rfl, rfl, rfl, (fun h => absurd h (Nat.lt_irrefl 0)), st.hS9, st.hS10, (fun h => absurd h (Nat.lt_irrefl 0)), st.hp21, st.hp22, h385, (fun k_ h1_ h2_ => Eq.trans (by repeat (first | rfl | rw [lkp_cons_ne (by omega)])) (st.frS k_ h1_ h2_)), (fun k_ h1_ h2_ o_ ho_ => Eq.trans (by repeat (first | rfl | rw [lkp_ky_ne (by omega) ho_ (by decide)])) (st.frH k_ h1_ h2_ o_ ho_)), st.hq0, st.hq1, st.r38, st.r39, st.r40, st.r41, st.r42, st.r44, st.r45, st.r46, st.r47, st.r48, st.r49, st.r50, st.r51, st.r52, st.r53, st.r54, st.r55, st.r56, st.r57, st.r59, (st.hI46.to (fun k_ h1_ h2_ => by repeat (first | rfl | rw [lkp_cons_ne (by omega)]))), (st.hI47.to (fun k_ h1_ h2_ => by repeat (first | rfl | rw [lkp_cons_ne (by omega)]))), (st.hI48.to (fun k_ h1_ h2_ => by repeat (first | rfl | rw [lkp_cons_ne (by omega)]))), (st.hI49.to (fun k_ h1_ h2_ => by repeat (first | rfl | rw [lkp_cons_ne (by omega)]))), (st.hI50.to (fun k_ h1_ h2_ => by repeat (first | rfl | rw [lkp_cons_ne (by omega)]))), (st.hI51.to (fun k_ h1_ h2_ => by repeat (first | rfl | rw [lkp_cons_ne (by omega)]))), (st.hI52.to (fun k_ h1_ h2_ => by repeat (first | rfl | rw [lkp_cons_ne (by omega)]))), (st.hI54.to (fun k_ h1_ h2_ => by repeat (first | rfl | rw [lkp_cons_ne (by omega)]))), (st.hI55.to (fun k_ h1_ h2_ => by repeat (first | rfl | rw [lkp_cons_ne (by omega)]))), (st.hI56.to (fun k_ h1_ h2_ => by repeat (first | rfl | rw [lkp_cons_ne (by omega)]))), (st.hI57.to (fun k_ h1_ h2_ => by repeat (first | rfl | rw [lkp_cons_ne (by omega)]))), st.hl46, st.hl47, st.hl48, st.hl49, st.hl50, st.hl51, st.hl52, st.hl54, st.hl55, st.hl56, st.hl57⟩
theorem at_call_reb {Q : Exit → Act → World → Prop} {K : Act → World → Prop} {N d : Nat} {L : Fr.Loc} {ty : TypeId} {pos : String} {aft : Array Edge} {S0 : List (Nat × Slc)} {H0 : List (Nat × Value)} {it rb : Nat} {r : Ru} {l : Ra} {s : It} {f : FuncId} {asl : List Operand} {ats : Array TypeId} {args : List Value} (hd : d < N) (hf : enterB Go.Proofs.Tryz.prog f = true) (ha : Fr.evs L asl = some args)
    (hc : ∀ w, Sees F w0 B H S w → Calls Go.Proofs.Tryz.prog f args.toArray w fun e w' => RebPost F w0 S0 H0 it rb r l s B e w')
    (hn : ∀ a H' S', St F w0 S0 H0 it rb r l s a B H' S' → GK K N ((d, .tuple #[]) :: L) F w0 B H' S') : GO Go.Proofs.Tryz.prog ⟨some d, .call ⟨.value (.func f), asl.toArray, ats⟩, ty, pos, aft, none⟩ Q K N L F w0 B H S := fun a w k s => by
  show Oper.upon _ _ _ _ _ _
  rw [run_call k hf ha]
  refine (hc w s).mono ?_
  rintro e w' ⟨a', H', S', rfl, hst, s'⟩
  exact hn a' H' S' hst _ _ (k.put hd _) s'
end
end Go.Proofs.YtfcklceejjmjeaaGreat
