/-
  The iterator's next date.
-/
import Derived.Test.YtfcklceejjmjeaaGreatProg
import Derived.Test.YtfcklceejjmjeaaGreatMd
import Derived.Test.YtfcklceejjmjeaaGreatFg
import Derived.Test.YtfcklceejjmjeaaGreatGen
import Derived.Test.YtfcklceejjmjeaaGreatFi
set_option linter.unusedVariables false
set_option linter.unusedSimpArgs false
set_option maxRecDepth 100000
set_option maxHeartbeats 8000000
namespace Go.Proofs.YtfcklceejjmjeaaGreat
open Go.RowKit Go.Fr Go.Tab
section
variable {F : Nat → Prop} {w0 : World} {B : List (Nat × Nat)} {H : List (Nat × Value)} {S : List (Nat × Slc)}

open Go.Md
/-- What 'Pop' hands back. -/
def popV (s : It) : Value := match s.rem with
  | [] => .tuple #[.agg #[.int .i64 0, .int .i64 0], .bool false]
  | t :: _ => .tuple #[.agg #[.int .i64 t, .int .i64 0], .bool true]
theorem pop_st {S0 : List (Nat × Slc)} {H0 : List (Nat × Value)} {r : Ru} {l : Ra} {it rb : Nat} {s : It} {a : Ad} (st : St F w0 S0 H0 it rb r l s a B H S) : ∀ w, Sees F w0 B H S w → Calls Go.Proofs.Tryz.prog 61 #[.pointer (some ⟨it, 26, none⟩)] w fun e w' => ∃ a' H' S', e = .returned (popV s) ∧ St F w0 S0 H0 it rb r l { s with rem := s.rem.tail } a' B H' S' ∧ Sees F w0 B H' S' w' := by
  intro w hs
  cases hrem : s.rem with
  | nil =>
    have h26 := st.h26
    rw [hrem] at h26
    refine (pop_none (st.lim.mono (by decide)) st.hB h26 w hs).mono ?_
    rintro e w' ⟨he, hs'⟩
    refine ⟨a, H, S, ?_, ?_, hs'⟩
    · rw [he]; unfold popV; rw [hrem]
    · have e1 : ({ s with rem := s.rem.tail } : It) = s := by rw [hrem]; cases s; simp only at hrem; subst hrem; rfl
      rw [hrem] at e1
      exact e1.symm ▸ st
  | cons t rest =>
    have hne : s.rem ≠ [] := by rw [hrem]; exact List.cons_ne_nil _ _
    obtain ⟨q1, q2, q3, q4, q5, q6⟩ := st.hq1 hne
    obtain ⟨g, hrp, hcap⟩ := hs.head 0 st.hS0 (by omega)
    have hrs := q1 g hrp
    have hlen : s.rem.length = a.rn - a.rj := by rw [q2, List.length_drop, q3]
    have h26 := st.h26
    rw [hrs, q5, hlen] at h26
    have hS0 := st.hS0
    have hrow : (⟨.slice a.rp a.rn a.rc, 44, 2, a.rn, tcells a.rall⟩ : Slc).v = .slice (some ⟨g, 0, none⟩) a.rn a.rc := by rw [hrp]
    have hrj : a.rall[a.rj]? = some t := by
      have : (a.rall.drop a.rj)[0]? = some t := by rw [← q2, hrem]; rfl
      rwa [List.getElem?_drop, Nat.add_zero] at this
    obtain ⟨hx, hy⟩ := tcells_get hrj
    have hrest : rest = a.rall.drop (a.rj + 1) := by
      have : (t :: rest).tail = (a.rall.drop a.rj).tail := by rw [← hrem, q2]
      rw [List.tail_drop] at this
      exact this
    have hrl : rest.length = a.rn - (a.rj + 1) := by rw [hrest, List.length_drop, q3]
    by_cases hlast : a.rj + 1 = a.rn
    · have h27 := st.h27
      rw [q6, hrp] at h27
      refine (pop_last (st.lim.mono (by decide)) st.hB hlast hcap h26 h27 hS0 hrow hx hy w hs).mono ?_
      rintro e w' ⟨u, he, hs'⟩
      have hs2 := hs'.cut 0 hS0 rfl 0 (Nat.zero_le _)
      have hr0 : rest = [] := List.eq_nil_of_length_eq_zero (by omega)
      rw [← hrp] at hs2
      refine ⟨{ a with rs := a.rp, rk := a.rc, rn := 0, rall := [], rj := 0 }, _, _, ?_, ?_, hs2⟩
      · rw [he]; unfold popV; rw [hrem]
      · subst hr0
        exact ⟨st.hB, st.hR, (by repeat (first | exact st.lim | apply Lim.consH _ (by decide) (by decide) | apply Lim.consS _ (by decide))), st.h0, st.h1, st.h2, st.h3, st.h4, st.h5, st.h6, st.h7, st.h8, st.h9, st.h10, st.h11, st.h12, st.h13, st.h14, st.h15, st.h16, st.h17, st.h18, st.h19, st.h20, st.h21, st.h22, st.h23, st.h24, st.h25, rfl, st.h27, st.h28, st.h29, rfl, st.hS1, st.hS2, st.hS3, st.hS4, st.hS5, st.hS6, st.hS7, st.hS8, st.hS9, st.hS10, st.hp20, st.hp21, st.hp22, st.c6, (fun k_ h1_ h2_ => Eq.trans (by repeat (first | rfl | rw [lkp_cons_ne (by omega)])) (st.frS k_ h1_ h2_)), (fun k_ h1_ h2_ o_ ho_ => Eq.trans (by repeat (first | rfl | rw [lkp_ky_ne (by omega) ho_ (by decide)])) (st.frH k_ h1_ h2_ o_ ho_)), (fun _ => ⟨rfl, rfl, rfl, rfl⟩), (fun h => absurd rfl h), st.r38, st.r39, st.r40, st.r41, st.r42, st.r44, st.r45, st.r46, st.r47, st.r48, st.r49, st.r50, st.r51, st.r52, st.r53, st.r54, st.r55, st.r56, st.r57, st.r59, (st.hI46.to (fun k_ h1_ h2_ => by repeat (first | rfl | rw [lkp_cons_ne (by omega)]))), (st.hI47.to (fun k_ h1_ h2_ => by repeat (first | rfl | rw [lkp_cons_ne (by omega)]))), (st.hI48.to (fun k_ h1_ h2_ => by repeat (first | rfl | rw [lkp_cons_ne (by omega)]))), (st.hI49.to (fun k_ h1_ h2_ => by repeat (first | rfl | rw [lkp_cons_ne (by omega)]))), (st.hI50.to (fun k_ h1_ h2_ => by repeat (first | rfl | rw [lkp_cons_ne (by omega)]))), (st.hI51.to (fun k_ h1_ h2_ => by repeat (first | rfl | rw [lkp_cons_ne (by omega)]))), (st.hI52.to (fun k_ h1_ h2_ => by repeat (first | rfl | rw [lkp_cons_ne (by omega)]))), (st.hI54.to (fun k_ h1_ h2_ => by repeat (first | rfl | rw [lkp_cons_ne (by omega)]))), (st.hI55.to (fun k_ h1_ h2_ => by repeat (first | rfl | rw [lkp_cons_ne (by omega)]))), (st.hI56.to (fun k_ h1_ h2_ => by repeat (first | rfl | rw [lkp_cons_ne (by omega)]))), (st.hI57.to (fun k_ h1_ h2_ => by repeat (first | rfl | rw [lkp_cons_ne (by omega)]))), st.hl46, st.hl47, st.hl48, st.hl49, st.hl50, st.hl51, st.hl52, st.hl54, st.hl55, st.hl56, st.hl57⟩
    · refine (pop_more (st.lim.mono (by decide)) st.hB (by omega) hcap h26 hS0 hrow hx hy w hs).mono ?_
      rintro e w' ⟨he, hs'⟩
      refine ⟨{ a with rs := some ⟨g, 2 * (a.rj + 1), none⟩, rk := a.rc - (a.rj + 1), rj := a.rj + 1 }, _, _, ?_, ?_, hs'⟩
      · rw [he]; unfold popV; rw [hrem]
      · exact ⟨st.hB, st.hR, (by repeat (first | exact st.lim | apply Lim.consH _ (by decide) (by decide) | apply Lim.consS _ (by decide))), st.h0, st.h1, st.h2, st.h3, st.h4, st.h5, st.h6, st.h7, st.h8, st.h9, st.h10, st.h11, st.h12, st.h13, st.h14, st.h15, st.h16, st.h17, st.h18, st.h19, st.h20, st.h21, st.h22, st.h23, st.h24, st.h25, (by simp only [List.tail_cons]; rw [hrl]; rfl), st.h27, st.h28, st.h29, st.hS0, st.hS1, st.hS2, st.hS3, st.hS4, st.hS5, st.hS6, st.hS7, st.hS8, st.hS9, st.hS10, st.hp20, st.hp21, st.hp22, st.c6, (fun k_ h1_ h2_ => Eq.trans (by repeat (first | rfl | rw [lkp_cons_ne (by omega)])) (st.frS k_ h1_ h2_)), (fun k_ h1_ h2_ o_ ho_ => Eq.trans (by repeat (first | rfl | rw [lkp_ky_ne (by omega) ho_ (by decide)])) (st.frH k_ h1_ h2_ o_ ho_)), (fun h => absurd (congrArg List.length h) (by simp only [List.tail_cons, List.length_nil]; omega)), (fun _ => ⟨fun g2 e2 => by rw [hrp] at e2; cases e2; rfl, hrest, q3, by simp only; omega, rfl, q6⟩), st.r38, st.r39, st.r40, st.r41, st.r42, st.r44, st.r45, st.r46, st.r47, st.r48, st.r49, st.r50, st.r51, st.r52, st.r53, st.r54, st.r55, st.r56, st.r57, st.r59, (st.hI46.to (fun k_ h1_ h2_ => by repeat (first | rfl | rw [lkp_cons_ne (by omega)]))), (st.hI47.to (fun k_ h1_ h2_ => by repeat (first | rfl | rw [lkp_cons_ne (by omega)]))), (st.hI48.to (fun k_ h1_ h2_ => by repeat (first | rfl | rw [lkp_cons_ne (by omega)]))), (st.hI49.to (fun k_ h1_ h2_ => by repeat (first | rfl | rw [lkp_cons_ne (by omega)]))), (st.hI50.to (fun k_ h1_ h2_ => by repeat (first | rfl | rw [lkp_cons_ne (by omega)]))), (st.hI51.to (fun k_ h1_ h2_ => by repeat (first | rfl | rw [lkp_cons_ne (by omega)]))), (st.hI52.to (fun k_ h1_ h2_ => by repeat (first | rfl | rw [lkp_cons_ne (by omega)]))), (st.hI54.to (fun k_ h1_ h2_ => by repeat (first | rfl | rw [lkp_cons_ne (by omega)]))), (st.hI55.to (fun k_ h1_ h2_ => by repeat (first | rfl | rw [lkp_cons_ne (by omega)]))), (st.hI56.to (fun k_ h1_ h2_ => by repeat (first | rfl | rw [lkp_cons_ne (by omega)]))), (st.hI57.to (fun k_ h1_ h2_ => by repeat (first | rfl | rw [lkp_cons_ne (by omega)]))), st.hl46, st.hl47, st.hl48, st.hl49, st.hl50, st.hl51, st.hl52, st.hl54, st.hl55, st.hl56, st.hl57⟩
/-- What 'generate' comes to. -/
def GenTo (r : Ru) (n : Nat) (s e : It) : Prop := (s.fin = true ∧ e = s) ∨ (s.fin = false ∧ Gen r n s e ∧ ItOk r s)
def Pres (r : Ru) : Prop := ∀ s, ItOk r s → s.rem = [] → s.fin = false → (round r s).fin = false → ItOk r (round r s)
theorem gen_to {S0 : List (Nat × Slc)} {H0 : List (Nat × Value)} {r : Ru} {l : Ra} {it rb : Nat} {s : It} {a : Ad} (st : St F w0 S0 H0 it rb r l s a B H S) (hr : RuOk r) (hp : Plain r) (hpres : Pres r) {n : Nat} {sEnd : It} (hG : GenTo r n s sEnd) : ∀ w, Sees F w0 B H S w → Calls Go.Proofs.Tryz.prog 60 #[.pointer (some ⟨it, 0, none⟩)] w fun e w' => e = .returned (.tuple #[]) ∧ ∃ a H' S', St F w0 S0 H0 it rb r l sEnd a B H' S' ∧ Sees F w0 B H' S' w' := by
  rcases hG with ⟨hf, rfl⟩ | ⟨hf, hG, hk⟩
  · exact generate_fin st hf
  · exact generate_calls st hr hp hG hk hf hpres
theorem St.drop38 {b : Nat} {S0 : List (Nat × Slc)} {H0 : List (Nat × Value)} {r : Ru} {l : Ra} {it rb : Nat} {s : It} {a : Ad} (st : St F w0 S0 H0 it rb r l s a B H S) {s3 : It} {a3 : Ad} {H3 : List (Nat × Value)} {S3 : List (Nat × Slc)} (st3 : St F w0 S (putKeys 38 0 [.int .i64 0, .int .i64 0] ++ H) it rb r l s3 a3 ((38, b) :: B) H3 S3) (h38h : ∀ o, o < 4096 → lkp (ky 38 o) H0 = none) : St F w0 S0 H0 it rb r l s3 a3 B (dropH 38 H3) S3 := ⟨st3.hB, st3.hR, ⟨fun k_ h_ => by have := st3.lim.b k_ h_; rwa [lkp_cons_ne (by omega)] at this, fun k_ h_ o_ ho_ => (lkp_dropH (by rw [ky_div ho_]; omega)).trans (st3.lim.h k_ h_ o_ ho_), st3.lim.s⟩, (lkp_dropH (by decide)).trans st3.h0, (lkp_dropH (by decide)).trans st3.h1, (lkp_dropH (by decide)).trans st3.h2, (lkp_dropH (by decide)).trans st3.h3, (lkp_dropH (by decide)).trans st3.h4, (lkp_dropH (by decide)).trans st3.h5, (lkp_dropH (by decide)).trans st3.h6, (lkp_dropH (by decide)).trans st3.h7, (lkp_dropH (by decide)).trans st3.h8, (lkp_dropH (by decide)).trans st3.h9, (lkp_dropH (by decide)).trans st3.h10, (lkp_dropH (by decide)).trans st3.h11, (lkp_dropH (by decide)).trans st3.h12, (lkp_dropH (by decide)).trans st3.h13, (lkp_dropH (by decide)).trans st3.h14, (lkp_dropH (by decide)).trans st3.h15, (lkp_dropH (by decide)).trans st3.h16, (lkp_dropH (by decide)).trans st3.h17, (lkp_dropH (by decide)).trans st3.h18, (lkp_dropH (by decide)).trans st3.h19, (lkp_dropH (by decide)).trans st3.h20, (lkp_dropH (by decide)).trans st3.h21, (lkp_dropH (by decide)).trans st3.h22, (lkp_dropH (by decide)).trans st3.h23, (lkp_dropH (by decide)).trans st3.h24, (lkp_dropH (by decide)).trans st3.h25, (lkp_dropH (by decide)).trans st3.h26, (lkp_dropH (by decide)).trans st3.h27, (lkp_dropH (by decide)).trans st3.h28, (lkp_dropH (by decide)).trans st3.h29, st3.hS0, st3.hS1, st3.hS2, st3.hS3, st3.hS4, st3.hS5, st3.hS6, st3.hS7, st3.hS8, st3.hS9, st3.hS10, st3.hp20, st3.hp21, st3.hp22, st3.c6, (fun k_ h1_ h2_ => (st3.frS k_ h1_ h2_).trans (st.frS k_ h1_ h2_)), (fun k_ h1_ h2_ o_ ho_ => by by_cases e_ : k_ = 38; { subst e_; rw [lkp_dropped ho_, h38h o_ ho_] }; { rw [lkp_dropH (by rw [ky_div ho_]; exact e_), st3.frH k_ h1_ h2_ o_ ho_, lkp_put_ne e_ ho_ _ _ (Nat.le_of_ble_eq_true rfl)]; exact st.frH k_ h1_ h2_ o_ ho_ }), st3.hq0, st3.hq1, (lkp_dropH (by decide)).trans st3.r38, (lkp_dropH (by decide)).trans st3.r39, (lkp_dropH (by decide)).trans st3.r40, (lkp_dropH (by decide)).trans st3.r41, (lkp_dropH (by decide)).trans st3.r42, (lkp_dropH (by decide)).trans st3.r44, (lkp_dropH (by decide)).trans st3.r45, (lkp_dropH (by decide)).trans st3.r46, (lkp_dropH (by decide)).trans st3.r47, (lkp_dropH (by decide)).trans st3.r48, (lkp_dropH (by decide)).trans st3.r49, (lkp_dropH (by decide)).trans st3.r50, (lkp_dropH (by decide)).trans st3.r51, (lkp_dropH (by decide)).trans st3.r52, (lkp_dropH (by decide)).trans st3.r53, (lkp_dropH (by decide)).trans st3.r54, (lkp_dropH (by decide)).trans st3.r55, (lkp_dropH (by decide)).trans st3.r56, (lkp_dropH (by decide)).trans st3.r57, (lkp_dropH (by decide)).trans st3.r59, st3.hI46, st3.hI47, st3.hI48, st3.hI49, st3.hI50, st3.hI51, st3.hI52, st3.hI54, st3.hI55, st3.hI56, st3.hI57, st3.hl46, st3.hl47, st3.hl48, st3.hl49, st3.hl50, st3.hl51, st3.hl52, st3.hl54, st3.hl55, st3.hl56, st3.hl57⟩
theorem next_calls {S0 : List (Nat × Slc)} {H0 : List (Nat × Value)} {r : Ru} {l : Ra} {it rb : Nat} {s : It} {a : Ad} (st : St F w0 S0 H0 it rb r l s a B H S) (h38b : lkp 38 B = none) (h38h : ∀ o, o < 4096 → lkp (ky 38 o) H0 = none) (hr : RuOk r) (hp : Plain r) (hpres : Pres r) {n : Nat} {sEnd : It} (hG : GenTo r n s sEnd) : ∀ w, Sees F w0 B H S w → Calls Go.Proofs.Tryz.prog 27 #[.pointer (some ⟨it, 0, none⟩)] w fun e w' => ∃ a' H' S', e = .returned (popV sEnd) ∧ St F w0 S0 H0 it rb r l { sEnd with rem := sEnd.rem.tail } a' B H' S' ∧ Sees F w0 B H' S' w' := by
  intro w s_
  refine calls_GC (args := [.pointer (some ⟨it, 0, none⟩)]) (L := [(0, .pointer (some ⟨it, 0, none⟩))]) (N := 12) Tryz.func27 rfl rfl (Nat.le_of_ble_eq_true rfl) rfl s_ ?_
  refine GC_seq ?_
  refine GC_region ?_
  refine GL_at rfl (at_alloc 38 (cs := [.int .i64 0, .int .i64 0]) (by decide) (by kernel_rfl) h38b (fun o ho => (st.frH 38 (by decide) (by decide) o ho).trans (h38h o ho)) (Nat.le_of_ble_eq_true rfl) (fun b1_ hbb1_ => ?_))
  refine GL_rd rfl (by decide) (rd_assign rfl) ?_
  refine GL_nil ?_
  refine GE_then ?_
  refine GC_seq ?_
  refine GC_region ?_
  refine GL_rd rfl (by decide) (rd_move rfl) ?_
  have st38 : St F w0 S (putKeys 38 0 [.int .i64 0, .int .i64 0] ++ H) it rb r l s a ((38, b1_) :: B) (putKeys 38 0 [.int .i64 0, .int .i64 0] ++ H) S := ⟨st.hB, st.hR, (Lim.putH (by decide) _ 0 (Nat.le_of_ble_eq_true rfl) (st.lim.consB (by decide))), st.h0, st.h1, st.h2, st.h3, st.h4, st.h5, st.h6, st.h7, st.h8, st.h9, st.h10, st.h11, st.h12, st.h13, st.h14, st.h15, st.h16, st.h17, st.h18, st.h19, st.h20, st.h21, st.h22, st.h23, st.h24, st.h25, st.h26, st.h27, st.h28, st.h29, st.hS0, st.hS1, st.hS2, st.hS3, st.hS4, st.hS5, st.hS6, st.hS7, st.hS8, st.hS9, st.hS10, st.hp20, st.hp21, st.hp22, st.c6, (fun _ _ _ => rfl), (fun _ _ _ _ _ => rfl), st.hq0, st.hq1, st.r38, st.r39, st.r40, st.r41, st.r42, st.r44, st.r45, st.r46, st.r47, st.r48, st.r49, st.r50, st.r51, st.r52, st.r53, st.r54, st.r55, st.r56, st.r57, st.r59, st.hI46, st.hI47, st.hI48, st.hI49, st.hI50, st.hI51, st.hI52, st.hI54, st.hI55, st.hI56, st.hI57, st.hl46, st.hl47, st.hl48, st.hl49, st.hl50, st.hl51, st.hl52, st.hl54, st.hl55, st.hl56, st.hl57⟩
  refine GL_at rfl (at_call (ι := Ad × List (Nat × Value) × List (Nat × Slc)) (fun _ => .tuple #[]) (fun x => St F w0 S (putKeys 38 0 [.int .i64 0, .int .i64 0] ++ H) it rb r l sEnd x.1 ((38, b1_) :: B) x.2.1 x.2.2) (fun _ => ((38, b1_) :: B)) (fun x => x.2.1) (fun x => x.2.2) (by decide) (by kernel_rfl) rfl (fun w_ s_ => (gen_to st38 hr hp hpres hG w_ s_).mono fun e w' ⟨he, a', H', S', hst, hs⟩ => ⟨(a', H', S'), hst, he, hs⟩) (fun | (a2, H2, S2), st2 => ?_))
  refine GL_nil ?_
  refine GE_then ?_
  refine GC_seq ?_
  refine GC_region ?_
  refine GL_rd rfl (by decide) (rd_move rfl) ?_
  refine GL_rd rfl (by decide) (rd_nilCheck rfl) ?_
  refine GL_rd rfl (by decide) (rd_fieldAddr (j := 26) (by kernel_rfl) rfl) ?_
  refine GL_at rfl (at_call (ι := Ad × List (Nat × Value) × List (Nat × Slc)) (fun _ => popV sEnd) (fun x => St F w0 S (putKeys 38 0 [.int .i64 0, .int .i64 0] ++ H) it rb r l { sEnd with rem := sEnd.rem.tail } x.1 ((38, b1_) :: B) x.2.1 x.2.2) (fun _ => ((38, b1_) :: B)) (fun x => x.2.1) (fun x => x.2.2) (by decide) (by kernel_rfl) rfl (fun w_ s_ => (pop_st st2 w_ s_).mono fun e w' ⟨a', H', S', he, hst, hs⟩ => ⟨(a', H', S'), hst, he, hs⟩) (fun | (a3, H3, S3), st3 => ?_))
  have q0 : lkp (ky 38 0) H3 = some (.int .i64 0) := (st3.frH 38 (by decide) (by decide) 0 (by decide)).trans rfl
  have q1 : lkp (ky 38 1) H3 = some (.int .i64 0) := (st3.frH 38 (by decide) (by decide) 1 (by decide)).trans rfl
  obtain ⟨tv, bv, hpv⟩ : ∃ (tv : Int) (bv : Bool), popV sEnd = .tuple #[.agg #[.int .i64 tv, .int .i64 0], .bool bv] := by unfold popV; cases sEnd.rem with | nil => exact ⟨0, false, rfl⟩ | cons t _ => exact ⟨t, true, rfl⟩
  rw [hpv]
  refine GL_rd rfl (by decide) (rd_extract rfl rfl) ?_
  refine GL_rd rfl (by decide) (rd_extract rfl rfl) ?_
  refine GL_at rfl (at_storeAgg 38 rfl rfl rfl (knwn2 q0 q1) (by kernel_rfl) rfl (Nat.le_of_ble_eq_true rfl) ?_)
  refine GL_rd rfl (by decide) (rd_assign rfl) ?_
  refine GL_nil ?_
  refine GE_then ?_
  refine GC_ret ?_
  refine GE_ret2 (.inl rfl) rfl (res_cell2 38 rfl rfl rfl rfl (by kernel_rfl)) (res_tmp rfl) fun w s => ⟨a3, _, _, rfl, St.drop38 (s3 := { sEnd with rem := sEnd.rem.tail }) (a3 := a3) (H3 := H3) (S3 := S3) st st3 h38h, ?_⟩
  have s2 := s.dropTag h38b
  rw [dropH_seq _ _ (Nat.le_of_ble_eq_true rfl)] at s2
  exact s2
end
end Go.Proofs.YtfcklceejjmjeaaGreat
