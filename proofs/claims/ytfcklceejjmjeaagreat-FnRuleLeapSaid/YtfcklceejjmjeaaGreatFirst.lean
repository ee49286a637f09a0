/-
  The first dates of a rule, one by one.
-/
import Derived.Test.YtfcklceejjmjeaaGreatProg
import Derived.Test.YtfcklceejjmjeaaGreatMd
import Derived.Test.YtfcklceejjmjeaaGreatFg
import Derived.Test.YtfcklceejjmjeaaGreatIt2
set_option linter.unusedVariables false
set_option linter.unusedSimpArgs false
set_option maxRecDepth 100000
set_option maxHeartbeats 8000000
namespace Go.Proofs.YtfcklceejjmjeaaGreat
open Go.RowKit Go.Fr Go.Tab
section
variable {F : Nat → Prop} {w0 : World} {B : List (Nat × Nat)} {H : List (Nat × Value)} {S : List (Nat × Slc)}

open Go.Md
theorem iterator_calls {o : Opn} {x : Av} {wF : Int → List Int} {nF : Int → Int → List Int} {eF : Int → List Int} (ok : OpOk o) (hf4 : o.freq < 4) (hw0 : o.weekno.length = 0) (hd0 : ((ruOf o wF nF eF)).nwd.length = 0) (he0 : o.easter.length = 0) (hwF : ∀ y, wF y = []) (hnF : ∀ y m, nF y m = []) (heF : ∀ y, eF y = []) (hlen : RuLen (ruOf o wF nF eF)) {rb : Nat} {S0 : List (Nat × Slc)} (of : OutF F w0 o x S0 S) (hR1 : lkp 1 B = some rb) (hc1 : cellsAt 1 H 0 (outC o x)) (h38 : ∀ q, q < 4096 → lkp (ky 38 q) H = none) (hdm : o.d < 315537897600) (hno : lkp 0 B = none) (hno2 : ∀ q, q < 4096 → lkp (ky 0 q) H = none) (lim : Lim 40 B H S) : ∀ w, Sees F w0 B H S w → Calls Go.Proofs.Tryz.prog 13 #[.pointer (some ⟨rb, 0, none⟩)] w fun e w' => ∃ it a H' S', e = .returned (.func (.func 27) #[.pointer (some ⟨it, 0, none⟩)] #[]) ∧ St F w0 S' H' it rb (ruOf o wF nF eF) (raOf x) (it0 o (ruOf o wF nF eF)) a ((0, it) :: B) H' S' ∧ (∀ k, 26 ≤ k → k < 40 → lkp k S' = lkp k S) ∧ (∀ q, q < 4096 → lkp (ky 38 q) H' = none) ∧ Sees F w0 ((0, it) :: B) H' S' w' := by
  intro w s
  refine calls_GC (args := [.pointer (some ⟨rb, 0, none⟩)]) (L := [(0, .pointer (some ⟨rb, 0, none⟩))]) (N := 148) Tryz.func13 rfl rfl (Nat.le_of_ble_eq_true rfl) rfl s ?_
  refine GC_seq ?_
  refine GC_region ?_
  refine GL_rd rfl (by decide) (rd_assign rfl) ?_
  refine GL_nil ?_
  refine GE_then ?_
  refine GC_seq ?_
  refine GC_region ?_
  refine GL_rd rfl (by decide) ((rd_build0 (v := .agg z30.toArray) (fun w => by kernel_rfl))) ?_
  refine GL_at rfl (at_alloc 0 (cs := z30) (by decide) (by kernel_rfl) hno hno2 (Nat.le_of_ble_eq_true rfl) (fun it hit => ?_))
  refine GL_at rfl (at_storeAgg 0 (cs := z30.toArray) rfl rfl rfl (cellsAt_some (put_cells z30 (Nat.le_of_ble_eq_true rfl)) 0 30 (Nat.le_of_ble_eq_true rfl)) (by kernel_rfl) rfl (Nat.le_of_ble_eq_true rfl) ?_)
  refine GL_nil ?_
  refine GE_then ?_
  refine GC_to (L' := [(0, .pointer (some ⟨rb, 0, none⟩)), (3, .pointer (some ⟨it, 0, none⟩))]) (fun a k => k.cons rfl (k.cons rfl (k.nil))) (fun w s => s) (H' := putSeq 0 0 z30 (putKeys 0 0 z30 ++ H)) ?_
  have hc5 : cellsAt 1 (putSeq 0 0 z30 (putKeys 0 0 z30 ++ H)) 0 (outC o x) := cellsAt_of fun i u h => by have hi : 0 + i < 4096 := by { have := (List.getElem?_eq_some_iff.1 h).1; have h3 : (outC o x).length = 60 := rfl; omega }; exact (lkp_seq_ne (j := 0) (by decide) hi _ _ (Nat.le_of_ble_eq_true rfl)).trans ((lkp_put_ne (j := 0) (by decide) hi _ _ (Nat.le_of_ble_eq_true rfl)).trans (hc1.get i u h))
  exact it_a ok hf4 hw0 hd0 he0 hwF hnF heF hlen of hR1 hc5 (fun q hq => (lkp_seq_ne (j := 0) (by decide) hq _ _ (Nat.le_of_ble_eq_true rfl)).trans ((lkp_put_ne (j := 0) (by decide) hq _ _ (Nat.le_of_ble_eq_true rfl)).trans (h38 q hq))) (cellsAt_of fun i u h => putSeq_get (j := 0) z30 0 (Nat.le_of_ble_eq_true rfl) i u h) (Lim.seqH (by decide) _ 0 (Nat.le_of_ble_eq_true rfl) (Lim.putH (by decide) _ 0 (Nat.le_of_ble_eq_true rfl) (lim.consB (by decide)))) hdm (fun a H' S' w hst h1 h2 hs => ⟨it, a, H', S', rfl, hst, h1, h2, hs⟩)
/-- The dates that are told, one by one. -/
inductive Tells (r : Ru) (N : Nat) : It → Nat → List Int → Prop
  | zero {s : It} : Tells r N s 0 []
  | stop {s e : It} {k : Nat} (h : GenTo r N s e) (hr : e.rem = []) : Tells r N s (k + 1) []
  | more {s e : It} {k : Nat} {t : Int} {l : List Int} (h : GenTo r N s e) (hr : e.rem.head? = some t) (ht : Tells r N { e with rem := e.rem.tail } k l) : Tells r N s (k + 1) (t :: l)
theorem popV_nil {e : It} (h : e.rem = []) : popV e = .tuple #[.agg #[.int .i64 0, .int .i64 0], .bool false] := by unfold popV; rw [h]
theorem popV_some {e : It} {t : Int} (h : e.rem.head? = some t) : popV e = .tuple #[.agg #[.int .i64 t, .int .i64 0], .bool true] := by
  unfold popV
  cases hr : e.rem with
  | nil => rw [hr] at h; cases h
  | cons a l => rw [hr] at h; cases h; rfl
/-- The iterator's state, told of itself. -/
def St1 (F : Nat → Prop) (w0 : World) (it rb : Nat) (r : Ru) (l : Ra) (s : It) (a : Ad) (B : List (Nat × Nat)) (H : List (Nat × Value)) (S : List (Nat × Slc)) : Prop := St F w0 S H it rb r l s a B H S
theorem St.row35 {S0 : List (Nat × Slc)} {H0 : List (Nat × Value)} {r : Ru} {l : Ra} {it rb : Nat} {s : It} {a : Ad} (st : St F w0 S0 H0 it rb r l s a B H S) (q : Slc) : St1 F w0 it rb r l s a B (dropH 38 H) ((35, q) :: S) := ⟨st.hB, st.hR, ⟨st.lim.b, fun k_ h_ o_ ho_ => (lkp_dropH (by rw [ky_div ho_]; omega)).trans (st.lim.h k_ h_ o_ ho_), fun k_ h_ => (lkp_cons_ne (by omega) _ _).trans (st.lim.s k_ h_)⟩, (lkp_dropH (by decide)).trans st.h0, (lkp_dropH (by decide)).trans st.h1, (lkp_dropH (by decide)).trans st.h2, (lkp_dropH (by decide)).trans st.h3, (lkp_dropH (by decide)).trans st.h4, (lkp_dropH (by decide)).trans st.h5, (lkp_dropH (by decide)).trans st.h6, (lkp_dropH (by decide)).trans st.h7, (lkp_dropH (by decide)).trans st.h8, (lkp_dropH (by decide)).trans st.h9, (lkp_dropH (by decide)).trans st.h10, (lkp_dropH (by decide)).trans st.h11, (lkp_dropH (by decide)).trans st.h12, (lkp_dropH (by decide)).trans st.h13, (lkp_dropH (by decide)).trans st.h14, (lkp_dropH (by decide)).trans st.h15, (lkp_dropH (by decide)).trans st.h16, (lkp_dropH (by decide)).trans st.h17, (lkp_dropH (by decide)).trans st.h18, (lkp_dropH (by decide)).trans st.h19, (lkp_dropH (by decide)).trans st.h20, (lkp_dropH (by decide)).trans st.h21, (lkp_dropH (by decide)).trans st.h22, (lkp_dropH (by decide)).trans st.h23, (lkp_dropH (by decide)).trans st.h24, (lkp_dropH (by decide)).trans st.h25, (lkp_dropH (by decide)).trans st.h26, (lkp_dropH (by decide)).trans st.h27, (lkp_dropH (by decide)).trans st.h28, (lkp_dropH (by decide)).trans st.h29, st.hS0, st.hS1, st.hS2, st.hS3, st.hS4, st.hS5, st.hS6, st.hS7, st.hS8, st.hS9, st.hS10, st.hp20, st.hp21, st.hp22, st.c6, (fun _ _ _ => rfl), (fun _ _ _ _ _ => rfl), st.hq0, st.hq1, (lkp_dropH (by decide)).trans st.r38, (lkp_dropH (by decide)).trans st.r39, (lkp_dropH (by decide)).trans st.r40, (lkp_dropH (by decide)).trans st.r41, (lkp_dropH (by decide)).trans st.r42, (lkp_dropH (by decide)).trans st.r44, (lkp_dropH (by decide)).trans st.r45, (lkp_dropH (by decide)).trans st.r46, (lkp_dropH (by decide)).trans st.r47, (lkp_dropH (by decide)).trans st.r48, (lkp_dropH (by decide)).trans st.r49, (lkp_dropH (by decide)).trans st.r50, (lkp_dropH (by decide)).trans st.r51, (lkp_dropH (by decide)).trans st.r52, (lkp_dropH (by decide)).trans st.r53, (lkp_dropH (by decide)).trans st.r54, (lkp_dropH (by decide)).trans st.r55, (lkp_dropH (by decide)).trans st.r56, (lkp_dropH (by decide)).trans st.r57, (lkp_dropH (by decide)).trans st.r59, (st.hI46.to (fun k_ h1_ h2_ => by repeat (first | rfl | rw [lkp_cons_ne (by omega)]))), (st.hI47.to (fun k_ h1_ h2_ => by repeat (first | rfl | rw [lkp_cons_ne (by omega)]))), (st.hI48.to (fun k_ h1_ h2_ => by repeat (first | rfl | rw [lkp_cons_ne (by omega)]))), (st.hI49.to (fun k_ h1_ h2_ => by repeat (first | rfl | rw [lkp_cons_ne (by omega)]))), (st.hI50.to (fun k_ h1_ h2_ => by repeat (first | rfl | rw [lkp_cons_ne (by omega)]))), (st.hI51.to (fun k_ h1_ h2_ => by repeat (first | rfl | rw [lkp_cons_ne (by omega)]))), (st.hI52.to (fun k_ h1_ h2_ => by repeat (first | rfl | rw [lkp_cons_ne (by omega)]))), (st.hI54.to (fun k_ h1_ h2_ => by repeat (first | rfl | rw [lkp_cons_ne (by omega)]))), (st.hI55.to (fun k_ h1_ h2_ => by repeat (first | rfl | rw [lkp_cons_ne (by omega)]))), (st.hI56.to (fun k_ h1_ h2_ => by repeat (first | rfl | rw [lkp_cons_ne (by omega)]))), (st.hI57.to (fun k_ h1_ h2_ => by repeat (first | rfl | rw [lkp_cons_ne (by omega)]))), st.hl46, st.hl47, st.hl48, st.hl49, st.hl50, st.hl51, st.hl52, st.hl54, st.hl55, st.hl56, st.hl57⟩
theorem SrcU_old {F : Nat → Prop} {w0 : World} {S : List (Nat × Slc)} {t : Nat} {v : Value} {ps : List (Int × Int)} (h : Prs w0 v ps) (hF : ∀ b, ¬ F b) : SrcU F w0 S t v ps := fun B H S' w _ s => by
  obtain ⟨p, c, rfl, hc⟩ := h
  refine ⟨p, c, rfl, fun i x hx => ?_⟩
  obtain ⟨b, o, rfl, h1, h2⟩ := hc i x hx
  exact ⟨b, o, rfl, s.old_cell h1 (hF b), s.old_cell h2 (hF b)⟩
theorem tells_succ {r : Ru} {N : Nat} {s : It} {k : Nat} {l : List Int} (h : Tells r N s (k + 1) l) : ∃ e, GenTo r N s e ∧ ((e.rem = [] ∧ l = []) ∨ ∃ t l2, e.rem.head? = some t ∧ l = t :: l2 ∧ Tells r N { e with rem := e.rem.tail } k l2) := by
  cases h with
  | stop h hr => exact ⟨_, h, .inl ⟨hr, rfl⟩⟩
  | more h hr ht => exact ⟨_, h, .inr ⟨_, _, hr, rfl, ht⟩⟩
theorem Sees.lessH {w : World} {k : Nat} (s : Sees F w0 B H S w) : Sees F w0 B (dropH k H) S w := s.to (fun _ _ h => h) (fun j o v ho h => by
  have hjk : j ≠ k := fun e => by rw [e, lkp_dropped ho] at h; cases h
  rw [lkp_dropH (by rw [ky_div ho]; exact hjk)] at h
  obtain ⟨b, e, _⟩ := s.cells j o v ho h
  exact ⟨h, by rw [e]; rfl⟩) (fun _ _ h => h)
theorem Sees.dropRow2 {w : World} {k j : Nat} {q u : Slc} (s : Sees F w0 B H ((k, q) :: (j, u) :: S) w) (hj : lkp j S = none) (hjk : j ≠ k) : Sees F w0 B H ((k, q) :: S) w :=
  s.to (fun _ _ h => h) (fun j o v ho h => ⟨h, by obtain ⟨b, e, _⟩ := s.cells j o v ho h; rw [e]; rfl⟩) (fun i r h => by
    by_cases e : i = k
    · subst e; rw [lkp_cons_self] at h ⊢; exact h
    · rw [lkp_cons_ne e] at h ⊢
      by_cases e2 : i = j
      · subst e2; rw [hj] at h; cases h
      · rw [lkp_cons_ne e2]; exact h)
/-- The lists of a rule that comes in. -/
structure InL (w : World) (r : Rul) (x : Av) : Prop where
  i9 : Ints w (.slice x.p9 (r.setpos).length x.c9) r.setpos
  i10 : Ints w (.slice x.p10 (r.month).length x.c10) r.month
  i11 : Ints w (.slice x.p11 (r.mday).length x.c11) r.mday
  i12 : Ints w (.slice x.p12 (r.yday).length x.c12) r.yday
  i13 : Ints w (.slice x.p13 (r.weekno).length x.c13) r.weekno
  i14 : Prs w (.slice x.p14 (r.wday).length x.c14) r.wday
  i15 : Ints w (.slice x.p15 (r.hour).length x.c15) r.hour
  i16 : Ints w (.slice x.p16 (r.minute).length x.c16) r.minute
  i17 : Ints w (.slice x.p17 (r.second).length x.c17) r.second
  i18 : Ints w (.slice x.p18 (r.easter).length x.c18) r.easter
theorem first_calls {r : Rul} {x : Av} {wF : Int → List Int} {nF : Int → Int → List Int} {eF : Int → List Int} (ok : OpOk (optOf r)) (hf4 : (optOf r).freq < 4) (hw0 : (optOf r).weekno.length = 0) (hd0 : ((ruOf (optOf r) wF nF eF)).nwd.length = 0) (he0 : (optOf r).easter.length = 0) (hwF : ∀ y, wF y = []) (hnF : ∀ y m, nF y m = []) (heF : ∀ y, eF y = []) (hlen : RuLen (ruOf (optOf r) wF nF eF)) (rk : RulOk r) (vk : VbOk (optOf r)) (hdm : (optOf r).d < 315537897600) (hsort : ∀ F w0, SortOk F w0 (raw (optOf r))) (hr : RuOk (ruOf (optOf r) wF nF eF)) (hp : Plain (ruOf (optOf r) wF nF eF)) (hpres : Pres (ruOf (optOf r) wF nF eF)) {most N : Nat} (hm : most ≤ 1000000) {l : List Int} (hT : Tells (ruOf (optOf r) wF nF eF) N (it0 (optOf r) (ruOf (optOf r) wF nF eF)) most l) (w : World) (hin : InL w r x) :
    Calls Go.Proofs.Tryz.prog 6 #[.agg (rulC r x).toArray, .int .i64 most] w fun e w' => ∃ p c, e = .returned (.tuple #[.slice p l.length c, .bool true]) ∧ NewRow w w' (.slice p l.length c) 2 1 l.length (l.map (.int .i64)) := by
  refine calls_GC (args := [.agg (rulC r x).toArray, .int .i64 most]) (L := [(0, .agg (rulC r x).toArray), (1, .int .i64 most)]) (N := 38) Tryz.func6 rfl rfl (Nat.le_of_ble_eq_true rfl) rfl (Sees.start (fun _ => False) w) ?_
  refine GC_seq ?_
  refine GC_region ?_
  refine GL_at rfl (at_box 30 (cs := rulC r x) (by decide) rfl rfl rfl (fun o ho => rfl) (Nat.le_of_ble_eq_true rfl) (fun b1 hb1 => ?_))
  refine GL_rd rfl (by decide) (rd_assign rfl) ?_
  refine GL_rd rfl (by decide) (rd_assign rfl) ?_
  refine GL_nil ?_
  refine GE_then ?_
  refine GC_seq ?_
  refine GC_region ?_
  refine GL_rd rfl (by decide) ((rd_loadN 30 (cs := rulC r x) rfl rfl (put_get (rulC r x) 0 (Nat.le_of_ble_eq_true rfl)) (Nat.le_of_ble_eq_true rfl) (by kernel_rfl))) ?_
  refine GL_at rfl (at_call (ι := Option Addr × Nat) (fun y => .agg (oc0 (optOf r) { x with p14 := y.1, c14 := y.2 }).toArray) (fun _ => True) (fun _ => [(30, b1)]) (fun _ => (putKeys 30 0 (rulC r x) ++ [])) (fun y => [(11, ⟨.slice y.1 r.wday.length y.2, 46, 2, r.wday.length, pcells r.wday⟩)]) (by decide) (by kernel_rfl) rfl (fun w_ s_ => (option_calls (x := x) rk (Lim.putH (by decide) _ 0 (Nat.le_of_ble_eq_true rfl) ((Lim.nil).consB (by decide))) rfl (fun S => SrcU_old hin.i14 (fun b h => h)) w_ s_).mono fun e w' ⟨p, c, he, hs⟩ => ⟨(p, c), trivial, he, hs⟩) (fun | (p0, c0), _ => ?_))
  refine GL_at rfl (at_call (ι := Nat × Av × List (Nat × Slc)) (fun y => .tuple #[.pointer (some ⟨y.1, 0, none⟩), .nilIface]) (fun y => OutF (fun _ => False) w (optOf r) y.2.1 [(11, ⟨.slice p0 r.wday.length c0, 46, 2, r.wday.length, pcells r.wday⟩)] y.2.2) (fun y => (1, y.1) :: [(30, b1)]) (fun y => putKeys 1 0 (outC (optOf r) y.2.1) ++ (putKeys 30 0 (rulC r x) ++ [])) (fun y => y.2.2) (by decide) (by kernel_rfl) rfl (fun w_ s_ => (newRRule_calls (x := { x with p14 := p0, c14 := c0 }) ok vk (fun _ => hsort _ _) ((Lim.putH (by decide) _ 0 (Nat.le_of_ble_eq_true rfl) ((Lim.nil).consB (by decide))).consS (by decide)) rfl (fun q hq => lkp_put_ne (by decide) hq _ _ (Nat.le_of_ble_eq_true rfl)) (SrcT.old hin.i9 (fun b h => h)) (SrcT.old hin.i10 (fun b h => h)) (SrcT.old hin.i11 (fun b h => h)) (SrcT.old hin.i12 (fun b h => h)) (SrcT.old hin.i13 (fun b h => h)) (SrcU.row (t := 11) (e := 46) rfl) (SrcT.old hin.i15 (fun b h => h)) (SrcT.old hin.i16 (fun b h => h)) (SrcT.old hin.i17 (fun b h => h)) (SrcT.old hin.i18 (fun b h => h)) w_ s_).mono fun e w' ⟨rb, x', S', he, hf, hs⟩ => ⟨(rb, x', S'), hf, he, hs⟩) (fun | (rb, x2, S2), hf2 => ?_))
  refine GL_rd rfl (by decide) (rd_move rfl) ?_
  refine GL_rd rfl (by decide) (rd_extract rfl rfl) ?_
  refine GL_rd rfl (by decide) (rd_extract rfl rfl) ?_
  refine GL_rd rfl (by decide) (rd_assign rfl) ?_
  refine GL_rd rfl (by decide) (rd_assign rfl) ?_
  refine GL_nil ?_
  refine GE_then ?_
  refine GC_seq ?_
  refine GC_seq ?_
  refine GC_region ?_
  refine GL_rd rfl (by decide) (rd_move rfl) ?_
  refine GL_rd rfl (by decide) ((rd_bin (v := .bool false) rfl rfl (fun w => by kernel_rfl))) ?_
  refine GL_nil ?_
  refine GE_then ?_
  refine GC_is_false rfl rfl ?_
  refine GC_skip ?_
  refine GE_then ?_
  refine GC_seq ?_
  refine GC_region ?_
  refine GL_rd rfl (by decide) (rd_move rfl) ?_
  have hf2 : OutF (fun _ => False) w (optOf r) x2 [(11, ⟨.slice p0 r.wday.length c0, 46, 2, r.wday.length, pcells r.wday⟩)] S2 := hf2
  have hS2 : ∀ k, 26 ≤ k → lkp k S2 = none := fun k hk => by
    rcases Nat.lt_or_ge k 53 with h | h
    · rw [hf2.fr k h (by omega), lkp_cons_ne (by omega)]; rfl
    · exact hf2.lim k h
  have lim2 : Lim 40 ((1, rb) :: [(30, b1)]) (putKeys 1 0 (outC (optOf r) x2) ++ (putKeys 30 0 (rulC r x) ++ [])) S2 := ⟨fun k hk => by rw [lkp_cons_ne (by omega), lkp_cons_ne (by omega)]; rfl, fun k hk o ho => by rw [lkp_put_ne (by omega) ho _ _ (Nat.le_of_ble_eq_true rfl), lkp_put_ne (by omega) ho _ _ (Nat.le_of_ble_eq_true rfl)]; rfl, fun k hk => hS2 k (by omega)⟩
  have hk2 : ∀ k, k ≠ 1 → k ≠ 30 → ∀ q, q < 4096 → lkp (ky k q) (putKeys 1 0 (outC (optOf r) x2) ++ (putKeys 30 0 (rulC r x) ++ [])) = none := fun k h1 h30 q hq => by rw [lkp_put_ne h1 hq _ _ (Nat.le_of_ble_eq_true rfl), lkp_put_ne h30 hq _ _ (Nat.le_of_ble_eq_true rfl)]; rfl
  refine GL_at rfl (at_call (ι := Nat × Ad × List (Nat × Value) × List (Nat × Slc)) (fun y => .func (.func 27) #[.pointer (some ⟨y.1, 0, none⟩)] #[]) (fun y => St (fun _ => False) w y.2.2.2 y.2.2.1 y.1 rb (ruOf (optOf r) wF nF eF) (raOf x2) (it0 (optOf r) (ruOf (optOf r) wF nF eF)) y.2.1 ((0, y.1) :: (1, rb) :: [(30, b1)]) y.2.2.1 y.2.2.2 ∧ (∀ k, 26 ≤ k → k < 40 → lkp k y.2.2.2 = lkp k S2) ∧ (∀ q, q < 4096 → lkp (ky 38 q) y.2.2.1 = none)) (fun y => (0, y.1) :: (1, rb) :: [(30, b1)]) (fun y => y.2.2.1) (fun y => y.2.2.2) (by decide) (by kernel_rfl) rfl (fun w_ s_ => (iterator_calls ok hf4 hw0 hd0 he0 hwF hnF heF hlen hf2 rfl (put_cells _ (Nat.le_of_ble_eq_true rfl)) (hk2 38 (by decide) (by decide)) hdm rfl (hk2 0 (by decide) (by decide)) lim2 w_ s_).mono fun e w' ⟨it, a, H', S', he, h1, h2, h3, hs⟩ => ⟨(it, a, H', S'), ⟨h1, h2, h3⟩, he, hs⟩) (fun | (it, a0, H3, S3), ⟨st3, hS3, h38_3⟩ => ?_))
  refine GL_rd rfl (by decide) (rd_assign rfl) ?_
  refine GL_nil ?_
  refine GE_then ?_
  refine GC_seq ?_
  refine GC_block ?_
  refine GC_loop (ι := (List Int) × (Nat) × (It) × (Ad) × (List (Nat × Value)) × (List (Nat × Slc)) × (Option Addr) × (Nat) × (Nat) × (List Value)) (fun | ⟨acc, k, s1, a1, H1, S1, p, c, n, xs⟩ => k) (fun | ⟨acc, k, s1, a1, H1, S1, p, c, n, xs⟩ => (∃ l', l = acc ++ l' ∧ Tells (ruOf (optOf r) wF nF eF) N s1 k l') ∧ (acc.length + k = most) ∧ (St1 (fun _ => False) w it rb (ruOf (optOf r) wF nF eF) (raOf x2) s1 a1 ((0, it) :: (1, rb) :: [(30, b1)]) H1 S1) ∧ (∀ q, q < 4096 → lkp (ky 38 q) H1 = none) ∧ (lkp 35 S1 = some ⟨.slice p n c, 2, 1, n, xs⟩) ∧ (n = acc.length) ∧ (xs = acc.map (Value.int .i64))) (fun | ⟨acc, k, s1, a1, H1, S1, p, c, n, xs⟩ => [(1, .int .i64 most), (4, .slice p n c), (8, .func (.func 27) #[.pointer (some ⟨it, 0, none⟩)] #[])]) (fun | ⟨acc, k, s1, a1, H1, S1, p, c, n, xs⟩ => ((0, it) :: (1, rb) :: [(30, b1)])) (fun | ⟨acc, k, s1, a1, H1, S1, p, c, n, xs⟩ => H1) (fun | ⟨acc, k, s1, a1, H1, S1, p, c, n, xs⟩ => S1) ⟨[], most, it0 (optOf r) (ruOf (optOf r) wF nF eF), a0, dropH 38 H3, (35, ⟨.slice none 0 0, 2, 1, 0, []⟩) :: S3, none, 0, 0, []⟩ ⟨⟨l, rfl, hT⟩, by simp, St.row35 st3 _, fun q hq => lkp_dropped hq _, rfl, rfl, rfl⟩ (fun a k => k.cons rfl (k.cons rfl (k.cons rfl (k.nil)))) (fun w s => by exact (Sees.lessH (s.nilRow 35 2 1))) ?_
  rintro ⟨acc, k, s1, a1, H1, S1, p, c, n, xs⟩ ⟨hl, hk, st1, h38, hrow, hn, hx⟩
  show GC _ _ _ _ [(1, .int .i64 most), (4, .slice p n c), (8, .func (.func 27) #[.pointer (some ⟨it, 0, none⟩)] #[])] _ _ (((0, it) :: (1, rb) :: [(30, b1)])) (H1) (S1)
  refine GC_seq ?_
  refine GC_seq ?_
  refine GC_region ?_
  refine GL_rd rfl (by decide) (rd_move rfl) ?_
  refine GL_rd rfl (by decide) (rd_len (by kernel_rfl) rfl) ?_
  refine GL_rd rfl (by decide) (rd_move rfl) ?_
  refine GL_rd rfl (by decide) (rd_lss rfl rfl) ?_
  refine GL_nil ?_
  refine GE_then ?_
  refine GC_cond rfl (fun hc1 => ?_) (fun hc2 => ?_)
  · skip
    have hlt : n < most := by have := of_decide_eq_true hc1; omega
    obtain ⟨k, rfl⟩ : ∃ j, k = j + 1 := ⟨k - 1, by omega⟩
    obtain ⟨l', hl0, hT1⟩ := hl
    obtain ⟨e, hG, hways⟩ := tells_succ hT1
    refine GC_skip ?_
    refine GE_then ?_
    refine GC_block ?_
    refine GC_seq ?_
    rcases hways with ⟨hre, hl1⟩ | ⟨t, l2, hre, hl1, ht2⟩
    · have hpv := popV_nil hre
      refine GC_region ?_
      refine GL_rd rfl (by decide) (rd_move rfl) ?_
      refine GL_at rfl (at_callv (ι := Ad × List (Nat × Value) × List (Nat × Slc)) (first := [.pointer (some ⟨it, 0, none⟩)]) (capt := []) (fun _ => popV e) (fun y => St (fun _ => False) w S1 H1 it rb (ruOf (optOf r) wF nF eF) (raOf x2) { e with rem := e.rem.tail } y.1 ((0, it) :: (1, rb) :: [(30, b1)]) y.2.1 y.2.2) (fun _ => ((0, it) :: (1, rb) :: [(30, b1)])) (fun y => y.2.1) (fun y => y.2.2) (by decide) rfl (by kernel_rfl) rfl (fun w_ s_ => (next_calls st1 rfl h38 hr hp hpres hG w_ s_).mono fun e2 w' ⟨a', H', S', he, hst, hs⟩ => ⟨(a', H', S'), hst, he, hs⟩) (fun | (a2, H2, S2'), st2 => ?_))
      have st2 : St (fun _ => False) w S1 H1 it rb (ruOf (optOf r) wF nF eF) (raOf x2) { e with rem := e.rem.tail } a2 ((0, it) :: (1, rb) :: [(30, b1)]) H2 S2' := st2
      rw [hpv]
      have hrow2 : lkp 35 S2' = some ⟨.slice p n c, 2, 1, n, xs⟩ := (st2.frS 35 (by decide) (by decide)).trans hrow
      refine GL_rd rfl (by decide) (rd_move rfl) ?_
      refine GL_rd rfl (by decide) (rd_extract rfl rfl) ?_
      refine GL_rd rfl (by decide) (rd_extract rfl rfl) ?_
      refine GL_at rfl (at_alloc 38 (cs := [.int .i64 0, .int .i64 0]) (by decide) (by kernel_rfl) rfl (fun o ho => (st2.frH 38 (by decide) (by decide) o ho).trans (h38 o ho)) (Nat.le_of_ble_eq_true rfl) (fun b9 hb9 => ?_))
      refine GL_at rfl (at_storeAgg 38 rfl rfl rfl rfl (by kernel_rfl) rfl (Nat.le_of_ble_eq_true rfl) ?_)
      refine GL_rd rfl (by decide) (rd_assign rfl) ?_
      refine GL_nil ?_
      refine GE_then ?_
      refine GC_seq ?_
      refine GC_seq ?_
      refine GC_region ?_
      refine GL_rd rfl (by decide) (rd_move rfl) ?_
      refine GL_rd rfl (by decide) (rd_not rfl) ?_
      refine GL_nil ?_
      refine GE_then ?_
      refine GC_is_true rfl rfl ?_
      refine GC_exit ?_
      refine GE_then_exit ?_
      refine GE_in_other (by decide) ?_
      refine GE_then_exit ?_
      refine GE_in_self ?_
      refine GE_then ?_
      refine GC_seq ?_
      refine GC_region ?_
      refine GL_rd rfl (by decide) (rd_move rfl) ?_
      refine GL_rd rfl (by decide) (rd_assign rfl) ?_
      refine GL_rd rfl (by decide) (rd_assign rfl) ?_
      refine GL_nil ?_
      refine GE_then ?_
      refine GC_ret ?_
      rw [hl1, List.append_nil] at hl0
      subst hl0 hn hx
      refine GE_ret2 (.inl rfl) rfl (res_tmp rfl) (res_tmp rfl) fun w_ s_ => ⟨p, c, rfl, ?_⟩
      have h := s_.toNew (k := 35) hrow2
      exact h
    · have hpv := popV_some hre
      refine GC_region ?_
      refine GL_rd rfl (by decide) (rd_move rfl) ?_
      refine GL_at rfl (at_callv (ι := Ad × List (Nat × Value) × List (Nat × Slc)) (first := [.pointer (some ⟨it, 0, none⟩)]) (capt := []) (fun _ => popV e) (fun y => St (fun _ => False) w S1 H1 it rb (ruOf (optOf r) wF nF eF) (raOf x2) { e with rem := e.rem.tail } y.1 ((0, it) :: (1, rb) :: [(30, b1)]) y.2.1 y.2.2) (fun _ => ((0, it) :: (1, rb) :: [(30, b1)])) (fun y => y.2.1) (fun y => y.2.2) (by decide) rfl (by kernel_rfl) rfl (fun w_ s_ => (next_calls st1 rfl h38 hr hp hpres hG w_ s_).mono fun e2 w' ⟨a', H', S', he, hst, hs⟩ => ⟨(a', H', S'), hst, he, hs⟩) (fun | (a2, H2, S2'), st2 => ?_))
      have st2 : St (fun _ => False) w S1 H1 it rb (ruOf (optOf r) wF nF eF) (raOf x2) { e with rem := e.rem.tail } a2 ((0, it) :: (1, rb) :: [(30, b1)]) H2 S2' := st2
      rw [hpv]
      have hrow2 : lkp 35 S2' = some ⟨.slice p n c, 2, 1, n, xs⟩ := (st2.frS 35 (by decide) (by decide)).trans hrow
      refine GL_rd rfl (by decide) (rd_move rfl) ?_
      refine GL_rd rfl (by decide) (rd_extract rfl rfl) ?_
      refine GL_rd rfl (by decide) (rd_extract rfl rfl) ?_
      refine GL_at rfl (at_alloc 38 (cs := [.int .i64 0, .int .i64 0]) (by decide) (by kernel_rfl) rfl (fun o ho => (st2.frH 38 (by decide) (by decide) o ho).trans (h38 o ho)) (Nat.le_of_ble_eq_true rfl) (fun b9 hb9 => ?_))
      refine GL_at rfl (at_storeAgg 38 rfl rfl rfl rfl (by kernel_rfl) rfl (Nat.le_of_ble_eq_true rfl) ?_)
      refine GL_rd rfl (by decide) (rd_assign rfl) ?_
      refine GL_nil ?_
      refine GE_then ?_
      refine GC_seq ?_
      refine GC_seq ?_
      refine GC_region ?_
      refine GL_rd rfl (by decide) (rd_move rfl) ?_
      refine GL_rd rfl (by decide) (rd_not rfl) ?_
      refine GL_nil ?_
      refine GE_then ?_
      refine GC_is_false rfl rfl ?_
      refine GC_skip ?_
      refine GE_then ?_
      refine GC_region ?_
      refine GL_rd rfl (by decide) (rd_move rfl) ?_
      refine GL_rd rfl (by decide) (rd_load2 38 rfl rfl rfl rfl (by kernel_rfl) (by decide)) ?_
      refine GL_at rfl (at_call_v (by decide) (by kernel_rfl) rfl (fun w_ s_ => seconds_calls _ _ w_) ?_)
      refine GL_at rfl (at_one_ 60 (e := 2) (sz := 1) (by_ := 8) (zs := [.int .i64 0]) (by decide) (by kernel_rfl) rfl (by decide) (by decide) rfl rfl rfl (fun bo => ?_))
      refine GL_at rfl (at_append 35 60 (e := 2) (sz := 1) (by_ := 8) (zs := [.int .i64 0]) (q := ⟨.slice p n c, 2, 1, n, xs⟩) (by decide) (by kernel_rfl) rfl (by decide) rfl rfl hrow2 rfl ⟨rfl, rfl⟩ ⟨rfl, rfl⟩ (ints_one (xs := [t])) (by simp only; omega) (by simp only; omega) (fun p' c' => ?_))
      have hback : ∀ {w1 : World} {u1 : Slc} {Hx : List (Nat × Value)}, Sees (fun _ => False) w ((38, b9) :: ((0, it) :: (1, rb) :: [(30, b1)])) Hx ((35, ⟨.slice p' (n + 1) c', 2, 1, (n + 1), (xs ++ [.int .i64 t])⟩) :: (60, u1) :: S2') w1 → dropH 38 Hx = dropH 38 H2 → Sees (fun _ => False) w ((0, it) :: (1, rb) :: [(30, b1)]) (dropH 38 H2) ((35, ⟨.slice p' (n + 1) c', 2, 1, (n + 1), (xs ++ [.int .i64 t])⟩) :: S2') w1 := fun s hx => by have s2 := Sees.dropTag s rfl; rw [hx] at s2; exact Sees.dropRow2 s2 (st2.lim.s 60 (by decide)) (by decide)
      refine GL_rd rfl (by decide) (rd_assign rfl) ?_
      refine GL_nil ?_
      refine GE_in ?_
      refine GE_back ⟨acc ++ [t], k, { e with rem := e.rem.tail }, a2, dropH 38 H2, (35, ⟨.slice p' (n + 1) c', 2, 1, (n + 1), (xs ++ [.int .i64 t])⟩) :: S2', p', c', n + 1, xs ++ [.int .i64 t]⟩ (by simp only; omega) ⟨⟨l2, by rw [hl0, hl1, List.append_assoc]; rfl, ht2⟩, by rw [List.length_append]; simp only [List.length_singleton]; omega, St.row35 st2 _, fun q hq => lkp_dropped hq _, rfl, by rw [List.length_append, hn]; rfl, by rw [hx]; simp⟩ (fun a k => k.cons rfl (k.cons rfl (k.cons rfl (k.nil)))) (fun w s => by exact hback s (by rw [dropH_seq _ _ (Nat.le_of_ble_eq_true rfl), dropH_put _ _ (Nat.le_of_ble_eq_true rfl)]))
  · skip
    have hge : ¬ n < most := by have := of_decide_eq_false hc2; omega
    obtain rfl : k = 0 := by omega
    obtain ⟨l', hl0, hT1⟩ := hl
    cases hT1
    rw [List.append_nil] at hl0
    subst hl0 hn hx
    refine GC_exit ?_
    refine GE_then_exit ?_
    refine GE_then_exit ?_
    refine GE_in_self ?_
    refine GE_then ?_
    refine GC_seq ?_
    refine GC_region ?_
    refine GL_rd rfl (by decide) (rd_move rfl) ?_
    refine GL_rd rfl (by decide) (rd_assign rfl) ?_
    refine GL_rd rfl (by decide) (rd_assign rfl) ?_
    refine GL_nil ?_
    refine GE_then ?_
    refine GC_ret ?_
    refine GE_ret2 (.inl rfl) rfl (res_tmp rfl) (res_tmp rfl) fun w_ s_ => ⟨p, c, rfl, ?_⟩
    have h := s_.toNew (k := 35) hrow
    exact h
end
end Go.Proofs.YtfcklceejjmjeaaGreat
