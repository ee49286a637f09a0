/-
  The iterator of a rule by days and what is longer.
-/
import Derived.Test.YtfcklceejjmjeaaGreatProg
import Derived.Test.YtfcklceejjmjeaaGreatMd
import Derived.Test.YtfcklceejjmjeaaGreatFg
import Derived.Test.YtfcklceejjmjeaaGreatIter
set_option linter.unusedVariables false
set_option linter.unusedSimpArgs false
set_option maxRecDepth 100000
set_option maxHeartbeats 8000000
namespace Go.Proofs.YtfcklceejjmjeaaGreat
open Go.RowKit Go.Fr Go.Tab
section
variable {F : Nat → Prop} {w0 : World} {B : List (Nat × Nat)} {H : List (Nat × Value)} {S : List (Nat × Slc)}

open Go.Md
def z30 : List Value := [.int .i64 0, .int .i64 0, .int .i64 0, .int .i64 0, .int .i64 0, .int .i64 0, .int .i64 0, .pointer none, .int .i64 0, .int .i64 0, .int .i64 0, .int .i64 0, .int .i64 0, .int .i64 0, .int .i64 0, .slice none 0 0, .slice none 0 0, .slice none 0 0, .slice none 0 0, .slice none 0 0, .slice none 0 0, .slice none 0 0, .slice none 0 0, .slice none 0 0, .int .i64 0, .int .i64 0, .slice none 0 0, .slice none 0 0, .bool false, .slice none 0 0]
/-- The iterator at its begin. -/
def it0 (o : Opn) (r : Ru) : It where
  y := Cal.yearOf (o.d / 86400)
  mo := Cal.monthOf (o.d / 86400)
  d := Cal.mdayOf (o.d / 86400)
  h := o.d % 86400 / 3600
  mi := o.d % 86400 / 60 % 60
  s := o.d % 86400 % 60
  wd := ((o.d / 86400 + 1) % 7 + 6) % 7
  ly := Cal.yearOf (o.d / 86400)
  lm := Cal.monthOf (o.d / 86400)
  wno := r.wnoF (Cal.yearOf (o.d / 86400))
  nwm := r.nwmF (Cal.yearOf (o.d / 86400)) (Cal.monthOf (o.d / 86400))
  eas := r.easF (Cal.yearOf (o.d / 86400))
  ts := tset o
  total := 0
  count := o.count
  rem := []
  fin := false
def raOf (x : Av) : Ra := ⟨x.p9, x.c9, x.pm, x.cm, x.q48, x.e48, x.q49, x.e49, x.p12, x.c12, x.p13, x.c13, x.q52, x.e52, x.q53, x.e53, x.q54, x.e54, x.q55, x.e55, x.q56, x.e56, x.p18, x.c18⟩
structure RuLen (r : Ru) : Prop where
  l46 : r.setpos.length ≤ 1000000000
  l47 : r.month.length ≤ 1000000000
  l48 : r.mday.length ≤ 1000000000
  l49 : r.nmday.length ≤ 1000000000
  l50 : r.yday.length ≤ 1000000000
  l51 : r.weekno.length ≤ 1000000000
  l52 : r.wday.length ≤ 1000000000
  l54 : r.hour.length ≤ 1000000000
  l55 : r.minute.length ≤ 1000000000
  l56 : r.second.length ≤ 1000000000
  l57 : r.easter.length ≤ 1000000000
theorem year_pos {d : Int} (h : 0 ≤ d) : 1 ≤ Cal.yearOf d := by
  obtain ⟨e, h0, h1⟩ := Cal.split_spec d
  have := Cal.lp_01 (Cal.yearOf d)
  unfold Cal.daysTo at e
  omega
theorem year_max {d : Int} (h : d < 3652059) : Cal.yearOf d ≤ 9999 := by
  obtain ⟨e, h0, h1⟩ := Cal.split_spec d
  rcases Int.lt_or_le 9999 (Cal.yearOf d) with hh | hh
  · have := Cal.daysTo_mono (show (10000 : Int) ≤ Cal.yearOf d by omega)
    have e2 : Cal.daysTo 10000 = 3652059 := by decide
    omega
  · exact hh
def z5 (o : Opn) (rb : Nat) : List Value := [.int .i64 (Cal.yearOf (o.d / 86400)), .int .i64 (Cal.monthOf (o.d / 86400)), .int .i64 (Cal.mdayOf (o.d / 86400)), .int .i64 (o.d % 86400 / 3600), .int .i64 (o.d % 86400 / 60 % 60), .int .i64 (o.d % 86400 % 60), .int .i64 (((o.d / 86400 + 1) % 7 + 6) % 7), .pointer (some ⟨rb, 0, none⟩), .int .i64 0, .int .i64 0, .int .i64 0, .int .i64 0, .int .i64 0, .int .i64 0, .int .i64 0, .slice none 0 0, .slice none 0 0, .slice none 0 0, .slice none 0 0, .slice none 0 0, .slice none 0 0, .slice none 0 0, .slice none 0 0, .slice none 0 0, .int .i64 0, .int .i64 0, .slice none 0 0, .slice none 0 0, .bool false, .slice none 0 0]
theorem it_b {R : Ending → World → Prop} {o : Opn} {x : Av} {wF : Int → List Int} {nF : Int → Int → List Int} {eF : Int → List Int} (ok : OpOk o) (hf4 : o.freq < 4) (hw0 : o.weekno.length = 0) (hd0 : ((ruOf o wF nF eF)).nwd.length = 0) (he0 : o.easter.length = 0) (hwF : ∀ y, wF y = []) (hnF : ∀ y m, nF y m = []) (heF : ∀ y, eF y = []) (hlen : RuLen (ruOf o wF nF eF)) {rb : Nat} {S0 : List (Nat × Slc)} (of : OutF F w0 o x S0 S) (hR1 : lkp 1 B = some rb) (hc1 : cellsAt 1 H 0 (outC o x)) (h38 : ∀ q, q < 4096 → lkp (ky 38 q) H = none) {it : Nat} (h0 : cellsAt 0 H 0 (z5 o rb)) (lim : Lim 40 ((0, it) :: B) H S) (hdm : o.d < 315537897600) (hR : ∀ a H' S' w, St F w0 S' H' it rb (ruOf o wF nF eF) (raOf x) (it0 o (ruOf o wF nF eF)) a ((0, it) :: B) H' S' → (∀ k, 26 ≤ k → k < 40 → lkp k S' = lkp k S) → (∀ q, q < 4096 → lkp (ky 38 q) H' = none) → Sees F w0 ((0, it) :: B) H' S' w → R (.returned (.func (.func 27) #[.pointer (some ⟨it, 0, none⟩)] #[])) w) :
    GC Go.Proofs.Tryz.prog (Go.Fr.part [1, 1, 1, 1, 1, 1] (Go.Fr.bodyOf Tryz.f13)) (bodyPost Go.Proofs.Tryz.prog Tryz.f13 R) 148 [(0, .pointer (some ⟨rb, 0, none⟩)), (3, .pointer (some ⟨it, 0, none⟩))] F w0 ((0, it) :: B) H S := by
  have hd_ := ok.d
  have hyp_ := year_pos (d := o.d / 86400) (by omega)
  have hyd := split_bd0 (x := o.d) (by omega)
  have hym := year_max (d := o.d / 86400) (by omega)
  have hr51 : lkp (ky 1 51) H = some (.slice x.p13 0 x.c13) := by have := hc1.get 51 _ rfl; rw [hw0] at this; exact this
  have hr53 : lkp (ky 1 53) H = some (.slice x.q53 0 x.e53) := by have := hc1.get 53 _ rfl; rw [show (List.filter (fun y => !plainW o.freq y) (wday' o)).length = 0 from hd0] at this; exact this
  have hr57 : lkp (ky 1 57) H = some (.slice x.p18 0 x.c18) := by have := hc1.get 57 _ rfl; rw [he0] at this; exact this
  refine GC_seq ?_
  refine GC_region ?_
  refine GL_rd rfl (by decide) (rd_fieldAddr (j := 7) (by kernel_rfl) rfl) ?_
  refine GL_rd rfl (by decide) (rd_fieldAddr (j := 0) (by kernel_rfl) rfl) ?_
  refine GL_rd rfl (by decide) (rd_load 0 rfl rfl (h0.get 0 _ rfl) (by kernel_rfl) (by decide)) ?_
  refine GL_rd rfl (by decide) (rd_fieldAddr (j := 1) (by kernel_rfl) rfl) ?_
  refine GL_rd rfl (by decide) (rd_load 0 rfl rfl (h0.get 1 _ rfl) (by kernel_rfl) (by decide)) ?_
  refine GL_at rfl (at_call_new (B := (0, it) :: B) (H := H) (S := S) (yv := Cal.yearOf (o.d / 86400)) (mv := Cal.monthOf (o.d / 86400)) (by decide) (by kernel_rfl) rfl (fun w_ s_ => new_year (B := (0, it) :: B) (H := H) (S := S) (ly := 0) (lm := 0) rfl hR1 (h0.get 7 _ rfl) (h0.get 8 _ rfl) (h0.get 9 _ rfl) hr51 hr53 hr57 (hc1.get 39 _ rfl) (hc1.get 40 _ rfl) (h0.get 10 _ rfl) (h0.get 11 _ rfl) (h0.get 12 _ rfl) (h0.get 13 _ rfl) (h0.get 14 _ rfl) (h0.get 15 _ rfl) (h0.get 16 _ rfl) (h0.get 17 _ rfl) (h0.get 18 _ rfl) (h0.get 19 _ rfl) (h0.get 20 _ rfl) (by omega) (by omega) w_ s_) (fun b6 c6 b3 c3 b4 c4 b5 c5 b7 c7 h385 => ?_))
  refine GL_nil ?_
  refine GE_then ?_
  refine GC_seq ?_
  refine GC_seq ?_
  refine GC_region ?_
  refine GL_rd rfl (by decide) (rd_move rfl) ?_
  refine GL_rd rfl (by decide) (rd_nilCheck rfl) ?_
  refine GL_rd rfl (by decide) (rd_fieldAddr (j := 38) (by kernel_rfl) rfl) ?_
  refine GL_rd rfl (by decide) (rd_load 1 rfl hR1 (hc1.get 38 _ rfl) (by kernel_rfl) (by decide)) ?_
  refine GL_rd rfl (by decide) (rd_lss rfl rfl) ?_
  refine GL_nil ?_
  refine GE_then ?_
  refine GC_is_true rfl (decide_eq_true hf4) ?_
  refine GC_region ?_
  refine GL_rd rfl (by decide) (rd_move rfl) ?_
  refine GL_rd rfl (by decide) (rd_nilCheck rfl) ?_
  refine GL_rd rfl (by decide) (rd_fieldAddr (j := 58) (by kernel_rfl) rfl) ?_
  refine GL_rd rfl (by decide) (rd_load 1 rfl hR1 (hc1.get 58 _ rfl) (by kernel_rfl) (by decide)) ?_
  refine GL_rd rfl (by decide) (rd_fieldAddr (j := 23) (by kernel_rfl) rfl) ?_
  refine GL_at rfl (at_store 0 rfl rfl rfl (h0.get 23 _ rfl) (by kernel_rfl) rfl (by decide) ?_)
  refine GL_nil ?_
  refine GE_then ?_
  refine GC_seq ?_
  refine GC_region ?_
  refine GL_rd rfl (by decide) (rd_move rfl) ?_
  refine GL_rd rfl (by decide) (rd_nilCheck rfl) ?_
  refine GL_rd rfl (by decide) (rd_fieldAddr (j := 43) (by kernel_rfl) rfl) ?_
  refine GL_rd rfl (by decide) (rd_load 1 rfl hR1 (hc1.get 43 _ rfl) (by kernel_rfl) (by decide)) ?_
  refine GL_rd rfl (by decide) (rd_fieldAddr (j := 25) (by kernel_rfl) rfl) ?_
  refine GL_at rfl (at_store 0 rfl rfl rfl (h0.get 25 _ rfl) (by kernel_rfl) rfl (by decide) ?_)
  refine GL_nil ?_
  refine GE_then ?_
  refine GC_seq ?_
  refine GC_region ?_
  refine GL_rd rfl (by decide) ((rd_makeFunc (first := [.pointer (some ⟨it, 0, none⟩)]) (capt := []) rfl rfl)) ?_
  refine GL_rd rfl (by decide) (rd_assign rfl) ?_
  refine GL_nil ?_
  refine GE_then ?_
  refine GC_ret ?_
  refine GE_ret1 (.inl rfl) rfl (res_tmp rfl) fun w s => ?_
  have s := (s.nilRow 1 128 2).nilRow 0 44 2
  have e_w : (it0 o (ruOf o wF nF eF)).wno.length = 0 := by show (wF _).length = 0; rw [hwF]; rfl
  have e_n : (it0 o (ruOf o wF nF eF)).nwm.length = 0 := by show (nF _ _).length = 0; rw [hnF]; rfl
  have e_e : (it0 o (ruOf o wF nF eF)).eas.length = 0 := by show (eF _).length = 0; rw [heF]; rfl
  have fin : ∀ (a : Ad) {H' : List (Nat × Value)} {S' : List (Nat × Slc)}, Sees F w0 ((0, it) :: B) H' S' w → St F w0 S' H' it rb (ruOf o wF nF eF) (raOf x) (it0 o (ruOf o wF nF eF)) a ((0, it) :: B) H' S' → (∀ k, 26 ≤ k → k < 40 → lkp k S' = lkp k S) → (∀ q, q < 4096 → lkp (ky 38 q) H' = none) → R (.returned (.func (.func 27) #[.pointer (some ⟨it, 0, none⟩)] #[])) w := fun a _ _ s h1 h2 h3 => hR a _ _ w h1 h2 h3 s
  refine fin ({ b3 := b3, c3 := c3, b4 := b4, c4 := c4, b5 := b5, c5 := c5, b6 := b6, c6 := c6, b7 := b7, c7 := c7, p20 := none, c20 := 0, p21 := none, c21 := 0, p22 := none, c22 := 0, tp := x.tp, tc := x.tc, rp := none, rc := 0, rs := none, rk := 0, rn := 0, rj := 0, rall := [], bk := .slice none 0 0, dp := none, dc := 0, dn := 0, dxs := [], ln := .int .i64 0 } : Ad) s ⟨rfl, hR1, (by repeat (first | exact lim | apply Lim.consH _ (by decide) (by decide) | apply Lim.consS _ (by decide))), (h0.get 0 _ rfl), (h0.get 1 _ rfl), (h0.get 2 _ rfl), (h0.get 3 _ rfl), (h0.get 4 _ rfl), (h0.get 5 _ rfl), (h0.get 6 _ rfl), (h0.get 7 _ rfl), rfl, rfl, rfl, rfl, rfl, rfl, rfl, rfl, rfl, rfl, rfl, rfl, (show lkp (ky 0 20) _ = some (Value.slice none (it0 o (ruOf o wF nF eF)).wno.length 0) from by rw [e_w]; exact rfl), (show lkp (ky 0 21) _ = some (Value.slice none (it0 o (ruOf o wF nF eF)).nwm.length 0) from by rw [e_n]; exact h0.get 21 _ rfl), (show lkp (ky 0 22) _ = some (Value.slice none (it0 o (ruOf o wF nF eF)).eas.length 0) from by rw [e_e]; exact h0.get 22 _ rfl), rfl, (h0.get 24 _ rfl), rfl, (h0.get 26 _ rfl), (h0.get 27 _ rfl), (h0.get 28 _ rfl), (h0.get 29 _ rfl), rfl, rfl, (of.r2 hf4), rfl, rfl, rfl, rfl, rfl, (fun h => absurd h (by rw [e_w]; decide)), (fun h => absurd h (by rw [e_n]; decide)), (fun h => absurd h (by rw [e_e]; decide)), (fun h => absurd h (by rw [e_w]; decide)), (fun h => absurd h (by rw [e_n]; decide)), (fun h => absurd h (by rw [e_e]; decide)), h385, (fun _ _ _ => rfl), (fun _ _ _ _ _ => rfl), (fun _ => ⟨rfl, rfl, rfl, rfl⟩), (fun h => absurd rfl h), (hc1.get 38 _ rfl), (hc1.get 39 _ rfl), (hc1.get 40 _ rfl), (hc1.get 41 _ rfl), (hc1.get 42 _ rfl), (hc1.get 44 _ rfl), (hc1.get 45 _ rfl), (hc1.get 46 _ rfl), (hc1.get 47 _ rfl), (hc1.get 48 _ rfl), (hc1.get 49 _ rfl), (hc1.get 50 _ rfl), (hc1.get 51 _ rfl), (hc1.get 52 _ rfl), (hc1.get 53 _ rfl), (hc1.get 54 _ rfl), (hc1.get 55 _ rfl), (hc1.get 56 _ rfl), (hc1.get 57 _ rfl), (hc1.get 59 _ rfl), ((of.s9.toI (by decide)).to (fun k_ h1_ h2_ => by repeat (first | rfl | rw [lkp_cons_ne (by omega)]))), ((of.sm.toI (by decide)).to (fun k_ h1_ h2_ => by repeat (first | rfl | rw [lkp_cons_ne (by omega)]))), ((SrcI.row (by decide) of.r12).to (fun k_ h1_ h2_ => by repeat (first | rfl | rw [lkp_cons_ne (by omega)]))), ((SrcI.row (by decide) of.r13).to (fun k_ h1_ h2_ => by repeat (first | rfl | rw [lkp_cons_ne (by omega)]))), ((of.s12.toI (by decide)).to (fun k_ h1_ h2_ => by repeat (first | rfl | rw [lkp_cons_ne (by omega)]))), ((of.s13.toI (by decide)).to (fun k_ h1_ h2_ => by repeat (first | rfl | rw [lkp_cons_ne (by omega)]))), ((SrcI.row (by decide) of.r14).to (fun k_ h1_ h2_ => by repeat (first | rfl | rw [lkp_cons_ne (by omega)]))), ((of.sh.toI (by decide)).to (fun k_ h1_ h2_ => by repeat (first | rfl | rw [lkp_cons_ne (by omega)]))), ((of.si.toI (by decide)).to (fun k_ h1_ h2_ => by repeat (first | rfl | rw [lkp_cons_ne (by omega)]))), ((of.ss.toI (by decide)).to (fun k_ h1_ h2_ => by repeat (first | rfl | rw [lkp_cons_ne (by omega)]))), ((of.s18.toI (by decide)).to (fun k_ h1_ h2_ => by repeat (first | rfl | rw [lkp_cons_ne (by omega)]))), hlen.l46, hlen.l47, hlen.l48, hlen.l49, hlen.l50, hlen.l51, hlen.l52, hlen.l54, hlen.l55, hlen.l56, hlen.l57⟩ (fun k h1 h2 => by repeat (first | rfl | rw [lkp_cons_ne (by omega)])) (fun q hq => ?_)
  repeat (first | exact h38 q hq | rw [lkp_ky_ne (by decide) hq (by decide)])
theorem it_a {R : Ending → World → Prop} {o : Opn} {x : Av} {wF : Int → List Int} {nF : Int → Int → List Int} {eF : Int → List Int} (ok : OpOk o) (hf4 : o.freq < 4) (hw0 : o.weekno.length = 0) (hd0 : ((ruOf o wF nF eF)).nwd.length = 0) (he0 : o.easter.length = 0) (hwF : ∀ y, wF y = []) (hnF : ∀ y m, nF y m = []) (heF : ∀ y, eF y = []) (hlen : RuLen (ruOf o wF nF eF)) {rb : Nat} {S0 : List (Nat × Slc)} (of : OutF F w0 o x S0 S) (hR1 : lkp 1 B = some rb) (hc1 : cellsAt 1 H 0 (outC o x)) (h38 : ∀ q, q < 4096 → lkp (ky 38 q) H = none) {it : Nat} (h0 : cellsAt 0 H 0 z30) (lim : Lim 40 ((0, it) :: B) H S) (hdm : o.d < 315537897600) (hR : ∀ a H' S' w, St F w0 S' H' it rb (ruOf o wF nF eF) (raOf x) (it0 o (ruOf o wF nF eF)) a ((0, it) :: B) H' S' → (∀ k, 26 ≤ k → k < 40 → lkp k S' = lkp k S) → (∀ q, q < 4096 → lkp (ky 38 q) H' = none) → Sees F w0 ((0, it) :: B) H' S' w → R (.returned (.func (.func 27) #[.pointer (some ⟨it, 0, none⟩)] #[])) w) :
    GC Go.Proofs.Tryz.prog (Go.Fr.part [1, 1] (Go.Fr.bodyOf Tryz.f13)) (bodyPost Go.Proofs.Tryz.prog Tryz.f13 R) 148 [(0, .pointer (some ⟨rb, 0, none⟩)), (3, .pointer (some ⟨it, 0, none⟩))] F w0 ((0, it) :: B) H S := by
  have hd_ := ok.d
  have hyp_ := year_pos (d := o.d / 86400) (by omega)
  have hyd := split_bd0 (x := o.d) (by omega)
  refine GC_seq ?_
  refine GC_region ?_
  refine GL_rd rfl (by decide) (rd_move rfl) ?_
  refine GL_rd rfl (by decide) (rd_nilCheck rfl) ?_
  refine GL_rd rfl (by decide) (rd_fieldAddr (j := 39) (by kernel_rfl) rfl) ?_
  refine GL_rd rfl (by decide) (rd_load2 1 rfl hR1 (hc1.get 39 _ rfl) (hc1.get 40 _ rfl) (by kernel_rfl) (by decide)) ?_
  refine GL_at rfl (at_call_v (v := .tuple #[.int .i64 (Cal.yearOf (o.d / 86400)), .int .i64 (Cal.monthOf (o.d / 86400)), .int .i64 (Cal.mdayOf (o.d / 86400))]) (by decide) (by kernel_rfl) rfl (fun w_ s_ => (date_calls _ _ (by omega) w_).mono fun e_ w2_ h_ => ⟨h_.1.trans (congrArg Ending.returned rfl), h_.2⟩) ?_)
  refine GL_rd rfl (by decide) (rd_move rfl) ?_
  refine GL_rd rfl (by decide) (rd_extract rfl rfl) ?_
  refine GL_rd rfl (by decide) (rd_extract rfl rfl) ?_
  refine GL_rd rfl (by decide) (rd_extract rfl rfl) ?_
  refine GL_rd rfl (by decide) (rd_fieldAddr (j := 0) (by kernel_rfl) rfl) ?_
  refine GL_at rfl (at_store 0 rfl rfl rfl (h0.get 0 _ rfl) (by kernel_rfl) rfl (by decide) ?_)
  refine GL_rd rfl (by decide) (rd_fieldAddr (j := 1) (by kernel_rfl) rfl) ?_
  refine GL_at rfl (at_store 0 rfl rfl rfl (h0.get 1 _ rfl) (by kernel_rfl) rfl (by decide) ?_)
  refine GL_rd rfl (by decide) (rd_fieldAddr (j := 2) (by kernel_rfl) rfl) ?_
  refine GL_at rfl (at_store 0 rfl rfl rfl (h0.get 2 _ rfl) (by kernel_rfl) rfl (by decide) ?_)
  refine GL_nil ?_
  refine GE_then ?_
  refine GC_seq ?_
  refine GC_region ?_
  refine GL_rd rfl (by decide) (rd_move rfl) ?_
  refine GL_rd rfl (by decide) (rd_nilCheck rfl) ?_
  refine GL_rd rfl (by decide) (rd_fieldAddr (j := 39) (by kernel_rfl) rfl) ?_
  refine GL_rd rfl (by decide) (rd_load2 1 rfl hR1 (hc1.get 39 _ rfl) (hc1.get 40 _ rfl) (by kernel_rfl) (by decide)) ?_
  refine GL_at rfl (at_call_v (v := .tuple #[.int .i64 (o.d % 86400 / 3600), .int .i64 (o.d % 86400 / 60 % 60), .int .i64 (o.d % 86400 % 60)]) (by decide) (by kernel_rfl) rfl (fun w_ s_ => (clock_calls _ _ (by omega) w_).mono fun e_ w2_ h_ => ⟨h_.1.trans (congrArg Ending.returned rfl), h_.2⟩) ?_)
  refine GL_rd rfl (by decide) (rd_move rfl) ?_
  refine GL_rd rfl (by decide) (rd_extract rfl rfl) ?_
  refine GL_rd rfl (by decide) (rd_extract rfl rfl) ?_
  refine GL_rd rfl (by decide) (rd_extract rfl rfl) ?_
  refine GL_rd rfl (by decide) (rd_fieldAddr (j := 3) (by kernel_rfl) rfl) ?_
  refine GL_at rfl (at_store 0 rfl rfl rfl (h0.get 3 _ rfl) (by kernel_rfl) rfl (by decide) ?_)
  refine GL_rd rfl (by decide) (rd_fieldAddr (j := 4) (by kernel_rfl) rfl) ?_
  refine GL_at rfl (at_store 0 rfl rfl rfl (h0.get 4 _ rfl) (by kernel_rfl) rfl (by decide) ?_)
  refine GL_rd rfl (by decide) (rd_fieldAddr (j := 5) (by kernel_rfl) rfl) ?_
  refine GL_at rfl (at_store 0 rfl rfl rfl (h0.get 5 _ rfl) (by kernel_rfl) rfl (by decide) ?_)
  refine GL_nil ?_
  refine GE_then ?_
  refine GC_seq ?_
  refine GC_region ?_
  refine GL_rd rfl (by decide) (rd_move rfl) ?_
  refine GL_rd rfl (by decide) (rd_nilCheck rfl) ?_
  refine GL_rd rfl (by decide) (rd_fieldAddr (j := 39) (by kernel_rfl) rfl) ?_
  refine GL_rd rfl (by decide) (rd_load2 1 rfl hR1 (hc1.get 39 _ rfl) (hc1.get 40 _ rfl) (by kernel_rfl) (by decide)) ?_
  refine GL_at rfl (at_call_v (v := .int .i64 ((o.d / 86400 + 1) % 7)) (by decide) (by kernel_rfl) rfl (fun w_ s_ => (weekday_calls _ _ (by omega) w_).mono fun e_ w2_ h_ => ⟨h_.1.trans (congrArg Ending.returned rfl), h_.2⟩) ?_)
  refine GL_at rfl (at_call_v (v := .int .i64 (((o.d / 86400 + 1) % 7 + 6) % 7)) (by decide) (by kernel_rfl) rfl (fun w_ s_ => (toPy_calls _ (by omega) w_).mono fun e_ w2_ h_ => ⟨h_.1.trans (congrArg Ending.returned rfl), h_.2⟩) ?_)
  refine GL_rd rfl (by decide) (rd_fieldAddr (j := 6) (by kernel_rfl) rfl) ?_
  refine GL_at rfl (at_store 0 rfl rfl rfl (h0.get 6 _ rfl) (by kernel_rfl) rfl (by decide) ?_)
  refine GL_nil ?_
  refine GE_then ?_
  refine GC_seq ?_
  refine GC_region ?_
  refine GL_rd rfl (by decide) (rd_move rfl) ?_
  refine GL_rd rfl (by decide) (rd_build (vs := [(0, .pointer (some ⟨rb, 0, none⟩))]) (v := .agg #[.pointer (some ⟨rb, 0, none⟩), .int .i64 0, .int .i64 0, .int .i64 0, .int .i64 0, .int .i64 0, .int .i64 0, .int .i64 0, .slice none 0 0, .slice none 0 0, .slice none 0 0, .slice none 0 0, .slice none 0 0, .slice none 0 0, .slice none 0 0, .slice none 0 0]) rfl (fun w => by kernel_rfl)) ?_
  refine GL_rd rfl (by decide) (rd_fieldAddr (j := 7) (by kernel_rfl) rfl) ?_
  refine GL_at rfl (at_storeAgg 0 (cs := #[.pointer (some ⟨rb, 0, none⟩), .int .i64 0, .int .i64 0, .int .i64 0, .int .i64 0, .int .i64 0, .int .i64 0, .int .i64 0, .slice none 0 0, .slice none 0 0, .slice none 0 0, .slice none 0 0, .slice none 0 0, .slice none 0 0, .slice none 0 0, .slice none 0 0]) rfl rfl rfl (knwn_mono (by repeat (first | exact Knw.refl _ | apply Knw.cons)) (cellsAt_some h0 7 16 (Nat.le_of_ble_eq_true rfl))) (by kernel_rfl) rfl (Nat.le_of_ble_eq_true rfl) ?_)
  refine GL_nil ?_
  refine GE_then ?_
  refine GC_to (L' := [(0, .pointer (some ⟨rb, 0, none⟩)), (3, .pointer (some ⟨it, 0, none⟩))]) (fun a k => k.cons rfl (k.cons rfl (k.nil))) (fun w s => s) (H' := putSeq 0 7 [.pointer (some ⟨rb, 0, none⟩), .int .i64 0, .int .i64 0, .int .i64 0, .int .i64 0, .int .i64 0, .int .i64 0, .int .i64 0, .slice none 0 0, .slice none 0 0, .slice none 0 0, .slice none 0 0, .slice none 0 0, .slice none 0 0, .slice none 0 0, .slice none 0 0] ((ky 0 6, .int .i64 (((o.d / 86400 + 1) % 7 + 6) % 7)) :: (ky 0 5, .int .i64 (o.d % 86400 % 60)) :: (ky 0 4, .int .i64 (o.d % 86400 / 60 % 60)) :: (ky 0 3, .int .i64 (o.d % 86400 / 3600)) :: (ky 0 2, .int .i64 (Cal.mdayOf (o.d / 86400))) :: (ky 0 1, .int .i64 (Cal.monthOf (o.d / 86400))) :: (ky 0 0, .int .i64 (Cal.yearOf (o.d / 86400))) :: H)) ?_
  have h5 : cellsAt 0 (putSeq 0 7 [.pointer (some ⟨rb, 0, none⟩), .int .i64 0, .int .i64 0, .int .i64 0, .int .i64 0, .int .i64 0, .int .i64 0, .int .i64 0, .slice none 0 0, .slice none 0 0, .slice none 0 0, .slice none 0 0, .slice none 0 0, .slice none 0 0, .slice none 0 0, .slice none 0 0] ((ky 0 6, .int .i64 (((o.d / 86400 + 1) % 7 + 6) % 7)) :: (ky 0 5, .int .i64 (o.d % 86400 % 60)) :: (ky 0 4, .int .i64 (o.d % 86400 / 60 % 60)) :: (ky 0 3, .int .i64 (o.d % 86400 / 3600)) :: (ky 0 2, .int .i64 (Cal.mdayOf (o.d / 86400))) :: (ky 0 1, .int .i64 (Cal.monthOf (o.d / 86400))) :: (ky 0 0, .int .i64 (Cal.yearOf (o.d / 86400))) :: H)) 0 (z5 o rb) := (cellsAt.cons ((lkp_putSeq_hi (j := 0) [.pointer (some ⟨rb, 0, none⟩), .int .i64 0, .int .i64 0, .int .i64 0, .int .i64 0, .int .i64 0, .int .i64 0, .int .i64 0, .slice none 0 0, .slice none 0 0, .slice none 0 0, .slice none 0 0, .slice none 0 0, .slice none 0 0, .slice none 0 0, .slice none 0 0] 7 0 (by decide) (Nat.le_of_ble_eq_true rfl)).trans rfl) (cellsAt.cons ((lkp_putSeq_hi (j := 0) [.pointer (some ⟨rb, 0, none⟩), .int .i64 0, .int .i64 0, .int .i64 0, .int .i64 0, .int .i64 0, .int .i64 0, .int .i64 0, .slice none 0 0, .slice none 0 0, .slice none 0 0, .slice none 0 0, .slice none 0 0, .slice none 0 0, .slice none 0 0, .slice none 0 0] 7 1 (by decide) (Nat.le_of_ble_eq_true rfl)).trans rfl) (cellsAt.cons ((lkp_putSeq_hi (j := 0) [.pointer (some ⟨rb, 0, none⟩), .int .i64 0, .int .i64 0, .int .i64 0, .int .i64 0, .int .i64 0, .int .i64 0, .int .i64 0, .slice none 0 0, .slice none 0 0, .slice none 0 0, .slice none 0 0, .slice none 0 0, .slice none 0 0, .slice none 0 0, .slice none 0 0] 7 2 (by decide) (Nat.le_of_ble_eq_true rfl)).trans rfl) (cellsAt.cons ((lkp_putSeq_hi (j := 0) [.pointer (some ⟨rb, 0, none⟩), .int .i64 0, .int .i64 0, .int .i64 0, .int .i64 0, .int .i64 0, .int .i64 0, .int .i64 0, .slice none 0 0, .slice none 0 0, .slice none 0 0, .slice none 0 0, .slice none 0 0, .slice none 0 0, .slice none 0 0, .slice none 0 0] 7 3 (by decide) (Nat.le_of_ble_eq_true rfl)).trans rfl) (cellsAt.cons ((lkp_putSeq_hi (j := 0) [.pointer (some ⟨rb, 0, none⟩), .int .i64 0, .int .i64 0, .int .i64 0, .int .i64 0, .int .i64 0, .int .i64 0, .int .i64 0, .slice none 0 0, .slice none 0 0, .slice none 0 0, .slice none 0 0, .slice none 0 0, .slice none 0 0, .slice none 0 0, .slice none 0 0] 7 4 (by decide) (Nat.le_of_ble_eq_true rfl)).trans rfl) (cellsAt.cons ((lkp_putSeq_hi (j := 0) [.pointer (some ⟨rb, 0, none⟩), .int .i64 0, .int .i64 0, .int .i64 0, .int .i64 0, .int .i64 0, .int .i64 0, .int .i64 0, .slice none 0 0, .slice none 0 0, .slice none 0 0, .slice none 0 0, .slice none 0 0, .slice none 0 0, .slice none 0 0, .slice none 0 0] 7 5 (by decide) (Nat.le_of_ble_eq_true rfl)).trans rfl) (cellsAt.cons ((lkp_putSeq_hi (j := 0) [.pointer (some ⟨rb, 0, none⟩), .int .i64 0, .int .i64 0, .int .i64 0, .int .i64 0, .int .i64 0, .int .i64 0, .int .i64 0, .slice none 0 0, .slice none 0 0, .slice none 0 0, .slice none 0 0, .slice none 0 0, .slice none 0 0, .slice none 0 0, .slice none 0 0] 7 6 (by decide) (Nat.le_of_ble_eq_true rfl)).trans rfl) (cellsAt.cons (putSeq_get (j := 0) [.pointer (some ⟨rb, 0, none⟩), .int .i64 0, .int .i64 0, .int .i64 0, .int .i64 0, .int .i64 0, .int .i64 0, .int .i64 0, .slice none 0 0, .slice none 0 0, .slice none 0 0, .slice none 0 0, .slice none 0 0, .slice none 0 0, .slice none 0 0, .slice none 0 0] 7 (Nat.le_of_ble_eq_true rfl) 0 _ rfl) (cellsAt.cons (putSeq_get (j := 0) [.pointer (some ⟨rb, 0, none⟩), .int .i64 0, .int .i64 0, .int .i64 0, .int .i64 0, .int .i64 0, .int .i64 0, .int .i64 0, .slice none 0 0, .slice none 0 0, .slice none 0 0, .slice none 0 0, .slice none 0 0, .slice none 0 0, .slice none 0 0, .slice none 0 0] 7 (Nat.le_of_ble_eq_true rfl) 1 _ rfl) (cellsAt.cons (putSeq_get (j := 0) [.pointer (some ⟨rb, 0, none⟩), .int .i64 0, .int .i64 0, .int .i64 0, .int .i64 0, .int .i64 0, .int .i64 0, .int .i64 0, .slice none 0 0, .slice none 0 0, .slice none 0 0, .slice none 0 0, .slice none 0 0, .slice none 0 0, .slice none 0 0, .slice none 0 0] 7 (Nat.le_of_ble_eq_true rfl) 2 _ rfl) (cellsAt.cons (putSeq_get (j := 0) [.pointer (some ⟨rb, 0, none⟩), .int .i64 0, .int .i64 0, .int .i64 0, .int .i64 0, .int .i64 0, .int .i64 0, .int .i64 0, .slice none 0 0, .slice none 0 0, .slice none 0 0, .slice none 0 0, .slice none 0 0, .slice none 0 0, .slice none 0 0, .slice none 0 0] 7 (Nat.le_of_ble_eq_true rfl) 3 _ rfl) (cellsAt.cons (putSeq_get (j := 0) [.pointer (some ⟨rb, 0, none⟩), .int .i64 0, .int .i64 0, .int .i64 0, .int .i64 0, .int .i64 0, .int .i64 0, .int .i64 0, .slice none 0 0, .slice none 0 0, .slice none 0 0, .slice none 0 0, .slice none 0 0, .slice none 0 0, .slice none 0 0, .slice none 0 0] 7 (Nat.le_of_ble_eq_true rfl) 4 _ rfl) (cellsAt.cons (putSeq_get (j := 0) [.pointer (some ⟨rb, 0, none⟩), .int .i64 0, .int .i64 0, .int .i64 0, .int .i64 0, .int .i64 0, .int .i64 0, .int .i64 0, .slice none 0 0, .slice none 0 0, .slice none 0 0, .slice none 0 0, .slice none 0 0, .slice none 0 0, .slice none 0 0, .slice none 0 0] 7 (Nat.le_of_ble_eq_true rfl) 5 _ rfl) (cellsAt.cons (putSeq_get (j := 0) [.pointer (some ⟨rb, 0, none⟩), .int .i64 0, .int .i64 0, .int .i64 0, .int .i64 0, .int .i64 0, .int .i64 0, .int .i64 0, .slice none 0 0, .slice none 0 0, .slice none 0 0, .slice none 0 0, .slice none 0 0, .slice none 0 0, .slice none 0 0, .slice none 0 0] 7 (Nat.le_of_ble_eq_true rfl) 6 _ rfl) (cellsAt.cons (putSeq_get (j := 0) [.pointer (some ⟨rb, 0, none⟩), .int .i64 0, .int .i64 0, .int .i64 0, .int .i64 0, .int .i64 0, .int .i64 0, .int .i64 0, .slice none 0 0, .slice none 0 0, .slice none 0 0, .slice none 0 0, .slice none 0 0, .slice none 0 0, .slice none 0 0, .slice none 0 0] 7 (Nat.le_of_ble_eq_true rfl) 7 _ rfl) (cellsAt.cons (putSeq_get (j := 0) [.pointer (some ⟨rb, 0, none⟩), .int .i64 0, .int .i64 0, .int .i64 0, .int .i64 0, .int .i64 0, .int .i64 0, .int .i64 0, .slice none 0 0, .slice none 0 0, .slice none 0 0, .slice none 0 0, .slice none 0 0, .slice none 0 0, .slice none 0 0, .slice none 0 0] 7 (Nat.le_of_ble_eq_true rfl) 8 _ rfl) (cellsAt.cons (putSeq_get (j := 0) [.pointer (some ⟨rb, 0, none⟩), .int .i64 0, .int .i64 0, .int .i64 0, .int .i64 0, .int .i64 0, .int .i64 0, .int .i64 0, .slice none 0 0, .slice none 0 0, .slice none 0 0, .slice none 0 0, .slice none 0 0, .slice none 0 0, .slice none 0 0, .slice none 0 0] 7 (Nat.le_of_ble_eq_true rfl) 9 _ rfl) (cellsAt.cons (putSeq_get (j := 0) [.pointer (some ⟨rb, 0, none⟩), .int .i64 0, .int .i64 0, .int .i64 0, .int .i64 0, .int .i64 0, .int .i64 0, .int .i64 0, .slice none 0 0, .slice none 0 0, .slice none 0 0, .slice none 0 0, .slice none 0 0, .slice none 0 0, .slice none 0 0, .slice none 0 0] 7 (Nat.le_of_ble_eq_true rfl) 10 _ rfl) (cellsAt.cons (putSeq_get (j := 0) [.pointer (some ⟨rb, 0, none⟩), .int .i64 0, .int .i64 0, .int .i64 0, .int .i64 0, .int .i64 0, .int .i64 0, .int .i64 0, .slice none 0 0, .slice none 0 0, .slice none 0 0, .slice none 0 0, .slice none 0 0, .slice none 0 0, .slice none 0 0, .slice none 0 0] 7 (Nat.le_of_ble_eq_true rfl) 11 _ rfl) (cellsAt.cons (putSeq_get (j := 0) [.pointer (some ⟨rb, 0, none⟩), .int .i64 0, .int .i64 0, .int .i64 0, .int .i64 0, .int .i64 0, .int .i64 0, .int .i64 0, .slice none 0 0, .slice none 0 0, .slice none 0 0, .slice none 0 0, .slice none 0 0, .slice none 0 0, .slice none 0 0, .slice none 0 0] 7 (Nat.le_of_ble_eq_true rfl) 12 _ rfl) (cellsAt.cons (putSeq_get (j := 0) [.pointer (some ⟨rb, 0, none⟩), .int .i64 0, .int .i64 0, .int .i64 0, .int .i64 0, .int .i64 0, .int .i64 0, .int .i64 0, .slice none 0 0, .slice none 0 0, .slice none 0 0, .slice none 0 0, .slice none 0 0, .slice none 0 0, .slice none 0 0, .slice none 0 0] 7 (Nat.le_of_ble_eq_true rfl) 13 _ rfl) (cellsAt.cons (putSeq_get (j := 0) [.pointer (some ⟨rb, 0, none⟩), .int .i64 0, .int .i64 0, .int .i64 0, .int .i64 0, .int .i64 0, .int .i64 0, .int .i64 0, .slice none 0 0, .slice none 0 0, .slice none 0 0, .slice none 0 0, .slice none 0 0, .slice none 0 0, .slice none 0 0, .slice none 0 0] 7 (Nat.le_of_ble_eq_true rfl) 14 _ rfl) (cellsAt.cons (putSeq_get (j := 0) [.pointer (some ⟨rb, 0, none⟩), .int .i64 0, .int .i64 0, .int .i64 0, .int .i64 0, .int .i64 0, .int .i64 0, .int .i64 0, .slice none 0 0, .slice none 0 0, .slice none 0 0, .slice none 0 0, .slice none 0 0, .slice none 0 0, .slice none 0 0, .slice none 0 0] 7 (Nat.le_of_ble_eq_true rfl) 15 _ rfl) (cellsAt.cons ((lkp_putSeq_above (j := 0) [.pointer (some ⟨rb, 0, none⟩), .int .i64 0, .int .i64 0, .int .i64 0, .int .i64 0, .int .i64 0, .int .i64 0, .int .i64 0, .slice none 0 0, .slice none 0 0, .slice none 0 0, .slice none 0 0, .slice none 0 0, .slice none 0 0, .slice none 0 0, .slice none 0 0] 7 23 (Nat.le_of_ble_eq_true rfl)).trans (h0.get 23 _ rfl)) (cellsAt.cons ((lkp_putSeq_above (j := 0) [.pointer (some ⟨rb, 0, none⟩), .int .i64 0, .int .i64 0, .int .i64 0, .int .i64 0, .int .i64 0, .int .i64 0, .int .i64 0, .slice none 0 0, .slice none 0 0, .slice none 0 0, .slice none 0 0, .slice none 0 0, .slice none 0 0, .slice none 0 0, .slice none 0 0] 7 24 (Nat.le_of_ble_eq_true rfl)).trans (h0.get 24 _ rfl)) (cellsAt.cons ((lkp_putSeq_above (j := 0) [.pointer (some ⟨rb, 0, none⟩), .int .i64 0, .int .i64 0, .int .i64 0, .int .i64 0, .int .i64 0, .int .i64 0, .int .i64 0, .slice none 0 0, .slice none 0 0, .slice none 0 0, .slice none 0 0, .slice none 0 0, .slice none 0 0, .slice none 0 0, .slice none 0 0] 7 25 (Nat.le_of_ble_eq_true rfl)).trans (h0.get 25 _ rfl)) (cellsAt.cons ((lkp_putSeq_above (j := 0) [.pointer (some ⟨rb, 0, none⟩), .int .i64 0, .int .i64 0, .int .i64 0, .int .i64 0, .int .i64 0, .int .i64 0, .int .i64 0, .slice none 0 0, .slice none 0 0, .slice none 0 0, .slice none 0 0, .slice none 0 0, .slice none 0 0, .slice none 0 0, .slice none 0 0] 7 26 (Nat.le_of_ble_eq_true rfl)).trans (h0.get 26 _ rfl)) (cellsAt.cons ((lkp_putSeq_above (j := 0) [.pointer (some ⟨rb, 0, none⟩), .int .i64 0, .int .i64 0, .int .i64 0, .int .i64 0, .int .i64 0, .int .i64 0, .int .i64 0, .slice none 0 0, .slice none 0 0, .slice none 0 0, .slice none 0 0, .slice none 0 0, .slice none 0 0, .slice none 0 0, .slice none 0 0] 7 27 (Nat.le_of_ble_eq_true rfl)).trans (h0.get 27 _ rfl)) (cellsAt.cons ((lkp_putSeq_above (j := 0) [.pointer (some ⟨rb, 0, none⟩), .int .i64 0, .int .i64 0, .int .i64 0, .int .i64 0, .int .i64 0, .int .i64 0, .int .i64 0, .slice none 0 0, .slice none 0 0, .slice none 0 0, .slice none 0 0, .slice none 0 0, .slice none 0 0, .slice none 0 0, .slice none 0 0] 7 28 (Nat.le_of_ble_eq_true rfl)).trans (h0.get 28 _ rfl)) (cellsAt.cons ((lkp_putSeq_above (j := 0) [.pointer (some ⟨rb, 0, none⟩), .int .i64 0, .int .i64 0, .int .i64 0, .int .i64 0, .int .i64 0, .int .i64 0, .int .i64 0, .slice none 0 0, .slice none 0 0, .slice none 0 0, .slice none 0 0, .slice none 0 0, .slice none 0 0, .slice none 0 0, .slice none 0 0] 7 29 (Nat.le_of_ble_eq_true rfl)).trans (h0.get 29 _ rfl)) cellsAt.nil))))))))))))))))))))))))))))))
  have hc5 : cellsAt 1 (putSeq 0 7 [.pointer (some ⟨rb, 0, none⟩), .int .i64 0, .int .i64 0, .int .i64 0, .int .i64 0, .int .i64 0, .int .i64 0, .int .i64 0, .slice none 0 0, .slice none 0 0, .slice none 0 0, .slice none 0 0, .slice none 0 0, .slice none 0 0, .slice none 0 0, .slice none 0 0] ((ky 0 6, .int .i64 (((o.d / 86400 + 1) % 7 + 6) % 7)) :: (ky 0 5, .int .i64 (o.d % 86400 % 60)) :: (ky 0 4, .int .i64 (o.d % 86400 / 60 % 60)) :: (ky 0 3, .int .i64 (o.d % 86400 / 3600)) :: (ky 0 2, .int .i64 (Cal.mdayOf (o.d / 86400))) :: (ky 0 1, .int .i64 (Cal.monthOf (o.d / 86400))) :: (ky 0 0, .int .i64 (Cal.yearOf (o.d / 86400))) :: H)) 0 (outC o x) := cellsAt_of fun i u h => by have hi : 0 + i < 4096 := by { have := (List.getElem?_eq_some_iff.1 h).1; have h3 : (outC o x).length = 60 := rfl; omega }; exact (lkp_seq_ne (j := 0) (by decide) hi _ _ (Nat.le_of_ble_eq_true rfl)).trans (Eq.trans (by repeat (first | rfl | rw [lkp_ky_ne (by decide) hi (by decide)])) (hc1.get i u h))
  have h385 : ∀ q, q < 4096 → lkp (ky 38 q) (putSeq 0 7 [.pointer (some ⟨rb, 0, none⟩), .int .i64 0, .int .i64 0, .int .i64 0, .int .i64 0, .int .i64 0, .int .i64 0, .int .i64 0, .slice none 0 0, .slice none 0 0, .slice none 0 0, .slice none 0 0, .slice none 0 0, .slice none 0 0, .slice none 0 0, .slice none 0 0] ((ky 0 6, .int .i64 (((o.d / 86400 + 1) % 7 + 6) % 7)) :: (ky 0 5, .int .i64 (o.d % 86400 % 60)) :: (ky 0 4, .int .i64 (o.d % 86400 / 60 % 60)) :: (ky 0 3, .int .i64 (o.d % 86400 / 3600)) :: (ky 0 2, .int .i64 (Cal.mdayOf (o.d / 86400))) :: (ky 0 1, .int .i64 (Cal.monthOf (o.d / 86400))) :: (ky 0 0, .int .i64 (Cal.yearOf (o.d / 86400))) :: H)) = none := fun q hq => (lkp_seq_ne (j := 0) (by decide) hq _ _ (Nat.le_of_ble_eq_true rfl)).trans (Eq.trans (by repeat (first | rfl | rw [lkp_ky_ne (by decide) hq (by decide)])) (h38 q hq))
  exact it_b ok hf4 hw0 hd0 he0 hwF hnF heF hlen of hR1 hc5 h385 h5 (Lim.seqH (by decide) _ 7 (Nat.le_of_ble_eq_true rfl) (by repeat (first | exact lim | apply Lim.consH _ (by decide) (by decide)))) hdm hR
end
end Go.Proofs.YtfcklceejjmjeaaGreat
