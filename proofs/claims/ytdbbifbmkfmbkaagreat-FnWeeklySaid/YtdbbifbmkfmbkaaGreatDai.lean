import Derived.Test.YtdbbifbmkfmbkaaGreatDah
set_option linter.unusedVariables false
set_option linter.unusedSimpArgs false
set_option maxRecDepth 100000
set_option maxHeartbeats 8000000
namespace Go.Proofs.YtdbbifbmkfmbkaaGreat
open Go.RowKit Go.Fr Go.Tab
section
variable {F : Nat → Prop} {w0 : World} {B : List (Nat × Nat)} {H : List (Nat × Value)} {S : List (Nat × Slc)}
open Go.Md
def noDR (r : Rul) : Prop := r.weekno.length = 0 ∧ r.yday.length = 0 ∧ r.mday.length = 0 ∧ r.wday.length = 0 ∧ r.easter.length = 0
instance (r : Rul) : Decidable (noDR r) := by unfold noDR; infer_instance
def full1 (r : Rul) : Rul := if noDR r then
  (if r.freq = 0 then { r with month := if r.month.length = 0 then [Cal.monthOf (r.start / 86400)] else r.month, mday := [Cal.mdayOf (r.start / 86400)] }
  else if r.freq = 1 then { r with mday := [Cal.mdayOf (r.start / 86400)] }
  else if r.freq = 2 then { r with wday := [(r.start / 86400 % 7, 0)] } else r)
 else r
def full2 (r : Rul) : Rul := if r.hour.length = 0 ∧ r.freq < 4 then { r with hour := [r.start % 86400 / 3600] } else r
def full3 (r : Rul) : Rul := if r.minute.length = 0 ∧ r.freq < 5 then { r with minute := [r.start % 86400 / 60 % 60] } else r
def full4 (r : Rul) : Rul := if r.second.length = 0 ∧ r.freq < 6 then { r with second := [r.start % 86400 % 60] } else r
def fullR (r : Rul) : Rul := full4 (full3 (full2 (full1 r)))
theorem full1_same (r : Rul) : (full1 r).start = r.start ∧ (full1 r).freq = r.freq ∧ (full1 r).hour = r.hour ∧ (full1 r).minute = r.minute ∧ (full1 r).second = r.second := by
 unfold full1
 split
 ·split
  ·exact ⟨rfl, rfl, rfl, rfl, rfl⟩
  ·split
   ·exact ⟨rfl, rfl, rfl, rfl, rfl⟩
   ·split <;> exact ⟨rfl, rfl, rfl, rfl, rfl⟩
 ·exact ⟨rfl, rfl, rfl, rfl, rfl⟩
theorem full2_same (r : Rul) : (full2 r).start = r.start ∧ (full2 r).freq = r.freq ∧ (full2 r).minute = r.minute ∧ (full2 r).second = r.second := by
 unfold full2; split <;> exact ⟨rfl, rfl, rfl, rfl⟩
theorem full3_same (r : Rul) : (full3 r).start = r.start ∧ (full3 r).freq = r.freq ∧ (full3 r).second = r.second := by
 unfold full3; split <;> exact ⟨rfl, rfl, rfl⟩
structure LenL (r : Rul) : Prop where
 l9 : r.setpos.length ≤ 2147483647
 l10 : r.month.length ≤ 2147483647
 l11 : r.mday.length ≤ 2147483647
 l12 : r.yday.length ≤ 2147483647
 l13 : r.weekno.length ≤ 2147483647
 l14 : r.wday.length ≤ 2147483647
 l15 : r.hour.length ≤ 2147483647
 l16 : r.minute.length ≤ 2147483647
 l17 : r.second.length ≤ 2147483647
 l18 : r.easter.length ≤ 2147483647
theorem prs_row {w : World} {p : Option Addr} {n c : Nat} {e : TypeId} {ps : List (Int × Int)} (s : Sees F w0 B H S w) (k : Nat) (h : lkp k S = some ⟨.slice p n c, e, 2, n, pcells ps⟩) : Prs w (.slice p n c) ps := by
 have := (SrcU.row (F := F) (w0 := w0) (S := S) (t := k) h)
 exact this B H S w (fun _ _ => rfl) s
theorem Sees.tailS {w : World} {k : Nat} {q : Slc} (s : Sees F w0 B H ((k, q) :: S) w) (h : lkp k S = none) : Sees F w0 B H S w :=
 s.to (fun _ _ h => h) (fun k o v ho h => ⟨h, by obtain ⟨b, e, _⟩ := s.cells k o v ho h; rw [e]; rfl⟩) (fun j u hj => by
  by_cases e : j = k
  ·subst e; rw [h] at hj; cases hj
  ·rw [lkp_cons_ne e]; exact hj)
theorem Sees.fresh {w : World} {k b : Nat} {q : Slc} (s : Sees (fun _ => False) w0 B H S w) (hk : lkp k S = some q) (hb : q.v.ownBlock = some b) : w0.heap.size ≤ b := by
 rcases Nat.lt_or_ge b w0.heap.size with h | h
 ·exact (s.smay k q b hk hb h).elim
 ·exact h
structure BkL (G : Nat → Prop) (r : Rul) (x : Av) : Prop where
 g9 : r.setpos.length ≠ 0 → ∀ b o, x.p9 = some ⟨b, o, none⟩ → G b
 g10 : r.month.length ≠ 0 → ∀ b o, x.p10 = some ⟨b, o, none⟩ → G b
 g11 : r.mday.length ≠ 0 → ∀ b o, x.p11 = some ⟨b, o, none⟩ → G b
 g12 : r.yday.length ≠ 0 → ∀ b o, x.p12 = some ⟨b, o, none⟩ → G b
 g13 : r.weekno.length ≠ 0 → ∀ b o, x.p13 = some ⟨b, o, none⟩ → G b
 g14 : r.wday.length ≠ 0 → ∀ b o, x.p14 = some ⟨b, o, none⟩ → G b
 g15 : r.hour.length ≠ 0 → ∀ b o, x.p15 = some ⟨b, o, none⟩ → G b
 g16 : r.minute.length ≠ 0 → ∀ b o, x.p16 = some ⟨b, o, none⟩ → G b
 g17 : r.second.length ≠ 0 → ∀ b o, x.p17 = some ⟨b, o, none⟩ → G b
 g18 : r.easter.length ≠ 0 → ∀ b o, x.p18 = some ⟨b, o, none⟩ → G b
def InS (w0 : World) (S : List (Nat × Slc)) (r : Rul) (x : Av) : Prop := ∀ B H w, Sees (fun _ => False) w0 B H S w → InL w r x
theorem full_calls {G : Nat → Prop} (r : Rul) (x : Av) (hs : 0 ≤ r.start ∧ r.start ≤ 1000000000000) (hf : 0 ≤ r.freq ∧ r.freq ≤ 255) (hl : LenL r) (w : World) (hin : InL w r x) (hG : BkL G r x) : Calls Go.Proofs.Tryz.prog 55 #[.agg (rulC r x).toArray] w fun e w' => ∃ x', e = .returned (.agg (rulC (fullR r) x').toArray) ∧ Below w.heap.size w w' ∧ InL w' (fullR r) x' ∧ BkL (fun b => G b ∨ w.heap.size ≤ b) (fullR r) x' := by
 obtain ⟨l9, l10, l11, l12, l13, l14, l15, l16, l17, l18⟩ := hl
 have hG0 : BkL (fun b => G b ∨ w.heap.size ≤ b) r x := ⟨fun h b o e => .inl (hG.g9 h b o e), fun h b o e => .inl (hG.g10 h b o e), fun h b o e => .inl (hG.g11 h b o e), fun h b o e => .inl (hG.g12 h b o e), fun h b o e => .inl (hG.g13 h b o e), fun h b o e => .inl (hG.g14 h b o e), fun h b o e => .inl (hG.g15 h b o e), fun h b o e => .inl (hG.g16 h b o e), fun h b o e => .inl (hG.g17 h b o e), fun h b o e => .inl (hG.g18 h b o e)⟩
 refine calls_GC (args := [.agg (rulC r x).toArray]) (L := [(0, .agg (rulC r x).toArray)]) (N := 109) Tryz.func55 rfl rfl ble rfl (Sees.start (fun _ => False) w) ?_
 refine g2 ?_
 refine gL (at_box 50 (cs := rulC r x) dE rfl rfl rfl (fun o ho => rfl) ble (fun b1 hb1 => ?_))
 refine gL (at_alloc 51 (cs := [.int .u8 0, .bool false, iV 0, iV 0, iV 0, iV 0, .bool false, iV 0, .slice none 0 0, .slice none 0 0, .slice none 0 0, .slice none 0 0, .slice none 0 0, .slice none 0 0, .slice none 0 0, .slice none 0 0, .slice none 0 0, .slice none 0 0]) dE kR rfl (fun o ho => by repeat (first | rfl | rw [lkp_put_ne dE ho _ _ ble])) ble (fun b2_ hb2_ => ?_))
 refine g4 ?_
 refine rl (rfa 2) ?_
 refine rl (rld 50 rfl rfl rfl) ?_
 refine g1 ?_
 refine gL (cvo rfl (fun w_ s_ => civil_calls _ oM w_) ?_)
 refine g9 ?_
 refine GC_cut (ι := (Rul) × (Av) × (List (Nat × Slc))) (fun | ⟨r1, x1, S1⟩ => (r1 = full1 (r)) ∧ (InS w S1 r1 x1) ∧ (BkL (fun b => G b ∨ w.heap.size ≤ b) r1 x1) ∧ (∀ k, 24 ≤ k → lkp k S1 = none)) (fun | ⟨r1, x1, S1⟩ => [(1, pT b1), (2, pT b2_), (4, iV (Cal.monthOf (r.start / 86400))), (5, iV (Cal.mdayOf (r.start / 86400)))]) (fun | ⟨r1, x1, S1⟩ => [(51, b2_), (50, b1)]) (fun | ⟨r1, x1, S1⟩ => (putKeys 51 0 [.int .u8 0, .bool false, iV 0, iV 0, iV 0, iV 0, .bool false, iV 0, .slice none 0 0, .slice none 0 0, .slice none 0 0, .slice none 0 0, .slice none 0 0, .slice none 0 0, .slice none 0 0, .slice none 0 0, .slice none 0 0, .slice none 0 0] ++ (putKeys 50 0 (rulC (r1) (x1)) ++ []))) (fun | ⟨r1, x1, S1⟩ => S1) ?_ ?_
 ·refine g2 ?_
  refine rl (rfa 12) ?_
  refine rl (rld 50 rfl rfl rfl) ?_
  refine g1 ?_
  refine rl (rfa 11) ?_
  refine rl (rld 50 rfl rfl rfl) ?_
  refine g2 ?_
  refine rl (rfa 10) ?_
  refine rl (rld 50 rfl rfl rfl) ?_
  refine g2 ?_
  refine rl (rfa 13) ?_
  refine rl (rld 50 rfl rfl rfl) ?_
  refine g2 ?_
  refine rl (rfa 17) ?_
  refine rl (rld 50 rfl rfl rfl) ?_
  refine g5 ?_
  refine GC_cond rfl (fun hc1 => ?_) (fun hc2 => ?_)
  ·have hno : noDR r := by unfold noDR; have := beq_iff_eq.1 hc1; omega
   refine g2 ?_
   refine rl (rfa 0) ?_
   refine rl (rld 50 rfl rfl rfl) ?_
   refine g9 ?_
   refine GC_cond rfl (fun hc1 => ?_) (fun hc2 => ?_)
   ·have hf0 : r.freq = 0 := beq_iff_eq.1 hc1
    refine g3 ?_
    refine rl (rfa 9) ?_
    refine rl (rld 50 rfl rfl rfl) ?_
    refine g4 ?_
    refine GC_cond rfl (fun hc1 => ?_) (fun hc2 => ?_)
    ·have hm0 : r.month.length = 0 := by have := beq_iff_eq.1 hc1; omega
     refine g2 ?_
     refine gL (at_one_ 21 (e := 3) (sz := 1) (by_ := 8) (zs := [iV 0]) dE kR rfl dE dE rfl rfl rfl (fun o21 => ?_))
     refine GK_have (fun w s => Sees.fresh s (k := 21) rfl rfl) (fun ho21 => ?_)
     refine rl (rfa 9) ?_
     refine gL (sto 50 rfl rfl rfl rfl ?_)
     refine g4 ?_
     refine gL (at_one_ 22 (e := 3) (sz := 1) (by_ := 8) (zs := [iV 0]) dE kR rfl dE dE rfl rfl rfl (fun o22 => ?_))
     refine GK_have (fun w s => Sees.fresh s (k := 22) rfl rfl) (fun ho22 => ?_)
     refine rl (rfa 10) ?_
     refine gL (sto 50 rfl rfl rfl rfl ?_)
     refine g2 ?_
     refine GE_meet (ι := Rul × Av × List (Nat × Slc)) ⟨{ r with month := [Cal.monthOf (r.start / 86400)], mday := [Cal.mdayOf (r.start / 86400)] }, { x with p10 := some ⟨o21, 0, none⟩, c10 := 1, p11 := some ⟨o22, 0, none⟩, c11 := 1 }, (22, ⟨sL o22 1 1, 3, 1, 1, [iV (Cal.mdayOf (r.start / 86400))]⟩) :: (21, ⟨sL o21 1 1, 3, 1, 1, [iV (Cal.monthOf (r.start / 86400))]⟩) :: []⟩ ⟨by unfold full1; rw [if_pos hno, if_pos hf0, if_pos hm0], fun B' H' w_ s_ => (by have hz_ : InL w_ (r) (x) := InL.see s_ hin; exact ⟨hz_.i9, (s_.ints 21 (xs := [Cal.monthOf (r.start / 86400)]) rfl), (s_.ints 22 (xs := [Cal.mdayOf (r.start / 86400)]) rfl), hz_.i12, hz_.i13, hz_.i14, hz_.i15, hz_.i16, hz_.i17, hz_.i18⟩), (by exact ⟨hG0.g9, fun _ b_ o_ h_ => (by injection h_ with h_; injection h_ with h_; exact .inr (h_ ▸ ho21)), fun _ b_ o_ h_ => (by injection h_ with h_; injection h_ with h_; exact .inr (h_ ▸ ho22)), hG0.g12, hG0.g13, hG0.g14, hG0.g15, hG0.g16, hG0.g17, hG0.g18⟩), fun k hk => by repeat (first | rfl | exact hk k oM | rw [lkp_cons_ne oM])⟩ kno (fun w s => (s.low 60 (by exact ⟨fun k hk => by rw [lkp_cons_ne oM, lkp_cons_ne oM]; rfl, fun k hk o ho => by rw [lkp_put_ne oM ho _ _ ble, lkp_put_ne oM ho _ _ ble]; rfl, fun k hk => by repeat (first | rfl | exact hk k oM | rw [lkp_cons_ne oM])⟩) agx agx agx))
    ·have hm0 : ¬ r.month.length = 0 := by have := beq_eq_false_iff_ne.1 hc2; omega
     refine g4 ?_
     refine gL (at_one_ 22 (e := 3) (sz := 1) (by_ := 8) (zs := [iV 0]) dE kR rfl dE dE rfl rfl rfl (fun o22 => ?_))
     refine GK_have (fun w s => Sees.fresh s (k := 22) rfl rfl) (fun ho22 => ?_)
     refine rl (rfa 10) ?_
     refine gL (sto 50 rfl rfl rfl rfl ?_)
     refine g2 ?_
     refine GE_meet (ι := Rul × Av × List (Nat × Slc)) ⟨{ r with mday := [Cal.mdayOf (r.start / 86400)] }, { x with p11 := some ⟨o22, 0, none⟩, c11 := 1 }, (22, ⟨sL o22 1 1, 3, 1, 1, [iV (Cal.mdayOf (r.start / 86400))]⟩) :: []⟩ ⟨by unfold full1; rw [if_pos hno, if_pos hf0, if_neg hm0], fun B' H' w_ s_ => (by have hz_ : InL w_ (r) (x) := InL.see s_ hin; exact ⟨hz_.i9, hz_.i10, (s_.ints 22 (xs := [Cal.mdayOf (r.start / 86400)]) rfl), hz_.i12, hz_.i13, hz_.i14, hz_.i15, hz_.i16, hz_.i17, hz_.i18⟩), (by exact ⟨hG0.g9, hG0.g10, fun _ b_ o_ h_ => (by injection h_ with h_; injection h_ with h_; exact .inr (h_ ▸ ho22)), hG0.g12, hG0.g13, hG0.g14, hG0.g15, hG0.g16, hG0.g17, hG0.g18⟩), fun k hk => by repeat (first | rfl | exact hk k oM | rw [lkp_cons_ne oM])⟩ kno (fun w s => (s.low 60 (by exact ⟨fun k hk => by rw [lkp_cons_ne oM, lkp_cons_ne oM]; rfl, fun k hk o ho => by rw [lkp_put_ne oM ho _ _ ble, lkp_put_ne oM ho _ _ ble]; rfl, fun k hk => by repeat (first | rfl | exact hk k oM | rw [lkp_cons_ne oM])⟩) agx agx agx))
   ·have hf0 : ¬ r.freq = 0 := beq_eq_false_iff_ne.1 hc2
    refine g6 ?_
    refine GC_cond rfl (fun hc1 => ?_) (fun hc2 => ?_)
    ·have hf1 : r.freq = 1 := beq_iff_eq.1 hc1
     refine g2 ?_
     refine gL (at_one_ 22 (e := 3) (sz := 1) (by_ := 8) (zs := [iV 0]) dE kR rfl dE dE rfl rfl rfl (fun o22 => ?_))
     refine GK_have (fun w s => Sees.fresh s (k := 22) rfl rfl) (fun ho22 => ?_)
     refine rl (rfa 10) ?_
     refine gL (sto 50 rfl rfl rfl rfl ?_)
     refine g2 ?_
     refine GE_meet (ι := Rul × Av × List (Nat × Slc)) ⟨{ r with mday := [Cal.mdayOf (r.start / 86400)] }, { x with p11 := some ⟨o22, 0, none⟩, c11 := 1 }, (22, ⟨sL o22 1 1, 3, 1, 1, [iV (Cal.mdayOf (r.start / 86400))]⟩) :: []⟩ ⟨by unfold full1; rw [if_pos hno, if_neg hf0, if_pos hf1], fun B' H' w_ s_ => (by have hz_ : InL w_ (r) (x) := InL.see s_ hin; exact ⟨hz_.i9, hz_.i10, (s_.ints 22 (xs := [Cal.mdayOf (r.start / 86400)]) rfl), hz_.i12, hz_.i13, hz_.i14, hz_.i15, hz_.i16, hz_.i17, hz_.i18⟩), (by exact ⟨hG0.g9, hG0.g10, fun _ b_ o_ h_ => (by injection h_ with h_; injection h_ with h_; exact .inr (h_ ▸ ho22)), hG0.g12, hG0.g13, hG0.g14, hG0.g15, hG0.g16, hG0.g17, hG0.g18⟩), fun k hk => by repeat (first | rfl | exact hk k oM | rw [lkp_cons_ne oM])⟩ kno (fun w s => (s.low 60 (by exact ⟨fun k hk => by rw [lkp_cons_ne oM, lkp_cons_ne oM]; rfl, fun k hk o ho => by rw [lkp_put_ne oM ho _ _ ble, lkp_put_ne oM ho _ _ ble]; rfl, fun k hk => by repeat (first | rfl | exact hk k oM | rw [lkp_cons_ne oM])⟩) agx agx agx))
    ·have hf1 : ¬ r.freq = 1 := beq_eq_false_iff_ne.1 hc2
     refine g6 ?_
     refine GC_cond rfl (fun hc1 => ?_) (fun hc2 => ?_)
     ·have hf2 : r.freq = 2 := beq_iff_eq.1 hc1
      refine g1 ?_
      refine rl (rfa 2) ?_
      refine rl (rld 50 rfl rfl rfl) ?_
      refine g1 ?_
      refine gL (cvo rfl (fun w_ s_ => sweekday_calls _ oM w_) ?_)
      refine rl (rd_build1 (k2 := .i64) (n := 0) rfl (fun w => by kernel_rfl)) ?_
      refine gL (at_one_ 23 (e := 47) (sz := 2) (by_ := 16) (zs := [iV 0, iV 0]) dE kR rfl dE dE rfl rfl rfl (fun o23 => ?_))
      refine GK_have (fun w s => Sees.fresh s (k := 23) rfl rfl) (fun ho23 => ?_)
      refine rl (rfa 13) ?_
      refine gL (sto 50 rfl rfl rfl rfl ?_)
      refine g2 ?_
      refine GE_meet (ι := Rul × Av × List (Nat × Slc)) ⟨{ r with wday := [(r.start / 86400 % 7, 0)] }, { x with p14 := some ⟨o23, 0, none⟩, c14 := 1 }, (23, ⟨sL o23 1 1, 47, 2, 1, [iV (r.start / 86400 % 7), iV 0]⟩) :: []⟩ ⟨by unfold full1; rw [if_pos hno, if_neg hf0, if_neg hf1, if_pos hf2], fun B' H' w_ s_ => (by have hz_ : InL w_ (r) (x) := InL.see s_ hin; exact ⟨hz_.i9, hz_.i10, hz_.i11, hz_.i12, hz_.i13, (prs_row (ps := [(r.start / 86400 % 7, 0)]) s_ 23 rfl), hz_.i15, hz_.i16, hz_.i17, hz_.i18⟩), (by exact ⟨hG0.g9, hG0.g10, hG0.g11, hG0.g12, hG0.g13, fun _ b_ o_ h_ => (by injection h_ with h_; injection h_ with h_; exact .inr (h_ ▸ ho23)), hG0.g15, hG0.g16, hG0.g17, hG0.g18⟩), fun k hk => by repeat (first | rfl | exact hk k oM | rw [lkp_cons_ne oM])⟩ kno (fun w s => (s.low 60 (by exact ⟨fun k hk => by rw [lkp_cons_ne oM, lkp_cons_ne oM]; rfl, fun k hk o ho => by rw [lkp_put_ne oM ho _ _ ble, lkp_put_ne oM ho _ _ ble]; rfl, fun k hk => by repeat (first | rfl | exact hk k oM | rw [lkp_cons_ne oM])⟩) agx agx agx))
     ·have hf2 : ¬ r.freq = 2 := beq_eq_false_iff_ne.1 hc2
      refine g2 ?_
      refine GE_meet (ι := Rul × Av × List (Nat × Slc)) ⟨r, x, []⟩ ⟨by unfold full1; rw [if_pos hno, if_neg hf0, if_neg hf1, if_neg hf2], fun B' H' w_ s_ => (by have hz_ : InL w_ (r) (x) := InL.see s_ hin; exact ⟨hz_.i9, hz_.i10, hz_.i11, hz_.i12, hz_.i13, hz_.i14, hz_.i15, hz_.i16, hz_.i17, hz_.i18⟩), (by exact ⟨hG0.g9, hG0.g10, hG0.g11, hG0.g12, hG0.g13, hG0.g14, hG0.g15, hG0.g16, hG0.g17, hG0.g18⟩), fun k hk => by repeat (first | rfl | exact hk k oM | rw [lkp_cons_ne oM])⟩ kno (fun w s => (s.low 60 (by exact ⟨fun k hk => by rw [lkp_cons_ne oM, lkp_cons_ne oM]; rfl, fun k hk o ho => by rw [lkp_put_ne oM ho _ _ ble, lkp_put_ne oM ho _ _ ble]; rfl, fun k hk => by repeat (first | rfl | exact hk k oM | rw [lkp_cons_ne oM])⟩) agx agx agx))
  ·have hno : ¬ noDR r := by unfold noDR; have := beq_eq_false_iff_ne.1 hc2; omega
   refine g1 ?_
   refine GE_meet (ι := Rul × Av × List (Nat × Slc)) ⟨r, x, []⟩ ⟨by unfold full1; rw [if_neg hno], fun B' H' w_ s_ => (by have hz_ : InL w_ (r) (x) := InL.see s_ hin; exact ⟨hz_.i9, hz_.i10, hz_.i11, hz_.i12, hz_.i13, hz_.i14, hz_.i15, hz_.i16, hz_.i17, hz_.i18⟩), (by exact ⟨hG0.g9, hG0.g10, hG0.g11, hG0.g12, hG0.g13, hG0.g14, hG0.g15, hG0.g16, hG0.g17, hG0.g18⟩), fun k hk => by repeat (first | rfl | exact hk k oM | rw [lkp_cons_ne oM])⟩ kno (fun w s => (s.low 60 (by exact ⟨fun k hk => by rw [lkp_cons_ne oM, lkp_cons_ne oM]; rfl, fun k hk o ho => by rw [lkp_put_ne oM ho _ _ ble, lkp_put_ne oM ho _ _ ble]; rfl, fun k hk => by repeat (first | rfl | exact hk k oM | rw [lkp_cons_ne oM])⟩) agx agx agx))
 rintro ⟨r1, x1, S1⟩ ⟨hr1, ir1, gr1, hkS1⟩
 show GC _ _ _ _ [(1, pT b1), (2, pT b2_), (4, iV (Cal.monthOf (r.start / 86400))), (5, iV (Cal.mdayOf (r.start / 86400)))] _ _ ([(51, b2_), (50, b1)]) ((putKeys 51 0 [.int .u8 0, .bool false, iV 0, iV 0, iV 0, iV 0, .bool false, iV 0, .slice none 0 0, .slice none 0 0, .slice none 0 0, .slice none 0 0, .slice none 0 0, .slice none 0 0, .slice none 0 0, .slice none 0 0, .slice none 0 0, .slice none 0 0] ++ (putKeys 50 0 (rulC (r1) (x1)) ++ []))) (S1)
 obtain ⟨e1, e2, e3, e4, e5⟩ := full1_same r
 rw [← hr1] at e1 e2 e3 e4 e5
 refine g2 ?_
 refine rl (rfa 2) ?_
 refine rl (rld 50 rfl rfl rfl) ?_
 refine gL (cvo rfl (fun w_ s_ => sclock_calls _ oM w_) ?_)
 refine g9 ?_
 refine GC_cut (ι := (Rul) × (Av) × (List (Nat × Slc))) (fun | ⟨r2, x2, S2⟩ => (r2 = full2 (r1)) ∧ (InS w S2 r2 x2) ∧ (BkL (fun b => G b ∨ w.heap.size ≤ b) r2 x2) ∧ (∀ k, 25 ≤ k → lkp k S2 = none)) (fun | ⟨r2, x2, S2⟩ => [(1, pT b1), (2, pT b2_), (6, iV (r1.start % 86400 / 3600)), (7, iV (r1.start % 86400 / 60 % 60)), (8, iV (r1.start % 86400 % 60))]) (fun | ⟨r2, x2, S2⟩ => [(51, b2_), (50, b1)]) (fun | ⟨r2, x2, S2⟩ => (putKeys 51 0 [.int .u8 0, .bool false, iV 0, iV 0, iV 0, iV 0, .bool false, iV 0, .slice none 0 0, .slice none 0 0, .slice none 0 0, .slice none 0 0, .slice none 0 0, .slice none 0 0, .slice none 0 0, .slice none 0 0, .slice none 0 0, .slice none 0 0] ++ (putKeys 50 0 (rulC (r2) (x2)) ++ []))) (fun | ⟨r2, x2, S2⟩ => S2) ?_ ?_
 ·refine g1 ?_
  have hb_ : r1.hour.length ≤ 2147483647 := by rw [e3]; exact l15
  refine g1 ?_
  refine rl (rfa 14) ?_
  refine rl (rld 50 rfl rfl rfl) ?_
  refine g1 ?_
  rcases Decidable.em (r1.hour.length = 0) with h0 | h0
  ·refine rl ((rd_eql rfl rfl).to eT) ?_
   refine g2 ?_
   refine rl (rfa 0) ?_
   refine g1 ?_
   refine rl (rld 50 rfl rfl rfl) ?_
   refine g1 ?_
   rcases Decidable.em (r1.freq < 4) with hfl | hfl
   ·refine rl ((rd_lss rfl rfl).to bT) ?_
    refine g3 ?_
    refine GC_is_true rfl rfl ?_
    refine g2 ?_
    refine gL (at_one_ 24 (e := 3) (sz := 1) (by_ := 8) (zs := [iV 0]) dE kR rfl dE dE rfl rfl rfl (fun o24 => ?_))
    refine GK_have (fun w s => Sees.fresh s (k := 24) rfl rfl) (fun ho24 => ?_)
    refine rl (rfa 14) ?_
    refine gL (sto 50 rfl rfl rfl rfl ?_)
    refine g1 ?_
    refine GE_meet (ι := Rul × Av × List (Nat × Slc)) ⟨{ r1 with hour := [r1.start % 86400 / 3600] }, { x1 with p15 := some ⟨o24, 0, none⟩, c15 := 1 }, (24, ⟨sL o24 1 1, 3, 1, 1, [iV (r1.start % 86400 / 3600)]⟩) :: S1⟩ ⟨by unfold full2; rw [if_pos ⟨h0, hfl⟩], fun B' H' w_ s_ => (by have hz_ : InL w_ (r1) (x1) := ir1 B' H' w_ (Sees.tailS s_ (hkS1 24 oM)); exact ⟨hz_.i9, hz_.i10, hz_.i11, hz_.i12, hz_.i13, hz_.i14, (s_.ints 24 (xs := [r1.start % 86400 / 3600]) rfl), hz_.i16, hz_.i17, hz_.i18⟩), (by exact ⟨gr1.g9, gr1.g10, gr1.g11, gr1.g12, gr1.g13, gr1.g14, fun _ b_ o_ h_ => (by injection h_ with h_; injection h_ with h_; exact .inr (h_ ▸ ho24)), gr1.g16, gr1.g17, gr1.g18⟩), fun k hk => by repeat (first | rfl | exact hkS1 k oM | rw [lkp_cons_ne oM])⟩ kno (fun w s => (s.low 60 (by exact ⟨fun k hk => by rw [lkp_cons_ne oM, lkp_cons_ne oM]; rfl, fun k hk o ho => by rw [lkp_put_ne oM ho _ _ ble, lkp_put_ne oM ho _ _ ble]; rfl, fun k hk => by repeat (first | rfl | exact hkS1 k oM | rw [lkp_cons_ne oM])⟩) agx agx agx))
   ·refine rl ((rd_lss rfl rfl).to bF) ?_
    refine g3 ?_
    refine GC_is_false rfl rfl ?_
    refine g1 ?_
    refine GE_meet (ι := Rul × Av × List (Nat × Slc)) ⟨r1, x1, S1⟩ ⟨by unfold full2; rw [if_neg (fun h => hfl h.2)], fun B' H' w_ s_ => (by have hz_ : InL w_ (r1) (x1) := ir1 B' H' w_ s_; exact ⟨hz_.i9, hz_.i10, hz_.i11, hz_.i12, hz_.i13, hz_.i14, hz_.i15, hz_.i16, hz_.i17, hz_.i18⟩), (by exact ⟨gr1.g9, gr1.g10, gr1.g11, gr1.g12, gr1.g13, gr1.g14, gr1.g15, gr1.g16, gr1.g17, gr1.g18⟩), fun k hk => by repeat (first | rfl | exact hkS1 k oM | rw [lkp_cons_ne oM])⟩ kno (fun w s => (s.low 60 (by exact ⟨fun k hk => by rw [lkp_cons_ne oM, lkp_cons_ne oM]; rfl, fun k hk o ho => by rw [lkp_put_ne oM ho _ _ ble, lkp_put_ne oM ho _ _ ble]; rfl, fun k hk => by repeat (first | rfl | exact hkS1 k oM | rw [lkp_cons_ne oM])⟩) agx agx agx))
  ·refine rl ((rd_eql rfl rfl).to eF) ?_
   refine g7 ?_
   refine GC_is_false rfl rfl ?_
   refine g1 ?_
   refine GE_meet (ι := Rul × Av × List (Nat × Slc)) ⟨r1, x1, S1⟩ ⟨by unfold full2; rw [if_neg (fun h => h0 h.1)], fun B' H' w_ s_ => (by have hz_ : InL w_ (r1) (x1) := ir1 B' H' w_ s_; exact ⟨hz_.i9, hz_.i10, hz_.i11, hz_.i12, hz_.i13, hz_.i14, hz_.i15, hz_.i16, hz_.i17, hz_.i18⟩), (by exact ⟨gr1.g9, gr1.g10, gr1.g11, gr1.g12, gr1.g13, gr1.g14, gr1.g15, gr1.g16, gr1.g17, gr1.g18⟩), fun k hk => by repeat (first | rfl | exact hkS1 k oM | rw [lkp_cons_ne oM])⟩ kno (fun w s => (s.low 60 (by exact ⟨fun k hk => by rw [lkp_cons_ne oM, lkp_cons_ne oM]; rfl, fun k hk o ho => by rw [lkp_put_ne oM ho _ _ ble, lkp_put_ne oM ho _ _ ble]; rfl, fun k hk => by repeat (first | rfl | exact hkS1 k oM | rw [lkp_cons_ne oM])⟩) agx agx agx))
 rintro ⟨r2, x2, S2⟩ ⟨hr2, ir2, gr2, hkS2⟩
 show GC _ _ _ _ [(1, pT b1), (2, pT b2_), (6, iV (r1.start % 86400 / 3600)), (7, iV (r1.start % 86400 / 60 % 60)), (8, iV (r1.start % 86400 % 60))] _ _ ([(51, b2_), (50, b1)]) ((putKeys 51 0 [.int .u8 0, .bool false, iV 0, iV 0, iV 0, iV 0, .bool false, iV 0, .slice none 0 0, .slice none 0 0, .slice none 0 0, .slice none 0 0, .slice none 0 0, .slice none 0 0, .slice none 0 0, .slice none 0 0, .slice none 0 0, .slice none 0 0] ++ (putKeys 50 0 (rulC (r2) (x2)) ++ []))) (S2)
 obtain ⟨f1, f2, f3, f4⟩ := full2_same r1
 rw [← hr2] at f1 f2 f3 f4
 refine GC_cut (ι := (Rul) × (Av) × (List (Nat × Slc))) (fun | ⟨r3, x3, S3⟩ => (r3 = full3 (r2)) ∧ (InS w S3 r3 x3) ∧ (BkL (fun b => G b ∨ w.heap.size ≤ b) r3 x3) ∧ (∀ k, 26 ≤ k → lkp k S3 = none)) (fun | ⟨r3, x3, S3⟩ => [(1, pT b1), (2, pT b2_), (6, iV (r1.start % 86400 / 3600)), (7, iV (r1.start % 86400 / 60 % 60)), (8, iV (r1.start % 86400 % 60))]) (fun | ⟨r3, x3, S3⟩ => [(51, b2_), (50, b1)]) (fun | ⟨r3, x3, S3⟩ => (putKeys 51 0 [.int .u8 0, .bool false, iV 0, iV 0, iV 0, iV 0, .bool false, iV 0, .slice none 0 0, .slice none 0 0, .slice none 0 0, .slice none 0 0, .slice none 0 0, .slice none 0 0, .slice none 0 0, .slice none 0 0, .slice none 0 0, .slice none 0 0] ++ (putKeys 50 0 (rulC (r3) (x3)) ++ []))) (fun | ⟨r3, x3, S3⟩ => S3) ?_ ?_
 ·refine g1 ?_
  have hb_ : r2.minute.length ≤ 2147483647 := by rw [f3, e4]; exact l16
  refine g1 ?_
  refine rl (rfa 15) ?_
  refine rl (rld 50 rfl rfl rfl) ?_
  refine g1 ?_
  rcases Decidable.em (r2.minute.length = 0) with h0 | h0
  ·refine rl ((rd_eql rfl rfl).to eT) ?_
   refine g2 ?_
   refine rl (rfa 0) ?_
   refine g1 ?_
   refine rl (rld 50 rfl rfl rfl) ?_
   refine g1 ?_
   rcases Decidable.em (r2.freq < 5) with hfl | hfl
   ·refine rl ((rd_lss rfl rfl).to bT) ?_
    refine g3 ?_
    refine GC_is_true rfl rfl ?_
    refine g2 ?_
    refine gL (at_one_ 25 (e := 3) (sz := 1) (by_ := 8) (zs := [iV 0]) dE kR rfl dE dE rfl rfl rfl (fun o25 => ?_))
    refine GK_have (fun w s => Sees.fresh s (k := 25) rfl rfl) (fun ho25 => ?_)
    refine rl (rfa 15) ?_
    refine gL (sto 50 rfl rfl rfl rfl ?_)
    refine g1 ?_
    refine GE_meet (ι := Rul × Av × List (Nat × Slc)) ⟨{ r2 with minute := [r1.start % 86400 / 60 % 60] }, { x2 with p16 := some ⟨o25, 0, none⟩, c16 := 1 }, (25, ⟨sL o25 1 1, 3, 1, 1, [iV (r1.start % 86400 / 60 % 60)]⟩) :: S2⟩ ⟨by unfold full3; rw [if_pos ⟨h0, hfl⟩, f1], fun B' H' w_ s_ => (by have hz_ : InL w_ (r2) (x2) := ir2 B' H' w_ (Sees.tailS s_ (hkS2 25 oM)); exact ⟨hz_.i9, hz_.i10, hz_.i11, hz_.i12, hz_.i13, hz_.i14, hz_.i15, (s_.ints 25 (xs := [r1.start % 86400 / 60 % 60]) rfl), hz_.i17, hz_.i18⟩), (by exact ⟨gr2.g9, gr2.g10, gr2.g11, gr2.g12, gr2.g13, gr2.g14, gr2.g15, fun _ b_ o_ h_ => (by injection h_ with h_; injection h_ with h_; exact .inr (h_ ▸ ho25)), gr2.g17, gr2.g18⟩), fun k hk => by repeat (first | rfl | exact hkS2 k oM | rw [lkp_cons_ne oM])⟩ kno (fun w s => (s.low 60 (by exact ⟨fun k hk => by rw [lkp_cons_ne oM, lkp_cons_ne oM]; rfl, fun k hk o ho => by rw [lkp_put_ne oM ho _ _ ble, lkp_put_ne oM ho _ _ ble]; rfl, fun k hk => by repeat (first | rfl | exact hkS2 k oM | rw [lkp_cons_ne oM])⟩) agx agx agx))
   ·refine rl ((rd_lss rfl rfl).to bF) ?_
    refine g3 ?_
    refine GC_is_false rfl rfl ?_
    refine g1 ?_
    refine GE_meet (ι := Rul × Av × List (Nat × Slc)) ⟨r2, x2, S2⟩ ⟨by unfold full3; rw [if_neg (fun h => hfl h.2)], fun B' H' w_ s_ => (by have hz_ : InL w_ (r2) (x2) := ir2 B' H' w_ s_; exact ⟨hz_.i9, hz_.i10, hz_.i11, hz_.i12, hz_.i13, hz_.i14, hz_.i15, hz_.i16, hz_.i17, hz_.i18⟩), (by exact ⟨gr2.g9, gr2.g10, gr2.g11, gr2.g12, gr2.g13, gr2.g14, gr2.g15, gr2.g16, gr2.g17, gr2.g18⟩), fun k hk => by repeat (first | rfl | exact hkS2 k oM | rw [lkp_cons_ne oM])⟩ kno (fun w s => (s.low 60 (by exact ⟨fun k hk => by rw [lkp_cons_ne oM, lkp_cons_ne oM]; rfl, fun k hk o ho => by rw [lkp_put_ne oM ho _ _ ble, lkp_put_ne oM ho _ _ ble]; rfl, fun k hk => by repeat (first | rfl | exact hkS2 k oM | rw [lkp_cons_ne oM])⟩) agx agx agx))
  ·refine rl ((rd_eql rfl rfl).to eF) ?_
   refine g7 ?_
   refine GC_is_false rfl rfl ?_
   refine g1 ?_
   refine GE_meet (ι := Rul × Av × List (Nat × Slc)) ⟨r2, x2, S2⟩ ⟨by unfold full3; rw [if_neg (fun h => h0 h.1)], fun B' H' w_ s_ => (by have hz_ : InL w_ (r2) (x2) := ir2 B' H' w_ s_; exact ⟨hz_.i9, hz_.i10, hz_.i11, hz_.i12, hz_.i13, hz_.i14, hz_.i15, hz_.i16, hz_.i17, hz_.i18⟩), (by exact ⟨gr2.g9, gr2.g10, gr2.g11, gr2.g12, gr2.g13, gr2.g14, gr2.g15, gr2.g16, gr2.g17, gr2.g18⟩), fun k hk => by repeat (first | rfl | exact hkS2 k oM | rw [lkp_cons_ne oM])⟩ kno (fun w s => (s.low 60 (by exact ⟨fun k hk => by rw [lkp_cons_ne oM, lkp_cons_ne oM]; rfl, fun k hk o ho => by rw [lkp_put_ne oM ho _ _ ble, lkp_put_ne oM ho _ _ ble]; rfl, fun k hk => by repeat (first | rfl | exact hkS2 k oM | rw [lkp_cons_ne oM])⟩) agx agx agx))
 rintro ⟨r3, x3, S3⟩ ⟨hr3, ir3, gr3, hkS3⟩
 show GC _ _ _ _ [(1, pT b1), (2, pT b2_), (6, iV (r1.start % 86400 / 3600)), (7, iV (r1.start % 86400 / 60 % 60)), (8, iV (r1.start % 86400 % 60))] _ _ ([(51, b2_), (50, b1)]) ((putKeys 51 0 [.int .u8 0, .bool false, iV 0, iV 0, iV 0, iV 0, .bool false, iV 0, .slice none 0 0, .slice none 0 0, .slice none 0 0, .slice none 0 0, .slice none 0 0, .slice none 0 0, .slice none 0 0, .slice none 0 0, .slice none 0 0, .slice none 0 0] ++ (putKeys 50 0 (rulC (r3) (x3)) ++ []))) (S3)
 obtain ⟨g1_, g2_, g3_⟩ := full3_same r2
 rw [← hr3] at g1_ g2_ g3_
 refine GC_cut (ι := (Rul) × (Av) × (List (Nat × Slc))) (fun | ⟨r4, x4, S4⟩ => (r4 = full4 (r3)) ∧ (InS w S4 r4 x4) ∧ (BkL (fun b => G b ∨ w.heap.size ≤ b) r4 x4) ∧ (∀ k, 27 ≤ k → lkp k S4 = none)) (fun | ⟨r4, x4, S4⟩ => [(1, pT b1), (2, pT b2_), (6, iV (r1.start % 86400 / 3600)), (7, iV (r1.start % 86400 / 60 % 60)), (8, iV (r1.start % 86400 % 60))]) (fun | ⟨r4, x4, S4⟩ => [(51, b2_), (50, b1)]) (fun | ⟨r4, x4, S4⟩ => (putKeys 51 0 [.int .u8 0, .bool false, iV 0, iV 0, iV 0, iV 0, .bool false, iV 0, .slice none 0 0, .slice none 0 0, .slice none 0 0, .slice none 0 0, .slice none 0 0, .slice none 0 0, .slice none 0 0, .slice none 0 0, .slice none 0 0, .slice none 0 0] ++ (putKeys 50 0 (rulC (r4) (x4)) ++ []))) (fun | ⟨r4, x4, S4⟩ => S4) ?_ ?_
 ·refine g1 ?_
  have hb_ : r3.second.length ≤ 2147483647 := by rw [g3_, f4, e5]; exact l17
  refine g1 ?_
  refine rl (rfa 16) ?_
  refine rl (rld 50 rfl rfl rfl) ?_
  refine g1 ?_
  rcases Decidable.em (r3.second.length = 0) with h0 | h0
  ·refine rl ((rd_eql rfl rfl).to eT) ?_
   refine g2 ?_
   refine rl (rfa 0) ?_
   refine g1 ?_
   refine rl (rld 50 rfl rfl rfl) ?_
   refine g1 ?_
   rcases Decidable.em (r3.freq < 6) with hfl | hfl
   ·refine rl ((rd_lss rfl rfl).to bT) ?_
    refine g3 ?_
    refine GC_is_true rfl rfl ?_
    refine g2 ?_
    refine gL (at_one_ 26 (e := 3) (sz := 1) (by_ := 8) (zs := [iV 0]) dE kR rfl dE dE rfl rfl rfl (fun o26 => ?_))
    refine GK_have (fun w s => Sees.fresh s (k := 26) rfl rfl) (fun ho26 => ?_)
    refine rl (rfa 16) ?_
    refine gL (sto 50 rfl rfl rfl rfl ?_)
    refine g1 ?_
    refine GE_meet (ι := Rul × Av × List (Nat × Slc)) ⟨{ r3 with second := [r1.start % 86400 % 60] }, { x3 with p17 := some ⟨o26, 0, none⟩, c17 := 1 }, (26, ⟨sL o26 1 1, 3, 1, 1, [iV (r1.start % 86400 % 60)]⟩) :: S3⟩ ⟨by unfold full4; rw [if_pos ⟨h0, hfl⟩, g1_, f1], fun B' H' w_ s_ => (by have hz_ : InL w_ (r3) (x3) := ir3 B' H' w_ (Sees.tailS s_ (hkS3 26 oM)); exact ⟨hz_.i9, hz_.i10, hz_.i11, hz_.i12, hz_.i13, hz_.i14, hz_.i15, hz_.i16, (s_.ints 26 (xs := [r1.start % 86400 % 60]) rfl), hz_.i18⟩), (by exact ⟨gr3.g9, gr3.g10, gr3.g11, gr3.g12, gr3.g13, gr3.g14, gr3.g15, gr3.g16, fun _ b_ o_ h_ => (by injection h_ with h_; injection h_ with h_; exact .inr (h_ ▸ ho26)), gr3.g18⟩), fun k hk => by repeat (first | rfl | exact hkS3 k oM | rw [lkp_cons_ne oM])⟩ kno (fun w s => (s.low 60 (by exact ⟨fun k hk => by rw [lkp_cons_ne oM, lkp_cons_ne oM]; rfl, fun k hk o ho => by rw [lkp_put_ne oM ho _ _ ble, lkp_put_ne oM ho _ _ ble]; rfl, fun k hk => by repeat (first | rfl | exact hkS3 k oM | rw [lkp_cons_ne oM])⟩) agx agx agx))
   ·refine rl ((rd_lss rfl rfl).to bF) ?_
    refine g3 ?_
    refine GC_is_false rfl rfl ?_
    refine g1 ?_
    refine GE_meet (ι := Rul × Av × List (Nat × Slc)) ⟨r3, x3, S3⟩ ⟨by unfold full4; rw [if_neg (fun h => hfl h.2)], fun B' H' w_ s_ => (by have hz_ : InL w_ (r3) (x3) := ir3 B' H' w_ s_; exact ⟨hz_.i9, hz_.i10, hz_.i11, hz_.i12, hz_.i13, hz_.i14, hz_.i15, hz_.i16, hz_.i17, hz_.i18⟩), (by exact ⟨gr3.g9, gr3.g10, gr3.g11, gr3.g12, gr3.g13, gr3.g14, gr3.g15, gr3.g16, gr3.g17, gr3.g18⟩), fun k hk => by repeat (first | rfl | exact hkS3 k oM | rw [lkp_cons_ne oM])⟩ kno (fun w s => (s.low 60 (by exact ⟨fun k hk => by rw [lkp_cons_ne oM, lkp_cons_ne oM]; rfl, fun k hk o ho => by rw [lkp_put_ne oM ho _ _ ble, lkp_put_ne oM ho _ _ ble]; rfl, fun k hk => by repeat (first | rfl | exact hkS3 k oM | rw [lkp_cons_ne oM])⟩) agx agx agx))
  ·refine rl ((rd_eql rfl rfl).to eF) ?_
   refine g7 ?_
   refine GC_is_false rfl rfl ?_
   refine g1 ?_
   refine GE_meet (ι := Rul × Av × List (Nat × Slc)) ⟨r3, x3, S3⟩ ⟨by unfold full4; rw [if_neg (fun h => h0 h.1)], fun B' H' w_ s_ => (by have hz_ : InL w_ (r3) (x3) := ir3 B' H' w_ s_; exact ⟨hz_.i9, hz_.i10, hz_.i11, hz_.i12, hz_.i13, hz_.i14, hz_.i15, hz_.i16, hz_.i17, hz_.i18⟩), (by exact ⟨gr3.g9, gr3.g10, gr3.g11, gr3.g12, gr3.g13, gr3.g14, gr3.g15, gr3.g16, gr3.g17, gr3.g18⟩), fun k hk => by repeat (first | rfl | exact hkS3 k oM | rw [lkp_cons_ne oM])⟩ kno (fun w s => (s.low 60 (by exact ⟨fun k hk => by rw [lkp_cons_ne oM, lkp_cons_ne oM]; rfl, fun k hk o ho => by rw [lkp_put_ne oM ho _ _ ble, lkp_put_ne oM ho _ _ ble]; rfl, fun k hk => by repeat (first | rfl | exact hkS3 k oM | rw [lkp_cons_ne oM])⟩) agx agx agx))
 rintro ⟨r4, x4, S4⟩ ⟨hr4, ir4, gr4, hkS4⟩
 show GC _ _ _ _ [(1, pT b1), (2, pT b2_), (6, iV (r1.start % 86400 / 3600)), (7, iV (r1.start % 86400 / 60 % 60)), (8, iV (r1.start % 86400 % 60))] _ _ ([(51, b2_), (50, b1)]) ((putKeys 51 0 [.int .u8 0, .bool false, iV 0, iV 0, iV 0, iV 0, .bool false, iV 0, .slice none 0 0, .slice none 0 0, .slice none 0 0, .slice none 0 0, .slice none 0 0, .slice none 0 0, .slice none 0 0, .slice none 0 0, .slice none 0 0, .slice none 0 0] ++ (putKeys 50 0 (rulC (r4) (x4)) ++ []))) (S4)
 refine g2 ?_
 refine rl ((rd_loadN 50 (cs := rulC r4 x4) rfl rfl (fun i u h => (lkp_put_ne (j := 51) dE (by have := (List.getElem?_eq_some_iff.1 h).1; have h18 : (rulC r4 x4).length = 18 := rfl; omega) _ _ ble).trans (put_get (rulC r4 x4) 0 ble i u h)) ble kR)) ?_
 refine gL (at_storeAgg 51 (cs := (rulC r4 x4).toArray) rfl rfl rfl rfl kR rfl ble ?_)
 refine g3 ?_
 have hF : fullR r = r4 := by unfold fullR; rw [← hr1, ← hr2, ← hr3, ← hr4]
 rw [hF]
 refine GE_ret1 (.inl rfl) rfl (res_cellN 51 (cs := rulC r4 x4) rfl rfl (fun i v h => by have := putSeq_get (j := 51) (rulC r4 x4) 0 (H := (putKeys 51 0 [.int .u8 0, .bool false, iV 0, iV 0, iV 0, iV 0, .bool false, iV 0, .slice none 0 0, .slice none 0 0, .slice none 0 0, .slice none 0 0, .slice none 0 0, .slice none 0 0, .slice none 0 0, .slice none 0 0, .slice none 0 0, .slice none 0 0] ++ (putKeys 50 0 (rulC (r4) (x4)) ++ []))) ble i v h; rwa [Nat.zero_add] at this) ble kR) fun w_ s_ => ⟨x4, rfl, s_.toBelow, ir4 _ _ _ s_, gr4⟩
end
end Go.Proofs.YtdbbifbmkfmbkaaGreat
namespace Go.Proofs.YtdbbifbmkfmbkaaGreat
open Go.RowKit Go.Fr Go.Tab
section
variable {F : Nat → Prop} {w0 : World} {B : List (Nat × Nat)} {H : List (Nat × Value)} {S : List (Nat × Slc)}
open Go.Md
def mdIn (l : List Int) (day : Int) : Bool := l.length == 0 || l.any (· == Cal.mdayOf day) || l.any (· == Cal.mdayOf day - Cal.mdays (Cal.monthOf day) (Cal.yearOf day) - 1)
def wdIn (l : List (Int × Int)) (day : Int) : Bool := l.length == 0 || l.any (fun p => p.1 == day % 7)
def dayIn2 (r : Rul) (day : Int) : Bool := amongB r.month (Cal.monthOf day) && (mdIn r.mday day && wdIn r.wday day)
theorem dayIn2_calls (r : Rul) (x : Av) (day : Int) (hday : 0 ≤ day ∧ day ≤ 5000000) (hf : 2 ≤ r.freq ∧ r.freq ≤ 6) (hy0 : r.yday.length = 0) (hw0 : r.weekno.length = 0) (he0 : r.easter.length = 0) (hl : LenL r) (w : World) (hin : InL w r x) : Calls Go.Proofs.Tryz.prog 62 #[.agg (rulC r x).toArray, iV day] w fun e w' => e = .returned (.bool (dayIn2 r day)) ∧ Below w.heap.size w w' := by
 obtain ⟨l9, l10, l11, l12, l13, l14, l15, l16, l17, l18⟩ := hl
 have hye := Cal.year_le day oM
 have hyb : 1 ≤ Cal.yearOf day := by have := split_bd0 (x := day * 86400) oM; rw [show day * 86400 / 86400 = day by omega] at this; omega
 have hmb := Cal.month_bd day
 have hmds := Cal.mdays_bd (Cal.monthOf day) (Cal.yearOf day)
 have hdt := (Cal.split_spec day).1
 have hI : ∀ i y, r.wday[i]? = some y → ∃ b o, x.p14 = some ⟨b, o, none⟩ ∧ w.cell? ⟨b, o + 2 * i, none⟩ = some (iV y.1) ∧ w.cell? ⟨b, o + 2 * i + 1, none⟩ = some (iV y.2) := by
  obtain ⟨p', c', e, hc⟩ := hin.i14
  injection e with e1 _ _
  rw [e1]; exact hc
 refine calls_GC (args := [.agg (rulC r x).toArray, iV day]) (L := [(0, .agg (rulC r x).toArray), (1, iV day)]) (N := 179) Tryz.func62 rfl rfl ble rfl (Sees.start (fun _ => False) w) ?_
 refine g2 ?_
 refine gL (at_box 50 (cs := rulC r x) dE rfl rfl rfl (fun o ho => rfl) ble (fun b1 hb1 => ?_))
 refine g6 ?_
 refine gL (cvo rfl (fun w_ s_ => civil_calls _ oM w_) ?_)
 refine g9 ?_
 refine GC_cut (ι := (Unit)) (fun u => (amongB r.month (Cal.monthOf day) = true)) (fun u => [(1, iV day), (2, pT b1), (5, iV (Cal.yearOf day)), (6, iV (Cal.monthOf day)), (7, iV (Cal.mdayOf day))]) (fun u => [(50, b1)]) (fun u => putKeys 50 0 (rulC r x) ++ []) (fun u => []) ?_ ?_
 ·refine g2 ?_
  refine rl (rfa 9) ?_
  refine rl (rld 50 rfl rfl rfl) ?_
  refine g1 ?_
  rcases Decidable.em (0 < r.month.length) with h0 | h0
  ·refine rl ((rd_gtr rfl rfl).to bT) ?_
   refine g2 ?_
   refine rl (rfa 9) ?_
   refine g1 ?_
   refine rl (rld 50 rfl rfl rfl) ?_
   refine g3 ?_
   rcases Bool.eq_false_or_eq_true (r.month.any (· == Cal.monthOf day)) with ha | ha
   ·refine gL (cvo (v := .bool true) rfl (fun w_ s_ => (scontains_calls r.month _ _ oM w_ (ints_see s_ hin.i10)).mono fun e_ w2_ h_ => ⟨h_.1.trans (congrArg (fun b => Ending.returned (Value.bool b)) ha), h_.2⟩) ?_)
    refine g5 ?_
    refine GC_is_false rfl rfl ?_
    refine g1 ?_
    refine GE_meet (ι := Unit) () (by unfold amongB; rw [ha, Bool.or_true]) kns (fun w s => s)
   ·have hF : dayIn2 r day = false := by unfold dayIn2; rw [show amongB r.month (Cal.monthOf day) = false from by unfold amongB; rw [ha, b_neN oM]; rfl]; simp
    refine gL (cvo (v := .bool false) rfl (fun w_ s_ => (scontains_calls r.month _ _ oM w_ (ints_see s_ hin.i10)).mono fun e_ w2_ h_ => ⟨h_.1.trans (congrArg (fun b => Ending.returned (Value.bool b)) ha), h_.2⟩) ?_)
    refine g5 ?_
    refine GC_is_true rfl rfl ?_
    refine g7 ?_
    exact GE_ret1 (.inl rfl) rfl (res_tmp rfl) fun w_ s_ => ⟨by rw [hF], s_.toBelow⟩
  ·refine rl ((rd_gtr rfl rfl).to bF) ?_
   refine g9 ?_
   refine GC_is_false rfl rfl ?_
   refine g1 ?_
   refine GE_meet (ι := Unit) () (by unfold amongB; rw [show r.month.length = 0 by omega]; rfl) kns (fun w s => s)
 rintro u hA
 show GC _ _ _ _ [(1, iV day), (2, pT b1), (5, iV (Cal.yearOf day)), (6, iV (Cal.monthOf day)), (7, iV (Cal.mdayOf day))] _ _ ([(50, b1)]) (putKeys 50 0 (rulC r x) ++ []) ([])
 refine GC_cut (ι := (Unit)) (fun u => (mdIn r.mday day = true)) (fun u => [(1, iV day), (2, pT b1), (5, iV (Cal.yearOf day)), (6, iV (Cal.monthOf day)), (7, iV (Cal.mdayOf day))]) (fun u => [(50, b1)]) (fun u => putKeys 50 0 (rulC r x) ++ []) (fun u => []) ?_ ?_
 ·refine g4 ?_
  refine gL (cvo rfl (fun w_ s_ => smonthDays_calls _ _ oM w_) ?_)
  refine g5 ?_
  refine rl (rfa 10) ?_
  refine rl (rld 50 rfl rfl rfl) ?_
  refine g1 ?_
  rcases Decidable.em (0 < r.mday.length) with h0 | h0
  ·refine rl ((rd_gtr rfl rfl).to bT) ?_
   refine g2 ?_
   refine rl (rfa 10) ?_
   refine g1 ?_
   refine rl (rld 50 rfl rfl rfl) ?_
   refine g3 ?_
   rcases Bool.eq_false_or_eq_true (r.mday.any (· == Cal.mdayOf day)) with ha | ha
   ·refine gL (cvo (v := .bool true) rfl (fun w_ s_ => (scontains_calls r.mday _ _ oM w_ (ints_see s_ hin.i11)).mono fun e_ w2_ h_ => ⟨h_.1.trans (congrArg (fun b => Ending.returned (Value.bool b)) ha), h_.2⟩) ?_)
    refine g15 ?_
    refine GC_is_false rfl rfl ?_
    refine g1 ?_
    refine GE_meet (ι := Unit) () (by unfold mdIn; rw [ha, Bool.or_true, Bool.true_or]) kns (fun w s => s)
   ·refine gL (cvo (v := .bool false) rfl (fun w_ s_ => (scontains_calls r.mday _ _ oM w_ (ints_see s_ hin.i11)).mono fun e_ w2_ h_ => ⟨h_.1.trans (congrArg (fun b => Ending.returned (Value.bool b)) ha), h_.2⟩) ?_)
    refine g5 ?_
    refine rl (rfa 10) ?_
    refine g1 ?_
    refine rl (rld 50 rfl rfl rfl) ?_
    refine g9 ?_
    rcases Bool.eq_false_or_eq_true (r.mday.any (· == Cal.mdayOf day - Cal.mdays (Cal.monthOf day) (Cal.yearOf day) - 1)) with hb | hb
    ·refine gL (cvo (v := .bool true) rfl (fun w_ s_ => (scontains_calls r.mday _ _ oM w_ (ints_see s_ hin.i11)).mono fun e_ w2_ h_ => ⟨h_.1.trans (congrArg (fun b => Ending.returned (Value.bool b)) hb), h_.2⟩) ?_)
     refine g5 ?_
     refine GC_is_false rfl rfl ?_
     refine g1 ?_
     refine GE_meet (ι := Unit) () (by unfold mdIn; rw [hb, Bool.or_true]) kns (fun w s => s)
    ·have hF : dayIn2 r day = false := by unfold dayIn2; rw [show mdIn r.mday day = false from by unfold mdIn; rw [ha, hb, b_neN oM]; rfl]; simp
     skip
     refine gL (cvo (v := .bool false) rfl (fun w_ s_ => (scontains_calls r.mday _ _ oM w_ (ints_see s_ hin.i11)).mono fun e_ w2_ h_ => ⟨h_.1.trans (congrArg (fun b => Ending.returned (Value.bool b)) hb), h_.2⟩) ?_)
     refine g5 ?_
     refine GC_is_true rfl rfl ?_
     refine g7 ?_
     exact GE_ret1 (.inl rfl) rfl (res_tmp rfl) fun w_ s_ => ⟨by rw [hF], s_.toBelow⟩
  ·refine rl ((rd_gtr rfl rfl).to bF) ?_
   refine g18 ?_
   refine g1 ?_
   refine GC_is_false rfl rfl ?_
   refine g1 ?_
   refine GE_meet (ι := Unit) () (by unfold mdIn; rw [show r.mday.length = 0 by omega]; rfl) kns (fun w s => s)
 rintro u hM
 show GC _ _ _ _ [(1, iV day), (2, pT b1), (5, iV (Cal.yearOf day)), (6, iV (Cal.monthOf day)), (7, iV (Cal.mdayOf day))] _ _ ([(50, b1)]) (putKeys 50 0 (rulC r x) ++ []) ([])
 refine g5 ?_
 refine gL (cvo rfl (fun w_ s_ => newYear_calls _ oM w_) ?_)
 refine g7 ?_
 refine rq (rfa 11) ?_
 refine rq (rld 50 rfl rfl rfl) ?_
 refine g1 ?_
 rcases Decidable.em (0 < r.yday.length) with h0 | h0
 ·omega
 ·refine rq ((rd_gtr rfl rfl).to bF) ?_
  refine g20 ?_
  refine GC_is_false rfl rfl ?_
  refine g5 ?_
  refine rl (rfa 12) ?_
  refine rl (rld 50 rfl rfl rfl) ?_
  refine g1 ?_
  rcases Decidable.em (0 < r.weekno.length) with h0 | h0
  ·omega
  ·refine rl ((rd_gtr rfl rfl).to bF) ?_
   refine g2 ?_
   refine GC_is_false rfl rfl ?_
   refine g5 ?_
   refine rq (rfa 17) ?_
   refine rq (rld 50 rfl rfl rfl) ?_
   refine g1 ?_
   rcases Decidable.em (0 < r.easter.length) with h0 | h0
   ·omega
   ·refine rq ((rd_gtr rfl rfl).to bF) ?_
    refine g12 ?_
    refine GC_is_false rfl rfl ?_
    refine g5 ?_
    refine rl (rfa 13) ?_
    refine rl (rld 50 rfl rfl rfl) ?_
    refine g1 ?_
    rcases Decidable.em (r.wday.length = 0) with h0 | h0
    ·have hF : dayIn2 r day = true := by unfold dayIn2 wdIn; rw [hA, hM, h0]; rfl
     refine rl ((rd_eql rfl rfl).to eT) ?_
     refine g2 ?_
     refine GC_is_true rfl rfl ?_
     refine g7 ?_
     exact GE_ret1 (.inl rfl) rfl (res_tmp rfl) fun w_ s_ => ⟨by rw [hF], s_.toBelow⟩
    ·refine rl ((rd_eql rfl rfl).to eF) ?_
     refine g2 ?_
     refine GC_is_false rfl rfl ?_
     refine g5 ?_
     refine rl (rfa 13) ?_
     refine rl (rld 50 rfl rfl rfl) ?_
     refine g5 ?_
     refine GC_loop (ι := (Nat)) (fun k => r.wday.length - k) (fun k => (k ≤ r.wday.length) ∧ ((r.wday.take k).any (fun p => p.1 == day % 7) = false)) (fun k => [(1, iV day), (2, pT b1), (129, .slice x.p14 r.wday.length x.c14), (130, iV (r.wday.length)), (131, iV k)]) (fun k => [(50, b1)]) (fun k => putKeys 50 0 (rulC r x) ++ []) (fun k => []) 0 ⟨Nat.zero_le _, rfl⟩ kns (fun w s => by exact s) ?_
     rintro k ⟨hk, hn⟩
     show GC _ _ _ _ [(1, iV day), (2, pT b1), (129, .slice x.p14 r.wday.length x.c14), (130, iV (r.wday.length)), (131, iV k)] _ _ ([(50, b1)]) (putKeys 50 0 (rulC r x) ++ []) ([])
     refine g6 ?_
     refine GC_cond rfl (fun hc1 => ?_) (fun hc2 => ?_)
     ·have hlt : k < r.wday.length := by have := of_decide_eq_true hc1; omega
      obtain ⟨y, hy⟩ : ∃ y, r.wday[k]? = some y := ⟨_, List.getElem?_eq_getElem hlt⟩
      obtain ⟨b_, o_, hp0, hca, hcb⟩ := hI k y hy
      refine g6 ?_
      refine rl (rd_indexAddr (e := 47) (n := 2) kR (congrArg (fun p => some (Value.slice p _ _)) hp0) rfl oM oM) ?_
      refine rl (rd_load2_old rfl (by rw [← hca]; congr 2; omega) (by rw [← hcb]; congr 2; omega) (fun h => h) kR) ?_
      refine gL (at_alloc 51 (cs := [iV 0, iV 0]) dE kR rfl (fun o ho => by repeat (first | rfl | rw [lkp_put_ne dE ho _ _ ble])) ble (fun b2_ hb2_ => ?_))
      refine gL (sta 51 rfl rfl rfl rfl ?_)
      refine g5 ?_
      refine rq (rfa 0) ?_
      refine rq (rld 51 rfl rfl rfl) ?_
      refine g1 ?_
      refine GQ_call_v dE kR rfl (fun w_ s_ => sweekday_calls _ oM w_) ?_
      refine g3 ?_
      refine GC_cond rfl (fun hc1 => ?_) (fun hc2 => ?_)
      ·have hne : (y.1 == day % 7) = false := by have := bne_iff_ne.1 hc1; exact b_ne this
       refine g8 ?_
       refine GE_back (k + 1) oM ⟨by omega, by rw [List.take_add_one, hy, List.any_append, hn]; simp [hne]⟩ kns (fun w s => by exact (s.low 51 (by exact ⟨fun k hk => by rw [lkp_cons_ne oM]; rfl, fun k hk o ho => by rw [lkp_put_ne oM ho _ _ ble]; rfl, fun _ _ => rfl⟩) agx agx agx))
      ·have heq : (y.1 == day % 7) = true := by have := bne_eq_false_iff_eq.1 hc2; exact b_eq this
       have hF : dayIn2 r day = true := by unfold dayIn2 wdIn; rw [hA, hM, show r.wday.any (fun p => p.1 == day % 7) = true from List.any_eq_true.2 ⟨y, List.mem_of_getElem? hy, heq⟩]; simp
       refine g5 ?_
       refine rl (rfa 1) ?_
       refine rl (rld 51 rfl rfl rfl) ?_
       rcases Decidable.em (y.2 = 0) with hz | hz
       ·refine rl ((rd_eql rfl rfl).to eT) ?_
        refine g8 ?_
        refine GC_is_true rfl rfl ?_
        refine g12 ?_
        exact GE_ret1 (.inl rfl) rfl (res_tmp rfl) fun w_ s_ => ⟨by rw [hF], s_.toBelow⟩
       ·refine rl ((rd_eql rfl rfl).to eF) ?_
        refine g2 ?_
        refine rl (rfa 0) ?_
        refine g1 ?_
        refine rl (rld 50 rfl rfl rfl) ?_
        refine g1 ?_
        refine rl ((rd_gtr rfl rfl).to bT) ?_
        refine g4 ?_
        refine GC_is_true rfl rfl ?_
        refine g12 ?_
        exact GE_ret1 (.inl rfl) rfl (res_tmp rfl) fun w_ s_ => ⟨by rw [hF], s_.toBelow⟩
     ·obtain rfl : k = r.wday.length := by have := of_decide_eq_false hc2; omega
      rw [List.take_length] at hn
      have hF : dayIn2 r day = false := by unfold dayIn2 wdIn; rw [hn, b_neN h0]; simp
      refine g11 ?_
      exact GE_ret1 (.inl rfl) rfl (res_tmp rfl) fun w_ s_ => ⟨by rw [hF], s_.toBelow⟩
end
end Go.Proofs.YtdbbifbmkfmbkaaGreat
namespace Go.Proofs.YtdbbifbmkfmbkaaGreat
open Go.RowKit Go.Fr Go.Tab
section
variable {F : Nat → Prop} {w0 : World} {B : List (Nat × Nat)} {H : List (Nat × Value)} {S : List (Nat × Slc)}
open Go.Md
def UD (r : Rul) (u dy : Int) : Prop := (u = 3600 ∧ dy = 24 ∧ r.freq = 4) ∨ (u = 60 ∧ dy = 1440 ∧ r.freq = 5) ∨ (u = 1 ∧ dy = 86400 ∧ r.freq = 6)
def MeetsP (r : Rul) : Prop := ∃ u dy at_ : Int, UD r u dy ∧ 0 ≤ at_ ∧ at_ < dy ∧ at_ % (Nat.gcd r.interval.toNat dy.toNat : Nat) = r.start % 86400 / u % (Nat.gcd r.interval.toNat dy.toNat : Nat) ∧
 amongB r.hour (at_ * u / 3600) = true ∧ (5 ≤ r.freq → amongB r.minute (at_ * u / 60 % 60) = true) ∧ (r.freq = 6 → amongB r.second (at_ * u % 60) = true)
theorem meets_calls (r : Rul) (x : Av) (hs : 0 ≤ r.start ∧ r.start ≤ 1000000000000) (hi : 1 ≤ r.interval ∧ r.interval ≤ 1000) (hf : r.freq = 4 ∨ r.freq = 5 ∨ r.freq = 6) (hl : LenL r) (w : World) (hin : InL w r x) : Calls Go.Proofs.Tryz.prog 32 #[.agg (rulC r x).toArray] w fun e w' => ∃ b : Bool, (b = true → MeetsP r) ∧ e = .returned (.bool b) ∧ Below w.heap.size w w' := by
 obtain ⟨l9, l10, l11, l12, l13, l14, l15, l16, l17, l18⟩ := hl
 refine calls_GC (args := [.agg (rulC r x).toArray]) (L := [(0, .agg (rulC r x).toArray)]) (N := 77) Tryz.func32 rfl rfl ble rfl (Sees.start (fun _ => False) w) ?_
 refine g2 ?_
 refine gL (at_box 50 (cs := rulC r x) dE rfl rfl rfl (fun o ho => rfl) ble (fun b1 hb1 => ?_))
 refine g3 ?_
 refine GC_cut (ι := (Int) × (Int)) (fun | ⟨u, dy⟩ => (UD r u dy)) (fun | ⟨u, dy⟩ => [(1, pT b1), (3, iV u)]) (fun | ⟨u, dy⟩ => [(50, b1)]) (fun | ⟨u, dy⟩ => putKeys 50 0 (rulC r x) ++ []) (fun | ⟨u, dy⟩ => []) ?_ ?_
 ·rcases hf with hq | hq | hq
  ·refine g1 ?_
   refine gL (at_row 50 (e := 3) (sz := 1) (n := 3) (vs := [(0, iV 3600), (1, iV 60), (2, iV 1)]) (cs := [iV 3600, iV 60, iV 1]) dE rfl (fun w => by kernel_rfl) rfl dE dE rfl (fun b1_ hbb1_ => ?_))
   refine rl (rfa 0) ?_
   refine rl ((rld 50 rfl rfl rfl).to (v' := .int .u8 4) (congrArg (Value.int .u8) hq)) ?_
   refine rl ((rd_sub rfl rfl).to (v' := .int .u8 0) rfl) ?_
   refine rl (rd_indexAddr (e := 3) (n := 1) kR rfl rfl oM oM) ?_
   refine rl (rd_load_row 50 rfl rfl rfl rfl kR) ?_
   refine g2 ?_
   refine GE_meet (ι := Int × Int) (⟨3600, 24⟩) (.inl ⟨rfl, rfl, hq⟩) kno (fun w s => Sees.tailS s rfl)
  ·refine g1 ?_
   refine gL (at_row 50 (e := 3) (sz := 1) (n := 3) (vs := [(0, iV 3600), (1, iV 60), (2, iV 1)]) (cs := [iV 3600, iV 60, iV 1]) dE rfl (fun w => by kernel_rfl) rfl dE dE rfl (fun b2_ hbb2_ => ?_))
   refine rl (rfa 0) ?_
   refine rl ((rld 50 rfl rfl rfl).to (v' := .int .u8 5) (congrArg (Value.int .u8) hq)) ?_
   refine rl ((rd_sub rfl rfl).to (v' := .int .u8 1) rfl) ?_
   refine rl (rd_indexAddr (e := 3) (n := 1) kR rfl rfl oM oM) ?_
   refine rl (rd_load_row 50 rfl rfl rfl rfl kR) ?_
   refine g2 ?_
   refine GE_meet (ι := Int × Int) (⟨60, 1440⟩) (.inr (.inl ⟨rfl, rfl, hq⟩)) kno (fun w s => Sees.tailS s rfl)
  ·refine g1 ?_
   refine gL (at_row 50 (e := 3) (sz := 1) (n := 3) (vs := [(0, iV 3600), (1, iV 60), (2, iV 1)]) (cs := [iV 3600, iV 60, iV 1]) dE rfl (fun w => by kernel_rfl) rfl dE dE rfl (fun b3_ hbb3_ => ?_))
   refine rl (rfa 0) ?_
   refine rl ((rld 50 rfl rfl rfl).to (v' := .int .u8 6) (congrArg (Value.int .u8) hq)) ?_
   refine rl ((rd_sub rfl rfl).to (v' := .int .u8 2) rfl) ?_
   refine rl (rd_indexAddr (e := 3) (n := 1) kR rfl rfl oM oM) ?_
   refine rl (rd_load_row 50 rfl rfl rfl rfl kR) ?_
   refine g2 ?_
   refine GE_meet (ι := Int × Int) (⟨1, 86400⟩) (.inr (.inr ⟨rfl, rfl, hq⟩)) kno (fun w s => Sees.tailS s rfl)
 rintro ⟨u, dy⟩ hu
 show GC _ _ _ _ [(1, pT b1), (3, iV u)] _ _ ([(50, b1)]) (putKeys 50 0 (rulC r x) ++ []) ([])
 have hub : 1 ≤ u ∧ u ≤ 3600 ∧ 1 ≤ dy ∧ dy ≤ 86400 ∧ 86400 / u = dy := by rcases hu with ⟨rfl, rfl, _⟩ | ⟨rfl, rfl, _⟩ | ⟨rfl, rfl, _⟩ <;> decide
 obtain ⟨hu1, hu2, hd1, hd2, hud⟩ := hub
 have hst : 0 ≤ r.start % 86400 / u ∧ r.start % 86400 / u < dy := by rcases hu with ⟨rfl, rfl, _⟩ | ⟨rfl, rfl, _⟩ | ⟨rfl, rfl, _⟩ <;> omega
 obtain ⟨i0, hi0⟩ : ∃ i0 : Nat, r.interval = i0 := ⟨r.interval.toNat, by omega⟩
 obtain ⟨d0, hd0⟩ : ∃ d0 : Nat, dy = d0 := ⟨dy.toNat, by omega⟩
 have hgp : 0 < Nat.gcd i0 d0 := Nat.gcd_pos_of_pos_left _ oM
 refine g3 ?_
 refine rl ((rd_quo_ rfl rfl oM oM oM).to (v' := iV dy) (congrArg (Value.int .i64) hud)) ?_
 refine g5 ?_
 refine rl (rfa 3) ?_
 refine rl (rld 50 rfl rfl rfl) ?_
 refine g7 ?_
 refine GC_loop (ι := (Nat) × (Nat)) (fun | ⟨a, b⟩ => b) (fun | ⟨a, b⟩ => (Nat.gcd a b = Nat.gcd i0 d0) ∧ (b ≤ 86400 ∧ a ≤ 86400)) (fun | ⟨a, b⟩ => [(1, pT b1), (3, iV u), (4, iV dy), (5, iV ((a : Int))), (6, iV ((b : Int)))]) (fun | ⟨a, b⟩ => [(50, b1)]) (fun | ⟨a, b⟩ => putKeys 50 0 (rulC r x) ++ []) (fun | ⟨a, b⟩ => []) ⟨i0, d0⟩ ⟨rfl, by omega⟩ kno (fun w s => by exact s) ?_
 rintro ⟨a, b⟩ ⟨hg, hb⟩
 show GC _ _ _ _ [(1, pT b1), (3, iV u), (4, iV dy), (5, iV ((a : Int))), (6, iV ((b : Int)))] _ _ ([(50, b1)]) (putKeys 50 0 (rulC r x) ++ []) ([])
 refine g7 ?_
 refine GC_cond rfl (fun hc1 => ?_) (fun hc2 => ?_)
 ·have hb0 : b ≠ 0 := by have := bne_iff_ne.1 hc1; omega
  refine g7 ?_
  refine rq ((rd_rem_ rfl rfl oM oM).to (v' := iV ((a % b : Nat) : Int)) (congrArg (Value.int .i64) oM)) ?_
  refine g4 ?_
  refine GE_back ⟨b, a % b⟩ (by exact Nat.mod_lt a oM) ⟨by rw [Nat.gcd_comm, ← Nat.gcd_rec, Nat.gcd_comm]; exact hg, by have := Nat.mod_lt a (show 0 < b by omega); omega⟩ kno (fun w s => by exact s)
 ·obtain rfl : b = 0 := by have := bne_eq_false_iff_eq.1 hc2; omega
  obtain rfl : a = Nat.gcd i0 d0 := by rw [← hg, Nat.gcd_zero_right]
  refine g7 ?_
  refine rl (rfa 2) ?_
  refine rl (rld 50 rfl rfl rfl) ?_
  refine g16 ?_
  refine GC_loop (ι := (Int)) (fun t => (dy - t).toNat) (fun t => (0 ≤ t) ∧ (t % (Nat.gcd i0 d0 : Nat) = r.start % 86400 / u % (Nat.gcd i0 d0 : Nat))) (fun t => [(1, pT b1), (3, iV u), (4, iV dy), (5, iV ((Nat.gcd i0 d0 : Nat))), (8, iV t)]) (fun t => [(50, b1)]) (fun t => putKeys 50 0 (rulC r x) ++ []) (fun t => []) (r.start % 86400 / u % (Nat.gcd i0 d0 : Nat)) ⟨Int.emod_nonneg _ oM, Int.emod_emod_of_dvd _ (Int.dvd_refl _)⟩ kno (fun w s => by exact s) ?_
  rintro t ⟨ht0, htg⟩
  show GC _ _ _ _ [(1, pT b1), (3, iV u), (4, iV dy), (5, iV ((Nat.gcd i0 d0 : Nat))), (8, iV t)] _ _ ([(50, b1)]) (putKeys 50 0 (rulC r x) ++ []) ([])
  refine g8 ?_
  refine GC_cond rfl (fun hc1 => ?_) (fun hc2 => ?_)
  ·have hlt : t < dy := of_decide_eq_true hc1
   have hm : 0 ≤ t * u ∧ t * u < 86400 := by rcases hu with ⟨rfl, rfl, _⟩ | ⟨rfl, rfl, _⟩ | ⟨rfl, rfl, _⟩ <;> omega
   refine g15 ?_
   refine rl (rfa 14) ?_
   refine rl (rld 50 rfl rfl rfl) ?_
   refine g2 ?_
   rcases Bool.eq_false_or_eq_true (amongB r.hour (t * u / 3600)) with ha | ha
   ·refine gL (cvo (v := .bool true) rfl (fun w_ s_ => (samong_calls r.hour (t * u / 3600) _ oM w_ (ints_see s_ hin.i15)).mono fun e_ w2_ h_ => ⟨h_.1.trans (congrArg (fun b => Ending.returned (Value.bool b)) ha), h_.2⟩) ?_)
    refine g3 ?_
    refine rl (rfa 0) ?_
    refine g1 ?_
    refine rl (rld 50 rfl rfl rfl) ?_
    refine g1 ?_
    rcases Decidable.em (5 ≤ r.freq) with h5 | h5
    ·refine rl ((rd_geq rfl rfl).to bT) ?_
     refine g3 ?_
     refine rl (rfa 15) ?_
     refine g1 ?_
     refine rl (rld 50 rfl rfl rfl) ?_
     refine g7 ?_
     rcases Bool.eq_false_or_eq_true (amongB r.minute (t * u / 60 % 60)) with hb | hb
     ·refine gL (cvo (v := .bool true) rfl (fun w_ s_ => (samong_calls r.minute (t * u / 60 % 60) _ oM w_ (ints_see s_ hin.i16)).mono fun e_ w2_ h_ => ⟨h_.1.trans (congrArg (fun b => Ending.returned (Value.bool b)) hb), h_.2⟩) ?_)
      refine g7 ?_
      refine rl (rfa 0) ?_
      refine g1 ?_
      refine rl (rld 50 rfl rfl rfl) ?_
      refine g1 ?_
      rcases Decidable.em (r.freq = 6) with h6 | h6
      ·refine rl ((rd_eql rfl rfl).to eT) ?_
       refine g3 ?_
       refine rl (rfa 16) ?_
       refine g1 ?_
       refine rl (rld 50 rfl rfl rfl) ?_
       refine g5 ?_
       rcases Bool.eq_false_or_eq_true (amongB r.second (t * u % 60)) with hc | hc
       ·refine gL (cvo (v := .bool true) rfl (fun w_ s_ => (samong_calls r.second (t * u % 60) _ oM w_ (ints_see s_ hin.i17)).mono fun e_ w2_ h_ => ⟨h_.1.trans (congrArg (fun b => Ending.returned (Value.bool b)) hc), h_.2⟩) ?_)
        refine g7 ?_
        refine GC_is_false rfl rfl ?_
        refine g13 ?_
        exact GE_ret1 (.inl rfl) rfl (res_tmp rfl) fun w_ s_ => ⟨_, (by first | (intro h_; cases h_; done) | exact fun _ => ⟨u, dy, t, hu, ht0, hlt, by rw [hi0, hd0]; exact htg, ha, fun h => by first | exact hb | omega, fun h => by first | exact hc | omega⟩), rfl, s_.toBelow⟩
       ·refine gL (cvo (v := .bool false) rfl (fun w_ s_ => (samong_calls r.second (t * u % 60) _ oM w_ (ints_see s_ hin.i17)).mono fun e_ w2_ h_ => ⟨h_.1.trans (congrArg (fun b => Ending.returned (Value.bool b)) hc), h_.2⟩) ?_)
        refine g7 ?_
        refine GC_is_true rfl rfl ?_
        refine g10 ?_
        refine GE_back (t + (Nat.gcd i0 d0 : Nat)) oM ⟨by omega, by rw [Int.add_emod_right]; exact htg⟩ kno (fun w s => by exact s)
      ·refine rl ((rd_eql rfl rfl).to eF) ?_
       refine g13 ?_
       refine GC_is_false rfl rfl ?_
       refine g13 ?_
       exact GE_ret1 (.inl rfl) rfl (res_tmp rfl) fun w_ s_ => ⟨_, (by first | (intro h_; cases h_; done) | exact fun _ => ⟨u, dy, t, hu, ht0, hlt, by rw [hi0, hd0]; exact htg, ha, fun h => by first | exact hb | omega, fun h => by first | exact hc | omega⟩), rfl, s_.toBelow⟩
     ·refine gL (cvo (v := .bool false) rfl (fun w_ s_ => (samong_calls r.minute (t * u / 60 % 60) _ oM w_ (ints_see s_ hin.i16)).mono fun e_ w2_ h_ => ⟨h_.1.trans (congrArg (fun b => Ending.returned (Value.bool b)) hb), h_.2⟩) ?_)
      refine g20 ?_
      refine GC_is_true rfl rfl ?_
      refine g10 ?_
      refine GE_back (t + (Nat.gcd i0 d0 : Nat)) oM ⟨by omega, by rw [Int.add_emod_right]; exact htg⟩ kno (fun w s => by exact s)
    ·refine rl ((rd_geq rfl rfl).to bF) ?_
     refine g14 ?_
     refine rl (rfa 0) ?_
     refine g1 ?_
     refine rl (rld 50 rfl rfl rfl) ?_
     refine g1 ?_
     rcases Decidable.em (r.freq = 6) with h6 | h6
     ·refine rl ((rd_eql rfl rfl).to eT) ?_
      refine g3 ?_
      refine rl (rfa 16) ?_
      refine g1 ?_
      refine rl (rld 50 rfl rfl rfl) ?_
      refine g5 ?_
      rcases Bool.eq_false_or_eq_true (amongB r.second (t * u % 60)) with hc | hc
      ·refine gL (cvo (v := .bool true) rfl (fun w_ s_ => (samong_calls r.second (t * u % 60) _ oM w_ (ints_see s_ hin.i17)).mono fun e_ w2_ h_ => ⟨h_.1.trans (congrArg (fun b => Ending.returned (Value.bool b)) hc), h_.2⟩) ?_)
       refine g7 ?_
       refine GC_is_false rfl rfl ?_
       refine g13 ?_
       exact GE_ret1 (.inl rfl) rfl (res_tmp rfl) fun w_ s_ => ⟨_, (by first | (intro h_; cases h_; done) | exact fun _ => ⟨u, dy, t, hu, ht0, hlt, by rw [hi0, hd0]; exact htg, ha, fun h => by first | exact hb | omega, fun h => by first | exact hc | omega⟩), rfl, s_.toBelow⟩
      ·refine gL (cvo (v := .bool false) rfl (fun w_ s_ => (samong_calls r.second (t * u % 60) _ oM w_ (ints_see s_ hin.i17)).mono fun e_ w2_ h_ => ⟨h_.1.trans (congrArg (fun b => Ending.returned (Value.bool b)) hc), h_.2⟩) ?_)
       refine g7 ?_
       refine GC_is_true rfl rfl ?_
       refine g10 ?_
       refine GE_back (t + (Nat.gcd i0 d0 : Nat)) oM ⟨by omega, by rw [Int.add_emod_right]; exact htg⟩ kno (fun w s => by exact s)
     ·refine rl ((rd_eql rfl rfl).to eF) ?_
      refine g13 ?_
      refine GC_is_false rfl rfl ?_
      refine g13 ?_
      exact GE_ret1 (.inl rfl) rfl (res_tmp rfl) fun w_ s_ => ⟨_, (by first | (intro h_; cases h_; done) | exact fun _ => ⟨u, dy, t, hu, ht0, hlt, by rw [hi0, hd0]; exact htg, ha, fun h => by first | exact hb | omega, fun h => by first | exact hc | omega⟩), rfl, s_.toBelow⟩
   ·refine gL (cvo (v := .bool false) rfl (fun w_ s_ => (samong_calls r.hour (t * u / 3600) _ oM w_ (ints_see s_ hin.i15)).mono fun e_ w2_ h_ => ⟨h_.1.trans (congrArg (fun b => Ending.returned (Value.bool b)) ha), h_.2⟩) ?_)
    refine g30 ?_
    refine GC_is_true rfl rfl ?_
    refine g10 ?_
    refine GE_back (t + (Nat.gcd i0 d0 : Nat)) oM ⟨by omega, by rw [Int.add_emod_right]; exact htg⟩ kno (fun w s => by exact s)
  ·refine g11 ?_
   exact GE_ret1 (.inl rfl) rfl (res_tmp rfl) fun w_ s_ => ⟨_, (by first | (intro h_; cases h_; done) | exact fun _ => ⟨u, dy, t, hu, ht0, hlt, by rw [hi0, hd0]; exact htg, ha, fun h => by first | exact hb | omega, fun h => by first | exact hc | omega⟩), rfl, s_.toBelow⟩
end
end Go.Proofs.YtdbbifbmkfmbkaaGreat
namespace Go.Proofs.YtdbbifbmkfmbkaaGreat
open Go.RowKit Go.Fr Go.Tab
section
variable {F : Nat → Prop} {w0 : World} {B : List (Nat × Nat)} {H : List (Nat × Value)} {S : List (Nat × Slc)}
open Go.Fr
section
variable {P : Program} {N : Nat} {L : Fr.Loc} {F : Nat → Prop} {w0 : World} {B : List (Nat × Nat)} {H : List (Nat × Value)} {S : List (Nat × Slc)} {d : Nat} {ty : TypeId} {pos : String} {aft : Array Edge} {g : Option (Nat × Bool)}
def boolB (P : Program) (t : TypeId) : Bool := match P.underlying t with
 | some .bool => true
 | _ => false
theorem boolB_is {t : TypeId} (h : boolB P t = true) : P.underlying t = some .bool := by
 unfold boolB at h
 split at h
 ·assumption
 ·cases h
theorem rd_neqB {xt yt : TypeId} {x y : Operand} {m n : Bool} (hx : ev L x = some (.bool m)) (hy : ev L y = some (.bool n)) (ht : boolB P xt = true := by kernel_rfl) : Rd P ⟨some d, .binOp .neq xt x y yt, ty, pos, aft, g⟩ N L F w0 B H S (.bool (m != n)) := fun a w k s => by
 simp [execOp, eqGuard, k.eval hx, k.eval hy, run_neq_bool w xt m n (boolB_is ht), bne]
end
theorem prs_take {w : World} {p : Option Addr} {c : Nat} {xs : List (Int × Int)} {k : Nat} (h : Prs w (.slice p xs.length c) xs) (hk : k ≤ xs.length) : Prs w (.slice p k c) (xs.take k) := by
 obtain ⟨p', c', e, hc⟩ := h
 injection e with e1 _ e3
 subst e1 e3
 refine ⟨p, c, by rw [List.length_take, Nat.min_eq_left hk], fun i x hx => ?_⟩
 rw [List.getElem?_take] at hx
 split at hx
 ·exact hc i x hx
 ·cases hx
structure CapL (r : Rul) (x : Av) : Prop where
 c9 : r.setpos.length ≤ x.c9
 c10 : r.month.length ≤ x.c10
 c11 : r.mday.length ≤ x.c11
 c12 : r.yday.length ≤ x.c12
 c13 : r.weekno.length ≤ x.c13
 c14 : r.wday.length ≤ x.c14
 c15 : r.hour.length ≤ x.c15
 c16 : r.minute.length ≤ x.c16
 c17 : r.second.length ≤ x.c17
 c18 : r.easter.length ≤ x.c18
structure Rt1 (r : Rul) : Prop where
 freq : 0 ≤ r.freq ∧ r.freq ≤ 6
 hs : r.hasStart = true
 start : 1 ≤ r.start ∧ r.start < Cal.daysTo 9000 * 86400
 interval : 1 ≤ r.interval ∧ r.interval ≤ 1000
 wkst : 0 ≤ r.wkst ∧ r.wkst ≤ 6
 count : 0 ≤ r.count ∧ r.count ≤ 1000000
def Rt2 (r : Rul) : Prop := (r.hasUntil = false → r.untl = 0) ∧ (r.hasUntil = true → r.count = 0 ∧ 1 ≤ r.untl ∧ r.untl < Cal.daysTo 10000 * 86400)
structure Rt3 (r : Rul) : Prop where
 h9 : inRF r.setpos 1 366 true = true
 h10 : inRF r.month 1 12 false = true
 h11 : inRF r.mday 1 31 true = true
 h12 : inRF r.yday 1 366 true = true
 h13 : inRF r.weekno 1 51 true = true
 h15 : inRF r.hour 0 23 false = true
 h16 : inRF r.minute 0 59 false = true
 h17 : inRF r.second 0 59 false = true
def EOk (r : Rul) (i : Nat) (y : Int) : Prop := -80 ≤ y ∧ y ≤ 200 ∧ r.freq = 0 ∧ (r.easter.take i).any (· == y) = false
def Rt4 (r : Rul) : Prop := ∀ i y, r.easter[i]? = some y → EOk r i y
def Rt5 (r : Rul) : Prop := (r.freq ≠ 0 → r.weekno.length = 0 ∧ r.yday.length = 0) ∧ (r.freq = 2 → r.mday.length = 0)
def most1 (r : Rul) : Int := if r.freq = 1 ∨ (r.freq = 0 ∧ 0 < r.month.length) then 5 else if r.freq = 0 then 53 else 0
def mostD (r : Rul) : Int := if 0 < r.weekno.length then 0 else most1 r
def DOk (r : Rul) (i : Nat) (y : Int × Int) : Prop := (∀ y0, r.wday[0]? = some y0 → (y.2 = 0 ↔ y0.2 = 0)) ∧ (0 ≤ y.1 ∧ y.1 ≤ 6) ∧ (-mostD r ≤ y.2 ∧ y.2 ≤ mostD r) ∧ (r.wday.take i).any (· == y) = false ∧ i < 100
def Rt6 (r : Rul) : Prop := ∀ i y, r.wday[i]? = some y → DOk r i y
def Rt7 (r : Rul) : Prop := r.freq = 2 → 0 < r.setpos.length → r.start / 86400 % 7 = r.wkst
def Rt8 (r : Rul) : Prop := 4 ≤ r.freq → MeetsP r
def Rt9 (r : Rul) : Prop := r.setpos.length = 0 ∨ 0 < r.month.length + r.mday.length + r.yday.length + r.weekno.length + r.wday.length + r.hour.length + r.minute.length + r.second.length + r.easter.length
structure RightP (r : Rul) : Prop where
 t1 : Rt1 r
 t2 : Rt2 r
 t3 : Rt3 r
 t4 : Rt4 r
 t5 : Rt5 r
 t6 : Rt6 r
 t7 : Rt7 r
 t8 : Rt8 r
 t9 : Rt9 r
theorem right_calls (r : Rul) (x : Av) (hfb : 0 ≤ r.freq) (hl : LenL r) (hc : CapL r x) (w : World) (hin : InL w r x) : Calls Go.Proofs.Tryz.prog 16 #[.agg (rulC r x).toArray] w fun e w' => ∃ b : Bool, (b = true → RightP r) ∧ e = .returned (.bool b) ∧ Below w.heap.size w w' := by
 obtain ⟨l9, l10, l11, l12, l13, l14, l15, l16, l17, l18⟩ := hl
 have hN1 : Cal.daysTo 9000 = 3286817 := by decide
 have hN2 : Cal.daysTo 10000 = 3652059 := by decide
 have hIE : ∀ i y, r.easter[i]? = some y → ∃ b o, x.p18 = some ⟨b, o, none⟩ ∧ w.cell? ⟨b, o + i, none⟩ = some (iV y) := by
  obtain ⟨p', c', e, hc'⟩ := hin.i18
  injection e with e1 _ _
  rw [e1]; exact hc'
 have hID : ∀ i y, r.wday[i]? = some y → ∃ b o, x.p14 = some ⟨b, o, none⟩ ∧ w.cell? ⟨b, o + 2 * i, none⟩ = some (iV y.1) ∧ w.cell? ⟨b, o + 2 * i + 1, none⟩ = some (iV y.2) := by
  obtain ⟨p', c', e, hc'⟩ := hin.i14
  injection e with e1 _ _
  rw [e1]; exact hc'
 refine calls_GC (args := [.agg (rulC r x).toArray]) (L := [(0, .agg (rulC r x).toArray)]) (N := 330) Tryz.func16 rfl rfl ble rfl (Sees.start (fun _ => False) w) ?_
 refine g2 ?_
 refine gL (at_box 50 (cs := rulC r x) dE rfl rfl rfl (fun o ho => rfl) ble (fun b1 hb1 => ?_))
 refine g3 ?_
 refine GC_cut (ι := (Unit)) (fun u => (Rt1 r)) (fun u => [(1, pT b1)]) (fun u => [(50, b1)]) (fun u => putKeys 50 0 (rulC r x) ++ []) (fun u => []) ?_ ?_
 ·refine g2 ?_
  refine rq (rfa 0) ?_
  refine rq (rld 50 rfl rfl rfl) ?_
  rcases Decidable.em (6 < r.freq) with h0 | h0
  ·refine rq ((rd_gtr rfl rfl).to bT) ?_
   refine g40 ?_
   refine g9 ?_
   refine GC_is_true rfl rfl ?_
   refine g7 ?_
   exact GE_ret1 (.inl rfl) rfl (res_tmp rfl) fun w_ s_ => ⟨_, (by first | (intro h_; cases h_; done) | exact fun _ => ⟨t1, t2, t3, t4, t5, t6, t7, t8, .inl rfl⟩), rfl, s_.toBelow⟩
  ·refine rq ((rd_gtr rfl rfl).to bF) ?_
   refine g2 ?_
   refine rq (rfa 1) ?_
   refine g1 ?_
   rcases Bool.eq_false_or_eq_true (r.hasStart) with hh | hh
   ·refine rq ((rld 50 rfl rfl rfl).to (v' := .bool true) (congrArg Value.bool hh)) ?_
    refine g5 ?_
    refine rq (rfa 2) ?_
    refine g1 ?_
    refine rq (rld 50 rfl rfl rfl) ?_
    refine g1 ?_
    rcases Decidable.em (r.start < 1) with h1 | h1
    ·refine rq ((rd_lss rfl rfl).to bT) ?_
     refine g40 ?_
     refine GC_is_true rfl rfl ?_
     refine g7 ?_
     exact GE_ret1 (.inl rfl) rfl (res_tmp rfl) fun w_ s_ => ⟨_, (by first | (intro h_; cases h_; done) | exact fun _ => ⟨t1, t2, t3, t4, t5, t6, t7, t8, .inl rfl⟩), rfl, s_.toBelow⟩
    ·refine rq ((rd_lss rfl rfl).to bF) ?_
     refine g3 ?_
     refine rq (rfa 2) ?_
     refine g1 ?_
     refine rq (rld 50 rfl rfl rfl) ?_
     refine g1 ?_
     refine GQ_call_v dE kR rfl (fun w_ s_ => newYear_calls _ oM w_) ?_
     refine g3 ?_
     rcases Decidable.em (Cal.daysTo 9000 * 86400 ≤ r.start) with h2 | h2
     ·refine rq ((rd_geq rfl rfl).to bT) ?_
      refine g30 ?_
      refine g3 ?_
      refine GC_is_true rfl rfl ?_
      refine g7 ?_
      exact GE_ret1 (.inl rfl) rfl (res_tmp rfl) fun w_ s_ => ⟨_, (by first | (intro h_; cases h_; done) | exact fun _ => ⟨t1, t2, t3, t4, t5, t6, t7, t8, .inl rfl⟩), rfl, s_.toBelow⟩
     ·refine rq ((rd_geq rfl rfl).to bF) ?_
      refine g3 ?_
      refine rq (rfa 3) ?_
      refine g1 ?_
      refine rq (rld 50 rfl rfl rfl) ?_
      refine g1 ?_
      rcases Decidable.em (r.interval < 1) with h3 | h3
      ·refine rq ((rd_lss rfl rfl).to bT) ?_
       refine g25 ?_
       refine g3 ?_
       refine GC_is_true rfl rfl ?_
       refine g7 ?_
       exact GE_ret1 (.inl rfl) rfl (res_tmp rfl) fun w_ s_ => ⟨_, (by first | (intro h_; cases h_; done) | exact fun _ => ⟨t1, t2, t3, t4, t5, t6, t7, t8, .inl rfl⟩), rfl, s_.toBelow⟩
      ·refine rq ((rd_lss rfl rfl).to bF) ?_
       refine g3 ?_
       refine rq (rfa 3) ?_
       refine g1 ?_
       refine rq (rld 50 rfl rfl rfl) ?_
       refine g1 ?_
       rcases Decidable.em (1000 < r.interval) with h4 | h4
       ·refine rq ((rd_gtr rfl rfl).to bT) ?_
        refine g20 ?_
        refine g3 ?_
        refine GC_is_true rfl rfl ?_
        refine g7 ?_
        exact GE_ret1 (.inl rfl) rfl (res_tmp rfl) fun w_ s_ => ⟨_, (by first | (intro h_; cases h_; done) | exact fun _ => ⟨t1, t2, t3, t4, t5, t6, t7, t8, .inl rfl⟩), rfl, s_.toBelow⟩
       ·refine rq ((rd_gtr rfl rfl).to bF) ?_
        refine g3 ?_
        refine rq (rfa 4) ?_
        refine g1 ?_
        refine rq (rld 50 rfl rfl rfl) ?_
        refine g1 ?_
        rcases Decidable.em (r.wkst < 0) with h5 | h5
        ·refine rq ((rd_lss rfl rfl).to bT) ?_
         refine g18 ?_
         refine GC_is_true rfl rfl ?_
         refine g7 ?_
         exact GE_ret1 (.inl rfl) rfl (res_tmp rfl) fun w_ s_ => ⟨_, (by first | (intro h_; cases h_; done) | exact fun _ => ⟨t1, t2, t3, t4, t5, t6, t7, t8, .inl rfl⟩), rfl, s_.toBelow⟩
        ·refine rq ((rd_lss rfl rfl).to bF) ?_
         refine g3 ?_
         refine rq (rfa 4) ?_
         refine g1 ?_
         refine rq (rld 50 rfl rfl rfl) ?_
         refine g1 ?_
         rcases Decidable.em (6 < r.wkst) with h6 | h6
         ·refine rq ((rd_gtr rfl rfl).to bT) ?_
          refine g13 ?_
          refine GC_is_true rfl rfl ?_
          refine g7 ?_
          exact GE_ret1 (.inl rfl) rfl (res_tmp rfl) fun w_ s_ => ⟨_, (by first | (intro h_; cases h_; done) | exact fun _ => ⟨t1, t2, t3, t4, t5, t6, t7, t8, .inl rfl⟩), rfl, s_.toBelow⟩
         ·refine rq ((rd_gtr rfl rfl).to bF) ?_
          refine g3 ?_
          refine rq (rfa 5) ?_
          refine g1 ?_
          refine rq (rld 50 rfl rfl rfl) ?_
          refine g1 ?_
          rcases Decidable.em (r.count < 0) with h7 | h7
          ·refine rq ((rd_lss rfl rfl).to bT) ?_
           refine g8 ?_
           refine GC_is_true rfl rfl ?_
           refine g7 ?_
           exact GE_ret1 (.inl rfl) rfl (res_tmp rfl) fun w_ s_ => ⟨_, (by first | (intro h_; cases h_; done) | exact fun _ => ⟨t1, t2, t3, t4, t5, t6, t7, t8, .inl rfl⟩), rfl, s_.toBelow⟩
          ·refine rq ((rd_lss rfl rfl).to bF) ?_
           refine g3 ?_
           refine rq (rfa 5) ?_
           refine g1 ?_
           refine rq (rld 50 rfl rfl rfl) ?_
           refine g1 ?_
           rcases Decidable.em (1000000 < r.count) with h8 | h8
           ·refine rq ((rd_gtr rfl rfl).to bT) ?_
            refine g3 ?_
            refine GC_is_true rfl rfl ?_
            refine g7 ?_
            exact GE_ret1 (.inl rfl) rfl (res_tmp rfl) fun w_ s_ => ⟨_, (by first | (intro h_; cases h_; done) | exact fun _ => ⟨t1, t2, t3, t4, t5, t6, t7, t8, .inl rfl⟩), rfl, s_.toBelow⟩
           ·refine rq ((rd_gtr rfl rfl).to bF) ?_
            refine g3 ?_
            refine GC_is_false rfl rfl ?_
            refine g1 ?_
            refine GE_meet (ι := Unit) () (⟨⟨by omega, by omega⟩, hh, ⟨by omega, by omega⟩, ⟨by omega, by omega⟩, ⟨by omega, by omega⟩, ⟨by omega, by omega⟩⟩) kns (fun w s => s)
   ·refine rq ((rld 50 rfl rfl rfl).to (v' := .bool false) (congrArg Value.bool hh)) ?_
    refine g40 ?_
    refine g7 ?_
    refine GC_is_true rfl rfl ?_
    refine g7 ?_
    exact GE_ret1 (.inl rfl) rfl (res_tmp rfl) fun w_ s_ => ⟨_, (by first | (intro h_; cases h_; done) | exact fun _ => ⟨t1, t2, t3, t4, t5, t6, t7, t8, .inl rfl⟩), rfl, s_.toBelow⟩
 rintro u t1
 show GC _ _ _ _ [(1, pT b1)] _ _ ([(50, b1)]) (putKeys 50 0 (rulC r x) ++ []) ([])
 obtain ⟨hf1, hf2⟩ := t1.freq
 obtain ⟨hs1, hs2⟩ := t1.start
 obtain ⟨hi1, hi2⟩ := t1.interval
 refine GC_cut (ι := (Unit)) (fun u => (Rt2 r)) (fun u => [(1, pT b1)]) (fun u => [(50, b1)]) (fun u => putKeys 50 0 (rulC r x) ++ []) (fun u => []) ?_ ?_
 ·refine g2 ?_
  refine rq (rfa 6) ?_
  rcases Bool.eq_false_or_eq_true (r.hasUntil) with hhu | hhu
  ·refine rq ((rld 50 rfl rfl rfl).to (v' := .bool true) (congrArg Value.bool hhu)) ?_
   refine g8 ?_
   refine rq (rfa 6) ?_
   refine g1 ?_
   refine rq ((rld 50 rfl rfl rfl).to (v' := .bool true) (congrArg Value.bool hhu)) ?_
   refine g3 ?_
   refine rq (rfa 5) ?_
   refine g1 ?_
   refine rq (rld 50 rfl rfl rfl) ?_
   refine g1 ?_
   rcases Decidable.em (0 < r.count) with h1 | h1
   ·refine rq ((rd_gtr rfl rfl).to bT) ?_
    refine g20 ?_
    refine g1 ?_
    refine GC_is_true rfl rfl ?_
    refine g7 ?_
    exact GE_ret1 (.inl rfl) rfl (res_tmp rfl) fun w_ s_ => ⟨_, (by first | (intro h_; cases h_; done) | exact fun _ => ⟨t1, t2, t3, t4, t5, t6, t7, t8, .inl rfl⟩), rfl, s_.toBelow⟩
   ·refine rq ((rd_gtr rfl rfl).to bF) ?_
    refine g3 ?_
    refine rq (rfa 7) ?_
    refine g1 ?_
    refine rq (rld 50 rfl rfl rfl) ?_
    refine g1 ?_
    rcases Decidable.em (r.untl < 1) with h2 | h2
    ·refine rq ((rd_lss rfl rfl).to bT) ?_
     refine g16 ?_
     refine GC_is_true rfl rfl ?_
     refine g7 ?_
     exact GE_ret1 (.inl rfl) rfl (res_tmp rfl) fun w_ s_ => ⟨_, (by first | (intro h_; cases h_; done) | exact fun _ => ⟨t1, t2, t3, t4, t5, t6, t7, t8, .inl rfl⟩), rfl, s_.toBelow⟩
    ·refine rq ((rd_lss rfl rfl).to bF) ?_
     refine g5 ?_
     refine rq (rfa 7) ?_
     refine g1 ?_
     refine rq (rld 50 rfl rfl rfl) ?_
     refine g1 ?_
     refine GQ_call_v dE kR rfl (fun w_ s_ => newYear_calls _ oM w_) ?_
     refine g3 ?_
     rcases Decidable.em (Cal.daysTo 10000 * 86400 ≤ r.untl) with h3 | h3
     ·refine rq ((rd_geq rfl rfl).to bT) ?_
      refine g7 ?_
      refine GC_is_true rfl rfl ?_
      refine g7 ?_
      exact GE_ret1 (.inl rfl) rfl (res_tmp rfl) fun w_ s_ => ⟨_, (by first | (intro h_; cases h_; done) | exact fun _ => ⟨t1, t2, t3, t4, t5, t6, t7, t8, .inl rfl⟩), rfl, s_.toBelow⟩
     ·refine rq ((rd_geq rfl rfl).to bF) ?_
      refine g7 ?_
      refine GC_is_false rfl rfl ?_
      refine g1 ?_
      refine GE_meet (ι := Unit) () (⟨fun h_ => (by rw [hhu] at h_; cases h_), fun _ => ⟨by have := t1.count; omega, by omega, by omega⟩⟩) kns (fun w s => s)
  ·refine rq ((rld 50 rfl rfl rfl).to (v' := .bool false) (congrArg Value.bool hhu)) ?_
   refine g3 ?_
   refine rq (rfa 7) ?_
   refine g1 ?_
   refine rq (rld 50 rfl rfl rfl) ?_
   refine g1 ?_
   rcases Decidable.em (r.untl ≠ 0) with h0 | h0
   ·refine rq ((rd_neq rfl rfl).to (v' := .bool true) (congrArg Value.bool (n_ne oM))) ?_
    refine g20 ?_
    refine g4 ?_
    refine GC_is_true rfl rfl ?_
    refine g7 ?_
    exact GE_ret1 (.inl rfl) rfl (res_tmp rfl) fun w_ s_ => ⟨_, (by first | (intro h_; cases h_; done) | exact fun _ => ⟨t1, t2, t3, t4, t5, t6, t7, t8, .inl rfl⟩), rfl, s_.toBelow⟩
   ·refine rq ((rd_neq rfl rfl).to (v' := .bool false) (congrArg Value.bool (n_eq oM))) ?_
    refine g3 ?_
    refine rq (rfa 6) ?_
    refine g1 ?_
    refine rq ((rld 50 rfl rfl rfl).to (v' := .bool false) (congrArg Value.bool hhu)) ?_
    refine g20 ?_
    refine g2 ?_
    refine GC_is_false rfl rfl ?_
    refine g1 ?_
    refine GE_meet (ι := Unit) () (⟨fun _ => by omega, fun h_ => (by rw [hhu] at h_; cases h_)⟩) kns (fun w s => s)
 rintro u t2
 show GC _ _ _ _ [(1, pT b1)] _ _ ([(50, b1)]) (putKeys 50 0 (rulC r x) ++ []) ([])
 refine GC_cut (ι := (Unit)) (fun u => (Rt3 r)) (fun u => [(1, pT b1)]) (fun u => [(50, b1)]) (fun u => putKeys 50 0 (rulC r x) ++ []) (fun u => []) ?_ ?_
 ·refine g2 ?_
  refine rl (rfa 8) ?_
  refine rl (rld 50 rfl rfl rfl) ?_
  rcases Bool.eq_false_or_eq_true (inRF r.setpos 1 366 true) with q9 | q9
  ·refine gL (cvo (v := .bool true) rfl (fun w_ s_ => (inRange_calls r.setpos x.p9 x.c9 1 366 true hc.c9 oM oM oM w_ (ints_see s_ hin.i9)).mono fun e_ w2_ h_ => ⟨h_.1.trans (congrArg (fun b => Ending.returned (Value.bool b)) q9), h_.2⟩) ?_)
   refine g3 ?_
   refine rl (rfa 9) ?_
   refine g1 ?_
   refine rl (rld 50 rfl rfl rfl) ?_
   refine g1 ?_
   rcases Bool.eq_false_or_eq_true (inRF r.month 1 12 false) with q10 | q10
   ·refine gL (cvo (v := .bool true) rfl (fun w_ s_ => (inRange_calls r.month x.p10 x.c10 1 12 false hc.c10 oM oM oM w_ (ints_see s_ hin.i10)).mono fun e_ w2_ h_ => ⟨h_.1.trans (congrArg (fun b => Ending.returned (Value.bool b)) q10), h_.2⟩) ?_)
    refine g5 ?_
    refine rl (rfa 10) ?_
    refine g1 ?_
    refine rl (rld 50 rfl rfl rfl) ?_
    refine g1 ?_
    rcases Bool.eq_false_or_eq_true (inRF r.mday 1 31 true) with q11 | q11
    ·refine gL (cvo (v := .bool true) rfl (fun w_ s_ => (inRange_calls r.mday x.p11 x.c11 1 31 true hc.c11 oM oM oM w_ (ints_see s_ hin.i11)).mono fun e_ w2_ h_ => ⟨h_.1.trans (congrArg (fun b => Ending.returned (Value.bool b)) q11), h_.2⟩) ?_)
     refine g5 ?_
     refine rl (rfa 11) ?_
     refine g1 ?_
     refine rl (rld 50 rfl rfl rfl) ?_
     refine g1 ?_
     rcases Bool.eq_false_or_eq_true (inRF r.yday 1 366 true) with q12 | q12
     ·refine gL (cvo (v := .bool true) rfl (fun w_ s_ => (inRange_calls r.yday x.p12 x.c12 1 366 true hc.c12 oM oM oM w_ (ints_see s_ hin.i12)).mono fun e_ w2_ h_ => ⟨h_.1.trans (congrArg (fun b => Ending.returned (Value.bool b)) q12), h_.2⟩) ?_)
      refine g5 ?_
      refine rl (rfa 12) ?_
      refine g1 ?_
      refine rl (rld 50 rfl rfl rfl) ?_
      refine g1 ?_
      rcases Bool.eq_false_or_eq_true (inRF r.weekno 1 51 true) with q13 | q13
      ·refine gL (cvo (v := .bool true) rfl (fun w_ s_ => (inRange_calls r.weekno x.p13 x.c13 1 51 true hc.c13 oM oM oM w_ (ints_see s_ hin.i13)).mono fun e_ w2_ h_ => ⟨h_.1.trans (congrArg (fun b => Ending.returned (Value.bool b)) q13), h_.2⟩) ?_)
       refine g5 ?_
       refine rl (rfa 14) ?_
       refine g1 ?_
       refine rl (rld 50 rfl rfl rfl) ?_
       refine g1 ?_
       rcases Bool.eq_false_or_eq_true (inRF r.hour 0 23 false) with q15 | q15
       ·refine gL (cvo (v := .bool true) rfl (fun w_ s_ => (inRange_calls r.hour x.p15 x.c15 0 23 false hc.c15 oM oM oM w_ (ints_see s_ hin.i15)).mono fun e_ w2_ h_ => ⟨h_.1.trans (congrArg (fun b => Ending.returned (Value.bool b)) q15), h_.2⟩) ?_)
        refine g5 ?_
        refine rl (rfa 15) ?_
        refine g1 ?_
        refine rl (rld 50 rfl rfl rfl) ?_
        refine g1 ?_
        rcases Bool.eq_false_or_eq_true (inRF r.minute 0 59 false) with q16 | q16
        ·refine gL (cvo (v := .bool true) rfl (fun w_ s_ => (inRange_calls r.minute x.p16 x.c16 0 59 false hc.c16 oM oM oM w_ (ints_see s_ hin.i16)).mono fun e_ w2_ h_ => ⟨h_.1.trans (congrArg (fun b => Ending.returned (Value.bool b)) q16), h_.2⟩) ?_)
         refine g5 ?_
         refine rl (rfa 16) ?_
         refine g1 ?_
         refine rl (rld 50 rfl rfl rfl) ?_
         refine g1 ?_
         rcases Bool.eq_false_or_eq_true (inRF r.second 0 59 false) with q17 | q17
         ·refine gL (cvo (v := .bool true) rfl (fun w_ s_ => (inRange_calls r.second x.p17 x.c17 0 59 false hc.c17 oM oM oM w_ (ints_see s_ hin.i17)).mono fun e_ w2_ h_ => ⟨h_.1.trans (congrArg (fun b => Ending.returned (Value.bool b)) q17), h_.2⟩) ?_)
          refine g5 ?_
          refine GC_is_false rfl rfl ?_
          refine g1 ?_
          refine GE_meet (ι := Unit) () (⟨q9, q10, q11, q12, q13, q15, q16, q17⟩) kns (fun w s => s)
         ·refine gL (cvo (v := .bool false) rfl (fun w_ s_ => (inRange_calls r.second x.p17 x.c17 0 59 false hc.c17 oM oM oM w_ (ints_see s_ hin.i17)).mono fun e_ w2_ h_ => ⟨h_.1.trans (congrArg (fun b => Ending.returned (Value.bool b)) q17), h_.2⟩) ?_)
          refine g5 ?_
          refine GC_is_true rfl rfl ?_
          refine g7 ?_
          exact GE_ret1 (.inl rfl) rfl (res_tmp rfl) fun w_ s_ => ⟨_, (by first | (intro h_; cases h_; done) | exact fun _ => ⟨t1, t2, t3, t4, t5, t6, t7, t8, .inl rfl⟩), rfl, s_.toBelow⟩
        ·refine gL (cvo (v := .bool false) rfl (fun w_ s_ => (inRange_calls r.minute x.p16 x.c16 0 59 false hc.c16 oM oM oM w_ (ints_see s_ hin.i16)).mono fun e_ w2_ h_ => ⟨h_.1.trans (congrArg (fun b => Ending.returned (Value.bool b)) q16), h_.2⟩) ?_)
         refine g11 ?_
         refine GC_is_true rfl rfl ?_
         refine g7 ?_
         exact GE_ret1 (.inl rfl) rfl (res_tmp rfl) fun w_ s_ => ⟨_, (by first | (intro h_; cases h_; done) | exact fun _ => ⟨t1, t2, t3, t4, t5, t6, t7, t8, .inl rfl⟩), rfl, s_.toBelow⟩
       ·refine gL (cvo (v := .bool false) rfl (fun w_ s_ => (inRange_calls r.hour x.p15 x.c15 0 23 false hc.c15 oM oM oM w_ (ints_see s_ hin.i15)).mono fun e_ w2_ h_ => ⟨h_.1.trans (congrArg (fun b => Ending.returned (Value.bool b)) q15), h_.2⟩) ?_)
        refine g16 ?_
        refine g1 ?_
        refine GC_is_true rfl rfl ?_
        refine g7 ?_
        exact GE_ret1 (.inl rfl) rfl (res_tmp rfl) fun w_ s_ => ⟨_, (by first | (intro h_; cases h_; done) | exact fun _ => ⟨t1, t2, t3, t4, t5, t6, t7, t8, .inl rfl⟩), rfl, s_.toBelow⟩
      ·refine gL (cvo (v := .bool false) rfl (fun w_ s_ => (inRange_calls r.weekno x.p13 x.c13 1 51 true hc.c13 oM oM oM w_ (ints_see s_ hin.i13)).mono fun e_ w2_ h_ => ⟨h_.1.trans (congrArg (fun b => Ending.returned (Value.bool b)) q13), h_.2⟩) ?_)
       refine g20 ?_
       refine g3 ?_
       refine GC_is_true rfl rfl ?_
       refine g7 ?_
       exact GE_ret1 (.inl rfl) rfl (res_tmp rfl) fun w_ s_ => ⟨_, (by first | (intro h_; cases h_; done) | exact fun _ => ⟨t1, t2, t3, t4, t5, t6, t7, t8, .inl rfl⟩), rfl, s_.toBelow⟩
     ·refine gL (cvo (v := .bool false) rfl (fun w_ s_ => (inRange_calls r.yday x.p12 x.c12 1 366 true hc.c12 oM oM oM w_ (ints_see s_ hin.i12)).mono fun e_ w2_ h_ => ⟨h_.1.trans (congrArg (fun b => Ending.returned (Value.bool b)) q12), h_.2⟩) ?_)
      refine g25 ?_
      refine g4 ?_
      refine GC_is_true rfl rfl ?_
      refine g7 ?_
      exact GE_ret1 (.inl rfl) rfl (res_tmp rfl) fun w_ s_ => ⟨_, (by first | (intro h_; cases h_; done) | exact fun _ => ⟨t1, t2, t3, t4, t5, t6, t7, t8, .inl rfl⟩), rfl, s_.toBelow⟩
    ·refine gL (cvo (v := .bool false) rfl (fun w_ s_ => (inRange_calls r.mday x.p11 x.c11 1 31 true hc.c11 oM oM oM w_ (ints_see s_ hin.i11)).mono fun e_ w2_ h_ => ⟨h_.1.trans (congrArg (fun b => Ending.returned (Value.bool b)) q11), h_.2⟩) ?_)
     refine g30 ?_
     refine g5 ?_
     refine GC_is_true rfl rfl ?_
     refine g7 ?_
     exact GE_ret1 (.inl rfl) rfl (res_tmp rfl) fun w_ s_ => ⟨_, (by first | (intro h_; cases h_; done) | exact fun _ => ⟨t1, t2, t3, t4, t5, t6, t7, t8, .inl rfl⟩), rfl, s_.toBelow⟩
   ·refine gL (cvo (v := .bool false) rfl (fun w_ s_ => (inRange_calls r.month x.p10 x.c10 1 12 false hc.c10 oM oM oM w_ (ints_see s_ hin.i10)).mono fun e_ w2_ h_ => ⟨h_.1.trans (congrArg (fun b => Ending.returned (Value.bool b)) q10), h_.2⟩) ?_)
    refine g40 ?_
    refine g1 ?_
    refine GC_is_true rfl rfl ?_
    refine g7 ?_
    exact GE_ret1 (.inl rfl) rfl (res_tmp rfl) fun w_ s_ => ⟨_, (by first | (intro h_; cases h_; done) | exact fun _ => ⟨t1, t2, t3, t4, t5, t6, t7, t8, .inl rfl⟩), rfl, s_.toBelow⟩
  ·refine gL (cvo (v := .bool false) rfl (fun w_ s_ => (inRange_calls r.setpos x.p9 x.c9 1 366 true hc.c9 oM oM oM w_ (ints_see s_ hin.i9)).mono fun e_ w2_ h_ => ⟨h_.1.trans (congrArg (fun b => Ending.returned (Value.bool b)) q9), h_.2⟩) ?_)
   refine g40 ?_
   refine g5 ?_
   refine GC_is_true rfl rfl ?_
   refine g7 ?_
   exact GE_ret1 (.inl rfl) rfl (res_tmp rfl) fun w_ s_ => ⟨_, (by first | (intro h_; cases h_; done) | exact fun _ => ⟨t1, t2, t3, t4, t5, t6, t7, t8, .inl rfl⟩), rfl, s_.toBelow⟩
 rintro u t3
 show GC _ _ _ _ [(1, pT b1)] _ _ ([(50, b1)]) (putKeys 50 0 (rulC r x) ++ []) ([])
 refine GC_cut (ι := (Unit)) (fun u => (Rt4 r)) (fun u => [(1, pT b1)]) (fun u => [(50, b1)]) (fun u => putKeys 50 0 (rulC r x) ++ []) (fun u => []) ?_ ?_
 ·refine g2 ?_
  refine rl (rfa 17) ?_
  refine rl (rld 50 rfl rfl rfl) ?_
  refine g5 ?_
  refine GC_loop (ι := (Nat)) (fun k => r.easter.length - k) (fun k => (k ≤ r.easter.length) ∧ (∀ i y, i < k → r.easter[i]? = some y → EOk r i y)) (fun k => [(1, pT b1), (135, .slice x.p18 r.easter.length x.c18), (136, iV (r.easter.length)), (137, iV k)]) (fun k => [(50, b1)]) (fun k => putKeys 50 0 (rulC r x) ++ []) (fun k => []) 0 ⟨Nat.zero_le _, fun i y h => absurd h (Nat.not_lt_zero _)⟩ kns (fun w s => by exact s) ?_
  rintro k ⟨hk, hE⟩
  show GC _ _ _ _ [(1, pT b1), (135, .slice x.p18 r.easter.length x.c18), (136, iV (r.easter.length)), (137, iV k)] _ _ ([(50, b1)]) (putKeys 50 0 (rulC r x) ++ []) ([])
  refine g6 ?_
  refine GC_cond rfl (fun hc1 => ?_) (fun hc2 => ?_)
  ·have hlt : k < r.easter.length := by have := of_decide_eq_true hc1; omega
   obtain ⟨y, hy⟩ : ∃ y, r.easter[k]? = some y := ⟨_, List.getElem?_eq_getElem hlt⟩
   obtain ⟨b_, o_, hp0, hcell⟩ := hIE k y hy
   have hI18 : Ints w (.slice (some ⟨b_, o_, none⟩) r.easter.length x.c18) r.easter := hp0 ▸ hin.i18
   refine g7 ?_
   refine rl (rd_indexAddr (e := 3) (n := 1) kR (congrArg (fun p => some (Value.slice p _ _)) hp0) rfl oM oM) ?_
   refine rl (rd_load_old rfl (v := iV y) (by rw [← hcell]; congr 2; omega) (fun h => h) kR) ?_
   refine g7 ?_
   rcases Decidable.em (y < -80) with h0 | h0
   ·refine rl ((rd_lss rfl rfl).to bT) ?_
    refine g18 ?_
    refine g1 ?_
    refine GC_is_true rfl rfl ?_
    refine g11 ?_
    exact GE_ret1 (.inl rfl) rfl (res_tmp rfl) fun w_ s_ => ⟨_, (by first | (intro h_; cases h_; done) | exact fun _ => ⟨t1, t2, t3, t4, t5, t6, t7, t8, .inl rfl⟩), rfl, s_.toBelow⟩
   ·refine rl ((rd_lss rfl rfl).to bF) ?_
    refine g4 ?_
    rcases Decidable.em (200 < y) with h1 | h1
    ·refine rl ((rd_gtr rfl rfl).to bT) ?_
     refine g16 ?_
     refine GC_is_true rfl rfl ?_
     refine g11 ?_
     exact GE_ret1 (.inl rfl) rfl (res_tmp rfl) fun w_ s_ => ⟨_, (by first | (intro h_; cases h_; done) | exact fun _ => ⟨t1, t2, t3, t4, t5, t6, t7, t8, .inl rfl⟩), rfl, s_.toBelow⟩
    ·refine rl ((rd_gtr rfl rfl).to bF) ?_
     refine g3 ?_
     refine rl (rfa 17) ?_
     refine g1 ?_
     refine rl (rld 50 rfl rfl rfl) ?_
     refine g3 ?_
     refine rl ((rd_slice_upto (e := 3) (n := 1) kR rfl rfl oM (by have := hc.c18; omega)).to (v' := .slice (some ⟨b_, o_, none⟩) k x.c18) (by rw [hp0]; rfl)) ?_
     refine g3 ?_
     rcases Bool.eq_false_or_eq_true ((r.easter.take k).any (· == y)) with hno | hno
     ·refine gL (cvo (v := .bool true) rfl (fun w_ s_ => (scontains_calls (r.easter.take k) y _ (by rw [List.length_take]; omega) w_ (ints_take (ints_see s_ hI18) (Nat.le_of_lt hlt))).mono fun e_ w2_ h_ => ⟨h_.1.trans (congrArg (fun b => Ending.returned (Value.bool b)) hno), h_.2⟩) ?_)
      refine g8 ?_
      refine GC_is_true rfl rfl ?_
      refine g11 ?_
      exact GE_ret1 (.inl rfl) rfl (res_tmp rfl) fun w_ s_ => ⟨_, (by first | (intro h_; cases h_; done) | exact fun _ => ⟨t1, t2, t3, t4, t5, t6, t7, t8, .inl rfl⟩), rfl, s_.toBelow⟩
     ·refine gL (cvo (v := .bool false) rfl (fun w_ s_ => (scontains_calls (r.easter.take k) y _ (by rw [List.length_take]; omega) w_ (ints_take (ints_see s_ hI18) (Nat.le_of_lt hlt))).mono fun e_ w2_ h_ => ⟨h_.1.trans (congrArg (fun b => Ending.returned (Value.bool b)) hno), h_.2⟩) ?_)
      refine g3 ?_
      refine rl (rfa 0) ?_
      refine g1 ?_
      refine rl (rld 50 rfl rfl rfl) ?_
      refine g1 ?_
      rcases Decidable.em (r.freq ≠ 0) with h2 | h2
      ·refine rl ((rd_neq rfl rfl).to (v' := .bool true) (congrArg Value.bool (n_ne oM))) ?_
       refine g3 ?_
       refine GC_is_true rfl rfl ?_
       refine g11 ?_
       exact GE_ret1 (.inl rfl) rfl (res_tmp rfl) fun w_ s_ => ⟨_, (by first | (intro h_; cases h_; done) | exact fun _ => ⟨t1, t2, t3, t4, t5, t6, t7, t8, .inl rfl⟩), rfl, s_.toBelow⟩
      ·refine rl ((rd_neq rfl rfl).to (v' := .bool false) (congrArg Value.bool (n_eq oM))) ?_
       refine g3 ?_
       refine GC_is_false rfl rfl ?_
       refine g7 ?_
       refine GE_back (k + 1) oM ⟨by omega, fun i y' hi_ hy_ => by
         rcases Nat.lt_or_ge i k with h_ | h_
         ·exact hE i y' h_ hy_
         ·obtain rfl : i = k := by omega
          obtain rfl : y' = y := by rw [hy] at hy_; injection hy_ with e_; exact e_.symm
          exact ⟨by omega, by omega, by omega, hno⟩⟩ kns (fun w s => by exact s)
  ·obtain rfl : k = r.easter.length := by have := of_decide_eq_false hc2; omega
   refine g4 ?_
   refine GE_meet (ι := Unit) () (fun i y hy => hE i y (by have := (List.getElem?_eq_some_iff.1 hy).1; omega) hy) kns (fun w s => s)
 rintro u t4
 show GC _ _ _ _ [(1, pT b1)] _ _ ([(50, b1)]) (putKeys 50 0 (rulC r x) ++ []) ([])
 refine GC_cut (ι := (Unit)) (fun u => (Rt5 r)) (fun u => [(1, pT b1)]) (fun u => [(50, b1)]) (fun u => putKeys 50 0 (rulC r x) ++ []) (fun u => []) ?_ ?_
 ·refine g2 ?_
  refine rl (rfa 0) ?_
  refine rl (rld 50 rfl rfl rfl) ?_
  rcases Decidable.em (r.freq ≠ 0) with h0 | h0
  ·refine rl ((rd_neq rfl rfl).to (v' := .bool true) (congrArg Value.bool (n_ne oM))) ?_
   refine g2 ?_
   refine rl (rfa 12) ?_
   refine g1 ?_
   refine rl (rld 50 rfl rfl rfl) ?_
   refine g3 ?_
   rcases Decidable.em (0 < r.weekno.length) with h1 | h1
   ·refine rl ((rd_gtr rfl rfl).to bT) ?_
    refine g20 ?_
    refine g2 ?_
    refine GC_is_true rfl rfl ?_
    refine g7 ?_
    exact GE_ret1 (.inl rfl) rfl (res_tmp rfl) fun w_ s_ => ⟨_, (by first | (intro h_; cases h_; done) | exact fun _ => ⟨t1, t2, t3, t4, t5, t6, t7, t8, .inl rfl⟩), rfl, s_.toBelow⟩
   ·refine rl ((rd_gtr rfl rfl).to bF) ?_
    refine g3 ?_
    refine rl (rfa 11) ?_
    refine g1 ?_
    refine rl (rld 50 rfl rfl rfl) ?_
    refine g3 ?_
    rcases Decidable.em (0 < r.yday.length) with h2 | h2
    ·refine rl ((rd_gtr rfl rfl).to bT) ?_
     refine g16 ?_
     refine GC_is_true rfl rfl ?_
     refine g7 ?_
     exact GE_ret1 (.inl rfl) rfl (res_tmp rfl) fun w_ s_ => ⟨_, (by first | (intro h_; cases h_; done) | exact fun _ => ⟨t1, t2, t3, t4, t5, t6, t7, t8, .inl rfl⟩), rfl, s_.toBelow⟩
    ·refine rl ((rd_gtr rfl rfl).to bF) ?_
     refine g5 ?_
     refine rl (rfa 0) ?_
     refine g1 ?_
     refine rl (rld 50 rfl rfl rfl) ?_
     refine g1 ?_
     rcases Decidable.em (r.freq = 2) with h3 | h3
     ·refine rl ((rd_eql rfl rfl).to eT) ?_
      refine g3 ?_
      refine rl (rfa 10) ?_
      refine g1 ?_
      refine rl (rld 50 rfl rfl rfl) ?_
      refine g3 ?_
      rcases Decidable.em (0 < r.mday.length) with h4 | h4
      ·refine rl ((rd_gtr rfl rfl).to bT) ?_
       refine g5 ?_
       refine GC_is_true rfl rfl ?_
       refine g7 ?_
       exact GE_ret1 (.inl rfl) rfl (res_tmp rfl) fun w_ s_ => ⟨_, (by first | (intro h_; cases h_; done) | exact fun _ => ⟨t1, t2, t3, t4, t5, t6, t7, t8, .inl rfl⟩), rfl, s_.toBelow⟩
      ·refine rl ((rd_gtr rfl rfl).to bF) ?_
       refine g5 ?_
       refine GC_is_false rfl rfl ?_
       refine g1 ?_
       refine GE_meet (ι := Unit) () (⟨fun h_ => by omega, fun h_ => by omega⟩) kns (fun w s => s)
     ·refine rl ((rd_eql rfl rfl).to eF) ?_
      refine g11 ?_
      refine GC_is_false rfl rfl ?_
      refine g1 ?_
      refine GE_meet (ι := Unit) () (⟨fun h_ => by omega, fun h_ => by omega⟩) kns (fun w s => s)
  ·refine rl ((rd_neq rfl rfl).to (v' := .bool false) (congrArg Value.bool (n_eq oM))) ?_
   refine g14 ?_
   refine rl (rfa 0) ?_
   refine g1 ?_
   refine rl (rld 50 rfl rfl rfl) ?_
   refine g1 ?_
   rcases Decidable.em (r.freq = 2) with h3 | h3
   ·refine rl ((rd_eql rfl rfl).to eT) ?_
    refine g3 ?_
    refine rl (rfa 10) ?_
    refine g1 ?_
    refine rl (rld 50 rfl rfl rfl) ?_
    refine g3 ?_
    rcases Decidable.em (0 < r.mday.length) with h4 | h4
    ·refine rl ((rd_gtr rfl rfl).to bT) ?_
     refine g5 ?_
     refine GC_is_true rfl rfl ?_
     refine g7 ?_
     exact GE_ret1 (.inl rfl) rfl (res_tmp rfl) fun w_ s_ => ⟨_, (by first | (intro h_; cases h_; done) | exact fun _ => ⟨t1, t2, t3, t4, t5, t6, t7, t8, .inl rfl⟩), rfl, s_.toBelow⟩
    ·refine rl ((rd_gtr rfl rfl).to bF) ?_
     refine g5 ?_
     refine GC_is_false rfl rfl ?_
     refine g1 ?_
     refine GE_meet (ι := Unit) () (⟨fun h_ => by omega, fun h_ => by omega⟩) kns (fun w s => s)
   ·refine rl ((rd_eql rfl rfl).to eF) ?_
    refine g11 ?_
    refine GC_is_false rfl rfl ?_
    refine g1 ?_
    refine GE_meet (ι := Unit) () (⟨fun h_ => by omega, fun h_ => by omega⟩) kns (fun w s => s)
 rintro u t5
 show GC _ _ _ _ [(1, pT b1)] _ _ ([(50, b1)]) (putKeys 50 0 (rulC r x) ++ []) ([])
 refine GC_cut (ι := (Unit)) (fun u => (Rt6 r)) (fun u => [(1, pT b1)]) (fun u => [(50, b1)]) (fun u => putKeys 50 0 (rulC r x) ++ []) (fun u => []) ?_ ?_
 ·refine g2 ?_
  refine rl (rfa 13) ?_
  refine rl (rld 50 rfl rfl rfl) ?_
  refine g5 ?_
  refine GC_loop (ι := (Nat)) (fun k => r.wday.length - k) (fun k => (k ≤ r.wday.length) ∧ (∀ i y, i < k → r.wday[i]? = some y → DOk r i y)) (fun k => [(1, pT b1), (189, .slice x.p14 r.wday.length x.c14), (190, iV (r.wday.length)), (191, iV k)]) (fun k => [(50, b1)]) (fun k => putKeys 50 0 (rulC r x) ++ []) (fun k => []) 0 ⟨Nat.zero_le _, fun i y h => absurd h (Nat.not_lt_zero _)⟩ kns (fun w s => by exact s) ?_
  rintro k ⟨hk, hE⟩
  show GC _ _ _ _ [(1, pT b1), (189, .slice x.p14 r.wday.length x.c14), (190, iV (r.wday.length)), (191, iV k)] _ _ ([(50, b1)]) (putKeys 50 0 (rulC r x) ++ []) ([])
  refine g6 ?_
  refine GC_cond rfl (fun hc1 => ?_) (fun hc2 => ?_)
  ·have hlt : k < r.wday.length := by have := of_decide_eq_true hc1; omega
   obtain ⟨y, hy⟩ : ∃ y, r.wday[k]? = some y := ⟨_, List.getElem?_eq_getElem hlt⟩
   obtain ⟨y0, hy0⟩ : ∃ y0, r.wday[0]? = some y0 := ⟨_, List.getElem?_eq_getElem (show 0 < r.wday.length by omega)⟩
   obtain ⟨b_, o_, hp0, hca, hcb⟩ := hID k y hy
   obtain ⟨b0, o0, hp00, hca0, hcb0⟩ := hID 0 y0 hy0
   have hI14 : Prs w (.slice (some ⟨b_, o_, none⟩) r.wday.length x.c14) r.wday := hp0 ▸ hin.i14
   refine g7 ?_
   refine rl (rd_indexAddr (e := 47) (n := 2) kR (congrArg (fun p => some (Value.slice p _ _)) hp0) rfl oM oM) ?_
   refine rl (rd_load2_old rfl (by rw [← hca]; congr 2; omega) (by rw [← hcb]; congr 2; omega) (fun h => h) kR) ?_
   refine gL (at_alloc 51 (cs := [iV 0, iV 0]) dE kR rfl (fun o ho => by repeat (first | rfl | rw [lkp_put_ne dE ho _ _ ble])) ble (fun b2_ hb2_ => ?_))
   refine g1 ?_
   refine gL (sta 51 rfl rfl rfl rfl ?_)
   refine g7 ?_
   refine GC_cut (ι := (Int)) (fun m1 => (m1 = most1 r)) (fun m1 => [(1, pT b1), (189, .slice x.p14 r.wday.length x.c14), (190, iV (r.wday.length)), (191, iV k), (5, iV k), (6, pT b2_), (7, iV m1)]) (fun m1 => [(51, b2_), (50, b1)]) (fun m1 => (putSeq 51 0 #[iV y.1, iV y.2].toList (putKeys 51 0 [iV 0, iV 0] ++ (putKeys 50 0 (rulC r x) ++ [])))) (fun m1 => []) ?_ ?_
   ·refine g2 ?_
    refine rl (rfa 0) ?_
    refine rl (rld 50 rfl rfl rfl) ?_
    rcases Decidable.em (r.freq = 1) with h0 | h0
    ·refine rl ((rd_eql rfl rfl).to eT) ?_
     refine g13 ?_
     refine GC_is_true rfl rfl ?_
     refine g3 ?_
     refine GE_meet (ι := Int) (5) (by unfold most1; rw [if_pos oM]) kno (fun w s => s)
    ·refine rl ((rd_eql rfl rfl).to eF) ?_
     refine g2 ?_
     refine rl (rfa 0) ?_
     refine g1 ?_
     refine rl (rld 50 rfl rfl rfl) ?_
     refine g1 ?_
     rcases Decidable.em (r.freq = 0) with h1 | h1
     ·refine rl ((rd_eql rfl rfl).to eT) ?_
      refine g3 ?_
      refine rl (rfa 9) ?_
      refine g1 ?_
      refine rl (rld 50 rfl rfl rfl) ?_
      refine g3 ?_
      rcases Decidable.em (0 < r.month.length) with h2 | h2
      ·refine rl ((rd_gtr rfl rfl).to bT) ?_
       refine g5 ?_
       refine GC_is_true rfl rfl ?_
       refine g3 ?_
       refine GE_meet (ι := Int) (5) (by unfold most1; rw [if_pos oM]) kno (fun w s => s)
      ·refine rl ((rd_gtr rfl rfl).to bF) ?_
       refine g5 ?_
       refine GC_is_false rfl rfl ?_
       refine g2 ?_
       refine rl (rfa 0) ?_
       refine rl (rld 50 rfl rfl rfl) ?_
       refine g3 ?_
       refine GC_cond rfl (fun hc1 => ?_) (fun hc2 => ?_)
       ·have h3 : r.freq = 0 := beq_iff_eq.1 hc1
        refine g3 ?_
        refine GE_meet (ι := Int) (53) (by unfold most1; rw [if_neg oM, if_pos h3]) kno (fun w s => s)
       ·have h3 : r.freq ≠ 0 := beq_eq_false_iff_ne.1 hc2
        refine g1 ?_
        refine GE_meet (ι := Int) (0) (by unfold most1; rw [if_neg oM, if_neg h3]) kno (fun w s => s)
     ·refine rl ((rd_eql rfl rfl).to eF) ?_
      refine g11 ?_
      refine GC_is_false rfl rfl ?_
      refine g2 ?_
      refine rl (rfa 0) ?_
      refine rl (rld 50 rfl rfl rfl) ?_
      refine g3 ?_
      refine GC_cond rfl (fun hc1 => ?_) (fun hc2 => ?_)
      ·have h3 : r.freq = 0 := beq_iff_eq.1 hc1
       refine g3 ?_
       refine GE_meet (ι := Int) (53) (by unfold most1; rw [if_neg oM, if_pos h3]) kno (fun w s => s)
      ·have h3 : r.freq ≠ 0 := beq_eq_false_iff_ne.1 hc2
       refine g1 ?_
       refine GE_meet (ι := Int) (0) (by unfold most1; rw [if_neg oM, if_neg h3]) kno (fun w s => s)
   rintro m1 hm1
   show GC _ _ _ _ [(1, pT b1), (189, .slice x.p14 r.wday.length x.c14), (190, iV (r.wday.length)), (191, iV k), (5, iV k), (6, pT b2_), (7, iV m1)] _ _ ([(51, b2_), (50, b1)]) ((putSeq 51 0 #[iV y.1, iV y.2].toList (putKeys 51 0 [iV 0, iV 0] ++ (putKeys 50 0 (rulC r x) ++ [])))) ([])
   have hbm1 : 0 ≤ m1 ∧ m1 ≤ 53 := by rw [hm1]; unfold most1; repeat (first | omega | split)
   refine GC_cut (ι := (Int)) (fun m => (m = mostD r)) (fun m => [(1, pT b1), (189, .slice x.p14 r.wday.length x.c14), (190, iV (r.wday.length)), (191, iV k), (5, iV k), (6, pT b2_), (7, iV m)]) (fun m => [(51, b2_), (50, b1)]) (fun m => (putSeq 51 0 #[iV y.1, iV y.2].toList (putKeys 51 0 [iV 0, iV 0] ++ (putKeys 50 0 (rulC r x) ++ [])))) (fun m => []) ?_ ?_
   ·refine g2 ?_
    refine rl (rfa 12) ?_
    refine rl (rld 50 rfl rfl rfl) ?_
    refine g4 ?_
    refine GC_cond rfl (fun hc1 => ?_) (fun hc2 => ?_)
    ·have h4 : 0 < r.weekno.length := by have := of_decide_eq_true hc1; omega
     refine g3 ?_
     refine GE_meet (ι := Int) (0) (by unfold mostD; rw [if_pos h4]) kno (fun w s => s)
    ·have h4 : ¬ 0 < r.weekno.length := by have := of_decide_eq_false hc2; omega
     refine g1 ?_
     refine GE_meet (ι := Int) (m1) (by unfold mostD; rw [if_neg h4]; exact hm1) kno (fun w s => s)
   rintro m hm
   show GC _ _ _ _ [(1, pT b1), (189, .slice x.p14 r.wday.length x.c14), (190, iV (r.wday.length)), (191, iV k), (5, iV k), (6, pT b2_), (7, iV m)] _ _ ([(51, b2_), (50, b1)]) ((putSeq 51 0 #[iV y.1, iV y.2].toList (putKeys 51 0 [iV 0, iV 0] ++ (putKeys 50 0 (rulC r x) ++ [])))) ([])
   have hbm : 0 ≤ m ∧ m ≤ 53 := by rw [hm]; unfold mostD most1; repeat (first | omega | split)
   refine g3 ?_
   refine rq (rfa 1) ?_
   refine rq (rld 51 rfl rfl rfl) ?_
   rcases Decidable.em (y.2 = 0) with hz | hz
   ·refine rq ((rd_eql rfl rfl).to eT) ?_
    refine rq (rfa 13) ?_
    refine rq (rld 50 rfl rfl rfl) ?_
    refine rq (rd_indexAddr (e := 47) (n := 2) kR (congrArg (fun p => some (Value.slice p _ _)) hp00) rfl oM oM) ?_
    refine rq (rfa 1) ?_
    refine rq (rd_load_old rfl (v := iV y0.2) (by rw [← hcb0]; congr 2 <;> omega) (fun h => h) kR) ?_
    rcases Decidable.em (y0.2 = 0) with hz0 | hz0
    ·refine rq ((rd_eql rfl rfl).to eT) ?_
     refine rq ((rd_neqB rfl rfl).to (v' := .bool false) rfl) ?_
     refine g2 ?_
     refine GC_is_false rfl rfl ?_
     refine g4 ?_
     refine rq (rfa 0) ?_
     refine rq (rld 51 rfl rfl rfl) ?_
     rcases Decidable.em (y.1 < 0) with g0 | g0
     ·refine rq ((rd_lss rfl rfl).to bT) ?_
      refine g30 ?_
      refine g2 ?_
      refine GC_is_true rfl rfl ?_
      refine g11 ?_
      exact GE_ret1 (.inl rfl) rfl (res_tmp rfl) fun w_ s_ => ⟨_, (by first | (intro h_; cases h_; done) | exact fun _ => ⟨t1, t2, t3, t4, t5, t6, t7, t8, .inl rfl⟩), rfl, s_.toBelow⟩
     ·refine rq ((rd_lss rfl rfl).to bF) ?_
      refine g2 ?_
      refine rq (rfa 0) ?_
      refine g1 ?_
      refine rq (rld 51 rfl rfl rfl) ?_
      refine g1 ?_
      rcases Decidable.em (6 < y.1) with g1_ | g1_
      ·refine rq ((rd_gtr rfl rfl).to bT) ?_
       refine g25 ?_
       refine g3 ?_
       refine GC_is_true rfl rfl ?_
       refine g11 ?_
       exact GE_ret1 (.inl rfl) rfl (res_tmp rfl) fun w_ s_ => ⟨_, (by first | (intro h_; cases h_; done) | exact fun _ => ⟨t1, t2, t3, t4, t5, t6, t7, t8, .inl rfl⟩), rfl, s_.toBelow⟩
      ·refine rq ((rd_gtr rfl rfl).to bF) ?_
       refine g3 ?_
       refine rq (rfa 1) ?_
       refine g1 ?_
       refine rq (rld 51 rfl rfl rfl) ?_
       refine g5 ?_
       rcases Decidable.em (y.2 < -m) with g2_ | g2_
       ·refine rq ((rd_lss rfl rfl).to bT) ?_
        refine g20 ?_
        refine g1 ?_
        refine GC_is_true rfl rfl ?_
        refine g11 ?_
        exact GE_ret1 (.inl rfl) rfl (res_tmp rfl) fun w_ s_ => ⟨_, (by first | (intro h_; cases h_; done) | exact fun _ => ⟨t1, t2, t3, t4, t5, t6, t7, t8, .inl rfl⟩), rfl, s_.toBelow⟩
       ·refine rq ((rd_lss rfl rfl).to bF) ?_
        refine g3 ?_
        refine rq (rfa 1) ?_
        refine g1 ?_
        refine rq (rld 51 rfl rfl rfl) ?_
        refine g3 ?_
        rcases Decidable.em (m < y.2) with g3_ | g3_
        ·refine rq ((rd_gtr rfl rfl).to bT) ?_
         refine g15 ?_
         refine GC_is_true rfl rfl ?_
         refine g11 ?_
         exact GE_ret1 (.inl rfl) rfl (res_tmp rfl) fun w_ s_ => ⟨_, (by first | (intro h_; cases h_; done) | exact fun _ => ⟨t1, t2, t3, t4, t5, t6, t7, t8, .inl rfl⟩), rfl, s_.toBelow⟩
        ·refine rq ((rd_gtr rfl rfl).to bF) ?_
         refine g3 ?_
         refine rq (rfa 13) ?_
         refine g1 ?_
         refine rq (rld 50 rfl rfl rfl) ?_
         refine g3 ?_
         refine rq ((rd_slice_upto (e := 47) (n := 2) kR rfl rfl oM (by have := hc.c14; omega)).to (v' := .slice (some ⟨b_, o_, none⟩) k x.c14) (by rw [hp0]; rfl)) ?_
         refine g1 ?_
         refine rq (rd_load2 51 rfl rfl rfl rfl kR dE) ?_
         refine g1 ?_
         rcases Bool.eq_false_or_eq_true ((r.wday.take k).any (· == y)) with hno | hno
         ·refine GQ_call_v (v := .bool true) dE kR rfl (fun w_ s_ => (containsD_calls (r.wday.take k) y _ (by rw [List.length_take]; omega) w_ (prs_take (prs_see s_ hI14) (Nat.le_of_lt hlt))).mono fun e_ w2_ h_ => ⟨h_.1.trans (congrArg (fun b => Ending.returned (Value.bool b)) hno), h_.2⟩) ?_
          refine g7 ?_
          refine GC_is_true rfl rfl ?_
          refine g11 ?_
          exact GE_ret1 (.inl rfl) rfl (res_tmp rfl) fun w_ s_ => ⟨_, (by first | (intro h_; cases h_; done) | exact fun _ => ⟨t1, t2, t3, t4, t5, t6, t7, t8, .inl rfl⟩), rfl, s_.toBelow⟩
         ·refine GQ_call_v (v := .bool false) dE kR rfl (fun w_ s_ => (containsD_calls (r.wday.take k) y _ (by rw [List.length_take]; omega) w_ (prs_take (prs_see s_ hI14) (Nat.le_of_lt hlt))).mono fun e_ w2_ h_ => ⟨h_.1.trans (congrArg (fun b => Ending.returned (Value.bool b)) hno), h_.2⟩) ?_
          refine g5 ?_
          rcases Decidable.em (100 ≤ (k : Int)) with g4_ | g4_
          ·refine rq ((rd_geq rfl rfl).to bT) ?_
           refine g3 ?_
           refine GC_is_true rfl rfl ?_
           refine g11 ?_
           exact GE_ret1 (.inl rfl) rfl (res_tmp rfl) fun w_ s_ => ⟨_, (by first | (intro h_; cases h_; done) | exact fun _ => ⟨t1, t2, t3, t4, t5, t6, t7, t8, .inl rfl⟩), rfl, s_.toBelow⟩
          ·refine rq ((rd_geq rfl rfl).to bF) ?_
           refine g3 ?_
           refine GC_is_false rfl rfl ?_
           refine g7 ?_
           refine GE_back (k + 1) oM ⟨by omega, fun i y' hi_ hy_ => by
             rcases Nat.lt_or_ge i k with h_ | h_
             ·exact hE i y' h_ hy_
             ·obtain rfl : i = k := by omega
              obtain rfl : y' = y := by rw [hy] at hy_; injection hy_ with e_; exact e_.symm
              exact ⟨fun y1 h1 => by rw [hy0] at h1; injection h1 with h1; rw [← h1]; omega, by omega, by rw [hm, hm1] at *; omega, hno, by omega⟩⟩ kns (fun w s => by exact (s.low 51 (by exact ⟨fun k hk => by rw [lkp_cons_ne oM]; rfl, fun k hk o ho => by rw [lkp_put_ne oM ho _ _ ble]; rfl, fun _ _ => rfl⟩) agx agx agx))
    ·refine rq ((rd_eql rfl rfl).to eF) ?_
     refine rq ((rd_neqB rfl rfl).to (v' := .bool true) rfl) ?_
     refine g2 ?_
     refine GC_is_true rfl rfl ?_
     refine g12 ?_
     exact GE_ret1 (.inl rfl) rfl (res_tmp rfl) fun w_ s_ => ⟨_, (by first | (intro h_; cases h_; done) | exact fun _ => ⟨t1, t2, t3, t4, t5, t6, t7, t8, .inl rfl⟩), rfl, s_.toBelow⟩
   ·refine rq ((rd_eql rfl rfl).to eF) ?_
    refine rq (rfa 13) ?_
    refine rq (rld 50 rfl rfl rfl) ?_
    refine rq (rd_indexAddr (e := 47) (n := 2) kR (congrArg (fun p => some (Value.slice p _ _)) hp00) rfl oM oM) ?_
    refine rq (rfa 1) ?_
    refine rq (rd_load_old rfl (v := iV y0.2) (by rw [← hcb0]; congr 2 <;> omega) (fun h => h) kR) ?_
    rcases Decidable.em (y0.2 = 0) with hz0 | hz0
    ·refine rq ((rd_eql rfl rfl).to eT) ?_
     refine rq ((rd_neqB rfl rfl).to (v' := .bool true) rfl) ?_
     refine g2 ?_
     refine GC_is_true rfl rfl ?_
     refine g12 ?_
     exact GE_ret1 (.inl rfl) rfl (res_tmp rfl) fun w_ s_ => ⟨_, (by first | (intro h_; cases h_; done) | exact fun _ => ⟨t1, t2, t3, t4, t5, t6, t7, t8, .inl rfl⟩), rfl, s_.toBelow⟩
    ·refine rq ((rd_eql rfl rfl).to eF) ?_
     refine rq ((rd_neqB rfl rfl).to (v' := .bool false) rfl) ?_
     refine g2 ?_
     refine GC_is_false rfl rfl ?_
     refine g4 ?_
     refine rq (rfa 0) ?_
     refine rq (rld 51 rfl rfl rfl) ?_
     rcases Decidable.em (y.1 < 0) with g0 | g0
     ·refine rq ((rd_lss rfl rfl).to bT) ?_
      refine g30 ?_
      refine g2 ?_
      refine GC_is_true rfl rfl ?_
      refine g11 ?_
      exact GE_ret1 (.inl rfl) rfl (res_tmp rfl) fun w_ s_ => ⟨_, (by first | (intro h_; cases h_; done) | exact fun _ => ⟨t1, t2, t3, t4, t5, t6, t7, t8, .inl rfl⟩), rfl, s_.toBelow⟩
     ·refine rq ((rd_lss rfl rfl).to bF) ?_
      refine g2 ?_
      refine rq (rfa 0) ?_
      refine g1 ?_
      refine rq (rld 51 rfl rfl rfl) ?_
      refine g1 ?_
      rcases Decidable.em (6 < y.1) with g1_ | g1_
      ·refine rq ((rd_gtr rfl rfl).to bT) ?_
       refine g25 ?_
       refine g3 ?_
       refine GC_is_true rfl rfl ?_
       refine g11 ?_
       exact GE_ret1 (.inl rfl) rfl (res_tmp rfl) fun w_ s_ => ⟨_, (by first | (intro h_; cases h_; done) | exact fun _ => ⟨t1, t2, t3, t4, t5, t6, t7, t8, .inl rfl⟩), rfl, s_.toBelow⟩
      ·refine rq ((rd_gtr rfl rfl).to bF) ?_
       refine g3 ?_
       refine rq (rfa 1) ?_
       refine g1 ?_
       refine rq (rld 51 rfl rfl rfl) ?_
       refine g5 ?_
       rcases Decidable.em (y.2 < -m) with g2_ | g2_
       ·refine rq ((rd_lss rfl rfl).to bT) ?_
        refine g20 ?_
        refine g1 ?_
        refine GC_is_true rfl rfl ?_
        refine g11 ?_
        exact GE_ret1 (.inl rfl) rfl (res_tmp rfl) fun w_ s_ => ⟨_, (by first | (intro h_; cases h_; done) | exact fun _ => ⟨t1, t2, t3, t4, t5, t6, t7, t8, .inl rfl⟩), rfl, s_.toBelow⟩
       ·refine rq ((rd_lss rfl rfl).to bF) ?_
        refine g3 ?_
        refine rq (rfa 1) ?_
        refine g1 ?_
        refine rq (rld 51 rfl rfl rfl) ?_
        refine g3 ?_
        rcases Decidable.em (m < y.2) with g3_ | g3_
        ·refine rq ((rd_gtr rfl rfl).to bT) ?_
         refine g15 ?_
         refine GC_is_true rfl rfl ?_
         refine g11 ?_
         exact GE_ret1 (.inl rfl) rfl (res_tmp rfl) fun w_ s_ => ⟨_, (by first | (intro h_; cases h_; done) | exact fun _ => ⟨t1, t2, t3, t4, t5, t6, t7, t8, .inl rfl⟩), rfl, s_.toBelow⟩
        ·refine rq ((rd_gtr rfl rfl).to bF) ?_
         refine g3 ?_
         refine rq (rfa 13) ?_
         refine g1 ?_
         refine rq (rld 50 rfl rfl rfl) ?_
         refine g3 ?_
         refine rq ((rd_slice_upto (e := 47) (n := 2) kR rfl rfl oM (by have := hc.c14; omega)).to (v' := .slice (some ⟨b_, o_, none⟩) k x.c14) (by rw [hp0]; rfl)) ?_
         refine g1 ?_
         refine rq (rd_load2 51 rfl rfl rfl rfl kR dE) ?_
         refine g1 ?_
         rcases Bool.eq_false_or_eq_true ((r.wday.take k).any (· == y)) with hno | hno
         ·refine GQ_call_v (v := .bool true) dE kR rfl (fun w_ s_ => (containsD_calls (r.wday.take k) y _ (by rw [List.length_take]; omega) w_ (prs_take (prs_see s_ hI14) (Nat.le_of_lt hlt))).mono fun e_ w2_ h_ => ⟨h_.1.trans (congrArg (fun b => Ending.returned (Value.bool b)) hno), h_.2⟩) ?_
          refine g7 ?_
          refine GC_is_true rfl rfl ?_
          refine g11 ?_
          exact GE_ret1 (.inl rfl) rfl (res_tmp rfl) fun w_ s_ => ⟨_, (by first | (intro h_; cases h_; done) | exact fun _ => ⟨t1, t2, t3, t4, t5, t6, t7, t8, .inl rfl⟩), rfl, s_.toBelow⟩
         ·refine GQ_call_v (v := .bool false) dE kR rfl (fun w_ s_ => (containsD_calls (r.wday.take k) y _ (by rw [List.length_take]; omega) w_ (prs_take (prs_see s_ hI14) (Nat.le_of_lt hlt))).mono fun e_ w2_ h_ => ⟨h_.1.trans (congrArg (fun b => Ending.returned (Value.bool b)) hno), h_.2⟩) ?_
          refine g5 ?_
          rcases Decidable.em (100 ≤ (k : Int)) with g4_ | g4_
          ·refine rq ((rd_geq rfl rfl).to bT) ?_
           refine g3 ?_
           refine GC_is_true rfl rfl ?_
           refine g11 ?_
           exact GE_ret1 (.inl rfl) rfl (res_tmp rfl) fun w_ s_ => ⟨_, (by first | (intro h_; cases h_; done) | exact fun _ => ⟨t1, t2, t3, t4, t5, t6, t7, t8, .inl rfl⟩), rfl, s_.toBelow⟩
          ·refine rq ((rd_geq rfl rfl).to bF) ?_
           refine g3 ?_
           refine GC_is_false rfl rfl ?_
           refine g7 ?_
           refine GE_back (k + 1) oM ⟨by omega, fun i y' hi_ hy_ => by
             rcases Nat.lt_or_ge i k with h_ | h_
             ·exact hE i y' h_ hy_
             ·obtain rfl : i = k := by omega
              obtain rfl : y' = y := by rw [hy] at hy_; injection hy_ with e_; exact e_.symm
              exact ⟨fun y1 h1 => by rw [hy0] at h1; injection h1 with h1; rw [← h1]; omega, by omega, by rw [hm, hm1] at *; omega, hno, by omega⟩⟩ kns (fun w s => by exact (s.low 51 (by exact ⟨fun k hk => by rw [lkp_cons_ne oM]; rfl, fun k hk o ho => by rw [lkp_put_ne oM ho _ _ ble]; rfl, fun _ _ => rfl⟩) agx agx agx))
  ·obtain rfl : k = r.wday.length := by have := of_decide_eq_false hc2; omega
   refine g4 ?_
   refine GE_meet (ι := Unit) () (fun i y hy => hE i y (by have := (List.getElem?_eq_some_iff.1 hy).1; omega) hy) kns (fun w s => s)
 rintro u t6
 show GC _ _ _ _ [(1, pT b1)] _ _ ([(50, b1)]) (putKeys 50 0 (rulC r x) ++ []) ([])
 refine GC_cut (ι := (Unit)) (fun u => (Rt7 r)) (fun u => [(1, pT b1)]) (fun u => [(50, b1)]) (fun u => putKeys 50 0 (rulC r x) ++ []) (fun u => []) ?_ ?_
 ·refine g2 ?_
  refine rq (rfa 0) ?_
  refine rq (rld 50 rfl rfl rfl) ?_
  rcases Decidable.em (r.freq = 2) with h0 | h0
  ·refine rq ((rd_eql rfl rfl).to eT) ?_
   refine g2 ?_
   refine rq (rfa 8) ?_
   refine g1 ?_
   refine rq (rld 50 rfl rfl rfl) ?_
   refine g3 ?_
   rcases Decidable.em (0 < r.setpos.length) with h1 | h1
   ·refine rq ((rd_gtr rfl rfl).to bT) ?_
    refine g3 ?_
    refine rq (rfa 2) ?_
    refine g1 ?_
    refine rq (rld 50 rfl rfl rfl) ?_
    refine g3 ?_
    refine GQ_call_v dE kR rfl (fun w_ s_ => sweekday_calls _ oM w_) ?_
    refine g1 ?_
    refine rq (rfa 4) ?_
    refine g1 ?_
    refine rq (rld 50 rfl rfl rfl) ?_
    refine g1 ?_
    rcases Decidable.em (r.start / 86400 % 7 ≠ r.wkst) with h2 | h2
    ·refine rq ((rd_neq rfl rfl).to (v' := .bool true) (congrArg Value.bool (n_ne oM))) ?_
     refine g3 ?_
     refine GC_is_true rfl rfl ?_
     refine g7 ?_
     exact GE_ret1 (.inl rfl) rfl (res_tmp rfl) fun w_ s_ => ⟨_, (by first | (intro h_; cases h_; done) | exact fun _ => ⟨t1, t2, t3, t4, t5, t6, t7, t8, .inl rfl⟩), rfl, s_.toBelow⟩
    ·refine rq ((rd_neq rfl rfl).to (v' := .bool false) (congrArg Value.bool (n_eq oM))) ?_
     refine g3 ?_
     refine GC_is_false rfl rfl ?_
     refine g1 ?_
     refine GE_meet (ι := Unit) () (fun _ _ => by omega) kns (fun w s => s)
   ·refine rq ((rd_gtr rfl rfl).to bF) ?_
    refine g12 ?_
    refine GC_is_false rfl rfl ?_
    refine g1 ?_
    refine GE_meet (ι := Unit) () (fun _ h_ => absurd h_ h1) kns (fun w s => s)
  ·refine rq ((rd_eql rfl rfl).to eF) ?_
   refine g16 ?_
   refine g1 ?_
   refine GC_is_false rfl rfl ?_
   refine g1 ?_
   refine GE_meet (ι := Unit) () (fun h_ => absurd h_ h0) kns (fun w s => s)
 rintro u t7
 show GC _ _ _ _ [(1, pT b1)] _ _ ([(50, b1)]) (putKeys 50 0 (rulC r x) ++ []) ([])
 refine GC_cut (ι := (Unit)) (fun u => (Rt8 r)) (fun u => [(1, pT b1)]) (fun u => [(50, b1)]) (fun u => putKeys 50 0 (rulC r x) ++ []) (fun u => []) ?_ ?_
 ·refine g2 ?_
  refine rl (rfa 0) ?_
  refine rl (rld 50 rfl rfl rfl) ?_
  rcases Decidable.em (4 ≤ r.freq) with h0 | h0
  ·refine rl ((rd_geq rfl rfl).to bT) ?_
   refine g2 ?_
   refine rl ((rd_loadN 50 (cs := rulC r x) rfl rfl (put_get (rulC r x) 0 ble) ble kR)) ?_
   refine g1 ?_
   refine gL (cbx (fun b : Bool => .bool b) (fun b => b = true → MeetsP r) rfl (fun w_ s_ => meets_calls r x oM t1.interval oM ⟨l9, l10, l11, l12, l13, l14, l15, l16, l17, l18⟩ w_ (InL.see s_ hin)) (fun mb hmb => ?_))
   refine g1 ?_
   rcases Bool.eq_false_or_eq_true ((!mb)) with hm | hm
   ·refine rl ((rd_not rfl).to (v' := .bool true) (congrArg Value.bool hm)) ?_
    refine g3 ?_
    refine GC_is_true rfl rfl ?_
    refine g7 ?_
    exact GE_ret1 (.inl rfl) rfl (res_tmp rfl) fun w_ s_ => ⟨_, (by first | (intro h_; cases h_; done) | exact fun _ => ⟨t1, t2, t3, t4, t5, t6, t7, t8, .inl rfl⟩), rfl, s_.toBelow⟩
   ·refine rl ((rd_not rfl).to (v' := .bool false) (congrArg Value.bool hm)) ?_
    refine g3 ?_
    refine GC_is_false rfl rfl ?_
    refine g1 ?_
    refine GE_meet (ι := Unit) () (fun _ => hmb (by simpa using hm)) kns (fun w s => s)
  ·refine rl ((rd_geq rfl rfl).to bF) ?_
   refine g7 ?_
   refine GC_is_false rfl rfl ?_
   refine g1 ?_
   refine GE_meet (ι := Unit) () (fun h_ => absurd h_ h0) kns (fun w s => s)
 rintro u t8
 show GC _ _ _ _ [(1, pT b1)] _ _ ([(50, b1)]) (putKeys 50 0 (rulC r x) ++ []) ([])
 refine g2 ?_
 refine rl (rfa 9) ?_
 refine rl (rld 50 rfl rfl rfl) ?_
 refine g1 ?_
 refine rl (rfa 10) ?_
 refine rl (rld 50 rfl rfl rfl) ?_
 refine g2 ?_
 refine rl (rfa 11) ?_
 refine rl (rld 50 rfl rfl rfl) ?_
 refine g2 ?_
 refine rl (rfa 12) ?_
 refine rl (rld 50 rfl rfl rfl) ?_
 refine g2 ?_
 refine rl (rfa 13) ?_
 refine rl (rld 50 rfl rfl rfl) ?_
 refine g2 ?_
 refine rl (rfa 14) ?_
 refine rl (rld 50 rfl rfl rfl) ?_
 refine g2 ?_
 refine rl (rfa 15) ?_
 refine rl (rld 50 rfl rfl rfl) ?_
 refine g2 ?_
 refine rl (rfa 16) ?_
 refine rl (rld 50 rfl rfl rfl) ?_
 refine g2 ?_
 refine rl (rfa 17) ?_
 refine rl (rld 50 rfl rfl rfl) ?_
 refine g7 ?_
 refine rl (rfa 8) ?_
 refine rl (rld 50 rfl rfl rfl) ?_
 refine g1 ?_
 rcases Decidable.em (r.setpos.length = 0) with h0 | h0
 ·refine rl ((rd_eql rfl rfl).to eT) ?_
  refine g8 ?_
  exact GE_ret1 (.inl rfl) rfl (res_tmp rfl) fun w_ s_ => ⟨_, (by first | (intro h_; cases h_; done) | exact fun _ => ⟨t1, t2, t3, t4, t5, t6, t7, t8, .inl h0⟩), rfl, s_.toBelow⟩
 ·refine rl ((rd_eql rfl rfl).to eF) ?_
  refine g4 ?_
  rcases Decidable.em (0 < (r.month.length : Int) + r.mday.length + r.yday.length + r.weekno.length + r.wday.length + r.hour.length + r.minute.length + r.second.length + r.easter.length) with h1 | h1
  ·refine rl ((rd_gtr rfl rfl).to bT) ?_
   refine g5 ?_
   exact GE_ret1 (.inl rfl) rfl (res_tmp rfl) fun w_ s_ => ⟨_, (by first | (intro h_; cases h_; done) | exact fun _ => ⟨t1, t2, t3, t4, t5, t6, t7, t8, .inr oM⟩), rfl, s_.toBelow⟩
  ·refine rl ((rd_gtr rfl rfl).to bF) ?_
   refine g5 ?_
   exact GE_ret1 (.inl rfl) rfl (res_tmp rfl) fun w_ s_ => ⟨_, (by first | (intro h_; cases h_; done) | exact fun _ => ⟨t1, t2, t3, t4, t5, t6, t7, t8, .inr oM⟩), rfl, s_.toBelow⟩
end
end Go.Proofs.YtdbbifbmkfmbkaaGreat
namespace Go.Proofs.YtdbbifbmkfmbkaaGreat
open Go.RowKit Go.Fr Go.Tab
section
variable {F : Nat → Prop} {w0 : World} {B : List (Nat × Nat)} {H : List (Nat × Value)} {S : List (Nat × Slc)}
open Go.Md
def addGo (c st en most : Int) : List Int → List Int → List Int × Bool
 | o, [] => (o, true)
 | o, t :: l => if t < st then addGo c st en most o l else if (o.length : Int) = most ∨ (0 < c ∧ (o.length : Int) = c) ∨ en < t then (o, false) else addGo c st en most (o ++ [t]) l
def addOk (c most : Int) (n : Nat) : Bool := decide ((n : Int) < most) && (c == 0 || decide ((n : Int) < c))
def addF (r : Rul) (st en most : Int) (o l : List Int) : List Int × Bool := ((addGo r.count st en most o (posF l r.setpos)).1, (addGo r.count st en most o (posF l r.setpos)).2 && addOk r.count most (addGo r.count st en most o (posF l r.setpos)).1.length)
theorem addGo_len (c st en most : Int) : ∀ (l o : List Int), (o.length : Int) ≤ most → ((addGo c st en most o l).1.length : Int) ≤ most
 | [], o, h => h
 | t :: l, o, h => by
  unfold addGo
  split
  ·exact addGo_len c st en most l o h
  ·split
   ·exact h
   ·exact addGo_len c st en most l _ (by rw [List.length_append]; simp only [List.length_singleton]; omega)
theorem posF_len (l at_ : List Int) : (posF l at_).length ≤ l.length := by
 unfold posF
 split
 ·exact Nat.le_refl _
 ·exact posTo_le _ _ _
theorem addGo_step (c st en most : Int) (o : List Int) {L : List Int} {k : Nat} {y : Int} (hy : L[k]? = some y) : addGo c st en most o (L.drop k) = if y < st then addGo c st en most o (L.drop (k + 1)) else if (o.length : Int) = most ∨ (0 < c ∧ (o.length : Int) = c) ∨ en < y then (o, false) else addGo c st en most (o ++ [y]) (L.drop (k + 1)) := by
 obtain ⟨hk, rfl⟩ := List.getElem?_eq_some_iff.1 hy
 rw [List.drop_eq_getElem_cons hk]
 rfl
theorem rd_load_rowI {P : Program} {N : Nat} {L : Fr.Loc} {d : Nat} {ty : TypeId} {pos : String} {aft : Array Edge} {g : Option (Nat × Bool)} (j : Nat) {t : TypeId} {x : Operand} {b off len n cap : Nat} {e : TypeId} {y : Int} {xs : List Int} (hx : ev L x = some (.pointer (some ⟨b, off, none⟩))) (hr : lkp j S = some ⟨sL b len cap, e, 1, n, xs.map iV⟩) (hv : xs[off]? = some y) (ht : plainT P t = true) : Rd P ⟨some d, .load t x, ty, pos, aft, g⟩ N L F w0 B H S (iV y) :=
 rd_load_row j hx hr rfl (by rw [List.getElem?_map, hv]; rfl) ht
theorem addDates_calls {r : Rul} {x : Av} {b1 b4 b8 b9 b10 : Nat} (hB0 : lkp 50 B = some b1) (hB1 : lkp 51 B = some b4) (hB2 : lkp 52 B = some b8) (hB3 : lkp 53 B = some b9) (hB4 : lkp 54 B = some b10) {most st en : Int} (h505 : lkp (ky 50 5) H = some (iV r.count)) (h508 : lkp (ky 50 8) H = some (.slice x.p9 r.setpos.length x.c9)) (h51 : lkp (ky 51 0) H = some (iV most)) (h52 : lkp (ky 52 0) H = some (iV st)) (h53 : lkp (ky 53 0) H = some (iV en))
  {p0 : Option Addr} {c0 : Nat} {o0 : List Int} (h54 : lkp (ky 54 0) H = some (.slice p0 o0.length c0)) (hS5 : lkp 55 S = some ⟨.slice p0 o0.length c0, 2, 1, o0.length, (o0.map iV)⟩) {pl : Option Addr} {cl : Nat} {l : List Int} (hS6 : lkp 56 S = some ⟨.slice pl l.length cl, 2, 1, l.length, (l.map iV)⟩) (lim : Lim 57 B H S) (hm : (o0.length : Int) ≤ most ∧ most ≤ 1000000) (hll : l.length ≤ 1000000000) (hsp : ∀ w, Sees F w0 B H S w → Ints w (.slice x.p9 r.setpos.length x.c9) r.setpos) (l9 : r.setpos.length ≤ 2147483647) : ∀ w, Sees F w0 B H S w → Calls Go.Proofs.Tryz.prog 56 #[.slice pl l.length cl, pT b1, pT b8, pT b10, pT b4, pT b9] w fun e w' => ∃ p' c', e = .returned (.bool (addF r st en most o0 l).2) ∧ Sees F w0 B ((ky 54 0, .slice p' (addF r st en most o0 l).1.length c') :: H) ((55, ⟨.slice p' (addF r st en most o0 l).1.length c', 2, 1, (addF r st en most o0 l).1.length, ((addF r st en most o0 l).1.map iV)⟩) :: S) w' := by
 intro w s
 refine calls_GC (args := [.slice pl l.length cl, pT b1, pT b8, pT b10, pT b4, pT b9]) (L := [(0, .slice pl l.length cl), (1, pT b1), (2, pT b8), (3, pT b10), (4, pT b4), (5, pT b9)]) (N := 64) Tryz.func56 rfl rfl ble rfl s ?_
 refine g5 ?_
 have hpl_ := posF_len l r.setpos
 rcases Decidable.em (r.setpos.length = 0) with h0 | h0
 ·refine g4 ?_
  refine rl (rfa 8) ?_
  refine rl (rld 50 rfl hB0 h508) ?_
  refine gL (cvo (v := .slice pl l.length cl) rfl (fun w_ s_ => (positions_calls l r.setpos pl cl _ hll l9 w_ (s_.ints 56 hS6) (hsp w_ s_)).mono fun e_ w2_ ⟨p_, c_, h1_, h2_⟩ => by rcases h2_ with ⟨_, rfl, rfl, h3_⟩ | ⟨h3_, _⟩; exact ⟨by rw [h1_]; unfold posF; rw [if_pos h0], h3_⟩; exact absurd h0 h3_) ?_)
  refine g5 ?_
  refine GC_loop (ι := (Nat) × (List Int) × (Option Addr) × (Nat) × (Nat) × (List Value)) (fun | ⟨k, o, p, c, n, xs⟩ => l.length - k) (fun | ⟨k, o, p, c, n, xs⟩ => (k ≤ l.length) ∧ (addGo r.count st en most o (l.drop k) = addGo r.count st en most o0 l) ∧ (n = o.length) ∧ (xs = o.map iV) ∧ ((n : Int) ≤ most)) (fun | ⟨k, o, p, c, n, xs⟩ => [(1, pT b1), (2, pT b8), (3, pT b10), (4, pT b4), (5, pT b9), (13, .slice pl l.length cl), (14, iV (l.length)), (15, iV k)]) (fun | ⟨k, o, p, c, n, xs⟩ => B) (fun | ⟨k, o, p, c, n, xs⟩ => (ky 54 0, .slice p n c) :: H) (fun | ⟨k, o, p, c, n, xs⟩ => (55, ⟨.slice p n c, 2, 1, n, xs⟩) :: S) ⟨0, o0, p0, c0, o0.length, o0.map iV⟩ ⟨Nat.zero_le _, rfl, rfl, rfl, hm.1⟩ kns (fun w s => by exact (s.to (fun _ _ h => h) (fun k o v ho h => (by rcases lkp_cons h with ⟨e, rfl⟩ | ⟨_, h⟩; { rw [e]; exact ⟨h54, by obtain ⟨rfl, rfl⟩ := ky_inj ho dE e; rw [hB4]; rfl⟩ }; exact ⟨h, by obtain ⟨b, e, _⟩ := s.cells k o v ho h; rw [e]; rfl⟩)) (fun j q h => (by rcases lkp_cons h with ⟨rfl, rfl⟩ | ⟨_, h⟩; exact hS5; exact h)))) ?_
  rintro ⟨k, o, p, c, n, xs⟩ ⟨hk, hg, hn, hx, hnm⟩
  show GC _ _ _ _ [(1, pT b1), (2, pT b8), (3, pT b10), (4, pT b4), (5, pT b9), (13, .slice pl l.length cl), (14, iV (l.length)), (15, iV k)] _ _ (B) ((ky 54 0, .slice p n c) :: H) ((55, ⟨.slice p n c, 2, 1, n, xs⟩) :: S)
  refine g6 ?_
  refine GC_cond rfl (fun hc1 => ?_) (fun hc2 => ?_)
  ·have hlt : k < l.length := by have := of_decide_eq_true hc1; omega
   obtain ⟨y, hy⟩ : ∃ y, l[k]? = some y := ⟨_, List.getElem?_eq_getElem hlt⟩
   have hst := addGo_step r.count st en most o hy
   rw [hg] at hst
   refine GC_have (fun w s => s.head 56 hS6 oM) (fun ⟨bl, hpl, hcl⟩ => ?_)
   subst hpl
   refine g6 ?_
   refine rl (rd_indexAddr (e := 2) (n := 1) kR rfl rfl oM oM) ?_
   refine rl (rd_load_rowI 56 rfl hS6 (by rw [← hy]; congr 1; omega) kR) ?_
   refine g7 ?_
   refine rl (rld 52 rfl hB2 h52) ?_
   refine g3 ?_
   refine GC_cond rfl (fun hc1 => ?_) (fun hc2 => ?_)
   ·have hlo : y < st := of_decide_eq_true hc1
    refine g8 ?_
    refine GE_back ⟨k + 1, o, p, c, n, xs⟩ sO ⟨by omega, by rw [hst, if_pos hlo], hn, hx, hnm⟩ kns (fun w s => by exact (s.low 60 ((((lim.mono dE).consH dE dE)).consS dE) agx agx agx))
   ·have hlo : ¬ y < st := of_decide_eq_false hc2
    refine g5 ?_
    refine rl (rld 54 rfl hB4 rfl) ?_
    refine g1 ?_
    refine rl (rld 51 rfl hB1 h51) ?_
    rcases Decidable.em ((n : Int) = most) with h1 | h1
    ·have hA : addF r st en most o0 l = (o, false) := by have hq : addGo r.count st en most o0 (posF l r.setpos) = (o, false) := (by first | (rw [show posF l r.setpos = l from by unfold posF; rw [if_pos h0]]; rw [hst, if_neg hlo, if_pos oM]) | rw [hst, if_neg hlo, if_pos oM]); unfold addF; rw [hq]; rfl
     refine rl ((rd_eql rfl rfl).to eT) ?_
     refine g18 ?_
     refine g1 ?_
     refine GC_is_true rfl rfl ?_
     refine g12 ?_
     rw [hA]
     subst hn hx
     exact GE_ret1 (.inl rfl) rfl (res_tmp rfl) fun w_ s_ => ⟨p, c, by simp only, s_.low 57 ((lim.consH dE dE).consS dE) agx agx agx⟩
    ·refine rl ((rd_eql rfl rfl).to eF) ?_
     refine g2 ?_
     refine rl (rfa 5) ?_
     refine g1 ?_
     refine rl (rld 50 rfl hB0 h505) ?_
     refine g1 ?_
     rcases Decidable.em (0 < r.count) with h2 | h2
     ·refine rl ((rd_gtr rfl rfl).to bT) ?_
      refine g3 ?_
      refine rl (rld 54 rfl hB4 rfl) ?_
      refine g3 ?_
      refine rl (rfa 5) ?_
      refine g1 ?_
      refine rl (rld 50 rfl hB0 h505) ?_
      refine g1 ?_
      rcases Decidable.em ((n : Int) = r.count) with h3 | h3
      ·have hA : addF r st en most o0 l = (o, false) := by have hq : addGo r.count st en most o0 (posF l r.setpos) = (o, false) := (by first | (rw [show posF l r.setpos = l from by unfold posF; rw [if_pos h0]]; rw [hst, if_neg hlo, if_pos oM]) | rw [hst, if_neg hlo, if_pos oM]); unfold addF; rw [hq]; rfl
       refine rl ((rd_eql rfl rfl).to eT) ?_
       refine g10 ?_
       refine GC_is_true rfl rfl ?_
       refine g12 ?_
       rw [hA]
       subst hn hx
       exact GE_ret1 (.inl rfl) rfl (res_tmp rfl) fun w_ s_ => ⟨p, c, by simp only, s_.low 57 ((lim.consH dE dE).consS dE) agx agx agx⟩
      ·refine rl ((rd_eql rfl rfl).to eF) ?_
       refine g7 ?_
       refine rl (rld 53 rfl hB3 h53) ?_
       refine g1 ?_
       rcases Decidable.em (en < y) with h4 | h4
       ·have hA : addF r st en most o0 l = (o, false) := by have hq : addGo r.count st en most o0 (posF l r.setpos) = (o, false) := (by first | (rw [show posF l r.setpos = l from by unfold posF; rw [if_pos h0]]; rw [hst, if_neg hlo, if_pos oM]) | rw [hst, if_neg hlo, if_pos oM]); unfold addF; rw [hq]; rfl
        refine rl ((rd_gtr rfl rfl).to bT) ?_
        refine g3 ?_
        refine GC_is_true rfl rfl ?_
        refine g12 ?_
        rw [hA]
        subst hn hx
        exact GE_ret1 (.inl rfl) rfl (res_tmp rfl) fun w_ s_ => ⟨p, c, by simp only, s_.low 57 ((lim.consH dE dE).consS dE) agx agx agx⟩
       ·refine rl ((rd_gtr rfl rfl).to bF) ?_
        refine g3 ?_
        refine GC_is_false rfl rfl ?_
        refine g3 ?_
        refine rl (rld 54 rfl hB4 rfl) ?_
        refine g1 ?_
        refine gL (at_one_ 60 (e := 2) (sz := 1) (by_ := 8) (zs := [iV 0]) dE kR rfl dE dE (by first | rfl | exact lim.s 60 dE) (by first | rfl | exact lim.b 60 dE) rfl (fun bo => ?_))
        refine gL (at_append 55 60 (e := 2) (sz := 1) (by_ := 8) (zs := [iV 0]) (q := ⟨.slice p n c, 2, 1, n, xs⟩) dE kR rfl dE rfl rfl rfl rfl ⟨rfl, rfl⟩ ⟨rfl, rfl⟩ (ints_one (xs := [y])) sO sO (fun p' c' => ?_))
        refine gL (sto 54 rfl rfl hB4 rfl ?_)
        refine g7 ?_
        refine GE_back ⟨k + 1, o ++ [y], p', c', n + 1, xs ++ [iV y]⟩ sO ⟨by omega, by rw [hst, if_neg hlo, if_neg oM], by rw [List.length_append, hn]; rfl, by rw [hx]; simp, by omega⟩ kns (fun w s => by exact (s.low 60 ((((lim.mono dE).consH dE dE)).consS dE) agx agx agx))
     ·refine rl ((rd_gtr rfl rfl).to bF) ?_
      refine g14 ?_
      refine rl (rld 53 rfl hB3 h53) ?_
      refine g1 ?_
      rcases Decidable.em (en < y) with h4 | h4
      ·have hA : addF r st en most o0 l = (o, false) := by have hq : addGo r.count st en most o0 (posF l r.setpos) = (o, false) := (by first | (rw [show posF l r.setpos = l from by unfold posF; rw [if_pos h0]]; rw [hst, if_neg hlo, if_pos oM]) | rw [hst, if_neg hlo, if_pos oM]); unfold addF; rw [hq]; rfl
       refine rl ((rd_gtr rfl rfl).to bT) ?_
       refine g3 ?_
       refine GC_is_true rfl rfl ?_
       refine g12 ?_
       rw [hA]
       subst hn hx
       exact GE_ret1 (.inl rfl) rfl (res_tmp rfl) fun w_ s_ => ⟨p, c, by simp only, s_.low 57 ((lim.consH dE dE).consS dE) agx agx agx⟩
      ·refine rl ((rd_gtr rfl rfl).to bF) ?_
       refine g3 ?_
       refine GC_is_false rfl rfl ?_
       refine g3 ?_
       refine rl (rld 54 rfl hB4 rfl) ?_
       refine g1 ?_
       refine gL (at_one_ 60 (e := 2) (sz := 1) (by_ := 8) (zs := [iV 0]) dE kR rfl dE dE (by first | rfl | exact lim.s 60 dE) (by first | rfl | exact lim.b 60 dE) rfl (fun bo => ?_))
       refine gL (at_append 55 60 (e := 2) (sz := 1) (by_ := 8) (zs := [iV 0]) (q := ⟨.slice p n c, 2, 1, n, xs⟩) dE kR rfl dE rfl rfl rfl rfl ⟨rfl, rfl⟩ ⟨rfl, rfl⟩ (ints_one (xs := [y])) sO sO (fun p' c' => ?_))
       refine gL (sto 54 rfl rfl hB4 rfl ?_)
       refine g7 ?_
       refine GE_back ⟨k + 1, o ++ [y], p', c', n + 1, xs ++ [iV y]⟩ sO ⟨by omega, by rw [hst, if_neg hlo, if_neg oM], by rw [List.length_append, hn]; rfl, by rw [hx]; simp, by omega⟩ kns (fun w s => by exact (s.low 60 ((((lim.mono dE).consH dE dE)).consS dE) agx agx agx))
  ·obtain rfl : k = l.length := by have := of_decide_eq_false hc2; omega
   rw [List.drop_length] at hg
   have hA1 : (o, true) = addGo r.count st en most o0 (l) := hg
   have hA : addF r st en most o0 l = (o, addOk r.count most n) := by unfold addF; rw [show posF l r.setpos = l from by unfold posF; rw [if_pos h0], ← hA1, hn]; simp
   refine g7 ?_
   refine rl (rld 54 rfl hB4 rfl) ?_
   refine g1 ?_
   refine rl (rld 51 rfl hB1 h51) ?_
   rcases Decidable.em ((n : Int) < most) with h1 | h1
   ·refine rl ((rd_lss rfl rfl).to bT) ?_
    refine g2 ?_
    refine rl (rfa 5) ?_
    refine g1 ?_
    refine rl (rld 50 rfl hB0 h505) ?_
    refine g1 ?_
    rcases Decidable.em (r.count = 0) with h2 | h2
    ·refine rl ((rd_eql rfl rfl).to eT) ?_
     refine g14 ?_
     rw [hA]
     subst hn hx
     exact GE_ret1 (.inl rfl) rfl (res_tmp rfl) fun w_ s_ => ⟨p, c, by simp only [addOk]; rw [decide_eq_true h1, b_eq h2]; rfl, s_.low 57 ((lim.consH dE dE).consS dE) agx agx agx⟩
    ·refine rl ((rd_eql rfl rfl).to eF) ?_
     refine g3 ?_
     refine rl (rld 54 rfl hB4 rfl) ?_
     refine g3 ?_
     refine rl (rfa 5) ?_
     refine g1 ?_
     refine rl (rld 50 rfl hB0 h505) ?_
     refine g1 ?_
     rcases Decidable.em ((n : Int) < r.count) with h3 | h3
     ·refine rl ((rd_lss rfl rfl).to bT) ?_
      refine g7 ?_
      rw [hA]
      subst hn hx
      exact GE_ret1 (.inl rfl) rfl (res_tmp rfl) fun w_ s_ => ⟨p, c, by simp only [addOk]; rw [decide_eq_true h1, decide_eq_true h3, Bool.or_true]; rfl, s_.low 57 ((lim.consH dE dE).consS dE) agx agx agx⟩
     ·refine rl ((rd_lss rfl rfl).to bF) ?_
      refine g7 ?_
      rw [hA]
      subst hn hx
      exact GE_ret1 (.inl rfl) rfl (res_tmp rfl) fun w_ s_ => ⟨p, c, by simp only [addOk]; rw [decide_eq_true h1, decide_eq_false h3, b_ne h2]; rfl, s_.low 57 ((lim.consH dE dE).consS dE) agx agx agx⟩
   ·refine rl ((rd_lss rfl rfl).to bF) ?_
    refine g16 ?_
    rw [hA]
    subst hn hx
    exact GE_ret1 (.inl rfl) rfl (res_tmp rfl) fun w_ s_ => ⟨p, c, by simp only [addOk]; rw [decide_eq_false h1]; rfl, s_.low 57 ((lim.consH dE dE).consS dE) agx agx agx⟩
 ·refine g4 ?_
  refine rl (rfa 8) ?_
  refine rl (rld 50 rfl hB0 h508) ?_
  refine gL (at_call_row 57 (e := 2) (sz := 1) (n := (posF l r.setpos).length) (xs := (posF l r.setpos).map iV) dE kR rfl (fun w_ s_ => (positions_calls l r.setpos pl cl _ hll l9 w_ (s_.ints 56 hS6) (hsp w_ s_)).mono fun e_ w2_ ⟨p_, c_, h1_, h2_⟩ => by rcases h2_ with ⟨h3_, _⟩ | ⟨_, h3_⟩; exact absurd h3_ h0; exact ⟨p_, c_, h1_, h3_⟩) (fun pr cr => ?_))
  refine g5 ?_
  refine GC_loop (ι := (Nat) × (List Int) × (Option Addr) × (Nat) × (Nat) × (List Value)) (fun | ⟨k, o, p, c, n, xs⟩ => (posF l r.setpos).length - k) (fun | ⟨k, o, p, c, n, xs⟩ => (k ≤ (posF l r.setpos).length) ∧ (addGo r.count st en most o ((posF l r.setpos).drop k) = addGo r.count st en most o0 (posF l r.setpos)) ∧ (n = o.length) ∧ (xs = o.map iV) ∧ ((n : Int) ≤ most)) (fun | ⟨k, o, p, c, n, xs⟩ => [(1, pT b1), (2, pT b8), (3, pT b10), (4, pT b4), (5, pT b9), (13, .slice pr (posF l r.setpos).length cr), (14, iV ((posF l r.setpos).length)), (15, iV k)]) (fun | ⟨k, o, p, c, n, xs⟩ => B) (fun | ⟨k, o, p, c, n, xs⟩ => (ky 54 0, .slice p n c) :: H) (fun | ⟨k, o, p, c, n, xs⟩ => (55, ⟨.slice p n c, 2, 1, n, xs⟩) :: (57, ⟨.slice pr (posF l r.setpos).length cr, 2, 1, (posF l r.setpos).length, ((posF l r.setpos).map iV)⟩) :: S) ⟨0, o0, p0, c0, o0.length, o0.map iV⟩ ⟨Nat.zero_le _, rfl, rfl, rfl, hm.1⟩ kns (fun w s => by exact (s.to (fun _ _ h => h) (fun k o v ho h => (by rcases lkp_cons h with ⟨e, rfl⟩ | ⟨_, h⟩; { rw [e]; exact ⟨h54, by obtain ⟨rfl, rfl⟩ := ky_inj ho dE e; rw [hB4]; rfl⟩ }; exact ⟨h, by obtain ⟨b, e, _⟩ := s.cells k o v ho h; rw [e]; rfl⟩)) (fun j q h => (by rcases lkp_cons h with ⟨rfl, rfl⟩ | ⟨_, h⟩; exact hS5; exact h)))) ?_
  rintro ⟨k, o, p, c, n, xs⟩ ⟨hk, hg, hn, hx, hnm⟩
  show GC _ _ _ _ [(1, pT b1), (2, pT b8), (3, pT b10), (4, pT b4), (5, pT b9), (13, .slice pr (posF l r.setpos).length cr), (14, iV ((posF l r.setpos).length)), (15, iV k)] _ _ (B) ((ky 54 0, .slice p n c) :: H) ((55, ⟨.slice p n c, 2, 1, n, xs⟩) :: (57, ⟨.slice pr (posF l r.setpos).length cr, 2, 1, (posF l r.setpos).length, ((posF l r.setpos).map iV)⟩) :: S)
  refine g6 ?_
  refine GC_cond rfl (fun hc1 => ?_) (fun hc2 => ?_)
  ·have hlt : k < (posF l r.setpos).length := by have := of_decide_eq_true hc1; omega
   obtain ⟨y, hy⟩ : ∃ y, (posF l r.setpos)[k]? = some y := ⟨_, List.getElem?_eq_getElem hlt⟩
   have hst := addGo_step r.count st en most o hy
   rw [hg] at hst
   refine GC_have (fun w s => s.head 57 rfl oM) (fun ⟨bl, hpl, hcl⟩ => ?_)
   subst hpl
   refine g6 ?_
   refine rl (rd_indexAddr (e := 2) (n := 1) kR rfl rfl oM oM) ?_
   refine rl (rd_load_rowI 57 rfl rfl (by rw [← hy]; congr 1; omega) kR) ?_
   refine g7 ?_
   refine rl (rld 52 rfl hB2 h52) ?_
   refine g3 ?_
   refine GC_cond rfl (fun hc1 => ?_) (fun hc2 => ?_)
   ·have hlo : y < st := of_decide_eq_true hc1
    refine g8 ?_
    refine GE_back ⟨k + 1, o, p, c, n, xs⟩ sO ⟨by omega, by rw [hst, if_pos hlo], hn, hx, hnm⟩ kns (fun w s => by exact (s.low 60 ((((lim.mono dE).consH dE dE).consS dE).consS dE) agx agx agx))
   ·have hlo : ¬ y < st := of_decide_eq_false hc2
    refine g5 ?_
    refine rl (rld 54 rfl hB4 rfl) ?_
    refine g1 ?_
    refine rl (rld 51 rfl hB1 h51) ?_
    rcases Decidable.em ((n : Int) = most) with h1 | h1
    ·have hA : addF r st en most o0 l = (o, false) := by have hq : addGo r.count st en most o0 (posF l r.setpos) = (o, false) := (by first | (rw [show posF l r.setpos = l from by unfold posF; rw [if_pos h0]]; rw [hst, if_neg hlo, if_pos oM]) | rw [hst, if_neg hlo, if_pos oM]); unfold addF; rw [hq]; rfl
     refine rl ((rd_eql rfl rfl).to eT) ?_
     refine g18 ?_
     refine g1 ?_
     refine GC_is_true rfl rfl ?_
     refine g12 ?_
     rw [hA]
     subst hn hx
     exact GE_ret1 (.inl rfl) rfl (res_tmp rfl) fun w_ s_ => ⟨p, c, by simp only, s_.low 57 ((lim.consH dE dE).consS dE) agx agx agx⟩
    ·refine rl ((rd_eql rfl rfl).to eF) ?_
     refine g2 ?_
     refine rl (rfa 5) ?_
     refine g1 ?_
     refine rl (rld 50 rfl hB0 h505) ?_
     refine g1 ?_
     rcases Decidable.em (0 < r.count) with h2 | h2
     ·refine rl ((rd_gtr rfl rfl).to bT) ?_
      refine g3 ?_
      refine rl (rld 54 rfl hB4 rfl) ?_
      refine g3 ?_
      refine rl (rfa 5) ?_
      refine g1 ?_
      refine rl (rld 50 rfl hB0 h505) ?_
      refine g1 ?_
      rcases Decidable.em ((n : Int) = r.count) with h3 | h3
      ·have hA : addF r st en most o0 l = (o, false) := by have hq : addGo r.count st en most o0 (posF l r.setpos) = (o, false) := (by first | (rw [show posF l r.setpos = l from by unfold posF; rw [if_pos h0]]; rw [hst, if_neg hlo, if_pos oM]) | rw [hst, if_neg hlo, if_pos oM]); unfold addF; rw [hq]; rfl
       refine rl ((rd_eql rfl rfl).to eT) ?_
       refine g10 ?_
       refine GC_is_true rfl rfl ?_
       refine g12 ?_
       rw [hA]
       subst hn hx
       exact GE_ret1 (.inl rfl) rfl (res_tmp rfl) fun w_ s_ => ⟨p, c, by simp only, s_.low 57 ((lim.consH dE dE).consS dE) agx agx agx⟩
      ·refine rl ((rd_eql rfl rfl).to eF) ?_
       refine g7 ?_
       refine rl (rld 53 rfl hB3 h53) ?_
       refine g1 ?_
       rcases Decidable.em (en < y) with h4 | h4
       ·have hA : addF r st en most o0 l = (o, false) := by have hq : addGo r.count st en most o0 (posF l r.setpos) = (o, false) := (by first | (rw [show posF l r.setpos = l from by unfold posF; rw [if_pos h0]]; rw [hst, if_neg hlo, if_pos oM]) | rw [hst, if_neg hlo, if_pos oM]); unfold addF; rw [hq]; rfl
        refine rl ((rd_gtr rfl rfl).to bT) ?_
        refine g3 ?_
        refine GC_is_true rfl rfl ?_
        refine g12 ?_
        rw [hA]
        subst hn hx
        exact GE_ret1 (.inl rfl) rfl (res_tmp rfl) fun w_ s_ => ⟨p, c, by simp only, s_.low 57 ((lim.consH dE dE).consS dE) agx agx agx⟩
       ·refine rl ((rd_gtr rfl rfl).to bF) ?_
        refine g3 ?_
        refine GC_is_false rfl rfl ?_
        refine g3 ?_
        refine rl (rld 54 rfl hB4 rfl) ?_
        refine g1 ?_
        refine gL (at_one_ 60 (e := 2) (sz := 1) (by_ := 8) (zs := [iV 0]) dE kR rfl dE dE (by first | rfl | exact lim.s 60 dE) (by first | rfl | exact lim.b 60 dE) rfl (fun bo => ?_))
        refine gL (at_append 55 60 (e := 2) (sz := 1) (by_ := 8) (zs := [iV 0]) (q := ⟨.slice p n c, 2, 1, n, xs⟩) dE kR rfl dE rfl rfl rfl rfl ⟨rfl, rfl⟩ ⟨rfl, rfl⟩ (ints_one (xs := [y])) sO sO (fun p' c' => ?_))
        refine gL (sto 54 rfl rfl hB4 rfl ?_)
        refine g7 ?_
        refine GE_back ⟨k + 1, o ++ [y], p', c', n + 1, xs ++ [iV y]⟩ sO ⟨by omega, by rw [hst, if_neg hlo, if_neg oM], by rw [List.length_append, hn]; rfl, by rw [hx]; simp, by omega⟩ kns (fun w s => by exact (s.low 60 ((((lim.mono dE).consH dE dE).consS dE).consS dE) agx agx agx))
     ·refine rl ((rd_gtr rfl rfl).to bF) ?_
      refine g14 ?_
      refine rl (rld 53 rfl hB3 h53) ?_
      refine g1 ?_
      rcases Decidable.em (en < y) with h4 | h4
      ·have hA : addF r st en most o0 l = (o, false) := by have hq : addGo r.count st en most o0 (posF l r.setpos) = (o, false) := (by first | (rw [show posF l r.setpos = l from by unfold posF; rw [if_pos h0]]; rw [hst, if_neg hlo, if_pos oM]) | rw [hst, if_neg hlo, if_pos oM]); unfold addF; rw [hq]; rfl
       refine rl ((rd_gtr rfl rfl).to bT) ?_
       refine g3 ?_
       refine GC_is_true rfl rfl ?_
       refine g12 ?_
       rw [hA]
       subst hn hx
       exact GE_ret1 (.inl rfl) rfl (res_tmp rfl) fun w_ s_ => ⟨p, c, by simp only, s_.low 57 ((lim.consH dE dE).consS dE) agx agx agx⟩
      ·refine rl ((rd_gtr rfl rfl).to bF) ?_
       refine g3 ?_
       refine GC_is_false rfl rfl ?_
       refine g3 ?_
       refine rl (rld 54 rfl hB4 rfl) ?_
       refine g1 ?_
       refine gL (at_one_ 60 (e := 2) (sz := 1) (by_ := 8) (zs := [iV 0]) dE kR rfl dE dE (by first | rfl | exact lim.s 60 dE) (by first | rfl | exact lim.b 60 dE) rfl (fun bo => ?_))
       refine gL (at_append 55 60 (e := 2) (sz := 1) (by_ := 8) (zs := [iV 0]) (q := ⟨.slice p n c, 2, 1, n, xs⟩) dE kR rfl dE rfl rfl rfl rfl ⟨rfl, rfl⟩ ⟨rfl, rfl⟩ (ints_one (xs := [y])) sO sO (fun p' c' => ?_))
       refine gL (sto 54 rfl rfl hB4 rfl ?_)
       refine g7 ?_
       refine GE_back ⟨k + 1, o ++ [y], p', c', n + 1, xs ++ [iV y]⟩ sO ⟨by omega, by rw [hst, if_neg hlo, if_neg oM], by rw [List.length_append, hn]; rfl, by rw [hx]; simp, by omega⟩ kns (fun w s => by exact (s.low 60 ((((lim.mono dE).consH dE dE).consS dE).consS dE) agx agx agx))
  ·obtain rfl : k = (posF l r.setpos).length := by have := of_decide_eq_false hc2; omega
   rw [List.drop_length] at hg
   have hA1 : (o, true) = addGo r.count st en most o0 ((posF l r.setpos)) := hg
   have hA : addF r st en most o0 l = (o, addOk r.count most n) := by unfold addF; rw [show posF l r.setpos = posF l r.setpos from rfl, ← hA1, hn]; simp
   refine g7 ?_
   refine rl (rld 54 rfl hB4 rfl) ?_
   refine g1 ?_
   refine rl (rld 51 rfl hB1 h51) ?_
   rcases Decidable.em ((n : Int) < most) with h1 | h1
   ·refine rl ((rd_lss rfl rfl).to bT) ?_
    refine g2 ?_
    refine rl (rfa 5) ?_
    refine g1 ?_
    refine rl (rld 50 rfl hB0 h505) ?_
    refine g1 ?_
    rcases Decidable.em (r.count = 0) with h2 | h2
    ·refine rl ((rd_eql rfl rfl).to eT) ?_
     refine g14 ?_
     rw [hA]
     subst hn hx
     exact GE_ret1 (.inl rfl) rfl (res_tmp rfl) fun w_ s_ => ⟨p, c, by simp only [addOk]; rw [decide_eq_true h1, b_eq h2]; rfl, s_.low 57 ((lim.consH dE dE).consS dE) agx agx agx⟩
    ·refine rl ((rd_eql rfl rfl).to eF) ?_
     refine g3 ?_
     refine rl (rld 54 rfl hB4 rfl) ?_
     refine g3 ?_
     refine rl (rfa 5) ?_
     refine g1 ?_
     refine rl (rld 50 rfl hB0 h505) ?_
     refine g1 ?_
     rcases Decidable.em ((n : Int) < r.count) with h3 | h3
     ·refine rl ((rd_lss rfl rfl).to bT) ?_
      refine g7 ?_
      rw [hA]
      subst hn hx
      exact GE_ret1 (.inl rfl) rfl (res_tmp rfl) fun w_ s_ => ⟨p, c, by simp only [addOk]; rw [decide_eq_true h1, decide_eq_true h3, Bool.or_true]; rfl, s_.low 57 ((lim.consH dE dE).consS dE) agx agx agx⟩
     ·refine rl ((rd_lss rfl rfl).to bF) ?_
      refine g7 ?_
      rw [hA]
      subst hn hx
      exact GE_ret1 (.inl rfl) rfl (res_tmp rfl) fun w_ s_ => ⟨p, c, by simp only [addOk]; rw [decide_eq_true h1, decide_eq_false h3, b_ne h2]; rfl, s_.low 57 ((lim.consH dE dE).consS dE) agx agx agx⟩
   ·refine rl ((rd_lss rfl rfl).to bF) ?_
    refine g16 ?_
    rw [hA]
    subst hn hx
    exact GE_ret1 (.inl rfl) rfl (res_tmp rfl) fun w_ s_ => ⟨p, c, by simp only [addOk]; rw [decide_eq_false h1]; rfl, s_.low 57 ((lim.consH dE dE).consS dE) agx agx agx⟩
end
end Go.Proofs.YtdbbifbmkfmbkaaGreat
