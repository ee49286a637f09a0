import Derived.Test.YtdbbifbmkfmbkaaGreatDad
set_option linter.unusedVariables false
set_option linter.unusedSimpArgs false
set_option maxRecDepth 100000
set_option maxHeartbeats 8000000
namespace Go.Proofs.YtdbbifbmkfmbkaaGreat
open Go.RowKit Go.Fr Go.Tab
section
variable {F : Nat → Prop} {w0 : World} {B : List (Nat × Nat)} {H : List (Nat × Value)} {S : List (Nat × Slc)}
open Go.Sort Go.Md
theorem break_calls {t b n c : Nat} {d : Array Int} (hd : d.size = n) (hn : n ≤ 1000000000) (hlim : Lim 60 B H S) (ht : t < 60) (a e : Nat) (hae : a + 12 < e) (he : e ≤ n) : ∀ w, Sees F w0 B H ((t, arow 57 b n c d) :: S) w → Calls Go.Proofs.Tryz.prog 129 #[.iface 122 (sL b n c), iV a, iV e] w fun e_ w' => ∃ x : Array Int, (x.size = n ∧ PermIn a e d x) ∧ e_ = .returned (.tuple #[]) ∧ Sees F w0 B H ((t, arow 57 b n c x) :: S) w' := by
 have hl2 : Lim 60 B H ((t, arow 57 b n c d) :: S) := hlim.consS ht
 have hbl := bitLen_bd (n := e - a) oM oM
 intro w s
 refine calls_GC (args := [.iface 122 (sL b n c), iV a, iV e]) (L := [(0, .iface 122 (sL b n c)), (1, iV a), (2, iV e)]) (N := 53) Tryz.func129 rfl rfl ble rfl s ?_
 refine g14 ?_
 refine GC_is_true rfl (decide_eq_true oM) ?_
 refine g3 ?_
 refine rl ((rd_convert rfl kR kR).to (congrArg (Value.int .u64) (wrap_u64 oM))) ?_
 refine gL (alo 60 (cs := [.int .u64 0]) kR (hlim.b 60 dE) (fun cb hcb => ?_))
 refine gL (sto 60 rfl rfl rfl rfl ?_)
 refine g5 ?_
 refine gL (cvo (v := (.int .u64 ((2 ^ Lib.bitLen (e - a) : Nat) : Int))) rfl (fun w_ s_ => by have := nextPow_calls (e - a) oM oM w_; rw [show ((e - a : Nat) : Int) = (e : Int) - a by omega] at this; exact this) ?_)
 refine g15 ?_
 obtain ⟨M, hM⟩ : ∃ M, M = 2 ^ Lib.bitLen (e - a) := ⟨_, rfl⟩
 have hM1 : 1 ≤ M := by rw [hM]; exact Nat.one_le_two_pow
 have hM2 : M ≤ 2 * (e - a) := by rw [hM]; exact hbl.1
 rw [← hM]
 refine GC_loop (ι := (Nat) × (Int) × (Array Int)) (fun | ⟨i, v, dk⟩ => a + (e - a) / 4 * 2 + 3 - i) (fun | ⟨i, v, dk⟩ => (a ≤ i ∧ i ≤ a + (e - a) / 4 * 2 + 2) ∧ (dk.size = n) ∧ (PermIn a e d dk)) (fun | ⟨i, v, dk⟩ => [(0, .iface 122 (sL b n c)), (1, iV a), (6, iV (((e : Int) - a))), (7, pT cb), (8, .int .u64 (M : Int)), (9, iV i)]) (fun | ⟨i, v, dk⟩ => ((60, cb) :: B)) (fun | ⟨i, v, dk⟩ => (ky 60 0, .int .u64 v) :: H) (fun | ⟨i, v, dk⟩ => ((t, arow 57 b n c dk) :: S)) ⟨a + (e - a) / 4 * 2 - 1, _, d⟩ ⟨by omega, hd, permIn_refl _ _ _⟩ kno (fun w s => by exact s.cell_last) ?_
 rintro ⟨i, v, dk⟩ ⟨hi, hds, hP⟩
 show GC _ _ _ _ [(0, .iface 122 (sL b n c)), (1, iV a), (6, iV (((e : Int) - a))), (7, pT cb), (8, .int .u64 (M : Int)), (9, iV i)] _ _ (((60, cb) :: B)) ((ky 60 0, .int .u64 v) :: H) (((t, arow 57 b n c dk) :: S))
 refine g13 ?_
 refine GC_cond rfl (fun hc1 => ?_) (fun hc2 => ?_)
 ·have hle : i ≤ a + (e - a) / 4 * 2 + 1 := by have := of_decide_eq_true hc1; omega
  refine g6 ?_
  refine gL (cao (ι := Int) (fun x => .int .u64 x) (fun _ => True) (fun _ => ((60, cb) :: B)) (fun x => (ky 60 0, .int .u64 x) :: H) (fun _ => ((t, arow 57 b n c dk) :: S)) rfl (fun w_ s_ => next_rand (H := H) rfl v w_ s_) (fun v2 _ => ?_))
  refine g1 ?_
  refine rl ((rd_sub rfl rfl).to (v' := .int .u64 ((M : Int) - 1)) (congrArg (Value.int .u64) (wrap_u64 oM))) ?_
  obtain ⟨o, ho, hov⟩ := and_val v2 hM1 oM
  refine rl ((rd_and rfl rfl).to (v' := .int .u64 (o : Int)) (congrArg (Value.int .u64) hov)) ?_
  refine g12 ?_
  refine GC_cond rfl (fun hc1 => ?_) (fun hc2 => ?_)
  ·have hge : e - a ≤ o := by have := of_decide_eq_true hc1; omega
   refine g13 ?_
   refine gL (at_swap i (a + (o - (e - a))) rfl rfl hds rfl oM oM oM ?_)
   refine g8 ?_
   refine GE_back ⟨i + 1, v2, swp dk i (a + (o - (e - a)))⟩ sO ⟨by omega, by rw [size_swp]; exact hds, permIn_trans _ _ _ _ _ hP (swp_permIn _ _ _ _ _ oM oM oM oM oM)⟩ kno (fun w s => by exact s)
  ·have hge : ¬ e - a ≤ o := by have := of_decide_eq_false hc2; omega
   refine g8 ?_
   refine gL (at_swap i (a + o) rfl rfl hds rfl oM oM oM ?_)
   refine g8 ?_
   refine GE_back ⟨i + 1, v2, swp dk i (a + o)⟩ sO ⟨by omega, by rw [size_swp]; exact hds, permIn_trans _ _ _ _ _ hP (swp_permIn _ _ _ _ _ oM oM oM oM oM)⟩ kno (fun w s => by exact s)
 ·skip
  refine g4 ?_
  exact GE_ret0 (.inr rfl) rfl fun w_ s_ => ⟨dk, ⟨hds, hP⟩, rfl, s_.low 60 (hlim.consS ht) agx agx agx⟩
theorem pdq_calls {t b n c : Nat} (hn : n ≤ 1000000000) (hlim : Lim 60 B H S) (ht : t < 60) : ∀ (m : Nat) {d : Array Int} (hd : d.size = n) (a e lm : Nat) (hm : e - a ≤ m) (hae : a ≤ e) (he : e ≤ n) (hlm : lm ≤ 1000) (hB0 : Go.Sort.Below ltInt a e d), ∀ w, Sees F w0 B H ((t, arow 57 b n c d) :: S) w → Calls Go.Proofs.Tryz.prog 106 #[.iface 122 (sL b n c), iV a, iV e, iV lm] w fun e_ w' => ∃ x : Array Int, (PermIn a e d x ∧ SortedIn ltInt a e x) ∧ e_ = .returned (.tuple #[]) ∧ Sees F w0 B H ((t, arow 57 b n c x) :: S) w' := by
 intro m
 induction m using Nat.strongRecOn with
 | _ m ih =>
 intro d hd a e lm hm hae he hlm hB0
 intro w s
 refine calls_GC (args := [.iface 122 (sL b n c), iV a, iV e, iV lm]) (L := [(0, .iface 122 (sL b n c)), (1, iV a), (2, iV e), (3, iV lm)]) (N := 129) Tryz.func106 rfl rfl ble rfl s ?_
 refine g11 ?_
 refine GC_loop (ι := (Nat) × (Nat) × (Nat) × (Bool) × (Bool) × (Array Int)) (fun | ⟨a1, e1, lk, wb, wp, d1⟩ => e1 - a1) (fun | ⟨a1, e1, lk, wb, wp, d1⟩ => (a ≤ a1 ∧ a1 ≤ e1 ∧ e1 ≤ e ∧ lk ≤ 1000) ∧ (d1.size = n) ∧ (Go.Sort.Below ltInt a1 e1 d1) ∧ (∀ R, PermIn a1 e1 d1 R → SortedIn ltInt a1 e1 R → PermIn a e d R ∧ SortedIn ltInt a e R)) (fun | ⟨a1, e1, lk, wb, wp, d1⟩ => [(0, .iface 122 (sL b n c)), (1, iV a1), (2, iV e1), (3, iV lk), (8, .bool wb), (9, .bool wp)]) (fun | ⟨a1, e1, lk, wb, wp, d1⟩ => B) (fun | ⟨a1, e1, lk, wb, wp, d1⟩ => H) (fun | ⟨a1, e1, lk, wb, wp, d1⟩ => ((t, arow 57 b n c d1) :: S)) ⟨a, e, lm, true, true, d⟩ ⟨by omega, hd, hB0, fun R h1 h2 => ⟨h1, h2⟩⟩ kno (fun w s => by exact s) ?_
 rintro ⟨a1, e1, lk, wb, wp, d1⟩ ⟨hr, hds, hB1, hC⟩
 show GC _ _ _ _ [(0, .iface 122 (sL b n c)), (1, iV a1), (2, iV e1), (3, iV lk), (8, .bool wb), (9, .bool wp)] _ _ (B) (H) (((t, arow 57 b n c d1) :: S))
 refine g16 ?_
 refine GC_cond rfl (fun hc1 => ?_) (fun hc2 => ?_)
 ·have hins := insertionSort_holds (lt := ltInt) swo_ltInt d1 a1 e1 oM oM
  refine g5 ?_
  refine gL (at_call_to (.tuple #[]) (S' := ((t, arow 57 b n c (insertionSort ltInt d1 a1 e1)) :: S)) rfl (fun w_ s_ => insertion_calls hds hn a1 e1 oM oM w_ s_) ?_)
  refine g7 ?_
  exact GE_ret0 (.inl rfl) rfl fun w_ s_ => ⟨_, hC _ hins.1 hins.2, rfl, s_⟩
 ·have h12 : 12 < e1 - a1 := by have := of_decide_eq_false hc2; omega
  refine g9 ?_
  refine GC_cond rfl (fun hc1 => ?_) (fun hc2 => ?_)
  ·have hhp := heapSort_holds (lt := ltInt) swo_ltInt d1 a1 e1 oM oM
   refine g5 ?_
   refine gL (at_call_to (.tuple #[]) (S' := ((t, arow 57 b n c (heapSort ltInt d1 a1 e1)) :: S)) rfl (fun w_ s_ => heap_calls hds hn a1 e1 oM oM w_ s_) ?_)
   refine g7 ?_
   exact GE_ret0 (.inl rfl) rfl fun w_ s_ => ⟨_, hC _ hhp.1 hhp.2, rfl, s_⟩
  ·have hlk : lk ≠ 0 := by have := beq_eq_false_iff_ne.1 hc2; omega
   refine g2 ?_
   refine GC_cut (ι := (Nat) × (Array Int)) (fun | ⟨lk2, d2⟩ => (lk2 ≤ 1000) ∧ (d2.size = n ∧ PermIn a1 e1 d1 d2)) (fun | ⟨lk2, d2⟩ => [(0, .iface 122 (sL b n c)), (1, iV a1), (2, iV e1), (3, iV lk2), (8, .bool wb), (9, .bool wp), (10, iV ((e1 : Int) - a1))]) (fun | ⟨lk2, d2⟩ => B) (fun | ⟨lk2, d2⟩ => H) (fun | ⟨lk2, d2⟩ => ((t, arow 57 b n c d2) :: S)) ?_ ?_
   ·refine g6 ?_
    refine GC_cond rfl (fun hc1 => ?_) (fun hc2 => ?_)
    ·refine g5 ?_
     refine gL (at_call_ex (ι := Array Int) (fun _ => .tuple #[]) (fun x => x.size = n ∧ PermIn a1 e1 d1 x) (fun x => ((t, arow 57 b n c x) :: S)) rfl (fun w_ s_ => break_calls hds hn hlim ht a1 e1 oM oM w_ s_) (fun x2 hx2 => ?_))
     refine g7 ?_
     refine GE_meet (ι := Nat × Array Int) ⟨lk - 1, x2⟩ ⟨by omega, hx2⟩ kno (fun w s => s)
    ·refine g1 ?_
     refine GE_meet (ι := Nat × Array Int) ⟨lk, d1⟩ ⟨by omega, ⟨hds, permIn_refl _ _ _⟩⟩ kno (fun w s => s)
   rintro ⟨lk2, d2⟩ ⟨hl2, hP2⟩
   show GC _ _ _ _ [(0, .iface 122 (sL b n c)), (1, iV a1), (2, iV e1), (3, iV lk2), (8, .bool wb), (9, .bool wp), (10, iV ((e1 : Int) - a1))] _ _ (B) (H) (((t, arow 57 b n c d2) :: S))
   refine g5 ?_
   refine gL (at_call_ex (ι := Nat × Int) (fun x => .tuple #[iV x.1, iV x.2]) (fun x => a1 ≤ x.1 ∧ x.1 < e1) (fun _ => ((t, arow 57 b n c d2) :: S)) rfl (fun w_ s_ => choose_calls hP2.1 hn (hlim.consS ht) a1 e1 oM oM w_ s_) (fun | (p1, h1), hp1 => ?_))
   refine g7 ?_
   refine GC_cut (ι := (Nat) × (Int) × (Array Int)) (fun | ⟨p2, hint, d3⟩ => (a1 ≤ p2 ∧ p2 < e1) ∧ (d3.size = n ∧ PermIn a1 e1 d1 d3)) (fun | ⟨p2, hint, d3⟩ => [(0, .iface 122 (sL b n c)), (1, iV a1), (2, iV e1), (3, iV lk2), (8, .bool wb), (9, .bool wp), (10, iV ((e1 : Int) - a1)), (11, iV p2), (12, iV hint)]) (fun | ⟨p2, hint, d3⟩ => B) (fun | ⟨p2, hint, d3⟩ => H) (fun | ⟨p2, hint, d3⟩ => ((t, arow 57 b n c d3) :: S)) ?_ ?_
   ·refine g6 ?_
    refine GC_cond rfl (fun hc1 => ?_) (fun hc2 => ?_)
    ·refine g5 ?_
     refine gL (at_call_to (.tuple #[]) (S' := ((t, arow 57 b n c (reverseRange d2 a1 e1)) :: S)) rfl (fun w_ s_ => reverse_calls hP2.1 hn a1 e1 oM oM w_ s_) ?_)
     have hrv := reverseRange_holds d2 a1 e1 oM oM
     refine g16 ?_
     refine GE_meet (ι := Nat × Int × Array Int) ⟨(e1 - 1) - (p1 - a1), 1, reverseRange d2 a1 e1⟩ ⟨by omega, ⟨hrv.1.trans hP2.1, permIn_trans _ _ _ _ _ hP2.2 hrv⟩⟩ kno (fun w s => s)
    ·refine g1 ?_
     refine GE_meet (ι := Nat × Int × Array Int) ⟨p1, h1, d2⟩ ⟨by omega, hP2⟩ kno (fun w s => s)
   rintro ⟨p2, hint, d3⟩ ⟨hp2, hP3⟩
   show GC _ _ _ _ [(0, .iface 122 (sL b n c)), (1, iV a1), (2, iV e1), (3, iV lk2), (8, .bool wb), (9, .bool wp), (10, iV ((e1 : Int) - a1)), (11, iV p2), (12, iV hint)] _ _ (B) (H) (((t, arow 57 b n c d3) :: S))
   refine GC_cut (ι := (Array Int)) (fun d4 => (d4.size = n ∧ PermIn a1 e1 d1 d4)) (fun d4 => [(0, .iface 122 (sL b n c)), (1, iV a1), (2, iV e1), (3, iV lk2), (8, .bool wb), (9, .bool wp), (10, iV ((e1 : Int) - a1)), (11, iV p2)]) (fun d4 => B) (fun d4 => H) (fun d4 => ((t, arow 57 b n c d4) :: S)) ?_ ?_
   ·refine g1 ?_
    rcases (show (wb = true ∧ wp = true) ∨ (wb = true ∧ wp = false) ∨ wb = false by cases wb <;> cases wp <;> simp) with ⟨rfl, rfl⟩ | ⟨rfl, rfl⟩ | rfl
    ·refine g14 ?_
     refine GC_cond rfl (fun hc1 => ?_) (fun hc2 => ?_)
     ·skip
      refine g5 ?_
      refine gL (at_call_to (.bool (partialInsertionSort ltInt d3 a1 e1).2) (S' := ((t, arow 57 b n c (partialInsertionSort ltInt d3 a1 e1).1) :: S)) rfl (fun w_ s_ => partial_calls hP3.1 hn a1 e1 oM oM w_ s_) ?_)
      have hpi := partialInsertionSort_holds (lt := ltInt) swo_ltInt d3 a1 e1 oM oM (hB1.perm oM hP3.2)
      refine g2 ?_
      refine GC_cond rfl (fun hc1 => ?_) (fun hc2 => ?_)
      ·have hpt : (partialInsertionSort ltInt d3 a1 e1).2 = true := hc1
       refine g5 ?_
       exact GE_ret0 (.inl rfl) rfl fun w_ s_ => ⟨_, hC _ (permIn_trans _ _ _ _ _ hP3.2 hpi.1) (hpi.2 hpt), rfl, s_⟩
      ·refine g1 ?_
       refine GE_meet (ι := Array Int) (partialInsertionSort ltInt d3 a1 e1).1 ⟨hpi.1.1.trans hP3.1, permIn_trans _ _ _ _ _ hP3.2 hpi.1⟩ kno (fun w s => s)
     ·refine g1 ?_
      refine GE_meet (ι := Array Int) d3 hP3 kno (fun w s => s)
    ·refine g12 ?_
     refine GC_is_false rfl rfl ?_
     refine g1 ?_
     refine GE_meet (ι := Array Int) d3 hP3 kno (fun w s => s)
    ·refine g11 ?_
     refine GC_is_false rfl rfl ?_
     refine g1 ?_
     refine GE_meet (ι := Array Int) d3 hP3 kno (fun w s => s)
   rintro d4 hP4
   show GC _ _ _ _ [(0, .iface 122 (sL b n c)), (1, iV a1), (2, iV e1), (3, iV lk2), (8, .bool wb), (9, .bool wp), (10, iV ((e1 : Int) - a1)), (11, iV p2)] _ _ (B) (H) (((t, arow 57 b n c d4) :: S))
   have hB4 : Go.Sort.Below ltInt a1 e1 d4 := hB1.perm oM hP4.2
   refine GC_cut (ι := (Unit)) (fun u => True) (fun u => [(0, .iface 122 (sL b n c)), (1, iV a1), (2, iV e1), (3, iV lk2), (8, .bool wb), (9, .bool wp), (10, iV ((e1 : Int) - a1)), (11, iV p2)]) (fun u => B) (fun u => H) (fun u => ((t, arow 57 b n c d4) :: S)) ?_ ?_
   ·refine g1 ?_
    rcases Decidable.em (0 < a1) with hp0 | hp0
    ·refine g2 ?_
     refine rl ((rd_gtr rfl rfl).to bT) ?_
     refine g10 ?_
     refine gL (at_less (a1 - 1) (p2) rfl rfl hP4.1 oM oM oM oM ?_)
     refine g5 ?_
     refine GC_cond rfl (fun hc1 => ?_) (fun hc2 => ?_)
     ·have hnl : ltInt d4[a1 - 1]! d4[p2]! = false := by rw [Bool.not_eq_true'] at hc1; exact hc1
      refine g6 ?_
      refine gL (at_call_to (iV ((partitionEqual ltInt d4 a1 e1 p2).1 : Nat)) (S' := ((t, arow 57 b n c (partitionEqual ltInt d4 a1 e1 p2).2) :: S)) rfl (fun w_ s_ => partEq_calls hP4.1 hn a1 e1 p2 oM oM oM w_ s_) ?_)
      obtain ⟨q1, q2, q3, q4, q5⟩ := round_eq swo_ltInt (partitionEqual_holds ltInt) (d3 := d4) (a := a1) (b := e1) (pivot := p2) (mid := (partitionEqual ltInt d4 a1 e1 p2).1) (d4 := (partitionEqual ltInt d4 a1 e1 p2).2) hp0 oM oM oM hB4 hnl rfl
      refine g12 ?_
      refine GE_back ⟨(partitionEqual ltInt d4 a1 e1 p2).1, e1, lk2, wb, wp, (partitionEqual ltInt d4 a1 e1 p2).2⟩ sO ⟨by omega, q3.trans hP4.1, q4, fun R h1 h2 => by have h3 := q5 R h1 h2; exact hC R (permIn_trans _ _ _ _ _ hP4.2 h3.1) h3.2⟩ kno (fun w s => by exact s)
     ·skip
      refine g1 ?_
      refine GE_meet (ι := Unit) () trivial kno (fun w s => s)
    ·refine g2 ?_
     refine rl ((rd_gtr rfl rfl).to bF) ?_
     refine g10 ?_
     refine GC_is_false rfl rfl ?_
     refine g1 ?_
     refine GE_meet (ι := Unit) () trivial kno (fun w s => s)
   rintro u -
   show GC _ _ _ _ [(0, .iface 122 (sL b n c)), (1, iV a1), (2, iV e1), (3, iV lk2), (8, .bool wb), (9, .bool wp), (10, iV ((e1 : Int) - a1)), (11, iV p2)] _ _ (B) (H) (((t, arow 57 b n c d4) :: S))
   refine g6 ?_
   refine gL (at_call_to (.tuple #[iV ((partition ltInt d4 a1 e1 p2).1 : Nat), .bool (partition ltInt d4 a1 e1 p2).2.1]) (S' := ((t, arow 57 b n c (partition ltInt d4 a1 e1 p2).2.2) :: S)) rfl (fun w_ s_ => partition_calls hP4.1 hn a1 e1 p2 oM oM oM w_ s_) ?_)
   obtain ⟨q1, q2, q3, q4, q5, q6, q7⟩ := round_part swo_ltInt (partition_holds ltInt) (d3 := d4) (a := a1) (b := e1) (pivot := p2) (mid := (partition ltInt d4 a1 e1 p2).1) (ap := (partition ltInt d4 a1 e1 p2).2.1) (d4 := (partition ltInt d4 a1 e1 p2).2.2) oM oM oM hB4 rfl
   generalize (partition ltInt d4 a1 e1 p2).1 = mid at *
   generalize (partition ltInt d4 a1 e1 p2).2.1 = ap at *
   generalize (partition ltInt d4 a1 e1 p2).2.2 = d5 at *
   refine g30 ?_
   refine g9 ?_
   refine GC_cond rfl (fun hc1 => ?_) (fun hc2 => ?_)
   ·refine g14 ?_
    have ih2 := ih (mid - (a1)) oM (d := d5) (q3.trans hP4.1) (a1) (mid) lk2 (Nat.le_refl _) oM oM hl2 q4
    refine gL (at_call_ex (ι := Array Int) (fun _ => .tuple #[]) (fun x => PermIn (a1) (mid) d5 x ∧ SortedIn ltInt (a1) (mid) x) (fun x => ((t, arow 57 b n c x) :: S)) rfl ih2 (fun L ⟨hL1, hL2⟩ => ?_))
    refine g8 ?_
    refine GE_back ⟨mid + 1, e1, lk2, decide (((e1 : Int) - a1) / 8 ≤ (mid : Int) - a1), ap, L⟩ sO ⟨by omega, hL1.1.trans (q3.trans hP4.1), (q6 L hL1 hL2).1, fun R h1 h2 => by have h3 := (q6 L hL1 hL2).2 R h1 h2; exact hC R (permIn_trans _ _ _ _ _ hP4.2 h3.1) h3.2⟩ kno (fun w s => by exact s)
   ·refine g15 ?_
    have ih2 := ih (e1 - (mid + 1)) oM (d := d5) (q3.trans hP4.1) (mid + 1) (e1) lk2 (Nat.le_refl _) oM oM hl2 q5
    rw [show ((mid + 1 : Nat) : Int) = (mid : Int) + 1 by omega] at ih2
    refine gL (at_call_ex (ι := Array Int) (fun _ => .tuple #[]) (fun x => PermIn (mid + 1) (e1) d5 x ∧ SortedIn ltInt (mid + 1) (e1) x) (fun x => ((t, arow 57 b n c x) :: S)) rfl ih2 (fun L ⟨hL1, hL2⟩ => ?_))
    refine g7 ?_
    refine GE_back ⟨a1, mid, lk2, decide (((e1 : Int) - a1) / 8 ≤ (e1 : Int) - mid), ap, L⟩ sO ⟨by omega, hL1.1.trans (q3.trans hP4.1), (q7 L hL1 hL2).1, fun R h1 h2 => by have h3 := (q7 L hL1 hL2).2 R h1 h2; exact hC R (permIn_trans _ _ _ _ _ hP4.2 h3.1) h3.2⟩ kno (fun w s => by exact s)
theorem tslen_calls (p : Option Addr) (n c : Nat) (w : World) : Calls Go.Proofs.Tryz.prog 174 #[.slice p n c] w fun e w' => e = .returned (iV n) ∧ Below w.heap.size w w' := by
 refine calls_GC (args := [.slice p n c]) (L := [(0, .slice p n c)]) (N := 5) Tryz.func174 rfl rfl ble rfl (Sees.start (fun _ => False) w) ?_
 refine g13 ?_
 exact GE_ret1 (.inl rfl) rfl (res_tmp rfl) fun w_ s_ => ⟨rfl, s_.toBelow⟩
theorem sort_calls {t : Nat} {ts : List Int} {p : Option Addr} {c : Nat} (ht : t < 60) (hn : ts.length ≤ 1000000000) (hlim : Lim 60 B H S) (hrow : lkp t S = some ⟨.slice p ts.length c, 57, 2, ts.length, tcells ts⟩) : ∀ w, Sees F w0 B H S w → Calls Go.Proofs.Tryz.prog 77 #[.iface 122 (.slice p ts.length c)] w fun e w' => e = .returned (.tuple #[]) ∧ Sees F w0 B H ((t, ⟨.slice p ts.length c, 57, 2, ts.length, tcells (sortI ts)⟩) :: S) w' := by
 intro w s
 refine calls_GC (args := [.iface 122 (.slice p ts.length c)]) (L := [(0, .iface 122 (.slice p ts.length c))]) (N := 15) Tryz.func77 rfl rfl ble rfl s ?_
 refine g3 ?_
 refine gL (at_invoke_v (v := iV (ts.length : Int)) (rv := .slice p ts.length c) (f := 174) dE rfl (fun w => by kernel_rfl) kR rfl (fun w_ s_ => tslen_calls _ _ _ w_) ?_)
 refine g10 ?_
 refine GC_cond rfl (fun hc1 => ?_) (fun hc2 => ?_)
 ·have h1 : ts.length ≤ 1 := by have := of_decide_eq_true hc1; omega
  have hst : sortI ts = ts := by
   match ts, h1 with
   | [], _ => unfold sortI; simp
   | [x], _ => unfold sortI; simp
  refine g2 ?_
  exact GE_ret0 (.inl rfl) rfl fun w_ s_ => ⟨rfl, by rw [hst]; exact s_.rowTo hrow⟩
 ·have h1 : ¬ ts.length ≤ 1 := by have := of_decide_eq_false hc2; omega
  refine GC_have (fun w s => s.head t hrow oM) fun hh => ?_
  obtain ⟨b, rfl, hcap⟩ := hh
  have hbl := bitLen_bd (n := ts.length) oM oM
  refine g5 ?_
  refine rl ((rd_convert rfl kR kR).to (congrArg (Value.int .u64) (wrap_u64 oM))) ?_
  refine gL (cvo (v := iV (Lib.bitLen ts.length)) rfl (fun w_ s_ => (bitsLen_calls _ oM oM w_).mono fun e_ w2_ h_ => ⟨h_.1.trans (congrArg Ending.returned rfl), h_.2⟩) ?_)
  refine g7 ?_
  refine GL_to (S' := (t, arow 57 b ts.length c ts.toArray) :: S) (fun a k => k) (fun w s => (s.rowTo hrow).to (fun _ _ h => h) (fun k o v ho h => ⟨h, by obtain ⟨b, e, _⟩ := s.cells k o v ho h; rw [e]; rfl⟩) (fun _ _ h => h)) ?_
  refine gL (at_call_ex (ι := Array Int) (fun _ => .tuple #[]) (fun x => PermIn 0 ts.length ts.toArray x ∧ SortedIn ltInt 0 ts.length x) (fun x => (t, arow 57 b ts.length c x) :: S) rfl (fun w_ s_ => pdq_calls hn hlim ht _ (d := ts.toArray) (by simp) 0 ts.length (Lib.bitLen ts.length) (Nat.le_refl _) oM (Nat.le_refl _) oM (.inl rfl) w_ s_) (fun x ⟨hx1, hx2⟩ => ?_))
  refine g1 ?_
  have hs := sort_end (d := ts.toArray) (d' := x) (by simpa using hx1) (by simpa using hx2)
  refine GE_ret0 (.inr rfl) rfl fun w_ s_ => ⟨rfl, ?_⟩
  have e1 : sortI ts = x.toList := by rw [hs]; rfl
  rw [e1]
  exact s_
end
end Go.Proofs.YtdbbifbmkfmbkaaGreat
namespace Go.Proofs.YtdbbifbmkfmbkaaGreat
open Go.RowKit Go.Fr
section
variable {F : Nat → Prop} {w0 : World} {B : List (Nat × Nat)} {H : List (Nat × Value)} {S : List (Nat × Slc)}
section
variable {P : Program} {Q : Exit → Act → World → Prop} {K : Act → World → Prop} {N d : Nat} {L : Fr.Loc} {v : Value} {ty : TypeId} {pos : String} {aft : Array Edge} {f : FuncId} {asl : List Operand} {ats : Array TypeId} {args : List Value}
theorem cbx {ι : Type} (V : ι → Value) (Pr : ι → Prop) (ha : Fr.evs L asl = some args) (hc : ∀ w, Sees F w0 B H S w → Calls P f args.toArray w fun e w' => ∃ x, Pr x ∧ e = .returned (V x) ∧ Below w.heap.size w w') (hn : ∀ x, Pr x → GK K N ((d, V x) :: L) F w0 B H S) (hd : d < N := by decide) (hf : enterB P f = true := by kernel_rfl) :
  GO P ⟨some d, .call ⟨.value (.func f), asl.toArray, ats⟩, ty, pos, aft, none⟩ Q K N L F w0 B H S :=
 at_call V Pr (fun _ => B) (fun _ => H) (fun _ => S) hd hf ha (fun w s => (hc w s).mono fun e w' ⟨x, h1, h2, h3⟩ => ⟨x, h1, h2, s.below h3⟩) hn
theorem crx {ι : Type} (k : Nat) (V : ι → Value) (Pr : ι → Prop) (q : ι → Slc) (ha : Fr.evs L asl = some args) (hc : ∀ w, Sees F w0 B H S w → Calls P f args.toArray w fun e w' => ∃ x, Pr x ∧ e = .returned (V x) ∧ NewRow w w' (q x).v (q x).e (q x).sz (q x).n (q x).xs) (hn : ∀ x, Pr x → GK K N ((d, V x) :: L) F w0 B H ((k, q x) :: S)) (hd : d < N := by decide) (hf : enterB P f = true := by kernel_rfl) :
  GO P ⟨some d, .call ⟨.value (.func f), asl.toArray, ats⟩, ty, pos, aft, none⟩ Q K N L F w0 B H S :=
 at_call V Pr (fun _ => B) (fun _ => H) (fun x => (k, q x) :: S) hd hf ha (fun w s => (hc w s).mono fun e w' ⟨x, h1, h2, h3⟩ => ⟨x, h1, h2, s.newRow h3 k⟩) hn
end
section
variable {P : Program} {N d : Nat} {L : Fr.Loc} {v : Value} {ty : TypeId} {pos : String} {aft : Array Edge} {g : Option (Nat × Bool)}
theorem rd_bin {op : BinOp} {xt yt : TypeId} {x y : Operand} {vx vy : Value} (hx : ev L x = some vx) (hy : ev L y = some vy) (hb : ∀ w : World, (do eqGuard op xt x y vx vy; binOp op xt vx vy : Sem Value).run P w = .ok v w) : Rd P ⟨some d, .binOp op xt x y yt, ty, pos, aft, g⟩ N L F w0 B H S v := fun a w k s => by
 have := hb w
 rw [Sem.run_bind] at this
 simp only [execOp, k.eval hx, k.eval hy, Sem.run_bind, this, Result.andThen_ok, Sem.run_pure]
end
theorem ints_see {w : World} {v : Value} {xs : List Int} (s : Sees (fun _ => False) w0 B H S w) (h : Ints w0 v xs) : Ints w v xs := by
 obtain ⟨p, c, rfl, hc⟩ := h
 exact ⟨p, c, rfl, fun i x hx => by
  obtain ⟨b, o, e, h1⟩ := hc i x hx
  exact ⟨b, o, e, s.old_cell h1 (fun h => h)⟩⟩
theorem prs_see {w : World} {v : Value} {ps : List (Int × Int)} (s : Sees (fun _ => False) w0 B H S w) (h : Prs w0 v ps) : Prs w v ps := by
 obtain ⟨p, c, rfl, hc⟩ := h
 exact ⟨p, c, rfl, fun i x hx => by
  obtain ⟨b, o, e, h1, h2⟩ := hc i x hx
  exact ⟨b, o, e, s.old_cell h1 (fun h => h), s.old_cell h2 (fun h => h)⟩⟩
theorem Lim.seqH {m : Nat} {B0 : List (Nat × Nat)} {S0 : List (Nat × Slc)} {k : Nat} (hk : k < m) : ∀ (cs : List Value) (o : Nat) {H0 : List (Nat × Value)}, o + cs.length ≤ 4096 → Lim m B0 H0 S0 → Lim m B0 (putSeq k o cs H0) S0
 | [], _, _, _, h => h
 | v :: r, o, H0, ho, h => by
  simp only [List.length_cons] at ho
  show Lim m B0 (putSeq k (o + 1) r ((ky k o, v) :: H0)) S0
  exact Lim.seqH hk r (o + 1) oM (Lim.consH h hk oM)
end
end Go.Proofs.YtdbbifbmkfmbkaaGreat
namespace Go.Proofs.YtdbbifbmkfmbkaaGreat
open Go.RowKit Go.Fr Go.Tab
section
variable {F : Nat → Prop} {w0 : World} {B : List (Nat × Nat)} {H : List (Nat × Value)} {S : List (Nat × Slc)}
open Go.Md
theorem tEqual_calls (a b : Int) (w : World) : Calls Go.Proofs.Tryz.prog 137 #[.agg #[iV (a), iV 0], .agg #[iV (b), iV 0]] w fun e w' => e = .returned (.bool (a == b)) ∧ Below w.heap.size w w' := by
 refine calls_GC (args := [.agg #[iV (a), iV 0], .agg #[iV (b), iV 0]]) (L := [(0, .agg #[iV (a), iV 0]), (1, .agg #[iV (b), iV 0])]) (N := 8) Tryz.func137 rfl rfl ble rfl (Sees.start (fun _ => False) w) ?_
 refine g2 ?_
 refine gL (at_box 50 (cs := [iV (a), iV 0]) dE rfl rfl rfl (fun o ho => by repeat (first | rfl | rw [lkp_put_ne dE ho _ _ ble])) ble (fun b1 hb1 => ?_))
 refine gL (at_box 51 (cs := [iV (b), iV 0]) dE rfl rfl rfl (fun o ho => by repeat (first | rfl | rw [lkp_put_ne dE ho _ _ ble])) ble (fun b2 hb2 => ?_))
 refine g5 ?_
 refine rl (rd_load2 50 rfl rfl rfl rfl kR dE) ?_
 refine rl (rd_load2 51 rfl rfl rfl rfl kR dE) ?_
 refine rl ((rd_eq2 rfl rfl).to (v' := .bool (a == b)) (congrArg Value.bool (by simp))) ?_
 refine g4 ?_
 exact GE_ret1 (.inl rfl) rfl (res_tmp rfl) fun w_ s_ => ⟨rfl, s_.toBelow⟩
theorem timeContains_calls (ts : List Int) (t : Int) (p : Option Addr) (c : Nat) (hl : ts.length ≤ 1000000000) (w : World) (hI : Prs w (.slice p ts.length c) (ts.map fun t => (t, (0 : Int)))) : Calls Go.Proofs.Tryz.prog 119 #[.slice p ts.length c, .agg #[iV (t), iV 0]] w fun e w' => e = .returned (.bool (ts.any (· == t))) ∧ Below w.heap.size w w' := by
 have hT : ∀ i y, ts[i]? = some y → ∃ b o, p = some ⟨b, o, none⟩ ∧ w.cell? ⟨b, o + 2 * i, none⟩ = some (iV y) ∧ w.cell? ⟨b, o + 2 * i + 1, none⟩ = some (iV 0) := fun i y hy => by
  obtain ⟨p', c', e, hc⟩ := hI
  injection e with e1 _ _
  rw [e1]
  exact hc i (y, 0) (by rw [List.getElem?_map, hy]; rfl)
 refine calls_GC (args := [.slice p ts.length c, .agg #[iV (t), iV 0]]) (L := [(0, .slice p ts.length c), (1, .agg #[iV (t), iV 0])]) (N := 17) Tryz.func119 rfl rfl ble rfl (Sees.start (fun _ => False) w) ?_
 refine g2 ?_
 refine gL (at_box 50 (cs := [iV (t), iV 0]) dE rfl rfl rfl (fun o ho => by repeat (first | rfl | rw [lkp_put_ne dE ho _ _ ble])) ble (fun b1 hb1 => ?_))
 refine g12 ?_
 refine GC_loop (ι := (Nat)) (fun k => ts.length - k) (fun k => (k ≤ ts.length) ∧ ((ts.take k).any (· == t) = false)) (fun k => [(3, pT b1), (7, .slice p ts.length c), (8, iV (ts.length)), (9, iV k)]) (fun k => [(50, b1)]) (fun k => (putKeys 50 0 [iV (t), iV 0] ++ [])) (fun k => []) 0 ⟨Nat.zero_le _, rfl⟩ kns (fun w s => by exact s) ?_
 rintro k ⟨hk, hn⟩
 show GC _ _ _ _ [(3, pT b1), (7, .slice p ts.length c), (8, iV (ts.length)), (9, iV k)] _ _ ([(50, b1)]) ((putKeys 50 0 [iV (t), iV 0] ++ [])) ([])
 refine g6 ?_
 refine GC_cond rfl (fun hc1 => ?_) (fun hc2 => ?_)
 ·have hlt : k < ts.length := by have := of_decide_eq_true hc1; omega
  obtain ⟨y, hy⟩ : ∃ y, ts[k]? = some y := ⟨_, List.getElem?_eq_getElem hlt⟩
  obtain ⟨b_, o_, rfl, hca, hcb⟩ := hT k y hy
  refine g6 ?_
  refine rl (rd_indexAddr (e := 57) (n := 2) kR rfl rfl oM oM) ?_
  refine rl (rd_load2_old rfl (by rw [← hca]; congr 2; omega) (by rw [← hcb]; congr 2; omega) (fun h => h) kR) ?_
  refine gL (at_alloc 51 (cs := [iV 0, iV 0]) dE kR rfl (fun o ho => by repeat (first | rfl | rw [lkp_put_ne dE ho _ _ ble])) ble (fun b2 hb2 => ?_))
  refine gL (sta 51 rfl rfl rfl rfl ?_)
  refine g4 ?_
  refine rl (rd_load2 51 rfl rfl rfl rfl kR dE) ?_
  refine rl (rd_load2 50 rfl rfl rfl rfl kR dE) ?_
  refine gL (cvo rfl (fun w_ s_ => tEqual_calls _ _ w_) ?_)
  refine g2 ?_
  refine GC_cond rfl (fun hc1 => ?_) (fun hc2 => ?_)
  ·have hF : ts.any (· == t) = true := List.any_eq_true.2 ⟨y, List.mem_of_getElem? hy, hc1⟩
   refine g11 ?_
   exact GE_ret1 (.inl rfl) rfl (res_tmp rfl) fun w_ s_ => ⟨by rw [hF], s_.toBelow⟩
  ·have hne : (y == t) = false := hc2
   refine g7 ?_
   refine GE_back (k + 1) oM ⟨by omega, by rw [List.take_add_one, hy, List.any_append, hn]; simpa using hc2⟩ kns (fun w s => by exact (s.low 51 limx agx agx agx))
 ·obtain rfl : k = ts.length := by have := of_decide_eq_false hc2; omega
  rw [List.take_length] at hn
  have hF : ts.any (· == t) = false := hn
  refine g11 ?_
  exact GE_ret1 (.inl rfl) rfl (res_tmp rfl) fun w_ s_ => ⟨by rw [hF], s_.toBelow⟩
end
end Go.Proofs.YtdbbifbmkfmbkaaGreat
namespace Go.Proofs.YtdbbifbmkfmbkaaGreat
open Go.RowKit Go.Fr Go.Tab
section
variable {F : Nat → Prop} {w0 : World} {B : List (Nat × Nat)} {H : List (Nat × Value)} {S : List (Nat × Slc)}
theorem errNew_calls (st : ByteArray) (w : World) : Calls Go.Proofs.Tryz.prog 65 #[.string st] w fun e w' => ∃ b : Nat, True ∧ e = .returned (.iface 139 (pT b)) ∧ Below w.heap.size w w' := by
 refine calls_GC (args := [.string st]) (L := [(0, .string st)]) (N := 7) Tryz.func65 rfl rfl ble rfl (Sees.start (fun _ => False) w) ?_
 refine g8 ?_
 refine rl (rd_build (vs := [(0, .string st)]) (v := .agg #[.string st]) rfl (fun w => by kernel_rfl)) ?_
 refine gL (at_box 50 (cs := [.string st]) dE rfl rfl rfl (fun o ho => rfl) ble (fun b1 hb1 => ?_))
 refine rl (rd_makeInterface (r := .iface 139 (pT b1)) rfl (fun w => by kernel_rfl)) ?_
 refine g4 ?_
 exact GE_ret1 (.inl rfl) rfl (res_tmp rfl) fun w_ s_ => ⟨_, trivial, rfl, s_.toBelow⟩
def subAt (xs : List Int) (i : Int) : Option Int := let j := if i < 0 then i + xs.length else i; if j < 0 ∨ (xs.length : Int) ≤ j then none else xs[j.toNat]?
theorem pySub_calls (xs : List Int) (i : Int) (p : Option Addr) (c : Nat) (hl : xs.length ≤ 1000000000) (hi : -1000000000000 ≤ i ∧ i ≤ 1000000000000) (w : World) (hI0 : Ints w (.slice p xs.length c) xs) : Calls Go.Proofs.Tryz.prog 116 #[.slice p xs.length c, iV i] w fun e w' => ∃ y : Int × Value, (subAt xs i = some y.1 ∧ y.2 = .nilIface ∨ subAt xs i = none ∧ ∃ b, y.2 = .iface 139 (pT b)) ∧ e = .returned (.tuple #[iV y.1, y.2]) ∧ Below w.heap.size w w' := by
 have hI : ∀ i x, xs[i]? = some x → ∃ b o, p = some ⟨b, o, none⟩ ∧ w.cell? ⟨b, o + i, none⟩ = some (iV x) := by
  obtain ⟨p', c', e, hc⟩ := hI0
  injection e with e1 _ _
  subst e1
  exact hc
 refine calls_GC (args := [.slice p xs.length c, iV i]) (L := [(0, .slice p xs.length c), (1, iV i)]) (N := 25) Tryz.func116 rfl rfl ble rfl (Sees.start (fun _ => False) w) ?_
 refine g6 ?_
 refine GC_cut (ι := (Int)) (fun j => (j = if i < 0 then i + xs.length else i)) (fun j => [(0, .slice p xs.length c), (1, iV j)]) (fun j => []) (fun j => []) (fun j => []) ?_ ?_
 ·refine g6 ?_
  refine GC_cond rfl (fun hc1 => ?_) (fun hc2 => ?_)
  ·have h0 : i < 0 := of_decide_eq_true hc1
   refine g7 ?_
   refine GE_meet (ι := Int) (i + xs.length) (by rw [if_pos h0]) kno (fun w s => s)
  ·have h0 : ¬ i < 0 := of_decide_eq_false hc2
   refine g1 ?_
   refine GE_meet (ι := Int) (i) (by rw [if_neg h0]) kno (fun w s => s)
 rintro j hj
 show GC _ _ _ _ [(0, .slice p xs.length c), (1, iV j)] _ _ ([]) ([]) ([])
 have hjb : -1000000000000 ≤ j ∧ j ≤ 1000000000000 := by rw [hj]; split <;> omega
 refine g4 ?_
 rcases Decidable.em (j < 0) with h0 | h0
 ·have hF : subAt xs i = none := by unfold subAt; rw [← hj]; exact if_pos (.inl h0)
  refine rl ((rd_lss rfl rfl).to bT) ?_
  refine g8 ?_
  refine GC_is_true rfl rfl ?_
  refine g2 ?_
  refine gL (cbx (fun b : Nat => .iface 139 (pT b)) (fun _ => True) rfl (fun w_ s_ => errNew_calls _ w_) (fun eb _ => ?_))
  refine g6 ?_
  exact GE_ret2 (.inl rfl) rfl (res_tmp rfl) (res_tmp rfl) fun w_ s_ => ⟨(_, _), (by first | exact .inl ⟨hF, rfl⟩ | exact .inr ⟨hF, _, rfl⟩), rfl, s_.toBelow⟩
 ·refine rl ((rd_lss rfl rfl).to bF) ?_
  refine g8 ?_
  rcases Decidable.em ((xs.length : Int) ≤ j) with h1 | h1
  ·have hF : subAt xs i = none := by unfold subAt; rw [← hj]; exact if_pos (.inr h1)
   refine rl ((rd_geq rfl rfl).to bT) ?_
   refine g3 ?_
   refine GC_is_true rfl rfl ?_
   refine g2 ?_
   refine gL (cbx (fun b : Nat => .iface 139 (pT b)) (fun _ => True) rfl (fun w_ s_ => errNew_calls _ w_) (fun eb _ => ?_))
   refine g6 ?_
   exact GE_ret2 (.inl rfl) rfl (res_tmp rfl) (res_tmp rfl) fun w_ s_ => ⟨(_, _), (by first | exact .inl ⟨hF, rfl⟩ | exact .inr ⟨hF, _, rfl⟩), rfl, s_.toBelow⟩
  ·refine rl ((rd_geq rfl rfl).to bF) ?_
   refine g3 ?_
   refine GC_is_false rfl rfl ?_
   refine g6 ?_
   obtain ⟨y, hy⟩ : ∃ y, xs[j.toNat]? = some y := ⟨_, List.getElem?_eq_getElem (show j.toNat < xs.length by omega)⟩
   obtain ⟨b_, o_, rfl, hcell⟩ := hI _ y hy
   have hF : subAt xs i = some y := by unfold subAt; rw [← hj]; exact (if_neg oM).trans hy
   refine rl (rd_indexAddr (e := 3) (n := 1) kR rfl rfl oM oM) ?_
   refine rl (rd_load_old rfl (v := iV y) (by rw [← hcell]; congr 2; omega) (fun h => h) kR) ?_
   refine g5 ?_
   exact GE_ret2 (.inl rfl) rfl (res_tmp rfl) (res_tmp rfl) fun w_ s_ => ⟨(_, _), (by first | exact .inl ⟨hF, rfl⟩ | exact .inr ⟨hF, _, rfl⟩), rfl, s_.toBelow⟩
end
end Go.Proofs.YtdbbifbmkfmbkaaGreat
namespace Go.Flt
open Ieee
theorem core {a b P T q kept : Nat} (hb : 0 < b) (hT : T = 4 ∨ T = 8) (hP : 2 * b < P) (hq : q * b = a * (P * T) ∨ (q % 2 = 1 ∧ (q - 1) * b < a * (P * T) ∧ a * (P * T) < (q + 1) * b)) (hk : kept = q / T ∨ (kept = q / T + 1 ∧ q % T ≠ 0)) :
  kept / P = a / b ∧ (kept % P = 0 ↔ a % b = 0) := by
 have hT0 : 0 < T := by omega
 have hP0 : 0 < P := by omega
 have ha := Nat.div_add_mod a b
 have hqT := Nat.div_add_mod q T
 have hqm := Nat.mod_lt q hT0
 have hR := Nat.mod_lt a hb
 generalize hQ : a / b = Q at *
 generalize hr : a % b = R at *
 have hQb : a * (P * T) = Q * P * T * b + R * P * T := by
  rw [← ha, Nat.add_mul, Nat.mul_comm b Q, Nat.mul_assoc Q b, Nat.mul_comm b (P * T), ← Nat.mul_assoc, ← Nat.mul_assoc, ← Nat.mul_assoc]
 by_cases h0 : R = 0
 ·have hE : a * (P * T) = Q * P * T * b := by rw [hQb, h0]; simp
  have hqe : q = Q * P * T := by
   rcases hq with h | ⟨h1, h2, h3⟩
   ·rw [hE] at h; exact Nat.eq_of_mul_eq_mul_right hb h
   ·exfalso
    rw [hE] at h2 h3
    have h4 : q - 1 < Q * P * T := Nat.lt_of_mul_lt_mul_right h2
    have h5 : Q * P * T < q + 1 := Nat.lt_of_mul_lt_mul_right h3
    have h6 : Q * P * T = q := by omega
    have h7 : (Q * P * T) % 2 = 0 := by rcases hT with rfl | rfl <;> omega
    omega
  have hkk : kept = Q * P := by
   have h1 : q / T = Q * P := by rw [hqe]; exact Nat.mul_div_cancel _ hT0
   have h2 : q % T = 0 := by rw [hqe]; exact Nat.mul_mod_left _ _
   rcases hk with h | ⟨h, h3⟩
   ·rw [h, h1]
   ·exact absurd h2 h3
  rw [hkk]
  exact ⟨Nat.mul_div_cancel _ hP0, fun _ => h0, fun _ => Nat.mul_mod_left _ _⟩
 ·have hR1 : 1 ≤ R := by omega
  have hlo : a * (P * T) ≤ q * b + b := by
   rcases hq with h | ⟨_, _, h⟩
   ·omega
   ·rw [Nat.add_mul, Nat.one_mul] at h; omega
  have hhi : q * b ≤ a * (P * T) + b := by
   rcases hq with h | ⟨h1, h, _⟩
   ·omega
   ·rw [Nat.sub_mul, Nat.one_mul] at h; omega
  have hk1 : q ≤ kept * T + T := by
   have h1 : T * (q / T) ≤ T * kept := Nat.mul_le_mul_left _ (by rcases hk with h | ⟨h, _⟩ <;> omega)
   rw [Nat.mul_comm T kept] at h1
   omega
  have hk2 : kept * T ≤ q + T := by
   have h1 : T * kept ≤ T * (q / T + 1) := Nat.mul_le_mul_left _ (by rcases hk with h | ⟨h, _⟩ <;> omega)
   rw [Nat.mul_comm T kept, Nat.mul_add, Nat.mul_one] at h1
   omega
  have hbT : b + T * b < P * T := by
   have h1 : (2 * b + 1) * T ≤ P * T := Nat.mul_le_mul_right _ oM
   rw [Nat.add_mul, Nat.mul_assoc, Nat.mul_comm b T] at h1
   have h2 : b * 1 ≤ b * T := Nat.mul_le_mul_left _ oM
   rw [Nat.mul_comm b T] at h2
   omega
  have k1 : q * b ≤ kept * T * b + T * b := by rw [← Nat.add_mul]; exact Nat.mul_le_mul_right _ hk1
  have k2 : kept * T * b ≤ q * b + T * b := by rw [← Nat.add_mul]; exact Nat.mul_le_mul_right _ hk2
  have hRP : P * T ≤ R * P * T := by
   have : 1 * (P * T) ≤ R * (P * T) := Nat.mul_le_mul_right _ hR1
   rw [Nat.one_mul, ← Nat.mul_assoc] at this; exact this
  have low : Q * P < kept := by
   have h1 : Q * P * T * b < kept * T * b := by omega
   have h2 := Nat.lt_of_mul_lt_mul_right h1
   exact Nat.lt_of_mul_lt_mul_right h2
  have hRb : R * P * T + P * T ≤ P * T * b := by
   have : (R + 1) * (P * T) ≤ b * (P * T) := Nat.mul_le_mul_right _ oM
   rw [Nat.add_mul, Nat.one_mul, ← Nat.mul_assoc, Nat.mul_comm b] at this; exact this
  have high : kept < Q * P + P := by
   have h1 : kept * T * b < Q * P * T * b + P * T * b := by omega
   rw [← Nat.add_mul, ← Nat.add_mul] at h1
   have h2 := Nat.lt_of_mul_lt_mul_right h1
   exact Nat.lt_of_mul_lt_mul_right h2
  have e1 : kept / P = Q := Nat.div_eq_of_lt_le oM (by rw [Nat.add_mul, Nat.one_mul]; exact high)
  have e2 := Nat.div_add_mod kept P
  rw [e1, Nat.mul_comm P Q] at e2
  exact ⟨e1, fun h => by omega, fun h => absurd h h0⟩
theorem binade_ : double.binade = 2 ^ 52 := rfl
theorem least_ : double.leastPlace = -1074 := by decide
theorem inf_ : double.infRung = 2047 * 2 ^ 52 := rfl
theorem sign_ : double.signWeight = 2 ^ 63 := rfl
theorem read_word {s : Bool} {r : Nat} (h1 : 2 ^ 52 ≤ r) (h2 : r < 2047 * 2 ^ 52) : double.read (double.word s r) = .number s (2 ^ 52 + r % 2 ^ 52) (-1074 + (r / 2 ^ 52 - 1 : Nat)) := by
 have e1 : double.word s r % double.signWeight = r := by
  unfold Format.word; rw [sign_]
  cases s
  ·show r % 2 ^ 63 = r; exact Nat.mod_eq_of_lt oM
  ·show (2 ^ 63 + r) % 2 ^ 63 = r; omega
 have e2 : (double.word s r / double.signWeight % 2 == 1) = s := by
  unfold Format.word; rw [sign_]
  cases s
  ·show (r / 2 ^ 63 % 2 == 1) = false; rw [Nat.div_eq_of_lt oM]; rfl
  ·show ((2 ^ 63 + r) / 2 ^ 63 % 2 == 1) = true; rw [show (2 ^ 63 + r) / 2 ^ 63 = 1 by omega]; rfl
 unfold Format.read
 simp only [e1, e2, binade_, inf_, least_]
 rw [if_neg oM, if_pos h2]
theorem read_zero (s : Bool) : double.read (double.word s 0) = .number s 0 (-1074) := by
 have e1 : double.word s 0 % double.signWeight = 0 := by
  unfold Format.word; rw [sign_]
  cases s
  ·show 0 % 2 ^ 63 = 0; omega
  ·show (2 ^ 63 + 0) % 2 ^ 63 = 0; omega
 have e2 : (double.word s 0 / double.signWeight % 2 == 1) = s := by
  unfold Format.word; rw [sign_]
  cases s
  ·show (0 / 2 ^ 63 % 2 == 1) = false; rw [Nat.zero_div]; rfl
  ·show ((2 ^ 63 + 0) / 2 ^ 63 % 2 == 1) = true; rw [show (2 ^ 63 + 0) / 2 ^ 63 = 1 by omega]; rfl
 unfold Format.read
 simp only [e1, e2, binade_, inf_, least_]
 exact if_pos (Nat.pow_pos dE)
theorem read_at {s : Bool} {e k : Nat} (he : e ≤ 2000) (h1 : 2 ^ 52 ≤ k) (h2 : k < 2 ^ 53) : double.read (double.word s (e * 2 ^ 52 + k)) = .number s k ((e : Int) - 1074) := by
 rw [read_word oM oM]
 have e1 : (e * 2 ^ 52 + k) / 2 ^ 52 = e + 1 := by omega
 have e2 : (e * 2 ^ 52 + k) % 2 ^ 52 = k - 2 ^ 52 := by omega
 have e3 : 2 ^ 52 + (k - 2 ^ 52) = k := by omega
 have e4 : -1074 + ((e + 1 - 1 : Nat) : Int) = (e : Int) - 1074 := by omega
 rw [e1, e2, e3, e4]
theorem read_top {s : Bool} {e : Nat} (he : e ≤ 2000) : double.read (double.word s (e * 2 ^ 52 + 2 ^ 53)) = .number s (2 ^ 52) ((e : Int) + 1 - 1074) := by
 rw [read_word oM oM]
 have e1 : (e * 2 ^ 52 + 2 ^ 53) / 2 ^ 52 = e + 2 := by omega
 have e2 : (e * 2 ^ 52 + 2 ^ 53) % 2 ^ 52 = 0 := by omega
 have e4 : -1074 + ((e + 2 - 1 : Nat) : Int) = (e : Int) + 1 - 1074 := by omega
 rw [e1, e2, e4, Nat.add_zero]
theorem cut_even (s : Bool) (n d : Nat) (hd : d ≤ n.log2 + 2) : ∃ k, Toward.even.cut s n d = k ∧ (k = n / 2 ^ d ∨ (k = n / 2 ^ d + 1 ∧ n % 2 ^ d ≠ 0)) := by
 refine ⟨_, rfl, ?_⟩
 unfold Toward.cut
 simp only [Nat.min_eq_left hd, Nat.one_shiftLeft]
 cases hm : (decide (2 ^ d < 2 * (n % 2 ^ d)) || 2 ^ d == 2 * (n % 2 ^ d) && n / 2 ^ d % 2 == 1) with
 | false => left; rfl
 | true =>
  right
  refine ⟨rfl, fun h => ?_⟩
  rw [h] at hm
  have hp : 0 < 2 ^ d := Nat.pow_pos dE
  simp at hm
theorem cut_down (s : Bool) (n d : Nat) : Toward.down.cut s n d = n / 2 ^ d + (s && n % 2 ^ d != 0).toNat := by
 unfold Toward.cut
 simp only [Nat.one_shiftLeft]
 rcases Nat.le_total d (n.log2 + 2) with h | h
 ·rw [Nat.min_eq_left h]
 ·rw [Nat.min_eq_right h]
  have h1 : n < 2 ^ (n.log2 + 2) := Nat.lt_of_lt_of_le Nat.lt_log2_self (Nat.pow_le_pow_right dE oM)
  have h2 : n < 2 ^ d := Nat.lt_of_lt_of_le h1 (Nat.pow_le_pow_right dE h)
  rw [Nat.div_eq_of_lt h1, Nat.div_eq_of_lt h2, Nat.mod_eq_of_lt h1, Nat.mod_eq_of_lt h2]
theorem cut_zero (s : Bool) (n d : Nat) : Toward.zero.cut s n d = n / 2 ^ d := by
 unfold Toward.cut
 simp only [Nat.one_shiftLeft]
 rcases Nat.le_total d (n.log2 + 2) with h | h
 ·rw [Nat.min_eq_left h]; rfl
 ·rw [Nat.min_eq_right h]
  have h1 : n < 2 ^ (n.log2 + 2) := Nat.lt_of_lt_of_le Nat.lt_log2_self (Nat.pow_le_pow_right dE oM)
  have h2 : n < 2 ^ d := Nat.lt_of_lt_of_le h1 (Nat.pow_le_pow_right dE h)
  rw [Nat.div_eq_of_lt h1, Nat.div_eq_of_lt h2]; rfl
theorem log_of {n l : Nat} (h1 : 2 ^ l ≤ n) (h2 : n < 2 ^ (l + 1)) : n.log2 = l := by
 have h0 : n ≠ 0 := by have : 0 < 2 ^ l := Nat.pow_pos dE; omega
 exact (Nat.log2_eq_iff h0).2 ⟨h1, h2⟩
theorem near_int (s : Bool) {n : Nat} (h0 : 0 < n) (h1 : n < 2 ^ 53) : ∃ l : Nat, l ≤ 52 ∧ 2 ^ l ≤ n ∧ n < 2 ^ (l + 1) ∧ 2 ^ 52 ≤ n * 2 ^ (52 - l) ∧ n * 2 ^ (52 - l) < 2 ^ 53 ∧ double.read (double.nearest s n 0) = .number s (n * 2 ^ (52 - l)) ((l : Int) - 52) := by
 have hn : n ≠ 0 := by omega
 have hl1 : 2 ^ n.log2 ≤ n := Nat.log2_self_le hn
 have hl2 : n < 2 ^ (n.log2 + 1) := Nat.lt_log2_self
 have hl : n.log2 ≤ 52 := by
  rcases Nat.lt_or_ge 52 n.log2 with h | h
  ·have : 2 ^ 53 ≤ 2 ^ n.log2 := Nat.pow_le_pow_right dE h
   omega
  ·exact h
 have k1 : 2 ^ 52 ≤ n * 2 ^ (52 - n.log2) := by
  have : 2 ^ n.log2 * 2 ^ (52 - n.log2) ≤ n * 2 ^ (52 - n.log2) := Nat.mul_le_mul_right _ hl1
  rwa [← Nat.pow_add, show n.log2 + (52 - n.log2) = 52 by omega] at this
 have k2 : n * 2 ^ (52 - n.log2) < 2 ^ 53 := by
  have : n * 2 ^ (52 - n.log2) < 2 ^ (n.log2 + 1) * 2 ^ (52 - n.log2) := Nat.mul_lt_mul_of_pos_right hl2 (Nat.pow_pos dE)
  rwa [← Nat.pow_add, show n.log2 + 1 + (52 - n.log2) = 53 by omega] at this
 refine ⟨n.log2, hl, hl1, hl2, k1, k2, ?_⟩
 have e : double.nearest s n 0 = double.word s ((n.log2 + 1022) * 2 ^ 52 + n * 2 ^ (52 - n.log2)) := by
  unfold Format.nearest
  rw [if_neg hn]
  simp only [least_, binade_, inf_]
  have hlast : max (0 + (n.log2 : Int) - (double.fractionBits : Nat)) (-1074) = (n.log2 : Int) - 52 := by
   show max (0 + (n.log2 : Int) - ((52 : Nat) : Int)) (-1074) = _
   omega
  rw [hlast]
  have s1 : (0 - ((n.log2 : Int) - 52)).toNat = 52 - n.log2 := by omega
  have s2 : ((n.log2 : Int) - 52 - 0).toNat = 0 := by omega
  have s3 : ((n.log2 : Int) - 52 - -1074).toNat = n.log2 + 1022 := by omega
  rw [s1, s2, s3, Nat.shiftLeft_eq]
  obtain ⟨k, hk, hk2⟩ := cut_even s (n * 2 ^ (52 - n.log2)) 0 oM
  have hk3 : k = n * 2 ^ (52 - n.log2) := by
   rcases hk2 with h | ⟨_, h⟩
   ·simpa using h
   ·exact absurd (Nat.mod_one _) h
  rw [hk, hk3, Nat.min_eq_left oM]
 have e4 : ((n.log2 + 1022 : Nat) : Int) - 1074 = (n.log2 : Int) - 52 := by omega
 rw [e, read_at oM k1 k2, e4]
theorem int_back (s : Bool) {n : Nat} (h1 : n < 2 ^ 53) : (double.read (double.nearest s n 0)).toInt .zero = some (if s then -(n : Int) else (n : Int)) := by
 by_cases h0 : n = 0
 ·subst h0
  have e : double.nearest s 0 0 = double.word s 0 := by unfold Format.nearest; rw [if_pos rfl]
  rw [e, read_zero]
  unfold Datum.toInt Datum.integral
  simp only [cut_zero, Nat.zero_shiftLeft, Nat.zero_div]
  cases s <;> rfl
 ·obtain ⟨l, hl, _, _, _, _, e⟩ := near_int s oM h1
  rw [e]
  unfold Datum.toInt Datum.integral
  simp only [cut_zero]
  have e1 : ((l : Int) - 52).toNat = 0 := by omega
  have e2 : (-((l : Int) - 52)).toNat = 52 - l := by omega
  rw [e1, e2, Nat.shiftLeft_eq, Nat.pow_zero, Nat.mul_one, Nat.mul_div_cancel _ (Nat.pow_pos dE)]
  unfold signed
  rw [Nat.shiftLeft_zero]
theorem quo_digits {s : Bool} {M N : Nat} {i j : Int} (hM1 : 2 ^ 52 ≤ M) (hM2 : M < 2 ^ 53) (hN1 : 2 ^ 52 ≤ N) (hN2 : N < 2 ^ 53) : ∃ q, 2 ^ 54 ≤ q ∧ q < 2 ^ 56 ∧ Datum.quotient (double.fractionBits + 2) (.number s M i) (.number false N j) = some (.number s q (i - j - (54 : Nat) - 1)) ∧
  (q * N = 2 * (M * 2 ^ 54) ∨ (q % 2 = 1 ∧ (q - 1) * N < 2 * (M * 2 ^ 54) ∧ 2 * (M * 2 ^ 54) < (q + 1) * N)) := by
 have lM : M.log2 = 52 := log_of hM1 hM2
 have lN : N.log2 = 52 := log_of hN1 hN2
 have hN0 : N ≠ 0 := by omega
 have hd1 := Nat.div_add_mod (M * 2 ^ 54) N
 have hd2 := Nat.mod_lt (M * 2 ^ 54) (Nat.pos_of_ne_zero hN0)
 have hq1 : 2 ^ 53 ≤ M * 2 ^ 54 / N := by
  refine (Nat.le_div_iff_mul_le oM).2 ?_
  omega
 have hq2 : M * 2 ^ 54 / N < 2 ^ 55 := by
  refine (Nat.div_lt_iff_lt_mul oM).2 ?_
  omega
 have eQ : Datum.quotient (double.fractionBits + 2) (.number s M i) (.number false N j) = some (.number s (2 * (M * 2 ^ 54 / N) + (M * 2 ^ 54 % N != 0).toNat) (i - j - (54 : Nat) - 1)) := by
  unfold Datum.quotient
  simp only [if_neg hN0]
  have e54 : double.fractionBits + 2 + N.log2 - M.log2 = 54 := by rw [lM, lN]; rfl
  rw [e54, Nat.shiftLeft_eq, Bool.xor_false]
 generalize M * 2 ^ 54 / N = q0 at *
 generalize M * 2 ^ 54 % N = rr at *
 generalize M * 2 ^ 54 = X at *
 refine ⟨_, ?_, ?_, eQ, ?_⟩
 ·omega
 ·have : (rr != 0).toNat ≤ 1 := Bool.toNat_le _
  omega
 ·by_cases h : rr = 0
  ·left
   subst h
   show (2 * q0 + 0) * N = _
   rw [← hd1, Nat.add_zero, Nat.add_zero, Nat.mul_assoc, Nat.mul_comm q0]
  ·right
   have e : (rr != 0).toNat = 1 := by rw [bne_iff_ne.2 h]; rfl
   rw [e]
   refine ⟨by omega, ?_, ?_⟩
   ·rw [Nat.add_sub_cancel, ← hd1, Nat.mul_assoc, Nat.mul_comm q0]
    omega
   ·rw [show 2 * q0 + 1 + 1 = 2 * (q0 + 1) by omega, ← hd1, Nat.mul_assoc, Nat.add_mul, Nat.one_mul, Nat.mul_comm q0]
    omega
theorem near_q (s : Bool) {q : Nat} (h1 : 2 ^ 54 ≤ q) (h2 : q < 2 ^ 56) {p : Int} (hp : -1000 ≤ p ∧ p ≤ 0) : ∃ d k : Nat, (d = 2 ∨ d = 3) ∧ (k = q / 2 ^ d ∨ (k = q / 2 ^ d + 1 ∧ q % 2 ^ d ≠ 0)) ∧ 2 ^ 52 ≤ k ∧ k ≤ 2 ^ 53 ∧ double.nearest s q p = double.word s ((p + (d : Int) + 1074).toNat * 2 ^ 52 + k) := by
 have hq00 : q ≠ 0 := by omega
 obtain ⟨d, hd, hlq⟩ : ∃ d, (d = 2 ∨ d = 3) ∧ q.log2 = 52 + d := by
  rcases Nat.lt_or_ge q (2 ^ 55) with h | h
  ·exact ⟨2, .inl rfl, log_of h1 h⟩
  ·exact ⟨3, .inr rfl, log_of h h2⟩
 obtain ⟨k, hk, hk2⟩ := cut_even s q d oM
 have hqb1 : 2 ^ (52 + d) ≤ q := by rw [← hlq]; exact Nat.log2_self_le hq00
 have hqb2 : q < 2 ^ (53 + d) := by have := @Nat.lt_log2_self q; rw [hlq] at this; rwa [show 53 + d = 52 + d + 1 by omega]
 have hkb : 2 ^ 52 ≤ k ∧ k ≤ 2 ^ 53 := by
  rcases hd with rfl | rfl <;> rcases hk2 with h | ⟨h, _⟩ <;> omega
 refine ⟨d, k, hd, hk2, hkb.1, hkb.2, ?_⟩
 unfold Format.nearest
 rw [if_neg hq00]
 simp only [least_, binade_, inf_]
 rw [hlq]
 have hlast : max (p + ((52 + d : Nat) : Int) - (double.fractionBits : Nat)) (-1074) = p + d := by
  show max (p + ((52 + d : Nat) : Int) - ((52 : Nat) : Int)) (-1074) = _
  omega
 rw [hlast]
 have s1 : (p - (p + (d : Int))).toNat = 0 := by omega
 have s2 : (p + (d : Int) - p).toNat = d := by omega
 have s3 : (p + (d : Int) - -1074).toNat = (p + (d : Int) + 1074).toNat := by omega
 rw [s1, s2, s3, Nat.shiftLeft_zero, hk, Nat.min_eq_left oM]
theorem fin_down (s : Bool) {a b m L : Nat} {e : Int} (he : e = -(L : Int)) (h1 : m / 2 ^ L = a / b) (h2 : m % 2 ^ L = 0 ↔ a % b = 0) : double.write (Datum.integral .down (.number s m e)) = double.nearest s (a / b + (s && a % b != 0).toNat) 0 := by
 unfold Datum.integral
 simp only [cut_down]
 have e1 : e.toNat = 0 := by omega
 have e2 : (-e).toNat = L := by omega
 rw [e1, e2, Nat.shiftLeft_zero, h1]
 have e3 : (m % 2 ^ L != 0) = (a % b != 0) := by
  by_cases h : a % b = 0
  ·rw [h2.2 h, h]
  ·have h3 : m % 2 ^ L ≠ 0 := fun hh => h (h2.1 hh)
   rw [bne_iff_ne.2 h, bne_iff_ne.2 h3]
 rw [e3]
 rfl
theorem digits_id {a b A Bl d q : Nat} (hA : A ≤ 30) (hB : Bl ≤ 30) (hd : d = 2 ∨ d = 3) (hb0 : 0 < b)
  (hq : q * (b * 2 ^ (52 - Bl)) = 2 * (a * 2 ^ (52 - A) * 2 ^ 54) ∨ (q % 2 = 1 ∧ (q - 1) * (b * 2 ^ (52 - Bl)) < 2 * (a * 2 ^ (52 - A) * 2 ^ 54) ∧ 2 * (a * 2 ^ (52 - A) * 2 ^ 54) < (q + 1) * (b * 2 ^ (52 - Bl)))) :
  q * b = a * (2 ^ (55 - d - A + Bl) * 2 ^ d) ∨ (q % 2 = 1 ∧ (q - 1) * b < a * (2 ^ (55 - d - A + Bl) * 2 ^ d) ∧ a * (2 ^ (55 - d - A + Bl) * 2 ^ d) < (q + 1) * b) := by
 have hPT : 2 ^ (55 - d - A + Bl) * 2 ^ d = 2 ^ (55 - A + Bl) := by rw [← Nat.pow_add]; congr 1; omega
 rw [hPT]
 have hX : 2 * (a * 2 ^ (52 - A) * 2 ^ 54) = a * 2 ^ (55 - A + Bl) * 2 ^ (52 - Bl) := by
  have e1 : 2 * (a * 2 ^ (52 - A) * 2 ^ 54) = a * (2 ^ (52 - A) * 2 ^ 55) := by
   rw [Nat.pow_succ (n := 2) (m := 54)]
   generalize (2 : Nat) ^ 54 = z
   simp only [Nat.mul_assoc, Nat.mul_comm, Nat.mul_left_comm]
  rw [e1, Nat.mul_assoc, ← Nat.pow_add, ← Nat.pow_add]
  congr 2
  omega
 rw [hX] at hq
 have hp : 0 < 2 ^ (52 - Bl) := Nat.pow_pos dE
 generalize (2 : Nat) ^ (52 - Bl) = Z at *
 generalize a * 2 ^ (55 - A + Bl) = Y at *
 simp only [← Nat.mul_assoc] at hq
 rcases hq with h | ⟨h0, h1, h2⟩
 ·exact .inl (Nat.eq_of_mul_eq_mul_right hp h)
 ·exact .inr ⟨h0, Nat.lt_of_mul_lt_mul_right h1, Nat.lt_of_mul_lt_mul_right h2⟩
theorem quot (s : Bool) {a b : Nat} (ha0 : 0 < a) (ha : a < 2 ^ 31) (hb0 : 0 < b) (hb : b < 2 ^ 31) : ∃ r, double.div (double.nearest s a 0) (double.nearest false b 0) = some r ∧ ∃ m e, double.read r = .number s m e ∧ double.write (Datum.integral .down (.number s m e)) = double.nearest s (a / b + (s && a % b != 0).toNat) 0 := by
 obtain ⟨A, hA, hA1, hA2, hM1, hM2, eX⟩ := near_int s ha0 (show a < 2 ^ 53 by omega)
 obtain ⟨Bl, hB, hB1, hB2, hN1, hN2, eY⟩ := near_int false hb0 (show b < 2 ^ 53 by omega)
 have hA31 : A ≤ 30 := by
  rcases Nat.lt_or_ge 30 A with h | h
  ·have : 2 ^ 31 ≤ 2 ^ A := Nat.pow_le_pow_right dE h
   omega
  ·exact h
 have hB31 : Bl ≤ 30 := by
  rcases Nat.lt_or_ge 30 Bl with h | h
  ·have : 2 ^ 31 ≤ 2 ^ Bl := Nat.pow_le_pow_right dE h
   omega
  ·exact h
 obtain ⟨q, hqa, hqb, eQ, hq⟩ := quo_digits (s := s) (i := (A : Int) - 52) (j := (Bl : Int) - 52) hM1 hM2 hN1 hN2
 obtain ⟨d, k, hd, hk, hk1, hk2, eW⟩ := near_q s hqa hqb (p := (A : Int) - 52 - ((Bl : Int) - 52) - (54 : Nat) - 1) oM
 have hid := digits_id (d := d) hA31 hB31 hd hb0 hq
 have hcore := core (a := a) (b := b) (P := 2 ^ (55 - d - A + Bl)) (T := 2 ^ d) (q := q) (kept := k) hb0 (by rcases hd with rfl | rfl <;> decide) (by
   have h1 : 2 ^ 21 * 2 ^ Bl ≤ 2 ^ (55 - d - A + Bl) := by rw [← Nat.pow_add]; exact Nat.pow_le_pow_right dE oM
   have h2 : b < 2 ^ Bl * 2 := by rw [← Nat.pow_succ]; exact hB2
   omega) hid hk
 have ep : ((A : Int) - 52 - ((Bl : Int) - 52) - (54 : Nat) - 1 + (d : Int) + 1074).toNat = A + 1074 + d - 55 - Bl := by omega
 rw [ep] at eW
 have eR : double.div (double.nearest s a 0) (double.nearest false b 0) = some (double.word s ((A + 1074 + d - 55 - Bl) * 2 ^ 52 + k)) := by
  unfold Format.div
  rw [eX, eY, eQ, Option.map_some, ← eW]
  rfl
 refine ⟨_, eR, ?_⟩
 rcases Nat.lt_or_ge k (2 ^ 53) with h | h
 ·rw [read_at oM hk1 h]
  exact ⟨_, _, rfl, fin_down s (L := 55 - d - A + Bl) oM hcore.1 hcore.2⟩
 ·obtain rfl : k = 2 ^ 53 := by omega
  rw [read_top oM]
  have e53 : (2 : Nat) ^ 53 = 2 ^ 52 * 2 := by decide
  have eP : (2 : Nat) ^ (55 - d - A + Bl) = 2 ^ (54 - d - A + Bl) * 2 := by
   rw [← Nat.pow_succ]; congr 1; omega
  refine ⟨_, _, rfl, fin_down s (L := 54 - d - A + Bl) oM ?_ ?_⟩
  ·rw [← hcore.1, eP, e53, Nat.mul_div_mul_right _ _ dE]
  ·rw [← hcore.2, eP, e53, Nat.mul_mod_mul_right]
   omega
theorem quot0 {b : Nat} (hb0 : 0 < b) (hb : b < 2 ^ 31) : double.div (double.nearest (decide ((0 : Int) < 0)) (0 : Int).natAbs 0) (double.nearest false b 0) = some (double.word false 0) := by
 obtain ⟨Bl, hB, hB1, hB2, hN1, hN2, eY⟩ := near_int false hb0 (show b < 2 ^ 53 by omega)
 have e0 : double.nearest (decide ((0 : Int) < 0)) (0 : Int).natAbs 0 = double.word false 0 := by
  show double.nearest false 0 0 = _
  unfold Format.nearest; rw [if_pos rfl]
 have hN : b * 2 ^ (52 - Bl) ≠ 0 := by omega
 unfold Format.div
 rw [e0, read_zero, eY]
 unfold Datum.quotient
 simp only [if_neg hN, Nat.zero_shiftLeft, Nat.zero_div, Nat.zero_mod, Bool.xor_false]
 refine congrArg some ?_
 show double.nearest false 0 _ = _
 unfold Format.nearest
 rw [if_pos rfl]
theorem zero_back : (double.read (double.write (Datum.integral .down (.number false 0 (-1074))))).toInt .zero = some 0 := by
 have e : double.write (Datum.integral .down (.number false 0 (-1074))) = double.word false 0 := by
  unfold Datum.integral
  simp only [cut_down, Nat.zero_shiftLeft, Nat.zero_div]
  show double.nearest false 0 _ = _
  unfold Format.nearest
  rw [if_pos rfl]
 rw [e, read_zero]
 unfold Datum.toInt Datum.integral
 simp only [cut_zero, Nat.zero_shiftLeft, Nat.zero_div]
 rfl
end Go.Flt
namespace Go.Fr
open Go.RowKit
section
variable {P : Program} {N : Nat} {L : Loc} {F : Nat → Prop} {w0 : World} {B : List (Nat × Nat)} {H : List (Nat × Value)} {S : List (Nat × Slc)}
variable {d : Nat} {v : Value} {ty : TypeId} {pos : String} {aft : Array Edge} {g : Option (Nat × Bool)}
theorem rd_extern {f : FuncId} {fn : Func} {e : Array Value → Sem Value} {aS : List Operand} {ats : Array TypeId} {args : List Value} (hfn : P.funcs[f]? = some fn) (hb : fn.body = none) (hnm : (fn.name == "runtime.NumGoroutine") = false) (h1 : (Extern.findNext fn).isNone = true) (h2 : Extern.find fn = some e) (ha : Fr.evs L aS = some args) (hv : ∀ w : World, (e args.toArray).run P w = .ok v w) :
  Rd P ⟨some d, .call ⟨.value (.func f), aS.toArray, ats⟩, ty, pos, aft, g⟩ N L F w0 B H S v := fun a w k s => by
 have h1' : Extern.findNext fn = none := by simpa using h1
 have ea : (aS.map a.eval) = args := k.evs ha
 have hv' := hv w
 have hnm' : ¬ fn.name = "runtime.NumGoroutine" := by simpa using hnm
 have e0 : (callFunc f args.toArray).run P w = .ok (.value v) w := by
  simp [callFunc, hfn, hnm', hb, h1', h2, hv', mark]
  rw [show Sem.run P (Sem.mark (Mark.extern f) (Sem.pure ())) w = .ok () w from rfl]
  simp [hv']
 simp only [execOp, resolve, Act.eval, Deferred.ofValue, invoke, Sem.run_bind, Sem.run_pure, Result.andThen_ok, List.map_toArray, ea, Array.append_empty, Array.empty_append, e0]
theorem rd_i2f {src dst : TypeId} {x : Operand} {q : IntKind} {n : Int} (hx : ev L x = some (.int q n)) (hs : (P.underlying src).isSome = true) (hd : P.underlying dst = some (.float .f64)) : Rd P ⟨some d, .convert src dst x, ty, pos, aft, g⟩ N L F w0 B H S (.float .f64 (Ieee.Format.nearest Ieee.double (n < 0) n.natAbs 0)) := fun a w k s => by
 obtain ⟨t, ht⟩ := Option.isSome_iff_exists.mp hs
 simp [execOp, convert, run_underlying ht, run_underlying hd, Conv.intToFloat, k.eval hx]
 rfl
theorem rd_fquo {xt yt : TypeId} {x y : Operand} {m n r : Nat} (hx : ev L x = some (.float .f64 m)) (hy : ev L y = some (.float .f64 n)) (hr : Ieee.double.div m n = some r) : Rd P ⟨some d, .binOp .quo xt x y yt, ty, pos, aft, g⟩ N L F w0 B H S (.float .f64 r) := fun a w k s => by
 have hr' : FloatKind.f64.format.div m n = some r := hr
 simp [execOp, eqGuard, binOp, Op.floatArith, k.eval hx, k.eval hy, hr']
theorem rd_f2i {src dst : TypeId} {x : Operand} {b : Nat} {n : Int} (hx : ev L x = some (.float .f64 b)) (hs : (P.underlying src).isSome = true) (hd : P.underlying dst = some (.int .i64)) (hn : (Ieee.double.read b).toInt .zero = some n) (hb : -9223372036854775808 ≤ n ∧ n ≤ 9223372036854775807) : Rd P ⟨some d, .convert src dst x, ty, pos, aft, g⟩ N L F w0 B H S (iV n) := fun a w k s => by
 obtain ⟨t, ht⟩ := Option.isSome_iff_exists.mp hs
 have hn' : (FloatKind.f64.decode b).toInt .zero = some n := hn
 have h1 : IntKind.i64.min ≤ n ∧ n ≤ IntKind.i64.max := by
  have e1 : IntKind.i64.min = -9223372036854775808 := by decide
  have e2 : IntKind.i64.max = 9223372036854775807 := by decide
  omega
 have e : Conv.floatToInt .f64 b .i64 = pure (iV n) := by
  unfold Conv.floatToInt
  simp only [hn']
  rw [if_pos h1]
 simp [execOp, convert, run_underlying ht, run_underlying hd, e, k.eval hx]
end
theorem arch_floor {P : Program} {b : Nat} {s : Bool} {m : Nat} {e : Int} (h : Ieee.double.read b = .number s m e) (w : World) : (Extern.MathFloor.toIntegral "math.archFloor" .down #[.float .f64 b]).run P w = .ok (.float .f64 (Ieee.double.write (Ieee.Datum.integral .down (.number s m e)))) w := by
 have h' : FloatKind.f64.decode b = .number s m e := h
 delta Extern.MathFloor.toIntegral
 generalize FloatKind.decode = D at h' ⊢
 conv => lhs; arg 2; whnf
 rw [h']
 rfl
end Go.Fr
namespace Go.Proofs.YtdbbifbmkfmbkaaGreat
open Go.RowKit Go.Fr Go.Tab
section
variable {F : Nat → Prop} {w0 : World} {B : List (Nat × Nat)} {H : List (Nat × Value)} {S : List (Nat × Slc)}
theorem floor_fcalls {b : Nat} {s : Bool} {m : Nat} {e : Int} (h : Ieee.double.read b = .number s m e) (w : World) : Calls Go.Proofs.Tryz.prog 111 #[.float .f64 b] w fun r w' => r = .returned (.float .f64 (Ieee.double.write (Ieee.Datum.integral .down (.number s m e)))) ∧ Below w.heap.size w w' := by
 refine calls_GC (args := [.float .f64 b]) (L := [(0, .float .f64 b)]) (N := 7) Tryz.func111 rfl rfl ble rfl (Sees.start (fun _ => False) w) ?_
 refine g6 ?_
 refine GC_is_true rfl rfl ?_
 refine g3 ?_
 refine rl ((rd_extern (fn := Tryz.f135) (e := Extern.MathFloor.toIntegral "math.archFloor" .down) Tryz.func135 rfl kR kR kR rfl (arch_floor h))) ?_
 refine g5 ?_
 exact GE_ret1 (.inl rfl) rfl (res_tmp rfl) fun w_ s_ => ⟨rfl, s_.toBelow⟩
theorem div_val (a : Int) {b : Int} (hb : 0 < b) : (if decide (a < 0) then -((a.natAbs / b.natAbs + (decide (a < 0) && a.natAbs % b.natAbs != 0).toNat : Nat) : Int) else ((a.natAbs / b.natAbs + (decide (a < 0) && a.natAbs % b.natAbs != 0).toNat : Nat) : Int)) = a / b := by
 obtain ⟨n, rfl⟩ : ∃ n : Nat, b = n := ⟨b.toNat, by omega⟩
 have hn : 0 < n := by omega
 rw [Int.natAbs_natCast]
 by_cases h : a < 0
 ·obtain ⟨m, rfl⟩ : ∃ m : Nat, a = -(m : Int) := ⟨a.natAbs, by omega⟩
  rw [decide_eq_true h]
  simp only [if_true, Int.natAbs_neg, Int.natAbs_natCast, Bool.true_and]
  have hd := Nat.div_add_mod m n
  have hm := Nat.mod_lt m hn
  by_cases h0 : m % n = 0
  ·rw [h0] at hd ⊢
   symm
   apply Int.ediv_eq_of_eq_mul_left oM
   show -(m : Int) = -(((m / n + (0 != 0).toNat : Nat) : Int)) * n
   rw [show ((0 : Nat) != 0).toNat = 0 from rfl, Nat.add_zero, Int.neg_mul, ← Int.natCast_mul, Nat.mul_comm (m / n)]
   omega
  ·rw [bne_iff_ne.2 h0]
   symm
   refine (Int.ediv_eq_iff_of_pos oM).2 ⟨?_, ?_⟩
   ·show -(((m / n + 1 : Nat) : Int)) * (n : Int) ≤ -(m : Int)
    rw [Int.neg_mul, ← Int.natCast_mul, Nat.add_mul, Nat.one_mul, Nat.mul_comm (m / n)]
    omega
   ·show -(m : Int) < -(((m / n + 1 : Nat) : Int)) * (n : Int) + n
    rw [Int.neg_mul, ← Int.natCast_mul, Nat.add_mul, Nat.one_mul, Nat.mul_comm (m / n)]
    omega
 ·obtain ⟨m, rfl⟩ : ∃ m : Nat, a = m := ⟨a.natAbs, by omega⟩
  rw [decide_eq_false h]
  simp
theorem tmod_big {m b : Int} (hb : 0 < b) (hb2 : b ≤ 1000000) : (-1000000 < m.tmod b ∧ m.tmod b < 1000000) ∧ -1000000000000 ≤ m.tmod b * b ∧ m.tmod b * b ≤ 1000000000000 := by
 have h1 : m.tmod b < b := Int.tmod_lt_of_pos m hb
 have h2 : -b < m.tmod b := by
  have := Int.natAbs_tmod m b
  have h3 : m.natAbs % b.natAbs < b.natAbs := Nat.mod_lt _ oM
  omega
 refine ⟨by omega, ?_, ?_⟩
 ·have := Int.mul_le_mul_of_nonneg_right (show -1000000 ≤ m.tmod b by omega) (show 0 ≤ b by omega)
  omega
 ·have := Int.mul_le_mul_of_nonneg_right (show m.tmod b ≤ 1000000 by omega) (show 0 ≤ b by omega)
  omega
theorem pymod_big (a b : Int) (ha : -1000000000000000 ≤ a ∧ a ≤ 1000000000000000) (hb : 0 < b ∧ b ≤ 1000000) (w : World) : Calls Go.Proofs.Tryz.prog 91 #[iV a, iV b] w fun e w' => e = .returned (iV (a % b)) ∧ Below w.heap.size w w' := by
 refine calls_GC (args := [iV a, iV b]) (L := [(0, iV a), (1, iV b)]) (N := 17) Tryz.func91 rfl rfl ble rfl (Sees.start (fun _ => False) w) ?_
 have hr := tmod_big (m := a) hb.1 hb.2
 have hr2 := tmod_emod (m := a) hb.1
 refine g9 ?_
 refine rl (rd_rem rfl rfl oM) ?_
 refine g12 ?_
 refine GC_cond rfl (fun c12_ => ?_) (fun c12_ => ?_)
 ·first | have p12_ := of_decide_eq_true c12_ | have p12_ := beq_iff_eq.1 c12_ | have p12_ := bne_iff_ne.1 c12_ | skip
  refine g14 ?_
  refine GE_ret1 (.inl rfl) rfl (res_tmp rfl) fun w_ s_ => ⟨?_, s_.toBelow⟩
  refine ret1_ ?_
  omega
 ·first | have p12_ := of_decide_eq_false c12_ | have p12_ := beq_eq_false_iff_ne.1 c12_ | have p12_ := bne_eq_false_iff_eq.1 c12_ | skip
  refine g9 ?_
  refine GE_ret1 (.inl rfl) rfl (res_tmp rfl) fun w_ s_ => ⟨?_, s_.toBelow⟩
  refine ret1_ ?_
  omega
theorem divmod_calls (a b : Int) (ha : -2000000000 ≤ a ∧ a ≤ 2000000000) (hb : 0 < b ∧ b ≤ 1000000) (w : World) : Calls Go.Proofs.Tryz.prog 92 #[iV a, iV b] w fun e w' => e = .returned (.tuple #[iV (a / b), iV (a % b)]) ∧ Below w.heap.size w w' := by
 have hdv := div_val a hb.1
 have hbn : decide (b < 0) = false := decide_eq_false oM
 obtain ⟨r, hr, bits, hfl, hin⟩ : ∃ r, Ieee.double.div (Ieee.double.nearest (decide (a < 0)) a.natAbs 0) (Ieee.double.nearest (decide (b < 0)) b.natAbs 0) = some r ∧ ∃ bits, (∀ w, Calls Go.Proofs.Tryz.prog 111 #[.float .f64 r] w fun e w' => e = .returned (.float .f64 bits) ∧ Below w.heap.size w w') ∧ (Ieee.double.read bits).toInt .zero = some (a / b) := by
  rw [hbn]
  by_cases h0 : a = 0
  ·subst h0
   refine ⟨_, Flt.quot0 oM oM, _, fun w => floor_fcalls (Flt.read_zero false) w, ?_⟩
   rw [Int.zero_ediv]; exact Flt.zero_back
  ·obtain ⟨r, h1, m, e, h2, h3⟩ := Flt.quot (decide (a < 0)) (a := a.natAbs) (b := b.natAbs) oM oM oM oM
   refine ⟨r, h1, _, fun w => floor_fcalls h2 w, ?_⟩
   rw [h3, Flt.int_back _ (by
    have : a.natAbs / b.natAbs ≤ a.natAbs := Nat.div_le_self _ _
    have h4 : (decide (a < 0) && a.natAbs % b.natAbs != 0).toNat ≤ 1 := Bool.toNat_le _
    omega), hdv]
 have hq : -2000000000 ≤ a / b ∧ a / b ≤ 2000000000 := by
  have h1 : a / b ≤ a.natAbs := by
   have := Int.ediv_le_ediv hb.1 (show a ≤ (a.natAbs : Int) by omega)
   have h2 := Int.ediv_le_self (b := b) (a := (a.natAbs : Int)) oM
   omega
  have h2 : -(a.natAbs : Int) ≤ a / b := (Int.le_ediv_iff_mul_le hb.1).2 (by
   have : (a.natAbs : Int) * 1 ≤ (a.natAbs : Int) * b := Int.mul_le_mul_of_nonneg_left oM oM
   rw [Int.neg_mul]; omega)
  omega
 refine calls_GC (args := [iV a, iV b]) (L := [(0, iV a), (1, iV b)]) (N := 16) Tryz.func92 rfl rfl ble rfl (Sees.start (fun _ => False) w) ?_
 refine g9 ?_
 refine rl ((rd_i2f rfl kR kR)) ?_
 refine g1 ?_
 refine rl ((rd_i2f rfl kR kR)) ?_
 refine rl ((rd_fquo rfl rfl hr)) ?_
 refine gL (cvo rfl (fun w_ s_ => hfl w_) ?_)
 refine rl ((rd_f2i rfl kR kR hin oM)) ?_
 refine g2 ?_
 refine gL (cvo rfl (fun w_ s_ => pymod_big _ _ oM oM w_) ?_)
 refine g5 ?_
 exact GE_ret2 (.inl rfl) rfl (res_tmp rfl) (res_tmp rfl) fun w_ s_ => ⟨rfl, s_.toBelow⟩
end
end Go.Proofs.YtdbbifbmkfmbkaaGreat
namespace Go.Proofs.YtdbbifbmkfmbkaaGreat
open Go.RowKit Go.Fr Go.Tab
section
variable {F : Nat → Prop} {w0 : World} {B : List (Nat × Nat)} {H : List (Nat × Value)} {S : List (Nat × Slc)}
theorem div_small {a b : Int} (ha : -2000 ≤ a ∧ a ≤ 2000) (hb : 0 < b) : -2000 ≤ a / b ∧ a / b ≤ 2000 := by
 have h1 := Int.mul_ediv_add_emod a b
 have h2 := Int.emod_nonneg a (show b ≠ 0 by omega)
 have h3 := Int.emod_lt_of_pos a hb
 constructor
 ·rcases Int.lt_or_le (a / b) (-2000) with h | h
  ·have : b * (a / b) ≤ b * (-2001) := Int.mul_le_mul_of_nonneg_left oM oM
   omega
  ·exact h
 ·rcases Int.lt_or_le 2000 (a / b) with h | h
  ·have : b * 2001 ≤ b * (a / b) := Int.mul_le_mul_of_nonneg_left oM oM
   omega
  ·exact h
open Go.Md
theorem tcells_p (ts : List Int) : pcells (ts.map fun t => (t, (0 : Int))) = tcells ts := by
 unfold pcells tcells
 rw [List.map_map]; rfl
theorem Sees.prs {w : World} {k n c : Nat} {p : Option Addr} {e : TypeId} {ts : List Int} (s : Sees F w0 B H S w) (hk : lkp k S = some ⟨.slice p n c, e, 2, n, tcells ts⟩) (hn : n = ts.length) : Prs w (.slice p ts.length c) (ts.map fun t => (t, (0 : Int))) := by
 subst hn
 rw [← tcells_p] at hk
 exact (SrcU.row (F := F) (w0 := w0) (S := S) (t := k) hk) B H S w (fun _ _ => rfl) s
def dsTo (r : Ru) (it0 : It) (a : Int) (j : Nat) : List Int := ((List.range j).map fun (i : Nat) => a + (i : Int)).filter fun i => !bad r it0 i
theorem dsTo_in {r : Ru} {it0 : It} {a : Int} {j : Nat} (h : bad r it0 (a + j) = false) : dsTo r it0 a (j + 1) = dsTo r it0 a j ++ [a + j] := by
 unfold dsTo
 rw [List.range_succ, List.map_append, List.filter_append]
 simp [h]
theorem dsTo_out {r : Ru} {it0 : It} {a : Int} {j : Nat} (h : bad r it0 (a + j) = true) : dsTo r it0 a (j + 1) = dsTo r it0 a j := by
 unfold dsTo
 rw [List.range_succ, List.map_append, List.filter_append]
 simp [h]
theorem dsTo_all {r : Ru} {it0 : It} {a : Int} {n : Nat} (h : span r it0 = (a, a + n)) : dsTo r it0 a n = daysIn r it0 := by
 unfold dsTo daysIn
 rw [h]
 simp only
 rw [show (a + (n : Int) - a).toNat = n by omega]
theorem dsTo_mem {r : Ru} {it0 : It} {a : Int} {n : Nat} {i : Int} (h : i ∈ dsTo r it0 a n) : a ≤ i ∧ i < a + n := by
 unfold dsTo at h
 obtain ⟨j, h1, rfl⟩ := List.mem_map.1 (List.mem_filter.1 h).1
 have := List.mem_range.1 h1
 omega
theorem posAt_sub (r : Ru) (s : It) (pos : Int) : posAt r s pos = (subAt (daysIn r s) ((if pos < 0 then pos else pos - 1) / (s.ts.length : Int))).map fun i => (Cal.daysTo s.ly + i) * 86400 + s.ts.getD ((if pos < 0 then pos else pos - 1) % (s.ts.length : Int)).toNat 0 := by
 unfold posAt subAt
 dsimp only
 generalize (if pos < 0 then pos else pos - 1) = p
 generalize p / (s.ts.length : Int) = d
 generalize (if d < 0 then d + ((daysIn r s).length : Int) else d) = j
 by_cases h0 : j < 0
 ·rw [if_pos h0, if_pos (.inl h0)]; rfl
 ·rw [if_neg h0]
  by_cases h1 : ((daysIn r s).length : Int) ≤ j
  ·rw [if_pos (.inr h1), List.getElem?_eq_none oM]
  ·rw [if_neg (fun h => by rcases h with h | h <;> omega)]
theorem subAt_mem {xs : List Int} {d i : Int} (h : subAt xs d = some i) : i ∈ xs := by
 unfold subAt at h
 dsimp only at h
 generalize (if d < 0 then d + (xs.length : Int) else d) = j at h
 by_cases c : j < 0 ∨ (xs.length : Int) ≤ j
 ·rw [if_pos c] at h; cases h
 ·rw [if_neg c] at h; exact List.mem_of_getElem? h
theorem pos_loop {Q : Exit → Act → World → Prop} (hblind : Blind Q) {r : Ru} {it0 : It} (hlim : Lim 40 B H S) {it rb : Nat} (hB : lkp 0 B = some it) (hR : lkp 1 B = some rb) {db n dc : Nat} {a : Int} {fl : Bool}
  (hS1 : lkp 1 S = some ⟨sL db n dc, 156, 2, n, fltCells a n (fun j => !bad r it0 (a + j))⟩) (ha : 0 ≤ a) (han : a + n ≤ 400) (hspan : span r it0 = (a, a + n)) (hly : 1 ≤ it0.ly ∧ it0.ly ≤ 10000)
  (h12 : lkp (ky 0 12) H = some (iV (Cal.daysTo it0.ly * 86400))) (h13 : lkp (ky 0 13) H = some (iV 0)) {tp : Option Addr} {tc : Nat} (h23 : lkp (ky 0 23) H = some (.slice tp it0.ts.length tc)) (hS2 : lkp 2 S = some ⟨.slice tp it0.ts.length tc, 57, 2, it0.ts.length, tcells it0.ts⟩)
  (hts : ∀ t ∈ it0.ts, 0 ≤ t ∧ t < 86400) (htn : 0 < it0.ts.length ∧ it0.ts.length ≤ 100000) {q46 : Option Addr} {e46 : Nat} (r46 : lkp (ky 1 46) H = some (.slice q46 r.setpos.length e46)) (hI46 : SrcI F w0 S (.slice q46 r.setpos.length e46) r.setpos) (hsl : r.setpos.length ≤ 1000) (hsb : ∀ q ∈ r.setpos, -1000 ≤ q ∧ q ≤ 1000)
  (r39 : lkp (ky 1 39) H = some (iV r.d0)) (r40 : lkp (ky 1 40) H = some (iV 0)) (r44 : lkp (ky 1 44) H = some (iV r.u0)) (r45 : lkp (ky 1 45) H = some (iV r.u1)) (hu : ¬ (r.u0 = 0 ∧ r.u1 = 0)) (hu1 : 0 ≤ r.u1)
  {ln : Value} (r59 : lkp (ky 1 59) H = some ln) {v28 : Value} (h28 : lkp (ky 0 28) H = some v28) (h24 : lkp (ky 0 24) H = some (iV it0.total)) (h25 : lkp (ky 0 25) H = some (iV it0.count)) {p0 : Option Addr} {c0 : Nat} (h26 : lkp (ky 0 26) H = some (.slice p0 0 c0)) {bk0 : Value} (h27 : lkp (ky 0 27) H = some bk0)
  (hS0 : lkp 0 S = some ⟨.slice p0 0 c0, 57, 2, 0, []⟩) (hrem : it0.rem = []) (hfin : it0.fin = false) (htot : 0 ≤ it0.total ∧ it0.total ≤ 1000000000000000) (hcnt : 0 ≤ it0.count ∧ it0.count ≤ 9223372036854775807)
  (hn : ∀ (o : It) (p : Option Addr) (c : Nat) (bk : Value), o = emits r it0 (sortI (poslist r it0)) → o.fin = false → (o.rem ≠ [] → bk = .slice p o.rem.length c) → GE Q .normal 1418 [(0, pT it), (2, pT rb), (6, .bool fl)] F w0 B ((ky 0 24, iV o.total) :: (ky 0 25, iV o.count) :: (ky 0 26, .slice p o.rem.length c) :: (ky 0 27, bk) :: H) ((0, ⟨.slice p o.rem.length c, 57, 2, o.rem.length, (tcells o.rem)⟩) :: S))
  (hr : ∀ (o : It) (p : Option Addr) (c : Nat) (bk ln : Value), o = emits r it0 (sortI (poslist r it0)) → o.fin = true → (o.rem ≠ [] → bk = .slice p o.rem.length c) → GE Q .ret 1418 [] F w0 B ((ky 0 28, .bool true) :: (ky 1 59, ln) :: (ky 0 24, iV o.total) :: (ky 0 25, iV o.count) :: (ky 0 26, .slice p o.rem.length c) :: (ky 0 27, bk) :: H) ((0, ⟨.slice p o.rem.length c, 57, 2, o.rem.length, (tcells o.rem)⟩) :: S)) : GC Go.Proofs.Tryz.prog (Go.Fr.part [1, 1, 0, 0, 1, 0, 1, 1, 1, 1, 1, 0, 1, 0] (Go.Fr.bodyOf Tryz.f96)) Q 1418 [(0, pT it), (2, pT rb), (5, sL db n dc), (6, .bool fl)] F w0 B H S := by
 have hdt : 0 ≤ Cal.daysTo it0.ly ∧ Cal.daysTo it0.ly ≤ 4000000 := by unfold Cal.daysTo; omega
 refine GC_have (φ := 0 < it0.ts.length → ∃ b, tp = some ⟨b, 0, none⟩ ∧ it0.ts.length ≤ tc) (fun w s h => s.head 2 hS2 h) fun hthead => ?_
 refine g10 ?_
 refine rl (rfa 46) ?_
 refine rl (rld 1 rfl hR r46) ?_
 refine g5 ?_
 refine GC_loop (ι := (Nat) × (List Int) × (Option Addr) × (Nat) × (Nat)) (fun | ⟨k, ps, pp, pc, pm⟩ => r.setpos.length - k) (fun | ⟨k, ps, pp, pc, pm⟩ => (k ≤ r.setpos.length) ∧ (ps = (r.setpos.take k).foldl (fun l q => addNew l (posAt r it0 q)) []) ∧ (pm = ps.length) ∧ (pm ≤ k)) (fun | ⟨k, ps, pp, pc, pm⟩ => [(0, pT it), (2, pT rb), (5, sL db n dc), (6, .bool fl), (10, .slice pp pm pc), (371, .slice q46 r.setpos.length e46), (372, iV (r.setpos.length)), (373, iV k)]) (fun | ⟨k, ps, pp, pc, pm⟩ => B) (fun | ⟨k, ps, pp, pc, pm⟩ => H) (fun | ⟨k, ps, pp, pc, pm⟩ => ((44, ⟨.slice pp pm pc, 57, 2, pm, (tcells ps)⟩) :: S)) ⟨0, [], none, 0, 0⟩ ⟨Nat.zero_le _, rfl, rfl, Nat.zero_le _⟩ kns (fun w s => by exact (s.nilRow 44 57 2)) ?_
 rintro ⟨k, ps, pp, pc, pm⟩ ⟨hk, hps, hm, hmk⟩
 show GC _ _ _ _ [(0, pT it), (2, pT rb), (5, sL db n dc), (6, .bool fl), (10, .slice pp pm pc), (371, .slice q46 r.setpos.length e46), (372, iV (r.setpos.length)), (373, iV k)] _ _ (B) (H) (((44, ⟨.slice pp pm pc, 57, 2, pm, (tcells ps)⟩) :: S))
 refine g6 ?_
 refine GC_cond rfl (fun hc1 => ?_) (fun hc2 => ?_)
 ·have hlt : k < r.setpos.length := by have := of_decide_eq_true hc1; omega
  obtain ⟨q, hq⟩ : ∃ q, r.setpos[k]? = some q := ⟨_, List.getElem?_eq_getElem hlt⟩
  have hqb := hsb q (List.mem_of_getElem? hq)
  refine GC_have (fun w s => (hI46.to aG).head s oM) fun hh => ?_
  obtain ⟨b_q, o_q, hp_q⟩ := hh
  have src_q := hI46
  rw [hp_q] at src_q
  have hps1 : (r.setpos.take (k + 1)).foldl (fun l q => addNew l (posAt r it0 q)) [] = addNew ps (posAt r it0 q) := by rw [List.take_add_one, hq, List.foldl_append, ← hps]; rfl
  refine g6 ?_
  refine rl (rd_indexAddr (e := 3) (n := 1) kR (congrArg (fun p => some (Value.slice p _ _)) hp_q) rfl oM oM) ?_
  refine rl (rd_load_at kR rfl (fun w s => src_q.cell hq aG s)) ?_
  refine g9 ?_
  refine GC_cut (ι := (Int) × (Int)) (fun | ⟨dq, tq⟩ => (dq = (if q < 0 then q else q - 1) / (it0.ts.length : Int)) ∧ (tq = (if q < 0 then q else q - 1) % (it0.ts.length : Int))) (fun | ⟨dq, tq⟩ => [(0, pT it), (2, pT rb), (5, sL db n dc), (6, .bool fl), (10, .slice pp pm pc), (371, .slice q46 r.setpos.length e46), (372, iV (r.setpos.length)), (373, iV k), (12, iV q), (13, iV dq), (14, iV tq)]) (fun | ⟨dq, tq⟩ => B) (fun | ⟨dq, tq⟩ => H) (fun | ⟨dq, tq⟩ => ((44, ⟨.slice pp pm pc, 57, 2, pm, (tcells ps)⟩) :: S)) ?_ ?_
  ·refine g6 ?_
   refine GC_cond rfl (fun hc1 => ?_) (fun hc2 => ?_)
   ·have hq0 : q < 0 := of_decide_eq_true hc1
    refine g4 ?_
    refine rl (rfa 23) ?_
    refine rl (rld 0 rfl hB h23) ?_
    refine g1 ?_
    refine gL (cvo rfl (fun w_ s_ => divmod_calls _ _ oM oM w_) ?_)
    refine g6 ?_
    refine GE_meet (ι := Int × Int) (q / (it0.ts.length : Int), q % (it0.ts.length : Int)) ⟨by rw [if_pos hq0], by rw [if_pos hq0]⟩ kns (fun w s => s)
   ·have hq0 : ¬ q < 0 := of_decide_eq_false hc2
    refine g5 ?_
    refine rl (rfa 23) ?_
    refine rl (rld 0 rfl hB h23) ?_
    refine g1 ?_
    refine gL (cvo rfl (fun w_ s_ => divmod_calls _ _ oM oM w_) ?_)
    refine g6 ?_
    refine GE_meet (ι := Int × Int) ((q - 1) / (it0.ts.length : Int), (q - 1) % (it0.ts.length : Int)) ⟨by rw [if_neg hq0], by rw [if_neg hq0]⟩ kns (fun w s => s)
  rintro ⟨dq, tq⟩ ⟨hdq, htq⟩
  show GC _ _ _ _ [(0, pT it), (2, pT rb), (5, sL db n dc), (6, .bool fl), (10, .slice pp pm pc), (371, .slice q46 r.setpos.length e46), (372, iV (r.setpos.length)), (373, iV k), (12, iV q), (13, iV dq), (14, iV tq)] _ _ (B) (H) (((44, ⟨.slice pp pm pc, 57, 2, pm, (tcells ps)⟩) :: S))
  have hn0 : (0 : Int) < (it0.ts.length : Int) := by omega
  have htb : 0 ≤ tq ∧ tq < it0.ts.length := by rw [htq]; exact ⟨Int.emod_nonneg _ oM, Int.emod_lt_of_pos _ hn0⟩
  have hdb : -2000 ≤ dq ∧ dq ≤ 2000 := by rw [hdq]; exact div_small (by split <;> omega) hn0
  have hpa := posAt_sub r it0 q
  rw [← hdq, ← htq, ← dsTo_all hspan] at hpa
  refine g14 ?_
  refine GC_loop (ι := (Nat) × (List Int) × (Option Addr) × (Nat) × (Nat)) (fun | ⟨j, xs, p2, c2, m2⟩ => n - j) (fun | ⟨j, xs, p2, c2, m2⟩ => (j ≤ n) ∧ (xs = dsTo r it0 a j) ∧ (m2 = xs.length) ∧ (m2 ≤ j)) (fun | ⟨j, xs, p2, c2, m2⟩ => [(0, pT it), (2, pT rb), (5, sL db n dc), (6, .bool fl), (10, .slice pp pm pc), (371, .slice q46 r.setpos.length e46), (372, iV (r.setpos.length)), (373, iV k), (12, iV q), (13, iV dq), (14, iV tq), (15, .slice p2 m2 c2), (400, sL db n dc), (401, iV n), (402, iV j)]) (fun | ⟨j, xs, p2, c2, m2⟩ => B) (fun | ⟨j, xs, p2, c2, m2⟩ => H) (fun | ⟨j, xs, p2, c2, m2⟩ => ((51, ⟨.slice p2 m2 c2, 3, 1, m2, (xs.map iV)⟩) :: ((44, ⟨.slice pp pm pc, 57, 2, pm, (tcells ps)⟩) :: S))) ⟨0, [], none, 0, 0⟩ ⟨Nat.zero_le _, rfl, rfl, Nat.zero_le _⟩ kns (fun w s => by exact (s.nilRow 51 3 1)) ?_
  rintro ⟨j, xs, p2, c2, m2⟩ ⟨hj, hxs, hm2, hmj⟩
  show GC _ _ _ _ [(0, pT it), (2, pT rb), (5, sL db n dc), (6, .bool fl), (10, .slice pp pm pc), (371, .slice q46 r.setpos.length e46), (372, iV (r.setpos.length)), (373, iV k), (12, iV q), (13, iV dq), (14, iV tq), (15, .slice p2 m2 c2), (400, sL db n dc), (401, iV n), (402, iV j)] _ _ (B) (H) (((51, ⟨.slice p2 m2 c2, 3, 1, m2, (xs.map iV)⟩) :: ((44, ⟨.slice pp pm pc, 57, 2, pm, (tcells ps)⟩) :: S)))
  refine g6 ?_
  refine GC_cond rfl (fun hc1 => ?_) (fun hc2 => ?_)
  ·have hjn : j < n := by have := of_decide_eq_true hc1; omega
   obtain ⟨hd1, hd2⟩ := flt_get a n (fun j => !bad r it0 (a + j)) hjn
   refine g6 ?_
   refine rl (rd_indexAddr (e := 156) (n := 2) kR rfl rfl oM oM) ?_
   refine rl (rd_load2_row 1 rfl hS1 rfl (by rw [← hd1]; congr 1; omega) (by rw [← hd2]; congr 1; omega) kR) ?_
   refine gL (alo 53 (cs := [iV 0, .bool false]) kR (hlim.b 53 dE) (fun b1_ hbb1_ => ?_))
   refine gL (sta 53 rfl rfl rfl rfl ?_)
   refine g4 ?_
   refine rl (rfa 1) ?_
   refine rl (rld 53 rfl rfl rfl) ?_
   refine g2 ?_
   refine GC_cond rfl (fun hb => ?_) (fun hb => ?_)
   ·have hbad : bad r it0 (a + j) = false := by simpa using hb
    refine g2 ?_
    refine rl (rfa 0) ?_
    refine rl (rld 53 rfl rfl rfl) ?_
    refine gL (at_one_ 52 (e := 3) (sz := 1) (by_ := 8) (zs := [iV 0]) dE kR rfl dE dE rfl rfl rfl (fun bo => ?_))
    refine gL (at_append 51 52 (e := 3) (sz := 1) (by_ := 8) (zs := [iV 0]) dE kR rfl dE rfl rfl rfl rfl ⟨rfl, rfl⟩ ⟨rfl, rfl⟩ (ints_one (xs := [a + j])) sO sO (fun p3 c3 => ?_))
    refine g8 ?_
    refine GE_back ⟨j + 1, xs ++ [a + j], p3, c3, m2 + 1⟩ sO ⟨by omega, by rw [dsTo_in hbad, hxs], by rw [hm2, List.length_append]; rfl, by omega⟩ kns (fun w s => by exact (by have s2 : Sees F w0 _ _ ((51, ⟨.slice p3 (m2 + 1) c3, 3, 1, (m2 + 1), xs.map iV ++ [iV (a + j)]⟩) :: _) _ := s; rw [map_one] at s2; exact (s2.low 52 (((hlim.mono dE).consS dE).consS dE) agx agx agx)))
   ·have hbad : bad r it0 (a + j) = true := by simpa using hb
    refine g7 ?_
    refine GE_back ⟨j + 1, xs, p2, c2, m2⟩ sO ⟨by omega, by rw [dsTo_out hbad, hxs], hm2, by omega⟩ kns (fun w s => by exact (s.low 52 (((hlim.mono dE).consS dE).consS dE) agx agx agx))
  ·have hge : ¬ j < n := by have := of_decide_eq_false hc2; omega
   obtain rfl : n = j := by omega
   rw [← hxs] at hpa
   refine g9 ?_
   refine gL (cbx (fun y : Int × Value => .tuple #[iV y.1, y.2]) (fun y => subAt xs dq = some y.1 ∧ y.2 = .nilIface ∨ subAt xs dq = none ∧ ∃ b, y.2 = .iface 139 (pT b)) rfl (fun w_ s_ => by rw [hm2] at s_ ⊢; exact pySub_calls xs dq _ _ oM oM w_ (s_.ints 51 rfl)) (fun | (i, ev_), hy => ?_))
   refine g9 ?_
   rcases hy with ⟨hsub, rfl⟩ | ⟨hsub, b_, rfl⟩
   ·have hir := dsTo_mem (r := r) (it0 := it0) (a := a) (n := n) (by rw [← hxs]; exact subAt_mem hsub)
    obtain ⟨t, htj⟩ : ∃ t, it0.ts[tq.toNat]? = some t := ⟨_, List.getElem?_eq_getElem oM⟩
    obtain ⟨ht1, ht2⟩ := tcells_get htj
    have htr := hts t (List.mem_of_getElem? htj)
    obtain ⟨tb, rfl, htcap⟩ : ∃ b, tp = some ⟨b, 0, none⟩ ∧ it0.ts.length ≤ tc := hthead oM
    have hgt : it0.ts.getD tq.toNat 0 = t := by rw [List.getD_eq_getElem?_getD, htj]; rfl
    rw [hsub, hgt] at hpa
    have hpa : posAt r it0 q = some ((Cal.daysTo it0.ly + i) * 86400 + t) := hpa
    have hmo := Cal.month_bd (Cal.daysTo it0.ly + i)
    have hye := Cal.year_le (Cal.daysTo it0.ly + i) oM
    have hyd := split_bd0 (x := (Cal.daysTo it0.ly + i) * 86400) oM
    rw [show (Cal.daysTo it0.ly + i) * 86400 / 86400 = (Cal.daysTo it0.ly + i) by omega] at hyd
    refine g2 ?_
    refine rl ((rd_bin (v := .bool false) rfl rfl (fun w => by kernel_rfl))) ?_
    refine g2 ?_
    refine GC_is_false rfl rfl ?_
    refine g6 ?_
    refine rl (rfa 23) ?_
    refine rl (rld 0 rfl hB h23) ?_
    refine g1 ?_
    refine rl (rd_indexAddr (e := 57) (n := 2) kR rfl rfl oM oM) ?_
    refine rl (rd_load2_row 2 rfl hS2 rfl (by rw [← ht1]; congr 1; omega) (by rw [← ht2]; congr 1; omega) kR) ?_
    refine gL (alo 50 (cs := [iV 0, iV 0]) kR (hlim.b 50 dE) (fun b2_ hbb2_ => ?_))
    refine gL (sta 50 rfl rfl rfl rfl ?_)
    refine g6 ?_
    refine rl (rfa 7) ?_
    refine rl (rfa 5) ?_
    refine rl (rd_load2 0 rfl hB h12 h13 kR dE) ?_
    refine g1 ?_
    refine gL (cvo (v := .agg #[iV ((Cal.daysTo it0.ly + i) * 86400), iV 0]) rfl (fun w_ s_ => (addDate_calls _ _ _ oM oM oM w_).mono fun e_ w2_ h_ => ⟨h_.1.trans (congrArg Ending.returned (by rw [show Cal.daysTo it0.ly * 86400 + i * 86400 = (Cal.daysTo it0.ly + i) * 86400 by omega])), h_.2⟩) ?_)
    refine gL (cvo (v := .tuple #[iV (Cal.yearOf (Cal.daysTo it0.ly + i)), iV (Cal.monthOf (Cal.daysTo it0.ly + i)), iV (Cal.mdayOf (Cal.daysTo it0.ly + i))]) rfl (fun w_ s_ => (date_calls _ _ oM w_).mono fun e_ w2_ h_ => ⟨h_.1.trans (congrArg Ending.returned (by rw [show (Cal.daysTo it0.ly + i) * 86400 / 86400 = (Cal.daysTo it0.ly + i) by omega])), h_.2⟩) ?_)
    refine g11 ?_
    refine rl (rd_load2 50 rfl rfl rfl rfl kR dE) ?_
    refine gL (cvo (v := .tuple #[iV (t % 86400 / 3600), iV (t % 86400 / 60 % 60), iV (t % 86400 % 60)]) rfl (fun w_ s_ => (clock_calls _ _ oM w_).mono fun e_ w2_ h_ => ⟨h_.1.trans (congrArg Ending.returned rfl), h_.2⟩) ?_)
    refine g9 ?_
    refine GC_cut (ι := (Nat)) (fun bt => True) (fun bt => [(0, pT it), (2, pT rb), (5, sL db n dc), (6, .bool fl), (10, .slice pp pm pc), (371, .slice q46 r.setpos.length e46), (372, iV (r.setpos.length)), (373, iV k), (27, pT bt)]) (fun bt => (49, bt) :: B) (fun bt => putKeys 49 0 [iV ((Cal.daysTo it0.ly + i) * 86400 + t), iV 0] ++ H) (fun bt => ((44, ⟨.slice pp pm pc, 57, 2, pm, (tcells ps)⟩) :: S)) ?_ ?_
    ·refine GC_anyS (fun i => i == 12) kR ?_
     refine gr 0 rfl (rd_move rfl) ?_
     refine gr 1 rfl (rd_move rfl) ?_
     refine gr 2 rfl (rd_move rfl) ?_
     refine gr 3 rfl (rd_move rfl) ?_
     refine gr 4 rfl (rd_move rfl) ?_
     refine gr 5 rfl (rd_move rfl) ?_
     refine gr 6 rfl (rd_load2 50 rfl rfl rfl rfl kR dE) ?_
     refine gr 8 rfl (rd_load2 50 rfl rfl rfl rfl kR dE) ?_
     refine GA_two (i := 7) (j := 11) rfl rfl rfl rfl kR rfl rfl ?_ ?_
     ·refine cvo rfl (fun w_ s_ => nanosecond_calls _ _ oM w_) (gk ?_)
      refine GA_two (i := 9) (j := 11) rfl rfl rfl rfl kR rfl rfl ?_ ?_
      ·refine cvo rfl (fun w_ s_ => location_calls _ _ w_) (gk ?_)
       refine GA_two (i := 10) (j := 11) rfl rfl rfl rfl kR rfl rfl ?_ ?_
       ·refine cvo (v := .agg #[iV (((Cal.daysTo it0.ly + i) * 86400 + t)), iV 0]) rfl (fun w_ s_ => (mkdate_calls _ _ _ _ _ _ _ oM oM oM oM oM oM oM w_).mono fun e_ w2_ h_ => ⟨h_.1.trans (congrArg Ending.returned (by rw [res_sec htr])), h_.2⟩) (gk ?_)
        refine gn 11 rfl (alo 49 (cs := [iV 0, iV 0]) kR (hlim.b 49 dE) (fun b3_ hbb3_ => GK_C (fun _ w s => by exact s.dropNew (hlim.b 49 dE) lhx ble) ?_))
        refine gn 12 rfl (sta 49 rfl rfl rfl rfl (gk ?_))
        refine GA_end kR ?_
        refine GE_meet (ι := Nat) b3_ trivial kns (fun w s => by exact s.low 50 (((Lim.putH dE _ 0 ble ((hlim.mono dE).consB dE))).consS dE) agx agx agx)
       ·refine alo 49 (cs := [iV 0, iV 0]) kR (hlim.b 49 dE) (fun b4_ hbb4_ => GK_C (fun _ w s => by exact s.dropNew (hlim.b 49 dE) lhx ble) ?_)
        refine gn 10 rfl (cvo (v := .agg #[iV (((Cal.daysTo it0.ly + i) * 86400 + t)), iV 0]) rfl (fun w_ s_ => (mkdate_calls _ _ _ _ _ _ _ oM oM oM oM oM oM oM w_).mono fun e_ w2_ h_ => ⟨h_.1.trans (congrArg Ending.returned (by rw [res_sec htr])), h_.2⟩) (GK_C (fun _ w s => by exact s.dropNew (hlim.b 49 dE) lhx ble) ?_))
        refine gn 12 rfl (sta 49 rfl rfl rfl rfl (gk ?_))
        refine GA_end kR ?_
        refine GE_meet (ι := Nat) b4_ trivial kns (fun w s => by exact s.low 50 (((Lim.putH dE _ 0 ble ((hlim.mono dE).consB dE))).consS dE) agx agx agx)
      ·refine alo 49 (cs := [iV 0, iV 0]) kR (hlim.b 49 dE) (fun b5_ hbb5_ => GK_C (fun _ w s => by exact s.dropNew (hlim.b 49 dE) lhx ble) ?_)
       refine gn 9 rfl (cvo rfl (fun w_ s_ => location_calls _ _ w_) (GK_C (fun _ w s => by exact s.dropNew (hlim.b 49 dE) lhx ble) ?_))
       refine gn 10 rfl (cvo (v := .agg #[iV (((Cal.daysTo it0.ly + i) * 86400 + t)), iV 0]) rfl (fun w_ s_ => (mkdate_calls _ _ _ _ _ _ _ oM oM oM oM oM oM oM w_).mono fun e_ w2_ h_ => ⟨h_.1.trans (congrArg Ending.returned (by rw [res_sec htr])), h_.2⟩) (GK_C (fun _ w s => by exact s.dropNew (hlim.b 49 dE) lhx ble) ?_))
       refine gn 12 rfl (sta 49 rfl rfl rfl rfl (gk ?_))
       refine GA_end kR ?_
       refine GE_meet (ι := Nat) b5_ trivial kns (fun w s => by exact s.low 50 (((Lim.putH dE _ 0 ble ((hlim.mono dE).consB dE))).consS dE) agx agx agx)
     ·refine alo 49 (cs := [iV 0, iV 0]) kR (hlim.b 49 dE) (fun b6_ hbb6_ => GK_C (fun _ w s => by exact s.dropNew (hlim.b 49 dE) lhx ble) ?_)
      refine gn 7 rfl (cvo rfl (fun w_ s_ => nanosecond_calls _ _ oM w_) (GK_C (fun _ w s => by exact s.dropNew (hlim.b 49 dE) lhx ble) ?_))
      refine gn 9 rfl (cvo rfl (fun w_ s_ => location_calls _ _ w_) (GK_C (fun _ w s => by exact s.dropNew (hlim.b 49 dE) lhx ble) ?_))
      refine gn 10 rfl (cvo (v := .agg #[iV (((Cal.daysTo it0.ly + i) * 86400 + t)), iV 0]) rfl (fun w_ s_ => (mkdate_calls _ _ _ _ _ _ _ oM oM oM oM oM oM oM w_).mono fun e_ w2_ h_ => ⟨h_.1.trans (congrArg Ending.returned (by rw [res_sec htr])), h_.2⟩) (GK_C (fun _ w s => by exact s.dropNew (hlim.b 49 dE) lhx ble) ?_))
      refine gn 12 rfl (sta 49 rfl rfl rfl rfl (gk ?_))
      refine GA_end kR ?_
      refine GE_meet (ι := Nat) b6_ trivial kns (fun w s => by exact s.low 50 (((Lim.putH dE _ 0 ble ((hlim.mono dE).consB dE))).consS dE) agx agx agx)
    rintro bt -
    show GC _ _ _ _ [(0, pT it), (2, pT rb), (5, sL db n dc), (6, .bool fl), (10, .slice pp pm pc), (371, .slice q46 r.setpos.length e46), (372, iV (r.setpos.length)), (373, iV k), (27, pT bt)] _ _ ((49, bt) :: B) (putKeys 49 0 [iV ((Cal.daysTo it0.ly + i) * 86400 + t), iV 0] ++ H) (((44, ⟨.slice pp pm pc, 57, 2, pm, (tcells ps)⟩) :: S))
    refine g3 ?_
    refine rl (rd_load2 49 rfl rfl rfl rfl kR dE) ?_
    refine gL (cvo (v := .bool (ps.any (· == ((Cal.daysTo it0.ly + i) * 86400 + t)))) rfl (fun w_ s_ => by rw [hm] at s_ ⊢; exact timeContains_calls ps _ _ _ oM w_ (Sees.prs (k := 44) s_ rfl rfl)) ?_)
    refine g3 ?_
    refine GC_cond rfl (fun hb => ?_) (fun hb => ?_)
    ·have hany : ps.any (· == ((Cal.daysTo it0.ly + i) * 86400 + t)) = false := by simpa using hb
     have hadd : addNew ps (posAt r it0 q) = ps ++ [((Cal.daysTo it0.ly + i) * 86400 + t)] := by rw [hpa]; unfold addNew; simp only; rw [hany]; rfl
     refine g2 ?_
     refine rl (rd_load2 49 rfl rfl rfl rfl kR dE) ?_
     refine gL (at_one_ 46 (e := 57) (sz := 2) (by_ := 16) (zs := [iV 0, iV 0]) dE kR rfl dE dE rfl rfl rfl (fun bo => ?_))
     refine gL (at_append 44 46 (e := 57) (sz := 2) (by_ := 16) (zs := [iV 0, iV 0]) dE kR rfl dE rfl rfl rfl rfl ⟨rfl, rfl⟩ ⟨rfl, rfl⟩ one2 sO sO (fun p3 c3 => ?_))
     refine g8 ?_
     refine GE_back ⟨k + 1, ps ++ [((Cal.daysTo it0.ly + i) * 86400 + t)], p3, c3, pm + 1⟩ sO ⟨by omega, by rw [hps1, hadd], by rw [hm, List.length_append]; rfl, by omega⟩ kns (fun w s => by exact (by have s2 : Sees F w0 _ _ ((44, ⟨.slice p3 (pm + 1) c3, 57, 2, (pm + 1), tcells ps ++ [iV ((Cal.daysTo it0.ly + i) * 86400 + t), iV 0]⟩) :: _) _ := s; rw [tcells_append] at s2; exact (s2.low 45 ((hlim.mono dE).consS dE) agx agx agx)))
    ·have hany : ps.any (· == ((Cal.daysTo it0.ly + i) * 86400 + t)) = true := by simpa using hb
     have hadd : addNew ps (posAt r it0 q) = ps := by rw [hpa]; unfold addNew; simp only; rw [hany]; rfl
     refine g7 ?_
     refine GE_back ⟨k + 1, ps, pp, pc, pm⟩ sO ⟨by omega, by rw [hps1, hadd], hm, by omega⟩ kns (fun w s => by exact (s.low 45 ((hlim.mono dE).consS dE) agx agx agx))
   ·rw [hsub] at hpa
    have hpa : addNew ps (posAt r it0 q) = ps := by rw [hpa]; rfl
    refine g2 ?_
    refine rl ((rd_bin (v := .bool true) rfl rfl (fun w => by kernel_rfl))) ?_
    refine g2 ?_
    refine GC_is_true rfl rfl ?_
    refine g8 ?_
    refine GE_back ⟨k + 1, ps, pp, pc, pm⟩ sO ⟨by omega, by rw [hps1, hpa], hm, by omega⟩ kns (fun w s => by exact (s.low 45 ((hlim.mono dE).consS dE) agx agx agx))
 ·have hge : ¬ k < r.setpos.length := by have := of_decide_eq_false hc2; omega
  obtain rfl : k = r.setpos.length := by omega
  rw [List.take_length] at hps
  have hpl : ps = poslist r it0 := hps
  subst hpl
  refine g8 ?_
  refine rl ((rd_makeInterface (r := .iface 122 (.slice pp pm pc)) rfl (fun w => by kernel_rfl))) ?_
  refine gL (at_call (ι := Unit) (fun _ => .tuple #[]) (fun _ => True) (fun _ => B) (fun _ => H) (fun _ => ((44, ⟨.slice pp pm pc, 57, 2, pm, (tcells (sortI (poslist r it0)))⟩) :: (44, ⟨.slice pp pm pc, 57, 2, pm, (tcells (poslist r it0))⟩) :: S)) dE kR rfl (fun w_ s_ => by rw [hm] at s_ ⊢; exact (sort_calls (t := 44) dE oM ((hlim.mono dE).consS dE) rfl w_ s_).mono fun e_ w2_ h_ => ⟨(), trivial, h_.1, h_.2⟩) (fun _ _ => ?_))
  refine g10 ?_
  have hll : (sortI (poslist r it0)).length = pm := by unfold sortI; rw [List.length_mergeSort, hm]
  refine GC_loop (ι := (Nat) × (It) × (Int) × (Int) × (Nat) × (List Value) × (Option Addr) × (Nat) × (Value)) (fun | ⟨j, o1, tt1, cc1, m1, xs1, p1, c1, bk1⟩ => pm - j) (fun | ⟨j, o1, tt1, cc1, m1, xs1, p1, c1, bk1⟩ => (j ≤ pm) ∧ (o1 = emits r it0 ((sortI (poslist r it0)).take j)) ∧ (o1.fin = false) ∧ (tt1 = o1.total) ∧ (cc1 = o1.count) ∧ (m1 = o1.rem.length) ∧ (xs1 = tcells o1.rem) ∧ (0 ≤ cc1 ∧ cc1 ≤ 9223372036854775807) ∧ (0 ≤ tt1 ∧ tt1 ≤ it0.total + (j : Nat)) ∧ (m1 ≤ j) ∧ (m1 ≠ 0 → bk1 = .slice p1 m1 c1)) (fun | ⟨j, o1, tt1, cc1, m1, xs1, p1, c1, bk1⟩ => [(0, pT it), (2, pT rb), (6, .bool fl), (470, .slice pp pm pc), (471, iV pm), (472, iV j)]) (fun | ⟨j, o1, tt1, cc1, m1, xs1, p1, c1, bk1⟩ => B) (fun | ⟨j, o1, tt1, cc1, m1, xs1, p1, c1, bk1⟩ => (ky 0 24, iV tt1) :: (ky 0 25, iV cc1) :: (ky 0 26, .slice p1 m1 c1) :: (ky 0 27, bk1) :: H) (fun | ⟨j, o1, tt1, cc1, m1, xs1, p1, c1, bk1⟩ => (0, ⟨.slice p1 m1 c1, 57, 2, m1, xs1⟩) :: ((44, ⟨.slice pp pm pc, 57, 2, pm, (tcells (sortI (poslist r it0)))⟩) :: S)) ⟨0, it0, it0.total, it0.count, 0, [], p0, c0, bk0⟩ ⟨Nat.zero_le _, rfl, hfin, rfl, rfl, by rw [hrem]; rfl, by rw [hrem]; rfl, hcnt, ⟨htot.1, by omega⟩, Nat.zero_le _, fun h => absurd rfl h⟩ kns (fun w s => by exact (s.row_last.to (fun _ _ h => h) (fun k o v ho h => (by rcases lkp_cons h with ⟨e, rfl⟩ | ⟨_, h⟩; { rw [e]; exact ⟨h24, by obtain ⟨rfl, rfl⟩ := ky_inj ho dE e; rw [hB]; rfl⟩ }; rcases lkp_cons h with ⟨e, rfl⟩ | ⟨_, h⟩; { rw [e]; exact ⟨h25, by obtain ⟨rfl, rfl⟩ := ky_inj ho dE e; rw [hB]; rfl⟩ }; rcases lkp_cons h with ⟨e, rfl⟩ | ⟨_, h⟩; { rw [e]; exact ⟨h26, by obtain ⟨rfl, rfl⟩ := ky_inj ho dE e; rw [hB]; rfl⟩ }; rcases lkp_cons h with ⟨e, rfl⟩ | ⟨_, h⟩; { rw [e]; exact ⟨h27, by obtain ⟨rfl, rfl⟩ := ky_inj ho dE e; rw [hB]; rfl⟩ }; exact ⟨h, by obtain ⟨b, e, _⟩ := s.cells k o v ho h; rw [e]; rfl⟩)) (fun j q h => (by rcases lkp_cons h with ⟨rfl, rfl⟩ | ⟨_, h⟩; exact hS0; exact h)))) ?_
  rintro ⟨j, o1, tt1, cc1, m1, xs1, p1, c1, bk1⟩ ⟨hj, ho1, hf1, ht1_, hc1_, hm1, hx1, hcc1, htb1, hmb1, hbk1⟩
  show GC _ _ _ _ [(0, pT it), (2, pT rb), (6, .bool fl), (470, .slice pp pm pc), (471, iV pm), (472, iV j)] _ _ (B) ((ky 0 24, iV tt1) :: (ky 0 25, iV cc1) :: (ky 0 26, .slice p1 m1 c1) :: (ky 0 27, bk1) :: H) ((0, ⟨.slice p1 m1 c1, 57, 2, m1, xs1⟩) :: ((44, ⟨.slice pp pm pc, 57, 2, pm, (tcells (sortI (poslist r it0)))⟩) :: S))
  refine g6 ?_
  refine GC_cond rfl (fun hc1 => ?_) (fun hc2 => ?_)
  ·have hjt : j < pm := by have := of_decide_eq_true hc1; omega
   obtain ⟨t, htj⟩ : ∃ t, (sortI (poslist r it0))[j]? = some t := ⟨_, List.getElem?_eq_getElem oM⟩
   obtain ⟨ht1, ht2⟩ := tcells_get htj
   refine GC_have (fun w s => s.head 44 rfl oM) fun hh => ?_
   obtain ⟨tb, rfl, htcap⟩ := hh
   have hts1 := emits_take_succ (r := r) (o := it0) htj
   rw [← ho1] at hts1
   refine g6 ?_
   refine rl (rd_indexAddr (e := 57) (n := 2) kR rfl rfl oM oM) ?_
   refine rl (rd_load2_row 44 rfl rfl rfl (by rw [← ht1]; congr 1; omega) (by rw [← ht2]; congr 1; omega) kR) ?_
   refine gL (alo 47 (cs := [iV 0, iV 0]) kR (hlim.b 47 dE) (fun b7_ hbb7_ => ?_))
   refine gL (sta 47 rfl rfl rfl rfl ?_)
   refine g6 ?_
   refine rq (rfa 44) ?_
   refine rq (rd_load2 1 rfl hR r44 r45 kR dE) ?_
   refine GQ_call_v dE kR rfl (fun w_ s_ => isZero_calls _ _ w_) ?_
   refine rq ((rd_not rfl).to (v' := .bool true) (congrArg Value.bool (by rw [decide_eq_false hu]; rfl))) ?_
   refine g2 ?_
   refine rq (rd_load2 47 rfl rfl rfl rfl kR dE) ?_
   refine g5 ?_
   refine rq (rfa 44) ?_
   refine g1 ?_
   refine rq (rd_load2 1 rfl hR r44 r45 kR dE) ?_
   refine g1 ?_
   refine GQ_call_v (v := .bool (decide (r.u0 < t))) dE kR rfl (fun w_ s_ => (after_calls _ _ _ _ w_).mono fun e_ w2_ h_ => ⟨h_.1.trans (congrArg Ending.returned (congrArg Value.bool (decide_eq_decide.2 oM))), h_.2⟩) ?_
   refine g3 ?_
   refine GC_cond rfl (fun hc1 => ?_) (fun hc2 => ?_)
   ·have hun : r.u0 < t := of_decide_eq_true hc1
    have hem : emit r o1 t = { o1 with fin := true } := emit_until hf1 hun
    refine g5 ?_
    refine rl (rfa 24) ?_
    refine rl (rld 0 rfl hB rfl) ?_
    refine g1 ?_
    refine rl (rfa 59) ?_
    refine gL (sto 1 rfl rfl hR r59 ?_)
    refine g6 ?_
    refine rl (rfa 28) ?_
    refine gL (sto 0 rfl rfl hB h28 ?_)
    refine g7 ?_
    have hfin2 : ({ o1 with fin := true } : It).fin = true := rfl
    have hall : ({ o1 with fin := true } : It) = emits r it0 (sortI (poslist r it0)) := by
     have e1 : emits r it0 (sortI (poslist r it0)) = _ := emits_take_fin (j := j + 1) ((congrArg It.fin (hts1.trans hem)).trans hfin2)
     rw [hts1, hem] at e1
     exact e1.symm
    refine GE_to (fun a q => q.nil) (fun w s => ?_) (hr { o1 with fin := true } p1 c1 bk1 (iV tt1) hall hfin2 (fun h => by rw [← hm1]; exact hbk1 (fun e => h (List.eq_nil_of_length_eq_zero sO))))
    subst ht1_ hc1_ hm1 hx1
    exact s.low 40 (((((((hlim.consH dE dE).consH dE dE).consH dE dE).consH dE dE).consH dE dE).consH dE dE).consS dE) agx agx agx
   ·have hun : ¬ r.u0 < t := of_decide_eq_false hc2
    refine g2 ?_
    refine rq (rd_load2 47 rfl rfl rfl rfl kR dE) ?_
    refine g2 ?_
    refine rq (rfa 39) ?_
    refine rq (rd_load2 1 rfl hR r39 r40 kR dE) ?_
    refine GQ_call_v (v := .bool (decide (t < r.d0))) dE kR rfl (fun w_ s_ => (before_calls _ _ _ _ w_).mono fun e_ w2_ h_ => ⟨h_.1.trans (congrArg Ending.returned (congrArg Value.bool (decide_eq_decide.2 oM))), h_.2⟩) ?_
    refine g3 ?_
    refine GC_cond rfl (fun hc1 => ?_) (fun hc2 => ?_)
    ·have hst : ¬ t < r.d0 := by simpa using hc1
     refine g4 ?_
     refine rl (rfa 24) ?_
     refine rl (rld 0 rfl hB rfl) ?_
     refine g2 ?_
     refine rl (rfa 24) ?_
     refine gL (sto 0 rfl rfl hB rfl ?_)
     refine g3 ?_
     refine GC_tail 4 kR kR ?_
     refine g2 ?_
     refine rt (rfa 26) ?_
     refine rt (rd_load2 47 rfl rfl rfl rfl kR dE) ?_
     refine g1 ?_
     refine gL (at_call (ι := Option Addr × Nat) (fun _ => .tuple #[]) (fun _ => True) (fun _ => _) (fun x => (ky 0 27, .slice x.1 (m1 + 1) x.2) :: (ky 0 26, .slice x.1 (m1 + 1) x.2) :: _) (fun x => (0, ⟨.slice x.1 (m1 + 1) x.2, 57, 2, m1 + 1, xs1 ++ [iV t, iV 0]⟩) :: _) dE kR rfl (fun w_ s_ => (append_calls (((Lim.seqH dE _ 0 ble (Lim.putH dE _ 0 ble ((((((hlim.mono dE).consB dE).consH dE dE).consH dE dE).consH dE dE).consH dE dE))).consS dE |>.consS dE).consH dE dE) (by exact hB) (q := ⟨.slice p1 m1 c1, 57, 2, m1, xs1⟩) rfl rfl rfl ⟨rfl, rfl⟩ sO w_ s_).mono fun e w' ⟨p', c', he, hs⟩ => ⟨(p', c'), trivial, he, hs⟩) (fun | (p2, c2), _ => ?_))
     refine g6 ?_
     refine rl (rfa 25) ?_
     refine rl (rld 0 rfl hB rfl) ?_
     refine g3 ?_
     refine GC_cond rfl (fun hc1 => ?_) (fun hc2 => ?_)
     ·have hcz : cc1 ≠ 0 := bne_iff_ne.1 hc1
      have hem : emit r o1 t = { o1 with total := o1.total + 1, rem := o1.rem ++ [t], count := o1.count - 1, fin := o1.count - 1 == 0 } := emit_count hf1 hun hst oM
      refine g4 ?_
      refine rl (rfa 25) ?_
      refine rl (rld 0 rfl hB rfl) ?_
      refine g2 ?_
      refine rl (rfa 25) ?_
      refine gL (sto 0 rfl rfl hB rfl ?_)
      refine g6 ?_
      refine rl (rfa 25) ?_
      refine rl (rld 0 rfl hB rfl) ?_
      refine g3 ?_
      refine GC_cond rfl (fun hc1 => ?_) (fun hc2 => ?_)
      ·have hz : cc1 - 1 = 0 := beq_iff_eq.1 hc1
       refine g5 ?_
       refine rl (rfa 24) ?_
       refine rl (rld 0 rfl hB rfl) ?_
       refine g1 ?_
       refine rl (rfa 59) ?_
       refine gL (sto 1 rfl rfl hR r59 ?_)
       refine g6 ?_
       refine rl (rfa 28) ?_
       refine gL (sto 0 rfl rfl hB h28 ?_)
       refine g7 ?_
       have hfin2 : ({ o1 with total := o1.total + 1, rem := o1.rem ++ [t], count := o1.count - 1, fin := o1.count - 1 == 0 } : It).fin = true := (beq_iff_eq.2 oM)
       have hall : ({ o1 with total := o1.total + 1, rem := o1.rem ++ [t], count := o1.count - 1, fin := o1.count - 1 == 0 } : It) = emits r it0 (sortI (poslist r it0)) := by
        have e1 : emits r it0 (sortI (poslist r it0)) = _ := emits_take_fin (j := j + 1) ((congrArg It.fin (hts1.trans hem)).trans hfin2)
        rw [hts1, hem] at e1
        exact e1.symm
       refine GE_to (fun a q => q.nil) (fun w s => ?_) (hr { o1 with total := o1.total + 1, rem := o1.rem ++ [t], count := o1.count - 1, fin := o1.count - 1 == 0 } p2 c2 (.slice p2 (m1 + 1) c2) (iV (tt1 + 1)) hall hfin2 (fun _ => by simp only [List.length_append, List.length_singleton]; rw [hm1]))
       subst ht1_ hc1_ hm1 hx1
       rw [tcells_append] at s
       simp only [List.length_append, List.length_singleton]
       exact s.low 40 (((((((hlim.consH dE dE).consH dE dE).consH dE dE).consH dE dE).consH dE dE).consH dE dE).consS dE) agx agx agx
      ·have hz : cc1 - 1 ≠ 0 := beq_eq_false_iff_ne.1 hc2
       refine g7 ?_
       refine GE_back ⟨j + 1, { o1 with total := o1.total + 1, rem := o1.rem ++ [t], count := o1.count - 1, fin := o1.count - 1 == 0 }, tt1 + 1, cc1 - 1, m1 + 1, xs1 ++ [iV t, iV 0], p2, c2, .slice p2 (m1 + 1) c2⟩ sO ⟨by omega, by rw [hts1, hem], by simp only [beq_eq_false_iff_ne]; omega, by rw [ht1_], by rw [hc1_], by simp [hm1], by rw [hx1]; exact tcells_append _ _, by omega, by omega, by omega, fun _ => rfl⟩ kns (fun w s => by exact (s.low 45 (((((((hlim.mono dE).consH dE dE).consH dE dE).consH dE dE).consH dE dE).consS dE).consS dE) agx agx agx))
     ·have hcz : cc1 = 0 := bne_eq_false_iff_eq.1 hc2
      have hem : emit r o1 t = { o1 with total := o1.total + 1, rem := o1.rem ++ [t] } := emit_free hf1 hun hst oM
      refine g7 ?_
      refine GE_back ⟨j + 1, { o1 with total := o1.total + 1, rem := o1.rem ++ [t] }, tt1 + 1, cc1, m1 + 1, xs1 ++ [iV t, iV 0], p2, c2, .slice p2 (m1 + 1) c2⟩ sO ⟨by omega, by rw [hts1, hem], hf1, by rw [ht1_], hc1_, by simp [hm1], by rw [hx1]; exact tcells_append _ _, hcc1, by omega, by omega, fun _ => rfl⟩ kns (fun w s => by exact (s.low 45 (((((((hlim.mono dE).consH dE dE).consH dE dE).consH dE dE).consH dE dE).consS dE).consS dE) agx agx agx))
    ·have hst : t < r.d0 := by simpa using hc2
     have hem : emit r o1 t = o1 := emit_early hf1 hun hst
     refine g7 ?_
     refine GE_back ⟨j + 1, o1, tt1, cc1, m1, xs1, p1, c1, bk1⟩ sO ⟨by omega, by rw [hts1, hem], hf1, ht1_, hc1_, hm1, hx1, hcc1, ⟨htb1.1, by omega⟩, by omega, hbk1⟩ kns (fun w s => by exact (s.low 45 (((((((hlim.mono dE).consH dE dE).consH dE dE).consH dE dE).consH dE dE).consS dE).consS dE) agx agx agx))
  ·have hge : ¬ j < pm := by have := of_decide_eq_false hc2; omega
   obtain rfl : j = pm := by omega
   rw [← hll, List.take_length] at ho1
   refine g4 ?_
   refine GE_to kns (fun w s => ?_) (hn o1 p1 c1 bk1 ho1 hf1 (fun h => by rw [← hm1]; exact hbk1 (fun e => h (List.eq_nil_of_length_eq_zero oM))))
   subst ht1_ hc1_ hm1 hx1
   exact s.low 40 (((((hlim.consH dE dE).consH dE dE).consH dE dE).consH dE dE).consS dE) agx agx agx
end
end Go.Proofs.YtdbbifbmkfmbkaaGreat
namespace Go.Proofs.YtdbbifbmkfmbkaaGreat
open Go.RowKit Go.Fr Go.Tab
section
variable {F : Nat → Prop} {w0 : World} {B : List (Nat × Nat)} {H : List (Nat × Value)} {S : List (Nat × Slc)}
open Go.Md
theorem calc_span {S0 : List (Nat × Slc)} {H0 : List (Nat × Value)} {r : Ru} {l : Ra} {it rb : Nat} {s : It} {a : Ad} (st : St F w0 S0 H0 it rb r l s a B H S) (hr : RuOk r) (hk : ItOk r s) : ∀ w, Sees F w0 B H S w → Calls Go.Proofs.Tryz.prog 114 #[.pointer (some ⟨it, 7, none⟩), iV r.freq, iV s.y, iV s.mo, iV s.d] w fun e w' => e = .returned (.tuple #[iV (span r s).1, iV (span r s).2]) ∧ Sees F w0 B H S w' := by
 have hf := hr.freq
 unfold span
 by_cases h0 : r.freq = 0
 ·rw [if_pos h0, h0]; exact calc_yearly st.hB st.h10
 ·rw [if_neg h0]
  by_cases h1 : r.freq = 1
  ·rw [if_pos h1, h1]
   have hm := hk.mo
   exact calc_monthly st.hB st.h16 st.hS7 hk.mo (by rw [List.getElem?_map, rg_get oM]; rfl) (by rw [List.getElem?_map, rg_get oM]; rfl)
  ·rw [if_neg h1]
   have hy := hk.y
   have hd := hk.d
   have hyd := yday_bd hk.mo ⟨hk.d.1, hk.day oM⟩
   have hno := day_no_bd (y := s.y) (m := s.mo) (d := s.d) oM hk.mo oM
   by_cases h2 : r.freq = 2
   ·simp only [if_pos h2]
    rw [h2]
    exact calc_weekly st.hB oM hk.mo oM hno st.hR st.h7 st.r42 hr.wkst (yw := ywd s.ly) (by unfold ywd; omega) st.h19 st.hS6 rfl
   ·simp only [if_neg h2]
    exact calc_daily st.hB oM hk.mo oM hno oM
theorem round_front {Q : Exit → Act → World → Prop} (hblind : Blind Q) {S0 : List (Nat × Slc)} {H0 : List (Nat × Value)} {r : Ru} {l : Ra} {it rb : Nat} {s : It} {a : Ad} (st : St F w0 S0 H0 it rb r l s a B H S) (hr : RuOk r) (hk : ItOk r s) (hrem : s.rem = []) (hfin : s.fin = false) (hsl : r.setpos.length ≤ 1000) (hsb : ∀ q ∈ r.setpos, -1000 ≤ q ∧ q ≤ 1000)
  (hn : ∀ o a' H' S', o = out r s → o.fin = false → Same s o → St F w0 S0 H0 it rb r l o a' B H' S' → GC Go.Proofs.Tryz.prog (Go.Fr.part [1, 1, 0, 0, 1, 0, 1, 1, 1, 1, 1, 1] (Go.Fr.bodyOf Tryz.f96)) Q 1418 [(0, pT it), (2, pT rb), (6, .bool (filtered r s))] F w0 B H' S')
  (hq : ∀ o a' H' S', o = out r s → o.fin = true → Same s o → St F w0 S0 H0 it rb r l o a' B H' S' → GE Q .ret 1418 [] F w0 B H' S') : GC Go.Proofs.Tryz.prog (Go.Fr.part [1, 1, 0, 0, 1, 0] (Go.Fr.bodyOf Tryz.f96)) Q 1418 [(0, pT it), (2, pT rb)] F w0 B H S := by
 obtain ⟨hs1, hs2, hs3, hs4, hs5, hs6⟩ := span_bd hr hk
 obtain ⟨ht1, ht2, ht3⟩ := tabs_bd hr hk
 have hlp := Cal.lp_01 s.ly
 have hny := nY_lp s.ly
 have hy := hk.y
 have hly := hk.ly
 obtain ⟨e1_, e2_, e3_, e4_⟩ := st.hq0 hrem
 have hst26 := st.h26
 have hstS0 := st.hS0
 rw [hrem, e1_, e2_] at hst26
 rw [e3_, e4_] at hstS0
 refine g1 ?_
 refine GC_anyB (fun i => false) kR ?_
 refine gr 0 rfl (rd_move rfl) ?_
 refine gr 1 rfl (rd_nilCheck rfl) ?_
 refine gr 2 rfl (rfa 7) ?_
 refine gr 3 rfl (rd_move rfl) ?_
 refine gr 4 rfl (rd_nilCheck rfl) ?_
 refine gr 5 rfl (rfa 38) ?_
 refine gr 6 rfl (rld 1 rfl st.hR st.r38) ?_
 refine gr 7 rfl (rd_move rfl) ?_
 refine gr 8 rfl (rd_nilCheck rfl) ?_
 refine gr 9 rfl (rfa 0) ?_
 refine gr 10 rfl (rld 0 rfl st.hB st.h0) ?_
 refine gr 11 rfl (rd_move rfl) ?_
 refine gr 12 rfl (rd_nilCheck rfl) ?_
 refine gr 13 rfl (rfa 1) ?_
 refine gr 14 rfl (rld 0 rfl st.hB st.h1) ?_
 refine gr 15 rfl (rd_move rfl) ?_
 refine gr 16 rfl (rd_nilCheck rfl) ?_
 refine gr 17 rfl (rfa 2) ?_
 refine gr 18 rfl (rld 0 rfl st.hB st.h2) ?_
 refine gn 19 rfl (at_call_same (v := .tuple #[iV (span r s).1, iV (span r s).2]) dE kR rfl (calc_span st hr hk) (gk ?_))
 refine gn 20 rfl (at_rd dE (rd_move rfl) (gk ?_))
 refine gr 21 rfl (rd_extract rfl rfl) ?_
 refine gr 22 rfl (rd_extract rfl rfl) ?_
 refine gn 23 rfl (at_rd dE (rd_assign rfl) (gk ?_))
 refine gn 24 rfl (at_rd dE (rd_assign rfl) (gk ?_))
 refine GA_end kR ?_
 refine g6 ?_
 refine gL (at_call_row1 1 (fun p c => (ky 0 29, .slice p ((span r s).2 - (span r s).1).toNat c)) (fun p c => ⟨.slice p ((span r s).2 - (span r s).1).toNat c, 156, 2, ((span r s).2 - (span r s).1).toNat, dayCells (span r s).1 ((span r s).2 - (span r s).1).toNat⟩) dE kR rfl (fill_days (st.lim.mono dE) st.hB st.hS1 st.h29 oM oM) (fun dp dc => ?_))
 refine GK_have (fun w s => s.head 1 rfl oM) fun hcap => ?_
 obtain ⟨db, rfl, hdc⟩ := hcap
 refine g6 ?_
 refine rl (rfa 29) ?_
 refine rl (rld 0 rfl st.hB rfl) ?_
 refine g16 ?_
 refine GC_to (L' := [(0, pT it), (2, pT rb), (5, sL db ((span r s).2 - (span r s).1).toNat dc), (6, .bool false), (98, sL db ((span r s).2 - (span r s).1).toNat dc), (99, iV (((span r s).2 - (span r s).1).toNat : Nat)), (100, iV 0)]) kns (fun w s => s) ?_
 refine filter_loop (r := r) (it0 := s) (B := B) (H := ((ky 0 29, sL db ((span r s).2 - (span r s).1).toNat dc) :: H)) (S := ((1, ⟨sL db ((span r s).2 - (span r s).1).toNat dc, 156, 2, ((span r s).2 - (span r s).1).toNat, dayCells (span r s).1 ((span r s).2 - (span r s).1).toNat⟩) :: S)) (n := ((span r s).2 - (span r s).1).toNat) (db := db) (dc := dc) (a := (span r s).1) (hB := st.hB) (hR := st.hR) (r47 := st.r47) (hl47 := st.hl47) (hI47 := (st.hI47.to aG)) (r48 := st.r48) (hl48 := st.hl48) (hI48 := (st.hI48.to aG)) (r49 := st.r49) (hl49 := st.hl49) (hI49 := (st.hI49.to aG)) (r50 := st.r50) (hl50 := st.hl50) (hI50 := (st.hI50.to aG)) (r52 := st.r52) (hl52 := st.hl52) (hI52 := (st.hI52.to aG)) (r51 := st.r51) (r57 := st.r57) (h20 := st.h20) (hp20 := st.hp20) (hS8 := st.hS8) (h21 := st.h21) (hp21 := st.hp21) (hS9 := st.hS9) (h22 := st.h22) (hp22 := st.hp22) (hS10 := st.hS10) (h10 := st.h10) (h11 := st.h11) (h15 := st.h15) (h17 := st.h17) (h18 := st.h18) (h19 := st.h19) (hS3 := st.hS3) (hS4 := st.hS4) (hS5 := st.hS5) (hS6 := st.hS6) (hlim := ((st.lim.mono dE).consH dE dE).consS dE) (hS1 := rfl) (ha := hs1) (han := by omega) (hwn := fun h => by have := ht1 h; omega) (hnw := fun h => by have := ht2 h; omega) (hea := fun h => by have := ht3 h; omega) ?_
 refine g6 ?_
 refine rl (rfa 46) ?_
 refine rl (rld 1 rfl st.hR st.r46) ?_
 refine g1 ?_
 rcases Decidable.em (r.setpos.length ≠ 0) with hsp | hsp
 ·refine rl ((rd_neq rfl rfl).to (v' := .bool true) (congrArg Value.bool (n_ne oM))) ?_
  refine g6 ?_
  refine rl (rfa 23) ?_
  refine g1 ?_
  refine rl (rld 0 rfl st.hB st.h23) ?_
  refine g3 ?_
  rcases Decidable.em (s.ts.length ≠ 0) with htp | htp
  ·have hout : out r s = emits r s (sortI (poslist r s)) := by unfold out; rw [if_pos ⟨hsp, htp⟩]
   refine rl ((rd_neq rfl rfl).to (v' := .bool true) (congrArg Value.bool (n_ne oM))) ?_
   refine g3 ?_
   refine GC_is_true rfl rfl ?_
   refine GC_to (L' := [(0, pT it), (2, pT rb), (5, sL db ((span r s).2 - (span r s).1).toNat dc), (6, .bool (filtered r s))]) kns (fun w s => s) ?_
   refine pos_loop (B := B) (H := ((ky 0 29, sL db ((span r s).2 - (span r s).1).toNat dc) :: H)) (S := ((1, ⟨sL db ((span r s).2 - (span r s).1).toNat dc, 156, 2, ((span r s).2 - (span r s).1).toNat, fltCells (span r s).1 ((span r s).2 - (span r s).1).toNat (fun j => !bad r s ((span r s).1 + j))⟩) :: ((1, ⟨sL db ((span r s).2 - (span r s).1).toNat dc, 156, 2, ((span r s).2 - (span r s).1).toNat, dayCells (span r s).1 ((span r s).2 - (span r s).1).toNat⟩) :: S))) (db := db) (dc := dc) (hblind := (by repeat (first | exact hblind | apply Blind.then | apply Blind.inBlock))) (r := r) (it0 := s) (a := (span r s).1) (n := ((span r s).2 - (span r s).1).toNat) (hlim := ((((st.lim).consH dE dE).consS dE).consS dE)) (hB := st.hB) (hR := st.hR) (hS1 := rfl) (ha := hs1) (han := by omega) (hly := by omega) (h12 := st.h12) (h13 := st.h13) (h23 := st.h23) (hS2 := st.hS2) (hts := hk.ts) (hspan := by rw [Int.toNat_of_nonneg oM]; exact Prod.ext rfl sO) (htn := ⟨by omega, hk.tsn⟩) (r46 := st.r46) (hI46 := st.hI46.to aG) (hsl := hsl) (hsb := hsb) (r39 := st.r39) (r40 := st.r40) (r44 := st.r44) (r45 := st.r45) (hu := hr.until0) (hu1 := hr.until1) (r59 := st.r59) (h28 := st.h28) (h24 := st.h24) (h25 := st.h25) (h26 := hst26) (h27 := st.h27) (hS0 := hstS0) (hrem := hrem) (hfin := hfin) (htot := by have := hk.total; rw [hrem] at this; simp at this; omega) (hcnt := hk.count) (hn := fun o p c bk ho hof hbk => ?_) (hr := fun o p c bk ln ho hof hbk => ?_)
   ·have hsame := emits_same r (sortI (poslist r s)) s
    rw [← ho] at hsame
    refine g1 ?_
    obtain ⟨y_, mo_, d_, h_, mi_, s_, wd_, ly_, lm_, wno_, nwm_, eas_, ts_, tt_, cc_, rem_, fin_⟩ := o
    obtain ⟨q1, q2, q3, q4, q5, q6, q7, q8, q9, q10, q11, q12, q13⟩ := hsame
    simp only at q1 q2 q3 q4 q5 q6 q7 q8 q9 q10 q11 q12 q13 hof
    subst q1 q2 q3 q4 q5 q6 q7 q8 q9 q10 q11 q12 q13 hof
    refine GC_to (L' := [(0, pT it), (2, pT rb), (6, .bool (filtered r s))]) kns (fun w s => s) ?_
    refine hn _ ({ a with rp := p, rc := c, rs := p, rk := c, rn := rem_.length, rj := 0, rall := rem_, bk := bk, dp := some ⟨db, 0, none⟩, dc := dc, dn := ((span r s).2 - (span r s).1).toNat, dxs := fltCells (span r s).1 ((span r s).2 - (span r s).1).toNat (fun j => !bad r s ((span r s).1 + j)) } : Ad) _ _ (ho.trans hout.symm) rfl ⟨rfl, rfl, rfl, rfl, rfl, rfl, rfl, rfl, rfl, rfl, rfl, rfl, rfl⟩ ?_
    exact ⟨st.hB, st.hR, (((((((st.lim.consH dE dE).consS dE).consS dE).consH dE dE).consH dE dE).consH dE dE).consH dE dE).consS dE, st.h0, st.h1, st.h2, st.h3, st.h4, st.h5, st.h6, st.h7, st.h8, st.h9, st.h10, st.h11, st.h12, st.h13, st.h14, st.h15, st.h16, st.h17, st.h18, st.h19, st.h20, st.h21, st.h22, st.h23, rfl, rfl, rfl, rfl, (by rw [← hfin]; exact st.h28), rfl, rfl, rfl, st.hS2, st.hS3, st.hS4, st.hS5, st.hS6, st.hS7, st.hS8, st.hS9, st.hS10, st.hp20, st.hp21, st.hp22, st.c6, (fun k_ h1_ h2_ => Eq.trans aH (st.frS k_ h1_ h2_)), (fun k_ h1_ h2_ o_ ho_ => Eq.trans (by repeat (first | rfl | rw [lkp_ky_ne oM ho_ dE])) (st.frH k_ h1_ h2_ o_ ho_)), (fun h => ⟨rfl, rfl, by rw [show rem_ = [] from h]; rfl, h⟩), (fun h => ⟨fun g e => e, rfl, rfl, List.length_pos_iff.2 h, rfl, hbk h⟩), st.r38, st.r39, st.r40, st.r41, st.r42, st.r44, st.r45, st.r46, st.r47, st.r48, st.r49, st.r50, st.r51, st.r52, st.r53, st.r54, st.r55, st.r56, st.r57, st.r59, (st.hI46.to aG), (st.hI47.to aG), (st.hI48.to aG), (st.hI49.to aG), (st.hI50.to aG), (st.hI51.to aG), (st.hI52.to aG), (st.hI54.to aG), (st.hI55.to aG), (st.hI56.to aG), (st.hI57.to aG), st.hl46, st.hl47, st.hl48, st.hl49, st.hl50, st.hl51, st.hl52, st.hl54, st.hl55, st.hl56, st.hl57⟩
   ·have hsame := emits_same r (sortI (poslist r s)) s
    rw [← ho] at hsame
    obtain ⟨y_, mo_, d_, h_, mi_, s_, wd_, ly_, lm_, wno_, nwm_, eas_, ts_, tt_, cc_, rem_, fin_⟩ := o
    obtain ⟨q1, q2, q3, q4, q5, q6, q7, q8, q9, q10, q11, q12, q13⟩ := hsame
    simp only at q1 q2 q3 q4 q5 q6 q7 q8 q9 q10 q11 q12 q13 hof
    subst q1 q2 q3 q4 q5 q6 q7 q8 q9 q10 q11 q12 q13 hof
    refine g1 ?_
    refine hq _ ({ a with rp := p, rc := c, rs := p, rk := c, rn := rem_.length, rj := 0, rall := rem_, bk := bk, dp := some ⟨db, 0, none⟩, dc := dc, dn := ((span r s).2 - (span r s).1).toNat, dxs := fltCells (span r s).1 ((span r s).2 - (span r s).1).toNat (fun j => !bad r s ((span r s).1 + j)) , ln := ln } : Ad) _ _ (ho.trans hout.symm) rfl ⟨rfl, rfl, rfl, rfl, rfl, rfl, rfl, rfl, rfl, rfl, rfl, rfl, rfl⟩ ?_
    exact ⟨st.hB, st.hR, (((((((((st.lim.consH dE dE).consS dE).consS dE).consH dE dE).consH dE dE).consH dE dE).consH dE dE).consS dE).consH dE dE).consH dE dE, st.h0, st.h1, st.h2, st.h3, st.h4, st.h5, st.h6, st.h7, st.h8, st.h9, st.h10, st.h11, st.h12, st.h13, st.h14, st.h15, st.h16, st.h17, st.h18, st.h19, st.h20, st.h21, st.h22, st.h23, rfl, rfl, rfl, rfl, rfl, rfl, rfl, rfl, st.hS2, st.hS3, st.hS4, st.hS5, st.hS6, st.hS7, st.hS8, st.hS9, st.hS10, st.hp20, st.hp21, st.hp22, st.c6, (fun k_ h1_ h2_ => Eq.trans aH (st.frS k_ h1_ h2_)), (fun k_ h1_ h2_ o_ ho_ => Eq.trans (by repeat (first | rfl | rw [lkp_ky_ne oM ho_ dE])) (st.frH k_ h1_ h2_ o_ ho_)), (fun h => ⟨rfl, rfl, by rw [show rem_ = [] from h]; rfl, h⟩), (fun h => ⟨fun g e => e, rfl, rfl, List.length_pos_iff.2 h, rfl, hbk h⟩), st.r38, st.r39, st.r40, st.r41, st.r42, st.r44, st.r45, st.r46, st.r47, st.r48, st.r49, st.r50, st.r51, st.r52, st.r53, st.r54, st.r55, st.r56, st.r57, rfl, (st.hI46.to aG), (st.hI47.to aG), (st.hI48.to aG), (st.hI49.to aG), (st.hI50.to aG), (st.hI51.to aG), (st.hI52.to aG), (st.hI54.to aG), (st.hI55.to aG), (st.hI56.to aG), (st.hI57.to aG), st.hl46, st.hl47, st.hl48, st.hl49, st.hl50, st.hl51, st.hl52, st.hl54, st.hl55, st.hl56, st.hl57⟩
  ·have hout : out r s = outTo r s (span r s).1 ((span r s).2 - (span r s).1).toNat := by rw [out_outTo r s (.inr oM)]; rfl
   refine rl ((rd_neq rfl rfl).to (v' := .bool false) (congrArg Value.bool (n_eq oM))) ?_
   refine g3 ?_
   refine GC_is_false rfl rfl ?_
   refine g7 ?_
   refine GC_to (L' := [(0, pT it), (2, pT rb), (6, .bool (filtered r s)), (547, sL db ((span r s).2 - (span r s).1).toNat dc), (548, iV (((span r s).2 - (span r s).1).toNat : Nat)), (549, iV 0)]) kns (fun w s => s) ?_
   refine out_loop (B := B) (H := ((ky 0 29, sL db ((span r s).2 - (span r s).1).toNat dc) :: H)) (S := ((1, ⟨sL db ((span r s).2 - (span r s).1).toNat dc, 156, 2, ((span r s).2 - (span r s).1).toNat, fltCells (span r s).1 ((span r s).2 - (span r s).1).toNat (fun j => !bad r s ((span r s).1 + j))⟩) :: ((1, ⟨sL db ((span r s).2 - (span r s).1).toNat dc, 156, 2, ((span r s).2 - (span r s).1).toNat, dayCells (span r s).1 ((span r s).2 - (span r s).1).toNat⟩) :: S))) (db := db) (dc := dc) (hblind := (by repeat (first | exact hblind | apply Blind.then | apply Blind.inBlock))) (r := r) (it0 := s) (a := (span r s).1) (n := ((span r s).2 - (span r s).1).toNat) (hlim := ((((st.lim).consH dE dE).consS dE).consS dE)) (hB := st.hB) (hR := st.hR) (hS1 := rfl) (ha := hs1) (han := by omega) (hly := by omega) (h12 := st.h12) (h13 := st.h13) (h23 := st.h23) (hS2 := st.hS2) (hts := hk.ts) (hbig := by have := hk.tsn; have h2 := Nat.mul_le_mul_left ((span r s).2 - (span r s).1).toNat this; omega) (r39 := st.r39) (r40 := st.r40) (r44 := st.r44) (r45 := st.r45) (hu := hr.until0) (hu1 := hr.until1) (r59 := st.r59) (h28 := st.h28) (h24 := st.h24) (h25 := st.h25) (h26 := hst26) (h27 := st.h27) (hS0 := hstS0) (hrem := hrem) (hfin := hfin) (htot := by have := hk.total; rw [hrem] at this; simp at this; omega) (hcnt := hk.count) (hn := fun o p c bk ho hof hbk => ?_) (hr := fun o p c bk ln ho hof hbk => ?_)
   ·have hsame := outTo_same r s (span r s).1 ((span r s).2 - (span r s).1).toNat
    rw [← ho] at hsame
    refine g1 ?_
    obtain ⟨y_, mo_, d_, h_, mi_, s_, wd_, ly_, lm_, wno_, nwm_, eas_, ts_, tt_, cc_, rem_, fin_⟩ := o
    obtain ⟨q1, q2, q3, q4, q5, q6, q7, q8, q9, q10, q11, q12, q13⟩ := hsame
    simp only at q1 q2 q3 q4 q5 q6 q7 q8 q9 q10 q11 q12 q13 hof
    subst q1 q2 q3 q4 q5 q6 q7 q8 q9 q10 q11 q12 q13 hof
    refine GC_to (L' := [(0, pT it), (2, pT rb), (6, .bool (filtered r s))]) kns (fun w s => s) ?_
    refine hn _ ({ a with rp := p, rc := c, rs := p, rk := c, rn := rem_.length, rj := 0, rall := rem_, bk := bk, dp := some ⟨db, 0, none⟩, dc := dc, dn := ((span r s).2 - (span r s).1).toNat, dxs := fltCells (span r s).1 ((span r s).2 - (span r s).1).toNat (fun j => !bad r s ((span r s).1 + j)) } : Ad) _ _ (ho.trans hout.symm) rfl ⟨rfl, rfl, rfl, rfl, rfl, rfl, rfl, rfl, rfl, rfl, rfl, rfl, rfl⟩ ?_
    exact ⟨st.hB, st.hR, (((((((st.lim.consH dE dE).consS dE).consS dE).consH dE dE).consH dE dE).consH dE dE).consH dE dE).consS dE, st.h0, st.h1, st.h2, st.h3, st.h4, st.h5, st.h6, st.h7, st.h8, st.h9, st.h10, st.h11, st.h12, st.h13, st.h14, st.h15, st.h16, st.h17, st.h18, st.h19, st.h20, st.h21, st.h22, st.h23, rfl, rfl, rfl, rfl, (by rw [← hfin]; exact st.h28), rfl, rfl, rfl, st.hS2, st.hS3, st.hS4, st.hS5, st.hS6, st.hS7, st.hS8, st.hS9, st.hS10, st.hp20, st.hp21, st.hp22, st.c6, (fun k_ h1_ h2_ => Eq.trans aH (st.frS k_ h1_ h2_)), (fun k_ h1_ h2_ o_ ho_ => Eq.trans (by repeat (first | rfl | rw [lkp_ky_ne oM ho_ dE])) (st.frH k_ h1_ h2_ o_ ho_)), (fun h => ⟨rfl, rfl, by rw [show rem_ = [] from h]; rfl, h⟩), (fun h => ⟨fun g e => e, rfl, rfl, List.length_pos_iff.2 h, rfl, hbk h⟩), st.r38, st.r39, st.r40, st.r41, st.r42, st.r44, st.r45, st.r46, st.r47, st.r48, st.r49, st.r50, st.r51, st.r52, st.r53, st.r54, st.r55, st.r56, st.r57, st.r59, (st.hI46.to aG), (st.hI47.to aG), (st.hI48.to aG), (st.hI49.to aG), (st.hI50.to aG), (st.hI51.to aG), (st.hI52.to aG), (st.hI54.to aG), (st.hI55.to aG), (st.hI56.to aG), (st.hI57.to aG), st.hl46, st.hl47, st.hl48, st.hl49, st.hl50, st.hl51, st.hl52, st.hl54, st.hl55, st.hl56, st.hl57⟩
   ·have hsame := outTo_same r s (span r s).1 ((span r s).2 - (span r s).1).toNat
    rw [← ho] at hsame
    obtain ⟨y_, mo_, d_, h_, mi_, s_, wd_, ly_, lm_, wno_, nwm_, eas_, ts_, tt_, cc_, rem_, fin_⟩ := o
    obtain ⟨q1, q2, q3, q4, q5, q6, q7, q8, q9, q10, q11, q12, q13⟩ := hsame
    simp only at q1 q2 q3 q4 q5 q6 q7 q8 q9 q10 q11 q12 q13 hof
    subst q1 q2 q3 q4 q5 q6 q7 q8 q9 q10 q11 q12 q13 hof
    refine g1 ?_
    refine hq _ ({ a with rp := p, rc := c, rs := p, rk := c, rn := rem_.length, rj := 0, rall := rem_, bk := bk, dp := some ⟨db, 0, none⟩, dc := dc, dn := ((span r s).2 - (span r s).1).toNat, dxs := fltCells (span r s).1 ((span r s).2 - (span r s).1).toNat (fun j => !bad r s ((span r s).1 + j)) , ln := ln } : Ad) _ _ (ho.trans hout.symm) rfl ⟨rfl, rfl, rfl, rfl, rfl, rfl, rfl, rfl, rfl, rfl, rfl, rfl, rfl⟩ ?_
    exact ⟨st.hB, st.hR, (((((((((st.lim.consH dE dE).consS dE).consS dE).consH dE dE).consH dE dE).consH dE dE).consH dE dE).consS dE).consH dE dE).consH dE dE, st.h0, st.h1, st.h2, st.h3, st.h4, st.h5, st.h6, st.h7, st.h8, st.h9, st.h10, st.h11, st.h12, st.h13, st.h14, st.h15, st.h16, st.h17, st.h18, st.h19, st.h20, st.h21, st.h22, st.h23, rfl, rfl, rfl, rfl, rfl, rfl, rfl, rfl, st.hS2, st.hS3, st.hS4, st.hS5, st.hS6, st.hS7, st.hS8, st.hS9, st.hS10, st.hp20, st.hp21, st.hp22, st.c6, (fun k_ h1_ h2_ => Eq.trans aH (st.frS k_ h1_ h2_)), (fun k_ h1_ h2_ o_ ho_ => Eq.trans (by repeat (first | rfl | rw [lkp_ky_ne oM ho_ dE])) (st.frH k_ h1_ h2_ o_ ho_)), (fun h => ⟨rfl, rfl, by rw [show rem_ = [] from h]; rfl, h⟩), (fun h => ⟨fun g e => e, rfl, rfl, List.length_pos_iff.2 h, rfl, hbk h⟩), st.r38, st.r39, st.r40, st.r41, st.r42, st.r44, st.r45, st.r46, st.r47, st.r48, st.r49, st.r50, st.r51, st.r52, st.r53, st.r54, st.r55, st.r56, st.r57, rfl, (st.hI46.to aG), (st.hI47.to aG), (st.hI48.to aG), (st.hI49.to aG), (st.hI50.to aG), (st.hI51.to aG), (st.hI52.to aG), (st.hI54.to aG), (st.hI55.to aG), (st.hI56.to aG), (st.hI57.to aG), st.hl46, st.hl47, st.hl48, st.hl49, st.hl50, st.hl51, st.hl52, st.hl54, st.hl55, st.hl56, st.hl57⟩
 ·have hout : out r s = outTo r s (span r s).1 ((span r s).2 - (span r s).1).toNat := by rw [out_outTo r s (.inl oM)]; rfl
  refine rl ((rd_neq rfl rfl).to (v' := .bool false) (congrArg Value.bool (n_eq oM))) ?_
  refine g10 ?_
  refine GC_is_false rfl rfl ?_
  refine g7 ?_
  refine GC_to (L' := [(0, pT it), (2, pT rb), (6, .bool (filtered r s)), (547, sL db ((span r s).2 - (span r s).1).toNat dc), (548, iV (((span r s).2 - (span r s).1).toNat : Nat)), (549, iV 0)]) kns (fun w s => s) ?_
  refine out_loop (B := B) (H := ((ky 0 29, sL db ((span r s).2 - (span r s).1).toNat dc) :: H)) (S := ((1, ⟨sL db ((span r s).2 - (span r s).1).toNat dc, 156, 2, ((span r s).2 - (span r s).1).toNat, fltCells (span r s).1 ((span r s).2 - (span r s).1).toNat (fun j => !bad r s ((span r s).1 + j))⟩) :: ((1, ⟨sL db ((span r s).2 - (span r s).1).toNat dc, 156, 2, ((span r s).2 - (span r s).1).toNat, dayCells (span r s).1 ((span r s).2 - (span r s).1).toNat⟩) :: S))) (db := db) (dc := dc) (hblind := (by repeat (first | exact hblind | apply Blind.then | apply Blind.inBlock))) (r := r) (it0 := s) (a := (span r s).1) (n := ((span r s).2 - (span r s).1).toNat) (hlim := ((((st.lim).consH dE dE).consS dE).consS dE)) (hB := st.hB) (hR := st.hR) (hS1 := rfl) (ha := hs1) (han := by omega) (hly := by omega) (h12 := st.h12) (h13 := st.h13) (h23 := st.h23) (hS2 := st.hS2) (hts := hk.ts) (hbig := by have := hk.tsn; have h2 := Nat.mul_le_mul_left ((span r s).2 - (span r s).1).toNat this; omega) (r39 := st.r39) (r40 := st.r40) (r44 := st.r44) (r45 := st.r45) (hu := hr.until0) (hu1 := hr.until1) (r59 := st.r59) (h28 := st.h28) (h24 := st.h24) (h25 := st.h25) (h26 := hst26) (h27 := st.h27) (hS0 := hstS0) (hrem := hrem) (hfin := hfin) (htot := by have := hk.total; rw [hrem] at this; simp at this; omega) (hcnt := hk.count) (hn := fun o p c bk ho hof hbk => ?_) (hr := fun o p c bk ln ho hof hbk => ?_)
  ·have hsame := outTo_same r s (span r s).1 ((span r s).2 - (span r s).1).toNat
   rw [← ho] at hsame
   refine g1 ?_
   obtain ⟨y_, mo_, d_, h_, mi_, s_, wd_, ly_, lm_, wno_, nwm_, eas_, ts_, tt_, cc_, rem_, fin_⟩ := o
   obtain ⟨q1, q2, q3, q4, q5, q6, q7, q8, q9, q10, q11, q12, q13⟩ := hsame
   simp only at q1 q2 q3 q4 q5 q6 q7 q8 q9 q10 q11 q12 q13 hof
   subst q1 q2 q3 q4 q5 q6 q7 q8 q9 q10 q11 q12 q13 hof
   refine GC_to (L' := [(0, pT it), (2, pT rb), (6, .bool (filtered r s))]) kns (fun w s => s) ?_
   refine hn _ ({ a with rp := p, rc := c, rs := p, rk := c, rn := rem_.length, rj := 0, rall := rem_, bk := bk, dp := some ⟨db, 0, none⟩, dc := dc, dn := ((span r s).2 - (span r s).1).toNat, dxs := fltCells (span r s).1 ((span r s).2 - (span r s).1).toNat (fun j => !bad r s ((span r s).1 + j)) } : Ad) _ _ (ho.trans hout.symm) rfl ⟨rfl, rfl, rfl, rfl, rfl, rfl, rfl, rfl, rfl, rfl, rfl, rfl, rfl⟩ ?_
   exact ⟨st.hB, st.hR, (((((((st.lim.consH dE dE).consS dE).consS dE).consH dE dE).consH dE dE).consH dE dE).consH dE dE).consS dE, st.h0, st.h1, st.h2, st.h3, st.h4, st.h5, st.h6, st.h7, st.h8, st.h9, st.h10, st.h11, st.h12, st.h13, st.h14, st.h15, st.h16, st.h17, st.h18, st.h19, st.h20, st.h21, st.h22, st.h23, rfl, rfl, rfl, rfl, (by rw [← hfin]; exact st.h28), rfl, rfl, rfl, st.hS2, st.hS3, st.hS4, st.hS5, st.hS6, st.hS7, st.hS8, st.hS9, st.hS10, st.hp20, st.hp21, st.hp22, st.c6, (fun k_ h1_ h2_ => Eq.trans aH (st.frS k_ h1_ h2_)), (fun k_ h1_ h2_ o_ ho_ => Eq.trans (by repeat (first | rfl | rw [lkp_ky_ne oM ho_ dE])) (st.frH k_ h1_ h2_ o_ ho_)), (fun h => ⟨rfl, rfl, by rw [show rem_ = [] from h]; rfl, h⟩), (fun h => ⟨fun g e => e, rfl, rfl, List.length_pos_iff.2 h, rfl, hbk h⟩), st.r38, st.r39, st.r40, st.r41, st.r42, st.r44, st.r45, st.r46, st.r47, st.r48, st.r49, st.r50, st.r51, st.r52, st.r53, st.r54, st.r55, st.r56, st.r57, st.r59, (st.hI46.to aG), (st.hI47.to aG), (st.hI48.to aG), (st.hI49.to aG), (st.hI50.to aG), (st.hI51.to aG), (st.hI52.to aG), (st.hI54.to aG), (st.hI55.to aG), (st.hI56.to aG), (st.hI57.to aG), st.hl46, st.hl47, st.hl48, st.hl49, st.hl50, st.hl51, st.hl52, st.hl54, st.hl55, st.hl56, st.hl57⟩
  ·have hsame := outTo_same r s (span r s).1 ((span r s).2 - (span r s).1).toNat
   rw [← ho] at hsame
   obtain ⟨y_, mo_, d_, h_, mi_, s_, wd_, ly_, lm_, wno_, nwm_, eas_, ts_, tt_, cc_, rem_, fin_⟩ := o
   obtain ⟨q1, q2, q3, q4, q5, q6, q7, q8, q9, q10, q11, q12, q13⟩ := hsame
   simp only at q1 q2 q3 q4 q5 q6 q7 q8 q9 q10 q11 q12 q13 hof
   subst q1 q2 q3 q4 q5 q6 q7 q8 q9 q10 q11 q12 q13 hof
   refine g1 ?_
   refine hq _ ({ a with rp := p, rc := c, rs := p, rk := c, rn := rem_.length, rj := 0, rall := rem_, bk := bk, dp := some ⟨db, 0, none⟩, dc := dc, dn := ((span r s).2 - (span r s).1).toNat, dxs := fltCells (span r s).1 ((span r s).2 - (span r s).1).toNat (fun j => !bad r s ((span r s).1 + j)) , ln := ln } : Ad) _ _ (ho.trans hout.symm) rfl ⟨rfl, rfl, rfl, rfl, rfl, rfl, rfl, rfl, rfl, rfl, rfl, rfl, rfl⟩ ?_
   exact ⟨st.hB, st.hR, (((((((((st.lim.consH dE dE).consS dE).consS dE).consH dE dE).consH dE dE).consH dE dE).consH dE dE).consS dE).consH dE dE).consH dE dE, st.h0, st.h1, st.h2, st.h3, st.h4, st.h5, st.h6, st.h7, st.h8, st.h9, st.h10, st.h11, st.h12, st.h13, st.h14, st.h15, st.h16, st.h17, st.h18, st.h19, st.h20, st.h21, st.h22, st.h23, rfl, rfl, rfl, rfl, rfl, rfl, rfl, rfl, st.hS2, st.hS3, st.hS4, st.hS5, st.hS6, st.hS7, st.hS8, st.hS9, st.hS10, st.hp20, st.hp21, st.hp22, st.c6, (fun k_ h1_ h2_ => Eq.trans aH (st.frS k_ h1_ h2_)), (fun k_ h1_ h2_ o_ ho_ => Eq.trans (by repeat (first | rfl | rw [lkp_ky_ne oM ho_ dE])) (st.frH k_ h1_ h2_ o_ ho_)), (fun h => ⟨rfl, rfl, by rw [show rem_ = [] from h]; rfl, h⟩), (fun h => ⟨fun g e => e, rfl, rfl, List.length_pos_iff.2 h, rfl, hbk h⟩), st.r38, st.r39, st.r40, st.r41, st.r42, st.r44, st.r45, st.r46, st.r47, st.r48, st.r49, st.r50, st.r51, st.r52, st.r53, st.r54, st.r55, st.r56, st.r57, rfl, (st.hI46.to aG), (st.hI47.to aG), (st.hI48.to aG), (st.hI49.to aG), (st.hI50.to aG), (st.hI51.to aG), (st.hI52.to aG), (st.hI54.to aG), (st.hI55.to aG), (st.hI56.to aG), (st.hI57.to aG), st.hl46, st.hl47, st.hl48, st.hl49, st.hl50, st.hl51, st.hl52, st.hl54, st.hl55, st.hl56, st.hl57⟩
end
end Go.Proofs.YtdbbifbmkfmbkaaGreat
namespace Go.Proofs.YtdbbifbmkfmbkaaGreat
open Go.RowKit Go.Fr Go.Tab
section
variable {F : Nat → Prop} {w0 : World} {B : List (Nat × Nat)} {H : List (Nat × Value)} {S : List (Nat × Slc)}
open Go.Md
def RebPost (F : Nat → Prop) (w0 : World) (S0 : List (Nat × Slc)) (H0 : List (Nat × Value)) (it rb : Nat) (r : Ru) (l : Ra) (s : It) (B : List (Nat × Nat)) (e : Ending) (w' : World) : Prop :=
 ∃ (a : Ad) (H : List (Nat × Value)) (S : List (Nat × Slc)), e = .returned (.tuple #[]) ∧ St F w0 S0 H0 it rb r l s a B H S ∧ Sees F w0 B H S w'
theorem reb_simple {r : Ru} {s : It} (hr : RuOk r) (hw0 : r.weekno.length = 0) (hd0 : r.nwd.length = 0) (he0 : r.easter.length = 0) (hwn : s.wno = r.wnoF s.ly) (hnw : s.nwm = r.nwmF s.ly s.lm) (y m : Int) : reb r s y m = ⟨s.y, s.mo, s.d, s.h, s.mi, s.s, s.wd, y, m, [], [], [], s.ts, s.total, s.count, s.rem, s.fin⟩ := by
 have h1 : s.wno = [] := hwn.trans (hr.wnoF0 hw0 _)
 have h2 : s.nwm = [] := hnw.trans (hr.nwmF0 hd0 _ _)
 unfold reb
 rw [h1, h2, hr.wnoF0 hw0, hr.nwmF0 hd0, hr.easF0 he0]
 simp only [ite_self]
theorem rebuild_st {S0 : List (Nat × Slc)} {H0 : List (Nat × Value)} {r : Ru} {l : Ra} {it rb : Nat} {s : It} {a : Ad} (st : St F w0 S0 H0 it rb r l s a B H S) (hr : RuOk r) (hw0 : r.weekno.length = 0) (hd0 : r.nwd.length = 0) (he0 : r.easter.length = 0) (hwn : s.wno = r.wnoF s.ly) (hnw : s.nwm = r.nwmF s.ly s.lm) (hea : s.eas = r.easF s.ly) {y m : Int} (hy1 : 1 ≤ y ∧ y ≤ 10000) :
  ∀ w, Sees F w0 B H S w → Calls Go.Proofs.Tryz.prog 50 #[.pointer (some ⟨it, 7, none⟩), iV y, iV m] w fun e w' => RebPost F w0 S0 H0 it rb r l (reb r s y m) B e w' := by
 intro w hs
 rw [reb_simple hr hw0 hd0 he0 hwn hnw]
 have r51 := st.r51
 have r53 := st.r53
 have r57 := st.r57
 rw [hw0] at r51
 rw [hd0] at r53
 rw [he0] at r57
 have h1 : s.wno = [] := hwn.trans (hr.wnoF0 hw0 _)
 have h2 : s.nwm = [] := hnw.trans (hr.nwmF0 hd0 _ _)
 have h3 : s.eas = [] := hea.trans (hr.easF0 he0 _)
 by_cases hy : y = s.ly
 ·refine (rebuild_same (m := m) st.hB st.hR st.h7 st.h8 st.h9 r51 r53 r57 hy w hs).mono ?_
  rintro e w' ⟨he, hs'⟩
  refine ⟨a, _, _, he, ?_, hs'⟩
  subst hy
  obtain ⟨y_, mo_, d_, h_, mi_, s_, wd_, ly_, lm_, wno_, nwm_, eas_, ts_, tt_, cc_, rem_, fin_⟩ := s
  simp only at h1 h2 h3
  subst h1 h2 h3
  exact ⟨st.hB, st.hR, (st.lim.consH dE dE).consH dE dE, st.h0, st.h1, st.h2, st.h3, st.h4, st.h5, st.h6, st.h7, rfl, rfl, st.h10, st.h11, st.h12, st.h13, st.h14, st.h15, st.h16, st.h17, st.h18, st.h19, st.h20, st.h21, st.h22, st.h23, st.h24, st.h25, st.h26, st.h27, st.h28, st.h29, st.hS0, st.hS1, st.hS2, st.hS3, st.hS4, st.hS5, st.hS6, st.hS7, st.hS8, st.hS9, st.hS10, st.hp20, st.hp21, st.hp22, st.c6, (fun k_ h1_ h2_ => Eq.trans aH (st.frS k_ h1_ h2_)), (fun k_ h1_ h2_ o_ ho_ => Eq.trans (by repeat (first | rfl | rw [lkp_ky_ne oM ho_ dE])) (st.frH k_ h1_ h2_ o_ ho_)), st.hq0, st.hq1, st.r38, st.r39, st.r40, st.r41, st.r42, st.r44, st.r45, st.r46, st.r47, st.r48, st.r49, st.r50, st.r51, st.r52, st.r53, st.r54, st.r55, st.r56, st.r57, st.r59, (st.hI46.to aG), (st.hI47.to aG), (st.hI48.to aG), (st.hI49.to aG), (st.hI50.to aG), (st.hI51.to aG), (st.hI52.to aG), (st.hI54.to aG), (st.hI55.to aG), (st.hI56.to aG), (st.hI57.to aG), st.hl46, st.hl47, st.hl48, st.hl49, st.hl50, st.hl51, st.hl52, st.hl54, st.hl55, st.hl56, st.hl57⟩
 ·refine (new_year (m := m) st.hB st.hR st.h7 st.h8 st.h9 r51 r53 r57 st.r39 st.r40 st.h10 st.h11 st.h12 st.h13 st.h14 st.h15 st.h16 st.h17 st.h18 st.h19 st.h20 hy hy1 w hs).mono ?_
  rintro e w' ⟨b6, c6, p3, c3, p4, c4, p5, c5, p7, c7, h385, rfl, s'⟩
  obtain ⟨b3, rfl, _⟩ := s'.head 3 rfl (nY_pos y)
  obtain ⟨b4, rfl, _⟩ := s'.head 4 rfl (nY_pos y)
  obtain ⟨b5, rfl, _⟩ := s'.head 5 rfl (nY_pos y)
  obtain ⟨b7, rfl, _⟩ := s'.head 7 rfl dE
  refine ⟨{ a with b3 := b3, c3 := c3, b4 := b4, c4 := c4, b5 := b5, c5 := c5, b6 := b6, c6 := c6, b7 := b7, c7 := c7, p20 := none, c20 := 0 }, _, _, rfl, ?_, s'⟩
  obtain ⟨y_, mo_, d_, h_, mi_, s_, wd_, ly_, lm_, wno_, nwm_, eas_, ts_, tt_, cc_, rem_, fin_⟩ := s
  simp only at h1 h2 h3
  subst h1 h2 h3
  exact ⟨st.hB, st.hR, (by repeat (first | exact st.lim | apply Lim.consH _ dE dE | apply Lim.consS _ dE)), st.h0, st.h1, st.h2, st.h3, st.h4, st.h5, st.h6, st.h7, rfl, rfl, rfl, rfl, rfl, rfl, rfl, rfl, rfl, rfl, rfl, rfl, rfl, st.h21, st.h22, st.h23, st.h24, st.h25, st.h26, st.h27, st.h28, st.h29, st.hS0, st.hS1, st.hS2, rfl, rfl, rfl, rfl, rfl, (fun h => absurd h (Nat.lt_irrefl 0)), st.hS9, st.hS10, (fun h => absurd h (Nat.lt_irrefl 0)), st.hp21, st.hp22, h385, (fun k_ h1_ h2_ => Eq.trans aH (st.frS k_ h1_ h2_)), (fun k_ h1_ h2_ o_ ho_ => Eq.trans (by repeat (first | rfl | rw [lkp_ky_ne oM ho_ dE])) (st.frH k_ h1_ h2_ o_ ho_)), st.hq0, st.hq1, st.r38, st.r39, st.r40, st.r41, st.r42, st.r44, st.r45, st.r46, st.r47, st.r48, st.r49, st.r50, st.r51, st.r52, st.r53, st.r54, st.r55, st.r56, st.r57, st.r59, (st.hI46.to aG), (st.hI47.to aG), (st.hI48.to aG), (st.hI49.to aG), (st.hI50.to aG), (st.hI51.to aG), (st.hI52.to aG), (st.hI54.to aG), (st.hI55.to aG), (st.hI56.to aG), (st.hI57.to aG), st.hl46, st.hl47, st.hl48, st.hl49, st.hl50, st.hl51, st.hl52, st.hl54, st.hl55, st.hl56, st.hl57⟩
theorem at_call_reb {Q : Exit → Act → World → Prop} {K : Act → World → Prop} {N d : Nat} {L : Fr.Loc} {ty : TypeId} {pos : String} {aft : Array Edge} {S0 : List (Nat × Slc)} {H0 : List (Nat × Value)} {it rb : Nat} {r : Ru} {l : Ra} {s : It} {f : FuncId} {asl : List Operand} {ats : Array TypeId} {args : List Value} (hd : d < N) (hf : enterB Go.Proofs.Tryz.prog f = true) (ha : Fr.evs L asl = some args)
  (hc : ∀ w, Sees F w0 B H S w → Calls Go.Proofs.Tryz.prog f args.toArray w fun e w' => RebPost F w0 S0 H0 it rb r l s B e w')
  (hn : ∀ a H' S', St F w0 S0 H0 it rb r l s a B H' S' → GK K N ((d, .tuple #[]) :: L) F w0 B H' S') : GO Go.Proofs.Tryz.prog ⟨some d, .call ⟨.value (.func f), asl.toArray, ats⟩, ty, pos, aft, none⟩ Q K N L F w0 B H S := fun a w k s => by
 show Oper.upon _ _ _ _ _ _
 rw [run_call k hf ha]
 refine (hc w s).mono ?_
 rintro e w' ⟨a', H', S', rfl, hst, s'⟩
 exact hn a' H' S' hst _ _ (k.put hd _) s'
end
end Go.Proofs.YtdbbifbmkfmbkaaGreat
