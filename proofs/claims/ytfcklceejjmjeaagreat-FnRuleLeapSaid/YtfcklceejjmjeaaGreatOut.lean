/-
  The dates of a period that are told: the output loop of generate.
-/
import Derived.Test.YtfcklceejjmjeaaGreatProg
import Derived.Test.YtfcklceejjmjeaaGreatMd
import Derived.Test.YtfcklceejjmjeaaGreatFg
import Derived.Test.YtfcklceejjmjeaaGreatLoopf
import Derived.Test.YtfcklceejjmjeaaGreatMe
import Derived.Test.YtfcklceejjmjeaaGreatPop
set_option linter.unusedVariables false
set_option linter.unusedSimpArgs false
set_option maxRecDepth 100000
set_option maxHeartbeats 8000000
namespace Go.Proofs.YtfcklceejjmjeaaGreat
open Go.RowKit Go.Fr Go.Tab
section
variable {F : Nat → Prop} {w0 : World} {B : List (Nat × Nat)} {H : List (Nat × Value)} {S : List (Nat × Slc)}

open Go.Md
theorem dayNo_date (d : Int) : Cal.dayNo (Cal.yearOf d) (Cal.monthOf d) (Cal.mdayOf d) = d := by
  have := Cal.dayNo_of d 0
  simpa using this
theorem res_sec {d t : Int} (ht : 0 ≤ t ∧ t < 86400) : Cal.dayNo (Cal.yearOf d) (Cal.monthOf d) (Cal.mdayOf d) * 86400 + t % 86400 / 3600 * 3600 + t % 86400 / 60 % 60 * 60 + t % 86400 % 60 = d * 86400 + t := by
  rw [dayNo_date]; omega
theorem out_loop {Q : Exit → Act → World → Prop} (hblind : Blind Q) {r : Ru} {it0 : It} (hlim : Lim 40 B H S) {it rb : Nat} (hB : lkp 0 B = some it) (hR : lkp 1 B = some rb) {db n dc : Nat} {a : Int} {fl : Bool}
    (hS1 : lkp 1 S = some ⟨.slice (some ⟨db, 0, none⟩) n dc, 128, 2, n, fltCells a n (fun j => !bad r it0 (a + j))⟩) (ha : 0 ≤ a) (han : a + n ≤ 400) (hly : 1 ≤ it0.ly ∧ it0.ly ≤ 10000)
    (h12 : lkp (ky 0 12) H = some (.int .i64 (Cal.daysTo it0.ly * 86400))) (h13 : lkp (ky 0 13) H = some (.int .i64 0)) {tp : Option Addr} {tc : Nat} (h23 : lkp (ky 0 23) H = some (.slice tp it0.ts.length tc)) (hS2 : lkp 2 S = some ⟨.slice tp it0.ts.length tc, 44, 2, it0.ts.length, tcells it0.ts⟩)
    (hts : ∀ t ∈ it0.ts, 0 ≤ t ∧ t < 86400) (hbig : n * it0.ts.length ≤ 100000000) (r39 : lkp (ky 1 39) H = some (.int .i64 r.d0)) (r40 : lkp (ky 1 40) H = some (.int .i64 0)) (r44 : lkp (ky 1 44) H = some (.int .i64 r.u0)) (r45 : lkp (ky 1 45) H = some (.int .i64 r.u1)) (hu : ¬ (r.u0 = 0 ∧ r.u1 = 0)) (hu1 : 0 ≤ r.u1)
    {ln : Value} (r59 : lkp (ky 1 59) H = some ln) {v28 : Value} (h28 : lkp (ky 0 28) H = some v28) (h24 : lkp (ky 0 24) H = some (.int .i64 it0.total)) (h25 : lkp (ky 0 25) H = some (.int .i64 it0.count)) {p0 : Option Addr} {c0 : Nat} (h26 : lkp (ky 0 26) H = some (.slice p0 0 c0)) {bk0 : Value} (h27 : lkp (ky 0 27) H = some bk0)
    (hS0 : lkp 0 S = some ⟨.slice p0 0 c0, 44, 2, 0, []⟩) (hrem : it0.rem = []) (hfin : it0.fin = false) (htot : 0 ≤ it0.total ∧ it0.total ≤ 1000000000000000) (hcnt : 0 ≤ it0.count ∧ it0.count ≤ 9223372036854775807)
    (hn : ∀ (o : It) (p : Option Addr) (c : Nat) (bk : Value), o = outTo r it0 a n → o.fin = false → (o.rem ≠ [] → bk = .slice p o.rem.length c) → GE Q .normal 1418 [(0, .pointer (some ⟨it, 0, none⟩)), (2, .pointer (some ⟨rb, 0, none⟩)), (6, .bool fl)] F w0 B ((ky 0 24, .int .i64 o.total) :: (ky 0 25, .int .i64 o.count) :: (ky 0 26, .slice p o.rem.length c) :: (ky 0 27, bk) :: H) ((0, ⟨.slice p o.rem.length c, 44, 2, o.rem.length, (tcells o.rem)⟩) :: S))
    (hr : ∀ (o : It) (p : Option Addr) (c : Nat) (bk ln : Value), o = outTo r it0 a n → o.fin = true → (o.rem ≠ [] → bk = .slice p o.rem.length c) → GE Q .ret 1418 [] F w0 B ((ky 0 28, .bool true) :: (ky 1 59, ln) :: (ky 0 24, .int .i64 o.total) :: (ky 0 25, .int .i64 o.count) :: (ky 0 26, .slice p o.rem.length c) :: (ky 0 27, bk) :: H) ((0, ⟨.slice p o.rem.length c, 44, 2, o.rem.length, (tcells o.rem)⟩) :: S)) : GC Go.Proofs.Tryz.prog (Go.Fr.part [1, 1, 0, 0, 1, 0, 1, 1, 1, 1, 1, 0, 1, 1, 1] (Go.Fr.bodyOf Tryz.f60)) Q 1418 [(0, .pointer (some ⟨it, 0, none⟩)), (2, .pointer (some ⟨rb, 0, none⟩)), (6, .bool fl), (547, .slice (some ⟨db, 0, none⟩) n dc), (548, .int .i64 n), (549, .int .i64 0)] F w0 B H S := by
  have hdt : 0 ≤ Cal.daysTo it0.ly ∧ Cal.daysTo it0.ly ≤ 4000000 := by unfold Cal.daysTo; omega
  show GC _ (Code.block 10 (Go.Fr.part [1, 1, 0, 0, 1, 0, 1, 1, 1, 1, 1, 0, 1, 1, 1, 0] (Go.Fr.bodyOf Tryz.f60))) _ _ _ _ _ _ _ _
  refine GC_have (φ := 0 < it0.ts.length → ∃ b, tp = some ⟨b, 0, none⟩ ∧ it0.ts.length ≤ tc) (fun w s h => s.head 2 hS2 h) fun hthead => ?_
  refine GC_block ?_
  refine GC_loop (ι := (Nat) × (It) × (Int) × (Int) × (Nat) × (List Value) × (Option Addr) × (Nat) × (Value)) (fun | ⟨k, o, tt, cc, m, xs, p, c, bk⟩ => n - k) (fun | ⟨k, o, tt, cc, m, xs, p, c, bk⟩ => (k ≤ n) ∧ (o = outTo r it0 a k) ∧ (o.fin = false) ∧ (tt = o.total) ∧ (cc = o.count) ∧ (m = o.rem.length) ∧ (xs = tcells o.rem) ∧ (0 ≤ cc ∧ cc ≤ 9223372036854775807) ∧ (0 ≤ tt ∧ tt ≤ it0.total + ((k * it0.ts.length) : Nat)) ∧ (m ≤ (k * it0.ts.length)) ∧ (m ≠ 0 → bk = .slice p m c)) (fun | ⟨k, o, tt, cc, m, xs, p, c, bk⟩ => [(0, .pointer (some ⟨it, 0, none⟩)), (2, .pointer (some ⟨rb, 0, none⟩)), (6, .bool fl), (547, .slice (some ⟨db, 0, none⟩) n dc), (548, .int .i64 n), (549, .int .i64 k)]) (fun | ⟨k, o, tt, cc, m, xs, p, c, bk⟩ => B) (fun | ⟨k, o, tt, cc, m, xs, p, c, bk⟩ => (ky 0 24, .int .i64 tt) :: (ky 0 25, .int .i64 cc) :: (ky 0 26, .slice p m c) :: (ky 0 27, bk) :: H) (fun | ⟨k, o, tt, cc, m, xs, p, c, bk⟩ => (0, ⟨.slice p m c, 44, 2, m, xs⟩) :: S) ⟨0, it0, it0.total, it0.count, 0, [], p0, c0, bk0⟩ ⟨Nat.zero_le _, rfl, hfin, rfl, rfl, by rw [hrem]; rfl, by rw [hrem]; rfl, hcnt, ⟨htot.1, by omega⟩, Nat.zero_le _, fun h => absurd rfl h⟩ (fun a k => k.cons rfl (k.cons rfl (k.cons rfl (k.cons rfl (k.cons rfl (k.cons rfl (k.nil))))))) (fun w s => by exact (s.to (fun _ _ h => h) (fun k o v ho h => (by rcases lkp_cons h with ⟨e, rfl⟩ | ⟨_, h⟩; { rw [e]; exact ⟨h24, by obtain ⟨rfl, rfl⟩ := ky_inj ho (by decide) e; rw [hB]; rfl⟩ }; rcases lkp_cons h with ⟨e, rfl⟩ | ⟨_, h⟩; { rw [e]; exact ⟨h25, by obtain ⟨rfl, rfl⟩ := ky_inj ho (by decide) e; rw [hB]; rfl⟩ }; rcases lkp_cons h with ⟨e, rfl⟩ | ⟨_, h⟩; { rw [e]; exact ⟨h26, by obtain ⟨rfl, rfl⟩ := ky_inj ho (by decide) e; rw [hB]; rfl⟩ }; rcases lkp_cons h with ⟨e, rfl⟩ | ⟨_, h⟩; { rw [e]; exact ⟨h27, by obtain ⟨rfl, rfl⟩ := ky_inj ho (by decide) e; rw [hB]; rfl⟩ }; exact ⟨h, by obtain ⟨b, e, _⟩ := s.cells k o v ho h; rw [e]; rfl⟩)) (fun j q h => (by rcases lkp_cons h with ⟨rfl, rfl⟩ | ⟨_, h⟩; exact hS0; exact h)))) ?_
  rintro ⟨k, o, tt, cc, m, xs, p, c, bk⟩ ⟨hk, ho, hf, ht, hc, hm, hx, hcc, htb, hmb, hbk⟩
  show GC _ _ _ _ [(0, .pointer (some ⟨it, 0, none⟩)), (2, .pointer (some ⟨rb, 0, none⟩)), (6, .bool fl), (547, .slice (some ⟨db, 0, none⟩) n dc), (548, .int .i64 n), (549, .int .i64 k)] _ _ (B) ((ky 0 24, .int .i64 tt) :: (ky 0 25, .int .i64 cc) :: (ky 0 26, .slice p m c) :: (ky 0 27, bk) :: H) ((0, ⟨.slice p m c, 44, 2, m, xs⟩) :: S)
  refine GC_seq ?_
  refine GC_region ?_
  refine GL_rd rfl (by decide) (rd_lss rfl rfl) ?_
  refine GL_nil ?_
  refine GE_then ?_
  refine GC_seq ?_
  refine GC_cond rfl (fun hc1 => ?_) (fun hc2 => ?_)
  · have hlt : k < n := by have := of_decide_eq_true hc1; omega
    obtain ⟨hd1, hd2⟩ := flt_get a n (fun j => !bad r it0 (a + j)) hlt
    have hkn : k * it0.ts.length + it0.ts.length ≤ n * it0.ts.length := by rw [← Nat.succ_mul]; exact Nat.mul_le_mul_right _ hlt
    have hsame := outTo_same r it0 a k
    rw [← ho] at hsame
    have hsucc := outTo_succ r it0 a k
    rw [← ho] at hsucc
    refine GC_skip ?_
    refine GE_then ?_
    refine GC_seq ?_
    refine GC_block ?_
    refine GC_seq ?_
    refine GC_region ?_
    refine GL_rd rfl (by decide) (rd_indexAddr (e := 128) (n := 2) (by kernel_rfl) rfl rfl (by omega) (by omega)) ?_
    refine GL_rd rfl (by decide) (rd_load2_row 1 rfl hS1 rfl (by rw [← hd1]; congr 1; omega) (by rw [← hd2]; congr 1; omega) (by kernel_rfl)) ?_
    refine GL_at rfl (at_alloc 40 (cs := [.int .i64 0, .bool false]) (by decide) (by kernel_rfl) (hlim.b 40 (by decide)) (fun o ho => by repeat (first | rfl | exact hlim.h _ (by decide) o ho | rw [lkp_put_ne (by decide) ho _ _ (Nat.le_of_ble_eq_true rfl)] | rw [lkp_seq_ne (by decide) ho _ _ (Nat.le_of_ble_eq_true rfl)] | rw [lkp_ky_ne (by decide) ho (by decide)])) (Nat.le_of_ble_eq_true rfl) (fun b1_ hbb1_ => ?_))
    refine GL_at rfl (at_storeAgg 40 rfl rfl rfl rfl (by kernel_rfl) rfl (Nat.le_of_ble_eq_true rfl) ?_)
    refine GL_nil ?_
    refine GE_then ?_
    refine GC_seq ?_
    refine GC_seq ?_
    refine GC_region ?_
    refine GL_rd rfl (by decide) (rd_fieldAddr (j := 1) (by kernel_rfl) rfl) ?_
    refine GL_rd rfl (by decide) (rd_load 40 rfl rfl rfl (by kernel_rfl) (by decide)) ?_
    refine GL_rd rfl (by decide) ((rd_not rfl).to (congrArg Value.bool (Bool.not_not _))) ?_
    refine GL_nil ?_
    refine GE_then ?_
    refine GC_cond rfl (fun hb => ?_) (fun hb => ?_)
    · have hbad : bad r it0 (a + k) = true := hb
      have hod : outDay r o (a + k) = o := by unfold outDay; rw [hsame.bad, hbad]; simp
      refine GC_exit ?_
      refine GE_then_exit ?_
      refine GE_in_self ?_
      refine GE_then ?_
      refine GC_region ?_
      first
        | refine GL_rd rfl (by decide) (rd_add_ rfl rfl (by omega)) ?_
        | refine GL_rd rfl (by decide) (rd_add rfl rfl) ?_
      refine GL_rd rfl (by decide) (rd_move rfl) ?_
      refine GL_nil ?_
      refine GE_back ⟨k + 1, o, tt, cc, m, xs, p, c, bk⟩ (by simp only; omega) ⟨by omega, by rw [hsucc, hod], hf, ht, hc, hm, hx, hcc, ⟨htb.1, by rw [Nat.succ_mul]; omega⟩, by rw [Nat.succ_mul]; omega, hbk⟩ (fun a k => k.cons rfl (k.cons rfl (k.cons rfl (k.cons rfl (k.cons rfl (k.cons rfl (k.nil))))))) (fun w s => by exact s.low 40 (((((hlim.consH (by decide) (by decide)).consH (by decide) (by decide)).consH (by decide) (by decide)).consH (by decide) (by decide)).consS (by decide)) (by repeat (first | exact Agr.refl _ | apply Agr.pick rfl | apply Agr.skip (by decide) | apply Agr.seq (by decide) | apply Agr.put (by decide))) (by repeat (first | exact Agr.refl _ | apply Agr.pick rfl | apply Agr.skip (by decide) | apply Agr.seq (by decide) | apply Agr.put (by decide))) (by repeat (first | exact Agr.refl _ | apply Agr.pick rfl | apply Agr.skip (by decide) | apply Agr.seq (by decide) | apply Agr.put (by decide))))
    · have hbad : bad r it0 (a + k) = false := hb
      have hod : outDay r o (a + k) = emits r o (cand it0.ts it0.ly (a + k)) := by unfold outDay; rw [hsame.bad, hbad]; simp [hsame.ts, hsame.ly]
      have hmo := Cal.month_bd (Cal.daysTo it0.ly + (a + k))
      have hye := Cal.year_le (Cal.daysTo it0.ly + (a + k)) (by omega)
      have hyd := split_bd0 (x := (Cal.daysTo it0.ly + (a + k)) * 86400) (by omega)
      rw [show (Cal.daysTo it0.ly + (a + k)) * 86400 / 86400 = (Cal.daysTo it0.ly + (a + k)) by omega] at hyd
      refine GC_skip ?_
      refine GE_then ?_
      refine GC_seq ?_
      refine GC_region ?_
      refine GL_rd rfl (by decide) (rd_fieldAddr (j := 0) (by kernel_rfl) rfl) ?_
      refine GL_rd rfl (by decide) (rd_load 40 rfl rfl rfl (by kernel_rfl) (by decide)) ?_
      refine GL_rd rfl (by decide) (rd_assign rfl) ?_
      refine GL_nil ?_
      refine GE_then ?_
      refine GC_seq ?_
      refine GC_region ?_
      refine GL_rd rfl (by decide) (rd_move rfl) ?_
      refine GL_rd rfl (by decide) (rd_nilCheck rfl) ?_
      refine GL_rd rfl (by decide) (rd_fieldAddr (j := 7) (by kernel_rfl) rfl) ?_
      refine GL_rd rfl (by decide) (rd_fieldAddr (j := 5) (by kernel_rfl) rfl) ?_
      refine GL_rd rfl (by decide) (rd_load2 0 rfl hB h12 h13 (by kernel_rfl) (by decide)) ?_
      refine GL_rd rfl (by decide) (rd_move rfl) ?_
      refine GL_at rfl (at_call_v (v := .agg #[.int .i64 ((Cal.daysTo it0.ly + (a + k)) * 86400), .int .i64 0]) (by decide) (by kernel_rfl) rfl (fun w_ s_ => (addDate_calls _ _ _ (by omega) (by omega) (by omega) w_).mono fun e_ w2_ h_ => ⟨h_.1.trans (congrArg Ending.returned (by rw [show Cal.daysTo it0.ly * 86400 + (a + (k : Int)) * 86400 = (Cal.daysTo it0.ly + (a + k)) * 86400 by omega])), h_.2⟩) ?_)
      refine GL_at rfl (at_call_v (v := .tuple #[.int .i64 (Cal.yearOf (Cal.daysTo it0.ly + (a + k))), .int .i64 (Cal.monthOf (Cal.daysTo it0.ly + (a + k))), .int .i64 (Cal.mdayOf (Cal.daysTo it0.ly + (a + k)))]) (by decide) (by kernel_rfl) rfl (fun w_ s_ => (date_calls _ _ (by omega) w_).mono fun e_ w2_ h_ => ⟨h_.1.trans (congrArg Ending.returned (by rw [show (Cal.daysTo it0.ly + (a + k)) * 86400 / 86400 = (Cal.daysTo it0.ly + (a + k)) by omega])), h_.2⟩) ?_)
      refine GL_rd rfl (by decide) (rd_move rfl) ?_
      refine GL_rd rfl (by decide) (rd_extract rfl rfl) ?_
      refine GL_rd rfl (by decide) (rd_extract rfl rfl) ?_
      refine GL_rd rfl (by decide) (rd_extract rfl rfl) ?_
      refine GL_rd rfl (by decide) (rd_assign rfl) ?_
      refine GL_rd rfl (by decide) (rd_assign rfl) ?_
      refine GL_rd rfl (by decide) (rd_assign rfl) ?_
      refine GL_nil ?_
      refine GE_then ?_
      refine GC_seq ?_
      refine GC_region ?_
      refine GL_rd rfl (by decide) (rd_move rfl) ?_
      refine GL_rd rfl (by decide) (rd_nilCheck rfl) ?_
      refine GL_rd rfl (by decide) (rd_fieldAddr (j := 23) (by kernel_rfl) rfl) ?_
      refine GL_rd rfl (by decide) (rd_load 0 rfl hB h23 (by kernel_rfl) (by decide)) ?_
      refine GL_rd rfl (by decide) (rd_len (by kernel_rfl) rfl) ?_
      refine GL_rd rfl (by decide) (rd_move rfl) ?_
      refine GL_nil ?_
      refine GE_then ?_
      refine GC_block ?_
      refine GC_loop (ι := (Nat) × (It) × (Int) × (Int) × (Nat) × (List Value) × (Option Addr) × (Nat) × (Value)) (fun | ⟨j, o1, tt1, cc1, m1, xs1, p1, c1, bk1⟩ => it0.ts.length - j) (fun | ⟨j, o1, tt1, cc1, m1, xs1, p1, c1, bk1⟩ => (j ≤ it0.ts.length) ∧ (o1 = emits r o ((cand it0.ts it0.ly (a + k)).take j)) ∧ (o1.fin = false) ∧ (tt1 = o1.total) ∧ (cc1 = o1.count) ∧ (m1 = o1.rem.length) ∧ (xs1 = tcells o1.rem) ∧ (0 ≤ cc1 ∧ cc1 ≤ 9223372036854775807) ∧ (0 ≤ tt1 ∧ tt1 ≤ it0.total + ((k * it0.ts.length + j) : Nat)) ∧ (m1 ≤ (k * it0.ts.length + j)) ∧ (m1 ≠ 0 → bk1 = .slice p1 m1 c1)) (fun | ⟨j, o1, tt1, cc1, m1, xs1, p1, c1, bk1⟩ => [(0, .pointer (some ⟨it, 0, none⟩)), (2, .pointer (some ⟨rb, 0, none⟩)), (6, .bool fl), (33, .int .i64 (Cal.yearOf (Cal.daysTo it0.ly + (a + k)))), (34, .int .i64 (Cal.monthOf (Cal.daysTo it0.ly + (a + k)))), (35, .int .i64 (Cal.mdayOf (Cal.daysTo it0.ly + (a + k)))), (547, .slice (some ⟨db, 0, none⟩) n dc), (548, .int .i64 n), (549, .int .i64 k), (573, .slice tp it0.ts.length tc), (574, .int .i64 (it0.ts.length)), (575, .int .i64 j)]) (fun | ⟨j, o1, tt1, cc1, m1, xs1, p1, c1, bk1⟩ => B) (fun | ⟨j, o1, tt1, cc1, m1, xs1, p1, c1, bk1⟩ => (ky 0 24, .int .i64 tt1) :: (ky 0 25, .int .i64 cc1) :: (ky 0 26, .slice p1 m1 c1) :: (ky 0 27, bk1) :: H) (fun | ⟨j, o1, tt1, cc1, m1, xs1, p1, c1, bk1⟩ => (0, ⟨.slice p1 m1 c1, 44, 2, m1, xs1⟩) :: S) ⟨0, o, tt, cc, m, xs, p, c, bk⟩ ⟨Nat.zero_le _, rfl, hf, ht, hc, hm, hx, hcc, ⟨htb.1, by omega⟩, by omega, hbk⟩ (fun a k => k.cons rfl (k.cons rfl (k.cons rfl (k.cons rfl (k.cons rfl (k.cons rfl (k.cons rfl (k.cons rfl (k.cons rfl (k.cons rfl (k.cons rfl (k.cons rfl (k.nil))))))))))))) (fun w s => by exact s.low 40 (((((hlim.consH (by decide) (by decide)).consH (by decide) (by decide)).consH (by decide) (by decide)).consH (by decide) (by decide)).consS (by decide)) (by repeat (first | exact Agr.refl _ | apply Agr.pick rfl | apply Agr.skip (by decide) | apply Agr.seq (by decide) | apply Agr.put (by decide))) (by repeat (first | exact Agr.refl _ | apply Agr.pick rfl | apply Agr.skip (by decide) | apply Agr.seq (by decide) | apply Agr.put (by decide))) (by repeat (first | exact Agr.refl _ | apply Agr.pick rfl | apply Agr.skip (by decide) | apply Agr.seq (by decide) | apply Agr.put (by decide)))) ?_
      rintro ⟨j, o1, tt1, cc1, m1, xs1, p1, c1, bk1⟩ ⟨hj, ho1, hf1, ht1_, hc1_, hm1, hx1, hcc1, htb1, hmb1, hbk1⟩
      show GC _ _ _ _ [(0, .pointer (some ⟨it, 0, none⟩)), (2, .pointer (some ⟨rb, 0, none⟩)), (6, .bool fl), (33, .int .i64 (Cal.yearOf (Cal.daysTo it0.ly + (a + k)))), (34, .int .i64 (Cal.monthOf (Cal.daysTo it0.ly + (a + k)))), (35, .int .i64 (Cal.mdayOf (Cal.daysTo it0.ly + (a + k)))), (547, .slice (some ⟨db, 0, none⟩) n dc), (548, .int .i64 n), (549, .int .i64 k), (573, .slice tp it0.ts.length tc), (574, .int .i64 (it0.ts.length)), (575, .int .i64 j)] _ _ (B) ((ky 0 24, .int .i64 tt1) :: (ky 0 25, .int .i64 cc1) :: (ky 0 26, .slice p1 m1 c1) :: (ky 0 27, bk1) :: H) ((0, ⟨.slice p1 m1 c1, 44, 2, m1, xs1⟩) :: S)
      have hcl : (cand it0.ts it0.ly (a + k)).length = it0.ts.length := by unfold cand; simp
      refine GC_seq ?_
      refine GC_region ?_
      refine GL_rd rfl (by decide) (rd_lss rfl rfl) ?_
      refine GL_nil ?_
      refine GE_then ?_
      refine GC_seq ?_
      refine GC_cond rfl (fun hc1 => ?_) (fun hc2 => ?_)
      · have hjt : j < it0.ts.length := by have := of_decide_eq_true hc1; omega
        obtain ⟨t, htj⟩ : ∃ t, it0.ts[j]? = some t := ⟨_, List.getElem?_eq_getElem hjt⟩
        obtain ⟨ht1, ht2⟩ := tcells_get htj
        have htr := hts t (List.mem_of_getElem? htj)
        obtain ⟨tb, rfl, htcap⟩ : ∃ b, tp = some ⟨b, 0, none⟩ ∧ it0.ts.length ≤ tc := hthead (by omega)
        have hcj : (cand it0.ts it0.ly (a + k))[j]? = some ((Cal.daysTo it0.ly + (a + k)) * 86400 + t) := by unfold cand; rw [List.getElem?_map, htj]; rfl
        have hts1 := emits_take_succ (r := r) (o := o) hcj
        rw [← ho1] at hts1
        refine GC_skip ?_
        refine GE_then ?_
        refine GC_seq ?_
        refine GC_block ?_
        refine GC_seq ?_
        refine GC_region ?_
        refine GL_rd rfl (by decide) (rd_indexAddr (e := 44) (n := 2) (by kernel_rfl) rfl rfl (by omega) (by omega)) ?_
        refine GL_rd rfl (by decide) (rd_load2_row 2 rfl hS2 rfl (by rw [← ht1]; congr 1; omega) (by rw [← ht2]; congr 1; omega) (by kernel_rfl)) ?_
        refine GL_at rfl (at_alloc 41 (cs := [.int .i64 0, .int .i64 0]) (by decide) (by kernel_rfl) (hlim.b 41 (by decide)) (fun o ho => by repeat (first | rfl | exact hlim.h _ (by decide) o ho | rw [lkp_put_ne (by decide) ho _ _ (Nat.le_of_ble_eq_true rfl)] | rw [lkp_seq_ne (by decide) ho _ _ (Nat.le_of_ble_eq_true rfl)] | rw [lkp_ky_ne (by decide) ho (by decide)])) (Nat.le_of_ble_eq_true rfl) (fun b2_ hbb2_ => ?_))
        refine GL_at rfl (at_storeAgg 41 rfl rfl rfl rfl (by kernel_rfl) rfl (Nat.le_of_ble_eq_true rfl) ?_)
        refine GL_nil ?_
        refine GE_then ?_
        refine GC_seq ?_
        refine GC_region ?_
        refine GL_rd rfl (by decide) (rd_load2 41 rfl rfl rfl rfl (by kernel_rfl) (by decide)) ?_
        refine GL_at rfl (at_call_v (v := .tuple #[.int .i64 (t % 86400 / 3600), .int .i64 (t % 86400 / 60 % 60), .int .i64 (t % 86400 % 60)]) (by decide) (by kernel_rfl) rfl (fun w_ s_ => (clock_calls _ _ (by omega) w_).mono fun e_ w2_ h_ => ⟨h_.1.trans (congrArg Ending.returned rfl), h_.2⟩) ?_)
        refine GL_rd rfl (by decide) (rd_move rfl) ?_
        refine GL_rd rfl (by decide) (rd_extract rfl rfl) ?_
        refine GL_rd rfl (by decide) (rd_extract rfl rfl) ?_
        refine GL_rd rfl (by decide) (rd_extract rfl rfl) ?_
        refine GL_rd rfl (by decide) (rd_assign rfl) ?_
        refine GL_rd rfl (by decide) (rd_assign rfl) ?_
        refine GL_rd rfl (by decide) (rd_assign rfl) ?_
        refine GL_nil ?_
        refine GE_then ?_
        refine GC_cut (ι := (Nat)) (fun bt => True) (fun bt => [(0, .pointer (some ⟨it, 0, none⟩)), (2, .pointer (some ⟨rb, 0, none⟩)), (6, .bool fl), (33, .int .i64 (Cal.yearOf (Cal.daysTo it0.ly + (a + k)))), (34, .int .i64 (Cal.monthOf (Cal.daysTo it0.ly + (a + k)))), (35, .int .i64 (Cal.mdayOf (Cal.daysTo it0.ly + (a + k)))), (547, .slice (some ⟨db, 0, none⟩) n dc), (548, .int .i64 n), (549, .int .i64 k), (573, .slice (some ⟨tb, 0, none⟩) it0.ts.length tc), (574, .int .i64 (it0.ts.length)), (575, .int .i64 j), (41, .pointer (some ⟨bt, 0, none⟩))]) (fun bt => (40, bt) :: B) (fun bt => putKeys 40 0 [.int .i64 ((Cal.daysTo it0.ly + (a + k)) * 86400 + t), .int .i64 0] ++ ((ky 0 24, .int .i64 tt1) :: (ky 0 25, .int .i64 cc1) :: (ky 0 26, .slice p1 m1 c1) :: (ky 0 27, bk1) :: H)) (fun bt => (0, ⟨.slice p1 m1 c1, 44, 2, m1, xs1⟩) :: S) ?_ ?_
        · refine GC_anyS (fun i => i == 12) (by kernel_rfl) ?_
          refine GA_rd (i := 0) rfl rfl (by repeat (first | exact hblind | exact Blind.body | apply Blind.then | apply Blind.inBlock)) (by kernel_rfl) rfl (by decide) (rd_move rfl) (fun w s => by exact s.noS) ?_
          refine GA_rd (i := 1) rfl rfl (by repeat (first | exact hblind | exact Blind.body | apply Blind.then | apply Blind.inBlock)) (by kernel_rfl) rfl (by decide) (rd_move rfl) (fun w s => by exact s.noS) ?_
          refine GA_rd (i := 2) rfl rfl (by repeat (first | exact hblind | exact Blind.body | apply Blind.then | apply Blind.inBlock)) (by kernel_rfl) rfl (by decide) (rd_move rfl) (fun w s => by exact s.noS) ?_
          refine GA_rd (i := 3) rfl rfl (by repeat (first | exact hblind | exact Blind.body | apply Blind.then | apply Blind.inBlock)) (by kernel_rfl) rfl (by decide) (rd_move rfl) (fun w s => by exact s.noS) ?_
          refine GA_rd (i := 4) rfl rfl (by repeat (first | exact hblind | exact Blind.body | apply Blind.then | apply Blind.inBlock)) (by kernel_rfl) rfl (by decide) (rd_move rfl) (fun w s => by exact s.noS) ?_
          refine GA_rd (i := 5) rfl rfl (by repeat (first | exact hblind | exact Blind.body | apply Blind.then | apply Blind.inBlock)) (by kernel_rfl) rfl (by decide) (rd_move rfl) (fun w s => by exact s.noS) ?_
          refine GA_rd (i := 6) rfl rfl (by repeat (first | exact hblind | exact Blind.body | apply Blind.then | apply Blind.inBlock)) (by kernel_rfl) rfl (by decide) (rd_load2 41 rfl rfl rfl rfl (by kernel_rfl) (by decide)) (fun w s => by exact s.noS) ?_
          refine GA_rd (i := 8) rfl rfl (by repeat (first | exact hblind | exact Blind.body | apply Blind.then | apply Blind.inBlock)) (by kernel_rfl) rfl (by decide) (rd_load2 41 rfl rfl rfl rfl (by kernel_rfl) (by decide)) (fun w s => by exact s.noS) ?_
          refine GA_two (i := 7) (j := 11) rfl rfl rfl rfl (by kernel_rfl) rfl rfl ?_ ?_
          · refine at_call_v (by decide) (by kernel_rfl) rfl (fun w_ s_ => nanosecond_calls _ _ (by omega) w_) (GK_C (fun _ w s => by exact s.noS) ?_)
            refine GA_two (i := 9) (j := 11) rfl rfl rfl rfl (by kernel_rfl) rfl rfl ?_ ?_
            · refine at_call_v (by decide) (by kernel_rfl) rfl (fun w_ s_ => location_calls _ _ w_) (GK_C (fun _ w s => by exact s.noS) ?_)
              refine GA_two (i := 10) (j := 11) rfl rfl rfl rfl (by kernel_rfl) rfl rfl ?_ ?_
              · refine at_call_v (v := .agg #[.int .i64 (((Cal.daysTo it0.ly + (a + k)) * 86400 + t)), .int .i64 0]) (by decide) (by kernel_rfl) rfl (fun w_ s_ => (mkdate_calls _ _ _ _ _ _ _ (by omega) (by omega) (by omega) (by omega) (by omega) (by omega) (by omega) w_).mono fun e_ w2_ h_ => ⟨h_.1.trans (congrArg Ending.returned (by rw [res_sec htr])), h_.2⟩) (GK_C (fun _ w s => by exact s.noS) ?_)
                refine GA_one (i := 11) rfl rfl (by kernel_rfl) rfl (at_alloc 40 (cs := [.int .i64 0, .int .i64 0]) (by decide) (by kernel_rfl) (hlim.b 40 (by decide)) (fun o ho => by repeat (first | rfl | exact hlim.h _ (by decide) o ho | rw [lkp_put_ne (by decide) ho _ _ (Nat.le_of_ble_eq_true rfl)] | rw [lkp_seq_ne (by decide) ho _ _ (Nat.le_of_ble_eq_true rfl)] | rw [lkp_ky_ne (by decide) ho (by decide)])) (Nat.le_of_ble_eq_true rfl) (fun b3_ hbb3_ => GK_C (fun _ w s => by exact s.dropNew (hlim.b 40 (by decide)) (fun o ho => by repeat (first | rfl | exact hlim.h _ (by decide) o ho | rw [lkp_put_ne (by decide) ho _ _ (Nat.le_of_ble_eq_true rfl)] | rw [lkp_seq_ne (by decide) ho _ _ (Nat.le_of_ble_eq_true rfl)] | rw [lkp_ky_ne (by decide) ho (by decide)])) (Nat.le_of_ble_eq_true rfl)) ?_))
                refine GA_one (i := 12) rfl rfl (by kernel_rfl) rfl (at_storeAgg 40 rfl rfl rfl rfl (by kernel_rfl) rfl (Nat.le_of_ble_eq_true rfl) (GK_C (fun h => absurd h (by decide)) ?_))
                refine GA_end (by kernel_rfl) ?_
                refine GE_meet b3_ trivial (fun a k => k.cons rfl (k.cons rfl (k.cons rfl (k.cons rfl (k.cons rfl (k.cons rfl (k.cons rfl (k.cons rfl (k.cons rfl (k.cons rfl (k.cons rfl (k.cons rfl (k.cons rfl (k.nil)))))))))))))) (fun w s => by exact s.low 41 ((Lim.putH (by decide) _ 0 (Nat.le_of_ble_eq_true rfl) ((((((hlim.mono (by decide)).consB (by decide)).consH (by decide) (by decide)).consH (by decide) (by decide)).consH (by decide) (by decide)).consH (by decide) (by decide))).consS (by decide)) (by repeat (first | exact Agr.refl _ | apply Agr.pick rfl | apply Agr.skip (by decide) | apply Agr.seq (by decide) | apply Agr.put (by decide))) (by repeat (first | exact Agr.refl _ | apply Agr.pick rfl | apply Agr.skip (by decide) | apply Agr.seq (by decide) | apply Agr.put (by decide))) (by repeat (first | exact Agr.refl _ | apply Agr.pick rfl | apply Agr.skip (by decide) | apply Agr.seq (by decide) | apply Agr.put (by decide))))
              · refine at_alloc 40 (cs := [.int .i64 0, .int .i64 0]) (by decide) (by kernel_rfl) (hlim.b 40 (by decide)) (fun o ho => by repeat (first | rfl | exact hlim.h _ (by decide) o ho | rw [lkp_put_ne (by decide) ho _ _ (Nat.le_of_ble_eq_true rfl)] | rw [lkp_seq_ne (by decide) ho _ _ (Nat.le_of_ble_eq_true rfl)] | rw [lkp_ky_ne (by decide) ho (by decide)])) (Nat.le_of_ble_eq_true rfl) (fun b4_ hbb4_ => GK_C (fun _ w s => by exact s.dropNew (hlim.b 40 (by decide)) (fun o ho => by repeat (first | rfl | exact hlim.h _ (by decide) o ho | rw [lkp_put_ne (by decide) ho _ _ (Nat.le_of_ble_eq_true rfl)] | rw [lkp_seq_ne (by decide) ho _ _ (Nat.le_of_ble_eq_true rfl)] | rw [lkp_ky_ne (by decide) ho (by decide)])) (Nat.le_of_ble_eq_true rfl)) ?_)
                refine GA_one (i := 10) rfl rfl (by kernel_rfl) rfl (at_call_v (v := .agg #[.int .i64 (((Cal.daysTo it0.ly + (a + k)) * 86400 + t)), .int .i64 0]) (by decide) (by kernel_rfl) rfl (fun w_ s_ => (mkdate_calls _ _ _ _ _ _ _ (by omega) (by omega) (by omega) (by omega) (by omega) (by omega) (by omega) w_).mono fun e_ w2_ h_ => ⟨h_.1.trans (congrArg Ending.returned (by rw [res_sec htr])), h_.2⟩) (GK_C (fun _ w s => by exact s.dropNew (hlim.b 40 (by decide)) (fun o ho => by repeat (first | rfl | exact hlim.h _ (by decide) o ho | rw [lkp_put_ne (by decide) ho _ _ (Nat.le_of_ble_eq_true rfl)] | rw [lkp_seq_ne (by decide) ho _ _ (Nat.le_of_ble_eq_true rfl)] | rw [lkp_ky_ne (by decide) ho (by decide)])) (Nat.le_of_ble_eq_true rfl)) ?_))
                refine GA_one (i := 12) rfl rfl (by kernel_rfl) rfl (at_storeAgg 40 rfl rfl rfl rfl (by kernel_rfl) rfl (Nat.le_of_ble_eq_true rfl) (GK_C (fun h => absurd h (by decide)) ?_))
                refine GA_end (by kernel_rfl) ?_
                refine GE_meet b4_ trivial (fun a k => k.cons rfl (k.cons rfl (k.cons rfl (k.cons rfl (k.cons rfl (k.cons rfl (k.cons rfl (k.cons rfl (k.cons rfl (k.cons rfl (k.cons rfl (k.cons rfl (k.cons rfl (k.nil)))))))))))))) (fun w s => by exact s.low 41 ((Lim.putH (by decide) _ 0 (Nat.le_of_ble_eq_true rfl) ((((((hlim.mono (by decide)).consB (by decide)).consH (by decide) (by decide)).consH (by decide) (by decide)).consH (by decide) (by decide)).consH (by decide) (by decide))).consS (by decide)) (by repeat (first | exact Agr.refl _ | apply Agr.pick rfl | apply Agr.skip (by decide) | apply Agr.seq (by decide) | apply Agr.put (by decide))) (by repeat (first | exact Agr.refl _ | apply Agr.pick rfl | apply Agr.skip (by decide) | apply Agr.seq (by decide) | apply Agr.put (by decide))) (by repeat (first | exact Agr.refl _ | apply Agr.pick rfl | apply Agr.skip (by decide) | apply Agr.seq (by decide) | apply Agr.put (by decide))))
            · refine at_alloc 40 (cs := [.int .i64 0, .int .i64 0]) (by decide) (by kernel_rfl) (hlim.b 40 (by decide)) (fun o ho => by repeat (first | rfl | exact hlim.h _ (by decide) o ho | rw [lkp_put_ne (by decide) ho _ _ (Nat.le_of_ble_eq_true rfl)] | rw [lkp_seq_ne (by decide) ho _ _ (Nat.le_of_ble_eq_true rfl)] | rw [lkp_ky_ne (by decide) ho (by decide)])) (Nat.le_of_ble_eq_true rfl) (fun b5_ hbb5_ => GK_C (fun _ w s => by exact s.dropNew (hlim.b 40 (by decide)) (fun o ho => by repeat (first | rfl | exact hlim.h _ (by decide) o ho | rw [lkp_put_ne (by decide) ho _ _ (Nat.le_of_ble_eq_true rfl)] | rw [lkp_seq_ne (by decide) ho _ _ (Nat.le_of_ble_eq_true rfl)] | rw [lkp_ky_ne (by decide) ho (by decide)])) (Nat.le_of_ble_eq_true rfl)) ?_)
              refine GA_one (i := 9) rfl rfl (by kernel_rfl) rfl (at_call_v (by decide) (by kernel_rfl) rfl (fun w_ s_ => location_calls _ _ w_) (GK_C (fun _ w s => by exact s.dropNew (hlim.b 40 (by decide)) (fun o ho => by repeat (first | rfl | exact hlim.h _ (by decide) o ho | rw [lkp_put_ne (by decide) ho _ _ (Nat.le_of_ble_eq_true rfl)] | rw [lkp_seq_ne (by decide) ho _ _ (Nat.le_of_ble_eq_true rfl)] | rw [lkp_ky_ne (by decide) ho (by decide)])) (Nat.le_of_ble_eq_true rfl)) ?_))
              refine GA_one (i := 10) rfl rfl (by kernel_rfl) rfl (at_call_v (v := .agg #[.int .i64 (((Cal.daysTo it0.ly + (a + k)) * 86400 + t)), .int .i64 0]) (by decide) (by kernel_rfl) rfl (fun w_ s_ => (mkdate_calls _ _ _ _ _ _ _ (by omega) (by omega) (by omega) (by omega) (by omega) (by omega) (by omega) w_).mono fun e_ w2_ h_ => ⟨h_.1.trans (congrArg Ending.returned (by rw [res_sec htr])), h_.2⟩) (GK_C (fun _ w s => by exact s.dropNew (hlim.b 40 (by decide)) (fun o ho => by repeat (first | rfl | exact hlim.h _ (by decide) o ho | rw [lkp_put_ne (by decide) ho _ _ (Nat.le_of_ble_eq_true rfl)] | rw [lkp_seq_ne (by decide) ho _ _ (Nat.le_of_ble_eq_true rfl)] | rw [lkp_ky_ne (by decide) ho (by decide)])) (Nat.le_of_ble_eq_true rfl)) ?_))
              refine GA_one (i := 12) rfl rfl (by kernel_rfl) rfl (at_storeAgg 40 rfl rfl rfl rfl (by kernel_rfl) rfl (Nat.le_of_ble_eq_true rfl) (GK_C (fun h => absurd h (by decide)) ?_))
              refine GA_end (by kernel_rfl) ?_
              refine GE_meet b5_ trivial (fun a k => k.cons rfl (k.cons rfl (k.cons rfl (k.cons rfl (k.cons rfl (k.cons rfl (k.cons rfl (k.cons rfl (k.cons rfl (k.cons rfl (k.cons rfl (k.cons rfl (k.cons rfl (k.nil)))))))))))))) (fun w s => by exact s.low 41 ((Lim.putH (by decide) _ 0 (Nat.le_of_ble_eq_true rfl) ((((((hlim.mono (by decide)).consB (by decide)).consH (by decide) (by decide)).consH (by decide) (by decide)).consH (by decide) (by decide)).consH (by decide) (by decide))).consS (by decide)) (by repeat (first | exact Agr.refl _ | apply Agr.pick rfl | apply Agr.skip (by decide) | apply Agr.seq (by decide) | apply Agr.put (by decide))) (by repeat (first | exact Agr.refl _ | apply Agr.pick rfl | apply Agr.skip (by decide) | apply Agr.seq (by decide) | apply Agr.put (by decide))) (by repeat (first | exact Agr.refl _ | apply Agr.pick rfl | apply Agr.skip (by decide) | apply Agr.seq (by decide) | apply Agr.put (by decide))))
          · refine at_alloc 40 (cs := [.int .i64 0, .int .i64 0]) (by decide) (by kernel_rfl) (hlim.b 40 (by decide)) (fun o ho => by repeat (first | rfl | exact hlim.h _ (by decide) o ho | rw [lkp_put_ne (by decide) ho _ _ (Nat.le_of_ble_eq_true rfl)] | rw [lkp_seq_ne (by decide) ho _ _ (Nat.le_of_ble_eq_true rfl)] | rw [lkp_ky_ne (by decide) ho (by decide)])) (Nat.le_of_ble_eq_true rfl) (fun b6_ hbb6_ => GK_C (fun _ w s => by exact s.dropNew (hlim.b 40 (by decide)) (fun o ho => by repeat (first | rfl | exact hlim.h _ (by decide) o ho | rw [lkp_put_ne (by decide) ho _ _ (Nat.le_of_ble_eq_true rfl)] | rw [lkp_seq_ne (by decide) ho _ _ (Nat.le_of_ble_eq_true rfl)] | rw [lkp_ky_ne (by decide) ho (by decide)])) (Nat.le_of_ble_eq_true rfl)) ?_)
            refine GA_one (i := 7) rfl rfl (by kernel_rfl) rfl (at_call_v (by decide) (by kernel_rfl) rfl (fun w_ s_ => nanosecond_calls _ _ (by omega) w_) (GK_C (fun _ w s => by exact s.dropNew (hlim.b 40 (by decide)) (fun o ho => by repeat (first | rfl | exact hlim.h _ (by decide) o ho | rw [lkp_put_ne (by decide) ho _ _ (Nat.le_of_ble_eq_true rfl)] | rw [lkp_seq_ne (by decide) ho _ _ (Nat.le_of_ble_eq_true rfl)] | rw [lkp_ky_ne (by decide) ho (by decide)])) (Nat.le_of_ble_eq_true rfl)) ?_))
            refine GA_one (i := 9) rfl rfl (by kernel_rfl) rfl (at_call_v (by decide) (by kernel_rfl) rfl (fun w_ s_ => location_calls _ _ w_) (GK_C (fun _ w s => by exact s.dropNew (hlim.b 40 (by decide)) (fun o ho => by repeat (first | rfl | exact hlim.h _ (by decide) o ho | rw [lkp_put_ne (by decide) ho _ _ (Nat.le_of_ble_eq_true rfl)] | rw [lkp_seq_ne (by decide) ho _ _ (Nat.le_of_ble_eq_true rfl)] | rw [lkp_ky_ne (by decide) ho (by decide)])) (Nat.le_of_ble_eq_true rfl)) ?_))
            refine GA_one (i := 10) rfl rfl (by kernel_rfl) rfl (at_call_v (v := .agg #[.int .i64 (((Cal.daysTo it0.ly + (a + k)) * 86400 + t)), .int .i64 0]) (by decide) (by kernel_rfl) rfl (fun w_ s_ => (mkdate_calls _ _ _ _ _ _ _ (by omega) (by omega) (by omega) (by omega) (by omega) (by omega) (by omega) w_).mono fun e_ w2_ h_ => ⟨h_.1.trans (congrArg Ending.returned (by rw [res_sec htr])), h_.2⟩) (GK_C (fun _ w s => by exact s.dropNew (hlim.b 40 (by decide)) (fun o ho => by repeat (first | rfl | exact hlim.h _ (by decide) o ho | rw [lkp_put_ne (by decide) ho _ _ (Nat.le_of_ble_eq_true rfl)] | rw [lkp_seq_ne (by decide) ho _ _ (Nat.le_of_ble_eq_true rfl)] | rw [lkp_ky_ne (by decide) ho (by decide)])) (Nat.le_of_ble_eq_true rfl)) ?_))
            refine GA_one (i := 12) rfl rfl (by kernel_rfl) rfl (at_storeAgg 40 rfl rfl rfl rfl (by kernel_rfl) rfl (Nat.le_of_ble_eq_true rfl) (GK_C (fun h => absurd h (by decide)) ?_))
            refine GA_end (by kernel_rfl) ?_
            refine GE_meet b6_ trivial (fun a k => k.cons rfl (k.cons rfl (k.cons rfl (k.cons rfl (k.cons rfl (k.cons rfl (k.cons rfl (k.cons rfl (k.cons rfl (k.cons rfl (k.cons rfl (k.cons rfl (k.cons rfl (k.nil)))))))))))))) (fun w s => by exact s.low 41 ((Lim.putH (by decide) _ 0 (Nat.le_of_ble_eq_true rfl) ((((((hlim.mono (by decide)).consB (by decide)).consH (by decide) (by decide)).consH (by decide) (by decide)).consH (by decide) (by decide)).consH (by decide) (by decide))).consS (by decide)) (by repeat (first | exact Agr.refl _ | apply Agr.pick rfl | apply Agr.skip (by decide) | apply Agr.seq (by decide) | apply Agr.put (by decide))) (by repeat (first | exact Agr.refl _ | apply Agr.pick rfl | apply Agr.skip (by decide) | apply Agr.seq (by decide) | apply Agr.put (by decide))) (by repeat (first | exact Agr.refl _ | apply Agr.pick rfl | apply Agr.skip (by decide) | apply Agr.seq (by decide) | apply Agr.put (by decide))))
        rintro bt -
        show GC _ _ _ _ [(0, .pointer (some ⟨it, 0, none⟩)), (2, .pointer (some ⟨rb, 0, none⟩)), (6, .bool fl), (33, .int .i64 (Cal.yearOf (Cal.daysTo it0.ly + (a + k)))), (34, .int .i64 (Cal.monthOf (Cal.daysTo it0.ly + (a + k)))), (35, .int .i64 (Cal.mdayOf (Cal.daysTo it0.ly + (a + k)))), (547, .slice (some ⟨db, 0, none⟩) n dc), (548, .int .i64 n), (549, .int .i64 k), (573, .slice (some ⟨tb, 0, none⟩) it0.ts.length tc), (574, .int .i64 (it0.ts.length)), (575, .int .i64 j), (41, .pointer (some ⟨bt, 0, none⟩))] _ _ ((40, bt) :: B) (putKeys 40 0 [.int .i64 ((Cal.daysTo it0.ly + (a + k)) * 86400 + t), .int .i64 0] ++ ((ky 0 24, .int .i64 tt1) :: (ky 0 25, .int .i64 cc1) :: (ky 0 26, .slice p1 m1 c1) :: (ky 0 27, bk1) :: H)) ((0, ⟨.slice p1 m1 c1, 44, 2, m1, xs1⟩) :: S)
        refine GC_seq ?_
        refine GC_quiet (by kernel_rfl) (by kernel_rfl) ?_
        refine GQ_rd rfl (by decide) (rd_move rfl) ?_
        refine GQ_rd rfl (by decide) (rd_nilCheck rfl) ?_
        refine GQ_rd rfl (by decide) (rd_fieldAddr (j := 44) (by kernel_rfl) rfl) ?_
        refine GQ_rd rfl (by decide) (rd_load2 1 rfl hR r44 r45 (by kernel_rfl) (by decide)) ?_
        refine GQ_call_v (by decide) (by kernel_rfl) rfl (fun w_ s_ => isZero_calls _ _ w_) ?_
        refine GQ_rd rfl (by decide) ((rd_not rfl).to (v' := .bool true) (congrArg Value.bool (by rw [decide_eq_false hu]; rfl))) ?_
        refine GQ_rd rfl (by decide) (rd_move rfl) ?_
        refine GQ_take rfl rfl ?_
        refine GQ_rd rfl (by decide) (rd_load2 40 rfl rfl rfl rfl (by kernel_rfl) (by decide)) ?_
        refine GQ_take rfl rfl ?_
        refine GQ_rd rfl (by decide) (rd_move rfl) ?_
        refine GQ_take rfl rfl ?_
        refine GQ_rd rfl (by decide) (rd_nilCheck rfl) ?_
        refine GQ_take rfl rfl ?_
        refine GQ_rd rfl (by decide) (rd_fieldAddr (j := 44) (by kernel_rfl) rfl) ?_
        refine GQ_take rfl rfl ?_
        refine GQ_rd rfl (by decide) (rd_load2 1 rfl hR r44 r45 (by kernel_rfl) (by decide)) ?_
        refine GQ_take rfl rfl ?_
        refine GQ_call_v (v := .bool (decide (r.u0 < ((Cal.daysTo it0.ly + (a + k)) * 86400 + t)))) (by decide) (by kernel_rfl) rfl (fun w_ s_ => (after_calls _ _ _ _ w_).mono fun e_ w2_ h_ => ⟨h_.1.trans (congrArg Ending.returned (congrArg Value.bool (decide_eq_decide.2 (by omega)))), h_.2⟩) ?_
        refine GQ_rd rfl (by decide) (rd_pick rfl rfl rfl) ?_
        refine GQ_nil ?_
        refine GE_then ?_
        refine GC_cond rfl (fun hc1 => ?_) (fun hc2 => ?_)
        · have hun : r.u0 < ((Cal.daysTo it0.ly + (a + k)) * 86400 + t) := of_decide_eq_true hc1
          have hem : emit r o1 ((Cal.daysTo it0.ly + (a + k)) * 86400 + t) = { o1 with fin := true } := emit_until hf1 hun
          refine GC_seq ?_
          refine GC_region ?_
          refine GL_rd rfl (by decide) (rd_move rfl) ?_
          refine GL_rd rfl (by decide) (rd_move rfl) ?_
          refine GL_rd rfl (by decide) (rd_nilCheck rfl) ?_
          refine GL_rd rfl (by decide) (rd_fieldAddr (j := 24) (by kernel_rfl) rfl) ?_
          refine GL_rd rfl (by decide) (rd_load 0 rfl hB rfl (by kernel_rfl) (by decide)) ?_
          refine GL_rd rfl (by decide) (rd_nilCheck rfl) ?_
          refine GL_rd rfl (by decide) (rd_fieldAddr (j := 59) (by kernel_rfl) rfl) ?_
          refine GL_at rfl (at_store 1 rfl rfl hR r59 (by kernel_rfl) rfl (by decide) ?_)
          refine GL_nil ?_
          refine GE_then ?_
          refine GC_seq ?_
          refine GC_region ?_
          refine GL_rd rfl (by decide) (rd_move rfl) ?_
          refine GL_rd rfl (by decide) (rd_nilCheck rfl) ?_
          refine GL_rd rfl (by decide) (rd_fieldAddr (j := 28) (by kernel_rfl) rfl) ?_
          refine GL_at rfl (at_store 0 rfl rfl hB h28 (by kernel_rfl) rfl (by decide) ?_)
          refine GL_nil ?_
          refine GE_then ?_
          refine GC_ret ?_
          refine GE_in_ret ?_
          refine GE_then_ret ?_
          refine GE_then_ret ?_
          refine GE_in_ret ?_
          refine GE_in_ret ?_
          refine GE_then_ret ?_
          refine GE_then_ret ?_
          refine GE_in_ret ?_
          have hfin2 : ({ o1 with fin := true } : It).fin = true := rfl
          have hall : ({ o1 with fin := true } : It) = outTo r it0 a n := by
            have e1 : emits r o (cand it0.ts it0.ly (a + k)) = _ := emits_take_fin (j := j + 1) ((congrArg It.fin (hts1.trans hem)).trans hfin2)
            rw [hts1, hem] at e1
            have e2 : outTo r it0 a (k + 1) = _ := hsucc.trans (hod.trans e1)
            rw [outTo_fin (k := k + 1) ((congrArg It.fin e2).trans hfin2) n hlt, e2]
          refine GE_to (fun a q => q.nil) (fun w s => ?_) (hr { o1 with fin := true } p1 c1 bk1 (.int .i64 tt1) hall hfin2 (fun h => by rw [← hm1]; exact hbk1 (fun e => h (List.eq_nil_of_length_eq_zero (by simp only; omega)))))
          subst ht1_ hc1_ hm1 hx1
          exact s.low 40 (((((((hlim.consH (by decide) (by decide)).consH (by decide) (by decide)).consH (by decide) (by decide)).consH (by decide) (by decide)).consH (by decide) (by decide)).consH (by decide) (by decide)).consS (by decide)) (by repeat (first | exact Agr.refl _ | apply Agr.pick rfl | apply Agr.skip (by decide) | apply Agr.seq (by decide) | apply Agr.put (by decide))) (by repeat (first | exact Agr.refl _ | apply Agr.pick rfl | apply Agr.skip (by decide) | apply Agr.seq (by decide) | apply Agr.put (by decide))) (by repeat (first | exact Agr.refl _ | apply Agr.pick rfl | apply Agr.skip (by decide) | apply Agr.seq (by decide) | apply Agr.put (by decide)))
        · have hun : ¬ r.u0 < ((Cal.daysTo it0.ly + (a + k)) * 86400 + t) := of_decide_eq_false hc2
          refine GC_seq ?_
          refine GC_quiet (by kernel_rfl) (by kernel_rfl) ?_
          refine GQ_rd rfl (by decide) (rd_load2 40 rfl rfl rfl rfl (by kernel_rfl) (by decide)) ?_
          refine GQ_rd rfl (by decide) (rd_move rfl) ?_
          refine GQ_rd rfl (by decide) (rd_nilCheck rfl) ?_
          refine GQ_rd rfl (by decide) (rd_fieldAddr (j := 39) (by kernel_rfl) rfl) ?_
          refine GQ_rd rfl (by decide) (rd_load2 1 rfl hR r39 r40 (by kernel_rfl) (by decide)) ?_
          refine GQ_call_v (v := .bool (decide (((Cal.daysTo it0.ly + (a + k)) * 86400 + t) < r.d0))) (by decide) (by kernel_rfl) rfl (fun w_ s_ => (before_calls _ _ _ _ w_).mono fun e_ w2_ h_ => ⟨h_.1.trans (congrArg Ending.returned (congrArg Value.bool (decide_eq_decide.2 (by omega)))), h_.2⟩) ?_
          refine GQ_rd rfl (by decide) (rd_not rfl) ?_
          refine GQ_nil ?_
          refine GE_then ?_
          refine GC_cond rfl (fun hc1 => ?_) (fun hc2 => ?_)
          · have hst : ¬ ((Cal.daysTo it0.ly + (a + k)) * 86400 + t) < r.d0 := by simpa using hc1
            refine GC_seq ?_
            refine GC_region ?_
            refine GL_rd rfl (by decide) (rd_move rfl) ?_
            refine GL_rd rfl (by decide) (rd_nilCheck rfl) ?_
            refine GL_rd rfl (by decide) (rd_fieldAddr (j := 24) (by kernel_rfl) rfl) ?_
            refine GL_rd rfl (by decide) (rd_load 0 rfl hB rfl (by kernel_rfl) (by decide)) ?_
            first
              | refine GL_rd rfl (by decide) (rd_add_ rfl rfl (by omega)) ?_
              | refine GL_rd rfl (by decide) (rd_add rfl rfl) ?_
            refine GL_rd rfl (by decide) (rd_nilCheck rfl) ?_
            refine GL_rd rfl (by decide) (rd_fieldAddr (j := 24) (by kernel_rfl) rfl) ?_
            refine GL_at rfl (at_store 0 rfl rfl hB rfl (by kernel_rfl) rfl (by decide) ?_)
            refine GL_nil ?_
            refine GE_then ?_
            refine GC_seq ?_
            refine GC_tail 4 (by kernel_rfl) (by kernel_rfl) ?_
            refine GT_rd rfl (by decide) (rd_move rfl) ?_
            refine GT_rd rfl (by decide) (rd_nilCheck rfl) ?_
            refine GT_rd rfl (by decide) (rd_fieldAddr (j := 26) (by kernel_rfl) rfl) ?_
            refine GT_rd rfl (by decide) (rd_load2 40 rfl rfl rfl rfl (by kernel_rfl) (by decide)) ?_
            refine GT_nil ?_
            refine GL_at rfl (at_call (ι := Option Addr × Nat) (fun _ => .tuple #[]) (fun _ => True) (fun _ => _) (fun x => (ky 0 27, .slice x.1 (m1 + 1) x.2) :: (ky 0 26, .slice x.1 (m1 + 1) x.2) :: _) (fun x => (0, ⟨.slice x.1 (m1 + 1) x.2, 44, 2, m1 + 1, xs1 ++ [.int .i64 ((Cal.daysTo it0.ly + (a + k)) * 86400 + t), .int .i64 0]⟩) :: _) (by decide) (by kernel_rfl) rfl (fun w_ s_ => (append_calls (((Lim.putH (by decide) _ 0 (Nat.le_of_ble_eq_true rfl) ((((((hlim.mono (by decide)).consB (by decide)).consH (by decide) (by decide)).consH (by decide) (by decide)).consH (by decide) (by decide)).consH (by decide) (by decide))).consS (by decide)).consH (by decide) (by decide)) (by exact hB) (q := ⟨.slice p1 m1 c1, 44, 2, m1, xs1⟩) rfl rfl rfl ⟨rfl, rfl⟩ (by simp only; omega) w_ s_).mono fun e w' ⟨p', c', he, hs⟩ => ⟨(p', c'), trivial, he, hs⟩) (fun | (p2, c2), _ => ?_))
            refine GL_nil ?_
            refine GE_then ?_
            refine GC_seq ?_
            refine GC_region ?_
            refine GL_rd rfl (by decide) (rd_move rfl) ?_
            refine GL_rd rfl (by decide) (rd_nilCheck rfl) ?_
            refine GL_rd rfl (by decide) (rd_fieldAddr (j := 25) (by kernel_rfl) rfl) ?_
            refine GL_rd rfl (by decide) (rd_load 0 rfl hB rfl (by kernel_rfl) (by decide)) ?_
            refine GL_rd rfl (by decide) (rd_neq rfl rfl) ?_
            refine GL_nil ?_
            refine GE_then ?_
            refine GC_cond rfl (fun hc1 => ?_) (fun hc2 => ?_)
            · have hcz : cc1 ≠ 0 := bne_iff_ne.1 hc1
              have hem : emit r o1 ((Cal.daysTo it0.ly + (a + k)) * 86400 + t) = { o1 with total := o1.total + 1, rem := o1.rem ++ [((Cal.daysTo it0.ly + (a + k)) * 86400 + t)], count := o1.count - 1, fin := o1.count - 1 == 0 } := emit_count hf1 hun hst (by omega)
              refine GC_seq ?_
              refine GC_region ?_
              refine GL_rd rfl (by decide) (rd_move rfl) ?_
              refine GL_rd rfl (by decide) (rd_nilCheck rfl) ?_
              refine GL_rd rfl (by decide) (rd_fieldAddr (j := 25) (by kernel_rfl) rfl) ?_
              refine GL_rd rfl (by decide) (rd_load 0 rfl hB rfl (by kernel_rfl) (by decide)) ?_
              first
                | refine GL_rd rfl (by decide) (rd_sub_ rfl rfl (by omega)) ?_
                | refine GL_rd rfl (by decide) (rd_sub rfl rfl) ?_
              refine GL_rd rfl (by decide) (rd_nilCheck rfl) ?_
              refine GL_rd rfl (by decide) (rd_fieldAddr (j := 25) (by kernel_rfl) rfl) ?_
              refine GL_at rfl (at_store 0 rfl rfl hB rfl (by kernel_rfl) rfl (by decide) ?_)
              refine GL_nil ?_
              refine GE_then ?_
              refine GC_seq ?_
              refine GC_region ?_
              refine GL_rd rfl (by decide) (rd_move rfl) ?_
              refine GL_rd rfl (by decide) (rd_nilCheck rfl) ?_
              refine GL_rd rfl (by decide) (rd_fieldAddr (j := 25) (by kernel_rfl) rfl) ?_
              refine GL_rd rfl (by decide) (rd_load 0 rfl hB rfl (by kernel_rfl) (by decide)) ?_
              refine GL_rd rfl (by decide) (rd_eql rfl rfl) ?_
              refine GL_nil ?_
              refine GE_then ?_
              refine GC_cond rfl (fun hc1 => ?_) (fun hc2 => ?_)
              · have hz : cc1 - 1 = 0 := beq_iff_eq.1 hc1
                refine GC_seq ?_
                refine GC_region ?_
                refine GL_rd rfl (by decide) (rd_move rfl) ?_
                refine GL_rd rfl (by decide) (rd_move rfl) ?_
                refine GL_rd rfl (by decide) (rd_nilCheck rfl) ?_
                refine GL_rd rfl (by decide) (rd_fieldAddr (j := 24) (by kernel_rfl) rfl) ?_
                refine GL_rd rfl (by decide) (rd_load 0 rfl hB rfl (by kernel_rfl) (by decide)) ?_
                refine GL_rd rfl (by decide) (rd_nilCheck rfl) ?_
                refine GL_rd rfl (by decide) (rd_fieldAddr (j := 59) (by kernel_rfl) rfl) ?_
                refine GL_at rfl (at_store 1 rfl rfl hR r59 (by kernel_rfl) rfl (by decide) ?_)
                refine GL_nil ?_
                refine GE_then ?_
                refine GC_seq ?_
                refine GC_region ?_
                refine GL_rd rfl (by decide) (rd_move rfl) ?_
                refine GL_rd rfl (by decide) (rd_nilCheck rfl) ?_
                refine GL_rd rfl (by decide) (rd_fieldAddr (j := 28) (by kernel_rfl) rfl) ?_
                refine GL_at rfl (at_store 0 rfl rfl hB h28 (by kernel_rfl) rfl (by decide) ?_)
                refine GL_nil ?_
                refine GE_then ?_
                refine GC_ret ?_
                refine GE_in_ret ?_
                refine GE_then_ret ?_
                refine GE_then_ret ?_
                refine GE_in_ret ?_
                refine GE_in_ret ?_
                refine GE_then_ret ?_
                refine GE_then_ret ?_
                refine GE_in_ret ?_
                have hfin2 : ({ o1 with total := o1.total + 1, rem := o1.rem ++ [((Cal.daysTo it0.ly + (a + k)) * 86400 + t)], count := o1.count - 1, fin := o1.count - 1 == 0 } : It).fin = true := (beq_iff_eq.2 (by omega))
                have hall : ({ o1 with total := o1.total + 1, rem := o1.rem ++ [((Cal.daysTo it0.ly + (a + k)) * 86400 + t)], count := o1.count - 1, fin := o1.count - 1 == 0 } : It) = outTo r it0 a n := by
                  have e1 : emits r o (cand it0.ts it0.ly (a + k)) = _ := emits_take_fin (j := j + 1) ((congrArg It.fin (hts1.trans hem)).trans hfin2)
                  rw [hts1, hem] at e1
                  have e2 : outTo r it0 a (k + 1) = _ := hsucc.trans (hod.trans e1)
                  rw [outTo_fin (k := k + 1) ((congrArg It.fin e2).trans hfin2) n hlt, e2]
                refine GE_to (fun a q => q.nil) (fun w s => ?_) (hr { o1 with total := o1.total + 1, rem := o1.rem ++ [((Cal.daysTo it0.ly + (a + k)) * 86400 + t)], count := o1.count - 1, fin := o1.count - 1 == 0 } p2 c2 (.slice p2 (m1 + 1) c2) (.int .i64 (tt1 + 1)) hall hfin2 (fun _ => by simp only [List.length_append, List.length_singleton]; rw [hm1]))
                subst ht1_ hc1_ hm1 hx1
                rw [tcells_append] at s
                simp only [List.length_append, List.length_singleton]
                exact s.low 40 (((((((hlim.consH (by decide) (by decide)).consH (by decide) (by decide)).consH (by decide) (by decide)).consH (by decide) (by decide)).consH (by decide) (by decide)).consH (by decide) (by decide)).consS (by decide)) (by repeat (first | exact Agr.refl _ | apply Agr.pick rfl | apply Agr.skip (by decide) | apply Agr.seq (by decide) | apply Agr.put (by decide))) (by repeat (first | exact Agr.refl _ | apply Agr.pick rfl | apply Agr.skip (by decide) | apply Agr.seq (by decide) | apply Agr.put (by decide))) (by repeat (first | exact Agr.refl _ | apply Agr.pick rfl | apply Agr.skip (by decide) | apply Agr.seq (by decide) | apply Agr.put (by decide)))
              · have hz : cc1 - 1 ≠ 0 := beq_eq_false_iff_ne.1 hc2
                refine GC_skip ?_
                refine GE_in ?_
                refine GE_then ?_
                refine GC_region ?_
                first
                  | refine GL_rd rfl (by decide) (rd_add_ rfl rfl (by omega)) ?_
                  | refine GL_rd rfl (by decide) (rd_add rfl rfl) ?_
                refine GL_rd rfl (by decide) (rd_move rfl) ?_
                refine GL_nil ?_
                refine GE_back ⟨j + 1, { o1 with total := o1.total + 1, rem := o1.rem ++ [((Cal.daysTo it0.ly + (a + k)) * 86400 + t)], count := o1.count - 1, fin := o1.count - 1 == 0 }, tt1 + 1, cc1 - 1, m1 + 1, xs1 ++ [.int .i64 ((Cal.daysTo it0.ly + (a + k)) * 86400 + t), .int .i64 0], p2, c2, .slice p2 (m1 + 1) c2⟩ (by simp only; omega) ⟨by omega, by rw [hts1, hem], by simp only [beq_eq_false_iff_ne]; omega, by rw [ht1_], by rw [hc1_], by simp [hm1], by rw [hx1]; exact tcells_append _ _, by omega, by omega, by omega, fun _ => rfl⟩ (fun a k => k.cons rfl (k.cons rfl (k.cons rfl (k.cons rfl (k.cons rfl (k.cons rfl (k.cons rfl (k.cons rfl (k.cons rfl (k.cons rfl (k.cons rfl (k.cons rfl (k.nil))))))))))))) (fun w s => by exact s.low 40 (((((hlim.consH (by decide) (by decide)).consH (by decide) (by decide)).consH (by decide) (by decide)).consH (by decide) (by decide)).consS (by decide)) (by repeat (first | exact Agr.refl _ | apply Agr.pick rfl | apply Agr.skip (by decide) | apply Agr.seq (by decide) | apply Agr.put (by decide))) (by repeat (first | exact Agr.refl _ | apply Agr.pick rfl | apply Agr.skip (by decide) | apply Agr.seq (by decide) | apply Agr.put (by decide))) (by repeat (first | exact Agr.refl _ | apply Agr.pick rfl | apply Agr.skip (by decide) | apply Agr.seq (by decide) | apply Agr.put (by decide))))
            · have hcz : cc1 = 0 := bne_eq_false_iff_eq.1 hc2
              have hem : emit r o1 ((Cal.daysTo it0.ly + (a + k)) * 86400 + t) = { o1 with total := o1.total + 1, rem := o1.rem ++ [((Cal.daysTo it0.ly + (a + k)) * 86400 + t)] } := emit_free hf1 hun hst (by omega)
              refine GC_skip ?_
              refine GE_in ?_
              refine GE_then ?_
              refine GC_region ?_
              first
                | refine GL_rd rfl (by decide) (rd_add_ rfl rfl (by omega)) ?_
                | refine GL_rd rfl (by decide) (rd_add rfl rfl) ?_
              refine GL_rd rfl (by decide) (rd_move rfl) ?_
              refine GL_nil ?_
              refine GE_back ⟨j + 1, { o1 with total := o1.total + 1, rem := o1.rem ++ [((Cal.daysTo it0.ly + (a + k)) * 86400 + t)] }, tt1 + 1, cc1, m1 + 1, xs1 ++ [.int .i64 ((Cal.daysTo it0.ly + (a + k)) * 86400 + t), .int .i64 0], p2, c2, .slice p2 (m1 + 1) c2⟩ (by simp only; omega) ⟨by omega, by rw [hts1, hem], hf1, by rw [ht1_], hc1_, by simp [hm1], by rw [hx1]; exact tcells_append _ _, hcc1, by omega, by omega, fun _ => rfl⟩ (fun a k => k.cons rfl (k.cons rfl (k.cons rfl (k.cons rfl (k.cons rfl (k.cons rfl (k.cons rfl (k.cons rfl (k.cons rfl (k.cons rfl (k.cons rfl (k.cons rfl (k.nil))))))))))))) (fun w s => by exact s.low 40 (((((hlim.consH (by decide) (by decide)).consH (by decide) (by decide)).consH (by decide) (by decide)).consH (by decide) (by decide)).consS (by decide)) (by repeat (first | exact Agr.refl _ | apply Agr.pick rfl | apply Agr.skip (by decide) | apply Agr.seq (by decide) | apply Agr.put (by decide))) (by repeat (first | exact Agr.refl _ | apply Agr.pick rfl | apply Agr.skip (by decide) | apply Agr.seq (by decide) | apply Agr.put (by decide))) (by repeat (first | exact Agr.refl _ | apply Agr.pick rfl | apply Agr.skip (by decide) | apply Agr.seq (by decide) | apply Agr.put (by decide))))
          · have hst : ((Cal.daysTo it0.ly + (a + k)) * 86400 + t) < r.d0 := by simpa using hc2
            have hem : emit r o1 ((Cal.daysTo it0.ly + (a + k)) * 86400 + t) = o1 := emit_early hf1 hun hst
            refine GC_skip ?_
            refine GE_in ?_
            refine GE_then ?_
            refine GC_region ?_
            first
              | refine GL_rd rfl (by decide) (rd_add_ rfl rfl (by omega)) ?_
              | refine GL_rd rfl (by decide) (rd_add rfl rfl) ?_
            refine GL_rd rfl (by decide) (rd_move rfl) ?_
            refine GL_nil ?_
            refine GE_back ⟨j + 1, o1, tt1, cc1, m1, xs1, p1, c1, bk1⟩ (by simp only; omega) ⟨by omega, by rw [hts1, hem], hf1, ht1_, hc1_, hm1, hx1, hcc1, ⟨htb1.1, by omega⟩, by omega, hbk1⟩ (fun a k => k.cons rfl (k.cons rfl (k.cons rfl (k.cons rfl (k.cons rfl (k.cons rfl (k.cons rfl (k.cons rfl (k.cons rfl (k.cons rfl (k.cons rfl (k.cons rfl (k.nil))))))))))))) (fun w s => by exact s.low 40 (((((hlim.consH (by decide) (by decide)).consH (by decide) (by decide)).consH (by decide) (by decide)).consH (by decide) (by decide)).consS (by decide)) (by repeat (first | exact Agr.refl _ | apply Agr.pick rfl | apply Agr.skip (by decide) | apply Agr.seq (by decide) | apply Agr.put (by decide))) (by repeat (first | exact Agr.refl _ | apply Agr.pick rfl | apply Agr.skip (by decide) | apply Agr.seq (by decide) | apply Agr.put (by decide))) (by repeat (first | exact Agr.refl _ | apply Agr.pick rfl | apply Agr.skip (by decide) | apply Agr.seq (by decide) | apply Agr.put (by decide))))
      · have hge : ¬ j < it0.ts.length := by have := of_decide_eq_false hc2; omega
        refine GC_exit ?_
        refine GE_then_exit ?_
        refine GE_then_exit ?_
        refine GE_in_self ?_
        refine GE_in ?_
        refine GE_then ?_
        refine GC_region ?_
        first
          | refine GL_rd rfl (by decide) (rd_add_ rfl rfl (by omega)) ?_
          | refine GL_rd rfl (by decide) (rd_add rfl rfl) ?_
        refine GL_rd rfl (by decide) (rd_move rfl) ?_
        refine GL_nil ?_
        refine GE_back ⟨k + 1, o1, tt1, cc1, m1, xs1, p1, c1, bk1⟩ (by simp only; omega) ⟨by omega, by rw [hsucc, hod, ho1, List.take_of_length_le (by rw [hcl]; omega)], hf1, ht1_, hc1_, hm1, hx1, hcc1, ⟨htb1.1, by rw [Nat.succ_mul]; omega⟩, by rw [Nat.succ_mul]; omega, hbk1⟩ (fun a k => k.cons rfl (k.cons rfl (k.cons rfl (k.cons rfl (k.cons rfl (k.cons rfl (k.nil))))))) (fun w s => by exact s.low 40 (((((hlim.consH (by decide) (by decide)).consH (by decide) (by decide)).consH (by decide) (by decide)).consH (by decide) (by decide)).consS (by decide)) (by repeat (first | exact Agr.refl _ | apply Agr.pick rfl | apply Agr.skip (by decide) | apply Agr.seq (by decide) | apply Agr.put (by decide))) (by repeat (first | exact Agr.refl _ | apply Agr.pick rfl | apply Agr.skip (by decide) | apply Agr.seq (by decide) | apply Agr.put (by decide))) (by repeat (first | exact Agr.refl _ | apply Agr.pick rfl | apply Agr.skip (by decide) | apply Agr.seq (by decide) | apply Agr.put (by decide))))
  · have hge : ¬ k < n := by have := of_decide_eq_false hc2; omega
    obtain rfl : k = n := by omega
    refine GC_exit ?_
    refine GE_then_exit ?_
    refine GE_then_exit ?_
    refine GE_in_self ?_
    refine GE_to (fun a k => k.cons rfl (k.cons rfl (k.cons rfl (k.nil)))) (fun w s => ?_) (hn o p c bk ho hf (fun h => by rw [← hm]; exact hbk (fun e => h (List.eq_nil_of_length_eq_zero (by omega)))))
    subst ht hc hm hx
    exact s
end
end Go.Proofs.YtfcklceejjmjeaaGreat
