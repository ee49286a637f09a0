/-
  The options of a rule.
-/
import Derived.Test.YtfcklceejjmjeaaGreatProg
import Derived.Test.YtfcklceejjmjeaaGreatMd
import Derived.Test.YtfcklceejjmjeaaGreatFg
import Derived.Test.YtfcklceejjmjeaaGreatNew
set_option linter.unusedVariables false
set_option linter.unusedSimpArgs false
set_option maxRecDepth 100000
set_option maxHeartbeats 8000000
namespace Go.Proofs.YtfcklceejjmjeaaGreat
open Go.RowKit Go.Fr Go.Tab
section
variable {F : Nat → Prop} {w0 : World} {B : List (Nat × Nat)} {H : List (Nat × Value)} {S : List (Nat × Slc)}

open Go.Md
/-- A rule as it comes in. -/
structure Rul where
  freq : Int
  hasStart : Bool
  start : Int
  interval : Int
  wkst : Int
  count : Int
  hasUntil : Bool
  untl : Int
  setpos : List Int
  month : List Int
  mday : List Int
  yday : List Int
  weekno : List Int
  wday : List (Int × Int)
  hour : List Int
  minute : List Int
  second : List Int
  easter : List Int
def optOf (r : Rul) : Opn := ⟨r.freq, r.start, r.interval, r.wkst, r.count, if r.hasUntil = true then r.untl else 0, r.setpos, r.month, r.mday, r.yday, r.weekno, r.wday, r.hour, r.minute, r.second, r.easter⟩
def rulC (r : Rul) (x : Av) : List Value := [.int .u8 r.freq, .bool r.hasStart, .int .i64 r.start, .int .i64 r.interval, .int .i64 r.wkst, .int .i64 r.count, .bool r.hasUntil, .int .i64 r.untl, .slice x.p9 (r.setpos).length x.c9, .slice x.p10 (r.month).length x.c10, .slice x.p11 (r.mday).length x.c11, .slice x.p12 (r.yday).length x.c12, .slice x.p13 (r.weekno).length x.c13, .slice x.p14 (r.wday).length x.c14, .slice x.p15 (r.hour).length x.c15, .slice x.p16 (r.minute).length x.c16, .slice x.p17 (r.second).length x.c17, .slice x.p18 (r.easter).length x.c18]
theorem zzw_calls (x n : Int) (w : World) : Calls Go.Proofs.Tryz.prog 18 #[.int .i64 x, .int .i64 n] w fun e w' => e = .returned (.agg #[.int .i64 x, .int .i64 n]) ∧ Below w.heap.size w w' := by
  refine calls_GC (args := [.int .i64 x, .int .i64 n]) (L := [(0, .int .i64 x), (1, .int .i64 n)]) (N := 8) Tryz.func18 rfl rfl (Nat.le_of_ble_eq_true rfl) rfl (Sees.start (fun _ => False) w) ?_
  refine GC_seq ?_
  refine GC_region ?_
  refine GL_at rfl (at_alloc 50 (cs := [.int .i64 0, .int .i64 0]) (by decide) (by kernel_rfl) rfl (fun o ho => by repeat (first | rfl | rw [lkp_put_ne (by decide) ho _ _ (Nat.le_of_ble_eq_true rfl)] | rw [lkp_seq_ne (by decide) ho _ _ (Nat.le_of_ble_eq_true rfl)] | rw [lkp_ky_ne (by decide) ho (by decide)])) (Nat.le_of_ble_eq_true rfl) (fun b1_ hbb1_ => ?_))
  refine GL_nil ?_
  refine GE_then ?_
  refine GC_seq ?_
  refine GC_region ?_
  refine GL_rd rfl (by decide) (rd_move rfl) ?_
  refine GL_rd rfl (by decide) (rd_move rfl) ?_
  refine GL_rd rfl (by decide) (rd_build2 rfl rfl (fun w => by kernel_rfl)) ?_
  refine GL_at rfl (at_storeAgg 50 rfl rfl rfl rfl (by kernel_rfl) rfl (Nat.le_of_ble_eq_true rfl) ?_)
  refine GL_nil ?_
  refine GE_then ?_
  refine GC_ret ?_
  refine GE_ret1 (.inl rfl) rfl (res_cell2 50 rfl rfl rfl rfl (by kernel_rfl)) fun w_ s_ => ⟨?_, s_.toBelow⟩
  first | rfl | (simp; done)
def opt1 (r : Rul) (x : Av) : List Value := [.int .i64 r.freq, .int .i64 0, .int .i64 0, .int .i64 r.interval, .int .i64 r.wkst, .int .i64 0, .int .i64 r.count, .int .i64 0, .int .i64 0, .slice x.p9 (r.setpos).length x.c9, .slice x.p10 (r.month).length x.c10, .slice x.p11 (r.mday).length x.c11, .slice x.p12 (r.yday).length x.c12, .slice x.p13 (r.weekno).length x.c13, .slice none 0 0, .slice x.p15 (r.hour).length x.c15, .slice x.p16 (r.minute).length x.c16, .slice x.p17 (r.second).length x.c17, .slice x.p18 (r.easter).length x.c18]
/-- What is asked of a rule that comes in. -/
structure RulOk (r : Rul) : Prop where
  freq : 0 ≤ r.freq ∧ r.freq ≤ 255
  hs : r.hasStart = true
  days : r.wday.length ≤ 1000
theorem opt_main {R : Ending → World → Prop} {r : Rul} {x : Av} (rk : RulOk r) {b1 b2 b3 : Nat} {H0 : List (Nat × Value)} (hr : cellsAt 36 H 0 (rulC r x)) (h2 : knwn 37 H 0 19 = true) (ho : cellsAt 38 H 0 (opt1 r x)) (limB : Lim 36 B H0 S) (hno : lkp 11 S = none) (lim : Lim 39 ((38, b3) :: (37, b2) :: (36, b1) :: B) H S) (frH : ∀ k, k < 36 → ∀ q, q < 4096 → lkp (ky k q) H = lkp (ky k q) H0) (hday : ∀ S, SrcU F w0 S 11 (.slice x.p14 (r.wday).length x.c14) r.wday)
    (hR : ∀ (p : Option Addr) (c : Nat) w, Sees F w0 B H0 ((11, ⟨.slice p r.wday.length c, 46, 2, r.wday.length, pcells r.wday⟩) :: S) w → R (.returned (.agg (oc0 (optOf r) { x with p14 := p, c14 := c }).toArray)) w) :
    GC Go.Proofs.Tryz.prog (Go.Fr.part [1, 1] (Go.Fr.bodyOf Tryz.f12)) (bodyPost Go.Proofs.Tryz.prog Tryz.f12 R) 66 [(1, .pointer (some ⟨b1, 0, none⟩)), (2, .pointer (some ⟨b2, 0, none⟩)), (3, .pointer (some ⟨b3, 0, none⟩))] F w0 ((38, b3) :: (37, b2) :: (36, b1) :: B) H S := by
  refine GC_seq ?_
  refine GC_seq ?_
  refine GC_region ?_
  refine GL_rd rfl (by decide) (rd_fieldAddr (j := 1) (by kernel_rfl) rfl) ?_
  refine GL_rd rfl (by decide) (rd_load 36 rfl rfl (hr.get 1 _ rfl) (by kernel_rfl) (by decide)) ?_
  refine GL_nil ?_
  refine GE_then ?_
  refine GC_is_true rfl rk.hs ?_
  refine GC_region ?_
  refine GL_rd rfl (by decide) (rd_fieldAddr (j := 2) (by kernel_rfl) rfl) ?_
  refine GL_rd rfl (by decide) (rd_load 36 rfl rfl (hr.get 2 _ rfl) (by kernel_rfl) (by decide)) ?_
  refine GL_at rfl (at_call_v (by decide) (by kernel_rfl) rfl (fun w_ s_ => of_calls _ w_) ?_)
  refine GL_rd rfl (by decide) (rd_fieldAddr (j := 1) (by kernel_rfl) rfl) ?_
  refine GL_at rfl (at_storeAgg 38 rfl rfl rfl (knwn2 (ho.get 1 _ rfl) (ho.get 2 _ rfl)) (by kernel_rfl) rfl (Nat.le_of_ble_eq_true rfl) ?_)
  refine GL_nil ?_
  refine GE_then ?_
  refine GC_seq ?_
  refine GC_seq ?_
  refine GC_region ?_
  refine GL_rd rfl (by decide) (rd_fieldAddr (j := 6) (by kernel_rfl) rfl) ?_
  refine GL_rd rfl (by decide) (rd_load 36 rfl rfl (hr.get 6 _ rfl) (by kernel_rfl) (by decide)) ?_
  refine GL_nil ?_
  refine GE_then ?_
  refine GC_cond rfl (fun hc1 => ?_) (fun hc2 => ?_)
  · skip
    have hu1 : r.hasUntil = true := hc1
    have hu : (optOf r).u = r.untl := by unfold optOf; simp only; rw [if_pos hu1]
    refine GC_region ?_
    refine GL_rd rfl (by decide) (rd_fieldAddr (j := 7) (by kernel_rfl) rfl) ?_
    refine GL_rd rfl (by decide) (rd_load 36 rfl rfl (hr.get 7 _ rfl) (by kernel_rfl) (by decide)) ?_
    refine GL_at rfl (at_call_v (by decide) (by kernel_rfl) rfl (fun w_ s_ => of_calls _ w_) ?_)
    refine GL_rd rfl (by decide) (rd_fieldAddr (j := 7) (by kernel_rfl) rfl) ?_
    refine GL_at rfl (at_storeAgg 38 rfl rfl rfl (knwn2 (ho.get 7 _ rfl) (ho.get 8 _ rfl)) (by kernel_rfl) rfl (Nat.le_of_ble_eq_true rfl) ?_)
    refine GL_nil ?_
    refine GE_then ?_
    refine GC_seq ?_
    refine GC_seq ?_
    refine GC_region ?_
    refine GL_rd rfl (by decide) (rd_fieldAddr (j := 13) (by kernel_rfl) rfl) ?_
    refine GL_rd rfl (by decide) (rd_load 36 rfl rfl (hr.get 13 _ rfl) (by kernel_rfl) (by decide)) ?_
    refine GL_rd rfl (by decide) (rd_len (by kernel_rfl) rfl) ?_
    refine GL_rd rfl (by decide) (rd_move rfl) ?_
    refine GL_nil ?_
    refine GE_then ?_
    refine GC_block ?_
    refine GC_loop (ι := (Nat) × (Option Addr) × (Nat) × (Nat) × (List Value) × (List (Int × Int))) (fun | ⟨k, q, e, n, xs, l⟩ => r.wday.length - k) (fun | ⟨k, q, e, n, xs, l⟩ => (k ≤ r.wday.length) ∧ (l = r.wday.take k) ∧ (n = l.length) ∧ (xs = pcells l)) (fun | ⟨k, q, e, n, xs, l⟩ => [(1, .pointer (some ⟨b1, 0, none⟩)), (2, .pointer (some ⟨b2, 0, none⟩)), (3, .pointer (some ⟨b3, 0, none⟩)), (48, .slice x.p14 (r.wday).length x.c14), (49, .int .i64 (r.wday.length)), (50, .int .i64 k)]) (fun | ⟨k, q, e, n, xs, l⟩ => ((38, b3) :: (37, b2) :: (36, b1) :: B)) (fun | ⟨k, q, e, n, xs, l⟩ => (ky 38 14, .slice q n e) :: (ky 38 8, .int .i64 0) :: (ky 38 7, .int .i64 r.untl) :: (ky 38 2, .int .i64 0) :: (ky 38 1, .int .i64 r.start) :: H) (fun | ⟨k, q, e, n, xs, l⟩ => (11, ⟨.slice q n e, 46, 2, n, xs⟩) :: S) ⟨0, none, 0, 0, [], []⟩ ⟨Nat.zero_le _, rfl, rfl, rfl⟩ (fun a k => k.cons rfl (k.cons rfl (k.cons rfl (k.cons rfl (k.cons rfl (k.cons rfl (k.nil))))))) (fun w s => by exact (s.nilRow 11 46 2).low 39 ((by repeat (first | exact lim | apply Lim.consH _ (by decide) (by decide) | apply Lim.consS _ (by decide)))) (by repeat (first | exact Agr.refl _ | apply Agr.pick rfl | apply Agr.skip (by decide) | apply Agr.seq (by decide) | apply Agr.put (by decide))) (by exact Agr.pick (ho.get 14 _ rfl) (Agr.pick rfl (Agr.pick rfl (Agr.pick rfl (Agr.pick rfl (by repeat (first | exact Agr.refl _ | apply Agr.skip (by decide) | apply Agr.seq (by decide)))))))) (by repeat (first | exact Agr.refl _ | apply Agr.pick rfl | apply Agr.skip (by decide) | apply Agr.seq (by decide) | apply Agr.put (by decide)))) ?_
    rintro ⟨k, q, e, n, xs, l⟩ ⟨hk, hl, hn, hx⟩
    show GC _ _ _ _ [(1, .pointer (some ⟨b1, 0, none⟩)), (2, .pointer (some ⟨b2, 0, none⟩)), (3, .pointer (some ⟨b3, 0, none⟩)), (48, .slice x.p14 (r.wday).length x.c14), (49, .int .i64 (r.wday.length)), (50, .int .i64 k)] _ _ (((38, b3) :: (37, b2) :: (36, b1) :: B)) ((ky 38 14, .slice q n e) :: (ky 38 8, .int .i64 0) :: (ky 38 7, .int .i64 r.untl) :: (ky 38 2, .int .i64 0) :: (ky 38 1, .int .i64 r.start) :: H) ((11, ⟨.slice q n e, 46, 2, n, xs⟩) :: S)
    refine GC_seq ?_
    refine GC_region ?_
    refine GL_rd rfl (by decide) (rd_lss rfl rfl) ?_
    refine GL_nil ?_
    refine GE_then ?_
    refine GC_seq ?_
    refine GC_cond rfl (fun hc1 => ?_) (fun hc2 => ?_)
    · skip
      have hlt : k < r.wday.length := by have := of_decide_eq_true hc1; omega
      obtain ⟨y, hy⟩ : ∃ y, r.wday[k]? = some y := ⟨_, List.getElem?_eq_getElem hlt⟩
      refine GC_have (fun w s => (hday _).head s (by omega)) fun hh => ?_
      obtain ⟨by_, oy_, hp_y⟩ := hh
      have src_y := hday
      rw [hp_y] at src_y
      have hdl := rk.days
      have hln : l.length = k := by rw [hl, List.length_take]; omega
      refine GC_skip ?_
      refine GE_then ?_
      refine GC_seq ?_
      refine GC_block ?_
      refine GC_seq ?_
      refine GC_region ?_
      refine GL_rd rfl (by decide) (rd_indexAddr (e := 65) (n := 2) (by kernel_rfl) (congrArg (fun p => some (Value.slice p _ _)) hp_y) rfl (by omega) (by omega)) ?_
      refine GL_rd rfl (by decide) (rd_loadAgg_at (cs := [.int .i64 y.1, .int .i64 y.2]) (by kernel_rfl) rfl (fun w s => (src_y _).cell hy s)) ?_
      refine GL_at rfl (at_alloc 53 (cs := [.int .i64 0, .int .i64 0]) (by decide) (by kernel_rfl) (lim.b 53 (by decide)) (fun o ho => by repeat (first | exact lim.h 53 (by decide) o ho | rw [lkp_ky_ne (by decide) ho (by decide)])) (Nat.le_of_ble_eq_true rfl) (fun b5 hb5 => ?_))
      refine GL_at rfl (at_storeAgg 53 rfl rfl rfl rfl (by kernel_rfl) rfl (Nat.le_of_ble_eq_true rfl) ?_)
      refine GL_nil ?_
      refine GE_then ?_
      refine GC_anyS (fun i => i == 10) (by kernel_rfl) ?_
      refine GA_rd (i := 0) rfl rfl (by repeat (first | exact hblind | exact Blind.body | with_reducible apply Blind.then | with_reducible apply Blind.inBlock)) (by kernel_rfl) rfl (by decide) (rd_fieldAddr (j := 14) (by kernel_rfl) rfl) (fun w s => by exact s.noS) ?_
      refine GA_rd (i := 1) rfl rfl (by repeat (first | exact hblind | exact Blind.body | with_reducible apply Blind.then | with_reducible apply Blind.inBlock)) (by kernel_rfl) rfl (by decide) (rd_load 38 rfl rfl rfl (by kernel_rfl) (by decide)) (fun w s => by exact s.noS) ?_
      refine GA_rd (i := 2) rfl rfl (by repeat (first | exact hblind | exact Blind.body | with_reducible apply Blind.then | with_reducible apply Blind.inBlock)) (by kernel_rfl) rfl (by decide) (rd_fieldAddr (j := 0) (by kernel_rfl) rfl) (fun w s => by exact s.noS) ?_
      refine GA_rd (i := 3) rfl rfl (by repeat (first | exact hblind | exact Blind.body | with_reducible apply Blind.then | with_reducible apply Blind.inBlock)) (by kernel_rfl) rfl (by decide) (rd_load 53 rfl rfl rfl (by kernel_rfl) (by decide)) (fun w s => by exact s.noS) ?_
      refine GA_rd (i := 4) rfl rfl (by repeat (first | exact hblind | exact Blind.body | with_reducible apply Blind.then | with_reducible apply Blind.inBlock)) (by kernel_rfl) rfl (by decide) (rd_fieldAddr (j := 1) (by kernel_rfl) rfl) (fun w s => by exact s.noS) ?_
      refine GA_rd (i := 5) rfl rfl (by repeat (first | exact hblind | exact Blind.body | with_reducible apply Blind.then | with_reducible apply Blind.inBlock)) (by kernel_rfl) rfl (by decide) (rd_load 53 rfl rfl rfl (by kernel_rfl) (by decide)) (fun w s => by exact s.noS) ?_
      refine GA_one (i := 6) rfl rfl (by kernel_rfl) rfl (at_call_v (by decide) (by kernel_rfl) rfl (fun w_ s_ => zzw_calls _ _ w_) (GK_C (fun _ w s => by exact s.noS) ?_))
      refine GA_one (i := 7) rfl rfl (by kernel_rfl) rfl (at_one_ 60 (e := 46) (sz := 2) (by_ := 16) (zs := [.int .i64 0, .int .i64 0]) (by decide) (by kernel_rfl) rfl (by decide) (by decide) rfl rfl rfl (fun bo => GK_C (fun _ w s => by exact s.noS) ?_))
      refine GA_one (i := 8) rfl rfl (by kernel_rfl) rfl (at_append 11 60 (e := 46) (sz := 2) (by_ := 16) (zs := [.int .i64 0, .int .i64 0]) (by decide) (by kernel_rfl) rfl (by decide) rfl rfl rfl rfl ⟨rfl, rfl⟩ ⟨rfl, rfl⟩ one2 (by simp only; omega) (by simp only; omega) (fun p' c' => GK_C (fun _ w s => by exact s.noS) ?_))
      refine GA_one (i := 9) rfl rfl (by kernel_rfl) rfl (at_rd (by decide) (rd_fieldAddr (j := 14) (by kernel_rfl) rfl) (GK_C (fun _ w s => by exact s.noS) ?_))
      refine GA_one (i := 10) rfl rfl (by kernel_rfl) rfl (at_store 38 rfl rfl rfl rfl (by kernel_rfl) rfl (by decide) (GK_C (fun h => absurd h (by decide)) ?_))
      refine GA_end (by kernel_rfl) ?_
      refine GE_in ?_
      refine GE_then ?_
      refine GC_region ?_
      first
        | refine GL_rd rfl (by decide) (rd_add_ rfl rfl (by omega)) ?_
        | refine GL_rd rfl (by decide) (rd_add rfl rfl) ?_
      refine GL_rd rfl (by decide) (rd_move rfl) ?_
      refine GL_nil ?_
      refine GE_back ⟨k + 1, p', c', n + 1, xs ++ [.int .i64 y.1, .int .i64 y.2], l ++ [y]⟩ (by simp only; omega) ⟨by omega, by rw [hl, List.take_add_one, hy]; rfl, by rw [List.length_append, hn]; rfl, by rw [hx]; exact pcells_append _ _⟩ (fun a k => k.cons rfl (k.cons rfl (k.cons rfl (k.cons rfl (k.cons rfl (k.cons rfl (k.nil))))))) (fun w s => by exact s.low 39 ((by repeat (first | exact lim | apply Lim.consH _ (by decide) (by decide) | apply Lim.consS _ (by decide)))) (by repeat (first | exact Agr.refl _ | apply Agr.pick rfl | apply Agr.skip (by decide) | apply Agr.seq (by decide) | apply Agr.put (by decide))) (by repeat (first | exact Agr.refl _ | apply Agr.pick rfl | apply Agr.skip (by decide) | apply Agr.seq (by decide) | apply Agr.put (by decide))) (by repeat (first | exact Agr.refl _ | apply Agr.pick rfl | apply Agr.skip (by decide) | apply Agr.seq (by decide) | apply Agr.put (by decide))))
    · skip
      have hge : ¬ k < r.wday.length := by have := of_decide_eq_false hc2; omega
      obtain rfl : k = r.wday.length := by omega
      rw [List.take_length] at hl
      subst hl hn hx
      refine GC_exit ?_
      refine GE_then_exit ?_
      refine GE_then_exit ?_
      refine GE_in_self ?_
      refine GE_then ?_
      refine GC_seq ?_
      refine GC_region ?_
      have hc2_ : cellsAt 38 ((ky 38 14, .slice q r.wday.length e) :: (ky 38 8, .int .i64 0) :: (ky 38 7, .int .i64 r.untl) :: (ky 38 2, .int .i64 0) :: (ky 38 1, .int .i64 r.start) :: H) 0 (oc0 (optOf r) { x with p14 := q, c14 := e }) := (cellsAt.cons (ho.get 0 _ rfl) (cellsAt.cons rfl (cellsAt.cons rfl (cellsAt.cons (ho.get 3 _ rfl) (cellsAt.cons (ho.get 4 _ rfl) (cellsAt.cons (ho.get 5 _ rfl) (cellsAt.cons (ho.get 6 _ rfl) (cellsAt.cons (show lkp (ky 38 7) _ = some (Value.int .i64 (optOf r).u) from by rw [hu]; rfl) (cellsAt.cons rfl (cellsAt.cons (ho.get 9 _ rfl) (cellsAt.cons (ho.get 10 _ rfl) (cellsAt.cons (ho.get 11 _ rfl) (cellsAt.cons (ho.get 12 _ rfl) (cellsAt.cons (ho.get 13 _ rfl) (cellsAt.cons rfl (cellsAt.cons (ho.get 15 _ rfl) (cellsAt.cons (ho.get 16 _ rfl) (cellsAt.cons (ho.get 17 _ rfl) (cellsAt.cons (ho.get 18 _ rfl) cellsAt.nil)))))))))))))))))))
      refine GL_to (fun a k => k) (fun w s => s) (H' := (ky 38 14, .slice q r.wday.length e) :: (ky 38 8, .int .i64 0) :: (ky 38 7, .int .i64 r.untl) :: (ky 38 2, .int .i64 0) :: (ky 38 1, .int .i64 r.start) :: H) ?_
      refine GL_rd rfl (by decide) ((rd_loadN 38 (cs := oc0 (optOf r) { x with p14 := q, c14 := e }) rfl rfl hc2_.get (Nat.le_of_ble_eq_true rfl) (by kernel_rfl))) ?_
      refine GL_at rfl (at_storeAgg 37 (cs := (oc0 (optOf r) { x with p14 := q, c14 := e }).toArray) rfl rfl rfl (knwn_mono (by repeat (first | exact Knw.refl _ | apply Knw.cons)) h2) (by kernel_rfl) rfl (Nat.le_of_ble_eq_true rfl) ?_)
      refine GL_nil ?_
      refine GE_then ?_
      refine GC_ret ?_
      refine GE_ret1 (.inl rfl) rfl (res_cellN 37 (cs := oc0 (optOf r) { x with p14 := q, c14 := e }) rfl rfl (fun i v h => by have := putSeq_get (j := 37) (oc0 (optOf r) { x with p14 := q, c14 := e }) 0 (H := (ky 38 14, .slice q r.wday.length e) :: (ky 38 8, .int .i64 0) :: (ky 38 7, .int .i64 r.untl) :: (ky 38 2, .int .i64 0) :: (ky 38 1, .int .i64 r.start) :: H) (Nat.le_of_ble_eq_true rfl) i v h; rwa [Nat.zero_add] at this) (Nat.le_of_ble_eq_true rfl) (by kernel_rfl)) fun w s => hR q e w ?_
      refine s.to (fun k b h => ?_) (fun k o v ho_ h => ?_) (fun k q h => ?_)
      · have hk : k < 36 := by
          rcases Nat.lt_or_ge k 36 with h' | h'
          · exact h'
          · rw [limB.b k h'] at h; cases h
        rw [lkp_cons_ne (by omega), lkp_cons_ne (by omega), lkp_cons_ne (by omega)]; exact h
      · have hk : k < 36 := by
          rcases Nat.lt_or_ge k 36 with h' | h'
          · exact h'
          · rw [limB.h k h' o ho_] at h; cases h
        have h1 := (lkp_seq_ne (j := 37) (k := k) (by omega) ho_ (oc0 (optOf r) { x with p14 := q, c14 := e }) 0 (A := (ky 38 14, .slice q r.wday.length e) :: (ky 38 8, .int .i64 0) :: (ky 38 7, .int .i64 r.untl) :: (ky 38 2, .int .i64 0) :: (ky 38 1, .int .i64 r.start) :: H) (Nat.le_of_ble_eq_true rfl)).trans (Eq.trans (by repeat (first | rfl | rw [lkp_ky_ne (by omega) ho_ (by decide)])) ((frH k hk o ho_).trans h))
        obtain ⟨b, e_, _⟩ := s.cells k o v ho_ h1
        rw [lkp_cons_ne (by omega), lkp_cons_ne (by omega), lkp_cons_ne (by omega)] at e_
        exact ⟨h1, by rw [e_]; rfl⟩
      · exact h
  · skip
    have hu1 : r.hasUntil = false := hc2
    have hu : (optOf r).u = 0 := by unfold optOf; simp only; rw [hu1]; rfl
    refine GC_skip ?_
    refine GE_then ?_
    refine GC_seq ?_
    refine GC_seq ?_
    refine GC_region ?_
    refine GL_rd rfl (by decide) (rd_fieldAddr (j := 13) (by kernel_rfl) rfl) ?_
    refine GL_rd rfl (by decide) (rd_load 36 rfl rfl (hr.get 13 _ rfl) (by kernel_rfl) (by decide)) ?_
    refine GL_rd rfl (by decide) (rd_len (by kernel_rfl) rfl) ?_
    refine GL_rd rfl (by decide) (rd_move rfl) ?_
    refine GL_nil ?_
    refine GE_then ?_
    refine GC_block ?_
    refine GC_loop (ι := (Nat) × (Option Addr) × (Nat) × (Nat) × (List Value) × (List (Int × Int))) (fun | ⟨k, q, e, n, xs, l⟩ => r.wday.length - k) (fun | ⟨k, q, e, n, xs, l⟩ => (k ≤ r.wday.length) ∧ (l = r.wday.take k) ∧ (n = l.length) ∧ (xs = pcells l)) (fun | ⟨k, q, e, n, xs, l⟩ => [(1, .pointer (some ⟨b1, 0, none⟩)), (2, .pointer (some ⟨b2, 0, none⟩)), (3, .pointer (some ⟨b3, 0, none⟩)), (48, .slice x.p14 (r.wday).length x.c14), (49, .int .i64 (r.wday.length)), (50, .int .i64 k)]) (fun | ⟨k, q, e, n, xs, l⟩ => ((38, b3) :: (37, b2) :: (36, b1) :: B)) (fun | ⟨k, q, e, n, xs, l⟩ => (ky 38 14, .slice q n e) :: (ky 38 8, .int .i64 0) :: (ky 38 7, .int .i64 0) :: (ky 38 2, .int .i64 0) :: (ky 38 1, .int .i64 r.start) :: H) (fun | ⟨k, q, e, n, xs, l⟩ => (11, ⟨.slice q n e, 46, 2, n, xs⟩) :: S) ⟨0, none, 0, 0, [], []⟩ ⟨Nat.zero_le _, rfl, rfl, rfl⟩ (fun a k => k.cons rfl (k.cons rfl (k.cons rfl (k.cons rfl (k.cons rfl (k.cons rfl (k.nil))))))) (fun w s => by exact (s.nilRow 11 46 2).low 39 ((by repeat (first | exact lim | apply Lim.consH _ (by decide) (by decide) | apply Lim.consS _ (by decide)))) (by repeat (first | exact Agr.refl _ | apply Agr.pick rfl | apply Agr.skip (by decide) | apply Agr.seq (by decide) | apply Agr.put (by decide))) (by exact Agr.pick (ho.get 14 _ rfl) (Agr.pick (ho.get 8 _ rfl) (Agr.pick (ho.get 7 _ rfl) (Agr.pick rfl (Agr.pick rfl (by repeat (first | exact Agr.refl _ | apply Agr.skip (by decide) | apply Agr.seq (by decide)))))))) (by repeat (first | exact Agr.refl _ | apply Agr.pick rfl | apply Agr.skip (by decide) | apply Agr.seq (by decide) | apply Agr.put (by decide)))) ?_
    rintro ⟨k, q, e, n, xs, l⟩ ⟨hk, hl, hn, hx⟩
    show GC _ _ _ _ [(1, .pointer (some ⟨b1, 0, none⟩)), (2, .pointer (some ⟨b2, 0, none⟩)), (3, .pointer (some ⟨b3, 0, none⟩)), (48, .slice x.p14 (r.wday).length x.c14), (49, .int .i64 (r.wday.length)), (50, .int .i64 k)] _ _ (((38, b3) :: (37, b2) :: (36, b1) :: B)) ((ky 38 14, .slice q n e) :: (ky 38 8, .int .i64 0) :: (ky 38 7, .int .i64 0) :: (ky 38 2, .int .i64 0) :: (ky 38 1, .int .i64 r.start) :: H) ((11, ⟨.slice q n e, 46, 2, n, xs⟩) :: S)
    refine GC_seq ?_
    refine GC_region ?_
    refine GL_rd rfl (by decide) (rd_lss rfl rfl) ?_
    refine GL_nil ?_
    refine GE_then ?_
    refine GC_seq ?_
    refine GC_cond rfl (fun hc1 => ?_) (fun hc2 => ?_)
    · skip
      have hlt : k < r.wday.length := by have := of_decide_eq_true hc1; omega
      obtain ⟨y, hy⟩ : ∃ y, r.wday[k]? = some y := ⟨_, List.getElem?_eq_getElem hlt⟩
      refine GC_have (fun w s => (hday _).head s (by omega)) fun hh => ?_
      obtain ⟨by_, oy_, hp_y⟩ := hh
      have src_y := hday
      rw [hp_y] at src_y
      have hdl := rk.days
      have hln : l.length = k := by rw [hl, List.length_take]; omega
      refine GC_skip ?_
      refine GE_then ?_
      refine GC_seq ?_
      refine GC_block ?_
      refine GC_seq ?_
      refine GC_region ?_
      refine GL_rd rfl (by decide) (rd_indexAddr (e := 65) (n := 2) (by kernel_rfl) (congrArg (fun p => some (Value.slice p _ _)) hp_y) rfl (by omega) (by omega)) ?_
      refine GL_rd rfl (by decide) (rd_loadAgg_at (cs := [.int .i64 y.1, .int .i64 y.2]) (by kernel_rfl) rfl (fun w s => (src_y _).cell hy s)) ?_
      refine GL_at rfl (at_alloc 53 (cs := [.int .i64 0, .int .i64 0]) (by decide) (by kernel_rfl) (lim.b 53 (by decide)) (fun o ho => by repeat (first | exact lim.h 53 (by decide) o ho | rw [lkp_ky_ne (by decide) ho (by decide)])) (Nat.le_of_ble_eq_true rfl) (fun b5 hb5 => ?_))
      refine GL_at rfl (at_storeAgg 53 rfl rfl rfl rfl (by kernel_rfl) rfl (Nat.le_of_ble_eq_true rfl) ?_)
      refine GL_nil ?_
      refine GE_then ?_
      refine GC_anyS (fun i => i == 10) (by kernel_rfl) ?_
      refine GA_rd (i := 0) rfl rfl (by repeat (first | exact hblind | exact Blind.body | with_reducible apply Blind.then | with_reducible apply Blind.inBlock)) (by kernel_rfl) rfl (by decide) (rd_fieldAddr (j := 14) (by kernel_rfl) rfl) (fun w s => by exact s.noS) ?_
      refine GA_rd (i := 1) rfl rfl (by repeat (first | exact hblind | exact Blind.body | with_reducible apply Blind.then | with_reducible apply Blind.inBlock)) (by kernel_rfl) rfl (by decide) (rd_load 38 rfl rfl rfl (by kernel_rfl) (by decide)) (fun w s => by exact s.noS) ?_
      refine GA_rd (i := 2) rfl rfl (by repeat (first | exact hblind | exact Blind.body | with_reducible apply Blind.then | with_reducible apply Blind.inBlock)) (by kernel_rfl) rfl (by decide) (rd_fieldAddr (j := 0) (by kernel_rfl) rfl) (fun w s => by exact s.noS) ?_
      refine GA_rd (i := 3) rfl rfl (by repeat (first | exact hblind | exact Blind.body | with_reducible apply Blind.then | with_reducible apply Blind.inBlock)) (by kernel_rfl) rfl (by decide) (rd_load 53 rfl rfl rfl (by kernel_rfl) (by decide)) (fun w s => by exact s.noS) ?_
      refine GA_rd (i := 4) rfl rfl (by repeat (first | exact hblind | exact Blind.body | with_reducible apply Blind.then | with_reducible apply Blind.inBlock)) (by kernel_rfl) rfl (by decide) (rd_fieldAddr (j := 1) (by kernel_rfl) rfl) (fun w s => by exact s.noS) ?_
      refine GA_rd (i := 5) rfl rfl (by repeat (first | exact hblind | exact Blind.body | with_reducible apply Blind.then | with_reducible apply Blind.inBlock)) (by kernel_rfl) rfl (by decide) (rd_load 53 rfl rfl rfl (by kernel_rfl) (by decide)) (fun w s => by exact s.noS) ?_
      refine GA_one (i := 6) rfl rfl (by kernel_rfl) rfl (at_call_v (by decide) (by kernel_rfl) rfl (fun w_ s_ => zzw_calls _ _ w_) (GK_C (fun _ w s => by exact s.noS) ?_))
      refine GA_one (i := 7) rfl rfl (by kernel_rfl) rfl (at_one_ 60 (e := 46) (sz := 2) (by_ := 16) (zs := [.int .i64 0, .int .i64 0]) (by decide) (by kernel_rfl) rfl (by decide) (by decide) rfl rfl rfl (fun bo => GK_C (fun _ w s => by exact s.noS) ?_))
      refine GA_one (i := 8) rfl rfl (by kernel_rfl) rfl (at_append 11 60 (e := 46) (sz := 2) (by_ := 16) (zs := [.int .i64 0, .int .i64 0]) (by decide) (by kernel_rfl) rfl (by decide) rfl rfl rfl rfl ⟨rfl, rfl⟩ ⟨rfl, rfl⟩ one2 (by simp only; omega) (by simp only; omega) (fun p' c' => GK_C (fun _ w s => by exact s.noS) ?_))
      refine GA_one (i := 9) rfl rfl (by kernel_rfl) rfl (at_rd (by decide) (rd_fieldAddr (j := 14) (by kernel_rfl) rfl) (GK_C (fun _ w s => by exact s.noS) ?_))
      refine GA_one (i := 10) rfl rfl (by kernel_rfl) rfl (at_store 38 rfl rfl rfl rfl (by kernel_rfl) rfl (by decide) (GK_C (fun h => absurd h (by decide)) ?_))
      refine GA_end (by kernel_rfl) ?_
      refine GE_in ?_
      refine GE_then ?_
      refine GC_region ?_
      first
        | refine GL_rd rfl (by decide) (rd_add_ rfl rfl (by omega)) ?_
        | refine GL_rd rfl (by decide) (rd_add rfl rfl) ?_
      refine GL_rd rfl (by decide) (rd_move rfl) ?_
      refine GL_nil ?_
      refine GE_back ⟨k + 1, p', c', n + 1, xs ++ [.int .i64 y.1, .int .i64 y.2], l ++ [y]⟩ (by simp only; omega) ⟨by omega, by rw [hl, List.take_add_one, hy]; rfl, by rw [List.length_append, hn]; rfl, by rw [hx]; exact pcells_append _ _⟩ (fun a k => k.cons rfl (k.cons rfl (k.cons rfl (k.cons rfl (k.cons rfl (k.cons rfl (k.nil))))))) (fun w s => by exact s.low 39 ((by repeat (first | exact lim | apply Lim.consH _ (by decide) (by decide) | apply Lim.consS _ (by decide)))) (by repeat (first | exact Agr.refl _ | apply Agr.pick rfl | apply Agr.skip (by decide) | apply Agr.seq (by decide) | apply Agr.put (by decide))) (by repeat (first | exact Agr.refl _ | apply Agr.pick rfl | apply Agr.skip (by decide) | apply Agr.seq (by decide) | apply Agr.put (by decide))) (by repeat (first | exact Agr.refl _ | apply Agr.pick rfl | apply Agr.skip (by decide) | apply Agr.seq (by decide) | apply Agr.put (by decide))))
    · skip
      have hge : ¬ k < r.wday.length := by have := of_decide_eq_false hc2; omega
      obtain rfl : k = r.wday.length := by omega
      rw [List.take_length] at hl
      subst hl hn hx
      refine GC_exit ?_
      refine GE_then_exit ?_
      refine GE_then_exit ?_
      refine GE_in_self ?_
      refine GE_then ?_
      refine GC_seq ?_
      refine GC_region ?_
      have hc2_ : cellsAt 38 ((ky 38 14, .slice q r.wday.length e) :: (ky 38 8, .int .i64 0) :: (ky 38 7, .int .i64 0) :: (ky 38 2, .int .i64 0) :: (ky 38 1, .int .i64 r.start) :: H) 0 (oc0 (optOf r) { x with p14 := q, c14 := e }) := (cellsAt.cons (ho.get 0 _ rfl) (cellsAt.cons rfl (cellsAt.cons rfl (cellsAt.cons (ho.get 3 _ rfl) (cellsAt.cons (ho.get 4 _ rfl) (cellsAt.cons (ho.get 5 _ rfl) (cellsAt.cons (ho.get 6 _ rfl) (cellsAt.cons (show lkp (ky 38 7) _ = some (Value.int .i64 (optOf r).u) from by rw [hu]; rfl) (cellsAt.cons rfl (cellsAt.cons (ho.get 9 _ rfl) (cellsAt.cons (ho.get 10 _ rfl) (cellsAt.cons (ho.get 11 _ rfl) (cellsAt.cons (ho.get 12 _ rfl) (cellsAt.cons (ho.get 13 _ rfl) (cellsAt.cons rfl (cellsAt.cons (ho.get 15 _ rfl) (cellsAt.cons (ho.get 16 _ rfl) (cellsAt.cons (ho.get 17 _ rfl) (cellsAt.cons (ho.get 18 _ rfl) cellsAt.nil)))))))))))))))))))
      refine GL_to (fun a k => k) (fun w s => s) (H' := (ky 38 14, .slice q r.wday.length e) :: (ky 38 8, .int .i64 0) :: (ky 38 7, .int .i64 0) :: (ky 38 2, .int .i64 0) :: (ky 38 1, .int .i64 r.start) :: H) ?_
      refine GL_rd rfl (by decide) ((rd_loadN 38 (cs := oc0 (optOf r) { x with p14 := q, c14 := e }) rfl rfl hc2_.get (Nat.le_of_ble_eq_true rfl) (by kernel_rfl))) ?_
      refine GL_at rfl (at_storeAgg 37 (cs := (oc0 (optOf r) { x with p14 := q, c14 := e }).toArray) rfl rfl rfl (knwn_mono (by repeat (first | exact Knw.refl _ | apply Knw.cons)) h2) (by kernel_rfl) rfl (Nat.le_of_ble_eq_true rfl) ?_)
      refine GL_nil ?_
      refine GE_then ?_
      refine GC_ret ?_
      refine GE_ret1 (.inl rfl) rfl (res_cellN 37 (cs := oc0 (optOf r) { x with p14 := q, c14 := e }) rfl rfl (fun i v h => by have := putSeq_get (j := 37) (oc0 (optOf r) { x with p14 := q, c14 := e }) 0 (H := (ky 38 14, .slice q r.wday.length e) :: (ky 38 8, .int .i64 0) :: (ky 38 7, .int .i64 0) :: (ky 38 2, .int .i64 0) :: (ky 38 1, .int .i64 r.start) :: H) (Nat.le_of_ble_eq_true rfl) i v h; rwa [Nat.zero_add] at this) (Nat.le_of_ble_eq_true rfl) (by kernel_rfl)) fun w s => hR q e w ?_
      refine s.to (fun k b h => ?_) (fun k o v ho_ h => ?_) (fun k q h => ?_)
      · have hk : k < 36 := by
          rcases Nat.lt_or_ge k 36 with h' | h'
          · exact h'
          · rw [limB.b k h'] at h; cases h
        rw [lkp_cons_ne (by omega), lkp_cons_ne (by omega), lkp_cons_ne (by omega)]; exact h
      · have hk : k < 36 := by
          rcases Nat.lt_or_ge k 36 with h' | h'
          · exact h'
          · rw [limB.h k h' o ho_] at h; cases h
        have h1 := (lkp_seq_ne (j := 37) (k := k) (by omega) ho_ (oc0 (optOf r) { x with p14 := q, c14 := e }) 0 (A := (ky 38 14, .slice q r.wday.length e) :: (ky 38 8, .int .i64 0) :: (ky 38 7, .int .i64 0) :: (ky 38 2, .int .i64 0) :: (ky 38 1, .int .i64 r.start) :: H) (Nat.le_of_ble_eq_true rfl)).trans (Eq.trans (by repeat (first | rfl | rw [lkp_ky_ne (by omega) ho_ (by decide)])) ((frH k hk o ho_).trans h))
        obtain ⟨b, e_, _⟩ := s.cells k o v ho_ h1
        rw [lkp_cons_ne (by omega), lkp_cons_ne (by omega), lkp_cons_ne (by omega)] at e_
        exact ⟨h1, by rw [e_]; rfl⟩
      · exact h
end
end Go.Proofs.YtfcklceejjmjeaaGreat
