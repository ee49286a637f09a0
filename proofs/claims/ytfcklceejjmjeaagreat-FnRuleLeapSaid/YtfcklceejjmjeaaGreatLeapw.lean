/-
  Three days in a row are the dates of a daily rule; the 29th of February by years.
-/
import Derived.Test.YtfcklceejjmjeaaGreatProg
import Derived.Test.YtfcklceejjmjeaaGreatMd
import Derived.Test.YtfcklceejjmjeaaGreatFg
import Derived.Test.YtfcklceejjmjeaaGreatMi
set_option linter.unusedVariables false
set_option linter.unusedSimpArgs false
set_option maxRecDepth 100000
set_option maxHeartbeats 8000000
namespace Go.Proofs.YtfcklceejjmjeaaGreat
open Go.RowKit Go.Fr Go.Tab
section
variable {F : Nat → Prop} {w0 : World} {B : List (Nat × Nat)} {H : List (Nat × Value)} {S : List (Nat × Slc)}

open Go.Md
theorem Sees.seqPut {j : Nat} {cs zs : List Value} {w : World} (s : Sees F w0 B (putSeq j 0 cs (putKeys j 0 zs ++ H)) S w) (h1 : cs.length ≤ 4096) (he : cs.length = zs.length) : Sees F w0 B (putKeys j 0 cs ++ H) S w :=
  s.to (fun _ _ h => h) (fun k o v ho h => by
    have h2 : lkp (ky k o) (putSeq j 0 cs (putKeys j 0 zs ++ H)) = some v := by
      by_cases e : k = j
      · subst e
        rcases Nat.lt_or_ge o cs.length with h' | h'
        · have e1 := putSeq_get (j := k) cs 0 (H := putKeys k 0 zs ++ H) (by omega) o _ (List.getElem?_eq_getElem h')
          have e2 := put_get (j := k) (H := H) cs 0 (by omega) o _ (List.getElem?_eq_getElem h')
          rw [Nat.zero_add] at e1 e2
          rw [e2] at h
          rw [e1]; exact h
        · rw [lkp_append_ne (fun v hv => by
            obtain ⟨i, hi, hlt⟩ := putKeys_mem cs 0 hv
            unfold ky at hi; omega)] at h
          rw [lkp_putSeq_above cs 0 o (by omega), lkp_append_ne (fun v hv => by
            obtain ⟨i, hi, hlt⟩ := putKeys_mem zs 0 hv
            unfold ky at hi; omega)]
          exact h
      · rw [lkp_put_ne e ho cs 0 (by omega)] at h
        rw [lkp_seq_ne e ho cs 0 (by omega), lkp_put_ne e ho zs 0 (by omega)]
        exact h
    obtain ⟨b, e, _⟩ := s.cells k o v ho h2
    exact ⟨h2, by rw [e]; rfl⟩) (fun _ _ h => h)
theorem wantF_succ (step hi : Int) (f : Nat) (k : Int) (n : Nat) : wantF step hi (f + 1) k n = if n = 0 ∨ hi ≤ k then [] else if Cal.leapB k then (Cal.daysTo k + 59) * 86400 :: wantF step hi f (k + step) (n - 1) else wantF step hi f (k + step) n := rfl
theorem awake_calls (w : World) : Calls Go.Proofs.Tryz.prog 7 #[] w fun e w' => e = .returned (.bool true) ∧ Below w.heap.size w w' := by
  refine calls_GC (args := []) (L := []) (N := 14) Tryz.func7 rfl rfl (Nat.le_of_ble_eq_true rfl) rfl (Sees.start (fun _ => False) w) ?_
  refine GC_seq ?_
  refine GC_region ?_
  refine GL_rd rfl (by decide) (rd_assign rfl) ?_
  refine GL_nil ?_
  refine GE_then ?_
  refine GC_seq ?_
  refine GC_region ?_
  refine GL_rd rfl (by decide) (rd_build (vs := [(0, .int .u8 3), (1, .bool true), (2, .int .i64 86400), (3, .int .i64 1)]) (v := .agg (rulC (bare 3 86400 1) xN).toArray) rfl (fun w => by kernel_rfl)) ?_
  refine GL_at rfl (at_call (ι := Option Addr × Nat) (fun y => .tuple #[.slice y.1 (([86400, 172800, 259200] : List Int)).length y.2, .bool true]) (fun _ => True) (fun _ => _) (fun _ => _) (fun y => (10, ⟨.slice y.1 (([86400, 172800, 259200] : List Int)).length y.2, 2, 1, (([86400, 172800, 259200] : List Int)).length, (([86400, 172800, 259200] : List Int)).map (Value.int .i64)⟩) :: _) (by decide) (by kernel_rfl) rfl (fun w_ s_ => (bare_first (f := 3) (st := 86400) (iv := 1) (most := 3) (.inr (.inr rfl)) (by decide) (by decide) (by decide) (l := ([86400, 172800, 259200] : List Int)) awk_tells w_).mono fun e w' ⟨p, c, he, hb⟩ => ⟨(p, c), trivial, he, s_.newRow hb 10⟩) (fun | (pr, cr), _ => ?_))
  refine GL_rd rfl (by decide) (rd_move rfl) ?_
  refine GL_rd rfl (by decide) (rd_extract rfl rfl) ?_
  refine GL_rd rfl (by decide) (rd_extract rfl rfl) ?_
  refine GL_rd rfl (by decide) (rd_assign rfl) ?_
  refine GL_rd rfl (by decide) (rd_assign rfl) ?_
  refine GL_nil ?_
  refine GE_then ?_
  refine GC_seq ?_
  refine GC_region ?_
  refine GL_rd rfl (by decide) (rd_move rfl) ?_
  refine GL_rd rfl (by decide) (rd_move rfl) ?_
  refine GL_take rfl rfl ?_
  refine GL_rd rfl (by decide) (rd_move rfl) ?_
  refine GL_take rfl rfl ?_
  refine GL_at rfl (at_row 11 (e := 2) (sz := 1) (n := 3) (vs := [(0, .int .i64 86400), (1, .int .i64 172800), (2, .int .i64 259200)]) (cs := [.int .i64 86400, .int .i64 172800, .int .i64 259200]) (by decide) rfl (fun w => by kernel_rfl) rfl (by decide) (by decide) rfl (fun b1_ hbb1_ => ?_))
  refine GL_take rfl rfl ?_
  refine GL_at rfl (at_call_v (v := .bool true) (by decide) (by kernel_rfl) rfl (fun w_ s_ => equal_calls _ _ _ _ ([86400, 172800, 259200] : List Int) (by decide) w_ (s_.ints 10 (xs := ([86400, 172800, 259200] : List Int)) rfl) (s_.ints 11 (xs := ([86400, 172800, 259200] : List Int)) rfl)) ?_)
  refine GL_rd rfl (by decide) (rd_pick rfl rfl rfl) ?_
  refine GL_rd rfl (by decide) (rd_assign rfl) ?_
  refine GL_nil ?_
  refine GE_then ?_
  refine GC_ret ?_
  exact GE_ret1 (.inl rfl) rfl (res_tmp rfl) fun w_ s_ => ⟨rfl, s_.toBelow⟩
theorem leap_walk (a0 a1 a2 : Int) (h0 : 0 ≤ a0 ∧ a0 < 65536) (h1 : 0 ≤ a1 ∧ a1 < 256) (h2 : 0 ≤ a2 ∧ a2 < 256) (w : World) : Calls Go.Proofs.Tryz.prog 3 #[.int .u16 a0, .int .u8 a1, .int .u8 a2] w fun e w' => e = .returned (.bool true) ∧ Below w.heap.size w w' := by
  refine calls_GC (args := [.int .u16 a0, .int .u8 a1, .int .u8 a2]) (L := [(0, .int .u16 a0), (1, .int .u8 a1), (2, .int .u8 a2)]) (N := 75) Tryz.func3 rfl rfl (Nat.le_of_ble_eq_true rfl) rfl (Sees.start (fun _ => False) w) ?_
  refine GC_seq ?_
  refine GC_region ?_
  refine GL_rd rfl (by decide) (rd_assign rfl) ?_
  refine GL_nil ?_
  refine GE_then ?_
  refine GC_seq ?_
  refine GC_region ?_
  refine GL_rd rfl (by decide) (rd_move rfl) ?_
  first
    | refine GL_rd rfl (by decide) (rd_convert_ rfl (by kernel_rfl) (by kernel_rfl) (by omega)) ?_
    | refine GL_rd rfl (by decide) (rd_convert rfl (by kernel_rfl) (by kernel_rfl)) ?_
  first
    | refine GL_rd rfl (by decide) (rd_rem_ rfl rfl (by omega) (by omega)) ?_
    | refine GL_rd rfl (by decide) (rd_rem rfl rfl (by omega)) ?_
  first
    | refine GL_rd rfl (by decide) (rd_add_ rfl rfl (by omega)) ?_
    | refine GL_rd rfl (by decide) (rd_add rfl rfl) ?_
  refine GL_rd rfl (by decide) (rd_assign rfl) ?_
  refine GL_nil ?_
  refine GE_then ?_
  refine GC_seq ?_
  refine GC_block ?_
  refine GC_loop (ι := (Int)) (fun y => (8000 - y).toNat) (fun y => (4 ≤ y ∧ y ≤ 8000)) (fun y => [(0, .int .u16 a0), (1, .int .u8 a1), (2, .int .u8 a2), (7, .int .i64 y)]) (fun y => []) (fun y => []) (fun y => []) (4 + a0 % 7997) (by show 4 ≤ 4 + a0 % 7997 ∧ 4 + a0 % 7997 ≤ 8000; omega) (fun a k => k.cons rfl (k.cons rfl (k.cons rfl (k.cons rfl (k.nil))))) (fun w s => by exact s) ?_
  rintro y hy
  show GC _ _ _ _ [(0, .int .u16 a0), (1, .int .u8 a1), (2, .int .u8 a2), (7, .int .i64 y)] _ _ ([]) ([]) ([])
  refine GC_seq ?_
  refine GC_seq ?_
  refine GC_region ?_
  refine GL_rd rfl (by decide) (rd_move rfl) ?_
  refine GL_at rfl (at_call_v (by decide) (by kernel_rfl) rfl (fun w_ s_ => sleap_calls _ (by omega) w_) ?_)
  refine GL_rd rfl (by decide) (rd_not rfl) ?_
  refine GL_nil ?_
  refine GE_then ?_
  refine GC_cond rfl (fun hc1 => ?_) (fun hc2 => ?_)
  · skip
    have hnl : Cal.leapB y = false := by simpa using hc1
    have h8 : y ≠ 8000 := fun e => by subst e; exact absurd hnl (by decide)
    refine GC_skip ?_
    refine GE_then ?_
    refine GC_block ?_
    refine GC_region ?_
    refine GL_rd rfl (by decide) (rd_move rfl) ?_
    first
      | refine GL_rd rfl (by decide) (rd_add_ rfl rfl (by omega)) ?_
      | refine GL_rd rfl (by decide) (rd_add rfl rfl) ?_
    refine GL_rd rfl (by decide) (rd_assign rfl) ?_
    refine GL_nil ?_
    refine GE_in ?_
    refine GE_back (y + 1) (by omega) (by show 4 ≤ y + 1 ∧ y + 1 ≤ 8000; omega) (fun a k => k.cons rfl (k.cons rfl (k.cons rfl (k.cons rfl (k.nil))))) (fun w s => by exact s)
  · skip
    have hlp : Cal.leapB y = true := by simpa using hc2
    have hlp1 : Cal.lp y = 1 := by unfold Cal.lp; rw [hlp]; rfl
    have hdy : 0 ≤ Cal.daysTo y ∧ Cal.daysTo y ≤ 3000000 := by unfold Cal.daysTo; omega
    obtain ⟨f1, f2, f3⟩ := feb29 hlp
    refine GC_exit ?_
    refine GE_then_exit ?_
    refine GE_then_exit ?_
    refine GE_in_self ?_
    refine GE_then ?_
    refine GC_seq ?_
    refine GC_region ?_
    refine GL_rd rfl (by decide) (rd_move rfl) ?_
    first
      | refine GL_rd rfl (by decide) (rd_convert_ rfl (by kernel_rfl) (by kernel_rfl) (by omega)) ?_
      | refine GL_rd rfl (by decide) (rd_convert rfl (by kernel_rfl) (by kernel_rfl)) ?_
    first
      | refine GL_rd rfl (by decide) (rd_rem_ rfl rfl (by omega) (by omega)) ?_
      | refine GL_rd rfl (by decide) (rd_rem rfl rfl (by omega)) ?_
    first
      | refine GL_rd rfl (by decide) (rd_add_ rfl rfl (by omega)) ?_
      | refine GL_rd rfl (by decide) (rd_add rfl rfl) ?_
    refine GL_rd rfl (by decide) (rd_assign rfl) ?_
    refine GL_nil ?_
    refine GE_then ?_
    refine GC_seq ?_
    refine GC_region ?_
    refine GL_rd rfl (by decide) (rd_move rfl) ?_
    first
      | refine GL_rd rfl (by decide) (rd_convert_ rfl (by kernel_rfl) (by kernel_rfl) (by omega)) ?_
      | refine GL_rd rfl (by decide) (rd_convert rfl (by kernel_rfl) (by kernel_rfl)) ?_
    first
      | refine GL_rd rfl (by decide) (rd_rem_ rfl rfl (by omega) (by omega)) ?_
      | refine GL_rd rfl (by decide) (rd_rem rfl rfl (by omega)) ?_
    first
      | refine GL_rd rfl (by decide) (rd_add_ rfl rfl (by omega)) ?_
      | refine GL_rd rfl (by decide) (rd_add rfl rfl) ?_
    refine GL_rd rfl (by decide) (rd_assign rfl) ?_
    refine GL_nil ?_
    refine GE_then ?_
    refine GC_seq ?_
    refine GC_region ?_
    refine GL_rd rfl (by decide) (rd_move rfl) ?_
    refine GL_at rfl (at_call_v (v := .int .i64 (Cal.daysTo y + 59)) (by decide) (by kernel_rfl) rfl (fun w_ s_ => (daysOf_calls y 2 29 (by omega) (by decide) (by decide) w_).mono fun e_ w2_ h_ => ⟨h_.1.trans (congrArg Ending.returned (congrArg (Value.int .i64) (by show Cal.daysTo y + 29 - 1 + (0 + 31) = _; omega))), h_.2⟩) ?_)
    first
      | refine GL_rd rfl (by decide) (rd_mul_ rfl rfl (by omega)) ?_
      | refine GL_rd rfl (by decide) (rd_mul rfl rfl) ?_
    refine GL_rd rfl (by decide) (rd_move rfl) ?_
    refine GL_rd rfl (by decide) (rd_build (vs := [(0, .int .u8 0), (1, .bool true), (2, .int .i64 ((Cal.daysTo y + 59) * 86400)), (3, .int .i64 (1 + a1 % 20))]) (v := .agg (rulC (bare 0 ((Cal.daysTo y + 59) * 86400) (1 + a1 % 20)) xN).toArray) rfl (fun w => by kernel_rfl)) ?_
    refine GL_at rfl (at_alloc 50 (cs := [.int .u8 0, .bool false, .int .i64 0, .int .i64 0, .int .i64 0, .int .i64 0, .bool false, .int .i64 0, .slice none 0 0, .slice none 0 0, .slice none 0 0, .slice none 0 0, .slice none 0 0, .slice none 0 0, .slice none 0 0, .slice none 0 0, .slice none 0 0, .slice none 0 0]) (by decide) (by kernel_rfl) rfl (fun o ho => rfl) (Nat.le_of_ble_eq_true rfl) (fun b10 hb10 => ?_))
    refine GL_at rfl (at_storeAgg 50 (cs := (rulC (bare 0 ((Cal.daysTo y + 59) * 86400) (1 + a1 % 20)) xN).toArray) rfl rfl rfl rfl (by kernel_rfl) rfl (Nat.le_of_ble_eq_true rfl) ?_)
    refine GL_nil ?_
    refine GE_then ?_
    refine GC_seq ?_
    refine GC_region ?_
    refine GL_rd rfl (by decide) (rd_assign rfl) ?_
    refine GL_nil ?_
    refine GE_then ?_
    refine GC_seq ?_
    refine GC_seq ?_
    refine GC_region ?_
    refine GL_rd rfl (by decide) (rd_move rfl) ?_
    refine GL_rd rfl (by decide) (rd_assign rfl) ?_
    refine GL_nil ?_
    refine GE_then ?_
    refine GC_block ?_
    refine GC_loop (ι := (Nat) × (Int) × (List Int) × (Option Addr) × (Nat) × (Nat) × (List Value)) (fun | ⟨f, k, acc, p, c, n, xs⟩ => f) (fun | ⟨f, k, acc, p, c, n, xs⟩ => ((wantF (1 + a1 % 20) (y + 290) 400 y ((1 + a2 % 20)).toNat) = acc ++ wantF (1 + a1 % 20) (y + 290) f k (((1 + a2 % 20)).toNat - acc.length)) ∧ (f ≤ 400) ∧ (y + (400 - (f : Int)) ≤ k ∧ k ≤ y + 310) ∧ (n = acc.length) ∧ (xs = acc.map (Value.int .i64)) ∧ (acc.length ≤ ((1 + a2 % 20)).toNat)) (fun | ⟨f, k, acc, p, c, n, xs⟩ => [(7, .int .i64 y), (8, .int .i64 ((1 + a1 % 20))), (9, .int .i64 ((1 + a2 % 20))), (10, .pointer (some ⟨b10, 0, none⟩)), (11, .slice p n c), (12, .int .i64 k)]) (fun | ⟨f, k, acc, p, c, n, xs⟩ => [(50, b10)]) (fun | ⟨f, k, acc, p, c, n, xs⟩ => (putKeys 50 0 (rulC (bare 0 ((Cal.daysTo y + 59) * 86400) (1 + a1 % 20)) xN) ++ [])) (fun | ⟨f, k, acc, p, c, n, xs⟩ => [(11, ⟨.slice p n c, 2, 1, n, xs⟩)]) ⟨400, y, [], none, 0, 0, []⟩ ⟨rfl, Nat.le_refl _, by omega, rfl, rfl, Nat.zero_le _⟩ (fun a k => k.cons rfl (k.cons rfl (k.cons rfl (k.cons rfl (k.cons rfl (k.cons rfl (k.nil))))))) (fun w s => by exact (Sees.seqPut s (Nat.le_of_ble_eq_true rfl) rfl).nilRow 11 2 1) ?_
    rintro ⟨f, k, acc, p, c, n, xs⟩ ⟨hW, hf, hk, hn, hx, hna⟩
    show GC _ _ _ _ [(7, .int .i64 y), (8, .int .i64 ((1 + a1 % 20))), (9, .int .i64 ((1 + a2 % 20))), (10, .pointer (some ⟨b10, 0, none⟩)), (11, .slice p n c), (12, .int .i64 k)] _ _ ([(50, b10)]) ((putKeys 50 0 (rulC (bare 0 ((Cal.daysTo y + 59) * 86400) (1 + a1 % 20)) xN) ++ [])) ([(11, ⟨.slice p n c, 2, 1, n, xs⟩)])
    refine GC_seq ?_
    refine GC_seq ?_
    rcases Decidable.em ((n : Int) < (1 + a2 % 20)) with hnn | hnn
    · skip
      refine GC_region ?_
      refine GL_rd rfl (by decide) (rd_move rfl) ?_
      refine GL_rd rfl (by decide) (rd_len (by kernel_rfl) rfl) ?_
      refine GL_rd rfl (by decide) (rd_move rfl) ?_
      refine GL_rd rfl (by decide) ((rd_lss rfl rfl).to (v' := .bool true) (congrArg Value.bool (decide_eq_true hnn))) ?_
      refine GL_rd rfl (by decide) (rd_move rfl) ?_
      refine GL_take rfl rfl ?_
      refine GL_rd rfl (by decide) (rd_move rfl) ?_
      refine GL_take rfl rfl ?_
      refine GL_rd rfl (by decide) (rd_move rfl) ?_
      refine GL_take rfl rfl ?_
      first
        | refine GL_rd rfl (by decide) (rd_add_ rfl rfl (by omega)) ?_
        | refine GL_rd rfl (by decide) (rd_add rfl rfl) ?_
      refine GL_take rfl rfl ?_
      refine GL_rd rfl (by decide) (rd_lss rfl rfl) ?_
      refine GL_rd rfl (by decide) (rd_pick rfl rfl rfl) ?_
      refine GL_nil ?_
      refine GE_then ?_
      refine GC_cond rfl (fun hc1 => ?_) (fun hc2 => ?_)
      · skip
        have hkk : k < y + 290 := of_decide_eq_true hc1
        obtain ⟨f, rfl⟩ : ∃ g, f = g + 1 := ⟨f - 1, by omega⟩
        have hW2 := hW
        have hcnd : ¬ (((1 + a2 % 20)).toNat - acc.length = 0 ∨ y + 290 ≤ k) := by omega
        rw [wantF_succ (1 + a1 % 20) (y + 290) f k, if_neg hcnd] at hW2
        refine GC_skip ?_
        refine GE_then ?_
        refine GC_seq ?_
        refine GC_block ?_
        refine GC_seq ?_
        refine GC_region ?_
        refine GL_rd rfl (by decide) (rd_move rfl) ?_
        refine GL_at rfl (at_call_v (by decide) (by kernel_rfl) rfl (fun w_ s_ => sleap_calls _ (by omega) w_) ?_)
        refine GL_nil ?_
        refine GE_then ?_
        refine GC_cond rfl (fun hc1 => ?_) (fun hc2 => ?_)
        · skip
          have hl : Cal.leapB k = true := hc1
          have hdk : 0 ≤ Cal.daysTo k ∧ Cal.daysTo k ≤ 4000000 := by unfold Cal.daysTo; omega
          refine GC_region ?_
          refine GL_rd rfl (by decide) (rd_move rfl) ?_
          refine GL_rd rfl (by decide) (rd_move rfl) ?_
          refine GL_at rfl (at_call_v (v := .int .i64 (Cal.daysTo k + 59)) (by decide) (by kernel_rfl) rfl (fun w_ s_ => (daysOf_calls k 2 29 (by omega) (by decide) (by decide) w_).mono fun e_ w2_ h_ => ⟨h_.1.trans (congrArg Ending.returned (congrArg (Value.int .i64) (by show Cal.daysTo k + 29 - 1 + (0 + 31) = _; omega))), h_.2⟩) ?_)
          first
            | refine GL_rd rfl (by decide) (rd_mul_ rfl rfl (by omega)) ?_
            | refine GL_rd rfl (by decide) (rd_mul rfl rfl) ?_
          refine GL_at rfl (at_one_ 60 (e := 2) (sz := 1) (by_ := 8) (zs := [.int .i64 0]) (by decide) (by kernel_rfl) rfl (by decide) (by decide) rfl rfl rfl (fun bo => ?_))
          refine GL_at rfl (at_append 11 60 (e := 2) (sz := 1) (by_ := 8) (zs := [.int .i64 0]) (by decide) (by kernel_rfl) rfl (by decide) rfl rfl rfl rfl ⟨rfl, rfl⟩ ⟨rfl, rfl⟩ (ints_one (xs := [(Cal.daysTo k + 59) * 86400])) (by simp only; omega) (by simp only; omega) (fun p' c' => ?_))
          refine GL_rd rfl (by decide) (rd_assign rfl) ?_
          refine GL_nil ?_
          refine GE_in ?_
          refine GE_then ?_
          refine GC_region ?_
          refine GL_rd rfl (by decide) (rd_move rfl) ?_
          refine GL_rd rfl (by decide) (rd_move rfl) ?_
          first
            | refine GL_rd rfl (by decide) (rd_add_ rfl rfl (by omega)) ?_
            | refine GL_rd rfl (by decide) (rd_add rfl rfl) ?_
          refine GL_rd rfl (by decide) (rd_assign rfl) ?_
          refine GL_nil ?_
          refine GE_back ⟨f, k + (1 + a1 % 20), acc ++ [(Cal.daysTo k + 59) * 86400], p', c', n + 1, xs ++ [.int .i64 ((Cal.daysTo k + 59) * 86400)]⟩ (by simp only; omega) ⟨by rw [hW2, hl]; simp only [if_true, List.append_assoc, List.cons_append, List.nil_append, List.length_append, List.length_singleton, Nat.sub_sub], by omega, by omega, by rw [List.length_append, hn]; rfl, by rw [hx]; simp, by rw [List.length_append]; simp only [List.length_singleton]; omega⟩ (fun a k => k.cons rfl (k.cons rfl (k.cons rfl (k.cons rfl (k.cons rfl (k.cons rfl (k.nil))))))) (fun w s => by exact s.low 51 (Lim.putH (by decide) _ 0 (Nat.le_of_ble_eq_true rfl) (((Lim.nil).consB (by decide)).consS (by decide))) (by repeat (first | exact Agr.refl _ | apply Agr.pick rfl | apply Agr.skip (by decide) | apply Agr.seq (by decide) | apply Agr.put (by decide))) (by repeat (first | exact Agr.refl _ | apply Agr.pick rfl | apply Agr.skip (by decide) | apply Agr.seq (by decide) | apply Agr.put (by decide))) (by repeat (first | exact Agr.refl _ | apply Agr.pick rfl | apply Agr.skip (by decide) | apply Agr.seq (by decide) | apply Agr.put (by decide))))
        · skip
          have hl : Cal.leapB k = false := hc2
          refine GC_skip ?_
          refine GE_in ?_
          refine GE_then ?_
          refine GC_region ?_
          refine GL_rd rfl (by decide) (rd_move rfl) ?_
          refine GL_rd rfl (by decide) (rd_move rfl) ?_
          first
            | refine GL_rd rfl (by decide) (rd_add_ rfl rfl (by omega)) ?_
            | refine GL_rd rfl (by decide) (rd_add rfl rfl) ?_
          refine GL_rd rfl (by decide) (rd_assign rfl) ?_
          refine GL_nil ?_
          refine GE_back ⟨f, k + (1 + a1 % 20), acc, p, c, n, xs⟩ (by simp only; omega) ⟨by rw [hW2, hl]; simp only [Bool.false_eq_true, if_false], by omega, by omega, hn, hx, hna⟩ (fun a k => k.cons rfl (k.cons rfl (k.cons rfl (k.cons rfl (k.cons rfl (k.cons rfl (k.nil))))))) (fun w s => by exact s)
      · skip
        have hkk : ¬ k < y + 290 := of_decide_eq_false hc2
        have hdone : wantF (1 + a1 % 20) (y + 290) f k (((1 + a2 % 20)).toNat - acc.length) = [] := by
          cases f with
          | zero => rfl
          | succ f => unfold wantF; rw [if_pos (.inr (by omega))]
        refine GC_exit ?_
        refine GE_then_exit ?_
        refine GE_then_exit ?_
        refine GE_in_self ?_
        refine GE_then ?_
        refine GC_seq ?_
        refine GC_region ?_
        rw [hdone, List.append_nil] at hW
        subst hn hx
        refine GL_rd rfl (by decide) ((rd_loadN 50 (cs := (rulC (bare 0 ((Cal.daysTo y + 59) * 86400) (1 + a1 % 20)) xN)) rfl rfl (put_get (rulC (bare 0 ((Cal.daysTo y + 59) * 86400) (1 + a1 % 20)) xN) 0 (Nat.le_of_ble_eq_true rfl)) (Nat.le_of_ble_eq_true rfl) (by kernel_rfl))) ?_
        have hacc : acc.length ≤ 1000000 := by omega
        have hTl : Tells (RuB 0 ((Cal.daysTo y + 59) * 86400) (1 + a1 % 20)) 400 (it0 (optOf (bare 0 ((Cal.daysTo y + 59) * 86400) (1 + a1 % 20))) (RuB 0 ((Cal.daysTo y + 59) * 86400) (1 + a1 % 20))) acc.length acc := by
          rw [leap_it f1 f2 f3, leap_ru f2 f3, ← hW]
          exact leap_tells rfl (by omega) (by omega) (by omega) 400 y 0 _ (Int.le_refl _) (by omega)
        refine GL_rd rfl (by decide) (rd_move rfl) ?_
        refine GL_rd rfl (by decide) (rd_len (by kernel_rfl) rfl) ?_
        refine GL_at rfl (at_call (ι := Option Addr × Nat) (fun y => .tuple #[.slice y.1 (acc).length y.2, .bool true]) (fun _ => True) (fun _ => _) (fun _ => _) (fun y => (10, ⟨.slice y.1 (acc).length y.2, 2, 1, (acc).length, (acc).map (Value.int .i64)⟩) :: _) (by decide) (by kernel_rfl) rfl (fun w_ s_ => (bare_first (f := 0) (st := ((Cal.daysTo y + 59) * 86400)) (iv := (1 + a1 % 20)) (most := acc.length) (.inl rfl) (by omega) (by omega) hacc (l := acc) hTl w_).mono fun e w' ⟨p, c, he, hb⟩ => ⟨(p, c), trivial, he, s_.newRow hb 10⟩) (fun | (pr, cr), _ => ?_))
        refine GL_rd rfl (by decide) (rd_move rfl) ?_
        refine GL_rd rfl (by decide) (rd_extract rfl rfl) ?_
        refine GL_rd rfl (by decide) (rd_extract rfl rfl) ?_
        refine GL_rd rfl (by decide) (rd_assign rfl) ?_
        refine GL_rd rfl (by decide) (rd_assign rfl) ?_
        refine GL_nil ?_
        refine GE_then ?_
        refine GC_seq ?_
        refine GC_region ?_
        refine GL_at rfl (at_call_v (by decide) (by kernel_rfl) rfl (fun w_ s_ => awake_calls w_) ?_)
        refine GL_rd rfl (by decide) (rd_move rfl) ?_
        refine GL_take rfl rfl ?_
        refine GL_rd rfl (by decide) (rd_move rfl) ?_
        refine GL_rd rfl (by decide) (rd_pick rfl rfl rfl) ?_
        refine GL_rd rfl (by decide) (rd_move rfl) ?_
        refine GL_take rfl rfl ?_
        refine GL_rd rfl (by decide) (rd_move rfl) ?_
        refine GL_take rfl rfl ?_
        refine GL_rd rfl (by decide) (rd_move rfl) ?_
        refine GL_take rfl rfl ?_
        refine GL_at rfl (at_call_v (v := .bool true) (by decide) (by kernel_rfl) rfl (fun w_ s_ => equal_calls _ _ _ _ acc (by omega) w_ (s_.ints 10 (xs := acc) rfl) (s_.ints 11 (xs := acc) rfl)) ?_)
        refine GL_rd rfl (by decide) (rd_pick rfl rfl rfl) ?_
        refine GL_rd rfl (by decide) (rd_assign rfl) ?_
        refine GL_nil ?_
        refine GE_then ?_
        refine GC_ret ?_
        exact GE_ret1 (.inl rfl) rfl (res_tmp rfl) fun w_ s_ => ⟨rfl, s_.toBelow⟩
    · skip
      refine GC_region ?_
      refine GL_rd rfl (by decide) (rd_move rfl) ?_
      refine GL_rd rfl (by decide) (rd_len (by kernel_rfl) rfl) ?_
      refine GL_rd rfl (by decide) (rd_move rfl) ?_
      refine GL_rd rfl (by decide) ((rd_lss rfl rfl).to (v' := .bool false) (congrArg Value.bool (decide_eq_false hnn))) ?_
      refine GL_rd rfl (by decide) (rd_move rfl) ?_
      refine GL_pass (by decide) rfl rfl (by decide) ?_
      refine GL_pass (by decide) rfl rfl (by decide) ?_
      refine GL_pass (by decide) rfl rfl (by decide) ?_
      refine GL_pass (by decide) rfl rfl (by decide) ?_
      refine GL_rd rfl (by decide) (rd_pick rfl rfl rfl) ?_
      refine GL_nil ?_
      refine GE_then ?_
      have hdone : wantF (1 + a1 % 20) (y + 290) f k (((1 + a2 % 20)).toNat - acc.length) = [] := by
        cases f with
        | zero => rfl
        | succ f => unfold wantF; rw [if_pos (.inl (by omega))]
      refine GC_is_false rfl rfl ?_
      refine GC_exit ?_
      refine GE_then_exit ?_
      refine GE_then_exit ?_
      refine GE_in_self ?_
      refine GE_then ?_
      refine GC_seq ?_
      refine GC_region ?_
      rw [hdone, List.append_nil] at hW
      subst hn hx
      refine GL_rd rfl (by decide) ((rd_loadN 50 (cs := (rulC (bare 0 ((Cal.daysTo y + 59) * 86400) (1 + a1 % 20)) xN)) rfl rfl (put_get (rulC (bare 0 ((Cal.daysTo y + 59) * 86400) (1 + a1 % 20)) xN) 0 (Nat.le_of_ble_eq_true rfl)) (Nat.le_of_ble_eq_true rfl) (by kernel_rfl))) ?_
      have hacc : acc.length ≤ 1000000 := by omega
      have hTl : Tells (RuB 0 ((Cal.daysTo y + 59) * 86400) (1 + a1 % 20)) 400 (it0 (optOf (bare 0 ((Cal.daysTo y + 59) * 86400) (1 + a1 % 20))) (RuB 0 ((Cal.daysTo y + 59) * 86400) (1 + a1 % 20))) acc.length acc := by
        rw [leap_it f1 f2 f3, leap_ru f2 f3, ← hW]
        exact leap_tells rfl (by omega) (by omega) (by omega) 400 y 0 _ (Int.le_refl _) (by omega)
      refine GL_rd rfl (by decide) (rd_move rfl) ?_
      refine GL_rd rfl (by decide) (rd_len (by kernel_rfl) rfl) ?_
      refine GL_at rfl (at_call (ι := Option Addr × Nat) (fun y => .tuple #[.slice y.1 (acc).length y.2, .bool true]) (fun _ => True) (fun _ => _) (fun _ => _) (fun y => (10, ⟨.slice y.1 (acc).length y.2, 2, 1, (acc).length, (acc).map (Value.int .i64)⟩) :: _) (by decide) (by kernel_rfl) rfl (fun w_ s_ => (bare_first (f := 0) (st := ((Cal.daysTo y + 59) * 86400)) (iv := (1 + a1 % 20)) (most := acc.length) (.inl rfl) (by omega) (by omega) hacc (l := acc) hTl w_).mono fun e w' ⟨p, c, he, hb⟩ => ⟨(p, c), trivial, he, s_.newRow hb 10⟩) (fun | (pr, cr), _ => ?_))
      refine GL_rd rfl (by decide) (rd_move rfl) ?_
      refine GL_rd rfl (by decide) (rd_extract rfl rfl) ?_
      refine GL_rd rfl (by decide) (rd_extract rfl rfl) ?_
      refine GL_rd rfl (by decide) (rd_assign rfl) ?_
      refine GL_rd rfl (by decide) (rd_assign rfl) ?_
      refine GL_nil ?_
      refine GE_then ?_
      refine GC_seq ?_
      refine GC_region ?_
      refine GL_at rfl (at_call_v (by decide) (by kernel_rfl) rfl (fun w_ s_ => awake_calls w_) ?_)
      refine GL_rd rfl (by decide) (rd_move rfl) ?_
      refine GL_take rfl rfl ?_
      refine GL_rd rfl (by decide) (rd_move rfl) ?_
      refine GL_rd rfl (by decide) (rd_pick rfl rfl rfl) ?_
      refine GL_rd rfl (by decide) (rd_move rfl) ?_
      refine GL_take rfl rfl ?_
      refine GL_rd rfl (by decide) (rd_move rfl) ?_
      refine GL_take rfl rfl ?_
      refine GL_rd rfl (by decide) (rd_move rfl) ?_
      refine GL_take rfl rfl ?_
      refine GL_at rfl (at_call_v (v := .bool true) (by decide) (by kernel_rfl) rfl (fun w_ s_ => equal_calls _ _ _ _ acc (by omega) w_ (s_.ints 10 (xs := acc) rfl) (s_.ints 11 (xs := acc) rfl)) ?_)
      refine GL_rd rfl (by decide) (rd_pick rfl rfl rfl) ?_
      refine GL_rd rfl (by decide) (rd_assign rfl) ?_
      refine GL_nil ?_
      refine GE_then ?_
      refine GC_ret ?_
      exact GE_ret1 (.inl rfl) rfl (res_tmp rfl) fun w_ s_ => ⟨rfl, s_.toBelow⟩
end
end Go.Proofs.YtfcklceejjmjeaaGreat
