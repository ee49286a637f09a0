/-
  Lists of numbers: contains, repeat, rang, concat, and the tables of the days of a year.
-/
import Derived.Test.YtfcklceejjmjeaaGreatProg
import Derived.Test.YtfcklceejjmjeaaGreatMd
import Derived.Test.YtfcklceejjmjeaaGreatFg
import Derived.Test.YtfcklceejjmjeaaGreatLeafc
set_option linter.unusedVariables false
set_option linter.unusedSimpArgs false
set_option maxRecDepth 100000
set_option maxHeartbeats 8000000
namespace Go.Proofs.YtfcklceejjmjeaaGreat
open Go.RowKit Go.Fr Go.Tab
section
variable {F : Nat → Prop} {w0 : World} {B : List (Nat × Nat)} {H : List (Nat × Value)} {S : List (Nat × Slc)}

theorem contains_calls (xs : List Int) (x : Int) (v : Value) (hl : xs.length ≤ 1000000000) (w : World) (hI : Ints w v xs) : Calls Go.Proofs.Tryz.prog 25 #[v, .int .i64 x] w fun e w' => e = .returned (.bool (xs.any (· == x))) ∧ Below w.heap.size w w' := by
  obtain ⟨p, c, rfl, hI⟩ := hI
  refine calls_GC (args := [.slice p xs.length c, .int .i64 x]) (L := [(0, .slice p xs.length c), (1, .int .i64 x)]) (N := 17) Tryz.func25 rfl rfl (Nat.le_of_ble_eq_true rfl) rfl (Sees.start (fun _ => False) w) ?_
  refine GC_seq ?_
  refine GC_region ?_
  refine GL_rd rfl (by decide) (rd_assign rfl) ?_
  refine GL_nil ?_
  refine GE_then ?_
  refine GC_seq ?_
  refine GC_seq ?_
  refine GC_region ?_
  refine GL_rd rfl (by decide) (rd_move rfl) ?_
  refine GL_rd rfl (by decide) (rd_len (by kernel_rfl) rfl) ?_
  refine GL_rd rfl (by decide) (rd_move rfl) ?_
  refine GL_nil ?_
  refine GE_then ?_
  refine GC_block ?_
  refine GC_loop (ι := (Nat)) (fun k => xs.length - k) (fun k => (k ≤ xs.length) ∧ ((xs.take k).any (· == x) = false)) (fun k => [(1, .int .i64 x), (7, .slice p xs.length c), (8, .int .i64 (xs.length)), (9, .int .i64 k)]) (fun k => []) (fun k => []) (fun k => []) 0 ⟨by omega, rfl⟩ (fun a k => k.cons rfl (k.cons rfl (k.cons rfl (k.cons rfl (k.nil))))) (fun w s => by exact s) ?_
  rintro k ⟨hk, hn⟩
  show GC _ _ _ _ [(1, .int .i64 x), (7, .slice p xs.length c), (8, .int .i64 (xs.length)), (9, .int .i64 k)] _ _ ([]) ([]) ([])
  refine GC_seq ?_
  refine GC_region ?_
  refine GL_rd rfl (by decide) (rd_lss rfl rfl) ?_
  refine GL_nil ?_
  refine GE_then ?_
  refine GC_seq ?_
  refine GC_cond rfl (fun hc1 => ?_) (fun hc2 => ?_)
  · have hlt : k < xs.length := by have := of_decide_eq_true hc1; omega
    obtain ⟨y, hy⟩ : ∃ y, xs[k]? = some y := ⟨_, List.getElem?_eq_getElem hlt⟩
    obtain ⟨b, o, rfl, hcell⟩ := hI k y hy
    refine GC_skip ?_
    refine GE_then ?_
    refine GC_seq ?_
    refine GC_block ?_
    refine GC_seq ?_
    refine GC_region ?_
    refine GL_rd rfl (by decide) (rd_indexAddr (e := 3) (n := 1) (by kernel_rfl) rfl rfl (by omega) (by omega)) ?_
    refine GL_rd rfl (by decide) (rd_load_old rfl (v := .int .i64 y) (by rw [← hcell]; congr 2; omega) (fun h => h) (by kernel_rfl)) ?_
    refine GL_rd rfl (by decide) (rd_assign rfl) ?_
    refine GL_nil ?_
    refine GE_then ?_
    refine GC_seq ?_
    refine GC_region ?_
    refine GL_rd rfl (by decide) (rd_move rfl) ?_
    refine GL_rd rfl (by decide) (rd_move rfl) ?_
    refine GL_rd rfl (by decide) (rd_eql rfl rfl) ?_
    refine GL_nil ?_
    refine GE_then ?_
    refine GC_cond rfl (fun c15_ => ?_) (fun hno => ?_)
    · refine GC_seq ?_
      refine GC_region ?_
      refine GL_rd rfl (by decide) (rd_assign rfl) ?_
      refine GL_nil ?_
      refine GE_then ?_
      refine GC_ret ?_
      refine GE_in_ret ?_
      refine GE_then_ret ?_
      refine GE_then_ret ?_
      refine GE_in_ret ?_
      refine GE_then_ret ?_
      refine GE_ret1 (.inl rfl) rfl (res_tmp rfl) fun w_ s_ => ⟨?_, s_.toBelow⟩
      refine retb_ (Eq.symm (List.any_eq_true.2 ⟨y, List.mem_of_getElem? hy, ?_⟩))
      exact c15_
    · refine GC_skip ?_
      refine GE_in ?_
      refine GE_then ?_
      refine GC_region ?_
      first
        | refine GL_rd rfl (by decide) (rd_add_ rfl rfl (by omega)) ?_
        | refine GL_rd rfl (by decide) (rd_add rfl rfl) ?_
      refine GL_rd rfl (by decide) (rd_move rfl) ?_
      refine GL_nil ?_
      refine GE_back (k + 1) (by omega) ⟨by omega, by rw [List.take_add_one, hy, List.any_append, hn]; simpa using hno⟩ (fun a k => k.cons rfl (k.cons rfl (k.cons rfl (k.cons rfl (k.nil))))) (fun w s => by exact s)
  · have hge : ¬ k < xs.length := by have := of_decide_eq_false hc2; omega
    refine GC_exit ?_
    refine GE_then_exit ?_
    refine GE_then_exit ?_
    refine GE_in_self ?_
    refine GE_then ?_
    refine GC_seq ?_
    refine GC_region ?_
    refine GL_rd rfl (by decide) (rd_assign rfl) ?_
    refine GL_nil ?_
    refine GE_then ?_
    refine GC_ret ?_
    refine GE_ret1 (.inl rfl) rfl (res_tmp rfl) fun w_ s_ => ⟨?_, s_.toBelow⟩
    refine retb_ ?_
    have hkn : k = xs.length := by omega
    subst hkn
    rw [← hn, List.take_length]
theorem one1_ {x : Int} : ∀ u ∈ [Value.int .i64 x], u.oneCell' = true := by
  intro u hu
  simp only [List.mem_cons, List.not_mem_nil, or_false] at hu
  subst hu; rfl
theorem map_one {xs : List Int} {x : Int} : xs.map (Value.int .i64) ++ [.int .i64 x] = (xs ++ [x]).map (.int .i64) := by simp
theorem map_rep {k : Nat} {x : Int} : (List.replicate k x).map (Value.int .i64) ++ [.int .i64 x] = (List.replicate (k + 1) x).map (.int .i64) := by rw [List.replicate_succ', List.map_append]; rfl
theorem map_rang {k : Nat} {a : Int} : (((List.range k).map fun (j : Nat) => a + (j : Int)).map (Value.int .i64)) ++ [.int .i64 (a + k)] = ((List.range (k + 1)).map fun (j : Nat) => a + (j : Int)).map (.int .i64) := by rw [List.range_succ, List.map_append, List.map_append]; rfl
theorem one_row {F : Nat → Prop} {w0 w : World} {B : List (Nat × Nat)} {H : List (Nat × Value)} {S : List (Nat × Slc)} {k : Nat} {v : Value} {e : TypeId} {sz n : Nat} {xs ys : List Value} (s : Sees F w0 B H S w) (hk : lkp k S = some ⟨v, e, sz, n, xs⟩) (hx : xs = ys) : Sees F w0 [] [] [(k, ⟨v, e, sz, n, ys⟩)] w := by
  subst hx; exact s.only hk
theorem newRow_congr {w w' : World} {v : Value} {e : TypeId} {sz n : Nat} {xs ys : List Value} (h : NewRow w w' v e sz n xs) (e1 : xs = ys) : NewRow w w' v e sz n ys := e1 ▸ h
theorem repeat_calls (x : Int) (n : Nat) (hn : n ≤ 1000) (w : World) : Calls Go.Proofs.Tryz.prog 67 #[.int .i64 x, .int .i64 ((n : Int))] w fun e w' => ∃ p c, e = .returned (.slice p n c) ∧ NewRow w w' (.slice p n c) 3 1 n ((List.replicate n x).map (.int .i64)) := by
  refine calls_GC (args := [.int .i64 x, .int .i64 ((n : Int))]) (L := [(0, .int .i64 x), (1, .int .i64 ((n : Int)))]) (N := 18) Tryz.func67 rfl rfl (Nat.le_of_ble_eq_true rfl) rfl (Sees.start (fun _ => False) w) ?_
  refine GC_seq ?_
  refine GC_region ?_
  refine GL_rd rfl (by decide) (rd_assign rfl) ?_
  refine GL_nil ?_
  refine GE_then ?_
  refine GC_seq ?_
  refine GC_region ?_
  refine GL_at rfl (at_row0 50 (e := 3) (sz := 1) (by decide) (fun w => by kernel_rfl) rfl (fun b1_ hbb1_ => ?_))
  refine GL_rd rfl (by decide) (rd_assign rfl) ?_
  refine GL_nil ?_
  refine GE_then ?_
  refine GC_seq ?_
  refine GC_seq ?_
  refine GC_region ?_
  refine GL_rd rfl (by decide) (rd_assign rfl) ?_
  refine GL_nil ?_
  refine GE_then ?_
  refine GC_block ?_
  refine GC_loop (ι := (Nat) × (Option Addr) × (Nat)) (fun | ⟨k, p, c⟩ => n - k) (fun | ⟨k, p, c⟩ => (k ≤ n)) (fun | ⟨k, p, c⟩ => [(0, .int .i64 x), (1, .int .i64 n), (5, .slice p k c), (6, .int .i64 k)]) (fun | ⟨k, p, c⟩ => []) (fun | ⟨k, p, c⟩ => []) (fun | ⟨k, p, c⟩ => [(50, ⟨.slice p k c, 3, 1, k, (List.replicate k x).map (.int .i64)⟩)]) ⟨0, some ⟨b1_, 0, none⟩, 0⟩ (Nat.zero_le _) (fun a k => k.cons rfl (k.cons rfl (k.cons rfl (k.cons rfl (k.nil))))) (fun w s => by exact s) ?_
  rintro ⟨k, p, c⟩ hk
  show GC _ _ _ _ [(0, .int .i64 x), (1, .int .i64 n), (5, .slice p k c), (6, .int .i64 k)] _ _ ([]) ([]) ([(50, ⟨.slice p k c, 3, 1, k, (List.replicate k x).map (.int .i64)⟩)])
  refine GC_seq ?_
  refine GC_seq ?_
  refine GC_region ?_
  refine GL_rd rfl (by decide) (rd_move rfl) ?_
  refine GL_rd rfl (by decide) (rd_move rfl) ?_
  refine GL_rd rfl (by decide) (rd_lss rfl rfl) ?_
  refine GL_nil ?_
  refine GE_then ?_
  refine GC_cond rfl (fun c10_ => ?_) (fun c10_ => ?_)
  · first | have p10_ := of_decide_eq_true c10_ | have p10_ := beq_iff_eq.1 c10_ | have p10_ := bne_iff_ne.1 c10_ | skip
    refine GC_skip ?_
    refine GE_then ?_
    refine GC_seq ?_
    refine GC_block ?_
    refine GC_region ?_
    refine GL_rd rfl (by decide) (rd_move rfl) ?_
    refine GL_rd rfl (by decide) (rd_move rfl) ?_
    refine GL_at rfl (at_one 51 (e := 3) (sz := 1) (by_ := 8) (zs := [.int .i64 0]) (by decide) (by kernel_rfl) rfl (by decide) (by decide) rfl rfl rfl rfl (fun b2_ => ?_))
    refine GL_at rfl (at_append 50 51 (e := 3) (sz := 1) (by_ := 8) (zs := [.int .i64 0]) (by decide) (by kernel_rfl) rfl (by decide) rfl rfl rfl rfl ⟨rfl, rfl⟩ ⟨rfl, rfl⟩ one1_ (by simp only; omega) (by simp only; omega) (fun p' c' => ?_))
    refine GL_rd rfl (by decide) (rd_assign rfl) ?_
    refine GL_nil ?_
    refine GE_in ?_
    refine GE_then ?_
    refine GC_region ?_
    refine GL_rd rfl (by decide) (rd_move rfl) ?_
    first
      | refine GL_rd rfl (by decide) (rd_add_ rfl rfl (by omega)) ?_
      | refine GL_rd rfl (by decide) (rd_add rfl rfl) ?_
    refine GL_rd rfl (by decide) (rd_assign rfl) ?_
    refine GL_nil ?_
    refine GE_back ⟨k + 1, p', c'⟩ (by simp only; omega) (show k + 1 ≤ n by omega) (fun a k => k.cons rfl (k.cons rfl (k.cons rfl (k.cons rfl (k.nil))))) (fun w s => by exact one_row s rfl map_rep)
  · first | have p10_ := of_decide_eq_false c10_ | have p10_ := beq_eq_false_iff_ne.1 c10_ | have p10_ := bne_eq_false_iff_eq.1 c10_ | skip
    refine GC_exit ?_
    refine GE_then_exit ?_
    refine GE_then_exit ?_
    refine GE_in_self ?_
    refine GE_then ?_
    refine GC_seq ?_
    refine GC_region ?_
    refine GL_rd rfl (by decide) (rd_move rfl) ?_
    refine GL_rd rfl (by decide) (rd_assign rfl) ?_
    refine GL_nil ?_
    refine GE_then ?_
    refine GC_ret ?_
    refine GE_ret1 (.inl rfl) rfl (res_tmp rfl) fun w_ s_ => ?_
    obtain rfl : k = n := by omega
    exact ⟨p, c, rfl, s_.toNew (k := 50) rfl⟩
theorem rang_calls (a : Int) (n : Nat) (hn : n ≤ 1000) (ha : -1000 ≤ a ∧ a ≤ 1000) (w : World) : Calls Go.Proofs.Tryz.prog 68 #[.int .i64 a, .int .i64 (a + (n : Int))] w fun e w' => ∃ p c, e = .returned (.slice p n c) ∧ NewRow w w' (.slice p n c) 3 1 n (((List.range n).map fun (j : Nat) => a + (j : Int)).map (.int .i64)) := by
  refine calls_GC (args := [.int .i64 a, .int .i64 (a + (n : Int))]) (L := [(0, .int .i64 a), (1, .int .i64 (a + (n : Int)))]) (N := 19) Tryz.func68 rfl rfl (Nat.le_of_ble_eq_true rfl) rfl (Sees.start (fun _ => False) w) ?_
  refine GC_seq ?_
  refine GC_region ?_
  refine GL_rd rfl (by decide) (rd_assign rfl) ?_
  refine GL_nil ?_
  refine GE_then ?_
  refine GC_seq ?_
  refine GC_region ?_
  refine GL_at rfl (at_row0 50 (e := 3) (sz := 1) (by decide) (fun w => by kernel_rfl) rfl (fun b1_ hbb1_ => ?_))
  refine GL_rd rfl (by decide) (rd_assign rfl) ?_
  refine GL_nil ?_
  refine GE_then ?_
  refine GC_seq ?_
  refine GC_seq ?_
  refine GC_region ?_
  refine GL_rd rfl (by decide) (rd_move rfl) ?_
  refine GL_rd rfl (by decide) (rd_assign rfl) ?_
  refine GL_nil ?_
  refine GE_then ?_
  refine GC_block ?_
  refine GC_loop (ι := (Nat) × (Int) × (Option Addr) × (Nat)) (fun | ⟨k, i, p, c⟩ => n - k) (fun | ⟨k, i, p, c⟩ => (i = a + k) ∧ (k ≤ n)) (fun | ⟨k, i, p, c⟩ => [(1, .int .i64 (a + (n : Int))), (5, .slice p k c), (6, .int .i64 i)]) (fun | ⟨k, i, p, c⟩ => []) (fun | ⟨k, i, p, c⟩ => []) (fun | ⟨k, i, p, c⟩ => [(50, ⟨.slice p k c, 3, 1, k, ((List.range k).map fun (j : Nat) => a + j).map (.int .i64)⟩)]) ⟨0, a, some ⟨b1_, 0, none⟩, 0⟩ ⟨by omega, Nat.zero_le _⟩ (fun a k => k.cons rfl (k.cons rfl (k.cons rfl (k.nil)))) (fun w s => by exact s) ?_
  rintro ⟨k, i, p, c⟩ ⟨hi, hk⟩
  show GC _ _ _ _ [(1, .int .i64 (a + (n : Int))), (5, .slice p k c), (6, .int .i64 i)] _ _ ([]) ([]) ([(50, ⟨.slice p k c, 3, 1, k, ((List.range k).map fun (j : Nat) => a + j).map (.int .i64)⟩)])
  refine GC_seq ?_
  refine GC_seq ?_
  refine GC_region ?_
  refine GL_rd rfl (by decide) (rd_move rfl) ?_
  refine GL_rd rfl (by decide) (rd_move rfl) ?_
  refine GL_rd rfl (by decide) (rd_lss rfl rfl) ?_
  refine GL_nil ?_
  refine GE_then ?_
  refine GC_cond rfl (fun c11_ => ?_) (fun c11_ => ?_)
  · first | have p11_ := of_decide_eq_true c11_ | have p11_ := beq_iff_eq.1 c11_ | have p11_ := bne_iff_ne.1 c11_ | skip
    refine GC_skip ?_
    refine GE_then ?_
    refine GC_seq ?_
    refine GC_block ?_
    refine GC_region ?_
    refine GL_rd rfl (by decide) (rd_move rfl) ?_
    refine GL_rd rfl (by decide) (rd_move rfl) ?_
    refine GL_at rfl (at_one 51 (e := 3) (sz := 1) (by_ := 8) (zs := [.int .i64 0]) (by decide) (by kernel_rfl) rfl (by decide) (by decide) rfl rfl rfl rfl (fun b2_ => ?_))
    refine GL_at rfl (at_append 50 51 (e := 3) (sz := 1) (by_ := 8) (zs := [.int .i64 0]) (by decide) (by kernel_rfl) rfl (by decide) rfl rfl rfl rfl ⟨rfl, rfl⟩ ⟨rfl, rfl⟩ one1_ (by simp only; omega) (by simp only; omega) (fun p' c' => ?_))
    refine GL_rd rfl (by decide) (rd_assign rfl) ?_
    refine GL_nil ?_
    refine GE_in ?_
    refine GE_then ?_
    refine GC_region ?_
    refine GL_rd rfl (by decide) (rd_move rfl) ?_
    first
      | refine GL_rd rfl (by decide) (rd_add_ rfl rfl (by omega)) ?_
      | refine GL_rd rfl (by decide) (rd_add rfl rfl) ?_
    refine GL_rd rfl (by decide) (rd_assign rfl) ?_
    refine GL_nil ?_
    refine GE_back ⟨k + 1, i + 1, p', c'⟩ (by simp only; omega) ⟨by omega, by omega⟩ (fun a k => k.cons rfl (k.cons rfl (k.cons rfl (k.nil)))) (fun w s => by exact one_row s rfl (by rw [hi]; exact map_rang))
  · first | have p11_ := of_decide_eq_false c11_ | have p11_ := beq_eq_false_iff_ne.1 c11_ | have p11_ := bne_eq_false_iff_eq.1 c11_ | skip
    refine GC_exit ?_
    refine GE_then_exit ?_
    refine GE_then_exit ?_
    refine GE_in_self ?_
    refine GE_then ?_
    refine GC_seq ?_
    refine GC_region ?_
    refine GL_rd rfl (by decide) (rd_move rfl) ?_
    refine GL_rd rfl (by decide) (rd_assign rfl) ?_
    refine GL_nil ?_
    refine GE_then ?_
    refine GC_ret ?_
    refine GE_ret1 (.inl rfl) rfl (res_tmp rfl) fun w_ s_ => ?_
    obtain rfl : k = n := by omega
    exact ⟨p, c, rfl, s_.toNew (k := 50) rfl⟩
end
end Go.Proofs.YtfcklceejjmjeaaGreat
