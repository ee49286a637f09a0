/-
  concat; the tables of the days of a year.
-/
import Derived.Test.YtfcklceejjmjeaaGreatProg
import Derived.Test.YtfcklceejjmjeaaGreatMd
import Derived.Test.YtfcklceejjmjeaaGreatFg
import Derived.Test.YtfcklceejjmjeaaGreatLista
set_option linter.unusedVariables false
set_option linter.unusedSimpArgs false
set_option maxRecDepth 100000
set_option maxHeartbeats 8000000
namespace Go.Proofs.YtfcklceejjmjeaaGreat
open Go.RowKit Go.Fr Go.Tab
section
variable {F : Nat → Prop} {w0 : World} {B : List (Nat × Nat)} {H : List (Nat × Value)} {S : List (Nat × Slc)}

/-- The first so many lists, one behind the other. -/
def cat (ls : List (Value × List Int)) (k : Nat) : List Int := ((ls.take k).map (·.2)).flatten
theorem cat_succ {ls : List (Value × List Int)} {k : Nat} {v : Value} {xs : List Int} (h : ls[k]? = some (v, xs)) : cat ls (k + 1) = cat ls k ++ xs := by
  unfold cat
  rw [List.take_add_one, h]
  simp
theorem cat_le (ls : List (Value × List Int)) (k : Nat) : (cat ls k).length ≤ (cat ls ls.length).length := by
  unfold cat
  rw [List.take_length]
  conv => rhs; rw [← List.take_append_drop k ls]
  rw [List.map_append, List.flatten_append, List.length_append]
  omega
theorem cat_cells {k : Nat} {ls : List (Value × List Int)} {xs : List Int} {v : Value} (h : ls[k]? = some (v, xs)) : (cat ls k).map (Value.int .i64) ++ xs.map (.int .i64) = (cat ls (k + 1)).map (.int .i64) := by rw [cat_succ h, List.map_append]
theorem row_to {F : Nat → Prop} {w0 w : World} {B : List (Nat × Nat)} {H : List (Nat × Value)} {S : List (Nat × Slc)} {k : Nat} {p : Option Addr} {c : Nat} {e : TypeId} {sz n m : Nat} {xs ys : List Value} (s : Sees F w0 B H S w) (hk : lkp k S = some ⟨.slice p n c, e, sz, n, xs⟩) (hn : n = m) (hx : xs = ys) : Sees F w0 [] [] [(k, ⟨.slice p m c, e, sz, m, ys⟩)] w := by
  subst hn hx; exact s.only hk
theorem newRow_to {w w' : World} {p : Option Addr} {c : Nat} {e : TypeId} {sz n m : Nat} {xs ys : List Value} (h : NewRow w w' (.slice p n c) e sz n xs) (e0 : n = m) (e1 : xs = ys) : NewRow w w' (.slice p m c) e sz m ys := by
  subst e0 e1; exact h
theorem concat_calls (ls : List (Value × List Int)) (b o c : Nat) (hl : (cat ls ls.length).length ≤ 1000000) (hn : ls.length ≤ 1000) (w : World) (h : Lists w b o ls) : Calls Go.Proofs.Tryz.prog 66 #[.slice (some ⟨b, o, none⟩) ls.length c] w fun e w' => ∃ p c, e = .returned (.slice p (cat ls ls.length).length c) ∧ NewRow w w' (.slice p (cat ls ls.length).length c) 3 1 (cat ls ls.length).length ((cat ls ls.length).map (.int .i64)) := by
  refine calls_GC (args := [.slice (some ⟨b, o, none⟩) ls.length c]) (L := [(0, .slice (some ⟨b, o, none⟩) ls.length c)]) (N := 18) Tryz.func66 rfl rfl (Nat.le_of_ble_eq_true rfl) rfl (Sees.start (fun _ => False) w) ?_
  refine GC_seq ?_
  refine GC_region ?_
  refine GL_rd rfl (by decide) (rd_assign rfl) ?_
  refine GL_nil ?_
  refine GE_then ?_
  refine GC_seq ?_
  refine GC_region ?_
  refine GL_at rfl (at_row0 50 (e := 3) (sz := 1) (by decide) (fun w => by kernel_rfl) rfl (fun b1_ hbb1_ => ?_))
  refine GL_rd rfl (by decide) (rd_assign rfl) ?_
  refine GL_nil ?_
  refine GE_then ?_
  refine GC_seq ?_
  refine GC_seq ?_
  refine GC_region ?_
  refine GL_rd rfl (by decide) (rd_move rfl) ?_
  refine GL_rd rfl (by decide) (rd_len (by kernel_rfl) rfl) ?_
  refine GL_rd rfl (by decide) (rd_move rfl) ?_
  refine GL_nil ?_
  refine GE_then ?_
  refine GC_block ?_
  refine GC_loop (ι := (Nat) × (Option Addr) × (Nat)) (fun | ⟨k, p, ca⟩ => ls.length - k) (fun | ⟨k, p, ca⟩ => (k ≤ ls.length)) (fun | ⟨k, p, ca⟩ => [(3, .slice p (cat ls k).length ca), (7, .slice (some ⟨b, o, none⟩) ls.length c), (8, .int .i64 (ls.length)), (9, .int .i64 k)]) (fun | ⟨k, p, ca⟩ => []) (fun | ⟨k, p, ca⟩ => []) (fun | ⟨k, p, ca⟩ => [(50, ⟨.slice p (cat ls k).length ca, 3, 1, (cat ls k).length, (cat ls k).map (.int .i64)⟩)]) ⟨0, some ⟨b1_, 0, none⟩, 0⟩ (Nat.zero_le _) (fun a k => k.cons rfl (k.cons rfl (k.cons rfl (k.cons rfl (k.nil))))) (fun w s => by exact s) ?_
  rintro ⟨k, p, ca⟩ hk
  show GC _ _ _ _ [(3, .slice p (cat ls k).length ca), (7, .slice (some ⟨b, o, none⟩) ls.length c), (8, .int .i64 (ls.length)), (9, .int .i64 k)] _ _ ([]) ([]) ([(50, ⟨.slice p (cat ls k).length ca, 3, 1, (cat ls k).length, (cat ls k).map (.int .i64)⟩)])
  refine GC_seq ?_
  refine GC_region ?_
  refine GL_rd rfl (by decide) (rd_lss rfl rfl) ?_
  refine GL_nil ?_
  refine GE_then ?_
  refine GC_seq ?_
  refine GC_cond rfl (fun hc1 => ?_) (fun hc2 => ?_)
  · have hlt : k < ls.length := by have := of_decide_eq_true hc1; omega
    obtain ⟨v, xs, hx⟩ : ∃ v xs, ls[k]? = some (v, xs) := ⟨_, _, List.getElem?_eq_getElem hlt⟩
    obtain ⟨hcell, ⟨p2, c2, rfl, hcs⟩, hne⟩ := h.get hx
    obtain ⟨x0, hx0⟩ : ∃ x0, xs[0]? = some x0 := ⟨_, List.getElem?_eq_getElem (List.length_pos_iff.2 hne)⟩
    obtain ⟨b2, o2, rfl, _⟩ := hcs 0 x0 hx0
    have hcl := cat_le ls (k + 1)
    have hcs2 := cat_succ hx
    have hlen : (cat ls (k + 1)).length = (cat ls k).length + xs.length := by rw [hcs2, List.length_append]
    refine GC_skip ?_
    refine GE_then ?_
    refine GC_seq ?_
    refine GC_block ?_
    refine GC_seq ?_
    refine GC_region ?_
    refine GL_rd rfl (by decide) (rd_indexAddr (e := 25) (n := 1) (by kernel_rfl) rfl rfl (by omega) (by omega)) ?_
    refine GL_rd rfl (by decide) (rd_load_old rfl (v := .slice (some ⟨b2, o2, none⟩) xs.length c2) (by rw [← hcell]; congr 2; omega) (fun h => h) (by kernel_rfl)) ?_
    refine GL_rd rfl (by decide) (rd_assign rfl) ?_
    refine GL_nil ?_
    refine GE_then ?_
    refine GC_region ?_
    refine GL_rd rfl (by decide) (rd_move rfl) ?_
    refine GL_rd rfl (by decide) (rd_move rfl) ?_
    refine GL_at rfl (at_append_any 50 (e := 3) (sz := 1) (by_ := 8) (zs := [.int .i64 0]) (ys := xs.map (.int .i64)) (by decide) (by kernel_rfl) rfl (by decide) rfl rfl rfl ⟨rfl, rfl⟩ (by simp) (fun w_ s_ i u hu => (by rw [List.getElem?_map] at hu; obtain ⟨x, hx1, rfl⟩ := Option.map_eq_some_iff.1 hu; obtain ⟨b3, o3, e3, hc3⟩ := hcs i x hx1; cases e3; exact s_.old_cell hc3 (fun h => h))) ints_one (by simp only; omega) (by simp only; omega) (fun p' c' => ?_))
    refine GL_rd rfl (by decide) (rd_assign rfl) ?_
    refine GL_nil ?_
    refine GE_in ?_
    refine GE_then ?_
    refine GC_region ?_
    first
      | refine GL_rd rfl (by decide) (rd_add_ rfl rfl (by omega)) ?_
      | refine GL_rd rfl (by decide) (rd_add rfl rfl) ?_
    refine GL_rd rfl (by decide) (rd_move rfl) ?_
    refine GL_nil ?_
    refine GE_back ⟨k + 1, p', c'⟩ (by simp only; omega) (show k + 1 ≤ ls.length by omega) (fun a q => q.cons (by exact congrArg (fun n => some (Value.slice p' n c')) hlen.symm) (q.cons rfl (q.cons rfl (q.cons rfl q.nil)))) (fun w s => by exact row_to s rfl hlen.symm (cat_cells hx))
  · have hge : ¬ k < ls.length := by have := of_decide_eq_false hc2; omega
    refine GC_exit ?_
    refine GE_then_exit ?_
    refine GE_then_exit ?_
    refine GE_in_self ?_
    refine GE_then ?_
    refine GC_seq ?_
    refine GC_region ?_
    refine GL_rd rfl (by decide) (rd_move rfl) ?_
    refine GL_rd rfl (by decide) (rd_assign rfl) ?_
    refine GL_nil ?_
    refine GE_then ?_
    refine GC_ret ?_
    refine GE_ret1 (.inl rfl) rfl (res_tmp rfl) fun w_ s_ => ?_
    obtain rfl : k = ls.length := by omega
    exact ⟨p, ca, rfl, s_.toNew (k := 50) rfl⟩
theorem m366_calls (w : World) : Calls Go.Proofs.Tryz.prog 51 #[] w fun e w' => ∃ p c, e = .returned (.slice p 373 c) ∧ NewRow w w' (.slice p 373 c) 3 1 373 (mm366.map (Value.int .i64)) := by
  refine calls_GC (args := []) (L := []) (N := 16) Tryz.func51 rfl rfl (Nat.le_of_ble_eq_true rfl) rfl (Sees.start (fun _ => False) w) ?_
  refine GC_seq ?_
  refine GC_region ?_
  refine GL_rd rfl (by decide) (rd_assign rfl) ?_
  refine GL_nil ?_
  refine GE_then ?_
  refine GC_seq ?_
  refine GC_region ?_
  refine GL_at rfl (at_call_row 50 (e := 3) (sz := 1) (n := 31) (xs := (List.replicate 31 (1 : Int)).map (Value.int .i64)) (by decide) (by kernel_rfl) rfl (fun w_ s_ => repeat_calls 1 31 (by decide) w_) (fun p50 c50 => ?_))
  refine GL_at rfl (at_call_row 51 (e := 3) (sz := 1) (n := 29) (xs := (List.replicate 29 (2 : Int)).map (Value.int .i64)) (by decide) (by kernel_rfl) rfl (fun w_ s_ => repeat_calls 2 29 (by decide) w_) (fun p51 c51 => ?_))
  refine GL_at rfl (at_call_row 52 (e := 3) (sz := 1) (n := 31) (xs := (List.replicate 31 (3 : Int)).map (Value.int .i64)) (by decide) (by kernel_rfl) rfl (fun w_ s_ => repeat_calls 3 31 (by decide) w_) (fun p52 c52 => ?_))
  refine GL_at rfl (at_call_row 53 (e := 3) (sz := 1) (n := 30) (xs := (List.replicate 30 (4 : Int)).map (Value.int .i64)) (by decide) (by kernel_rfl) rfl (fun w_ s_ => repeat_calls 4 30 (by decide) w_) (fun p53 c53 => ?_))
  refine GL_at rfl (at_call_row 54 (e := 3) (sz := 1) (n := 31) (xs := (List.replicate 31 (5 : Int)).map (Value.int .i64)) (by decide) (by kernel_rfl) rfl (fun w_ s_ => repeat_calls 5 31 (by decide) w_) (fun p54 c54 => ?_))
  refine GL_at rfl (at_call_row 55 (e := 3) (sz := 1) (n := 30) (xs := (List.replicate 30 (6 : Int)).map (Value.int .i64)) (by decide) (by kernel_rfl) rfl (fun w_ s_ => repeat_calls 6 30 (by decide) w_) (fun p55 c55 => ?_))
  refine GL_at rfl (at_call_row 56 (e := 3) (sz := 1) (n := 31) (xs := (List.replicate 31 (7 : Int)).map (Value.int .i64)) (by decide) (by kernel_rfl) rfl (fun w_ s_ => repeat_calls 7 31 (by decide) w_) (fun p56 c56 => ?_))
  refine GL_at rfl (at_call_row 57 (e := 3) (sz := 1) (n := 31) (xs := (List.replicate 31 (8 : Int)).map (Value.int .i64)) (by decide) (by kernel_rfl) rfl (fun w_ s_ => repeat_calls 8 31 (by decide) w_) (fun p57 c57 => ?_))
  refine GL_at rfl (at_call_row 58 (e := 3) (sz := 1) (n := 30) (xs := (List.replicate 30 (9 : Int)).map (Value.int .i64)) (by decide) (by kernel_rfl) rfl (fun w_ s_ => repeat_calls 9 30 (by decide) w_) (fun p58 c58 => ?_))
  refine GL_at rfl (at_call_row 59 (e := 3) (sz := 1) (n := 31) (xs := (List.replicate 31 (10 : Int)).map (Value.int .i64)) (by decide) (by kernel_rfl) rfl (fun w_ s_ => repeat_calls 10 31 (by decide) w_) (fun p59 c59 => ?_))
  refine GL_at rfl (at_call_row 60 (e := 3) (sz := 1) (n := 30) (xs := (List.replicate 30 (11 : Int)).map (Value.int .i64)) (by decide) (by kernel_rfl) rfl (fun w_ s_ => repeat_calls 11 30 (by decide) w_) (fun p60 c60 => ?_))
  refine GL_at rfl (at_call_row 61 (e := 3) (sz := 1) (n := 31) (xs := (List.replicate 31 (12 : Int)).map (Value.int .i64)) (by decide) (by kernel_rfl) rfl (fun w_ s_ => repeat_calls 12 31 (by decide) w_) (fun p61 c61 => ?_))
  refine GL_at rfl (at_call_row 62 (e := 3) (sz := 1) (n := 7) (xs := (List.replicate 7 (1 : Int)).map (Value.int .i64)) (by decide) (by kernel_rfl) rfl (fun w_ s_ => repeat_calls 1 7 (by decide) w_) (fun p62 c62 => ?_))
  refine GL_at rfl (at_row 63 (e := 25) (sz := 1) (n := 13) (vs := [(0, .slice p50 31 c50), (1, .slice p51 29 c51), (2, .slice p52 31 c52), (3, .slice p53 30 c53), (4, .slice p54 31 c54), (5, .slice p55 30 c55), (6, .slice p56 31 c56), (7, .slice p57 31 c57), (8, .slice p58 30 c58), (9, .slice p59 31 c59), (10, .slice p60 30 c60), (11, .slice p61 31 c61), (12, .slice p62 7 c62)]) (cs := [.slice p50 31 c50, .slice p51 29 c51, .slice p52 31 c52, .slice p53 30 c53, .slice p54 31 c54, .slice p55 30 c55, .slice p56 31 c56, .slice p57 31 c57, .slice p58 30 c58, .slice p59 31 c59, .slice p60 30 c60, .slice p61 31 c61, .slice p62 7 c62]) (by decide) rfl (fun w => by kernel_rfl) rfl (by decide) (by decide) rfl (fun b1_ hbb1_ => ?_))
  refine GL_at rfl (at_call_row 64 (e := 3) (sz := 1) (n := (cat [(.slice p50 31 c50, List.replicate 31 1), (.slice p51 29 c51, List.replicate 29 2), (.slice p52 31 c52, List.replicate 31 3), (.slice p53 30 c53, List.replicate 30 4), (.slice p54 31 c54, List.replicate 31 5), (.slice p55 30 c55, List.replicate 30 6), (.slice p56 31 c56, List.replicate 31 7), (.slice p57 31 c57, List.replicate 31 8), (.slice p58 30 c58, List.replicate 30 9), (.slice p59 31 c59, List.replicate 31 10), (.slice p60 30 c60, List.replicate 30 11), (.slice p61 31 c61, List.replicate 31 12), (.slice p62 7 c62, List.replicate 7 1)] 13).length) (xs := (cat [(.slice p50 31 c50, List.replicate 31 1), (.slice p51 29 c51, List.replicate 29 2), (.slice p52 31 c52, List.replicate 31 3), (.slice p53 30 c53, List.replicate 30 4), (.slice p54 31 c54, List.replicate 31 5), (.slice p55 30 c55, List.replicate 30 6), (.slice p56 31 c56, List.replicate 31 7), (.slice p57 31 c57, List.replicate 31 8), (.slice p58 30 c58, List.replicate 30 9), (.slice p59 31 c59, List.replicate 31 10), (.slice p60 30 c60, List.replicate 30 11), (.slice p61 31 c61, List.replicate 31 12), (.slice p62 7 c62, List.replicate 7 1)] 13).map (Value.int .i64)) (by decide) (by kernel_rfl) rfl (fun w_ s_ => concat_calls [(.slice p50 31 c50, List.replicate 31 1), (.slice p51 29 c51, List.replicate 29 2), (.slice p52 31 c52, List.replicate 31 3), (.slice p53 30 c53, List.replicate 30 4), (.slice p54 31 c54, List.replicate 31 5), (.slice p55 30 c55, List.replicate 30 6), (.slice p56 31 c56, List.replicate 31 7), (.slice p57 31 c57, List.replicate 31 8), (.slice p58 30 c58, List.replicate 30 9), (.slice p59 31 c59, List.replicate 31 10), (.slice p60 30 c60, List.replicate 30 11), (.slice p61 31 c61, List.replicate 31 12), (.slice p62 7 c62, List.replicate 7 1)] _ 0 13 (Nat.le_of_ble_eq_true (by kernel_rfl)) (Nat.le_of_ble_eq_true (by kernel_rfl)) w_ ⟨s_.row_cell (k := 63) (o := 0) rfl rfl rfl, s_.ints 50 rfl, by decide, s_.row_cell (k := 63) (o := 1) rfl rfl rfl, s_.ints 51 rfl, by decide, s_.row_cell (k := 63) (o := 2) rfl rfl rfl, s_.ints 52 rfl, by decide, s_.row_cell (k := 63) (o := 3) rfl rfl rfl, s_.ints 53 rfl, by decide, s_.row_cell (k := 63) (o := 4) rfl rfl rfl, s_.ints 54 rfl, by decide, s_.row_cell (k := 63) (o := 5) rfl rfl rfl, s_.ints 55 rfl, by decide, s_.row_cell (k := 63) (o := 6) rfl rfl rfl, s_.ints 56 rfl, by decide, s_.row_cell (k := 63) (o := 7) rfl rfl rfl, s_.ints 57 rfl, by decide, s_.row_cell (k := 63) (o := 8) rfl rfl rfl, s_.ints 58 rfl, by decide, s_.row_cell (k := 63) (o := 9) rfl rfl rfl, s_.ints 59 rfl, by decide, s_.row_cell (k := 63) (o := 10) rfl rfl rfl, s_.ints 60 rfl, by decide, s_.row_cell (k := 63) (o := 11) rfl rfl rfl, s_.ints 61 rfl, by decide, s_.row_cell (k := 63) (o := 12) rfl rfl rfl, s_.ints 62 rfl, by decide, trivial⟩) (fun p64 c64 => ?_))
  refine GL_rd rfl (by decide) (rd_assign rfl) ?_
  refine GL_nil ?_
  refine GE_then ?_
  refine GC_ret ?_
  refine GE_ret1 (.inl rfl) rfl (res_tmp rfl) fun w_ s_ => ?_
  exact ⟨_, _, rfl, newRow_to (s_.toNew (k := 64) rfl) (by rfl) (congrArg (List.map _) (by rfl))⟩
theorem mday366_calls (w : World) : Calls Go.Proofs.Tryz.prog 52 #[] w fun e w' => ∃ p c, e = .returned (.slice p 373 c) ∧ NewRow w w' (.slice p 373 c) 3 1 373 (md366.map (Value.int .i64)) := by
  refine calls_GC (args := []) (L := []) (N := 23) Tryz.func52 rfl rfl (Nat.le_of_ble_eq_true rfl) rfl (Sees.start (fun _ => False) w) ?_
  refine GC_seq ?_
  refine GC_region ?_
  refine GL_rd rfl (by decide) (rd_assign rfl) ?_
  refine GL_nil ?_
  refine GE_then ?_
  refine GC_seq ?_
  refine GC_region ?_
  refine GL_at rfl (at_call_row 50 (e := 3) (sz := 1) (n := 29) (xs := ((List.range 29).map fun (j : Nat) => (1 : Int) + (j : Int)).map (Value.int .i64)) (by decide) (by kernel_rfl) rfl (fun w_ s_ => rang_calls (1) 29 (by decide) (by decide) w_) (fun p50 c50 => ?_))
  refine GL_at rfl (at_call_row 51 (e := 3) (sz := 1) (n := 30) (xs := ((List.range 30).map fun (j : Nat) => (1 : Int) + (j : Int)).map (Value.int .i64)) (by decide) (by kernel_rfl) rfl (fun w_ s_ => rang_calls (1) 30 (by decide) (by decide) w_) (fun p51 c51 => ?_))
  refine GL_at rfl (at_call_row 52 (e := 3) (sz := 1) (n := 31) (xs := ((List.range 31).map fun (j : Nat) => (1 : Int) + (j : Int)).map (Value.int .i64)) (by decide) (by kernel_rfl) rfl (fun w_ s_ => rang_calls (1) 31 (by decide) (by decide) w_) (fun p52 c52 => ?_))
  refine GL_rd rfl (by decide) (rd_assign rfl) ?_
  refine GL_rd rfl (by decide) (rd_assign rfl) ?_
  refine GL_rd rfl (by decide) (rd_assign rfl) ?_
  refine GL_nil ?_
  refine GE_then ?_
  refine GC_seq ?_
  refine GC_have (fun w s => s.head 52 rfl (by decide)) fun hcap => ?_
  obtain ⟨q52, -, hcap⟩ := hcap
  refine GC_region ?_
  refine GL_rd rfl (by decide) (rd_move rfl) ?_
  refine GL_rd rfl (by decide) (rd_move rfl) ?_
  refine GL_rd rfl (by decide) (rd_move rfl) ?_
  refine GL_rd rfl (by decide) (rd_move rfl) ?_
  refine GL_rd rfl (by decide) (rd_move rfl) ?_
  refine GL_rd rfl (by decide) (rd_move rfl) ?_
  refine GL_rd rfl (by decide) (rd_move rfl) ?_
  refine GL_rd rfl (by decide) (rd_move rfl) ?_
  refine GL_rd rfl (by decide) (rd_move rfl) ?_
  refine GL_rd rfl (by decide) (rd_move rfl) ?_
  refine GL_rd rfl (by decide) (rd_move rfl) ?_
  refine GL_rd rfl (by decide) (rd_move rfl) ?_
  refine GL_rd rfl (by decide) (rd_move rfl) ?_
  refine GL_rd rfl (by decide) (rd_slice_upto (e := 3) (n := 1) (by kernel_rfl) rfl rfl (by omega) (by omega)) ?_
  refine GL_at rfl (at_row 53 (e := 25) (sz := 1) (n := 13) (vs := [(0, .slice p52 31 c52), (1, .slice p50 29 c50), (2, .slice p52 31 c52), (3, .slice p51 30 c51), (4, .slice p52 31 c52), (5, .slice p51 30 c51), (6, .slice p52 31 c52), (7, .slice p52 31 c52), (8, .slice p51 30 c51), (9, .slice p52 31 c52), (10, .slice p51 30 c51), (11, .slice p52 31 c52), (12, .slice p52 7 c52)]) (cs := [.slice p52 31 c52, .slice p50 29 c50, .slice p52 31 c52, .slice p51 30 c51, .slice p52 31 c52, .slice p51 30 c51, .slice p52 31 c52, .slice p52 31 c52, .slice p51 30 c51, .slice p52 31 c52, .slice p51 30 c51, .slice p52 31 c52, .slice p52 7 c52]) (by decide) rfl (fun w => by kernel_rfl) rfl (by decide) (by decide) rfl (fun b1_ hbb1_ => ?_))
  refine GL_at rfl (at_call_row 64 (e := 3) (sz := 1) (n := (cat [(.slice p52 31 c52, ((List.range 31).map fun (j : Nat) => (1 : Int) + (j : Int))), (.slice p50 29 c50, ((List.range 29).map fun (j : Nat) => (1 : Int) + (j : Int))), (.slice p52 31 c52, ((List.range 31).map fun (j : Nat) => (1 : Int) + (j : Int))), (.slice p51 30 c51, ((List.range 30).map fun (j : Nat) => (1 : Int) + (j : Int))), (.slice p52 31 c52, ((List.range 31).map fun (j : Nat) => (1 : Int) + (j : Int))), (.slice p51 30 c51, ((List.range 30).map fun (j : Nat) => (1 : Int) + (j : Int))), (.slice p52 31 c52, ((List.range 31).map fun (j : Nat) => (1 : Int) + (j : Int))), (.slice p52 31 c52, ((List.range 31).map fun (j : Nat) => (1 : Int) + (j : Int))), (.slice p51 30 c51, ((List.range 30).map fun (j : Nat) => (1 : Int) + (j : Int))), (.slice p52 31 c52, ((List.range 31).map fun (j : Nat) => (1 : Int) + (j : Int))), (.slice p51 30 c51, ((List.range 30).map fun (j : Nat) => (1 : Int) + (j : Int))), (.slice p52 31 c52, ((List.range 31).map fun (j : Nat) => (1 : Int) + (j : Int))), (.slice p52 7 c52, ((List.range 31).map fun (j : Nat) => (1 : Int) + (j : Int)).take 7)] 13).length) (xs := (cat [(.slice p52 31 c52, ((List.range 31).map fun (j : Nat) => (1 : Int) + (j : Int))), (.slice p50 29 c50, ((List.range 29).map fun (j : Nat) => (1 : Int) + (j : Int))), (.slice p52 31 c52, ((List.range 31).map fun (j : Nat) => (1 : Int) + (j : Int))), (.slice p51 30 c51, ((List.range 30).map fun (j : Nat) => (1 : Int) + (j : Int))), (.slice p52 31 c52, ((List.range 31).map fun (j : Nat) => (1 : Int) + (j : Int))), (.slice p51 30 c51, ((List.range 30).map fun (j : Nat) => (1 : Int) + (j : Int))), (.slice p52 31 c52, ((List.range 31).map fun (j : Nat) => (1 : Int) + (j : Int))), (.slice p52 31 c52, ((List.range 31).map fun (j : Nat) => (1 : Int) + (j : Int))), (.slice p51 30 c51, ((List.range 30).map fun (j : Nat) => (1 : Int) + (j : Int))), (.slice p52 31 c52, ((List.range 31).map fun (j : Nat) => (1 : Int) + (j : Int))), (.slice p51 30 c51, ((List.range 30).map fun (j : Nat) => (1 : Int) + (j : Int))), (.slice p52 31 c52, ((List.range 31).map fun (j : Nat) => (1 : Int) + (j : Int))), (.slice p52 7 c52, ((List.range 31).map fun (j : Nat) => (1 : Int) + (j : Int)).take 7)] 13).map (Value.int .i64)) (by decide) (by kernel_rfl) rfl (fun w_ s_ => concat_calls [(.slice p52 31 c52, ((List.range 31).map fun (j : Nat) => (1 : Int) + (j : Int))), (.slice p50 29 c50, ((List.range 29).map fun (j : Nat) => (1 : Int) + (j : Int))), (.slice p52 31 c52, ((List.range 31).map fun (j : Nat) => (1 : Int) + (j : Int))), (.slice p51 30 c51, ((List.range 30).map fun (j : Nat) => (1 : Int) + (j : Int))), (.slice p52 31 c52, ((List.range 31).map fun (j : Nat) => (1 : Int) + (j : Int))), (.slice p51 30 c51, ((List.range 30).map fun (j : Nat) => (1 : Int) + (j : Int))), (.slice p52 31 c52, ((List.range 31).map fun (j : Nat) => (1 : Int) + (j : Int))), (.slice p52 31 c52, ((List.range 31).map fun (j : Nat) => (1 : Int) + (j : Int))), (.slice p51 30 c51, ((List.range 30).map fun (j : Nat) => (1 : Int) + (j : Int))), (.slice p52 31 c52, ((List.range 31).map fun (j : Nat) => (1 : Int) + (j : Int))), (.slice p51 30 c51, ((List.range 30).map fun (j : Nat) => (1 : Int) + (j : Int))), (.slice p52 31 c52, ((List.range 31).map fun (j : Nat) => (1 : Int) + (j : Int))), (.slice p52 7 c52, ((List.range 31).map fun (j : Nat) => (1 : Int) + (j : Int)).take 7)] _ 0 13 (Nat.le_of_ble_eq_true (by kernel_rfl)) (Nat.le_of_ble_eq_true (by kernel_rfl)) w_ ⟨s_.row_cell (k := 53) (o := 0) rfl rfl rfl, s_.ints 52 rfl, by decide, s_.row_cell (k := 53) (o := 1) rfl rfl rfl, s_.ints 50 rfl, by decide, s_.row_cell (k := 53) (o := 2) rfl rfl rfl, s_.ints 52 rfl, by decide, s_.row_cell (k := 53) (o := 3) rfl rfl rfl, s_.ints 51 rfl, by decide, s_.row_cell (k := 53) (o := 4) rfl rfl rfl, s_.ints 52 rfl, by decide, s_.row_cell (k := 53) (o := 5) rfl rfl rfl, s_.ints 51 rfl, by decide, s_.row_cell (k := 53) (o := 6) rfl rfl rfl, s_.ints 52 rfl, by decide, s_.row_cell (k := 53) (o := 7) rfl rfl rfl, s_.ints 52 rfl, by decide, s_.row_cell (k := 53) (o := 8) rfl rfl rfl, s_.ints 51 rfl, by decide, s_.row_cell (k := 53) (o := 9) rfl rfl rfl, s_.ints 52 rfl, by decide, s_.row_cell (k := 53) (o := 10) rfl rfl rfl, s_.ints 51 rfl, by decide, s_.row_cell (k := 53) (o := 11) rfl rfl rfl, s_.ints 52 rfl, by decide, s_.row_cell (k := 53) (o := 12) rfl rfl rfl, (s_.ints 52 rfl).take (by decide), by decide, trivial⟩) (fun p64 c64 => ?_))
  refine GL_rd rfl (by decide) (rd_assign rfl) ?_
  refine GL_nil ?_
  refine GE_then ?_
  refine GC_ret ?_
  refine GE_ret1 (.inl rfl) rfl (res_tmp rfl) fun w_ s_ => ?_
  exact ⟨_, _, rfl, newRow_to (s_.toNew (k := 64) rfl) (by rfl) (congrArg (List.map _) (by rfl))⟩
theorem nmday366_calls (w : World) : Calls Go.Proofs.Tryz.prog 53 #[] w fun e w' => ∃ p c, e = .returned (.slice p 373 c) ∧ NewRow w w' (.slice p 373 c) 3 1 373 (nmd366.map (Value.int .i64)) := by
  refine calls_GC (args := []) (L := []) (N := 23) Tryz.func53 rfl rfl (Nat.le_of_ble_eq_true rfl) rfl (Sees.start (fun _ => False) w) ?_
  refine GC_seq ?_
  refine GC_region ?_
  refine GL_rd rfl (by decide) (rd_assign rfl) ?_
  refine GL_nil ?_
  refine GE_then ?_
  refine GC_seq ?_
  refine GC_region ?_
  refine GL_at rfl (at_call_row 50 (e := 3) (sz := 1) (n := 29) (xs := ((List.range 29).map fun (j : Nat) => (-29 : Int) + (j : Int)).map (Value.int .i64)) (by decide) (by kernel_rfl) rfl (fun w_ s_ => rang_calls (-29) 29 (by decide) (by decide) w_) (fun p50 c50 => ?_))
  refine GL_at rfl (at_call_row 51 (e := 3) (sz := 1) (n := 30) (xs := ((List.range 30).map fun (j : Nat) => (-30 : Int) + (j : Int)).map (Value.int .i64)) (by decide) (by kernel_rfl) rfl (fun w_ s_ => rang_calls (-30) 30 (by decide) (by decide) w_) (fun p51 c51 => ?_))
  refine GL_at rfl (at_call_row 52 (e := 3) (sz := 1) (n := 31) (xs := ((List.range 31).map fun (j : Nat) => (-31 : Int) + (j : Int)).map (Value.int .i64)) (by decide) (by kernel_rfl) rfl (fun w_ s_ => rang_calls (-31) 31 (by decide) (by decide) w_) (fun p52 c52 => ?_))
  refine GL_rd rfl (by decide) (rd_assign rfl) ?_
  refine GL_rd rfl (by decide) (rd_assign rfl) ?_
  refine GL_rd rfl (by decide) (rd_assign rfl) ?_
  refine GL_nil ?_
  refine GE_then ?_
  refine GC_seq ?_
  refine GC_have (fun w s => s.head 52 rfl (by decide)) fun hcap => ?_
  obtain ⟨q52, -, hcap⟩ := hcap
  refine GC_region ?_
  refine GL_rd rfl (by decide) (rd_move rfl) ?_
  refine GL_rd rfl (by decide) (rd_move rfl) ?_
  refine GL_rd rfl (by decide) (rd_move rfl) ?_
  refine GL_rd rfl (by decide) (rd_move rfl) ?_
  refine GL_rd rfl (by decide) (rd_move rfl) ?_
  refine GL_rd rfl (by decide) (rd_move rfl) ?_
  refine GL_rd rfl (by decide) (rd_move rfl) ?_
  refine GL_rd rfl (by decide) (rd_move rfl) ?_
  refine GL_rd rfl (by decide) (rd_move rfl) ?_
  refine GL_rd rfl (by decide) (rd_move rfl) ?_
  refine GL_rd rfl (by decide) (rd_move rfl) ?_
  refine GL_rd rfl (by decide) (rd_move rfl) ?_
  refine GL_rd rfl (by decide) (rd_move rfl) ?_
  refine GL_rd rfl (by decide) (rd_slice_upto (e := 3) (n := 1) (by kernel_rfl) rfl rfl (by omega) (by omega)) ?_
  refine GL_at rfl (at_row 53 (e := 25) (sz := 1) (n := 13) (vs := [(0, .slice p52 31 c52), (1, .slice p50 29 c50), (2, .slice p52 31 c52), (3, .slice p51 30 c51), (4, .slice p52 31 c52), (5, .slice p51 30 c51), (6, .slice p52 31 c52), (7, .slice p52 31 c52), (8, .slice p51 30 c51), (9, .slice p52 31 c52), (10, .slice p51 30 c51), (11, .slice p52 31 c52), (12, .slice p52 7 c52)]) (cs := [.slice p52 31 c52, .slice p50 29 c50, .slice p52 31 c52, .slice p51 30 c51, .slice p52 31 c52, .slice p51 30 c51, .slice p52 31 c52, .slice p52 31 c52, .slice p51 30 c51, .slice p52 31 c52, .slice p51 30 c51, .slice p52 31 c52, .slice p52 7 c52]) (by decide) rfl (fun w => by kernel_rfl) rfl (by decide) (by decide) rfl (fun b1_ hbb1_ => ?_))
  refine GL_at rfl (at_call_row 64 (e := 3) (sz := 1) (n := (cat [(.slice p52 31 c52, ((List.range 31).map fun (j : Nat) => (-31 : Int) + (j : Int))), (.slice p50 29 c50, ((List.range 29).map fun (j : Nat) => (-29 : Int) + (j : Int))), (.slice p52 31 c52, ((List.range 31).map fun (j : Nat) => (-31 : Int) + (j : Int))), (.slice p51 30 c51, ((List.range 30).map fun (j : Nat) => (-30 : Int) + (j : Int))), (.slice p52 31 c52, ((List.range 31).map fun (j : Nat) => (-31 : Int) + (j : Int))), (.slice p51 30 c51, ((List.range 30).map fun (j : Nat) => (-30 : Int) + (j : Int))), (.slice p52 31 c52, ((List.range 31).map fun (j : Nat) => (-31 : Int) + (j : Int))), (.slice p52 31 c52, ((List.range 31).map fun (j : Nat) => (-31 : Int) + (j : Int))), (.slice p51 30 c51, ((List.range 30).map fun (j : Nat) => (-30 : Int) + (j : Int))), (.slice p52 31 c52, ((List.range 31).map fun (j : Nat) => (-31 : Int) + (j : Int))), (.slice p51 30 c51, ((List.range 30).map fun (j : Nat) => (-30 : Int) + (j : Int))), (.slice p52 31 c52, ((List.range 31).map fun (j : Nat) => (-31 : Int) + (j : Int))), (.slice p52 7 c52, ((List.range 31).map fun (j : Nat) => (-31 : Int) + (j : Int)).take 7)] 13).length) (xs := (cat [(.slice p52 31 c52, ((List.range 31).map fun (j : Nat) => (-31 : Int) + (j : Int))), (.slice p50 29 c50, ((List.range 29).map fun (j : Nat) => (-29 : Int) + (j : Int))), (.slice p52 31 c52, ((List.range 31).map fun (j : Nat) => (-31 : Int) + (j : Int))), (.slice p51 30 c51, ((List.range 30).map fun (j : Nat) => (-30 : Int) + (j : Int))), (.slice p52 31 c52, ((List.range 31).map fun (j : Nat) => (-31 : Int) + (j : Int))), (.slice p51 30 c51, ((List.range 30).map fun (j : Nat) => (-30 : Int) + (j : Int))), (.slice p52 31 c52, ((List.range 31).map fun (j : Nat) => (-31 : Int) + (j : Int))), (.slice p52 31 c52, ((List.range 31).map fun (j : Nat) => (-31 : Int) + (j : Int))), (.slice p51 30 c51, ((List.range 30).map fun (j : Nat) => (-30 : Int) + (j : Int))), (.slice p52 31 c52, ((List.range 31).map fun (j : Nat) => (-31 : Int) + (j : Int))), (.slice p51 30 c51, ((List.range 30).map fun (j : Nat) => (-30 : Int) + (j : Int))), (.slice p52 31 c52, ((List.range 31).map fun (j : Nat) => (-31 : Int) + (j : Int))), (.slice p52 7 c52, ((List.range 31).map fun (j : Nat) => (-31 : Int) + (j : Int)).take 7)] 13).map (Value.int .i64)) (by decide) (by kernel_rfl) rfl (fun w_ s_ => concat_calls [(.slice p52 31 c52, ((List.range 31).map fun (j : Nat) => (-31 : Int) + (j : Int))), (.slice p50 29 c50, ((List.range 29).map fun (j : Nat) => (-29 : Int) + (j : Int))), (.slice p52 31 c52, ((List.range 31).map fun (j : Nat) => (-31 : Int) + (j : Int))), (.slice p51 30 c51, ((List.range 30).map fun (j : Nat) => (-30 : Int) + (j : Int))), (.slice p52 31 c52, ((List.range 31).map fun (j : Nat) => (-31 : Int) + (j : Int))), (.slice p51 30 c51, ((List.range 30).map fun (j : Nat) => (-30 : Int) + (j : Int))), (.slice p52 31 c52, ((List.range 31).map fun (j : Nat) => (-31 : Int) + (j : Int))), (.slice p52 31 c52, ((List.range 31).map fun (j : Nat) => (-31 : Int) + (j : Int))), (.slice p51 30 c51, ((List.range 30).map fun (j : Nat) => (-30 : Int) + (j : Int))), (.slice p52 31 c52, ((List.range 31).map fun (j : Nat) => (-31 : Int) + (j : Int))), (.slice p51 30 c51, ((List.range 30).map fun (j : Nat) => (-30 : Int) + (j : Int))), (.slice p52 31 c52, ((List.range 31).map fun (j : Nat) => (-31 : Int) + (j : Int))), (.slice p52 7 c52, ((List.range 31).map fun (j : Nat) => (-31 : Int) + (j : Int)).take 7)] _ 0 13 (Nat.le_of_ble_eq_true (by kernel_rfl)) (Nat.le_of_ble_eq_true (by kernel_rfl)) w_ ⟨s_.row_cell (k := 53) (o := 0) rfl rfl rfl, s_.ints 52 rfl, by decide, s_.row_cell (k := 53) (o := 1) rfl rfl rfl, s_.ints 50 rfl, by decide, s_.row_cell (k := 53) (o := 2) rfl rfl rfl, s_.ints 52 rfl, by decide, s_.row_cell (k := 53) (o := 3) rfl rfl rfl, s_.ints 51 rfl, by decide, s_.row_cell (k := 53) (o := 4) rfl rfl rfl, s_.ints 52 rfl, by decide, s_.row_cell (k := 53) (o := 5) rfl rfl rfl, s_.ints 51 rfl, by decide, s_.row_cell (k := 53) (o := 6) rfl rfl rfl, s_.ints 52 rfl, by decide, s_.row_cell (k := 53) (o := 7) rfl rfl rfl, s_.ints 52 rfl, by decide, s_.row_cell (k := 53) (o := 8) rfl rfl rfl, s_.ints 51 rfl, by decide, s_.row_cell (k := 53) (o := 9) rfl rfl rfl, s_.ints 52 rfl, by decide, s_.row_cell (k := 53) (o := 10) rfl rfl rfl, s_.ints 51 rfl, by decide, s_.row_cell (k := 53) (o := 11) rfl rfl rfl, s_.ints 52 rfl, by decide, s_.row_cell (k := 53) (o := 12) rfl rfl rfl, (s_.ints 52 rfl).take (by decide), by decide, trivial⟩) (fun p64 c64 => ?_))
  refine GL_rd rfl (by decide) (rd_assign rfl) ?_
  refine GL_nil ?_
  refine GE_then ?_
  refine GC_ret ?_
  refine GE_ret1 (.inl rfl) rfl (res_tmp rfl) fun w_ s_ => ?_
  exact ⟨_, _, rfl, newRow_to (s_.toNew (k := 64) rfl) (by rfl) (congrArg (List.map _) (by rfl))⟩
theorem m365_calls (w : World) : Calls Go.Proofs.Tryz.prog 47 #[] w fun e w' => ∃ p c, e = .returned (.slice p 372 c) ∧ NewRow w w' (.slice p 372 c) 3 1 372 (mm365.map (Value.int .i64)) := by
  refine calls_GC (args := []) (L := []) (N := 9) Tryz.func47 rfl rfl (Nat.le_of_ble_eq_true rfl) rfl (Sees.start (fun _ => False) w) ?_
  refine GC_seq ?_
  refine GC_region ?_
  refine GL_rd rfl (by decide) (rd_assign rfl) ?_
  refine GL_nil ?_
  refine GE_then ?_
  refine GC_seq ?_
  refine GC_region ?_
  refine GL_at rfl (at_call_row 50 (e := 3) (sz := 1) (n := 373) (xs := mm366.map (Value.int .i64)) (by decide) (by kernel_rfl) rfl (fun w_ s_ => m366_calls w_) (fun p50 c50 => ?_))
  refine GL_rd rfl (by decide) (rd_assign rfl) ?_
  refine GL_nil ?_
  refine GE_then ?_
  refine GC_seq ?_
  refine GC_have (fun w s => s.head 50 rfl (by decide)) fun hcap => ?_
  obtain ⟨b50, rfl, hcap⟩ := hcap
  refine GC_tail 4 (by kernel_rfl) (by kernel_rfl) ?_
  refine GT_rd rfl (by decide) (rd_move rfl) ?_
  refine GT_rd rfl (by decide) (rd_slice_upto (e := 3) (n := 1) (by kernel_rfl) rfl rfl (by omega) (by omega)) ?_
  refine GT_rd rfl (by decide) (rd_move rfl) ?_
  refine GT_rd rfl (by decide) (rd_slice_from (e := 3) (n := 1) (by kernel_rfl) rfl rfl (by omega) (by omega) (by omega)) ?_
  refine GT_nil ?_
  refine GL_at rfl (at_row 51 (e := 25) (sz := 1) (n := 2) (vs := [(0, .slice (some ⟨b50, 0, none⟩) 59 c50), (1, .slice (some ⟨b50, 0 + (60 : Int).toNat * 1, none⟩) (373 - (60 : Int).toNat) (c50 - (60 : Int).toNat))]) (cs := [.slice (some ⟨b50, 0, none⟩) 59 c50, .slice (some ⟨b50, 0 + (60 : Int).toNat * 1, none⟩) (373 - (60 : Int).toNat) (c50 - (60 : Int).toNat)]) (by decide) rfl (fun w => by kernel_rfl) rfl (by decide) (by decide) rfl (fun b1_ hbb1_ => ?_))
  refine GL_at rfl (at_call_row 64 (e := 3) (sz := 1) (n := (cat [(.slice (some ⟨b50, 0, none⟩) 59 c50, mm366.take 59), (.slice (some ⟨b50, 0 + (60 : Int).toNat * 1, none⟩) (373 - (60 : Int).toNat) (c50 - (60 : Int).toNat), mm366.drop 60)] 2).length) (xs := (cat [(.slice (some ⟨b50, 0, none⟩) 59 c50, mm366.take 59), (.slice (some ⟨b50, 0 + (60 : Int).toNat * 1, none⟩) (373 - (60 : Int).toNat) (c50 - (60 : Int).toNat), mm366.drop 60)] 2).map (Value.int .i64)) (by decide) (by kernel_rfl) rfl (fun w_ s_ => concat_calls [(.slice (some ⟨b50, 0, none⟩) 59 c50, mm366.take 59), (.slice (some ⟨b50, 0 + (60 : Int).toNat * 1, none⟩) (373 - (60 : Int).toNat) (c50 - (60 : Int).toNat), mm366.drop 60)] _ 0 2 (Nat.le_of_ble_eq_true (by kernel_rfl)) (Nat.le_of_ble_eq_true (by kernel_rfl)) w_ ⟨s_.row_cell (k := 51) (o := 0) rfl rfl rfl, (s_.ints 50 rfl).take (by decide), by decide, s_.row_cell (k := 51) (o := 1) rfl rfl rfl, (s_.ints 50 rfl).from 60, by decide, trivial⟩) (fun p64 c64 => ?_))
  refine GL_rd rfl (by decide) (rd_assign rfl) ?_
  refine GL_nil ?_
  refine GE_then ?_
  refine GC_ret ?_
  refine GE_ret1 (.inl rfl) rfl (res_tmp rfl) fun w_ s_ => ?_
  exact ⟨_, _, rfl, newRow_to (s_.toNew (k := 64) rfl) (by rfl) (congrArg (List.map _) (by rfl))⟩
theorem mday365_calls (w : World) : Calls Go.Proofs.Tryz.prog 48 #[] w fun e w' => ∃ p c, e = .returned (.slice p 372 c) ∧ NewRow w w' (.slice p 372 c) 3 1 372 (md365.map (Value.int .i64)) := by
  refine calls_GC (args := []) (L := []) (N := 9) Tryz.func48 rfl rfl (Nat.le_of_ble_eq_true rfl) rfl (Sees.start (fun _ => False) w) ?_
  refine GC_seq ?_
  refine GC_region ?_
  refine GL_rd rfl (by decide) (rd_assign rfl) ?_
  refine GL_nil ?_
  refine GE_then ?_
  refine GC_seq ?_
  refine GC_region ?_
  refine GL_at rfl (at_call_row 50 (e := 3) (sz := 1) (n := 373) (xs := md366.map (Value.int .i64)) (by decide) (by kernel_rfl) rfl (fun w_ s_ => mday366_calls w_) (fun p50 c50 => ?_))
  refine GL_rd rfl (by decide) (rd_assign rfl) ?_
  refine GL_nil ?_
  refine GE_then ?_
  refine GC_seq ?_
  refine GC_have (fun w s => s.head 50 rfl (by decide)) fun hcap => ?_
  obtain ⟨b50, rfl, hcap⟩ := hcap
  refine GC_tail 4 (by kernel_rfl) (by kernel_rfl) ?_
  refine GT_rd rfl (by decide) (rd_move rfl) ?_
  refine GT_rd rfl (by decide) (rd_slice_upto (e := 3) (n := 1) (by kernel_rfl) rfl rfl (by omega) (by omega)) ?_
  refine GT_rd rfl (by decide) (rd_move rfl) ?_
  refine GT_rd rfl (by decide) (rd_slice_from (e := 3) (n := 1) (by kernel_rfl) rfl rfl (by omega) (by omega) (by omega)) ?_
  refine GT_nil ?_
  refine GL_at rfl (at_row 51 (e := 25) (sz := 1) (n := 2) (vs := [(0, .slice (some ⟨b50, 0, none⟩) 59 c50), (1, .slice (some ⟨b50, 0 + (60 : Int).toNat * 1, none⟩) (373 - (60 : Int).toNat) (c50 - (60 : Int).toNat))]) (cs := [.slice (some ⟨b50, 0, none⟩) 59 c50, .slice (some ⟨b50, 0 + (60 : Int).toNat * 1, none⟩) (373 - (60 : Int).toNat) (c50 - (60 : Int).toNat)]) (by decide) rfl (fun w => by kernel_rfl) rfl (by decide) (by decide) rfl (fun b1_ hbb1_ => ?_))
  refine GL_at rfl (at_call_row 64 (e := 3) (sz := 1) (n := (cat [(.slice (some ⟨b50, 0, none⟩) 59 c50, md366.take 59), (.slice (some ⟨b50, 0 + (60 : Int).toNat * 1, none⟩) (373 - (60 : Int).toNat) (c50 - (60 : Int).toNat), md366.drop 60)] 2).length) (xs := (cat [(.slice (some ⟨b50, 0, none⟩) 59 c50, md366.take 59), (.slice (some ⟨b50, 0 + (60 : Int).toNat * 1, none⟩) (373 - (60 : Int).toNat) (c50 - (60 : Int).toNat), md366.drop 60)] 2).map (Value.int .i64)) (by decide) (by kernel_rfl) rfl (fun w_ s_ => concat_calls [(.slice (some ⟨b50, 0, none⟩) 59 c50, md366.take 59), (.slice (some ⟨b50, 0 + (60 : Int).toNat * 1, none⟩) (373 - (60 : Int).toNat) (c50 - (60 : Int).toNat), md366.drop 60)] _ 0 2 (Nat.le_of_ble_eq_true (by kernel_rfl)) (Nat.le_of_ble_eq_true (by kernel_rfl)) w_ ⟨s_.row_cell (k := 51) (o := 0) rfl rfl rfl, (s_.ints 50 rfl).take (by decide), by decide, s_.row_cell (k := 51) (o := 1) rfl rfl rfl, (s_.ints 50 rfl).from 60, by decide, trivial⟩) (fun p64 c64 => ?_))
  refine GL_rd rfl (by decide) (rd_assign rfl) ?_
  refine GL_nil ?_
  refine GE_then ?_
  refine GC_ret ?_
  refine GE_ret1 (.inl rfl) rfl (res_tmp rfl) fun w_ s_ => ?_
  exact ⟨_, _, rfl, newRow_to (s_.toNew (k := 64) rfl) (by rfl) (congrArg (List.map _) (by rfl))⟩
theorem nmday365_calls (w : World) : Calls Go.Proofs.Tryz.prog 49 #[] w fun e w' => ∃ p c, e = .returned (.slice p 372 c) ∧ NewRow w w' (.slice p 372 c) 3 1 372 (nmd365.map (Value.int .i64)) := by
  refine calls_GC (args := []) (L := []) (N := 9) Tryz.func49 rfl rfl (Nat.le_of_ble_eq_true rfl) rfl (Sees.start (fun _ => False) w) ?_
  refine GC_seq ?_
  refine GC_region ?_
  refine GL_rd rfl (by decide) (rd_assign rfl) ?_
  refine GL_nil ?_
  refine GE_then ?_
  refine GC_seq ?_
  refine GC_region ?_
  refine GL_at rfl (at_call_row 50 (e := 3) (sz := 1) (n := 373) (xs := nmd366.map (Value.int .i64)) (by decide) (by kernel_rfl) rfl (fun w_ s_ => nmday366_calls w_) (fun p50 c50 => ?_))
  refine GL_rd rfl (by decide) (rd_assign rfl) ?_
  refine GL_nil ?_
  refine GE_then ?_
  refine GC_seq ?_
  refine GC_have (fun w s => s.head 50 rfl (by decide)) fun hcap => ?_
  obtain ⟨b50, rfl, hcap⟩ := hcap
  refine GC_tail 4 (by kernel_rfl) (by kernel_rfl) ?_
  refine GT_rd rfl (by decide) (rd_move rfl) ?_
  refine GT_rd rfl (by decide) (rd_slice_upto (e := 3) (n := 1) (by kernel_rfl) rfl rfl (by omega) (by omega)) ?_
  refine GT_rd rfl (by decide) (rd_move rfl) ?_
  refine GT_rd rfl (by decide) (rd_slice_from (e := 3) (n := 1) (by kernel_rfl) rfl rfl (by omega) (by omega) (by omega)) ?_
  refine GT_nil ?_
  refine GL_at rfl (at_row 51 (e := 25) (sz := 1) (n := 2) (vs := [(0, .slice (some ⟨b50, 0, none⟩) 31 c50), (1, .slice (some ⟨b50, 0 + (32 : Int).toNat * 1, none⟩) (373 - (32 : Int).toNat) (c50 - (32 : Int).toNat))]) (cs := [.slice (some ⟨b50, 0, none⟩) 31 c50, .slice (some ⟨b50, 0 + (32 : Int).toNat * 1, none⟩) (373 - (32 : Int).toNat) (c50 - (32 : Int).toNat)]) (by decide) rfl (fun w => by kernel_rfl) rfl (by decide) (by decide) rfl (fun b1_ hbb1_ => ?_))
  refine GL_at rfl (at_call_row 64 (e := 3) (sz := 1) (n := (cat [(.slice (some ⟨b50, 0, none⟩) 31 c50, nmd366.take 31), (.slice (some ⟨b50, 0 + (32 : Int).toNat * 1, none⟩) (373 - (32 : Int).toNat) (c50 - (32 : Int).toNat), nmd366.drop 32)] 2).length) (xs := (cat [(.slice (some ⟨b50, 0, none⟩) 31 c50, nmd366.take 31), (.slice (some ⟨b50, 0 + (32 : Int).toNat * 1, none⟩) (373 - (32 : Int).toNat) (c50 - (32 : Int).toNat), nmd366.drop 32)] 2).map (Value.int .i64)) (by decide) (by kernel_rfl) rfl (fun w_ s_ => concat_calls [(.slice (some ⟨b50, 0, none⟩) 31 c50, nmd366.take 31), (.slice (some ⟨b50, 0 + (32 : Int).toNat * 1, none⟩) (373 - (32 : Int).toNat) (c50 - (32 : Int).toNat), nmd366.drop 32)] _ 0 2 (Nat.le_of_ble_eq_true (by kernel_rfl)) (Nat.le_of_ble_eq_true (by kernel_rfl)) w_ ⟨s_.row_cell (k := 51) (o := 0) rfl rfl rfl, (s_.ints 50 rfl).take (by decide), by decide, s_.row_cell (k := 51) (o := 1) rfl rfl rfl, (s_.ints 50 rfl).from 32, by decide, trivial⟩) (fun p64 c64 => ?_))
  refine GL_rd rfl (by decide) (rd_assign rfl) ?_
  refine GL_nil ?_
  refine GE_then ?_
  refine GC_ret ?_
  refine GE_ret1 (.inl rfl) rfl (res_tmp rfl) fun w_ s_ => ?_
  exact ⟨_, _, rfl, newRow_to (s_.toNew (k := 64) rfl) (by rfl) (congrArg (List.map _) (by rfl))⟩
theorem r365_calls (w : World) : Calls Go.Proofs.Tryz.prog 50 #[] w fun e w' => ∃ p c, e = .returned (.slice p 13 c) ∧ NewRow w w' (.slice p 13 c) 3 1 13 (([0, 31, 59, 90, 120, 151, 181, 212, 243, 273, 304, 334, 365] : List Int).map (Value.int .i64)) := by
  refine calls_GC (args := []) (L := []) (N := 2) Tryz.func50 rfl rfl (Nat.le_of_ble_eq_true rfl) rfl (Sees.start (fun _ => False) w) ?_
  refine GC_seq ?_
  refine GC_region ?_
  refine GL_rd rfl (by decide) (rd_assign rfl) ?_
  refine GL_nil ?_
  refine GE_then ?_
  refine GC_seq ?_
  refine GC_region ?_
  refine GL_at rfl (at_row 50 (e := 3) (sz := 1) (n := 13) (vs := [(0, .int .i64 0), (1, .int .i64 31), (2, .int .i64 59), (3, .int .i64 90), (4, .int .i64 120), (5, .int .i64 151), (6, .int .i64 181), (7, .int .i64 212), (8, .int .i64 243), (9, .int .i64 273), (10, .int .i64 304), (11, .int .i64 334), (12, .int .i64 365)]) (cs := [.int .i64 0, .int .i64 31, .int .i64 59, .int .i64 90, .int .i64 120, .int .i64 151, .int .i64 181, .int .i64 212, .int .i64 243, .int .i64 273, .int .i64 304, .int .i64 334, .int .i64 365]) (by decide) rfl (fun w => by kernel_rfl) rfl (by decide) (by decide) rfl (fun b1_ hbb1_ => ?_))
  refine GL_rd rfl (by decide) (rd_assign rfl) ?_
  refine GL_nil ?_
  refine GE_then ?_
  refine GC_ret ?_
  refine GE_ret1 (.inl rfl) rfl (res_tmp rfl) fun w_ s_ => ?_
  exact ⟨_, _, rfl, s_.toNew (k := 50) rfl⟩
theorem r366_calls (w : World) : Calls Go.Proofs.Tryz.prog 54 #[] w fun e w' => ∃ p c, e = .returned (.slice p 13 c) ∧ NewRow w w' (.slice p 13 c) 3 1 13 (([0, 31, 60, 91, 121, 152, 182, 213, 244, 274, 305, 335, 366] : List Int).map (Value.int .i64)) := by
  refine calls_GC (args := []) (L := []) (N := 2) Tryz.func54 rfl rfl (Nat.le_of_ble_eq_true rfl) rfl (Sees.start (fun _ => False) w) ?_
  refine GC_seq ?_
  refine GC_region ?_
  refine GL_rd rfl (by decide) (rd_assign rfl) ?_
  refine GL_nil ?_
  refine GE_then ?_
  refine GC_seq ?_
  refine GC_region ?_
  refine GL_at rfl (at_row 50 (e := 3) (sz := 1) (n := 13) (vs := [(0, .int .i64 0), (1, .int .i64 31), (2, .int .i64 60), (3, .int .i64 91), (4, .int .i64 121), (5, .int .i64 152), (6, .int .i64 182), (7, .int .i64 213), (8, .int .i64 244), (9, .int .i64 274), (10, .int .i64 305), (11, .int .i64 335), (12, .int .i64 366)]) (cs := [.int .i64 0, .int .i64 31, .int .i64 60, .int .i64 91, .int .i64 121, .int .i64 152, .int .i64 182, .int .i64 213, .int .i64 244, .int .i64 274, .int .i64 305, .int .i64 335, .int .i64 366]) (by decide) rfl (fun w => by kernel_rfl) rfl (by decide) (by decide) rfl (fun b1_ hbb1_ => ?_))
  refine GL_rd rfl (by decide) (rd_assign rfl) ?_
  refine GL_nil ?_
  refine GE_then ?_
  refine GC_ret ?_
  refine GE_ret1 (.inl rfl) rfl (res_tmp rfl) fun w_ s_ => ?_
  exact ⟨_, _, rfl, s_.toNew (k := 50) rfl⟩
theorem wd_succ (k : Nat) : (wd k).map (Value.int .i64) ++ [.int .i64 0, .int .i64 1, .int .i64 2, .int .i64 3, .int .i64 4, .int .i64 5, .int .i64 6] = (wd (k + 1)).map (.int .i64) := by
  unfold wd
  rw [List.replicate_succ', List.flatten_append, List.map_append]
  rfl
theorem seven1 : ∀ u ∈ [Value.int .i64 0, .int .i64 1, .int .i64 2, .int .i64 3, .int .i64 4, .int .i64 5, .int .i64 6], u.oneCell' = true := by
  intro u hu
  simp only [List.mem_cons, List.not_mem_nil, or_false] at hu
  rcases hu with rfl | rfl | rfl | rfl | rfl | rfl | rfl <;> rfl
theorem wday_calls (w : World) : Calls Go.Proofs.Tryz.prog 46 #[] w fun e w' => ∃ p c, e = .returned (.slice p 385 c) ∧ NewRow w w' (.slice p 385 c) 3 1 385 ((wd 55).map (Value.int .i64)) := by
  refine calls_GC (args := []) (L := []) (N := 11) Tryz.func46 rfl rfl (Nat.le_of_ble_eq_true rfl) rfl (Sees.start (fun _ => False) w) ?_
  refine GC_seq ?_
  refine GC_region ?_
  refine GL_rd rfl (by decide) (rd_assign rfl) ?_
  refine GL_nil ?_
  refine GE_then ?_
  refine GC_seq ?_
  refine GC_region ?_
  refine GL_rd rfl (by decide) (rd_assign rfl) ?_
  refine GL_nil ?_
  refine GE_then ?_
  refine GC_seq ?_
  refine GC_seq ?_
  refine GC_region ?_
  refine GL_rd rfl (by decide) (rd_assign rfl) ?_
  refine GL_nil ?_
  refine GE_then ?_
  refine GC_block ?_
  refine GC_loop (ι := (Nat) × (Option Addr) × (Nat)) (fun | ⟨k, p, c⟩ => 55 - k) (fun | ⟨k, p, c⟩ => (k ≤ 55)) (fun | ⟨k, p, c⟩ => [(1, .slice p (7 * k) c), (2, .int .i64 k)]) (fun | ⟨k, p, c⟩ => []) (fun | ⟨k, p, c⟩ => []) (fun | ⟨k, p, c⟩ => [(50, ⟨.slice p (7 * k) c, 3, 1, 7 * k, (wd k).map (.int .i64)⟩)]) ⟨0, none, 0⟩ (Nat.zero_le _) (fun a k => k.cons rfl (k.cons rfl (k.nil))) (fun w s => by exact s.nilRow 50 3 1) ?_
  rintro ⟨k, p, c⟩ hk
  show GC _ _ _ _ [(1, .slice p (7 * k) c), (2, .int .i64 k)] _ _ ([]) ([]) ([(50, ⟨.slice p (7 * k) c, 3, 1, 7 * k, (wd k).map (.int .i64)⟩)])
  refine GC_seq ?_
  refine GC_seq ?_
  refine GC_region ?_
  refine GL_rd rfl (by decide) (rd_move rfl) ?_
  refine GL_rd rfl (by decide) (rd_lss rfl rfl) ?_
  refine GL_nil ?_
  refine GE_then ?_
  refine GC_cond rfl (fun c4_ => ?_) (fun c4_ => ?_)
  · first | have p4_ := of_decide_eq_true c4_ | have p4_ := beq_iff_eq.1 c4_ | have p4_ := bne_iff_ne.1 c4_ | skip
    refine GC_skip ?_
    refine GE_then ?_
    refine GC_seq ?_
    refine GC_block ?_
    refine GC_region ?_
    refine GL_rd rfl (by decide) (rd_move rfl) ?_
    refine GL_at rfl (at_row 51 (e := 3) (sz := 1) (n := 7) (vs := [(0, .int .i64 0), (1, .int .i64 1), (2, .int .i64 2), (3, .int .i64 3), (4, .int .i64 4), (5, .int .i64 5), (6, .int .i64 6)]) (cs := [.int .i64 0, .int .i64 1, .int .i64 2, .int .i64 3, .int .i64 4, .int .i64 5, .int .i64 6]) (by decide) rfl (fun w => by kernel_rfl) rfl (by decide) (by decide) rfl (fun b1_ hbb1_ => ?_))
    refine GL_at rfl (at_append 50 51 (e := 3) (sz := 1) (by_ := 8) (zs := [.int .i64 0]) (by decide) (by kernel_rfl) rfl (by decide) rfl rfl rfl rfl ⟨rfl, rfl⟩ ⟨rfl, rfl⟩ seven1 (by simp only; omega) (by simp only; omega) (fun p' c' => ?_))
    refine GL_rd rfl (by decide) (rd_assign rfl) ?_
    refine GL_nil ?_
    refine GE_in ?_
    refine GE_then ?_
    refine GC_region ?_
    refine GL_rd rfl (by decide) (rd_move rfl) ?_
    first
      | refine GL_rd rfl (by decide) (rd_add_ rfl rfl (by omega)) ?_
      | refine GL_rd rfl (by decide) (rd_add rfl rfl) ?_
    refine GL_rd rfl (by decide) (rd_assign rfl) ?_
    refine GL_nil ?_
    refine GE_back ⟨k + 1, p', c'⟩ (by simp only; omega) (show k + 1 ≤ 55 by omega) (fun a k => k.cons rfl (k.cons rfl (k.nil))) (fun w s => by exact row_to s rfl (by simp only; omega) (wd_succ k))
  · first | have p4_ := of_decide_eq_false c4_ | have p4_ := beq_eq_false_iff_ne.1 c4_ | have p4_ := bne_eq_false_iff_eq.1 c4_ | skip
    refine GC_exit ?_
    refine GE_then_exit ?_
    refine GE_then_exit ?_
    refine GE_in_self ?_
    refine GE_then ?_
    refine GC_seq ?_
    refine GC_region ?_
    refine GL_rd rfl (by decide) (rd_move rfl) ?_
    refine GL_rd rfl (by decide) (rd_assign rfl) ?_
    refine GL_nil ?_
    refine GE_then ?_
    refine GC_ret ?_
    refine GE_ret1 (.inl rfl) rfl (res_tmp rfl) fun w_ s_ => ?_
    obtain rfl : k = 55 := by omega
    exact ⟨p, c, rfl, newRow_to (s_.toNew (k := 50) rfl) rfl rfl⟩
end
end Go.Proofs.YtfcklceejjmjeaaGreat
