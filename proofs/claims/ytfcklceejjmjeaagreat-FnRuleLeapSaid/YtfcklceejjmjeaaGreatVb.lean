/-
  The bounds of a rule's numbers are looked at.
-/
import Derived.Test.YtfcklceejjmjeaaGreatProg
import Derived.Test.YtfcklceejjmjeaaGreatMd
import Derived.Test.YtfcklceejjmjeaaGreatFg
import Derived.Test.YtfcklceejjmjeaaGreatBud
set_option linter.unusedVariables false
set_option linter.unusedSimpArgs false
set_option maxRecDepth 100000
set_option maxHeartbeats 8000000
namespace Go.Proofs.YtfcklceejjmjeaaGreat
open Go.RowKit Go.Fr Go.Tab
section
variable {F : Nat → Prop} {w0 : World} {B : List (Nat × Nat)} {H : List (Nat × Value)} {S : List (Nat × Slc)}

open Go.Md
def vbLo (i : Nat) : Int := match i with | 0 => 0 | 1 => 0 | 2 => 0 | 3 => 1 | 4 => 1 | 5 => 1 | 6 => 1 | 7 => 1 | _ => 0
def vbHi (i : Nat) : Int := match i with | 0 => 59 | 1 => 59 | 2 => 23 | 3 => 31 | 4 => 366 | 5 => 53 | 6 => 12 | 7 => 366 | _ => 0
def vbP (i : Nat) : Bool := match i with | 0 => false | 1 => false | 2 => false | 3 => true | 4 => true | 5 => true | 6 => false | 7 => true | _ => false
def vbStr (i : Nat) : Value := match i with | 0 => .string ⟨#[98, 121, 115, 101, 99, 111, 110, 100]⟩ | 1 => .string ⟨#[98, 121, 109, 105, 110, 117, 116, 101]⟩ | 2 => .string ⟨#[98, 121, 104, 111, 117, 114]⟩ | 3 => .string ⟨#[98, 121, 109, 111, 110, 116, 104, 100, 97, 121]⟩ | 4 => .string ⟨#[98, 121, 121, 101, 97, 114, 100, 97, 121]⟩ | 5 => .string ⟨#[98, 121, 119, 101, 101, 107, 110, 111]⟩ | 6 => .string ⟨#[98, 121, 109, 111, 110, 116, 104]⟩ | 7 => .string ⟨#[98, 121, 115, 101, 116, 112, 111, 115]⟩ | _ => .nilIface
def vbL (o : Opn) (i : Nat) : List Int := match i with | 0 => o.second | 1 => o.minute | 2 => o.hour | 3 => o.mday | 4 => o.yday | 5 => o.weekno | 6 => o.month | 7 => o.setpos | _ => []
def vbAp (x : Av) (i : Nat) : Option Addr := match i with | 0 => x.p17 | 1 => x.p16 | 2 => x.p15 | 3 => x.p11 | 4 => x.p12 | 5 => x.p13 | 6 => x.p10 | 7 => x.p9 | _ => none
def vbAc (x : Av) (i : Nat) : Nat := match i with | 0 => x.c17 | 1 => x.c16 | 2 => x.c15 | 3 => x.c11 | 4 => x.c12 | 5 => x.c13 | 6 => x.c10 | 7 => x.c9 | _ => 0
def vbB (bb0 bb1 bb2 bb3 bb4 bb5 bb6 bb7 : Nat) (i : Nat) : Nat := match i with | 0 => bb0 | 1 => bb1 | 2 => bb2 | 3 => bb3 | 4 => bb4 | 5 => bb5 | 6 => bb6 | 7 => bb7 | _ => 0
def vbCs (o : Opn) (x : Av) (bb0 bb1 bb2 bb3 bb4 bb5 bb6 bb7 : Nat) : List Value := [.slice x.p17 (o.second).length x.c17, .string ⟨#[98, 121, 115, 101, 99, 111, 110, 100]⟩, .slice (some ⟨bb0, 0, none⟩) 2 2, .bool false, .slice x.p16 (o.minute).length x.c16, .string ⟨#[98, 121, 109, 105, 110, 117, 116, 101]⟩, .slice (some ⟨bb1, 0, none⟩) 2 2, .bool false, .slice x.p15 (o.hour).length x.c15, .string ⟨#[98, 121, 104, 111, 117, 114]⟩, .slice (some ⟨bb2, 0, none⟩) 2 2, .bool false, .slice x.p11 (o.mday).length x.c11, .string ⟨#[98, 121, 109, 111, 110, 116, 104, 100, 97, 121]⟩, .slice (some ⟨bb3, 0, none⟩) 2 2, .bool true, .slice x.p12 (o.yday).length x.c12, .string ⟨#[98, 121, 121, 101, 97, 114, 100, 97, 121]⟩, .slice (some ⟨bb4, 0, none⟩) 2 2, .bool true, .slice x.p13 (o.weekno).length x.c13, .string ⟨#[98, 121, 119, 101, 101, 107, 110, 111]⟩, .slice (some ⟨bb5, 0, none⟩) 2 2, .bool true, .slice x.p10 (o.month).length x.c10, .string ⟨#[98, 121, 109, 111, 110, 116, 104]⟩, .slice (some ⟨bb6, 0, none⟩) 2 2, .bool false, .slice x.p9 (o.setpos).length x.c9, .string ⟨#[98, 121, 115, 101, 116, 112, 111, 115]⟩, .slice (some ⟨bb7, 0, none⟩) 2 2, .bool true]
theorem vb_cs (o : Opn) (x : Av) {bb0 bb1 bb2 bb3 bb4 bb5 bb6 bb7 : Nat} {i : Nat} (h : i < 8) : (vbCs o x bb0 bb1 bb2 bb3 bb4 bb5 bb6 bb7)[4 * i]? = some (.slice (vbAp x i) (vbL o i).length (vbAc x i)) ∧ (vbCs o x bb0 bb1 bb2 bb3 bb4 bb5 bb6 bb7)[4 * i + 1]? = some (vbStr i) ∧ (vbCs o x bb0 bb1 bb2 bb3 bb4 bb5 bb6 bb7)[4 * i + 2]? = some (.slice (some ⟨vbB bb0 bb1 bb2 bb3 bb4 bb5 bb6 bb7 i, 0, none⟩) 2 2) ∧ (vbCs o x bb0 bb1 bb2 bb3 bb4 bb5 bb6 bb7)[4 * i + 3]? = some (.bool (vbP i)) := by
  have e : i = 0 ∨ i = 1 ∨ i = 2 ∨ i = 3 ∨ i = 4 ∨ i = 5 ∨ i = 6 ∨ i = 7 := by omega
  rcases e with rfl | rfl | rfl | rfl | rfl | rfl | rfl | rfl <;> exact ⟨rfl, rfl, rfl, rfl⟩
/-- A number within its bounds. -/
def inB (lo hi : Int) (pm : Bool) (y : Int) : Prop := (lo ≤ y ∧ y ≤ hi) ∨ (pm = true ∧ -hi ≤ y ∧ y ≤ -lo)
structure VbOk (o : Opn) : Prop where
  nums : ∀ i, i < 8 → ∀ y ∈ vbL o i, inB (vbLo i) (vbHi i) (vbP i) y
  days : ∀ y ∈ o.wday, -53 ≤ y.2 ∧ y.2 ≤ 53
  interval : 0 ≤ o.interval
  lens : ∀ i, i < 8 → (vbL o i).length ≤ 1000000000
  wlen : o.wday.length ≤ 1000000000
theorem vb1_calls {b k : Nat} {lo hi y : Int} {pm : Bool} {ps : Value} (hrow : lkp k S = some ⟨.slice (some ⟨b, 0, none⟩) 2 2, 3, 1, 2, [.int .i64 lo, .int .i64 hi]⟩) (hb : 0 ≤ lo ∧ lo ≤ 1000 ∧ 0 ≤ hi ∧ hi ≤ 1000) (hin : inB lo hi pm y) :
    ∀ w, Sees F w0 B H S w → Calls Go.Proofs.Tryz.prog 28 #[ps, .int .i64 y, .slice (some ⟨b, 0, none⟩) 2 2, .bool pm] w fun e w' => e = .returned .nilIface ∧ Sees F w0 B H S w' := by
  intro w s
  refine calls_GC (args := [ps, .int .i64 y, .slice (some ⟨b, 0, none⟩) 2 2, .bool pm]) (L := [(0, ps), (1, .int .i64 y), (2, .slice (some ⟨b, 0, none⟩) 2 2), (3, .bool pm)]) (N := 44) Tryz.func28 rfl rfl (Nat.le_of_ble_eq_true rfl) rfl s ?_
  refine GC_seq ?_
  refine GC_region ?_
  refine GL_rd rfl (by decide) (rd_assign rfl) ?_
  refine GL_nil ?_
  refine GE_then ?_
  refine GC_seq ?_
  refine GC_seq ?_
  rcases Decidable.em (lo ≤ y) with h1 | h1
  · skip
    rcases Decidable.em (y ≤ hi) with h2 | h2
    · skip
      refine GC_region ?_
      refine GL_rd rfl (by decide) (rd_move rfl) ?_
      refine GL_rd rfl (by decide) (rd_move rfl) ?_
      refine GL_rd rfl (by decide) (rd_indexAddr (e := 3) (n := 1) (by kernel_rfl) rfl rfl (by decide) (by decide)) ?_
      refine GL_rd rfl (by decide) (rd_load_row k rfl hrow rfl rfl (by kernel_rfl)) ?_
      refine GL_rd rfl (by decide) ((rd_geq rfl rfl).to (v' := .bool true) (congrArg Value.bool (decide_eq_true h1))) ?_
      refine GL_rd rfl (by decide) (rd_move rfl) ?_
      refine GL_take rfl rfl ?_
      refine GL_rd rfl (by decide) (rd_move rfl) ?_
      refine GL_take rfl rfl ?_
      refine GL_rd rfl (by decide) (rd_move rfl) ?_
      refine GL_take rfl rfl ?_
      refine GL_rd rfl (by decide) (rd_indexAddr (e := 3) (n := 1) (by kernel_rfl) rfl rfl (by decide) (by decide)) ?_
      refine GL_take rfl rfl ?_
      refine GL_rd rfl (by decide) (rd_load_row k rfl hrow rfl rfl (by kernel_rfl)) ?_
      refine GL_take rfl rfl ?_
      refine GL_rd rfl (by decide) ((rd_leq rfl rfl).to (v' := .bool true) (congrArg Value.bool (decide_eq_true h2))) ?_
      refine GL_rd rfl (by decide) (rd_pick rfl rfl rfl) ?_
      refine GL_rd rfl (by decide) ((rd_not rfl).to (v' := .bool false) (congrArg Value.bool (rfl))) ?_
      refine GL_rd rfl (by decide) (rd_move rfl) ?_
      refine GL_pass (by decide) rfl rfl (by decide) ?_
      refine GL_pass (by decide) rfl rfl (by decide) ?_
      refine GL_pass (by decide) rfl rfl (by decide) ?_
      refine GL_passu (by decide) rfl rfl ?_
      refine GL_passu (by decide) rfl rfl ?_
      refine GL_passu (by decide) rfl rfl ?_
      refine GL_passu (by decide) rfl rfl ?_
      refine GL_passu (by decide) rfl rfl ?_
      refine GL_passu (by decide) rfl rfl ?_
      refine GL_passu (by decide) rfl rfl ?_
      refine GL_passu (by decide) rfl rfl ?_
      refine GL_passu (by decide) rfl rfl ?_
      refine GL_passu (by decide) rfl rfl ?_
      refine GL_passu (by decide) rfl rfl ?_
      refine GL_passu (by decide) rfl rfl ?_
      refine GL_passu (by decide) rfl rfl ?_
      refine GL_passu (by decide) rfl rfl ?_
      refine GL_passu (by decide) rfl rfl ?_
      refine GL_pass (by decide) rfl rfl (by decide) ?_
      refine GL_rd rfl (by decide) (rd_pick rfl rfl rfl) ?_
      refine GL_nil ?_
      refine GE_then ?_
      refine GC_is_false rfl rfl ?_
      refine GC_skip ?_
      refine GE_then ?_
      refine GC_seq ?_
      refine GC_region ?_
      refine GL_rd rfl (by decide) (rd_assign rfl) ?_
      refine GL_nil ?_
      refine GE_then ?_
      refine GC_ret ?_
      refine GE_ret1 (.inl rfl) rfl (res_tmp rfl) fun w s => ⟨rfl, s⟩
    · obtain ⟨hpm, h3, h4⟩ : pm = true ∧ -hi ≤ y ∧ y ≤ -lo := by rcases hin with h | h; exact absurd h.2 h2; exact h
      refine GC_region ?_
      refine GL_rd rfl (by decide) (rd_move rfl) ?_
      refine GL_rd rfl (by decide) (rd_move rfl) ?_
      refine GL_rd rfl (by decide) (rd_indexAddr (e := 3) (n := 1) (by kernel_rfl) rfl rfl (by decide) (by decide)) ?_
      refine GL_rd rfl (by decide) (rd_load_row k rfl hrow rfl rfl (by kernel_rfl)) ?_
      refine GL_rd rfl (by decide) ((rd_geq rfl rfl).to (v' := .bool true) (congrArg Value.bool (decide_eq_true h1))) ?_
      refine GL_rd rfl (by decide) (rd_move rfl) ?_
      refine GL_take rfl rfl ?_
      refine GL_rd rfl (by decide) (rd_move rfl) ?_
      refine GL_take rfl rfl ?_
      refine GL_rd rfl (by decide) (rd_move rfl) ?_
      refine GL_take rfl rfl ?_
      refine GL_rd rfl (by decide) (rd_indexAddr (e := 3) (n := 1) (by kernel_rfl) rfl rfl (by decide) (by decide)) ?_
      refine GL_take rfl rfl ?_
      refine GL_rd rfl (by decide) (rd_load_row k rfl hrow rfl rfl (by kernel_rfl)) ?_
      refine GL_take rfl rfl ?_
      refine GL_rd rfl (by decide) ((rd_leq rfl rfl).to (v' := .bool false) (congrArg Value.bool (decide_eq_false h2))) ?_
      refine GL_rd rfl (by decide) (rd_pick rfl rfl rfl) ?_
      refine GL_rd rfl (by decide) ((rd_not rfl).to (v' := .bool true) (congrArg Value.bool (rfl))) ?_
      refine GL_rd rfl (by decide) (rd_move rfl) ?_
      refine GL_take rfl rfl ?_
      refine GL_rd rfl (by decide) (rd_move rfl) ?_
      refine GL_take rfl rfl ?_
      refine GL_rd rfl (by decide) ((rd_not rfl).to (v' := .bool false) (congrArg Value.bool (by rw [hpm]; rfl))) ?_
      refine GL_take rfl rfl ?_
      refine GL_rd rfl (by decide) (rd_move rfl) ?_
      refine GL_take rfl rfl ?_
      refine GL_rd rfl (by decide) (rd_move rfl) ?_
      refine GL_take rfl rfl ?_
      refine GL_rd rfl (by decide) (rd_move rfl) ?_
      refine GL_take rfl rfl ?_
      refine GL_rd rfl (by decide) (rd_indexAddr (e := 3) (n := 1) (by kernel_rfl) rfl rfl (by decide) (by decide)) ?_
      refine GL_take rfl rfl ?_
      refine GL_rd rfl (by decide) (rd_load_row k rfl hrow rfl rfl (by kernel_rfl)) ?_
      refine GL_take rfl rfl ?_
      first
        | refine GL_rd rfl (by decide) (rd_neg_ rfl (by omega)) ?_
        | refine GL_rd rfl (by decide) (rd_neg rfl) ?_
      refine GL_take rfl rfl ?_
      refine GL_rd rfl (by decide) ((rd_leq rfl rfl).to (v' := .bool true) (congrArg Value.bool (decide_eq_true (by omega)))) ?_
      refine GL_take rfl rfl ?_
      refine GL_rd rfl (by decide) (rd_move rfl) ?_
      refine GL_take rfl rfl ?_
      refine GL_rd rfl (by decide) (rd_move rfl) ?_
      refine GL_take rfl rfl ?_
      refine GL_rd rfl (by decide) (rd_move rfl) ?_
      refine GL_take rfl rfl ?_
      refine GL_rd rfl (by decide) (rd_indexAddr (e := 3) (n := 1) (by kernel_rfl) rfl rfl (by decide) (by decide)) ?_
      refine GL_take rfl rfl ?_
      refine GL_rd rfl (by decide) (rd_load_row k rfl hrow rfl rfl (by kernel_rfl)) ?_
      refine GL_take rfl rfl ?_
      first
        | refine GL_rd rfl (by decide) (rd_neg_ rfl (by omega)) ?_
        | refine GL_rd rfl (by decide) (rd_neg rfl) ?_
      refine GL_take rfl rfl ?_
      refine GL_rd rfl (by decide) ((rd_geq rfl rfl).to (v' := .bool true) (congrArg Value.bool (decide_eq_true (by omega)))) ?_
      refine GL_take rfl rfl ?_
      refine GL_rd rfl (by decide) (rd_pick rfl rfl rfl) ?_
      refine GL_take rfl rfl ?_
      refine GL_rd rfl (by decide) ((rd_not rfl).to (v' := .bool false) (congrArg Value.bool (rfl))) ?_
      refine GL_take rfl rfl ?_
      refine GL_rd rfl (by decide) (rd_pick rfl rfl rfl) ?_
      refine GL_rd rfl (by decide) (rd_pick rfl rfl rfl) ?_
      refine GL_nil ?_
      refine GE_then ?_
      refine GC_is_false rfl rfl ?_
      refine GC_skip ?_
      refine GE_then ?_
      refine GC_seq ?_
      refine GC_region ?_
      refine GL_rd rfl (by decide) (rd_assign rfl) ?_
      refine GL_nil ?_
      refine GE_then ?_
      refine GC_ret ?_
      refine GE_ret1 (.inl rfl) rfl (res_tmp rfl) fun w s => ⟨rfl, s⟩
  · obtain ⟨hpm, h3, h4⟩ : pm = true ∧ -hi ≤ y ∧ y ≤ -lo := by rcases hin with h | h; exact absurd h.1 h1; exact h
    refine GC_region ?_
    refine GL_rd rfl (by decide) (rd_move rfl) ?_
    refine GL_rd rfl (by decide) (rd_move rfl) ?_
    refine GL_rd rfl (by decide) (rd_indexAddr (e := 3) (n := 1) (by kernel_rfl) rfl rfl (by decide) (by decide)) ?_
    refine GL_rd rfl (by decide) (rd_load_row k rfl hrow rfl rfl (by kernel_rfl)) ?_
    refine GL_rd rfl (by decide) ((rd_geq rfl rfl).to (v' := .bool false) (congrArg Value.bool (decide_eq_false h1))) ?_
    refine GL_rd rfl (by decide) (rd_move rfl) ?_
    refine GL_pass (by decide) rfl rfl (by decide) ?_
    refine GL_pass (by decide) rfl rfl (by decide) ?_
    refine GL_pass (by decide) rfl rfl (by decide) ?_
    refine GL_pass (by decide) rfl rfl (by decide) ?_
    refine GL_pass (by decide) rfl rfl (by decide) ?_
    refine GL_rd rfl (by decide) (rd_pick rfl rfl rfl) ?_
    refine GL_rd rfl (by decide) ((rd_not rfl).to (v' := .bool true) (congrArg Value.bool (rfl))) ?_
    refine GL_rd rfl (by decide) (rd_move rfl) ?_
    refine GL_take rfl rfl ?_
    refine GL_rd rfl (by decide) (rd_move rfl) ?_
    refine GL_take rfl rfl ?_
    refine GL_rd rfl (by decide) ((rd_not rfl).to (v' := .bool false) (congrArg Value.bool (by rw [hpm]; rfl))) ?_
    refine GL_take rfl rfl ?_
    refine GL_rd rfl (by decide) (rd_move rfl) ?_
    refine GL_take rfl rfl ?_
    refine GL_rd rfl (by decide) (rd_move rfl) ?_
    refine GL_take rfl rfl ?_
    refine GL_rd rfl (by decide) (rd_move rfl) ?_
    refine GL_take rfl rfl ?_
    refine GL_rd rfl (by decide) (rd_indexAddr (e := 3) (n := 1) (by kernel_rfl) rfl rfl (by decide) (by decide)) ?_
    refine GL_take rfl rfl ?_
    refine GL_rd rfl (by decide) (rd_load_row k rfl hrow rfl rfl (by kernel_rfl)) ?_
    refine GL_take rfl rfl ?_
    first
      | refine GL_rd rfl (by decide) (rd_neg_ rfl (by omega)) ?_
      | refine GL_rd rfl (by decide) (rd_neg rfl) ?_
    refine GL_take rfl rfl ?_
    refine GL_rd rfl (by decide) ((rd_leq rfl rfl).to (v' := .bool true) (congrArg Value.bool (decide_eq_true (by omega)))) ?_
    refine GL_take rfl rfl ?_
    refine GL_rd rfl (by decide) (rd_move rfl) ?_
    refine GL_take rfl rfl ?_
    refine GL_rd rfl (by decide) (rd_move rfl) ?_
    refine GL_take rfl rfl ?_
    refine GL_rd rfl (by decide) (rd_move rfl) ?_
    refine GL_take rfl rfl ?_
    refine GL_rd rfl (by decide) (rd_indexAddr (e := 3) (n := 1) (by kernel_rfl) rfl rfl (by decide) (by decide)) ?_
    refine GL_take rfl rfl ?_
    refine GL_rd rfl (by decide) (rd_load_row k rfl hrow rfl rfl (by kernel_rfl)) ?_
    refine GL_take rfl rfl ?_
    first
      | refine GL_rd rfl (by decide) (rd_neg_ rfl (by omega)) ?_
      | refine GL_rd rfl (by decide) (rd_neg rfl) ?_
    refine GL_take rfl rfl ?_
    refine GL_rd rfl (by decide) ((rd_geq rfl rfl).to (v' := .bool true) (congrArg Value.bool (decide_eq_true (by omega)))) ?_
    refine GL_take rfl rfl ?_
    refine GL_rd rfl (by decide) (rd_pick rfl rfl rfl) ?_
    refine GL_take rfl rfl ?_
    refine GL_rd rfl (by decide) ((rd_not rfl).to (v' := .bool false) (congrArg Value.bool (rfl))) ?_
    refine GL_take rfl rfl ?_
    refine GL_rd rfl (by decide) (rd_pick rfl rfl rfl) ?_
    refine GL_rd rfl (by decide) (rd_pick rfl rfl rfl) ?_
    refine GL_nil ?_
    refine GE_then ?_
    refine GC_is_false rfl rfl ?_
    refine GC_skip ?_
    refine GE_then ?_
    refine GC_seq ?_
    refine GC_region ?_
    refine GL_rd rfl (by decide) (rd_assign rfl) ?_
    refine GL_nil ?_
    refine GE_then ?_
    refine GC_ret ?_
    refine GE_ret1 (.inl rfl) rfl (res_tmp rfl) fun w s => ⟨rfl, s⟩
end
end Go.Proofs.YtfcklceejjmjeaaGreat
