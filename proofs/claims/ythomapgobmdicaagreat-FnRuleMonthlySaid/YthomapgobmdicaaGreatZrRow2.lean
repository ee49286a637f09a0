/-
  FnRuleMonthly: the first dates of a right rule by months are those of the reference.
-/
import Derived.Test.YthomapgobmdicaaGreatZrm
import Derived.Test.YthomapgobmdicaaGreatRows
import Derived.WalkKit
import Derived.ProofKit
import Derived.OpenShut
import Derived.Carry
set_option linter.unusedVariables false
set_option linter.unusedSimpArgs false
set_option maxRecDepth 100000
set_option maxHeartbeats 8000000
namespace Go.Proofs.YthomapgobmdicaaGreat
open Go.RowKit Go.Fr Go.Tab
open Go.Md
section
variable {F : Nat -> Prop} {w0 : World} {B : LN} {H : LV} {S : LS}
theorem rmonthly_walk (r : Rul) (x : Av) (a : Int) (ha : 0 <= a /\ a < 256) (w : World) (hr : RIn w r x) : CB 5 #[.agg (bG r x).toArray, .int .u8 a] w (.bool true) := by
 have hfb := hr.aP2.1
 have hcap := CapL.of hr
 have hin := hr.inl
 refine aF (args := [.agg (bG r x).toArray, .int .u8 a]) (L := [(0, .agg (bG r x).toArray), (1, .int .u8 a)]) (N := 20) Tryz.func5 rfl rfl ble rfl (sS w) (g2 ?_)
 refine gL (fU 50 (cs := bG r x) dE rfl rfl rfl (fun o ho => rfl) ble (fun b1 hb1 => g6 ?_))
 refine rl ((dC 50 (cs := bG r x) rfl rfl (eD (bG r x) 0 ble) ble kR)) (gL (cbx (fun b : Bool => .bool b) (fun b => b = true -> LenL r) rfl (fun w_ s_ => qD r x w_) (fun zb hzb => g3 ?_)))
 refine aB rfl (fun hc1 => ?_) (fun hc2 => ?_)
 .refine g7 ?_
  exact gR rfl fun w_ s_ => ⟨rfl, s_.aPg⟩
 .have hl : LenL r := hzb (by simpa using hc2)
  refine g7 ?_
  by_cases hfn : r.aP2 ≠ 1
  .refine rl ((cF rfl rfl).to (v' := .bool true) (cB (iW oM))) (g7 ?_)
   refine bK rfl rfl ?_
   refine g2 ?_
   refine gL (cvo rfl (fun w_ s_ => jI w_) (g5 ?_))
   exact gR rfl fun w_ s_ => ⟨rfl, s_.aPg⟩
  .have hfq : r.aP2 = 1 := by omega
   refine rZ2 ((cF rfl rfl).to (v' := .bool false) (cB (jA oM))) ?_
   refine rZ1 ((dC 50 (cs := bG r x) rfl rfl (eD (bG r x) 0 ble) ble kR)) ?_
   refine gL (cbx (fun b : Bool => .bool b) (fun b => b = true -> RightP r) rfl (fun w_ s_ => pS r x hfb hl hcap w_ (InL.see s_ hin)) (fun rb hrp => g1 ?_))
   rcases bO ((!rb)) with hrb | hrb
   .refine rl ((gX rfl).to (v' := .bool true) (cB hrb)) (g3 ?_)
    refine bK rfl rfl ?_
    refine g2 ?_
    refine gL (cvo rfl (fun w_ s_ => jI w_) (g5 ?_))
    exact gR rfl fun w_ s_ => ⟨rfl, s_.aPg⟩
   .have hR : RightP r := hrp (by simpa using hrb)
    refine rl ((gX rfl).to (v' := .bool false) (cB hrb)) (g3 ?_)
    refine aU rfl rfl ?_
    refine g4 ?_
    refine rZ1 ((dC 50 (cs := bG r x) rfl rfl (eD (bG r x) 0 ble) ble kR)) ?_
    refine gL (cvo (v := .bool true) rfl (fun w_ s_ => s5 r x hfb hl hcap hR a ha (aA0 hR oM hl) (fun rp => qM rp oM) w_ (InL.see s_ hin)) (g4 ?_))
    exact gR rfl fun w_ s_ => ⟨rfl, s_.aPg⟩
end
end Go.Proofs.YthomapgobmdicaaGreat
namespace Go.Proofs.YthomapgobmdicaaGreat.fnRuleMonthly
open Go.ChangeShapes Go.WideShapes Go.ChangeAt Go.RowKit Go.Fr
set_option linter.unusedVariables false

theorem post_of_keep {H : Type} {enc : TypeId × Value → H} {P : Program} {f : Func} {s : ChangeSpec} {apart fresh handsOn : Bool} {W W' : World} {args : Array Value} {v : Value} {ds gs : List (DataW H)} {before pa pv : List MemPlace}
    (hW : DataW.Whole enc P f.params.toList s.vars apart W args.toList ds gs before)
    (hres : ∀ (b : Nat) (sp : Nat → Bool) (hd : Bool), DataW.TrodAll enc P W' b sp hd f.resultTypes.toList (v.resultList f.resultTypes.size) (s.fn H (ds ++ gs)).results [])
    (hargs : DataW.TrodAll enc P W' 0 (fun b => decide (b < W.heap.size)) true f.params.toList args.toList (s.fn H (ds ++ gs)).args pa)
    (hvars : ∀ sp : Nat → Bool, (∀ p ∈ before, sp p.block = true) → DataW.TrodVars enc P W' sp s.vars (s.fn H (ds ++ gs)).vars pv)
    (hps : before = pa ++ pv) (hk : W.keptBut W' (· ∈ before)) :
    s.post enc P f apart fresh handsOn false W args v W' := by
  have hold : ∀ p ∈ before, (fun b => decide (b < W.heap.size)) p.block = true := fun p hp => by simpa using hW.lt p hp
  refine ⟨ds, gs, before, [], pa, pv, hW, hres _ _ _, hargs, hvars _ hold, World.keptBut_mono (fun p hp => ⟨hp, ?_⟩) hk, fun h => (by cases h)⟩
  rw [hps, List.mem_append] at hp
  exact Or.inr hp
theorem own : ownKnob Tryz.prog.godebug = none := by kernel_rfl
theorem laid : laidOutB Tryz.prog = true := by kernel_rfl

set_option maxRecDepth 100000 in
theorem lifted (os : Os) (started : os.Started) (H : Type) (enc : TypeId × Value → H) :
    ReturnsInHanded {} Tryz.checked os 5 .any (Rows.fnRuleMonthlySpec.pre6 enc Tryz.prog Tryz.f5 Rows.fnRuleMonthlyRow.domain false) (Rows.fnRuleMonthlySpec.post enc Tryz.prog Tryz.f5 false true false false) := by
  refine returnsInHanded_of_change (C := Tryz.checked) own started (by kernel_rfl) Tryz.func5
    (ChangeSpec.witness6 (enc := enc) (C := Tryz.checked) false ⟨#[], #[.agg #[.int .u8 0, .bool false, .int .i64 0, .int .i64 0, .int .i64 0, .int .i64 0, .bool false, .int .i64 0, .slice none 0 0, .slice none 0 0, .slice none 0 0, .slice none 0 0, .slice none 0 0, .slice none 0 0, .slice none 0 0, .slice none 0 0, .slice none 0 0, .slice none 0 0], .int .u8 0], []⟩ 8 (by kernel_rfl) (by kernel_rfl) (by kernel_rfl) (by kernel_rfl)) ?_
  intro W base args ds gs before hval0 hW hcnd _
  have hval : ∀ (j : Nat) t v, Tryz.f5.params[j]? = some t → args[j]? = some v → Value.okWide Tryz.prog W .any base t v := hval0
  have hW' := hW
  have hltW := hW.lt
  obtain ⟨p, q, hA0, hV, rfl, hfz, hnd⟩ := hW
  have hA : DataW.TrodAll enc Tryz.prog W 0 (fun _ => true) true Tryz.f5.params.toList args.toList ds p := hA0
  rw [Tryz.params5] at hA hval
  obtain ⟨v0, vs0, d0, ds0, p0, q0, hargs, rfl, rfl, h0, r0⟩ := trodAll_cons hA
  obtain ⟨v1, vs1, d1, ds1, p1, q1, rfl, rfl, rfl, h1, r1⟩ := trodAll_cons r0
  obtain ⟨rfl, rfl, rfl⟩ := trodAll_nil r1
  obtain rfl : args = #[v0, v1] := by cases args; simp_all
  obtain ⟨rfl, rfl⟩ := trodVars_none hV
  have h0k := h0
  obtain ⟨r0_, x0_, rfl, rin0⟩ := open_rule (hval 0 25 v0 rfl rfl) h0
  obtain ⟨a1, rfl, rfl, rfl, w1⟩ := open_int Tryz.underlying5 (hval 1 5 v1 rfl rfl) h1
  clear hA0 hval0
  have b1 : 0 ≤ a1 ∧ a1 < 256 := by have := wf8 w1; omega
  simp only [List.append_nil] at hW' hltW
  refine (rmonthly_walk r0_ x0_ a1 b1 W rin0).mono fun e W' ⟨he, hg⟩ => ?_
  subst he
  exact ⟨_, rfl, post_of_keep (pv := []) hW' (fun _ _ _ => (trodAll_cons_mk (shut_bool Tryz.underlying4 _) trodAll_mk0)) (trodAll_cons_mk (Below.trod laid (by kernel_rfl) (of_decide_eq_true (by kernel_rfl)) h0k hg (fun z hz => hltW z (by simp [hz]))) (trodAll_cons_mk (shut_int Tryz.underlying5 w1) trodAll_mk0)) (fun _ _ => rfl) (by simp)
    (hg.frame _)⟩

theorem over : Rows.fnRuleMonthlyRow.holds Tryz.pinned (OpenSpec.ofChange Rows.fnRuleMonthlySpec) :=
  OpenClaim.holds_of_wide 5 Tryz.f5 rfl rfl rfl rfl rfl rfl rfl ⟨rfl, rfl, rfl, rfl, rfl⟩ rfl rfl rfl rfl rfl (by kernel_rfl) Tryz.func5 (by kernel_rfl)
    (of_decide_eq_true (by kernel_rfl)) (by unfold Func.isWrapper; first | (rw [if_pos (by decide +kernel)]; kernel_rfl) | (rw [if_neg (by decide +kernel)]; exact ⟨rfl, rfl⟩))
    (fun os started H enc _ => lifted os started H enc)
/-- The statement. -/
theorem proved : Rows.FnRuleMonthlySaid :=
  over
#print axioms proved
end Go.Proofs.YthomapgobmdicaaGreat.fnRuleMonthly
