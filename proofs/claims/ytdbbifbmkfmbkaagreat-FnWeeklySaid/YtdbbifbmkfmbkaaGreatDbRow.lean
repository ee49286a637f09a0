/-
  The first dates of a right weekly rule are those of the reference, week by week: for every rule and every number that come in the law returns true, and its arguments read as before; without conditions.
-/
import Derived.Test.YtdbbifbmkfmbkaaGreatDak
import Derived.Test.YtdbbifbmkfmbkaaGreatRows
import Derived.WalkKit
import Derived.ProofKit
import Derived.OpenShut
import Derived.Carry
set_option linter.unusedVariables false
set_option maxRecDepth 100000
set_option maxHeartbeats 8000000
namespace Go.Proofs.YtdbbifbmkfmbkaaGreat
open Go.RowKit Go.Fr Go.Tab
section
variable {F : Nat → Prop} {w0 : World} {B : List (Nat × Nat)} {H : List (Nat × Value)} {S : List (Nat × Slc)}
open Go.Md
theorem weekly_walk (r : Rul) (x : Av) (a : Int) (ha : 0 ≤ a ∧ a < 256) (w : World) (hr : RIn w r x) : Calls Go.Proofs.Tryz.prog 5 #[.agg (rulC r x).toArray, .int .u8 a] w fun e w' => e = .returned (.bool true) ∧ Below w.heap.size w w' := by
  refine calls_GC (args := [.agg (rulC r x).toArray, .int .u8 a]) (L := [(0, .agg (rulC r x).toArray), (1, .int .u8 a)]) (N := 11) Tryz.func5 rfl rfl ble rfl (Sees.start (fun _ => False) w) ?_
  refine g2 ?_
  refine gL (at_box 50 (cs := rulC r x) (by decide) rfl rfl rfl (fun o ho => rfl) ble (fun b1 hb1 => ?_))
  refine g6 ?_
  refine rl ((rd_loadN 50 (cs := rulC r x) rfl rfl (put_get (rulC r x) 0 ble) ble (by kernel_rfl))) ?_
  refine gL (cbx (fun b : Bool => .bool b) (fun b => b = true → LenL r) rfl (fun w_ s_ => fits1_calls r x w_) (fun zb hzb => ?_))
  refine g3 ?_
  refine GC_cond rfl (fun hc1 => ?_) (fun hc2 => ?_)
  · skip
    refine g7 ?_
    exact GE_ret1 (.inl rfl) rfl (res_tmp rfl) fun w_ s_ => ⟨rfl, s_.toBelow⟩
  · skip
    have hl : LenL r := hzb (by simpa using hc2)
    refine g4 ?_
    refine rl ((rd_loadN 50 (cs := rulC r x) rfl rfl (put_get (rulC r x) 0 ble) ble (by kernel_rfl))) ?_
    refine g1 ?_
    refine gL (cvo (v := .bool true) rfl (fun w_ s_ => same_calls r x hr.freq.1 hl (CapL.of hr) 2 a ha (dayF := dayIn2 (fullR r)) (dayU := dayIn2 (fullR (noUntil r))) (fun rp hq => dayOk2 (r := noUntil r) ⟨by show 2 ≤ r.freq; omega, rp.t1.freq.2⟩ (show r.yday.length = 0 ∧ r.weekno.length = 0 ∧ r.easter.length = 0 from right_two rp (by omega)) (noUntil_len hl)) (fun rp hq => dayOk2 ⟨by omega, rp.t1.freq.2⟩ (right_two rp (by omega)) hl) (fun rp hq => first_ref23 rp (by omega)) w_ (InL.see s_ hr.inl)) ?_)
    refine g4 ?_
    exact GE_ret1 (.inl rfl) rfl (res_tmp rfl) fun w_ s_ => ⟨rfl, s_.toBelow⟩
end
end Go.Proofs.YtdbbifbmkfmbkaaGreat
namespace Go.Proofs.YtdbbifbmkfmbkaaGreat.fnWeekly
open Go.ChangeShapes Go.WideShapes Go.ChangeAt Go.RowKit Go.Fr
set_option linter.unusedVariables false

theorem post_of_keep {H : Type} {enc : TypeId × Value → H} {P : Program} {f : Func} {s : ChangeSpec} {apart fresh handsOn : Bool} {W W' : World} {args : Array Value} {v : Value} {ds gs : List (DataW H)} {before pa pv : List MemPlace}
    (hW : DataW.Whole enc P f.params.toList s.vars apart W args.toList ds gs before)
    (hres : ∀ (b : Nat) (sp : Nat → Bool) (hd : Bool), DataW.TrodAll enc P W' b sp hd f.resultTypes.toList (v.resultList f.resultTypes.size) (s.fn H (ds ++ gs)).results [])
    (hargs : DataW.TrodAll enc P W' 0 (fun b => decide (b < W.heap.size)) true f.params.toList args.toList (s.fn H (ds ++ gs)).args pa)
    (hvars : ∀ sp : Nat → Bool, (∀ p ∈ before, sp p.block = true) → DataW.TrodVars enc P W' sp s.vars (s.fn H (ds ++ gs)).vars pv)
    (hps : before = pa ++ pv) (hk : W.keptBut W' (· ∈ before)) :
    s.post enc P f apart fresh handsOn false W args v W' := by
  have hold : ∀ p ∈ before, (fun b => decide (b < W.heap.size)) p.block = true := fun p hp => by simpa using hW.lt p hp
  refine ⟨ds, gs, before, [], pa, pv, hW, hres _ _ _, hargs, hvars _ hold, World.keptBut_mono (fun p hp => ⟨hp, ?_⟩) hk, fun h => (by cases h)⟩
  rw [hps, List.mem_append] at hp
  exact Or.inr hp
theorem own : ownKnob Tryz.prog.godebug = none := by kernel_rfl
theorem laid : laidOutB Tryz.prog = true := by kernel_rfl

set_option maxRecDepth 100000 in
theorem lifted (os : Os) (started : os.Started) (H : Type) (enc : TypeId × Value → H) :
    ReturnsInHanded {} Tryz.checked os 5 .any (Rows.fnWeeklySpec.pre6 enc Tryz.prog Tryz.f5 Rows.fnWeeklyRow.domain false) (Rows.fnWeeklySpec.post enc Tryz.prog Tryz.f5 false true false false) := by
  refine returnsInHanded_of_change (C := Tryz.checked) own started (by kernel_rfl) Tryz.func5
    (ChangeSpec.witness6 (enc := enc) (C := Tryz.checked) false ⟨#[], #[.agg #[.int .u8 0, .bool false, .int .i64 0, .int .i64 0, .int .i64 0, .int .i64 0, .bool false, .int .i64 0, .slice none 0 0, .slice none 0 0, .slice none 0 0, .slice none 0 0, .slice none 0 0, .slice none 0 0, .slice none 0 0, .slice none 0 0, .slice none 0 0, .slice none 0 0], .int .u8 0], []⟩ 8 (by kernel_rfl) (by kernel_rfl) (by kernel_rfl) (by kernel_rfl)) ?_
  intro W base args ds gs before hval0 hW hcnd _
  have hval : ∀ (j : Nat) t v, Tryz.f5.params[j]? = some t → args[j]? = some v → Value.okWide Tryz.prog W .any base t v := hval0
  have hW' := hW
  have hltW := hW.lt
  obtain ⟨p, q, hA0, hV, rfl, hfz, hnd⟩ := hW
  have hA : DataW.TrodAll enc Tryz.prog W 0 (fun _ => true) true Tryz.f5.params.toList args.toList ds p := hA0
  rw [Tryz.params5] at hA hval
  obtain ⟨v0, vs0, d0, ds0, p0, q0, hargs, rfl, rfl, h0, r0⟩ := trodAll_cons hA
  obtain ⟨v1, vs1, d1, ds1, p1, q1, rfl, rfl, rfl, h1, r1⟩ := trodAll_cons r0
  obtain ⟨rfl, rfl, rfl⟩ := trodAll_nil r1
  obtain rfl : args = #[v0, v1] := by cases args; simp_all
  obtain ⟨rfl, rfl⟩ := trodVars_none hV
  have h0k := h0
  obtain ⟨r0_, x0_, rfl, rin0⟩ := open_rule (hval 0 27 v0 rfl rfl) h0
  obtain ⟨a1, rfl, rfl, rfl, w1⟩ := open_int Tryz.underlying5 (hval 1 5 v1 rfl rfl) h1
  clear hA0 hval0
  have b1 : 0 ≤ a1 ∧ a1 < 256 := by have := wf8 w1; omega
  simp only [List.append_nil] at hW' hltW
  refine (weekly_walk r0_ x0_ a1 b1 W rin0).mono fun e W' ⟨he, hg⟩ => ?_
  subst he
  exact ⟨_, rfl, post_of_keep (pv := []) hW' (fun _ _ _ => (trodAll_cons_mk (shut_bool Tryz.underlying4 _) trodAll_mk0)) (trodAll_cons_mk (Below.trod laid (by kernel_rfl) (of_decide_eq_true (by kernel_rfl)) h0k hg (fun z hz => hltW z (by simp [hz]))) (trodAll_cons_mk (shut_int Tryz.underlying5 w1) trodAll_mk0)) (fun _ _ => rfl) (by simp)
    (hg.frame _)⟩

theorem over : Rows.fnWeeklyRow.holds Tryz.pinned (OpenSpec.ofChange Rows.fnWeeklySpec) :=
  OpenClaim.holds_of_wide 5 Tryz.f5 rfl rfl rfl rfl rfl rfl rfl ⟨rfl, rfl, rfl, rfl, rfl⟩ rfl rfl rfl rfl rfl (by kernel_rfl) Tryz.func5 (by kernel_rfl)
    (of_decide_eq_true (by kernel_rfl)) (by unfold Func.isWrapper; first | (rw [if_pos (by decide +kernel)]; kernel_rfl) | (rw [if_neg (by decide +kernel)]; exact ⟨rfl, rfl⟩))
    (fun os started H enc _ => lifted os started H enc)
/-- The statement. -/
theorem proved : Rows.FnWeeklySaid :=
  over
#print axioms proved
end Go.Proofs.YtdbbifbmkfmbkaaGreat.fnWeekly
