/-
  FnRising: the dates of a rule rise, none is ahead of its start, behind its until, or beyond its count.
-/
import Derived.Test.YthomapgobmdicaaGreatZrm
import Derived.Test.YthomapgobmdicaaGreatRows
import Derived.WalkKit
import Derived.ProofKit
import Derived.OpenShut
import Derived.Carry
set_option linter.unusedVariables false
set_option linter.unusedSimpArgs false
set_option maxRecDepth 100000
set_option maxHeartbeats 8000000
namespace Go.Proofs.YthomapgobmdicaaGreat
open Go.RowKit Go.Fr Go.Tab
open Go.Md
section
variable {F : Nat -> Prop} {w0 : World} {B : LN} {H : LV} {S : LS}
theorem rising_walk (r : Rul) (x : Av) (w : World) (hr : RIn w r x) : CB 3 #[.agg (bG r x).toArray] w (.bool true) := by
 have hfb := hr.aP2.1
 have hcap := CapL.of hr
 have hin := hr.inl
 refine aF (args := [.agg (bG r x).toArray]) (L := [(0, .agg (bG r x).toArray)]) (N := 71) Tryz.func3 rfl rfl ble rfl (sS w) (g2 ?_)
 refine gL (fU 50 (cs := bG r x) dE rfl rfl rfl (fun o ho => rfl) ble (fun b1 hb1 => g6 ?_))
 refine rl ((dC 50 (cs := bG r x) rfl rfl (eD (bG r x) 0 ble) ble kR)) (gL (cbx (fun b : Bool => .bool b) (fun b => b = true -> LenL r) rfl (fun w_ s_ => qD r x w_) (fun zb hzb => g3 ?_)))
 refine aB rfl (fun hc1 => ?_) (fun hc2 => ?_)
 .refine g7 ?_
  exact gR rfl fun w_ s_ => ⟨rfl, s_.aPg⟩
 .have hl : LenL r := hzb (by simpa using hc2)
  refine g4 ?_
  refine rl ((dC 50 (cs := bG r x) rfl rfl (eD (bG r x) 0 ble) ble kR)) (gL (crx (ι := Bool × List Int × Option Addr × Nat) 11 (fun z_ => .tuple #[.slice z_.2.2.1 z_.2.1.length z_.2.2.2, .bool z_.1, .bool true]) (fun z_ => (z_.1 = true -> RightP r /\ mP r (vZ r) ((60 : Nat) : Int) z_.2.1 /\ (fun _ => True) z_.2.1) /\ (z_.1 = false -> z_.2.1 = [])) (fun z_ => ⟨.slice z_.2.2.1 z_.2.1.length z_.2.2.2, 2, 1, z_.2.1.length, (z_.2.1.map iV)⟩) rfl (fun w_ s_ => (aCb r x hfb hl hcap 60 dE (fun _ => True) (aNi hl) aGm (fun _ => aIj) w_ (InL.see s_ hin)).mono fun e w' ⟨b, l, p, c, h1, h2, h3, h4⟩ => ⟨(b, l, p, c), ⟨h1, h2⟩, h3, h4⟩) (fun | (q1, l1, p1, c1), ⟨hy1, hn1⟩ => g13 ?_)))
  rcases bO ((!q1)) with hb1 | hb1
  .refine rl ((gX rfl).to (v' := .bool true) (cB hb1)) (g2 ?_)
   refine bK rfl rfl ?_
   refine g2 ?_
   refine gL (cvo rfl (fun w_ s_ => tF w_) (g5 ?_))
   exact gR rfl fun w_ s_ => ⟨rfl, s_.aPg⟩
  .obtain ⟨hR1, hF1, _⟩ := hy1 (by simpa using hb1)
   have hF1 : mP r (vZ r) ((60 : Nat) : Int) l1 := hF1
   have h60 : (l1.length : Int) <= ((60 : Nat) : Int) := u6 hF1 (by simp)
   obtain ⟨hsi, hmem, hcnt⟩ := aE1 hR1 hF1
   have hq1 : q1 = true := by simpa using hb1
   refine rl ((gX rfl).to (v' := .bool false) (cB hb1)) (oD ?_)
   refine aY (ι := (Nat)) (fun k => l1.length - k) (fun k => (k <= l1.length)) (fun k => [(1, pT b1), (3, .slice p1 l1.length c1), (5, .bool true), (20, .slice p1 l1.length c1), (21, iV (l1.length)), (22, iV k)]) (fun k => [(50, b1)]) (fun k => aL 50 0 (bG r x) ++ []) (fun k => [(11, ⟨.slice p1 l1.length c1, 2, 1, l1.length, (l1.map iV)⟩)]) 0 (Nat.zero_le _) kns (fun w s => by exact s) ?_
   rintro k hk
   refine dS ?_
   refine g6 ?_
   refine aB rfl (fun hc1 => ?_) (fun hc2 => ?_)
   .have hlt : k < l1.length := by have := oT hc1; omega
    obtain ⟨y, hy⟩ : ∃ y, l1[k]? = some y := ⟨_, List.getElem?_eq_getElem hlt⟩
    have hym := hmem y (List.mem_of_getElem? hy)
    have hym1 := hym.1
    refine g5 ?_
    refine cQ (fun w s => s.head 11 rfl (by show 0 < l1.length; omega)) (fun ⟨bl, hpl, (hcl : l1.length <= c1)⟩ => ?_)
    have hpl : p1 = some ⟨bl, 0, none⟩ := hpl
    subst hpl
    refine g2 ?_
    refine rl (aC (e := 2) (n := 1) (b := bl) (off := 0) (len := l1.length) (cap := c1) kR rfl rfl oM oM) (rl (kH 11 rfl rfl (by rw [<- hy]; congr 1; omega) kR) (g9 ?_))
    by_cases h3 : y < r.start
    .omega
    .refine rZ4 ((cR rfl rfl).to bF) ?_
     rcases bO (r.aP0) with hhu | hhu
     .have hyu := hym.2 hhu
      refine rl ((rld 50 rfl rfl rfl).to (v' := .bool true) (cB hhu)) (g9 ?_)
      by_cases h11 : r.untl < y
      .omega
      .refine rZ7 ((bU rfl rfl).to bF) ?_
       by_cases h16 : 0 < (k : Int)
       .obtain ⟨z, hz⟩ : ∃ z, l1[k - 1]? = some z := ⟨_, List.getElem?_eq_getElem oM⟩
        have hzy := hsi.get_lt hz hy oM
        refine rl ((bU rfl rfl).to bT) (g9 ?_)
        refine rZ1 (aC (e := 2) (n := 1) (b := bl) (off := 0) (len := l1.length) (cap := c1) kR rfl rfl oM oM) ?_
        refine rZ3 (kH 11 rfl rfl (by rw [<- hz]; congr 1; omega) kR) ?_
        by_cases h24 : y <= z
        .omega
        .refine sQ ((dV rfl rfl).to bF) ?_
         refine aN (k + 1) oM (show k + 1 <= l1.length by omega) kns (fun w s => by exact s)
       .refine rl ((bU rfl rfl).to bF) (g14 ?_)
        refine aU rfl rfl ?_
        refine g7 ?_
        refine aN (k + 1) oM (show k + 1 <= l1.length by omega) kns (fun w s => by exact s)
     .refine rl ((rld 50 rfl rfl rfl).to (v' := .bool false) (cB hhu)) (g13 ?_)
      by_cases h16 : 0 < (k : Int)
      .obtain ⟨z, hz⟩ : ∃ z, l1[k - 1]? = some z := ⟨_, List.getElem?_eq_getElem oM⟩
       have hzy := hsi.get_lt hz hy oM
       refine rl ((bU rfl rfl).to bT) (g9 ?_)
       refine rZ1 (aC (e := 2) (n := 1) (b := bl) (off := 0) (len := l1.length) (cap := c1) kR rfl rfl oM oM) ?_
       refine rZ3 (kH 11 rfl rfl (by rw [<- hz]; congr 1; omega) kR) ?_
       by_cases h24 : y <= z
       .omega
       .refine sQ ((dV rfl rfl).to bF) ?_
        refine aN (k + 1) oM (show k + 1 <= l1.length by omega) kns (fun w s => by exact s)
      .refine rl ((bU rfl rfl).to bF) (g14 ?_)
       refine aU rfl rfl ?_
       refine g7 ?_
       refine aN (k + 1) oM (show k + 1 <= l1.length by omega) kns (fun w s => by exact s)
   .refine g10 ?_
    refine gL (cvo rfl (fun w_ s_ => tF w_) (g7 ?_))
    by_cases hc0 : r.count = 0
    .refine rl ((aQ rfl rfl).to eT) (g14 ?_)
     exact gR rfl fun w_ s_ => ⟨rfl, s_.aPg⟩
    .refine rl ((aQ rfl rfl).to eF) (g11 ?_)
     by_cases hc3 : (l1.length : Int) <= r.count
     .refine rZ7 ((d7 rfl rfl).to bT) ?_
      exact gR rfl fun w_ s_ => ⟨rfl, s_.aPg⟩
     .omega
end
end Go.Proofs.YthomapgobmdicaaGreat
namespace Go.Proofs.YthomapgobmdicaaGreat.fnRising
open Go.ChangeShapes Go.WideShapes Go.ChangeAt Go.RowKit Go.Fr
set_option linter.unusedVariables false

theorem post_of_keep {H : Type} {enc : TypeId × Value → H} {P : Program} {f : Func} {s : ChangeSpec} {apart fresh handsOn : Bool} {W W' : World} {args : Array Value} {v : Value} {ds gs : List (DataW H)} {before pa pv : List MemPlace}
    (hW : DataW.Whole enc P f.params.toList s.vars apart W args.toList ds gs before)
    (hres : ∀ (b : Nat) (sp : Nat → Bool) (hd : Bool), DataW.TrodAll enc P W' b sp hd f.resultTypes.toList (v.resultList f.resultTypes.size) (s.fn H (ds ++ gs)).results [])
    (hargs : DataW.TrodAll enc P W' 0 (fun b => decide (b < W.heap.size)) true f.params.toList args.toList (s.fn H (ds ++ gs)).args pa)
    (hvars : ∀ sp : Nat → Bool, (∀ p ∈ before, sp p.block = true) → DataW.TrodVars enc P W' sp s.vars (s.fn H (ds ++ gs)).vars pv)
    (hps : before = pa ++ pv) (hk : W.keptBut W' (· ∈ before)) :
    s.post enc P f apart fresh handsOn false W args v W' := by
  have hold : ∀ p ∈ before, (fun b => decide (b < W.heap.size)) p.block = true := fun p hp => by simpa using hW.lt p hp
  refine ⟨ds, gs, before, [], pa, pv, hW, hres _ _ _, hargs, hvars _ hold, World.keptBut_mono (fun p hp => ⟨hp, ?_⟩) hk, fun h => (by cases h)⟩
  rw [hps, List.mem_append] at hp
  exact Or.inr hp
theorem own : ownKnob Tryz.prog.godebug = none := by kernel_rfl
theorem laid : laidOutB Tryz.prog = true := by kernel_rfl

set_option maxRecDepth 100000 in
theorem lifted (os : Os) (started : os.Started) (H : Type) (enc : TypeId × Value → H) :
    ReturnsInHanded {} Tryz.checked os 3 .any (Rows.fnRisingSpec.pre6 enc Tryz.prog Tryz.f3 Rows.fnRisingRow.domain false) (Rows.fnRisingSpec.post enc Tryz.prog Tryz.f3 false true false false) := by
  refine returnsInHanded_of_change (C := Tryz.checked) own started (by kernel_rfl) Tryz.func3
    (ChangeSpec.witness6 (enc := enc) (C := Tryz.checked) false ⟨#[], #[.agg #[.int .u8 0, .bool false, .int .i64 0, .int .i64 0, .int .i64 0, .int .i64 0, .bool false, .int .i64 0, .slice none 0 0, .slice none 0 0, .slice none 0 0, .slice none 0 0, .slice none 0 0, .slice none 0 0, .slice none 0 0, .slice none 0 0, .slice none 0 0, .slice none 0 0]], []⟩ 8 (by kernel_rfl) (by kernel_rfl) (by kernel_rfl) (by kernel_rfl)) ?_
  intro W base args ds gs before hval0 hW hcnd _
  have hval : ∀ (j : Nat) t v, Tryz.f3.params[j]? = some t → args[j]? = some v → Value.okWide Tryz.prog W .any base t v := hval0
  have hW' := hW
  have hltW := hW.lt
  obtain ⟨p, q, hA0, hV, rfl, hfz, hnd⟩ := hW
  have hA : DataW.TrodAll enc Tryz.prog W 0 (fun _ => true) true Tryz.f3.params.toList args.toList ds p := hA0
  rw [Tryz.params3] at hA hval
  obtain ⟨v0, vs0, d0, ds0, p0, q0, hargs, rfl, rfl, h0, r0⟩ := trodAll_cons hA
  obtain ⟨rfl, rfl, rfl⟩ := trodAll_nil r0
  obtain rfl : args = #[v0] := by cases args; simp_all
  obtain ⟨rfl, rfl⟩ := trodVars_none hV
  have h0k := h0
  obtain ⟨r0_, x0_, rfl, rin0⟩ := open_rule (hval 0 25 v0 rfl rfl) h0
  clear hA0 hval0
  simp only [List.append_nil] at hW' hltW
  refine (rising_walk r0_ x0_ W rin0).mono fun e W' ⟨he, hg⟩ => ?_
  subst he
  exact ⟨_, rfl, post_of_keep (pv := []) hW' (fun _ _ _ => (trodAll_cons_mk (shut_bool Tryz.underlying4 _) trodAll_mk0)) (trodAll_cons_mk (Below.trod laid (by kernel_rfl) (of_decide_eq_true (by kernel_rfl)) h0k hg (fun z hz => hltW z (by simp [hz]))) trodAll_mk0) (fun _ _ => rfl) (by simp)
    (hg.frame _)⟩

theorem over : Rows.fnRisingRow.holds Tryz.pinned (OpenSpec.ofChange Rows.fnRisingSpec) :=
  OpenClaim.holds_of_wide 3 Tryz.f3 rfl rfl rfl rfl rfl rfl rfl ⟨rfl, rfl, rfl, rfl, rfl⟩ rfl rfl rfl rfl rfl (by kernel_rfl) Tryz.func3 (by kernel_rfl)
    (of_decide_eq_true (by kernel_rfl)) (by unfold Func.isWrapper; first | (rw [if_pos (by decide +kernel)]; kernel_rfl) | (rw [if_neg (by decide +kernel)]; exact ⟨rfl, rfl⟩))
    (fun os started H enc _ => lifted os started H enc)
/-- The statement. -/
theorem proved : Rows.FnRisingSaid :=
  over
#print axioms proved
end Go.Proofs.YthomapgobmdicaaGreat.fnRising
