import Derived.Test.YtdbbifbmkfmbkaaGreatRah
set_option linter.unusedVariables false
set_option linter.unusedSimpArgs false
set_option maxRecDepth 100000
set_option maxHeartbeats 8000000
namespace Go.Proofs.YtdbbifbmkfmbkaaGreat
open Go.RowKit Go.Fr Go.Tab
section
variable {F : Nat → Prop} {w0 : World} {B : LN} {H : LV} {S : LS}
open Go.Md
def uF (l : List Int) (day : Int) : Bool := l.length == 0 || l.any (· == Cal.mdayOf day) || l.any (· == Cal.mdayOf day - Cal.mdays (Cal.monthOf day) (Cal.yearOf day) - 1)
def yX (l : List (Int × Int)) (day : Int) : Bool := l.length == 0 || l.any (fun p => p.1 == day % 7)
def cW (r : Rul) (day : Int) : Bool := aJ r.month (Cal.monthOf day) && (uF r.mday day && yX r.wday day)
theorem wB (r : Rul) (x : Av) (day : Int) (hday : 0 ≤ day ∧ day ≤ 5000000) (hf : 2 ≤ r.freq ∧ r.freq ≤ 6) (hy0 : r.yday.length = 0) (hw0 : r.weekno.length = 0) (he0 : r.easter.length = 0) (hl : LenL r) (w : World) (hin : InL w r x) : Calls Tryz.prog 62 #[.agg (bC r x).toArray, iV day] w fun e w' => e = .returned (.bool (cW r day)) ∧ Below w.heap.size w w' := by
 obtain ⟨l9, l10, l11, l12, l13, l14, l15, l16, l17, l18⟩ := hl
 have hye := Cal.year_le day oM
 have hyb : 1 ≤ Cal.yearOf day := by have := gX (x := day * 86400) oM; rw [show day * 86400 / 86400 = day by omega] at this; omega
 have hmb := Cal.month_bd day
 have hmds := Cal.mdays_bd (Cal.monthOf day) (Cal.yearOf day)
 have hdt := (Cal.split_spec day).1
 have hI : ∀ i y, r.wday[i]? = some y → ∃ b o, x.p14 = some ⟨b, o, none⟩ ∧ w.cell? ⟨b, o + 2 * i, none⟩ = some (iV y.1) ∧ w.cell? ⟨b, o + 2 * i + 1, none⟩ = some (iV y.2) := by
  obtain ⟨p', c', e, hc⟩ := hin.i14
  injection e with e1 _ _
  rw [e1]; exact hc
 refine aI (args := [.agg (bC r x).toArray, iV day]) (L := [(0, .agg (bC r x).toArray), (1, iV day)]) (N := 179) Tryz.func62 rfl rfl ble rfl (sS w) ?_
 refine g2 ?_
 refine gL (fM 50 (cs := bC r x) dE rfl rfl rfl (fun o ho => rfl) ble (fun b1 hb1 => ?_))
 refine g6 ?_
 refine gL (cvo rfl (fun w_ s_ => nB _ oM w_) ?_)
 refine g9 ?_
 refine cV (ι := (Unit)) (fun u => (aJ r.month (Cal.monthOf day) = true)) (fun u => [(1, iV day), (2, pT b1), (5, iV (Cal.yearOf day)), (6, iV (Cal.monthOf day)), (7, iV (Cal.mdayOf day))]) (fun u => [(50, b1)]) (fun u => aC 50 0 (bC r x) ++ []) (fun u => []) ?_ ?_
 ·refine g2 ?_
  refine rl (rfa 9) ?_
  refine rZ1 (rld 50 rfl rfl rfl) ?_
  by_cases h0 : 0 < r.month.length
  ·refine rZ2 ((bG rfl rfl).to bT) ?_
   refine rZ1 (rfa 9) ?_
   refine rZ3 (rld 50 rfl rfl rfl) ?_
   rcases bO (r.month.any (· == Cal.monthOf day)) with ha | ha
   ·refine gL (cvo (v := .bool true) rfl (fun w_ s_ => (cQ r.month _ _ oM w_ (bM s_ hin.i10)).mono fun e_ w2_ h_ => ⟨h_.1.trans (cE ha), h_.2⟩) ?_)
    refine yZ7 ?_
    refine aO (ι := Unit) () (by unfold aJ; rw [ha, Bool.or_true]) kns (fun w s => s)
   ·have hF : cW r day = false := by unfold cW; rw [show aJ r.month (Cal.monthOf day) = false from by unfold aJ; rw [ha, aBx oM]; rfl]; simp
    refine gL (cvo (v := .bool false) rfl (fun w_ s_ => (cQ r.month _ _ oM w_ (bM s_ hin.i10)).mono fun e_ w2_ h_ => ⟨h_.1.trans (cE ha), h_.2⟩) ?_)
    refine jT ?_
    exact gR rfl fun w_ s_ => ⟨by rw [hF], s_.aJ0⟩
  ·refine rl ((bG rfl rfl).to bF) ?_
   refine kQ ?_
   refine aO (ι := Unit) () (by unfold aJ; rw [show r.month.length = 0 by omega]; rfl) kns (fun w s => s)
 rintro u hA
 show GC _ _ _ _ [(1, iV day), (2, pT b1), (5, iV (Cal.yearOf day)), (6, iV (Cal.monthOf day)), (7, iV (Cal.mdayOf day))] _ _ ([(50, b1)]) (aC 50 0 (bC r x) ++ []) ([])
 refine cV (ι := (Unit)) (fun u => (uF r.mday day = true)) (fun u => [(1, iV day), (2, pT b1), (5, iV (Cal.yearOf day)), (6, iV (Cal.monthOf day)), (7, iV (Cal.mdayOf day))]) (fun u => [(50, b1)]) (fun u => aC 50 0 (bC r x) ++ []) (fun u => []) ?_ ?_
 ·refine g4 ?_
  refine gL (cvo rfl (fun w_ s_ => gM _ _ oM w_) ?_)
  refine g5 ?_
  refine rl (rfa 10) ?_
  refine rZ1 (rld 50 rfl rfl rfl) ?_
  by_cases h0 : 0 < r.mday.length
  ·refine rZ2 ((bG rfl rfl).to bT) ?_
   refine rZ1 (rfa 10) ?_
   refine rZ3 (rld 50 rfl rfl rfl) ?_
   rcases bO (r.mday.any (· == Cal.mdayOf day)) with ha | ha
   ·refine gL (cvo (v := .bool true) rfl (fun w_ s_ => (cQ r.mday _ _ oM w_ (bM s_ hin.i11)).mono fun e_ w2_ h_ => ⟨h_.1.trans (cE ha), h_.2⟩) ?_)
    refine xD ?_
    refine aO (ι := Unit) () (by unfold uF; rw [ha, Bool.or_true, Bool.true_or]) kns (fun w s => s)
   ·refine gL (cvo (v := .bool false) rfl (fun w_ s_ => (cQ r.mday _ _ oM w_ (bM s_ hin.i11)).mono fun e_ w2_ h_ => ⟨h_.1.trans (cE ha), h_.2⟩) ?_)
    refine g5 ?_
    refine rZ1 (rfa 10) ?_
    refine rZ9 (rld 50 rfl rfl rfl) ?_
    rcases bO (r.mday.any (· == Cal.mdayOf day - Cal.mdays (Cal.monthOf day) (Cal.yearOf day) - 1)) with hb | hb
    ·refine gL (cvo (v := .bool true) rfl (fun w_ s_ => (cQ r.mday _ _ oM w_ (bM s_ hin.i11)).mono fun e_ w2_ h_ => ⟨h_.1.trans (cE hb), h_.2⟩) ?_)
     refine yZ7 ?_
     refine aO (ι := Unit) () (by unfold uF; rw [hb, Bool.or_true]) kns (fun w s => s)
    ·have hF : cW r day = false := by unfold cW; rw [show uF r.mday day = false from by unfold uF; rw [ha, hb, aBx oM]; rfl]; simp
     skip
     refine gL (cvo (v := .bool false) rfl (fun w_ s_ => (cQ r.mday _ _ oM w_ (bM s_ hin.i11)).mono fun e_ w2_ h_ => ⟨h_.1.trans (cE hb), h_.2⟩) ?_)
     refine jT ?_
     exact gR rfl fun w_ s_ => ⟨by rw [hF], s_.aJ0⟩
  ·refine rl ((bG rfl rfl).to bF) ?_
   refine g18 ?_
   refine g1 ?_
   refine aP rfl rfl ?_
   refine g1 ?_
   refine aO (ι := Unit) () (by unfold uF; rw [show r.mday.length = 0 by omega]; rfl) kns (fun w s => s)
 rintro u hM
 show GC _ _ _ _ [(1, iV day), (2, pT b1), (5, iV (Cal.yearOf day)), (6, iV (Cal.monthOf day)), (7, iV (Cal.mdayOf day))] _ _ ([(50, b1)]) (aC 50 0 (bC r x) ++ []) ([])
 refine g5 ?_
 refine gL (cvo rfl (fun w_ s_ => eZ _ oM w_) ?_)
 refine g7 ?_
 refine rq (rfa 11) ?_
 refine rq (rld 50 rfl rfl rfl) ?_
 refine g1 ?_
 by_cases h0 : 0 < r.yday.length
 ·omega
 ·refine rq ((bG rfl rfl).to bF) ?_
  refine g20 ?_
  refine aP rfl rfl ?_
  refine g5 ?_
  refine rl (rfa 12) ?_
  refine rZ1 (rld 50 rfl rfl rfl) ?_
  by_cases h0 : 0 < r.weekno.length
  ·omega
  ·refine rl ((bG rfl rfl).to bF) ?_
   refine g2 ?_
   refine aP rfl rfl ?_
   refine g5 ?_
   refine rq (rfa 17) ?_
   refine rq (rld 50 rfl rfl rfl) ?_
   refine g1 ?_
   by_cases h0 : 0 < r.easter.length
   ·omega
   ·refine rq ((bG rfl rfl).to bF) ?_
    refine g12 ?_
    refine aP rfl rfl ?_
    refine g5 ?_
    refine rl (rfa 13) ?_
    refine rZ1 (rld 50 rfl rfl rfl) ?_
    by_cases h0 : r.wday.length = 0
    ·have hF : cW r day = true := by unfold cW yX; rw [hA, hM, h0]; rfl
     refine rl ((aR rfl rfl).to eT) ?_
     refine g2 ?_
     refine aY rfl rfl ?_
     refine g7 ?_
     exact gR rfl fun w_ s_ => ⟨by rw [hF], s_.aJ0⟩
    ·refine rl ((aR rfl rfl).to eF) ?_
     refine g2 ?_
     refine aP rfl rfl ?_
     refine g5 ?_
     refine rl (rfa 13) ?_
     refine rZ5 (rld 50 rfl rfl rfl) ?_
     refine bJ (ι := (Nat)) (fun k => r.wday.length - k) (fun k => (k ≤ r.wday.length) ∧ ((r.wday.take k).any (fun p => p.1 == day % 7) = false)) (fun k => [(1, iV day), (2, pT b1), (129, .slice x.p14 r.wday.length x.c14), (130, iV (r.wday.length)), (131, iV k)]) (fun k => [(50, b1)]) (fun k => aC 50 0 (bC r x) ++ []) (fun k => []) 0 ⟨Nat.zero_le _, rfl⟩ kns (fun w s => by exact s) ?_
     rintro k ⟨hk, hn⟩
     show GC _ _ _ _ [(1, iV day), (2, pT b1), (129, .slice x.p14 r.wday.length x.c14), (130, iV (r.wday.length)), (131, iV k)] _ _ ([(50, b1)]) (aC 50 0 (bC r x) ++ []) ([])
     refine g6 ?_
     refine aB rfl (fun hc1 => ?_) (fun hc2 => ?_)
     ·have hlt : k < r.wday.length := by have := oT hc1; omega
      obtain ⟨y, hy⟩ : ∃ y, r.wday[k]? = some y := ⟨_, List.getElem?_eq_getElem hlt⟩
      obtain ⟨b_, o_, hp0, hca, hcb⟩ := hI k y hy
      refine g6 ?_
      refine rl (aF (e := 47) (n := 2) kR (congrArg (fun p => some (Value.slice p _ _)) hp0) rfl oM oM) ?_
      refine rl (gT rfl (by rw [← hca]; congr 2; omega) (by rw [← hcb]; congr 2; omega) (fun h => h) kR) ?_
      refine gL (eB 51 (cs := [iV 0, iV 0]) dE kR rfl (fun o ho => by repeat (first | rfl | rw [aK dE ho _ _ ble])) ble (fun b2_ hb2_ => ?_))
      refine gL (sta 51 rfl rfl rfl rfl ?_)
      refine g5 ?_
      refine rq (rfa 0) ?_
      refine rq (rld 51 rfl rfl rfl) ?_
      refine g1 ?_
      refine eU dE kR rfl (fun w_ s_ => jD _ oM w_) ?_
      refine g3 ?_
      refine aB rfl (fun hc1 => ?_) (fun hc2 => ?_)
      ·have hne : (y.1 == day % 7) = false := by have := bne_iff_ne.1 hc1; exact qW this
       refine g8 ?_
       refine aQ (k + 1) oM ⟨by omega, by rw [List.take_add_one, hy, List.any_append, hn]; simp [hne]⟩ kns (fun w s => by exact (s.low 51 (by exact ⟨fun k hk => by rw [aA oM]; rfl, fun k hk o ho => by rw [aK oM ho _ _ ble]; rfl, fun _ _ => rfl⟩) agx agx agx))
      ·have heq : (y.1 == day % 7) = true := by have := bne_eq_false_iff_eq.1 hc2; exact qF this
       have hF : cW r day = true := by unfold cW yX; rw [hA, hM, show r.wday.any (fun p => p.1 == day % 7) = true from List.any_eq_true.2 ⟨y, List.mem_of_getElem? hy, heq⟩]; simp
       refine g5 ?_
       refine rl (rfa 1) ?_
       refine rl (rld 51 rfl rfl rfl) ?_
       by_cases hz : y.2 = 0
       ·refine rl ((aR rfl rfl).to eT) ?_
        refine g8 ?_
        refine jT ?_
        exact gR rfl fun w_ s_ => ⟨by rw [hF], s_.aJ0⟩
       ·refine rZ2 ((aR rfl rfl).to eF) ?_
        refine rZ1 (rfa 0) ?_
        refine rZ1 (rld 50 rfl rfl rfl) ?_
        refine rl ((bG rfl rfl).to bT) ?_
        refine xD ?_
        exact gR rfl fun w_ s_ => ⟨by rw [hF], s_.aJ0⟩
     ·obtain rfl : k = r.wday.length := by have := oF hc2; omega
      rw [List.take_length] at hn
      have hF : cW r day = false := by unfold cW yX; rw [hn, aBx h0]; simp
      refine g11 ?_
      exact gR rfl fun w_ s_ => ⟨by rw [hF], s_.aJ0⟩
def UD (r : Rul) (u dy : Int) : Prop := (u = 3600 ∧ dy = 24 ∧ r.freq = 4) ∨ (u = 60 ∧ dy = 1440 ∧ r.freq = 5) ∨ (u = 1 ∧ dy = 86400 ∧ r.freq = 6)
def aAj (r : Rul) : Prop := ∃ u dy at_ : Int, UD r u dy ∧ 0 ≤ at_ ∧ at_ < dy ∧ at_ % (Nat.gcd r.interval.toNat dy.toNat : Nat) = r.start % 86400 / u % (Nat.gcd r.interval.toNat dy.toNat : Nat) ∧
 aJ r.hour (at_ * u / 3600) = true ∧ (5 ≤ r.freq → aJ r.minute (at_ * u / 60 % 60) = true) ∧ (r.freq = 6 → aJ r.second (at_ * u % 60) = true)
theorem xU (r : Rul) (x : Av) (hs : 0 ≤ r.start ∧ r.start ≤ 1000000000000) (hi : 1 ≤ r.interval ∧ r.interval ≤ 1000) (hf : r.freq = 4 ∨ r.freq = 5 ∨ r.freq = 6) (hl : LenL r) (w : World) (hin : InL w r x) : Calls Tryz.prog 32 #[.agg (bC r x).toArray] w fun e w' => ∃ b : Bool, (b = true → aAj r) ∧ e = .returned (.bool b) ∧ Below w.heap.size w w' := by
 obtain ⟨l9, l10, l11, l12, l13, l14, l15, l16, l17, l18⟩ := hl
 refine aI (args := [.agg (bC r x).toArray]) (L := [(0, .agg (bC r x).toArray)]) (N := 77) Tryz.func32 rfl rfl ble rfl (sS w) ?_
 refine g2 ?_
 refine gL (fM 50 (cs := bC r x) dE rfl rfl rfl (fun o ho => rfl) ble (fun b1 hb1 => ?_))
 refine g3 ?_
 refine cV (ι := (Int) × (Int)) (fun | ⟨u, dy⟩ => (UD r u dy)) (fun | ⟨u, dy⟩ => [(1, pT b1), (3, iV u)]) (fun | ⟨u, dy⟩ => [(50, b1)]) (fun | ⟨u, dy⟩ => aC 50 0 (bC r x) ++ []) (fun | ⟨u, dy⟩ => []) ?_ ?_
 ·rcases hf with hq | hq | hq
  ·refine g1 ?_
   refine gL (eG 50 (e := 3) (sz := 1) (n := 3) (vs := [(0, iV 3600), (1, iV 60), (2, iV 1)]) (cs := [iV 3600, iV 60, iV 1]) dE rfl kW rfl dE dE rfl (fun b1_ hbb1_ => ?_))
   refine rl (rfa 0) ?_
   refine rl ((rld 50 rfl rfl rfl).to (v' := .int .u8 4) (congrArg (Value.int .u8) hq)) ?_
   refine rl ((jC rfl rfl).to (v' := .int .u8 0) rfl) ?_
   refine rl (aF (e := 3) (n := 1) kR rfl rfl oM oM) ?_
   refine rZ2 (bP 50 rfl rfl rfl rfl kR) ?_
   refine aO (ι := Int × Int) (⟨3600, 24⟩) (.inl ⟨rfl, rfl, hq⟩) kno (fun w s => Sees.tailS s rfl)
  ·refine g1 ?_
   refine gL (eG 50 (e := 3) (sz := 1) (n := 3) (vs := [(0, iV 3600), (1, iV 60), (2, iV 1)]) (cs := [iV 3600, iV 60, iV 1]) dE rfl kW rfl dE dE rfl (fun b2_ hbb2_ => ?_))
   refine rl (rfa 0) ?_
   refine rl ((rld 50 rfl rfl rfl).to (v' := .int .u8 5) (congrArg (Value.int .u8) hq)) ?_
   refine rl ((jC rfl rfl).to (v' := .int .u8 1) rfl) ?_
   refine rl (aF (e := 3) (n := 1) kR rfl rfl oM oM) ?_
   refine rZ2 (bP 50 rfl rfl rfl rfl kR) ?_
   refine aO (ι := Int × Int) (⟨60, 1440⟩) (.inr (.inl ⟨rfl, rfl, hq⟩)) kno (fun w s => Sees.tailS s rfl)
  ·refine g1 ?_
   refine gL (eG 50 (e := 3) (sz := 1) (n := 3) (vs := [(0, iV 3600), (1, iV 60), (2, iV 1)]) (cs := [iV 3600, iV 60, iV 1]) dE rfl kW rfl dE dE rfl (fun b3_ hbb3_ => ?_))
   refine rl (rfa 0) ?_
   refine rl ((rld 50 rfl rfl rfl).to (v' := .int .u8 6) (congrArg (Value.int .u8) hq)) ?_
   refine rl ((jC rfl rfl).to (v' := .int .u8 2) rfl) ?_
   refine rl (aF (e := 3) (n := 1) kR rfl rfl oM oM) ?_
   refine rZ2 (bP 50 rfl rfl rfl rfl kR) ?_
   refine aO (ι := Int × Int) (⟨1, 86400⟩) (.inr (.inr ⟨rfl, rfl, hq⟩)) kno (fun w s => Sees.tailS s rfl)
 rintro ⟨u, dy⟩ hu
 show GC _ _ _ _ [(1, pT b1), (3, iV u)] _ _ ([(50, b1)]) (aC 50 0 (bC r x) ++ []) ([])
 have hub : 1 ≤ u ∧ u ≤ 3600 ∧ 1 ≤ dy ∧ dy ≤ 86400 ∧ 86400 / u = dy := by rcases hu with ⟨rfl, rfl, _⟩ | ⟨rfl, rfl, _⟩ | ⟨rfl, rfl, _⟩ <;> decide
 obtain ⟨hu1, hu2, hd1, hd2, hud⟩ := hub
 have hst : 0 ≤ r.start % 86400 / u ∧ r.start % 86400 / u < dy := by rcases hu with ⟨rfl, rfl, _⟩ | ⟨rfl, rfl, _⟩ | ⟨rfl, rfl, _⟩ <;> omega
 obtain ⟨i0, hi0⟩ : ∃ i0 : Nat, r.interval = i0 := ⟨r.interval.toNat, by omega⟩
 obtain ⟨d0, hd0⟩ : ∃ d0 : Nat, dy = d0 := ⟨dy.toNat, by omega⟩
 have hgp : 0 < Nat.gcd i0 d0 := Nat.gcd_pos_of_pos_left _ oM
 refine g3 ?_
 refine rZ5 ((aBq rfl rfl oM oM oM).to (v' := iV dy) (congrArg (Value.int .i64) hud)) ?_
 refine rl (rfa 3) ?_
 refine rZ7 (rld 50 rfl rfl rfl) ?_
 refine bJ (ι := (Nat) × (Nat)) (fun | ⟨a, b⟩ => b) (fun | ⟨a, b⟩ => (Nat.gcd a b = Nat.gcd i0 d0) ∧ (b ≤ 86400 ∧ a ≤ 86400)) (fun | ⟨a, b⟩ => [(1, pT b1), (3, iV u), (4, iV dy), (5, iV ((a : Int))), (6, iV ((b : Int)))]) (fun | ⟨a, b⟩ => [(50, b1)]) (fun | ⟨a, b⟩ => aC 50 0 (bC r x) ++ []) (fun | ⟨a, b⟩ => []) ⟨i0, d0⟩ ⟨rfl, by omega⟩ kno (fun w s => by exact s) ?_
 rintro ⟨a, b⟩ ⟨hg, hb⟩
 show GC _ _ _ _ [(1, pT b1), (3, iV u), (4, iV dy), (5, iV ((a : Int))), (6, iV ((b : Int)))] _ _ ([(50, b1)]) (aC 50 0 (bC r x) ++ []) ([])
 refine g7 ?_
 refine aB rfl (fun hc1 => ?_) (fun hc2 => ?_)
 ·have hb0 : b ≠ 0 := by have := bne_iff_ne.1 hc1; omega
  refine g7 ?_
  refine rq ((aCb rfl rfl oM oM).to (v' := iV ((a % b : Nat) : Int)) (congrArg (Value.int .i64) oM)) ?_
  refine g4 ?_
  refine aQ ⟨b, a % b⟩ (by exact Nat.mod_lt a oM) ⟨by rw [Nat.gcd_comm, ← Nat.gcd_rec, Nat.gcd_comm]; exact hg, by have := Nat.mod_lt a (show 0 < b by omega); omega⟩ kno (fun w s => by exact s)
 ·obtain rfl : b = 0 := by have := bne_eq_false_iff_eq.1 hc2; omega
  obtain rfl : a = Nat.gcd i0 d0 := by rw [← hg, Nat.gcd_zero_right]
  refine g7 ?_
  refine rl (rfa 2) ?_
  refine rl (rld 50 rfl rfl rfl) ?_
  refine g16 ?_
  refine bJ (ι := (Int)) (fun t => (dy - t).toNat) (fun t => (0 ≤ t) ∧ (t % (Nat.gcd i0 d0 : Nat) = r.start % 86400 / u % (Nat.gcd i0 d0 : Nat))) (fun t => [(1, pT b1), (3, iV u), (4, iV dy), (5, iV ((Nat.gcd i0 d0 : Nat))), (8, iV t)]) (fun t => [(50, b1)]) (fun t => aC 50 0 (bC r x) ++ []) (fun t => []) (r.start % 86400 / u % (Nat.gcd i0 d0 : Nat)) ⟨Int.emod_nonneg _ oM, Int.emod_emod_of_dvd _ (Int.dvd_refl _)⟩ kno (fun w s => by exact s) ?_
  rintro t ⟨ht0, htg⟩
  show GC _ _ _ _ [(1, pT b1), (3, iV u), (4, iV dy), (5, iV ((Nat.gcd i0 d0 : Nat))), (8, iV t)] _ _ ([(50, b1)]) (aC 50 0 (bC r x) ++ []) ([])
  refine g8 ?_
  refine aB rfl (fun hc1 => ?_) (fun hc2 => ?_)
  ·have hlt : t < dy := oT hc1
   have hm : 0 ≤ t * u ∧ t * u < 86400 := by rcases hu with ⟨rfl, rfl, _⟩ | ⟨rfl, rfl, _⟩ | ⟨rfl, rfl, _⟩ <;> omega
   refine g15 ?_
   refine rl (rfa 14) ?_
   refine rZ2 (rld 50 rfl rfl rfl) ?_
   rcases bO (aJ r.hour (t * u / 3600)) with ha | ha
   ·refine gL (cvo (v := .bool true) rfl (fun w_ s_ => (dU r.hour (t * u / 3600) _ oM w_ (bM s_ hin.i15)).mono fun e_ w2_ h_ => ⟨h_.1.trans (cE ha), h_.2⟩) ?_)
    refine g3 ?_
    refine rZ1 (rfa 0) ?_
    refine rZ1 (rld 50 rfl rfl rfl) ?_
    by_cases h5 : 5 ≤ r.freq
    ·refine rZ3 ((bZ rfl rfl).to bT) ?_
     refine rZ1 (rfa 15) ?_
     refine rZ7 (rld 50 rfl rfl rfl) ?_
     rcases bO (aJ r.minute (t * u / 60 % 60)) with hb | hb
     ·refine gL (cvo (v := .bool true) rfl (fun w_ s_ => (dU r.minute (t * u / 60 % 60) _ oM w_ (bM s_ hin.i16)).mono fun e_ w2_ h_ => ⟨h_.1.trans (cE hb), h_.2⟩) ?_)
      refine g7 ?_
      refine rZ1 (rfa 0) ?_
      refine rZ1 (rld 50 rfl rfl rfl) ?_
      by_cases h6 : r.freq = 6
      ·refine rZ3 ((aR rfl rfl).to eT) ?_
       refine rZ1 (rfa 16) ?_
       refine rZ5 (rld 50 rfl rfl rfl) ?_
       rcases bO (aJ r.second (t * u % 60)) with hc | hc
       ·refine gL (cvo (v := .bool true) rfl (fun w_ s_ => (dU r.second (t * u % 60) _ oM w_ (bM s_ hin.i17)).mono fun e_ w2_ h_ => ⟨h_.1.trans (cE hc), h_.2⟩) ?_)
        refine g7 ?_
        refine lJ ?_
        exact aT (.inl rfl) rfl (aD rfl) fun w_ s_ => ⟨_, (by first | (intro h_; cases h_; done) | exact fun _ => ⟨u, dy, t, hu, ht0, hlt, by rw [hi0, hd0]; exact htg, ha, fun h => by first | exact hb | omega, fun h => by first | exact hc | omega⟩), rfl, s_.aJ0⟩
       ·refine gL (cvo (v := .bool false) rfl (fun w_ s_ => (dU r.second (t * u % 60) _ oM w_ (bM s_ hin.i17)).mono fun e_ w2_ h_ => ⟨h_.1.trans (cE hc), h_.2⟩) ?_)
        refine g7 ?_
        refine kQ ?_
        refine aQ (t + (Nat.gcd i0 d0 : Nat)) oM ⟨by omega, by rw [Int.add_emod_right]; exact htg⟩ kno (fun w s => by exact s)
      ·refine rl ((aR rfl rfl).to eF) ?_
       refine g13 ?_
       refine lJ ?_
       exact aT (.inl rfl) rfl (aD rfl) fun w_ s_ => ⟨_, (by first | (intro h_; cases h_; done) | exact fun _ => ⟨u, dy, t, hu, ht0, hlt, by rw [hi0, hd0]; exact htg, ha, fun h => by first | exact hb | omega, fun h => by first | exact hc | omega⟩), rfl, s_.aJ0⟩
     ·refine gL (cvo (v := .bool false) rfl (fun w_ s_ => (dU r.minute (t * u / 60 % 60) _ oM w_ (bM s_ hin.i16)).mono fun e_ w2_ h_ => ⟨h_.1.trans (cE hb), h_.2⟩) ?_)
      refine g20 ?_
      refine kQ ?_
      refine aQ (t + (Nat.gcd i0 d0 : Nat)) oM ⟨by omega, by rw [Int.add_emod_right]; exact htg⟩ kno (fun w s => by exact s)
    ·refine rl ((bZ rfl rfl).to bF) ?_
     refine g14 ?_
     refine rZ1 (rfa 0) ?_
     refine rZ1 (rld 50 rfl rfl rfl) ?_
     by_cases h6 : r.freq = 6
     ·refine rZ3 ((aR rfl rfl).to eT) ?_
      refine rZ1 (rfa 16) ?_
      refine rZ5 (rld 50 rfl rfl rfl) ?_
      rcases bO (aJ r.second (t * u % 60)) with hc | hc
      ·refine gL (cvo (v := .bool true) rfl (fun w_ s_ => (dU r.second (t * u % 60) _ oM w_ (bM s_ hin.i17)).mono fun e_ w2_ h_ => ⟨h_.1.trans (cE hc), h_.2⟩) ?_)
       refine g7 ?_
       refine lJ ?_
       exact aT (.inl rfl) rfl (aD rfl) fun w_ s_ => ⟨_, (by first | (intro h_; cases h_; done) | exact fun _ => ⟨u, dy, t, hu, ht0, hlt, by rw [hi0, hd0]; exact htg, ha, fun h => by first | exact hb | omega, fun h => by first | exact hc | omega⟩), rfl, s_.aJ0⟩
      ·refine gL (cvo (v := .bool false) rfl (fun w_ s_ => (dU r.second (t * u % 60) _ oM w_ (bM s_ hin.i17)).mono fun e_ w2_ h_ => ⟨h_.1.trans (cE hc), h_.2⟩) ?_)
       refine g7 ?_
       refine kQ ?_
       refine aQ (t + (Nat.gcd i0 d0 : Nat)) oM ⟨by omega, by rw [Int.add_emod_right]; exact htg⟩ kno (fun w s => by exact s)
     ·refine rl ((aR rfl rfl).to eF) ?_
      refine g13 ?_
      refine lJ ?_
      exact aT (.inl rfl) rfl (aD rfl) fun w_ s_ => ⟨_, (by first | (intro h_; cases h_; done) | exact fun _ => ⟨u, dy, t, hu, ht0, hlt, by rw [hi0, hd0]; exact htg, ha, fun h => by first | exact hb | omega, fun h => by first | exact hc | omega⟩), rfl, s_.aJ0⟩
   ·refine gL (cvo (v := .bool false) rfl (fun w_ s_ => (dU r.hour (t * u / 3600) _ oM w_ (bM s_ hin.i15)).mono fun e_ w2_ h_ => ⟨h_.1.trans (cE ha), h_.2⟩) ?_)
    refine g30 ?_
    refine kQ ?_
    refine aQ (t + (Nat.gcd i0 d0 : Nat)) oM ⟨by omega, by rw [Int.add_emod_right]; exact htg⟩ kno (fun w s => by exact s)
  ·refine g11 ?_
   exact aT (.inl rfl) rfl (aD rfl) fun w_ s_ => ⟨_, (by first | (intro h_; cases h_; done) | exact fun _ => ⟨u, dy, t, hu, ht0, hlt, by rw [hi0, hd0]; exact htg, ha, fun h => by first | exact hb | omega, fun h => by first | exact hc | omega⟩), rfl, s_.aJ0⟩
end
end Go.Proofs.YtdbbifbmkfmbkaaGreat
namespace Go.Proofs.YtdbbifbmkfmbkaaGreat
open Go.RowKit Go.Fr Go.Tab
section
variable {F : Nat → Prop} {w0 : World} {B : LN} {H : LV} {S : LS}
open Go.Fr
section
variable {P : Program} {N : Nat} {L : Fr.Loc} {F : Nat → Prop} {w0 : World} {B : LN} {H : LV} {S : LS} {d : Nat} {ty : TypeId} {pos : String} {aft : Array Edge} {g : Option (Nat × Bool)}
def aFg (P : Program) (t : TypeId) : Bool := match P.underlying t with
 | some .bool => true
 | _ => false
theorem aEv {t : TypeId} (h : aFg P t = true) : P.underlying t = some .bool := by
 unfold aFg at h
 split at h
 ·assumption
 ·cases h
theorem sP {xt yt : TypeId} {x y : Operand} {m n : Bool} (hx : ev L x = some (.bool m)) (hy : ev L y = some (.bool n)) (ht : aFg P xt = true := by kernel_rfl) : Rd P ⟨some d, .binOp .neq xt x y yt, ty, pos, aft, g⟩ N L F w0 B H S (.bool (m != n)) := fun a w k s => by
 simp [execOp, eqGuard, k.eval hx, k.eval hy, run_neq_bool w xt m n (aEv ht), bne]
end
theorem pR {w : World} {p : Option Addr} {c : Nat} {xs : List (Int × Int)} {k : Nat} (h : Prs w (.slice p xs.length c) xs) (hk : k ≤ xs.length) : Prs w (.slice p k c) (xs.take k) := by
 obtain ⟨p', c', e, hc⟩ := h
 injection e with e1 _ e3
 subst e1 e3
 refine ⟨p, c, by rw [List.length_take, Nat.min_eq_left hk], fun i x hx => ?_⟩
 rw [List.getElem?_take] at hx
 split at hx
 ·exact hc i x hx
 ·cases hx
structure CapL (r : Rul) (x : Av) : Prop where
 c9 : r.setpos.length ≤ x.c9
 c10 : r.month.length ≤ x.c10
 c11 : r.mday.length ≤ x.c11
 c12 : r.yday.length ≤ x.c12
 c13 : r.weekno.length ≤ x.c13
 c14 : r.wday.length ≤ x.c14
 c15 : r.hour.length ≤ x.c15
 c16 : r.minute.length ≤ x.c16
 c17 : r.second.length ≤ x.c17
 c18 : r.easter.length ≤ x.c18
structure Rt1 (r : Rul) : Prop where
 freq : 0 ≤ r.freq ∧ r.freq ≤ 6
 hs : r.hasStart = true
 start : 1 ≤ r.start ∧ r.start < Cal.daysTo 9000 * 86400
 interval : 1 ≤ r.interval ∧ r.interval ≤ 1000
 wkst : 0 ≤ r.wkst ∧ r.wkst ≤ 6
 count : 0 ≤ r.count ∧ r.count ≤ 1000000
def Rt2 (r : Rul) : Prop := (r.hasUntil = false → r.untl = 0) ∧ (r.hasUntil = true → r.count = 0 ∧ 1 ≤ r.untl ∧ r.untl < Cal.daysTo 10000 * 86400)
structure Rt3 (r : Rul) : Prop where
 h9 : iR r.setpos 1 366 true = true
 h10 : iR r.month 1 12 false = true
 h11 : iR r.mday 1 31 true = true
 h12 : iR r.yday 1 366 true = true
 h13 : iR r.weekno 1 51 true = true
 h15 : iR r.hour 0 23 false = true
 h16 : iR r.minute 0 59 false = true
 h17 : iR r.second 0 59 false = true
def EOk (r : Rul) (i : Nat) (y : Int) : Prop := -80 ≤ y ∧ y ≤ 200 ∧ r.freq = 0 ∧ (r.easter.take i).any (· == y) = false
def Rt4 (r : Rul) : Prop := ∀ i y, r.easter[i]? = some y → EOk r i y
def Rt5 (r : Rul) : Prop := (r.freq ≠ 0 → r.weekno.length = 0 ∧ r.yday.length = 0) ∧ (r.freq = 2 → r.mday.length = 0)
def nR (r : Rul) : Int := if r.freq = 1 ∨ (r.freq = 0 ∧ 0 < r.month.length) then 5 else if r.freq = 0 then 53 else 0
def rR (r : Rul) : Int := if 0 < r.weekno.length then 0 else nR r
def DOk (r : Rul) (i : Nat) (y : Int × Int) : Prop := (∀ y0, r.wday[0]? = some y0 → (y.2 = 0 ↔ y0.2 = 0)) ∧ (0 ≤ y.1 ∧ y.1 ≤ 6) ∧ (-rR r ≤ y.2 ∧ y.2 ≤ rR r) ∧ (r.wday.take i).any (· == y) = false ∧ i < 100
def Rt6 (r : Rul) : Prop := ∀ i y, r.wday[i]? = some y → DOk r i y
def Rt7 (r : Rul) : Prop := r.freq = 2 → 0 < r.setpos.length → r.start / 86400 % 7 = r.wkst
def Rt8 (r : Rul) : Prop := 4 ≤ r.freq → aAj r
def Rt9 (r : Rul) : Prop := r.setpos.length = 0 ∨ 0 < r.month.length + r.mday.length + r.yday.length + r.weekno.length + r.wday.length + r.hour.length + r.minute.length + r.second.length + r.easter.length
structure RightP (r : Rul) : Prop where
 t1 : Rt1 r
 t2 : Rt2 r
 t3 : Rt3 r
 t4 : Rt4 r
 t5 : Rt5 r
 t6 : Rt6 r
 t7 : Rt7 r
 t8 : Rt8 r
 t9 : Rt9 r
theorem xW (r : Rul) (x : Av) (hfb : 0 ≤ r.freq) (hl : LenL r) (hc : CapL r x) (w : World) (hin : InL w r x) : Calls Tryz.prog 16 #[.agg (bC r x).toArray] w fun e w' => ∃ b : Bool, (b = true → RightP r) ∧ e = .returned (.bool b) ∧ Below w.heap.size w w' := by
 obtain ⟨l9, l10, l11, l12, l13, l14, l15, l16, l17, l18⟩ := hl
 have hN1 : Cal.daysTo 9000 = 3286817 := by decide
 have hN2 : Cal.daysTo 10000 = 3652059 := by decide
 have hIE : ∀ i y, r.easter[i]? = some y → ∃ b o, x.p18 = some ⟨b, o, none⟩ ∧ w.cell? ⟨b, o + i, none⟩ = some (iV y) := by
  obtain ⟨p', c', e, hc'⟩ := hin.i18
  injection e with e1 _ _
  rw [e1]; exact hc'
 have hID : ∀ i y, r.wday[i]? = some y → ∃ b o, x.p14 = some ⟨b, o, none⟩ ∧ w.cell? ⟨b, o + 2 * i, none⟩ = some (iV y.1) ∧ w.cell? ⟨b, o + 2 * i + 1, none⟩ = some (iV y.2) := by
  obtain ⟨p', c', e, hc'⟩ := hin.i14
  injection e with e1 _ _
  rw [e1]; exact hc'
 refine aI (args := [.agg (bC r x).toArray]) (L := [(0, .agg (bC r x).toArray)]) (N := 330) Tryz.func16 rfl rfl ble rfl (sS w) ?_
 refine g2 ?_
 refine gL (fM 50 (cs := bC r x) dE rfl rfl rfl (fun o ho => rfl) ble (fun b1 hb1 => ?_))
 refine g3 ?_
 refine cV (ι := (Unit)) (fun u => (Rt1 r)) (fun u => [(1, pT b1)]) (fun u => [(50, b1)]) (fun u => aC 50 0 (bC r x) ++ []) (fun u => []) ?_ ?_
 ·refine g2 ?_
  refine rq (rfa 0) ?_
  refine rq (rld 50 rfl rfl rfl) ?_
  by_cases h0 : 6 < r.freq
  ·refine rq ((bG rfl rfl).to bT) ?_
   refine g40 ?_
   refine xD ?_
   exact gNo rfl
  ·refine rq ((bG rfl rfl).to bF) ?_
   refine g2 ?_
   refine rq (rfa 1) ?_
   refine g1 ?_
   rcases bO (r.hasStart) with hh | hh
   ·refine rq ((rld 50 rfl rfl rfl).to (v' := .bool true) (cB hh)) ?_
    refine g5 ?_
    refine rq (rfa 2) ?_
    refine g1 ?_
    refine rq (rld 50 rfl rfl rfl) ?_
    refine g1 ?_
    by_cases h1 : r.start < 1
    ·refine rq ((cM rfl rfl).to bT) ?_
     refine g40 ?_
     refine aY rfl rfl ?_
     refine g7 ?_
     exact gNo rfl
    ·refine rq ((cM rfl rfl).to bF) ?_
     refine g3 ?_
     refine rq (rfa 2) ?_
     refine g1 ?_
     refine rq (rld 50 rfl rfl rfl) ?_
     refine g1 ?_
     refine eU dE kR rfl (fun w_ s_ => eZ _ oM w_) ?_
     refine g3 ?_
     by_cases h2 : Cal.daysTo 9000 * 86400 ≤ r.start
     ·refine rq ((bZ rfl rfl).to bT) ?_
      refine g30 ?_
      refine kQ ?_
      exact gNo rfl
     ·refine rq ((bZ rfl rfl).to bF) ?_
      refine g3 ?_
      refine rq (rfa 3) ?_
      refine g1 ?_
      refine rq (rld 50 rfl rfl rfl) ?_
      refine g1 ?_
      by_cases h3 : r.interval < 1
      ·refine rq ((cM rfl rfl).to bT) ?_
       refine g25 ?_
       refine kQ ?_
       exact gNo rfl
      ·refine rq ((cM rfl rfl).to bF) ?_
       refine g3 ?_
       refine rq (rfa 3) ?_
       refine g1 ?_
       refine rq (rld 50 rfl rfl rfl) ?_
       refine g1 ?_
       by_cases h4 : 1000 < r.interval
       ·refine rq ((bG rfl rfl).to bT) ?_
        refine g20 ?_
        refine kQ ?_
        exact gNo rfl
       ·refine rq ((bG rfl rfl).to bF) ?_
        refine g3 ?_
        refine rq (rfa 4) ?_
        refine g1 ?_
        refine rq (rld 50 rfl rfl rfl) ?_
        refine g1 ?_
        by_cases h5 : r.wkst < 0
        ·refine rq ((cM rfl rfl).to bT) ?_
         refine g18 ?_
         refine aY rfl rfl ?_
         refine g7 ?_
         exact gNo rfl
        ·refine rq ((cM rfl rfl).to bF) ?_
         refine g3 ?_
         refine rq (rfa 4) ?_
         refine g1 ?_
         refine rq (rld 50 rfl rfl rfl) ?_
         refine g1 ?_
         by_cases h6 : 6 < r.wkst
         ·refine rq ((bG rfl rfl).to bT) ?_
          refine g13 ?_
          refine aY rfl rfl ?_
          refine g7 ?_
          exact gNo rfl
         ·refine rq ((bG rfl rfl).to bF) ?_
          refine g3 ?_
          refine rq (rfa 5) ?_
          refine g1 ?_
          refine rq (rld 50 rfl rfl rfl) ?_
          refine g1 ?_
          by_cases h7 : r.count < 0
          ·refine rq ((cM rfl rfl).to bT) ?_
           refine g8 ?_
           refine aY rfl rfl ?_
           refine g7 ?_
           exact gNo rfl
          ·refine rq ((cM rfl rfl).to bF) ?_
           refine g3 ?_
           refine rq (rfa 5) ?_
           refine g1 ?_
           refine rq (rld 50 rfl rfl rfl) ?_
           refine g1 ?_
           by_cases h8 : 1000000 < r.count
           ·refine rq ((bG rfl rfl).to bT) ?_
            refine kQ ?_
            exact gNo rfl
           ·refine rq ((bG rfl rfl).to bF) ?_
            refine g3 ?_
            refine aP rfl rfl ?_
            refine g1 ?_
            refine aO (ι := Unit) () (⟨⟨by omega, by omega⟩, hh, ⟨by omega, by omega⟩, ⟨by omega, by omega⟩, ⟨by omega, by omega⟩, ⟨by omega, by omega⟩⟩) kns (fun w s => s)
   ·refine rq ((rld 50 rfl rfl rfl).to (v' := .bool false) (cB hh)) ?_
    refine g40 ?_
    refine o6 ?_
    exact gNo rfl
 rintro u t1
 show GC _ _ _ _ [(1, pT b1)] _ _ ([(50, b1)]) (aC 50 0 (bC r x) ++ []) ([])
 obtain ⟨hf1, hf2⟩ := t1.freq
 obtain ⟨hs1, hs2⟩ := t1.start
 obtain ⟨hi1, hi2⟩ := t1.interval
 refine cV (ι := (Unit)) (fun u => (Rt2 r)) (fun u => [(1, pT b1)]) (fun u => [(50, b1)]) (fun u => aC 50 0 (bC r x) ++ []) (fun u => []) ?_ ?_
 ·refine g2 ?_
  refine rq (rfa 6) ?_
  rcases bO (r.hasUntil) with hhu | hhu
  ·refine rq ((rld 50 rfl rfl rfl).to (v' := .bool true) (cB hhu)) ?_
   refine g8 ?_
   refine rq (rfa 6) ?_
   refine g1 ?_
   refine rq ((rld 50 rfl rfl rfl).to (v' := .bool true) (cB hhu)) ?_
   refine g3 ?_
   refine rq (rfa 5) ?_
   refine g1 ?_
   refine rq (rld 50 rfl rfl rfl) ?_
   refine g1 ?_
   by_cases h1 : 0 < r.count
   ·refine rq ((bG rfl rfl).to bT) ?_
    refine g20 ?_
    refine g1 ?_
    refine aY rfl rfl ?_
    refine g7 ?_
    exact gNo rfl
   ·refine rq ((bG rfl rfl).to bF) ?_
    refine g3 ?_
    refine rq (rfa 7) ?_
    refine g1 ?_
    refine rq (rld 50 rfl rfl rfl) ?_
    refine g1 ?_
    by_cases h2 : r.untl < 1
    ·refine rq ((cM rfl rfl).to bT) ?_
     refine g16 ?_
     refine aY rfl rfl ?_
     refine g7 ?_
     exact gNo rfl
    ·refine rq ((cM rfl rfl).to bF) ?_
     refine g5 ?_
     refine rq (rfa 7) ?_
     refine g1 ?_
     refine rq (rld 50 rfl rfl rfl) ?_
     refine g1 ?_
     refine eU dE kR rfl (fun w_ s_ => eZ _ oM w_) ?_
     refine g3 ?_
     by_cases h3 : Cal.daysTo 10000 * 86400 ≤ r.untl
     ·refine rq ((bZ rfl rfl).to bT) ?_
      refine o6 ?_
      exact gNo rfl
     ·refine rq ((bZ rfl rfl).to bF) ?_
      refine g7 ?_
      refine aP rfl rfl ?_
      refine g1 ?_
      refine aO (ι := Unit) () (⟨fun h_ => (by rw [hhu] at h_; cases h_), fun _ => ⟨by have := t1.count; omega, by omega, by omega⟩⟩) kns (fun w s => s)
  ·refine rq ((rld 50 rfl rfl rfl).to (v' := .bool false) (cB hhu)) ?_
   refine g3 ?_
   refine rq (rfa 7) ?_
   refine g1 ?_
   refine rq (rld 50 rfl rfl rfl) ?_
   refine g1 ?_
   by_cases h0 : r.untl ≠ 0
   ·refine rq ((cJ rfl rfl).to (v' := .bool true) (cB (i3 oM))) ?_
    refine g20 ?_
    refine mQ ?_
    exact gNo rfl
   ·refine rq ((cJ rfl rfl).to (v' := .bool false) (cB (jO oM))) ?_
    refine g3 ?_
    refine rq (rfa 6) ?_
    refine g1 ?_
    refine rq ((rld 50 rfl rfl rfl).to (v' := .bool false) (cB hhu)) ?_
    refine g20 ?_
    refine g2 ?_
    refine aP rfl rfl ?_
    refine g1 ?_
    refine aO (ι := Unit) () (⟨fun _ => by omega, fun h_ => (by rw [hhu] at h_; cases h_)⟩) kns (fun w s => s)
 rintro u t2
 show GC _ _ _ _ [(1, pT b1)] _ _ ([(50, b1)]) (aC 50 0 (bC r x) ++ []) ([])
 refine cV (ι := (Unit)) (fun u => (Rt3 r)) (fun u => [(1, pT b1)]) (fun u => [(50, b1)]) (fun u => aC 50 0 (bC r x) ++ []) (fun u => []) ?_ ?_
 ·refine g2 ?_
  refine rl (rfa 8) ?_
  refine rl (rld 50 rfl rfl rfl) ?_
  rcases bO (iR r.setpos 1 366 true) with q9 | q9
  ·refine gL (cvo (v := .bool true) rfl (fun w_ s_ => (dA r.setpos x.p9 x.c9 1 366 true hc.c9 oM oM oM w_ (bM s_ hin.i9)).mono fun e_ w2_ h_ => ⟨h_.1.trans (cE q9), h_.2⟩) ?_)
   refine g3 ?_
   refine rZ1 (rfa 9) ?_
   refine rZ1 (rld 50 rfl rfl rfl) ?_
   rcases bO (iR r.month 1 12 false) with q10 | q10
   ·refine gL (cvo (v := .bool true) rfl (fun w_ s_ => (dA r.month x.p10 x.c10 1 12 false hc.c10 oM oM oM w_ (bM s_ hin.i10)).mono fun e_ w2_ h_ => ⟨h_.1.trans (cE q10), h_.2⟩) ?_)
    refine g5 ?_
    refine rZ1 (rfa 10) ?_
    refine rZ1 (rld 50 rfl rfl rfl) ?_
    rcases bO (iR r.mday 1 31 true) with q11 | q11
    ·refine gL (cvo (v := .bool true) rfl (fun w_ s_ => (dA r.mday x.p11 x.c11 1 31 true hc.c11 oM oM oM w_ (bM s_ hin.i11)).mono fun e_ w2_ h_ => ⟨h_.1.trans (cE q11), h_.2⟩) ?_)
     refine g5 ?_
     refine rZ1 (rfa 11) ?_
     refine rZ1 (rld 50 rfl rfl rfl) ?_
     rcases bO (iR r.yday 1 366 true) with q12 | q12
     ·refine gL (cvo (v := .bool true) rfl (fun w_ s_ => (dA r.yday x.p12 x.c12 1 366 true hc.c12 oM oM oM w_ (bM s_ hin.i12)).mono fun e_ w2_ h_ => ⟨h_.1.trans (cE q12), h_.2⟩) ?_)
      refine g5 ?_
      refine rZ1 (rfa 12) ?_
      refine rZ1 (rld 50 rfl rfl rfl) ?_
      rcases bO (iR r.weekno 1 51 true) with q13 | q13
      ·refine gL (cvo (v := .bool true) rfl (fun w_ s_ => (dA r.weekno x.p13 x.c13 1 51 true hc.c13 oM oM oM w_ (bM s_ hin.i13)).mono fun e_ w2_ h_ => ⟨h_.1.trans (cE q13), h_.2⟩) ?_)
       refine g5 ?_
       refine rZ1 (rfa 14) ?_
       refine rZ1 (rld 50 rfl rfl rfl) ?_
       rcases bO (iR r.hour 0 23 false) with q15 | q15
       ·refine gL (cvo (v := .bool true) rfl (fun w_ s_ => (dA r.hour x.p15 x.c15 0 23 false hc.c15 oM oM oM w_ (bM s_ hin.i15)).mono fun e_ w2_ h_ => ⟨h_.1.trans (cE q15), h_.2⟩) ?_)
        refine g5 ?_
        refine rZ1 (rfa 15) ?_
        refine rZ1 (rld 50 rfl rfl rfl) ?_
        rcases bO (iR r.minute 0 59 false) with q16 | q16
        ·refine gL (cvo (v := .bool true) rfl (fun w_ s_ => (dA r.minute x.p16 x.c16 0 59 false hc.c16 oM oM oM w_ (bM s_ hin.i16)).mono fun e_ w2_ h_ => ⟨h_.1.trans (cE q16), h_.2⟩) ?_)
         refine g5 ?_
         refine rZ1 (rfa 16) ?_
         refine rZ1 (rld 50 rfl rfl rfl) ?_
         rcases bO (iR r.second 0 59 false) with q17 | q17
         ·refine gL (cvo (v := .bool true) rfl (fun w_ s_ => (dA r.second x.p17 x.c17 0 59 false hc.c17 oM oM oM w_ (bM s_ hin.i17)).mono fun e_ w2_ h_ => ⟨h_.1.trans (cE q17), h_.2⟩) ?_)
          refine yZ7 ?_
          refine aO (ι := Unit) () (⟨q9, q10, q11, q12, q13, q15, q16, q17⟩) kns (fun w s => s)
         ·refine gL (cvo (v := .bool false) rfl (fun w_ s_ => (dA r.second x.p17 x.c17 0 59 false hc.c17 oM oM oM w_ (bM s_ hin.i17)).mono fun e_ w2_ h_ => ⟨h_.1.trans (cE q17), h_.2⟩) ?_)
          refine jT ?_
          exact gNo rfl
        ·refine gL (cvo (v := .bool false) rfl (fun w_ s_ => (dA r.minute x.p16 x.c16 0 59 false hc.c16 oM oM oM w_ (bM s_ hin.i16)).mono fun e_ w2_ h_ => ⟨h_.1.trans (cE q16), h_.2⟩) ?_)
         refine g11 ?_
         refine aY rfl rfl ?_
         refine g7 ?_
         exact gNo rfl
       ·refine gL (cvo (v := .bool false) rfl (fun w_ s_ => (dA r.hour x.p15 x.c15 0 23 false hc.c15 oM oM oM w_ (bM s_ hin.i15)).mono fun e_ w2_ h_ => ⟨h_.1.trans (cE q15), h_.2⟩) ?_)
        refine g16 ?_
        refine g1 ?_
        refine aY rfl rfl ?_
        refine g7 ?_
        exact gNo rfl
      ·refine gL (cvo (v := .bool false) rfl (fun w_ s_ => (dA r.weekno x.p13 x.c13 1 51 true hc.c13 oM oM oM w_ (bM s_ hin.i13)).mono fun e_ w2_ h_ => ⟨h_.1.trans (cE q13), h_.2⟩) ?_)
       refine g20 ?_
       refine kQ ?_
       exact gNo rfl
     ·refine gL (cvo (v := .bool false) rfl (fun w_ s_ => (dA r.yday x.p12 x.c12 1 366 true hc.c12 oM oM oM w_ (bM s_ hin.i12)).mono fun e_ w2_ h_ => ⟨h_.1.trans (cE q12), h_.2⟩) ?_)
      refine g25 ?_
      refine mQ ?_
      exact gNo rfl
    ·refine gL (cvo (v := .bool false) rfl (fun w_ s_ => (dA r.mday x.p11 x.c11 1 31 true hc.c11 oM oM oM w_ (bM s_ hin.i11)).mono fun e_ w2_ h_ => ⟨h_.1.trans (cE q11), h_.2⟩) ?_)
     refine g30 ?_
     refine jT ?_
     exact gNo rfl
   ·refine gL (cvo (v := .bool false) rfl (fun w_ s_ => (dA r.month x.p10 x.c10 1 12 false hc.c10 oM oM oM w_ (bM s_ hin.i10)).mono fun e_ w2_ h_ => ⟨h_.1.trans (cE q10), h_.2⟩) ?_)
    refine g40 ?_
    refine g1 ?_
    refine aY rfl rfl ?_
    refine g7 ?_
    exact gNo rfl
  ·refine gL (cvo (v := .bool false) rfl (fun w_ s_ => (dA r.setpos x.p9 x.c9 1 366 true hc.c9 oM oM oM w_ (bM s_ hin.i9)).mono fun e_ w2_ h_ => ⟨h_.1.trans (cE q9), h_.2⟩) ?_)
   refine g40 ?_
   refine jT ?_
   exact gNo rfl
 rintro u t3
 show GC _ _ _ _ [(1, pT b1)] _ _ ([(50, b1)]) (aC 50 0 (bC r x) ++ []) ([])
 refine cV (ι := (Unit)) (fun u => (Rt4 r)) (fun u => [(1, pT b1)]) (fun u => [(50, b1)]) (fun u => aC 50 0 (bC r x) ++ []) (fun u => []) ?_ ?_
 ·refine g2 ?_
  refine rl (rfa 17) ?_
  refine rZ5 (rld 50 rfl rfl rfl) ?_
  refine bJ (ι := (Nat)) (fun k => r.easter.length - k) (fun k => (k ≤ r.easter.length) ∧ (∀ i y, i < k → r.easter[i]? = some y → EOk r i y)) (fun k => [(1, pT b1), (135, .slice x.p18 r.easter.length x.c18), (136, iV (r.easter.length)), (137, iV k)]) (fun k => [(50, b1)]) (fun k => aC 50 0 (bC r x) ++ []) (fun k => []) 0 ⟨Nat.zero_le _, fun i y h => absurd h (Nat.not_lt_zero _)⟩ kns (fun w s => by exact s) ?_
  rintro k ⟨hk, hE⟩
  show GC _ _ _ _ [(1, pT b1), (135, .slice x.p18 r.easter.length x.c18), (136, iV (r.easter.length)), (137, iV k)] _ _ ([(50, b1)]) (aC 50 0 (bC r x) ++ []) ([])
  refine g6 ?_
  refine aB rfl (fun hc1 => ?_) (fun hc2 => ?_)
  ·have hlt : k < r.easter.length := by have := oT hc1; omega
   obtain ⟨y, hy⟩ : ∃ y, r.easter[k]? = some y := ⟨_, List.getElem?_eq_getElem hlt⟩
   obtain ⟨b_, o_, hp0, hcell⟩ := hIE k y hy
   have hI18 : Ints w (.slice (some ⟨b_, o_, none⟩) r.easter.length x.c18) r.easter := hp0 ▸ hin.i18
   refine g7 ?_
   refine rl (aF (e := 3) (n := 1) kR (congrArg (fun p => some (Value.slice p _ _)) hp0) rfl oM oM) ?_
   refine rZ7 (fK rfl (v := iV y) (by rw [← hcell]; congr 2; omega) (fun h => h) kR) ?_
   by_cases h0 : y < -80
   ·refine rl ((cM rfl rfl).to bT) ?_
    refine g18 ?_
    refine jT ?_
    exact gNo rfl
   ·refine rZ4 ((cM rfl rfl).to bF) ?_
    by_cases h1 : 200 < y
    ·refine rl ((bG rfl rfl).to bT) ?_
     refine g16 ?_
     refine mQ ?_
     exact gNo rfl
    ·refine rZ3 ((bG rfl rfl).to bF) ?_
     refine rZ1 (rfa 17) ?_
     refine rZ3 (rld 50 rfl rfl rfl) ?_
     refine rZ3 ((dX (e := 3) (n := 1) kR rfl rfl oM (by have := hc.c18; omega)).to (v' := .slice (some ⟨b_, o_, none⟩) k x.c18) (by rw [hp0]; rfl)) ?_
     rcases bO ((r.easter.take k).any (· == y)) with hno | hno
     ·refine gL (cvo (v := .bool true) rfl (fun w_ s_ => (cQ (r.easter.take k) y _ (by rw [List.length_take]; omega) w_ (n9 (bM s_ hI18) (Nat.le_of_lt hlt))).mono fun e_ w2_ h_ => ⟨h_.1.trans (cE hno), h_.2⟩) ?_)
      refine g8 ?_
      refine mQ ?_
      exact gNo rfl
     ·refine gL (cvo (v := .bool false) rfl (fun w_ s_ => (cQ (r.easter.take k) y _ (by rw [List.length_take]; omega) w_ (n9 (bM s_ hI18) (Nat.le_of_lt hlt))).mono fun e_ w2_ h_ => ⟨h_.1.trans (cE hno), h_.2⟩) ?_)
      refine g3 ?_
      refine rZ1 (rfa 0) ?_
      refine rZ1 (rld 50 rfl rfl rfl) ?_
      by_cases h2 : r.freq ≠ 0
      ·refine rl ((cJ rfl rfl).to (v' := .bool true) (cB (i3 oM))) ?_
       refine o6 ?_
       exact gNo rfl
      ·refine rl ((cJ rfl rfl).to (v' := .bool false) (cB (jO oM))) ?_
       refine kQ ?_
       refine aQ (k + 1) oM ⟨by omega, fun i y' hi_ hy_ => by
         rcases Nat.lt_or_ge i k with h_ | h_
         ·exact hE i y' h_ hy_
         ·obtain rfl : i = k := by omega
          obtain rfl : y' = y := by rw [hy] at hy_; injection hy_ with e_; exact e_.symm
          exact ⟨by omega, by omega, by omega, hno⟩⟩ kns (fun w s => by exact s)
  ·obtain rfl : k = r.easter.length := by have := oF hc2; omega
   refine g4 ?_
   refine aO (ι := Unit) () (fun i y hy => hE i y (by have := (List.getElem?_eq_some_iff.1 hy).1; omega) hy) kns (fun w s => s)
 rintro u t4
 show GC _ _ _ _ [(1, pT b1)] _ _ ([(50, b1)]) (aC 50 0 (bC r x) ++ []) ([])
 refine cV (ι := (Unit)) (fun u => (Rt5 r)) (fun u => [(1, pT b1)]) (fun u => [(50, b1)]) (fun u => aC 50 0 (bC r x) ++ []) (fun u => []) ?_ ?_
 ·refine g2 ?_
  refine rl (rfa 0) ?_
  refine rl (rld 50 rfl rfl rfl) ?_
  by_cases h0 : r.freq ≠ 0
  ·refine rZ2 ((cJ rfl rfl).to (v' := .bool true) (cB (i3 oM))) ?_
   refine rZ1 (rfa 12) ?_
   refine rZ3 (rld 50 rfl rfl rfl) ?_
   by_cases h1 : 0 < r.weekno.length
   ·refine rl ((bG rfl rfl).to bT) ?_
    refine g20 ?_
    refine g2 ?_
    refine aY rfl rfl ?_
    refine g7 ?_
    exact gNo rfl
   ·refine rZ3 ((bG rfl rfl).to bF) ?_
    refine rZ1 (rfa 11) ?_
    refine rZ3 (rld 50 rfl rfl rfl) ?_
    by_cases h2 : 0 < r.yday.length
    ·refine rl ((bG rfl rfl).to bT) ?_
     refine g16 ?_
     refine aY rfl rfl ?_
     refine g7 ?_
     exact gNo rfl
    ·refine rZ5 ((bG rfl rfl).to bF) ?_
     refine rZ1 (rfa 0) ?_
     refine rZ1 (rld 50 rfl rfl rfl) ?_
     by_cases h3 : r.freq = 2
     ·refine rZ3 ((aR rfl rfl).to eT) ?_
      refine rZ1 (rfa 10) ?_
      refine rZ3 (rld 50 rfl rfl rfl) ?_
      by_cases h4 : 0 < r.mday.length
      ·refine rl ((bG rfl rfl).to bT) ?_
       refine jT ?_
       exact gNo rfl
      ·refine wZ7 ((bG rfl rfl).to bF) ?_
       refine aO (ι := Unit) () (⟨fun h_ => by omega, fun h_ => by omega⟩) kns (fun w s => s)
     ·refine rl ((aR rfl rfl).to eF) ?_
      refine jT ?_
      refine aO (ι := Unit) () (⟨fun h_ => by omega, fun h_ => by omega⟩) kns (fun w s => s)
  ·refine rl ((cJ rfl rfl).to (v' := .bool false) (cB (jO oM))) ?_
   refine g14 ?_
   refine rZ1 (rfa 0) ?_
   refine rZ1 (rld 50 rfl rfl rfl) ?_
   by_cases h3 : r.freq = 2
   ·refine rZ3 ((aR rfl rfl).to eT) ?_
    refine rZ1 (rfa 10) ?_
    refine rZ3 (rld 50 rfl rfl rfl) ?_
    by_cases h4 : 0 < r.mday.length
    ·refine rl ((bG rfl rfl).to bT) ?_
     refine jT ?_
     exact gNo rfl
    ·refine wZ7 ((bG rfl rfl).to bF) ?_
     refine aO (ι := Unit) () (⟨fun h_ => by omega, fun h_ => by omega⟩) kns (fun w s => s)
   ·refine rl ((aR rfl rfl).to eF) ?_
    refine jT ?_
    refine aO (ι := Unit) () (⟨fun h_ => by omega, fun h_ => by omega⟩) kns (fun w s => s)
 rintro u t5
 show GC _ _ _ _ [(1, pT b1)] _ _ ([(50, b1)]) (aC 50 0 (bC r x) ++ []) ([])
 refine cV (ι := (Unit)) (fun u => (Rt6 r)) (fun u => [(1, pT b1)]) (fun u => [(50, b1)]) (fun u => aC 50 0 (bC r x) ++ []) (fun u => []) ?_ ?_
 ·refine g2 ?_
  refine rl (rfa 13) ?_
  refine rZ5 (rld 50 rfl rfl rfl) ?_
  refine bJ (ι := (Nat)) (fun k => r.wday.length - k) (fun k => (k ≤ r.wday.length) ∧ (∀ i y, i < k → r.wday[i]? = some y → DOk r i y)) (fun k => [(1, pT b1), (189, .slice x.p14 r.wday.length x.c14), (190, iV (r.wday.length)), (191, iV k)]) (fun k => [(50, b1)]) (fun k => aC 50 0 (bC r x) ++ []) (fun k => []) 0 ⟨Nat.zero_le _, fun i y h => absurd h (Nat.not_lt_zero _)⟩ kns (fun w s => by exact s) ?_
  rintro k ⟨hk, hE⟩
  show GC _ _ _ _ [(1, pT b1), (189, .slice x.p14 r.wday.length x.c14), (190, iV (r.wday.length)), (191, iV k)] _ _ ([(50, b1)]) (aC 50 0 (bC r x) ++ []) ([])
  refine g6 ?_
  refine aB rfl (fun hc1 => ?_) (fun hc2 => ?_)
  ·have hlt : k < r.wday.length := by have := oT hc1; omega
   obtain ⟨y, hy⟩ : ∃ y, r.wday[k]? = some y := ⟨_, List.getElem?_eq_getElem hlt⟩
   obtain ⟨y0, hy0⟩ : ∃ y0, r.wday[0]? = some y0 := ⟨_, List.getElem?_eq_getElem (show 0 < r.wday.length by omega)⟩
   obtain ⟨b_, o_, hp0, hca, hcb⟩ := hID k y hy
   obtain ⟨b0, o0, hp00, hca0, hcb0⟩ := hID 0 y0 hy0
   have hI14 : Prs w (.slice (some ⟨b_, o_, none⟩) r.wday.length x.c14) r.wday := hp0 ▸ hin.i14
   refine g7 ?_
   refine rl (aF (e := 47) (n := 2) kR (congrArg (fun p => some (Value.slice p _ _)) hp0) rfl oM oM) ?_
   refine rl (gT rfl (by rw [← hca]; congr 2; omega) (by rw [← hcb]; congr 2; omega) (fun h => h) kR) ?_
   refine gL (eB 51 (cs := [iV 0, iV 0]) dE kR rfl (fun o ho => by repeat (first | rfl | rw [aK dE ho _ _ ble])) ble (fun b2_ hb2_ => ?_))
   refine g1 ?_
   refine gL (sta 51 rfl rfl rfl rfl ?_)
   refine g7 ?_
   refine cV (ι := (Int)) (fun m1 => (m1 = nR r)) (fun m1 => [(1, pT b1), (189, .slice x.p14 r.wday.length x.c14), (190, iV (r.wday.length)), (191, iV k), (5, iV k), (6, pT b2_), (7, iV m1)]) (fun m1 => [(51, b2_), (50, b1)]) (fun m1 => (cX 51 0 #[iV y.1, iV y.2].toList (aC 51 0 [iV 0, iV 0] ++ (aC 50 0 (bC r x) ++ [])))) (fun m1 => []) ?_ ?_
   ·refine g2 ?_
    refine rl (rfa 0) ?_
    refine rl (rld 50 rfl rfl rfl) ?_
    by_cases h0 : r.freq = 1
    ·refine rl ((aR rfl rfl).to eT) ?_
     refine xD ?_
     refine aO (ι := Int) (5) (by unfold nR; rw [if_pos oM]) kno (fun w s => s)
    ·refine rZ2 ((aR rfl rfl).to eF) ?_
     refine rZ1 (rfa 0) ?_
     refine rZ1 (rld 50 rfl rfl rfl) ?_
     by_cases h1 : r.freq = 0
     ·refine rZ3 ((aR rfl rfl).to eT) ?_
      refine rZ1 (rfa 9) ?_
      refine rZ3 (rld 50 rfl rfl rfl) ?_
      by_cases h2 : 0 < r.month.length
      ·refine rl ((bG rfl rfl).to bT) ?_
       refine g5 ?_
       refine aY rfl rfl ?_
       refine g3 ?_
       refine aO (ι := Int) (5) (by unfold nR; rw [if_pos oM]) kno (fun w s => s)
      ·refine rl ((bG rfl rfl).to bF) ?_
       refine g5 ?_
       refine aP rfl rfl ?_
       refine g2 ?_
       refine rl (rfa 0) ?_
       refine rZ3 (rld 50 rfl rfl rfl) ?_
       refine aB rfl (fun hc1 => ?_) (fun hc2 => ?_)
       ·have h3 : r.freq = 0 := beq_iff_eq.1 hc1
        refine g3 ?_
        refine aO (ι := Int) (53) (by unfold nR; rw [if_neg oM, if_pos h3]) kno (fun w s => s)
       ·have h3 : r.freq ≠ 0 := beq_eq_false_iff_ne.1 hc2
        refine g1 ?_
        refine aO (ι := Int) (0) (by unfold nR; rw [if_neg oM, if_neg h3]) kno (fun w s => s)
     ·refine rl ((aR rfl rfl).to eF) ?_
      refine lJ ?_
      refine rl (rfa 0) ?_
      refine rZ3 (rld 50 rfl rfl rfl) ?_
      refine aB rfl (fun hc1 => ?_) (fun hc2 => ?_)
      ·have h3 : r.freq = 0 := beq_iff_eq.1 hc1
       refine g3 ?_
       refine aO (ι := Int) (53) (by unfold nR; rw [if_neg oM, if_pos h3]) kno (fun w s => s)
      ·have h3 : r.freq ≠ 0 := beq_eq_false_iff_ne.1 hc2
       refine g1 ?_
       refine aO (ι := Int) (0) (by unfold nR; rw [if_neg oM, if_neg h3]) kno (fun w s => s)
   rintro m1 hm1
   show GC _ _ _ _ [(1, pT b1), (189, .slice x.p14 r.wday.length x.c14), (190, iV (r.wday.length)), (191, iV k), (5, iV k), (6, pT b2_), (7, iV m1)] _ _ ([(51, b2_), (50, b1)]) ((cX 51 0 #[iV y.1, iV y.2].toList (aC 51 0 [iV 0, iV 0] ++ (aC 50 0 (bC r x) ++ [])))) ([])
   have hbm1 : 0 ≤ m1 ∧ m1 ≤ 53 := by rw [hm1]; unfold nR; repeat (first | omega | split)
   refine cV (ι := (Int)) (fun m => (m = rR r)) (fun m => [(1, pT b1), (189, .slice x.p14 r.wday.length x.c14), (190, iV (r.wday.length)), (191, iV k), (5, iV k), (6, pT b2_), (7, iV m)]) (fun m => [(51, b2_), (50, b1)]) (fun m => (cX 51 0 #[iV y.1, iV y.2].toList (aC 51 0 [iV 0, iV 0] ++ (aC 50 0 (bC r x) ++ [])))) (fun m => []) ?_ ?_
   ·refine g2 ?_
    refine rl (rfa 12) ?_
    refine rZ4 (rld 50 rfl rfl rfl) ?_
    refine aB rfl (fun hc1 => ?_) (fun hc2 => ?_)
    ·have h4 : 0 < r.weekno.length := by have := oT hc1; omega
     refine g3 ?_
     refine aO (ι := Int) (0) (by unfold rR; rw [if_pos h4]) kno (fun w s => s)
    ·have h4 : ¬ 0 < r.weekno.length := by have := oF hc2; omega
     refine g1 ?_
     refine aO (ι := Int) (m1) (by unfold rR; rw [if_neg h4]; exact hm1) kno (fun w s => s)
   rintro m hm
   show GC _ _ _ _ [(1, pT b1), (189, .slice x.p14 r.wday.length x.c14), (190, iV (r.wday.length)), (191, iV k), (5, iV k), (6, pT b2_), (7, iV m)] _ _ ([(51, b2_), (50, b1)]) ((cX 51 0 #[iV y.1, iV y.2].toList (aC 51 0 [iV 0, iV 0] ++ (aC 50 0 (bC r x) ++ [])))) ([])
   have hbm : 0 ≤ m ∧ m ≤ 53 := by rw [hm]; unfold rR nR; repeat (first | omega | split)
   refine g3 ?_
   refine rq (rfa 1) ?_
   refine rq (rld 51 rfl rfl rfl) ?_
   by_cases hz : y.2 = 0
   ·refine rq ((aR rfl rfl).to eT) ?_
    refine rq (rfa 13) ?_
    refine rq (rld 50 rfl rfl rfl) ?_
    refine rq (aF (e := 47) (n := 2) kR (congrArg (fun p => some (Value.slice p _ _)) hp00) rfl oM oM) ?_
    refine rq (rfa 1) ?_
    refine rq (fK rfl (v := iV y0.2) (by rw [← hcb0]; congr 2 <;> omega) (fun h => h) kR) ?_
    by_cases hz0 : y0.2 = 0
    ·refine rq ((aR rfl rfl).to eT) ?_
     refine rq ((sP rfl rfl).to (v' := .bool false) rfl) ?_
     refine yZ7 ?_
     refine rq (rfa 0) ?_
     refine rq (rld 51 rfl rfl rfl) ?_
     by_cases g0 : y.1 < 0
     ·refine rq ((cM rfl rfl).to bT) ?_
      refine g30 ?_
      refine lJ ?_
      exact gNo rfl
     ·refine rq ((cM rfl rfl).to bF) ?_
      refine g2 ?_
      refine rq (rfa 0) ?_
      refine g1 ?_
      refine rq (rld 51 rfl rfl rfl) ?_
      refine g1 ?_
      by_cases g1_ : 6 < y.1
      ·refine rq ((bG rfl rfl).to bT) ?_
       refine g25 ?_
       refine o6 ?_
       exact gNo rfl
      ·refine rq ((bG rfl rfl).to bF) ?_
       refine g3 ?_
       refine rq (rfa 1) ?_
       refine g1 ?_
       refine rq (rld 51 rfl rfl rfl) ?_
       refine g5 ?_
       by_cases g2_ : y.2 < -m
       ·refine rq ((cM rfl rfl).to bT) ?_
        refine g20 ?_
        refine jT ?_
        exact gNo rfl
       ·refine rq ((cM rfl rfl).to bF) ?_
        refine g3 ?_
        refine rq (rfa 1) ?_
        refine g1 ?_
        refine rq (rld 51 rfl rfl rfl) ?_
        refine g3 ?_
        by_cases g3_ : m < y.2
        ·refine rq ((bG rfl rfl).to bT) ?_
         refine g15 ?_
         refine mQ ?_
         exact gNo rfl
        ·refine rq ((bG rfl rfl).to bF) ?_
         refine g3 ?_
         refine rq (rfa 13) ?_
         refine g1 ?_
         refine rq (rld 50 rfl rfl rfl) ?_
         refine g3 ?_
         refine rq ((dX (e := 47) (n := 2) kR rfl rfl oM (by have := hc.c14; omega)).to (v' := .slice (some ⟨b_, o_, none⟩) k x.c14) (by rw [hp0]; rfl)) ?_
         refine g1 ?_
         refine rq (aV 51 rfl rfl rfl rfl kR dE) ?_
         refine g1 ?_
         rcases bO ((r.wday.take k).any (· == y)) with hno | hno
         ·refine eU (v := .bool true) dE kR rfl (fun w_ s_ => (iW (r.wday.take k) y _ (by rw [List.length_take]; omega) w_ (pR (oC s_ hI14) (Nat.le_of_lt hlt))).mono fun e_ w2_ h_ => ⟨h_.1.trans (cE hno), h_.2⟩) ?_
          refine g7 ?_
          refine mQ ?_
          exact gNo rfl
         ·refine eU (v := .bool false) dE kR rfl (fun w_ s_ => (iW (r.wday.take k) y _ (by rw [List.length_take]; omega) w_ (pR (oC s_ hI14) (Nat.le_of_lt hlt))).mono fun e_ w2_ h_ => ⟨h_.1.trans (cE hno), h_.2⟩) ?_
          refine g5 ?_
          by_cases g4_ : 100 ≤ (k : Int)
          ·refine rq ((bZ rfl rfl).to bT) ?_
           refine o6 ?_
           exact gNo rfl
          ·refine rq ((bZ rfl rfl).to bF) ?_
           refine kQ ?_
           refine aQ (k + 1) oM ⟨by omega, fun i y' hi_ hy_ => by
             rcases Nat.lt_or_ge i k with h_ | h_
             ·exact hE i y' h_ hy_
             ·obtain rfl : i = k := by omega
              obtain rfl : y' = y := by rw [hy] at hy_; injection hy_ with e_; exact e_.symm
              exact ⟨fun y1 h1 => by rw [hy0] at h1; injection h1 with h1; rw [← h1]; omega, by omega, by rw [hm, hm1] at *; omega, hno, by omega⟩⟩ kns (fun w s => by exact (s.low 51 (by exact ⟨fun k hk => by rw [aA oM]; rfl, fun k hk o ho => by rw [aK oM ho _ _ ble]; rfl, fun _ _ => rfl⟩) agx agx agx))
    ·refine rq ((aR rfl rfl).to eF) ?_
     refine rq ((sP rfl rfl).to (v' := .bool true) rfl) ?_
     refine o6 ?_
     exact gNo rfl
   ·refine rq ((aR rfl rfl).to eF) ?_
    refine rq (rfa 13) ?_
    refine rq (rld 50 rfl rfl rfl) ?_
    refine rq (aF (e := 47) (n := 2) kR (congrArg (fun p => some (Value.slice p _ _)) hp00) rfl oM oM) ?_
    refine rq (rfa 1) ?_
    refine rq (fK rfl (v := iV y0.2) (by rw [← hcb0]; congr 2 <;> omega) (fun h => h) kR) ?_
    by_cases hz0 : y0.2 = 0
    ·refine rq ((aR rfl rfl).to eT) ?_
     refine rq ((sP rfl rfl).to (v' := .bool true) rfl) ?_
     refine o6 ?_
     exact gNo rfl
    ·refine rq ((aR rfl rfl).to eF) ?_
     refine rq ((sP rfl rfl).to (v' := .bool false) rfl) ?_
     refine yZ7 ?_
     refine rq (rfa 0) ?_
     refine rq (rld 51 rfl rfl rfl) ?_
     by_cases g0 : y.1 < 0
     ·refine rq ((cM rfl rfl).to bT) ?_
      refine g30 ?_
      refine lJ ?_
      exact gNo rfl
     ·refine rq ((cM rfl rfl).to bF) ?_
      refine g2 ?_
      refine rq (rfa 0) ?_
      refine g1 ?_
      refine rq (rld 51 rfl rfl rfl) ?_
      refine g1 ?_
      by_cases g1_ : 6 < y.1
      ·refine rq ((bG rfl rfl).to bT) ?_
       refine g25 ?_
       refine o6 ?_
       exact gNo rfl
      ·refine rq ((bG rfl rfl).to bF) ?_
       refine g3 ?_
       refine rq (rfa 1) ?_
       refine g1 ?_
       refine rq (rld 51 rfl rfl rfl) ?_
       refine g5 ?_
       by_cases g2_ : y.2 < -m
       ·refine rq ((cM rfl rfl).to bT) ?_
        refine g20 ?_
        refine jT ?_
        exact gNo rfl
       ·refine rq ((cM rfl rfl).to bF) ?_
        refine g3 ?_
        refine rq (rfa 1) ?_
        refine g1 ?_
        refine rq (rld 51 rfl rfl rfl) ?_
        refine g3 ?_
        by_cases g3_ : m < y.2
        ·refine rq ((bG rfl rfl).to bT) ?_
         refine g15 ?_
         refine mQ ?_
         exact gNo rfl
        ·refine rq ((bG rfl rfl).to bF) ?_
         refine g3 ?_
         refine rq (rfa 13) ?_
         refine g1 ?_
         refine rq (rld 50 rfl rfl rfl) ?_
         refine g3 ?_
         refine rq ((dX (e := 47) (n := 2) kR rfl rfl oM (by have := hc.c14; omega)).to (v' := .slice (some ⟨b_, o_, none⟩) k x.c14) (by rw [hp0]; rfl)) ?_
         refine g1 ?_
         refine rq (aV 51 rfl rfl rfl rfl kR dE) ?_
         refine g1 ?_
         rcases bO ((r.wday.take k).any (· == y)) with hno | hno
         ·refine eU (v := .bool true) dE kR rfl (fun w_ s_ => (iW (r.wday.take k) y _ (by rw [List.length_take]; omega) w_ (pR (oC s_ hI14) (Nat.le_of_lt hlt))).mono fun e_ w2_ h_ => ⟨h_.1.trans (cE hno), h_.2⟩) ?_
          refine g7 ?_
          refine mQ ?_
          exact gNo rfl
         ·refine eU (v := .bool false) dE kR rfl (fun w_ s_ => (iW (r.wday.take k) y _ (by rw [List.length_take]; omega) w_ (pR (oC s_ hI14) (Nat.le_of_lt hlt))).mono fun e_ w2_ h_ => ⟨h_.1.trans (cE hno), h_.2⟩) ?_
          refine g5 ?_
          by_cases g4_ : 100 ≤ (k : Int)
          ·refine rq ((bZ rfl rfl).to bT) ?_
           refine o6 ?_
           exact gNo rfl
          ·refine rq ((bZ rfl rfl).to bF) ?_
           refine kQ ?_
           refine aQ (k + 1) oM ⟨by omega, fun i y' hi_ hy_ => by
             rcases Nat.lt_or_ge i k with h_ | h_
             ·exact hE i y' h_ hy_
             ·obtain rfl : i = k := by omega
              obtain rfl : y' = y := by rw [hy] at hy_; injection hy_ with e_; exact e_.symm
              exact ⟨fun y1 h1 => by rw [hy0] at h1; injection h1 with h1; rw [← h1]; omega, by omega, by rw [hm, hm1] at *; omega, hno, by omega⟩⟩ kns (fun w s => by exact (s.low 51 (by exact ⟨fun k hk => by rw [aA oM]; rfl, fun k hk o ho => by rw [aK oM ho _ _ ble]; rfl, fun _ _ => rfl⟩) agx agx agx))
  ·obtain rfl : k = r.wday.length := by have := oF hc2; omega
   refine g4 ?_
   refine aO (ι := Unit) () (fun i y hy => hE i y (by have := (List.getElem?_eq_some_iff.1 hy).1; omega) hy) kns (fun w s => s)
 rintro u t6
 show GC _ _ _ _ [(1, pT b1)] _ _ ([(50, b1)]) (aC 50 0 (bC r x) ++ []) ([])
 refine cV (ι := (Unit)) (fun u => (Rt7 r)) (fun u => [(1, pT b1)]) (fun u => [(50, b1)]) (fun u => aC 50 0 (bC r x) ++ []) (fun u => []) ?_ ?_
 ·refine g2 ?_
  refine rq (rfa 0) ?_
  refine rq (rld 50 rfl rfl rfl) ?_
  by_cases h0 : r.freq = 2
  ·refine rq ((aR rfl rfl).to eT) ?_
   refine g2 ?_
   refine rq (rfa 8) ?_
   refine g1 ?_
   refine rq (rld 50 rfl rfl rfl) ?_
   refine g3 ?_
   by_cases h1 : 0 < r.setpos.length
   ·refine rq ((bG rfl rfl).to bT) ?_
    refine g3 ?_
    refine rq (rfa 2) ?_
    refine g1 ?_
    refine rq (rld 50 rfl rfl rfl) ?_
    refine g3 ?_
    refine eU dE kR rfl (fun w_ s_ => jD _ oM w_) ?_
    refine g1 ?_
    refine rq (rfa 4) ?_
    refine g1 ?_
    refine rq (rld 50 rfl rfl rfl) ?_
    refine g1 ?_
    by_cases h2 : r.start / 86400 % 7 ≠ r.wkst
    ·refine rq ((cJ rfl rfl).to (v' := .bool true) (cB (i3 oM))) ?_
     refine kQ ?_
     exact gNo rfl
    ·refine rq ((cJ rfl rfl).to (v' := .bool false) (cB (jO oM))) ?_
     refine g3 ?_
     refine aP rfl rfl ?_
     refine g1 ?_
     refine aO (ι := Unit) () (fun _ _ => by omega) kns (fun w s => s)
   ·refine rq ((bG rfl rfl).to bF) ?_
    refine lJ ?_
    refine aO (ι := Unit) () (fun _ h_ => absurd h_ h1) kns (fun w s => s)
  ·refine rq ((aR rfl rfl).to eF) ?_
   refine g16 ?_
   refine g1 ?_
   refine aP rfl rfl ?_
   refine g1 ?_
   refine aO (ι := Unit) () (fun h_ => absurd h_ h0) kns (fun w s => s)
 rintro u t7
 show GC _ _ _ _ [(1, pT b1)] _ _ ([(50, b1)]) (aC 50 0 (bC r x) ++ []) ([])
 refine cV (ι := (Unit)) (fun u => (Rt8 r)) (fun u => [(1, pT b1)]) (fun u => [(50, b1)]) (fun u => aC 50 0 (bC r x) ++ []) (fun u => []) ?_ ?_
 ·refine g2 ?_
  refine rl (rfa 0) ?_
  refine rl (rld 50 rfl rfl rfl) ?_
  by_cases h0 : 4 ≤ r.freq
  ·refine rZ2 ((bZ rfl rfl).to bT) ?_
   refine rZ1 ((dP 50 (cs := bC r x) rfl rfl (fJ (bC r x) 0 ble) ble kR)) ?_
   refine gL (cbx (fun b : Bool => .bool b) (fun b => b = true → aAj r) rfl (fun w_ s_ => xU r x oM t1.interval oM ⟨l9, l10, l11, l12, l13, l14, l15, l16, l17, l18⟩ w_ (InL.see s_ hin)) (fun mb hmb => ?_))
   refine g1 ?_
   rcases bO ((!mb)) with hm | hm
   ·refine rl ((gA rfl).to (v' := .bool true) (cB hm)) ?_
    refine kQ ?_
    exact gNo rfl
   ·refine rl ((gA rfl).to (v' := .bool false) (cB hm)) ?_
    refine g3 ?_
    refine aP rfl rfl ?_
    refine g1 ?_
    refine aO (ι := Unit) () (fun _ => hmb (by simpa using hm)) kns (fun w s => s)
  ·refine rl ((bZ rfl rfl).to bF) ?_
   refine g7 ?_
   refine aP rfl rfl ?_
   refine g1 ?_
   refine aO (ι := Unit) () (fun h_ => absurd h_ h0) kns (fun w s => s)
 rintro u t8
 show GC _ _ _ _ [(1, pT b1)] _ _ ([(50, b1)]) (aC 50 0 (bC r x) ++ []) ([])
 refine g2 ?_
 refine rl (rfa 9) ?_
 refine rZ1 (rld 50 rfl rfl rfl) ?_
 refine rl (rfa 10) ?_
 refine rZ2 (rld 50 rfl rfl rfl) ?_
 refine rl (rfa 11) ?_
 refine rZ2 (rld 50 rfl rfl rfl) ?_
 refine rl (rfa 12) ?_
 refine rZ2 (rld 50 rfl rfl rfl) ?_
 refine rl (rfa 13) ?_
 refine rZ2 (rld 50 rfl rfl rfl) ?_
 refine rl (rfa 14) ?_
 refine rZ2 (rld 50 rfl rfl rfl) ?_
 refine rl (rfa 15) ?_
 refine rZ2 (rld 50 rfl rfl rfl) ?_
 refine rl (rfa 16) ?_
 refine rZ2 (rld 50 rfl rfl rfl) ?_
 refine rl (rfa 17) ?_
 refine rZ7 (rld 50 rfl rfl rfl) ?_
 refine rl (rfa 8) ?_
 refine rZ1 (rld 50 rfl rfl rfl) ?_
 by_cases h0 : r.setpos.length = 0
 ·refine rl ((aR rfl rfl).to eT) ?_
  refine g8 ?_
  exact aT (.inl rfl) rfl (aD rfl) fun w_ s_ => ⟨_, (by first | (intro h_; cases h_; done) | exact fun _ => ⟨t1, t2, t3, t4, t5, t6, t7, t8, .inl h0⟩), rfl, s_.aJ0⟩
 ·refine rZ4 ((aR rfl rfl).to eF) ?_
  by_cases h1 : 0 < (r.month.length : Int) + r.mday.length + r.yday.length + r.weekno.length + r.wday.length + r.hour.length + r.minute.length + r.second.length + r.easter.length
  ·refine rZ5 ((bG rfl rfl).to bT) ?_
   exact aT (.inl rfl) rfl (aD rfl) fun w_ s_ => ⟨_, (by first | (intro h_; cases h_; done) | exact fun _ => ⟨t1, t2, t3, t4, t5, t6, t7, t8, .inr oM⟩), rfl, s_.aJ0⟩
  ·refine rZ5 ((bG rfl rfl).to bF) ?_
   exact gNo rfl
open Go.Md
def cI (c st en most : Int) : List Int → List Int → List Int × Bool
 | o, [] => (o, true)
 | o, t :: l => if t < st then cI c st en most o l else if (o.length : Int) = most ∨ (0 < c ∧ (o.length : Int) = c) ∨ en < t then (o, false) else cI c st en most (o ++ [t]) l
def iU (c most : Int) (n : Nat) : Bool := decide ((n : Int) < most) && (c == 0 || decide ((n : Int) < c))
def dS (r : Rul) (st en most : Int) (o l : List Int) : List Int × Bool := ((cI r.count st en most o (dJ l r.setpos)).1, (cI r.count st en most o (dJ l r.setpos)).2 && iU r.count most (cI r.count st en most o (dJ l r.setpos)).1.length)
theorem i6 (c st en most : Int) : ∀ (l o : List Int), (o.length : Int) ≤ most → ((cI c st en most o l).1.length : Int) ≤ most
 | [], o, h => h
 | t :: l, o, h => by
  unfold cI
  split
  ·exact i6 c st en most l o h
  ·split
   ·exact h
   ·exact i6 c st en most l _ (by rw [List.length_append]; simp only [List.length_singleton]; omega)
theorem zF (l at_ : List Int) : (dJ l at_).length ≤ l.length := by
 unfold dJ
 split
 ·exact Nat.le_refl _
 ·exact aE3 _ _ _
theorem tD (c st en most : Int) (o : List Int) {L : List Int} {k : Nat} {y : Int} (hy : L[k]? = some y) : cI c st en most o (L.drop k) = if y < st then cI c st en most o (L.drop (k + 1)) else if (o.length : Int) = most ∨ (0 < c ∧ (o.length : Int) = c) ∨ en < y then (o, false) else cI c st en most (o ++ [y]) (L.drop (k + 1)) := by
 obtain ⟨hk, rfl⟩ := List.getElem?_eq_some_iff.1 hy
 rw [List.drop_eq_getElem_cons hk]
 rfl
theorem mO {P : Program} {N : Nat} {L : Fr.Loc} {d : Nat} {ty : TypeId} {pos : String} {aft : Array Edge} {g : Option (Nat × Bool)} (j : Nat) {t : TypeId} {x : Operand} {b off len n cap : Nat} {e : TypeId} {y : Int} {xs : List Int} (hx : ev L x = some (.pointer (some ⟨b, off, none⟩))) (hr : lkp j S = some ⟨sL b len cap, e, 1, n, xs.map iV⟩) (hv : xs[off]? = some y) (ht : nQ P t = true) : Rd P ⟨some d, .load t x, ty, pos, aft, g⟩ N L F w0 B H S (iV y) :=
 bP j hx hr rfl (by rw [List.getElem?_map, hv]; rfl) ht
theorem nG {r : Rul} {x : Av} {b1 b4 b8 b9 b10 : Nat} (hB0 : lkp 50 B = some b1) (hB1 : lkp 51 B = some b4) (hB2 : lkp 52 B = some b8) (hB3 : lkp 53 B = some b9) (hB4 : lkp 54 B = some b10) {most st en : Int} (h505 : lkp (ky 50 5) H = some (iV r.count)) (h508 : lkp (ky 50 8) H = some (.slice x.p9 r.setpos.length x.c9)) (h51 : lkp (ky 51 0) H = some (iV most)) (h52 : lkp (ky 52 0) H = some (iV st)) (h53 : lkp (ky 53 0) H = some (iV en))
  {p0 : Option Addr} {c0 : Nat} {o0 : List Int} (h54 : lkp (ky 54 0) H = some (.slice p0 o0.length c0)) (hS5 : lkp 55 S = some ⟨.slice p0 o0.length c0, 2, 1, o0.length, (o0.map iV)⟩) {pl : Option Addr} {cl : Nat} {l : List Int} (hS6 : lkp 56 S = some ⟨.slice pl l.length cl, 2, 1, l.length, (l.map iV)⟩) (lim : Lim 57 B H S) (hm : (o0.length : Int) ≤ most ∧ most ≤ 1000000) (hll : l.length ≤ 1000000000) (hsp : ∀ w, Sees F w0 B H S w → Ints w (.slice x.p9 r.setpos.length x.c9) r.setpos) (l9 : r.setpos.length ≤ 2147483647) : ∀ w, Sees F w0 B H S w → Calls Tryz.prog 56 #[.slice pl l.length cl, pT b1, pT b8, pT b10, pT b4, pT b9] w fun e w' => ∃ p' c', e = .returned (.bool (dS r st en most o0 l).2) ∧ Sees F w0 B ((ky 54 0, .slice p' (dS r st en most o0 l).1.length c') :: H) ((55, ⟨.slice p' (dS r st en most o0 l).1.length c', 2, 1, (dS r st en most o0 l).1.length, ((dS r st en most o0 l).1.map iV)⟩) :: S) w' := by
 intro w s
 refine aI (args := [.slice pl l.length cl, pT b1, pT b8, pT b10, pT b4, pT b9]) (L := [(0, .slice pl l.length cl), (1, pT b1), (2, pT b8), (3, pT b10), (4, pT b4), (5, pT b9)]) (N := 64) Tryz.func56 rfl rfl ble rfl s ?_
 refine g5 ?_
 have hpl_ := zF l r.setpos
 by_cases h0 : r.setpos.length = 0
 ·refine g4 ?_
  refine rl (rfa 8) ?_
  refine rl (rld 50 rfl hB0 h508) ?_
  refine gL (cvo (v := .slice pl l.length cl) rfl (fun w_ s_ => (mW l r.setpos pl cl _ hll l9 w_ (s_.ints 56 hS6) (hsp w_ s_)).mono fun e_ w2_ ⟨p_, c_, h1_, h2_⟩ => by rcases h2_ with ⟨_, rfl, rfl, h3_⟩ | ⟨h3_, _⟩; exact ⟨by rw [h1_]; unfold dJ; rw [if_pos h0], h3_⟩; exact absurd h0 h3_) ?_)
  refine g5 ?_
  refine bJ (ι := (Nat) × (List Int) × (Option Addr) × (Nat) × (Nat) × (List Value)) (fun | ⟨k, o, p, c, n, xs⟩ => l.length - k) (fun | ⟨k, o, p, c, n, xs⟩ => (k ≤ l.length) ∧ (cI r.count st en most o (l.drop k) = cI r.count st en most o0 l) ∧ (n = o.length) ∧ (xs = o.map iV) ∧ ((n : Int) ≤ most)) (fun | ⟨k, o, p, c, n, xs⟩ => [(1, pT b1), (2, pT b8), (3, pT b10), (4, pT b4), (5, pT b9), (13, .slice pl l.length cl), (14, iV (l.length)), (15, iV k)]) (fun | ⟨k, o, p, c, n, xs⟩ => B) (fun | ⟨k, o, p, c, n, xs⟩ => (ky 54 0, .slice p n c) :: H) (fun | ⟨k, o, p, c, n, xs⟩ => (55, ⟨.slice p n c, 2, 1, n, xs⟩) :: S) ⟨0, o0, p0, c0, o0.length, o0.map iV⟩ ⟨Nat.zero_le _, rfl, rfl, rfl, hm.1⟩ kns (fun w s => by exact (s.to (fun _ _ h => h) (fun k o v ho h => (by rcases bB h with ⟨e, rfl⟩ | ⟨_, h⟩; { rw [e]; exact ⟨h54, by obtain ⟨rfl, rfl⟩ := gK ho dE e; rw [hB4]; rfl⟩ }; exact ⟨h, by obtain ⟨b, e, _⟩ := s.cells k o v ho h; rw [e]; rfl⟩)) (fun j q h => (by rcases bB h with ⟨rfl, rfl⟩ | ⟨_, h⟩; exact hS5; exact h)))) ?_
  rintro ⟨k, o, p, c, n, xs⟩ ⟨hk, hg, hn, hx, hnm⟩
  show GC _ _ _ _ [(1, pT b1), (2, pT b8), (3, pT b10), (4, pT b4), (5, pT b9), (13, .slice pl l.length cl), (14, iV (l.length)), (15, iV k)] _ _ (B) ((ky 54 0, .slice p n c) :: H) ((55, ⟨.slice p n c, 2, 1, n, xs⟩) :: S)
  refine g6 ?_
  refine aB rfl (fun hc1 => ?_) (fun hc2 => ?_)
  ·have hlt : k < l.length := by have := oT hc1; omega
   obtain ⟨y, hy⟩ : ∃ y, l[k]? = some y := ⟨_, List.getElem?_eq_getElem hlt⟩
   have hst := tD r.count st en most o hy
   rw [hg] at hst
   refine eA (fun w s => s.head 56 hS6 oM) (fun ⟨bl, hpl, hcl⟩ => ?_)
   subst hpl
   refine g6 ?_
   refine rl (aF (e := 2) (n := 1) kR rfl rfl oM oM) ?_
   refine rZ7 (mO 56 rfl hS6 (by rw [← hy]; congr 1; omega) kR) ?_
   refine rZ3 (rld 52 rfl hB2 h52) ?_
   refine aB rfl (fun hc1 => ?_) (fun hc2 => ?_)
   ·have hlo : y < st := oT hc1
    refine g8 ?_
    refine aQ ⟨k + 1, o, p, c, n, xs⟩ sO ⟨by omega, by rw [hst, if_pos hlo], hn, hx, hnm⟩ kns (fun w s => by exact (s.low 60 ((((lim.mono dE).aJ1 dE dE)).aJ2 dE) agx agx agx))
   ·have hlo : ¬ y < st := oF hc2
    refine g5 ?_
    refine rZ1 (rld 54 rfl hB4 rfl) ?_
    refine rl (rld 51 rfl hB1 h51) ?_
    by_cases h1 : (n : Int) = most
    ·have hA : dS r st en most o0 l = (o, false) := by have hq : cI r.count st en most o0 (dJ l r.setpos) = (o, false) := (by first | (rw [show dJ l r.setpos = l from by unfold dJ; rw [if_pos h0]]; rw [hst, if_neg hlo, if_pos oM]) | rw [hst, if_neg hlo, if_pos oM]); unfold dS; rw [hq]; rfl
     refine rl ((aR rfl rfl).to eT) ?_
     refine g18 ?_
     refine lJ ?_
     rw [hA]
     subst hn hx
     exact gR rfl fun w_ s_ => ⟨p, c, by simp only, s_.low 57 ((lim.aJ1 dE dE).aJ2 dE) agx agx agx⟩
    ·refine rZ2 ((aR rfl rfl).to eF) ?_
     refine rZ1 (rfa 5) ?_
     refine rZ1 (rld 50 rfl hB0 h505) ?_
     by_cases h2 : 0 < r.count
     ·refine rZ3 ((bG rfl rfl).to bT) ?_
      refine rZ3 (rld 54 rfl hB4 rfl) ?_
      refine rZ1 (rfa 5) ?_
      refine rZ1 (rld 50 rfl hB0 h505) ?_
      by_cases h3 : (n : Int) = r.count
      ·have hA : dS r st en most o0 l = (o, false) := by have hq : cI r.count st en most o0 (dJ l r.setpos) = (o, false) := (by first | (rw [show dJ l r.setpos = l from by unfold dJ; rw [if_pos h0]]; rw [hst, if_neg hlo, if_pos oM]) | rw [hst, if_neg hlo, if_pos oM]); unfold dS; rw [hq]; rfl
       refine rl ((aR rfl rfl).to eT) ?_
       refine g10 ?_
       refine jT ?_
       rw [hA]
       subst hn hx
       exact gR rfl fun w_ s_ => ⟨p, c, by simp only, s_.low 57 ((lim.aJ1 dE dE).aJ2 dE) agx agx agx⟩
      ·refine rZ7 ((aR rfl rfl).to eF) ?_
       refine rZ1 (rld 53 rfl hB3 h53) ?_
       by_cases h4 : en < y
       ·have hA : dS r st en most o0 l = (o, false) := by have hq : cI r.count st en most o0 (dJ l r.setpos) = (o, false) := (by first | (rw [show dJ l r.setpos = l from by unfold dJ; rw [if_pos h0]]; rw [hst, if_neg hlo, if_pos oM]) | rw [hst, if_neg hlo, if_pos oM]); unfold dS; rw [hq]; rfl
        refine rl ((bG rfl rfl).to bT) ?_
        refine g3 ?_
        refine jT ?_
        rw [hA]
        subst hn hx
        exact gR rfl fun w_ s_ => ⟨p, c, by simp only, s_.low 57 ((lim.aJ1 dE dE).aJ2 dE) agx agx agx⟩
       ·refine wZ7 ((bG rfl rfl).to bF) ?_
        refine rZ1 (rld 54 rfl hB4 rfl) ?_
        refine gL (dK 60 (e := 2) (sz := 1) (by_ := 8) (zs := [iV 0]) dE kR rfl dE dE (by first | rfl | exact lim.s 60 dE) (by first | rfl | exact lim.b 60 dE) rfl (fun bo => ?_))
        refine gL (cU 55 60 (e := 2) (sz := 1) (by_ := 8) (zs := [iV 0]) (q := ⟨.slice p n c, 2, 1, n, xs⟩) dE kR rfl dE rfl rfl rfl rfl ⟨rfl, rfl⟩ ⟨rfl, rfl⟩ (f9 (xs := [y])) sO sO (fun p' c' => ?_))
        refine gL (sto 54 rfl rfl hB4 rfl ?_)
        refine g7 ?_
        refine aQ ⟨k + 1, o ++ [y], p', c', n + 1, xs ++ [iV y]⟩ sO ⟨by omega, by rw [hst, if_neg hlo, if_neg oM], by rw [List.length_append, hn]; rfl, by rw [hx]; simp, by omega⟩ kns (fun w s => by exact (s.low 60 ((((lim.mono dE).aJ1 dE dE)).aJ2 dE) agx agx agx))
     ·refine rl ((bG rfl rfl).to bF) ?_
      refine g14 ?_
      refine rZ1 (rld 53 rfl hB3 h53) ?_
      by_cases h4 : en < y
      ·have hA : dS r st en most o0 l = (o, false) := by have hq : cI r.count st en most o0 (dJ l r.setpos) = (o, false) := (by first | (rw [show dJ l r.setpos = l from by unfold dJ; rw [if_pos h0]]; rw [hst, if_neg hlo, if_pos oM]) | rw [hst, if_neg hlo, if_pos oM]); unfold dS; rw [hq]; rfl
       refine rl ((bG rfl rfl).to bT) ?_
       refine g3 ?_
       refine jT ?_
       rw [hA]
       subst hn hx
       exact gR rfl fun w_ s_ => ⟨p, c, by simp only, s_.low 57 ((lim.aJ1 dE dE).aJ2 dE) agx agx agx⟩
      ·refine wZ7 ((bG rfl rfl).to bF) ?_
       refine rZ1 (rld 54 rfl hB4 rfl) ?_
       refine gL (dK 60 (e := 2) (sz := 1) (by_ := 8) (zs := [iV 0]) dE kR rfl dE dE (by first | rfl | exact lim.s 60 dE) (by first | rfl | exact lim.b 60 dE) rfl (fun bo => ?_))
       refine gL (cU 55 60 (e := 2) (sz := 1) (by_ := 8) (zs := [iV 0]) (q := ⟨.slice p n c, 2, 1, n, xs⟩) dE kR rfl dE rfl rfl rfl rfl ⟨rfl, rfl⟩ ⟨rfl, rfl⟩ (f9 (xs := [y])) sO sO (fun p' c' => ?_))
       refine gL (sto 54 rfl rfl hB4 rfl ?_)
       refine g7 ?_
       refine aQ ⟨k + 1, o ++ [y], p', c', n + 1, xs ++ [iV y]⟩ sO ⟨by omega, by rw [hst, if_neg hlo, if_neg oM], by rw [List.length_append, hn]; rfl, by rw [hx]; simp, by omega⟩ kns (fun w s => by exact (s.low 60 ((((lim.mono dE).aJ1 dE dE)).aJ2 dE) agx agx agx))
  ·obtain rfl : k = l.length := by have := oF hc2; omega
   rw [List.drop_length] at hg
   have hA1 : (o, true) = cI r.count st en most o0 (l) := hg
   have hA : dS r st en most o0 l = (o, iU r.count most n) := by unfold dS; rw [show dJ l r.setpos = l from by unfold dJ; rw [if_pos h0], ← hA1, hn]; simp
   refine g7 ?_
   refine rZ1 (rld 54 rfl hB4 rfl) ?_
   refine rl (rld 51 rfl hB1 h51) ?_
   by_cases h1 : (n : Int) < most
   ·refine rZ2 ((cM rfl rfl).to bT) ?_
    refine rZ1 (rfa 5) ?_
    refine rZ1 (rld 50 rfl hB0 h505) ?_
    by_cases h2 : r.count = 0
    ·refine rl ((aR rfl rfl).to eT) ?_
     refine g14 ?_
     rw [hA]
     subst hn hx
     exact gR rfl fun w_ s_ => ⟨p, c, by simp only [iU]; rw [decide_eq_true h1, qF h2]; rfl, s_.low 57 ((lim.aJ1 dE dE).aJ2 dE) agx agx agx⟩
    ·refine rZ3 ((aR rfl rfl).to eF) ?_
     refine rZ3 (rld 54 rfl hB4 rfl) ?_
     refine rZ1 (rfa 5) ?_
     refine rZ1 (rld 50 rfl hB0 h505) ?_
     by_cases h3 : (n : Int) < r.count
     ·refine rZ7 ((cM rfl rfl).to bT) ?_
      rw [hA]
      subst hn hx
      exact gR rfl fun w_ s_ => ⟨p, c, by simp only [iU]; rw [decide_eq_true h1, decide_eq_true h3, Bool.or_true]; rfl, s_.low 57 ((lim.aJ1 dE dE).aJ2 dE) agx agx agx⟩
     ·refine rZ7 ((cM rfl rfl).to bF) ?_
      rw [hA]
      subst hn hx
      exact gR rfl fun w_ s_ => ⟨p, c, by simp only [iU]; rw [decide_eq_true h1, decide_eq_false h3, qW h2]; rfl, s_.low 57 ((lim.aJ1 dE dE).aJ2 dE) agx agx agx⟩
   ·refine rl ((cM rfl rfl).to bF) ?_
    refine g16 ?_
    rw [hA]
    subst hn hx
    exact gR rfl fun w_ s_ => ⟨p, c, by simp only [iU]; rw [decide_eq_false h1]; rfl, s_.low 57 ((lim.aJ1 dE dE).aJ2 dE) agx agx agx⟩
 ·refine g4 ?_
  refine rl (rfa 8) ?_
  refine rl (rld 50 rfl hB0 h508) ?_
  refine gL (bK 57 (e := 2) (sz := 1) (n := (dJ l r.setpos).length) (xs := (dJ l r.setpos).map iV) dE kR rfl (fun w_ s_ => (mW l r.setpos pl cl _ hll l9 w_ (s_.ints 56 hS6) (hsp w_ s_)).mono fun e_ w2_ ⟨p_, c_, h1_, h2_⟩ => by rcases h2_ with ⟨h3_, _⟩ | ⟨_, h3_⟩; exact absurd h3_ h0; exact ⟨p_, c_, h1_, h3_⟩) (fun pr cr => ?_))
  refine g5 ?_
  refine bJ (ι := (Nat) × (List Int) × (Option Addr) × (Nat) × (Nat) × (List Value)) (fun | ⟨k, o, p, c, n, xs⟩ => (dJ l r.setpos).length - k) (fun | ⟨k, o, p, c, n, xs⟩ => (k ≤ (dJ l r.setpos).length) ∧ (cI r.count st en most o ((dJ l r.setpos).drop k) = cI r.count st en most o0 (dJ l r.setpos)) ∧ (n = o.length) ∧ (xs = o.map iV) ∧ ((n : Int) ≤ most)) (fun | ⟨k, o, p, c, n, xs⟩ => [(1, pT b1), (2, pT b8), (3, pT b10), (4, pT b4), (5, pT b9), (13, .slice pr (dJ l r.setpos).length cr), (14, iV ((dJ l r.setpos).length)), (15, iV k)]) (fun | ⟨k, o, p, c, n, xs⟩ => B) (fun | ⟨k, o, p, c, n, xs⟩ => (ky 54 0, .slice p n c) :: H) (fun | ⟨k, o, p, c, n, xs⟩ => (55, ⟨.slice p n c, 2, 1, n, xs⟩) :: (57, ⟨.slice pr (dJ l r.setpos).length cr, 2, 1, (dJ l r.setpos).length, ((dJ l r.setpos).map iV)⟩) :: S) ⟨0, o0, p0, c0, o0.length, o0.map iV⟩ ⟨Nat.zero_le _, rfl, rfl, rfl, hm.1⟩ kns (fun w s => by exact (s.to (fun _ _ h => h) (fun k o v ho h => (by rcases bB h with ⟨e, rfl⟩ | ⟨_, h⟩; { rw [e]; exact ⟨h54, by obtain ⟨rfl, rfl⟩ := gK ho dE e; rw [hB4]; rfl⟩ }; exact ⟨h, by obtain ⟨b, e, _⟩ := s.cells k o v ho h; rw [e]; rfl⟩)) (fun j q h => (by rcases bB h with ⟨rfl, rfl⟩ | ⟨_, h⟩; exact hS5; exact h)))) ?_
  rintro ⟨k, o, p, c, n, xs⟩ ⟨hk, hg, hn, hx, hnm⟩
  show GC _ _ _ _ [(1, pT b1), (2, pT b8), (3, pT b10), (4, pT b4), (5, pT b9), (13, .slice pr (dJ l r.setpos).length cr), (14, iV ((dJ l r.setpos).length)), (15, iV k)] _ _ (B) ((ky 54 0, .slice p n c) :: H) ((55, ⟨.slice p n c, 2, 1, n, xs⟩) :: (57, ⟨.slice pr (dJ l r.setpos).length cr, 2, 1, (dJ l r.setpos).length, ((dJ l r.setpos).map iV)⟩) :: S)
  refine g6 ?_
  refine aB rfl (fun hc1 => ?_) (fun hc2 => ?_)
  ·have hlt : k < (dJ l r.setpos).length := by have := oT hc1; omega
   obtain ⟨y, hy⟩ : ∃ y, (dJ l r.setpos)[k]? = some y := ⟨_, List.getElem?_eq_getElem hlt⟩
   have hst := tD r.count st en most o hy
   rw [hg] at hst
   refine eA (fun w s => s.head 57 rfl oM) (fun ⟨bl, hpl, hcl⟩ => ?_)
   subst hpl
   refine g6 ?_
   refine rl (aF (e := 2) (n := 1) kR rfl rfl oM oM) ?_
   refine rZ7 (mO 57 rfl rfl (by rw [← hy]; congr 1; omega) kR) ?_
   refine rZ3 (rld 52 rfl hB2 h52) ?_
   refine aB rfl (fun hc1 => ?_) (fun hc2 => ?_)
   ·have hlo : y < st := oT hc1
    refine g8 ?_
    refine aQ ⟨k + 1, o, p, c, n, xs⟩ sO ⟨by omega, by rw [hst, if_pos hlo], hn, hx, hnm⟩ kns (fun w s => by exact (s.low 60 ((((lim.mono dE).aJ1 dE dE).aJ2 dE).aJ2 dE) agx agx agx))
   ·have hlo : ¬ y < st := oF hc2
    refine g5 ?_
    refine rZ1 (rld 54 rfl hB4 rfl) ?_
    refine rl (rld 51 rfl hB1 h51) ?_
    by_cases h1 : (n : Int) = most
    ·have hA : dS r st en most o0 l = (o, false) := by have hq : cI r.count st en most o0 (dJ l r.setpos) = (o, false) := (by first | (rw [show dJ l r.setpos = l from by unfold dJ; rw [if_pos h0]]; rw [hst, if_neg hlo, if_pos oM]) | rw [hst, if_neg hlo, if_pos oM]); unfold dS; rw [hq]; rfl
     refine rl ((aR rfl rfl).to eT) ?_
     refine g18 ?_
     refine lJ ?_
     rw [hA]
     subst hn hx
     exact gR rfl fun w_ s_ => ⟨p, c, by simp only, s_.low 57 ((lim.aJ1 dE dE).aJ2 dE) agx agx agx⟩
    ·refine rZ2 ((aR rfl rfl).to eF) ?_
     refine rZ1 (rfa 5) ?_
     refine rZ1 (rld 50 rfl hB0 h505) ?_
     by_cases h2 : 0 < r.count
     ·refine rZ3 ((bG rfl rfl).to bT) ?_
      refine rZ3 (rld 54 rfl hB4 rfl) ?_
      refine rZ1 (rfa 5) ?_
      refine rZ1 (rld 50 rfl hB0 h505) ?_
      by_cases h3 : (n : Int) = r.count
      ·have hA : dS r st en most o0 l = (o, false) := by have hq : cI r.count st en most o0 (dJ l r.setpos) = (o, false) := (by first | (rw [show dJ l r.setpos = l from by unfold dJ; rw [if_pos h0]]; rw [hst, if_neg hlo, if_pos oM]) | rw [hst, if_neg hlo, if_pos oM]); unfold dS; rw [hq]; rfl
       refine rl ((aR rfl rfl).to eT) ?_
       refine g10 ?_
       refine jT ?_
       rw [hA]
       subst hn hx
       exact gR rfl fun w_ s_ => ⟨p, c, by simp only, s_.low 57 ((lim.aJ1 dE dE).aJ2 dE) agx agx agx⟩
      ·refine rZ7 ((aR rfl rfl).to eF) ?_
       refine rZ1 (rld 53 rfl hB3 h53) ?_
       by_cases h4 : en < y
       ·have hA : dS r st en most o0 l = (o, false) := by have hq : cI r.count st en most o0 (dJ l r.setpos) = (o, false) := (by first | (rw [show dJ l r.setpos = l from by unfold dJ; rw [if_pos h0]]; rw [hst, if_neg hlo, if_pos oM]) | rw [hst, if_neg hlo, if_pos oM]); unfold dS; rw [hq]; rfl
        refine rl ((bG rfl rfl).to bT) ?_
        refine g3 ?_
        refine jT ?_
        rw [hA]
        subst hn hx
        exact gR rfl fun w_ s_ => ⟨p, c, by simp only, s_.low 57 ((lim.aJ1 dE dE).aJ2 dE) agx agx agx⟩
       ·refine wZ7 ((bG rfl rfl).to bF) ?_
        refine rZ1 (rld 54 rfl hB4 rfl) ?_
        refine gL (dK 60 (e := 2) (sz := 1) (by_ := 8) (zs := [iV 0]) dE kR rfl dE dE (by first | rfl | exact lim.s 60 dE) (by first | rfl | exact lim.b 60 dE) rfl (fun bo => ?_))
        refine gL (cU 55 60 (e := 2) (sz := 1) (by_ := 8) (zs := [iV 0]) (q := ⟨.slice p n c, 2, 1, n, xs⟩) dE kR rfl dE rfl rfl rfl rfl ⟨rfl, rfl⟩ ⟨rfl, rfl⟩ (f9 (xs := [y])) sO sO (fun p' c' => ?_))
        refine gL (sto 54 rfl rfl hB4 rfl ?_)
        refine g7 ?_
        refine aQ ⟨k + 1, o ++ [y], p', c', n + 1, xs ++ [iV y]⟩ sO ⟨by omega, by rw [hst, if_neg hlo, if_neg oM], by rw [List.length_append, hn]; rfl, by rw [hx]; simp, by omega⟩ kns (fun w s => by exact (s.low 60 ((((lim.mono dE).aJ1 dE dE).aJ2 dE).aJ2 dE) agx agx agx))
     ·refine rl ((bG rfl rfl).to bF) ?_
      refine g14 ?_
      refine rZ1 (rld 53 rfl hB3 h53) ?_
      by_cases h4 : en < y
      ·have hA : dS r st en most o0 l = (o, false) := by have hq : cI r.count st en most o0 (dJ l r.setpos) = (o, false) := (by first | (rw [show dJ l r.setpos = l from by unfold dJ; rw [if_pos h0]]; rw [hst, if_neg hlo, if_pos oM]) | rw [hst, if_neg hlo, if_pos oM]); unfold dS; rw [hq]; rfl
       refine rl ((bG rfl rfl).to bT) ?_
       refine g3 ?_
       refine jT ?_
       rw [hA]
       subst hn hx
       exact gR rfl fun w_ s_ => ⟨p, c, by simp only, s_.low 57 ((lim.aJ1 dE dE).aJ2 dE) agx agx agx⟩
      ·refine wZ7 ((bG rfl rfl).to bF) ?_
       refine rZ1 (rld 54 rfl hB4 rfl) ?_
       refine gL (dK 60 (e := 2) (sz := 1) (by_ := 8) (zs := [iV 0]) dE kR rfl dE dE (by first | rfl | exact lim.s 60 dE) (by first | rfl | exact lim.b 60 dE) rfl (fun bo => ?_))
       refine gL (cU 55 60 (e := 2) (sz := 1) (by_ := 8) (zs := [iV 0]) (q := ⟨.slice p n c, 2, 1, n, xs⟩) dE kR rfl dE rfl rfl rfl rfl ⟨rfl, rfl⟩ ⟨rfl, rfl⟩ (f9 (xs := [y])) sO sO (fun p' c' => ?_))
       refine gL (sto 54 rfl rfl hB4 rfl ?_)
       refine g7 ?_
       refine aQ ⟨k + 1, o ++ [y], p', c', n + 1, xs ++ [iV y]⟩ sO ⟨by omega, by rw [hst, if_neg hlo, if_neg oM], by rw [List.length_append, hn]; rfl, by rw [hx]; simp, by omega⟩ kns (fun w s => by exact (s.low 60 ((((lim.mono dE).aJ1 dE dE).aJ2 dE).aJ2 dE) agx agx agx))
  ·obtain rfl : k = (dJ l r.setpos).length := by have := oF hc2; omega
   rw [List.drop_length] at hg
   have hA1 : (o, true) = cI r.count st en most o0 ((dJ l r.setpos)) := hg
   have hA : dS r st en most o0 l = (o, iU r.count most n) := by unfold dS; rw [show dJ l r.setpos = dJ l r.setpos from rfl, ← hA1, hn]; simp
   refine g7 ?_
   refine rZ1 (rld 54 rfl hB4 rfl) ?_
   refine rl (rld 51 rfl hB1 h51) ?_
   by_cases h1 : (n : Int) < most
   ·refine rZ2 ((cM rfl rfl).to bT) ?_
    refine rZ1 (rfa 5) ?_
    refine rZ1 (rld 50 rfl hB0 h505) ?_
    by_cases h2 : r.count = 0
    ·refine rl ((aR rfl rfl).to eT) ?_
     refine g14 ?_
     rw [hA]
     subst hn hx
     exact gR rfl fun w_ s_ => ⟨p, c, by simp only [iU]; rw [decide_eq_true h1, qF h2]; rfl, s_.low 57 ((lim.aJ1 dE dE).aJ2 dE) agx agx agx⟩
    ·refine rZ3 ((aR rfl rfl).to eF) ?_
     refine rZ3 (rld 54 rfl hB4 rfl) ?_
     refine rZ1 (rfa 5) ?_
     refine rZ1 (rld 50 rfl hB0 h505) ?_
     by_cases h3 : (n : Int) < r.count
     ·refine rZ7 ((cM rfl rfl).to bT) ?_
      rw [hA]
      subst hn hx
      exact gR rfl fun w_ s_ => ⟨p, c, by simp only [iU]; rw [decide_eq_true h1, decide_eq_true h3, Bool.or_true]; rfl, s_.low 57 ((lim.aJ1 dE dE).aJ2 dE) agx agx agx⟩
     ·refine rZ7 ((cM rfl rfl).to bF) ?_
      rw [hA]
      subst hn hx
      exact gR rfl fun w_ s_ => ⟨p, c, by simp only [iU]; rw [decide_eq_true h1, decide_eq_false h3, qW h2]; rfl, s_.low 57 ((lim.aJ1 dE dE).aJ2 dE) agx agx agx⟩
   ·refine rl ((cM rfl rfl).to bF) ?_
    refine g16 ?_
    rw [hA]
    subst hn hx
    exact gR rfl fun w_ s_ => ⟨p, c, by simp only [iU]; rw [decide_eq_false h1]; rfl, s_.low 57 ((lim.aJ1 dE dE).aJ2 dE) agx agx agx⟩
section
variable {P : Program} {Q : Exit → Act → World → Prop} {K : Act → World → Prop} {N d : Nat} {L : Fr.Loc} {v : Value} {ty : TypeId} {pos : String} {aft : Array Edge} {f : FuncId} {asl : List Operand} {ats : Array TypeId} {args : List Value}
theorem Sees.rebase {F' : Nat → Prop} {w : World} (s : Sees F w0 B H [] w) (hF : ∀ k b, lkp k B = some b → F' b) : Sees F' w B H [] w where
 os := rfl
 tape := rfl
 output := rfl
 size := Nat.le_refl _
 frame := fun _ _ _ => rfl
 nodup := s.nodup
 lt := s.lt
 may := fun k b h _ => hF k b h
 cells := s.cells
 slcs := fun k q h => by simp [lkp] at h
 smay := fun k q b h => by simp [lkp] at h
 snot := fun k q b i h => by simp [lkp] at h
 sapart := fun i j q t b h => by simp [lkp] at h
theorem aBb {ι : Type} {F' : Nat → Prop} (V : ι → Value) (Φ : ι → World → Prop) (hF : ∀ k b, lkp k B = some b → F' b) (ha : Fr.evs L asl = some args) (hc : ∀ w, Sees F w0 B H [] w → Calls P f args.toArray w fun e w' => ∃ x, e = .returned (V x) ∧ Below w.heap.size w w' ∧ Φ x w')
  (hn : ∀ x w1, Sees F w0 B H [] w1 → Φ x w1 → GK K N ((d, V x) :: L) F' w1 B H []) (hd : d < N := by decide) (hf : fO P f = true := by kernel_rfl) :
  GO P ⟨some d, .call ⟨.value (.func f), asl.toArray, ats⟩, ty, pos, aft, none⟩ Q K N L F w0 B H [] := fun a w k s => by
 show Oper.upon _ _ _ _ _ _
 rw [mD k hf ha]
 refine (hc w s).mono ?_
 rintro e w' ⟨x, rfl, hb, hx⟩
 exact hn x w' (s.below hb) hx _ _ (k.put hd _) (Sees.rebase (s.below hb) hF)
theorem tE (j i : Nat) {t e : TypeId} {sz by_ : Nat} {zs : List Value} {x y : Operand} {q r : Slc} (hd : d < N) (ht : kF P t = some (e, sz, by_, zs)) (hzs : zs.length = sz) (hsz : 0 < sz) (hx : ev L x = some q.v) (hy : ev L y = some r.v) (hq : lkp j S = some q) (hr : lkp i S = some r)
  (hqe : q.e = e ∧ q.sz = sz) (hre : r.e = e ∧ r.sz = sz) (h1 : ∀ u ∈ r.xs, u.oneCell' = true) (h63 : q.n + r.n ≤ 9223372036854775807) (hbytes : (q.n + r.n) * by_ ≤ 140737488355328)
  (hn : ∀ p cp, GK K N ((d, .slice p (q.n + r.n) cp) :: L) F w0 B H ((j, ⟨.slice p (q.n + r.n) cp, e, sz, q.n + r.n, q.xs ++ r.xs⟩) :: S)) :
  GO P ⟨some d, .call ⟨.builtin .append, #[x, y], #[t, t]⟩, ty, pos, aft, none⟩ Q K N L F w0 B H S := fun a w k s => by
 have hor := s.slcs i r hr
 have hl : r.xs.length = r.n * sz := by rw [← hre.2]; exact hor.1
 rcases hor.2 with ⟨e1, e2⟩ | ⟨g, cap, cur, e1, _⟩
 ·have hn0 : r.n = 0 := e2
  have hx0 : r.xs = [] := by rw [hn0, Nat.zero_mul] at hl; exact List.eq_nil_of_length_eq_zero hl
  obtain ⟨hu, inf, z, hi, hz, h2, h3, h4⟩ := hY ht
  have ho := s.slcs j q hq
  rw [hqe.1, hqe.2] at ho
  have hrun := run_append_owned_none (P := P) (w := w) 0 t ty e inf sz hu hi q.v q.n q.xs ho
  obtain ⟨p, cp, hv⟩ : ∃ p cp, q.v = .slice p q.n cp := by
   rcases ho.2 with ⟨e3, e4⟩ | ⟨g1, cap1, cur1, e3, _⟩
   ·exact ⟨none, 0, by rw [e3, e4]⟩
   ·exact ⟨_, _, e3⟩
  have hn' := hn p cp
  rw [hn0, hx0, Nat.add_zero, List.append_nil] at hn'
  show Oper.upon _ _ _ _ _ _
  rw [e1] at hy
  simp only [execOp, resolve, invoke, builtin, Sem.run_bind, Sem.run_pure, Result.andThen_ok, List.map_toArray, List.map_cons, List.map_nil, k.eval hx, k.eval hy, hrun]
  rw [hv]
  refine hn' _ _ (k.put hd _) (s.to (fun _ _ h => h) (fun k o v ho h => ⟨h, by obtain ⟨b, e, _⟩ := s.cells k o v ho h; rw [e]; rfl⟩) (fun j' u h => ?_))
  rcases bB h with ⟨rfl, rfl⟩ | ⟨_, h⟩
  ·rw [hq]; cases q; simp only at hv hqe; rw [hv, hqe.1, hqe.2]
  ·exact h
 ·exact oI j hd ht hzs hsz hx (hy.trans (congrArg some e1)) hq hqe hl (fun w' s' i' u hu => by rw [Nat.zero_add]; exact s'.aJ5 hr e1 hu) h1 h63 hbytes hn a w k s
end
theorem iN {w : World} {p : Option Addr} {n c : Nat} {xs : List Int} (s : Sees F w0 B H S w) (h : Ints w0 (.slice p n c) xs) (g : xs.length ≠ 0 → ∀ b o, p = some ⟨b, o, none⟩ → ¬F b) : Ints w (.slice p n c) xs := by
 obtain ⟨p', c', e, hc⟩ := h
 refine ⟨p', c', e, fun i x hx => ?_⟩
 obtain ⟨b, o, e2, h1⟩ := hc i x hx
 injection e with e3 _ _
 exact ⟨b, o, e2, s.aJ8 h1 (g (by have := (List.getElem?_eq_some_iff.1 hx).1; omega) b o (e3.trans e2))⟩
theorem aFj {w : World} {p : Option Addr} {n c : Nat} {xs : List (Int × Int)} (s : Sees F w0 B H S w) (h : Prs w0 (.slice p n c) xs) (g : xs.length ≠ 0 → ∀ b o, p = some ⟨b, o, none⟩ → ¬F b) : Prs w (.slice p n c) xs := by
 obtain ⟨p', c', e, hc⟩ := h
 refine ⟨p', c', e, fun i x hx => ?_⟩
 obtain ⟨b, o, e2, h1, h2⟩ := hc i x hx
 injection e with e3 _ _
 have hF := g (by have := (List.getElem?_eq_some_iff.1 hx).1; omega) b o (e3.trans e2)
 exact ⟨b, o, e2, s.aJ8 h1 hF, s.aJ8 h2 hF⟩
theorem InL.seeF {w : World} {r : Rul} {x : Av} (s : Sees F w0 B H S w) (h : InL w0 r x) (g : BkL (fun b => ¬F b) r x) : InL w r x :=
 ⟨iN s h.i9 g.g9, iN s h.i10 g.g10, iN s h.i11 g.g11, iN s h.i12 g.g12, iN s h.i13 g.g13, aFj s h.i14 g.g14, iN s h.i15 g.g15, iN s h.i16 g.g16, iN s h.i17 g.g17, iN s h.i18 g.g18⟩
theorem pZ (f : Nat → List Int) (m : Nat) (h : ∀ i, (f i).length ≤ m) : ∀ k, ((List.range k).flatMap f).length ≤ k * m
 | 0 => by simp
 | k + 1 => by
  have h1 := pZ f m h k
  have h2 := h k
  rw [gZ, List.length_append, Nat.succ_mul]
  omega
theorem lF (hs ms ss : List Int) (day fr lg : Int) : (eD hs ms ss day fr lg).length ≤ 86400 := by
 unfold eD zE
 refine pZ _ 3600 (fun h => ?_) 24
 split
 ·unfold r8
  refine pZ _ 60 (fun m => ?_) 60
  split
  ·unfold r6
   rw [List.length_map]
   exact Nat.le_trans (List.length_filter_le _ _) (by simp)
  ·simp
 ·simp
theorem dG (r : Rul) : (aZ r).start = r.start ∧ (aZ r).freq = r.freq ∧ (aZ r).interval = r.interval ∧ (aZ r).wkst = r.wkst ∧ (aZ r).count = r.count ∧ (aZ r).setpos = r.setpos ∧ (aZ r).yday = r.yday ∧ (aZ r).weekno = r.weekno ∧ (aZ r).easter = r.easter := by
 have h4 : ∀ r, (gH r).start = r.start ∧ (gH r).freq = r.freq ∧ (gH r).interval = r.interval ∧ (gH r).wkst = r.wkst ∧ (gH r).count = r.count ∧ (gH r).setpos = r.setpos ∧ (gH r).yday = r.yday ∧ (gH r).weekno = r.weekno ∧ (gH r).easter = r.easter := fun r => by unfold gH; split <;> exact ⟨rfl, rfl, rfl, rfl, rfl, rfl, rfl, rfl, rfl⟩
 have h3 : ∀ r, (eV r).start = r.start ∧ (eV r).freq = r.freq ∧ (eV r).interval = r.interval ∧ (eV r).wkst = r.wkst ∧ (eV r).count = r.count ∧ (eV r).setpos = r.setpos ∧ (eV r).yday = r.yday ∧ (eV r).weekno = r.weekno ∧ (eV r).easter = r.easter := fun r => by unfold eV; split <;> exact ⟨rfl, rfl, rfl, rfl, rfl, rfl, rfl, rfl, rfl⟩
 have h2 : ∀ r, (eO r).start = r.start ∧ (eO r).freq = r.freq ∧ (eO r).interval = r.interval ∧ (eO r).wkst = r.wkst ∧ (eO r).count = r.count ∧ (eO r).setpos = r.setpos ∧ (eO r).yday = r.yday ∧ (eO r).weekno = r.weekno ∧ (eO r).easter = r.easter := fun r => by unfold eO; split <;> exact ⟨rfl, rfl, rfl, rfl, rfl, rfl, rfl, rfl, rfl⟩
 have h1 : (eN r).start = r.start ∧ (eN r).freq = r.freq ∧ (eN r).interval = r.interval ∧ (eN r).wkst = r.wkst ∧ (eN r).count = r.count ∧ (eN r).setpos = r.setpos ∧ (eN r).yday = r.yday ∧ (eN r).weekno = r.weekno ∧ (eN r).easter = r.easter := by
  unfold eN
  split
  ·split
   ·exact ⟨rfl, rfl, rfl, rfl, rfl, rfl, rfl, rfl, rfl⟩
   ·split
    ·exact ⟨rfl, rfl, rfl, rfl, rfl, rfl, rfl, rfl, rfl⟩
    ·split <;> exact ⟨rfl, rfl, rfl, rfl, rfl, rfl, rfl, rfl, rfl⟩
  ·exact ⟨rfl, rfl, rfl, rfl, rfl, rfl, rfl, rfl, rfl⟩
 unfold aZ
 simp only [h4, h3, h2, h1, and_self]
def UN (f : Int) : Int := if f = 4 then 3600 else if f = 5 then 60 else 1
def pY (q : Rul) (k : Int) : Int := Cal.yearOf (q.start / 86400) + k * q.interval
def pN (q : Rul) (k : Int) : Int := Cal.monthOf (q.start / 86400) - 1 + k * q.interval
def pM (q : Rul) (k : Int) : Int := Cal.yearOf (q.start / 86400) + pN q k / 12
def pAt (q : Rul) (k : Int) : Int := q.start - q.start % UN q.freq + k * q.interval * UN q.freq
def cF (q : Rul) (k : Int) : Int :=
 if q.freq = 0 then Cal.daysTo (pY q k) else if q.freq = 1 then Cal.daysTo (pM q k) + 1 - 1 + Cal.cum (pM q k) (pN q k % 12 + 1 - 1).toNat
 else if q.freq = 2 then q.start / 86400 - (q.start / 86400 % 7 - q.wkst + 7) % 7 + 7 * k * q.interval else if q.freq = 3 then q.start / 86400 + k * q.interval else pAt q k / 86400
def iS (q : Rul) (k : Int) : Int := if q.freq = 0 then 365 + Cal.lp (pY q k) else if q.freq = 1 then Cal.mdays (pN q k % 12 + 1) (pM q k) else if q.freq = 2 then 7 else 1
def eK (q : Rul) (k : Int) : Prop := (q.freq = 0 ∧ 9999 < pY q k) ∨ (q.freq = 1 ∧ 9999 < pM q k) ∨ 3652059 ≤ cF q k
def iX (q : Rul) (dayF : Int → Bool) (d : Int) : List Int := if 0 ≤ d ∧ dayF d = true then eD q.hour q.minute q.second d (d * 86400) 86400 else []
def jL (q : Rul) (dayF : Int → Bool) (first : Int) (j : Nat) : List Int := (List.range j).flatMap fun (i : Nat) => iX q dayF (first + i)
def eJ (q : Rul) (dayF : Int → Bool) (k : Int) : List Int := if 4 ≤ q.freq then (if dayF (cF q k) = true then eD q.hour q.minute q.second (cF q k) (pAt q k) (UN q.freq) else []) else jL q dayF (cF q k) (iS q k).toNat
inductive DatesP (q : Rul) (dayF : Int → Bool) (en most : Int) : Int → List Int → List Int → Prop
 | over {k : Int} {o : List Int} (h : eK q k) : DatesP q dayF en most k o o
 | stop {k : Int} {o : List Int} (h : ¬eK q k) (hs : (dS q q.start en most o (eJ q dayF k)).2 = false) : DatesP q dayF en most k o (dS q q.start en most o (eJ q dayF k)).1
 | more {k : Int} {o l : List Int} (h : ¬eK q k) (hs : (dS q q.start en most o (eJ q dayF k)).2 = true) (hn : DatesP q dayF en most (k + 1) (dS q q.start en most o (eJ q dayF k)).1 l) : DatesP q dayF en most k o l
theorem aAe (q : Rul) (dayF : Int → Bool) (d : Int) : (iX q dayF d).length ≤ 86400 := by
 unfold iX
 split
 ·exact lF _ _ _ _ _ _
 ·simp
theorem rW (q : Rul) (dayF : Int → Bool) (first : Int) (j : Nat) : (jL q dayF first j).length ≤ j * 86400 := pZ _ _ (fun i => aAe q dayF _) j
theorem mR (q : Rul) (dayF : Int → Bool) (first : Int) (j : Nat) : jL q dayF first (j + 1) = jL q dayF first j ++ iX q dayF (first + j) := gZ _ j
end
end Go.Proofs.YtdbbifbmkfmbkaaGreat
