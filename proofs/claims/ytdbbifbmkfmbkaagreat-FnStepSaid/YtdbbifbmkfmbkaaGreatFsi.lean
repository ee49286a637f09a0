import Derived.Test.YtdbbifbmkfmbkaaGreatFsh
set_option linter.unusedVariables false
set_option linter.unusedSimpArgs false
set_option maxRecDepth 100000
set_option maxHeartbeats 8000000
namespace Go.Proofs.YtdbbifbmkfmbkaaGreat
open Go.RowKit Go.Fr Go.Tab
section
variable {F : Nat → Prop} {w0 : World} {B : LN} {H : LV} {S : LS}
open Go.Md
theorem n5 (f : Nat → List Int) (m : Nat) (h : ∀ i, (f i).length ≤ m) : ∀ k, ((List.range k).flatMap f).length ≤ k * m
 | 0 => by simp
 | k + 1 => by
  have h1 := n5 f m h k
  have h2 := h k
  rw [oS, List.length_append, Nat.succ_mul]
  omega
theorem qJ (hs ms ss : List Int) (day fr lg : Int) : (iN hs ms ss day fr lg).length ≤ 86400 := by
 unfold iN aDb
 refine n5 _ 3600 (fun h => ?_) 24
 split
 ·unfold yI
  refine n5 _ 60 (fun m => ?_) 60
  split
  ·unfold xI
   rw [List.length_map]
   exact Nat.le_trans (List.length_filter_le _ _) (by simp)
  ·simp
 ·simp
theorem dH (r : Rul) : (bD r).start = r.start ∧ (bD r).freq = r.freq ∧ (bD r).interval = r.interval ∧ (bD r).wkst = r.wkst ∧ (bD r).count = r.count ∧ (bD r).setpos = r.setpos ∧ (bD r).yday = r.yday ∧ (bD r).weekno = r.weekno ∧ (bD r).easter = r.easter := by
 have h4 : ∀ r, (iM r).start = r.start ∧ (iM r).freq = r.freq ∧ (iM r).interval = r.interval ∧ (iM r).wkst = r.wkst ∧ (iM r).count = r.count ∧ (iM r).setpos = r.setpos ∧ (iM r).yday = r.yday ∧ (iM r).weekno = r.weekno ∧ (iM r).easter = r.easter := fun r => by unfold iM; split <;> exact ⟨rfl, rfl, rfl, rfl, rfl, rfl, rfl, rfl, rfl⟩
 have h3 : ∀ r, (gS r).start = r.start ∧ (gS r).freq = r.freq ∧ (gS r).interval = r.interval ∧ (gS r).wkst = r.wkst ∧ (gS r).count = r.count ∧ (gS r).setpos = r.setpos ∧ (gS r).yday = r.yday ∧ (gS r).weekno = r.weekno ∧ (gS r).easter = r.easter := fun r => by unfold gS; split <;> exact ⟨rfl, rfl, rfl, rfl, rfl, rfl, rfl, rfl, rfl⟩
 have h2 : ∀ r, (gO r).start = r.start ∧ (gO r).freq = r.freq ∧ (gO r).interval = r.interval ∧ (gO r).wkst = r.wkst ∧ (gO r).count = r.count ∧ (gO r).setpos = r.setpos ∧ (gO r).yday = r.yday ∧ (gO r).weekno = r.weekno ∧ (gO r).easter = r.easter := fun r => by unfold gO; split <;> exact ⟨rfl, rfl, rfl, rfl, rfl, rfl, rfl, rfl, rfl⟩
 have h1 : (gA r).start = r.start ∧ (gA r).freq = r.freq ∧ (gA r).interval = r.interval ∧ (gA r).wkst = r.wkst ∧ (gA r).count = r.count ∧ (gA r).setpos = r.setpos ∧ (gA r).yday = r.yday ∧ (gA r).weekno = r.weekno ∧ (gA r).easter = r.easter := by
  unfold gA
  split
  ·split
   ·exact ⟨rfl, rfl, rfl, rfl, rfl, rfl, rfl, rfl, rfl⟩
   ·split
    ·exact ⟨rfl, rfl, rfl, rfl, rfl, rfl, rfl, rfl, rfl⟩
    ·split <;> exact ⟨rfl, rfl, rfl, rfl, rfl, rfl, rfl, rfl, rfl⟩
  ·exact ⟨rfl, rfl, rfl, rfl, rfl, rfl, rfl, rfl, rfl⟩
 unfold bD
 simp only [h4, h3, h2, h1, and_self]
def UN (f : Int) : Int := if f = 4 then 3600 else if f = 5 then 60 else 1
def pY (q : Rul) (k : Int) : Int := Cal.yearOf (q.start / 86400) + k * q.interval
def pN (q : Rul) (k : Int) : Int := Cal.monthOf (q.start / 86400) - 1 + k * q.interval
def pM (q : Rul) (k : Int) : Int := Cal.yearOf (q.start / 86400) + pN q k / 12
def pAt (q : Rul) (k : Int) : Int := q.start - q.start % UN q.freq + k * q.interval * UN q.freq
def dC (q : Rul) (k : Int) : Int :=
 if q.freq = 0 then Cal.daysTo (pY q k) else if q.freq = 1 then Cal.daysTo (pM q k) + 1 - 1 + Cal.cum (pM q k) (pN q k % 12 + 1 - 1).toNat
 else if q.freq = 2 then q.start / 86400 - (q.start / 86400 % 7 - q.wkst + 7) % 7 + 7 * k * q.interval else if q.freq = 3 then q.start / 86400 + k * q.interval else pAt q k / 86400
def jG (q : Rul) (k : Int) : Int := if q.freq = 0 then 365 + Cal.lp (pY q k) else if q.freq = 1 then Cal.mdays (pN q k % 12 + 1) (pM q k) else if q.freq = 2 then 7 else 1
def fQ (q : Rul) (k : Int) : Prop := (q.freq = 0 ∧ 9999 < pY q k) ∨ (q.freq = 1 ∧ 9999 < pM q k) ∨ 3652059 ≤ dC q k
def jD (q : Rul) (dayF : Int → Bool) (d : Int) : List Int := if 0 ≤ d ∧ dayF d = true then iN q.hour q.minute q.second d (d * 86400) 86400 else []
def kZ (q : Rul) (dayF : Int → Bool) (first : Int) (j : Nat) : List Int := (List.range j).flatMap fun (i : Nat) => jD q dayF (first + i)
def fW (q : Rul) (dayF : Int → Bool) (k : Int) : List Int := if 4 ≤ q.freq then (if dayF (dC q k) = true then iN q.hour q.minute q.second (dC q k) (pAt q k) (UN q.freq) else []) else kZ q dayF (dC q k) (jG q k).toNat
inductive DatesP (q : Rul) (dayF : Int → Bool) (en most : Int) : Int → List Int → List Int → Prop
 | over {k : Int} {o : List Int} (h : fQ q k) : DatesP q dayF en most k o o
 | stop {k : Int} {o : List Int} (h : ¬fQ q k) (hs : (kI q q.start en most o (fW q dayF k)).2 = false) : DatesP q dayF en most k o (kI q q.start en most o (fW q dayF k)).1
 | more {k : Int} {o l : List Int} (h : ¬fQ q k) (hs : (kI q q.start en most o (fW q dayF k)).2 = true) (hn : DatesP q dayF en most (k + 1) (kI q q.start en most o (fW q dayF k)).1 l) : DatesP q dayF en most k o l
theorem yB (q : Rul) (dayF : Int → Bool) (d : Int) : (jD q dayF d).length ≤ 86400 := by
 unfold jD
 split
 ·exact qJ _ _ _ _ _ _
 ·simp
theorem vT (q : Rul) (dayF : Int → Bool) (first : Int) (j : Nat) : (kZ q dayF first j).length ≤ j * 86400 := n5 _ _ (fun i => yB q dayF _) j
end
end Go.Proofs.YtdbbifbmkfmbkaaGreat
namespace Go.Proofs.YtdbbifbmkfmbkaaGreat
open Go.RowKit Go.Fr Go.Tab
end Go.Proofs.YtdbbifbmkfmbkaaGreat
namespace Go.Proofs.YtdbbifbmkfmbkaaGreat
open Go.RowKit Go.Fr Go.Tab
section
variable {F : Nat → Prop} {w0 : World} {B : LN} {H : LV} {S : LS}
open Go.Md
theorem jH {w : World} {p : Option Addr} {n c : Nat} {xs : List Int} (h : Ints w (.slice p n c) xs) (hn : xs.length ≠ 0) (b o : Nat) (e : p = some ⟨b, o, none⟩) : b < w.heap.size := by
 obtain ⟨p', c', e1, hc⟩ := h
 injection e1 with e2 _ _
 obtain ⟨b', o', e3, h3⟩ := hc 0 _ (List.getElem?_eq_getElem (show 0 < xs.length by omega))
 have h4 := World.block_lt_of_cell? w _ h3
 have e4 : (some ⟨b, o, none⟩ : Option Addr) = some ⟨b', o', none⟩ := e.symm.trans (e2.trans e3)
 injection e4 with e4
 injection e4 with e4 _
 rw [e4]
 exact h4
theorem aCq {w : World} {p : Option Addr} {n c : Nat} {xs : List (Int × Int)} (h : Prs w (.slice p n c) xs) (hn : xs.length ≠ 0) (b o : Nat) (e : p = some ⟨b, o, none⟩) : b < w.heap.size := by
 obtain ⟨p', c', e1, hc⟩ := h
 injection e1 with e2 _ _
 obtain ⟨b', o', e3, h3, _⟩ := hc 0 _ (List.getElem?_eq_getElem (show 0 < xs.length by omega))
 have h4 := World.block_lt_of_cell? w _ h3
 have e4 : (some ⟨b, o, none⟩ : Option Addr) = some ⟨b', o', none⟩ := e.symm.trans (e2.trans e3)
 injection e4 with e4
 injection e4 with e4 _
 rw [e4]
 exact h4
theorem InL.bk {w : World} {r : Rul} {x : Av} (h : InL w r x) : BkL (fun b => b < w.heap.size) r x :=
 ⟨jH h.i9, jH h.i10, jH h.i11, jH h.i12, jH h.i13, aCq h.i14, jH h.i15, jH h.i16, jH h.i17, jH h.i18⟩
def tN (r : Rul) (dayF : Int → Bool) (most : Int) (l : List Int) : Prop := DatesP (bD r) dayF (pA r) most 0 [] l
theorem uT (r : Rul) (x : Av) (hd : r.wday.length ≤ 1000) (w : World) (hin : InL w r x) : Calls Tryz.prog 19 #[.agg (cI r x).toArray] w fun e w' => ∃ (p : Option Addr) (c : Nat), e = .returned (.agg (cI r { x with p14 := p, c14 := c }).toArray) ∧ fM w w' (.slice p r.wday.length c) 69 2 r.wday.length (dR r.wday) := by
 have hID : ∀ i y, r.wday[i]? = some y → ∃ b o, x.p14 = some ⟨b, o, none⟩ ∧ w.cell? ⟨b, o + 2 * i, none⟩ = some (iV y.1) ∧ w.cell? ⟨b, o + 2 * i + 1, none⟩ = some (iV y.2) := by
  obtain ⟨p', c', e, hc'⟩ := hin.i14
  injection e with e1 _ _
  rw [e1]; exact hc'
 refine aN (args := [.agg (cI r x).toArray]) (L := [(0, .agg (cI r x).toArray)]) (N := 56) Tryz.func19 rfl rfl ble rfl (sS w) ?_
 refine g2 ?_
 refine gL (iX 50 (cs := cI r x) dE rfl rfl rfl (fun o ho => rfl) ble (fun b1 hb1 => ?_))
 refine gL (alo 51 (cs := [.int .u8 0, .bool false, iV 0, iV 0, iV 0, iV 0, .bool false, iV 0, .slice none 0 0, .slice none 0 0, .slice none 0 0, .slice none 0 0, .slice none 0 0, .slice none 0 0, .slice none 0 0, .slice none 0 0, .slice none 0 0, .slice none 0 0]) kR rfl (fun b2 hb2 => ?_))
 refine g4 ?_
 refine rl (rfa 0) ?_
 refine rl (rld 50 rfl rfl rfl) ?_
 refine rl (rfa 1) ?_
 refine rl (rld 50 rfl rfl rfl) ?_
 refine rl (rfa 2) ?_
 refine rl (rld 50 rfl rfl rfl) ?_
 refine rl (rfa 3) ?_
 refine rl (rld 50 rfl rfl rfl) ?_
 refine rl (rfa 4) ?_
 refine rl (rld 50 rfl rfl rfl) ?_
 refine rl (rfa 5) ?_
 refine rl (rld 50 rfl rfl rfl) ?_
 refine rl (rfa 6) ?_
 refine rl (rld 50 rfl rfl rfl) ?_
 refine rl (rfa 7) ?_
 refine rl (rld 50 rfl rfl rfl) ?_
 refine rl (rfa 8) ?_
 refine rl (rld 50 rfl rfl rfl) ?_
 refine rl (rfa 9) ?_
 refine rl (rld 50 rfl rfl rfl) ?_
 refine rl (rfa 10) ?_
 refine rl (rld 50 rfl rfl rfl) ?_
 refine rl (rfa 11) ?_
 refine rl (rld 50 rfl rfl rfl) ?_
 refine rl (rfa 12) ?_
 refine rl (rld 50 rfl rfl rfl) ?_
 refine rl (rfa 14) ?_
 refine rl (rld 50 rfl rfl rfl) ?_
 refine rl (rfa 15) ?_
 refine rl (rld 50 rfl rfl rfl) ?_
 refine rl (rfa 16) ?_
 refine rl (rld 50 rfl rfl rfl) ?_
 refine rl (rfa 17) ?_
 refine rl (rld 50 rfl rfl rfl) ?_
 refine rl (fJ (vs := [(0, .int .u8 r.freq), (1, .bool r.hasStart), (2, iV r.start), (3, iV r.interval), (4, iV r.wkst), (5, iV r.count), (6, .bool r.hasUntil), (7, iV r.untl), (8, .slice x.p9 (r.setpos).length x.c9), (9, .slice x.p10 (r.month).length x.c10), (10, .slice x.p11 (r.mday).length x.c11), (11, .slice x.p12 (r.yday).length x.c12), (12, .slice x.p13 (r.weekno).length x.c13), (14, .slice x.p15 (r.hour).length x.c15), (15, .slice x.p16 (r.minute).length x.c16), (16, .slice x.p17 (r.second).length x.c17), (17, .slice x.p18 (r.easter).length x.c18)]) (v := .agg (cI { r with wday := [] } { x with p14 := none, c14 := 0 }).toArray) rfl (fun w => by kernel_rfl)) ?_
 refine gL (alo 52 (cs := [.int .u8 0, .bool false, iV 0, iV 0, iV 0, iV 0, .bool false, iV 0, .slice none 0 0, .slice none 0 0, .slice none 0 0, .slice none 0 0, .slice none 0 0, .slice none 0 0, .slice none 0 0, .slice none 0 0, .slice none 0 0, .slice none 0 0]) kR rfl (fun b3 hb3 => ?_))
 refine gL (bV 52 (cs := (cI { r with wday := [] } { x with p14 := none, c14 := 0 }).toArray) rfl rfl rfl rfl kR rfl ble ?_)
 refine g5 ?_
 refine rl (rfa 13) ?_
 refine rl (rld 50 rfl rfl rfl) ?_
 refine g5 ?_
 refine bK (ι := (Nat) × (Option Addr) × (Nat) × (Nat) × (List Value)) (fun | ⟨k, p, c, n, xs⟩ => r.wday.length - k) (fun | ⟨k, p, c, n, xs⟩ => (k ≤ r.wday.length) ∧ (n = k) ∧ (xs = dR (r.wday.take k))) (fun | ⟨k, p, c, n, xs⟩ => [(1, pT b1), (2, pT b2), (3, pT b3), (42, .slice x.p14 r.wday.length x.c14), (43, iV (r.wday.length)), (44, iV k)]) (fun | ⟨k, p, c, n, xs⟩ => [(52, b3), (51, b2), (50, b1)]) (fun | ⟨k, p, c, n, xs⟩ => (ky 52 13, .slice p n c) :: (cM 52 0 (cI { r with wday := [] } { x with p14 := none, c14 := 0 }).toArray.toList (aP 52 0 [.int .u8 0, .bool false, iV 0, iV 0, iV 0, iV 0, .bool false, iV 0, .slice none 0 0, .slice none 0 0, .slice none 0 0, .slice none 0 0, .slice none 0 0, .slice none 0 0, .slice none 0 0, .slice none 0 0, .slice none 0 0, .slice none 0 0] ++ (aP 51 0 [.int .u8 0, .bool false, iV 0, iV 0, iV 0, iV 0, .bool false, iV 0, .slice none 0 0, .slice none 0 0, .slice none 0 0, .slice none 0 0, .slice none 0 0, .slice none 0 0, .slice none 0 0, .slice none 0 0, .slice none 0 0, .slice none 0 0] ++ (aP 50 0 (cI r x) ++ []))))) (fun | ⟨k, p, c, n, xs⟩ => [(11, ⟨.slice p n c, 69, 2, n, xs⟩)]) ⟨0, none, 0, 0, []⟩ ⟨Nat.zero_le _, rfl, rfl⟩ kns (fun w s => by exact (Sees.aGs (s.to (fun _ _ h => h) (fun k o v ho h => (by rcases cJ h with ⟨e, rfl⟩ | ⟨_, h⟩; { obtain ⟨rfl, rfl⟩ := gY ho dE e; exact ⟨rfl, rfl⟩ }; exact ⟨h, by obtain ⟨b, e, _⟩ := s.cells k o v ho h; rw [e]; rfl⟩)) (fun _ _ h => h)) 11 69 2)) ?_
 rintro ⟨k, p, c, n, xs⟩ ⟨hk, hn, hx⟩
 show GC _ _ _ _ [(1, pT b1), (2, pT b2), (3, pT b3), (42, .slice x.p14 r.wday.length x.c14), (43, iV (r.wday.length)), (44, iV k)] _ _ ([(52, b3), (51, b2), (50, b1)]) ((ky 52 13, .slice p n c) :: (cM 52 0 (cI { r with wday := [] } { x with p14 := none, c14 := 0 }).toArray.toList (aP 52 0 [.int .u8 0, .bool false, iV 0, iV 0, iV 0, iV 0, .bool false, iV 0, .slice none 0 0, .slice none 0 0, .slice none 0 0, .slice none 0 0, .slice none 0 0, .slice none 0 0, .slice none 0 0, .slice none 0 0, .slice none 0 0, .slice none 0 0] ++ (aP 51 0 [.int .u8 0, .bool false, iV 0, iV 0, iV 0, iV 0, .bool false, iV 0, .slice none 0 0, .slice none 0 0, .slice none 0 0, .slice none 0 0, .slice none 0 0, .slice none 0 0, .slice none 0 0, .slice none 0 0, .slice none 0 0, .slice none 0 0] ++ (aP 50 0 (cI r x) ++ []))))) ([(11, ⟨.slice p n c, 69, 2, n, xs⟩)])
 refine g6 ?_
 refine aE rfl (fun hc1 => ?_) (fun hc2 => ?_)
 ·have hlt : k < r.wday.length := by have := oT hc1; omega
  obtain ⟨y, hy⟩ : ∃ y, r.wday[k]? = some y := ⟨_, List.getElem?_eq_getElem hlt⟩
  obtain ⟨b_, o_, hp0, hca, hcb⟩ := hID k y hy
  refine g6 ?_
  refine rl (aI (e := 47) (n := 2) kR (congrArg (fun p => some (Value.slice p _ _)) hp0) rfl oM oM) ?_
  refine rl (gM rfl (by rw [← hca]; congr 2; omega) (by rw [← hcb]; congr 2; omega) (fun h => h) kR) ?_
  refine gL (alo 53 (cs := [iV 0, iV 0]) kR rfl (fun b4 hb4 => ?_))
  refine gL (sta 53 rfl rfl rfl rfl ?_)
  refine g3 ?_
  refine rl (rfa 13) ?_
  refine rl (rld 52 rfl rfl rfl) ?_
  refine rl (aT 53 rfl rfl rfl rfl kR dE) ?_
  refine gL (fI 60 (e := 69) (sz := 2) (by_ := 16) (zs := [iV 0, iV 0]) dE kR rfl dE dE rfl rfl rfl (fun bo => ?_))
  refine gL (dJ 11 60 (e := 69) (sz := 2) (by_ := 16) (zs := [iV 0, iV 0]) dE kR rfl dE rfl rfl rfl rfl ⟨rfl, rfl⟩ ⟨rfl, rfl⟩ (fun u hu => by have hu : u ∈ [iV y.1, iV y.2] := hu; rcases List.mem_cons.1 hu with rfl | hu; rfl; rcases List.mem_cons.1 hu with rfl | hu; rfl; cases hu) sO sO (fun p' c' => ?_))
  refine rl (rfa 13) ?_
  refine gL (sto 52 rfl rfl rfl rfl ?_)
  refine g7 ?_
  refine aV ⟨k + 1, p', c', n + 1, xs ++ [iV y.1, iV y.2]⟩ sO ⟨by omega, by omega, by rw [hx, List.take_add_one, hy]; simp [dR]⟩ kns (fun w s => by exact (s.low 53 (⟨fun k hk => by repeat (first | rfl | rw [aO oM]), fun k hk o ho => by repeat (first | rw [bB oM ho _ _ ble] | rw [cL oM ho _ _ ble] | rw [aR oM ho dE] | rfl), fun k hk => by repeat (first | rfl | rw [aO oM])⟩) agx agx agx))
 ·obtain rfl : k = r.wday.length := by have := oF hc2; omega
  rw [List.take_length] at hx
  subst hx hn
  refine g7 ?_
  refine rl ((fZ 52 (cs := (cI r { x with p14 := p, c14 := c })) rfl rfl (fun i u h => by have hlt_ : i < 18 := (List.getElem?_eq_some_iff.1 h).1; rcases i with _|_|_|_|_|_|_|_|_|_|_|_|_|_|_|_|_|_|i <;> first | exact h | omega) ble kR)) ?_
  refine gL (bV 51 (cs := (cI r { x with p14 := p, c14 := c }).toArray) rfl rfl rfl rfl kR rfl ble ?_)
  refine g3 ?_
  exact aD (.inl rfl) rfl (jO 51 (cs := (cI r { x with p14 := p, c14 := c })) rfl rfl (fun i v h => by have := aL (j := 51) (cI r { x with p14 := p, c14 := c }) 0 (H := (ky 52 13, .slice p r.wday.length c) :: (cM 52 0 (cI { r with wday := [] } { x with p14 := none, c14 := 0 }).toArray.toList (aP 52 0 [.int .u8 0, .bool false, iV 0, iV 0, iV 0, iV 0, .bool false, iV 0, .slice none 0 0, .slice none 0 0, .slice none 0 0, .slice none 0 0, .slice none 0 0, .slice none 0 0, .slice none 0 0, .slice none 0 0, .slice none 0 0, .slice none 0 0] ++ (aP 51 0 [.int .u8 0, .bool false, iV 0, iV 0, iV 0, iV 0, .bool false, iV 0, .slice none 0 0, .slice none 0 0, .slice none 0 0, .slice none 0 0, .slice none 0 0, .slice none 0 0, .slice none 0 0, .slice none 0 0, .slice none 0 0, .slice none 0 0] ++ (aP 50 0 (cI r x) ++ []))))) ble i v h; rwa [Nat.zero_add] at this) ble kR) fun w_ s_ => ⟨p, c, rfl, s_.toNew (k := 11) rfl⟩
theorem kQ {r : Rul} (rp : RightP r) (hf : 2 ≤ r.freq) : r.yday.length = 0 ∧ r.weekno.length = 0 ∧ r.easter.length = 0 := by
 obtain ⟨h1, h2⟩ := rp.t5.1 oM
 refine ⟨h2, h1, ?_⟩
 rcases Nat.eq_zero_or_pos r.easter.length with h | h
 ·exact h
 ·have := (rp.t4 0 _ (List.getElem?_eq_getElem h)).2.2.1
  omega
end
end Go.Proofs.YtdbbifbmkfmbkaaGreat
namespace Go.Proofs.YtdbbifbmkfmbkaaGreat
open Go.Md Go.Tab
theorem x7 {r : Ru} {s : It} (hk : ItOk r s) (hrem : s.rem = []) : ItOk r (out r s) where
 y := by rw [(cY r s).y]; exact hk.y
 ly := by rw [(cY r s).ly, (cY r s).y]; exact hk.ly
 mo := by rw [(cY r s).mo]; exact hk.mo
 d := by rw [(cY r s).d]; exact hk.d
 day := by rw [(cY r s).d, (cY r s).mo, (cY r s).y]; exact hk.day
 wd := by rw [(cY r s).wd]; exact hk.wd
 hr := by rw [(cY r s).h]; exact hk.hr
 mn := by rw [(cY r s).mi]; exact hk.mn
 sec := by rw [(cY r s).s]; exact hk.sec
 ts := by rw [(cY r s).ts]; exact hk.ts
 tsn := by rw [(cY r s).ts]; exact hk.tsn
 total := by
  have h := tF r s
  have h2 := hk.total
  rw [hrem] at h h2
  simp only [List.length_nil] at h h2
  omega
 count := tI r s hk.count
 wno := by rw [(cY r s).wno, (cY r s).ly]; exact hk.wno
 nwm := by rw [(cY r s).nwm, (cY r s).ly, (cY r s).lm]; exact hk.nwm
 eas := by rw [(cY r s).eas, (cY r s).ly]; exact hk.eas
 lm := by rw [(cY r s).lm, (cY r s).mo]; exact hk.lm
 meet := fun h b => by rw [i4 (cY r s).h (cY r s).mi (cY r s).s]; exact hk.meet h b
structure Msk (r : Ru) (s : It) : Prop where
 wno : s.wno = r.wnoF s.ly
 nwm : s.nwm = r.nwmF s.ly s.lm
 eas : s.eas = r.easF s.ly
theorem zH {r : Ru} {s : It} (h : Msk r s) (y m : Int) : Msk r (reb r s y m) where
 wno := by
  unfold reb; simp only
  split
  ·rename_i e; rw [h.wno, e]
  ·rfl
 nwm := by
  unfold reb; simp only
  split
  ·rename_i e; rw [h.nwm, e.1, e.2]
  ·rfl
 eas := rfl
structure Rest (s o : It) : Prop where
 h : o.h = s.h
 mi : o.mi = s.mi
 sec : o.s = s.s
 wd : o.wd = s.wd
 ts : o.ts = s.ts
 total : o.total = s.total
 count : o.count = s.count
 rem : o.rem = s.rem
theorem Rest.refl (s : It) : Rest s s := ⟨rfl, rfl, rfl, rfl, rfl, rfl, rfl, rfl⟩
theorem rR {r : Ru} : ∀ (n : Nat) (s : It), 1 ≤ s.d → s.d ≤ n → (1 ≤ s.mo ∧ s.mo ≤ 12) → (1 ≤ s.y ∧ s.y ≤ 9999) → Msk r s → (dQ r n s).fin = false →
  (1 ≤ (dQ r n s).d ∧ (dQ r n s).d ≤ Cal.mdays (dQ r n s).mo (dQ r n s).y) ∧ (1 ≤ (dQ r n s).mo ∧ (dQ r n s).mo ≤ 12) ∧ (1 ≤ (dQ r n s).y ∧ (dQ r n s).y ≤ 9999) ∧ (dQ r n s).ly = (dQ r n s).y ∧ (dQ r n s).lm = (dQ r n s).mo ∧ Msk r (dQ r n s) ∧ Rest s (dQ r n s)
 | 0, s, h1, h2, _, _, _, _ => by omega
 | n + 1, s, h1, h2, hm, hy, hk, hf => by
  have hmd := Cal.mdays_bd s.mo s.y
  unfold dQ at hf ⊢
  by_cases hd : s.d ≤ Cal.mdays s.mo s.y
  ·rw [if_pos hd] at hf ⊢
   exact ⟨⟨h1, hd⟩, hm, hy, rfl, rfl, zH hk _ _, ⟨rfl, rfl, rfl, rfl, rfl, rfl, rfl, rfl⟩⟩
  ·rw [if_neg hd] at hf ⊢
   by_cases h13 : s.mo + 1 = 13
   ·rw [if_pos h13] at hf ⊢
    by_cases hb : 9999 < s.y + 1
    ·rw [if_pos hb] at hf; cases hf
    ·rw [if_neg hb] at hf ⊢
     obtain ⟨a1, a2, a3, a4, a5, a6, a7⟩ := rR (r := r) n { s with d := s.d - Cal.mdays s.mo s.y, mo := 1, y := s.y + 1 } sO sO sO sO ⟨hk.wno, hk.nwm, hk.eas⟩ hf
     exact ⟨a1, a2, a3, a4, a5, a6, ⟨a7.h, a7.mi, a7.sec, a7.wd, a7.ts, a7.total, a7.count, a7.rem⟩⟩
   ·rw [if_neg h13] at hf ⊢
    obtain ⟨a1, a2, a3, a4, a5, a6, a7⟩ := rR (r := r) n { s with d := s.d - Cal.mdays s.mo s.y, mo := s.mo + 1 } sO sO sO hy ⟨hk.wno, hk.nwm, hk.eas⟩ hf
    exact ⟨a1, a2, a3, a4, a5, a6, ⟨a7.h, a7.mi, a7.sec, a7.wd, a7.ts, a7.total, a7.count, a7.rem⟩⟩
theorem tL {r : Ru} {s : It} (h1 : 1 ≤ s.d) (hm : 1 ≤ s.mo ∧ s.mo ≤ 12) (hy : 1 ≤ s.y ∧ s.y ≤ 9999) (hly : s.ly = s.y) (hk : Msk r s) (hf : (fix r s).fin = false) :
  (1 ≤ (fix r s).d ∧ (fix r s).d ≤ Cal.mdays (fix r s).mo (fix r s).y) ∧ (1 ≤ (fix r s).mo ∧ (fix r s).mo ≤ 12) ∧ (1 ≤ (fix r s).y ∧ (fix r s).y ≤ 9999) ∧ (fix r s).ly = (fix r s).y ∧ Msk r (fix r s) ∧ Rest s (fix r s) := by
 have hmd := Cal.mdays_bd s.mo s.y
 unfold fix at hf ⊢
 split at hf
 ·rename_i h
  rw [if_pos h]
  exact ⟨⟨h1, by omega⟩, hm, hy, hly, hk, Rest.refl s⟩
 ·rename_i h
  rw [if_neg h]
  obtain ⟨a1, a2, a3, a4, a5, a6, a7⟩ := rR (r := r) s.d.toNat s h1 oM hm hy hk hf
  exact ⟨a1, a2, a3, a4, a6, a7⟩
theorem rG {r : Ru} (hr : RuOk r) (hfq : r.freq = 0 ∨ r.freq = 2 ∨ r.freq = 3) : sH r := by
 intro s hk hrem hfin hf
 have ho := x7 hk hrem
 have hof : (out r s).fin = false := by
  cases h : (out r s).fin with
  | false => rfl
  | true => rw [oI h, h] at hf; cases hf
 rw [kM hof] at hf ⊢
 have hiv := hr.interval
 have hwk := hr.wkst
 have hmk : Msk r (out r s) := ⟨ho.wno, ho.nwm, ho.eas⟩
 have hy := ho.y
 have hd := ho.d
 have hwd := ho.wd
 have fixed : ∀ s2 : It, (1 ≤ s2.d) → s2.mo = (out r s).mo → s2.y = (out r s).y → s2.ly = (out r s).ly → s2.lm = (out r s).lm → s2.wno = (out r s).wno → s2.nwm = (out r s).nwm → s2.eas = (out r s).eas → (0 ≤ s2.wd ∧ s2.wd ≤ 6) → s2.h = (out r s).h → s2.mi = (out r s).mi → s2.s = (out r s).s → s2.ts = (out r s).ts → s2.total = (out r s).total → s2.count = (out r s).count → s2.rem = (out r s).rem → r.freq ≠ 1 → (fix r s2).fin = false → ItOk r (fix r s2) := by
  intro s2 h1 e1 e2 e3 e4 e5 e6 e7 e8 e9 e10 e11 e12 e13 e14 e15 e16 hf2
  obtain ⟨a1, a2, a3, a4, a5, a6⟩ := tL (r := r) (s := s2) h1 (by rw [e1]; exact ho.mo) (by rw [e2]; exact ho.y) (by rw [e3, e2]; exact ho.ly) ⟨by rw [e5, e3]; exact ho.wno, by rw [e6, e3, e4]; exact ho.nwm, by rw [e7, e3]; exact ho.eas⟩ hf2
  have hmd := Cal.mdays_bd (fix r s2).mo (fix r s2).y
  exact ⟨a3, a4, a2, ⟨a1.1, by omega⟩, fun _ => a1.2, by rw [a6.wd]; exact e8, by rw [a6.h, e9]; exact ho.hr, by rw [a6.mi, e10]; exact ho.mn, by rw [a6.sec, e11]; exact ho.sec, by rw [a6.ts, e12]; exact ho.ts, by rw [a6.ts, e12]; exact ho.tsn, by rw [a6.total, a6.rem, e13, e15]; exact ho.total, by rw [a6.count, e14]; exact ho.count, a5.wno, a5.nwm, a5.eas, fun h => absurd h e16, fun h => absurd h (by rcases hfq with h | h | h <;> omega)⟩
 unfold adv at hf ⊢
 rcases hfq with hq | hq | hq
 ·rw [if_pos hq] at hf ⊢
  by_cases hb : 9999 < (out r s).y + r.interval
  ·rw [if_pos hb] at hf; cases hf
  ·rw [if_neg hb] at hf ⊢
   have hm := zH (s := { out r s with y := (out r s).y + r.interval }) ⟨hmk.wno, hmk.nwm, hmk.eas⟩ ((out r s).y + r.interval) (out r s).mo
   exact ⟨by show 1 ≤ (out r s).y + r.interval ∧ (out r s).y + r.interval ≤ 9999; omega, rfl, ho.mo, ho.d, fun h => by omega, ho.wd, ho.hr, ho.mn, ho.sec, ho.ts, ho.tsn, ho.total, ho.count, hm.wno, hm.nwm, hm.eas, fun h => by omega, fun h => by omega⟩
 ·rw [if_neg oM, if_neg oM, if_pos hq] at hf ⊢
  refine fixed _ ?_ rfl rfl rfl rfl rfl rfl rfl hwk rfl rfl rfl rfl rfl rfl rfl oM hf
  simp only
  split <;> omega
 ·rw [if_neg oM, if_neg oM, if_neg oM, if_pos hq] at hf ⊢
  exact fixed _ sO rfl rfl rfl rfl rfl rfl rfl ho.wd rfl rfl rfl rfl rfl rfl rfl oM hf
theorem Gen.mono {r : Ru} {n : Nat} {s e : It} (h : Gen r n s e) : ∀ {m : Nat}, n ≤ m → Gen r m s e := by
 induction h with
 | done h => intro m _; exact .done h
 | fin h hf =>
  intro m hm
  obtain ⟨j, rfl⟩ : ∃ j, m = j + 1 := ⟨m - 1, by omega⟩
  exact .fin h hf
 | more h hf _ ih =>
  intro m hm
  obtain ⟨j, rfl⟩ : ∃ j, m = j + 1 := ⟨m - 1, by omega⟩
  exact .more h hf (ih oM)
theorem GenTo.mono {r : Ru} {n m : Nat} {s e : It} (h : GenTo r n s e) (hm : n ≤ m) : GenTo r m s e := by
 rcases h with h | ⟨h1, h2, h3⟩
 ·exact .inl h
 ·exact .inr ⟨h1, Gen.mono h2 hm, h3⟩
end Go.Proofs.YtdbbifbmkfmbkaaGreat
namespace Go.Proofs.YtdbbifbmkfmbkaaGreat
open Go.Md Go.Tab Go.Fr
def cr (c : Int) (o : List Int) (s : It) : Prop := (c = 0 → s.count = 0) ∧ (0 < c → s.count = c - o.length ∧ (o.length : Int) < c)
theorem gX (r : Ru) (s : It) (t : Int) (l : List Int) : cS r s (t :: l) = cS r (eM r s t) l := rfl
theorem zB {r : Ru} {c : Int} {o : List Int} {s : It} {t : Int} (hc : 0 ≤ c) (h : cr c (o ++ s.rem) s) (hf : (eM r s t).fin = false) : cr c (o ++ (eM r s t).rem) (eM r s t) := by
 by_cases h1 : s.fin = true
 ·rw [qY h1]; exact h
 have h1 : s.fin = false := by simpa using h1
 by_cases h2 : r.u0 < t
 ·rw [j3 h1 h2] at hf ⊢; cases hf
 by_cases h3 : t < r.d0
 ·rw [lC h1 h2 h3]; exact h
 by_cases h4 : s.count = 0
 ·rw [kL h1 h2 h3 h4]
  refine ⟨fun _ => h4, fun h0 => ?_⟩
  obtain ⟨a, b⟩ := h.2 h0
  omega
 ·rw [jY h1 h2 h3 h4] at hf ⊢
  refine ⟨fun h0 => absurd (h.1 h0) h4, fun h0 => ?_⟩
  obtain ⟨a, b⟩ := h.2 h0
  have : s.count - 1 ≠ 0 := by simpa using hf
  simp only [List.length_append, List.length_singleton] at a b ⊢
  omega
theorem rC {r : Ru} {c : Int} {o : List Int} (hc : 0 ≤ c) : ∀ (l : List Int) (s : It), cr c (o ++ s.rem) s → (cS r s l).fin = false → cr c (o ++ (cS r s l).rem) (cS r s l)
 | [], s, h, _ => h
 | t :: l, s, h, hf => by
  rw [gX] at hf ⊢
  refine rC hc l _ (zB hc h ?_) hf
  cases he : (eM r s t).fin with
  | false => rfl
  | true => rw [iS he, he] at hf; cases hf
theorem aCo (r : Ru) (s : It) (t : Int) : ∃ x, (eM r s t).rem = s.rem ++ x ∧ x.length ≤ 1 := by
 unfold eM
 split
 ·exact ⟨[], by simp, by simp⟩
 ·split
  ·exact ⟨[], by simp, by simp⟩
  ·split
   ·exact ⟨[], by simp, by simp⟩
   ·split <;> exact ⟨[t], rfl, by simp⟩
theorem oG (r : Ru) : ∀ (l : List Int) (s : It), ∃ x, (cS r s l).rem = s.rem ++ x ∧ x.length ≤ l.length
 | [], s => ⟨[], by simp [cS], by simp⟩
 | t :: l, s => by
  obtain ⟨x, h1, h3⟩ := aCo r s t
  obtain ⟨y, h2, h4⟩ := oG r l (eM r s t)
  exact ⟨x ++ y, by rw [gX, h2, h1, List.append_assoc], by simp only [List.length_append, List.length_cons]; omega⟩
theorem fX {c st en most t : Int} {o l : List Int} : eJ c st en most o (t :: l) = if t < st then eJ c st en most o l else if (o.length : Int) = most ∨ (0 < c ∧ (o.length : Int) = c) ∨ en < t then (o, false) else eJ c st en most (o ++ [t]) l := by rw [eJ]
theorem qQ {c st en most : Int} : ∀ (l o : List Int), 0 < c → (o.length : Int) = c → (eJ c st en most o l).1 = o
 | [], o, _, _ => rfl
 | t :: l, o, h0, h => by
  rw [fX]
  split
  ·exact qQ l o h0 h
  ·rw [if_pos (.inr (.inl ⟨h0, h⟩))]
theorem mF {r : Ru} {c most : Int} (hc : 0 ≤ c) (hd : r.d0 ≤ r.u0) (o : List Int) : ∀ (l : List Int) (s : It), s.fin = false → ((o ++ s.rem).length : Int) ≤ most → cr c (o ++ s.rem) s →
  (eJ c r.d0 r.u0 most (o ++ s.rem) l).1 = (o ++ (cS r s l).rem).take most.toNat ∧
  ((eJ c r.d0 r.u0 most (o ++ s.rem) l).2 = true → (eJ c r.d0 r.u0 most (o ++ s.rem) l).1 = o ++ (cS r s l).rem ∧ ((cS r s l).fin = true → 0 < c ∧ ((o ++ (cS r s l).rem).length : Int) = c)) ∧
  ((eJ c r.d0 r.u0 most (o ++ s.rem) l).2 = false → ((eJ c r.d0 r.u0 most (o ++ s.rem) l).1.length : Int) = most ∨ ((cS r s l).fin = true ∧ (eJ c r.d0 r.u0 most (o ++ s.rem) l).1 = o ++ (cS r s l).rem))
 | [], s, hf, hm, _ => by
  refine ⟨?_, fun _ => ⟨rfl, fun h => ?_⟩, fun h => (by cases h)⟩
  ·show o ++ s.rem = (o ++ s.rem).take most.toNat
   rw [List.take_of_length_le oM]
  ·rw [show (cS r s []).fin = s.fin from rfl, hf] at h; cases h
 | t :: l, s, hf, hm, hr => by
  by_cases h3 : t < r.d0
  ·have e : eM r s t = s := lC hf oM h3
   rw [gX, e, show eJ c r.d0 r.u0 most (o ++ s.rem) (t :: l) = eJ c r.d0 r.u0 most (o ++ s.rem) l by rw [fX, if_pos h3]]
   exact mF hc hd o l s hf hm hr
  ·have ea : eJ c r.d0 r.u0 most (o ++ s.rem) (t :: l) = if ((o ++ s.rem).length : Int) = most ∨ (0 < c ∧ ((o ++ s.rem).length : Int) = c) ∨ r.u0 < t then (o ++ s.rem, false) else eJ c r.d0 r.u0 most (o ++ s.rem ++ [t]) l := by rw [fX, if_neg h3]
   by_cases h5 : ((o ++ s.rem).length : Int) = most
   ·rw [ea, if_pos (.inl h5)]
    obtain ⟨x, hx, _⟩ := oG r (t :: l) s
    refine ⟨?_, fun h => (by cases h), fun _ => .inl h5⟩
    rw [hx, ← List.append_assoc, List.take_append_of_le_length oM, List.take_of_length_le oM]
   ·by_cases h2 : r.u0 < t
    ·rw [ea, if_pos (.inr (.inr h2)), gX, j3 hf h2, iS rfl]
     refine ⟨?_, fun h => (by cases h), fun _ => .inr ⟨rfl, rfl⟩⟩
     rw [List.take_of_length_le sO]
    ·have h6 : ¬ (0 < c ∧ ((o ++ s.rem).length : Int) = c) := fun h => by have := (hr.2 h.1).2; omega
     rw [ea, if_neg (by rintro (h | h | h); exact h5 h; exact h6 h; exact h2 h), gX]
     have hrem : (eM r s t).rem = s.rem ++ [t] := by
      by_cases h4 : s.count = 0
      ·rw [kL hf h2 h3 h4]
      ·rw [jY hf h2 h3 h4]
     have hl : ((o ++ (eM r s t).rem).length : Int) ≤ most := by rw [hrem, ← List.append_assoc]; simp only [List.length_append, List.length_singleton] at *; omega
     rw [List.append_assoc, ← hrem]
     by_cases hf2 : (eM r s t).fin = false
     ·exact mF hc hd o l _ hf2 hl (zB hc hr hf2)
     ·have hf2 : (eM r s t).fin = true := by simpa using hf2
      rw [iS hf2]
      have h4 : s.count ≠ 0 := fun h4 => by rw [kL hf h2 h3 h4] at hf2; exact absurd hf2 (by rw [hf]; decide)
      have hk : s.count - 1 = 0 := by rw [jY hf h2 h3 h4] at hf2; simpa using hf2
      have hc0 : 0 < c := by
       rcases Int.lt_or_eq_of_le hc with h | h
       ·exact h
       ·exact absurd (hr.1 h.symm) h4
      have hlc : ((o ++ (eM r s t).rem).length : Int) = c := by rw [hrem]; have := hr.2 hc0; simp only [List.length_append, List.length_singleton] at *; omega
      have e1 := qQ (st := r.d0) (en := r.u0) (most := most) l (o ++ (eM r s t).rem) hc0 hlc
      rw [e1, List.take_of_length_le oM]
      exact ⟨rfl, fun _ => ⟨rfl, fun _ => ⟨hc0, hlc⟩⟩, fun _ => .inr ⟨hf2, rfl⟩⟩
theorem nG {r : Ru} (hd : r.u0 < r.d0) : ∀ (l : List Int) (s : It), (cS r s l).rem = s.rem
 | [], s => rfl
 | t :: l, s => by
  rw [gX, nG hd l]
  unfold eM
  split
  ·rfl
  ·split
   ·rfl
   ·rw [if_pos oM]
theorem iY {c st en most : Int} (hd : en < st) : ∀ (l o : List Int), (eJ c st en most o l).1 = o
 | [], o => rfl
 | t :: l, o => by
  rw [fX]
  split
  ·exact iY hd l o
  ·rw [if_pos (.inr (.inr oM))]
theorem rK {r : Ru} {c most : Int} (hd : r.u0 < r.d0) : ∀ (l : List Int) (s : It) (o : List Int), (o.length : Int) < most → (0 < c → (o.length : Int) < c) → (eJ c r.d0 r.u0 most o l).2 = false → (cS r s l).fin = true
 | [], s, o, _, _, h => by cases h
 | t :: l, s, o, hm, hc, h => by
  rw [gX]
  cases hf : (eM r s t).fin with
  | true => rw [iS hf]; exact hf
  | false =>
   rw [fX] at h
   split at h
   ·exact rK hd l _ o hm hc h
   ·exfalso
    have h1 : s.fin = false := by
     cases h1 : s.fin with
     | false => rfl
     | true => rw [qY h1, h1] at hf; cases hf
    rw [j3 h1 oM] at hf; cases hf
theorem sV {r : Ru} {q : Rul} {most : Int} {o L1 L2 l : List Int} {s : It} (hc : 0 ≤ q.count) (hst : r.d0 = q.start) (hl : kE l q.setpos = L1 ++ L2) (h1 : ∀ t ∈ L1, t < r.d0) (hf : s.fin = false) (hrem : s.rem = []) (hm : (o.length : Int) < most) (hr : cr q.count o s) :
  ((kI q q.start r.u0 most o l).2 = true → (kI q q.start r.u0 most o l).1 = o ++ (cS r s L2).rem ∧ ((o ++ (cS r s L2).rem).length : Int) < most ∧ ((cS r s L2).fin = true → r.u0 < r.d0)) ∧
  ((kI q q.start r.u0 most o l).2 = false → (kI q q.start r.u0 most o l).1 = (o ++ (cS r s L2).rem).take most.toNat ∧ (((o ++ (cS r s L2).rem).take most.toNat).length = most ∨ (cS r s L2).fin = true)) ∧
  ((cS r s L2).fin = false → cr q.count (o ++ (cS r s L2).rem) (cS r s L2)) := by
 have hgo : ∀ (L1 : List Int), (∀ t ∈ L1, t < r.d0) → eJ q.count r.d0 r.u0 most o (L1 ++ L2) = eJ q.count r.d0 r.u0 most o L2 := by
  intro L1
  induction L1 with
  | nil => intro _; rfl
  | cons t L1 ih =>
   intro h
   show eJ _ _ _ _ _ (t :: (L1 ++ L2)) = _
   rw [fX, if_pos (h t (List.mem_cons_self ..))]
   exact ih fun u hu => h u (List.mem_cons_of_mem _ hu)
 have he : o ++ s.rem = o := by rw [hrem, List.append_nil]
 refine ⟨fun h => ?_, fun h => ?_, fun h => rC hc L2 s (by rw [he]; exact hr) h⟩
 all_goals
  unfold kI at h ⊢
  rw [hl, ← hst, hgo L1 h1] at h ⊢
  simp only at h ⊢
 ·rw [Bool.and_eq_true] at h
  obtain ⟨h2, h3⟩ := h
  unfold o7 at h3
  rw [Bool.and_eq_true] at h3
  have h4 := oT h3.1
  rcases Int.lt_or_le r.u0 r.d0 with hd | hd
  ·rw [iY hd] at h4 ⊢
   rw [nG hd, he]
   exact ⟨rfl, h4, fun _ => hd⟩
  ·obtain ⟨a1, a2, a3⟩ := mF (most := most) hc hd o L2 s hf (by rw [he]; omega) (by rw [he]; exact hr)
   rw [he] at a1 a2 a3
   obtain ⟨b1, b2⟩ := a2 h2
   rw [b1] at h4 h3 ⊢
   refine ⟨rfl, h4, fun h5 => ?_⟩
   obtain ⟨c1, c2⟩ := b2 h5
   have := h3.2
   rw [c2] at this
   simp at this; omega
 ·rcases Int.lt_or_le r.u0 r.d0 with hd | hd
  ·rw [iY hd, nG hd, he, List.take_of_length_le oM]
   refine ⟨rfl, .inr ?_⟩
   have hcl : 0 < q.count → (o.length : Int) < q.count := fun h0 => (hr.2 h0).2
   refine rK hd L2 s o hm hcl ?_
   rw [iY hd] at h
   cases h2 : (eJ q.count r.d0 r.u0 most o L2).2 with
   | false => rfl
   | true =>
    exfalso
    rw [h2] at h
    unfold o7 at h
    rw [decide_eq_true hm] at h
    simp at h
    have := hcl oM
    omega
  ·obtain ⟨a1, a2, a3⟩ := mF (most := most) hc hd o L2 s hf (by rw [he]; omega) (by rw [he]; exact hr)
   rw [he] at a1 a2 a3
   have hlen := kP q.count r.d0 r.u0 most L2 o oM
   refine ⟨a1, ?_⟩
   rw [← a1]
   cases h2 : (eJ q.count r.d0 r.u0 most o L2).2 with
   | false =>
    rcases a3 h2 with h5 | h5
    ·exact .inl h5
    ·exact .inr h5.1
   | true =>
    obtain ⟨b1, b2⟩ := a2 h2
    rw [h2] at h
    unfold o7 at h
    simp only [Bool.true_and, Bool.and_eq_false_iff, decide_eq_false_iff_not, Bool.or_eq_false_iff, beq_eq_false_iff_ne] at h
    rcases h with h | ⟨h5, h6⟩
    ·exact .inl oM
    ·refine .inr ?_
     cases hf2 : (cS r s L2).fin with
     | true => rfl
     | false =>
      have := (rC hc L2 s (by rw [he]; exact hr) hf2).2 oM
      rw [b1] at h6; omega
theorem xX {r : Ru} {N : Nat} {s : It} {k : Nat} {l : List Int} (h : Tells r N s k l) {M : Nat} (hm : N ≤ M) : Tells r M s k l := by
 induction h with
 | zero => exact .zero
 | stop h hr => exact .stop (GenTo.mono h hm) hr
 | more h hr _ ih => exact .more (GenTo.mono h hm) hr ih
theorem aCr {r : Ru} {s : It} (h : ItOk r s) (ht : s.total ≤ 1000000000000) (p : List Int) : ItOk r { s with rem := p } := ⟨h.y, h.ly, h.mo, h.d, h.day, h.wd, h.hr, h.mn, h.sec, h.ts, h.tsn, ⟨h.total.1, by simp only; omega⟩, h.count, h.wno, h.nwm, h.eas, h.lm, fun hf b => (h.meet hf b).imp fun _ hk => ⟨(i4 (s := s) (o := { s with rem := p }) rfl rfl rfl).trans hk.1, hk.2⟩⟩
theorem yF {s : It} {p : List Int} (h : s.rem = p) : s = { s with rem := p } := by subst h; rfl
theorem aAz {r : Ru} {N : Nat} {s : It} (h : s.fin = true) (hr : s.rem = []) : ∀ k, Tells r N s k []
 | 0 => .zero
 | k + 1 => .stop (.inl ⟨h, rfl⟩) hr
theorem tE {r : Ru} {N : Nat} {k : Nat} {l : List Int} : ∀ (P : List Int) (s : It), s.rem = P → (s.fin = true ∨ ∀ p, ItOk r { s with rem := p }) → Tells r N { s with rem := [] } k l → Tells r N s (P.length + k) (P ++ l)
 | [], s, hp, _, h => by rw [yF hp, List.length_nil, Nat.zero_add]; exact h
 | t :: P, s, hp, hok, h => by
  rw [List.length_cons, Nat.add_right_comm]
  refine .more (e := s) ?_ (by rw [hp]; rfl) (tE P { s with rem := s.rem.tail } (by rw [hp]; rfl) hok h)
  cases hf : s.fin with
  | true => exact .inl ⟨hf, rfl⟩
  | false =>
   rcases hok with hok | hok
   ·rw [hf] at hok; cases hok
   ·exact .inr ⟨hf, .done (by rw [hp]; exact List.cons_ne_nil _ _), by have := hok s.rem; rwa [← yF rfl] at this⟩
theorem nD {r : Ru} {N : Nat} : ∀ (P : List Int) (s : It) (k : Nat), s.rem = P → (s.fin = true ∨ ((∀ p, ItOk r { s with rem := p }) ∧ k ≤ P.length)) → Tells r N s k (P.take k)
 | P, s, 0, _, _ => by rw [List.take_zero]; exact .zero
 | [], s, k + 1, hp, hok => by
  rcases hok with h | ⟨_, h⟩
  ·exact aAz h hp _
  ·simp at h
 | t :: P, s, k + 1, hp, hok => by
  rw [List.take_succ_cons]
  refine .more (e := s) ?_ (by rw [hp]; rfl) (nD P { s with rem := s.rem.tail } k (by rw [hp]; rfl) (hok.imp id fun h => ⟨h.1, by have := h.2; simp only [List.length_cons] at this; omega⟩))
  cases hf : s.fin with
  | true => exact .inl ⟨hf, rfl⟩
  | false =>
   rcases hok with hok | ⟨hok, _⟩
   ·rw [hf] at hok; cases hok
   ·exact .inr ⟨hf, .done (by rw [hp]; exact List.cons_ne_nil _ _), by have := hok s.rem; rwa [← yF rfl] at this⟩
theorem sZ {r : Ru} {N : Nat} {s e : It} (hi : ItOk r s) (hf : s.fin = false) (hr : s.rem = []) (h : GenTo r N (dN r s) e) : GenTo r (N + 1) s e := by
 refine .inr ⟨hf, ?_, hi⟩
 rcases h with ⟨h, rfl⟩ | ⟨h, hg, _⟩
 ·exact .fin hr h
 ·exact .more hr h hg
theorem l4 {r : Ru} {N : Nat} {s : It} {k : Nat} {l : List Int} (hi : ItOk r s) (hf : s.fin = false) (hr : s.rem = []) (h : Tells r N (dN r s) k l) : Tells r (N + 1) s k l := by
 cases h with
 | zero => exact .zero
 | stop h hr2 => exact .stop (sZ hi hf hr h) hr2
 | more h hr2 ht => exact .more (sZ hi hf hr h) hr2 (xX ht (Nat.le_succ N))
structure Fits (r : Ru) (q : Rul) (dayF : Int → Bool) (R : Int → It → Prop) : Prop where
 over : ∀ k, 0 ≤ k → fQ q k → fQ q (k + 1)
 same : ∀ k s s', R k s → Same s s' → R k s'
 pos : ∀ k s, 0 ≤ k → R k s → ItOk r s → ¬fQ q k → ∃ L1 L2, kE (fW q dayF k) q.setpos = L1 ++ L2 ∧ (∀ t ∈ L1, t < r.d0) ∧ out r s = cS r s L2
 adv : ∀ k s, 0 ≤ k → R k s → ItOk r s → ¬fQ q k → s.fin = false → ∃ k', k < k' ∧ (∀ j, k < j → j < k' → fW q dayF j = []) ∧ ((adv r (cD r s) s).fin = false → R k' (adv r (cD r s) s) ∧ ¬fQ q k') ∧ ((adv r (cD r s) s).fin = true → fQ q k')
theorem Fits.overs {r : Ru} {q : Rul} {dayF : Int → Bool} {R : Int → It → Prop} (h : Fits r q dayF R) {k : Int} (hk : 0 ≤ k) (ho : fQ q k) : ∀ n : Nat, fQ q (k + n)
 | 0 => by simpa using ho
 | n + 1 => by have := h.over _ oM (h.overs hk ho n); rwa [show k + ((n + 1 : Nat) : Int) = k + n + 1 by omega]
theorem aCi (r : Ru) (b : Bool) (s : It) : (adv r b s).rem = s.rem ∧ (adv r b s).total = s.total ∧ (adv r b s).count = s.count := by
 have hg : ∀ (n : Nat) (s : It), (dQ r n s).rem = s.rem ∧ (dQ r n s).total = s.total ∧ (dQ r n s).count = s.count := by
  intro n
  induction n with
  | zero => intro s; exact ⟨rfl, rfl, rfl⟩
  | succ n ih =>
   intro s
   unfold dQ
   split
   ·exact ⟨rfl, rfl, rfl⟩
   ·split
    ·split
     ·exact ⟨rfl, rfl, rfl⟩
     ·exact ih _
    ·exact ih _
 have hx : ∀ s : It, (fix r s).rem = s.rem ∧ (fix r s).total = s.total ∧ (fix r s).count = s.count := by
  intro s
  unfold fix
  split
  ·exact ⟨rfl, rfl, rfl⟩
  ·exact hg _ s
 have hs : ∀ t, (bO r.freq s t).rem = s.rem ∧ (bO r.freq s t).total = s.total ∧ (bO r.freq s t).count = s.count := fun t => by
  unfold bO
  split
  ·exact ⟨rfl, rfl, rfl⟩
  ·split <;> exact ⟨rfl, rfl, rfl⟩
 unfold adv
 split
 ·split <;> exact ⟨rfl, rfl, rfl⟩
 ·split
  ·have key : ∀ y mo : Int, (if 9999 < y then { s with y := y, mo := mo, fin := true } else reb r { s with y := y, mo := mo } y mo).rem = s.rem ∧ (if 9999 < y then { s with y := y, mo := mo, fin := true } else reb r { s with y := y, mo := mo } y mo).total = s.total ∧ (if 9999 < y then { s with y := y, mo := mo, fin := true } else reb r { s with y := y, mo := mo } y mo).count = s.count := fun y mo => by split <;> exact ⟨rfl, rfl, rfl⟩
   exact key _ _
  ·split
   ·exact hx _
   ·split
    ·exact hx _
    ·unfold aEt
     exact ⟨(hx _).1.trans (hs _).1, (hx _).2.1.trans (hs _).2.1, (hx _).2.2.trans (hs _).2.2⟩
theorem sA {r : Ru} {s o : It} (h : Same s o) : cD r o = cD r s := by
 have hs : aW r o = aW r s := by unfold aW; rw [h.ly, h.mo, h.y, h.d]
 unfold cD
 rw [hs]
 congr 1
 funext k
 exact h.bad _
theorem n8 {q : Rul} {st en most : Int} {o : List Int} (h1 : (o.length : Int) < most) (h2 : 0 < q.count → (o.length : Int) < q.count) (hc : 0 ≤ q.count) : kI q st en most o [] = (o, true) := by
 have e : kE [] q.setpos = [] := by unfold kE; split <;> rfl
 unfold kI
 rw [e]
 show (o, true && o7 q.count most o.length) = _
 unfold o7
 rw [decide_eq_true h1]
 rcases Int.lt_or_eq_of_le hc with h | h
 ·rw [decide_eq_true (h2 h)]; simp
 ·rw [← h]; rfl
theorem yA {q : Rul} {dayF : Int → Bool} {en most : Int} (hc : 0 ≤ q.count) {k : Int} {o l : List Int} (h : DatesP q dayF en most k o l) : ∀ k', k ≤ k' → (∀ j, k ≤ j → j < k' → fW q dayF j = []) → fQ q k' → (o.length : Int) < most → (0 < q.count → (o.length : Int) < q.count) → l = o := by
 induction h with
 | over _ => intros; rfl
 | @stop k o h hs =>
  intro k' hk he ho h1 h2
  by_cases e : k = k'
  ·subst e; exact absurd ho h
  ·rw [he k oM oM, n8 h1 h2 hc] at hs; cases hs
 | @more k o l h hs hn ih =>
  intro k' hk he ho h1 h2
  by_cases e : k = k'
  ·subst e; exact absurd ho h
  ·rw [he k oM oM, n8 h1 h2 hc] at ih
   exact ih k' oM (fun j h3 h4 => he j oM h4) ho h1 h2
theorem wX {q : Rul} {dayF : Int → Bool} {en most : Int} {k : Int} {o l : List Int} (h : DatesP q dayF en most k o l) (hd : en < q.start) : l = o := by
 induction h with
 | over _ => rfl
 | stop h hs => unfold kI; exact iY hd _ _
 | more h hs hn ih => rw [ih]; unfold kI; exact iY hd _ _
theorem aAx {q : Rul} (dayF : Int → Bool) (k : Int) : (fW q dayF k).length ≤ 31622400 := by
 unfold fW
 split
 ·split
  ·exact Nat.le_trans (qJ _ _ _ _ _ _) dE
  ·simp
 ·have h1 := vT q dayF (dC q k) (jG q k).toNat
  have h2 : jG q k ≤ 366 := by
   have := Cal.lp_01 (pY q k)
   have := Cal.mdays_bd (pN q k % 12 + 1) (pM q k)
   unfold jG
   split
   ·omega
   ·split
    ·omega
    ·split <;> omega
  have h3 : (jG q k).toNat ≤ 366 := by omega
  have := Nat.mul_le_mul_right 86400 h3
  omega
theorem wH {r : Ru} {q : Rul} {dayF : Int → Bool} {R : Int → It → Prop} (fits : Fits r q dayF R) (hpres : sH r) (hc : 0 ≤ q.count) (hst : r.d0 = q.start) {en most : Int} (hen : r.u0 = en) (hmost : most ≤ 1000000) {k : Int} {o l : List Int} (h : DatesP q dayF en most k o l) : 0 ≤ k → ∀ k' s, k ≤ k' → (∀ j, k ≤ j → j < k' → fW q dayF j = []) → R k' s → ¬fQ q k' → ItOk r s → s.fin = false → s.rem = [] → s.total = o.length → (o.length : Int) < most → cr q.count o s →
  ∃ N l', l = o ++ l' ∧ Tells r N s (most - o.length).toNat l' := by
 subst hen
 have hpos : ∀ k s (o : List Int), 0 ≤ k → R k s → ¬fQ q k → ItOk r s → s.fin = false → s.rem = [] → s.total = o.length → (o.length : Int) < most → cr q.count o s → (dN r s).rem = (out r s).rem ∧ (dN r s).total = o.length + (out r s).rem.length ∧ (dN r s).total ≤ 1000000000000 ∧ (dN r s).count = (out r s).count ∧ ((dN r s).fin = true ∨ ∀ p, ItOk r { dN r s with rem := p }) := by
  intro k s o h0 hR ho hi hf hr ht hm hcr
  obtain ⟨L1, L2, hl, h1, he⟩ := fits.pos k s h0 hR hi ho
  obtain ⟨x, hx1, hx2⟩ := oG r L2 s
  have ht2 := tF r s
  rw [hr] at ht2 hx1
  rw [← he, List.nil_append] at hx1
  have hL : L2.length ≤ 31622400 := by
   have h2 := congrArg List.length hl
   have h3 := aBh (fW q dayF k) q.setpos
   have h4 := aAx (q := q) dayF k
   rw [List.length_append] at h2; omega
  simp only [List.length_nil] at ht2
  have hrd : (dN r s).rem = (out r s).rem ∧ (dN r s).total = (out r s).total ∧ (dN r s).count = (out r s).count := by
   unfold dN
   split
   ·exact ⟨rfl, rfl, rfl⟩
   ·exact aCi r _ _
  have h5 : (dN r s).total = o.length + (out r s).rem.length := by rw [hrd.2.1]; omega
  have h6 : (dN r s).total ≤ 1000000000000 := by rw [h5, hx1]; omega
  refine ⟨hrd.1, h5, h6, hrd.2.2, ?_⟩
  cases hf2 : (dN r s).fin with
  | true => exact .inl rfl
  | false => exact .inr (aCr (hpres s hi hr hf hf2) h6)
 induction h with
 | @over k o h =>
  intro h0 k' s hk _ _ hno
  have := fits.overs h0 h (k' - k).toNat
  rw [Int.toNat_of_nonneg oM] at this
  exact absurd (by rwa [show ∀ a b : Int, a + (b - a) = b by omega] at this) hno
 | @stop k o h hs =>
  intro h0 k' s hk hem hR hno hi hf hr ht hm hcr
  by_cases e : k = k'
  ·subst e
   obtain ⟨L1, L2, hl, h1, he⟩ := fits.pos k s h0 hR hi h
   obtain ⟨_, a2, _⟩ := sV (most := most) hc hst hl h1 hf hr hm hcr
   obtain ⟨b1, b2⟩ := a2 hs
   obtain ⟨c1, c2, c3, c4, c5⟩ := hpos k s o h0 hR h hi hf hr ht hm hcr
   rw [← he] at b1 b2
   refine ⟨0 + 1, (out r s).rem.take (most - o.length).toNat, ?_, l4 hi hf hr ?_⟩
   ·rw [b1, List.take_append, List.take_of_length_le oM]
    congr 2; omega
   ·refine nD _ _ _ c1 ?_
    rcases b2 with b2 | b2
    ·rcases c5 with c5 | c5
     ·exact .inl c5
     ·rw [List.length_take, List.length_append] at b2
      exact .inr ⟨c5, by omega⟩
    ·left
     unfold dN; rw [if_pos b2]; exact b2
  ·rw [hem k oM oM, n8 hm (fun h => (hcr.2 h).2) hc] at hs; cases hs
 | @more k o l h hs hn ih =>
  intro h0 k' s hk hem hR hno hi hf hr ht hm hcr
  by_cases e : k = k'
  ·subst e
   obtain ⟨L1, L2, hl, h1, he⟩ := fits.pos k s h0 hR hi h
   obtain ⟨a1, _, a3⟩ := sV (most := most) hc hst hl h1 hf hr hm hcr
   obtain ⟨b1, b2, b3⟩ := a1 hs
   obtain ⟨c1, c2, c3, c4, c5⟩ := hpos k s o h0 hR h hi hf hr ht hm hcr
   rw [← he] at b1 b2 b3 a3
   rw [b1] at hn ih
   have hm2 : (o.length : Int) + (out r s).rem.length < most := by rw [List.length_append] at b2; omega
   have ends : l = o ++ (out r s).rem → (dN r s).fin = true → ∃ N l', l = o ++ l' ∧ Tells r N s (most - o.length).toNat l' := by
    intro e1 e2
    refine ⟨0 + 1, (out r s).rem, e1, l4 hi hf hr ?_⟩
    have := nD (r := r) (N := 0) (out r s).rem (dN r s) (most - o.length).toNat c1 (.inl e2)
    rwa [List.take_of_length_le oM] at this
   cases hf3 : (out r s).fin with
   | true => exact ends (wX hn (by rw [← hst]; exact b3 hf3)) (by unfold dN; rw [if_pos hf3]; exact hf3)
   | false =>
    have hsm := cY r s
    have hi2 := x7 hi hr
    obtain ⟨k2, d1, d2, d3, d4⟩ := fits.adv k (out r s) h0 (fits.same k _ _ hR hsm) hi2 h hf3
    rw [sA hsm] at d3 d4
    have hrd : dN r s = adv r (cD r s) (out r s) := kM hf3
    rw [← hrd] at d3 d4
    have hcr2 := a3 hf3
    cases hf4 : (dN r s).fin with
    | true => exact ends (yA hc hn k2 oM (fun j h1 h2 => d2 j oM h2) (d4 hf4) b2 (fun h => (hcr2.2 h).2)) hf4
    | false =>
     obtain ⟨d5, d6⟩ := d3 hf4
     rcases c5 with c5 | c5
     ·rw [hf4] at c5; cases c5
     have hsm2 : Same (dN r s) { dN r s with rem := [] } := ⟨rfl, rfl, rfl, rfl, rfl, rfl, rfl, rfl, rfl, rfl, rfl, rfl, rfl⟩
     obtain ⟨N, l', e1, e2⟩ := ih oM k2 { dN r s with rem := [] } oM (fun j h1 h2 => d2 j oM h2) (fits.same _ _ _ d5 hsm2) d6 (c5 []) hf4 rfl (by rw [List.length_append]; simp only; omega) b2 ⟨fun h => by simp only; rw [c4]; exact hcr2.1 h, fun h => by simp only; rw [c4]; exact hcr2.2 h⟩
     refine ⟨N + 1, (out r s).rem ++ l', by rw [e1, List.append_assoc], l4 hi hf hr ?_⟩
     have := tE (out r s).rem (dN r s) c1 (.inr c5) e2
     rwa [show (out r s).rem.length + (most - ((o ++ (out r s).rem).length : Int)).toNat = (most - o.length).toNat by rw [List.length_append]; omega] at this
  ·rw [hem k oM oM, n8 hm (fun h => (hcr.2 h).2) hc] at ih
   exact ih oM k' s oM (fun j h1 h2 => hem j oM h2) hR hno hi hf hr ht hm hcr
end Go.Proofs.YtdbbifbmkfmbkaaGreat
namespace Go.Proofs.YtdbbifbmkfmbkaaGreat
open Go.Md Go.Tab Go.Fr
theorem mE {l : List Int} {i : Nat} (d : Int) (h : i < l.length) : l.getD i d = l[i] := by rw [List.getD_eq_getElem?_getD, List.getElem?_eq_getElem h]; rfl
abbrev SI (l : List Int) : Prop := l.Pairwise (· < ·)
theorem SI.ext : ∀ {l m : List Int}, SI l → SI m → (∀ x, x ∈ l ↔ x ∈ m) → l = m
 | [], [], _, _, _ => rfl
 | [], b :: m, _, _, h => absurd ((h b).2 (List.mem_cons_self ..)) (by simp)
 | a :: l, [], _, _, h => absurd ((h a).1 (List.mem_cons_self ..)) (by simp)
 | a :: l, b :: m, hl, hm, h => by
  obtain ⟨l1, l2⟩ := List.pairwise_cons.1 hl
  obtain ⟨m1, m2⟩ := List.pairwise_cons.1 hm
  have e : a = b := by
   rcases List.mem_cons.1 ((h a).1 (List.mem_cons_self ..)) with e | h1
   ·exact e
   ·rcases List.mem_cons.1 ((h b).2 (List.mem_cons_self ..)) with e | h2
    ·exact e.symm
    ·have := m1 a h1; have := l1 b h2; omega
  subst e
  rw [SI.ext l2 m2 fun x => ⟨fun hx => ?_, fun hx => ?_⟩]
  ·rcases List.mem_cons.1 ((h x).1 (List.mem_cons_of_mem _ hx)) with e | h1
   ·have := l1 x hx; omega
   ·exact h1
  ·rcases List.mem_cons.1 ((h x).2 (List.mem_cons_of_mem _ hx)) with e | h1
   ·have := m1 x hx; omega
   ·exact h1
theorem mL {x : Int} {l : List Int} : x ∈ dK l ↔ x ∈ l := by unfold dK; exact List.mem_mergeSort
theorem qO {l : List Int} (h : l.Nodup) : SI (dK l) := by
 have h1 : (dK l).Pairwise (fun a b => decide (a ≤ b) = true) := by
  unfold dK
  exact List.pairwise_mergeSort (fun a b c h1 h2 => by simp only [decide_eq_true_eq] at *; omega) (fun a b => by simp only [Bool.or_eq_true, decide_eq_true_eq]; omega) l
 have h2 : (dK l).Nodup := (List.mergeSort_perm l _).nodup_iff.2 h
 exact (h1.and h2).imp fun {a b} ⟨h3, h4⟩ => by simp only [decide_eq_true_eq] at h3; omega
theorem SI.nodup {l : List Int} (h : SI l) : l.Nodup := h.imp fun {a b} h => by omega
theorem SI.map_add {l : List Int} (h : SI l) (d : Int) : SI (l.map (d + ·)) := by
 unfold SI
 rw [List.pairwise_map]
 exact h.imp fun {a b} h => by omega
theorem SI.flat {f : Nat → List Int} {a : Int} {w : Int} (hw : 0 ≤ w) (h : ∀ i, SI (f i)) (hb : ∀ (i : Nat) x, x ∈ f i → a + i * w ≤ x ∧ x < a + i * w + w) (n : Nat) : SI ((List.range n).flatMap f) := by
 unfold SI
 rw [List.pairwise_flatMap]
 refine ⟨fun i _ => h i, List.pairwise_lt_range.imp fun {i j} hij x hx y hy => ?_⟩
 have h1 := (hb i x hx).2
 have h2 := (hb j y hy).1
 have h3 : ((i : Int) + 1) * w ≤ (j : Int) * w := Int.mul_le_mul_of_nonneg_right oM hw
 rw [Int.add_mul, Int.one_mul] at h3
 omega
theorem jN {f : Nat → List Int} {n : Nat} {x : Int} : x ∈ (List.range n).flatMap f ↔ ∃ i, i < n ∧ x ∈ f i := by
 rw [List.mem_flatMap]
 exact ⟨fun ⟨i, h1, h2⟩ => ⟨i, List.mem_range.1 h1, h2⟩, fun ⟨i, h1, h2⟩ => ⟨i, List.mem_range.2 h1, h2⟩⟩
theorem aCa {l at_ : List Int} (h : SI l) : SI (rT l at_ l.length) := by
 unfold rT SI
 rw [List.pairwise_map]
 have h1 : ((List.range l.length).filter (zY at_ l.length)).Pairwise (· < ·) := List.pairwise_lt_range.filter _
 refine h1.imp_of_mem fun {i j} hi hj hij => ?_
 have hj2 := List.mem_range.1 (List.mem_filter.1 hj).1
 rw [mE _ hj2, mE _ (Nat.lt_trans hij hj2)]
 exact List.pairwise_iff_getElem.1 h i j _ hj2 hij
theorem aAu {l at_ : List Int} {x : Int} : x ∈ rT l at_ l.length ↔ ∃ i, zY at_ l.length i = true ∧ l[i]? = some x := by
 unfold rT
 rw [List.mem_map]
 constructor
 ·rintro ⟨i, h1, rfl⟩
  obtain ⟨h2, h3⟩ := List.mem_filter.1 h1
  have := List.mem_range.1 h2
  exact ⟨i, h3, by rw [mE _ this, List.getElem?_eq_getElem this]⟩
 ·rintro ⟨i, h1, h2⟩
  obtain ⟨h3, h4⟩ := List.getElem?_eq_some_iff.1 h2
  exact ⟨i, List.mem_filter.2 ⟨List.mem_range.2 h3, h1⟩, by rw [mE _ h3, h4]⟩
theorem xW {l : List Int} {t : Option Int} {x : Int} : x ∈ gQ l t ↔ x ∈ l ∨ t = some x := by
 unfold gQ
 cases t with
 | none => simp
 | some y =>
  simp only
  split
  ·rename_i h
   obtain ⟨z, h1, h2⟩ := List.any_eq_true.1 h
   have h2 := beq_iff_eq.1 h2
   subst h2
   exact ⟨.inl, fun h => h.elim id fun e => by cases e; exact h1⟩
  ·rw [List.mem_append, List.mem_singleton, Option.some.injEq]
   exact ⟨fun h => h.imp id Eq.symm, fun h => h.imp id Eq.symm⟩
theorem tG {l : List Int} {t : Option Int} (h : l.Nodup) : (gQ l t).Nodup := by
 unfold gQ
 cases t with
 | none => exact h
 | some y =>
  simp only
  split
  ·exact h
  ·rename_i h2
   rw [List.nodup_append]
   refine ⟨h, by simp, fun a ha b hb e => h2 ?_⟩
   rw [List.mem_singleton] at hb
   exact List.any_eq_true.2 ⟨a, ha, beq_iff_eq.2 (by rw [e, hb])⟩
theorem vL (f : Int → Option Int) : ∀ (ps l : List Int), l.Nodup → (ps.foldl (fun l p => gQ l (f p)) l).Nodup ∧ ∀ x, x ∈ ps.foldl (fun l p => gQ l (f p)) l ↔ x ∈ l ∨ ∃ p ∈ ps, f p = some x
 | [], l, h => ⟨h, fun x => by simp⟩
 | p :: ps, l, h => by
  obtain ⟨h1, h2⟩ := vL f ps (gQ l (f p)) (tG h)
  refine ⟨h1, fun x => ?_⟩
  show x ∈ ps.foldl _ _ ↔ _
  rw [h2 x, xW]
  simp only [List.mem_cons, exists_eq_or_imp, or_assoc]
theorem vS {f : Int → Int → Int} (ts : List Int) (hn : 0 < ts.length) : ∀ (ds : List Int) (j : Nat), (ds.flatMap fun i => ts.map (f i))[j]? = (ds[j / ts.length]?).map fun i => f i (ts.getD (j % ts.length) 0)
 | [], j => by simp
 | d :: ds, j => by
  rw [List.flatMap_cons, List.getElem?_append, List.length_map]
  split
  ·rename_i h
   rw [Nat.div_eq_of_lt h, Nat.mod_eq_of_lt h, List.getElem?_map, List.getElem?_eq_getElem h, mE _ h]; rfl
  ·rename_i h
   rw [vS ts hn ds (j - ts.length)]
   have e : j = (j - ts.length) + ts.length := by omega
   conv => rhs; rw [e]
   rw [Nat.add_div_right _ hn, Nat.add_mod_right]
   rfl
def fV (r : Ru) (s : It) : List Int := (jE r s).flatMap (lH s.ts s.ly)
theorem s8 (ts : List Int) (f : Int → Int → Int) : ∀ ds : List Int, (ds.flatMap fun i => ts.map (f i)).length = ds.length * ts.length
 | [] => by simp
 | d :: ds => by rw [List.flatMap_cons, List.length_append, s8 ts f ds, List.length_map, List.length_cons, Nat.succ_mul]; omega
theorem rB {r : Ru} {s : It} (hn : 0 < s.ts.length) (p : Int) (hz : p ≠ 0) : kO r s p = if (if p < 0 then p + (fV r s).length else p - 1) < 0 then none else (fV r s)[(if p < 0 then p + (fV r s).length else p - 1).toNat]? := by
 have hlen : (fV r s).length = (jE r s).length * s.ts.length := s8 s.ts _ _
 have hget : ∀ j : Nat, (fV r s)[j]? = ((jE r s)[j / s.ts.length]?).map fun i => (Cal.daysTo s.ly + i) * 86400 + s.ts.getD (j % s.ts.length) 0 := vS s.ts hn _
 have hn' : (0 : Int) < s.ts.length := by omega
 have key : ∀ j : Nat, ∀ q : Int, q = ((j : Int) / (s.ts.length : Int)) → ∀ m : Int, m = (j : Int) % (s.ts.length : Int) → (if q < 0 then none else ((jE r s)[q.toNat]?).map fun i => (Cal.daysTo s.ly + i) * 86400 + s.ts.getD m.toNat 0) = (fV r s)[j]? := by
  intro j q hq m hm
  rw [← Int.natCast_ediv] at hq
  rw [← Int.natCast_emod] at hm
  subst hq hm
  rw [if_neg (Int.not_lt.2 (Int.natCast_nonneg _)), hget, Int.toNat_natCast, Int.toNat_natCast]
 unfold kO
 simp only
 by_cases hp : p < 0
 ·simp only [if_pos hp]
  have hneg : p / (s.ts.length : Int) < 0 := Int.ediv_neg_of_neg_of_pos hp hn'
  rw [if_pos hneg]
  have e1 : (p + ((fV r s).length : Int)) / (s.ts.length : Int) = p / s.ts.length + (jE r s).length := by
   rw [hlen, Int.natCast_mul, Int.mul_comm]; exact Int.add_mul_ediv_left p _ oM
  have e2 : (p + ((fV r s).length : Int)) % (s.ts.length : Int) = p % s.ts.length := by
   rw [hlen, Int.natCast_mul, Int.mul_comm]; exact Int.add_mul_emod_self_left _ _ _
  by_cases h0 : p + ((fV r s).length : Int) < 0
  ·rw [if_pos h0, if_pos]
   rw [← e1]; exact Int.ediv_neg_of_neg_of_pos h0 hn'
  ·rw [if_neg h0]
   refine key (p + ((fV r s).length : Int)).toNat _ ?_ _ ?_
   ·rw [Int.toNat_of_nonneg oM, e1]
   ·rw [Int.toNat_of_nonneg oM, e2]
 ·simp only [if_neg hp]
  rw [if_neg (show ¬ p - 1 < 0 by omega)]
  have hneg : ¬ (p - 1) / (s.ts.length : Int) < 0 := by
   have := Int.ediv_nonneg (a := p - 1) (b := s.ts.length) oM oM
   omega
  rw [if_neg hneg]
  exact key (p - 1).toNat _ (by rw [Int.toNat_of_nonneg oM]) _ (by rw [Int.toNat_of_nonneg oM])
theorem aEr {r : Ru} {s : It} (hn : 0 < s.ts.length) (hs : SI (fV r s)) (h0 : 0 < r.setpos.length) (hz : ∀ p ∈ r.setpos, p ≠ 0) : dK (eG r s) = kE (fV r s) r.setpos := by
 obtain ⟨h1, h2⟩ := vL (kO r s) r.setpos [] List.nodup_nil
 unfold kE
 rw [if_neg oM]
 refine SI.ext (qO h1) (aCa hs) fun x => ?_
 rw [mL, aAu]
 refine (h2 x).trans ⟨?_, ?_⟩
 ·rintro (h | ⟨p, hp, h⟩)
  ·simp at h
  ·rw [rB hn p (hz p hp)] at h
   have hz := hz p hp
   by_cases hp0 : p < 0
   ·simp only [if_pos hp0] at h
    by_cases hg : p + ((fV r s).length : Int) < 0
    ·rw [if_pos hg] at h; cases h
    ·rw [if_neg hg] at h
     refine ⟨_, ?_, h⟩
     unfold zY
     rw [Bool.or_eq_true, List.any_eq_true, List.any_eq_true]
     exact .inr ⟨p, hp, beq_iff_eq.2 oM⟩
   ·simp only [if_neg hp0, if_neg (show ¬ p - 1 < 0 by omega)] at h
    refine ⟨_, ?_, h⟩
    unfold zY
    rw [Bool.or_eq_true, List.any_eq_true, List.any_eq_true]
    exact .inl ⟨p, hp, beq_iff_eq.2 oM⟩
 ·rintro ⟨i, hb, hx⟩
  have hl := (List.getElem?_eq_some_iff.1 hx).1
  unfold zY at hb
  rw [Bool.or_eq_true, List.any_eq_true, List.any_eq_true] at hb
  right
  rcases hb with ⟨p, hp, e⟩ | ⟨p, hp, e⟩
  ·have e := beq_iff_eq.1 e
   refine ⟨p, hp, ?_⟩
   rw [rB hn p (hz p hp)]
   simp only [if_neg (show ¬ p < 0 by omega), if_neg (show ¬ p - 1 < 0 by omega)]
   rw [show (p - 1).toNat = i by omega]; exact hx
  ·have e := beq_iff_eq.1 e
   refine ⟨p, hp, ?_⟩
   rw [rB hn p (hz p hp)]
   simp only [if_pos (show p < 0 by omega), if_neg (show ¬ p + ((fV r s).length : Int) < 0 by omega)]
   rw [show (p + ((fV r s).length : Int)).toNat = i by omega]; exact hx
theorem nB (r : Ru) (s : It) (a : Int) : ∀ k, gN r s a k = cS r s ((List.range k).flatMap fun (j : Nat) => if bad r s (a + j) = true then [] else lH s.ts s.ly (a + j))
 | 0 => rfl
 | k + 1 => by
  have h := gE r s a k
  rw [iQ, oS, kV, ← nB r s a k]
  unfold iK
  rw [h.bad, h.ts, h.ly]
  split <;> rfl
theorem lV (r : Ru) (s : It) : fV r s = (List.range ((aW r s).2 - (aW r s).1).toNat).flatMap fun (j : Nat) => if bad r s ((aW r s).1 + j) = true then [] else lH s.ts s.ly ((aW r s).1 + j) := by
 unfold fV jE
 generalize ((aW r s).2 - (aW r s).1).toNat = n
 induction n with
 | zero => rfl
 | succ n ih =>
  rw [oS, List.range_succ, List.map_append, List.filter_append, List.flatMap_append, ih]
  congr 1
  cases h : bad r s ((aW r s).1 + (n : Int)) <;> simp [h]
theorem aDy {ts : List Int} (h : SI ts) (ly i : Int) : SI (lH ts ly i) := by
 unfold lH; exact h.map_add _
theorem aCx {ts : List Int} (h : ∀ t ∈ ts, 0 ≤ t ∧ t < 86400) {ly i x : Int} (hx : x ∈ lH ts ly i) : (Cal.daysTo ly + i) * 86400 ≤ x ∧ x < (Cal.daysTo ly + i) * 86400 + 86400 := by
 unfold lH at hx
 obtain ⟨t, h1, rfl⟩ := List.mem_map.1 hx
 have := h t h1
 omega
theorem aA7 {r : Ru} {s : It} (h : SI s.ts) (hb : ∀ t ∈ s.ts, 0 ≤ t ∧ t < 86400) : SI (fV r s) := by
 rw [lV]
 refine SI.flat (a := (Cal.daysTo s.ly + (aW r s).1) * 86400) (w := 86400) oM (fun i => ?_) (fun i x hx => ?_) _
 ·split
  ·exact List.Pairwise.nil
  ·exact aDy h _ _
 ·split at hx
  ·simp at hx
  ·have := aCx hb hx
   omega
theorem wL {r : Ru} {s : It} (h : SI s.ts) (hb : ∀ t ∈ s.ts, 0 ≤ t ∧ t < 86400) (hz : ∀ p ∈ r.setpos, p ≠ 0) : out r s = cS r s (kE (fV r s) r.setpos) := by
 by_cases h0 : r.setpos.length = 0
 ·rw [mD _ _ (.inl h0), mR, nB, ← lV]
  unfold kE; rw [if_pos h0]
 ·by_cases h1 : s.ts.length = 0
  ·rw [mD _ _ (.inr h1), mR, nB, ← lV]
   have e : fV r s = [] := by
    unfold fV
    rw [List.flatMap_eq_nil_iff]
    intro i _
    unfold lH
    rw [List.eq_nil_of_length_eq_zero h1]; rfl
   rw [e]
   unfold kE; split <;> rfl
  ·unfold out
   rw [if_pos ⟨h0, h1⟩, aEr oM (aA7 h hb) oM hz]
theorem jQ {hs ms ss : List Int} {day fr lg x : Int} : x ∈ iN hs ms ss day fr lg ↔ day * 86400 ≤ x ∧ x < day * 86400 + 86400 ∧ fr ≤ x ∧ x < fr + lg ∧ aF hs ((x - day * 86400) / 3600) = true ∧ aF ms ((x - day * 86400) / 60 % 60) = true ∧ aF ss ((x - day * 86400) % 60) = true := by
 unfold iN aDb
 rw [jN]
 constructor
 ·rintro ⟨h, hh, hx⟩
  split at hx
  ·rename_i h1
   unfold yI at hx
   obtain ⟨m, hm, hx⟩ := jN.1 hx
   split at hx
   ·rename_i h2
    unfold xI at hx
    obtain ⟨s, hs, rfl⟩ := List.mem_map.1 hx
    obtain ⟨h3, h4⟩ := List.mem_filter.1 hs
    have h3 := List.mem_range.1 h3
    rw [Bool.and_eq_true] at h1 h2 h4
    have h5 : wo fr lg (day * 86400 + h * 3600 + m * 60 + s) 1 = false := by simpa using h4.2
    unfold wo at h5
    rw [Bool.or_eq_false_iff, decide_eq_false_iff_not, decide_eq_false_iff_not] at h5
    have e : day * 86400 + (h : Int) * 3600 + m * 60 + s - day * 86400 = h * 3600 + m * 60 + s := by omega
    rw [e, show ((h : Int) * 3600 + m * 60 + s) / 3600 = h by omega, show ((h : Int) * 3600 + m * 60 + s) / 60 % 60 = m by omega, show ((h : Int) * 3600 + m * 60 + s) % 60 = s by omega]
    exact ⟨by omega, by omega, by omega, by omega, h1.1, h2.1, h4.1⟩
   ·simp at hx
  ·simp at hx
 ·rintro ⟨h1, h2, h3, h4, h5, h6, h7⟩
  have e : x = day * 86400 + (((x - day * 86400) / 3600).toNat : Nat) * 3600 + (((x - day * 86400) / 60 % 60).toNat : Nat) * 60 + (((x - day * 86400) % 60).toNat : Nat) := by omega
  have w : ∀ a n : Int, a ≤ x → x < a + n → (!wo fr lg a n) = true := fun a n ha hn => by
   unfold wo
   rw [decide_eq_false oM, decide_eq_false oM]; rfl
  refine ⟨((x - day * 86400) / 3600).toNat, by omega, ?_⟩
  rw [if_pos (by rw [Int.toNat_of_nonneg oM, h5, w _ _ oM oM]; rfl)]
  unfold yI
  refine jN.2 ⟨((x - day * 86400) / 60 % 60).toNat, by omega, ?_⟩
  rw [if_pos (by rw [Int.toNat_of_nonneg oM, Int.toNat_of_nonneg oM, h6, w _ _ oM oM]; rfl)]
  unfold xI
  exact List.mem_map.2 ⟨((x - day * 86400) % 60).toNat, List.mem_filter.2 ⟨List.mem_range.2 oM, by rw [Int.toNat_of_nonneg oM, Int.toNat_of_nonneg oM, Int.toNat_of_nonneg oM, h7, w _ _ oM oM]; rfl⟩, e.symm⟩
theorem nK (hs ms ss : List Int) (day fr lg : Int) : SI (iN hs ms ss day fr lg) := by
 have h1 : ∀ b, SI (xI ss fr lg b 60) ∧ ∀ x ∈ xI ss fr lg b 60, b ≤ x ∧ x < b + 60 := fun b => by
  unfold xI
  refine ⟨?_, fun x hx => ?_⟩
  ·unfold SI
   rw [List.pairwise_map]
   exact (List.pairwise_lt_range.filter _).imp fun {i j} h => by omega
  ·obtain ⟨s, h, rfl⟩ := List.mem_map.1 hx
   have := List.mem_range.1 (List.mem_filter.1 h).1
   omega
 have h2 : ∀ b, SI (yI ms ss fr lg b 60) ∧ ∀ x ∈ yI ms ss fr lg b 60, b ≤ x ∧ x < b + 3600 := fun b => by
  unfold yI
  refine ⟨SI.flat (a := b) (w := 60) oM (fun i => ?_) (fun i x hx => ?_) _, fun x hx => ?_⟩
  ·split
   ·exact (h1 _).1
   ·exact List.Pairwise.nil
  ·split at hx
   ·have := (h1 _).2 x hx; omega
   ·simp at hx
  ·obtain ⟨i, hi, hx⟩ := jN.1 hx
   split at hx
   ·have := (h1 _).2 x hx; omega
   ·simp at hx
 unfold iN aDb
 refine SI.flat (a := day * 86400) (w := 3600) oM (fun i => ?_) (fun i x hx => ?_) _
 ·split
  ·exact (h2 _).1
  ·exact List.Pairwise.nil
 ·split at hx
  ·have := (h2 _).2 x hx; omega
  ·simp at hx
structure PartOk (l : List Int) (n : Int) : Prop where
 some : 0 < l.length
 nd : l.Nodup
 bd : ∀ x ∈ l, 0 ≤ x ∧ x < n
theorem PartOk.among {l : List Int} {n : Int} (h : PartOk l n) (x : Int) : aF l x = true ↔ x ∈ l := by
 unfold aF
 rw [Bool.or_eq_true, beq_iff_eq, List.any_eq_true]
 constructor
 ·rintro (h1 | ⟨y, h1, h2⟩)
  ·have := h.some; omega
  ·rwa [← beq_iff_eq.1 h2]
 ·intro h1; exact .inr ⟨x, h1, beq_self_eq_true x⟩
theorem PartOk.one {x n : Int} (h : 0 ≤ x ∧ x < n) : PartOk [x] n := ⟨by simp, by simp, fun y hy => by rw [List.mem_singleton] at hy; rw [hy]; exact h⟩
theorem mG {hs ms ss : List Int} (h1 : PartOk hs 24) (h2 : PartOk ms 60) (h3 : PartOk ss 60) : SI (kJ hs ms ss) := by
 unfold kJ
 refine qO ?_
 unfold List.Nodup
 rw [List.pairwise_flatMap]
 refine ⟨fun h hh => ?_, h1.nd.imp_of_mem fun {a b} ha hb hab x hx y hy => ?_⟩
 ·rw [List.pairwise_flatMap]
  refine ⟨fun m hm => ?_, h2.nd.imp_of_mem fun {a b} ha hb hab x hx y hy => ?_⟩
  ·rw [List.pairwise_map]
   exact h3.nd.imp fun {a b} h => by omega
  ·obtain ⟨s, hs, rfl⟩ := List.mem_map.1 hx
   obtain ⟨t, ht, rfl⟩ := List.mem_map.1 hy
   have := h3.bd s hs; have := h3.bd t ht
   omega
 ·obtain ⟨m, hm, hx⟩ := List.mem_flatMap.1 hx
  obtain ⟨n, hn, hy⟩ := List.mem_flatMap.1 hy
  obtain ⟨s, hs, rfl⟩ := List.mem_map.1 hx
  obtain ⟨t, ht, rfl⟩ := List.mem_map.1 hy
  have := h3.bd s hs; have := h3.bd t ht; have := h2.bd m hm; have := h2.bd n hn
  omega
theorem l3 {hs ms ss : List Int} (h1 : PartOk hs 24) (h2 : PartOk ms 60) (h3 : PartOk ss 60) {t : Int} : t ∈ kJ hs ms ss ↔ 0 ≤ t ∧ t < 86400 ∧ t / 3600 ∈ hs ∧ t / 60 % 60 ∈ ms ∧ t % 60 ∈ ss := by
 unfold kJ
 rw [mL, List.mem_flatMap]
 constructor
 ·rintro ⟨h, hh, hx⟩
  obtain ⟨m, hm, hx⟩ := List.mem_flatMap.1 hx
  obtain ⟨s, hs, rfl⟩ := List.mem_map.1 hx
  have := h1.bd h hh; have := h2.bd m hm; have := h3.bd s hs
  rw [show (h * 3600 + m * 60 + s) / 3600 = h by omega, show (h * 3600 + m * 60 + s) / 60 % 60 = m by omega, show (h * 3600 + m * 60 + s) % 60 = s by omega]
  exact ⟨by omega, by omega, hh, hm, hs⟩
 ·rintro ⟨a, b, c, d, e⟩
  exact ⟨_, c, List.mem_flatMap.2 ⟨_, d, List.mem_map.2 ⟨_, e, by omega⟩⟩⟩
theorem u6 {hs ms ss T : List Int} {D fr lg : Int} (hT : SI T) (h : ∀ t, t ∈ T ↔ 0 ≤ t ∧ t < 86400 ∧ fr ≤ D * 86400 + t ∧ D * 86400 + t < fr + lg ∧ aF hs (t / 3600) = true ∧ aF ms (t / 60 % 60) = true ∧ aF ss (t % 60) = true) : iN hs ms ss D fr lg = T.map (D * 86400 + ·) := by
 refine SI.ext (nK _ _ _ _ _ _) (hT.map_add _) fun x => ?_
 rw [jQ, List.mem_map]
 constructor
 ·rintro ⟨a, b, c, d, e⟩
  exact ⟨x - D * 86400, (h _).2 ⟨by omega, by omega, by omega, by omega, e⟩, by omega⟩
 ·rintro ⟨t, ht, rfl⟩
  obtain ⟨a, b, c, d, e⟩ := (h t).1 ht
  rw [show D * 86400 + t - D * 86400 = t by omega]
  exact ⟨by omega, by omega, c, d, e⟩
theorem tA {hs ms ss : List Int} (h1 : PartOk hs 24) (h2 : PartOk ms 60) (h3 : PartOk ss 60) (D : Int) : iN hs ms ss D (D * 86400) 86400 = (kJ hs ms ss).map (D * 86400 + ·) :=
 u6 (mG h1 h2 h3) fun t => by
  rw [l3 h1 h2 h3, h1.among, h2.among, h3.among]
  exact ⟨fun ⟨a, b, c⟩ => ⟨a, b, by omega, by omega, c⟩, fun ⟨a, b, _, _, c⟩ => ⟨a, b, c⟩⟩
end Go.Proofs.YtdbbifbmkfmbkaaGreat
namespace Go.Proofs.YtdbbifbmkfmbkaaGreat
open Go.Md Go.Tab Go.Fr
def aEs (rg mm md nm : List Int) (n : Nat) : Bool := (List.range n).all fun i => (List.range 12).any fun j => decide (rg.getD j 0 ≤ (i : Int)) && (decide ((i : Int) < rg.getD (j + 1) 0) && (mm.getD i 0 == (j : Int) + 1 && (md.getD i 0 == (i : Int) - rg.getD j 0 + 1 && nm.getD i 0 == (i : Int) - rg.getD (j + 1) 0)))
theorem aEu : aEs [0, 31, 60, 91, 121, 152, 182, 213, 244, 274, 305, 335, 366] kA kB iH 366 = true := by kernel_rfl
theorem aEe : aEs [0, 31, 59, 90, 120, 151, 181, 212, 243, 273, 304, 334, 365] wG vR qN 365 = true := by kernel_rfl
theorem chkE : ((List.range 7).all fun j => (kA.getD (366 + j) 0 == 1 && (kB.getD (366 + j) 0 == (j : Int) + 1 && iH.getD (366 + j) 0 == (j : Int) - 31)) && (wG.getD (365 + j) 0 == 1 && (vR.getD (365 + j) 0 == (j : Int) + 1 && qN.getD (365 + j) 0 == (j : Int) - 31))) = true := by kernel_rfl
theorem aDd (y : Int) : aEs (rgY y) (mmY y) (mdY y) (k9 y) (365 + Cal.lp y).toNat = true := by
 unfold rgY mmY mdY k9 Cal.lp
 cases Cal.leapB y with
 | true => exact aEu
 | false => exact aEe
theorem aBv {y i : Int} (h0 : 0 ≤ i) (h1 : i < 372 + Cal.lp y) : (mmY y).getD i.toNat 0 = Cal.monthOf (Cal.daysTo y + i) ∧ (mdY y).getD i.toNat 0 = Cal.mdayOf (Cal.daysTo y + i) ∧ (k9 y).getD i.toNat 0 = Cal.mdayOf (Cal.daysTo y + i) - Cal.mdays (Cal.monthOf (Cal.daysTo y + i)) (Cal.yearOf (Cal.daysTo y + i)) - 1 := by
 have hlp := Cal.lp_01 y
 rcases Int.lt_or_le i (365 + Cal.lp y) with h | h
 ·have hc := List.all_eq_true.1 (aDd y) i.toNat (List.mem_range.2 oM)
  obtain ⟨j, hj, hc⟩ := List.any_eq_true.1 hc
  have hj := List.mem_range.1 hj
  rw [Int.toNat_of_nonneg h0, aBl oM, aBl oM] at hc
  simp only [Bool.and_eq_true, decide_eq_true_eq, beq_iff_eq] at hc
  obtain ⟨c1, c2, c3, c4, c5⟩ := hc
  obtain ⟨d1, d2, d3, d4⟩ := Cal.date_unique oM c1 c2
  have hs : Cal.cum y (j + 1) = Cal.cum y j + Cal.mdays ((j : Int) + 1) y := rfl
  rw [c3, c4, c5, d1, d3, d4]
  exact ⟨rfl, rfl, by omega⟩
 ·have hs := Cal.daysTo_succ y
  obtain ⟨j, rfl⟩ : ∃ j : Nat, i = 365 + Cal.lp y + j := ⟨(i - (365 + Cal.lp y)).toNat, by omega⟩
  have c0 : Cal.cum (y + 1) 0 = 0 := rfl
  have c1 : Cal.cum (y + 1) (0 + 1) = 31 := rfl
  obtain ⟨d1, d2, d3, d4⟩ := Cal.date_unique (y := y + 1) (D := j) (j := 0) oM (by rw [c0]; omega) (by rw [c1]; omega)
  have e : Cal.daysTo y + (365 + Cal.lp y + (j : Int)) = Cal.daysTo (y + 1) + j := by omega
  rw [e, d1, d3, d4, c0]
  have hc := List.all_eq_true.1 chkE j (List.mem_range.2 oM)
  simp only [Bool.and_eq_true, beq_iff_eq] at hc
  obtain ⟨⟨a1, a2, a3⟩, b1, b2, b3⟩ := hc
  have hm : Cal.mdays (((0 : Nat) : Int) + 1) (y + 1) = 31 := rfl
  rw [hm]
  unfold mmY mdY k9 Cal.lp at *
  cases hl : Cal.leapB y with
  | true =>
   simp only [hl, if_true] at *
   rw [show (365 + 1 + (j : Int)).toNat = 366 + j by omega, a1, a2, a3]
   exact ⟨rfl, by omega, by omega⟩
  | false =>
   simp only [hl, Bool.false_eq_true, if_false] at *
   rw [show (365 + 0 + (j : Int)).toNat = 365 + j by omega, b1, b2, b3]
   exact ⟨rfl, by omega, by omega⟩
theorem aD9 {n : Nat} {b : Bool} : (n != 0 && !b) = !(n == 0 || b) := by cases n <;> cases b <;> rfl
theorem aC4 {month : List Int} {y i : Int} (h0 : 0 ≤ i) (h1 : i < 372 + Cal.lp y) : sK month y i = !aF month (Cal.monthOf (Cal.daysTo y + i)) := by
 unfold sK aF
 rw [(aBv h0 h1).1, aD9]
theorem aDc {l : List (Int × Int)} {f y i : Int} (hf : 1 < f) : r5 ((l.filter (cF f)).map Prod.fst) y i = !aBi l (Cal.daysTo y + i) := by
 have e : l.filter (cF f) = l := List.filter_eq_self.2 fun x _ => by unfold cF; rw [decide_eq_true hf, Bool.or_true]
 unfold r5 aBi
 rw [e, List.length_map, aD9, List.any_map]
 congr 2
 congr 1
 funext p
 show (p.1 == _) = (p.1 == _)
 congr 1
 unfold ywd; omega
theorem aC6 {l : List Int} {y i : Int} (h0 : 0 ≤ i) (h1 : i < 372 + Cal.lp y) (hz : ∀ x ∈ l, x ≠ 0) : lX (eV l) (eU l) y i = !zL l (Cal.daysTo y + i) := by
 obtain ⟨_, e2, e3⟩ := aBv h0 h1
 have hm := Cal.month_bd (Cal.daysTo y + i)
 have hd := Cal.mdays_bd (Cal.monthOf (Cal.daysTo y + i)) (Cal.yearOf (Cal.daysTo y + i))
 have hu : Cal.mdayOf (Cal.daysTo y + i) ≤ Cal.mdays (Cal.monthOf (Cal.daysTo y + i)) (Cal.yearOf (Cal.daysTo y + i)) := by
  obtain ⟨s1, s2, s3⟩ := Cal.split_spec (Cal.daysTo y + i)
  obtain ⟨j, hj, c1, c2⟩ := Cal.mon_ex s2 s3
  have hs : Cal.cum (Cal.yearOf (Cal.daysTo y + i)) (j + 1) = Cal.cum (Cal.yearOf (Cal.daysTo y + i)) j + Cal.mdays ((j : Int) + 1) (Cal.yearOf (Cal.daysTo y + i)) := rfl
  obtain ⟨_, _, d3, d4⟩ := Cal.date_unique hj c1 c2
  rw [s1] at d3 d4
  rw [d3, d4]; omega
 unfold lX zL
 rw [e2, e3]
 have hp : (eV l).any (· == Cal.mdayOf (Cal.daysTo y + i)) = l.any (· == Cal.mdayOf (Cal.daysTo y + i)) := by
  rw [Bool.eq_iff_iff, List.any_eq_true, List.any_eq_true]
  unfold eV
  constructor
  ·rintro ⟨x, a, b⟩; exact ⟨x, (List.mem_filter.1 a).1, b⟩
  ·rintro ⟨x, a, b⟩; exact ⟨x, List.mem_filter.2 ⟨a, by have := beq_iff_eq.1 b; exact decide_eq_true oM⟩, b⟩
 have hn : (eU l).any (· == Cal.mdayOf (Cal.daysTo y + i) - Cal.mdays (Cal.monthOf (Cal.daysTo y + i)) (Cal.yearOf (Cal.daysTo y + i)) - 1) = l.any (· == Cal.mdayOf (Cal.daysTo y + i) - Cal.mdays (Cal.monthOf (Cal.daysTo y + i)) (Cal.yearOf (Cal.daysTo y + i)) - 1) := by
  rw [Bool.eq_iff_iff, List.any_eq_true, List.any_eq_true]
  unfold eU
  constructor
  ·rintro ⟨x, a, b⟩; exact ⟨x, (List.mem_filter.1 a).1, b⟩
  ·rintro ⟨x, a, b⟩; exact ⟨x, List.mem_filter.2 ⟨a, by have := beq_iff_eq.1 b; exact decide_eq_true oM⟩, b⟩
 have hl : ((eV l).length != 0 || (eU l).length != 0) = (l.length != 0) := by
  cases l with
  | nil => rfl
  | cons x l =>
   have := hz x (List.mem_cons_self ..)
   rcases Int.lt_or_le 0 x with h | h
   ·have : eV (x :: l) = x :: eV l := by unfold eV; exact List.filter_cons_of_pos (decide_eq_true h)
    rw [this]; rfl
   ·have : eU (x :: l) = x :: eU l := by unfold eU; exact List.filter_cons_of_pos (decide_eq_true oM)
    rw [this]; simp
 rw [hp, hn, hl]
 generalize l.any (· == Cal.mdayOf (Cal.daysTo y + i)) = p
 generalize l.any (· == Cal.mdayOf (Cal.daysTo y + i) - Cal.mdays (Cal.monthOf (Cal.daysTo y + i)) (Cal.yearOf (Cal.daysTo y + i)) - 1) = q
 cases l.length <;> cases p <;> cases q <;> rfl
theorem n7 (r : Rul) : (bD r).month = bS (aC r) ∧ (bD r).mday = bH (aC r) ∧ (bD r).wday = bN (aC r) ∧ (bD r).hour = cA (aC r) ∧ (bD r).minute = bA (aC r) ∧ (bD r).second = bG (aC r) := by
 have hn : f9 (aC r) = true ↔ zR r := by
  unfold f9 zR
  simp only [Bool.and_eq_true, beq_iff_eq, and_assoc]
  exact Iff.rfl
 have f1 : (gA r).month = bS (aC r) ∧ (gA r).mday = bH (aC r) ∧ (gA r).wday = bN (aC r) := by
  have e2 : (((aC r).d / 86400 + 1) % 7 + 6) % 7 = r.start / 86400 % 7 := by show ((r.start / 86400 + 1) % 7 + 6) % 7 = _; omega
  unfold gA bS bH bN
  rw [e2]
  by_cases h : zR r
  ·have h2 := hn.2 h
   rw [if_pos h, h2]
   show _ ∧ _ ∧ _
   by_cases h0 : r.freq = 0
   ·have e0 : (aC r).freq = 0 := h0
    rw [if_pos h0]
    simp only [e0]
    refine ⟨?_, ?_, ?_⟩
    ·simp only [true_and]; rfl
    ·simp; rfl
    ·simp; rfl
   ·by_cases h1 : r.freq = 1
    ·have e0 : (aC r).freq = 1 := h1
     rw [if_neg h0, if_pos h1]
     simp only [e0]
     refine ⟨?_, ?_, ?_⟩
     ·simp; rfl
     ·simp; rfl
     ·simp; rfl
    ·by_cases h3 : r.freq = 2
     ·have e0 : (aC r).freq = 2 := h3
      rw [if_neg h0, if_neg h1, if_pos h3]
      simp only [e0]
      refine ⟨?_, ?_, ?_⟩
      ·simp; rfl
      ·simp; rfl
      ·simp
     ·have e0 : ¬ (aC r).freq = 0 := h0
      have e1 : ¬ (aC r).freq = 1 := h1
      have e3 : ¬ (aC r).freq = 2 := h3
      rw [if_neg h0, if_neg h1, if_neg h3]
      simp only [e0, e1, e3]
      refine ⟨?_, ?_, ?_⟩ <;> (simp; rfl)
  ·have h2 : ¬ f9 (aC r) = true := fun h3 => h (hn.1 h3)
   rw [if_neg h, if_neg (fun h => h2 h.1), if_neg (fun h => h2 h.1), if_neg (fun h => h2 h.1)]
   exact ⟨rfl, rfl, rfl⟩
 obtain ⟨g1, g2, g3, g4, g5⟩ := wV r
 have k2 : ∀ q : Rul, (gO q).month = q.month ∧ (gO q).mday = q.mday ∧ (gO q).wday = q.wday ∧ (gO q).start = q.start ∧ (gO q).freq = q.freq ∧ (gO q).minute = q.minute ∧ (gO q).second = q.second ∧ (gO q).hour = if q.hour.length = 0 ∧ q.freq < 4 then [q.start % 86400 / 3600] else q.hour := fun q => by unfold gO; split <;> exact ⟨rfl, rfl, rfl, rfl, rfl, rfl, rfl, rfl⟩
 have k3 : ∀ q : Rul, (gS q).month = q.month ∧ (gS q).mday = q.mday ∧ (gS q).wday = q.wday ∧ (gS q).start = q.start ∧ (gS q).freq = q.freq ∧ (gS q).hour = q.hour ∧ (gS q).second = q.second ∧ (gS q).minute = if q.minute.length = 0 ∧ q.freq < 5 then [q.start % 86400 / 60 % 60] else q.minute := fun q => by unfold gS; split <;> exact ⟨rfl, rfl, rfl, rfl, rfl, rfl, rfl, rfl⟩
 have k4 : ∀ q : Rul, (iM q).month = q.month ∧ (iM q).mday = q.mday ∧ (iM q).wday = q.wday ∧ (iM q).hour = q.hour ∧ (iM q).minute = q.minute ∧ (iM q).second = if q.second.length = 0 ∧ q.freq < 6 then [q.start % 86400 % 60] else q.second := fun q => by unfold iM; split <;> exact ⟨rfl, rfl, rfl, rfl, rfl, rfl⟩
 unfold bD
 obtain ⟨a1, a2, a3, a4, a5, a6⟩ := k4 (gS (gO (gA r)))
 obtain ⟨b1, b2, b3, b4, b5, b6, b7, b8⟩ := k3 (gO (gA r))
 obtain ⟨c1, c2, c3, c4, c5, c6, c7, c8⟩ := k2 (gA r)
 rw [a1, a2, a3, a4, a5, a6, b1, b2, b3, b4, b5, b6, b7, b8, c1, c2, c3, c4, c5, c6, c7, c8, f1.1, f1.2.1, f1.2.2, g1, g2, g3, g4, g5]
 refine ⟨rfl, rfl, rfl, ?_, ?_, ?_⟩
 ·unfold cA
  show _ = if r.hour.length = 0 then (if r.freq < 4 then _ else _) else r.hour
  by_cases h : r.hour.length = 0
  ·by_cases h2 : r.freq < 4
   ·rw [if_pos ⟨h, h2⟩, if_pos h, if_pos h2]; rfl
   ·rw [if_neg (fun h => h2 h.2), if_pos h, if_neg h2]; exact List.eq_nil_of_length_eq_zero h
  ·rw [if_neg (fun h2 => h h2.1), if_neg h]
 ·unfold bA
  show _ = if r.minute.length = 0 then (if r.freq < 5 then _ else _) else r.minute
  by_cases h : r.minute.length = 0
  ·by_cases h2 : r.freq < 5
   ·rw [if_pos ⟨h, h2⟩, if_pos h, if_pos h2]; rfl
   ·rw [if_neg (fun h => h2 h.2), if_pos h, if_neg h2]; exact List.eq_nil_of_length_eq_zero h
  ·rw [if_neg (fun h2 => h h2.1), if_neg h]
 ·unfold bG
  show _ = if r.second.length = 0 then (if r.freq < 6 then _ else _) else r.second
  by_cases h : r.second.length = 0
  ·by_cases h2 : r.freq < 6
   ·rw [if_pos ⟨h, h2⟩, if_pos h, if_pos h2]; rfl
   ·rw [if_neg (fun h => h2 h.2), if_pos h, if_neg h2]; exact List.eq_nil_of_length_eq_zero h
  ·rw [if_neg (fun h2 => h h2.1), if_neg h]
theorem dV {l : List Int} {a b : Int} {m : Bool} (h : gR l a b m = true) : l.Nodup ∧ (∀ x ∈ l, okR a b m x = true) ∧ l.length ≤ 100 := by
 unfold gR at h
 rw [Bool.and_eq_true] at h
 have h1 := List.all_eq_true.1 h.1
 have hg : ∀ i (hi : i < l.length), okR a b m l[i] = true ∧ ∀ x ∈ l.take i, x ≠ l[i] := fun i hi => by
  have := h1 i (List.mem_range.2 hi)
  rw [Bool.and_eq_true, mE _ hi] at this
  refine ⟨this.1, fun x hx e => ?_⟩
  have h3 : (l.take i).any (· == l[i]) = false := by simpa using this.2
  rw [List.any_eq_false] at h3
  exact h3 x hx (beq_iff_eq.2 e)
 refine ⟨?_, fun x hx => ?_, oT h.2⟩
 ·unfold List.Nodup
  rw [List.pairwise_iff_getElem]
  intro i j hi hj hij e
  refine (hg j hj).2 l[i] ?_ e
  rw [List.mem_take_iff_getElem]
  exact ⟨i, by omega, rfl⟩
 ·obtain ⟨i, hi, rfl⟩ := List.mem_iff_getElem.1 hx
  exact (hg i hi).1
theorem oE {l : List Int} {b : Int} (h : gR l 0 b false = true) (h0 : 0 < l.length) : PartOk l (b + 1) := by
 obtain ⟨h1, h2, _⟩ := dV h
 refine ⟨h0, h1, fun x hx => ?_⟩
 have := h2 x hx
 unfold okR at this
 rw [if_neg (by simp), Bool.and_eq_true] at this
 have h3 := oT this.1
 have h4 := oT this.2
 omega
theorem tX {l : List Int} {b : Int} {m : Bool} (h : gR l 1 b m = true) : ∀ x ∈ l, x ≠ 0 := fun x hx e => by
 have := (dV h).2.1 x hx
 unfold okR at this
 split at this
 ·omega
 ·rw [Bool.and_eq_true] at this
  have h3 := oT this.1
  omega
theorem lL {r : Rul} (rp : RightP r) : (r.freq < 4 → PartOk (cA (aC r)) 24) ∧ (r.freq < 5 → PartOk (bA (aC r)) 60) ∧ (r.freq < 6 → PartOk (bG (aC r)) 60) := by
 have hs := rp.t1.start
 refine ⟨fun hf => ?_, fun hf => ?_, fun hf => ?_⟩
 ·unfold cA
  split
  ·rw [if_pos (show (aC r).freq < 4 from hf)]
   exact PartOk.one (by show 0 ≤ r.start % 86400 / 3600 ∧ r.start % 86400 / 3600 < 24; omega)
  ·rename_i h
   exact oE rp.t3.h15 (Nat.pos_of_ne_zero h)
 ·unfold bA
  split
  ·rw [if_pos (show (aC r).freq < 5 from hf)]
   exact PartOk.one (by show 0 ≤ r.start % 86400 / 60 % 60 ∧ r.start % 86400 / 60 % 60 < 60; omega)
  ·rename_i h
   exact oE rp.t3.h16 (Nat.pos_of_ne_zero h)
 ·unfold bG
  split
  ·rw [if_pos (show (aC r).freq < 6 from hf)]
   exact PartOk.one (by show 0 ≤ r.start % 86400 % 60 ∧ r.start % 86400 % 60 < 60; omega)
  ·rename_i h
   exact oE rp.t3.h17 (Nat.pos_of_ne_zero h)
theorem aDv {r : Rul} (rp : RightP r) : ∀ x ∈ bH (aC r), x ≠ 0 := by
 unfold bH
 split
 ·intro x hx
  rw [List.mem_singleton] at hx
  have := Cal.month_bd ((aC r).d / 86400)
  omega
 ·exact tX rp.t3.h11
theorem aEd {r : Rul} {s : It} {wF : Int → List Int} {nF : Int → Int → List Int} {eF : Int → List Int} (rp : RightP r) (hf : 2 ≤ r.freq) (hn : s.nwm = []) {i : Int} (h0 : 0 ≤ i) (h1 : i < 372 + Cal.lp s.ly) : bad (bC (aC r) wF nF eF) s i = !dW (bD r) (Cal.daysTo s.ly + i) := by
 obtain ⟨hy, hw, he⟩ := kQ rp hf
 obtain ⟨e1, e2, e3, _⟩ := n7 r
 unfold bad
 rw [show sC (bC (aC r) wF nF eF).weekno s.wno i = false by unfold sC; rw [show (bC (aC r) wF nF eF).weekno.length = 0 from hw]; rfl,
  show r8 s.nwm i = false by unfold r8; rw [hn]; rfl,
  show sG (bC (aC r) wF nF eF).easter s.eas i = false by unfold sG; rw [show (bC (aC r) wF nF eF).easter.length = 0 from he]; rfl,
  show lF (bC (aC r) wF nF eF).yday s.ly i = false by unfold lF; rw [show (bC (aC r) wF nF eF).yday.length = 0 from hy]; rfl,
  show sK (bC (aC r) wF nF eF).month s.ly i = _ from aC4 h0 h1, show r5 (bC (aC r) wF nF eF).wday s.ly i = _ from aDc (show 1 < (aC r).freq from by show 1 < r.freq; omega), show lX (bC (aC r) wF nF eF).mday (bC (aC r) wF nF eF).nmday s.ly i = _ from aC6 h0 h1 (aDv rp)]
 unfold dW
 rw [e1, e2, e3]
 show (((((((!aF (bS (aC r)) _) || false) || !aBi (bN (aC r)) _) || false) || false) || !zL (bH (aC r)) _) || false) = _
 cases aF (bS (aC r)) (Cal.monthOf (Cal.daysTo s.ly + i)) <;> cases zL (bH (aC r)) (Cal.daysTo s.ly + i) <;> cases aBi (bN (aC r)) (Cal.daysTo s.ly + i) <;> rfl
end Go.Proofs.YtdbbifbmkfmbkaaGreat
namespace Go.Proofs.YtdbbifbmkfmbkaaGreat
open Go.Md Go.Tab Go.Fr
theorem iG {y m d : Int} (hm : 1 ≤ m ∧ m ≤ 12) : Cal.dayNo y m d = Cal.daysTo y + Cal.cum y (m - 1).toNat + d - 1 := by
 unfold Cal.dayNo
 rw [show (m - 1) / 12 = 0 by omega, show (m - 1) % 12 = m - 1 by omega, Int.add_zero]
theorem aBj {y m : Int} (hm : 1 ≤ m) : Cal.cum y m.toNat = Cal.cum y (m - 1).toNat + Cal.mdays m y := by
 obtain ⟨j, rfl⟩ : ∃ j : Nat, m = (j : Int) + 1 := ⟨(m - 1).toNat, by omega⟩
 rw [show ((j : Int) + 1 - 1).toNat = j by omega, show ((j : Int) + 1).toNat = j + 1 by omega]
 rfl
theorem aCn {y m d : Int} (hm : 1 ≤ m ∧ m ≤ 11) : Cal.dayNo y (m + 1) (d - Cal.mdays m y) = Cal.dayNo y m d := by
 rw [iG oM, iG oM, show m + 1 - 1 = m by omega, aBj hm.1]; omega
theorem aBz {y d : Int} : Cal.dayNo (y + 1) 1 (d - Cal.mdays 12 y) = Cal.dayNo y 12 d := by
 rw [iG oM, iG oM]
 have h1 := Cal.cum_12 y
 have h2 : Cal.cum y 12 = Cal.cum y 11 + Cal.mdays 12 y := rfl
 have h3 := Cal.daysTo_succ y
 have h4 : Cal.cum (y + 1) 0 = 0 := rfl
 show Cal.daysTo (y + 1) + Cal.cum (y + 1) 0 + _ - 1 = Cal.daysTo y + Cal.cum y 11 + d - 1
 omega
theorem r6 {y m d : Int} (hy : 1 ≤ y ∧ y ≤ 9999) (hm : 1 ≤ m ∧ m ≤ 12) (hd : 1 ≤ d ∧ d ≤ Cal.mdays m y) : 0 ≤ Cal.dayNo y m d ∧ Cal.dayNo y m d < 3652059 := by
 obtain ⟨e1, e2, e3, _⟩ := nS hm hd
 have hb := mA hm hd
 have h1 := Cal.split_spec (Cal.dayNo y m d)
 rw [e2] at h1
 have h2 := Cal.daysTo_succ y
 have h3 := Cal.daysTo_mono (a := y + 1) (b := 10000) oM
 have h4 : Cal.daysTo 10000 = 3652059 := by decide
 have h5 := Cal.daysTo_mono (a := 1) (b := y) oM
 have h6 : Cal.daysTo 1 = 0 := by decide
 omega
theorem oW {r : Ru} : ∀ (n : Nat) (s : It), 1 ≤ s.d → s.d ≤ n → (1 ≤ s.mo ∧ s.mo ≤ 12) → (1 ≤ s.y ∧ s.y ≤ 9999) → s.fin = false →
  ((dQ r n s).fin = false → Cal.dayNo (dQ r n s).y (dQ r n s).mo (dQ r n s).d = Cal.dayNo s.y s.mo s.d) ∧ ((dQ r n s).fin = true → 3652059 ≤ Cal.dayNo s.y s.mo s.d)
 | 0, s, h1, h2, _, _, _ => by omega
 | n + 1, s, h1, h2, hm, hy, hf => by
  have hmd := Cal.mdays_bd s.mo s.y
  unfold dQ
  by_cases hd : s.d ≤ Cal.mdays s.mo s.y
  ·rw [if_pos hd]
   exact ⟨fun _ => rfl, fun h => by rw [show (reb r s s.y s.mo).fin = s.fin from rfl, hf] at h; cases h⟩
  ·rw [if_neg hd]
   by_cases h13 : s.mo + 1 = 13
   ·have e12 : s.mo = 12 := by omega
    rw [if_pos h13]
    by_cases hb : 9999 < s.y + 1
    ·rw [if_pos hb]
     refine ⟨fun h => (by cases h), fun _ => ?_⟩
     have e9 : s.y = 9999 := by omega
     rw [e12, e9] at hd ⊢
     rw [iG oM]
     have h4 : Cal.daysTo 9999 = 3651694 := by decide
     have h5 : Cal.cum 9999 (12 - 1 : Int).toNat = 334 := by decide
     have h6 : Cal.mdays 12 9999 = 31 := by decide
     omega
    ·rw [if_neg hb]
     have ih := oW (r := r) n { s with d := s.d - Cal.mdays s.mo s.y, mo := 1, y := s.y + 1 } sO sO sO sO hf
     simp only at ih
     have e := aBz (y := s.y) (d := s.d)
     rw [← e12] at e
     rw [e] at ih
     exact ih
   ·rw [if_neg h13]
    have ih := oW (r := r) n { s with d := s.d - Cal.mdays s.mo s.y, mo := s.mo + 1 } sO sO sO hy hf
    simp only at ih
    rw [aCn oM] at ih
    exact ih
theorem y9 {r : Ru} {s : It} (h1 : 1 ≤ s.d) (hm : 1 ≤ s.mo ∧ s.mo ≤ 12) (hy : 1 ≤ s.y ∧ s.y ≤ 9999) (hf : s.fin = false) :
  ((fix r s).fin = false → Cal.dayNo (fix r s).y (fix r s).mo (fix r s).d = Cal.dayNo s.y s.mo s.d) ∧ ((fix r s).fin = true → 3652059 ≤ Cal.dayNo s.y s.mo s.d) := by
 unfold fix
 split
 ·exact ⟨fun _ => rfl, fun h => by rw [hf] at h; cases h⟩
 ·exact oW _ s h1 oM hm hy hf
theorem m0 {r : Ru} : ∀ (n : Nat) (s : It), Rest s (dQ r n s)
 | 0, s => Rest.refl s
 | n + 1, s => by
  unfold dQ
  split
  ·exact ⟨rfl, rfl, rfl, rfl, rfl, rfl, rfl, rfl⟩
  ·split
   ·split
    ·exact ⟨rfl, rfl, rfl, rfl, rfl, rfl, rfl, rfl⟩
    ·have a7 := m0 (r := r) n { s with d := s.d - Cal.mdays s.mo s.y, mo := 1, y := s.y + 1 }
     exact ⟨a7.h, a7.mi, a7.sec, a7.wd, a7.ts, a7.total, a7.count, a7.rem⟩
   ·have a7 := m0 (r := r) n { s with d := s.d - Cal.mdays s.mo s.y, mo := s.mo + 1 }
    exact ⟨a7.h, a7.mi, a7.sec, a7.wd, a7.ts, a7.total, a7.count, a7.rem⟩
theorem u4 {r : Ru} (s : It) : Rest s (fix r s) := by
 unfold fix
 split
 ·exact Rest.refl s
 ·exact m0 _ s
theorem qH {q : Rul} (hf : 2 ≤ q.freq) (hi : 1 ≤ q.interval) (k : Int) (h : fQ q k) : fQ q (k + 1) := by
 rcases h with ⟨h, _⟩ | ⟨h, _⟩ | h
 ·omega
 ·omega
 ·refine .inr (.inr ?_)
  have e2 : 7 * (k + 1) * q.interval = 7 * k * q.interval + 7 * q.interval := by rw [Int.mul_add, Int.add_mul]; omega
  have e1 : (k + 1) * q.interval = k * q.interval + q.interval := by rw [Int.add_mul]; omega
  have e3 : (k * q.interval + q.interval) * UN q.freq = k * q.interval * UN q.freq + q.interval * UN q.freq := Int.add_mul ..
  have e4 : 0 ≤ q.interval * UN q.freq := Int.mul_nonneg oM (by unfold UN; split; omega; split <;> omega)
  unfold dC pAt at *
  rw [if_neg oM, if_neg oM] at h ⊢
  rw [e2, e1, e3]
  split
  ·rename_i h2; rw [if_pos h2] at h; omega
  ·rename_i h2
   rw [if_neg h2] at h
   split
   ·rename_i h3; rw [if_pos h3] at h; omega
   ·rename_i h3; rw [if_neg h3] at h; omega
theorem pK (a : Nat) : ∀ b, List.range (a + b) = List.range a ++ (List.range b).map (a + ·)
 | 0 => by simp
 | b + 1 => by rw [← Nat.add_assoc, List.range_succ, pK a b, List.range_succ, List.map_append, List.append_assoc]; rfl
theorem aAb {r : Ru} {s : It} {q : Rul} {dayF : Int → Bool} {first : Int} {sh m : Nat} (hn : (aW r s).2 - (aW r s).1 = m) (hd : Cal.daysTo s.ly + (aW r s).1 = first + sh) (h0 : 0 ≤ first + sh) (hbad : ∀ j : Nat, j < m → bad r s ((aW r s).1 + j) = !dayF (Cal.daysTo s.ly + ((aW r s).1 + j)))
  (hts : s.ts = kJ q.hour q.minute q.second) (h1 : PartOk q.hour 24) (h2 : PartOk q.minute 60) (h3 : PartOk q.second 60) : ∃ L1, kZ q dayF first (sh + m) = L1 ++ fV r s ∧ (∀ t ∈ L1, t < (first + sh) * 86400) ∧ (sh = 0 → L1 = []) := by
 refine ⟨kZ q dayF first sh, ?_, fun t ht => ?_, fun h => by rw [h]; rfl⟩
 ·unfold kZ
  rw [pK, List.flatMap_append, List.flatMap_map, lV, hn, Int.toNat_natCast]
  congr 1
  unfold List.flatMap
  congr 1
  refine List.map_congr_left fun j hj => ?_
  have hj := List.mem_range.1 hj
  have e : first + ((sh + j : Nat) : Int) = Cal.daysTo s.ly + ((aW r s).1 + j) := by omega
  unfold jD
  rw [hbad j hj, e]
  cases hD : dayF (Cal.daysTo s.ly + ((aW r s).1 + j)) with
  | false => rw [if_neg (fun h => by cases h.2), if_pos (show (!false) = true from rfl)]
  | true =>
   rw [if_pos ⟨by omega, rfl⟩, if_neg dE, tA h1 h2 h3, ← hts]
   rfl
 ·unfold kZ at ht
  obtain ⟨i, hi, ht⟩ := jN.1 ht
  unfold jD at ht
  split at ht
  ·have := jQ.1 ht
   omega
  ·simp at ht
theorem nQ (l : List Int) {at_ : List Int} (h : at_.length = 0) : kE l at_ = l := by unfold kE; rw [if_pos h]
theorem yR {o : Opn} (h : o.freq < 4) : kD o = kJ (cA o) (bA o) (bG o) := by unfold kD; rw [if_pos h]; rfl
def R23 (r : Rul) (k : Int) (s : It) : Prop := s.ts = kD (aC r) ∧ Cal.dayNo s.y s.mo s.d = (if r.freq = 2 ∧ k = 0 then r.start / 86400 else dC (bD r) k) ∧ (r.freq = 2 → s.wd = Cal.dayNo s.y s.mo s.d % 7)
theorem oB {r : Rul} (hf : r.freq = 2) (k : Int) : dC (bD r) k = r.start / 86400 - (r.start / 86400 % 7 - r.wkst + 7) % 7 + 7 * (k * r.interval) := by
 obtain ⟨e1, e2, e3, e4, _⟩ := dH r
 unfold dC
 rw [e1, e2, e3, e4, if_neg oM, if_neg oM, if_pos hf, Int.mul_assoc]
theorem l0 {r : Rul} (hf : r.freq = 3) (k : Int) : dC (bD r) k = r.start / 86400 + k * r.interval := by
 obtain ⟨e1, e2, e3, e4, _⟩ := dH r
 unfold dC
 rw [e1, e2, e3, if_neg oM, if_neg oM, if_neg oM, if_pos hf]
theorem pO {r : Rul} (hf : 2 ≤ r.freq) (k : Int) : fQ (bD r) k ↔ 3652059 ≤ dC (bD r) k := by
 obtain ⟨e1, e2, _⟩ := dH r
 unfold fQ
 rw [e2]
 constructor
 ·rintro (⟨h, _⟩ | ⟨h, _⟩ | h)
  ·omega
  ·omega
  ·exact h
 ·exact fun h => .inr (.inr h)
theorem aA9 {r : Rul} {wF : Int → List Int} {nF : Int → Int → List Int} {eF : Int → List Int} (rp : RightP r) (hf : r.freq = 2 ∨ r.freq = 3) (hw : ∀ y m, nF y m = []) : Fits (bC (aC r) wF nF eF) (bD r) (dW (bD r)) (R23 r) where
 over := fun k _ h => qH (by rw [(dH r).2.1]; omega) (by rw [(dH r).2.2.1]; exact rp.t1.interval.1) k h
 same := fun k s s' h hs => ⟨by rw [hs.ts]; exact h.1, by rw [hs.y, hs.mo, hs.d]; exact h.2.1, by rw [hs.wd, hs.y, hs.mo, hs.d]; exact h.2.2⟩
 pos := fun k s h0 hR hi ho => by
  obtain ⟨hts, hday, hwd⟩ := hR
  obtain ⟨e1, e2, e3, e4, e5, e6, _⟩ := dH r
  obtain ⟨_, _, _, f4, f5, f6⟩ := n7 r
  obtain ⟨p1, p2, p3⟩ := lL rp
  have hst := rp.t1.start
  have hwk := rp.t1.wkst
  have hfr : (bC (aC r) wF nF eF).freq = r.freq := rfl
  have hsp : (bC (aC r) wF nF eF).setpos = r.setpos := rfl
  have hts2 : s.ts = kJ (bD r).hour (bD r).minute (bD r).second := by rw [hts, yR (show r.freq < 4 by omega), f4, f5, f6]
  have P1 : PartOk (bD r).hour 24 := by rw [f4]; exact p1 oM
  have P2 : PartOk (bD r).minute 60 := by rw [f5]; exact p2 oM
  have P3 : PartOk (bD r).second 60 := by rw [f6]; exact p3 oM
  have hSI : SI s.ts := by rw [hts2]; exact mG P1 P2 P3
  have hnw : s.nwm = [] := by rw [hi.nwm]; exact hw _ _
  obtain ⟨d1, d2, d3, _⟩ := nS hi.mo ⟨hi.d.1, hi.day (by rw [hfr]; omega)⟩
  have db := mA hi.mo ⟨hi.d.1, hi.day (by rw [hfr]; omega)⟩
  have ds := Cal.split_spec (Cal.dayNo s.y s.mo s.d)
  have dl := r6 hi.y hi.mo ⟨hi.d.1, hi.day (by rw [hfr]; omega)⟩
  rw [d2] at ds
  have hlp := Cal.lp_01 s.ly
  have hly := hi.ly
  have hlpe : Cal.lp s.ly = Cal.lp s.y := by rw [hly]
  have hdy : Cal.daysTo s.ly = Cal.daysTo s.y := by rw [hly]
  have hout := wL (r := bC (aC r) wF nF eF) hSI hi.ts (tX rp.t3.h9)
  rw [hout, hsp, e6]
  have main : ∀ (first : Int) (sh m : Nat), (jG (bD r) k).toNat = sh + m → first = dC (bD r) k → (aW (bC (aC r) wF nF eF) s).2 - (aW (bC (aC r) wF nF eF) s).1 = m → Cal.dayNo s.y s.mo s.d = first + sh → (aW (bC (aC r) wF nF eF) s).1 = Cal.ydayOf (Cal.dayNo s.y s.mo s.d) → m ≤ 7 → (0 < sh → r.setpos.length = 0 ∧ (first + sh) * 86400 ≤ r.start) →
    ∃ L1 L2, kE (fW (bD r) (dW (bD r)) k) r.setpos = L1 ++ L2 ∧ (∀ t ∈ L1, t < (bC (aC r) wF nF eF).d0) ∧ cS (bC (aC r) wF nF eF) s (kE (fV (bC (aC r) wF nF eF) s) r.setpos) = cS (bC (aC r) wF nF eF) s L2 := by
   intro first sh m h1 h2 h3 h4 h5 h6 h7
   obtain ⟨L1, g1, g2, g3⟩ := aAb (q := bD r) (dayF := dW (bD r)) (first := first) (sh := sh) h3 (by rw [h5, hly]; omega) oM (fun j hj => aEd rp oM hnw oM oM) hts2 P1 P2 P3
   have hp : fW (bD r) (dW (bD r)) k = L1 ++ fV (bC (aC r) wF nF eF) s := by
    unfold fW
    rw [if_neg (by rw [e2]; omega), h1, ← h2]; exact g1
   rw [hp]
   rcases Nat.eq_zero_or_pos sh with hz | hz
   ·exact ⟨[], _, by rw [g3 hz]; rfl, fun t ht => by simp at ht, rfl⟩
   ·obtain ⟨k1, k2⟩ := h7 hz
    rw [nQ _ k1, nQ _ k1]
    exact ⟨L1, _, rfl, fun t ht => by have := g2 t ht; show t < r.start; omega, rfl⟩
  have hyw : ywd s.ly = Cal.daysTo s.ly % 7 := rfl
  rcases hf with hf | hf
  ·have hpm : jG (bD r) k = 7 := by unfold jG; rw [e2, if_neg oM, if_neg oM, if_pos hf]
   have hsn : aW (bC (aC r) wF nF eF) s = (Cal.ydayOf (Cal.dayNo s.y s.mo s.d), Cal.ydayOf (Cal.dayNo s.y s.mo s.d) + 1 + (r.wkst - ywd s.ly - Cal.ydayOf (Cal.dayNo s.y s.mo s.d) - 1) % 7) := by
    unfold aW
    rw [hfr, if_neg oM, if_neg oM]
    simp only
    rw [if_pos hf]; rfl
   have hF := oB hf k
   have hD : Cal.dayNo s.y s.mo s.d = if k = 0 then r.start / 86400 else dC (bD r) k := by
    rw [hday]
    by_cases hk : k = 0
    ·rw [if_pos ⟨hf, hk⟩, if_pos hk]
    ·rw [if_neg (fun h => hk h.2), if_neg hk]
   refine main (dC (bD r) k) ((Cal.dayNo s.y s.mo s.d - r.wkst) % 7).toNat (7 - (Cal.dayNo s.y s.mo s.d - r.wkst) % 7).toNat oM rfl (by rw [hsn]; simp only; omega) ?_ (by rw [hsn]) oM (fun hpos => ?_)
   ·by_cases hk : k = 0
    ·rw [if_pos hk] at hD
     rw [hF, hk]; omega
    ·rw [if_neg hk] at hD
     rw [hD, hF]; omega
   ·by_cases hk : k = 0
    ·rw [if_pos hk] at hD
     refine ⟨?_, by rw [hF, hk]; omega⟩
     rcases Nat.eq_zero_or_pos r.setpos.length with h | h
     ·exact h
     ·have := rp.t7 hf h; omega
    ·rw [if_neg hk] at hD
     rw [hD, hF] at hpos; omega
  ·have hpm : jG (bD r) k = 1 := by unfold jG; rw [e2, if_neg oM, if_neg oM, if_neg oM]
   have hsn : aW (bC (aC r) wF nF eF) s = (Cal.ydayOf (Cal.dayNo s.y s.mo s.d), Cal.ydayOf (Cal.dayNo s.y s.mo s.d) + 1) := by
    unfold aW
    rw [hfr, if_neg oM, if_neg oM]
    simp only
    rw [if_neg oM]
   rw [if_neg oM] at hday
   exact main (dC (bD r) k) 0 1 oM rfl (by rw [hsn]; simp only; omega) oM (by rw [hsn]) oM (fun h => by omega)
 adv := fun k s h0 hR hi ho hfin => by
  obtain ⟨hts, hday, hwd⟩ := hR
  have hiv := rp.t1.interval
  have hwk := rp.t1.wkst
  have hd := hi.d
  have ek : (k + 1) * r.interval = k * r.interval + r.interval := by rw [Int.add_mul]; omega
  refine ⟨k + 1, by omega, fun j h1 h2 => by omega, ?_⟩
  have main : ∀ s2 : It, adv (bC (aC r) wF nF eF) (cD (bC (aC r) wF nF eF) s) s = fix (bC (aC r) wF nF eF) s2 → s2.ts = s.ts → s2.y = s.y → s2.mo = s.mo → s2.ly = s.ly → Msk (bC (aC r) wF nF eF) s2 → s2.fin = s.fin → 1 ≤ s2.d → Cal.dayNo s.y s.mo s.d + (s2.d - s.d) = dC (bD r) (k + 1) → (r.freq = 2 → s2.wd = dC (bD r) (k + 1) % 7) →
    ((adv (bC (aC r) wF nF eF) (cD (bC (aC r) wF nF eF) s) s).fin = false → R23 r (k + 1) (adv (bC (aC r) wF nF eF) (cD (bC (aC r) wF nF eF) s) s) ∧ ¬fQ (bD r) (k + 1)) ∧ ((adv (bC (aC r) wF nF eF) (cD (bC (aC r) wF nF eF) s) s).fin = true → fQ (bD r) (k + 1)) := by
   intro s2 ea b1 b2 b3 b4 b5 b6 b7 b8 b9
   rw [ea]
   have hmo := hi.mo
   have hy := hi.y
   obtain ⟨c1, c2⟩ := y9 (r := bC (aC r) wF nF eF) (s := s2) b7 oM oM (by rw [b6]; exact hfin)
   have hrest := u4 (r := bC (aC r) wF nF eF) s2
   have hdn : Cal.dayNo s2.y s2.mo s2.d = dC (bD r) (k + 1) := by
    rw [b2, b3, ← b8, iG hmo, iG hmo]; omega
   rw [hdn] at c1 c2
   refine ⟨fun h => ?_, fun h => (pO oM _).2 (c2 h)⟩
   have c3 := c1 h
   obtain ⟨g1, g2, g3, _⟩ := tL (r := bC (aC r) wF nF eF) (s := s2) b7 oM oM (by rw [b4, b2]; exact hi.ly) b5 h
   have gl := r6 g3 g2 g1
   rw [c3] at gl
   refine ⟨⟨by rw [hrest.ts, b1]; exact hts, by rw [c3, if_neg oM], fun h2 => by rw [hrest.wd, c3]; exact b9 h2⟩, fun hov => ?_⟩
   have := (pO (r := r) oM _).1 hov
   omega
  unfold adv at main ⊢
  have hfr : (bC (aC r) wF nF eF).freq = r.freq := rfl
  have hwr : (bC (aC r) wF nF eF).wkst = r.wkst := rfl
  have hir : (bC (aC r) wF nF eF).interval = r.interval := rfl
  rcases hf with hf | hf
  ·have hf0 : ¬ (bC (aC r) wF nF eF).freq = 0 := by omega
   have hf1 : ¬ (bC (aC r) wF nF eF).freq = 1 := by omega
   have hf2 : (bC (aC r) wF nF eF).freq = 2 := by omega
   have hF := oB hf (k + 1)
   have hF0 := oB hf k
   have hwd := hwd hf
   have hb : Cal.dayNo s.y s.mo s.d + (-((Cal.dayNo s.y s.mo s.d - r.wkst) % 7) + r.interval * 7) = dC (bD r) (k + 1) := by
    rw [hF, hday]
    by_cases hk : k = 0
    ·rw [if_pos ⟨hf, hk⟩, hk]; omega
    ·rw [if_neg (fun h => hk h.2), hF0, ek]; omega
   rw [if_neg hf0, if_neg hf1, if_pos hf2] at main ⊢
   refine main _ rfl rfl rfl rfl rfl ⟨hi.wno, hi.nwm, hi.eas⟩ rfl ?_ ?_ (fun _ => ?_)
   ·simp only; split <;> omega
   ·simp only
    rw [← hb]
    split <;> omega
   ·show r.wkst = _
    omega
  ·have hf0 : ¬ (bC (aC r) wF nF eF).freq = 0 := by omega
   have hf1 : ¬ (bC (aC r) wF nF eF).freq = 1 := by omega
   have hf2 : ¬ (bC (aC r) wF nF eF).freq = 2 := by omega
   have hf3 : (bC (aC r) wF nF eF).freq = 3 := by omega
   rw [if_neg hf0, if_neg hf1, if_neg hf2, if_pos hf3] at main ⊢
   refine main _ rfl rfl rfl rfl rfl ⟨hi.wno, hi.nwm, hi.eas⟩ rfl ?_ ?_ (fun h => by omega)
   ·simp only; omega
   ·simp only
    rw [hday, if_neg oM, l0 hf, l0 hf, ek]; omega
theorem tZ {b : Int} : ∀ {l : List Int} {a : Int}, SI l → (∀ x ∈ l, a ≤ x ∧ x < b) → a ≤ b → (l.length : Int) ≤ b - a
 | [], a, _, _, h => by simp only [List.length_nil]; omega
 | x :: l, a, h, hb, hab => by
  obtain ⟨h1, h2⟩ := List.pairwise_cons.1 h
  have hx := hb x (List.mem_cons_self ..)
  have := tZ (a := x + 1) (b := b) h2 (fun y hy => ⟨by have := h1 y hy; omega, (hb y (List.mem_cons_of_mem _ hy)).2⟩) oM
  simp only [List.length_cons]; omega
theorem aAe {q : Rul} {dayF : Int → Bool} {en most : Int} {k : Int} {o l : List Int} (h : DatesP q dayF en most k o l) : (o.length : Int) ≤ most → (l.length : Int) ≤ most := by
 induction h with
 | over _ => exact id
 | stop h hs => intro hm; unfold kI; exact kP _ _ _ _ _ _ hm
 | more h hs hn ih => intro hm; exact ih (by unfold kI; exact kP _ _ _ _ _ _ hm)
theorem yL {r : Rul} {ts : List Int} {wF : Int → List Int} {nF : Int → Int → List Int} {eF : Int → List Int} (rp : RightP r) (ht : (ts).length ≤ 100000 ∧ ∀ t ∈ ts, 0 ≤ t ∧ t < 86400) (hmeet : 4 ≤ r.freq → ∀ b, ∃ K, gI (bC (aC r) wF nF eF) b (it1 (aC r) (bC (aC r) wF nF eF) ts) = some K ∧ (K : Int) ≤ cT r.freq) : ItOk (bC (aC r) wF nF eF) (it1 (aC r) (bC (aC r) wF nF eF) ts) := by
 have hst := rp.t1.start
 have hd9 : Cal.daysTo 9000 = 3286817 := by decide
 have hs : 0 ≤ r.start / 86400 ∧ r.start / 86400 < 3286817 := by omega
 obtain ⟨s1, s2, s3⟩ := Cal.split_spec (r.start / 86400)
 obtain ⟨j, hj, c1, c2⟩ := Cal.mon_ex s2 s3
 obtain ⟨_, _, m1, m2⟩ := Cal.date_unique hj c1 c2
 have hc : Cal.cum (Cal.yearOf (r.start / 86400)) (j + 1) = Cal.cum (Cal.yearOf (r.start / 86400)) j + Cal.mdays ((j : Int) + 1) (Cal.yearOf (r.start / 86400)) := rfl
 rw [s1] at m1 m2
 have hy : 1 ≤ Cal.yearOf (r.start / 86400) ∧ Cal.yearOf (r.start / 86400) ≤ 9999 := by
  constructor
  ·rcases Int.lt_or_le (Cal.yearOf (r.start / 86400)) 1 with h | h
   ·have := Cal.daysTo_succ (Cal.yearOf (r.start / 86400))
    have := Cal.daysTo_mono (a := Cal.yearOf (r.start / 86400) + 1) (b := 1) oM
    have h1 : Cal.daysTo 1 = 0 := by decide
    omega
   ·exact h
  ·rcases Int.lt_or_le 9999 (Cal.yearOf (r.start / 86400)) with h | h
   ·have := Cal.daysTo_mono (a := 10000) (b := Cal.yearOf (r.start / 86400)) oM
    have h1 : Cal.daysTo 10000 = 3652059 := by decide
    omega
   ·exact h
 have hmb := Cal.month_bd (r.start / 86400)
 exact {
  y := hy
  ly := rfl
  mo := ⟨hmb.1, hmb.2.1⟩
  d := ⟨hmb.2.2.1, hmb.2.2.2⟩
  day := fun _ => by show Cal.mdayOf (r.start / 86400) ≤ Cal.mdays (Cal.monthOf (r.start / 86400)) (Cal.yearOf (r.start / 86400)); rw [m1, m2]; omega
  wd := by show 0 ≤ ((r.start / 86400 + 1) % 7 + 6) % 7 ∧ ((r.start / 86400 + 1) % 7 + 6) % 7 ≤ 6; omega
  hr := by show 0 ≤ r.start % 86400 / 3600 ∧ r.start % 86400 / 3600 ≤ 23; omega
  mn := by show 0 ≤ r.start % 86400 / 60 % 60 ∧ r.start % 86400 / 60 % 60 ≤ 59; omega
  sec := by show 0 ≤ r.start % 86400 % 60 ∧ r.start % 86400 % 60 ≤ 59; omega
  ts := ht.2
  tsn := ht.1
  total := ⟨Int.le_refl _, by show (0 : Int) ≤ 1000000000000 + ((0 : Nat) : Int); omega⟩
  count := by have := rp.t1.count; show 0 ≤ r.count ∧ r.count ≤ _; omega
  wno := rfl
  nwm := rfl
  eas := rfl
  lm := fun _ => rfl
  meet := hmeet }
theorem y4 {r : Rul} (rp : RightP r) (hf : r.freq < 4) : (kD (aC r)).length ≤ 100000 ∧ ∀ t ∈ kD (aC r), 0 ≤ t ∧ t < 86400 := by
 obtain ⟨p1, p2, p3⟩ := lL rp
 rw [yR (show (aC r).freq < 4 from hf)]
 have hb : ∀ t ∈ kJ (cA (aC r)) (bA (aC r)) (bG (aC r)), 0 ≤ t ∧ t < 86400 := fun t ht => by
  have := (l3 (p1 hf) (p2 oM) (p3 oM)).1 ht
  exact ⟨this.1, this.2.1⟩
 have := tZ (mG (p1 hf) (p2 oM) (p3 oM)) hb oM
 exact ⟨by omega, hb⟩
theorem aCz {r : Rul} (rp : RightP r) (wF : Int → List Int) (nF : Int → Int → List Int) (eF : Int → List Int) : (bC (aC r) wF nF eF).u0 = pA r := by
 show until0 (aC r) = _
 unfold until0 pA
 obtain ⟨h1, h2⟩ := rp.t2
 by_cases hu : r.hasUntil = true
 ·have e : (aC r).u = r.untl := by unfold aC; simp only; rw [if_pos hu]
  have := (h2 hu).2.1
  rw [if_pos hu, if_neg (by rw [e]; omega), e]
 ·have e : (aC r).u = 0 := by unfold aC; simp only; rw [if_neg hu]
  rw [if_neg hu, if_pos e]; rfl
theorem oX {r : Rul} {ts : List Int} {wF : Int → List Int} {nF : Int → Int → List Int} {eF : Int → List Int} {dayF : Int → Bool} {R : Int → It → Prop} (rp : RightP r) (fits : Fits (bC (aC r) wF nF eF) (bD r) dayF R) (hpres : sH (bC (aC r) wF nF eF))
  (hi : ItOk (bC (aC r) wF nF eF) (it1 (aC r) (bC (aC r) wF nF eF) ts)) (hR : R 0 (it1 (aC r) (bC (aC r) wF nF eF) ts)) (ho : ¬fQ (bD r) 0) {most : Nat} (hm : most ≤ 1000000) {l : List Int} (h : tN r dayF most l) : ∃ N, Tells (bC (aC r) wF nF eF) N (it1 (aC r) (bC (aC r) wF nF eF) ts) most l := by
 obtain ⟨e1, e2, e3, e4, e5, e6, _⟩ := dH r
 unfold tN at h
 rcases Nat.eq_zero_or_pos most with h0 | h0
 ·subst h0
  have := aAe h (by simp)
  have hl : l = [] := List.eq_nil_of_length_eq_zero oM
  subst hl
  exact ⟨0, .zero⟩
 ·have hcnt := rp.t1.count
  obtain ⟨N, l', h1, h2⟩ := wH fits hpres (by rw [e5]; exact hcnt.1) (by rw [e1]; rfl) (aCz rp wF nF eF) oM h (Int.le_refl _) 0 _ (Int.le_refl _) (fun j h1 h2 => by omega) hR ho hi rfl rfl rfl (by simp only [List.length_nil]; omega) ⟨fun h => by rw [e5] at h; exact h, fun h => by rw [e5] at h ⊢; exact ⟨by show r.count = r.count - ((0 : Nat) : Int); omega, by simp only [List.length_nil]; omega⟩⟩
  rw [List.nil_append] at h1
  subst h1
  rw [show ((most : Int) - (([] : List Int).length : Int)).toNat = most by simp] at h2
  exact ⟨N, h2⟩
end Go.Proofs.YtdbbifbmkfmbkaaGreat
namespace Go.Proofs.YtdbbifbmkfmbkaaGreat
open Go.RowKit Go.Fr Go.Tab
section
variable {F : Nat → Prop} {w0 : World} {B : LN} {H : LV} {S : LS}
open Go.Md Go.ChangeShapes Go.WideShapes Go.Deep
theorem wf64 {n : Int} (h : (Lit.int .i64 n).wf = true) : -9223372036854775808 ≤ n ∧ n ≤ 9223372036854775807 := by
 simp only [Lit.wf, Bool.and_eq_true, decide_eq_true_eq] at h
 have h1 : IntKind.i64.min = -9223372036854775808 := by decide
 have h2 : IntKind.i64.max = 9223372036854775807 := by decide
 omega
theorem wf8 {n : Int} (h : (Lit.int .u8 n).wf = true) : 0 ≤ n ∧ n ≤ 255 := by
 simp only [Lit.wf, Bool.and_eq_true, decide_eq_true_eq] at h
 have h1 : IntKind.u8.min = 0 := by decide
 have h2 : IntKind.u8.max = 255 := by decide
 omega
structure RIn (W : World) (r : Rul) (x : Av) : Prop where
 freq : 0 ≤ r.freq ∧ r.freq ≤ 255
 start : -9223372036854775808 ≤ r.start ∧ r.start ≤ 9223372036854775807
 interval : -9223372036854775808 ≤ r.interval ∧ r.interval ≤ 9223372036854775807
 wkst : -9223372036854775808 ≤ r.wkst ∧ r.wkst ≤ 9223372036854775807
 count : -9223372036854775808 ≤ r.count ∧ r.count ≤ 9223372036854775807
 untl : -9223372036854775808 ≤ r.untl ∧ r.untl ≤ 9223372036854775807
 inl : InL W r x
 big : r.setpos.length ≤ x.c9 ∧ r.setpos.length ≤ maxLen ∧ r.month.length ≤ x.c10 ∧ r.month.length ≤ maxLen ∧ r.mday.length ≤ x.c11 ∧ r.mday.length ≤ maxLen ∧ r.yday.length ≤ x.c12 ∧ r.yday.length ≤ maxLen ∧ r.weekno.length ≤ x.c13 ∧ r.weekno.length ≤ maxLen ∧ r.wday.length ≤ x.c14 ∧ r.wday.length ≤ maxLen ∧ r.hour.length ≤ x.c15 ∧ r.hour.length ≤ maxLen ∧ r.minute.length ≤ x.c16 ∧ r.minute.length ≤ maxLen ∧ r.second.length ≤ x.c17 ∧ r.second.length ≤ maxLen ∧ r.easter.length ≤ x.c18 ∧ r.easter.length ≤ maxLen
theorem CapL.of {r : Rul} {x : Av} {W : World} (h : RIn W r x) : CapL r x := by
 obtain ⟨a1, _, a2, _, a3, _, a4, _, a5, _, a6, _, a7, _, a8, _, a9, _, a10, _⟩ := h.big
 exact ⟨a1, a2, a3, a4, a5, a6, a7, a8, a9, a10⟩
open Go.Md
theorem rY {r : Ru} (hr : RuOk r) (hf : r.freq = 3) (hw : r.weekno.length = 0) (hd : r.nwd.length = 0) (he : r.easter.length = 0) : aDt r := by
 intro F w0 B H S S0 H0 l it rb s a Q flt st s0 hk hsm hfin hn hq
 have h1 := hk.y
 have h2 := hk.mo
 have h3 := hk.d
 have h4 := hk.wd
 have h5 := hk.ly
 have h6 := hsm.y
 have h7 := hsm.mo
 have h8 := hsm.d
 have h9 := hsm.wd
 have h10 := hsm.ly
 have m1 : s.wno = r.wnoF s.ly := by rw [hsm.wno, hsm.ly]; exact hk.wno
 have m2 : s.nwm = r.nwmF s.ly s.lm := by rw [hsm.nwm, hsm.ly, hsm.lm]; exact hk.nwm
 have m3 : s.eas = r.easF s.ly := by rw [hsm.eas, hsm.ly]; exact hk.eas
 exact zP st hr hw hd he m1 m2 m3 oM oM oM oM oM hfin hf hn hq
theorem zQ {r : Ru} (hr : RuOk r) (hf : r.freq = 0 ∨ r.freq = 2 ∨ r.freq = 3) (hw : r.weekno.length = 0) (hd : r.nwd.length = 0) (he : r.easter.length = 0) : aDt r := by
 intro F w0 B H S S0 H0 l it rb s a Q flt st s0 hk hsm hfin hn hq
 have h1 := hk.y
 have h2 := hk.mo
 have h3 := hk.d
 have h4 := hk.wd
 have h5 := hk.ly
 have h6 := hsm.y
 have h7 := hsm.mo
 have h8 := hsm.d
 have h9 := hsm.wd
 have h10 := hsm.ly
 have m1 : s.wno = r.wnoF s.ly := by rw [hsm.wno, hsm.ly]; exact hk.wno
 have m2 : s.nwm = r.nwmF s.ly s.lm := by rw [hsm.nwm, hsm.ly, hsm.lm]; exact hk.nwm
 have m3 : s.eas = r.easF s.ly := by rw [hsm.eas, hsm.ly]; exact hk.eas
 rcases hf with hf | hf | hf
 ·exact yM st hr hw hd he m1 m2 m3 oM oM oM oM oM hfin hf hn hq
 ·exact w6 st hr hw hd he m1 m2 m3 oM oM oM oM oM hfin hf hn hq
 ·exact rY hr hf hw hd he F w0 B H S S0 H0 l it rb s a Q flt st s0 hk hsm hfin hn hq
end
end Go.Proofs.YtdbbifbmkfmbkaaGreat
namespace Go.Proofs.YtdbbifbmkfmbkaaGreat
open Go.Md Go.Tab Go.Fr
abbrev wO : Int → List Int := fun _ => []
abbrev nO : Int → Int → List Int := fun _ _ => []
theorem lS {r : Rul} (rp : RightP r) : r.wday.length ≤ 100 := by
 rcases Nat.lt_or_ge 100 r.wday.length with h | h
 ·have := (rp.t6 100 _ (List.getElem?_eq_getElem h)).2.2.2.2
  omega
 ·exact h
theorem jC {r : Rul} {l : List Int} {b : Int} {m : Bool} {a : Int} (h : gR l a b m = true) (ha : 0 ≤ a) : ∀ y ∈ l, (a ≤ y ∧ y ≤ b) ∨ (m = true ∧ -b ≤ y ∧ y ≤ -a) := fun y hy => by
 have := (dV h).2.1 y hy
 unfold okR at this
 split at this
 ·rename_i hm
  rw [Bool.and_eq_true, Bool.and_eq_true] at this
  have h1 := oT this.1
  have h2 := oT this.2.1
  exact .inr ⟨hm.1, h1, by omega⟩
 ·rw [Bool.and_eq_true] at this
  exact .inl ⟨oT this.1, oT this.2⟩
theorem iJ {r : Rul} (rp : RightP r) : OpOk (aC r) where
 freq := rp.t1.freq
 d := by
  have := rp.t1.start
  have h9 : Cal.daysTo 9000 = 3286817 := by decide
  show 1 ≤ r.start ∧ r.start ≤ _; omega
 interval := rp.t1.interval
 count := by have := rp.t1.count; show 0 ≤ r.count ∧ r.count ≤ _; omega
 u := by
  obtain ⟨h1, h2⟩ := rp.t2
  have h9 : Cal.daysTo 10000 = 3652059 := by decide
  show 0 ≤ (if r.hasUntil = true then r.untl else 0) ∧ (if r.hasUntil = true then r.untl else 0) ≤ _
  split
  ·rename_i h
   have := (h2 h).2; omega
  ·omega
 mday := by have := (dV rp.t3.h11).2.2; show r.mday.length ≤ _; omega
 wday := by have := lS rp; show r.wday.length ≤ _; omega
 hour := by have := (dV rp.t3.h15).2.2; show r.hour.length ≤ _; omega
 minute := by have := (dV rp.t3.h16).2.2; show r.minute.length ≤ _; omega
 second := by have := (dV rp.t3.h17).2.2; show r.second.length ≤ _; omega
 hours := fun x h => by rcases jC (r := r) rp.t3.h15 oM x h with h | ⟨h, _⟩; exact h; cases h
 minutes := fun x h => by rcases jC (r := r) rp.t3.h16 oM x h with h | ⟨h, _⟩; exact h; cases h
 seconds := fun x h => by rcases jC (r := r) rp.t3.h17 oM x h with h | ⟨h, _⟩; exact h; cases h
theorem qI {r : Rul} (rp : RightP r) : VbOk (aC r) where
 nums := fun i hi y hy => by
  have e : i = 0 ∨ i = 1 ∨ i = 2 ∨ i = 3 ∨ i = 4 ∨ i = 5 ∨ i = 6 ∨ i = 7 := by omega
  unfold inB
  rcases e with rfl | rfl | rfl | rfl | rfl | rfl | rfl | rfl
  ·exact jC (r := r) rp.t3.h17 oM y hy
  ·exact jC (r := r) rp.t3.h16 oM y hy
  ·exact jC (r := r) rp.t3.h15 oM y hy
  ·exact jC (r := r) rp.t3.h11 oM y hy
  ·exact jC (r := r) rp.t3.h12 oM y hy
  ·rcases jC (r := r) rp.t3.h13 oM y hy with h | ⟨h1, h⟩
   ·left; show 1 ≤ y ∧ y ≤ 53; omega
   ·right; exact ⟨h1, by show -53 ≤ y ∧ y ≤ -1; omega⟩
  ·exact jC (r := r) rp.t3.h10 oM y hy
  ·exact jC (r := r) rp.t3.h9 oM y hy
 days := fun y hy => by
  obtain ⟨i, hi, rfl⟩ := List.mem_iff_getElem.1 hy
  have := (rp.t6 i _ (List.getElem?_eq_getElem hi)).2.2.1
  have h5 : pG r ≤ 53 := by
   unfold pG lO
   split
   ·omega
   ·split
    ·omega
    ·split <;> omega
  exact ⟨Int.le_trans oM this.1, Int.le_trans this.2 h5⟩
 interval := by have := rp.t1.interval; show 0 ≤ r.interval; omega
 lens := fun i hi => by
  have e : i = 0 ∨ i = 1 ∨ i = 2 ∨ i = 3 ∨ i = 4 ∨ i = 5 ∨ i = 6 ∨ i = 7 := by omega
  have := (dV rp.t3.h9).2.2
  have := (dV rp.t3.h10).2.2
  have := (dV rp.t3.h11).2.2
  have := (dV rp.t3.h12).2.2
  have := (dV rp.t3.h13).2.2
  have := (dV rp.t3.h15).2.2
  have := (dV rp.t3.h16).2.2
  have := (dV rp.t3.h17).2.2
  rcases e with rfl | rfl | rfl | rfl | rfl | rfl | rfl | rfl
  ·show r.second.length ≤ _; omega
  ·show r.minute.length ≤ _; omega
  ·show r.hour.length ≤ _; omega
  ·show r.mday.length ≤ _; omega
  ·show r.yday.length ≤ _; omega
  ·show r.weekno.length ≤ _; omega
  ·show r.month.length ≤ _; omega
  ·show r.setpos.length ≤ _; omega
 wlen := by have := lS rp; show r.wday.length ≤ _; omega
theorem qM {r : Rul} (rp : RightP r) : RulOk r := ⟨by have := rp.t1.freq; omega, rp.t1.hs, by have := lS rp; omega⟩
theorem xN {r : Rul} (rp : RightP r) : r.easter.length ≤ 281 := by
 have h1 : (dK r.easter).length = r.easter.length := by unfold dK; exact List.length_mergeSort _
 have hnd : r.easter.Nodup := by
  unfold List.Nodup
  rw [List.pairwise_iff_getElem]
  intro i j hi hj hij e
  have := (rp.t4 j _ (List.getElem?_eq_getElem hj)).2.2.2
  rw [List.any_eq_false] at this
  refine this r.easter[i] ?_ (beq_iff_eq.2 e)
  rw [List.mem_take_iff_getElem]
  exact ⟨i, by omega, rfl⟩
 have h2 := tZ (a := -80) (b := 201) (qO hnd) (fun x hx => by
  obtain ⟨i, hi, rfl⟩ := List.mem_iff_getElem.1 (mL.1 hx)
  have := rp.t4 i _ (List.getElem?_eq_getElem hi)
  have h3 := this.1
  have h4 := this.2.1
  omega) oM
 omega
theorem o5 {r : Rul} (rp : RightP r) : (bS (aC r)).length ≤ 100 ∧ (bH (aC r)).length ≤ 100 ∧ (bN (aC r)).length ≤ 100 ∧ (cA (aC r)).length ≤ 100 ∧ (bA (aC r)).length ≤ 100 ∧ (bG (aC r)).length ≤ 100 := by
 refine ⟨?_, ?_, ?_, ?_, ?_, ?_⟩
 ·unfold bS; split
  ·simp
  ·exact (dV rp.t3.h10).2.2
 ·unfold bH; split
  ·simp
  ·exact (dV rp.t3.h11).2.2
 ·unfold bN; split
  ·simp
  ·exact lS rp
 ·unfold cA; split
  ·split <;> simp
  ·exact (dV rp.t3.h15).2.2
 ·unfold bA; split
  ·split <;> simp
  ·exact (dV rp.t3.h16).2.2
 ·unfold bG; split
  ·split <;> simp
  ·exact (dV rp.t3.h17).2.2
theorem oJ {r : Rul} (rp : RightP r) (wF : Int → List Int) (nF : Int → Int → List Int) (eF : Int → List Int) : RuLen (bC (aC r) wF nF eF) := by
 obtain ⟨h1, h2, h3, h4, h5, h6⟩ := o5 rp
 have := (dV rp.t3.h9).2.2
 have := (dV rp.t3.h12).2.2
 have := (dV rp.t3.h13).2.2
 have := xN rp
 exact {
  l46 := by show r.setpos.length ≤ _; omega
  l47 := by show (bS (aC r)).length ≤ _; omega
  l48 := Nat.le_trans (List.length_filter_le _ _) oM
  l49 := Nat.le_trans (List.length_filter_le _ _) oM
  l50 := by show r.yday.length ≤ _; omega
  l51 := by show r.weekno.length ≤ _; omega
  l52 := by show (List.map _ _).length ≤ _; rw [List.length_map]; exact Nat.le_trans (List.length_filter_le _ _) oM
  l54 := by show (cA (aC r)).length ≤ _; omega
  l55 := by show (bA (aC r)).length ≤ _; omega
  l56 := by show (bG (aC r)).length ≤ _; omega
  l57 := by show r.easter.length ≤ _; omega }
theorem qC {o : Opn} (hf : 2 ≤ o.freq) (wF : Int → List Int) (nF : Int → Int → List Int) (eF : Int → List Int) : (bC o wF nF eF).nwd.length = 0 := by
 show ((bN o).filter fun x => !cF o.freq x).length = 0
 rw [List.filter_eq_nil_iff.2 fun x _ => by unfold cF; rw [decide_eq_true oM]; simp]; rfl
theorem o6 {r : Rul} (rp : RightP r) (hf : 2 ≤ r.freq) : RuOk (bC (aC r) wO nO wO) := by
 obtain ⟨hy, hw, he⟩ := kQ rp hf
 have hnw : (bC (aC r) wO nO wO).nwd.length = 0 := qC hf wO nO wO
 exact {
  freq := rp.t1.freq
  interval := rp.t1.interval
  wkst := rp.t1.wkst
  until0 := fun ⟨h1, h2⟩ => by
   have h1 : until0 (aC r) = 0 := h1
   have h2 : until1 (aC r) = 0 := h2
   unfold until0 at h1
   unfold until1 at h2
   split at h2
   ·cases h2
   ·rename_i h; rw [if_neg h] at h1; exact h h1
  until1 := by show 0 ≤ until1 (aC r); unfold until1; split <;> decide
  hour := s6 (iJ rp)
  minute := pI (iJ rp)
  second := o8 (iJ rp)
  wnoF := fun h => absurd hw h
  nwmF := fun h => absurd hnw h
  easF := fun h => absurd he h
  wnoF0 := fun _ _ => rfl
  nwmF0 := fun _ _ _ => rfl
  easF0 := fun _ _ => rfl
  nwd := fun _ => hnw }
theorem jP {r : Rul} (rp : RightP r) : r.setpos.length ≤ 1000 ∧ ∀ q ∈ r.setpos, -1000 ≤ q ∧ q ≤ 1000 :=
 ⟨by have := (dV rp.t3.h9).2.2; omega, fun q hq => by rcases jC (r := r) rp.t3.h9 oM q hq with h | ⟨_, h⟩ <;> omega⟩
theorem uB {r : Rul} (rp : RightP r) : (raw (aC r)).length ≤ 1000000000 := by
 obtain ⟨_, _, _, h4, h5, h6⟩ := o5 rp
 have key : ∀ (l : List Int) (f : Int → List Int) (m : Nat), (∀ x, (f x).length ≤ m) → (l.flatMap f).length ≤ l.length * m := by
  intro l f m hf
  induction l with
  | nil => simp
  | cons x l ih => rw [List.flatMap_cons, List.length_append, List.length_cons, Nat.succ_mul]; have := hf x; omega
 unfold raw
 refine Nat.le_trans (key _ _ 10000 fun h => Nat.le_trans (key _ _ 100 fun m => by rw [List.length_map]; exact h6) oM) oM
theorem aEq {r : Rul} : (it0 (aC r) (bC (aC r) wO nO wO)).wd = r.start / 86400 % 7 := by
 show ((r.start / 86400 + 1) % 7 + 6) % 7 = _; omega
theorem yN {o : Opn} {q : Ru} : Cal.dayNo (it0 o q).y (it0 o q).mo (it0 o q).d = o.d / 86400 := nC _
theorem aD5 {r : Rul} (hf : r.freq = 2 ∨ r.freq = 3) : R23 r 0 (it0 (aC r) (bC (aC r) wO nO wO)) := by
 refine ⟨rfl, ?_, fun _ => by rw [yN, aEq]; rfl⟩
 rw [yN]
 show r.start / 86400 = _
 rcases hf with hf | hf
 ·rw [if_pos ⟨hf, rfl⟩]
 ·rw [if_neg oM, l0 hf]; omega
theorem aBu {r : Rul} (rp : RightP r) (hf : r.freq = 2 ∨ r.freq = 3) : ¬fQ (bD r) 0 := fun h => by
 have h := (pO oM _).1 h
 have hs := rp.t1.start
 have h9 : Cal.daysTo 9000 = 3286817 := by decide
 rcases hf with hf | hf
 ·rw [oB hf] at h; omega
 ·rw [l0 hf] at h; omega
def qD (r : Rul) (dayF : Int → Bool) : Prop := ∀ (most : Nat), most ≤ 1000000 → ∀ l, tN r dayF most l → ∀ (x : Av) (w : World), InL w r x → Calls Tryz.prog 18 #[.agg (cI r x).toArray, iV most] w fun e w' => ∃ p c, e = .returned (.tuple #[.slice p l.length c, .bool true]) ∧ fM w w' (.slice p l.length c) 2 1 l.length (l.map iV)
theorem xQ {r : Rul} (rp : RightP r) (hf : r.freq = 3) : qD r (dW (bD r)) := by
 intro most hm l h x w hin
 have hr := o6 rp oM
 obtain ⟨hy, hw, he⟩ := kQ rp oM
 have hnw : (bC (aC r) wO nO wO).nwd.length = 0 := qC (by show 2 ≤ r.freq; omega) wO nO wO
 have hpres : sH (bC (aC r) wO nO wO) := rG hr (.inr (.inr hf))
 obtain ⟨N, hT⟩ := oX rp (aA9 rp (.inr hf) fun _ _ => rfl) hpres (yL rp (y4 rp oM) (fun h => by omega)) (aD5 (.inr hf)) (aBu rp (.inr hf)) hm h
 have hs := rp.t1.start
 have h9 : Cal.daysTo 9000 = 3286817 := by decide
 have hit := sX (iJ rp) (show r.freq < 4 by omega) hw hnw he (fun _ => rfl) (fun _ _ => rfl) (fun _ => rfl) (oJ rp wO nO wO) (show (aC r).d < 315537897600 by show r.start < _; omega)
 exact lI (iJ rp) hit (qM rp) (qI rp) (fun F w0 => rM (uB rp) F w0) hr
  ⟨(jP rp).1, (jP rp).2, rY hr hf hw hnw he⟩ hpres hm hT w hin
theorem uX {r : Rul} (rp : RightP r) (hf : r.freq = 2 ∨ r.freq = 3) : qD r (dW (bD r)) := by
 intro most hm l h x w hin
 have hr := o6 rp oM
 obtain ⟨hy, hw, he⟩ := kQ rp oM
 have hnw : (bC (aC r) wO nO wO).nwd.length = 0 := qC (by show 2 ≤ r.freq; omega) wO nO wO
 have hpres : sH (bC (aC r) wO nO wO) := rG hr (.inr hf)
 obtain ⟨N, hT⟩ := oX rp (aA9 rp hf fun _ _ => rfl) hpres (yL rp (y4 rp oM) (fun h => by omega)) (aD5 hf) (aBu rp hf) hm h
 have hs := rp.t1.start
 have h9 : Cal.daysTo 9000 = 3286817 := by decide
 have hit := sX (iJ rp) (show r.freq < 4 by omega) hw hnw he (fun _ => rfl) (fun _ _ => rfl) (fun _ => rfl) (oJ rp wO nO wO) (show (aC r).d < 315537897600 by show r.start < _; omega)
 exact lI (iJ rp) hit (qM rp) (qI rp) (fun F w0 => rM (uB rp) F w0) hr
  ⟨(jP rp).1, (jP rp).2, zQ hr (.inr hf) hw hnw he⟩ hpres hm hT w hin
end Go.Proofs.YtdbbifbmkfmbkaaGreat
namespace Go.Proofs.YtdbbifbmkfmbkaaGreat
open Go.Md Go.Tab Go.Fr
theorem mZ {q : Rul} {dayF : Int → Bool} {en most k : Int} {o o' l D : List Int} (h : ¬fQ q k) (hd : fW q dayF k = D) (e : kI q q.start en most o D = (o', true)) (hn : DatesP q dayF en most (k + 1) o' l) : DatesP q dayF en most k o l := by
 subst hd
 exact .more h (by rw [e]) (by rw [e]; exact hn)
theorem mY {q : Rul} {dayF : Int → Bool} {en most k : Int} {o o' D : List Int} (h : ¬fQ q k) (hd : fW q dayF k = D) (e : kI q q.start en most o D = (o', false)) : DatesP q dayF en most k o o' := by
 subst hd
 have := DatesP.stop (dayF := dayF) h (by rw [e])
 rwa [e] at this
def eE (st c : Int) : Rul := ⟨3, true, st, 1, 0, c, false, 0, [], [], [], [], [], [], [], [], [], []⟩
theorem wT {st c : Int} (hs : 1 ≤ st ∧ st < 86400 * 3000000) (hc : 0 ≤ c ∧ c ≤ 100) : RightP (eE st c) where
 t1 := ⟨(show (0 : Int) ≤ 3 ∧ (3 : Int) ≤ 6 by decide), rfl, ⟨hs.1, (show st < Cal.daysTo 9000 * 86400 from by rw [show Cal.daysTo 9000 = 3286817 by decide]; omega)⟩, (show (1 : Int) ≤ 1 ∧ (1 : Int) ≤ 1000 by decide), (show (0 : Int) ≤ 0 ∧ (0 : Int) ≤ 6 by decide), ⟨hc.1, by show c ≤ _; omega⟩⟩
 t2 := ⟨fun _ => rfl, fun h => by cases h⟩
 t3 := ⟨rfl, rfl, rfl, rfl, rfl, rfl, rfl, rfl⟩
 t4 := fun i y h => by simp [eE] at h
 t5 := ⟨fun _ => ⟨rfl, rfl⟩, fun _ => rfl⟩
 t6 := fun i y h => by simp [eE] at h
 t7 := fun h => by cases h
 t8 := fun h => absurd h (by show ¬ (4 : Int) ≤ 3; decide)
 t9 := .inl rfl
theorem mX {st c : Int} (hs : 1 ≤ st ∧ st < 86400 * 3000000) (hc : 0 ≤ c ∧ c ≤ 100) (k : Int) (hk : 0 ≤ k) : fW (bD (eE st c)) (dW (bD (eE st c))) k = [st + k * 86400] := by
 obtain ⟨e1, e2, e3, e4, e5, e6, _⟩ := dH (eE st c)
 obtain ⟨g1, g2, g3, g4, g5, g6⟩ := n7 (eE st c)
 have g4 : (bD (eE st c)).hour = [st % 86400 / 3600] := g4
 have g5 : (bD (eE st c)).minute = [st % 86400 / 60 % 60] := g5
 have g6 : (bD (eE st c)).second = [st % 86400 % 60] := g6
 have hF := l0 (r := eE st c) rfl k
 have hF : dC (bD (eE st c)) k = st / 86400 + k := hF.trans (by show st / 86400 + k * 1 = _; omega)
 have hm : jG (bD (eE st c)) k = 1 := by unfold jG; rw [e2]; rfl
 have hday : ∀ d, dW (bD (eE st c)) d = true := fun d => by
  unfold dW
  rw [g1, g2, g3]
  rfl
 unfold fW
 rw [if_neg (by rw [e2]; show ¬ (4 : Int) ≤ 3; decide), hm, hF]
 show jD _ _ _ ++ [] = _
 rw [List.append_nil]
 unfold jD
 rw [if_pos ⟨by simp only [Int.natCast_zero]; omega, hday _⟩, g4, g5, g6, tA (PartOk.one oM) (PartOk.one oM) (PartOk.one oM)]
 have hts : kJ [st % 86400 / 3600] [st % 86400 / 60 % 60] [st % 86400 % 60] = [st % 86400] := by
  refine SI.ext (mG (PartOk.one oM) (PartOk.one oM) (PartOk.one oM)) (by simp [SI]) fun t => ?_
  rw [l3 (PartOk.one oM) (PartOk.one oM) (PartOk.one oM)]
  simp only [List.mem_singleton]
  omega
 rw [hts]
 simp only [List.map_cons, List.map_nil, List.cons.injEq, and_true, Int.natCast_zero]
 omega
theorem nA {st c : Int} (hs : 1 ≤ st ∧ st < 86400 * 3000000) (k : Int) (hk : 0 ≤ k ∧ k ≤ 100) : ¬fQ (bD (eE st c)) k := fun h => by
 have h := (pO (r := eE st c) (show (2 : Int) ≤ 3 by decide) k).1 h
 have hF := l0 (r := eE st c) rfl k
 have hF : dC (bD (eE st c)) k = st / 86400 + k := hF.trans (by show st / 86400 + k * 1 = _; omega)
 omega
theorem oO {st c most : Int} {o : List Int} {t : Int} (ht : st ≤ t ∧ t ≤ st + 9223372036) (h1 : (o.length : Int) + 1 ≤ most) (h2 : c = 0 ∨ (o.length : Int) + 1 ≤ c) (hc : 0 ≤ c) : kI (bD (eE st c)) (bD (eE st c)).start (pA (eE st c)) most o [t] = (o ++ [t], decide ((o.length : Int) + 1 < most) && (c == 0 || decide ((o.length : Int) + 1 < c))) := by
 obtain ⟨e1, e2, e3, e4, e5, e6, _⟩ := dH (eE st c)
 unfold kI
 rw [e5, e6, e1]
 have hp : kE [t] (eE st c).setpos = [t] := nQ _ rfl
 have hl : pA (eE st c) = st + 9223372036 := rfl
 rw [hp, hl]
 have : eJ (eE st c).count (eE st c).start (st + 9223372036) most o [t] = (o ++ [t], true) := by
  rw [fX, if_neg (by show ¬ t < st; omega), if_neg]
  ·rfl
  ·show ¬ (_ ∨ (0 < c ∧ _ = c) ∨ _)
   omega
 rw [this]
 simp only [Bool.true_and]
 unfold o7
 rw [List.length_append, List.length_singleton]
 rfl
theorem ref3 {st c most : Int} (hs : 1 ≤ st ∧ st < 86400 * 3000000) (hc : (c = 0 ∧ most = 3) ∨ (c = 3 ∧ 3 ≤ most)) : tN (eE st c) (dW (bD (eE st c))) most [st, st + 86400, st + 172800] := by
 have hcb : 0 ≤ c ∧ c ≤ 100 := by omega
 unfold tN
 refine mZ (o' := [st]) (nA hs 0 oM) (mX hs hcb 0 oM) ?_ (mZ (o' := [st, st + 86400]) (nA hs 1 oM) (mX hs hcb 1 oM) ?_ (mY (nA hs 2 oM) (mX hs hcb 2 oM) ?_))
 ·rw [oO oM (by simp; omega) (by simp; omega) hcb.1]
  rcases hc with ⟨rfl, rfl⟩ | ⟨rfl, h⟩ <;> simp <;> omega
 ·rw [oO oM (by simp; omega) (by simp; omega) hcb.1]
  rcases hc with ⟨rfl, rfl⟩ | ⟨rfl, h⟩ <;> simp <;> omega
 ·rw [oO oM (by simp; omega) (by simp; omega) hcb.1]
  rcases hc with ⟨rfl, rfl⟩ | ⟨rfl, h⟩ <;> simp
end Go.Proofs.YtdbbifbmkfmbkaaGreat
namespace Go.Proofs.YtdbbifbmkfmbkaaGreat
open Go.RowKit Go.Fr Go.Tab
section
variable {F : Nat → Prop} {w0 : World} {B : LN} {H : LV} {S : LS}
open Go.Md
def xO : Av := ⟨none, none, none, none, none, none, none, none, none, none, 0, 0, 0, 0, 0, 0, 0, 0, 0, 0, none, none, none, none, none, none, none, none, none, none, none, 0, 0, 0, 0, 0, 0, 0, 0, 0, 0, 0⟩
theorem aBk (st c : Int) (w : World) : InL w (eE st c) xO := ⟨Ints.nil, Ints.nil, Ints.nil, Ints.nil, Ints.nil, ⟨none, 0, rfl, fun i x h => by simp [eE] at h⟩, Ints.nil, Ints.nil, Ints.nil, Ints.nil⟩
theorem InL.day {w : World} {r : Rul} {x : Av} {p : Option Addr} {c : Nat} (h : InL w r x) (hp : Prs w (.slice p r.wday.length c) r.wday) : InL w r { x with p14 := p, c14 := c } := ⟨h.i9, h.i10, h.i11, h.i12, h.i13, hp, h.i15, h.i16, h.i17, h.i18⟩
theorem jM (w : World) : Calls Tryz.prog 17 #[] w fun e w' => e = .returned (.bool true) ∧ Below w.heap.size w w' := by
 have href : tN (eE 63000000000 3) (dW (bD (eE 63000000000 3))) 9 ([63000000000, 63000086400, 63000172800] : List Int) := ref3 dE (.inr dE)
 refine aN (args := []) (L := []) (N := 14) Tryz.func17 rfl rfl ble rfl (sS w) ?_
 refine g7 ?_
 refine rl (fJ (vs := [(0, .int .u8 3), (1, .bool true), (2, iV 63000000000), (3, iV 1), (5, iV 3)]) (v := .agg (cI (eE 63000000000 3) xO).toArray) rfl (fun w => by kernel_rfl)) ?_
 refine gL (crx (ι := Option Addr × Nat) 10 (fun y => .tuple #[.slice y.1 3 y.2, .bool true]) (fun _ => True) (fun y => ⟨.slice y.1 3 y.2, 2, 1, 3, (([63000000000, 63000086400, 63000172800] : List Int).map iV)⟩) rfl (fun w_ s_ => (xQ (wT dE dE) rfl 9 dE ([63000000000, 63000086400, 63000172800] : List Int) href xO w_ (aBk _ _ w_)).mono fun e w' ⟨p, c, h1, h2⟩ => ⟨(p, c), trivial, h1, h2⟩) (fun | (pr, cr), _ => ?_))
 refine g14 ?_
 refine gL (dY 11 (e := 2) (sz := 1) (n := 3) (vs := [(0, iV 63000000000), (1, iV 63000086400), (2, iV 63000172800)]) (cs := [iV 63000000000, iV 63000086400, iV 63000172800]) dE rfl (fun w => by kernel_rfl) rfl dE dE rfl (fun b1_ hbb1_ => ?_))
 refine g1 ?_
 refine gL (cvo (v := .bool true) rfl (fun w_ s_ => vO _ _ _ _ ([63000000000, 63000086400, 63000172800] : List Int) dE w_ (s_.ints 10 (xs := ([63000000000, 63000086400, 63000172800] : List Int)) rfl) (s_.ints 11 (xs := ([63000000000, 63000086400, 63000172800] : List Int)) rfl)) ?_)
 refine g5 ?_
 exact aD (.inl rfl) rfl (aA rfl) fun w_ s_ => ⟨rfl, s_.aGm⟩
end
end Go.Proofs.YtdbbifbmkfmbkaaGreat
namespace Go.Proofs.YtdbbifbmkfmbkaaGreat
open Go.RowKit Go.Fr Go.Tab
section
variable {F : Nat → Prop} {w0 : World} {B : LN} {H : LV} {S : LS}
theorem Sees.cut0 {w : World} {k : Nat} {p : Option Addr} {n c : Nat} {e : TypeId} {sz : Nat} {xs : List Value} (s : Sees F w0 B H S w) (hk : lkp k S = some ⟨.slice p n c, e, sz, n, xs⟩) : Sees F w0 B H ((k, ⟨.slice p 0 c, e, sz, 0, []⟩) :: S) w :=
 s.slice (s' := ⟨.slice p 0 c, e, sz, 0, []⟩) (old := (Value.slice p n c).ownBlock) (.inr ⟨_, hk, rfl⟩) ⟨rfl, rfl, rfl, Nat.le_refl _, fun _ _ _ => rfl⟩ (by
  rcases (s.slcs k _ hk).2 with ⟨e1, e2⟩ | ⟨g, cap, cur, e1, h1, h2, h3, h4, h5, h6⟩
  ·injection e1 with e3 e4 e5
   subst e3 e5
   exact ⟨by simp, .inl ⟨rfl, rfl⟩⟩
  ·injection e1 with e3 e4 e5
   subst e3 e5
   exact ⟨by simp, .inr ⟨g, c, cur, rfl, h1, h2, Nat.zero_le _, h4, h5, by simp⟩⟩) (by
  cases p with
  | none => exact .inl rfl
  | some a => exact .inr (.inl ⟨by simp [Value.ownBlock], rfl⟩))
theorem m9 {it : Nat} (hB : lkp 0 B = some it) {p : Option Addr} {n c m : Nat} {xs : List Value} (h23 : lkp (ky 0 23) H = some (.slice p n c)) (hS2 : lkp 2 S = some ⟨.slice p n c, 57, 2, n, xs⟩) (hn : n ≤ 1000000000) (hm : m ≤ 1000000) : ∀ w, Sees F w0 B H S w → Calls Tryz.prog 95 #[.pointer (some ⟨it, 23, none⟩), iV (m : Int)] w fun e w' => ∃ p' c', e = .returned (.tuple #[]) ∧ Sees F w0 B ((ky 0 23, .slice p' 0 c') :: H) ((2, ⟨.slice p' 0 c', 57, 2, 0, []⟩) :: S) w' := by
 intro w s
 refine aN (args := [.pointer (some ⟨it, 23, none⟩), iV ((m : Int))]) (L := [(0, .pointer (some ⟨it, 23, none⟩)), (1, iV ((m : Int)))]) (N := 20) Tryz.func95 rfl rfl ble rfl s ?_
 refine g5 ?_
 refine rl (rld 0 rfl hB h23) ?_
 refine g5 ?_
 refine aE rfl (fun hc1 => ?_) (fun hc2 => ?_)
 ·refine g4 ?_
  refine gL (rW 2 (e := 57) (sz := 2) (by_ := 16) (zs := [iV 0, iV 0]) (c := m) dE kR rfl rfl oM oM (fun bm => ?_))
  refine g1 ?_
  refine gL (sto 0 rfl rfl hB h23 ?_)
  refine g4 ?_
  exact dO (by first | exact .inl rfl | exact .inr rfl) rfl fun w_ s_ => ⟨(some ⟨bm, 0, none⟩), m, rfl, s_⟩
 ·refine g6 ?_
  refine rl (rld 0 rfl hB h23) ?_
  refine rl ((dM (e := 57) (n := 2) kR rfl rfl oM oM).to (v' := .slice p 0 c) rfl) ?_
  refine g1 ?_
  refine gL (sto 0 rfl rfl hB h23 ?_)
  refine g1 ?_
  exact dO (by first | exact .inl rfl | exact .inr rfl) rfl fun w_ s_ => ⟨p, c, rfl, (Sees.cut0 s_ hS2)⟩
end
end Go.Proofs.YtdbbifbmkfmbkaaGreat
