import Derived.Test.YtdbbifbmkfmbkaaGreatRae
set_option linter.unusedVariables false
set_option linter.unusedSimpArgs false
set_option maxRecDepth 100000
set_option maxHeartbeats 8000000
namespace Go.Proofs.YtdbbifbmkfmbkaaGreat
open Go.RowKit Go.Fr Go.Tab
section
variable {F : Nat → Prop} {w0 : World} {B : LN} {H : LV} {S : LS}
open Go.Md
def pJ (s : It) : Value := match s.rem with
 | [] => .tuple #[.agg #[iV 0, iV 0], .bool false]
 | t :: _ => .tuple #[.agg #[iV t, iV 0], .bool true]
theorem aHq {S0 : LS} {H0 : LV} {r : Ru} {l : Ra} {it rb : Nat} {s : It} {a : Ad} (st : St F w0 S0 H0 it rb r l s a B H S) : ∀ w, Sees F w0 B H S w → Calls Tryz.prog 97 #[.pointer (some ⟨it, 26, none⟩)] w fun e w' => ∃ a' H' S', e = .returned (pJ s) ∧ St F w0 S0 H0 it rb r l { s with rem := s.rem.tail } a' B H' S' ∧ Sees F w0 B H' S' w' := by
 intro w hs
 cases hrem : s.rem with
 | nil =>
  have h26 := st.h26
  rw [hrem] at h26
  refine (aE8 (st.lim.mono dE) st.hB h26 w hs).mono ?_
  rintro e w' ⟨he, hs'⟩
  refine ⟨a, H, S, ?_, ?_, hs'⟩
  ·rw [he]; unfold pJ; rw [hrem]
  ·have e1 : ({ s with rem := s.rem.tail } : It) = s := by rw [hrem]; cases s; simp only at hrem; subst hrem; rfl
   rw [hrem] at e1
   exact e1.symm ▸ st
 | cons t rest =>
  have hne : s.rem ≠ [] := by rw [hrem]; exact List.cons_ne_nil _ _
  obtain ⟨q1, q2, q3, q4, q5, q6⟩ := st.hq1 hne
  obtain ⟨g, hrp, hcap⟩ := hs.head 0 st.hS0 oM
  have hrs := q1 g hrp
  have hlen : s.rem.length = a.rn - a.rj := by rw [q2, List.length_drop, q3]
  have h26 := st.h26
  rw [hrs, q5, hlen] at h26
  have hS0 := st.hS0
  have hrow : (⟨.slice a.rp a.rn a.rc, 57, 2, a.rn, bN a.rall⟩ : Slc).v = sL g a.rn a.rc := by rw [hrp]
  have hrj : a.rall[a.rj]? = some t := by
   have : (a.rall.drop a.rj)[0]? = some t := by rw [← q2, hrem]; rfl
   rwa [List.getElem?_drop, Nat.add_zero] at this
  obtain ⟨hx, hy⟩ := lB hrj
  have hrest : rest = a.rall.drop (a.rj + 1) := by
   have : (t :: rest).tail = (a.rall.drop a.rj).tail := by rw [← hrem, q2]
   rw [List.tail_drop] at this
   exact this
  have hrl : rest.length = a.rn - (a.rj + 1) := by rw [hrest, List.length_drop, q3]
  by_cases hlast : a.rj + 1 = a.rn
  ·have h27 := st.h27
   rw [q6, hrp] at h27
   refine (aEw (st.lim.mono dE) st.hB hlast hcap h26 h27 hS0 hrow hx hy w hs).mono ?_
   rintro e w' ⟨u, he, hs'⟩
   have hs2 := hs'.cut 0 hS0 rfl 0 (Nat.zero_le _)
   have hr0 : rest = [] := List.eq_nil_of_length_eq_zero oM
   unfold sL at hs2; rw [← hrp] at hs2
   refine ⟨{ a with rs := a.rp, rk := a.rc, rn := 0, rall := [], rj := 0 }, _, _, ?_, ?_, hs2⟩
   ·rw [he]; unfold pJ; rw [hrem]
   ·subst hr0
    exact ⟨st.hB, st.hR, (lY st.lim), st.h0, st.h1, st.h2, st.h3, st.h4, st.h5, st.h6, st.h7, st.h8, st.h9, st.h10, st.h11, st.h12, st.h13, st.h14, st.h15, st.h16, st.h17, st.h18, st.h19, st.h20, st.h21, st.h22, st.h23, st.h24, st.h25, rfl, st.h27, st.h28, st.h29, rfl, st.hS1, st.hS2, st.hS3, st.hS4, st.hS5, st.hS6, st.hS7, st.hS8, st.hS9, st.hS10, st.hp20, st.hp21, st.hp22, st.c6, (fV st.frS), (fW st.frH), (fun _ => ⟨rfl, rfl, rfl, rfl⟩), (fun h => absurd rfl h), st.r38, st.r39, st.r40, st.r41, st.r42, st.r44, st.r45, st.r46, st.r47, st.r48, st.r49, st.r50, st.r51, st.r52, st.r53, st.r54, st.r55, st.r56, st.r57, st.r59, (st.hI46.to aG), (st.hI47.to aG), (st.hI48.to aG), (st.hI49.to aG), (st.hI50.to aG), (st.hI51.to aG), (st.hI52.to aG), (st.hI54.to aG), (st.hI55.to aG), (st.hI56.to aG), (st.hI57.to aG), st.hl46, st.hl47, st.hl48, st.hl49, st.hl50, st.hl51, st.hl52, st.hl54, st.hl55, st.hl56, st.hl57⟩
  ·refine (aE5 (st.lim.mono dE) st.hB oM hcap h26 hS0 hrow hx hy w hs).mono ?_
   rintro e w' ⟨he, hs'⟩
   refine ⟨{ a with rs := some ⟨g, 2 * (a.rj + 1), none⟩, rk := a.rc - (a.rj + 1), rj := a.rj + 1 }, _, _, ?_, ?_, hs'⟩
   ·rw [he]; unfold pJ; rw [hrem]
   ·exact ⟨st.hB, st.hR, (lY st.lim), st.h0, st.h1, st.h2, st.h3, st.h4, st.h5, st.h6, st.h7, st.h8, st.h9, st.h10, st.h11, st.h12, st.h13, st.h14, st.h15, st.h16, st.h17, st.h18, st.h19, st.h20, st.h21, st.h22, st.h23, st.h24, st.h25, (by simp only [List.tail_cons]; rw [hrl]; rfl), st.h27, st.h28, st.h29, st.hS0, st.hS1, st.hS2, st.hS3, st.hS4, st.hS5, st.hS6, st.hS7, st.hS8, st.hS9, st.hS10, st.hp20, st.hp21, st.hp22, st.c6, (fV st.frS), (fW st.frH), (fun h => absurd (congrArg List.length h) (by simp only [List.tail_cons, List.length_nil]; omega)), (fun _ => ⟨fun g2 e2 => by rw [hrp] at e2; cases e2; rfl, hrest, q3, by simp only; omega, rfl, q6⟩), st.r38, st.r39, st.r40, st.r41, st.r42, st.r44, st.r45, st.r46, st.r47, st.r48, st.r49, st.r50, st.r51, st.r52, st.r53, st.r54, st.r55, st.r56, st.r57, st.r59, (st.hI46.to aG), (st.hI47.to aG), (st.hI48.to aG), (st.hI49.to aG), (st.hI50.to aG), (st.hI51.to aG), (st.hI52.to aG), (st.hI54.to aG), (st.hI55.to aG), (st.hI56.to aG), (st.hI57.to aG), st.hl46, st.hl47, st.hl48, st.hl49, st.hl50, st.hl51, st.hl52, st.hl54, st.hl55, st.hl56, st.hl57⟩
def GenTo (r : Ru) (n : Nat) (s e : It) : Prop := (s.fin = true ∧ e = s) ∨ (s.fin = false ∧ Gen r n s e ∧ ItOk r s)
def vA (r : Ru) : Prop := ∀ s, ItOk r s → s.rem = [] → s.fin = false → (dY r s).fin = false → ItOk r (dY r s)
theorem aIi {S0 : LS} {H0 : LV} {r : Ru} {l : Ra} {it rb : Nat} {s : It} {a : Ad} (st : St F w0 S0 H0 it rb r l s a B H S) (hr : RuOk r) (hp : Plain r) (hpres : vA r) {n : Nat} {sEnd : It} (hG : GenTo r n s sEnd) : ∀ w, Sees F w0 B H S w → Calls Tryz.prog 96 #[pT it] w fun e w' => e = .returned (.tuple #[]) ∧ ∃ a H' S', St F w0 S0 H0 it rb r l sEnd a B H' S' ∧ Sees F w0 B H' S' w' := by
 rcases hG with ⟨hf, rfl⟩ | ⟨hf, hG, hk⟩
 ·exact wK st hf
 ·exact tS st hr hp hG hk hf hpres
theorem St.drop38 {b : Nat} {S0 : LS} {H0 : LV} {r : Ru} {l : Ra} {it rb : Nat} {s : It} {a : Ad} (st : St F w0 S0 H0 it rb r l s a B H S) {s3 : It} {a3 : Ad} {H3 : LV} {S3 : LS} (st3 : St F w0 S (aC 38 0 [iV 0, iV 0] ++ H) it rb r l s3 a3 ((38, b) :: B) H3 S3) (h38h : ∀ o, o < 4096 → lkp (ky 38 o) H0 = none) : St F w0 S0 H0 it rb r l s3 a3 B (i7 38 H3) S3 := ⟨st3.hB, st3.hR, ⟨fun k_ h_ => by have := st3.lim.b k_ h_; rwa [aA oM] at this, fun k_ h_ o_ ho_ => (aL (by rw [oZ ho_]; omega)).trans (st3.lim.h k_ h_ o_ ho_), st3.lim.s⟩, (aL dE).trans st3.h0, (aL dE).trans st3.h1, (aL dE).trans st3.h2, (aL dE).trans st3.h3, (aL dE).trans st3.h4, (aL dE).trans st3.h5, (aL dE).trans st3.h6, (aL dE).trans st3.h7, (aL dE).trans st3.h8, (aL dE).trans st3.h9, (aL dE).trans st3.h10, (aL dE).trans st3.h11, (aL dE).trans st3.h12, (aL dE).trans st3.h13, (aL dE).trans st3.h14, (aL dE).trans st3.h15, (aL dE).trans st3.h16, (aL dE).trans st3.h17, (aL dE).trans st3.h18, (aL dE).trans st3.h19, (aL dE).trans st3.h20, (aL dE).trans st3.h21, (aL dE).trans st3.h22, (aL dE).trans st3.h23, (aL dE).trans st3.h24, (aL dE).trans st3.h25, (aL dE).trans st3.h26, (aL dE).trans st3.h27, (aL dE).trans st3.h28, (aL dE).trans st3.h29, st3.hS0, st3.hS1, st3.hS2, st3.hS3, st3.hS4, st3.hS5, st3.hS6, st3.hS7, st3.hS8, st3.hS9, st3.hS10, st3.hp20, st3.hp21, st3.hp22, st3.c6, (fun k_ h1_ h2_ => (st3.frS k_ h1_ h2_).trans (st.frS k_ h1_ h2_)), (fun k_ h1_ h2_ o_ ho_ => by by_cases e_ : k_ = 38; { subst e_; rw [kC ho_, h38h o_ ho_] }; { rw [aL (by rw [oZ ho_]; exact e_), st3.frH k_ h1_ h2_ o_ ho_, aK e_ ho_ _ _ ble]; exact st.frH k_ h1_ h2_ o_ ho_ }), st3.hq0, st3.hq1, (aL dE).trans st3.r38, (aL dE).trans st3.r39, (aL dE).trans st3.r40, (aL dE).trans st3.r41, (aL dE).trans st3.r42, (aL dE).trans st3.r44, (aL dE).trans st3.r45, (aL dE).trans st3.r46, (aL dE).trans st3.r47, (aL dE).trans st3.r48, (aL dE).trans st3.r49, (aL dE).trans st3.r50, (aL dE).trans st3.r51, (aL dE).trans st3.r52, (aL dE).trans st3.r53, (aL dE).trans st3.r54, (aL dE).trans st3.r55, (aL dE).trans st3.r56, (aL dE).trans st3.r57, (aL dE).trans st3.r59, st3.hI46, st3.hI47, st3.hI48, st3.hI49, st3.hI50, st3.hI51, st3.hI52, st3.hI54, st3.hI55, st3.hI56, st3.hI57, st3.hl46, st3.hl47, st3.hl48, st3.hl49, st3.hl50, st3.hl51, st3.hl52, st3.hl54, st3.hl55, st3.hl56, st3.hl57⟩
theorem sW {S0 : LS} {H0 : LV} {r : Ru} {l : Ra} {it rb : Nat} {s : It} {a : Ad} (st : St F w0 S0 H0 it rb r l s a B H S) (h38b : lkp 38 B = none) (h38h : ∀ o, o < 4096 → lkp (ky 38 o) H0 = none) (hr : RuOk r) (hp : Plain r) (hpres : vA r) {n : Nat} {sEnd : It} (hG : GenTo r n s sEnd) : ∀ w, Sees F w0 B H S w → Calls Tryz.prog 53 #[pT it] w fun e w' => ∃ a' H' S', e = .returned (pJ sEnd) ∧ St F w0 S0 H0 it rb r l { sEnd with rem := sEnd.rem.tail } a' B H' S' ∧ Sees F w0 B H' S' w' := by
 intro w s_
 refine aI (args := [pT it]) (L := [(0, pT it)]) (N := 12) Tryz.func53 rfl rfl ble rfl s_ ?_
 refine g2 ?_
 refine gL (eB 38 (cs := [iV 0, iV 0]) dE kR h38b (fun o ho => (st.frH 38 dE dE o ho).trans (h38h o ho)) ble (fun b1_ hbb1_ => ?_))
 refine g6 ?_
 have st38 : St F w0 S (aC 38 0 [iV 0, iV 0] ++ H) it rb r l s a ((38, b1_) :: B) (aC 38 0 [iV 0, iV 0] ++ H) S := ⟨st.hB, st.hR, (Lim.aJ4 dE _ 0 ble (st.lim.aJ3 dE)), st.h0, st.h1, st.h2, st.h3, st.h4, st.h5, st.h6, st.h7, st.h8, st.h9, st.h10, st.h11, st.h12, st.h13, st.h14, st.h15, st.h16, st.h17, st.h18, st.h19, st.h20, st.h21, st.h22, st.h23, st.h24, st.h25, st.h26, st.h27, st.h28, st.h29, st.hS0, st.hS1, st.hS2, st.hS3, st.hS4, st.hS5, st.hS6, st.hS7, st.hS8, st.hS9, st.hS10, st.hp20, st.hp21, st.hp22, st.c6, (fun _ _ _ => rfl), (fun _ _ _ _ _ => rfl), st.hq0, st.hq1, st.r38, st.r39, st.r40, st.r41, st.r42, st.r44, st.r45, st.r46, st.r47, st.r48, st.r49, st.r50, st.r51, st.r52, st.r53, st.r54, st.r55, st.r56, st.r57, st.r59, st.hI46, st.hI47, st.hI48, st.hI49, st.hI50, st.hI51, st.hI52, st.hI54, st.hI55, st.hI56, st.hI57, st.hl46, st.hl47, st.hl48, st.hl49, st.hl50, st.hl51, st.hl52, st.hl54, st.hl55, st.hl56, st.hl57⟩
 refine gL (dR (ι := Ad × LV × LS) (fun _ => .tuple #[]) (fun x => St F w0 S (aC 38 0 [iV 0, iV 0] ++ H) it rb r l sEnd x.1 ((38, b1_) :: B) x.2.1 x.2.2) (fun _ => ((38, b1_) :: B)) (fun x => x.2.1) (fun x => x.2.2) dE kR rfl (fun w_ s_ => (aIi st38 hr hp hpres hG w_ s_).mono fun e w' ⟨he, a', H', S', hst, hs⟩ => ⟨(a', H', S'), hst, he, hs⟩) (fun | (a2, H2, S2), st2 => ?_))
 refine g6 ?_
 refine rl (rfa 26) ?_
 refine gL (dR (ι := Ad × LV × LS) (fun _ => pJ sEnd) (fun x => St F w0 S (aC 38 0 [iV 0, iV 0] ++ H) it rb r l { sEnd with rem := sEnd.rem.tail } x.1 ((38, b1_) :: B) x.2.1 x.2.2) (fun _ => ((38, b1_) :: B)) (fun x => x.2.1) (fun x => x.2.2) dE kR rfl (fun w_ s_ => (aHq st2 w_ s_).mono fun e w' ⟨a', H', S', he, hst, hs⟩ => ⟨(a', H', S'), hst, he, hs⟩) (fun | (a3, H3, S3), st3 => ?_))
 have q0 : lkp (ky 38 0) H3 = some (iV 0) := (st3.frH 38 dE dE 0 dE).trans rfl
 have q1 : lkp (ky 38 1) H3 = some (iV 0) := (st3.frH 38 dE dE 1 dE).trans rfl
 obtain ⟨tv, bv, hpv⟩ : ∃ (tv : Int) (bv : Bool), pJ sEnd = .tuple #[.agg #[iV tv, iV 0], .bool bv] := by unfold pJ; cases sEnd.rem with | nil => exact ⟨0, false, rfl⟩ | cons t _ => exact ⟨t, true, rfl⟩
 rw [hpv]
 refine g2 ?_
 refine gL (cA 38 rfl rfl rfl (oJ q0 q1) kR rfl ble ?_)
 refine g4 ?_
 refine dQ (.inl rfl) rfl (hZ 38 rfl rfl rfl rfl kR) (aD rfl) fun w s => ⟨a3, _, _, rfl, St.drop38 (s3 := { sEnd with rem := sEnd.rem.tail }) (a3 := a3) (H3 := H3) (S3 := S3) st st3 h38h, ?_⟩
 have s2 := s.dropTag h38b
 rw [rB _ _ ble] at s2
 exact s2
end
end Go.Proofs.YtdbbifbmkfmbkaaGreat
namespace Go.Md
structure Opn where
 freq : Int
 d : Int
 interval : Int
 wkst : Int
 count : Int
 u : Int
 setpos : List Int
 month : List Int
 mday : List Int
 yday : List Int
 weekno : List Int
 wday : List (Int × Int)
 hour : List Int
 minute : List Int
 second : List Int
 easter : List Int
def iB (o : Opn) : Bool := o.weekno.length == 0 && o.yday.length == 0 && o.mday.length == 0 && o.wday.length == 0 && o.easter.length == 0
def bX (o : Opn) : List Int := if iB o ∧ o.freq = 0 ∧ o.month.length = 0 then [Cal.monthOf (o.d / 86400)] else o.month
def bL (o : Opn) : List Int := if iB o ∧ (o.freq = 0 ∨ o.freq = 1) then [Cal.mdayOf (o.d / 86400)] else o.mday
def bU (o : Opn) : List (Int × Int) := if iB o ∧ o.freq = 2 then [(((o.d / 86400 + 1) % 7 + 6) % 7, 0)] else o.wday
def cP (f : Int) (x : Int × Int) : Bool := x.2 == 0 || decide (1 < f)
def cL (o : Opn) : List Int := if o.hour.length = 0 then (if o.freq < 4 then [o.d % 86400 / 3600] else []) else o.hour
def bA (o : Opn) : List Int := if o.minute.length = 0 then (if o.freq < 5 then [o.d % 86400 / 60 % 60] else []) else o.minute
def bI (o : Opn) : List Int := if o.second.length = 0 then (if o.freq < 6 then [o.d % 86400 % 60] else []) else o.second
def until0 (o : Opn) : Int := if o.u = 0 then o.d + 9223372036 else o.u
def until1 (o : Opn) : Int := if o.u = 0 then 854775807 else 0
def gC (l : List Int) : List Int := l.filter fun x => decide (0 < x)
def gB (l : List Int) : List Int := l.filter fun x => decide (x < 0)
def bH (o : Opn) (wnoF : Int → List Int) (nwmF : Int → Int → List Int) (easF : Int → List Int) : Ru where
 freq := o.freq
 interval := o.interval
 wkst := o.wkst
 d0 := o.d
 u0 := until0 o
 u1 := until1 o
 setpos := o.setpos
 month := bX o
 mday := gC (bL o)
 nmday := gB (bL o)
 yday := o.yday
 weekno := o.weekno
 wday := ((bU o).filter (cP o.freq)).map Prod.fst
 nwd := (bU o).filter fun x => !cP o.freq x
 hour := cL o
 minute := bA o
 second := bI o
 easter := o.easter
 wnoF := wnoF
 nwmF := nwmF
 easF := easF
def raw (o : Opn) : List Int := (cL o).flatMap fun h => (bA o).flatMap fun m => (bI o).map fun s => h * 3600 + m * 60 + s
def lW (o : Opn) : List Int := if o.freq < 4 then dW (raw o) else []
theorem dD {α : Type} {p : α → Bool} {l : List α} {k : Nat} {x : α} (h : l[k]? = some x) : (l.take (k + 1)).filter p = (l.take k).filter p ++ (if p x then [x] else []) := by
 rw [List.take_add_one, h, List.filter_append]
 cases hp : p x <;> simp [hp]
end Go.Md
namespace Go.Proofs.YtdbbifbmkfmbkaaGreat
open Go.RowKit Go.Fr Go.Tab
section
variable {F : Nat → Prop} {w0 : World} {B : LN} {H : LV} {S : LS}
open Go.Md
structure Av where
 p9 : Option Addr
 p10 : Option Addr
 p11 : Option Addr
 p12 : Option Addr
 p13 : Option Addr
 p14 : Option Addr
 p15 : Option Addr
 p16 : Option Addr
 p17 : Option Addr
 p18 : Option Addr
 c9 : Nat
 c10 : Nat
 c11 : Nat
 c12 : Nat
 c13 : Nat
 c14 : Nat
 c15 : Nat
 c16 : Nat
 c17 : Nat
 c18 : Nat
 pm : Option Addr
 pd : Option Addr
 pw : Option Addr
 q48 : Option Addr
 q49 : Option Addr
 q52 : Option Addr
 q53 : Option Addr
 q54 : Option Addr
 q55 : Option Addr
 q56 : Option Addr
 tp : Option Addr
 cm : Nat
 cd : Nat
 cw : Nat
 e48 : Nat
 e49 : Nat
 e52 : Nat
 e53 : Nat
 e54 : Nat
 e55 : Nat
 e56 : Nat
 tc : Nat
def oc0 (o : Opn) (x : Av) : List Value := [iV o.freq, iV o.d, iV 0, iV o.interval, iV o.wkst, iV 0, iV o.count, iV o.u, iV 0, .slice x.p9 (o.setpos).length x.c9, .slice x.p10 (o.month).length x.c10, .slice x.p11 (o.mday).length x.c11, .slice x.p12 (o.yday).length x.c12, .slice x.p13 (o.weekno).length x.c13, .slice x.p14 (o.wday).length x.c14, .slice x.p15 (o.hour).length x.c15, .slice x.p16 (o.minute).length x.c16, .slice x.p17 (o.second).length x.c17, .slice x.p18 (o.easter).length x.c18]
def oc1 (o : Opn) (x : Av) : List Value := [iV o.freq, iV o.d, iV 0, iV o.interval, iV o.wkst, iV 0, iV o.count, iV o.u, iV 0, .slice x.p9 (o.setpos).length x.c9, .slice x.pm (bX o).length x.cm, .slice x.pd (bL o).length x.cd, .slice x.p12 (o.yday).length x.c12, .slice x.p13 (o.weekno).length x.c13, .slice x.pw (bU o).length x.cw, .slice x.p15 (o.hour).length x.c15, .slice x.p16 (o.minute).length x.c16, .slice x.p17 (o.second).length x.c17, .slice x.p18 (o.easter).length x.c18]
def rcA (o : Opn) (x : Av) : List Value := [iV o.freq, iV o.d, iV 0, iV o.interval, iV o.wkst, iV 0, iV o.count, iV o.u, iV 0, .slice x.p9 (o.setpos).length x.c9, .slice x.p10 (o.month).length x.c10, .slice x.p11 (o.mday).length x.c11, .slice x.p12 (o.yday).length x.c12, .slice x.p13 (o.weekno).length x.c13, .slice x.p14 (o.wday).length x.c14, .slice x.p15 (o.hour).length x.c15, .slice x.p16 (o.minute).length x.c16, .slice x.p17 (o.second).length x.c17, .slice x.p18 (o.easter).length x.c18, iV 0, iV 0, iV 0, iV 0, iV 0, iV 0, iV 0, iV 0, iV 0, sN, sN, sN, sN, sN, sN, sN, sN, sN, sN, iV o.freq, iV o.d, iV 0, iV o.interval, iV o.wkst, iV o.count, iV (until0 o), iV (until1 o), .slice x.p9 (o.setpos).length x.c9, sN, sN, sN, sN, sN, sN, sN, sN, sN, sN, sN, sN, iV 0]
def rcC (o : Opn) (x : Av) : List Value := [iV o.freq, iV o.d, iV 0, iV o.interval, iV o.wkst, iV 0, iV o.count, iV o.u, iV 0, .slice x.p9 (o.setpos).length x.c9, .slice x.p10 (o.month).length x.c10, .slice x.p11 (o.mday).length x.c11, .slice x.p12 (o.yday).length x.c12, .slice x.p13 (o.weekno).length x.c13, .slice x.p14 (o.wday).length x.c14, .slice x.p15 (o.hour).length x.c15, .slice x.p16 (o.minute).length x.c16, .slice x.p17 (o.second).length x.c17, .slice x.p18 (o.easter).length x.c18, iV 0, iV 0, iV 0, iV 0, iV 0, iV 0, iV 0, iV 0, iV 0, sN, sN, sN, sN, sN, sN, sN, sN, sN, sN, iV o.freq, iV o.d, iV 0, iV o.interval, iV o.wkst, iV o.count, iV (until0 o), iV (until1 o), .slice x.p9 (o.setpos).length x.c9, .slice x.pm (bX o).length x.cm, .slice x.q48 (gC (bL o)).length x.e48, .slice x.q49 (gB (bL o)).length x.e49, .slice x.p12 (o.yday).length x.c12, sN, sN, sN, sN, sN, sN, .slice x.p18 (o.easter).length x.c18, sN, iV 0]
def rcD (o : Opn) (x : Av) : List Value := [iV o.freq, iV o.d, iV 0, iV o.interval, iV o.wkst, iV 0, iV o.count, iV o.u, iV 0, .slice x.p9 (o.setpos).length x.c9, .slice x.p10 (o.month).length x.c10, .slice x.p11 (o.mday).length x.c11, .slice x.p12 (o.yday).length x.c12, .slice x.p13 (o.weekno).length x.c13, .slice x.p14 (o.wday).length x.c14, .slice x.p15 (o.hour).length x.c15, .slice x.p16 (o.minute).length x.c16, .slice x.p17 (o.second).length x.c17, .slice x.p18 (o.easter).length x.c18, iV 0, iV 0, iV 0, iV 0, iV 0, iV 0, iV 0, iV 0, iV 0, sN, sN, sN, sN, sN, sN, sN, sN, sN, sN, iV o.freq, iV o.d, iV 0, iV o.interval, iV o.wkst, iV o.count, iV (until0 o), iV (until1 o), .slice x.p9 (o.setpos).length x.c9, .slice x.pm (bX o).length x.cm, .slice x.q48 (gC (bL o)).length x.e48, .slice x.q49 (gB (bL o)).length x.e49, .slice x.p12 (o.yday).length x.c12, .slice x.p13 (o.weekno).length x.c13, .slice x.q52 (((bU o).filter (cP o.freq)).map Prod.fst).length x.e52, .slice x.q53 ((bU o).filter fun y => !cP o.freq y).length x.e53, sN, sN, sN, .slice x.p18 (o.easter).length x.c18, sN, iV 0]
def rcE (o : Opn) (x : Av) : List Value := [iV o.freq, iV o.d, iV 0, iV o.interval, iV o.wkst, iV 0, iV o.count, iV o.u, iV 0, .slice x.p9 (o.setpos).length x.c9, .slice x.p10 (o.month).length x.c10, .slice x.p11 (o.mday).length x.c11, .slice x.p12 (o.yday).length x.c12, .slice x.p13 (o.weekno).length x.c13, .slice x.p14 (o.wday).length x.c14, .slice x.p15 (o.hour).length x.c15, .slice x.p16 (o.minute).length x.c16, .slice x.p17 (o.second).length x.c17, .slice x.p18 (o.easter).length x.c18, iV 0, iV 0, iV 0, iV 0, iV 0, iV 0, iV 0, iV 0, iV 0, sN, sN, sN, sN, sN, sN, sN, sN, sN, sN, iV o.freq, iV o.d, iV 0, iV o.interval, iV o.wkst, iV o.count, iV (until0 o), iV (until1 o), .slice x.p9 (o.setpos).length x.c9, .slice x.pm (bX o).length x.cm, .slice x.q48 (gC (bL o)).length x.e48, .slice x.q49 (gB (bL o)).length x.e49, .slice x.p12 (o.yday).length x.c12, .slice x.p13 (o.weekno).length x.c13, .slice x.q52 (((bU o).filter (cP o.freq)).map Prod.fst).length x.e52, .slice x.q53 ((bU o).filter fun y => !cP o.freq y).length x.e53, .slice x.q54 (cL o).length x.e54, sN, sN, .slice x.p18 (o.easter).length x.c18, sN, iV 0]
def rcF (o : Opn) (x : Av) : List Value := [iV o.freq, iV o.d, iV 0, iV o.interval, iV o.wkst, iV 0, iV o.count, iV o.u, iV 0, .slice x.p9 (o.setpos).length x.c9, .slice x.p10 (o.month).length x.c10, .slice x.p11 (o.mday).length x.c11, .slice x.p12 (o.yday).length x.c12, .slice x.p13 (o.weekno).length x.c13, .slice x.p14 (o.wday).length x.c14, .slice x.p15 (o.hour).length x.c15, .slice x.p16 (o.minute).length x.c16, .slice x.p17 (o.second).length x.c17, .slice x.p18 (o.easter).length x.c18, iV 0, iV 0, iV 0, iV 0, iV 0, iV 0, iV 0, iV 0, iV 0, sN, sN, sN, sN, sN, sN, sN, sN, sN, sN, iV o.freq, iV o.d, iV 0, iV o.interval, iV o.wkst, iV o.count, iV (until0 o), iV (until1 o), .slice x.p9 (o.setpos).length x.c9, .slice x.pm (bX o).length x.cm, .slice x.q48 (gC (bL o)).length x.e48, .slice x.q49 (gB (bL o)).length x.e49, .slice x.p12 (o.yday).length x.c12, .slice x.p13 (o.weekno).length x.c13, .slice x.q52 (((bU o).filter (cP o.freq)).map Prod.fst).length x.e52, .slice x.q53 ((bU o).filter fun y => !cP o.freq y).length x.e53, .slice x.q54 (cL o).length x.e54, .slice x.q55 (bA o).length x.e55, sN, .slice x.p18 (o.easter).length x.c18, sN, iV 0]
def rcG (o : Opn) (x : Av) : List Value := [iV o.freq, iV o.d, iV 0, iV o.interval, iV o.wkst, iV 0, iV o.count, iV o.u, iV 0, .slice x.p9 (o.setpos).length x.c9, .slice x.p10 (o.month).length x.c10, .slice x.p11 (o.mday).length x.c11, .slice x.p12 (o.yday).length x.c12, .slice x.p13 (o.weekno).length x.c13, .slice x.p14 (o.wday).length x.c14, .slice x.p15 (o.hour).length x.c15, .slice x.p16 (o.minute).length x.c16, .slice x.p17 (o.second).length x.c17, .slice x.p18 (o.easter).length x.c18, iV 0, iV 0, iV 0, iV 0, iV 0, iV 0, iV 0, iV 0, iV 0, sN, sN, sN, sN, sN, sN, sN, sN, sN, sN, iV o.freq, iV o.d, iV 0, iV o.interval, iV o.wkst, iV o.count, iV (until0 o), iV (until1 o), .slice x.p9 (o.setpos).length x.c9, .slice x.pm (bX o).length x.cm, .slice x.q48 (gC (bL o)).length x.e48, .slice x.q49 (gB (bL o)).length x.e49, .slice x.p12 (o.yday).length x.c12, .slice x.p13 (o.weekno).length x.c13, .slice x.q52 (((bU o).filter (cP o.freq)).map Prod.fst).length x.e52, .slice x.q53 ((bU o).filter fun y => !cP o.freq y).length x.e53, .slice x.q54 (cL o).length x.e54, .slice x.q55 (bA o).length x.e55, .slice x.q56 (bI o).length x.e56, .slice x.p18 (o.easter).length x.c18, sN, iV 0]
def rcI (o : Opn) (x : Av) : List Value := [iV o.freq, iV o.d, iV 0, iV o.interval, iV o.wkst, iV 0, iV o.count, iV o.u, iV 0, .slice x.p9 (o.setpos).length x.c9, .slice x.p10 (o.month).length x.c10, .slice x.p11 (o.mday).length x.c11, .slice x.p12 (o.yday).length x.c12, .slice x.p13 (o.weekno).length x.c13, .slice x.p14 (o.wday).length x.c14, .slice x.p15 (o.hour).length x.c15, .slice x.p16 (o.minute).length x.c16, .slice x.p17 (o.second).length x.c17, .slice x.p18 (o.easter).length x.c18, iV 0, iV 0, iV 0, iV 0, iV 0, iV 0, iV 0, iV 0, iV 0, sN, sN, sN, sN, sN, sN, sN, sN, sN, sN, iV o.freq, iV o.d, iV 0, iV o.interval, iV o.wkst, iV o.count, iV (until0 o), iV (until1 o), .slice x.p9 (o.setpos).length x.c9, .slice x.pm (bX o).length x.cm, .slice x.q48 (gC (bL o)).length x.e48, .slice x.q49 (gB (bL o)).length x.e49, .slice x.p12 (o.yday).length x.c12, .slice x.p13 (o.weekno).length x.c13, .slice x.q52 (((bU o).filter (cP o.freq)).map Prod.fst).length x.e52, .slice x.q53 ((bU o).filter fun y => !cP o.freq y).length x.e53, .slice x.q54 (cL o).length x.e54, .slice x.q55 (bA o).length x.e55, .slice x.q56 (bI o).length x.e56, .slice x.p18 (o.easter).length x.c18, .slice x.tp (lW o).length x.tc, iV 0]
def iY (o : Opn) (x : Av) : List Value := [iV o.freq, iV o.d, iV 0, iV o.interval, iV o.wkst, iV 0, iV o.count, iV o.u, iV 0, .slice x.p9 (o.setpos).length x.c9, .slice x.p10 (o.month).length x.c10, .slice x.p11 (o.mday).length x.c11, .slice x.p12 (o.yday).length x.c12, .slice x.p13 (o.weekno).length x.c13, .slice x.p14 (o.wday).length x.c14, .slice x.p15 (o.hour).length x.c15, .slice x.p16 (o.minute).length x.c16, .slice x.p17 (o.second).length x.c17, .slice x.p18 (o.easter).length x.c18, iV o.freq, iV o.d, iV 0, iV o.interval, iV o.wkst, iV 0, iV o.count, iV o.u, iV 0, .slice x.p9 (o.setpos).length x.c9, .slice x.pm (bX o).length x.cm, .slice x.pd (bL o).length x.cd, .slice x.p12 (o.yday).length x.c12, .slice x.p13 (o.weekno).length x.c13, .slice x.pw (bU o).length x.cw, .slice x.p15 (o.hour).length x.c15, .slice x.p16 (o.minute).length x.c16, .slice x.p17 (o.second).length x.c17, .slice x.p18 (o.easter).length x.c18, iV o.freq, iV o.d, iV 0, iV o.interval, iV o.wkst, iV o.count, iV (until0 o), iV (until1 o), .slice x.p9 (o.setpos).length x.c9, .slice x.pm (bX o).length x.cm, .slice x.q48 (gC (bL o)).length x.e48, .slice x.q49 (gB (bL o)).length x.e49, .slice x.p12 (o.yday).length x.c12, .slice x.p13 (o.weekno).length x.c13, .slice x.q52 (((bU o).filter (cP o.freq)).map Prod.fst).length x.e52, .slice x.q53 ((bU o).filter fun y => !cP o.freq y).length x.e53, .slice x.q54 (cL o).length x.e54, .slice x.q55 (bA o).length x.e55, .slice x.q56 (bI o).length x.e56, .slice x.p18 (o.easter).length x.c18, .slice x.tp (lW o).length x.tc, iV 0]
structure Bs (F : Nat → Prop) (w0 : World) (B : LN) (H0 : LV) (S0 : LS) (b1 b2 b3 : Nat) (ocs rcs : List Value) (H : LV) (S : LS) : Prop where
 ho : cellsAt 50 H 0 ocs
 hc : cellsAt 52 H 0 rcs
 h2 : knwn 51 H 0 60 = true
 lim : Lim 53 ((52, b3) :: (51, b2) :: (50, b1) :: B) H S
 limB : Lim 40 B H0 S0
 frH : ∀ k, k < 40 → ∀ o, o < 4096 → lkp (ky k o) H = lkp (ky k o) H0
 frS : ∀ k, k < 53 → ¬(k = 2 ∨ (12 ≤ k ∧ k ≤ 25)) → lkp k S = lkp k S0
structure OpOk (o : Opn) : Prop where
 freq : 0 ≤ o.freq ∧ o.freq ≤ 6
 d : 1 ≤ o.d ∧ o.d ≤ 400000000000
 interval : 1 ≤ o.interval ∧ o.interval ≤ 1000
 count : 0 ≤ o.count ∧ o.count ≤ 1000000000
 u : 0 ≤ o.u ∧ o.u ≤ 400000000000
 mday : o.mday.length ≤ 1000
 wday : o.wday.length ≤ 1000
 hour : o.hour.length ≤ 400
 minute : o.minute.length ≤ 400
 second : o.second.length ≤ 400
 hours : ∀ x ∈ o.hour, 0 ≤ x ∧ x ≤ 23
 minutes : ∀ x ∈ o.minute, 0 ≤ x ∧ x ≤ 59
 seconds : ∀ x ∈ o.second, 0 ≤ x ∧ x ≤ 59
structure OutF (F : Nat → Prop) (w0 : World) (o : Opn) (x : Av) (S0 S : LS) : Prop where
 s9 : SrcT F w0 S 11 (.slice x.p9 (o.setpos).length x.c9) o.setpos
 sm : SrcT F w0 S 16 (.slice x.pm (bX o).length x.cm) (bX o)
 s12 : SrcT F w0 S 11 (.slice x.p12 (o.yday).length x.c12) o.yday
 s13 : SrcT F w0 S 11 (.slice x.p13 (o.weekno).length x.c13) o.weekno
 s18 : SrcT F w0 S 11 (.slice x.p18 (o.easter).length x.c18) o.easter
 r12 : lkp 12 S = some ⟨.slice x.q48 (gC (bL o)).length x.e48, 3, 1, (gC (bL o)).length, (gC (bL o)).map iV⟩
 r13 : lkp 13 S = some ⟨.slice x.q49 (gB (bL o)).length x.e49, 3, 1, (gB (bL o)).length, (gB (bL o)).map iV⟩
 r14 : lkp 14 S = some ⟨.slice x.q52 (((bU o).filter (cP o.freq)).map Prod.fst).length x.e52, 3, 1, (((bU o).filter (cP o.freq)).map Prod.fst).length, (((bU o).filter (cP o.freq)).map Prod.fst).map iV⟩
 sh : SrcT F w0 S 18 (.slice x.q54 (cL o).length x.e54) (cL o)
 si : SrcT F w0 S 19 (.slice x.q55 (bA o).length x.e55) (bA o)
 ss : SrcT F w0 S 20 (.slice x.q56 (bI o).length x.e56) (bI o)
 r2 : o.freq < 4 → lkp 2 S = some ⟨.slice x.tp (lW o).length x.tc, 57, 2, (lW o).length, bN (lW o)⟩
 fr : ∀ k, k < 53 → ¬(k = 2 ∨ (12 ≤ k ∧ k ≤ 25)) → lkp k S = lkp k S0
 lim : ∀ k, 53 ≤ k → lkp k S = none
def Knw (H' H : LV) : Prop := ∀ q, (lkp q H).isSome = true → (lkp q H').isSome = true
theorem Knw.refl (H : LV) : Knw H H := fun _ h => h
theorem Knw.cons {H' H : LV} {q : Nat} {v : Value} (h : Knw H' H) : Knw ((q, v) :: H') H := fun k hk => by
 by_cases e : k = q
 ·subst e; rw [bQ]; rfl
 ·rw [aA e]; exact h k hk
theorem cG {H' H : LV} (h : Knw H' H) {j : Nat} : ∀ {n o : Nat}, knwn j H o n = true → knwn j H' o n = true
 | 0, _, _ => rfl
 | n + 1, o, hk => by
  simp only [knwn, Bool.and_eq_true] at hk ⊢
  exact ⟨h _ hk.1, cG h hk.2⟩
theorem Knw.seq {H : LV} {j : Nat} : ∀ (cs : List Value) (o : Nat) {H' : LV}, Knw H' H → Knw (cX j o cs H') H
 | [], _, _, h => h
 | v :: r, o, _, h => Knw.seq r (o + 1) h.cons
theorem dV {j : Nat} {H : LV} : ∀ {cs : List Value} {o : Nat}, cellsAt j H o cs → ∀ (a n : Nat), a + n ≤ cs.length → knwn j H (o + a) n = true
 | cs, o, h, a, 0, hl => rfl
 | cs, o, h, a, n + 1, hl => by
  have h1 := h.get a _ (List.getElem?_eq_getElem oM)
  simp only [knwn, h1, Option.isSome_some, Bool.true_and]
  exact dV h (a + 1) n oM
theorem fH {j : Nat} : ∀ (cs : List Value) (o q : Nat) {H : LV}, q < o → o + cs.length ≤ 4096 → lkp (ky j q) (cX j o cs H) = lkp (ky j q) H
 | [], _, _, _, _, _ => rfl
 | v :: r, o, q, H, hq, hl => by
  simp only [List.length_cons] at hl
  show lkp (ky j q) (cX j (o + 1) r ((ky j o, v) :: H)) = _
  rw [fH r (o + 1) q oM oM, aA (by unfold ky; omega)]
theorem aN {j : Nat} : ∀ (cs : List Value) (o : Nat) {H : LV}, o + cs.length ≤ 4096 → ∀ (i : Nat) (v : Value), cs[i]? = some v → lkp (ky j (o + i)) (cX j o cs H) = some v
 | [], _, _, _, i, v, h => by simp at h
 | u :: r, o, H, hl, 0, v, h => by
  cases h
  simp only [List.length_cons] at hl
  show lkp (ky j (o + 0)) (cX j (o + 1) r ((ky j o, u) :: H)) = _
  rw [Nat.add_zero, fH r (o + 1) o oM oM, bQ]
 | u :: r, o, H, hl, i + 1, v, h => by
  simp only [List.length_cons] at hl
  show lkp (ky j (o + (i + 1))) (cX j (o + 1) r ((ky j o, u) :: H)) = _
  have := aN (j := j) r (o + 1) (H := (ky j o, u) :: H) oM i v (by simpa using h)
  rwa [show o + 1 + i = o + (i + 1) by omega] at this
theorem Sees.back3 {b1 b2 b3 : Nat} {H0 : LV} {S0 : LS} {w : World} (s : Sees F w0 ((52, b3) :: (51, b2) :: (50, b1) :: B) H S w) (hl : Lim 40 B H0 S0) (hfr : ∀ k, k < 40 → ∀ o, o < 4096 → lkp (ky k o) H = lkp (ky k o) H0) : Sees F w0 B H0 S w :=
 s.to (fun k b h => by
  have hk : k < 40 := by
   rcases Nat.lt_or_ge k 40 with h' | h'
   ·exact h'
   ·rw [hl.b k h'] at h; cases h
  rw [aA oM, aA oM, aA oM]; exact h) (fun k o v ho h => by
  have hk : k < 40 := by
   rcases Nat.lt_or_ge k 40 with h' | h'
   ·exact h'
   ·rw [hl.h k h' o ho] at h; cases h
  have h1 := (hfr k hk o ho).trans h
  obtain ⟨b, e, _⟩ := s.cells k o v ho h1
  rw [aA oM, aA oM, aA oM] at e
  exact ⟨h1, by rw [e]; rfl⟩) (fun k q h => h)
theorem vU {o : Opn} (ok : OpOk o) : ∀ x ∈ cL o, 0 ≤ x ∧ x ≤ 23 := by
 have hd := ok.d
 intro x hx
 unfold cL at hx
 split at hx
 ·split at hx
  ·simp at hx; omega
  ·simp at hx
 ·exact ok.hours x hx
theorem rS {o : Opn} (ok : OpOk o) : ∀ x ∈ bA o, 0 ≤ x ∧ x ≤ 59 := by
 have hd := ok.d
 intro x hx
 unfold bA at hx
 split at hx
 ·split at hx
  ·simp at hx; omega
  ·simp at hx
 ·exact ok.minutes x hx
theorem rL {o : Opn} (ok : OpOk o) : ∀ x ∈ bI o, 0 ≤ x ∧ x ≤ 59 := by
 have hd := ok.d
 intro x hx
 unfold bI at hx
 split at hx
 ·split at hx
  ·simp at hx; omega
  ·simp at hx
 ·exact ok.seconds x hx
theorem aDf {o : Opn} (ok : OpOk o) : (cL o).length ≤ 400 := by
 unfold cL; split
 ·split <;> simp
 ·exact ok.hour
theorem yZ {o : Opn} (ok : OpOk o) : (bA o).length ≤ 400 := by
 unfold bA; split
 ·split <;> simp
 ·exact ok.minute
theorem yF {o : Opn} (ok : OpOk o) : (bI o).length ≤ 400 := by
 unfold bI; split
 ·split <;> simp
 ·exact ok.second
def j5 (F : Nat → Prop) (w0 : World) (ts : List Int) : Prop := ∀ (B : LN) (H : LV) (S : LS) (p : Option Addr) (c : Nat) (w : World), Lim 60 B H S → lkp 2 S = some ⟨.slice p ts.length c, 57, 2, ts.length, bN ts⟩ → Sees F w0 B H S w →
 Calls Tryz.prog 77 #[.iface 122 (.slice p ts.length c)] w fun e w' => e = .returned (.tuple #[]) ∧ Sees F w0 B H ((2, ⟨.slice p ts.length c, 57, 2, ts.length, bN (dW ts)⟩) :: S) w'
theorem bu_J {R : Ending → World → Prop} {o : Opn} {x : Av} {b1 b2 b3 : Nat} {H0 : LV} {S0 : LS} (ok : OpOk o) (hsort : o.freq < 4 → j5 F w0 (raw o)) (bs : Bs F w0 B H0 S0 b1 b2 b3 (oc1 o x) (rcI o x) H S) (s9 : SrcT F w0 S 11 (.slice x.p9 (o.setpos).length x.c9) o.setpos) (sm : SrcT F w0 S 16 (.slice x.pm (bX o).length x.cm) (bX o)) (s12 : SrcT F w0 S 11 (.slice x.p12 (o.yday).length x.c12) o.yday) (s13 : SrcT F w0 S 11 (.slice x.p13 (o.weekno).length x.c13) o.weekno) (s18 : SrcT F w0 S 11 (.slice x.p18 (o.easter).length x.c18) o.easter) (r12 : lkp 12 S = some ⟨.slice x.q48 (gC (bL o)).length x.e48, 3, 1, (gC (bL o)).length, (gC (bL o)).map iV⟩) (r13 : lkp 13 S = some ⟨.slice x.q49 (gB (bL o)).length x.e49, 3, 1, (gB (bL o)).length, (gB (bL o)).map iV⟩) (r14 : lkp 14 S = some ⟨.slice x.q52 (((bU o).filter (cP o.freq)).map Prod.fst).length x.e52, 3, 1, (((bU o).filter (cP o.freq)).map Prod.fst).length, (((bU o).filter (cP o.freq)).map Prod.fst).map iV⟩) (sh : SrcT F w0 S 18 (.slice x.q54 (cL o).length x.e54) (cL o)) (si : SrcT F w0 S 19 (.slice x.q55 (bA o).length x.e55) (bA o)) (ss : SrcT F w0 S 20 (.slice x.q56 (bI o).length x.e56) (bI o)) (r2 : o.freq < 4 → lkp 2 S = some ⟨.slice x.tp (lW o).length x.tc, 57, 2, (lW o).length, bN (lW o)⟩)  (hR : ∀ (x : Av) (S' : LS), OutF F w0 o x S0 S' → ∀ w, Sees F w0 B H0 S' w → R (.returned (.agg (iY o x).toArray)) w) : GC Tryz.prog (Go.Fr.part [1, 1, 1, 1, 1, 1, 1, 1, 1, 1, 1, 1, 1, 1, 1, 1, 1, 1, 1, 1, 1, 1, 1, 1, 1, 1] (Go.Fr.bodyOf Tryz.f43)) (bodyPost Tryz.prog Tryz.f43 R) 300 [(1, pT b1), (2, pT b2), (3, pT b3)] F w0 ((52, b3) :: (51, b2) :: (50, b1) :: B) H S := by
 have ok_ := ok
 refine g2 ?_
 refine rl ((dP 50 (cs := oc1 o x) rfl rfl bs.ho.get ble kR)) ?_
 refine rl (rfa 19) ?_
 refine gL (cA 52 (cs := (oc1 o x).toArray) rfl rfl rfl (dV bs.hc 19 19 ble) kR rfl ble ?_)
 refine g4 ?_
 have hcJ : cellsAt 52 (cX 52 19 (oc1 o x) H) 0 (iY o x) := (cC (bs.hc.get 0 _ rfl) (cC (bs.hc.get 1 _ rfl) (cC (bs.hc.get 2 _ rfl) (cC (bs.hc.get 3 _ rfl) (cC (bs.hc.get 4 _ rfl) (cC (bs.hc.get 5 _ rfl) (cC (bs.hc.get 6 _ rfl) (cC (bs.hc.get 7 _ rfl) (cC (bs.hc.get 8 _ rfl) (cC (bs.hc.get 9 _ rfl) (cC (bs.hc.get 10 _ rfl) (cC (bs.hc.get 11 _ rfl) (cC (bs.hc.get 12 _ rfl) (cC (bs.hc.get 13 _ rfl) (cC (bs.hc.get 14 _ rfl) (cC (bs.hc.get 15 _ rfl) (cC (bs.hc.get 16 _ rfl) (cC (bs.hc.get 17 _ rfl) (cC (bs.hc.get 18 _ rfl) (cC rfl (cC rfl (cC rfl (cC rfl (cC rfl (cC rfl (cC rfl (cC rfl (cC rfl (cC rfl (cC rfl (cC rfl (cC rfl (cC rfl (cC rfl (cC rfl (cC rfl (cC rfl (cC rfl (cC (bs.hc.get 38 _ rfl) (cC (bs.hc.get 39 _ rfl) (cC (bs.hc.get 40 _ rfl) (cC (bs.hc.get 41 _ rfl) (cC (bs.hc.get 42 _ rfl) (cC (bs.hc.get 43 _ rfl) (cC (bs.hc.get 44 _ rfl) (cC (bs.hc.get 45 _ rfl) (cC (bs.hc.get 46 _ rfl) (cC (bs.hc.get 47 _ rfl) (cC (bs.hc.get 48 _ rfl) (cC (bs.hc.get 49 _ rfl) (cC (bs.hc.get 50 _ rfl) (cC (bs.hc.get 51 _ rfl) (cC (bs.hc.get 52 _ rfl) (cC (bs.hc.get 53 _ rfl) (cC (bs.hc.get 54 _ rfl) (cC (bs.hc.get 55 _ rfl) (cC (bs.hc.get 56 _ rfl) (cC (bs.hc.get 57 _ rfl) (cC (bs.hc.get 58 _ rfl) (cC (bs.hc.get 59 _ rfl) cN))))))))))))))))))))))))))))))))))))))))))))))))))))))))))))
 refine aB1 (fun a k => k) (fun w s => s) (H' := (cX 52 19 (oc1 o x) H)) ?_
 refine rl ((dP 52 (cs := iY o x) rfl rfl hcJ.get ble kR)) ?_
 refine gL (cA 51 (cs := (iY o x).toArray) rfl rfl rfl (cG (Knw.seq _ _ (Knw.refl _)) bs.h2) kR rfl ble ?_)
 refine g3 ?_
 refine aT (.inl rfl) rfl (jX 51 (cs := iY o x) rfl rfl (fun i v h => by have := aN (j := 51) (iY o x) 0 (H := (cX 52 19 (oc1 o x) H)) ble i v h; rwa [Nat.zero_add] at this) ble kR) fun w s => ?_
 refine hR x S ⟨s9, sm, s12, s13, s18, r12, r13, r14, sh, si, ss, r2, bs.frS, bs.lim.s⟩ w (Sees.back3 s bs.limB (fun k hk o_ ho_ => ?_))
 exact (cT oM ho_ _ _ ble).trans ((cT oM ho_ _ _ ble).trans (bs.frH k hk o_ ho_))
theorem aHw {R : Ending → World → Prop} {o : Opn} {x : Av} {b1 b2 b3 : Nat} {H0 : LV} {S0 : LS} (ok : OpOk o) (hsort : o.freq < 4 → j5 F w0 (raw o)) (bs : Bs F w0 B H0 S0 b1 b2 b3 (oc1 o x) (rcG o x) H S) (s9 : SrcT F w0 S 11 (.slice x.p9 (o.setpos).length x.c9) o.setpos) (sm : SrcT F w0 S 16 (.slice x.pm (bX o).length x.cm) (bX o)) (s12 : SrcT F w0 S 11 (.slice x.p12 (o.yday).length x.c12) o.yday) (s13 : SrcT F w0 S 11 (.slice x.p13 (o.weekno).length x.c13) o.weekno) (s18 : SrcT F w0 S 11 (.slice x.p18 (o.easter).length x.c18) o.easter) (r12 : lkp 12 S = some ⟨.slice x.q48 (gC (bL o)).length x.e48, 3, 1, (gC (bL o)).length, (gC (bL o)).map iV⟩) (r13 : lkp 13 S = some ⟨.slice x.q49 (gB (bL o)).length x.e49, 3, 1, (gB (bL o)).length, (gB (bL o)).map iV⟩) (r14 : lkp 14 S = some ⟨.slice x.q52 (((bU o).filter (cP o.freq)).map Prod.fst).length x.e52, 3, 1, (((bU o).filter (cP o.freq)).map Prod.fst).length, (((bU o).filter (cP o.freq)).map Prod.fst).map iV⟩) (sh : SrcT F w0 S 18 (.slice x.q54 (cL o).length x.e54) (cL o)) (si : SrcT F w0 S 19 (.slice x.q55 (bA o).length x.e55) (bA o)) (ss : SrcT F w0 S 20 (.slice x.q56 (bI o).length x.e56) (bI o))  (hR : ∀ (x : Av) (S' : LS), OutF F w0 o x S0 S' → ∀ w, Sees F w0 B H0 S' w → R (.returned (.agg (iY o x).toArray)) w) : GC Tryz.prog (Go.Fr.part [1, 1, 1, 1, 1, 1, 1, 1, 1, 1, 1, 1, 1, 1, 1, 1, 1, 1, 1, 1, 1, 1, 1, 1] (Go.Fr.bodyOf Tryz.f43)) (bodyPost Tryz.prog Tryz.f43 R) 300 [(1, pT b1), (2, pT b2), (3, pT b3)] F w0 ((52, b3) :: (51, b2) :: (50, b1) :: B) H S := by
 have ok_ := ok
 have la := aDf ok
 have lb := yZ ok
 have lc := yF ok
 have hm1 : (((cL o).length : Nat) : Int) * (((bA o).length : Nat) : Int) = (((cL o).length * (bA o).length : Nat) : Int) := by rw [Int.natCast_mul]
 have hm2 : (((cL o).length * (bA o).length : Nat) : Int) * (((bI o).length : Nat) : Int) = (((cL o).length * (bA o).length * (bI o).length : Nat) : Int) := by rw [Int.natCast_mul (_ * _)]
 have hP1 : (cL o).length * (bA o).length ≤ 400 * 400 := Nat.mul_le_mul la lb
 have hP2 : (cL o).length * (bA o).length * (bI o).length ≤ 400 * 400 * 400 := Nat.mul_le_mul hP1 lc
 have hP3 : (bA o).length * (bI o).length ≤ 400 * 400 := Nat.mul_le_mul lb lc
 have hP4 : (cL o).length * ((bA o).length * (bI o).length) ≤ 400 * (400 * 400) := Nat.mul_le_mul la hP3
 refine g2 ?_
 refine rl (rfa 58) ?_
 refine gL (cR 52 rfl rfl rfl (bs.hc.get 58 _ rfl) kR rfl dE ?_)
 refine g5 ?_
 refine rl (rfa 38) ?_
 refine rZ3 (bE 52 rfl rfl (bs.hc.get 38 _ rfl) kR dE) ?_
 refine aB rfl (fun hc1 => ?_) (fun hc2 => ?_)
 ·have hf4 : o.freq < 4 := oT hc1
  refine g2 ?_
  refine rl (rfa 54) ?_
  refine rZ1 (bE 52 rfl rfl (bs.hc.get 54 _ rfl) kR dE) ?_
  refine rl (rfa 55) ?_
  refine rZ1 (bE 52 rfl rfl (bs.hc.get 55 _ rfl) kR dE) ?_
  refine rl ((w6 rfl rfl (by rw [hm1]; omega)).to (congrArg (Value.int .i64) hm1)) ?_
  refine rl (rfa 56) ?_
  refine rZ1 (bE 52 rfl rfl (bs.hc.get 56 _ rfl) kR dE) ?_
  refine rl ((w6 rfl rfl (by rw [hm2]; omega)).to (congrArg (Value.int .i64) hm2)) ?_
  refine gL (uA 2 (e := 57) (sz := 2) (by_ := 16) (zs := [iV 0, iV 0]) (c := (cL o).length * (bA o).length * (bI o).length) dE kR rfl rfl oM oM (fun bm => ?_))
  refine rl (rfa 58) ?_
  refine gL (sto 52 rfl rfl rfl rfl ?_)
  refine g5 ?_
  refine rl (rfa 54) ?_
  refine rZ5 (bE 52 rfl rfl (bs.hc.get 54 _ rfl) kR dE) ?_
  refine bJ (ι := (Nat) × (Option Addr) × (Nat) × (Nat) × (List Value) × (List Int)) (fun | ⟨i, q, e, n, xs, l⟩ => (cL o).length - i) (fun | ⟨i, q, e, n, xs, l⟩ => (i ≤ (cL o).length) ∧ (l = ((cL o).take i).flatMap (fun h => (bA o).flatMap fun m => (bI o).map fun s => h * 3600 + m * 60 + s)) ∧ (n = l.length) ∧ (xs = bN l) ∧ (n ≤ i * ((bA o).length * (bI o).length))) (fun | ⟨i, q, e, n, xs, l⟩ => [(1, pT b1), (2, pT b2), (3, pT b3), (258, .slice x.q54 (cL o).length x.e54), (259, iV ((cL o).length)), (260, iV i)]) (fun | ⟨i, q, e, n, xs, l⟩ => ((52, b3) :: (51, b2) :: (50, b1) :: B)) (fun | ⟨i, q, e, n, xs, l⟩ => (ky 52 58, .slice q n e) :: H) (fun | ⟨i, q, e, n, xs, l⟩ => (2, ⟨.slice q n e, 57, 2, n, xs⟩) :: S) ⟨0, some ⟨bm, 0, none⟩, (cL o).length * (bA o).length * (bI o).length, 0, [], []⟩ ⟨Nat.zero_le _, rfl, rfl, rfl, Nat.zero_le _⟩ kns (fun w s => by exact s.low 53 (((bs.lim.aJ1 dE dE).aJ2 dE)) agx agx agx) ?_
  rintro ⟨i, q, e, n, xs, l⟩ ⟨hi, hl, hn, hxs, hb⟩
  show GC _ _ _ _ [(1, pT b1), (2, pT b2), (3, pT b3), (258, .slice x.q54 (cL o).length x.e54), (259, iV ((cL o).length)), (260, iV i)] _ _ (((52, b3) :: (51, b2) :: (50, b1) :: B)) ((ky 52 58, .slice q n e) :: H) ((2, ⟨.slice q n e, 57, 2, n, xs⟩) :: S)
  refine g6 ?_
  refine aB rfl (fun hc1 => ?_) (fun hc2 => ?_)
  ·have hlt_i : i < (cL o).length := by have := oT hc1; omega
   obtain ⟨h, hx_h⟩ : ∃ y, (cL o)[i]? = some y := ⟨_, List.getElem?_eq_getElem hlt_i⟩
   refine eA (fun w s => (sh.cons (j := 2) dE).head s oM) fun hh => ?_
   obtain ⟨b_h, o_h, hp_h⟩ := hh
   have src_h := sh
   rw [hp_h] at src_h
   have hiP : i * ((bA o).length * (bI o).length) + (bA o).length * (bI o).length ≤ (cL o).length * ((bA o).length * (bI o).length) := by rw [← Nat.succ_mul]; exact Nat.mul_le_mul_right _ hlt_i
   have hhr := vU ok h (List.mem_of_getElem? hx_h)
   refine g6 ?_
   refine rl (aF (e := 3) (n := 1) kR (congrArg (fun p => some (Value.slice p _ _)) hp_h) rfl oM oM) ?_
   refine rZ5 (fR kR rfl (fun w s => (src_h.cons dE).cell hx_h s)) ?_
   refine rl (rfa 55) ?_
   refine rZ5 (bE 52 rfl rfl (bs.hc.get 55 _ rfl) kR dE) ?_
   refine bJ (ι := (Nat) × (Option Addr) × (Nat) × (Nat) × (List Value) × (List Int)) (fun | ⟨j, q1, e1, n1, xs1, l1⟩ => (bA o).length - j) (fun | ⟨j, q1, e1, n1, xs1, l1⟩ => (j ≤ (bA o).length) ∧ (l1 = l ++ ((bA o).take j).flatMap (fun m => (bI o).map fun s => h * 3600 + m * 60 + s)) ∧ (n1 = l1.length) ∧ (xs1 = bN l1) ∧ (n1 ≤ i * ((bA o).length * (bI o).length) + j * (bI o).length)) (fun | ⟨j, q1, e1, n1, xs1, l1⟩ => [(1, pT b1), (2, pT b2), (3, pT b3), (9, iV h), (258, .slice x.q54 (cL o).length x.e54), (259, iV ((cL o).length)), (260, iV i), (265, .slice x.q55 (bA o).length x.e55), (266, iV ((bA o).length)), (267, iV j)]) (fun | ⟨j, q1, e1, n1, xs1, l1⟩ => ((52, b3) :: (51, b2) :: (50, b1) :: B)) (fun | ⟨j, q1, e1, n1, xs1, l1⟩ => (ky 52 58, .slice q1 n1 e1) :: H) (fun | ⟨j, q1, e1, n1, xs1, l1⟩ => (2, ⟨.slice q1 n1 e1, 57, 2, n1, xs1⟩) :: S) ⟨0, q, e, n, xs, l⟩ ⟨Nat.zero_le _, by simp, hn, hxs, by omega⟩ kns (fun w s => by exact s.low 53 (((bs.lim.aJ1 dE dE).aJ2 dE)) agx agx agx) ?_
   rintro ⟨j, q1, e1, n1, xs1, l1⟩ ⟨hj, hl1, hn1, hxs1, hb1⟩
   show GC _ _ _ _ [(1, pT b1), (2, pT b2), (3, pT b3), (9, iV h), (258, .slice x.q54 (cL o).length x.e54), (259, iV ((cL o).length)), (260, iV i), (265, .slice x.q55 (bA o).length x.e55), (266, iV ((bA o).length)), (267, iV j)] _ _ (((52, b3) :: (51, b2) :: (50, b1) :: B)) ((ky 52 58, .slice q1 n1 e1) :: H) ((2, ⟨.slice q1 n1 e1, 57, 2, n1, xs1⟩) :: S)
   refine g6 ?_
   refine aB rfl (fun hc1 => ?_) (fun hc2 => ?_)
   ·have hlt_j : j < (bA o).length := by have := oT hc1; omega
    obtain ⟨m, hx_m⟩ : ∃ y, (bA o)[j]? = some y := ⟨_, List.getElem?_eq_getElem hlt_j⟩
    refine eA (fun w s => (si.cons (j := 2) dE).head s oM) fun hh => ?_
    obtain ⟨b_m, o_m, hp_m⟩ := hh
    have src_m := si
    rw [hp_m] at src_m
    have hjP : j * (bI o).length + (bI o).length ≤ (bA o).length * (bI o).length := by rw [← Nat.succ_mul]; exact Nat.mul_le_mul_right _ hlt_j
    have hmr := rS ok m (List.mem_of_getElem? hx_m)
    refine g6 ?_
    refine rl (aF (e := 3) (n := 1) kR (congrArg (fun p => some (Value.slice p _ _)) hp_m) rfl oM oM) ?_
    refine rZ5 (fR kR rfl (fun w s => (src_m.cons dE).cell hx_m s)) ?_
    refine rl (rfa 56) ?_
    refine rZ5 (bE 52 rfl rfl (bs.hc.get 56 _ rfl) kR dE) ?_
    refine bJ (ι := (Nat) × (Option Addr) × (Nat) × (Nat) × (List Value) × (List Int)) (fun | ⟨k, q2, e2, n2, xs2, l2⟩ => (bI o).length - k) (fun | ⟨k, q2, e2, n2, xs2, l2⟩ => (k ≤ (bI o).length) ∧ (l2 = l1 ++ ((bI o).take k).map (fun s => h * 3600 + m * 60 + s)) ∧ (n2 = l2.length) ∧ (xs2 = bN l2) ∧ (n2 ≤ i * ((bA o).length * (bI o).length) + j * (bI o).length + k)) (fun | ⟨k, q2, e2, n2, xs2, l2⟩ => [(1, pT b1), (2, pT b2), (3, pT b3), (9, iV h), (11, iV m), (258, .slice x.q54 (cL o).length x.e54), (259, iV ((cL o).length)), (260, iV i), (265, .slice x.q55 (bA o).length x.e55), (266, iV ((bA o).length)), (267, iV j), (272, .slice x.q56 (bI o).length x.e56), (273, iV ((bI o).length)), (274, iV k)]) (fun | ⟨k, q2, e2, n2, xs2, l2⟩ => ((52, b3) :: (51, b2) :: (50, b1) :: B)) (fun | ⟨k, q2, e2, n2, xs2, l2⟩ => (ky 52 58, .slice q2 n2 e2) :: H) (fun | ⟨k, q2, e2, n2, xs2, l2⟩ => (2, ⟨.slice q2 n2 e2, 57, 2, n2, xs2⟩) :: S) ⟨0, q1, e1, n1, xs1, l1⟩ ⟨Nat.zero_le _, by simp, hn1, hxs1, by omega⟩ kns (fun w s => by exact s.low 53 (((bs.lim.aJ1 dE dE).aJ2 dE)) agx agx agx) ?_
    rintro ⟨k, q2, e2, n2, xs2, l2⟩ ⟨hk, hl2, hn2, hxs2, hb2⟩
    show GC _ _ _ _ [(1, pT b1), (2, pT b2), (3, pT b3), (9, iV h), (11, iV m), (258, .slice x.q54 (cL o).length x.e54), (259, iV ((cL o).length)), (260, iV i), (265, .slice x.q55 (bA o).length x.e55), (266, iV ((bA o).length)), (267, iV j), (272, .slice x.q56 (bI o).length x.e56), (273, iV ((bI o).length)), (274, iV k)] _ _ (((52, b3) :: (51, b2) :: (50, b1) :: B)) ((ky 52 58, .slice q2 n2 e2) :: H) ((2, ⟨.slice q2 n2 e2, 57, 2, n2, xs2⟩) :: S)
    refine g6 ?_
    refine aB rfl (fun hc1 => ?_) (fun hc2 => ?_)
    ·have hlt_k : k < (bI o).length := by have := oT hc1; omega
     obtain ⟨sc, hx_sc⟩ : ∃ y, (bI o)[k]? = some y := ⟨_, List.getElem?_eq_getElem hlt_k⟩
     refine eA (fun w s => (ss.cons (j := 2) dE).head s oM) fun hh => ?_
     obtain ⟨b_sc, o_sc, hp_sc⟩ := hh
     have src_sc := ss
     rw [hp_sc] at src_sc
     have hsr := rL ok sc (List.mem_of_getElem? hx_sc)
     refine g6 ?_
     refine rl (aF (e := 3) (n := 1) kR (congrArg (fun p => some (Value.slice p _ _)) hp_sc) rfl oM oM) ?_
     refine rZ3 (fR kR rfl (fun w s => (src_sc.cons dE).cell hx_sc s)) ?_
     refine jJ (fun i => i == 12) kR ?_
     refine gr 0 rfl (rfa 58) ?_
     refine gr 1 rfl (rld 52 rfl rfl rfl) ?_
     refine gr 2 rfl (bD rfl) ?_
     refine gr 3 rfl (bD rfl) ?_
     refine gr 4 rfl (bD rfl) ?_
     refine gr 5 rfl (rfa 39) ?_
     refine gr 6 rfl (aV 52 rfl rfl (bs.hc.get 39 _ rfl) (bs.hc.get 40 _ rfl) kR dE) ?_
     refine gn 7 rfl (cvo rfl (fun w_ s_ => dN _ _ w_) (gk ?_))
     refine gn 8 rfl (cvo (v := .agg #[iV (h * 3600 + m * 60 + sc), iV 0]) rfl (fun w_ s_ => (cY 1 1 1 _ _ _ 0 oM oM oM oM oM oM oM w_).mono fun e_ w2_ h_ => ⟨h_.1.trans (congrArg Ending.returned (by rw [show Cal.dayNo 1 1 1 = 0 from rfl, show (0 : Int) * 86400 + h * 3600 + m * 60 + sc = h * 3600 + m * 60 + sc by omega])), h_.2⟩) (gk ?_))
     refine gn 9 rfl (lU 60 (e := 57) (sz := 2) (by_ := 16) (zs := [iV 0, iV 0]) dE kR rfl dE dE rfl rfl rfl (bs.lim.s 60 dE) (fun bo => gk ?_))
     refine gn 10 rfl (cU 2 60 (e := 57) (sz := 2) (by_ := 16) (zs := [iV 0, iV 0]) dE kR rfl dE rfl rfl rfl rfl ⟨rfl, rfl⟩ ⟨rfl, rfl⟩ xA sO sO (fun q3 e3 => gk ?_))
     refine gn 11 rfl (fU dE (rfa 58) (gk ?_))
     refine gn 12 rfl (sto 52 rfl rfl rfl rfl (gk ?_))
     refine eE kR ?_
     refine g6 ?_
     refine aQ ⟨k + 1, q3, e3, n2 + 1, xs2 ++ [iV (h * 3600 + m * 60 + sc), iV 0], l2 ++ [h * 3600 + m * 60 + sc]⟩ sO ⟨by omega, by rw [hl2, List.take_add_one, hx_sc]; simp only [Option.toList_some, List.map_append, List.map_cons, List.map_nil, List.append_assoc], by rw [List.length_append, hn2]; rfl, by rw [hxs2]; exact eM _ _, by omega⟩ kns (fun w s => by exact s.low 53 (((bs.lim.aJ1 dE dE).aJ2 dE)) agx agx agx)
    ·have hge_k : ¬ k < (bI o).length := by have := oF hc2; omega
     obtain rfl : k = (bI o).length := by omega
     refine g10 ?_
     refine aQ ⟨j + 1, q2, e2, n2, xs2, l2⟩ sO ⟨by omega, by rw [hl2, hl1, List.take_add_one, hx_m]; simp only [Option.toList_some, List.flatMap_append, List.flatMap_cons, List.flatMap_nil, List.append_nil, List.append_assoc]; rw [List.take_length], hn2, hxs2, by rw [Nat.succ_mul]; omega⟩ kns (fun w s => by exact s.low 53 (((bs.lim.aJ1 dE dE).aJ2 dE)) agx agx agx)
   ·have hge_j : ¬ j < (bA o).length := by have := oF hc2; omega
    obtain rfl : j = (bA o).length := by omega
    refine g10 ?_
    refine aQ ⟨i + 1, q1, e1, n1, xs1, l1⟩ sO ⟨by omega, by rw [hl1, hl, List.take_add_one, hx_h]; simp only [Option.toList_some, List.flatMap_append, List.flatMap_cons, List.flatMap_nil, List.append_nil]; rw [List.take_length], hn1, hxs1, by rw [Nat.succ_mul]; omega⟩ kns (fun w s => by exact s.low 53 (((bs.lim.aJ1 dE dE).aJ2 dE)) agx agx agx)
  ·have hge_i : ¬ i < (cL o).length := by have := oF hc2; omega
   obtain rfl : i = (cL o).length := by omega
   rw [List.take_length] at hl
   have hraw : l = raw o := hl
   subst hraw
   subst hn hxs
   refine g6 ?_
   refine rl (rfa 58) ?_
   refine rl (rld 52 rfl rfl rfl) ?_
   refine rl ((gN (r := .iface 122 (.slice q (raw o).length e)) rfl kW)) ?_
   refine gL (dR (ι := Unit) (fun _ => .tuple #[]) (fun _ => True) (fun _ => _) (fun _ => _) (fun _ => ((2, ⟨.slice q (raw o).length e, 57, 2, (raw o).length, bN (dW (raw o))⟩) :: (2, ⟨.slice q (raw o).length e, 57, 2, (raw o).length, bN (raw o)⟩) :: S)) dE kR rfl (fun w_ s_ => (hsort hf4 _ _ _ q e w_ (((bs.lim.aJ1 dE dE).aJ2 dE).mono dE) rfl s_).mono fun e_ w2_ h_ => ⟨(), trivial, h_.1, h_.2⟩) (fun _ _ => ?_))
   refine g2 ?_
   refine dO (L' := [(1, pT b1), (2, pT b2), (3, pT b3)]) kns (fun w s => s) ?_
   have hts : lW o = dW (raw o) := by unfold lW; rw [if_pos hf4]
   have htl : (lW o).length = (raw o).length := by rw [hts]; exact List.length_mergeSort _
   refine bu_J (x := { x with tp := q, tc := e }) ok hsort (H := (ky 52 58, .slice q (raw o).length e) :: H) (S := ((2, ⟨.slice q (raw o).length e, 57, 2, (raw o).length, bN (dW (raw o))⟩) :: (2, ⟨.slice q (raw o).length e, 57, 2, (raw o).length, bN (raw o)⟩) :: S)) ⟨bs.ho, (cC (bs.hc.get 0 _ rfl) (cC (bs.hc.get 1 _ rfl) (cC (bs.hc.get 2 _ rfl) (cC (bs.hc.get 3 _ rfl) (cC (bs.hc.get 4 _ rfl) (cC (bs.hc.get 5 _ rfl) (cC (bs.hc.get 6 _ rfl) (cC (bs.hc.get 7 _ rfl) (cC (bs.hc.get 8 _ rfl) (cC (bs.hc.get 9 _ rfl) (cC (bs.hc.get 10 _ rfl) (cC (bs.hc.get 11 _ rfl) (cC (bs.hc.get 12 _ rfl) (cC (bs.hc.get 13 _ rfl) (cC (bs.hc.get 14 _ rfl) (cC (bs.hc.get 15 _ rfl) (cC (bs.hc.get 16 _ rfl) (cC (bs.hc.get 17 _ rfl) (cC (bs.hc.get 18 _ rfl) (cC (bs.hc.get 19 _ rfl) (cC (bs.hc.get 20 _ rfl) (cC (bs.hc.get 21 _ rfl) (cC (bs.hc.get 22 _ rfl) (cC (bs.hc.get 23 _ rfl) (cC (bs.hc.get 24 _ rfl) (cC (bs.hc.get 25 _ rfl) (cC (bs.hc.get 26 _ rfl) (cC (bs.hc.get 27 _ rfl) (cC (bs.hc.get 28 _ rfl) (cC (bs.hc.get 29 _ rfl) (cC (bs.hc.get 30 _ rfl) (cC (bs.hc.get 31 _ rfl) (cC (bs.hc.get 32 _ rfl) (cC (bs.hc.get 33 _ rfl) (cC (bs.hc.get 34 _ rfl) (cC (bs.hc.get 35 _ rfl) (cC (bs.hc.get 36 _ rfl) (cC (bs.hc.get 37 _ rfl) (cC (bs.hc.get 38 _ rfl) (cC (bs.hc.get 39 _ rfl) (cC (bs.hc.get 40 _ rfl) (cC (bs.hc.get 41 _ rfl) (cC (bs.hc.get 42 _ rfl) (cC (bs.hc.get 43 _ rfl) (cC (bs.hc.get 44 _ rfl) (cC (bs.hc.get 45 _ rfl) (cC (bs.hc.get 46 _ rfl) (cC (bs.hc.get 47 _ rfl) (cC (bs.hc.get 48 _ rfl) (cC (bs.hc.get 49 _ rfl) (cC (bs.hc.get 50 _ rfl) (cC (bs.hc.get 51 _ rfl) (cC (bs.hc.get 52 _ rfl) (cC (bs.hc.get 53 _ rfl) (cC (bs.hc.get 54 _ rfl) (cC (bs.hc.get 55 _ rfl) (cC (bs.hc.get 56 _ rfl) (cC (bs.hc.get 57 _ rfl) (cC (show lkp (ky 52 58) _ = some (Value.slice q (lW o).length e) from by rw [htl]; rfl) (cC (bs.hc.get 59 _ rfl) cN)))))))))))))))))))))))))))))))))))))))))))))))))))))))))))), (cG kX bs.h2), (lY bs.lim), bs.limB, (fX bs.frH), (fV bs.frS)⟩ ((s9.cons dE).cons dE) ((sm.cons dE).cons dE) ((s12.cons dE).cons dE) ((s13.cons dE).cons dE) ((s18.cons dE).cons dE) r12 r13 r14 ((sh.cons dE).cons dE) ((si.cons dE).cons dE) ((ss.cons dE).cons dE) (fun _ => by rw [hts, show (dW (raw o)).length = (raw o).length from List.length_mergeSort _]; rfl) hR
 ·have hf4 : ¬ o.freq < 4 := oF hc2
  refine g2 ?_
  refine dO (L' := [(1, pT b1), (2, pT b2), (3, pT b3)]) kns (fun w s => s) ?_
  have hts : lW o = [] := by unfold lW; rw [if_neg hf4]
  refine bu_J (x := { x with tp := none, tc := 0 }) ok hsort (H := (ky 52 58, sN) :: H) (S := S) ⟨bs.ho, (cC (bs.hc.get 0 _ rfl) (cC (bs.hc.get 1 _ rfl) (cC (bs.hc.get 2 _ rfl) (cC (bs.hc.get 3 _ rfl) (cC (bs.hc.get 4 _ rfl) (cC (bs.hc.get 5 _ rfl) (cC (bs.hc.get 6 _ rfl) (cC (bs.hc.get 7 _ rfl) (cC (bs.hc.get 8 _ rfl) (cC (bs.hc.get 9 _ rfl) (cC (bs.hc.get 10 _ rfl) (cC (bs.hc.get 11 _ rfl) (cC (bs.hc.get 12 _ rfl) (cC (bs.hc.get 13 _ rfl) (cC (bs.hc.get 14 _ rfl) (cC (bs.hc.get 15 _ rfl) (cC (bs.hc.get 16 _ rfl) (cC (bs.hc.get 17 _ rfl) (cC (bs.hc.get 18 _ rfl) (cC (bs.hc.get 19 _ rfl) (cC (bs.hc.get 20 _ rfl) (cC (bs.hc.get 21 _ rfl) (cC (bs.hc.get 22 _ rfl) (cC (bs.hc.get 23 _ rfl) (cC (bs.hc.get 24 _ rfl) (cC (bs.hc.get 25 _ rfl) (cC (bs.hc.get 26 _ rfl) (cC (bs.hc.get 27 _ rfl) (cC (bs.hc.get 28 _ rfl) (cC (bs.hc.get 29 _ rfl) (cC (bs.hc.get 30 _ rfl) (cC (bs.hc.get 31 _ rfl) (cC (bs.hc.get 32 _ rfl) (cC (bs.hc.get 33 _ rfl) (cC (bs.hc.get 34 _ rfl) (cC (bs.hc.get 35 _ rfl) (cC (bs.hc.get 36 _ rfl) (cC (bs.hc.get 37 _ rfl) (cC (bs.hc.get 38 _ rfl) (cC (bs.hc.get 39 _ rfl) (cC (bs.hc.get 40 _ rfl) (cC (bs.hc.get 41 _ rfl) (cC (bs.hc.get 42 _ rfl) (cC (bs.hc.get 43 _ rfl) (cC (bs.hc.get 44 _ rfl) (cC (bs.hc.get 45 _ rfl) (cC (bs.hc.get 46 _ rfl) (cC (bs.hc.get 47 _ rfl) (cC (bs.hc.get 48 _ rfl) (cC (bs.hc.get 49 _ rfl) (cC (bs.hc.get 50 _ rfl) (cC (bs.hc.get 51 _ rfl) (cC (bs.hc.get 52 _ rfl) (cC (bs.hc.get 53 _ rfl) (cC (bs.hc.get 54 _ rfl) (cC (bs.hc.get 55 _ rfl) (cC (bs.hc.get 56 _ rfl) (cC (bs.hc.get 57 _ rfl) (cC (show lkp (ky 52 58) _ = some (Value.slice none (lW o).length 0) from by rw [hts]; rfl) (cC (bs.hc.get 59 _ rfl) cN)))))))))))))))))))))))))))))))))))))))))))))))))))))))))))), (cG kX bs.h2), (lY bs.lim), bs.limB, (fX bs.frH), (fV bs.frS)⟩ s9 sm s12 s13 s18 r12 r13 r14 sh si ss (fun h => absurd h hf4) hR
theorem aH8 {R : Ending → World → Prop} {o : Opn} {x : Av} {b1 b2 b3 : Nat} {H0 : LV} {S0 : LS} (ok : OpOk o) (hsort : o.freq < 4 → j5 F w0 (raw o)) (bs : Bs F w0 B H0 S0 b1 b2 b3 (oc1 o x) (rcF o x) H S) (s9 : SrcT F w0 S 11 (.slice x.p9 (o.setpos).length x.c9) o.setpos) (sm : SrcT F w0 S 16 (.slice x.pm (bX o).length x.cm) (bX o)) (s12 : SrcT F w0 S 11 (.slice x.p12 (o.yday).length x.c12) o.yday) (s13 : SrcT F w0 S 11 (.slice x.p13 (o.weekno).length x.c13) o.weekno) (s17 : SrcT F w0 S 11 (.slice x.p17 (o.second).length x.c17) o.second) (s18 : SrcT F w0 S 11 (.slice x.p18 (o.easter).length x.c18) o.easter) (r12 : lkp 12 S = some ⟨.slice x.q48 (gC (bL o)).length x.e48, 3, 1, (gC (bL o)).length, (gC (bL o)).map iV⟩) (r13 : lkp 13 S = some ⟨.slice x.q49 (gB (bL o)).length x.e49, 3, 1, (gB (bL o)).length, (gB (bL o)).map iV⟩) (r14 : lkp 14 S = some ⟨.slice x.q52 (((bU o).filter (cP o.freq)).map Prod.fst).length x.e52, 3, 1, (((bU o).filter (cP o.freq)).map Prod.fst).length, (((bU o).filter (cP o.freq)).map Prod.fst).map iV⟩) (sh : SrcT F w0 S 18 (.slice x.q54 (cL o).length x.e54) (cL o)) (si : SrcT F w0 S 19 (.slice x.q55 (bA o).length x.e55) (bA o))  (hR : ∀ (x : Av) (S' : LS), OutF F w0 o x S0 S' → ∀ w, Sees F w0 B H0 S' w → R (.returned (.agg (iY o x).toArray)) w) : GC Tryz.prog (Go.Fr.part [1, 1, 1, 1, 1, 1, 1, 1, 1, 1, 1, 1, 1, 1, 1, 1, 1, 1, 1, 1, 1, 1, 1] (Go.Fr.bodyOf Tryz.f43)) (bodyPost Tryz.prog Tryz.f43 R) 300 [(1, pT b1), (2, pT b2), (3, pT b3)] F w0 ((52, b3) :: (51, b2) :: (50, b1) :: B) H S := by
 have ok_ := ok
 have hd_ := ok.d
 have hfr := ok.freq
 refine g3 ?_
 refine rl (rfa 17) ?_
 refine rZ4 (bE 50 rfl rfl (bs.ho.get 17 _ rfl) kR dE) ?_
 refine aB rfl (fun hc1 => ?_) (fun hc2 => ?_)
 ·have hz : o.second.length = 0 := by have := beq_iff_eq.1 hc1; omega
  refine g2 ?_
  refine rl (rfa 38) ?_
  refine rZ3 (bE 52 rfl rfl (bs.hc.get 38 _ rfl) kR dE) ?_
  refine aB rfl (fun hc1 => ?_) (fun hc2 => ?_)
  ·have hf : o.freq < 6 := oT hc1
   have hh : bI o = [o.d % 86400 % 60] := by unfold bI; rw [if_pos hz, if_pos hf]
   refine g1 ?_
   refine rl (rfa 39) ?_
   refine rl (aV 52 rfl rfl (bs.hc.get 39 _ rfl) (bs.hc.get 40 _ rfl) kR dE) ?_
   refine gL (cvo rfl (fun w_ s_ => xG _ _ oM w_) ?_)
   refine gL (dK 20 (e := 3) (sz := 1) (by_ := 8) (zs := [iV 0]) (cs := [iV (o.d % 86400 % 60)]) dE kR rfl dE dE rfl rfl rfl (fun bo => ?_))
   refine rl (rfa 56) ?_
   refine gL (cR 52 rfl rfl rfl (bs.hc.get 56 _ rfl) kR rfl dE ?_)
   refine g2 ?_
   refine dO (L' := [(1, pT b1), (2, pT b2), (3, pT b3)]) kns (fun w s => s) ?_
   refine aHw (x := { x with q56 := some ⟨bo, 0, none⟩, e56 := 1 }) ok hsort (H := ((ky 52 56, sL bo 1 1) :: H)) (S := ((20, ⟨sL bo 1 1, 3, 1, 1, [iV (o.d % 86400 % 60)]⟩) :: S)) ⟨bs.ho, (cC (bs.hc.get 0 _ rfl) (cC (bs.hc.get 1 _ rfl) (cC (bs.hc.get 2 _ rfl) (cC (bs.hc.get 3 _ rfl) (cC (bs.hc.get 4 _ rfl) (cC (bs.hc.get 5 _ rfl) (cC (bs.hc.get 6 _ rfl) (cC (bs.hc.get 7 _ rfl) (cC (bs.hc.get 8 _ rfl) (cC (bs.hc.get 9 _ rfl) (cC (bs.hc.get 10 _ rfl) (cC (bs.hc.get 11 _ rfl) (cC (bs.hc.get 12 _ rfl) (cC (bs.hc.get 13 _ rfl) (cC (bs.hc.get 14 _ rfl) (cC (bs.hc.get 15 _ rfl) (cC (bs.hc.get 16 _ rfl) (cC (bs.hc.get 17 _ rfl) (cC (bs.hc.get 18 _ rfl) (cC (bs.hc.get 19 _ rfl) (cC (bs.hc.get 20 _ rfl) (cC (bs.hc.get 21 _ rfl) (cC (bs.hc.get 22 _ rfl) (cC (bs.hc.get 23 _ rfl) (cC (bs.hc.get 24 _ rfl) (cC (bs.hc.get 25 _ rfl) (cC (bs.hc.get 26 _ rfl) (cC (bs.hc.get 27 _ rfl) (cC (bs.hc.get 28 _ rfl) (cC (bs.hc.get 29 _ rfl) (cC (bs.hc.get 30 _ rfl) (cC (bs.hc.get 31 _ rfl) (cC (bs.hc.get 32 _ rfl) (cC (bs.hc.get 33 _ rfl) (cC (bs.hc.get 34 _ rfl) (cC (bs.hc.get 35 _ rfl) (cC (bs.hc.get 36 _ rfl) (cC (bs.hc.get 37 _ rfl) (cC (bs.hc.get 38 _ rfl) (cC (bs.hc.get 39 _ rfl) (cC (bs.hc.get 40 _ rfl) (cC (bs.hc.get 41 _ rfl) (cC (bs.hc.get 42 _ rfl) (cC (bs.hc.get 43 _ rfl) (cC (bs.hc.get 44 _ rfl) (cC (bs.hc.get 45 _ rfl) (cC (bs.hc.get 46 _ rfl) (cC (bs.hc.get 47 _ rfl) (cC (bs.hc.get 48 _ rfl) (cC (bs.hc.get 49 _ rfl) (cC (bs.hc.get 50 _ rfl) (cC (bs.hc.get 51 _ rfl) (cC (bs.hc.get 52 _ rfl) (cC (bs.hc.get 53 _ rfl) (cC (bs.hc.get 54 _ rfl) (cC (bs.hc.get 55 _ rfl) (cC (show lkp (ky 52 56) _ = some (sL bo (bI o).length 1) from by rw [hh]; rfl) (cC (bs.hc.get 57 _ rfl) (cC (bs.hc.get 58 _ rfl) (cC (bs.hc.get 59 _ rfl) cN)))))))))))))))))))))))))))))))))))))))))))))))))))))))))))), (cG kX bs.h2), (lY bs.lim), bs.limB, (fX bs.frH), (fV bs.frS)⟩ (s9.cons dE) (sm.cons dE) (s12.cons dE) (s13.cons dE) (s18.cons dE) r12 r13 r14 (sh.cons dE) (si.cons dE) (SrcT.row (e := 3) (by rw [hh]; rfl)) hR
  ·have hf : ¬ o.freq < 6 := oF hc2
   have hh : bI o = [] := by unfold bI; rw [if_pos hz, if_neg hf]
   refine g2 ?_
   refine dO (L' := [(1, pT b1), (2, pT b2), (3, pT b3)]) kns (fun w s => s) ?_
   refine aHw (x := { x with q56 := none, e56 := 0 }) ok hsort (H := H) (S := S) ⟨bs.ho, (cC (bs.hc.get 0 _ rfl) (cC (bs.hc.get 1 _ rfl) (cC (bs.hc.get 2 _ rfl) (cC (bs.hc.get 3 _ rfl) (cC (bs.hc.get 4 _ rfl) (cC (bs.hc.get 5 _ rfl) (cC (bs.hc.get 6 _ rfl) (cC (bs.hc.get 7 _ rfl) (cC (bs.hc.get 8 _ rfl) (cC (bs.hc.get 9 _ rfl) (cC (bs.hc.get 10 _ rfl) (cC (bs.hc.get 11 _ rfl) (cC (bs.hc.get 12 _ rfl) (cC (bs.hc.get 13 _ rfl) (cC (bs.hc.get 14 _ rfl) (cC (bs.hc.get 15 _ rfl) (cC (bs.hc.get 16 _ rfl) (cC (bs.hc.get 17 _ rfl) (cC (bs.hc.get 18 _ rfl) (cC (bs.hc.get 19 _ rfl) (cC (bs.hc.get 20 _ rfl) (cC (bs.hc.get 21 _ rfl) (cC (bs.hc.get 22 _ rfl) (cC (bs.hc.get 23 _ rfl) (cC (bs.hc.get 24 _ rfl) (cC (bs.hc.get 25 _ rfl) (cC (bs.hc.get 26 _ rfl) (cC (bs.hc.get 27 _ rfl) (cC (bs.hc.get 28 _ rfl) (cC (bs.hc.get 29 _ rfl) (cC (bs.hc.get 30 _ rfl) (cC (bs.hc.get 31 _ rfl) (cC (bs.hc.get 32 _ rfl) (cC (bs.hc.get 33 _ rfl) (cC (bs.hc.get 34 _ rfl) (cC (bs.hc.get 35 _ rfl) (cC (bs.hc.get 36 _ rfl) (cC (bs.hc.get 37 _ rfl) (cC (bs.hc.get 38 _ rfl) (cC (bs.hc.get 39 _ rfl) (cC (bs.hc.get 40 _ rfl) (cC (bs.hc.get 41 _ rfl) (cC (bs.hc.get 42 _ rfl) (cC (bs.hc.get 43 _ rfl) (cC (bs.hc.get 44 _ rfl) (cC (bs.hc.get 45 _ rfl) (cC (bs.hc.get 46 _ rfl) (cC (bs.hc.get 47 _ rfl) (cC (bs.hc.get 48 _ rfl) (cC (bs.hc.get 49 _ rfl) (cC (bs.hc.get 50 _ rfl) (cC (bs.hc.get 51 _ rfl) (cC (bs.hc.get 52 _ rfl) (cC (bs.hc.get 53 _ rfl) (cC (bs.hc.get 54 _ rfl) (cC (bs.hc.get 55 _ rfl) (cC (show lkp (ky 52 56) _ = some (Value.slice none (bI o).length 0) from by rw [hh]; exact bs.hc.get 56 _ rfl) (cC (bs.hc.get 57 _ rfl) (cC (bs.hc.get 58 _ rfl) (cC (bs.hc.get 59 _ rfl) cN)))))))))))))))))))))))))))))))))))))))))))))))))))))))))))), (cG kX bs.h2), bs.lim, bs.limB, (fX bs.frH), (fV bs.frS)⟩ s9 sm s12 s13 s18 r12 r13 r14 sh si (by rw [hh]; exact SrcT.nil) hR
 ·have hz : ¬ o.second.length = 0 := by have := beq_eq_false_iff_ne.1 hc2; omega
  have hh : bI o = o.second := by unfold bI; rw [if_neg hz]
  refine g1 ?_
  refine rl (rfa 17) ?_
  refine rl (bE 50 rfl rfl (bs.ho.get 17 _ rfl) kR dE) ?_
  refine rl (rfa 56) ?_
  refine gL (cR 52 rfl rfl rfl (bs.hc.get 56 _ rfl) kR rfl dE ?_)
  refine g2 ?_
  refine dO (L' := [(1, pT b1), (2, pT b2), (3, pT b3)]) kns (fun w s => s) ?_
  refine aHw (x := { x with q56 := x.p17, e56 := x.c17 }) ok hsort (H := ((ky 52 56, .slice x.p17 (o.second).length x.c17) :: H)) (S := S) ⟨bs.ho, (cC (bs.hc.get 0 _ rfl) (cC (bs.hc.get 1 _ rfl) (cC (bs.hc.get 2 _ rfl) (cC (bs.hc.get 3 _ rfl) (cC (bs.hc.get 4 _ rfl) (cC (bs.hc.get 5 _ rfl) (cC (bs.hc.get 6 _ rfl) (cC (bs.hc.get 7 _ rfl) (cC (bs.hc.get 8 _ rfl) (cC (bs.hc.get 9 _ rfl) (cC (bs.hc.get 10 _ rfl) (cC (bs.hc.get 11 _ rfl) (cC (bs.hc.get 12 _ rfl) (cC (bs.hc.get 13 _ rfl) (cC (bs.hc.get 14 _ rfl) (cC (bs.hc.get 15 _ rfl) (cC (bs.hc.get 16 _ rfl) (cC (bs.hc.get 17 _ rfl) (cC (bs.hc.get 18 _ rfl) (cC (bs.hc.get 19 _ rfl) (cC (bs.hc.get 20 _ rfl) (cC (bs.hc.get 21 _ rfl) (cC (bs.hc.get 22 _ rfl) (cC (bs.hc.get 23 _ rfl) (cC (bs.hc.get 24 _ rfl) (cC (bs.hc.get 25 _ rfl) (cC (bs.hc.get 26 _ rfl) (cC (bs.hc.get 27 _ rfl) (cC (bs.hc.get 28 _ rfl) (cC (bs.hc.get 29 _ rfl) (cC (bs.hc.get 30 _ rfl) (cC (bs.hc.get 31 _ rfl) (cC (bs.hc.get 32 _ rfl) (cC (bs.hc.get 33 _ rfl) (cC (bs.hc.get 34 _ rfl) (cC (bs.hc.get 35 _ rfl) (cC (bs.hc.get 36 _ rfl) (cC (bs.hc.get 37 _ rfl) (cC (bs.hc.get 38 _ rfl) (cC (bs.hc.get 39 _ rfl) (cC (bs.hc.get 40 _ rfl) (cC (bs.hc.get 41 _ rfl) (cC (bs.hc.get 42 _ rfl) (cC (bs.hc.get 43 _ rfl) (cC (bs.hc.get 44 _ rfl) (cC (bs.hc.get 45 _ rfl) (cC (bs.hc.get 46 _ rfl) (cC (bs.hc.get 47 _ rfl) (cC (bs.hc.get 48 _ rfl) (cC (bs.hc.get 49 _ rfl) (cC (bs.hc.get 50 _ rfl) (cC (bs.hc.get 51 _ rfl) (cC (bs.hc.get 52 _ rfl) (cC (bs.hc.get 53 _ rfl) (cC (bs.hc.get 54 _ rfl) (cC (bs.hc.get 55 _ rfl) (cC (show lkp (ky 52 56) _ = some (Value.slice x.p17 (bI o).length x.c17) from by rw [hh]; rfl) (cC (bs.hc.get 57 _ rfl) (cC (bs.hc.get 58 _ rfl) (cC (bs.hc.get 59 _ rfl) cN)))))))))))))))))))))))))))))))))))))))))))))))))))))))))))), (cG kX bs.h2), (lY bs.lim), bs.limB, (fX bs.frH), (fV bs.frS)⟩ s9 sm s12 s13 s18 r12 r13 r14 sh si (by rw [hh]; exact s17.more) hR
theorem aHl {R : Ending → World → Prop} {o : Opn} {x : Av} {b1 b2 b3 : Nat} {H0 : LV} {S0 : LS} (ok : OpOk o) (hsort : o.freq < 4 → j5 F w0 (raw o)) (bs : Bs F w0 B H0 S0 b1 b2 b3 (oc1 o x) (rcE o x) H S) (s9 : SrcT F w0 S 11 (.slice x.p9 (o.setpos).length x.c9) o.setpos) (sm : SrcT F w0 S 16 (.slice x.pm (bX o).length x.cm) (bX o)) (s12 : SrcT F w0 S 11 (.slice x.p12 (o.yday).length x.c12) o.yday) (s13 : SrcT F w0 S 11 (.slice x.p13 (o.weekno).length x.c13) o.weekno) (s16 : SrcT F w0 S 11 (.slice x.p16 (o.minute).length x.c16) o.minute) (s17 : SrcT F w0 S 11 (.slice x.p17 (o.second).length x.c17) o.second) (s18 : SrcT F w0 S 11 (.slice x.p18 (o.easter).length x.c18) o.easter) (r12 : lkp 12 S = some ⟨.slice x.q48 (gC (bL o)).length x.e48, 3, 1, (gC (bL o)).length, (gC (bL o)).map iV⟩) (r13 : lkp 13 S = some ⟨.slice x.q49 (gB (bL o)).length x.e49, 3, 1, (gB (bL o)).length, (gB (bL o)).map iV⟩) (r14 : lkp 14 S = some ⟨.slice x.q52 (((bU o).filter (cP o.freq)).map Prod.fst).length x.e52, 3, 1, (((bU o).filter (cP o.freq)).map Prod.fst).length, (((bU o).filter (cP o.freq)).map Prod.fst).map iV⟩) (sh : SrcT F w0 S 18 (.slice x.q54 (cL o).length x.e54) (cL o))  (hR : ∀ (x : Av) (S' : LS), OutF F w0 o x S0 S' → ∀ w, Sees F w0 B H0 S' w → R (.returned (.agg (iY o x).toArray)) w) : GC Tryz.prog (Go.Fr.part [1, 1, 1, 1, 1, 1, 1, 1, 1, 1, 1, 1, 1, 1, 1, 1, 1, 1, 1, 1, 1, 1] (Go.Fr.bodyOf Tryz.f43)) (bodyPost Tryz.prog Tryz.f43 R) 300 [(1, pT b1), (2, pT b2), (3, pT b3)] F w0 ((52, b3) :: (51, b2) :: (50, b1) :: B) H S := by
 have ok_ := ok
 have hd_ := ok.d
 have hfr := ok.freq
 refine g3 ?_
 refine rl (rfa 16) ?_
 refine rZ4 (bE 50 rfl rfl (bs.ho.get 16 _ rfl) kR dE) ?_
 refine aB rfl (fun hc1 => ?_) (fun hc2 => ?_)
 ·have hz : o.minute.length = 0 := by have := beq_iff_eq.1 hc1; omega
  refine g2 ?_
  refine rl (rfa 38) ?_
  refine rZ3 (bE 52 rfl rfl (bs.hc.get 38 _ rfl) kR dE) ?_
  refine aB rfl (fun hc1 => ?_) (fun hc2 => ?_)
  ·have hf : o.freq < 5 := oT hc1
   have hh : bA o = [o.d % 86400 / 60 % 60] := by unfold bA; rw [if_pos hz, if_pos hf]
   refine g1 ?_
   refine rl (rfa 39) ?_
   refine rl (aV 52 rfl rfl (bs.hc.get 39 _ rfl) (bs.hc.get 40 _ rfl) kR dE) ?_
   refine gL (cvo rfl (fun w_ s_ => wG _ _ oM w_) ?_)
   refine gL (dK 19 (e := 3) (sz := 1) (by_ := 8) (zs := [iV 0]) (cs := [iV (o.d % 86400 / 60 % 60)]) dE kR rfl dE dE rfl rfl rfl (fun bo => ?_))
   refine rl (rfa 55) ?_
   refine gL (cR 52 rfl rfl rfl (bs.hc.get 55 _ rfl) kR rfl dE ?_)
   refine g2 ?_
   refine dO (L' := [(1, pT b1), (2, pT b2), (3, pT b3)]) kns (fun w s => s) ?_
   refine aH8 (x := { x with q55 := some ⟨bo, 0, none⟩, e55 := 1 }) ok hsort (H := ((ky 52 55, sL bo 1 1) :: H)) (S := ((19, ⟨sL bo 1 1, 3, 1, 1, [iV (o.d % 86400 / 60 % 60)]⟩) :: S)) ⟨bs.ho, (cC (bs.hc.get 0 _ rfl) (cC (bs.hc.get 1 _ rfl) (cC (bs.hc.get 2 _ rfl) (cC (bs.hc.get 3 _ rfl) (cC (bs.hc.get 4 _ rfl) (cC (bs.hc.get 5 _ rfl) (cC (bs.hc.get 6 _ rfl) (cC (bs.hc.get 7 _ rfl) (cC (bs.hc.get 8 _ rfl) (cC (bs.hc.get 9 _ rfl) (cC (bs.hc.get 10 _ rfl) (cC (bs.hc.get 11 _ rfl) (cC (bs.hc.get 12 _ rfl) (cC (bs.hc.get 13 _ rfl) (cC (bs.hc.get 14 _ rfl) (cC (bs.hc.get 15 _ rfl) (cC (bs.hc.get 16 _ rfl) (cC (bs.hc.get 17 _ rfl) (cC (bs.hc.get 18 _ rfl) (cC (bs.hc.get 19 _ rfl) (cC (bs.hc.get 20 _ rfl) (cC (bs.hc.get 21 _ rfl) (cC (bs.hc.get 22 _ rfl) (cC (bs.hc.get 23 _ rfl) (cC (bs.hc.get 24 _ rfl) (cC (bs.hc.get 25 _ rfl) (cC (bs.hc.get 26 _ rfl) (cC (bs.hc.get 27 _ rfl) (cC (bs.hc.get 28 _ rfl) (cC (bs.hc.get 29 _ rfl) (cC (bs.hc.get 30 _ rfl) (cC (bs.hc.get 31 _ rfl) (cC (bs.hc.get 32 _ rfl) (cC (bs.hc.get 33 _ rfl) (cC (bs.hc.get 34 _ rfl) (cC (bs.hc.get 35 _ rfl) (cC (bs.hc.get 36 _ rfl) (cC (bs.hc.get 37 _ rfl) (cC (bs.hc.get 38 _ rfl) (cC (bs.hc.get 39 _ rfl) (cC (bs.hc.get 40 _ rfl) (cC (bs.hc.get 41 _ rfl) (cC (bs.hc.get 42 _ rfl) (cC (bs.hc.get 43 _ rfl) (cC (bs.hc.get 44 _ rfl) (cC (bs.hc.get 45 _ rfl) (cC (bs.hc.get 46 _ rfl) (cC (bs.hc.get 47 _ rfl) (cC (bs.hc.get 48 _ rfl) (cC (bs.hc.get 49 _ rfl) (cC (bs.hc.get 50 _ rfl) (cC (bs.hc.get 51 _ rfl) (cC (bs.hc.get 52 _ rfl) (cC (bs.hc.get 53 _ rfl) (cC (bs.hc.get 54 _ rfl) (cC (show lkp (ky 52 55) _ = some (sL bo (bA o).length 1) from by rw [hh]; rfl) (cC (bs.hc.get 56 _ rfl) (cC (bs.hc.get 57 _ rfl) (cC (bs.hc.get 58 _ rfl) (cC (bs.hc.get 59 _ rfl) cN)))))))))))))))))))))))))))))))))))))))))))))))))))))))))))), (cG kX bs.h2), (lY bs.lim), bs.limB, (fX bs.frH), (fV bs.frS)⟩ (s9.cons dE) (sm.cons dE) (s12.cons dE) (s13.cons dE) (s17.cons dE) (s18.cons dE) r12 r13 r14 (sh.cons dE) (SrcT.row (e := 3) (by rw [hh]; rfl)) hR
  ·have hf : ¬ o.freq < 5 := oF hc2
   have hh : bA o = [] := by unfold bA; rw [if_pos hz, if_neg hf]
   refine g2 ?_
   refine dO (L' := [(1, pT b1), (2, pT b2), (3, pT b3)]) kns (fun w s => s) ?_
   refine aH8 (x := { x with q55 := none, e55 := 0 }) ok hsort (H := H) (S := S) ⟨bs.ho, (cC (bs.hc.get 0 _ rfl) (cC (bs.hc.get 1 _ rfl) (cC (bs.hc.get 2 _ rfl) (cC (bs.hc.get 3 _ rfl) (cC (bs.hc.get 4 _ rfl) (cC (bs.hc.get 5 _ rfl) (cC (bs.hc.get 6 _ rfl) (cC (bs.hc.get 7 _ rfl) (cC (bs.hc.get 8 _ rfl) (cC (bs.hc.get 9 _ rfl) (cC (bs.hc.get 10 _ rfl) (cC (bs.hc.get 11 _ rfl) (cC (bs.hc.get 12 _ rfl) (cC (bs.hc.get 13 _ rfl) (cC (bs.hc.get 14 _ rfl) (cC (bs.hc.get 15 _ rfl) (cC (bs.hc.get 16 _ rfl) (cC (bs.hc.get 17 _ rfl) (cC (bs.hc.get 18 _ rfl) (cC (bs.hc.get 19 _ rfl) (cC (bs.hc.get 20 _ rfl) (cC (bs.hc.get 21 _ rfl) (cC (bs.hc.get 22 _ rfl) (cC (bs.hc.get 23 _ rfl) (cC (bs.hc.get 24 _ rfl) (cC (bs.hc.get 25 _ rfl) (cC (bs.hc.get 26 _ rfl) (cC (bs.hc.get 27 _ rfl) (cC (bs.hc.get 28 _ rfl) (cC (bs.hc.get 29 _ rfl) (cC (bs.hc.get 30 _ rfl) (cC (bs.hc.get 31 _ rfl) (cC (bs.hc.get 32 _ rfl) (cC (bs.hc.get 33 _ rfl) (cC (bs.hc.get 34 _ rfl) (cC (bs.hc.get 35 _ rfl) (cC (bs.hc.get 36 _ rfl) (cC (bs.hc.get 37 _ rfl) (cC (bs.hc.get 38 _ rfl) (cC (bs.hc.get 39 _ rfl) (cC (bs.hc.get 40 _ rfl) (cC (bs.hc.get 41 _ rfl) (cC (bs.hc.get 42 _ rfl) (cC (bs.hc.get 43 _ rfl) (cC (bs.hc.get 44 _ rfl) (cC (bs.hc.get 45 _ rfl) (cC (bs.hc.get 46 _ rfl) (cC (bs.hc.get 47 _ rfl) (cC (bs.hc.get 48 _ rfl) (cC (bs.hc.get 49 _ rfl) (cC (bs.hc.get 50 _ rfl) (cC (bs.hc.get 51 _ rfl) (cC (bs.hc.get 52 _ rfl) (cC (bs.hc.get 53 _ rfl) (cC (bs.hc.get 54 _ rfl) (cC (show lkp (ky 52 55) _ = some (Value.slice none (bA o).length 0) from by rw [hh]; exact bs.hc.get 55 _ rfl) (cC (bs.hc.get 56 _ rfl) (cC (bs.hc.get 57 _ rfl) (cC (bs.hc.get 58 _ rfl) (cC (bs.hc.get 59 _ rfl) cN)))))))))))))))))))))))))))))))))))))))))))))))))))))))))))), (cG kX bs.h2), bs.lim, bs.limB, (fX bs.frH), (fV bs.frS)⟩ s9 sm s12 s13 s17 s18 r12 r13 r14 sh (by rw [hh]; exact SrcT.nil) hR
 ·have hz : ¬ o.minute.length = 0 := by have := beq_eq_false_iff_ne.1 hc2; omega
  have hh : bA o = o.minute := by unfold bA; rw [if_neg hz]
  refine g1 ?_
  refine rl (rfa 16) ?_
  refine rl (bE 50 rfl rfl (bs.ho.get 16 _ rfl) kR dE) ?_
  refine rl (rfa 55) ?_
  refine gL (cR 52 rfl rfl rfl (bs.hc.get 55 _ rfl) kR rfl dE ?_)
  refine g2 ?_
  refine dO (L' := [(1, pT b1), (2, pT b2), (3, pT b3)]) kns (fun w s => s) ?_
  refine aH8 (x := { x with q55 := x.p16, e55 := x.c16 }) ok hsort (H := ((ky 52 55, .slice x.p16 (o.minute).length x.c16) :: H)) (S := S) ⟨bs.ho, (cC (bs.hc.get 0 _ rfl) (cC (bs.hc.get 1 _ rfl) (cC (bs.hc.get 2 _ rfl) (cC (bs.hc.get 3 _ rfl) (cC (bs.hc.get 4 _ rfl) (cC (bs.hc.get 5 _ rfl) (cC (bs.hc.get 6 _ rfl) (cC (bs.hc.get 7 _ rfl) (cC (bs.hc.get 8 _ rfl) (cC (bs.hc.get 9 _ rfl) (cC (bs.hc.get 10 _ rfl) (cC (bs.hc.get 11 _ rfl) (cC (bs.hc.get 12 _ rfl) (cC (bs.hc.get 13 _ rfl) (cC (bs.hc.get 14 _ rfl) (cC (bs.hc.get 15 _ rfl) (cC (bs.hc.get 16 _ rfl) (cC (bs.hc.get 17 _ rfl) (cC (bs.hc.get 18 _ rfl) (cC (bs.hc.get 19 _ rfl) (cC (bs.hc.get 20 _ rfl) (cC (bs.hc.get 21 _ rfl) (cC (bs.hc.get 22 _ rfl) (cC (bs.hc.get 23 _ rfl) (cC (bs.hc.get 24 _ rfl) (cC (bs.hc.get 25 _ rfl) (cC (bs.hc.get 26 _ rfl) (cC (bs.hc.get 27 _ rfl) (cC (bs.hc.get 28 _ rfl) (cC (bs.hc.get 29 _ rfl) (cC (bs.hc.get 30 _ rfl) (cC (bs.hc.get 31 _ rfl) (cC (bs.hc.get 32 _ rfl) (cC (bs.hc.get 33 _ rfl) (cC (bs.hc.get 34 _ rfl) (cC (bs.hc.get 35 _ rfl) (cC (bs.hc.get 36 _ rfl) (cC (bs.hc.get 37 _ rfl) (cC (bs.hc.get 38 _ rfl) (cC (bs.hc.get 39 _ rfl) (cC (bs.hc.get 40 _ rfl) (cC (bs.hc.get 41 _ rfl) (cC (bs.hc.get 42 _ rfl) (cC (bs.hc.get 43 _ rfl) (cC (bs.hc.get 44 _ rfl) (cC (bs.hc.get 45 _ rfl) (cC (bs.hc.get 46 _ rfl) (cC (bs.hc.get 47 _ rfl) (cC (bs.hc.get 48 _ rfl) (cC (bs.hc.get 49 _ rfl) (cC (bs.hc.get 50 _ rfl) (cC (bs.hc.get 51 _ rfl) (cC (bs.hc.get 52 _ rfl) (cC (bs.hc.get 53 _ rfl) (cC (bs.hc.get 54 _ rfl) (cC (show lkp (ky 52 55) _ = some (Value.slice x.p16 (bA o).length x.c16) from by rw [hh]; rfl) (cC (bs.hc.get 56 _ rfl) (cC (bs.hc.get 57 _ rfl) (cC (bs.hc.get 58 _ rfl) (cC (bs.hc.get 59 _ rfl) cN)))))))))))))))))))))))))))))))))))))))))))))))))))))))))))), (cG kX bs.h2), (lY bs.lim), bs.limB, (fX bs.frH), (fV bs.frS)⟩ s9 sm s12 s13 s17 s18 r12 r13 r14 sh (by rw [hh]; exact s16.more) hR
theorem bu_E {R : Ending → World → Prop} {o : Opn} {x : Av} {b1 b2 b3 : Nat} {H0 : LV} {S0 : LS} (ok : OpOk o) (hsort : o.freq < 4 → j5 F w0 (raw o)) (bs : Bs F w0 B H0 S0 b1 b2 b3 (oc1 o x) (rcD o x) H S) (s9 : SrcT F w0 S 11 (.slice x.p9 (o.setpos).length x.c9) o.setpos) (sm : SrcT F w0 S 16 (.slice x.pm (bX o).length x.cm) (bX o)) (s12 : SrcT F w0 S 11 (.slice x.p12 (o.yday).length x.c12) o.yday) (s13 : SrcT F w0 S 11 (.slice x.p13 (o.weekno).length x.c13) o.weekno) (s15 : SrcT F w0 S 11 (.slice x.p15 (o.hour).length x.c15) o.hour) (s16 : SrcT F w0 S 11 (.slice x.p16 (o.minute).length x.c16) o.minute) (s17 : SrcT F w0 S 11 (.slice x.p17 (o.second).length x.c17) o.second) (s18 : SrcT F w0 S 11 (.slice x.p18 (o.easter).length x.c18) o.easter) (r12 : lkp 12 S = some ⟨.slice x.q48 (gC (bL o)).length x.e48, 3, 1, (gC (bL o)).length, (gC (bL o)).map iV⟩) (r13 : lkp 13 S = some ⟨.slice x.q49 (gB (bL o)).length x.e49, 3, 1, (gB (bL o)).length, (gB (bL o)).map iV⟩) (r14 : lkp 14 S = some ⟨.slice x.q52 (((bU o).filter (cP o.freq)).map Prod.fst).length x.e52, 3, 1, (((bU o).filter (cP o.freq)).map Prod.fst).length, (((bU o).filter (cP o.freq)).map Prod.fst).map iV⟩)  (hR : ∀ (x : Av) (S' : LS), OutF F w0 o x S0 S' → ∀ w, Sees F w0 B H0 S' w → R (.returned (.agg (iY o x).toArray)) w) : GC Tryz.prog (Go.Fr.part [1, 1, 1, 1, 1, 1, 1, 1, 1, 1, 1, 1, 1, 1, 1, 1, 1, 1, 1, 1, 1] (Go.Fr.bodyOf Tryz.f43)) (bodyPost Tryz.prog Tryz.f43 R) 300 [(1, pT b1), (2, pT b2), (3, pT b3)] F w0 ((52, b3) :: (51, b2) :: (50, b1) :: B) H S := by
 have ok_ := ok
 have hd_ := ok.d
 have hfr := ok.freq
 refine g3 ?_
 refine rl (rfa 15) ?_
 refine rZ4 (bE 50 rfl rfl (bs.ho.get 15 _ rfl) kR dE) ?_
 refine aB rfl (fun hc1 => ?_) (fun hc2 => ?_)
 ·have hz : o.hour.length = 0 := by have := beq_iff_eq.1 hc1; omega
  refine g2 ?_
  refine rl (rfa 38) ?_
  refine rZ3 (bE 52 rfl rfl (bs.hc.get 38 _ rfl) kR dE) ?_
  refine aB rfl (fun hc1 => ?_) (fun hc2 => ?_)
  ·have hf : o.freq < 4 := oT hc1
   have hh : cL o = [o.d % 86400 / 3600] := by unfold cL; rw [if_pos hz, if_pos hf]
   refine g1 ?_
   refine rl (rfa 39) ?_
   refine rl (aV 52 rfl rfl (bs.hc.get 39 _ rfl) (bs.hc.get 40 _ rfl) kR dE) ?_
   refine gL (cvo rfl (fun w_ s_ => zY _ _ oM w_) ?_)
   refine gL (dK 18 (e := 3) (sz := 1) (by_ := 8) (zs := [iV 0]) (cs := [iV (o.d % 86400 / 3600)]) dE kR rfl dE dE rfl rfl rfl (fun bo => ?_))
   refine rl (rfa 54) ?_
   refine gL (cR 52 rfl rfl rfl (bs.hc.get 54 _ rfl) kR rfl dE ?_)
   refine g2 ?_
   refine dO (L' := [(1, pT b1), (2, pT b2), (3, pT b3)]) kns (fun w s => s) ?_
   refine aHl (x := { x with q54 := some ⟨bo, 0, none⟩, e54 := 1 }) ok hsort (H := ((ky 52 54, sL bo 1 1) :: H)) (S := ((18, ⟨sL bo 1 1, 3, 1, 1, [iV (o.d % 86400 / 3600)]⟩) :: S)) ⟨bs.ho, (cC (bs.hc.get 0 _ rfl) (cC (bs.hc.get 1 _ rfl) (cC (bs.hc.get 2 _ rfl) (cC (bs.hc.get 3 _ rfl) (cC (bs.hc.get 4 _ rfl) (cC (bs.hc.get 5 _ rfl) (cC (bs.hc.get 6 _ rfl) (cC (bs.hc.get 7 _ rfl) (cC (bs.hc.get 8 _ rfl) (cC (bs.hc.get 9 _ rfl) (cC (bs.hc.get 10 _ rfl) (cC (bs.hc.get 11 _ rfl) (cC (bs.hc.get 12 _ rfl) (cC (bs.hc.get 13 _ rfl) (cC (bs.hc.get 14 _ rfl) (cC (bs.hc.get 15 _ rfl) (cC (bs.hc.get 16 _ rfl) (cC (bs.hc.get 17 _ rfl) (cC (bs.hc.get 18 _ rfl) (cC (bs.hc.get 19 _ rfl) (cC (bs.hc.get 20 _ rfl) (cC (bs.hc.get 21 _ rfl) (cC (bs.hc.get 22 _ rfl) (cC (bs.hc.get 23 _ rfl) (cC (bs.hc.get 24 _ rfl) (cC (bs.hc.get 25 _ rfl) (cC (bs.hc.get 26 _ rfl) (cC (bs.hc.get 27 _ rfl) (cC (bs.hc.get 28 _ rfl) (cC (bs.hc.get 29 _ rfl) (cC (bs.hc.get 30 _ rfl) (cC (bs.hc.get 31 _ rfl) (cC (bs.hc.get 32 _ rfl) (cC (bs.hc.get 33 _ rfl) (cC (bs.hc.get 34 _ rfl) (cC (bs.hc.get 35 _ rfl) (cC (bs.hc.get 36 _ rfl) (cC (bs.hc.get 37 _ rfl) (cC (bs.hc.get 38 _ rfl) (cC (bs.hc.get 39 _ rfl) (cC (bs.hc.get 40 _ rfl) (cC (bs.hc.get 41 _ rfl) (cC (bs.hc.get 42 _ rfl) (cC (bs.hc.get 43 _ rfl) (cC (bs.hc.get 44 _ rfl) (cC (bs.hc.get 45 _ rfl) (cC (bs.hc.get 46 _ rfl) (cC (bs.hc.get 47 _ rfl) (cC (bs.hc.get 48 _ rfl) (cC (bs.hc.get 49 _ rfl) (cC (bs.hc.get 50 _ rfl) (cC (bs.hc.get 51 _ rfl) (cC (bs.hc.get 52 _ rfl) (cC (bs.hc.get 53 _ rfl) (cC (show lkp (ky 52 54) _ = some (sL bo (cL o).length 1) from by rw [hh]; rfl) (cC (bs.hc.get 55 _ rfl) (cC (bs.hc.get 56 _ rfl) (cC (bs.hc.get 57 _ rfl) (cC (bs.hc.get 58 _ rfl) (cC (bs.hc.get 59 _ rfl) cN)))))))))))))))))))))))))))))))))))))))))))))))))))))))))))), (cG kX bs.h2), (lY bs.lim), bs.limB, (fX bs.frH), (fV bs.frS)⟩ (s9.cons dE) (sm.cons dE) (s12.cons dE) (s13.cons dE) (s16.cons dE) (s17.cons dE) (s18.cons dE) r12 r13 r14 (SrcT.row (e := 3) (by rw [hh]; rfl)) hR
  ·have hf : ¬ o.freq < 4 := oF hc2
   have hh : cL o = [] := by unfold cL; rw [if_pos hz, if_neg hf]
   refine g2 ?_
   refine dO (L' := [(1, pT b1), (2, pT b2), (3, pT b3)]) kns (fun w s => s) ?_
   refine aHl (x := { x with q54 := none, e54 := 0 }) ok hsort (H := H) (S := S) ⟨bs.ho, (cC (bs.hc.get 0 _ rfl) (cC (bs.hc.get 1 _ rfl) (cC (bs.hc.get 2 _ rfl) (cC (bs.hc.get 3 _ rfl) (cC (bs.hc.get 4 _ rfl) (cC (bs.hc.get 5 _ rfl) (cC (bs.hc.get 6 _ rfl) (cC (bs.hc.get 7 _ rfl) (cC (bs.hc.get 8 _ rfl) (cC (bs.hc.get 9 _ rfl) (cC (bs.hc.get 10 _ rfl) (cC (bs.hc.get 11 _ rfl) (cC (bs.hc.get 12 _ rfl) (cC (bs.hc.get 13 _ rfl) (cC (bs.hc.get 14 _ rfl) (cC (bs.hc.get 15 _ rfl) (cC (bs.hc.get 16 _ rfl) (cC (bs.hc.get 17 _ rfl) (cC (bs.hc.get 18 _ rfl) (cC (bs.hc.get 19 _ rfl) (cC (bs.hc.get 20 _ rfl) (cC (bs.hc.get 21 _ rfl) (cC (bs.hc.get 22 _ rfl) (cC (bs.hc.get 23 _ rfl) (cC (bs.hc.get 24 _ rfl) (cC (bs.hc.get 25 _ rfl) (cC (bs.hc.get 26 _ rfl) (cC (bs.hc.get 27 _ rfl) (cC (bs.hc.get 28 _ rfl) (cC (bs.hc.get 29 _ rfl) (cC (bs.hc.get 30 _ rfl) (cC (bs.hc.get 31 _ rfl) (cC (bs.hc.get 32 _ rfl) (cC (bs.hc.get 33 _ rfl) (cC (bs.hc.get 34 _ rfl) (cC (bs.hc.get 35 _ rfl) (cC (bs.hc.get 36 _ rfl) (cC (bs.hc.get 37 _ rfl) (cC (bs.hc.get 38 _ rfl) (cC (bs.hc.get 39 _ rfl) (cC (bs.hc.get 40 _ rfl) (cC (bs.hc.get 41 _ rfl) (cC (bs.hc.get 42 _ rfl) (cC (bs.hc.get 43 _ rfl) (cC (bs.hc.get 44 _ rfl) (cC (bs.hc.get 45 _ rfl) (cC (bs.hc.get 46 _ rfl) (cC (bs.hc.get 47 _ rfl) (cC (bs.hc.get 48 _ rfl) (cC (bs.hc.get 49 _ rfl) (cC (bs.hc.get 50 _ rfl) (cC (bs.hc.get 51 _ rfl) (cC (bs.hc.get 52 _ rfl) (cC (bs.hc.get 53 _ rfl) (cC (show lkp (ky 52 54) _ = some (Value.slice none (cL o).length 0) from by rw [hh]; exact bs.hc.get 54 _ rfl) (cC (bs.hc.get 55 _ rfl) (cC (bs.hc.get 56 _ rfl) (cC (bs.hc.get 57 _ rfl) (cC (bs.hc.get 58 _ rfl) (cC (bs.hc.get 59 _ rfl) cN)))))))))))))))))))))))))))))))))))))))))))))))))))))))))))), (cG kX bs.h2), bs.lim, bs.limB, (fX bs.frH), (fV bs.frS)⟩ s9 sm s12 s13 s16 s17 s18 r12 r13 r14 (by rw [hh]; exact SrcT.nil) hR
 ·have hz : ¬ o.hour.length = 0 := by have := beq_eq_false_iff_ne.1 hc2; omega
  have hh : cL o = o.hour := by unfold cL; rw [if_neg hz]
  refine g1 ?_
  refine rl (rfa 15) ?_
  refine rl (bE 50 rfl rfl (bs.ho.get 15 _ rfl) kR dE) ?_
  refine rl (rfa 54) ?_
  refine gL (cR 52 rfl rfl rfl (bs.hc.get 54 _ rfl) kR rfl dE ?_)
  refine g2 ?_
  refine dO (L' := [(1, pT b1), (2, pT b2), (3, pT b3)]) kns (fun w s => s) ?_
  refine aHl (x := { x with q54 := x.p15, e54 := x.c15 }) ok hsort (H := ((ky 52 54, .slice x.p15 (o.hour).length x.c15) :: H)) (S := S) ⟨bs.ho, (cC (bs.hc.get 0 _ rfl) (cC (bs.hc.get 1 _ rfl) (cC (bs.hc.get 2 _ rfl) (cC (bs.hc.get 3 _ rfl) (cC (bs.hc.get 4 _ rfl) (cC (bs.hc.get 5 _ rfl) (cC (bs.hc.get 6 _ rfl) (cC (bs.hc.get 7 _ rfl) (cC (bs.hc.get 8 _ rfl) (cC (bs.hc.get 9 _ rfl) (cC (bs.hc.get 10 _ rfl) (cC (bs.hc.get 11 _ rfl) (cC (bs.hc.get 12 _ rfl) (cC (bs.hc.get 13 _ rfl) (cC (bs.hc.get 14 _ rfl) (cC (bs.hc.get 15 _ rfl) (cC (bs.hc.get 16 _ rfl) (cC (bs.hc.get 17 _ rfl) (cC (bs.hc.get 18 _ rfl) (cC (bs.hc.get 19 _ rfl) (cC (bs.hc.get 20 _ rfl) (cC (bs.hc.get 21 _ rfl) (cC (bs.hc.get 22 _ rfl) (cC (bs.hc.get 23 _ rfl) (cC (bs.hc.get 24 _ rfl) (cC (bs.hc.get 25 _ rfl) (cC (bs.hc.get 26 _ rfl) (cC (bs.hc.get 27 _ rfl) (cC (bs.hc.get 28 _ rfl) (cC (bs.hc.get 29 _ rfl) (cC (bs.hc.get 30 _ rfl) (cC (bs.hc.get 31 _ rfl) (cC (bs.hc.get 32 _ rfl) (cC (bs.hc.get 33 _ rfl) (cC (bs.hc.get 34 _ rfl) (cC (bs.hc.get 35 _ rfl) (cC (bs.hc.get 36 _ rfl) (cC (bs.hc.get 37 _ rfl) (cC (bs.hc.get 38 _ rfl) (cC (bs.hc.get 39 _ rfl) (cC (bs.hc.get 40 _ rfl) (cC (bs.hc.get 41 _ rfl) (cC (bs.hc.get 42 _ rfl) (cC (bs.hc.get 43 _ rfl) (cC (bs.hc.get 44 _ rfl) (cC (bs.hc.get 45 _ rfl) (cC (bs.hc.get 46 _ rfl) (cC (bs.hc.get 47 _ rfl) (cC (bs.hc.get 48 _ rfl) (cC (bs.hc.get 49 _ rfl) (cC (bs.hc.get 50 _ rfl) (cC (bs.hc.get 51 _ rfl) (cC (bs.hc.get 52 _ rfl) (cC (bs.hc.get 53 _ rfl) (cC (show lkp (ky 52 54) _ = some (Value.slice x.p15 (cL o).length x.c15) from by rw [hh]; rfl) (cC (bs.hc.get 55 _ rfl) (cC (bs.hc.get 56 _ rfl) (cC (bs.hc.get 57 _ rfl) (cC (bs.hc.get 58 _ rfl) (cC (bs.hc.get 59 _ rfl) cN)))))))))))))))))))))))))))))))))))))))))))))))))))))))))))), (cG kX bs.h2), (lY bs.lim), bs.limB, (fX bs.frH), (fV bs.frS)⟩ s9 sm s12 s13 s16 s17 s18 r12 r13 r14 (by rw [hh]; exact s15.more) hR
theorem bu_D {R : Ending → World → Prop} {o : Opn} {x : Av} {b1 b2 b3 : Nat} {H0 : LV} {S0 : LS} (ok : OpOk o) (hsort : o.freq < 4 → j5 F w0 (raw o)) (bs : Bs F w0 B H0 S0 b1 b2 b3 (oc1 o x) (rcC o x) H S) (s9 : SrcT F w0 S 11 (.slice x.p9 (o.setpos).length x.c9) o.setpos) (sm : SrcT F w0 S 16 (.slice x.pm (bX o).length x.cm) (bX o)) (s12 : SrcT F w0 S 11 (.slice x.p12 (o.yday).length x.c12) o.yday) (s13 : SrcT F w0 S 11 (.slice x.p13 (o.weekno).length x.c13) o.weekno) (sw : SrcU F w0 S 21 (.slice x.pw (bU o).length x.cw) (bU o)) (s15 : SrcT F w0 S 11 (.slice x.p15 (o.hour).length x.c15) o.hour) (s16 : SrcT F w0 S 11 (.slice x.p16 (o.minute).length x.c16) o.minute) (s17 : SrcT F w0 S 11 (.slice x.p17 (o.second).length x.c17) o.second) (s18 : SrcT F w0 S 11 (.slice x.p18 (o.easter).length x.c18) o.easter) (r12 : lkp 12 S = some ⟨.slice x.q48 (gC (bL o)).length x.e48, 3, 1, (gC (bL o)).length, (gC (bL o)).map iV⟩) (r13 : lkp 13 S = some ⟨.slice x.q49 (gB (bL o)).length x.e49, 3, 1, (gB (bL o)).length, (gB (bL o)).map iV⟩)  (hR : ∀ (x : Av) (S' : LS), OutF F w0 o x S0 S' → ∀ w, Sees F w0 B H0 S' w → R (.returned (.agg (iY o x).toArray)) w) : GC Tryz.prog (Go.Fr.part [1, 1, 1, 1, 1, 1, 1, 1, 1, 1, 1, 1, 1, 1, 1, 1, 1, 1, 1] (Go.Fr.bodyOf Tryz.f43)) (bodyPost Tryz.prog Tryz.f43 R) 300 [(1, pT b1), (2, pT b2), (3, pT b3)] F w0 ((52, b3) :: (51, b2) :: (50, b1) :: B) H S := by
 have ok_ := ok
 have hwl : (bU o).length ≤ 1000 := by unfold bU; split; exact (by simp); exact ok.wday
 refine g2 ?_
 refine rl (rfa 13) ?_
 refine rl (bE 50 rfl rfl (bs.ho.get 13 _ rfl) kR dE) ?_
 refine rl (rfa 51) ?_
 refine gL (cR 52 rfl rfl rfl (bs.hc.get 51 _ rfl) kR rfl dE ?_)
 refine g5 ?_
 refine rl (rfa 14) ?_
 refine rZ5 (bE 50 rfl rfl (bs.ho.get 14 _ rfl) kR dE) ?_
 refine bJ (ι := (Nat) × (Option Addr) × (Nat) × (Nat) × (List Value) × (List Int) × (Option Addr) × (Nat) × (Nat) × (List Value) × (List (Int × Int))) (fun | ⟨k, q14, e14, n14, xs14, l14, q15, e15, n15, xs15, l15⟩ => (bU o).length - k) (fun | ⟨k, q14, e14, n14, xs14, l14, q15, e15, n15, xs15, l15⟩ => (k ≤ (bU o).length) ∧ (l14 = ((bU o).take k |>.filter (cP o.freq)).map Prod.fst) ∧ (n14 = l14.length) ∧ (xs14 = l14.map iV) ∧ (l15 = ((bU o).take k).filter fun y => !cP o.freq y) ∧ (n15 = l15.length) ∧ (xs15 = eI l15)) (fun | ⟨k, q14, e14, n14, xs14, l14, q15, e15, n15, xs15, l15⟩ => [(1, pT b1), (2, pT b2), (3, pT b3), (167, .slice x.pw (bU o).length x.cw), (168, iV ((bU o).length)), (169, iV k)]) (fun | ⟨k, q14, e14, n14, xs14, l14, q15, e15, n15, xs15, l15⟩ => ((52, b3) :: (51, b2) :: (50, b1) :: B)) (fun | ⟨k, q14, e14, n14, xs14, l14, q15, e15, n15, xs15, l15⟩ => (ky 52 53, .slice q15 n15 e15) :: (ky 52 52, .slice q14 n14 e14) :: (ky 52 51, .slice x.p13 (o.weekno).length x.c13) :: H) (fun | ⟨k, q14, e14, n14, xs14, l14, q15, e15, n15, xs15, l15⟩ => (15, ⟨.slice q15 n15 e15, 59, 2, n15, xs15⟩) :: (14, ⟨.slice q14 n14 e14, 3, 1, n14, xs14⟩) :: S) ⟨0, none, 0, 0, [], [], none, 0, 0, [], []⟩ ⟨Nat.zero_le _, rfl, rfl, rfl, rfl, rfl, rfl⟩ kns (fun w s => by exact ((s.aJ6 14 3 1).aJ6 15 59 2).low 53 ((lY bs.lim)) agx (by exact Agr.pick (bs.hc.get 53 _ rfl) (Agr.pick (bs.hc.get 52 _ rfl) (Agr.refl _))) agx) ?_
 rintro ⟨k, q14, e14, n14, xs14, l14, q15, e15, n15, xs15, l15⟩ ⟨hk, hl14, hn14, hx14, hl15, hn15, hx15⟩
 show GC _ _ _ _ [(1, pT b1), (2, pT b2), (3, pT b3), (167, .slice x.pw (bU o).length x.cw), (168, iV ((bU o).length)), (169, iV k)] _ _ (((52, b3) :: (51, b2) :: (50, b1) :: B)) ((ky 52 53, .slice q15 n15 e15) :: (ky 52 52, .slice q14 n14 e14) :: (ky 52 51, .slice x.p13 (o.weekno).length x.c13) :: H) ((15, ⟨.slice q15 n15 e15, 59, 2, n15, xs15⟩) :: (14, ⟨.slice q14 n14 e14, 3, 1, n14, xs14⟩) :: S)
 refine g6 ?_
 refine aB rfl (fun hc1 => ?_) (fun hc2 => ?_)
 ·have hlt : k < (bU o).length := by have := oT hc1; omega
  obtain ⟨y, hy⟩ : ∃ y, (bU o)[k]? = some y := ⟨_, List.getElem?_eq_getElem hlt⟩
  refine eA (fun w s => ((sw.cons (j := 14) dE).cons (j := 15) dE).head s oM) fun hh => ?_
  obtain ⟨by_, oy_, hp_y⟩ := hh
  have src_y := sw
  rw [hp_y] at src_y
  have hn14b : n14 ≤ 1000 := by rw [hn14, hl14, List.length_map]; exact Nat.le_trans (List.length_filter_le _ _) (by rw [List.length_take]; omega)
  have hn15b : n15 ≤ 1000 := by rw [hn15, hl15]; exact Nat.le_trans (List.length_filter_le _ _) (by rw [List.length_take]; omega)
  refine g6 ?_
  refine rl (aF (e := 59) (n := 2) kR (congrArg (fun p => some (Value.slice p _ _)) hp_y) rfl oM oM) ?_
  refine rl (fI (cs := [iV y.1, iV y.2]) kR rfl (fun w s => ((src_y.cons dE).cons dE).cell hy s)) ?_
  refine gL (eB 53 (cs := [iV 0, iV 0]) dE kR (bs.lim.b 53 dE) (fun o ho => by repeat (first | exact bs.lim.h 53 dE o ho | rw [cH dE ho dE])) ble (fun b1_ hbb1_ => ?_))
  refine gL (sta 53 rfl rfl rfl rfl ?_)
  refine g3 ?_
  by_cases hz : y.2 = 0
  ·refine g1 ?_
   refine rl (rfa 1) ?_
   refine rl (rld 53 rfl rfl rfl) ?_
   refine rZ7 ((aR rfl rfl).to (v' := .bool true) (cB (beq_iff_eq.2 hz))) ?_
   have hpw : cP o.freq y = true := by unfold cP; rw [hz]; rfl
   refine aY rfl rfl ?_
   refine g1 ?_
   refine rl (rfa 52) ?_
   refine rl (rld 52 rfl rfl rfl) ?_
   refine rl (rfa 0) ?_
   refine rl (rld 53 rfl rfl rfl) ?_
   refine gL (lU 60 (e := 3) (sz := 1) (by_ := 8) (zs := [iV 0]) dE kR rfl dE dE rfl rfl rfl (bs.lim.s 60 dE) (fun bo => ?_))
   refine gL (cU 14 60 (e := 3) (sz := 1) (by_ := 8) (zs := [iV 0]) dE kR rfl dE rfl rfl rfl rfl ⟨rfl, rfl⟩ ⟨rfl, rfl⟩ (f9 (xs := [y.1])) sO sO (fun p' c' => ?_))
   refine rl (rfa 52) ?_
   refine gL (sto 52 rfl rfl rfl rfl ?_)
   refine g7 ?_
   refine aQ ⟨k + 1, p', c', n14 + 1, xs14 ++ [iV y.1], l14 ++ [y.1], q15, e15, n15, xs15, l15⟩ sO ⟨by omega, by rw [hl14, dD hy]; simp [hpw], by rw [List.length_append, hn14]; rfl, by rw [hx14]; simp, by rw [hl15, dD hy]; simp [hpw], hn15, hx15⟩ kns (fun w s => by exact s.low 53 ((lY bs.lim)) agx agx agx)
  ·refine g1 ?_
   refine rl (rfa 1) ?_
   refine rl (rld 53 rfl rfl rfl) ?_
   refine rZ2 ((aR rfl rfl).to (v' := .bool false) (cB (beq_eq_false_iff_ne.2 hz))) ?_
   refine rZ1 (rfa 38) ?_
   refine rZ5 (bE 52 rfl rfl (bs.hc.get 38 _ rfl) kR dE) ?_
   refine aB rfl (fun hc1 => ?_) (fun hc2 => ?_)
   ·have hpw : cP o.freq y = true := by unfold cP; rw [show decide (1 < o.freq) = true from hc1]; simp
    refine g1 ?_
    refine rl (rfa 52) ?_
    refine rl (rld 52 rfl rfl rfl) ?_
    refine rl (rfa 0) ?_
    refine rl (rld 53 rfl rfl rfl) ?_
    refine gL (lU 60 (e := 3) (sz := 1) (by_ := 8) (zs := [iV 0]) dE kR rfl dE dE rfl rfl rfl (bs.lim.s 60 dE) (fun bo => ?_))
    refine gL (cU 14 60 (e := 3) (sz := 1) (by_ := 8) (zs := [iV 0]) dE kR rfl dE rfl rfl rfl rfl ⟨rfl, rfl⟩ ⟨rfl, rfl⟩ (f9 (xs := [y.1])) sO sO (fun p' c' => ?_))
    refine rl (rfa 52) ?_
    refine gL (sto 52 rfl rfl rfl rfl ?_)
    refine g7 ?_
    refine aQ ⟨k + 1, p', c', n14 + 1, xs14 ++ [iV y.1], l14 ++ [y.1], q15, e15, n15, xs15, l15⟩ sO ⟨by omega, by rw [hl14, dD hy]; simp [hpw], by rw [List.length_append, hn14]; rfl, by rw [hx14]; simp, by rw [hl15, dD hy]; simp [hpw], hn15, hx15⟩ kns (fun w s => by exact s.low 53 ((lY bs.lim)) agx agx agx)
   ·have hpw : cP o.freq y = false := by unfold cP; rw [show decide (1 < o.freq) = false from hc2, beq_eq_false_iff_ne.2 hz]; rfl
    refine g1 ?_
    refine rl (rfa 53) ?_
    refine rl (rld 52 rfl rfl rfl) ?_
    refine rl (aV 53 rfl rfl rfl rfl kR dE) ?_
    refine gL (lU 60 (e := 59) (sz := 2) (by_ := 16) (zs := [iV 0, iV 0]) dE kR rfl dE dE rfl rfl rfl (bs.lim.s 60 dE) (fun bo => ?_))
    refine gL (cU 15 60 (e := 59) (sz := 2) (by_ := 16) (zs := [iV 0, iV 0]) dE kR rfl dE rfl rfl rfl rfl ⟨rfl, rfl⟩ ⟨rfl, rfl⟩ xA sO sO (fun p' c' => ?_))
    refine rl (rfa 53) ?_
    refine gL (sto 52 rfl rfl rfl rfl ?_)
    refine g7 ?_
    refine aQ ⟨k + 1, q14, e14, n14, xs14, l14, p', c', n15 + 1, xs15 ++ [iV y.1, iV y.2], l15 ++ [y]⟩ sO ⟨by omega, by rw [hl14, dD hy]; simp [hpw], hn14, hx14, by rw [hl15, dD hy]; simp [hpw], by rw [List.length_append, hn15]; rfl, by rw [hx15]; exact lV _ _⟩ kns (fun w s => by exact s.low 53 ((lY bs.lim)) agx agx agx)
 ·have hge : ¬ k < (bU o).length := by have := oF hc2; omega
  obtain rfl : k = (bU o).length := by omega
  rw [List.take_length] at hl14 hl15
  subst hl14 hl15 hn14 hn15 hx14 hx15
  refine g5 ?_
  refine dO (L' := [(1, pT b1), (2, pT b2), (3, pT b3)]) kns (fun w s => s) ?_
  refine bu_E (x := { x with q52 := q14, e52 := e14, q53 := q15, e53 := e15 }) ok hsort (H := (ky 52 53, .slice q15 ((bU o).filter fun y => !cP o.freq y).length e15) :: (ky 52 52, .slice q14 (((bU o).filter (cP o.freq)).map Prod.fst).length e14) :: (ky 52 51, .slice x.p13 (o.weekno).length x.c13) :: H) (S := (15, ⟨.slice q15 ((bU o).filter fun y => !cP o.freq y).length e15, 59, 2, ((bU o).filter fun y => !cP o.freq y).length, eI ((bU o).filter fun y => !cP o.freq y)⟩) :: (14, ⟨.slice q14 (((bU o).filter (cP o.freq)).map Prod.fst).length e14, 3, 1, (((bU o).filter (cP o.freq)).map Prod.fst).length, (((bU o).filter (cP o.freq)).map Prod.fst).map iV⟩) :: S) ⟨bs.ho, (cC (bs.hc.get 0 _ rfl) (cC (bs.hc.get 1 _ rfl) (cC (bs.hc.get 2 _ rfl) (cC (bs.hc.get 3 _ rfl) (cC (bs.hc.get 4 _ rfl) (cC (bs.hc.get 5 _ rfl) (cC (bs.hc.get 6 _ rfl) (cC (bs.hc.get 7 _ rfl) (cC (bs.hc.get 8 _ rfl) (cC (bs.hc.get 9 _ rfl) (cC (bs.hc.get 10 _ rfl) (cC (bs.hc.get 11 _ rfl) (cC (bs.hc.get 12 _ rfl) (cC (bs.hc.get 13 _ rfl) (cC (bs.hc.get 14 _ rfl) (cC (bs.hc.get 15 _ rfl) (cC (bs.hc.get 16 _ rfl) (cC (bs.hc.get 17 _ rfl) (cC (bs.hc.get 18 _ rfl) (cC (bs.hc.get 19 _ rfl) (cC (bs.hc.get 20 _ rfl) (cC (bs.hc.get 21 _ rfl) (cC (bs.hc.get 22 _ rfl) (cC (bs.hc.get 23 _ rfl) (cC (bs.hc.get 24 _ rfl) (cC (bs.hc.get 25 _ rfl) (cC (bs.hc.get 26 _ rfl) (cC (bs.hc.get 27 _ rfl) (cC (bs.hc.get 28 _ rfl) (cC (bs.hc.get 29 _ rfl) (cC (bs.hc.get 30 _ rfl) (cC (bs.hc.get 31 _ rfl) (cC (bs.hc.get 32 _ rfl) (cC (bs.hc.get 33 _ rfl) (cC (bs.hc.get 34 _ rfl) (cC (bs.hc.get 35 _ rfl) (cC (bs.hc.get 36 _ rfl) (cC (bs.hc.get 37 _ rfl) (cC (bs.hc.get 38 _ rfl) (cC (bs.hc.get 39 _ rfl) (cC (bs.hc.get 40 _ rfl) (cC (bs.hc.get 41 _ rfl) (cC (bs.hc.get 42 _ rfl) (cC (bs.hc.get 43 _ rfl) (cC (bs.hc.get 44 _ rfl) (cC (bs.hc.get 45 _ rfl) (cC (bs.hc.get 46 _ rfl) (cC (bs.hc.get 47 _ rfl) (cC (bs.hc.get 48 _ rfl) (cC (bs.hc.get 49 _ rfl) (cC (bs.hc.get 50 _ rfl) (cC rfl (cC rfl (cC rfl (cC (bs.hc.get 54 _ rfl) (cC (bs.hc.get 55 _ rfl) (cC (bs.hc.get 56 _ rfl) (cC (bs.hc.get 57 _ rfl) (cC (bs.hc.get 58 _ rfl) (cC (bs.hc.get 59 _ rfl) cN)))))))))))))))))))))))))))))))))))))))))))))))))))))))))))), (cG kX bs.h2), (lY bs.lim), bs.limB, (fX bs.frH), (fV bs.frS)⟩ ((s9.cons dE).cons dE) ((sm.cons dE).cons dE) ((s12.cons dE).cons dE) ((s13.cons dE).cons dE) ((s15.cons dE).cons dE) ((s16.cons dE).cons dE) ((s17.cons dE).cons dE) ((s18.cons dE).cons dE) r12 r13 rfl hR
theorem uS {R : Ending → World → Prop} {o : Opn} {x : Av} {b1 b2 b3 : Nat} {H0 : LV} {S0 : LS} (ok : OpOk o) (hsort : o.freq < 4 → j5 F w0 (raw o)) (bs : Bs F w0 B H0 S0 b1 b2 b3 (oc1 o x) (rcA o x) H S) (s9 : SrcT F w0 S 11 (.slice x.p9 (o.setpos).length x.c9) o.setpos) (sm : SrcT F w0 S 16 (.slice x.pm (bX o).length x.cm) (bX o)) (sd : SrcT F w0 S 17 (.slice x.pd (bL o).length x.cd) (bL o)) (s12 : SrcT F w0 S 11 (.slice x.p12 (o.yday).length x.c12) o.yday) (s13 : SrcT F w0 S 11 (.slice x.p13 (o.weekno).length x.c13) o.weekno) (sw : SrcU F w0 S 21 (.slice x.pw (bU o).length x.cw) (bU o)) (s15 : SrcT F w0 S 11 (.slice x.p15 (o.hour).length x.c15) o.hour) (s16 : SrcT F w0 S 11 (.slice x.p16 (o.minute).length x.c16) o.minute) (s17 : SrcT F w0 S 11 (.slice x.p17 (o.second).length x.c17) o.second) (s18 : SrcT F w0 S 11 (.slice x.p18 (o.easter).length x.c18) o.easter)  (hR : ∀ (x : Av) (S' : LS), OutF F w0 o x S0 S' → ∀ w, Sees F w0 B H0 S' w → R (.returned (.agg (iY o x).toArray)) w) : GC Tryz.prog (Go.Fr.part [1, 1, 1, 1, 1, 1, 1, 1, 1, 1, 1, 1, 1, 1, 1] (Go.Fr.bodyOf Tryz.f43)) (bodyPost Tryz.prog Tryz.f43 R) 300 [(1, pT b1), (2, pT b2), (3, pT b3)] F w0 ((52, b3) :: (51, b2) :: (50, b1) :: B) H S := by
 have ok_ := ok
 have hml : (bL o).length ≤ 1000 := by unfold bL; split; exact (by simp); exact ok.mday
 refine g2 ?_
 refine rl (rfa 10) ?_
 refine rl (bE 50 rfl rfl (bs.ho.get 10 _ rfl) kR dE) ?_
 refine rl (rfa 47) ?_
 refine gL (cR 52 rfl rfl rfl (bs.hc.get 47 _ rfl) kR rfl dE ?_)
 refine g4 ?_
 refine rl (rfa 12) ?_
 refine rl (bE 50 rfl rfl (bs.ho.get 12 _ rfl) kR dE) ?_
 refine rl (rfa 50) ?_
 refine gL (cR 52 rfl rfl rfl (bs.hc.get 50 _ rfl) kR rfl dE ?_)
 refine g4 ?_
 refine rl (rfa 18) ?_
 refine rl (bE 50 rfl rfl (bs.ho.get 18 _ rfl) kR dE) ?_
 refine rl (rfa 57) ?_
 refine gL (cR 52 rfl rfl rfl (bs.hc.get 57 _ rfl) kR rfl dE ?_)
 refine g5 ?_
 refine rl (rfa 11) ?_
 refine rZ5 (bE 50 rfl rfl (bs.ho.get 11 _ rfl) kR dE) ?_
 refine bJ (ι := (Nat) × (Option Addr) × (Nat) × (Nat) × (List Value) × (List Int) × (Option Addr) × (Nat) × (Nat) × (List Value) × (List Int)) (fun | ⟨k, q12, e12, n12, xs12, l12, q13, e13, n13, xs13, l13⟩ => (bL o).length - k) (fun | ⟨k, q12, e12, n12, xs12, l12, q13, e13, n13, xs13, l13⟩ => (k ≤ (bL o).length) ∧ (l12 = gC ((bL o).take k)) ∧ (n12 = l12.length) ∧ (xs12 = l12.map iV) ∧ (l13 = gB ((bL o).take k)) ∧ (n13 = l13.length) ∧ (xs13 = l13.map iV)) (fun | ⟨k, q12, e12, n12, xs12, l12, q13, e13, n13, xs13, l13⟩ => [(1, pT b1), (2, pT b2), (3, pT b3), (140, .slice x.pd (bL o).length x.cd), (141, iV ((bL o).length)), (142, iV k)]) (fun | ⟨k, q12, e12, n12, xs12, l12, q13, e13, n13, xs13, l13⟩ => ((52, b3) :: (51, b2) :: (50, b1) :: B)) (fun | ⟨k, q12, e12, n12, xs12, l12, q13, e13, n13, xs13, l13⟩ => (ky 52 49, .slice q13 n13 e13) :: (ky 52 48, .slice q12 n12 e12) :: (ky 52 57, .slice x.p18 (o.easter).length x.c18) :: (ky 52 50, .slice x.p12 (o.yday).length x.c12) :: (ky 52 47, .slice x.pm (bX o).length x.cm) :: H) (fun | ⟨k, q12, e12, n12, xs12, l12, q13, e13, n13, xs13, l13⟩ => (13, ⟨.slice q13 n13 e13, 3, 1, n13, xs13⟩) :: (12, ⟨.slice q12 n12 e12, 3, 1, n12, xs12⟩) :: S) ⟨0, none, 0, 0, [], [], none, 0, 0, [], []⟩ ⟨Nat.zero_le _, rfl, rfl, rfl, rfl, rfl, rfl⟩ kns (fun w s => by exact ((s.aJ6 12 3 1).aJ6 13 3 1).low 53 ((lY bs.lim)) agx (by exact Agr.pick (bs.hc.get 49 _ rfl) (Agr.pick (bs.hc.get 48 _ rfl) (Agr.refl _))) agx) ?_
 rintro ⟨k, q12, e12, n12, xs12, l12, q13, e13, n13, xs13, l13⟩ ⟨hk, hl12, hn12, hx12, hl13, hn13, hx13⟩
 show GC _ _ _ _ [(1, pT b1), (2, pT b2), (3, pT b3), (140, .slice x.pd (bL o).length x.cd), (141, iV ((bL o).length)), (142, iV k)] _ _ (((52, b3) :: (51, b2) :: (50, b1) :: B)) ((ky 52 49, .slice q13 n13 e13) :: (ky 52 48, .slice q12 n12 e12) :: (ky 52 57, .slice x.p18 (o.easter).length x.c18) :: (ky 52 50, .slice x.p12 (o.yday).length x.c12) :: (ky 52 47, .slice x.pm (bX o).length x.cm) :: H) ((13, ⟨.slice q13 n13 e13, 3, 1, n13, xs13⟩) :: (12, ⟨.slice q12 n12 e12, 3, 1, n12, xs12⟩) :: S)
 refine g6 ?_
 refine aB rfl (fun hc1 => ?_) (fun hc2 => ?_)
 ·have hlt : k < (bL o).length := by have := oT hc1; omega
  obtain ⟨y, hy⟩ : ∃ y, (bL o)[k]? = some y := ⟨_, List.getElem?_eq_getElem hlt⟩
  refine eA (fun w s => ((sd.cons (j := 12) dE).cons (j := 13) dE).head s oM) fun hh => ?_
  obtain ⟨by_, oy_, hp_y⟩ := hh
  have src_y := sd
  rw [hp_y] at src_y
  have hn12b : n12 ≤ 1000 := by rw [hn12, hl12]; unfold gC; exact Nat.le_trans (List.length_filter_le _ _) (by rw [List.length_take]; omega)
  have hn13b : n13 ≤ 1000 := by rw [hn13, hl13]; unfold gB; exact Nat.le_trans (List.length_filter_le _ _) (by rw [List.length_take]; omega)
  refine g6 ?_
  refine rl (aF (e := 3) (n := 1) kR (congrArg (fun p => some (Value.slice p _ _)) hp_y) rfl oM oM) ?_
  refine rZ9 (fR kR rfl (fun w s => ((src_y.cons dE).cons dE).cell hy s)) ?_
  refine aB rfl (fun hc1 => ?_) (fun hc2 => ?_)
  ·have hp1 : decide (0 < y) = true := hc1
   have hp2 : decide (y < 0) = false := by have := oT hc1; exact decide_eq_false oM
   refine g1 ?_
   refine rl (rfa 48) ?_
   refine rZ1 (rld 52 rfl rfl rfl) ?_
   refine gL (lU 60 (e := 3) (sz := 1) (by_ := 8) (zs := [iV 0]) dE kR rfl dE dE rfl rfl rfl (bs.lim.s 60 dE) (fun bo => ?_))
   refine gL (cU 12 60 (e := 3) (sz := 1) (by_ := 8) (zs := [iV 0]) dE kR rfl dE rfl rfl rfl rfl ⟨rfl, rfl⟩ ⟨rfl, rfl⟩ (f9 (xs := [y])) sO sO (fun p' c' => ?_))
   refine rl (rfa 48) ?_
   refine gL (sto 52 rfl rfl rfl rfl ?_)
   refine g7 ?_
   refine aQ ⟨k + 1, p', c', n12 + 1, xs12 ++ [iV y], l12 ++ [y], q13, e13, n13, xs13, l13⟩ sO ⟨by omega, by rw [hl12]; unfold gC; rw [dD hy]; simp [hp1], by rw [List.length_append, hn12]; rfl, by rw [hx12]; simp, by rw [hl13]; unfold gB; rw [dD hy]; simp [hp2], hn13, hx13⟩ kns (fun w s => by exact s.low 53 ((lY bs.lim)) agx agx agx)
  ·have hp1 : decide (0 < y) = false := hc2
   refine g6 ?_
   refine aB rfl (fun hc1 => ?_) (fun hc2 => ?_)
   ·have hp2 : decide (y < 0) = true := hc1
    refine g1 ?_
    refine rl (rfa 49) ?_
    refine rZ1 (rld 52 rfl rfl rfl) ?_
    refine gL (lU 60 (e := 3) (sz := 1) (by_ := 8) (zs := [iV 0]) dE kR rfl dE dE rfl rfl rfl (bs.lim.s 60 dE) (fun bo => ?_))
    refine gL (cU 13 60 (e := 3) (sz := 1) (by_ := 8) (zs := [iV 0]) dE kR rfl dE rfl rfl rfl rfl ⟨rfl, rfl⟩ ⟨rfl, rfl⟩ (f9 (xs := [y])) sO sO (fun p' c' => ?_))
    refine rl (rfa 49) ?_
    refine gL (sto 52 rfl rfl rfl rfl ?_)
    refine g7 ?_
    refine aQ ⟨k + 1, q12, e12, n12, xs12, l12, p', c', n13 + 1, xs13 ++ [iV y], l13 ++ [y]⟩ sO ⟨by omega, by rw [hl12]; unfold gC; rw [dD hy]; simp [hp1], hn12, hx12, by rw [hl13]; unfold gB; rw [dD hy]; simp [hp2], by rw [List.length_append, hn13]; rfl, by rw [hx13]; simp⟩ kns (fun w s => by exact s.low 53 ((lY bs.lim)) agx agx agx)
   ·have hp2 : decide (y < 0) = false := hc2
    refine g7 ?_
    refine aQ ⟨k + 1, q12, e12, n12, xs12, l12, q13, e13, n13, xs13, l13⟩ sO ⟨by omega, by rw [hl12]; unfold gC; rw [dD hy]; simp [hp1], hn12, hx12, by rw [hl13]; unfold gB; rw [dD hy]; simp [hp2], hn13, hx13⟩ kns (fun w s => by exact s.low 53 ((lY bs.lim)) agx agx agx)
 ·have hge : ¬ k < (bL o).length := by have := oF hc2; omega
  obtain rfl : k = (bL o).length := by omega
  rw [List.take_length] at hl12 hl13
  subst hl12 hl13 hn12 hn13 hx12 hx13
  refine g5 ?_
  refine dO (L' := [(1, pT b1), (2, pT b2), (3, pT b3)]) kns (fun w s => s) ?_
  refine bu_D (x := { x with q48 := q12, e48 := e12, q49 := q13, e49 := e13 }) ok hsort (H := (ky 52 49, .slice q13 (gB (bL o)).length e13) :: (ky 52 48, .slice q12 (gC (bL o)).length e12) :: (ky 52 57, .slice x.p18 (o.easter).length x.c18) :: (ky 52 50, .slice x.p12 (o.yday).length x.c12) :: (ky 52 47, .slice x.pm (bX o).length x.cm) :: H) (S := (13, ⟨.slice q13 (gB (bL o)).length e13, 3, 1, (gB (bL o)).length, (gB (bL o)).map iV⟩) :: (12, ⟨.slice q12 (gC (bL o)).length e12, 3, 1, (gC (bL o)).length, (gC (bL o)).map iV⟩) :: S) ⟨bs.ho, (cC (bs.hc.get 0 _ rfl) (cC (bs.hc.get 1 _ rfl) (cC (bs.hc.get 2 _ rfl) (cC (bs.hc.get 3 _ rfl) (cC (bs.hc.get 4 _ rfl) (cC (bs.hc.get 5 _ rfl) (cC (bs.hc.get 6 _ rfl) (cC (bs.hc.get 7 _ rfl) (cC (bs.hc.get 8 _ rfl) (cC (bs.hc.get 9 _ rfl) (cC (bs.hc.get 10 _ rfl) (cC (bs.hc.get 11 _ rfl) (cC (bs.hc.get 12 _ rfl) (cC (bs.hc.get 13 _ rfl) (cC (bs.hc.get 14 _ rfl) (cC (bs.hc.get 15 _ rfl) (cC (bs.hc.get 16 _ rfl) (cC (bs.hc.get 17 _ rfl) (cC (bs.hc.get 18 _ rfl) (cC (bs.hc.get 19 _ rfl) (cC (bs.hc.get 20 _ rfl) (cC (bs.hc.get 21 _ rfl) (cC (bs.hc.get 22 _ rfl) (cC (bs.hc.get 23 _ rfl) (cC (bs.hc.get 24 _ rfl) (cC (bs.hc.get 25 _ rfl) (cC (bs.hc.get 26 _ rfl) (cC (bs.hc.get 27 _ rfl) (cC (bs.hc.get 28 _ rfl) (cC (bs.hc.get 29 _ rfl) (cC (bs.hc.get 30 _ rfl) (cC (bs.hc.get 31 _ rfl) (cC (bs.hc.get 32 _ rfl) (cC (bs.hc.get 33 _ rfl) (cC (bs.hc.get 34 _ rfl) (cC (bs.hc.get 35 _ rfl) (cC (bs.hc.get 36 _ rfl) (cC (bs.hc.get 37 _ rfl) (cC (bs.hc.get 38 _ rfl) (cC (bs.hc.get 39 _ rfl) (cC (bs.hc.get 40 _ rfl) (cC (bs.hc.get 41 _ rfl) (cC (bs.hc.get 42 _ rfl) (cC (bs.hc.get 43 _ rfl) (cC (bs.hc.get 44 _ rfl) (cC (bs.hc.get 45 _ rfl) (cC (bs.hc.get 46 _ rfl) (cC rfl (cC rfl (cC rfl (cC rfl (cC (bs.hc.get 51 _ rfl) (cC (bs.hc.get 52 _ rfl) (cC (bs.hc.get 53 _ rfl) (cC (bs.hc.get 54 _ rfl) (cC (bs.hc.get 55 _ rfl) (cC (bs.hc.get 56 _ rfl) (cC rfl (cC (bs.hc.get 58 _ rfl) (cC (bs.hc.get 59 _ rfl) cN)))))))))))))))))))))))))))))))))))))))))))))))))))))))))))), (cG kX bs.h2), (lY bs.lim), bs.limB, (fX bs.frH), (fV bs.frS)⟩ ((s9.cons dE).cons dE) ((sm.cons dE).cons dE) ((s12.cons dE).cons dE) ((s13.cons dE).cons dE) ((sw.cons dE).cons dE) ((s15.cons dE).cons dE) ((s16.cons dE).cons dE) ((s17.cons dE).cons dE) ((s18.cons dE).cons dE) rfl rfl hR
end
end Go.Proofs.YtdbbifbmkfmbkaaGreat
