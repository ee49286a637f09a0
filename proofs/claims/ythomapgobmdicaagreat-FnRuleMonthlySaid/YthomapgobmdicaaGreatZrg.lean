import Derived.Test.YthomapgobmdicaaGreatZrf
set_option linter.unusedVariables false
set_option linter.unusedSimpArgs false
set_option maxRecDepth 100000
set_option maxHeartbeats 8000000
namespace Go.Proofs.YthomapgobmdicaaGreat
open Go.RowKit Go.Fr Go.Tab
section
variable {F : Nat -> Prop} {w0 : World} {B : LN} {H : LV} {S : LS}
open Go.Md
structure Av where
 p9 : Option Addr
 p10 : Option Addr
 p11 : Option Addr
 p12 : Option Addr
 p13 : Option Addr
 p14 : Option Addr
 p15 : Option Addr
 p16 : Option Addr
 p17 : Option Addr
 p18 : Option Addr
 c9 : Nat
 c10 : Nat
 c11 : Nat
 c12 : Nat
 c13 : Nat
 c14 : Nat
 c15 : Nat
 c16 : Nat
 c17 : Nat
 c18 : Nat
 pm : Option Addr
 pd : Option Addr
 pw : Option Addr
 q48 : Option Addr
 q49 : Option Addr
 q52 : Option Addr
 q53 : Option Addr
 q54 : Option Addr
 q55 : Option Addr
 q56 : Option Addr
 tp : Option Addr
 cm : Nat
 cd : Nat
 cw : Nat
 e48 : Nat
 e49 : Nat
 e52 : Nat
 e53 : Nat
 e54 : Nat
 e55 : Nat
 e56 : Nat
 tc : Nat
def oc0 (o : Opn) (x : Av) : List Value := [iV o.aP2, iV o.d, iV 0, iV o.aPp, iV o.aPq, iV 0, iV o.count, iV o.u, iV 0, .slice x.p9 (o.aPz).length x.c9, .slice x.p10 (o.aPt).length x.c10, .slice x.p11 (o.aPu).length x.c11, .slice x.p12 (o.aPw).length x.c12, .slice x.p13 (o.aPx).length x.c13, .slice x.p14 (o.wday).length x.c14, .slice x.p15 (o.hour).length x.c15, .slice x.p16 (o.aPr).length x.c16, .slice x.p17 (o.aPs).length x.c17, .slice x.p18 (o.aPy).length x.c18]
def oc1 (o : Opn) (x : Av) : List Value := [iV o.aP2, iV o.d, iV 0, iV o.aPp, iV o.aPq, iV 0, iV o.count, iV o.u, iV 0, .slice x.p9 (o.aPz).length x.c9, .slice x.pm (bZ o).length x.cm, .slice x.pd (bN o).length x.cd, .slice x.p12 (o.aPw).length x.c12, .slice x.p13 (o.aPx).length x.c13, .slice x.pw (bP o).length x.cw, .slice x.p15 (o.hour).length x.c15, .slice x.p16 (o.aPr).length x.c16, .slice x.p17 (o.aPs).length x.c17, .slice x.p18 (o.aPy).length x.c18]
def rcA (o : Opn) (x : Av) : List Value := [iV o.aP2, iV o.d, iV 0, iV o.aPp, iV o.aPq, iV 0, iV o.count, iV o.u, iV 0, .slice x.p9 (o.aPz).length x.c9, .slice x.p10 (o.aPt).length x.c10, .slice x.p11 (o.aPu).length x.c11, .slice x.p12 (o.aPw).length x.c12, .slice x.p13 (o.aPx).length x.c13, .slice x.p14 (o.wday).length x.c14, .slice x.p15 (o.hour).length x.c15, .slice x.p16 (o.aPr).length x.c16, .slice x.p17 (o.aPs).length x.c17, .slice x.p18 (o.aPy).length x.c18, iV 0, iV 0, iV 0, iV 0, iV 0, iV 0, iV 0, iV 0, iV 0, sN, sN, sN, sN, sN, sN, sN, sN, sN, sN, iV o.aP2, iV o.d, iV 0, iV o.aPp, iV o.aPq, iV o.count, iV (until0 o), iV (until1 o), .slice x.p9 (o.aPz).length x.c9, sN, sN, sN, sN, sN, sN, sN, sN, sN, sN, sN, sN, iV 0]
def rcC (o : Opn) (x : Av) : List Value := [iV o.aP2, iV o.d, iV 0, iV o.aPp, iV o.aPq, iV 0, iV o.count, iV o.u, iV 0, .slice x.p9 (o.aPz).length x.c9, .slice x.p10 (o.aPt).length x.c10, .slice x.p11 (o.aPu).length x.c11, .slice x.p12 (o.aPw).length x.c12, .slice x.p13 (o.aPx).length x.c13, .slice x.p14 (o.wday).length x.c14, .slice x.p15 (o.hour).length x.c15, .slice x.p16 (o.aPr).length x.c16, .slice x.p17 (o.aPs).length x.c17, .slice x.p18 (o.aPy).length x.c18, iV 0, iV 0, iV 0, iV 0, iV 0, iV 0, iV 0, iV 0, iV 0, sN, sN, sN, sN, sN, sN, sN, sN, sN, sN, iV o.aP2, iV o.d, iV 0, iV o.aPp, iV o.aPq, iV o.count, iV (until0 o), iV (until1 o), .slice x.p9 (o.aPz).length x.c9, .slice x.pm (bZ o).length x.cm, .slice x.q48 (iE (bN o)).length x.e48, .slice x.q49 (iD (bN o)).length x.e49, .slice x.p12 (o.aPw).length x.c12, sN, sN, sN, sN, sN, sN, .slice x.p18 (o.aPy).length x.c18, sN, iV 0]
def rcD (o : Opn) (x : Av) : List Value := [iV o.aP2, iV o.d, iV 0, iV o.aPp, iV o.aPq, iV 0, iV o.count, iV o.u, iV 0, .slice x.p9 (o.aPz).length x.c9, .slice x.p10 (o.aPt).length x.c10, .slice x.p11 (o.aPu).length x.c11, .slice x.p12 (o.aPw).length x.c12, .slice x.p13 (o.aPx).length x.c13, .slice x.p14 (o.wday).length x.c14, .slice x.p15 (o.hour).length x.c15, .slice x.p16 (o.aPr).length x.c16, .slice x.p17 (o.aPs).length x.c17, .slice x.p18 (o.aPy).length x.c18, iV 0, iV 0, iV 0, iV 0, iV 0, iV 0, iV 0, iV 0, iV 0, sN, sN, sN, sN, sN, sN, sN, sN, sN, sN, iV o.aP2, iV o.d, iV 0, iV o.aPp, iV o.aPq, iV o.count, iV (until0 o), iV (until1 o), .slice x.p9 (o.aPz).length x.c9, .slice x.pm (bZ o).length x.cm, .slice x.q48 (iE (bN o)).length x.e48, .slice x.q49 (iD (bN o)).length x.e49, .slice x.p12 (o.aPw).length x.c12, .slice x.p13 (o.aPx).length x.c13, .slice x.q52 (((bP o).filter (bR o.aP2)).map Prod.fst).length x.e52, .slice x.q53 ((bP o).filter fun y => !bR o.aP2 y).length x.e53, sN, sN, sN, .slice x.p18 (o.aPy).length x.c18, sN, iV 0]
def rcE (o : Opn) (x : Av) : List Value := [iV o.aP2, iV o.d, iV 0, iV o.aPp, iV o.aPq, iV 0, iV o.count, iV o.u, iV 0, .slice x.p9 (o.aPz).length x.c9, .slice x.p10 (o.aPt).length x.c10, .slice x.p11 (o.aPu).length x.c11, .slice x.p12 (o.aPw).length x.c12, .slice x.p13 (o.aPx).length x.c13, .slice x.p14 (o.wday).length x.c14, .slice x.p15 (o.hour).length x.c15, .slice x.p16 (o.aPr).length x.c16, .slice x.p17 (o.aPs).length x.c17, .slice x.p18 (o.aPy).length x.c18, iV 0, iV 0, iV 0, iV 0, iV 0, iV 0, iV 0, iV 0, iV 0, sN, sN, sN, sN, sN, sN, sN, sN, sN, sN, iV o.aP2, iV o.d, iV 0, iV o.aPp, iV o.aPq, iV o.count, iV (until0 o), iV (until1 o), .slice x.p9 (o.aPz).length x.c9, .slice x.pm (bZ o).length x.cm, .slice x.q48 (iE (bN o)).length x.e48, .slice x.q49 (iD (bN o)).length x.e49, .slice x.p12 (o.aPw).length x.c12, .slice x.p13 (o.aPx).length x.c13, .slice x.q52 (((bP o).filter (bR o.aP2)).map Prod.fst).length x.e52, .slice x.q53 ((bP o).filter fun y => !bR o.aP2 y).length x.e53, .slice x.q54 (cT o).length x.e54, sN, sN, .slice x.p18 (o.aPy).length x.c18, sN, iV 0]
def rcF (o : Opn) (x : Av) : List Value := [iV o.aP2, iV o.d, iV 0, iV o.aPp, iV o.aPq, iV 0, iV o.count, iV o.u, iV 0, .slice x.p9 (o.aPz).length x.c9, .slice x.p10 (o.aPt).length x.c10, .slice x.p11 (o.aPu).length x.c11, .slice x.p12 (o.aPw).length x.c12, .slice x.p13 (o.aPx).length x.c13, .slice x.p14 (o.wday).length x.c14, .slice x.p15 (o.hour).length x.c15, .slice x.p16 (o.aPr).length x.c16, .slice x.p17 (o.aPs).length x.c17, .slice x.p18 (o.aPy).length x.c18, iV 0, iV 0, iV 0, iV 0, iV 0, iV 0, iV 0, iV 0, iV 0, sN, sN, sN, sN, sN, sN, sN, sN, sN, sN, iV o.aP2, iV o.d, iV 0, iV o.aPp, iV o.aPq, iV o.count, iV (until0 o), iV (until1 o), .slice x.p9 (o.aPz).length x.c9, .slice x.pm (bZ o).length x.cm, .slice x.q48 (iE (bN o)).length x.e48, .slice x.q49 (iD (bN o)).length x.e49, .slice x.p12 (o.aPw).length x.c12, .slice x.p13 (o.aPx).length x.c13, .slice x.q52 (((bP o).filter (bR o.aP2)).map Prod.fst).length x.e52, .slice x.q53 ((bP o).filter fun y => !bR o.aP2 y).length x.e53, .slice x.q54 (cT o).length x.e54, .slice x.q55 (bI o).length x.e55, sN, .slice x.p18 (o.aPy).length x.c18, sN, iV 0]
def rcG (o : Opn) (x : Av) : List Value := [iV o.aP2, iV o.d, iV 0, iV o.aPp, iV o.aPq, iV 0, iV o.count, iV o.u, iV 0, .slice x.p9 (o.aPz).length x.c9, .slice x.p10 (o.aPt).length x.c10, .slice x.p11 (o.aPu).length x.c11, .slice x.p12 (o.aPw).length x.c12, .slice x.p13 (o.aPx).length x.c13, .slice x.p14 (o.wday).length x.c14, .slice x.p15 (o.hour).length x.c15, .slice x.p16 (o.aPr).length x.c16, .slice x.p17 (o.aPs).length x.c17, .slice x.p18 (o.aPy).length x.c18, iV 0, iV 0, iV 0, iV 0, iV 0, iV 0, iV 0, iV 0, iV 0, sN, sN, sN, sN, sN, sN, sN, sN, sN, sN, iV o.aP2, iV o.d, iV 0, iV o.aPp, iV o.aPq, iV o.count, iV (until0 o), iV (until1 o), .slice x.p9 (o.aPz).length x.c9, .slice x.pm (bZ o).length x.cm, .slice x.q48 (iE (bN o)).length x.e48, .slice x.q49 (iD (bN o)).length x.e49, .slice x.p12 (o.aPw).length x.c12, .slice x.p13 (o.aPx).length x.c13, .slice x.q52 (((bP o).filter (bR o.aP2)).map Prod.fst).length x.e52, .slice x.q53 ((bP o).filter fun y => !bR o.aP2 y).length x.e53, .slice x.q54 (cT o).length x.e54, .slice x.q55 (bI o).length x.e55, .slice x.q56 (bM o).length x.e56, .slice x.p18 (o.aPy).length x.c18, sN, iV 0]
def rcI (o : Opn) (x : Av) : List Value := [iV o.aP2, iV o.d, iV 0, iV o.aPp, iV o.aPq, iV 0, iV o.count, iV o.u, iV 0, .slice x.p9 (o.aPz).length x.c9, .slice x.p10 (o.aPt).length x.c10, .slice x.p11 (o.aPu).length x.c11, .slice x.p12 (o.aPw).length x.c12, .slice x.p13 (o.aPx).length x.c13, .slice x.p14 (o.wday).length x.c14, .slice x.p15 (o.hour).length x.c15, .slice x.p16 (o.aPr).length x.c16, .slice x.p17 (o.aPs).length x.c17, .slice x.p18 (o.aPy).length x.c18, iV 0, iV 0, iV 0, iV 0, iV 0, iV 0, iV 0, iV 0, iV 0, sN, sN, sN, sN, sN, sN, sN, sN, sN, sN, iV o.aP2, iV o.d, iV 0, iV o.aPp, iV o.aPq, iV o.count, iV (until0 o), iV (until1 o), .slice x.p9 (o.aPz).length x.c9, .slice x.pm (bZ o).length x.cm, .slice x.q48 (iE (bN o)).length x.e48, .slice x.q49 (iD (bN o)).length x.e49, .slice x.p12 (o.aPw).length x.c12, .slice x.p13 (o.aPx).length x.c13, .slice x.q52 (((bP o).filter (bR o.aP2)).map Prod.fst).length x.e52, .slice x.q53 ((bP o).filter fun y => !bR o.aP2 y).length x.e53, .slice x.q54 (cT o).length x.e54, .slice x.q55 (bI o).length x.e55, .slice x.q56 (bM o).length x.e56, .slice x.p18 (o.aPy).length x.c18, .slice x.tp (l7 o).length x.tc, iV 0]
def j8 (o : Opn) (x : Av) : List Value := [iV o.aP2, iV o.d, iV 0, iV o.aPp, iV o.aPq, iV 0, iV o.count, iV o.u, iV 0, .slice x.p9 (o.aPz).length x.c9, .slice x.p10 (o.aPt).length x.c10, .slice x.p11 (o.aPu).length x.c11, .slice x.p12 (o.aPw).length x.c12, .slice x.p13 (o.aPx).length x.c13, .slice x.p14 (o.wday).length x.c14, .slice x.p15 (o.hour).length x.c15, .slice x.p16 (o.aPr).length x.c16, .slice x.p17 (o.aPs).length x.c17, .slice x.p18 (o.aPy).length x.c18, iV o.aP2, iV o.d, iV 0, iV o.aPp, iV o.aPq, iV 0, iV o.count, iV o.u, iV 0, .slice x.p9 (o.aPz).length x.c9, .slice x.pm (bZ o).length x.cm, .slice x.pd (bN o).length x.cd, .slice x.p12 (o.aPw).length x.c12, .slice x.p13 (o.aPx).length x.c13, .slice x.pw (bP o).length x.cw, .slice x.p15 (o.hour).length x.c15, .slice x.p16 (o.aPr).length x.c16, .slice x.p17 (o.aPs).length x.c17, .slice x.p18 (o.aPy).length x.c18, iV o.aP2, iV o.d, iV 0, iV o.aPp, iV o.aPq, iV o.count, iV (until0 o), iV (until1 o), .slice x.p9 (o.aPz).length x.c9, .slice x.pm (bZ o).length x.cm, .slice x.q48 (iE (bN o)).length x.e48, .slice x.q49 (iD (bN o)).length x.e49, .slice x.p12 (o.aPw).length x.c12, .slice x.p13 (o.aPx).length x.c13, .slice x.q52 (((bP o).filter (bR o.aP2)).map Prod.fst).length x.e52, .slice x.q53 ((bP o).filter fun y => !bR o.aP2 y).length x.e53, .slice x.q54 (cT o).length x.e54, .slice x.q55 (bI o).length x.e55, .slice x.q56 (bM o).length x.e56, .slice x.p18 (o.aPy).length x.c18, .slice x.tp (l7 o).length x.tc, iV 0]
structure Bs (F : Nat -> Prop) (w0 : World) (B : LN) (H0 : LV) (S0 : LS) (b1 b2 b3 : Nat) (ocs rcs : List Value) (H : LV) (S : LS) : Prop where
 ho : cellsAt 50 H 0 ocs
 hc : cellsAt 52 H 0 rcs
 h2 : knwn 51 H 0 60 = true
 lim : Lim 53 ((52, b3) :: (51, b2) :: (50, b1) :: B) H S
 limB : Lim 40 B H0 S0
 frH : ∀ k, k < 40 -> ∀ o, o < 4096 -> lkp (ky k o) H = lkp (ky k o) H0
 frS : ∀ k, k < 53 -> ¬(k = 2 \/ (12 <= k /\ k <= 25)) -> lkp k S = lkp k S0
structure OpOk (o : Opn) : Prop where
 aP2 : 0 <= o.aP2 /\ o.aP2 <= 6
 d : 1 <= o.d /\ o.d <= 400000000000
 aPp : 1 <= o.aPp /\ o.aPp <= 1000
 count : 0 <= o.count /\ o.count <= 1000000000
 u : 0 <= o.u /\ o.u <= 400000000000
 aPu : o.aPu.length <= 1000
 wday : o.wday.length <= 1000
 hour : o.hour.length <= 400
 aPr : o.aPr.length <= 400
 aPs : o.aPs.length <= 400
 hours : ∀ x ∈ o.hour, 0 <= x /\ x <= 23
 minutes : ∀ x ∈ o.aPr, 0 <= x /\ x <= 59
 seconds : ∀ x ∈ o.aPs, 0 <= x /\ x <= 59
structure OutF (F : Nat -> Prop) (w0 : World) (o : Opn) (x : Av) (S0 S : LS) : Prop where
 s9 : SrcT F w0 S 11 (.slice x.p9 (o.aPz).length x.c9) o.aPz
 sm : SrcT F w0 S 16 (.slice x.pm (bZ o).length x.cm) (bZ o)
 s12 : SrcT F w0 S 11 (.slice x.p12 (o.aPw).length x.c12) o.aPw
 s13 : SrcT F w0 S 11 (.slice x.p13 (o.aPx).length x.c13) o.aPx
 s18 : SrcT F w0 S 11 (.slice x.p18 (o.aPy).length x.c18) o.aPy
 r12 : lkp 12 S = some ⟨.slice x.q48 (iE (bN o)).length x.e48, 3, 1, (iE (bN o)).length, (iE (bN o)).map iV⟩
 r13 : lkp 13 S = some ⟨.slice x.q49 (iD (bN o)).length x.e49, 3, 1, (iD (bN o)).length, (iD (bN o)).map iV⟩
 r14 : lkp 14 S = some ⟨.slice x.q52 (((bP o).filter (bR o.aP2)).map Prod.fst).length x.e52, 3, 1, (((bP o).filter (bR o.aP2)).map Prod.fst).length, (((bP o).filter (bR o.aP2)).map Prod.fst).map iV⟩
 r15 : lkp 15 S = some ⟨.slice x.q53 ((bP o).filter fun y => !bR o.aP2 y).length x.e53, 82, 2, ((bP o).filter fun y => !bR o.aP2 y).length, eB ((bP o).filter fun y => !bR o.aP2 y)⟩
 sh : SrcT F w0 S 18 (.slice x.q54 (cT o).length x.e54) (cT o)
 si : SrcT F w0 S 19 (.slice x.q55 (bI o).length x.e55) (bI o)
 ss : SrcT F w0 S 20 (.slice x.q56 (bM o).length x.e56) (bM o)
 r2 : o.aP2 < 4 -> lkp 2 S = some ⟨.slice x.tp (l7 o).length x.tc, 80, 2, (l7 o).length, bS (l7 o)⟩
 fr : ∀ k, k < 53 -> ¬(k = 2 \/ (12 <= k /\ k <= 25)) -> lkp k S = lkp k S0
 lim : ∀ k, 53 <= k -> lkp k S = none
def Knw (H' H : LV) : Prop := ∀ q, (lkp q H).isSome = true -> (lkp q H').isSome = true
theorem Knw.refl (H : LV) : Knw H H := fun _ h => h
theorem Knw.cons {H' H : LV} {q : Nat} {v : Value} (h : Knw H' H) : Knw ((q, v) :: H') H := fun k hk => by
 by_cases e : k = q
 .subst e; rw [bJ]; rfl
 .rw [aA e]; exact h k hk
theorem cL {H' H : LV} (h : Knw H' H) {j : Nat} : ∀ {n o : Nat}, knwn j H o n = true -> knwn j H' o n = true
 | 0, _, _ => rfl
 | n + 1, o, hk => by
  simp only [knwn, Bool.and_eq_true] at hk ⊢
  exact ⟨h _ hk.1, cL h hk.2⟩
theorem Knw.seq {H : LV} {j : Nat} : ∀ (cs : List Value) (o : Nat) {H' : LV}, Knw H' H -> Knw (dL j o cs H') H
 | [], _, _, h => h
 | v :: r, o, _, h => Knw.seq r (o + 1) h.cons
theorem eG {j : Nat} {H : LV} : ∀ {cs : List Value} {o : Nat}, cellsAt j H o cs -> ∀ (a n : Nat), a + n <= cs.length -> knwn j H (o + a) n = true
 | cs, o, h, a, 0, hl => rfl
 | cs, o, h, a, n + 1, hl => by
  have h1 := h.get a _ (List.getElem?_eq_getElem oM)
  simp only [knwn, h1, Option.isSome_some, Bool.true_and]
  exact eG h (a + 1) n oM
theorem gF {j : Nat} : ∀ (cs : List Value) (o q : Nat) {H : LV}, q < o -> o + cs.length <= 4096 -> lkp (ky j q) (dL j o cs H) = lkp (ky j q) H
 | [], _, _, _, _, _ => rfl
 | v :: r, o, q, H, hq, hl => by
  simp only [List.length_cons] at hl
  show lkp (ky j q) (dL j (o + 1) r ((ky j o, v) :: H)) = _
  rw [gF r (o + 1) q oM oM, aA (by unfold ky; omega)]
theorem aP {j : Nat} : ∀ (cs : List Value) (o : Nat) {H : LV}, o + cs.length <= 4096 -> ∀ (i : Nat) (v : Value), cs[i]? = some v -> lkp (ky j (o + i)) (dL j o cs H) = some v
 | [], _, _, _, i, v, h => by simp at h
 | u :: r, o, H, hl, 0, v, h => by
  cases h
  simp only [List.length_cons] at hl
  show lkp (ky j (o + 0)) (dL j (o + 1) r ((ky j o, u) :: H)) = _
  rw [Nat.add_zero, gF r (o + 1) o oM oM, bJ]
 | u :: r, o, H, hl, i + 1, v, h => by
  simp only [List.length_cons] at hl
  show lkp (ky j (o + (i + 1))) (dL j (o + 1) r ((ky j o, u) :: H)) = _
  have := aP (j := j) r (o + 1) (H := (ky j o, u) :: H) oM i v (by simpa using h)
  rwa [show o + 1 + i = o + (i + 1) by omega] at this
theorem Sees.back3 {b1 b2 b3 : Nat} {H0 : LV} {S0 : LS} {w : World} (s : Sees F w0 ((52, b3) :: (51, b2) :: (50, b1) :: B) H S w) (hl : Lim 40 B H0 S0) (hfr : ∀ k, k < 40 -> ∀ o, o < 4096 -> lkp (ky k o) H = lkp (ky k o) H0) : Sees F w0 B H0 S w :=
 s.to (fun k b h => by
  have hk : k < 40 := by
   rcases Nat.lt_or_ge k 40 with h' | h'
   .exact h'
   .rw [hl.b k h'] at h; cases h
  rw [aA oM, aA oM, aA oM]; exact h) (fun k o v ho h => by
  have hk : k < 40 := by
   rcases Nat.lt_or_ge k 40 with h' | h'
   .exact h'
   .rw [hl.h k h' o ho] at h; cases h
  have h1 := (hfr k hk o ho).trans h
  obtain ⟨b, e, _⟩ := s.cells k o v ho h1
  rw [aA oM, aA oM, aA oM] at e
  exact ⟨h1, by rw [e]; rfl⟩) (fun k q h => h)
theorem uN {o : Opn} (ok : OpOk o) : ∀ x ∈ cT o, 0 <= x /\ x <= 23 := by
 have hd := ok.d
 intro x hx
 unfold cT at hx
 split at hx
 .split at hx
  .simp at hx; omega
  .simp at hx
 .exact ok.hours x hx
theorem qH {o : Opn} (ok : OpOk o) : ∀ x ∈ bI o, 0 <= x /\ x <= 59 := by
 have hd := ok.d
 intro x hx
 unfold bI at hx
 split at hx
 .split at hx
  .simp at hx; omega
  .simp at hx
 .exact ok.minutes x hx
theorem qA {o : Opn} (ok : OpOk o) : ∀ x ∈ bM o, 0 <= x /\ x <= 59 := by
 have hd := ok.d
 intro x hx
 unfold bM at hx
 split at hx
 .split at hx
  .simp at hx; omega
  .simp at hx
 .exact ok.seconds x hx
theorem aGh {o : Opn} (ok : OpOk o) : (cT o).length <= 400 := by
 unfold cT; split
 .split <;> simp
 .exact ok.hour
theorem aDv {o : Opn} (ok : OpOk o) : (bI o).length <= 400 := by
 unfold bI; split
 .split <;> simp
 .exact ok.aPr
theorem aCh {o : Opn} (ok : OpOk o) : (bM o).length <= 400 := by
 unfold bM; split
 .split <;> simp
 .exact ok.aPs
def kV (F : Nat -> Prop) (w0 : World) (ts : List Int) : Prop := ∀ (B : LN) (H : LV) (S : LS) (p : Option Addr) (c : Nat) (w : World), Lim 60 B H S -> lkp 2 S = some ⟨.slice p ts.length c, 80, 2, ts.length, bS ts⟩ -> Sees F w0 B H S w ->
 Calls Tryz.prog 93 #[.iface 141 (.slice p ts.length c)] w fun e w' => e = .returned (.tuple #[]) /\ Sees F w0 B H ((2, ⟨.slice p ts.length c, 80, 2, ts.length, bS (eM ts)⟩) :: S) w'
end
abbrev yS9 (F : Nat -> Prop) (w0 : World) (S : LS) (x : Av) (o : Go.Md.Opn) : Prop := SrcT F w0 S 11 (.slice x.p9 (o.aPz).length x.c9) o.aPz
abbrev aHo (F : Nat -> Prop) (w0 : World) (S : LS) (x : Av) (o : Go.Md.Opn) : Prop := SrcT F w0 S 11 (.slice x.p10 (o.aPt).length x.c10) o.aPt
abbrev aGy (F : Nat -> Prop) (w0 : World) (S : LS) (x : Av) (o : Go.Md.Opn) : Prop := SrcT F w0 S 11 (.slice x.p11 (o.aPu).length x.c11) o.aPu
abbrev u5 (F : Nat -> Prop) (w0 : World) (S : LS) (x : Av) (o : Go.Md.Opn) : Prop := SrcT F w0 S 11 (.slice x.p12 (o.aPw).length x.c12) o.aPw
abbrev uK (F : Nat -> Prop) (w0 : World) (S : LS) (x : Av) (o : Go.Md.Opn) : Prop := SrcT F w0 S 11 (.slice x.p13 (o.aPx).length x.c13) o.aPx
abbrev aBk (F : Nat -> Prop) (w0 : World) (S : LS) (x : Av) (o : Go.Md.Opn) : Prop := SrcT F w0 S 11 (.slice x.p15 (o.hour).length x.c15) o.hour
abbrev zM (F : Nat -> Prop) (w0 : World) (S : LS) (x : Av) (o : Go.Md.Opn) : Prop := SrcT F w0 S 11 (.slice x.p16 (o.aPr).length x.c16) o.aPr
abbrev xP (F : Nat -> Prop) (w0 : World) (S : LS) (x : Av) (o : Go.Md.Opn) : Prop := SrcT F w0 S 11 (.slice x.p17 (o.aPs).length x.c17) o.aPs
abbrev uY (F : Nat -> Prop) (w0 : World) (S : LS) (x : Av) (o : Go.Md.Opn) : Prop := SrcT F w0 S 11 (.slice x.p18 (o.aPy).length x.c18) o.aPy
open Go.RowKit Go.Fr Go.Tab
section
variable {F : Nat -> Prop} {w0 : World} {B : LN} {H : LV} {S : LS}
open Go.Md
theorem bu_J {R : Ending -> World -> Prop} {o : Opn} {x : Av} {b1 b2 b3 : Nat} {H0 : LV} {S0 : LS} (ok : OpOk o) (hsort : o.aP2 < 4 -> kV F w0 (raw o)) (bs : Bs F w0 B H0 S0 b1 b2 b3 (oc1 o x) (rcI o x) H S) (s9 : yS9 F w0 S x o) (sm : SrcT F w0 S 16 (.slice x.pm (bZ o).length x.cm) (bZ o)) (s12 : u5 F w0 S x o) (s13 : uK F w0 S x o) (s18 : uY F w0 S x o) (r12 : lkp 12 S = some ⟨.slice x.q48 (iE (bN o)).length x.e48, 3, 1, (iE (bN o)).length, (iE (bN o)).map iV⟩) (r13 : lkp 13 S = some ⟨.slice x.q49 (iD (bN o)).length x.e49, 3, 1, (iD (bN o)).length, (iD (bN o)).map iV⟩) (r14 : lkp 14 S = some ⟨.slice x.q52 (((bP o).filter (bR o.aP2)).map Prod.fst).length x.e52, 3, 1, (((bP o).filter (bR o.aP2)).map Prod.fst).length, (((bP o).filter (bR o.aP2)).map Prod.fst).map iV⟩) (r15 : lkp 15 S = some ⟨.slice x.q53 ((bP o).filter fun y => !bR o.aP2 y).length x.e53, 82, 2, ((bP o).filter fun y => !bR o.aP2 y).length, eB ((bP o).filter fun y => !bR o.aP2 y)⟩) (sh : SrcT F w0 S 18 (.slice x.q54 (cT o).length x.e54) (cT o)) (si : SrcT F w0 S 19 (.slice x.q55 (bI o).length x.e55) (bI o)) (ss : SrcT F w0 S 20 (.slice x.q56 (bM o).length x.e56) (bM o)) (r2 : o.aP2 < 4 -> lkp 2 S = some ⟨.slice x.tp (l7 o).length x.tc, 80, 2, (l7 o).length, bS (l7 o)⟩)  (hR : ∀ (x : Av) (S' : LS), OutF F w0 o x S0 S' -> ∀ w, Sees F w0 B H0 S' w -> R (.returned (.agg (j8 o x).toArray)) w) : GC Tryz.prog (Go.Fr.part [1, 1, 1, 1, 1, 1, 1, 1, 1, 1, 1, 1, 1, 1, 1, 1, 1, 1, 1, 1, 1, 1, 1, 1, 1, 1] (Go.Fr.bodyOf Tryz.f67)) (bodyPost Tryz.prog Tryz.f67 R) 300 [(1, pT b1), (2, pT b2), (3, pT b3)] F w0 ((52, b3) :: (51, b2) :: (50, b1) :: B) H S := by
 have ok_ := ok
 refine g2 ?_
 refine rZ1 ((dC 50 (cs := oc1 o x) rfl rfl bs.ho.get ble kR)) ?_
 refine gL (cI 52 (cs := (oc1 o x).toArray) rfl rfl rfl (eG bs.hc 19 19 ble) kR rfl ble (g4 ?_))
 have hcJ : cellsAt 52 (dL 52 19 (oc1 o x) H) 0 (j8 o x) := (cA bs.hc)
 refine aF0 (fun a k => k) (fun w s => s) (H' := (dL 52 19 (oc1 o x) H)) ?_
 refine rl ((dC 52 (cs := j8 o x) rfl rfl hcJ.get ble kR)) (gL (cI 51 (cs := (j8 o x).toArray) rfl rfl rfl (cL (Knw.seq _ _ (Knw.refl _)) bs.h2) kR rfl ble (g3 ?_)))
 refine aT (.inl rfl) rfl (lF 51 (cs := j8 o x) rfl rfl (fun i v h => by have := aP (j := 51) (j8 o x) 0 (H := (dL 52 19 (oc1 o x) H)) ble i v h; rwa [Nat.zero_add] at this) ble kR) fun w s => ?_
 refine hR x S ⟨s9, sm, s12, s13, s18, r12, r13, r14, r15, sh, si, ss, r2, bs.frS, bs.lim.s⟩ w (Sees.back3 s bs.limB (fun k hk o_ ho_ => ?_))
 exact (dA oM ho_ _ _ ble).trans ((dA oM ho_ _ _ ble).trans (bs.frH k hk o_ ho_))
theorem aMz {R : Ending -> World -> Prop} {o : Opn} {x : Av} {b1 b2 b3 : Nat} {H0 : LV} {S0 : LS} (ok : OpOk o) (hsort : o.aP2 < 4 -> kV F w0 (raw o)) (bs : Bs F w0 B H0 S0 b1 b2 b3 (oc1 o x) (rcG o x) H S) (s9 : yS9 F w0 S x o) (sm : SrcT F w0 S 16 (.slice x.pm (bZ o).length x.cm) (bZ o)) (s12 : u5 F w0 S x o) (s13 : uK F w0 S x o) (s18 : uY F w0 S x o) (r12 : lkp 12 S = some ⟨.slice x.q48 (iE (bN o)).length x.e48, 3, 1, (iE (bN o)).length, (iE (bN o)).map iV⟩) (r13 : lkp 13 S = some ⟨.slice x.q49 (iD (bN o)).length x.e49, 3, 1, (iD (bN o)).length, (iD (bN o)).map iV⟩) (r14 : lkp 14 S = some ⟨.slice x.q52 (((bP o).filter (bR o.aP2)).map Prod.fst).length x.e52, 3, 1, (((bP o).filter (bR o.aP2)).map Prod.fst).length, (((bP o).filter (bR o.aP2)).map Prod.fst).map iV⟩) (r15 : lkp 15 S = some ⟨.slice x.q53 ((bP o).filter fun y => !bR o.aP2 y).length x.e53, 82, 2, ((bP o).filter fun y => !bR o.aP2 y).length, eB ((bP o).filter fun y => !bR o.aP2 y)⟩) (sh : SrcT F w0 S 18 (.slice x.q54 (cT o).length x.e54) (cT o)) (si : SrcT F w0 S 19 (.slice x.q55 (bI o).length x.e55) (bI o)) (ss : SrcT F w0 S 20 (.slice x.q56 (bM o).length x.e56) (bM o))  (hR : ∀ (x : Av) (S' : LS), OutF F w0 o x S0 S' -> ∀ w, Sees F w0 B H0 S' w -> R (.returned (.agg (j8 o x).toArray)) w) : GC Tryz.prog (Go.Fr.part [1, 1, 1, 1, 1, 1, 1, 1, 1, 1, 1, 1, 1, 1, 1, 1, 1, 1, 1, 1, 1, 1, 1, 1] (Go.Fr.bodyOf Tryz.f67)) (bodyPost Tryz.prog Tryz.f67 R) 300 [(1, pT b1), (2, pT b2), (3, pT b3)] F w0 ((52, b3) :: (51, b2) :: (50, b1) :: B) H S := by
 have ok_ := ok
 have la := aGh ok
 have lb := aDv ok
 have lc := aCh ok
 have hm1 : (((cT o).length : Nat) : Int) * (((bI o).length : Nat) : Int) = (((cT o).length * (bI o).length : Nat) : Int) := by rw [Int.natCast_mul]
 have hm2 : (((cT o).length * (bI o).length : Nat) : Int) * (((bM o).length : Nat) : Int) = (((cT o).length * (bI o).length * (bM o).length : Nat) : Int) := by rw [Int.natCast_mul (_ * _)]
 have hP1 : (cT o).length * (bI o).length <= 400 * 400 := Nat.mul_le_mul la lb
 have hP2 : (cT o).length * (bI o).length * (bM o).length <= 400 * 400 * 400 := Nat.mul_le_mul hP1 lc
 have hP3 : (bI o).length * (bM o).length <= 400 * 400 := Nat.mul_le_mul lb lc
 have hP4 : (cT o).length * ((bI o).length * (bM o).length) <= 400 * (400 * 400) := Nat.mul_le_mul la hP3
 refine g3 ?_
 refine gL (cY 52 rfl rfl rfl (bs.hc.get 58 _ rfl) kR rfl dE (g6 ?_))
 refine rZ3 (bH 52 rfl rfl (bs.hc.get 38 _ rfl) kR dE) ?_
 refine aB rfl (fun hc1 => ?_) (fun hc2 => ?_)
 .have hf4 : o.aP2 < 4 := oT hc1
  refine g3 ?_
  refine rZ2 (bH 52 rfl rfl (bs.hc.get 54 _ rfl) kR dE) ?_
  refine rZ1 (bH 52 rfl rfl (bs.hc.get 55 _ rfl) kR dE) ?_
  refine rZ1 ((rK rfl rfl (by rw [hm1]; omega)).to (congrArg (Value.int .i64) hm1)) ?_
  refine rZ1 (bH 52 rfl rfl (bs.hc.get 56 _ rfl) kR dE) ?_
  refine rl ((rK rfl rfl (by rw [hm2]; omega)).to (congrArg (Value.int .i64) hm2)) (gL (xF 2 (e := 80) (sz := 2) (by_ := 16) (zs := [iV 0, iV 0]) (c := (cT o).length * (bI o).length * (bM o).length) dE kR rfl rfl oM oM (fun bm => g1 ?_)))
  refine gL (sto 52 rfl rfl rfl rfl (g6 ?_))
  refine rZ5 (bH 52 rfl rfl (bs.hc.get 54 _ rfl) kR dE) ?_
  refine aY (ι := (Nat) × (Option Addr) × (Nat) × (Nat) × (List Value) × (List Int)) (fun | ⟨i, q, e, n, xs, l⟩ => (cT o).length - i) (fun | ⟨i, q, e, n, xs, l⟩ => (i <= (cT o).length) /\ (l = ((cT o).take i).flatMap (fun h => (bI o).flatMap fun m => (bM o).map fun s => h * 3600 + m * 60 + s)) /\ (n = l.length) /\ (xs = bS l) /\ (n <= i * ((bI o).length * (bM o).length))) (fun | ⟨i, q, e, n, xs, l⟩ => [(1, pT b1), (2, pT b2), (3, pT b3), (258, .slice x.q54 (cT o).length x.e54), (259, iV ((cT o).length)), (260, iV i)]) (fun _ => ((52, b3) :: (51, b2) :: (50, b1) :: B)) (fun | ⟨i, q, e, n, xs, l⟩ => (ky 52 58, .slice q n e) :: H) (fun | ⟨i, q, e, n, xs, l⟩ => (2, ⟨.slice q n e, 80, 2, n, xs⟩) :: S) ⟨0, some ⟨bm, 0, none⟩, (cT o).length * (bI o).length * (bM o).length, 0, [], []⟩ ⟨Nat.zero_le _, rfl, rfl, rfl, Nat.zero_le _⟩ kns (fun w s => by exact s.low 53 (((bs.lim.aPh dE dE).aPi dE)) agx agx agx) ?_
  rintro ⟨i, q, e, n, xs, l⟩ ⟨hi, hl, hn, hxs, hb⟩
  refine dS ?_
  refine g6 ?_
  refine aB rfl (fun hc1 => ?_) (fun hc2 => ?_)
  .have hlt_i : i < (cT o).length := by have := oT hc1; omega
   obtain ⟨h, hx_h⟩ : ∃ y, (cT o)[i]? = some y := ⟨_, List.getElem?_eq_getElem hlt_i⟩
   refine cQ (fun w s => (sh.cons (j := 2) dE).head s oM) fun hh => ?_
   obtain ⟨b_h, o_h, hp_h⟩ := hh
   have src_h := sh
   rw [hp_h] at src_h
   have hiP : i * ((bI o).length * (bM o).length) + (bI o).length * (bM o).length <= (cT o).length * ((bI o).length * (bM o).length) := by rw [<- Nat.succ_mul]; exact Nat.mul_le_mul_right _ hlt_i
   have hhr := uN ok h (List.mem_of_getElem? hx_h)
   refine g6 ?_
   refine rl (aC (e := 3) (n := 1) kR (congrArg (fun p => some (Value.slice p _ _)) hp_h) rfl oM oM) (rZ6 (dT kR rfl (fun w s => (src_h.cons dE).cell hx_h s)) ?_)
   refine rZ5 (bH 52 rfl rfl (bs.hc.get 55 _ rfl) kR dE) ?_
   refine aY (ι := (Nat) × (Option Addr) × (Nat) × (Nat) × (List Value) × (List Int)) (fun | ⟨j, q1, e1, n1, xs1, l1⟩ => (bI o).length - j) (fun | ⟨j, q1, e1, n1, xs1, l1⟩ => (j <= (bI o).length) /\ (l1 = l ++ ((bI o).take j).flatMap (fun m => (bM o).map fun s => h * 3600 + m * 60 + s)) /\ (n1 = l1.length) /\ (xs1 = bS l1) /\ (n1 <= i * ((bI o).length * (bM o).length) + j * (bM o).length)) (fun | ⟨j, q1, e1, n1, xs1, l1⟩ => [(1, pT b1), (2, pT b2), (3, pT b3), (9, iV h), (258, .slice x.q54 (cT o).length x.e54), (259, iV ((cT o).length)), (260, iV i), (265, .slice x.q55 (bI o).length x.e55), (266, iV ((bI o).length)), (267, iV j)]) (fun _ => ((52, b3) :: (51, b2) :: (50, b1) :: B)) (fun | ⟨j, q1, e1, n1, xs1, l1⟩ => (ky 52 58, .slice q1 n1 e1) :: H) (fun | ⟨j, q1, e1, n1, xs1, l1⟩ => (2, ⟨.slice q1 n1 e1, 80, 2, n1, xs1⟩) :: S) ⟨0, q, e, n, xs, l⟩ ⟨Nat.zero_le _, by simp, hn, hxs, by omega⟩ kns (fun w s => by exact s.low 53 (((bs.lim.aPh dE dE).aPi dE)) agx agx agx) ?_
   rintro ⟨j, q1, e1, n1, xs1, l1⟩ ⟨hj, hl1, hn1, hxs1, hb1⟩
   refine dS ?_
   refine g6 ?_
   refine aB rfl (fun hc1 => ?_) (fun hc2 => ?_)
   .have hlt_j : j < (bI o).length := by have := oT hc1; omega
    obtain ⟨m, hx_m⟩ : ∃ y, (bI o)[j]? = some y := ⟨_, List.getElem?_eq_getElem hlt_j⟩
    refine cQ (fun w s => (si.cons (j := 2) dE).head s oM) fun hh => ?_
    obtain ⟨b_m, o_m, hp_m⟩ := hh
    have src_m := si
    rw [hp_m] at src_m
    have hjP : j * (bM o).length + (bM o).length <= (bI o).length * (bM o).length := by rw [<- Nat.succ_mul]; exact Nat.mul_le_mul_right _ hlt_j
    have hmr := qH ok m (List.mem_of_getElem? hx_m)
    refine g6 ?_
    refine rl (aC (e := 3) (n := 1) kR (congrArg (fun p => some (Value.slice p _ _)) hp_m) rfl oM oM) (rZ6 (dT kR rfl (fun w s => (src_m.cons dE).cell hx_m s)) ?_)
    refine rZ5 (bH 52 rfl rfl (bs.hc.get 56 _ rfl) kR dE) ?_
    refine aY (ι := (Nat) × (Option Addr) × (Nat) × (Nat) × (List Value) × (List Int)) (fun | ⟨k, q2, e2, n2, xs2, l2⟩ => (bM o).length - k) (fun | ⟨k, q2, e2, n2, xs2, l2⟩ => (k <= (bM o).length) /\ (l2 = l1 ++ ((bM o).take k).map (fun s => h * 3600 + m * 60 + s)) /\ (n2 = l2.length) /\ (xs2 = bS l2) /\ (n2 <= i * ((bI o).length * (bM o).length) + j * (bM o).length + k)) (fun | ⟨k, q2, e2, n2, xs2, l2⟩ => [(1, pT b1), (2, pT b2), (3, pT b3), (9, iV h), (11, iV m), (258, .slice x.q54 (cT o).length x.e54), (259, iV ((cT o).length)), (260, iV i), (265, .slice x.q55 (bI o).length x.e55), (266, iV ((bI o).length)), (267, iV j), (272, .slice x.q56 (bM o).length x.e56), (273, iV ((bM o).length)), (274, iV k)]) (fun _ => ((52, b3) :: (51, b2) :: (50, b1) :: B)) (fun | ⟨k, q2, e2, n2, xs2, l2⟩ => (ky 52 58, .slice q2 n2 e2) :: H) (fun | ⟨k, q2, e2, n2, xs2, l2⟩ => (2, ⟨.slice q2 n2 e2, 80, 2, n2, xs2⟩) :: S) ⟨0, q1, e1, n1, xs1, l1⟩ ⟨Nat.zero_le _, by simp, hn1, hxs1, by omega⟩ kns (fun w s => by exact s.low 53 (((bs.lim.aPh dE dE).aPi dE)) agx agx agx) ?_
    rintro ⟨k, q2, e2, n2, xs2, l2⟩ ⟨hk, hl2, hn2, hxs2, hb2⟩
    refine dS ?_
    refine g6 ?_
    refine aB rfl (fun hc1 => ?_) (fun hc2 => ?_)
    .have hlt_k : k < (bM o).length := by have := oT hc1; omega
     obtain ⟨sc, hx_sc⟩ : ∃ y, (bM o)[k]? = some y := ⟨_, List.getElem?_eq_getElem hlt_k⟩
     refine cQ (fun w s => (ss.cons (j := 2) dE).head s oM) fun hh => ?_
     obtain ⟨b_sc, o_sc, hp_sc⟩ := hh
     have src_sc := ss
     rw [hp_sc] at src_sc
     have hsr := qA ok sc (List.mem_of_getElem? hx_sc)
     refine g6 ?_
     refine rl (aC (e := 3) (n := 1) kR (congrArg (fun p => some (Value.slice p _ _)) hp_sc) rfl oM oM) (rZ3 (dT kR rfl (fun w s => (src_sc.cons dE).cell hx_sc s)) ?_)
     refine jY (fun i => i == 12) kR (gr 0 rfl (rfa 58) (gr 1 rfl (rld 52 rfl rfl rfl) (gr 2 rfl (bC rfl) (gr 3 rfl (bC rfl) ?_))))
     refine gr 4 rfl (bC rfl) (gr 5 rfl (rfa 39) (gr 6 rfl (aW 52 rfl rfl (bs.hc.get 39 _ rfl) (bs.hc.get 40 _ rfl) kR dE) (gn 7 rfl (cvo rfl (fun w_ s_ => dR _ _ w_) (gk (gn 8 rfl (cvo (v := .agg #[iV (h * 3600 + m * 60 + sc), iV 0]) rfl (fun w_ s_ => (cV 1 1 1 _ _ _ 0 oM oM oM oM oM oM oM w_).mT (cRr (by rw [show Cal.dayNo 1 1 1 = 0 from rfl, show (0 : Int) * 86400 + h * 3600 + m * 60 + sc = h * 3600 + m * 60 + sc by omega]))) (gk ?_))))))))
     refine gn 9 rfl (n5 60 (e := 80) (sz := 2) (by_ := 16) (zs := [iV 0, iV 0]) dE kR rfl dE dE rfl rfl rfl (bs.lim.s 60 dE) (fun bo => gk (gn 10 rfl (cW 2 60 (e := 80) (sz := 2) (by_ := 16) (zs := [iV 0, iV 0]) dE kR rfl dE rfl rfl rfl rfl ⟨rfl, rfl⟩ ⟨rfl, rfl⟩ aA7 sO sO (fun q3 e3 => gk (gn 11 rfl (gI dE (rfa 58) (gk (gn 12 rfl (sto 52 rfl rfl rfl rfl (gk (fM kR ?_))))))))))))
     refine g6 ?_
     refine aN ⟨k + 1, q3, e3, n2 + 1, xs2 ++ [iV (h * 3600 + m * 60 + sc), iV 0], l2 ++ [h * 3600 + m * 60 + sc]⟩ sO ⟨by omega, by rw [hl2, List.take_add_one, hx_sc]; simp only [Option.toList_some, List.map_append, List.map_cons, List.map_nil, List.append_assoc], by rw [List.length_append, hn2]; rfl, by rw [hxs2]; exact fT _ _, by omega⟩ kns (fun w s => by exact s.low 53 (((bs.lim.aPh dE dE).aPi dE)) agx agx agx)
    .have hge_k : ¬ k < (bM o).length := by have := oF hc2; omega
     obtain rfl : k = (bM o).length := by omega
     refine g10 ?_
     refine aN ⟨j + 1, q2, e2, n2, xs2, l2⟩ sO ⟨by omega, by rw [hl2, hl1, List.take_add_one, hx_m]; simp only [Option.toList_some, List.flatMap_append, List.flatMap_cons, List.flatMap_nil, List.append_nil, List.append_assoc]; rw [List.take_length], hn2, hxs2, by rw [Nat.succ_mul]; omega⟩ kns (fun w s => by exact s.low 53 (((bs.lim.aPh dE dE).aPi dE)) agx agx agx)
   .have hge_j : ¬ j < (bI o).length := by have := oF hc2; omega
    obtain rfl : j = (bI o).length := by omega
    refine g10 ?_
    refine aN ⟨i + 1, q1, e1, n1, xs1, l1⟩ sO ⟨by omega, by rw [hl1, hl, List.take_add_one, hx_h]; simp only [Option.toList_some, List.flatMap_append, List.flatMap_cons, List.flatMap_nil, List.append_nil]; rw [List.take_length], hn1, hxs1, by rw [Nat.succ_mul]; omega⟩ kns (fun w s => by exact s.low 53 (((bs.lim.aPh dE dE).aPi dE)) agx agx agx)
  .have hge_i : ¬ i < (cT o).length := by have := oF hc2; omega
   obtain rfl : i = (cT o).length := by omega
   rw [List.take_length] at hl
   have hraw : l = raw o := hl
   subst hraw
   subst hn hxs
   refine g8 ?_
   refine rl ((iR (r := .iface 141 (.slice q (raw o).length e)) rfl kW)) (gL (d8 (ι := Unit) (fun _ => .tuple #[]) (fun _ => True) (fun _ => _) (fun _ => _) (fun _ => ((2, ⟨.slice q (raw o).length e, 80, 2, (raw o).length, bS (eM (raw o))⟩) :: (2, ⟨.slice q (raw o).length e, 80, 2, (raw o).length, bS (raw o)⟩) :: S)) dE kR rfl (fun w_ s_ => (hsort hf4 _ _ _ q e w_ (((bs.lim.aPh dE dE).aPi dE).mono dE) rfl s_).mono fun e_ w2_ h_ => ⟨(), trivial, h_.1, h_.2⟩) (fun _ _ => g2 ?_)))
   refine dO (L' := [(1, pT b1), (2, pT b2), (3, pT b3)]) kns (fun w s => s) ?_
   have hts : l7 o = eM (raw o) := by unfold l7; rw [if_pos hf4]
   have htl : (l7 o).length = (raw o).length := by rw [hts]; exact List.length_mergeSort _
   refine bu_J (x := { x with tp := q, tc := e }) ok hsort (H := (ky 52 58, .slice q (raw o).length e) :: H) (S := ((2, ⟨.slice q (raw o).length e, 80, 2, (raw o).length, bS (eM (raw o))⟩) :: (2, ⟨.slice q (raw o).length e, 80, 2, (raw o).length, bS (raw o)⟩) :: S)) ⟨bs.ho, (cA1 bs.hc (show lkp (ky 52 58) _ = some (Value.slice q (l7 o).length e) from by rw [htl]; rfl)), (cL kX bs.h2), (lY bs.lim), bs.limB, (fX bs.frH), (fV bs.frS)⟩ ((s9.cons dE).cons dE) ((sm.cons dE).cons dE) ((s12.cons dE).cons dE) ((s13.cons dE).cons dE) ((s18.cons dE).cons dE) r12 r13 r14 r15 ((sh.cons dE).cons dE) ((si.cons dE).cons dE) ((ss.cons dE).cons dE) (fun _ => by rw [hts, show (eM (raw o)).length = (raw o).length from List.length_mergeSort _]; rfl) hR
 .have hf4 : ¬ o.aP2 < 4 := oF hc2
  refine g2 ?_
  refine dO (L' := [(1, pT b1), (2, pT b2), (3, pT b3)]) kns (fun w s => s) ?_
  have hts : l7 o = [] := by unfold l7; rw [if_neg hf4]
  refine bu_J (x := { x with tp := none, tc := 0 }) ok hsort (H := (ky 52 58, sN) :: H) (S := S) ⟨bs.ho, (cA1 bs.hc (show lkp (ky 52 58) _ = some (Value.slice none (l7 o).length 0) from by rw [hts]; rfl)), (cL kX bs.h2), (lY bs.lim), bs.limB, (fX bs.frH), (fV bs.frS)⟩ s9 sm s12 s13 s18 r12 r13 r14 r15 sh si ss (fun h => absurd h hf4) hR
theorem aM6 {R : Ending -> World -> Prop} {o : Opn} {x : Av} {b1 b2 b3 : Nat} {H0 : LV} {S0 : LS} (ok : OpOk o) (hsort : o.aP2 < 4 -> kV F w0 (raw o)) (bs : Bs F w0 B H0 S0 b1 b2 b3 (oc1 o x) (rcF o x) H S) (s9 : yS9 F w0 S x o) (sm : SrcT F w0 S 16 (.slice x.pm (bZ o).length x.cm) (bZ o)) (s12 : u5 F w0 S x o) (s13 : uK F w0 S x o) (s17 : xP F w0 S x o) (s18 : uY F w0 S x o) (r12 : lkp 12 S = some ⟨.slice x.q48 (iE (bN o)).length x.e48, 3, 1, (iE (bN o)).length, (iE (bN o)).map iV⟩) (r13 : lkp 13 S = some ⟨.slice x.q49 (iD (bN o)).length x.e49, 3, 1, (iD (bN o)).length, (iD (bN o)).map iV⟩) (r14 : lkp 14 S = some ⟨.slice x.q52 (((bP o).filter (bR o.aP2)).map Prod.fst).length x.e52, 3, 1, (((bP o).filter (bR o.aP2)).map Prod.fst).length, (((bP o).filter (bR o.aP2)).map Prod.fst).map iV⟩) (r15 : lkp 15 S = some ⟨.slice x.q53 ((bP o).filter fun y => !bR o.aP2 y).length x.e53, 82, 2, ((bP o).filter fun y => !bR o.aP2 y).length, eB ((bP o).filter fun y => !bR o.aP2 y)⟩) (sh : SrcT F w0 S 18 (.slice x.q54 (cT o).length x.e54) (cT o)) (si : SrcT F w0 S 19 (.slice x.q55 (bI o).length x.e55) (bI o))  (hR : ∀ (x : Av) (S' : LS), OutF F w0 o x S0 S' -> ∀ w, Sees F w0 B H0 S' w -> R (.returned (.agg (j8 o x).toArray)) w) : GC Tryz.prog (Go.Fr.part [1, 1, 1, 1, 1, 1, 1, 1, 1, 1, 1, 1, 1, 1, 1, 1, 1, 1, 1, 1, 1, 1, 1] (Go.Fr.bodyOf Tryz.f67)) (bodyPost Tryz.prog Tryz.f67 R) 300 [(1, pT b1), (2, pT b2), (3, pT b3)] F w0 ((52, b3) :: (51, b2) :: (50, b1) :: B) H S := by
 have ok_ := ok
 have hd_ := ok.d
 have hfr := ok.aP2
 refine g4 ?_
 refine rZ4 (bH 50 rfl rfl (bs.ho.get 17 _ rfl) kR dE) ?_
 refine aB rfl (fun hc1 => ?_) (fun hc2 => ?_)
 .have hz : o.aPs.length = 0 := by have := beq_iff_eq.1 hc1; omega
  refine g3 ?_
  refine rZ3 (bH 52 rfl rfl (bs.hc.get 38 _ rfl) kR dE) ?_
  refine aB rfl (fun hc1 => ?_) (fun hc2 => ?_)
  .have hf : o.aP2 < 6 := oT hc1
   have hh : bM o = [o.d % 86400 % 60] := by unfold bM; rw [if_pos hz, if_pos hf]
   refine g2 ?_
   refine rl (aW 52 rfl rfl (bs.hc.get 39 _ rfl) (bs.hc.get 40 _ rfl) kR dE) (gL (cvo rfl (fun w_ s_ => aBw _ _ oM w_) (gL (dB 20 (e := 3) (sz := 1) (by_ := 8) (zs := [iV 0]) (cs := [iV (o.d % 86400 % 60)]) dE kR rfl dE dE rfl rfl rfl (fun bo => g1 ?_)))))
   refine gL (cY 52 rfl rfl rfl (bs.hc.get 56 _ rfl) kR rfl dE (g2 ?_))
   refine dO (L' := [(1, pT b1), (2, pT b2), (3, pT b3)]) kns (fun w s => s) ?_
   refine aMz (x := { x with q56 := some ⟨bo, 0, none⟩, e56 := 1 }) ok hsort (H := ((ky 52 56, sL bo 1 1) :: H)) (S := ((20, ⟨sL bo 1 1, 3, 1, 1, [iV (o.d % 86400 % 60)]⟩) :: S)) ⟨bs.ho, (cA1 bs.hc (show lkp (ky 52 56) _ = some (sL bo (bM o).length 1) from by rw [hh]; rfl)), (cL kX bs.h2), (lY bs.lim), bs.limB, (fX bs.frH), (fV bs.frS)⟩ (s9.cons dE) (sm.cons dE) (s12.cons dE) (s13.cons dE) (s18.cons dE) r12 r13 r14 r15 (sh.cons dE) (si.cons dE) (SrcT.row (e := 3) (by rw [hh]; rfl)) hR
  .have hf : ¬ o.aP2 < 6 := oF hc2
   have hh : bM o = [] := by unfold bM; rw [if_pos hz, if_neg hf]
   refine g2 ?_
   refine dO (L' := [(1, pT b1), (2, pT b2), (3, pT b3)]) kns (fun w s => s) ?_
   refine aMz (x := { x with q56 := none, e56 := 0 }) ok hsort (H := H) (S := S) ⟨bs.ho, (cA1 bs.hc (show lkp (ky 52 56) _ = some (Value.slice none (bM o).length 0) from by rw [hh]; exact bs.hc.get 56 _ rfl)), (cL kX bs.h2), bs.lim, bs.limB, (fX bs.frH), (fV bs.frS)⟩ s9 sm s12 s13 s18 r12 r13 r14 r15 sh si (by rw [hh]; exact SrcT.nil) hR
 .have hz : ¬ o.aPs.length = 0 := by have := beq_eq_false_iff_ne.1 hc2; omega
  have hh : bM o = o.aPs := by unfold bM; rw [if_neg hz]
  refine g2 ?_
  refine rZ1 (bH 50 rfl rfl (bs.ho.get 17 _ rfl) kR dE) ?_
  refine gL (cY 52 rfl rfl rfl (bs.hc.get 56 _ rfl) kR rfl dE (g2 ?_))
  refine dO (L' := [(1, pT b1), (2, pT b2), (3, pT b3)]) kns (fun w s => s) ?_
  refine aMz (x := { x with q56 := x.p17, e56 := x.c17 }) ok hsort (H := ((ky 52 56, .slice x.p17 (o.aPs).length x.c17) :: H)) (S := S) ⟨bs.ho, (cA1 bs.hc (show lkp (ky 52 56) _ = some (Value.slice x.p17 (bM o).length x.c17) from by rw [hh]; rfl)), (cL kX bs.h2), (lY bs.lim), bs.limB, (fX bs.frH), (fV bs.frS)⟩ s9 sm s12 s13 s18 r12 r13 r14 r15 sh si (by rw [hh]; exact s17.more) hR
theorem aMx {R : Ending -> World -> Prop} {o : Opn} {x : Av} {b1 b2 b3 : Nat} {H0 : LV} {S0 : LS} (ok : OpOk o) (hsort : o.aP2 < 4 -> kV F w0 (raw o)) (bs : Bs F w0 B H0 S0 b1 b2 b3 (oc1 o x) (rcE o x) H S) (s9 : yS9 F w0 S x o) (sm : SrcT F w0 S 16 (.slice x.pm (bZ o).length x.cm) (bZ o)) (s12 : u5 F w0 S x o) (s13 : uK F w0 S x o) (s16 : zM F w0 S x o) (s17 : xP F w0 S x o) (s18 : uY F w0 S x o) (r12 : lkp 12 S = some ⟨.slice x.q48 (iE (bN o)).length x.e48, 3, 1, (iE (bN o)).length, (iE (bN o)).map iV⟩) (r13 : lkp 13 S = some ⟨.slice x.q49 (iD (bN o)).length x.e49, 3, 1, (iD (bN o)).length, (iD (bN o)).map iV⟩) (r14 : lkp 14 S = some ⟨.slice x.q52 (((bP o).filter (bR o.aP2)).map Prod.fst).length x.e52, 3, 1, (((bP o).filter (bR o.aP2)).map Prod.fst).length, (((bP o).filter (bR o.aP2)).map Prod.fst).map iV⟩) (r15 : lkp 15 S = some ⟨.slice x.q53 ((bP o).filter fun y => !bR o.aP2 y).length x.e53, 82, 2, ((bP o).filter fun y => !bR o.aP2 y).length, eB ((bP o).filter fun y => !bR o.aP2 y)⟩) (sh : SrcT F w0 S 18 (.slice x.q54 (cT o).length x.e54) (cT o))  (hR : ∀ (x : Av) (S' : LS), OutF F w0 o x S0 S' -> ∀ w, Sees F w0 B H0 S' w -> R (.returned (.agg (j8 o x).toArray)) w) : GC Tryz.prog (Go.Fr.part [1, 1, 1, 1, 1, 1, 1, 1, 1, 1, 1, 1, 1, 1, 1, 1, 1, 1, 1, 1, 1, 1] (Go.Fr.bodyOf Tryz.f67)) (bodyPost Tryz.prog Tryz.f67 R) 300 [(1, pT b1), (2, pT b2), (3, pT b3)] F w0 ((52, b3) :: (51, b2) :: (50, b1) :: B) H S := by
 have ok_ := ok
 have hd_ := ok.d
 have hfr := ok.aP2
 refine g4 ?_
 refine rZ4 (bH 50 rfl rfl (bs.ho.get 16 _ rfl) kR dE) ?_
 refine aB rfl (fun hc1 => ?_) (fun hc2 => ?_)
 .have hz : o.aPr.length = 0 := by have := beq_iff_eq.1 hc1; omega
  refine g3 ?_
  refine rZ3 (bH 52 rfl rfl (bs.hc.get 38 _ rfl) kR dE) ?_
  refine aB rfl (fun hc1 => ?_) (fun hc2 => ?_)
  .have hf : o.aP2 < 5 := oT hc1
   have hh : bI o = [o.d % 86400 / 60 % 60] := by unfold bI; rw [if_pos hz, if_pos hf]
   refine g2 ?_
   refine rl (aW 52 rfl rfl (bs.hc.get 39 _ rfl) (bs.hc.get 40 _ rfl) kR dE) (gL (cvo rfl (fun w_ s_ => aAv _ _ oM w_) (gL (dB 19 (e := 3) (sz := 1) (by_ := 8) (zs := [iV 0]) (cs := [iV (o.d % 86400 / 60 % 60)]) dE kR rfl dE dE rfl rfl rfl (fun bo => g1 ?_)))))
   refine gL (cY 52 rfl rfl rfl (bs.hc.get 55 _ rfl) kR rfl dE (g2 ?_))
   refine dO (L' := [(1, pT b1), (2, pT b2), (3, pT b3)]) kns (fun w s => s) ?_
   refine aM6 (x := { x with q55 := some ⟨bo, 0, none⟩, e55 := 1 }) ok hsort (H := ((ky 52 55, sL bo 1 1) :: H)) (S := ((19, ⟨sL bo 1 1, 3, 1, 1, [iV (o.d % 86400 / 60 % 60)]⟩) :: S)) ⟨bs.ho, (cA1 bs.hc (show lkp (ky 52 55) _ = some (sL bo (bI o).length 1) from by rw [hh]; rfl)), (cL kX bs.h2), (lY bs.lim), bs.limB, (fX bs.frH), (fV bs.frS)⟩ (s9.cons dE) (sm.cons dE) (s12.cons dE) (s13.cons dE) (s17.cons dE) (s18.cons dE) r12 r13 r14 r15 (sh.cons dE) (SrcT.row (e := 3) (by rw [hh]; rfl)) hR
  .have hf : ¬ o.aP2 < 5 := oF hc2
   have hh : bI o = [] := by unfold bI; rw [if_pos hz, if_neg hf]
   refine g2 ?_
   refine dO (L' := [(1, pT b1), (2, pT b2), (3, pT b3)]) kns (fun w s => s) ?_
   refine aM6 (x := { x with q55 := none, e55 := 0 }) ok hsort (H := H) (S := S) ⟨bs.ho, (cA1 bs.hc (show lkp (ky 52 55) _ = some (Value.slice none (bI o).length 0) from by rw [hh]; exact bs.hc.get 55 _ rfl)), (cL kX bs.h2), bs.lim, bs.limB, (fX bs.frH), (fV bs.frS)⟩ s9 sm s12 s13 s17 s18 r12 r13 r14 r15 sh (by rw [hh]; exact SrcT.nil) hR
 .have hz : ¬ o.aPr.length = 0 := by have := beq_eq_false_iff_ne.1 hc2; omega
  have hh : bI o = o.aPr := by unfold bI; rw [if_neg hz]
  refine g2 ?_
  refine rZ1 (bH 50 rfl rfl (bs.ho.get 16 _ rfl) kR dE) ?_
  refine gL (cY 52 rfl rfl rfl (bs.hc.get 55 _ rfl) kR rfl dE (g2 ?_))
  refine dO (L' := [(1, pT b1), (2, pT b2), (3, pT b3)]) kns (fun w s => s) ?_
  refine aM6 (x := { x with q55 := x.p16, e55 := x.c16 }) ok hsort (H := ((ky 52 55, .slice x.p16 (o.aPr).length x.c16) :: H)) (S := S) ⟨bs.ho, (cA1 bs.hc (show lkp (ky 52 55) _ = some (Value.slice x.p16 (bI o).length x.c16) from by rw [hh]; rfl)), (cL kX bs.h2), (lY bs.lim), bs.limB, (fX bs.frH), (fV bs.frS)⟩ s9 sm s12 s13 s17 s18 r12 r13 r14 r15 sh (by rw [hh]; exact s16.more) hR
theorem bu_E {R : Ending -> World -> Prop} {o : Opn} {x : Av} {b1 b2 b3 : Nat} {H0 : LV} {S0 : LS} (ok : OpOk o) (hsort : o.aP2 < 4 -> kV F w0 (raw o)) (bs : Bs F w0 B H0 S0 b1 b2 b3 (oc1 o x) (rcD o x) H S) (s9 : yS9 F w0 S x o) (sm : SrcT F w0 S 16 (.slice x.pm (bZ o).length x.cm) (bZ o)) (s12 : u5 F w0 S x o) (s13 : uK F w0 S x o) (s15 : aBk F w0 S x o) (s16 : zM F w0 S x o) (s17 : xP F w0 S x o) (s18 : uY F w0 S x o) (r12 : lkp 12 S = some ⟨.slice x.q48 (iE (bN o)).length x.e48, 3, 1, (iE (bN o)).length, (iE (bN o)).map iV⟩) (r13 : lkp 13 S = some ⟨.slice x.q49 (iD (bN o)).length x.e49, 3, 1, (iD (bN o)).length, (iD (bN o)).map iV⟩) (r14 : lkp 14 S = some ⟨.slice x.q52 (((bP o).filter (bR o.aP2)).map Prod.fst).length x.e52, 3, 1, (((bP o).filter (bR o.aP2)).map Prod.fst).length, (((bP o).filter (bR o.aP2)).map Prod.fst).map iV⟩) (r15 : lkp 15 S = some ⟨.slice x.q53 ((bP o).filter fun y => !bR o.aP2 y).length x.e53, 82, 2, ((bP o).filter fun y => !bR o.aP2 y).length, eB ((bP o).filter fun y => !bR o.aP2 y)⟩)  (hR : ∀ (x : Av) (S' : LS), OutF F w0 o x S0 S' -> ∀ w, Sees F w0 B H0 S' w -> R (.returned (.agg (j8 o x).toArray)) w) : GC Tryz.prog (Go.Fr.part [1, 1, 1, 1, 1, 1, 1, 1, 1, 1, 1, 1, 1, 1, 1, 1, 1, 1, 1, 1, 1] (Go.Fr.bodyOf Tryz.f67)) (bodyPost Tryz.prog Tryz.f67 R) 300 [(1, pT b1), (2, pT b2), (3, pT b3)] F w0 ((52, b3) :: (51, b2) :: (50, b1) :: B) H S := by
 have ok_ := ok
 have hd_ := ok.d
 have hfr := ok.aP2
 refine g4 ?_
 refine rZ4 (bH 50 rfl rfl (bs.ho.get 15 _ rfl) kR dE) ?_
 refine aB rfl (fun hc1 => ?_) (fun hc2 => ?_)
 .have hz : o.hour.length = 0 := by have := beq_iff_eq.1 hc1; omega
  refine g3 ?_
  refine rZ3 (bH 52 rfl rfl (bs.hc.get 38 _ rfl) kR dE) ?_
  refine aB rfl (fun hc1 => ?_) (fun hc2 => ?_)
  .have hf : o.aP2 < 4 := oT hc1
   have hh : cT o = [o.d % 86400 / 3600] := by unfold cT; rw [if_pos hz, if_pos hf]
   refine g2 ?_
   refine rl (aW 52 rfl rfl (bs.hc.get 39 _ rfl) (bs.hc.get 40 _ rfl) kR dE) (gL (cvo rfl (fun w_ s_ => aE8 _ _ oM w_) (gL (dB 18 (e := 3) (sz := 1) (by_ := 8) (zs := [iV 0]) (cs := [iV (o.d % 86400 / 3600)]) dE kR rfl dE dE rfl rfl rfl (fun bo => g1 ?_)))))
   refine gL (cY 52 rfl rfl rfl (bs.hc.get 54 _ rfl) kR rfl dE (g2 ?_))
   refine dO (L' := [(1, pT b1), (2, pT b2), (3, pT b3)]) kns (fun w s => s) ?_
   refine aMx (x := { x with q54 := some ⟨bo, 0, none⟩, e54 := 1 }) ok hsort (H := ((ky 52 54, sL bo 1 1) :: H)) (S := ((18, ⟨sL bo 1 1, 3, 1, 1, [iV (o.d % 86400 / 3600)]⟩) :: S)) ⟨bs.ho, (cA1 bs.hc (show lkp (ky 52 54) _ = some (sL bo (cT o).length 1) from by rw [hh]; rfl)), (cL kX bs.h2), (lY bs.lim), bs.limB, (fX bs.frH), (fV bs.frS)⟩ (s9.cons dE) (sm.cons dE) (s12.cons dE) (s13.cons dE) (s16.cons dE) (s17.cons dE) (s18.cons dE) r12 r13 r14 r15 (SrcT.row (e := 3) (by rw [hh]; rfl)) hR
  .have hf : ¬ o.aP2 < 4 := oF hc2
   have hh : cT o = [] := by unfold cT; rw [if_pos hz, if_neg hf]
   refine g2 ?_
   refine dO (L' := [(1, pT b1), (2, pT b2), (3, pT b3)]) kns (fun w s => s) ?_
   refine aMx (x := { x with q54 := none, e54 := 0 }) ok hsort (H := H) (S := S) ⟨bs.ho, (cA1 bs.hc (show lkp (ky 52 54) _ = some (Value.slice none (cT o).length 0) from by rw [hh]; exact bs.hc.get 54 _ rfl)), (cL kX bs.h2), bs.lim, bs.limB, (fX bs.frH), (fV bs.frS)⟩ s9 sm s12 s13 s16 s17 s18 r12 r13 r14 r15 (by rw [hh]; exact SrcT.nil) hR
 .have hz : ¬ o.hour.length = 0 := by have := beq_eq_false_iff_ne.1 hc2; omega
  have hh : cT o = o.hour := by unfold cT; rw [if_neg hz]
  refine g2 ?_
  refine rZ1 (bH 50 rfl rfl (bs.ho.get 15 _ rfl) kR dE) ?_
  refine gL (cY 52 rfl rfl rfl (bs.hc.get 54 _ rfl) kR rfl dE (g2 ?_))
  refine dO (L' := [(1, pT b1), (2, pT b2), (3, pT b3)]) kns (fun w s => s) ?_
  refine aMx (x := { x with q54 := x.p15, e54 := x.c15 }) ok hsort (H := ((ky 52 54, .slice x.p15 (o.hour).length x.c15) :: H)) (S := S) ⟨bs.ho, (cA1 bs.hc (show lkp (ky 52 54) _ = some (Value.slice x.p15 (cT o).length x.c15) from by rw [hh]; rfl)), (cL kX bs.h2), (lY bs.lim), bs.limB, (fX bs.frH), (fV bs.frS)⟩ s9 sm s12 s13 s16 s17 s18 r12 r13 r14 r15 (by rw [hh]; exact s15.more) hR
theorem bu_D {R : Ending -> World -> Prop} {o : Opn} {x : Av} {b1 b2 b3 : Nat} {H0 : LV} {S0 : LS} (ok : OpOk o) (hsort : o.aP2 < 4 -> kV F w0 (raw o)) (bs : Bs F w0 B H0 S0 b1 b2 b3 (oc1 o x) (rcC o x) H S) (s9 : yS9 F w0 S x o) (sm : SrcT F w0 S 16 (.slice x.pm (bZ o).length x.cm) (bZ o)) (s12 : u5 F w0 S x o) (s13 : uK F w0 S x o) (sw : SrcU F w0 S 21 (.slice x.pw (bP o).length x.cw) (bP o)) (s15 : aBk F w0 S x o) (s16 : zM F w0 S x o) (s17 : xP F w0 S x o) (s18 : uY F w0 S x o) (r12 : lkp 12 S = some ⟨.slice x.q48 (iE (bN o)).length x.e48, 3, 1, (iE (bN o)).length, (iE (bN o)).map iV⟩) (r13 : lkp 13 S = some ⟨.slice x.q49 (iD (bN o)).length x.e49, 3, 1, (iD (bN o)).length, (iD (bN o)).map iV⟩)  (hR : ∀ (x : Av) (S' : LS), OutF F w0 o x S0 S' -> ∀ w, Sees F w0 B H0 S' w -> R (.returned (.agg (j8 o x).toArray)) w) : GC Tryz.prog (Go.Fr.part [1, 1, 1, 1, 1, 1, 1, 1, 1, 1, 1, 1, 1, 1, 1, 1, 1, 1, 1] (Go.Fr.bodyOf Tryz.f67)) (bodyPost Tryz.prog Tryz.f67 R) 300 [(1, pT b1), (2, pT b2), (3, pT b3)] F w0 ((52, b3) :: (51, b2) :: (50, b1) :: B) H S := by
 have ok_ := ok
 have hwl : (bP o).length <= 1000 := by unfold bP; split; exact (by simp); exact ok.wday
 refine g3 ?_
 refine rZ1 (bH 50 rfl rfl (bs.ho.get 13 _ rfl) kR dE) ?_
 refine gL (cY 52 rfl rfl rfl (bs.hc.get 51 _ rfl) kR rfl dE (g6 ?_))
 refine rZ5 (bH 50 rfl rfl (bs.ho.get 14 _ rfl) kR dE) ?_
 refine aY (ι := (Nat) × (Option Addr) × (Nat) × (Nat) × (List Value) × (List Int) × (Option Addr) × (Nat) × (Nat) × (List Value) × (List (Int × Int))) (fun | ⟨k, q14, e14, n14, xs14, l14, q15, e15, n15, xs15, l15⟩ => (bP o).length - k) (fun | ⟨k, q14, e14, n14, xs14, l14, q15, e15, n15, xs15, l15⟩ => (k <= (bP o).length) /\ (l14 = ((bP o).take k |>.filter (bR o.aP2)).map Prod.fst) /\ (n14 = l14.length) /\ (xs14 = l14.map iV) /\ (l15 = ((bP o).take k).filter fun y => !bR o.aP2 y) /\ (n15 = l15.length) /\ (xs15 = eB l15)) (fun | ⟨k, q14, e14, n14, xs14, l14, q15, e15, n15, xs15, l15⟩ => [(1, pT b1), (2, pT b2), (3, pT b3), (167, .slice x.pw (bP o).length x.cw), (168, iV ((bP o).length)), (169, iV k)]) (fun _ => ((52, b3) :: (51, b2) :: (50, b1) :: B)) (fun | ⟨k, q14, e14, n14, xs14, l14, q15, e15, n15, xs15, l15⟩ => (ky 52 53, .slice q15 n15 e15) :: (ky 52 52, .slice q14 n14 e14) :: (ky 52 51, .slice x.p13 (o.aPx).length x.c13) :: H) (fun | ⟨k, q14, e14, n14, xs14, l14, q15, e15, n15, xs15, l15⟩ => (15, ⟨.slice q15 n15 e15, 82, 2, n15, xs15⟩) :: (14, ⟨.slice q14 n14 e14, 3, 1, n14, xs14⟩) :: S) ⟨0, none, 0, 0, [], [], none, 0, 0, [], []⟩ ⟨Nat.zero_le _, rfl, rfl, rfl, rfl, rfl, rfl⟩ kns (fun w s => by exact ((s.aPm 14 3 1).aPm 15 82 2).low 53 ((lY bs.lim)) agx (by exact Agr.pick (bs.hc.get 53 _ rfl) (Agr.pick (bs.hc.get 52 _ rfl) (Agr.refl _))) agx) ?_
 rintro ⟨k, q14, e14, n14, xs14, l14, q15, e15, n15, xs15, l15⟩ ⟨hk, hl14, hn14, hx14, hl15, hn15, hx15⟩
 refine dS ?_
 refine g6 ?_
 refine aB rfl (fun hc1 => ?_) (fun hc2 => ?_)
 .have hlt : k < (bP o).length := by have := oT hc1; omega
  obtain ⟨y, hy⟩ : ∃ y, (bP o)[k]? = some y := ⟨_, List.getElem?_eq_getElem hlt⟩
  refine cQ (fun w s => ((sw.cons (j := 14) dE).cons (j := 15) dE).head s oM) fun hh => ?_
  obtain ⟨by_, oy_, hp_y⟩ := hh
  have src_y := sw
  rw [hp_y] at src_y
  have hn14b : n14 <= 1000 := by rw [hn14, hl14, List.length_map]; exact Nat.le_trans (List.length_filter_le _ _) (by rw [List.length_take]; omega)
  have hn15b : n15 <= 1000 := by rw [hn15, hl15]; exact Nat.le_trans (List.length_filter_le _ _) (by rw [List.length_take]; omega)
  refine g6 ?_
  refine rl (aC (e := 82) (n := 2) kR (congrArg (fun p => some (Value.slice p _ _)) hp_y) rfl oM oM) (rl (fL (cs := [iV y.1, iV y.2]) kR rfl (fun w s => ((src_y.cons dE).cons dE).cell hy s)) (gL (eJ 53 (cs := [iV 0, iV 0]) dE kR (bs.lim.b 53 dE) (fun o ho => by repeat (first | exact bs.lim.h 53 dE o ho | rw [bV dE ho dE])) ble (fun b1_ hbb1_ => gL (sta 53 rfl rfl rfl rfl (g3 ?_))))))
  by_cases hz : y.2 = 0
  .refine g3 ?_
   refine rZ7 ((aQ rfl rfl).to (v' := .bool true) (cB (beq_iff_eq.2 hz))) ?_
   have hpw : bR o.aP2 y = true := by unfold bR; rw [hz]; rfl
   refine bK rfl rfl ?_
   refine g5 ?_
   refine gL (n5 60 (e := 3) (sz := 1) (by_ := 8) (zs := [iV 0]) dE kR rfl dE dE rfl rfl rfl (bs.lim.s 60 dE) (fun bo => gL (cW 14 60 (e := 3) (sz := 1) (by_ := 8) (zs := [iV 0]) dE kR rfl dE rfl rfl rfl rfl ⟨rfl, rfl⟩ ⟨rfl, rfl⟩ (gZ (xs := [y.1])) sO sO (fun p' c' => g1 ?_))))
   refine gL (sto 52 rfl rfl rfl rfl (g7 ?_))
   refine aN ⟨k + 1, p', c', n14 + 1, xs14 ++ [iV y.1], l14 ++ [y.1], q15, e15, n15, xs15, l15⟩ sO ⟨by omega, by rw [hl14, dK hy]; simp [hpw], by rw [List.length_append, hn14]; rfl, by rw [hx14]; simp, by rw [hl15, dK hy]; simp [hpw], hn15, hx15⟩ kns (fun w s => by exact s.low 53 ((lY bs.lim)) agx agx agx)
  .refine g3 ?_
   refine rZ4 ((aQ rfl rfl).to (v' := .bool false) (cB (beq_eq_false_iff_ne.2 hz))) ?_
   refine rZ5 (bH 52 rfl rfl (bs.hc.get 38 _ rfl) kR dE) ?_
   refine aB rfl (fun hc1 => ?_) (fun hc2 => ?_)
   .have hpw : bR o.aP2 y = true := by unfold bR; rw [show decide (1 < o.aP2) = true from hc1]; simp
    refine g5 ?_
    refine gL (n5 60 (e := 3) (sz := 1) (by_ := 8) (zs := [iV 0]) dE kR rfl dE dE rfl rfl rfl (bs.lim.s 60 dE) (fun bo => gL (cW 14 60 (e := 3) (sz := 1) (by_ := 8) (zs := [iV 0]) dE kR rfl dE rfl rfl rfl rfl ⟨rfl, rfl⟩ ⟨rfl, rfl⟩ (gZ (xs := [y.1])) sO sO (fun p' c' => g1 ?_))))
    refine gL (sto 52 rfl rfl rfl rfl (g7 ?_))
    refine aN ⟨k + 1, p', c', n14 + 1, xs14 ++ [iV y.1], l14 ++ [y.1], q15, e15, n15, xs15, l15⟩ sO ⟨by omega, by rw [hl14, dK hy]; simp [hpw], by rw [List.length_append, hn14]; rfl, by rw [hx14]; simp, by rw [hl15, dK hy]; simp [hpw], hn15, hx15⟩ kns (fun w s => by exact s.low 53 ((lY bs.lim)) agx agx agx)
   .have hpw : bR o.aP2 y = false := by unfold bR; rw [show decide (1 < o.aP2) = false from hc2, beq_eq_false_iff_ne.2 hz]; rfl
    refine g3 ?_
    refine rl (aW 53 rfl rfl rfl rfl kR dE) (gL (n5 60 (e := 82) (sz := 2) (by_ := 16) (zs := [iV 0, iV 0]) dE kR rfl dE dE rfl rfl rfl (bs.lim.s 60 dE) (fun bo => gL (cW 15 60 (e := 82) (sz := 2) (by_ := 16) (zs := [iV 0, iV 0]) dE kR rfl dE rfl rfl rfl rfl ⟨rfl, rfl⟩ ⟨rfl, rfl⟩ aA7 sO sO (fun p' c' => g1 ?_)))))
    refine gL (sto 52 rfl rfl rfl rfl (g7 ?_))
    refine aN ⟨k + 1, q14, e14, n14, xs14, l14, p', c', n15 + 1, xs15 ++ [iV y.1, iV y.2], l15 ++ [y]⟩ sO ⟨by omega, by rw [hl14, dK hy]; simp [hpw], hn14, hx14, by rw [hl15, dK hy]; simp [hpw], by rw [List.length_append, hn15]; rfl, by rw [hx15]; exact nX _ _⟩ kns (fun w s => by exact s.low 53 ((lY bs.lim)) agx agx agx)
 .have hge : ¬ k < (bP o).length := by have := oF hc2; omega
  obtain rfl : k = (bP o).length := by omega
  rw [List.take_length] at hl14 hl15
  subst hl14 hl15 hn14 hn15 hx14 hx15
  refine g5 ?_
  refine dO (L' := [(1, pT b1), (2, pT b2), (3, pT b3)]) kns (fun w s => s) ?_
  refine bu_E (x := { x with q52 := q14, e52 := e14, q53 := q15, e53 := e15 }) ok hsort (H := (ky 52 53, .slice q15 ((bP o).filter fun y => !bR o.aP2 y).length e15) :: (ky 52 52, .slice q14 (((bP o).filter (bR o.aP2)).map Prod.fst).length e14) :: (ky 52 51, .slice x.p13 (o.aPx).length x.c13) :: H) (S := (15, ⟨.slice q15 ((bP o).filter fun y => !bR o.aP2 y).length e15, 82, 2, ((bP o).filter fun y => !bR o.aP2 y).length, eB ((bP o).filter fun y => !bR o.aP2 y)⟩) :: (14, ⟨.slice q14 (((bP o).filter (bR o.aP2)).map Prod.fst).length e14, 3, 1, (((bP o).filter (bR o.aP2)).map Prod.fst).length, (((bP o).filter (bR o.aP2)).map Prod.fst).map iV⟩) :: S) ⟨bs.ho, (cA bs.hc), (cL kX bs.h2), (lY bs.lim), bs.limB, (fX bs.frH), (fV bs.frS)⟩ ((s9.cons dE).cons dE) ((sm.cons dE).cons dE) ((s12.cons dE).cons dE) ((s13.cons dE).cons dE) ((s15.cons dE).cons dE) ((s16.cons dE).cons dE) ((s17.cons dE).cons dE) ((s18.cons dE).cons dE) r12 r13 rfl rfl hR
theorem zJ {R : Ending -> World -> Prop} {o : Opn} {x : Av} {b1 b2 b3 : Nat} {H0 : LV} {S0 : LS} (ok : OpOk o) (hsort : o.aP2 < 4 -> kV F w0 (raw o)) (bs : Bs F w0 B H0 S0 b1 b2 b3 (oc1 o x) (rcA o x) H S) (s9 : yS9 F w0 S x o) (sm : SrcT F w0 S 16 (.slice x.pm (bZ o).length x.cm) (bZ o)) (sd : SrcT F w0 S 17 (.slice x.pd (bN o).length x.cd) (bN o)) (s12 : u5 F w0 S x o) (s13 : uK F w0 S x o) (sw : SrcU F w0 S 21 (.slice x.pw (bP o).length x.cw) (bP o)) (s15 : aBk F w0 S x o) (s16 : zM F w0 S x o) (s17 : xP F w0 S x o) (s18 : uY F w0 S x o)  (hR : ∀ (x : Av) (S' : LS), OutF F w0 o x S0 S' -> ∀ w, Sees F w0 B H0 S' w -> R (.returned (.agg (j8 o x).toArray)) w) : GC Tryz.prog (Go.Fr.part [1, 1, 1, 1, 1, 1, 1, 1, 1, 1, 1, 1, 1, 1, 1] (Go.Fr.bodyOf Tryz.f67)) (bodyPost Tryz.prog Tryz.f67 R) 300 [(1, pT b1), (2, pT b2), (3, pT b3)] F w0 ((52, b3) :: (51, b2) :: (50, b1) :: B) H S := by
 have ok_ := ok
 have hml : (bN o).length <= 1000 := by unfold bN; split; exact (by simp); exact ok.aPu
 refine g3 ?_
 refine rZ1 (bH 50 rfl rfl (bs.ho.get 10 _ rfl) kR dE) ?_
 refine gL (cY 52 rfl rfl rfl (bs.hc.get 47 _ rfl) kR rfl dE (g5 ?_))
 refine rZ1 (bH 50 rfl rfl (bs.ho.get 12 _ rfl) kR dE) ?_
 refine gL (cY 52 rfl rfl rfl (bs.hc.get 50 _ rfl) kR rfl dE (g5 ?_))
 refine rZ1 (bH 50 rfl rfl (bs.ho.get 18 _ rfl) kR dE) ?_
 refine gL (cY 52 rfl rfl rfl (bs.hc.get 57 _ rfl) kR rfl dE (g6 ?_))
 refine rZ5 (bH 50 rfl rfl (bs.ho.get 11 _ rfl) kR dE) ?_
 refine aY (ι := (Nat) × (Option Addr) × (Nat) × (Nat) × (List Value) × (List Int) × (Option Addr) × (Nat) × (Nat) × (List Value) × (List Int)) (fun | ⟨k, q12, e12, n12, xs12, l12, q13, e13, n13, xs13, l13⟩ => (bN o).length - k) (fun | ⟨k, q12, e12, n12, xs12, l12, q13, e13, n13, xs13, l13⟩ => (k <= (bN o).length) /\ (l12 = iE ((bN o).take k)) /\ (n12 = l12.length) /\ (xs12 = l12.map iV) /\ (l13 = iD ((bN o).take k)) /\ (n13 = l13.length) /\ (xs13 = l13.map iV)) (fun | ⟨k, q12, e12, n12, xs12, l12, q13, e13, n13, xs13, l13⟩ => [(1, pT b1), (2, pT b2), (3, pT b3), (140, .slice x.pd (bN o).length x.cd), (141, iV ((bN o).length)), (142, iV k)]) (fun _ => ((52, b3) :: (51, b2) :: (50, b1) :: B)) (fun | ⟨k, q12, e12, n12, xs12, l12, q13, e13, n13, xs13, l13⟩ => (ky 52 49, .slice q13 n13 e13) :: (ky 52 48, .slice q12 n12 e12) :: (ky 52 57, .slice x.p18 (o.aPy).length x.c18) :: (ky 52 50, .slice x.p12 (o.aPw).length x.c12) :: (ky 52 47, .slice x.pm (bZ o).length x.cm) :: H) (fun | ⟨k, q12, e12, n12, xs12, l12, q13, e13, n13, xs13, l13⟩ => (13, ⟨.slice q13 n13 e13, 3, 1, n13, xs13⟩) :: (12, ⟨.slice q12 n12 e12, 3, 1, n12, xs12⟩) :: S) ⟨0, none, 0, 0, [], [], none, 0, 0, [], []⟩ ⟨Nat.zero_le _, rfl, rfl, rfl, rfl, rfl, rfl⟩ kns (fun w s => by exact ((s.aPm 12 3 1).aPm 13 3 1).low 53 ((lY bs.lim)) agx (by exact Agr.pick (bs.hc.get 49 _ rfl) (Agr.pick (bs.hc.get 48 _ rfl) (Agr.refl _))) agx) ?_
 rintro ⟨k, q12, e12, n12, xs12, l12, q13, e13, n13, xs13, l13⟩ ⟨hk, hl12, hn12, hx12, hl13, hn13, hx13⟩
 refine dS ?_
 refine g6 ?_
 refine aB rfl (fun hc1 => ?_) (fun hc2 => ?_)
 .have hlt : k < (bN o).length := by have := oT hc1; omega
  obtain ⟨y, hy⟩ : ∃ y, (bN o)[k]? = some y := ⟨_, List.getElem?_eq_getElem hlt⟩
  refine cQ (fun w s => ((sd.cons (j := 12) dE).cons (j := 13) dE).head s oM) fun hh => ?_
  obtain ⟨by_, oy_, hp_y⟩ := hh
  have src_y := sd
  rw [hp_y] at src_y
  have hn12b : n12 <= 1000 := by rw [hn12, hl12]; unfold iE; exact Nat.le_trans (List.length_filter_le _ _) (by rw [List.length_take]; omega)
  have hn13b : n13 <= 1000 := by rw [hn13, hl13]; unfold iD; exact Nat.le_trans (List.length_filter_le _ _) (by rw [List.length_take]; omega)
  refine g6 ?_
  refine rl (aC (e := 3) (n := 1) kR (congrArg (fun p => some (Value.slice p _ _)) hp_y) rfl oM oM) (rl (dT kR rfl (fun w s => ((src_y.cons dE).cons dE).cell hy s)) (g9 ?_))
  refine aB rfl (fun hc1 => ?_) (fun hc2 => ?_)
  .have hp1 : decide (0 < y) = true := hc1
   have hp2 : decide (y < 0) = false := by have := oT hc1; exact decide_eq_false oM
   refine g4 ?_
   refine gL (n5 60 (e := 3) (sz := 1) (by_ := 8) (zs := [iV 0]) dE kR rfl dE dE rfl rfl rfl (bs.lim.s 60 dE) (fun bo => gL (cW 12 60 (e := 3) (sz := 1) (by_ := 8) (zs := [iV 0]) dE kR rfl dE rfl rfl rfl rfl ⟨rfl, rfl⟩ ⟨rfl, rfl⟩ (gZ (xs := [y])) sO sO (fun p' c' => g1 ?_))))
   refine gL (sto 52 rfl rfl rfl rfl (g7 ?_))
   refine aN ⟨k + 1, p', c', n12 + 1, xs12 ++ [iV y], l12 ++ [y], q13, e13, n13, xs13, l13⟩ sO ⟨by omega, by rw [hl12]; unfold iE; rw [dK hy]; simp [hp1], by rw [List.length_append, hn12]; rfl, by rw [hx12]; simp, by rw [hl13]; unfold iD; rw [dK hy]; simp [hp2], hn13, hx13⟩ kns (fun w s => by exact s.low 53 ((lY bs.lim)) agx agx agx)
  .have hp1 : decide (0 < y) = false := hc2
   refine g6 ?_
   refine aB rfl (fun hc1 => ?_) (fun hc2 => ?_)
   .have hp2 : decide (y < 0) = true := hc1
    refine g4 ?_
    refine gL (n5 60 (e := 3) (sz := 1) (by_ := 8) (zs := [iV 0]) dE kR rfl dE dE rfl rfl rfl (bs.lim.s 60 dE) (fun bo => gL (cW 13 60 (e := 3) (sz := 1) (by_ := 8) (zs := [iV 0]) dE kR rfl dE rfl rfl rfl rfl ⟨rfl, rfl⟩ ⟨rfl, rfl⟩ (gZ (xs := [y])) sO sO (fun p' c' => g1 ?_))))
    refine gL (sto 52 rfl rfl rfl rfl (g7 ?_))
    refine aN ⟨k + 1, q12, e12, n12, xs12, l12, p', c', n13 + 1, xs13 ++ [iV y], l13 ++ [y]⟩ sO ⟨by omega, by rw [hl12]; unfold iE; rw [dK hy]; simp [hp1], hn12, hx12, by rw [hl13]; unfold iD; rw [dK hy]; simp [hp2], by rw [List.length_append, hn13]; rfl, by rw [hx13]; simp⟩ kns (fun w s => by exact s.low 53 ((lY bs.lim)) agx agx agx)
   .have hp2 : decide (y < 0) = false := hc2
    refine g7 ?_
    refine aN ⟨k + 1, q12, e12, n12, xs12, l12, q13, e13, n13, xs13, l13⟩ sO ⟨by omega, by rw [hl12]; unfold iE; rw [dK hy]; simp [hp1], hn12, hx12, by rw [hl13]; unfold iD; rw [dK hy]; simp [hp2], hn13, hx13⟩ kns (fun w s => by exact s.low 53 ((lY bs.lim)) agx agx agx)
 .have hge : ¬ k < (bN o).length := by have := oF hc2; omega
  obtain rfl : k = (bN o).length := by omega
  rw [List.take_length] at hl12 hl13
  subst hl12 hl13 hn12 hn13 hx12 hx13
  refine g5 ?_
  refine dO (L' := [(1, pT b1), (2, pT b2), (3, pT b3)]) kns (fun w s => s) ?_
  refine bu_D (x := { x with q48 := q12, e48 := e12, q49 := q13, e49 := e13 }) ok hsort (H := (ky 52 49, .slice q13 (iD (bN o)).length e13) :: (ky 52 48, .slice q12 (iE (bN o)).length e12) :: (ky 52 57, .slice x.p18 (o.aPy).length x.c18) :: (ky 52 50, .slice x.p12 (o.aPw).length x.c12) :: (ky 52 47, .slice x.pm (bZ o).length x.cm) :: H) (S := (13, ⟨.slice q13 (iD (bN o)).length e13, 3, 1, (iD (bN o)).length, (iD (bN o)).map iV⟩) :: (12, ⟨.slice q12 (iE (bN o)).length e12, 3, 1, (iE (bN o)).length, (iE (bN o)).map iV⟩) :: S) ⟨bs.ho, (cA bs.hc), (cL kX bs.h2), (lY bs.lim), bs.limB, (fX bs.frH), (fV bs.frS)⟩ ((s9.cons dE).cons dE) ((sm.cons dE).cons dE) ((s12.cons dE).cons dE) ((s13.cons dE).cons dE) ((sw.cons dE).cons dE) ((s15.cons dE).cons dE) ((s16.cons dE).cons dE) ((s17.cons dE).cons dE) ((s18.cons dE).cons dE) rfl rfl hR
theorem bu_B {R : Ending -> World -> Prop} {o : Opn} {x : Av} {b1 b2 b3 : Nat} {H0 : LV} {S0 : LS} (ok : OpOk o) (hsort : o.aP2 < 4 -> kV F w0 (raw o)) (bs : Bs F w0 B H0 S0 b1 b2 b3 (oc0 o x) (rcA o x) H S) (s9 : yS9 F w0 S x o) (s10 : aHo F w0 S x o) (s11 : aGy F w0 S x o) (s12 : u5 F w0 S x o) (s13 : uK F w0 S x o) (s14 : SrcU F w0 S 11 (.slice x.p14 (o.wday).length x.c14) o.wday) (s15 : aBk F w0 S x o) (s16 : zM F w0 S x o) (s17 : xP F w0 S x o) (s18 : uY F w0 S x o)  (hR : ∀ (x : Av) (S' : LS), OutF F w0 o x S0 S' -> ∀ w, Sees F w0 B H0 S' w -> R (.returned (.agg (j8 o x).toArray)) w) : GC Tryz.prog (Go.Fr.part [1, 1, 1, 1, 1, 1, 1, 1, 1, 1, 1, 1, 1, 1] (Go.Fr.bodyOf Tryz.f67)) (bodyPost Tryz.prog Tryz.f67 R) 300 [(1, pT b1), (2, pT b2), (3, pT b3)] F w0 ((52, b3) :: (51, b2) :: (50, b1) :: B) H S := by
 have ok_ := ok
 have hd_ := ok.d
 refine g2 ?_
 by_cases hz0 : o.aPx.length = 0
 .by_cases hz1 : o.aPw.length = 0
  .by_cases hz2 : o.aPu.length = 0
   .by_cases hz3 : o.wday.length = 0
    .by_cases hz4 : o.aPy.length = 0
     .have hnd : iY o = true := by unfold iY; rw [hz0, hz1, hz2, hz3, hz4]; rfl
      refine g2 ?_
      refine rZ1 (bH 50 rfl rfl (bs.ho.get 13 _ rfl) kR dE) ?_
      refine rZ4 ((aQ rfl rfl).to eT) ?_
      refine rZ3 (bH 50 rfl rfl (bs.ho.get 12 _ rfl) kR dE) ?_
      refine rZ5 ((aQ rfl rfl).to eT) ?_
      refine rZ3 (bH 50 rfl rfl (bs.ho.get 11 _ rfl) kR dE) ?_
      refine rZ5 ((aQ rfl rfl).to eT) ?_
      refine rZ3 (bH 50 rfl rfl (bs.ho.get 14 _ rfl) kR dE) ?_
      refine rZ5 ((aQ rfl rfl).to eT) ?_
      refine rZ3 (bH 50 rfl rfl (bs.ho.get 18 _ rfl) kR dE) ?_
      refine rl ((aQ rfl rfl).to eT) (yZ7 ?_)
      refine rZ3 (bH 52 rfl rfl (bs.hc.get 38 _ rfl) kR dE) ?_
      refine aB rfl (fun hc1 => ?_) (fun hc2 => ?_)
      .have hf0 : o.aP2 = 0 := beq_iff_eq.1 hc1
       refine g4 ?_
       refine rZ4 (bH 50 rfl rfl (bs.ho.get 10 _ rfl) kR dE) ?_
       refine aB rfl (fun hc1 => ?_) (fun hc2 => ?_)
       .have hmz : o.aPt.length = 0 := by have := beq_iff_eq.1 hc1; omega
        refine g2 ?_
        refine rl (aW 52 rfl rfl (bs.hc.get 39 _ rfl) (bs.hc.get 40 _ rfl) kR dE) (gL (cvo rfl (fun w_ s_ => aCy _ _ oM w_) (gL (dB 16 (e := 3) (sz := 1) (by_ := 8) (zs := [iV 0]) (cs := [iV (Cal.monthOf (o.d / 86400))]) dE kR rfl dE dE rfl rfl rfl (fun bmo => g1 ?_)))))
        refine gL (cY 50 rfl rfl rfl (bs.ho.get 10 _ rfl) kR rfl dE (g4 ?_))
        refine rl (aW 52 rfl rfl (bs.hc.get 39 _ rfl) (bs.hc.get 40 _ rfl) kR dE) (gL (cvo rfl (fun w_ s_ => rD _ _ oM w_) (gL (dB 17 (e := 3) (sz := 1) (by_ := 8) (zs := [iV 0]) (cs := [iV (Cal.mdayOf (o.d / 86400))]) dE kR rfl dE dE rfl rfl rfl (fun bda => g1 ?_)))))
        refine gL (cY 50 rfl rfl rfl (bs.ho.get 11 _ rfl) kR rfl dE (g2 ?_))
        refine dO (L' := [(1, pT b1), (2, pT b2), (3, pT b3)]) kns (fun w s => s) ?_
        have e_month : bZ o = [Cal.monthOf (o.d / 86400)] := by unfold bZ; simp [hnd, hf0, hmz]
        have e_mday : bN o = [Cal.mdayOf (o.d / 86400)] := by unfold bN; simp [hnd, hf0, hmz]
        have e_wday : bP o = o.wday := by unfold bP; simp [hnd, hf0, hmz]
        refine zJ (x := { x with pm := some ⟨bmo, 0, none⟩, cm := 1, pd := some ⟨bda, 0, none⟩, cd := 1, pw := x.p14, cw := x.c14 }) ok hsort (H := (ky 50 11, sL bda 1 1) :: (ky 50 10, sL bmo 1 1) :: H) (S := (17, ⟨sL bda 1 1, 3, 1, 1, [iV (Cal.mdayOf (o.d / 86400))]⟩) :: (16, ⟨sL bmo 1 1, 3, 1, 1, [iV (Cal.monthOf (o.d / 86400))]⟩) :: S) ⟨(cA3 bs.ho (show lkp (ky 50 10) _ = some (sL bmo (bZ o).length 1) from by rw [e_month]; rfl) (show lkp (ky 50 11) _ = some (sL bda (bN o).length 1) from by rw [e_mday]; rfl) (show lkp (ky 50 14) _ = some (Value.slice x.p14 (bP o).length x.c14) from by rw [e_wday]; exact bs.ho.get 14 _ rfl)), bs.hc, (cL kX bs.h2), (lY bs.lim), bs.limB, (fX bs.frH), (fV bs.frS)⟩ ((s9.cons dE).cons dE) (SrcT.row (e := 3) (by rw [e_month]; rfl)) (SrcT.row (e := 3) (by rw [e_mday]; rfl)) ((s12.cons dE).cons dE) ((s13.cons dE).cons dE) (by rw [e_wday]; exact (((s14.cons dE).cons dE)).more) ((s15.cons dE).cons dE) ((s16.cons dE).cons dE) ((s17.cons dE).cons dE) ((s18.cons dE).cons dE) hR
       .have hmz : ¬ o.aPt.length = 0 := by have := beq_eq_false_iff_ne.1 hc2; omega
        refine g4 ?_
        refine rl (aW 52 rfl rfl (bs.hc.get 39 _ rfl) (bs.hc.get 40 _ rfl) kR dE) (gL (cvo rfl (fun w_ s_ => rD _ _ oM w_) (gL (dB 17 (e := 3) (sz := 1) (by_ := 8) (zs := [iV 0]) (cs := [iV (Cal.mdayOf (o.d / 86400))]) dE kR rfl dE dE rfl rfl rfl (fun bda => g1 ?_)))))
        refine gL (cY 50 rfl rfl rfl (bs.ho.get 11 _ rfl) kR rfl dE (g2 ?_))
        refine dO (L' := [(1, pT b1), (2, pT b2), (3, pT b3)]) kns (fun w s => s) ?_
        have e_month : bZ o = o.aPt := by unfold bZ; simp [hnd, hf0, hmz]
        have e_mday : bN o = [Cal.mdayOf (o.d / 86400)] := by unfold bN; simp [hnd, hf0, hmz]
        have e_wday : bP o = o.wday := by unfold bP; simp [hnd, hf0, hmz]
        refine zJ (x := { x with pm := x.p10, cm := x.c10, pd := some ⟨bda, 0, none⟩, cd := 1, pw := x.p14, cw := x.c14 }) ok hsort (H := (ky 50 11, sL bda 1 1) :: H) (S := (17, ⟨sL bda 1 1, 3, 1, 1, [iV (Cal.mdayOf (o.d / 86400))]⟩) :: S) ⟨(cA3 bs.ho (show lkp (ky 50 10) _ = some (Value.slice x.p10 (bZ o).length x.c10) from by rw [e_month]; exact bs.ho.get 10 _ rfl) (show lkp (ky 50 11) _ = some (sL bda (bN o).length 1) from by rw [e_mday]; rfl) (show lkp (ky 50 14) _ = some (Value.slice x.p14 (bP o).length x.c14) from by rw [e_wday]; exact bs.ho.get 14 _ rfl)), bs.hc, (cL kX bs.h2), (lY bs.lim), bs.limB, (fX bs.frH), (fV bs.frS)⟩ (s9.cons dE) (by rw [e_month]; exact ((s10.cons dE)).more) (SrcT.row (e := 3) (by rw [e_mday]; rfl)) (s12.cons dE) (s13.cons dE) (by rw [e_wday]; exact ((s14.cons dE)).more) (s15.cons dE) (s16.cons dE) (s17.cons dE) (s18.cons dE) hR
      .have hf0 : o.aP2 ≠ 0 := beq_eq_false_iff_ne.1 hc2
       refine g3 ?_
       refine rZ3 (bH 52 rfl rfl (bs.hc.get 38 _ rfl) kR dE) ?_
       refine aB rfl (fun hc1 => ?_) (fun hc2 => ?_)
       .have hf1 : o.aP2 = 1 := beq_iff_eq.1 hc1
        refine g2 ?_
        refine rl (aW 52 rfl rfl (bs.hc.get 39 _ rfl) (bs.hc.get 40 _ rfl) kR dE) (gL (cvo rfl (fun w_ s_ => rD _ _ oM w_) (gL (dB 17 (e := 3) (sz := 1) (by_ := 8) (zs := [iV 0]) (cs := [iV (Cal.mdayOf (o.d / 86400))]) dE kR rfl dE dE rfl rfl rfl (fun bda => g1 ?_)))))
        refine gL (cY 50 rfl rfl rfl (bs.ho.get 11 _ rfl) kR rfl dE (g2 ?_))
        refine dO (L' := [(1, pT b1), (2, pT b2), (3, pT b3)]) kns (fun w s => s) ?_
        have e_month : bZ o = o.aPt := by unfold bZ; simp [hnd, hf0, hf1]
        have e_mday : bN o = [Cal.mdayOf (o.d / 86400)] := by unfold bN; simp [hnd, hf0, hf1]
        have e_wday : bP o = o.wday := by unfold bP; simp [hnd, hf0, hf1]
        refine zJ (x := { x with pm := x.p10, cm := x.c10, pd := some ⟨bda, 0, none⟩, cd := 1, pw := x.p14, cw := x.c14 }) ok hsort (H := (ky 50 11, sL bda 1 1) :: H) (S := (17, ⟨sL bda 1 1, 3, 1, 1, [iV (Cal.mdayOf (o.d / 86400))]⟩) :: S) ⟨(cA3 bs.ho (show lkp (ky 50 10) _ = some (Value.slice x.p10 (bZ o).length x.c10) from by rw [e_month]; exact bs.ho.get 10 _ rfl) (show lkp (ky 50 11) _ = some (sL bda (bN o).length 1) from by rw [e_mday]; rfl) (show lkp (ky 50 14) _ = some (Value.slice x.p14 (bP o).length x.c14) from by rw [e_wday]; exact bs.ho.get 14 _ rfl)), bs.hc, (cL kX bs.h2), (lY bs.lim), bs.limB, (fX bs.frH), (fV bs.frS)⟩ (s9.cons dE) (by rw [e_month]; exact ((s10.cons dE)).more) (SrcT.row (e := 3) (by rw [e_mday]; rfl)) (s12.cons dE) (s13.cons dE) (by rw [e_wday]; exact ((s14.cons dE)).more) (s15.cons dE) (s16.cons dE) (s17.cons dE) (s18.cons dE) hR
       .have hf1 : o.aP2 ≠ 1 := beq_eq_false_iff_ne.1 hc2
        refine g3 ?_
        refine rZ3 (bH 52 rfl rfl (bs.hc.get 38 _ rfl) kR dE) ?_
        refine aB rfl (fun hc1 => ?_) (fun hc2 => ?_)
        .have hf2 : o.aP2 = 2 := beq_iff_eq.1 hc1
         refine g2 ?_
         refine rl (aW 52 rfl rfl (bs.hc.get 39 _ rfl) (bs.hc.get 40 _ rfl) kR dE) (gL (cvo (v := iV ((o.d / 86400 + 1) % 7)) rfl (fun w_ s_ => (jV _ _ oM w_).mT (cRr rfl)) (gL (cvo (v := iV (((o.d / 86400 + 1) % 7 + 6) % 7)) rfl (fun w_ s_ => (mN _ oM w_).mT (cRr rfl)) (rl ((qW (k2 := .i64) (n := 0) rfl kW)) (gL (dB 21 (e := 82) (sz := 2) (by_ := 16) (zs := [iV 0, iV 0]) (cs := [iV (((o.d / 86400 + 1) % 7 + 6) % 7), iV 0]) dE kR rfl dE dE rfl rfl rfl (fun bwd => ?_))))))))
         refine g1 ?_
         refine gL (cY 50 rfl rfl rfl (bs.ho.get 14 _ rfl) kR rfl dE (g2 ?_))
         refine dO (L' := [(1, pT b1), (2, pT b2), (3, pT b3)]) kns (fun w s => s) ?_
         have e_month : bZ o = o.aPt := by unfold bZ; simp [hnd, hf0, hf1, hf2]
         have e_mday : bN o = o.aPu := by unfold bN; simp [hnd, hf0, hf1, hf2]
         have e_wday : bP o = [(((o.d / 86400 + 1) % 7 + 6) % 7, 0)] := by unfold bP; simp [hnd, hf0, hf1, hf2]
         refine zJ (x := { x with pm := x.p10, cm := x.c10, pd := x.p11, cd := x.c11, pw := some ⟨bwd, 0, none⟩, cw := 1 }) ok hsort (H := (ky 50 14, sL bwd 1 1) :: H) (S := (21, ⟨sL bwd 1 1, 82, 2, 1, [iV (((o.d / 86400 + 1) % 7 + 6) % 7), iV 0]⟩) :: S) ⟨(cA3 bs.ho (show lkp (ky 50 10) _ = some (Value.slice x.p10 (bZ o).length x.c10) from by rw [e_month]; exact bs.ho.get 10 _ rfl) (show lkp (ky 50 11) _ = some (Value.slice x.p11 (bN o).length x.c11) from by rw [e_mday]; exact bs.ho.get 11 _ rfl) (show lkp (ky 50 14) _ = some (sL bwd (bP o).length 1) from by rw [e_wday]; rfl)), bs.hc, (cL kX bs.h2), (lY bs.lim), bs.limB, (fX bs.frH), (fV bs.frS)⟩ (s9.cons dE) (by rw [e_month]; exact ((s10.cons dE)).more) (by rw [e_mday]; exact ((s11.cons dE)).more) (s12.cons dE) (s13.cons dE) (SrcU.row (e := 82) (by rw [e_wday]; rfl)) (s15.cons dE) (s16.cons dE) (s17.cons dE) (s18.cons dE) hR
        .have hf2 : o.aP2 ≠ 2 := beq_eq_false_iff_ne.1 hc2
         refine g2 ?_
         refine dO (L' := [(1, pT b1), (2, pT b2), (3, pT b3)]) kns (fun w s => s) ?_
         have e_month : bZ o = o.aPt := by unfold bZ; simp [hnd, hf0, hf1, hf2]
         have e_mday : bN o = o.aPu := by unfold bN; simp [hnd, hf0, hf1, hf2]
         have e_wday : bP o = o.wday := by unfold bP; simp [hnd, hf0, hf1, hf2]
         refine zJ (x := { x with pm := x.p10, cm := x.c10, pd := x.p11, cd := x.c11, pw := x.p14, cw := x.c14 }) ok hsort (H := H) (S := S) ⟨(cA3 bs.ho (show lkp (ky 50 10) _ = some (Value.slice x.p10 (bZ o).length x.c10) from by rw [e_month]; exact bs.ho.get 10 _ rfl) (show lkp (ky 50 11) _ = some (Value.slice x.p11 (bN o).length x.c11) from by rw [e_mday]; exact bs.ho.get 11 _ rfl) (show lkp (ky 50 14) _ = some (Value.slice x.p14 (bP o).length x.c14) from by rw [e_wday]; exact bs.ho.get 14 _ rfl)), bs.hc, (cL kX bs.h2), bs.lim, bs.limB, (fX bs.frH), (fV bs.frS)⟩ s9 (by rw [e_month]; exact (s10).more) (by rw [e_mday]; exact (s11).more) s12 s13 (by rw [e_wday]; exact (s14).more) s15 s16 s17 s18 hR
     .have hnd : iY o = false := by unfold iY; rw [hz0, hz1, hz2, hz3, beq_eq_false_iff_ne.2 hz4]; simp
      refine g2 ?_
      refine rZ1 (bH 50 rfl rfl (bs.ho.get 13 _ rfl) kR dE) ?_
      refine rZ4 ((aQ rfl rfl).to eT) ?_
      refine rZ3 (bH 50 rfl rfl (bs.ho.get 12 _ rfl) kR dE) ?_
      refine rZ5 ((aQ rfl rfl).to eT) ?_
      refine rZ3 (bH 50 rfl rfl (bs.ho.get 11 _ rfl) kR dE) ?_
      refine rZ5 ((aQ rfl rfl).to eT) ?_
      refine rZ3 (bH 50 rfl rfl (bs.ho.get 14 _ rfl) kR dE) ?_
      refine rZ5 ((aQ rfl rfl).to eT) ?_
      refine rZ3 (bH 50 rfl rfl (bs.ho.get 18 _ rfl) kR dE) ?_
      refine rl ((aQ rfl rfl).to eF) (g3 ?_)
      refine aU rfl rfl ?_
      refine g2 ?_
      refine dO (L' := [(1, pT b1), (2, pT b2), (3, pT b3)]) kns (fun w s => s) ?_
      have e_month : bZ o = o.aPt := by unfold bZ; simp [hnd]
      have e_mday : bN o = o.aPu := by unfold bN; simp [hnd]
      have e_wday : bP o = o.wday := by unfold bP; simp [hnd]
      refine zJ (x := { x with pm := x.p10, cm := x.c10, pd := x.p11, cd := x.c11, pw := x.p14, cw := x.c14 }) ok hsort (H := H) (S := S) ⟨(cA3 bs.ho (show lkp (ky 50 10) _ = some (Value.slice x.p10 (bZ o).length x.c10) from by rw [e_month]; exact bs.ho.get 10 _ rfl) (show lkp (ky 50 11) _ = some (Value.slice x.p11 (bN o).length x.c11) from by rw [e_mday]; exact bs.ho.get 11 _ rfl) (show lkp (ky 50 14) _ = some (Value.slice x.p14 (bP o).length x.c14) from by rw [e_wday]; exact bs.ho.get 14 _ rfl)), bs.hc, (cL kX bs.h2), bs.lim, bs.limB, (fX bs.frH), (fV bs.frS)⟩ s9 (by rw [e_month]; exact (s10).more) (by rw [e_mday]; exact (s11).more) s12 s13 (by rw [e_wday]; exact (s14).more) s15 s16 s17 s18 hR
    .have hnd : iY o = false := by unfold iY; rw [hz0, hz1, hz2, beq_eq_false_iff_ne.2 hz3]; simp
     refine g2 ?_
     refine rZ1 (bH 50 rfl rfl (bs.ho.get 13 _ rfl) kR dE) ?_
     refine rZ4 ((aQ rfl rfl).to eT) ?_
     refine rZ3 (bH 50 rfl rfl (bs.ho.get 12 _ rfl) kR dE) ?_
     refine rZ5 ((aQ rfl rfl).to eT) ?_
     refine rZ3 (bH 50 rfl rfl (bs.ho.get 11 _ rfl) kR dE) ?_
     refine rZ5 ((aQ rfl rfl).to eT) ?_
     refine rZ3 (bH 50 rfl rfl (bs.ho.get 14 _ rfl) kR dE) ?_
     refine rl ((aQ rfl rfl).to eF) (l5 ?_)
     refine dO (L' := [(1, pT b1), (2, pT b2), (3, pT b3)]) kns (fun w s => s) ?_
     have e_month : bZ o = o.aPt := by unfold bZ; simp [hnd]
     have e_mday : bN o = o.aPu := by unfold bN; simp [hnd]
     have e_wday : bP o = o.wday := by unfold bP; simp [hnd]
     refine zJ (x := { x with pm := x.p10, cm := x.c10, pd := x.p11, cd := x.c11, pw := x.p14, cw := x.c14 }) ok hsort (H := H) (S := S) ⟨(cA3 bs.ho (show lkp (ky 50 10) _ = some (Value.slice x.p10 (bZ o).length x.c10) from by rw [e_month]; exact bs.ho.get 10 _ rfl) (show lkp (ky 50 11) _ = some (Value.slice x.p11 (bN o).length x.c11) from by rw [e_mday]; exact bs.ho.get 11 _ rfl) (show lkp (ky 50 14) _ = some (Value.slice x.p14 (bP o).length x.c14) from by rw [e_wday]; exact bs.ho.get 14 _ rfl)), bs.hc, (cL kX bs.h2), bs.lim, bs.limB, (fX bs.frH), (fV bs.frS)⟩ s9 (by rw [e_month]; exact (s10).more) (by rw [e_mday]; exact (s11).more) s12 s13 (by rw [e_wday]; exact (s14).more) s15 s16 s17 s18 hR
   .have hnd : iY o = false := by unfold iY; rw [hz0, hz1, beq_eq_false_iff_ne.2 hz2]; simp
    refine g2 ?_
    refine rZ1 (bH 50 rfl rfl (bs.ho.get 13 _ rfl) kR dE) ?_
    refine rZ4 ((aQ rfl rfl).to eT) ?_
    refine rZ3 (bH 50 rfl rfl (bs.ho.get 12 _ rfl) kR dE) ?_
    refine rZ5 ((aQ rfl rfl).to eT) ?_
    refine rZ3 (bH 50 rfl rfl (bs.ho.get 11 _ rfl) kR dE) ?_
    refine rl ((aQ rfl rfl).to eF) (g15 ?_)
    refine aU rfl rfl ?_
    refine g2 ?_
    refine dO (L' := [(1, pT b1), (2, pT b2), (3, pT b3)]) kns (fun w s => s) ?_
    have e_month : bZ o = o.aPt := by unfold bZ; simp [hnd]
    have e_mday : bN o = o.aPu := by unfold bN; simp [hnd]
    have e_wday : bP o = o.wday := by unfold bP; simp [hnd]
    refine zJ (x := { x with pm := x.p10, cm := x.c10, pd := x.p11, cd := x.c11, pw := x.p14, cw := x.c14 }) ok hsort (H := H) (S := S) ⟨(cA3 bs.ho (show lkp (ky 50 10) _ = some (Value.slice x.p10 (bZ o).length x.c10) from by rw [e_month]; exact bs.ho.get 10 _ rfl) (show lkp (ky 50 11) _ = some (Value.slice x.p11 (bN o).length x.c11) from by rw [e_mday]; exact bs.ho.get 11 _ rfl) (show lkp (ky 50 14) _ = some (Value.slice x.p14 (bP o).length x.c14) from by rw [e_wday]; exact bs.ho.get 14 _ rfl)), bs.hc, (cL kX bs.h2), bs.lim, bs.limB, (fX bs.frH), (fV bs.frS)⟩ s9 (by rw [e_month]; exact (s10).more) (by rw [e_mday]; exact (s11).more) s12 s13 (by rw [e_wday]; exact (s14).more) s15 s16 s17 s18 hR
  .have hnd : iY o = false := by unfold iY; rw [hz0, beq_eq_false_iff_ne.2 hz1]; simp
   refine g2 ?_
   refine rZ1 (bH 50 rfl rfl (bs.ho.get 13 _ rfl) kR dE) ?_
   refine rZ4 ((aQ rfl rfl).to eT) ?_
   refine rZ3 (bH 50 rfl rfl (bs.ho.get 12 _ rfl) kR dE) ?_
   refine rl ((aQ rfl rfl).to eF) (g20 ?_)
   refine g1 ?_
   refine aU rfl rfl ?_
   refine g2 ?_
   refine dO (L' := [(1, pT b1), (2, pT b2), (3, pT b3)]) kns (fun w s => s) ?_
   have e_month : bZ o = o.aPt := by unfold bZ; simp [hnd]
   have e_mday : bN o = o.aPu := by unfold bN; simp [hnd]
   have e_wday : bP o = o.wday := by unfold bP; simp [hnd]
   refine zJ (x := { x with pm := x.p10, cm := x.c10, pd := x.p11, cd := x.c11, pw := x.p14, cw := x.c14 }) ok hsort (H := H) (S := S) ⟨(cA3 bs.ho (show lkp (ky 50 10) _ = some (Value.slice x.p10 (bZ o).length x.c10) from by rw [e_month]; exact bs.ho.get 10 _ rfl) (show lkp (ky 50 11) _ = some (Value.slice x.p11 (bN o).length x.c11) from by rw [e_mday]; exact bs.ho.get 11 _ rfl) (show lkp (ky 50 14) _ = some (Value.slice x.p14 (bP o).length x.c14) from by rw [e_wday]; exact bs.ho.get 14 _ rfl)), bs.hc, (cL kX bs.h2), bs.lim, bs.limB, (fX bs.frH), (fV bs.frS)⟩ s9 (by rw [e_month]; exact (s10).more) (by rw [e_mday]; exact (s11).more) s12 s13 (by rw [e_wday]; exact (s14).more) s15 s16 s17 s18 hR
 .have hnd : iY o = false := by unfold iY; rw [beq_eq_false_iff_ne.2 hz0]; simp
  refine g2 ?_
  refine rZ1 (bH 50 rfl rfl (bs.ho.get 13 _ rfl) kR dE) ?_
  refine rl ((aQ rfl rfl).to eF) (g25 ?_)
  refine g1 ?_
  refine aU rfl rfl ?_
  refine g2 ?_
  refine dO (L' := [(1, pT b1), (2, pT b2), (3, pT b3)]) kns (fun w s => s) ?_
  have e_month : bZ o = o.aPt := by unfold bZ; simp [hnd]
  have e_mday : bN o = o.aPu := by unfold bN; simp [hnd]
  have e_wday : bP o = o.wday := by unfold bP; simp [hnd]
  refine zJ (x := { x with pm := x.p10, cm := x.c10, pd := x.p11, cd := x.c11, pw := x.p14, cw := x.c14 }) ok hsort (H := H) (S := S) ⟨(cA3 bs.ho (show lkp (ky 50 10) _ = some (Value.slice x.p10 (bZ o).length x.c10) from by rw [e_month]; exact bs.ho.get 10 _ rfl) (show lkp (ky 50 11) _ = some (Value.slice x.p11 (bN o).length x.c11) from by rw [e_mday]; exact bs.ho.get 11 _ rfl) (show lkp (ky 50 14) _ = some (Value.slice x.p14 (bP o).length x.c14) from by rw [e_wday]; exact bs.ho.get 14 _ rfl)), bs.hc, (cL kX bs.h2), bs.lim, bs.limB, (fX bs.frH), (fV bs.frS)⟩ s9 (by rw [e_month]; exact (s10).more) (by rw [e_mday]; exact (s11).more) s12 s13 (by rw [e_wday]; exact (s14).more) s15 s16 s17 s18 hR
def rc0 (o : Opn) (x : Av) : List Value := [iV o.aP2, iV o.d, iV 0, iV o.aPp, iV o.aPq, iV 0, iV o.count, iV o.u, iV 0, .slice x.p9 (o.aPz).length x.c9, .slice x.p10 (o.aPt).length x.c10, .slice x.p11 (o.aPu).length x.c11, .slice x.p12 (o.aPw).length x.c12, .slice x.p13 (o.aPx).length x.c13, .slice x.p14 (o.wday).length x.c14, .slice x.p15 (o.hour).length x.c15, .slice x.p16 (o.aPr).length x.c16, .slice x.p17 (o.aPs).length x.c17, .slice x.p18 (o.aPy).length x.c18, iV 0, iV 0, iV 0, iV 0, iV 0, iV 0, iV 0, iV 0, iV 0, sN, sN, sN, sN, sN, sN, sN, sN, sN, sN, iV 0, iV 0, iV 0, iV 0, iV 0, iV 0, iV 0, iV 0, sN, sN, sN, sN, sN, sN, sN, sN, sN, sN, sN, sN, sN, iV 0]
theorem aOj {R : Ending -> World -> Prop} {o : Opn} {x : Av} {b1 b2 b3 : Nat} {H0 : LV} {S0 : LS} (ok : OpOk o) (hsort : o.aP2 < 4 -> kV F w0 (raw o)) (bs : Bs F w0 B H0 S0 b1 b2 b3 (oc0 o x) (rc0 o x) H S) (s9 : yS9 F w0 S x o) (s10 : aHo F w0 S x o) (s11 : aGy F w0 S x o) (s12 : u5 F w0 S x o) (s13 : uK F w0 S x o) (s14 : SrcU F w0 S 11 (.slice x.p14 (o.wday).length x.c14) o.wday) (s15 : aBk F w0 S x o) (s16 : zM F w0 S x o) (s17 : xP F w0 S x o) (s18 : uY F w0 S x o)  (hR : ∀ (x : Av) (S' : LS), OutF F w0 o x S0 S' -> ∀ w, Sees F w0 B H0 S' w -> R (.returned (.agg (j8 o x).toArray)) w) : GC Tryz.prog (Go.Fr.part [1, 1, 1] (Go.Fr.bodyOf Tryz.f67)) (bodyPost Tryz.prog Tryz.f67 R) 300 [(1, pT b1), (2, pT b2), (3, pT b3)] F w0 ((52, b3) :: (51, b2) :: (50, b1) :: B) H S := by
 have ok_ := ok
 have hd_ := ok.d
 have hi_ := ok.aPp
 have hcn := ok.count
 have hu_ := ok.u
 refine g3 ?_
 refine rZ1 (bH 50 rfl rfl (bs.ho.get 0 _ rfl) kR dE) ?_
 refine gL (cY 52 rfl rfl rfl (bs.hc.get 38 _ rfl) kR rfl dE (g6 ?_))
 refine rZ3 (bH 50 rfl rfl (bs.ho.get 3 _ rfl) kR dE) ?_
 refine aU rfl (decide_eq_false oM) ?_
 refine g5 ?_
 refine rZ1 (bH 50 rfl rfl (bs.ho.get 3 _ rfl) kR dE) ?_
 refine gL (cY 52 rfl rfl rfl (bs.hc.get 41 _ rfl) kR rfl dE (g6 ?_))
 refine rZ3 (bH 50 rfl rfl (bs.ho.get 6 _ rfl) kR dE) ?_
 refine aU rfl (decide_eq_false oM) ?_
 refine g5 ?_
 refine rZ1 (bH 50 rfl rfl (bs.ho.get 6 _ rfl) kR dE) ?_
 refine gL (cY 52 rfl rfl rfl (bs.hc.get 43 _ rfl) kR rfl dE (g6 ?_))
 refine rl (aW 50 rfl rfl (bs.ho.get 1 _ rfl) (bs.ho.get 2 _ rfl) kR dE) (gL (cvo rfl (fun w_ s_ => l8 _ _ w_) (g2 ?_)))
 refine aU rfl (decide_eq_false oM) ?_
 refine g5 ?_
 refine rl (aW 50 rfl rfl (bs.ho.get 1 _ rfl) (bs.ho.get 2 _ rfl) kR dE) (gL (cvo rfl (fun w_ s_ => qF _ _ _ w_) (g1 ?_)))
 refine gL (cI 50 rfl rfl rfl (rV (bs.ho.get 1 _ rfl) (bs.ho.get 2 _ rfl)) kR rfl ble (g5 ?_))
 refine rZ1 (aW 50 rfl rfl rfl rfl kR dE) ?_
 refine gL (cI 52 rfl rfl rfl (rV (bs.hc.get 39 _ rfl) (bs.hc.get 40 _ rfl)) kR rfl ble (g6 ?_))
 refine rl (aW 50 rfl rfl (bs.ho.get 7 _ rfl) (bs.ho.get 8 _ rfl) kR dE) (gL (cvo rfl (fun w_ s_ => l8 _ _ w_) (g2 ?_)))
 refine aB rfl (fun hc1 => ?_) (fun hc2 => ?_)
 .have hu0 : o.u = 0 := by have := oT hc1; exact this.1
  refine g2 ?_
  refine rl (aW 52 rfl rfl rfl rfl kR dE) (gL (cvo (v := .agg #[iV (o.d + 9223372036), iV 854775807]) rfl (fun w_ s_ => (aHn _ _ oM oM w_).mT (cRr rfl)) (g1 ?_)))
  refine gL (cI 52 rfl rfl rfl (rV (bs.hc.get 44 _ rfl) (bs.hc.get 45 _ rfl)) kR rfl ble (g6 ?_))
  refine rZ1 (bH 50 rfl rfl (bs.ho.get 4 _ rfl) kR dE) ?_
  refine gL (cY 52 rfl rfl rfl (bs.hc.get 42 _ rfl) kR rfl dE (g5 ?_))
  refine rZ1 (bH 50 rfl rfl (bs.ho.get 9 _ rfl) kR dE) ?_
  refine gL (cY 52 rfl rfl rfl (bs.hc.get 46 _ rfl) kR rfl dE (g2 ?_))
  refine dO (L' := [(1, pT b1), (2, pT b2), (3, pT b3)]) kns (fun w s => s) ?_
  have e0 : until0 o = o.d + 9223372036 := by unfold until0; rw [if_pos hu0]
  have e1 : until1 o = 854775807 := by unfold until1; rw [if_pos hu0]
  refine bu_B (x := x) ok hsort (H := (ky 52 46, .slice x.p9 (o.aPz).length x.c9) :: (ky 52 42, iV o.aPq) :: (ky 52 45, iV 854775807) :: (ky 52 44, iV (o.d + 9223372036)) :: (ky 52 40, iV 0) :: (ky 52 39, iV o.d) :: (ky 50 2, iV 0) :: (ky 50 1, iV o.d) :: (ky 52 43, iV o.count) :: (ky 52 41, iV o.aPp) :: (ky 52 38, iV o.aP2) :: H) (S := S) ⟨(cA bs.ho), (cA2 bs.hc (show lkp (ky 52 44) _ = some (iV (until0 o)) from by rw [e0]; rfl) (show lkp (ky 52 45) _ = some (iV (until1 o)) from by rw [e1]; rfl)), (cL kX bs.h2), (lY bs.lim), bs.limB, (fX bs.frH), (fV bs.frS)⟩ s9 s10 s11 s12 s13 s14 s15 s16 s17 s18 hR
 .have hu0 : ¬ o.u = 0 := by have := oF hc2; omega
  refine g3 ?_
  refine rl (aW 50 rfl rfl (bs.ho.get 7 _ rfl) (bs.ho.get 8 _ rfl) kR dE) (gL (cvo rfl (fun w_ s_ => qF _ _ _ w_) (g1 ?_)))
  refine gL (cI 50 rfl rfl rfl (rV (bs.ho.get 7 _ rfl) (bs.ho.get 8 _ rfl)) kR rfl ble (g4 ?_))
  refine rZ1 (aW 50 rfl rfl rfl rfl kR dE) ?_
  refine gL (cI 52 rfl rfl rfl (rV (bs.hc.get 44 _ rfl) (bs.hc.get 45 _ rfl)) kR rfl ble (g6 ?_))
  refine rZ1 (bH 50 rfl rfl (bs.ho.get 4 _ rfl) kR dE) ?_
  refine gL (cY 52 rfl rfl rfl (bs.hc.get 42 _ rfl) kR rfl dE (g5 ?_))
  refine rZ1 (bH 50 rfl rfl (bs.ho.get 9 _ rfl) kR dE) ?_
  refine gL (cY 52 rfl rfl rfl (bs.hc.get 46 _ rfl) kR rfl dE (g2 ?_))
  refine dO (L' := [(1, pT b1), (2, pT b2), (3, pT b3)]) kns (fun w s => s) ?_
  have e0 : until0 o = o.u := by unfold until0; rw [if_neg hu0]
  have e1 : until1 o = 0 := by unfold until1; rw [if_neg hu0]
  refine bu_B (x := x) ok hsort (H := (ky 52 46, .slice x.p9 (o.aPz).length x.c9) :: (ky 52 42, iV o.aPq) :: (ky 52 45, iV 0) :: (ky 52 44, iV o.u) :: (ky 50 8, iV 0) :: (ky 50 7, iV o.u) :: (ky 52 40, iV 0) :: (ky 52 39, iV o.d) :: (ky 50 2, iV 0) :: (ky 50 1, iV o.d) :: (ky 52 43, iV o.count) :: (ky 52 41, iV o.aPp) :: (ky 52 38, iV o.aP2) :: H) (S := S) ⟨(cA bs.ho), (cA2 bs.hc (show lkp (ky 52 44) _ = some (iV (until0 o)) from by rw [e0]; rfl) (show lkp (ky 52 45) _ = some (iV (until1 o)) from by rw [e1]; rfl)), (cL kX bs.h2), (lY bs.lim), bs.limB, (fX bs.frH), (fV bs.frS)⟩ s9 s10 s11 s12 s13 s14 s15 s16 s17 s18 hR
def aLa (i : Nat) : Int := match i with | 0 => 0 | 1 => 0 | 2 => 0 | 3 => 1 | 4 => 1 | 5 => 1 | 6 => 1 | 7 => 1 | _ => 0
def aLj (i : Nat) : Int := match i with | 0 => 59 | 1 => 59 | 2 => 23 | 3 => 31 | 4 => 366 | 5 => 53 | 6 => 12 | 7 => 366 | _ => 0
def vbP (i : Nat) : Bool := match i with | 0 => false | 1 => false | 2 => false | 3 => true | 4 => true | 5 => true | 6 => false | 7 => true | _ => false
def aJq (i : Nat) : Value := match i with | 0 => .string ⟨#[98, 121, 115, 101, 99, 111, 110, 100]⟩ | 1 => .string ⟨#[98, 121, 109, 105, 110, 117, 116, 101]⟩ | 2 => .string ⟨#[98, 121, 104, 111, 117, 114]⟩ | 3 => .string ⟨#[98, 121, 109, 111, 110, 116, 104, 100, 97, 121]⟩ | 4 => .string ⟨#[98, 121, 121, 101, 97, 114, 100, 97, 121]⟩ | 5 => .string ⟨#[98, 121, 119, 101, 101, 107, 110, 111]⟩ | 6 => .string ⟨#[98, 121, 109, 111, 110, 116, 104]⟩ | 7 => .string ⟨#[98, 121, 115, 101, 116, 112, 111, 115]⟩ | _ => .nilIface
def vbL (o : Opn) (i : Nat) : List Int := match i with | 0 => o.aPs | 1 => o.aPr | 2 => o.hour | 3 => o.aPu | 4 => o.aPw | 5 => o.aPx | 6 => o.aPt | 7 => o.aPz | _ => []
def aKj (x : Av) (i : Nat) : Option Addr := match i with | 0 => x.p17 | 1 => x.p16 | 2 => x.p15 | 3 => x.p11 | 4 => x.p12 | 5 => x.p13 | 6 => x.p10 | 7 => x.p9 | _ => none
def aKm (x : Av) (i : Nat) : Nat := match i with | 0 => x.c17 | 1 => x.c16 | 2 => x.c15 | 3 => x.c11 | 4 => x.c12 | 5 => x.c13 | 6 => x.c10 | 7 => x.c9 | _ => 0
def vbB (bb0 bb1 bb2 bb3 bb4 bb5 bb6 bb7 : Nat) (i : Nat) : Nat := match i with | 0 => bb0 | 1 => bb1 | 2 => bb2 | 3 => bb3 | 4 => bb4 | 5 => bb5 | 6 => bb6 | 7 => bb7 | _ => 0
def wD (o : Opn) (x : Av) (bb0 bb1 bb2 bb3 bb4 bb5 bb6 bb7 : Nat) : List Value := [.slice x.p17 (o.aPs).length x.c17, .string ⟨#[98, 121, 115, 101, 99, 111, 110, 100]⟩, sL bb0 2 2, .bool false, .slice x.p16 (o.aPr).length x.c16, .string ⟨#[98, 121, 109, 105, 110, 117, 116, 101]⟩, sL bb1 2 2, .bool false, .slice x.p15 (o.hour).length x.c15, .string ⟨#[98, 121, 104, 111, 117, 114]⟩, sL bb2 2 2, .bool false, .slice x.p11 (o.aPu).length x.c11, .string ⟨#[98, 121, 109, 111, 110, 116, 104, 100, 97, 121]⟩, sL bb3 2 2, .bool true, .slice x.p12 (o.aPw).length x.c12, .string ⟨#[98, 121, 121, 101, 97, 114, 100, 97, 121]⟩, sL bb4 2 2, .bool true, .slice x.p13 (o.aPx).length x.c13, .string ⟨#[98, 121, 119, 101, 101, 107, 110, 111]⟩, sL bb5 2 2, .bool true, .slice x.p10 (o.aPt).length x.c10, .string ⟨#[98, 121, 109, 111, 110, 116, 104]⟩, sL bb6 2 2, .bool false, .slice x.p9 (o.aPz).length x.c9, .string ⟨#[98, 121, 115, 101, 116, 112, 111, 115]⟩, sL bb7 2 2, .bool true]
theorem aNo (o : Opn) (x : Av) {bb0 bb1 bb2 bb3 bb4 bb5 bb6 bb7 : Nat} {i : Nat} (h : i < 8) : (wD o x bb0 bb1 bb2 bb3 bb4 bb5 bb6 bb7)[4 * i]? = some (.slice (aKj x i) (vbL o i).length (aKm x i)) /\ (wD o x bb0 bb1 bb2 bb3 bb4 bb5 bb6 bb7)[4 * i + 1]? = some (aJq i) /\ (wD o x bb0 bb1 bb2 bb3 bb4 bb5 bb6 bb7)[4 * i + 2]? = some (.slice (some ⟨vbB bb0 bb1 bb2 bb3 bb4 bb5 bb6 bb7 i, 0, none⟩) 2 2) /\ (wD o x bb0 bb1 bb2 bb3 bb4 bb5 bb6 bb7)[4 * i + 3]? = some (.bool (vbP i)) := by
 have e : i = 0 \/ i = 1 \/ i = 2 \/ i = 3 \/ i = 4 \/ i = 5 \/ i = 6 \/ i = 7 := by omega
 rcases e with rfl | rfl | rfl | rfl | rfl | rfl | rfl | rfl <;> exact ⟨rfl, rfl, rfl, rfl⟩
def inB (lo hi : Int) (pm : Bool) (y : Int) : Prop := (lo <= y /\ y <= hi) \/ (pm = true /\ -hi <= y /\ y <= -lo)
structure VbOk (o : Opn) : Prop where
 nums : ∀ i, i < 8 -> ∀ y ∈ vbL o i, inB (aLa i) (aLj i) (vbP i) y
 days : ∀ y ∈ o.wday, -53 <= y.2 /\ y.2 <= 53
 aPp : 0 <= o.aPp
 lens : ∀ i, i < 8 -> (vbL o i).length <= 1000000000
 wlen : o.wday.length <= 1000000000
theorem aG7 {b k : Nat} {lo hi y : Int} {pm : Bool} {ps : Value} (hrow : lkp k S = some ⟨sL b 2 2, 3, 1, 2, [iV lo, iV hi]⟩) (hb : 0 <= lo /\ lo <= 1000 /\ 0 <= hi /\ hi <= 1000) (hin : inB lo hi pm y) :
  ∀ w, Sees F w0 B H S w -> Calls Tryz.prog 80 #[ps, iV y, sL b 2 2, .bool pm] w fun e w' => e = .returned .nilIface /\ Sees F w0 B H S w' := by
 intro w s
 refine aF (args := [ps, iV y, sL b 2 2, .bool pm]) (L := [(0, ps), (1, iV y), (2, sL b 2 2), (3, .bool pm)]) (N := 44) Tryz.func80 rfl rfl ble rfl s (g7 ?_)
 by_cases h1 : lo <= y
 .by_cases h2 : y <= hi
  .refine g3 ?_
   refine rl (aC (e := 3) (n := 1) kR rfl rfl dE dE) (rl (bQ k rfl hrow rfl rfl kR) (rZ6 ((dV rfl rfl).to (v' := .bool true) (cB (decide_eq_true h1))) ?_))
   refine rZ1 (aC (e := 3) (n := 1) kR rfl rfl dE dE) ?_
   refine rZ1 (bQ k rfl hrow rfl rfl kR) ?_
   refine rZ1 ((d7 rfl rfl).to (v' := .bool true) (cB (decide_eq_true h2))) ?_
   refine rl ((gX rfl).to (v' := .bool false) (cB (rfl))) (g20 ?_)
   refine l5 ?_
   refine gR rfl fun w s => ⟨rfl, s⟩
  .obtain ⟨hpm, h3, h4⟩ : pm = true /\ -hi <= y /\ y <= -lo := by rcases hin with h | h; exact absurd h.2 h2; exact h
   refine g3 ?_
   refine rl (aC (e := 3) (n := 1) kR rfl rfl dE dE) (rl (bQ k rfl hrow rfl rfl kR) (rZ6 ((dV rfl rfl).to (v' := .bool true) (cB (decide_eq_true h1))) ?_))
   refine rZ1 (aC (e := 3) (n := 1) kR rfl rfl dE dE) ?_
   refine rZ1 (bQ k rfl hrow rfl rfl kR) ?_
   refine rZ1 ((d7 rfl rfl).to (v' := .bool false) (cB (decide_eq_false h2))) ?_
   refine rZ4 ((gX rfl).to (v' := .bool true) (cB (rfl))) ?_
   refine rZ7 ((gX rfl).to (v' := .bool false) (cB (by rw [hpm]; rfl))) ?_
   refine rZ1 (aC (e := 3) (n := 1) kR rfl rfl dE dE) ?_
   refine rZ3 (bQ k rfl hrow rfl rfl kR) ?_
   refine rZ7 ((d7 rfl rfl).to bT) ?_
   refine rZ1 (aC (e := 3) (n := 1) kR rfl rfl dE dE) ?_
   refine rZ3 (bQ k rfl hrow rfl rfl kR) ?_
   refine rZ3 ((dV rfl rfl).to bT) ?_
   refine rl ((gX rfl).to (v' := .bool false) (cB (rfl))) (oD ?_)
   refine gR rfl fun w s => ⟨rfl, s⟩
 .obtain ⟨hpm, h3, h4⟩ : pm = true /\ -hi <= y /\ y <= -lo := by rcases hin with h | h; exact absurd h.1 h1; exact h
  refine g3 ?_
  refine rl (aC (e := 3) (n := 1) kR rfl rfl dE dE) (rl (bQ k rfl hrow rfl rfl kR) (rZ7 ((dV rfl rfl).to (v' := .bool false) (cB (decide_eq_false h1))) ?_))
  refine rZ4 ((gX rfl).to (v' := .bool true) (cB (rfl))) ?_
  refine rZ7 ((gX rfl).to (v' := .bool false) (cB (by rw [hpm]; rfl))) ?_
  refine rZ1 (aC (e := 3) (n := 1) kR rfl rfl dE dE) ?_
  refine rZ3 (bQ k rfl hrow rfl rfl kR) ?_
  refine rZ7 ((d7 rfl rfl).to bT) ?_
  refine rZ1 (aC (e := 3) (n := 1) kR rfl rfl dE dE) ?_
  refine rZ3 (bQ k rfl hrow rfl rfl kR) ?_
  refine rZ3 ((dV rfl rfl).to bT) ?_
  refine rl ((gX rfl).to (v' := .bool false) (cB (rfl))) (oD ?_)
  refine gR rfl fun w s => ⟨rfl, s⟩
section
variable {P : Program} {N : Nat} {L : Fr.Loc} {d : Nat} {v : Value} {ty : TypeId} {pos : String} {aft : Array Edge} {g : Option (Nat × Bool)}
theorem kB {t : TypeId} {x y z u : Operand} {vx vy vz vu : Value} (hx : ev L x = some vx) (hy : ev L y = some vy) (hz : ev L z = some vz) (hu : ev L u = some vu) (hb : ∀ w : World, (Instr.build t #[(0, vx), (1, vy), (2, vz), (3, vu)]).run P w = .ok (.agg #[vx, vy, vz, vu]) w) : Rd P ⟨some d, .build t #[(0, x), (1, y), (2, z), (3, u)], ty, pos, aft, g⟩ N L F w0 B H S (.agg #[vx, vy, vz, vu]) :=
 iI (ps := [(0, x), (1, y), (2, z), (3, u)]) (vs := [(0, vx), (1, vy), (2, vz), (3, vu)]) (by simp [evp, hx, hy, hz, hu]) hb
end
theorem aHv {k b o len cap : Nat} {q : Slc} {w : World} (s : Sees F w0 B H S w) (hl : lkp k S = some q) (hv : q.v = sL b len cap) {cs : List Value} (h : ∀ (j : Nat) u, cs[j]? = some u -> q.xs[o + j]? = some u) : w.rangeAt b o cs := fun j u hu => s.aPl hl hv (h j u hu)
theorem aLr {R : Ending -> World -> Prop} {o : Opn} {x : Av} (vk : VbOk o) {b1 : Nat} (hb1 : lkp 50 B = some b1) (hc : cellsAt 50 H 0 (oc0 o x)) (lim : Lim 53 B H S) (s9 : yS9 F w0 S x o) (s10 : aHo F w0 S x o) (s11 : aGy F w0 S x o) (s12 : u5 F w0 S x o) (s13 : uK F w0 S x o) (s14 : SrcU F w0 S 11 (.slice x.p14 (o.wday).length x.c14) o.wday) (s15 : aBk F w0 S x o) (s16 : zM F w0 S x o) (s17 : xP F w0 S x o) (s18 : uY F w0 S x o) (hR : ∀ w, Sees F w0 B H S w -> R (.returned .nilIface) w) :
  GC Tryz.prog (Go.Fr.part [1] (Go.Fr.bodyOf Tryz.f66)) (bodyPost Tryz.prog Tryz.f66 R) 93 [(1, pT b1)] F w0 B H S := by
 refine g3 ?_
 refine rl (bH 50 rfl hb1 (hc.get 17 _ rfl) kR dE) (gL (fY 60 (e := 3) (sz := 1) (n := 2) (vs := [(0, iV 0), (1, iV 59)]) (cs := [iV 0, iV 59]) dE rfl kW rfl dE dE (lim.s 60 dE) (fun bb0 hbb0 => rZ1 ((kB rfl rfl rfl rfl kW)) ?_)))
 refine rl (bH 50 rfl hb1 (hc.get 16 _ rfl) kR dE) (gL (fY 61 (e := 3) (sz := 1) (n := 2) (vs := [(0, iV 0), (1, iV 59)]) (cs := [iV 0, iV 59]) dE rfl kW rfl dE dE (lim.s 61 dE) (fun bb1 hbb1 => rZ1 ((kB rfl rfl rfl rfl kW)) ?_)))
 refine rl (bH 50 rfl hb1 (hc.get 15 _ rfl) kR dE) (gL (fY 62 (e := 3) (sz := 1) (n := 2) (vs := [(0, iV 0), (1, iV 23)]) (cs := [iV 0, iV 23]) dE rfl kW rfl dE dE (lim.s 62 dE) (fun bb2 hbb2 => rZ1 ((kB rfl rfl rfl rfl kW)) ?_)))
 refine rl (bH 50 rfl hb1 (hc.get 11 _ rfl) kR dE) (gL (fY 63 (e := 3) (sz := 1) (n := 2) (vs := [(0, iV 1), (1, iV 31)]) (cs := [iV 1, iV 31]) dE rfl kW rfl dE dE (lim.s 63 dE) (fun bb3 hbb3 => rZ1 ((kB rfl rfl rfl rfl kW)) ?_)))
 refine rl (bH 50 rfl hb1 (hc.get 12 _ rfl) kR dE) (gL (fY 64 (e := 3) (sz := 1) (n := 2) (vs := [(0, iV 1), (1, iV 366)]) (cs := [iV 1, iV 366]) dE rfl kW rfl dE dE (lim.s 64 dE) (fun bb4 hbb4 => rZ1 ((kB rfl rfl rfl rfl kW)) ?_)))
 refine rl (bH 50 rfl hb1 (hc.get 13 _ rfl) kR dE) (gL (fY 65 (e := 3) (sz := 1) (n := 2) (vs := [(0, iV 1), (1, iV 53)]) (cs := [iV 1, iV 53]) dE rfl kW rfl dE dE (lim.s 65 dE) (fun bb5 hbb5 => rZ1 ((kB rfl rfl rfl rfl kW)) ?_)))
 refine rl (bH 50 rfl hb1 (hc.get 10 _ rfl) kR dE) (gL (fY 66 (e := 3) (sz := 1) (n := 2) (vs := [(0, iV 1), (1, iV 12)]) (cs := [iV 1, iV 12]) dE rfl kW rfl dE dE (lim.s 66 dE) (fun bb6 hbb6 => rZ1 ((kB rfl rfl rfl rfl kW)) ?_)))
 refine rl (bH 50 rfl hb1 (hc.get 9 _ rfl) kR dE) (gL (fY 67 (e := 3) (sz := 1) (n := 2) (vs := [(0, iV 1), (1, iV 366)]) (cs := [iV 1, iV 366]) dE rfl kW rfl dE dE (lim.s 67 dE) (fun bb7 hbb7 => rl ((kB rfl rfl rfl rfl kW)) (gL (fY 68 (e := 128) (sz := 4) (n := 8) (vs := [(0, .agg #[.slice x.p17 (o.aPs).length x.c17, .string ⟨#[98, 121, 115, 101, 99, 111, 110, 100]⟩, sL bb0 2 2, .bool false]), (1, .agg #[.slice x.p16 (o.aPr).length x.c16, .string ⟨#[98, 121, 109, 105, 110, 117, 116, 101]⟩, sL bb1 2 2, .bool false]), (2, .agg #[.slice x.p15 (o.hour).length x.c15, .string ⟨#[98, 121, 104, 111, 117, 114]⟩, sL bb2 2 2, .bool false]), (3, .agg #[.slice x.p11 (o.aPu).length x.c11, .string ⟨#[98, 121, 109, 111, 110, 116, 104, 100, 97, 121]⟩, sL bb3 2 2, .bool true]), (4, .agg #[.slice x.p12 (o.aPw).length x.c12, .string ⟨#[98, 121, 121, 101, 97, 114, 100, 97, 121]⟩, sL bb4 2 2, .bool true]), (5, .agg #[.slice x.p13 (o.aPx).length x.c13, .string ⟨#[98, 121, 119, 101, 101, 107, 110, 111]⟩, sL bb5 2 2, .bool true]), (6, .agg #[.slice x.p10 (o.aPt).length x.c10, .string ⟨#[98, 121, 109, 111, 110, 116, 104]⟩, sL bb6 2 2, .bool false]), (7, .agg #[.slice x.p9 (o.aPz).length x.c9, .string ⟨#[98, 121, 115, 101, 116, 112, 111, 115]⟩, sL bb7 2 2, .bool true])]) (cs := wD o x bb0 bb1 bb2 bb3 bb4 bb5 bb6 bb7) dE rfl kW rfl dE dE (lim.s 68 dE) (fun bz hbz => g16 ?_))))))
 refine g1 ?_
 refine aY (ι := (Nat)) (fun i => 8 - i) (fun i => (i <= 8)) (fun i => [(1, pT b1), (4, .func (.func 80) #[] #[]), (45, sL bz 8 8), (46, iV 8), (47, iV i)]) (fun i => B) (fun i => H) (fun i => (68, ⟨sL bz 8 8, 128, 4, 8, wD o x bb0 bb1 bb2 bb3 bb4 bb5 bb6 bb7⟩) :: (67, ⟨sL bb7 2 2, 3, 1, 2, [iV 1, iV 366]⟩) :: (66, ⟨sL bb6 2 2, 3, 1, 2, [iV 1, iV 12]⟩) :: (65, ⟨sL bb5 2 2, 3, 1, 2, [iV 1, iV 53]⟩) :: (64, ⟨sL bb4 2 2, 3, 1, 2, [iV 1, iV 366]⟩) :: (63, ⟨sL bb3 2 2, 3, 1, 2, [iV 1, iV 31]⟩) :: (62, ⟨sL bb2 2 2, 3, 1, 2, [iV 0, iV 23]⟩) :: (61, ⟨sL bb1 2 2, 3, 1, 2, [iV 0, iV 59]⟩) :: (60, ⟨sL bb0 2 2, 3, 1, 2, [iV 0, iV 59]⟩) :: S) 0 (Nat.zero_le _) kns (fun w s => by exact s) ?_
 rintro i hi
 refine dS ?_
 refine g6 ?_
 refine aB rfl (fun hc1 => ?_) (fun hc2 => ?_)
 .have hlt : i < 8 := by have := oT hc1; omega
  obtain ⟨q0, q1, q2, q3⟩ := aNo o x (bb0 := bb0) (bb1 := bb1) (bb2 := bb2) (bb3 := bb3) (bb4 := bb4) (bb5 := bb5) (bb6 := bb6) (bb7 := bb7) hlt
  have e8 : i = 0 \/ i = 1 \/ i = 2 \/ i = 3 \/ i = 4 \/ i = 5 \/ i = 6 \/ i = 7 := by omega
  have hrow : lkp (60 + i) ((68, ⟨sL bz 8 8, 128, 4, 8, wD o x bb0 bb1 bb2 bb3 bb4 bb5 bb6 bb7⟩) :: (67, ⟨sL bb7 2 2, 3, 1, 2, [iV 1, iV 366]⟩) :: (66, ⟨sL bb6 2 2, 3, 1, 2, [iV 1, iV 12]⟩) :: (65, ⟨sL bb5 2 2, 3, 1, 2, [iV 1, iV 53]⟩) :: (64, ⟨sL bb4 2 2, 3, 1, 2, [iV 1, iV 366]⟩) :: (63, ⟨sL bb3 2 2, 3, 1, 2, [iV 1, iV 31]⟩) :: (62, ⟨sL bb2 2 2, 3, 1, 2, [iV 0, iV 23]⟩) :: (61, ⟨sL bb1 2 2, 3, 1, 2, [iV 0, iV 59]⟩) :: (60, ⟨sL bb0 2 2, 3, 1, 2, [iV 0, iV 59]⟩) :: S) = some ⟨.slice (some ⟨vbB bb0 bb1 bb2 bb3 bb4 bb5 bb6 bb7 i, 0, none⟩) 2 2, 3, 1, 2, [iV (aLa i), iV (aLj i)]⟩ := by rcases e8 with rfl | rfl | rfl | rfl | rfl | rfl | rfl | rfl <;> rfl
  have hbd : 0 <= aLa i /\ aLa i <= 1000 /\ 0 <= aLj i /\ aLj i <= 1000 := by rcases e8 with rfl | rfl | rfl | rfl | rfl | rfl | rfl | rfl <;> decide
  have hvl := vk.lens i hlt
  have src : SrcT F w0 S 11 (.slice (aKj x i) (vbL o i).length (aKm x i)) (vbL o i) := by rcases e8 with rfl | rfl | rfl | rfl | rfl | rfl | rfl | rfl <;> first | exact s17 | exact s16 | exact s15 | exact s11 | exact s12 | exact s13 | exact s10 | exact s9
  refine g6 ?_
  refine rl (aC (e := 128) (n := 4) kR rfl rfl oM oM) (rl (fL (cs := [.slice (aKj x i) (vbL o i).length (aKm x i), aJq i, .slice (some ⟨vbB bb0 bb1 bb2 bb3 bb4 bb5 bb6 bb7 i, 0, none⟩) 2 2, .bool (vbP i)]) kR rfl (fun w s => aHv (k := 68) s rfl rfl (fun j u hu => by match j, hu with | 0, hu => exact (by rw [<- hu]; exact (congrArg (fun n => (wD o x bb0 bb1 bb2 bb3 bb4 bb5 bb6 bb7)[n]?) (show 0 + (i : Int).toNat * 4 + 0 = 4 * i by omega)).trans q0) | 1, hu => exact (by rw [<- hu]; exact (congrArg (fun n => (wD o x bb0 bb1 bb2 bb3 bb4 bb5 bb6 bb7)[n]?) (show 0 + (i : Int).toNat * 4 + 1 = 4 * i + 1 by omega)).trans q1) | 2, hu => exact (by rw [<- hu]; exact (congrArg (fun n => (wD o x bb0 bb1 bb2 bb3 bb4 bb5 bb6 bb7)[n]?) (show 0 + (i : Int).toNat * 4 + 2 = 4 * i + 2 by omega)).trans q2) | 3, hu => exact (by rw [<- hu]; exact (congrArg (fun n => (wD o x bb0 bb1 bb2 bb3 bb4 bb5 bb6 bb7)[n]?) (show 0 + (i : Int).toNat * 4 + 3 = 4 * i + 3 by omega)).trans q3)))) (gL (eJ 70 (cs := [sN, .string ⟨#[]⟩, sN, .bool false]) dE kR (lim.b 70 dE) (fun o ho => lim.h 70 dE o ho) ble (fun b6 hb6 => gL (cI 70 rfl rfl rfl rfl kR (by rcases e8 with rfl | rfl | rfl | rfl | rfl | rfl | rfl | rfl <;> rfl) ble (g11 ?_))))))
  refine aY (ι := (Nat)) (fun j => (vbL o i).length - j) (fun j => (j <= (vbL o i).length)) (fun j => [(1, pT b1), (4, .func (.func 80) #[] #[]), (45, sL bz 8 8), (46, iV 8), (47, iV i), (6, pT b6), (52, .slice (aKj x i) (vbL o i).length (aKm x i)), (53, iV ((vbL o i).length)), (54, iV j)]) (fun j => (70, b6) :: B) (fun j => aL 70 0 [.slice (aKj x i) (vbL o i).length (aKm x i), aJq i, .slice (some ⟨vbB bb0 bb1 bb2 bb3 bb4 bb5 bb6 bb7 i, 0, none⟩) 2 2, .bool (vbP i)] ++ H) (fun j => (68, ⟨sL bz 8 8, 128, 4, 8, wD o x bb0 bb1 bb2 bb3 bb4 bb5 bb6 bb7⟩) :: (67, ⟨sL bb7 2 2, 3, 1, 2, [iV 1, iV 366]⟩) :: (66, ⟨sL bb6 2 2, 3, 1, 2, [iV 1, iV 12]⟩) :: (65, ⟨sL bb5 2 2, 3, 1, 2, [iV 1, iV 53]⟩) :: (64, ⟨sL bb4 2 2, 3, 1, 2, [iV 1, iV 366]⟩) :: (63, ⟨sL bb3 2 2, 3, 1, 2, [iV 1, iV 31]⟩) :: (62, ⟨sL bb2 2 2, 3, 1, 2, [iV 0, iV 23]⟩) :: (61, ⟨sL bb1 2 2, 3, 1, 2, [iV 0, iV 59]⟩) :: (60, ⟨sL bb0 2 2, 3, 1, 2, [iV 0, iV 59]⟩) :: S) 0 (Nat.zero_le _) kns (fun w s => by exact s.low 71 (Lim.aPk dE _ 0 ble (by repeat (first | exact lim.mono dE | apply Lim.aPi _ dE | apply Lim.aPj _ dE))) agx agx agx) ?_
  rintro j hj
  refine dS ?_
  refine g6 ?_
  refine aB rfl (fun hc1 => ?_) (fun hc2 => ?_)
  .have hltj : j < (vbL o i).length := by have := oT hc1; omega
   obtain ⟨y, hy⟩ : ∃ y, (vbL o i)[j]? = some y := ⟨_, List.getElem?_eq_getElem hltj⟩
   have hin := vk.nums i hlt y (List.mem_of_getElem? hy)
   refine cQ (fun w s => ((((((((((src.cons dE).cons dE).cons dE).cons dE).cons dE).cons dE).cons dE).cons dE).cons dE)).head s oM) fun hh => ?_
   obtain ⟨by_, oy_, hp_y⟩ := hh
   have src_y := src
   rw [hp_y] at src_y
   refine g6 ?_
   refine rl (aC (e := 3) (n := 1) kR (congrArg (fun p => some (Value.slice p _ _)) hp_y) rfl oM oM) (rl (dT kR rfl (fun w s => ((((((((((src_y.cons dE).cons dE).cons dE).cons dE).cons dE).cons dE).cons dE).cons dE).cons dE)).cell hy s)) (g13 ?_))
   refine gL (jE (ι := Unit) (first := []) (capt := []) (fun _ => .nilIface) (fun _ => True) (fun _ => _) (fun _ => _) (fun _ => _) dE rfl kR rfl (fun w_ s_ => (aG7 hrow hbd hin w_ s_).mono fun e_ w2_ h_ => ⟨(), trivial, h_.1, h_.2⟩) (fun _ _ => g6 ?_))
   refine rl ((yT (v := .bool false) rfl rfl kW)) (g2 ?_)
   refine aU rfl rfl ?_
   refine g7 ?_
   refine aN (j + 1) oM (by show j + 1 <= (vbL o i).length; omega) kns (fun w s => by exact s)
  .have hgej : ¬ j < (vbL o i).length := by have := oF hc2; omega
   refine g10 ?_
   refine aN (i + 1) oM (by show i + 1 <= 8; omega) kns (fun w s => by exact s.low 69 ((by repeat (first | exact lim.mono dE | apply Lim.aPi _ dE))) agx agx agx)
 .have hge : ¬ i < 8 := by have := oF hc2; omega
  refine g9 ?_
  refine rZ5 (bH 50 rfl hb1 (hc.get 14 _ rfl) kR dE) ?_
  refine aY (ι := (Nat)) (fun k => o.wday.length - k) (fun k => (k <= o.wday.length)) (fun k => [(1, pT b1), (73, .slice x.p14 (o.wday).length x.c14), (74, iV (o.wday.length)), (75, iV k)]) (fun k => B) (fun k => H) (fun k => S) 0 (Nat.zero_le _) kns (fun w s => by exact s.low 53 lim agx agx agx) ?_
  rintro k hk
  refine dS ?_
  refine g6 ?_
  refine aB rfl (fun hc1 => ?_) (fun hc2 => ?_)
  .have hltk : k < o.wday.length := by have := oT hc1; omega
   obtain ⟨y, hy⟩ : ∃ y, o.wday[k]? = some y := ⟨_, List.getElem?_eq_getElem hltk⟩
   have hwl := vk.wlen
   have hdy := vk.days y (List.mem_of_getElem? hy)
   refine cQ (fun w s => s14.head s oM) fun hh => ?_
   obtain ⟨by_, oy_, hp_y⟩ := hh
   have src_y := s14
   rw [hp_y] at src_y
   refine g6 ?_
   refine rl (aC (e := 82) (n := 2) kR (congrArg (fun p => some (Value.slice p _ _)) hp_y) rfl oM oM) (rl (fL (cs := [iV y.1, iV y.2]) kR rfl (fun w s => src_y.cell hy s)) (gL (eJ 53 (cs := [iV 0, iV 0]) dE kR (lim.b 53 dE) (fun o ho => lim.h 53 dE o ho) ble (fun b11 hb11 => gL (sta 53 rfl rfl rfl rfl (g6 ?_))))))
   refine rZ6 ((bU rfl rfl).to bF) ?_
   refine sA ((cR rfl rfl).to bF) ?_
   refine aN (k + 1) oM (by show k + 1 <= o.wday.length; omega) kns (fun w s => by exact s.low 53 lim agx agx agx)
  .have hgek : ¬ k < o.wday.length := by have := oF hc2; omega
   refine g9 ?_
   refine rZ3 (bH 50 rfl hb1 (hc.get 3 _ rfl) kR dE) ?_
   refine aU rfl (decide_eq_false (by have := vk.aPp; omega)) ?_
   refine g8 ?_
   exact aT (.inl rfl) rfl (aE rfl) hR
end
end Go.Proofs.YthomapgobmdicaaGreat
