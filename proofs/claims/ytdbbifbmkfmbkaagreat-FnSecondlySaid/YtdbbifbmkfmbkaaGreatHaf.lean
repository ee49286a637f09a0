import Derived.Test.YtdbbifbmkfmbkaaGreatHae
set_option linter.unusedVariables false
set_option linter.unusedSimpArgs false
set_option maxRecDepth 100000
set_option maxHeartbeats 8000000
namespace Go.Proofs.YtdbbifbmkfmbkaaGreat
open Go.RowKit Go.Fr Go.Tab
section
variable {F : Nat → Prop} {w0 : World} {B : LN} {H : LV} {S : LS}
open Go.Md
structure Av where
 p9 : Option Addr
 p10 : Option Addr
 p11 : Option Addr
 p12 : Option Addr
 p13 : Option Addr
 p14 : Option Addr
 p15 : Option Addr
 p16 : Option Addr
 p17 : Option Addr
 p18 : Option Addr
 c9 : Nat
 c10 : Nat
 c11 : Nat
 c12 : Nat
 c13 : Nat
 c14 : Nat
 c15 : Nat
 c16 : Nat
 c17 : Nat
 c18 : Nat
 pm : Option Addr
 pd : Option Addr
 pw : Option Addr
 q48 : Option Addr
 q49 : Option Addr
 q52 : Option Addr
 q53 : Option Addr
 q54 : Option Addr
 q55 : Option Addr
 q56 : Option Addr
 tp : Option Addr
 cm : Nat
 cd : Nat
 cw : Nat
 e48 : Nat
 e49 : Nat
 e52 : Nat
 e53 : Nat
 e54 : Nat
 e55 : Nat
 e56 : Nat
 tc : Nat
def oc0 (o : Opn) (x : Av) : List Value := [iV o.freq, iV o.d, iV 0, iV o.interval, iV o.wkst, iV 0, iV o.count, iV o.u, iV 0, .slice x.p9 (o.setpos).length x.c9, .slice x.p10 (o.month).length x.c10, .slice x.p11 (o.mday).length x.c11, .slice x.p12 (o.yday).length x.c12, .slice x.p13 (o.weekno).length x.c13, .slice x.p14 (o.wday).length x.c14, .slice x.p15 (o.hour).length x.c15, .slice x.p16 (o.minute).length x.c16, .slice x.p17 (o.second).length x.c17, .slice x.p18 (o.easter).length x.c18]
def oc1 (o : Opn) (x : Av) : List Value := [iV o.freq, iV o.d, iV 0, iV o.interval, iV o.wkst, iV 0, iV o.count, iV o.u, iV 0, .slice x.p9 (o.setpos).length x.c9, .slice x.pm (bW o).length x.cm, .slice x.pd (bK o).length x.cd, .slice x.p12 (o.yday).length x.c12, .slice x.p13 (o.weekno).length x.c13, .slice x.pw (bR o).length x.cw, .slice x.p15 (o.hour).length x.c15, .slice x.p16 (o.minute).length x.c16, .slice x.p17 (o.second).length x.c17, .slice x.p18 (o.easter).length x.c18]
def rcA (o : Opn) (x : Av) : List Value := [iV o.freq, iV o.d, iV 0, iV o.interval, iV o.wkst, iV 0, iV o.count, iV o.u, iV 0, .slice x.p9 (o.setpos).length x.c9, .slice x.p10 (o.month).length x.c10, .slice x.p11 (o.mday).length x.c11, .slice x.p12 (o.yday).length x.c12, .slice x.p13 (o.weekno).length x.c13, .slice x.p14 (o.wday).length x.c14, .slice x.p15 (o.hour).length x.c15, .slice x.p16 (o.minute).length x.c16, .slice x.p17 (o.second).length x.c17, .slice x.p18 (o.easter).length x.c18, iV 0, iV 0, iV 0, iV 0, iV 0, iV 0, iV 0, iV 0, iV 0, .slice none 0 0, .slice none 0 0, .slice none 0 0, .slice none 0 0, .slice none 0 0, .slice none 0 0, .slice none 0 0, .slice none 0 0, .slice none 0 0, .slice none 0 0, iV o.freq, iV o.d, iV 0, iV o.interval, iV o.wkst, iV o.count, iV (until0 o), iV (until1 o), .slice x.p9 (o.setpos).length x.c9, .slice none 0 0, .slice none 0 0, .slice none 0 0, .slice none 0 0, .slice none 0 0, .slice none 0 0, .slice none 0 0, .slice none 0 0, .slice none 0 0, .slice none 0 0, .slice none 0 0, .slice none 0 0, iV 0]
def rcC (o : Opn) (x : Av) : List Value := [iV o.freq, iV o.d, iV 0, iV o.interval, iV o.wkst, iV 0, iV o.count, iV o.u, iV 0, .slice x.p9 (o.setpos).length x.c9, .slice x.p10 (o.month).length x.c10, .slice x.p11 (o.mday).length x.c11, .slice x.p12 (o.yday).length x.c12, .slice x.p13 (o.weekno).length x.c13, .slice x.p14 (o.wday).length x.c14, .slice x.p15 (o.hour).length x.c15, .slice x.p16 (o.minute).length x.c16, .slice x.p17 (o.second).length x.c17, .slice x.p18 (o.easter).length x.c18, iV 0, iV 0, iV 0, iV 0, iV 0, iV 0, iV 0, iV 0, iV 0, .slice none 0 0, .slice none 0 0, .slice none 0 0, .slice none 0 0, .slice none 0 0, .slice none 0 0, .slice none 0 0, .slice none 0 0, .slice none 0 0, .slice none 0 0, iV o.freq, iV o.d, iV 0, iV o.interval, iV o.wkst, iV o.count, iV (until0 o), iV (until1 o), .slice x.p9 (o.setpos).length x.c9, .slice x.pm (bW o).length x.cm, .slice x.q48 (fX (bK o)).length x.e48, .slice x.q49 (fW (bK o)).length x.e49, .slice x.p12 (o.yday).length x.c12, .slice none 0 0, .slice none 0 0, .slice none 0 0, .slice none 0 0, .slice none 0 0, .slice none 0 0, .slice x.p18 (o.easter).length x.c18, .slice none 0 0, iV 0]
def rcD (o : Opn) (x : Av) : List Value := [iV o.freq, iV o.d, iV 0, iV o.interval, iV o.wkst, iV 0, iV o.count, iV o.u, iV 0, .slice x.p9 (o.setpos).length x.c9, .slice x.p10 (o.month).length x.c10, .slice x.p11 (o.mday).length x.c11, .slice x.p12 (o.yday).length x.c12, .slice x.p13 (o.weekno).length x.c13, .slice x.p14 (o.wday).length x.c14, .slice x.p15 (o.hour).length x.c15, .slice x.p16 (o.minute).length x.c16, .slice x.p17 (o.second).length x.c17, .slice x.p18 (o.easter).length x.c18, iV 0, iV 0, iV 0, iV 0, iV 0, iV 0, iV 0, iV 0, iV 0, .slice none 0 0, .slice none 0 0, .slice none 0 0, .slice none 0 0, .slice none 0 0, .slice none 0 0, .slice none 0 0, .slice none 0 0, .slice none 0 0, .slice none 0 0, iV o.freq, iV o.d, iV 0, iV o.interval, iV o.wkst, iV o.count, iV (until0 o), iV (until1 o), .slice x.p9 (o.setpos).length x.c9, .slice x.pm (bW o).length x.cm, .slice x.q48 (fX (bK o)).length x.e48, .slice x.q49 (fW (bK o)).length x.e49, .slice x.p12 (o.yday).length x.c12, .slice x.p13 (o.weekno).length x.c13, .slice x.q52 (((bR o).filter (cI o.freq)).map Prod.fst).length x.e52, .slice x.q53 ((bR o).filter fun y => !cI o.freq y).length x.e53, .slice none 0 0, .slice none 0 0, .slice none 0 0, .slice x.p18 (o.easter).length x.c18, .slice none 0 0, iV 0]
def rcE (o : Opn) (x : Av) : List Value := [iV o.freq, iV o.d, iV 0, iV o.interval, iV o.wkst, iV 0, iV o.count, iV o.u, iV 0, .slice x.p9 (o.setpos).length x.c9, .slice x.p10 (o.month).length x.c10, .slice x.p11 (o.mday).length x.c11, .slice x.p12 (o.yday).length x.c12, .slice x.p13 (o.weekno).length x.c13, .slice x.p14 (o.wday).length x.c14, .slice x.p15 (o.hour).length x.c15, .slice x.p16 (o.minute).length x.c16, .slice x.p17 (o.second).length x.c17, .slice x.p18 (o.easter).length x.c18, iV 0, iV 0, iV 0, iV 0, iV 0, iV 0, iV 0, iV 0, iV 0, .slice none 0 0, .slice none 0 0, .slice none 0 0, .slice none 0 0, .slice none 0 0, .slice none 0 0, .slice none 0 0, .slice none 0 0, .slice none 0 0, .slice none 0 0, iV o.freq, iV o.d, iV 0, iV o.interval, iV o.wkst, iV o.count, iV (until0 o), iV (until1 o), .slice x.p9 (o.setpos).length x.c9, .slice x.pm (bW o).length x.cm, .slice x.q48 (fX (bK o)).length x.e48, .slice x.q49 (fW (bK o)).length x.e49, .slice x.p12 (o.yday).length x.c12, .slice x.p13 (o.weekno).length x.c13, .slice x.q52 (((bR o).filter (cI o.freq)).map Prod.fst).length x.e52, .slice x.q53 ((bR o).filter fun y => !cI o.freq y).length x.e53, .slice x.q54 (cG o).length x.e54, .slice none 0 0, .slice none 0 0, .slice x.p18 (o.easter).length x.c18, .slice none 0 0, iV 0]
def rcF (o : Opn) (x : Av) : List Value := [iV o.freq, iV o.d, iV 0, iV o.interval, iV o.wkst, iV 0, iV o.count, iV o.u, iV 0, .slice x.p9 (o.setpos).length x.c9, .slice x.p10 (o.month).length x.c10, .slice x.p11 (o.mday).length x.c11, .slice x.p12 (o.yday).length x.c12, .slice x.p13 (o.weekno).length x.c13, .slice x.p14 (o.wday).length x.c14, .slice x.p15 (o.hour).length x.c15, .slice x.p16 (o.minute).length x.c16, .slice x.p17 (o.second).length x.c17, .slice x.p18 (o.easter).length x.c18, iV 0, iV 0, iV 0, iV 0, iV 0, iV 0, iV 0, iV 0, iV 0, .slice none 0 0, .slice none 0 0, .slice none 0 0, .slice none 0 0, .slice none 0 0, .slice none 0 0, .slice none 0 0, .slice none 0 0, .slice none 0 0, .slice none 0 0, iV o.freq, iV o.d, iV 0, iV o.interval, iV o.wkst, iV o.count, iV (until0 o), iV (until1 o), .slice x.p9 (o.setpos).length x.c9, .slice x.pm (bW o).length x.cm, .slice x.q48 (fX (bK o)).length x.e48, .slice x.q49 (fW (bK o)).length x.e49, .slice x.p12 (o.yday).length x.c12, .slice x.p13 (o.weekno).length x.c13, .slice x.q52 (((bR o).filter (cI o.freq)).map Prod.fst).length x.e52, .slice x.q53 ((bR o).filter fun y => !cI o.freq y).length x.e53, .slice x.q54 (cG o).length x.e54, .slice x.q55 (bB o).length x.e55, .slice none 0 0, .slice x.p18 (o.easter).length x.c18, .slice none 0 0, iV 0]
def rcG (o : Opn) (x : Av) : List Value := [iV o.freq, iV o.d, iV 0, iV o.interval, iV o.wkst, iV 0, iV o.count, iV o.u, iV 0, .slice x.p9 (o.setpos).length x.c9, .slice x.p10 (o.month).length x.c10, .slice x.p11 (o.mday).length x.c11, .slice x.p12 (o.yday).length x.c12, .slice x.p13 (o.weekno).length x.c13, .slice x.p14 (o.wday).length x.c14, .slice x.p15 (o.hour).length x.c15, .slice x.p16 (o.minute).length x.c16, .slice x.p17 (o.second).length x.c17, .slice x.p18 (o.easter).length x.c18, iV 0, iV 0, iV 0, iV 0, iV 0, iV 0, iV 0, iV 0, iV 0, .slice none 0 0, .slice none 0 0, .slice none 0 0, .slice none 0 0, .slice none 0 0, .slice none 0 0, .slice none 0 0, .slice none 0 0, .slice none 0 0, .slice none 0 0, iV o.freq, iV o.d, iV 0, iV o.interval, iV o.wkst, iV o.count, iV (until0 o), iV (until1 o), .slice x.p9 (o.setpos).length x.c9, .slice x.pm (bW o).length x.cm, .slice x.q48 (fX (bK o)).length x.e48, .slice x.q49 (fW (bK o)).length x.e49, .slice x.p12 (o.yday).length x.c12, .slice x.p13 (o.weekno).length x.c13, .slice x.q52 (((bR o).filter (cI o.freq)).map Prod.fst).length x.e52, .slice x.q53 ((bR o).filter fun y => !cI o.freq y).length x.e53, .slice x.q54 (cG o).length x.e54, .slice x.q55 (bB o).length x.e55, .slice x.q56 (bI o).length x.e56, .slice x.p18 (o.easter).length x.c18, .slice none 0 0, iV 0]
def rcI (o : Opn) (x : Av) : List Value := [iV o.freq, iV o.d, iV 0, iV o.interval, iV o.wkst, iV 0, iV o.count, iV o.u, iV 0, .slice x.p9 (o.setpos).length x.c9, .slice x.p10 (o.month).length x.c10, .slice x.p11 (o.mday).length x.c11, .slice x.p12 (o.yday).length x.c12, .slice x.p13 (o.weekno).length x.c13, .slice x.p14 (o.wday).length x.c14, .slice x.p15 (o.hour).length x.c15, .slice x.p16 (o.minute).length x.c16, .slice x.p17 (o.second).length x.c17, .slice x.p18 (o.easter).length x.c18, iV 0, iV 0, iV 0, iV 0, iV 0, iV 0, iV 0, iV 0, iV 0, .slice none 0 0, .slice none 0 0, .slice none 0 0, .slice none 0 0, .slice none 0 0, .slice none 0 0, .slice none 0 0, .slice none 0 0, .slice none 0 0, .slice none 0 0, iV o.freq, iV o.d, iV 0, iV o.interval, iV o.wkst, iV o.count, iV (until0 o), iV (until1 o), .slice x.p9 (o.setpos).length x.c9, .slice x.pm (bW o).length x.cm, .slice x.q48 (fX (bK o)).length x.e48, .slice x.q49 (fW (bK o)).length x.e49, .slice x.p12 (o.yday).length x.c12, .slice x.p13 (o.weekno).length x.c13, .slice x.q52 (((bR o).filter (cI o.freq)).map Prod.fst).length x.e52, .slice x.q53 ((bR o).filter fun y => !cI o.freq y).length x.e53, .slice x.q54 (cG o).length x.e54, .slice x.q55 (bB o).length x.e55, .slice x.q56 (bI o).length x.e56, .slice x.p18 (o.easter).length x.c18, .slice x.tp (lB o).length x.tc, iV 0]
def iP (o : Opn) (x : Av) : List Value := [iV o.freq, iV o.d, iV 0, iV o.interval, iV o.wkst, iV 0, iV o.count, iV o.u, iV 0, .slice x.p9 (o.setpos).length x.c9, .slice x.p10 (o.month).length x.c10, .slice x.p11 (o.mday).length x.c11, .slice x.p12 (o.yday).length x.c12, .slice x.p13 (o.weekno).length x.c13, .slice x.p14 (o.wday).length x.c14, .slice x.p15 (o.hour).length x.c15, .slice x.p16 (o.minute).length x.c16, .slice x.p17 (o.second).length x.c17, .slice x.p18 (o.easter).length x.c18, iV o.freq, iV o.d, iV 0, iV o.interval, iV o.wkst, iV 0, iV o.count, iV o.u, iV 0, .slice x.p9 (o.setpos).length x.c9, .slice x.pm (bW o).length x.cm, .slice x.pd (bK o).length x.cd, .slice x.p12 (o.yday).length x.c12, .slice x.p13 (o.weekno).length x.c13, .slice x.pw (bR o).length x.cw, .slice x.p15 (o.hour).length x.c15, .slice x.p16 (o.minute).length x.c16, .slice x.p17 (o.second).length x.c17, .slice x.p18 (o.easter).length x.c18, iV o.freq, iV o.d, iV 0, iV o.interval, iV o.wkst, iV o.count, iV (until0 o), iV (until1 o), .slice x.p9 (o.setpos).length x.c9, .slice x.pm (bW o).length x.cm, .slice x.q48 (fX (bK o)).length x.e48, .slice x.q49 (fW (bK o)).length x.e49, .slice x.p12 (o.yday).length x.c12, .slice x.p13 (o.weekno).length x.c13, .slice x.q52 (((bR o).filter (cI o.freq)).map Prod.fst).length x.e52, .slice x.q53 ((bR o).filter fun y => !cI o.freq y).length x.e53, .slice x.q54 (cG o).length x.e54, .slice x.q55 (bB o).length x.e55, .slice x.q56 (bI o).length x.e56, .slice x.p18 (o.easter).length x.c18, .slice x.tp (lB o).length x.tc, iV 0]
structure Bs (F : Nat → Prop) (w0 : World) (B : LN) (H0 : LV) (S0 : LS) (b1 b2 b3 : Nat) (ocs rcs : List Value) (H : LV) (S : LS) : Prop where
 ho : cellsAt 50 H 0 ocs
 hc : cellsAt 52 H 0 rcs
 h2 : mB 51 H 0 60 = true
 lim : Lim 53 ((52, b3) :: (51, b2) :: (50, b1) :: B) H S
 limB : Lim 40 B H0 S0
 frH : ∀ k, k < 40 → ∀ o, o < 4096 → lkp (ky k o) H = lkp (ky k o) H0
 frS : ∀ k, k < 53 → ¬(k = 2 ∨ (12 ≤ k ∧ k ≤ 25)) → lkp k S = lkp k S0
structure OpOk (o : Opn) : Prop where
 freq : 0 ≤ o.freq ∧ o.freq ≤ 6
 d : 1 ≤ o.d ∧ o.d ≤ 400000000000
 interval : 1 ≤ o.interval ∧ o.interval ≤ 1000
 count : 0 ≤ o.count ∧ o.count ≤ 1000000000
 u : 0 ≤ o.u ∧ o.u ≤ 400000000000
 mday : o.mday.length ≤ 1000
 wday : o.wday.length ≤ 1000
 hour : o.hour.length ≤ 400
 minute : o.minute.length ≤ 400
 second : o.second.length ≤ 400
 hours : ∀ x ∈ o.hour, 0 ≤ x ∧ x ≤ 23
 minutes : ∀ x ∈ o.minute, 0 ≤ x ∧ x ≤ 59
 seconds : ∀ x ∈ o.second, 0 ≤ x ∧ x ≤ 59
structure OutF (F : Nat → Prop) (w0 : World) (o : Opn) (x : Av) (S0 S : LS) : Prop where
 s9 : SrcT F w0 S 11 (.slice x.p9 (o.setpos).length x.c9) o.setpos
 sm : SrcT F w0 S 16 (.slice x.pm (bW o).length x.cm) (bW o)
 s12 : SrcT F w0 S 11 (.slice x.p12 (o.yday).length x.c12) o.yday
 s13 : SrcT F w0 S 11 (.slice x.p13 (o.weekno).length x.c13) o.weekno
 s18 : SrcT F w0 S 11 (.slice x.p18 (o.easter).length x.c18) o.easter
 r12 : lkp 12 S = some ⟨.slice x.q48 (fX (bK o)).length x.e48, 3, 1, (fX (bK o)).length, (fX (bK o)).map iV⟩
 r13 : lkp 13 S = some ⟨.slice x.q49 (fW (bK o)).length x.e49, 3, 1, (fW (bK o)).length, (fW (bK o)).map iV⟩
 r14 : lkp 14 S = some ⟨.slice x.q52 (((bR o).filter (cI o.freq)).map Prod.fst).length x.e52, 3, 1, (((bR o).filter (cI o.freq)).map Prod.fst).length, (((bR o).filter (cI o.freq)).map Prod.fst).map iV⟩
 sh : SrcT F w0 S 18 (.slice x.q54 (cG o).length x.e54) (cG o)
 si : SrcT F w0 S 19 (.slice x.q55 (bB o).length x.e55) (bB o)
 ss : SrcT F w0 S 20 (.slice x.q56 (bI o).length x.e56) (bI o)
 r2 : o.freq < 4 → lkp 2 S = some ⟨.slice x.tp (lB o).length x.tc, 57, 2, (lB o).length, bM (lB o)⟩
 fr : ∀ k, k < 53 → ¬(k = 2 ∨ (12 ≤ k ∧ k ≤ 25)) → lkp k S = lkp k S0
 lim : ∀ k, 53 ≤ k → lkp k S = none
def Knw (H' H : LV) : Prop := ∀ q, (lkp q H).isSome = true → (lkp q H').isSome = true
theorem Knw.refl (H : LV) : Knw H H := fun _ h => h
theorem Knw.cons {H' H : LV} {q : Nat} {v : Value} (h : Knw H' H) : Knw ((q, v) :: H') H := fun k hk => by
 by_cases e : k = q
 ·subst e; rw [bO]; rfl
 ·rw [aC e]; exact h k hk
theorem cD {H' H : LV} (h : Knw H' H) {j : Nat} : ∀ {n o : Nat}, mB j H o n = true → mB j H' o n = true
 | 0, _, _ => rfl
 | n + 1, o, hk => by
  simp only [mB, Bool.and_eq_true] at hk ⊢
  exact ⟨h _ hk.1, cD h hk.2⟩
theorem Knw.seq {H : LV} {j : Nat} : ∀ (cs : List Value) (o : Nat) {H' : LV}, Knw H' H → Knw (cT j o cs H') H
 | [], _, _, h => h
 | v :: r, o, _, h => Knw.seq r (o + 1) h.cons
theorem dL {j : Nat} {H : LV} : ∀ {cs : List Value} {o : Nat}, cellsAt j H o cs → ∀ (a n : Nat), a + n ≤ cs.length → mB j H (o + a) n = true
 | cs, o, h, a, 0, hl => rfl
 | cs, o, h, a, n + 1, hl => by
  have h1 := h.get a _ (List.getElem?_eq_getElem oM)
  simp only [mB, h1, Option.isSome_some, Bool.true_and]
  exact dL h (a + 1) n oM
theorem eO {j : Nat} : ∀ (cs : List Value) (o q : Nat) {H : LV}, q < o → o + cs.length ≤ 4096 → lkp (ky j q) (cT j o cs H) = lkp (ky j q) H
 | [], _, _, _, _, _ => rfl
 | v :: r, o, q, H, hq, hl => by
  simp only [List.length_cons] at hl
  show lkp (ky j q) (cT j (o + 1) r ((ky j o, v) :: H)) = _
  rw [eO r (o + 1) q oM oM, aC (by unfold ky; omega)]
theorem aQ {j : Nat} : ∀ (cs : List Value) (o : Nat) {H : LV}, o + cs.length ≤ 4096 → ∀ (i : Nat) (v : Value), cs[i]? = some v → lkp (ky j (o + i)) (cT j o cs H) = some v
 | [], _, _, _, i, v, h => by simp at h
 | u :: r, o, H, hl, 0, v, h => by
  cases h
  simp only [List.length_cons] at hl
  show lkp (ky j (o + 0)) (cT j (o + 1) r ((ky j o, u) :: H)) = _
  rw [Nat.add_zero, eO r (o + 1) o oM oM, bO]
 | u :: r, o, H, hl, i + 1, v, h => by
  simp only [List.length_cons] at hl
  show lkp (ky j (o + (i + 1))) (cT j (o + 1) r ((ky j o, u) :: H)) = _
  have := aQ (j := j) r (o + 1) (H := (ky j o, u) :: H) oM i v (by simpa using h)
  rwa [show o + 1 + i = o + (i + 1) by omega] at this
theorem Sees.back3 {b1 b2 b3 : Nat} {H0 : LV} {S0 : LS} {w : World} (s : Sees F w0 ((52, b3) :: (51, b2) :: (50, b1) :: B) H S w) (hl : Lim 40 B H0 S0) (hfr : ∀ k, k < 40 → ∀ o, o < 4096 → lkp (ky k o) H = lkp (ky k o) H0) : Sees F w0 B H0 S w :=
 s.to (fun k b h => by
  have hk : k < 40 := by
   rcases Nat.lt_or_ge k 40 with h' | h'
   ·exact h'
   ·rw [hl.b k h'] at h; cases h
  rw [aC oM, aC oM, aC oM]; exact h) (fun k o v ho h => by
  have hk : k < 40 := by
   rcases Nat.lt_or_ge k 40 with h' | h'
   ·exact h'
   ·rw [hl.h k h' o ho] at h; cases h
  have h1 := (hfr k hk o ho).trans h
  obtain ⟨b, e, _⟩ := s.cells k o v ho h1
  rw [aC oM, aC oM, aC oM] at e
  exact ⟨h1, by rw [e]; rfl⟩) (fun k q h => h)
theorem uA {o : Opn} (ok : OpOk o) : ∀ x ∈ cG o, 0 ≤ x ∧ x ≤ 23 := by
 have hd := ok.d
 intro x hx
 unfold cG at hx
 split at hx
 ·split at hx
  ·simp at hx; omega
  ·simp at hx
 ·exact ok.hours x hx
theorem qE {o : Opn} (ok : OpOk o) : ∀ x ∈ bB o, 0 ≤ x ∧ x ≤ 59 := by
 have hd := ok.d
 intro x hx
 unfold bB at hx
 split at hx
 ·split at hx
  ·simp at hx; omega
  ·simp at hx
 ·exact ok.minutes x hx
theorem qH {o : Opn} (ok : OpOk o) : ∀ x ∈ bI o, 0 ≤ x ∧ x ≤ 59 := by
 have hd := ok.d
 intro x hx
 unfold bI at hx
 split at hx
 ·split at hx
  ·simp at hx; omega
  ·simp at hx
 ·exact ok.seconds x hx
theorem aBy {o : Opn} (ok : OpOk o) : (cG o).length ≤ 400 := by
 unfold cG; split
 ·split <;> simp
 ·exact ok.hour
theorem xG {o : Opn} (ok : OpOk o) : (bB o).length ≤ 400 := by
 unfold bB; split
 ·split <;> simp
 ·exact ok.minute
theorem xE {o : Opn} (ok : OpOk o) : (bI o).length ≤ 400 := by
 unfold bI; split
 ·split <;> simp
 ·exact ok.second
def jJ (F : Nat → Prop) (w0 : World) (ts : List Int) : Prop := ∀ (B : LN) (H : LV) (S : LS) (p : Option Addr) (c : Nat) (w : World), Lim 60 B H S → lkp 2 S = some ⟨.slice p ts.length c, 57, 2, ts.length, bM ts⟩ → Sees F w0 B H S w →
 Calls Tryz.prog 77 #[.iface 122 (.slice p ts.length c)] w fun e w' => e = .returned (.tuple #[]) ∧ Sees F w0 B H ((2, ⟨.slice p ts.length c, 57, 2, ts.length, bM (dP ts)⟩) :: S) w'
theorem bu_J {R : Ending → World → Prop} {o : Opn} {x : Av} {b1 b2 b3 : Nat} {H0 : LV} {S0 : LS} (ok : OpOk o) (hsort : o.freq < 4 → jJ F w0 (raw o)) (bs : Bs F w0 B H0 S0 b1 b2 b3 (oc1 o x) (rcI o x) H S) (s9 : SrcT F w0 S 11 (.slice x.p9 (o.setpos).length x.c9) o.setpos) (sm : SrcT F w0 S 16 (.slice x.pm (bW o).length x.cm) (bW o)) (s12 : SrcT F w0 S 11 (.slice x.p12 (o.yday).length x.c12) o.yday) (s13 : SrcT F w0 S 11 (.slice x.p13 (o.weekno).length x.c13) o.weekno) (s18 : SrcT F w0 S 11 (.slice x.p18 (o.easter).length x.c18) o.easter) (r12 : lkp 12 S = some ⟨.slice x.q48 (fX (bK o)).length x.e48, 3, 1, (fX (bK o)).length, (fX (bK o)).map iV⟩) (r13 : lkp 13 S = some ⟨.slice x.q49 (fW (bK o)).length x.e49, 3, 1, (fW (bK o)).length, (fW (bK o)).map iV⟩) (r14 : lkp 14 S = some ⟨.slice x.q52 (((bR o).filter (cI o.freq)).map Prod.fst).length x.e52, 3, 1, (((bR o).filter (cI o.freq)).map Prod.fst).length, (((bR o).filter (cI o.freq)).map Prod.fst).map iV⟩) (sh : SrcT F w0 S 18 (.slice x.q54 (cG o).length x.e54) (cG o)) (si : SrcT F w0 S 19 (.slice x.q55 (bB o).length x.e55) (bB o)) (ss : SrcT F w0 S 20 (.slice x.q56 (bI o).length x.e56) (bI o)) (r2 : o.freq < 4 → lkp 2 S = some ⟨.slice x.tp (lB o).length x.tc, 57, 2, (lB o).length, bM (lB o)⟩)  (hR : ∀ (x : Av) (S' : LS), OutF F w0 o x S0 S' → ∀ w, Sees F w0 B H0 S' w → R (.returned (.agg (iP o x).toArray)) w) : GC Tryz.prog (Go.Fr.part [1, 1, 1, 1, 1, 1, 1, 1, 1, 1, 1, 1, 1, 1, 1, 1, 1, 1, 1, 1, 1, 1, 1, 1, 1, 1] (Go.Fr.bodyOf Tryz.f43)) (bodyPost Tryz.prog Tryz.f43 R) 300 [(1, pT b1), (2, pT b2), (3, pT b3)] F w0 ((52, b3) :: (51, b2) :: (50, b1) :: B) H S := by
 have ok_ := ok
 refine g2 ?_
 refine rl ((cZ 50 (cs := oc1 o x) rfl rfl bs.ho.get ble kR)) ?_
 refine rl (rfa 19) ?_
 refine gL (bY 52 (cs := (oc1 o x).toArray) rfl rfl rfl (dL bs.hc 19 19 ble) kR rfl ble ?_)
 refine g4 ?_
 have hcJ : cellsAt 52 (cT 52 19 (oc1 o x) H) 0 (iP o x) := (cC (bs.hc.get 0 _ rfl) (cC (bs.hc.get 1 _ rfl) (cC (bs.hc.get 2 _ rfl) (cC (bs.hc.get 3 _ rfl) (cC (bs.hc.get 4 _ rfl) (cC (bs.hc.get 5 _ rfl) (cC (bs.hc.get 6 _ rfl) (cC (bs.hc.get 7 _ rfl) (cC (bs.hc.get 8 _ rfl) (cC (bs.hc.get 9 _ rfl) (cC (bs.hc.get 10 _ rfl) (cC (bs.hc.get 11 _ rfl) (cC (bs.hc.get 12 _ rfl) (cC (bs.hc.get 13 _ rfl) (cC (bs.hc.get 14 _ rfl) (cC (bs.hc.get 15 _ rfl) (cC (bs.hc.get 16 _ rfl) (cC (bs.hc.get 17 _ rfl) (cC (bs.hc.get 18 _ rfl) (cC rfl (cC rfl (cC rfl (cC rfl (cC rfl (cC rfl (cC rfl (cC rfl (cC rfl (cC rfl (cC rfl (cC rfl (cC rfl (cC rfl (cC rfl (cC rfl (cC rfl (cC rfl (cC rfl (cC (bs.hc.get 38 _ rfl) (cC (bs.hc.get 39 _ rfl) (cC (bs.hc.get 40 _ rfl) (cC (bs.hc.get 41 _ rfl) (cC (bs.hc.get 42 _ rfl) (cC (bs.hc.get 43 _ rfl) (cC (bs.hc.get 44 _ rfl) (cC (bs.hc.get 45 _ rfl) (cC (bs.hc.get 46 _ rfl) (cC (bs.hc.get 47 _ rfl) (cC (bs.hc.get 48 _ rfl) (cC (bs.hc.get 49 _ rfl) (cC (bs.hc.get 50 _ rfl) (cC (bs.hc.get 51 _ rfl) (cC (bs.hc.get 52 _ rfl) (cC (bs.hc.get 53 _ rfl) (cC (bs.hc.get 54 _ rfl) (cC (bs.hc.get 55 _ rfl) (cC (bs.hc.get 56 _ rfl) (cC (bs.hc.get 57 _ rfl) (cC (bs.hc.get 58 _ rfl) (cC (bs.hc.get 59 _ rfl) cN))))))))))))))))))))))))))))))))))))))))))))))))))))))))))))
 refine aAt (fun a k => k) (fun w s => s) (H' := (cT 52 19 (oc1 o x) H)) ?_
 refine rl ((cZ 52 (cs := iP o x) rfl rfl hcJ.get ble kR)) ?_
 refine gL (bY 51 (cs := (iP o x).toArray) rfl rfl rfl (cD (Knw.seq _ _ (Knw.refl _)) bs.h2) kR rfl ble ?_)
 refine g3 ?_
 refine aD (.inl rfl) rfl (jC 51 (cs := iP o x) rfl rfl (fun i v h => by have := aQ (j := 51) (iP o x) 0 (H := (cT 52 19 (oc1 o x) H)) ble i v h; rwa [Nat.zero_add] at this) ble kR) fun w s => ?_
 refine hR x S ⟨s9, sm, s12, s13, s18, r12, r13, r14, sh, si, ss, r2, bs.frS, bs.lim.s⟩ w (Sees.back3 s bs.limB (fun k hk o_ ho_ => ?_))
 exact (cO oM ho_ _ _ ble).trans ((cO oM ho_ _ _ ble).trans (bs.frH k hk o_ ho_))
theorem aF4 {R : Ending → World → Prop} {o : Opn} {x : Av} {b1 b2 b3 : Nat} {H0 : LV} {S0 : LS} (ok : OpOk o) (hsort : o.freq < 4 → jJ F w0 (raw o)) (bs : Bs F w0 B H0 S0 b1 b2 b3 (oc1 o x) (rcG o x) H S) (s9 : SrcT F w0 S 11 (.slice x.p9 (o.setpos).length x.c9) o.setpos) (sm : SrcT F w0 S 16 (.slice x.pm (bW o).length x.cm) (bW o)) (s12 : SrcT F w0 S 11 (.slice x.p12 (o.yday).length x.c12) o.yday) (s13 : SrcT F w0 S 11 (.slice x.p13 (o.weekno).length x.c13) o.weekno) (s18 : SrcT F w0 S 11 (.slice x.p18 (o.easter).length x.c18) o.easter) (r12 : lkp 12 S = some ⟨.slice x.q48 (fX (bK o)).length x.e48, 3, 1, (fX (bK o)).length, (fX (bK o)).map iV⟩) (r13 : lkp 13 S = some ⟨.slice x.q49 (fW (bK o)).length x.e49, 3, 1, (fW (bK o)).length, (fW (bK o)).map iV⟩) (r14 : lkp 14 S = some ⟨.slice x.q52 (((bR o).filter (cI o.freq)).map Prod.fst).length x.e52, 3, 1, (((bR o).filter (cI o.freq)).map Prod.fst).length, (((bR o).filter (cI o.freq)).map Prod.fst).map iV⟩) (sh : SrcT F w0 S 18 (.slice x.q54 (cG o).length x.e54) (cG o)) (si : SrcT F w0 S 19 (.slice x.q55 (bB o).length x.e55) (bB o)) (ss : SrcT F w0 S 20 (.slice x.q56 (bI o).length x.e56) (bI o))  (hR : ∀ (x : Av) (S' : LS), OutF F w0 o x S0 S' → ∀ w, Sees F w0 B H0 S' w → R (.returned (.agg (iP o x).toArray)) w) : GC Tryz.prog (Go.Fr.part [1, 1, 1, 1, 1, 1, 1, 1, 1, 1, 1, 1, 1, 1, 1, 1, 1, 1, 1, 1, 1, 1, 1, 1] (Go.Fr.bodyOf Tryz.f43)) (bodyPost Tryz.prog Tryz.f43 R) 300 [(1, pT b1), (2, pT b2), (3, pT b3)] F w0 ((52, b3) :: (51, b2) :: (50, b1) :: B) H S := by
 have ok_ := ok
 have la := aBy ok
 have lb := xG ok
 have lc := xE ok
 have hm1 : (((cG o).length : Nat) : Int) * (((bB o).length : Nat) : Int) = (((cG o).length * (bB o).length : Nat) : Int) := by rw [Int.natCast_mul]
 have hm2 : (((cG o).length * (bB o).length : Nat) : Int) * (((bI o).length : Nat) : Int) = (((cG o).length * (bB o).length * (bI o).length : Nat) : Int) := by rw [Int.natCast_mul (_ * _)]
 have hP1 : (cG o).length * (bB o).length ≤ 400 * 400 := Nat.mul_le_mul la lb
 have hP2 : (cG o).length * (bB o).length * (bI o).length ≤ 400 * 400 * 400 := Nat.mul_le_mul hP1 lc
 have hP3 : (bB o).length * (bI o).length ≤ 400 * 400 := Nat.mul_le_mul lb lc
 have hP4 : (cG o).length * ((bB o).length * (bI o).length) ≤ 400 * (400 * 400) := Nat.mul_le_mul la hP3
 refine g2 ?_
 refine rl (rfa 58) ?_
 refine gL (cM 52 rfl rfl rfl (bs.hc.get 58 _ rfl) kR rfl dE ?_)
 refine g5 ?_
 refine rl (rfa 38) ?_
 refine rl (bE 52 rfl rfl (bs.hc.get 38 _ rfl) kR dE) ?_
 refine g3 ?_
 refine aE rfl (fun hc1 => ?_) (fun hc2 => ?_)
 ·have hf4 : o.freq < 4 := oT hc1
  refine g2 ?_
  refine rl (rfa 54) ?_
  refine rl (bE 52 rfl rfl (bs.hc.get 54 _ rfl) kR dE) ?_
  refine g1 ?_
  refine rl (rfa 55) ?_
  refine rl (bE 52 rfl rfl (bs.hc.get 55 _ rfl) kR dE) ?_
  refine g1 ?_
  refine rl ((vD rfl rfl (by rw [hm1]; omega)).to (congrArg (Value.int .i64) hm1)) ?_
  refine rl (rfa 56) ?_
  refine rl (bE 52 rfl rfl (bs.hc.get 56 _ rfl) kR dE) ?_
  refine g1 ?_
  refine rl ((vD rfl rfl (by rw [hm2]; omega)).to (congrArg (Value.int .i64) hm2)) ?_
  refine gL (sG 2 (e := 57) (sz := 2) (by_ := 16) (zs := [iV 0, iV 0]) (c := (cG o).length * (bB o).length * (bI o).length) dE kR rfl rfl oM oM (fun bm => ?_))
  refine rl (rfa 58) ?_
  refine gL (sto 52 rfl rfl rfl rfl ?_)
  refine g5 ?_
  refine rl (rfa 54) ?_
  refine rl (bE 52 rfl rfl (bs.hc.get 54 _ rfl) kR dE) ?_
  refine g5 ?_
  refine bH (ι := (Nat) × (Option Addr) × (Nat) × (Nat) × (List Value) × (List Int)) (fun | ⟨i, q, e, n, xs, l⟩ => (cG o).length - i) (fun | ⟨i, q, e, n, xs, l⟩ => (i ≤ (cG o).length) ∧ (l = ((cG o).take i).flatMap (fun h => (bB o).flatMap fun m => (bI o).map fun s => h * 3600 + m * 60 + s)) ∧ (n = l.length) ∧ (xs = bM l) ∧ (n ≤ i * ((bB o).length * (bI o).length))) (fun | ⟨i, q, e, n, xs, l⟩ => [(1, pT b1), (2, pT b2), (3, pT b3), (258, .slice x.q54 (cG o).length x.e54), (259, iV ((cG o).length)), (260, iV i)]) (fun | ⟨i, q, e, n, xs, l⟩ => ((52, b3) :: (51, b2) :: (50, b1) :: B)) (fun | ⟨i, q, e, n, xs, l⟩ => (ky 52 58, .slice q n e) :: H) (fun | ⟨i, q, e, n, xs, l⟩ => (2, ⟨.slice q n e, 57, 2, n, xs⟩) :: S) ⟨0, some ⟨bm, 0, none⟩, (cG o).length * (bB o).length * (bI o).length, 0, [], []⟩ ⟨Nat.zero_le _, rfl, rfl, rfl, Nat.zero_le _⟩ kns (fun w s => by exact s.low 53 (((bs.lim.aHz dE dE).aH0 dE)) agx agx agx) ?_
  rintro ⟨i, q, e, n, xs, l⟩ ⟨hi, hl, hn, hxs, hb⟩
  show GC _ _ _ _ [(1, pT b1), (2, pT b2), (3, pT b3), (258, .slice x.q54 (cG o).length x.e54), (259, iV ((cG o).length)), (260, iV i)] _ _ (((52, b3) :: (51, b2) :: (50, b1) :: B)) ((ky 52 58, .slice q n e) :: H) ((2, ⟨.slice q n e, 57, 2, n, xs⟩) :: S)
  refine g6 ?_
  refine aE rfl (fun hc1 => ?_) (fun hc2 => ?_)
  ·have hlt_i : i < (cG o).length := by have := oT hc1; omega
   obtain ⟨h, hx_h⟩ : ∃ y, (cG o)[i]? = some y := ⟨_, List.getElem?_eq_getElem hlt_i⟩
   refine d7 (fun w s => (sh.cons (j := 2) dE).head s oM) fun hh => ?_
   obtain ⟨b_h, o_h, hp_h⟩ := hh
   have src_h := sh
   rw [hp_h] at src_h
   have hiP : i * ((bB o).length * (bI o).length) + (bB o).length * (bI o).length ≤ (cG o).length * ((bB o).length * (bI o).length) := by rw [← Nat.succ_mul]; exact Nat.mul_le_mul_right _ hlt_i
   have hhr := uA ok h (List.mem_of_getElem? hx_h)
   refine g6 ?_
   refine rl (aN (e := 3) (n := 1) kR (congrArg (fun p => some (Value.slice p _ _)) hp_h) rfl oM oM) ?_
   refine rl (fJ kR rfl (fun w s => (src_h.cons dE).cell hx_h s)) ?_
   refine g5 ?_
   refine rl (rfa 55) ?_
   refine rl (bE 52 rfl rfl (bs.hc.get 55 _ rfl) kR dE) ?_
   refine g5 ?_
   refine bH (ι := (Nat) × (Option Addr) × (Nat) × (Nat) × (List Value) × (List Int)) (fun | ⟨j, q1, e1, n1, xs1, l1⟩ => (bB o).length - j) (fun | ⟨j, q1, e1, n1, xs1, l1⟩ => (j ≤ (bB o).length) ∧ (l1 = l ++ ((bB o).take j).flatMap (fun m => (bI o).map fun s => h * 3600 + m * 60 + s)) ∧ (n1 = l1.length) ∧ (xs1 = bM l1) ∧ (n1 ≤ i * ((bB o).length * (bI o).length) + j * (bI o).length)) (fun | ⟨j, q1, e1, n1, xs1, l1⟩ => [(1, pT b1), (2, pT b2), (3, pT b3), (9, iV h), (258, .slice x.q54 (cG o).length x.e54), (259, iV ((cG o).length)), (260, iV i), (265, .slice x.q55 (bB o).length x.e55), (266, iV ((bB o).length)), (267, iV j)]) (fun | ⟨j, q1, e1, n1, xs1, l1⟩ => ((52, b3) :: (51, b2) :: (50, b1) :: B)) (fun | ⟨j, q1, e1, n1, xs1, l1⟩ => (ky 52 58, .slice q1 n1 e1) :: H) (fun | ⟨j, q1, e1, n1, xs1, l1⟩ => (2, ⟨.slice q1 n1 e1, 57, 2, n1, xs1⟩) :: S) ⟨0, q, e, n, xs, l⟩ ⟨Nat.zero_le _, by simp, hn, hxs, by omega⟩ kns (fun w s => by exact s.low 53 (((bs.lim.aHz dE dE).aH0 dE)) agx agx agx) ?_
   rintro ⟨j, q1, e1, n1, xs1, l1⟩ ⟨hj, hl1, hn1, hxs1, hb1⟩
   show GC _ _ _ _ [(1, pT b1), (2, pT b2), (3, pT b3), (9, iV h), (258, .slice x.q54 (cG o).length x.e54), (259, iV ((cG o).length)), (260, iV i), (265, .slice x.q55 (bB o).length x.e55), (266, iV ((bB o).length)), (267, iV j)] _ _ (((52, b3) :: (51, b2) :: (50, b1) :: B)) ((ky 52 58, .slice q1 n1 e1) :: H) ((2, ⟨.slice q1 n1 e1, 57, 2, n1, xs1⟩) :: S)
   refine g6 ?_
   refine aE rfl (fun hc1 => ?_) (fun hc2 => ?_)
   ·have hlt_j : j < (bB o).length := by have := oT hc1; omega
    obtain ⟨m, hx_m⟩ : ∃ y, (bB o)[j]? = some y := ⟨_, List.getElem?_eq_getElem hlt_j⟩
    refine d7 (fun w s => (si.cons (j := 2) dE).head s oM) fun hh => ?_
    obtain ⟨b_m, o_m, hp_m⟩ := hh
    have src_m := si
    rw [hp_m] at src_m
    have hjP : j * (bI o).length + (bI o).length ≤ (bB o).length * (bI o).length := by rw [← Nat.succ_mul]; exact Nat.mul_le_mul_right _ hlt_j
    have hmr := qE ok m (List.mem_of_getElem? hx_m)
    refine g6 ?_
    refine rl (aN (e := 3) (n := 1) kR (congrArg (fun p => some (Value.slice p _ _)) hp_m) rfl oM oM) ?_
    refine rl (fJ kR rfl (fun w s => (src_m.cons dE).cell hx_m s)) ?_
    refine g5 ?_
    refine rl (rfa 56) ?_
    refine rl (bE 52 rfl rfl (bs.hc.get 56 _ rfl) kR dE) ?_
    refine g5 ?_
    refine bH (ι := (Nat) × (Option Addr) × (Nat) × (Nat) × (List Value) × (List Int)) (fun | ⟨k, q2, e2, n2, xs2, l2⟩ => (bI o).length - k) (fun | ⟨k, q2, e2, n2, xs2, l2⟩ => (k ≤ (bI o).length) ∧ (l2 = l1 ++ ((bI o).take k).map (fun s => h * 3600 + m * 60 + s)) ∧ (n2 = l2.length) ∧ (xs2 = bM l2) ∧ (n2 ≤ i * ((bB o).length * (bI o).length) + j * (bI o).length + k)) (fun | ⟨k, q2, e2, n2, xs2, l2⟩ => [(1, pT b1), (2, pT b2), (3, pT b3), (9, iV h), (11, iV m), (258, .slice x.q54 (cG o).length x.e54), (259, iV ((cG o).length)), (260, iV i), (265, .slice x.q55 (bB o).length x.e55), (266, iV ((bB o).length)), (267, iV j), (272, .slice x.q56 (bI o).length x.e56), (273, iV ((bI o).length)), (274, iV k)]) (fun | ⟨k, q2, e2, n2, xs2, l2⟩ => ((52, b3) :: (51, b2) :: (50, b1) :: B)) (fun | ⟨k, q2, e2, n2, xs2, l2⟩ => (ky 52 58, .slice q2 n2 e2) :: H) (fun | ⟨k, q2, e2, n2, xs2, l2⟩ => (2, ⟨.slice q2 n2 e2, 57, 2, n2, xs2⟩) :: S) ⟨0, q1, e1, n1, xs1, l1⟩ ⟨Nat.zero_le _, by simp, hn1, hxs1, by omega⟩ kns (fun w s => by exact s.low 53 (((bs.lim.aHz dE dE).aH0 dE)) agx agx agx) ?_
    rintro ⟨k, q2, e2, n2, xs2, l2⟩ ⟨hk, hl2, hn2, hxs2, hb2⟩
    show GC _ _ _ _ [(1, pT b1), (2, pT b2), (3, pT b3), (9, iV h), (11, iV m), (258, .slice x.q54 (cG o).length x.e54), (259, iV ((cG o).length)), (260, iV i), (265, .slice x.q55 (bB o).length x.e55), (266, iV ((bB o).length)), (267, iV j), (272, .slice x.q56 (bI o).length x.e56), (273, iV ((bI o).length)), (274, iV k)] _ _ (((52, b3) :: (51, b2) :: (50, b1) :: B)) ((ky 52 58, .slice q2 n2 e2) :: H) ((2, ⟨.slice q2 n2 e2, 57, 2, n2, xs2⟩) :: S)
    refine g6 ?_
    refine aE rfl (fun hc1 => ?_) (fun hc2 => ?_)
    ·have hlt_k : k < (bI o).length := by have := oT hc1; omega
     obtain ⟨sc, hx_sc⟩ : ∃ y, (bI o)[k]? = some y := ⟨_, List.getElem?_eq_getElem hlt_k⟩
     refine d7 (fun w s => (ss.cons (j := 2) dE).head s oM) fun hh => ?_
     obtain ⟨b_sc, o_sc, hp_sc⟩ := hh
     have src_sc := ss
     rw [hp_sc] at src_sc
     have hsr := qH ok sc (List.mem_of_getElem? hx_sc)
     refine g6 ?_
     refine rl (aN (e := 3) (n := 1) kR (congrArg (fun p => some (Value.slice p _ _)) hp_sc) rfl oM oM) ?_
     refine rl (fJ kR rfl (fun w s => (src_sc.cons dE).cell hx_sc s)) ?_
     refine g3 ?_
     refine i4 (fun i => i == 12) kR ?_
     refine gr 0 rfl (rfa 58) ?_
     refine gr 1 rfl (rld 52 rfl rfl rfl) ?_
     refine gr 2 rfl (bD rfl) ?_
     refine gr 3 rfl (bD rfl) ?_
     refine gr 4 rfl (bD rfl) ?_
     refine gr 5 rfl (rfa 39) ?_
     refine gr 6 rfl (aX 52 rfl rfl (bs.hc.get 39 _ rfl) (bs.hc.get 40 _ rfl) kR dE) ?_
     refine gn 7 rfl (cvo rfl (fun w_ s_ => dF _ _ w_) (gk ?_))
     refine gn 8 rfl (cvo (v := .agg #[iV (h * 3600 + m * 60 + sc), iV 0]) rfl (fun w_ s_ => (cR 1 1 1 _ _ _ 0 oM oM oM oM oM oM oM w_).mono fun e_ w2_ h_ => ⟨h_.1.trans (congrArg Ending.returned (by rw [show Cal.dayNo 1 1 1 = 0 from rfl, show (0 : Int) * 86400 + h * 3600 + m * 60 + sc = h * 3600 + m * 60 + sc by omega])), h_.2⟩) (gk ?_))
     refine gn 9 rfl (lC 60 (e := 57) (sz := 2) (by_ := 16) (zs := [iV 0, iV 0]) dE kR rfl dE dE rfl rfl rfl (bs.lim.s 60 dE) (fun bo => gk ?_))
     refine gn 10 rfl (cP 2 60 (e := 57) (sz := 2) (by_ := 16) (zs := [iV 0, iV 0]) dE kR rfl dE rfl rfl rfl rfl ⟨rfl, rfl⟩ ⟨rfl, rfl⟩ vM sO sO (fun q3 e3 => gk ?_))
     refine gn 11 rfl (fP dE (rfa 58) (gk ?_))
     refine gn 12 rfl (sto 52 rfl rfl rfl rfl (gk ?_))
     refine eC kR ?_
     refine g6 ?_
     refine aT ⟨k + 1, q3, e3, n2 + 1, xs2 ++ [iV (h * 3600 + m * 60 + sc), iV 0], l2 ++ [h * 3600 + m * 60 + sc]⟩ sO ⟨by omega, by rw [hl2, List.take_add_one, hx_sc]; simp only [Option.toList_some, List.map_append, List.map_cons, List.map_nil, List.append_assoc], by rw [List.length_append, hn2]; rfl, by rw [hxs2]; exact eH _ _, by omega⟩ kns (fun w s => by exact s.low 53 (((bs.lim.aHz dE dE).aH0 dE)) agx agx agx)
    ·have hge_k : ¬ k < (bI o).length := by have := oF hc2; omega
     obtain rfl : k = (bI o).length := by omega
     refine g10 ?_
     refine aT ⟨j + 1, q2, e2, n2, xs2, l2⟩ sO ⟨by omega, by rw [hl2, hl1, List.take_add_one, hx_m]; simp only [Option.toList_some, List.flatMap_append, List.flatMap_cons, List.flatMap_nil, List.append_nil, List.append_assoc]; rw [List.take_length], hn2, hxs2, by rw [Nat.succ_mul]; omega⟩ kns (fun w s => by exact s.low 53 (((bs.lim.aHz dE dE).aH0 dE)) agx agx agx)
   ·have hge_j : ¬ j < (bB o).length := by have := oF hc2; omega
    obtain rfl : j = (bB o).length := by omega
    refine g10 ?_
    refine aT ⟨i + 1, q1, e1, n1, xs1, l1⟩ sO ⟨by omega, by rw [hl1, hl, List.take_add_one, hx_h]; simp only [Option.toList_some, List.flatMap_append, List.flatMap_cons, List.flatMap_nil, List.append_nil]; rw [List.take_length], hn1, hxs1, by rw [Nat.succ_mul]; omega⟩ kns (fun w s => by exact s.low 53 (((bs.lim.aHz dE dE).aH0 dE)) agx agx agx)
  ·have hge_i : ¬ i < (cG o).length := by have := oF hc2; omega
   obtain rfl : i = (cG o).length := by omega
   rw [List.take_length] at hl
   have hraw : l = raw o := hl
   subst hraw
   subst hn hxs
   refine g6 ?_
   refine rl (rfa 58) ?_
   refine rl (rld 52 rfl rfl rfl) ?_
   refine rl ((gE (r := .iface 122 (.slice q (raw o).length e)) rfl (fun w => by kernel_rfl))) ?_
   refine gL (dG (ι := Unit) (fun _ => .tuple #[]) (fun _ => True) (fun _ => _) (fun _ => _) (fun _ => ((2, ⟨.slice q (raw o).length e, 57, 2, (raw o).length, bM (dP (raw o))⟩) :: (2, ⟨.slice q (raw o).length e, 57, 2, (raw o).length, bM (raw o)⟩) :: S)) dE kR rfl (fun w_ s_ => (hsort hf4 _ _ _ q e w_ (((bs.lim.aHz dE dE).aH0 dE).mono dE) rfl s_).mono fun e_ w2_ h_ => ⟨(), trivial, h_.1, h_.2⟩) (fun _ _ => ?_))
   refine g2 ?_
   refine dN (L' := [(1, pT b1), (2, pT b2), (3, pT b3)]) kns (fun w s => s) ?_
   have hts : lB o = dP (raw o) := by unfold lB; rw [if_pos hf4]
   have htl : (lB o).length = (raw o).length := by rw [hts]; exact List.length_mergeSort _
   refine bu_J (x := { x with tp := q, tc := e }) ok hsort (H := (ky 52 58, .slice q (raw o).length e) :: H) (S := ((2, ⟨.slice q (raw o).length e, 57, 2, (raw o).length, bM (dP (raw o))⟩) :: (2, ⟨.slice q (raw o).length e, 57, 2, (raw o).length, bM (raw o)⟩) :: S)) ⟨bs.ho, (cC (bs.hc.get 0 _ rfl) (cC (bs.hc.get 1 _ rfl) (cC (bs.hc.get 2 _ rfl) (cC (bs.hc.get 3 _ rfl) (cC (bs.hc.get 4 _ rfl) (cC (bs.hc.get 5 _ rfl) (cC (bs.hc.get 6 _ rfl) (cC (bs.hc.get 7 _ rfl) (cC (bs.hc.get 8 _ rfl) (cC (bs.hc.get 9 _ rfl) (cC (bs.hc.get 10 _ rfl) (cC (bs.hc.get 11 _ rfl) (cC (bs.hc.get 12 _ rfl) (cC (bs.hc.get 13 _ rfl) (cC (bs.hc.get 14 _ rfl) (cC (bs.hc.get 15 _ rfl) (cC (bs.hc.get 16 _ rfl) (cC (bs.hc.get 17 _ rfl) (cC (bs.hc.get 18 _ rfl) (cC (bs.hc.get 19 _ rfl) (cC (bs.hc.get 20 _ rfl) (cC (bs.hc.get 21 _ rfl) (cC (bs.hc.get 22 _ rfl) (cC (bs.hc.get 23 _ rfl) (cC (bs.hc.get 24 _ rfl) (cC (bs.hc.get 25 _ rfl) (cC (bs.hc.get 26 _ rfl) (cC (bs.hc.get 27 _ rfl) (cC (bs.hc.get 28 _ rfl) (cC (bs.hc.get 29 _ rfl) (cC (bs.hc.get 30 _ rfl) (cC (bs.hc.get 31 _ rfl) (cC (bs.hc.get 32 _ rfl) (cC (bs.hc.get 33 _ rfl) (cC (bs.hc.get 34 _ rfl) (cC (bs.hc.get 35 _ rfl) (cC (bs.hc.get 36 _ rfl) (cC (bs.hc.get 37 _ rfl) (cC (bs.hc.get 38 _ rfl) (cC (bs.hc.get 39 _ rfl) (cC (bs.hc.get 40 _ rfl) (cC (bs.hc.get 41 _ rfl) (cC (bs.hc.get 42 _ rfl) (cC (bs.hc.get 43 _ rfl) (cC (bs.hc.get 44 _ rfl) (cC (bs.hc.get 45 _ rfl) (cC (bs.hc.get 46 _ rfl) (cC (bs.hc.get 47 _ rfl) (cC (bs.hc.get 48 _ rfl) (cC (bs.hc.get 49 _ rfl) (cC (bs.hc.get 50 _ rfl) (cC (bs.hc.get 51 _ rfl) (cC (bs.hc.get 52 _ rfl) (cC (bs.hc.get 53 _ rfl) (cC (bs.hc.get 54 _ rfl) (cC (bs.hc.get 55 _ rfl) (cC (bs.hc.get 56 _ rfl) (cC (bs.hc.get 57 _ rfl) (cC (show lkp (ky 52 58) _ = some (Value.slice q (lB o).length e) from by rw [htl]; rfl) (cC (bs.hc.get 59 _ rfl) cN)))))))))))))))))))))))))))))))))))))))))))))))))))))))))))), (cD (by repeat (first | exact Knw.refl _ | apply Knw.cons)) bs.h2), (by repeat (first | exact bs.lim | apply Lim.aHz _ dE dE | apply Lim.aH0 _ dE)), bs.limB, (fun k_ h1_ o_ ho_ => Eq.trans (by repeat (first | rfl | rw [aU oM ho_ dE])) (bs.frH k_ h1_ o_ ho_)), (fun k_ h1_ h2_ => Eq.trans aH (bs.frS k_ h1_ h2_))⟩ ((s9.cons dE).cons dE) ((sm.cons dE).cons dE) ((s12.cons dE).cons dE) ((s13.cons dE).cons dE) ((s18.cons dE).cons dE) r12 r13 r14 ((sh.cons dE).cons dE) ((si.cons dE).cons dE) ((ss.cons dE).cons dE) (fun _ => by rw [hts, show (dP (raw o)).length = (raw o).length from List.length_mergeSort _]; rfl) hR
 ·have hf4 : ¬ o.freq < 4 := oF hc2
  refine g2 ?_
  refine dN (L' := [(1, pT b1), (2, pT b2), (3, pT b3)]) kns (fun w s => s) ?_
  have hts : lB o = [] := by unfold lB; rw [if_neg hf4]
  refine bu_J (x := { x with tp := none, tc := 0 }) ok hsort (H := (ky 52 58, .slice none 0 0) :: H) (S := S) ⟨bs.ho, (cC (bs.hc.get 0 _ rfl) (cC (bs.hc.get 1 _ rfl) (cC (bs.hc.get 2 _ rfl) (cC (bs.hc.get 3 _ rfl) (cC (bs.hc.get 4 _ rfl) (cC (bs.hc.get 5 _ rfl) (cC (bs.hc.get 6 _ rfl) (cC (bs.hc.get 7 _ rfl) (cC (bs.hc.get 8 _ rfl) (cC (bs.hc.get 9 _ rfl) (cC (bs.hc.get 10 _ rfl) (cC (bs.hc.get 11 _ rfl) (cC (bs.hc.get 12 _ rfl) (cC (bs.hc.get 13 _ rfl) (cC (bs.hc.get 14 _ rfl) (cC (bs.hc.get 15 _ rfl) (cC (bs.hc.get 16 _ rfl) (cC (bs.hc.get 17 _ rfl) (cC (bs.hc.get 18 _ rfl) (cC (bs.hc.get 19 _ rfl) (cC (bs.hc.get 20 _ rfl) (cC (bs.hc.get 21 _ rfl) (cC (bs.hc.get 22 _ rfl) (cC (bs.hc.get 23 _ rfl) (cC (bs.hc.get 24 _ rfl) (cC (bs.hc.get 25 _ rfl) (cC (bs.hc.get 26 _ rfl) (cC (bs.hc.get 27 _ rfl) (cC (bs.hc.get 28 _ rfl) (cC (bs.hc.get 29 _ rfl) (cC (bs.hc.get 30 _ rfl) (cC (bs.hc.get 31 _ rfl) (cC (bs.hc.get 32 _ rfl) (cC (bs.hc.get 33 _ rfl) (cC (bs.hc.get 34 _ rfl) (cC (bs.hc.get 35 _ rfl) (cC (bs.hc.get 36 _ rfl) (cC (bs.hc.get 37 _ rfl) (cC (bs.hc.get 38 _ rfl) (cC (bs.hc.get 39 _ rfl) (cC (bs.hc.get 40 _ rfl) (cC (bs.hc.get 41 _ rfl) (cC (bs.hc.get 42 _ rfl) (cC (bs.hc.get 43 _ rfl) (cC (bs.hc.get 44 _ rfl) (cC (bs.hc.get 45 _ rfl) (cC (bs.hc.get 46 _ rfl) (cC (bs.hc.get 47 _ rfl) (cC (bs.hc.get 48 _ rfl) (cC (bs.hc.get 49 _ rfl) (cC (bs.hc.get 50 _ rfl) (cC (bs.hc.get 51 _ rfl) (cC (bs.hc.get 52 _ rfl) (cC (bs.hc.get 53 _ rfl) (cC (bs.hc.get 54 _ rfl) (cC (bs.hc.get 55 _ rfl) (cC (bs.hc.get 56 _ rfl) (cC (bs.hc.get 57 _ rfl) (cC (show lkp (ky 52 58) _ = some (Value.slice none (lB o).length 0) from by rw [hts]; rfl) (cC (bs.hc.get 59 _ rfl) cN)))))))))))))))))))))))))))))))))))))))))))))))))))))))))))), (cD (by repeat (first | exact Knw.refl _ | apply Knw.cons)) bs.h2), (by repeat (first | exact bs.lim | apply Lim.aHz _ dE dE | apply Lim.aH0 _ dE)), bs.limB, (fun k_ h1_ o_ ho_ => Eq.trans (by repeat (first | rfl | rw [aU oM ho_ dE])) (bs.frH k_ h1_ o_ ho_)), (fun k_ h1_ h2_ => Eq.trans aH (bs.frS k_ h1_ h2_))⟩ s9 sm s12 s13 s18 r12 r13 r14 sh si ss (fun h => absurd h hf4) hR
theorem aFy {R : Ending → World → Prop} {o : Opn} {x : Av} {b1 b2 b3 : Nat} {H0 : LV} {S0 : LS} (ok : OpOk o) (hsort : o.freq < 4 → jJ F w0 (raw o)) (bs : Bs F w0 B H0 S0 b1 b2 b3 (oc1 o x) (rcF o x) H S) (s9 : SrcT F w0 S 11 (.slice x.p9 (o.setpos).length x.c9) o.setpos) (sm : SrcT F w0 S 16 (.slice x.pm (bW o).length x.cm) (bW o)) (s12 : SrcT F w0 S 11 (.slice x.p12 (o.yday).length x.c12) o.yday) (s13 : SrcT F w0 S 11 (.slice x.p13 (o.weekno).length x.c13) o.weekno) (s17 : SrcT F w0 S 11 (.slice x.p17 (o.second).length x.c17) o.second) (s18 : SrcT F w0 S 11 (.slice x.p18 (o.easter).length x.c18) o.easter) (r12 : lkp 12 S = some ⟨.slice x.q48 (fX (bK o)).length x.e48, 3, 1, (fX (bK o)).length, (fX (bK o)).map iV⟩) (r13 : lkp 13 S = some ⟨.slice x.q49 (fW (bK o)).length x.e49, 3, 1, (fW (bK o)).length, (fW (bK o)).map iV⟩) (r14 : lkp 14 S = some ⟨.slice x.q52 (((bR o).filter (cI o.freq)).map Prod.fst).length x.e52, 3, 1, (((bR o).filter (cI o.freq)).map Prod.fst).length, (((bR o).filter (cI o.freq)).map Prod.fst).map iV⟩) (sh : SrcT F w0 S 18 (.slice x.q54 (cG o).length x.e54) (cG o)) (si : SrcT F w0 S 19 (.slice x.q55 (bB o).length x.e55) (bB o))  (hR : ∀ (x : Av) (S' : LS), OutF F w0 o x S0 S' → ∀ w, Sees F w0 B H0 S' w → R (.returned (.agg (iP o x).toArray)) w) : GC Tryz.prog (Go.Fr.part [1, 1, 1, 1, 1, 1, 1, 1, 1, 1, 1, 1, 1, 1, 1, 1, 1, 1, 1, 1, 1, 1, 1] (Go.Fr.bodyOf Tryz.f43)) (bodyPost Tryz.prog Tryz.f43 R) 300 [(1, pT b1), (2, pT b2), (3, pT b3)] F w0 ((52, b3) :: (51, b2) :: (50, b1) :: B) H S := by
 have ok_ := ok
 have hd_ := ok.d
 have hfr := ok.freq
 refine g3 ?_
 refine rl (rfa 17) ?_
 refine rl (bE 50 rfl rfl (bs.ho.get 17 _ rfl) kR dE) ?_
 refine g4 ?_
 refine aE rfl (fun hc1 => ?_) (fun hc2 => ?_)
 ·have hz : o.second.length = 0 := by have := beq_iff_eq.1 hc1; omega
  refine g2 ?_
  refine rl (rfa 38) ?_
  refine rl (bE 52 rfl rfl (bs.hc.get 38 _ rfl) kR dE) ?_
  refine g3 ?_
  refine aE rfl (fun hc1 => ?_) (fun hc2 => ?_)
  ·have hf : o.freq < 6 := oT hc1
   have hh : bI o = [o.d % 86400 % 60] := by unfold bI; rw [if_pos hz, if_pos hf]
   refine g1 ?_
   refine rl (rfa 39) ?_
   refine rl (aX 52 rfl rfl (bs.hc.get 39 _ rfl) (bs.hc.get 40 _ rfl) kR dE) ?_
   refine gL (cvo rfl (fun w_ s_ => uM _ _ oM w_) ?_)
   refine gL (dD 20 (e := 3) (sz := 1) (by_ := 8) (zs := [iV 0]) (cs := [iV (o.d % 86400 % 60)]) dE kR rfl dE dE rfl rfl rfl (fun bo => ?_))
   refine rl (rfa 56) ?_
   refine gL (cM 52 rfl rfl rfl (bs.hc.get 56 _ rfl) kR rfl dE ?_)
   refine g2 ?_
   refine dN (L' := [(1, pT b1), (2, pT b2), (3, pT b3)]) kns (fun w s => s) ?_
   refine aF4 (x := { x with q56 := some ⟨bo, 0, none⟩, e56 := 1 }) ok hsort (H := ((ky 52 56, sL bo 1 1) :: H)) (S := ((20, ⟨sL bo 1 1, 3, 1, 1, [iV (o.d % 86400 % 60)]⟩) :: S)) ⟨bs.ho, (cC (bs.hc.get 0 _ rfl) (cC (bs.hc.get 1 _ rfl) (cC (bs.hc.get 2 _ rfl) (cC (bs.hc.get 3 _ rfl) (cC (bs.hc.get 4 _ rfl) (cC (bs.hc.get 5 _ rfl) (cC (bs.hc.get 6 _ rfl) (cC (bs.hc.get 7 _ rfl) (cC (bs.hc.get 8 _ rfl) (cC (bs.hc.get 9 _ rfl) (cC (bs.hc.get 10 _ rfl) (cC (bs.hc.get 11 _ rfl) (cC (bs.hc.get 12 _ rfl) (cC (bs.hc.get 13 _ rfl) (cC (bs.hc.get 14 _ rfl) (cC (bs.hc.get 15 _ rfl) (cC (bs.hc.get 16 _ rfl) (cC (bs.hc.get 17 _ rfl) (cC (bs.hc.get 18 _ rfl) (cC (bs.hc.get 19 _ rfl) (cC (bs.hc.get 20 _ rfl) (cC (bs.hc.get 21 _ rfl) (cC (bs.hc.get 22 _ rfl) (cC (bs.hc.get 23 _ rfl) (cC (bs.hc.get 24 _ rfl) (cC (bs.hc.get 25 _ rfl) (cC (bs.hc.get 26 _ rfl) (cC (bs.hc.get 27 _ rfl) (cC (bs.hc.get 28 _ rfl) (cC (bs.hc.get 29 _ rfl) (cC (bs.hc.get 30 _ rfl) (cC (bs.hc.get 31 _ rfl) (cC (bs.hc.get 32 _ rfl) (cC (bs.hc.get 33 _ rfl) (cC (bs.hc.get 34 _ rfl) (cC (bs.hc.get 35 _ rfl) (cC (bs.hc.get 36 _ rfl) (cC (bs.hc.get 37 _ rfl) (cC (bs.hc.get 38 _ rfl) (cC (bs.hc.get 39 _ rfl) (cC (bs.hc.get 40 _ rfl) (cC (bs.hc.get 41 _ rfl) (cC (bs.hc.get 42 _ rfl) (cC (bs.hc.get 43 _ rfl) (cC (bs.hc.get 44 _ rfl) (cC (bs.hc.get 45 _ rfl) (cC (bs.hc.get 46 _ rfl) (cC (bs.hc.get 47 _ rfl) (cC (bs.hc.get 48 _ rfl) (cC (bs.hc.get 49 _ rfl) (cC (bs.hc.get 50 _ rfl) (cC (bs.hc.get 51 _ rfl) (cC (bs.hc.get 52 _ rfl) (cC (bs.hc.get 53 _ rfl) (cC (bs.hc.get 54 _ rfl) (cC (bs.hc.get 55 _ rfl) (cC (show lkp (ky 52 56) _ = some (sL bo (bI o).length 1) from by rw [hh]; rfl) (cC (bs.hc.get 57 _ rfl) (cC (bs.hc.get 58 _ rfl) (cC (bs.hc.get 59 _ rfl) cN)))))))))))))))))))))))))))))))))))))))))))))))))))))))))))), (cD (by repeat (first | exact Knw.refl _ | apply Knw.cons)) bs.h2), (by repeat (first | exact bs.lim | apply Lim.aHz _ dE dE | apply Lim.aH0 _ dE)), bs.limB, (fun k_ h1_ o_ ho_ => Eq.trans (by repeat (first | rfl | rw [aU oM ho_ dE])) (bs.frH k_ h1_ o_ ho_)), (fun k_ h1_ h2_ => Eq.trans aH (bs.frS k_ h1_ h2_))⟩ (s9.cons dE) (sm.cons dE) (s12.cons dE) (s13.cons dE) (s18.cons dE) r12 r13 r14 (sh.cons dE) (si.cons dE) (SrcT.row (e := 3) (by rw [hh]; rfl)) hR
  ·have hf : ¬ o.freq < 6 := oF hc2
   have hh : bI o = [] := by unfold bI; rw [if_pos hz, if_neg hf]
   refine g2 ?_
   refine dN (L' := [(1, pT b1), (2, pT b2), (3, pT b3)]) kns (fun w s => s) ?_
   refine aF4 (x := { x with q56 := none, e56 := 0 }) ok hsort (H := H) (S := S) ⟨bs.ho, (cC (bs.hc.get 0 _ rfl) (cC (bs.hc.get 1 _ rfl) (cC (bs.hc.get 2 _ rfl) (cC (bs.hc.get 3 _ rfl) (cC (bs.hc.get 4 _ rfl) (cC (bs.hc.get 5 _ rfl) (cC (bs.hc.get 6 _ rfl) (cC (bs.hc.get 7 _ rfl) (cC (bs.hc.get 8 _ rfl) (cC (bs.hc.get 9 _ rfl) (cC (bs.hc.get 10 _ rfl) (cC (bs.hc.get 11 _ rfl) (cC (bs.hc.get 12 _ rfl) (cC (bs.hc.get 13 _ rfl) (cC (bs.hc.get 14 _ rfl) (cC (bs.hc.get 15 _ rfl) (cC (bs.hc.get 16 _ rfl) (cC (bs.hc.get 17 _ rfl) (cC (bs.hc.get 18 _ rfl) (cC (bs.hc.get 19 _ rfl) (cC (bs.hc.get 20 _ rfl) (cC (bs.hc.get 21 _ rfl) (cC (bs.hc.get 22 _ rfl) (cC (bs.hc.get 23 _ rfl) (cC (bs.hc.get 24 _ rfl) (cC (bs.hc.get 25 _ rfl) (cC (bs.hc.get 26 _ rfl) (cC (bs.hc.get 27 _ rfl) (cC (bs.hc.get 28 _ rfl) (cC (bs.hc.get 29 _ rfl) (cC (bs.hc.get 30 _ rfl) (cC (bs.hc.get 31 _ rfl) (cC (bs.hc.get 32 _ rfl) (cC (bs.hc.get 33 _ rfl) (cC (bs.hc.get 34 _ rfl) (cC (bs.hc.get 35 _ rfl) (cC (bs.hc.get 36 _ rfl) (cC (bs.hc.get 37 _ rfl) (cC (bs.hc.get 38 _ rfl) (cC (bs.hc.get 39 _ rfl) (cC (bs.hc.get 40 _ rfl) (cC (bs.hc.get 41 _ rfl) (cC (bs.hc.get 42 _ rfl) (cC (bs.hc.get 43 _ rfl) (cC (bs.hc.get 44 _ rfl) (cC (bs.hc.get 45 _ rfl) (cC (bs.hc.get 46 _ rfl) (cC (bs.hc.get 47 _ rfl) (cC (bs.hc.get 48 _ rfl) (cC (bs.hc.get 49 _ rfl) (cC (bs.hc.get 50 _ rfl) (cC (bs.hc.get 51 _ rfl) (cC (bs.hc.get 52 _ rfl) (cC (bs.hc.get 53 _ rfl) (cC (bs.hc.get 54 _ rfl) (cC (bs.hc.get 55 _ rfl) (cC (show lkp (ky 52 56) _ = some (Value.slice none (bI o).length 0) from by rw [hh]; exact bs.hc.get 56 _ rfl) (cC (bs.hc.get 57 _ rfl) (cC (bs.hc.get 58 _ rfl) (cC (bs.hc.get 59 _ rfl) cN)))))))))))))))))))))))))))))))))))))))))))))))))))))))))))), (cD (by repeat (first | exact Knw.refl _ | apply Knw.cons)) bs.h2), bs.lim, bs.limB, (fun k_ h1_ o_ ho_ => Eq.trans (by repeat (first | rfl | rw [aU oM ho_ dE])) (bs.frH k_ h1_ o_ ho_)), (fun k_ h1_ h2_ => Eq.trans aH (bs.frS k_ h1_ h2_))⟩ s9 sm s12 s13 s18 r12 r13 r14 sh si (by rw [hh]; exact SrcT.nil) hR
 ·have hz : ¬ o.second.length = 0 := by have := beq_eq_false_iff_ne.1 hc2; omega
  have hh : bI o = o.second := by unfold bI; rw [if_neg hz]
  refine g1 ?_
  refine rl (rfa 17) ?_
  refine rl (bE 50 rfl rfl (bs.ho.get 17 _ rfl) kR dE) ?_
  refine rl (rfa 56) ?_
  refine gL (cM 52 rfl rfl rfl (bs.hc.get 56 _ rfl) kR rfl dE ?_)
  refine g2 ?_
  refine dN (L' := [(1, pT b1), (2, pT b2), (3, pT b3)]) kns (fun w s => s) ?_
  refine aF4 (x := { x with q56 := x.p17, e56 := x.c17 }) ok hsort (H := ((ky 52 56, .slice x.p17 (o.second).length x.c17) :: H)) (S := S) ⟨bs.ho, (cC (bs.hc.get 0 _ rfl) (cC (bs.hc.get 1 _ rfl) (cC (bs.hc.get 2 _ rfl) (cC (bs.hc.get 3 _ rfl) (cC (bs.hc.get 4 _ rfl) (cC (bs.hc.get 5 _ rfl) (cC (bs.hc.get 6 _ rfl) (cC (bs.hc.get 7 _ rfl) (cC (bs.hc.get 8 _ rfl) (cC (bs.hc.get 9 _ rfl) (cC (bs.hc.get 10 _ rfl) (cC (bs.hc.get 11 _ rfl) (cC (bs.hc.get 12 _ rfl) (cC (bs.hc.get 13 _ rfl) (cC (bs.hc.get 14 _ rfl) (cC (bs.hc.get 15 _ rfl) (cC (bs.hc.get 16 _ rfl) (cC (bs.hc.get 17 _ rfl) (cC (bs.hc.get 18 _ rfl) (cC (bs.hc.get 19 _ rfl) (cC (bs.hc.get 20 _ rfl) (cC (bs.hc.get 21 _ rfl) (cC (bs.hc.get 22 _ rfl) (cC (bs.hc.get 23 _ rfl) (cC (bs.hc.get 24 _ rfl) (cC (bs.hc.get 25 _ rfl) (cC (bs.hc.get 26 _ rfl) (cC (bs.hc.get 27 _ rfl) (cC (bs.hc.get 28 _ rfl) (cC (bs.hc.get 29 _ rfl) (cC (bs.hc.get 30 _ rfl) (cC (bs.hc.get 31 _ rfl) (cC (bs.hc.get 32 _ rfl) (cC (bs.hc.get 33 _ rfl) (cC (bs.hc.get 34 _ rfl) (cC (bs.hc.get 35 _ rfl) (cC (bs.hc.get 36 _ rfl) (cC (bs.hc.get 37 _ rfl) (cC (bs.hc.get 38 _ rfl) (cC (bs.hc.get 39 _ rfl) (cC (bs.hc.get 40 _ rfl) (cC (bs.hc.get 41 _ rfl) (cC (bs.hc.get 42 _ rfl) (cC (bs.hc.get 43 _ rfl) (cC (bs.hc.get 44 _ rfl) (cC (bs.hc.get 45 _ rfl) (cC (bs.hc.get 46 _ rfl) (cC (bs.hc.get 47 _ rfl) (cC (bs.hc.get 48 _ rfl) (cC (bs.hc.get 49 _ rfl) (cC (bs.hc.get 50 _ rfl) (cC (bs.hc.get 51 _ rfl) (cC (bs.hc.get 52 _ rfl) (cC (bs.hc.get 53 _ rfl) (cC (bs.hc.get 54 _ rfl) (cC (bs.hc.get 55 _ rfl) (cC (show lkp (ky 52 56) _ = some (Value.slice x.p17 (bI o).length x.c17) from by rw [hh]; rfl) (cC (bs.hc.get 57 _ rfl) (cC (bs.hc.get 58 _ rfl) (cC (bs.hc.get 59 _ rfl) cN)))))))))))))))))))))))))))))))))))))))))))))))))))))))))))), (cD (by repeat (first | exact Knw.refl _ | apply Knw.cons)) bs.h2), (by repeat (first | exact bs.lim | apply Lim.aHz _ dE dE | apply Lim.aH0 _ dE)), bs.limB, (fun k_ h1_ o_ ho_ => Eq.trans (by repeat (first | rfl | rw [aU oM ho_ dE])) (bs.frH k_ h1_ o_ ho_)), (fun k_ h1_ h2_ => Eq.trans aH (bs.frS k_ h1_ h2_))⟩ s9 sm s12 s13 s18 r12 r13 r14 sh si (by rw [hh]; exact s17.more) hR
theorem aF9 {R : Ending → World → Prop} {o : Opn} {x : Av} {b1 b2 b3 : Nat} {H0 : LV} {S0 : LS} (ok : OpOk o) (hsort : o.freq < 4 → jJ F w0 (raw o)) (bs : Bs F w0 B H0 S0 b1 b2 b3 (oc1 o x) (rcE o x) H S) (s9 : SrcT F w0 S 11 (.slice x.p9 (o.setpos).length x.c9) o.setpos) (sm : SrcT F w0 S 16 (.slice x.pm (bW o).length x.cm) (bW o)) (s12 : SrcT F w0 S 11 (.slice x.p12 (o.yday).length x.c12) o.yday) (s13 : SrcT F w0 S 11 (.slice x.p13 (o.weekno).length x.c13) o.weekno) (s16 : SrcT F w0 S 11 (.slice x.p16 (o.minute).length x.c16) o.minute) (s17 : SrcT F w0 S 11 (.slice x.p17 (o.second).length x.c17) o.second) (s18 : SrcT F w0 S 11 (.slice x.p18 (o.easter).length x.c18) o.easter) (r12 : lkp 12 S = some ⟨.slice x.q48 (fX (bK o)).length x.e48, 3, 1, (fX (bK o)).length, (fX (bK o)).map iV⟩) (r13 : lkp 13 S = some ⟨.slice x.q49 (fW (bK o)).length x.e49, 3, 1, (fW (bK o)).length, (fW (bK o)).map iV⟩) (r14 : lkp 14 S = some ⟨.slice x.q52 (((bR o).filter (cI o.freq)).map Prod.fst).length x.e52, 3, 1, (((bR o).filter (cI o.freq)).map Prod.fst).length, (((bR o).filter (cI o.freq)).map Prod.fst).map iV⟩) (sh : SrcT F w0 S 18 (.slice x.q54 (cG o).length x.e54) (cG o))  (hR : ∀ (x : Av) (S' : LS), OutF F w0 o x S0 S' → ∀ w, Sees F w0 B H0 S' w → R (.returned (.agg (iP o x).toArray)) w) : GC Tryz.prog (Go.Fr.part [1, 1, 1, 1, 1, 1, 1, 1, 1, 1, 1, 1, 1, 1, 1, 1, 1, 1, 1, 1, 1, 1] (Go.Fr.bodyOf Tryz.f43)) (bodyPost Tryz.prog Tryz.f43 R) 300 [(1, pT b1), (2, pT b2), (3, pT b3)] F w0 ((52, b3) :: (51, b2) :: (50, b1) :: B) H S := by
 have ok_ := ok
 have hd_ := ok.d
 have hfr := ok.freq
 refine g3 ?_
 refine rl (rfa 16) ?_
 refine rl (bE 50 rfl rfl (bs.ho.get 16 _ rfl) kR dE) ?_
 refine g4 ?_
 refine aE rfl (fun hc1 => ?_) (fun hc2 => ?_)
 ·have hz : o.minute.length = 0 := by have := beq_iff_eq.1 hc1; omega
  refine g2 ?_
  refine rl (rfa 38) ?_
  refine rl (bE 52 rfl rfl (bs.hc.get 38 _ rfl) kR dE) ?_
  refine g3 ?_
  refine aE rfl (fun hc1 => ?_) (fun hc2 => ?_)
  ·have hf : o.freq < 5 := oT hc1
   have hh : bB o = [o.d % 86400 / 60 % 60] := by unfold bB; rw [if_pos hz, if_pos hf]
   refine g1 ?_
   refine rl (rfa 39) ?_
   refine rl (aX 52 rfl rfl (bs.hc.get 39 _ rfl) (bs.hc.get 40 _ rfl) kR dE) ?_
   refine gL (cvo rfl (fun w_ s_ => u3 _ _ oM w_) ?_)
   refine gL (dD 19 (e := 3) (sz := 1) (by_ := 8) (zs := [iV 0]) (cs := [iV (o.d % 86400 / 60 % 60)]) dE kR rfl dE dE rfl rfl rfl (fun bo => ?_))
   refine rl (rfa 55) ?_
   refine gL (cM 52 rfl rfl rfl (bs.hc.get 55 _ rfl) kR rfl dE ?_)
   refine g2 ?_
   refine dN (L' := [(1, pT b1), (2, pT b2), (3, pT b3)]) kns (fun w s => s) ?_
   refine aFy (x := { x with q55 := some ⟨bo, 0, none⟩, e55 := 1 }) ok hsort (H := ((ky 52 55, sL bo 1 1) :: H)) (S := ((19, ⟨sL bo 1 1, 3, 1, 1, [iV (o.d % 86400 / 60 % 60)]⟩) :: S)) ⟨bs.ho, (cC (bs.hc.get 0 _ rfl) (cC (bs.hc.get 1 _ rfl) (cC (bs.hc.get 2 _ rfl) (cC (bs.hc.get 3 _ rfl) (cC (bs.hc.get 4 _ rfl) (cC (bs.hc.get 5 _ rfl) (cC (bs.hc.get 6 _ rfl) (cC (bs.hc.get 7 _ rfl) (cC (bs.hc.get 8 _ rfl) (cC (bs.hc.get 9 _ rfl) (cC (bs.hc.get 10 _ rfl) (cC (bs.hc.get 11 _ rfl) (cC (bs.hc.get 12 _ rfl) (cC (bs.hc.get 13 _ rfl) (cC (bs.hc.get 14 _ rfl) (cC (bs.hc.get 15 _ rfl) (cC (bs.hc.get 16 _ rfl) (cC (bs.hc.get 17 _ rfl) (cC (bs.hc.get 18 _ rfl) (cC (bs.hc.get 19 _ rfl) (cC (bs.hc.get 20 _ rfl) (cC (bs.hc.get 21 _ rfl) (cC (bs.hc.get 22 _ rfl) (cC (bs.hc.get 23 _ rfl) (cC (bs.hc.get 24 _ rfl) (cC (bs.hc.get 25 _ rfl) (cC (bs.hc.get 26 _ rfl) (cC (bs.hc.get 27 _ rfl) (cC (bs.hc.get 28 _ rfl) (cC (bs.hc.get 29 _ rfl) (cC (bs.hc.get 30 _ rfl) (cC (bs.hc.get 31 _ rfl) (cC (bs.hc.get 32 _ rfl) (cC (bs.hc.get 33 _ rfl) (cC (bs.hc.get 34 _ rfl) (cC (bs.hc.get 35 _ rfl) (cC (bs.hc.get 36 _ rfl) (cC (bs.hc.get 37 _ rfl) (cC (bs.hc.get 38 _ rfl) (cC (bs.hc.get 39 _ rfl) (cC (bs.hc.get 40 _ rfl) (cC (bs.hc.get 41 _ rfl) (cC (bs.hc.get 42 _ rfl) (cC (bs.hc.get 43 _ rfl) (cC (bs.hc.get 44 _ rfl) (cC (bs.hc.get 45 _ rfl) (cC (bs.hc.get 46 _ rfl) (cC (bs.hc.get 47 _ rfl) (cC (bs.hc.get 48 _ rfl) (cC (bs.hc.get 49 _ rfl) (cC (bs.hc.get 50 _ rfl) (cC (bs.hc.get 51 _ rfl) (cC (bs.hc.get 52 _ rfl) (cC (bs.hc.get 53 _ rfl) (cC (bs.hc.get 54 _ rfl) (cC (show lkp (ky 52 55) _ = some (sL bo (bB o).length 1) from by rw [hh]; rfl) (cC (bs.hc.get 56 _ rfl) (cC (bs.hc.get 57 _ rfl) (cC (bs.hc.get 58 _ rfl) (cC (bs.hc.get 59 _ rfl) cN)))))))))))))))))))))))))))))))))))))))))))))))))))))))))))), (cD (by repeat (first | exact Knw.refl _ | apply Knw.cons)) bs.h2), (by repeat (first | exact bs.lim | apply Lim.aHz _ dE dE | apply Lim.aH0 _ dE)), bs.limB, (fun k_ h1_ o_ ho_ => Eq.trans (by repeat (first | rfl | rw [aU oM ho_ dE])) (bs.frH k_ h1_ o_ ho_)), (fun k_ h1_ h2_ => Eq.trans aH (bs.frS k_ h1_ h2_))⟩ (s9.cons dE) (sm.cons dE) (s12.cons dE) (s13.cons dE) (s17.cons dE) (s18.cons dE) r12 r13 r14 (sh.cons dE) (SrcT.row (e := 3) (by rw [hh]; rfl)) hR
  ·have hf : ¬ o.freq < 5 := oF hc2
   have hh : bB o = [] := by unfold bB; rw [if_pos hz, if_neg hf]
   refine g2 ?_
   refine dN (L' := [(1, pT b1), (2, pT b2), (3, pT b3)]) kns (fun w s => s) ?_
   refine aFy (x := { x with q55 := none, e55 := 0 }) ok hsort (H := H) (S := S) ⟨bs.ho, (cC (bs.hc.get 0 _ rfl) (cC (bs.hc.get 1 _ rfl) (cC (bs.hc.get 2 _ rfl) (cC (bs.hc.get 3 _ rfl) (cC (bs.hc.get 4 _ rfl) (cC (bs.hc.get 5 _ rfl) (cC (bs.hc.get 6 _ rfl) (cC (bs.hc.get 7 _ rfl) (cC (bs.hc.get 8 _ rfl) (cC (bs.hc.get 9 _ rfl) (cC (bs.hc.get 10 _ rfl) (cC (bs.hc.get 11 _ rfl) (cC (bs.hc.get 12 _ rfl) (cC (bs.hc.get 13 _ rfl) (cC (bs.hc.get 14 _ rfl) (cC (bs.hc.get 15 _ rfl) (cC (bs.hc.get 16 _ rfl) (cC (bs.hc.get 17 _ rfl) (cC (bs.hc.get 18 _ rfl) (cC (bs.hc.get 19 _ rfl) (cC (bs.hc.get 20 _ rfl) (cC (bs.hc.get 21 _ rfl) (cC (bs.hc.get 22 _ rfl) (cC (bs.hc.get 23 _ rfl) (cC (bs.hc.get 24 _ rfl) (cC (bs.hc.get 25 _ rfl) (cC (bs.hc.get 26 _ rfl) (cC (bs.hc.get 27 _ rfl) (cC (bs.hc.get 28 _ rfl) (cC (bs.hc.get 29 _ rfl) (cC (bs.hc.get 30 _ rfl) (cC (bs.hc.get 31 _ rfl) (cC (bs.hc.get 32 _ rfl) (cC (bs.hc.get 33 _ rfl) (cC (bs.hc.get 34 _ rfl) (cC (bs.hc.get 35 _ rfl) (cC (bs.hc.get 36 _ rfl) (cC (bs.hc.get 37 _ rfl) (cC (bs.hc.get 38 _ rfl) (cC (bs.hc.get 39 _ rfl) (cC (bs.hc.get 40 _ rfl) (cC (bs.hc.get 41 _ rfl) (cC (bs.hc.get 42 _ rfl) (cC (bs.hc.get 43 _ rfl) (cC (bs.hc.get 44 _ rfl) (cC (bs.hc.get 45 _ rfl) (cC (bs.hc.get 46 _ rfl) (cC (bs.hc.get 47 _ rfl) (cC (bs.hc.get 48 _ rfl) (cC (bs.hc.get 49 _ rfl) (cC (bs.hc.get 50 _ rfl) (cC (bs.hc.get 51 _ rfl) (cC (bs.hc.get 52 _ rfl) (cC (bs.hc.get 53 _ rfl) (cC (bs.hc.get 54 _ rfl) (cC (show lkp (ky 52 55) _ = some (Value.slice none (bB o).length 0) from by rw [hh]; exact bs.hc.get 55 _ rfl) (cC (bs.hc.get 56 _ rfl) (cC (bs.hc.get 57 _ rfl) (cC (bs.hc.get 58 _ rfl) (cC (bs.hc.get 59 _ rfl) cN)))))))))))))))))))))))))))))))))))))))))))))))))))))))))))), (cD (by repeat (first | exact Knw.refl _ | apply Knw.cons)) bs.h2), bs.lim, bs.limB, (fun k_ h1_ o_ ho_ => Eq.trans (by repeat (first | rfl | rw [aU oM ho_ dE])) (bs.frH k_ h1_ o_ ho_)), (fun k_ h1_ h2_ => Eq.trans aH (bs.frS k_ h1_ h2_))⟩ s9 sm s12 s13 s17 s18 r12 r13 r14 sh (by rw [hh]; exact SrcT.nil) hR
 ·have hz : ¬ o.minute.length = 0 := by have := beq_eq_false_iff_ne.1 hc2; omega
  have hh : bB o = o.minute := by unfold bB; rw [if_neg hz]
  refine g1 ?_
  refine rl (rfa 16) ?_
  refine rl (bE 50 rfl rfl (bs.ho.get 16 _ rfl) kR dE) ?_
  refine rl (rfa 55) ?_
  refine gL (cM 52 rfl rfl rfl (bs.hc.get 55 _ rfl) kR rfl dE ?_)
  refine g2 ?_
  refine dN (L' := [(1, pT b1), (2, pT b2), (3, pT b3)]) kns (fun w s => s) ?_
  refine aFy (x := { x with q55 := x.p16, e55 := x.c16 }) ok hsort (H := ((ky 52 55, .slice x.p16 (o.minute).length x.c16) :: H)) (S := S) ⟨bs.ho, (cC (bs.hc.get 0 _ rfl) (cC (bs.hc.get 1 _ rfl) (cC (bs.hc.get 2 _ rfl) (cC (bs.hc.get 3 _ rfl) (cC (bs.hc.get 4 _ rfl) (cC (bs.hc.get 5 _ rfl) (cC (bs.hc.get 6 _ rfl) (cC (bs.hc.get 7 _ rfl) (cC (bs.hc.get 8 _ rfl) (cC (bs.hc.get 9 _ rfl) (cC (bs.hc.get 10 _ rfl) (cC (bs.hc.get 11 _ rfl) (cC (bs.hc.get 12 _ rfl) (cC (bs.hc.get 13 _ rfl) (cC (bs.hc.get 14 _ rfl) (cC (bs.hc.get 15 _ rfl) (cC (bs.hc.get 16 _ rfl) (cC (bs.hc.get 17 _ rfl) (cC (bs.hc.get 18 _ rfl) (cC (bs.hc.get 19 _ rfl) (cC (bs.hc.get 20 _ rfl) (cC (bs.hc.get 21 _ rfl) (cC (bs.hc.get 22 _ rfl) (cC (bs.hc.get 23 _ rfl) (cC (bs.hc.get 24 _ rfl) (cC (bs.hc.get 25 _ rfl) (cC (bs.hc.get 26 _ rfl) (cC (bs.hc.get 27 _ rfl) (cC (bs.hc.get 28 _ rfl) (cC (bs.hc.get 29 _ rfl) (cC (bs.hc.get 30 _ rfl) (cC (bs.hc.get 31 _ rfl) (cC (bs.hc.get 32 _ rfl) (cC (bs.hc.get 33 _ rfl) (cC (bs.hc.get 34 _ rfl) (cC (bs.hc.get 35 _ rfl) (cC (bs.hc.get 36 _ rfl) (cC (bs.hc.get 37 _ rfl) (cC (bs.hc.get 38 _ rfl) (cC (bs.hc.get 39 _ rfl) (cC (bs.hc.get 40 _ rfl) (cC (bs.hc.get 41 _ rfl) (cC (bs.hc.get 42 _ rfl) (cC (bs.hc.get 43 _ rfl) (cC (bs.hc.get 44 _ rfl) (cC (bs.hc.get 45 _ rfl) (cC (bs.hc.get 46 _ rfl) (cC (bs.hc.get 47 _ rfl) (cC (bs.hc.get 48 _ rfl) (cC (bs.hc.get 49 _ rfl) (cC (bs.hc.get 50 _ rfl) (cC (bs.hc.get 51 _ rfl) (cC (bs.hc.get 52 _ rfl) (cC (bs.hc.get 53 _ rfl) (cC (bs.hc.get 54 _ rfl) (cC (show lkp (ky 52 55) _ = some (Value.slice x.p16 (bB o).length x.c16) from by rw [hh]; rfl) (cC (bs.hc.get 56 _ rfl) (cC (bs.hc.get 57 _ rfl) (cC (bs.hc.get 58 _ rfl) (cC (bs.hc.get 59 _ rfl) cN)))))))))))))))))))))))))))))))))))))))))))))))))))))))))))), (cD (by repeat (first | exact Knw.refl _ | apply Knw.cons)) bs.h2), (by repeat (first | exact bs.lim | apply Lim.aHz _ dE dE | apply Lim.aH0 _ dE)), bs.limB, (fun k_ h1_ o_ ho_ => Eq.trans (by repeat (first | rfl | rw [aU oM ho_ dE])) (bs.frH k_ h1_ o_ ho_)), (fun k_ h1_ h2_ => Eq.trans aH (bs.frS k_ h1_ h2_))⟩ s9 sm s12 s13 s17 s18 r12 r13 r14 sh (by rw [hh]; exact s16.more) hR
theorem bu_E {R : Ending → World → Prop} {o : Opn} {x : Av} {b1 b2 b3 : Nat} {H0 : LV} {S0 : LS} (ok : OpOk o) (hsort : o.freq < 4 → jJ F w0 (raw o)) (bs : Bs F w0 B H0 S0 b1 b2 b3 (oc1 o x) (rcD o x) H S) (s9 : SrcT F w0 S 11 (.slice x.p9 (o.setpos).length x.c9) o.setpos) (sm : SrcT F w0 S 16 (.slice x.pm (bW o).length x.cm) (bW o)) (s12 : SrcT F w0 S 11 (.slice x.p12 (o.yday).length x.c12) o.yday) (s13 : SrcT F w0 S 11 (.slice x.p13 (o.weekno).length x.c13) o.weekno) (s15 : SrcT F w0 S 11 (.slice x.p15 (o.hour).length x.c15) o.hour) (s16 : SrcT F w0 S 11 (.slice x.p16 (o.minute).length x.c16) o.minute) (s17 : SrcT F w0 S 11 (.slice x.p17 (o.second).length x.c17) o.second) (s18 : SrcT F w0 S 11 (.slice x.p18 (o.easter).length x.c18) o.easter) (r12 : lkp 12 S = some ⟨.slice x.q48 (fX (bK o)).length x.e48, 3, 1, (fX (bK o)).length, (fX (bK o)).map iV⟩) (r13 : lkp 13 S = some ⟨.slice x.q49 (fW (bK o)).length x.e49, 3, 1, (fW (bK o)).length, (fW (bK o)).map iV⟩) (r14 : lkp 14 S = some ⟨.slice x.q52 (((bR o).filter (cI o.freq)).map Prod.fst).length x.e52, 3, 1, (((bR o).filter (cI o.freq)).map Prod.fst).length, (((bR o).filter (cI o.freq)).map Prod.fst).map iV⟩)  (hR : ∀ (x : Av) (S' : LS), OutF F w0 o x S0 S' → ∀ w, Sees F w0 B H0 S' w → R (.returned (.agg (iP o x).toArray)) w) : GC Tryz.prog (Go.Fr.part [1, 1, 1, 1, 1, 1, 1, 1, 1, 1, 1, 1, 1, 1, 1, 1, 1, 1, 1, 1, 1] (Go.Fr.bodyOf Tryz.f43)) (bodyPost Tryz.prog Tryz.f43 R) 300 [(1, pT b1), (2, pT b2), (3, pT b3)] F w0 ((52, b3) :: (51, b2) :: (50, b1) :: B) H S := by
 have ok_ := ok
 have hd_ := ok.d
 have hfr := ok.freq
 refine g3 ?_
 refine rl (rfa 15) ?_
 refine rl (bE 50 rfl rfl (bs.ho.get 15 _ rfl) kR dE) ?_
 refine g4 ?_
 refine aE rfl (fun hc1 => ?_) (fun hc2 => ?_)
 ·have hz : o.hour.length = 0 := by have := beq_iff_eq.1 hc1; omega
  refine g2 ?_
  refine rl (rfa 38) ?_
  refine rl (bE 52 rfl rfl (bs.hc.get 38 _ rfl) kR dE) ?_
  refine g3 ?_
  refine aE rfl (fun hc1 => ?_) (fun hc2 => ?_)
  ·have hf : o.freq < 4 := oT hc1
   have hh : cG o = [o.d % 86400 / 3600] := by unfold cG; rw [if_pos hz, if_pos hf]
   refine g1 ?_
   refine rl (rfa 39) ?_
   refine rl (aX 52 rfl rfl (bs.hc.get 39 _ rfl) (bs.hc.get 40 _ rfl) kR dE) ?_
   refine gL (cvo rfl (fun w_ s_ => yF _ _ oM w_) ?_)
   refine gL (dD 18 (e := 3) (sz := 1) (by_ := 8) (zs := [iV 0]) (cs := [iV (o.d % 86400 / 3600)]) dE kR rfl dE dE rfl rfl rfl (fun bo => ?_))
   refine rl (rfa 54) ?_
   refine gL (cM 52 rfl rfl rfl (bs.hc.get 54 _ rfl) kR rfl dE ?_)
   refine g2 ?_
   refine dN (L' := [(1, pT b1), (2, pT b2), (3, pT b3)]) kns (fun w s => s) ?_
   refine aF9 (x := { x with q54 := some ⟨bo, 0, none⟩, e54 := 1 }) ok hsort (H := ((ky 52 54, sL bo 1 1) :: H)) (S := ((18, ⟨sL bo 1 1, 3, 1, 1, [iV (o.d % 86400 / 3600)]⟩) :: S)) ⟨bs.ho, (cC (bs.hc.get 0 _ rfl) (cC (bs.hc.get 1 _ rfl) (cC (bs.hc.get 2 _ rfl) (cC (bs.hc.get 3 _ rfl) (cC (bs.hc.get 4 _ rfl) (cC (bs.hc.get 5 _ rfl) (cC (bs.hc.get 6 _ rfl) (cC (bs.hc.get 7 _ rfl) (cC (bs.hc.get 8 _ rfl) (cC (bs.hc.get 9 _ rfl) (cC (bs.hc.get 10 _ rfl) (cC (bs.hc.get 11 _ rfl) (cC (bs.hc.get 12 _ rfl) (cC (bs.hc.get 13 _ rfl) (cC (bs.hc.get 14 _ rfl) (cC (bs.hc.get 15 _ rfl) (cC (bs.hc.get 16 _ rfl) (cC (bs.hc.get 17 _ rfl) (cC (bs.hc.get 18 _ rfl) (cC (bs.hc.get 19 _ rfl) (cC (bs.hc.get 20 _ rfl) (cC (bs.hc.get 21 _ rfl) (cC (bs.hc.get 22 _ rfl) (cC (bs.hc.get 23 _ rfl) (cC (bs.hc.get 24 _ rfl) (cC (bs.hc.get 25 _ rfl) (cC (bs.hc.get 26 _ rfl) (cC (bs.hc.get 27 _ rfl) (cC (bs.hc.get 28 _ rfl) (cC (bs.hc.get 29 _ rfl) (cC (bs.hc.get 30 _ rfl) (cC (bs.hc.get 31 _ rfl) (cC (bs.hc.get 32 _ rfl) (cC (bs.hc.get 33 _ rfl) (cC (bs.hc.get 34 _ rfl) (cC (bs.hc.get 35 _ rfl) (cC (bs.hc.get 36 _ rfl) (cC (bs.hc.get 37 _ rfl) (cC (bs.hc.get 38 _ rfl) (cC (bs.hc.get 39 _ rfl) (cC (bs.hc.get 40 _ rfl) (cC (bs.hc.get 41 _ rfl) (cC (bs.hc.get 42 _ rfl) (cC (bs.hc.get 43 _ rfl) (cC (bs.hc.get 44 _ rfl) (cC (bs.hc.get 45 _ rfl) (cC (bs.hc.get 46 _ rfl) (cC (bs.hc.get 47 _ rfl) (cC (bs.hc.get 48 _ rfl) (cC (bs.hc.get 49 _ rfl) (cC (bs.hc.get 50 _ rfl) (cC (bs.hc.get 51 _ rfl) (cC (bs.hc.get 52 _ rfl) (cC (bs.hc.get 53 _ rfl) (cC (show lkp (ky 52 54) _ = some (sL bo (cG o).length 1) from by rw [hh]; rfl) (cC (bs.hc.get 55 _ rfl) (cC (bs.hc.get 56 _ rfl) (cC (bs.hc.get 57 _ rfl) (cC (bs.hc.get 58 _ rfl) (cC (bs.hc.get 59 _ rfl) cN)))))))))))))))))))))))))))))))))))))))))))))))))))))))))))), (cD (by repeat (first | exact Knw.refl _ | apply Knw.cons)) bs.h2), (by repeat (first | exact bs.lim | apply Lim.aHz _ dE dE | apply Lim.aH0 _ dE)), bs.limB, (fun k_ h1_ o_ ho_ => Eq.trans (by repeat (first | rfl | rw [aU oM ho_ dE])) (bs.frH k_ h1_ o_ ho_)), (fun k_ h1_ h2_ => Eq.trans aH (bs.frS k_ h1_ h2_))⟩ (s9.cons dE) (sm.cons dE) (s12.cons dE) (s13.cons dE) (s16.cons dE) (s17.cons dE) (s18.cons dE) r12 r13 r14 (SrcT.row (e := 3) (by rw [hh]; rfl)) hR
  ·have hf : ¬ o.freq < 4 := oF hc2
   have hh : cG o = [] := by unfold cG; rw [if_pos hz, if_neg hf]
   refine g2 ?_
   refine dN (L' := [(1, pT b1), (2, pT b2), (3, pT b3)]) kns (fun w s => s) ?_
   refine aF9 (x := { x with q54 := none, e54 := 0 }) ok hsort (H := H) (S := S) ⟨bs.ho, (cC (bs.hc.get 0 _ rfl) (cC (bs.hc.get 1 _ rfl) (cC (bs.hc.get 2 _ rfl) (cC (bs.hc.get 3 _ rfl) (cC (bs.hc.get 4 _ rfl) (cC (bs.hc.get 5 _ rfl) (cC (bs.hc.get 6 _ rfl) (cC (bs.hc.get 7 _ rfl) (cC (bs.hc.get 8 _ rfl) (cC (bs.hc.get 9 _ rfl) (cC (bs.hc.get 10 _ rfl) (cC (bs.hc.get 11 _ rfl) (cC (bs.hc.get 12 _ rfl) (cC (bs.hc.get 13 _ rfl) (cC (bs.hc.get 14 _ rfl) (cC (bs.hc.get 15 _ rfl) (cC (bs.hc.get 16 _ rfl) (cC (bs.hc.get 17 _ rfl) (cC (bs.hc.get 18 _ rfl) (cC (bs.hc.get 19 _ rfl) (cC (bs.hc.get 20 _ rfl) (cC (bs.hc.get 21 _ rfl) (cC (bs.hc.get 22 _ rfl) (cC (bs.hc.get 23 _ rfl) (cC (bs.hc.get 24 _ rfl) (cC (bs.hc.get 25 _ rfl) (cC (bs.hc.get 26 _ rfl) (cC (bs.hc.get 27 _ rfl) (cC (bs.hc.get 28 _ rfl) (cC (bs.hc.get 29 _ rfl) (cC (bs.hc.get 30 _ rfl) (cC (bs.hc.get 31 _ rfl) (cC (bs.hc.get 32 _ rfl) (cC (bs.hc.get 33 _ rfl) (cC (bs.hc.get 34 _ rfl) (cC (bs.hc.get 35 _ rfl) (cC (bs.hc.get 36 _ rfl) (cC (bs.hc.get 37 _ rfl) (cC (bs.hc.get 38 _ rfl) (cC (bs.hc.get 39 _ rfl) (cC (bs.hc.get 40 _ rfl) (cC (bs.hc.get 41 _ rfl) (cC (bs.hc.get 42 _ rfl) (cC (bs.hc.get 43 _ rfl) (cC (bs.hc.get 44 _ rfl) (cC (bs.hc.get 45 _ rfl) (cC (bs.hc.get 46 _ rfl) (cC (bs.hc.get 47 _ rfl) (cC (bs.hc.get 48 _ rfl) (cC (bs.hc.get 49 _ rfl) (cC (bs.hc.get 50 _ rfl) (cC (bs.hc.get 51 _ rfl) (cC (bs.hc.get 52 _ rfl) (cC (bs.hc.get 53 _ rfl) (cC (show lkp (ky 52 54) _ = some (Value.slice none (cG o).length 0) from by rw [hh]; exact bs.hc.get 54 _ rfl) (cC (bs.hc.get 55 _ rfl) (cC (bs.hc.get 56 _ rfl) (cC (bs.hc.get 57 _ rfl) (cC (bs.hc.get 58 _ rfl) (cC (bs.hc.get 59 _ rfl) cN)))))))))))))))))))))))))))))))))))))))))))))))))))))))))))), (cD (by repeat (first | exact Knw.refl _ | apply Knw.cons)) bs.h2), bs.lim, bs.limB, (fun k_ h1_ o_ ho_ => Eq.trans (by repeat (first | rfl | rw [aU oM ho_ dE])) (bs.frH k_ h1_ o_ ho_)), (fun k_ h1_ h2_ => Eq.trans aH (bs.frS k_ h1_ h2_))⟩ s9 sm s12 s13 s16 s17 s18 r12 r13 r14 (by rw [hh]; exact SrcT.nil) hR
 ·have hz : ¬ o.hour.length = 0 := by have := beq_eq_false_iff_ne.1 hc2; omega
  have hh : cG o = o.hour := by unfold cG; rw [if_neg hz]
  refine g1 ?_
  refine rl (rfa 15) ?_
  refine rl (bE 50 rfl rfl (bs.ho.get 15 _ rfl) kR dE) ?_
  refine rl (rfa 54) ?_
  refine gL (cM 52 rfl rfl rfl (bs.hc.get 54 _ rfl) kR rfl dE ?_)
  refine g2 ?_
  refine dN (L' := [(1, pT b1), (2, pT b2), (3, pT b3)]) kns (fun w s => s) ?_
  refine aF9 (x := { x with q54 := x.p15, e54 := x.c15 }) ok hsort (H := ((ky 52 54, .slice x.p15 (o.hour).length x.c15) :: H)) (S := S) ⟨bs.ho, (cC (bs.hc.get 0 _ rfl) (cC (bs.hc.get 1 _ rfl) (cC (bs.hc.get 2 _ rfl) (cC (bs.hc.get 3 _ rfl) (cC (bs.hc.get 4 _ rfl) (cC (bs.hc.get 5 _ rfl) (cC (bs.hc.get 6 _ rfl) (cC (bs.hc.get 7 _ rfl) (cC (bs.hc.get 8 _ rfl) (cC (bs.hc.get 9 _ rfl) (cC (bs.hc.get 10 _ rfl) (cC (bs.hc.get 11 _ rfl) (cC (bs.hc.get 12 _ rfl) (cC (bs.hc.get 13 _ rfl) (cC (bs.hc.get 14 _ rfl) (cC (bs.hc.get 15 _ rfl) (cC (bs.hc.get 16 _ rfl) (cC (bs.hc.get 17 _ rfl) (cC (bs.hc.get 18 _ rfl) (cC (bs.hc.get 19 _ rfl) (cC (bs.hc.get 20 _ rfl) (cC (bs.hc.get 21 _ rfl) (cC (bs.hc.get 22 _ rfl) (cC (bs.hc.get 23 _ rfl) (cC (bs.hc.get 24 _ rfl) (cC (bs.hc.get 25 _ rfl) (cC (bs.hc.get 26 _ rfl) (cC (bs.hc.get 27 _ rfl) (cC (bs.hc.get 28 _ rfl) (cC (bs.hc.get 29 _ rfl) (cC (bs.hc.get 30 _ rfl) (cC (bs.hc.get 31 _ rfl) (cC (bs.hc.get 32 _ rfl) (cC (bs.hc.get 33 _ rfl) (cC (bs.hc.get 34 _ rfl) (cC (bs.hc.get 35 _ rfl) (cC (bs.hc.get 36 _ rfl) (cC (bs.hc.get 37 _ rfl) (cC (bs.hc.get 38 _ rfl) (cC (bs.hc.get 39 _ rfl) (cC (bs.hc.get 40 _ rfl) (cC (bs.hc.get 41 _ rfl) (cC (bs.hc.get 42 _ rfl) (cC (bs.hc.get 43 _ rfl) (cC (bs.hc.get 44 _ rfl) (cC (bs.hc.get 45 _ rfl) (cC (bs.hc.get 46 _ rfl) (cC (bs.hc.get 47 _ rfl) (cC (bs.hc.get 48 _ rfl) (cC (bs.hc.get 49 _ rfl) (cC (bs.hc.get 50 _ rfl) (cC (bs.hc.get 51 _ rfl) (cC (bs.hc.get 52 _ rfl) (cC (bs.hc.get 53 _ rfl) (cC (show lkp (ky 52 54) _ = some (Value.slice x.p15 (cG o).length x.c15) from by rw [hh]; rfl) (cC (bs.hc.get 55 _ rfl) (cC (bs.hc.get 56 _ rfl) (cC (bs.hc.get 57 _ rfl) (cC (bs.hc.get 58 _ rfl) (cC (bs.hc.get 59 _ rfl) cN)))))))))))))))))))))))))))))))))))))))))))))))))))))))))))), (cD (by repeat (first | exact Knw.refl _ | apply Knw.cons)) bs.h2), (by repeat (first | exact bs.lim | apply Lim.aHz _ dE dE | apply Lim.aH0 _ dE)), bs.limB, (fun k_ h1_ o_ ho_ => Eq.trans (by repeat (first | rfl | rw [aU oM ho_ dE])) (bs.frH k_ h1_ o_ ho_)), (fun k_ h1_ h2_ => Eq.trans aH (bs.frS k_ h1_ h2_))⟩ s9 sm s12 s13 s16 s17 s18 r12 r13 r14 (by rw [hh]; exact s15.more) hR
theorem bu_D {R : Ending → World → Prop} {o : Opn} {x : Av} {b1 b2 b3 : Nat} {H0 : LV} {S0 : LS} (ok : OpOk o) (hsort : o.freq < 4 → jJ F w0 (raw o)) (bs : Bs F w0 B H0 S0 b1 b2 b3 (oc1 o x) (rcC o x) H S) (s9 : SrcT F w0 S 11 (.slice x.p9 (o.setpos).length x.c9) o.setpos) (sm : SrcT F w0 S 16 (.slice x.pm (bW o).length x.cm) (bW o)) (s12 : SrcT F w0 S 11 (.slice x.p12 (o.yday).length x.c12) o.yday) (s13 : SrcT F w0 S 11 (.slice x.p13 (o.weekno).length x.c13) o.weekno) (sw : SrcU F w0 S 21 (.slice x.pw (bR o).length x.cw) (bR o)) (s15 : SrcT F w0 S 11 (.slice x.p15 (o.hour).length x.c15) o.hour) (s16 : SrcT F w0 S 11 (.slice x.p16 (o.minute).length x.c16) o.minute) (s17 : SrcT F w0 S 11 (.slice x.p17 (o.second).length x.c17) o.second) (s18 : SrcT F w0 S 11 (.slice x.p18 (o.easter).length x.c18) o.easter) (r12 : lkp 12 S = some ⟨.slice x.q48 (fX (bK o)).length x.e48, 3, 1, (fX (bK o)).length, (fX (bK o)).map iV⟩) (r13 : lkp 13 S = some ⟨.slice x.q49 (fW (bK o)).length x.e49, 3, 1, (fW (bK o)).length, (fW (bK o)).map iV⟩)  (hR : ∀ (x : Av) (S' : LS), OutF F w0 o x S0 S' → ∀ w, Sees F w0 B H0 S' w → R (.returned (.agg (iP o x).toArray)) w) : GC Tryz.prog (Go.Fr.part [1, 1, 1, 1, 1, 1, 1, 1, 1, 1, 1, 1, 1, 1, 1, 1, 1, 1, 1] (Go.Fr.bodyOf Tryz.f43)) (bodyPost Tryz.prog Tryz.f43 R) 300 [(1, pT b1), (2, pT b2), (3, pT b3)] F w0 ((52, b3) :: (51, b2) :: (50, b1) :: B) H S := by
 have ok_ := ok
 have hwl : (bR o).length ≤ 1000 := by unfold bR; split; exact (by simp); exact ok.wday
 refine g2 ?_
 refine rl (rfa 13) ?_
 refine rl (bE 50 rfl rfl (bs.ho.get 13 _ rfl) kR dE) ?_
 refine rl (rfa 51) ?_
 refine gL (cM 52 rfl rfl rfl (bs.hc.get 51 _ rfl) kR rfl dE ?_)
 refine g5 ?_
 refine rl (rfa 14) ?_
 refine rl (bE 50 rfl rfl (bs.ho.get 14 _ rfl) kR dE) ?_
 refine g5 ?_
 refine bH (ι := (Nat) × (Option Addr) × (Nat) × (Nat) × (List Value) × (List Int) × (Option Addr) × (Nat) × (Nat) × (List Value) × (List (Int × Int))) (fun | ⟨k, q14, e14, n14, xs14, l14, q15, e15, n15, xs15, l15⟩ => (bR o).length - k) (fun | ⟨k, q14, e14, n14, xs14, l14, q15, e15, n15, xs15, l15⟩ => (k ≤ (bR o).length) ∧ (l14 = ((bR o).take k |>.filter (cI o.freq)).map Prod.fst) ∧ (n14 = l14.length) ∧ (xs14 = l14.map iV) ∧ (l15 = ((bR o).take k).filter fun y => !cI o.freq y) ∧ (n15 = l15.length) ∧ (xs15 = eE l15)) (fun | ⟨k, q14, e14, n14, xs14, l14, q15, e15, n15, xs15, l15⟩ => [(1, pT b1), (2, pT b2), (3, pT b3), (167, .slice x.pw (bR o).length x.cw), (168, iV ((bR o).length)), (169, iV k)]) (fun | ⟨k, q14, e14, n14, xs14, l14, q15, e15, n15, xs15, l15⟩ => ((52, b3) :: (51, b2) :: (50, b1) :: B)) (fun | ⟨k, q14, e14, n14, xs14, l14, q15, e15, n15, xs15, l15⟩ => (ky 52 53, .slice q15 n15 e15) :: (ky 52 52, .slice q14 n14 e14) :: (ky 52 51, .slice x.p13 (o.weekno).length x.c13) :: H) (fun | ⟨k, q14, e14, n14, xs14, l14, q15, e15, n15, xs15, l15⟩ => (15, ⟨.slice q15 n15 e15, 59, 2, n15, xs15⟩) :: (14, ⟨.slice q14 n14 e14, 3, 1, n14, xs14⟩) :: S) ⟨0, none, 0, 0, [], [], none, 0, 0, [], []⟩ ⟨Nat.zero_le _, rfl, rfl, rfl, rfl, rfl, rfl⟩ kns (fun w s => by exact ((s.aH4 14 3 1).aH4 15 59 2).low 53 ((by repeat (first | exact bs.lim | apply Lim.aHz _ dE dE | apply Lim.aH0 _ dE))) agx (by exact Agr.pick (bs.hc.get 53 _ rfl) (Agr.pick (bs.hc.get 52 _ rfl) (Agr.refl _))) agx) ?_
 rintro ⟨k, q14, e14, n14, xs14, l14, q15, e15, n15, xs15, l15⟩ ⟨hk, hl14, hn14, hx14, hl15, hn15, hx15⟩
 show GC _ _ _ _ [(1, pT b1), (2, pT b2), (3, pT b3), (167, .slice x.pw (bR o).length x.cw), (168, iV ((bR o).length)), (169, iV k)] _ _ (((52, b3) :: (51, b2) :: (50, b1) :: B)) ((ky 52 53, .slice q15 n15 e15) :: (ky 52 52, .slice q14 n14 e14) :: (ky 52 51, .slice x.p13 (o.weekno).length x.c13) :: H) ((15, ⟨.slice q15 n15 e15, 59, 2, n15, xs15⟩) :: (14, ⟨.slice q14 n14 e14, 3, 1, n14, xs14⟩) :: S)
 refine g6 ?_
 refine aE rfl (fun hc1 => ?_) (fun hc2 => ?_)
 ·have hlt : k < (bR o).length := by have := oT hc1; omega
  obtain ⟨y, hy⟩ : ∃ y, (bR o)[k]? = some y := ⟨_, List.getElem?_eq_getElem hlt⟩
  refine d7 (fun w s => ((sw.cons (j := 14) dE).cons (j := 15) dE).head s oM) fun hh => ?_
  obtain ⟨by_, oy_, hp_y⟩ := hh
  have src_y := sw
  rw [hp_y] at src_y
  have hn14b : n14 ≤ 1000 := by rw [hn14, hl14, List.length_map]; exact Nat.le_trans (List.length_filter_le _ _) (by rw [List.length_take]; omega)
  have hn15b : n15 ≤ 1000 := by rw [hn15, hl15]; exact Nat.le_trans (List.length_filter_le _ _) (by rw [List.length_take]; omega)
  refine g6 ?_
  refine rl (aN (e := 59) (n := 2) kR (congrArg (fun p => some (Value.slice p _ _)) hp_y) rfl oM oM) ?_
  refine rl (eN (cs := [iV y.1, iV y.2]) kR rfl (fun w s => ((src_y.cons dE).cons dE).cell hy s)) ?_
  refine gL (dZ 53 (cs := [iV 0, iV 0]) dE kR (bs.lim.b 53 dE) (fun o ho => by repeat (first | exact bs.lim.h 53 dE o ho | rw [aU dE ho dE])) ble (fun b1_ hbb1_ => ?_))
  refine gL (sta 53 rfl rfl rfl rfl ?_)
  refine g3 ?_
  rcases Decidable.em (y.2 = 0) with hz | hz
  ·refine g1 ?_
   refine rl (rfa 1) ?_
   refine rl (rld 53 rfl rfl rfl) ?_
   refine rl ((aV rfl rfl).to (v' := .bool true) (cB (beq_iff_eq.2 hz))) ?_
   refine g7 ?_
   have hpw : cI o.freq y = true := by unfold cI; rw [hz]; rfl
   refine aI rfl rfl ?_
   refine g1 ?_
   refine rl (rfa 52) ?_
   refine rl (rld 52 rfl rfl rfl) ?_
   refine rl (rfa 0) ?_
   refine rl (rld 53 rfl rfl rfl) ?_
   refine gL (lC 60 (e := 3) (sz := 1) (by_ := 8) (zs := [iV 0]) dE kR rfl dE dE rfl rfl rfl (bs.lim.s 60 dE) (fun bo => ?_))
   refine gL (cP 14 60 (e := 3) (sz := 1) (by_ := 8) (zs := [iV 0]) dE kR rfl dE rfl rfl rfl rfl ⟨rfl, rfl⟩ ⟨rfl, rfl⟩ (fV (xs := [y.1])) sO sO (fun p' c' => ?_))
   refine rl (rfa 52) ?_
   refine gL (sto 52 rfl rfl rfl rfl ?_)
   refine g7 ?_
   refine aT ⟨k + 1, p', c', n14 + 1, xs14 ++ [iV y.1], l14 ++ [y.1], q15, e15, n15, xs15, l15⟩ sO ⟨by omega, by rw [hl14, cX hy]; simp [hpw], by rw [List.length_append, hn14]; rfl, by rw [hx14]; simp, by rw [hl15, cX hy]; simp [hpw], hn15, hx15⟩ kns (fun w s => by exact s.low 53 ((by repeat (first | exact bs.lim | apply Lim.aHz _ dE dE | apply Lim.aH0 _ dE))) agx agx agx)
  ·refine g1 ?_
   refine rl (rfa 1) ?_
   refine rl (rld 53 rfl rfl rfl) ?_
   refine rl ((aV rfl rfl).to (v' := .bool false) (cB (beq_eq_false_iff_ne.2 hz))) ?_
   refine g2 ?_
   refine rl (rfa 38) ?_
   refine g1 ?_
   refine rl (bE 52 rfl rfl (bs.hc.get 38 _ rfl) kR dE) ?_
   refine g5 ?_
   refine aE rfl (fun hc1 => ?_) (fun hc2 => ?_)
   ·have hpw : cI o.freq y = true := by unfold cI; rw [show decide (1 < o.freq) = true from hc1]; simp
    refine g1 ?_
    refine rl (rfa 52) ?_
    refine rl (rld 52 rfl rfl rfl) ?_
    refine rl (rfa 0) ?_
    refine rl (rld 53 rfl rfl rfl) ?_
    refine gL (lC 60 (e := 3) (sz := 1) (by_ := 8) (zs := [iV 0]) dE kR rfl dE dE rfl rfl rfl (bs.lim.s 60 dE) (fun bo => ?_))
    refine gL (cP 14 60 (e := 3) (sz := 1) (by_ := 8) (zs := [iV 0]) dE kR rfl dE rfl rfl rfl rfl ⟨rfl, rfl⟩ ⟨rfl, rfl⟩ (fV (xs := [y.1])) sO sO (fun p' c' => ?_))
    refine rl (rfa 52) ?_
    refine gL (sto 52 rfl rfl rfl rfl ?_)
    refine g7 ?_
    refine aT ⟨k + 1, p', c', n14 + 1, xs14 ++ [iV y.1], l14 ++ [y.1], q15, e15, n15, xs15, l15⟩ sO ⟨by omega, by rw [hl14, cX hy]; simp [hpw], by rw [List.length_append, hn14]; rfl, by rw [hx14]; simp, by rw [hl15, cX hy]; simp [hpw], hn15, hx15⟩ kns (fun w s => by exact s.low 53 ((by repeat (first | exact bs.lim | apply Lim.aHz _ dE dE | apply Lim.aH0 _ dE))) agx agx agx)
   ·have hpw : cI o.freq y = false := by unfold cI; rw [show decide (1 < o.freq) = false from hc2, beq_eq_false_iff_ne.2 hz]; rfl
    refine g1 ?_
    refine rl (rfa 53) ?_
    refine rl (rld 52 rfl rfl rfl) ?_
    refine rl (aX 53 rfl rfl rfl rfl kR dE) ?_
    refine gL (lC 60 (e := 59) (sz := 2) (by_ := 16) (zs := [iV 0, iV 0]) dE kR rfl dE dE rfl rfl rfl (bs.lim.s 60 dE) (fun bo => ?_))
    refine gL (cP 15 60 (e := 59) (sz := 2) (by_ := 16) (zs := [iV 0, iV 0]) dE kR rfl dE rfl rfl rfl rfl ⟨rfl, rfl⟩ ⟨rfl, rfl⟩ vM sO sO (fun p' c' => ?_))
    refine rl (rfa 53) ?_
    refine gL (sto 52 rfl rfl rfl rfl ?_)
    refine g7 ?_
    refine aT ⟨k + 1, q14, e14, n14, xs14, l14, p', c', n15 + 1, xs15 ++ [iV y.1, iV y.2], l15 ++ [y]⟩ sO ⟨by omega, by rw [hl14, cX hy]; simp [hpw], hn14, hx14, by rw [hl15, cX hy]; simp [hpw], by rw [List.length_append, hn15]; rfl, by rw [hx15]; exact lD _ _⟩ kns (fun w s => by exact s.low 53 ((by repeat (first | exact bs.lim | apply Lim.aHz _ dE dE | apply Lim.aH0 _ dE))) agx agx agx)
 ·have hge : ¬ k < (bR o).length := by have := oF hc2; omega
  obtain rfl : k = (bR o).length := by omega
  rw [List.take_length] at hl14 hl15
  subst hl14 hl15 hn14 hn15 hx14 hx15
  refine g5 ?_
  refine dN (L' := [(1, pT b1), (2, pT b2), (3, pT b3)]) kns (fun w s => s) ?_
  refine bu_E (x := { x with q52 := q14, e52 := e14, q53 := q15, e53 := e15 }) ok hsort (H := (ky 52 53, .slice q15 ((bR o).filter fun y => !cI o.freq y).length e15) :: (ky 52 52, .slice q14 (((bR o).filter (cI o.freq)).map Prod.fst).length e14) :: (ky 52 51, .slice x.p13 (o.weekno).length x.c13) :: H) (S := (15, ⟨.slice q15 ((bR o).filter fun y => !cI o.freq y).length e15, 59, 2, ((bR o).filter fun y => !cI o.freq y).length, eE ((bR o).filter fun y => !cI o.freq y)⟩) :: (14, ⟨.slice q14 (((bR o).filter (cI o.freq)).map Prod.fst).length e14, 3, 1, (((bR o).filter (cI o.freq)).map Prod.fst).length, (((bR o).filter (cI o.freq)).map Prod.fst).map iV⟩) :: S) ⟨bs.ho, (cC (bs.hc.get 0 _ rfl) (cC (bs.hc.get 1 _ rfl) (cC (bs.hc.get 2 _ rfl) (cC (bs.hc.get 3 _ rfl) (cC (bs.hc.get 4 _ rfl) (cC (bs.hc.get 5 _ rfl) (cC (bs.hc.get 6 _ rfl) (cC (bs.hc.get 7 _ rfl) (cC (bs.hc.get 8 _ rfl) (cC (bs.hc.get 9 _ rfl) (cC (bs.hc.get 10 _ rfl) (cC (bs.hc.get 11 _ rfl) (cC (bs.hc.get 12 _ rfl) (cC (bs.hc.get 13 _ rfl) (cC (bs.hc.get 14 _ rfl) (cC (bs.hc.get 15 _ rfl) (cC (bs.hc.get 16 _ rfl) (cC (bs.hc.get 17 _ rfl) (cC (bs.hc.get 18 _ rfl) (cC (bs.hc.get 19 _ rfl) (cC (bs.hc.get 20 _ rfl) (cC (bs.hc.get 21 _ rfl) (cC (bs.hc.get 22 _ rfl) (cC (bs.hc.get 23 _ rfl) (cC (bs.hc.get 24 _ rfl) (cC (bs.hc.get 25 _ rfl) (cC (bs.hc.get 26 _ rfl) (cC (bs.hc.get 27 _ rfl) (cC (bs.hc.get 28 _ rfl) (cC (bs.hc.get 29 _ rfl) (cC (bs.hc.get 30 _ rfl) (cC (bs.hc.get 31 _ rfl) (cC (bs.hc.get 32 _ rfl) (cC (bs.hc.get 33 _ rfl) (cC (bs.hc.get 34 _ rfl) (cC (bs.hc.get 35 _ rfl) (cC (bs.hc.get 36 _ rfl) (cC (bs.hc.get 37 _ rfl) (cC (bs.hc.get 38 _ rfl) (cC (bs.hc.get 39 _ rfl) (cC (bs.hc.get 40 _ rfl) (cC (bs.hc.get 41 _ rfl) (cC (bs.hc.get 42 _ rfl) (cC (bs.hc.get 43 _ rfl) (cC (bs.hc.get 44 _ rfl) (cC (bs.hc.get 45 _ rfl) (cC (bs.hc.get 46 _ rfl) (cC (bs.hc.get 47 _ rfl) (cC (bs.hc.get 48 _ rfl) (cC (bs.hc.get 49 _ rfl) (cC (bs.hc.get 50 _ rfl) (cC rfl (cC rfl (cC rfl (cC (bs.hc.get 54 _ rfl) (cC (bs.hc.get 55 _ rfl) (cC (bs.hc.get 56 _ rfl) (cC (bs.hc.get 57 _ rfl) (cC (bs.hc.get 58 _ rfl) (cC (bs.hc.get 59 _ rfl) cN)))))))))))))))))))))))))))))))))))))))))))))))))))))))))))), (cD (by repeat (first | exact Knw.refl _ | apply Knw.cons)) bs.h2), (by repeat (first | exact bs.lim | apply Lim.aHz _ dE dE | apply Lim.aH0 _ dE)), bs.limB, (fun k_ h1_ o_ ho_ => Eq.trans (by repeat (first | rfl | rw [aU oM ho_ dE])) (bs.frH k_ h1_ o_ ho_)), (fun k_ h1_ h2_ => Eq.trans aH (bs.frS k_ h1_ h2_))⟩ ((s9.cons dE).cons dE) ((sm.cons dE).cons dE) ((s12.cons dE).cons dE) ((s13.cons dE).cons dE) ((s15.cons dE).cons dE) ((s16.cons dE).cons dE) ((s17.cons dE).cons dE) ((s18.cons dE).cons dE) r12 r13 rfl hR
theorem tI {R : Ending → World → Prop} {o : Opn} {x : Av} {b1 b2 b3 : Nat} {H0 : LV} {S0 : LS} (ok : OpOk o) (hsort : o.freq < 4 → jJ F w0 (raw o)) (bs : Bs F w0 B H0 S0 b1 b2 b3 (oc1 o x) (rcA o x) H S) (s9 : SrcT F w0 S 11 (.slice x.p9 (o.setpos).length x.c9) o.setpos) (sm : SrcT F w0 S 16 (.slice x.pm (bW o).length x.cm) (bW o)) (sd : SrcT F w0 S 17 (.slice x.pd (bK o).length x.cd) (bK o)) (s12 : SrcT F w0 S 11 (.slice x.p12 (o.yday).length x.c12) o.yday) (s13 : SrcT F w0 S 11 (.slice x.p13 (o.weekno).length x.c13) o.weekno) (sw : SrcU F w0 S 21 (.slice x.pw (bR o).length x.cw) (bR o)) (s15 : SrcT F w0 S 11 (.slice x.p15 (o.hour).length x.c15) o.hour) (s16 : SrcT F w0 S 11 (.slice x.p16 (o.minute).length x.c16) o.minute) (s17 : SrcT F w0 S 11 (.slice x.p17 (o.second).length x.c17) o.second) (s18 : SrcT F w0 S 11 (.slice x.p18 (o.easter).length x.c18) o.easter)  (hR : ∀ (x : Av) (S' : LS), OutF F w0 o x S0 S' → ∀ w, Sees F w0 B H0 S' w → R (.returned (.agg (iP o x).toArray)) w) : GC Tryz.prog (Go.Fr.part [1, 1, 1, 1, 1, 1, 1, 1, 1, 1, 1, 1, 1, 1, 1] (Go.Fr.bodyOf Tryz.f43)) (bodyPost Tryz.prog Tryz.f43 R) 300 [(1, pT b1), (2, pT b2), (3, pT b3)] F w0 ((52, b3) :: (51, b2) :: (50, b1) :: B) H S := by
 have ok_ := ok
 have hml : (bK o).length ≤ 1000 := by unfold bK; split; exact (by simp); exact ok.mday
 refine g2 ?_
 refine rl (rfa 10) ?_
 refine rl (bE 50 rfl rfl (bs.ho.get 10 _ rfl) kR dE) ?_
 refine rl (rfa 47) ?_
 refine gL (cM 52 rfl rfl rfl (bs.hc.get 47 _ rfl) kR rfl dE ?_)
 refine g4 ?_
 refine rl (rfa 12) ?_
 refine rl (bE 50 rfl rfl (bs.ho.get 12 _ rfl) kR dE) ?_
 refine rl (rfa 50) ?_
 refine gL (cM 52 rfl rfl rfl (bs.hc.get 50 _ rfl) kR rfl dE ?_)
 refine g4 ?_
 refine rl (rfa 18) ?_
 refine rl (bE 50 rfl rfl (bs.ho.get 18 _ rfl) kR dE) ?_
 refine rl (rfa 57) ?_
 refine gL (cM 52 rfl rfl rfl (bs.hc.get 57 _ rfl) kR rfl dE ?_)
 refine g5 ?_
 refine rl (rfa 11) ?_
 refine rl (bE 50 rfl rfl (bs.ho.get 11 _ rfl) kR dE) ?_
 refine g5 ?_
 refine bH (ι := (Nat) × (Option Addr) × (Nat) × (Nat) × (List Value) × (List Int) × (Option Addr) × (Nat) × (Nat) × (List Value) × (List Int)) (fun | ⟨k, q12, e12, n12, xs12, l12, q13, e13, n13, xs13, l13⟩ => (bK o).length - k) (fun | ⟨k, q12, e12, n12, xs12, l12, q13, e13, n13, xs13, l13⟩ => (k ≤ (bK o).length) ∧ (l12 = fX ((bK o).take k)) ∧ (n12 = l12.length) ∧ (xs12 = l12.map iV) ∧ (l13 = fW ((bK o).take k)) ∧ (n13 = l13.length) ∧ (xs13 = l13.map iV)) (fun | ⟨k, q12, e12, n12, xs12, l12, q13, e13, n13, xs13, l13⟩ => [(1, pT b1), (2, pT b2), (3, pT b3), (140, .slice x.pd (bK o).length x.cd), (141, iV ((bK o).length)), (142, iV k)]) (fun | ⟨k, q12, e12, n12, xs12, l12, q13, e13, n13, xs13, l13⟩ => ((52, b3) :: (51, b2) :: (50, b1) :: B)) (fun | ⟨k, q12, e12, n12, xs12, l12, q13, e13, n13, xs13, l13⟩ => (ky 52 49, .slice q13 n13 e13) :: (ky 52 48, .slice q12 n12 e12) :: (ky 52 57, .slice x.p18 (o.easter).length x.c18) :: (ky 52 50, .slice x.p12 (o.yday).length x.c12) :: (ky 52 47, .slice x.pm (bW o).length x.cm) :: H) (fun | ⟨k, q12, e12, n12, xs12, l12, q13, e13, n13, xs13, l13⟩ => (13, ⟨.slice q13 n13 e13, 3, 1, n13, xs13⟩) :: (12, ⟨.slice q12 n12 e12, 3, 1, n12, xs12⟩) :: S) ⟨0, none, 0, 0, [], [], none, 0, 0, [], []⟩ ⟨Nat.zero_le _, rfl, rfl, rfl, rfl, rfl, rfl⟩ kns (fun w s => by exact ((s.aH4 12 3 1).aH4 13 3 1).low 53 ((by repeat (first | exact bs.lim | apply Lim.aHz _ dE dE | apply Lim.aH0 _ dE))) agx (by exact Agr.pick (bs.hc.get 49 _ rfl) (Agr.pick (bs.hc.get 48 _ rfl) (Agr.refl _))) agx) ?_
 rintro ⟨k, q12, e12, n12, xs12, l12, q13, e13, n13, xs13, l13⟩ ⟨hk, hl12, hn12, hx12, hl13, hn13, hx13⟩
 show GC _ _ _ _ [(1, pT b1), (2, pT b2), (3, pT b3), (140, .slice x.pd (bK o).length x.cd), (141, iV ((bK o).length)), (142, iV k)] _ _ (((52, b3) :: (51, b2) :: (50, b1) :: B)) ((ky 52 49, .slice q13 n13 e13) :: (ky 52 48, .slice q12 n12 e12) :: (ky 52 57, .slice x.p18 (o.easter).length x.c18) :: (ky 52 50, .slice x.p12 (o.yday).length x.c12) :: (ky 52 47, .slice x.pm (bW o).length x.cm) :: H) ((13, ⟨.slice q13 n13 e13, 3, 1, n13, xs13⟩) :: (12, ⟨.slice q12 n12 e12, 3, 1, n12, xs12⟩) :: S)
 refine g6 ?_
 refine aE rfl (fun hc1 => ?_) (fun hc2 => ?_)
 ·have hlt : k < (bK o).length := by have := oT hc1; omega
  obtain ⟨y, hy⟩ : ∃ y, (bK o)[k]? = some y := ⟨_, List.getElem?_eq_getElem hlt⟩
  refine d7 (fun w s => ((sd.cons (j := 12) dE).cons (j := 13) dE).head s oM) fun hh => ?_
  obtain ⟨by_, oy_, hp_y⟩ := hh
  have src_y := sd
  rw [hp_y] at src_y
  have hn12b : n12 ≤ 1000 := by rw [hn12, hl12]; unfold fX; exact Nat.le_trans (List.length_filter_le _ _) (by rw [List.length_take]; omega)
  have hn13b : n13 ≤ 1000 := by rw [hn13, hl13]; unfold fW; exact Nat.le_trans (List.length_filter_le _ _) (by rw [List.length_take]; omega)
  refine g6 ?_
  refine rl (aN (e := 3) (n := 1) kR (congrArg (fun p => some (Value.slice p _ _)) hp_y) rfl oM oM) ?_
  refine rl (fJ kR rfl (fun w s => ((src_y.cons dE).cons dE).cell hy s)) ?_
  refine g9 ?_
  refine aE rfl (fun hc1 => ?_) (fun hc2 => ?_)
  ·have hp1 : decide (0 < y) = true := hc1
   have hp2 : decide (y < 0) = false := by have := oT hc1; exact decide_eq_false oM
   refine g1 ?_
   refine rl (rfa 48) ?_
   refine rl (rld 52 rfl rfl rfl) ?_
   refine g1 ?_
   refine gL (lC 60 (e := 3) (sz := 1) (by_ := 8) (zs := [iV 0]) dE kR rfl dE dE rfl rfl rfl (bs.lim.s 60 dE) (fun bo => ?_))
   refine gL (cP 12 60 (e := 3) (sz := 1) (by_ := 8) (zs := [iV 0]) dE kR rfl dE rfl rfl rfl rfl ⟨rfl, rfl⟩ ⟨rfl, rfl⟩ (fV (xs := [y])) sO sO (fun p' c' => ?_))
   refine rl (rfa 48) ?_
   refine gL (sto 52 rfl rfl rfl rfl ?_)
   refine g7 ?_
   refine aT ⟨k + 1, p', c', n12 + 1, xs12 ++ [iV y], l12 ++ [y], q13, e13, n13, xs13, l13⟩ sO ⟨by omega, by rw [hl12]; unfold fX; rw [cX hy]; simp [hp1], by rw [List.length_append, hn12]; rfl, by rw [hx12]; simp, by rw [hl13]; unfold fW; rw [cX hy]; simp [hp2], hn13, hx13⟩ kns (fun w s => by exact s.low 53 ((by repeat (first | exact bs.lim | apply Lim.aHz _ dE dE | apply Lim.aH0 _ dE))) agx agx agx)
  ·have hp1 : decide (0 < y) = false := hc2
   refine g6 ?_
   refine aE rfl (fun hc1 => ?_) (fun hc2 => ?_)
   ·have hp2 : decide (y < 0) = true := hc1
    refine g1 ?_
    refine rl (rfa 49) ?_
    refine rl (rld 52 rfl rfl rfl) ?_
    refine g1 ?_
    refine gL (lC 60 (e := 3) (sz := 1) (by_ := 8) (zs := [iV 0]) dE kR rfl dE dE rfl rfl rfl (bs.lim.s 60 dE) (fun bo => ?_))
    refine gL (cP 13 60 (e := 3) (sz := 1) (by_ := 8) (zs := [iV 0]) dE kR rfl dE rfl rfl rfl rfl ⟨rfl, rfl⟩ ⟨rfl, rfl⟩ (fV (xs := [y])) sO sO (fun p' c' => ?_))
    refine rl (rfa 49) ?_
    refine gL (sto 52 rfl rfl rfl rfl ?_)
    refine g7 ?_
    refine aT ⟨k + 1, q12, e12, n12, xs12, l12, p', c', n13 + 1, xs13 ++ [iV y], l13 ++ [y]⟩ sO ⟨by omega, by rw [hl12]; unfold fX; rw [cX hy]; simp [hp1], hn12, hx12, by rw [hl13]; unfold fW; rw [cX hy]; simp [hp2], by rw [List.length_append, hn13]; rfl, by rw [hx13]; simp⟩ kns (fun w s => by exact s.low 53 ((by repeat (first | exact bs.lim | apply Lim.aHz _ dE dE | apply Lim.aH0 _ dE))) agx agx agx)
   ·have hp2 : decide (y < 0) = false := hc2
    refine g7 ?_
    refine aT ⟨k + 1, q12, e12, n12, xs12, l12, q13, e13, n13, xs13, l13⟩ sO ⟨by omega, by rw [hl12]; unfold fX; rw [cX hy]; simp [hp1], hn12, hx12, by rw [hl13]; unfold fW; rw [cX hy]; simp [hp2], hn13, hx13⟩ kns (fun w s => by exact s.low 53 ((by repeat (first | exact bs.lim | apply Lim.aHz _ dE dE | apply Lim.aH0 _ dE))) agx agx agx)
 ·have hge : ¬ k < (bK o).length := by have := oF hc2; omega
  obtain rfl : k = (bK o).length := by omega
  rw [List.take_length] at hl12 hl13
  subst hl12 hl13 hn12 hn13 hx12 hx13
  refine g5 ?_
  refine dN (L' := [(1, pT b1), (2, pT b2), (3, pT b3)]) kns (fun w s => s) ?_
  refine bu_D (x := { x with q48 := q12, e48 := e12, q49 := q13, e49 := e13 }) ok hsort (H := (ky 52 49, .slice q13 (fW (bK o)).length e13) :: (ky 52 48, .slice q12 (fX (bK o)).length e12) :: (ky 52 57, .slice x.p18 (o.easter).length x.c18) :: (ky 52 50, .slice x.p12 (o.yday).length x.c12) :: (ky 52 47, .slice x.pm (bW o).length x.cm) :: H) (S := (13, ⟨.slice q13 (fW (bK o)).length e13, 3, 1, (fW (bK o)).length, (fW (bK o)).map iV⟩) :: (12, ⟨.slice q12 (fX (bK o)).length e12, 3, 1, (fX (bK o)).length, (fX (bK o)).map iV⟩) :: S) ⟨bs.ho, (cC (bs.hc.get 0 _ rfl) (cC (bs.hc.get 1 _ rfl) (cC (bs.hc.get 2 _ rfl) (cC (bs.hc.get 3 _ rfl) (cC (bs.hc.get 4 _ rfl) (cC (bs.hc.get 5 _ rfl) (cC (bs.hc.get 6 _ rfl) (cC (bs.hc.get 7 _ rfl) (cC (bs.hc.get 8 _ rfl) (cC (bs.hc.get 9 _ rfl) (cC (bs.hc.get 10 _ rfl) (cC (bs.hc.get 11 _ rfl) (cC (bs.hc.get 12 _ rfl) (cC (bs.hc.get 13 _ rfl) (cC (bs.hc.get 14 _ rfl) (cC (bs.hc.get 15 _ rfl) (cC (bs.hc.get 16 _ rfl) (cC (bs.hc.get 17 _ rfl) (cC (bs.hc.get 18 _ rfl) (cC (bs.hc.get 19 _ rfl) (cC (bs.hc.get 20 _ rfl) (cC (bs.hc.get 21 _ rfl) (cC (bs.hc.get 22 _ rfl) (cC (bs.hc.get 23 _ rfl) (cC (bs.hc.get 24 _ rfl) (cC (bs.hc.get 25 _ rfl) (cC (bs.hc.get 26 _ rfl) (cC (bs.hc.get 27 _ rfl) (cC (bs.hc.get 28 _ rfl) (cC (bs.hc.get 29 _ rfl) (cC (bs.hc.get 30 _ rfl) (cC (bs.hc.get 31 _ rfl) (cC (bs.hc.get 32 _ rfl) (cC (bs.hc.get 33 _ rfl) (cC (bs.hc.get 34 _ rfl) (cC (bs.hc.get 35 _ rfl) (cC (bs.hc.get 36 _ rfl) (cC (bs.hc.get 37 _ rfl) (cC (bs.hc.get 38 _ rfl) (cC (bs.hc.get 39 _ rfl) (cC (bs.hc.get 40 _ rfl) (cC (bs.hc.get 41 _ rfl) (cC (bs.hc.get 42 _ rfl) (cC (bs.hc.get 43 _ rfl) (cC (bs.hc.get 44 _ rfl) (cC (bs.hc.get 45 _ rfl) (cC (bs.hc.get 46 _ rfl) (cC rfl (cC rfl (cC rfl (cC rfl (cC (bs.hc.get 51 _ rfl) (cC (bs.hc.get 52 _ rfl) (cC (bs.hc.get 53 _ rfl) (cC (bs.hc.get 54 _ rfl) (cC (bs.hc.get 55 _ rfl) (cC (bs.hc.get 56 _ rfl) (cC rfl (cC (bs.hc.get 58 _ rfl) (cC (bs.hc.get 59 _ rfl) cN)))))))))))))))))))))))))))))))))))))))))))))))))))))))))))), (cD (by repeat (first | exact Knw.refl _ | apply Knw.cons)) bs.h2), (by repeat (first | exact bs.lim | apply Lim.aHz _ dE dE | apply Lim.aH0 _ dE)), bs.limB, (fun k_ h1_ o_ ho_ => Eq.trans (by repeat (first | rfl | rw [aU oM ho_ dE])) (bs.frH k_ h1_ o_ ho_)), (fun k_ h1_ h2_ => Eq.trans aH (bs.frS k_ h1_ h2_))⟩ ((s9.cons dE).cons dE) ((sm.cons dE).cons dE) ((s12.cons dE).cons dE) ((s13.cons dE).cons dE) ((sw.cons dE).cons dE) ((s15.cons dE).cons dE) ((s16.cons dE).cons dE) ((s17.cons dE).cons dE) ((s18.cons dE).cons dE) rfl rfl hR
end
end Go.Proofs.YtdbbifbmkfmbkaaGreat
