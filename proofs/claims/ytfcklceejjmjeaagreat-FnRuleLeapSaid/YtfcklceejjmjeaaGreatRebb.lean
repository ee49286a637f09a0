/-
  A new year of the iterator, its tables in new blocks.
-/
import Derived.Test.YtfcklceejjmjeaaGreatProg
import Derived.Test.YtfcklceejjmjeaaGreatMd
import Derived.Test.YtfcklceejjmjeaaGreatFg
import Derived.Test.YtfcklceejjmjeaaGreatReb
set_option linter.unusedVariables false
set_option linter.unusedSimpArgs false
set_option maxRecDepth 100000
set_option maxHeartbeats 8000000
namespace Go.Proofs.YtfcklceejjmjeaaGreat
open Go.RowKit Go.Fr Go.Tab
section
variable {F : Nat → Prop} {w0 : World} {B : List (Nat × Nat)} {H : List (Nat × Value)} {S : List (Nat × Slc)}

theorem new_year {it rb : Nat} (hB : lkp 0 B = some it) (hR : lkp 1 B = some rb) (h7 : lkp (ky 0 7) H = some (.pointer (some ⟨rb, 0, none⟩))) {ly lm : Int} (h8 : lkp (ky 0 8) H = some (.int .i64 ly)) (h9 : lkp (ky 0 9) H = some (.int .i64 lm))
    {p51 p53 p57 : Option Addr} {c51 c53 c57 : Nat} (r51 : lkp (ky 1 51) H = some (.slice p51 0 c51)) (r53 : lkp (ky 1 53) H = some (.slice p53 0 c53)) (r57 : lkp (ky 1 57) H = some (.slice p57 0 c57)) {y m : Int} {d0 d1 : Int} (r39 : lkp (ky 1 39) H = some (.int .i64 d0)) (r40 : lkp (ky 1 40) H = some (.int .i64 d1)) {v10 : Value} (h10 : lkp (ky 0 10) H = some v10) {v11 : Value} (h11 : lkp (ky 0 11) H = some v11) {v12 : Value} (h12 : lkp (ky 0 12) H = some v12) {v13 : Value} (h13 : lkp (ky 0 13) H = some v13) {v14 : Value} (h14 : lkp (ky 0 14) H = some v14) {v15 : Value} (h15 : lkp (ky 0 15) H = some v15) {v16 : Value} (h16 : lkp (ky 0 16) H = some v16) {v17 : Value} (h17 : lkp (ky 0 17) H = some v17) {v18 : Value} (h18 : lkp (ky 0 18) H = some v18) {v19 : Value} (h19 : lkp (ky 0 19) H = some v19) {v20 : Value} (h20 : lkp (ky 0 20) H = some v20) (hy : y ≠ ly) (hy1 : 1 ≤ y ∧ y ≤ 10000) : ∀ w, Sees F w0 B H S w → Calls Go.Proofs.Tryz.prog 24 #[.pointer (some ⟨it, 7, none⟩), .int .i64 y, .int .i64 m] w fun e w' => NewYear e F w0 B H S y m w' := by
  cases hl : Cal.leapB y with
  | true => exact rebuild_366 hB hR h7 h8 h9 r51 r53 r57 r39 r40 h10 h11 h12 h13 h14 h15 h16 h17 h18 h19 h20 hy hy1 hl
  | false => exact rebuild_365 hB hR h7 h8 h9 r51 r53 r57 r39 r40 h10 h11 h12 h13 h14 h15 h16 h17 h18 h19 h20 hy hy1 hl
theorem nY_pos (y : Int) : 0 < nY y := by unfold nY; split <;> decide
theorem at_call_new {Q : Exit → Act → World → Prop} {K : Act → World → Prop} {N d : Nat} {L : Fr.Loc} {ty : TypeId} {pos : String} {aft : Array Edge} {yv mv : Int} {f : FuncId} {asl : List Operand} {ats : Array TypeId} {args : List Value} (hd : d < N) (hf : enterB Go.Proofs.Tryz.prog f = true) (ha : Fr.evs L asl = some args)
    (hc : ∀ w, Sees F w0 B H S w → Calls Go.Proofs.Tryz.prog f args.toArray w fun e w' => NewYear e F w0 B H S yv mv w')
    (hn : ∀ b6 c6 b3 c3 b4 c4 b5 c5 b7 c7 : Nat, 385 ≤ c6 → GK K N ((d, .tuple #[]) :: L) F w0 B ((ky 0 9, .int .i64 mv) :: (ky 0 8, .int .i64 yv) :: (ky 0 20, .slice none 0 0) :: (ky 0 16, .slice (some ⟨b7, 0, none⟩) 13 c7) :: (ky 0 18, .slice (some ⟨b5, 0, none⟩) (nY yv) c5) :: (ky 0 17, .slice (some ⟨b4, 0, none⟩) (nY yv) c4) :: (ky 0 15, .slice (some ⟨b3, 0, none⟩) (nY yv) c3) ::
      (ky 0 19, .slice (some ⟨b6, 0 + (ywd yv).toNat * 1, none⟩) (385 - (ywd yv).toNat) (c6 - (ywd yv).toNat)) :: (ky 0 14, .int .i64 (ywd yv)) :: (ky 0 13, .int .i64 0) :: (ky 0 12, .int .i64 (Cal.daysTo yv * 86400)) ::
      (ky 0 11, .int .i64 (365 + Cal.lp (yv + 1))) :: (ky 0 10, .int .i64 (365 + Cal.lp yv)) :: H) ((7, ⟨.slice (some ⟨b7, 0, none⟩) 13 c7, 3, 1, 13, (rgY yv).map (Value.int .i64)⟩) :: (5, ⟨.slice (some ⟨b5, 0, none⟩) (nY yv) c5, 3, 1, nY yv, (nmdY yv).map (Value.int .i64)⟩) :: (4, ⟨.slice (some ⟨b4, 0, none⟩) (nY yv) c4, 3, 1, nY yv, (mdY yv).map (Value.int .i64)⟩) :: (3, ⟨.slice (some ⟨b3, 0, none⟩) (nY yv) c3, 3, 1, nY yv, (mmY yv).map (Value.int .i64)⟩) ::
      (6, ⟨.slice (some ⟨b6, 0, none⟩) 385 c6, 3, 1, 385, (wd 55).map (Value.int .i64)⟩) :: S)) : GO Go.Proofs.Tryz.prog ⟨some d, .call ⟨.value (.func f), asl.toArray, ats⟩, ty, pos, aft, none⟩ Q K N L F w0 B H S := fun a w k s => by
  show Oper.upon _ _ _ _ _ _
  rw [run_call k hf ha]
  refine (hc w s).mono ?_
  rintro e w' ⟨b6, c6, p3, c3, p4, c4, p5, c5, p7, c7, h385, rfl, s'⟩
  obtain ⟨b3, rfl, _⟩ := s'.head 3 rfl (nY_pos yv)
  obtain ⟨b4, rfl, _⟩ := s'.head 4 rfl (nY_pos yv)
  obtain ⟨b5, rfl, _⟩ := s'.head 5 rfl (nY_pos yv)
  obtain ⟨b7, rfl, _⟩ := s'.head 7 rfl (by decide)
  exact hn b6 c6 b3 c3 b4 c4 b5 c5 b7 c7 h385 _ _ (k.put hd _) s'
end
end Go.Proofs.YtfcklceejjmjeaaGreat
