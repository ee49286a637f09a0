/-
  Whether a day is left out: the long test of generate.
-/
import Derived.Test.YtfcklceejjmjeaaGreatProg
import Derived.Test.YtfcklceejjmjeaaGreatMd
import Derived.Test.YtfcklceejjmjeaaGreatFg
import Derived.Test.YtfcklceejjmjeaaGreatCalc
set_option linter.unusedVariables false
set_option linter.unusedSimpArgs false
set_option maxRecDepth 100000
set_option maxHeartbeats 8000000
namespace Go.Proofs.YtfcklceejjmjeaaGreat
open Go.RowKit Go.Fr Go.Tab
section
variable {F : Nat → Prop} {w0 : World} {B : List (Nat × Nat)} {H : List (Nat × Value)} {S : List (Nat × Slc)}

open Go.Md
theorem len_mm (y : Int) : (mmY y).length = nY y := by unfold mmY nY; split <;> rfl
theorem len_md (y : Int) : (mdY y).length = nY y := by unfold mdY nY; split <;> rfl
theorem len_nmd (y : Int) : (nmdY y).length = nY y := by unfold nmdY nY; split <;> rfl
theorem tab_cell {xs : List Int} {i : Int} {n : Nat} (hn : xs.length = n) (h0 : 0 ≤ i) (h : i < n) : (xs.map (Value.int .i64))[0 + i.toNat * 1]? = some (.int .i64 (xs.getD i.toNat 0)) := by
  have hl : i.toNat < xs.length := by omega
  rw [Nat.zero_add, Nat.mul_one, List.getElem?_map, List.getD_eq_getElem?_getD, List.getElem?_eq_getElem hl]
  rfl
theorem nY_lp (y : Int) : (nY y : Int) = 372 + Cal.lp y := by unfold nY Cal.lp; split <;> rfl
noncomputable def ops11 : Array Oper := opsAt (Go.Fr.part [1, 1, 0, 0, 1, 0, 1, 1, 1, 1, 0, 1, 0, 0, 1, 1, 0, 0, 1, 1, 0] (Go.Fr.bodyOf Tryz.f60))
theorem ft_1 {it rb : Nat} (hB : lkp 0 B = some it) (hR : lkp 1 B = some rb) {p47 : Option Addr} {c47 : Nat} {month : List Int} (r47 : lkp (ky 1 47) H = some (.slice p47 month.length c47)) (hl47 : month.length ≤ 1000000000) (hI47 : ∀ w, Sees F w0 B H S w → Ints w (.slice p47 month.length c47) month) {p48 : Option Addr} {c48 : Nat} {mday : List Int} (r48 : lkp (ky 1 48) H = some (.slice p48 mday.length c48)) (hl48 : mday.length ≤ 1000000000) (hI48 : ∀ w, Sees F w0 B H S w → Ints w (.slice p48 mday.length c48) mday) {p49 : Option Addr} {c49 : Nat} {nmday : List Int} (r49 : lkp (ky 1 49) H = some (.slice p49 nmday.length c49)) (hl49 : nmday.length ≤ 1000000000) (hI49 : ∀ w, Sees F w0 B H S w → Ints w (.slice p49 nmday.length c49) nmday) {p50 : Option Addr} {c50 : Nat} {yday : List Int} (r50 : lkp (ky 1 50) H = some (.slice p50 yday.length c50)) (hl50 : yday.length ≤ 1000000000) (hI50 : ∀ w, Sees F w0 B H S w → Ints w (.slice p50 yday.length c50) yday) {p52 : Option Addr} {c52 : Nat} {wday : List Int} (r52 : lkp (ky 1 52) H = some (.slice p52 wday.length c52)) (hl52 : wday.length ≤ 1000000000) (hI52 : ∀ w, Sees F w0 B H S w → Ints w (.slice p52 wday.length c52) wday) {p51 p57 : Option Addr} {c51 c57 : Nat} {weekno easter : List Int} (r51 : lkp (ky 1 51) H = some (.slice p51 weekno.length c51)) (r57 : lkp (ky 1 57) H = some (.slice p57 easter.length c57)) {p20 : Option Addr} {c20 : Nat} {wno : List Int} (h20 : lkp (ky 0 20) H = some (.slice p20 wno.length c20)) (hp20 : 0 < wno.length → ∃ b, p20 = some ⟨b, 0, none⟩) (hS8 : 0 < wno.length → lkp 8 S = some ⟨.slice p20 wno.length c20, 3, 1, wno.length, wno.map (Value.int .i64)⟩) {p21 : Option Addr} {c21 : Nat} {nwm : List Int} (h21 : lkp (ky 0 21) H = some (.slice p21 nwm.length c21)) (hp21 : 0 < nwm.length → ∃ b, p21 = some ⟨b, 0, none⟩) (hS9 : 0 < nwm.length → lkp 9 S = some ⟨.slice p21 nwm.length c21, 3, 1, nwm.length, nwm.map (Value.int .i64)⟩) {p22 : Option Addr} {c22 : Nat} {eas : List Int} (h22 : lkp (ky 0 22) H = some (.slice p22 eas.length c22)) (hp22 : 0 < eas.length → ∃ b, p22 = some ⟨b, 0, none⟩) (hS10 : 0 < eas.length → lkp 10 S = some ⟨.slice p22 eas.length c22, 3, 1, eas.length, eas.map (Value.int .i64)⟩) {y : Int}
    (h10 : lkp (ky 0 10) H = some (.int .i64 (365 + Cal.lp y))) (h11 : lkp (ky 0 11) H = some (.int .i64 (365 + Cal.lp (y + 1)))) {b3 b4 b5 b6 c3 c4 c5 c6 : Nat} (h15 : lkp (ky 0 15) H = some (.slice (some ⟨b3, 0, none⟩) (nY y) c3)) (h17 : lkp (ky 0 17) H = some (.slice (some ⟨b4, 0, none⟩) (nY y) c4))
    (h18 : lkp (ky 0 18) H = some (.slice (some ⟨b5, 0, none⟩) (nY y) c5)) (h19 : lkp (ky 0 19) H = some (.slice (some ⟨b6, 0 + (ywd y).toNat * 1, none⟩) (385 - (ywd y).toNat) (c6 - (ywd y).toNat)))
    (hS3 : lkp 3 S = some ⟨.slice (some ⟨b3, 0, none⟩) (nY y) c3, 3, 1, nY y, (mmY y).map (Value.int .i64)⟩) (hS4 : lkp 4 S = some ⟨.slice (some ⟨b4, 0, none⟩) (nY y) c4, 3, 1, nY y, (mdY y).map (Value.int .i64)⟩) (hS5 : lkp 5 S = some ⟨.slice (some ⟨b5, 0, none⟩) (nY y) c5, 3, 1, nY y, (nmdY y).map (Value.int .i64)⟩)
    (hS6 : lkp 6 S = some ⟨.slice (some ⟨b6, 0, none⟩) 385 c6, 3, 1, 385, (wd 55).map (Value.int .i64)⟩) {v5 v6 v7 v98 v99 v100 : Value} {i : Int} (hi : 0 ≤ i ∧ i < nY y) (hwn : weekno.length ≠ 0 → i < wno.length) (hnw : nwm.length ≠ 0 → i < nwm.length) (hea : easter.length ≠ 0 → i < eas.length) (fA : Bool) (hfA : fA = badA month y i) (hz : month.length = 0) : GM Go.Proofs.Tryz.prog ops11 (Kn 1418 [(0, .pointer (some ⟨it, 0, none⟩)), (2, .pointer (some ⟨rb, 0, none⟩)), (5, v5), (6, v6), (7, v7), (9, .int .i64 i), (98, v98), (99, v99), (100, v100), (129, .bool fA)]) (List.take 23 (List.drop 0 ops11.toList)) 1418 [(0, .pointer (some ⟨it, 0, none⟩)), (2, .pointer (some ⟨rb, 0, none⟩)), (5, v5), (6, v6), (7, v7), (9, .int .i64 i), (98, v98), (99, v99), (100, v100)] F w0 B H S := by
  have hlp := Cal.lp_01 y
  have hlp2 := Cal.lp_01 (y + 1)
  have hny := nY_lp y
  have hyw : 0 ≤ ywd y ∧ ywd y ≤ 6 := by unfold ywd; omega
  refine GM_rd (by decide) (rd_move rfl) ?_
  refine GM_rd (by decide) (rd_nilCheck rfl) ?_
  refine GM_rd (by decide) (rd_fieldAddr (j := 47) (by kernel_rfl) rfl) ?_
  refine GM_rd (by decide) (rd_load 1 rfl hR r47 (by kernel_rfl) (by decide)) ?_
  refine GM_rd (by decide) (rd_len (by kernel_rfl) rfl) ?_
  refine GM_rd (by decide) ((rd_neq rfl rfl).to (congrArg Value.bool (n_eq (by omega)))) ?_
  refine GM_rd (by decide) (rd_move rfl) ?_
  refine GM_pass (by decide) rfl rfl (by decide) ?_
  refine GM_pass (by decide) rfl rfl (by decide) ?_
  refine GM_pass (by decide) rfl rfl (by decide) ?_
  refine GM_pass (by decide) rfl rfl (by decide) ?_
  refine GM_pass (by decide) rfl rfl (by decide) ?_
  refine GM_pass (by decide) rfl rfl (by decide) ?_
  refine GM_pass (by decide) rfl rfl (by decide) ?_
  refine GM_pass (by decide) rfl rfl (by decide) ?_
  refine GM_pass (by decide) rfl rfl (by decide) ?_
  refine GM_pass (by decide) rfl rfl (by decide) ?_
  refine GM_pass (by decide) rfl rfl (by decide) ?_
  refine GM_pass (by decide) rfl rfl (by decide) ?_
  refine GM_pass (by decide) rfl rfl (by decide) ?_
  refine GM_pass (by decide) rfl rfl (by decide) ?_
  refine GM_rd (by decide) ((rd_pick rfl rfl rfl).to (v' := .bool fA) (by rw [hfA]; simp [badA, hz])) ?_
  refine GM_rd (by decide) (rd_move rfl) ?_
  exact GM_nil (fun a k => k.cons rfl (k.cons rfl (k.cons rfl (k.cons rfl (k.cons rfl (k.cons rfl (k.cons rfl (k.cons rfl (k.cons rfl (k.cons rfl (k.nil)))))))))))
theorem ft_2 {it rb : Nat} (hB : lkp 0 B = some it) (hR : lkp 1 B = some rb) {p47 : Option Addr} {c47 : Nat} {month : List Int} (r47 : lkp (ky 1 47) H = some (.slice p47 month.length c47)) (hl47 : month.length ≤ 1000000000) (hI47 : ∀ w, Sees F w0 B H S w → Ints w (.slice p47 month.length c47) month) {p48 : Option Addr} {c48 : Nat} {mday : List Int} (r48 : lkp (ky 1 48) H = some (.slice p48 mday.length c48)) (hl48 : mday.length ≤ 1000000000) (hI48 : ∀ w, Sees F w0 B H S w → Ints w (.slice p48 mday.length c48) mday) {p49 : Option Addr} {c49 : Nat} {nmday : List Int} (r49 : lkp (ky 1 49) H = some (.slice p49 nmday.length c49)) (hl49 : nmday.length ≤ 1000000000) (hI49 : ∀ w, Sees F w0 B H S w → Ints w (.slice p49 nmday.length c49) nmday) {p50 : Option Addr} {c50 : Nat} {yday : List Int} (r50 : lkp (ky 1 50) H = some (.slice p50 yday.length c50)) (hl50 : yday.length ≤ 1000000000) (hI50 : ∀ w, Sees F w0 B H S w → Ints w (.slice p50 yday.length c50) yday) {p52 : Option Addr} {c52 : Nat} {wday : List Int} (r52 : lkp (ky 1 52) H = some (.slice p52 wday.length c52)) (hl52 : wday.length ≤ 1000000000) (hI52 : ∀ w, Sees F w0 B H S w → Ints w (.slice p52 wday.length c52) wday) {p51 p57 : Option Addr} {c51 c57 : Nat} {weekno easter : List Int} (r51 : lkp (ky 1 51) H = some (.slice p51 weekno.length c51)) (r57 : lkp (ky 1 57) H = some (.slice p57 easter.length c57)) {p20 : Option Addr} {c20 : Nat} {wno : List Int} (h20 : lkp (ky 0 20) H = some (.slice p20 wno.length c20)) (hp20 : 0 < wno.length → ∃ b, p20 = some ⟨b, 0, none⟩) (hS8 : 0 < wno.length → lkp 8 S = some ⟨.slice p20 wno.length c20, 3, 1, wno.length, wno.map (Value.int .i64)⟩) {p21 : Option Addr} {c21 : Nat} {nwm : List Int} (h21 : lkp (ky 0 21) H = some (.slice p21 nwm.length c21)) (hp21 : 0 < nwm.length → ∃ b, p21 = some ⟨b, 0, none⟩) (hS9 : 0 < nwm.length → lkp 9 S = some ⟨.slice p21 nwm.length c21, 3, 1, nwm.length, nwm.map (Value.int .i64)⟩) {p22 : Option Addr} {c22 : Nat} {eas : List Int} (h22 : lkp (ky 0 22) H = some (.slice p22 eas.length c22)) (hp22 : 0 < eas.length → ∃ b, p22 = some ⟨b, 0, none⟩) (hS10 : 0 < eas.length → lkp 10 S = some ⟨.slice p22 eas.length c22, 3, 1, eas.length, eas.map (Value.int .i64)⟩) {y : Int}
    (h10 : lkp (ky 0 10) H = some (.int .i64 (365 + Cal.lp y))) (h11 : lkp (ky 0 11) H = some (.int .i64 (365 + Cal.lp (y + 1)))) {b3 b4 b5 b6 c3 c4 c5 c6 : Nat} (h15 : lkp (ky 0 15) H = some (.slice (some ⟨b3, 0, none⟩) (nY y) c3)) (h17 : lkp (ky 0 17) H = some (.slice (some ⟨b4, 0, none⟩) (nY y) c4))
    (h18 : lkp (ky 0 18) H = some (.slice (some ⟨b5, 0, none⟩) (nY y) c5)) (h19 : lkp (ky 0 19) H = some (.slice (some ⟨b6, 0 + (ywd y).toNat * 1, none⟩) (385 - (ywd y).toNat) (c6 - (ywd y).toNat)))
    (hS3 : lkp 3 S = some ⟨.slice (some ⟨b3, 0, none⟩) (nY y) c3, 3, 1, nY y, (mmY y).map (Value.int .i64)⟩) (hS4 : lkp 4 S = some ⟨.slice (some ⟨b4, 0, none⟩) (nY y) c4, 3, 1, nY y, (mdY y).map (Value.int .i64)⟩) (hS5 : lkp 5 S = some ⟨.slice (some ⟨b5, 0, none⟩) (nY y) c5, 3, 1, nY y, (nmdY y).map (Value.int .i64)⟩)
    (hS6 : lkp 6 S = some ⟨.slice (some ⟨b6, 0, none⟩) 385 c6, 3, 1, 385, (wd 55).map (Value.int .i64)⟩) {v5 v6 v7 v98 v99 v100 : Value} {i : Int} (hi : 0 ≤ i ∧ i < nY y) (hwn : weekno.length ≠ 0 → i < wno.length) (hnw : nwm.length ≠ 0 → i < nwm.length) (hea : easter.length ≠ 0 → i < eas.length) (fA : Bool) (hfA : fA = badA month y i) (hz : ¬ month.length = 0) : GM Go.Proofs.Tryz.prog ops11 (Kn 1418 [(0, .pointer (some ⟨it, 0, none⟩)), (2, .pointer (some ⟨rb, 0, none⟩)), (5, v5), (6, v6), (7, v7), (9, .int .i64 i), (98, v98), (99, v99), (100, v100), (129, .bool fA)]) (List.take 23 (List.drop 0 ops11.toList)) 1418 [(0, .pointer (some ⟨it, 0, none⟩)), (2, .pointer (some ⟨rb, 0, none⟩)), (5, v5), (6, v6), (7, v7), (9, .int .i64 i), (98, v98), (99, v99), (100, v100)] F w0 B H S := by
  have hlp := Cal.lp_01 y
  have hlp2 := Cal.lp_01 (y + 1)
  have hny := nY_lp y
  have hyw : 0 ≤ ywd y ∧ ywd y ≤ 6 := by unfold ywd; omega
  refine GM_rd (by decide) (rd_move rfl) ?_
  refine GM_rd (by decide) (rd_nilCheck rfl) ?_
  refine GM_rd (by decide) (rd_fieldAddr (j := 47) (by kernel_rfl) rfl) ?_
  refine GM_rd (by decide) (rd_load 1 rfl hR r47 (by kernel_rfl) (by decide)) ?_
  refine GM_rd (by decide) (rd_len (by kernel_rfl) rfl) ?_
  refine GM_rd (by decide) ((rd_neq rfl rfl).to (congrArg Value.bool (n_ne (by omega)))) ?_
  refine GM_rd (by decide) (rd_move rfl) ?_
  refine GM_take rfl rfl ?_
  refine GM_rd (by decide) (rd_move rfl) ?_
  refine GM_take rfl rfl ?_
  refine GM_rd (by decide) (rd_nilCheck rfl) ?_
  refine GM_take rfl rfl ?_
  refine GM_rd (by decide) (rd_fieldAddr (j := 47) (by kernel_rfl) rfl) ?_
  refine GM_take rfl rfl ?_
  refine GM_rd (by decide) (rd_load 1 rfl hR r47 (by kernel_rfl) (by decide)) ?_
  refine GM_take rfl rfl ?_
  refine GM_rd (by decide) (rd_move rfl) ?_
  refine GM_take rfl rfl ?_
  refine GM_rd (by decide) (rd_nilCheck rfl) ?_
  refine GM_take rfl rfl ?_
  refine GM_rd (by decide) (rd_fieldAddr (j := 7) (by kernel_rfl) rfl) ?_
  refine GM_take rfl rfl ?_
  refine GM_rd (by decide) (rd_fieldAddr (j := 8) (by kernel_rfl) rfl) ?_
  refine GM_take rfl rfl ?_
  refine GM_rd (by decide) (rd_load 0 rfl hB h15 (by kernel_rfl) (by decide)) ?_
  refine GM_take rfl rfl ?_
  refine GM_rd (by decide) (rd_move rfl) ?_
  refine GM_take rfl rfl ?_
  refine GM_rd (by decide) (rd_indexAddr (e := 3) (n := 1) (by kernel_rfl) rfl rfl (by omega) (by omega)) ?_
  refine GM_take rfl rfl ?_
  refine GM_rd (by decide) (rd_load_row 3 rfl hS3 rfl (tab_cell (len_mm y) hi.1 hi.2) (by kernel_rfl)) ?_
  refine GM_take rfl rfl ?_
  refine GM_call_v (v := .bool (month.any (· == ((mmY y).getD i.toNat 0)))) (by decide) (by kernel_rfl) rfl (fun w_ s_ => (contains_calls month ((mmY y).getD i.toNat 0) _ hl47 w_ (hI47 w_ s_)).mono fun e_ w2_ h_ => ⟨h_.1.trans (congrArg Ending.returned rfl), h_.2⟩) ?_
  refine GM_take rfl rfl ?_
  refine GM_rd (by decide) (rd_not rfl) ?_
  refine GM_rd (by decide) ((rd_pick rfl rfl rfl).to (v' := .bool fA) (by rw [hfA]; simp [badA, hz])) ?_
  refine GM_rd (by decide) (rd_move rfl) ?_
  exact GM_nil (fun a k => k.cons rfl (k.cons rfl (k.cons rfl (k.cons rfl (k.cons rfl (k.cons rfl (k.cons rfl (k.cons rfl (k.cons rfl (k.cons rfl (k.nil)))))))))))
theorem ft_3 {it rb : Nat} (hB : lkp 0 B = some it) (hR : lkp 1 B = some rb) {p47 : Option Addr} {c47 : Nat} {month : List Int} (r47 : lkp (ky 1 47) H = some (.slice p47 month.length c47)) (hl47 : month.length ≤ 1000000000) (hI47 : ∀ w, Sees F w0 B H S w → Ints w (.slice p47 month.length c47) month) {p48 : Option Addr} {c48 : Nat} {mday : List Int} (r48 : lkp (ky 1 48) H = some (.slice p48 mday.length c48)) (hl48 : mday.length ≤ 1000000000) (hI48 : ∀ w, Sees F w0 B H S w → Ints w (.slice p48 mday.length c48) mday) {p49 : Option Addr} {c49 : Nat} {nmday : List Int} (r49 : lkp (ky 1 49) H = some (.slice p49 nmday.length c49)) (hl49 : nmday.length ≤ 1000000000) (hI49 : ∀ w, Sees F w0 B H S w → Ints w (.slice p49 nmday.length c49) nmday) {p50 : Option Addr} {c50 : Nat} {yday : List Int} (r50 : lkp (ky 1 50) H = some (.slice p50 yday.length c50)) (hl50 : yday.length ≤ 1000000000) (hI50 : ∀ w, Sees F w0 B H S w → Ints w (.slice p50 yday.length c50) yday) {p52 : Option Addr} {c52 : Nat} {wday : List Int} (r52 : lkp (ky 1 52) H = some (.slice p52 wday.length c52)) (hl52 : wday.length ≤ 1000000000) (hI52 : ∀ w, Sees F w0 B H S w → Ints w (.slice p52 wday.length c52) wday) {p51 p57 : Option Addr} {c51 c57 : Nat} {weekno easter : List Int} (r51 : lkp (ky 1 51) H = some (.slice p51 weekno.length c51)) (r57 : lkp (ky 1 57) H = some (.slice p57 easter.length c57)) {p20 : Option Addr} {c20 : Nat} {wno : List Int} (h20 : lkp (ky 0 20) H = some (.slice p20 wno.length c20)) (hp20 : 0 < wno.length → ∃ b, p20 = some ⟨b, 0, none⟩) (hS8 : 0 < wno.length → lkp 8 S = some ⟨.slice p20 wno.length c20, 3, 1, wno.length, wno.map (Value.int .i64)⟩) {p21 : Option Addr} {c21 : Nat} {nwm : List Int} (h21 : lkp (ky 0 21) H = some (.slice p21 nwm.length c21)) (hp21 : 0 < nwm.length → ∃ b, p21 = some ⟨b, 0, none⟩) (hS9 : 0 < nwm.length → lkp 9 S = some ⟨.slice p21 nwm.length c21, 3, 1, nwm.length, nwm.map (Value.int .i64)⟩) {p22 : Option Addr} {c22 : Nat} {eas : List Int} (h22 : lkp (ky 0 22) H = some (.slice p22 eas.length c22)) (hp22 : 0 < eas.length → ∃ b, p22 = some ⟨b, 0, none⟩) (hS10 : 0 < eas.length → lkp 10 S = some ⟨.slice p22 eas.length c22, 3, 1, eas.length, eas.map (Value.int .i64)⟩) {y : Int}
    (h10 : lkp (ky 0 10) H = some (.int .i64 (365 + Cal.lp y))) (h11 : lkp (ky 0 11) H = some (.int .i64 (365 + Cal.lp (y + 1)))) {b3 b4 b5 b6 c3 c4 c5 c6 : Nat} (h15 : lkp (ky 0 15) H = some (.slice (some ⟨b3, 0, none⟩) (nY y) c3)) (h17 : lkp (ky 0 17) H = some (.slice (some ⟨b4, 0, none⟩) (nY y) c4))
    (h18 : lkp (ky 0 18) H = some (.slice (some ⟨b5, 0, none⟩) (nY y) c5)) (h19 : lkp (ky 0 19) H = some (.slice (some ⟨b6, 0 + (ywd y).toNat * 1, none⟩) (385 - (ywd y).toNat) (c6 - (ywd y).toNat)))
    (hS3 : lkp 3 S = some ⟨.slice (some ⟨b3, 0, none⟩) (nY y) c3, 3, 1, nY y, (mmY y).map (Value.int .i64)⟩) (hS4 : lkp 4 S = some ⟨.slice (some ⟨b4, 0, none⟩) (nY y) c4, 3, 1, nY y, (mdY y).map (Value.int .i64)⟩) (hS5 : lkp 5 S = some ⟨.slice (some ⟨b5, 0, none⟩) (nY y) c5, 3, 1, nY y, (nmdY y).map (Value.int .i64)⟩)
    (hS6 : lkp 6 S = some ⟨.slice (some ⟨b6, 0, none⟩) 385 c6, 3, 1, 385, (wd 55).map (Value.int .i64)⟩) {v5 v6 v7 v98 v99 v100 : Value} {i : Int} (hi : 0 ≤ i ∧ i < nY y) (hwn : weekno.length ≠ 0 → i < wno.length) (hnw : nwm.length ≠ 0 → i < nwm.length) (hea : easter.length ≠ 0 → i < eas.length) (fB : Bool) (hfB : fB = (true || badB weekno wno i)) : GM Go.Proofs.Tryz.prog ops11 (Kn 1418 [(0, .pointer (some ⟨it, 0, none⟩)), (2, .pointer (some ⟨rb, 0, none⟩)), (5, v5), (6, v6), (7, v7), (9, .int .i64 i), (98, v98), (99, v99), (100, v100), (148, .bool fB)]) (List.take 19 (List.drop 23 ops11.toList)) 1418 [(0, .pointer (some ⟨it, 0, none⟩)), (2, .pointer (some ⟨rb, 0, none⟩)), (5, v5), (6, v6), (7, v7), (9, .int .i64 i), (98, v98), (99, v99), (100, v100), (129, .bool true)] F w0 B H S := by
  have hlp := Cal.lp_01 y
  have hlp2 := Cal.lp_01 (y + 1)
  have hny := nY_lp y
  have hyw : 0 ≤ ywd y ∧ ywd y ≤ 6 := by unfold ywd; omega
  refine GM_pass (by decide) rfl rfl (by decide) ?_
  refine GM_pass (by decide) rfl rfl (by decide) ?_
  refine GM_pass (by decide) rfl rfl (by decide) ?_
  refine GM_pass (by decide) rfl rfl (by decide) ?_
  refine GM_pass (by decide) rfl rfl (by decide) ?_
  refine GM_pass (by decide) rfl rfl (by decide) ?_
  refine GM_pass (by decide) rfl rfl (by decide) ?_
  refine GM_passu (by decide) rfl rfl ?_
  refine GM_passu (by decide) rfl rfl ?_
  refine GM_passu (by decide) rfl rfl ?_
  refine GM_passu (by decide) rfl rfl ?_
  refine GM_passu (by decide) rfl rfl ?_
  refine GM_passu (by decide) rfl rfl ?_
  refine GM_passu (by decide) rfl rfl ?_
  refine GM_passu (by decide) rfl rfl ?_
  refine GM_passu (by decide) rfl rfl ?_
  refine GM_pass (by decide) rfl rfl (by decide) ?_
  refine GM_rd (by decide) ((rd_pick rfl rfl rfl).to (v' := .bool fB) (by rw [hfB]; simp)) ?_
  refine GM_rd (by decide) (rd_move rfl) ?_
  exact GM_nil (fun a k => k.cons rfl (k.cons rfl (k.cons rfl (k.cons rfl (k.cons rfl (k.cons rfl (k.cons rfl (k.cons rfl (k.cons rfl (k.cons rfl (k.nil)))))))))))
theorem ft_4 {it rb : Nat} (hB : lkp 0 B = some it) (hR : lkp 1 B = some rb) {p47 : Option Addr} {c47 : Nat} {month : List Int} (r47 : lkp (ky 1 47) H = some (.slice p47 month.length c47)) (hl47 : month.length ≤ 1000000000) (hI47 : ∀ w, Sees F w0 B H S w → Ints w (.slice p47 month.length c47) month) {p48 : Option Addr} {c48 : Nat} {mday : List Int} (r48 : lkp (ky 1 48) H = some (.slice p48 mday.length c48)) (hl48 : mday.length ≤ 1000000000) (hI48 : ∀ w, Sees F w0 B H S w → Ints w (.slice p48 mday.length c48) mday) {p49 : Option Addr} {c49 : Nat} {nmday : List Int} (r49 : lkp (ky 1 49) H = some (.slice p49 nmday.length c49)) (hl49 : nmday.length ≤ 1000000000) (hI49 : ∀ w, Sees F w0 B H S w → Ints w (.slice p49 nmday.length c49) nmday) {p50 : Option Addr} {c50 : Nat} {yday : List Int} (r50 : lkp (ky 1 50) H = some (.slice p50 yday.length c50)) (hl50 : yday.length ≤ 1000000000) (hI50 : ∀ w, Sees F w0 B H S w → Ints w (.slice p50 yday.length c50) yday) {p52 : Option Addr} {c52 : Nat} {wday : List Int} (r52 : lkp (ky 1 52) H = some (.slice p52 wday.length c52)) (hl52 : wday.length ≤ 1000000000) (hI52 : ∀ w, Sees F w0 B H S w → Ints w (.slice p52 wday.length c52) wday) {p51 p57 : Option Addr} {c51 c57 : Nat} {weekno easter : List Int} (r51 : lkp (ky 1 51) H = some (.slice p51 weekno.length c51)) (r57 : lkp (ky 1 57) H = some (.slice p57 easter.length c57)) {p20 : Option Addr} {c20 : Nat} {wno : List Int} (h20 : lkp (ky 0 20) H = some (.slice p20 wno.length c20)) (hp20 : 0 < wno.length → ∃ b, p20 = some ⟨b, 0, none⟩) (hS8 : 0 < wno.length → lkp 8 S = some ⟨.slice p20 wno.length c20, 3, 1, wno.length, wno.map (Value.int .i64)⟩) {p21 : Option Addr} {c21 : Nat} {nwm : List Int} (h21 : lkp (ky 0 21) H = some (.slice p21 nwm.length c21)) (hp21 : 0 < nwm.length → ∃ b, p21 = some ⟨b, 0, none⟩) (hS9 : 0 < nwm.length → lkp 9 S = some ⟨.slice p21 nwm.length c21, 3, 1, nwm.length, nwm.map (Value.int .i64)⟩) {p22 : Option Addr} {c22 : Nat} {eas : List Int} (h22 : lkp (ky 0 22) H = some (.slice p22 eas.length c22)) (hp22 : 0 < eas.length → ∃ b, p22 = some ⟨b, 0, none⟩) (hS10 : 0 < eas.length → lkp 10 S = some ⟨.slice p22 eas.length c22, 3, 1, eas.length, eas.map (Value.int .i64)⟩) {y : Int}
    (h10 : lkp (ky 0 10) H = some (.int .i64 (365 + Cal.lp y))) (h11 : lkp (ky 0 11) H = some (.int .i64 (365 + Cal.lp (y + 1)))) {b3 b4 b5 b6 c3 c4 c5 c6 : Nat} (h15 : lkp (ky 0 15) H = some (.slice (some ⟨b3, 0, none⟩) (nY y) c3)) (h17 : lkp (ky 0 17) H = some (.slice (some ⟨b4, 0, none⟩) (nY y) c4))
    (h18 : lkp (ky 0 18) H = some (.slice (some ⟨b5, 0, none⟩) (nY y) c5)) (h19 : lkp (ky 0 19) H = some (.slice (some ⟨b6, 0 + (ywd y).toNat * 1, none⟩) (385 - (ywd y).toNat) (c6 - (ywd y).toNat)))
    (hS3 : lkp 3 S = some ⟨.slice (some ⟨b3, 0, none⟩) (nY y) c3, 3, 1, nY y, (mmY y).map (Value.int .i64)⟩) (hS4 : lkp 4 S = some ⟨.slice (some ⟨b4, 0, none⟩) (nY y) c4, 3, 1, nY y, (mdY y).map (Value.int .i64)⟩) (hS5 : lkp 5 S = some ⟨.slice (some ⟨b5, 0, none⟩) (nY y) c5, 3, 1, nY y, (nmdY y).map (Value.int .i64)⟩)
    (hS6 : lkp 6 S = some ⟨.slice (some ⟨b6, 0, none⟩) 385 c6, 3, 1, 385, (wd 55).map (Value.int .i64)⟩) {v5 v6 v7 v98 v99 v100 : Value} {i : Int} (hi : 0 ≤ i ∧ i < nY y) (hwn : weekno.length ≠ 0 → i < wno.length) (hnw : nwm.length ≠ 0 → i < nwm.length) (hea : easter.length ≠ 0 → i < eas.length) (fB : Bool) (hfB : fB = (false || badB weekno wno i)) (hz : weekno.length = 0) : GM Go.Proofs.Tryz.prog ops11 (Kn 1418 [(0, .pointer (some ⟨it, 0, none⟩)), (2, .pointer (some ⟨rb, 0, none⟩)), (5, v5), (6, v6), (7, v7), (9, .int .i64 i), (98, v98), (99, v99), (100, v100), (148, .bool fB)]) (List.take 19 (List.drop 23 ops11.toList)) 1418 [(0, .pointer (some ⟨it, 0, none⟩)), (2, .pointer (some ⟨rb, 0, none⟩)), (5, v5), (6, v6), (7, v7), (9, .int .i64 i), (98, v98), (99, v99), (100, v100), (129, .bool false)] F w0 B H S := by
  have hlp := Cal.lp_01 y
  have hlp2 := Cal.lp_01 (y + 1)
  have hny := nY_lp y
  have hyw : 0 ≤ ywd y ∧ ywd y ≤ 6 := by unfold ywd; omega
  refine GM_take rfl rfl ?_
  refine GM_rd (by decide) (rd_move rfl) ?_
  refine GM_take rfl rfl ?_
  refine GM_rd (by decide) (rd_nilCheck rfl) ?_
  refine GM_take rfl rfl ?_
  refine GM_rd (by decide) (rd_fieldAddr (j := 51) (by kernel_rfl) rfl) ?_
  refine GM_take rfl rfl ?_
  refine GM_rd (by decide) (rd_load 1 rfl hR r51 (by kernel_rfl) (by decide)) ?_
  refine GM_take rfl rfl ?_
  refine GM_rd (by decide) (rd_len (by kernel_rfl) rfl) ?_
  refine GM_take rfl rfl ?_
  refine GM_rd (by decide) ((rd_neq rfl rfl).to (congrArg Value.bool (n_eq (by omega)))) ?_
  refine GM_take rfl rfl ?_
  refine GM_rd (by decide) (rd_move rfl) ?_
  refine GM_pass (by decide) rfl rfl (by decide) ?_
  refine GM_pass (by decide) rfl rfl (by decide) ?_
  refine GM_pass (by decide) rfl rfl (by decide) ?_
  refine GM_pass (by decide) rfl rfl (by decide) ?_
  refine GM_pass (by decide) rfl rfl (by decide) ?_
  refine GM_pass (by decide) rfl rfl (by decide) ?_
  refine GM_pass (by decide) rfl rfl (by decide) ?_
  refine GM_pass (by decide) rfl rfl (by decide) ?_
  refine GM_pass (by decide) rfl rfl (by decide) ?_
  refine GM_take rfl rfl ?_
  refine GM_rd (by decide) (rd_pick rfl rfl rfl) ?_
  refine GM_rd (by decide) ((rd_pick rfl rfl rfl).to (v' := .bool fB) (by rw [hfB]; simp [badB, hz])) ?_
  refine GM_rd (by decide) (rd_move rfl) ?_
  exact GM_nil (fun a k => k.cons rfl (k.cons rfl (k.cons rfl (k.cons rfl (k.cons rfl (k.cons rfl (k.cons rfl (k.cons rfl (k.cons rfl (k.cons rfl (k.nil)))))))))))
theorem ft_5 {it rb : Nat} (hB : lkp 0 B = some it) (hR : lkp 1 B = some rb) {p47 : Option Addr} {c47 : Nat} {month : List Int} (r47 : lkp (ky 1 47) H = some (.slice p47 month.length c47)) (hl47 : month.length ≤ 1000000000) (hI47 : ∀ w, Sees F w0 B H S w → Ints w (.slice p47 month.length c47) month) {p48 : Option Addr} {c48 : Nat} {mday : List Int} (r48 : lkp (ky 1 48) H = some (.slice p48 mday.length c48)) (hl48 : mday.length ≤ 1000000000) (hI48 : ∀ w, Sees F w0 B H S w → Ints w (.slice p48 mday.length c48) mday) {p49 : Option Addr} {c49 : Nat} {nmday : List Int} (r49 : lkp (ky 1 49) H = some (.slice p49 nmday.length c49)) (hl49 : nmday.length ≤ 1000000000) (hI49 : ∀ w, Sees F w0 B H S w → Ints w (.slice p49 nmday.length c49) nmday) {p50 : Option Addr} {c50 : Nat} {yday : List Int} (r50 : lkp (ky 1 50) H = some (.slice p50 yday.length c50)) (hl50 : yday.length ≤ 1000000000) (hI50 : ∀ w, Sees F w0 B H S w → Ints w (.slice p50 yday.length c50) yday) {p52 : Option Addr} {c52 : Nat} {wday : List Int} (r52 : lkp (ky 1 52) H = some (.slice p52 wday.length c52)) (hl52 : wday.length ≤ 1000000000) (hI52 : ∀ w, Sees F w0 B H S w → Ints w (.slice p52 wday.length c52) wday) {p51 p57 : Option Addr} {c51 c57 : Nat} {weekno easter : List Int} (r51 : lkp (ky 1 51) H = some (.slice p51 weekno.length c51)) (r57 : lkp (ky 1 57) H = some (.slice p57 easter.length c57)) {p20 : Option Addr} {c20 : Nat} {wno : List Int} (h20 : lkp (ky 0 20) H = some (.slice p20 wno.length c20)) (hp20 : 0 < wno.length → ∃ b, p20 = some ⟨b, 0, none⟩) (hS8 : 0 < wno.length → lkp 8 S = some ⟨.slice p20 wno.length c20, 3, 1, wno.length, wno.map (Value.int .i64)⟩) {p21 : Option Addr} {c21 : Nat} {nwm : List Int} (h21 : lkp (ky 0 21) H = some (.slice p21 nwm.length c21)) (hp21 : 0 < nwm.length → ∃ b, p21 = some ⟨b, 0, none⟩) (hS9 : 0 < nwm.length → lkp 9 S = some ⟨.slice p21 nwm.length c21, 3, 1, nwm.length, nwm.map (Value.int .i64)⟩) {p22 : Option Addr} {c22 : Nat} {eas : List Int} (h22 : lkp (ky 0 22) H = some (.slice p22 eas.length c22)) (hp22 : 0 < eas.length → ∃ b, p22 = some ⟨b, 0, none⟩) (hS10 : 0 < eas.length → lkp 10 S = some ⟨.slice p22 eas.length c22, 3, 1, eas.length, eas.map (Value.int .i64)⟩) {y : Int}
    (h10 : lkp (ky 0 10) H = some (.int .i64 (365 + Cal.lp y))) (h11 : lkp (ky 0 11) H = some (.int .i64 (365 + Cal.lp (y + 1)))) {b3 b4 b5 b6 c3 c4 c5 c6 : Nat} (h15 : lkp (ky 0 15) H = some (.slice (some ⟨b3, 0, none⟩) (nY y) c3)) (h17 : lkp (ky 0 17) H = some (.slice (some ⟨b4, 0, none⟩) (nY y) c4))
    (h18 : lkp (ky 0 18) H = some (.slice (some ⟨b5, 0, none⟩) (nY y) c5)) (h19 : lkp (ky 0 19) H = some (.slice (some ⟨b6, 0 + (ywd y).toNat * 1, none⟩) (385 - (ywd y).toNat) (c6 - (ywd y).toNat)))
    (hS3 : lkp 3 S = some ⟨.slice (some ⟨b3, 0, none⟩) (nY y) c3, 3, 1, nY y, (mmY y).map (Value.int .i64)⟩) (hS4 : lkp 4 S = some ⟨.slice (some ⟨b4, 0, none⟩) (nY y) c4, 3, 1, nY y, (mdY y).map (Value.int .i64)⟩) (hS5 : lkp 5 S = some ⟨.slice (some ⟨b5, 0, none⟩) (nY y) c5, 3, 1, nY y, (nmdY y).map (Value.int .i64)⟩)
    (hS6 : lkp 6 S = some ⟨.slice (some ⟨b6, 0, none⟩) 385 c6, 3, 1, 385, (wd 55).map (Value.int .i64)⟩) {v5 v6 v7 v98 v99 v100 : Value} {i : Int} (hi : 0 ≤ i ∧ i < nY y) (hwn : weekno.length ≠ 0 → i < wno.length) (hnw : nwm.length ≠ 0 → i < nwm.length) (hea : easter.length ≠ 0 → i < eas.length) (fB : Bool) (hfB : fB = (false || badB weekno wno i)) (hz : ¬ weekno.length = 0) : GM Go.Proofs.Tryz.prog ops11 (Kn 1418 [(0, .pointer (some ⟨it, 0, none⟩)), (2, .pointer (some ⟨rb, 0, none⟩)), (5, v5), (6, v6), (7, v7), (9, .int .i64 i), (98, v98), (99, v99), (100, v100), (148, .bool fB)]) (List.take 19 (List.drop 23 ops11.toList)) 1418 [(0, .pointer (some ⟨it, 0, none⟩)), (2, .pointer (some ⟨rb, 0, none⟩)), (5, v5), (6, v6), (7, v7), (9, .int .i64 i), (98, v98), (99, v99), (100, v100), (129, .bool false)] F w0 B H S := by
  have hlp := Cal.lp_01 y
  have hlp2 := Cal.lp_01 (y + 1)
  have hny := nY_lp y
  have hyw : 0 ≤ ywd y ∧ ywd y ≤ 6 := by unfold ywd; omega
  have hiw := hwn hz
  obtain ⟨b8, rfl⟩ := hp20 (by omega)
  have hS8 := hS8 (by omega)
  refine GM_take rfl rfl ?_
  refine GM_rd (by decide) (rd_move rfl) ?_
  refine GM_take rfl rfl ?_
  refine GM_rd (by decide) (rd_nilCheck rfl) ?_
  refine GM_take rfl rfl ?_
  refine GM_rd (by decide) (rd_fieldAddr (j := 51) (by kernel_rfl) rfl) ?_
  refine GM_take rfl rfl ?_
  refine GM_rd (by decide) (rd_load 1 rfl hR r51 (by kernel_rfl) (by decide)) ?_
  refine GM_take rfl rfl ?_
  refine GM_rd (by decide) (rd_len (by kernel_rfl) rfl) ?_
  refine GM_take rfl rfl ?_
  refine GM_rd (by decide) ((rd_neq rfl rfl).to (congrArg Value.bool (n_ne (by omega)))) ?_
  refine GM_take rfl rfl ?_
  refine GM_rd (by decide) (rd_move rfl) ?_
  refine GM_take rfl rfl ?_
  refine GM_rd (by decide) (rd_move rfl) ?_
  refine GM_take rfl rfl ?_
  refine GM_rd (by decide) (rd_nilCheck rfl) ?_
  refine GM_take rfl rfl ?_
  refine GM_rd (by decide) (rd_fieldAddr (j := 7) (by kernel_rfl) rfl) ?_
  refine GM_take rfl rfl ?_
  refine GM_rd (by decide) (rd_fieldAddr (j := 13) (by kernel_rfl) rfl) ?_
  refine GM_take rfl rfl ?_
  refine GM_rd (by decide) (rd_load 0 rfl hB h20 (by kernel_rfl) (by decide)) ?_
  refine GM_take rfl rfl ?_
  refine GM_rd (by decide) (rd_move rfl) ?_
  refine GM_take rfl rfl ?_
  refine GM_rd (by decide) (rd_indexAddr (e := 3) (n := 1) (by kernel_rfl) rfl rfl (by omega) (by omega)) ?_
  refine GM_take rfl rfl ?_
  refine GM_rd (by decide) (rd_load_row 8 rfl hS8 rfl (tab_cell rfl hi.1 hiw) (by kernel_rfl)) ?_
  refine GM_take rfl rfl ?_
  refine GM_rd (by decide) (rd_eql rfl rfl) ?_
  refine GM_take rfl rfl ?_
  refine GM_rd (by decide) (rd_pick rfl rfl rfl) ?_
  refine GM_rd (by decide) ((rd_pick rfl rfl rfl).to (v' := .bool fB) (by rw [hfB]; simp [badB, hz])) ?_
  refine GM_rd (by decide) (rd_move rfl) ?_
  exact GM_nil (fun a k => k.cons rfl (k.cons rfl (k.cons rfl (k.cons rfl (k.cons rfl (k.cons rfl (k.cons rfl (k.cons rfl (k.cons rfl (k.cons rfl (k.nil)))))))))))
theorem ft_6 {it rb : Nat} (hB : lkp 0 B = some it) (hR : lkp 1 B = some rb) {p47 : Option Addr} {c47 : Nat} {month : List Int} (r47 : lkp (ky 1 47) H = some (.slice p47 month.length c47)) (hl47 : month.length ≤ 1000000000) (hI47 : ∀ w, Sees F w0 B H S w → Ints w (.slice p47 month.length c47) month) {p48 : Option Addr} {c48 : Nat} {mday : List Int} (r48 : lkp (ky 1 48) H = some (.slice p48 mday.length c48)) (hl48 : mday.length ≤ 1000000000) (hI48 : ∀ w, Sees F w0 B H S w → Ints w (.slice p48 mday.length c48) mday) {p49 : Option Addr} {c49 : Nat} {nmday : List Int} (r49 : lkp (ky 1 49) H = some (.slice p49 nmday.length c49)) (hl49 : nmday.length ≤ 1000000000) (hI49 : ∀ w, Sees F w0 B H S w → Ints w (.slice p49 nmday.length c49) nmday) {p50 : Option Addr} {c50 : Nat} {yday : List Int} (r50 : lkp (ky 1 50) H = some (.slice p50 yday.length c50)) (hl50 : yday.length ≤ 1000000000) (hI50 : ∀ w, Sees F w0 B H S w → Ints w (.slice p50 yday.length c50) yday) {p52 : Option Addr} {c52 : Nat} {wday : List Int} (r52 : lkp (ky 1 52) H = some (.slice p52 wday.length c52)) (hl52 : wday.length ≤ 1000000000) (hI52 : ∀ w, Sees F w0 B H S w → Ints w (.slice p52 wday.length c52) wday) {p51 p57 : Option Addr} {c51 c57 : Nat} {weekno easter : List Int} (r51 : lkp (ky 1 51) H = some (.slice p51 weekno.length c51)) (r57 : lkp (ky 1 57) H = some (.slice p57 easter.length c57)) {p20 : Option Addr} {c20 : Nat} {wno : List Int} (h20 : lkp (ky 0 20) H = some (.slice p20 wno.length c20)) (hp20 : 0 < wno.length → ∃ b, p20 = some ⟨b, 0, none⟩) (hS8 : 0 < wno.length → lkp 8 S = some ⟨.slice p20 wno.length c20, 3, 1, wno.length, wno.map (Value.int .i64)⟩) {p21 : Option Addr} {c21 : Nat} {nwm : List Int} (h21 : lkp (ky 0 21) H = some (.slice p21 nwm.length c21)) (hp21 : 0 < nwm.length → ∃ b, p21 = some ⟨b, 0, none⟩) (hS9 : 0 < nwm.length → lkp 9 S = some ⟨.slice p21 nwm.length c21, 3, 1, nwm.length, nwm.map (Value.int .i64)⟩) {p22 : Option Addr} {c22 : Nat} {eas : List Int} (h22 : lkp (ky 0 22) H = some (.slice p22 eas.length c22)) (hp22 : 0 < eas.length → ∃ b, p22 = some ⟨b, 0, none⟩) (hS10 : 0 < eas.length → lkp 10 S = some ⟨.slice p22 eas.length c22, 3, 1, eas.length, eas.map (Value.int .i64)⟩) {y : Int}
    (h10 : lkp (ky 0 10) H = some (.int .i64 (365 + Cal.lp y))) (h11 : lkp (ky 0 11) H = some (.int .i64 (365 + Cal.lp (y + 1)))) {b3 b4 b5 b6 c3 c4 c5 c6 : Nat} (h15 : lkp (ky 0 15) H = some (.slice (some ⟨b3, 0, none⟩) (nY y) c3)) (h17 : lkp (ky 0 17) H = some (.slice (some ⟨b4, 0, none⟩) (nY y) c4))
    (h18 : lkp (ky 0 18) H = some (.slice (some ⟨b5, 0, none⟩) (nY y) c5)) (h19 : lkp (ky 0 19) H = some (.slice (some ⟨b6, 0 + (ywd y).toNat * 1, none⟩) (385 - (ywd y).toNat) (c6 - (ywd y).toNat)))
    (hS3 : lkp 3 S = some ⟨.slice (some ⟨b3, 0, none⟩) (nY y) c3, 3, 1, nY y, (mmY y).map (Value.int .i64)⟩) (hS4 : lkp 4 S = some ⟨.slice (some ⟨b4, 0, none⟩) (nY y) c4, 3, 1, nY y, (mdY y).map (Value.int .i64)⟩) (hS5 : lkp 5 S = some ⟨.slice (some ⟨b5, 0, none⟩) (nY y) c5, 3, 1, nY y, (nmdY y).map (Value.int .i64)⟩)
    (hS6 : lkp 6 S = some ⟨.slice (some ⟨b6, 0, none⟩) 385 c6, 3, 1, 385, (wd 55).map (Value.int .i64)⟩) {v5 v6 v7 v98 v99 v100 : Value} {i : Int} (hi : 0 ≤ i ∧ i < nY y) (hwn : weekno.length ≠ 0 → i < wno.length) (hnw : nwm.length ≠ 0 → i < nwm.length) (hea : easter.length ≠ 0 → i < eas.length) (fC : Bool) (hfC : fC = (true || badC wday y i)) : GM Go.Proofs.Tryz.prog ops11 (Kn 1418 [(0, .pointer (some ⟨it, 0, none⟩)), (2, .pointer (some ⟨rb, 0, none⟩)), (5, v5), (6, v6), (7, v7), (9, .int .i64 i), (98, v98), (99, v99), (100, v100), (172, .bool fC)]) (List.take 24 (List.drop 42 ops11.toList)) 1418 [(0, .pointer (some ⟨it, 0, none⟩)), (2, .pointer (some ⟨rb, 0, none⟩)), (5, v5), (6, v6), (7, v7), (9, .int .i64 i), (98, v98), (99, v99), (100, v100), (148, .bool true)] F w0 B H S := by
  have hlp := Cal.lp_01 y
  have hlp2 := Cal.lp_01 (y + 1)
  have hny := nY_lp y
  have hyw : 0 ≤ ywd y ∧ ywd y ≤ 6 := by unfold ywd; omega
  refine GM_pass (by decide) rfl rfl (by decide) ?_
  refine GM_pass (by decide) rfl rfl (by decide) ?_
  refine GM_pass (by decide) rfl rfl (by decide) ?_
  refine GM_pass (by decide) rfl rfl (by decide) ?_
  refine GM_pass (by decide) rfl rfl (by decide) ?_
  refine GM_pass (by decide) rfl rfl (by decide) ?_
  refine GM_pass (by decide) rfl rfl (by decide) ?_
  refine GM_passu (by decide) rfl rfl ?_
  refine GM_passu (by decide) rfl rfl ?_
  refine GM_passu (by decide) rfl rfl ?_
  refine GM_passu (by decide) rfl rfl ?_
  refine GM_passu (by decide) rfl rfl ?_
  refine GM_passu (by decide) rfl rfl ?_
  refine GM_passu (by decide) rfl rfl ?_
  refine GM_passu (by decide) rfl rfl ?_
  refine GM_passu (by decide) rfl rfl ?_
  refine GM_passu (by decide) rfl rfl ?_
  refine GM_passu (by decide) rfl rfl ?_
  refine GM_passu (by decide) rfl rfl ?_
  refine GM_passu (by decide) rfl rfl ?_
  refine GM_passu (by decide) rfl rfl ?_
  refine GM_pass (by decide) rfl rfl (by decide) ?_
  refine GM_rd (by decide) ((rd_pick rfl rfl rfl).to (v' := .bool fC) (by rw [hfC]; simp)) ?_
  refine GM_rd (by decide) (rd_move rfl) ?_
  exact GM_nil (fun a k => k.cons rfl (k.cons rfl (k.cons rfl (k.cons rfl (k.cons rfl (k.cons rfl (k.cons rfl (k.cons rfl (k.cons rfl (k.cons rfl (k.nil)))))))))))
theorem ft_7 {it rb : Nat} (hB : lkp 0 B = some it) (hR : lkp 1 B = some rb) {p47 : Option Addr} {c47 : Nat} {month : List Int} (r47 : lkp (ky 1 47) H = some (.slice p47 month.length c47)) (hl47 : month.length ≤ 1000000000) (hI47 : ∀ w, Sees F w0 B H S w → Ints w (.slice p47 month.length c47) month) {p48 : Option Addr} {c48 : Nat} {mday : List Int} (r48 : lkp (ky 1 48) H = some (.slice p48 mday.length c48)) (hl48 : mday.length ≤ 1000000000) (hI48 : ∀ w, Sees F w0 B H S w → Ints w (.slice p48 mday.length c48) mday) {p49 : Option Addr} {c49 : Nat} {nmday : List Int} (r49 : lkp (ky 1 49) H = some (.slice p49 nmday.length c49)) (hl49 : nmday.length ≤ 1000000000) (hI49 : ∀ w, Sees F w0 B H S w → Ints w (.slice p49 nmday.length c49) nmday) {p50 : Option Addr} {c50 : Nat} {yday : List Int} (r50 : lkp (ky 1 50) H = some (.slice p50 yday.length c50)) (hl50 : yday.length ≤ 1000000000) (hI50 : ∀ w, Sees F w0 B H S w → Ints w (.slice p50 yday.length c50) yday) {p52 : Option Addr} {c52 : Nat} {wday : List Int} (r52 : lkp (ky 1 52) H = some (.slice p52 wday.length c52)) (hl52 : wday.length ≤ 1000000000) (hI52 : ∀ w, Sees F w0 B H S w → Ints w (.slice p52 wday.length c52) wday) {p51 p57 : Option Addr} {c51 c57 : Nat} {weekno easter : List Int} (r51 : lkp (ky 1 51) H = some (.slice p51 weekno.length c51)) (r57 : lkp (ky 1 57) H = some (.slice p57 easter.length c57)) {p20 : Option Addr} {c20 : Nat} {wno : List Int} (h20 : lkp (ky 0 20) H = some (.slice p20 wno.length c20)) (hp20 : 0 < wno.length → ∃ b, p20 = some ⟨b, 0, none⟩) (hS8 : 0 < wno.length → lkp 8 S = some ⟨.slice p20 wno.length c20, 3, 1, wno.length, wno.map (Value.int .i64)⟩) {p21 : Option Addr} {c21 : Nat} {nwm : List Int} (h21 : lkp (ky 0 21) H = some (.slice p21 nwm.length c21)) (hp21 : 0 < nwm.length → ∃ b, p21 = some ⟨b, 0, none⟩) (hS9 : 0 < nwm.length → lkp 9 S = some ⟨.slice p21 nwm.length c21, 3, 1, nwm.length, nwm.map (Value.int .i64)⟩) {p22 : Option Addr} {c22 : Nat} {eas : List Int} (h22 : lkp (ky 0 22) H = some (.slice p22 eas.length c22)) (hp22 : 0 < eas.length → ∃ b, p22 = some ⟨b, 0, none⟩) (hS10 : 0 < eas.length → lkp 10 S = some ⟨.slice p22 eas.length c22, 3, 1, eas.length, eas.map (Value.int .i64)⟩) {y : Int}
    (h10 : lkp (ky 0 10) H = some (.int .i64 (365 + Cal.lp y))) (h11 : lkp (ky 0 11) H = some (.int .i64 (365 + Cal.lp (y + 1)))) {b3 b4 b5 b6 c3 c4 c5 c6 : Nat} (h15 : lkp (ky 0 15) H = some (.slice (some ⟨b3, 0, none⟩) (nY y) c3)) (h17 : lkp (ky 0 17) H = some (.slice (some ⟨b4, 0, none⟩) (nY y) c4))
    (h18 : lkp (ky 0 18) H = some (.slice (some ⟨b5, 0, none⟩) (nY y) c5)) (h19 : lkp (ky 0 19) H = some (.slice (some ⟨b6, 0 + (ywd y).toNat * 1, none⟩) (385 - (ywd y).toNat) (c6 - (ywd y).toNat)))
    (hS3 : lkp 3 S = some ⟨.slice (some ⟨b3, 0, none⟩) (nY y) c3, 3, 1, nY y, (mmY y).map (Value.int .i64)⟩) (hS4 : lkp 4 S = some ⟨.slice (some ⟨b4, 0, none⟩) (nY y) c4, 3, 1, nY y, (mdY y).map (Value.int .i64)⟩) (hS5 : lkp 5 S = some ⟨.slice (some ⟨b5, 0, none⟩) (nY y) c5, 3, 1, nY y, (nmdY y).map (Value.int .i64)⟩)
    (hS6 : lkp 6 S = some ⟨.slice (some ⟨b6, 0, none⟩) 385 c6, 3, 1, 385, (wd 55).map (Value.int .i64)⟩) {v5 v6 v7 v98 v99 v100 : Value} {i : Int} (hi : 0 ≤ i ∧ i < nY y) (hwn : weekno.length ≠ 0 → i < wno.length) (hnw : nwm.length ≠ 0 → i < nwm.length) (hea : easter.length ≠ 0 → i < eas.length) (fC : Bool) (hfC : fC = (false || badC wday y i)) (hz : wday.length = 0) : GM Go.Proofs.Tryz.prog ops11 (Kn 1418 [(0, .pointer (some ⟨it, 0, none⟩)), (2, .pointer (some ⟨rb, 0, none⟩)), (5, v5), (6, v6), (7, v7), (9, .int .i64 i), (98, v98), (99, v99), (100, v100), (172, .bool fC)]) (List.take 24 (List.drop 42 ops11.toList)) 1418 [(0, .pointer (some ⟨it, 0, none⟩)), (2, .pointer (some ⟨rb, 0, none⟩)), (5, v5), (6, v6), (7, v7), (9, .int .i64 i), (98, v98), (99, v99), (100, v100), (148, .bool false)] F w0 B H S := by
  have hlp := Cal.lp_01 y
  have hlp2 := Cal.lp_01 (y + 1)
  have hny := nY_lp y
  have hyw : 0 ≤ ywd y ∧ ywd y ≤ 6 := by unfold ywd; omega
  refine GM_take rfl rfl ?_
  refine GM_rd (by decide) (rd_move rfl) ?_
  refine GM_take rfl rfl ?_
  refine GM_rd (by decide) (rd_nilCheck rfl) ?_
  refine GM_take rfl rfl ?_
  refine GM_rd (by decide) (rd_fieldAddr (j := 52) (by kernel_rfl) rfl) ?_
  refine GM_take rfl rfl ?_
  refine GM_rd (by decide) (rd_load 1 rfl hR r52 (by kernel_rfl) (by decide)) ?_
  refine GM_take rfl rfl ?_
  refine GM_rd (by decide) (rd_len (by kernel_rfl) rfl) ?_
  refine GM_take rfl rfl ?_
  refine GM_rd (by decide) ((rd_neq rfl rfl).to (congrArg Value.bool (n_eq (by omega)))) ?_
  refine GM_take rfl rfl ?_
  refine GM_rd (by decide) (rd_move rfl) ?_
  refine GM_pass (by decide) rfl rfl (by decide) ?_
  refine GM_pass (by decide) rfl rfl (by decide) ?_
  refine GM_pass (by decide) rfl rfl (by decide) ?_
  refine GM_pass (by decide) rfl rfl (by decide) ?_
  refine GM_pass (by decide) rfl rfl (by decide) ?_
  refine GM_pass (by decide) rfl rfl (by decide) ?_
  refine GM_pass (by decide) rfl rfl (by decide) ?_
  refine GM_pass (by decide) rfl rfl (by decide) ?_
  refine GM_pass (by decide) rfl rfl (by decide) ?_
  refine GM_pass (by decide) rfl rfl (by decide) ?_
  refine GM_pass (by decide) rfl rfl (by decide) ?_
  refine GM_pass (by decide) rfl rfl (by decide) ?_
  refine GM_pass (by decide) rfl rfl (by decide) ?_
  refine GM_pass (by decide) rfl rfl (by decide) ?_
  refine GM_take rfl rfl ?_
  refine GM_rd (by decide) (rd_pick rfl rfl rfl) ?_
  refine GM_rd (by decide) ((rd_pick rfl rfl rfl).to (v' := .bool fC) (by rw [hfC]; simp [badC, hz])) ?_
  refine GM_rd (by decide) (rd_move rfl) ?_
  exact GM_nil (fun a k => k.cons rfl (k.cons rfl (k.cons rfl (k.cons rfl (k.cons rfl (k.cons rfl (k.cons rfl (k.cons rfl (k.cons rfl (k.cons rfl (k.nil)))))))))))
theorem ft_8 {it rb : Nat} (hB : lkp 0 B = some it) (hR : lkp 1 B = some rb) {p47 : Option Addr} {c47 : Nat} {month : List Int} (r47 : lkp (ky 1 47) H = some (.slice p47 month.length c47)) (hl47 : month.length ≤ 1000000000) (hI47 : ∀ w, Sees F w0 B H S w → Ints w (.slice p47 month.length c47) month) {p48 : Option Addr} {c48 : Nat} {mday : List Int} (r48 : lkp (ky 1 48) H = some (.slice p48 mday.length c48)) (hl48 : mday.length ≤ 1000000000) (hI48 : ∀ w, Sees F w0 B H S w → Ints w (.slice p48 mday.length c48) mday) {p49 : Option Addr} {c49 : Nat} {nmday : List Int} (r49 : lkp (ky 1 49) H = some (.slice p49 nmday.length c49)) (hl49 : nmday.length ≤ 1000000000) (hI49 : ∀ w, Sees F w0 B H S w → Ints w (.slice p49 nmday.length c49) nmday) {p50 : Option Addr} {c50 : Nat} {yday : List Int} (r50 : lkp (ky 1 50) H = some (.slice p50 yday.length c50)) (hl50 : yday.length ≤ 1000000000) (hI50 : ∀ w, Sees F w0 B H S w → Ints w (.slice p50 yday.length c50) yday) {p52 : Option Addr} {c52 : Nat} {wday : List Int} (r52 : lkp (ky 1 52) H = some (.slice p52 wday.length c52)) (hl52 : wday.length ≤ 1000000000) (hI52 : ∀ w, Sees F w0 B H S w → Ints w (.slice p52 wday.length c52) wday) {p51 p57 : Option Addr} {c51 c57 : Nat} {weekno easter : List Int} (r51 : lkp (ky 1 51) H = some (.slice p51 weekno.length c51)) (r57 : lkp (ky 1 57) H = some (.slice p57 easter.length c57)) {p20 : Option Addr} {c20 : Nat} {wno : List Int} (h20 : lkp (ky 0 20) H = some (.slice p20 wno.length c20)) (hp20 : 0 < wno.length → ∃ b, p20 = some ⟨b, 0, none⟩) (hS8 : 0 < wno.length → lkp 8 S = some ⟨.slice p20 wno.length c20, 3, 1, wno.length, wno.map (Value.int .i64)⟩) {p21 : Option Addr} {c21 : Nat} {nwm : List Int} (h21 : lkp (ky 0 21) H = some (.slice p21 nwm.length c21)) (hp21 : 0 < nwm.length → ∃ b, p21 = some ⟨b, 0, none⟩) (hS9 : 0 < nwm.length → lkp 9 S = some ⟨.slice p21 nwm.length c21, 3, 1, nwm.length, nwm.map (Value.int .i64)⟩) {p22 : Option Addr} {c22 : Nat} {eas : List Int} (h22 : lkp (ky 0 22) H = some (.slice p22 eas.length c22)) (hp22 : 0 < eas.length → ∃ b, p22 = some ⟨b, 0, none⟩) (hS10 : 0 < eas.length → lkp 10 S = some ⟨.slice p22 eas.length c22, 3, 1, eas.length, eas.map (Value.int .i64)⟩) {y : Int}
    (h10 : lkp (ky 0 10) H = some (.int .i64 (365 + Cal.lp y))) (h11 : lkp (ky 0 11) H = some (.int .i64 (365 + Cal.lp (y + 1)))) {b3 b4 b5 b6 c3 c4 c5 c6 : Nat} (h15 : lkp (ky 0 15) H = some (.slice (some ⟨b3, 0, none⟩) (nY y) c3)) (h17 : lkp (ky 0 17) H = some (.slice (some ⟨b4, 0, none⟩) (nY y) c4))
    (h18 : lkp (ky 0 18) H = some (.slice (some ⟨b5, 0, none⟩) (nY y) c5)) (h19 : lkp (ky 0 19) H = some (.slice (some ⟨b6, 0 + (ywd y).toNat * 1, none⟩) (385 - (ywd y).toNat) (c6 - (ywd y).toNat)))
    (hS3 : lkp 3 S = some ⟨.slice (some ⟨b3, 0, none⟩) (nY y) c3, 3, 1, nY y, (mmY y).map (Value.int .i64)⟩) (hS4 : lkp 4 S = some ⟨.slice (some ⟨b4, 0, none⟩) (nY y) c4, 3, 1, nY y, (mdY y).map (Value.int .i64)⟩) (hS5 : lkp 5 S = some ⟨.slice (some ⟨b5, 0, none⟩) (nY y) c5, 3, 1, nY y, (nmdY y).map (Value.int .i64)⟩)
    (hS6 : lkp 6 S = some ⟨.slice (some ⟨b6, 0, none⟩) 385 c6, 3, 1, 385, (wd 55).map (Value.int .i64)⟩) {v5 v6 v7 v98 v99 v100 : Value} {i : Int} (hi : 0 ≤ i ∧ i < nY y) (hwn : weekno.length ≠ 0 → i < wno.length) (hnw : nwm.length ≠ 0 → i < nwm.length) (hea : easter.length ≠ 0 → i < eas.length) (fC : Bool) (hfC : fC = (false || badC wday y i)) (hz : ¬ wday.length = 0) : GM Go.Proofs.Tryz.prog ops11 (Kn 1418 [(0, .pointer (some ⟨it, 0, none⟩)), (2, .pointer (some ⟨rb, 0, none⟩)), (5, v5), (6, v6), (7, v7), (9, .int .i64 i), (98, v98), (99, v99), (100, v100), (172, .bool fC)]) (List.take 24 (List.drop 42 ops11.toList)) 1418 [(0, .pointer (some ⟨it, 0, none⟩)), (2, .pointer (some ⟨rb, 0, none⟩)), (5, v5), (6, v6), (7, v7), (9, .int .i64 i), (98, v98), (99, v99), (100, v100), (148, .bool false)] F w0 B H S := by
  have hlp := Cal.lp_01 y
  have hlp2 := Cal.lp_01 (y + 1)
  have hny := nY_lp y
  have hyw : 0 ≤ ywd y ∧ ywd y ≤ 6 := by unfold ywd; omega
  refine GM_take rfl rfl ?_
  refine GM_rd (by decide) (rd_move rfl) ?_
  refine GM_take rfl rfl ?_
  refine GM_rd (by decide) (rd_nilCheck rfl) ?_
  refine GM_take rfl rfl ?_
  refine GM_rd (by decide) (rd_fieldAddr (j := 52) (by kernel_rfl) rfl) ?_
  refine GM_take rfl rfl ?_
  refine GM_rd (by decide) (rd_load 1 rfl hR r52 (by kernel_rfl) (by decide)) ?_
  refine GM_take rfl rfl ?_
  refine GM_rd (by decide) (rd_len (by kernel_rfl) rfl) ?_
  refine GM_take rfl rfl ?_
  refine GM_rd (by decide) ((rd_neq rfl rfl).to (congrArg Value.bool (n_ne (by omega)))) ?_
  refine GM_take rfl rfl ?_
  refine GM_rd (by decide) (rd_move rfl) ?_
  refine GM_take rfl rfl ?_
  refine GM_rd (by decide) (rd_move rfl) ?_
  refine GM_take rfl rfl ?_
  refine GM_rd (by decide) (rd_nilCheck rfl) ?_
  refine GM_take rfl rfl ?_
  refine GM_rd (by decide) (rd_fieldAddr (j := 52) (by kernel_rfl) rfl) ?_
  refine GM_take rfl rfl ?_
  refine GM_rd (by decide) (rd_load 1 rfl hR r52 (by kernel_rfl) (by decide)) ?_
  refine GM_take rfl rfl ?_
  refine GM_rd (by decide) (rd_move rfl) ?_
  refine GM_take rfl rfl ?_
  refine GM_rd (by decide) (rd_nilCheck rfl) ?_
  refine GM_take rfl rfl ?_
  refine GM_rd (by decide) (rd_fieldAddr (j := 7) (by kernel_rfl) rfl) ?_
  refine GM_take rfl rfl ?_
  refine GM_rd (by decide) (rd_fieldAddr (j := 12) (by kernel_rfl) rfl) ?_
  refine GM_take rfl rfl ?_
  refine GM_rd (by decide) (rd_load 0 rfl hB h19 (by kernel_rfl) (by decide)) ?_
  refine GM_take rfl rfl ?_
  refine GM_rd (by decide) (rd_move rfl) ?_
  refine GM_take rfl rfl ?_
  refine GM_rd (by decide) (rd_indexAddr (e := 3) (n := 1) (by kernel_rfl) rfl rfl (by omega) (by omega)) ?_
  refine GM_take rfl rfl ?_
  refine GM_rd (by decide) (rd_load_row 6 rfl hS6 rfl (wd_cell (x := (ywd y + i) % 7) (by omega) (by omega)) (by kernel_rfl)) ?_
  refine GM_take rfl rfl ?_
  refine GM_call_v (v := .bool (wday.any (· == ((ywd y + i) % 7)))) (by decide) (by kernel_rfl) rfl (fun w_ s_ => (contains_calls wday ((ywd y + i) % 7) _ hl52 w_ (hI52 w_ s_)).mono fun e_ w2_ h_ => ⟨h_.1.trans (congrArg Ending.returned rfl), h_.2⟩) ?_
  refine GM_take rfl rfl ?_
  refine GM_rd (by decide) (rd_not rfl) ?_
  refine GM_take rfl rfl ?_
  refine GM_rd (by decide) (rd_pick rfl rfl rfl) ?_
  refine GM_rd (by decide) ((rd_pick rfl rfl rfl).to (v' := .bool fC) (by rw [hfC]; simp [badC, hz])) ?_
  refine GM_rd (by decide) (rd_move rfl) ?_
  exact GM_nil (fun a k => k.cons rfl (k.cons rfl (k.cons rfl (k.cons rfl (k.cons rfl (k.cons rfl (k.cons rfl (k.cons rfl (k.cons rfl (k.cons rfl (k.nil)))))))))))
theorem ft_9 {it rb : Nat} (hB : lkp 0 B = some it) (hR : lkp 1 B = some rb) {p47 : Option Addr} {c47 : Nat} {month : List Int} (r47 : lkp (ky 1 47) H = some (.slice p47 month.length c47)) (hl47 : month.length ≤ 1000000000) (hI47 : ∀ w, Sees F w0 B H S w → Ints w (.slice p47 month.length c47) month) {p48 : Option Addr} {c48 : Nat} {mday : List Int} (r48 : lkp (ky 1 48) H = some (.slice p48 mday.length c48)) (hl48 : mday.length ≤ 1000000000) (hI48 : ∀ w, Sees F w0 B H S w → Ints w (.slice p48 mday.length c48) mday) {p49 : Option Addr} {c49 : Nat} {nmday : List Int} (r49 : lkp (ky 1 49) H = some (.slice p49 nmday.length c49)) (hl49 : nmday.length ≤ 1000000000) (hI49 : ∀ w, Sees F w0 B H S w → Ints w (.slice p49 nmday.length c49) nmday) {p50 : Option Addr} {c50 : Nat} {yday : List Int} (r50 : lkp (ky 1 50) H = some (.slice p50 yday.length c50)) (hl50 : yday.length ≤ 1000000000) (hI50 : ∀ w, Sees F w0 B H S w → Ints w (.slice p50 yday.length c50) yday) {p52 : Option Addr} {c52 : Nat} {wday : List Int} (r52 : lkp (ky 1 52) H = some (.slice p52 wday.length c52)) (hl52 : wday.length ≤ 1000000000) (hI52 : ∀ w, Sees F w0 B H S w → Ints w (.slice p52 wday.length c52) wday) {p51 p57 : Option Addr} {c51 c57 : Nat} {weekno easter : List Int} (r51 : lkp (ky 1 51) H = some (.slice p51 weekno.length c51)) (r57 : lkp (ky 1 57) H = some (.slice p57 easter.length c57)) {p20 : Option Addr} {c20 : Nat} {wno : List Int} (h20 : lkp (ky 0 20) H = some (.slice p20 wno.length c20)) (hp20 : 0 < wno.length → ∃ b, p20 = some ⟨b, 0, none⟩) (hS8 : 0 < wno.length → lkp 8 S = some ⟨.slice p20 wno.length c20, 3, 1, wno.length, wno.map (Value.int .i64)⟩) {p21 : Option Addr} {c21 : Nat} {nwm : List Int} (h21 : lkp (ky 0 21) H = some (.slice p21 nwm.length c21)) (hp21 : 0 < nwm.length → ∃ b, p21 = some ⟨b, 0, none⟩) (hS9 : 0 < nwm.length → lkp 9 S = some ⟨.slice p21 nwm.length c21, 3, 1, nwm.length, nwm.map (Value.int .i64)⟩) {p22 : Option Addr} {c22 : Nat} {eas : List Int} (h22 : lkp (ky 0 22) H = some (.slice p22 eas.length c22)) (hp22 : 0 < eas.length → ∃ b, p22 = some ⟨b, 0, none⟩) (hS10 : 0 < eas.length → lkp 10 S = some ⟨.slice p22 eas.length c22, 3, 1, eas.length, eas.map (Value.int .i64)⟩) {y : Int}
    (h10 : lkp (ky 0 10) H = some (.int .i64 (365 + Cal.lp y))) (h11 : lkp (ky 0 11) H = some (.int .i64 (365 + Cal.lp (y + 1)))) {b3 b4 b5 b6 c3 c4 c5 c6 : Nat} (h15 : lkp (ky 0 15) H = some (.slice (some ⟨b3, 0, none⟩) (nY y) c3)) (h17 : lkp (ky 0 17) H = some (.slice (some ⟨b4, 0, none⟩) (nY y) c4))
    (h18 : lkp (ky 0 18) H = some (.slice (some ⟨b5, 0, none⟩) (nY y) c5)) (h19 : lkp (ky 0 19) H = some (.slice (some ⟨b6, 0 + (ywd y).toNat * 1, none⟩) (385 - (ywd y).toNat) (c6 - (ywd y).toNat)))
    (hS3 : lkp 3 S = some ⟨.slice (some ⟨b3, 0, none⟩) (nY y) c3, 3, 1, nY y, (mmY y).map (Value.int .i64)⟩) (hS4 : lkp 4 S = some ⟨.slice (some ⟨b4, 0, none⟩) (nY y) c4, 3, 1, nY y, (mdY y).map (Value.int .i64)⟩) (hS5 : lkp 5 S = some ⟨.slice (some ⟨b5, 0, none⟩) (nY y) c5, 3, 1, nY y, (nmdY y).map (Value.int .i64)⟩)
    (hS6 : lkp 6 S = some ⟨.slice (some ⟨b6, 0, none⟩) 385 c6, 3, 1, 385, (wd 55).map (Value.int .i64)⟩) {v5 v6 v7 v98 v99 v100 : Value} {i : Int} (hi : 0 ≤ i ∧ i < nY y) (hwn : weekno.length ≠ 0 → i < wno.length) (hnw : nwm.length ≠ 0 → i < nwm.length) (hea : easter.length ≠ 0 → i < eas.length) (fD : Bool) (hfD : fD = (true || badD nwm i)) : GM Go.Proofs.Tryz.prog ops11 (Kn 1418 [(0, .pointer (some ⟨it, 0, none⟩)), (2, .pointer (some ⟨rb, 0, none⟩)), (5, v5), (6, v6), (7, v7), (9, .int .i64 i), (98, v98), (99, v99), (100, v100), (192, .bool fD)]) (List.take 20 (List.drop 66 ops11.toList)) 1418 [(0, .pointer (some ⟨it, 0, none⟩)), (2, .pointer (some ⟨rb, 0, none⟩)), (5, v5), (6, v6), (7, v7), (9, .int .i64 i), (98, v98), (99, v99), (100, v100), (172, .bool true)] F w0 B H S := by
  have hlp := Cal.lp_01 y
  have hlp2 := Cal.lp_01 (y + 1)
  have hny := nY_lp y
  have hyw : 0 ≤ ywd y ∧ ywd y ≤ 6 := by unfold ywd; omega
  refine GM_pass (by decide) rfl rfl (by decide) ?_
  refine GM_pass (by decide) rfl rfl (by decide) ?_
  refine GM_pass (by decide) rfl rfl (by decide) ?_
  refine GM_pass (by decide) rfl rfl (by decide) ?_
  refine GM_pass (by decide) rfl rfl (by decide) ?_
  refine GM_pass (by decide) rfl rfl (by decide) ?_
  refine GM_pass (by decide) rfl rfl (by decide) ?_
  refine GM_pass (by decide) rfl rfl (by decide) ?_
  refine GM_passu (by decide) rfl rfl ?_
  refine GM_passu (by decide) rfl rfl ?_
  refine GM_passu (by decide) rfl rfl ?_
  refine GM_passu (by decide) rfl rfl ?_
  refine GM_passu (by decide) rfl rfl ?_
  refine GM_passu (by decide) rfl rfl ?_
  refine GM_passu (by decide) rfl rfl ?_
  refine GM_passu (by decide) rfl rfl ?_
  refine GM_passu (by decide) rfl rfl ?_
  refine GM_pass (by decide) rfl rfl (by decide) ?_
  refine GM_rd (by decide) ((rd_pick rfl rfl rfl).to (v' := .bool fD) (by rw [hfD]; simp)) ?_
  refine GM_rd (by decide) (rd_move rfl) ?_
  exact GM_nil (fun a k => k.cons rfl (k.cons rfl (k.cons rfl (k.cons rfl (k.cons rfl (k.cons rfl (k.cons rfl (k.cons rfl (k.cons rfl (k.cons rfl (k.nil)))))))))))
theorem ft_10 {it rb : Nat} (hB : lkp 0 B = some it) (hR : lkp 1 B = some rb) {p47 : Option Addr} {c47 : Nat} {month : List Int} (r47 : lkp (ky 1 47) H = some (.slice p47 month.length c47)) (hl47 : month.length ≤ 1000000000) (hI47 : ∀ w, Sees F w0 B H S w → Ints w (.slice p47 month.length c47) month) {p48 : Option Addr} {c48 : Nat} {mday : List Int} (r48 : lkp (ky 1 48) H = some (.slice p48 mday.length c48)) (hl48 : mday.length ≤ 1000000000) (hI48 : ∀ w, Sees F w0 B H S w → Ints w (.slice p48 mday.length c48) mday) {p49 : Option Addr} {c49 : Nat} {nmday : List Int} (r49 : lkp (ky 1 49) H = some (.slice p49 nmday.length c49)) (hl49 : nmday.length ≤ 1000000000) (hI49 : ∀ w, Sees F w0 B H S w → Ints w (.slice p49 nmday.length c49) nmday) {p50 : Option Addr} {c50 : Nat} {yday : List Int} (r50 : lkp (ky 1 50) H = some (.slice p50 yday.length c50)) (hl50 : yday.length ≤ 1000000000) (hI50 : ∀ w, Sees F w0 B H S w → Ints w (.slice p50 yday.length c50) yday) {p52 : Option Addr} {c52 : Nat} {wday : List Int} (r52 : lkp (ky 1 52) H = some (.slice p52 wday.length c52)) (hl52 : wday.length ≤ 1000000000) (hI52 : ∀ w, Sees F w0 B H S w → Ints w (.slice p52 wday.length c52) wday) {p51 p57 : Option Addr} {c51 c57 : Nat} {weekno easter : List Int} (r51 : lkp (ky 1 51) H = some (.slice p51 weekno.length c51)) (r57 : lkp (ky 1 57) H = some (.slice p57 easter.length c57)) {p20 : Option Addr} {c20 : Nat} {wno : List Int} (h20 : lkp (ky 0 20) H = some (.slice p20 wno.length c20)) (hp20 : 0 < wno.length → ∃ b, p20 = some ⟨b, 0, none⟩) (hS8 : 0 < wno.length → lkp 8 S = some ⟨.slice p20 wno.length c20, 3, 1, wno.length, wno.map (Value.int .i64)⟩) {p21 : Option Addr} {c21 : Nat} {nwm : List Int} (h21 : lkp (ky 0 21) H = some (.slice p21 nwm.length c21)) (hp21 : 0 < nwm.length → ∃ b, p21 = some ⟨b, 0, none⟩) (hS9 : 0 < nwm.length → lkp 9 S = some ⟨.slice p21 nwm.length c21, 3, 1, nwm.length, nwm.map (Value.int .i64)⟩) {p22 : Option Addr} {c22 : Nat} {eas : List Int} (h22 : lkp (ky 0 22) H = some (.slice p22 eas.length c22)) (hp22 : 0 < eas.length → ∃ b, p22 = some ⟨b, 0, none⟩) (hS10 : 0 < eas.length → lkp 10 S = some ⟨.slice p22 eas.length c22, 3, 1, eas.length, eas.map (Value.int .i64)⟩) {y : Int}
    (h10 : lkp (ky 0 10) H = some (.int .i64 (365 + Cal.lp y))) (h11 : lkp (ky 0 11) H = some (.int .i64 (365 + Cal.lp (y + 1)))) {b3 b4 b5 b6 c3 c4 c5 c6 : Nat} (h15 : lkp (ky 0 15) H = some (.slice (some ⟨b3, 0, none⟩) (nY y) c3)) (h17 : lkp (ky 0 17) H = some (.slice (some ⟨b4, 0, none⟩) (nY y) c4))
    (h18 : lkp (ky 0 18) H = some (.slice (some ⟨b5, 0, none⟩) (nY y) c5)) (h19 : lkp (ky 0 19) H = some (.slice (some ⟨b6, 0 + (ywd y).toNat * 1, none⟩) (385 - (ywd y).toNat) (c6 - (ywd y).toNat)))
    (hS3 : lkp 3 S = some ⟨.slice (some ⟨b3, 0, none⟩) (nY y) c3, 3, 1, nY y, (mmY y).map (Value.int .i64)⟩) (hS4 : lkp 4 S = some ⟨.slice (some ⟨b4, 0, none⟩) (nY y) c4, 3, 1, nY y, (mdY y).map (Value.int .i64)⟩) (hS5 : lkp 5 S = some ⟨.slice (some ⟨b5, 0, none⟩) (nY y) c5, 3, 1, nY y, (nmdY y).map (Value.int .i64)⟩)
    (hS6 : lkp 6 S = some ⟨.slice (some ⟨b6, 0, none⟩) 385 c6, 3, 1, 385, (wd 55).map (Value.int .i64)⟩) {v5 v6 v7 v98 v99 v100 : Value} {i : Int} (hi : 0 ≤ i ∧ i < nY y) (hwn : weekno.length ≠ 0 → i < wno.length) (hnw : nwm.length ≠ 0 → i < nwm.length) (hea : easter.length ≠ 0 → i < eas.length) (fD : Bool) (hfD : fD = (false || badD nwm i)) (hz : nwm.length = 0) : GM Go.Proofs.Tryz.prog ops11 (Kn 1418 [(0, .pointer (some ⟨it, 0, none⟩)), (2, .pointer (some ⟨rb, 0, none⟩)), (5, v5), (6, v6), (7, v7), (9, .int .i64 i), (98, v98), (99, v99), (100, v100), (192, .bool fD)]) (List.take 20 (List.drop 66 ops11.toList)) 1418 [(0, .pointer (some ⟨it, 0, none⟩)), (2, .pointer (some ⟨rb, 0, none⟩)), (5, v5), (6, v6), (7, v7), (9, .int .i64 i), (98, v98), (99, v99), (100, v100), (172, .bool false)] F w0 B H S := by
  have hlp := Cal.lp_01 y
  have hlp2 := Cal.lp_01 (y + 1)
  have hny := nY_lp y
  have hyw : 0 ≤ ywd y ∧ ywd y ≤ 6 := by unfold ywd; omega
  refine GM_take rfl rfl ?_
  refine GM_rd (by decide) (rd_move rfl) ?_
  refine GM_take rfl rfl ?_
  refine GM_rd (by decide) (rd_nilCheck rfl) ?_
  refine GM_take rfl rfl ?_
  refine GM_rd (by decide) (rd_fieldAddr (j := 7) (by kernel_rfl) rfl) ?_
  refine GM_take rfl rfl ?_
  refine GM_rd (by decide) (rd_fieldAddr (j := 14) (by kernel_rfl) rfl) ?_
  refine GM_take rfl rfl ?_
  refine GM_rd (by decide) (rd_load 0 rfl hB h21 (by kernel_rfl) (by decide)) ?_
  refine GM_take rfl rfl ?_
  refine GM_rd (by decide) (rd_len (by kernel_rfl) rfl) ?_
  refine GM_take rfl rfl ?_
  refine GM_rd (by decide) ((rd_neq rfl rfl).to (congrArg Value.bool (n_eq (by omega)))) ?_
  refine GM_take rfl rfl ?_
  refine GM_rd (by decide) (rd_move rfl) ?_
  refine GM_pass (by decide) rfl rfl (by decide) ?_
  refine GM_pass (by decide) rfl rfl (by decide) ?_
  refine GM_pass (by decide) rfl rfl (by decide) ?_
  refine GM_pass (by decide) rfl rfl (by decide) ?_
  refine GM_pass (by decide) rfl rfl (by decide) ?_
  refine GM_pass (by decide) rfl rfl (by decide) ?_
  refine GM_pass (by decide) rfl rfl (by decide) ?_
  refine GM_pass (by decide) rfl rfl (by decide) ?_
  refine GM_pass (by decide) rfl rfl (by decide) ?_
  refine GM_take rfl rfl ?_
  refine GM_rd (by decide) (rd_pick rfl rfl rfl) ?_
  refine GM_rd (by decide) ((rd_pick rfl rfl rfl).to (v' := .bool fD) (by rw [hfD]; simp [badD, hz])) ?_
  refine GM_rd (by decide) (rd_move rfl) ?_
  exact GM_nil (fun a k => k.cons rfl (k.cons rfl (k.cons rfl (k.cons rfl (k.cons rfl (k.cons rfl (k.cons rfl (k.cons rfl (k.cons rfl (k.cons rfl (k.nil)))))))))))
theorem ft_11 {it rb : Nat} (hB : lkp 0 B = some it) (hR : lkp 1 B = some rb) {p47 : Option Addr} {c47 : Nat} {month : List Int} (r47 : lkp (ky 1 47) H = some (.slice p47 month.length c47)) (hl47 : month.length ≤ 1000000000) (hI47 : ∀ w, Sees F w0 B H S w → Ints w (.slice p47 month.length c47) month) {p48 : Option Addr} {c48 : Nat} {mday : List Int} (r48 : lkp (ky 1 48) H = some (.slice p48 mday.length c48)) (hl48 : mday.length ≤ 1000000000) (hI48 : ∀ w, Sees F w0 B H S w → Ints w (.slice p48 mday.length c48) mday) {p49 : Option Addr} {c49 : Nat} {nmday : List Int} (r49 : lkp (ky 1 49) H = some (.slice p49 nmday.length c49)) (hl49 : nmday.length ≤ 1000000000) (hI49 : ∀ w, Sees F w0 B H S w → Ints w (.slice p49 nmday.length c49) nmday) {p50 : Option Addr} {c50 : Nat} {yday : List Int} (r50 : lkp (ky 1 50) H = some (.slice p50 yday.length c50)) (hl50 : yday.length ≤ 1000000000) (hI50 : ∀ w, Sees F w0 B H S w → Ints w (.slice p50 yday.length c50) yday) {p52 : Option Addr} {c52 : Nat} {wday : List Int} (r52 : lkp (ky 1 52) H = some (.slice p52 wday.length c52)) (hl52 : wday.length ≤ 1000000000) (hI52 : ∀ w, Sees F w0 B H S w → Ints w (.slice p52 wday.length c52) wday) {p51 p57 : Option Addr} {c51 c57 : Nat} {weekno easter : List Int} (r51 : lkp (ky 1 51) H = some (.slice p51 weekno.length c51)) (r57 : lkp (ky 1 57) H = some (.slice p57 easter.length c57)) {p20 : Option Addr} {c20 : Nat} {wno : List Int} (h20 : lkp (ky 0 20) H = some (.slice p20 wno.length c20)) (hp20 : 0 < wno.length → ∃ b, p20 = some ⟨b, 0, none⟩) (hS8 : 0 < wno.length → lkp 8 S = some ⟨.slice p20 wno.length c20, 3, 1, wno.length, wno.map (Value.int .i64)⟩) {p21 : Option Addr} {c21 : Nat} {nwm : List Int} (h21 : lkp (ky 0 21) H = some (.slice p21 nwm.length c21)) (hp21 : 0 < nwm.length → ∃ b, p21 = some ⟨b, 0, none⟩) (hS9 : 0 < nwm.length → lkp 9 S = some ⟨.slice p21 nwm.length c21, 3, 1, nwm.length, nwm.map (Value.int .i64)⟩) {p22 : Option Addr} {c22 : Nat} {eas : List Int} (h22 : lkp (ky 0 22) H = some (.slice p22 eas.length c22)) (hp22 : 0 < eas.length → ∃ b, p22 = some ⟨b, 0, none⟩) (hS10 : 0 < eas.length → lkp 10 S = some ⟨.slice p22 eas.length c22, 3, 1, eas.length, eas.map (Value.int .i64)⟩) {y : Int}
    (h10 : lkp (ky 0 10) H = some (.int .i64 (365 + Cal.lp y))) (h11 : lkp (ky 0 11) H = some (.int .i64 (365 + Cal.lp (y + 1)))) {b3 b4 b5 b6 c3 c4 c5 c6 : Nat} (h15 : lkp (ky 0 15) H = some (.slice (some ⟨b3, 0, none⟩) (nY y) c3)) (h17 : lkp (ky 0 17) H = some (.slice (some ⟨b4, 0, none⟩) (nY y) c4))
    (h18 : lkp (ky 0 18) H = some (.slice (some ⟨b5, 0, none⟩) (nY y) c5)) (h19 : lkp (ky 0 19) H = some (.slice (some ⟨b6, 0 + (ywd y).toNat * 1, none⟩) (385 - (ywd y).toNat) (c6 - (ywd y).toNat)))
    (hS3 : lkp 3 S = some ⟨.slice (some ⟨b3, 0, none⟩) (nY y) c3, 3, 1, nY y, (mmY y).map (Value.int .i64)⟩) (hS4 : lkp 4 S = some ⟨.slice (some ⟨b4, 0, none⟩) (nY y) c4, 3, 1, nY y, (mdY y).map (Value.int .i64)⟩) (hS5 : lkp 5 S = some ⟨.slice (some ⟨b5, 0, none⟩) (nY y) c5, 3, 1, nY y, (nmdY y).map (Value.int .i64)⟩)
    (hS6 : lkp 6 S = some ⟨.slice (some ⟨b6, 0, none⟩) 385 c6, 3, 1, 385, (wd 55).map (Value.int .i64)⟩) {v5 v6 v7 v98 v99 v100 : Value} {i : Int} (hi : 0 ≤ i ∧ i < nY y) (hwn : weekno.length ≠ 0 → i < wno.length) (hnw : nwm.length ≠ 0 → i < nwm.length) (hea : easter.length ≠ 0 → i < eas.length) (fD : Bool) (hfD : fD = (false || badD nwm i)) (hz : ¬ nwm.length = 0) : GM Go.Proofs.Tryz.prog ops11 (Kn 1418 [(0, .pointer (some ⟨it, 0, none⟩)), (2, .pointer (some ⟨rb, 0, none⟩)), (5, v5), (6, v6), (7, v7), (9, .int .i64 i), (98, v98), (99, v99), (100, v100), (192, .bool fD)]) (List.take 20 (List.drop 66 ops11.toList)) 1418 [(0, .pointer (some ⟨it, 0, none⟩)), (2, .pointer (some ⟨rb, 0, none⟩)), (5, v5), (6, v6), (7, v7), (9, .int .i64 i), (98, v98), (99, v99), (100, v100), (172, .bool false)] F w0 B H S := by
  have hlp := Cal.lp_01 y
  have hlp2 := Cal.lp_01 (y + 1)
  have hny := nY_lp y
  have hyw : 0 ≤ ywd y ∧ ywd y ≤ 6 := by unfold ywd; omega
  have hiw := hnw hz
  obtain ⟨b8, rfl⟩ := hp21 (by omega)
  have hS9 := hS9 (by omega)
  refine GM_take rfl rfl ?_
  refine GM_rd (by decide) (rd_move rfl) ?_
  refine GM_take rfl rfl ?_
  refine GM_rd (by decide) (rd_nilCheck rfl) ?_
  refine GM_take rfl rfl ?_
  refine GM_rd (by decide) (rd_fieldAddr (j := 7) (by kernel_rfl) rfl) ?_
  refine GM_take rfl rfl ?_
  refine GM_rd (by decide) (rd_fieldAddr (j := 14) (by kernel_rfl) rfl) ?_
  refine GM_take rfl rfl ?_
  refine GM_rd (by decide) (rd_load 0 rfl hB h21 (by kernel_rfl) (by decide)) ?_
  refine GM_take rfl rfl ?_
  refine GM_rd (by decide) (rd_len (by kernel_rfl) rfl) ?_
  refine GM_take rfl rfl ?_
  refine GM_rd (by decide) ((rd_neq rfl rfl).to (congrArg Value.bool (n_ne (by omega)))) ?_
  refine GM_take rfl rfl ?_
  refine GM_rd (by decide) (rd_move rfl) ?_
  refine GM_take rfl rfl ?_
  refine GM_rd (by decide) (rd_move rfl) ?_
  refine GM_take rfl rfl ?_
  refine GM_rd (by decide) (rd_nilCheck rfl) ?_
  refine GM_take rfl rfl ?_
  refine GM_rd (by decide) (rd_fieldAddr (j := 7) (by kernel_rfl) rfl) ?_
  refine GM_take rfl rfl ?_
  refine GM_rd (by decide) (rd_fieldAddr (j := 14) (by kernel_rfl) rfl) ?_
  refine GM_take rfl rfl ?_
  refine GM_rd (by decide) (rd_load 0 rfl hB h21 (by kernel_rfl) (by decide)) ?_
  refine GM_take rfl rfl ?_
  refine GM_rd (by decide) (rd_move rfl) ?_
  refine GM_take rfl rfl ?_
  refine GM_rd (by decide) (rd_indexAddr (e := 3) (n := 1) (by kernel_rfl) rfl rfl (by omega) (by omega)) ?_
  refine GM_take rfl rfl ?_
  refine GM_rd (by decide) (rd_load_row 9 rfl hS9 rfl (tab_cell rfl hi.1 hiw) (by kernel_rfl)) ?_
  refine GM_take rfl rfl ?_
  refine GM_rd (by decide) (rd_eql rfl rfl) ?_
  refine GM_take rfl rfl ?_
  refine GM_rd (by decide) (rd_pick rfl rfl rfl) ?_
  refine GM_rd (by decide) ((rd_pick rfl rfl rfl).to (v' := .bool fD) (by rw [hfD]; simp [badD, hz])) ?_
  refine GM_rd (by decide) (rd_move rfl) ?_
  exact GM_nil (fun a k => k.cons rfl (k.cons rfl (k.cons rfl (k.cons rfl (k.cons rfl (k.cons rfl (k.cons rfl (k.cons rfl (k.cons rfl (k.cons rfl (k.nil)))))))))))
theorem ft_12 {it rb : Nat} (hB : lkp 0 B = some it) (hR : lkp 1 B = some rb) {p47 : Option Addr} {c47 : Nat} {month : List Int} (r47 : lkp (ky 1 47) H = some (.slice p47 month.length c47)) (hl47 : month.length ≤ 1000000000) (hI47 : ∀ w, Sees F w0 B H S w → Ints w (.slice p47 month.length c47) month) {p48 : Option Addr} {c48 : Nat} {mday : List Int} (r48 : lkp (ky 1 48) H = some (.slice p48 mday.length c48)) (hl48 : mday.length ≤ 1000000000) (hI48 : ∀ w, Sees F w0 B H S w → Ints w (.slice p48 mday.length c48) mday) {p49 : Option Addr} {c49 : Nat} {nmday : List Int} (r49 : lkp (ky 1 49) H = some (.slice p49 nmday.length c49)) (hl49 : nmday.length ≤ 1000000000) (hI49 : ∀ w, Sees F w0 B H S w → Ints w (.slice p49 nmday.length c49) nmday) {p50 : Option Addr} {c50 : Nat} {yday : List Int} (r50 : lkp (ky 1 50) H = some (.slice p50 yday.length c50)) (hl50 : yday.length ≤ 1000000000) (hI50 : ∀ w, Sees F w0 B H S w → Ints w (.slice p50 yday.length c50) yday) {p52 : Option Addr} {c52 : Nat} {wday : List Int} (r52 : lkp (ky 1 52) H = some (.slice p52 wday.length c52)) (hl52 : wday.length ≤ 1000000000) (hI52 : ∀ w, Sees F w0 B H S w → Ints w (.slice p52 wday.length c52) wday) {p51 p57 : Option Addr} {c51 c57 : Nat} {weekno easter : List Int} (r51 : lkp (ky 1 51) H = some (.slice p51 weekno.length c51)) (r57 : lkp (ky 1 57) H = some (.slice p57 easter.length c57)) {p20 : Option Addr} {c20 : Nat} {wno : List Int} (h20 : lkp (ky 0 20) H = some (.slice p20 wno.length c20)) (hp20 : 0 < wno.length → ∃ b, p20 = some ⟨b, 0, none⟩) (hS8 : 0 < wno.length → lkp 8 S = some ⟨.slice p20 wno.length c20, 3, 1, wno.length, wno.map (Value.int .i64)⟩) {p21 : Option Addr} {c21 : Nat} {nwm : List Int} (h21 : lkp (ky 0 21) H = some (.slice p21 nwm.length c21)) (hp21 : 0 < nwm.length → ∃ b, p21 = some ⟨b, 0, none⟩) (hS9 : 0 < nwm.length → lkp 9 S = some ⟨.slice p21 nwm.length c21, 3, 1, nwm.length, nwm.map (Value.int .i64)⟩) {p22 : Option Addr} {c22 : Nat} {eas : List Int} (h22 : lkp (ky 0 22) H = some (.slice p22 eas.length c22)) (hp22 : 0 < eas.length → ∃ b, p22 = some ⟨b, 0, none⟩) (hS10 : 0 < eas.length → lkp 10 S = some ⟨.slice p22 eas.length c22, 3, 1, eas.length, eas.map (Value.int .i64)⟩) {y : Int}
    (h10 : lkp (ky 0 10) H = some (.int .i64 (365 + Cal.lp y))) (h11 : lkp (ky 0 11) H = some (.int .i64 (365 + Cal.lp (y + 1)))) {b3 b4 b5 b6 c3 c4 c5 c6 : Nat} (h15 : lkp (ky 0 15) H = some (.slice (some ⟨b3, 0, none⟩) (nY y) c3)) (h17 : lkp (ky 0 17) H = some (.slice (some ⟨b4, 0, none⟩) (nY y) c4))
    (h18 : lkp (ky 0 18) H = some (.slice (some ⟨b5, 0, none⟩) (nY y) c5)) (h19 : lkp (ky 0 19) H = some (.slice (some ⟨b6, 0 + (ywd y).toNat * 1, none⟩) (385 - (ywd y).toNat) (c6 - (ywd y).toNat)))
    (hS3 : lkp 3 S = some ⟨.slice (some ⟨b3, 0, none⟩) (nY y) c3, 3, 1, nY y, (mmY y).map (Value.int .i64)⟩) (hS4 : lkp 4 S = some ⟨.slice (some ⟨b4, 0, none⟩) (nY y) c4, 3, 1, nY y, (mdY y).map (Value.int .i64)⟩) (hS5 : lkp 5 S = some ⟨.slice (some ⟨b5, 0, none⟩) (nY y) c5, 3, 1, nY y, (nmdY y).map (Value.int .i64)⟩)
    (hS6 : lkp 6 S = some ⟨.slice (some ⟨b6, 0, none⟩) 385 c6, 3, 1, 385, (wd 55).map (Value.int .i64)⟩) {v5 v6 v7 v98 v99 v100 : Value} {i : Int} (hi : 0 ≤ i ∧ i < nY y) (hwn : weekno.length ≠ 0 → i < wno.length) (hnw : nwm.length ≠ 0 → i < nwm.length) (hea : easter.length ≠ 0 → i < eas.length) (fE : Bool) (hfE : fE = (true || badE easter eas i)) : GM Go.Proofs.Tryz.prog ops11 (Kn 1418 [(0, .pointer (some ⟨it, 0, none⟩)), (2, .pointer (some ⟨rb, 0, none⟩)), (5, v5), (6, v6), (7, v7), (9, .int .i64 i), (98, v98), (99, v99), (100, v100), (211, .bool fE)]) (List.take 19 (List.drop 86 ops11.toList)) 1418 [(0, .pointer (some ⟨it, 0, none⟩)), (2, .pointer (some ⟨rb, 0, none⟩)), (5, v5), (6, v6), (7, v7), (9, .int .i64 i), (98, v98), (99, v99), (100, v100), (192, .bool true)] F w0 B H S := by
  have hlp := Cal.lp_01 y
  have hlp2 := Cal.lp_01 (y + 1)
  have hny := nY_lp y
  have hyw : 0 ≤ ywd y ∧ ywd y ≤ 6 := by unfold ywd; omega
  refine GM_pass (by decide) rfl rfl (by decide) ?_
  refine GM_pass (by decide) rfl rfl (by decide) ?_
  refine GM_pass (by decide) rfl rfl (by decide) ?_
  refine GM_pass (by decide) rfl rfl (by decide) ?_
  refine GM_pass (by decide) rfl rfl (by decide) ?_
  refine GM_pass (by decide) rfl rfl (by decide) ?_
  refine GM_pass (by decide) rfl rfl (by decide) ?_
  refine GM_passu (by decide) rfl rfl ?_
  refine GM_passu (by decide) rfl rfl ?_
  refine GM_passu (by decide) rfl rfl ?_
  refine GM_passu (by decide) rfl rfl ?_
  refine GM_passu (by decide) rfl rfl ?_
  refine GM_passu (by decide) rfl rfl ?_
  refine GM_passu (by decide) rfl rfl ?_
  refine GM_passu (by decide) rfl rfl ?_
  refine GM_passu (by decide) rfl rfl ?_
  refine GM_pass (by decide) rfl rfl (by decide) ?_
  refine GM_rd (by decide) ((rd_pick rfl rfl rfl).to (v' := .bool fE) (by rw [hfE]; simp)) ?_
  refine GM_rd (by decide) (rd_move rfl) ?_
  exact GM_nil (fun a k => k.cons rfl (k.cons rfl (k.cons rfl (k.cons rfl (k.cons rfl (k.cons rfl (k.cons rfl (k.cons rfl (k.cons rfl (k.cons rfl (k.nil)))))))))))
theorem ft_13 {it rb : Nat} (hB : lkp 0 B = some it) (hR : lkp 1 B = some rb) {p47 : Option Addr} {c47 : Nat} {month : List Int} (r47 : lkp (ky 1 47) H = some (.slice p47 month.length c47)) (hl47 : month.length ≤ 1000000000) (hI47 : ∀ w, Sees F w0 B H S w → Ints w (.slice p47 month.length c47) month) {p48 : Option Addr} {c48 : Nat} {mday : List Int} (r48 : lkp (ky 1 48) H = some (.slice p48 mday.length c48)) (hl48 : mday.length ≤ 1000000000) (hI48 : ∀ w, Sees F w0 B H S w → Ints w (.slice p48 mday.length c48) mday) {p49 : Option Addr} {c49 : Nat} {nmday : List Int} (r49 : lkp (ky 1 49) H = some (.slice p49 nmday.length c49)) (hl49 : nmday.length ≤ 1000000000) (hI49 : ∀ w, Sees F w0 B H S w → Ints w (.slice p49 nmday.length c49) nmday) {p50 : Option Addr} {c50 : Nat} {yday : List Int} (r50 : lkp (ky 1 50) H = some (.slice p50 yday.length c50)) (hl50 : yday.length ≤ 1000000000) (hI50 : ∀ w, Sees F w0 B H S w → Ints w (.slice p50 yday.length c50) yday) {p52 : Option Addr} {c52 : Nat} {wday : List Int} (r52 : lkp (ky 1 52) H = some (.slice p52 wday.length c52)) (hl52 : wday.length ≤ 1000000000) (hI52 : ∀ w, Sees F w0 B H S w → Ints w (.slice p52 wday.length c52) wday) {p51 p57 : Option Addr} {c51 c57 : Nat} {weekno easter : List Int} (r51 : lkp (ky 1 51) H = some (.slice p51 weekno.length c51)) (r57 : lkp (ky 1 57) H = some (.slice p57 easter.length c57)) {p20 : Option Addr} {c20 : Nat} {wno : List Int} (h20 : lkp (ky 0 20) H = some (.slice p20 wno.length c20)) (hp20 : 0 < wno.length → ∃ b, p20 = some ⟨b, 0, none⟩) (hS8 : 0 < wno.length → lkp 8 S = some ⟨.slice p20 wno.length c20, 3, 1, wno.length, wno.map (Value.int .i64)⟩) {p21 : Option Addr} {c21 : Nat} {nwm : List Int} (h21 : lkp (ky 0 21) H = some (.slice p21 nwm.length c21)) (hp21 : 0 < nwm.length → ∃ b, p21 = some ⟨b, 0, none⟩) (hS9 : 0 < nwm.length → lkp 9 S = some ⟨.slice p21 nwm.length c21, 3, 1, nwm.length, nwm.map (Value.int .i64)⟩) {p22 : Option Addr} {c22 : Nat} {eas : List Int} (h22 : lkp (ky 0 22) H = some (.slice p22 eas.length c22)) (hp22 : 0 < eas.length → ∃ b, p22 = some ⟨b, 0, none⟩) (hS10 : 0 < eas.length → lkp 10 S = some ⟨.slice p22 eas.length c22, 3, 1, eas.length, eas.map (Value.int .i64)⟩) {y : Int}
    (h10 : lkp (ky 0 10) H = some (.int .i64 (365 + Cal.lp y))) (h11 : lkp (ky 0 11) H = some (.int .i64 (365 + Cal.lp (y + 1)))) {b3 b4 b5 b6 c3 c4 c5 c6 : Nat} (h15 : lkp (ky 0 15) H = some (.slice (some ⟨b3, 0, none⟩) (nY y) c3)) (h17 : lkp (ky 0 17) H = some (.slice (some ⟨b4, 0, none⟩) (nY y) c4))
    (h18 : lkp (ky 0 18) H = some (.slice (some ⟨b5, 0, none⟩) (nY y) c5)) (h19 : lkp (ky 0 19) H = some (.slice (some ⟨b6, 0 + (ywd y).toNat * 1, none⟩) (385 - (ywd y).toNat) (c6 - (ywd y).toNat)))
    (hS3 : lkp 3 S = some ⟨.slice (some ⟨b3, 0, none⟩) (nY y) c3, 3, 1, nY y, (mmY y).map (Value.int .i64)⟩) (hS4 : lkp 4 S = some ⟨.slice (some ⟨b4, 0, none⟩) (nY y) c4, 3, 1, nY y, (mdY y).map (Value.int .i64)⟩) (hS5 : lkp 5 S = some ⟨.slice (some ⟨b5, 0, none⟩) (nY y) c5, 3, 1, nY y, (nmdY y).map (Value.int .i64)⟩)
    (hS6 : lkp 6 S = some ⟨.slice (some ⟨b6, 0, none⟩) 385 c6, 3, 1, 385, (wd 55).map (Value.int .i64)⟩) {v5 v6 v7 v98 v99 v100 : Value} {i : Int} (hi : 0 ≤ i ∧ i < nY y) (hwn : weekno.length ≠ 0 → i < wno.length) (hnw : nwm.length ≠ 0 → i < nwm.length) (hea : easter.length ≠ 0 → i < eas.length) (fE : Bool) (hfE : fE = (false || badE easter eas i)) (hz : easter.length = 0) : GM Go.Proofs.Tryz.prog ops11 (Kn 1418 [(0, .pointer (some ⟨it, 0, none⟩)), (2, .pointer (some ⟨rb, 0, none⟩)), (5, v5), (6, v6), (7, v7), (9, .int .i64 i), (98, v98), (99, v99), (100, v100), (211, .bool fE)]) (List.take 19 (List.drop 86 ops11.toList)) 1418 [(0, .pointer (some ⟨it, 0, none⟩)), (2, .pointer (some ⟨rb, 0, none⟩)), (5, v5), (6, v6), (7, v7), (9, .int .i64 i), (98, v98), (99, v99), (100, v100), (192, .bool false)] F w0 B H S := by
  have hlp := Cal.lp_01 y
  have hlp2 := Cal.lp_01 (y + 1)
  have hny := nY_lp y
  have hyw : 0 ≤ ywd y ∧ ywd y ≤ 6 := by unfold ywd; omega
  refine GM_take rfl rfl ?_
  refine GM_rd (by decide) (rd_move rfl) ?_
  refine GM_take rfl rfl ?_
  refine GM_rd (by decide) (rd_nilCheck rfl) ?_
  refine GM_take rfl rfl ?_
  refine GM_rd (by decide) (rd_fieldAddr (j := 57) (by kernel_rfl) rfl) ?_
  refine GM_take rfl rfl ?_
  refine GM_rd (by decide) (rd_load 1 rfl hR r57 (by kernel_rfl) (by decide)) ?_
  refine GM_take rfl rfl ?_
  refine GM_rd (by decide) (rd_len (by kernel_rfl) rfl) ?_
  refine GM_take rfl rfl ?_
  refine GM_rd (by decide) ((rd_neq rfl rfl).to (congrArg Value.bool (n_eq (by omega)))) ?_
  refine GM_take rfl rfl ?_
  refine GM_rd (by decide) (rd_move rfl) ?_
  refine GM_pass (by decide) rfl rfl (by decide) ?_
  refine GM_pass (by decide) rfl rfl (by decide) ?_
  refine GM_pass (by decide) rfl rfl (by decide) ?_
  refine GM_pass (by decide) rfl rfl (by decide) ?_
  refine GM_pass (by decide) rfl rfl (by decide) ?_
  refine GM_pass (by decide) rfl rfl (by decide) ?_
  refine GM_pass (by decide) rfl rfl (by decide) ?_
  refine GM_pass (by decide) rfl rfl (by decide) ?_
  refine GM_pass (by decide) rfl rfl (by decide) ?_
  refine GM_take rfl rfl ?_
  refine GM_rd (by decide) (rd_pick rfl rfl rfl) ?_
  refine GM_rd (by decide) ((rd_pick rfl rfl rfl).to (v' := .bool fE) (by rw [hfE]; simp [badE, hz])) ?_
  refine GM_rd (by decide) (rd_move rfl) ?_
  exact GM_nil (fun a k => k.cons rfl (k.cons rfl (k.cons rfl (k.cons rfl (k.cons rfl (k.cons rfl (k.cons rfl (k.cons rfl (k.cons rfl (k.cons rfl (k.nil)))))))))))
theorem ft_14 {it rb : Nat} (hB : lkp 0 B = some it) (hR : lkp 1 B = some rb) {p47 : Option Addr} {c47 : Nat} {month : List Int} (r47 : lkp (ky 1 47) H = some (.slice p47 month.length c47)) (hl47 : month.length ≤ 1000000000) (hI47 : ∀ w, Sees F w0 B H S w → Ints w (.slice p47 month.length c47) month) {p48 : Option Addr} {c48 : Nat} {mday : List Int} (r48 : lkp (ky 1 48) H = some (.slice p48 mday.length c48)) (hl48 : mday.length ≤ 1000000000) (hI48 : ∀ w, Sees F w0 B H S w → Ints w (.slice p48 mday.length c48) mday) {p49 : Option Addr} {c49 : Nat} {nmday : List Int} (r49 : lkp (ky 1 49) H = some (.slice p49 nmday.length c49)) (hl49 : nmday.length ≤ 1000000000) (hI49 : ∀ w, Sees F w0 B H S w → Ints w (.slice p49 nmday.length c49) nmday) {p50 : Option Addr} {c50 : Nat} {yday : List Int} (r50 : lkp (ky 1 50) H = some (.slice p50 yday.length c50)) (hl50 : yday.length ≤ 1000000000) (hI50 : ∀ w, Sees F w0 B H S w → Ints w (.slice p50 yday.length c50) yday) {p52 : Option Addr} {c52 : Nat} {wday : List Int} (r52 : lkp (ky 1 52) H = some (.slice p52 wday.length c52)) (hl52 : wday.length ≤ 1000000000) (hI52 : ∀ w, Sees F w0 B H S w → Ints w (.slice p52 wday.length c52) wday) {p51 p57 : Option Addr} {c51 c57 : Nat} {weekno easter : List Int} (r51 : lkp (ky 1 51) H = some (.slice p51 weekno.length c51)) (r57 : lkp (ky 1 57) H = some (.slice p57 easter.length c57)) {p20 : Option Addr} {c20 : Nat} {wno : List Int} (h20 : lkp (ky 0 20) H = some (.slice p20 wno.length c20)) (hp20 : 0 < wno.length → ∃ b, p20 = some ⟨b, 0, none⟩) (hS8 : 0 < wno.length → lkp 8 S = some ⟨.slice p20 wno.length c20, 3, 1, wno.length, wno.map (Value.int .i64)⟩) {p21 : Option Addr} {c21 : Nat} {nwm : List Int} (h21 : lkp (ky 0 21) H = some (.slice p21 nwm.length c21)) (hp21 : 0 < nwm.length → ∃ b, p21 = some ⟨b, 0, none⟩) (hS9 : 0 < nwm.length → lkp 9 S = some ⟨.slice p21 nwm.length c21, 3, 1, nwm.length, nwm.map (Value.int .i64)⟩) {p22 : Option Addr} {c22 : Nat} {eas : List Int} (h22 : lkp (ky 0 22) H = some (.slice p22 eas.length c22)) (hp22 : 0 < eas.length → ∃ b, p22 = some ⟨b, 0, none⟩) (hS10 : 0 < eas.length → lkp 10 S = some ⟨.slice p22 eas.length c22, 3, 1, eas.length, eas.map (Value.int .i64)⟩) {y : Int}
    (h10 : lkp (ky 0 10) H = some (.int .i64 (365 + Cal.lp y))) (h11 : lkp (ky 0 11) H = some (.int .i64 (365 + Cal.lp (y + 1)))) {b3 b4 b5 b6 c3 c4 c5 c6 : Nat} (h15 : lkp (ky 0 15) H = some (.slice (some ⟨b3, 0, none⟩) (nY y) c3)) (h17 : lkp (ky 0 17) H = some (.slice (some ⟨b4, 0, none⟩) (nY y) c4))
    (h18 : lkp (ky 0 18) H = some (.slice (some ⟨b5, 0, none⟩) (nY y) c5)) (h19 : lkp (ky 0 19) H = some (.slice (some ⟨b6, 0 + (ywd y).toNat * 1, none⟩) (385 - (ywd y).toNat) (c6 - (ywd y).toNat)))
    (hS3 : lkp 3 S = some ⟨.slice (some ⟨b3, 0, none⟩) (nY y) c3, 3, 1, nY y, (mmY y).map (Value.int .i64)⟩) (hS4 : lkp 4 S = some ⟨.slice (some ⟨b4, 0, none⟩) (nY y) c4, 3, 1, nY y, (mdY y).map (Value.int .i64)⟩) (hS5 : lkp 5 S = some ⟨.slice (some ⟨b5, 0, none⟩) (nY y) c5, 3, 1, nY y, (nmdY y).map (Value.int .i64)⟩)
    (hS6 : lkp 6 S = some ⟨.slice (some ⟨b6, 0, none⟩) 385 c6, 3, 1, 385, (wd 55).map (Value.int .i64)⟩) {v5 v6 v7 v98 v99 v100 : Value} {i : Int} (hi : 0 ≤ i ∧ i < nY y) (hwn : weekno.length ≠ 0 → i < wno.length) (hnw : nwm.length ≠ 0 → i < nwm.length) (hea : easter.length ≠ 0 → i < eas.length) (fE : Bool) (hfE : fE = (false || badE easter eas i)) (hz : ¬ easter.length = 0) : GM Go.Proofs.Tryz.prog ops11 (Kn 1418 [(0, .pointer (some ⟨it, 0, none⟩)), (2, .pointer (some ⟨rb, 0, none⟩)), (5, v5), (6, v6), (7, v7), (9, .int .i64 i), (98, v98), (99, v99), (100, v100), (211, .bool fE)]) (List.take 19 (List.drop 86 ops11.toList)) 1418 [(0, .pointer (some ⟨it, 0, none⟩)), (2, .pointer (some ⟨rb, 0, none⟩)), (5, v5), (6, v6), (7, v7), (9, .int .i64 i), (98, v98), (99, v99), (100, v100), (192, .bool false)] F w0 B H S := by
  have hlp := Cal.lp_01 y
  have hlp2 := Cal.lp_01 (y + 1)
  have hny := nY_lp y
  have hyw : 0 ≤ ywd y ∧ ywd y ≤ 6 := by unfold ywd; omega
  have hiw := hea hz
  obtain ⟨b8, rfl⟩ := hp22 (by omega)
  have hS10 := hS10 (by omega)
  refine GM_take rfl rfl ?_
  refine GM_rd (by decide) (rd_move rfl) ?_
  refine GM_take rfl rfl ?_
  refine GM_rd (by decide) (rd_nilCheck rfl) ?_
  refine GM_take rfl rfl ?_
  refine GM_rd (by decide) (rd_fieldAddr (j := 57) (by kernel_rfl) rfl) ?_
  refine GM_take rfl rfl ?_
  refine GM_rd (by decide) (rd_load 1 rfl hR r57 (by kernel_rfl) (by decide)) ?_
  refine GM_take rfl rfl ?_
  refine GM_rd (by decide) (rd_len (by kernel_rfl) rfl) ?_
  refine GM_take rfl rfl ?_
  refine GM_rd (by decide) ((rd_neq rfl rfl).to (congrArg Value.bool (n_ne (by omega)))) ?_
  refine GM_take rfl rfl ?_
  refine GM_rd (by decide) (rd_move rfl) ?_
  refine GM_take rfl rfl ?_
  refine GM_rd (by decide) (rd_move rfl) ?_
  refine GM_take rfl rfl ?_
  refine GM_rd (by decide) (rd_nilCheck rfl) ?_
  refine GM_take rfl rfl ?_
  refine GM_rd (by decide) (rd_fieldAddr (j := 7) (by kernel_rfl) rfl) ?_
  refine GM_take rfl rfl ?_
  refine GM_rd (by decide) (rd_fieldAddr (j := 15) (by kernel_rfl) rfl) ?_
  refine GM_take rfl rfl ?_
  refine GM_rd (by decide) (rd_load 0 rfl hB h22 (by kernel_rfl) (by decide)) ?_
  refine GM_take rfl rfl ?_
  refine GM_rd (by decide) (rd_move rfl) ?_
  refine GM_take rfl rfl ?_
  refine GM_rd (by decide) (rd_indexAddr (e := 3) (n := 1) (by kernel_rfl) rfl rfl (by omega) (by omega)) ?_
  refine GM_take rfl rfl ?_
  refine GM_rd (by decide) (rd_load_row 10 rfl hS10 rfl (tab_cell rfl hi.1 hiw) (by kernel_rfl)) ?_
  refine GM_take rfl rfl ?_
  refine GM_rd (by decide) (rd_eql rfl rfl) ?_
  refine GM_take rfl rfl ?_
  refine GM_rd (by decide) (rd_pick rfl rfl rfl) ?_
  refine GM_rd (by decide) ((rd_pick rfl rfl rfl).to (v' := .bool fE) (by rw [hfE]; simp [badE, hz])) ?_
  refine GM_rd (by decide) (rd_move rfl) ?_
  exact GM_nil (fun a k => k.cons rfl (k.cons rfl (k.cons rfl (k.cons rfl (k.cons rfl (k.cons rfl (k.cons rfl (k.cons rfl (k.cons rfl (k.cons rfl (k.nil)))))))))))
theorem ft_15 {it rb : Nat} (hB : lkp 0 B = some it) (hR : lkp 1 B = some rb) {p47 : Option Addr} {c47 : Nat} {month : List Int} (r47 : lkp (ky 1 47) H = some (.slice p47 month.length c47)) (hl47 : month.length ≤ 1000000000) (hI47 : ∀ w, Sees F w0 B H S w → Ints w (.slice p47 month.length c47) month) {p48 : Option Addr} {c48 : Nat} {mday : List Int} (r48 : lkp (ky 1 48) H = some (.slice p48 mday.length c48)) (hl48 : mday.length ≤ 1000000000) (hI48 : ∀ w, Sees F w0 B H S w → Ints w (.slice p48 mday.length c48) mday) {p49 : Option Addr} {c49 : Nat} {nmday : List Int} (r49 : lkp (ky 1 49) H = some (.slice p49 nmday.length c49)) (hl49 : nmday.length ≤ 1000000000) (hI49 : ∀ w, Sees F w0 B H S w → Ints w (.slice p49 nmday.length c49) nmday) {p50 : Option Addr} {c50 : Nat} {yday : List Int} (r50 : lkp (ky 1 50) H = some (.slice p50 yday.length c50)) (hl50 : yday.length ≤ 1000000000) (hI50 : ∀ w, Sees F w0 B H S w → Ints w (.slice p50 yday.length c50) yday) {p52 : Option Addr} {c52 : Nat} {wday : List Int} (r52 : lkp (ky 1 52) H = some (.slice p52 wday.length c52)) (hl52 : wday.length ≤ 1000000000) (hI52 : ∀ w, Sees F w0 B H S w → Ints w (.slice p52 wday.length c52) wday) {p51 p57 : Option Addr} {c51 c57 : Nat} {weekno easter : List Int} (r51 : lkp (ky 1 51) H = some (.slice p51 weekno.length c51)) (r57 : lkp (ky 1 57) H = some (.slice p57 easter.length c57)) {p20 : Option Addr} {c20 : Nat} {wno : List Int} (h20 : lkp (ky 0 20) H = some (.slice p20 wno.length c20)) (hp20 : 0 < wno.length → ∃ b, p20 = some ⟨b, 0, none⟩) (hS8 : 0 < wno.length → lkp 8 S = some ⟨.slice p20 wno.length c20, 3, 1, wno.length, wno.map (Value.int .i64)⟩) {p21 : Option Addr} {c21 : Nat} {nwm : List Int} (h21 : lkp (ky 0 21) H = some (.slice p21 nwm.length c21)) (hp21 : 0 < nwm.length → ∃ b, p21 = some ⟨b, 0, none⟩) (hS9 : 0 < nwm.length → lkp 9 S = some ⟨.slice p21 nwm.length c21, 3, 1, nwm.length, nwm.map (Value.int .i64)⟩) {p22 : Option Addr} {c22 : Nat} {eas : List Int} (h22 : lkp (ky 0 22) H = some (.slice p22 eas.length c22)) (hp22 : 0 < eas.length → ∃ b, p22 = some ⟨b, 0, none⟩) (hS10 : 0 < eas.length → lkp 10 S = some ⟨.slice p22 eas.length c22, 3, 1, eas.length, eas.map (Value.int .i64)⟩) {y : Int}
    (h10 : lkp (ky 0 10) H = some (.int .i64 (365 + Cal.lp y))) (h11 : lkp (ky 0 11) H = some (.int .i64 (365 + Cal.lp (y + 1)))) {b3 b4 b5 b6 c3 c4 c5 c6 : Nat} (h15 : lkp (ky 0 15) H = some (.slice (some ⟨b3, 0, none⟩) (nY y) c3)) (h17 : lkp (ky 0 17) H = some (.slice (some ⟨b4, 0, none⟩) (nY y) c4))
    (h18 : lkp (ky 0 18) H = some (.slice (some ⟨b5, 0, none⟩) (nY y) c5)) (h19 : lkp (ky 0 19) H = some (.slice (some ⟨b6, 0 + (ywd y).toNat * 1, none⟩) (385 - (ywd y).toNat) (c6 - (ywd y).toNat)))
    (hS3 : lkp 3 S = some ⟨.slice (some ⟨b3, 0, none⟩) (nY y) c3, 3, 1, nY y, (mmY y).map (Value.int .i64)⟩) (hS4 : lkp 4 S = some ⟨.slice (some ⟨b4, 0, none⟩) (nY y) c4, 3, 1, nY y, (mdY y).map (Value.int .i64)⟩) (hS5 : lkp 5 S = some ⟨.slice (some ⟨b5, 0, none⟩) (nY y) c5, 3, 1, nY y, (nmdY y).map (Value.int .i64)⟩)
    (hS6 : lkp 6 S = some ⟨.slice (some ⟨b6, 0, none⟩) 385 c6, 3, 1, 385, (wd 55).map (Value.int .i64)⟩) {v5 v6 v7 v98 v99 v100 : Value} {i : Int} (hi : 0 ≤ i ∧ i < nY y) (hwn : weekno.length ≠ 0 → i < wno.length) (hnw : nwm.length ≠ 0 → i < nwm.length) (hea : easter.length ≠ 0 → i < eas.length) (fF : Bool) (hfF : fF = (true || badF mday nmday y i)) : GM Go.Proofs.Tryz.prog ops11 (Kn 1418 [(0, .pointer (some ⟨it, 0, none⟩)), (2, .pointer (some ⟨rb, 0, none⟩)), (5, v5), (6, v6), (7, v7), (9, .int .i64 i), (98, v98), (99, v99), (100, v100), (259, .bool fF)]) (List.take 48 (List.drop 105 ops11.toList)) 1418 [(0, .pointer (some ⟨it, 0, none⟩)), (2, .pointer (some ⟨rb, 0, none⟩)), (5, v5), (6, v6), (7, v7), (9, .int .i64 i), (98, v98), (99, v99), (100, v100), (211, .bool true)] F w0 B H S := by
  have hlp := Cal.lp_01 y
  have hlp2 := Cal.lp_01 (y + 1)
  have hny := nY_lp y
  have hyw : 0 ≤ ywd y ∧ ywd y ≤ 6 := by unfold ywd; omega
  refine GM_pass (by decide) rfl rfl (by decide) ?_
  refine GM_pass (by decide) rfl rfl (by decide) ?_
  refine GM_pass (by decide) rfl rfl (by decide) ?_
  refine GM_pass (by decide) rfl rfl (by decide) ?_
  refine GM_pass (by decide) rfl rfl (by decide) ?_
  refine GM_pass (by decide) rfl rfl (by decide) ?_
  refine GM_pass (by decide) rfl rfl (by decide) ?_
  refine GM_passu (by decide) rfl rfl ?_
  refine GM_passu (by decide) rfl rfl ?_
  refine GM_passu (by decide) rfl rfl ?_
  refine GM_passu (by decide) rfl rfl ?_
  refine GM_passu (by decide) rfl rfl ?_
  refine GM_passu (by decide) rfl rfl ?_
  refine GM_pass (by decide) rfl rfl (by decide) ?_
  refine GM_pass (by decide) rfl rfl (by decide) ?_
  refine GM_passu (by decide) rfl rfl ?_
  refine GM_passu (by decide) rfl rfl ?_
  refine GM_passu (by decide) rfl rfl ?_
  refine GM_passu (by decide) rfl rfl ?_
  refine GM_passu (by decide) rfl rfl ?_
  refine GM_passu (by decide) rfl rfl ?_
  refine GM_passu (by decide) rfl rfl ?_
  refine GM_passu (by decide) rfl rfl ?_
  refine GM_passu (by decide) rfl rfl ?_
  refine GM_passu (by decide) rfl rfl ?_
  refine GM_passu (by decide) rfl rfl ?_
  refine GM_passu (by decide) rfl rfl ?_
  refine GM_passu (by decide) rfl rfl ?_
  refine GM_passu (by decide) rfl rfl ?_
  refine GM_pass (by decide) rfl rfl (by decide) ?_
  refine GM_pass (by decide) rfl rfl (by decide) ?_
  refine GM_passu (by decide) rfl rfl ?_
  refine GM_passu (by decide) rfl rfl ?_
  refine GM_passu (by decide) rfl rfl ?_
  refine GM_passu (by decide) rfl rfl ?_
  refine GM_passu (by decide) rfl rfl ?_
  refine GM_passu (by decide) rfl rfl ?_
  refine GM_passu (by decide) rfl rfl ?_
  refine GM_passu (by decide) rfl rfl ?_
  refine GM_passu (by decide) rfl rfl ?_
  refine GM_passu (by decide) rfl rfl ?_
  refine GM_passu (by decide) rfl rfl ?_
  refine GM_passu (by decide) rfl rfl ?_
  refine GM_passu (by decide) rfl rfl ?_
  refine GM_passu (by decide) rfl rfl ?_
  refine GM_pass (by decide) rfl rfl (by decide) ?_
  refine GM_rd (by decide) ((rd_pick rfl rfl rfl).to (v' := .bool fF) (by rw [hfF]; simp)) ?_
  refine GM_rd (by decide) (rd_move rfl) ?_
  exact GM_nil (fun a k => k.cons rfl (k.cons rfl (k.cons rfl (k.cons rfl (k.cons rfl (k.cons rfl (k.cons rfl (k.cons rfl (k.cons rfl (k.cons rfl (k.nil)))))))))))
theorem ft_16 {it rb : Nat} (hB : lkp 0 B = some it) (hR : lkp 1 B = some rb) {p47 : Option Addr} {c47 : Nat} {month : List Int} (r47 : lkp (ky 1 47) H = some (.slice p47 month.length c47)) (hl47 : month.length ≤ 1000000000) (hI47 : ∀ w, Sees F w0 B H S w → Ints w (.slice p47 month.length c47) month) {p48 : Option Addr} {c48 : Nat} {mday : List Int} (r48 : lkp (ky 1 48) H = some (.slice p48 mday.length c48)) (hl48 : mday.length ≤ 1000000000) (hI48 : ∀ w, Sees F w0 B H S w → Ints w (.slice p48 mday.length c48) mday) {p49 : Option Addr} {c49 : Nat} {nmday : List Int} (r49 : lkp (ky 1 49) H = some (.slice p49 nmday.length c49)) (hl49 : nmday.length ≤ 1000000000) (hI49 : ∀ w, Sees F w0 B H S w → Ints w (.slice p49 nmday.length c49) nmday) {p50 : Option Addr} {c50 : Nat} {yday : List Int} (r50 : lkp (ky 1 50) H = some (.slice p50 yday.length c50)) (hl50 : yday.length ≤ 1000000000) (hI50 : ∀ w, Sees F w0 B H S w → Ints w (.slice p50 yday.length c50) yday) {p52 : Option Addr} {c52 : Nat} {wday : List Int} (r52 : lkp (ky 1 52) H = some (.slice p52 wday.length c52)) (hl52 : wday.length ≤ 1000000000) (hI52 : ∀ w, Sees F w0 B H S w → Ints w (.slice p52 wday.length c52) wday) {p51 p57 : Option Addr} {c51 c57 : Nat} {weekno easter : List Int} (r51 : lkp (ky 1 51) H = some (.slice p51 weekno.length c51)) (r57 : lkp (ky 1 57) H = some (.slice p57 easter.length c57)) {p20 : Option Addr} {c20 : Nat} {wno : List Int} (h20 : lkp (ky 0 20) H = some (.slice p20 wno.length c20)) (hp20 : 0 < wno.length → ∃ b, p20 = some ⟨b, 0, none⟩) (hS8 : 0 < wno.length → lkp 8 S = some ⟨.slice p20 wno.length c20, 3, 1, wno.length, wno.map (Value.int .i64)⟩) {p21 : Option Addr} {c21 : Nat} {nwm : List Int} (h21 : lkp (ky 0 21) H = some (.slice p21 nwm.length c21)) (hp21 : 0 < nwm.length → ∃ b, p21 = some ⟨b, 0, none⟩) (hS9 : 0 < nwm.length → lkp 9 S = some ⟨.slice p21 nwm.length c21, 3, 1, nwm.length, nwm.map (Value.int .i64)⟩) {p22 : Option Addr} {c22 : Nat} {eas : List Int} (h22 : lkp (ky 0 22) H = some (.slice p22 eas.length c22)) (hp22 : 0 < eas.length → ∃ b, p22 = some ⟨b, 0, none⟩) (hS10 : 0 < eas.length → lkp 10 S = some ⟨.slice p22 eas.length c22, 3, 1, eas.length, eas.map (Value.int .i64)⟩) {y : Int}
    (h10 : lkp (ky 0 10) H = some (.int .i64 (365 + Cal.lp y))) (h11 : lkp (ky 0 11) H = some (.int .i64 (365 + Cal.lp (y + 1)))) {b3 b4 b5 b6 c3 c4 c5 c6 : Nat} (h15 : lkp (ky 0 15) H = some (.slice (some ⟨b3, 0, none⟩) (nY y) c3)) (h17 : lkp (ky 0 17) H = some (.slice (some ⟨b4, 0, none⟩) (nY y) c4))
    (h18 : lkp (ky 0 18) H = some (.slice (some ⟨b5, 0, none⟩) (nY y) c5)) (h19 : lkp (ky 0 19) H = some (.slice (some ⟨b6, 0 + (ywd y).toNat * 1, none⟩) (385 - (ywd y).toNat) (c6 - (ywd y).toNat)))
    (hS3 : lkp 3 S = some ⟨.slice (some ⟨b3, 0, none⟩) (nY y) c3, 3, 1, nY y, (mmY y).map (Value.int .i64)⟩) (hS4 : lkp 4 S = some ⟨.slice (some ⟨b4, 0, none⟩) (nY y) c4, 3, 1, nY y, (mdY y).map (Value.int .i64)⟩) (hS5 : lkp 5 S = some ⟨.slice (some ⟨b5, 0, none⟩) (nY y) c5, 3, 1, nY y, (nmdY y).map (Value.int .i64)⟩)
    (hS6 : lkp 6 S = some ⟨.slice (some ⟨b6, 0, none⟩) 385 c6, 3, 1, 385, (wd 55).map (Value.int .i64)⟩) {v5 v6 v7 v98 v99 v100 : Value} {i : Int} (hi : 0 ≤ i ∧ i < nY y) (hwn : weekno.length ≠ 0 → i < wno.length) (hnw : nwm.length ≠ 0 → i < nwm.length) (hea : easter.length ≠ 0 → i < eas.length) (fF : Bool) (hfF : fF = (false || badF mday nmday y i)) (hz : mday.length = 0) (hz2 : nmday.length = 0) : GM Go.Proofs.Tryz.prog ops11 (Kn 1418 [(0, .pointer (some ⟨it, 0, none⟩)), (2, .pointer (some ⟨rb, 0, none⟩)), (5, v5), (6, v6), (7, v7), (9, .int .i64 i), (98, v98), (99, v99), (100, v100), (259, .bool fF)]) (List.take 48 (List.drop 105 ops11.toList)) 1418 [(0, .pointer (some ⟨it, 0, none⟩)), (2, .pointer (some ⟨rb, 0, none⟩)), (5, v5), (6, v6), (7, v7), (9, .int .i64 i), (98, v98), (99, v99), (100, v100), (211, .bool false)] F w0 B H S := by
  have hlp := Cal.lp_01 y
  have hlp2 := Cal.lp_01 (y + 1)
  have hny := nY_lp y
  have hyw : 0 ≤ ywd y ∧ ywd y ≤ 6 := by unfold ywd; omega
  refine GM_take rfl rfl ?_
  refine GM_rd (by decide) (rd_move rfl) ?_
  refine GM_take rfl rfl ?_
  refine GM_rd (by decide) (rd_nilCheck rfl) ?_
  refine GM_take rfl rfl ?_
  refine GM_rd (by decide) (rd_fieldAddr (j := 48) (by kernel_rfl) rfl) ?_
  refine GM_take rfl rfl ?_
  refine GM_rd (by decide) (rd_load 1 rfl hR r48 (by kernel_rfl) (by decide)) ?_
  refine GM_take rfl rfl ?_
  refine GM_rd (by decide) (rd_len (by kernel_rfl) rfl) ?_
  refine GM_take rfl rfl ?_
  refine GM_rd (by decide) ((rd_neq rfl rfl).to (congrArg Value.bool (n_eq (by omega)))) ?_
  refine GM_take rfl rfl ?_
  refine GM_rd (by decide) (rd_move rfl) ?_
  refine GM_take rfl rfl ?_
  refine GM_rd (by decide) (rd_move rfl) ?_
  refine GM_take rfl rfl ?_
  refine GM_rd (by decide) (rd_nilCheck rfl) ?_
  refine GM_take rfl rfl ?_
  refine GM_rd (by decide) (rd_fieldAddr (j := 49) (by kernel_rfl) rfl) ?_
  refine GM_take rfl rfl ?_
  refine GM_rd (by decide) (rd_load 1 rfl hR r49 (by kernel_rfl) (by decide)) ?_
  refine GM_take rfl rfl ?_
  refine GM_rd (by decide) (rd_len (by kernel_rfl) rfl) ?_
  refine GM_take rfl rfl ?_
  refine GM_rd (by decide) ((rd_neq rfl rfl).to (congrArg Value.bool (n_eq (by omega)))) ?_
  refine GM_take rfl rfl ?_
  refine GM_rd (by decide) (rd_pick rfl rfl rfl) ?_
  refine GM_take rfl rfl ?_
  refine GM_rd (by decide) (rd_move rfl) ?_
  refine GM_pass (by decide) rfl rfl (by decide) ?_
  refine GM_pass (by decide) rfl rfl (by decide) ?_
  refine GM_pass (by decide) rfl rfl (by decide) ?_
  refine GM_pass (by decide) rfl rfl (by decide) ?_
  refine GM_pass (by decide) rfl rfl (by decide) ?_
  refine GM_pass (by decide) rfl rfl (by decide) ?_
  refine GM_pass (by decide) rfl rfl (by decide) ?_
  refine GM_pass (by decide) rfl rfl (by decide) ?_
  refine GM_pass (by decide) rfl rfl (by decide) ?_
  refine GM_pass (by decide) rfl rfl (by decide) ?_
  refine GM_pass (by decide) rfl rfl (by decide) ?_
  refine GM_pass (by decide) rfl rfl (by decide) ?_
  refine GM_pass (by decide) rfl rfl (by decide) ?_
  refine GM_pass (by decide) rfl rfl (by decide) ?_
  refine GM_take rfl rfl ?_
  refine GM_rd (by decide) (rd_pick rfl rfl rfl) ?_
  refine GM_take rfl rfl ?_
  refine GM_rd (by decide) (rd_move rfl) ?_
  refine GM_pass (by decide) rfl rfl (by decide) ?_
  refine GM_pass (by decide) rfl rfl (by decide) ?_
  refine GM_pass (by decide) rfl rfl (by decide) ?_
  refine GM_pass (by decide) rfl rfl (by decide) ?_
  refine GM_pass (by decide) rfl rfl (by decide) ?_
  refine GM_pass (by decide) rfl rfl (by decide) ?_
  refine GM_pass (by decide) rfl rfl (by decide) ?_
  refine GM_pass (by decide) rfl rfl (by decide) ?_
  refine GM_pass (by decide) rfl rfl (by decide) ?_
  refine GM_pass (by decide) rfl rfl (by decide) ?_
  refine GM_pass (by decide) rfl rfl (by decide) ?_
  refine GM_pass (by decide) rfl rfl (by decide) ?_
  refine GM_pass (by decide) rfl rfl (by decide) ?_
  refine GM_pass (by decide) rfl rfl (by decide) ?_
  refine GM_take rfl rfl ?_
  refine GM_rd (by decide) (rd_pick rfl rfl rfl) ?_
  refine GM_rd (by decide) ((rd_pick rfl rfl rfl).to (v' := .bool fF) (by rw [hfF]; simp [badF, hz, hz2])) ?_
  refine GM_rd (by decide) (rd_move rfl) ?_
  exact GM_nil (fun a k => k.cons rfl (k.cons rfl (k.cons rfl (k.cons rfl (k.cons rfl (k.cons rfl (k.cons rfl (k.cons rfl (k.cons rfl (k.cons rfl (k.nil)))))))))))
theorem ft_17 {it rb : Nat} (hB : lkp 0 B = some it) (hR : lkp 1 B = some rb) {p47 : Option Addr} {c47 : Nat} {month : List Int} (r47 : lkp (ky 1 47) H = some (.slice p47 month.length c47)) (hl47 : month.length ≤ 1000000000) (hI47 : ∀ w, Sees F w0 B H S w → Ints w (.slice p47 month.length c47) month) {p48 : Option Addr} {c48 : Nat} {mday : List Int} (r48 : lkp (ky 1 48) H = some (.slice p48 mday.length c48)) (hl48 : mday.length ≤ 1000000000) (hI48 : ∀ w, Sees F w0 B H S w → Ints w (.slice p48 mday.length c48) mday) {p49 : Option Addr} {c49 : Nat} {nmday : List Int} (r49 : lkp (ky 1 49) H = some (.slice p49 nmday.length c49)) (hl49 : nmday.length ≤ 1000000000) (hI49 : ∀ w, Sees F w0 B H S w → Ints w (.slice p49 nmday.length c49) nmday) {p50 : Option Addr} {c50 : Nat} {yday : List Int} (r50 : lkp (ky 1 50) H = some (.slice p50 yday.length c50)) (hl50 : yday.length ≤ 1000000000) (hI50 : ∀ w, Sees F w0 B H S w → Ints w (.slice p50 yday.length c50) yday) {p52 : Option Addr} {c52 : Nat} {wday : List Int} (r52 : lkp (ky 1 52) H = some (.slice p52 wday.length c52)) (hl52 : wday.length ≤ 1000000000) (hI52 : ∀ w, Sees F w0 B H S w → Ints w (.slice p52 wday.length c52) wday) {p51 p57 : Option Addr} {c51 c57 : Nat} {weekno easter : List Int} (r51 : lkp (ky 1 51) H = some (.slice p51 weekno.length c51)) (r57 : lkp (ky 1 57) H = some (.slice p57 easter.length c57)) {p20 : Option Addr} {c20 : Nat} {wno : List Int} (h20 : lkp (ky 0 20) H = some (.slice p20 wno.length c20)) (hp20 : 0 < wno.length → ∃ b, p20 = some ⟨b, 0, none⟩) (hS8 : 0 < wno.length → lkp 8 S = some ⟨.slice p20 wno.length c20, 3, 1, wno.length, wno.map (Value.int .i64)⟩) {p21 : Option Addr} {c21 : Nat} {nwm : List Int} (h21 : lkp (ky 0 21) H = some (.slice p21 nwm.length c21)) (hp21 : 0 < nwm.length → ∃ b, p21 = some ⟨b, 0, none⟩) (hS9 : 0 < nwm.length → lkp 9 S = some ⟨.slice p21 nwm.length c21, 3, 1, nwm.length, nwm.map (Value.int .i64)⟩) {p22 : Option Addr} {c22 : Nat} {eas : List Int} (h22 : lkp (ky 0 22) H = some (.slice p22 eas.length c22)) (hp22 : 0 < eas.length → ∃ b, p22 = some ⟨b, 0, none⟩) (hS10 : 0 < eas.length → lkp 10 S = some ⟨.slice p22 eas.length c22, 3, 1, eas.length, eas.map (Value.int .i64)⟩) {y : Int}
    (h10 : lkp (ky 0 10) H = some (.int .i64 (365 + Cal.lp y))) (h11 : lkp (ky 0 11) H = some (.int .i64 (365 + Cal.lp (y + 1)))) {b3 b4 b5 b6 c3 c4 c5 c6 : Nat} (h15 : lkp (ky 0 15) H = some (.slice (some ⟨b3, 0, none⟩) (nY y) c3)) (h17 : lkp (ky 0 17) H = some (.slice (some ⟨b4, 0, none⟩) (nY y) c4))
    (h18 : lkp (ky 0 18) H = some (.slice (some ⟨b5, 0, none⟩) (nY y) c5)) (h19 : lkp (ky 0 19) H = some (.slice (some ⟨b6, 0 + (ywd y).toNat * 1, none⟩) (385 - (ywd y).toNat) (c6 - (ywd y).toNat)))
    (hS3 : lkp 3 S = some ⟨.slice (some ⟨b3, 0, none⟩) (nY y) c3, 3, 1, nY y, (mmY y).map (Value.int .i64)⟩) (hS4 : lkp 4 S = some ⟨.slice (some ⟨b4, 0, none⟩) (nY y) c4, 3, 1, nY y, (mdY y).map (Value.int .i64)⟩) (hS5 : lkp 5 S = some ⟨.slice (some ⟨b5, 0, none⟩) (nY y) c5, 3, 1, nY y, (nmdY y).map (Value.int .i64)⟩)
    (hS6 : lkp 6 S = some ⟨.slice (some ⟨b6, 0, none⟩) 385 c6, 3, 1, 385, (wd 55).map (Value.int .i64)⟩) {v5 v6 v7 v98 v99 v100 : Value} {i : Int} (hi : 0 ≤ i ∧ i < nY y) (hwn : weekno.length ≠ 0 → i < wno.length) (hnw : nwm.length ≠ 0 → i < nwm.length) (hea : easter.length ≠ 0 → i < eas.length) (fF : Bool) (hfF : fF = (false || badF mday nmday y i)) (hz : mday.length = 0) (hz2 : ¬ nmday.length = 0) (hc : (mday.any (· == ((mdY y).getD i.toNat 0))) = true) : GM Go.Proofs.Tryz.prog ops11 (Kn 1418 [(0, .pointer (some ⟨it, 0, none⟩)), (2, .pointer (some ⟨rb, 0, none⟩)), (5, v5), (6, v6), (7, v7), (9, .int .i64 i), (98, v98), (99, v99), (100, v100), (259, .bool fF)]) (List.take 48 (List.drop 105 ops11.toList)) 1418 [(0, .pointer (some ⟨it, 0, none⟩)), (2, .pointer (some ⟨rb, 0, none⟩)), (5, v5), (6, v6), (7, v7), (9, .int .i64 i), (98, v98), (99, v99), (100, v100), (211, .bool false)] F w0 B H S := by
  have hlp := Cal.lp_01 y
  have hlp2 := Cal.lp_01 (y + 1)
  have hny := nY_lp y
  have hyw : 0 ≤ ywd y ∧ ywd y ≤ 6 := by unfold ywd; omega
  refine GM_take rfl rfl ?_
  refine GM_rd (by decide) (rd_move rfl) ?_
  refine GM_take rfl rfl ?_
  refine GM_rd (by decide) (rd_nilCheck rfl) ?_
  refine GM_take rfl rfl ?_
  refine GM_rd (by decide) (rd_fieldAddr (j := 48) (by kernel_rfl) rfl) ?_
  refine GM_take rfl rfl ?_
  refine GM_rd (by decide) (rd_load 1 rfl hR r48 (by kernel_rfl) (by decide)) ?_
  refine GM_take rfl rfl ?_
  refine GM_rd (by decide) (rd_len (by kernel_rfl) rfl) ?_
  refine GM_take rfl rfl ?_
  refine GM_rd (by decide) ((rd_neq rfl rfl).to (congrArg Value.bool (n_eq (by omega)))) ?_
  refine GM_take rfl rfl ?_
  refine GM_rd (by decide) (rd_move rfl) ?_
  refine GM_take rfl rfl ?_
  refine GM_rd (by decide) (rd_move rfl) ?_
  refine GM_take rfl rfl ?_
  refine GM_rd (by decide) (rd_nilCheck rfl) ?_
  refine GM_take rfl rfl ?_
  refine GM_rd (by decide) (rd_fieldAddr (j := 49) (by kernel_rfl) rfl) ?_
  refine GM_take rfl rfl ?_
  refine GM_rd (by decide) (rd_load 1 rfl hR r49 (by kernel_rfl) (by decide)) ?_
  refine GM_take rfl rfl ?_
  refine GM_rd (by decide) (rd_len (by kernel_rfl) rfl) ?_
  refine GM_take rfl rfl ?_
  refine GM_rd (by decide) ((rd_neq rfl rfl).to (congrArg Value.bool (n_ne (by omega)))) ?_
  refine GM_take rfl rfl ?_
  refine GM_rd (by decide) (rd_pick rfl rfl rfl) ?_
  refine GM_take rfl rfl ?_
  refine GM_rd (by decide) (rd_move rfl) ?_
  refine GM_take rfl rfl ?_
  refine GM_rd (by decide) (rd_move rfl) ?_
  refine GM_take rfl rfl ?_
  refine GM_rd (by decide) (rd_nilCheck rfl) ?_
  refine GM_take rfl rfl ?_
  refine GM_rd (by decide) (rd_fieldAddr (j := 48) (by kernel_rfl) rfl) ?_
  refine GM_take rfl rfl ?_
  refine GM_rd (by decide) (rd_load 1 rfl hR r48 (by kernel_rfl) (by decide)) ?_
  refine GM_take rfl rfl ?_
  refine GM_rd (by decide) (rd_move rfl) ?_
  refine GM_take rfl rfl ?_
  refine GM_rd (by decide) (rd_nilCheck rfl) ?_
  refine GM_take rfl rfl ?_
  refine GM_rd (by decide) (rd_fieldAddr (j := 7) (by kernel_rfl) rfl) ?_
  refine GM_take rfl rfl ?_
  refine GM_rd (by decide) (rd_fieldAddr (j := 10) (by kernel_rfl) rfl) ?_
  refine GM_take rfl rfl ?_
  refine GM_rd (by decide) (rd_load 0 rfl hB h17 (by kernel_rfl) (by decide)) ?_
  refine GM_take rfl rfl ?_
  refine GM_rd (by decide) (rd_move rfl) ?_
  refine GM_take rfl rfl ?_
  refine GM_rd (by decide) (rd_indexAddr (e := 3) (n := 1) (by kernel_rfl) rfl rfl (by omega) (by omega)) ?_
  refine GM_take rfl rfl ?_
  refine GM_rd (by decide) (rd_load_row 4 rfl hS4 rfl (tab_cell (len_md y) hi.1 hi.2) (by kernel_rfl)) ?_
  refine GM_take rfl rfl ?_
  refine GM_call_v (v := .bool true) (by decide) (by kernel_rfl) rfl (fun w_ s_ => (contains_calls mday ((mdY y).getD i.toNat 0) _ hl48 w_ (hI48 w_ s_)).mono fun e_ w2_ h_ => ⟨h_.1.trans (congrArg Ending.returned (congrArg Value.bool hc)), h_.2⟩) ?_
  refine GM_take rfl rfl ?_
  refine GM_rd (by decide) (rd_not rfl) ?_
  refine GM_take rfl rfl ?_
  refine GM_rd (by decide) (rd_pick rfl rfl rfl) ?_
  refine GM_take rfl rfl ?_
  refine GM_rd (by decide) (rd_move rfl) ?_
  refine GM_pass (by decide) rfl rfl (by decide) ?_
  refine GM_pass (by decide) rfl rfl (by decide) ?_
  refine GM_pass (by decide) rfl rfl (by decide) ?_
  refine GM_pass (by decide) rfl rfl (by decide) ?_
  refine GM_pass (by decide) rfl rfl (by decide) ?_
  refine GM_pass (by decide) rfl rfl (by decide) ?_
  refine GM_pass (by decide) rfl rfl (by decide) ?_
  refine GM_pass (by decide) rfl rfl (by decide) ?_
  refine GM_pass (by decide) rfl rfl (by decide) ?_
  refine GM_pass (by decide) rfl rfl (by decide) ?_
  refine GM_pass (by decide) rfl rfl (by decide) ?_
  refine GM_pass (by decide) rfl rfl (by decide) ?_
  refine GM_pass (by decide) rfl rfl (by decide) ?_
  refine GM_pass (by decide) rfl rfl (by decide) ?_
  refine GM_take rfl rfl ?_
  refine GM_rd (by decide) (rd_pick rfl rfl rfl) ?_
  refine GM_rd (by decide) ((rd_pick rfl rfl rfl).to (v' := .bool fF) (by rw [hfF]; unfold badF; rw [hc]; simp [hz, hz2])) ?_
  refine GM_rd (by decide) (rd_move rfl) ?_
  exact GM_nil (fun a k => k.cons rfl (k.cons rfl (k.cons rfl (k.cons rfl (k.cons rfl (k.cons rfl (k.cons rfl (k.cons rfl (k.cons rfl (k.cons rfl (k.nil)))))))))))
theorem ft_18 {it rb : Nat} (hB : lkp 0 B = some it) (hR : lkp 1 B = some rb) {p47 : Option Addr} {c47 : Nat} {month : List Int} (r47 : lkp (ky 1 47) H = some (.slice p47 month.length c47)) (hl47 : month.length ≤ 1000000000) (hI47 : ∀ w, Sees F w0 B H S w → Ints w (.slice p47 month.length c47) month) {p48 : Option Addr} {c48 : Nat} {mday : List Int} (r48 : lkp (ky 1 48) H = some (.slice p48 mday.length c48)) (hl48 : mday.length ≤ 1000000000) (hI48 : ∀ w, Sees F w0 B H S w → Ints w (.slice p48 mday.length c48) mday) {p49 : Option Addr} {c49 : Nat} {nmday : List Int} (r49 : lkp (ky 1 49) H = some (.slice p49 nmday.length c49)) (hl49 : nmday.length ≤ 1000000000) (hI49 : ∀ w, Sees F w0 B H S w → Ints w (.slice p49 nmday.length c49) nmday) {p50 : Option Addr} {c50 : Nat} {yday : List Int} (r50 : lkp (ky 1 50) H = some (.slice p50 yday.length c50)) (hl50 : yday.length ≤ 1000000000) (hI50 : ∀ w, Sees F w0 B H S w → Ints w (.slice p50 yday.length c50) yday) {p52 : Option Addr} {c52 : Nat} {wday : List Int} (r52 : lkp (ky 1 52) H = some (.slice p52 wday.length c52)) (hl52 : wday.length ≤ 1000000000) (hI52 : ∀ w, Sees F w0 B H S w → Ints w (.slice p52 wday.length c52) wday) {p51 p57 : Option Addr} {c51 c57 : Nat} {weekno easter : List Int} (r51 : lkp (ky 1 51) H = some (.slice p51 weekno.length c51)) (r57 : lkp (ky 1 57) H = some (.slice p57 easter.length c57)) {p20 : Option Addr} {c20 : Nat} {wno : List Int} (h20 : lkp (ky 0 20) H = some (.slice p20 wno.length c20)) (hp20 : 0 < wno.length → ∃ b, p20 = some ⟨b, 0, none⟩) (hS8 : 0 < wno.length → lkp 8 S = some ⟨.slice p20 wno.length c20, 3, 1, wno.length, wno.map (Value.int .i64)⟩) {p21 : Option Addr} {c21 : Nat} {nwm : List Int} (h21 : lkp (ky 0 21) H = some (.slice p21 nwm.length c21)) (hp21 : 0 < nwm.length → ∃ b, p21 = some ⟨b, 0, none⟩) (hS9 : 0 < nwm.length → lkp 9 S = some ⟨.slice p21 nwm.length c21, 3, 1, nwm.length, nwm.map (Value.int .i64)⟩) {p22 : Option Addr} {c22 : Nat} {eas : List Int} (h22 : lkp (ky 0 22) H = some (.slice p22 eas.length c22)) (hp22 : 0 < eas.length → ∃ b, p22 = some ⟨b, 0, none⟩) (hS10 : 0 < eas.length → lkp 10 S = some ⟨.slice p22 eas.length c22, 3, 1, eas.length, eas.map (Value.int .i64)⟩) {y : Int}
    (h10 : lkp (ky 0 10) H = some (.int .i64 (365 + Cal.lp y))) (h11 : lkp (ky 0 11) H = some (.int .i64 (365 + Cal.lp (y + 1)))) {b3 b4 b5 b6 c3 c4 c5 c6 : Nat} (h15 : lkp (ky 0 15) H = some (.slice (some ⟨b3, 0, none⟩) (nY y) c3)) (h17 : lkp (ky 0 17) H = some (.slice (some ⟨b4, 0, none⟩) (nY y) c4))
    (h18 : lkp (ky 0 18) H = some (.slice (some ⟨b5, 0, none⟩) (nY y) c5)) (h19 : lkp (ky 0 19) H = some (.slice (some ⟨b6, 0 + (ywd y).toNat * 1, none⟩) (385 - (ywd y).toNat) (c6 - (ywd y).toNat)))
    (hS3 : lkp 3 S = some ⟨.slice (some ⟨b3, 0, none⟩) (nY y) c3, 3, 1, nY y, (mmY y).map (Value.int .i64)⟩) (hS4 : lkp 4 S = some ⟨.slice (some ⟨b4, 0, none⟩) (nY y) c4, 3, 1, nY y, (mdY y).map (Value.int .i64)⟩) (hS5 : lkp 5 S = some ⟨.slice (some ⟨b5, 0, none⟩) (nY y) c5, 3, 1, nY y, (nmdY y).map (Value.int .i64)⟩)
    (hS6 : lkp 6 S = some ⟨.slice (some ⟨b6, 0, none⟩) 385 c6, 3, 1, 385, (wd 55).map (Value.int .i64)⟩) {v5 v6 v7 v98 v99 v100 : Value} {i : Int} (hi : 0 ≤ i ∧ i < nY y) (hwn : weekno.length ≠ 0 → i < wno.length) (hnw : nwm.length ≠ 0 → i < nwm.length) (hea : easter.length ≠ 0 → i < eas.length) (fF : Bool) (hfF : fF = (false || badF mday nmday y i)) (hz : mday.length = 0) (hz2 : ¬ nmday.length = 0) (hc : (mday.any (· == ((mdY y).getD i.toNat 0))) = false) : GM Go.Proofs.Tryz.prog ops11 (Kn 1418 [(0, .pointer (some ⟨it, 0, none⟩)), (2, .pointer (some ⟨rb, 0, none⟩)), (5, v5), (6, v6), (7, v7), (9, .int .i64 i), (98, v98), (99, v99), (100, v100), (259, .bool fF)]) (List.take 48 (List.drop 105 ops11.toList)) 1418 [(0, .pointer (some ⟨it, 0, none⟩)), (2, .pointer (some ⟨rb, 0, none⟩)), (5, v5), (6, v6), (7, v7), (9, .int .i64 i), (98, v98), (99, v99), (100, v100), (211, .bool false)] F w0 B H S := by
  have hlp := Cal.lp_01 y
  have hlp2 := Cal.lp_01 (y + 1)
  have hny := nY_lp y
  have hyw : 0 ≤ ywd y ∧ ywd y ≤ 6 := by unfold ywd; omega
  refine GM_take rfl rfl ?_
  refine GM_rd (by decide) (rd_move rfl) ?_
  refine GM_take rfl rfl ?_
  refine GM_rd (by decide) (rd_nilCheck rfl) ?_
  refine GM_take rfl rfl ?_
  refine GM_rd (by decide) (rd_fieldAddr (j := 48) (by kernel_rfl) rfl) ?_
  refine GM_take rfl rfl ?_
  refine GM_rd (by decide) (rd_load 1 rfl hR r48 (by kernel_rfl) (by decide)) ?_
  refine GM_take rfl rfl ?_
  refine GM_rd (by decide) (rd_len (by kernel_rfl) rfl) ?_
  refine GM_take rfl rfl ?_
  refine GM_rd (by decide) ((rd_neq rfl rfl).to (congrArg Value.bool (n_eq (by omega)))) ?_
  refine GM_take rfl rfl ?_
  refine GM_rd (by decide) (rd_move rfl) ?_
  refine GM_take rfl rfl ?_
  refine GM_rd (by decide) (rd_move rfl) ?_
  refine GM_take rfl rfl ?_
  refine GM_rd (by decide) (rd_nilCheck rfl) ?_
  refine GM_take rfl rfl ?_
  refine GM_rd (by decide) (rd_fieldAddr (j := 49) (by kernel_rfl) rfl) ?_
  refine GM_take rfl rfl ?_
  refine GM_rd (by decide) (rd_load 1 rfl hR r49 (by kernel_rfl) (by decide)) ?_
  refine GM_take rfl rfl ?_
  refine GM_rd (by decide) (rd_len (by kernel_rfl) rfl) ?_
  refine GM_take rfl rfl ?_
  refine GM_rd (by decide) ((rd_neq rfl rfl).to (congrArg Value.bool (n_ne (by omega)))) ?_
  refine GM_take rfl rfl ?_
  refine GM_rd (by decide) (rd_pick rfl rfl rfl) ?_
  refine GM_take rfl rfl ?_
  refine GM_rd (by decide) (rd_move rfl) ?_
  refine GM_take rfl rfl ?_
  refine GM_rd (by decide) (rd_move rfl) ?_
  refine GM_take rfl rfl ?_
  refine GM_rd (by decide) (rd_nilCheck rfl) ?_
  refine GM_take rfl rfl ?_
  refine GM_rd (by decide) (rd_fieldAddr (j := 48) (by kernel_rfl) rfl) ?_
  refine GM_take rfl rfl ?_
  refine GM_rd (by decide) (rd_load 1 rfl hR r48 (by kernel_rfl) (by decide)) ?_
  refine GM_take rfl rfl ?_
  refine GM_rd (by decide) (rd_move rfl) ?_
  refine GM_take rfl rfl ?_
  refine GM_rd (by decide) (rd_nilCheck rfl) ?_
  refine GM_take rfl rfl ?_
  refine GM_rd (by decide) (rd_fieldAddr (j := 7) (by kernel_rfl) rfl) ?_
  refine GM_take rfl rfl ?_
  refine GM_rd (by decide) (rd_fieldAddr (j := 10) (by kernel_rfl) rfl) ?_
  refine GM_take rfl rfl ?_
  refine GM_rd (by decide) (rd_load 0 rfl hB h17 (by kernel_rfl) (by decide)) ?_
  refine GM_take rfl rfl ?_
  refine GM_rd (by decide) (rd_move rfl) ?_
  refine GM_take rfl rfl ?_
  refine GM_rd (by decide) (rd_indexAddr (e := 3) (n := 1) (by kernel_rfl) rfl rfl (by omega) (by omega)) ?_
  refine GM_take rfl rfl ?_
  refine GM_rd (by decide) (rd_load_row 4 rfl hS4 rfl (tab_cell (len_md y) hi.1 hi.2) (by kernel_rfl)) ?_
  refine GM_take rfl rfl ?_
  refine GM_call_v (v := .bool false) (by decide) (by kernel_rfl) rfl (fun w_ s_ => (contains_calls mday ((mdY y).getD i.toNat 0) _ hl48 w_ (hI48 w_ s_)).mono fun e_ w2_ h_ => ⟨h_.1.trans (congrArg Ending.returned (congrArg Value.bool hc)), h_.2⟩) ?_
  refine GM_take rfl rfl ?_
  refine GM_rd (by decide) (rd_not rfl) ?_
  refine GM_take rfl rfl ?_
  refine GM_rd (by decide) (rd_pick rfl rfl rfl) ?_
  refine GM_take rfl rfl ?_
  refine GM_rd (by decide) (rd_move rfl) ?_
  refine GM_take rfl rfl ?_
  refine GM_rd (by decide) (rd_move rfl) ?_
  refine GM_take rfl rfl ?_
  refine GM_rd (by decide) (rd_nilCheck rfl) ?_
  refine GM_take rfl rfl ?_
  refine GM_rd (by decide) (rd_fieldAddr (j := 49) (by kernel_rfl) rfl) ?_
  refine GM_take rfl rfl ?_
  refine GM_rd (by decide) (rd_load 1 rfl hR r49 (by kernel_rfl) (by decide)) ?_
  refine GM_take rfl rfl ?_
  refine GM_rd (by decide) (rd_move rfl) ?_
  refine GM_take rfl rfl ?_
  refine GM_rd (by decide) (rd_nilCheck rfl) ?_
  refine GM_take rfl rfl ?_
  refine GM_rd (by decide) (rd_fieldAddr (j := 7) (by kernel_rfl) rfl) ?_
  refine GM_take rfl rfl ?_
  refine GM_rd (by decide) (rd_fieldAddr (j := 11) (by kernel_rfl) rfl) ?_
  refine GM_take rfl rfl ?_
  refine GM_rd (by decide) (rd_load 0 rfl hB h18 (by kernel_rfl) (by decide)) ?_
  refine GM_take rfl rfl ?_
  refine GM_rd (by decide) (rd_move rfl) ?_
  refine GM_take rfl rfl ?_
  refine GM_rd (by decide) (rd_indexAddr (e := 3) (n := 1) (by kernel_rfl) rfl rfl (by omega) (by omega)) ?_
  refine GM_take rfl rfl ?_
  refine GM_rd (by decide) (rd_load_row 5 rfl hS5 rfl (tab_cell (len_nmd y) hi.1 hi.2) (by kernel_rfl)) ?_
  refine GM_take rfl rfl ?_
  refine GM_call_v (v := .bool (nmday.any (· == ((nmdY y).getD i.toNat 0)))) (by decide) (by kernel_rfl) rfl (fun w_ s_ => (contains_calls nmday ((nmdY y).getD i.toNat 0) _ hl49 w_ (hI49 w_ s_)).mono fun e_ w2_ h_ => ⟨h_.1.trans (congrArg Ending.returned rfl), h_.2⟩) ?_
  refine GM_take rfl rfl ?_
  refine GM_rd (by decide) (rd_not rfl) ?_
  refine GM_take rfl rfl ?_
  refine GM_rd (by decide) (rd_pick rfl rfl rfl) ?_
  refine GM_rd (by decide) ((rd_pick rfl rfl rfl).to (v' := .bool fF) (by rw [hfF]; unfold badF; rw [hc]; simp [hz, hz2])) ?_
  refine GM_rd (by decide) (rd_move rfl) ?_
  exact GM_nil (fun a k => k.cons rfl (k.cons rfl (k.cons rfl (k.cons rfl (k.cons rfl (k.cons rfl (k.cons rfl (k.cons rfl (k.cons rfl (k.cons rfl (k.nil)))))))))))
theorem ft_19 {it rb : Nat} (hB : lkp 0 B = some it) (hR : lkp 1 B = some rb) {p47 : Option Addr} {c47 : Nat} {month : List Int} (r47 : lkp (ky 1 47) H = some (.slice p47 month.length c47)) (hl47 : month.length ≤ 1000000000) (hI47 : ∀ w, Sees F w0 B H S w → Ints w (.slice p47 month.length c47) month) {p48 : Option Addr} {c48 : Nat} {mday : List Int} (r48 : lkp (ky 1 48) H = some (.slice p48 mday.length c48)) (hl48 : mday.length ≤ 1000000000) (hI48 : ∀ w, Sees F w0 B H S w → Ints w (.slice p48 mday.length c48) mday) {p49 : Option Addr} {c49 : Nat} {nmday : List Int} (r49 : lkp (ky 1 49) H = some (.slice p49 nmday.length c49)) (hl49 : nmday.length ≤ 1000000000) (hI49 : ∀ w, Sees F w0 B H S w → Ints w (.slice p49 nmday.length c49) nmday) {p50 : Option Addr} {c50 : Nat} {yday : List Int} (r50 : lkp (ky 1 50) H = some (.slice p50 yday.length c50)) (hl50 : yday.length ≤ 1000000000) (hI50 : ∀ w, Sees F w0 B H S w → Ints w (.slice p50 yday.length c50) yday) {p52 : Option Addr} {c52 : Nat} {wday : List Int} (r52 : lkp (ky 1 52) H = some (.slice p52 wday.length c52)) (hl52 : wday.length ≤ 1000000000) (hI52 : ∀ w, Sees F w0 B H S w → Ints w (.slice p52 wday.length c52) wday) {p51 p57 : Option Addr} {c51 c57 : Nat} {weekno easter : List Int} (r51 : lkp (ky 1 51) H = some (.slice p51 weekno.length c51)) (r57 : lkp (ky 1 57) H = some (.slice p57 easter.length c57)) {p20 : Option Addr} {c20 : Nat} {wno : List Int} (h20 : lkp (ky 0 20) H = some (.slice p20 wno.length c20)) (hp20 : 0 < wno.length → ∃ b, p20 = some ⟨b, 0, none⟩) (hS8 : 0 < wno.length → lkp 8 S = some ⟨.slice p20 wno.length c20, 3, 1, wno.length, wno.map (Value.int .i64)⟩) {p21 : Option Addr} {c21 : Nat} {nwm : List Int} (h21 : lkp (ky 0 21) H = some (.slice p21 nwm.length c21)) (hp21 : 0 < nwm.length → ∃ b, p21 = some ⟨b, 0, none⟩) (hS9 : 0 < nwm.length → lkp 9 S = some ⟨.slice p21 nwm.length c21, 3, 1, nwm.length, nwm.map (Value.int .i64)⟩) {p22 : Option Addr} {c22 : Nat} {eas : List Int} (h22 : lkp (ky 0 22) H = some (.slice p22 eas.length c22)) (hp22 : 0 < eas.length → ∃ b, p22 = some ⟨b, 0, none⟩) (hS10 : 0 < eas.length → lkp 10 S = some ⟨.slice p22 eas.length c22, 3, 1, eas.length, eas.map (Value.int .i64)⟩) {y : Int}
    (h10 : lkp (ky 0 10) H = some (.int .i64 (365 + Cal.lp y))) (h11 : lkp (ky 0 11) H = some (.int .i64 (365 + Cal.lp (y + 1)))) {b3 b4 b5 b6 c3 c4 c5 c6 : Nat} (h15 : lkp (ky 0 15) H = some (.slice (some ⟨b3, 0, none⟩) (nY y) c3)) (h17 : lkp (ky 0 17) H = some (.slice (some ⟨b4, 0, none⟩) (nY y) c4))
    (h18 : lkp (ky 0 18) H = some (.slice (some ⟨b5, 0, none⟩) (nY y) c5)) (h19 : lkp (ky 0 19) H = some (.slice (some ⟨b6, 0 + (ywd y).toNat * 1, none⟩) (385 - (ywd y).toNat) (c6 - (ywd y).toNat)))
    (hS3 : lkp 3 S = some ⟨.slice (some ⟨b3, 0, none⟩) (nY y) c3, 3, 1, nY y, (mmY y).map (Value.int .i64)⟩) (hS4 : lkp 4 S = some ⟨.slice (some ⟨b4, 0, none⟩) (nY y) c4, 3, 1, nY y, (mdY y).map (Value.int .i64)⟩) (hS5 : lkp 5 S = some ⟨.slice (some ⟨b5, 0, none⟩) (nY y) c5, 3, 1, nY y, (nmdY y).map (Value.int .i64)⟩)
    (hS6 : lkp 6 S = some ⟨.slice (some ⟨b6, 0, none⟩) 385 c6, 3, 1, 385, (wd 55).map (Value.int .i64)⟩) {v5 v6 v7 v98 v99 v100 : Value} {i : Int} (hi : 0 ≤ i ∧ i < nY y) (hwn : weekno.length ≠ 0 → i < wno.length) (hnw : nwm.length ≠ 0 → i < nwm.length) (hea : easter.length ≠ 0 → i < eas.length) (fF : Bool) (hfF : fF = (false || badF mday nmday y i)) (hz : ¬ mday.length = 0) (hc : (mday.any (· == ((mdY y).getD i.toNat 0))) = true) : GM Go.Proofs.Tryz.prog ops11 (Kn 1418 [(0, .pointer (some ⟨it, 0, none⟩)), (2, .pointer (some ⟨rb, 0, none⟩)), (5, v5), (6, v6), (7, v7), (9, .int .i64 i), (98, v98), (99, v99), (100, v100), (259, .bool fF)]) (List.take 48 (List.drop 105 ops11.toList)) 1418 [(0, .pointer (some ⟨it, 0, none⟩)), (2, .pointer (some ⟨rb, 0, none⟩)), (5, v5), (6, v6), (7, v7), (9, .int .i64 i), (98, v98), (99, v99), (100, v100), (211, .bool false)] F w0 B H S := by
  have hlp := Cal.lp_01 y
  have hlp2 := Cal.lp_01 (y + 1)
  have hny := nY_lp y
  have hyw : 0 ≤ ywd y ∧ ywd y ≤ 6 := by unfold ywd; omega
  refine GM_take rfl rfl ?_
  refine GM_rd (by decide) (rd_move rfl) ?_
  refine GM_take rfl rfl ?_
  refine GM_rd (by decide) (rd_nilCheck rfl) ?_
  refine GM_take rfl rfl ?_
  refine GM_rd (by decide) (rd_fieldAddr (j := 48) (by kernel_rfl) rfl) ?_
  refine GM_take rfl rfl ?_
  refine GM_rd (by decide) (rd_load 1 rfl hR r48 (by kernel_rfl) (by decide)) ?_
  refine GM_take rfl rfl ?_
  refine GM_rd (by decide) (rd_len (by kernel_rfl) rfl) ?_
  refine GM_take rfl rfl ?_
  refine GM_rd (by decide) ((rd_neq rfl rfl).to (congrArg Value.bool (n_ne (by omega)))) ?_
  refine GM_take rfl rfl ?_
  refine GM_rd (by decide) (rd_move rfl) ?_
  refine GM_pass (by decide) rfl rfl (by decide) ?_
  refine GM_pass (by decide) rfl rfl (by decide) ?_
  refine GM_pass (by decide) rfl rfl (by decide) ?_
  refine GM_pass (by decide) rfl rfl (by decide) ?_
  refine GM_pass (by decide) rfl rfl (by decide) ?_
  refine GM_pass (by decide) rfl rfl (by decide) ?_
  refine GM_take rfl rfl ?_
  refine GM_rd (by decide) (rd_pick rfl rfl rfl) ?_
  refine GM_take rfl rfl ?_
  refine GM_rd (by decide) (rd_move rfl) ?_
  refine GM_take rfl rfl ?_
  refine GM_rd (by decide) (rd_move rfl) ?_
  refine GM_take rfl rfl ?_
  refine GM_rd (by decide) (rd_nilCheck rfl) ?_
  refine GM_take rfl rfl ?_
  refine GM_rd (by decide) (rd_fieldAddr (j := 48) (by kernel_rfl) rfl) ?_
  refine GM_take rfl rfl ?_
  refine GM_rd (by decide) (rd_load 1 rfl hR r48 (by kernel_rfl) (by decide)) ?_
  refine GM_take rfl rfl ?_
  refine GM_rd (by decide) (rd_move rfl) ?_
  refine GM_take rfl rfl ?_
  refine GM_rd (by decide) (rd_nilCheck rfl) ?_
  refine GM_take rfl rfl ?_
  refine GM_rd (by decide) (rd_fieldAddr (j := 7) (by kernel_rfl) rfl) ?_
  refine GM_take rfl rfl ?_
  refine GM_rd (by decide) (rd_fieldAddr (j := 10) (by kernel_rfl) rfl) ?_
  refine GM_take rfl rfl ?_
  refine GM_rd (by decide) (rd_load 0 rfl hB h17 (by kernel_rfl) (by decide)) ?_
  refine GM_take rfl rfl ?_
  refine GM_rd (by decide) (rd_move rfl) ?_
  refine GM_take rfl rfl ?_
  refine GM_rd (by decide) (rd_indexAddr (e := 3) (n := 1) (by kernel_rfl) rfl rfl (by omega) (by omega)) ?_
  refine GM_take rfl rfl ?_
  refine GM_rd (by decide) (rd_load_row 4 rfl hS4 rfl (tab_cell (len_md y) hi.1 hi.2) (by kernel_rfl)) ?_
  refine GM_take rfl rfl ?_
  refine GM_call_v (v := .bool true) (by decide) (by kernel_rfl) rfl (fun w_ s_ => (contains_calls mday ((mdY y).getD i.toNat 0) _ hl48 w_ (hI48 w_ s_)).mono fun e_ w2_ h_ => ⟨h_.1.trans (congrArg Ending.returned (congrArg Value.bool hc)), h_.2⟩) ?_
  refine GM_take rfl rfl ?_
  refine GM_rd (by decide) (rd_not rfl) ?_
  refine GM_take rfl rfl ?_
  refine GM_rd (by decide) (rd_pick rfl rfl rfl) ?_
  refine GM_take rfl rfl ?_
  refine GM_rd (by decide) (rd_move rfl) ?_
  refine GM_pass (by decide) rfl rfl (by decide) ?_
  refine GM_pass (by decide) rfl rfl (by decide) ?_
  refine GM_pass (by decide) rfl rfl (by decide) ?_
  refine GM_pass (by decide) rfl rfl (by decide) ?_
  refine GM_pass (by decide) rfl rfl (by decide) ?_
  refine GM_pass (by decide) rfl rfl (by decide) ?_
  refine GM_pass (by decide) rfl rfl (by decide) ?_
  refine GM_pass (by decide) rfl rfl (by decide) ?_
  refine GM_pass (by decide) rfl rfl (by decide) ?_
  refine GM_pass (by decide) rfl rfl (by decide) ?_
  refine GM_pass (by decide) rfl rfl (by decide) ?_
  refine GM_pass (by decide) rfl rfl (by decide) ?_
  refine GM_pass (by decide) rfl rfl (by decide) ?_
  refine GM_pass (by decide) rfl rfl (by decide) ?_
  refine GM_take rfl rfl ?_
  refine GM_rd (by decide) (rd_pick rfl rfl rfl) ?_
  refine GM_rd (by decide) ((rd_pick rfl rfl rfl).to (v' := .bool fF) (by rw [hfF]; unfold badF; rw [hc]; simp [hz])) ?_
  refine GM_rd (by decide) (rd_move rfl) ?_
  exact GM_nil (fun a k => k.cons rfl (k.cons rfl (k.cons rfl (k.cons rfl (k.cons rfl (k.cons rfl (k.cons rfl (k.cons rfl (k.cons rfl (k.cons rfl (k.nil)))))))))))
theorem ft_20 {it rb : Nat} (hB : lkp 0 B = some it) (hR : lkp 1 B = some rb) {p47 : Option Addr} {c47 : Nat} {month : List Int} (r47 : lkp (ky 1 47) H = some (.slice p47 month.length c47)) (hl47 : month.length ≤ 1000000000) (hI47 : ∀ w, Sees F w0 B H S w → Ints w (.slice p47 month.length c47) month) {p48 : Option Addr} {c48 : Nat} {mday : List Int} (r48 : lkp (ky 1 48) H = some (.slice p48 mday.length c48)) (hl48 : mday.length ≤ 1000000000) (hI48 : ∀ w, Sees F w0 B H S w → Ints w (.slice p48 mday.length c48) mday) {p49 : Option Addr} {c49 : Nat} {nmday : List Int} (r49 : lkp (ky 1 49) H = some (.slice p49 nmday.length c49)) (hl49 : nmday.length ≤ 1000000000) (hI49 : ∀ w, Sees F w0 B H S w → Ints w (.slice p49 nmday.length c49) nmday) {p50 : Option Addr} {c50 : Nat} {yday : List Int} (r50 : lkp (ky 1 50) H = some (.slice p50 yday.length c50)) (hl50 : yday.length ≤ 1000000000) (hI50 : ∀ w, Sees F w0 B H S w → Ints w (.slice p50 yday.length c50) yday) {p52 : Option Addr} {c52 : Nat} {wday : List Int} (r52 : lkp (ky 1 52) H = some (.slice p52 wday.length c52)) (hl52 : wday.length ≤ 1000000000) (hI52 : ∀ w, Sees F w0 B H S w → Ints w (.slice p52 wday.length c52) wday) {p51 p57 : Option Addr} {c51 c57 : Nat} {weekno easter : List Int} (r51 : lkp (ky 1 51) H = some (.slice p51 weekno.length c51)) (r57 : lkp (ky 1 57) H = some (.slice p57 easter.length c57)) {p20 : Option Addr} {c20 : Nat} {wno : List Int} (h20 : lkp (ky 0 20) H = some (.slice p20 wno.length c20)) (hp20 : 0 < wno.length → ∃ b, p20 = some ⟨b, 0, none⟩) (hS8 : 0 < wno.length → lkp 8 S = some ⟨.slice p20 wno.length c20, 3, 1, wno.length, wno.map (Value.int .i64)⟩) {p21 : Option Addr} {c21 : Nat} {nwm : List Int} (h21 : lkp (ky 0 21) H = some (.slice p21 nwm.length c21)) (hp21 : 0 < nwm.length → ∃ b, p21 = some ⟨b, 0, none⟩) (hS9 : 0 < nwm.length → lkp 9 S = some ⟨.slice p21 nwm.length c21, 3, 1, nwm.length, nwm.map (Value.int .i64)⟩) {p22 : Option Addr} {c22 : Nat} {eas : List Int} (h22 : lkp (ky 0 22) H = some (.slice p22 eas.length c22)) (hp22 : 0 < eas.length → ∃ b, p22 = some ⟨b, 0, none⟩) (hS10 : 0 < eas.length → lkp 10 S = some ⟨.slice p22 eas.length c22, 3, 1, eas.length, eas.map (Value.int .i64)⟩) {y : Int}
    (h10 : lkp (ky 0 10) H = some (.int .i64 (365 + Cal.lp y))) (h11 : lkp (ky 0 11) H = some (.int .i64 (365 + Cal.lp (y + 1)))) {b3 b4 b5 b6 c3 c4 c5 c6 : Nat} (h15 : lkp (ky 0 15) H = some (.slice (some ⟨b3, 0, none⟩) (nY y) c3)) (h17 : lkp (ky 0 17) H = some (.slice (some ⟨b4, 0, none⟩) (nY y) c4))
    (h18 : lkp (ky 0 18) H = some (.slice (some ⟨b5, 0, none⟩) (nY y) c5)) (h19 : lkp (ky 0 19) H = some (.slice (some ⟨b6, 0 + (ywd y).toNat * 1, none⟩) (385 - (ywd y).toNat) (c6 - (ywd y).toNat)))
    (hS3 : lkp 3 S = some ⟨.slice (some ⟨b3, 0, none⟩) (nY y) c3, 3, 1, nY y, (mmY y).map (Value.int .i64)⟩) (hS4 : lkp 4 S = some ⟨.slice (some ⟨b4, 0, none⟩) (nY y) c4, 3, 1, nY y, (mdY y).map (Value.int .i64)⟩) (hS5 : lkp 5 S = some ⟨.slice (some ⟨b5, 0, none⟩) (nY y) c5, 3, 1, nY y, (nmdY y).map (Value.int .i64)⟩)
    (hS6 : lkp 6 S = some ⟨.slice (some ⟨b6, 0, none⟩) 385 c6, 3, 1, 385, (wd 55).map (Value.int .i64)⟩) {v5 v6 v7 v98 v99 v100 : Value} {i : Int} (hi : 0 ≤ i ∧ i < nY y) (hwn : weekno.length ≠ 0 → i < wno.length) (hnw : nwm.length ≠ 0 → i < nwm.length) (hea : easter.length ≠ 0 → i < eas.length) (fF : Bool) (hfF : fF = (false || badF mday nmday y i)) (hz : ¬ mday.length = 0) (hc : (mday.any (· == ((mdY y).getD i.toNat 0))) = false) : GM Go.Proofs.Tryz.prog ops11 (Kn 1418 [(0, .pointer (some ⟨it, 0, none⟩)), (2, .pointer (some ⟨rb, 0, none⟩)), (5, v5), (6, v6), (7, v7), (9, .int .i64 i), (98, v98), (99, v99), (100, v100), (259, .bool fF)]) (List.take 48 (List.drop 105 ops11.toList)) 1418 [(0, .pointer (some ⟨it, 0, none⟩)), (2, .pointer (some ⟨rb, 0, none⟩)), (5, v5), (6, v6), (7, v7), (9, .int .i64 i), (98, v98), (99, v99), (100, v100), (211, .bool false)] F w0 B H S := by
  have hlp := Cal.lp_01 y
  have hlp2 := Cal.lp_01 (y + 1)
  have hny := nY_lp y
  have hyw : 0 ≤ ywd y ∧ ywd y ≤ 6 := by unfold ywd; omega
  refine GM_take rfl rfl ?_
  refine GM_rd (by decide) (rd_move rfl) ?_
  refine GM_take rfl rfl ?_
  refine GM_rd (by decide) (rd_nilCheck rfl) ?_
  refine GM_take rfl rfl ?_
  refine GM_rd (by decide) (rd_fieldAddr (j := 48) (by kernel_rfl) rfl) ?_
  refine GM_take rfl rfl ?_
  refine GM_rd (by decide) (rd_load 1 rfl hR r48 (by kernel_rfl) (by decide)) ?_
  refine GM_take rfl rfl ?_
  refine GM_rd (by decide) (rd_len (by kernel_rfl) rfl) ?_
  refine GM_take rfl rfl ?_
  refine GM_rd (by decide) ((rd_neq rfl rfl).to (congrArg Value.bool (n_ne (by omega)))) ?_
  refine GM_take rfl rfl ?_
  refine GM_rd (by decide) (rd_move rfl) ?_
  refine GM_pass (by decide) rfl rfl (by decide) ?_
  refine GM_pass (by decide) rfl rfl (by decide) ?_
  refine GM_pass (by decide) rfl rfl (by decide) ?_
  refine GM_pass (by decide) rfl rfl (by decide) ?_
  refine GM_pass (by decide) rfl rfl (by decide) ?_
  refine GM_pass (by decide) rfl rfl (by decide) ?_
  refine GM_take rfl rfl ?_
  refine GM_rd (by decide) (rd_pick rfl rfl rfl) ?_
  refine GM_take rfl rfl ?_
  refine GM_rd (by decide) (rd_move rfl) ?_
  refine GM_take rfl rfl ?_
  refine GM_rd (by decide) (rd_move rfl) ?_
  refine GM_take rfl rfl ?_
  refine GM_rd (by decide) (rd_nilCheck rfl) ?_
  refine GM_take rfl rfl ?_
  refine GM_rd (by decide) (rd_fieldAddr (j := 48) (by kernel_rfl) rfl) ?_
  refine GM_take rfl rfl ?_
  refine GM_rd (by decide) (rd_load 1 rfl hR r48 (by kernel_rfl) (by decide)) ?_
  refine GM_take rfl rfl ?_
  refine GM_rd (by decide) (rd_move rfl) ?_
  refine GM_take rfl rfl ?_
  refine GM_rd (by decide) (rd_nilCheck rfl) ?_
  refine GM_take rfl rfl ?_
  refine GM_rd (by decide) (rd_fieldAddr (j := 7) (by kernel_rfl) rfl) ?_
  refine GM_take rfl rfl ?_
  refine GM_rd (by decide) (rd_fieldAddr (j := 10) (by kernel_rfl) rfl) ?_
  refine GM_take rfl rfl ?_
  refine GM_rd (by decide) (rd_load 0 rfl hB h17 (by kernel_rfl) (by decide)) ?_
  refine GM_take rfl rfl ?_
  refine GM_rd (by decide) (rd_move rfl) ?_
  refine GM_take rfl rfl ?_
  refine GM_rd (by decide) (rd_indexAddr (e := 3) (n := 1) (by kernel_rfl) rfl rfl (by omega) (by omega)) ?_
  refine GM_take rfl rfl ?_
  refine GM_rd (by decide) (rd_load_row 4 rfl hS4 rfl (tab_cell (len_md y) hi.1 hi.2) (by kernel_rfl)) ?_
  refine GM_take rfl rfl ?_
  refine GM_call_v (v := .bool false) (by decide) (by kernel_rfl) rfl (fun w_ s_ => (contains_calls mday ((mdY y).getD i.toNat 0) _ hl48 w_ (hI48 w_ s_)).mono fun e_ w2_ h_ => ⟨h_.1.trans (congrArg Ending.returned (congrArg Value.bool hc)), h_.2⟩) ?_
  refine GM_take rfl rfl ?_
  refine GM_rd (by decide) (rd_not rfl) ?_
  refine GM_take rfl rfl ?_
  refine GM_rd (by decide) (rd_pick rfl rfl rfl) ?_
  refine GM_take rfl rfl ?_
  refine GM_rd (by decide) (rd_move rfl) ?_
  refine GM_take rfl rfl ?_
  refine GM_rd (by decide) (rd_move rfl) ?_
  refine GM_take rfl rfl ?_
  refine GM_rd (by decide) (rd_nilCheck rfl) ?_
  refine GM_take rfl rfl ?_
  refine GM_rd (by decide) (rd_fieldAddr (j := 49) (by kernel_rfl) rfl) ?_
  refine GM_take rfl rfl ?_
  refine GM_rd (by decide) (rd_load 1 rfl hR r49 (by kernel_rfl) (by decide)) ?_
  refine GM_take rfl rfl ?_
  refine GM_rd (by decide) (rd_move rfl) ?_
  refine GM_take rfl rfl ?_
  refine GM_rd (by decide) (rd_nilCheck rfl) ?_
  refine GM_take rfl rfl ?_
  refine GM_rd (by decide) (rd_fieldAddr (j := 7) (by kernel_rfl) rfl) ?_
  refine GM_take rfl rfl ?_
  refine GM_rd (by decide) (rd_fieldAddr (j := 11) (by kernel_rfl) rfl) ?_
  refine GM_take rfl rfl ?_
  refine GM_rd (by decide) (rd_load 0 rfl hB h18 (by kernel_rfl) (by decide)) ?_
  refine GM_take rfl rfl ?_
  refine GM_rd (by decide) (rd_move rfl) ?_
  refine GM_take rfl rfl ?_
  refine GM_rd (by decide) (rd_indexAddr (e := 3) (n := 1) (by kernel_rfl) rfl rfl (by omega) (by omega)) ?_
  refine GM_take rfl rfl ?_
  refine GM_rd (by decide) (rd_load_row 5 rfl hS5 rfl (tab_cell (len_nmd y) hi.1 hi.2) (by kernel_rfl)) ?_
  refine GM_take rfl rfl ?_
  refine GM_call_v (v := .bool (nmday.any (· == ((nmdY y).getD i.toNat 0)))) (by decide) (by kernel_rfl) rfl (fun w_ s_ => (contains_calls nmday ((nmdY y).getD i.toNat 0) _ hl49 w_ (hI49 w_ s_)).mono fun e_ w2_ h_ => ⟨h_.1.trans (congrArg Ending.returned rfl), h_.2⟩) ?_
  refine GM_take rfl rfl ?_
  refine GM_rd (by decide) (rd_not rfl) ?_
  refine GM_take rfl rfl ?_
  refine GM_rd (by decide) (rd_pick rfl rfl rfl) ?_
  refine GM_rd (by decide) ((rd_pick rfl rfl rfl).to (v' := .bool fF) (by rw [hfF]; unfold badF; rw [hc]; simp [hz])) ?_
  refine GM_rd (by decide) (rd_move rfl) ?_
  exact GM_nil (fun a k => k.cons rfl (k.cons rfl (k.cons rfl (k.cons rfl (k.cons rfl (k.cons rfl (k.cons rfl (k.cons rfl (k.cons rfl (k.cons rfl (k.nil)))))))))))
theorem ft_21 {it rb : Nat} (hB : lkp 0 B = some it) (hR : lkp 1 B = some rb) {p47 : Option Addr} {c47 : Nat} {month : List Int} (r47 : lkp (ky 1 47) H = some (.slice p47 month.length c47)) (hl47 : month.length ≤ 1000000000) (hI47 : ∀ w, Sees F w0 B H S w → Ints w (.slice p47 month.length c47) month) {p48 : Option Addr} {c48 : Nat} {mday : List Int} (r48 : lkp (ky 1 48) H = some (.slice p48 mday.length c48)) (hl48 : mday.length ≤ 1000000000) (hI48 : ∀ w, Sees F w0 B H S w → Ints w (.slice p48 mday.length c48) mday) {p49 : Option Addr} {c49 : Nat} {nmday : List Int} (r49 : lkp (ky 1 49) H = some (.slice p49 nmday.length c49)) (hl49 : nmday.length ≤ 1000000000) (hI49 : ∀ w, Sees F w0 B H S w → Ints w (.slice p49 nmday.length c49) nmday) {p50 : Option Addr} {c50 : Nat} {yday : List Int} (r50 : lkp (ky 1 50) H = some (.slice p50 yday.length c50)) (hl50 : yday.length ≤ 1000000000) (hI50 : ∀ w, Sees F w0 B H S w → Ints w (.slice p50 yday.length c50) yday) {p52 : Option Addr} {c52 : Nat} {wday : List Int} (r52 : lkp (ky 1 52) H = some (.slice p52 wday.length c52)) (hl52 : wday.length ≤ 1000000000) (hI52 : ∀ w, Sees F w0 B H S w → Ints w (.slice p52 wday.length c52) wday) {p51 p57 : Option Addr} {c51 c57 : Nat} {weekno easter : List Int} (r51 : lkp (ky 1 51) H = some (.slice p51 weekno.length c51)) (r57 : lkp (ky 1 57) H = some (.slice p57 easter.length c57)) {p20 : Option Addr} {c20 : Nat} {wno : List Int} (h20 : lkp (ky 0 20) H = some (.slice p20 wno.length c20)) (hp20 : 0 < wno.length → ∃ b, p20 = some ⟨b, 0, none⟩) (hS8 : 0 < wno.length → lkp 8 S = some ⟨.slice p20 wno.length c20, 3, 1, wno.length, wno.map (Value.int .i64)⟩) {p21 : Option Addr} {c21 : Nat} {nwm : List Int} (h21 : lkp (ky 0 21) H = some (.slice p21 nwm.length c21)) (hp21 : 0 < nwm.length → ∃ b, p21 = some ⟨b, 0, none⟩) (hS9 : 0 < nwm.length → lkp 9 S = some ⟨.slice p21 nwm.length c21, 3, 1, nwm.length, nwm.map (Value.int .i64)⟩) {p22 : Option Addr} {c22 : Nat} {eas : List Int} (h22 : lkp (ky 0 22) H = some (.slice p22 eas.length c22)) (hp22 : 0 < eas.length → ∃ b, p22 = some ⟨b, 0, none⟩) (hS10 : 0 < eas.length → lkp 10 S = some ⟨.slice p22 eas.length c22, 3, 1, eas.length, eas.map (Value.int .i64)⟩) {y : Int}
    (h10 : lkp (ky 0 10) H = some (.int .i64 (365 + Cal.lp y))) (h11 : lkp (ky 0 11) H = some (.int .i64 (365 + Cal.lp (y + 1)))) {b3 b4 b5 b6 c3 c4 c5 c6 : Nat} (h15 : lkp (ky 0 15) H = some (.slice (some ⟨b3, 0, none⟩) (nY y) c3)) (h17 : lkp (ky 0 17) H = some (.slice (some ⟨b4, 0, none⟩) (nY y) c4))
    (h18 : lkp (ky 0 18) H = some (.slice (some ⟨b5, 0, none⟩) (nY y) c5)) (h19 : lkp (ky 0 19) H = some (.slice (some ⟨b6, 0 + (ywd y).toNat * 1, none⟩) (385 - (ywd y).toNat) (c6 - (ywd y).toNat)))
    (hS3 : lkp 3 S = some ⟨.slice (some ⟨b3, 0, none⟩) (nY y) c3, 3, 1, nY y, (mmY y).map (Value.int .i64)⟩) (hS4 : lkp 4 S = some ⟨.slice (some ⟨b4, 0, none⟩) (nY y) c4, 3, 1, nY y, (mdY y).map (Value.int .i64)⟩) (hS5 : lkp 5 S = some ⟨.slice (some ⟨b5, 0, none⟩) (nY y) c5, 3, 1, nY y, (nmdY y).map (Value.int .i64)⟩)
    (hS6 : lkp 6 S = some ⟨.slice (some ⟨b6, 0, none⟩) 385 c6, 3, 1, 385, (wd 55).map (Value.int .i64)⟩) {v5 v6 v7 v98 v99 v100 : Value} {i : Int} (hi : 0 ≤ i ∧ i < nY y) (hwn : weekno.length ≠ 0 → i < wno.length) (hnw : nwm.length ≠ 0 → i < nwm.length) (hea : easter.length ≠ 0 → i < eas.length) (fG : Bool) (hfG : fG = (true || badG yday y i)) : GM Go.Proofs.Tryz.prog ops11 (Kn 1418 [(0, .pointer (some ⟨it, 0, none⟩)), (2, .pointer (some ⟨rb, 0, none⟩)), (5, v5), (6, v6), (7, v7), (9, .int .i64 i), (98, v98), (99, v99), (100, v100), (348, .bool fG)]) (List.take 89 (List.drop 153 ops11.toList)) 1418 [(0, .pointer (some ⟨it, 0, none⟩)), (2, .pointer (some ⟨rb, 0, none⟩)), (5, v5), (6, v6), (7, v7), (9, .int .i64 i), (98, v98), (99, v99), (100, v100), (259, .bool true)] F w0 B H S := by
  have hlp := Cal.lp_01 y
  have hlp2 := Cal.lp_01 (y + 1)
  have hny := nY_lp y
  have hyw : 0 ≤ ywd y ∧ ywd y ≤ 6 := by unfold ywd; omega
  refine GM_pass (by decide) rfl rfl (by decide) ?_
  refine GM_pass (by decide) rfl rfl (by decide) ?_
  refine GM_pass (by decide) rfl rfl (by decide) ?_
  refine GM_pass (by decide) rfl rfl (by decide) ?_
  refine GM_pass (by decide) rfl rfl (by decide) ?_
  refine GM_pass (by decide) rfl rfl (by decide) ?_
  refine GM_pass (by decide) rfl rfl (by decide) ?_
  refine GM_passu (by decide) rfl rfl ?_
  refine GM_passu (by decide) rfl rfl ?_
  refine GM_passu (by decide) rfl rfl ?_
  refine GM_passu (by decide) rfl rfl ?_
  refine GM_passu (by decide) rfl rfl ?_
  refine GM_passu (by decide) rfl rfl ?_
  refine GM_passu (by decide) rfl rfl ?_
  refine GM_passu (by decide) rfl rfl ?_
  refine GM_passu (by decide) rfl rfl ?_
  refine GM_passu (by decide) rfl rfl ?_
  refine GM_passu (by decide) rfl rfl ?_
  refine GM_passu (by decide) rfl rfl ?_
  refine GM_passu (by decide) rfl rfl ?_
  refine GM_passu (by decide) rfl rfl ?_
  refine GM_passu (by decide) rfl rfl ?_
  refine GM_passu (by decide) rfl rfl ?_
  refine GM_passu (by decide) rfl rfl ?_
  refine GM_passu (by decide) rfl rfl ?_
  refine GM_passu (by decide) rfl rfl ?_
  refine GM_passu (by decide) rfl rfl ?_
  refine GM_passu (by decide) rfl rfl ?_
  refine GM_passu (by decide) rfl rfl ?_
  refine GM_passu (by decide) rfl rfl ?_
  refine GM_passu (by decide) rfl rfl ?_
  refine GM_passu (by decide) rfl rfl ?_
  refine GM_passu (by decide) rfl rfl ?_
  refine GM_passu (by decide) rfl rfl ?_
  refine GM_passu (by decide) rfl rfl ?_
  refine GM_passu (by decide) rfl rfl ?_
  refine GM_passu (by decide) rfl rfl ?_
  refine GM_passu (by decide) rfl rfl ?_
  refine GM_passu (by decide) rfl rfl ?_
  refine GM_passu (by decide) rfl rfl ?_
  refine GM_passu (by decide) rfl rfl ?_
  refine GM_passu (by decide) rfl rfl ?_
  refine GM_passu (by decide) rfl rfl ?_
  refine GM_passu (by decide) rfl rfl ?_
  refine GM_passu (by decide) rfl rfl ?_
  refine GM_passu (by decide) rfl rfl ?_
  refine GM_passu (by decide) rfl rfl ?_
  refine GM_passu (by decide) rfl rfl ?_
  refine GM_passu (by decide) rfl rfl ?_
  refine GM_passu (by decide) rfl rfl ?_
  refine GM_passu (by decide) rfl rfl ?_
  refine GM_passu (by decide) rfl rfl ?_
  refine GM_passu (by decide) rfl rfl ?_
  refine GM_passu (by decide) rfl rfl ?_
  refine GM_passu (by decide) rfl rfl ?_
  refine GM_passu (by decide) rfl rfl ?_
  refine GM_passu (by decide) rfl rfl ?_
  refine GM_passu (by decide) rfl rfl ?_
  refine GM_passu (by decide) rfl rfl ?_
  refine GM_passu (by decide) rfl rfl ?_
  refine GM_passu (by decide) rfl rfl ?_
  refine GM_passu (by decide) rfl rfl ?_
  refine GM_passu (by decide) rfl rfl ?_
  refine GM_passu (by decide) rfl rfl ?_
  refine GM_passu (by decide) rfl rfl ?_
  refine GM_passu (by decide) rfl rfl ?_
  refine GM_passu (by decide) rfl rfl ?_
  refine GM_passu (by decide) rfl rfl ?_
  refine GM_passu (by decide) rfl rfl ?_
  refine GM_passu (by decide) rfl rfl ?_
  refine GM_passu (by decide) rfl rfl ?_
  refine GM_passu (by decide) rfl rfl ?_
  refine GM_passu (by decide) rfl rfl ?_
  refine GM_passu (by decide) rfl rfl ?_
  refine GM_passu (by decide) rfl rfl ?_
  refine GM_passu (by decide) rfl rfl ?_
  refine GM_passu (by decide) rfl rfl ?_
  refine GM_passu (by decide) rfl rfl ?_
  refine GM_passu (by decide) rfl rfl ?_
  refine GM_passu (by decide) rfl rfl ?_
  refine GM_passu (by decide) rfl rfl ?_
  refine GM_passu (by decide) rfl rfl ?_
  refine GM_passu (by decide) rfl rfl ?_
  refine GM_passu (by decide) rfl rfl ?_
  refine GM_passu (by decide) rfl rfl ?_
  refine GM_passu (by decide) rfl rfl ?_
  refine GM_passu (by decide) rfl rfl ?_
  refine GM_pass (by decide) rfl rfl (by decide) ?_
  refine GM_rd (by decide) ((rd_pick rfl rfl rfl).to (v' := .bool fG) (by rw [hfG]; simp)) ?_
  exact GM_nil (fun a k => k.cons rfl (k.cons rfl (k.cons rfl (k.cons rfl (k.cons rfl (k.cons rfl (k.cons rfl (k.cons rfl (k.cons rfl (k.cons rfl (k.nil)))))))))))
theorem ft_22 {it rb : Nat} (hB : lkp 0 B = some it) (hR : lkp 1 B = some rb) {p47 : Option Addr} {c47 : Nat} {month : List Int} (r47 : lkp (ky 1 47) H = some (.slice p47 month.length c47)) (hl47 : month.length ≤ 1000000000) (hI47 : ∀ w, Sees F w0 B H S w → Ints w (.slice p47 month.length c47) month) {p48 : Option Addr} {c48 : Nat} {mday : List Int} (r48 : lkp (ky 1 48) H = some (.slice p48 mday.length c48)) (hl48 : mday.length ≤ 1000000000) (hI48 : ∀ w, Sees F w0 B H S w → Ints w (.slice p48 mday.length c48) mday) {p49 : Option Addr} {c49 : Nat} {nmday : List Int} (r49 : lkp (ky 1 49) H = some (.slice p49 nmday.length c49)) (hl49 : nmday.length ≤ 1000000000) (hI49 : ∀ w, Sees F w0 B H S w → Ints w (.slice p49 nmday.length c49) nmday) {p50 : Option Addr} {c50 : Nat} {yday : List Int} (r50 : lkp (ky 1 50) H = some (.slice p50 yday.length c50)) (hl50 : yday.length ≤ 1000000000) (hI50 : ∀ w, Sees F w0 B H S w → Ints w (.slice p50 yday.length c50) yday) {p52 : Option Addr} {c52 : Nat} {wday : List Int} (r52 : lkp (ky 1 52) H = some (.slice p52 wday.length c52)) (hl52 : wday.length ≤ 1000000000) (hI52 : ∀ w, Sees F w0 B H S w → Ints w (.slice p52 wday.length c52) wday) {p51 p57 : Option Addr} {c51 c57 : Nat} {weekno easter : List Int} (r51 : lkp (ky 1 51) H = some (.slice p51 weekno.length c51)) (r57 : lkp (ky 1 57) H = some (.slice p57 easter.length c57)) {p20 : Option Addr} {c20 : Nat} {wno : List Int} (h20 : lkp (ky 0 20) H = some (.slice p20 wno.length c20)) (hp20 : 0 < wno.length → ∃ b, p20 = some ⟨b, 0, none⟩) (hS8 : 0 < wno.length → lkp 8 S = some ⟨.slice p20 wno.length c20, 3, 1, wno.length, wno.map (Value.int .i64)⟩) {p21 : Option Addr} {c21 : Nat} {nwm : List Int} (h21 : lkp (ky 0 21) H = some (.slice p21 nwm.length c21)) (hp21 : 0 < nwm.length → ∃ b, p21 = some ⟨b, 0, none⟩) (hS9 : 0 < nwm.length → lkp 9 S = some ⟨.slice p21 nwm.length c21, 3, 1, nwm.length, nwm.map (Value.int .i64)⟩) {p22 : Option Addr} {c22 : Nat} {eas : List Int} (h22 : lkp (ky 0 22) H = some (.slice p22 eas.length c22)) (hp22 : 0 < eas.length → ∃ b, p22 = some ⟨b, 0, none⟩) (hS10 : 0 < eas.length → lkp 10 S = some ⟨.slice p22 eas.length c22, 3, 1, eas.length, eas.map (Value.int .i64)⟩) {y : Int}
    (h10 : lkp (ky 0 10) H = some (.int .i64 (365 + Cal.lp y))) (h11 : lkp (ky 0 11) H = some (.int .i64 (365 + Cal.lp (y + 1)))) {b3 b4 b5 b6 c3 c4 c5 c6 : Nat} (h15 : lkp (ky 0 15) H = some (.slice (some ⟨b3, 0, none⟩) (nY y) c3)) (h17 : lkp (ky 0 17) H = some (.slice (some ⟨b4, 0, none⟩) (nY y) c4))
    (h18 : lkp (ky 0 18) H = some (.slice (some ⟨b5, 0, none⟩) (nY y) c5)) (h19 : lkp (ky 0 19) H = some (.slice (some ⟨b6, 0 + (ywd y).toNat * 1, none⟩) (385 - (ywd y).toNat) (c6 - (ywd y).toNat)))
    (hS3 : lkp 3 S = some ⟨.slice (some ⟨b3, 0, none⟩) (nY y) c3, 3, 1, nY y, (mmY y).map (Value.int .i64)⟩) (hS4 : lkp 4 S = some ⟨.slice (some ⟨b4, 0, none⟩) (nY y) c4, 3, 1, nY y, (mdY y).map (Value.int .i64)⟩) (hS5 : lkp 5 S = some ⟨.slice (some ⟨b5, 0, none⟩) (nY y) c5, 3, 1, nY y, (nmdY y).map (Value.int .i64)⟩)
    (hS6 : lkp 6 S = some ⟨.slice (some ⟨b6, 0, none⟩) 385 c6, 3, 1, 385, (wd 55).map (Value.int .i64)⟩) {v5 v6 v7 v98 v99 v100 : Value} {i : Int} (hi : 0 ≤ i ∧ i < nY y) (hwn : weekno.length ≠ 0 → i < wno.length) (hnw : nwm.length ≠ 0 → i < nwm.length) (hea : easter.length ≠ 0 → i < eas.length) (fG : Bool) (hfG : fG = (false || badG yday y i)) (hz : yday.length = 0) : GM Go.Proofs.Tryz.prog ops11 (Kn 1418 [(0, .pointer (some ⟨it, 0, none⟩)), (2, .pointer (some ⟨rb, 0, none⟩)), (5, v5), (6, v6), (7, v7), (9, .int .i64 i), (98, v98), (99, v99), (100, v100), (348, .bool fG)]) (List.take 89 (List.drop 153 ops11.toList)) 1418 [(0, .pointer (some ⟨it, 0, none⟩)), (2, .pointer (some ⟨rb, 0, none⟩)), (5, v5), (6, v6), (7, v7), (9, .int .i64 i), (98, v98), (99, v99), (100, v100), (259, .bool false)] F w0 B H S := by
  have hlp := Cal.lp_01 y
  have hlp2 := Cal.lp_01 (y + 1)
  have hny := nY_lp y
  have hyw : 0 ≤ ywd y ∧ ywd y ≤ 6 := by unfold ywd; omega
  refine GM_take rfl rfl ?_
  refine GM_rd (by decide) (rd_move rfl) ?_
  refine GM_take rfl rfl ?_
  refine GM_rd (by decide) (rd_nilCheck rfl) ?_
  refine GM_take rfl rfl ?_
  refine GM_rd (by decide) (rd_fieldAddr (j := 50) (by kernel_rfl) rfl) ?_
  refine GM_take rfl rfl ?_
  refine GM_rd (by decide) (rd_load 1 rfl hR r50 (by kernel_rfl) (by decide)) ?_
  refine GM_take rfl rfl ?_
  refine GM_rd (by decide) (rd_len (by kernel_rfl) rfl) ?_
  refine GM_take rfl rfl ?_
  refine GM_rd (by decide) ((rd_neq rfl rfl).to (congrArg Value.bool (n_eq (by omega)))) ?_
  refine GM_take rfl rfl ?_
  refine GM_rd (by decide) (rd_move rfl) ?_
  refine GM_pass (by decide) rfl rfl (by decide) ?_
  refine GM_pass (by decide) rfl rfl (by decide) ?_
  refine GM_pass (by decide) rfl rfl (by decide) ?_
  refine GM_pass (by decide) rfl rfl (by decide) ?_
  refine GM_pass (by decide) rfl rfl (by decide) ?_
  refine GM_pass (by decide) rfl rfl (by decide) ?_
  refine GM_pass (by decide) rfl rfl (by decide) ?_
  refine GM_pass (by decide) rfl rfl (by decide) ?_
  refine GM_passu (by decide) rfl rfl ?_
  refine GM_passu (by decide) rfl rfl ?_
  refine GM_passu (by decide) rfl rfl ?_
  refine GM_passu (by decide) rfl rfl ?_
  refine GM_passu (by decide) rfl rfl ?_
  refine GM_passu (by decide) rfl rfl ?_
  refine GM_passu (by decide) rfl rfl ?_
  refine GM_passu (by decide) rfl rfl ?_
  refine GM_pass (by decide) rfl rfl (by decide) ?_
  refine GM_pass (by decide) rfl rfl (by decide) ?_
  refine GM_passu (by decide) rfl rfl ?_
  refine GM_passu (by decide) rfl rfl ?_
  refine GM_passu (by decide) rfl rfl ?_
  refine GM_passu (by decide) rfl rfl ?_
  refine GM_passu (by decide) rfl rfl ?_
  refine GM_passu (by decide) rfl rfl ?_
  refine GM_passu (by decide) rfl rfl ?_
  refine GM_passu (by decide) rfl rfl ?_
  refine GM_passu (by decide) rfl rfl ?_
  refine GM_passu (by decide) rfl rfl ?_
  refine GM_passu (by decide) rfl rfl ?_
  refine GM_passu (by decide) rfl rfl ?_
  refine GM_passu (by decide) rfl rfl ?_
  refine GM_passu (by decide) rfl rfl ?_
  refine GM_pass (by decide) rfl rfl (by decide) ?_
  refine GM_pass (by decide) rfl rfl (by decide) ?_
  refine GM_passu (by decide) rfl rfl ?_
  refine GM_passu (by decide) rfl rfl ?_
  refine GM_passu (by decide) rfl rfl ?_
  refine GM_passu (by decide) rfl rfl ?_
  refine GM_passu (by decide) rfl rfl ?_
  refine GM_passu (by decide) rfl rfl ?_
  refine GM_passu (by decide) rfl rfl ?_
  refine GM_passu (by decide) rfl rfl ?_
  refine GM_passu (by decide) rfl rfl ?_
  refine GM_passu (by decide) rfl rfl ?_
  refine GM_passu (by decide) rfl rfl ?_
  refine GM_passu (by decide) rfl rfl ?_
  refine GM_passu (by decide) rfl rfl ?_
  refine GM_passu (by decide) rfl rfl ?_
  refine GM_passu (by decide) rfl rfl ?_
  refine GM_passu (by decide) rfl rfl ?_
  refine GM_passu (by decide) rfl rfl ?_
  refine GM_passu (by decide) rfl rfl ?_
  refine GM_passu (by decide) rfl rfl ?_
  refine GM_passu (by decide) rfl rfl ?_
  refine GM_passu (by decide) rfl rfl ?_
  refine GM_passu (by decide) rfl rfl ?_
  refine GM_passu (by decide) rfl rfl ?_
  refine GM_passu (by decide) rfl rfl ?_
  refine GM_passu (by decide) rfl rfl ?_
  refine GM_passu (by decide) rfl rfl ?_
  refine GM_passu (by decide) rfl rfl ?_
  refine GM_passu (by decide) rfl rfl ?_
  refine GM_passu (by decide) rfl rfl ?_
  refine GM_passu (by decide) rfl rfl ?_
  refine GM_passu (by decide) rfl rfl ?_
  refine GM_passu (by decide) rfl rfl ?_
  refine GM_passu (by decide) rfl rfl ?_
  refine GM_passu (by decide) rfl rfl ?_
  refine GM_passu (by decide) rfl rfl ?_
  refine GM_passu (by decide) rfl rfl ?_
  refine GM_passu (by decide) rfl rfl ?_
  refine GM_passu (by decide) rfl rfl ?_
  refine GM_passu (by decide) rfl rfl ?_
  refine GM_passu (by decide) rfl rfl ?_
  refine GM_passu (by decide) rfl rfl ?_
  refine GM_passu (by decide) rfl rfl ?_
  refine GM_passu (by decide) rfl rfl ?_
  refine GM_passu (by decide) rfl rfl ?_
  refine GM_passu (by decide) rfl rfl ?_
  refine GM_pass (by decide) rfl rfl (by decide) ?_
  refine GM_take rfl rfl ?_
  refine GM_rd (by decide) (rd_pick rfl rfl rfl) ?_
  refine GM_rd (by decide) ((rd_pick rfl rfl rfl).to (v' := .bool fG) (by rw [hfG]; simp [badG, hz])) ?_
  exact GM_nil (fun a k => k.cons rfl (k.cons rfl (k.cons rfl (k.cons rfl (k.cons rfl (k.cons rfl (k.cons rfl (k.cons rfl (k.cons rfl (k.cons rfl (k.nil)))))))))))
theorem ft_23 {it rb : Nat} (hB : lkp 0 B = some it) (hR : lkp 1 B = some rb) {p47 : Option Addr} {c47 : Nat} {month : List Int} (r47 : lkp (ky 1 47) H = some (.slice p47 month.length c47)) (hl47 : month.length ≤ 1000000000) (hI47 : ∀ w, Sees F w0 B H S w → Ints w (.slice p47 month.length c47) month) {p48 : Option Addr} {c48 : Nat} {mday : List Int} (r48 : lkp (ky 1 48) H = some (.slice p48 mday.length c48)) (hl48 : mday.length ≤ 1000000000) (hI48 : ∀ w, Sees F w0 B H S w → Ints w (.slice p48 mday.length c48) mday) {p49 : Option Addr} {c49 : Nat} {nmday : List Int} (r49 : lkp (ky 1 49) H = some (.slice p49 nmday.length c49)) (hl49 : nmday.length ≤ 1000000000) (hI49 : ∀ w, Sees F w0 B H S w → Ints w (.slice p49 nmday.length c49) nmday) {p50 : Option Addr} {c50 : Nat} {yday : List Int} (r50 : lkp (ky 1 50) H = some (.slice p50 yday.length c50)) (hl50 : yday.length ≤ 1000000000) (hI50 : ∀ w, Sees F w0 B H S w → Ints w (.slice p50 yday.length c50) yday) {p52 : Option Addr} {c52 : Nat} {wday : List Int} (r52 : lkp (ky 1 52) H = some (.slice p52 wday.length c52)) (hl52 : wday.length ≤ 1000000000) (hI52 : ∀ w, Sees F w0 B H S w → Ints w (.slice p52 wday.length c52) wday) {p51 p57 : Option Addr} {c51 c57 : Nat} {weekno easter : List Int} (r51 : lkp (ky 1 51) H = some (.slice p51 weekno.length c51)) (r57 : lkp (ky 1 57) H = some (.slice p57 easter.length c57)) {p20 : Option Addr} {c20 : Nat} {wno : List Int} (h20 : lkp (ky 0 20) H = some (.slice p20 wno.length c20)) (hp20 : 0 < wno.length → ∃ b, p20 = some ⟨b, 0, none⟩) (hS8 : 0 < wno.length → lkp 8 S = some ⟨.slice p20 wno.length c20, 3, 1, wno.length, wno.map (Value.int .i64)⟩) {p21 : Option Addr} {c21 : Nat} {nwm : List Int} (h21 : lkp (ky 0 21) H = some (.slice p21 nwm.length c21)) (hp21 : 0 < nwm.length → ∃ b, p21 = some ⟨b, 0, none⟩) (hS9 : 0 < nwm.length → lkp 9 S = some ⟨.slice p21 nwm.length c21, 3, 1, nwm.length, nwm.map (Value.int .i64)⟩) {p22 : Option Addr} {c22 : Nat} {eas : List Int} (h22 : lkp (ky 0 22) H = some (.slice p22 eas.length c22)) (hp22 : 0 < eas.length → ∃ b, p22 = some ⟨b, 0, none⟩) (hS10 : 0 < eas.length → lkp 10 S = some ⟨.slice p22 eas.length c22, 3, 1, eas.length, eas.map (Value.int .i64)⟩) {y : Int}
    (h10 : lkp (ky 0 10) H = some (.int .i64 (365 + Cal.lp y))) (h11 : lkp (ky 0 11) H = some (.int .i64 (365 + Cal.lp (y + 1)))) {b3 b4 b5 b6 c3 c4 c5 c6 : Nat} (h15 : lkp (ky 0 15) H = some (.slice (some ⟨b3, 0, none⟩) (nY y) c3)) (h17 : lkp (ky 0 17) H = some (.slice (some ⟨b4, 0, none⟩) (nY y) c4))
    (h18 : lkp (ky 0 18) H = some (.slice (some ⟨b5, 0, none⟩) (nY y) c5)) (h19 : lkp (ky 0 19) H = some (.slice (some ⟨b6, 0 + (ywd y).toNat * 1, none⟩) (385 - (ywd y).toNat) (c6 - (ywd y).toNat)))
    (hS3 : lkp 3 S = some ⟨.slice (some ⟨b3, 0, none⟩) (nY y) c3, 3, 1, nY y, (mmY y).map (Value.int .i64)⟩) (hS4 : lkp 4 S = some ⟨.slice (some ⟨b4, 0, none⟩) (nY y) c4, 3, 1, nY y, (mdY y).map (Value.int .i64)⟩) (hS5 : lkp 5 S = some ⟨.slice (some ⟨b5, 0, none⟩) (nY y) c5, 3, 1, nY y, (nmdY y).map (Value.int .i64)⟩)
    (hS6 : lkp 6 S = some ⟨.slice (some ⟨b6, 0, none⟩) 385 c6, 3, 1, 385, (wd 55).map (Value.int .i64)⟩) {v5 v6 v7 v98 v99 v100 : Value} {i : Int} (hi : 0 ≤ i ∧ i < nY y) (hwn : weekno.length ≠ 0 → i < wno.length) (hnw : nwm.length ≠ 0 → i < nwm.length) (hea : easter.length ≠ 0 → i < eas.length) (fG : Bool) (hfG : fG = (false || badG yday y i)) (hz : ¬ yday.length = 0) (hlt : i < 365 + Cal.lp y) (hc : (yday.any (· == (i + 1))) = true) : GM Go.Proofs.Tryz.prog ops11 (Kn 1418 [(0, .pointer (some ⟨it, 0, none⟩)), (2, .pointer (some ⟨rb, 0, none⟩)), (5, v5), (6, v6), (7, v7), (9, .int .i64 i), (98, v98), (99, v99), (100, v100), (348, .bool fG)]) (List.take 89 (List.drop 153 ops11.toList)) 1418 [(0, .pointer (some ⟨it, 0, none⟩)), (2, .pointer (some ⟨rb, 0, none⟩)), (5, v5), (6, v6), (7, v7), (9, .int .i64 i), (98, v98), (99, v99), (100, v100), (259, .bool false)] F w0 B H S := by
  have hlp := Cal.lp_01 y
  have hlp2 := Cal.lp_01 (y + 1)
  have hny := nY_lp y
  have hyw : 0 ≤ ywd y ∧ ywd y ≤ 6 := by unfold ywd; omega
  have hge : ¬ 365 + Cal.lp y ≤ i := by omega
  refine GM_take rfl rfl ?_
  refine GM_rd (by decide) (rd_move rfl) ?_
  refine GM_take rfl rfl ?_
  refine GM_rd (by decide) (rd_nilCheck rfl) ?_
  refine GM_take rfl rfl ?_
  refine GM_rd (by decide) (rd_fieldAddr (j := 50) (by kernel_rfl) rfl) ?_
  refine GM_take rfl rfl ?_
  refine GM_rd (by decide) (rd_load 1 rfl hR r50 (by kernel_rfl) (by decide)) ?_
  refine GM_take rfl rfl ?_
  refine GM_rd (by decide) (rd_len (by kernel_rfl) rfl) ?_
  refine GM_take rfl rfl ?_
  refine GM_rd (by decide) ((rd_neq rfl rfl).to (congrArg Value.bool (n_ne (by omega)))) ?_
  refine GM_take rfl rfl ?_
  refine GM_rd (by decide) (rd_move rfl) ?_
  refine GM_take rfl rfl ?_
  refine GM_rd (by decide) (rd_move rfl) ?_
  refine GM_take rfl rfl ?_
  refine GM_rd (by decide) (rd_move rfl) ?_
  refine GM_take rfl rfl ?_
  refine GM_rd (by decide) (rd_nilCheck rfl) ?_
  refine GM_take rfl rfl ?_
  refine GM_rd (by decide) (rd_fieldAddr (j := 7) (by kernel_rfl) rfl) ?_
  refine GM_take rfl rfl ?_
  refine GM_rd (by decide) (rd_fieldAddr (j := 3) (by kernel_rfl) rfl) ?_
  refine GM_take rfl rfl ?_
  refine GM_rd (by decide) (rd_load 0 rfl hB h10 (by kernel_rfl) (by decide)) ?_
  refine GM_take rfl rfl ?_
  refine GM_rd (by decide) ((rd_lss rfl rfl).to (congrArg Value.bool (decide_eq_true hlt))) ?_
  refine GM_take rfl rfl ?_
  refine GM_rd (by decide) (rd_move rfl) ?_
  refine GM_take rfl rfl ?_
  refine GM_rd (by decide) (rd_move rfl) ?_
  refine GM_take rfl rfl ?_
  refine GM_rd (by decide) (rd_nilCheck rfl) ?_
  refine GM_take rfl rfl ?_
  refine GM_rd (by decide) (rd_fieldAddr (j := 50) (by kernel_rfl) rfl) ?_
  refine GM_take rfl rfl ?_
  refine GM_rd (by decide) (rd_load 1 rfl hR r50 (by kernel_rfl) (by decide)) ?_
  refine GM_take rfl rfl ?_
  refine GM_rd (by decide) (rd_move rfl) ?_
  refine GM_take rfl rfl ?_
  first
    | refine GM_rd (by decide) (rd_add_ rfl rfl (by omega)) ?_
    | refine GM_rd (by decide) (rd_add rfl rfl) ?_
  refine GM_take rfl rfl ?_
  refine GM_call_v (v := .bool true) (by decide) (by kernel_rfl) rfl (fun w_ s_ => (contains_calls yday (i + 1) _ hl50 w_ (hI50 w_ s_)).mono fun e_ w2_ h_ => ⟨h_.1.trans (congrArg Ending.returned (congrArg Value.bool hc)), h_.2⟩) ?_
  refine GM_take rfl rfl ?_
  refine GM_rd (by decide) (rd_not rfl) ?_
  refine GM_take rfl rfl ?_
  refine GM_rd (by decide) (rd_pick rfl rfl rfl) ?_
  refine GM_take rfl rfl ?_
  refine GM_rd (by decide) (rd_move rfl) ?_
  refine GM_pass (by decide) rfl rfl (by decide) ?_
  refine GM_pass (by decide) rfl rfl (by decide) ?_
  refine GM_pass (by decide) rfl rfl (by decide) ?_
  refine GM_pass (by decide) rfl rfl (by decide) ?_
  refine GM_pass (by decide) rfl rfl (by decide) ?_
  refine GM_pass (by decide) rfl rfl (by decide) ?_
  refine GM_pass (by decide) rfl rfl (by decide) ?_
  refine GM_pass (by decide) rfl rfl (by decide) ?_
  refine GM_pass (by decide) rfl rfl (by decide) ?_
  refine GM_pass (by decide) rfl rfl (by decide) ?_
  refine GM_pass (by decide) rfl rfl (by decide) ?_
  refine GM_pass (by decide) rfl rfl (by decide) ?_
  refine GM_pass (by decide) rfl rfl (by decide) ?_
  refine GM_pass (by decide) rfl rfl (by decide) ?_
  refine GM_take rfl rfl ?_
  refine GM_rd (by decide) (rd_pick rfl rfl rfl) ?_
  refine GM_take rfl rfl ?_
  refine GM_rd (by decide) (rd_move rfl) ?_
  refine GM_take rfl rfl ?_
  refine GM_rd (by decide) (rd_move rfl) ?_
  refine GM_take rfl rfl ?_
  refine GM_rd (by decide) (rd_move rfl) ?_
  refine GM_take rfl rfl ?_
  refine GM_rd (by decide) (rd_nilCheck rfl) ?_
  refine GM_take rfl rfl ?_
  refine GM_rd (by decide) (rd_fieldAddr (j := 7) (by kernel_rfl) rfl) ?_
  refine GM_take rfl rfl ?_
  refine GM_rd (by decide) (rd_fieldAddr (j := 3) (by kernel_rfl) rfl) ?_
  refine GM_take rfl rfl ?_
  refine GM_rd (by decide) (rd_load 0 rfl hB h10 (by kernel_rfl) (by decide)) ?_
  refine GM_take rfl rfl ?_
  refine GM_rd (by decide) ((rd_geq rfl rfl).to (congrArg Value.bool (decide_eq_false (by omega)))) ?_
  refine GM_take rfl rfl ?_
  refine GM_rd (by decide) (rd_move rfl) ?_
  refine GM_pass (by decide) rfl rfl (by decide) ?_
  refine GM_pass (by decide) rfl rfl (by decide) ?_
  refine GM_pass (by decide) rfl rfl (by decide) ?_
  refine GM_pass (by decide) rfl rfl (by decide) ?_
  refine GM_pass (by decide) rfl rfl (by decide) ?_
  refine GM_pass (by decide) rfl rfl (by decide) ?_
  refine GM_pass (by decide) rfl rfl (by decide) ?_
  refine GM_pass (by decide) rfl rfl (by decide) ?_
  refine GM_pass (by decide) rfl rfl (by decide) ?_
  refine GM_pass (by decide) rfl rfl (by decide) ?_
  refine GM_pass (by decide) rfl rfl (by decide) ?_
  refine GM_pass (by decide) rfl rfl (by decide) ?_
  refine GM_pass (by decide) rfl rfl (by decide) ?_
  refine GM_pass (by decide) rfl rfl (by decide) ?_
  refine GM_take rfl rfl ?_
  refine GM_rd (by decide) (rd_pick rfl rfl rfl) ?_
  refine GM_take rfl rfl ?_
  refine GM_rd (by decide) (rd_move rfl) ?_
  refine GM_pass (by decide) rfl rfl (by decide) ?_
  refine GM_pass (by decide) rfl rfl (by decide) ?_
  refine GM_pass (by decide) rfl rfl (by decide) ?_
  refine GM_pass (by decide) rfl rfl (by decide) ?_
  refine GM_pass (by decide) rfl rfl (by decide) ?_
  refine GM_pass (by decide) rfl rfl (by decide) ?_
  refine GM_pass (by decide) rfl rfl (by decide) ?_
  refine GM_pass (by decide) rfl rfl (by decide) ?_
  refine GM_pass (by decide) rfl rfl (by decide) ?_
  refine GM_pass (by decide) rfl rfl (by decide) ?_
  refine GM_pass (by decide) rfl rfl (by decide) ?_
  refine GM_pass (by decide) rfl rfl (by decide) ?_
  refine GM_pass (by decide) rfl rfl (by decide) ?_
  refine GM_pass (by decide) rfl rfl (by decide) ?_
  refine GM_pass (by decide) rfl rfl (by decide) ?_
  refine GM_pass (by decide) rfl rfl (by decide) ?_
  refine GM_pass (by decide) rfl rfl (by decide) ?_
  refine GM_pass (by decide) rfl rfl (by decide) ?_
  refine GM_pass (by decide) rfl rfl (by decide) ?_
  refine GM_pass (by decide) rfl rfl (by decide) ?_
  refine GM_take rfl rfl ?_
  refine GM_rd (by decide) (rd_pick rfl rfl rfl) ?_
  refine GM_take rfl rfl ?_
  refine GM_rd (by decide) (rd_pick rfl rfl rfl) ?_
  refine GM_take rfl rfl ?_
  refine GM_rd (by decide) (rd_pick rfl rfl rfl) ?_
  refine GM_rd (by decide) ((rd_pick rfl rfl rfl).to (v' := .bool fG) (by rw [hfG]; unfold badG; simp only [hc, hlt, hge]; simp [hz])) ?_
  exact GM_nil (fun a k => k.cons rfl (k.cons rfl (k.cons rfl (k.cons rfl (k.cons rfl (k.cons rfl (k.cons rfl (k.cons rfl (k.cons rfl (k.cons rfl (k.nil)))))))))))
theorem ft_24 {it rb : Nat} (hB : lkp 0 B = some it) (hR : lkp 1 B = some rb) {p47 : Option Addr} {c47 : Nat} {month : List Int} (r47 : lkp (ky 1 47) H = some (.slice p47 month.length c47)) (hl47 : month.length ≤ 1000000000) (hI47 : ∀ w, Sees F w0 B H S w → Ints w (.slice p47 month.length c47) month) {p48 : Option Addr} {c48 : Nat} {mday : List Int} (r48 : lkp (ky 1 48) H = some (.slice p48 mday.length c48)) (hl48 : mday.length ≤ 1000000000) (hI48 : ∀ w, Sees F w0 B H S w → Ints w (.slice p48 mday.length c48) mday) {p49 : Option Addr} {c49 : Nat} {nmday : List Int} (r49 : lkp (ky 1 49) H = some (.slice p49 nmday.length c49)) (hl49 : nmday.length ≤ 1000000000) (hI49 : ∀ w, Sees F w0 B H S w → Ints w (.slice p49 nmday.length c49) nmday) {p50 : Option Addr} {c50 : Nat} {yday : List Int} (r50 : lkp (ky 1 50) H = some (.slice p50 yday.length c50)) (hl50 : yday.length ≤ 1000000000) (hI50 : ∀ w, Sees F w0 B H S w → Ints w (.slice p50 yday.length c50) yday) {p52 : Option Addr} {c52 : Nat} {wday : List Int} (r52 : lkp (ky 1 52) H = some (.slice p52 wday.length c52)) (hl52 : wday.length ≤ 1000000000) (hI52 : ∀ w, Sees F w0 B H S w → Ints w (.slice p52 wday.length c52) wday) {p51 p57 : Option Addr} {c51 c57 : Nat} {weekno easter : List Int} (r51 : lkp (ky 1 51) H = some (.slice p51 weekno.length c51)) (r57 : lkp (ky 1 57) H = some (.slice p57 easter.length c57)) {p20 : Option Addr} {c20 : Nat} {wno : List Int} (h20 : lkp (ky 0 20) H = some (.slice p20 wno.length c20)) (hp20 : 0 < wno.length → ∃ b, p20 = some ⟨b, 0, none⟩) (hS8 : 0 < wno.length → lkp 8 S = some ⟨.slice p20 wno.length c20, 3, 1, wno.length, wno.map (Value.int .i64)⟩) {p21 : Option Addr} {c21 : Nat} {nwm : List Int} (h21 : lkp (ky 0 21) H = some (.slice p21 nwm.length c21)) (hp21 : 0 < nwm.length → ∃ b, p21 = some ⟨b, 0, none⟩) (hS9 : 0 < nwm.length → lkp 9 S = some ⟨.slice p21 nwm.length c21, 3, 1, nwm.length, nwm.map (Value.int .i64)⟩) {p22 : Option Addr} {c22 : Nat} {eas : List Int} (h22 : lkp (ky 0 22) H = some (.slice p22 eas.length c22)) (hp22 : 0 < eas.length → ∃ b, p22 = some ⟨b, 0, none⟩) (hS10 : 0 < eas.length → lkp 10 S = some ⟨.slice p22 eas.length c22, 3, 1, eas.length, eas.map (Value.int .i64)⟩) {y : Int}
    (h10 : lkp (ky 0 10) H = some (.int .i64 (365 + Cal.lp y))) (h11 : lkp (ky 0 11) H = some (.int .i64 (365 + Cal.lp (y + 1)))) {b3 b4 b5 b6 c3 c4 c5 c6 : Nat} (h15 : lkp (ky 0 15) H = some (.slice (some ⟨b3, 0, none⟩) (nY y) c3)) (h17 : lkp (ky 0 17) H = some (.slice (some ⟨b4, 0, none⟩) (nY y) c4))
    (h18 : lkp (ky 0 18) H = some (.slice (some ⟨b5, 0, none⟩) (nY y) c5)) (h19 : lkp (ky 0 19) H = some (.slice (some ⟨b6, 0 + (ywd y).toNat * 1, none⟩) (385 - (ywd y).toNat) (c6 - (ywd y).toNat)))
    (hS3 : lkp 3 S = some ⟨.slice (some ⟨b3, 0, none⟩) (nY y) c3, 3, 1, nY y, (mmY y).map (Value.int .i64)⟩) (hS4 : lkp 4 S = some ⟨.slice (some ⟨b4, 0, none⟩) (nY y) c4, 3, 1, nY y, (mdY y).map (Value.int .i64)⟩) (hS5 : lkp 5 S = some ⟨.slice (some ⟨b5, 0, none⟩) (nY y) c5, 3, 1, nY y, (nmdY y).map (Value.int .i64)⟩)
    (hS6 : lkp 6 S = some ⟨.slice (some ⟨b6, 0, none⟩) 385 c6, 3, 1, 385, (wd 55).map (Value.int .i64)⟩) {v5 v6 v7 v98 v99 v100 : Value} {i : Int} (hi : 0 ≤ i ∧ i < nY y) (hwn : weekno.length ≠ 0 → i < wno.length) (hnw : nwm.length ≠ 0 → i < nwm.length) (hea : easter.length ≠ 0 → i < eas.length) (fG : Bool) (hfG : fG = (false || badG yday y i)) (hz : ¬ yday.length = 0) (hlt : i < 365 + Cal.lp y) (hc : (yday.any (· == (i + 1))) = false) (hc2 : (yday.any (· == (-(365 + Cal.lp y) + i))) = true) : GM Go.Proofs.Tryz.prog ops11 (Kn 1418 [(0, .pointer (some ⟨it, 0, none⟩)), (2, .pointer (some ⟨rb, 0, none⟩)), (5, v5), (6, v6), (7, v7), (9, .int .i64 i), (98, v98), (99, v99), (100, v100), (348, .bool fG)]) (List.take 89 (List.drop 153 ops11.toList)) 1418 [(0, .pointer (some ⟨it, 0, none⟩)), (2, .pointer (some ⟨rb, 0, none⟩)), (5, v5), (6, v6), (7, v7), (9, .int .i64 i), (98, v98), (99, v99), (100, v100), (259, .bool false)] F w0 B H S := by
  have hlp := Cal.lp_01 y
  have hlp2 := Cal.lp_01 (y + 1)
  have hny := nY_lp y
  have hyw : 0 ≤ ywd y ∧ ywd y ≤ 6 := by unfold ywd; omega
  have hge : ¬ 365 + Cal.lp y ≤ i := by omega
  refine GM_take rfl rfl ?_
  refine GM_rd (by decide) (rd_move rfl) ?_
  refine GM_take rfl rfl ?_
  refine GM_rd (by decide) (rd_nilCheck rfl) ?_
  refine GM_take rfl rfl ?_
  refine GM_rd (by decide) (rd_fieldAddr (j := 50) (by kernel_rfl) rfl) ?_
  refine GM_take rfl rfl ?_
  refine GM_rd (by decide) (rd_load 1 rfl hR r50 (by kernel_rfl) (by decide)) ?_
  refine GM_take rfl rfl ?_
  refine GM_rd (by decide) (rd_len (by kernel_rfl) rfl) ?_
  refine GM_take rfl rfl ?_
  refine GM_rd (by decide) ((rd_neq rfl rfl).to (congrArg Value.bool (n_ne (by omega)))) ?_
  refine GM_take rfl rfl ?_
  refine GM_rd (by decide) (rd_move rfl) ?_
  refine GM_take rfl rfl ?_
  refine GM_rd (by decide) (rd_move rfl) ?_
  refine GM_take rfl rfl ?_
  refine GM_rd (by decide) (rd_move rfl) ?_
  refine GM_take rfl rfl ?_
  refine GM_rd (by decide) (rd_nilCheck rfl) ?_
  refine GM_take rfl rfl ?_
  refine GM_rd (by decide) (rd_fieldAddr (j := 7) (by kernel_rfl) rfl) ?_
  refine GM_take rfl rfl ?_
  refine GM_rd (by decide) (rd_fieldAddr (j := 3) (by kernel_rfl) rfl) ?_
  refine GM_take rfl rfl ?_
  refine GM_rd (by decide) (rd_load 0 rfl hB h10 (by kernel_rfl) (by decide)) ?_
  refine GM_take rfl rfl ?_
  refine GM_rd (by decide) ((rd_lss rfl rfl).to (congrArg Value.bool (decide_eq_true hlt))) ?_
  refine GM_take rfl rfl ?_
  refine GM_rd (by decide) (rd_move rfl) ?_
  refine GM_take rfl rfl ?_
  refine GM_rd (by decide) (rd_move rfl) ?_
  refine GM_take rfl rfl ?_
  refine GM_rd (by decide) (rd_nilCheck rfl) ?_
  refine GM_take rfl rfl ?_
  refine GM_rd (by decide) (rd_fieldAddr (j := 50) (by kernel_rfl) rfl) ?_
  refine GM_take rfl rfl ?_
  refine GM_rd (by decide) (rd_load 1 rfl hR r50 (by kernel_rfl) (by decide)) ?_
  refine GM_take rfl rfl ?_
  refine GM_rd (by decide) (rd_move rfl) ?_
  refine GM_take rfl rfl ?_
  first
    | refine GM_rd (by decide) (rd_add_ rfl rfl (by omega)) ?_
    | refine GM_rd (by decide) (rd_add rfl rfl) ?_
  refine GM_take rfl rfl ?_
  refine GM_call_v (v := .bool false) (by decide) (by kernel_rfl) rfl (fun w_ s_ => (contains_calls yday (i + 1) _ hl50 w_ (hI50 w_ s_)).mono fun e_ w2_ h_ => ⟨h_.1.trans (congrArg Ending.returned (congrArg Value.bool hc)), h_.2⟩) ?_
  refine GM_take rfl rfl ?_
  refine GM_rd (by decide) (rd_not rfl) ?_
  refine GM_take rfl rfl ?_
  refine GM_rd (by decide) (rd_pick rfl rfl rfl) ?_
  refine GM_take rfl rfl ?_
  refine GM_rd (by decide) (rd_move rfl) ?_
  refine GM_take rfl rfl ?_
  refine GM_rd (by decide) (rd_move rfl) ?_
  refine GM_take rfl rfl ?_
  refine GM_rd (by decide) (rd_nilCheck rfl) ?_
  refine GM_take rfl rfl ?_
  refine GM_rd (by decide) (rd_fieldAddr (j := 50) (by kernel_rfl) rfl) ?_
  refine GM_take rfl rfl ?_
  refine GM_rd (by decide) (rd_load 1 rfl hR r50 (by kernel_rfl) (by decide)) ?_
  refine GM_take rfl rfl ?_
  refine GM_rd (by decide) (rd_move rfl) ?_
  refine GM_take rfl rfl ?_
  refine GM_rd (by decide) (rd_nilCheck rfl) ?_
  refine GM_take rfl rfl ?_
  refine GM_rd (by decide) (rd_fieldAddr (j := 7) (by kernel_rfl) rfl) ?_
  refine GM_take rfl rfl ?_
  refine GM_rd (by decide) (rd_fieldAddr (j := 3) (by kernel_rfl) rfl) ?_
  refine GM_take rfl rfl ?_
  refine GM_rd (by decide) (rd_load 0 rfl hB h10 (by kernel_rfl) (by decide)) ?_
  refine GM_take rfl rfl ?_
  first
    | refine GM_rd (by decide) (rd_neg_ rfl (by omega)) ?_
    | refine GM_rd (by decide) (rd_neg rfl) ?_
  refine GM_take rfl rfl ?_
  refine GM_rd (by decide) (rd_move rfl) ?_
  refine GM_take rfl rfl ?_
  first
    | refine GM_rd (by decide) (rd_add_ rfl rfl (by omega)) ?_
    | refine GM_rd (by decide) (rd_add rfl rfl) ?_
  refine GM_take rfl rfl ?_
  refine GM_call_v (v := .bool true) (by decide) (by kernel_rfl) rfl (fun w_ s_ => (contains_calls yday (-(365 + Cal.lp y) + i) _ hl50 w_ (hI50 w_ s_)).mono fun e_ w2_ h_ => ⟨h_.1.trans (congrArg Ending.returned (congrArg Value.bool hc2)), h_.2⟩) ?_
  refine GM_take rfl rfl ?_
  refine GM_rd (by decide) (rd_not rfl) ?_
  refine GM_take rfl rfl ?_
  refine GM_rd (by decide) (rd_pick rfl rfl rfl) ?_
  refine GM_take rfl rfl ?_
  refine GM_rd (by decide) (rd_move rfl) ?_
  refine GM_take rfl rfl ?_
  refine GM_rd (by decide) (rd_move rfl) ?_
  refine GM_take rfl rfl ?_
  refine GM_rd (by decide) (rd_move rfl) ?_
  refine GM_take rfl rfl ?_
  refine GM_rd (by decide) (rd_nilCheck rfl) ?_
  refine GM_take rfl rfl ?_
  refine GM_rd (by decide) (rd_fieldAddr (j := 7) (by kernel_rfl) rfl) ?_
  refine GM_take rfl rfl ?_
  refine GM_rd (by decide) (rd_fieldAddr (j := 3) (by kernel_rfl) rfl) ?_
  refine GM_take rfl rfl ?_
  refine GM_rd (by decide) (rd_load 0 rfl hB h10 (by kernel_rfl) (by decide)) ?_
  refine GM_take rfl rfl ?_
  refine GM_rd (by decide) ((rd_geq rfl rfl).to (congrArg Value.bool (decide_eq_false (by omega)))) ?_
  refine GM_take rfl rfl ?_
  refine GM_rd (by decide) (rd_move rfl) ?_
  refine GM_pass (by decide) rfl rfl (by decide) ?_
  refine GM_pass (by decide) rfl rfl (by decide) ?_
  refine GM_pass (by decide) rfl rfl (by decide) ?_
  refine GM_pass (by decide) rfl rfl (by decide) ?_
  refine GM_pass (by decide) rfl rfl (by decide) ?_
  refine GM_pass (by decide) rfl rfl (by decide) ?_
  refine GM_pass (by decide) rfl rfl (by decide) ?_
  refine GM_pass (by decide) rfl rfl (by decide) ?_
  refine GM_pass (by decide) rfl rfl (by decide) ?_
  refine GM_pass (by decide) rfl rfl (by decide) ?_
  refine GM_pass (by decide) rfl rfl (by decide) ?_
  refine GM_pass (by decide) rfl rfl (by decide) ?_
  refine GM_pass (by decide) rfl rfl (by decide) ?_
  refine GM_pass (by decide) rfl rfl (by decide) ?_
  refine GM_take rfl rfl ?_
  refine GM_rd (by decide) (rd_pick rfl rfl rfl) ?_
  refine GM_take rfl rfl ?_
  refine GM_rd (by decide) (rd_move rfl) ?_
  refine GM_pass (by decide) rfl rfl (by decide) ?_
  refine GM_pass (by decide) rfl rfl (by decide) ?_
  refine GM_pass (by decide) rfl rfl (by decide) ?_
  refine GM_pass (by decide) rfl rfl (by decide) ?_
  refine GM_pass (by decide) rfl rfl (by decide) ?_
  refine GM_pass (by decide) rfl rfl (by decide) ?_
  refine GM_pass (by decide) rfl rfl (by decide) ?_
  refine GM_pass (by decide) rfl rfl (by decide) ?_
  refine GM_pass (by decide) rfl rfl (by decide) ?_
  refine GM_pass (by decide) rfl rfl (by decide) ?_
  refine GM_pass (by decide) rfl rfl (by decide) ?_
  refine GM_pass (by decide) rfl rfl (by decide) ?_
  refine GM_pass (by decide) rfl rfl (by decide) ?_
  refine GM_pass (by decide) rfl rfl (by decide) ?_
  refine GM_pass (by decide) rfl rfl (by decide) ?_
  refine GM_pass (by decide) rfl rfl (by decide) ?_
  refine GM_pass (by decide) rfl rfl (by decide) ?_
  refine GM_pass (by decide) rfl rfl (by decide) ?_
  refine GM_pass (by decide) rfl rfl (by decide) ?_
  refine GM_pass (by decide) rfl rfl (by decide) ?_
  refine GM_take rfl rfl ?_
  refine GM_rd (by decide) (rd_pick rfl rfl rfl) ?_
  refine GM_take rfl rfl ?_
  refine GM_rd (by decide) (rd_pick rfl rfl rfl) ?_
  refine GM_take rfl rfl ?_
  refine GM_rd (by decide) (rd_pick rfl rfl rfl) ?_
  refine GM_rd (by decide) ((rd_pick rfl rfl rfl).to (v' := .bool fG) (by rw [hfG]; unfold badG; simp only [hc, hc2, hlt, hge]; simp [hz])) ?_
  exact GM_nil (fun a k => k.cons rfl (k.cons rfl (k.cons rfl (k.cons rfl (k.cons rfl (k.cons rfl (k.cons rfl (k.cons rfl (k.cons rfl (k.cons rfl (k.nil)))))))))))
theorem ft_25 {it rb : Nat} (hB : lkp 0 B = some it) (hR : lkp 1 B = some rb) {p47 : Option Addr} {c47 : Nat} {month : List Int} (r47 : lkp (ky 1 47) H = some (.slice p47 month.length c47)) (hl47 : month.length ≤ 1000000000) (hI47 : ∀ w, Sees F w0 B H S w → Ints w (.slice p47 month.length c47) month) {p48 : Option Addr} {c48 : Nat} {mday : List Int} (r48 : lkp (ky 1 48) H = some (.slice p48 mday.length c48)) (hl48 : mday.length ≤ 1000000000) (hI48 : ∀ w, Sees F w0 B H S w → Ints w (.slice p48 mday.length c48) mday) {p49 : Option Addr} {c49 : Nat} {nmday : List Int} (r49 : lkp (ky 1 49) H = some (.slice p49 nmday.length c49)) (hl49 : nmday.length ≤ 1000000000) (hI49 : ∀ w, Sees F w0 B H S w → Ints w (.slice p49 nmday.length c49) nmday) {p50 : Option Addr} {c50 : Nat} {yday : List Int} (r50 : lkp (ky 1 50) H = some (.slice p50 yday.length c50)) (hl50 : yday.length ≤ 1000000000) (hI50 : ∀ w, Sees F w0 B H S w → Ints w (.slice p50 yday.length c50) yday) {p52 : Option Addr} {c52 : Nat} {wday : List Int} (r52 : lkp (ky 1 52) H = some (.slice p52 wday.length c52)) (hl52 : wday.length ≤ 1000000000) (hI52 : ∀ w, Sees F w0 B H S w → Ints w (.slice p52 wday.length c52) wday) {p51 p57 : Option Addr} {c51 c57 : Nat} {weekno easter : List Int} (r51 : lkp (ky 1 51) H = some (.slice p51 weekno.length c51)) (r57 : lkp (ky 1 57) H = some (.slice p57 easter.length c57)) {p20 : Option Addr} {c20 : Nat} {wno : List Int} (h20 : lkp (ky 0 20) H = some (.slice p20 wno.length c20)) (hp20 : 0 < wno.length → ∃ b, p20 = some ⟨b, 0, none⟩) (hS8 : 0 < wno.length → lkp 8 S = some ⟨.slice p20 wno.length c20, 3, 1, wno.length, wno.map (Value.int .i64)⟩) {p21 : Option Addr} {c21 : Nat} {nwm : List Int} (h21 : lkp (ky 0 21) H = some (.slice p21 nwm.length c21)) (hp21 : 0 < nwm.length → ∃ b, p21 = some ⟨b, 0, none⟩) (hS9 : 0 < nwm.length → lkp 9 S = some ⟨.slice p21 nwm.length c21, 3, 1, nwm.length, nwm.map (Value.int .i64)⟩) {p22 : Option Addr} {c22 : Nat} {eas : List Int} (h22 : lkp (ky 0 22) H = some (.slice p22 eas.length c22)) (hp22 : 0 < eas.length → ∃ b, p22 = some ⟨b, 0, none⟩) (hS10 : 0 < eas.length → lkp 10 S = some ⟨.slice p22 eas.length c22, 3, 1, eas.length, eas.map (Value.int .i64)⟩) {y : Int}
    (h10 : lkp (ky 0 10) H = some (.int .i64 (365 + Cal.lp y))) (h11 : lkp (ky 0 11) H = some (.int .i64 (365 + Cal.lp (y + 1)))) {b3 b4 b5 b6 c3 c4 c5 c6 : Nat} (h15 : lkp (ky 0 15) H = some (.slice (some ⟨b3, 0, none⟩) (nY y) c3)) (h17 : lkp (ky 0 17) H = some (.slice (some ⟨b4, 0, none⟩) (nY y) c4))
    (h18 : lkp (ky 0 18) H = some (.slice (some ⟨b5, 0, none⟩) (nY y) c5)) (h19 : lkp (ky 0 19) H = some (.slice (some ⟨b6, 0 + (ywd y).toNat * 1, none⟩) (385 - (ywd y).toNat) (c6 - (ywd y).toNat)))
    (hS3 : lkp 3 S = some ⟨.slice (some ⟨b3, 0, none⟩) (nY y) c3, 3, 1, nY y, (mmY y).map (Value.int .i64)⟩) (hS4 : lkp 4 S = some ⟨.slice (some ⟨b4, 0, none⟩) (nY y) c4, 3, 1, nY y, (mdY y).map (Value.int .i64)⟩) (hS5 : lkp 5 S = some ⟨.slice (some ⟨b5, 0, none⟩) (nY y) c5, 3, 1, nY y, (nmdY y).map (Value.int .i64)⟩)
    (hS6 : lkp 6 S = some ⟨.slice (some ⟨b6, 0, none⟩) 385 c6, 3, 1, 385, (wd 55).map (Value.int .i64)⟩) {v5 v6 v7 v98 v99 v100 : Value} {i : Int} (hi : 0 ≤ i ∧ i < nY y) (hwn : weekno.length ≠ 0 → i < wno.length) (hnw : nwm.length ≠ 0 → i < nwm.length) (hea : easter.length ≠ 0 → i < eas.length) (fG : Bool) (hfG : fG = (false || badG yday y i)) (hz : ¬ yday.length = 0) (hlt : i < 365 + Cal.lp y) (hc : (yday.any (· == (i + 1))) = false) (hc2 : (yday.any (· == (-(365 + Cal.lp y) + i))) = false) : GM Go.Proofs.Tryz.prog ops11 (Kn 1418 [(0, .pointer (some ⟨it, 0, none⟩)), (2, .pointer (some ⟨rb, 0, none⟩)), (5, v5), (6, v6), (7, v7), (9, .int .i64 i), (98, v98), (99, v99), (100, v100), (348, .bool fG)]) (List.take 89 (List.drop 153 ops11.toList)) 1418 [(0, .pointer (some ⟨it, 0, none⟩)), (2, .pointer (some ⟨rb, 0, none⟩)), (5, v5), (6, v6), (7, v7), (9, .int .i64 i), (98, v98), (99, v99), (100, v100), (259, .bool false)] F w0 B H S := by
  have hlp := Cal.lp_01 y
  have hlp2 := Cal.lp_01 (y + 1)
  have hny := nY_lp y
  have hyw : 0 ≤ ywd y ∧ ywd y ≤ 6 := by unfold ywd; omega
  have hge : ¬ 365 + Cal.lp y ≤ i := by omega
  refine GM_take rfl rfl ?_
  refine GM_rd (by decide) (rd_move rfl) ?_
  refine GM_take rfl rfl ?_
  refine GM_rd (by decide) (rd_nilCheck rfl) ?_
  refine GM_take rfl rfl ?_
  refine GM_rd (by decide) (rd_fieldAddr (j := 50) (by kernel_rfl) rfl) ?_
  refine GM_take rfl rfl ?_
  refine GM_rd (by decide) (rd_load 1 rfl hR r50 (by kernel_rfl) (by decide)) ?_
  refine GM_take rfl rfl ?_
  refine GM_rd (by decide) (rd_len (by kernel_rfl) rfl) ?_
  refine GM_take rfl rfl ?_
  refine GM_rd (by decide) ((rd_neq rfl rfl).to (congrArg Value.bool (n_ne (by omega)))) ?_
  refine GM_take rfl rfl ?_
  refine GM_rd (by decide) (rd_move rfl) ?_
  refine GM_take rfl rfl ?_
  refine GM_rd (by decide) (rd_move rfl) ?_
  refine GM_take rfl rfl ?_
  refine GM_rd (by decide) (rd_move rfl) ?_
  refine GM_take rfl rfl ?_
  refine GM_rd (by decide) (rd_nilCheck rfl) ?_
  refine GM_take rfl rfl ?_
  refine GM_rd (by decide) (rd_fieldAddr (j := 7) (by kernel_rfl) rfl) ?_
  refine GM_take rfl rfl ?_
  refine GM_rd (by decide) (rd_fieldAddr (j := 3) (by kernel_rfl) rfl) ?_
  refine GM_take rfl rfl ?_
  refine GM_rd (by decide) (rd_load 0 rfl hB h10 (by kernel_rfl) (by decide)) ?_
  refine GM_take rfl rfl ?_
  refine GM_rd (by decide) ((rd_lss rfl rfl).to (congrArg Value.bool (decide_eq_true hlt))) ?_
  refine GM_take rfl rfl ?_
  refine GM_rd (by decide) (rd_move rfl) ?_
  refine GM_take rfl rfl ?_
  refine GM_rd (by decide) (rd_move rfl) ?_
  refine GM_take rfl rfl ?_
  refine GM_rd (by decide) (rd_nilCheck rfl) ?_
  refine GM_take rfl rfl ?_
  refine GM_rd (by decide) (rd_fieldAddr (j := 50) (by kernel_rfl) rfl) ?_
  refine GM_take rfl rfl ?_
  refine GM_rd (by decide) (rd_load 1 rfl hR r50 (by kernel_rfl) (by decide)) ?_
  refine GM_take rfl rfl ?_
  refine GM_rd (by decide) (rd_move rfl) ?_
  refine GM_take rfl rfl ?_
  first
    | refine GM_rd (by decide) (rd_add_ rfl rfl (by omega)) ?_
    | refine GM_rd (by decide) (rd_add rfl rfl) ?_
  refine GM_take rfl rfl ?_
  refine GM_call_v (v := .bool false) (by decide) (by kernel_rfl) rfl (fun w_ s_ => (contains_calls yday (i + 1) _ hl50 w_ (hI50 w_ s_)).mono fun e_ w2_ h_ => ⟨h_.1.trans (congrArg Ending.returned (congrArg Value.bool hc)), h_.2⟩) ?_
  refine GM_take rfl rfl ?_
  refine GM_rd (by decide) (rd_not rfl) ?_
  refine GM_take rfl rfl ?_
  refine GM_rd (by decide) (rd_pick rfl rfl rfl) ?_
  refine GM_take rfl rfl ?_
  refine GM_rd (by decide) (rd_move rfl) ?_
  refine GM_take rfl rfl ?_
  refine GM_rd (by decide) (rd_move rfl) ?_
  refine GM_take rfl rfl ?_
  refine GM_rd (by decide) (rd_nilCheck rfl) ?_
  refine GM_take rfl rfl ?_
  refine GM_rd (by decide) (rd_fieldAddr (j := 50) (by kernel_rfl) rfl) ?_
  refine GM_take rfl rfl ?_
  refine GM_rd (by decide) (rd_load 1 rfl hR r50 (by kernel_rfl) (by decide)) ?_
  refine GM_take rfl rfl ?_
  refine GM_rd (by decide) (rd_move rfl) ?_
  refine GM_take rfl rfl ?_
  refine GM_rd (by decide) (rd_nilCheck rfl) ?_
  refine GM_take rfl rfl ?_
  refine GM_rd (by decide) (rd_fieldAddr (j := 7) (by kernel_rfl) rfl) ?_
  refine GM_take rfl rfl ?_
  refine GM_rd (by decide) (rd_fieldAddr (j := 3) (by kernel_rfl) rfl) ?_
  refine GM_take rfl rfl ?_
  refine GM_rd (by decide) (rd_load 0 rfl hB h10 (by kernel_rfl) (by decide)) ?_
  refine GM_take rfl rfl ?_
  first
    | refine GM_rd (by decide) (rd_neg_ rfl (by omega)) ?_
    | refine GM_rd (by decide) (rd_neg rfl) ?_
  refine GM_take rfl rfl ?_
  refine GM_rd (by decide) (rd_move rfl) ?_
  refine GM_take rfl rfl ?_
  first
    | refine GM_rd (by decide) (rd_add_ rfl rfl (by omega)) ?_
    | refine GM_rd (by decide) (rd_add rfl rfl) ?_
  refine GM_take rfl rfl ?_
  refine GM_call_v (v := .bool false) (by decide) (by kernel_rfl) rfl (fun w_ s_ => (contains_calls yday (-(365 + Cal.lp y) + i) _ hl50 w_ (hI50 w_ s_)).mono fun e_ w2_ h_ => ⟨h_.1.trans (congrArg Ending.returned (congrArg Value.bool hc2)), h_.2⟩) ?_
  refine GM_take rfl rfl ?_
  refine GM_rd (by decide) (rd_not rfl) ?_
  refine GM_take rfl rfl ?_
  refine GM_rd (by decide) (rd_pick rfl rfl rfl) ?_
  refine GM_take rfl rfl ?_
  refine GM_rd (by decide) (rd_move rfl) ?_
  refine GM_pass (by decide) rfl rfl (by decide) ?_
  refine GM_pass (by decide) rfl rfl (by decide) ?_
  refine GM_pass (by decide) rfl rfl (by decide) ?_
  refine GM_pass (by decide) rfl rfl (by decide) ?_
  refine GM_pass (by decide) rfl rfl (by decide) ?_
  refine GM_pass (by decide) rfl rfl (by decide) ?_
  refine GM_pass (by decide) rfl rfl (by decide) ?_
  refine GM_pass (by decide) rfl rfl (by decide) ?_
  refine GM_passu (by decide) rfl rfl ?_
  refine GM_passu (by decide) rfl rfl ?_
  refine GM_passu (by decide) rfl rfl ?_
  refine GM_passu (by decide) rfl rfl ?_
  refine GM_passu (by decide) rfl rfl ?_
  refine GM_passu (by decide) rfl rfl ?_
  refine GM_passu (by decide) rfl rfl ?_
  refine GM_passu (by decide) rfl rfl ?_
  refine GM_passu (by decide) rfl rfl ?_
  refine GM_passu (by decide) rfl rfl ?_
  refine GM_passu (by decide) rfl rfl ?_
  refine GM_passu (by decide) rfl rfl ?_
  refine GM_passu (by decide) rfl rfl ?_
  refine GM_passu (by decide) rfl rfl ?_
  refine GM_pass (by decide) rfl rfl (by decide) ?_
  refine GM_pass (by decide) rfl rfl (by decide) ?_
  refine GM_passu (by decide) rfl rfl ?_
  refine GM_passu (by decide) rfl rfl ?_
  refine GM_passu (by decide) rfl rfl ?_
  refine GM_passu (by decide) rfl rfl ?_
  refine GM_passu (by decide) rfl rfl ?_
  refine GM_passu (by decide) rfl rfl ?_
  refine GM_passu (by decide) rfl rfl ?_
  refine GM_passu (by decide) rfl rfl ?_
  refine GM_passu (by decide) rfl rfl ?_
  refine GM_passu (by decide) rfl rfl ?_
  refine GM_passu (by decide) rfl rfl ?_
  refine GM_passu (by decide) rfl rfl ?_
  refine GM_passu (by decide) rfl rfl ?_
  refine GM_passu (by decide) rfl rfl ?_
  refine GM_passu (by decide) rfl rfl ?_
  refine GM_passu (by decide) rfl rfl ?_
  refine GM_passu (by decide) rfl rfl ?_
  refine GM_passu (by decide) rfl rfl ?_
  refine GM_passu (by decide) rfl rfl ?_
  refine GM_passu (by decide) rfl rfl ?_
  refine GM_pass (by decide) rfl rfl (by decide) ?_
  refine GM_take rfl rfl ?_
  refine GM_rd (by decide) (rd_pick rfl rfl rfl) ?_
  refine GM_take rfl rfl ?_
  refine GM_rd (by decide) (rd_pick rfl rfl rfl) ?_
  refine GM_rd (by decide) ((rd_pick rfl rfl rfl).to (v' := .bool fG) (by rw [hfG]; unfold badG; simp only [hc, hc2, hlt, hge]; simp [hz])) ?_
  exact GM_nil (fun a k => k.cons rfl (k.cons rfl (k.cons rfl (k.cons rfl (k.cons rfl (k.cons rfl (k.cons rfl (k.cons rfl (k.cons rfl (k.cons rfl (k.nil)))))))))))
theorem ft_26 {it rb : Nat} (hB : lkp 0 B = some it) (hR : lkp 1 B = some rb) {p47 : Option Addr} {c47 : Nat} {month : List Int} (r47 : lkp (ky 1 47) H = some (.slice p47 month.length c47)) (hl47 : month.length ≤ 1000000000) (hI47 : ∀ w, Sees F w0 B H S w → Ints w (.slice p47 month.length c47) month) {p48 : Option Addr} {c48 : Nat} {mday : List Int} (r48 : lkp (ky 1 48) H = some (.slice p48 mday.length c48)) (hl48 : mday.length ≤ 1000000000) (hI48 : ∀ w, Sees F w0 B H S w → Ints w (.slice p48 mday.length c48) mday) {p49 : Option Addr} {c49 : Nat} {nmday : List Int} (r49 : lkp (ky 1 49) H = some (.slice p49 nmday.length c49)) (hl49 : nmday.length ≤ 1000000000) (hI49 : ∀ w, Sees F w0 B H S w → Ints w (.slice p49 nmday.length c49) nmday) {p50 : Option Addr} {c50 : Nat} {yday : List Int} (r50 : lkp (ky 1 50) H = some (.slice p50 yday.length c50)) (hl50 : yday.length ≤ 1000000000) (hI50 : ∀ w, Sees F w0 B H S w → Ints w (.slice p50 yday.length c50) yday) {p52 : Option Addr} {c52 : Nat} {wday : List Int} (r52 : lkp (ky 1 52) H = some (.slice p52 wday.length c52)) (hl52 : wday.length ≤ 1000000000) (hI52 : ∀ w, Sees F w0 B H S w → Ints w (.slice p52 wday.length c52) wday) {p51 p57 : Option Addr} {c51 c57 : Nat} {weekno easter : List Int} (r51 : lkp (ky 1 51) H = some (.slice p51 weekno.length c51)) (r57 : lkp (ky 1 57) H = some (.slice p57 easter.length c57)) {p20 : Option Addr} {c20 : Nat} {wno : List Int} (h20 : lkp (ky 0 20) H = some (.slice p20 wno.length c20)) (hp20 : 0 < wno.length → ∃ b, p20 = some ⟨b, 0, none⟩) (hS8 : 0 < wno.length → lkp 8 S = some ⟨.slice p20 wno.length c20, 3, 1, wno.length, wno.map (Value.int .i64)⟩) {p21 : Option Addr} {c21 : Nat} {nwm : List Int} (h21 : lkp (ky 0 21) H = some (.slice p21 nwm.length c21)) (hp21 : 0 < nwm.length → ∃ b, p21 = some ⟨b, 0, none⟩) (hS9 : 0 < nwm.length → lkp 9 S = some ⟨.slice p21 nwm.length c21, 3, 1, nwm.length, nwm.map (Value.int .i64)⟩) {p22 : Option Addr} {c22 : Nat} {eas : List Int} (h22 : lkp (ky 0 22) H = some (.slice p22 eas.length c22)) (hp22 : 0 < eas.length → ∃ b, p22 = some ⟨b, 0, none⟩) (hS10 : 0 < eas.length → lkp 10 S = some ⟨.slice p22 eas.length c22, 3, 1, eas.length, eas.map (Value.int .i64)⟩) {y : Int}
    (h10 : lkp (ky 0 10) H = some (.int .i64 (365 + Cal.lp y))) (h11 : lkp (ky 0 11) H = some (.int .i64 (365 + Cal.lp (y + 1)))) {b3 b4 b5 b6 c3 c4 c5 c6 : Nat} (h15 : lkp (ky 0 15) H = some (.slice (some ⟨b3, 0, none⟩) (nY y) c3)) (h17 : lkp (ky 0 17) H = some (.slice (some ⟨b4, 0, none⟩) (nY y) c4))
    (h18 : lkp (ky 0 18) H = some (.slice (some ⟨b5, 0, none⟩) (nY y) c5)) (h19 : lkp (ky 0 19) H = some (.slice (some ⟨b6, 0 + (ywd y).toNat * 1, none⟩) (385 - (ywd y).toNat) (c6 - (ywd y).toNat)))
    (hS3 : lkp 3 S = some ⟨.slice (some ⟨b3, 0, none⟩) (nY y) c3, 3, 1, nY y, (mmY y).map (Value.int .i64)⟩) (hS4 : lkp 4 S = some ⟨.slice (some ⟨b4, 0, none⟩) (nY y) c4, 3, 1, nY y, (mdY y).map (Value.int .i64)⟩) (hS5 : lkp 5 S = some ⟨.slice (some ⟨b5, 0, none⟩) (nY y) c5, 3, 1, nY y, (nmdY y).map (Value.int .i64)⟩)
    (hS6 : lkp 6 S = some ⟨.slice (some ⟨b6, 0, none⟩) 385 c6, 3, 1, 385, (wd 55).map (Value.int .i64)⟩) {v5 v6 v7 v98 v99 v100 : Value} {i : Int} (hi : 0 ≤ i ∧ i < nY y) (hwn : weekno.length ≠ 0 → i < wno.length) (hnw : nwm.length ≠ 0 → i < nwm.length) (hea : easter.length ≠ 0 → i < eas.length) (fG : Bool) (hfG : fG = (false || badG yday y i)) (hz : ¬ yday.length = 0) (hlt : ¬ i < 365 + Cal.lp y) (hc : (yday.any (· == (i + 1 - (365 + Cal.lp y)))) = true) : GM Go.Proofs.Tryz.prog ops11 (Kn 1418 [(0, .pointer (some ⟨it, 0, none⟩)), (2, .pointer (some ⟨rb, 0, none⟩)), (5, v5), (6, v6), (7, v7), (9, .int .i64 i), (98, v98), (99, v99), (100, v100), (348, .bool fG)]) (List.take 89 (List.drop 153 ops11.toList)) 1418 [(0, .pointer (some ⟨it, 0, none⟩)), (2, .pointer (some ⟨rb, 0, none⟩)), (5, v5), (6, v6), (7, v7), (9, .int .i64 i), (98, v98), (99, v99), (100, v100), (259, .bool false)] F w0 B H S := by
  have hlp := Cal.lp_01 y
  have hlp2 := Cal.lp_01 (y + 1)
  have hny := nY_lp y
  have hyw : 0 ≤ ywd y ∧ ywd y ≤ 6 := by unfold ywd; omega
  have hge : 365 + Cal.lp y ≤ i := by omega
  refine GM_take rfl rfl ?_
  refine GM_rd (by decide) (rd_move rfl) ?_
  refine GM_take rfl rfl ?_
  refine GM_rd (by decide) (rd_nilCheck rfl) ?_
  refine GM_take rfl rfl ?_
  refine GM_rd (by decide) (rd_fieldAddr (j := 50) (by kernel_rfl) rfl) ?_
  refine GM_take rfl rfl ?_
  refine GM_rd (by decide) (rd_load 1 rfl hR r50 (by kernel_rfl) (by decide)) ?_
  refine GM_take rfl rfl ?_
  refine GM_rd (by decide) (rd_len (by kernel_rfl) rfl) ?_
  refine GM_take rfl rfl ?_
  refine GM_rd (by decide) ((rd_neq rfl rfl).to (congrArg Value.bool (n_ne (by omega)))) ?_
  refine GM_take rfl rfl ?_
  refine GM_rd (by decide) (rd_move rfl) ?_
  refine GM_take rfl rfl ?_
  refine GM_rd (by decide) (rd_move rfl) ?_
  refine GM_take rfl rfl ?_
  refine GM_rd (by decide) (rd_move rfl) ?_
  refine GM_take rfl rfl ?_
  refine GM_rd (by decide) (rd_nilCheck rfl) ?_
  refine GM_take rfl rfl ?_
  refine GM_rd (by decide) (rd_fieldAddr (j := 7) (by kernel_rfl) rfl) ?_
  refine GM_take rfl rfl ?_
  refine GM_rd (by decide) (rd_fieldAddr (j := 3) (by kernel_rfl) rfl) ?_
  refine GM_take rfl rfl ?_
  refine GM_rd (by decide) (rd_load 0 rfl hB h10 (by kernel_rfl) (by decide)) ?_
  refine GM_take rfl rfl ?_
  refine GM_rd (by decide) ((rd_lss rfl rfl).to (congrArg Value.bool (decide_eq_false hlt))) ?_
  refine GM_take rfl rfl ?_
  refine GM_rd (by decide) (rd_move rfl) ?_
  refine GM_pass (by decide) rfl rfl (by decide) ?_
  refine GM_pass (by decide) rfl rfl (by decide) ?_
  refine GM_pass (by decide) rfl rfl (by decide) ?_
  refine GM_pass (by decide) rfl rfl (by decide) ?_
  refine GM_pass (by decide) rfl rfl (by decide) ?_
  refine GM_pass (by decide) rfl rfl (by decide) ?_
  refine GM_pass (by decide) rfl rfl (by decide) ?_
  refine GM_pass (by decide) rfl rfl (by decide) ?_
  refine GM_take rfl rfl ?_
  refine GM_rd (by decide) (rd_pick rfl rfl rfl) ?_
  refine GM_take rfl rfl ?_
  refine GM_rd (by decide) (rd_move rfl) ?_
  refine GM_pass (by decide) rfl rfl (by decide) ?_
  refine GM_pass (by decide) rfl rfl (by decide) ?_
  refine GM_pass (by decide) rfl rfl (by decide) ?_
  refine GM_pass (by decide) rfl rfl (by decide) ?_
  refine GM_pass (by decide) rfl rfl (by decide) ?_
  refine GM_pass (by decide) rfl rfl (by decide) ?_
  refine GM_pass (by decide) rfl rfl (by decide) ?_
  refine GM_pass (by decide) rfl rfl (by decide) ?_
  refine GM_pass (by decide) rfl rfl (by decide) ?_
  refine GM_pass (by decide) rfl rfl (by decide) ?_
  refine GM_pass (by decide) rfl rfl (by decide) ?_
  refine GM_pass (by decide) rfl rfl (by decide) ?_
  refine GM_pass (by decide) rfl rfl (by decide) ?_
  refine GM_pass (by decide) rfl rfl (by decide) ?_
  refine GM_take rfl rfl ?_
  refine GM_rd (by decide) (rd_pick rfl rfl rfl) ?_
  refine GM_take rfl rfl ?_
  refine GM_rd (by decide) (rd_move rfl) ?_
  refine GM_take rfl rfl ?_
  refine GM_rd (by decide) (rd_move rfl) ?_
  refine GM_take rfl rfl ?_
  refine GM_rd (by decide) (rd_move rfl) ?_
  refine GM_take rfl rfl ?_
  refine GM_rd (by decide) (rd_nilCheck rfl) ?_
  refine GM_take rfl rfl ?_
  refine GM_rd (by decide) (rd_fieldAddr (j := 7) (by kernel_rfl) rfl) ?_
  refine GM_take rfl rfl ?_
  refine GM_rd (by decide) (rd_fieldAddr (j := 3) (by kernel_rfl) rfl) ?_
  refine GM_take rfl rfl ?_
  refine GM_rd (by decide) (rd_load 0 rfl hB h10 (by kernel_rfl) (by decide)) ?_
  refine GM_take rfl rfl ?_
  refine GM_rd (by decide) ((rd_geq rfl rfl).to (congrArg Value.bool (decide_eq_true (by omega)))) ?_
  refine GM_take rfl rfl ?_
  refine GM_rd (by decide) (rd_move rfl) ?_
  refine GM_take rfl rfl ?_
  refine GM_rd (by decide) (rd_move rfl) ?_
  refine GM_take rfl rfl ?_
  refine GM_rd (by decide) (rd_nilCheck rfl) ?_
  refine GM_take rfl rfl ?_
  refine GM_rd (by decide) (rd_fieldAddr (j := 50) (by kernel_rfl) rfl) ?_
  refine GM_take rfl rfl ?_
  refine GM_rd (by decide) (rd_load 1 rfl hR r50 (by kernel_rfl) (by decide)) ?_
  refine GM_take rfl rfl ?_
  refine GM_rd (by decide) (rd_move rfl) ?_
  refine GM_take rfl rfl ?_
  first
    | refine GM_rd (by decide) (rd_add_ rfl rfl (by omega)) ?_
    | refine GM_rd (by decide) (rd_add rfl rfl) ?_
  refine GM_take rfl rfl ?_
  refine GM_rd (by decide) (rd_move rfl) ?_
  refine GM_take rfl rfl ?_
  refine GM_rd (by decide) (rd_nilCheck rfl) ?_
  refine GM_take rfl rfl ?_
  refine GM_rd (by decide) (rd_fieldAddr (j := 7) (by kernel_rfl) rfl) ?_
  refine GM_take rfl rfl ?_
  refine GM_rd (by decide) (rd_fieldAddr (j := 3) (by kernel_rfl) rfl) ?_
  refine GM_take rfl rfl ?_
  refine GM_rd (by decide) (rd_load 0 rfl hB h10 (by kernel_rfl) (by decide)) ?_
  refine GM_take rfl rfl ?_
  first
    | refine GM_rd (by decide) (rd_sub_ rfl rfl (by omega)) ?_
    | refine GM_rd (by decide) (rd_sub rfl rfl) ?_
  refine GM_take rfl rfl ?_
  refine GM_call_v (v := .bool true) (by decide) (by kernel_rfl) rfl (fun w_ s_ => (contains_calls yday (i + 1 - (365 + Cal.lp y)) _ hl50 w_ (hI50 w_ s_)).mono fun e_ w2_ h_ => ⟨h_.1.trans (congrArg Ending.returned (congrArg Value.bool hc)), h_.2⟩) ?_
  refine GM_take rfl rfl ?_
  refine GM_rd (by decide) (rd_not rfl) ?_
  refine GM_take rfl rfl ?_
  refine GM_rd (by decide) (rd_pick rfl rfl rfl) ?_
  refine GM_take rfl rfl ?_
  refine GM_rd (by decide) (rd_move rfl) ?_
  refine GM_pass (by decide) rfl rfl (by decide) ?_
  refine GM_pass (by decide) rfl rfl (by decide) ?_
  refine GM_pass (by decide) rfl rfl (by decide) ?_
  refine GM_pass (by decide) rfl rfl (by decide) ?_
  refine GM_pass (by decide) rfl rfl (by decide) ?_
  refine GM_pass (by decide) rfl rfl (by decide) ?_
  refine GM_pass (by decide) rfl rfl (by decide) ?_
  refine GM_pass (by decide) rfl rfl (by decide) ?_
  refine GM_pass (by decide) rfl rfl (by decide) ?_
  refine GM_pass (by decide) rfl rfl (by decide) ?_
  refine GM_pass (by decide) rfl rfl (by decide) ?_
  refine GM_pass (by decide) rfl rfl (by decide) ?_
  refine GM_pass (by decide) rfl rfl (by decide) ?_
  refine GM_pass (by decide) rfl rfl (by decide) ?_
  refine GM_pass (by decide) rfl rfl (by decide) ?_
  refine GM_pass (by decide) rfl rfl (by decide) ?_
  refine GM_pass (by decide) rfl rfl (by decide) ?_
  refine GM_pass (by decide) rfl rfl (by decide) ?_
  refine GM_pass (by decide) rfl rfl (by decide) ?_
  refine GM_pass (by decide) rfl rfl (by decide) ?_
  refine GM_take rfl rfl ?_
  refine GM_rd (by decide) (rd_pick rfl rfl rfl) ?_
  refine GM_take rfl rfl ?_
  refine GM_rd (by decide) (rd_pick rfl rfl rfl) ?_
  refine GM_take rfl rfl ?_
  refine GM_rd (by decide) (rd_pick rfl rfl rfl) ?_
  refine GM_rd (by decide) ((rd_pick rfl rfl rfl).to (v' := .bool fG) (by rw [hfG]; unfold badG; simp only [hc, hlt, hge]; simp [hz])) ?_
  exact GM_nil (fun a k => k.cons rfl (k.cons rfl (k.cons rfl (k.cons rfl (k.cons rfl (k.cons rfl (k.cons rfl (k.cons rfl (k.cons rfl (k.cons rfl (k.nil)))))))))))
theorem ft_27 {it rb : Nat} (hB : lkp 0 B = some it) (hR : lkp 1 B = some rb) {p47 : Option Addr} {c47 : Nat} {month : List Int} (r47 : lkp (ky 1 47) H = some (.slice p47 month.length c47)) (hl47 : month.length ≤ 1000000000) (hI47 : ∀ w, Sees F w0 B H S w → Ints w (.slice p47 month.length c47) month) {p48 : Option Addr} {c48 : Nat} {mday : List Int} (r48 : lkp (ky 1 48) H = some (.slice p48 mday.length c48)) (hl48 : mday.length ≤ 1000000000) (hI48 : ∀ w, Sees F w0 B H S w → Ints w (.slice p48 mday.length c48) mday) {p49 : Option Addr} {c49 : Nat} {nmday : List Int} (r49 : lkp (ky 1 49) H = some (.slice p49 nmday.length c49)) (hl49 : nmday.length ≤ 1000000000) (hI49 : ∀ w, Sees F w0 B H S w → Ints w (.slice p49 nmday.length c49) nmday) {p50 : Option Addr} {c50 : Nat} {yday : List Int} (r50 : lkp (ky 1 50) H = some (.slice p50 yday.length c50)) (hl50 : yday.length ≤ 1000000000) (hI50 : ∀ w, Sees F w0 B H S w → Ints w (.slice p50 yday.length c50) yday) {p52 : Option Addr} {c52 : Nat} {wday : List Int} (r52 : lkp (ky 1 52) H = some (.slice p52 wday.length c52)) (hl52 : wday.length ≤ 1000000000) (hI52 : ∀ w, Sees F w0 B H S w → Ints w (.slice p52 wday.length c52) wday) {p51 p57 : Option Addr} {c51 c57 : Nat} {weekno easter : List Int} (r51 : lkp (ky 1 51) H = some (.slice p51 weekno.length c51)) (r57 : lkp (ky 1 57) H = some (.slice p57 easter.length c57)) {p20 : Option Addr} {c20 : Nat} {wno : List Int} (h20 : lkp (ky 0 20) H = some (.slice p20 wno.length c20)) (hp20 : 0 < wno.length → ∃ b, p20 = some ⟨b, 0, none⟩) (hS8 : 0 < wno.length → lkp 8 S = some ⟨.slice p20 wno.length c20, 3, 1, wno.length, wno.map (Value.int .i64)⟩) {p21 : Option Addr} {c21 : Nat} {nwm : List Int} (h21 : lkp (ky 0 21) H = some (.slice p21 nwm.length c21)) (hp21 : 0 < nwm.length → ∃ b, p21 = some ⟨b, 0, none⟩) (hS9 : 0 < nwm.length → lkp 9 S = some ⟨.slice p21 nwm.length c21, 3, 1, nwm.length, nwm.map (Value.int .i64)⟩) {p22 : Option Addr} {c22 : Nat} {eas : List Int} (h22 : lkp (ky 0 22) H = some (.slice p22 eas.length c22)) (hp22 : 0 < eas.length → ∃ b, p22 = some ⟨b, 0, none⟩) (hS10 : 0 < eas.length → lkp 10 S = some ⟨.slice p22 eas.length c22, 3, 1, eas.length, eas.map (Value.int .i64)⟩) {y : Int}
    (h10 : lkp (ky 0 10) H = some (.int .i64 (365 + Cal.lp y))) (h11 : lkp (ky 0 11) H = some (.int .i64 (365 + Cal.lp (y + 1)))) {b3 b4 b5 b6 c3 c4 c5 c6 : Nat} (h15 : lkp (ky 0 15) H = some (.slice (some ⟨b3, 0, none⟩) (nY y) c3)) (h17 : lkp (ky 0 17) H = some (.slice (some ⟨b4, 0, none⟩) (nY y) c4))
    (h18 : lkp (ky 0 18) H = some (.slice (some ⟨b5, 0, none⟩) (nY y) c5)) (h19 : lkp (ky 0 19) H = some (.slice (some ⟨b6, 0 + (ywd y).toNat * 1, none⟩) (385 - (ywd y).toNat) (c6 - (ywd y).toNat)))
    (hS3 : lkp 3 S = some ⟨.slice (some ⟨b3, 0, none⟩) (nY y) c3, 3, 1, nY y, (mmY y).map (Value.int .i64)⟩) (hS4 : lkp 4 S = some ⟨.slice (some ⟨b4, 0, none⟩) (nY y) c4, 3, 1, nY y, (mdY y).map (Value.int .i64)⟩) (hS5 : lkp 5 S = some ⟨.slice (some ⟨b5, 0, none⟩) (nY y) c5, 3, 1, nY y, (nmdY y).map (Value.int .i64)⟩)
    (hS6 : lkp 6 S = some ⟨.slice (some ⟨b6, 0, none⟩) 385 c6, 3, 1, 385, (wd 55).map (Value.int .i64)⟩) {v5 v6 v7 v98 v99 v100 : Value} {i : Int} (hi : 0 ≤ i ∧ i < nY y) (hwn : weekno.length ≠ 0 → i < wno.length) (hnw : nwm.length ≠ 0 → i < nwm.length) (hea : easter.length ≠ 0 → i < eas.length) (fG : Bool) (hfG : fG = (false || badG yday y i)) (hz : ¬ yday.length = 0) (hlt : ¬ i < 365 + Cal.lp y) (hc : (yday.any (· == (i + 1 - (365 + Cal.lp y)))) = false) : GM Go.Proofs.Tryz.prog ops11 (Kn 1418 [(0, .pointer (some ⟨it, 0, none⟩)), (2, .pointer (some ⟨rb, 0, none⟩)), (5, v5), (6, v6), (7, v7), (9, .int .i64 i), (98, v98), (99, v99), (100, v100), (348, .bool fG)]) (List.take 89 (List.drop 153 ops11.toList)) 1418 [(0, .pointer (some ⟨it, 0, none⟩)), (2, .pointer (some ⟨rb, 0, none⟩)), (5, v5), (6, v6), (7, v7), (9, .int .i64 i), (98, v98), (99, v99), (100, v100), (259, .bool false)] F w0 B H S := by
  have hlp := Cal.lp_01 y
  have hlp2 := Cal.lp_01 (y + 1)
  have hny := nY_lp y
  have hyw : 0 ≤ ywd y ∧ ywd y ≤ 6 := by unfold ywd; omega
  have hge : 365 + Cal.lp y ≤ i := by omega
  refine GM_take rfl rfl ?_
  refine GM_rd (by decide) (rd_move rfl) ?_
  refine GM_take rfl rfl ?_
  refine GM_rd (by decide) (rd_nilCheck rfl) ?_
  refine GM_take rfl rfl ?_
  refine GM_rd (by decide) (rd_fieldAddr (j := 50) (by kernel_rfl) rfl) ?_
  refine GM_take rfl rfl ?_
  refine GM_rd (by decide) (rd_load 1 rfl hR r50 (by kernel_rfl) (by decide)) ?_
  refine GM_take rfl rfl ?_
  refine GM_rd (by decide) (rd_len (by kernel_rfl) rfl) ?_
  refine GM_take rfl rfl ?_
  refine GM_rd (by decide) ((rd_neq rfl rfl).to (congrArg Value.bool (n_ne (by omega)))) ?_
  refine GM_take rfl rfl ?_
  refine GM_rd (by decide) (rd_move rfl) ?_
  refine GM_take rfl rfl ?_
  refine GM_rd (by decide) (rd_move rfl) ?_
  refine GM_take rfl rfl ?_
  refine GM_rd (by decide) (rd_move rfl) ?_
  refine GM_take rfl rfl ?_
  refine GM_rd (by decide) (rd_nilCheck rfl) ?_
  refine GM_take rfl rfl ?_
  refine GM_rd (by decide) (rd_fieldAddr (j := 7) (by kernel_rfl) rfl) ?_
  refine GM_take rfl rfl ?_
  refine GM_rd (by decide) (rd_fieldAddr (j := 3) (by kernel_rfl) rfl) ?_
  refine GM_take rfl rfl ?_
  refine GM_rd (by decide) (rd_load 0 rfl hB h10 (by kernel_rfl) (by decide)) ?_
  refine GM_take rfl rfl ?_
  refine GM_rd (by decide) ((rd_lss rfl rfl).to (congrArg Value.bool (decide_eq_false hlt))) ?_
  refine GM_take rfl rfl ?_
  refine GM_rd (by decide) (rd_move rfl) ?_
  refine GM_pass (by decide) rfl rfl (by decide) ?_
  refine GM_pass (by decide) rfl rfl (by decide) ?_
  refine GM_pass (by decide) rfl rfl (by decide) ?_
  refine GM_pass (by decide) rfl rfl (by decide) ?_
  refine GM_pass (by decide) rfl rfl (by decide) ?_
  refine GM_pass (by decide) rfl rfl (by decide) ?_
  refine GM_pass (by decide) rfl rfl (by decide) ?_
  refine GM_pass (by decide) rfl rfl (by decide) ?_
  refine GM_take rfl rfl ?_
  refine GM_rd (by decide) (rd_pick rfl rfl rfl) ?_
  refine GM_take rfl rfl ?_
  refine GM_rd (by decide) (rd_move rfl) ?_
  refine GM_pass (by decide) rfl rfl (by decide) ?_
  refine GM_pass (by decide) rfl rfl (by decide) ?_
  refine GM_pass (by decide) rfl rfl (by decide) ?_
  refine GM_pass (by decide) rfl rfl (by decide) ?_
  refine GM_pass (by decide) rfl rfl (by decide) ?_
  refine GM_pass (by decide) rfl rfl (by decide) ?_
  refine GM_pass (by decide) rfl rfl (by decide) ?_
  refine GM_pass (by decide) rfl rfl (by decide) ?_
  refine GM_pass (by decide) rfl rfl (by decide) ?_
  refine GM_pass (by decide) rfl rfl (by decide) ?_
  refine GM_pass (by decide) rfl rfl (by decide) ?_
  refine GM_pass (by decide) rfl rfl (by decide) ?_
  refine GM_pass (by decide) rfl rfl (by decide) ?_
  refine GM_pass (by decide) rfl rfl (by decide) ?_
  refine GM_take rfl rfl ?_
  refine GM_rd (by decide) (rd_pick rfl rfl rfl) ?_
  refine GM_take rfl rfl ?_
  refine GM_rd (by decide) (rd_move rfl) ?_
  refine GM_take rfl rfl ?_
  refine GM_rd (by decide) (rd_move rfl) ?_
  refine GM_take rfl rfl ?_
  refine GM_rd (by decide) (rd_move rfl) ?_
  refine GM_take rfl rfl ?_
  refine GM_rd (by decide) (rd_nilCheck rfl) ?_
  refine GM_take rfl rfl ?_
  refine GM_rd (by decide) (rd_fieldAddr (j := 7) (by kernel_rfl) rfl) ?_
  refine GM_take rfl rfl ?_
  refine GM_rd (by decide) (rd_fieldAddr (j := 3) (by kernel_rfl) rfl) ?_
  refine GM_take rfl rfl ?_
  refine GM_rd (by decide) (rd_load 0 rfl hB h10 (by kernel_rfl) (by decide)) ?_
  refine GM_take rfl rfl ?_
  refine GM_rd (by decide) ((rd_geq rfl rfl).to (congrArg Value.bool (decide_eq_true (by omega)))) ?_
  refine GM_take rfl rfl ?_
  refine GM_rd (by decide) (rd_move rfl) ?_
  refine GM_take rfl rfl ?_
  refine GM_rd (by decide) (rd_move rfl) ?_
  refine GM_take rfl rfl ?_
  refine GM_rd (by decide) (rd_nilCheck rfl) ?_
  refine GM_take rfl rfl ?_
  refine GM_rd (by decide) (rd_fieldAddr (j := 50) (by kernel_rfl) rfl) ?_
  refine GM_take rfl rfl ?_
  refine GM_rd (by decide) (rd_load 1 rfl hR r50 (by kernel_rfl) (by decide)) ?_
  refine GM_take rfl rfl ?_
  refine GM_rd (by decide) (rd_move rfl) ?_
  refine GM_take rfl rfl ?_
  first
    | refine GM_rd (by decide) (rd_add_ rfl rfl (by omega)) ?_
    | refine GM_rd (by decide) (rd_add rfl rfl) ?_
  refine GM_take rfl rfl ?_
  refine GM_rd (by decide) (rd_move rfl) ?_
  refine GM_take rfl rfl ?_
  refine GM_rd (by decide) (rd_nilCheck rfl) ?_
  refine GM_take rfl rfl ?_
  refine GM_rd (by decide) (rd_fieldAddr (j := 7) (by kernel_rfl) rfl) ?_
  refine GM_take rfl rfl ?_
  refine GM_rd (by decide) (rd_fieldAddr (j := 3) (by kernel_rfl) rfl) ?_
  refine GM_take rfl rfl ?_
  refine GM_rd (by decide) (rd_load 0 rfl hB h10 (by kernel_rfl) (by decide)) ?_
  refine GM_take rfl rfl ?_
  first
    | refine GM_rd (by decide) (rd_sub_ rfl rfl (by omega)) ?_
    | refine GM_rd (by decide) (rd_sub rfl rfl) ?_
  refine GM_take rfl rfl ?_
  refine GM_call_v (v := .bool false) (by decide) (by kernel_rfl) rfl (fun w_ s_ => (contains_calls yday (i + 1 - (365 + Cal.lp y)) _ hl50 w_ (hI50 w_ s_)).mono fun e_ w2_ h_ => ⟨h_.1.trans (congrArg Ending.returned (congrArg Value.bool hc)), h_.2⟩) ?_
  refine GM_take rfl rfl ?_
  refine GM_rd (by decide) (rd_not rfl) ?_
  refine GM_take rfl rfl ?_
  refine GM_rd (by decide) (rd_pick rfl rfl rfl) ?_
  refine GM_take rfl rfl ?_
  refine GM_rd (by decide) (rd_move rfl) ?_
  refine GM_take rfl rfl ?_
  refine GM_rd (by decide) (rd_move rfl) ?_
  refine GM_take rfl rfl ?_
  refine GM_rd (by decide) (rd_nilCheck rfl) ?_
  refine GM_take rfl rfl ?_
  refine GM_rd (by decide) (rd_fieldAddr (j := 50) (by kernel_rfl) rfl) ?_
  refine GM_take rfl rfl ?_
  refine GM_rd (by decide) (rd_load 1 rfl hR r50 (by kernel_rfl) (by decide)) ?_
  refine GM_take rfl rfl ?_
  refine GM_rd (by decide) (rd_move rfl) ?_
  refine GM_take rfl rfl ?_
  refine GM_rd (by decide) (rd_nilCheck rfl) ?_
  refine GM_take rfl rfl ?_
  refine GM_rd (by decide) (rd_fieldAddr (j := 7) (by kernel_rfl) rfl) ?_
  refine GM_take rfl rfl ?_
  refine GM_rd (by decide) (rd_fieldAddr (j := 4) (by kernel_rfl) rfl) ?_
  refine GM_take rfl rfl ?_
  refine GM_rd (by decide) (rd_load 0 rfl hB h11 (by kernel_rfl) (by decide)) ?_
  refine GM_take rfl rfl ?_
  first
    | refine GM_rd (by decide) (rd_neg_ rfl (by omega)) ?_
    | refine GM_rd (by decide) (rd_neg rfl) ?_
  refine GM_take rfl rfl ?_
  refine GM_rd (by decide) (rd_move rfl) ?_
  refine GM_take rfl rfl ?_
  first
    | refine GM_rd (by decide) (rd_add_ rfl rfl (by omega)) ?_
    | refine GM_rd (by decide) (rd_add rfl rfl) ?_
  refine GM_take rfl rfl ?_
  refine GM_rd (by decide) (rd_move rfl) ?_
  refine GM_take rfl rfl ?_
  refine GM_rd (by decide) (rd_nilCheck rfl) ?_
  refine GM_take rfl rfl ?_
  refine GM_rd (by decide) (rd_fieldAddr (j := 7) (by kernel_rfl) rfl) ?_
  refine GM_take rfl rfl ?_
  refine GM_rd (by decide) (rd_fieldAddr (j := 3) (by kernel_rfl) rfl) ?_
  refine GM_take rfl rfl ?_
  refine GM_rd (by decide) (rd_load 0 rfl hB h10 (by kernel_rfl) (by decide)) ?_
  refine GM_take rfl rfl ?_
  first
    | refine GM_rd (by decide) (rd_sub_ rfl rfl (by omega)) ?_
    | refine GM_rd (by decide) (rd_sub rfl rfl) ?_
  refine GM_take rfl rfl ?_
  refine GM_call_v (v := .bool (yday.any (· == (-(365 + Cal.lp (y + 1)) + i - (365 + Cal.lp y))))) (by decide) (by kernel_rfl) rfl (fun w_ s_ => (contains_calls yday (-(365 + Cal.lp (y + 1)) + i - (365 + Cal.lp y)) _ hl50 w_ (hI50 w_ s_)).mono fun e_ w2_ h_ => ⟨h_.1.trans (congrArg Ending.returned rfl), h_.2⟩) ?_
  refine GM_take rfl rfl ?_
  refine GM_rd (by decide) (rd_not rfl) ?_
  refine GM_take rfl rfl ?_
  refine GM_rd (by decide) (rd_pick rfl rfl rfl) ?_
  refine GM_take rfl rfl ?_
  refine GM_rd (by decide) (rd_pick rfl rfl rfl) ?_
  refine GM_take rfl rfl ?_
  refine GM_rd (by decide) (rd_pick rfl rfl rfl) ?_
  refine GM_rd (by decide) ((rd_pick rfl rfl rfl).to (v' := .bool fG) (by rw [hfG]; unfold badG; simp only [hc, hlt, hge]; simp [hz])) ?_
  exact GM_nil (fun a k => k.cons rfl (k.cons rfl (k.cons rfl (k.cons rfl (k.cons rfl (k.cons rfl (k.cons rfl (k.cons rfl (k.cons rfl (k.cons rfl (k.nil)))))))))))
theorem filter_test {Q : Exit → Act → World → Prop} {it rb : Nat} (hB : lkp 0 B = some it) (hR : lkp 1 B = some rb) {p47 : Option Addr} {c47 : Nat} {month : List Int} (r47 : lkp (ky 1 47) H = some (.slice p47 month.length c47)) (hl47 : month.length ≤ 1000000000) (hI47 : ∀ w, Sees F w0 B H S w → Ints w (.slice p47 month.length c47) month) {p48 : Option Addr} {c48 : Nat} {mday : List Int} (r48 : lkp (ky 1 48) H = some (.slice p48 mday.length c48)) (hl48 : mday.length ≤ 1000000000) (hI48 : ∀ w, Sees F w0 B H S w → Ints w (.slice p48 mday.length c48) mday) {p49 : Option Addr} {c49 : Nat} {nmday : List Int} (r49 : lkp (ky 1 49) H = some (.slice p49 nmday.length c49)) (hl49 : nmday.length ≤ 1000000000) (hI49 : ∀ w, Sees F w0 B H S w → Ints w (.slice p49 nmday.length c49) nmday) {p50 : Option Addr} {c50 : Nat} {yday : List Int} (r50 : lkp (ky 1 50) H = some (.slice p50 yday.length c50)) (hl50 : yday.length ≤ 1000000000) (hI50 : ∀ w, Sees F w0 B H S w → Ints w (.slice p50 yday.length c50) yday) {p52 : Option Addr} {c52 : Nat} {wday : List Int} (r52 : lkp (ky 1 52) H = some (.slice p52 wday.length c52)) (hl52 : wday.length ≤ 1000000000) (hI52 : ∀ w, Sees F w0 B H S w → Ints w (.slice p52 wday.length c52) wday) {p51 p57 : Option Addr} {c51 c57 : Nat} {weekno easter : List Int} (r51 : lkp (ky 1 51) H = some (.slice p51 weekno.length c51)) (r57 : lkp (ky 1 57) H = some (.slice p57 easter.length c57)) {p20 : Option Addr} {c20 : Nat} {wno : List Int} (h20 : lkp (ky 0 20) H = some (.slice p20 wno.length c20)) (hp20 : 0 < wno.length → ∃ b, p20 = some ⟨b, 0, none⟩) (hS8 : 0 < wno.length → lkp 8 S = some ⟨.slice p20 wno.length c20, 3, 1, wno.length, wno.map (Value.int .i64)⟩) {p21 : Option Addr} {c21 : Nat} {nwm : List Int} (h21 : lkp (ky 0 21) H = some (.slice p21 nwm.length c21)) (hp21 : 0 < nwm.length → ∃ b, p21 = some ⟨b, 0, none⟩) (hS9 : 0 < nwm.length → lkp 9 S = some ⟨.slice p21 nwm.length c21, 3, 1, nwm.length, nwm.map (Value.int .i64)⟩) {p22 : Option Addr} {c22 : Nat} {eas : List Int} (h22 : lkp (ky 0 22) H = some (.slice p22 eas.length c22)) (hp22 : 0 < eas.length → ∃ b, p22 = some ⟨b, 0, none⟩) (hS10 : 0 < eas.length → lkp 10 S = some ⟨.slice p22 eas.length c22, 3, 1, eas.length, eas.map (Value.int .i64)⟩) {y : Int}
    (h10 : lkp (ky 0 10) H = some (.int .i64 (365 + Cal.lp y))) (h11 : lkp (ky 0 11) H = some (.int .i64 (365 + Cal.lp (y + 1)))) {b3 b4 b5 b6 c3 c4 c5 c6 : Nat} (h15 : lkp (ky 0 15) H = some (.slice (some ⟨b3, 0, none⟩) (nY y) c3)) (h17 : lkp (ky 0 17) H = some (.slice (some ⟨b4, 0, none⟩) (nY y) c4))
    (h18 : lkp (ky 0 18) H = some (.slice (some ⟨b5, 0, none⟩) (nY y) c5)) (h19 : lkp (ky 0 19) H = some (.slice (some ⟨b6, 0 + (ywd y).toNat * 1, none⟩) (385 - (ywd y).toNat) (c6 - (ywd y).toNat)))
    (hS3 : lkp 3 S = some ⟨.slice (some ⟨b3, 0, none⟩) (nY y) c3, 3, 1, nY y, (mmY y).map (Value.int .i64)⟩) (hS4 : lkp 4 S = some ⟨.slice (some ⟨b4, 0, none⟩) (nY y) c4, 3, 1, nY y, (mdY y).map (Value.int .i64)⟩) (hS5 : lkp 5 S = some ⟨.slice (some ⟨b5, 0, none⟩) (nY y) c5, 3, 1, nY y, (nmdY y).map (Value.int .i64)⟩)
    (hS6 : lkp 6 S = some ⟨.slice (some ⟨b6, 0, none⟩) 385 c6, 3, 1, 385, (wd 55).map (Value.int .i64)⟩) {v5 v6 v7 v98 v99 v100 : Value} {i : Int} (hi : 0 ≤ i ∧ i < nY y) (hwn : weekno.length ≠ 0 → i < wno.length) (hnw : nwm.length ≠ 0 → i < nwm.length) (hea : easter.length ≠ 0 → i < eas.length)
    (hn : GE Q .normal 1418 [(0, .pointer (some ⟨it, 0, none⟩)), (2, .pointer (some ⟨rb, 0, none⟩)), (5, v5), (6, v6), (7, v7), (9, .int .i64 i), (98, v98), (99, v99), (100, v100), (348, .bool (badA month y i || badB weekno wno i || badC wday y i || badD nwm i || badE easter eas i || badF mday nmday y i || badG yday y i))] F w0 B H S) : GC Go.Proofs.Tryz.prog (Go.Fr.part [1, 1, 0, 0, 1, 0, 1, 1, 1, 1, 0, 1, 0, 0, 1, 1, 0, 0, 1, 1, 0] (Go.Fr.bodyOf Tryz.f60)) Q 1418 [(0, .pointer (some ⟨it, 0, none⟩)), (2, .pointer (some ⟨rb, 0, none⟩)), (5, v5), (6, v6), (7, v7), (9, .int .i64 i), (98, v98), (99, v99), (100, v100)] F w0 B H S := by
  have hlp := Cal.lp_01 y
  have hlp2 := Cal.lp_01 (y + 1)
  have hny := nY_lp y
  have hyw : 0 ≤ ywd y ∧ ywd y ≤ 6 := by unfold ywd; omega
  show GC _ (Code.region 11 ops11 true) _ _ _ _ _ _ _ _
  refine GC_quiet_at (by kernel_rfl) (lexB_lin 107 (by kernel_rfl)) ?_
  obtain ⟨fA, hfA⟩ : ∃ f, f = badA month y i := ⟨_, rfl⟩
  refine GQ_cut_at 0 23 23 rfl [(0, .pointer (some ⟨it, 0, none⟩)), (2, .pointer (some ⟨rb, 0, none⟩)), (5, v5), (6, v6), (7, v7), (9, .int .i64 i), (98, v98), (99, v99), (100, v100), (129, .bool fA)] ?_ ?_
  · by_cases hz : month.length = 0
    · exact ft_1 hB hR r47 hl47 hI47 r48 hl48 hI48 r49 hl49 hI49 r50 hl50 hI50 r52 hl52 hI52 r51 r57 h20 hp20 hS8 h21 hp21 hS9 h22 hp22 hS10 h10 h11 h15 h17 h18 h19 hS3 hS4 hS5 hS6 hi hwn hnw hea fA hfA hz
    · exact ft_2 hB hR r47 hl47 hI47 r48 hl48 hI48 r49 hl49 hI49 r50 hl50 hI50 r52 hl52 hI52 r51 r57 h20 hp20 hS8 h21 hp21 hS9 h22 hp22 hS10 h10 h11 h15 h17 h18 h19 hS3 hS4 hS5 hS6 hi hwn hnw hea fA hfA hz
  obtain ⟨fB, hfB⟩ : ∃ f, f = (fA || badB weekno wno i) := ⟨_, rfl⟩
  refine GQ_cut_at 23 19 42 rfl [(0, .pointer (some ⟨it, 0, none⟩)), (2, .pointer (some ⟨rb, 0, none⟩)), (5, v5), (6, v6), (7, v7), (9, .int .i64 i), (98, v98), (99, v99), (100, v100), (148, .bool fB)] ?_ ?_
  · rcases Bool.eq_false_or_eq_true fA with hf | hf <;> subst hf
    · exact ft_3 hB hR r47 hl47 hI47 r48 hl48 hI48 r49 hl49 hI49 r50 hl50 hI50 r52 hl52 hI52 r51 r57 h20 hp20 hS8 h21 hp21 hS9 h22 hp22 hS10 h10 h11 h15 h17 h18 h19 hS3 hS4 hS5 hS6 hi hwn hnw hea fB hfB
    · by_cases hz : weekno.length = 0
      · exact ft_4 hB hR r47 hl47 hI47 r48 hl48 hI48 r49 hl49 hI49 r50 hl50 hI50 r52 hl52 hI52 r51 r57 h20 hp20 hS8 h21 hp21 hS9 h22 hp22 hS10 h10 h11 h15 h17 h18 h19 hS3 hS4 hS5 hS6 hi hwn hnw hea fB hfB hz
      · exact ft_5 hB hR r47 hl47 hI47 r48 hl48 hI48 r49 hl49 hI49 r50 hl50 hI50 r52 hl52 hI52 r51 r57 h20 hp20 hS8 h21 hp21 hS9 h22 hp22 hS10 h10 h11 h15 h17 h18 h19 hS3 hS4 hS5 hS6 hi hwn hnw hea fB hfB hz
  obtain ⟨fC, hfC⟩ : ∃ f, f = (fB || badC wday y i) := ⟨_, rfl⟩
  refine GQ_cut_at 42 24 66 rfl [(0, .pointer (some ⟨it, 0, none⟩)), (2, .pointer (some ⟨rb, 0, none⟩)), (5, v5), (6, v6), (7, v7), (9, .int .i64 i), (98, v98), (99, v99), (100, v100), (172, .bool fC)] ?_ ?_
  · rcases Bool.eq_false_or_eq_true fB with hf | hf <;> subst hf
    · exact ft_6 hB hR r47 hl47 hI47 r48 hl48 hI48 r49 hl49 hI49 r50 hl50 hI50 r52 hl52 hI52 r51 r57 h20 hp20 hS8 h21 hp21 hS9 h22 hp22 hS10 h10 h11 h15 h17 h18 h19 hS3 hS4 hS5 hS6 hi hwn hnw hea fC hfC
    · by_cases hz : wday.length = 0
      · exact ft_7 hB hR r47 hl47 hI47 r48 hl48 hI48 r49 hl49 hI49 r50 hl50 hI50 r52 hl52 hI52 r51 r57 h20 hp20 hS8 h21 hp21 hS9 h22 hp22 hS10 h10 h11 h15 h17 h18 h19 hS3 hS4 hS5 hS6 hi hwn hnw hea fC hfC hz
      · exact ft_8 hB hR r47 hl47 hI47 r48 hl48 hI48 r49 hl49 hI49 r50 hl50 hI50 r52 hl52 hI52 r51 r57 h20 hp20 hS8 h21 hp21 hS9 h22 hp22 hS10 h10 h11 h15 h17 h18 h19 hS3 hS4 hS5 hS6 hi hwn hnw hea fC hfC hz
  obtain ⟨fD, hfD⟩ : ∃ f, f = (fC || badD nwm i) := ⟨_, rfl⟩
  refine GQ_cut_at 66 20 86 rfl [(0, .pointer (some ⟨it, 0, none⟩)), (2, .pointer (some ⟨rb, 0, none⟩)), (5, v5), (6, v6), (7, v7), (9, .int .i64 i), (98, v98), (99, v99), (100, v100), (192, .bool fD)] ?_ ?_
  · rcases Bool.eq_false_or_eq_true fC with hf | hf <;> subst hf
    · exact ft_9 hB hR r47 hl47 hI47 r48 hl48 hI48 r49 hl49 hI49 r50 hl50 hI50 r52 hl52 hI52 r51 r57 h20 hp20 hS8 h21 hp21 hS9 h22 hp22 hS10 h10 h11 h15 h17 h18 h19 hS3 hS4 hS5 hS6 hi hwn hnw hea fD hfD
    · by_cases hz : nwm.length = 0
      · exact ft_10 hB hR r47 hl47 hI47 r48 hl48 hI48 r49 hl49 hI49 r50 hl50 hI50 r52 hl52 hI52 r51 r57 h20 hp20 hS8 h21 hp21 hS9 h22 hp22 hS10 h10 h11 h15 h17 h18 h19 hS3 hS4 hS5 hS6 hi hwn hnw hea fD hfD hz
      · exact ft_11 hB hR r47 hl47 hI47 r48 hl48 hI48 r49 hl49 hI49 r50 hl50 hI50 r52 hl52 hI52 r51 r57 h20 hp20 hS8 h21 hp21 hS9 h22 hp22 hS10 h10 h11 h15 h17 h18 h19 hS3 hS4 hS5 hS6 hi hwn hnw hea fD hfD hz
  obtain ⟨fE, hfE⟩ : ∃ f, f = (fD || badE easter eas i) := ⟨_, rfl⟩
  refine GQ_cut_at 86 19 105 rfl [(0, .pointer (some ⟨it, 0, none⟩)), (2, .pointer (some ⟨rb, 0, none⟩)), (5, v5), (6, v6), (7, v7), (9, .int .i64 i), (98, v98), (99, v99), (100, v100), (211, .bool fE)] ?_ ?_
  · rcases Bool.eq_false_or_eq_true fD with hf | hf <;> subst hf
    · exact ft_12 hB hR r47 hl47 hI47 r48 hl48 hI48 r49 hl49 hI49 r50 hl50 hI50 r52 hl52 hI52 r51 r57 h20 hp20 hS8 h21 hp21 hS9 h22 hp22 hS10 h10 h11 h15 h17 h18 h19 hS3 hS4 hS5 hS6 hi hwn hnw hea fE hfE
    · by_cases hz : easter.length = 0
      · exact ft_13 hB hR r47 hl47 hI47 r48 hl48 hI48 r49 hl49 hI49 r50 hl50 hI50 r52 hl52 hI52 r51 r57 h20 hp20 hS8 h21 hp21 hS9 h22 hp22 hS10 h10 h11 h15 h17 h18 h19 hS3 hS4 hS5 hS6 hi hwn hnw hea fE hfE hz
      · exact ft_14 hB hR r47 hl47 hI47 r48 hl48 hI48 r49 hl49 hI49 r50 hl50 hI50 r52 hl52 hI52 r51 r57 h20 hp20 hS8 h21 hp21 hS9 h22 hp22 hS10 h10 h11 h15 h17 h18 h19 hS3 hS4 hS5 hS6 hi hwn hnw hea fE hfE hz
  obtain ⟨fF, hfF⟩ : ∃ f, f = (fE || badF mday nmday y i) := ⟨_, rfl⟩
  refine GQ_cut_at 105 48 153 rfl [(0, .pointer (some ⟨it, 0, none⟩)), (2, .pointer (some ⟨rb, 0, none⟩)), (5, v5), (6, v6), (7, v7), (9, .int .i64 i), (98, v98), (99, v99), (100, v100), (259, .bool fF)] ?_ ?_
  · rcases Bool.eq_false_or_eq_true fE with hf | hf <;> subst hf
    · exact ft_15 hB hR r47 hl47 hI47 r48 hl48 hI48 r49 hl49 hI49 r50 hl50 hI50 r52 hl52 hI52 r51 r57 h20 hp20 hS8 h21 hp21 hS9 h22 hp22 hS10 h10 h11 h15 h17 h18 h19 hS3 hS4 hS5 hS6 hi hwn hnw hea fF hfF
    · by_cases hz : mday.length = 0
      · by_cases hz2 : nmday.length = 0
        · exact ft_16 hB hR r47 hl47 hI47 r48 hl48 hI48 r49 hl49 hI49 r50 hl50 hI50 r52 hl52 hI52 r51 r57 h20 hp20 hS8 h21 hp21 hS9 h22 hp22 hS10 h10 h11 h15 h17 h18 h19 hS3 hS4 hS5 hS6 hi hwn hnw hea fF hfF hz hz2
        · rcases Bool.eq_false_or_eq_true (mday.any (· == ((mdY y).getD i.toNat 0))) with hc | hc
          · exact ft_17 hB hR r47 hl47 hI47 r48 hl48 hI48 r49 hl49 hI49 r50 hl50 hI50 r52 hl52 hI52 r51 r57 h20 hp20 hS8 h21 hp21 hS9 h22 hp22 hS10 h10 h11 h15 h17 h18 h19 hS3 hS4 hS5 hS6 hi hwn hnw hea fF hfF hz hz2 hc
          · exact ft_18 hB hR r47 hl47 hI47 r48 hl48 hI48 r49 hl49 hI49 r50 hl50 hI50 r52 hl52 hI52 r51 r57 h20 hp20 hS8 h21 hp21 hS9 h22 hp22 hS10 h10 h11 h15 h17 h18 h19 hS3 hS4 hS5 hS6 hi hwn hnw hea fF hfF hz hz2 hc
      · rcases Bool.eq_false_or_eq_true (mday.any (· == ((mdY y).getD i.toNat 0))) with hc | hc
        · exact ft_19 hB hR r47 hl47 hI47 r48 hl48 hI48 r49 hl49 hI49 r50 hl50 hI50 r52 hl52 hI52 r51 r57 h20 hp20 hS8 h21 hp21 hS9 h22 hp22 hS10 h10 h11 h15 h17 h18 h19 hS3 hS4 hS5 hS6 hi hwn hnw hea fF hfF hz hc
        · exact ft_20 hB hR r47 hl47 hI47 r48 hl48 hI48 r49 hl49 hI49 r50 hl50 hI50 r52 hl52 hI52 r51 r57 h20 hp20 hS8 h21 hp21 hS9 h22 hp22 hS10 h10 h11 h15 h17 h18 h19 hS3 hS4 hS5 hS6 hi hwn hnw hea fF hfF hz hc
  obtain ⟨fG, hfG⟩ : ∃ f, f = (fF || badG yday y i) := ⟨_, rfl⟩
  refine GQ_cut_at 153 89 242 rfl [(0, .pointer (some ⟨it, 0, none⟩)), (2, .pointer (some ⟨rb, 0, none⟩)), (5, v5), (6, v6), (7, v7), (9, .int .i64 i), (98, v98), (99, v99), (100, v100), (348, .bool fG)] ?_ ?_
  · rcases Bool.eq_false_or_eq_true fF with hf | hf <;> subst hf
    · exact ft_21 hB hR r47 hl47 hI47 r48 hl48 hI48 r49 hl49 hI49 r50 hl50 hI50 r52 hl52 hI52 r51 r57 h20 hp20 hS8 h21 hp21 hS9 h22 hp22 hS10 h10 h11 h15 h17 h18 h19 hS3 hS4 hS5 hS6 hi hwn hnw hea fG hfG
    · by_cases hz : yday.length = 0
      · exact ft_22 hB hR r47 hl47 hI47 r48 hl48 hI48 r49 hl49 hI49 r50 hl50 hI50 r52 hl52 hI52 r51 r57 h20 hp20 hS8 h21 hp21 hS9 h22 hp22 hS10 h10 h11 h15 h17 h18 h19 hS3 hS4 hS5 hS6 hi hwn hnw hea fG hfG hz
      · by_cases hlt : i < 365 + Cal.lp y
        · rcases Bool.eq_false_or_eq_true (yday.any (· == (i + 1))) with hc | hc
          · exact ft_23 hB hR r47 hl47 hI47 r48 hl48 hI48 r49 hl49 hI49 r50 hl50 hI50 r52 hl52 hI52 r51 r57 h20 hp20 hS8 h21 hp21 hS9 h22 hp22 hS10 h10 h11 h15 h17 h18 h19 hS3 hS4 hS5 hS6 hi hwn hnw hea fG hfG hz hlt hc
          · rcases Bool.eq_false_or_eq_true (yday.any (· == (-(365 + Cal.lp y) + i))) with hc2 | hc2
            · exact ft_24 hB hR r47 hl47 hI47 r48 hl48 hI48 r49 hl49 hI49 r50 hl50 hI50 r52 hl52 hI52 r51 r57 h20 hp20 hS8 h21 hp21 hS9 h22 hp22 hS10 h10 h11 h15 h17 h18 h19 hS3 hS4 hS5 hS6 hi hwn hnw hea fG hfG hz hlt hc hc2
            · exact ft_25 hB hR r47 hl47 hI47 r48 hl48 hI48 r49 hl49 hI49 r50 hl50 hI50 r52 hl52 hI52 r51 r57 h20 hp20 hS8 h21 hp21 hS9 h22 hp22 hS10 h10 h11 h15 h17 h18 h19 hS3 hS4 hS5 hS6 hi hwn hnw hea fG hfG hz hlt hc hc2
        · rcases Bool.eq_false_or_eq_true (yday.any (· == (i + 1 - (365 + Cal.lp y)))) with hc | hc
          · exact ft_26 hB hR r47 hl47 hI47 r48 hl48 hI48 r49 hl49 hI49 r50 hl50 hI50 r52 hl52 hI52 r51 r57 h20 hp20 hS8 h21 hp21 hS9 h22 hp22 hS10 h10 h11 h15 h17 h18 h19 hS3 hS4 hS5 hS6 hi hwn hnw hea fG hfG hz hlt hc
          · exact ft_27 hB hR r47 hl47 hI47 r48 hl48 hI48 r49 hl49 hI49 r50 hl50 hI50 r52 hl52 hI52 r51 r57 h20 hp20 hS8 h21 hp21 hS9 h22 hp22 hS10 h10 h11 h15 h17 h18 h19 hS3 hS4 hS5 hS6 hi hwn hnw hea fG hfG hz hlt hc
  refine GQ_end_at (Nat.le_of_ble_eq_true (by kernel_rfl)) ?_
  rw [hfG, hfF, hfE, hfD, hfC, hfB, hfA]
  exact hn
end
end Go.Proofs.YtfcklceejjmjeaaGreat
