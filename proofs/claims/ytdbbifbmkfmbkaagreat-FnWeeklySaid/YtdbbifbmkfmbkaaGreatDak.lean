import Derived.Test.YtdbbifbmkfmbkaaGreatDaj
set_option linter.unusedVariables false
set_option linter.unusedSimpArgs false
set_option maxRecDepth 100000
set_option maxHeartbeats 8000000
namespace Go.Proofs.YtdbbifbmkfmbkaaGreat
open Go.Md Go.Tab Go.Fr
def chkT (rg mm md nm : List Int) (n : Nat) : Bool := (List.range n).all fun i => (List.range 12).any fun j => decide (rg.getD j 0 ≤ (i : Int)) && (decide ((i : Int) < rg.getD (j + 1) 0) && (mm.getD i 0 == (j : Int) + 1 && (md.getD i 0 == (i : Int) - rg.getD j 0 + 1 && nm.getD i 0 == (i : Int) - rg.getD (j + 1) 0)))
theorem chk366 : chkT [0, 31, 60, 91, 121, 152, 182, 213, 244, 274, 305, 335, 366] mm366 md366 nmd366 366 = true := by kernel_rfl
theorem chk365 : chkT [0, 31, 59, 90, 120, 151, 181, 212, 243, 273, 304, 334, 365] mm365 md365 nmd365 365 = true := by kernel_rfl
theorem chkE : ((List.range 7).all fun j => (mm366.getD (366 + j) 0 == 1 && (md366.getD (366 + j) 0 == (j : Int) + 1 && nmd366.getD (366 + j) 0 == (j : Int) - 31)) && (mm365.getD (365 + j) 0 == 1 && (md365.getD (365 + j) 0 == (j : Int) + 1 && nmd365.getD (365 + j) 0 == (j : Int) - 31))) = true := by kernel_rfl
theorem chk_all (y : Int) : chkT (rgY y) (mmY y) (mdY y) (nmdY y) (365 + Cal.lp y).toNat = true := by
 unfold rgY mmY mdY nmdY Cal.lp
 cases Cal.leapB y with
 | true => exact chk366
 | false => exact chk365
theorem tab_at {y i : Int} (h0 : 0 ≤ i) (h1 : i < 372 + Cal.lp y) : (mmY y).getD i.toNat 0 = Cal.monthOf (Cal.daysTo y + i) ∧ (mdY y).getD i.toNat 0 = Cal.mdayOf (Cal.daysTo y + i) ∧ (nmdY y).getD i.toNat 0 = Cal.mdayOf (Cal.daysTo y + i) - Cal.mdays (Cal.monthOf (Cal.daysTo y + i)) (Cal.yearOf (Cal.daysTo y + i)) - 1 := by
 have hlp := Cal.lp_01 y
 rcases Int.lt_or_le i (365 + Cal.lp y) with h | h
 ·have hc := List.all_eq_true.1 (chk_all y) i.toNat (List.mem_range.2 oM)
  obtain ⟨j, hj, hc⟩ := List.any_eq_true.1 hc
  have hj := List.mem_range.1 hj
  rw [Int.toNat_of_nonneg h0, rg_cum oM, rg_cum oM] at hc
  simp only [Bool.and_eq_true, decide_eq_true_eq, beq_iff_eq] at hc
  obtain ⟨c1, c2, c3, c4, c5⟩ := hc
  obtain ⟨d1, d2, d3, d4⟩ := Cal.date_unique oM c1 c2
  have hs : Cal.cum y (j + 1) = Cal.cum y j + Cal.mdays ((j : Int) + 1) y := rfl
  rw [c3, c4, c5, d1, d3, d4]
  exact ⟨rfl, rfl, by omega⟩
 ·have hs := Cal.daysTo_succ y
  obtain ⟨j, rfl⟩ : ∃ j : Nat, i = 365 + Cal.lp y + j := ⟨(i - (365 + Cal.lp y)).toNat, by omega⟩
  have c0 : Cal.cum (y + 1) 0 = 0 := rfl
  have c1 : Cal.cum (y + 1) (0 + 1) = 31 := rfl
  obtain ⟨d1, d2, d3, d4⟩ := Cal.date_unique (y := y + 1) (D := j) (j := 0) oM (by rw [c0]; omega) (by rw [c1]; omega)
  have e : Cal.daysTo y + (365 + Cal.lp y + (j : Int)) = Cal.daysTo (y + 1) + j := by omega
  rw [e, d1, d3, d4, c0]
  have hc := List.all_eq_true.1 chkE j (List.mem_range.2 oM)
  simp only [Bool.and_eq_true, beq_iff_eq] at hc
  obtain ⟨⟨a1, a2, a3⟩, b1, b2, b3⟩ := hc
  have hm : Cal.mdays (((0 : Nat) : Int) + 1) (y + 1) = 31 := rfl
  rw [hm]
  unfold mmY mdY nmdY Cal.lp at *
  cases hl : Cal.leapB y with
  | true =>
   simp only [hl, if_true] at *
   rw [show (365 + 1 + (j : Int)).toNat = 366 + j by omega, a1, a2, a3]
   exact ⟨rfl, by omega, by omega⟩
  | false =>
   simp only [hl, Bool.false_eq_true, if_false] at *
   rw [show (365 + 0 + (j : Int)).toNat = 365 + j by omega, b1, b2, b3]
   exact ⟨rfl, by omega, by omega⟩
theorem bne_b {n : Nat} {b : Bool} : (n != 0 && !b) = !(n == 0 || b) := by cases n <;> cases b <;> rfl
theorem badA_eq {month : List Int} {y i : Int} (h0 : 0 ≤ i) (h1 : i < 372 + Cal.lp y) : badA month y i = !amongB month (Cal.monthOf (Cal.daysTo y + i)) := by
 unfold badA amongB
 rw [(tab_at h0 h1).1, bne_b]
theorem badC_eq {l : List (Int × Int)} {f y i : Int} (hf : 1 < f) : badC ((l.filter (plainW f)).map Prod.fst) y i = !wdIn l (Cal.daysTo y + i) := by
 have e : l.filter (plainW f) = l := List.filter_eq_self.2 fun x _ => by unfold plainW; rw [decide_eq_true hf, Bool.or_true]
 unfold badC wdIn
 rw [e, List.length_map, bne_b, List.any_map]
 congr 2
 congr 1
 funext p
 show (p.1 == _) = (p.1 == _)
 congr 1
 unfold ywd; omega
theorem badF_eq {l : List Int} {y i : Int} (h0 : 0 ≤ i) (h1 : i < 372 + Cal.lp y) (hz : ∀ x ∈ l, x ≠ 0) : badF (posM l) (negM l) y i = !mdIn l (Cal.daysTo y + i) := by
 obtain ⟨_, e2, e3⟩ := tab_at h0 h1
 have hm := Cal.month_bd (Cal.daysTo y + i)
 have hd := Cal.mdays_bd (Cal.monthOf (Cal.daysTo y + i)) (Cal.yearOf (Cal.daysTo y + i))
 have hu : Cal.mdayOf (Cal.daysTo y + i) ≤ Cal.mdays (Cal.monthOf (Cal.daysTo y + i)) (Cal.yearOf (Cal.daysTo y + i)) := by
  obtain ⟨s1, s2, s3⟩ := Cal.split_spec (Cal.daysTo y + i)
  obtain ⟨j, hj, c1, c2⟩ := Cal.mon_ex s2 s3
  have hs : Cal.cum (Cal.yearOf (Cal.daysTo y + i)) (j + 1) = Cal.cum (Cal.yearOf (Cal.daysTo y + i)) j + Cal.mdays ((j : Int) + 1) (Cal.yearOf (Cal.daysTo y + i)) := rfl
  obtain ⟨_, _, d3, d4⟩ := Cal.date_unique hj c1 c2
  rw [s1] at d3 d4
  rw [d3, d4]; omega
 unfold badF mdIn
 rw [e2, e3]
 have hp : (posM l).any (· == Cal.mdayOf (Cal.daysTo y + i)) = l.any (· == Cal.mdayOf (Cal.daysTo y + i)) := by
  rw [Bool.eq_iff_iff, List.any_eq_true, List.any_eq_true]
  unfold posM
  constructor
  ·rintro ⟨x, a, b⟩; exact ⟨x, (List.mem_filter.1 a).1, b⟩
  ·rintro ⟨x, a, b⟩; exact ⟨x, List.mem_filter.2 ⟨a, by have := beq_iff_eq.1 b; exact decide_eq_true oM⟩, b⟩
 have hn : (negM l).any (· == Cal.mdayOf (Cal.daysTo y + i) - Cal.mdays (Cal.monthOf (Cal.daysTo y + i)) (Cal.yearOf (Cal.daysTo y + i)) - 1) = l.any (· == Cal.mdayOf (Cal.daysTo y + i) - Cal.mdays (Cal.monthOf (Cal.daysTo y + i)) (Cal.yearOf (Cal.daysTo y + i)) - 1) := by
  rw [Bool.eq_iff_iff, List.any_eq_true, List.any_eq_true]
  unfold negM
  constructor
  ·rintro ⟨x, a, b⟩; exact ⟨x, (List.mem_filter.1 a).1, b⟩
  ·rintro ⟨x, a, b⟩; exact ⟨x, List.mem_filter.2 ⟨a, by have := beq_iff_eq.1 b; exact decide_eq_true oM⟩, b⟩
 have hl : ((posM l).length != 0 || (negM l).length != 0) = (l.length != 0) := by
  cases l with
  | nil => rfl
  | cons x l =>
   have := hz x (List.mem_cons_self ..)
   rcases Int.lt_or_le 0 x with h | h
   ·have : posM (x :: l) = x :: posM l := by unfold posM; exact List.filter_cons_of_pos (decide_eq_true h)
    rw [this]; rfl
   ·have : negM (x :: l) = x :: negM l := by unfold negM; exact List.filter_cons_of_pos (decide_eq_true oM)
    rw [this]; simp
 rw [hp, hn, hl]
 generalize l.any (· == Cal.mdayOf (Cal.daysTo y + i)) = p
 generalize l.any (· == Cal.mdayOf (Cal.daysTo y + i) - Cal.mdays (Cal.monthOf (Cal.daysTo y + i)) (Cal.yearOf (Cal.daysTo y + i)) - 1) = q
 cases l.length <;> cases p <;> cases q <;> rfl
theorem full_eq (r : Rul) : (fullR r).month = month' (optOf r) ∧ (fullR r).mday = mday' (optOf r) ∧ (fullR r).wday = wday' (optOf r) ∧ (fullR r).hour = hour' (optOf r) ∧ (fullR r).minute = minute' (optOf r) ∧ (fullR r).second = second' (optOf r) := by
 have hn : noDays (optOf r) = true ↔ noDR r := by
  unfold noDays noDR
  simp only [Bool.and_eq_true, beq_iff_eq, and_assoc]
  exact Iff.rfl
 have f1 : (full1 r).month = month' (optOf r) ∧ (full1 r).mday = mday' (optOf r) ∧ (full1 r).wday = wday' (optOf r) := by
  have e2 : (((optOf r).d / 86400 + 1) % 7 + 6) % 7 = r.start / 86400 % 7 := by show ((r.start / 86400 + 1) % 7 + 6) % 7 = _; omega
  unfold full1 month' mday' wday'
  rw [e2]
  by_cases h : noDR r
  ·have h2 := hn.2 h
   rw [if_pos h, h2]
   show _ ∧ _ ∧ _
   by_cases h0 : r.freq = 0
   ·have e0 : (optOf r).freq = 0 := h0
    rw [if_pos h0]
    simp only [e0]
    refine ⟨?_, ?_, ?_⟩
    ·simp only [true_and]; rfl
    ·simp; rfl
    ·simp; rfl
   ·by_cases h1 : r.freq = 1
    ·have e0 : (optOf r).freq = 1 := h1
     rw [if_neg h0, if_pos h1]
     simp only [e0]
     refine ⟨?_, ?_, ?_⟩
     ·simp; rfl
     ·simp; rfl
     ·simp; rfl
    ·by_cases h3 : r.freq = 2
     ·have e0 : (optOf r).freq = 2 := h3
      rw [if_neg h0, if_neg h1, if_pos h3]
      simp only [e0]
      refine ⟨?_, ?_, ?_⟩
      ·simp; rfl
      ·simp; rfl
      ·simp
     ·have e0 : ¬ (optOf r).freq = 0 := h0
      have e1 : ¬ (optOf r).freq = 1 := h1
      have e3 : ¬ (optOf r).freq = 2 := h3
      rw [if_neg h0, if_neg h1, if_neg h3]
      simp only [e0, e1, e3]
      refine ⟨?_, ?_, ?_⟩ <;> (simp; rfl)
  ·have h2 : ¬ noDays (optOf r) = true := fun h3 => h (hn.1 h3)
   rw [if_neg h, if_neg (fun h => h2 h.1), if_neg (fun h => h2 h.1), if_neg (fun h => h2 h.1)]
   exact ⟨rfl, rfl, rfl⟩
 obtain ⟨g1, g2, g3, g4, g5⟩ := full1_same r
 have k2 : ∀ q : Rul, (full2 q).month = q.month ∧ (full2 q).mday = q.mday ∧ (full2 q).wday = q.wday ∧ (full2 q).start = q.start ∧ (full2 q).freq = q.freq ∧ (full2 q).minute = q.minute ∧ (full2 q).second = q.second ∧ (full2 q).hour = if q.hour.length = 0 ∧ q.freq < 4 then [q.start % 86400 / 3600] else q.hour := fun q => by unfold full2; split <;> exact ⟨rfl, rfl, rfl, rfl, rfl, rfl, rfl, rfl⟩
 have k3 : ∀ q : Rul, (full3 q).month = q.month ∧ (full3 q).mday = q.mday ∧ (full3 q).wday = q.wday ∧ (full3 q).start = q.start ∧ (full3 q).freq = q.freq ∧ (full3 q).hour = q.hour ∧ (full3 q).second = q.second ∧ (full3 q).minute = if q.minute.length = 0 ∧ q.freq < 5 then [q.start % 86400 / 60 % 60] else q.minute := fun q => by unfold full3; split <;> exact ⟨rfl, rfl, rfl, rfl, rfl, rfl, rfl, rfl⟩
 have k4 : ∀ q : Rul, (full4 q).month = q.month ∧ (full4 q).mday = q.mday ∧ (full4 q).wday = q.wday ∧ (full4 q).hour = q.hour ∧ (full4 q).minute = q.minute ∧ (full4 q).second = if q.second.length = 0 ∧ q.freq < 6 then [q.start % 86400 % 60] else q.second := fun q => by unfold full4; split <;> exact ⟨rfl, rfl, rfl, rfl, rfl, rfl⟩
 unfold fullR
 obtain ⟨a1, a2, a3, a4, a5, a6⟩ := k4 (full3 (full2 (full1 r)))
 obtain ⟨b1, b2, b3, b4, b5, b6, b7, b8⟩ := k3 (full2 (full1 r))
 obtain ⟨c1, c2, c3, c4, c5, c6, c7, c8⟩ := k2 (full1 r)
 rw [a1, a2, a3, a4, a5, a6, b1, b2, b3, b4, b5, b6, b7, b8, c1, c2, c3, c4, c5, c6, c7, c8, f1.1, f1.2.1, f1.2.2, g1, g2, g3, g4, g5]
 refine ⟨rfl, rfl, rfl, ?_, ?_, ?_⟩
 ·unfold hour'
  show _ = if r.hour.length = 0 then (if r.freq < 4 then _ else _) else r.hour
  by_cases h : r.hour.length = 0
  ·by_cases h2 : r.freq < 4
   ·rw [if_pos ⟨h, h2⟩, if_pos h, if_pos h2]; rfl
   ·rw [if_neg (fun h => h2 h.2), if_pos h, if_neg h2]; exact List.eq_nil_of_length_eq_zero h
  ·rw [if_neg (fun h2 => h h2.1), if_neg h]
 ·unfold minute'
  show _ = if r.minute.length = 0 then (if r.freq < 5 then _ else _) else r.minute
  by_cases h : r.minute.length = 0
  ·by_cases h2 : r.freq < 5
   ·rw [if_pos ⟨h, h2⟩, if_pos h, if_pos h2]; rfl
   ·rw [if_neg (fun h => h2 h.2), if_pos h, if_neg h2]; exact List.eq_nil_of_length_eq_zero h
  ·rw [if_neg (fun h2 => h h2.1), if_neg h]
 ·unfold second'
  show _ = if r.second.length = 0 then (if r.freq < 6 then _ else _) else r.second
  by_cases h : r.second.length = 0
  ·by_cases h2 : r.freq < 6
   ·rw [if_pos ⟨h, h2⟩, if_pos h, if_pos h2]; rfl
   ·rw [if_neg (fun h => h2 h.2), if_pos h, if_neg h2]; exact List.eq_nil_of_length_eq_zero h
  ·rw [if_neg (fun h2 => h h2.1), if_neg h]
theorem inRF_nd {l : List Int} {a b : Int} {m : Bool} (h : inRF l a b m = true) : l.Nodup ∧ (∀ x ∈ l, okR a b m x = true) ∧ l.length ≤ 100 := by
 unfold inRF at h
 rw [Bool.and_eq_true] at h
 have h1 := List.all_eq_true.1 h.1
 have hg : ∀ i (hi : i < l.length), okR a b m l[i] = true ∧ ∀ x ∈ l.take i, x ≠ l[i] := fun i hi => by
  have := h1 i (List.mem_range.2 hi)
  rw [Bool.and_eq_true, getD_lt _ hi] at this
  refine ⟨this.1, fun x hx e => ?_⟩
  have h3 : (l.take i).any (· == l[i]) = false := by simpa using this.2
  rw [List.any_eq_false] at h3
  exact h3 x hx (beq_iff_eq.2 e)
 refine ⟨?_, fun x hx => ?_, of_decide_eq_true h.2⟩
 ·unfold List.Nodup
  rw [List.pairwise_iff_getElem]
  intro i j hi hj hij e
  refine (hg j hj).2 l[i] ?_ e
  rw [List.mem_take_iff_getElem]
  exact ⟨i, by omega, rfl⟩
 ·obtain ⟨i, hi, rfl⟩ := List.mem_iff_getElem.1 hx
  exact (hg i hi).1
theorem inRF_part {l : List Int} {b : Int} (h : inRF l 0 b false = true) (h0 : 0 < l.length) : PartOk l (b + 1) := by
 obtain ⟨h1, h2, _⟩ := inRF_nd h
 refine ⟨h0, h1, fun x hx => ?_⟩
 have := h2 x hx
 unfold okR at this
 rw [if_neg (by simp), Bool.and_eq_true] at this
 have h3 := of_decide_eq_true this.1
 have h4 := of_decide_eq_true this.2
 omega
theorem inRF_nz {l : List Int} {b : Int} {m : Bool} (h : inRF l 1 b m = true) : ∀ x ∈ l, x ≠ 0 := fun x hx e => by
 have := (inRF_nd h).2.1 x hx
 unfold okR at this
 split at this
 ·omega
 ·rw [Bool.and_eq_true] at this
  have h3 := of_decide_eq_true this.1
  omega
theorem right_parts {r : Rul} (rp : RightP r) : (r.freq < 4 → PartOk (hour' (optOf r)) 24) ∧ (r.freq < 5 → PartOk (minute' (optOf r)) 60) ∧ (r.freq < 6 → PartOk (second' (optOf r)) 60) := by
 have hs := rp.t1.start
 refine ⟨fun hf => ?_, fun hf => ?_, fun hf => ?_⟩
 ·unfold hour'
  split
  ·rw [if_pos (show (optOf r).freq < 4 from hf)]
   exact PartOk.one (by show 0 ≤ r.start % 86400 / 3600 ∧ r.start % 86400 / 3600 < 24; omega)
  ·rename_i h
   exact inRF_part rp.t3.h15 (Nat.pos_of_ne_zero h)
 ·unfold minute'
  split
  ·rw [if_pos (show (optOf r).freq < 5 from hf)]
   exact PartOk.one (by show 0 ≤ r.start % 86400 / 60 % 60 ∧ r.start % 86400 / 60 % 60 < 60; omega)
  ·rename_i h
   exact inRF_part rp.t3.h16 (Nat.pos_of_ne_zero h)
 ·unfold second'
  split
  ·rw [if_pos (show (optOf r).freq < 6 from hf)]
   exact PartOk.one (by show 0 ≤ r.start % 86400 % 60 ∧ r.start % 86400 % 60 < 60; omega)
  ·rename_i h
   exact inRF_part rp.t3.h17 (Nat.pos_of_ne_zero h)
theorem mday_nz {r : Rul} (rp : RightP r) : ∀ x ∈ mday' (optOf r), x ≠ 0 := by
 unfold mday'
 split
 ·intro x hx
  rw [List.mem_singleton] at hx
  have := Cal.month_bd ((optOf r).d / 86400)
  omega
 ·exact inRF_nz rp.t3.h11
theorem bad2 {r : Rul} {s : It} {wF : Int → List Int} {nF : Int → Int → List Int} {eF : Int → List Int} (rp : RightP r) (hf : 2 ≤ r.freq) (hn : s.nwm = []) {i : Int} (h0 : 0 ≤ i) (h1 : i < 372 + Cal.lp s.ly) : bad (ruOf (optOf r) wF nF eF) s i = !dayIn2 (fullR r) (Cal.daysTo s.ly + i) := by
 obtain ⟨hy, hw, he⟩ := right_two rp hf
 obtain ⟨e1, e2, e3, _⟩ := full_eq r
 unfold bad
 rw [show badB (ruOf (optOf r) wF nF eF).weekno s.wno i = false by unfold badB; rw [show (ruOf (optOf r) wF nF eF).weekno.length = 0 from hw]; rfl,
  show badD s.nwm i = false by unfold badD; rw [hn]; rfl,
  show badE (ruOf (optOf r) wF nF eF).easter s.eas i = false by unfold badE; rw [show (ruOf (optOf r) wF nF eF).easter.length = 0 from he]; rfl,
  show badG (ruOf (optOf r) wF nF eF).yday s.ly i = false by unfold badG; rw [show (ruOf (optOf r) wF nF eF).yday.length = 0 from hy]; rfl,
  show badA (ruOf (optOf r) wF nF eF).month s.ly i = _ from badA_eq h0 h1, show badC (ruOf (optOf r) wF nF eF).wday s.ly i = _ from badC_eq (show 1 < (optOf r).freq from by show 1 < r.freq; omega), show badF (ruOf (optOf r) wF nF eF).mday (ruOf (optOf r) wF nF eF).nmday s.ly i = _ from badF_eq h0 h1 (mday_nz rp)]
 unfold dayIn2
 rw [e1, e2, e3]
 show (((((((!amongB (month' (optOf r)) _) || false) || !wdIn (wday' (optOf r)) _) || false) || false) || !mdIn (mday' (optOf r)) _) || false) = _
 cases amongB (month' (optOf r)) (Cal.monthOf (Cal.daysTo s.ly + i)) <;> cases mdIn (mday' (optOf r)) (Cal.daysTo s.ly + i) <;> cases wdIn (wday' (optOf r)) (Cal.daysTo s.ly + i) <;> rfl
end Go.Proofs.YtdbbifbmkfmbkaaGreat
namespace Go.Proofs.YtdbbifbmkfmbkaaGreat
open Go.Md Go.Tab Go.Fr
theorem dayNo_in {y m d : Int} (hm : 1 ≤ m ∧ m ≤ 12) : Cal.dayNo y m d = Cal.daysTo y + Cal.cum y (m - 1).toNat + d - 1 := by
 unfold Cal.dayNo
 rw [show (m - 1) / 12 = 0 by omega, show (m - 1) % 12 = m - 1 by omega, Int.add_zero]
theorem cum_next {y m : Int} (hm : 1 ≤ m) : Cal.cum y m.toNat = Cal.cum y (m - 1).toNat + Cal.mdays m y := by
 obtain ⟨j, rfl⟩ : ∃ j : Nat, m = (j : Int) + 1 := ⟨(m - 1).toNat, by omega⟩
 rw [show ((j : Int) + 1 - 1).toNat = j by omega, show ((j : Int) + 1).toNat = j + 1 by omega]
 rfl
theorem dayNo_mo {y m d : Int} (hm : 1 ≤ m ∧ m ≤ 11) : Cal.dayNo y (m + 1) (d - Cal.mdays m y) = Cal.dayNo y m d := by
 rw [dayNo_in oM, dayNo_in oM, show m + 1 - 1 = m by omega, cum_next hm.1]; omega
theorem dayNo_yr {y d : Int} : Cal.dayNo (y + 1) 1 (d - Cal.mdays 12 y) = Cal.dayNo y 12 d := by
 rw [dayNo_in oM, dayNo_in oM]
 have h1 := Cal.cum_12 y
 have h2 : Cal.cum y 12 = Cal.cum y 11 + Cal.mdays 12 y := rfl
 have h3 := Cal.daysTo_succ y
 have h4 : Cal.cum (y + 1) 0 = 0 := rfl
 show Cal.daysTo (y + 1) + Cal.cum (y + 1) 0 + _ - 1 = Cal.daysTo y + Cal.cum y 11 + d - 1
 omega
theorem dayNo_lt {y m d : Int} (hy : 1 ≤ y ∧ y ≤ 9999) (hm : 1 ≤ m ∧ m ≤ 12) (hd : 1 ≤ d ∧ d ≤ Cal.mdays m y) : 0 ≤ Cal.dayNo y m d ∧ Cal.dayNo y m d < 3652059 := by
 obtain ⟨e1, e2, e3, _⟩ := yday_eq hm hd
 have hb := yday_bd hm hd
 have h1 := Cal.split_spec (Cal.dayNo y m d)
 rw [e2] at h1
 have h2 := Cal.daysTo_succ y
 have h3 := Cal.daysTo_mono (a := y + 1) (b := 10000) oM
 have h4 : Cal.daysTo 10000 = 3652059 := by decide
 have h5 := Cal.daysTo_mono (a := 1) (b := y) oM
 have h6 : Cal.daysTo 1 = 0 := by decide
 omega
theorem fixGo_day {r : Ru} : ∀ (n : Nat) (s : It), 1 ≤ s.d → s.d ≤ n → (1 ≤ s.mo ∧ s.mo ≤ 12) → (1 ≤ s.y ∧ s.y ≤ 9999) → s.fin = false →
  ((fixGo r n s).fin = false → Cal.dayNo (fixGo r n s).y (fixGo r n s).mo (fixGo r n s).d = Cal.dayNo s.y s.mo s.d) ∧ ((fixGo r n s).fin = true → 3652059 ≤ Cal.dayNo s.y s.mo s.d)
 | 0, s, h1, h2, _, _, _ => by omega
 | n + 1, s, h1, h2, hm, hy, hf => by
  have hmd := Cal.mdays_bd s.mo s.y
  unfold fixGo
  by_cases hd : s.d ≤ Cal.mdays s.mo s.y
  ·rw [if_pos hd]
   exact ⟨fun _ => rfl, fun h => by rw [show (reb r s s.y s.mo).fin = s.fin from rfl, hf] at h; cases h⟩
  ·rw [if_neg hd]
   by_cases h13 : s.mo + 1 = 13
   ·have e12 : s.mo = 12 := by omega
    rw [if_pos h13]
    by_cases hb : 9999 < s.y + 1
    ·rw [if_pos hb]
     refine ⟨fun h => (by cases h), fun _ => ?_⟩
     have e9 : s.y = 9999 := by omega
     rw [e12, e9] at hd ⊢
     rw [dayNo_in oM]
     have h4 : Cal.daysTo 9999 = 3651694 := by decide
     have h5 : Cal.cum 9999 (12 - 1 : Int).toNat = 334 := by decide
     have h6 : Cal.mdays 12 9999 = 31 := by decide
     omega
    ·rw [if_neg hb]
     have ih := fixGo_day (r := r) n { s with d := s.d - Cal.mdays s.mo s.y, mo := 1, y := s.y + 1 } sO sO sO sO hf
     simp only at ih
     have e := dayNo_yr (y := s.y) (d := s.d)
     rw [← e12] at e
     rw [e] at ih
     exact ih
   ·rw [if_neg h13]
    have ih := fixGo_day (r := r) n { s with d := s.d - Cal.mdays s.mo s.y, mo := s.mo + 1 } sO sO sO hy hf
    simp only at ih
    rw [dayNo_mo oM] at ih
    exact ih
theorem fix_day {r : Ru} {s : It} (h1 : 1 ≤ s.d) (hm : 1 ≤ s.mo ∧ s.mo ≤ 12) (hy : 1 ≤ s.y ∧ s.y ≤ 9999) (hf : s.fin = false) :
  ((fix r s).fin = false → Cal.dayNo (fix r s).y (fix r s).mo (fix r s).d = Cal.dayNo s.y s.mo s.d) ∧ ((fix r s).fin = true → 3652059 ≤ Cal.dayNo s.y s.mo s.d) := by
 unfold fix
 split
 ·exact ⟨fun _ => rfl, fun h => by rw [hf] at h; cases h⟩
 ·exact fixGo_day _ s h1 oM hm hy hf
theorem fixGo_rest {r : Ru} : ∀ (n : Nat) (s : It), Rest s (fixGo r n s)
 | 0, s => Rest.refl s
 | n + 1, s => by
  unfold fixGo
  split
  ·exact ⟨rfl, rfl, rfl, rfl, rfl, rfl, rfl, rfl⟩
  ·split
   ·split
    ·exact ⟨rfl, rfl, rfl, rfl, rfl, rfl, rfl, rfl⟩
    ·have a7 := fixGo_rest (r := r) n { s with d := s.d - Cal.mdays s.mo s.y, mo := 1, y := s.y + 1 }
     exact ⟨a7.h, a7.mi, a7.sec, a7.wd, a7.ts, a7.total, a7.count, a7.rem⟩
   ·have a7 := fixGo_rest (r := r) n { s with d := s.d - Cal.mdays s.mo s.y, mo := s.mo + 1 }
    exact ⟨a7.h, a7.mi, a7.sec, a7.wd, a7.ts, a7.total, a7.count, a7.rem⟩
theorem fix_rest {r : Ru} (s : It) : Rest s (fix r s) := by
 unfold fix
 split
 ·exact Rest.refl s
 ·exact fixGo_rest _ s
theorem over_mono2 {q : Rul} (hf : 2 ≤ q.freq) (hi : 1 ≤ q.interval) (k : Int) (h : pOver q k) : pOver q (k + 1) := by
 rcases h with ⟨h, _⟩ | ⟨h, _⟩ | h
 ·omega
 ·omega
 ·refine .inr (.inr ?_)
  have e2 : 7 * (k + 1) * q.interval = 7 * k * q.interval + 7 * q.interval := by rw [Int.mul_add, Int.add_mul]; omega
  have e1 : (k + 1) * q.interval = k * q.interval + q.interval := by rw [Int.add_mul]; omega
  have e3 : (k * q.interval + q.interval) * UN q.freq = k * q.interval * UN q.freq + q.interval * UN q.freq := Int.add_mul ..
  have e4 : 0 ≤ q.interval * UN q.freq := Int.mul_nonneg oM (by unfold UN; split; omega; split <;> omega)
  unfold pFirst pAt at *
  rw [if_neg oM, if_neg oM] at h ⊢
  rw [e2, e1, e3]
  split
  ·rename_i h2; rw [if_pos h2] at h; omega
  ·rename_i h2
   rw [if_neg h2] at h
   split
   ·rename_i h3; rw [if_pos h3] at h; omega
   ·rename_i h3; rw [if_neg h3] at h; omega
theorem range_split (a : Nat) : ∀ b, List.range (a + b) = List.range a ++ (List.range b).map (a + ·)
 | 0 => by simp
 | b + 1 => by rw [← Nat.add_assoc, List.range_succ, range_split a b, List.range_succ, List.map_append, List.append_assoc]; rfl
theorem flat_days {r : Ru} {s : It} {q : Rul} {dayF : Int → Bool} {first : Int} {sh m : Nat} (hn : (span r s).2 - (span r s).1 = m) (hd : Cal.daysTo s.ly + (span r s).1 = first + sh) (h0 : 0 ≤ first + sh) (hbad : ∀ j : Nat, j < m → bad r s ((span r s).1 + j) = !dayF (Cal.daysTo s.ly + ((span r s).1 + j)))
  (hts : s.ts = tsOf q.hour q.minute q.second) (h1 : PartOk q.hour 24) (h2 : PartOk q.minute 60) (h3 : PartOk q.second 60) : ∃ L1, daysTil q dayF first (sh + m) = L1 ++ flatD r s ∧ (∀ t ∈ L1, t < (first + sh) * 86400) ∧ (sh = 0 → L1 = []) := by
 refine ⟨daysTil q dayF first sh, ?_, fun t ht => ?_, fun h => by rw [h]; rfl⟩
 ·unfold daysTil
  rw [range_split, List.flatMap_append, List.flatMap_map, flatD_eq, hn, Int.toNat_natCast]
  congr 1
  unfold List.flatMap
  congr 1
  refine List.map_congr_left fun j hj => ?_
  have hj := List.mem_range.1 hj
  have e : first + ((sh + j : Nat) : Int) = Cal.daysTo s.ly + ((span r s).1 + j) := by omega
  unfold dayOut
  rw [hbad j hj, e]
  cases hD : dayF (Cal.daysTo s.ly + ((span r s).1 + j)) with
  | false => rw [if_neg (fun h => by cases h.2), if_pos (show (!false) = true from rfl)]
  | true =>
   rw [if_pos ⟨by omega, rfl⟩, if_neg dE, clock_day h1 h2 h3, ← hts]
   rfl
 ·unfold daysTil at ht
  obtain ⟨i, hi, ht⟩ := mem_flatR.1 ht
  unfold dayOut at ht
  split at ht
  ·have := mem_clock.1 ht
   omega
  ·simp at ht
theorem posF_nil (l : List Int) {at_ : List Int} (h : at_.length = 0) : posF l at_ = l := by unfold posF; rw [if_pos h]
theorem tset_eq {o : Opn} (h : o.freq < 4) : tset o = tsOf (hour' o) (minute' o) (second' o) := by unfold tset; rw [if_pos h]; rfl
def R23 (r : Rul) (k : Int) (s : It) : Prop := s.ts = tset (optOf r) ∧ Cal.dayNo s.y s.mo s.d = (if r.freq = 2 ∧ k = 0 then r.start / 86400 else pFirst (fullR r) k) ∧ (r.freq = 2 → s.wd = Cal.dayNo s.y s.mo s.d % 7)
theorem first2 {r : Rul} (hf : r.freq = 2) (k : Int) : pFirst (fullR r) k = r.start / 86400 - (r.start / 86400 % 7 - r.wkst + 7) % 7 + 7 * (k * r.interval) := by
 obtain ⟨e1, e2, e3, e4, _⟩ := fullR_same r
 unfold pFirst
 rw [e1, e2, e3, e4, if_neg oM, if_neg oM, if_pos hf, Int.mul_assoc]
theorem first3 {r : Rul} (hf : r.freq = 3) (k : Int) : pFirst (fullR r) k = r.start / 86400 + k * r.interval := by
 obtain ⟨e1, e2, e3, e4, _⟩ := fullR_same r
 unfold pFirst
 rw [e1, e2, e3, if_neg oM, if_neg oM, if_neg oM, if_pos hf]
theorem over2 {r : Rul} (hf : 2 ≤ r.freq) (k : Int) : pOver (fullR r) k ↔ 3652059 ≤ pFirst (fullR r) k := by
 obtain ⟨e1, e2, _⟩ := fullR_same r
 unfold pOver
 rw [e2]
 constructor
 ·rintro (⟨h, _⟩ | ⟨h, _⟩ | h)
  ·omega
  ·omega
  ·exact h
 ·exact fun h => .inr (.inr h)
theorem fits23 {r : Rul} {wF : Int → List Int} {nF : Int → Int → List Int} {eF : Int → List Int} (rp : RightP r) (hf : r.freq = 2 ∨ r.freq = 3) (hw : ∀ y m, nF y m = []) : Fits (ruOf (optOf r) wF nF eF) (fullR r) (dayIn2 (fullR r)) (R23 r) where
 over := fun k _ h => over_mono2 (by rw [(fullR_same r).2.1]; omega) (by rw [(fullR_same r).2.2.1]; exact rp.t1.interval.1) k h
 same := fun k s s' h hs => ⟨by rw [hs.ts]; exact h.1, by rw [hs.y, hs.mo, hs.d]; exact h.2.1, by rw [hs.wd, hs.y, hs.mo, hs.d]; exact h.2.2⟩
 pos := fun k s h0 hR hi ho => by
  obtain ⟨hts, hday, hwd⟩ := hR
  obtain ⟨e1, e2, e3, e4, e5, e6, _⟩ := fullR_same r
  obtain ⟨_, _, _, f4, f5, f6⟩ := full_eq r
  obtain ⟨p1, p2, p3⟩ := right_parts rp
  have hst := rp.t1.start
  have hwk := rp.t1.wkst
  have hfr : (ruOf (optOf r) wF nF eF).freq = r.freq := rfl
  have hsp : (ruOf (optOf r) wF nF eF).setpos = r.setpos := rfl
  have hts2 : s.ts = tsOf (fullR r).hour (fullR r).minute (fullR r).second := by rw [hts, tset_eq (show r.freq < 4 by omega), f4, f5, f6]
  have P1 : PartOk (fullR r).hour 24 := by rw [f4]; exact p1 oM
  have P2 : PartOk (fullR r).minute 60 := by rw [f5]; exact p2 oM
  have P3 : PartOk (fullR r).second 60 := by rw [f6]; exact p3 oM
  have hSI : SI s.ts := by rw [hts2]; exact tsOf_SI P1 P2 P3
  have hnw : s.nwm = [] := by rw [hi.nwm]; exact hw _ _
  obtain ⟨d1, d2, d3, _⟩ := yday_eq hi.mo ⟨hi.d.1, hi.day (by rw [hfr]; omega)⟩
  have db := yday_bd hi.mo ⟨hi.d.1, hi.day (by rw [hfr]; omega)⟩
  have ds := Cal.split_spec (Cal.dayNo s.y s.mo s.d)
  have dl := dayNo_lt hi.y hi.mo ⟨hi.d.1, hi.day (by rw [hfr]; omega)⟩
  rw [d2] at ds
  have hlp := Cal.lp_01 s.ly
  have hly := hi.ly
  have hlpe : Cal.lp s.ly = Cal.lp s.y := by rw [hly]
  have hdy : Cal.daysTo s.ly = Cal.daysTo s.y := by rw [hly]
  have hout := out_flat (r := ruOf (optOf r) wF nF eF) hSI hi.ts (inRF_nz rp.t3.h9)
  rw [hout, hsp, e6]
  have main : ∀ (first : Int) (sh m : Nat), (pMany (fullR r) k).toNat = sh + m → first = pFirst (fullR r) k → (span (ruOf (optOf r) wF nF eF) s).2 - (span (ruOf (optOf r) wF nF eF) s).1 = m → Cal.dayNo s.y s.mo s.d = first + sh → (span (ruOf (optOf r) wF nF eF) s).1 = Cal.ydayOf (Cal.dayNo s.y s.mo s.d) → m ≤ 7 → (0 < sh → r.setpos.length = 0 ∧ (first + sh) * 86400 ≤ r.start) →
    ∃ L1 L2, posF (pDays (fullR r) (dayIn2 (fullR r)) k) r.setpos = L1 ++ L2 ∧ (∀ t ∈ L1, t < (ruOf (optOf r) wF nF eF).d0) ∧ emits (ruOf (optOf r) wF nF eF) s (posF (flatD (ruOf (optOf r) wF nF eF) s) r.setpos) = emits (ruOf (optOf r) wF nF eF) s L2 := by
   intro first sh m h1 h2 h3 h4 h5 h6 h7
   obtain ⟨L1, g1, g2, g3⟩ := flat_days (q := fullR r) (dayF := dayIn2 (fullR r)) (first := first) (sh := sh) h3 (by rw [h5, hly]; omega) oM (fun j hj => bad2 rp oM hnw oM oM) hts2 P1 P2 P3
   have hp : pDays (fullR r) (dayIn2 (fullR r)) k = L1 ++ flatD (ruOf (optOf r) wF nF eF) s := by
    unfold pDays
    rw [if_neg (by rw [e2]; omega), h1, ← h2]; exact g1
   rw [hp]
   rcases Nat.eq_zero_or_pos sh with hz | hz
   ·exact ⟨[], _, by rw [g3 hz]; rfl, fun t ht => by simp at ht, rfl⟩
   ·obtain ⟨k1, k2⟩ := h7 hz
    rw [posF_nil _ k1, posF_nil _ k1]
    exact ⟨L1, _, rfl, fun t ht => by have := g2 t ht; show t < r.start; omega, rfl⟩
  have hyw : ywd s.ly = Cal.daysTo s.ly % 7 := rfl
  rcases hf with hf | hf
  ·have hpm : pMany (fullR r) k = 7 := by unfold pMany; rw [e2, if_neg oM, if_neg oM, if_pos hf]
   have hsn : span (ruOf (optOf r) wF nF eF) s = (Cal.ydayOf (Cal.dayNo s.y s.mo s.d), Cal.ydayOf (Cal.dayNo s.y s.mo s.d) + 1 + (r.wkst - ywd s.ly - Cal.ydayOf (Cal.dayNo s.y s.mo s.d) - 1) % 7) := by
    unfold span
    rw [hfr, if_neg oM, if_neg oM]
    simp only
    rw [if_pos hf]; rfl
   have hF := first2 hf k
   have hD : Cal.dayNo s.y s.mo s.d = if k = 0 then r.start / 86400 else pFirst (fullR r) k := by
    rw [hday]
    by_cases hk : k = 0
    ·rw [if_pos ⟨hf, hk⟩, if_pos hk]
    ·rw [if_neg (fun h => hk h.2), if_neg hk]
   refine main (pFirst (fullR r) k) ((Cal.dayNo s.y s.mo s.d - r.wkst) % 7).toNat (7 - (Cal.dayNo s.y s.mo s.d - r.wkst) % 7).toNat oM rfl (by rw [hsn]; simp only; omega) ?_ (by rw [hsn]) oM (fun hpos => ?_)
   ·by_cases hk : k = 0
    ·rw [if_pos hk] at hD
     rw [hF, hk]; omega
    ·rw [if_neg hk] at hD
     rw [hD, hF]; omega
   ·by_cases hk : k = 0
    ·rw [if_pos hk] at hD
     refine ⟨?_, by rw [hF, hk]; omega⟩
     rcases Nat.eq_zero_or_pos r.setpos.length with h | h
     ·exact h
     ·have := rp.t7 hf h; omega
    ·rw [if_neg hk] at hD
     rw [hD, hF] at hpos; omega
  ·have hpm : pMany (fullR r) k = 1 := by unfold pMany; rw [e2, if_neg oM, if_neg oM, if_neg oM]
   have hsn : span (ruOf (optOf r) wF nF eF) s = (Cal.ydayOf (Cal.dayNo s.y s.mo s.d), Cal.ydayOf (Cal.dayNo s.y s.mo s.d) + 1) := by
    unfold span
    rw [hfr, if_neg oM, if_neg oM]
    simp only
    rw [if_neg oM]
   rw [if_neg oM] at hday
   exact main (pFirst (fullR r) k) 0 1 oM rfl (by rw [hsn]; simp only; omega) oM (by rw [hsn]) oM (fun h => by omega)
 adv := fun k s h0 hR hi ho hfin => by
  obtain ⟨hts, hday, hwd⟩ := hR
  have hiv := rp.t1.interval
  have hwk := rp.t1.wkst
  have hd := hi.d
  have ek : (k + 1) * r.interval = k * r.interval + r.interval := by rw [Int.add_mul]; omega
  refine ⟨k + 1, by omega, fun j h1 h2 => by omega, ?_⟩
  have main : ∀ s2 : It, adv (ruOf (optOf r) wF nF eF) (filtered (ruOf (optOf r) wF nF eF) s) s = fix (ruOf (optOf r) wF nF eF) s2 → s2.ts = s.ts → s2.y = s.y → s2.mo = s.mo → s2.ly = s.ly → Msk (ruOf (optOf r) wF nF eF) s2 → s2.fin = s.fin → 1 ≤ s2.d → Cal.dayNo s.y s.mo s.d + (s2.d - s.d) = pFirst (fullR r) (k + 1) → (r.freq = 2 → s2.wd = pFirst (fullR r) (k + 1) % 7) →
    ((adv (ruOf (optOf r) wF nF eF) (filtered (ruOf (optOf r) wF nF eF) s) s).fin = false → R23 r (k + 1) (adv (ruOf (optOf r) wF nF eF) (filtered (ruOf (optOf r) wF nF eF) s) s) ∧ ¬pOver (fullR r) (k + 1)) ∧ ((adv (ruOf (optOf r) wF nF eF) (filtered (ruOf (optOf r) wF nF eF) s) s).fin = true → pOver (fullR r) (k + 1)) := by
   intro s2 ea b1 b2 b3 b4 b5 b6 b7 b8 b9
   rw [ea]
   have hmo := hi.mo
   have hy := hi.y
   obtain ⟨c1, c2⟩ := fix_day (r := ruOf (optOf r) wF nF eF) (s := s2) b7 oM oM (by rw [b6]; exact hfin)
   have hrest := fix_rest (r := ruOf (optOf r) wF nF eF) s2
   have hdn : Cal.dayNo s2.y s2.mo s2.d = pFirst (fullR r) (k + 1) := by
    rw [b2, b3, ← b8, dayNo_in hmo, dayNo_in hmo]; omega
   rw [hdn] at c1 c2
   refine ⟨fun h => ?_, fun h => (over2 oM _).2 (c2 h)⟩
   have c3 := c1 h
   obtain ⟨g1, g2, g3, _⟩ := fix_ok (r := ruOf (optOf r) wF nF eF) (s := s2) b7 oM oM (by rw [b4, b2]; exact hi.ly) b5 h
   have gl := dayNo_lt g3 g2 g1
   rw [c3] at gl
   refine ⟨⟨by rw [hrest.ts, b1]; exact hts, by rw [c3, if_neg oM], fun h2 => by rw [hrest.wd, c3]; exact b9 h2⟩, fun hov => ?_⟩
   have := (over2 (r := r) oM _).1 hov
   omega
  unfold adv at main ⊢
  have hfr : (ruOf (optOf r) wF nF eF).freq = r.freq := rfl
  have hwr : (ruOf (optOf r) wF nF eF).wkst = r.wkst := rfl
  have hir : (ruOf (optOf r) wF nF eF).interval = r.interval := rfl
  rcases hf with hf | hf
  ·have hf0 : ¬ (ruOf (optOf r) wF nF eF).freq = 0 := by omega
   have hf1 : ¬ (ruOf (optOf r) wF nF eF).freq = 1 := by omega
   have hf2 : (ruOf (optOf r) wF nF eF).freq = 2 := by omega
   have hF := first2 hf (k + 1)
   have hF0 := first2 hf k
   have hwd := hwd hf
   have hb : Cal.dayNo s.y s.mo s.d + (-((Cal.dayNo s.y s.mo s.d - r.wkst) % 7) + r.interval * 7) = pFirst (fullR r) (k + 1) := by
    rw [hF, hday]
    by_cases hk : k = 0
    ·rw [if_pos ⟨hf, hk⟩, hk]; omega
    ·rw [if_neg (fun h => hk h.2), hF0, ek]; omega
   rw [if_neg hf0, if_neg hf1, if_pos hf2] at main ⊢
   refine main _ rfl rfl rfl rfl rfl ⟨hi.wno, hi.nwm, hi.eas⟩ rfl ?_ ?_ (fun _ => ?_)
   ·simp only; split <;> omega
   ·simp only
    rw [← hb]
    split <;> omega
   ·show r.wkst = _
    omega
  ·have hf0 : ¬ (ruOf (optOf r) wF nF eF).freq = 0 := by omega
   have hf1 : ¬ (ruOf (optOf r) wF nF eF).freq = 1 := by omega
   have hf2 : ¬ (ruOf (optOf r) wF nF eF).freq = 2 := by omega
   have hf3 : (ruOf (optOf r) wF nF eF).freq = 3 := by omega
   rw [if_neg hf0, if_neg hf1, if_neg hf2, if_pos hf3] at main ⊢
   refine main _ rfl rfl rfl rfl rfl ⟨hi.wno, hi.nwm, hi.eas⟩ rfl ?_ ?_ (fun h => by omega)
   ·simp only; omega
   ·simp only
    rw [hday, if_neg oM, first3 hf, first3 hf, ek]; omega
theorem SI_len {b : Int} : ∀ {l : List Int} {a : Int}, SI l → (∀ x ∈ l, a ≤ x ∧ x < b) → a ≤ b → (l.length : Int) ≤ b - a
 | [], a, _, _, h => by simp only [List.length_nil]; omega
 | x :: l, a, h, hb, hab => by
  obtain ⟨h1, h2⟩ := List.pairwise_cons.1 h
  have hx := hb x (List.mem_cons_self ..)
  have := SI_len (a := x + 1) (b := b) h2 (fun y hy => ⟨by have := h1 y hy; omega, (hb y (List.mem_cons_of_mem _ hy)).2⟩) oM
  simp only [List.length_cons]; omega
theorem dates_len {q : Rul} {dayF : Int → Bool} {en most : Int} {k : Int} {o l : List Int} (h : DatesP q dayF en most k o l) : (o.length : Int) ≤ most → (l.length : Int) ≤ most := by
 induction h with
 | over _ => exact id
 | stop h hs => intro hm; unfold addF; exact addGo_len _ _ _ _ _ _ hm
 | more h hs hn ih => intro hm; exact ih (by unfold addF; exact addGo_len _ _ _ _ _ _ hm)
theorem it0_ok {r : Rul} {wF : Int → List Int} {nF : Int → Int → List Int} {eF : Int → List Int} (rp : RightP r) (ht : (tset (optOf r)).length ≤ 100000 ∧ ∀ t ∈ tset (optOf r), 0 ≤ t ∧ t < 86400) : ItOk (ruOf (optOf r) wF nF eF) (it0 (optOf r) (ruOf (optOf r) wF nF eF)) := by
 have hst := rp.t1.start
 have hd9 : Cal.daysTo 9000 = 3286817 := by decide
 have hs : 0 ≤ r.start / 86400 ∧ r.start / 86400 < 3286817 := by omega
 obtain ⟨s1, s2, s3⟩ := Cal.split_spec (r.start / 86400)
 obtain ⟨j, hj, c1, c2⟩ := Cal.mon_ex s2 s3
 obtain ⟨_, _, m1, m2⟩ := Cal.date_unique hj c1 c2
 have hc : Cal.cum (Cal.yearOf (r.start / 86400)) (j + 1) = Cal.cum (Cal.yearOf (r.start / 86400)) j + Cal.mdays ((j : Int) + 1) (Cal.yearOf (r.start / 86400)) := rfl
 rw [s1] at m1 m2
 have hy : 1 ≤ Cal.yearOf (r.start / 86400) ∧ Cal.yearOf (r.start / 86400) ≤ 9999 := by
  constructor
  ·rcases Int.lt_or_le (Cal.yearOf (r.start / 86400)) 1 with h | h
   ·have := Cal.daysTo_succ (Cal.yearOf (r.start / 86400))
    have := Cal.daysTo_mono (a := Cal.yearOf (r.start / 86400) + 1) (b := 1) oM
    have h1 : Cal.daysTo 1 = 0 := by decide
    omega
   ·exact h
  ·rcases Int.lt_or_le 9999 (Cal.yearOf (r.start / 86400)) with h | h
   ·have := Cal.daysTo_mono (a := 10000) (b := Cal.yearOf (r.start / 86400)) oM
    have h1 : Cal.daysTo 10000 = 3652059 := by decide
    omega
   ·exact h
 have hmb := Cal.month_bd (r.start / 86400)
 exact {
  y := hy
  ly := rfl
  mo := ⟨hmb.1, hmb.2.1⟩
  d := ⟨hmb.2.2.1, hmb.2.2.2⟩
  day := fun _ => by show Cal.mdayOf (r.start / 86400) ≤ Cal.mdays (Cal.monthOf (r.start / 86400)) (Cal.yearOf (r.start / 86400)); rw [m1, m2]; omega
  wd := by show 0 ≤ ((r.start / 86400 + 1) % 7 + 6) % 7 ∧ ((r.start / 86400 + 1) % 7 + 6) % 7 ≤ 6; omega
  hr := by show 0 ≤ r.start % 86400 / 3600 ∧ r.start % 86400 / 3600 ≤ 23; omega
  mn := by show 0 ≤ r.start % 86400 / 60 % 60 ∧ r.start % 86400 / 60 % 60 ≤ 59; omega
  sec := by show 0 ≤ r.start % 86400 % 60 ∧ r.start % 86400 % 60 ≤ 59; omega
  ts := ht.2
  tsn := ht.1
  total := ⟨Int.le_refl _, by show (0 : Int) ≤ 1000000000000 + ((0 : Nat) : Int); omega⟩
  count := by have := rp.t1.count; show 0 ≤ r.count ∧ r.count ≤ _; omega
  wno := rfl
  nwm := rfl
  eas := rfl
  lm := fun _ => rfl }
theorem tset_bd {r : Rul} (rp : RightP r) (hf : r.freq < 4) : (tset (optOf r)).length ≤ 100000 ∧ ∀ t ∈ tset (optOf r), 0 ≤ t ∧ t < 86400 := by
 obtain ⟨p1, p2, p3⟩ := right_parts rp
 rw [tset_eq (show (optOf r).freq < 4 from hf)]
 have hb : ∀ t ∈ tsOf (hour' (optOf r)) (minute' (optOf r)) (second' (optOf r)), 0 ≤ t ∧ t < 86400 := fun t ht => by
  have := (mem_tsOf (p1 hf) (p2 oM) (p3 oM)).1 ht
  exact ⟨this.1, this.2.1⟩
 have := SI_len (tsOf_SI (p1 hf) (p2 oM) (p3 oM)) hb oM
 exact ⟨by omega, hb⟩
theorem last_eq {r : Rul} (rp : RightP r) (wF : Int → List Int) (nF : Int → Int → List Int) (eF : Int → List Int) : (ruOf (optOf r) wF nF eF).u0 = lastF r := by
 show until0 (optOf r) = _
 unfold until0 lastF
 obtain ⟨h1, h2⟩ := rp.t2
 by_cases hu : r.hasUntil = true
 ·have e : (optOf r).u = r.untl := by unfold optOf; simp only; rw [if_pos hu]
  have := (h2 hu).2.1
  rw [if_pos hu, if_neg (by rw [e]; omega), e]
 ·have e : (optOf r).u = 0 := by unfold optOf; simp only; rw [if_neg hu]
  rw [if_neg hu, if_pos e]; rfl
theorem tells_ref {r : Rul} {wF : Int → List Int} {nF : Int → Int → List Int} {eF : Int → List Int} {dayF : Int → Bool} {R : Int → It → Prop} (rp : RightP r) (fits : Fits (ruOf (optOf r) wF nF eF) (fullR r) dayF R) (hpres : Pres (ruOf (optOf r) wF nF eF))
  (hi : ItOk (ruOf (optOf r) wF nF eF) (it0 (optOf r) (ruOf (optOf r) wF nF eF))) (hR : R 0 (it0 (optOf r) (ruOf (optOf r) wF nF eF))) (ho : ¬pOver (fullR r) 0) {most : Nat} (hm : most ≤ 1000000) {l : List Int} (h : RefP r dayF most l) : ∃ N, Tells (ruOf (optOf r) wF nF eF) N (it0 (optOf r) (ruOf (optOf r) wF nF eF)) most l := by
 obtain ⟨e1, e2, e3, e4, e5, e6, _⟩ := fullR_same r
 unfold RefP at h
 rcases Nat.eq_zero_or_pos most with h0 | h0
 ·subst h0
  have := dates_len h (by simp)
  have hl : l = [] := List.eq_nil_of_length_eq_zero oM
  subst hl
  exact ⟨0, .zero⟩
 ·have hcnt := rp.t1.count
  obtain ⟨N, l', h1, h2⟩ := tells_dates fits hpres (by rw [e5]; exact hcnt.1) (by rw [e1]; rfl) (last_eq rp wF nF eF) oM h (Int.le_refl _) 0 _ (Int.le_refl _) (fun j h1 h2 => by omega) hR ho hi rfl rfl rfl (by simp only [List.length_nil]; omega) ⟨fun h => by rw [e5] at h; exact h, fun h => by rw [e5] at h ⊢; exact ⟨by show r.count = r.count - ((0 : Nat) : Int); omega, by simp only [List.length_nil]; omega⟩⟩
  rw [List.nil_append] at h1
  subst h1
  rw [show ((most : Int) - (([] : List Int).length : Int)).toNat = most by simp] at h2
  exact ⟨N, h2⟩
end Go.Proofs.YtdbbifbmkfmbkaaGreat
namespace Go.Proofs.YtdbbifbmkfmbkaaGreat
open Go.RowKit Go.Fr Go.Tab
section
variable {F : Nat → Prop} {w0 : World} {B : List (Nat × Nat)} {H : List (Nat × Value)} {S : List (Nat × Slc)}
open Go.Md Go.ChangeShapes Go.WideShapes Go.Deep
theorem field_at {H : Type} {enc : TypeId × Value → H} {P : Program} {w : World} {base : Nat} {sp : Nat → Bool} {hd : Bool} {t : TypeId} {fs : Array Field} {fuel : Nat} {cs : List Value} {x : DataW H × List MemPlace} (ht : P.underlying t = some (.struct fs)) (h : DataW.trod enc P w base sp hd fuel t cs = some x) :
  ∃ n, cs.length = P.cellsOf t ∧ ∀ (i : Nat) (f : Field) (c : Value), fs[i]? = some f → P.cellsOf f.type = 1 → cs[f.offset]? = some c → ∃ y, DataW.trod enc P w base sp hd n f.type [c] = some y := by
 obtain ⟨xs, n, _, _, hl, hx, hf⟩ := DataW.trod_struct ht h
 refine ⟨n, hl, fun i f c h1 h2 h3 => ?_⟩
 have hi := (Array.getElem?_eq_some_iff.1 h1).1
 have h4 := hf i f h1
 obtain ⟨ho, rfl⟩ := List.getElem?_eq_some_iff.1 h3
 rw [h2, List.drop_eq_getElem_cons ho, List.take_succ_cons, List.take_zero] at h4
 exact ⟨_, h4.trans (List.getElem?_eq_getElem oM)⟩
theorem spot_none {w : World} {a : Addr} {v : Value} (h : w.cell? a = some v) : a.spot = none := by
 unfold World.cell? at h
 cases hs : a.spot with
 | none => rfl
 | some s =>
  rw [hs] at h
  split at h
  ·simp at h
  ·cases h
def intOf : Value → Int
 | .int _ n => n
 | _ => 0
theorem open_ints {H : Type} {enc : TypeId × Value → H} {P : Program} {w : World} {sp : Nat → Bool} {hd : Bool} {t e : TypeId} {fuel : Nat} {c : Value} {x : DataW H × List MemPlace} (ht : P.underlying t = some (.slice e)) (he : P.underlying e = some (.int .i64)) (hc : P.cellsOf e = 1) (h : DataW.trod enc P w 0 sp hd fuel t [c] = some x) :
  ∃ (p : Option Addr) (k : Nat) (xs : List Int), c = .slice p xs.length k ∧ xs.length ≤ k ∧ xs.length ≤ maxLen ∧ Ints w (.slice p xs.length k) xs := by
 rcases open_slice1 ht hc h with ⟨h1, _⟩ | ⟨a, len, cap, m, n, V, D, Pl, h1, _, h2, h3, hm, _, h4⟩
 ·injection h1 with h1 _
  exact ⟨none, 0, [], h1, Nat.le_refl _, Nat.zero_le _, Ints.nil⟩
 ·injection h1 with h1 _
  have hlm : len ≤ m := by rw [hm]; split <;> omega
  have hv : ∀ i, i < len → w.cell? (a.add i) = some (iV (intOf (V i))) := fun i hi => by
   obtain ⟨g1, g2⟩ := h4 i oM
   obtain ⟨k, g3, _, _⟩ := DataW.trod_int he g2
   injection g3 with g3 _
   rw [g1, g3]; rfl
  have hl : ((List.range len).map fun i => intOf (V i)).length = len := by simp
  refine ⟨some a, cap, (List.range len).map fun i => intOf (V i), by rw [hl]; exact h1, by rw [hl]; exact h2, by rw [hl]; omega, some a, cap, rfl, fun i y hy => ?_⟩
  have hi := (List.getElem?_eq_some_iff.1 hy).1
  rw [hl] at hi
  have hy2 : intOf (V i) = y := by
   rw [List.getElem?_map, List.getElem?_range hi] at hy
   exact Option.some.inj hy
  have hcell := hv i hi
  rw [hy2] at hcell
  have hsp : a.spot = none := spot_none (hv 0 oM)
  obtain ⟨ab, ao, sq⟩ := a
  cases sq with
  | none => exact ⟨ab, ao, rfl, by rw [add_plain] at hcell; exact hcell⟩
  | some s => cases hsp
theorem open_prs {H : Type} {enc : TypeId × Value → H} {P : Program} {w : World} {sp : Nat → Bool} {hd : Bool} {t e : TypeId} {f0 f1 : Field} {fuel : Nat} {c : Value} {x : DataW H × List MemPlace} (ht : P.underlying t = some (.slice e)) (he : P.underlying e = some (.struct #[f0, f1])) (ce : P.cellsOf e = 2) (o0 : f0.offset = 0) (o1 : f1.offset = 1) (c0 : P.cellsOf f0.type = 1) (c1 : P.cellsOf f1.type = 1)
  (i0 : P.underlying f0.type = some (.int .i64)) (i1 : P.underlying f1.type = some (.int .i64)) (h : DataW.trod enc P w 0 sp hd fuel t [c] = some x) :
  ∃ (p : Option Addr) (k : Nat) (xs : List (Int × Int)), c = .slice p xs.length k ∧ xs.length ≤ k ∧ xs.length ≤ maxLen ∧ Prs w (.slice p xs.length k) xs := by
 rcases open_slice_pairs ht he ce o0 o1 c0 c1 h with ⟨h1, _⟩ | ⟨a, len, cap, m, n, V0, V1, D0, D1, P0, P1, h1, _, h2, h3, hm, _, h4⟩
 ·injection h1 with h1 _
  exact ⟨none, 0, [], h1, Nat.le_refl _, Nat.zero_le _, none, 0, rfl, fun i x h => by simp at h⟩
 ·injection h1 with h1 _
  have hlm : len ≤ m := by rw [hm]; split <;> omega
  have hv : ∀ i, i < len → w.cell? (a.add (i * 2)) = some (iV (intOf (V0 i))) ∧ w.cell? (a.add (i * 2 + 1)) = some (iV (intOf (V1 i))) := fun i hi => by
   obtain ⟨g1, g2, g3, g4⟩ := h4 i oM
   obtain ⟨k, q1, _, _⟩ := DataW.trod_int i0 g3
   obtain ⟨k', q2, _, _⟩ := DataW.trod_int i1 g4
   injection q1 with q1 _
   injection q2 with q2 _
   rw [g1, g2, q1, q2]; exact ⟨rfl, rfl⟩
  have hl : ((List.range len).map fun i => (intOf (V0 i), intOf (V1 i))).length = len := by simp
  refine ⟨some a, cap, (List.range len).map fun i => (intOf (V0 i), intOf (V1 i)), by rw [hl]; exact h1, by rw [hl]; exact h2, by rw [hl]; omega, some a, cap, rfl, fun i y hy => ?_⟩
  have hi := (List.getElem?_eq_some_iff.1 hy).1
  rw [hl] at hi
  have hy2 : (intOf (V0 i), intOf (V1 i)) = y := by
   rw [List.getElem?_map, List.getElem?_range hi] at hy
   exact Option.some.inj hy
  obtain ⟨g1, g2⟩ := hv i hi
  subst hy2
  have hsp : a.spot = none := by have := spot_none (hv 0 oM).1; rwa [Nat.zero_mul] at this
  obtain ⟨ab, ao, sq⟩ := a
  cases sq with
  | none => exact ⟨ab, ao, rfl, by rw [add_plain] at g1; rw [Nat.mul_comm]; exact g1, by rw [add_plain] at g2; rw [Nat.mul_comm]; exact g2⟩
  | some s => cases hsp
theorem wf64 {n : Int} (h : (Lit.int .i64 n).wf = true) : -9223372036854775808 ≤ n ∧ n ≤ 9223372036854775807 := by
 simp only [Lit.wf, Bool.and_eq_true, decide_eq_true_eq] at h
 have h1 : IntKind.i64.min = -9223372036854775808 := by decide
 have h2 : IntKind.i64.max = 9223372036854775807 := by decide
 omega
theorem wf8 {n : Int} (h : (Lit.int .u8 n).wf = true) : 0 ≤ n ∧ n ≤ 255 := by
 simp only [Lit.wf, Bool.and_eq_true, decide_eq_true_eq] at h
 have h1 : IntKind.u8.min = 0 := by decide
 have h2 : IntKind.u8.max = 255 := by decide
 omega
structure RIn (W : World) (r : Rul) (x : Av) : Prop where
 freq : 0 ≤ r.freq ∧ r.freq ≤ 255
 start : -9223372036854775808 ≤ r.start ∧ r.start ≤ 9223372036854775807
 interval : -9223372036854775808 ≤ r.interval ∧ r.interval ≤ 9223372036854775807
 wkst : -9223372036854775808 ≤ r.wkst ∧ r.wkst ≤ 9223372036854775807
 count : -9223372036854775808 ≤ r.count ∧ r.count ≤ 9223372036854775807
 untl : -9223372036854775808 ≤ r.untl ∧ r.untl ≤ 9223372036854775807
 inl : InL W r x
 big : r.setpos.length ≤ x.c9 ∧ r.setpos.length ≤ maxLen ∧ r.month.length ≤ x.c10 ∧ r.month.length ≤ maxLen ∧ r.mday.length ≤ x.c11 ∧ r.mday.length ≤ maxLen ∧ r.yday.length ≤ x.c12 ∧ r.yday.length ≤ maxLen ∧ r.weekno.length ≤ x.c13 ∧ r.weekno.length ≤ maxLen ∧ r.wday.length ≤ x.c14 ∧ r.wday.length ≤ maxLen ∧ r.hour.length ≤ x.c15 ∧ r.hour.length ≤ maxLen ∧ r.minute.length ≤ x.c16 ∧ r.minute.length ≤ maxLen ∧ r.second.length ≤ x.c17 ∧ r.second.length ≤ maxLen ∧ r.easter.length ≤ x.c18 ∧ r.easter.length ≤ maxLen
theorem open_rule {H : Type} {enc : TypeId × Value → H} {W : World} {base : Nat} {sp : Nat → Bool} {hd : Bool} {v : Value} {d : DataW H} {ps : List MemPlace} (hval : Value.okWide Go.Proofs.Tryz.prog W .any base 27 v) (h : DataW.Trod enc Go.Proofs.Tryz.prog W 0 sp hd 27 v d ps) : ∃ (r : Rul) (x : Av), v = .agg (rulC r x).toArray ∧ RIn W r x := by
 obtain ⟨cs, rfl, _⟩ := okWide_struct Tryz.underlying27 hval
 obtain ⟨l, rfl⟩ : ∃ l : List Value, cs = l.toArray := ⟨cs.toList, by simp⟩
 obtain ⟨fuel, h⟩ := h
 have h : DataW.trod enc Go.Proofs.Tryz.prog W 0 sp hd fuel 27 l = some (d, ps) := h
 obtain ⟨n, hl, hf⟩ := field_at Tryz.underlying27 h
 have hl : l.length = 18 := hl.trans kR
 match l, hl with
 | [k0, k1, k2, k3, k4, k5, k6, k7, k8, k9, k10, k11, k12, k13, k14, k15, k16, k17], _ =>
  obtain ⟨y0, t0⟩ := hf 0 _ k0 rfl kR rfl
  obtain ⟨v0, e0, _, w0⟩ := DataW.trod_int Tryz.underlying5 t0
  injection e0 with e0 _
  subst e0
  obtain ⟨y1, t1⟩ := hf 1 _ k1 rfl kR rfl
  obtain ⟨v1, e1, _⟩ := DataW.trod_bool Tryz.underlying4 t1
  injection e1 with e1 _
  subst e1
  obtain ⟨y2, t2⟩ := hf 2 _ k2 rfl kR rfl
  obtain ⟨v2, e2, _, w2⟩ := DataW.trod_int Tryz.underlying2 t2
  injection e2 with e2 _
  subst e2
  obtain ⟨y3, t3⟩ := hf 3 _ k3 rfl kR rfl
  obtain ⟨v3, e3, _, w3⟩ := DataW.trod_int Tryz.underlying3 t3
  injection e3 with e3 _
  subst e3
  obtain ⟨y4, t4⟩ := hf 4 _ k4 rfl kR rfl
  obtain ⟨v4, e4, _, w4⟩ := DataW.trod_int Tryz.underlying3 t4
  injection e4 with e4 _
  subst e4
  obtain ⟨y5, t5⟩ := hf 5 _ k5 rfl kR rfl
  obtain ⟨v5, e5, _, w5⟩ := DataW.trod_int Tryz.underlying3 t5
  injection e5 with e5 _
  subst e5
  obtain ⟨y6, t6⟩ := hf 6 _ k6 rfl kR rfl
  obtain ⟨v6, e6, _⟩ := DataW.trod_bool Tryz.underlying4 t6
  injection e6 with e6 _
  subst e6
  obtain ⟨y7, t7⟩ := hf 7 _ k7 rfl kR rfl
  obtain ⟨v7, e7, _, w7⟩ := DataW.trod_int Tryz.underlying2 t7
  injection e7 with e7 _
  subst e7
  obtain ⟨y8, t8⟩ := hf 8 _ k8 rfl kR rfl
  obtain ⟨p8, c8, v8, rfl, a8, b8, i8⟩ := open_ints Tryz.underlying24 Tryz.underlying3 kR t8
  obtain ⟨y9, t9⟩ := hf 9 _ k9 rfl kR rfl
  obtain ⟨p9, c9, v9, rfl, a9, b9, i9⟩ := open_ints Tryz.underlying24 Tryz.underlying3 kR t9
  obtain ⟨y10, t10⟩ := hf 10 _ k10 rfl kR rfl
  obtain ⟨p10, c10, v10, rfl, a10, b10, i10⟩ := open_ints Tryz.underlying24 Tryz.underlying3 kR t10
  obtain ⟨y11, t11⟩ := hf 11 _ k11 rfl kR rfl
  obtain ⟨p11, c11, v11, rfl, a11, b11, i11⟩ := open_ints Tryz.underlying24 Tryz.underlying3 kR t11
  obtain ⟨y12, t12⟩ := hf 12 _ k12 rfl kR rfl
  obtain ⟨p12, c12, v12, rfl, a12, b12, i12⟩ := open_ints Tryz.underlying24 Tryz.underlying3 kR t12
  obtain ⟨y13, t13⟩ := hf 13 _ k13 rfl kR rfl
  obtain ⟨p13, c13, v13, rfl, a13, b13, i13⟩ := open_prs Tryz.underlying25 Tryz.underlying47 kR rfl rfl kR kR Tryz.underlying3 Tryz.underlying3 t13
  obtain ⟨y14, t14⟩ := hf 14 _ k14 rfl kR rfl
  obtain ⟨p14, c14, v14, rfl, a14, b14, i14⟩ := open_ints Tryz.underlying24 Tryz.underlying3 kR t14
  obtain ⟨y15, t15⟩ := hf 15 _ k15 rfl kR rfl
  obtain ⟨p15, c15, v15, rfl, a15, b15, i15⟩ := open_ints Tryz.underlying24 Tryz.underlying3 kR t15
  obtain ⟨y16, t16⟩ := hf 16 _ k16 rfl kR rfl
  obtain ⟨p16, c16, v16, rfl, a16, b16, i16⟩ := open_ints Tryz.underlying24 Tryz.underlying3 kR t16
  obtain ⟨y17, t17⟩ := hf 17 _ k17 rfl kR rfl
  obtain ⟨p17, c17, v17, rfl, a17, b17, i17⟩ := open_ints Tryz.underlying24 Tryz.underlying3 kR t17
  refine ⟨⟨v0, v1, v2, v3, v4, v5, v6, v7, v8, v9, v10, v11, v12, v13, v14, v15, v16, v17⟩, ⟨p8, p9, p10, p11, p12, p13, p14, p15, p16, p17, c8, c9, c10, c11, c12, c13, c14, c15, c16, c17, none, none, none, none, none, none, none, none, none, none, none, 0, 0, 0, 0, 0, 0, 0, 0, 0, 0, 0⟩, rfl, ?_⟩
  exact ⟨wf8 w0, wf64 w2, wf64 w3, wf64 w4, wf64 w5, wf64 w7, ⟨i8, i9, i10, i11, i12, i13, i14, i15, i16, i17⟩, ⟨a8, b8, a9, b9, a10, b10, a11, b11, a12, b12, a13, b13, a14, b14, a15, b15, a16, b16, a17, b17⟩⟩
theorem CapL.of {r : Rul} {x : Av} {W : World} (h : RIn W r x) : CapL r x := by
 obtain ⟨a1, _, a2, _, a3, _, a4, _, a5, _, a6, _, a7, _, a8, _, a9, _, a10, _⟩ := h.big
 exact ⟨a1, a2, a3, a4, a5, a6, a7, a8, a9, a10⟩
end
end Go.Proofs.YtdbbifbmkfmbkaaGreat
namespace Go.Proofs.YtdbbifbmkfmbkaaGreat
open Go.RowKit Go.Fr Go.Tab
section
variable {F : Nat → Prop} {w0 : World} {B : List (Nat × Nat)} {H : List (Nat × Value)} {S : List (Nat × Slc)}
open Go.Md
theorem adv_plain {r : Ru} (hr : RuOk r) (hf : r.freq = 0 ∨ r.freq = 2 ∨ r.freq = 3) (hw : r.weekno.length = 0) (hd : r.nwd.length = 0) (he : r.easter.length = 0) : AdvW r := by
 intro F w0 B H S S0 H0 l it rb s a Q flt st s0 hk hsm hfin hn hq
 have h1 := hk.y
 have h2 := hk.mo
 have h3 := hk.d
 have h4 := hk.wd
 have h5 := hk.ly
 have h6 := hsm.y
 have h7 := hsm.mo
 have h8 := hsm.d
 have h9 := hsm.wd
 have h10 := hsm.ly
 have m1 : s.wno = r.wnoF s.ly := by rw [hsm.wno, hsm.ly]; exact hk.wno
 have m2 : s.nwm = r.nwmF s.ly s.lm := by rw [hsm.nwm, hsm.ly, hsm.lm]; exact hk.nwm
 have m3 : s.eas = r.easF s.ly := by rw [hsm.eas, hsm.ly]; exact hk.eas
 rcases hf with hf | hf | hf
 ·exact adv_yearly st hr hw hd he m1 m2 m3 oM oM oM oM oM hfin hf hn hq
 ·exact adv_weekly st hr hw hd he m1 m2 m3 oM oM oM oM oM hfin hf hn hq
 ·exact adv_daily st hr hw hd he m1 m2 m3 oM oM oM oM oM hfin hf hn hq
end
end Go.Proofs.YtdbbifbmkfmbkaaGreat
namespace Go.Proofs.YtdbbifbmkfmbkaaGreat
open Go.Md Go.Tab Go.Fr
abbrev wO : Int → List Int := fun _ => []
abbrev nO : Int → Int → List Int := fun _ _ => []
theorem wday_len {r : Rul} (rp : RightP r) : r.wday.length ≤ 100 := by
 rcases Nat.lt_or_ge 100 r.wday.length with h | h
 ·have := (rp.t6 100 _ (List.getElem?_eq_getElem h)).2.2.2.2
  omega
 ·exact h
theorem okR_of {r : Rul} {l : List Int} {b : Int} {m : Bool} {a : Int} (h : inRF l a b m = true) (ha : 0 ≤ a) : ∀ y ∈ l, (a ≤ y ∧ y ≤ b) ∨ (m = true ∧ -b ≤ y ∧ y ≤ -a) := fun y hy => by
 have := (inRF_nd h).2.1 y hy
 unfold okR at this
 split at this
 ·rename_i hm
  rw [Bool.and_eq_true, Bool.and_eq_true] at this
  have h1 := of_decide_eq_true this.1
  have h2 := of_decide_eq_true this.2.1
  exact .inr ⟨hm.1, h1, by omega⟩
 ·rw [Bool.and_eq_true] at this
  exact .inl ⟨of_decide_eq_true this.1, of_decide_eq_true this.2⟩
theorem right_op {r : Rul} (rp : RightP r) : OpOk (optOf r) where
 freq := rp.t1.freq
 d := by
  have := rp.t1.start
  have h9 : Cal.daysTo 9000 = 3286817 := by decide
  show 1 ≤ r.start ∧ r.start ≤ _; omega
 interval := rp.t1.interval
 count := by have := rp.t1.count; show 0 ≤ r.count ∧ r.count ≤ _; omega
 u := by
  obtain ⟨h1, h2⟩ := rp.t2
  have h9 : Cal.daysTo 10000 = 3652059 := by decide
  show 0 ≤ (if r.hasUntil = true then r.untl else 0) ∧ (if r.hasUntil = true then r.untl else 0) ≤ _
  split
  ·rename_i h
   have := (h2 h).2; omega
  ·omega
 mday := by have := (inRF_nd rp.t3.h11).2.2; show r.mday.length ≤ _; omega
 wday := by have := wday_len rp; show r.wday.length ≤ _; omega
 hour := by have := (inRF_nd rp.t3.h15).2.2; show r.hour.length ≤ _; omega
 minute := by have := (inRF_nd rp.t3.h16).2.2; show r.minute.length ≤ _; omega
 second := by have := (inRF_nd rp.t3.h17).2.2; show r.second.length ≤ _; omega
 hours := fun x h => by rcases okR_of (r := r) rp.t3.h15 oM x h with h | ⟨h, _⟩; exact h; cases h
 minutes := fun x h => by rcases okR_of (r := r) rp.t3.h16 oM x h with h | ⟨h, _⟩; exact h; cases h
 seconds := fun x h => by rcases okR_of (r := r) rp.t3.h17 oM x h with h | ⟨h, _⟩; exact h; cases h
theorem right_vk {r : Rul} (rp : RightP r) : VbOk (optOf r) where
 nums := fun i hi y hy => by
  have e : i = 0 ∨ i = 1 ∨ i = 2 ∨ i = 3 ∨ i = 4 ∨ i = 5 ∨ i = 6 ∨ i = 7 := by omega
  unfold inB
  rcases e with rfl | rfl | rfl | rfl | rfl | rfl | rfl | rfl
  ·exact okR_of (r := r) rp.t3.h17 oM y hy
  ·exact okR_of (r := r) rp.t3.h16 oM y hy
  ·exact okR_of (r := r) rp.t3.h15 oM y hy
  ·exact okR_of (r := r) rp.t3.h11 oM y hy
  ·exact okR_of (r := r) rp.t3.h12 oM y hy
  ·rcases okR_of (r := r) rp.t3.h13 oM y hy with h | ⟨h1, h⟩
   ·left; show 1 ≤ y ∧ y ≤ 53; omega
   ·right; exact ⟨h1, by show -53 ≤ y ∧ y ≤ -1; omega⟩
  ·exact okR_of (r := r) rp.t3.h10 oM y hy
  ·exact okR_of (r := r) rp.t3.h9 oM y hy
 days := fun y hy => by
  obtain ⟨i, hi, rfl⟩ := List.mem_iff_getElem.1 hy
  have := (rp.t6 i _ (List.getElem?_eq_getElem hi)).2.2.1
  have h5 : mostD r ≤ 53 := by
   unfold mostD most1
   split
   ·omega
   ·split
    ·omega
    ·split <;> omega
  exact ⟨Int.le_trans oM this.1, Int.le_trans this.2 h5⟩
 interval := by have := rp.t1.interval; show 0 ≤ r.interval; omega
 lens := fun i hi => by
  have e : i = 0 ∨ i = 1 ∨ i = 2 ∨ i = 3 ∨ i = 4 ∨ i = 5 ∨ i = 6 ∨ i = 7 := by omega
  have := (inRF_nd rp.t3.h9).2.2
  have := (inRF_nd rp.t3.h10).2.2
  have := (inRF_nd rp.t3.h11).2.2
  have := (inRF_nd rp.t3.h12).2.2
  have := (inRF_nd rp.t3.h13).2.2
  have := (inRF_nd rp.t3.h15).2.2
  have := (inRF_nd rp.t3.h16).2.2
  have := (inRF_nd rp.t3.h17).2.2
  rcases e with rfl | rfl | rfl | rfl | rfl | rfl | rfl | rfl
  ·show r.second.length ≤ _; omega
  ·show r.minute.length ≤ _; omega
  ·show r.hour.length ≤ _; omega
  ·show r.mday.length ≤ _; omega
  ·show r.yday.length ≤ _; omega
  ·show r.weekno.length ≤ _; omega
  ·show r.month.length ≤ _; omega
  ·show r.setpos.length ≤ _; omega
 wlen := by have := wday_len rp; show r.wday.length ≤ _; omega
theorem right_rk {r : Rul} (rp : RightP r) : RulOk r := ⟨by have := rp.t1.freq; omega, rp.t1.hs, by have := wday_len rp; omega⟩
theorem easter_len {r : Rul} (rp : RightP r) : r.easter.length ≤ 281 := by
 have h1 : (sortI r.easter).length = r.easter.length := by unfold sortI; exact List.length_mergeSort _
 have hnd : r.easter.Nodup := by
  unfold List.Nodup
  rw [List.pairwise_iff_getElem]
  intro i j hi hj hij e
  have := (rp.t4 j _ (List.getElem?_eq_getElem hj)).2.2.2
  rw [List.any_eq_false] at this
  refine this r.easter[i] ?_ (beq_iff_eq.2 e)
  rw [List.mem_take_iff_getElem]
  exact ⟨i, by omega, rfl⟩
 have h2 := SI_len (a := -80) (b := 201) (sortI_SI hnd) (fun x hx => by
  obtain ⟨i, hi, rfl⟩ := List.mem_iff_getElem.1 (mem_sortI.1 hx)
  have := rp.t4 i _ (List.getElem?_eq_getElem hi)
  have h3 := this.1
  have h4 := this.2.1
  omega) oM
 omega
theorem parts_len {r : Rul} (rp : RightP r) : (month' (optOf r)).length ≤ 100 ∧ (mday' (optOf r)).length ≤ 100 ∧ (wday' (optOf r)).length ≤ 100 ∧ (hour' (optOf r)).length ≤ 100 ∧ (minute' (optOf r)).length ≤ 100 ∧ (second' (optOf r)).length ≤ 100 := by
 refine ⟨?_, ?_, ?_, ?_, ?_, ?_⟩
 ·unfold month'; split
  ·simp
  ·exact (inRF_nd rp.t3.h10).2.2
 ·unfold mday'; split
  ·simp
  ·exact (inRF_nd rp.t3.h11).2.2
 ·unfold wday'; split
  ·simp
  ·exact wday_len rp
 ·unfold hour'; split
  ·split <;> simp
  ·exact (inRF_nd rp.t3.h15).2.2
 ·unfold minute'; split
  ·split <;> simp
  ·exact (inRF_nd rp.t3.h16).2.2
 ·unfold second'; split
  ·split <;> simp
  ·exact (inRF_nd rp.t3.h17).2.2
theorem right_len {r : Rul} (rp : RightP r) (wF : Int → List Int) (nF : Int → Int → List Int) (eF : Int → List Int) : RuLen (ruOf (optOf r) wF nF eF) := by
 obtain ⟨h1, h2, h3, h4, h5, h6⟩ := parts_len rp
 have := (inRF_nd rp.t3.h9).2.2
 have := (inRF_nd rp.t3.h12).2.2
 have := (inRF_nd rp.t3.h13).2.2
 have := easter_len rp
 exact {
  l46 := by show r.setpos.length ≤ _; omega
  l47 := by show (month' (optOf r)).length ≤ _; omega
  l48 := Nat.le_trans (List.length_filter_le _ _) oM
  l49 := Nat.le_trans (List.length_filter_le _ _) oM
  l50 := by show r.yday.length ≤ _; omega
  l51 := by show r.weekno.length ≤ _; omega
  l52 := by show (List.map _ _).length ≤ _; rw [List.length_map]; exact Nat.le_trans (List.length_filter_le _ _) oM
  l54 := by show (hour' (optOf r)).length ≤ _; omega
  l55 := by show (minute' (optOf r)).length ≤ _; omega
  l56 := by show (second' (optOf r)).length ≤ _; omega
  l57 := by show r.easter.length ≤ _; omega }
theorem nwd_two {o : Opn} (hf : 2 ≤ o.freq) (wF : Int → List Int) (nF : Int → Int → List Int) (eF : Int → List Int) : (ruOf o wF nF eF).nwd.length = 0 := by
 show ((wday' o).filter fun x => !plainW o.freq x).length = 0
 rw [List.filter_eq_nil_iff.2 fun x _ => by unfold plainW; rw [decide_eq_true oM]; simp]; rfl
theorem right_ru2 {r : Rul} (rp : RightP r) (hf : 2 ≤ r.freq) : RuOk (ruOf (optOf r) wO nO wO) := by
 obtain ⟨hy, hw, he⟩ := right_two rp hf
 have hnw : (ruOf (optOf r) wO nO wO).nwd.length = 0 := nwd_two hf wO nO wO
 exact {
  freq := rp.t1.freq
  interval := rp.t1.interval
  wkst := rp.t1.wkst
  until0 := fun ⟨h1, h2⟩ => by
   have h1 : until0 (optOf r) = 0 := h1
   have h2 : until1 (optOf r) = 0 := h2
   unfold until0 at h1
   unfold until1 at h2
   split at h2
   ·cases h2
   ·rename_i h; rw [if_neg h] at h1; exact h h1
  until1 := by show 0 ≤ until1 (optOf r); unfold until1; split <;> decide
  hour := mem_hour' (right_op rp)
  minute := mem_minute' (right_op rp)
  second := mem_second' (right_op rp)
  wnoF := fun h => absurd hw h
  nwmF := fun h => absurd hnw h
  easF := fun h => absurd he h
  wnoF0 := fun _ _ => rfl
  nwmF0 := fun _ _ _ => rfl
  easF0 := fun _ _ => rfl
  nwd := fun _ => hnw }
theorem setpos_ok {r : Rul} (rp : RightP r) : r.setpos.length ≤ 1000 ∧ ∀ q ∈ r.setpos, -1000 ≤ q ∧ q ≤ 1000 :=
 ⟨by have := (inRF_nd rp.t3.h9).2.2; omega, fun q hq => by rcases okR_of (r := r) rp.t3.h9 oM q hq with h | ⟨_, h⟩ <;> omega⟩
theorem raw_len {r : Rul} (rp : RightP r) : (raw (optOf r)).length ≤ 1000000000 := by
 obtain ⟨_, _, _, h4, h5, h6⟩ := parts_len rp
 have key : ∀ (l : List Int) (f : Int → List Int) (m : Nat), (∀ x, (f x).length ≤ m) → (l.flatMap f).length ≤ l.length * m := by
  intro l f m hf
  induction l with
  | nil => simp
  | cons x l ih => rw [List.flatMap_cons, List.length_append, List.length_cons, Nat.succ_mul]; have := hf x; omega
 unfold raw
 refine Nat.le_trans (key _ _ 10000 fun h => Nat.le_trans (key _ _ 100 fun m => by rw [List.length_map]; exact h6) oM) oM
theorem it0_wd {r : Rul} : (it0 (optOf r) (ruOf (optOf r) wO nO wO)).wd = r.start / 86400 % 7 := by
 show ((r.start / 86400 + 1) % 7 + 6) % 7 = _; omega
theorem it0_day {o : Opn} {q : Ru} : Cal.dayNo (it0 o q).y (it0 o q).mo (it0 o q).d = o.d / 86400 := dayNo_date _
theorem r23_0 {r : Rul} (hf : r.freq = 2 ∨ r.freq = 3) : R23 r 0 (it0 (optOf r) (ruOf (optOf r) wO nO wO)) := by
 refine ⟨rfl, ?_, fun _ => by rw [it0_day, it0_wd]; rfl⟩
 rw [it0_day]
 show r.start / 86400 = _
 rcases hf with hf | hf
 ·rw [if_pos ⟨hf, rfl⟩]
 ·rw [if_neg oM, first3 hf]; omega
theorem over_0 {r : Rul} (rp : RightP r) (hf : r.freq = 2 ∨ r.freq = 3) : ¬pOver (fullR r) 0 := fun h => by
 have h := (over2 oM _).1 h
 have hs := rp.t1.start
 have h9 : Cal.daysTo 9000 = 3286817 := by decide
 rcases hf with hf | hf
 ·rw [first2 hf] at h; omega
 ·rw [first3 hf] at h; omega
def FirstOk (r : Rul) (dayF : Int → Bool) : Prop := ∀ (most : Nat), most ≤ 1000000 → ∀ l, RefP r dayF most l → ∀ (x : Av) (w : World), InL w r x → Calls Go.Proofs.Tryz.prog 18 #[.agg (rulC r x).toArray, iV most] w fun e w' => ∃ p c, e = .returned (.tuple #[.slice p l.length c, .bool true]) ∧ NewRow w w' (.slice p l.length c) 2 1 l.length (l.map iV)
theorem first_ref23 {r : Rul} (rp : RightP r) (hf : r.freq = 2 ∨ r.freq = 3) : FirstOk r (dayIn2 (fullR r)) := by
 intro most hm l h x w hin
 have hr := right_ru2 rp oM
 obtain ⟨hy, hw, he⟩ := right_two rp oM
 have hnw : (ruOf (optOf r) wO nO wO).nwd.length = 0 := nwd_two (by show 2 ≤ r.freq; omega) wO nO wO
 have hpres : Pres (ruOf (optOf r) wO nO wO) := pres_plain hr (.inr hf)
 obtain ⟨N, hT⟩ := tells_ref rp (fits23 rp hf fun _ _ => rfl) hpres (it0_ok rp (tset_bd rp oM)) (r23_0 hf) (over_0 rp hf) hm h
 have hs := rp.t1.start
 have h9 : Cal.daysTo 9000 = 3286817 := by decide
 exact first_calls (right_op rp) (by show r.freq < 4; omega) hw hnw he (fun _ => rfl) (fun _ _ => rfl) (fun _ => rfl) (right_len rp wO nO wO) (right_rk rp) (right_vk rp) (by show r.start < _; omega) (fun F w0 => sort_all (raw_len rp) F w0) hr
  ⟨(setpos_ok rp).1, (setpos_ok rp).2, adv_plain hr (.inr hf) hw hnw he⟩ hpres hm hT w hin
end Go.Proofs.YtdbbifbmkfmbkaaGreat
namespace Go.Proofs.YtdbbifbmkfmbkaaGreat
open Go.Md Go.Tab Go.Fr
theorem dates_more {q : Rul} {dayF : Int → Bool} {en most k : Int} {o o' l D : List Int} (h : ¬pOver q k) (hd : pDays q dayF k = D) (e : addF q q.start en most o D = (o', true)) (hn : DatesP q dayF en most (k + 1) o' l) : DatesP q dayF en most k o l := by
 subst hd
 exact .more h (by rw [e]) (by rw [e]; exact hn)
theorem dates_stop {q : Rul} {dayF : Int → Bool} {en most k : Int} {o o' D : List Int} (h : ¬pOver q k) (hd : pDays q dayF k = D) (e : addF q q.start en most o D = (o', false)) : DatesP q dayF en most k o o' := by
 subst hd
 have := DatesP.stop (dayF := dayF) h (by rw [e])
 rwa [e] at this
def bareR (st c : Int) : Rul := ⟨3, true, st, 1, 0, c, false, 0, [], [], [], [], [], [], [], [], [], []⟩
theorem bareR_right {st c : Int} (hs : 1 ≤ st ∧ st < 86400 * 3000000) (hc : 0 ≤ c ∧ c ≤ 100) : RightP (bareR st c) where
 t1 := ⟨(show (0 : Int) ≤ 3 ∧ (3 : Int) ≤ 6 by decide), rfl, ⟨hs.1, (show st < Cal.daysTo 9000 * 86400 from by rw [show Cal.daysTo 9000 = 3286817 by decide]; omega)⟩, (show (1 : Int) ≤ 1 ∧ (1 : Int) ≤ 1000 by decide), (show (0 : Int) ≤ 0 ∧ (0 : Int) ≤ 6 by decide), ⟨hc.1, by show c ≤ _; omega⟩⟩
 t2 := ⟨fun _ => rfl, fun h => by cases h⟩
 t3 := ⟨rfl, rfl, rfl, rfl, rfl, rfl, rfl, rfl⟩
 t4 := fun i y h => by simp [bareR] at h
 t5 := ⟨fun _ => ⟨rfl, rfl⟩, fun _ => rfl⟩
 t6 := fun i y h => by simp [bareR] at h
 t7 := fun h => by cases h
 t8 := fun h => absurd h (by show ¬ (4 : Int) ≤ 3; decide)
 t9 := .inl rfl
theorem bareR_days {st c : Int} (hs : 1 ≤ st ∧ st < 86400 * 3000000) (hc : 0 ≤ c ∧ c ≤ 100) (k : Int) (hk : 0 ≤ k) : pDays (fullR (bareR st c)) (dayIn2 (fullR (bareR st c))) k = [st + k * 86400] := by
 obtain ⟨e1, e2, e3, e4, e5, e6, _⟩ := fullR_same (bareR st c)
 obtain ⟨g1, g2, g3, g4, g5, g6⟩ := full_eq (bareR st c)
 have g4 : (fullR (bareR st c)).hour = [st % 86400 / 3600] := g4
 have g5 : (fullR (bareR st c)).minute = [st % 86400 / 60 % 60] := g5
 have g6 : (fullR (bareR st c)).second = [st % 86400 % 60] := g6
 have hF := first3 (r := bareR st c) rfl k
 have hF : pFirst (fullR (bareR st c)) k = st / 86400 + k := hF.trans (by show st / 86400 + k * 1 = _; omega)
 have hm : pMany (fullR (bareR st c)) k = 1 := by unfold pMany; rw [e2]; rfl
 have hday : ∀ d, dayIn2 (fullR (bareR st c)) d = true := fun d => by
  unfold dayIn2
  rw [g1, g2, g3]
  rfl
 unfold pDays
 rw [if_neg (by rw [e2]; show ¬ (4 : Int) ≤ 3; decide), hm, hF]
 show dayOut _ _ _ ++ [] = _
 rw [List.append_nil]
 unfold dayOut
 rw [if_pos ⟨by simp only [Int.natCast_zero]; omega, hday _⟩, g4, g5, g6, clock_day (PartOk.one oM) (PartOk.one oM) (PartOk.one oM)]
 have hts : tsOf [st % 86400 / 3600] [st % 86400 / 60 % 60] [st % 86400 % 60] = [st % 86400] := by
  refine SI.ext (tsOf_SI (PartOk.one oM) (PartOk.one oM) (PartOk.one oM)) (by simp [SI]) fun t => ?_
  rw [mem_tsOf (PartOk.one oM) (PartOk.one oM) (PartOk.one oM)]
  simp only [List.mem_singleton]
  omega
 rw [hts]
 simp only [List.map_cons, List.map_nil, List.cons.injEq, and_true, Int.natCast_zero]
 omega
theorem bareR_over {st c : Int} (hs : 1 ≤ st ∧ st < 86400 * 3000000) (k : Int) (hk : 0 ≤ k ∧ k ≤ 100) : ¬pOver (fullR (bareR st c)) k := fun h => by
 have h := (over2 (r := bareR st c) (show (2 : Int) ≤ 3 by decide) k).1 h
 have hF := first3 (r := bareR st c) rfl k
 have hF : pFirst (fullR (bareR st c)) k = st / 86400 + k := hF.trans (by show st / 86400 + k * 1 = _; omega)
 omega
theorem bareR_add {st c most : Int} {o : List Int} {t : Int} (ht : st ≤ t ∧ t ≤ st + 9223372036) (h1 : (o.length : Int) + 1 ≤ most) (h2 : c = 0 ∨ (o.length : Int) + 1 ≤ c) (hc : 0 ≤ c) : addF (fullR (bareR st c)) (fullR (bareR st c)).start (lastF (bareR st c)) most o [t] = (o ++ [t], decide ((o.length : Int) + 1 < most) && (c == 0 || decide ((o.length : Int) + 1 < c))) := by
 obtain ⟨e1, e2, e3, e4, e5, e6, _⟩ := fullR_same (bareR st c)
 unfold addF
 rw [e5, e6, e1]
 have hp : posF [t] (bareR st c).setpos = [t] := posF_nil _ rfl
 have hl : lastF (bareR st c) = st + 9223372036 := rfl
 rw [hp, hl]
 have : addGo (bareR st c).count (bareR st c).start (st + 9223372036) most o [t] = (o ++ [t], true) := by
  rw [addGo_cons, if_neg (by show ¬ t < st; omega), if_neg]
  ·rfl
  ·show ¬ (_ ∨ (0 < c ∧ _ = c) ∨ _)
   omega
 rw [this]
 simp only [Bool.true_and]
 unfold addOk
 rw [List.length_append, List.length_singleton]
 rfl
theorem ref3 {st c most : Int} (hs : 1 ≤ st ∧ st < 86400 * 3000000) (hc : (c = 0 ∧ most = 3) ∨ (c = 3 ∧ 3 ≤ most)) : RefP (bareR st c) (dayIn2 (fullR (bareR st c))) most [st, st + 86400, st + 172800] := by
 have hcb : 0 ≤ c ∧ c ≤ 100 := by omega
 unfold RefP
 refine dates_more (o' := [st]) (bareR_over hs 0 oM) (bareR_days hs hcb 0 oM) ?_ (dates_more (o' := [st, st + 86400]) (bareR_over hs 1 oM) (bareR_days hs hcb 1 oM) ?_ (dates_stop (bareR_over hs 2 oM) (bareR_days hs hcb 2 oM) ?_))
 ·rw [bareR_add oM (by simp; omega) (by simp; omega) hcb.1]
  rcases hc with ⟨rfl, rfl⟩ | ⟨rfl, h⟩ <;> simp <;> omega
 ·rw [bareR_add oM (by simp; omega) (by simp; omega) hcb.1]
  rcases hc with ⟨rfl, rfl⟩ | ⟨rfl, h⟩ <;> simp <;> omega
 ·rw [bareR_add oM (by simp; omega) (by simp; omega) hcb.1]
  rcases hc with ⟨rfl, rfl⟩ | ⟨rfl, h⟩ <;> simp
end Go.Proofs.YtdbbifbmkfmbkaaGreat
namespace Go.Proofs.YtdbbifbmkfmbkaaGreat
open Go.RowKit Go.Fr Go.Tab
section
variable {F : Nat → Prop} {w0 : World} {B : List (Nat × Nat)} {H : List (Nat × Value)} {S : List (Nat × Slc)}
open Go.Md
def xO : Av := ⟨none, none, none, none, none, none, none, none, none, none, 0, 0, 0, 0, 0, 0, 0, 0, 0, 0, none, none, none, none, none, none, none, none, none, none, none, 0, 0, 0, 0, 0, 0, 0, 0, 0, 0, 0⟩
theorem bareR_in (st c : Int) (w : World) : InL w (bareR st c) xO := ⟨Ints.nil, Ints.nil, Ints.nil, Ints.nil, Ints.nil, ⟨none, 0, rfl, fun i x h => by simp [bareR] at h⟩, Ints.nil, Ints.nil, Ints.nil, Ints.nil⟩
theorem InL.day {w : World} {r : Rul} {x : Av} {p : Option Addr} {c : Nat} (h : InL w r x) (hp : Prs w (.slice p r.wday.length c) r.wday) : InL w r { x with p14 := p, c14 := c } := ⟨h.i9, h.i10, h.i11, h.i12, h.i13, hp, h.i15, h.i16, h.i17, h.i18⟩
theorem noUntil_len {r : Rul} (hl : LenL r) : LenL (noUntil r) := ⟨hl.l9, hl.l10, hl.l11, hl.l12, hl.l13, hl.l14, hl.l15, hl.l16, hl.l17, hl.l18⟩
theorem sawake_calls (w : World) : Calls Go.Proofs.Tryz.prog 17 #[] w fun e w' => e = .returned (.bool true) ∧ Below w.heap.size w w' := by
 have href : RefP (bareR 63000000000 3) (dayIn2 (fullR (bareR 63000000000 3))) 9 ([63000000000, 63000086400, 63000172800] : List Int) := ref3 dE (.inr dE)
 refine calls_GC (args := []) (L := []) (N := 14) Tryz.func17 rfl rfl ble rfl (Sees.start (fun _ => False) w) ?_
 refine g7 ?_
 refine rl (rd_build (vs := [(0, .int .u8 3), (1, .bool true), (2, iV 63000000000), (3, iV 1), (5, iV 3)]) (v := .agg (rulC (bareR 63000000000 3) xO).toArray) rfl (fun w => by kernel_rfl)) ?_
 refine gL (crx (ι := Option Addr × Nat) 10 (fun y => .tuple #[.slice y.1 3 y.2, .bool true]) (fun _ => True) (fun y => ⟨.slice y.1 3 y.2, 2, 1, 3, (([63000000000, 63000086400, 63000172800] : List Int).map iV)⟩) rfl (fun w_ s_ => (first_ref23 (bareR_right dE dE) (.inr rfl) 9 dE ([63000000000, 63000086400, 63000172800] : List Int) href xO w_ (bareR_in _ _ w_)).mono fun e w' ⟨p, c, h1, h2⟩ => ⟨(p, c), trivial, h1, h2⟩) (fun | (pr, cr), _ => ?_))
 refine g14 ?_
 refine gL (at_row 11 (e := 2) (sz := 1) (n := 3) (vs := [(0, iV 63000000000), (1, iV 63000086400), (2, iV 63000172800)]) (cs := [iV 63000000000, iV 63000086400, iV 63000172800]) dE rfl (fun w => by kernel_rfl) rfl dE dE rfl (fun b1_ hbb1_ => ?_))
 refine g1 ?_
 refine gL (cvo (v := .bool true) rfl (fun w_ s_ => equal_calls _ _ _ _ ([63000000000, 63000086400, 63000172800] : List Int) dE w_ (s_.ints 10 (xs := ([63000000000, 63000086400, 63000172800] : List Int)) rfl) (s_.ints 11 (xs := ([63000000000, 63000086400, 63000172800] : List Int)) rfl)) ?_)
 refine g5 ?_
 exact GE_ret1 (.inl rfl) rfl (res_tmp rfl) fun w_ s_ => ⟨rfl, s_.toBelow⟩
theorem same_calls (r : Rul) (x : Av) (hfb : 0 ≤ r.freq) (hl : LenL r) (hcap : CapL r x) (fq a : Int) (ha : 0 ≤ a ∧ a < 256) {dayF dayU : Int → Bool} (hdu : RightP r → r.freq = fq → DayOk (fullR (noUntil r)) dayU) (hd : RightP r → r.freq = fq → DayOk (fullR r) dayF) (hfirst0 : RightP r → r.freq = fq → FirstOk r dayF) (w : World) (hin : InL w r x) : Calls Go.Proofs.Tryz.prog 21 #[.agg (rulC r x).toArray, .int .u8 fq, .int .u8 a] w fun e w' => e = .returned (.bool true) ∧ Below w.heap.size w w' := by
 obtain ⟨m, hm⟩ : ∃ m : Nat, a % 41 = (m : Int) := ⟨(a % 41).toNat, by omega⟩
 refine calls_GC (args := [.agg (rulC r x).toArray, .int .u8 fq, .int .u8 a]) (L := [(0, .agg (rulC r x).toArray), (1, .int .u8 fq), (2, .int .u8 a)]) (N := 56) Tryz.func21 rfl rfl ble rfl (Sees.start (fun _ => False) w) ?_
 refine g2 ?_
 refine gL (at_box 50 (cs := rulC r x) dE rfl rfl rfl (fun o ho => rfl) ble (fun b1 hb1 => ?_))
 refine g7 ?_
 refine rl ((rd_rem_ rfl rfl oM oM).to (v' := iV (m : Int)) (congrArg (Value.int .i64) hm)) ?_
 refine g6 ?_
 refine rl (rfa 0) ?_
 refine rl (rld 50 rfl rfl rfl) ?_
 refine g1 ?_
 rcases Decidable.em (r.freq ≠ fq) with hfn | hfn
 ·refine rl ((rd_neq rfl rfl).to (v' := .bool true) (congrArg Value.bool (n_ne oM))) ?_
  refine g13 ?_
  refine GC_is_true rfl rfl ?_
  refine g2 ?_
  refine gL (cvo rfl (fun w_ s_ => sawake_calls w_) ?_)
  refine g5 ?_
  exact GE_ret1 (.inl rfl) rfl (res_tmp rfl) fun w_ s_ => ⟨rfl, s_.toBelow⟩
 ·have hfq : r.freq = fq := by omega
  have hdu := fun h => hdu h hfq
  have hfirst := fun h => hfirst0 h hfq
  refine rl ((rd_neq rfl rfl).to (v' := .bool false) (congrArg Value.bool (n_eq oM))) ?_
  refine g2 ?_
  refine rl ((rd_loadN 50 (cs := rulC r x) rfl rfl (put_get (rulC r x) 0 ble) ble kR)) ?_
  refine g1 ?_
  refine gL (cbx (fun b : Bool => .bool b) (fun b => b = true → RightP r) rfl (fun w_ s_ => right_calls r x hfb hl hcap w_ (InL.see s_ hin)) (fun rb hrp => ?_))
  refine g1 ?_
  rcases Bool.eq_false_or_eq_true ((!rb)) with hrb | hrb
  ·refine rl ((rd_not rfl).to (v' := .bool true) (congrArg Value.bool hrb)) ?_
   refine g9 ?_
   refine GC_is_true rfl rfl ?_
   refine g2 ?_
   refine gL (cvo rfl (fun w_ s_ => sawake_calls w_) ?_)
   refine g5 ?_
   exact GE_ret1 (.inl rfl) rfl (res_tmp rfl) fun w_ s_ => ⟨rfl, s_.toBelow⟩
  ·have hR : RightP r := hrp (by simpa using hrb)
   refine rl ((rd_not rfl).to (v' := .bool false) (congrArg Value.bool hrb)) ?_
   refine g3 ?_
   refine rl ((rd_loadN 50 (cs := rulC r x) rfl rfl (put_get (rulC r x) 0 ble) ble kR)) ?_
   refine g3 ?_
   refine gL (cbx (fun b : Bool => .bool b) (fun b => b = true → ∃ l, RefP (noUntil r) dayU ((m : Int) + 1) l ∧ ((l.length : Int) = (m : Int) + 1 ∨ (0 < r.count ∧ (l.length : Int) = r.count))) rfl (fun w_ s_ => reach_calls r x dayU (m : Int) hR hl (fullR_len (noUntil_len hl)) oM (hdu hR) w_ (InL.see s_ hin)) (fun sb hsp => ?_))
   refine g1 ?_
   rcases Bool.eq_false_or_eq_true ((!sb)) with hsb | hsb
   ·refine rl ((rd_not rfl).to (v' := .bool true) (congrArg Value.bool hsb)) ?_
    refine g3 ?_
    refine GC_is_true rfl rfl ?_
    refine g2 ?_
    refine gL (cvo rfl (fun w_ s_ => sawake_calls w_) ?_)
    refine g5 ?_
    exact GE_ret1 (.inl rfl) rfl (res_tmp rfl) fun w_ s_ => ⟨rfl, s_.toBelow⟩
   ·refine rl ((rd_not rfl).to (v' := .bool false) (congrArg Value.bool hsb)) ?_
    refine g3 ?_
    refine GC_is_false rfl rfl ?_
    refine g4 ?_
    refine rl ((rd_loadN 50 (cs := rulC r x) rfl rfl (put_get (rulC r x) 0 ble) ble kR)) ?_
    refine g1 ?_
    refine gL (crx (ι := Bool × List Int × Option Addr × Nat) 10 (fun y => .tuple #[.slice y.2.2.1 y.2.1.length y.2.2.2, .bool y.1]) (fun y => y.1 = true → RefP r dayF (m : Int) y.2.1) (fun y => ⟨.slice y.2.2.1 y.2.1.length y.2.2.2, 2, 1, y.2.1.length, (y.2.1.map iV)⟩) rfl (fun w_ s_ => (dates_calls r (fullR r) x dayF (m : Int) 3000 rfl hR.t1.start hR.t1.freq hR.t1.interval hR.t1.wkst hl (fullR_len hl) oM dE (hd hR hfq) w_ (InL.see s_ hin) (InL.bk (InL.see s_ hin))).mono fun e w' ⟨b, l, p, c, h1, h2, h3⟩ => ⟨(b, l, p, c), h1, h2, h3⟩) (fun | (b_, l, pw, cw), hy => ?_))
    refine g14 ?_
    refine GC_cond rfl (fun hc1 => ?_) (fun hc2 => ?_)
    ·refine g2 ?_
     refine gL (cvo rfl (fun w_ s_ => sawake_calls w_) ?_)
     refine g5 ?_
     exact GE_ret1 (.inl rfl) rfl (res_tmp rfl) fun w_ s_ => ⟨rfl, s_.toBelow⟩
    ·have hb_ : b_ = true := by simpa using hc2
     subst hb_
     have href := hy rfl
     refine g4 ?_
     refine rl ((rd_loadN 50 (cs := rulC r x) rfl rfl (put_get (rulC r x) 0 ble) ble kR)) ?_
     refine gL (crx (ι := Option Addr × Nat) 12 (fun y => .agg (rulC r { x with p14 := y.1, c14 := y.2 }).toArray) (fun _ => True) (fun y => ⟨.slice y.1 r.wday.length y.2, 69, 2, r.wday.length, pcells r.wday⟩) rfl (fun w_ s_ => (toRule_calls r x (by have := wday_len hR; omega) w_ (InL.see s_ hin)).mono fun e w' ⟨p, c, h1, h2⟩ => ⟨(p, c), trivial, h1, h2⟩) (fun | (pd, cd), _ => ?_))
     refine g1 ?_
     refine gL (crx (ι := Option Addr × Nat) 11 (fun y => .tuple #[.slice y.1 (l).length y.2, .bool true]) (fun _ => True) (fun y => ⟨.slice y.1 (l).length y.2, 2, 1, (l).length, ((l).map iV)⟩) rfl (fun w_ s_ => (hfirst hR m oM l href { x with p14 := pd, c14 := cd } w_ (InL.day (InL.see s_ hin) (prs_row (ps := r.wday) s_ 12 rfl))).mono fun e w' ⟨p, c, h1, h2⟩ => ⟨(p, c), trivial, h1, h2⟩) (fun | (pf, cf), _ => ?_))
     refine g16 ?_
     refine gL (cvo (v := .bool true) rfl (fun w_ s_ => equal_calls _ _ _ _ l (by have h_ : (l.length : Int) ≤ m := dates_len href (by simp); omega) w_ (s_.ints 11 (xs := l) rfl) (s_.ints 10 (xs := l) rfl)) ?_)
     refine g3 ?_
     refine gL (cvo rfl (fun w_ s_ => sawake_calls w_) ?_)
     refine g5 ?_
     exact GE_ret1 (.inl rfl) rfl (res_tmp rfl) fun w_ s_ => ⟨rfl, s_.toBelow⟩
theorem daily_walk (r : Rul) (x : Av) (a : Int) (ha : 0 ≤ a ∧ a < 256) (w : World) (hr : RIn w r x) : Calls Go.Proofs.Tryz.prog 4 #[.agg (rulC r x).toArray, .int .u8 a] w fun e w' => e = .returned (.bool true) ∧ Below w.heap.size w w' := by
 refine calls_GC (args := [.agg (rulC r x).toArray, .int .u8 a]) (L := [(0, .agg (rulC r x).toArray), (1, .int .u8 a)]) (N := 11) Tryz.func4 rfl rfl ble rfl (Sees.start (fun _ => False) w) ?_
 refine g2 ?_
 refine gL (at_box 50 (cs := rulC r x) dE rfl rfl rfl (fun o ho => rfl) ble (fun b1 hb1 => ?_))
 refine g6 ?_
 refine rl ((rd_loadN 50 (cs := rulC r x) rfl rfl (put_get (rulC r x) 0 ble) ble kR)) ?_
 refine gL (cbx (fun b : Bool => .bool b) (fun b => b = true → LenL r) rfl (fun w_ s_ => fits1_calls r x w_) (fun zb hzb => ?_))
 refine g3 ?_
 refine GC_cond rfl (fun hc1 => ?_) (fun hc2 => ?_)
 ·refine g7 ?_
  exact GE_ret1 (.inl rfl) rfl (res_tmp rfl) fun w_ s_ => ⟨rfl, s_.toBelow⟩
 ·have hl : LenL r := hzb (by simpa using hc2)
  refine g4 ?_
  refine rl ((rd_loadN 50 (cs := rulC r x) rfl rfl (put_get (rulC r x) 0 ble) ble kR)) ?_
  refine g1 ?_
  refine gL (cvo (v := .bool true) rfl (fun w_ s_ => same_calls r x hr.freq.1 hl (CapL.of hr) 3 a ha (dayF := dayIn2 (fullR r)) (dayU := dayIn2 (fullR (noUntil r))) (fun rp hq => dayOk2 (r := noUntil r) ⟨by show 2 ≤ r.freq; omega, rp.t1.freq.2⟩ (show r.yday.length = 0 ∧ r.weekno.length = 0 ∧ r.easter.length = 0 from right_two rp oM) (noUntil_len hl)) (fun rp hq => dayOk2 ⟨by omega, rp.t1.freq.2⟩ (right_two rp oM) hl) (fun rp hq => first_ref23 rp oM) w_ (InL.see s_ hr.inl)) ?_)
  refine g4 ?_
  exact GE_ret1 (.inl rfl) rfl (res_tmp rfl) fun w_ s_ => ⟨rfl, s_.toBelow⟩
end
end Go.Proofs.YtdbbifbmkfmbkaaGreat
