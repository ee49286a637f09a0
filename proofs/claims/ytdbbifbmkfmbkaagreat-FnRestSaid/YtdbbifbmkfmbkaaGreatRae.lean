import Derived.Test.YtdbbifbmkfmbkaaGreatRad
set_option linter.unusedVariables false
set_option linter.unusedSimpArgs false
set_option maxRecDepth 100000
set_option maxHeartbeats 8000000
namespace Go.Proofs.YtdbbifbmkfmbkaaGreat
open Go.RowKit Go.Fr Go.Tab
section
variable {F : Nat → Prop} {w0 : World} {B : LN} {H : LV} {S : LS}
theorem qA (st : ByteArray) (w : World) : Calls Tryz.prog 65 #[.string st] w fun e w' => ∃ b : Nat, True ∧ e = .returned (.iface 139 (pT b)) ∧ Below w.heap.size w w' := by
 refine aI (args := [.string st]) (L := [(0, .string st)]) (N := 7) Tryz.func65 rfl rfl ble rfl (sS w) ?_
 refine g8 ?_
 refine rl (gP (vs := [(0, .string st)]) (v := .agg #[.string st]) rfl kW) ?_
 refine gL (fM 50 (cs := [.string st]) dE rfl rfl rfl (fun o ho => rfl) ble (fun b1 hb1 => ?_))
 refine rZ4 (gN (r := .iface 139 (pT b1)) rfl kW) ?_
 exact aT (.inl rfl) rfl (aD rfl) fun w_ s_ => ⟨_, trivial, rfl, s_.aJ0⟩
def lO (xs : List Int) (i : Int) : Option Int := let j := if i < 0 then i + xs.length else i; if j < 0 ∨ (xs.length : Int) ≤ j then none else xs[j.toNat]?
theorem xR (xs : List Int) (i : Int) (p : Option Addr) (c : Nat) (hl : xs.length ≤ 1000000000) (hi : -1000000000000 ≤ i ∧ i ≤ 1000000000000) (w : World) (hI0 : Ints w (.slice p xs.length c) xs) : Calls Tryz.prog 116 #[.slice p xs.length c, iV i] w fun e w' => ∃ y : Int × Value, (lO xs i = some y.1 ∧ y.2 = .nilIface ∨ lO xs i = none ∧ ∃ b, y.2 = .iface 139 (pT b)) ∧ e = .returned (.tuple #[iV y.1, y.2]) ∧ Below w.heap.size w w' := by
 have hI : ∀ i x, xs[i]? = some x → ∃ b o, p = some ⟨b, o, none⟩ ∧ w.cell? ⟨b, o + i, none⟩ = some (iV x) := by
  obtain ⟨p', c', e, hc⟩ := hI0
  injection e with e1 _ _
  subst e1
  exact hc
 refine aI (args := [.slice p xs.length c, iV i]) (L := [(0, .slice p xs.length c), (1, iV i)]) (N := 25) Tryz.func116 rfl rfl ble rfl (sS w) ?_
 refine g6 ?_
 refine cV (ι := (Int)) (fun j => (j = if i < 0 then i + xs.length else i)) (fun j => [(0, .slice p xs.length c), (1, iV j)]) (fun j => []) (fun j => []) (fun j => []) ?_ ?_
 ·refine g6 ?_
  refine aB rfl (fun hc1 => ?_) (fun hc2 => ?_)
  ·have h0 : i < 0 := oT hc1
   refine g7 ?_
   refine aO (ι := Int) (i + xs.length) (by rw [if_pos h0]) kno (fun w s => s)
  ·have h0 : ¬ i < 0 := oF hc2
   refine g1 ?_
   refine aO (ι := Int) (i) (by rw [if_neg h0]) kno (fun w s => s)
 rintro j hj
 show GC _ _ _ _ [(0, .slice p xs.length c), (1, iV j)] _ _ ([]) ([]) ([])
 have hjb : -1000000000000 ≤ j ∧ j ≤ 1000000000000 := by rw [hj]; split <;> omega
 refine g4 ?_
 by_cases h0 : j < 0
 ·have hF : lO xs i = none := by unfold lO; rw [← hj]; exact if_pos (.inl h0)
  refine rl ((cM rfl rfl).to bT) ?_
  refine kQ ?_
  refine gL (cbx (fun b : Nat => .iface 139 (pT b)) (fun _ => True) rfl (fun w_ s_ => qA _ w_) (fun eb _ => ?_))
  refine g6 ?_
  exact dQ (.inl rfl) rfl (aD rfl) (aD rfl) fun w_ s_ => ⟨(_, _), (by first | exact .inl ⟨hF, rfl⟩ | exact .inr ⟨hF, _, rfl⟩), rfl, s_.aJ0⟩
 ·refine rl ((cM rfl rfl).to bF) ?_
  refine g8 ?_
  by_cases h1 : (xs.length : Int) ≤ j
  ·have hF : lO xs i = none := by unfold lO; rw [← hj]; exact if_pos (.inr h1)
   refine rl ((bZ rfl rfl).to bT) ?_
   refine g3 ?_
   refine aY rfl rfl ?_
   refine g2 ?_
   refine gL (cbx (fun b : Nat => .iface 139 (pT b)) (fun _ => True) rfl (fun w_ s_ => qA _ w_) (fun eb _ => ?_))
   refine g6 ?_
   exact dQ (.inl rfl) rfl (aD rfl) (aD rfl) fun w_ s_ => ⟨(_, _), (by first | exact .inl ⟨hF, rfl⟩ | exact .inr ⟨hF, _, rfl⟩), rfl, s_.aJ0⟩
  ·refine rl ((bZ rfl rfl).to bF) ?_
   refine g3 ?_
   refine yZ7 ?_
   obtain ⟨y, hy⟩ : ∃ y, xs[j.toNat]? = some y := ⟨_, List.getElem?_eq_getElem (show j.toNat < xs.length by omega)⟩
   obtain ⟨b_, o_, rfl, hcell⟩ := hI _ y hy
   have hF : lO xs i = some y := by unfold lO; rw [← hj]; exact (if_neg oM).trans hy
   refine rl (aF (e := 3) (n := 1) kR rfl rfl oM oM) ?_
   refine rZ5 (fK rfl (v := iV y) (by rw [← hcell]; congr 2; omega) (fun h => h) kR) ?_
   exact dQ (.inl rfl) rfl (aD rfl) (aD rfl) fun w_ s_ => ⟨(_, _), (by first | exact .inl ⟨hF, rfl⟩ | exact .inr ⟨hF, _, rfl⟩), rfl, s_.aJ0⟩
end
end Go.Proofs.YtdbbifbmkfmbkaaGreat
namespace Go.Flt
open Ieee
theorem core {a b P T q kept : Nat} (hb : 0 < b) (hT : T = 4 ∨ T = 8) (hP : 2 * b < P) (hq : q * b = a * (P * T) ∨ (q % 2 = 1 ∧ (q - 1) * b < a * (P * T) ∧ a * (P * T) < (q + 1) * b)) (hk : kept = q / T ∨ (kept = q / T + 1 ∧ q % T ≠ 0)) :
  kept / P = a / b ∧ (kept % P = 0 ↔ a % b = 0) := by
 have hT0 : 0 < T := by omega
 have hP0 : 0 < P := by omega
 have ha := Nat.div_add_mod a b
 have hqT := Nat.div_add_mod q T
 have hqm := Nat.mod_lt q hT0
 have hR := Nat.mod_lt a hb
 generalize hQ : a / b = Q at *
 generalize hr : a % b = R at *
 have hQb : a * (P * T) = Q * P * T * b + R * P * T := by
  rw [← ha, Nat.add_mul, Nat.mul_comm b Q, Nat.mul_assoc Q b, Nat.mul_comm b (P * T), ← Nat.mul_assoc, ← Nat.mul_assoc, ← Nat.mul_assoc]
 by_cases h0 : R = 0
 ·have hE : a * (P * T) = Q * P * T * b := by rw [hQb, h0]; simp
  have hqe : q = Q * P * T := by
   rcases hq with h | ⟨h1, h2, h3⟩
   ·rw [hE] at h; exact Nat.eq_of_mul_eq_mul_right hb h
   ·exfalso
    rw [hE] at h2 h3
    have h4 : q - 1 < Q * P * T := Nat.lt_of_mul_lt_mul_right h2
    have h5 : Q * P * T < q + 1 := Nat.lt_of_mul_lt_mul_right h3
    have h6 : Q * P * T = q := by omega
    have h7 : (Q * P * T) % 2 = 0 := by rcases hT with rfl | rfl <;> omega
    omega
  have hkk : kept = Q * P := by
   have h1 : q / T = Q * P := by rw [hqe]; exact Nat.mul_div_cancel _ hT0
   have h2 : q % T = 0 := by rw [hqe]; exact Nat.mul_mod_left _ _
   rcases hk with h | ⟨h, h3⟩
   ·rw [h, h1]
   ·exact absurd h2 h3
  rw [hkk]
  exact ⟨Nat.mul_div_cancel _ hP0, fun _ => h0, fun _ => Nat.mul_mod_left _ _⟩
 ·have hR1 : 1 ≤ R := by omega
  have hlo : a * (P * T) ≤ q * b + b := by
   rcases hq with h | ⟨_, _, h⟩
   ·omega
   ·rw [Nat.add_mul, Nat.one_mul] at h; omega
  have hhi : q * b ≤ a * (P * T) + b := by
   rcases hq with h | ⟨h1, h, _⟩
   ·omega
   ·rw [Nat.sub_mul, Nat.one_mul] at h; omega
  have hk1 : q ≤ kept * T + T := by
   have h1 : T * (q / T) ≤ T * kept := Nat.mul_le_mul_left _ (by rcases hk with h | ⟨h, _⟩ <;> omega)
   rw [Nat.mul_comm T kept] at h1
   omega
  have hk2 : kept * T ≤ q + T := by
   have h1 : T * kept ≤ T * (q / T + 1) := Nat.mul_le_mul_left _ (by rcases hk with h | ⟨h, _⟩ <;> omega)
   rw [Nat.mul_comm T kept, Nat.mul_add, Nat.mul_one] at h1
   omega
  have hbT : b + T * b < P * T := by
   have h1 : (2 * b + 1) * T ≤ P * T := Nat.mul_le_mul_right _ oM
   rw [Nat.add_mul, Nat.mul_assoc, Nat.mul_comm b T] at h1
   have h2 : b * 1 ≤ b * T := Nat.mul_le_mul_left _ oM
   rw [Nat.mul_comm b T] at h2
   omega
  have k1 : q * b ≤ kept * T * b + T * b := by rw [← Nat.add_mul]; exact Nat.mul_le_mul_right _ hk1
  have k2 : kept * T * b ≤ q * b + T * b := by rw [← Nat.add_mul]; exact Nat.mul_le_mul_right _ hk2
  have hRP : P * T ≤ R * P * T := by
   have : 1 * (P * T) ≤ R * (P * T) := Nat.mul_le_mul_right _ hR1
   rw [Nat.one_mul, ← Nat.mul_assoc] at this; exact this
  have low : Q * P < kept := by
   have h1 : Q * P * T * b < kept * T * b := by omega
   have h2 := Nat.lt_of_mul_lt_mul_right h1
   exact Nat.lt_of_mul_lt_mul_right h2
  have hRb : R * P * T + P * T ≤ P * T * b := by
   have : (R + 1) * (P * T) ≤ b * (P * T) := Nat.mul_le_mul_right _ oM
   rw [Nat.add_mul, Nat.one_mul, ← Nat.mul_assoc, Nat.mul_comm b] at this; exact this
  have high : kept < Q * P + P := by
   have h1 : kept * T * b < Q * P * T * b + P * T * b := by omega
   rw [← Nat.add_mul, ← Nat.add_mul] at h1
   have h2 := Nat.lt_of_mul_lt_mul_right h1
   exact Nat.lt_of_mul_lt_mul_right h2
  have e1 : kept / P = Q := Nat.div_eq_of_lt_le oM (by rw [Nat.add_mul, Nat.one_mul]; exact high)
  have e2 := Nat.div_add_mod kept P
  rw [e1, Nat.mul_comm P Q] at e2
  exact ⟨e1, fun h => by omega, fun h => absurd h h0⟩
theorem sE : double.binade = 2 ^ 52 := rfl
theorem wX : double.leastPlace = -1074 := by decide
theorem aG3 : double.infRung = 2047 * 2 ^ 52 := rfl
theorem aBy : double.signWeight = 2 ^ 63 := rfl
theorem vS {s : Bool} {r : Nat} (h1 : 2 ^ 52 ≤ r) (h2 : r < 2047 * 2 ^ 52) : double.read (double.word s r) = .number s (2 ^ 52 + r % 2 ^ 52) (-1074 + (r / 2 ^ 52 - 1 : Nat)) := by
 have e1 : double.word s r % double.signWeight = r := by
  unfold Format.word; rw [aBy]
  cases s
  ·show r % 2 ^ 63 = r; exact Nat.mod_eq_of_lt oM
  ·show (2 ^ 63 + r) % 2 ^ 63 = r; omega
 have e2 : (double.word s r / double.signWeight % 2 == 1) = s := by
  unfold Format.word; rw [aBy]
  cases s
  ·show (r / 2 ^ 63 % 2 == 1) = false; rw [Nat.div_eq_of_lt oM]; rfl
  ·show ((2 ^ 63 + r) / 2 ^ 63 % 2 == 1) = true; rw [show (2 ^ 63 + r) / 2 ^ 63 = 1 by omega]; rfl
 unfold Format.read
 simp only [e1, e2, sE, aG3, wX]
 rw [if_neg oM, if_pos h2]
theorem read_zero (s : Bool) : double.read (double.word s 0) = .number s 0 (-1074) := by
 have e1 : double.word s 0 % double.signWeight = 0 := by
  unfold Format.word; rw [aBy]
  cases s
  ·show 0 % 2 ^ 63 = 0; omega
  ·show (2 ^ 63 + 0) % 2 ^ 63 = 0; omega
 have e2 : (double.word s 0 / double.signWeight % 2 == 1) = s := by
  unfold Format.word; rw [aBy]
  cases s
  ·show (0 / 2 ^ 63 % 2 == 1) = false; rw [Nat.zero_div]; rfl
  ·show ((2 ^ 63 + 0) / 2 ^ 63 % 2 == 1) = true; rw [show (2 ^ 63 + 0) / 2 ^ 63 = 1 by omega]; rfl
 unfold Format.read
 simp only [e1, e2, sE, aG3, wX]
 exact if_pos (Nat.pow_pos dE)
theorem aB4 {s : Bool} {e k : Nat} (he : e ≤ 2000) (h1 : 2 ^ 52 ≤ k) (h2 : k < 2 ^ 53) : double.read (double.word s (e * 2 ^ 52 + k)) = .number s k ((e : Int) - 1074) := by
 rw [vS oM oM]
 have e1 : (e * 2 ^ 52 + k) / 2 ^ 52 = e + 1 := by omega
 have e2 : (e * 2 ^ 52 + k) % 2 ^ 52 = k - 2 ^ 52 := by omega
 have e3 : 2 ^ 52 + (k - 2 ^ 52) = k := by omega
 have e4 : -1074 + ((e + 1 - 1 : Nat) : Int) = (e : Int) - 1074 := by omega
 rw [e1, e2, e3, e4]
theorem aEr {s : Bool} {e : Nat} (he : e ≤ 2000) : double.read (double.word s (e * 2 ^ 52 + 2 ^ 53)) = .number s (2 ^ 52) ((e : Int) + 1 - 1074) := by
 rw [vS oM oM]
 have e1 : (e * 2 ^ 52 + 2 ^ 53) / 2 ^ 52 = e + 2 := by omega
 have e2 : (e * 2 ^ 52 + 2 ^ 53) % 2 ^ 52 = 0 := by omega
 have e4 : -1074 + ((e + 2 - 1 : Nat) : Int) = (e : Int) + 1 - 1074 := by omega
 rw [e1, e2, e4, Nat.add_zero]
theorem yY (s : Bool) (n d : Nat) (hd : d ≤ n.log2 + 2) : ∃ k, Toward.even.cut s n d = k ∧ (k = n / 2 ^ d ∨ (k = n / 2 ^ d + 1 ∧ n % 2 ^ d ≠ 0)) := by
 refine ⟨_, rfl, ?_⟩
 unfold Toward.cut
 simp only [Nat.min_eq_left hd, Nat.one_shiftLeft]
 cases hm : (decide (2 ^ d < 2 * (n % 2 ^ d)) || 2 ^ d == 2 * (n % 2 ^ d) && n / 2 ^ d % 2 == 1) with
 | false => left; rfl
 | true =>
  right
  refine ⟨rfl, fun h => ?_⟩
  rw [h] at hm
  have hp : 0 < 2 ^ d := Nat.pow_pos dE
  simp at hm
theorem xV (s : Bool) (n d : Nat) : Toward.down.cut s n d = n / 2 ^ d + (s && n % 2 ^ d != 0).toNat := by
 unfold Toward.cut
 simp only [Nat.one_shiftLeft]
 rcases Nat.le_total d (n.log2 + 2) with h | h
 ·rw [Nat.min_eq_left h]
 ·rw [Nat.min_eq_right h]
  have h1 : n < 2 ^ (n.log2 + 2) := Nat.lt_of_lt_of_le Nat.lt_log2_self (Nat.pow_le_pow_right dE oM)
  have h2 : n < 2 ^ d := Nat.lt_of_lt_of_le h1 (Nat.pow_le_pow_right dE h)
  rw [Nat.div_eq_of_lt h1, Nat.div_eq_of_lt h2, Nat.mod_eq_of_lt h1, Nat.mod_eq_of_lt h2]
theorem tZ (s : Bool) (n d : Nat) : Toward.zero.cut s n d = n / 2 ^ d := by
 unfold Toward.cut
 simp only [Nat.one_shiftLeft]
 rcases Nat.le_total d (n.log2 + 2) with h | h
 ·rw [Nat.min_eq_left h]; rfl
 ·rw [Nat.min_eq_right h]
  have h1 : n < 2 ^ (n.log2 + 2) := Nat.lt_of_lt_of_le Nat.lt_log2_self (Nat.pow_le_pow_right dE oM)
  have h2 : n < 2 ^ d := Nat.lt_of_lt_of_le h1 (Nat.pow_le_pow_right dE h)
  rw [Nat.div_eq_of_lt h1, Nat.div_eq_of_lt h2]; rfl
theorem vY {n l : Nat} (h1 : 2 ^ l ≤ n) (h2 : n < 2 ^ (l + 1)) : n.log2 = l := by
 have h0 : n ≠ 0 := by have : 0 < 2 ^ l := Nat.pow_pos dE; omega
 exact (Nat.log2_eq_iff h0).2 ⟨h1, h2⟩
theorem pQ (s : Bool) {n : Nat} (h0 : 0 < n) (h1 : n < 2 ^ 53) : ∃ l : Nat, l ≤ 52 ∧ 2 ^ l ≤ n ∧ n < 2 ^ (l + 1) ∧ 2 ^ 52 ≤ n * 2 ^ (52 - l) ∧ n * 2 ^ (52 - l) < 2 ^ 53 ∧ double.read (double.nearest s n 0) = .number s (n * 2 ^ (52 - l)) ((l : Int) - 52) := by
 have hn : n ≠ 0 := by omega
 have hl1 : 2 ^ n.log2 ≤ n := Nat.log2_self_le hn
 have hl2 : n < 2 ^ (n.log2 + 1) := Nat.lt_log2_self
 have hl : n.log2 ≤ 52 := by
  rcases Nat.lt_or_ge 52 n.log2 with h | h
  ·have : 2 ^ 53 ≤ 2 ^ n.log2 := Nat.pow_le_pow_right dE h
   omega
  ·exact h
 have k1 : 2 ^ 52 ≤ n * 2 ^ (52 - n.log2) := by
  have : 2 ^ n.log2 * 2 ^ (52 - n.log2) ≤ n * 2 ^ (52 - n.log2) := Nat.mul_le_mul_right _ hl1
  rwa [← Nat.pow_add, show n.log2 + (52 - n.log2) = 52 by omega] at this
 have k2 : n * 2 ^ (52 - n.log2) < 2 ^ 53 := by
  have : n * 2 ^ (52 - n.log2) < 2 ^ (n.log2 + 1) * 2 ^ (52 - n.log2) := Nat.mul_lt_mul_of_pos_right hl2 (Nat.pow_pos dE)
  rwa [← Nat.pow_add, show n.log2 + 1 + (52 - n.log2) = 53 by omega] at this
 refine ⟨n.log2, hl, hl1, hl2, k1, k2, ?_⟩
 have e : double.nearest s n 0 = double.word s ((n.log2 + 1022) * 2 ^ 52 + n * 2 ^ (52 - n.log2)) := by
  unfold Format.nearest
  rw [if_neg hn]
  simp only [wX, sE, aG3]
  have hlast : max (0 + (n.log2 : Int) - (double.fractionBits : Nat)) (-1074) = (n.log2 : Int) - 52 := by
   show max (0 + (n.log2 : Int) - ((52 : Nat) : Int)) (-1074) = _
   omega
  rw [hlast]
  have s1 : (0 - ((n.log2 : Int) - 52)).toNat = 52 - n.log2 := by omega
  have s2 : ((n.log2 : Int) - 52 - 0).toNat = 0 := by omega
  have s3 : ((n.log2 : Int) - 52 - -1074).toNat = n.log2 + 1022 := by omega
  rw [s1, s2, s3, Nat.shiftLeft_eq]
  obtain ⟨k, hk, hk2⟩ := yY s (n * 2 ^ (52 - n.log2)) 0 oM
  have hk3 : k = n * 2 ^ (52 - n.log2) := by
   rcases hk2 with h | ⟨_, h⟩
   ·simpa using h
   ·exact absurd (Nat.mod_one _) h
  rw [hk, hk3, Nat.min_eq_left oM]
 have e4 : ((n.log2 + 1022 : Nat) : Int) - 1074 = (n.log2 : Int) - 52 := by omega
 rw [e, aB4 oM k1 k2, e4]
theorem int_back (s : Bool) {n : Nat} (h1 : n < 2 ^ 53) : (double.read (double.nearest s n 0)).toInt .zero = some (if s then -(n : Int) else (n : Int)) := by
 by_cases h0 : n = 0
 ·subst h0
  have e : double.nearest s 0 0 = double.word s 0 := by unfold Format.nearest; rw [if_pos rfl]
  rw [e, read_zero]
  unfold Datum.toInt Datum.integral
  simp only [tZ, Nat.zero_shiftLeft, Nat.zero_div]
  cases s <;> rfl
 ·obtain ⟨l, hl, _, _, _, _, e⟩ := pQ s oM h1
  rw [e]
  unfold Datum.toInt Datum.integral
  simp only [tZ]
  have e1 : ((l : Int) - 52).toNat = 0 := by omega
  have e2 : (-((l : Int) - 52)).toNat = 52 - l := by omega
  rw [e1, e2, Nat.shiftLeft_eq, Nat.pow_zero, Nat.mul_one, Nat.mul_div_cancel _ (Nat.pow_pos dE)]
  unfold signed
  rw [Nat.shiftLeft_zero]
theorem aBn {s : Bool} {M N : Nat} {i j : Int} (hM1 : 2 ^ 52 ≤ M) (hM2 : M < 2 ^ 53) (hN1 : 2 ^ 52 ≤ N) (hN2 : N < 2 ^ 53) : ∃ q, 2 ^ 54 ≤ q ∧ q < 2 ^ 56 ∧ Datum.quotient (double.fractionBits + 2) (.number s M i) (.number false N j) = some (.number s q (i - j - (54 : Nat) - 1)) ∧
  (q * N = 2 * (M * 2 ^ 54) ∨ (q % 2 = 1 ∧ (q - 1) * N < 2 * (M * 2 ^ 54) ∧ 2 * (M * 2 ^ 54) < (q + 1) * N)) := by
 have lM : M.log2 = 52 := vY hM1 hM2
 have lN : N.log2 = 52 := vY hN1 hN2
 have hN0 : N ≠ 0 := by omega
 have hd1 := Nat.div_add_mod (M * 2 ^ 54) N
 have hd2 := Nat.mod_lt (M * 2 ^ 54) (Nat.pos_of_ne_zero hN0)
 have hq1 : 2 ^ 53 ≤ M * 2 ^ 54 / N := by
  refine (Nat.le_div_iff_mul_le oM).2 ?_
  omega
 have hq2 : M * 2 ^ 54 / N < 2 ^ 55 := by
  refine (Nat.div_lt_iff_lt_mul oM).2 ?_
  omega
 have eQ : Datum.quotient (double.fractionBits + 2) (.number s M i) (.number false N j) = some (.number s (2 * (M * 2 ^ 54 / N) + (M * 2 ^ 54 % N != 0).toNat) (i - j - (54 : Nat) - 1)) := by
  unfold Datum.quotient
  simp only [if_neg hN0]
  have e54 : double.fractionBits + 2 + N.log2 - M.log2 = 54 := by rw [lM, lN]; rfl
  rw [e54, Nat.shiftLeft_eq, Bool.xor_false]
 generalize M * 2 ^ 54 / N = q0 at *
 generalize M * 2 ^ 54 % N = rr at *
 generalize M * 2 ^ 54 = X at *
 refine ⟨_, ?_, ?_, eQ, ?_⟩
 ·omega
 ·have : (rr != 0).toNat ≤ 1 := Bool.toNat_le _
  omega
 ·by_cases h : rr = 0
  ·left
   subst h
   show (2 * q0 + 0) * N = _
   rw [← hd1, Nat.add_zero, Nat.add_zero, Nat.mul_assoc, Nat.mul_comm q0]
  ·right
   have e : (rr != 0).toNat = 1 := by rw [bne_iff_ne.2 h]; rfl
   rw [e]
   refine ⟨by omega, ?_, ?_⟩
   ·rw [Nat.add_sub_cancel, ← hd1, Nat.mul_assoc, Nat.mul_comm q0]
    omega
   ·rw [show 2 * q0 + 1 + 1 = 2 * (q0 + 1) by omega, ← hd1, Nat.mul_assoc, Nat.add_mul, Nat.one_mul, Nat.mul_comm q0]
    omega
theorem aHn (s : Bool) {q : Nat} (h1 : 2 ^ 54 ≤ q) (h2 : q < 2 ^ 56) {p : Int} (hp : -1000 ≤ p ∧ p ≤ 0) : ∃ d k : Nat, (d = 2 ∨ d = 3) ∧ (k = q / 2 ^ d ∨ (k = q / 2 ^ d + 1 ∧ q % 2 ^ d ≠ 0)) ∧ 2 ^ 52 ≤ k ∧ k ≤ 2 ^ 53 ∧ double.nearest s q p = double.word s ((p + (d : Int) + 1074).toNat * 2 ^ 52 + k) := by
 have hq00 : q ≠ 0 := by omega
 obtain ⟨d, hd, hlq⟩ : ∃ d, (d = 2 ∨ d = 3) ∧ q.log2 = 52 + d := by
  rcases Nat.lt_or_ge q (2 ^ 55) with h | h
  ·exact ⟨2, .inl rfl, vY h1 h⟩
  ·exact ⟨3, .inr rfl, vY h h2⟩
 obtain ⟨k, hk, hk2⟩ := yY s q d oM
 have hqb1 : 2 ^ (52 + d) ≤ q := by rw [← hlq]; exact Nat.log2_self_le hq00
 have hqb2 : q < 2 ^ (53 + d) := by have := @Nat.lt_log2_self q; rw [hlq] at this; rwa [show 53 + d = 52 + d + 1 by omega]
 have hkb : 2 ^ 52 ≤ k ∧ k ≤ 2 ^ 53 := by
  rcases hd with rfl | rfl <;> rcases hk2 with h | ⟨h, _⟩ <;> omega
 refine ⟨d, k, hd, hk2, hkb.1, hkb.2, ?_⟩
 unfold Format.nearest
 rw [if_neg hq00]
 simp only [wX, sE, aG3]
 rw [hlq]
 have hlast : max (p + ((52 + d : Nat) : Int) - (double.fractionBits : Nat)) (-1074) = p + d := by
  show max (p + ((52 + d : Nat) : Int) - ((52 : Nat) : Int)) (-1074) = _
  omega
 rw [hlast]
 have s1 : (p - (p + (d : Int))).toNat = 0 := by omega
 have s2 : (p + (d : Int) - p).toNat = d := by omega
 have s3 : (p + (d : Int) - -1074).toNat = (p + (d : Int) + 1074).toNat := by omega
 rw [s1, s2, s3, Nat.shiftLeft_zero, hk, Nat.min_eq_left oM]
theorem zJ (s : Bool) {a b m L : Nat} {e : Int} (he : e = -(L : Int)) (h1 : m / 2 ^ L = a / b) (h2 : m % 2 ^ L = 0 ↔ a % b = 0) : double.write (Datum.integral .down (.number s m e)) = double.nearest s (a / b + (s && a % b != 0).toNat) 0 := by
 unfold Datum.integral
 simp only [xV]
 have e1 : e.toNat = 0 := by omega
 have e2 : (-e).toNat = L := by omega
 rw [e1, e2, Nat.shiftLeft_zero, h1]
 have e3 : (m % 2 ^ L != 0) = (a % b != 0) := by
  by_cases h : a % b = 0
  ·rw [h2.2 h, h]
  ·have h3 : m % 2 ^ L ≠ 0 := fun hh => h (h2.1 hh)
   rw [bne_iff_ne.2 h, bne_iff_ne.2 h3]
 rw [e3]
 rfl
theorem aCn {a b A Bl d q : Nat} (hA : A ≤ 30) (hB : Bl ≤ 30) (hd : d = 2 ∨ d = 3) (hb0 : 0 < b)
  (hq : q * (b * 2 ^ (52 - Bl)) = 2 * (a * 2 ^ (52 - A) * 2 ^ 54) ∨ (q % 2 = 1 ∧ (q - 1) * (b * 2 ^ (52 - Bl)) < 2 * (a * 2 ^ (52 - A) * 2 ^ 54) ∧ 2 * (a * 2 ^ (52 - A) * 2 ^ 54) < (q + 1) * (b * 2 ^ (52 - Bl)))) :
  q * b = a * (2 ^ (55 - d - A + Bl) * 2 ^ d) ∨ (q % 2 = 1 ∧ (q - 1) * b < a * (2 ^ (55 - d - A + Bl) * 2 ^ d) ∧ a * (2 ^ (55 - d - A + Bl) * 2 ^ d) < (q + 1) * b) := by
 have hPT : 2 ^ (55 - d - A + Bl) * 2 ^ d = 2 ^ (55 - A + Bl) := by rw [← Nat.pow_add]; congr 1; omega
 rw [hPT]
 have hX : 2 * (a * 2 ^ (52 - A) * 2 ^ 54) = a * 2 ^ (55 - A + Bl) * 2 ^ (52 - Bl) := by
  have e1 : 2 * (a * 2 ^ (52 - A) * 2 ^ 54) = a * (2 ^ (52 - A) * 2 ^ 55) := by
   rw [Nat.pow_succ (n := 2) (m := 54)]
   generalize (2 : Nat) ^ 54 = z
   simp only [Nat.mul_assoc, Nat.mul_comm, Nat.mul_left_comm]
  rw [e1, Nat.mul_assoc, ← Nat.pow_add, ← Nat.pow_add]
  congr 2
  omega
 rw [hX] at hq
 have hp : 0 < 2 ^ (52 - Bl) := Nat.pow_pos dE
 generalize (2 : Nat) ^ (52 - Bl) = Z at *
 generalize a * 2 ^ (55 - A + Bl) = Y at *
 simp only [← Nat.mul_assoc] at hq
 rcases hq with h | ⟨h0, h1, h2⟩
 ·exact .inl (Nat.eq_of_mul_eq_mul_right hp h)
 ·exact .inr ⟨h0, Nat.lt_of_mul_lt_mul_right h1, Nat.lt_of_mul_lt_mul_right h2⟩
theorem quot (s : Bool) {a b : Nat} (ha0 : 0 < a) (ha : a < 2 ^ 31) (hb0 : 0 < b) (hb : b < 2 ^ 31) : ∃ r, double.div (double.nearest s a 0) (double.nearest false b 0) = some r ∧ ∃ m e, double.read r = .number s m e ∧ double.write (Datum.integral .down (.number s m e)) = double.nearest s (a / b + (s && a % b != 0).toNat) 0 := by
 obtain ⟨A, hA, hA1, hA2, hM1, hM2, eX⟩ := pQ s ha0 (show a < 2 ^ 53 by omega)
 obtain ⟨Bl, hB, hB1, hB2, hN1, hN2, eY⟩ := pQ false hb0 (show b < 2 ^ 53 by omega)
 have hA31 : A ≤ 30 := by
  rcases Nat.lt_or_ge 30 A with h | h
  ·have : 2 ^ 31 ≤ 2 ^ A := Nat.pow_le_pow_right dE h
   omega
  ·exact h
 have hB31 : Bl ≤ 30 := by
  rcases Nat.lt_or_ge 30 Bl with h | h
  ·have : 2 ^ 31 ≤ 2 ^ Bl := Nat.pow_le_pow_right dE h
   omega
  ·exact h
 obtain ⟨q, hqa, hqb, eQ, hq⟩ := aBn (s := s) (i := (A : Int) - 52) (j := (Bl : Int) - 52) hM1 hM2 hN1 hN2
 obtain ⟨d, k, hd, hk, hk1, hk2, eW⟩ := aHn s hqa hqb (p := (A : Int) - 52 - ((Bl : Int) - 52) - (54 : Nat) - 1) oM
 have hid := aCn (d := d) hA31 hB31 hd hb0 hq
 have hcore := core (a := a) (b := b) (P := 2 ^ (55 - d - A + Bl)) (T := 2 ^ d) (q := q) (kept := k) hb0 (by rcases hd with rfl | rfl <;> decide) (by
   have h1 : 2 ^ 21 * 2 ^ Bl ≤ 2 ^ (55 - d - A + Bl) := by rw [← Nat.pow_add]; exact Nat.pow_le_pow_right dE oM
   have h2 : b < 2 ^ Bl * 2 := by rw [← Nat.pow_succ]; exact hB2
   omega) hid hk
 have ep : ((A : Int) - 52 - ((Bl : Int) - 52) - (54 : Nat) - 1 + (d : Int) + 1074).toNat = A + 1074 + d - 55 - Bl := by omega
 rw [ep] at eW
 have eR : double.div (double.nearest s a 0) (double.nearest false b 0) = some (double.word s ((A + 1074 + d - 55 - Bl) * 2 ^ 52 + k)) := by
  unfold Format.div
  rw [eX, eY, eQ, Option.map_some, ← eW]
  rfl
 refine ⟨_, eR, ?_⟩
 rcases Nat.lt_or_ge k (2 ^ 53) with h | h
 ·rw [aB4 oM hk1 h]
  exact ⟨_, _, rfl, zJ s (L := 55 - d - A + Bl) oM hcore.1 hcore.2⟩
 ·obtain rfl : k = 2 ^ 53 := by omega
  rw [aEr oM]
  have e53 : (2 : Nat) ^ 53 = 2 ^ 52 * 2 := by decide
  have eP : (2 : Nat) ^ (55 - d - A + Bl) = 2 ^ (54 - d - A + Bl) * 2 := by
   rw [← Nat.pow_succ]; congr 1; omega
  refine ⟨_, _, rfl, zJ s (L := 54 - d - A + Bl) oM ?_ ?_⟩
  ·rw [← hcore.1, eP, e53, Nat.mul_div_mul_right _ _ dE]
  ·rw [← hcore.2, eP, e53, Nat.mul_mod_mul_right]
   omega
theorem quot0 {b : Nat} (hb0 : 0 < b) (hb : b < 2 ^ 31) : double.div (double.nearest (decide ((0 : Int) < 0)) (0 : Int).natAbs 0) (double.nearest false b 0) = some (double.word false 0) := by
 obtain ⟨Bl, hB, hB1, hB2, hN1, hN2, eY⟩ := pQ false hb0 (show b < 2 ^ 53 by omega)
 have e0 : double.nearest (decide ((0 : Int) < 0)) (0 : Int).natAbs 0 = double.word false 0 := by
  show double.nearest false 0 0 = _
  unfold Format.nearest; rw [if_pos rfl]
 have hN : b * 2 ^ (52 - Bl) ≠ 0 := by omega
 unfold Format.div
 rw [e0, read_zero, eY]
 unfold Datum.quotient
 simp only [if_neg hN, Nat.zero_shiftLeft, Nat.zero_div, Nat.zero_mod, Bool.xor_false]
 refine congrArg some ?_
 show double.nearest false 0 _ = _
 unfold Format.nearest
 rw [if_pos rfl]
theorem zero_back : (double.read (double.write (Datum.integral .down (.number false 0 (-1074))))).toInt .zero = some 0 := by
 have e : double.write (Datum.integral .down (.number false 0 (-1074))) = double.word false 0 := by
  unfold Datum.integral
  simp only [xV, Nat.zero_shiftLeft, Nat.zero_div]
  show double.nearest false 0 _ = _
  unfold Format.nearest
  rw [if_pos rfl]
 rw [e, read_zero]
 unfold Datum.toInt Datum.integral
 simp only [tZ, Nat.zero_shiftLeft, Nat.zero_div]
 rfl
end Go.Flt
namespace Go.Fr
open Go.RowKit
section
variable {P : Program} {N : Nat} {L : Loc} {F : Nat → Prop} {w0 : World} {B : LN} {H : LV} {S : LS}
variable {d : Nat} {v : Value} {ty : TypeId} {pos : String} {aft : Array Edge} {g : Option (Nat × Bool)}
theorem aC6 {f : FuncId} {fn : Func} {e : Array Value → Sem Value} {aS : List Operand} {ats : Array TypeId} {args : List Value} (hfn : P.funcs[f]? = some fn) (hb : fn.body = none) (hnm : (fn.name == "runtime.NumGoroutine") = false) (h1 : (Extern.findNext fn).isNone = true) (h2 : Extern.find fn = some e) (ha : Fr.evs L aS = some args) (hv : ∀ w : World, (e args.toArray).run P w = .ok v w) :
  Rd P ⟨some d, .call ⟨.value (.func f), aS.toArray, ats⟩, ty, pos, aft, g⟩ N L F w0 B H S v := fun a w k s => by
 have h1' : Extern.findNext fn = none := by simpa using h1
 have ea : (aS.map a.eval) = args := k.evs ha
 have hv' := hv w
 have hnm' : ¬ fn.name = "runtime.NumGoroutine" := by simpa using hnm
 have e0 : (callFunc f args.toArray).run P w = .ok (.value v) w := by
  simp [callFunc, hfn, hnm', hb, h1', h2, hv', mark]
  rw [show Sem.run P (Sem.mark (Mark.extern f) (Sem.pure ())) w = .ok () w from rfl]
  simp [hv']
 simp only [execOp, resolve, Act.eval, Deferred.ofValue, invoke, Sem.run_bind, Sem.run_pure, Result.andThen_ok, List.map_toArray, ea, Array.append_empty, Array.empty_append, e0]
theorem aFo {src dst : TypeId} {x : Operand} {q : IntKind} {n : Int} (hx : ev L x = some (.int q n)) (hs : (P.underlying src).isSome = true) (hd : P.underlying dst = some (.float .f64)) : Rd P ⟨some d, .convert src dst x, ty, pos, aft, g⟩ N L F w0 B H S (.float .f64 (Ieee.Format.nearest Ieee.double (n < 0) n.natAbs 0)) := fun a w k s => by
 obtain ⟨t, ht⟩ := Option.isSome_iff_exists.mp hs
 simp [execOp, convert, run_underlying ht, run_underlying hd, Conv.intToFloat, k.eval hx]
 rfl
theorem aGm {xt yt : TypeId} {x y : Operand} {m n r : Nat} (hx : ev L x = some (.float .f64 m)) (hy : ev L y = some (.float .f64 n)) (hr : Ieee.double.div m n = some r) : Rd P ⟨some d, .binOp .quo xt x y yt, ty, pos, aft, g⟩ N L F w0 B H S (.float .f64 r) := fun a w k s => by
 have hr' : FloatKind.f64.format.div m n = some r := hr
 simp [execOp, eqGuard, binOp, Op.floatArith, k.eval hx, k.eval hy, hr']
theorem aHy {src dst : TypeId} {x : Operand} {b : Nat} {n : Int} (hx : ev L x = some (.float .f64 b)) (hs : (P.underlying src).isSome = true) (hd : P.underlying dst = some (.int .i64)) (hn : (Ieee.double.read b).toInt .zero = some n) (hb : -9223372036854775808 ≤ n ∧ n ≤ 9223372036854775807) : Rd P ⟨some d, .convert src dst x, ty, pos, aft, g⟩ N L F w0 B H S (iV n) := fun a w k s => by
 obtain ⟨t, ht⟩ := Option.isSome_iff_exists.mp hs
 have hn' : (FloatKind.f64.decode b).toInt .zero = some n := hn
 have h1 : IntKind.i64.min ≤ n ∧ n ≤ IntKind.i64.max := by
  have e1 : IntKind.i64.min = -9223372036854775808 := by decide
  have e2 : IntKind.i64.max = 9223372036854775807 := by decide
  omega
 have e : Conv.floatToInt .f64 b .i64 = pure (iV n) := by
  unfold Conv.floatToInt
  simp only [hn']
  rw [if_pos h1]
 simp [execOp, convert, run_underlying ht, run_underlying hd, e, k.eval hx]
end
theorem aAf {P : Program} {b : Nat} {s : Bool} {m : Nat} {e : Int} (h : Ieee.double.read b = .number s m e) (w : World) : (Extern.MathFloor.toIntegral "math.archFloor" .down #[.float .f64 b]).run P w = .ok (.float .f64 (Ieee.double.write (Ieee.Datum.integral .down (.number s m e)))) w := by
 have h' : FloatKind.f64.decode b = .number s m e := h
 delta Extern.MathFloor.toIntegral
 generalize FloatKind.decode = D at h' ⊢
 conv => lhs; arg 2; whnf
 rw [h']
 rfl
end Go.Fr
namespace Go.Proofs.YtdbbifbmkfmbkaaGreat
open Go.RowKit Go.Fr Go.Tab
section
variable {F : Nat → Prop} {w0 : World} {B : LN} {H : LV} {S : LS}
theorem pF {b : Nat} {s : Bool} {m : Nat} {e : Int} (h : Ieee.double.read b = .number s m e) (w : World) : Calls Tryz.prog 111 #[.float .f64 b] w fun r w' => r = .returned (.float .f64 (Ieee.double.write (Ieee.Datum.integral .down (.number s m e)))) ∧ Below w.heap.size w w' := by
 refine aI (args := [.float .f64 b]) (L := [(0, .float .f64 b)]) (N := 7) Tryz.func111 rfl rfl ble rfl (sS w) ?_
 refine g6 ?_
 refine aY rfl rfl ?_
 refine g3 ?_
 refine rZ5 ((aC6 (fn := Tryz.f135) (e := Extern.MathFloor.toIntegral "math.archFloor" .down) Tryz.func135 rfl kR kR kR rfl (aAf h))) ?_
 exact gR rfl fun w_ s_ => ⟨rfl, s_.aJ0⟩
theorem aGw (a : Int) {b : Int} (hb : 0 < b) : (if decide (a < 0) then -((a.natAbs / b.natAbs + (decide (a < 0) && a.natAbs % b.natAbs != 0).toNat : Nat) : Int) else ((a.natAbs / b.natAbs + (decide (a < 0) && a.natAbs % b.natAbs != 0).toNat : Nat) : Int)) = a / b := by
 obtain ⟨n, rfl⟩ : ∃ n : Nat, b = n := ⟨b.toNat, by omega⟩
 have hn : 0 < n := by omega
 rw [Int.natAbs_natCast]
 by_cases h : a < 0
 ·obtain ⟨m, rfl⟩ : ∃ m : Nat, a = -(m : Int) := ⟨a.natAbs, by omega⟩
  rw [decide_eq_true h]
  simp only [if_true, Int.natAbs_neg, Int.natAbs_natCast, Bool.true_and]
  have hd := Nat.div_add_mod m n
  have hm := Nat.mod_lt m hn
  by_cases h0 : m % n = 0
  ·rw [h0] at hd ⊢
   symm
   apply Int.ediv_eq_of_eq_mul_left oM
   show -(m : Int) = -(((m / n + (0 != 0).toNat : Nat) : Int)) * n
   rw [show ((0 : Nat) != 0).toNat = 0 from rfl, Nat.add_zero, Int.neg_mul, ← Int.natCast_mul, Nat.mul_comm (m / n)]
   omega
  ·rw [bne_iff_ne.2 h0]
   symm
   refine (Int.ediv_eq_iff_of_pos oM).2 ⟨?_, ?_⟩
   ·show -(((m / n + 1 : Nat) : Int)) * (n : Int) ≤ -(m : Int)
    rw [Int.neg_mul, ← Int.natCast_mul, Nat.add_mul, Nat.one_mul, Nat.mul_comm (m / n)]
    omega
   ·show -(m : Int) < -(((m / n + 1 : Nat) : Int)) * (n : Int) + n
    rw [Int.neg_mul, ← Int.natCast_mul, Nat.add_mul, Nat.one_mul, Nat.mul_comm (m / n)]
    omega
 ·obtain ⟨m, rfl⟩ : ∃ m : Nat, a = m := ⟨a.natAbs, by omega⟩
  rw [decide_eq_false h]
  simp
theorem aFv {m b : Int} (hb : 0 < b) (hb2 : b ≤ 1000000) : (-1000000 < m.tmod b ∧ m.tmod b < 1000000) ∧ -1000000000000 ≤ m.tmod b * b ∧ m.tmod b * b ≤ 1000000000000 := by
 have h1 : m.tmod b < b := Int.tmod_lt_of_pos m hb
 have h2 : -b < m.tmod b := by
  have := Int.natAbs_tmod m b
  have h3 : m.natAbs % b.natAbs < b.natAbs := Nat.mod_lt _ oM
  omega
 refine ⟨by omega, ?_, ?_⟩
 ·have := Int.mul_le_mul_of_nonneg_right (show -1000000 ≤ m.tmod b by omega) (show 0 ≤ b by omega)
  omega
 ·have := Int.mul_le_mul_of_nonneg_right (show m.tmod b ≤ 1000000 by omega) (show 0 ≤ b by omega)
  omega
theorem aDi (a b : Int) (ha : -1000000000000000 ≤ a ∧ a ≤ 1000000000000000) (hb : 0 < b ∧ b ≤ 1000000) (w : World) : Calls Tryz.prog 91 #[iV a, iV b] w fun e w' => e = .returned (iV (a % b)) ∧ Below w.heap.size w w' := by
 refine aI (args := [iV a, iV b]) (L := [(0, iV a), (1, iV b)]) (N := 17) Tryz.func91 rfl rfl ble rfl (sS w) ?_
 have hr := aFv (m := a) hb.1 hb.2
 have hr2 := aDt (m := a) hb.1
 refine g9 ?_
 refine rl (aBf rfl rfl oM) ?_
 refine g12 ?_
 refine aB rfl (fun c12_ => ?_) (fun c12_ => ?_)
 ·first | have p12_ := oT c12_ | have p12_ := beq_iff_eq.1 c12_ | have p12_ := bne_iff_ne.1 c12_ | skip
  refine g14 ?_
  refine gR rfl fun w_ s_ => ⟨?_, s_.aJ0⟩
  refine dZ ?_
  omega
 ·first | have p12_ := oF c12_ | have p12_ := beq_eq_false_iff_ne.1 c12_ | have p12_ := bne_eq_false_iff_eq.1 c12_ | skip
  refine g9 ?_
  refine gR rfl fun w_ s_ => ⟨?_, s_.aJ0⟩
  refine dZ ?_
  omega
theorem gF (a b : Int) (ha : -2000000000 ≤ a ∧ a ≤ 2000000000) (hb : 0 < b ∧ b ≤ 1000000) (w : World) : Calls Tryz.prog 92 #[iV a, iV b] w fun e w' => e = .returned (.tuple #[iV (a / b), iV (a % b)]) ∧ Below w.heap.size w w' := by
 have hdv := aGw a hb.1
 have hbn : decide (b < 0) = false := decide_eq_false oM
 obtain ⟨r, hr, bits, hfl, hin⟩ : ∃ r, Ieee.double.div (Ieee.double.nearest (decide (a < 0)) a.natAbs 0) (Ieee.double.nearest (decide (b < 0)) b.natAbs 0) = some r ∧ ∃ bits, (∀ w, Calls Tryz.prog 111 #[.float .f64 r] w fun e w' => e = .returned (.float .f64 bits) ∧ Below w.heap.size w w') ∧ (Ieee.double.read bits).toInt .zero = some (a / b) := by
  rw [hbn]
  by_cases h0 : a = 0
  ·subst h0
   refine ⟨_, Flt.quot0 oM oM, _, fun w => pF (Flt.read_zero false) w, ?_⟩
   rw [Int.zero_ediv]; exact Flt.zero_back
  ·obtain ⟨r, h1, m, e, h2, h3⟩ := Flt.quot (decide (a < 0)) (a := a.natAbs) (b := b.natAbs) oM oM oM oM
   refine ⟨r, h1, _, fun w => pF h2 w, ?_⟩
   rw [h3, Flt.int_back _ (by
    have : a.natAbs / b.natAbs ≤ a.natAbs := Nat.div_le_self _ _
    have h4 : (decide (a < 0) && a.natAbs % b.natAbs != 0).toNat ≤ 1 := Bool.toNat_le _
    omega), hdv]
 have hq : -2000000000 ≤ a / b ∧ a / b ≤ 2000000000 := by
  have h1 : a / b ≤ a.natAbs := by
   have := Int.ediv_le_ediv hb.1 (show a ≤ (a.natAbs : Int) by omega)
   have h2 := Int.ediv_le_self (b := b) (a := (a.natAbs : Int)) oM
   omega
  have h2 : -(a.natAbs : Int) ≤ a / b := (Int.le_ediv_iff_mul_le hb.1).2 (by
   have : (a.natAbs : Int) * 1 ≤ (a.natAbs : Int) * b := Int.mul_le_mul_of_nonneg_left oM oM
   rw [Int.neg_mul]; omega)
  omega
 refine aI (args := [iV a, iV b]) (L := [(0, iV a), (1, iV b)]) (N := 16) Tryz.func92 rfl rfl ble rfl (sS w) ?_
 refine g9 ?_
 refine rZ1 ((aFo rfl kR kR)) ?_
 refine rl ((aFo rfl kR kR)) ?_
 refine rl ((aGm rfl rfl hr)) ?_
 refine gL (cvo rfl (fun w_ s_ => hfl w_) ?_)
 refine rZ2 ((aHy rfl kR kR hin oM)) ?_
 refine gL (cvo rfl (fun w_ s_ => aDi _ _ oM oM w_) ?_)
 refine g5 ?_
 exact dQ (.inl rfl) rfl (aD rfl) (aD rfl) fun w_ s_ => ⟨rfl, s_.aJ0⟩
theorem aCu {a b : Int} (ha : -2000 ≤ a ∧ a ≤ 2000) (hb : 0 < b) : -2000 ≤ a / b ∧ a / b ≤ 2000 := by
 have h1 := Int.mul_ediv_add_emod a b
 have h2 := Int.emod_nonneg a (show b ≠ 0 by omega)
 have h3 := Int.emod_lt_of_pos a hb
 constructor
 ·rcases Int.lt_or_le (a / b) (-2000) with h | h
  ·have : b * (a / b) ≤ b * (-2001) := Int.mul_le_mul_of_nonneg_left oM oM
   omega
  ·exact h
 ·rcases Int.lt_or_le 2000 (a / b) with h | h
  ·have : b * 2001 ≤ b * (a / b) := Int.mul_le_mul_of_nonneg_left oM oM
   omega
  ·exact h
open Go.Md
theorem aEe (ts : List Int) : eI (ts.map fun t => (t, (0 : Int))) = bN ts := by
 unfold eI bN
 rw [List.map_map]; rfl
theorem Sees.prs {w : World} {k n c : Nat} {p : Option Addr} {e : TypeId} {ts : List Int} (s : Sees F w0 B H S w) (hk : lkp k S = some ⟨.slice p n c, e, 2, n, bN ts⟩) (hn : n = ts.length) : Prs w (.slice p ts.length c) (ts.map fun t => (t, (0 : Int))) := by
 subst hn
 rw [← aEe] at hk
 exact (SrcU.row (F := F) (w0 := w0) (S := S) (t := k) hk) B H S w (fun _ _ => rfl) s
def uD (r : Ru) (it0 : It) (a : Int) (j : Nat) : List Int := ((List.range j).map fun (i : Nat) => a + (i : Int)).filter fun i => !bad r it0 i
theorem aGd {r : Ru} {it0 : It} {a : Int} {j : Nat} (h : bad r it0 (a + j) = false) : uD r it0 a (j + 1) = uD r it0 a j ++ [a + j] := by
 unfold uD
 rw [List.range_succ, List.map_append, List.filter_append]
 simp [h]
theorem aFs {r : Ru} {it0 : It} {a : Int} {j : Nat} (h : bad r it0 (a + j) = true) : uD r it0 a (j + 1) = uD r it0 a j := by
 unfold uD
 rw [List.range_succ, List.map_append, List.filter_append]
 simp [h]
theorem aEu {r : Ru} {it0 : It} {a : Int} {n : Nat} (h : aW r it0 = (a, a + n)) : uD r it0 a n = kH r it0 := by
 unfold uD kH
 rw [h]
 simp only
 rw [show (a + (n : Int) - a).toNat = n by omega]
theorem aFn {r : Ru} {it0 : It} {a : Int} {n : Nat} {i : Int} (h : i ∈ uD r it0 a n) : a ≤ i ∧ i < a + n := by
 unfold uD at h
 obtain ⟨j, h1, rfl⟩ := List.mem_map.1 (List.mem_filter.1 h).1
 have := List.mem_range.1 h1
 omega
theorem aDp (r : Ru) (s : It) (pos : Int) : l3 r s pos = (lO (kH r s) ((if pos < 0 then pos else pos - 1) / (s.ts.length : Int))).map fun i => (Cal.daysTo s.ly + i) * 86400 + s.ts.getD ((if pos < 0 then pos else pos - 1) % (s.ts.length : Int)).toNat 0 := by
 unfold l3 lO
 dsimp only
 generalize (if pos < 0 then pos else pos - 1) = p
 generalize p / (s.ts.length : Int) = d
 generalize (if d < 0 then d + ((kH r s).length : Int) else d) = j
 by_cases h0 : j < 0
 ·rw [if_pos h0, if_pos (.inl h0)]; rfl
 ·rw [if_neg h0]
  by_cases h1 : ((kH r s).length : Int) ≤ j
  ·rw [if_pos (.inr h1), List.getElem?_eq_none oM]
  ·rw [if_neg (fun h => by rcases h with h | h <;> omega)]
theorem aDa {xs : List Int} {d i : Int} (h : lO xs d = some i) : i ∈ xs := by
 unfold lO at h
 dsimp only at h
 generalize (if d < 0 then d + (xs.length : Int) else d) = j at h
 by_cases c : j < 0 ∨ (xs.length : Int) ≤ j
 ·rw [if_pos c] at h; cases h
 ·rw [if_neg c] at h; exact List.mem_of_getElem? h
theorem aEk {Q : Exit → Act → World → Prop} (hblind : Blind Q) {r : Ru} {it0 : It} (hlim : Lim 40 B H S) {it rb : Nat} (hB : lkp 0 B = some it) (hR : lkp 1 B = some rb) {db n dc : Nat} {a : Int} {fl : Bool}
  (hS1 : lkp 1 S = some ⟨sL db n dc, 156, 2, n, dF a n (fun j => !bad r it0 (a + j))⟩) (ha : 0 ≤ a) (han : a + n ≤ 400) (hspan : aW r it0 = (a, a + n)) (hly : 1 ≤ it0.ly ∧ it0.ly ≤ 10000)
  (h12 : lkp (ky 0 12) H = some (iV (Cal.daysTo it0.ly * 86400))) (h13 : lkp (ky 0 13) H = some (iV 0)) {tp : Option Addr} {tc : Nat} (h23 : lkp (ky 0 23) H = some (.slice tp it0.ts.length tc)) (hS2 : lkp 2 S = some ⟨.slice tp it0.ts.length tc, 57, 2, it0.ts.length, bN it0.ts⟩)
  (hts : ∀ t ∈ it0.ts, 0 ≤ t ∧ t < 86400) (htn : 0 < it0.ts.length ∧ it0.ts.length ≤ 100000) {q46 : Option Addr} {e46 : Nat} (r46 : lkp (ky 1 46) H = some (.slice q46 r.setpos.length e46)) (hI46 : SrcI F w0 S (.slice q46 r.setpos.length e46) r.setpos) (hsl : r.setpos.length ≤ 1000) (hsb : ∀ q ∈ r.setpos, -1000 ≤ q ∧ q ≤ 1000)
  (r39 : lkp (ky 1 39) H = some (iV r.d0)) (r40 : lkp (ky 1 40) H = some (iV 0)) (r44 : lkp (ky 1 44) H = some (iV r.u0)) (r45 : lkp (ky 1 45) H = some (iV r.u1)) (hu : ¬ (r.u0 = 0 ∧ r.u1 = 0)) (hu1 : 0 ≤ r.u1)
  {ln : Value} (r59 : lkp (ky 1 59) H = some ln) {v28 : Value} (h28 : lkp (ky 0 28) H = some v28) (h24 : lkp (ky 0 24) H = some (iV it0.total)) (h25 : lkp (ky 0 25) H = some (iV it0.count)) {p0 : Option Addr} {c0 : Nat} (h26 : lkp (ky 0 26) H = some (.slice p0 0 c0)) {bk0 : Value} (h27 : lkp (ky 0 27) H = some bk0)
  (hS0 : lkp 0 S = some ⟨.slice p0 0 c0, 57, 2, 0, []⟩) (hrem : it0.rem = []) (hfin : it0.fin = false) (htot : 0 ≤ it0.total ∧ it0.total ≤ 1000000000000000) (hcnt : 0 ≤ it0.count ∧ it0.count ≤ 9223372036854775807)
  (hn : ∀ (o : It) (p : Option Addr) (c : Nat) (bk : Value), o = dB r it0 (dW (fT r it0)) → o.fin = false → (o.rem ≠ [] → bk = .slice p o.rem.length c) → GE Q .normal 1418 [(0, pT it), (2, pT rb), (6, .bool fl)] F w0 B ((ky 0 24, iV o.total) :: (ky 0 25, iV o.count) :: (ky 0 26, .slice p o.rem.length c) :: (ky 0 27, bk) :: H) ((0, ⟨.slice p o.rem.length c, 57, 2, o.rem.length, (bN o.rem)⟩) :: S))
  (hr : ∀ (o : It) (p : Option Addr) (c : Nat) (bk ln : Value), o = dB r it0 (dW (fT r it0)) → o.fin = true → (o.rem ≠ [] → bk = .slice p o.rem.length c) → GE Q .ret 1418 [] F w0 B ((ky 0 28, .bool true) :: (ky 1 59, ln) :: (ky 0 24, iV o.total) :: (ky 0 25, iV o.count) :: (ky 0 26, .slice p o.rem.length c) :: (ky 0 27, bk) :: H) ((0, ⟨.slice p o.rem.length c, 57, 2, o.rem.length, (bN o.rem)⟩) :: S)) : GC Tryz.prog (Go.Fr.part [1, 1, 0, 0, 1, 0, 1, 1, 1, 1, 1, 0, 1, 0] (Go.Fr.bodyOf Tryz.f96)) Q 1418 [(0, pT it), (2, pT rb), (5, sL db n dc), (6, .bool fl)] F w0 B H S := by
 have hdt : 0 ≤ Cal.daysTo it0.ly ∧ Cal.daysTo it0.ly ≤ 4000000 := by unfold Cal.daysTo; omega
 refine eA (φ := 0 < it0.ts.length → ∃ b, tp = some ⟨b, 0, none⟩ ∧ it0.ts.length ≤ tc) (fun w s h => s.head 2 hS2 h) fun hthead => ?_
 refine g10 ?_
 refine rl (rfa 46) ?_
 refine rZ5 (rld 1 rfl hR r46) ?_
 refine bJ (ι := (Nat) × (List Int) × (Option Addr) × (Nat) × (Nat)) (fun | ⟨k, ps, pp, pc, pm⟩ => r.setpos.length - k) (fun | ⟨k, ps, pp, pc, pm⟩ => (k ≤ r.setpos.length) ∧ (ps = (r.setpos.take k).foldl (fun l q => iQ l (l3 r it0 q)) []) ∧ (pm = ps.length) ∧ (pm ≤ k)) (fun | ⟨k, ps, pp, pc, pm⟩ => [(0, pT it), (2, pT rb), (5, sL db n dc), (6, .bool fl), (10, .slice pp pm pc), (371, .slice q46 r.setpos.length e46), (372, iV (r.setpos.length)), (373, iV k)]) (fun | ⟨k, ps, pp, pc, pm⟩ => B) (fun | ⟨k, ps, pp, pc, pm⟩ => H) (fun | ⟨k, ps, pp, pc, pm⟩ => ((44, ⟨.slice pp pm pc, 57, 2, pm, (bN ps)⟩) :: S)) ⟨0, [], none, 0, 0⟩ ⟨Nat.zero_le _, rfl, rfl, Nat.zero_le _⟩ kns (fun w s => by exact (s.aJ6 44 57 2)) ?_
 rintro ⟨k, ps, pp, pc, pm⟩ ⟨hk, hps, hm, hmk⟩
 show GC _ _ _ _ [(0, pT it), (2, pT rb), (5, sL db n dc), (6, .bool fl), (10, .slice pp pm pc), (371, .slice q46 r.setpos.length e46), (372, iV (r.setpos.length)), (373, iV k)] _ _ (B) (H) (((44, ⟨.slice pp pm pc, 57, 2, pm, (bN ps)⟩) :: S))
 refine g6 ?_
 refine aB rfl (fun hc1 => ?_) (fun hc2 => ?_)
 ·have hlt : k < r.setpos.length := by have := oT hc1; omega
  obtain ⟨q, hq⟩ : ∃ q, r.setpos[k]? = some q := ⟨_, List.getElem?_eq_getElem hlt⟩
  have hqb := hsb q (List.mem_of_getElem? hq)
  refine eA (fun w s => (hI46.to aG).head s oM) fun hh => ?_
  obtain ⟨b_q, o_q, hp_q⟩ := hh
  have src_q := hI46
  rw [hp_q] at src_q
  have hps1 : (r.setpos.take (k + 1)).foldl (fun l q => iQ l (l3 r it0 q)) [] = iQ ps (l3 r it0 q) := by rw [List.take_add_one, hq, List.foldl_append, ← hps]; rfl
  refine g6 ?_
  refine rl (aF (e := 3) (n := 1) kR (congrArg (fun p => some (Value.slice p _ _)) hp_q) rfl oM oM) ?_
  refine rZ9 (fR kR rfl (fun w s => src_q.cell hq aG s)) ?_
  refine cV (ι := (Int) × (Int)) (fun | ⟨dq, tq⟩ => (dq = (if q < 0 then q else q - 1) / (it0.ts.length : Int)) ∧ (tq = (if q < 0 then q else q - 1) % (it0.ts.length : Int))) (fun | ⟨dq, tq⟩ => [(0, pT it), (2, pT rb), (5, sL db n dc), (6, .bool fl), (10, .slice pp pm pc), (371, .slice q46 r.setpos.length e46), (372, iV (r.setpos.length)), (373, iV k), (12, iV q), (13, iV dq), (14, iV tq)]) (fun | ⟨dq, tq⟩ => B) (fun | ⟨dq, tq⟩ => H) (fun | ⟨dq, tq⟩ => ((44, ⟨.slice pp pm pc, 57, 2, pm, (bN ps)⟩) :: S)) ?_ ?_
  ·refine g6 ?_
   refine aB rfl (fun hc1 => ?_) (fun hc2 => ?_)
   ·have hq0 : q < 0 := oT hc1
    refine g4 ?_
    refine rl (rfa 23) ?_
    refine rZ1 (rld 0 rfl hB h23) ?_
    refine gL (cvo rfl (fun w_ s_ => gF _ _ oM oM w_) ?_)
    refine g6 ?_
    refine aO (ι := Int × Int) (q / (it0.ts.length : Int), q % (it0.ts.length : Int)) ⟨by rw [if_pos hq0], by rw [if_pos hq0]⟩ kns (fun w s => s)
   ·have hq0 : ¬ q < 0 := oF hc2
    refine g5 ?_
    refine rl (rfa 23) ?_
    refine rZ1 (rld 0 rfl hB h23) ?_
    refine gL (cvo rfl (fun w_ s_ => gF _ _ oM oM w_) ?_)
    refine g6 ?_
    refine aO (ι := Int × Int) ((q - 1) / (it0.ts.length : Int), (q - 1) % (it0.ts.length : Int)) ⟨by rw [if_neg hq0], by rw [if_neg hq0]⟩ kns (fun w s => s)
  rintro ⟨dq, tq⟩ ⟨hdq, htq⟩
  show GC _ _ _ _ [(0, pT it), (2, pT rb), (5, sL db n dc), (6, .bool fl), (10, .slice pp pm pc), (371, .slice q46 r.setpos.length e46), (372, iV (r.setpos.length)), (373, iV k), (12, iV q), (13, iV dq), (14, iV tq)] _ _ (B) (H) (((44, ⟨.slice pp pm pc, 57, 2, pm, (bN ps)⟩) :: S))
  have hn0 : (0 : Int) < (it0.ts.length : Int) := by omega
  have htb : 0 ≤ tq ∧ tq < it0.ts.length := by rw [htq]; exact ⟨Int.emod_nonneg _ oM, Int.emod_lt_of_pos _ hn0⟩
  have hdb : -2000 ≤ dq ∧ dq ≤ 2000 := by rw [hdq]; exact aCu (by split <;> omega) hn0
  have hpa := aDp r it0 q
  rw [← hdq, ← htq, ← aEu hspan] at hpa
  refine g14 ?_
  refine bJ (ι := (Nat) × (List Int) × (Option Addr) × (Nat) × (Nat)) (fun | ⟨j, xs, p2, c2, m2⟩ => n - j) (fun | ⟨j, xs, p2, c2, m2⟩ => (j ≤ n) ∧ (xs = uD r it0 a j) ∧ (m2 = xs.length) ∧ (m2 ≤ j)) (fun | ⟨j, xs, p2, c2, m2⟩ => [(0, pT it), (2, pT rb), (5, sL db n dc), (6, .bool fl), (10, .slice pp pm pc), (371, .slice q46 r.setpos.length e46), (372, iV (r.setpos.length)), (373, iV k), (12, iV q), (13, iV dq), (14, iV tq), (15, .slice p2 m2 c2), (400, sL db n dc), (401, iV n), (402, iV j)]) (fun | ⟨j, xs, p2, c2, m2⟩ => B) (fun | ⟨j, xs, p2, c2, m2⟩ => H) (fun | ⟨j, xs, p2, c2, m2⟩ => ((51, ⟨.slice p2 m2 c2, 3, 1, m2, (xs.map iV)⟩) :: ((44, ⟨.slice pp pm pc, 57, 2, pm, (bN ps)⟩) :: S))) ⟨0, [], none, 0, 0⟩ ⟨Nat.zero_le _, rfl, rfl, Nat.zero_le _⟩ kns (fun w s => by exact (s.aJ6 51 3 1)) ?_
  rintro ⟨j, xs, p2, c2, m2⟩ ⟨hj, hxs, hm2, hmj⟩
  show GC _ _ _ _ [(0, pT it), (2, pT rb), (5, sL db n dc), (6, .bool fl), (10, .slice pp pm pc), (371, .slice q46 r.setpos.length e46), (372, iV (r.setpos.length)), (373, iV k), (12, iV q), (13, iV dq), (14, iV tq), (15, .slice p2 m2 c2), (400, sL db n dc), (401, iV n), (402, iV j)] _ _ (B) (H) (((51, ⟨.slice p2 m2 c2, 3, 1, m2, (xs.map iV)⟩) :: ((44, ⟨.slice pp pm pc, 57, 2, pm, (bN ps)⟩) :: S)))
  refine g6 ?_
  refine aB rfl (fun hc1 => ?_) (fun hc2 => ?_)
  ·have hjn : j < n := by have := oT hc1; omega
   obtain ⟨hd1, hd2⟩ := pU a n (fun j => !bad r it0 (a + j)) hjn
   refine g6 ?_
   refine rl (aF (e := 156) (n := 2) kR rfl rfl oM oM) ?_
   refine rl (eC 1 rfl hS1 rfl (by rw [← hd1]; congr 1; omega) (by rw [← hd2]; congr 1; omega) kR) ?_
   refine gL (alo 53 (cs := [iV 0, .bool false]) kR (hlim.b 53 dE) (fun b1_ hbb1_ => ?_))
   refine gL (sta 53 rfl rfl rfl rfl ?_)
   refine g4 ?_
   refine rl (rfa 1) ?_
   refine rZ2 (rld 53 rfl rfl rfl) ?_
   refine aB rfl (fun hb => ?_) (fun hb => ?_)
   ·have hbad : bad r it0 (a + j) = false := by simpa using hb
    refine g2 ?_
    refine rl (rfa 0) ?_
    refine rl (rld 53 rfl rfl rfl) ?_
    refine gL (dK 52 (e := 3) (sz := 1) (by_ := 8) (zs := [iV 0]) dE kR rfl dE dE rfl rfl rfl (fun bo => ?_))
    refine gL (cU 51 52 (e := 3) (sz := 1) (by_ := 8) (zs := [iV 0]) dE kR rfl dE rfl rfl rfl rfl ⟨rfl, rfl⟩ ⟨rfl, rfl⟩ (f9 (xs := [a + j])) sO sO (fun p3 c3 => ?_))
    refine g8 ?_
    refine aQ ⟨j + 1, xs ++ [a + j], p3, c3, m2 + 1⟩ sO ⟨by omega, by rw [aGd hbad, hxs], by rw [hm2, List.length_append]; rfl, by omega⟩ kns (fun w s => by exact (by have s2 : Sees F w0 _ _ ((51, ⟨.slice p3 (m2 + 1) c3, 3, 1, (m2 + 1), xs.map iV ++ [iV (a + j)]⟩) :: _) _ := s; rw [aGs] at s2; exact (s2.low 52 (((hlim.mono dE).aJ2 dE).aJ2 dE) agx agx agx)))
   ·have hbad : bad r it0 (a + j) = true := by simpa using hb
    refine g7 ?_
    refine aQ ⟨j + 1, xs, p2, c2, m2⟩ sO ⟨by omega, by rw [aFs hbad, hxs], hm2, by omega⟩ kns (fun w s => by exact (s.low 52 (((hlim.mono dE).aJ2 dE).aJ2 dE) agx agx agx))
  ·have hge : ¬ j < n := by have := oF hc2; omega
   obtain rfl : n = j := by omega
   rw [← hxs] at hpa
   refine g9 ?_
   refine gL (cbx (fun y : Int × Value => .tuple #[iV y.1, y.2]) (fun y => lO xs dq = some y.1 ∧ y.2 = .nilIface ∨ lO xs dq = none ∧ ∃ b, y.2 = .iface 139 (pT b)) rfl (fun w_ s_ => by rw [hm2] at s_ ⊢; exact xR xs dq _ _ oM oM w_ (s_.ints 51 rfl)) (fun | (i, ev_), hy => ?_))
   refine g9 ?_
   rcases hy with ⟨hsub, rfl⟩ | ⟨hsub, b_, rfl⟩
   ·have hir := aFn (r := r) (it0 := it0) (a := a) (n := n) (by rw [← hxs]; exact aDa hsub)
    obtain ⟨t, htj⟩ : ∃ t, it0.ts[tq.toNat]? = some t := ⟨_, List.getElem?_eq_getElem oM⟩
    obtain ⟨ht1, ht2⟩ := lB htj
    have htr := hts t (List.mem_of_getElem? htj)
    obtain ⟨tb, rfl, htcap⟩ : ∃ b, tp = some ⟨b, 0, none⟩ ∧ it0.ts.length ≤ tc := hthead oM
    have hgt : it0.ts.getD tq.toNat 0 = t := by rw [List.getD_eq_getElem?_getD, htj]; rfl
    rw [hsub, hgt] at hpa
    have hpa : l3 r it0 q = some ((Cal.daysTo it0.ly + i) * 86400 + t) := hpa
    have hmo := Cal.month_bd (Cal.daysTo it0.ly + i)
    have hye := Cal.year_le (Cal.daysTo it0.ly + i) oM
    have hyd := gX (x := (Cal.daysTo it0.ly + i) * 86400) oM
    rw [show (Cal.daysTo it0.ly + i) * 86400 / 86400 = (Cal.daysTo it0.ly + i) by omega] at hyd
    refine g2 ?_
    refine rl ((tR (v := .bool false) rfl rfl kW)) ?_
    refine g2 ?_
    refine yZ7 ?_
    refine rl (rfa 23) ?_
    refine rZ1 (rld 0 rfl hB h23) ?_
    refine rl (aF (e := 57) (n := 2) kR rfl rfl oM oM) ?_
    refine rl (eC 2 rfl hS2 rfl (by rw [← ht1]; congr 1; omega) (by rw [← ht2]; congr 1; omega) kR) ?_
    refine gL (alo 50 (cs := [iV 0, iV 0]) kR (hlim.b 50 dE) (fun b2_ hbb2_ => ?_))
    refine gL (sta 50 rfl rfl rfl rfl ?_)
    refine g6 ?_
    refine rl (rfa 7) ?_
    refine rl (rfa 5) ?_
    refine rZ1 (aV 0 rfl hB h12 h13 kR dE) ?_
    refine gL (cvo (v := .agg #[iV ((Cal.daysTo it0.ly + i) * 86400), iV 0]) rfl (fun w_ s_ => (oS _ _ _ oM oM oM w_).mono fun e_ w2_ h_ => ⟨h_.1.trans (congrArg Ending.returned (by rw [show Cal.daysTo it0.ly * 86400 + i * 86400 = (Cal.daysTo it0.ly + i) * 86400 by omega])), h_.2⟩) ?_)
    refine gL (cvo (v := .tuple #[iV (Cal.yearOf (Cal.daysTo it0.ly + i)), iV (Cal.monthOf (Cal.daysTo it0.ly + i)), iV (Cal.mdayOf (Cal.daysTo it0.ly + i))]) rfl (fun w_ s_ => (jZ _ _ oM w_).mono fun e_ w2_ h_ => ⟨h_.1.trans (congrArg Ending.returned (by rw [show (Cal.daysTo it0.ly + i) * 86400 / 86400 = (Cal.daysTo it0.ly + i) by omega])), h_.2⟩) ?_)
    refine g11 ?_
    refine rl (aV 50 rfl rfl rfl rfl kR dE) ?_
    refine gL (cvo (v := .tuple #[iV (t % 86400 / 3600), iV (t % 86400 / 60 % 60), iV (t % 86400 % 60)]) rfl (fun w_ s_ => (iF _ _ oM w_).mono fun e_ w2_ h_ => ⟨h_.1.trans (congrArg Ending.returned rfl), h_.2⟩) ?_)
    refine g9 ?_
    refine cV (ι := (Nat)) (fun bt => True) (fun bt => [(0, pT it), (2, pT rb), (5, sL db n dc), (6, .bool fl), (10, .slice pp pm pc), (371, .slice q46 r.setpos.length e46), (372, iV (r.setpos.length)), (373, iV k), (27, pT bt)]) (fun bt => (49, bt) :: B) (fun bt => aC 49 0 [iV ((Cal.daysTo it0.ly + i) * 86400 + t), iV 0] ++ H) (fun bt => ((44, ⟨.slice pp pm pc, 57, 2, pm, (bN ps)⟩) :: S)) ?_ ?_
    ·refine jJ (fun i => i == 12) kR ?_
     refine gr 0 rfl (bD rfl) ?_
     refine gr 1 rfl (bD rfl) ?_
     refine gr 2 rfl (bD rfl) ?_
     refine gr 3 rfl (bD rfl) ?_
     refine gr 4 rfl (bD rfl) ?_
     refine gr 5 rfl (bD rfl) ?_
     refine gr 6 rfl (aV 50 rfl rfl rfl rfl kR dE) ?_
     refine gr 8 rfl (aV 50 rfl rfl rfl rfl kR dE) ?_
     refine kL (i := 7) (j := 11) rfl rfl rfl rfl kR rfl rfl ?_ ?_
     ·refine cvo rfl (fun w_ s_ => iM _ _ oM w_) (gk ?_)
      refine kL (i := 9) (j := 11) rfl rfl rfl rfl kR rfl rfl ?_ ?_
      ·refine cvo rfl (fun w_ s_ => dN _ _ w_) (gk ?_)
       refine kL (i := 10) (j := 11) rfl rfl rfl rfl kR rfl rfl ?_ ?_
       ·refine cvo (v := .agg #[iV (((Cal.daysTo it0.ly + i) * 86400 + t)), iV 0]) rfl (fun w_ s_ => (cY _ _ _ _ _ _ _ oM oM oM oM oM oM oM w_).mono fun e_ w2_ h_ => ⟨h_.1.trans (congrArg Ending.returned (by rw [lL htr])), h_.2⟩) (gk ?_)
        refine gn 11 rfl (alo 49 (cs := [iV 0, iV 0]) kR (hlim.b 49 dE) (fun b3_ hbb3_ => eL (fun _ w s => by exact s.aJ7 (hlim.b 49 dE) lhx ble) ?_))
        refine gn 12 rfl (sta 49 rfl rfl rfl rfl (gk ?_))
        refine eE kR ?_
        refine aO (ι := Nat) b3_ trivial kns (fun w s => by exact s.low 50 (((Lim.aJ4 dE _ 0 ble ((hlim.mono dE).aJ3 dE))).aJ2 dE) agx agx agx)
       ·refine alo 49 (cs := [iV 0, iV 0]) kR (hlim.b 49 dE) (fun b4_ hbb4_ => eL (fun _ w s => by exact s.aJ7 (hlim.b 49 dE) lhx ble) ?_)
        refine gn 10 rfl (cvo (v := .agg #[iV (((Cal.daysTo it0.ly + i) * 86400 + t)), iV 0]) rfl (fun w_ s_ => (cY _ _ _ _ _ _ _ oM oM oM oM oM oM oM w_).mono fun e_ w2_ h_ => ⟨h_.1.trans (congrArg Ending.returned (by rw [lL htr])), h_.2⟩) (eL (fun _ w s => by exact s.aJ7 (hlim.b 49 dE) lhx ble) ?_))
        refine gn 12 rfl (sta 49 rfl rfl rfl rfl (gk ?_))
        refine eE kR ?_
        refine aO (ι := Nat) b4_ trivial kns (fun w s => by exact s.low 50 (((Lim.aJ4 dE _ 0 ble ((hlim.mono dE).aJ3 dE))).aJ2 dE) agx agx agx)
      ·refine alo 49 (cs := [iV 0, iV 0]) kR (hlim.b 49 dE) (fun b5_ hbb5_ => eL (fun _ w s => by exact s.aJ7 (hlim.b 49 dE) lhx ble) ?_)
       refine gn 9 rfl (cvo rfl (fun w_ s_ => dN _ _ w_) (eL (fun _ w s => by exact s.aJ7 (hlim.b 49 dE) lhx ble) ?_))
       refine gn 10 rfl (cvo (v := .agg #[iV (((Cal.daysTo it0.ly + i) * 86400 + t)), iV 0]) rfl (fun w_ s_ => (cY _ _ _ _ _ _ _ oM oM oM oM oM oM oM w_).mono fun e_ w2_ h_ => ⟨h_.1.trans (congrArg Ending.returned (by rw [lL htr])), h_.2⟩) (eL (fun _ w s => by exact s.aJ7 (hlim.b 49 dE) lhx ble) ?_))
       refine gn 12 rfl (sta 49 rfl rfl rfl rfl (gk ?_))
       refine eE kR ?_
       refine aO (ι := Nat) b5_ trivial kns (fun w s => by exact s.low 50 (((Lim.aJ4 dE _ 0 ble ((hlim.mono dE).aJ3 dE))).aJ2 dE) agx agx agx)
     ·refine alo 49 (cs := [iV 0, iV 0]) kR (hlim.b 49 dE) (fun b6_ hbb6_ => eL (fun _ w s => by exact s.aJ7 (hlim.b 49 dE) lhx ble) ?_)
      refine gn 7 rfl (cvo rfl (fun w_ s_ => iM _ _ oM w_) (eL (fun _ w s => by exact s.aJ7 (hlim.b 49 dE) lhx ble) ?_))
      refine gn 9 rfl (cvo rfl (fun w_ s_ => dN _ _ w_) (eL (fun _ w s => by exact s.aJ7 (hlim.b 49 dE) lhx ble) ?_))
      refine gn 10 rfl (cvo (v := .agg #[iV (((Cal.daysTo it0.ly + i) * 86400 + t)), iV 0]) rfl (fun w_ s_ => (cY _ _ _ _ _ _ _ oM oM oM oM oM oM oM w_).mono fun e_ w2_ h_ => ⟨h_.1.trans (congrArg Ending.returned (by rw [lL htr])), h_.2⟩) (eL (fun _ w s => by exact s.aJ7 (hlim.b 49 dE) lhx ble) ?_))
      refine gn 12 rfl (sta 49 rfl rfl rfl rfl (gk ?_))
      refine eE kR ?_
      refine aO (ι := Nat) b6_ trivial kns (fun w s => by exact s.low 50 (((Lim.aJ4 dE _ 0 ble ((hlim.mono dE).aJ3 dE))).aJ2 dE) agx agx agx)
    rintro bt -
    show GC _ _ _ _ [(0, pT it), (2, pT rb), (5, sL db n dc), (6, .bool fl), (10, .slice pp pm pc), (371, .slice q46 r.setpos.length e46), (372, iV (r.setpos.length)), (373, iV k), (27, pT bt)] _ _ ((49, bt) :: B) (aC 49 0 [iV ((Cal.daysTo it0.ly + i) * 86400 + t), iV 0] ++ H) (((44, ⟨.slice pp pm pc, 57, 2, pm, (bN ps)⟩) :: S))
    refine g3 ?_
    refine rl (aV 49 rfl rfl rfl rfl kR dE) ?_
    refine gL (cvo (v := .bool (ps.any (· == ((Cal.daysTo it0.ly + i) * 86400 + t)))) rfl (fun w_ s_ => by rw [hm] at s_ ⊢; exact pA ps _ _ _ oM w_ (Sees.prs (k := 44) s_ rfl rfl)) ?_)
    refine g3 ?_
    refine aB rfl (fun hb => ?_) (fun hb => ?_)
    ·have hany : ps.any (· == ((Cal.daysTo it0.ly + i) * 86400 + t)) = false := by simpa using hb
     have hadd : iQ ps (l3 r it0 q) = ps ++ [((Cal.daysTo it0.ly + i) * 86400 + t)] := by rw [hpa]; unfold iQ; simp only; rw [hany]; rfl
     refine g2 ?_
     refine rl (aV 49 rfl rfl rfl rfl kR dE) ?_
     refine gL (dK 46 (e := 57) (sz := 2) (by_ := 16) (zs := [iV 0, iV 0]) dE kR rfl dE dE rfl rfl rfl (fun bo => ?_))
     refine gL (cU 44 46 (e := 57) (sz := 2) (by_ := 16) (zs := [iV 0, iV 0]) dE kR rfl dE rfl rfl rfl rfl ⟨rfl, rfl⟩ ⟨rfl, rfl⟩ xA sO sO (fun p3 c3 => ?_))
     refine g8 ?_
     refine aQ ⟨k + 1, ps ++ [((Cal.daysTo it0.ly + i) * 86400 + t)], p3, c3, pm + 1⟩ sO ⟨by omega, by rw [hps1, hadd], by rw [hm, List.length_append]; rfl, by omega⟩ kns (fun w s => by exact (by have s2 : Sees F w0 _ _ ((44, ⟨.slice p3 (pm + 1) c3, 57, 2, (pm + 1), bN ps ++ [iV ((Cal.daysTo it0.ly + i) * 86400 + t), iV 0]⟩) :: _) _ := s; rw [eM] at s2; exact (s2.low 45 ((hlim.mono dE).aJ2 dE) agx agx agx)))
    ·have hany : ps.any (· == ((Cal.daysTo it0.ly + i) * 86400 + t)) = true := by simpa using hb
     have hadd : iQ ps (l3 r it0 q) = ps := by rw [hpa]; unfold iQ; simp only; rw [hany]; rfl
     refine g7 ?_
     refine aQ ⟨k + 1, ps, pp, pc, pm⟩ sO ⟨by omega, by rw [hps1, hadd], hm, by omega⟩ kns (fun w s => by exact (s.low 45 ((hlim.mono dE).aJ2 dE) agx agx agx))
   ·rw [hsub] at hpa
    have hpa : iQ ps (l3 r it0 q) = ps := by rw [hpa]; rfl
    refine g2 ?_
    refine rl ((tR (v := .bool true) rfl rfl kW)) ?_
    refine kQ ?_
    refine aQ ⟨k + 1, ps, pp, pc, pm⟩ sO ⟨by omega, by rw [hps1, hpa], hm, by omega⟩ kns (fun w s => by exact (s.low 45 ((hlim.mono dE).aJ2 dE) agx agx agx))
 ·have hge : ¬ k < r.setpos.length := by have := oF hc2; omega
  obtain rfl : k = r.setpos.length := by omega
  rw [List.take_length] at hps
  have hpl : ps = fT r it0 := hps
  subst hpl
  refine g8 ?_
  refine rl ((gN (r := .iface 122 (.slice pp pm pc)) rfl kW)) ?_
  refine gL (dR (ι := Unit) (fun _ => .tuple #[]) (fun _ => True) (fun _ => B) (fun _ => H) (fun _ => ((44, ⟨.slice pp pm pc, 57, 2, pm, (bN (dW (fT r it0)))⟩) :: (44, ⟨.slice pp pm pc, 57, 2, pm, (bN (fT r it0))⟩) :: S)) dE kR rfl (fun w_ s_ => by rw [hm] at s_ ⊢; exact (mI (t := 44) dE oM ((hlim.mono dE).aJ2 dE) rfl w_ s_).mono fun e_ w2_ h_ => ⟨(), trivial, h_.1, h_.2⟩) (fun _ _ => ?_))
  refine g10 ?_
  have hll : (dW (fT r it0)).length = pm := by unfold dW; rw [List.length_mergeSort, hm]
  refine bJ (ι := (Nat) × (It) × (Int) × (Int) × (Nat) × (List Value) × (Option Addr) × (Nat) × (Value)) (fun | ⟨j, o1, tt1, cc1, m1, xs1, p1, c1, bk1⟩ => pm - j) (fun | ⟨j, o1, tt1, cc1, m1, xs1, p1, c1, bk1⟩ => (j ≤ pm) ∧ (o1 = dB r it0 ((dW (fT r it0)).take j)) ∧ (o1.fin = false) ∧ (tt1 = o1.total) ∧ (cc1 = o1.count) ∧ (m1 = o1.rem.length) ∧ (xs1 = bN o1.rem) ∧ (0 ≤ cc1 ∧ cc1 ≤ 9223372036854775807) ∧ (0 ≤ tt1 ∧ tt1 ≤ it0.total + (j : Nat)) ∧ (m1 ≤ j) ∧ (m1 ≠ 0 → bk1 = .slice p1 m1 c1)) (fun | ⟨j, o1, tt1, cc1, m1, xs1, p1, c1, bk1⟩ => [(0, pT it), (2, pT rb), (6, .bool fl), (470, .slice pp pm pc), (471, iV pm), (472, iV j)]) (fun | ⟨j, o1, tt1, cc1, m1, xs1, p1, c1, bk1⟩ => B) (fun | ⟨j, o1, tt1, cc1, m1, xs1, p1, c1, bk1⟩ => (ky 0 24, iV tt1) :: (ky 0 25, iV cc1) :: (ky 0 26, .slice p1 m1 c1) :: (ky 0 27, bk1) :: H) (fun | ⟨j, o1, tt1, cc1, m1, xs1, p1, c1, bk1⟩ => (0, ⟨.slice p1 m1 c1, 57, 2, m1, xs1⟩) :: ((44, ⟨.slice pp pm pc, 57, 2, pm, (bN (dW (fT r it0)))⟩) :: S)) ⟨0, it0, it0.total, it0.count, 0, [], p0, c0, bk0⟩ ⟨Nat.zero_le _, rfl, hfin, rfl, rfl, by rw [hrem]; rfl, by rw [hrem]; rfl, hcnt, ⟨htot.1, by omega⟩, Nat.zero_le _, fun h => absurd rfl h⟩ kns (fun w s => by exact (s.row_last.to (fun _ _ h => h) (fun k o v ho h => (by rcases bB h with ⟨e, rfl⟩ | ⟨_, h⟩; { rw [e]; exact ⟨h24, by obtain ⟨rfl, rfl⟩ := gK ho dE e; rw [hB]; rfl⟩ }; rcases bB h with ⟨e, rfl⟩ | ⟨_, h⟩; { rw [e]; exact ⟨h25, by obtain ⟨rfl, rfl⟩ := gK ho dE e; rw [hB]; rfl⟩ }; rcases bB h with ⟨e, rfl⟩ | ⟨_, h⟩; { rw [e]; exact ⟨h26, by obtain ⟨rfl, rfl⟩ := gK ho dE e; rw [hB]; rfl⟩ }; rcases bB h with ⟨e, rfl⟩ | ⟨_, h⟩; { rw [e]; exact ⟨h27, by obtain ⟨rfl, rfl⟩ := gK ho dE e; rw [hB]; rfl⟩ }; exact ⟨h, by obtain ⟨b, e, _⟩ := s.cells k o v ho h; rw [e]; rfl⟩)) (fun j q h => (by rcases bB h with ⟨rfl, rfl⟩ | ⟨_, h⟩; exact hS0; exact h)))) ?_
  rintro ⟨j, o1, tt1, cc1, m1, xs1, p1, c1, bk1⟩ ⟨hj, ho1, hf1, ht1_, hc1_, hm1, hx1, hcc1, htb1, hmb1, hbk1⟩
  show GC _ _ _ _ [(0, pT it), (2, pT rb), (6, .bool fl), (470, .slice pp pm pc), (471, iV pm), (472, iV j)] _ _ (B) ((ky 0 24, iV tt1) :: (ky 0 25, iV cc1) :: (ky 0 26, .slice p1 m1 c1) :: (ky 0 27, bk1) :: H) ((0, ⟨.slice p1 m1 c1, 57, 2, m1, xs1⟩) :: ((44, ⟨.slice pp pm pc, 57, 2, pm, (bN (dW (fT r it0)))⟩) :: S))
  refine g6 ?_
  refine aB rfl (fun hc1 => ?_) (fun hc2 => ?_)
  ·have hjt : j < pm := by have := oT hc1; omega
   obtain ⟨t, htj⟩ : ∃ t, (dW (fT r it0))[j]? = some t := ⟨_, List.getElem?_eq_getElem oM⟩
   obtain ⟨ht1, ht2⟩ := lB htj
   refine eA (fun w s => s.head 44 rfl oM) fun hh => ?_
   obtain ⟨tb, rfl, htcap⟩ := hh
   have hts1 := mU (r := r) (o := it0) htj
   rw [← ho1] at hts1
   refine g6 ?_
   refine rl (aF (e := 57) (n := 2) kR rfl rfl oM oM) ?_
   refine rl (eC 44 rfl rfl rfl (by rw [← ht1]; congr 1; omega) (by rw [← ht2]; congr 1; omega) kR) ?_
   refine gL (alo 47 (cs := [iV 0, iV 0]) kR (hlim.b 47 dE) (fun b7_ hbb7_ => ?_))
   refine gL (sta 47 rfl rfl rfl rfl ?_)
   refine g6 ?_
   refine rq (rfa 44) ?_
   refine rq (aV 1 rfl hR r44 r45 kR dE) ?_
   refine eU dE kR rfl (fun w_ s_ => kM _ _ w_) ?_
   refine rq ((gA rfl).to (v' := .bool true) (cB (by rw [decide_eq_false hu]; rfl))) ?_
   refine g2 ?_
   refine rq (aV 47 rfl rfl rfl rfl kR dE) ?_
   refine g5 ?_
   refine rq (rfa 44) ?_
   refine g1 ?_
   refine rq (aV 1 rfl hR r44 r45 kR dE) ?_
   refine g1 ?_
   refine eU (v := .bool (decide (r.u0 < t))) dE kR rfl (fun w_ s_ => (rT _ _ _ _ w_).mono fun e_ w2_ h_ => ⟨h_.1.trans (congrArg Ending.returned (cB (decide_eq_decide.2 oM))), h_.2⟩) ?_
   refine g3 ?_
   refine aB rfl (fun hc1 => ?_) (fun hc2 => ?_)
   ·have hun : r.u0 < t := oT hc1
    have hem : f7 r o1 t = { o1 with fin := true } := lD hf1 hun
    refine g5 ?_
    refine rl (rfa 24) ?_
    refine rZ1 (rld 0 rfl hB rfl) ?_
    refine rl (rfa 59) ?_
    refine gL (sto 1 rfl rfl hR r59 ?_)
    refine g6 ?_
    refine rl (rfa 28) ?_
    refine gL (sto 0 rfl rfl hB h28 ?_)
    refine g7 ?_
    have hfin2 : ({ o1 with fin := true } : It).fin = true := rfl
    have hall : ({ o1 with fin := true } : It) = dB r it0 (dW (fT r it0)) := by
     have e1 : dB r it0 (dW (fT r it0)) = _ := jK (j := j + 1) ((congrArg It.fin (hts1.trans hem)).trans hfin2)
     rw [hts1, hem] at e1
     exact e1.symm
    refine jP (fun a q => q.nil) (fun w s => ?_) (hr { o1 with fin := true } p1 c1 bk1 (iV tt1) hall hfin2 (fun h => by rw [← hm1]; exact hbk1 (fun e => h (List.eq_nil_of_length_eq_zero sO))))
    subst ht1_ hc1_ hm1 hx1
    exact s.low 40 (((((((hlim.aJ1 dE dE).aJ1 dE dE).aJ1 dE dE).aJ1 dE dE).aJ1 dE dE).aJ1 dE dE).aJ2 dE) agx agx agx
   ·have hun : ¬ r.u0 < t := oF hc2
    refine g2 ?_
    refine rq (aV 47 rfl rfl rfl rfl kR dE) ?_
    refine g2 ?_
    refine rq (rfa 39) ?_
    refine rq (aV 1 rfl hR r39 r40 kR dE) ?_
    refine eU (v := .bool (decide (t < r.d0))) dE kR rfl (fun w_ s_ => (kS _ _ _ _ w_).mono fun e_ w2_ h_ => ⟨h_.1.trans (congrArg Ending.returned (cB (decide_eq_decide.2 oM))), h_.2⟩) ?_
    refine g3 ?_
    refine aB rfl (fun hc1 => ?_) (fun hc2 => ?_)
    ·have hst : ¬ t < r.d0 := by simpa using hc1
     refine g4 ?_
     refine rl (rfa 24) ?_
     refine rZ2 (rld 0 rfl hB rfl) ?_
     refine rl (rfa 24) ?_
     refine gL (sto 0 rfl rfl hB rfl ?_)
     refine g3 ?_
     refine dL 4 kR kR ?_
     refine g2 ?_
     refine rt (rfa 26) ?_
     refine rt (aV 47 rfl rfl rfl rfl kR dE) ?_
     refine g1 ?_
     refine gL (dR (ι := Option Addr × Nat) (fun _ => .tuple #[]) (fun _ => True) (fun _ => _) (fun x => (ky 0 27, .slice x.1 (m1 + 1) x.2) :: (ky 0 26, .slice x.1 (m1 + 1) x.2) :: _) (fun x => (0, ⟨.slice x.1 (m1 + 1) x.2, 57, 2, m1 + 1, xs1 ++ [iV t, iV 0]⟩) :: _) dE kR rfl (fun w_ s_ => (pH (((Lim.seqH dE _ 0 ble (Lim.aJ4 dE _ 0 ble ((((((hlim.mono dE).aJ3 dE).aJ1 dE dE).aJ1 dE dE).aJ1 dE dE).aJ1 dE dE))).aJ2 dE |>.aJ2 dE).aJ1 dE dE) (by exact hB) (q := ⟨.slice p1 m1 c1, 57, 2, m1, xs1⟩) rfl rfl rfl ⟨rfl, rfl⟩ sO w_ s_).mono fun e w' ⟨p', c', he, hs⟩ => ⟨(p', c'), trivial, he, hs⟩) (fun | (p2, c2), _ => ?_))
     refine g6 ?_
     refine rl (rfa 25) ?_
     refine rZ3 (rld 0 rfl hB rfl) ?_
     refine aB rfl (fun hc1 => ?_) (fun hc2 => ?_)
     ·have hcz : cc1 ≠ 0 := bne_iff_ne.1 hc1
      have hem : f7 r o1 t = { o1 with total := o1.total + 1, rem := o1.rem ++ [t], count := o1.count - 1, fin := o1.count - 1 == 0 } := lE hf1 hun hst oM
      refine g4 ?_
      refine rl (rfa 25) ?_
      refine rZ2 (rld 0 rfl hB rfl) ?_
      refine rl (rfa 25) ?_
      refine gL (sto 0 rfl rfl hB rfl ?_)
      refine g6 ?_
      refine rl (rfa 25) ?_
      refine rZ3 (rld 0 rfl hB rfl) ?_
      refine aB rfl (fun hc1 => ?_) (fun hc2 => ?_)
      ·have hz : cc1 - 1 = 0 := beq_iff_eq.1 hc1
       refine g5 ?_
       refine rl (rfa 24) ?_
       refine rZ1 (rld 0 rfl hB rfl) ?_
       refine rl (rfa 59) ?_
       refine gL (sto 1 rfl rfl hR r59 ?_)
       refine g6 ?_
       refine rl (rfa 28) ?_
       refine gL (sto 0 rfl rfl hB h28 ?_)
       refine g7 ?_
       have hfin2 : ({ o1 with total := o1.total + 1, rem := o1.rem ++ [t], count := o1.count - 1, fin := o1.count - 1 == 0 } : It).fin = true := (beq_iff_eq.2 oM)
       have hall : ({ o1 with total := o1.total + 1, rem := o1.rem ++ [t], count := o1.count - 1, fin := o1.count - 1 == 0 } : It) = dB r it0 (dW (fT r it0)) := by
        have e1 : dB r it0 (dW (fT r it0)) = _ := jK (j := j + 1) ((congrArg It.fin (hts1.trans hem)).trans hfin2)
        rw [hts1, hem] at e1
        exact e1.symm
       refine jP (fun a q => q.nil) (fun w s => ?_) (hr { o1 with total := o1.total + 1, rem := o1.rem ++ [t], count := o1.count - 1, fin := o1.count - 1 == 0 } p2 c2 (.slice p2 (m1 + 1) c2) (iV (tt1 + 1)) hall hfin2 (fun _ => by simp only [List.length_append, List.length_singleton]; rw [hm1]))
       subst ht1_ hc1_ hm1 hx1
       rw [eM] at s
       simp only [List.length_append, List.length_singleton]
       exact s.low 40 (((((((hlim.aJ1 dE dE).aJ1 dE dE).aJ1 dE dE).aJ1 dE dE).aJ1 dE dE).aJ1 dE dE).aJ2 dE) agx agx agx
      ·have hz : cc1 - 1 ≠ 0 := beq_eq_false_iff_ne.1 hc2
       refine g7 ?_
       refine aQ ⟨j + 1, { o1 with total := o1.total + 1, rem := o1.rem ++ [t], count := o1.count - 1, fin := o1.count - 1 == 0 }, tt1 + 1, cc1 - 1, m1 + 1, xs1 ++ [iV t, iV 0], p2, c2, .slice p2 (m1 + 1) c2⟩ sO ⟨by omega, by rw [hts1, hem], by simp only [beq_eq_false_iff_ne]; omega, by rw [ht1_], by rw [hc1_], by simp [hm1], by rw [hx1]; exact eM _ _, by omega, by omega, by omega, fun _ => rfl⟩ kns (fun w s => by exact (s.low 45 (((((((hlim.mono dE).aJ1 dE dE).aJ1 dE dE).aJ1 dE dE).aJ1 dE dE).aJ2 dE).aJ2 dE) agx agx agx))
     ·have hcz : cc1 = 0 := bne_eq_false_iff_eq.1 hc2
      have hem : f7 r o1 t = { o1 with total := o1.total + 1, rem := o1.rem ++ [t] } := mA hf1 hun hst oM
      refine g7 ?_
      refine aQ ⟨j + 1, { o1 with total := o1.total + 1, rem := o1.rem ++ [t] }, tt1 + 1, cc1, m1 + 1, xs1 ++ [iV t, iV 0], p2, c2, .slice p2 (m1 + 1) c2⟩ sO ⟨by omega, by rw [hts1, hem], hf1, by rw [ht1_], hc1_, by simp [hm1], by rw [hx1]; exact eM _ _, hcc1, by omega, by omega, fun _ => rfl⟩ kns (fun w s => by exact (s.low 45 (((((((hlim.mono dE).aJ1 dE dE).aJ1 dE dE).aJ1 dE dE).aJ1 dE dE).aJ2 dE).aJ2 dE) agx agx agx))
    ·have hst : t < r.d0 := by simpa using hc2
     have hem : f7 r o1 t = o1 := mK hf1 hun hst
     refine g7 ?_
     refine aQ ⟨j + 1, o1, tt1, cc1, m1, xs1, p1, c1, bk1⟩ sO ⟨by omega, by rw [hts1, hem], hf1, ht1_, hc1_, hm1, hx1, hcc1, ⟨htb1.1, by omega⟩, by omega, hbk1⟩ kns (fun w s => by exact (s.low 45 (((((((hlim.mono dE).aJ1 dE dE).aJ1 dE dE).aJ1 dE dE).aJ1 dE dE).aJ2 dE).aJ2 dE) agx agx agx))
  ·have hge : ¬ j < pm := by have := oF hc2; omega
   obtain rfl : j = pm := by omega
   rw [← hll, List.take_length] at ho1
   refine g4 ?_
   refine jP kns (fun w s => ?_) (hn o1 p1 c1 bk1 ho1 hf1 (fun h => by rw [← hm1]; exact hbk1 (fun e => h (List.eq_nil_of_length_eq_zero oM))))
   subst ht1_ hc1_ hm1 hx1
   exact s.low 40 (((((hlim.aJ1 dE dE).aJ1 dE dE).aJ1 dE dE).aJ1 dE dE).aJ2 dE) agx agx agx
theorem aC2 {S0 : LS} {H0 : LV} {r : Ru} {l : Ra} {it rb : Nat} {s : It} {a : Ad} (st : St F w0 S0 H0 it rb r l s a B H S) (hr : RuOk r) (hk : ItOk r s) : ∀ w, Sees F w0 B H S w → Calls Tryz.prog 114 #[.pointer (some ⟨it, 7, none⟩), iV r.freq, iV s.y, iV s.mo, iV s.d] w fun e w' => e = .returned (.tuple #[iV (aW r s).1, iV (aW r s).2]) ∧ Sees F w0 B H S w' := by
 have hf := hr.freq
 unfold aW
 by_cases h0 : r.freq = 0
 ·rw [if_pos h0, h0]; exact zO st.hB st.h10
 ·rw [if_neg h0]
  by_cases h1 : r.freq = 1
  ·rw [if_pos h1, h1]
   have hm := hk.mo
   exact vX st.hB st.h16 st.hS7 hk.mo (by rw [List.getElem?_map, aEc oM]; rfl) (by rw [List.getElem?_map, aEc oM]; rfl)
  ·rw [if_neg h1]
   have hy := hk.y
   have hd := hk.d
   have hyd := n5 hk.mo ⟨hk.d.1, hk.day oM⟩
   have hno := aDe (y := s.y) (m := s.mo) (d := s.d) oM hk.mo oM
   by_cases h2 : r.freq = 2
   ·simp only [if_pos h2]
    rw [h2]
    exact xY st.hB oM hk.mo oM hno st.hR st.h7 st.r42 hr.wkst (yw := ywd s.ly) (by unfold ywd; omega) st.h19 st.hS6 rfl
   ·simp only [if_neg h2]
    exact aA7 st.hB oM hk.mo oM hno oM
theorem xZ {Q : Exit → Act → World → Prop} (hblind : Blind Q) {S0 : LS} {H0 : LV} {r : Ru} {l : Ra} {it rb : Nat} {s : It} {a : Ad} (st : St F w0 S0 H0 it rb r l s a B H S) (hr : RuOk r) (hk : ItOk r s) (hrem : s.rem = []) (hfin : s.fin = false) (hsl : r.setpos.length ≤ 1000) (hsb : ∀ q ∈ r.setpos, -1000 ≤ q ∧ q ≤ 1000)
  (hn : ∀ o a' H' S', o = out r s → o.fin = false → Same s o → St F w0 S0 H0 it rb r l o a' B H' S' → GC Tryz.prog (Go.Fr.part [1, 1, 0, 0, 1, 0, 1, 1, 1, 1, 1, 1] (Go.Fr.bodyOf Tryz.f96)) Q 1418 [(0, pT it), (2, pT rb), (6, .bool (cO r s))] F w0 B H' S')
  (hq : ∀ o a' H' S', o = out r s → o.fin = true → Same s o → St F w0 S0 H0 it rb r l o a' B H' S' → GE Q .ret 1418 [] F w0 B H' S') : GC Tryz.prog (Go.Fr.part [1, 1, 0, 0, 1, 0] (Go.Fr.bodyOf Tryz.f96)) Q 1418 [(0, pT it), (2, pT rb)] F w0 B H S := by
 obtain ⟨hs1, hs2, hs3, hs4, hs5, hs6⟩ := aB6 hr hk
 obtain ⟨ht1, ht2, ht3⟩ := aGh hr hk
 have hlp := Cal.lp_01 s.ly
 have hny := f8 s.ly
 have hy := hk.y
 have hly := hk.ly
 obtain ⟨e1_, e2_, e3_, e4_⟩ := st.hq0 hrem
 have hst26 := st.h26
 have hstS0 := st.hS0
 rw [hrem, e1_, e2_] at hst26
 rw [e3_, e4_] at hstS0
 refine g1 ?_
 refine aBo (fun i => false) kR ?_
 refine gr 0 rfl (bD rfl) ?_
 refine gr 1 rfl (bW rfl) ?_
 refine gr 2 rfl (rfa 7) ?_
 refine gr 3 rfl (bD rfl) ?_
 refine gr 4 rfl (bW rfl) ?_
 refine gr 5 rfl (rfa 38) ?_
 refine gr 6 rfl (rld 1 rfl st.hR st.r38) ?_
 refine gr 7 rfl (bD rfl) ?_
 refine gr 8 rfl (bW rfl) ?_
 refine gr 9 rfl (rfa 0) ?_
 refine gr 10 rfl (rld 0 rfl st.hB st.h0) ?_
 refine gr 11 rfl (bD rfl) ?_
 refine gr 12 rfl (bW rfl) ?_
 refine gr 13 rfl (rfa 1) ?_
 refine gr 14 rfl (rld 0 rfl st.hB st.h1) ?_
 refine gr 15 rfl (bD rfl) ?_
 refine gr 16 rfl (bW rfl) ?_
 refine gr 17 rfl (rfa 2) ?_
 refine gr 18 rfl (rld 0 rfl st.hB st.h2) ?_
 refine gn 19 rfl (mM (v := .tuple #[iV (aW r s).1, iV (aW r s).2]) dE kR rfl (aC2 st hr hk) (gk ?_))
 refine gn 20 rfl (fU dE (bD rfl) (gk ?_))
 refine gr 21 rfl (oY rfl rfl) ?_
 refine gr 22 rfl (oY rfl rfl) ?_
 refine gn 23 rfl (fU dE (qH rfl) (gk ?_))
 refine gn 24 rfl (fU dE (qH rfl) (gk ?_))
 refine eE kR ?_
 refine g6 ?_
 refine gL (xI 1 (fun p c => (ky 0 29, .slice p ((aW r s).2 - (aW r s).1).toNat c)) (fun p c => ⟨.slice p ((aW r s).2 - (aW r s).1).toNat c, 156, 2, ((aW r s).2 - (aW r s).1).toNat, gJ (aW r s).1 ((aW r s).2 - (aW r s).1).toNat⟩) dE kR rfl (aCp (st.lim.mono dE) st.hB st.hS1 st.h29 oM oM) (fun dp dc => ?_))
 refine jG (fun w s => s.head 1 rfl oM) fun hcap => ?_
 obtain ⟨db, rfl, hdc⟩ := hcap
 refine g6 ?_
 refine rl (rfa 29) ?_
 refine rl (rld 0 rfl st.hB rfl) ?_
 refine g16 ?_
 refine dO (L' := [(0, pT it), (2, pT rb), (5, sL db ((aW r s).2 - (aW r s).1).toNat dc), (6, .bool false), (98, sL db ((aW r s).2 - (aW r s).1).toNat dc), (99, iV (((aW r s).2 - (aW r s).1).toNat : Nat)), (100, iV 0)]) kns (fun w s => s) ?_
 refine x9 (r := r) (it0 := s) (B := B) (H := ((ky 0 29, sL db ((aW r s).2 - (aW r s).1).toNat dc) :: H)) (S := ((1, ⟨sL db ((aW r s).2 - (aW r s).1).toNat dc, 156, 2, ((aW r s).2 - (aW r s).1).toNat, gJ (aW r s).1 ((aW r s).2 - (aW r s).1).toNat⟩) :: S)) (n := ((aW r s).2 - (aW r s).1).toNat) (db := db) (dc := dc) (a := (aW r s).1) (hB := st.hB) (hR := st.hR) (r47 := st.r47) (hl47 := st.hl47) (hI47 := (st.hI47.to aG)) (r48 := st.r48) (hl48 := st.hl48) (hI48 := (st.hI48.to aG)) (r49 := st.r49) (hl49 := st.hl49) (hI49 := (st.hI49.to aG)) (r50 := st.r50) (hl50 := st.hl50) (hI50 := (st.hI50.to aG)) (r52 := st.r52) (hl52 := st.hl52) (hI52 := (st.hI52.to aG)) (r51 := st.r51) (r57 := st.r57) (h20 := st.h20) (hp20 := st.hp20) (hS8 := st.hS8) (h21 := st.h21) (hp21 := st.hp21) (hS9 := st.hS9) (h22 := st.h22) (hp22 := st.hp22) (hS10 := st.hS10) (h10 := st.h10) (h11 := st.h11) (h15 := st.h15) (h17 := st.h17) (h18 := st.h18) (h19 := st.h19) (hS3 := st.hS3) (hS4 := st.hS4) (hS5 := st.hS5) (hS6 := st.hS6) (hlim := ((st.lim.mono dE).aJ1 dE dE).aJ2 dE) (hS1 := rfl) (ha := hs1) (han := by omega) (hwn := fun h => by have := ht1 h; omega) (hnw := fun h => by have := ht2 h; omega) (hea := fun h => by have := ht3 h; omega) ?_
 refine g6 ?_
 refine rl (rfa 46) ?_
 refine rZ1 (rld 1 rfl st.hR st.r46) ?_
 by_cases hsp : r.setpos.length ≠ 0
 ·refine rl ((cJ rfl rfl).to (v' := .bool true) (cB (i3 oM))) ?_
  refine g6 ?_
  refine rZ1 (rfa 23) ?_
  refine rZ3 (rld 0 rfl st.hB st.h23) ?_
  by_cases htp : s.ts.length ≠ 0
  ·have hout : out r s = dB r s (dW (fT r s)) := by unfold out; rw [if_pos ⟨hsp, htp⟩]
   refine rl ((cJ rfl rfl).to (v' := .bool true) (cB (i3 oM))) ?_
   refine g3 ?_
   refine aY rfl rfl ?_
   refine dO (L' := [(0, pT it), (2, pT rb), (5, sL db ((aW r s).2 - (aW r s).1).toNat dc), (6, .bool (cO r s))]) kns (fun w s => s) ?_
   refine aEk (B := B) (H := ((ky 0 29, sL db ((aW r s).2 - (aW r s).1).toNat dc) :: H)) (S := ((1, ⟨sL db ((aW r s).2 - (aW r s).1).toNat dc, 156, 2, ((aW r s).2 - (aW r s).1).toNat, dF (aW r s).1 ((aW r s).2 - (aW r s).1).toNat (fun j => !bad r s ((aW r s).1 + j))⟩) :: ((1, ⟨sL db ((aW r s).2 - (aW r s).1).toNat dc, 156, 2, ((aW r s).2 - (aW r s).1).toNat, gJ (aW r s).1 ((aW r s).2 - (aW r s).1).toNat⟩) :: S))) (db := db) (dc := dc) (hblind := (by repeat (first | exact hblind | apply Blind.then | apply Blind.inBlock))) (r := r) (it0 := s) (a := (aW r s).1) (n := ((aW r s).2 - (aW r s).1).toNat) (hlim := ((((st.lim).aJ1 dE dE).aJ2 dE).aJ2 dE)) (hB := st.hB) (hR := st.hR) (hS1 := rfl) (ha := hs1) (han := by omega) (hly := by omega) (h12 := st.h12) (h13 := st.h13) (h23 := st.h23) (hS2 := st.hS2) (hts := hk.ts) (hspan := by rw [Int.toNat_of_nonneg oM]; exact Prod.ext rfl sO) (htn := ⟨by omega, hk.tsn⟩) (r46 := st.r46) (hI46 := st.hI46.to aG) (hsl := hsl) (hsb := hsb) (r39 := st.r39) (r40 := st.r40) (r44 := st.r44) (r45 := st.r45) (hu := hr.until0) (hu1 := hr.until1) (r59 := st.r59) (h28 := st.h28) (h24 := st.h24) (h25 := st.h25) (h26 := hst26) (h27 := st.h27) (hS0 := hstS0) (hrem := hrem) (hfin := hfin) (htot := by have := hk.total; rw [hrem] at this; simp at this; omega) (hcnt := hk.count) (hn := fun o p c bk ho hof hbk => ?_) (hr := fun o p c bk ln ho hof hbk => ?_)
   ·have hsame := kZ r (dW (fT r s)) s
    rw [← ho] at hsame
    refine g1 ?_
    obtain ⟨y_, mo_, d_, h_, mi_, s_, wd_, ly_, lm_, wno_, nwm_, eas_, ts_, tt_, cc_, rem_, fin_⟩ := o
    obtain ⟨q1, q2, q3, q4, q5, q6, q7, q8, q9, q10, q11, q12, q13⟩ := hsame
    simp only at q1 q2 q3 q4 q5 q6 q7 q8 q9 q10 q11 q12 q13 hof
    subst q1 q2 q3 q4 q5 q6 q7 q8 q9 q10 q11 q12 q13 hof
    refine dO (L' := [(0, pT it), (2, pT rb), (6, .bool (cO r s))]) kns (fun w s => s) ?_
    refine hn _ ({ a with rp := p, rc := c, rs := p, rk := c, rn := rem_.length, rj := 0, rall := rem_, bk := bk, dp := some ⟨db, 0, none⟩, dc := dc, dn := ((aW r s).2 - (aW r s).1).toNat, dxs := dF (aW r s).1 ((aW r s).2 - (aW r s).1).toNat (fun j => !bad r s ((aW r s).1 + j)) } : Ad) _ _ (ho.trans hout.symm) rfl ⟨rfl, rfl, rfl, rfl, rfl, rfl, rfl, rfl, rfl, rfl, rfl, rfl, rfl⟩ ?_
    exact ⟨st.hB, st.hR, (((((((st.lim.aJ1 dE dE).aJ2 dE).aJ2 dE).aJ1 dE dE).aJ1 dE dE).aJ1 dE dE).aJ1 dE dE).aJ2 dE, st.h0, st.h1, st.h2, st.h3, st.h4, st.h5, st.h6, st.h7, st.h8, st.h9, st.h10, st.h11, st.h12, st.h13, st.h14, st.h15, st.h16, st.h17, st.h18, st.h19, st.h20, st.h21, st.h22, st.h23, rfl, rfl, rfl, rfl, (by rw [← hfin]; exact st.h28), rfl, rfl, rfl, st.hS2, st.hS3, st.hS4, st.hS5, st.hS6, st.hS7, st.hS8, st.hS9, st.hS10, st.hp20, st.hp21, st.hp22, st.c6, (fV st.frS), (fW st.frH), (fun h => ⟨rfl, rfl, by rw [show rem_ = [] from h]; rfl, h⟩), (fun h => ⟨fun g e => e, rfl, rfl, List.length_pos_iff.2 h, rfl, hbk h⟩), st.r38, st.r39, st.r40, st.r41, st.r42, st.r44, st.r45, st.r46, st.r47, st.r48, st.r49, st.r50, st.r51, st.r52, st.r53, st.r54, st.r55, st.r56, st.r57, st.r59, (st.hI46.to aG), (st.hI47.to aG), (st.hI48.to aG), (st.hI49.to aG), (st.hI50.to aG), (st.hI51.to aG), (st.hI52.to aG), (st.hI54.to aG), (st.hI55.to aG), (st.hI56.to aG), (st.hI57.to aG), st.hl46, st.hl47, st.hl48, st.hl49, st.hl50, st.hl51, st.hl52, st.hl54, st.hl55, st.hl56, st.hl57⟩
   ·have hsame := kZ r (dW (fT r s)) s
    rw [← ho] at hsame
    obtain ⟨y_, mo_, d_, h_, mi_, s_, wd_, ly_, lm_, wno_, nwm_, eas_, ts_, tt_, cc_, rem_, fin_⟩ := o
    obtain ⟨q1, q2, q3, q4, q5, q6, q7, q8, q9, q10, q11, q12, q13⟩ := hsame
    simp only at q1 q2 q3 q4 q5 q6 q7 q8 q9 q10 q11 q12 q13 hof
    subst q1 q2 q3 q4 q5 q6 q7 q8 q9 q10 q11 q12 q13 hof
    refine g1 ?_
    refine hq _ ({ a with rp := p, rc := c, rs := p, rk := c, rn := rem_.length, rj := 0, rall := rem_, bk := bk, dp := some ⟨db, 0, none⟩, dc := dc, dn := ((aW r s).2 - (aW r s).1).toNat, dxs := dF (aW r s).1 ((aW r s).2 - (aW r s).1).toNat (fun j => !bad r s ((aW r s).1 + j)) , ln := ln } : Ad) _ _ (ho.trans hout.symm) rfl ⟨rfl, rfl, rfl, rfl, rfl, rfl, rfl, rfl, rfl, rfl, rfl, rfl, rfl⟩ ?_
    exact ⟨st.hB, st.hR, (((((((((st.lim.aJ1 dE dE).aJ2 dE).aJ2 dE).aJ1 dE dE).aJ1 dE dE).aJ1 dE dE).aJ1 dE dE).aJ2 dE).aJ1 dE dE).aJ1 dE dE, st.h0, st.h1, st.h2, st.h3, st.h4, st.h5, st.h6, st.h7, st.h8, st.h9, st.h10, st.h11, st.h12, st.h13, st.h14, st.h15, st.h16, st.h17, st.h18, st.h19, st.h20, st.h21, st.h22, st.h23, rfl, rfl, rfl, rfl, rfl, rfl, rfl, rfl, st.hS2, st.hS3, st.hS4, st.hS5, st.hS6, st.hS7, st.hS8, st.hS9, st.hS10, st.hp20, st.hp21, st.hp22, st.c6, (fV st.frS), (fW st.frH), (fun h => ⟨rfl, rfl, by rw [show rem_ = [] from h]; rfl, h⟩), (fun h => ⟨fun g e => e, rfl, rfl, List.length_pos_iff.2 h, rfl, hbk h⟩), st.r38, st.r39, st.r40, st.r41, st.r42, st.r44, st.r45, st.r46, st.r47, st.r48, st.r49, st.r50, st.r51, st.r52, st.r53, st.r54, st.r55, st.r56, st.r57, rfl, (st.hI46.to aG), (st.hI47.to aG), (st.hI48.to aG), (st.hI49.to aG), (st.hI50.to aG), (st.hI51.to aG), (st.hI52.to aG), (st.hI54.to aG), (st.hI55.to aG), (st.hI56.to aG), (st.hI57.to aG), st.hl46, st.hl47, st.hl48, st.hl49, st.hl50, st.hl51, st.hl52, st.hl54, st.hl55, st.hl56, st.hl57⟩
  ·have hout : out r s = iP r s (aW r s).1 ((aW r s).2 - (aW r s).1).toNat := by rw [nX r s (.inr oM)]; rfl
   refine rl ((cJ rfl rfl).to (v' := .bool false) (cB (jO oM))) ?_
   refine kQ ?_
   refine dO (L' := [(0, pT it), (2, pT rb), (6, .bool (cO r s)), (547, sL db ((aW r s).2 - (aW r s).1).toNat dc), (548, iV (((aW r s).2 - (aW r s).1).toNat : Nat)), (549, iV 0)]) kns (fun w s => s) ?_
   refine yB (B := B) (H := ((ky 0 29, sL db ((aW r s).2 - (aW r s).1).toNat dc) :: H)) (S := ((1, ⟨sL db ((aW r s).2 - (aW r s).1).toNat dc, 156, 2, ((aW r s).2 - (aW r s).1).toNat, dF (aW r s).1 ((aW r s).2 - (aW r s).1).toNat (fun j => !bad r s ((aW r s).1 + j))⟩) :: ((1, ⟨sL db ((aW r s).2 - (aW r s).1).toNat dc, 156, 2, ((aW r s).2 - (aW r s).1).toNat, gJ (aW r s).1 ((aW r s).2 - (aW r s).1).toNat⟩) :: S))) (db := db) (dc := dc) (hblind := (by repeat (first | exact hblind | apply Blind.then | apply Blind.inBlock))) (r := r) (it0 := s) (a := (aW r s).1) (n := ((aW r s).2 - (aW r s).1).toNat) (hlim := ((((st.lim).aJ1 dE dE).aJ2 dE).aJ2 dE)) (hB := st.hB) (hR := st.hR) (hS1 := rfl) (ha := hs1) (han := by omega) (hly := by omega) (h12 := st.h12) (h13 := st.h13) (h23 := st.h23) (hS2 := st.hS2) (hts := hk.ts) (hbig := by have := hk.tsn; have h2 := Nat.mul_le_mul_left ((aW r s).2 - (aW r s).1).toNat this; omega) (r39 := st.r39) (r40 := st.r40) (r44 := st.r44) (r45 := st.r45) (hu := hr.until0) (hu1 := hr.until1) (r59 := st.r59) (h28 := st.h28) (h24 := st.h24) (h25 := st.h25) (h26 := hst26) (h27 := st.h27) (hS0 := hstS0) (hrem := hrem) (hfin := hfin) (htot := by have := hk.total; rw [hrem] at this; simp at this; omega) (hcnt := hk.count) (hn := fun o p c bk ho hof hbk => ?_) (hr := fun o p c bk ln ho hof hbk => ?_)
   ·have hsame := iD r s (aW r s).1 ((aW r s).2 - (aW r s).1).toNat
    rw [← ho] at hsame
    refine g1 ?_
    obtain ⟨y_, mo_, d_, h_, mi_, s_, wd_, ly_, lm_, wno_, nwm_, eas_, ts_, tt_, cc_, rem_, fin_⟩ := o
    obtain ⟨q1, q2, q3, q4, q5, q6, q7, q8, q9, q10, q11, q12, q13⟩ := hsame
    simp only at q1 q2 q3 q4 q5 q6 q7 q8 q9 q10 q11 q12 q13 hof
    subst q1 q2 q3 q4 q5 q6 q7 q8 q9 q10 q11 q12 q13 hof
    refine dO (L' := [(0, pT it), (2, pT rb), (6, .bool (cO r s))]) kns (fun w s => s) ?_
    refine hn _ ({ a with rp := p, rc := c, rs := p, rk := c, rn := rem_.length, rj := 0, rall := rem_, bk := bk, dp := some ⟨db, 0, none⟩, dc := dc, dn := ((aW r s).2 - (aW r s).1).toNat, dxs := dF (aW r s).1 ((aW r s).2 - (aW r s).1).toNat (fun j => !bad r s ((aW r s).1 + j)) } : Ad) _ _ (ho.trans hout.symm) rfl ⟨rfl, rfl, rfl, rfl, rfl, rfl, rfl, rfl, rfl, rfl, rfl, rfl, rfl⟩ ?_
    exact ⟨st.hB, st.hR, (((((((st.lim.aJ1 dE dE).aJ2 dE).aJ2 dE).aJ1 dE dE).aJ1 dE dE).aJ1 dE dE).aJ1 dE dE).aJ2 dE, st.h0, st.h1, st.h2, st.h3, st.h4, st.h5, st.h6, st.h7, st.h8, st.h9, st.h10, st.h11, st.h12, st.h13, st.h14, st.h15, st.h16, st.h17, st.h18, st.h19, st.h20, st.h21, st.h22, st.h23, rfl, rfl, rfl, rfl, (by rw [← hfin]; exact st.h28), rfl, rfl, rfl, st.hS2, st.hS3, st.hS4, st.hS5, st.hS6, st.hS7, st.hS8, st.hS9, st.hS10, st.hp20, st.hp21, st.hp22, st.c6, (fV st.frS), (fW st.frH), (fun h => ⟨rfl, rfl, by rw [show rem_ = [] from h]; rfl, h⟩), (fun h => ⟨fun g e => e, rfl, rfl, List.length_pos_iff.2 h, rfl, hbk h⟩), st.r38, st.r39, st.r40, st.r41, st.r42, st.r44, st.r45, st.r46, st.r47, st.r48, st.r49, st.r50, st.r51, st.r52, st.r53, st.r54, st.r55, st.r56, st.r57, st.r59, (st.hI46.to aG), (st.hI47.to aG), (st.hI48.to aG), (st.hI49.to aG), (st.hI50.to aG), (st.hI51.to aG), (st.hI52.to aG), (st.hI54.to aG), (st.hI55.to aG), (st.hI56.to aG), (st.hI57.to aG), st.hl46, st.hl47, st.hl48, st.hl49, st.hl50, st.hl51, st.hl52, st.hl54, st.hl55, st.hl56, st.hl57⟩
   ·have hsame := iD r s (aW r s).1 ((aW r s).2 - (aW r s).1).toNat
    rw [← ho] at hsame
    obtain ⟨y_, mo_, d_, h_, mi_, s_, wd_, ly_, lm_, wno_, nwm_, eas_, ts_, tt_, cc_, rem_, fin_⟩ := o
    obtain ⟨q1, q2, q3, q4, q5, q6, q7, q8, q9, q10, q11, q12, q13⟩ := hsame
    simp only at q1 q2 q3 q4 q5 q6 q7 q8 q9 q10 q11 q12 q13 hof
    subst q1 q2 q3 q4 q5 q6 q7 q8 q9 q10 q11 q12 q13 hof
    refine g1 ?_
    refine hq _ ({ a with rp := p, rc := c, rs := p, rk := c, rn := rem_.length, rj := 0, rall := rem_, bk := bk, dp := some ⟨db, 0, none⟩, dc := dc, dn := ((aW r s).2 - (aW r s).1).toNat, dxs := dF (aW r s).1 ((aW r s).2 - (aW r s).1).toNat (fun j => !bad r s ((aW r s).1 + j)) , ln := ln } : Ad) _ _ (ho.trans hout.symm) rfl ⟨rfl, rfl, rfl, rfl, rfl, rfl, rfl, rfl, rfl, rfl, rfl, rfl, rfl⟩ ?_
    exact ⟨st.hB, st.hR, (((((((((st.lim.aJ1 dE dE).aJ2 dE).aJ2 dE).aJ1 dE dE).aJ1 dE dE).aJ1 dE dE).aJ1 dE dE).aJ2 dE).aJ1 dE dE).aJ1 dE dE, st.h0, st.h1, st.h2, st.h3, st.h4, st.h5, st.h6, st.h7, st.h8, st.h9, st.h10, st.h11, st.h12, st.h13, st.h14, st.h15, st.h16, st.h17, st.h18, st.h19, st.h20, st.h21, st.h22, st.h23, rfl, rfl, rfl, rfl, rfl, rfl, rfl, rfl, st.hS2, st.hS3, st.hS4, st.hS5, st.hS6, st.hS7, st.hS8, st.hS9, st.hS10, st.hp20, st.hp21, st.hp22, st.c6, (fV st.frS), (fW st.frH), (fun h => ⟨rfl, rfl, by rw [show rem_ = [] from h]; rfl, h⟩), (fun h => ⟨fun g e => e, rfl, rfl, List.length_pos_iff.2 h, rfl, hbk h⟩), st.r38, st.r39, st.r40, st.r41, st.r42, st.r44, st.r45, st.r46, st.r47, st.r48, st.r49, st.r50, st.r51, st.r52, st.r53, st.r54, st.r55, st.r56, st.r57, rfl, (st.hI46.to aG), (st.hI47.to aG), (st.hI48.to aG), (st.hI49.to aG), (st.hI50.to aG), (st.hI51.to aG), (st.hI52.to aG), (st.hI54.to aG), (st.hI55.to aG), (st.hI56.to aG), (st.hI57.to aG), st.hl46, st.hl47, st.hl48, st.hl49, st.hl50, st.hl51, st.hl52, st.hl54, st.hl55, st.hl56, st.hl57⟩
 ·have hout : out r s = iP r s (aW r s).1 ((aW r s).2 - (aW r s).1).toNat := by rw [nX r s (.inl oM)]; rfl
  refine rl ((cJ rfl rfl).to (v' := .bool false) (cB (jO oM))) ?_
  refine g10 ?_
  refine aP rfl rfl ?_
  refine g7 ?_
  refine dO (L' := [(0, pT it), (2, pT rb), (6, .bool (cO r s)), (547, sL db ((aW r s).2 - (aW r s).1).toNat dc), (548, iV (((aW r s).2 - (aW r s).1).toNat : Nat)), (549, iV 0)]) kns (fun w s => s) ?_
  refine yB (B := B) (H := ((ky 0 29, sL db ((aW r s).2 - (aW r s).1).toNat dc) :: H)) (S := ((1, ⟨sL db ((aW r s).2 - (aW r s).1).toNat dc, 156, 2, ((aW r s).2 - (aW r s).1).toNat, dF (aW r s).1 ((aW r s).2 - (aW r s).1).toNat (fun j => !bad r s ((aW r s).1 + j))⟩) :: ((1, ⟨sL db ((aW r s).2 - (aW r s).1).toNat dc, 156, 2, ((aW r s).2 - (aW r s).1).toNat, gJ (aW r s).1 ((aW r s).2 - (aW r s).1).toNat⟩) :: S))) (db := db) (dc := dc) (hblind := (by repeat (first | exact hblind | apply Blind.then | apply Blind.inBlock))) (r := r) (it0 := s) (a := (aW r s).1) (n := ((aW r s).2 - (aW r s).1).toNat) (hlim := ((((st.lim).aJ1 dE dE).aJ2 dE).aJ2 dE)) (hB := st.hB) (hR := st.hR) (hS1 := rfl) (ha := hs1) (han := by omega) (hly := by omega) (h12 := st.h12) (h13 := st.h13) (h23 := st.h23) (hS2 := st.hS2) (hts := hk.ts) (hbig := by have := hk.tsn; have h2 := Nat.mul_le_mul_left ((aW r s).2 - (aW r s).1).toNat this; omega) (r39 := st.r39) (r40 := st.r40) (r44 := st.r44) (r45 := st.r45) (hu := hr.until0) (hu1 := hr.until1) (r59 := st.r59) (h28 := st.h28) (h24 := st.h24) (h25 := st.h25) (h26 := hst26) (h27 := st.h27) (hS0 := hstS0) (hrem := hrem) (hfin := hfin) (htot := by have := hk.total; rw [hrem] at this; simp at this; omega) (hcnt := hk.count) (hn := fun o p c bk ho hof hbk => ?_) (hr := fun o p c bk ln ho hof hbk => ?_)
  ·have hsame := iD r s (aW r s).1 ((aW r s).2 - (aW r s).1).toNat
   rw [← ho] at hsame
   refine g1 ?_
   obtain ⟨y_, mo_, d_, h_, mi_, s_, wd_, ly_, lm_, wno_, nwm_, eas_, ts_, tt_, cc_, rem_, fin_⟩ := o
   obtain ⟨q1, q2, q3, q4, q5, q6, q7, q8, q9, q10, q11, q12, q13⟩ := hsame
   simp only at q1 q2 q3 q4 q5 q6 q7 q8 q9 q10 q11 q12 q13 hof
   subst q1 q2 q3 q4 q5 q6 q7 q8 q9 q10 q11 q12 q13 hof
   refine dO (L' := [(0, pT it), (2, pT rb), (6, .bool (cO r s))]) kns (fun w s => s) ?_
   refine hn _ ({ a with rp := p, rc := c, rs := p, rk := c, rn := rem_.length, rj := 0, rall := rem_, bk := bk, dp := some ⟨db, 0, none⟩, dc := dc, dn := ((aW r s).2 - (aW r s).1).toNat, dxs := dF (aW r s).1 ((aW r s).2 - (aW r s).1).toNat (fun j => !bad r s ((aW r s).1 + j)) } : Ad) _ _ (ho.trans hout.symm) rfl ⟨rfl, rfl, rfl, rfl, rfl, rfl, rfl, rfl, rfl, rfl, rfl, rfl, rfl⟩ ?_
   exact ⟨st.hB, st.hR, (((((((st.lim.aJ1 dE dE).aJ2 dE).aJ2 dE).aJ1 dE dE).aJ1 dE dE).aJ1 dE dE).aJ1 dE dE).aJ2 dE, st.h0, st.h1, st.h2, st.h3, st.h4, st.h5, st.h6, st.h7, st.h8, st.h9, st.h10, st.h11, st.h12, st.h13, st.h14, st.h15, st.h16, st.h17, st.h18, st.h19, st.h20, st.h21, st.h22, st.h23, rfl, rfl, rfl, rfl, (by rw [← hfin]; exact st.h28), rfl, rfl, rfl, st.hS2, st.hS3, st.hS4, st.hS5, st.hS6, st.hS7, st.hS8, st.hS9, st.hS10, st.hp20, st.hp21, st.hp22, st.c6, (fV st.frS), (fW st.frH), (fun h => ⟨rfl, rfl, by rw [show rem_ = [] from h]; rfl, h⟩), (fun h => ⟨fun g e => e, rfl, rfl, List.length_pos_iff.2 h, rfl, hbk h⟩), st.r38, st.r39, st.r40, st.r41, st.r42, st.r44, st.r45, st.r46, st.r47, st.r48, st.r49, st.r50, st.r51, st.r52, st.r53, st.r54, st.r55, st.r56, st.r57, st.r59, (st.hI46.to aG), (st.hI47.to aG), (st.hI48.to aG), (st.hI49.to aG), (st.hI50.to aG), (st.hI51.to aG), (st.hI52.to aG), (st.hI54.to aG), (st.hI55.to aG), (st.hI56.to aG), (st.hI57.to aG), st.hl46, st.hl47, st.hl48, st.hl49, st.hl50, st.hl51, st.hl52, st.hl54, st.hl55, st.hl56, st.hl57⟩
  ·have hsame := iD r s (aW r s).1 ((aW r s).2 - (aW r s).1).toNat
   rw [← ho] at hsame
   obtain ⟨y_, mo_, d_, h_, mi_, s_, wd_, ly_, lm_, wno_, nwm_, eas_, ts_, tt_, cc_, rem_, fin_⟩ := o
   obtain ⟨q1, q2, q3, q4, q5, q6, q7, q8, q9, q10, q11, q12, q13⟩ := hsame
   simp only at q1 q2 q3 q4 q5 q6 q7 q8 q9 q10 q11 q12 q13 hof
   subst q1 q2 q3 q4 q5 q6 q7 q8 q9 q10 q11 q12 q13 hof
   refine g1 ?_
   refine hq _ ({ a with rp := p, rc := c, rs := p, rk := c, rn := rem_.length, rj := 0, rall := rem_, bk := bk, dp := some ⟨db, 0, none⟩, dc := dc, dn := ((aW r s).2 - (aW r s).1).toNat, dxs := dF (aW r s).1 ((aW r s).2 - (aW r s).1).toNat (fun j => !bad r s ((aW r s).1 + j)) , ln := ln } : Ad) _ _ (ho.trans hout.symm) rfl ⟨rfl, rfl, rfl, rfl, rfl, rfl, rfl, rfl, rfl, rfl, rfl, rfl, rfl⟩ ?_
   exact ⟨st.hB, st.hR, (((((((((st.lim.aJ1 dE dE).aJ2 dE).aJ2 dE).aJ1 dE dE).aJ1 dE dE).aJ1 dE dE).aJ1 dE dE).aJ2 dE).aJ1 dE dE).aJ1 dE dE, st.h0, st.h1, st.h2, st.h3, st.h4, st.h5, st.h6, st.h7, st.h8, st.h9, st.h10, st.h11, st.h12, st.h13, st.h14, st.h15, st.h16, st.h17, st.h18, st.h19, st.h20, st.h21, st.h22, st.h23, rfl, rfl, rfl, rfl, rfl, rfl, rfl, rfl, st.hS2, st.hS3, st.hS4, st.hS5, st.hS6, st.hS7, st.hS8, st.hS9, st.hS10, st.hp20, st.hp21, st.hp22, st.c6, (fV st.frS), (fW st.frH), (fun h => ⟨rfl, rfl, by rw [show rem_ = [] from h]; rfl, h⟩), (fun h => ⟨fun g e => e, rfl, rfl, List.length_pos_iff.2 h, rfl, hbk h⟩), st.r38, st.r39, st.r40, st.r41, st.r42, st.r44, st.r45, st.r46, st.r47, st.r48, st.r49, st.r50, st.r51, st.r52, st.r53, st.r54, st.r55, st.r56, st.r57, rfl, (st.hI46.to aG), (st.hI47.to aG), (st.hI48.to aG), (st.hI49.to aG), (st.hI50.to aG), (st.hI51.to aG), (st.hI52.to aG), (st.hI54.to aG), (st.hI55.to aG), (st.hI56.to aG), (st.hI57.to aG), st.hl46, st.hl47, st.hl48, st.hl49, st.hl50, st.hl51, st.hl52, st.hl54, st.hl55, st.hl56, st.hl57⟩
def aBp (F : Nat → Prop) (w0 : World) (S0 : LS) (H0 : LV) (it rb : Nat) (r : Ru) (l : Ra) (s : It) (B : LN) (e : Ending) (w' : World) : Prop :=
 ∃ (a : Ad) (H : LV) (S : LS), e = .returned (.tuple #[]) ∧ St F w0 S0 H0 it rb r l s a B H S ∧ Sees F w0 B H S w'
theorem aAz {r : Ru} {s : It} (hr : RuOk r) (hw0 : r.weekno.length = 0) (hd0 : r.nwd.length = 0) (he0 : r.easter.length = 0) (hwn : s.wno = r.wnoF s.ly) (hnw : s.nwm = r.nwmF s.ly s.lm) (y m : Int) : reb r s y m = ⟨s.y, s.mo, s.d, s.h, s.mi, s.s, s.wd, y, m, [], [], [], s.ts, s.total, s.count, s.rem, s.fin⟩ := by
 have h1 : s.wno = [] := hwn.trans (hr.wnoF0 hw0 _)
 have h2 : s.nwm = [] := hnw.trans (hr.nwmF0 hd0 _ _)
 unfold reb
 rw [h1, h2, hr.wnoF0 hw0, hr.nwmF0 hd0, hr.easF0 he0]
 simp only [ite_self]
theorem tV {S0 : LS} {H0 : LV} {r : Ru} {l : Ra} {it rb : Nat} {s : It} {a : Ad} (st : St F w0 S0 H0 it rb r l s a B H S) (hr : RuOk r) (hw0 : r.weekno.length = 0) (hd0 : r.nwd.length = 0) (he0 : r.easter.length = 0) (hwn : s.wno = r.wnoF s.ly) (hnw : s.nwm = r.nwmF s.ly s.lm) (hea : s.eas = r.easF s.ly) {y m : Int} (hy1 : 1 ≤ y ∧ y ≤ 10000) :
  ∀ w, Sees F w0 B H S w → Calls Tryz.prog 50 #[.pointer (some ⟨it, 7, none⟩), iV y, iV m] w fun e w' => aBp F w0 S0 H0 it rb r l (reb r s y m) B e w' := by
 intro w hs
 rw [aAz hr hw0 hd0 he0 hwn hnw]
 have r51 := st.r51
 have r53 := st.r53
 have r57 := st.r57
 rw [hw0] at r51
 rw [hd0] at r53
 rw [he0] at r57
 have h1 : s.wno = [] := hwn.trans (hr.wnoF0 hw0 _)
 have h2 : s.nwm = [] := hnw.trans (hr.nwmF0 hd0 _ _)
 have h3 : s.eas = [] := hea.trans (hr.easF0 he0 _)
 by_cases hy : y = s.ly
 ·refine (wC (m := m) st.hB st.hR st.h7 st.h8 st.h9 r51 r53 r57 hy w hs).mono ?_
  rintro e w' ⟨he, hs'⟩
  refine ⟨a, _, _, he, ?_, hs'⟩
  subst hy
  obtain ⟨y_, mo_, d_, h_, mi_, s_, wd_, ly_, lm_, wno_, nwm_, eas_, ts_, tt_, cc_, rem_, fin_⟩ := s
  simp only at h1 h2 h3
  subst h1 h2 h3
  exact ⟨st.hB, st.hR, (st.lim.aJ1 dE dE).aJ1 dE dE, st.h0, st.h1, st.h2, st.h3, st.h4, st.h5, st.h6, st.h7, rfl, rfl, st.h10, st.h11, st.h12, st.h13, st.h14, st.h15, st.h16, st.h17, st.h18, st.h19, st.h20, st.h21, st.h22, st.h23, st.h24, st.h25, st.h26, st.h27, st.h28, st.h29, st.hS0, st.hS1, st.hS2, st.hS3, st.hS4, st.hS5, st.hS6, st.hS7, st.hS8, st.hS9, st.hS10, st.hp20, st.hp21, st.hp22, st.c6, (fV st.frS), (fW st.frH), st.hq0, st.hq1, st.r38, st.r39, st.r40, st.r41, st.r42, st.r44, st.r45, st.r46, st.r47, st.r48, st.r49, st.r50, st.r51, st.r52, st.r53, st.r54, st.r55, st.r56, st.r57, st.r59, (st.hI46.to aG), (st.hI47.to aG), (st.hI48.to aG), (st.hI49.to aG), (st.hI50.to aG), (st.hI51.to aG), (st.hI52.to aG), (st.hI54.to aG), (st.hI55.to aG), (st.hI56.to aG), (st.hI57.to aG), st.hl46, st.hl47, st.hl48, st.hl49, st.hl50, st.hl51, st.hl52, st.hl54, st.hl55, st.hl56, st.hl57⟩
 ·refine (tG (m := m) st.hB st.hR st.h7 st.h8 st.h9 r51 r53 r57 st.r39 st.r40 st.h10 st.h11 st.h12 st.h13 st.h14 st.h15 st.h16 st.h17 st.h18 st.h19 st.h20 hy hy1 w hs).mono ?_
  rintro e w' ⟨b6, c6, p3, c3, p4, c4, p5, c5, p7, c7, h385, rfl, s'⟩
  obtain ⟨b3, rfl, _⟩ := s'.head 3 rfl (rA y)
  obtain ⟨b4, rfl, _⟩ := s'.head 4 rfl (rA y)
  obtain ⟨b5, rfl, _⟩ := s'.head 5 rfl (rA y)
  obtain ⟨b7, rfl, _⟩ := s'.head 7 rfl dE
  refine ⟨{ a with b3 := b3, c3 := c3, b4 := b4, c4 := c4, b5 := b5, c5 := c5, b6 := b6, c6 := c6, b7 := b7, c7 := c7, p20 := none, c20 := 0 }, _, _, rfl, ?_, s'⟩
  obtain ⟨y_, mo_, d_, h_, mi_, s_, wd_, ly_, lm_, wno_, nwm_, eas_, ts_, tt_, cc_, rem_, fin_⟩ := s
  simp only at h1 h2 h3
  subst h1 h2 h3
  exact ⟨st.hB, st.hR, (lY st.lim), st.h0, st.h1, st.h2, st.h3, st.h4, st.h5, st.h6, st.h7, rfl, rfl, rfl, rfl, rfl, rfl, rfl, rfl, rfl, rfl, rfl, rfl, rfl, st.h21, st.h22, st.h23, st.h24, st.h25, st.h26, st.h27, st.h28, st.h29, st.hS0, st.hS1, st.hS2, rfl, rfl, rfl, rfl, rfl, (fun h => absurd h (Nat.lt_irrefl 0)), st.hS9, st.hS10, (fun h => absurd h (Nat.lt_irrefl 0)), st.hp21, st.hp22, h385, (fV st.frS), (fW st.frH), st.hq0, st.hq1, st.r38, st.r39, st.r40, st.r41, st.r42, st.r44, st.r45, st.r46, st.r47, st.r48, st.r49, st.r50, st.r51, st.r52, st.r53, st.r54, st.r55, st.r56, st.r57, st.r59, (st.hI46.to aG), (st.hI47.to aG), (st.hI48.to aG), (st.hI49.to aG), (st.hI50.to aG), (st.hI51.to aG), (st.hI52.to aG), (st.hI54.to aG), (st.hI55.to aG), (st.hI56.to aG), (st.hI57.to aG), st.hl46, st.hl47, st.hl48, st.hl49, st.hl50, st.hl51, st.hl52, st.hl54, st.hl55, st.hl56, st.hl57⟩
theorem r5 {Q : Exit → Act → World → Prop} {K : Act → World → Prop} {N d : Nat} {L : Fr.Loc} {ty : TypeId} {pos : String} {aft : Array Edge} {S0 : LS} {H0 : LV} {it rb : Nat} {r : Ru} {l : Ra} {s : It} {f : FuncId} {asl : List Operand} {ats : Array TypeId} {args : List Value} (hd : d < N) (hf : fO Tryz.prog f = true) (ha : Fr.evs L asl = some args)
  (hc : ∀ w, Sees F w0 B H S w → Calls Tryz.prog f args.toArray w fun e w' => aBp F w0 S0 H0 it rb r l s B e w')
  (hn : ∀ a H' S', St F w0 S0 H0 it rb r l s a B H' S' → GK K N ((d, .tuple #[]) :: L) F w0 B H' S') : GO Tryz.prog ⟨some d, .call ⟨.value (.func f), asl.toArray, ats⟩, ty, pos, aft, none⟩ Q K N L F w0 B H S := fun a w k s => by
 show Oper.upon _ _ _ _ _ _
 rw [mD k hf ha]
 refine (hc w s).mono ?_
 rintro e w' ⟨a', H', S', rfl, hst, s'⟩
 exact hn a' H' S' hst _ _ (k.put hd _) s'
theorem l0 {Q : Exit → Act → World → Prop} {S0 : LS} {H0 : LV} {r : Ru} {l : Ra} {it rb : Nat} {s : It} {a : Ad} (st : St F w0 S0 H0 it rb r l s a B H S) (hr : RuOk r) (hw0 : r.weekno.length = 0) (hd0 : r.nwd.length = 0) (he0 : r.easter.length = 0) (hwn : s.wno = r.wnoF s.ly) (hnw : s.nwm = r.nwmF s.ly s.lm) (hea : s.eas = r.easF s.ly) (hd : 1 ≤ s.d ∧ s.d ≤ 1000000) (hmo : 1 ≤ s.mo ∧ s.mo ≤ 12) (hy : 1 ≤ s.y ∧ s.y ≤ 9999) (hly : 1 ≤ s.ly ∧ s.ly ≤ 9999) (hfin : s.fin = false)
  (hn : ∀ o a' H' S', o = fix r s → o.fin = false → St F w0 S0 H0 it rb r l o a' B H' S' → GE Q .normal 1418 [(0, pT it), (2, pT rb)] F w0 B H' S')
  (hq : ∀ o a' H' S', o = fix r s → o.fin = true → St F w0 S0 H0 it rb r l o a' B H' S' → GE Q .ret 1418 [] F w0 B H' S') : GC Tryz.prog (Go.Fr.part [1, 1, 0, 0, 1, 0, 1, 1, 1, 1, 1, 1, 1, 1] (Go.Fr.bodyOf Tryz.f96)) Q 1418 [(0, pT it), (2, pT rb), (42, .bool true)] F w0 B H S := by
 refine g9 ?_
 refine rZ1 (rfa 2) ?_
 refine rZ5 (rld 0 rfl st.hB st.h2) ?_
 refine aB rfl (fun hc1 => ?_) (fun hc2 => ?_)
 ·have h28 : 28 < s.d := oT hc1
  refine g1 ?_
  refine dL 8 kR kR ?_
  refine g2 ?_
  refine rt (rfa 1) ?_
  refine rt (rld 0 rfl st.hB st.h1) ?_
  refine g2 ?_
  refine rt (rfa 0) ?_
  refine rt (rld 0 rfl st.hB st.h0) ?_
  refine g1 ?_
  refine gL (cvo rfl (fun w_ s_ => mG _ _ oM oM w_) ?_)
  refine g7 ?_
  refine rl (rfa 2) ?_
  refine rZ4 (rld 0 rfl st.hB st.h2) ?_
  refine aB rfl (fun hc1 => ?_) (fun hc2 => ?_)
  ·have hgt : Cal.mdays s.mo s.y < s.d := oT hc1
   have hfix : fix r s = d9 r s.d.toNat s := by unfold fix; rw [if_neg oM]
   refine g2 ?_
   refine bJ (ι := (Nat) × (It) × (LV)) (fun | ⟨n, s1, H1⟩ => n) (fun | ⟨n, s1, H1⟩ => (d9 r n s1 = d9 r s.d.toNat s) ∧ (1 ≤ s1.d ∧ s1.d ≤ n ∧ n ≤ 1000000) ∧ (1 ≤ s1.mo ∧ s1.mo ≤ 12) ∧ (1 ≤ s1.y ∧ s1.y ≤ 9999) ∧ (s1.ly = s.ly ∧ s1.lm = s.lm ∧ s1.wno = s.wno ∧ s1.nwm = s.nwm ∧ s1.eas = s.eas ∧ s1.fin = s.fin) ∧ (St F w0 S0 H0 it rb r l s1 a B H1 S)) (fun | ⟨n, s1, H1⟩ => [(0, pT it), (2, pT rb), (51, iV (Cal.mdays s1.mo s1.y))]) (fun | ⟨n, s1, H1⟩ => B) (fun | ⟨n, s1, H1⟩ => H1) (fun | ⟨n, s1, H1⟩ => S) ⟨s.d.toNat, s, H⟩ ⟨rfl, by omega, hmo, hy, ⟨rfl, rfl, rfl, rfl, rfl, rfl⟩, st⟩ kns (fun w s => by exact s) ?_
   rintro ⟨n, s1, H1⟩ ⟨hgo, hnd, hmo1, hy1, hsm, hst⟩
   show GC _ _ _ _ [(0, pT it), (2, pT rb), (51, iV (Cal.mdays s1.mo s1.y))] _ _ (B) (H1) (S)
   obtain ⟨m, rfl⟩ : ∃ m, n = m + 1 := ⟨n - 1, by omega⟩
   have hmd := Cal.mdays_bd s1.mo s1.y
   have hfin1 : s1.fin = false := hsm.2.2.2.2.2.trans hfin
   refine g5 ?_
   refine rl (rfa 2) ?_
   refine rZ4 (rld 0 rfl hst.hB hst.h2) ?_
   refine aB rfl (fun hc1 => ?_) (fun hc2 => ?_)
   ·have hgt1 : Cal.mdays s1.mo s1.y < s1.d := oT hc1
    refine g7 ?_
    refine rl (rfa 2) ?_
    refine rZ3 (rld 0 rfl hst.hB hst.h2) ?_
    refine rl (rfa 2) ?_
    refine gL (sto 0 rfl rfl hst.hB hst.h2 ?_)
    refine g6 ?_
    refine rl (rfa 1) ?_
    refine rZ2 (rld 0 rfl hst.hB hst.h1) ?_
    refine rl (rfa 1) ?_
    refine gL (sto 0 rfl rfl hst.hB hst.h1 ?_)
    refine g7 ?_
    refine rl (rfa 1) ?_
    refine rZ3 (rld 0 rfl hst.hB rfl) ?_
    refine aB rfl (fun hc1 => ?_) (fun hc2 => ?_)
    ·have h13 : s1.mo + 1 = 13 := beq_iff_eq.1 hc1
     refine g4 ?_
     refine rl (rfa 1) ?_
     refine gL (sto 0 rfl rfl hst.hB rfl ?_)
     refine g6 ?_
     refine rl (rfa 0) ?_
     refine rZ2 (rld 0 rfl hst.hB hst.h0) ?_
     refine rl (rfa 0) ?_
     refine gL (sto 0 rfl rfl hst.hB hst.h0 ?_)
     refine g6 ?_
     refine rl (rfa 0) ?_
     refine rZ3 (rld 0 rfl hst.hB rfl) ?_
     refine aB rfl (fun hc1 => ?_) (fun hc2 => ?_)
     ·have hbig : 9999 < s1.y + 1 := oT hc1
      have hfg : d9 r s.d.toNat s = { s1 with d := s1.d - Cal.mdays s1.mo s1.y, mo := 1, y := s1.y + 1, fin := true } := by rw [← hgo]; simp only [d9]; rw [if_neg oM, if_pos h13, if_pos hbig]
      refine g5 ?_
      refine rl (rfa 24) ?_
      refine rZ1 (rld 0 rfl hst.hB hst.h24) ?_
      refine rl (rfa 59) ?_
      refine gL (sto 1 rfl rfl hst.hR hst.r59 ?_)
      refine g6 ?_
      refine rl (rfa 28) ?_
      refine gL (sto 0 rfl rfl hst.hB hst.h28 ?_)
      refine g8 ?_
      refine jP (fun a q => q.nil) (fun w s => s) (hq ({ s1 with d := s1.d - Cal.mdays s1.mo s1.y, mo := 1, y := s1.y + 1, fin := true }) ({ a with ln := iV s1.total }) _ _ (hfg.symm.trans hfix.symm) (rfl) ⟨hst.hB, hst.hR, (lY hst.lim), rfl, rfl, rfl, hst.h3, hst.h4, hst.h5, hst.h6, hst.h7, hst.h8, hst.h9, hst.h10, hst.h11, hst.h12, hst.h13, hst.h14, hst.h15, hst.h16, hst.h17, hst.h18, hst.h19, hst.h20, hst.h21, hst.h22, hst.h23, hst.h24, hst.h25, hst.h26, hst.h27, rfl, hst.h29, hst.hS0, hst.hS1, hst.hS2, hst.hS3, hst.hS4, hst.hS5, hst.hS6, hst.hS7, hst.hS8, hst.hS9, hst.hS10, hst.hp20, hst.hp21, hst.hp22, hst.c6, (fV hst.frS), (fW hst.frH), hst.hq0, hst.hq1, hst.r38, hst.r39, hst.r40, hst.r41, hst.r42, hst.r44, hst.r45, hst.r46, hst.r47, hst.r48, hst.r49, hst.r50, hst.r51, hst.r52, hst.r53, hst.r54, hst.r55, hst.r56, hst.r57, rfl, (hst.hI46.to aG), (hst.hI47.to aG), (hst.hI48.to aG), (hst.hI49.to aG), (hst.hI50.to aG), (hst.hI51.to aG), (hst.hI52.to aG), (hst.hI54.to aG), (hst.hI55.to aG), (hst.hI56.to aG), (hst.hI57.to aG), hst.hl46, hst.hl47, hst.hl48, hst.hl49, hst.hl50, hst.hl51, hst.hl52, hst.hl54, hst.hl55, hst.hl56, hst.hl57⟩)
     ·have hbig : ¬ 9999 < s1.y + 1 := oF hc2
      have hgo1 : d9 r m ({ s1 with d := s1.d - Cal.mdays s1.mo s1.y, mo := 1, y := s1.y + 1 }) = d9 r s.d.toNat s := by rw [← hgo]; conv => rhs; simp only [d9]; rw [if_neg oM, if_pos h13, if_neg hbig]
      refine g2 ?_
      refine dL 8 kR kR ?_
      refine g2 ?_
      refine rt (rfa 1) ?_
      refine rt (rld 0 rfl hst.hB rfl) ?_
      refine g2 ?_
      refine rt (rfa 0) ?_
      refine rt (rld 0 rfl hst.hB rfl) ?_
      refine g1 ?_
      refine gL (cvo rfl (fun w_ s_ => mG _ _ oM oM w_) ?_)
      refine g3 ?_
      refine aQ ⟨m, ({ s1 with d := s1.d - Cal.mdays s1.mo s1.y, mo := 1, y := s1.y + 1 } : It), (ky 0 0, iV (s1.y + 1)) :: (ky 0 1, iV 1) :: (ky 0 1, iV (s1.mo + 1)) :: (ky 0 2, iV (s1.d - Cal.mdays s1.mo s1.y)) :: H1⟩ sO ⟨hgo1, by simp only; omega, by simp only; omega, by simp only; omega, hsm, ⟨hst.hB, hst.hR, (lY hst.lim), rfl, rfl, rfl, hst.h3, hst.h4, hst.h5, hst.h6, hst.h7, hst.h8, hst.h9, hst.h10, hst.h11, hst.h12, hst.h13, hst.h14, hst.h15, hst.h16, hst.h17, hst.h18, hst.h19, hst.h20, hst.h21, hst.h22, hst.h23, hst.h24, hst.h25, hst.h26, hst.h27, hst.h28, hst.h29, hst.hS0, hst.hS1, hst.hS2, hst.hS3, hst.hS4, hst.hS5, hst.hS6, hst.hS7, hst.hS8, hst.hS9, hst.hS10, hst.hp20, hst.hp21, hst.hp22, hst.c6, (fV hst.frS), (fW hst.frH), hst.hq0, hst.hq1, hst.r38, hst.r39, hst.r40, hst.r41, hst.r42, hst.r44, hst.r45, hst.r46, hst.r47, hst.r48, hst.r49, hst.r50, hst.r51, hst.r52, hst.r53, hst.r54, hst.r55, hst.r56, hst.r57, hst.r59, (hst.hI46.to aG), (hst.hI47.to aG), (hst.hI48.to aG), (hst.hI49.to aG), (hst.hI50.to aG), (hst.hI51.to aG), (hst.hI52.to aG), (hst.hI54.to aG), (hst.hI55.to aG), (hst.hI56.to aG), (hst.hI57.to aG), hst.hl46, hst.hl47, hst.hl48, hst.hl49, hst.hl50, hst.hl51, hst.hl52, hst.hl54, hst.hl55, hst.hl56, hst.hl57⟩⟩ kns (fun w s => by exact s)
    ·have h13 : s1.mo + 1 ≠ 13 := beq_eq_false_iff_ne.1 hc2
     have hgo1 : d9 r m ({ s1 with d := s1.d - Cal.mdays s1.mo s1.y, mo := s1.mo + 1 }) = d9 r s.d.toNat s := by rw [← hgo]; conv => rhs; simp only [d9]; rw [if_neg oM, if_neg h13]
     refine g2 ?_
     refine dL 8 kR kR ?_
     refine g2 ?_
     refine rt (rfa 1) ?_
     refine rt (rld 0 rfl hst.hB rfl) ?_
     refine g2 ?_
     refine rt (rfa 0) ?_
     refine rt (rld 0 rfl hst.hB hst.h0) ?_
     refine g1 ?_
     refine gL (cvo rfl (fun w_ s_ => mG _ _ oM oM w_) ?_)
     refine g3 ?_
     refine aQ ⟨m, ({ s1 with d := s1.d - Cal.mdays s1.mo s1.y, mo := s1.mo + 1 } : It), (ky 0 1, iV (s1.mo + 1)) :: (ky 0 2, iV (s1.d - Cal.mdays s1.mo s1.y)) :: H1⟩ sO ⟨hgo1, by simp only; omega, by simp only; omega, hy1, hsm, ⟨hst.hB, hst.hR, (lY hst.lim), hst.h0, rfl, rfl, hst.h3, hst.h4, hst.h5, hst.h6, hst.h7, hst.h8, hst.h9, hst.h10, hst.h11, hst.h12, hst.h13, hst.h14, hst.h15, hst.h16, hst.h17, hst.h18, hst.h19, hst.h20, hst.h21, hst.h22, hst.h23, hst.h24, hst.h25, hst.h26, hst.h27, hst.h28, hst.h29, hst.hS0, hst.hS1, hst.hS2, hst.hS3, hst.hS4, hst.hS5, hst.hS6, hst.hS7, hst.hS8, hst.hS9, hst.hS10, hst.hp20, hst.hp21, hst.hp22, hst.c6, (fV hst.frS), (fW hst.frH), hst.hq0, hst.hq1, hst.r38, hst.r39, hst.r40, hst.r41, hst.r42, hst.r44, hst.r45, hst.r46, hst.r47, hst.r48, hst.r49, hst.r50, hst.r51, hst.r52, hst.r53, hst.r54, hst.r55, hst.r56, hst.r57, hst.r59, (hst.hI46.to aG), (hst.hI47.to aG), (hst.hI48.to aG), (hst.hI49.to aG), (hst.hI50.to aG), (hst.hI51.to aG), (hst.hI52.to aG), (hst.hI54.to aG), (hst.hI55.to aG), (hst.hI56.to aG), (hst.hI57.to aG), hst.hl46, hst.hl47, hst.hl48, hst.hl49, hst.hl50, hst.hl51, hst.hl52, hst.hl54, hst.hl55, hst.hl56, hst.hl57⟩⟩ kns (fun w s => by exact s)
   ·have hgt1 : ¬ Cal.mdays s1.mo s1.y < s1.d := oF hc2
    have hfg : d9 r s.d.toNat s = reb r s1 s1.y s1.mo := by rw [← hgo]; simp only [d9]; rw [if_pos oM]
    refine g5 ?_
    refine dL 11 kR kR ?_
    refine g2 ?_
    refine rt (rfa 7) ?_
    refine g2 ?_
    refine rt (rfa 0) ?_
    refine rt (rld 0 rfl hst.hB hst.h0) ?_
    refine g2 ?_
    refine rt (rfa 1) ?_
    refine rt (rld 0 rfl hst.hB hst.h1) ?_
    refine g1 ?_
    refine gL (r5 (it := it) (rb := rb) (r := r) (l := l) (s := reb r (s1) s1.y s1.mo) dE kR rfl (tV hst hr hw0 hd0 he0 (by rw [hsm.2.2.1, hsm.1]; exact hwn) (by rw [hsm.2.2.2.1, hsm.1, hsm.2.1]; exact hnw) (by rw [hsm.2.2.2.2.1, hsm.1]; exact hea) oM) (fun a2 H2 S2 st2 => ?_))
    refine g1 ?_
    refine jP kns (fun w s => s) (hn (reb r s1 s1.y s1.mo) (a2) _ _ (hfg.symm.trans hfix.symm) (hfin1) st2)
  ·have hgt : ¬ Cal.mdays s.mo s.y < s.d := oF hc2
   have hfix : fix r s = s := by unfold fix; rw [if_pos (.inr oM)]
   refine g1 ?_
   refine jP kns (fun w s => s) (hn (s) (a) _ _ (hfix.symm) (hfin) st)
 ·have h28 : ¬ 28 < s.d := oF hc2
  have hfix : fix r s = s := by unfold fix; rw [if_pos (.inl oM)]
  refine g1 ?_
  refine jP kns (fun w s => s) (hn (s) (a) _ _ (hfix.symm) (hfin) st)
theorem zX {Q : Exit → Act → World → Prop} {S0 : LS} {H0 : LV} {r : Ru} {l : Ra} {it rb : Nat} {s : It} {a : Ad} (st : St F w0 S0 H0 it rb r l s a B H S) (hr : RuOk r) (hw0 : r.weekno.length = 0) (hd0 : r.nwd.length = 0) (he0 : r.easter.length = 0) (hwn : s.wno = r.wnoF s.ly) (hnw : s.nwm = r.nwmF s.ly s.lm) (hea : s.eas = r.easF s.ly) (hy : 1 ≤ s.y ∧ s.y ≤ 9999) (hmo : 1 ≤ s.mo ∧ s.mo ≤ 12) (hd : 1 ≤ s.d ∧ s.d ≤ 31) (hwd : 0 ≤ s.wd ∧ s.wd ≤ 6) (hly : 1 ≤ s.ly ∧ s.ly ≤ 9999) (hfin : s.fin = false) (hfr : r.freq = 0) {flt : Bool}
  (hn : ∀ o a' H' S', o = adv r flt s → o.fin = false → St F w0 S0 H0 it rb r l o a' B H' S' → GE Q .normal 1418 [(0, pT it), (2, pT rb)] F w0 B H' S')
  (hq : ∀ o a' H' S', o = adv r flt s → o.fin = true → St F w0 S0 H0 it rb r l o a' B H' S' → GE Q .ret 1418 [] F w0 B H' S') : GC Tryz.prog (Go.Fr.part [1, 1, 0, 0, 1, 0, 1, 1, 1, 1, 1, 1] (Go.Fr.bodyOf Tryz.f96)) Q 1418 [(0, pT it), (2, pT rb), (6, .bool flt)] F w0 B H S := by
 have hiv := hr.interval
 have hwk := hr.wkst
 refine g10 ?_
 refine rl (rfa 38) ?_
 refine rl (rld 1 rfl st.hR st.r38) ?_
 refine rl ((aR rfl rfl).to (v' := .bool true) (cB (by rw [hfr]; rfl))) ?_
 refine g2 ?_
 refine aY rfl rfl ?_
 refine g1 ?_
 refine dL 11 kR kR ?_
 refine g2 ?_
 refine rt (rfa 0) ?_
 refine rt (rld 0 rfl st.hB st.h0) ?_
 refine g2 ?_
 refine rt (rfa 41) ?_
 refine rt (rld 1 rfl st.hR st.r41) ?_
 refine g2 ?_
 refine rt (rfa 0) ?_
 refine g1 ?_
 refine gL (sto 0 rfl rfl st.hB st.h0 ?_)
 refine g7 ?_
 refine rl (rfa 0) ?_
 refine rZ3 (rld 0 rfl st.hB rfl) ?_
 refine aB rfl (fun hc1 => ?_) (fun hc2 => ?_)
 ·have hbig : 9999 < s.y + r.interval := oT hc1
  have hadv : adv r flt s = { s with y := s.y + r.interval, fin := true } := by unfold adv; rw [if_pos hfr, if_pos hbig]
  refine g5 ?_
  refine rl (rfa 24) ?_
  refine rZ1 (rld 0 rfl st.hB st.h24) ?_
  refine rl (rfa 59) ?_
  refine gL (sto 1 rfl rfl st.hR st.r59 ?_)
  refine g6 ?_
  refine rl (rfa 28) ?_
  refine gL (sto 0 rfl rfl st.hB st.h28 ?_)
  refine g5 ?_
  refine jP (fun a q => q.nil) (fun w s => s) (hq ({ s with y := s.y + r.interval, fin := true }) ({ a with ln := iV s.total }) _ _ (hadv.symm) (rfl) ⟨st.hB, st.hR, (lY st.lim), rfl, st.h1, st.h2, st.h3, st.h4, st.h5, st.h6, st.h7, st.h8, st.h9, st.h10, st.h11, st.h12, st.h13, st.h14, st.h15, st.h16, st.h17, st.h18, st.h19, st.h20, st.h21, st.h22, st.h23, st.h24, st.h25, st.h26, st.h27, rfl, st.h29, st.hS0, st.hS1, st.hS2, st.hS3, st.hS4, st.hS5, st.hS6, st.hS7, st.hS8, st.hS9, st.hS10, st.hp20, st.hp21, st.hp22, st.c6, (fV st.frS), (fW st.frH), st.hq0, st.hq1, st.r38, st.r39, st.r40, st.r41, st.r42, st.r44, st.r45, st.r46, st.r47, st.r48, st.r49, st.r50, st.r51, st.r52, st.r53, st.r54, st.r55, st.r56, st.r57, rfl, (st.hI46.to aG), (st.hI47.to aG), (st.hI48.to aG), (st.hI49.to aG), (st.hI50.to aG), (st.hI51.to aG), (st.hI52.to aG), (st.hI54.to aG), (st.hI55.to aG), (st.hI56.to aG), (st.hI57.to aG), st.hl46, st.hl47, st.hl48, st.hl49, st.hl50, st.hl51, st.hl52, st.hl54, st.hl55, st.hl56, st.hl57⟩)
 ·have hbig : ¬ 9999 < s.y + r.interval := oF hc2
  have hadv : adv r flt s = reb r { s with y := s.y + r.interval } (s.y + r.interval) s.mo := by unfold adv; rw [if_pos hfr, if_neg hbig]
  refine g2 ?_
  refine dL 11 kR kR ?_
  refine g2 ?_
  refine rt (rfa 7) ?_
  refine g2 ?_
  refine rt (rfa 0) ?_
  refine rt (rld 0 rfl st.hB rfl) ?_
  refine g2 ?_
  refine rt (rfa 1) ?_
  refine rt (rld 0 rfl st.hB st.h1) ?_
  refine g1 ?_
  refine gL (r5 (it := it) (rb := rb) (r := r) (l := l) (s := reb r ({ s with y := s.y + r.interval }) (s.y + r.interval) s.mo) dE kR rfl (tV (⟨st.hB, st.hR, (lY st.lim), rfl, st.h1, st.h2, st.h3, st.h4, st.h5, st.h6, st.h7, st.h8, st.h9, st.h10, st.h11, st.h12, st.h13, st.h14, st.h15, st.h16, st.h17, st.h18, st.h19, st.h20, st.h21, st.h22, st.h23, st.h24, st.h25, st.h26, st.h27, st.h28, st.h29, st.hS0, st.hS1, st.hS2, st.hS3, st.hS4, st.hS5, st.hS6, st.hS7, st.hS8, st.hS9, st.hS10, st.hp20, st.hp21, st.hp22, st.c6, (fV st.frS), (fW st.frH), st.hq0, st.hq1, st.r38, st.r39, st.r40, st.r41, st.r42, st.r44, st.r45, st.r46, st.r47, st.r48, st.r49, st.r50, st.r51, st.r52, st.r53, st.r54, st.r55, st.r56, st.r57, st.r59, (st.hI46.to aG), (st.hI47.to aG), (st.hI48.to aG), (st.hI49.to aG), (st.hI50.to aG), (st.hI51.to aG), (st.hI52.to aG), (st.hI54.to aG), (st.hI55.to aG), (st.hI56.to aG), (st.hI57.to aG), st.hl46, st.hl47, st.hl48, st.hl49, st.hl50, st.hl51, st.hl52, st.hl54, st.hl55, st.hl56, st.hl57⟩ : St F w0 S0 H0 it rb r l { s with y := s.y + r.interval } a B ((ky 0 0, iV (s.y + r.interval)) :: H) S) hr hw0 hd0 he0 hwn hnw hea oM) (fun a2 H2 S2 st2 => ?_))
  refine g14 ?_
  refine aP rfl rfl ?_
  refine g1 ?_
  refine jP kns (fun w s => s) (hn (reb r { s with y := s.y + r.interval } (s.y + r.interval) s.mo) (a2) _ _ (hadv.symm) (hfin) st2)
theorem aCw {Q : Exit → Act → World → Prop} {S0 : LS} {H0 : LV} {r : Ru} {l : Ra} {it rb : Nat} {s : It} {a : Ad} (st : St F w0 S0 H0 it rb r l s a B H S) (hr : RuOk r) (hw0 : r.weekno.length = 0) (hd0 : r.nwd.length = 0) (he0 : r.easter.length = 0) (hwn : s.wno = r.wnoF s.ly) (hnw : s.nwm = r.nwmF s.ly s.lm) (hea : s.eas = r.easF s.ly) (hy : 1 ≤ s.y ∧ s.y ≤ 9999) (hmo : 1 ≤ s.mo ∧ s.mo ≤ 12) (hd : 1 ≤ s.d ∧ s.d ≤ 31) (hwd : 0 ≤ s.wd ∧ s.wd ≤ 6) (hly : 1 ≤ s.ly ∧ s.ly ≤ 9999) (hfin : s.fin = false) (hfr : r.freq = 3) {flt : Bool}
  (hn : ∀ o a' H' S', o = adv r flt s → o.fin = false → St F w0 S0 H0 it rb r l o a' B H' S' → GE Q .normal 1418 [(0, pT it), (2, pT rb)] F w0 B H' S')
  (hq : ∀ o a' H' S', o = adv r flt s → o.fin = true → St F w0 S0 H0 it rb r l o a' B H' S' → GE Q .ret 1418 [] F w0 B H' S') : GC Tryz.prog (Go.Fr.part [1, 1, 0, 0, 1, 0, 1, 1, 1, 1, 1, 1] (Go.Fr.bodyOf Tryz.f96)) Q 1418 [(0, pT it), (2, pT rb), (6, .bool flt)] F w0 B H S := by
 have hiv := hr.interval
 have hwk := hr.wkst
 refine g10 ?_
 refine rl (rfa 38) ?_
 refine rl (rld 1 rfl st.hR st.r38) ?_
 refine wZ7 ((aR rfl rfl).to (v' := .bool false) (cB (by rw [hfr]; rfl))) ?_
 refine rl (rfa 38) ?_
 refine rl (rld 1 rfl st.hR st.r38) ?_
 refine wZ7 ((aR rfl rfl).to (v' := .bool false) (cB (by rw [hfr]; rfl))) ?_
 refine rl (rfa 38) ?_
 refine rl (rld 1 rfl st.hR st.r38) ?_
 refine wZ7 ((aR rfl rfl).to (v' := .bool false) (cB (by rw [hfr]; rfl))) ?_
 refine rl (rfa 38) ?_
 refine rl (rld 1 rfl st.hR st.r38) ?_
 refine rl ((aR rfl rfl).to (v' := .bool true) (cB (by rw [hfr]; rfl))) ?_
 refine g2 ?_
 refine aY rfl rfl ?_
 refine g1 ?_
 refine dL 11 kR kR ?_
 refine g2 ?_
 refine rt (rfa 2) ?_
 refine rt (rld 0 rfl st.hB st.h2) ?_
 refine g2 ?_
 refine rt (rfa 41) ?_
 refine rt (rld 1 rfl st.hR st.r41) ?_
 refine g2 ?_
 refine rt (rfa 2) ?_
 refine g1 ?_
 refine gL (sto 0 rfl rfl st.hB st.h2 ?_)
 refine g6 ?_
 refine dO (L' := [(0, pT it), (2, pT rb), (42, .bool true)]) kns (fun w s => s) ?_
 have hadv : adv r flt s = fix r { s with d := s.d + r.interval } := by unfold adv; rw [if_neg oM, if_neg oM, if_neg oM, if_pos hfr]
 refine l0 (s := { s with d := s.d + r.interval }) (a := a) (H := (ky 0 2, iV (s.d + r.interval)) :: H) (⟨st.hB, st.hR, (lY st.lim), st.h0, st.h1, rfl, st.h3, st.h4, st.h5, st.h6, st.h7, st.h8, st.h9, st.h10, st.h11, st.h12, st.h13, st.h14, st.h15, st.h16, st.h17, st.h18, st.h19, st.h20, st.h21, st.h22, st.h23, st.h24, st.h25, st.h26, st.h27, st.h28, st.h29, st.hS0, st.hS1, st.hS2, st.hS3, st.hS4, st.hS5, st.hS6, st.hS7, st.hS8, st.hS9, st.hS10, st.hp20, st.hp21, st.hp22, st.c6, (fV st.frS), (fW st.frH), st.hq0, st.hq1, st.r38, st.r39, st.r40, st.r41, st.r42, st.r44, st.r45, st.r46, st.r47, st.r48, st.r49, st.r50, st.r51, st.r52, st.r53, st.r54, st.r55, st.r56, st.r57, st.r59, (st.hI46.to aG), (st.hI47.to aG), (st.hI48.to aG), (st.hI49.to aG), (st.hI50.to aG), (st.hI51.to aG), (st.hI52.to aG), (st.hI54.to aG), (st.hI55.to aG), (st.hI56.to aG), (st.hI57.to aG), st.hl46, st.hl47, st.hl48, st.hl49, st.hl50, st.hl51, st.hl52, st.hl54, st.hl55, st.hl56, st.hl57⟩ : St F w0 S0 H0 it rb r l { s with d := s.d + r.interval } a B ((ky 0 2, iV (s.d + r.interval)) :: H) S) hr hw0 hd0 he0 hwn hnw hea sO hmo hy hly hfin (fun o a' H' S' ho => hn o a' H' S' (ho.trans hadv.symm)) (fun o a' H' S' ho => hq o a' H' S' (ho.trans hadv.symm))
theorem aA4 {Q : Exit → Act → World → Prop} {S0 : LS} {H0 : LV} {r : Ru} {l : Ra} {it rb : Nat} {s : It} {a : Ad} (st : St F w0 S0 H0 it rb r l s a B H S) (hr : RuOk r) (hw0 : r.weekno.length = 0) (hd0 : r.nwd.length = 0) (he0 : r.easter.length = 0) (hwn : s.wno = r.wnoF s.ly) (hnw : s.nwm = r.nwmF s.ly s.lm) (hea : s.eas = r.easF s.ly) (hy : 1 ≤ s.y ∧ s.y ≤ 9999) (hmo : 1 ≤ s.mo ∧ s.mo ≤ 12) (hd : 1 ≤ s.d ∧ s.d ≤ 31) (hwd : 0 ≤ s.wd ∧ s.wd ≤ 6) (hly : 1 ≤ s.ly ∧ s.ly ≤ 9999) (hfin : s.fin = false) (hfr : r.freq = 2) {flt : Bool}
  (hn : ∀ o a' H' S', o = adv r flt s → o.fin = false → St F w0 S0 H0 it rb r l o a' B H' S' → GE Q .normal 1418 [(0, pT it), (2, pT rb)] F w0 B H' S')
  (hq : ∀ o a' H' S', o = adv r flt s → o.fin = true → St F w0 S0 H0 it rb r l o a' B H' S' → GE Q .ret 1418 [] F w0 B H' S') : GC Tryz.prog (Go.Fr.part [1, 1, 0, 0, 1, 0, 1, 1, 1, 1, 1, 1] (Go.Fr.bodyOf Tryz.f96)) Q 1418 [(0, pT it), (2, pT rb), (6, .bool flt)] F w0 B H S := by
 have hiv := hr.interval
 have hwk := hr.wkst
 refine g10 ?_
 refine rl (rfa 38) ?_
 refine rl (rld 1 rfl st.hR st.r38) ?_
 refine wZ7 ((aR rfl rfl).to (v' := .bool false) (cB (by rw [hfr]; rfl))) ?_
 refine rl (rfa 38) ?_
 refine rl (rld 1 rfl st.hR st.r38) ?_
 refine wZ7 ((aR rfl rfl).to (v' := .bool false) (cB (by rw [hfr]; rfl))) ?_
 refine rl (rfa 38) ?_
 refine rl (rld 1 rfl st.hR st.r38) ?_
 refine rl ((aR rfl rfl).to (v' := .bool true) (cB (by rw [hfr]; rfl))) ?_
 refine g2 ?_
 refine aY rfl rfl ?_
 refine g5 ?_
 refine rq (rfa 42) ?_
 refine rq (rld 1 rfl st.hR st.r42) ?_
 refine g2 ?_
 refine rq (rfa 6) ?_
 refine rq (rld 0 rfl st.hB st.h6) ?_
 refine g3 ?_
 refine aB rfl (fun hc1 => ?_) (fun hc2 => ?_)
 ·have hlt : s.wd < r.wkst := oT hc1
  refine dL 25 kR kR ?_
  refine g2 ?_
  refine rt (rfa 2) ?_
  refine rt (rld 0 rfl st.hB st.h2) ?_
  refine g2 ?_
  refine rt (rfa 6) ?_
  refine rt (rld 0 rfl st.hB st.h6) ?_
  refine g3 ?_
  refine rt (rfa 42) ?_
  refine rt (rld 1 rfl st.hR st.r42) ?_
  refine g5 ?_
  refine rt (rfa 41) ?_
  refine rt (rld 1 rfl st.hR st.r41) ?_
  refine g4 ?_
  refine rt (rfa 2) ?_
  refine g1 ?_
  refine gL (sto 0 rfl rfl st.hB st.h2 ?_)
  refine g7 ?_
  refine rl (rfa 42) ?_
  refine rZ1 (rld 1 rfl st.hR st.r42) ?_
  refine rl (rfa 6) ?_
  refine gL (sto 0 rfl rfl st.hB st.h6 ?_)
  refine g6 ?_
  refine dO (L' := [(0, pT it), (2, pT rb), (42, .bool true)]) kns (fun w s => s) ?_
  have hadv : adv r flt s = fix r { s with d := s.d + (-(s.wd + 1 + (6 - r.wkst)) + r.interval * 7), wd := r.wkst } := by unfold adv; rw [if_neg oM, if_neg oM, if_pos hfr, if_pos hlt]
  refine l0 (s := { s with d := s.d + (-(s.wd + 1 + (6 - r.wkst)) + r.interval * 7), wd := r.wkst }) (a := a) (H := (ky 0 6, iV r.wkst) :: (ky 0 2, iV (s.d + (-(s.wd + 1 + (6 - r.wkst)) + r.interval * 7))) :: H) (⟨st.hB, st.hR, (lY st.lim), st.h0, st.h1, rfl, st.h3, st.h4, st.h5, rfl, st.h7, st.h8, st.h9, st.h10, st.h11, st.h12, st.h13, st.h14, st.h15, st.h16, st.h17, st.h18, st.h19, st.h20, st.h21, st.h22, st.h23, st.h24, st.h25, st.h26, st.h27, st.h28, st.h29, st.hS0, st.hS1, st.hS2, st.hS3, st.hS4, st.hS5, st.hS6, st.hS7, st.hS8, st.hS9, st.hS10, st.hp20, st.hp21, st.hp22, st.c6, (fV st.frS), (fW st.frH), st.hq0, st.hq1, st.r38, st.r39, st.r40, st.r41, st.r42, st.r44, st.r45, st.r46, st.r47, st.r48, st.r49, st.r50, st.r51, st.r52, st.r53, st.r54, st.r55, st.r56, st.r57, st.r59, (st.hI46.to aG), (st.hI47.to aG), (st.hI48.to aG), (st.hI49.to aG), (st.hI50.to aG), (st.hI51.to aG), (st.hI52.to aG), (st.hI54.to aG), (st.hI55.to aG), (st.hI56.to aG), (st.hI57.to aG), st.hl46, st.hl47, st.hl48, st.hl49, st.hl50, st.hl51, st.hl52, st.hl54, st.hl55, st.hl56, st.hl57⟩ : St F w0 S0 H0 it rb r l { s with d := s.d + (-(s.wd + 1 + (6 - r.wkst)) + r.interval * 7), wd := r.wkst } a B ((ky 0 6, iV r.wkst) :: (ky 0 2, iV (s.d + (-(s.wd + 1 + (6 - r.wkst)) + r.interval * 7))) :: H) S) hr hw0 hd0 he0 hwn hnw hea sO hmo hy hly hfin (fun o a' H' S' ho => hn o a' H' S' (ho.trans hadv.symm)) (fun o a' H' S' ho => hq o a' H' S' (ho.trans hadv.symm))
 ·have hlt : ¬ s.wd < r.wkst := oF hc2
  refine dL 23 kR kR ?_
  refine g2 ?_
  refine rt (rfa 2) ?_
  refine rt (rld 0 rfl st.hB st.h2) ?_
  refine g2 ?_
  refine rt (rfa 6) ?_
  refine rt (rld 0 rfl st.hB st.h6) ?_
  refine g2 ?_
  refine rt (rfa 42) ?_
  refine rt (rld 1 rfl st.hR st.r42) ?_
  refine g4 ?_
  refine rt (rfa 41) ?_
  refine rt (rld 1 rfl st.hR st.r41) ?_
  refine g4 ?_
  refine rt (rfa 2) ?_
  refine g1 ?_
  refine gL (sto 0 rfl rfl st.hB st.h2 ?_)
  refine g7 ?_
  refine rl (rfa 42) ?_
  refine rZ1 (rld 1 rfl st.hR st.r42) ?_
  refine rl (rfa 6) ?_
  refine gL (sto 0 rfl rfl st.hB st.h6 ?_)
  refine g6 ?_
  refine dO (L' := [(0, pT it), (2, pT rb), (42, .bool true)]) kns (fun w s => s) ?_
  have hadv : adv r flt s = fix r { s with d := s.d + (-(s.wd - r.wkst) + r.interval * 7), wd := r.wkst } := by unfold adv; rw [if_neg oM, if_neg oM, if_pos hfr, if_neg hlt]
  refine l0 (s := { s with d := s.d + (-(s.wd - r.wkst) + r.interval * 7), wd := r.wkst }) (a := a) (H := (ky 0 6, iV r.wkst) :: (ky 0 2, iV (s.d + (-(s.wd - r.wkst) + r.interval * 7))) :: H) (⟨st.hB, st.hR, (lY st.lim), st.h0, st.h1, rfl, st.h3, st.h4, st.h5, rfl, st.h7, st.h8, st.h9, st.h10, st.h11, st.h12, st.h13, st.h14, st.h15, st.h16, st.h17, st.h18, st.h19, st.h20, st.h21, st.h22, st.h23, st.h24, st.h25, st.h26, st.h27, st.h28, st.h29, st.hS0, st.hS1, st.hS2, st.hS3, st.hS4, st.hS5, st.hS6, st.hS7, st.hS8, st.hS9, st.hS10, st.hp20, st.hp21, st.hp22, st.c6, (fV st.frS), (fW st.frH), st.hq0, st.hq1, st.r38, st.r39, st.r40, st.r41, st.r42, st.r44, st.r45, st.r46, st.r47, st.r48, st.r49, st.r50, st.r51, st.r52, st.r53, st.r54, st.r55, st.r56, st.r57, st.r59, (st.hI46.to aG), (st.hI47.to aG), (st.hI48.to aG), (st.hI49.to aG), (st.hI50.to aG), (st.hI51.to aG), (st.hI52.to aG), (st.hI54.to aG), (st.hI55.to aG), (st.hI56.to aG), (st.hI57.to aG), st.hl46, st.hl47, st.hl48, st.hl49, st.hl50, st.hl51, st.hl52, st.hl54, st.hl55, st.hl56, st.hl57⟩ : St F w0 S0 H0 it rb r l { s with d := s.d + (-(s.wd - r.wkst) + r.interval * 7), wd := r.wkst } a B ((ky 0 6, iV r.wkst) :: (ky 0 2, iV (s.d + (-(s.wd - r.wkst) + r.interval * 7))) :: H) S) hr hw0 hd0 he0 hwn hnw hea sO hmo hy hly hfin (fun o a' H' S' ho => hn o a' H' S' (ho.trans hadv.symm)) (fun o a' H' S' ho => hq o a' H' S' (ho.trans hadv.symm))
theorem aBs {r : Ru} {n : Nat} {s sEnd : It} (h : Gen r n s sEnd) (hr : s.rem = []) (hf : (dY r s).fin = true) : sEnd = dY r s := by
 cases h with
 | done h => exact absurd hr h
 | fin _ _ => rfl
 | more _ h _ => rw [hf] at h; cases h
theorem aE9 {r : Ru} {n : Nat} {s sEnd : It} (h : Gen r n s sEnd) (hr : s.rem = []) (hf : (dY r s).fin = false) : ∃ m, m < n ∧ Gen r m (dY r s) sEnd := by
 cases h with
 | done h => exact absurd hr h
 | fin _ h => rw [hf] at h; cases h
 | more _ _ h => exact ⟨_, Nat.lt_succ_self _, h⟩
theorem aEx {r : Ru} {n : Nat} {s sEnd : It} (h : Gen r n s sEnd) (hr : s.rem ≠ []) : sEnd = s := by
 cases h with
 | done _ => rfl
 | fin h _ => exact absurd h hr
 | more h _ _ => exact absurd h hr
theorem qD {r : Ru} {s : It} (h : (out r s).fin = true) : dY r s = out r s := by unfold dY; rw [if_pos h]
theorem l7 {r : Ru} {s : It} (h : (out r s).fin = false) : dY r s = adv r (cO r s) (out r s) := by unfold dY; rw [if_neg (by rw [h]; decide)]
def aF2 (r : Ru) : Prop := ∀ (F : Nat → Prop) (w0 : World) (B : LN) (H : LV) (S S0 : LS) (H0 : LV) (l : Ra) (it rb : Nat) (s : It) (a : Ad) (Q : Exit → Act → World → Prop) (flt : Bool), St F w0 S0 H0 it rb r l s a B H S → ∀ s0, ItOk r s0 → Same s0 s → s.fin = false →
  ∀ (hn : ∀ o a' H' S', o = adv r flt s → o.fin = false → St F w0 S0 H0 it rb r l o a' B H' S' → GE Q .normal 1418 [(0, pT it), (2, pT rb)] F w0 B H' S')
  (hq : ∀ o a' H' S', o = adv r flt s → o.fin = true → St F w0 S0 H0 it rb r l o a' B H' S' → GE Q .ret 1418 [] F w0 B H' S'), GC Tryz.prog (Go.Fr.part [1, 1, 0, 0, 1, 0, 1, 1, 1, 1, 1, 1] (Go.Fr.bodyOf Tryz.f96)) Q 1418 [(0, pT it), (2, pT rb), (6, .bool flt)] F w0 B H S
structure Plain (r : Ru) : Prop where
 setl : r.setpos.length ≤ 1000
 setb : ∀ q ∈ r.setpos, -1000 ≤ q ∧ q ≤ 1000
 adv : aF2 r
theorem wK {S0 : LS} {H0 : LV} {r : Ru} {l : Ra} {it rb : Nat} {s : It} {a : Ad} (st : St F w0 S0 H0 it rb r l s a B H S) (hfin : s.fin = true) : ∀ w, Sees F w0 B H S w → Calls Tryz.prog 96 #[pT it] w fun e w' => e = .returned (.tuple #[]) ∧ ∃ a H' S', St F w0 S0 H0 it rb r l s a B H' S' ∧ Sees F w0 B H' S' w' := by
 intro w s
 refine aI (args := [pT it]) (L := [(0, pT it)]) (N := 1418) Tryz.func96 rfl rfl ble rfl s ?_
 refine g5 ?_
 refine rl (rfa 28) ?_
 refine rZ2 (rld 0 rfl st.hB st.h28) ?_
 refine aY rfl hfin ?_
 refine g2 ?_
 refine d7 (.inl rfl) rfl fun w s => ⟨rfl, a, _, _, st, s⟩
theorem tS {S0 : LS} {H0 : LV} {r : Ru} {l : Ra} {it rb : Nat} {s : It} {a : Ad} (st : St F w0 S0 H0 it rb r l s a B H S) (hr : RuOk r) (hp : Plain r) {n : Nat} {sEnd : It} (hG : Gen r n s sEnd) (hk : ItOk r s) (hfin : s.fin = false)
  (hpres : ∀ s, ItOk r s → s.rem = [] → s.fin = false → (dY r s).fin = false → ItOk r (dY r s)) : ∀ w, Sees F w0 B H S w → Calls Tryz.prog 96 #[pT it] w fun e w' => e = .returned (.tuple #[]) ∧ ∃ a H' S', St F w0 S0 H0 it rb r l sEnd a B H' S' ∧ Sees F w0 B H' S' w' := by
 intro w s_
 refine aI (args := [pT it]) (L := [(0, pT it)]) (N := 1418) Tryz.func96 rfl rfl ble rfl s_ ?_
 refine g5 ?_
 refine rl (rfa 28) ?_
 refine rZ2 (rld 0 rfl st.hB st.h28) ?_
 refine aP rfl hfin ?_
 refine g6 ?_
 refine rl (rfa 7) ?_
 refine rl (rfa 0) ?_
 refine rZ4 (rld 0 rfl st.hB st.h7) ?_
 refine bJ (ι := (Nat) × (It) × (Ad) × (LV) × (LS)) (fun | ⟨n1, s1, a1, H1, S1⟩ => n1) (fun | ⟨n1, s1, a1, H1, S1⟩ => (Gen r n1 s1 sEnd) ∧ (ItOk r s1) ∧ (s1.fin = false) ∧ (St F w0 S0 H0 it rb r l s1 a1 B H1 S1)) (fun | ⟨n1, s1, a1, H1, S1⟩ => [(0, pT it), (2, pT rb)]) (fun | ⟨n1, s1, a1, H1, S1⟩ => B) (fun | ⟨n1, s1, a1, H1, S1⟩ => H1) (fun | ⟨n1, s1, a1, H1, S1⟩ => S1) ⟨n, s, a, H, S⟩ ⟨hG, hk, hfin, st⟩ kns (fun w s => by exact s) ?_
 rintro ⟨n1, s1, a1, H1, S1⟩ ⟨hG1, hk1, hf1, st1⟩
 show GC _ _ _ _ [(0, pT it), (2, pT rb)] _ _ (B) (H1) (S1)
 refine g5 ?_
 refine rl (rfa 26) ?_
 refine rl (aV 0 rfl st1.hB st1.h26 st1.h27 kR dE) ?_
 refine gL (mM (v := iV (s1.rem.length : Int)) dE kR rfl (aC9 (st1.lim.mono dE)) ?_)
 refine g3 ?_
 refine aB rfl (fun hc1 => ?_) (fun hc2 => ?_)
 ·have hrem : s1.rem = [] := List.eq_nil_of_length_eq_zero (by have := beq_iff_eq.1 hc1; omega)
  refine g3 ?_
  refine dO (L' := [(0, pT it), (2, pT rb)]) kns (fun w s => s) ?_
  refine xZ (B := B) (H := H1) (S := S1) ?_ st1 hr hk1 hrem hf1 hp.setl hp.setb (fun o a' H' S' ho hof hsm st' => ?_) (fun o a' H' S' ho hof hsm st' => ?_)
  ·exact Blind.inBlock (Blind.then (Blind.inBlock Blind.body))
  ·refine hp.adv F w0 B H' S' _ _ _ _ _ _ _ _ _ st' s1 hk1 hsm hof (fun o2 a2 H2 S2 ho2 hof2 st2 => ?_) (fun o2 a2 H2 S2 ho2 hof2 st2 => ?_)
   ·have hround : dY r s1 = o2 := by rw [l7 (by rw [← ho]; exact hof), ← ho]; exact ho2.symm
    obtain ⟨m, hm, hG2⟩ := aE9 hG1 hrem (by rw [hround]; exact hof2)
    have hk2 := hpres s1 hk1 hrem hf1 (by rw [hround]; exact hof2)
    rw [hround] at hG2 hk2
    exact aHe (aQ (B := B) (H := H2) (S := S2) ⟨m, o2, a2, H2, S2⟩ hm ⟨hG2, hk2, hof2, st2⟩ kns (fun w s => s))
   ·have hround : dY r s1 = o2 := by rw [l7 (by rw [← ho]; exact hof), ← ho]; exact ho2.symm
    have hend := aBs hG1 hrem (by rw [hround]; exact hof2)
    rw [hround] at hend; subst hend
    repeat (first | refine qT ?_ | refine nC ?_)
    exact d7 (.inl rfl) rfl fun w s => ⟨rfl, a2, H2, S2, st2, s⟩
  ·have hround : dY r s1 = o := (qD (by rw [← ho]; exact hof)).trans ho.symm
   have hend := aBs hG1 hrem (by rw [hround]; exact hof)
   rw [hround] at hend; subst hend
   repeat (first | refine qT ?_ | refine nC ?_)
   exact d7 (.inl rfl) rfl fun w s => ⟨rfl, a', H', S', st', s⟩
 ·have hrem : s1.rem ≠ [] := fun h => by have := beq_eq_false_iff_ne.1 hc2; rw [h] at this; exact this rfl
  have hend := aEx hG1 hrem
  refine g4 ?_
  subst hend
  refine d7 (.inr rfl) rfl fun w s => ⟨rfl, a1, _, _, st1, s⟩
end
end Go.Proofs.YtdbbifbmkfmbkaaGreat
