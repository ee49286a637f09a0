import Derived.Test.YthomapgobmdicaaGreatZrd
set_option linter.unusedVariables false
set_option linter.unusedSimpArgs false
set_option maxRecDepth 100000
set_option maxHeartbeats 8000000
namespace Go.Flt
open Ieee
theorem core {a b P T q kept : Nat} (hb : 0 < b) (hT : T = 4 \/ T = 8) (hP : 2 * b < P) (hq : q * b = a * (P * T) \/ (q % 2 = 1 /\ (q - 1) * b < a * (P * T) /\ a * (P * T) < (q + 1) * b)) (hk : kept = q / T \/ (kept = q / T + 1 /\ q % T ≠ 0)) :
  kept / P = a / b /\ (kept % P = 0 ↔ a % b = 0) := by
 have hT0 : 0 < T := by omega
 have hP0 : 0 < P := by omega
 have ha := Nat.div_add_mod a b
 have hqT := Nat.div_add_mod q T
 have hqm := Nat.mod_lt q hT0
 have hR := Nat.mod_lt a hb
 generalize hQ : a / b = Q at *
 generalize hr : a % b = R at *
 have hQb : a * (P * T) = Q * P * T * b + R * P * T := by
  rw [<- ha, Nat.add_mul, Nat.mul_comm b Q, Nat.mul_assoc Q b, Nat.mul_comm b (P * T), <- Nat.mul_assoc, <- Nat.mul_assoc, <- Nat.mul_assoc]
 by_cases h0 : R = 0
 .have hE : a * (P * T) = Q * P * T * b := by rw [hQb, h0]; simp
  have hqe : q = Q * P * T := by
   rcases hq with h | ⟨h1, h2, h3⟩
   .rw [hE] at h; exact Nat.eq_of_mul_eq_mul_right hb h
   .exfalso
    rw [hE] at h2 h3
    have h4 : q - 1 < Q * P * T := Nat.lt_of_mul_lt_mul_right h2
    have h5 : Q * P * T < q + 1 := Nat.lt_of_mul_lt_mul_right h3
    have h6 : Q * P * T = q := by omega
    have h7 : (Q * P * T) % 2 = 0 := by rcases hT with rfl | rfl <;> omega
    omega
  have hkk : kept = Q * P := by
   have h1 : q / T = Q * P := by rw [hqe]; exact Nat.mul_div_cancel _ hT0
   have h2 : q % T = 0 := by rw [hqe]; exact Nat.mul_mod_left _ _
   rcases hk with h | ⟨h, h3⟩
   .rw [h, h1]
   .exact absurd h2 h3
  rw [hkk]
  exact ⟨Nat.mul_div_cancel _ hP0, fun _ => h0, fun _ => Nat.mul_mod_left _ _⟩
 .have hR1 : 1 <= R := by omega
  have hlo : a * (P * T) <= q * b + b := by
   rcases hq with h | ⟨_, _, h⟩
   .omega
   .rw [Nat.add_mul, Nat.one_mul] at h; omega
  have hhi : q * b <= a * (P * T) + b := by
   rcases hq with h | ⟨h1, h, _⟩
   .omega
   .rw [Nat.sub_mul, Nat.one_mul] at h; omega
  have hk1 : q <= kept * T + T := by
   have h1 : T * (q / T) <= T * kept := Nat.mul_le_mul_left _ (by rcases hk with h | ⟨h, _⟩ <;> omega)
   rw [Nat.mul_comm T kept] at h1
   omega
  have hk2 : kept * T <= q + T := by
   have h1 : T * kept <= T * (q / T + 1) := Nat.mul_le_mul_left _ (by rcases hk with h | ⟨h, _⟩ <;> omega)
   rw [Nat.mul_comm T kept, Nat.mul_add, Nat.mul_one] at h1
   omega
  have hbT : b + T * b < P * T := by
   have h1 : (2 * b + 1) * T <= P * T := Nat.mul_le_mul_right _ oM
   rw [Nat.add_mul, Nat.mul_assoc, Nat.mul_comm b T] at h1
   have h2 : b * 1 <= b * T := Nat.mul_le_mul_left _ oM
   rw [Nat.mul_comm b T] at h2
   omega
  have k1 : q * b <= kept * T * b + T * b := by rw [<- Nat.add_mul]; exact Nat.mul_le_mul_right _ hk1
  have k2 : kept * T * b <= q * b + T * b := by rw [<- Nat.add_mul]; exact Nat.mul_le_mul_right _ hk2
  have hRP : P * T <= R * P * T := by
   have : 1 * (P * T) <= R * (P * T) := Nat.mul_le_mul_right _ hR1
   rw [Nat.one_mul, <- Nat.mul_assoc] at this; exact this
  have low : Q * P < kept := by
   have h1 : Q * P * T * b < kept * T * b := by omega
   have h2 := Nat.lt_of_mul_lt_mul_right h1
   exact Nat.lt_of_mul_lt_mul_right h2
  have hRb : R * P * T + P * T <= P * T * b := by
   have : (R + 1) * (P * T) <= b * (P * T) := Nat.mul_le_mul_right _ oM
   rw [Nat.add_mul, Nat.one_mul, <- Nat.mul_assoc, Nat.mul_comm b] at this; exact this
  have high : kept < Q * P + P := by
   have h1 : kept * T * b < Q * P * T * b + P * T * b := by omega
   rw [<- Nat.add_mul, <- Nat.add_mul] at h1
   have h2 := Nat.lt_of_mul_lt_mul_right h1
   exact Nat.lt_of_mul_lt_mul_right h2
  have e1 : kept / P = Q := Nat.div_eq_of_lt_le oM (by rw [Nat.add_mul, Nat.one_mul]; exact high)
  have e2 := Nat.div_add_mod kept P
  rw [e1, Nat.mul_comm P Q] at e2
  exact ⟨e1, fun h => by omega, fun h => absurd h h0⟩
theorem wW : double.binade = 2 ^ 52 := rfl
theorem aAt : double.leastPlace = -1074 := by decide
theorem aLy : double.infRung = 2047 * 2 ^ 52 := rfl
theorem aFq : double.signWeight = 2 ^ 63 := rfl
theorem aAk {s : Bool} {r : Nat} (h1 : 2 ^ 52 <= r) (h2 : r < 2047 * 2 ^ 52) : double.read (double.word s r) = .number s (2 ^ 52 + r % 2 ^ 52) (-1074 + (r / 2 ^ 52 - 1 : Nat)) := by
 have e1 : double.word s r % double.signWeight = r := by
  unfold Format.word; rw [aFq]
  cases s
  .show r % 2 ^ 63 = r; exact Nat.mod_eq_of_lt oM
  .show (2 ^ 63 + r) % 2 ^ 63 = r; omega
 have e2 : (double.word s r / double.signWeight % 2 == 1) = s := by
  unfold Format.word; rw [aFq]
  cases s
  .show (r / 2 ^ 63 % 2 == 1) = false; rw [Nat.div_eq_of_lt oM]; rfl
  .show ((2 ^ 63 + r) / 2 ^ 63 % 2 == 1) = true; rw [show (2 ^ 63 + r) / 2 ^ 63 = 1 by omega]; rfl
 unfold Format.read
 simp only [e1, e2, wW, aLy, aAt]
 rw [if_neg oM, if_pos h2]
theorem read_zero (s : Bool) : double.read (double.word s 0) = .number s 0 (-1074) := by
 have e1 : double.word s 0 % double.signWeight = 0 := by
  unfold Format.word; rw [aFq]
  cases s
  .show 0 % 2 ^ 63 = 0; omega
  .show (2 ^ 63 + 0) % 2 ^ 63 = 0; omega
 have e2 : (double.word s 0 / double.signWeight % 2 == 1) = s := by
  unfold Format.word; rw [aFq]
  cases s
  .show (0 / 2 ^ 63 % 2 == 1) = false; rw [Nat.zero_div]; rfl
  .show ((2 ^ 63 + 0) / 2 ^ 63 % 2 == 1) = true; rw [show (2 ^ 63 + 0) / 2 ^ 63 = 1 by omega]; rfl
 unfold Format.read
 simp only [e1, e2, wW, aLy, aAt]
 exact if_pos (Nat.pow_pos dE)
theorem aFt {s : Bool} {e k : Nat} (he : e <= 2000) (h1 : 2 ^ 52 <= k) (h2 : k < 2 ^ 53) : double.read (double.word s (e * 2 ^ 52 + k)) = .number s k ((e : Int) - 1074) := by
 rw [aAk oM oM]
 have e1 : (e * 2 ^ 52 + k) / 2 ^ 52 = e + 1 := by omega
 have e2 : (e * 2 ^ 52 + k) % 2 ^ 52 = k - 2 ^ 52 := by omega
 have e3 : 2 ^ 52 + (k - 2 ^ 52) = k := by omega
 have e4 : -1074 + ((e + 1 - 1 : Nat) : Int) = (e : Int) - 1074 := by omega
 rw [e1, e2, e3, e4]
theorem aJj {s : Bool} {e : Nat} (he : e <= 2000) : double.read (double.word s (e * 2 ^ 52 + 2 ^ 53)) = .number s (2 ^ 52) ((e : Int) + 1 - 1074) := by
 rw [aAk oM oM]
 have e1 : (e * 2 ^ 52 + 2 ^ 53) / 2 ^ 52 = e + 2 := by omega
 have e2 : (e * 2 ^ 52 + 2 ^ 53) % 2 ^ 52 = 0 := by omega
 have e4 : -1074 + ((e + 2 - 1 : Nat) : Int) = (e : Int) + 1 - 1074 := by omega
 rw [e1, e2, e4, Nat.add_zero]
theorem aCi (s : Bool) (n d : Nat) (hd : d <= n.log2 + 2) : ∃ k, Toward.even.cut s n d = k /\ (k = n / 2 ^ d \/ (k = n / 2 ^ d + 1 /\ n % 2 ^ d ≠ 0)) := by
 refine ⟨_, rfl, ?_⟩
 unfold Toward.cut
 simp only [Nat.min_eq_left hd, Nat.one_shiftLeft]
 cases hm : (decide (2 ^ d < 2 * (n % 2 ^ d)) || 2 ^ d == 2 * (n % 2 ^ d) && n / 2 ^ d % 2 == 1) with
 | false => left; rfl
 | true =>
  right
  refine ⟨rfl, fun h => ?_⟩
  rw [h] at hm
  have hp : 0 < 2 ^ d := Nat.pow_pos dE
  simp at hm
theorem aDx (s : Bool) (n d : Nat) : Toward.down.cut s n d = n / 2 ^ d + (s && n % 2 ^ d != 0).toNat := by
 unfold Toward.cut
 simp only [Nat.one_shiftLeft]
 rcases Nat.le_total d (n.log2 + 2) with h | h
 .rw [Nat.min_eq_left h]
 .rw [Nat.min_eq_right h]
  have h1 : n < 2 ^ (n.log2 + 2) := Nat.lt_of_lt_of_le Nat.lt_log2_self (Nat.pow_le_pow_right dE oM)
  have h2 : n < 2 ^ d := Nat.lt_of_lt_of_le h1 (Nat.pow_le_pow_right dE h)
  rw [Nat.div_eq_of_lt h1, Nat.div_eq_of_lt h2, Nat.mod_eq_of_lt h1, Nat.mod_eq_of_lt h2]
theorem xN (s : Bool) (n d : Nat) : Toward.zero.cut s n d = n / 2 ^ d := by
 unfold Toward.cut
 simp only [Nat.one_shiftLeft]
 rcases Nat.le_total d (n.log2 + 2) with h | h
 .rw [Nat.min_eq_left h]; rfl
 .rw [Nat.min_eq_right h]
  have h1 : n < 2 ^ (n.log2 + 2) := Nat.lt_of_lt_of_le Nat.lt_log2_self (Nat.pow_le_pow_right dE oM)
  have h2 : n < 2 ^ d := Nat.lt_of_lt_of_le h1 (Nat.pow_le_pow_right dE h)
  rw [Nat.div_eq_of_lt h1, Nat.div_eq_of_lt h2]; rfl
theorem aBp {n l : Nat} (h1 : 2 ^ l <= n) (h2 : n < 2 ^ (l + 1)) : n.log2 = l := by
 have h0 : n ≠ 0 := by have : 0 < 2 ^ l := Nat.pow_pos dE; omega
 exact (Nat.log2_eq_iff h0).2 ⟨h1, h2⟩
theorem tN (s : Bool) {n : Nat} (h0 : 0 < n) (h1 : n < 2 ^ 53) : ∃ l : Nat, l <= 52 /\ 2 ^ l <= n /\ n < 2 ^ (l + 1) /\ 2 ^ 52 <= n * 2 ^ (52 - l) /\ n * 2 ^ (52 - l) < 2 ^ 53 /\ double.read (double.nearest s n 0) = .number s (n * 2 ^ (52 - l)) ((l : Int) - 52) := by
 have hn : n ≠ 0 := by omega
 have hl1 : 2 ^ n.log2 <= n := Nat.log2_self_le hn
 have hl2 : n < 2 ^ (n.log2 + 1) := Nat.lt_log2_self
 have hl : n.log2 <= 52 := by
  rcases Nat.lt_or_ge 52 n.log2 with h | h
  .have : 2 ^ 53 <= 2 ^ n.log2 := Nat.pow_le_pow_right dE h
   omega
  .exact h
 have k1 : 2 ^ 52 <= n * 2 ^ (52 - n.log2) := by
  have : 2 ^ n.log2 * 2 ^ (52 - n.log2) <= n * 2 ^ (52 - n.log2) := Nat.mul_le_mul_right _ hl1
  rwa [<- Nat.pow_add, show n.log2 + (52 - n.log2) = 52 by omega] at this
 have k2 : n * 2 ^ (52 - n.log2) < 2 ^ 53 := by
  have : n * 2 ^ (52 - n.log2) < 2 ^ (n.log2 + 1) * 2 ^ (52 - n.log2) := Nat.mul_lt_mul_of_pos_right hl2 (Nat.pow_pos dE)
  rwa [<- Nat.pow_add, show n.log2 + 1 + (52 - n.log2) = 53 by omega] at this
 refine ⟨n.log2, hl, hl1, hl2, k1, k2, ?_⟩
 have e : double.nearest s n 0 = double.word s ((n.log2 + 1022) * 2 ^ 52 + n * 2 ^ (52 - n.log2)) := by
  unfold Format.nearest
  rw [if_neg hn]
  simp only [aAt, wW, aLy]
  have hlast : max (0 + (n.log2 : Int) - (double.fractionBits : Nat)) (-1074) = (n.log2 : Int) - 52 := by
   show max (0 + (n.log2 : Int) - ((52 : Nat) : Int)) (-1074) = _
   omega
  rw [hlast]
  have s1 : (0 - ((n.log2 : Int) - 52)).toNat = 52 - n.log2 := by omega
  have s2 : ((n.log2 : Int) - 52 - 0).toNat = 0 := by omega
  have s3 : ((n.log2 : Int) - 52 - -1074).toNat = n.log2 + 1022 := by omega
  rw [s1, s2, s3, Nat.shiftLeft_eq]
  obtain ⟨k, hk, hk2⟩ := aCi s (n * 2 ^ (52 - n.log2)) 0 oM
  have hk3 : k = n * 2 ^ (52 - n.log2) := by
   rcases hk2 with h | ⟨_, h⟩
   .simpa using h
   .exact absurd (Nat.mod_one _) h
  rw [hk, hk3, Nat.min_eq_left oM]
 have e4 : ((n.log2 + 1022 : Nat) : Int) - 1074 = (n.log2 : Int) - 52 := by omega
 rw [e, aFt oM k1 k2, e4]
theorem int_back (s : Bool) {n : Nat} (h1 : n < 2 ^ 53) : (double.read (double.nearest s n 0)).toInt .zero = some (if s then -(n : Int) else (n : Int)) := by
 by_cases h0 : n = 0
 .subst h0
  have e : double.nearest s 0 0 = double.word s 0 := by unfold Format.nearest; rw [if_pos rfl]
  rw [e, read_zero]
  unfold Datum.toInt Datum.integral
  simp only [xN, Nat.zero_shiftLeft, Nat.zero_div]
  cases s <;> rfl
 .obtain ⟨l, hl, _, _, _, _, e⟩ := tN s oM h1
  rw [e]
  unfold Datum.toInt Datum.integral
  simp only [xN]
  have e1 : ((l : Int) - 52).toNat = 0 := by omega
  have e2 : (-((l : Int) - 52)).toNat = 52 - l := by omega
  rw [e1, e2, Nat.shiftLeft_eq, Nat.pow_zero, Nat.mul_one, Nat.mul_div_cancel _ (Nat.pow_pos dE)]
  unfold signed
  rw [Nat.shiftLeft_zero]
theorem aEm {s : Bool} {M N : Nat} {i j : Int} (hM1 : 2 ^ 52 <= M) (hM2 : M < 2 ^ 53) (hN1 : 2 ^ 52 <= N) (hN2 : N < 2 ^ 53) : ∃ q, 2 ^ 54 <= q /\ q < 2 ^ 56 /\ Datum.quotient (double.fractionBits + 2) (.number s M i) (.number false N j) = some (.number s q (i - j - (54 : Nat) - 1)) /\
  (q * N = 2 * (M * 2 ^ 54) \/ (q % 2 = 1 /\ (q - 1) * N < 2 * (M * 2 ^ 54) /\ 2 * (M * 2 ^ 54) < (q + 1) * N)) := by
 have lM : M.log2 = 52 := aBp hM1 hM2
 have lN : N.log2 = 52 := aBp hN1 hN2
 have hN0 : N ≠ 0 := by omega
 have hd1 := Nat.div_add_mod (M * 2 ^ 54) N
 have hd2 := Nat.mod_lt (M * 2 ^ 54) (Nat.pos_of_ne_zero hN0)
 have hq1 : 2 ^ 53 <= M * 2 ^ 54 / N := by
  refine (Nat.le_div_iff_mul_le oM).2 ?_
  omega
 have hq2 : M * 2 ^ 54 / N < 2 ^ 55 := by
  refine (Nat.div_lt_iff_lt_mul oM).2 ?_
  omega
 have eQ : Datum.quotient (double.fractionBits + 2) (.number s M i) (.number false N j) = some (.number s (2 * (M * 2 ^ 54 / N) + (M * 2 ^ 54 % N != 0).toNat) (i - j - (54 : Nat) - 1)) := by
  unfold Datum.quotient
  simp only [if_neg hN0]
  have e54 : double.fractionBits + 2 + N.log2 - M.log2 = 54 := by rw [lM, lN]; rfl
  rw [e54, Nat.shiftLeft_eq, Bool.xor_false]
 generalize M * 2 ^ 54 / N = q0 at *
 generalize M * 2 ^ 54 % N = rr at *
 generalize M * 2 ^ 54 = X at *
 refine ⟨_, ?_, ?_, eQ, ?_⟩
 .omega
 .have : (rr != 0).toNat <= 1 := Bool.toNat_le _
  omega
 .by_cases h : rr = 0
  .left
   subst h
   show (2 * q0 + 0) * N = _
   rw [<- hd1, Nat.add_zero, Nat.add_zero, Nat.mul_assoc, Nat.mul_comm q0]
  .right
   have e : (rr != 0).toNat = 1 := by rw [bne_iff_ne.2 h]; rfl
   rw [e]
   refine ⟨by omega, ?_, ?_⟩
   .rw [Nat.add_sub_cancel, <- hd1, Nat.mul_assoc, Nat.mul_comm q0]
    omega
   .rw [show 2 * q0 + 1 + 1 = 2 * (q0 + 1) by omega, <- hd1, Nat.mul_assoc, Nat.add_mul, Nat.one_mul, Nat.mul_comm q0]
    omega
theorem aMf (s : Bool) {q : Nat} (h1 : 2 ^ 54 <= q) (h2 : q < 2 ^ 56) {p : Int} (hp : -1000 <= p /\ p <= 0) : ∃ d k : Nat, (d = 2 \/ d = 3) /\ (k = q / 2 ^ d \/ (k = q / 2 ^ d + 1 /\ q % 2 ^ d ≠ 0)) /\ 2 ^ 52 <= k /\ k <= 2 ^ 53 /\ double.nearest s q p = double.word s ((p + (d : Int) + 1074).toNat * 2 ^ 52 + k) := by
 have hq00 : q ≠ 0 := by omega
 obtain ⟨d, hd, hlq⟩ : ∃ d, (d = 2 \/ d = 3) /\ q.log2 = 52 + d := by
  rcases Nat.lt_or_ge q (2 ^ 55) with h | h
  .exact ⟨2, .inl rfl, aBp h1 h⟩
  .exact ⟨3, .inr rfl, aBp h h2⟩
 obtain ⟨k, hk, hk2⟩ := aCi s q d oM
 have hqb1 : 2 ^ (52 + d) <= q := by rw [<- hlq]; exact Nat.log2_self_le hq00
 have hqb2 : q < 2 ^ (53 + d) := by have := @Nat.lt_log2_self q; rw [hlq] at this; rwa [show 53 + d = 52 + d + 1 by omega]
 have hkb : 2 ^ 52 <= k /\ k <= 2 ^ 53 := by
  rcases hd with rfl | rfl <;> rcases hk2 with h | ⟨h, _⟩ <;> omega
 refine ⟨d, k, hd, hk2, hkb.1, hkb.2, ?_⟩
 unfold Format.nearest
 rw [if_neg hq00]
 simp only [aAt, wW, aLy]
 rw [hlq]
 have hlast : max (p + ((52 + d : Nat) : Int) - (double.fractionBits : Nat)) (-1074) = p + d := by
  show max (p + ((52 + d : Nat) : Int) - ((52 : Nat) : Int)) (-1074) = _
  omega
 rw [hlast]
 have s1 : (p - (p + (d : Int))).toNat = 0 := by omega
 have s2 : (p + (d : Int) - p).toNat = d := by omega
 have s3 : (p + (d : Int) - -1074).toNat = (p + (d : Int) + 1074).toNat := by omega
 rw [s1, s2, s3, Nat.shiftLeft_zero, hk, Nat.min_eq_left oM]
theorem aDo (s : Bool) {a b m L : Nat} {e : Int} (he : e = -(L : Int)) (h1 : m / 2 ^ L = a / b) (h2 : m % 2 ^ L = 0 ↔ a % b = 0) : double.write (Datum.integral .down (.number s m e)) = double.nearest s (a / b + (s && a % b != 0).toNat) 0 := by
 unfold Datum.integral
 simp only [aDx]
 have e1 : e.toNat = 0 := by omega
 have e2 : (-e).toNat = L := by omega
 rw [e1, e2, Nat.shiftLeft_zero, h1]
 have e3 : (m % 2 ^ L != 0) = (a % b != 0) := by
  by_cases h : a % b = 0
  .rw [h2.2 h, h]
  .have h3 : m % 2 ^ L ≠ 0 := fun hh => h (h2.1 hh)
   rw [bne_iff_ne.2 h, bne_iff_ne.2 h3]
 rw [e3]
 rfl
theorem aHg {a b A Bl d q : Nat} (hA : A <= 30) (hB : Bl <= 30) (hd : d = 2 \/ d = 3) (hb0 : 0 < b)
  (hq : q * (b * 2 ^ (52 - Bl)) = 2 * (a * 2 ^ (52 - A) * 2 ^ 54) \/ (q % 2 = 1 /\ (q - 1) * (b * 2 ^ (52 - Bl)) < 2 * (a * 2 ^ (52 - A) * 2 ^ 54) /\ 2 * (a * 2 ^ (52 - A) * 2 ^ 54) < (q + 1) * (b * 2 ^ (52 - Bl)))) :
  q * b = a * (2 ^ (55 - d - A + Bl) * 2 ^ d) \/ (q % 2 = 1 /\ (q - 1) * b < a * (2 ^ (55 - d - A + Bl) * 2 ^ d) /\ a * (2 ^ (55 - d - A + Bl) * 2 ^ d) < (q + 1) * b) := by
 have hPT : 2 ^ (55 - d - A + Bl) * 2 ^ d = 2 ^ (55 - A + Bl) := by rw [<- Nat.pow_add]; congr 1; omega
 rw [hPT]
 have hX : 2 * (a * 2 ^ (52 - A) * 2 ^ 54) = a * 2 ^ (55 - A + Bl) * 2 ^ (52 - Bl) := by
  have e1 : 2 * (a * 2 ^ (52 - A) * 2 ^ 54) = a * (2 ^ (52 - A) * 2 ^ 55) := by
   rw [Nat.pow_succ (n := 2) (m := 54)]
   generalize (2 : Nat) ^ 54 = z
   simp only [Nat.mul_assoc, Nat.mul_comm, Nat.mul_left_comm]
  rw [e1, Nat.mul_assoc, <- Nat.pow_add, <- Nat.pow_add]
  congr 2
  omega
 rw [hX] at hq
 have hp : 0 < 2 ^ (52 - Bl) := Nat.pow_pos dE
 generalize (2 : Nat) ^ (52 - Bl) = Z at *
 generalize a * 2 ^ (55 - A + Bl) = Y at *
 simp only [<- Nat.mul_assoc] at hq
 rcases hq with h | ⟨h0, h1, h2⟩
 .exact .inl (Nat.eq_of_mul_eq_mul_right hp h)
 .exact .inr ⟨h0, Nat.lt_of_mul_lt_mul_right h1, Nat.lt_of_mul_lt_mul_right h2⟩
theorem quot (s : Bool) {a b : Nat} (ha0 : 0 < a) (ha : a < 2 ^ 31) (hb0 : 0 < b) (hb : b < 2 ^ 31) : ∃ r, double.div (double.nearest s a 0) (double.nearest false b 0) = some r /\ ∃ m e, double.read r = .number s m e /\ double.write (Datum.integral .down (.number s m e)) = double.nearest s (a / b + (s && a % b != 0).toNat) 0 := by
 obtain ⟨A, hA, hA1, hA2, hM1, hM2, eX⟩ := tN s ha0 (show a < 2 ^ 53 by omega)
 obtain ⟨Bl, hB, hB1, hB2, hN1, hN2, eY⟩ := tN false hb0 (show b < 2 ^ 53 by omega)
 have hA31 : A <= 30 := by
  rcases Nat.lt_or_ge 30 A with h | h
  .have : 2 ^ 31 <= 2 ^ A := Nat.pow_le_pow_right dE h
   omega
  .exact h
 have hB31 : Bl <= 30 := by
  rcases Nat.lt_or_ge 30 Bl with h | h
  .have : 2 ^ 31 <= 2 ^ Bl := Nat.pow_le_pow_right dE h
   omega
  .exact h
 obtain ⟨q, hqa, hqb, eQ, hq⟩ := aEm (s := s) (i := (A : Int) - 52) (j := (Bl : Int) - 52) hM1 hM2 hN1 hN2
 obtain ⟨d, k, hd, hk, hk1, hk2, eW⟩ := aMf s hqa hqb (p := (A : Int) - 52 - ((Bl : Int) - 52) - (54 : Nat) - 1) oM
 have hid := aHg (d := d) hA31 hB31 hd hb0 hq
 have hcore := core (a := a) (b := b) (P := 2 ^ (55 - d - A + Bl)) (T := 2 ^ d) (q := q) (kept := k) hb0 (by rcases hd with rfl | rfl <;> decide) (by
   have h1 : 2 ^ 21 * 2 ^ Bl <= 2 ^ (55 - d - A + Bl) := by rw [<- Nat.pow_add]; exact Nat.pow_le_pow_right dE oM
   have h2 : b < 2 ^ Bl * 2 := by rw [<- Nat.pow_succ]; exact hB2
   omega) hid hk
 have ep : ((A : Int) - 52 - ((Bl : Int) - 52) - (54 : Nat) - 1 + (d : Int) + 1074).toNat = A + 1074 + d - 55 - Bl := by omega
 rw [ep] at eW
 have eR : double.div (double.nearest s a 0) (double.nearest false b 0) = some (double.word s ((A + 1074 + d - 55 - Bl) * 2 ^ 52 + k)) := by
  unfold Format.div
  rw [eX, eY, eQ, Option.map_some, <- eW]
  rfl
 refine ⟨_, eR, ?_⟩
 rcases Nat.lt_or_ge k (2 ^ 53) with h | h
 .rw [aFt oM hk1 h]
  exact ⟨_, _, rfl, aDo s (L := 55 - d - A + Bl) oM hcore.1 hcore.2⟩
 .obtain rfl : k = 2 ^ 53 := by omega
  rw [aJj oM]
  have e53 : (2 : Nat) ^ 53 = 2 ^ 52 * 2 := by decide
  have eP : (2 : Nat) ^ (55 - d - A + Bl) = 2 ^ (54 - d - A + Bl) * 2 := by
   rw [<- Nat.pow_succ]; congr 1; omega
  refine ⟨_, _, rfl, aDo s (L := 54 - d - A + Bl) oM ?_ ?_⟩
  .rw [<- hcore.1, eP, e53, Nat.mul_div_mul_right _ _ dE]
  .rw [<- hcore.2, eP, e53, Nat.mul_mod_mul_right]
   omega
theorem quot0 {b : Nat} (hb0 : 0 < b) (hb : b < 2 ^ 31) : double.div (double.nearest (decide ((0 : Int) < 0)) (0 : Int).natAbs 0) (double.nearest false b 0) = some (double.word false 0) := by
 obtain ⟨Bl, hB, hB1, hB2, hN1, hN2, eY⟩ := tN false hb0 (show b < 2 ^ 53 by omega)
 have e0 : double.nearest (decide ((0 : Int) < 0)) (0 : Int).natAbs 0 = double.word false 0 := by
  show double.nearest false 0 0 = _
  unfold Format.nearest; rw [if_pos rfl]
 have hN : b * 2 ^ (52 - Bl) ≠ 0 := by omega
 unfold Format.div
 rw [e0, read_zero, eY]
 unfold Datum.quotient
 simp only [if_neg hN, Nat.zero_shiftLeft, Nat.zero_div, Nat.zero_mod, Bool.xor_false]
 refine congrArg some ?_
 show double.nearest false 0 _ = _
 unfold Format.nearest
 rw [if_pos rfl]
theorem zero_back : (double.read (double.write (Datum.integral .down (.number false 0 (-1074))))).toInt .zero = some 0 := by
 have e : double.write (Datum.integral .down (.number false 0 (-1074))) = double.word false 0 := by
  unfold Datum.integral
  simp only [aDx, Nat.zero_shiftLeft, Nat.zero_div]
  show double.nearest false 0 _ = _
  unfold Format.nearest
  rw [if_pos rfl]
 rw [e, read_zero]
 unfold Datum.toInt Datum.integral
 simp only [xN, Nat.zero_shiftLeft, Nat.zero_div]
 rfl
end Go.Flt
namespace Go.Fr
open Go.RowKit
section
variable {P : Program} {N : Nat} {L : Loc} {F : Nat -> Prop} {w0 : World} {B : LN} {H : LV} {S : LS}
variable {d : Nat} {v : Value} {ty : TypeId} {pos : String} {aft : Array Edge} {g : Option (Nat × Bool)}
theorem aGk {f : FuncId} {fn : Func} {e : Array Value -> Sem Value} {aS : List Operand} {ats : Array TypeId} {args : List Value} (hfn : P.funcs[f]? = some fn) (hb : fn.body = none) (hnm : (fn.name == "runtime.NumGoroutine") = false) (h1 : (Extern.findNext fn).isNone = true) (h2 : Extern.find fn = some e) (ha : Fr.evs L aS = some args) (hv : ∀ w : World, (e args.toArray).run P w = .ok v w) :
  Rd P ⟨some d, .call ⟨.value (.func f), aS.toArray, ats⟩, ty, pos, aft, g⟩ N L F w0 B H S v := fun a w k s => by
 have h1' : Extern.findNext fn = none := by simpa using h1
 have ea : (aS.map a.eval) = args := k.evs ha
 have hv' := hv w
 have hnm' : ¬ fn.name = "runtime.NumGoroutine" := by simpa using hnm
 have e0 : (callFunc f args.toArray).run P w = .ok (.value v) w := by
  simp [callFunc, hfn, hnm', hb, h1', h2, hv', mark]
  rw [show Sem.run P (Sem.mark (Mark.extern f) (Sem.pure ())) w = .ok () w from rfl]
  simp [hv']
 simp only [execOp, resolve, Act.eval, Deferred.ofValue, invoke, Sem.run_bind, Sem.run_pure, Result.andThen_ok, List.map_toArray, ea, Array.append_empty, Array.empty_append, e0]
theorem aJm {src dst : TypeId} {x : Operand} {q : IntKind} {n : Int} (hx : ev L x = some (.int q n)) (hs : (P.underlying src).isSome = true) (hd : P.underlying dst = some (.float .f64)) : Rd P ⟨some d, .convert src dst x, ty, pos, aft, g⟩ N L F w0 B H S (.float .f64 (Ieee.Format.nearest Ieee.double (n < 0) n.natAbs 0)) := fun a w k s => by
 obtain ⟨t, ht⟩ := Option.isSome_iff_exists.mp hs
 simp [execOp, convert, run_underlying ht, run_underlying hd, Conv.intToFloat, k.eval hx]
 rfl
theorem aLn {xt yt : TypeId} {x y : Operand} {m n r : Nat} (hx : ev L x = some (.float .f64 m)) (hy : ev L y = some (.float .f64 n)) (hr : Ieee.double.div m n = some r) : Rd P ⟨some d, .binOp .quo xt x y yt, ty, pos, aft, g⟩ N L F w0 B H S (.float .f64 r) := fun a w k s => by
 have hr' : FloatKind.f64.format.div m n = some r := hr
 simp [execOp, eqGuard, binOp, Op.floatArith, k.eval hx, k.eval hy, hr']
theorem aMg {src dst : TypeId} {x : Operand} {b : Nat} {n : Int} (hx : ev L x = some (.float .f64 b)) (hs : (P.underlying src).isSome = true) (hd : P.underlying dst = some (.int .i64)) (hn : (Ieee.double.read b).toInt .zero = some n) (hb : -9223372036854775808 <= n /\ n <= 9223372036854775807) : Rd P ⟨some d, .convert src dst x, ty, pos, aft, g⟩ N L F w0 B H S (iV n) := fun a w k s => by
 obtain ⟨t, ht⟩ := Option.isSome_iff_exists.mp hs
 have hn' : (FloatKind.f64.decode b).toInt .zero = some n := hn
 have h1 : IntKind.i64.min <= n /\ n <= IntKind.i64.max := by
  have e1 : IntKind.i64.min = -9223372036854775808 := by decide
  have e2 : IntKind.i64.max = 9223372036854775807 := by decide
  omega
 have e : Conv.floatToInt .f64 b .i64 = pure (iV n) := by
  unfold Conv.floatToInt
  simp only [hn']
  rw [if_pos h1]
 simp [execOp, convert, run_underlying ht, run_underlying hd, e, k.eval hx]
end
theorem aD5 {P : Program} {b : Nat} {s : Bool} {m : Nat} {e : Int} (h : Ieee.double.read b = .number s m e) (w : World) : (Extern.MathFloor.toIntegral "math.archFloor" .down #[.float .f64 b]).run P w = .ok (.float .f64 (Ieee.double.write (Ieee.Datum.integral .down (.number s m e)))) w := by
 have h' : FloatKind.f64.decode b = .number s m e := h
 delta Extern.MathFloor.toIntegral
 generalize FloatKind.decode = D at h' ⊢
 conv => lhs; arg 2; whnf
 rw [h']
 rfl
end Go.Fr
namespace Go.Proofs.YthomapgobmdicaaGreat
open Go.RowKit Go.Fr Go.Tab
section
variable {F : Nat -> Prop} {w0 : World} {B : LN} {H : LV} {S : LS}
theorem tB {b : Nat} {s : Bool} {m : Nat} {e : Int} (h : Ieee.double.read b = .number s m e) (w : World) : Calls Tryz.prog 121 #[.float .f64 b] w fun r w' => r = .returned (.float .f64 (Ieee.double.write (Ieee.Datum.integral .down (.number s m e)))) /\ Below w.heap.size w w' := by
 refine aF (args := [.float .f64 b]) (L := [(0, .float .f64 b)]) (N := 7) Tryz.func121 rfl rfl ble rfl (sS w) (g6 ?_)
 refine bK rfl rfl ?_
 refine g3 ?_
 refine rZ5 ((aGk (fn := Tryz.f144) (e := Extern.MathFloor.toIntegral "math.archFloor" .down) Tryz.func144 rfl kR kR kR rfl (aD5 h))) ?_
 exact gR rfl fun w_ s_ => ⟨rfl, s_.aPg⟩
theorem aK2 (a : Int) {b : Int} (hb : 0 < b) : (if decide (a < 0) then -((a.natAbs / b.natAbs + (decide (a < 0) && a.natAbs % b.natAbs != 0).toNat : Nat) : Int) else ((a.natAbs / b.natAbs + (decide (a < 0) && a.natAbs % b.natAbs != 0).toNat : Nat) : Int)) = a / b := by
 obtain ⟨n, rfl⟩ : ∃ n : Nat, b = n := ⟨b.toNat, by omega⟩
 have hn : 0 < n := by omega
 rw [Int.natAbs_natCast]
 by_cases h : a < 0
 .obtain ⟨m, rfl⟩ : ∃ m : Nat, a = -(m : Int) := ⟨a.natAbs, by omega⟩
  rw [decide_eq_true h]
  simp only [if_true, Int.natAbs_neg, Int.natAbs_natCast, Bool.true_and]
  have hd := Nat.div_add_mod m n
  have hm := Nat.mod_lt m hn
  by_cases h0 : m % n = 0
  .rw [h0] at hd ⊢
   symm
   apply Int.ediv_eq_of_eq_mul_left oM
   show -(m : Int) = -(((m / n + (0 != 0).toNat : Nat) : Int)) * n
   rw [show ((0 : Nat) != 0).toNat = 0 from rfl, Nat.add_zero, Int.neg_mul, <- Int.natCast_mul, Nat.mul_comm (m / n)]
   omega
  .rw [bne_iff_ne.2 h0]
   symm
   refine (Int.ediv_eq_iff_of_pos oM).2 ⟨?_, ?_⟩
   .show -(((m / n + 1 : Nat) : Int)) * (n : Int) <= -(m : Int)
    rw [Int.neg_mul, <- Int.natCast_mul, Nat.add_mul, Nat.one_mul, Nat.mul_comm (m / n)]
    omega
   .show -(m : Int) < -(((m / n + 1 : Nat) : Int)) * (n : Int) + n
    rw [Int.neg_mul, <- Int.natCast_mul, Nat.add_mul, Nat.one_mul, Nat.mul_comm (m / n)]
    omega
 .obtain ⟨m, rfl⟩ : ∃ m : Nat, a = m := ⟨a.natAbs, by omega⟩
  rw [decide_eq_false h]
  simp
theorem aI7 {m b : Int} (hb : 0 < b) (hb2 : b <= 1000000) : (-1000000 < m.tmod b /\ m.tmod b < 1000000) /\ -1000000000000 <= m.tmod b * b /\ m.tmod b * b <= 1000000000000 := by
 have h1 : m.tmod b < b := Int.tmod_lt_of_pos m hb
 have h2 : -b < m.tmod b := by
  have := Int.natAbs_tmod m b
  have h3 : m.natAbs % b.natAbs < b.natAbs := Nat.mod_lt _ oM
  omega
 refine ⟨by omega, ?_, ?_⟩
 .have := Int.mul_le_mul_of_nonneg_right (show -1000000 <= m.tmod b by omega) (show 0 <= b by omega)
  omega
 .have := Int.mul_le_mul_of_nonneg_right (show m.tmod b <= 1000000 by omega) (show 0 <= b by omega)
  omega
theorem aGs (a b : Int) (ha : -1000000000000000 <= a /\ a <= 1000000000000000) (hb : 0 < b /\ b <= 1000000) (w : World) : CB 107 #[iV a, iV b] w (iV (a % b)) := by
 refine aF (args := [iV a, iV b]) (L := [(0, iV a), (1, iV b)]) (N := 17) Tryz.func107 rfl rfl ble rfl (sS w) ?_
 have hr := aI7 (m := a) hb.1 hb.2
 have hr2 := z0 (m := a) hb.1
 refine g9 ?_
 refine rl (yU rfl rfl oM) (g12 ?_)
 refine aB rfl (fun c12_ => ?_) (fun c12_ => ?_)
 .first | have p12_ := oT c12_ | have p12_ := beq_iff_eq.1 c12_ | have p12_ := bne_iff_ne.1 c12_ | skip
  refine g14 ?_
  refine gR rfl fun w_ s_ => ⟨?_, s_.aPg⟩
  refine dX ?_
  omega
 .first | have p12_ := oF c12_ | have p12_ := beq_eq_false_iff_ne.1 c12_ | have p12_ := bne_eq_false_iff_eq.1 c12_ | skip
  refine g9 ?_
  refine gR rfl fun w_ s_ => ⟨?_, s_.aPg⟩
  refine dX ?_
  omega
theorem gG (a b : Int) (ha : -2000000000 <= a /\ a <= 2000000000) (hb : 0 < b /\ b <= 1000000) (w : World) : CB 108 #[iV a, iV b] w (.tuple #[iV (a / b), iV (a % b)]) := by
 have hdv := aK2 a hb.1
 have hbn : decide (b < 0) = false := decide_eq_false oM
 obtain ⟨r, hr, bits, hfl, hin⟩ : ∃ r, Ieee.double.div (Ieee.double.nearest (decide (a < 0)) a.natAbs 0) (Ieee.double.nearest (decide (b < 0)) b.natAbs 0) = some r /\ ∃ bits, (∀ w, CB 121 #[.float .f64 r] w (.float .f64 bits)) /\ (Ieee.double.read bits).toInt .zero = some (a / b) := by
  rw [hbn]
  by_cases h0 : a = 0
  .subst h0
   refine ⟨_, Flt.quot0 oM oM, _, fun w => tB (Flt.read_zero false) w, ?_⟩
   rw [Int.zero_ediv]; exact Flt.zero_back
  .obtain ⟨r, h1, m, e, h2, h3⟩ := Flt.quot (decide (a < 0)) (a := a.natAbs) (b := b.natAbs) oM oM oM oM
   refine ⟨r, h1, _, fun w => tB h2 w, ?_⟩
   rw [h3, Flt.int_back _ (by
    have : a.natAbs / b.natAbs <= a.natAbs := Nat.div_le_self _ _
    have h4 : (decide (a < 0) && a.natAbs % b.natAbs != 0).toNat <= 1 := Bool.toNat_le _
    omega), hdv]
 have hq : -2000000000 <= a / b /\ a / b <= 2000000000 := by
  have h1 : a / b <= a.natAbs := by
   have := Int.ediv_le_ediv hb.1 (show a <= (a.natAbs : Int) by omega)
   have h2 := Int.ediv_le_self (b := b) (a := (a.natAbs : Int)) oM
   omega
  have h2 : -(a.natAbs : Int) <= a / b := (Int.le_ediv_iff_mul_le hb.1).2 (by
   have : (a.natAbs : Int) * 1 <= (a.natAbs : Int) * b := Int.mul_le_mul_of_nonneg_left oM oM
   rw [Int.neg_mul]; omega)
  omega
 refine aF (args := [iV a, iV b]) (L := [(0, iV a), (1, iV b)]) (N := 16) Tryz.func108 rfl rfl ble rfl (sS w) (g9 ?_)
 refine rZ1 ((aJm rfl kR kR)) ?_
 refine rl ((aJm rfl kR kR)) (rl ((aLn rfl rfl hr)) (gL (cvo rfl (fun w_ s_ => hfl w_) (rZ2 ((aMg rfl kR kR hin oM)) ?_))))
 refine gL (cvo rfl (fun w_ s_ => aGs _ _ oM oM w_) (g5 ?_))
 exact d9 (.inl rfl) rfl (aE rfl) (aE rfl) fun w_ s_ => ⟨rfl, s_.aPg⟩
theorem aGq {a b : Int} (ha : -2000 <= a /\ a <= 2000) (hb : 0 < b) : -2000 <= a / b /\ a / b <= 2000 := by
 have h1 := Int.mul_ediv_add_emod a b
 have h2 := Int.emod_nonneg a (show b ≠ 0 by omega)
 have h3 := Int.emod_lt_of_pos a hb
 constructor
 .rcases Int.lt_or_le (a / b) (-2000) with h | h
  .have : b * (a / b) <= b * (-2001) := Int.mul_le_mul_of_nonneg_left oM oM
   omega
  .exact h
 .rcases Int.lt_or_le 2000 (a / b) with h | h
  .have : b * 2001 <= b * (a / b) := Int.mul_le_mul_of_nonneg_left oM oM
   omega
  .exact h
open Go.Md
theorem aKa (ts : List Int) : eB (ts.map fun t => (t, (0 : Int))) = bS ts := by
 unfold eB bS
 rw [List.map_map]; rfl
theorem Sees.prs {w : World} {k n c : Nat} {p : Option Addr} {e : TypeId} {ts : List Int} (s : Sees F w0 B H S w) (hk : lkp k S = some ⟨.slice p n c, e, 2, n, bS ts⟩) (hn : n = ts.length) : Prs w (.slice p ts.length c) (ts.map fun t => (t, (0 : Int))) := by
 subst hn
 rw [<- aKa] at hk
 exact (SrcU.row (F := F) (w0 := w0) (S := S) (t := k) hk) B H S w (fun _ _ => rfl) s
def yX (r : Ru) (it0 : It) (a : Int) (j : Nat) : List Int := ((List.range j).map fun (i : Nat) => a + (i : Int)).filter fun i => !bad r it0 i
theorem aKt {r : Ru} {it0 : It} {a : Int} {j : Nat} (h : bad r it0 (a + j) = false) : yX r it0 a (j + 1) = yX r it0 a j ++ [a + j] := by
 unfold yX
 rw [List.range_succ, List.map_append, List.filter_append]
 simp [h]
theorem aIg {r : Ru} {it0 : It} {a : Int} {j : Nat} (h : bad r it0 (a + j) = true) : yX r it0 a (j + 1) = yX r it0 a j := by
 unfold yX
 rw [List.range_succ, List.map_append, List.filter_append]
 simp [h]
theorem aI1 {r : Ru} {it0 : It} {a : Int} {n : Nat} (h : aX r it0 = (a, a + n)) : yX r it0 a n = l4 r it0 := by
 unfold yX l4
 rw [h]
 simp only
 rw [show (a + (n : Int) - a).toNat = n by omega]
theorem aI0 {r : Ru} {it0 : It} {a : Int} {n : Nat} {i : Int} (h : i ∈ yX r it0 a n) : a <= i /\ i < a + n := by
 unfold yX at h
 obtain ⟨j, h1, rfl⟩ := List.mem_map.1 (List.mem_filter.1 h).1
 have := List.mem_range.1 h1
 omega
theorem aGt (r : Ru) (s : It) (pos : Int) : oI r s pos = (nN (l4 r s) ((if pos < 0 then pos else pos - 1) / (s.ts.length : Int))).map fun i => (Cal.daysTo s.ly + i) * 86400 + s.ts.getD ((if pos < 0 then pos else pos - 1) % (s.ts.length : Int)).toNat 0 := by
 unfold oI nN
 dsimp only
 generalize (if pos < 0 then pos else pos - 1) = p
 generalize p / (s.ts.length : Int) = d
 generalize (if d < 0 then d + ((l4 r s).length : Int) else d) = j
 by_cases h0 : j < 0
 .rw [if_pos h0, if_pos (.inl h0)]; rfl
 .rw [if_neg h0]
  by_cases h1 : ((l4 r s).length : Int) <= j
  .rw [if_pos (.inr h1), List.getElem?_eq_none oM]
  .rw [if_neg (fun h => by rcases h with h | h <;> omega)]
theorem aGz {xs : List Int} {d i : Int} (h : nN xs d = some i) : i ∈ xs := by
 unfold nN at h
 dsimp only at h
 generalize (if d < 0 then d + (xs.length : Int) else d) = j at h
 by_cases c : j < 0 \/ (xs.length : Int) <= j
 .rw [if_pos c] at h; cases h
 .rw [if_neg c] at h; exact List.mem_of_getElem? h
theorem aKc {Q : Exit -> Act -> World -> Prop} (hblind : Blind Q) {r : Ru} {it0 : It} (hlim : Lim 40 B H S) {it rb : Nat} (hB : lkp 0 B = some it) (hR : lkp 1 B = some rb) {db n dc : Nat} {a : Int} {fl : Bool}
  (hS1 : lkp 1 S = some ⟨sL db n dc, 171, 2, n, dM a n (fun j => !bad r it0 (a + j))⟩) (ha : 0 <= a) (han : a + n <= 400) (hspan : aX r it0 = (a, a + n)) (hly : 1 <= it0.ly /\ it0.ly <= 10000)
  (h12 : lkp (ky 0 12) H = some (iV (Cal.daysTo it0.ly * 86400))) (h13 : lkp (ky 0 13) H = some (iV 0)) {tp : Option Addr} {tc : Nat} (h23 : lkp (ky 0 23) H = some (.slice tp it0.ts.length tc)) (hS2 : lkp 2 S = some ⟨.slice tp it0.ts.length tc, 80, 2, it0.ts.length, bS it0.ts⟩)
  (hts : ∀ t ∈ it0.ts, 0 <= t /\ t < 86400) (htn : 0 < it0.ts.length /\ it0.ts.length <= 100000) {q46 : Option Addr} {e46 : Nat} (r46 : lkp (ky 1 46) H = some (.slice q46 r.aPz.length e46)) (hI46 : SrcI F w0 S (.slice q46 r.aPz.length e46) r.aPz) (hsl : r.aPz.length <= 1000) (hsb : ∀ q ∈ r.aPz, -1000 <= q /\ q <= 1000)
  (r39 : lkp (ky 1 39) H = some (iV r.d0)) (r40 : lkp (ky 1 40) H = some (iV 0)) (r44 : lkp (ky 1 44) H = some (iV r.u0)) (r45 : lkp (ky 1 45) H = some (iV r.u1)) (hu : ¬ (r.u0 = 0 /\ r.u1 = 0)) (hu1 : 0 <= r.u1)
  {ln : Value} (r59 : lkp (ky 1 59) H = some ln) {v28 : Value} (h28 : lkp (ky 0 28) H = some v28) (h24 : lkp (ky 0 24) H = some (iV it0.aP3)) (h25 : lkp (ky 0 25) H = some (iV it0.count)) {p0 : Option Addr} {c0 : Nat} (h26 : lkp (ky 0 26) H = some (.slice p0 0 c0)) {bk0 : Value} (h27 : lkp (ky 0 27) H = some bk0)
  (hS0 : lkp 0 S = some ⟨.slice p0 0 c0, 80, 2, 0, []⟩) (hrem : it0.rem = []) (hfin : it0.fin = false) (htot : 0 <= it0.aP3 /\ it0.aP3 <= 1000000000000000) (hcnt : 0 <= it0.count /\ it0.count <= 9223372036854775807)
  (hn : ∀ (o : It) (p : Option Addr) (c : Nat) (bk : Value), o = dD r it0 (eM (iB r it0)) -> o.fin = false -> (o.rem ≠ [] -> bk = .slice p o.rem.length c) -> GE Q .normal 1418 [(0, pT it), (2, pT rb), (6, .bool fl)] F w0 B ((ky 0 24, iV o.aP3) :: (ky 0 25, iV o.count) :: (ky 0 26, .slice p o.rem.length c) :: (ky 0 27, bk) :: H) ((0, ⟨.slice p o.rem.length c, 80, 2, o.rem.length, (bS o.rem)⟩) :: S))
  (hr : ∀ (o : It) (p : Option Addr) (c : Nat) (bk ln : Value), o = dD r it0 (eM (iB r it0)) -> o.fin = true -> (o.rem ≠ [] -> bk = .slice p o.rem.length c) -> GE Q .ret 1418 [] F w0 B ((ky 0 28, .bool true) :: (ky 1 59, ln) :: (ky 0 24, iV o.aP3) :: (ky 0 25, iV o.count) :: (ky 0 26, .slice p o.rem.length c) :: (ky 0 27, bk) :: H) ((0, ⟨.slice p o.rem.length c, 80, 2, o.rem.length, (bS o.rem)⟩) :: S)) : GC Tryz.prog (Go.Fr.part [1, 1, 0, 0, 1, 0, 1, 1, 1, 1, 1, 0, 1, 0] (Go.Fr.bodyOf Tryz.f112)) Q 1418 [(0, pT it), (2, pT rb), (5, sL db n dc), (6, .bool fl)] F w0 B H S := by
 have hdt : 0 <= Cal.daysTo it0.ly /\ Cal.daysTo it0.ly <= 4000000 := by unfold Cal.daysTo; omega
 refine cQ (φ := 0 < it0.ts.length -> ∃ b, tp = some ⟨b, 0, none⟩ /\ it0.ts.length <= tc) (fun w s h => s.head 2 hS2 h) fun hthead => g16 ?_
 refine g1 ?_
 refine aY (ι := (Nat) × (List Int) × (Option Addr) × (Nat) × (Nat)) (fun | ⟨k, ps, pp, pc, pm⟩ => r.aPz.length - k) (fun | ⟨k, ps, pp, pc, pm⟩ => (k <= r.aPz.length) /\ (ps = (r.aPz.take k).foldl (fun l q => jP l (oI r it0 q)) []) /\ (pm = ps.length) /\ (pm <= k)) (fun | ⟨k, ps, pp, pc, pm⟩ => [(0, pT it), (2, pT rb), (5, sL db n dc), (6, .bool fl), (10, .slice pp pm pc), (371, .slice q46 r.aPz.length e46), (372, iV (r.aPz.length)), (373, iV k)]) (fun _ => B) (fun _ => H) (fun | ⟨k, ps, pp, pc, pm⟩ => ((44, ⟨.slice pp pm pc, 80, 2, pm, (bS ps)⟩) :: S)) ⟨0, [], none, 0, 0⟩ ⟨Nat.zero_le _, rfl, rfl, Nat.zero_le _⟩ kns (fun w s => by exact (s.aPm 44 80 2)) ?_
 rintro ⟨k, ps, pp, pc, pm⟩ ⟨hk, hps, hm, hmk⟩
 refine dS ?_
 refine g6 ?_
 refine aB rfl (fun hc1 => ?_) (fun hc2 => ?_)
 .have hlt : k < r.aPz.length := by have := oT hc1; omega
  obtain ⟨q, hq⟩ : ∃ q, r.aPz[k]? = some q := ⟨_, List.getElem?_eq_getElem hlt⟩
  have hqb := hsb q (List.mem_of_getElem? hq)
  refine cQ (fun w s => (hI46.to aG).head s oM) fun hh => ?_
  obtain ⟨b_q, o_q, hp_q⟩ := hh
  have src_q := hI46
  rw [hp_q] at src_q
  have hps1 : (r.aPz.take (k + 1)).foldl (fun l q => jP l (oI r it0 q)) [] = jP ps (oI r it0 q) := by rw [List.take_add_one, hq, List.foldl_append, <- hps]; rfl
  refine g6 ?_
  refine rl (aC (e := 3) (n := 1) kR (congrArg (fun p => some (Value.slice p _ _)) hp_q) rfl oM oM) (rl (dT kR rfl (fun w s => src_q.cell hq aG s)) (g9 ?_))
  refine cO (ι := (Int) × (Int)) (fun | ⟨dq, tq⟩ => (dq = (if q < 0 then q else q - 1) / (it0.ts.length : Int)) /\ (tq = (if q < 0 then q else q - 1) % (it0.ts.length : Int))) (fun | ⟨dq, tq⟩ => [(0, pT it), (2, pT rb), (5, sL db n dc), (6, .bool fl), (10, .slice pp pm pc), (371, .slice q46 r.aPz.length e46), (372, iV (r.aPz.length)), (373, iV k), (12, iV q), (13, iV dq), (14, iV tq)]) (fun _ => B) (fun _ => H) (fun _ => ((44, ⟨.slice pp pm pc, 80, 2, pm, (bS ps)⟩) :: S)) ?_ ?_
  .refine g6 ?_
   refine aB rfl (fun hc1 => ?_) (fun hc2 => ?_)
   .have hq0 : q < 0 := oT hc1
    refine g7 ?_
    refine gL (cvo rfl (fun w_ s_ => gG _ _ oM oM w_) (g6 ?_))
    refine aK (ι := Int × Int) (q / (it0.ts.length : Int), q % (it0.ts.length : Int)) ⟨by rw [if_pos hq0], by rw [if_pos hq0]⟩ kns (fun w s => s)
   .have hq0 : ¬ q < 0 := oF hc2
    refine g8 ?_
    refine gL (cvo rfl (fun w_ s_ => gG _ _ oM oM w_) (g6 ?_))
    refine aK (ι := Int × Int) ((q - 1) / (it0.ts.length : Int), (q - 1) % (it0.ts.length : Int)) ⟨by rw [if_neg hq0], by rw [if_neg hq0]⟩ kns (fun w s => s)
  rintro ⟨dq, tq⟩ ⟨hdq, htq⟩
  refine dS ?_
  have hn0 : (0 : Int) < (it0.ts.length : Int) := by omega
  have htb : 0 <= tq /\ tq < it0.ts.length := by rw [htq]; exact ⟨Int.emod_nonneg _ oM, Int.emod_lt_of_pos _ hn0⟩
  have hdb : -2000 <= dq /\ dq <= 2000 := by rw [hdq]; exact aGq (by split <;> omega) hn0
  have hpa := aGt r it0 q
  rw [<- hdq, <- htq, <- aI1 hspan] at hpa
  refine g14 ?_
  refine aY (ι := (Nat) × (List Int) × (Option Addr) × (Nat) × (Nat)) (fun | ⟨j, xs, p2, c2, m2⟩ => n - j) (fun | ⟨j, xs, p2, c2, m2⟩ => (j <= n) /\ (xs = yX r it0 a j) /\ (m2 = xs.length) /\ (m2 <= j)) (fun | ⟨j, xs, p2, c2, m2⟩ => [(0, pT it), (2, pT rb), (5, sL db n dc), (6, .bool fl), (10, .slice pp pm pc), (371, .slice q46 r.aPz.length e46), (372, iV (r.aPz.length)), (373, iV k), (12, iV q), (13, iV dq), (14, iV tq), (15, .slice p2 m2 c2), (400, sL db n dc), (401, iV n), (402, iV j)]) (fun _ => B) (fun _ => H) (fun | ⟨j, xs, p2, c2, m2⟩ => ((51, ⟨.slice p2 m2 c2, 3, 1, m2, (xs.map iV)⟩) :: ((44, ⟨.slice pp pm pc, 80, 2, pm, (bS ps)⟩) :: S))) ⟨0, [], none, 0, 0⟩ ⟨Nat.zero_le _, rfl, rfl, Nat.zero_le _⟩ kns (fun w s => by exact (s.aPm 51 3 1)) ?_
  rintro ⟨j, xs, p2, c2, m2⟩ ⟨hj, hxs, hm2, hmj⟩
  refine dS ?_
  refine g6 ?_
  refine aB rfl (fun hc1 => ?_) (fun hc2 => ?_)
  .have hjn : j < n := by have := oT hc1; omega
   obtain ⟨hd1, hd2⟩ := uA a n (fun j => !bad r it0 (a + j)) hjn
   refine g6 ?_
   refine rl (aC (e := 171) (n := 2) kR rfl rfl oM oM) (rl (fO 1 rfl hS1 rfl (by rw [<- hd1]; congr 1; omega) (by rw [<- hd2]; congr 1; omega) kR) (gL (alo 53 (cs := [iV 0, .bool false]) kR (hlim.b 53 dE) (fun b1_ hbb1_ => gL (sta 53 rfl rfl rfl rfl (g8 ?_))))))
   refine aB rfl (fun hb => ?_) (fun hb => ?_)
   .have hbad : bad r it0 (a + j) = false := by simpa using hb
    refine g4 ?_
    refine gL (dB 52 (e := 3) (sz := 1) (by_ := 8) (zs := [iV 0]) dE kR rfl dE dE rfl rfl rfl (fun bo => gL (cW 51 52 (e := 3) (sz := 1) (by_ := 8) (zs := [iV 0]) dE kR rfl dE rfl rfl rfl rfl ⟨rfl, rfl⟩ ⟨rfl, rfl⟩ (gZ (xs := [a + j])) sO sO (fun p3 c3 => g8 ?_))))
    refine aN ⟨j + 1, xs ++ [a + j], p3, c3, m2 + 1⟩ sO ⟨by omega, by rw [aKt hbad, hxs], by rw [hm2, List.length_append]; rfl, by omega⟩ kns (fun w s => by exact (by have s2 : Sees F w0 _ _ ((51, ⟨.slice p3 (m2 + 1) c3, 3, 1, (m2 + 1), xs.map iV ++ [iV (a + j)]⟩) :: _) _ := s; rw [aLk] at s2; exact (s2.low 52 (((hlim.mono dE).aPi dE).aPi dE) agx agx agx)))
   .have hbad : bad r it0 (a + j) = true := by simpa using hb
    refine g7 ?_
    refine aN ⟨j + 1, xs, p2, c2, m2⟩ sO ⟨by omega, by rw [aIg hbad, hxs], hm2, by omega⟩ kns (fun w s => by exact (s.low 52 (((hlim.mono dE).aPi dE).aPi dE) agx agx agx))
  .have hge : ¬ j < n := by have := oF hc2; omega
   obtain rfl : n = j := by omega
   rw [<- hxs] at hpa
   refine g9 ?_
   refine gL (cbx (fun y : Int × Value => .tuple #[iV y.1, y.2]) (fun y => nN xs dq = some y.1 /\ y.2 = .nilIface \/ nN xs dq = none /\ ∃ b, y.2 = .iface 154 (pT b)) rfl (fun w_ s_ => by rw [hm2] at s_ ⊢; exact aCf xs dq _ _ oM oM w_ (s_.ints 51 rfl)) (fun | (i, ev_), hy => g9 ?_))
   rcases hy with ⟨hsub, rfl⟩ | ⟨hsub, b_, rfl⟩
   .have hir := aI0 (r := r) (it0 := it0) (a := a) (n := n) (by rw [<- hxs]; exact aGz hsub)
    obtain ⟨t, htj⟩ : ∃ t, it0.ts[tq.toNat]? = some t := ⟨_, List.getElem?_eq_getElem oM⟩
    obtain ⟨ht1, ht2⟩ := mV htj
    have htr := hts t (List.mem_of_getElem? htj)
    obtain ⟨tb, rfl, htcap⟩ : ∃ b, tp = some ⟨b, 0, none⟩ /\ it0.ts.length <= tc := hthead oM
    have hgt : it0.ts.getD tq.toNat 0 = t := by rw [List.getD_eq_getElem?_getD, htj]; rfl
    rw [hsub, hgt] at hpa
    have hpa : oI r it0 q = some ((Cal.daysTo it0.ly + i) * 86400 + t) := hpa
    have hmo := Cal.month_bd (Cal.daysTo it0.ly + i)
    have hye := Cal.year_le (Cal.daysTo it0.ly + i) oM
    have hyd := iQ (x := (Cal.daysTo it0.ly + i) * 86400) oM
    rw [show (Cal.daysTo it0.ly + i) * 86400 / 86400 = (Cal.daysTo it0.ly + i) by omega] at hyd
    refine g2 ?_
    refine rl ((yT (v := .bool false) rfl rfl kW)) (l5 ?_)
    refine rl (aC (e := 80) (n := 2) kR rfl rfl oM oM) (rl (fO 2 rfl hS2 rfl (by rw [<- ht1]; congr 1; omega) (by rw [<- ht2]; congr 1; omega) kR) (gL (alo 50 (cs := [iV 0, iV 0]) kR (hlim.b 50 dE) (fun b2_ hbb2_ => gL (sta 50 rfl rfl rfl rfl (g8 ?_))))))
    refine rZ1 (aW 0 rfl hB h12 h13 kR dE) ?_
    refine gL (cvo (v := .agg #[iV ((Cal.daysTo it0.ly + i) * 86400), iV 0]) rfl (fun w_ s_ => (rT _ _ _ oM oM oM w_).mT (cRr (by rw [show Cal.daysTo it0.ly * 86400 + i * 86400 = (Cal.daysTo it0.ly + i) * 86400 by omega]))) (gL (cvo (v := .tuple #[iV (Cal.yearOf (Cal.daysTo it0.ly + i)), iV (Cal.monthOf (Cal.daysTo it0.ly + i)), iV (Cal.mdayOf (Cal.daysTo it0.ly + i))]) rfl (fun w_ s_ => (lC _ _ oM w_).mT (cRr (by rw [show (Cal.daysTo it0.ly + i) * 86400 / 86400 = (Cal.daysTo it0.ly + i) by omega]))) (g11 ?_))))
    refine rl (aW 50 rfl rfl rfl rfl kR dE) (gL (cvo (v := .tuple #[iV (t % 86400 / 3600), iV (t % 86400 / 60 % 60), iV (t % 86400 % 60)]) rfl (fun w_ s_ => (jF _ _ oM w_).mT (cRr rfl)) (g9 ?_)))
    refine cO (ι := (Nat)) (fun bt => True) (fun bt => [(0, pT it), (2, pT rb), (5, sL db n dc), (6, .bool fl), (10, .slice pp pm pc), (371, .slice q46 r.aPz.length e46), (372, iV (r.aPz.length)), (373, iV k), (27, pT bt)]) (fun bt => (49, bt) :: B) (fun bt => aL 49 0 [iV ((Cal.daysTo it0.ly + i) * 86400 + t), iV 0] ++ H) (fun bt => ((44, ⟨.slice pp pm pc, 80, 2, pm, (bS ps)⟩) :: S)) ?_ ?_
    .refine jY (fun i => i == 12) kR (gr 0 rfl (bC rfl) (gr 1 rfl (bC rfl) (gr 2 rfl (bC rfl) (gr 3 rfl (bC rfl) ?_))))
     refine gr 4 rfl (bC rfl) (gr 5 rfl (bC rfl) (gr 6 rfl (aW 50 rfl rfl rfl rfl kR dE) (gr 8 rfl (aW 50 rfl rfl rfl rfl kR dE) (l6 (i := 7) (j := 11) rfl rfl rfl rfl kR rfl rfl ?_ ?_))))
     .refine cvo rfl (fun w_ s_ => jK _ _ oM w_) (gk ?_)
      refine l6 (i := 9) (j := 11) rfl rfl rfl rfl kR rfl rfl ?_ ?_
      .refine cvo rfl (fun w_ s_ => dR _ _ w_) (gk ?_)
       refine l6 (i := 10) (j := 11) rfl rfl rfl rfl kR rfl rfl ?_ ?_
       .refine cvo (v := .agg #[iV (((Cal.daysTo it0.ly + i) * 86400 + t)), iV 0]) rfl (fun w_ s_ => (cV _ _ _ _ _ _ _ oM oM oM oM oM oM oM w_).mT (cRr (by rw [nE htr]))) (gk ?_)
        refine gn 11 rfl (alo 49 (cs := [iV 0, iV 0]) kR (hlim.b 49 dE) (fun b3_ hbb3_ => fS (fun _ w s => by exact s.aPn (hlim.b 49 dE) lhx ble) (gn 12 rfl (sta 49 rfl rfl rfl rfl (gk (fM kR ?_))))))
        refine aK (ι := Nat) b3_ trivial kns (fun w s => by exact s.low 50 (((Lim.aPk dE _ 0 ble ((hlim.mono dE).aPj dE))).aPi dE) agx agx agx)
       .refine alo 49 (cs := [iV 0, iV 0]) kR (hlim.b 49 dE) (fun b4_ hbb4_ => fS (fun _ w s => by exact s.aPn (hlim.b 49 dE) lhx ble) ?_)
        refine gn 10 rfl (cvo (v := .agg #[iV (((Cal.daysTo it0.ly + i) * 86400 + t)), iV 0]) rfl (fun w_ s_ => (cV _ _ _ _ _ _ _ oM oM oM oM oM oM oM w_).mT (cRr (by rw [nE htr]))) (fS (fun _ w s => by exact s.aPn (hlim.b 49 dE) lhx ble) (gn 12 rfl (sta 49 rfl rfl rfl rfl (gk (fM kR ?_))))))
        refine aK (ι := Nat) b4_ trivial kns (fun w s => by exact s.low 50 (((Lim.aPk dE _ 0 ble ((hlim.mono dE).aPj dE))).aPi dE) agx agx agx)
      .refine alo 49 (cs := [iV 0, iV 0]) kR (hlim.b 49 dE) (fun b5_ hbb5_ => fS (fun _ w s => by exact s.aPn (hlim.b 49 dE) lhx ble) ?_)
       refine gn 9 rfl (cvo rfl (fun w_ s_ => dR _ _ w_) (fS (fun _ w s => by exact s.aPn (hlim.b 49 dE) lhx ble) (gn 10 rfl (cvo (v := .agg #[iV (((Cal.daysTo it0.ly + i) * 86400 + t)), iV 0]) rfl (fun w_ s_ => (cV _ _ _ _ _ _ _ oM oM oM oM oM oM oM w_).mT (cRr (by rw [nE htr]))) (fS (fun _ w s => by exact s.aPn (hlim.b 49 dE) lhx ble) (gn 12 rfl (sta 49 rfl rfl rfl rfl (gk (fM kR ?_)))))))))
       refine aK (ι := Nat) b5_ trivial kns (fun w s => by exact s.low 50 (((Lim.aPk dE _ 0 ble ((hlim.mono dE).aPj dE))).aPi dE) agx agx agx)
     .refine alo 49 (cs := [iV 0, iV 0]) kR (hlim.b 49 dE) (fun b6_ hbb6_ => fS (fun _ w s => by exact s.aPn (hlim.b 49 dE) lhx ble) ?_)
      refine gn 7 rfl (cvo rfl (fun w_ s_ => jK _ _ oM w_) (fS (fun _ w s => by exact s.aPn (hlim.b 49 dE) lhx ble) (gn 9 rfl (cvo rfl (fun w_ s_ => dR _ _ w_) (fS (fun _ w s => by exact s.aPn (hlim.b 49 dE) lhx ble) (gn 10 rfl (cvo (v := .agg #[iV (((Cal.daysTo it0.ly + i) * 86400 + t)), iV 0]) rfl (fun w_ s_ => (cV _ _ _ _ _ _ _ oM oM oM oM oM oM oM w_).mT (cRr (by rw [nE htr]))) (fS (fun _ w s => by exact s.aPn (hlim.b 49 dE) lhx ble) (gn 12 rfl (sta 49 rfl rfl rfl rfl (gk (fM kR ?_))))))))))))
      refine aK (ι := Nat) b6_ trivial kns (fun w s => by exact s.low 50 (((Lim.aPk dE _ 0 ble ((hlim.mono dE).aPj dE))).aPi dE) agx agx agx)
    rintro bt -
    refine dS ?_
    refine g3 ?_
    refine rl (aW 49 rfl rfl rfl rfl kR dE) (gL (cvo (v := .bool (ps.any (· == ((Cal.daysTo it0.ly + i) * 86400 + t)))) rfl (fun w_ s_ => by rw [hm] at s_ ⊢; exact sU ps _ _ _ oM w_ (Sees.prs (k := 44) s_ rfl rfl)) (g3 ?_)))
    refine aB rfl (fun hb => ?_) (fun hb => ?_)
    .have hany : ps.any (· == ((Cal.daysTo it0.ly + i) * 86400 + t)) = false := by simpa using hb
     have hadd : jP ps (oI r it0 q) = ps ++ [((Cal.daysTo it0.ly + i) * 86400 + t)] := by rw [hpa]; unfold jP; simp only; rw [hany]; rfl
     refine g2 ?_
     refine rl (aW 49 rfl rfl rfl rfl kR dE) (gL (dB 46 (e := 80) (sz := 2) (by_ := 16) (zs := [iV 0, iV 0]) dE kR rfl dE dE rfl rfl rfl (fun bo => gL (cW 44 46 (e := 80) (sz := 2) (by_ := 16) (zs := [iV 0, iV 0]) dE kR rfl dE rfl rfl rfl rfl ⟨rfl, rfl⟩ ⟨rfl, rfl⟩ aA7 sO sO (fun p3 c3 => g8 ?_)))))
     refine aN ⟨k + 1, ps ++ [((Cal.daysTo it0.ly + i) * 86400 + t)], p3, c3, pm + 1⟩ sO ⟨by omega, by rw [hps1, hadd], by rw [hm, List.length_append]; rfl, by omega⟩ kns (fun w s => by exact (by have s2 : Sees F w0 _ _ ((44, ⟨.slice p3 (pm + 1) c3, 80, 2, (pm + 1), bS ps ++ [iV ((Cal.daysTo it0.ly + i) * 86400 + t), iV 0]⟩) :: _) _ := s; rw [fT] at s2; exact (s2.low 45 ((hlim.mono dE).aPi dE) agx agx agx)))
    .have hany : ps.any (· == ((Cal.daysTo it0.ly + i) * 86400 + t)) = true := by simpa using hb
     have hadd : jP ps (oI r it0 q) = ps := by rw [hpa]; unfold jP; simp only; rw [hany]; rfl
     refine g7 ?_
     refine aN ⟨k + 1, ps, pp, pc, pm⟩ sO ⟨by omega, by rw [hps1, hadd], hm, by omega⟩ kns (fun w s => by exact (s.low 45 ((hlim.mono dE).aPi dE) agx agx agx))
   .rw [hsub] at hpa
    have hpa : jP ps (oI r it0 q) = ps := by rw [hpa]; rfl
    refine g2 ?_
    refine sA ((yT (v := .bool true) rfl rfl kW)) ?_
    refine aN ⟨k + 1, ps, pp, pc, pm⟩ sO ⟨by omega, by rw [hps1, hpa], hm, by omega⟩ kns (fun w s => by exact (s.low 45 ((hlim.mono dE).aPi dE) agx agx agx))
 .have hge : ¬ k < r.aPz.length := by have := oF hc2; omega
  obtain rfl : k = r.aPz.length := by omega
  rw [List.take_length] at hps
  have hpl : ps = iB r it0 := hps
  subst hpl
  refine g8 ?_
  refine rl ((iR (r := .iface 141 (.slice pp pm pc)) rfl kW)) (gL (d8 (ι := Unit) (fun _ => .tuple #[]) (fun _ => True) (fun _ => B) (fun _ => H) (fun _ => ((44, ⟨.slice pp pm pc, 80, 2, pm, (bS (eM (iB r it0)))⟩) :: (44, ⟨.slice pp pm pc, 80, 2, pm, (bS (iB r it0))⟩) :: S)) dE kR rfl (fun w_ s_ => by rw [hm] at s_ ⊢; exact (o6 (t := 44) dE oM ((hlim.mono dE).aPi dE) rfl w_ s_).mono fun e_ w2_ h_ => ⟨(), trivial, h_.1, h_.2⟩) (fun _ _ => g10 ?_)))
  have hll : (eM (iB r it0)).length = pm := by unfold eM; rw [List.length_mergeSort, hm]
  refine aY (ι := (Nat) × (It) × (Int) × (Int) × (Nat) × (List Value) × (Option Addr) × (Nat) × (Value)) (fun | ⟨j, o1, tt1, cc1, m1, xs1, p1, c1, bk1⟩ => pm - j) (fun | ⟨j, o1, tt1, cc1, m1, xs1, p1, c1, bk1⟩ => (j <= pm) /\ (o1 = dD r it0 ((eM (iB r it0)).take j)) /\ (o1.fin = false) /\ (tt1 = o1.aP3) /\ (cc1 = o1.count) /\ (m1 = o1.rem.length) /\ (xs1 = bS o1.rem) /\ (0 <= cc1 /\ cc1 <= 9223372036854775807) /\ (0 <= tt1 /\ tt1 <= it0.aP3 + (j : Nat)) /\ (m1 <= j) /\ (m1 ≠ 0 -> bk1 = .slice p1 m1 c1)) (fun | ⟨j, o1, tt1, cc1, m1, xs1, p1, c1, bk1⟩ => [(0, pT it), (2, pT rb), (6, .bool fl), (470, .slice pp pm pc), (471, iV pm), (472, iV j)]) (fun _ => B) (fun | ⟨j, o1, tt1, cc1, m1, xs1, p1, c1, bk1⟩ => (ky 0 24, iV tt1) :: (ky 0 25, iV cc1) :: (ky 0 26, .slice p1 m1 c1) :: (ky 0 27, bk1) :: H) (fun | ⟨j, o1, tt1, cc1, m1, xs1, p1, c1, bk1⟩ => (0, ⟨.slice p1 m1 c1, 80, 2, m1, xs1⟩) :: ((44, ⟨.slice pp pm pc, 80, 2, pm, (bS (eM (iB r it0)))⟩) :: S)) ⟨0, it0, it0.aP3, it0.count, 0, [], p0, c0, bk0⟩ ⟨Nat.zero_le _, rfl, hfin, rfl, rfl, by rw [hrem]; rfl, by rw [hrem]; rfl, hcnt, ⟨htot.1, by omega⟩, Nat.zero_le _, fun h => absurd rfl h⟩ kns (fun w s => by exact (s.row_last.to (fun _ _ h => h) (fun k o v ho h => (by rcases bD h with ⟨e, rfl⟩ | ⟨_, h⟩; { rw [e]; exact ⟨h24, by obtain ⟨rfl, rfl⟩ := iA ho dE e; rw [hB]; rfl⟩ }; rcases bD h with ⟨e, rfl⟩ | ⟨_, h⟩; { rw [e]; exact ⟨h25, by obtain ⟨rfl, rfl⟩ := iA ho dE e; rw [hB]; rfl⟩ }; rcases bD h with ⟨e, rfl⟩ | ⟨_, h⟩; { rw [e]; exact ⟨h26, by obtain ⟨rfl, rfl⟩ := iA ho dE e; rw [hB]; rfl⟩ }; rcases bD h with ⟨e, rfl⟩ | ⟨_, h⟩; { rw [e]; exact ⟨h27, by obtain ⟨rfl, rfl⟩ := iA ho dE e; rw [hB]; rfl⟩ }; exact ⟨h, by obtain ⟨b, e, _⟩ := s.cells k o v ho h; rw [e]; rfl⟩)) (fun j q h => (by rcases bD h with ⟨rfl, rfl⟩ | ⟨_, h⟩; exact hS0; exact h)))) ?_
  rintro ⟨j, o1, tt1, cc1, m1, xs1, p1, c1, bk1⟩ ⟨hj, ho1, hf1, ht1_, hc1_, hm1, hx1, hcc1, htb1, hmb1, hbk1⟩
  refine dS ?_
  refine g6 ?_
  refine aB rfl (fun hc1 => ?_) (fun hc2 => ?_)
  .have hjt : j < pm := by have := oT hc1; omega
   obtain ⟨t, htj⟩ : ∃ t, (eM (iB r it0))[j]? = some t := ⟨_, List.getElem?_eq_getElem oM⟩
   obtain ⟨ht1, ht2⟩ := mV htj
   refine cQ (fun w s => s.head 44 rfl oM) fun hh => ?_
   obtain ⟨tb, rfl, htcap⟩ := hh
   have hts1 := pD (r := r) (o := it0) htj
   rw [<- ho1] at hts1
   refine g6 ?_
   refine rl (aC (e := 80) (n := 2) kR rfl rfl oM oM) (rl (fO 44 rfl rfl rfl (by rw [<- ht1]; congr 1; omega) (by rw [<- ht2]; congr 1; omega) kR) (gL (alo 47 (cs := [iV 0, iV 0]) kR (hlim.b 47 dE) (fun b7_ hbb7_ => gL (sta 47 rfl rfl rfl rfl (g7 ?_))))))
   refine rq (aW 1 rfl hR r44 r45 kR dE) (cJ dE kR rfl (fun w_ s_ => l8 _ _ w_) ?_)
   refine rq ((gX rfl).to (v' := .bool true) (cB (by rw [decide_eq_false hu]; rfl))) (g2 ?_)
   refine rq (aW 47 rfl rfl rfl rfl kR dE) (g7 ?_)
   refine rq (aW 1 rfl hR r44 r45 kR dE) (g1 ?_)
   refine cJ (v := .bool (decide (r.u0 < t))) dE kR rfl (fun w_ s_ => (vI _ _ _ _ w_).mT (cRr (cB (decide_eq_decide.2 oM)))) ?_
   refine g3 ?_
   refine aB rfl (fun hc1 => ?_) (fun hc2 => ?_)
   .have hun : r.u0 < t := oT hc1
    have hem : gV r o1 t = { o1 with fin := true } := mO hf1 hun
    refine g9 ?_
    refine gL (sto 1 rfl rfl hR r59 (g7 ?_))
    refine gL (sto 0 rfl rfl hB h28 (g7 ?_))
    have hfin2 : ({ o1 with fin := true } : It).fin = true := rfl
    have hall : ({ o1 with fin := true } : It) = dD r it0 (eM (iB r it0)) := by
     have e1 : dD r it0 (eM (iB r it0)) = _ := kF (j := j + 1) ((congrArg It.fin (hts1.trans hem)).trans hfin2)
     rw [hts1, hem] at e1
     exact e1.symm
    refine gK (fun a q => q.nil) (fun w s => ?_) (hr { o1 with fin := true } p1 c1 bk1 (iV tt1) hall hfin2 (fun h => by rw [<- hm1]; exact hbk1 (fun e => h (List.eq_nil_of_length_eq_zero sO))))
    subst ht1_ hc1_ hm1 hx1
    exact s.low 40 (((((((hlim.aPh dE dE).aPh dE dE).aPh dE dE).aPh dE dE).aPh dE dE).aPh dE dE).aPi dE) agx agx agx
   .have hun : ¬ r.u0 < t := oF hc2
    refine g2 ?_
    refine rq (aW 47 rfl rfl rfl rfl kR dE) (g3 ?_)
    refine rq (aW 1 rfl hR r39 r40 kR dE) (cJ (v := .bool (decide (t < r.d0))) dE kR rfl (fun w_ s_ => (mF _ _ _ _ w_).mT (cRr (cB (decide_eq_decide.2 oM)))) ?_)
    refine g3 ?_
    refine aB rfl (fun hc1 => ?_) (fun hc2 => ?_)
    .have hst : ¬ t < r.d0 := by simpa using hc1
     refine g9 ?_
     refine gL (sto 0 rfl rfl hB rfl (g3 ?_))
     refine dH 4 kR kR (g3 ?_)
     refine rt (aW 47 rfl rfl rfl rfl kR dE) (g1 ?_)
     refine gL (d8 (ι := Option Addr × Nat) (fun _ => .tuple #[]) (fun _ => True) (fun _ => _) (fun x => (ky 0 27, .slice x.1 (m1 + 1) x.2) :: (ky 0 26, .slice x.1 (m1 + 1) x.2) :: _) (fun x => (0, ⟨.slice x.1 (m1 + 1) x.2, 80, 2, m1 + 1, xs1 ++ [iV t, iV 0]⟩) :: _) dE kR rfl (fun w_ s_ => (s8 (((Lim.seqH dE _ 0 ble (Lim.aPk dE _ 0 ble ((((((hlim.mono dE).aPj dE).aPh dE dE).aPh dE dE).aPh dE dE).aPh dE dE))).aPi dE |>.aPi dE).aPh dE dE) (by exact hB) (q := ⟨.slice p1 m1 c1, 80, 2, m1, xs1⟩) rfl rfl rfl ⟨rfl, rfl⟩ sO w_ s_).mono fun e w' ⟨p', c', he, hs⟩ => ⟨(p', c'), trivial, he, hs⟩) (fun | (p2, c2), _ => g11 ?_))
     refine aB rfl (fun hc1 => ?_) (fun hc2 => ?_)
     .have hcz : cc1 ≠ 0 := bne_iff_ne.1 hc1
      have hem : gV r o1 t = { o1 with aP3 := o1.aP3 + 1, rem := o1.rem ++ [t], count := o1.count - 1, fin := o1.count - 1 == 0 } := mS hf1 hun hst oM
      refine g9 ?_
      refine gL (sto 0 rfl rfl hB rfl (g11 ?_))
      refine aB rfl (fun hc1 => ?_) (fun hc2 => ?_)
      .have hz : cc1 - 1 = 0 := beq_iff_eq.1 hc1
       refine g9 ?_
       refine gL (sto 1 rfl rfl hR r59 (g7 ?_))
       refine gL (sto 0 rfl rfl hB h28 (g7 ?_))
       have hfin2 : ({ o1 with aP3 := o1.aP3 + 1, rem := o1.rem ++ [t], count := o1.count - 1, fin := o1.count - 1 == 0 } : It).fin = true := (beq_iff_eq.2 oM)
       have hall : ({ o1 with aP3 := o1.aP3 + 1, rem := o1.rem ++ [t], count := o1.count - 1, fin := o1.count - 1 == 0 } : It) = dD r it0 (eM (iB r it0)) := by
        have e1 : dD r it0 (eM (iB r it0)) = _ := kF (j := j + 1) ((congrArg It.fin (hts1.trans hem)).trans hfin2)
        rw [hts1, hem] at e1
        exact e1.symm
       refine gK (fun a q => q.nil) (fun w s => ?_) (hr { o1 with aP3 := o1.aP3 + 1, rem := o1.rem ++ [t], count := o1.count - 1, fin := o1.count - 1 == 0 } p2 c2 (.slice p2 (m1 + 1) c2) (iV (tt1 + 1)) hall hfin2 (fun _ => by simp only [List.length_append, List.length_singleton]; rw [hm1]))
       subst ht1_ hc1_ hm1 hx1
       rw [fT] at s
       simp only [List.length_append, List.length_singleton]
       exact s.low 40 (((((((hlim.aPh dE dE).aPh dE dE).aPh dE dE).aPh dE dE).aPh dE dE).aPh dE dE).aPi dE) agx agx agx
      .have hz : cc1 - 1 ≠ 0 := beq_eq_false_iff_ne.1 hc2
       refine g7 ?_
       refine aN ⟨j + 1, { o1 with aP3 := o1.aP3 + 1, rem := o1.rem ++ [t], count := o1.count - 1, fin := o1.count - 1 == 0 }, tt1 + 1, cc1 - 1, m1 + 1, xs1 ++ [iV t, iV 0], p2, c2, .slice p2 (m1 + 1) c2⟩ sO ⟨by omega, by rw [hts1, hem], by simp only [beq_eq_false_iff_ne]; omega, by rw [ht1_], by rw [hc1_], by simp [hm1], by rw [hx1]; exact fT _ _, by omega, by omega, by omega, fun _ => rfl⟩ kns (fun w s => by exact (s.low 45 (((((((hlim.mono dE).aPh dE dE).aPh dE dE).aPh dE dE).aPh dE dE).aPi dE).aPi dE) agx agx agx))
     .have hcz : cc1 = 0 := bne_eq_false_iff_eq.1 hc2
      have hem : gV r o1 t = { o1 with aP3 := o1.aP3 + 1, rem := o1.rem ++ [t] } := oB hf1 hun hst oM
      refine g7 ?_
      refine aN ⟨j + 1, { o1 with aP3 := o1.aP3 + 1, rem := o1.rem ++ [t] }, tt1 + 1, cc1, m1 + 1, xs1 ++ [iV t, iV 0], p2, c2, .slice p2 (m1 + 1) c2⟩ sO ⟨by omega, by rw [hts1, hem], hf1, by rw [ht1_], hc1_, by simp [hm1], by rw [hx1]; exact fT _ _, hcc1, by omega, by omega, fun _ => rfl⟩ kns (fun w s => by exact (s.low 45 (((((((hlim.mono dE).aPh dE dE).aPh dE dE).aPh dE dE).aPh dE dE).aPi dE).aPi dE) agx agx agx))
    .have hst : t < r.d0 := by simpa using hc2
     have hem : gV r o1 t = o1 := o4 hf1 hun hst
     refine g7 ?_
     refine aN ⟨j + 1, o1, tt1, cc1, m1, xs1, p1, c1, bk1⟩ sO ⟨by omega, by rw [hts1, hem], hf1, ht1_, hc1_, hm1, hx1, hcc1, ⟨htb1.1, by omega⟩, by omega, hbk1⟩ kns (fun w s => by exact (s.low 45 (((((((hlim.mono dE).aPh dE dE).aPh dE dE).aPh dE dE).aPh dE dE).aPi dE).aPi dE) agx agx agx))
  .have hge : ¬ j < pm := by have := oF hc2; omega
   obtain rfl : j = pm := by omega
   rw [<- hll, List.take_length] at ho1
   refine g4 ?_
   refine gK kns (fun w s => ?_) (hn o1 p1 c1 bk1 ho1 hf1 (fun h => by rw [<- hm1]; exact hbk1 (fun e => h (List.eq_nil_of_length_eq_zero oM))))
   subst ht1_ hc1_ hm1 hx1
   exact s.low 40 (((((hlim.aPh dE dE).aPh dE dE).aPh dE dE).aPh dE dE).aPi dE) agx agx agx
theorem aHc {S0 : LS} {H0 : LV} {r : Ru} {l : Ra} {it rb : Nat} {s : It} {a : Ad} (st : St F w0 S0 H0 it rb r l s a B H S) (hr : RuOk r) (hk : ItOk r s) : ∀ w, Sees F w0 B H S w -> Calls Tryz.prog 124 #[.pointer (some ⟨it, 7, none⟩), iV r.aP2, iV s.y, iV s.mo, iV s.d] w fun e w' => e = .returned (.tuple #[iV (aX r s).1, iV (aX r s).2]) /\ Sees F w0 B H S w' := by
 have hf := hr.aP2
 unfold aX
 by_cases h0 : r.aP2 = 0
 .rw [if_pos h0, h0]; exact aC9 st.hB st.h10
 .rw [if_neg h0]
  by_cases h1 : r.aP2 = 1
  .rw [if_pos h1, h1]
   have hm := hk.mo
   exact aAu st.hB st.h16 st.hS7 hk.mo (by rw [List.getElem?_map, aJf oM]; rfl) (by rw [List.getElem?_map, aJf oM]; rfl)
  .rw [if_neg h1]
   have hy := hk.y
   have hd := hk.d
   have hyd := qS hk.mo ⟨hk.d.1, hk.day oM⟩
   have hno := aHd (y := s.y) (m := s.mo) (d := s.d) oM hk.mo oM
   by_cases h2 : r.aP2 = 2
   .simp only [if_pos h2]
    rw [h2]
    exact aDi st.hB oM hk.mo oM hno st.hR st.h7 st.r42 hr.aPq (yw := ywd s.ly) (by unfold ywd; omega) st.h19 st.hS6 rfl
   .simp only [if_neg h2]
    exact aEl st.hB oM hk.mo oM hno oM
theorem aDb {Q : Exit -> Act -> World -> Prop} (hblind : Blind Q) {S0 : LS} {H0 : LV} {r : Ru} {l : Ra} {it rb : Nat} {s : It} {a : Ad} (st : St F w0 S0 H0 it rb r l s a B H S) (hr : RuOk r) (hk : ItOk r s) (hrem : s.rem = []) (hfin : s.fin = false) (hsl : r.aPz.length <= 1000) (hsb : ∀ q ∈ r.aPz, -1000 <= q /\ q <= 1000)
  (hn : ∀ o a' H' S', o = out r s -> o.fin = false -> Same s o -> St F w0 S0 H0 it rb r l o a' B H' S' -> GC Tryz.prog (Go.Fr.part [1, 1, 0, 0, 1, 0, 1, 1, 1, 1, 1, 1] (Go.Fr.bodyOf Tryz.f112)) Q 1418 [(0, pT it), (2, pT rb), (6, .bool (cS r s))] F w0 B H' S')
  (hq : ∀ o a' H' S', o = out r s -> o.fin = true -> Same s o -> St F w0 S0 H0 it rb r l o a' B H' S' -> GE Q .ret 1418 [] F w0 B H' S') : GC Tryz.prog (Go.Fr.part [1, 1, 0, 0, 1, 0] (Go.Fr.bodyOf Tryz.f112)) Q 1418 [(0, pT it), (2, pT rb)] F w0 B H S := by
 obtain ⟨hs1, hs2, hs3, hs4, hs5, hs6⟩ := aGb hr hk
 obtain ⟨ht1, ht2, ht3⟩ := aK4 hr hk
 have hlp := Cal.lp_01 s.ly
 have hny := hU s.ly
 have hy := hk.y
 have hly := hk.ly
 obtain ⟨e1_, e2_, e3_, e4_⟩ := st.hq0 hrem
 have hst26 := st.h26
 have hstS0 := st.hS0
 rw [hrem, e1_, e2_] at hst26
 rw [e3_, e4_] at hstS0
 refine g1 ?_
 refine aF5 (fun i => false) kR (gr 0 rfl (bC rfl) (gr 1 rfl (bW rfl) (gr 2 rfl (rfa 7) (gr 3 rfl (bC rfl) ?_))))
 refine gr 4 rfl (bW rfl) (gr 5 rfl (rfa 38) (gr 6 rfl (rld 1 rfl st.hR st.r38) (gr 7 rfl (bC rfl) (gr 8 rfl (bW rfl) ?_))))
 refine gr 9 rfl (rfa 0) (gr 10 rfl (rld 0 rfl st.hB st.h0) (gr 11 rfl (bC rfl) (gr 12 rfl (bW rfl) (gr 13 rfl (rfa 1) ?_))))
 refine gr 14 rfl (rld 0 rfl st.hB st.h1) (gr 15 rfl (bC rfl) (gr 16 rfl (bW rfl) (gr 17 rfl (rfa 2) (gr 18 rfl (rld 0 rfl st.hB st.h2) ?_))))
 refine gn 19 rfl (oQ (v := .tuple #[iV (aX r s).1, iV (aX r s).2]) dE kR rfl (aHc st hr hk) (gk (gn 20 rfl (gI dE (bC rfl) (gk (gr 21 rfl (r9 rfl rfl) (gr 22 rfl (r9 rfl rfl) (gn 23 rfl (gI dE (rB rfl) (gk ?_))))))))))
 refine gn 24 rfl (gI dE (rB rfl) (gk (fM kR ?_)))
 refine g6 ?_
 refine gL (aBg 1 (fun p c => (ky 0 29, .slice p ((aX r s).2 - (aX r s).1).toNat c)) (fun p c => ⟨.slice p ((aX r s).2 - (aX r s).1).toNat c, 171, 2, ((aX r s).2 - (aX r s).1).toNat, iT (aX r s).1 ((aX r s).2 - (aX r s).1).toNat⟩) dE kR rfl (aGr (st.lim.mono dE) st.hB st.hS1 st.h29 oM oM) (fun dp dc => kK (fun w s => s.head 1 rfl oM) fun hcap => ?_))
 obtain ⟨db, rfl, hdc⟩ := hcap
 refine g20 ?_
 refine g4 ?_
 refine dO (L' := [(0, pT it), (2, pT rb), (5, sL db ((aX r s).2 - (aX r s).1).toNat dc), (6, .bool false), (98, sL db ((aX r s).2 - (aX r s).1).toNat dc), (99, iV (((aX r s).2 - (aX r s).1).toNat : Nat)), (100, iV 0)]) kns (fun w s => s) ?_
 refine aC8 (r := r) (it0 := s) (B := B) (H := ((ky 0 29, sL db ((aX r s).2 - (aX r s).1).toNat dc) :: H)) (S := ((1, ⟨sL db ((aX r s).2 - (aX r s).1).toNat dc, 171, 2, ((aX r s).2 - (aX r s).1).toNat, iT (aX r s).1 ((aX r s).2 - (aX r s).1).toNat⟩) :: S)) (n := ((aX r s).2 - (aX r s).1).toNat) (db := db) (dc := dc) (a := (aX r s).1) (hB := st.hB) (hR := st.hR) (r47 := st.r47) (hl47 := st.hl47) (hI47 := (st.hI47.to aG)) (r48 := st.r48) (hl48 := st.hl48) (hI48 := (st.hI48.to aG)) (r49 := st.r49) (hl49 := st.hl49) (hI49 := (st.hI49.to aG)) (r50 := st.r50) (hl50 := st.hl50) (hI50 := (st.hI50.to aG)) (r52 := st.r52) (hl52 := st.hl52) (hI52 := (st.hI52.to aG)) (r51 := st.r51) (r57 := st.r57) (h20 := st.h20) (hp20 := st.hp20) (hS8 := st.hS8) (h21 := st.h21) (hp21 := st.hp21) (hS9 := st.hS9) (h22 := st.h22) (hp22 := st.hp22) (hS10 := st.hS10) (h10 := st.h10) (h11 := st.h11) (h15 := st.h15) (h17 := st.h17) (h18 := st.h18) (h19 := st.h19) (hS3 := st.hS3) (hS4 := st.hS4) (hS5 := st.hS5) (hS6 := st.hS6) (hlim := ((st.lim.mono dE).aPh dE dE).aPi dE) (hS1 := rfl) (ha := hs1) (han := by omega) (hwn := fun h => by have := ht1 h; omega) (hnw := fun h => by have := ht2 h; omega) (hea := fun h => by have := ht3 h; omega) ?_
 refine g9 ?_
 by_cases hsp : r.aPz.length ≠ 0
 .refine rl ((cF rfl rfl).to (v' := .bool true) (cB (iW oM))) (g12 ?_)
  by_cases htp : s.ts.length ≠ 0
  .have hout : out r s = dD r s (eM (iB r s)) := by unfold out; rw [if_pos ⟨hsp, htp⟩]
   refine rl ((cF rfl rfl).to (v' := .bool true) (cB (iW oM))) (g3 ?_)
   refine bK rfl rfl ?_
   refine dO (L' := [(0, pT it), (2, pT rb), (5, sL db ((aX r s).2 - (aX r s).1).toNat dc), (6, .bool (cS r s))]) kns (fun w s => s) ?_
   refine aKc (B := B) (H := ((ky 0 29, sL db ((aX r s).2 - (aX r s).1).toNat dc) :: H)) (S := ((1, ⟨sL db ((aX r s).2 - (aX r s).1).toNat dc, 171, 2, ((aX r s).2 - (aX r s).1).toNat, dM (aX r s).1 ((aX r s).2 - (aX r s).1).toNat (fun j => !bad r s ((aX r s).1 + j))⟩) :: ((1, ⟨sL db ((aX r s).2 - (aX r s).1).toNat dc, 171, 2, ((aX r s).2 - (aX r s).1).toNat, iT (aX r s).1 ((aX r s).2 - (aX r s).1).toNat⟩) :: S))) (db := db) (dc := dc) (hblind := (by repeat (first | exact hblind | apply Blind.then | apply Blind.inBlock))) (r := r) (it0 := s) (a := (aX r s).1) (n := ((aX r s).2 - (aX r s).1).toNat) (hlim := ((((st.lim).aPh dE dE).aPi dE).aPi dE)) (hB := st.hB) (hR := st.hR) (hS1 := rfl) (ha := hs1) (han := by omega) (hly := by omega) (h12 := st.h12) (h13 := st.h13) (h23 := st.h23) (hS2 := st.hS2) (hts := hk.ts) (hspan := by rw [Int.toNat_of_nonneg oM]; exact Prod.ext rfl sO) (htn := ⟨by omega, hk.tsn⟩) (r46 := st.r46) (hI46 := st.hI46.to aG) (hsl := hsl) (hsb := hsb) (r39 := st.r39) (r40 := st.r40) (r44 := st.r44) (r45 := st.r45) (hu := hr.until0) (hu1 := hr.until1) (r59 := st.r59) (h28 := st.h28) (h24 := st.h24) (h25 := st.h25) (h26 := hst26) (h27 := st.h27) (hS0 := hstS0) (hrem := hrem) (hfin := hfin) (htot := by have := hk.aP3; rw [hrem] at this; simp at this; omega) (hcnt := hk.count) (hn := fun o p c bk ho hof hbk => ?_) (hr := fun o p c bk ln ho hof hbk => ?_)
   .have hsame := mU r (eM (iB r s)) s
    rw [<- ho] at hsame
    refine g1 ?_
    obtain ⟨y_, mo_, d_, h_, mi_, s_, wd_, ly_, lm_, wno_, nwm_, eas_, ts_, tt_, cc_, rem_, fin_⟩ := o
    obtain ⟨q1, q2, q3, q4, q5, q6, q7, q8, q9, q10, q11, q12, q13⟩ := hsame
    simp only at q1 q2 q3 q4 q5 q6 q7 q8 q9 q10 q11 q12 q13 hof
    subst q1 q2 q3 q4 q5 q6 q7 q8 q9 q10 q11 q12 q13 hof
    refine dO (L' := [(0, pT it), (2, pT rb), (6, .bool (cS r s))]) kns (fun w s => s) ?_
    refine hn _ ({ a with rp := p, rc := c, rs := p, rk := c, rn := rem_.length, rj := 0, rall := rem_, bk := bk, dp := some ⟨db, 0, none⟩, dc := dc, dn := ((aX r s).2 - (aX r s).1).toNat, dxs := dM (aX r s).1 ((aX r s).2 - (aX r s).1).toNat (fun j => !bad r s ((aX r s).1 + j)) } : Ad) _ _ (ho.trans hout.symm) rfl ⟨rfl, rfl, rfl, rfl, rfl, rfl, rfl, rfl, rfl, rfl, rfl, rfl, rfl⟩ ?_
    exact (sT st (lim := fun _ => (((((((st.lim.aPh dE dE).aPi dE).aPi dE).aPh dE dE).aPh dE dE).aPh dE dE).aPh dE dE).aPi dE) (h28 := fun _ => (by rw [<- hfin]; exact st.h28)) (hq0 := fun _ => (fun h => ⟨rfl, rfl, by rw [show rem_ = [] from h]; rfl, h⟩)) (hq1 := fun _ => (fun h => ⟨fun g e => e, rfl, rfl, List.length_pos_iff.2 h, rfl, hbk h⟩)))
   .have hsame := mU r (eM (iB r s)) s
    rw [<- ho] at hsame
    obtain ⟨y_, mo_, d_, h_, mi_, s_, wd_, ly_, lm_, wno_, nwm_, eas_, ts_, tt_, cc_, rem_, fin_⟩ := o
    obtain ⟨q1, q2, q3, q4, q5, q6, q7, q8, q9, q10, q11, q12, q13⟩ := hsame
    simp only at q1 q2 q3 q4 q5 q6 q7 q8 q9 q10 q11 q12 q13 hof
    subst q1 q2 q3 q4 q5 q6 q7 q8 q9 q10 q11 q12 q13 hof
    refine g1 ?_
    refine hq _ ({ a with rp := p, rc := c, rs := p, rk := c, rn := rem_.length, rj := 0, rall := rem_, bk := bk, dp := some ⟨db, 0, none⟩, dc := dc, dn := ((aX r s).2 - (aX r s).1).toNat, dxs := dM (aX r s).1 ((aX r s).2 - (aX r s).1).toNat (fun j => !bad r s ((aX r s).1 + j)) , ln := ln } : Ad) _ _ (ho.trans hout.symm) rfl ⟨rfl, rfl, rfl, rfl, rfl, rfl, rfl, rfl, rfl, rfl, rfl, rfl, rfl⟩ ?_
    exact (sT st (lim := fun _ => (((((((((st.lim.aPh dE dE).aPi dE).aPi dE).aPh dE dE).aPh dE dE).aPh dE dE).aPh dE dE).aPi dE).aPh dE dE).aPh dE dE) (hq0 := fun _ => (fun h => ⟨rfl, rfl, by rw [show rem_ = [] from h]; rfl, h⟩)) (hq1 := fun _ => (fun h => ⟨fun g e => e, rfl, rfl, List.length_pos_iff.2 h, rfl, hbk h⟩)))
  .have hout : out r s = jO r s (aX r s).1 ((aX r s).2 - (aX r s).1).toNat := by rw [qX r s (.inr oM)]; rfl
   refine sA ((cF rfl rfl).to (v' := .bool false) (cB (jA oM))) ?_
   refine dO (L' := [(0, pT it), (2, pT rb), (6, .bool (cS r s)), (547, sL db ((aX r s).2 - (aX r s).1).toNat dc), (548, iV (((aX r s).2 - (aX r s).1).toNat : Nat)), (549, iV 0)]) kns (fun w s => s) ?_
   refine aCc (B := B) (H := ((ky 0 29, sL db ((aX r s).2 - (aX r s).1).toNat dc) :: H)) (S := ((1, ⟨sL db ((aX r s).2 - (aX r s).1).toNat dc, 171, 2, ((aX r s).2 - (aX r s).1).toNat, dM (aX r s).1 ((aX r s).2 - (aX r s).1).toNat (fun j => !bad r s ((aX r s).1 + j))⟩) :: ((1, ⟨sL db ((aX r s).2 - (aX r s).1).toNat dc, 171, 2, ((aX r s).2 - (aX r s).1).toNat, iT (aX r s).1 ((aX r s).2 - (aX r s).1).toNat⟩) :: S))) (db := db) (dc := dc) (hblind := (by repeat (first | exact hblind | apply Blind.then | apply Blind.inBlock))) (r := r) (it0 := s) (a := (aX r s).1) (n := ((aX r s).2 - (aX r s).1).toNat) (hlim := ((((st.lim).aPh dE dE).aPi dE).aPi dE)) (hB := st.hB) (hR := st.hR) (hS1 := rfl) (ha := hs1) (han := by omega) (hly := by omega) (h12 := st.h12) (h13 := st.h13) (h23 := st.h23) (hS2 := st.hS2) (hts := hk.ts) (hbig := by have := hk.tsn; have h2 := Nat.mul_le_mul_left ((aX r s).2 - (aX r s).1).toNat this; omega) (r39 := st.r39) (r40 := st.r40) (r44 := st.r44) (r45 := st.r45) (hu := hr.until0) (hu1 := hr.until1) (r59 := st.r59) (h28 := st.h28) (h24 := st.h24) (h25 := st.h25) (h26 := hst26) (h27 := st.h27) (hS0 := hstS0) (hrem := hrem) (hfin := hfin) (htot := by have := hk.aP3; rw [hrem] at this; simp at this; omega) (hcnt := hk.count) (hn := fun o p c bk ho hof hbk => ?_) (hr := fun o p c bk ln ho hof hbk => ?_)
   .have hsame := jB r s (aX r s).1 ((aX r s).2 - (aX r s).1).toNat
    rw [<- ho] at hsame
    refine g1 ?_
    obtain ⟨y_, mo_, d_, h_, mi_, s_, wd_, ly_, lm_, wno_, nwm_, eas_, ts_, tt_, cc_, rem_, fin_⟩ := o
    obtain ⟨q1, q2, q3, q4, q5, q6, q7, q8, q9, q10, q11, q12, q13⟩ := hsame
    simp only at q1 q2 q3 q4 q5 q6 q7 q8 q9 q10 q11 q12 q13 hof
    subst q1 q2 q3 q4 q5 q6 q7 q8 q9 q10 q11 q12 q13 hof
    refine dO (L' := [(0, pT it), (2, pT rb), (6, .bool (cS r s))]) kns (fun w s => s) ?_
    refine hn _ ({ a with rp := p, rc := c, rs := p, rk := c, rn := rem_.length, rj := 0, rall := rem_, bk := bk, dp := some ⟨db, 0, none⟩, dc := dc, dn := ((aX r s).2 - (aX r s).1).toNat, dxs := dM (aX r s).1 ((aX r s).2 - (aX r s).1).toNat (fun j => !bad r s ((aX r s).1 + j)) } : Ad) _ _ (ho.trans hout.symm) rfl ⟨rfl, rfl, rfl, rfl, rfl, rfl, rfl, rfl, rfl, rfl, rfl, rfl, rfl⟩ ?_
    exact (sT st (lim := fun _ => (((((((st.lim.aPh dE dE).aPi dE).aPi dE).aPh dE dE).aPh dE dE).aPh dE dE).aPh dE dE).aPi dE) (h28 := fun _ => (by rw [<- hfin]; exact st.h28)) (hq0 := fun _ => (fun h => ⟨rfl, rfl, by rw [show rem_ = [] from h]; rfl, h⟩)) (hq1 := fun _ => (fun h => ⟨fun g e => e, rfl, rfl, List.length_pos_iff.2 h, rfl, hbk h⟩)))
   .have hsame := jB r s (aX r s).1 ((aX r s).2 - (aX r s).1).toNat
    rw [<- ho] at hsame
    obtain ⟨y_, mo_, d_, h_, mi_, s_, wd_, ly_, lm_, wno_, nwm_, eas_, ts_, tt_, cc_, rem_, fin_⟩ := o
    obtain ⟨q1, q2, q3, q4, q5, q6, q7, q8, q9, q10, q11, q12, q13⟩ := hsame
    simp only at q1 q2 q3 q4 q5 q6 q7 q8 q9 q10 q11 q12 q13 hof
    subst q1 q2 q3 q4 q5 q6 q7 q8 q9 q10 q11 q12 q13 hof
    refine g1 ?_
    refine hq _ ({ a with rp := p, rc := c, rs := p, rk := c, rn := rem_.length, rj := 0, rall := rem_, bk := bk, dp := some ⟨db, 0, none⟩, dc := dc, dn := ((aX r s).2 - (aX r s).1).toNat, dxs := dM (aX r s).1 ((aX r s).2 - (aX r s).1).toNat (fun j => !bad r s ((aX r s).1 + j)) , ln := ln } : Ad) _ _ (ho.trans hout.symm) rfl ⟨rfl, rfl, rfl, rfl, rfl, rfl, rfl, rfl, rfl, rfl, rfl, rfl, rfl⟩ ?_
    exact (sT st (lim := fun _ => (((((((((st.lim.aPh dE dE).aPi dE).aPi dE).aPh dE dE).aPh dE dE).aPh dE dE).aPh dE dE).aPi dE).aPh dE dE).aPh dE dE) (hq0 := fun _ => (fun h => ⟨rfl, rfl, by rw [show rem_ = [] from h]; rfl, h⟩)) (hq1 := fun _ => (fun h => ⟨fun g e => e, rfl, rfl, List.length_pos_iff.2 h, rfl, hbk h⟩)))
 .have hout : out r s = jO r s (aX r s).1 ((aX r s).2 - (aX r s).1).toNat := by rw [qX r s (.inl oM)]; rfl
  refine rl ((cF rfl rfl).to (v' := .bool false) (cB (jA oM))) (g10 ?_)
  refine aU rfl rfl ?_
  refine g7 ?_
  refine dO (L' := [(0, pT it), (2, pT rb), (6, .bool (cS r s)), (547, sL db ((aX r s).2 - (aX r s).1).toNat dc), (548, iV (((aX r s).2 - (aX r s).1).toNat : Nat)), (549, iV 0)]) kns (fun w s => s) ?_
  refine aCc (B := B) (H := ((ky 0 29, sL db ((aX r s).2 - (aX r s).1).toNat dc) :: H)) (S := ((1, ⟨sL db ((aX r s).2 - (aX r s).1).toNat dc, 171, 2, ((aX r s).2 - (aX r s).1).toNat, dM (aX r s).1 ((aX r s).2 - (aX r s).1).toNat (fun j => !bad r s ((aX r s).1 + j))⟩) :: ((1, ⟨sL db ((aX r s).2 - (aX r s).1).toNat dc, 171, 2, ((aX r s).2 - (aX r s).1).toNat, iT (aX r s).1 ((aX r s).2 - (aX r s).1).toNat⟩) :: S))) (db := db) (dc := dc) (hblind := (by repeat (first | exact hblind | apply Blind.then | apply Blind.inBlock))) (r := r) (it0 := s) (a := (aX r s).1) (n := ((aX r s).2 - (aX r s).1).toNat) (hlim := ((((st.lim).aPh dE dE).aPi dE).aPi dE)) (hB := st.hB) (hR := st.hR) (hS1 := rfl) (ha := hs1) (han := by omega) (hly := by omega) (h12 := st.h12) (h13 := st.h13) (h23 := st.h23) (hS2 := st.hS2) (hts := hk.ts) (hbig := by have := hk.tsn; have h2 := Nat.mul_le_mul_left ((aX r s).2 - (aX r s).1).toNat this; omega) (r39 := st.r39) (r40 := st.r40) (r44 := st.r44) (r45 := st.r45) (hu := hr.until0) (hu1 := hr.until1) (r59 := st.r59) (h28 := st.h28) (h24 := st.h24) (h25 := st.h25) (h26 := hst26) (h27 := st.h27) (hS0 := hstS0) (hrem := hrem) (hfin := hfin) (htot := by have := hk.aP3; rw [hrem] at this; simp at this; omega) (hcnt := hk.count) (hn := fun o p c bk ho hof hbk => ?_) (hr := fun o p c bk ln ho hof hbk => ?_)
  .have hsame := jB r s (aX r s).1 ((aX r s).2 - (aX r s).1).toNat
   rw [<- ho] at hsame
   refine g1 ?_
   obtain ⟨y_, mo_, d_, h_, mi_, s_, wd_, ly_, lm_, wno_, nwm_, eas_, ts_, tt_, cc_, rem_, fin_⟩ := o
   obtain ⟨q1, q2, q3, q4, q5, q6, q7, q8, q9, q10, q11, q12, q13⟩ := hsame
   simp only at q1 q2 q3 q4 q5 q6 q7 q8 q9 q10 q11 q12 q13 hof
   subst q1 q2 q3 q4 q5 q6 q7 q8 q9 q10 q11 q12 q13 hof
   refine dO (L' := [(0, pT it), (2, pT rb), (6, .bool (cS r s))]) kns (fun w s => s) ?_
   refine hn _ ({ a with rp := p, rc := c, rs := p, rk := c, rn := rem_.length, rj := 0, rall := rem_, bk := bk, dp := some ⟨db, 0, none⟩, dc := dc, dn := ((aX r s).2 - (aX r s).1).toNat, dxs := dM (aX r s).1 ((aX r s).2 - (aX r s).1).toNat (fun j => !bad r s ((aX r s).1 + j)) } : Ad) _ _ (ho.trans hout.symm) rfl ⟨rfl, rfl, rfl, rfl, rfl, rfl, rfl, rfl, rfl, rfl, rfl, rfl, rfl⟩ ?_
   exact (sT st (lim := fun _ => (((((((st.lim.aPh dE dE).aPi dE).aPi dE).aPh dE dE).aPh dE dE).aPh dE dE).aPh dE dE).aPi dE) (h28 := fun _ => (by rw [<- hfin]; exact st.h28)) (hq0 := fun _ => (fun h => ⟨rfl, rfl, by rw [show rem_ = [] from h]; rfl, h⟩)) (hq1 := fun _ => (fun h => ⟨fun g e => e, rfl, rfl, List.length_pos_iff.2 h, rfl, hbk h⟩)))
  .have hsame := jB r s (aX r s).1 ((aX r s).2 - (aX r s).1).toNat
   rw [<- ho] at hsame
   obtain ⟨y_, mo_, d_, h_, mi_, s_, wd_, ly_, lm_, wno_, nwm_, eas_, ts_, tt_, cc_, rem_, fin_⟩ := o
   obtain ⟨q1, q2, q3, q4, q5, q6, q7, q8, q9, q10, q11, q12, q13⟩ := hsame
   simp only at q1 q2 q3 q4 q5 q6 q7 q8 q9 q10 q11 q12 q13 hof
   subst q1 q2 q3 q4 q5 q6 q7 q8 q9 q10 q11 q12 q13 hof
   refine g1 ?_
   refine hq _ ({ a with rp := p, rc := c, rs := p, rk := c, rn := rem_.length, rj := 0, rall := rem_, bk := bk, dp := some ⟨db, 0, none⟩, dc := dc, dn := ((aX r s).2 - (aX r s).1).toNat, dxs := dM (aX r s).1 ((aX r s).2 - (aX r s).1).toNat (fun j => !bad r s ((aX r s).1 + j)) , ln := ln } : Ad) _ _ (ho.trans hout.symm) rfl ⟨rfl, rfl, rfl, rfl, rfl, rfl, rfl, rfl, rfl, rfl, rfl, rfl, rfl⟩ ?_
   exact (sT st (lim := fun _ => (((((((((st.lim.aPh dE dE).aPi dE).aPi dE).aPh dE dE).aPh dE dE).aPh dE dE).aPh dE dE).aPi dE).aPh dE dE).aPh dE dE) (hq0 := fun _ => (fun h => ⟨rfl, rfl, by rw [show rem_ = [] from h]; rfl, h⟩)) (hq1 := fun _ => (fun h => ⟨fun g e => e, rfl, rfl, List.length_pos_iff.2 h, rfl, hbk h⟩)))
end
end Go.Proofs.YthomapgobmdicaaGreat
namespace Go.Md
open Go.Tab
def dU (n : Nat) : List Int := List.replicate n 0
def gN (z is : List Int) : List Int := is.foldl (fun z i => z.set i.toNat 1) z
theorem aHb (z is : List Int) (i : Int) : gN z (is ++ [i]) = (gN z is).set i.toNat 1 := by unfold gN; rw [List.foldl_append]; rfl
theorem iS (is : List Int) : ∀ z : List Int, (gN z is).length = z.length := by
 induction is with
 | nil => exact fun _ => rfl
 | cons i is ih => exact fun z => (ih (z.set i.toNat 1)).trans (List.length_set ..)
theorem gJ (n : Nat) : (dU n).length = n := List.length_replicate ..
theorem aI9 (is : List Int) : ∀ (z : List Int) (k : Nat), k < z.length -> (∀ i ∈ is, 0 <= i) -> ((gN z is).getD k 0 = 0 ↔ z.getD k 0 = 0 /\ (k : Int) ∉ is) := by
 induction is with
 | nil => exact fun z k _ _ => ⟨fun h => ⟨h, by simp⟩, fun h => h.1⟩
 | cons i is ih =>
  intro z k hk hi
  have h0 := hi i List.mem_cons_self
  show (gN (z.set i.toNat 1) is).getD k 0 = 0 ↔ _
  rw [ih (z.set i.toNat 1) k (by rw [List.length_set]; exact hk) (fun j hj => hi j (List.mem_cons_of_mem _ hj))]
  have hg : (z.set i.toNat 1).getD k 0 = if i.toNat = k then 1 else z.getD k 0 := by
   rw [List.getD_eq_getElem?_getD, List.getElem?_set, List.getD_eq_getElem?_getD]
   by_cases h : i.toNat = k
   .rw [if_pos h, if_pos h, if_pos oM]; rfl
   .rw [if_neg h, if_neg h]
  rw [hg, List.mem_cons]
  by_cases h : i.toNat = k
  .rw [if_pos h]
   constructor
   .rintro ⟨h1, _⟩; omega
   .rintro ⟨_, h1⟩; exact absurd (.inl oM) h1
  .rw [if_neg h]
   constructor
   .rintro ⟨h1, h2⟩
    exact ⟨h1, fun h3 => h3.elim (fun h4 => h oM) h2⟩
   .rintro ⟨h1, h2⟩
    exact ⟨h1, fun h3 => h2 (.inr h3)⟩
theorem aHp (n k : Nat) : (dU n).getD k 0 = 0 := by
 unfold dU
 rw [List.getD_eq_getElem?_getD, List.getElem?_replicate]
 split <;> rfl
theorem sR {n k : Nat} {is : List Int} (hk : k < n) (hi : ∀ i ∈ is, 0 <= i) : ((gN (dU n) is).getD k 0 = 0 ↔ (k : Int) ∉ is) := by
 rw [aI9 is _ k (by rw [gJ]; exact hk) hi, aHp]
 exact ⟨fun h => h.2, fun h => ⟨rfl, h⟩⟩
def qL (y aPq i : Int) : Int := (aPq - ywd y - i - 1) % 7 + 1
def vW (y aPq i : Int) : List Int := (List.range (qL y aPq i).toNat).map fun (j : Nat) => i + j
def fwk (y aPq : Int) : Int := (7 - ywd y + aPq) % 7
def no1 (y aPq : Int) : Int := if 4 <= fwk y aPq then 0 else fwk y aPq
def wyl (y aPq : Int) : Int := if 4 <= fwk y aPq then 365 + Cal.lp y + (ywd y - aPq) % 7 else 365 + Cal.lp y - fwk y aPq
def pB (y aPq : Int) : Int := wyl y aPq / 7 + wyl y aPq % 7 / 4
def tZ (y aPq : Int) : Int := if no1 y aPq ≠ fwk y aPq then 7 - fwk y aPq else 0
def aDj (y aPq n : Int) : Int := if 1 < n then no1 y aPq + (n - 1) * 7 - tZ y aPq else no1 y aPq
def wkN (y aPq n : Int) : Int := if n < 0 then n + (pB y aPq + 1) else n
def jW (y aPq n : Int) : List Int := if 0 < wkN y aPq n /\ wkN y aPq n <= pB y aPq then vW y aPq (aDj y aPq (wkN y aPq n)) else []
def o5 (y aPq : Int) : Int := no1 y aPq + pB y aPq * 7 - tZ y aPq
def kU (y aPq : Int) (l : List Int) : List Int := l.flatMap (jW y aPq)
def kN (y aPq : Int) (l : List Int) : List Int := if l.any (· == 1) = true /\ o5 y aPq < 365 + Cal.lp y then vW y aPq (o5 y aPq) else []
def oN (y aPq : Int) (l : List Int) : List Int := if no1 y aPq ≠ 0 /\ l.any (· == -1) = true then (List.range (no1 y aPq).toNat).map fun (j : Nat) => (j : Int) else []
def s7 (y aPq : Int) (l : List Int) : List Int := kU y aPq l ++ kN y aPq l ++ oN y aPq l
def sM (l : List Int) (aPq y : Int) : List Int := if l.length = 0 then [] else gN (dU (nY y)) (s7 y aPq l)
def wdm (y i : Int) : Int := (ywd y + i) % 7
def nwI (y first last : Int) (p : Int × Int) : Int := if p.2 < 0 then last + (p.2 + 1) * 7 - (wdm y (last + (p.2 + 1) * 7) - p.1) % 7 else first + (p.2 - 1) * 7 + (7 - wdm y (first + (p.2 - 1) * 7) + p.1) % 7
def dN (y first last : Int) (p : Int × Int) : List Int := if first <= nwI y first last p /\ nwI y first last p <= last then [nwI y first last p] else []
def eH (y : Int) (l : List (Int × Int)) (x : Int × Int) : List Int := l.flatMap (dN y x.1 (x.2 - 1))
def jQ (y m : Int) : Int × Int := ((rgY y).getD (m - 1).toNat 0, (rgY y).getD m.toNat 0)
def cD (aP2 : Int) (aPt : List Int) (y m : Int) : List (Int × Int) := if aP2 = 0 then (if aPt.length ≠ 0 then aPt.map (jQ y) else [(0, 365 + Cal.lp y)]) else [jQ y m]
def nwM (aP2 : Int) (aPt : List Int) (l : List (Int × Int)) (y m : Int) : List Int := if l.length = 0 then [] else gN (dU (365 + Cal.lp y).toNat) ((cD aP2 aPt y m).flatMap (eH y l))
def eaH (y : Int) : Int := (y / 100 - y / 100 / 4 - (8 * (y / 100) + 13) / 25 + 19 * (y % 19) + 15) % 30
def eaI (y : Int) : Int := eaH y - eaH y / 28 * (1 - eaH y / 28 * (29 / (eaH y + 1)) * ((21 - y % 19) / 11))
def eaJ (y : Int) : Int := (y + y / 4 + eaI y + 2 - y / 100 + y / 100 / 4) % 7
def eaP (y : Int) : Int := eaI y - eaJ y
def eaD (y : Int) : Int := 1 + (eaP y + 27 + (eaP y + 6) / 40) % 31
def eaM (y : Int) : Int := 3 + (eaP y + 26) / 30
def eyd (y : Int) : Int := Cal.ydayOf (Cal.dayNo y (eaM y) (eaD y))
def uJ (l : List Int) (y : Int) : List Int := if l.length = 0 then [] else gN (dU (nY y)) (l.map (eyd y + ·))
end Go.Md
namespace Go.Proofs.YthomapgobmdicaaGreat
open Go.RowKit Go.Fr Go.Tab
section
variable {F : Nat -> Prop} {w0 : World} {B : LN} {H : LV} {S : LS}
open Go.Md
theorem aA3 (y : Int) (hy : 1 <= y /\ y <= 9999) (w : World) : CB 109 #[iV y] w (.agg #[iV (Cal.dayNo y (eaM y) (eaD y) * 86400), iV 0]) := by
 refine aF (args := [iV y]) (L := [(0, iV y)]) (N := 78) Tryz.func109 rfl rfl ble rfl (sS w) ?_
 obtain ⟨h, hh⟩ : ∃ h, eaH y = h := ⟨_, rfl⟩
 have hhb : 0 <= h /\ h < 30 := by rw [<- hh]; unfold eaH; omega
 obtain ⟨q, hq⟩ : ∃ q, h / 28 = q := ⟨_, rfl⟩
 have hqb : q = 0 \/ q = 1 := by omega
 obtain ⟨e, he⟩ : ∃ e, 29 / (h + 1) = e := ⟨_, rfl⟩
 have heb : 0 <= e /\ e <= 29 := by rw [<- he]; exact ⟨Int.ediv_nonneg dE oM, Int.ediv_le_self _ dE⟩
 obtain ⟨g, hg⟩ : ∃ g, (21 - y % 19) / 11 = g := ⟨_, rfl⟩
 have hgb : g = 0 \/ g = 1 := by omega
 obtain ⟨p, hp⟩ : ∃ p, q * e = p := ⟨_, rfl⟩
 have hpb : 0 <= p /\ p <= 29 := by rw [<- hp]; rcases hqb with h_ | h_ <;> rw [h_] <;> omega
 obtain ⟨s, hs⟩ : ∃ s, p * g = s := ⟨_, rfl⟩
 have hsb : 0 <= s /\ s <= 29 := by rw [<- hs]; rcases hgb with h_ | h_ <;> rw [h_] <;> omega
 obtain ⟨k, hk⟩ : ∃ k, q * (1 - s) = k := ⟨_, rfl⟩
 have hkb : 0 <= h - k /\ h - k <= 60 /\ -28 <= k /\ k <= 1 := by rw [<- hk]; rcases hqb with h_ | h_ <;> rw [h_] <;> omega
 obtain ⟨i, hi⟩ : ∃ i, h - k = i := ⟨_, rfl⟩
 have hI : eaI y = i := by unfold eaI; rw [hh, hq, he, hg, hp, hs, hk, hi]
 obtain ⟨j, hj⟩ : ∃ j, eaJ y = j := ⟨_, rfl⟩
 have hjb : 0 <= j /\ j < 7 := by rw [<- hj]; unfold eaJ; omega
 have hj2 : (y + y / 4 + i + 2 - y / 100 + y / 100 / 4) % 7 = j := by rw [<- hj]; unfold eaJ; rw [hI]
 obtain ⟨P, hP⟩ : ∃ P, i - j = P := ⟨_, rfl⟩
 have hPe : eaP y = P := by unfold eaP; rw [hI, hj, hP]
 obtain ⟨D, hD⟩ : ∃ D, 1 + (P + 27 + (P + 6) / 40) % 31 = D := ⟨_, rfl⟩
 have hDe : eaD y = D := by unfold eaD; rw [hPe, hD]
 obtain ⟨M, hM⟩ : ∃ M, 3 + (P + 26) / 30 = M := ⟨_, rfl⟩
 have hMe : eaM y = M := by unfold eaM; rw [hPe, hM]
 have hMb : 3 <= M /\ M <= 5 := by omega
 have hDb : 1 <= D /\ D <= 31 := by omega
 rw [hMe, hDe]
 have x0_ : Cal.dayNo y M D * 86400 + 0 * 3600 + 0 * 60 + 0 = Cal.dayNo y M D * 86400 := by omega
 refine g2 ?_
 refine gL (alo 50 (cs := [iV 0, iV 0]) kR rfl (fun b1_ hbb1_ => g30 ?_))
 refine g1 ?_
 refine rZ7 ((tU rfl rfl oM oM).to (v' := iV (h)) (congrArg (Value.int .i64) (hh))) ?_
 refine rZ1 ((oZ rfl rfl oM oM oM).to (v' := iV (q)) (congrArg (Value.int .i64) (hq))) ?_
 refine rZ2 ((oZ rfl rfl oM oM oM).to (v' := iV (q)) (congrArg (Value.int .i64) (hq))) ?_
 refine rl ((oZ rfl rfl oM oM oM).to (v' := iV (e)) (congrArg (Value.int .i64) (he))) (rZ2 ((rK rfl rfl (by rw [hp]; omega)).to (v' := iV (p)) (congrArg (Value.int .i64) (hp))) ?_)
 refine rl ((oZ rfl rfl oM oM oM).to (v' := iV (g)) (congrArg (Value.int .i64) (hg))) (rZ1 ((rK rfl rfl (by rw [hs]; omega)).to (v' := iV (s)) (congrArg (Value.int .i64) (hs))) ?_)
 refine rl ((rK rfl rfl (by rw [hk]; omega)).to (v' := iV (k)) (congrArg (Value.int .i64) (hk))) (rl ((nK rfl rfl oM).to (v' := iV (i)) (congrArg (Value.int .i64) (hi))) (g16 ?_))
 refine g1 ?_
 refine rZ7 ((tU rfl rfl oM oM).to (v' := iV (j)) (congrArg (Value.int .i64) (hj2))) ?_
 refine rl ((nK rfl rfl oM).to (v' := iV (P)) (congrArg (Value.int .i64) (hP))) (g12 ?_)
 refine rZ8 ((gQ rfl rfl oM).to (v' := iV (D)) (congrArg (Value.int .i64) (hD))) ?_
 refine rZ8 ((gQ rfl rfl oM).to (v' := iV (M)) (congrArg (Value.int .i64) (hM))) ?_
 refine gL (cvo rfl (fun w_ s_ => rC w_) (gL (cvo (v := .agg #[iV (Cal.dayNo y M D * 86400), iV 0]) rfl (fun w_ s_ => (cV y M D 0 0 0 0 oM oM oM oM oM oM oM w_).mT (cRr (by rw [x0_]))) (gL (sta 50 rfl rfl rfl rfl (g3 ?_))))))
 refine aT (.inl rfl) rfl (iP 50 rfl rfl rfl rfl kR) fun w_ s_ => ⟨?_, s_.aPg⟩
 exact rfl
end
end Go.Proofs.YthomapgobmdicaaGreat
namespace Go.Md
open Go.Tab
theorem aM3 (y : Int) : 0 <= eaH y /\ eaH y < 30 := by unfold eaH; omega
theorem aKf (y : Int) : 0 <= eaI y /\ eaI y <= 28 := by
 have hb := aM3 y
 unfold eaI
 generalize eaH y = h at hb
 have hg : (21 - y % 19) / 11 = 0 \/ (21 - y % 19) / 11 = 1 := by omega
 generalize (21 - y % 19) / 11 = g at hg
 rcases (show h < 28 \/ h = 28 \/ h = 29 by omega) with h1 | h1 | h1
 .rw [show h / 28 = 0 by omega]; omega
 .subst h1
  rw [show (28 : Int) / 28 = 1 by decide, show (29 : Int) / (28 + 1) = 1 by decide]; omega
 .subst h1
  rw [show (29 : Int) / 28 = 1 by decide, show (29 : Int) / (29 + 1) = 0 by decide]; omega
theorem yH (y : Int) : -6 <= eaP y /\ eaP y <= 28 := by
 have h1 := aKf y
 have h2 : 0 <= eaJ y /\ eaJ y < 7 := by unfold eaJ; omega
 unfold eaP; omega
theorem aNz (y : Int) : (eaM y = 3 /\ eaD y = eaP y + 28 /\ eaP y <= 3) \/ (eaM y = 4 /\ eaD y = eaP y - 3 /\ 4 <= eaP y) := by
 have h1 := yH y
 unfold eaM eaD
 omega
theorem aIm (y : Int) : Cal.cum y 2 = 59 + Cal.lp y := by
 show Cal.cum y 0 + Cal.mdays (((0 : Nat) : Int) + 1) y + Cal.mdays (((1 : Nat) : Int) + 1) y = _
 have h1 : Cal.mdays (((0 : Nat) : Int) + 1) y = 31 := rfl
 have h2 : Cal.mdays (((1 : Nat) : Int) + 1) y = 28 + Cal.lp y := rfl
 have h3 : Cal.cum y 0 = 0 := rfl
 omega
theorem aL3 (y : Int) : Cal.cum y 3 = 90 + Cal.lp y := by
 have h1 : Cal.cum y 3 = Cal.cum y 2 + Cal.mdays (((2 : Nat) : Int) + 1) y := rfl
 have h2 : Cal.mdays (((2 : Nat) : Int) + 1) y = 31 := rfl
 have := aIm y
 omega
theorem aKl (y : Int) : Cal.dayNo y (eaM y) (eaD y) = Cal.daysTo y + (86 + Cal.lp y + eaP y) := by
 have h1 := aIm y
 have h2 := aL3 y
 unfold Cal.dayNo
 rcases aNz y with ⟨e1, e2, _⟩ | ⟨e1, e2, _⟩
 .rw [e1, e2, show ((3 : Int) - 1) / 12 = 0 by decide, show (((3 : Int) - 1) % 12).toNat = 2 by decide, Int.add_zero, h1]; omega
 .rw [e1, e2, show ((4 : Int) - 1) / 12 = 0 by decide, show (((4 : Int) - 1) % 12).toNat = 3 by decide, Int.add_zero, h2]; omega
theorem aJ0 (y : Int) : eyd y = 86 + Cal.lp y + eaP y := by
 have h1 := yH y
 have h2 := Cal.lp_01 y
 unfold eyd
 exact (Cal.year_unique (aKl y).symm oM oM).2
theorem aIk (y : Int) : 80 <= eyd y /\ eyd y <= 115 := by
 have h1 := yH y
 have h2 := Cal.lp_01 y
 have := aJ0 y
 omega
theorem aAs (y : Int) : ((nY y : Nat) : Int) = 365 + Cal.lp y + 7 := by
 unfold nY Cal.lp
 cases Cal.leapB y <;> rfl
theorem aDl {l : List Int} (h : l.length ≠ 0) (y : Int) : (uJ l y).length = nY y := by unfold uJ; rw [if_neg h, iS, gJ]
theorem sZ {l : List Int} (h : l.length ≠ 0) (aPq y : Int) : (sM l aPq y).length = nY y := by unfold sM; rw [if_neg h, iS, gJ]
theorem aGf {l : List (Int × Int)} (h : l.length ≠ 0) (aP2 : Int) (aPt : List Int) (y m : Int) : ((nwM aP2 aPt l y m).length : Int) = 365 + Cal.lp y := by
 have := Cal.lp_01 y
 unfold nwM; rw [if_neg h, iS, gJ]; omega
theorem aB0 (y : Int) : 0 <= ywd y /\ ywd y <= 6 := by unfold ywd; omega
theorem pL (y aPq : Int) : 0 <= fwk y aPq /\ fwk y aPq <= 6 := by unfold fwk; omega
theorem aHy (y aPq : Int) : 0 <= no1 y aPq /\ no1 y aPq <= 3 := by have := pL y aPq; unfold no1; split <;> omega
theorem uH (y aPq : Int) : 52 <= pB y aPq /\ pB y aPq <= 53 := by
 have h1 := pL y aPq
 have h2 := Cal.lp_01 y
 have h3 := aB0 y
 unfold pB wyl
 unfold fwk at *
 split <;> omega
theorem aGe {y aPq n : Int} (h0 : 0 < n) (h1 : n <= pB y aPq) : 0 <= aDj y aPq n /\ aDj y aPq n <= 361 + Cal.lp y := by
 have h2 := Cal.lp_01 y
 have h3 := aB0 y
 unfold pB wyl at h1
 unfold aDj tZ no1
 unfold fwk at *
 by_cases h4 : 4 <= (7 - ywd y + aPq) % 7
 .rw [if_pos h4] at h1 ⊢
  split
  .rw [if_pos oM]; omega
  .omega
 .rw [if_neg h4] at h1 ⊢
  split
  .rw [if_neg oM]; omega
  .omega
theorem zU (y aPq : Int) : 0 <= o5 y aPq := by
 have h0 := uH y aPq
 have h1 := aHy y aPq
 have h2 := pL y aPq
 unfold o5 tZ
 split <;> omega
theorem aJ6 (y aPq i : Int) : 1 <= qL y aPq i /\ qL y aPq i <= 7 := by unfold qL; omega
end Go.Md
namespace Go.Fr
open Go.Md
section
variable {P : Program} {Q : Exit -> Act -> World -> Prop} {K : Act -> World -> Prop} {N d : Nat} {L : Loc} {v : Value} {ty : TypeId} {pos : String} {aft : Array Edge} {F : Nat -> Prop} {w0 : World} {B : LN} {H : LV} {S : LS}
theorem aE7 {z : Value} (hz : z.cells.toList = [iV 0]) (n : Nat) : (madeCells z.cells n).toList = (dU n).map iV := by
 have hs : z.cells = #[iV 0] := Array.toList_inj.1 hz
 unfold madeCells dU
 rw [hs]
 apply List.ext_getElem
 .simp
 .intro i h1 h2
  have e1 : i % (#[iV 0] : Array Value).size = 0 := Nat.mod_one i
  have e2 : ∀ k : Nat, (#[iV 0] : Array Value)[k % (#[iV 0] : Array Value).size]! = iV 0 := fun k => by
   rw [show k % (#[iV 0] : Array Value).size = 0 from Nat.mod_one k]; rfl
  simp only [Array.toList_map, List.getElem_map, List.getElem_replicate]
  exact e2 _
theorem uB (j : Nat) {t e : TypeId} {by_ : Nat} {x y : Operand} {q q' : IntKind} {n : Nat} (hd : d < N) (ht : kP P t = some (e, 1, by_, [iV 0])) (hx : ev L x = some (.int q (n : Int))) (hy : ev L y = some (.int q' (n : Int))) (hb : by_ * n <= 281474976710656) (h63 : n <= 9223372036854775807)
  (hn : ∀ b, GK K N ((d, sL b n n) :: L) F w0 B H ((j, ⟨sL b n n, e, 1, n, (dU n).map iV⟩) :: S)) :
  GO P ⟨some d, .makeSlice t x y, ty, pos, aft, none⟩ Q K N L F w0 B H S := fun a w k s => by
 obtain ⟨hu, inf, z, hi, hz, h2, h3, h4⟩ := iM ht
 have hb' : (inf.bytes : Int) * (n : Int) <= 281474976710656 := by rw [h3, <- Int.natCast_mul]; omega
 have hr := run_make (P := P) w t e inf z hu hi hz q q' n n oM (Int.le_refl _) hb' oM
 simp only [Int.toNat_natCast] at hr
 have hm := aE7 h4 (n * inf.size)
 rw [h2, Nat.mul_one] at hm hr
 have s' : Sees F w0 B H ((j, ⟨sL w.heap.size n n, e, 1, n, (dU n).map iV⟩) :: S) (w.alloc (.cells (madeCells z.cells n) e)) :=
  s.slice (old := none) (.inl rfl) (World.grownBy_alloc w _ none) ⟨by simp [dU], .inr ⟨w.heap.size, n, madeCells z.cells n, rfl, Nat.zero_le _, heap_alloc_new w _, Nat.le_refl _, by unfold maxLen; omega, by rw [size_madeCells, Nat.mul_one], by rw [hm]; simp [dU]⟩⟩ (.inr (.inr ⟨w.heap.size, rfl, Nat.le_refl _⟩))
 show Oper.upon _ _ _ _ _ _
 simp only [execOp, k.eval hx, k.eval hy, Sem.run_bind, hr, Result.andThen_ok, Sem.run_pure]
 exact hn _ _ _ (k.put hd _) s'
def VOk (V : LV) : Prop := ∀ q v, lkp q V = some v -> q = ky 0 23 \/ q = ky 0 25
theorem VOk.nil : VOk [] := fun q v h => by simp [lkp] at h
theorem VOk.none {V : LV} (h : VOk V) {q : Nat} (h1 : q ≠ ky 0 23) (h2 : q ≠ ky 0 25) : lkp q V = none := by
 cases e : lkp q V with
 | none => rfl
 | some v => rcases h q v e with h | h <;> contradiction
theorem wZ (q : Nat) : ∀ V H : LV, lkp q (V ++ H) = match lkp q V with | some v => some v | none => lkp q H
 | [], H => rfl
 | (k, v) :: V, H => by
  by_cases e : q = k
  .subst e; rw [List.cons_append, bJ, bJ]
  .rw [List.cons_append, aA e, aA e]; exact wZ q V H
theorem aL0 {V H : LV} {q : Nat} (h : lkp q V = none) : lkp q (V ++ H) = lkp q H := by rw [wZ, h]
theorem eV {o : Nat} {u v : Value} {V : LV} (hV : VOk V) (h8 : o ≠ 8) (h9 : o ≠ 9) (h23 : o ≠ 23) (h25 : o ≠ 25) : lkp (ky 0 o) ((ky 0 9, u) :: (ky 0 8, v) :: (V ++ H)) = lkp (ky 0 o) H := by
 rw [aA (by unfold ky; omega), aA (by unfold ky; omega), aL0 (hV.none (by unfold ky; omega) (by unfold ky; omega))]
theorem dI {k o : Nat} {u v : Value} {V : LV} (hV : VOk V) (hk : k ≠ 0) (ho : o < 4096) : lkp (ky k o) ((ky 0 9, u) :: (ky 0 8, v) :: (V ++ H)) = lkp (ky k o) H := by
 rw [bV hk ho dE, bV hk ho dE, aL0 (hV.none (fun e => hk (iA ho dE e).1) (fun e => hk (iA ho dE e).1))]
def Kp (H' H : LV) : Prop := ∀ k o, o < 4096 -> (k ≠ 0 \/ o = 8 \/ o = 9 \/ 23 <= o) -> lkp (ky k o) H' = lkp (ky k o) H
theorem Kp.refl (H : LV) : Kp H H := fun _ _ _ _ => rfl
theorem Kp.trans {H1 H2 H3 : LV} (h : Kp H1 H2) (g : Kp H2 H3) : Kp H1 H3 := fun k o ho h2 => (h k o ho h2).trans (g k o ho h2)
theorem Kp.cons {H H1 : LV} {j : Nat} {x : Value} (h : Kp H1 H) (hj : j < 4096 := by decide) (h8 : j ≠ 8 := by decide) (h9 : j ≠ 9 := by decide) (h23 : j < 23 := by decide) : Kp ((ky 0 j, x) :: H1) H := fun k o ho h2 => by
 rw [aA (fun e => by have := iA ho hj e; omega)]
 exact h k o ho h2
theorem lT {k : Nat} {u v c t : Value} {V : LV} (hV : VOk V) (h8 : k ≠ 8) (h9 : k ≠ 9) (h23 : k ≠ 23) (h25 : k ≠ 25) : lkp (ky 0 k) ((ky 0 25, c) :: (ky 0 23, t) :: (ky 0 9, u) :: (ky 0 8, v) :: H) = lkp (ky 0 k) ((ky 0 9, u) :: (ky 0 8, v) :: (V ++ H)) := by
 rw [eV hV h8 h9 h23 h25, aA (by unfold ky; omega), aA (by unfold ky; omega), aA (by unfold ky; omega), aA (by unfold ky; omega)]
theorem aD2 {k o : Nat} {u v c t : Value} {V : LV} (hV : VOk V) (hk : k ≠ 0) (ho : o < 4096) : lkp (ky k o) ((ky 0 25, c) :: (ky 0 23, t) :: (ky 0 9, u) :: (ky 0 8, v) :: H) = lkp (ky k o) ((ky 0 9, u) :: (ky 0 8, v) :: (V ++ H)) := by
 rw [dI hV hk ho, bV hk ho dE, bV hk ho dE, bV hk ho dE, bV hk ho dE]
theorem lkX {j k : Nat} {u v x : Value} {V : LV} (h : k ≠ j) : lkp (ky 0 k) ((ky 0 9, u) :: (ky 0 8, v) :: (V ++ ((ky 0 j, x) :: H))) = lkp (ky 0 k) ((ky 0 9, u) :: (ky 0 8, v) :: (V ++ H)) := by
 by_cases h9 : k = 9
 .subst h9; rfl
 .by_cases h8 : k = 8
  .subst h8; rfl
  .rw [aA (by unfold ky; omega), aA (by unfold ky; omega), aA (by unfold ky; omega), aA (by unfold ky; omega), wZ, wZ, aA (by unfold ky; omega)]
theorem lkF {j k o : Nat} {u v x : Value} {V : LV} (hV : VOk V) (hj : j < 4096) (hk : k ≠ 0) (ho : o < 4096) : lkp (ky k o) ((ky 0 9, u) :: (ky 0 8, v) :: (V ++ ((ky 0 j, x) :: H))) = lkp (ky k o) ((ky 0 9, u) :: (ky 0 8, v) :: (V ++ H)) := by
 rw [dI hV hk ho, dI hV hk ho, bV hk ho hj]
theorem aD7 {j : Nat} {u v x : Value} {V : LV} (hV : VOk V) (hj : j < 4096) (h : Lim 40 B ((ky 0 9, u) :: (ky 0 8, v) :: (V ++ H)) S) : Lim 40 B ((ky 0 9, u) :: (ky 0 8, v) :: (V ++ ((ky 0 j, x) :: H))) S :=
 ⟨h.b, fun k hk o ho => (lkF hV hj oM ho).trans (h.h k hk o ho), h.s⟩
theorem lim0 {u v : Value} {V : LV} (hV : VOk V) (h : Lim 40 B ((ky 0 9, u) :: (ky 0 8, v) :: (V ++ H)) S) : Lim 40 B H S :=
 ⟨h.b, fun k hk o ho => by have := h.h k hk o ho; rw [dI hV oM ho] at this; exact this, h.s⟩
end
section
variable {P : Program} {N d : Nat} {L : Loc} {v : Value} {ty : TypeId} {pos : String} {aft : Array Edge} {g : Option (Nat × Bool)} {F : Nat -> Prop} {w0 : World} {B : LN} {H : LV} {S : LS}
theorem xE {P : Program} (w : World) {t e : TypeId} {n : Nat} (ht : i3 P t = some (e, n)) (p : Option Addr) (len cap : Nat) (kl kh : IntKind) (lo hi : Int) (h0 : 0 <= lo) (h1 : lo <= hi) (h2 : hi <= cap) :
  (Instr.sliceAt t (.slice p len cap) (some (.int kl lo)) (some (.int kh hi)) none).run P w = .ok (.slice (if cap = lo.toNat then p else p.map (·.add (lo.toNat * n))) (hi.toNat - lo.toNat) (cap - lo.toNat)) w := by
 obtain ⟨hu, i, hi_, rfl⟩ := kJ ht
 have he : P.elem t = e := by simp [Program.elem, hu]
 rw [run_sliceAt_slice w t _ _ _ _ (by rw [he]; exact hu), run_slice_lh w t p len cap (by rw [he]; exact hu) kl kh lo hi h0 h1 h2, he, iF hi_]
 rfl
theorem mG {t e : TypeId} {n : Nat} {x y z : Operand} {b off len cap : Nat} {kl kh : IntKind} {lo hi : Int} (ht : i3 P t = some (e, n)) (hx : ev L x = some (.slice (some ⟨b, off, none⟩) len cap)) (hy : ev L y = some (.int kl lo)) (hz : ev L z = some (.int kh hi)) (h0 : 0 <= lo) (h1 : lo <= hi) (h2 : hi <= cap) (h3 : lo < cap) :
  Rd P ⟨some d, .slice t x (some y) (some z) none, ty, pos, aft, g⟩ N L F w0 B H S (.slice (some ⟨b, off + lo.toNat * n, none⟩) (hi.toNat - lo.toNat) (cap - lo.toNat)) := fun a w k s => by
 have hne : ¬ cap = lo.toNat := by omega
 simp only [execOp, k.eval hx, Option.map_some, Option.map_none, k.eval hy, k.eval hz, Sem.run_bind, xE w ht _ len cap kl kh lo hi h0 h1 h2, Result.andThen_ok, Sem.run_pure, if_neg hne, Addr.add_mid]
end
end Go.Fr
namespace Go.Proofs.YthomapgobmdicaaGreat
open Go.RowKit Go.Fr Go.Tab
section
variable {F : Nat -> Prop} {w0 : World} {B : LN} {H : LV} {S : LS}
theorem Sees.cut0 {w : World} {k : Nat} {p : Option Addr} {n c : Nat} {e : TypeId} {sz : Nat} {xs : List Value} (s : Sees F w0 B H S w) (hk : lkp k S = some ⟨.slice p n c, e, sz, n, xs⟩) : Sees F w0 B H ((k, ⟨.slice p 0 c, e, sz, 0, []⟩) :: S) w :=
 s.slice (s' := ⟨.slice p 0 c, e, sz, 0, []⟩) (old := (Value.slice p n c).ownBlock) (.inr ⟨_, hk, rfl⟩) ⟨rfl, rfl, rfl, Nat.le_refl _, fun _ _ _ => rfl⟩ (by
  rcases (s.slcs k _ hk).2 with ⟨e1, e2⟩ | ⟨g, cap, cur, e1, h1, h2, h3, h4, h5, h6⟩
  .injection e1 with e3 e4 e5
   subst e3 e5
   exact ⟨by simp, .inl ⟨rfl, rfl⟩⟩
  .injection e1 with e3 e4 e5
   subst e3 e5
   exact ⟨by simp, .inr ⟨g, c, cur, rfl, h1, h2, Nat.zero_le _, h4, h5, by simp⟩⟩) (by
  cases p with
  | none => exact .inl rfl
  | some a => exact .inr (.inl ⟨by simp [Value.ownBlock], rfl⟩))
theorem sP {it : Nat} (hB : lkp 0 B = some it) {p : Option Addr} {n c m : Nat} {xs : List Value} (h23 : lkp (ky 0 23) H = some (.slice p n c)) (hS2 : lkp 2 S = some ⟨.slice p n c, 80, 2, n, xs⟩) (hn : n <= 1000000000) (hm : m <= 1000000) : ∀ w, Sees F w0 B H S w -> Calls Tryz.prog 111 #[.pointer (some ⟨it, 23, none⟩), iV (m : Int)] w fun e w' => ∃ p' c', e = .returned (.tuple #[]) /\ Sees F w0 B ((ky 0 23, .slice p' 0 c') :: H) ((2, ⟨.slice p' 0 c', 80, 2, 0, []⟩) :: S) w' := by
 intro w s
 refine aF (args := [.pointer (some ⟨it, 23, none⟩), iV ((m : Int))]) (L := [(0, .pointer (some ⟨it, 23, none⟩)), (1, iV ((m : Int)))]) (N := 20) Tryz.func111 rfl rfl ble rfl s (g11 ?_)
 refine aB rfl (fun hc1 => ?_) (fun hc2 => ?_)
 .refine g4 ?_
  refine gL (xF 2 (e := 80) (sz := 2) (by_ := 16) (zs := [iV 0, iV 0]) (c := m) dE kR rfl rfl oM oM (fun bm => g1 ?_))
  refine gL (sto 0 rfl rfl hB h23 (g4 ?_))
  exact fI (by first | exact .inl rfl | exact .inr rfl) rfl fun w_ s_ => ⟨(some ⟨bm, 0, none⟩), m, rfl, s_⟩
 .refine g7 ?_
  refine rZ1 ((eN (e := 80) (n := 2) kR rfl rfl oM oM).to (v' := .slice p 0 c) rfl) ?_
  refine gL (sto 0 rfl rfl hB h23 (g1 ?_))
  exact fI (by first | exact .inl rfl | exact .inr rfl) rfl fun w_ s_ => ⟨p, c, rfl, (Sees.cut0 s_ hS2)⟩
open Go.Md
theorem vG {S0 : LS} {H0 : LV} {r : Ru} {l : Ra} {it rb : Nat} {s : It} {a : Ad} (st : St F w0 S0 H0 it rb r l s a B H S) (hr : RuOk r) (hh : 0 <= s.h /\ s.h <= 23) (hmi : 0 <= s.mi /\ s.mi <= 59) (hse : 0 <= s.s /\ s.s <= 59) (htn : s.ts.length <= 1000000000) (hlm : r.aPr.length <= 100) (hls : r.aPs.length <= 100) (hfr : r.aP2 = 6) : ∀ w, Sees F w0 B H S w -> Calls Tryz.prog 76 #[.pointer (some ⟨it, 7, none⟩), .pointer (some ⟨it, 23, none⟩), iV (r.aP2), iV (s.h), iV (s.mi), iV (s.s)] w fun e w' => ∃ p c, e = .returned (.tuple #[]) /\ Sees F w0 B ((ky 0 23, .slice p (Md.fill r s).length c) :: H) ((2, ⟨.slice p (Md.fill r s).length c, 80, 2, (Md.fill r s).length, (bS (Md.fill r s))⟩) :: S) w' := by
 intro w s_
 refine aF (args := [.pointer (some ⟨it, 7, none⟩), .pointer (some ⟨it, 23, none⟩), iV (r.aP2), iV (s.h), iV (s.mi), iV (s.s)]) (L := [(0, .pointer (some ⟨it, 7, none⟩)), (1, .pointer (some ⟨it, 23, none⟩)), (2, iV (r.aP2)), (3, iV (s.h)), (4, iV (s.mi)), (5, iV (s.s))]) (N := 164) Tryz.func76 rfl rfl ble rfl s_ (g8 ?_)
 refine rl ((aQ rfl rfl).to (v' := .bool false) (cB (by rw [hfr]; rfl))) (g3 ?_)
 refine aU rfl rfl ?_
 refine g2 ?_
 refine rl ((aQ rfl rfl).to (v' := .bool false) (cB (by rw [hfr]; rfl))) (g3 ?_)
 refine aU rfl rfl ?_
 refine g2 ?_
 refine rl ((aQ rfl rfl).to (v' := .bool true) (cB (by rw [hfr]; rfl))) (yZ7 ?_)
 refine gL (d8 (ι := Option Addr × Nat) (fun _ => .tuple #[]) (fun _ => True) (fun _ => B) (fun y => (ky 0 23, .slice y.1 0 y.2) :: H) (fun y => (2, ⟨.slice y.1 0 y.2, 80, 2, 0, []⟩) :: S) dE kR rfl (fun w_ s_ => (sP (m := 1) st.hB st.h23 st.hS2 htn oM w_ s_).mono fun e w' ⟨p, c, h1, h2⟩ => ⟨(p, c), trivial, h1, h2⟩) (fun | (p0, c0), _ => g2 ?_))
 refine jY (fun i => i == 19) kR (gr 0 rfl (bC rfl) (gr 1 rfl (bC rfl) (gr 2 rfl (bW rfl) (gr 3 rfl (rld 0 rfl st.hB rfl) ?_))))
 refine gr 4 rfl (bC rfl) (gr 5 rfl (bC rfl) (gr 6 rfl (bC rfl) (gr 7 rfl (bC rfl) (gr 8 rfl (bW rfl) ?_))))
 refine gr 9 rfl (rfa 0) (gr 10 rfl (rld 0 rfl st.hB st.h7) (gr 11 rfl (bW rfl) (gr 12 rfl (rfa 39) (gr 13 rfl (aW 1 rfl st.hR st.r39 st.r40 kR dE) ?_))))
 refine gn 14 rfl (cvo rfl (fun w_ s_ => dR _ _ w_) (gk (gn 15 rfl (cvo (v := .agg #[iV (s.h * 3600 + s.mi * 60 + s.s), iV 0]) rfl (fun w_ s_ => (cV 1 1 1 _ _ _ 0 oM oM oM oM oM oM oM w_).mT (cRr (by rw [show Cal.dayNo 1 1 1 = 0 from rfl, show (0 : Int) * 86400 + s.h * 3600 + s.mi * 60 + s.s = s.h * 3600 + s.mi * 60 + s.s by omega]))) (gk (gn 16 rfl (dB 60 (e := 80) (sz := 2) (by_ := 16) (zs := [iV 0, iV 0]) dE kR rfl dE dE rfl rfl rfl (fun bo => gk (gn 17 rfl (cW 2 60 (e := 80) (sz := 2) (by_ := 16) (zs := [iV 0, iV 0]) dE kR rfl dE rfl rfl rfl rfl ⟨rfl, rfl⟩ ⟨rfl, rfl⟩ aA7 sO sO (fun q3 e3 => gk (gn 18 rfl (gI dE (bW rfl) (gk ?_))))))))))))))
 refine gn 19 rfl (sto 0 rfl rfl st.hB rfl (gk (fM kR ?_)))
 refine g1 ?_
 have hF : Md.fill r s = [s.h * 3600 + s.mi * 60 + s.s] := by unfold Md.fill; rw [if_neg oM, if_neg oM]
 rw [hF]
 exact fI (by first | exact .inl rfl | exact .inr rfl) rfl fun w s => ⟨_, _, rfl, s.low 40 ((st.lim.aPh dE dE).aPi dE) agx agx agx⟩
theorem vP {S0 : LS} {H0 : LV} {r : Ru} {l : Ra} {it rb : Nat} {s : It} {a : Ad} (st : St F w0 S0 H0 it rb r l s a B H S) (hr : RuOk r) (hh : 0 <= s.h /\ s.h <= 23) (hmi : 0 <= s.mi /\ s.mi <= 59) (hse : 0 <= s.s /\ s.s <= 59) (htn : s.ts.length <= 1000000000) (hlm : r.aPr.length <= 100) (hls : r.aPs.length <= 100) (hfr : r.aP2 = 5) : ∀ w, Sees F w0 B H S w -> Calls Tryz.prog 76 #[.pointer (some ⟨it, 7, none⟩), .pointer (some ⟨it, 23, none⟩), iV (r.aP2), iV (s.h), iV (s.mi), iV (s.s)] w fun e w' => ∃ p c, e = .returned (.tuple #[]) /\ Sees F w0 B ((ky 0 23, .slice p (Md.fill r s).length c) :: H) ((2, ⟨.slice p (Md.fill r s).length c, 80, 2, (Md.fill r s).length, (bS (Md.fill r s))⟩) :: S) w' := by
 intro w s_
 refine aF (args := [.pointer (some ⟨it, 7, none⟩), .pointer (some ⟨it, 23, none⟩), iV (r.aP2), iV (s.h), iV (s.mi), iV (s.s)]) (L := [(0, .pointer (some ⟨it, 7, none⟩)), (1, .pointer (some ⟨it, 23, none⟩)), (2, iV (r.aP2)), (3, iV (s.h)), (4, iV (s.mi)), (5, iV (s.s))]) (N := 164) Tryz.func76 rfl rfl ble rfl s_ (g8 ?_)
 refine rl ((aQ rfl rfl).to (v' := .bool false) (cB (by rw [hfr]; rfl))) (g3 ?_)
 refine aU rfl rfl ?_
 refine g2 ?_
 refine wA ((aQ rfl rfl).to (v' := .bool true) (cB (by rw [hfr]; rfl))) ?_
 refine gL (d8 (ι := Option Addr × Nat) (fun _ => .tuple #[]) (fun _ => True) (fun _ => B) (fun y => (ky 0 23, .slice y.1 0 y.2) :: H) (fun y => (2, ⟨.slice y.1 0 y.2, 80, 2, 0, []⟩) :: S) dE kR rfl (fun w_ s_ => (sP (m := r.aPs.length) st.hB st.h23 st.hS2 htn oM w_ s_).mono fun e w' ⟨p, c, h1, h2⟩ => ⟨(p, c), trivial, h1, h2⟩) (fun | (p0, c0), _ => g16 ?_))
 refine g1 ?_
 refine aY (ι := (Nat) × (Option Addr) × (Nat) × (Nat) × (List Value) × (List Int)) (fun | ⟨k, q, e, n, xs, ll⟩ => r.aPs.length - k) (fun | ⟨k, q, e, n, xs, ll⟩ => (k <= r.aPs.length) /\ (ll = (r.aPs.take k).map (fun sc => s.h * 3600 + s.mi * 60 + sc)) /\ (n = ll.length) /\ (xs = bS ll) /\ (n <= k)) (fun | ⟨k, q, e, n, xs, ll⟩ => [(0, .pointer (some ⟨it, 7, none⟩)), (1, .pointer (some ⟨it, 23, none⟩)), (2, iV (r.aP2)), (3, iV (s.h)), (4, iV (s.mi)), (5, iV (s.s)), (110, .slice l.p56 r.aPs.length l.c56), (111, iV (r.aPs.length)), (112, iV k)]) (fun _ => B) (fun | ⟨k, q, e, n, xs, ll⟩ => (ky 0 23, .slice q n e) :: H) (fun | ⟨k, q, e, n, xs, ll⟩ => (2, ⟨.slice q n e, 80, 2, n, xs⟩) :: S) ⟨0, p0, c0, 0, [], []⟩ ⟨Nat.zero_le _, rfl, rfl, rfl, Nat.zero_le _⟩ kns (fun w s => by exact s) ?_
 rintro ⟨k, q, e, n, xs, ll⟩ ⟨hk, hl, hn, hxs, hb⟩
 refine dS ?_
 refine g6 ?_
 refine aB rfl (fun hc1 => ?_) (fun hc2 => ?_)
 .have hlt_k : k < r.aPs.length := by have := oT hc1; omega
  obtain ⟨sc, hx_sc⟩ : ∃ y, r.aPs[k]? = some y := ⟨_, List.getElem?_eq_getElem hlt_k⟩
  refine cQ (fun w s => (st.hI56.to aG).head s oM) fun hh_ => ?_
  obtain ⟨b_sc, o_sc, hp_sc⟩ := hh_
  have src_sc := st.hI56
  rw [hp_sc] at src_sc
  have hsr := hr.aPs sc (List.mem_of_getElem? hx_sc)
  refine g6 ?_
  refine rl (aC (e := 3) (n := 1) kR (congrArg (fun p => some (Value.slice p _ _)) hp_sc) rfl oM oM) (rZ3 (dT kR rfl (fun w s => src_sc.cell hx_sc aG s)) ?_)
  refine jY (fun i => i == 19) kR (gr 0 rfl (bC rfl) (gr 1 rfl (bC rfl) (gr 2 rfl (bW rfl) (gr 3 rfl (rld 0 rfl st.hB rfl) ?_))))
  refine gr 4 rfl (bC rfl) (gr 5 rfl (bC rfl) (gr 6 rfl (bC rfl) (gr 7 rfl (bC rfl) (gr 8 rfl (bW rfl) ?_))))
  refine gr 9 rfl (rfa 0) (gr 10 rfl (rld 0 rfl st.hB st.h7) (gr 11 rfl (bW rfl) (gr 12 rfl (rfa 39) (gr 13 rfl (aW 1 rfl st.hR st.r39 st.r40 kR dE) ?_))))
  refine gn 14 rfl (cvo rfl (fun w_ s_ => dR _ _ w_) (gk (gn 15 rfl (cvo (v := .agg #[iV (s.h * 3600 + s.mi * 60 + sc), iV 0]) rfl (fun w_ s_ => (cV 1 1 1 _ _ _ 0 oM oM oM oM oM oM oM w_).mT (cRr (by rw [show Cal.dayNo 1 1 1 = 0 from rfl, show (0 : Int) * 86400 + s.h * 3600 + s.mi * 60 + sc = s.h * 3600 + s.mi * 60 + sc by omega]))) (gk (gn 16 rfl (dB 60 (e := 80) (sz := 2) (by_ := 16) (zs := [iV 0, iV 0]) dE kR rfl dE dE rfl rfl rfl (fun bo => gk (gn 17 rfl (cW 2 60 (e := 80) (sz := 2) (by_ := 16) (zs := [iV 0, iV 0]) dE kR rfl dE rfl rfl rfl rfl ⟨rfl, rfl⟩ ⟨rfl, rfl⟩ aA7 sO sO (fun q3 e3 => gk (gn 18 rfl (gI dE (bW rfl) (gk ?_))))))))))))))
  refine gn 19 rfl (sto 0 rfl rfl st.hB rfl (gk (fM kR ?_)))
  refine g6 ?_
  refine aN ⟨k + 1, q3, e3, n + 1, xs ++ [iV (s.h * 3600 + s.mi * 60 + sc), iV 0], ll ++ [s.h * 3600 + s.mi * 60 + sc]⟩ sO ⟨by omega, by rw [hl, List.take_add_one, hx_sc]; simp only [Option.toList_some, List.map_append, List.map_cons, List.map_nil], by rw [List.length_append, hn]; rfl, by rw [hxs]; exact fT _ _, by omega⟩ kns (fun w s => by exact (s.low 40 ((st.lim.aPh dE dE).aPi dE) agx agx agx))
 .have hge_k : ¬ k < r.aPs.length := by have := oF hc2; omega
  obtain rfl : k = r.aPs.length := by omega
  rw [List.take_length] at hl
  subst hn hxs
  refine g9 ?_
  refine rl ((iR (r := .iface 141 (.slice q ll.length e)) rfl kW)) (gL (d8 (ι := Unit) (fun _ => .tuple #[]) (fun _ => True) (fun _ => B) (fun _ => (ky 0 23, .slice q ll.length e) :: H) (fun _ => (2, ⟨.slice q ll.length e, 80, 2, ll.length, (bS (eM ll))⟩) :: (2, ⟨.slice q ll.length e, 80, 2, ll.length, (bS ll)⟩) :: S) dE kR rfl (fun w_ s_ => (o6 (t := 2) (ts := ll) dE oM (((st.lim.mono dE).aPh dE dE).aPi dE) rfl w_ s_).mono fun e_ w2_ h_ => ⟨(), trivial, h_.1, h_.2⟩) (fun _ _ => g2 ?_)))
  have hF : Md.fill r s = eM ll := by unfold Md.fill nV; rw [if_neg oM, if_pos hfr, hl]; simp
  have hlen : (eM ll).length = ll.length := by unfold eM; rw [List.length_mergeSort]
  rw [hF, hlen]
  exact fI (by first | exact .inl rfl | exact .inr rfl) rfl fun w s => ⟨_, _, rfl, s.low 40 ((st.lim.aPh dE dE).aPi dE) agx agx agx⟩
theorem vN {S0 : LS} {H0 : LV} {r : Ru} {l : Ra} {it rb : Nat} {s : It} {a : Ad} (st : St F w0 S0 H0 it rb r l s a B H S) (hr : RuOk r) (hh : 0 <= s.h /\ s.h <= 23) (hmi : 0 <= s.mi /\ s.mi <= 59) (hse : 0 <= s.s /\ s.s <= 59) (htn : s.ts.length <= 1000000000) (hlm : r.aPr.length <= 100) (hls : r.aPs.length <= 100) (hfr : r.aP2 = 4) : ∀ w, Sees F w0 B H S w -> Calls Tryz.prog 76 #[.pointer (some ⟨it, 7, none⟩), .pointer (some ⟨it, 23, none⟩), iV (r.aP2), iV (s.h), iV (s.mi), iV (s.s)] w fun e w' => ∃ p c, e = .returned (.tuple #[]) /\ Sees F w0 B ((ky 0 23, .slice p (Md.fill r s).length c) :: H) ((2, ⟨.slice p (Md.fill r s).length c, 80, 2, (Md.fill r s).length, (bS (Md.fill r s))⟩) :: S) w' := by
 intro w s_
 refine aF (args := [.pointer (some ⟨it, 7, none⟩), .pointer (some ⟨it, 23, none⟩), iV (r.aP2), iV (s.h), iV (s.mi), iV (s.s)]) (L := [(0, .pointer (some ⟨it, 7, none⟩)), (1, .pointer (some ⟨it, 23, none⟩)), (2, iV (r.aP2)), (3, iV (s.h)), (4, iV (s.mi)), (5, iV (s.s))]) (N := 164) Tryz.func76 rfl rfl ble rfl s_ (g8 ?_)
 refine rl ((aQ rfl rfl).to (v' := .bool true) (cB (by rw [hfr]; rfl))) (g3 ?_)
 refine bK rfl rfl ?_
 refine g1 ?_
 refine dH 18 kR kR (g16 ?_)
 refine g1 ?_
 refine rt ((aE0 rfl rfl).to (v' := iV ((r.aPr.length * r.aPs.length : Nat) : Int)) (by rw [lV (by have := Nat.mul_le_mul hlm hls; rw [<- Int.natCast_mul]; omega), Int.natCast_mul])) (g1 ?_)
 refine gL (d8 (ι := Option Addr × Nat) (fun _ => .tuple #[]) (fun _ => True) (fun _ => B) (fun y => (ky 0 23, .slice y.1 0 y.2) :: H) (fun y => (2, ⟨.slice y.1 0 y.2, 80, 2, 0, []⟩) :: S) dE kR rfl (fun w_ s_ => (sP (m := r.aPr.length * r.aPs.length) st.hB st.h23 st.hS2 htn (Nat.le_trans (Nat.mul_le_mul hlm hls) dE) w_ s_).mono fun e w' ⟨p, c, h1, h2⟩ => ⟨(p, c), trivial, h1, h2⟩) (fun | (p0, c0), _ => g16 ?_))
 refine g1 ?_
 have hbound : r.aPr.length * r.aPs.length <= 10000 := Nat.le_trans (Nat.mul_le_mul hlm hls) dE
 refine aY (ι := (Nat) × (Option Addr) × (Nat) × (Nat) × (List Value) × (List Int)) (fun | ⟨j, q, e, n, xs, ll⟩ => r.aPr.length - j) (fun | ⟨j, q, e, n, xs, ll⟩ => (j <= r.aPr.length) /\ (ll = (r.aPr.take j).flatMap (fun m => r.aPs.map fun sc => s.h * 3600 + m * 60 + sc)) /\ (n = ll.length) /\ (xs = bS ll) /\ (n <= j * r.aPs.length)) (fun | ⟨j, q, e, n, xs, ll⟩ => [(0, .pointer (some ⟨it, 7, none⟩)), (1, .pointer (some ⟨it, 23, none⟩)), (2, iV (r.aP2)), (3, iV (s.h)), (4, iV (s.mi)), (5, iV (s.s)), (48, .slice l.p55 r.aPr.length l.c55), (49, iV (r.aPr.length)), (50, iV j)]) (fun _ => B) (fun | ⟨j, q, e, n, xs, ll⟩ => (ky 0 23, .slice q n e) :: H) (fun | ⟨j, q, e, n, xs, ll⟩ => (2, ⟨.slice q n e, 80, 2, n, xs⟩) :: S) ⟨0, p0, c0, 0, [], []⟩ ⟨Nat.zero_le _, rfl, rfl, rfl, Nat.zero_le _⟩ kns (fun w s => by exact s) ?_
 rintro ⟨j, q, e, n, xs, ll⟩ ⟨hj, hl, hn, hxs, hb⟩
 refine dS ?_
 refine g6 ?_
 refine aB rfl (fun hc1 => ?_) (fun hc2 => ?_)
 .have hlt_j : j < r.aPr.length := by have := oT hc1; omega
  obtain ⟨m, hx_m⟩ : ∃ y, r.aPr[j]? = some y := ⟨_, List.getElem?_eq_getElem hlt_j⟩
  refine cQ (fun w s => (st.hI55.to aG).head s oM) fun hh_ => ?_
  obtain ⟨b_m, o_m, hp_m⟩ := hh_
  have src_m := st.hI55
  rw [hp_m] at src_m
  have hjP : j * r.aPs.length + r.aPs.length <= r.aPr.length * r.aPs.length := by rw [<- Nat.succ_mul]; exact Nat.mul_le_mul_right _ hlt_j
  have hmr := hr.aPr m (List.mem_of_getElem? hx_m)
  refine g6 ?_
  refine rl (aC (e := 3) (n := 1) kR (congrArg (fun p => some (Value.slice p _ _)) hp_m) rfl oM oM) (rl (dT kR rfl (fun w s => src_m.cell hx_m aG s)) (g16 ?_))
  refine g1 ?_
  refine aY (ι := (Nat) × (Option Addr) × (Nat) × (Nat) × (List Value) × (List Int)) (fun | ⟨k, q2, e2, n2, xs2, l2⟩ => r.aPs.length - k) (fun | ⟨k, q2, e2, n2, xs2, l2⟩ => (k <= r.aPs.length) /\ (l2 = ll ++ (r.aPs.take k).map (fun sc => s.h * 3600 + m * 60 + sc)) /\ (n2 = l2.length) /\ (xs2 = bS l2) /\ (n2 <= j * r.aPs.length + k)) (fun | ⟨k, q2, e2, n2, xs2, l2⟩ => [(0, .pointer (some ⟨it, 7, none⟩)), (1, .pointer (some ⟨it, 23, none⟩)), (2, iV (r.aP2)), (3, iV (s.h)), (4, iV (s.mi)), (5, iV (s.s)), (13, iV m), (48, .slice l.p55 r.aPr.length l.c55), (49, iV (r.aPr.length)), (50, iV j), (60, .slice l.p56 r.aPs.length l.c56), (61, iV (r.aPs.length)), (62, iV k)]) (fun _ => B) (fun | ⟨k, q2, e2, n2, xs2, l2⟩ => (ky 0 23, .slice q2 n2 e2) :: H) (fun | ⟨k, q2, e2, n2, xs2, l2⟩ => (2, ⟨.slice q2 n2 e2, 80, 2, n2, xs2⟩) :: S) ⟨0, q, e, n, xs, ll⟩ ⟨Nat.zero_le _, by simp, hn, hxs, by omega⟩ kns (fun w s => by exact s) ?_
  rintro ⟨k, q2, e2, n2, xs2, l2⟩ ⟨hk, hl2, hn2, hxs2, hb2⟩
  refine dS ?_
  refine g6 ?_
  refine aB rfl (fun hc1 => ?_) (fun hc2 => ?_)
  .have hlt_k : k < r.aPs.length := by have := oT hc1; omega
   obtain ⟨sc, hx_sc⟩ : ∃ y, r.aPs[k]? = some y := ⟨_, List.getElem?_eq_getElem hlt_k⟩
   refine cQ (fun w s => (st.hI56.to aG).head s oM) fun hh_ => ?_
   obtain ⟨b_sc, o_sc, hp_sc⟩ := hh_
   have src_sc := st.hI56
   rw [hp_sc] at src_sc
   have hsr := hr.aPs sc (List.mem_of_getElem? hx_sc)
   refine g6 ?_
   refine rl (aC (e := 3) (n := 1) kR (congrArg (fun p => some (Value.slice p _ _)) hp_sc) rfl oM oM) (rZ3 (dT kR rfl (fun w s => src_sc.cell hx_sc aG s)) ?_)
   refine jY (fun i => i == 19) kR (gr 0 rfl (bC rfl) (gr 1 rfl (bC rfl) (gr 2 rfl (bW rfl) (gr 3 rfl (rld 0 rfl st.hB rfl) ?_))))
   refine gr 4 rfl (bC rfl) (gr 5 rfl (bC rfl) (gr 6 rfl (bC rfl) (gr 7 rfl (bC rfl) (gr 8 rfl (bW rfl) ?_))))
   refine gr 9 rfl (rfa 0) (gr 10 rfl (rld 0 rfl st.hB st.h7) (gr 11 rfl (bW rfl) (gr 12 rfl (rfa 39) (gr 13 rfl (aW 1 rfl st.hR st.r39 st.r40 kR dE) ?_))))
   refine gn 14 rfl (cvo rfl (fun w_ s_ => dR _ _ w_) (gk (gn 15 rfl (cvo (v := .agg #[iV (s.h * 3600 + m * 60 + sc), iV 0]) rfl (fun w_ s_ => (cV 1 1 1 _ _ _ 0 oM oM oM oM oM oM oM w_).mT (cRr (by rw [show Cal.dayNo 1 1 1 = 0 from rfl, show (0 : Int) * 86400 + s.h * 3600 + m * 60 + sc = s.h * 3600 + m * 60 + sc by omega]))) (gk (gn 16 rfl (dB 60 (e := 80) (sz := 2) (by_ := 16) (zs := [iV 0, iV 0]) dE kR rfl dE dE rfl rfl rfl (fun bo => gk (gn 17 rfl (cW 2 60 (e := 80) (sz := 2) (by_ := 16) (zs := [iV 0, iV 0]) dE kR rfl dE rfl rfl rfl rfl ⟨rfl, rfl⟩ ⟨rfl, rfl⟩ aA7 sO sO (fun q3 e3 => gk (gn 18 rfl (gI dE (bW rfl) (gk ?_))))))))))))))
   refine gn 19 rfl (sto 0 rfl rfl st.hB rfl (gk (fM kR ?_)))
   refine g6 ?_
   refine aN ⟨k + 1, q3, e3, n2 + 1, xs2 ++ [iV (s.h * 3600 + m * 60 + sc), iV 0], l2 ++ [s.h * 3600 + m * 60 + sc]⟩ sO ⟨by omega, by rw [hl2, List.take_add_one, hx_sc]; simp only [Option.toList_some, List.map_append, List.map_cons, List.map_nil, List.append_assoc], by rw [List.length_append, hn2]; rfl, by rw [hxs2]; exact fT _ _, by omega⟩ kns (fun w s => by exact (s.low 40 ((st.lim.aPh dE dE).aPi dE) agx agx agx))
  .have hge_k : ¬ k < r.aPs.length := by have := oF hc2; omega
   obtain rfl : k = r.aPs.length := by omega
   refine g10 ?_
   refine aN ⟨j + 1, q2, e2, n2, xs2, l2⟩ sO ⟨by omega, by rw [hl2, hl, List.take_add_one, hx_m]; simp only [Option.toList_some, List.flatMap_append, List.flatMap_cons, List.flatMap_nil, List.append_nil]; rw [List.take_length], hn2, hxs2, by rw [Nat.succ_mul]; omega⟩ kns (fun w s => by exact (s.low 40 ((st.lim.aPh dE dE).aPi dE) agx agx agx))
 .have hge_j : ¬ j < r.aPr.length := by have := oF hc2; omega
  obtain rfl : j = r.aPr.length := by omega
  rw [List.take_length] at hl
  subst hn hxs
  refine g9 ?_
  refine rl ((iR (r := .iface 141 (.slice q ll.length e)) rfl kW)) (gL (d8 (ι := Unit) (fun _ => .tuple #[]) (fun _ => True) (fun _ => B) (fun _ => (ky 0 23, .slice q ll.length e) :: H) (fun _ => (2, ⟨.slice q ll.length e, 80, 2, ll.length, (bS (eM ll))⟩) :: (2, ⟨.slice q ll.length e, 80, 2, ll.length, (bS ll)⟩) :: S) dE kR rfl (fun w_ s_ => (o6 (t := 2) (ts := ll) dE oM (((st.lim.mono dE).aPh dE dE).aPi dE) rfl w_ s_).mono fun e_ w2_ h_ => ⟨(), trivial, h_.1, h_.2⟩) (fun _ _ => g2 ?_)))
  have hF : Md.fill r s = eM ll := by unfold Md.fill nV; rw [if_pos hfr, hl]; simp
  have hlen : (eM ll).length = ll.length := by unfold eM; rw [List.length_mergeSort]
  rw [hF, hlen]
  exact fI (by first | exact .inl rfl | exact .inr rfl) rfl fun w s => ⟨_, _, rfl, s.low 40 ((st.lim.aPh dE dE).aPi dE) agx agx agx⟩
theorem Sees.reS {F : Nat -> Prop} {w0 w : World} {B : LN} {H : LV} {S : LS} {k : Nat} {q q' : Slc} (s : Sees F w0 B H ((k, q) :: (k, q') :: S) w) : Sees F w0 B H ((k, q) :: S) w :=
 s.to (fun _ _ h => h) (fun k o v ho h => ⟨h, by obtain ⟨b, e, _⟩ := s.cells k o v ho h; rw [e]; rfl⟩) (fun j u hj => by
  by_cases e : j = k
  .subst e; rw [bJ] at hj ⊢; exact hj
  .rw [aA e] at hj ⊢; rw [aA e]; exact hj)
theorem lX {n : Nat} {is : List Int} {i : Int} {o : Nat} (h : o = i.toNat) : ((gN (dU n) is).map iV).set o (iV 1) = (gN (dU n) (is ++ [i])).map iV := by rw [aHb, List.map_set, h]
theorem kA {α : Type} {l : List α} {k : Nat} {x : α} (h : l[k]? = some x) : l.take (k + 1) = l.take k ++ [x] := by rw [List.take_add_one, h]; rfl
theorem aNv {Q : Exit -> Act -> World -> Prop} {V : LV} (hV : VOk V) {S0 : LS} {H0 : LV} {r : Ru} {l : Ra} {it rb : Nat} {s : It} {a : Ad} (st : St F w0 S0 H0 it rb r l s a B ((ky 0 9, iV s.lm) :: (ky 0 8, iV s.ly) :: (V ++ H)) S) (hy : 1 <= s.ly /\ s.ly <= 9999) (hea : r.easF s.ly = uJ r.aPy s.ly) (heb : ∀ x ∈ r.aPy, -80 <= x /\ x <= 200) (hold : r.aPy.length = 0 -> s.eas = [])
  (hn : ∀ a' H' S', St F w0 S0 H0 it rb r l { s with eas := r.easF s.ly } a' B ((ky 0 9, iV s.lm) :: (ky 0 8, iV s.ly) :: (V ++ H')) S' -> Kp H' H -> GE Q .normal 638 [(0, .pointer (some ⟨it, 7, none⟩)), (1, iV (s.ly)), (2, iV (s.lm))] F w0 B H' S') : GC Tryz.prog (Go.Fr.part [1, 1, 0] (Go.Fr.bodyOf Tryz.f74)) Q 638 [(0, .pointer (some ⟨it, 7, none⟩)), (1, iV (s.ly)), (2, iV (s.lm))] F w0 B H S := by
 have m0_7 := (eV hV dE dE dE dE).symm.trans st.h7
 have m0_10 := (eV hV dE dE dE dE).symm.trans st.h10
 have m0_14 := (eV hV dE dE dE dE).symm.trans st.h14
 have m0_16 := (eV hV dE dE dE dE).symm.trans st.h16
 have m0_19 := (eV hV dE dE dE dE).symm.trans st.h19
 have m0_20 := (eV hV dE dE dE dE).symm.trans st.h20
 have m0_21 := (eV hV dE dE dE dE).symm.trans st.h21
 have m0_22 := (eV hV dE dE dE dE).symm.trans st.h22
 have m1_38 := (dI hV dE dE).symm.trans st.r38
 have m1_39 := (dI hV dE dE).symm.trans st.r39
 have m1_40 := (dI hV dE dE).symm.trans st.r40
 have m1_42 := (dI hV dE dE).symm.trans st.r42
 have m1_47 := (dI hV dE dE).symm.trans st.r47
 have m1_51 := (dI hV dE dE).symm.trans st.r51
 have m1_53 := (dI hV dE dE).symm.trans st.r53
 have m1_57 := (dI hV dE dE).symm.trans st.r57
 have hny := aAs s.ly
 have hlp := Cal.lp_01 s.ly
 have hey := aIk s.ly
 have hed := aKl s.ly
 have hep := yH s.ly
 have hl57 := st.hl57
 have hd0 : 0 <= Cal.daysTo s.ly /\ Cal.daysTo s.ly <= 4000000 := by unfold Cal.daysTo; omega
 refine g10 ?_
 by_cases hz : r.aPy.length ≠ 0
 .refine rl ((cF rfl rfl).to (v' := .bool true) (cB (iW oM))) (g2 ?_)
  refine bK rfl rfl ?_
  refine g7 ?_
  refine rl ((gQ rfl rfl oM).to (v' := iV (((nY s.ly : Nat) : Int))) (congrArg (Value.int .i64) (oM))) (gL (uB 10 (e := 3) (by_ := 8) (n := (nY s.ly)) dE kR rfl rfl oM oM (fun bz => g2 ?_)))
  refine gL (sto 0 rfl rfl st.hB m0_22 (g5 ?_))
  refine gL (cvo rfl (fun w_ s_ => aA3 s.ly hy w_) (gL (cvo (v := iV (eyd s.ly + 1)) rfl (fun w_ s_ => (n6 (Cal.dayNo s.ly (eaM s.ly) (eaD s.ly) * 86400) 0 oM w_).mT (cRr (by unfold eyd; rw [Int.mul_ediv_cancel _ dE]))) (rl ((nK rfl rfl oM).to (v' := iV (eyd s.ly)) (congrArg (Value.int .i64) (oM))) (g16 ?_)))))
  refine g1 ?_
  refine aY (ι := (Nat)) (fun k => r.aPy.length - k) (fun k => (k <= r.aPy.length)) (fun k => [(0, .pointer (some ⟨it, 7, none⟩)), (1, iV (s.ly)), (2, iV (s.lm)), (35, iV (eyd s.ly)), (615, .slice l.p57 r.aPy.length l.c57), (616, iV (r.aPy.length)), (617, iV k)]) (fun k => B) (fun k => ((ky 0 22, sL bz (nY s.ly) (nY s.ly)) :: H)) (fun k => ((10, ⟨sL bz (nY s.ly) (nY s.ly), 3, 1, (nY s.ly), (gN (dU (nY s.ly)) ((r.aPy.take k).map (eyd s.ly + ·))).map iV⟩) :: S)) 0 (Nat.zero_le _) kns (fun w s => by exact by rw [List.take_zero]; exact s) ?_
  rintro k hk
  refine dS ?_
  refine g6 ?_
  refine aB rfl (fun hc1 => ?_) (fun hc2 => ?_)
  .have hlt_k : k < r.aPy.length := by have := oT hc1; omega
   obtain ⟨ex, hx_ex⟩ : ∃ y, r.aPy[k]? = some y := ⟨_, List.getElem?_eq_getElem hlt_k⟩
   refine cQ (fun w s => (st.hI57.to aG).head s oM) fun hh_ => ?_
   obtain ⟨b_ex, o_ex, hp_ex⟩ := hh_
   have src_ex := st.hI57
   rw [hp_ex] at src_ex
   have hexb := heb ex (List.mem_of_getElem? hx_ex)
   have htk : (r.aPy.take (k + 1)).map (eyd s.ly + ·) = (r.aPy.take k).map (eyd s.ly + ·) ++ [eyd s.ly + ex] := by rw [kA hx_ex, List.map_append]; rfl
   have hset : ((gN (dU (nY s.ly)) ((r.aPy.take k).map (eyd s.ly + ·))).map iV).set (0 + (eyd s.ly + ex).toNat * 1) (iV 1) = (gN (dU (nY s.ly)) ((r.aPy.take (k + 1)).map (eyd s.ly + ·))).map iV := by rw [htk]; exact lX oM
   refine g6 ?_
   refine rl (aC (e := 3) (n := 1) kR (congrArg (fun p => some (Value.slice p _ _)) hp_ex) rfl oM oM) (rl (dT kR rfl (fun w s => src_ex.cell hx_ex aG s)) (g11 ?_))
   refine rl (aC (e := 3) (n := 1) kR rfl rfl oM oM) (gL (gS 10 rfl rfl rfl rfl (by rw [List.length_map, iS, gJ]; omega) kR rfl (g7 ?_)))
   refine aN (k + 1) oM oM kns (fun w s => by exact by rw [<- hset]; exact Sees.reS s)
  .have hge_k : ¬ k < r.aPy.length := by have := oF hc2; omega
   refine g4 ?_
   have hke : k = r.aPy.length := by omega
   subst hke
   have hne : r.aPy.length ≠ 0 := by omega
   have hzl : (r.easF s.ly).length = nY s.ly := by rw [hea]; exact aDl hne _
   have hze : gN (dU (nY s.ly)) ((r.aPy.take r.aPy.length).map (eyd s.ly + ·)) = r.easF s.ly := by rw [hea, List.take_length]; unfold uJ; rw [if_neg hne]
   rw [hze]
   refine gK kns (fun w s => s) (hn { a with p22 := some ⟨bz, 0, none⟩, c22 := nY s.ly } _ _ ?_ (Kp.refl _).cons)
   have hZ : (nY s.ly) = (r.easF s.ly).length := hzl.symm
   rw [hZ]
   exact (sT st (lim := fun _ => ((aD7 hV dE st.lim).aPi dE)) (hS10 := fun _ => (fun _ => rfl)) (hp22 := fun _ => (fun _ => ⟨bz, rfl⟩)) (frH := fun _ => (fun k_ h1_ h2_ o_ ho_ => (lkF hV dE oM ho_).trans (st.frH k_ h1_ h2_ o_ ho_))))
 .refine rl ((cF rfl rfl).to (v' := .bool false) (cB (jA oM))) (g2 ?_)
  refine aU rfl rfl ?_
  refine g1 ?_
  refine gK kns (fun w s => s) (hn a H S ?_ (Kp.refl _))
  have hz : r.aPy.length = 0 := by omega
  have he : { s with eas := r.easF s.ly } = s := by rw [hea]; unfold uJ; rw [if_pos hz, <- hold hz]
  rw [he]; exact st
end
end Go.Proofs.YthomapgobmdicaaGreat
