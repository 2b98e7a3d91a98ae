/-
  THE OPERATIONS OF binary64 ON POSITIVE NUMBERS OF MIDDLE SIZE. By an AI agent.
-/
import Derived.Test.Qxb6602634aFlA
namespace Go.Proofs.Qxb6602634a.Fl
open Ieee
set_option linter.unusedVariables false

/-- One, in units. -/
def K : Nat := (2 ^ 179) ^ 6
def LO : Nat := (2 ^ 200) ^ 4
def HI : Nat := (2 ^ 200) ^ 7
theorem K_pow : ∃ q : Nat, q = 1074 ∧ K = 2 ^ q := ⟨179 * 6, by decide, (Nat.pow_mul 2 179 6).symm⟩
theorem LO_pow : ∃ q : Nat, q = 800 ∧ LO = 2 ^ q := ⟨200 * 4, by decide, (Nat.pow_mul 2 200 4).symm⟩
theorem HI_pow : ∃ q : Nat, q = 1400 ∧ HI = 2 ^ q := ⟨200 * 7, by decide, (Nat.pow_mul 2 200 7).symm⟩
theorem K_pos : 0 < K := by obtain ⟨q, _, h⟩ := K_pow; rw [h]; exact Nat.two_pow_pos _
theorem LO_pos : 0 < LO := by obtain ⟨q, _, h⟩ := LO_pow; rw [h]; exact Nat.two_pow_pos _

/-- A number of 'N' units is of middle size. -/
def Ok (N : Nat) : Prop := LO ≤ N ∧ N ≤ HI

theorem lo52 : 2 ^ 52 ≤ LO := by obtain ⟨q, hq, h⟩ := LO_pow; rw [h]; exact Nat.pow_le_pow_right (by decide) (by omega)
theorem add_top {a b : Nat} (ha : a ≤ HI) (hb : b ≤ HI) : ∃ z, z ≤ 2000 ∧ a + b ≤ 2 ^ z := by
  obtain ⟨q, hq, h⟩ := HI_pow
  refine ⟨q + 1, by omega, ?_⟩
  rw [Nat.pow_succ, ← h]; omega

theorem le_pow_mul {a b i j k : Nat} (ha : a ≤ 2 ^ i) (hb : b ≤ 2 ^ j) (h : i + j ≤ k) : a * b ≤ 2 ^ k :=
  Nat.le_trans (Nat.mul_le_mul ha hb) (by rw [← Nat.pow_add]; exact Nat.pow_le_pow_right (by decide) h)
theorem pow_mul_le {a b i j k : Nat} (ha : 2 ^ i ≤ a) (hb : 2 ^ j ≤ b) (h : k ≤ i + j) : 2 ^ k ≤ a * b :=
  Nat.le_trans (by rw [← Nat.pow_add]; exact Nat.pow_le_pow_right (by decide) h) (Nat.mul_le_mul ha hb)
theorem mul_low {a b : Nat} (ha : LO ≤ a) (hb : LO ≤ b) : 2 ^ 52 * K ≤ a * b := by
  obtain ⟨q, hq, h⟩ := LO_pow
  obtain ⟨k, hk, h'⟩ := K_pow
  rw [h', ← Nat.pow_add]; exact pow_mul_le (h ▸ ha) (h ▸ hb) (by omega)
theorem mul_top {a b : Nat} (ha : a ≤ HI) (hb : b ≤ HI) : ∃ z, z ≤ 2000 ∧ a * b ≤ 2 ^ z * K := by
  obtain ⟨q, hq, h⟩ := HI_pow
  obtain ⟨k, hk, h'⟩ := K_pow
  refine ⟨q + q - k, by omega, ?_⟩
  rw [h', ← Nat.pow_add]; exact le_pow_mul (h ▸ ha) (h ▸ hb) (by omega)

theorem Is.pos {x N : Nat} (h : Is x N) : 0 < N := by
  obtain ⟨m, k, _, h1, _, rfl⟩ := h
  exact Nat.mul_pos (Nat.lt_of_lt_of_le (Nat.two_pow_pos 52) h1) (Nat.two_pow_pos k)

theorem pow_split (m a b : Nat) (h : b ≤ a) : m * 2 ^ (a - b) * 2 ^ b = m * 2 ^ a := by
  rw [Nat.mul_assoc, ← Nat.pow_add, Nat.sub_add_cancel h]

theorem Is.add {x y a b : Nat} (hx : Is x a) (hy : Is y b) (ha : Ok a) (hb : Ok b) : ∃ z c, double.add x y = some z ∧ Is z c ∧ Near c (a + b) 1 := by
  have apos := hx.pos
  obtain ⟨m, k, rx, m1, m2, rfl⟩ := hx
  obtain ⟨n, l, ry, n1, n2, rfl⟩ := hy
  have hb' : min ((k : Int) - 1074) ((l : Int) - 1074) = ((min k l : Nat) : Int) - 1074 := by omega
  have e1 : ((k : Int) - 1074 - (((min k l : Nat) : Int) - 1074)).toNat = k - min k l := by omega
  have e2 : ((l : Int) - 1074 - (((min k l : Nat) : Int) - 1074)).toNat = l - min k l := by omega
  have tot : (m * 2 ^ (k - min k l) + n * 2 ^ (l - min k l)) * 2 ^ (min k l) = m * 2 ^ k + n * 2 ^ l := by
    rw [Nat.add_mul, pow_split _ _ _ (Nat.min_le_left _ _), pow_split _ _ _ (Nat.min_le_right _ _)]
  generalize hT : m * 2 ^ (k - min k l) + n * 2 ^ (l - min k l) = T at tot
  have T0 : T ≠ 0 := by
    intro h; rw [h, Nat.zero_mul] at tot; omega
  have hs : (double.read x).sum (double.read y) = some (.number false T (((min k l : Nat) : Int) - 1074)) := by
    rw [rx, ry]
    simp only [Datum.sum, hb', e1, e2, signed, Nat.shiftLeft_eq, Bool.false_eq_true, if_false]
    have e3 : ((m * 2 ^ (k - min k l) : Nat) : Int) + ((n * 2 ^ (l - min k l) : Nat) : Int) = (T : Int) := by rw [← hT]; exact (Int.natCast_add _ _).symm
    rw [e3]
    simp [T0]
  obtain ⟨z, hz, htop⟩ := add_top ha.2 hb.2
  obtain ⟨U, hU, hN, _⟩ := nearest_is T (((min k l : Nat) : Int) - 1074) (m * 2 ^ k + n * 2 ^ l) 1 (min k l) 0 z T0 (by omega) (by rw [tot, Nat.pow_zero]) (by decide) (by rw [Nat.mul_one]; exact Nat.le_trans lo52 (Nat.le_trans ha.1 (Nat.le_add_right _ _))) (by rw [Nat.mul_one]; exact htop) hz
  exact ⟨_, U, by unfold Format.add; rw [hs]; rfl, hU, hN⟩

theorem Is.sub {x y a b : Nat} (hx : Is x a) (hy : Is y b) (ha : Ok a) (hlt : LO + b ≤ a) : ∃ z c, double.sub x y = some z ∧ Is z c ∧ Near c (a - b) 1 := by
  have LOp := LO_pos
  obtain ⟨m, k, rx, m1, m2, rfl⟩ := hx
  obtain ⟨n, l, ry, n1, n2, rfl⟩ := hy
  have hb' : min ((k : Int) - 1074) ((l : Int) - 1074) = ((min k l : Nat) : Int) - 1074 := by omega
  have e1 : ((k : Int) - 1074 - (((min k l : Nat) : Int) - 1074)).toNat = k - min k l := by omega
  have e2 : ((l : Int) - 1074 - (((min k l : Nat) : Int) - 1074)).toNat = l - min k l := by omega
  have t1 := pow_split m k (min k l) (Nat.min_le_left _ _)
  have t2 := pow_split n l (min k l) (Nat.min_le_right _ _)
  generalize hM : m * 2 ^ (k - min k l) = M at t1
  generalize hN' : n * 2 ^ (l - min k l) = N at t2
  have hlt' : N < M := by
    refine Nat.lt_of_mul_lt_mul_right (a := 2 ^ min k l) ?_
    omega
  have tot : (M - N) * 2 ^ (min k l) = m * 2 ^ k - n * 2 ^ l := by rw [Nat.sub_mul, t1, t2]
  have T0 : M - N ≠ 0 := by omega
  have hs : (double.read x).sum (double.read y).opposite = some (.number false (M - N) (((min k l : Nat) : Int) - 1074)) := by
    rw [rx, ry]
    simp only [Datum.opposite, Bool.not_false, Datum.sum, hb', e1, e2, signed, Nat.shiftLeft_eq, Bool.false_eq_true, if_false, if_true, hM, hN']
    have e3 : (M : Int) + -(N : Int) = ((M - N : Nat) : Int) := by omega
    rw [e3]
    simp [T0]
  obtain ⟨z, hz, htop⟩ := HI_pow
  obtain ⟨U, hU, hN, _⟩ := nearest_is (M - N) (((min k l : Nat) : Int) - 1074) (m * 2 ^ k - n * 2 ^ l) 1 (min k l) 0 z T0 (by omega) (by rw [tot, Nat.pow_zero]) (by decide) (by rw [Nat.mul_one]; exact Nat.le_trans lo52 (by omega)) (by rw [Nat.mul_one, ← htop]; exact Nat.le_trans (Nat.sub_le _ _) ha.2) (by omega)
  exact ⟨_, U, by unfold Format.sub; rw [hs]; rfl, hU, hN⟩

theorem mul_rearr (m k n l c : Nat) : m * n * 2 ^ (k + l) * c = m * 2 ^ k * (n * 2 ^ l) * c := by
  rw [Nat.pow_add]
  generalize 2 ^ k = a; generalize 2 ^ l = b; ac_rfl

theorem Is.mul {x y a b : Nat} (hx : Is x a) (hy : Is y b) (ha : Ok a) (hb : Ok b) : ∃ z c, double.mul x y = some z ∧ Is z c ∧ Near c (a * b) K ∧
    ∀ m j, a * b = m * 2 ^ j * K → 2 ^ 52 ≤ m → m < 2 ^ 53 → c = m * 2 ^ j := by
  obtain ⟨m, k, rx, m1, m2, rfl⟩ := hx
  obtain ⟨n, l, ry, n1, n2, rfl⟩ := hy
  have m0 : m ≠ 0 := by have := Nat.two_pow_pos 52; omega
  have n0 : n ≠ 0 := by have := Nat.two_pow_pos 52; omega
  have hs : (double.read x).product (double.read y) = some (.number false (m * n) ((k : Int) - 1074 + ((l : Int) - 1074))) := by
    rw [rx, ry]; rfl
  obtain ⟨z, hz, htop⟩ := mul_top ha.2 hb.2
  obtain ⟨q, hq, hK⟩ := K_pow
  obtain ⟨U, hU, hN, hE⟩ := nearest_is (m * n) ((k : Int) - 1074 + ((l : Int) - 1074)) (m * 2 ^ k * (n * 2 ^ l)) K (k + l) q z (Nat.mul_ne_zero m0 n0) (by omega) (by rw [← hK]; exact mul_rearr m k n l K)
    K_pos (mul_low ha.1 hb.1) htop hz
  exact ⟨_, U, by unfold Format.mul; rw [hs]; rfl, hU, hN, hE⟩

theorem log_of {m : Nat} (h1 : 2 ^ 52 ≤ m) (h2 : m < 2 ^ 53) : m.log2 = 52 := by
  have m0 : m ≠ 0 := by have := Nat.two_pow_pos 52; omega
  have a := (Nat.le_log2 m0).2 h1
  have b := (Nat.log2_lt m0).2 h2
  omega

theorem mul_lt_pow {a b i j : Nat} (ha : a < 2 ^ i) (hb : b ≤ 2 ^ j) : a * b < 2 ^ (i + j) := by
  rw [Nat.pow_add]
  exact Nat.lt_of_le_of_lt (Nat.mul_le_mul_left a hb) (Nat.mul_lt_mul_of_pos_right ha (Nat.two_pow_pos j))

theorem digit_err (k n g : Nat) (k1 : 2 * (k * g) ≤ 2 * n + g) (k2 : 2 * n ≤ 2 * (k * g) + g) (n1 : 4503599627370496 * g ≤ n) :
    9007199254740992 * (k * g) ≤ 9007199254740992 * n + n ∧ 9007199254740992 * n ≤ 9007199254740992 * (k * g) + n := by
  generalize k * g = P at *
  omega
theorem quo_rearr (m g a b c n : Nat) : m * g * (a * c) * (n * b) = m * a * c * (b * g) * n := by ac_rfl
theorem quo_rearr2 (b a c n : Nat) : b * a * c * n = b * n * a * c := by ac_rfl
theorem Is.div {x y a b : Nat} (hx : Is x a) (hy : Is y b) (ha : Ok a) (hb : Ok b) : ∃ z c, double.div x y = some z ∧ Is z c ∧ Near c (a * K) b := by
  obtain ⟨m, k, rx, m1, m2, rfl⟩ := hx
  obtain ⟨n, l, ry, n1, n2, rfl⟩ := hy
  obtain ⟨q, hq, hK⟩ := K_pow
  obtain ⟨lo, hlo, hLO⟩ := LO_pow
  obtain ⟨hi, hhi, hHI⟩ := HI_pow
  have n0 : n ≠ 0 := by have := Nat.two_pow_pos 52; omega
  -- the exponents
  have ek : lo < 53 + k := by
    have : 2 ^ lo < 2 ^ (53 + k) := by rw [← hLO, Nat.pow_add]; exact Nat.lt_of_le_of_lt ha.1 (Nat.mul_lt_mul_of_pos_right m2 (Nat.two_pow_pos k))
    exact (Nat.pow_lt_pow_iff_right (by decide)).1 this
  have el : lo < 53 + l := by
    have : 2 ^ lo < 2 ^ (53 + l) := by rw [← hLO, Nat.pow_add]; exact Nat.lt_of_le_of_lt hb.1 (Nat.mul_lt_mul_of_pos_right n2 (Nat.two_pow_pos l))
    exact (Nat.pow_lt_pow_iff_right (by decide)).1 this
  have fk : 52 + k ≤ hi := by
    have : 2 ^ (52 + k) ≤ 2 ^ hi := by rw [← hHI, Nat.pow_add]; exact Nat.le_trans (Nat.mul_le_mul_right _ m1) ha.2
    exact (Nat.pow_le_pow_iff_right (by decide)).1 this
  have fl : 52 + l ≤ hi := by
    have : 2 ^ (52 + l) ≤ 2 ^ hi := by rw [← hHI, Nat.pow_add]; exact Nat.le_trans (Nat.mul_le_mul_right _ n1) hb.2
    exact (Nat.pow_le_pow_iff_right (by decide)).1 this
  clear ha hb
  have hs : (double.read x).quotient 54 (double.read y) = some (.number false (2 * (m * 2 ^ 54 / n) + (m * 2 ^ 54 % n != 0).toNat) ((k : Int) - 1074 - ((l : Int) - 1074) - (54 : Nat) - 1)) := by
    rw [rx, ry]
    simp only [Datum.quotient, if_neg n0, log_of m1 m2, log_of n1 n2, Nat.shiftLeft_eq]
    rfl
  have hd : double.div x y = some (double.nearest false (2 * (m * 2 ^ 54 / n) + (m * 2 ^ 54 % n != 0).toNat) ((k : Int) - (l : Int) - 55)) := by
    unfold Format.div
    rw [frac_eq, show 52 + 2 = 54 from rfl, hs]
    have e : ((k : Int) - 1074 - ((l : Int) - 1074) - (54 : Nat) - 1) = (k : Int) - (l : Int) - 55 := by omega
    rw [e]; rfl
  have e54 : (2 : Nat) ^ 54 = 18014398509481984 := by decide
  rw [e54] at hd
  rw [e52] at m1 n1
  rw [e53] at m2 n2
  have dm := Nat.div_add_mod (m * 18014398509481984) n
  have hr := Nat.mod_lt (m * 18014398509481984) (Nat.pos_of_ne_zero n0)
  have q1 : 9007199254740992 ≤ m * 18014398509481984 / n := (Nat.le_div_iff_mul_le (Nat.pos_of_ne_zero n0)).2 (by omega)
  have q2 : m * 18014398509481984 / n < 36028797018963968 := (Nat.div_lt_iff_lt_mul (Nat.pos_of_ne_zero n0)).2 (by omega)
  generalize m * 18014398509481984 / n = Q at *
  generalize m * 18014398509481984 % n = R at *
  have eAB : m * 36028797018963968 * 2 ^ (k + q) * (n * 2 ^ l) = m * 2 ^ k * K * 2 ^ (l + 55) * n := by
    have e55 : (2 : Nat) ^ 55 = 36028797018963968 := by decide
    rw [Nat.pow_add, Nat.pow_add, e55, hK]
    exact quo_rearr m 36028797018963968 (2 ^ k) (2 ^ l) (2 ^ q) n
  by_cases h0 : R = 0
  · rw [h0] at hd dm
    have dm' : 2 * Q * n = m * 36028797018963968 := by rw [Nat.mul_assoc, Nat.mul_comm Q n]; omega
    have hz : ((0 : Nat) != 0).toNat = 0 := rfl
    rw [hz, Nat.add_zero] at hd
    have hQ : 2 * Q ≠ 0 := by omega
    obtain ⟨kk, t, s, d, hn, kl, kh, tz, hts, hsd, _, k1, k2, nn1, nn2, k3⟩ := digits (2 * Q) ((k : Int) - l - 55) hQ
      (by have := (Nat.le_log2 hQ).2 (show 2 ^ 54 ≤ 2 * Q by rw [e54]; omega); omega) (by have := (Nat.log2_lt hQ).2 (show 2 * Q < 2 ^ 56 by rw [show (2 : Nat) ^ 56 = 72057594037927936 from by decide]; omega); omega)
    have r := digit_err kk (2 * Q * 2 ^ s) (2 ^ d) k1 k2 nn1
    have e : t + (l + 55) + s = d + (k + q) := by clear hn k1 k2 nn1 nn2 kl kh k3 q1 q2 dm dm' hd r; omega
    refine ⟨_, kk * 2 ^ t, hd, by rw [hn]; exact is_of_rung t kk kl kh tz, units (k := kk) (s := s) (d := d) (p := k + q) (q := l + 55) (T := 2 * Q) (N := 1) (by decide) e ?_ (by rw [Nat.mul_one]; exact r.1) (by rw [Nat.mul_one]; exact r.2)⟩
    rw [Nat.mul_one]
    refine Nat.eq_of_mul_eq_mul_right (Nat.pos_of_ne_zero n0) ?_
    rw [← eAB, ← dm']
    exact quo_rearr2 (2 * Q) (2 ^ (k + q)) (n * 2 ^ l) n
  · have hz : (R != 0).toNat = 1 := by rw [(bne_iff_ne (a := R) (b := 0)).2 h0]; rfl
    rw [hz] at hd
    have hQ : 2 * Q + 1 ≠ 0 := by omega
    obtain ⟨U, hU, hN⟩ := nearest_sticky (2 * Q + 1) ((k : Int) - l - 55) (m * 36028797018963968) n (m * 2 ^ k * K) (n * 2 ^ l) (k + q) (l + 55) (by omega) (by omega) (by omega) (Nat.pos_of_ne_zero n0)
      (by rw [Nat.add_mul, Nat.mul_assoc, Nat.mul_comm Q n]; omega) (by rw [Nat.add_mul, Nat.mul_assoc, Nat.mul_comm Q n]; omega) eAB
      (by have := (Nat.le_log2 hQ).2 (show 2 ^ 54 ≤ 2 * Q + 1 by rw [e54]; omega); omega) (by have := (Nat.log2_lt hQ).2 (show 2 * Q + 1 < 2 ^ 56 by rw [show (2 : Nat) ^ 56 = 72057594037927936 from by decide]; omega); omega)
    exact ⟨_, U, hd, hU, hN⟩

end Go.Proofs.Qxb6602634a.Fl
