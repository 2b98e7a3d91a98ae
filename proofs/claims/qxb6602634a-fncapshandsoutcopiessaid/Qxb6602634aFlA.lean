/-
  ROUNDING IN binary64, in whole numbers: a number is told by its units of 2^-1074. By an AI agent.
-/
import Ieee.Arith
namespace Go.Proofs.Qxb6602634a.Fl
open Ieee
set_option linter.unusedVariables false

/-- 'x' is the word of a positive normal double of 'N' units of 2^-1074. -/
def Is (x N : Nat) : Prop := ∃ m k : Nat, double.read x = .number false m ((k : Int) - 1074) ∧ 2 ^ 52 ≤ m ∧ m < 2 ^ 53 ∧ N = m * 2 ^ k

theorem binade_eq : double.binade = 4503599627370496 := by decide
theorem infRung_eq : double.infRung = 9218868437227405312 := by decide
theorem signWeight_eq : double.signWeight = 9223372036854775808 := by decide
theorem leastPlace_eq : double.leastPlace = -1074 := by decide

theorem frac_eq : double.fractionBits = 52 := rfl
theorem word_false (n : Nat) : double.word false n = n := by simp [Format.word]
theorem nearest_def (mag : Nat) (place : Int) (h0 : mag ≠ 0) (last : Int) (h : last = max (place + mag.log2 - 52) (-1074)) : double.nearest false mag place = min ((last + 1074).toNat * 4503599627370496 + Toward.even.cut false (mag <<< (place - last).toNat) (last - place).toNat) 9218868437227405312 := by
  unfold Format.nearest
  simp only [if_neg h0, leastPlace_eq, binade_eq, infRung_eq, word_false, frac_eq]
  rw [show ((52 : Nat) : Int) = 52 from rfl, ← h, show last - -1074 = last + 1074 from by omega]

theorem read_eq (x : Nat) (h : x < 9223372036854775808) (h1 : 4503599627370496 ≤ x) (h2 : x < 9218868437227405312) :
    double.read x = .number false (4503599627370496 + x % 4503599627370496) (-1074 + ((x / 4503599627370496 - 1 : Nat) : Int)) := by
  unfold Format.read
  rw [binade_eq, infRung_eq, signWeight_eq, leastPlace_eq]
  have e1 : x / 9223372036854775808 = 0 := by omega
  have e2 : x % 9223372036854775808 = x := by omega
  simp only [e1, e2]
  rw [if_neg (by omega), if_pos h2]
  rfl

/-- what 'cut' does where it does not drop all. -/
theorem cut_even (neg : Bool) (n d : Nat) (h : d ≤ n.log2 + 2) :
    ∃ k, Toward.even.cut neg n d = k ∧ 2 * (k * 2 ^ d) ≤ 2 * n + 2 ^ d ∧ 2 * n ≤ 2 * (k * 2 ^ d) + 2 ^ d ∧ (2 ^ d ∣ n → k * 2 ^ d = n) := by
  refine ⟨_, rfl, ?_⟩
  unfold Toward.cut
  rw [Nat.min_eq_left h, Nat.one_shiftLeft]
  simp only
  have hg : 0 < 2 ^ d := Nat.two_pow_pos d
  generalize 2 ^ d = g at hg
  have e := Nat.div_add_mod n g
  have hr := Nat.mod_lt n hg
  have e' : n / g * g = g * (n / g) := Nat.mul_comm _ _
  generalize hq : n / g = q at *
  generalize hm : n % g = r at *
  have hdvd : g ∣ n → r = 0 := fun hd => by rw [← hm]; exact Nat.mod_eq_zero_of_dvd hd
  by_cases c : (decide (g < 2 * r) || g == 2 * r && q % 2 == 1) = true
  · rw [c]
    simp only [Bool.toNat_true, Nat.add_mul, Nat.one_mul]
    have : g ≤ 2 * r := by
      simp at c; omega
    refine ⟨by omega, by omega, fun hd => ?_⟩
    have := hdvd hd
    omega
  · have c' : (decide (g < 2 * r) || g == 2 * r && q % 2 == 1) = false := by simpa using c
    rw [c']
    simp only [Bool.toNat_false, Nat.add_zero]
    have : 2 * r ≤ g := by
      simp at c; omega
    refine ⟨by omega, by omega, fun hd => ?_⟩
    have := hdvd hd
    omega

theorem is_of_rung (t k : Nat) (h1 : 4503599627370496 ≤ k) (h2 : k ≤ 9007199254740992) (ht : t ≤ 2000) :
    Is (t * 4503599627370496 + k) (k * 2 ^ t) := by
  by_cases c : k = 9007199254740992
  · subst c
    refine ⟨4503599627370496, t + 1, ?_, by decide, by decide, ?_⟩
    · rw [read_eq _ (by omega) (by omega) (by omega)]
      have e1 : 4503599627370496 + (t * 4503599627370496 + 9007199254740992) % 4503599627370496 = 4503599627370496 := by omega
      have e2 : -1074 + (((t * 4503599627370496 + 9007199254740992) / 4503599627370496 - 1 : Nat) : Int) = ((t + 1 : Nat) : Int) - 1074 := by omega
      rw [e1, e2]
    · rw [Nat.pow_succ]
      generalize 2 ^ t = p
      omega
  · refine ⟨k, t, ?_, h1, by omega, rfl⟩
    rw [read_eq _ (by omega) (by omega) (by omega)]
    have e1 : 4503599627370496 + (t * 4503599627370496 + k) % 4503599627370496 = k := by omega
    have e2 : -1074 + (((t * 4503599627370496 + k) / 4503599627370496 - 1 : Nat) : Int) = ((t : Nat) : Int) - 1074 := by omega
    rw [e1, e2]

theorem pow_cmp {m n a p d : Nat} (h1 : 2 ^ 52 ≤ m) (h2 : m < 2 ^ 53) (h3 : 2 ^ (52 + d) ≤ n) (h4 : n < 2 ^ (53 + d)) (h : m * 2 ^ a = n * 2 ^ p) : a = d + p := by
  have pa := Nat.two_pow_pos a
  have pp := Nat.two_pow_pos p
  have l1 : 2 ^ (52 + a) < 2 ^ (53 + d + p) := by
    rw [Nat.pow_add 2 52 a, Nat.pow_add 2 (53 + d) p]
    calc 2 ^ 52 * 2 ^ a ≤ m * 2 ^ a := Nat.mul_le_mul_right _ h1
      _ = n * 2 ^ p := h
      _ < 2 ^ (53 + d) * 2 ^ p := Nat.mul_lt_mul_of_pos_right h4 pp
  have l2 : 2 ^ (52 + d + p) < 2 ^ (53 + a) := by
    rw [Nat.pow_add 2 53 a, Nat.pow_add 2 (52 + d) p]
    calc 2 ^ (52 + d) * 2 ^ p ≤ n * 2 ^ p := Nat.mul_le_mul_right _ h3
      _ = m * 2 ^ a := h.symm
      _ < 2 ^ 53 * 2 ^ a := Nat.mul_lt_mul_of_pos_right h2 pa
  have := (Nat.pow_lt_pow_iff_right (by decide)).1 l1
  have := (Nat.pow_lt_pow_iff_right (by decide)).1 l2
  omega

theorem e52 : (2 : Nat) ^ 52 = 4503599627370496 := by decide
theorem e53 : (2 : Nat) ^ 53 = 9007199254740992 := by decide
theorem p52 (d : Nat) : 2 ^ (52 + d) = 4503599627370496 * 2 ^ d := by rw [Nat.pow_add, e52]
theorem p53 (d : Nat) : 2 ^ (53 + d) = 9007199254740992 * 2 ^ d := by rw [Nat.pow_add, e53]

theorem rung_min (t k : Nat) (ht : t ≤ 2000) (hk : k ≤ 9007199254740992) : min (t * 4503599627370496 + k) 9218868437227405312 = t * 4503599627370496 + k := Nat.min_eq_left (by omega)
theorem carry1 {M x y c e X Y : Nat} (pos : 0 < e) (hx : x * c = X * e) (hy : y * c = Y * e) (h : M * x ≤ M * y + y) : M * X ≤ M * Y + Y := by
  refine Nat.le_of_mul_le_mul_right ?_ pos
  have := Nat.mul_le_mul_right c h
  rw [Nat.add_mul, Nat.mul_assoc, Nat.mul_assoc M y, hx, hy] at this
  rw [Nat.add_mul, Nat.mul_assoc, Nat.mul_assoc M Y]
  exact this
theorem carry2 {M x y c e X Y : Nat} (pos : 0 < e) (hx : x * c = X * e) (hy : y * c = Y * e) (h : M * y ≤ M * x + y) : M * Y ≤ M * X + Y := by
  refine Nat.le_of_mul_le_mul_right ?_ pos
  have := Nat.mul_le_mul_right c h
  rw [Nat.add_mul, Nat.mul_assoc, Nat.mul_assoc M x, hx, hy] at this
  rw [Nat.add_mul, Nat.mul_assoc, Nat.mul_assoc M X]
  exact this

/-- THE DIGITS THAT 'nearest' KEEPS. 'm / n' is the number before '2 ^ place' (for a plain number n = 1). -/
theorem digits (mag : Nat) (place : Int) (h0 : mag ≠ 0) (h1 : -1022 ≤ place + mag.log2) (h2 : place + mag.log2 ≤ 926) :
    ∃ k t s d : Nat, double.nearest false mag place = t * 4503599627370496 + k ∧ 4503599627370496 ≤ k ∧ k ≤ 9007199254740992 ∧ t ≤ 2000 ∧
      (t : Int) + s = place + 1074 + d ∧ mag.log2 + s = 52 + d ∧ (s = 0 ∨ d = 0) ∧ 2 * (k * 2 ^ d) ≤ 2 * (mag * 2 ^ s) + 2 ^ d ∧ 2 * (mag * 2 ^ s) ≤ 2 * (k * 2 ^ d) + 2 ^ d ∧
      4503599627370496 * 2 ^ d ≤ mag * 2 ^ s ∧ mag * 2 ^ s < 9007199254740992 * 2 ^ d ∧ (2 ^ d ∣ mag * 2 ^ s → k * 2 ^ d = mag * 2 ^ s) := by
  have g1 := Nat.log2_self_le h0
  have g2 := @Nat.lt_log2_self mag
  generalize hlg : mag.log2 = lg at *
  obtain ⟨t, ht⟩ : ∃ t : Nat, (t : Int) = place + lg - 52 + 1074 := ⟨(place + lg - 52 + 1074).toNat, by omega⟩
  have tz : t ≤ 2000 := by omega
  obtain ⟨s, d, hs, hd, hsd⟩ : ∃ s d : Nat, (52 - (lg : Int)).toNat = s ∧ ((lg : Int) - 52).toNat = d ∧ lg + s = 52 + d := ⟨_, _, rfl, rfl, by omega⟩
  have hz : s = 0 ∨ d = 0 := by omega
  have hts : (t : Int) + s = place + 1074 + d := by omega
  have hn : double.nearest false mag place = min (t * 4503599627370496 + Toward.even.cut false (mag * 2 ^ s) d) 9218868437227405312 := by
    rw [nearest_def mag place h0 (place + lg - 52) (by rw [hlg]; omega)]
    have e2 : (place - (place + (lg : Int) - 52)).toNat = s := by omega
    have e3 : (place + (lg : Int) - 52 - place).toNat = d := by omega
    have e4 : (place + (lg : Int) - 52 + 1074).toNat = t := by omega
    rw [e2, e3, e4, Nat.shiftLeft_eq]
  have ps := Nat.two_pow_pos s
  have pd := Nat.two_pow_pos d
  have n1 : 2 ^ (52 + d) ≤ mag * 2 ^ s := by
    rw [← hsd, Nat.pow_add]; exact Nat.mul_le_mul_right _ g1
  have n2 : mag * 2 ^ s < 2 ^ (53 + d) := by
    have : 53 + d = lg + 1 + s := by omega
    rw [this, Nat.pow_add 2 (lg + 1)]; exact Nat.mul_lt_mul_of_pos_right g2 ps
  have hlog : d ≤ (mag * 2 ^ s).log2 + 2 := by
    have : 52 + d ≤ (mag * 2 ^ s).log2 := (Nat.le_log2 (by have := Nat.two_pow_pos (52 + d); omega)).2 n1
    omega
  obtain ⟨k, hk, k1, k2, k3⟩ := cut_even false (mag * 2 ^ s) d hlog
  rw [hk] at hn
  rw [p52] at n1
  rw [p53] at n2
  have kl : 4503599627370496 ≤ k := by
    rcases Nat.lt_or_ge k 4503599627370496 with h' | h'
    · have := Nat.mul_le_mul_right (2 ^ d) (show k + 1 ≤ 4503599627370496 from h')
      rw [Nat.add_mul] at this
      omega
    · exact h'
  have kh : k ≤ 9007199254740992 := by
    rcases Nat.lt_or_ge 9007199254740992 k with h' | h'
    · have := Nat.mul_le_mul_right (2 ^ d) (show 9007199254740992 + 1 ≤ k from h')
      rw [Nat.add_mul] at this
      omega
    · exact h'
  have hn' : double.nearest false mag place = t * 4503599627370496 + k := by
    rw [hn]; exact rung_min t k tz kh
  exact ⟨k, t, s, d, hn', kl, kh, tz, hts, hsd, hz, k1, k2, n1, n2, k3⟩

/-- 'U' is 'A / B' rounded: off by at most 2^-53 of it. -/
def Near (U A B : Nat) : Prop := 9007199254740992 * (U * B) ≤ 9007199254740992 * A + A ∧ 9007199254740992 * A ≤ 9007199254740992 * (U * B) + A

/-- What lies behind the digits: 'T / N' is the number before '2 ^ place'; 'A / B' the number in units. -/
theorem units {k t s d p q T N A B : Nat} (hN : 0 < N) (e : t + q + s = d + p) (hAB : T * 2 ^ p * B = A * 2 ^ q * N)
    (r1 : 9007199254740992 * (k * 2 ^ d * N) ≤ 9007199254740992 * (T * 2 ^ s) + T * 2 ^ s) (r2 : 9007199254740992 * (T * 2 ^ s) ≤ 9007199254740992 * (k * 2 ^ d * N) + T * 2 ^ s) :
    Near (k * 2 ^ t) A B := by
  have pq := Nat.two_pow_pos q
  have ps := Nat.two_pow_pos s
  have hpow : 2 ^ t * 2 ^ q * 2 ^ s = 2 ^ d * 2 ^ p := by rw [← Nat.pow_add, ← Nat.pow_add, ← Nat.pow_add, e]
  have eU : k * 2 ^ d * N * (2 ^ p * B) = k * 2 ^ t * B * (2 ^ q * 2 ^ s * N) := by
    calc k * 2 ^ d * N * (2 ^ p * B) = k * (2 ^ d * 2 ^ p) * (N * B) := by
          generalize 2 ^ d = x; generalize 2 ^ p = y; ac_rfl
      _ = k * (2 ^ t * 2 ^ q * 2 ^ s) * (N * B) := by rw [hpow]
      _ = k * 2 ^ t * B * (2 ^ q * 2 ^ s * N) := by
          generalize 2 ^ t = x; generalize 2 ^ q = y; generalize 2 ^ s = z; ac_rfl
  have eA : T * 2 ^ s * (2 ^ p * B) = A * (2 ^ q * 2 ^ s * N) := by
    calc T * 2 ^ s * (2 ^ p * B) = T * 2 ^ p * B * 2 ^ s := by
          generalize 2 ^ s = x; generalize 2 ^ p = y; ac_rfl
      _ = A * 2 ^ q * N * 2 ^ s := by rw [hAB]
      _ = A * (2 ^ q * 2 ^ s * N) := by
          generalize 2 ^ q = x; generalize 2 ^ s = y; ac_rfl
  have pos : 0 < 2 ^ q * 2 ^ s * N := Nat.mul_pos (Nat.mul_pos pq ps) hN
  exact ⟨carry1 pos eU eA r1, carry2 pos eU eA r2⟩

/-- the exponent's bounds out of the bounds on 'A / B' (in whole numbers: 'lo' below, 'hi' above) -/
theorem expo {mag p q A B lg z : Nat} (g1 : 2 ^ lg ≤ mag) (g2 : mag < 2 ^ (lg + 1)) (hB : 0 < B) (hAB : mag * 2 ^ p * B = A * 2 ^ q) (hlo : 2 ^ 52 * B ≤ A) (hhi : A ≤ 2 ^ z * B) :
    52 + q < lg + 1 + p ∧ lg + p ≤ z + q := by
  have pp := Nat.two_pow_pos p
  have pq := Nat.two_pow_pos q
  constructor
  · have : 2 ^ (52 + q) * B < 2 ^ (lg + 1 + p) * B := by
      rw [Nat.pow_add, Nat.pow_add 2 (lg + 1)]
      calc 2 ^ 52 * 2 ^ q * B = 2 ^ 52 * B * 2 ^ q := Nat.mul_right_comm _ _ _
        _ ≤ A * 2 ^ q := Nat.mul_le_mul_right _ hlo
        _ = mag * 2 ^ p * B := hAB.symm
        _ < 2 ^ (lg + 1) * 2 ^ p * B := Nat.mul_lt_mul_of_pos_right (Nat.mul_lt_mul_of_pos_right g2 pp) hB
    exact (Nat.pow_lt_pow_iff_right (by decide)).1 (Nat.lt_of_mul_lt_mul_right this)
  · have : 2 ^ (lg + p) * B ≤ 2 ^ (z + q) * B := by
      rw [Nat.pow_add, Nat.pow_add 2 z]
      calc 2 ^ lg * 2 ^ p * B ≤ mag * 2 ^ p * B := Nat.mul_le_mul_right _ (Nat.mul_le_mul_right _ g1)
        _ = A * 2 ^ q := hAB
        _ ≤ 2 ^ z * B * 2 ^ q := Nat.mul_le_mul_right _ hhi
        _ = 2 ^ z * 2 ^ q * B := Nat.mul_right_comm _ _ _
    exact (Nat.pow_le_pow_iff_right (by decide)).1 (Nat.le_of_mul_le_mul_right this hB)

/-- THE ROUNDING: the exact number is A / B units. -/
theorem nearest_is (mag : Nat) (place : Int) (A B p q z : Nat) (h0 : mag ≠ 0) (hpq : (p : Int) - q = place + 1074)
    (hAB : mag * 2 ^ p * B = A * 2 ^ q) (hB : 0 < B) (hlo : 2 ^ 52 * B ≤ A) (hhi : A ≤ 2 ^ z * B) (hz : z ≤ 2000) :
    ∃ U, Is (double.nearest false mag place) U ∧ Near U A B ∧ ∀ m j, A = m * 2 ^ j * B → 2 ^ 52 ≤ m → m < 2 ^ 53 → U = m * 2 ^ j := by
  have ⟨c1, c2⟩ := expo (Nat.log2_self_le h0) (@Nat.lt_log2_self mag) hB hAB hlo hhi
  obtain ⟨k, t, s, d, hn, kl, kh, tz, hts, hsd, _, k1, k2, n1, n2, k3⟩ := digits mag place h0 (by omega) (by omega)
  have e : t + q + s = d + p := by clear hn k1 k2 n1 n2 kl kh k3; omega
  have pp := Nat.two_pow_pos p
  have pq := Nat.two_pow_pos q
  have ps := Nat.two_pow_pos s
  refine ⟨k * 2 ^ t, by rw [hn]; exact is_of_rung t k kl kh tz, units (N := 1) (by decide) e (by rw [Nat.mul_one]; exact hAB) (by rw [Nat.mul_one]; omega) (by rw [Nat.mul_one]; omega), ?_⟩
  intro m j hA m1 m2
  have e1 : m * 2 ^ (j + q + s) = mag * 2 ^ s * 2 ^ p := by
    refine Nat.eq_of_mul_eq_mul_right hB ?_
    calc m * 2 ^ (j + q + s) * B = m * 2 ^ j * B * 2 ^ q * 2 ^ s := by
          rw [Nat.pow_add, Nat.pow_add]
          generalize 2 ^ j = a; generalize 2 ^ q = b; generalize 2 ^ s = c; ac_rfl
      _ = mag * 2 ^ p * B * 2 ^ s := by rw [← hA, hAB]
      _ = mag * 2 ^ s * 2 ^ p * B := by
          generalize 2 ^ p = a; generalize 2 ^ s = b; ac_rfl
  have e2 := pow_cmp m1 m2 (by rw [p52]; exact n1) (by rw [p53]; exact n2) e1
  have e3 : mag * 2 ^ s = m * 2 ^ d := by
    rw [e2, Nat.pow_add, ← Nat.mul_assoc] at e1
    exact (Nat.eq_of_mul_eq_mul_right pp e1).symm
  have e4 := k3 ⟨m, by rw [e3, Nat.mul_comm]⟩
  rw [e3] at e4
  have e5 : k = m := Nat.eq_of_mul_eq_mul_right (Nat.two_pow_pos d) e4
  have e6 : t = j := by clear hn k1 k2 n1 n2 kl kh k3; omega
  rw [e5, e6]

theorem sticky_bounds {mag T N k g : Nat} (hodd : mag % 2 = 1) (hN : 0 < N) (t1 : mag * N < T + N) (t2 : T < mag * N + N)
    (k1 : 2 * (k * (4 * g)) ≤ 2 * mag + 4 * g) (k2 : 2 * mag ≤ 2 * (k * (4 * g)) + 4 * g) (n1 : 4503599627370496 * (4 * g) ≤ mag) :
    9007199254740992 * (k * (4 * g) * N) ≤ 9007199254740992 * T + T ∧ 9007199254740992 * T ≤ 9007199254740992 * (k * (4 * g) * N) + T := by
  have eP : k * (4 * g) = 4 * (k * g) := Nat.mul_left_comm _ _ _
  rw [eP] at k1 k2 ⊢
  generalize k * g = P at *
  have a1 : 4 * P + 1 ≤ mag + 2 * g := by omega
  have a2 : mag + 1 ≤ 4 * P + 2 * g := by omega
  have a3 : 18014398509481984 * g + 1 ≤ mag := by omega
  have b1 := Nat.mul_le_mul_right N a1
  have b2 := Nat.mul_le_mul_right N a2
  have b3 := Nat.mul_le_mul_right N a3
  simp only [Nat.add_mul, Nat.mul_assoc, Nat.one_mul] at b1 b2 b3 ⊢
  clear a1 a2 a3 k1 k2 n1
  generalize P * N = PN at *
  generalize g * N = gN at *
  generalize mag * N = MN at *
  omega

/-- THE ROUNDING OF A QUOTIENT: 'mag' is odd and 'T / N' lies strictly between its neighbours. -/
theorem nearest_sticky (mag : Nat) (place : Int) (T N A B p q : Nat) (hodd : mag % 2 = 1) (hbig : 18014398509481984 ≤ mag) (hpq : (p : Int) - q = place + 1074)
    (hN : 0 < N) (t1 : mag * N < T + N) (t2 : T < mag * N + N)
    (hAB : T * 2 ^ p * B = A * 2 ^ q * N) (h1 : -1022 ≤ place + mag.log2) (h2 : place + mag.log2 ≤ 926) :
    ∃ U, Is (double.nearest false mag place) U ∧ Near U A B := by
  have h0 : mag ≠ 0 := by omega
  obtain ⟨k, t, s, d, hn, kl, kh, tz, hts, hsd, hz, k1, k2, n1, n2, k3⟩ := digits mag place h0 h1 h2
  have e : t + q + s = d + p := by clear hn k1 k2 n1 n2 kl kh k3; omega
  have hlg : 54 ≤ mag.log2 := (Nat.le_log2 h0).2 (by show 18014398509481984 ≤ mag; exact hbig)
  have hs0 : s = 0 := by clear hn k1 k2 n1 n2 kl kh k3; omega
  have hd2 : 2 ≤ d := by clear hn k1 k2 n1 n2 kl kh k3; omega
  subst hs0
  obtain ⟨d', rfl⟩ : ∃ d', d = d' + 2 := ⟨d - 2, by omega⟩
  have e4 : 2 ^ (d' + 2) = 4 * 2 ^ d' := by rw [Nat.pow_add]; exact Nat.mul_comm _ _
  rw [e4, Nat.pow_zero, Nat.mul_one] at k1 k2 n1
  have st := sticky_bounds hodd hN t1 t2 k1 k2 n1
  refine ⟨k * 2 ^ t, by rw [hn]; exact is_of_rung t k kl kh tz, units hN e hAB ?_ ?_⟩
  · rw [e4, Nat.pow_zero, Nat.mul_one]; exact st.1
  · rw [e4, Nat.pow_zero, Nat.mul_one]; exact st.2
end Go.Proofs.Qxb6602634a.Fl
