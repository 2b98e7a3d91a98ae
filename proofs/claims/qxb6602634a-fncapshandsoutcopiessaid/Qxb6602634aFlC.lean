/-
  ORDER, POWERS OF TWO, CONVERSIONS. By an AI agent.
-/
import Derived.Test.Qxb6602634aFlB
namespace Go.Proofs.Qxb6602634a.Fl
open Ieee
set_option linter.unusedVariables false

theorem order_read {x y a b m n k l : Nat} (rx : double.read x = .number false m ((k : Int) - 1074)) (ry : double.read y = .number false n ((l : Int) - 1074)) (ha : a = m * 2 ^ k) (hb : b = n * 2 ^ l) :
    ∃ M N : Nat, double.order x y = some (compare (M : Int) (N : Int)) ∧ M * 2 ^ min k l = a ∧ N * 2 ^ min k l = b := by
  have hb' : min ((k : Int) - 1074) ((l : Int) - 1074) = ((min k l : Nat) : Int) - 1074 := by omega
  have e1 : ((k : Int) - 1074 - (((min k l : Nat) : Int) - 1074)).toNat = k - min k l := by omega
  have e2 : ((l : Int) - 1074 - (((min k l : Nat) : Int) - 1074)).toNat = l - min k l := by omega
  refine ⟨m * 2 ^ (k - min k l), n * 2 ^ (l - min k l), ?_, ?_, ?_⟩
  · unfold Format.order
    rw [rx, ry]
    simp only [Datum.order, hb', e1, e2, signed, Nat.shiftLeft_eq, Bool.false_eq_true, if_false]
  · rw [ha]; exact pow_split _ _ _ (Nat.min_le_left _ _)
  · rw [hb]; exact pow_split _ _ _ (Nat.min_le_right _ _)

theorem cmp_lt {a b : Int} (h : a < b) : compare a b = .lt := by simp [compare, compareOfLessAndEq, h]
theorem cmp_eq {a b : Int} (h : a = b) : compare a b = .eq := by subst h; simp [compare, compareOfLessAndEq]
theorem cmp_gt {a b : Int} (h : b < a) : compare a b = .gt := by
  have h1 : ¬ a < b := by omega
  have h2 : ¬ a = b := by omega
  simp [compare, compareOfLessAndEq, h1, h2]

theorem order_lt {x y a b : Nat} (hx : Is x a) (hy : Is y b) (h : a < b) : double.order x y = some .lt := by
  obtain ⟨m, k, rx, m1, m2, ha⟩ := hx
  obtain ⟨n, l, ry, n1, n2, hb⟩ := hy
  obtain ⟨M, N, ho, h1, h2⟩ := order_read rx ry ha hb
  have : M < N := Nat.lt_of_mul_lt_mul_right (a := 2 ^ min k l) (by omega)
  rw [ho, cmp_lt (by omega)]
theorem order_gt {x y a b : Nat} (hx : Is x a) (hy : Is y b) (h : b < a) : double.order x y = some .gt := by
  obtain ⟨m, k, rx, m1, m2, ha⟩ := hx
  obtain ⟨n, l, ry, n1, n2, hb⟩ := hy
  obtain ⟨M, N, ho, h1, h2⟩ := order_read rx ry ha hb
  have : N < M := Nat.lt_of_mul_lt_mul_right (a := 2 ^ min k l) (by omega)
  rw [ho, cmp_gt (by omega)]
theorem order_eq {x y a b : Nat} (hx : Is x a) (hy : Is y b) (h : a = b) : double.order x y = some .eq := by
  obtain ⟨m, k, rx, m1, m2, ha⟩ := hx
  obtain ⟨n, l, ry, n1, n2, hb⟩ := hy
  obtain ⟨M, N, ho, h1, h2⟩ := order_read rx ry ha hb
  have : M = N := Nat.eq_of_mul_eq_mul_right (Nat.two_pow_pos (min k l)) (by omega)
  rw [ho, cmp_eq (by omega)]
theorem geq_of {x y a b : Nat} (hx : Is x a) (hy : Is y b) (h : b ≤ a) : (double.order x y == some .gt || double.order x y == some .eq) = true := by
  rcases Nat.lt_or_ge b a with h' | h'
  · rw [order_gt hx hy h']; rfl
  · rw [order_eq hx hy (Nat.le_antisymm h' h)]; rfl
theorem leq_of {x y a b : Nat} (hx : Is x a) (hy : Is y b) (h : a ≤ b) : (double.order x y == some .lt || double.order x y == some .eq) = true := by
  rcases Nat.lt_or_ge a b with h' | h'
  · rw [order_lt hx hy h']; rfl
  · rw [order_eq hx hy (Nat.le_antisymm h h')]; rfl

/-- The powers of two. -/
theorem is_pow (e : Nat) (h : e < 2046) : Is ((e + 1) * 4503599627370496) (2 ^ 52 * 2 ^ e) := by
  refine ⟨2 ^ 52, e, ?_, Nat.le_refl _, by rw [e52, e53]; decide, rfl⟩
  rw [read_eq _ (by omega) (by omega) (by omega), e52]
  have e1 : 4503599627370496 + (e + 1) * 4503599627370496 % 4503599627370496 = 4503599627370496 := by omega
  have e2 : -1074 + (((e + 1) * 4503599627370496 / 4503599627370496 - 1 : Nat) : Int) = (e : Int) - 1074 := by omega
  rw [e1, e2]

/-- A product by a power of two is exact. -/
theorem Is.mul_pow {x y a i : Nat} (hx : Is x a) (hy : Is y (2 ^ i)) (ha : Ok a) (hi : 800 ≤ i) (hi' : i ≤ 1400) : ∃ z c, double.mul x y = some z ∧ Is z c ∧ c * K = a * 2 ^ i := by
  obtain ⟨lo, hlo, hLO⟩ := LO_pow
  obtain ⟨hi2, hhi, hHI⟩ := HI_pow
  obtain ⟨q, hq, hK⟩ := K_pow
  have hb : Ok (2 ^ i) := ⟨by rw [hLO]; exact Nat.pow_le_pow_right (by decide) (by omega), by rw [hHI]; exact Nat.pow_le_pow_right (by decide) (by omega)⟩
  obtain ⟨z, c, h1, h2, h3, h4⟩ := hx.mul hy ha hb
  refine ⟨z, c, h1, h2, ?_⟩
  obtain ⟨m, k, rx, m1, m2, rfl⟩ := hx
  have ek : lo < 53 + k := by
    have : 2 ^ lo < 2 ^ (53 + k) := by rw [← hLO, Nat.pow_add]; exact Nat.lt_of_le_of_lt ha.1 (Nat.mul_lt_mul_of_pos_right m2 (Nat.two_pow_pos k))
    exact (Nat.pow_lt_pow_iff_right (by decide)).1 this
  have e : m * 2 ^ k * 2 ^ i = m * 2 ^ (k + i - q) * K := by
    rw [hK, Nat.mul_assoc, ← Nat.pow_add, Nat.mul_assoc, ← Nat.pow_add, Nat.sub_add_cancel (by omega)]
  rw [e, h4 m (k + i - q) e m1 m2]

/-- A positive whole number, made a float: exact where it has at most 53 digits. -/
theorem ofNat_is (n : Nat) (h0 : n ≠ 0) (h : n < 18446744073709551616) : ∃ U, Is (double.nearest false n 0) U ∧ Near U (n * K) 1 ∧ ∀ m j, n * K = m * 2 ^ j → 2 ^ 52 ≤ m → m < 2 ^ 53 → U = m * 2 ^ j := by
  obtain ⟨q, hq, hK⟩ := K_pow
  have hlo : 2 ^ 52 * 1 ≤ n * K := by
    rw [Nat.mul_one, hK]
    exact Nat.le_trans (Nat.pow_le_pow_right (by decide) (by omega)) (Nat.le_mul_of_pos_left _ (Nat.pos_of_ne_zero h0))
  have hhi : n * K ≤ 2 ^ (64 + q) * 1 := by
    rw [Nat.mul_one, hK]
    exact le_pow_mul (i := 64) (by rw [show (2 : Nat) ^ 64 = 18446744073709551616 from by decide]; omega) (Nat.le_refl _) (Nat.le_refl _)
  obtain ⟨U, h1, h2, h3⟩ := nearest_is n 0 (n * K) 1 q 0 (64 + q) h0 (by omega) (by rw [hK, Nat.pow_zero]) (by decide) hlo hhi (by omega)
  exact ⟨U, h1, h2, fun m j hA m1 m2 => h3 m j (by rw [hA, Nat.mul_one]) m1 m2⟩

theorem cut_zero (s : Bool) (n d : Nat) : Toward.zero.cut s n d = n / 2 ^ d := by
  unfold Toward.cut
  simp only [Bool.toNat_false, Nat.add_zero, Nat.one_shiftLeft]
  rcases Nat.le_total d (n.log2 + 2) with h | h
  · rw [Nat.min_eq_left h]
  · rw [Nat.min_eq_right h]
    have h1 : n < 2 ^ (n.log2 + 2) := Nat.lt_of_lt_of_le (@Nat.lt_log2_self n) (Nat.pow_le_pow_right (by decide) (by omega))
    rw [Nat.div_eq_of_lt h1, Nat.div_eq_of_lt (Nat.lt_of_lt_of_le h1 (Nat.pow_le_pow_right (by decide) h))]

/-- 'int(x)': cut towards zero. -/
theorem Is.toInt {x a : Nat} (hx : Is x a) : (double.read x).toInt .zero = some ((a / K : Nat) : Int) := by
  obtain ⟨m, k, rx, m1, m2, rfl⟩ := hx
  obtain ⟨q, hq, hK⟩ := K_pow
  rw [rx]
  simp only [Datum.toInt, Datum.integral, cut_zero, signed, Nat.shiftLeft_eq, Bool.false_eq_true, if_false, Nat.pow_zero, Nat.mul_one]
  congr 2
  rcases Nat.le_total q k with h | h
  · have e1 : ((k : Int) - 1074).toNat = k - q := by omega
    have e2 : (-((k : Int) - 1074)).toNat = 0 := by omega
    rw [e1, e2, Nat.pow_zero, Nat.div_one, hK]
    have e3 : m * 2 ^ k = m * 2 ^ (k - q) * 2 ^ q := (pow_split m k q h).symm
    rw [e3, Nat.mul_div_cancel _ (Nat.two_pow_pos q)]
  · have e1 : ((k : Int) - 1074).toNat = 0 := by omega
    have e2 : (-((k : Int) - 1074)).toNat = q - k := by omega
    rw [e1, e2, Nat.pow_zero, Nat.mul_one, hK]
    have e3 : 2 ^ q = 2 ^ (q - k) * 2 ^ k := by rw [← Nat.pow_add, Nat.sub_add_cancel h]
    rw [e3, Nat.mul_div_mul_right _ _ (Nat.two_pow_pos k)]

/-- What a word can stand for. -/
theorem read_shape (x : Nat) : (∃ s f, double.read x = .nan s f) ∨ (∃ s, double.read x = .infinity s) ∨
    (∃ s m, double.read x = .number s m (-1074) ∧ m < 4503599627370496) ∨ ∃ s m, ∃ k : Nat, double.read x = .number s m ((k : Int) - 1074) ∧ 4503599627370496 ≤ m ∧ m < 9007199254740992 := by
  unfold Format.read
  simp only [binade_eq, infRung_eq, leastPlace_eq]
  split
  · right; right; left
    exact ⟨_, _, rfl, by assumption⟩
  · split
    · right; right; right
      have hm := Nat.mod_lt (x % double.signWeight) (show 0 < 4503599627370496 by decide)
      generalize x % double.signWeight % 4503599627370496 = c at *
      generalize x % double.signWeight / 4503599627370496 - 1 = t
      exact ⟨_, 4503599627370496 + c, t, by rw [show (-1074 : Int) + (t : Int) = (t : Int) - 1074 from by omega], Nat.le_add_right _ _, by omega⟩
    · split
      · right; left; exact ⟨_, rfl⟩
      · left; exact ⟨_, _, rfl⟩

/-- A word that lies between two positive numbers. -/
theorem between {x y z b c : Nat} (hy : Is y b) (hz : Is z c) (h1 : (double.order x y == some .gt || double.order x y == some .eq) = true) (h2 : (double.order x z == some .lt || double.order x z == some .eq) = true) :
    ∃ a, Is x a ∧ b ≤ a ∧ a ≤ c := by
  have ybig : 4503599627370496 ≤ b := by
    obtain ⟨n, l, ry, n1, n2, rfl⟩ := hy
    rw [e52] at n1
    exact Nat.le_trans n1 (Nat.le_mul_of_pos_right _ (Nat.two_pow_pos l))
  rcases read_shape x with ⟨s, f, hr⟩ | ⟨s, hr⟩ | ⟨s, m, hr, hm⟩ | ⟨s, m, k, hr, m1, m2⟩
  · obtain ⟨n, l, ry, _⟩ := hy
    simp [Format.order, hr, ry, Datum.order] at h1
  · obtain ⟨n, l, ry, _⟩ := hy
    obtain ⟨n', l', rz, _⟩ := hz
    cases s
    · simp [Format.order, hr, rz, Datum.order] at h2
    · simp [Format.order, hr, ry, Datum.order] at h1
  · exfalso
    obtain ⟨n, l, ry, n1, n2, rfl⟩ := hy
    have hb' : min (-1074 : Int) ((l : Int) - 1074) = -1074 := by omega
    have e1 : ((-1074 : Int) - -1074).toNat = 0 := by omega
    have e2 : ((l : Int) - 1074 - -1074).toNat = l := by omega
    have : signed s m 0 < signed false n l := by
      simp only [signed, Nat.shiftLeft_eq, Nat.pow_zero, Nat.mul_one, Bool.false_eq_true, if_false]
      split <;> omega
    simp only [Format.order, hr, ry, Datum.order, hb', e1, e2, cmp_lt this] at h1
    simp at h1
  · cases s
    · refine (⟨m * 2 ^ k, ⟨m, k, hr, by rw [e52]; exact m1, by rw [e53]; exact m2, rfl⟩, ?_, ?_⟩ : ∃ a, Is x a ∧ b ≤ a ∧ a ≤ c)
      all_goals have hx : Is x (m * 2 ^ k) := ⟨m, k, hr, by rw [e52]; exact m1, by rw [e53]; exact m2, rfl⟩
      · rcases Nat.lt_or_ge (m * 2 ^ k) b with h | h
        · rw [order_lt hx hy h] at h1; simp at h1
        · exact h
      · rcases Nat.lt_or_ge c (m * 2 ^ k) with h | h
        · rw [order_gt hx hz h] at h2; simp at h2
        · exact h
    · exfalso
      obtain ⟨n, l, ry, n1, n2, rfl⟩ := hy
      have : signed true m ((k : Int) - 1074 - min ((k : Int) - 1074) ((l : Int) - 1074)).toNat < signed false n ((l : Int) - 1074 - min ((k : Int) - 1074) ((l : Int) - 1074)).toNat := by
        generalize ((k : Int) - 1074 - min ((k : Int) - 1074) ((l : Int) - 1074)).toNat = s
        generalize ((l : Int) - 1074 - min ((k : Int) - 1074) ((l : Int) - 1074)).toNat = t
        simp only [signed, Nat.shiftLeft_eq, Bool.false_eq_true, if_false, if_true]
        have a1 : 0 < m * 2 ^ s := Nat.mul_pos (by omega) (Nat.two_pow_pos s)
        have a2 : 0 < n * 2 ^ t := Nat.mul_pos (Nat.lt_of_lt_of_le (Nat.two_pow_pos 52) n1) (Nat.two_pow_pos t)
        generalize m * 2 ^ s = M at *
        generalize n * 2 ^ t = N at *
        omega
      simp only [Format.order, hr, ry, Datum.order, cmp_lt this] at h1
      simp at h1

theorem Is.unique {x a b : Nat} (h1 : Is x a) (h2 : Is x b) : a = b := by
  obtain ⟨m, k, r1, _, _, rfl⟩ := h1
  obtain ⟨n, l, r2, _, _, rfl⟩ := h2
  rw [r1, Datum.number.injEq] at r2
  obtain ⟨_, rfl, r3⟩ := r2
  have : k = l := by omega
  rw [this]

/-- Zero divided; zero multiplied. -/
theorem read_zero : double.read 0 = .number false 0 (-1074) := by decide
theorem nearest_zero (place : Int) : double.nearest false 0 place = 0 := by simp [Format.nearest, Format.word]
theorem zero_div {y b : Nat} (hy : Is y b) : double.div 0 y = some 0 := by
  obtain ⟨n, l, ry, n1, n2, _⟩ := hy
  have n0 : n ≠ 0 := by have := Nat.two_pow_pos 52; omega
  unfold Format.div
  rw [read_zero, ry]
  simp only [Datum.quotient, if_neg n0, Nat.zero_shiftLeft, Nat.zero_div, Nat.zero_mod, Option.map_some, Format.write]
  exact congrArg some (nearest_zero _)
theorem zero_mul {y b : Nat} (hy : Is y b) : double.mul 0 y = some 0 := by
  obtain ⟨n, l, ry, n1, n2, _⟩ := hy
  unfold Format.mul
  rw [read_zero, ry]
  simp only [Datum.product, Nat.zero_mul, Option.map_some, Format.write]
  exact congrArg some (nearest_zero _)
end Go.Proofs.Qxb6602634a.Fl
