/-
  BILLIONTHS THERE AND BACK, IN binary64. By an AI agent.
-/
import Derived.Test.Qxb6602634aFlC
namespace Go.Proofs.Qxb6602634a.Fl
open Ieee
set_option linter.unusedVariables false

theorem pow_is (c e : Nat) (h : c = (e + 1) * 4503599627370496) (he : e < 2046) : Is c (2 ^ 52 * 2 ^ e) := by rw [h]; exact is_pow e he

theorem half_is : ∃ H, Is 4602678819172646912 H ∧ 2 * H = K := by
  obtain ⟨q, hq, hK⟩ := K_pow
  refine ⟨2 ^ 52 * 2 ^ (q - 53), pow_is _ (q - 53) (by subst hq; decide) (by omega), ?_⟩
  rw [← Nat.pow_add, hK, Nat.mul_comm, ← Nat.pow_succ]
  congr 1
  omega
theorem c9_is : Is 4741671816366391296 (1000000000 * K) := by
  obtain ⟨q, hq, hK⟩ := K_pow
  refine ⟨8388608000000000, q - 23, ?_, by rw [e52]; decide, by rw [e53]; decide, ?_⟩
  · subst hq
    decide
  · have : 2 ^ q = 2 ^ 23 * 2 ^ (q - 23) := by rw [← Nat.pow_add]; congr 1; omega
    rw [hK, this, ← Nat.mul_assoc]
theorem k_ok : LO ≤ K ∧ K * 2 ^ 100 ≤ HI := by
  obtain ⟨q, hq, hK⟩ := K_pow
  obtain ⟨lo, hlo, hLO⟩ := LO_pow
  obtain ⟨hi, hhi, hHI⟩ := HI_pow
  constructor
  · rw [hK, hLO]; exact Nat.pow_le_pow_right (by decide) (by omega)
  · rw [hK, hHI, ← Nat.pow_add]; exact Nat.pow_le_pow_right (by decide) (by omega)
theorem lo_k : LO * 2 ^ 100 ≤ K := by
  obtain ⟨q, hq, hK⟩ := K_pow
  obtain ⟨lo, hlo, hLO⟩ := LO_pow
  rw [hK, hLO, ← Nat.pow_add]; exact Nat.pow_le_pow_right (by decide) (by omega)
theorem ok_k {N c : Nat} (hc : c ≤ 1267650600228229401496703205376) (h1 : K ≤ c * N) (h2 : N ≤ c * K) : Ok N := by
  have e : (2 : Nat) ^ 100 = 1267650600228229401496703205376 := by decide
  have a := lo_k
  have b := k_ok.2
  rw [e] at a b
  have hc1 := Nat.mul_le_mul_right N hc
  have hc2 := Nat.mul_le_mul_right K hc
  constructor
  · refine Nat.le_of_mul_le_mul_right (c := 1267650600228229401496703205376) ?_ (by decide)
    calc LO * 1267650600228229401496703205376 ≤ K := a
      _ ≤ c * N := h1
      _ ≤ 1267650600228229401496703205376 * N := hc1
      _ = N * 1267650600228229401496703205376 := Nat.mul_comm _ _
  · calc N ≤ c * K := h2
      _ ≤ 1267650600228229401496703205376 * K := hc2
      _ = K * 1267650600228229401496703205376 := Nat.mul_comm _ _
      _ ≤ HI := b

/-- A small whole number is exact. -/
theorem small_is (n : Nat) (h0 : n ≠ 0) (h : n < 9007199254740992) : Is (double.nearest false n 0) (n * K) := by
  obtain ⟨U, hU, _, hx⟩ := ofNat_is n h0 (by omega)
  obtain ⟨q, hq, hK⟩ := K_pow
  have l1 := Nat.log2_self_le h0
  have l2 := @Nat.lt_log2_self n
  have l3 : n.log2 < 53 := (Nat.log2_lt h0).2 (by rw [e53]; exact h)
  have m1 : 2 ^ 52 ≤ n * 2 ^ (52 - n.log2) := by
    have : 2 ^ 52 = 2 ^ n.log2 * 2 ^ (52 - n.log2) := by rw [← Nat.pow_add]; congr 1; omega
    rw [this]; exact Nat.mul_le_mul_right _ l1
  have m2 : n * 2 ^ (52 - n.log2) < 2 ^ 53 := by
    have : 2 ^ 53 = 2 ^ (n.log2 + 1) * 2 ^ (52 - n.log2) := by rw [← Nat.pow_add]; congr 1; omega
    rw [this]; exact Nat.mul_lt_mul_of_pos_right l2 (Nat.two_pow_pos _)
  have e : n * K = n * 2 ^ (52 - n.log2) * 2 ^ (q - (52 - n.log2)) := by
    rw [Nat.mul_assoc, ← Nat.pow_add, hK]; congr 2; omega
  have := hx _ _ e m1 m2
  rw [← e] at this
  rw [this] at hU
  exact hU

theorem near_cancel {U A B c : Nat} (hc : 0 < c) (h : Near U (A * c) (B * c)) : Near U A B := by
  obtain ⟨h1, h2⟩ := h
  have ex : U * (B * c) * 1 = U * B * c := by rw [Nat.mul_one, Nat.mul_assoc]
  have ey : A * c * 1 = A * c := Nat.mul_one _
  exact ⟨carry1 hc ex ey h1, carry2 hc ex ey h2⟩

theorem arith {n Q Y Z H k : Nat} (hn : n ≤ 68719476736) (hn1 : 1 ≤ n) (hk : 0 < k) (q : Near Q (n * k) 1000000000) (y : Near Y (Q * 1000000000) 1) (z : Near Z (Y + H) 1) (h : 2 * H = k) :
    n * k ≤ Z ∧ Z < (n + 1) * k := by
  obtain ⟨q1, q2⟩ := q
  obtain ⟨y1, y2⟩ := y
  obtain ⟨z1, z2⟩ := z
  rw [Nat.mul_one] at y1 y2 z1 z2
  have t := Nat.mul_le_mul_right k hn
  rw [Nat.add_mul, Nat.one_mul]
  generalize n * k = T at *
  constructor <;> omega

/-- THE ROUND TRIP of a positive whole number. -/
theorem trip (n : Nat) (h1 : 1 ≤ n) (h2 : n ≤ 68719476736) : ∃ q y z Q Y, double.div (double.nearest false n 0) 4741671816366391296 = some q ∧ Is q Q ∧ double.mul q 4741671816366391296 = some y ∧ Is y Y ∧
    double.add y 4602678819172646912 = some z ∧ (double.read z).toInt .zero = some (n : Int) := by
  have hx := small_is n (by omega) (by omega)
  have kp := K_pos
  have t := Nat.mul_le_mul_right K h2
  have t1 := Nat.mul_le_mul_right K h1
  rw [Nat.one_mul] at t1
  have okn : Ok (n * K) := ok_k (c := 68719476736) (by decide) (by omega) t
  have ok9 : Ok (1000000000 * K) := ok_k (c := 1000000000) (by decide) (by omega) (by omega)
  obtain ⟨q, Q, m1, iq, nq⟩ := hx.div c9_is okn ok9
  have nq' : Near Q (n * K) 1000000000 := near_cancel kp nq
  have bq1 := nq'.1
  have bq2 := nq'.2
  have okQ : Ok Q := ok_k (c := 137438953472) (by decide) (by omega) (by omega)
  obtain ⟨y, Y, m2, iy, ny, _⟩ := iq.mul c9_is okQ ok9
  have ny' : Near Y (Q * 1000000000) 1 := near_cancel kp (by rw [Nat.one_mul, Nat.mul_assoc]; exact ny)
  have by1 := ny'.1
  have by2 := ny'.2
  rw [Nat.mul_one] at by1 by2
  have okY : Ok Y := ok_k (c := 137438953472) (by decide) (by omega) (by omega)
  obtain ⟨H, ih, eh⟩ := half_is
  have okH : Ok H := ok_k (c := 2) (by decide) (by omega) (by omega)
  obtain ⟨z, Z, m3, iz, nz⟩ := iy.add ih okY okH
  have ar := arith h2 h1 kp nq' ny' nz eh
  refine ⟨q, y, z, Q, Y, m1, iq, m2, iy, m3, ?_⟩
  rw [iz.toInt]
  congr 2
  exact Nat.div_eq_of_lt_le ar.1 ar.2

/-! ### Negative numbers -/
/-- The word of the opposite number. -/
def ng (x : Nat) : Nat := 9223372036854775808 + x
theorem word_true (x : Nat) : double.word true x = ng x := by simp [Format.word, ng, signWeight_eq]
theorem nearest_true (m : Nat) (p : Int) : double.nearest true m p = ng (double.nearest false m p) := by
  unfold Format.nearest
  split
  · rw [word_true, word_false]
  · simp only [word_true, word_false]
    rfl
theorem nearest_lt (m : Nat) (p : Int) : double.nearest false m p < 9223372036854775808 := by
  unfold Format.nearest
  split
  · rw [word_false]; decide
  · simp only [word_false]
    exact Nat.lt_of_le_of_lt (Nat.min_le_right _ _) (by rw [infRung_eq]; decide)
theorem read_ng {x m : Nat} {p : Int} (hx : x < 9223372036854775808) (h : double.read x = .number false m p) : double.read (ng x) = .number true m p := by
  unfold Format.read at *
  rw [signWeight_eq] at *
  unfold ng
  have a1 : (9223372036854775808 + x) / 9223372036854775808 % 2 = 1 := by omega
  have a2 : (9223372036854775808 + x) % 9223372036854775808 = x := by omega
  have a3 : x / 9223372036854775808 % 2 = 0 := by omega
  have a4 : x % 9223372036854775808 = x := by omega
  simp only [a1, a2, a3, a4] at h ⊢
  split at h
  · rename_i hl
    rw [if_pos hl]
    injection h with _ h1 h2
    rw [h1, h2]; rfl
  · rename_i hl
    rw [if_neg hl]
    split at h
    · rename_i hl2
      rw [if_pos hl2]
      injection h with _ h1 h2
      rw [h1, h2]; rfl
    · split at h <;> cases h

theorem div_ng {x y z a b : Nat} (hx : Is x a) (hy : Is y b) (hx' : x < 9223372036854775808) (h : double.div x y = some z) : double.div (ng x) y = some (ng z) := by
  obtain ⟨m, k, rx, _, _, _⟩ := hx
  obtain ⟨n, l, ry, n1, _, _⟩ := hy
  have n0 : n ≠ 0 := by have := Nat.two_pow_pos 52; omega
  unfold Format.div at *
  rw [rx, ry] at h
  rw [read_ng hx' rx, ry]
  simp only [Datum.quotient, if_neg n0, Option.map_some, Format.write] at h ⊢
  injection h with h
  rw [← h]
  exact congrArg some (nearest_true _ _)
theorem mul_ng {x y z a b : Nat} (hx : Is x a) (hy : Is y b) (hx' : x < 9223372036854775808) (h : double.mul x y = some z) : double.mul (ng x) y = some (ng z) := by
  obtain ⟨m, k, rx, _, _, _⟩ := hx
  obtain ⟨n, l, ry, n1, _, _⟩ := hy
  unfold Format.mul at *
  rw [rx, ry] at h
  rw [read_ng hx' rx, ry]
  simp only [Datum.product, Option.map_some, Format.write] at h ⊢
  injection h with h
  rw [← h]
  exact congrArg some (nearest_true _ _)
/-- A quotient, a product of positive numbers has no sign. -/
theorem div_lt {x y z a b : Nat} (hx : Is x a) (hy : Is y b) (h : double.div x y = some z) : z < 9223372036854775808 := by
  obtain ⟨m, k, rx, _, _, _⟩ := hx
  obtain ⟨n, l, ry, n1, _, _⟩ := hy
  have n0 : n ≠ 0 := by have := Nat.two_pow_pos 52; omega
  unfold Format.div at h
  rw [rx, ry] at h
  simp only [Datum.quotient, if_neg n0, Option.map_some, Format.write] at h
  injection h with h
  rw [← h]
  exact nearest_lt _ _
theorem mul_lt {x y z a b : Nat} (hx : Is x a) (hy : Is y b) (h : double.mul x y = some z) : z < 9223372036854775808 := by
  obtain ⟨m, k, rx, _, _, _⟩ := hx
  obtain ⟨n, l, ry, n1, _, _⟩ := hy
  unfold Format.mul at h
  rw [rx, ry] at h
  simp only [Datum.product, Option.map_some, Format.write] at h
  injection h with h
  rw [← h]
  exact nearest_lt _ _
theorem ng_xor (x : Nat) (hx : x < 9223372036854775808) : ng x ^^^ 2 ^ 63 = x := by
  have e : (9223372036854775808 : Nat) = 2 ^ 63 := by decide
  unfold ng
  rw [e] at hx ⊢
  apply Nat.eq_of_testBit_eq
  intro i
  rw [Nat.testBit_xor, Nat.testBit_two_pow]
  rcases Nat.lt_trichotomy i 63 with h | h | h
  · rw [Nat.testBit_two_pow_add_gt h, decide_eq_false (by omega), Bool.xor_false]
  · subst h
    rw [Nat.testBit_two_pow_add_eq, Nat.testBit_lt_two_pow hx]; rfl
  · have h1 : 2 ^ 63 + x < 2 ^ i := by
      have : 2 ^ 64 ≤ 2 ^ i := Nat.pow_le_pow_right (by decide) (by omega)
      have : (2 : Nat) ^ 64 = 2 ^ 63 + 2 ^ 63 := by decide
      omega
    have h2 : x < 2 ^ i := by omega
    rw [Nat.testBit_lt_two_pow h1, Nat.testBit_lt_two_pow h2, decide_eq_false (by omega)]; rfl

/-- against 0 -/
theorem order_zero {x a : Nat} (hx : Is x a) : double.order x 0 = some .gt := by
  obtain ⟨m, k, rx, m1, _, _⟩ := hx
  have m0 : 0 < m := by have := Nat.two_pow_pos 52; omega
  unfold Format.order
  rw [rx, read_zero]
  have : signed false 0 ((-1074 : Int) - min ((k : Int) - 1074) (-1074)).toNat < signed false m ((k : Int) - 1074 - min ((k : Int) - 1074) (-1074)).toNat := by
    generalize ((k : Int) - 1074 - min ((k : Int) - 1074) (-1074)).toNat = s
    simp only [signed, Nat.shiftLeft_eq, Bool.false_eq_true, if_false]
    have : 0 < m * 2 ^ s := Nat.mul_pos m0 (Nat.two_pow_pos s)
    generalize m * 2 ^ s = M at *
    omega
  simp only [Datum.order, cmp_gt this]
theorem order_ng_zero {x a : Nat} (hx : Is x a) (hx' : x < 9223372036854775808) : double.order (ng x) 0 = some .lt := by
  obtain ⟨m, k, rx, m1, _, _⟩ := hx
  have m0 : 0 < m := by have := Nat.two_pow_pos 52; omega
  unfold Format.order
  rw [read_ng hx' rx, read_zero]
  have : signed true m ((k : Int) - 1074 - min ((k : Int) - 1074) (-1074)).toNat < signed false 0 ((-1074 : Int) - min ((k : Int) - 1074) (-1074)).toNat := by
    generalize ((k : Int) - 1074 - min ((k : Int) - 1074) (-1074)).toNat = s
    simp only [signed, Nat.shiftLeft_eq, Bool.false_eq_true, if_false, if_true]
    have : 0 < m * 2 ^ s := Nat.mul_pos m0 (Nat.two_pow_pos s)
    generalize m * 2 ^ s = M at *
    omega
  simp only [Datum.order, cmp_lt this]

/-- THE ROUND TRIP of a negative one. -/
theorem trip_ng (n : Nat) (h1 : 1 ≤ n) (h2 : n ≤ 68719476736) : ∃ q y z, double.div (double.nearest true n 0) 4741671816366391296 = some q ∧ double.mul q 4741671816366391296 = some (ng y) ∧ double.order (ng y) 0 = some .lt ∧ ng y ^^^ 2 ^ 63 = y ∧
    double.add y 4602678819172646912 = some z ∧ (double.read z).toInt .zero = some (n : Int) := by
  obtain ⟨q, y, z, Q, Y, m1, iq, m2, iy, m3, t⟩ := trip n h1 h2
  have hx := small_is n (by omega) (by omega)
  have lq := div_lt hx c9_is m1
  have ly := mul_lt iq c9_is m2
  refine ⟨ng q, y, z, ?_, mul_ng iq c9_is lq m2, order_ng_zero iy ly, ng_xor y ly, m3, t⟩
  rw [nearest_true]
  exact div_ng hx c9_is (nearest_lt _ _) m1
end Go.Proofs.Qxb6602634a.Fl
