/-
  THE ZIGGURAT OVER THE IDENTITY: its numbers, in units, as plain whole numbers. By an AI agent.
  R: r; W: v times one; H: a height; Q: v / H rounded; H2: the next height.
-/
import Derived.Test.Qxb6603583aFlC
namespace Go.Proofs.Qxb6603583a.Zig
open Fl
set_option linter.unusedVariables false

theorem sq (a b : Nat) : (a + b) * (a + b) = a * a + 2 * (a * b) + b * b := by
  rw [Nat.add_mul, Nat.mul_add, Nat.mul_add, Nat.mul_comm b a]; omega

/-- The bounds on the step Q. -/
theorem step_q {R W H Q n : Nat} (d1 : 4 * W ≤ 3 * (R * R)) (d2 : R * R ≤ 2049 * W) (hn : n ≤ 254) (i1 : R ≤ H) (i2 : H * H ≤ R * R + 3 * W * n) (hq : Near Q W H) (hH : 0 < H) :
    H ≤ 3000 * Q ∧ 5 * Q ≤ 4 * H := by
  obtain ⟨q1, q2⟩ := hq
  have w1 : 3 * W * n ≤ 3 * W * 254 := Nat.mul_le_mul_left _ hn
  have rr : R * R ≤ H * H := Nat.mul_le_mul i1 i1
  constructor
  · refine Nat.le_of_mul_le_mul_right (c := H) ?_ hH
    rw [Nat.mul_assoc]
    generalize Q * H = QH at *
    generalize H * H = HH at *
    generalize R * R = RR at *
    omega
  · refine Nat.le_of_mul_le_mul_right (c := H) ?_ hH
    rw [Nat.mul_assoc, Nat.mul_assoc]
    generalize Q * H = QH at *
    generalize H * H = HH at *
    generalize R * R = RR at *
    omega

/-- The invariant is handed on. -/
theorem step_h {R W H Q H2 n : Nat} (d1 : 4 * W ≤ 3 * (R * R)) (d2 : R * R ≤ 2049 * W) (hn : n ≤ 254) (i1 : R ≤ H) (i2 : H * H ≤ R * R + 3 * W * n) (hq : Near Q W H) (hH : 0 < H)
    (hh : Near H2 (H + Q) 1) : R ≤ H2 ∧ H2 * H2 ≤ R * R + 3 * W * (n + 1) := by
  obtain ⟨e1, e2⟩ := step_q d1 d2 hn i1 i2 hq hH
  obtain ⟨h1, h2⟩ := hh
  rw [Nat.mul_one] at h1 h2
  constructor
  · omega
  · have qq : 5 * (Q * Q) ≤ 4 * (H * Q) := by
      have := Nat.mul_le_mul_right Q e2
      rwa [Nat.mul_assoc, Nat.mul_assoc] at this
    have hq' : H * Q = Q * H := Nat.mul_comm _ _
    have w1 : 3 * W * n ≤ 3 * W * 254 := Nat.mul_le_mul_left _ hn
    have s1 : 9007199254740992 * H2 ≤ 9007199254740993 * (H + Q) := by omega
    have s2 := Nat.mul_le_mul s1 s1
    rw [show 9007199254740992 * H2 * (9007199254740992 * H2) = 81129638414606681695789005144064 * (H2 * H2) from by rw [Nat.mul_mul_mul_comm],
      show 9007199254740993 * (H + Q) * (9007199254740993 * (H + Q)) = 81129638414606699710187514626049 * ((H + Q) * (H + Q)) from by rw [Nat.mul_mul_mul_comm], sq] at s2
    have q1 := hq.1
    rw [Nat.mul_add, Nat.mul_one]
    generalize Q * H = QH at *
    generalize H * Q = HQ at *
    generalize H * H = HH at *
    generalize H2 * H2 = HH2 at *
    generalize Q * Q = QQ at *
    generalize R * R = RR at *
    generalize 3 * W * n = Wn at *
    clear e1 e2 s1 h1 h2
    omega

/-- A height is at most 46 times r. -/
theorem height_top {R W H n : Nat} (d1 : 4 * W ≤ 3 * (R * R)) (hn : n ≤ 254) (d2 : R * R ≤ 2049 * W) (i2 : H * H ≤ R * R + 3 * W * n) : H ≤ 46 * R := by
  have w1 : 3 * W * n ≤ 3 * W * 254 := Nat.mul_le_mul_left _ hn
  refine Nat.mul_self_le_mul_self_iff.1 ?_
  rw [Nat.mul_mul_mul_comm]
  generalize R * R = RR at *
  generalize H * H = HH at *
  omega

/-- What the next height is, in terms of this one and of the step: linear. -/
theorem next_lin {H Q H2 : Nat} (hQ : 0 < Q) (e1 : H ≤ 3000 * Q) (e2 : 5 * Q ≤ 4 * H) (hh : Near H2 (H + Q) 1) :
    H < H2 ∧ 4001 * H ≤ 4000 * H2 ∧ 100 * H2 ≤ 181 * H ∧ 9007199254740992 * (H2 - H) ≤ 9007199254743993 * Q ∧ 9007199254737991 * Q ≤ 9007199254740992 * (H2 - H) ∧ H2 - H ≤ 2 * Q ∧ Q ≤ 2 * (H2 - H) := by
  obtain ⟨h1, h2⟩ := hh
  rw [Nat.mul_one] at h1 h2
  refine ⟨?_, ?_, ?_, ?_, ?_, ?_, ?_⟩ <;> omega

/-- The difference, rounded. -/
theorem diff_lin {H Q H2 D : Nat} (hQ : 0 < Q) (e1 : H ≤ 3000 * Q) (e2 : 5 * Q ≤ 4 * H) (hh : Near H2 (H + Q) 1) (hd : Near D (H2 - H) 1) :
    9007199254736992 * Q ≤ 9007199254740992 * D ∧ 9007199254740992 * D ≤ 9007199254744992 * Q := by
  obtain ⟨_, _, _, a, b, _, _⟩ := next_lin hQ e1 e2 hh
  obtain ⟨d1, d2⟩ := hd
  rw [Nat.mul_one] at d1 d2
  generalize H2 - H = X at *
  constructor <;> omega

/-- The area of a layer is v, within a 2^-30 of it. -/
theorem area {V H Q D AR V30 LOW HIGH : Nat} (hq : Near Q (V * K) H) (a : 9007199254736992 * Q ≤ 9007199254740992 * D) (b : 9007199254740992 * D ≤ 9007199254744992 * Q)
    (har : Near AR (D * H) K) (h30 : V30 * 1073741824 = V) (hl : Near LOW (V - V30) 1) (hh : Near HIGH (V + V30) 1) : LOW ≤ AR ∧ AR ≤ HIGH := by
  have a' := Nat.mul_le_mul_right H a
  have b' := Nat.mul_le_mul_right H b
  rw [Nat.mul_assoc, Nat.mul_assoc] at a' b'
  obtain ⟨q1, q2⟩ := hq
  obtain ⟨r1, r2⟩ := har
  have l1 : 9007199254740992 * LOW ≤ 9007199254740992 * (V - V30) + (V - V30) := by have := hl.1; rwa [Nat.mul_one] at this
  have h2 : 9007199254740992 * (V + V30) ≤ 9007199254740992 * HIGH + (V + V30) := by have := hh.2; rwa [Nat.mul_one] at this
  -- LOW and HIGH against V alone
  have l : 2147483648 * LOW ≤ 2147483647 * V := by omega
  have h : 2147483649 * V ≤ 2147483648 * HIGH := by omega
  have l' := Nat.mul_le_mul_right K l
  have h' := Nat.mul_le_mul_right K h
  rw [Nat.mul_assoc, Nat.mul_assoc] at l' h'
  clear l h l1 h2 hl hh
  constructor
  · refine Nat.le_of_mul_le_mul_right (c := K) ?_ K_pos
    generalize Q * H = QH at *
    generalize D * H = DH at *
    generalize V * K = W at *
    generalize LOW * K = LK at *
    generalize AR * K = AK at *
    omega
  · refine Nat.le_of_mul_le_mul_right (c := K) ?_ K_pos
    generalize Q * H = QH at *
    generalize D * H = DH at *
    generalize V * K = W at *
    generalize HIGH * K = HK at *
    generalize AR * K = AK at *
    omega

/-- The inner count: Y is X2 / X rounded. -/
theorem inner_bounds {X X2 Y : Nat} (hX : 0 < X) (h1 : 4001 * X ≤ 4000 * X2) (h2 : X2 ≤ 2055 * X) (hy : Near Y (X2 * K) X) : K ≤ Y ∧ Y ≤ 2056 * K := by
  obtain ⟨y1, y2⟩ := hy
  have a := Nat.mul_le_mul_right K h1
  have b := Nat.mul_le_mul_right K h2
  rw [Nat.mul_assoc, Nat.mul_assoc] at a
  rw [Nat.mul_assoc] at b
  constructor
  · refine Nat.le_of_mul_le_mul_right (c := X) ?_ hX
    rw [Nat.mul_comm K X]
    generalize X * K = XK at *
    generalize X2 * K = X2K at *
    generalize Y * X = YX at *
    omega
  · refine Nat.le_of_mul_le_mul_right (c := X) ?_ hX
    rw [Nat.mul_assoc, Nat.mul_comm K X]
    generalize X * K = XK at *
    generalize X2 * K = X2K at *
    generalize Y * X = YX at *
    omega
theorem inner_top {X X2 Y : Nat} (hX : 0 < X) (h2 : 100 * X2 ≤ 181 * X) (hy : Near Y (X2 * K) X) : Y < 2 * K := by
  obtain ⟨y1, y2⟩ := hy
  have b := Nat.mul_le_mul_right K h2
  rw [Nat.mul_assoc, Nat.mul_assoc] at b
  refine Nat.lt_of_mul_lt_mul_right (a := X) ?_
  rw [Nat.mul_assoc, Nat.mul_comm K X]
  have : 0 < X * K := Nat.mul_pos hX K_pos
  generalize X * K = XK at *
  generalize X2 * K = X2K at *
  generalize Y * X = YX at *
  omega

/-- inner[i] * x_i against x_(i+1): 'C' is 2^52, A = Y * C the count, XX = X2 * C. -/
theorem inner_close {C X X2 Y P T UP DN : Nat} (hy : Near Y (X2 * K) X) (hp : Near P (Y * C * X) K) (hT : T * 1125899906842624 = X2 * C) (hu : Near UP (X2 * C + T) 1) (hd : Near DN (X2 * C - T) 1) :
    P ≤ UP ∧ DN ≤ P := by
  obtain ⟨y1, y2⟩ := hy
  obtain ⟨p1, p2⟩ := hp
  have u2 : 9007199254740992 * (X2 * C + T) ≤ 9007199254740992 * UP + (X2 * C + T) := by have := hu.2; rwa [Nat.mul_one] at this
  have d1 : 9007199254740992 * DN ≤ 9007199254740992 * (X2 * C - T) + (X2 * C - T) := by have := hd.1; rwa [Nat.mul_one] at this
  have u : 2251799813685249 * (X2 * C) ≤ 2251799813685248 * UP := by omega
  have d : 2251799813685248 * DN ≤ 2251799813685247 * (X2 * C) := by omega
  have u' := Nat.mul_le_mul_right K u
  have d' := Nat.mul_le_mul_right K d
  rw [Nat.mul_assoc 2251799813685249, Nat.mul_assoc 2251799813685248] at u'
  rw [Nat.mul_assoc 2251799813685247, Nat.mul_assoc 2251799813685248] at d'
  have c1 := Nat.mul_le_mul_right C y1
  have c2 := Nat.mul_le_mul_right C y2
  rw [Nat.add_mul, Nat.mul_assoc, Nat.mul_assoc 9007199254740992 (X2 * K)] at c1
  rw [Nat.add_mul, Nat.mul_assoc, Nat.mul_assoc 9007199254740992 (Y * X)] at c2
  rw [Nat.mul_right_comm Y C X] at p1 p2
  rw [Nat.mul_right_comm X2 C K] at u' d'
  clear hu hd u2 d1 u d y1 y2
  constructor
  · refine Nat.le_of_mul_le_mul_right (c := K) ?_ K_pos
    generalize Y * X * C = YXC at *
    generalize X2 * K * C = XKC at *
    generalize P * K = PK at *
    generalize UP * K = UK at *
    omega
  · refine Nat.le_of_mul_le_mul_right (c := K) ?_ K_pos
    generalize Y * X * C = YXC at *
    generalize X2 * K * C = XKC at *
    generalize P * K = PK at *
    generalize DN * K = DK at *
    omega

/-- x_0 = v / r against r. -/
theorem base_lin {R W X0 : Nat} (d1 : 4 * W ≤ 3 * (R * R)) (d2 : R * R ≤ 2049 * W) (hR : 0 < R) (h0 : Near X0 W R) : 5 * X0 ≤ 4 * R ∧ R ≤ 2050 * X0 := by
  obtain ⟨a, b⟩ := h0
  constructor
  · refine Nat.le_of_mul_le_mul_right (c := R) ?_ hR
    rw [Nat.mul_assoc, Nat.mul_assoc]
    generalize X0 * R = XR at *
    generalize R * R = RR at *
    omega
  · refine Nat.le_of_mul_le_mul_right (c := R) ?_ hR
    rw [Nat.mul_assoc]
    generalize X0 * R = XR at *
    generalize R * R = RR at *
    omega

/-- From the tests on v to the two bounds. -/
theorem dom_lin {R V RR L HH : Nat} (h : Near RR (R * R) K) (hl : L * 2048 = RR) (hh : HH * 2 = RR) (h1 : L ≤ V) (h2 : V ≤ HH) : 4 * (V * K) ≤ 3 * (R * R) ∧ R * R ≤ 2049 * (V * K) := by
  obtain ⟨a, b⟩ := h
  have c : 2 * V ≤ RR := by omega
  have d : RR ≤ 2048 * V := by omega
  have c' := Nat.mul_le_mul_right K c
  have d' := Nat.mul_le_mul_right K d
  rw [Nat.mul_assoc] at c' d'
  generalize V * K = W at *
  generalize RR * K = RK at *
  generalize R * R = R2 at *
  constructor <;> omega
end Go.Proofs.Qxb6603583a.Zig
