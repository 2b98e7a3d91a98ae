/-
  THE ZIGGURAT OVER THE IDENTITY: its words. By an AI agent.
-/
import Derived.Test.Qxb6603583aZigA
namespace Go.Proofs.Qxb6603583a.Zig
open Fl Ieee
set_option linter.unusedVariables false

def fadd (x y : Nat) : Nat := (double.add x y).getD 0
def fmul (x y : Nat) : Nat := (double.mul x y).getD 0
def fquo (x y : Nat) : Nat := (double.div x y).getD 0
theorem fadd_eq {x y z : Nat} (h : double.add x y = some z) : fadd x y = z := by unfold fadd; rw [h]; rfl
theorem fmul_eq {x y z : Nat} (h : double.mul x y = some z) : fmul x y = z := by unfold fmul; rw [h]; rfl
theorem fquo_eq {x y z : Nat} (h : double.div x y = some z) : fquo x y = z := by unfold fquo; rw [h]; rfl

/-- The heights from r on. -/
def hw (r v : Nat) : Nat → Nat
  | 0 => r
  | n + 1 => fadd (hw r v n) (fquo v (hw r v n))

/-- Room to both sides. -/
def G : Nat := 2 ^ 100

structure Dom (r v R V : Nat) : Prop where
  r : Is r R
  v : Is v V
  rl : LO * G ≤ R
  rh : R * G ≤ HI
  vl : LO * G ≤ V
  vh : V * G ≤ HI
  d1 : 4 * (V * K) ≤ 3 * (R * R)
  d2 : R * R ≤ 2049 * (V * K)

theorem G_pos : 0 < G := Nat.two_pow_pos _
theorem ok_rel {c N R : Nat} (rl : LO * G ≤ R) (rh : R * G ≤ HI) (hc : c ≤ G) (h1 : R ≤ c * N) (h2 : N ≤ c * R) : Ok N := by
  constructor
  · refine Nat.le_of_mul_le_mul_right (c := G) ?_ G_pos
    calc LO * G ≤ R := rl
      _ ≤ c * N := h1
      _ ≤ G * N := Nat.mul_le_mul_right _ hc
      _ = N * G := Nat.mul_comm _ _
  · calc N ≤ c * R := h2
      _ ≤ G * R := Nat.mul_le_mul_right _ hc
      _ = R * G := Nat.mul_comm _ _
      _ ≤ HI := rh
theorem Gbig {c : Nat} (h : c ≤ 1267650600228229401496703205376) : c ≤ G := by
  have : G = 1267650600228229401496703205376 := by unfold G; decide
  rw [this]; exact h

/-- A constant that is a power of two. -/
theorem const_is (c e : Nat) (h : c = (e + 1) * 4503599627370496) (he : e < 2046) : Is c (2 ^ (52 + e)) := by
  rw [h, Nat.pow_add]; exact is_pow e he
theorem mul_down {x c a : Nat} (d : Nat) (hx : Is x a) (ha : Ok a) (hd : d ≤ 200) (hc : c = (1023 - d) * 4503599627370496) : ∃ z b, double.mul x c = some z ∧ Is z b ∧ b * 2 ^ d = a := by
  obtain ⟨q, hq, hK⟩ := K_pow
  have hc' := const_is c (1022 - d) (by rw [hc]; congr 1; omega) (by omega)
  obtain ⟨z, b, h1, h2, h3⟩ := hx.mul_pow hc' ha (by omega) (by omega)
  refine ⟨z, b, h1, h2, ?_⟩
  have e : K = 2 ^ d * 2 ^ (52 + (1022 - d)) := by rw [hK, ← Nat.pow_add]; congr 1; omega
  rw [e, ← Nat.mul_assoc] at h3
  exact Nat.eq_of_mul_eq_mul_right (Nat.two_pow_pos _) h3
theorem mul_up {x c a : Nat} (d : Nat) (hx : Is x a) (ha : Ok a) (hd : d ≤ 200) (hc : c = (1023 + d) * 4503599627370496) : ∃ z, double.mul x c = some z ∧ Is z (a * 2 ^ d) := by
  obtain ⟨q, hq, hK⟩ := K_pow
  have hc' := const_is c (1022 + d) (by rw [hc]; congr 1; omega) (by omega)
  obtain ⟨z, b, h1, h2, h3⟩ := hx.mul_pow hc' ha (by omega) (by omega)
  refine ⟨z, h1, ?_⟩
  have e : 2 ^ (52 + (1022 + d)) = 2 ^ d * K := by rw [hK, ← Nat.pow_add]; congr 1; omega
  rw [e, ← Nat.mul_assoc] at h3
  rwa [Nat.eq_of_mul_eq_mul_right K_pos h3] at h2

theorem pow_between {e i : Nat} {N : Nat} (h : 2 ^ e ≤ N) (hi : i ≤ e) : 2 ^ i ≤ N := Nat.le_trans (Nat.pow_le_pow_right (by decide) hi) h

/-- From the tests to the domain. -/
theorem dom_r {r : Nat} (h1 : (double.order r 4336966441157787648 == some .gt || double.order r 4336966441157787648 == some .eq) = true)
    (h2 : (double.order r 4877398396442247168 == some .lt || double.order r 4877398396442247168 == some .eq) = true) :
    ∃ R, Is r R ∧ 2 ^ (52 + 962) ≤ R ∧ R ≤ 2 ^ (52 + 1082) := by
  exact between (const_is _ 962 (by decide) (by decide)) (const_is _ 1082 (by decide) (by decide)) h1 h2

theorem near_half {U A B : Nat} (h : Near U A B) : U * B ≤ 2 * A ∧ A ≤ 2 * (U * B) := by
  obtain ⟨a, b⟩ := h
  generalize U * B = X at *
  constructor <;> omega

theorem lg_le {e N : Nat} (h : 2 ^ e ≤ N) (he : 900 ≤ e) : LO * G ≤ N := by
  obtain ⟨lo, hlo, hLO⟩ := LO_pow
  rw [hLO]; unfold G; rw [← Nat.pow_add]
  exact pow_between h (by omega)
theorem gh_le {e N : Nat} (h : N ≤ 2 ^ e) (he : e ≤ 1300) : N * G ≤ HI := by
  obtain ⟨hi, hhi, hHI⟩ := HI_pow
  rw [hHI]; unfold G
  exact le_pow_mul h (Nat.le_refl _) (by omega)
theorem ok_of {N : Nat} (h1 : LO * G ≤ N) (h2 : N * G ≤ HI) : Ok N :=
  ok_rel (c := 1) h1 h2 (Gbig (by decide)) (by omega) (by omega)

/-- The tests on v. -/
theorem dom_v {r R : Nat} (hr : Is r R) (h1 : 2 ^ (52 + 962) ≤ R) (h2 : R ≤ 2 ^ (52 + 1082)) :
    ∃ rr l h, double.mul r r = some rr ∧ double.mul rr 4557642822898941952 = some l ∧ double.mul rr 4602678819172646912 = some h ∧
      ∀ v, (double.order v l == some .gt || double.order v l == some .eq) = true → (double.order v h == some .lt || double.order v h == some .eq) = true → ∃ V, Dom r v R V := by
  have rl := lg_le h1 (by decide)
  have rh := gh_le h2 (by decide)
  have okR := ok_of rl rh
  obtain ⟨rr, RR, m1, i1, n1, _⟩ := hr.mul hr okR okR
  obtain ⟨x1, x2⟩ := near_half n1
  obtain ⟨q, hq, hK⟩ := K_pow
  obtain ⟨e, he⟩ : ∃ e : Nat, e = 953 := ⟨_, rfl⟩
  have lo : 2 ^ e ≤ RR := by
    refine Nat.le_of_mul_le_mul_right (c := K) ?_ K_pos
    have h : 2 ^ e * K * 2 ≤ R * R := by
      rw [hK, ← Nat.pow_add, ← Nat.pow_succ]
      exact pow_mul_le h1 h1 (by omega)
    generalize 2 ^ e * K = a at *
    clear h1 h2
    omega
  obtain ⟨f, hf⟩ : ∃ f : Nat, f = 2268 := ⟨_, rfl⟩
  obtain ⟨g, hg⟩ : ∃ g : Nat, g = 1195 := ⟨_, rfl⟩
  have hi : RR ≤ 2 ^ g := by
    refine Nat.le_of_mul_le_mul_right (c := K) ?_ K_pos
    have a : R * R ≤ 2 ^ f := le_pow_mul h2 h2 (by omega)
    have b : 2 * 2 ^ f = 2 ^ g * K := by
      rw [hK, ← Nat.pow_add, Nat.mul_comm, ← Nat.pow_succ]; congr 1; omega
    rw [← b]
    clear h1 h2
    generalize 2 ^ f = y at *
    omega
  have okRR := ok_of (lg_le lo (by omega)) (gh_le hi (by omega))
  obtain ⟨l, L, m2, i2, e2⟩ := mul_down (c := 4557642822898941952) 11 i1 okRR (by decide) (by decide)
  obtain ⟨h, HH, m3, i3, e3⟩ := mul_down (c := 4602678819172646912) 1 i1 okRR (by decide) (by decide)
  refine ⟨rr, l, h, m1, m2, m3, fun v t1 t2 => ?_⟩
  obtain ⟨V, iv, v1, v2⟩ := between i2 i3 t1 t2
  have e2' : L * 2048 = RR := e2
  have e3' : HH * 2 = RR := e3
  have d := dom_lin n1 e2' e3' v1 v2
  obtain ⟨t, ht⟩ : ∃ t : Nat, t = 942 := ⟨_, rfl⟩
  have vlo : 2 ^ t ≤ V := by
    refine Nat.le_trans ?_ v1
    refine Nat.le_of_mul_le_mul_right (c := 2 ^ 11) ?_ (by decide)
    rw [← Nat.pow_add, e2]; exact pow_between lo (by omega)
  have vhi : V ≤ 2 ^ g := by
    refine Nat.le_trans v2 (Nat.le_trans ?_ hi)
    clear h1 h2 lo hi
    omega
  exact ⟨V, hr, iv, rl, rh, lg_le vlo (by omega), gh_le vhi (by omega), d.1, d.2⟩

/-- The invariant of the heights. -/
theorem height {r v R V : Nat} (D : Dom r v R V) : ∀ n, n ≤ 254 → ∃ H, Is (hw r v n) H ∧ R ≤ H ∧ H * H ≤ R * R + 3 * (V * K) * n
  | 0, _ => ⟨R, D.r, Nat.le_refl _, Nat.le_add_right _ _⟩
  | n + 1, hn => by
    obtain ⟨H, hH, i1, i2⟩ := height D n (by omega)
    have top := height_top D.d1 (by omega) D.d2 i2
    have okH : Ok H := ok_rel (c := 46) D.rl D.rh (Gbig (by decide)) (by omega) top
    have okV : Ok V := ok_of D.vl D.vh
    obtain ⟨q, Q, m1, iq, nq⟩ := D.v.div hH okV okH
    obtain ⟨e1, e2⟩ := step_q D.d1 D.d2 (by omega) i1 i2 nq hH.pos
    have okQ : Ok Q := ok_rel (c := 3000) D.rl D.rh (Gbig (by decide)) (by omega) (by omega)
    obtain ⟨h2, H2, m2, ih, nh⟩ := hH.add iq okH okQ
    have st := step_h D.d1 D.d2 (by omega) i1 i2 nq hH.pos nh
    refine ⟨H2, ?_, st.1, st.2⟩
    show Is (fadd (hw r v n) (fquo v (hw r v n))) H2
    rw [fquo_eq m1, fadd_eq m2]; exact ih

/-- One layer. -/
theorem layer {r v R V : Nat} (D : Dom r v R V) (n : Nat) (hn : n ≤ 253) : ∃ q H Q H2, double.div v (hw r v n) = some q ∧ double.add (hw r v n) q = some (hw r v (n + 1)) ∧
    Is (hw r v n) H ∧ Is (hw r v (n + 1)) H2 ∧ 0 < Q ∧ Near Q (V * K) H ∧ Near H2 (H + Q) 1 ∧ H ≤ 3000 * Q ∧ 5 * Q ≤ 4 * H ∧ R ≤ H ∧ H ≤ 46 * R := by
  obtain ⟨H, hH, i1, i2⟩ := height D n (by omega)
  have top := height_top D.d1 (by omega) D.d2 i2
  have okH : Ok H := ok_rel (c := 46) D.rl D.rh (Gbig (by decide)) (by omega) top
  have okV : Ok V := ok_of D.vl D.vh
  obtain ⟨q, Q, m1, iq, nq⟩ := D.v.div hH okV okH
  obtain ⟨e1, e2⟩ := step_q D.d1 D.d2 (by omega) i1 i2 nq hH.pos
  have okQ : Ok Q := ok_rel (c := 3000) D.rl D.rh (Gbig (by decide)) (by omega) (by omega)
  obtain ⟨h2, H2, m2, ih, nh⟩ := hH.add iq okH okQ
  have ew : hw r v (n + 1) = h2 := by
    show fadd (hw r v n) (fquo v (hw r v n)) = h2
    rw [fquo_eq m1, fadd_eq m2]
  rw [ew]
  exact ⟨q, H, Q, H2, m1, m2, hH, ih, iq.pos, nq, nh, e1, e2, i1, top⟩

/-- The edges x_i. -/
def xs (r v i : Nat) : Nat := if i = 0 then fquo v r else if i ≤ 255 then hw r v (i - 1) else 0
theorem xs_zero (r v : Nat) : xs r v 0 = fquo v r := rfl
theorem xs_mid (r v i : Nat) (h1 : 1 ≤ i) (h2 : i ≤ 255) : xs r v i = hw r v (i - 1) := by unfold xs; rw [if_neg (by omega), if_pos h2]
theorem xs_top (r v : Nat) : xs r v 256 = 0 := rfl

theorem base {r v R V : Nat} (D : Dom r v R V) : ∃ x0 X0, double.div v r = some x0 ∧ xs r v 0 = x0 ∧ Is x0 X0 ∧ 5 * X0 ≤ 4 * R ∧ R ≤ 2050 * X0 := by
  obtain ⟨x0, X0, m, i, n⟩ := D.v.div D.r (ok_of D.vl D.vh) (ok_of D.rl D.rh)
  obtain ⟨a, b⟩ := base_lin D.d1 D.d2 D.r.pos n
  exact ⟨x0, X0, m, by rw [xs_zero, fquo_eq m], i, a, b⟩

/-- Two edges that follow one another. -/
theorem edges {r v R V : Nat} (D : Dom r v R V) (i : Nat) (hi : i ≤ 254) : ∃ X X2, Is (xs r v i) X ∧ Is (xs r v (i + 1)) X2 ∧ X < X2 ∧ 4001 * X ≤ 4000 * X2 ∧ X2 ≤ 2055 * X ∧ (1 ≤ i → 100 * X2 ≤ 181 * X) ∧
    R ≤ 2050 * X ∧ X ≤ 46 * R ∧ R ≤ 2050 * X2 ∧ X2 ≤ 100 * R := by
  rcases Nat.eq_zero_or_pos i with h | h
  · subst h
    obtain ⟨x0, X0, _, e, ix, a, b⟩ := base D
    have := ix.pos
    exact ⟨X0, R, e ▸ ix, by rw [xs_mid _ _ 1 (by omega) (by omega)]; exact D.r, by omega, by omega, by omega, by omega, by omega, by omega, by omega, by omega⟩
  · obtain ⟨n, rfl⟩ : ∃ n, i = n + 1 := ⟨i - 1, by omega⟩
    obtain ⟨q, H, Q, H2, _, _, hH, hH2, hQ, nq, nh, e1, e2, i1, top⟩ := layer D n (by omega)
    obtain ⟨l1, l2, l3, _, _, _, _⟩ := next_lin hQ e1 e2 nh
    refine ⟨H, H2, by rw [xs_mid _ _ _ (by omega) (by omega)]; exact hH, by rw [xs_mid _ _ _ (by omega) (by omega)]; exact hH2, l1, l2, by omega, fun _ => l3, by omega, top, by omega, by omega⟩
theorem edge {r v R V : Nat} (D : Dom r v R V) (i : Nat) (hi : i ≤ 255) : ∃ X, Is (xs r v i) X ∧ R ≤ 2050 * X ∧ X ≤ 100 * R := by
  rcases Nat.lt_or_ge i 255 with h | h
  · obtain ⟨X, X2, a, _, _, _, _, _, b, c, _, _⟩ := edges D i (by omega)
    exact ⟨X, a, b, by omega⟩
  · have : i = 254 + 1 := by omega
    subst this
    obtain ⟨X, X2, _, a, _, _, _, _, _, _, b, c⟩ := edges D 254 (by omega)
    exact ⟨X2, a, b, c⟩
end Go.Proofs.Qxb6603583a.Zig
