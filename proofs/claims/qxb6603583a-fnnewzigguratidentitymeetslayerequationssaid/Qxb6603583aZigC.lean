/-
  THE ZIGGURAT OVER THE IDENTITY: what its cells hold and what the two laws ask of them. By an AI agent.
-/
import Derived.Test.Qxb6603583aZigB
namespace Go.Proofs.Qxb6603583a.Zig
open Fl Ieee
set_option linter.unusedVariables false

def scw (r v i : Nat) : Nat := fmul (xs r v i) 4368491638549381120
def yq (r v i : Nat) : Nat := fquo (xs r v (i + 1)) (xs r v i)
def ym (r v i : Nat) : Nat := fmul (yq r v i) 4841369599423283200
def inn (r v i : Nat) : Nat := (((double.read (ym r v i)).toInt .zero).getD 0).toNat

theorem scale_is {r v R V : Nat} (D : Dom r v R V) (i : Nat) (hi : i ≤ 255) : ∃ X S, Is (xs r v i) X ∧ double.mul (xs r v i) 4368491638549381120 = some (scw r v i) ∧ Is (scw r v i) S ∧ S * 2 ^ 53 = X ∧ Ok S ∧ R ≤ 2050 * X ∧ X ≤ 100 * R := by
  obtain ⟨X, hX, a, b⟩ := edge D i hi
  have okX : Ok X := ok_rel (c := 2050) D.rl D.rh (Gbig (by decide)) a (by omega)
  obtain ⟨z, S, m, iz, e⟩ := mul_down (c := 4368491638549381120) 53 hX okX (by decide) (by decide)
  have ez : scw r v i = z := fmul_eq m
  rw [ez]
  have e' : S * 9007199254740992 = X := e
  exact ⟨X, S, hX, m, iz, e, ok_rel (c := 18464758472219033600000) D.rl D.rh (Gbig (by decide)) (by omega) (by omega), a, b⟩

/-- The edge, read back out of its scale. -/
theorem back {r v R V : Nat} (D : Dom r v R V) (i : Nat) (hi : i ≤ 255) : ∃ z X, double.mul (scw r v i) 4845873199050653696 = some z ∧ Is z X ∧ Is (xs r v i) X ∧ R ≤ 2050 * X ∧ X ≤ 100 * R := by
  obtain ⟨X, S, hX, m, iS, e, okS, a, b⟩ := scale_is D i hi
  obtain ⟨z, m2, iz⟩ := mul_up (c := 4845873199050653696) 53 iS okS (by decide) (by decide)
  rw [e] at iz
  exact ⟨z, X, m2, iz, hX, a, b⟩

theorem k_room : LO * G ≤ K ∧ K * G ≤ HI := by
  obtain ⟨q, hq, hK⟩ := K_pow
  exact ⟨lg_le (e := q) (by rw [hK]; exact Nat.le_refl _) (by omega), gh_le (e := q) (by rw [hK]; exact Nat.le_refl _) (by omega)⟩

/-- The inner count. -/
theorem inner_is {r v R V : Nat} (D : Dom r v R V) (i : Nat) (hi : i ≤ 254) : ∃ X X2 Y, Is (xs r v i) X ∧ Is (xs r v (i + 1)) X2 ∧ double.div (xs r v (i + 1)) (xs r v i) = some (yq r v i) ∧ Near Y (X2 * K) X ∧
    double.mul (yq r v i) 4841369599423283200 = some (ym r v i) ∧ (double.read (ym r v i)).toInt .zero = some (inn r v i : Int) ∧
    4503599627370496 ≤ inn r v i ∧ inn r v i ≤ 9259400833873739776 ∧ (1 ≤ i → inn r v i < 9007199254740992) ∧ Is (double.nearest false (inn r v i) 0) (Y * 4503599627370496) ∧ Ok (Y * 4503599627370496) := by
  obtain ⟨X, X2, hX, hX2, l0, l1, l2, l3, a, b, c, d⟩ := edges D i hi
  have okX : Ok X := ok_rel (c := 2050) D.rl D.rh (Gbig (by decide)) a (by omega)
  have okX2 : Ok X2 := ok_rel (c := 2050) D.rl D.rh (Gbig (by decide)) c (by omega)
  obtain ⟨y, Y, m1, iy, ny⟩ := hX2.div hX okX2 okX
  have ey : yq r v i = y := fquo_eq m1
  obtain ⟨k1, k2⟩ := inner_bounds hX.pos l1 l2 ny
  have okY : Ok Y := ok_rel (c := 2056) k_room.1 k_room.2 (Gbig (by decide)) (by omega) (by omega)
  obtain ⟨z, m2, iz⟩ := mul_up (c := 4841369599423283200) 52 iy okY (by decide) (by decide)
  rw [e52] at iz
  have ez : ym r v i = z := by unfold ym; rw [ey]; exact fmul_eq m2
  have ti := iz.toInt
  -- the count is whole
  obtain ⟨q, hq, hK⟩ := K_pow
  obtain ⟨mm, kk, ry, mm1, mm2, eY⟩ := iy
  have hkk : q < 53 + kk := by
    have : 2 ^ q < 2 ^ (53 + kk) := by
      rw [← hK, Nat.pow_add]
      exact Nat.lt_of_le_of_lt k1 (by rw [eY]; exact Nat.mul_lt_mul_of_pos_right mm2 (Nat.two_pow_pos kk))
    exact (Nat.pow_lt_pow_iff_right (by decide)).1 this
  have eW : Y * 4503599627370496 = mm * 2 ^ (kk + 52 - q) * K := by
    rw [eY, hK, Nat.mul_assoc mm, ← e52, ← Nat.pow_add, Nat.mul_assoc, ← Nat.pow_add, Nat.sub_add_cancel (by omega)]
  have hn : Y * 4503599627370496 / K = mm * 2 ^ (kk + 52 - q) := by rw [eW, Nat.mul_div_cancel _ K_pos]
  rw [hn] at ti
  have en : inn r v i = mm * 2 ^ (kk + 52 - q) := by unfold inn; rw [ez, ti]; rfl
  rw [← en] at ti eW hn
  have n1 : 4503599627370496 ≤ inn r v i := by
    refine Nat.le_of_mul_le_mul_right (c := K) ?_ K_pos
    rw [← eW]; omega
  have n2 : inn r v i ≤ 9259400833873739776 := by
    refine Nat.le_of_mul_le_mul_right (c := K) ?_ K_pos
    rw [← eW]; omega
  have n3 : 1 ≤ i → inn r v i < 9007199254740992 := fun h => by
    have := inner_top hX.pos (l3 h) ny
    refine Nat.lt_of_mul_lt_mul_right (a := K) ?_
    rw [← eW]; omega
  obtain ⟨U, iu, _, hx⟩ := ofNat_is (inn r v i) (by omega) (by omega)
  have eU : U = Y * 4503599627370496 := by
    have e : Y * 4503599627370496 = mm * 2 ^ (kk + 52) := by rw [eY, Nat.mul_assoc, ← e52, ← Nat.pow_add]
    rw [e]
    exact hx mm (kk + 52) (by rw [← eW, e]) mm1 mm2
  rw [eU] at iu
  refine ⟨X, X2, Y, hX, hX2, by rw [ey]; exact m1, ny, by rw [ey, ez]; exact m2, by rw [ez]; exact ti, n1, n2, n3, iu, ?_⟩
  exact ok_rel (c := 9259400833873739776) k_room.1 k_room.2 (Gbig (by decide)) (by omega) (by omega)

/-- The last inner count is 0. -/
theorem inner_last {r v R V : Nat} (D : Dom r v R V) : double.div (xs r v 256) (xs r v 255) = some (yq r v 255) ∧ double.mul (yq r v 255) 4841369599423283200 = some (ym r v 255) ∧ (double.read (ym r v 255)).toInt .zero = some (inn r v 255 : Int) ∧ inn r v 255 = 0 := by
  obtain ⟨X, hX, _, _⟩ := edge D 255 (by decide)
  have d := zero_div hX
  have ey : yq r v 255 = 0 := by unfold yq; rw [xs_top]; exact fquo_eq d
  have mz := zero_mul (const_is 4841369599423283200 1074 (by decide) (by decide))
  have em : ym r v 255 = 0 := by unfold ym; rw [ey]; exact fmul_eq mz
  have ei : inn r v 255 = 0 := by unfold inn; rw [em]; decide
  refine ⟨by rw [xs_top, ey]; exact d, by rw [ey, em]; exact mz, ?_, ei⟩
  rw [em, ei]; decide

/-- FIRST LAW: the scale reads back. -/
theorem law_back {r v R V : Nat} (D : Dom r v R V) (i : Nat) (hi : i ≤ 255) : ∃ z, double.mul (scw r v i) 4845873199050653696 = some z ∧ double.order z (xs r v i) = some .eq := by
  obtain ⟨z, X, m, iz, ix, _, _⟩ := back D i hi
  exact ⟨z, m, order_eq iz ix rfl⟩

theorem room_sub {V V30 l : Nat} (h : V30 * 1073741824 = V) (hl : l ≤ V30) : l + V30 ≤ V := by omega
theorem room_sub2 {T l Z : Nat} (h : T * 1125899906842624 = Z) (hl : l ≤ T) : l + T ≤ Z := by omega
theorem room_diff {l R H Q H2 : Nat} (h : l * G ≤ R) (h1 : R ≤ H) (h2 : H ≤ 3000 * Q) (h3 : Q ≤ 2 * (H2 - H)) (h4 : H < H2) : l + H ≤ H2 := by
  have h5 : l * 10000 ≤ l * G := Nat.mul_le_mul_left _ (Gbig (by decide))
  have h6 : l * 10000 ≤ R := Nat.le_trans h5 h
  clear h h5
  omega

/-- FIRST LAW: the areas. -/
theorem law_area {r v R V : Nat} (D : Dom r v R V) : ∃ v30 lo hi, double.mul v 4472074429978902528 = some v30 ∧ double.sub v v30 = some lo ∧ double.add v v30 = some hi ∧
    ∀ i, 1 ≤ i → i ≤ 254 → ∃ z d ar, double.mul (scw r v i) 4845873199050653696 = some z ∧ double.sub (xs r v (i + 1)) (xs r v i) = some d ∧ double.mul d z = some ar ∧
      (double.order ar lo == some .gt || double.order ar lo == some .eq) = true ∧ (double.order ar hi == some .lt || double.order ar hi == some .eq) = true := by
  have okV : Ok V := ok_of D.vl D.vh
  obtain ⟨v30, V30, m1, i1, e1⟩ := mul_down (c := 4472074429978902528) 30 D.v okV (by decide) (by decide)
  have e1' : V30 * 1073741824 = V := e1
  have ok30 : Ok V30 := ok_rel (c := 1073741824) D.vl D.vh (Gbig (by decide)) (by omega) (by omega)
  obtain ⟨lo, LOW, m2, i2, n2⟩ := D.v.sub i1 okV (room_sub e1' ok30.1)
  obtain ⟨hi, HIGH, m3, i3, n3⟩ := D.v.add i1 okV ok30
  refine ⟨v30, lo, hi, m1, m2, m3, fun i h1 h2 => ?_⟩
  obtain ⟨n, rfl⟩ : ∃ n, i = n + 1 := ⟨i - 1, by omega⟩
  obtain ⟨q, H, Q, H2, _, _, hH, hH2, hQ, nq, nh, a1, a2, ra, rb⟩ := layer D n (by omega)
  obtain ⟨z, X, mz, iz, ix, _, _⟩ := back D (n + 1) (by omega)
  have ex : xs r v (n + 1) = hw r v n := xs_mid _ _ _ (by omega) (by omega)
  have ex2 : xs r v (n + 1 + 1) = hw r v (n + 1) := xs_mid _ _ _ (by omega) (by omega)
  have eXH : X = H := by
    rw [ex] at ix
    exact ix.unique hH
  subst eXH
  obtain ⟨l1, l2, l3, b1, b2, b3, b4⟩ := next_lin hQ a1 a2 nh
  have okH : Ok X := ok_rel (c := 46) D.rl D.rh (Gbig (by decide)) (by omega) rb
  have okH2 : Ok H2 := ok_rel (c := 100) D.rl D.rh (Gbig (by decide)) (by omega) (by omega)
  obtain ⟨d, DD, md, id, nd⟩ := hH2.sub hH okH2 (room_diff D.rl ra a1 b4 l1)
  obtain ⟨c1, c2⟩ := diff_lin hQ a1 a2 nh nd
  have okD : Ok DD := ok_rel (c := 10000) D.rl D.rh (Gbig (by decide)) (by omega) (by omega)
  obtain ⟨ar, AR, ma, ia, na, _⟩ := id.mul iz okD okH
  obtain ⟨f1, f2⟩ := area nq c1 c2 na e1' n2 n3
  exact ⟨z, d, ar, mz, by rw [ex, ex2]; exact md, ma, geq_of ia i2 f1, leq_of ia i3 f2⟩

/-- FIRST LAW: the inner counts. -/
theorem law_inner {r v R V : Nat} (D : Dom r v R V) (i : Nat) (hi : i ≤ 254) : ∃ z xx p t up dn, double.mul (scw r v i) 4845873199050653696 = some z ∧ double.mul (scw r v (i + 1)) 5080060379673919488 = some xx ∧
    double.mul (double.nearest false (inn r v i) 0) z = some p ∧ double.mul xx 4382002437431492608 = some t ∧ double.add xx t = some up ∧ double.sub xx t = some dn ∧
      (double.order p up == some .lt || double.order p up == some .eq) = true ∧ (double.order p dn == some .gt || double.order p dn == some .eq) = true := by
  obtain ⟨X, X2, Y, hX, hX2, _, ny, _, _, _, _, _, ia, okA⟩ := inner_is D i hi
  obtain ⟨z, X', mz, iz, ix, b1, b2⟩ := back D i (by omega)
  obtain rfl := hX.unique ix
  obtain ⟨X2', S2, hX2', _, iS2, e2, okS2, c1, c2⟩ := scale_is D (i + 1) (by omega)
  obtain rfl := hX2.unique hX2'
  obtain ⟨xx, mx, ixx⟩ := mul_up (c := 5080060379673919488) 105 iS2 okS2 (by decide) (by decide)
  have eXX : S2 * 2 ^ 105 = X2 * 4503599627370496 := by
    rw [← e2, ← e52, Nat.mul_assoc, ← Nat.pow_add]
  rw [eXX] at ixx
  have okX : Ok X := ok_rel (c := 2050) D.rl D.rh (Gbig (by decide)) b1 (by omega)
  have okXX : Ok (X2 * 4503599627370496) := ok_rel (c := 450359962737049600) D.rl D.rh (Gbig (by decide)) (by omega) (by omega)
  obtain ⟨p, P, mp, ip, np, _⟩ := ia.mul iz okA okX
  obtain ⟨t, T, mt, it, et⟩ := mul_down (c := 4382002437431492608) 50 ixx okXX (by decide) (by decide)
  have et' : T * 1125899906842624 = X2 * 4503599627370496 := et
  have okT : Ok T := ok_rel (c := 450359962737049600000000000000) D.rl D.rh (Gbig (by decide)) (by omega) (by omega)
  obtain ⟨up, UP, mu, iu, nu⟩ := ixx.add it okXX okT
  obtain ⟨dn, DN, md, idn, nd⟩ := ixx.sub it okXX (room_sub2 et' okT.1)
  obtain ⟨f1, f2⟩ := inner_close ny np et' nu nd
  exact ⟨z, xx, p, t, up, dn, mz, mx, mp, mt, mu, md, leq_of ip iu f1, geq_of ip idn f2⟩

/-- SECOND LAW: the order of the edges and scales. -/
theorem law_order {r v R V : Nat} (D : Dom r v R V) (i : Nat) (hi : i ≤ 254) : double.order (xs r v i) (xs r v (i + 1)) = some .lt ∧ double.order (scw r v i) (scw r v (i + 1)) = some .lt := by
  obtain ⟨X, X2, hX, hX2, l0, _⟩ := edges D i hi
  obtain ⟨X', S, ix, _, iS, e, _⟩ := scale_is D i (by omega)
  obtain ⟨X2', S2, ix2, _, iS2, e2, _⟩ := scale_is D (i + 1) (by omega)
  obtain rfl := hX.unique ix
  obtain rfl := hX2.unique ix2
  rw [e53] at e e2
  exact ⟨order_lt hX hX2 l0, order_lt iS iS2 (by omega)⟩
end Go.Proofs.Qxb6603583a.Zig
