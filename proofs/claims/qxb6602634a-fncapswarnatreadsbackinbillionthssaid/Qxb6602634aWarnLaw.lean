/-
  THE WALK OF 'FnCapsWarnAtReadsBackInBillionths'. By an AI agent.
-/
import Derived.Test.Qxb6602634aZZCaps
namespace Go.Proofs.Qxb6602634a
open Go.RowKit
set_option linter.unusedVariables false

theorem to_i64 (z : Nat) (n : Int) (h : (Ieee.double.read z).toInt .zero = some n) (h1 : -68719476736 ≤ n) (h2 : n ≤ 68719476736) : floatToIntVal .f64 z .i64 = some n := by
  unfold floatToIntVal
  show (match (Ieee.double.read z).toInt .zero with | some n => if IntKind.i64.min ≤ n ∧ n ≤ IntKind.i64.max then some n else none | none => none) = _
  rw [h]
  have e1 : IntKind.i64.min = -9223372036854775808 := by decide
  have e2 : IntKind.i64.max = 9223372036854775807 := by decide
  simp only [e1, e2]
  rw [if_pos ⟨by omega, by omega⟩]
theorem float_nat (n : Nat) : floatOfInt .f64 (n : Int) = Ieee.double.nearest false n 0 := by
  show Ieee.double.nearest (decide ((n : Int) < 0)) (n : Int).natAbs 0 = _
  rw [decide_eq_false (by omega), Int.natAbs_natCast]
theorem float_neg (n : Nat) (h : 1 ≤ n) : floatOfInt .f64 (-(n : Int)) = Ieee.double.nearest true n 0 := by
  show Ieee.double.nearest (decide (-(n : Int) < 0)) (-(n : Int)).natAbs 0 = _
  rw [decide_eq_true (by omega), Int.natAbs_neg, Int.natAbs_natCast]

/-- The default share. -/
theorem rnd_default (w : World) : Calls Try.prog 9 #[.float .f64 4605380978949069210] w fun e w' => e = .returned (.int .i64 800000000) ∧ w' = w :=
  rnd_pos 4605380978949069210 4739994094766391296 4739994094770585600 800000000 (by decide +kernel) (by decide +kernel) (by decide +kernel) (by decide +kernel) w

/-- What is stored, divided and rounded back. -/
theorem round_trip (wa : Int) (h1 : -68719476736 ≤ wa) (h2 : wa ≤ 68719476736) : ∃ x, floatBits .quo .f64 (floatOfInt .f64 wa) 4741671816366391296 = some x ∧
    ∀ w, Calls Try.prog 9 #[.float .f64 x] w fun e w' => e = .returned (.int .i64 wa) ∧ w' = w := by
  rcases Int.lt_trichotomy wa 0 with h | h | h
  · obtain ⟨n, hn⟩ : ∃ n : Nat, wa = -(n : Int) := ⟨wa.natAbs, by omega⟩
    subst hn
    obtain ⟨q, y, z, m1, m2, o, hx, m3, t⟩ := Fl.trip_ng n (by omega) (by omega)
    refine ⟨q, by rw [float_neg n (by omega)]; exact m1, fun w => ?_⟩
    exact rnd_neg q (Fl.ng y) y z n m2 (by show (Ieee.double.order (Fl.ng y) 0 == some .gt || Ieee.double.order (Fl.ng y) 0 == some .eq) = false; rw [o]; rfl) hx m3 (to_i64 z n t (by omega) (by omega)) (by omega) (by omega) w
  · subst h
    refine ⟨0, by decide +kernel, fun w => ?_⟩
    exact rnd_pos 0 0 4602678819172646912 0 (by decide +kernel) (by decide +kernel) (by decide +kernel) (by decide +kernel) w
  · obtain ⟨n, hn⟩ : ∃ n : Nat, wa = (n : Int) := ⟨wa.natAbs, by omega⟩
    subst hn
    obtain ⟨q, y, z, Q, Y, m1, iq, m2, iy, m3, t⟩ := Fl.trip n (by omega) (by omega)
    refine ⟨q, by rw [float_nat n]; exact m1, fun w => ?_⟩
    exact rnd_pos q y z n m2 (by show (Ieee.double.order y 0 == some .gt || Ieee.double.order y 0 == some .eq) = true; rw [Fl.order_zero iy]; rfl) m3 (to_i64 z n t (by omega) (by omega)) w

theorem warn_out (tc : Bool) (tk : Int) (uc : Bool) (uk mode wa rs : Int) (w : World) (h : wa < -68719476736 ∨ 68719476736 < wa) :
    Calls Try.prog 3 #[.bool tc, .int .i64 tk, .bool uc, .int .i64 uk, .int .i64 mode, .int .i64 wa, .int .i64 rs] w fun e w' => e = .returned (.bool true) ∧ Below w.heap.size w w' := by
  rcases h with h | h
  · go_enter Try.func3, Try.ntmps3
    go_wp2
    go_ret
    exact ⟨rfl, Below.refl _ _⟩
  · have h' : ¬ wa < -68719476736 := by omega
    go_enter Try.func3, Try.ntmps3
    go_wp2
    go_ret
    exact ⟨rfl, Below.refl _ _⟩

set_option maxHeartbeats 1000000 in
set_option maxRecDepth 100000 in
theorem warn_in (tc : Bool) (tk : Int) (uc : Bool) (uk mode wa rs : Int) (w : World) (h1 : -68719476736 ≤ wa) (h2 : wa ≤ 68719476736) :
    Calls Try.prog 3 #[.bool tc, .int .i64 tk, .bool uc, .int .i64 uk, .int .i64 mode, .int .i64 wa, .int .i64 rs] w fun e w' => e = .returned (.bool true) ∧ Below w.heap.size w w' := by
  obtain ⟨x, hx, hr⟩ := round_trip wa h1 h2
  have HX := hide hx
  have HR := hide hr
  clear hx hr
  go_enter Try.func3, Try.ntmps3
  go_wp2_with fail
  refine (budget_any tc tk uc uk mode wa rs 0 0 0 w).mono ?_
  rintro e W1 ⟨rfl, hbud, hb1⟩
  have B1 := hide hbud
  have L1 := hide hb1
  clear hbud hb1
  go_wp2_with fail
  obtain ⟨wf, hwf⟩ : ∃ wf, (wa != 800000000) = wf := ⟨_, rfl⟩
  have HWF := hide hwf
  refine (zz_caps _ tc tk uc uk mode wa rs 0 0 0 x W1 wf _ (unhide B1) (unhide HWF) rfl (unhide HX)).mono ?_
  rintro e W2 ⟨rfl, hco⟩
  have CO := hide hco
  clear hco hwf
  unfold capsVal
  generalize ptr tc (W1.heap.size + 3) = p0
  generalize ptr uc (W1.heap.size + 3 + tc.toNat) = p1
  generalize ptr _ (W1.heap.size + 3 + tc.toNat + uc.toNat + wf.toNat) = p4
  cases wf
  · simp only [ptr, Bool.false_eq_true, if_false]
    have E8 := hide (show wa = 800000000 from by have := unhide HWF; simpa using this)
    go_wp2_with fail
    refine (warn_nil p0 p1 p4 mode _).mono ?_
    rintro e W3 ⟨rfl, hb3⟩
    have L3 := hide hb3
    clear hb3
    go_wp2_with fail
    have RD := hide (rnd_default W3)
    rw [← unhide E8] at RD
    refine (unhide RD).mono ?_
    rintro e w' ⟨rfl, hsame⟩
    obtain rfl := hsame.symm
    clear hsame
    go_wp2_with fail
    go_ret
    have s1 := (unhide L1).size
    have s2 := (unhide CO).bel.size
    exact ⟨rfl, (((unhide L1).trans ((unhide CO).bel.mono s1)).alloc (by omega) _).trans ((unhide L3).mono (by simp; omega))⟩
  · simp only [ptr, if_true]
    obtain ⟨hc3, _⟩ := (unhide CO).c3 rfl
    have C3 := hide hc3
    have T3 : W1.heap.size + 3 + tc.toNat + uc.toNat < W2.heap.size := by have := (unhide CO).top; simp at this; omega
    clear hc3
    generalize W1.heap.size + 3 + tc.toNat + uc.toNat = k3 at *
    go_wp2_with fail
    refine (warn_some p0 p1 p4 mode k3 x _ (by simp; omega) (by rw [World.cell?_alloc_past _ _ _ T3]; exact unhide C3)).mono ?_
    rintro e W3 ⟨rfl, hb3⟩
    have L3 := hide hb3
    clear hb3
    go_wp2_with fail
    refine (unhide HR W3).mono ?_
    rintro e w' ⟨rfl, hsame⟩
    obtain rfl := hsame.symm
    clear hsame
    go_wp2_with fail
    go_ret
    have s1 := (unhide L1).size
    have s2 := (unhide CO).bel.size
    exact ⟨rfl, (((unhide L1).trans ((unhide CO).bel.mono s1)).alloc (by omega) _).trans ((unhide L3).mono (by simp; omega))⟩
end Go.Proofs.Qxb6602634a
