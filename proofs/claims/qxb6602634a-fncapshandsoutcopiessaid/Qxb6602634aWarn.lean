/-
  'b1RoundBillionths', 'warnAt', 'ZZWarnAt'. By an AI agent.
-/
import Derived.Test.Qxb6602634aBudget
import Derived.Test.Qxb6602634aFlD
import Derived.Laws.FloatArith
namespace Go.Proofs.Qxb6602634a
open Go.RowKit
set_option linter.unusedVariables false

theorem rnd_pos (x y z : Nat) (n : Int) (m1 : floatBits .mul .f64 x 4741671816366391296 = some y) (o1 : (FloatKind.f64.format.order y 0 == some .gt || FloatKind.f64.format.order y 0 == some .eq) = true)
    (m2 : floatBits .add .f64 y 4602678819172646912 = some z) (t : floatToIntVal .f64 z .i64 = some n) (w : World) :
    Calls Try.prog 9 #[.float .f64 x] w fun e w' => e = .returned (.int .i64 n) ∧ w' = w := by
  have q1 := fun w => run_float_arith (P := Try.prog) w .mul 36 .f64 _ _ _ m1
  have q2 := fun w => run_float_arith (P := Try.prog) w .add 36 .f64 _ _ _ m2
  have q3 := fun w => run_convert_float_int (P := Try.prog) w 36 2 .f64 .i64 _ _ (by kernel_rfl) Try.underlying2 t
  clear m1 m2 t
  go_enter Try.func9, Try.ntmps9
  go_wp2
  go_ret
  exact ⟨rfl, rfl⟩

theorem rnd_neg (x y y' z : Nat) (n : Int) (m1 : floatBits .mul .f64 x 4741671816366391296 = some y) (o1 : (FloatKind.f64.format.order y 0 == some .gt || FloatKind.f64.format.order y 0 == some .eq) = false)
    (hn : Op.negFloat .f64 y = y') (m2 : floatBits .add .f64 y' 4602678819172646912 = some z) (t : floatToIntVal .f64 z .i64 = some n) (b1 : 0 ≤ n) (b2 : n ≤ 68719476736) (w : World) :
    Calls Try.prog 9 #[.float .f64 x] w fun e w' => e = .returned (.int .i64 (-n)) ∧ w' = w := by
  have q1 := fun w => run_float_arith (P := Try.prog) w .mul 36 .f64 _ _ _ m1
  have q2 := fun w => run_float_arith (P := Try.prog) w .add 36 .f64 _ _ _ m2
  have q3 := fun w => run_convert_float_int (P := Try.prog) w 36 2 .f64 .i64 _ _ (by kernel_rfl) Try.underlying2 t
  have q4 : ∀ w, (Op.unary .neg (.float .f64 y)).run Try.prog w = .ok (.float .f64 y') w := fun w => by rw [← hn]; rfl
  clear m1 m2 t hn
  go_enter Try.func9, Try.ntmps9
  go_wp2
  go_ret
  exact ⟨rfl, rfl⟩

theorem warn_nil (p0 p1 p4 : Option Addr) (mode : Int) (w : World) :
    Calls Try.prog 10 #[.agg #[.pointer p0, .pointer p1, .int .i64 mode, .pointer none, .pointer p4]] w fun e w' => e = .returned (.float .f64 4605380978949069210) ∧ Below w.heap.size w w' := by
  go_enter Try.func10, Try.ntmps10
  go_wp2
  go_ret
  exact ⟨rfl, ((Below.refl _ _).alloc (Nat.le_refl _) _).alloc (by simp) _⟩
theorem warn_some (p0 p1 p4 : Option Addr) (mode : Int) (b x : Nat) (w : World) (hb : b < w.heap.size) (hc : w.cell? ⟨b, 0, none⟩ = some (.float .f64 x)) :
    Calls Try.prog 10 #[.agg #[.pointer p0, .pointer p1, .int .i64 mode, .pointer (some ⟨b, 0, none⟩), .pointer p4]] w fun e w' => e = .returned (.float .f64 x) ∧ Below w.heap.size w w' := by
  go_enter Try.func10, Try.ntmps10
  go_wp2
  go_ret
  exact ⟨rfl, ((Below.refl _ _).alloc (Nat.le_refl _) _).alloc (by simp) _⟩
end Go.Proofs.Qxb6602634a
