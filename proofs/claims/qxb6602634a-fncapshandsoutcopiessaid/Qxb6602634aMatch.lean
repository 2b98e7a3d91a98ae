/-
  'b1CapsMatch': one walk for each of the sixteen shapes of the caps. By an AI agent.
-/
import Derived.Test.Qxb6602634aZZCapsB
import Derived.Test.Qxb6602634aFlE
namespace Go.Proofs.Qxb6602634a
open Go.RowKit
set_option linter.unusedVariables false

theorem ptr_true (k : Nat) : ptr true k = some ⟨k, 0, none⟩ := rfl
theorem ptr_false (k : Nat) : ptr false k = none := rfl

set_option maxHeartbeats 2000000 in
set_option maxRecDepth 100000 in
theorem match_0 (tk uk mode wa rs : Int) (k0 k1 k3 k4 x : Nat) (W : World) (ho : FloatKind.f64.format.order 4605380978949069210 x = some .eq)
    (h1 : (wa == 800000000) = true) (h2 : (rs == -1) = true) (hx : floatBits .quo .f64 (floatOfInt .f64 wa) 4741671816366391296 = some x) :
    Calls Try.prog 11 #[.agg #[.pointer (none), .pointer (none), .int .i64 mode, .pointer (none), .pointer (none)], .bool false, .int .i64 tk, .bool false, .int .i64 uk, .int .i64 mode, .int .i64 wa, .int .i64 rs] W fun e w' =>
      e = .returned (.bool true) ∧ Below W.heap.size W w' := by
  have q9 := fun w => run_float_arith (P := Try.prog) w .quo 36 .f64 _ _ _ hx
  clear hx
  go_enter Try.func11, Try.ntmps11
  go_wp2_with (go_at_call 10; refine (warn_nil _ _ _ _ _).mono ?_; rintro e w' ⟨rfl, hb3⟩; have L3 := hide hb3; clear hb3)
  go_ret
  exact ⟨rfl, ((Below.refl _ _).alloc (Nat.le_refl _) _).trans ((unhide L3).mono (by simp))⟩

set_option maxHeartbeats 2000000 in
set_option maxRecDepth 100000 in
theorem match_1 (tk uk mode wa rs : Int) (k0 k1 k3 k4 x : Nat) (W : World) (ho : FloatKind.f64.format.order 4605380978949069210 x = some .eq) (a4 : k4 < W.heap.size) (b4 : W.cell? ⟨k4, 0, none⟩ = some (.int .i64 rs))
    (h1 : (wa == 800000000) = true) (h2 : (rs == -1) = false) (hx : floatBits .quo .f64 (floatOfInt .f64 wa) 4741671816366391296 = some x) :
    Calls Try.prog 11 #[.agg #[.pointer (none), .pointer (none), .int .i64 mode, .pointer (none), .pointer (some ⟨k4, 0, none⟩)], .bool false, .int .i64 tk, .bool false, .int .i64 uk, .int .i64 mode, .int .i64 wa, .int .i64 rs] W fun e w' =>
      e = .returned (.bool true) ∧ Below W.heap.size W w' := by
  have q9 := fun w => run_float_arith (P := Try.prog) w .quo 36 .f64 _ _ _ hx
  clear hx
  go_enter Try.func11, Try.ntmps11
  go_wp2_with (go_at_call 10; refine (warn_nil _ _ _ _ _).mono ?_; rintro e w' ⟨rfl, hb3⟩; have L3 := hide hb3; clear hb3)
  go_ret
  exact ⟨rfl, ((Below.refl _ _).alloc (Nat.le_refl _) _).trans ((unhide L3).mono (by simp))⟩

set_option maxHeartbeats 2000000 in
set_option maxRecDepth 100000 in
theorem match_2 (tk uk mode wa rs : Int) (k0 k1 k3 k4 x : Nat) (W : World) (a3 : k3 < W.heap.size) (b3 : W.cell? ⟨k3, 0, none⟩ = some (.float .f64 x)) (ho : FloatKind.f64.format.order x x = some .eq)
    (h1 : (wa == 800000000) = false) (h2 : (rs == -1) = true) (hx : floatBits .quo .f64 (floatOfInt .f64 wa) 4741671816366391296 = some x) :
    Calls Try.prog 11 #[.agg #[.pointer (none), .pointer (none), .int .i64 mode, .pointer (some ⟨k3, 0, none⟩), .pointer (none)], .bool false, .int .i64 tk, .bool false, .int .i64 uk, .int .i64 mode, .int .i64 wa, .int .i64 rs] W fun e w' =>
      e = .returned (.bool true) ∧ Below W.heap.size W w' := by
  have q9 := fun w => run_float_arith (P := Try.prog) w .quo 36 .f64 _ _ _ hx
  clear hx
  have C3 := hide (fun o : Obj => (World.cell?_alloc_past (w := W) o k3 0 a3).trans b3)
  have S3 : Hid (∀ o : Obj, k3 < (W.alloc o).heap.size) := fun o => by simp; omega
  go_enter Try.func11, Try.ntmps11
  go_wp2_with (go_at_call 10; refine (warn_some _ _ _ _ k3 x _ (unhide S3 _) (unhide C3 _)).mono ?_; rintro e w' ⟨rfl, hb3⟩; have L3 := hide hb3; clear hb3)
  go_ret
  exact ⟨rfl, ((Below.refl _ _).alloc (Nat.le_refl _) _).trans ((unhide L3).mono (by simp))⟩

set_option maxHeartbeats 2000000 in
set_option maxRecDepth 100000 in
theorem match_3 (tk uk mode wa rs : Int) (k0 k1 k3 k4 x : Nat) (W : World) (a3 : k3 < W.heap.size) (b3 : W.cell? ⟨k3, 0, none⟩ = some (.float .f64 x)) (ho : FloatKind.f64.format.order x x = some .eq) (a4 : k4 < W.heap.size) (b4 : W.cell? ⟨k4, 0, none⟩ = some (.int .i64 rs))
    (h1 : (wa == 800000000) = false) (h2 : (rs == -1) = false) (hx : floatBits .quo .f64 (floatOfInt .f64 wa) 4741671816366391296 = some x) :
    Calls Try.prog 11 #[.agg #[.pointer (none), .pointer (none), .int .i64 mode, .pointer (some ⟨k3, 0, none⟩), .pointer (some ⟨k4, 0, none⟩)], .bool false, .int .i64 tk, .bool false, .int .i64 uk, .int .i64 mode, .int .i64 wa, .int .i64 rs] W fun e w' =>
      e = .returned (.bool true) ∧ Below W.heap.size W w' := by
  have q9 := fun w => run_float_arith (P := Try.prog) w .quo 36 .f64 _ _ _ hx
  clear hx
  have C3 := hide (fun o : Obj => (World.cell?_alloc_past (w := W) o k3 0 a3).trans b3)
  have S3 : Hid (∀ o : Obj, k3 < (W.alloc o).heap.size) := fun o => by simp; omega
  go_enter Try.func11, Try.ntmps11
  go_wp2_with (go_at_call 10; refine (warn_some _ _ _ _ k3 x _ (unhide S3 _) (unhide C3 _)).mono ?_; rintro e w' ⟨rfl, hb3⟩; have L3 := hide hb3; clear hb3)
  go_ret
  exact ⟨rfl, ((Below.refl _ _).alloc (Nat.le_refl _) _).trans ((unhide L3).mono (by simp))⟩

set_option maxHeartbeats 2000000 in
set_option maxRecDepth 100000 in
theorem match_4 (tk uk mode wa rs : Int) (k0 k1 k3 k4 x : Nat) (W : World) (a1 : k1 < W.heap.size) (b1 : W.cell? ⟨k1, 0, none⟩ = some (.int .i64 uk)) (ho : FloatKind.f64.format.order 4605380978949069210 x = some .eq)
    (h1 : (wa == 800000000) = true) (h2 : (rs == -1) = true) (hx : floatBits .quo .f64 (floatOfInt .f64 wa) 4741671816366391296 = some x) :
    Calls Try.prog 11 #[.agg #[.pointer (none), .pointer (some ⟨k1, 0, none⟩), .int .i64 mode, .pointer (none), .pointer (none)], .bool false, .int .i64 tk, .bool true, .int .i64 uk, .int .i64 mode, .int .i64 wa, .int .i64 rs] W fun e w' =>
      e = .returned (.bool true) ∧ Below W.heap.size W w' := by
  have q9 := fun w => run_float_arith (P := Try.prog) w .quo 36 .f64 _ _ _ hx
  clear hx
  go_enter Try.func11, Try.ntmps11
  go_wp2_with (go_at_call 10; refine (warn_nil _ _ _ _ _).mono ?_; rintro e w' ⟨rfl, hb3⟩; have L3 := hide hb3; clear hb3)
  go_ret
  exact ⟨rfl, ((Below.refl _ _).alloc (Nat.le_refl _) _).trans ((unhide L3).mono (by simp))⟩

set_option maxHeartbeats 2000000 in
set_option maxRecDepth 100000 in
theorem match_5 (tk uk mode wa rs : Int) (k0 k1 k3 k4 x : Nat) (W : World) (a1 : k1 < W.heap.size) (b1 : W.cell? ⟨k1, 0, none⟩ = some (.int .i64 uk)) (ho : FloatKind.f64.format.order 4605380978949069210 x = some .eq) (a4 : k4 < W.heap.size) (b4 : W.cell? ⟨k4, 0, none⟩ = some (.int .i64 rs))
    (h1 : (wa == 800000000) = true) (h2 : (rs == -1) = false) (hx : floatBits .quo .f64 (floatOfInt .f64 wa) 4741671816366391296 = some x) :
    Calls Try.prog 11 #[.agg #[.pointer (none), .pointer (some ⟨k1, 0, none⟩), .int .i64 mode, .pointer (none), .pointer (some ⟨k4, 0, none⟩)], .bool false, .int .i64 tk, .bool true, .int .i64 uk, .int .i64 mode, .int .i64 wa, .int .i64 rs] W fun e w' =>
      e = .returned (.bool true) ∧ Below W.heap.size W w' := by
  have q9 := fun w => run_float_arith (P := Try.prog) w .quo 36 .f64 _ _ _ hx
  clear hx
  go_enter Try.func11, Try.ntmps11
  go_wp2_with (go_at_call 10; refine (warn_nil _ _ _ _ _).mono ?_; rintro e w' ⟨rfl, hb3⟩; have L3 := hide hb3; clear hb3)
  go_ret
  exact ⟨rfl, ((Below.refl _ _).alloc (Nat.le_refl _) _).trans ((unhide L3).mono (by simp))⟩

set_option maxHeartbeats 2000000 in
set_option maxRecDepth 100000 in
theorem match_6 (tk uk mode wa rs : Int) (k0 k1 k3 k4 x : Nat) (W : World) (a1 : k1 < W.heap.size) (b1 : W.cell? ⟨k1, 0, none⟩ = some (.int .i64 uk)) (a3 : k3 < W.heap.size) (b3 : W.cell? ⟨k3, 0, none⟩ = some (.float .f64 x)) (ho : FloatKind.f64.format.order x x = some .eq)
    (h1 : (wa == 800000000) = false) (h2 : (rs == -1) = true) (hx : floatBits .quo .f64 (floatOfInt .f64 wa) 4741671816366391296 = some x) :
    Calls Try.prog 11 #[.agg #[.pointer (none), .pointer (some ⟨k1, 0, none⟩), .int .i64 mode, .pointer (some ⟨k3, 0, none⟩), .pointer (none)], .bool false, .int .i64 tk, .bool true, .int .i64 uk, .int .i64 mode, .int .i64 wa, .int .i64 rs] W fun e w' =>
      e = .returned (.bool true) ∧ Below W.heap.size W w' := by
  have q9 := fun w => run_float_arith (P := Try.prog) w .quo 36 .f64 _ _ _ hx
  clear hx
  have C3 := hide (fun o : Obj => (World.cell?_alloc_past (w := W) o k3 0 a3).trans b3)
  have S3 : Hid (∀ o : Obj, k3 < (W.alloc o).heap.size) := fun o => by simp; omega
  go_enter Try.func11, Try.ntmps11
  go_wp2_with (go_at_call 10; refine (warn_some _ _ _ _ k3 x _ (unhide S3 _) (unhide C3 _)).mono ?_; rintro e w' ⟨rfl, hb3⟩; have L3 := hide hb3; clear hb3)
  go_ret
  exact ⟨rfl, ((Below.refl _ _).alloc (Nat.le_refl _) _).trans ((unhide L3).mono (by simp))⟩

set_option maxHeartbeats 2000000 in
set_option maxRecDepth 100000 in
theorem match_7 (tk uk mode wa rs : Int) (k0 k1 k3 k4 x : Nat) (W : World) (a1 : k1 < W.heap.size) (b1 : W.cell? ⟨k1, 0, none⟩ = some (.int .i64 uk)) (a3 : k3 < W.heap.size) (b3 : W.cell? ⟨k3, 0, none⟩ = some (.float .f64 x)) (ho : FloatKind.f64.format.order x x = some .eq) (a4 : k4 < W.heap.size) (b4 : W.cell? ⟨k4, 0, none⟩ = some (.int .i64 rs))
    (h1 : (wa == 800000000) = false) (h2 : (rs == -1) = false) (hx : floatBits .quo .f64 (floatOfInt .f64 wa) 4741671816366391296 = some x) :
    Calls Try.prog 11 #[.agg #[.pointer (none), .pointer (some ⟨k1, 0, none⟩), .int .i64 mode, .pointer (some ⟨k3, 0, none⟩), .pointer (some ⟨k4, 0, none⟩)], .bool false, .int .i64 tk, .bool true, .int .i64 uk, .int .i64 mode, .int .i64 wa, .int .i64 rs] W fun e w' =>
      e = .returned (.bool true) ∧ Below W.heap.size W w' := by
  have q9 := fun w => run_float_arith (P := Try.prog) w .quo 36 .f64 _ _ _ hx
  clear hx
  have C3 := hide (fun o : Obj => (World.cell?_alloc_past (w := W) o k3 0 a3).trans b3)
  have S3 : Hid (∀ o : Obj, k3 < (W.alloc o).heap.size) := fun o => by simp; omega
  go_enter Try.func11, Try.ntmps11
  go_wp2_with (go_at_call 10; refine (warn_some _ _ _ _ k3 x _ (unhide S3 _) (unhide C3 _)).mono ?_; rintro e w' ⟨rfl, hb3⟩; have L3 := hide hb3; clear hb3)
  go_ret
  exact ⟨rfl, ((Below.refl _ _).alloc (Nat.le_refl _) _).trans ((unhide L3).mono (by simp))⟩

set_option maxHeartbeats 2000000 in
set_option maxRecDepth 100000 in
theorem match_8 (tk uk mode wa rs : Int) (k0 k1 k3 k4 x : Nat) (W : World) (a0 : k0 < W.heap.size) (b0 : W.cell? ⟨k0, 0, none⟩ = some (.int .i64 tk)) (ho : FloatKind.f64.format.order 4605380978949069210 x = some .eq)
    (h1 : (wa == 800000000) = true) (h2 : (rs == -1) = true) (hx : floatBits .quo .f64 (floatOfInt .f64 wa) 4741671816366391296 = some x) :
    Calls Try.prog 11 #[.agg #[.pointer (some ⟨k0, 0, none⟩), .pointer (none), .int .i64 mode, .pointer (none), .pointer (none)], .bool true, .int .i64 tk, .bool false, .int .i64 uk, .int .i64 mode, .int .i64 wa, .int .i64 rs] W fun e w' =>
      e = .returned (.bool true) ∧ Below W.heap.size W w' := by
  have q9 := fun w => run_float_arith (P := Try.prog) w .quo 36 .f64 _ _ _ hx
  clear hx
  go_enter Try.func11, Try.ntmps11
  go_wp2_with (go_at_call 10; refine (warn_nil _ _ _ _ _).mono ?_; rintro e w' ⟨rfl, hb3⟩; have L3 := hide hb3; clear hb3)
  go_ret
  exact ⟨rfl, ((Below.refl _ _).alloc (Nat.le_refl _) _).trans ((unhide L3).mono (by simp))⟩

set_option maxHeartbeats 2000000 in
set_option maxRecDepth 100000 in
theorem match_9 (tk uk mode wa rs : Int) (k0 k1 k3 k4 x : Nat) (W : World) (a0 : k0 < W.heap.size) (b0 : W.cell? ⟨k0, 0, none⟩ = some (.int .i64 tk)) (ho : FloatKind.f64.format.order 4605380978949069210 x = some .eq) (a4 : k4 < W.heap.size) (b4 : W.cell? ⟨k4, 0, none⟩ = some (.int .i64 rs))
    (h1 : (wa == 800000000) = true) (h2 : (rs == -1) = false) (hx : floatBits .quo .f64 (floatOfInt .f64 wa) 4741671816366391296 = some x) :
    Calls Try.prog 11 #[.agg #[.pointer (some ⟨k0, 0, none⟩), .pointer (none), .int .i64 mode, .pointer (none), .pointer (some ⟨k4, 0, none⟩)], .bool true, .int .i64 tk, .bool false, .int .i64 uk, .int .i64 mode, .int .i64 wa, .int .i64 rs] W fun e w' =>
      e = .returned (.bool true) ∧ Below W.heap.size W w' := by
  have q9 := fun w => run_float_arith (P := Try.prog) w .quo 36 .f64 _ _ _ hx
  clear hx
  go_enter Try.func11, Try.ntmps11
  go_wp2_with (go_at_call 10; refine (warn_nil _ _ _ _ _).mono ?_; rintro e w' ⟨rfl, hb3⟩; have L3 := hide hb3; clear hb3)
  go_ret
  exact ⟨rfl, ((Below.refl _ _).alloc (Nat.le_refl _) _).trans ((unhide L3).mono (by simp))⟩

set_option maxHeartbeats 2000000 in
set_option maxRecDepth 100000 in
theorem match_10 (tk uk mode wa rs : Int) (k0 k1 k3 k4 x : Nat) (W : World) (a0 : k0 < W.heap.size) (b0 : W.cell? ⟨k0, 0, none⟩ = some (.int .i64 tk)) (a3 : k3 < W.heap.size) (b3 : W.cell? ⟨k3, 0, none⟩ = some (.float .f64 x)) (ho : FloatKind.f64.format.order x x = some .eq)
    (h1 : (wa == 800000000) = false) (h2 : (rs == -1) = true) (hx : floatBits .quo .f64 (floatOfInt .f64 wa) 4741671816366391296 = some x) :
    Calls Try.prog 11 #[.agg #[.pointer (some ⟨k0, 0, none⟩), .pointer (none), .int .i64 mode, .pointer (some ⟨k3, 0, none⟩), .pointer (none)], .bool true, .int .i64 tk, .bool false, .int .i64 uk, .int .i64 mode, .int .i64 wa, .int .i64 rs] W fun e w' =>
      e = .returned (.bool true) ∧ Below W.heap.size W w' := by
  have q9 := fun w => run_float_arith (P := Try.prog) w .quo 36 .f64 _ _ _ hx
  clear hx
  have C3 := hide (fun o : Obj => (World.cell?_alloc_past (w := W) o k3 0 a3).trans b3)
  have S3 : Hid (∀ o : Obj, k3 < (W.alloc o).heap.size) := fun o => by simp; omega
  go_enter Try.func11, Try.ntmps11
  go_wp2_with (go_at_call 10; refine (warn_some _ _ _ _ k3 x _ (unhide S3 _) (unhide C3 _)).mono ?_; rintro e w' ⟨rfl, hb3⟩; have L3 := hide hb3; clear hb3)
  go_ret
  exact ⟨rfl, ((Below.refl _ _).alloc (Nat.le_refl _) _).trans ((unhide L3).mono (by simp))⟩

set_option maxHeartbeats 2000000 in
set_option maxRecDepth 100000 in
theorem match_11 (tk uk mode wa rs : Int) (k0 k1 k3 k4 x : Nat) (W : World) (a0 : k0 < W.heap.size) (b0 : W.cell? ⟨k0, 0, none⟩ = some (.int .i64 tk)) (a3 : k3 < W.heap.size) (b3 : W.cell? ⟨k3, 0, none⟩ = some (.float .f64 x)) (ho : FloatKind.f64.format.order x x = some .eq) (a4 : k4 < W.heap.size) (b4 : W.cell? ⟨k4, 0, none⟩ = some (.int .i64 rs))
    (h1 : (wa == 800000000) = false) (h2 : (rs == -1) = false) (hx : floatBits .quo .f64 (floatOfInt .f64 wa) 4741671816366391296 = some x) :
    Calls Try.prog 11 #[.agg #[.pointer (some ⟨k0, 0, none⟩), .pointer (none), .int .i64 mode, .pointer (some ⟨k3, 0, none⟩), .pointer (some ⟨k4, 0, none⟩)], .bool true, .int .i64 tk, .bool false, .int .i64 uk, .int .i64 mode, .int .i64 wa, .int .i64 rs] W fun e w' =>
      e = .returned (.bool true) ∧ Below W.heap.size W w' := by
  have q9 := fun w => run_float_arith (P := Try.prog) w .quo 36 .f64 _ _ _ hx
  clear hx
  have C3 := hide (fun o : Obj => (World.cell?_alloc_past (w := W) o k3 0 a3).trans b3)
  have S3 : Hid (∀ o : Obj, k3 < (W.alloc o).heap.size) := fun o => by simp; omega
  go_enter Try.func11, Try.ntmps11
  go_wp2_with (go_at_call 10; refine (warn_some _ _ _ _ k3 x _ (unhide S3 _) (unhide C3 _)).mono ?_; rintro e w' ⟨rfl, hb3⟩; have L3 := hide hb3; clear hb3)
  go_ret
  exact ⟨rfl, ((Below.refl _ _).alloc (Nat.le_refl _) _).trans ((unhide L3).mono (by simp))⟩

set_option maxHeartbeats 2000000 in
set_option maxRecDepth 100000 in
theorem match_12 (tk uk mode wa rs : Int) (k0 k1 k3 k4 x : Nat) (W : World) (a0 : k0 < W.heap.size) (b0 : W.cell? ⟨k0, 0, none⟩ = some (.int .i64 tk)) (a1 : k1 < W.heap.size) (b1 : W.cell? ⟨k1, 0, none⟩ = some (.int .i64 uk)) (ho : FloatKind.f64.format.order 4605380978949069210 x = some .eq)
    (h1 : (wa == 800000000) = true) (h2 : (rs == -1) = true) (hx : floatBits .quo .f64 (floatOfInt .f64 wa) 4741671816366391296 = some x) :
    Calls Try.prog 11 #[.agg #[.pointer (some ⟨k0, 0, none⟩), .pointer (some ⟨k1, 0, none⟩), .int .i64 mode, .pointer (none), .pointer (none)], .bool true, .int .i64 tk, .bool true, .int .i64 uk, .int .i64 mode, .int .i64 wa, .int .i64 rs] W fun e w' =>
      e = .returned (.bool true) ∧ Below W.heap.size W w' := by
  have q9 := fun w => run_float_arith (P := Try.prog) w .quo 36 .f64 _ _ _ hx
  clear hx
  go_enter Try.func11, Try.ntmps11
  go_wp2_with (go_at_call 10; refine (warn_nil _ _ _ _ _).mono ?_; rintro e w' ⟨rfl, hb3⟩; have L3 := hide hb3; clear hb3)
  go_ret
  exact ⟨rfl, ((Below.refl _ _).alloc (Nat.le_refl _) _).trans ((unhide L3).mono (by simp))⟩

set_option maxHeartbeats 2000000 in
set_option maxRecDepth 100000 in
theorem match_13 (tk uk mode wa rs : Int) (k0 k1 k3 k4 x : Nat) (W : World) (a0 : k0 < W.heap.size) (b0 : W.cell? ⟨k0, 0, none⟩ = some (.int .i64 tk)) (a1 : k1 < W.heap.size) (b1 : W.cell? ⟨k1, 0, none⟩ = some (.int .i64 uk)) (ho : FloatKind.f64.format.order 4605380978949069210 x = some .eq) (a4 : k4 < W.heap.size) (b4 : W.cell? ⟨k4, 0, none⟩ = some (.int .i64 rs))
    (h1 : (wa == 800000000) = true) (h2 : (rs == -1) = false) (hx : floatBits .quo .f64 (floatOfInt .f64 wa) 4741671816366391296 = some x) :
    Calls Try.prog 11 #[.agg #[.pointer (some ⟨k0, 0, none⟩), .pointer (some ⟨k1, 0, none⟩), .int .i64 mode, .pointer (none), .pointer (some ⟨k4, 0, none⟩)], .bool true, .int .i64 tk, .bool true, .int .i64 uk, .int .i64 mode, .int .i64 wa, .int .i64 rs] W fun e w' =>
      e = .returned (.bool true) ∧ Below W.heap.size W w' := by
  have q9 := fun w => run_float_arith (P := Try.prog) w .quo 36 .f64 _ _ _ hx
  clear hx
  go_enter Try.func11, Try.ntmps11
  go_wp2_with (go_at_call 10; refine (warn_nil _ _ _ _ _).mono ?_; rintro e w' ⟨rfl, hb3⟩; have L3 := hide hb3; clear hb3)
  go_ret
  exact ⟨rfl, ((Below.refl _ _).alloc (Nat.le_refl _) _).trans ((unhide L3).mono (by simp))⟩

set_option maxHeartbeats 2000000 in
set_option maxRecDepth 100000 in
theorem match_14 (tk uk mode wa rs : Int) (k0 k1 k3 k4 x : Nat) (W : World) (a0 : k0 < W.heap.size) (b0 : W.cell? ⟨k0, 0, none⟩ = some (.int .i64 tk)) (a1 : k1 < W.heap.size) (b1 : W.cell? ⟨k1, 0, none⟩ = some (.int .i64 uk)) (a3 : k3 < W.heap.size) (b3 : W.cell? ⟨k3, 0, none⟩ = some (.float .f64 x)) (ho : FloatKind.f64.format.order x x = some .eq)
    (h1 : (wa == 800000000) = false) (h2 : (rs == -1) = true) (hx : floatBits .quo .f64 (floatOfInt .f64 wa) 4741671816366391296 = some x) :
    Calls Try.prog 11 #[.agg #[.pointer (some ⟨k0, 0, none⟩), .pointer (some ⟨k1, 0, none⟩), .int .i64 mode, .pointer (some ⟨k3, 0, none⟩), .pointer (none)], .bool true, .int .i64 tk, .bool true, .int .i64 uk, .int .i64 mode, .int .i64 wa, .int .i64 rs] W fun e w' =>
      e = .returned (.bool true) ∧ Below W.heap.size W w' := by
  have q9 := fun w => run_float_arith (P := Try.prog) w .quo 36 .f64 _ _ _ hx
  clear hx
  have C3 := hide (fun o : Obj => (World.cell?_alloc_past (w := W) o k3 0 a3).trans b3)
  have S3 : Hid (∀ o : Obj, k3 < (W.alloc o).heap.size) := fun o => by simp; omega
  go_enter Try.func11, Try.ntmps11
  go_wp2_with (go_at_call 10; refine (warn_some _ _ _ _ k3 x _ (unhide S3 _) (unhide C3 _)).mono ?_; rintro e w' ⟨rfl, hb3⟩; have L3 := hide hb3; clear hb3)
  go_ret
  exact ⟨rfl, ((Below.refl _ _).alloc (Nat.le_refl _) _).trans ((unhide L3).mono (by simp))⟩

set_option maxHeartbeats 2000000 in
set_option maxRecDepth 100000 in
theorem match_15 (tk uk mode wa rs : Int) (k0 k1 k3 k4 x : Nat) (W : World) (a0 : k0 < W.heap.size) (b0 : W.cell? ⟨k0, 0, none⟩ = some (.int .i64 tk)) (a1 : k1 < W.heap.size) (b1 : W.cell? ⟨k1, 0, none⟩ = some (.int .i64 uk)) (a3 : k3 < W.heap.size) (b3 : W.cell? ⟨k3, 0, none⟩ = some (.float .f64 x)) (ho : FloatKind.f64.format.order x x = some .eq) (a4 : k4 < W.heap.size) (b4 : W.cell? ⟨k4, 0, none⟩ = some (.int .i64 rs))
    (h1 : (wa == 800000000) = false) (h2 : (rs == -1) = false) (hx : floatBits .quo .f64 (floatOfInt .f64 wa) 4741671816366391296 = some x) :
    Calls Try.prog 11 #[.agg #[.pointer (some ⟨k0, 0, none⟩), .pointer (some ⟨k1, 0, none⟩), .int .i64 mode, .pointer (some ⟨k3, 0, none⟩), .pointer (some ⟨k4, 0, none⟩)], .bool true, .int .i64 tk, .bool true, .int .i64 uk, .int .i64 mode, .int .i64 wa, .int .i64 rs] W fun e w' =>
      e = .returned (.bool true) ∧ Below W.heap.size W w' := by
  have q9 := fun w => run_float_arith (P := Try.prog) w .quo 36 .f64 _ _ _ hx
  clear hx
  have C3 := hide (fun o : Obj => (World.cell?_alloc_past (w := W) o k3 0 a3).trans b3)
  have S3 : Hid (∀ o : Obj, k3 < (W.alloc o).heap.size) := fun o => by simp; omega
  go_enter Try.func11, Try.ntmps11
  go_wp2_with (go_at_call 10; refine (warn_some _ _ _ _ k3 x _ (unhide S3 _) (unhide C3 _)).mono ?_; rintro e w' ⟨rfl, hb3⟩; have L3 := hide hb3; clear hb3)
  go_ret
  exact ⟨rfl, ((Below.refl _ _).alloc (Nat.le_refl _) _).trans ((unhide L3).mono (by simp))⟩

theorem match_all (tc uc wf rf : Bool) (tk uk mode wa rs : Int) (k0 k1 k3 k4 x : Nat) (W : World)
    (g0 : tc = true → k0 < W.heap.size ∧ W.cell? ⟨k0, 0, none⟩ = some (.int .i64 tk)) (g1 : uc = true → k1 < W.heap.size ∧ W.cell? ⟨k1, 0, none⟩ = some (.int .i64 uk))
    (g3 : wf = true → k3 < W.heap.size ∧ W.cell? ⟨k3, 0, none⟩ = some (.float .f64 x)) (g4 : rf = true → k4 < W.heap.size ∧ W.cell? ⟨k4, 0, none⟩ = some (.int .i64 rs))
    (h1 : (wa == 800000000) = !wf) (h2 : (rs == -1) = !rf) (hx : floatBits .quo .f64 (floatOfInt .f64 wa) 4741671816366391296 = some x)
    (ho : FloatKind.f64.format.order x x = some .eq) (hd : wf = false → FloatKind.f64.format.order 4605380978949069210 x = some .eq) :
    Calls Try.prog 11 #[.agg #[.pointer (ptr tc k0), .pointer (ptr uc k1), .int .i64 mode, .pointer (ptr wf k3), .pointer (ptr rf k4)], .bool tc, .int .i64 tk, .bool uc, .int .i64 uk, .int .i64 mode, .int .i64 wa, .int .i64 rs] W fun e w' =>
      e = .returned (.bool true) ∧ Below W.heap.size W w' := by
  cases tc <;> cases uc <;> cases wf <;> cases rf
  · exact match_0 tk uk mode wa rs k0 k1 k3 k4 x W (hd rfl) h1 h2 hx
  · exact match_1 tk uk mode wa rs k0 k1 k3 k4 x W (hd rfl) (g4 rfl).1 (g4 rfl).2 h1 h2 hx
  · exact match_2 tk uk mode wa rs k0 k1 k3 k4 x W (g3 rfl).1 (g3 rfl).2 ho h1 h2 hx
  · exact match_3 tk uk mode wa rs k0 k1 k3 k4 x W (g3 rfl).1 (g3 rfl).2 ho (g4 rfl).1 (g4 rfl).2 h1 h2 hx
  · exact match_4 tk uk mode wa rs k0 k1 k3 k4 x W (g1 rfl).1 (g1 rfl).2 (hd rfl) h1 h2 hx
  · exact match_5 tk uk mode wa rs k0 k1 k3 k4 x W (g1 rfl).1 (g1 rfl).2 (hd rfl) (g4 rfl).1 (g4 rfl).2 h1 h2 hx
  · exact match_6 tk uk mode wa rs k0 k1 k3 k4 x W (g1 rfl).1 (g1 rfl).2 (g3 rfl).1 (g3 rfl).2 ho h1 h2 hx
  · exact match_7 tk uk mode wa rs k0 k1 k3 k4 x W (g1 rfl).1 (g1 rfl).2 (g3 rfl).1 (g3 rfl).2 ho (g4 rfl).1 (g4 rfl).2 h1 h2 hx
  · exact match_8 tk uk mode wa rs k0 k1 k3 k4 x W (g0 rfl).1 (g0 rfl).2 (hd rfl) h1 h2 hx
  · exact match_9 tk uk mode wa rs k0 k1 k3 k4 x W (g0 rfl).1 (g0 rfl).2 (hd rfl) (g4 rfl).1 (g4 rfl).2 h1 h2 hx
  · exact match_10 tk uk mode wa rs k0 k1 k3 k4 x W (g0 rfl).1 (g0 rfl).2 (g3 rfl).1 (g3 rfl).2 ho h1 h2 hx
  · exact match_11 tk uk mode wa rs k0 k1 k3 k4 x W (g0 rfl).1 (g0 rfl).2 (g3 rfl).1 (g3 rfl).2 ho (g4 rfl).1 (g4 rfl).2 h1 h2 hx
  · exact match_12 tk uk mode wa rs k0 k1 k3 k4 x W (g0 rfl).1 (g0 rfl).2 (g1 rfl).1 (g1 rfl).2 (hd rfl) h1 h2 hx
  · exact match_13 tk uk mode wa rs k0 k1 k3 k4 x W (g0 rfl).1 (g0 rfl).2 (g1 rfl).1 (g1 rfl).2 (hd rfl) (g4 rfl).1 (g4 rfl).2 h1 h2 hx
  · exact match_14 tk uk mode wa rs k0 k1 k3 k4 x W (g0 rfl).1 (g0 rfl).2 (g1 rfl).1 (g1 rfl).2 (g3 rfl).1 (g3 rfl).2 ho h1 h2 hx
  · exact match_15 tk uk mode wa rs k0 k1 k3 k4 x W (g0 rfl).1 (g0 rfl).2 (g1 rfl).1 (g1 rfl).2 (g3 rfl).1 (g3 rfl).2 ho (g4 rfl).1 (g4 rfl).2 h1 h2 hx
end Go.Proofs.Qxb6602634a
