/-
  THE WALK OF 'FnNewZigguratIdentityMeetsLayerEquations'. By an AI agent.
-/
import Derived.Test.Qxb6603583aLawB
namespace Go.Proofs.Qxb6603583a
open Go.RowKit
open Zig (xs scw yq ym inn hw)
set_option linter.unusedVariables false

section
variable (r v : Nat) (w : World)
set_option maxHeartbeats 400000
set_option maxRecDepth 100000
theorem lawA_out1 (o1 : Option Ordering) (h1 : FloatKind.f64.format.order r 4336966441157787648 = o1) (b1 : (o1 == some .gt || o1 == some .eq) = false) :
    Calls Try.prog 3 #[.float .f64 r, .float .f64 v] w fun e w' => e = .returned (.bool true) ∧ w' = w := by
  go_enter Try.func3, Try.ntmps3
  go_wp2
  go_ret
  exact ⟨rfl, rfl⟩
theorem lawA_out2 (o1 o2 : Option Ordering) (h1 : FloatKind.f64.format.order r 4336966441157787648 = o1) (b1 : (o1 == some .gt || o1 == some .eq) = true)
    (h2 : FloatKind.f64.format.order r 4877398396442247168 = o2) (b2 : (o2 == some .lt || o2 == some .eq) = false) :
    Calls Try.prog 3 #[.float .f64 r, .float .f64 v] w fun e w' => e = .returned (.bool true) ∧ w' = w := by
  go_enter Try.func3, Try.ntmps3
  go_wp2
  go_ret
  exact ⟨rfl, rfl⟩
theorem lawA_out3 (o1 o2 o3 : Option Ordering) (h1 : FloatKind.f64.format.order r 4336966441157787648 = o1) (b1 : (o1 == some .gt || o1 == some .eq) = true)
    (h2 : FloatKind.f64.format.order r 4877398396442247168 = o2) (b2 : (o2 == some .lt || o2 == some .eq) = true) (rr l : Nat) (m1 : floatBits .mul .f64 r r = some rr) (m2 : floatBits .mul .f64 rr 4557642822898941952 = some l)
    (h3 : FloatKind.f64.format.order v l = o3) (b3 : (o3 == some .gt || o3 == some .eq) = false) :
    Calls Try.prog 3 #[.float .f64 r, .float .f64 v] w fun e w' => e = .returned (.bool true) ∧ w' = w := by
  have m1 := fun w => run_float_arith (P := Try.prog) w .mul 22 .f64 r r rr m1
  have m2 := fun w => run_float_arith (P := Try.prog) w .mul 22 .f64 rr 4557642822898941952 l m2
  go_enter Try.func3, Try.ntmps3
  go_wp2
  go_ret
  exact ⟨rfl, rfl⟩
theorem lawA_out4 (o1 o2 o3 o4 : Option Ordering) (h1 : FloatKind.f64.format.order r 4336966441157787648 = o1) (b1 : (o1 == some .gt || o1 == some .eq) = true)
    (h2 : FloatKind.f64.format.order r 4877398396442247168 = o2) (b2 : (o2 == some .lt || o2 == some .eq) = true) (rr l h : Nat) (m1 : floatBits .mul .f64 r r = some rr) (m2 : floatBits .mul .f64 rr 4557642822898941952 = some l) (m3 : floatBits .mul .f64 rr 4602678819172646912 = some h)
    (h3 : FloatKind.f64.format.order v l = o3) (b3 : (o3 == some .gt || o3 == some .eq) = true) (h4 : FloatKind.f64.format.order v h = o4) (b4 : (o4 == some .lt || o4 == some .eq) = false) :
    Calls Try.prog 3 #[.float .f64 r, .float .f64 v] w fun e w' => e = .returned (.bool true) ∧ w' = w := by
  have m1 := fun w => run_float_arith (P := Try.prog) w .mul 22 .f64 r r rr m1
  have m2 := fun w => run_float_arith (P := Try.prog) w .mul 22 .f64 rr 4557642822898941952 l m2
  have m3 := fun w => run_float_arith (P := Try.prog) w .mul 22 .f64 rr 4602678819172646912 h m3
  go_enter Try.func3, Try.ntmps3
  go_wp2
  go_ret
  exact ⟨rfl, rfl⟩
end

theorem float_nat (n : Nat) : floatOfInt .f64 (n : Int) = Ieee.double.nearest false n 0 := by
  show Ieee.double.nearest (decide ((n : Int) < 0)) (n : Int).natAbs 0 = _
  rw [decide_eq_false (by omega), Int.natAbs_natCast]
theorem xs_one (r v : Nat) : xs r v 1 = r := Zig.xs_mid _ _ _ (by decide) (by decide)

set_option maxHeartbeats 1000000 in
set_option maxRecDepth 100000 in
theorem lawA_in (r v R V : Nat) (D : Zig.Dom r v R V) (w : World) (o1 o2 o3 o4 : Option Ordering) (h1 : FloatKind.f64.format.order r 4336966441157787648 = o1) (b1 : (o1 == some .gt || o1 == some .eq) = true)
    (h2 : FloatKind.f64.format.order r 4877398396442247168 = o2) (b2 : (o2 == some .lt || o2 == some .eq) = true) (rr l h : Nat) (m1 : floatBits .mul .f64 r r = some rr) (m2 : floatBits .mul .f64 rr 4557642822898941952 = some l) (m3 : floatBits .mul .f64 rr 4602678819172646912 = some h)
    (h3 : FloatKind.f64.format.order v l = o3) (b3 : (o3 == some .gt || o3 == some .eq) = true) (h4 : FloatKind.f64.format.order v h = o4) (b4 : (o4 == some .lt || o4 == some .eq) = true) :
    Calls Try.prog 3 #[.float .f64 r, .float .f64 v] w fun e w' => e = .returned (.bool true) ∧ Below w.heap.size w w' := by
  have m1 := fun w => run_float_arith (P := Try.prog) w .mul 22 .f64 r r rr m1
  have m2 := fun w => run_float_arith (P := Try.prog) w .mul 22 .f64 rr 4557642822898941952 l m2
  have m3 := fun w => run_float_arith (P := Try.prog) w .mul 22 .f64 rr 4602678819172646912 h m3
  have N := hide (zz_new r v R V D w)
  have DD := hide D
  clear D
  go_enter Try.func3, Try.ntmps3
  go_wp2_with fail
  refine (unhide N).mono ?_
  rintro e W ⟨rfl, st⟩
  have S := hide st
  clear st N m1 m2 m3 h1 h2 h3 h4 b1 b2 b3 b4
  have z25 := (zero_of_info info25).1
  have z28 := (zero_of_info info28).1
  have z30 := (zero_of_info info30).1
  have HI25 := hide (zero_of_info info25).2
  have HI28 := hide (zero_of_info info28).2
  have HI30 := hide (zero_of_info info30).2
  go_wp2_with fail
  -- the scales
  refine (scale_any (w.heap.size + 1) (rowS r v) (lenS r v) (oneS r v) W (unhide S).rS).mono ?_
  rintro e w' ⟨rfl, rfl⟩
  go_wp2_with (refine wpList_store_row rfl 25 _ _ rfl (W.heap.size + 1) (rowS r v).toArray rfl rfl 25 Z25 (heap_alloc2_new W _ _) (by simp only [List.size_toArray, lenS]; exact unhide HI25) (by simp [lenS, Z25]) (all_oneCell_toArray (oneS r v)) ?_; rw [setRow2])
  have a1 := hide (copied W (.cells (rowS r v).toArray 25) (rowS r v) 25)
  have a2 := hide (kept2 (unhide S).rI (.cells (rowS r v).toArray 25) (.cells (rowS r v).toArray 25))
  have a3 := hide (kept2 (unhide S).rH (.cells (rowS r v).toArray 25) (.cells (rowS r v).toArray 25))
  have a4 := hide (below2 (unhide S).bel (.cells (rowS r v).toArray 25) (.cells (rowS r v).toArray 25))
  clear S z25 HI25
  generalize (W.alloc (.cells (rowS r v).toArray 25)).alloc (.cells (rowS r v).toArray 25) = W1 at *
  generalize W.heap.size + 1 = bs at *
  -- the inner counts
  refine (inner_any (w.heap.size + 1) (rowI r v) (lenI r v) (oneI r v) W1 (unhide a2)).mono ?_
  rintro e w' ⟨rfl, rfl⟩
  go_wp2_with (refine wpList_store_row rfl 28 _ _ rfl (W1.heap.size + 1) (rowI r v).toArray rfl rfl 28 Z28 (heap_alloc2_new W1 _ _) (by simp only [List.size_toArray, lenI]; exact unhide HI28) (by simp [lenI, Z28]) (all_oneCell_toArray (oneI r v)) ?_; rw [setRow2])
  have c1 := hide (kept2 (unhide a1) (.cells (rowI r v).toArray 28) (.cells (rowI r v).toArray 28))
  have c2 := hide (copied W1 (.cells (rowI r v).toArray 28) (rowI r v) 28)
  have c3 := hide (kept2 (unhide a3) (.cells (rowI r v).toArray 28) (.cells (rowI r v).toArray 28))
  have c4 := hide (below2 (unhide a4) (.cells (rowI r v).toArray 28) (.cells (rowI r v).toArray 28))
  clear a1 a2 a3 a4 z28 HI28
  generalize (W1.alloc (.cells (rowI r v).toArray 28)).alloc (.cells (rowI r v).toArray 28) = W2 at *
  generalize W1.heap.size + 1 = bi at *
  -- the heights
  refine (height_any (w.heap.size + 1) (rowH r v) (lenH r v) (oneH r v) W2 (unhide c3)).mono ?_
  rintro e w' ⟨rfl, rfl⟩
  have cS := hide (kept2 (unhide c1) (.cells (rowH r v).toArray 30) (.cells (rowH r v).toArray 30))
  have cI := hide (kept2 (unhide c2) (.cells (rowH r v).toArray 30) (.cells (rowH r v).toArray 30))
  have cH := hide (copied W2 (.cells (rowH r v).toArray 30) (rowH r v) 30)
  have cB := hide (below2 (unhide c4) (.cells (rowH r v).toArray 30) (.cells (rowH r v).toArray 30))
  clear c1 c2 c3 c4
  go_upto_region 12 with (refine wpList_store_row rfl 30 _ _ rfl (W2.heap.size + 1) (rowH r v).toArray rfl rfl 30 Z30 (heap_alloc2_new W2 _ _) (by simp only [List.size_toArray, lenH]; exact unhide HI30) (by simp [lenH, Z30]) (all_oneCell_toArray (oneH r v)) ?_; rw [setRow2])
  clear z30 HI30
  generalize (W2.alloc (.cells (rowH r v).toArray 30)).alloc (.cells (rowH r v).toArray 30) = W3 at *
  generalize W2.heap.size + 1 = bh at *
  have kS := hide (row_cells (unhide cS))
  have kI := hide (row_cells (unhide cI))
  have kH := hide (row_cells (unhide cH))
  clear cS cI cH
  -- the tests ahead of the loops
  clear m1 m2 m3
  have t0 := unhide kH 0 (by decide)
  have t1 := unhide kH 1 (by decide)
  have t2 := unhide kH 256 (by decide)
  have t3 := unhide kS 0 (by decide)
  have t4 := unhide kS 1 (by decide)
  rw [show ht r v 0 = 0 from rfl] at t0
  rw [ht_one] at t1
  rw [show ht r v 256 = 4607182418800017408 from rfl] at t2
  have o0 : FloatKind.f64.format.order 0 0 = some .eq := by decide
  have o1 : FloatKind.f64.format.order r r = some .eq := Fl.order_eq (unhide DD).r (unhide DD).r rfl
  have o2 : FloatKind.f64.format.order 4607182418800017408 4607182418800017408 = some .eq := by decide
  obtain ⟨x0, X0, hx0, ex0, _⟩ := Zig.base (unhide DD)
  obtain ⟨z0, hz0, oz0⟩ := Zig.law_back (unhide DD) 0 (by decide)
  obtain ⟨z1, hz1, oz1⟩ := Zig.law_back (unhide DD) 1 (by decide)
  rw [ex0] at oz0
  rw [xs_one] at oz1
  have oz0 : FloatKind.f64.format.order z0 x0 = some .eq := oz0
  have oz1 : FloatKind.f64.format.order z1 r = some .eq := oz1
  have q0 := fun w => run_float_arith (P := Try.prog) w .quo 22 .f64 v r x0 hx0
  have q1 := fun w => run_float_arith (P := Try.prog) w .mul 22 .f64 (scw r v 0) 4845873199050653696 z0 hz0
  have q2 := fun w => run_float_arith (P := Try.prog) w .mul 22 .f64 (scw r v 1) 4845873199050653696 z1 hz1
  clear hx0 ex0 hz0 hz1
  go_wp2_with fail
  clear t0 t1 t2 t3 t4 o0 o1 o2 oz0 oz1 q0 q1 q2
  -- the first loop
  go_loopw [10] (fun i wr => ∃ k : Nat, 1 ≤ k ∧ k ≤ 256 ∧ i = .int .i64 k ∧ ∃ nq, wr = W3.drewN nq) (fun i _ => 257 - (intOf i).toNat)
  case atStart => exact ⟨1, by decide, by decide, rfl, 0, rfl⟩
  case round =>
    obtain ⟨k, k1, k2, rfl, nq, rfl⟩ := hrel
    by_cases hlt : k < 256
    · have t1 := unhide kH k (by omega)
      have t3 := unhide kS k (by omega)
      rw [ht_mid r v k k1 (by omega)] at t1
      obtain ⟨z, hz, oz⟩ := Zig.law_back (unhide DD) k (by omega)
      have q1 := fun w => run_float_arith (P := Try.prog) w .mul 22 .f64 (scw r v k) 4845873199050653696 z hz
      have oz : FloatKind.f64.format.order z (xs r v k) = some .eq := oz
      clear hz
      go_wp2_with fail
      go_quiet (fail)
      go_wp2
      go_roundw
      case rel => exact ⟨k + 1, by omega, by omega, by go_num, _, rfl⟩
      case measure => simp [intOf]; omega
    · obtain ⟨v30, lo, hi, a1, a2, a3, AR⟩ := Zig.law_area (unhide DD)
      have ARH := hide AR
      have q1 := fun w => run_float_arith (P := Try.prog) w .mul 22 .f64 v 4472074429978902528 v30 a1
      have q2 := fun w => run_float_arith (P := Try.prog) w .sub 22 .f64 v v30 lo a2
      have q3 := fun w => run_float_arith (P := Try.prog) w .add 22 .f64 v v30 hi a3
      clear a1 a2 a3 AR
      go_wp2_with fail
      clear q1 q2 q3 hlt k1 k2
      -- the second loop
      go_loopw [13] (fun i wr => ∃ k : Nat, 1 ≤ k ∧ k ≤ 255 ∧ i = .int .i64 k ∧ ∃ nq, wr = W3.drewN nq) (fun i _ => 257 - (intOf i).toNat)
      case atStart => exact ⟨1, by decide, by decide, rfl, nq, rfl⟩
      case round =>
        obtain ⟨j, k1, k2, rfl, mq, rfl⟩ := hrel
        by_cases hlt : j < 255
        · have t1 := unhide kH j (by omega)
          have t2 := unhide kH (j + 1) (by omega)
          have t3 := unhide kS j (by omega)
          rw [ht_mid r v j k1 (by omega)] at t1
          rw [ht_mid r v (j + 1) (by omega) (by omega)] at t2
          obtain ⟨z, d, ar, b1, b2, b3, b4, b5⟩ := unhide ARH j k1 (by omega)
          have q1 := fun w => run_float_arith (P := Try.prog) w .mul 22 .f64 (scw r v j) 4845873199050653696 z b1
          have q2 := fun w => run_float_arith (P := Try.prog) w .sub 22 .f64 (xs r v (j + 1)) (xs r v j) d b2
          have q3 := fun w => run_float_arith (P := Try.prog) w .mul 22 .f64 d z ar b3
          have b4 : (FloatKind.f64.format.order ar lo == some .gt || FloatKind.f64.format.order ar lo == some .eq) = true := b4
          have b5 : (FloatKind.f64.format.order ar hi == some .lt || FloatKind.f64.format.order ar hi == some .eq) = true := b5
          clear b1 b2 b3
          go_wp2_with fail
          go_quiet (fail)
          go_wp2
          go_roundw
          case rel => exact ⟨j + 1, by omega, by omega, by go_num, _, rfl⟩
          case measure => simp [intOf]; omega
        · go_wp2_with fail
          clear hlt k1 k2 ARH
          -- the third loop
          go_loopw [17] (fun i wr => ∃ k : Nat, k ≤ 255 ∧ i = .int .i64 k ∧ wr = W3.drewN mq) (fun i _ => 257 - (intOf i).toNat)
          case atStart => exact ⟨0, by decide, rfl, rfl⟩
          case round =>
            obtain ⟨n, k2, rfl, hwr⟩ := hrel
            obtain rfl := hwr.symm
            clear hwr
            by_cases hlt : n < 255
            · have t1 := unhide kI n (by omega)
              have t2 := unhide kS n (by omega)
              have t3 := unhide kS (n + 1) (by omega)
              obtain ⟨z, xx, p, t, up, dn, b1, b2, b3, b4, b5, b6, b7, b8⟩ := Zig.law_inner (unhide DD) n (by omega)
              have ef := float_nat (inn r v n)
              generalize Ieee.double.nearest false (inn r v n) 0 = af at *
              have q1 := fun w => run_float_arith (P := Try.prog) w .mul 22 .f64 (scw r v n) 4845873199050653696 z b1
              have q2 := fun w => run_float_arith (P := Try.prog) w .mul 22 .f64 (scw r v (n + 1)) 5080060379673919488 xx b2
              have q3 := fun w => run_float_arith (P := Try.prog) w .mul 22 .f64 af z p b3
              have q4 := fun w => run_float_arith (P := Try.prog) w .mul 22 .f64 xx 4382002437431492608 t b4
              have q5 := fun w => run_float_arith (P := Try.prog) w .add 22 .f64 xx t up b5
              have q6 := fun w => run_float_arith (P := Try.prog) w .sub 22 .f64 xx t dn b6
              have b7 : (FloatKind.f64.format.order p up == some .lt || FloatKind.f64.format.order p up == some .eq) = true := b7
              have b8 : (FloatKind.f64.format.order p dn == some .gt || FloatKind.f64.format.order p dn == some .eq) = true := b8
              clear b1 b2 b3 b4 b5 b6
              go_wp2
              go_roundw
              case rel => exact ⟨n + 1, by omega, by go_num, trivial⟩
              case measure => simp [intOf]; omega
            · have t1 := unhide kI 255 (by omega)
              rw [(Zig.inner_last (unhide DD)).2.2.2] at t1
              go_wp2
              go_ret
              exact ⟨rfl, below_drewN (unhide cB) _⟩

theorem lawA (r v : Nat) (w : World) : Calls Try.prog 3 #[.float .f64 r, .float .f64 v] w fun e w' => e = .returned (.bool true) ∧ Below w.heap.size w w' := by
  have out : ∀ {e : Ending} {w' : World}, e = .returned (.bool true) ∧ w' = w → e = .returned (.bool true) ∧ Below w.heap.size w w' := fun h => ⟨h.1, by rw [h.2]; exact Below.refl _ _⟩
  cases b1 : (FloatKind.f64.format.order r 4336966441157787648 == some .gt || FloatKind.f64.format.order r 4336966441157787648 == some .eq)
  · exact (lawA_out1 r v w _ rfl b1).mono fun _ _ h => out h
  cases b2 : (FloatKind.f64.format.order r 4877398396442247168 == some .lt || FloatKind.f64.format.order r 4877398396442247168 == some .eq)
  · exact (lawA_out2 r v w _ _ rfl b1 rfl b2).mono fun _ _ h => out h
  obtain ⟨R, hR, r1, r2⟩ := Zig.dom_r b1 b2
  obtain ⟨rr, l, h, m1, m2, m3, hD⟩ := Zig.dom_v hR r1 r2
  cases b3 : (FloatKind.f64.format.order v l == some .gt || FloatKind.f64.format.order v l == some .eq)
  · exact (lawA_out3 r v w _ _ _ rfl b1 rfl b2 rr l m1 m2 rfl b3).mono fun _ _ h => out h
  cases b4 : (FloatKind.f64.format.order v h == some .lt || FloatKind.f64.format.order v h == some .eq)
  · exact (lawA_out4 r v w _ _ _ _ rfl b1 rfl b2 rr l h m1 m2 m3 rfl b3 rfl b4).mono fun _ _ h => out h
  obtain ⟨V, D⟩ := hD v b3 b4
  exact lawA_in r v R V D w _ _ _ _ rfl b1 rfl b2 rr l h m1 m2 m3 rfl b3 rfl b4
end Go.Proofs.Qxb6603583a
