/-
  THE WALK OF 'FnNewZigguratIdentityLayersStandInOrder'. By an AI agent.
-/
import Derived.Test.Qxb6603583aWalkB
import Derived.RegionTactic
import Derived.Deep.QuietTactic
import Derived.BigQuiet
import Derived.Deep.Cut
import Derived.WalkSmall
namespace Go.Proofs.Qxb6603583a
open Go.RowKit
open Zig (xs scw yq ym inn hw)
set_option linter.unusedVariables false

section
variable (r v : Nat) (w : World)
set_option maxHeartbeats 400000
set_option maxRecDepth 100000
theorem lawB_out1 (o1 : Option Ordering) (h1 : FloatKind.f64.format.order r 4336966441157787648 = o1) (b1 : (o1 == some .gt || o1 == some .eq) = false) :
    Calls Try.prog 4 #[.float .f64 r, .float .f64 v] w fun e w' => e = .returned (.bool true) ∧ w' = w := by
  go_enter Try.func4, Try.ntmps4
  go_wp2
  go_ret
  exact ⟨rfl, rfl⟩
theorem lawB_out2 (o1 o2 : Option Ordering) (h1 : FloatKind.f64.format.order r 4336966441157787648 = o1) (b1 : (o1 == some .gt || o1 == some .eq) = true)
    (h2 : FloatKind.f64.format.order r 4877398396442247168 = o2) (b2 : (o2 == some .lt || o2 == some .eq) = false) :
    Calls Try.prog 4 #[.float .f64 r, .float .f64 v] w fun e w' => e = .returned (.bool true) ∧ w' = w := by
  go_enter Try.func4, Try.ntmps4
  go_wp2
  go_ret
  exact ⟨rfl, rfl⟩
theorem lawB_out3 (o1 o2 o3 : Option Ordering) (h1 : FloatKind.f64.format.order r 4336966441157787648 = o1) (b1 : (o1 == some .gt || o1 == some .eq) = true)
    (h2 : FloatKind.f64.format.order r 4877398396442247168 = o2) (b2 : (o2 == some .lt || o2 == some .eq) = true) (rr l : Nat) (m1 : floatBits .mul .f64 r r = some rr) (m2 : floatBits .mul .f64 rr 4557642822898941952 = some l)
    (h3 : FloatKind.f64.format.order v l = o3) (b3 : (o3 == some .gt || o3 == some .eq) = false) :
    Calls Try.prog 4 #[.float .f64 r, .float .f64 v] w fun e w' => e = .returned (.bool true) ∧ w' = w := by
  have m1 := fun w => run_float_arith (P := Try.prog) w .mul 22 .f64 r r rr m1
  have m2 := fun w => run_float_arith (P := Try.prog) w .mul 22 .f64 rr 4557642822898941952 l m2
  go_enter Try.func4, Try.ntmps4
  go_wp2
  go_ret
  exact ⟨rfl, rfl⟩
theorem lawB_out4 (o1 o2 o3 o4 : Option Ordering) (h1 : FloatKind.f64.format.order r 4336966441157787648 = o1) (b1 : (o1 == some .gt || o1 == some .eq) = true)
    (h2 : FloatKind.f64.format.order r 4877398396442247168 = o2) (b2 : (o2 == some .lt || o2 == some .eq) = true) (rr l h : Nat) (m1 : floatBits .mul .f64 r r = some rr) (m2 : floatBits .mul .f64 rr 4557642822898941952 = some l) (m3 : floatBits .mul .f64 rr 4602678819172646912 = some h)
    (h3 : FloatKind.f64.format.order v l = o3) (b3 : (o3 == some .gt || o3 == some .eq) = true) (h4 : FloatKind.f64.format.order v h = o4) (b4 : (o4 == some .lt || o4 == some .eq) = false) :
    Calls Try.prog 4 #[.float .f64 r, .float .f64 v] w fun e w' => e = .returned (.bool true) ∧ w' = w := by
  have m1 := fun w => run_float_arith (P := Try.prog) w .mul 22 .f64 r r rr m1
  have m2 := fun w => run_float_arith (P := Try.prog) w .mul 22 .f64 rr 4557642822898941952 l m2
  have m3 := fun w => run_float_arith (P := Try.prog) w .mul 22 .f64 rr 4602678819172646912 h m3
  go_enter Try.func4, Try.ntmps4
  go_wp2
  go_ret
  exact ⟨rfl, rfl⟩
end

def rowS (r v : Nat) : List Value := row (fun i => .float .f64 (scw r v i)) 256
def rowI (r v : Nat) : List Value := row (fun i => .int .u64 (inn r v i : Int)) 256
def rowH (r v : Nat) : List Value := row (fun i => .float .f64 (ht r v i)) 257
theorem St.rS {w W : World} {r v : Nat} (h : St w W (xs r v) (scw r v) (inn r v) (ht r v)) : W.rangeAt (w.heap.size + 1) 0 (rowS r v) := row_range fun i hi => by rw [Nat.zero_add]; exact h.s i hi
theorem St.rI {w W : World} {r v : Nat} (h : St w W (xs r v) (scw r v) (inn r v) (ht r v)) : W.rangeAt (w.heap.size + 1) 256 (rowI r v) := row_range fun i hi => h.i i hi
theorem St.rH {w W : World} {r v : Nat} (h : St w W (xs r v) (scw r v) (inn r v) (ht r v)) : W.rangeAt (w.heap.size + 1) 512 (rowH r v) := row_range fun i hi => h.h i hi

theorem setRow2 (W : World) (A : Obj) (c c' : Array Value) (t : TypeId) : ((W.alloc A).alloc (.cells c t)).setRow (W.heap.size + 1) c' = (W.alloc A).alloc (.cells c' t) := by
  have := World.setRow_alloc_new (W.alloc A) c c' t
  simpa using this
theorem oneS (r v : Nat) : ∀ x ∈ rowS r v, x.oneCell' = true := row_one _ _ fun _ => rfl
theorem oneI (r v : Nat) : ∀ x ∈ rowI r v, x.oneCell' = true := row_one _ _ fun _ => rfl
theorem oneH (r v : Nat) : ∀ x ∈ rowH r v, x.oneCell' = true := row_one _ _ fun _ => rfl
theorem lenS (r v : Nat) : (rowS r v).length = 256 := row_length _ _
theorem lenI (r v : Nat) : (rowI r v).length = 256 := row_length _ _
theorem lenH (r v : Nat) : (rowH r v).length = 257 := row_length _ _
/-- What an array's copy leaves. -/
theorem copied (W : World) (A : Obj) (cs : List Value) (t : TypeId) : ((W.alloc A).alloc (.cells cs.toArray t)).rangeAt (W.heap.size + 1) 0 cs := fun j v hv => by
  rw [Nat.zero_add, World.cell?_alloc_at _ _ _ _ (by simp)]
  simpa using hv
theorem kept2 {W : World} {b o : Nat} {cs : List Value} (h : W.rangeAt b o cs) (A B : Obj) : ((W.alloc A).alloc B).rangeAt b o cs := World.rangeAt_alloc (World.rangeAt_alloc h A) B
theorem below2 {w W : World} (h : Below w.heap.size w W) (A B : Obj) : Below w.heap.size w ((W.alloc A).alloc B) :=
  (h.alloc h.size A).alloc (by have := h.size; simp; omega) B

theorem row_cells {W : World} {b n : Nat} {mk : Nat → Value} (h : W.rangeAt b 0 (row mk n)) (i : Nat) (hi : i < n) : W.cell? ⟨b, i, none⟩ = some (mk i) := by
  have := h i (mk i) (row_at mk n i hi)
  rwa [Nat.zero_add] at this
theorem small52 {n : Nat} (h : 4503599627370496 ≤ n) : decide ((n : Int) < 4503599627370496) = false := decide_eq_false (by omega)
theorem small53 {n : Nat} (h : n < 9007199254740992) : decide ((9007199254740992 : Int) ≤ (n : Int)) = false := decide_eq_false (by omega)
theorem ht_mid (r v i : Nat) (h1 : 1 ≤ i) (h2 : i ≤ 255) : ht r v i = xs r v i := by unfold ht; rw [if_neg (by omega), if_pos h2]
theorem ht_one (r v : Nat) : ht r v 1 = r := by rw [ht_mid r v 1 (by decide) (by decide), Zig.xs_mid _ _ _ (by decide) (by decide)]; rfl
theorem facts3 {r v R V : Nat} (D : Zig.Dom r v R V) (i : Nat) (hi : i ≤ 254) : 4503599627370496 ≤ inn r v i ∧ (1 ≤ i → inn r v i < 9007199254740992) := by
  obtain ⟨_, _, _, _, _, _, _, _, _, n1, n2, n3, _⟩ := Zig.inner_is D i hi
  exact ⟨n1, n3⟩

set_option maxHeartbeats 1000000 in
set_option maxRecDepth 100000 in
theorem lawB_in (r v R V : Nat) (D : Zig.Dom r v R V) (w : World) (o1 o2 o3 o4 : Option Ordering) (h1 : FloatKind.f64.format.order r 4336966441157787648 = o1) (b1 : (o1 == some .gt || o1 == some .eq) = true)
    (h2 : FloatKind.f64.format.order r 4877398396442247168 = o2) (b2 : (o2 == some .lt || o2 == some .eq) = true) (rr l h : Nat) (m1 : floatBits .mul .f64 r r = some rr) (m2 : floatBits .mul .f64 rr 4557642822898941952 = some l) (m3 : floatBits .mul .f64 rr 4602678819172646912 = some h)
    (h3 : FloatKind.f64.format.order v l = o3) (b3 : (o3 == some .gt || o3 == some .eq) = true) (h4 : FloatKind.f64.format.order v h = o4) (b4 : (o4 == some .lt || o4 == some .eq) = true) :
    Calls Try.prog 4 #[.float .f64 r, .float .f64 v] w fun e w' => e = .returned (.bool true) ∧ Below w.heap.size w w' := by
  have m1 := fun w => run_float_arith (P := Try.prog) w .mul 22 .f64 r r rr m1
  have m2 := fun w => run_float_arith (P := Try.prog) w .mul 22 .f64 rr 4557642822898941952 l m2
  have m3 := fun w => run_float_arith (P := Try.prog) w .mul 22 .f64 rr 4602678819172646912 h m3
  have N := hide (zz_new r v R V D w)
  have DD := hide D
  clear D
  go_enter Try.func4, Try.ntmps4
  go_wp2_with fail
  refine (unhide N).mono ?_
  rintro e W ⟨rfl, st⟩
  have S := hide st
  clear st N m1 m2 m3 h1 h2 h3 h4 b1 b2 b3 b4
  have z25 := (zero_of_info info25).1
  have z28 := (zero_of_info info28).1
  have z30 := (zero_of_info info30).1
  have HI25 := hide (zero_of_info info25).2
  have HI28 := hide (zero_of_info info28).2
  have HI30 := hide (zero_of_info info30).2
  go_wp2_with fail
  -- the scales
  refine (scale_any (w.heap.size + 1) (rowS r v) (lenS r v) (oneS r v) W (unhide S).rS).mono ?_
  rintro e w' ⟨rfl, rfl⟩
  go_wp2_with (refine wpList_store_row rfl 25 _ _ rfl (W.heap.size + 1) (rowS r v).toArray rfl rfl 25 Z25 (heap_alloc2_new W _ _) (by simp only [List.size_toArray, lenS]; exact unhide HI25) (by simp [lenS, Z25]) (all_oneCell_toArray (oneS r v)) ?_; rw [setRow2])
  have a1 := hide (copied W (.cells (rowS r v).toArray 25) (rowS r v) 25)
  have a2 := hide (kept2 (unhide S).rI (.cells (rowS r v).toArray 25) (.cells (rowS r v).toArray 25))
  have a3 := hide (kept2 (unhide S).rH (.cells (rowS r v).toArray 25) (.cells (rowS r v).toArray 25))
  have a4 := hide (below2 (unhide S).bel (.cells (rowS r v).toArray 25) (.cells (rowS r v).toArray 25))
  clear S z25 HI25
  generalize (W.alloc (.cells (rowS r v).toArray 25)).alloc (.cells (rowS r v).toArray 25) = W1 at *
  generalize W.heap.size + 1 = bs at *
  -- the inner counts
  refine (inner_any (w.heap.size + 1) (rowI r v) (lenI r v) (oneI r v) W1 (unhide a2)).mono ?_
  rintro e w' ⟨rfl, rfl⟩
  go_wp2_with (refine wpList_store_row rfl 28 _ _ rfl (W1.heap.size + 1) (rowI r v).toArray rfl rfl 28 Z28 (heap_alloc2_new W1 _ _) (by simp only [List.size_toArray, lenI]; exact unhide HI28) (by simp [lenI, Z28]) (all_oneCell_toArray (oneI r v)) ?_; rw [setRow2])
  have c1 := hide (kept2 (unhide a1) (.cells (rowI r v).toArray 28) (.cells (rowI r v).toArray 28))
  have c2 := hide (copied W1 (.cells (rowI r v).toArray 28) (rowI r v) 28)
  have c3 := hide (kept2 (unhide a3) (.cells (rowI r v).toArray 28) (.cells (rowI r v).toArray 28))
  have c4 := hide (below2 (unhide a4) (.cells (rowI r v).toArray 28) (.cells (rowI r v).toArray 28))
  clear a1 a2 a3 a4 z28 HI28
  generalize (W1.alloc (.cells (rowI r v).toArray 28)).alloc (.cells (rowI r v).toArray 28) = W2 at *
  generalize W1.heap.size + 1 = bi at *
  -- the heights
  refine (height_any (w.heap.size + 1) (rowH r v) (lenH r v) (oneH r v) W2 (unhide c3)).mono ?_
  rintro e w' ⟨rfl, rfl⟩
  have cS := hide (kept2 (unhide c1) (.cells (rowH r v).toArray 30) (.cells (rowH r v).toArray 30))
  have cI := hide (kept2 (unhide c2) (.cells (rowH r v).toArray 30) (.cells (rowH r v).toArray 30))
  have cH := hide (copied W2 (.cells (rowH r v).toArray 30) (rowH r v) 30)
  have cB := hide (below2 (unhide c4) (.cells (rowH r v).toArray 30) (.cells (rowH r v).toArray 30))
  clear c1 c2 c3 c4
  go_upto_region 12 with (refine wpList_store_row rfl 30 _ _ rfl (W2.heap.size + 1) (rowH r v).toArray rfl rfl 30 Z30 (heap_alloc2_new W2 _ _) (by simp only [List.size_toArray, lenH]; exact unhide HI30) (by simp [lenH, Z30]) (all_oneCell_toArray (oneH r v)) ?_; rw [setRow2])
  clear z30 HI30
  generalize (W2.alloc (.cells (rowH r v).toArray 30)).alloc (.cells (rowH r v).toArray 30) = W3 at *
  generalize W2.heap.size + 1 = bh at *
  have kS := hide (row_cells (unhide cS))
  have kI := hide (row_cells (unhide cI))
  have kH := hide (row_cells (unhide cH))
  clear cS cI cH
  -- the tests ahead of the loop
  have t1 := unhide kH 1 (by decide)
  have t2 := unhide kH 256 (by decide)
  have t3 := unhide kI 255 (by decide)
  have t4 := unhide kS 0 (by decide)
  have t5 := unhide kS 1 (by decide)
  have t6 := unhide kI 0 (by decide)
  rw [ht_one] at t1
  rw [show ht r v 256 = 4607182418800017408 from rfl] at t2
  rw [(Zig.inner_last (unhide DD)).2.2.2] at t3
  have o1 : FloatKind.f64.format.order r r = some .eq := Fl.order_eq (unhide DD).r (unhide DD).r rfl
  have o2 : FloatKind.f64.format.order 4607182418800017408 4607182418800017408 = some .eq := by decide
  have o3 : FloatKind.f64.format.order (scw r v 0) (scw r v 1) = some .lt := (Zig.law_order (unhide DD) 0 (by decide)).2
  have o4 := facts3 (unhide DD) 0 (by decide)
  have o5 : ¬ ((inn r v 0 : Nat) : Int) < 4503599627370496 := by omega
  clear o4
  clear m1 m2 m3
  go_wp2_with fail
  clear t1 t2 t3 t4 t5 t6 o1 o2 o3 o5
  go_loopw [10] (fun i wr => ∃ k : Nat, 1 ≤ k ∧ k ≤ 255 ∧ i = .int .i64 k ∧ ∃ nq, wr = W3.drewN nq) (fun i _ => 256 - (intOf i).toNat)
  case atStart => exact ⟨1, by decide, by decide, rfl, 0, rfl⟩
  case round =>
    obtain ⟨k, k1, k2, rfl, nq, rfl⟩ := hrel
    by_cases hlt : k < 255
    · have t1 := unhide kH k (by omega)
      have t2 := unhide kH (k + 1) (by omega)
      have t3 := unhide kS k (by omega)
      have t4 := unhide kS (k + 1) (by omega)
      have t5 := unhide kI k (by omega)
      rw [ht_mid r v k k1 (by omega)] at t1
      rw [ht_mid r v (k + 1) (by omega) (by omega)] at t2
      obtain ⟨o1, o2⟩ := Zig.law_order (unhide DD) k (by omega)
      have o1 : FloatKind.f64.format.order (xs r v k) (xs r v (k + 1)) = some .lt := o1
      have o2 : FloatKind.f64.format.order (scw r v k) (scw r v (k + 1)) = some .lt := o2
      go_wp2_with fail
      go_quiet (fail)
      clear t1 t2 t3 t4 o1 o2
      have o5 := small52 (facts3 (unhide DD) k (by omega)).1
      have o6 := small53 ((facts3 (unhide DD) k (by omega)).2 k1)
      go_wp2
      go_roundw
      case rel => exact ⟨k + 1, by omega, by omega, by go_num, _, rfl⟩
      case measure => simp [intOf]; omega
    · go_wp2
      go_ret
      exact ⟨rfl, below_drewN (unhide cB) _⟩

theorem lawB (r v : Nat) (w : World) : Calls Try.prog 4 #[.float .f64 r, .float .f64 v] w fun e w' => e = .returned (.bool true) ∧ Below w.heap.size w w' := by
  have out : ∀ {e : Ending} {w' : World}, e = .returned (.bool true) ∧ w' = w → e = .returned (.bool true) ∧ Below w.heap.size w w' := fun h => ⟨h.1, by rw [h.2]; exact Below.refl _ _⟩
  cases b1 : (FloatKind.f64.format.order r 4336966441157787648 == some .gt || FloatKind.f64.format.order r 4336966441157787648 == some .eq)
  · exact (lawB_out1 r v w _ rfl b1).mono fun _ _ h => out h
  cases b2 : (FloatKind.f64.format.order r 4877398396442247168 == some .lt || FloatKind.f64.format.order r 4877398396442247168 == some .eq)
  · exact (lawB_out2 r v w _ _ rfl b1 rfl b2).mono fun _ _ h => out h
  obtain ⟨R, hR, r1, r2⟩ := Zig.dom_r b1 b2
  obtain ⟨rr, l, h, m1, m2, m3, hD⟩ := Zig.dom_v hR r1 r2
  cases b3 : (FloatKind.f64.format.order v l == some .gt || FloatKind.f64.format.order v l == some .eq)
  · exact (lawB_out3 r v w _ _ _ rfl b1 rfl b2 rr l m1 m2 rfl b3).mono fun _ _ h => out h
  cases b4 : (FloatKind.f64.format.order v h == some .lt || FloatKind.f64.format.order v h == some .eq)
  · exact (lawB_out4 r v w _ _ _ _ rfl b1 rfl b2 rr l h m1 m2 m3 rfl b3 rfl b4).mono fun _ _ h => out h
  obtain ⟨V, D⟩ := hD v b3 b4
  exact lawB_in r v R V D w _ _ _ _ rfl b1 rfl b2 rr l h m1 m2 m3 rfl b3 rfl b4
end Go.Proofs.Qxb6603583a
