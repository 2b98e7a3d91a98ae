/-
  'caps': the caps of a budget, in new memory, its blocks told whole. By an AI agent.
-/
import Derived.Test.Qxb6602634aWarn
import Derived.Laws.Rows
namespace Go.Proofs.Qxb6602634a
open Go.RowKit
set_option linter.unusedVariables false
theorem run_store_float (P : Program) (w : World) (a : Addr) (m : Mode) (x : Nat) : (store a (.float .f64 x) m).run P w = stored P w a (.float .f64 x) m := run_store P w a _ m rfl
attribute [local go_sem] run_store_float

/-- Block k is a plain row of cells. -/
def Plain (w : World) (k : Nat) : Prop := ∃ cs ta, w.heap[k]? = some (.cells cs ta (0, 0))
theorem Plain.lt {w : World} {k : Nat} (h : Plain w k) : k < w.heap.size := by
  obtain ⟨cs, ta, h⟩ := h
  exact (Array.getElem?_eq_some_iff.1 h).1
theorem Plain.new (w : World) (cs : Array Value) (t : TypeId) (k : Nat) (h : k = w.heap.size) : Plain (w.alloc (.cells cs t)) k := by
  subst h
  refine ⟨cs, t, ?_⟩
  show (w.heap.push _)[w.heap.size]? = _
  simp
theorem Plain.past {w : World} {k : Nat} (h : Plain w k) (o : Obj) : Plain (w.alloc o) k := by
  have hl := h.lt
  obtain ⟨cs, ta, h⟩ := h
  exact ⟨cs, ta, by rw [Below.heap_alloc _ _ _ hl]; exact h⟩
theorem Plain.below {w w' : World} {k n : Nat} (h : Plain w k) (hb : Below n w w') (hk : k < n) : Plain w' k := by
  obtain ⟨cs, ta, h⟩ := h
  exact ⟨cs, ta, by rw [hb.block k hk]; exact h⟩
theorem Plain.set {w : World} {k : Nat} (h : Plain w k) (m o : Nat) (v : Value) : Plain (w.setCell ⟨m, o, none⟩ v) k := by
  obtain ⟨cs, ta, h⟩ := h
  by_cases e : k = m
  · subst e
    exact ⟨_, ta, heap_setCell_same w k o cs ta v h⟩
  · exact ⟨cs, ta, by rw [Below.heap_setCell _ _ _ _ (by exact e)]; exact h⟩

def ptr (f : Bool) (k : Nat) : Option Addr := if f then some ⟨k, 0, none⟩ else none
/-- The caps as a value: its four pointers lie one behind the other, from block n on. -/
def capsVal (n : Nat) (tc uc wf rf : Bool) (mode : Int) : Value :=
  .agg #[.pointer (ptr tc n), .pointer (ptr uc (n + tc.toNat)), .int .i64 mode, .pointer (ptr wf (n + tc.toNat + uc.toNat)), .pointer (ptr rf (n + tc.toNat + uc.toNat + wf.toNat))]
/-- What they lead to. -/
structure CapsOut (W w' : World) (n : Nat) (tc uc wf rf : Bool) (tk uk rs : Int) (x : Nat) : Prop where
  base : W.heap.size ≤ n
  top : n + tc.toNat + uc.toNat + wf.toNat + rf.toNat ≤ w'.heap.size
  c0 : tc = true → w'.cell? ⟨n, 0, none⟩ = some (.int .i64 tk) ∧ w'.frozen? ⟨n, 0, none⟩ = false
  c1 : uc = true → w'.cell? ⟨n + tc.toNat, 0, none⟩ = some (.int .i64 uk) ∧ w'.frozen? ⟨n + tc.toNat, 0, none⟩ = false
  c3 : wf = true → w'.cell? ⟨n + tc.toNat + uc.toNat, 0, none⟩ = some (.float .f64 x) ∧ w'.frozen? ⟨n + tc.toNat + uc.toNat, 0, none⟩ = false
  c4 : rf = true → w'.cell? ⟨n + tc.toNat + uc.toNat + wf.toNat, 0, none⟩ = some (.int .i64 rs) ∧ w'.frozen? ⟨n + tc.toNat + uc.toNat + wf.toNat, 0, none⟩ = false
  h0 : tc = true → Plain w' (n)
  h1 : uc = true → Plain w' (n + tc.toNat)
  h3 : wf = true → Plain w' (n + tc.toNat + uc.toNat)
  h4 : rf = true → Plain w' (n + tc.toNat + uc.toNat + wf.toNat)
  bel : Below W.heap.size W w'

set_option maxHeartbeats 8000000 in
set_option maxRecDepth 100000 in
theorem caps_tt (B : Nat) (tk uk mode wa rs a b c : Int) (x : Nat) (W : World) (wf rf : Bool) (hB : Bud W B true tk true uk mode wa rs a b c) (h1 : (wa != 800000000) = wf) (h2 : (rs != -1) = rf)
    (hx : floatBits .quo .f64 (floatOfInt .f64 wa) 4741671816366391296 = some x) :
    Calls Try.prog 15 #[.pointer (some ⟨B, 0, none⟩)] W fun e w' => e = .returned (capsVal (W.heap.size + 2) true true wf rf mode) ∧ CapsOut W w' (W.heap.size + 2) true true wf rf tk uk rs x := by
  obtain ⟨q1, q2, q3, q4, q5, q6, _, _, _, q7, q8⟩ := hB
  have q9 := fun w => run_float_arith (P := Try.prog) w .quo 36 .f64 _ _ _ hx
  clear hx
  have s1 : B < W.heap.size + 1 := by omega
  have s2 : B < W.heap.size + 1 + 1 := by omega
  have s3 : B < W.heap.size + 1 + 1 + 1 := by omega
  have s4 : B < W.heap.size + 1 + 1 + 1 + 1 := by omega
  have s5 : B < W.heap.size + 1 + 1 + 1 + 1 + 1 := by omega
  cases wf <;> cases rf
  all_goals
    go_enter Try.func15, Try.ntmps15
    go_wp2
    refine bodyPost_ret (v := capsVal (W.heap.size + 2) true true _ _ mode) (by simp [capsVal, ptr, results, Try.results15, go_sem]) rfl ⟨rfl, ?_⟩
    clear q1 q2 q3 q4 q5 q6 q7 q9 h1 h2
    refine ⟨by omega, by simp, fun h => ?_, fun h => ?_, fun h => ?_, fun h => ?_, fun h => ?_, fun h => ?_, fun h => ?_, fun h => ?_, ?_⟩
    · first | exact absurd h (by decide) | simp [go_sem]
    · first | exact absurd h (by decide) | simp [go_sem]
    · first | exact absurd h (by decide) | simp [go_sem]
    · first | exact absurd h (by decide) | simp [go_sem]
    · first | exact absurd h (by decide) | (repeat (first | (refine Plain.new _ _ _ _ ?_; simp; done) | refine Plain.past ?_ _))
    · first | exact absurd h (by decide) | (repeat (first | (refine Plain.new _ _ _ _ ?_; simp; done) | refine Plain.past ?_ _))
    · first | exact absurd h (by decide) | (repeat (first | (refine Plain.new _ _ _ _ ?_; simp; done) | refine Plain.past ?_ _))
    · first | exact absurd h (by decide) | (repeat (first | (refine Plain.new _ _ _ _ ?_; simp; done) | refine Plain.past ?_ _))
    · repeat (first | exact Below.refl _ _ | refine Below.alloc ?_ (by simp <;> omega) _)
set_option maxHeartbeats 8000000 in
set_option maxRecDepth 100000 in
theorem caps_tf (B : Nat) (tk uk mode wa rs a b c : Int) (x : Nat) (W : World) (wf rf : Bool) (hB : Bud W B true tk false uk mode wa rs a b c) (h1 : (wa != 800000000) = wf) (h2 : (rs != -1) = rf)
    (hx : floatBits .quo .f64 (floatOfInt .f64 wa) 4741671816366391296 = some x) :
    Calls Try.prog 15 #[.pointer (some ⟨B, 0, none⟩)] W fun e w' => e = .returned (capsVal (W.heap.size + 2) true false wf rf mode) ∧ CapsOut W w' (W.heap.size + 2) true false wf rf tk uk rs x := by
  obtain ⟨q1, q2, q3, q4, q5, q6, _, _, _, q7, q8⟩ := hB
  have q9 := fun w => run_float_arith (P := Try.prog) w .quo 36 .f64 _ _ _ hx
  clear hx
  have s1 : B < W.heap.size + 1 := by omega
  have s2 : B < W.heap.size + 1 + 1 := by omega
  have s3 : B < W.heap.size + 1 + 1 + 1 := by omega
  have s4 : B < W.heap.size + 1 + 1 + 1 + 1 := by omega
  have s5 : B < W.heap.size + 1 + 1 + 1 + 1 + 1 := by omega
  cases wf <;> cases rf
  all_goals
    go_enter Try.func15, Try.ntmps15
    go_wp2
    refine bodyPost_ret (v := capsVal (W.heap.size + 2) true false _ _ mode) (by simp [capsVal, ptr, results, Try.results15, go_sem]) rfl ⟨rfl, ?_⟩
    clear q1 q2 q3 q4 q5 q6 q7 q9 h1 h2
    refine ⟨by omega, by simp, fun h => ?_, fun h => ?_, fun h => ?_, fun h => ?_, fun h => ?_, fun h => ?_, fun h => ?_, fun h => ?_, ?_⟩
    · first | exact absurd h (by decide) | simp [go_sem]
    · first | exact absurd h (by decide) | simp [go_sem]
    · first | exact absurd h (by decide) | simp [go_sem]
    · first | exact absurd h (by decide) | simp [go_sem]
    · first | exact absurd h (by decide) | (repeat (first | (refine Plain.new _ _ _ _ ?_; simp; done) | refine Plain.past ?_ _))
    · first | exact absurd h (by decide) | (repeat (first | (refine Plain.new _ _ _ _ ?_; simp; done) | refine Plain.past ?_ _))
    · first | exact absurd h (by decide) | (repeat (first | (refine Plain.new _ _ _ _ ?_; simp; done) | refine Plain.past ?_ _))
    · first | exact absurd h (by decide) | (repeat (first | (refine Plain.new _ _ _ _ ?_; simp; done) | refine Plain.past ?_ _))
    · repeat (first | exact Below.refl _ _ | refine Below.alloc ?_ (by simp <;> omega) _)
set_option maxHeartbeats 8000000 in
set_option maxRecDepth 100000 in
theorem caps_ft (B : Nat) (tk uk mode wa rs a b c : Int) (x : Nat) (W : World) (wf rf : Bool) (hB : Bud W B false tk true uk mode wa rs a b c) (h1 : (wa != 800000000) = wf) (h2 : (rs != -1) = rf)
    (hx : floatBits .quo .f64 (floatOfInt .f64 wa) 4741671816366391296 = some x) :
    Calls Try.prog 15 #[.pointer (some ⟨B, 0, none⟩)] W fun e w' => e = .returned (capsVal (W.heap.size + 2) false true wf rf mode) ∧ CapsOut W w' (W.heap.size + 2) false true wf rf tk uk rs x := by
  obtain ⟨q1, q2, q3, q4, q5, q6, _, _, _, q7, q8⟩ := hB
  have q9 := fun w => run_float_arith (P := Try.prog) w .quo 36 .f64 _ _ _ hx
  clear hx
  have s1 : B < W.heap.size + 1 := by omega
  have s2 : B < W.heap.size + 1 + 1 := by omega
  have s3 : B < W.heap.size + 1 + 1 + 1 := by omega
  have s4 : B < W.heap.size + 1 + 1 + 1 + 1 := by omega
  have s5 : B < W.heap.size + 1 + 1 + 1 + 1 + 1 := by omega
  cases wf <;> cases rf
  all_goals
    go_enter Try.func15, Try.ntmps15
    go_wp2
    refine bodyPost_ret (v := capsVal (W.heap.size + 2) false true _ _ mode) (by simp [capsVal, ptr, results, Try.results15, go_sem]) rfl ⟨rfl, ?_⟩
    clear q1 q2 q3 q4 q5 q6 q7 q9 h1 h2
    refine ⟨by omega, by simp, fun h => ?_, fun h => ?_, fun h => ?_, fun h => ?_, fun h => ?_, fun h => ?_, fun h => ?_, fun h => ?_, ?_⟩
    · first | exact absurd h (by decide) | simp [go_sem]
    · first | exact absurd h (by decide) | simp [go_sem]
    · first | exact absurd h (by decide) | simp [go_sem]
    · first | exact absurd h (by decide) | simp [go_sem]
    · first | exact absurd h (by decide) | (repeat (first | (refine Plain.new _ _ _ _ ?_; simp; done) | refine Plain.past ?_ _))
    · first | exact absurd h (by decide) | (repeat (first | (refine Plain.new _ _ _ _ ?_; simp; done) | refine Plain.past ?_ _))
    · first | exact absurd h (by decide) | (repeat (first | (refine Plain.new _ _ _ _ ?_; simp; done) | refine Plain.past ?_ _))
    · first | exact absurd h (by decide) | (repeat (first | (refine Plain.new _ _ _ _ ?_; simp; done) | refine Plain.past ?_ _))
    · repeat (first | exact Below.refl _ _ | refine Below.alloc ?_ (by simp <;> omega) _)
set_option maxHeartbeats 8000000 in
set_option maxRecDepth 100000 in
theorem caps_ff (B : Nat) (tk uk mode wa rs a b c : Int) (x : Nat) (W : World) (wf rf : Bool) (hB : Bud W B false tk false uk mode wa rs a b c) (h1 : (wa != 800000000) = wf) (h2 : (rs != -1) = rf)
    (hx : floatBits .quo .f64 (floatOfInt .f64 wa) 4741671816366391296 = some x) :
    Calls Try.prog 15 #[.pointer (some ⟨B, 0, none⟩)] W fun e w' => e = .returned (capsVal (W.heap.size + 2) false false wf rf mode) ∧ CapsOut W w' (W.heap.size + 2) false false wf rf tk uk rs x := by
  obtain ⟨q1, q2, q3, q4, q5, q6, _, _, _, q7, q8⟩ := hB
  have q9 := fun w => run_float_arith (P := Try.prog) w .quo 36 .f64 _ _ _ hx
  clear hx
  have s1 : B < W.heap.size + 1 := by omega
  have s2 : B < W.heap.size + 1 + 1 := by omega
  have s3 : B < W.heap.size + 1 + 1 + 1 := by omega
  have s4 : B < W.heap.size + 1 + 1 + 1 + 1 := by omega
  have s5 : B < W.heap.size + 1 + 1 + 1 + 1 + 1 := by omega
  cases wf <;> cases rf
  all_goals
    go_enter Try.func15, Try.ntmps15
    go_wp2
    refine bodyPost_ret (v := capsVal (W.heap.size + 2) false false _ _ mode) (by simp [capsVal, ptr, results, Try.results15, go_sem]) rfl ⟨rfl, ?_⟩
    clear q1 q2 q3 q4 q5 q6 q7 q9 h1 h2
    refine ⟨by omega, by simp, fun h => ?_, fun h => ?_, fun h => ?_, fun h => ?_, fun h => ?_, fun h => ?_, fun h => ?_, fun h => ?_, ?_⟩
    · first | exact absurd h (by decide) | simp [go_sem]
    · first | exact absurd h (by decide) | simp [go_sem]
    · first | exact absurd h (by decide) | simp [go_sem]
    · first | exact absurd h (by decide) | simp [go_sem]
    · first | exact absurd h (by decide) | (repeat (first | (refine Plain.new _ _ _ _ ?_; simp; done) | refine Plain.past ?_ _))
    · first | exact absurd h (by decide) | (repeat (first | (refine Plain.new _ _ _ _ ?_; simp; done) | refine Plain.past ?_ _))
    · first | exact absurd h (by decide) | (repeat (first | (refine Plain.new _ _ _ _ ?_; simp; done) | refine Plain.past ?_ _))
    · first | exact absurd h (by decide) | (repeat (first | (refine Plain.new _ _ _ _ ?_; simp; done) | refine Plain.past ?_ _))
    · repeat (first | exact Below.refl _ _ | refine Below.alloc ?_ (by simp <;> omega) _)
theorem caps_any (B : Nat) (tc : Bool) (tk : Int) (uc : Bool) (uk mode wa rs a b c : Int) (x : Nat) (W : World) (wf rf : Bool) (hB : Bud W B tc tk uc uk mode wa rs a b c) (h1 : (wa != 800000000) = wf) (h2 : (rs != -1) = rf)
    (hx : floatBits .quo .f64 (floatOfInt .f64 wa) 4741671816366391296 = some x) :
    Calls Try.prog 15 #[.pointer (some ⟨B, 0, none⟩)] W fun e w' => e = .returned (capsVal (W.heap.size + 2) tc uc wf rf mode) ∧ CapsOut W w' (W.heap.size + 2) tc uc wf rf tk uk rs x := by
  cases tc <;> cases uc
  · exact caps_ff B tk uk mode wa rs a b c x W wf rf hB h1 h2 hx
  · exact caps_ft B tk uk mode wa rs a b c x W wf rf hB h1 h2 hx
  · exact caps_tf B tk uk mode wa rs a b c x W wf rf hB h1 h2 hx
  · exact caps_tt B tk uk mode wa rs a b c x W wf rf hB h1 h2 hx

end Go.Proofs.Qxb6602634a
