/-
  'ZZCaps', the blocks told whole. By an AI agent.
-/
import Derived.Test.Qxb6602634aCapsB
namespace Go.Proofs.Qxb6602634a
open Go.RowKit
set_option linter.unusedVariables false

theorem far {W : World} {b b' k i : Nat} {v : Value} {r : Option Value} (h : W.cell? ⟨b', i, none⟩ = r) (hne : b ≠ b') : (W.setCell ⟨b, k, none⟩ v).cell? ⟨b', i, none⟩ = r := by
  rw [World.cell?_setCell_other W _ _ _ (by intro hh; injection hh; omega), h]
theorem CapsOut.store {W w' : World} {n : Nat} {tc uc wf rf : Bool} {tk uk rs : Int} {x : Nat} (h : CapsOut W w' n tc uc wf rf tk uk rs x) (m k : Nat) (v : Value) (h1 : W.heap.size ≤ m) (h2 : m < n) :
    CapsOut W (w'.setCell ⟨m, k, none⟩ v) n tc uc wf rf tk uk rs x where
  base := h.base
  top := by have := h.top; simpa [World.setCell] using this
  c0 hc := ⟨far (h.c0 hc).1 (by omega), by rw [World.frozen?_setCell]; exact (h.c0 hc).2⟩
  c1 hc := ⟨far (h.c1 hc).1 (by omega), by rw [World.frozen?_setCell]; exact (h.c1 hc).2⟩
  c3 hc := ⟨far (h.c3 hc).1 (by omega), by rw [World.frozen?_setCell]; exact (h.c3 hc).2⟩
  c4 hc := ⟨far (h.c4 hc).1 (by omega), by rw [World.frozen?_setCell]; exact (h.c4 hc).2⟩
  h0 hc := (h.h0 hc).set _ _ _
  h1 hc := (h.h1 hc).set _ _ _
  h3 hc := (h.h3 hc).set _ _ _
  h4 hc := (h.h4 hc).set _ _ _
  bel := h.bel.setCell h1 _
theorem CapsOut.widen {W W0 w' : World} {n : Nat} {tc uc wf rf : Bool} {tk uk rs : Int} {x : Nat} (h : CapsOut W0 w' n tc uc wf rf tk uk rs x) (hb : Below W.heap.size W W0) : CapsOut W w' n tc uc wf rf tk uk rs x :=
  ⟨Nat.le_trans hb.size h.base, h.top, h.c0, h.c1, h.c3, h.c4, h.h0, h.h1, h.h3, h.h4, hb.trans (h.bel.mono hb.size)⟩

set_option maxHeartbeats 1000000 in
set_option maxRecDepth 100000 in
/-- ZZCaps. -/
theorem zz_caps (B : Nat) (tc : Bool) (tk : Int) (uc : Bool) (uk mode wa rs a b c : Int) (x : Nat) (W : World) (wf rf : Bool) (hB : Bud W B tc tk uc uk mode wa rs a b c) (h1 : (wa != 800000000) = wf) (h2 : (rs != -1) = rf)
    (hx : floatBits .quo .f64 (floatOfInt .f64 wa) 4741671816366391296 = some x) :
    Calls Try.prog 8 #[.pointer (some ⟨B, 0, none⟩)] W fun e w' => e = .returned (capsVal (W.heap.size + 3) tc uc wf rf mode) ∧ CapsOut W w' (W.heap.size + 3) tc uc wf rf tk uk rs x := by
  have H := hide (caps_any B tc tk uc uk mode wa rs a b c x (W.alloc (.cells #[.pointer none, .pointer none, .int .i64 0, .pointer none, .pointer none] 33)) wf rf (hB.below ((Below.refl W.heap.size W).alloc (Nat.le_refl _) _) hB.lt) h1 h2 hx)
  have HW := hide ((Below.refl W.heap.size W).alloc (Nat.le_refl _) (.cells #[.pointer none, .pointer none, .int .i64 0, .pointer none, .pointer none] 33))
  have k0 : (W.alloc (.cells #[.pointer none, .pointer none, .int .i64 0, .pointer none, .pointer none] 33)).cell? ⟨W.heap.size, 0, none⟩ = some (.pointer none) := by simp
  have k1 : (W.alloc (.cells #[.pointer none, .pointer none, .int .i64 0, .pointer none, .pointer none] 33)).cell? ⟨W.heap.size, 1, none⟩ = some (.pointer none) := by simp
  have k2 : (W.alloc (.cells #[.pointer none, .pointer none, .int .i64 0, .pointer none, .pointer none] 33)).cell? ⟨W.heap.size, 2, none⟩ = some (.int .i64 0) := by simp
  have k3 : (W.alloc (.cells #[.pointer none, .pointer none, .int .i64 0, .pointer none, .pointer none] 33)).cell? ⟨W.heap.size, 3, none⟩ = some (.pointer none) := by simp
  have k4 : (W.alloc (.cells #[.pointer none, .pointer none, .int .i64 0, .pointer none, .pointer none] 33)).cell? ⟨W.heap.size, 4, none⟩ = some (.pointer none) := by simp
  have kf : ∀ i, (W.alloc (.cells #[.pointer none, .pointer none, .int .i64 0, .pointer none, .pointer none] 33)).frozen? ⟨W.heap.size, i, none⟩ = false := fun i => World.frozen?_alloc_at _ _ _ _ rfl
  have ks : (W.alloc (.cells #[.pointer none, .pointer none, .int .i64 0, .pointer none, .pointer none] 33)).heap.size = W.heap.size + 1 := by simp
  have K := hide (And.intro k0 (And.intro k1 (And.intro k2 (And.intro k3 (And.intro k4 (And.intro kf ks))))))
  clear hB h1 h2 hx k0 k1 k2 k3 k4 kf ks
  go_enter Try.func8, Try.ntmps8
  go_wp2_with fail
  generalize W.alloc (.cells #[.pointer none, .pointer none, .int .i64 0, .pointer none, .pointer none] 33) = W0 at *
  refine (unhide H).mono ?_
  rintro e w' ⟨rfl, hco⟩
  obtain ⟨k0, k1, k2, k3, k4, kf, ks⟩ := unhide K
  have hm : W.heap.size < W0.heap.size := by omega
  have l0 := (hco.bel.cell (p := ⟨W.heap.size, 0, none⟩) hm).trans k0
  have l1 := (hco.bel.cell (p := ⟨W.heap.size, 1, none⟩) hm).trans k1
  have l2 := (hco.bel.cell (p := ⟨W.heap.size, 2, none⟩) hm).trans k2
  have l3 := (hco.bel.cell (p := ⟨W.heap.size, 3, none⟩) hm).trans k3
  have l4 := (hco.bel.cell (p := ⟨W.heap.size, 4, none⟩) hm).trans k4
  have lf : ∀ i, w'.frozen? ⟨W.heap.size, i, none⟩ = false := fun i => (hco.bel.frozen (p := ⟨W.heap.size, i, none⟩) hm).trans (kf i)
  rw [ks, show W.heap.size + 1 + 2 = W.heap.size + 3 from rfl] at hco
  rw [ks, show W.heap.size + 1 + 2 = W.heap.size + 3 from rfl]
  have CO := hide (hco.widen (unhide HW))
  clear hco k0 k1 k2 k3 k4 kf ks H K HW hm
  unfold capsVal
  go_wp2_with fail
  refine bodyPost_ret (v := capsVal (W.heap.size + 3) tc uc wf rf mode) (by simp [capsVal, results, Try.results8, go_sem, l0, l1, l2, l3, l4]) rfl ⟨rfl, ?_⟩
  exact ((((((unhide CO).store _ _ _ (Nat.le_refl _) (by omega)).store _ _ _ (Nat.le_refl _) (by omega)).store _ _ _ (Nat.le_refl _) (by omega)).store _ _ _ (Nat.le_refl _) (by omega)).store _ _ _ (Nat.le_refl _) (by omega))
end Go.Proofs.Qxb6602634a
