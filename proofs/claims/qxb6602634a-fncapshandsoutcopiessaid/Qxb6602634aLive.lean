/-
  What lives while the caller writes through the first caps' pointers. By an AI agent.
-/
import Derived.Test.Qxb6602634aMatch
import Derived.RegionTactic
import Derived.Deep.Cut
import Derived.LaidEql
namespace Go.Proofs.Qxb6602634a
open Go.RowKit
set_option linter.unusedVariables false
attribute [local go_sem] run_store_float

theorem ptr_some (f : Bool) (k : Nat) : (ptr f k).isSome = f := by cases f <;> rfl

/-- What lives while the caller writes through the first caps' pointers. -/
structure Live (V : World) (m1 B n : Nat) (tc uc wf rf : Bool) (tk uk mode wa rs : Int) (fx : Nat) : Prop where
  bud : Bud V B tc tk uc uk mode wa rs 0 0 0
  f0 : V.cell? ⟨m1, 0, none⟩ = some (.pointer (ptr tc n))
  f1 : V.cell? ⟨m1, 1, none⟩ = some (.pointer (ptr uc (n + tc.toNat)))
  f3 : V.cell? ⟨m1, 3, none⟩ = some (.pointer (ptr wf (n + tc.toNat + uc.toNat)))
  f4 : V.cell? ⟨m1, 4, none⟩ = some (.pointer (ptr rf (n + tc.toNat + uc.toNat + wf.toNat)))
  g0 : tc = true → (∃ z, V.cell? ⟨n, 0, none⟩ = some (.int .i64 z)) ∧ V.frozen? ⟨n, 0, none⟩ = false ∧ Plain V n
  g1 : uc = true → (∃ z, V.cell? ⟨n + tc.toNat, 0, none⟩ = some (.int .i64 z)) ∧ V.frozen? ⟨n + tc.toNat, 0, none⟩ = false ∧ Plain V (n + tc.toNat)
  g3 : wf = true → V.cell? ⟨n + tc.toNat + uc.toNat, 0, none⟩ = some (.float .f64 fx) ∧ V.frozen? ⟨n + tc.toNat + uc.toNat, 0, none⟩ = false ∧ Plain V (n + tc.toNat + uc.toNat)
  g4 : rf = true → (∃ z, V.cell? ⟨n + tc.toNat + uc.toNat + wf.toNat, 0, none⟩ = some (.int .i64 z)) ∧ V.frozen? ⟨n + tc.toNat + uc.toNat + wf.toNat, 0, none⟩ = false ∧ Plain V (n + tc.toNat + uc.toNat + wf.toNat)
  top : n + tc.toNat + uc.toNat + wf.toNat + rf.toNat ≤ m1
  lt : m1 < V.heap.size
  bn : B < n

section
variable {V : World} {m1 B n : Nat} {tc uc wf rf : Bool} {tk uk mode wa rs : Int} {fx : Nat}
theorem Live.drew (h : Live V m1 B n tc uc wf rf tk uk mode wa rs fx) : Live V.drew m1 B n tc uc wf rf tk uk mode wa rs fx :=
  ⟨h.bud.below (Below.refl _ _).drew h.bud.lt, h.f0, h.f1, h.f3, h.f4, h.g0, h.g1, h.g3, h.g4, h.top, h.lt, h.bn⟩

theorem set_int {V : World} {k k' : Nat} {v : Value} (h : (∃ z, V.cell? ⟨k', 0, none⟩ = some (.int .i64 z)) ∧ V.frozen? ⟨k', 0, none⟩ = false ∧ Plain V k') (hv : k' = k → ∃ z, v = .int .i64 z) :
    (∃ z, (V.setCell ⟨k, 0, none⟩ v).cell? ⟨k', 0, none⟩ = some (.int .i64 z)) ∧ (V.setCell ⟨k, 0, none⟩ v).frozen? ⟨k', 0, none⟩ = false ∧ Plain (V.setCell ⟨k, 0, none⟩ v) k' := by
  obtain ⟨⟨z, hz⟩, hf, hp⟩ := h
  refine ⟨?_, by rw [World.frozen?_setCell]; exact hf, hp.set _ _ _⟩
  by_cases e : k' = k
  · obtain ⟨z', rfl⟩ := hv e
    subst e
    exact ⟨z', World.cell?_setCell_same V _ _ hz⟩
  · exact ⟨z, far hz (fun h => e h.symm)⟩
theorem Live.set (h : Live V m1 B n tc uc wf rf tk uk mode wa rs fx) (k : Nat) (v : Value) (fy : Nat) (hk : B < k) (hk' : k < m1)
    (e0 : tc = true → n = k → ∃ z, v = .int .i64 z) (e1 : uc = true → n + tc.toNat = k → ∃ z, v = .int .i64 z)
    (e3 : wf = true → (n + tc.toNat + uc.toNat = k ∧ v = .float .f64 fy) ∨ (n + tc.toNat + uc.toNat ≠ k ∧ fy = fx)) (e4 : rf = true → n + tc.toNat + uc.toNat + wf.toNat = k → ∃ z, v = .int .i64 z) :
    Live (V.setCell ⟨k, 0, none⟩ v) m1 B n tc uc wf rf tk uk mode wa rs fy where
  bud := h.bud.below (n := B + 1) ((Below.refl _ _).setCell (by exact hk) _) (by omega)
  f0 := far h.f0 (by omega)
  f1 := far h.f1 (by omega)
  f3 := far h.f3 (by omega)
  f4 := far h.f4 (by omega)
  g0 hc := set_int (h.g0 hc) (e0 hc)
  g1 hc := set_int (h.g1 hc) (e1 hc)
  g3 hc := by
    obtain ⟨hz, hf, hp⟩ := h.g3 hc
    refine ⟨?_, by rw [World.frozen?_setCell]; exact hf, hp.set _ _ _⟩
    rcases e3 hc with ⟨e, rfl⟩ | ⟨e, rfl⟩
    · subst e
      exact World.cell?_setCell_same V _ _ hz
    · exact far hz (fun h => e h.symm)
  g4 hc := set_int (h.g4 hc) (e4 hc)
  top := h.top
  lt := by simpa [World.setCell] using h.lt
  bn := h.bn
end

theorem div_all (wa : Int) : ∃ x s, floatBits .quo .f64 (floatOfInt .f64 wa) 4741671816366391296 = some x ∧ FloatKind.f64.format.order x x = some .eq ∧ floatBits .add .f64 x 4607182418800017408 = some s := by
  obtain ⟨x, hx, hn⟩ := Fl.num_div (Fl.num_nearest (decide (wa < 0)) wa.natAbs 0) Fl.c9_is
  obtain ⟨K1, h1⟩ := Fl.one_is
  obtain ⟨s, hs⟩ := Fl.num_add hn h1
  exact ⟨x, s, hx, Fl.num_self hn, hs⟩
theorem div_default (x : Nat) (h : floatBits .quo .f64 (floatOfInt .f64 800000000) 4741671816366391296 = some x) : FloatKind.f64.format.order 4605380978949069210 x = some .eq := by
  have e : floatBits .quo .f64 (floatOfInt .f64 800000000) 4741671816366391296 = some 4605380978949069210 := by decide +kernel
  rw [e] at h
  cases h
  decide +kernel

/-- The caps laid into a variable of the caller's. -/
theorem live_of {W1 W2 : World} {B n : Nat} {tc uc wf rf : Bool} {tk uk mode wa rs : Int} {x : Nat} (hb : Bud W1 B tc tk uc uk mode wa rs 0 0 0) (co : CapsOut W1 W2 n tc uc wf rf tk uk rs x) :
    Live (W2.alloc (.cells #[.pointer (ptr tc n), .pointer (ptr uc (n + tc.toNat)), .int .i64 mode, .pointer (ptr wf (n + tc.toNat + uc.toNat)), .pointer (ptr rf (n + tc.toNat + uc.toNat + wf.toNat))] 33)) W2.heap.size B n tc uc wf rf tk uk mode wa rs x where
  bud := (hb.below co.bel hb.lt).below ((Below.refl W2.heap.size W2).alloc (Nat.le_refl _) _) (Nat.lt_of_lt_of_le hb.lt co.bel.size)
  f0 := by simp
  f1 := by simp
  f3 := by simp
  f4 := by simp
  g0 hc := ⟨⟨_, (World.cell?_alloc_past _ _ _ (co.h0 hc).lt).trans (co.c0 hc).1⟩, (World.frozen?_alloc_past _ _ _ (co.h0 hc).lt).trans (co.c0 hc).2, (co.h0 hc).past _⟩
  g1 hc := ⟨⟨_, (World.cell?_alloc_past _ _ _ (co.h1 hc).lt).trans (co.c1 hc).1⟩, (World.frozen?_alloc_past _ _ _ (co.h1 hc).lt).trans (co.c1 hc).2, (co.h1 hc).past _⟩
  g3 hc := ⟨(World.cell?_alloc_past _ _ _ (co.h3 hc).lt).trans (co.c3 hc).1, (World.frozen?_alloc_past _ _ _ (co.h3 hc).lt).trans (co.c3 hc).2, (co.h3 hc).past _⟩
  g4 hc := ⟨⟨_, (World.cell?_alloc_past _ _ _ (co.h4 hc).lt).trans (co.c4 hc).1⟩, (World.frozen?_alloc_past _ _ _ (co.h4 hc).lt).trans (co.c4 hc).2, (co.h4 hc).past _⟩
  top := co.top
  lt := by simp
  bn := Nat.lt_of_lt_of_le hb.lt co.base
end Go.Proofs.Qxb6602634a
