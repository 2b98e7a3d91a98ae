/-
  'ZZNewBudget': a budget in new memory. By an AI agent.
-/
import Derived.Test.Qxb6602634aRows
import Derived.WalkKit
import Derived.WalkSpells
import Derived.WalkLawsBesides
import Derived.ProofKit
import Derived.Below
namespace Go.Proofs.Qxb6602634a
open Go.RowKit
set_option linter.unusedVariables false
theorem hide {p : Prop} (h : p) : Hid p := h
theorem unhide {p : Prop} (h : Hid p) : p := h

/-- The cells of a budget that are ever looked at. -/
structure Bud (W : World) (B : Nat) (tc : Bool) (tk : Int) (uc : Bool) (uk mode wa rs a b c : Int) : Prop where
  tk : W.cell? ⟨B, 2, none⟩ = some (.int .i64 tk)
  tc : W.cell? ⟨B, 6, none⟩ = some (.bool tc)
  uk : W.cell? ⟨B, 7, none⟩ = some (.int .i64 uk)
  uc : W.cell? ⟨B, 11, none⟩ = some (.bool uc)
  mode : W.cell? ⟨B, 12, none⟩ = some (.int .i64 mode)
  wa : W.cell? ⟨B, 13, none⟩ = some (.int .i64 wa)
  a : W.cell? ⟨B, 15, none⟩ = some (.int .i64 a)
  b : W.cell? ⟨B, 16, none⟩ = some (.int .i64 b)
  c : W.cell? ⟨B, 17, none⟩ = some (.int .i64 c)
  rs : W.cell? ⟨B, 20, none⟩ = some (.int .i64 rs)
  lt : B < W.heap.size

theorem Bud.below {W W' : World} {B : Nat} {tc : Bool} {tk : Int} {uc : Bool} {uk mode wa rs a b c : Int} (h : Bud W B tc tk uc uk mode wa rs a b c) {n : Nat} (hb : Below n W W') (hn : B < n) : Bud W' B tc tk uc uk mode wa rs a b c :=
  ⟨(hb.cell hn).trans h.tk, (hb.cell hn).trans h.tc, (hb.cell hn).trans h.uk, (hb.cell hn).trans h.uc, (hb.cell hn).trans h.mode, (hb.cell hn).trans h.wa, (hb.cell hn).trans h.a, (hb.cell hn).trans h.b, (hb.cell hn).trans h.c, (hb.cell hn).trans h.rs, Nat.lt_of_lt_of_le h.lt hb.size⟩

set_option maxHeartbeats 400000 in
set_option maxRecDepth 100000 in
theorem budget_any (tc : Bool) (tk : Int) (uc : Bool) (uk mode wa rs a b c : Int) (w : World) :
    Calls Try.prog 7 #[.bool tc, .int .i64 tk, .bool uc, .int .i64 uk, .int .i64 mode, .int .i64 wa, .int .i64 rs, .agg #[.int .i64 a, .int .i64 b, .int .i64 c]] w fun e w' =>
      e = .returned (.pointer (some ⟨w.heap.size + 1, 0, none⟩)) ∧ Bud w' (w.heap.size + 1) tc tk uc uk mode wa rs a b c ∧ Below w.heap.size w w' := by
  go_enter Try.func7, Try.ntmps7
  go_wp2
  go_ret
  refine ⟨rfl, ?_, ((Below.refl _ _).alloc (Nat.le_refl _) _).alloc (by simp) _⟩
  constructor <;> simp [go_sem]
end Go.Proofs.Qxb6602634a
