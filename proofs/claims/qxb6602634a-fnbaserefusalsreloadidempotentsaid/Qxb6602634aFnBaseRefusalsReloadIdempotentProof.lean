/-
  THE PROOF OF 'Rows.FnBaseRefusalsReloadIdempotentSaid': an array of three integers by value. By an AI agent.
-/
import Derived.Test.Qxb6602634aRows
import Derived.Test.Qxb6602634aReloadLaw
import Derived.WalkKit
import Derived.ProofKit
import Derived.OpenShut
import Derived.ShutString
import Derived.ChangeOld
import Derived.Below
import Derived.Laws.IdiomArrays
namespace Go.Proofs.Qxb6602634a.fnBaseRefusalsReloadIdempotent
open Go.ChangeShapes Go.WideShapes Go.ChangeAt Go.RowKit
set_option linter.unusedVariables false

theorem own : ownKnob Try.prog.godebug = none := by kernel_rfl
theorem cells27 : Try.prog.cellsOf 27 = 3 := by kernel_rfl
theorem cells2 : Try.prog.cellsOf 2 = 1 := by kernel_rfl
theorem list3 {α : Type} (l : List α) (h : l.length = 3) : ∃ a b c, l = [a, b, c] := by
  match l, h with
  | [a, b, c], _ => exact ⟨a, b, c, rfl⟩

set_option maxRecDepth 100000 in
theorem lifted (os : Os) (started : os.Started) (H : Type) (enc : TypeId × Value → H) :
    ReturnsInHanded {} Try.checked os 6 .any (Rows.fnBaseRefusalsReloadIdempotentSpec.pre6 enc Try.prog Try.f6 Rows.fnBaseRefusalsReloadIdempotentRow.domain false) (Rows.fnBaseRefusalsReloadIdempotentSpec.post enc Try.prog Try.f6 false true false false) := by
  refine returnsInHanded_of_change (C := Try.checked) own started (by kernel_rfl) Try.func6
    (ChangeSpec.witness6 (enc := enc) (C := Try.checked) false ⟨#[], #[.agg #[.int .i64 0, .int .i64 0, .int .i64 0]], []⟩ 8 (by kernel_rfl) (by kernel_rfl) (by kernel_rfl) (by kernel_rfl)) ?_
  intro W base args ds gs before hval0 hW hcnd _
  have hval : ∀ (j : Nat) t v, Try.f6.params[j]? = some t → args[j]? = some v → Value.okWide Try.prog W .any base t v := hval0
  have hW' := hW
  obtain ⟨p, q, hA0, hV, rfl, hfz, hnd⟩ := hW
  have hA : DataW.TrodAll enc Try.prog W 0 (fun _ => true) true Try.f6.params.toList args.toList ds p := hA0
  rw [Try.params6] at hA hval
  obtain ⟨v0, vs0, d0, ds0, p0, q0, hargs, rfl, rfl, h0, r0⟩ := trodAll_cons hA
  obtain ⟨rfl, rfl, rfl⟩ := trodAll_nil r0
  obtain rfl : args = #[v0] := by cases args; simp_all
  obtain ⟨rfl, rfl⟩ := trodVars_none hV
  obtain ⟨cs, rfl, hsz, _⟩ : ∃ cs, v0 = .agg cs ∧ cs.size = Try.prog.cellsOf 27 ∧ Row.okWide Try.prog W .any base 27 cs := by
    have := hval 0 27 v0 rfl rfl
    simpa [Value.okWide, Try.underlying27] using this
  rw [cells27] at hsz
  obtain ⟨l⟩ := cs
  obtain ⟨c0, c1, c2, rfl⟩ := list3 l hsz
  obtain ⟨fuel, hf⟩ := h0
  obtain ⟨y0, y1, y2, m, hx, hy0, hy1, hy2⟩ := trod_array3 Try.underlying27 cells2 hf
  obtain ⟨x0, e0, rfl, w0⟩ := DataW.trod_int Try.underlying2 hy0
  obtain ⟨x1, e1, rfl, w1⟩ := DataW.trod_int Try.underlying2 hy1
  obtain ⟨x2, e2, rfl, w2⟩ := DataW.trod_int Try.underlying2 hy2
  simp at e0 e1 e2
  subst e0 e1 e2
  simp only [Prod.mk.injEq] at hx
  obtain ⟨rfl, rfl⟩ := hx
  clear hA0 hval0
  simp only [List.append_nil] at hW'
  have wf : ∀ k, (Lit.int .i64 (tri x0 x1 x2 k)).wf = true := fun k => by
    match k with
    | 0 => exact w0
    | 1 => exact w1
    | _ + 2 => exact w2
  have reads : ∀ (W' : World) (sp : Nat → Bool), DataW.Trod enc Try.prog W' 0 sp true 27 (.agg #[.int .i64 x0, .int .i64 x1, .int .i64 x2]) (.agg [.lit (.int .i64 x0), .lit (.int .i64 x1), .lit (.int .i64 x2)]) [] := fun W' sp =>
    ⟨2, by simp [DataW.trod, Value.cells, Try.underlying27, Try.underlying2, cells27, cells2, w0, w1, w2, show List.range 3 = [0, 1, 2] from rfl]⟩
  refine (reload_any x0 x1 x2 wf W).mono fun e W' ⟨he, hg⟩ => ?_
  subst he
  exact ⟨_, rfl, _, _, _, [], [], [], hW', trodAll_cons_mk (shut_bool Try.underlying4 _) trodAll_mk0, trodAll_cons_mk (reads _ _) trodAll_mk0, rfl, hg.frame _, fun h => by cases h⟩

theorem over : Rows.fnBaseRefusalsReloadIdempotentRow.holds Try.pinned (OpenSpec.ofChange Rows.fnBaseRefusalsReloadIdempotentSpec) :=
  OpenClaim.holds_of_wide 6 Try.f6 rfl rfl rfl rfl rfl rfl rfl ⟨rfl, rfl, rfl, rfl, rfl⟩ rfl rfl rfl rfl rfl (by kernel_rfl) Try.func6 (by kernel_rfl)
    (of_decide_eq_true (by kernel_rfl)) (by unfold Func.isWrapper; first | (rw [if_pos (by decide +kernel)]; kernel_rfl) | (rw [if_neg (by decide +kernel)]; exact ⟨rfl, rfl⟩))
    (fun os started H enc _ => lifted os started H enc)

/-- THE STATEMENT -/
theorem proved : Rows.FnBaseRefusalsReloadIdempotentSaid := over
#print axioms proved
end Go.Proofs.Qxb6602634a.fnBaseRefusalsReloadIdempotent
