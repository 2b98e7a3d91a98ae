/-
  No cell of these rows narrows 'for every input' (looked for: loops, veiled, ifaces, maps, wideKeys, modest, calm, conditions, laid).
  DERIVED. THE GIVEN ROWS OF THIS SEAT. 4 by the template 'for every input the law returns true; each argument reads behind the call as it read before'; 0 by the template 'total and deterministic' (their statements: Qxb6602634aTotals.lean).
  GIVEN WITH THE SEED: the statements are not yours to turn. If you find one false, say at which input.
  Laid BY PROGRAM, IN A SANDBOX (cutbox-rows.mjs): the forced cells as the released guide's own fill.sh prints them over the translation 8dc47adc14677127… (all of the seat's roots in one cut). By AI agents, Wed Nov 11 2026. No macro, syntax, notation, axiom, sorry.
-/
import Derived.Test.Qxb6602634aChecked
import GoSem.Claim
import GoSem.ClaimJoined
import GoSem.ClaimMapViews
import Derived.JoinedTies
import Derived.KernelRfl
namespace Go.Proofs.Qxb6602634a
/- THE CELL 'sum', in the pinned program and in every row, IS THE sha256 OF THE DUMP (.gsa) THAT Qxb6602634aProg.lean LOADS. Nothing in Lean hashes anything: it is a label: what it is worth is what the hold of that sum in a sandbox is worth. -/
noncomputable def Try.pinned : Pinned := { name := "qxb6602634a", sum := "8dc47adc14677127f5debeab11a23bf04e972095cf5fdb5b36a16b6aa7fd677d", checked := Try.checked }
namespace Rows
def none {H : Type} : Left H := { results := [], args := [] }

/-- 'zzlaws_root_b1.FnCapsWarnAtReadsBackInBillionths': WHATEVER THE INPUT: true; the input reads as it did. -/
def fnCapsWarnAtReadsBackInBillionthsSpec : ChangeSpec := { name := "fnCapsWarnAtReadsBackInBillionths", fn := fun _ => fun
  | [d1, d2, d3, d4, d5, d6, d7] => { results := [.lit (.bool true)], args := [d1, d2, d3, d4, d5, d6, d7] }
  | _ => none }
def fnCapsWarnAtReadsBackInBillionthsRow : OpenClaim := { program := "qxb6602634a", sum := "8dc47adc14677127f5debeab11a23bf04e972095cf5fdb5b36a16b6aa7fd677d", func := "example.com/tight-budget/tight-budget/zzlaws_root_b1.FnCapsWarnAtReadsBackInBillionths", spec := "fnCapsWarnAtReadsBackInBillionths", apart := false }
def FnCapsWarnAtReadsBackInBillionthsSaid : Prop := fnCapsWarnAtReadsBackInBillionthsRow.holds Try.pinned (OpenSpec.ofChange fnCapsWarnAtReadsBackInBillionthsSpec)

/-- ITS FALSE NEIGHBOUR: 'it returns false'. Refute it at one input. -/
def fnCapsWarnAtReadsBackInBillionthsWrong : ChangeSpec := { name := "fnCapsWarnAtReadsBackInBillionths", fn := fun _ => fun
  | [d1, d2, d3, d4, d5, d6, d7] => { results := [.lit (.bool false)], args := [d1, d2, d3, d4, d5, d6, d7] }
  | _ => none }
def FnCapsWarnAtReadsBackInBillionthsWrongFalsely : Prop := fnCapsWarnAtReadsBackInBillionthsRow.holds Try.pinned (OpenSpec.ofChange fnCapsWarnAtReadsBackInBillionthsWrong)

/-- 'zzlaws_root_b1.FnCapsHandsOutCopies': WHATEVER THE INPUT: true; the input reads as it did. -/
def fnCapsHandsOutCopiesSpec : ChangeSpec := { name := "fnCapsHandsOutCopies", fn := fun _ => fun
  | [d1, d2, d3, d4, d5, d6, d7] => { results := [.lit (.bool true)], args := [d1, d2, d3, d4, d5, d6, d7] }
  | _ => none }
def fnCapsHandsOutCopiesRow : OpenClaim := { program := "qxb6602634a", sum := "8dc47adc14677127f5debeab11a23bf04e972095cf5fdb5b36a16b6aa7fd677d", func := "example.com/tight-budget/tight-budget/zzlaws_root_b1.FnCapsHandsOutCopies", spec := "fnCapsHandsOutCopies", apart := false }
def FnCapsHandsOutCopiesSaid : Prop := fnCapsHandsOutCopiesRow.holds Try.pinned (OpenSpec.ofChange fnCapsHandsOutCopiesSpec)

/-- ITS FALSE NEIGHBOUR: 'it returns false'. Refute it at one input. -/
def fnCapsHandsOutCopiesWrong : ChangeSpec := { name := "fnCapsHandsOutCopies", fn := fun _ => fun
  | [d1, d2, d3, d4, d5, d6, d7] => { results := [.lit (.bool false)], args := [d1, d2, d3, d4, d5, d6, d7] }
  | _ => none }
def FnCapsHandsOutCopiesWrongFalsely : Prop := fnCapsHandsOutCopiesRow.holds Try.pinned (OpenSpec.ofChange fnCapsHandsOutCopiesWrong)

/-- 'zzlaws_root_b1.FnBaseRefusalsExact': WHATEVER THE INPUT: true; the input reads as it did. -/
def fnBaseRefusalsExactSpec : ChangeSpec := { name := "fnBaseRefusalsExact", fn := fun _ => fun
  | [d] => { results := [.lit (.bool true)], args := [d] }
  | _ => none }
def fnBaseRefusalsExactRow : OpenClaim := { program := "qxb6602634a", sum := "8dc47adc14677127f5debeab11a23bf04e972095cf5fdb5b36a16b6aa7fd677d", func := "example.com/tight-budget/tight-budget/zzlaws_root_b1.FnBaseRefusalsExact", spec := "fnBaseRefusalsExact", apart := false }
def FnBaseRefusalsExactSaid : Prop := fnBaseRefusalsExactRow.holds Try.pinned (OpenSpec.ofChange fnBaseRefusalsExactSpec)

/-- ITS FALSE NEIGHBOUR: 'it returns false'. Refute it at one input. -/
def fnBaseRefusalsExactWrong : ChangeSpec := { name := "fnBaseRefusalsExact", fn := fun _ => fun
  | [d] => { results := [.lit (.bool false)], args := [d] }
  | _ => none }
def FnBaseRefusalsExactWrongFalsely : Prop := fnBaseRefusalsExactRow.holds Try.pinned (OpenSpec.ofChange fnBaseRefusalsExactWrong)

/-- 'zzlaws_root_b1.FnBaseRefusalsReloadIdempotent': WHATEVER THE INPUT: true; the input reads as it did. -/
def fnBaseRefusalsReloadIdempotentSpec : ChangeSpec := { name := "fnBaseRefusalsReloadIdempotent", fn := fun _ => fun
  | [d] => { results := [.lit (.bool true)], args := [d] }
  | _ => none }
def fnBaseRefusalsReloadIdempotentRow : OpenClaim := { program := "qxb6602634a", sum := "8dc47adc14677127f5debeab11a23bf04e972095cf5fdb5b36a16b6aa7fd677d", func := "example.com/tight-budget/tight-budget/zzlaws_root_b1.FnBaseRefusalsReloadIdempotent", spec := "fnBaseRefusalsReloadIdempotent", apart := false }
def FnBaseRefusalsReloadIdempotentSaid : Prop := fnBaseRefusalsReloadIdempotentRow.holds Try.pinned (OpenSpec.ofChange fnBaseRefusalsReloadIdempotentSpec)

/-- ITS FALSE NEIGHBOUR: 'it returns false'. Refute it at one input. -/
def fnBaseRefusalsReloadIdempotentWrong : ChangeSpec := { name := "fnBaseRefusalsReloadIdempotent", fn := fun _ => fun
  | [d] => { results := [.lit (.bool false)], args := [d] }
  | _ => none }
def FnBaseRefusalsReloadIdempotentWrongFalsely : Prop := fnBaseRefusalsReloadIdempotentRow.holds Try.pinned (OpenSpec.ofChange fnBaseRefusalsReloadIdempotentWrong)

end Rows
end Go.Proofs.Qxb6602634a
