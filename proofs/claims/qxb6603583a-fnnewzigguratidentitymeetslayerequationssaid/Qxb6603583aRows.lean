/-
  No cell of these rows narrows 'for every input' (looked for: loops, veiled, ifaces, maps, wideKeys, modest, calm, conditions, laid).
  DERIVED. THE GIVEN ROWS OF THIS SEAT. 2 by the template 'for every input the law returns true; each argument reads behind the call as it read before'; 0 by the template 'total and deterministic' (their statements: Qxb6603583aTotals.lean).
  GIVEN WITH THE SEED: the statements are not yours to turn. If you find one false, say at which input.
  Laid BY PROGRAM, IN A SANDBOX (cutbox-rows.mjs): the forced cells as the released guide's own fill.sh prints them over the translation 2408a130d7b5b2f0… (all of the seat's roots in one cut). By AI agents, Wed Nov 11 2026. No macro, syntax, notation, axiom, sorry.
-/
import Derived.Test.Qxb6603583aChecked
import GoSem.Claim
import GoSem.ClaimJoined
import GoSem.ClaimMapViews
import Derived.JoinedTies
import Derived.KernelRfl
namespace Go.Proofs.Qxb6603583a
/- THE CELL 'sum', in the pinned program and in every row, IS THE sha256 OF THE DUMP (.gsa) THAT Qxb6603583aProg.lean LOADS. Nothing in Lean hashes anything: it is a label: what it is worth is what the hold of that sum in a sandbox is worth. -/
noncomputable def Try.pinned : Pinned := { name := "qxb6603583a", sum := "2408a130d7b5b2f061f45321e793fa5c515c34e5b6bf1b37dd25fdeb8f2c46ea", checked := Try.checked }
namespace Rows
def none {H : Type} : Left H := { results := [], args := [] }

/-- 'zzlaws_root_b1.FnNewZigguratIdentityMeetsLayerEquations': WHATEVER THE INPUT: true; the input reads as it did. -/
def fnNewZigguratIdentityMeetsLayerEquationsSpec : ChangeSpec := { name := "fnNewZigguratIdentityMeetsLayerEquations", fn := fun _ => fun
  | [d1, d2] => { results := [.lit (.bool true)], args := [d1, d2] }
  | _ => none }
def fnNewZigguratIdentityMeetsLayerEquationsRow : OpenClaim := { program := "qxb6603583a", sum := "2408a130d7b5b2f061f45321e793fa5c515c34e5b6bf1b37dd25fdeb8f2c46ea", func := "example.com/knucklebone/knucklebone/zzlaws_root_b1.FnNewZigguratIdentityMeetsLayerEquations", spec := "fnNewZigguratIdentityMeetsLayerEquations", unfollowed := true, recurses := true, apart := false }
def FnNewZigguratIdentityMeetsLayerEquationsSaid : Prop := fnNewZigguratIdentityMeetsLayerEquationsRow.holds Try.pinned (OpenSpec.ofChange fnNewZigguratIdentityMeetsLayerEquationsSpec)

/-- ITS FALSE NEIGHBOUR: 'it returns false'. Refute it at one input. -/
def fnNewZigguratIdentityMeetsLayerEquationsWrong : ChangeSpec := { name := "fnNewZigguratIdentityMeetsLayerEquations", fn := fun _ => fun
  | [d1, d2] => { results := [.lit (.bool false)], args := [d1, d2] }
  | _ => none }
def FnNewZigguratIdentityMeetsLayerEquationsWrongFalsely : Prop := fnNewZigguratIdentityMeetsLayerEquationsRow.holds Try.pinned (OpenSpec.ofChange fnNewZigguratIdentityMeetsLayerEquationsWrong)

/-- 'zzlaws_root_b1.FnNewZigguratIdentityLayersStandInOrder': WHATEVER THE INPUT: true; the input reads as it did. -/
def fnNewZigguratIdentityLayersStandInOrderSpec : ChangeSpec := { name := "fnNewZigguratIdentityLayersStandInOrder", fn := fun _ => fun
  | [d1, d2] => { results := [.lit (.bool true)], args := [d1, d2] }
  | _ => none }
def fnNewZigguratIdentityLayersStandInOrderRow : OpenClaim := { program := "qxb6603583a", sum := "2408a130d7b5b2f061f45321e793fa5c515c34e5b6bf1b37dd25fdeb8f2c46ea", func := "example.com/knucklebone/knucklebone/zzlaws_root_b1.FnNewZigguratIdentityLayersStandInOrder", spec := "fnNewZigguratIdentityLayersStandInOrder", unfollowed := true, recurses := true, apart := false }
def FnNewZigguratIdentityLayersStandInOrderSaid : Prop := fnNewZigguratIdentityLayersStandInOrderRow.holds Try.pinned (OpenSpec.ofChange fnNewZigguratIdentityLayersStandInOrderSpec)

/-- ITS FALSE NEIGHBOUR: 'it returns false'. Refute it at one input. -/
def fnNewZigguratIdentityLayersStandInOrderWrong : ChangeSpec := { name := "fnNewZigguratIdentityLayersStandInOrder", fn := fun _ => fun
  | [d1, d2] => { results := [.lit (.bool false)], args := [d1, d2] }
  | _ => none }
def FnNewZigguratIdentityLayersStandInOrderWrongFalsely : Prop := fnNewZigguratIdentityLayersStandInOrderRow.holds Try.pinned (OpenSpec.ofChange fnNewZigguratIdentityLayersStandInOrderWrong)

end Rows
end Go.Proofs.Qxb6603583a
