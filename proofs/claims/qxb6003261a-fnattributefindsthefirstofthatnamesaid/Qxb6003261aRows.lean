/-
  No cell of these rows narrows 'for every input' (looked for: loops, veiled, ifaces, maps, wideKeys, modest, calm, conditions, laid).
  DERIVED. THE GIVEN ROWS OF THIS SEAT. 2 by the template 'for every input the law returns true; each argument reads behind the call as it read before'; 0 by the template 'total and deterministic' (their statements: Qxb6003261aTotals.lean).
  GIVEN WITH THE SEED: the statements are not yours to turn. If you find one false, say at which input.
  Laid BY PROGRAM, IN A SANDBOX (cutbox-rows.mjs): the forced cells as the released guide's own fill.sh prints them over the translation 96999107585642d6… (all of the seat's roots in one cut). By AI agents, Wed Nov 11 2026. No macro, syntax, notation, axiom, sorry.
-/
import Derived.Test.Qxb6003261aChecked
import GoSem.Claim
import GoSem.ClaimJoined
import GoSem.ClaimMapViews
import Derived.JoinedTies
import Derived.KernelRfl
namespace Go.Proofs.Qxb6003261a
/- THE CELL 'sum', in the pinned program and in every row, IS THE sha256 OF THE DUMP (.gsa) THAT Qxb6003261aProg.lean LOADS. Nothing in Lean hashes anything: it is a label: what it is worth is what the hold of that sum in a sandbox is worth. -/
noncomputable def Try.pinned : Pinned := { name := "qxb6003261a", sum := "96999107585642d6758f3a4764ab5e6748a6bb63c800aaadeefe6dc6e103b3a0", checked := Try.checked }
namespace Rows
def none {H : Type} : Left H := { results := [], args := [] }

/-- 'zzlaws_internal_model_b1.FnReversedIsTheTargetsView': WHATEVER THE INPUT: true; the input reads as it did. -/
def fnReversedIsTheTargetsViewSpec : ChangeSpec := { name := "fnReversedIsTheTargetsView", fn := fun _ => fun
  | [d1, d2, d3, d4, d5, d6, d7, d8, d9, d10] => { results := [.lit (.bool true)], args := [d1, d2, d3, d4, d5, d6, d7, d8, d9, d10] }
  | _ => none }
def fnReversedIsTheTargetsViewRow : OpenClaim := { program := "qxb6003261a", sum := "96999107585642d6758f3a4764ab5e6748a6bb63c800aaadeefe6dc6e103b3a0", func := "example.com/modelwright/modelwright/zzlaws_internal_model_b1.FnReversedIsTheTargetsView", spec := "fnReversedIsTheTargetsView", apart := false }
def FnReversedIsTheTargetsViewSaid : Prop := fnReversedIsTheTargetsViewRow.holds Try.pinned (OpenSpec.ofChange fnReversedIsTheTargetsViewSpec)

/-- ITS FALSE NEIGHBOUR: 'it returns false'. Refute it at one input. -/
def fnReversedIsTheTargetsViewWrong : ChangeSpec := { name := "fnReversedIsTheTargetsView", fn := fun _ => fun
  | [d1, d2, d3, d4, d5, d6, d7, d8, d9, d10] => { results := [.lit (.bool false)], args := [d1, d2, d3, d4, d5, d6, d7, d8, d9, d10] }
  | _ => none }
def FnReversedIsTheTargetsViewWrongFalsely : Prop := fnReversedIsTheTargetsViewRow.holds Try.pinned (OpenSpec.ofChange fnReversedIsTheTargetsViewWrong)

/-- 'zzlaws_internal_model_b1.FnAttributeFindsTheFirstOfThatName': WHATEVER THE INPUT: true; the input reads as it did. -/
def fnAttributeFindsTheFirstOfThatNameSpec : ChangeSpec := { name := "fnAttributeFindsTheFirstOfThatName", fn := fun _ => fun
  | [d1, d2, d3, d4, d5] => { results := [.lit (.bool true)], args := [d1, d2, d3, d4, d5] }
  | _ => none }
def fnAttributeFindsTheFirstOfThatNameRow : OpenClaim := { program := "qxb6003261a", sum := "96999107585642d6758f3a4764ab5e6748a6bb63c800aaadeefe6dc6e103b3a0", func := "example.com/modelwright/modelwright/zzlaws_internal_model_b1.FnAttributeFindsTheFirstOfThatName", spec := "fnAttributeFindsTheFirstOfThatName", apart := false }
def FnAttributeFindsTheFirstOfThatNameSaid : Prop := fnAttributeFindsTheFirstOfThatNameRow.holds Try.pinned (OpenSpec.ofChange fnAttributeFindsTheFirstOfThatNameSpec)

/-- ITS FALSE NEIGHBOUR: 'it returns false'. Refute it at one input. -/
def fnAttributeFindsTheFirstOfThatNameWrong : ChangeSpec := { name := "fnAttributeFindsTheFirstOfThatName", fn := fun _ => fun
  | [d1, d2, d3, d4, d5] => { results := [.lit (.bool false)], args := [d1, d2, d3, d4, d5] }
  | _ => none }
def FnAttributeFindsTheFirstOfThatNameWrongFalsely : Prop := fnAttributeFindsTheFirstOfThatNameRow.holds Try.pinned (OpenSpec.ofChange fnAttributeFindsTheFirstOfThatNameWrong)

end Rows
end Go.Proofs.Qxb6003261a
