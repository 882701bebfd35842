/-
  No cell of these rows narrows 'for every input' (looked for: loops, veiled, ifaces, maps, wideKeys, modest, calm, conditions, laid).
  DERIVED. THE GIVEN ROWS OF THIS SEAT. 4 by the template 'for every input the law returns true; each argument reads behind the call as it read before'; 0 by the template 'total and deterministic' (their statements: Qxb6604158aTotals.lean).
  GIVEN WITH THE SEED: the statements are not yours to turn. If you find one false, say at which input.
  Laid BY PROGRAM, IN A SANDBOX (cutbox-rows.mjs): the forced cells as the released guide's own fill.sh prints them over the translation 94c22420aca67326… (all of the seat's roots in one cut). By AI agents, Wed Nov 11 2026. No macro, syntax, notation, axiom, sorry.
-/
import Derived.Test.Qxb6604158aChecked
import GoSem.Claim
import GoSem.ClaimJoined
import GoSem.ClaimMapViews
import Derived.JoinedTies
import Derived.KernelRfl
namespace Go.Proofs.Qxb6604158a
/- THE CELL 'sum', in the pinned program and in every row, IS THE sha256 OF THE DUMP (.gsa) THAT Qxb6604158aProg.lean LOADS. Nothing in Lean hashes anything: it is a label: what it is worth is what the hold of that sum in a sandbox is worth. -/
noncomputable def Try.pinned : Pinned := { name := "qxb6604158a", sum := "94c22420aca67326d7c673fd9f5b6ef90434925ba8a91932c8de0fa03510af51", checked := Try.checked }
namespace Rows
def none {H : Type} : Left H := { results := [], args := [] }

/-- 'zzlaws_internal_store_b1.FnKeepPolicyOrder': WHATEVER THE INPUT: true; the input reads as it did. -/
def fnKeepPolicyOrderSpec : ChangeSpec := { name := "fnKeepPolicyOrder", fn := fun _ => fun
  | [d] => { results := [.lit (.bool true)], args := [d] }
  | _ => none }
def fnKeepPolicyOrderRow : OpenClaim := { program := "qxb6604158a", sum := "94c22420aca67326d7c673fd9f5b6ef90434925ba8a91932c8de0fa03510af51", func := "example.com/orrery/orrery/zzlaws_internal_store_b1.FnKeepPolicyOrder", spec := "fnKeepPolicyOrder", apart := false }
def FnKeepPolicyOrderSaid : Prop := fnKeepPolicyOrderRow.holds Try.pinned (OpenSpec.ofChange fnKeepPolicyOrderSpec)

/-- ITS FALSE NEIGHBOUR: 'it returns false'. Refute it at one input. -/
def fnKeepPolicyOrderWrong : ChangeSpec := { name := "fnKeepPolicyOrder", fn := fun _ => fun
  | [d] => { results := [.lit (.bool false)], args := [d] }
  | _ => none }
def FnKeepPolicyOrderWrongFalsely : Prop := fnKeepPolicyOrderRow.holds Try.pinned (OpenSpec.ofChange fnKeepPolicyOrderWrong)

/-- 'zzlaws_internal_store_b1.FnLeaseOfPointsAtLease': WHATEVER THE INPUT: true; the input reads as it did. -/
def fnLeaseOfPointsAtLeaseSpec : ChangeSpec := { name := "fnLeaseOfPointsAtLease", fn := fun _ => fun
  | [d1, d2, d3] => { results := [.lit (.bool true)], args := [d1, d2, d3] }
  | _ => none }
def fnLeaseOfPointsAtLeaseRow : OpenClaim := { program := "qxb6604158a", sum := "94c22420aca67326d7c673fd9f5b6ef90434925ba8a91932c8de0fa03510af51", func := "example.com/orrery/orrery/zzlaws_internal_store_b1.FnLeaseOfPointsAtLease", spec := "fnLeaseOfPointsAtLease", apart := false }
def FnLeaseOfPointsAtLeaseSaid : Prop := fnLeaseOfPointsAtLeaseRow.holds Try.pinned (OpenSpec.ofChange fnLeaseOfPointsAtLeaseSpec)

/-- ITS FALSE NEIGHBOUR: 'it returns false'. Refute it at one input. -/
def fnLeaseOfPointsAtLeaseWrong : ChangeSpec := { name := "fnLeaseOfPointsAtLease", fn := fun _ => fun
  | [d1, d2, d3] => { results := [.lit (.bool false)], args := [d1, d2, d3] }
  | _ => none }
def FnLeaseOfPointsAtLeaseWrongFalsely : Prop := fnLeaseOfPointsAtLeaseRow.holds Try.pinned (OpenSpec.ofChange fnLeaseOfPointsAtLeaseWrong)

/-- 'zzlaws_internal_store_b1.FnClaimTextProbingWrapsPlainClaim': WHATEVER THE INPUT: true; the input reads as it did. -/
def fnClaimTextProbingWrapsPlainClaimSpec : ChangeSpec := { name := "fnClaimTextProbingWrapsPlainClaim", fn := fun _ => fun
  | [d] => { results := [.lit (.bool true)], args := [d] }
  | _ => none }
def fnClaimTextProbingWrapsPlainClaimRow : OpenClaim := { program := "qxb6604158a", sum := "94c22420aca67326d7c673fd9f5b6ef90434925ba8a91932c8de0fa03510af51", func := "example.com/orrery/orrery/zzlaws_internal_store_b1.FnClaimTextProbingWrapsPlainClaim", spec := "fnClaimTextProbingWrapsPlainClaim", apart := false }
def FnClaimTextProbingWrapsPlainClaimSaid : Prop := fnClaimTextProbingWrapsPlainClaimRow.holds Try.pinned (OpenSpec.ofChange fnClaimTextProbingWrapsPlainClaimSpec)

/-- ITS FALSE NEIGHBOUR: 'it returns false'. Refute it at one input. -/
def fnClaimTextProbingWrapsPlainClaimWrong : ChangeSpec := { name := "fnClaimTextProbingWrapsPlainClaim", fn := fun _ => fun
  | [d] => { results := [.lit (.bool false)], args := [d] }
  | _ => none }
def FnClaimTextProbingWrapsPlainClaimWrongFalsely : Prop := fnClaimTextProbingWrapsPlainClaimRow.holds Try.pinned (OpenSpec.ofChange fnClaimTextProbingWrapsPlainClaimWrong)

/-- 'zzlaws_internal_store_b1.FnClaimTextWellFormed': WHATEVER THE INPUT: true; the input reads as it did. -/
def fnClaimTextWellFormedSpec : ChangeSpec := { name := "fnClaimTextWellFormed", fn := fun _ => fun
  | [d] => { results := [.lit (.bool true)], args := [d] }
  | _ => none }
def fnClaimTextWellFormedRow : OpenClaim := { program := "qxb6604158a", sum := "94c22420aca67326d7c673fd9f5b6ef90434925ba8a91932c8de0fa03510af51", func := "example.com/orrery/orrery/zzlaws_internal_store_b1.FnClaimTextWellFormed", spec := "fnClaimTextWellFormed", apart := false }
def FnClaimTextWellFormedSaid : Prop := fnClaimTextWellFormedRow.holds Try.pinned (OpenSpec.ofChange fnClaimTextWellFormedSpec)

/-- ITS FALSE NEIGHBOUR: 'it returns false'. Refute it at one input. -/
def fnClaimTextWellFormedWrong : ChangeSpec := { name := "fnClaimTextWellFormed", fn := fun _ => fun
  | [d] => { results := [.lit (.bool false)], args := [d] }
  | _ => none }
def FnClaimTextWellFormedWrongFalsely : Prop := fnClaimTextWellFormedRow.holds Try.pinned (OpenSpec.ofChange fnClaimTextWellFormedWrong)

end Rows
end Go.Proofs.Qxb6604158a
