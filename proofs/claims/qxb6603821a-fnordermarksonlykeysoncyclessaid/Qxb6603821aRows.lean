/-
  No cell of these rows narrows 'for every input' (looked for: loops, veiled, ifaces, maps, wideKeys, modest, calm, conditions, laid).
  DERIVED. THE GIVEN ROWS OF THIS SEAT. 5 by the template 'for every input the law returns true; each argument reads behind the call as it read before'; 0 by the template 'total and deterministic' (their statements: Qxb6603821aTotals.lean).
  GIVEN WITH THE SEED: the statements are not yours to turn. If you find one false, say at which input.
  Laid BY PROGRAM, IN A SANDBOX (cutbox-rows.mjs): the forced cells as the released guide's own fill.sh prints them over the translation 197cb51a1b780df4… (all of the seat's roots in one cut). By AI agents, Wed Nov 11 2026. No macro, syntax, notation, axiom, sorry.
-/
import Derived.Test.Qxb6603821aChecked
import GoSem.Claim
import GoSem.ClaimJoined
import GoSem.ClaimMapViews
import Derived.JoinedTies
import Derived.KernelRfl
namespace Go.Proofs.Qxb6603821a
/- THE CELL 'sum', in the pinned program and in every row, IS THE sha256 OF THE DUMP (.gsa) THAT Qxb6603821aProg.lean LOADS. Nothing in Lean hashes anything: it is a label: what it is worth is what the hold of that sum in a sandbox is worth. -/
noncomputable def Try.pinned : Pinned := { name := "qxb6603821a", sum := "197cb51a1b780df42fefbf3f2489b79a79685fffbe12485e542dfcc6554e0b0f", checked := Try.checked }
namespace Rows
def none {H : Type} : Left H := { results := [], args := [] }

/-- 'zzlaws_root_b1.FnLeadsToIsReachability': WHATEVER THE INPUT: true; the input reads as it did. -/
def fnLeadsToIsReachabilitySpec : ChangeSpec := { name := "fnLeadsToIsReachability", fn := fun _ => fun
  | [d1, d2, d3, d4, d5, d6] => { results := [.lit (.bool true)], args := [d1, d2, d3, d4, d5, d6] }
  | _ => none }
def fnLeadsToIsReachabilityRow : OpenClaim := { program := "qxb6603821a", sum := "197cb51a1b780df42fefbf3f2489b79a79685fffbe12485e542dfcc6554e0b0f", func := "example.com/brisk-orm/brisk-orm/zzlaws_root_b1.FnLeadsToIsReachability", spec := "fnLeadsToIsReachability", apart := false }
def FnLeadsToIsReachabilitySaid : Prop := fnLeadsToIsReachabilityRow.holds Try.pinned (OpenSpec.ofChange fnLeadsToIsReachabilitySpec)

/-- ITS FALSE NEIGHBOUR: 'it returns false'. Refute it at one input. -/
def fnLeadsToIsReachabilityWrong : ChangeSpec := { name := "fnLeadsToIsReachability", fn := fun _ => fun
  | [d1, d2, d3, d4, d5, d6] => { results := [.lit (.bool false)], args := [d1, d2, d3, d4, d5, d6] }
  | _ => none }
def FnLeadsToIsReachabilityWrongFalsely : Prop := fnLeadsToIsReachabilityRow.holds Try.pinned (OpenSpec.ofChange fnLeadsToIsReachabilityWrong)

/-- 'zzlaws_root_b1.FnLeadsToTransitive': WHATEVER THE INPUT: true; the input reads as it did. -/
def fnLeadsToTransitiveSpec : ChangeSpec := { name := "fnLeadsToTransitive", fn := fun _ => fun
  | [d1, d2, d3, d4, d5, d6, d7] => { results := [.lit (.bool true)], args := [d1, d2, d3, d4, d5, d6, d7] }
  | _ => none }
def fnLeadsToTransitiveRow : OpenClaim := { program := "qxb6603821a", sum := "197cb51a1b780df42fefbf3f2489b79a79685fffbe12485e542dfcc6554e0b0f", func := "example.com/brisk-orm/brisk-orm/zzlaws_root_b1.FnLeadsToTransitive", spec := "fnLeadsToTransitive", apart := false }
def FnLeadsToTransitiveSaid : Prop := fnLeadsToTransitiveRow.holds Try.pinned (OpenSpec.ofChange fnLeadsToTransitiveSpec)

/-- ITS FALSE NEIGHBOUR: 'it returns false'. Refute it at one input. -/
def fnLeadsToTransitiveWrong : ChangeSpec := { name := "fnLeadsToTransitive", fn := fun _ => fun
  | [d1, d2, d3, d4, d5, d6, d7] => { results := [.lit (.bool false)], args := [d1, d2, d3, d4, d5, d6, d7] }
  | _ => none }
def FnLeadsToTransitiveWrongFalsely : Prop := fnLeadsToTransitiveRow.holds Try.pinned (OpenSpec.ofChange fnLeadsToTransitiveWrong)

/-- 'zzlaws_root_b1.FnOrderWithoutClosingIsLeastTopological': WHATEVER THE INPUT: true; the input reads as it did. -/
def fnOrderWithoutClosingIsLeastTopologicalSpec : ChangeSpec := { name := "fnOrderWithoutClosingIsLeastTopological", fn := fun _ => fun
  | [d1, d2] => { results := [.lit (.bool true)], args := [d1, d2] }
  | _ => none }
def fnOrderWithoutClosingIsLeastTopologicalRow : OpenClaim := { program := "qxb6603821a", sum := "197cb51a1b780df42fefbf3f2489b79a79685fffbe12485e542dfcc6554e0b0f", func := "example.com/brisk-orm/brisk-orm/zzlaws_root_b1.FnOrderWithoutClosingIsLeastTopological", spec := "fnOrderWithoutClosingIsLeastTopological", apart := false }
def FnOrderWithoutClosingIsLeastTopologicalSaid : Prop := fnOrderWithoutClosingIsLeastTopologicalRow.holds Try.pinned (OpenSpec.ofChange fnOrderWithoutClosingIsLeastTopologicalSpec)

/-- ITS FALSE NEIGHBOUR: 'it returns false'. Refute it at one input. -/
def fnOrderWithoutClosingIsLeastTopologicalWrong : ChangeSpec := { name := "fnOrderWithoutClosingIsLeastTopological", fn := fun _ => fun
  | [d1, d2] => { results := [.lit (.bool false)], args := [d1, d2] }
  | _ => none }
def FnOrderWithoutClosingIsLeastTopologicalWrongFalsely : Prop := fnOrderWithoutClosingIsLeastTopologicalRow.holds Try.pinned (OpenSpec.ofChange fnOrderWithoutClosingIsLeastTopologicalWrong)

/-- 'zzlaws_root_b1.FnOrderClosingAgreesAndIsTopological': WHATEVER THE INPUT: true; the input reads as it did. -/
def fnOrderClosingAgreesAndIsTopologicalSpec : ChangeSpec := { name := "fnOrderClosingAgreesAndIsTopological", fn := fun _ => fun
  | [d1, d2] => { results := [.lit (.bool true)], args := [d1, d2] }
  | _ => none }
def fnOrderClosingAgreesAndIsTopologicalRow : OpenClaim := { program := "qxb6603821a", sum := "197cb51a1b780df42fefbf3f2489b79a79685fffbe12485e542dfcc6554e0b0f", func := "example.com/brisk-orm/brisk-orm/zzlaws_root_b1.FnOrderClosingAgreesAndIsTopological", spec := "fnOrderClosingAgreesAndIsTopological", apart := false }
def FnOrderClosingAgreesAndIsTopologicalSaid : Prop := fnOrderClosingAgreesAndIsTopologicalRow.holds Try.pinned (OpenSpec.ofChange fnOrderClosingAgreesAndIsTopologicalSpec)

/-- ITS FALSE NEIGHBOUR: 'it returns false'. Refute it at one input. -/
def fnOrderClosingAgreesAndIsTopologicalWrong : ChangeSpec := { name := "fnOrderClosingAgreesAndIsTopological", fn := fun _ => fun
  | [d1, d2] => { results := [.lit (.bool false)], args := [d1, d2] }
  | _ => none }
def FnOrderClosingAgreesAndIsTopologicalWrongFalsely : Prop := fnOrderClosingAgreesAndIsTopologicalRow.holds Try.pinned (OpenSpec.ofChange fnOrderClosingAgreesAndIsTopologicalWrong)

/-- 'zzlaws_root_b1.FnOrderMarksOnlyKeysOnCycles': WHATEVER THE INPUT: true; the input reads as it did. -/
def fnOrderMarksOnlyKeysOnCyclesSpec : ChangeSpec := { name := "fnOrderMarksOnlyKeysOnCycles", fn := fun _ => fun
  | [d1, d2] => { results := [.lit (.bool true)], args := [d1, d2] }
  | _ => none }
def fnOrderMarksOnlyKeysOnCyclesRow : OpenClaim := { program := "qxb6603821a", sum := "197cb51a1b780df42fefbf3f2489b79a79685fffbe12485e542dfcc6554e0b0f", func := "example.com/brisk-orm/brisk-orm/zzlaws_root_b1.FnOrderMarksOnlyKeysOnCycles", spec := "fnOrderMarksOnlyKeysOnCycles", apart := false }
def FnOrderMarksOnlyKeysOnCyclesSaid : Prop := fnOrderMarksOnlyKeysOnCyclesRow.holds Try.pinned (OpenSpec.ofChange fnOrderMarksOnlyKeysOnCyclesSpec)

/-- ITS FALSE NEIGHBOUR: 'it returns false'. Refute it at one input. -/
def fnOrderMarksOnlyKeysOnCyclesWrong : ChangeSpec := { name := "fnOrderMarksOnlyKeysOnCycles", fn := fun _ => fun
  | [d1, d2] => { results := [.lit (.bool false)], args := [d1, d2] }
  | _ => none }
def FnOrderMarksOnlyKeysOnCyclesWrongFalsely : Prop := fnOrderMarksOnlyKeysOnCyclesRow.holds Try.pinned (OpenSpec.ofChange fnOrderMarksOnlyKeysOnCyclesWrong)

end Rows
end Go.Proofs.Qxb6603821a
