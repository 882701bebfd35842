/-
  '==' of two attributes.
-/
import Derived.Test.Qxb6003261aFind
import Derived.LaidEqlPtr
import Derived.Laws.StructEq
import Derived.Laws.Tables
namespace Go.Proofs.Qxb6003261a.Att
open Go.RowKit B
set_option linter.unusedVariables false

theorem eql_attr (a : A) (w : World) : (binOp .eql 47 (.agg a.c) (.agg a.c)).run Try.prog w = .ok (.bool true) w := by
  have hS : Try.prog.underlying 47 = some (.struct (Try.prog.fieldsOf 47)) := by kernel_rfl
  have hp : Try.prog.stoodInHeld 47 = false := by kernel_rfl
  have hS2 : Try.prog.underlying 45 = some (.struct (Try.prog.fieldsOf 45)) := by kernel_rfl
  have hp2 : Try.prog.stoodInHeld 45 = false := by kernel_rfl
  have u3 := Try.underlying3
  have u4 := Try.underlying4
  have u9 := Try.underlying9
  have u43 := Try.underlying43
  have e2 : ∀ w, (Op.equalIn 9999 45 (.agg #[.int .i64 a.s, .bool a.l]) (.agg #[.int .i64 a.s, .bool a.l])).run Try.prog w = .ok true w := by
    intro w
    rw [show (9999 : Nat) = 9998 + 1 from rfl, run_equalIn_agg w 9998 45 _ _ hS2 hp2]
    simp only [Program.fieldsOf, Try.underlying45]
    go_simp
  have hn' : ∀ (d : Nat) w, (Op.equalIn (d + 1) 23 (.pointer none) (.pointer none)).run Try.prog w = .ok true w := fun d w => by
    simp [Op.equalIn, run_underlying Try.underlying23]
  have hn := hn' 9998
  clear hn'
  rw [run_eql_struct, show (10000 : Nat) = 9999 + 1 from rfl, run_equalIn_agg w 9999 47 _ _ hS hp]
  unfold A.c attrC
  simp only [Program.fieldsOf, Try.underlying47]
  go_simp
end Go.Proofs.Qxb6003261a.Att
