/-
  zzBytes_FnReversedIsTheTargetsView (5).
-/
import Derived.Test.Qxb6003261aRows
import Derived.WalkKit
import Derived.WalkSpells
import Derived.WalkLawsBesides
namespace Go.Proofs.Qxb6003261a.Rev
open Go.RowKit
set_option linter.unusedVariables false

set_option maxHeartbeats 1000000 in
theorem bytes_any (a0 a1 a2 a3 a4 a5 : ByteArray) (a6 a7 : Int) (a8 : Bool) (a9 : Int) (w : World) (h0 : a0.size ≤ maxLen) (h1 : a1.size ≤ maxLen) (h2 : a2.size ≤ maxLen)
    (h3 : a3.size ≤ maxLen) (h4 : a4.size ≤ maxLen) (h5 : a5.size ≤ maxLen) :
    Calls Try.prog 5 #[.string a0, .string a1, .string a2, .string a3, .string a4, .string a5, .int .i64 a6, .int .i64 a7, .bool a8, .int .i64 a9] w fun e w' =>
      ∃ b, e = .returned (.bool b) ∧ (b = true → a0.size + a1.size + a2.size + a3.size + a4.size + a5.size ≤ 1048576) ∧ w' = w := by
  unfold maxLen at *
  go_enter Try.func5, Try.ntmps5
  go_wp2
  all_goals go_ret
  all_goals first | exact ⟨false, rfl, fun h => by simp at h, rfl⟩ | exact ⟨true, rfl, fun _ => by omega, rfl⟩
end Go.Proofs.Qxb6003261a.Rev
