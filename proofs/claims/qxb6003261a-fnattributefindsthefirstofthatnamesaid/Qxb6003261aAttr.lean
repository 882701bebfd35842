/-
  zzAttrAt (12).
-/
import Derived.Test.Qxb6003261aRows
import Derived.Test.Qxb6003261aBase
import Derived.Lib.SliceRun
namespace Go.Proofs.Qxb6003261a.Att
open Go.RowKit B
set_option linter.unusedVariables false

/-- The cells of an attribute. -/
def attrC (nm : ByteArray) (s : Int) (l : Bool) (d : ByteArray) : Array Value :=
  #[.string nm, .int .i64 s, .bool l, .string d, .bool false, .pointer none, .bool false, .string ⟨#[]⟩, .string ⟨#[]⟩]

/-- Element 'i' of a slice, or the zero value behind its end. -/
def Elem (w : World) (a : Option Addr) (n i : Nat) (v z : Value) : Prop :=
  (i < n ∧ ∃ b off, a = some ⟨b, off, none⟩ ∧ b < w.heap.size ∧ w.cell? ⟨b, off + i, none⟩ = some v) ∨ (n ≤ i ∧ v = z)

set_option maxHeartbeats 1000000 in
theorem attr_any (i : Nat) (nm : ByteArray) (s : Int) (l : Bool) (d : ByteArray) (b1 o1 : Nat) (a2 a3 a4 : Option Addr) (n1 n2 n3 n4 c1 c2 c3 c4 : Nat) (w : World)
    (hi : i < 1048576) (h1 : i < n1) (hb1 : b1 < w.heap.size) (hc1 : w.cell? ⟨b1, o1 + i, none⟩ = some (.string nm))
    (h2 : Elem w a2 n2 i (.string d) (.string ⟨#[]⟩)) (h3 : Elem w a3 n3 i (.int .i64 s) (.int .i64 0)) (h4 : Elem w a4 n4 i (.bool l) (.bool false)) :
    Calls Try.prog 12 #[.int .i64 i, .slice (some ⟨b1, o1, none⟩) n1 c1, .slice a2 n2 c2, .slice a3 n3 c3, .slice a4 n4 c4] w fun e w' =>
      e = .returned (.agg (attrC nm s l d)) ∧ Below w.heap.size w w' := by
  unfold attrC
  rcases h2 with ⟨h2, b2, o2, rfl, hb2, hc2⟩ | ⟨h2, e2⟩
  all_goals rcases h3 with ⟨h3, b3, o3, rfl, hb3, hc3⟩ | ⟨h3, e3⟩
  all_goals rcases h4 with ⟨h4, b4, o4, rfl, hb4, hc4⟩ | ⟨h4, e4⟩
  all_goals try cases e2
  all_goals try cases e3
  all_goals try cases e4
  all_goals
    go_enter Try.func12, Try.ntmps12
    go_wp2
    refine bodyPost_ret ?_ rfl ⟨rfl, ((Below.refl _ _).alloc (Nat.le_refl _) _).alloc (by simp) _⟩
    simp [results, Try.results12, go_sem]
end Go.Proofs.Qxb6003261a.Att
