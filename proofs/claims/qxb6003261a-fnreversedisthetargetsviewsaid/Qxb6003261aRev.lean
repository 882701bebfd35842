/-
  The walks of (*Association).Reversed (6) and zzCardinality (7).
-/
import Derived.Test.Qxb6003261aReva
import Derived.Test.Qxb6003261aRevb
import Derived.Test.Qxb6003261aRevc
import Derived.WalkKit
import Derived.WalkSpells
import Derived.WalkLawsBesides
import Derived.BigRegion
import Derived.StillTailTactics
namespace Go.Proofs.Qxb6003261a.Rev
open Go.RowKit
set_option linter.unusedSimpArgs false
set_option linter.unusedVariables false

/-- Reversed, for every association. -/
theorem rev_any (b : Nat) (nm tk sk rv : ByteArray) (t k : Int) (src tgt kin : Option Addr) (w : World) (h : At w b nm tk sk rv t k src tgt kin) :
    Calls Try.prog 6 #[.pointer (some ⟨b, 0, none⟩)] w (Post nm tk sk rv t k src tgt kin w) := by
  rcases tcase t with ht3 | ⟨ht3, ht2⟩ | ⟨ht3, ht2⟩ <;>
    rcases kcase k with ⟨hk1, hk2, hk3, hk4⟩ | ⟨hk1, hk2, hk3, hk4⟩ | ⟨hk1, hk2, hk3, hk4⟩ | ⟨hk1, hk2, hk3, hk4⟩ | ⟨hk1, hk2, hk3, hk4⟩
  · exact rev_a1 b nm tk sk rv t k src tgt kin w h ht3 hk1 hk2 hk3 hk4
  · exact rev_a2 b nm tk sk rv t k src tgt kin w h ht3 hk1 hk2 hk3 hk4
  · exact rev_a3 b nm tk sk rv t k src tgt kin w h ht3 hk1 hk2 hk3 hk4
  · exact rev_a4 b nm tk sk rv t k src tgt kin w h ht3 hk1 hk2 hk3 hk4
  · exact rev_a0 b nm tk sk rv t k src tgt kin w h ht3 hk1 hk2 hk3 hk4
  · exact rev_b1 b nm tk sk rv t k src tgt kin w h ht3 ht2 hk1 hk2 hk3 hk4
  · exact rev_b2 b nm tk sk rv t k src tgt kin w h ht3 ht2 hk1 hk2 hk3 hk4
  · exact rev_b3 b nm tk sk rv t k src tgt kin w h ht3 ht2 hk1 hk2 hk3 hk4
  · exact rev_b4 b nm tk sk rv t k src tgt kin w h ht3 ht2 hk1 hk2 hk3 hk4
  · exact rev_b0 b nm tk sk rv t k src tgt kin w h ht3 ht2 hk1 hk2 hk3 hk4
  · exact rev_c1 b nm tk sk rv t k src tgt kin w h ht3 ht2 hk1 hk2 hk3 hk4
  · exact rev_c2 b nm tk sk rv t k src tgt kin w h ht3 ht2 hk1 hk2 hk3 hk4
  · exact rev_c3 b nm tk sk rv t k src tgt kin w h ht3 ht2 hk1 hk2 hk3 hk4
  · exact rev_c4 b nm tk sk rv t k src tgt kin w h ht3 ht2 hk1 hk2 hk3 hk4
  · exact rev_c0 b nm tk sk rv t k src tgt kin w h ht3 ht2 hk1 hk2 hk3 hk4

/-! zzCardinality -/
def cS (t : Int) : Bool := t == 2 || t == 4
def cT (t : Int) : Bool := t == 3 || t == 4
def cOk (t : Int) : Bool := t == 1 || t == 2 || t == 3 || t == 4

theorem ret3 {a b c a' b' c' : Bool} (h1 : a = a') (h2 : b = b') (h3 : c = c') : Ending.returned (.tuple #[.bool a, .bool b, .bool c]) = .returned (.tuple #[.bool a', .bool b', .bool c']) := by
  rw [h1, h2, h3]

theorem card_any (t : Int) (w : World) : Calls Try.prog 7 #[.int .i64 t] w fun e w' => e = .returned (.tuple #[.bool (cS t), .bool (cT t), .bool (cOk t)]) ∧ w' = w := by
  by_cases h1 : t = 1
  · subst h1
    go_enter Try.func7, Try.ntmps7
    go_wp2
    go_ret3
    exact ⟨rfl, rfl⟩
  by_cases h2 : t = 2
  · subst h2
    go_enter Try.func7, Try.ntmps7
    go_wp2
    go_ret3
    exact ⟨rfl, rfl⟩
  by_cases h3 : t = 3
  · subst h3
    go_enter Try.func7, Try.ntmps7
    go_wp2
    go_ret3
    exact ⟨rfl, rfl⟩
  by_cases h4 : t = 4
  · subst h4
    go_enter Try.func7, Try.ntmps7
    go_wp2
    go_ret3
    exact ⟨rfl, rfl⟩
  have g1 : (t == 1) = false := by simpa using h1
  have g2 : (t == 2) = false := by simpa using h2
  have g3 : (t == 3) = false := by simpa using h3
  have g4 : (t == 4) = false := by simpa using h4
  have e : cS t = false ∧ cT t = false ∧ cOk t = false := by simp [cS, cT, cOk, g1, g2, g3, g4]
  have E := hide e
  clear e
  clear h1 h2 h3 h4
  generalize cS t = x at *
  generalize cT t = y at *
  generalize cOk t = z at *
  go_enter Try.func7, Try.ntmps7
  go_wp2
  go_ret3
  exact ⟨ret3 E.out.1.symm E.out.2.1.symm E.out.2.2.symm, rfl⟩
end Go.Proofs.Qxb6003261a.Rev
