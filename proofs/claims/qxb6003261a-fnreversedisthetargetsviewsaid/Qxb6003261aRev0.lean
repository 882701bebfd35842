/-
  The walks of (*Association).Reversed (6) and zzCardinality (7).
-/
import Derived.Test.Qxb6003261aRows
import Derived.WalkKit
import Derived.WalkSpells
import Derived.WalkLawsBesides
import Derived.BigRegion
import Derived.StillTailTactics
namespace Go.Proofs.Qxb6003261a.Rev
open Go.RowKit
set_option linter.unusedSimpArgs false
set_option linter.unusedVariables false

theorem hide {p : Prop} (h : p) : Hid p := h

def rT (t : Int) : Int := if t == 3 then 2 else if t == 2 then 3 else t
def rK (k : Int) : Int := if k == 1 then 2 else if k == 2 then 1 else k
def rIn (k : Int) (tgt kin : Option Addr) : Option Addr := if k == 4 then tgt else kin
def rTK (k : Int) (tk sk : ByteArray) : ByteArray := if k == 3 || k == 4 then sk else tk
def rSK (k : Int) (tk : ByteArray) : ByteArray := if k == 3 || k == 4 then tk else ⟨#[]⟩

theorem tcase (t : Int) : (t == 3) = true ∨ ((t == 3) = false ∧ (t == 2) = true) ∨ ((t == 3) = false ∧ (t == 2) = false) := by
  cases t == 3 <;> cases t == 2 <;> simp

theorem kcase (k : Int) : ((k == 1) = true ∧ (k == 2) = false ∧ (k == 3) = false ∧ (k == 4) = false) ∨ ((k == 1) = false ∧ (k == 2) = true ∧ (k == 3) = false ∧ (k == 4) = false) ∨
    ((k == 1) = false ∧ (k == 2) = false ∧ (k == 3) = true ∧ (k == 4) = false) ∨ ((k == 1) = false ∧ (k == 2) = false ∧ (k == 3) = false ∧ (k == 4) = true) ∨
    ((k == 1) = false ∧ (k == 2) = false ∧ (k == 3) = false ∧ (k == 4) = false) := by
  simp only [beq_iff_eq, beq_eq_false_iff_ne]
  omega

def cellsOf (nm tk sk rv : ByteArray) (t k : Int) (src tgt kin : Option Addr) : Array Value :=
  #[.string rv, .int .i64 (rT t), .pointer tgt, .pointer src, .int .i64 (rK k), .pointer (rIn k tgt kin), .string (rTK k tk sk), .string (rSK k tk), .string nm,
    .string ⟨#[]⟩, .string ⟨#[]⟩, .string ⟨#[]⟩, .string ⟨#[]⟩, .string ⟨#[]⟩]

/-- What a call reads of the association at block 'b'. -/
structure At (w : World) (b : Nat) (nm tk sk rv : ByteArray) (t k : Int) (src tgt kin : Option Addr) : Prop where
  hb : b < w.heap.size
  c0 : w.cell? ⟨b, 0, none⟩ = some (.string nm)
  c1 : w.cell? ⟨b, 1, none⟩ = some (.int .i64 t)
  c2 : w.cell? ⟨b, 2, none⟩ = some (.pointer src)
  c3 : w.cell? ⟨b, 3, none⟩ = some (.pointer tgt)
  c4 : w.cell? ⟨b, 4, none⟩ = some (.int .i64 k)
  c5 : w.cell? ⟨b, 5, none⟩ = some (.pointer kin)
  c6 : w.cell? ⟨b, 6, none⟩ = some (.string tk)
  c7 : w.cell? ⟨b, 7, none⟩ = some (.string sk)
  c8 : w.cell? ⟨b, 8, none⟩ = some (.string rv)

def Post (nm tk sk rv : ByteArray) (t k : Int) (src tgt kin : Option Addr) (w : World) (e : Ending) (w' : World) : Prop :=
  e = .returned (.pointer (some ⟨w.heap.size, 0, none⟩)) ∧ ∃ n, w' = (w.alloc (.cells (cellsOf nm tk sk rv t k src tgt kin) 32)).drewN n

end Go.Proofs.Qxb6003261a.Rev
