/-
  Rows of cells and slices: what a walk carries of memory. No program in sight.
-/
import Derived.WalkKit
import Derived.WalkSpells
import Derived.WalkLawsBesides
import Derived.Deep.OwnRows
namespace Go.Proofs.Qxb6603821a.B
open Go.RowKit
set_option linter.unusedVariables false

theorem hide {p : Prop} (h : p) : Hid p := h

/-- The block 'b' holds, from its head on, the cells 'xs'; it may be written. -/
structure Cells (w : World) (b : Nat) (xs : List Value) : Prop where
  at' : ∀ j (h : j < xs.length), w.cell? ⟨b, j, none⟩ = some xs[j]
  free : ∀ j, j < xs.length → w.frozen? ⟨b, j, none⟩ = false

theorem Cells.get {w : World} {b : Nat} {xs : List Value} (h : Cells w b xs) {j : Nat} {v : Value} (hv : xs[j]? = some v) : w.cell? ⟨b, j, none⟩ = some v := by
  obtain ⟨hj, e⟩ := List.getElem?_eq_some_iff.1 hv
  rw [h.at' j hj, e]

theorem Cells.new (w : World) (c : Array Value) (t : TypeId) : Cells (w.alloc (.cells c t)) w.heap.size c.toList :=
  ⟨fun j h => by rw [World.cell?_alloc_new]; simp at h; simp [h], fun j h => World.frozen?_alloc_new ..⟩

theorem Cells.set {w : World} {b : Nat} {xs : List Value} (h : Cells w b xs) (k : Nat) (v : Value) : Cells (w.setCell ⟨b, k, none⟩ v) b (xs.set k v) := by
  refine ⟨fun j hj => ?_, fun j hj => ?_⟩
  · have hj' : j < xs.length := by simpa using hj
    by_cases e : j = k
    · subst e
      rw [World.cell?_setCell_same w _ _ (h.at' j hj')]
      simp
    · rw [World.cell?_setCell_other w _ _ _ (by intro h; cases h; exact e rfl), h.at' j hj', List.getElem_set_ne (by omega)]
  · have hj' : j < xs.length := by simpa using hj
    rw [World.frozen?_setCell]; exact h.free j hj'

theorem Cells.below {w w' : World} {b B : Nat} {xs : List Value} (h : Cells w b xs) (hb : Below B w w') (hB : b < B) : Cells w' b xs :=
  ⟨fun j hj => (hb.cell (p := ⟨b, j, none⟩) hB).trans (h.at' j hj), fun j hj => (hb.frozen (p := ⟨b, j, none⟩) hB).trans (h.free j hj)⟩

theorem Cells.far {w : World} {b : Nat} {xs : List Value} (h : Cells w b xs) {p : Addr} (hp : p.block ≠ b) (v : Value) : Cells (w.setCell p v) b xs :=
  ⟨fun j hj => by rw [World.cell?_setCell_other w _ _ _ (by intro e; exact hp (by rw [e])), h.at' j hj], fun j hj => by rw [World.frozen?_setCell]; exact h.free j hj⟩

theorem Cells.drewN {w : World} {b : Nat} {xs : List Value} (h : Cells w b xs) : ∀ n, Cells (w.drewN n) b xs
  | 0 => h
  | n + 1 => let r := h.drewN n; ⟨r.1, r.2⟩

/-- A slice value, its address 'a': the elements (one cell each) are 'vs'. -/
def Sl (w : World) (a : Option Addr) (vs : List Value) : Prop :=
  ∀ i (h : i < vs.length), ∃ b off, a = some ⟨b, off, none⟩ ∧ b < w.heap.size ∧ w.cell? ⟨b, off + i, none⟩ = some vs[i]

theorem Sl.below {w w' : World} {a : Option Addr} {vs : List Value} (h : Sl w a vs) (hb : Below w.heap.size w w') : Sl w' a vs := fun i hi => by
  obtain ⟨b, off, e, hlt, hc⟩ := h i hi
  exact ⟨b, off, e, Nat.lt_of_lt_of_le hlt hb.size, (hb.cell (p := ⟨b, off + i, none⟩) hlt).trans hc⟩

theorem Sl.of_cells {w : World} {b : Nat} {vs : List Value} (h : Cells w b vs) (hb : b < w.heap.size) : Sl w (some ⟨b, 0, none⟩) vs := fun i hi =>
  ⟨b, 0, rfl, hb, by rw [Nat.zero_add]; exact h.at' i hi⟩

theorem Sl.nil (w : World) (a : Option Addr) : Sl w a [] := fun i h => absurd h (by simp)

theorem below_drewN (B : Nat) {w w' : World} (h : Below B w w') : ∀ n, Below B w (w'.drewN n)
  | 0 => h
  | n + 1 => (below_drewN B h n).drew

theorem made_one (z : Value) (n : Nat) : (madeCells #[z] n).toList = List.replicate n z := by
  apply List.ext_getElem
  · simp [madeCells]
  · intro i h1 h2
    simp [madeCells, Nat.mod_one]

theorem take_set {vs : List Value} {z : Value} {k n : Nat} (hn : vs.length = n) (hk : k < n) :
    (vs.take k ++ List.replicate (n - k) z).set k (vs[k]'(by omega)) = vs.take (k + 1) ++ List.replicate (n - (k + 1)) z := by
  apply List.ext_getElem
  · simp; omega
  · intro i h1 h2
    simp at h1 h2
    rw [List.getElem_set]
    split
    · rename_i e; subst e
      rw [List.getElem_append_left (by simp; omega)]; simp
    · rename_i e
      by_cases hi : i < k
      · rw [List.getElem_append_left (by simp; omega), List.getElem_append_left (by simp; omega)]; simp
      · rw [List.getElem_append_right (by simp; omega), List.getElem_append_right (by simp; omega)]; simp

theorem take_at {vs : List Value} {z : Value} {k n : Nat} (hn : vs.length = n) (hk : k < n) : (vs.take k ++ List.replicate (n - k) z)[k]? = some z := by
  have e : (vs.take k).length = k := by rw [List.length_take]; omega
  rw [List.getElem?_append_right (by omega), e, Nat.sub_self, List.getElem?_replicate]
  simp; omega

end Go.Proofs.Qxb6603821a.B
