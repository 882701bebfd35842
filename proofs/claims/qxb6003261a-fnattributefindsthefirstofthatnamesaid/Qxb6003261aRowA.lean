/-
  The row of attributes, filled one by one.
-/
import Derived.Test.Qxb6003261aFind
import Derived.Laws.IdiomCopy
namespace Go.Proofs.Qxb6003261a.Att
open Go.RowKit B
set_option linter.unusedVariables false

def AtCells (w : World) (b o : Nat) (a : A) : Prop :=
  w.cell? ⟨b, o, none⟩ = some (.string a.nm) ∧ w.cell? ⟨b, o + 1, none⟩ = some (.int .i64 a.s) ∧
    w.cell? ⟨b, o + 2, none⟩ = some (.bool a.l) ∧ w.cell? ⟨b, o + 3, none⟩ = some (.string a.d) ∧
    w.cell? ⟨b, o + 4, none⟩ = some (.bool false) ∧ w.cell? ⟨b, o + 5, none⟩ = some (.pointer none) ∧ w.cell? ⟨b, o + 6, none⟩ = some (.bool false) ∧
    w.cell? ⟨b, o + 7, none⟩ = some (.string ⟨#[]⟩) ∧ w.cell? ⟨b, o + 8, none⟩ = some (.string ⟨#[]⟩)

/-- The first 'k' attributes lie in the row of 'm' cells at block 'b'; every cell of it may be written. -/
structure Filled (w : World) (b m : Nat) (ats : List A) (k : Nat) : Prop where
  here : ∀ i (h : i < ats.length), i < k → AtCells w b (i * 9) ats[i]
  some' : ∀ o, o < m → (w.cell? ⟨b, o, none⟩).isSome = true
  free : ∀ o, o < m → w.frozen? ⟨b, o, none⟩ = false

theorem Filled.below {w w' : World} {b B m k : Nat} {ats : List A} (h : Filled w b m ats k) (hb : Below B w w') (hB : b < B) : Filled w' b m ats k := by
  have e : ∀ o, w'.cell? ⟨b, o, none⟩ = w.cell? ⟨b, o, none⟩ := fun o => hb.cell (p := ⟨b, o, none⟩) hB
  refine ⟨fun i hi hk => ?_, fun o ho => by rw [e]; exact h.some' o ho, fun o ho => (hb.frozen (p := ⟨b, o, none⟩) hB).trans (h.free o ho)⟩
  have := h.here i hi hk
  simp only [AtCells, e] at this ⊢
  exact this

def valsOf (a : A) : List Value := [.string a.nm, .int .i64 a.s, .bool a.l, .string a.d, .bool false, .pointer none, .bool false, .string ⟨#[]⟩, .string ⟨#[]⟩]

theorem Filled.step {w : World} {b m k : Nat} {ats : List A} (h : Filled w b m ats k) (hk : k < ats.length) (hm : k * 9 + 9 ≤ m) :
    Filled (w.setCells b (k * 9) (valsOf ats[k])) b m ats (k + 1) := by
  have hl : (valsOf ats[k]).length = 9 := rfl
  have hin := World.cell?_setCells_in b (valsOf ats[k]) (k * 9) w (fun j hj => h.some' _ (by rw [hl] at hj; omega))
  have hout := fun o (ho : o < k * 9 ∨ k * 9 + 9 ≤ o) => World.cell?_setCells_out b (valsOf ats[k]) (k * 9) w ⟨b, o, none⟩ (fun _ _ => by rw [hl]; exact ho)
  refine ⟨fun i hi hik => ?_, fun o ho => ?_, fun o ho => by rw [World.frozen?_setCells]; exact h.free o ho⟩
  · by_cases e : i = k
    · subst e
      exact ⟨hin 0 (by rw [hl]; decide), hin 1 (by rw [hl]; decide), hin 2 (by rw [hl]; decide), hin 3 (by rw [hl]; decide), hin 4 (by rw [hl]; decide), hin 5 (by rw [hl]; decide), hin 6 (by rw [hl]; decide), hin 7 (by rw [hl]; decide), hin 8 (by rw [hl]; decide)⟩
    · have := h.here i hi (by omega)
      obtain ⟨h0, h1, h2, h3, h4, h5, h6, h7, h8⟩ := this
      refine ⟨?_, ?_, ?_, ?_, ?_, ?_, ?_, ?_, ?_⟩ <;> (rw [hout _ (by omega)]; assumption)
  · by_cases e : k * 9 ≤ o ∧ o < k * 9 + 9
    · obtain ⟨j, rfl⟩ : ∃ j, o = k * 9 + j := ⟨o - k * 9, by omega⟩
      rw [hin j (by rw [hl]; omega)]; rfl
    · rw [hout _ (by omega)]; exact h.some' o ho

theorem Filled.new (w : World) (z : Array Value) (hz : z.size = 9) (m : Nat) (t : TypeId) (ats : List A) : Filled (w.alloc (.cells (madeCells z m) t)) w.heap.size m ats 0 := by
  refine ⟨fun i _ h => absurd h (by omega), fun o ho => ?_, fun o ho => World.frozen?_alloc_new ..⟩
  rw [World.cell?_alloc_new]
  simp [madeCells, ho]

theorem below_setCells {B : Nat} {a : World} (b : Nat) (hB : B ≤ b) : ∀ (vs : List Value) (o : Nat) (w : World), Below B a w → Below B a (w.setCells b o vs)
  | [], _, _, h => h
  | v :: vs, o, w, h => below_setCells b hB vs (o + 1) _ (h.setCell (p := ⟨b, o, none⟩) hB v)

theorem size_setCells (b : Nat) : ∀ (vs : List Value) (o : Nat) (w : World), (w.setCells b o vs).heap.size = w.heap.size
  | [], _, _ => rfl
  | v :: vs, o, w => by
    show ((w.setCell ⟨b, o, none⟩ v).setCells b (o + 1) vs).heap.size = _
    rw [size_setCells b vs (o + 1)]; simp [World.setCell]
end Go.Proofs.Qxb6003261a.Att
