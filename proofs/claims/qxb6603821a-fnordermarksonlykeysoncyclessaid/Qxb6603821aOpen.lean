/-
  The arguments that came in: []string and [][]string, read at every index.
-/
import Derived.Test.Qxb6603821aRows
import Derived.Test.Qxb6603821aCopy2
import Derived.ProofKit
import Derived.OpenShut
import Derived.ShutString
import Derived.ChangeOld
import Derived.Below
import Derived.Deep.Slices
namespace Go.Proofs.Qxb6603821a.W
open Go.ChangeShapes Go.WideShapes Go.ChangeAt Go.RowKit Go.Deep B
set_option linter.unusedVariables false

theorem own : ownKnob Try.prog.godebug = none := by kernel_rfl
theorem laidOut : laidOutB Try.prog = true := by kernel_rfl

theorem cell_lt {w : World} {a : Addr} {v : Value} (h : w.cell? a = some v) : a.block < w.heap.size := by
  unfold World.cell? at h
  split at h
  · rename_i hb
    exact (Array.getElem?_eq_some_iff.1 hb).1
  · simp at h

/-- A slice of one-cell elements that came in, read at every index. -/
theorem slice_at {α : Type} [Inhabited α] (mk : α → Value) {H : Type} {enc : TypeId × Value → H} {P : Program} {W : World} {t e : TypeId} {v : Value} {fuel : Nat} {x : DataW H × List MemPlace}
    (ht : P.underlying t = some (.slice e)) (hc : P.cellsOf e = 1) (hk : DataW.trod enc P W 0 (fun _ => true) true fuel t [v] = some x)
    (hmk : ∀ n v x, DataW.trod enc P W 0 (fun _ => true) true n e [v] = some x → ∃ y, v = mk y) :
    ∃ (a : Option Addr) (cap : Nat) (xs : List α), v = .slice a xs.length cap ∧ xs.length ≤ maxLen ∧ Sl W a (xs.map mk) := by
  rcases open_slice1 ht hc hk with ⟨hcs, _⟩ | ⟨x, l, c, m, n, V, D, Pl, hcs, _, hl, hm, hmm, _, hx⟩
  · obtain rfl : v = .slice none 0 0 := by simpa using hcs
    exact ⟨none, 0, [], rfl, Nat.zero_le _, Sl.nil _ _⟩
  · obtain rfl : v = .slice (some x) l c := by simpa using hcs
    simp only [if_true] at hmm
    subst hmm
    obtain ⟨Y, hY⟩ := choose_lt (α := α) (p := fun i y => V i = mk y) (fun i hi => hmk _ _ _ (hx i hi).2)
    refine ⟨some x, m, (List.range l).map Y, by simp, by simp; omega, fun i hi => ?_⟩
    have hi' : i < l := by simpa using hi
    have hcell := (hx i (by omega)).1
    have hc0 := (hx 0 (by omega)).1
    obtain ⟨b, off, spot⟩ := x
    have hspot : spot = none := by simpa [Addr.add] using World.cell?_spot hc0
    subst hspot
    rw [add_plain] at hcell
    exact ⟨b, off, rfl, cell_lt hcell, by rw [hcell, hY i (by omega)]; simp⟩

theorem strs_at {H : Type} {enc : TypeId × Value → H} {W : World} {v : Value} {fuel : Nat} {x : DataW H × List MemPlace}
    (hk : DataW.trod enc Try.prog W 0 (fun _ => true) true fuel 22 [v] = some x) :
    ∃ (a : Option Addr) (cap : Nat) (xs : List ByteArray), v = .slice a xs.length cap ∧ xs.length ≤ maxLen ∧ Sl W a (xs.map .string) :=
  slice_at Value.string Try.underlying22 (by kernel_rfl) hk (fun n v x hx => by
    obtain ⟨s, h1, _⟩ := DataW.trod_string Try.underlying9 hx; exact ⟨s, by simpa using h1⟩)

theorem rows_at {H : Type} {enc : TypeId × Value → H} {W : World} {v : Value} {fuel : Nat} {x : DataW H × List MemPlace}
    (hk : DataW.trod enc Try.prog W 0 (fun _ => true) true fuel 23 [v] = some x) :
    ∃ (a : Option Addr) (cap : Nat) (rs : List (List ByteArray)), v = .slice a rs.length cap ∧ rs.length ≤ maxLen ∧ (∀ r ∈ rs, r.length ≤ maxLen) ∧ Sl2 .string W a rs := by
  rcases open_slice1 Try.underlying23 (by kernel_rfl) hk with ⟨hcs, _⟩ | ⟨x, l, c, m, n, V, D, Pl, hcs, _, hl, hm, hmm, _, hx⟩
  · obtain rfl : v = .slice none 0 0 := by simpa using hcs
    exact ⟨none, 0, [], rfl, Nat.zero_le _, by simp, fun i hi => absurd hi (by simp)⟩
  · obtain rfl : v = .slice (some x) l c := by simpa using hcs
    simp only [if_true] at hmm
    subst hmm
    obtain ⟨Y, hY⟩ := choose_lt (α := List ByteArray) (p := fun i y => ∃ a' cap', V i = .slice a' y.length cap' ∧ y.length ≤ maxLen ∧ Sl W a' (y.map .string)) (fun i hi => by
      obtain ⟨a, cap, xs, h1, h2, h3⟩ := strs_at (hx i hi).2
      exact ⟨xs, a, cap, h1, h2, h3⟩)
    refine ⟨some x, m, (List.range l).map Y, by simp, by simp; omega, fun r hr => ?_, fun i hi => ?_⟩
    · obtain ⟨i, hi, rfl⟩ := List.mem_map.1 hr
      have hi' : i < l := by simpa using hi
      obtain ⟨_, _, _, h2, _⟩ := hY i (by omega)
      exact h2
    have hi' : i < l := by simpa using hi
    have hcell := (hx i (by omega)).1
    have hc0 := (hx 0 (by omega)).1
    obtain ⟨b, off, spot⟩ := x
    have hspot : spot = none := by simpa [Addr.add] using World.cell?_spot hc0
    subst hspot
    rw [add_plain] at hcell
    obtain ⟨a', cap', h1, h2, h3⟩ := hY i (by omega)
    refine ⟨b, off, a', cap', rfl, cell_lt hcell, ?_, ?_⟩
    · rw [hcell, h1]; simp
    · simpa using h3
end Go.Proofs.Qxb6603821a.W
