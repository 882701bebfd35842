/-
  The proof of 'Rows.FnAttributeFindsTheFirstOfThatNameSaid'. The frame after the guide's shells; the walk is in Qxb6003261aLaw.
-/
import Derived.Test.Qxb6003261aRows
import Derived.Test.Qxb6003261aLaw
import Derived.ProofKit
import Derived.OpenShut
import Derived.ShutString
import Derived.ChangeOld
import Derived.Below
import Derived.Deep.Slices
namespace Go.Proofs.Qxb6003261a.fnAttributeFindsTheFirstOfThatName
open Go.ChangeShapes Go.WideShapes Go.ChangeAt Go.RowKit Go.Deep B
open Go.ChangeMaps (open_string shut_string)
set_option linter.unusedVariables false

theorem own : ownKnob Try.prog.godebug = none := by kernel_rfl
theorem laidOut : laidOutB Try.prog = true := by kernel_rfl

theorem cell_lt {w : World} {a : Addr} {v : Value} (h : w.cell? a = some v) : a.block < w.heap.size := by
  unfold World.cell? at h
  split at h
  · rename_i hb
    exact (Array.getElem?_eq_some_iff.1 hb).1
  · simp at h

/-- A slice of one-cell elements that came in, read at every index. -/
theorem slice_in {α : Type} [Inhabited α] (mk : α → Value) {H : Type} {enc : TypeId × Value → H} {P : Program} {W : World} {t e : TypeId} {a : Option Addr} {len cap : Nat} {d : DataW H} {ps : List MemPlace}
    (ht : P.underlying t = some (.slice e)) (hc : P.cellsOf e = 1) (hk : DataW.Trod enc P W 0 (fun _ => true) true t (.slice a len cap) d ps)
    (hmk : ∀ n v x, DataW.trod enc P W 0 (fun _ => true) true n e [v] = some x → ∃ y, v = mk y) :
    ∃ xs : List α, xs.length = len ∧ len ≤ maxLen ∧ Sl W a (xs.map mk) := by
  obtain ⟨fuel, hf⟩ := hk
  rcases open_slice1 ht hc hf with ⟨hcs, _⟩ | ⟨x, l, c, m, n, V, D, Pl, hcs, _, hl, hm, hmm, _, hx⟩
  · simp [Value.cells] at hcs
    obtain ⟨rfl, rfl, rfl⟩ := hcs
    exact ⟨[], rfl, Nat.zero_le _, Sl.nil _ _⟩
  · simp [Value.cells] at hcs
    obtain ⟨rfl, rfl, rfl⟩ := hcs
    simp only [if_true] at hmm
    subst hmm
    obtain ⟨Y, hY⟩ := choose_lt (α := α) (p := fun i y => V i = mk y) (fun i hi => hmk _ _ _ (hx i hi).2)
    refine ⟨(List.range len).map Y, by simp, by omega, fun i hi => ?_⟩
    have hi' : i < len := by simpa using hi
    have hcell := (hx i (by omega)).1
    have hc0 := (hx 0 (by omega)).1
    obtain ⟨b, off, spot⟩ := x
    have hspot : spot = none := by simpa [Addr.add] using World.cell?_spot hc0
    subst hspot
    rw [add_plain] at hcell
    exact ⟨b, off, rfl, cell_lt hcell, by rw [hcell, hY i (by omega)]; simp⟩

set_option maxRecDepth 100000 in
theorem lifted (os : Os) (started : os.Started) (H : Type) (enc : TypeId × Value → H) :
    ReturnsInHanded {} Try.checked os 4 .any (Rows.fnAttributeFindsTheFirstOfThatNameSpec.pre6 enc Try.prog Try.f4 Rows.fnAttributeFindsTheFirstOfThatNameRow.domain false) (Rows.fnAttributeFindsTheFirstOfThatNameSpec.post enc Try.prog Try.f4 false true false false) := by
  refine returnsInHanded_of_change (C := Try.checked) own started (by kernel_rfl) Try.func4
    (ChangeSpec.witness6 (enc := enc) (C := Try.checked) false ⟨#[], #[.slice none 0 0, .slice none 0 0, .slice none 0 0, .slice none 0 0, .string ByteArray.empty], []⟩ 8 (by kernel_rfl) (by kernel_rfl) (by kernel_rfl) (by kernel_rfl)) ?_
  intro W base args ds gs before hval0 hW hcnd _
  have hval : ∀ (j : Nat) t v, Try.f4.params[j]? = some t → args[j]? = some v → Value.okWide Try.prog W .any base t v := hval0
  have hW' := hW
  obtain ⟨p, q, hA0, hV, rfl, hfz, hnd⟩ := hW
  have hA : DataW.TrodAll enc Try.prog W 0 (fun _ => true) true Try.f4.params.toList args.toList ds p := hA0
  rw [Try.params4] at hA hval
  obtain ⟨v0, vs0, d0, ds0, p0, q0, hargs, rfl, rfl, h0, r0⟩ := trodAll_cons hA
  obtain ⟨v1, vs1, d1, ds1, p1, q1, rfl, rfl, rfl, h1, r1⟩ := trodAll_cons r0
  obtain ⟨v2, vs2, d2, ds2, p2, q2, rfl, rfl, rfl, h2, r2⟩ := trodAll_cons r1
  obtain ⟨v3, vs3, d3, ds3, p3, q3, rfl, rfl, rfl, h3, r3⟩ := trodAll_cons r2
  obtain ⟨v4, vs4, d4, ds4, p4, q4, rfl, rfl, rfl, h4, r4⟩ := trodAll_cons r3
  obtain ⟨rfl, rfl, rfl⟩ := trodAll_nil r4
  obtain rfl : args = #[v0, v1, v2, v3, v4] := by cases args; simp_all
  obtain ⟨rfl, rfl⟩ := trodVars_none hV
  obtain ⟨a0, len0, cap0, rfl⟩ := okWide_slice Try.underlying36 (hval 0 36 v0 rfl rfl)
  obtain ⟨a1, len1, cap1, rfl⟩ := okWide_slice Try.underlying36 (hval 1 36 v1 rfl rfl)
  obtain ⟨a2, len2, cap2, rfl⟩ := okWide_slice Try.underlying37 (hval 2 37 v2 rfl rfl)
  obtain ⟨a3, len3, cap3, rfl⟩ := okWide_slice Try.underlying38 (hval 3 38 v3 rfl rfl)
  obtain ⟨a4, rfl, rfl, rfl, w4⟩ := open_string Try.underlying9 (hval 4 9 v4 rfl rfl) h4
  have lt0 : ∀ x ∈ p0, x.block < W.heap.size := by obtain ⟨m, hm⟩ := h0; exact DataW.trod_lt m _ _ _ hm
  have lt1 : ∀ x ∈ p1, x.block < W.heap.size := by obtain ⟨m, hm⟩ := h1; exact DataW.trod_lt m _ _ _ hm
  have lt2 : ∀ x ∈ p2, x.block < W.heap.size := by obtain ⟨m, hm⟩ := h2; exact DataW.trod_lt m _ _ _ hm
  have lt3 : ∀ x ∈ p3, x.block < W.heap.size := by obtain ⟨m, hm⟩ := h3; exact DataW.trod_lt m _ _ _ hm
  obtain ⟨xs, rfl, l0, s0⟩ := slice_in Value.string Try.underlying36 (by kernel_rfl) h0 (fun n v x hx => by
    obtain ⟨s, h1, _⟩ := DataW.trod_string Try.underlying9 hx; exact ⟨s, by simpa using h1⟩)
  obtain ⟨ys, rfl, l1, s1⟩ := slice_in Value.string Try.underlying36 (by kernel_rfl) h1 (fun n v x hx => by
    obtain ⟨s, h1, _⟩ := DataW.trod_string Try.underlying9 hx; exact ⟨s, by simpa using h1⟩)
  obtain ⟨zs, rfl, l2, s2⟩ := slice_in (Value.int .i64) Try.underlying37 (by kernel_rfl) h2 (fun n v x hx => by
    obtain ⟨s, h1, _⟩ := DataW.trod_int Try.underlying3 hx; exact ⟨s, by simpa using h1⟩)
  obtain ⟨bs, rfl, l3, s3⟩ := slice_in Value.bool Try.underlying38 (by kernel_rfl) h3 (fun n v x hx => by
    obtain ⟨s, h1, _⟩ := DataW.trod_bool Try.underlying4 hx; exact ⟨s, by simpa using h1⟩)
  clear hA0 hval0
  refine (Att.law a0 a1 a2 a3 cap0 cap1 cap2 cap3 xs ys zs bs a4 W l0 l1 l2 l3 w4 s0 s1 s2 s3).mono fun e W' ⟨he, bel⟩ => ?_
  subst he
  exact ⟨_, rfl, _, _, _, [], _, [], hW', trodAll_mk1 (shut_bool Try.underlying4 _),
    (trodAll_cons_mk (Below.trod laidOut (by kernel_rfl) (of_decide_eq_true (by kernel_rfl)) h0 bel lt0)
    (trodAll_cons_mk (Below.trod laidOut (by kernel_rfl) (of_decide_eq_true (by kernel_rfl)) h1 bel lt1)
    (trodAll_cons_mk (Below.trod laidOut (by kernel_rfl) (of_decide_eq_true (by kernel_rfl)) h2 bel lt2)
    (trodAll_cons_mk (Below.trod laidOut (by kernel_rfl) (of_decide_eq_true (by kernel_rfl)) h3 bel lt3)
    (trodAll_cons_mk (shut_string Try.underlying9 w4) trodAll_mk0))))), rfl, bel.frame _, fun h => by cases h⟩

theorem over : Rows.fnAttributeFindsTheFirstOfThatNameRow.holds Try.pinned (OpenSpec.ofChange Rows.fnAttributeFindsTheFirstOfThatNameSpec) :=
  OpenClaim.holds_of_wide 4 Try.f4 rfl rfl rfl rfl rfl rfl rfl ⟨rfl, rfl, rfl, rfl, rfl⟩ rfl rfl rfl rfl rfl (by kernel_rfl) Try.func4 (by kernel_rfl)
    (of_decide_eq_true (by kernel_rfl)) (by unfold Func.isWrapper; first | (rw [if_pos (by decide +kernel)]; kernel_rfl) | (rw [if_neg (by decide +kernel)]; exact ⟨rfl, rfl⟩))
    (fun os started H enc _ => lifted os started H enc)

/-- THE STATEMENT -/
theorem proved : Rows.FnAttributeFindsTheFirstOfThatNameSaid := over
end Go.Proofs.Qxb6003261a.fnAttributeFindsTheFirstOfThatName
