/-
  The proof of 'Rows.FnOrderMarksOnlyKeysOnCyclesSaid'. The frame after the guide's shells; the walk is in Qxb6603821aL3.
-/
import Derived.Test.Qxb6603821aRows
import Derived.Test.Qxb6603821aL3
import Derived.Test.Qxb6603821aOpen
namespace Go.Proofs.Qxb6603821a.fnOrderMarksOnlyKeysOnCycles
open Go.ChangeShapes Go.WideShapes Go.ChangeAt Go.RowKit Go.Deep B
open Go.Proofs.Qxb6603821a.W (own laidOut strs_at rows_at law7)
set_option linter.unusedVariables false

set_option maxRecDepth 100000 in
theorem lifted (os : Os) (started : os.Started) (H : Type) (enc : TypeId × Value → H) :
    ReturnsInHanded {} Try.checked os 7 .any (Rows.fnOrderMarksOnlyKeysOnCyclesSpec.pre6 enc Try.prog Try.f7 Rows.fnOrderMarksOnlyKeysOnCyclesRow.domain false) (Rows.fnOrderMarksOnlyKeysOnCyclesSpec.post enc Try.prog Try.f7 false true false false) := by
  refine returnsInHanded_of_change (C := Try.checked) own started (by kernel_rfl) Try.func7
    (ChangeSpec.witness6 (enc := enc) (C := Try.checked) false ⟨#[], #[.slice none 0 0, .slice none 0 0], []⟩ 8 (by kernel_rfl) (by kernel_rfl) (by kernel_rfl) (by kernel_rfl)) ?_
  intro W base args ds gs before hval0 hW hcnd _
  have hval : ∀ (j : Nat) t v, Try.f7.params[j]? = some t → args[j]? = some v → Value.okWide Try.prog W .any base t v := hval0
  have hW' := hW
  obtain ⟨p, q, hA0, hV, rfl, hfz, hnd⟩ := hW
  have hA : DataW.TrodAll enc Try.prog W 0 (fun _ => true) true Try.f7.params.toList args.toList ds p := hA0
  rw [Try.params7] at hA hval
  obtain ⟨v0, vs0, d0, ds0, p0, q0, hargs, rfl, rfl, h0, r0⟩ := trodAll_cons hA
  obtain ⟨v1, vs1, d1, ds1, p1, q1, rfl, rfl, rfl, h1, r1⟩ := trodAll_cons r0
  obtain ⟨rfl, rfl, rfl⟩ := trodAll_nil r1
  obtain rfl : args = #[v0, v1] := by cases args; simp_all
  obtain ⟨rfl, rfl⟩ := trodVars_none hV
  obtain ⟨a0, len0, cap0, rfl⟩ := okWide_slice Try.underlying22 (hval 0 22 v0 rfl rfl)
  obtain ⟨a1, len1, cap1, rfl⟩ := okWide_slice Try.underlying23 (hval 1 23 v1 rfl rfl)
  have lt0 : ∀ x ∈ p0, x.block < W.heap.size := by obtain ⟨m, hm⟩ := h0; exact DataW.trod_lt m _ _ _ hm
  have lt1 : ∀ x ∈ p1, x.block < W.heap.size := by obtain ⟨m, hm⟩ := h1; exact DataW.trod_lt m _ _ _ hm
  have k0 := h0
  have k1 := h1
  obtain ⟨m0, g0⟩ := k0
  obtain ⟨m1, g1⟩ := k1
  obtain ⟨b0, cp0, xs, e0, l0, s0⟩ := strs_at (W := W) (v := .slice a0 len0 cap0) (fuel := m0) (x := (d0, p0)) g0
  obtain ⟨b1, cp1, rs, e1, l1, l2, s1⟩ := rows_at (W := W) (v := .slice a1 len1 cap1) (fuel := m1) (x := (d1, p1)) g1
  obtain ⟨rfl, rfl, rfl⟩ : a0 = b0 ∧ len0 = xs.length ∧ cap0 = cp0 := by simpa using e0
  obtain ⟨rfl, rfl, rfl⟩ : a1 = b1 ∧ len1 = rs.length ∧ cap1 = cp1 := by simpa using e1
  clear hA0 hval0 e0 e1 g0 g1
  refine (law7 a0 a1 cap0 cap1 xs rs W l0 l1 l2 s0 s1).mono fun e W' ⟨he, bel⟩ => ?_
  subst he
  exact ⟨_, rfl, _, _, _, [], _, [], hW', trodAll_mk1 (shut_bool Try.underlying4 _),
    (trodAll_cons_mk (Below.trod laidOut (by kernel_rfl) (of_decide_eq_true (by kernel_rfl)) h0 bel lt0)
    (trodAll_cons_mk (Below.trod laidOut (by kernel_rfl) (of_decide_eq_true (by kernel_rfl)) h1 bel lt1) trodAll_mk0)), rfl, bel.frame _, fun h => by cases h⟩

theorem over : Rows.fnOrderMarksOnlyKeysOnCyclesRow.holds Try.pinned (OpenSpec.ofChange Rows.fnOrderMarksOnlyKeysOnCyclesSpec) :=
  OpenClaim.holds_of_wide 7 Try.f7 rfl rfl rfl rfl rfl rfl rfl ⟨rfl, rfl, rfl, rfl, rfl⟩ rfl rfl rfl rfl rfl (by kernel_rfl) Try.func7 (by kernel_rfl)
    (of_decide_eq_true (by kernel_rfl)) (by unfold Func.isWrapper; first | (rw [if_pos (by decide +kernel)]; kernel_rfl) | (rw [if_neg (by decide +kernel)]; exact ⟨rfl, rfl⟩))
    (fun os started H enc _ => lifted os started H enc)

/-- THE STATEMENT -/
theorem proved : Rows.FnOrderMarksOnlyKeysOnCyclesSaid := over
end Go.Proofs.Qxb6603821a.fnOrderMarksOnlyKeysOnCycles
