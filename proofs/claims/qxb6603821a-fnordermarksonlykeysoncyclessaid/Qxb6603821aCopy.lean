/-
  copyStrings (11).
-/
import Derived.Test.Qxb6603821aRows
import Derived.Test.Qxb6603821aMaps
import Derived.Lib.SliceRun
namespace Go.Proofs.Qxb6603821a.W
open Go.RowKit B
set_option linter.unusedVariables false

theorem cps_info : (Try.prog.info? 9).map (fun i => (i.zero, i.size, i.bytes)) = some (some (Value.string ⟨#[]⟩), 1, 16) := by kernel_rfl

theorem cps_some (p : Addr) (cap : Nat) (xs : List ByteArray) (w : World) (hn : xs.length ≤ 1048576) (h : Sl w (some p) (xs.map Value.string)) :
    Calls Try.prog 11 #[.slice (some p) xs.length cap] w fun e w' =>
      e = .returned (.slice (some ⟨w.heap.size, 0, none⟩) xs.length xs.length) ∧ Cells w' w.heap.size (xs.map Value.string) ∧ Below w.heap.size w w' ∧ w.heap.size < w'.heap.size := by
  have heq := fun w => Lib.run_eql_slice_nil (P := Try.prog) w 22 9 (some p) xs.length cap 0 0 Try.underlying22
  have hmk := run_make_row' (P := Try.prog) 22 9 (Value.string ⟨#[]⟩) 16 Try.underlying22 cps_info rfl .i64 .i64 xs.length (by omega) (by omega)
  obtain ⟨n, hN⟩ : ∃ n, xs.length = n := ⟨_, rfl⟩
  rw [hN] at hn heq hmk ⊢
  obtain ⟨B, hB⟩ : ∃ B, w.heap.size = B := ⟨_, rfl⟩
  have H0 := hide (Cells.new w (madeCells #[Value.string ⟨#[]⟩] n) 9)
  rw [hB] at H0 ⊢
  have HN := hide hN
  have hgr : B < (w.alloc (.cells (madeCells #[Value.string ⟨#[]⟩] n) 9)).heap.size := by simp [hB]
  have hbl : Below B w (w.alloc (.cells (madeCells #[Value.string ⟨#[]⟩] n) 9)) := (Below.refl B w).alloc (by omega) _
  have HS : Hid (∀ k, (hk : k < n) → ∃ b off, p = ⟨b, off, none⟩ ∧ ∀ wr, Below B w wr → wr.cell? ⟨b, off + k, none⟩ = some (Value.string (xs[k]'(by rw [HN.out]; exact hk)))) := by
    intro k hk
    obtain ⟨b, off, e, hlt, hc⟩ := h k (by simpa [HN.out] using hk)
    cases e
    refine ⟨b, off, rfl, fun wr hbw => ?_⟩
    rw [hbw.cell (p := ⟨b, off + k, none⟩) (by rw [← hB]; exact hlt), hc]
    simp
  clear hN h
  go_enter Try.func11, Try.ntmps11
  go_wp2
  go_loopw [4] (fun i wr => ∃ k : Nat, k ≤ n ∧ i = .int .i64 k ∧ Cells wr B ((xs.map Value.string).take k ++ List.replicate (n - k) (Value.string ⟨#[]⟩)) ∧ Below B w wr ∧ B < wr.heap.size) (fun i _ => n - (intOf i).toNat)
  case atStart => exact ⟨0, Nat.zero_le _, rfl, by simpa [made_one] using H0.out, hbl, hgr⟩
  case round =>
    obtain ⟨k, hk, rfl, hc, hb, hg⟩ := hrel
    clear heq hmk hbl hgr
    by_cases hlt : k < n
    · have hlt' : k < xs.length := by rw [HN.out]; exact hlt
      obtain ⟨b, off, rfl, hs1⟩ := HS.out k hlt
      have s1 := hs1 wr hb
      clear hs1
      have hlen : k < ((xs.map Value.string).take k ++ List.replicate (n - k) (Value.string ⟨#[]⟩)).length := by simp [HN.out]; omega
      have hz := take_at (vs := xs.map Value.string) (z := Value.string ⟨#[]⟩) (k := k) (n := n) (by simp [HN.out]) hlt
      have s2 := hc.get hz
      have s3 := hc.free k hlen
      have R := hide (hc.set k (Value.string xs[k]))
      have E1 : Hid (((xs.map Value.string).take k ++ List.replicate (n - k) (Value.string ⟨#[]⟩)).set k (Value.string xs[k]) = (xs.map Value.string).take (k + 1) ++ List.replicate (n - (k + 1)) (Value.string ⟨#[]⟩)) := by
        have t := take_set (vs := xs.map Value.string) (z := Value.string ⟨#[]⟩) (k := k) (n := n) (by simp [HN.out]) hlt
        exact hide (by simpa using t)
      have HB2 := hide (hb.setCell (p := ⟨B, k, none⟩) (Nat.le_refl _) (Value.string xs[k]))
      generalize xs[k] = x at s1 R E1 HB2
      clear hc hz hlen hlt'
      go_wp2
      go_roundw
      case rel =>
        refine ⟨k + 1, by omega, by go_num, ?_, HB2.out, ?_⟩
        · have r := R.out; rw [E1.out] at r; exact r
        · simp [World.setCell]; omega
      case measure => simp [intOf]; omega
    · obtain rfl : k = n := by omega
      go_wp2
      go_ret
      refine ⟨rfl, ?_, hb, hg⟩
      have t : (xs.map Value.string).take k ++ List.replicate (k - k) (Value.string ⟨#[]⟩) = xs.map Value.string := by
        rw [List.take_of_length_le (by simp [HN.out])]; simp
      rw [t] at hc; exact hc

/-- A fresh copy; nil stays nil. -/
theorem cps_any (a : Option Addr) (cap : Nat) (xs : List ByteArray) (w : World) (hn : xs.length ≤ 1048576) (h : Sl w a (xs.map Value.string)) :
    Calls Try.prog 11 #[.slice a xs.length cap] w fun e w' =>
      ∃ a' cap', e = .returned (.slice a' xs.length cap') ∧ Sl w' a' (xs.map Value.string) ∧ Below w.heap.size w w' ∧ ∀ p, a' = some p → w.heap.size ≤ p.block := by
  cases a with
  | none =>
    have hx : xs = [] := by
      cases xs with
      | nil => rfl
      | cons x xs => obtain ⟨_, _, e, _⟩ := h 0 (by simp); cases e
    subst hx
    have heq := fun w => Lib.run_eql_slice_nil (P := Try.prog) w 22 9 none 0 cap 0 0 Try.underlying22
    go_enter Try.func11, Try.ntmps11
    go_wp2
    go_ret
    exact ⟨none, 0, rfl, Sl.nil _ _, Below.refl _ _, fun p h => by cases h⟩
  | some p =>
    refine (cps_some p cap xs w hn h).mono ?_
    rintro e w' ⟨rfl, hc, hb, hs⟩
    exact ⟨_, _, rfl, Sl.of_cells hc hs, hb, fun p h => by cases h; exact Nat.le_refl _⟩
end Go.Proofs.Qxb6603821a.W
