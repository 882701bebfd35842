/-
  copyStrings2 (12).
-/
import Derived.Test.Qxb6603821aCopy
namespace Go.Proofs.Qxb6603821a.W
open Go.RowKit B
set_option linter.unusedVariables false

/-- A slice of slices. -/
def Sl2 {α : Type} (mk : α → Value) (w : World) (a : Option Addr) (rs : List (List α)) : Prop :=
  ∀ i (h : i < rs.length), ∃ b off a' cap', a = some ⟨b, off, none⟩ ∧ b < w.heap.size ∧ w.cell? ⟨b, off + i, none⟩ = some (.slice a' rs[i].length cap') ∧ Sl w a' (rs[i].map mk)

theorem Sl2.below {α : Type} {mk : α → Value} {w w' : World} {a : Option Addr} {rs : List (List α)} (h : Sl2 mk w a rs) (hb : Below w.heap.size w w') : Sl2 mk w' a rs := fun i hi => by
  obtain ⟨b, off, a', cap', e, hlt, hc, hs⟩ := h i hi
  exact ⟨b, off, a', cap', e, Nat.lt_of_lt_of_le hlt hb.size, (hb.cell (p := ⟨b, off + i, none⟩) hlt).trans hc, hs.below hb⟩

/-- An owned row of slices: the first 'k' are filled, each apart from the row itself; every cell may be written. -/
structure Rows2 {α : Type} (mk : α → Value) (w : World) (b n : Nat) (rs : List (List α)) (k : Nat) : Prop where
  here : ∀ i (h : i < rs.length), i < k → ∃ a' cap', w.cell? ⟨b, i, none⟩ = some (.slice a' rs[i].length cap') ∧ Sl w a' (rs[i].map mk) ∧ ∀ p, a' = some p → p.block ≠ b
  some' : ∀ i, i < n → ∃ v, w.cell? ⟨b, i, none⟩ = some v
  free : ∀ i, i < n → w.frozen? ⟨b, i, none⟩ = false

theorem Rows2.new {α : Type} (mk : α → Value) (w : World) (z : Value) (n : Nat) (t : TypeId) (rs : List (List α)) : Rows2 mk (w.alloc (.cells (madeCells #[z] n) t)) w.heap.size n rs 0 := by
  have c := Cells.new w (madeCells #[z] n) t
  rw [made_one] at c
  exact ⟨fun i _ h => absurd h (by omega), fun i hi => ⟨_, c.at' i (by simpa using hi)⟩, fun i hi => c.free i (by simpa using hi)⟩

theorem Rows2.below {α : Type} {mk : α → Value} {w w' : World} {b n k : Nat} {rs : List (List α)} (h : Rows2 mk w b n rs k) (hb : Below w.heap.size w w') (hB : b < w.heap.size) : Rows2 mk w' b n rs k := by
  have e : ∀ o, w'.cell? ⟨b, o, none⟩ = w.cell? ⟨b, o, none⟩ := fun o => hb.cell (p := ⟨b, o, none⟩) hB
  refine ⟨fun i hi hk => ?_, fun i hi => by rw [e]; exact h.some' i hi, fun i hi => (hb.frozen (p := ⟨b, i, none⟩) hB).trans (h.free i hi)⟩
  obtain ⟨a', cap', hc, hs, hp⟩ := h.here i hi hk
  exact ⟨a', cap', by rw [e]; exact hc, hs.below hb, hp⟩

theorem Sl.far {w : World} {a : Option Addr} {vs : List Value} (h : Sl w a vs) {b : Nat} (ha : ∀ p, a = some p → p.block ≠ b) (o : Nat) (v : Value) : Sl (w.setCell ⟨b, o, none⟩ v) a vs := fun i hi => by
  obtain ⟨b', off, e, hlt, hc⟩ := h i hi
  refine ⟨b', off, e, by simpa [World.setCell] using hlt, ?_⟩
  rw [World.cell?_setCell_other w _ _ _ (by intro e'; have := ha _ e; simp at this; exact this (by cases e'; rfl)), hc]

theorem Rows2.step {α : Type} {mk : α → Value} {w : World} {b n k : Nat} {rs : List (List α)} (h : Rows2 mk w b n rs k) (hk : k < rs.length) (hn : k < n) {a' : Option Addr} {cap' : Nat} (hs : Sl w a' (rs[k].map mk))
    (hp : ∀ p, a' = some p → p.block ≠ b) : Rows2 mk (w.setCell ⟨b, k, none⟩ (.slice a' rs[k].length cap')) b n rs (k + 1) := by
  obtain ⟨v, hv⟩ := h.some' k hn
  refine ⟨fun i hi hik => ?_, fun i hi => ?_, fun i hi => by rw [World.frozen?_setCell]; exact h.free i hi⟩
  · by_cases e : i = k
    · subst e
      exact ⟨a', cap', World.cell?_setCell_same w _ _ hv, Sl.far hs hp _ _, hp⟩
    · obtain ⟨a2, c2, hc, hs2, hp2⟩ := h.here i hi (by omega)
      exact ⟨a2, c2, by rw [World.cell?_setCell_other w _ _ _ (by intro e'; cases e'; exact e rfl), hc], Sl.far hs2 hp2 _ _, hp2⟩
  · by_cases e : i = k
    · subst e; exact ⟨_, World.cell?_setCell_same w _ _ hv⟩
    · obtain ⟨v2, hv2⟩ := h.some' i hi
      exact ⟨v2, by rw [World.cell?_setCell_other w _ _ _ (by intro e'; cases e'; exact e rfl), hv2]⟩

theorem Rows2.sl2 {α : Type} {mk : α → Value} {w : World} {b n : Nat} {rs : List (List α)} (h : Rows2 mk w b n rs rs.length) (hb : b < w.heap.size) : Sl2 mk w (some ⟨b, 0, none⟩) rs := fun i hi => by
  obtain ⟨a', cap', hc, hs, _⟩ := h.here i hi hi
  exact ⟨b, 0, a', cap', rfl, hb, by rw [Nat.zero_add]; exact hc, hs⟩

theorem info22 : (Try.prog.info? 22).map (fun i => (i.zero, i.size, i.bytes)) = some (some (.slice none 0 0), 1, 24) := by kernel_rfl

set_option maxHeartbeats 400000 in
theorem cp2_some (p : Addr) (cap : Nat) (rs : List (List ByteArray)) (w : World) (hn : rs.length ≤ 65536) (hr : ∀ r ∈ rs, r.length ≤ 65536) (h : Sl2 .string w (some p) rs) :
    Calls Try.prog 12 #[.slice (some p) rs.length cap] w fun e w' =>
      e = .returned (.slice (some ⟨w.heap.size, 0, none⟩) rs.length rs.length) ∧ Rows2 .string w' w.heap.size rs.length rs rs.length ∧ Below w.heap.size w w' ∧ w.heap.size < w'.heap.size := by
  have heq := fun w => Lib.run_eql_slice_nil (P := Try.prog) w 23 22 (some p) rs.length cap 0 0 Try.underlying23
  have hmk := run_make_row' (P := Try.prog) 23 22 (.slice none 0 0) 24 Try.underlying23 info22 rfl .i64 .i64 rs.length (by omega) (by omega)
  obtain ⟨n, hN⟩ : ∃ n, rs.length = n := ⟨_, rfl⟩
  obtain ⟨B, hB⟩ : ∃ B, w.heap.size = B := ⟨_, rfl⟩
  have HN := hide hN
  have HR := hide hr
  have HS := hide h
  rw [hN] at hn heq hmk ⊢
  have H0 := hide (Rows2.new .string w (.slice none 0 0) n 22 rs)
  rw [hB] at H0 ⊢
  have hgr : B < (w.alloc (.cells (madeCells #[.slice none 0 0] n) 22)).heap.size := by simp [hB]
  have hbl : Below B w (w.alloc (.cells (madeCells #[.slice none 0 0] n) 22)) := (Below.refl B w).alloc (by omega) _
  clear hN h hr
  go_enter Try.func12, Try.ntmps12
  go_wp2
  clear heq hmk
  go_loopw [4] (fun i wr => ∃ k : Nat, k ≤ n ∧ i = .int .i64 k ∧ Hid (Rows2 .string wr B n rs k) ∧ Below B w wr ∧ B < wr.heap.size) (fun i _ => n - (intOf i).toNat)
  case atStart => exact ⟨0, Nat.zero_le _, rfl, H0.out, hbl, hgr⟩
  case round =>
    clear hbl hgr H0
    obtain ⟨k, hk, rfl, HC, hb, hg⟩ := hrel
    by_cases hlt : k < n
    · have hlt' : k < rs.length := by rw [HN.out]; exact hlt
      obtain ⟨b, off, a', cap', e, hbl, hc, hs⟩ := HS.out k hlt'
      cases e
      have hc' := (hb.cell (p := ⟨b, off + k, none⟩) (by rw [← hB]; exact hbl)).trans hc
      have C := cps_any a' cap' rs[k] wr (by have := HR.out rs[k] (List.getElem_mem _); omega) (Sl.below hs (by rw [hB]; exact hb))
      have HCC := hide C
      obtain ⟨m, hm⟩ : ∃ m, rs[k].length = m := ⟨_, rfl⟩
      rw [hm] at hc'
      have HMM := hide hm
      clear C hc hs hm
      go_wp2_with fail
      have C := HCC.out
      rw [HMM.out] at C
      refine C.mono ?_
      clear C HCC
      rintro e w1 ⟨a1, c1, rfl, hs1, hb1, hf1⟩
      have hR := Rows2.below HC.out hb1 hg
      obtain ⟨v, hv⟩ := hR.some' k hlt
      have hfr := hR.free k hlt
      have hst := Rows2.step (cap' := c1) hR hlt' hlt hs1 (fun p hp => by have := hf1 p hp; omega)
      rw [HMM.out] at hst
      have HST := hide hst
      have hz1 := hb1.size
      have HB1 := hide ((hb.trans (hb1.mono (by omega))).setCell (p := ⟨B, k, none⟩) (Nat.le_refl _) (.slice a1 m c1))
      clear hst hR hs1 hf1
      go_wp2
      go_roundw
      case rel => exact ⟨k + 1, by omega, by go_num, HST.out, HB1.out, by simp [World.setCell]; omega⟩
      case measure => simp [intOf]; omega
    · obtain rfl : k = n := by omega
      go_wp2
      go_ret
      exact ⟨rfl, HC.out, hb, hg⟩

theorem cp2_any (a : Option Addr) (cap : Nat) (rs : List (List ByteArray)) (w : World) (hn : rs.length ≤ 65536) (hr : ∀ r ∈ rs, r.length ≤ 65536) (h : Sl2 .string w a rs) :
    Calls Try.prog 12 #[.slice a rs.length cap] w fun e w' => ∃ a' cap', e = .returned (.slice a' rs.length cap') ∧ Sl2 .string w' a' rs ∧ Below w.heap.size w w' := by
  cases a with
  | none =>
    have hx : rs = [] := by
      cases rs with
      | nil => rfl
      | cons x xs => obtain ⟨_, _, _, _, e, _⟩ := h 0 (by simp); cases e
    subst hx
    have heq := fun w => Lib.run_eql_slice_nil (P := Try.prog) w 23 22 none 0 cap 0 0 Try.underlying23
    go_enter Try.func12, Try.ntmps12
    go_wp2
    go_ret
    exact ⟨none, 0, rfl, fun i h => absurd h (by simp), Below.refl _ _⟩
  | some p =>
    refine (cp2_some p cap rs w hn hr h).mono ?_
    rintro e w' ⟨rfl, hc, hb, hs⟩
    exact ⟨_, _, rfl, hc.sl2 hs, hb⟩
end Go.Proofs.Qxb6603821a.W
