/-
  resolveRefs (16).
-/
import Derived.Test.Qxb6603821aCopy2
import Derived.Test.Qxb6603821aIdx
namespace Go.Proofs.Qxb6603821a.W
open Go.RowKit B
set_option linter.unusedVariables false

/-- The place of the table that a key names; -1 where no table has the name. -/
def tgI (xs : List ByteArray) (s : ByteArray) : Int := match place xs s with
  | some j => j
  | none => -1
def tgOf (xs : List ByteArray) (rs : List (List ByteArray)) : List (List Int) := rs.map (·.map (tgI xs))

theorem Sl.agree {w w' : World} {a : Option Addr} {vs : List Value} (h : Sl w a vs) (hz : w.heap.size ≤ w'.heap.size) (ha : ∀ p, a = some p → p.block < w.heap.size → w'.heap[p.block]? = w.heap[p.block]?) : Sl w' a vs := fun i hi => by
  obtain ⟨b, off, e, hlt, hc⟩ := h i hi
  have hbk : w'.heap[b]? = w.heap[b]? := ha ⟨b, off, none⟩ e hlt
  exact ⟨b, off, e, by omega, by rw [← hc]; exact World.cell?_of_block (w := w) hbk⟩

/-- While row 'k' is filled: what has turned since 'w'. -/
structure Since (w w' : World) (B k : Nat) (v : Value) : Prop where
  size : w.heap.size ≤ w'.heap.size
  block : ∀ b, b < w.heap.size → b ≠ B → w'.heap[b]? = w.heap[b]?
  other : ∀ o, o ≠ k → w'.cell? ⟨B, o, none⟩ = w.cell? ⟨B, o, none⟩
  free : ∀ o, w'.frozen? ⟨B, o, none⟩ = w.frozen? ⟨B, o, none⟩
  here : w'.cell? ⟨B, k, none⟩ = some v

theorem Since.set {w w' : World} {B k : Nat} {v : Value} (h : Since w w' B k v) {p : Addr} (hp : w.heap.size ≤ p.block) (hB : B < w.heap.size) (u : Value) : Since w (w'.setCell p u) B k v := by
  have hne : ∀ o, p ≠ ⟨B, o, none⟩ := fun o e => by subst e; simp at hp; omega
  refine ⟨by simpa [World.setCell] using h.size, fun b hb hbB => ?_, fun o ho => ?_, fun o => ?_, ?_⟩
  · rw [Below.heap_setCell _ _ _ _ (by omega)]; exact h.block b hb hbB
  · rw [World.cell?_setCell_other w' _ _ _ (hne o)]; exact h.other o ho
  · rw [World.frozen?_setCell]; exact h.free o
  · rw [World.cell?_setCell_other w' _ _ _ (hne k)]; exact h.here

theorem Rows2.since {α : Type} {mk : α → Value} {w w' : World} {B n k m : Nat} {T : List (List α)} (h : Rows2 mk w B n T k) (hk : k < T.length) {B2 : Nat} (hB2 : B2 ≠ B) (hz : B2 < w'.heap.size) (hm : T[k].length = m)
    (hs : Since w w' B k (.slice (some ⟨B2, 0, none⟩) m m)) (hc : Cells w' B2 (T[k].map mk)) : Rows2 mk w' B n T (k + 1) := by
  refine ⟨fun i hi hik => ?_, fun i hi => ?_, fun i hi => by rw [hs.free]; exact h.free i hi⟩
  · by_cases e : i = k
    · subst e
      subst hm
      exact ⟨_, _, hs.here, Sl.of_cells hc hz, fun p hp => by cases hp; exact hB2⟩
    · obtain ⟨a', cap', hc', hs', hp⟩ := h.here i hi (by omega)
      exact ⟨a', cap', by rw [hs.other i e]; exact hc', Sl.agree hs' hs.size (fun p e hlt => hs.block _ hlt (hp p e)), hp⟩
  · by_cases e : i = k
    · subst e; exact ⟨_, hs.here⟩
    · obtain ⟨v, hv⟩ := h.some' i hi
      exact ⟨v, by rw [hs.other i e]; exact hv⟩

theorem info42 : (Try.prog.info? 42).map (fun i => (i.zero, i.size, i.bytes)) = some (some (.slice none 0 0), 1, 24) := by kernel_rfl
theorem info3 : (Try.prog.info? 3).map (fun i => (i.zero, i.size, i.bytes)) = some (some (.int .i64 0), 1, 8) := by kernel_rfl

set_option maxHeartbeats 1000000 in
theorem res_any (bm c : Nat) (a : Option Addr) (cap : Nat) (xs : List ByteArray) (rs : List (List ByteArray)) (w : World) (hn : rs.length ≤ 65536) (hr : ∀ r ∈ rs, r.length ≤ 65536) (hm : w.heap[bm]? = some (.map (mapOf xs) c))
    (h : Sl2 .string w a rs) :
    Calls Try.prog 16 #[.map (some bm), .slice a rs.length cap] w fun e w' =>
      e = .returned (.slice (some ⟨w.heap.size, 0, none⟩) rs.length rs.length) ∧ Rows2 (.int .i64) w' w.heap.size rs.length (tgOf xs rs) rs.length ∧ Below w.heap.size w w' ∧ w.heap.size < w'.heap.size := by
  have hbm : bm < w.heap.size := (Array.getElem?_eq_some_iff.1 hm).1
  have hmk := run_make_row' (P := Try.prog) 36 42 (.slice none 0 0) 24 Try.underlying36 info42 rfl .i64 .i64 rs.length (by omega) (by omega)
  obtain ⟨n, hN⟩ : ∃ n, rs.length = n := ⟨_, rfl⟩
  obtain ⟨B, hB⟩ : ∃ B, w.heap.size = B := ⟨_, rfl⟩
  have HN := hide hN
  have HR := hide hr
  have HS := hide h
  have HM := hide hm
  rw [hN] at hn hmk ⊢
  have H0 := hide (Rows2.new (.int .i64) w (.slice none 0 0) n 42 (tgOf xs rs))
  rw [hB] at H0 hbm ⊢
  have hgr : B < (w.alloc (.cells (madeCells #[.slice none 0 0] n) 42)).heap.size := by simp [hB]
  have hbl : Below B w (w.alloc (.cells (madeCells #[.slice none 0 0] n) 42)) := (Below.refl B w).alloc (by omega) _
  clear hN h hr hm
  go_enter Try.func16, Try.ntmps16
  go_wp2
  clear hmk
  go_loopw [6] (fun i wr => ∃ k : Nat, k ≤ n ∧ i = .int .i64 k ∧ Hid (Rows2 (.int .i64) wr B n (tgOf xs rs) k) ∧ Below B w wr ∧ B < wr.heap.size) (fun i _ => n - (intOf i).toNat)
  case atStart => exact ⟨0, Nat.zero_le _, rfl, H0.out, hbl, hgr⟩
  case round =>
    clear hbl hgr H0
    obtain ⟨k, hk, rfl, HC, hb, hg⟩ := hrel
    rename World => wo
    by_cases hlt : k < n
    · have hlt' : k < rs.length := by rw [HN.out]; exact hlt
      obtain ⟨b, off, a', cap', e, hbl, hc, hs⟩ := HS.out k hlt'
      subst e
      have hlm := HR.out rs[k] (List.getElem_mem _)
      obtain ⟨r, hrk⟩ : ∃ r, rs[k] = r := ⟨_, rfl⟩
      have HRK := hide hrk
      rw [hrk] at hc hs hlm
      have hbB : b < B := by rw [← hB]; exact hbl
      have hc' := (hb.cell (p := ⟨b, off + k, none⟩) hbB).trans hc
      have hmk := run_make_row' (P := Try.prog) 42 3 (.int .i64 0) 8 Try.underlying42 info3 rfl .i64 .i64 r.length (by omega) (by omega)
      obtain ⟨m, hm⟩ : ∃ m, r.length = m := ⟨_, rfl⟩
      rw [hm] at hc' hmk hlm
      have HMM := hide hm
      have HSS := hide hs
      obtain ⟨v, hv⟩ := HC.out.some' k hlt
      have hfr := HC.out.free k hlt
      have hT : (tgOf xs rs)[k]'(by simp [tgOf]; exact hlt') = r.map (tgI xs) := by simp [tgOf, HRK.out]
      have HT := hide hT
      have hS0 : Since wo ((wo.alloc (.cells (madeCells #[.int .i64 0] m) 3)).setCell ⟨B, k, none⟩ (.slice (some ⟨wo.heap.size, 0, none⟩) m m)) B k (.slice (some ⟨wo.heap.size, 0, none⟩) m m) := by
        have ea : ∀ o, (wo.alloc (.cells (madeCells #[.int .i64 0] m) 3)).cell? ⟨B, o, none⟩ = wo.cell? ⟨B, o, none⟩ := fun o => World.cell?_alloc_past _ _ _ hg
        refine ⟨by simp [World.setCell], fun b' hb' hbB' => ?_, fun o ho => ?_, fun o => ?_, ?_⟩
        · rw [Below.heap_setCell _ _ _ _ (by simpa using hbB'), Below.heap_alloc _ _ _ hb']
        · rw [World.cell?_setCell_other _ _ _ _ (by intro e; cases e; exact ho rfl), ea]
        · rw [World.frozen?_setCell]; exact World.frozen?_alloc_past _ _ _ hg
        · exact World.cell?_setCell_same _ _ _ ((ea k).trans hv)
      have hC0 : Cells ((wo.alloc (.cells (madeCells #[.int .i64 0] m) 3)).setCell ⟨B, k, none⟩ (.slice (some ⟨wo.heap.size, 0, none⟩) m m)) wo.heap.size (((r.map (tgI xs)).map (Value.int .i64)).take 0 ++ List.replicate (m - 0) (.int .i64 0)) := by
        have c := Cells.new wo (madeCells #[.int .i64 0] m) 3
        rw [made_one] at c
        exact Cells.far (by simpa using c) (by simp; omega) _
      have hBl0 : Below B w ((wo.alloc (.cells (madeCells #[.int .i64 0] m) 3)).setCell ⟨B, k, none⟩ (.slice (some ⟨wo.heap.size, 0, none⟩) m m)) :=
        (hb.alloc (by omega) _).setCell (p := ⟨B, k, none⟩) (Nat.le_refl _) _
      have hZ0 : wo.heap.size < ((wo.alloc (.cells (madeCells #[.int .i64 0] m) 3)).setCell ⟨B, k, none⟩ (.slice (some ⟨wo.heap.size, 0, none⟩) m m)).heap.size := by simp [World.setCell]
      rw [World.setCell_alloc_past _ _ _ _ hg] at hS0 hC0 hBl0 hZ0
      have I0 := hide (And.intro hS0 (And.intro hC0 (And.intro hBl0 hZ0)))
      clear hS0 hC0 hBl0 hZ0 hc hs hm hT hrk hbl
      go_wp2
      clear hmk
      go_loopw [7] (fun i w2 => ∃ q : Nat, q ≤ m ∧ i = .int .i64 q ∧ Hid (Since wo w2 B k (.slice (some ⟨wo.heap.size, 0, none⟩) m m) ∧ Cells w2 wo.heap.size (((r.map (tgI xs)).map (Value.int .i64)).take q ++ List.replicate (m - q) (.int .i64 0)) ∧ Below B w w2 ∧ wo.heap.size < w2.heap.size)) (fun i _ => m - (intOf i).toNat)
      case atStart => exact ⟨0, Nat.zero_le _, rfl, I0.out⟩
      case round =>
        clear I0
        obtain ⟨q, hq, rfl, HI⟩ := hrel
        obtain ⟨hSi, hCe, hBe, hZe⟩ := HI.out
        rename World => w2
        have e1 := (hBe.cell (p := ⟨b, off + k, none⟩) hbB).trans ((hb.cell (p := ⟨b, off + k, none⟩) hbB).symm.trans hc')
        by_cases hql : q < m
        · have hql' : q < r.length := by rw [HMM.out]; exact hql
          obtain ⟨b3, off3, e3, hb3, hc3⟩ := HSS.out q (by simpa using hql')
          subst e3
          have e4 : w2.cell? ⟨b3, off3 + q, none⟩ = some (.string r[q]) := by
            rw [hBe.cell (p := ⟨b3, off3 + q, none⟩) (by rw [← hB]; exact hb3), hc3]; simp
          obtain ⟨s, hs⟩ : ∃ s, r[q] = s := ⟨_, rfl⟩
          rw [hs] at e4
          have hmp : w2.heap[bm]? = some (.map (mapOf xs) c) := (hBe.block bm hbm).trans HM.out
          have hlk := run_lookup_at (P := Try.prog) (w := w2) (s := s) Try.underlying28 Try.underlying9 zero3 hmp
          have e5 := hSi.here
          have hlen : ((r.map (tgI xs)).map (Value.int .i64)).length = m := by simp [HMM.out]
          have e6 := hCe.get (take_at (z := .int .i64 0) hlen hql)
          have e7 := hCe.free q (by simp [HMM.out]; omega)
          have R := hide (And.intro (hSi.set (p := ⟨wo.heap.size, q, none⟩) (Nat.le_refl _) hg (.int .i64 (tgI xs s))) (And.intro (hCe.set q (.int .i64 (tgI xs s))) (And.intro (hBe.setCell (p := ⟨wo.heap.size, q, none⟩) (Nat.le_of_lt hg) (.int .i64 (tgI xs s))) hZe)))
          have E1 : Hid ((((r.map (tgI xs)).map (Value.int .i64)).take q ++ List.replicate (m - q) (Value.int .i64 0)).set q (Value.int .i64 (tgI xs s)) = ((r.map (tgI xs)).map (Value.int .i64)).take (q + 1) ++ List.replicate (m - (q + 1)) (Value.int .i64 0)) := by
            have t := take_set (z := .int .i64 0) hlen hql
            rw [← hs]
            exact hide (by simpa using t)
          have fin : ∀ v, v = tgI xs s → Hid (Since wo (w2.setCell ⟨wo.heap.size, q, none⟩ (.int .i64 v)) B k (.slice (some ⟨wo.heap.size, 0, none⟩) m m) ∧ Cells (w2.setCell ⟨wo.heap.size, q, none⟩ (.int .i64 v)) wo.heap.size (((r.map (tgI xs)).map (Value.int .i64)).take (q + 1) ++ List.replicate (m - (q + 1)) (.int .i64 0)) ∧
              Below B w (w2.setCell ⟨wo.heap.size, q, none⟩ (.int .i64 v)) ∧ wo.heap.size < (w2.setCell ⟨wo.heap.size, q, none⟩ (.int .i64 v)).heap.size) := by
            rintro v rfl
            obtain ⟨r1, r2, r3, r4⟩ := R.out
            rw [E1.out] at r2
            exact hide ⟨r1, r2, r3, by simpa [World.setCell] using r4⟩
          have FIN := hide fin
          clear fin R E1 hlen hSi hCe hBe HI hc3 hmp hs
          cases hp : place xs s with
          | none =>
            have HT2 : Hid (tgI xs s = -1) := by unfold Hid; simp [tgI, hp]
            rw [hp] at hlk
            simp only [Option.getD_none, Option.isSome_none] at hlk
            clear hp
            go_wp2
            go_roundw
            case rel => exact ⟨q + 1, by omega, by go_num, FIN.out _ HT2.out.symm⟩
            case measure => simp [intOf]; omega
          | some j =>
            have HT2 : Hid (tgI xs s = (j : Int)) := by unfold Hid; simp [tgI, hp]
            rw [hp] at hlk
            simp only [Option.getD_some, Option.isSome_some] at hlk
            clear hp
            go_wp2
            go_roundw
            case rel => exact ⟨q + 1, by omega, by go_num, FIN.out _ HT2.out.symm⟩
            case measure => simp [intOf]; omega
        · obtain rfl : q = m := by omega
          have hfin : Rows2 (.int .i64) w2 B n (tgOf xs rs) (k + 1) := by
            refine Rows2.since HC.out (by simp [tgOf]; exact hlt') (B2 := wo.heap.size) (by omega) hZe (by rw [HT.out]; simp [HMM.out]) hSi ?_
            rw [HT.out]
            have t : ((r.map (tgI xs)).map (Value.int .i64)).take q ++ List.replicate (q - q) (Value.int .i64 0) = (r.map (tgI xs)).map (Value.int .i64) := by
              rw [List.take_of_length_le (by simp [HMM.out])]; simp
            rw [t] at hCe; exact hCe
          have HF := hide hfin
          clear hfin hSi hCe HI
          go_wp2
          go_roundw
          case rel => exact ⟨k + 1, by omega, by go_num, HF.out, hBe, by omega⟩
          case measure => simp [intOf]; omega
    · obtain rfl : k = n := by omega
      go_wp2
      go_ret
      exact ⟨rfl, HC.out, hb, hg⟩
end Go.Proofs.Qxb6603821a.W
