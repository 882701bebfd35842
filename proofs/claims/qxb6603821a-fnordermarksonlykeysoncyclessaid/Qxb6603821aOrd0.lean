/-
  What order's round does to memory.
-/
import Derived.Test.Qxb6603821aPure
import Derived.Laws.IdiomCopy
import Derived.ArgAppend
namespace Go.Proofs.Qxb6603821a.W
open Go.RowKit B
set_option linter.unusedVariables false

/-- The state stands where its blocks stand. -/
theorem Gr.agree {xs : List ByteArray} {rs : List (List ByteArray)} {L : Lay} {w w' : World} {S : St} (h : Gr xs rs L w S) (hz : w.heap.size ≤ w'.heap.size) (he : ∀ b, b < L.lim → w'.heap[b]? = w.heap[b]?)
    (hcb : ∀ i bs, S.cl[i]? = some (some bs) → w'.heap[L.cb i]? = w.heap[L.cb i]?) : Gr xs rs L w' S := by
  have e : ∀ b o, b < L.lim → w'.cell? ⟨b, o, none⟩ = w.cell? ⟨b, o, none⟩ := fun b o hb' => World.cell?_of_block (w := w) (he b hb')
  have f : ∀ b o, b < L.lim → w'.frozen? ⟨b, o, none⟩ = w.frozen? ⟨b, o, none⟩ := fun b o hb' => World.frozen?_of_block (w := w) (he b hb')
  exact { h with
    g0 := by rw [e _ _ h.lbg]; exact h.g0
    g1 := by rw [e _ _ h.lbg]; exact h.g1
    g2 := by rw [e _ _ h.lbg]; exact h.g2
    t := fun i hi => by rw [e _ _ h.lbt]; exact h.t i hi
    c := fun i hi => by rw [e _ _ h.lbt]; exact h.c i hi
    cf := fun i hi => by rw [f _ _ h.lbt]; exact h.cf i hi
    nm := fun i hi => by rw [e _ _ (h.ltb i hi)]; exact h.nm i hi
    fk := fun i hi => by rw [e _ _ (h.ltb i (by rw [← h.same]; exact hi))]; exact h.fk i hi
    rf := fun i hi k hk => by rw [e _ _ (h.lfb i (by rw [← h.same]; exact hi))]; exact h.rf i hi k hk
    cells := fun i bs hbs => ⟨fun j hj => (World.cell?_of_block (w := w) (hcb i bs hbs)).trans ((h.cells i bs hbs).at' j hj), fun j hj => (World.frozen?_of_block (w := w) (hcb i bs hbs)).trans ((h.cells i bs hbs).free j hj)⟩
    crc := ⟨fun j hj => (e _ _ h.lbc).trans (h.crc.at' j hj), fun j hj => (f _ _ h.lbc).trans (h.crc.free j hj)⟩
    map := (he _ h.lbm).trans h.map
    lim := Nat.le_trans h.lim hz
    lcb := fun i bs hbs => ⟨(h.lcb i bs hbs).1, Nat.lt_of_lt_of_le (h.lcb i bs hbs).2 hz⟩ }

theorem Gr.placed {xs : List ByteArray} {rs : List (List ByteArray)} {L : Lay} {w : World} {S : St} (h : Gr xs rs L w S) (i : Nat) : Gr xs rs L (w.setCell ⟨L.bc, i, none⟩ (.bool true)) (placeS S i) := by
  have e : ∀ b o, b ≠ L.bc → (w.setCell ⟨L.bc, i, none⟩ (.bool true)).cell? ⟨b, o, none⟩ = w.cell? ⟨b, o, none⟩ := fun b o hb => World.cell?_setCell_other w _ _ _ (by intro e; cases e; exact hb rfl)
  have f : ∀ b o, (w.setCell ⟨L.bc, i, none⟩ (.bool true)).frozen? ⟨b, o, none⟩ = w.frozen? ⟨b, o, none⟩ := fun b o => World.frozen?_setCell ..
  have hcs : (placeS S i).cr.map Value.bool = (S.cr.map Value.bool).set i (.bool true) := by simp [placeS, List.map_set]
  exact { h with
    ncr := by simp [placeS, h.ncr]
    g0 := by rw [e _ _ h.cg.symm]; exact h.g0
    g1 := by rw [e _ _ h.cg.symm]; exact h.g1
    g2 := by rw [e _ _ h.cg.symm]; exact h.g2
    t := fun j hj => by rw [e _ _ h.tc]; exact h.t j hj
    c := fun j hj => by rw [e _ _ h.tc]; exact h.c j hj
    cf := fun j hj => by rw [f]; exact h.cf j hj
    nm := fun j hj => by rw [e _ _ (h.tbt j hj).2]; exact h.nm j hj
    fk := fun j hj => by rw [e _ _ (h.tbt j (by rw [← h.same]; exact hj)).2]; exact h.fk j hj
    rf := fun j hj k hk => by rw [e _ _ (h.fbt j (by rw [← h.same]; exact hj)).2]; exact h.rf j hj k hk
    cells := fun j bs hbs => (h.cells j bs hbs).far (by have := (h.lcb j bs hbs).1; have := h.lbc; show L.bc ≠ _; omega) _
    crc := by rw [hcs]; exact h.crc.set i _
    map := by rw [Below.heap_setCell _ _ _ _ (by exact h.cm.symm)]; exact h.map
    lim := by simpa [World.setCell] using h.lim
    lcb := fun j bs hbs => ⟨(h.lcb j bs hbs).1, by simpa [World.setCell] using (h.lcb j bs hbs).2⟩ }

/-- The row of what is ordered: 'out' so far, room for 'n'. -/
structure ORow (w : World) (L : Lay) (S : St) (bo n : Nat) (out : List Nat) : Prop where
  here : ∀ p (h : p < out.length), w.cell? ⟨bo, p * 2, none⟩ = some (.pointer (some ⟨L.tb out[p], 0, none⟩)) ∧ w.cell? ⟨bo, p * 2 + 1, none⟩ = some (clV L out[p] (S.cl.getD out[p] none))
  some' : ∀ o, o < n * 2 → (w.cell? ⟨bo, o, none⟩).isSome = true
  free : ∀ o, o < n * 2 → w.frozen? ⟨bo, o, none⟩ = false
  lt : bo < w.heap.size
  lo : L.lim ≤ bo
  ne : ∀ i bs, S.cl[i]? = some (some bs) → bo ≠ L.cb i

theorem ORow.agree {w w' : World} {L : Lay} {S : St} {bo n : Nat} {out : List Nat} (h : ORow w L S bo n out) (hz : w.heap.size ≤ w'.heap.size) (he : w'.heap[bo]? = w.heap[bo]?) : ORow w' L S bo n out := by
  have e : ∀ o, w'.cell? ⟨bo, o, none⟩ = w.cell? ⟨bo, o, none⟩ := fun o => World.cell?_of_block (w := w) he
  have f : ∀ o, w'.frozen? ⟨bo, o, none⟩ = w.frozen? ⟨bo, o, none⟩ := fun o => World.frozen?_of_block (w := w) he
  exact ⟨fun p hp => by rw [e, e]; exact h.here p hp, fun o ho => by rw [e]; exact h.some' o ho, fun o ho => by rw [f]; exact h.free o ho, Nat.lt_of_lt_of_le h.lt hz, h.lo, h.ne⟩

theorem ORow.push {w : World} {L : Lay} {S : St} {bo n : Nat} {out : List Nat} (h : ORow w L S bo n out) (i : Nat) (hn : out.length < n) :
    ORow (w.setCells bo (out.length * 2) [.pointer (some ⟨L.tb i, 0, none⟩), clV L i (S.cl.getD i none)]) L S bo n (out ++ [i]) := by
  have hin := World.cell?_setCells_in bo [.pointer (some ⟨L.tb i, 0, none⟩), clV L i (S.cl.getD i none)] (out.length * 2) w (fun j hj => h.some' _ (by simp at hj; omega))
  have hout := fun o (ho : o < out.length * 2 ∨ out.length * 2 + 2 ≤ o) => World.cell?_setCells_out bo [.pointer (some ⟨L.tb i, 0, none⟩), clV L i (S.cl.getD i none)] (out.length * 2) w ⟨bo, o, none⟩ (fun _ _ => ho)
  have hsz : (w.setCells bo (out.length * 2) [.pointer (some ⟨L.tb i, 0, none⟩), clV L i (S.cl.getD i none)]).heap.size = w.heap.size := by simp [World.setCells, World.setCell]
  refine ⟨fun p hp => ?_, fun o ho => ?_, fun o ho => by rw [World.frozen?_setCells]; exact h.free o ho, by rw [hsz]; exact h.lt, h.lo, h.ne⟩
  · by_cases e : p = out.length
    · subst e
      have h0 := hin 0 (by simp)
      have h1 := hin 1 (by simp)
      simp at h0 h1
      simpa using ⟨h0, h1⟩
    · have hp' : p < out.length := by simp at hp; omega
      rw [hout _ (by omega), hout _ (by omega)]
      have := h.here p hp'
      simpa [List.getElem_append_left hp'] using this
  · by_cases e : out.length * 2 ≤ o ∧ o < out.length * 2 + 2
    · obtain ⟨j, rfl⟩ : ∃ j, o = out.length * 2 + j := ⟨o - out.length * 2, by omega⟩
      rw [hin j (by simp; omega)]; rfl
    · rw [hout _ (by omega)]; exact h.some' o ho

/-- The marks of what is placed stand while another's are turned. -/
theorem ORow.turn {w : World} {L L' : Lay} {S S' : St} {bo n : Nat} {out : List Nat} (h : ORow w L S bo n out) (htb : L'.tb = L.tb) (hl : L'.lim = L.lim) (hcl : ∀ p, p ∈ out → S'.cl.getD p none = S.cl.getD p none ∧ L'.cb p = L.cb p)
    (hne : ∀ i bs, S'.cl[i]? = some (some bs) → bo ≠ L'.cb i) : ORow w L' S' bo n out := by
  refine ⟨fun p hp => ?_, h.some', h.free, h.lt, by rw [hl]; exact h.lo, hne⟩
  obtain ⟨h1, h2⟩ := h.here p hp
  obtain ⟨h3, h4⟩ := hcl out[p] (List.getElem_mem hp)
  rw [htb, h3]
  refine ⟨h1, ?_⟩
  rw [h2]
  cases S.cl.getD out[p] none with
  | none => rfl
  | some bs => simp [clV, h4]

theorem heap_setCells (b : Nat) {k : Nat} (hk : k ≠ b) : ∀ (vs : List Value) (o : Nat) (w : World), (w.setCells b o vs).heap[k]? = w.heap[k]?
  | [], _, _ => rfl
  | v :: vs, o, w => by
    show ((w.setCell ⟨b, o, none⟩ v).setCells b (o + 1) vs).heap[k]? = _
    rw [heap_setCells b hk vs, Below.heap_setCell _ _ _ _ (by exact hk)]
theorem size_setCells (b : Nat) : ∀ (vs : List Value) (o : Nat) (w : World), (w.setCells b o vs).heap.size = w.heap.size
  | [], _, _ => rfl
  | v :: vs, o, w => by
    show ((w.setCell ⟨b, o, none⟩ v).setCells b (o + 1) vs).heap.size = _
    rw [size_setCells b vs (o + 1)]; simp [World.setCell]
theorem below_setCells {B : Nat} {a : World} (b : Nat) (hB : B ≤ b) : ∀ (vs : List Value) (o : Nat) (w : World), Below B a w → Below B a (w.setCells b o vs)
  | [], _, _, h => h
  | v :: vs, o, w, h => below_setCells b hB vs (o + 1) _ (h.setCell (p := ⟨b, o, none⟩) hB v)

theorem info61 : (Try.prog.info? 61).map (fun i => (i.zero, i.size, i.bytes)) = some (some (.agg #[.pointer none, .slice none 0 0]), 2, 32) := by kernel_rfl

/-- 'append(ordered, c)', with room: the one-element block lies at 'bn'. -/
theorem append61 {w : World} {bo bn k n ty : Nat} {v0 v1 : Value} (h0 : w.cell? ⟨bn, 0, none⟩ = some v0) (h1 : w.cell? ⟨bn, 1, none⟩ = some v1) (c0 : v0.oneCell' = true) (c1 : v1.oneCell' = true) (hk : k < n)
    (hs : ∀ o, o < n * 2 → (w.cell? ⟨bo, o, none⟩).isSome = true) (hf : ∀ o, o < n * 2 → w.frozen? ⟨bo, o, none⟩ = false) :
    (Builtin.append_ #[52, 52] ty #[.slice (some ⟨bo, 0, none⟩) k n, .slice (some ⟨bn, 0, none⟩) 1 1]).run Try.prog w = .ok (.slice (some ⟨bo, 0, none⟩) (k + 1) n) (w.setCells bo (k * 2) [v0, v1]) := by
  obtain ⟨i, hi, hzz⟩ := Option.map_eq_some_iff.1 info61
  simp only [Prod.mk.injEq] at hzz
  obtain ⟨_, hsz, _⟩ := hzz
  have h := run_append_room_cells (P := Try.prog) w 52 ty 61 i Try.underlying52 hi bo 0 k n ⟨bn, 0, none⟩ 1 1 [v0, v1] (by rw [hsz]; rfl) (fun j u hj => by
      match j, hj with
      | 0, hj => simp at hj; subst hj; simpa [Addr.add] using h0
      | 1, hj => simp at hj; subst hj; simpa [Addr.add] using h1) (by intro u hu; simp at hu; rcases hu with rfl | rfl <;> assumption) (by omega)
    (fun j hj => by rw [hsz]; exact hs _ (by simp at hj; omega)) (fun j hj => by rw [hsz]; exact hf _ (by simp at hj; omega))
  rw [hsz, Nat.zero_add] at h
  exact h
end Go.Proofs.Qxb6603821a.W
