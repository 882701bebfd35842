/-
  What closeCycle looks for, and what its mark does to memory.
-/
import Derived.Test.Qxb6603821aReach
import Derived.Test.Qxb6603821aOrd0
namespace Go.Proofs.Qxb6603821a.W
open Go.RowKit B
set_option linter.unusedVariables false

/-- Key 'k' of table 'i' closes a cycle. -/
def hitB (xs : List ByteArray) (rs : List (List ByteArray)) (lead : St → Nat → Nat → Bool) (S : St) (i k : Nat) : Bool := decide (0 ≤ wfI xs rs S i k) && lead S (wfI xs rs S i k).toNat i
def rowHit (xs : List ByteArray) (rs : List (List ByteArray)) (lead : St → Nat → Nat → Bool) (S : St) (i : Nat) : Option (Nat × Nat) := ((List.range (deg rs i)).find? (hitB xs rs lead S i)).map fun k => (i, k)
def findOf (xs : List ByteArray) (rs : List (List ByteArray)) (lead : St → Nat → Nat → Bool) (S : St) : Option (Nat × Nat) := (List.range xs.length).findSome? (rowHit xs rs lead S)

theorem findSome_range {f : Nat → Option (Nat × Nat)} {i n : Nat} {b : Nat × Nat} (hi : i < n) (hf : f i = some b) (hno : ∀ j, j < i → f j = none) : (List.range n).findSome? f = some b := by
  induction n with
  | zero => omega
  | succ n ih =>
    rw [List.range_succ, List.findSome?_append]
    by_cases e : i < n
    · rw [ih e]; rfl
    · obtain rfl : i = n := by omega
      have : (List.range i).findSome? f = none := by
        rw [List.findSome?_eq_none_iff]; intro j hj; exact hno j (by simpa using hj)
      rw [this]
      simp [hf]

theorem row_none {xs : List ByteArray} {rs : List (List ByteArray)} {lead : St → Nat → Nat → Bool} {S : St} {i : Nat} (h : ∀ k, k < deg rs i → hitB xs rs lead S i k = false) : rowHit xs rs lead S i = none := by
  unfold rowHit
  have : (List.range (deg rs i)).find? (hitB xs rs lead S i) = none := by
    rw [List.find?_eq_none]; intro k hk; rw [h k (by simpa using hk)]; simp
  rw [this]; rfl

theorem row_some {xs : List ByteArray} {rs : List (List ByteArray)} {lead : St → Nat → Nat → Bool} {S : St} {i k : Nat} (hk : k < deg rs i) (h : hitB xs rs lead S i k = true) (hno : ∀ q, q < k → hitB xs rs lead S i q = false) : rowHit xs rs lead S i = some (i, k) := by
  unfold rowHit
  have : (List.range (deg rs i)).find? (hitB xs rs lead S i) = some k := by
    rw [List.find?_eq_some_iff_getElem]
    refine ⟨h, k, by simpa using hk, by simp, fun q hq => ?_⟩
    simp [hno q hq]
  rw [this]; rfl

theorem find_some {xs : List ByteArray} {rs : List (List ByteArray)} {lead : St → Nat → Nat → Bool} {S : St} {i k : Nat} (hi : i < xs.length) (hk : k < deg rs i) (h : hitB xs rs lead S i k = true) (hno : ∀ q, q < k → hitB xs rs lead S i q = false)
    (hrow : ∀ j, j < i → ∀ q, q < deg rs j → hitB xs rs lead S j q = false) : findOf xs rs lead S = some (i, k) :=
  findSome_range hi (row_some hk h hno) fun j hj => row_none (hrow j hj)

theorem find_none {xs : List ByteArray} {rs : List (List ByteArray)} {lead : St → Nat → Nat → Bool} {S : St} (hrow : ∀ j, j < xs.length → ∀ q, q < deg rs j → hitB xs rs lead S j q = false) : findOf xs rs lead S = none := by
  unfold findOf
  rw [List.findSome?_eq_none_iff]
  intro j hj
  exact row_none (hrow j (by simpa using hj))

theorem find_ok {xs : List ByteArray} {rs : List (List ByteArray)} {lead : St → Nat → Nat → Bool} {S : St} {i k : Nat} (h : findOf xs rs lead S = some (i, k)) : i < xs.length ∧ k < deg rs i ∧ hitB xs rs lead S i k = true := by
  unfold findOf at h
  obtain ⟨j, hj, hr⟩ := List.exists_of_findSome?_eq_some h
  unfold rowHit at hr
  cases hf : (List.range (deg rs j)).find? (hitB xs rs lead S j) with
  | none => rw [hf] at hr; cases hr
  | some q =>
    rw [hf] at hr
    simp only [Option.map_some, Option.some.injEq, Prod.mk.injEq] at hr
    obtain ⟨rfl, rfl⟩ := hr
    refine ⟨by simpa using hj, by simpa using List.mem_of_find?_eq_some hf, List.find?_some hf⟩

/-- A row of marks that stands: one more mark. -/
theorem Gr.markOld {xs : List ByteArray} {rs : List (List ByteArray)} {L : Lay} {w : World} {S : St} (h : Gr xs rs L w S) {i k : Nat} {bs : List Bool} (hc : S.cl[i]? = some (some bs)) : Gr xs rs L (w.setCell ⟨L.cb i, k, none⟩ (.bool true)) (markS rs S i k) := by
  have hic : i < S.cl.length := (List.getElem?_eq_some_iff.1 hc).1
  have hlo := h.lcb i bs hc
  have e : ∀ b o, b < L.lim → (w.setCell ⟨L.cb i, k, none⟩ (.bool true)).cell? ⟨b, o, none⟩ = w.cell? ⟨b, o, none⟩ := fun b o hb => World.cell?_setCell_other w _ _ _ (by intro e; cases e; omega)
  have f : ∀ b o, (w.setCell ⟨L.cb i, k, none⟩ (.bool true)).frozen? ⟨b, o, none⟩ = w.frozen? ⟨b, o, none⟩ := fun b o => World.frozen?_setCell ..
  have hrow : rowOf rs S i = bs := by simp [rowOf, List.getD_eq_getElem?_getD, hc]
  have hcl : (markS rs S i k).cl = S.cl.set i (some (bs.set k true)) := by simp [markS, hrow]
  have hold : ∀ j cs, (markS rs S i k).cl[j]? = some (some cs) → (j = i ∧ cs = bs.set k true) ∨ (j ≠ i ∧ S.cl[j]? = some (some cs)) := fun j cs hj => by
    rw [hcl, List.getElem?_set] at hj
    by_cases e : i = j
    · subst e; left; simp [hic] at hj; exact ⟨rfl, hj.symm⟩
    · right; rw [if_neg e] at hj; exact ⟨Ne.symm e, hj⟩
  have hex : ∀ j cs, (markS rs S i k).cl[j]? = some (some cs) → ∃ ds, S.cl[j]? = some (some ds) := fun j cs hj => by
    rcases hold j cs hj with ⟨rfl, _⟩ | ⟨_, h1⟩
    · exact ⟨bs, hc⟩
    · exact ⟨cs, h1⟩
  exact { h with
    ncl := by simp [markS, h.ncl]
    g0 := by rw [e _ _ h.lbg]; exact h.g0
    g1 := by rw [e _ _ h.lbg]; exact h.g1
    g2 := by rw [e _ _ h.lbg]; exact h.g2
    t := fun j hj => by rw [e _ _ h.lbt]; exact h.t j hj
    c := fun j hj => by
      have hj' : j < S.cl.length := by simpa [markS] using hj
      rw [e _ _ h.lbt, h.c j hj']
      simp only [hcl, List.getElem_set]
      by_cases e' : i = j
      · subst e'
        have : S.cl[i] = some bs := by have := List.getElem?_eq_getElem hj'; rw [hc] at this; exact (Option.some.inj this).symm
        rw [this]; simp [clV]
      · rw [if_neg e']
    cf := fun j hj => by rw [f]; exact h.cf j hj
    nm := fun j hj => by rw [e _ _ (h.ltb j hj)]; exact h.nm j hj
    fk := fun j hj => by rw [e _ _ (h.ltb j (by rw [← h.same]; exact hj))]; exact h.fk j hj
    rf := fun j hj q hq => by rw [e _ _ (h.lfb j (by rw [← h.same]; exact hj))]; exact h.rf j hj q hq
    cells := fun j cs hj => by
      rcases hold j cs hj with ⟨rfl, rfl⟩ | ⟨h1, h2⟩
      · rw [List.map_set]; exact (h.cells _ _ hc).set k _
      · exact (h.cells j cs h2).far (p := ⟨L.cb i, k, none⟩) (h.inj i j bs cs hc h2 (Ne.symm h1)) _
    clen := fun j hj cs hcs => by
      rcases hold j cs hcs with ⟨rfl, rfl⟩ | ⟨h1, h2⟩
      · rw [List.length_set]; exact h.clen _ hj bs hc
      · exact h.clen j hj cs h2
    crc := ⟨fun j hj => (e _ _ h.lbc).trans (h.crc.at' j hj), fun j hj => (f _ _).trans (h.crc.free j hj)⟩
    map := by rw [Below.heap_setCell _ _ _ _ (by have := h.lbm; show L.bm ≠ L.cb i; omega)]; exact h.map
    lim := by simpa [World.setCell] using h.lim
    lcb := fun j cs hj => by
      obtain ⟨ds, hd⟩ := hex j cs hj
      exact ⟨(h.lcb j ds hd).1, by simpa [World.setCell] using (h.lcb j ds hd).2⟩
    inj := fun a b cs ds ha hb hne => by
      obtain ⟨cs', hc'⟩ := hex a cs ha
      obtain ⟨ds', hd'⟩ := hex b ds hb
      exact h.inj a b cs' ds' hc' hd' hne }

/-- A fresh row of marks, none set. -/
def openS (rs : List (List ByteArray)) (S : St) (i : Nat) : St := { S with cl := S.cl.set i (some (List.replicate (deg rs i) false)) }

theorem open_mark {rs : List (List ByteArray)} {S : St} {i k : Nat} (hi : i < S.cl.length) (hc : S.cl[i]? = some none) : markS rs (openS rs S i) i k = markS rs S i k := by
  have h1 : rowOf rs S i = List.replicate (deg rs i) false := by simp [rowOf, List.getD_eq_getElem?_getD, hc]
  have h2 : rowOf rs (openS rs S i) i = List.replicate (deg rs i) false := by simp [rowOf, openS, List.getD_eq_getElem?_getD, hi]
  simp only [markS, h1, h2]
  simp only [openS, List.set_set]

theorem Gr.opened {xs : List ByteArray} {rs : List (List ByteArray)} {L : Lay} {w : World} {S : St} (h : Gr xs rs L w S) {i : Nat} (hc : S.cl[i]? = some none) (t : TypeId) :
    Gr xs rs { L with cb := fun j => if j = i then w.heap.size else L.cb j } ((w.alloc (.cells (madeCells #[.bool false] (deg rs i)) t)).setCell ⟨L.bt, i * 2 + 1, none⟩ (.slice (some ⟨w.heap.size, 0, none⟩) (deg rs i) (deg rs i))) (openS rs S i) := by
  have hic : i < S.cl.length := (List.getElem?_eq_some_iff.1 hc).1
  have hlim := h.lim
  have hbt := h.lbt
  have hin : i < xs.length := by rw [← h.ncl]; exact hic
  have h0 := h.below (w' := w.alloc (.cells (madeCells #[.bool false] (deg rs i)) t)) ((Below.refl _ _).alloc (Nat.le_refl _) _)
  have cn := Cells.new w (madeCells #[.bool false] (deg rs i)) t
  rw [made_one] at cn
  have cn' := cn.far (p := ⟨L.bt, i * 2 + 1, none⟩) (by show L.bt ≠ _; omega) (.slice (some ⟨w.heap.size, 0, none⟩) (deg rs i) (deg rs i))
  generalize hw : w.alloc (.cells (madeCells #[.bool false] (deg rs i)) t) = w1 at *
  have hz1 : w1.heap.size = w.heap.size + 1 := by rw [← hw]; simp
  have ex : ∀ b o, (b ≠ L.bt ∨ o ≠ i * 2 + 1) → (w1.setCell ⟨L.bt, i * 2 + 1, none⟩ (.slice (some ⟨w.heap.size, 0, none⟩) (deg rs i) (deg rs i))).cell? ⟨b, o, none⟩ = w1.cell? ⟨b, o, none⟩ := fun b o hb => World.cell?_setCell_other w1 _ _ _ (by intro e; cases e; rcases hb with hb | hb <;> exact hb rfl)
  have f : ∀ b o, (w1.setCell ⟨L.bt, i * 2 + 1, none⟩ (.slice (some ⟨w.heap.size, 0, none⟩) (deg rs i) (deg rs i))).frozen? ⟨b, o, none⟩ = w1.frozen? ⟨b, o, none⟩ := fun b o => World.frozen?_setCell ..
  have hold : ∀ j cs, (openS rs S i).cl[j]? = some (some cs) → (j = i ∧ cs = List.replicate (deg rs i) false) ∨ (j ≠ i ∧ S.cl[j]? = some (some cs)) := fun j cs hj => by
    simp only [openS, List.getElem?_set] at hj
    by_cases e : i = j
    · subst e; left; simp [hic] at hj; exact ⟨rfl, hj.symm⟩
    · right; rw [if_neg e] at hj; exact ⟨Ne.symm e, hj⟩
  exact { h0 with
    ncl := by simp [openS, h.ncl]
    g0 := by rw [ex _ _ (.inl h.tg.symm)]; exact h0.g0
    g1 := by rw [ex _ _ (.inl h.tg.symm)]; exact h0.g1
    g2 := by rw [ex _ _ (.inl h.tg.symm)]; exact h0.g2
    t := fun j hj => by rw [ex _ _ (.inr (by omega))]; exact h0.t j hj
    c := fun j hj => by
      have hj' : j < S.cl.length := by simpa [openS] using hj
      simp only [openS, List.getElem_set]
      by_cases e' : i = j
      · subst e'
        simp only [if_true, clV, List.length_replicate]
        have := h0.c i hj'
        exact World.cell?_setCell_same w1 ⟨L.bt, i * 2 + 1, none⟩ _ this
      · rw [if_neg e', ex _ _ (.inr (by omega)), h0.c j hj']
        cases S.cl[j] with
        | none => rfl
        | some cs => simp [clV, Ne.symm e']
    cf := fun j hj => by rw [f]; exact h0.cf j hj
    nm := fun j hj => by rw [ex _ _ (.inl (h.tbt j hj).1)]; exact h0.nm j hj
    fk := fun j hj => by rw [ex _ _ (.inl (h.tbt j (by rw [← h.same]; exact hj)).1)]; exact h0.fk j hj
    rf := fun j hj q hq => by rw [ex _ _ (.inl (h.fbt j (by rw [← h.same]; exact hj)).1)]; exact h0.rf j hj q hq
    cells := fun j cs hj => by
      rcases hold j cs hj with ⟨rfl, rfl⟩ | ⟨h1, h2⟩
      · simp only [if_true, List.map_replicate]; exact cn'
      · simp only [if_neg h1]
        exact (h0.cells j cs h2).far (p := ⟨L.bt, i * 2 + 1, none⟩) (by have := (h.lcb j cs h2).1; show L.bt ≠ L.cb j; omega) _
    clen := fun j hj cs hcs => by
      rcases hold j cs hcs with ⟨rfl, rfl⟩ | ⟨h1, h2⟩
      · simp [deg, hj]
      · exact h.clen j hj cs h2
    crc := ⟨fun j hj => (ex _ _ (.inl h.tc.symm)).trans (h0.crc.at' j hj), fun j hj => (f _ _).trans (h0.crc.free j hj)⟩
    map := by rw [Below.heap_setCell _ _ _ _ (by show L.bm ≠ L.bt; exact h.tm.symm)]; exact h0.map
    lim := by simpa [World.setCell] using h0.lim
    lcb := fun j cs hj => by
      rcases hold j cs hj with ⟨rfl, rfl⟩ | ⟨h1, h2⟩
      · simp only [if_true]; exact ⟨hlim, by simp [World.setCell, hz1]⟩
      · simp only [if_neg h1]; exact ⟨(h.lcb j cs h2).1, by simpa [World.setCell] using (h0.lcb j cs h2).2⟩
    inj := fun a b cs ds ha hb hne => by
      rcases hold a cs ha with ⟨rfl, rfl⟩ | ⟨h1, h2⟩
      · rcases hold b ds hb with ⟨rfl, rfl⟩ | ⟨h3, h4⟩
        · exact absurd rfl hne
        · simp only [if_true, if_neg h3]; have := (h.lcb b ds h4).2; omega
      · rcases hold b ds hb with ⟨rfl, rfl⟩ | ⟨h3, h4⟩
        · simp only [if_true, if_neg h1]; have := (h.lcb a cs h2).2; omega
        · simp only [if_neg h1, if_neg h3]; exact h.inj a b cs ds h2 h4 hne }
end Go.Proofs.Qxb6603821a.W
