/-
  zzWaiting (28).
-/
import Derived.Test.Qxb6603821aOrd0
import Derived.Deep.LoopGhost
import Derived.Deep.DeepCutAuto
import Derived.BigRegion
import Derived.StillTailTactics
namespace Go.Proofs.Qxb6603821a.W
open Go.RowKit B
open Go.ChangeMaps (setBlock)
set_option linter.unusedVariables false

theorem info65 : (Try.prog.info? 65).map (fun i => (i.zero, i.size, i.bytes)) = some (some (.agg #[.string ⟨#[]⟩, .string ⟨#[]⟩, .string ⟨#[]⟩, .bool false]), 4, 56) := by kernel_rfl

theorem make55 (n : Nat) (hn : n ≤ 65536) (w : World) : (Instr.makeSlice 55 (.int .i64 n) (.int .i64 n)).run Try.prog w =
    .ok (.slice (some ⟨w.heap.size, 0, none⟩) n n) (w.alloc (.cells (madeCells #[.string ⟨#[]⟩, .string ⟨#[]⟩, .string ⟨#[]⟩, .bool false] (n * 4)) 65)) := by
  obtain ⟨i, hi, hzz⟩ := Option.map_eq_some_iff.1 info65
  simp only [Prod.mk.injEq] at hzz
  obtain ⟨hz, hs, hb⟩ := hzz
  have h := run_make (P := Try.prog) w 55 65 i _ Try.underlying55 hi hz .i64 .i64 n n (by omega) (by omega) (by rw [hb]; omega) (by omega)
  rw [hs] at h
  simpa [Value.cells] using h

theorem make52' (n : Nat) (hn : n ≤ 65536) (w : World) : (Instr.makeSlice 52 (.int .i64 n) (.int .i64 n)).run Try.prog w =
    .ok (.slice (some ⟨w.heap.size, 0, none⟩) n n) (w.alloc (.cells (madeCells #[.pointer none, .slice none 0 0] (n * 2)) 61)) := by
  obtain ⟨i, hi, hzz⟩ := Option.map_eq_some_iff.1 info61
  simp only [Prod.mk.injEq] at hzz
  obtain ⟨hz, hs, hb⟩ := hzz
  have h := run_make (P := Try.prog) w 52 61 i _ Try.underlying52 hi hz .i64 .i64 n n (by omega) (by omega) (by rw [hb]; omega) (by omega)
  rw [hs] at h
  simpa [Value.cells] using h

/-- The first 'k' tables are laid. -/
structure WP (xs : List ByteArray) (rs : List (List ByteArray)) (w : World) (bt bm bg bc : Nat) (tb fb : Nat → Nat) (k : Nat) (wr : World) : Prop where
  g0 : wr.cell? ⟨bg, 0, none⟩ = some (.slice (some ⟨bt, 0, none⟩) xs.length xs.length)
  g1 : wr.cell? ⟨bg, 1, none⟩ = some (.slice (some ⟨bc, 0, none⟩) xs.length xs.length)
  g2 : wr.cell? ⟨bg, 2, none⟩ = some (.map (some bm))
  t : ∀ i, i < k → wr.cell? ⟨bt, i * 2, none⟩ = some (.pointer (some ⟨tb i, 0, none⟩))
  c : ∀ i, i < k → wr.cell? ⟨bt, i * 2 + 1, none⟩ = some (.slice none 0 0)
  some' : ∀ o, o < xs.length * 2 → (wr.cell? ⟨bt, o, none⟩).isSome = true
  free : ∀ o, o < xs.length * 2 → wr.frozen? ⟨bt, o, none⟩ = false
  nm : ∀ i (h : i < xs.length), i < k → wr.cell? ⟨tb i, 0, none⟩ = some (.string xs[i])
  fk : ∀ i (h : i < rs.length), i < k → wr.cell? ⟨tb i, 2, none⟩ = some (.slice (some ⟨fb i, 0, none⟩) rs[i].length rs[i].length)
  rf : ∀ i (h : i < rs.length) q (hq : q < rs[i].length), i < k → wr.cell? ⟨fb i, q * 4 + 1, none⟩ = some (.string rs[i][q])
  map : wr.heap[bm]? = some (.map (mapOf (xs.take k)) k)
  nt : w.heap.size ≤ bt ∧ w.heap.size ≤ bm ∧ w.heap.size ≤ bg
  lt : bt < wr.heap.size ∧ bm < wr.heap.size ∧ bg < wr.heap.size
  ne : bt ≠ bm ∧ bt ≠ bg ∧ bm ≠ bg
  tbl : ∀ i, i < k → w.heap.size ≤ tb i ∧ tb i < wr.heap.size ∧ tb i ≠ bt ∧ tb i ≠ bm
  fbl : ∀ i, i < k → w.heap.size ≤ fb i ∧ fb i < wr.heap.size ∧ fb i ≠ bt ∧ fb i ≠ bm
  bel : Below w.heap.size w wr

/-- The keys of one table, the first 'q' of them laid. -/
structure FP (r : List ByteArray) (wo : World) (F q : Nat) (wr : World) : Prop where
  here : ∀ j (h : j < r.length), j < q → wr.cell? ⟨F, j * 4 + 1, none⟩ = some (.string r[j])
  some' : ∀ o, o < r.length * 4 → (wr.cell? ⟨F, o, none⟩).isSome = true
  free : ∀ o, o < r.length * 4 → wr.frozen? ⟨F, o, none⟩ = false
  bel : Below F wo wr
  lt : F < wr.heap.size

theorem FP.new (r : List ByteArray) (wo : World) (z : Array Value) (t : TypeId) : FP r wo wo.heap.size 0 (wo.alloc (.cells (madeCells z (r.length * 4)) t)) := by
  refine ⟨fun j _ h => absurd h (by omega), fun o ho => ?_, fun o ho => World.frozen?_alloc_new .., (Below.refl _ _).alloc (Nat.le_refl _) _, by simp⟩
  rw [World.cell?_alloc_new]
  simp [madeCells, ho]

theorem FP.step {r : List ByteArray} {wo : World} {F q : Nat} {wr : World} (h : FP r wo F q wr) (hq : q < r.length) : FP r wo F (q + 1) (wr.setCell ⟨F, q * 4 + 1, none⟩ (.string r[q])) := by
  obtain ⟨v, hv⟩ := Option.isSome_iff_exists.1 (h.some' (q * 4 + 1) (by omega))
  refine ⟨fun j hj hjq => ?_, fun o ho => ?_, fun o ho => by rw [World.frozen?_setCell]; exact h.free o ho, h.bel.setCell (Nat.le_refl _) _, by simpa [World.setCell] using h.lt⟩
  · by_cases e : j = q
    · subst e; exact World.cell?_setCell_same wr _ _ hv
    · rw [World.cell?_setCell_other wr _ _ _ (by intro e'; have : q * 4 + 1 = j * 4 + 1 := congrArg Addr.off e'; omega)]; exact h.here j hj (by omega)
  · by_cases e : o = q * 4 + 1
    · subst e; rw [World.cell?_setCell_same wr _ _ hv]; rfl
    · rw [World.cell?_setCell_other wr _ _ _ (by intro e'; have : q * 4 + 1 = o := congrArg Addr.off e'; omega)]; exact h.some' o ho

/-- One table more. -/
theorem WP.step {xs : List ByteArray} {rs : List (List ByteArray)} {w : World} {bt bm bg bc : Nat} {tb fb : Nat → Nat} {k : Nat} {wo : World} (h : WP xs rs w bt bm bg bc tb fb k wo) (hk : k < xs.length) (hkr : k < rs.length) {wf : World}
    (hf : FP rs[k] wo wo.heap.size rs[k].length wf) (sl1 sl3 : Value) (jn : Value) (ht : TypeId) :
    WP xs rs w bt bm bg bc (fun i => if i = k then wf.heap.size else tb i) (fun i => if i = k then wo.heap.size else fb i) (k + 1)
      (setBlock (((wf.setCell ⟨bt, k * 2, none⟩ (.pointer (some ⟨wf.heap.size, 0, none⟩))).setCell ⟨bt, k * 2 + 1, none⟩ (.slice none 0 0)).alloc (.cells #[.string xs[k], sl1, .slice (some ⟨wo.heap.size, 0, none⟩) rs[k].length rs[k].length, sl3, jn] ht)) bm (.map (mapOf (xs.take (k + 1))) (k + 1))) := by
  obtain ⟨v0, hv0⟩ := Option.isSome_iff_exists.1 (h.some' (k * 2) (by omega))
  obtain ⟨v1, hv1⟩ := Option.isSome_iff_exists.1 (h.some' (k * 2 + 1) (by omega))
  obtain ⟨hn1, hn2, hn3⟩ := h.nt
  obtain ⟨hl1, hl2, hl3⟩ := h.lt
  obtain ⟨he1, he2, he3⟩ := h.ne
  have hfl := hf.lt
  have hfb := hf.bel.size
  generalize hO : Obj.cells #[.string xs[k], sl1, .slice (some ⟨wo.heap.size, 0, none⟩) rs[k].length rs[k].length, sl3, jn] ht = O
  generalize hX : setBlock (((wf.setCell ⟨bt, k * 2, none⟩ (.pointer (some ⟨wf.heap.size, 0, none⟩))).setCell ⟨bt, k * 2 + 1, none⟩ (.slice none 0 0)).alloc O) bm (.map (mapOf (xs.take (k + 1))) (k + 1)) = X
  have hzX : X.heap.size = wf.heap.size + 1 := by rw [← hX, size_setBlock]; simp [World.setCell]
  have hY : ((wf.setCell ⟨bt, k * 2, none⟩ (.pointer (some ⟨wf.heap.size, 0, none⟩))).setCell ⟨bt, k * 2 + 1, none⟩ (.slice none 0 0)).heap.size = wf.heap.size := by simp [World.setCell]
  have hblk : ∀ b, b < wf.heap.size → b ≠ bt → b ≠ bm → X.heap[b]? = wf.heap[b]? := fun b hb h1 h2 => by
    rw [← hX]
    simp only [setBlock]
    rw [Array.getElem?_setIfInBounds_ne (by omega), Below.heap_alloc _ _ _ (by rw [hY]; exact hb), Below.heap_setCell _ _ _ _ (by exact h1), Below.heap_setCell _ _ _ _ (by exact h1)]
  have hold : ∀ b, b < wo.heap.size → b ≠ bt → b ≠ bm → X.heap[b]? = wo.heap[b]? := fun b hb h1 h2 => (hblk b (by omega) h1 h2).trans (hf.bel.block b hb)
  have hcell : ∀ b o, b < wo.heap.size → b ≠ bt → b ≠ bm → X.cell? ⟨b, o, none⟩ = wo.cell? ⟨b, o, none⟩ := fun b o hb h1 h2 => World.cell?_of_block (w := wo) (hold b hb h1 h2)
  have hXt : ∀ o, X.cell? ⟨bt, o, none⟩ = ((wf.setCell ⟨bt, k * 2, none⟩ (.pointer (some ⟨wf.heap.size, 0, none⟩))).setCell ⟨bt, k * 2 + 1, none⟩ (.slice none 0 0)).cell? ⟨bt, o, none⟩ := fun o => by
    rw [← hX, cell_setBlock _ _ _ _ (by exact he1), World.cell?_alloc_past _ _ _ (by rw [hY]; omega)]
  have hbt' : ∀ o, wf.cell? ⟨bt, o, none⟩ = wo.cell? ⟨bt, o, none⟩ := fun o => hf.bel.cell (p := ⟨bt, o, none⟩) (by show bt < _; omega)
  have hXto : ∀ o, o ≠ k * 2 → o ≠ k * 2 + 1 → X.cell? ⟨bt, o, none⟩ = wo.cell? ⟨bt, o, none⟩ := fun o h1 h2 => by
    rw [hXt, World.cell?_setCell_other _ _ _ _ (by intro e; exact h2 (congrArg Addr.off e).symm), World.cell?_setCell_other _ _ _ _ (by intro e; exact h1 (congrArg Addr.off e).symm), hbt']
  have hXt0 : X.cell? ⟨bt, k * 2, none⟩ = some (.pointer (some ⟨wf.heap.size, 0, none⟩)) := by
    rw [hXt, World.cell?_setCell_other _ _ _ _ (by intro e; have : k * 2 + 1 = k * 2 := congrArg Addr.off e; omega)]
    exact World.cell?_setCell_same _ _ _ ((hbt' _).trans hv0)
  have hXt1 : X.cell? ⟨bt, k * 2 + 1, none⟩ = some (.slice none 0 0) := by
    rw [hXt]
    refine World.cell?_setCell_same _ _ _ (u := v1) ?_
    rw [World.cell?_setCell_other _ _ _ _ (by intro e; have : k * 2 = k * 2 + 1 := congrArg Addr.off e; omega), hbt']; exact hv1
  have hXf : ∀ o, X.frozen? ⟨bt, o, none⟩ = wo.frozen? ⟨bt, o, none⟩ := fun o => by
    rw [← hX, frozen_setBlock _ _ _ _ (by exact he1), World.frozen?_alloc_past _ _ _ (by rw [hY]; omega), World.frozen?_setCell, World.frozen?_setCell]
    exact hf.bel.frozen (p := ⟨bt, o, none⟩) (by show bt < _; omega)
  have hXT : ∀ o v, #[Value.string xs[k], sl1, .slice (some ⟨wo.heap.size, 0, none⟩) rs[k].length rs[k].length, sl3, jn][o]? = some v → X.cell? ⟨wf.heap.size, o, none⟩ = some v := fun o v hv => by
    rw [← hX, cell_setBlock _ _ _ _ (by show wf.heap.size ≠ bm; omega), ← hO]
    have := World.cell?_alloc_at (w := ((wf.setCell ⟨bt, k * 2, none⟩ (.pointer (some ⟨wf.heap.size, 0, none⟩))).setCell ⟨bt, k * 2 + 1, none⟩ (.slice none 0 0))) #[Value.string xs[k], sl1, .slice (some ⟨wo.heap.size, 0, none⟩) rs[k].length rs[k].length, sl3, jn] ht wf.heap.size o hY.symm
    rw [this]; exact hv
  have hFr : ∀ o, X.cell? ⟨wo.heap.size, o, none⟩ = wf.cell? ⟨wo.heap.size, o, none⟩ := fun o => World.cell?_of_block (w := wf) (hblk wo.heap.size hfl (by omega) (by omega))
  refine ⟨?_, ?_, ?_, fun i hi => ?_, fun i hi => ?_, fun o ho => ?_, fun o ho => ?_, fun i hi hik => ?_, fun i hi hik => ?_, fun i hi q hq hik => ?_, ?_, h.nt, ?_, h.ne, fun i hi => ?_, fun i hi => ?_, ?_⟩
  · rw [hcell _ _ hl3 (by omega) (by omega)]; exact h.g0
  · rw [hcell _ _ hl3 (by omega) (by omega)]; exact h.g1
  · rw [hcell _ _ hl3 (by omega) (by omega)]; exact h.g2
  · by_cases e : i = k
    · subst e; simp only [if_true]; exact hXt0
    · simp only [if_neg e]; rw [hXto _ (by omega) (by omega)]; exact h.t i (by omega)
  · by_cases e : i = k
    · subst e; exact hXt1
    · rw [hXto _ (by omega) (by omega)]; exact h.c i (by omega)
  · by_cases e1 : o = k * 2
    · subst e1; rw [hXt0]; rfl
    · by_cases e2 : o = k * 2 + 1
      · subst e2; rw [hXt1]; rfl
      · rw [hXto _ e1 e2]; exact h.some' o ho
  · rw [hXf]; exact h.free o ho
  · by_cases e : i = k
    · subst e; simp only [if_true]; exact hXT 0 _ rfl
    · simp only [if_neg e]
      have := h.tbl i (by omega)
      rw [hcell _ _ this.2.1 this.2.2.1 this.2.2.2]; exact h.nm i hi (by omega)
  · by_cases e : i = k
    · subst e; simp only [if_true]; exact hXT 2 _ rfl
    · simp only [if_neg e]
      have := h.tbl i (by omega)
      rw [hcell _ _ this.2.1 this.2.2.1 this.2.2.2]; exact h.fk i hi (by omega)
  · by_cases e : i = k
    · subst e; simp only [if_true]; rw [hFr]; exact hf.here q hq hq
    · simp only [if_neg e]
      have := h.fbl i (by omega)
      rw [hcell _ _ this.2.1 this.2.2.1 this.2.2.2]; exact h.rf i hi q hq (by omega)
  · rw [← hX]; exact heap_setBlock _ _ _ (by simp [World.setCell]; omega)
  · rw [hzX]; omega
  · by_cases e : i = k
    · subst e; simp only [if_true]; rw [hzX]; have := h.bel.size; omega
    · simp only [if_neg e]; have := h.tbl i (by omega); rw [hzX]; omega
  · by_cases e : i = k
    · subst e; simp only [if_true]; rw [hzX]; have := h.bel.size; omega
    · simp only [if_neg e]; have := h.fbl i (by omega); rw [hzX]; omega
  · have hbs := h.bel.size
    have hb1 : Below w.heap.size w wf := h.bel.trans (hf.bel.mono (by omega))
    rw [← hX]
    exact below_setBlock (((hb1.setCell (p := ⟨bt, k * 2, none⟩) hn1 _).setCell (p := ⟨bt, k * 2 + 1, none⟩) hn1 _).alloc (by rw [hY]; omega) _) hn2 _

theorem WP.drew {xs : List ByteArray} {rs : List (List ByteArray)} {w : World} {bt bm bg bc : Nat} {tb fb : Nat → Nat} {k : Nat} {wr : World} (h : WP xs rs w bt bm bg bc tb fb k wr) : WP xs rs w bt bm bg bc tb fb k wr.drew :=
  ⟨h.g0, h.g1, h.g2, h.t, h.c, h.some', h.free, h.nm, h.fk, h.rf, h.map, h.nt, h.lt, h.ne, h.tbl, h.fbl, h.bel.drew⟩

def S00 (n : Nat) : St := ⟨List.replicate n false, List.replicate n none⟩

theorem WP.gr {xs : List ByteArray} {rs : List (List ByteArray)} {w : World} {bt bm bg bc : Nat} {tb fb : Nat → Nat} {wr : World} (h : WP xs rs w bt bm bg bc tb fb xs.length wr) (hs : rs.length = xs.length)
    (hc : Cells w bc (List.replicate xs.length (.bool false))) (hbc : bc < w.heap.size) : Gr xs rs ⟨bg, bt, bc, bm, tb, fb, fun _ => 0, wr.heap.size⟩ wr (S00 xs.length) := by
  obtain ⟨hn1, hn2, hn3⟩ := h.nt
  obtain ⟨hl1, hl2, hl3⟩ := h.lt
  obtain ⟨he1, he2, he3⟩ := h.ne
  have hno : ∀ i bs, (S00 xs.length).cl[i]? = some (some bs) → False := fun i bs hx => by
    have := List.mem_of_getElem? hx
    simp [S00] at this
  have hmap := h.map
  rw [List.take_of_length_le (Nat.le_refl _)] at hmap
  exact {
    same := hs
    ncr := by simp [S00]
    ncl := by simp [S00]
    g0 := h.g0
    g1 := h.g1
    g2 := h.g2
    t := h.t
    c := fun i hi => by
      have hi' : i < xs.length := by simpa [S00] using hi
      have : (S00 xs.length).cl[i] = none := by simp [S00]
      rw [this]; exact h.c i hi'
    cf := fun i hi => h.free _ (by omega)
    nm := fun i hi => h.nm i hi hi
    fk := fun i hi => h.fk i hi (by rw [← hs]; exact hi)
    rf := fun i hi q hq => h.rf i hi q hq (by rw [← hs]; exact hi)
    cells := fun i bs hx => (hno i bs hx).elim
    clen := fun i _ bs hx => (hno i bs hx).elim
    crc := by
      have e : (S00 xs.length).cr.map Value.bool = List.replicate xs.length (.bool false) := by simp [S00]
      rw [e]; exact hc.below h.bel hbc
    map := hmap
    lbg := hl3
    lbt := hl1
    lbc := Nat.lt_of_lt_of_le hbc h.bel.size
    lbm := hl2
    ltb := fun i hi => (h.tbl i hi).2.1
    lfb := fun i hi => (h.fbl i hi).2.1
    lim := Nat.le_refl _
    lcb := fun i bs hx => (hno i bs hx).elim
    inj := fun i _ bs _ hx => (hno i bs hx).elim
    tg := he2
    tc := by show bt ≠ bc; omega
    tm := he1
    cg := by show bc ≠ bg; omega
    cm := by show bc ≠ bm; omega
    tbt := fun i hi => ⟨(h.tbl i hi).2.2.1, by have := (h.tbl i hi).1; show tb i ≠ bc; omega⟩
    fbt := fun i hi => ⟨(h.fbl i hi).2.2.1, by have := (h.fbl i hi).1; show fb i ≠ bc; omega⟩ }

theorem WP.mk0 {xs : List ByteArray} {rs : List (List ByteArray)} {w W : World} {bt bm bg bc : Nat} (hb : Below w.heap.size w W) (g : Cells W bg [.slice (some ⟨bt, 0, none⟩) xs.length xs.length, .slice (some ⟨bc, 0, none⟩) xs.length xs.length, .map (some bm)])
    (hs : ∀ o, o < xs.length * 2 → (W.cell? ⟨bt, o, none⟩).isSome = true) (hf : ∀ o, o < xs.length * 2 → W.frozen? ⟨bt, o, none⟩ = false) (hm : W.heap[bm]? = some (.map #[] 0))
    (nt : w.heap.size ≤ bt ∧ w.heap.size ≤ bm ∧ w.heap.size ≤ bg) (lt : bt < W.heap.size ∧ bm < W.heap.size ∧ bg < W.heap.size) (ne : bt ≠ bm ∧ bt ≠ bg ∧ bm ≠ bg) : WP xs rs w bt bm bg bc (fun _ => 0) (fun _ => 0) 0 W :=
  ⟨g.get (j := 0) rfl, g.get (j := 1) rfl, g.get (j := 2) rfl, fun i h => absurd h (by omega), fun i h => absurd h (by omega), hs, hf, fun i _ h => absurd h (by omega), fun i _ h => absurd h (by omega), fun i _ _ _ h => absurd h (by omega),
    by simpa [mapOf] using hm, nt, lt, ne, fun i h => absurd h (by omega), fun i h => absurd h (by omega), hb⟩

theorem cell_drew (w : World) (a : Addr) : w.drew.cell? a = w.cell? a := rfl
theorem frozen_drew (w : World) (a : Addr) : w.drew.frozen? a = w.frozen? a := rfl

theorem made_isSome (w : World) (z : Array Value) (m : Nat) (t : TypeId) (o : Nat) (ho : o < m) : ((w.alloc (.cells (madeCells z m) t)).cell? ⟨w.heap.size, o, none⟩).isSome = true := by
  rw [World.cell?_alloc_new]; simp [madeCells, ho]

theorem WP.new1 (xs : List ByteArray) (rs : List (List ByteArray)) (w : World) (bc : Nat) : WP xs rs w w.heap.size (w.heap.size + 1) (w.heap.size + 1 + 1) bc (fun _ => 0) (fun _ => 0) 0
    (((w.alloc (Obj.cells (madeCells #[Value.pointer none, Value.slice none 0 0] (xs.length * 2)) 61)).alloc (Obj.map #[] 0)).alloc
      (Obj.cells #[.slice (some ⟨w.heap.size, 0, none⟩) xs.length xs.length, .slice (some ⟨bc, 0, none⟩) xs.length xs.length, .map (some (w.heap.size + 1))] 63)).drew := by
  refine WP.mk0 ((((Below.refl _ _).alloc (Nat.le_refl _) _).alloc (by simp) _).alloc (by simp; omega) _).drew ?_ (fun o ho => ?_) (fun o ho => ?_) ?_ (by omega) (by simp [World.drew]; omega) (by omega)
  · have c := Cells.new ((w.alloc (Obj.cells (madeCells #[Value.pointer none, Value.slice none 0 0] (xs.length * 2)) 61)).alloc (Obj.map #[] 0)) #[.slice (some ⟨w.heap.size, 0, none⟩) xs.length xs.length, .slice (some ⟨bc, 0, none⟩) xs.length xs.length, .map (some (w.heap.size + 1))] 63
    simp only [World.size_alloc] at c
    exact ⟨c.at', c.free⟩
  · rw [cell_drew, World.cell?_alloc_past _ _ _ (by simp; omega), World.cell?_alloc_past _ _ _ (by simp)]
    exact made_isSome w _ _ _ o ho
  · rw [frozen_drew, World.frozen?_alloc_past _ _ _ (by simp; omega), World.frozen?_alloc_past _ _ _ (by simp)]
    exact World.frozen?_alloc_new ..
  · show ((w.alloc _).alloc (Obj.map #[] 0) |>.alloc _).heap[w.heap.size + 1]? = _
    rw [Below.heap_alloc _ _ _ (by simp)]
    show ((w.alloc _).heap.push _)[w.heap.size + 1]? = _
    have : w.heap.size + 1 = (w.alloc (Obj.cells (madeCells #[Value.pointer none, Value.slice none 0 0] (xs.length * 2)) 61)).heap.size := by simp
    rw [this]; exact Array.getElem?_push_size

theorem WP.new2 (xs : List ByteArray) (rs : List (List ByteArray)) (w : World) (bc : Nat) : WP xs rs w (w.heap.size + 1) w.heap.size (w.heap.size + 1 + 1) bc (fun _ => 0) (fun _ => 0) 0
    (((w.alloc (Obj.map #[] 0)).alloc (Obj.cells (madeCells #[Value.pointer none, Value.slice none 0 0] (xs.length * 2)) 61)).alloc
      (Obj.cells #[.slice (some ⟨w.heap.size + 1, 0, none⟩) xs.length xs.length, .slice (some ⟨bc, 0, none⟩) xs.length xs.length, .map (some w.heap.size)] 63)).drew := by
  refine WP.mk0 ((((Below.refl _ _).alloc (Nat.le_refl _) _).alloc (by simp) _).alloc (by simp; omega) _).drew ?_ (fun o ho => ?_) (fun o ho => ?_) ?_ (by omega) (by simp [World.drew]; omega) (by omega)
  · have c := Cells.new ((w.alloc (Obj.map #[] 0)).alloc (Obj.cells (madeCells #[Value.pointer none, Value.slice none 0 0] (xs.length * 2)) 61)) #[.slice (some ⟨w.heap.size + 1, 0, none⟩) xs.length xs.length, .slice (some ⟨bc, 0, none⟩) xs.length xs.length, .map (some w.heap.size)] 63
    simp only [World.size_alloc] at c
    exact ⟨c.at', c.free⟩
  · rw [cell_drew, World.cell?_alloc_past _ _ _ (by simp)]
    have := made_isSome (w.alloc (Obj.map #[] 0)) #[Value.pointer none, Value.slice none 0 0] (xs.length * 2) 61 o ho
    simpa using this
  · rw [frozen_drew, World.frozen?_alloc_past _ _ _ (by simp)]
    exact World.frozen?_alloc_at _ _ _ _ (by simp)
  · show ((w.alloc (Obj.map #[] 0)).alloc _ |>.alloc _).heap[w.heap.size]? = _
    rw [Below.heap_alloc _ _ _ (by simp; omega), Below.heap_alloc _ _ _ (by simp)]
    show (w.heap.push _)[w.heap.size]? = _
    simp

def WaitPost (xs : List ByteArray) (rs : List (List ByteArray)) (bc : Nat) (w : World) (e : Ending) (w' : World) : Prop :=
  ∃ L, e = .returned (.pointer (some ⟨L.bg, 0, none⟩)) ∧ Gr xs rs L w' (S00 xs.length) ∧ L.bc = bc ∧ w.heap.size ≤ L.bt ∧ L.lim = w'.heap.size ∧ Below w.heap.size w w'

set_option maxHeartbeats 2000000 in
theorem wait_any (a1 a2 : Option Addr) (c1 c2 bz bc : Nat) (xs : List ByteArray) (rs : List (List ByteArray)) (w : World) (hn : xs.length ≤ 256) (hs : rs.length = xs.length) (hr : ∀ i, deg rs i ≤ 4096) (hnd : xs.Nodup)
    (s1 : Sl w a1 (xs.map .string)) (s2 : Sl2 .string w a2 rs) (hz : Cells w bz (List.replicate xs.length (.slice none 0 0))) (hzb : bz < w.heap.size) (hc : Cells w bc (List.replicate xs.length (.bool false))) (hbc : bc < w.heap.size) :
    Calls Try.prog 28 #[.slice a1 xs.length c1, .slice a2 rs.length c2, .slice (some ⟨bz, 0, none⟩) xs.length xs.length, .slice (some ⟨bc, 0, none⟩) xs.length xs.length] w (WaitPost xs rs bc w) := by
  obtain ⟨n, hN⟩ : ∃ n, xs.length = n := ⟨_, rfl⟩
  have HN := hide hN
  have H1 := hide s1
  have H2 := hide s2
  have HZ := hide hz
  have HC := hide hc
  have HSA := hide hs
  have HR := hide hr
  have HND := hide hnd
  have hmk := make52' n (by omega)
  have hmm := run_makeMap_hint (P := Try.prog) Try.underlying28
  rw [hs, hN]
  rw [hN] at hn
  clear s1 s2 hz hc hs hr hnd hN
  go_enter Try.func28, Try.ntmps28
  go_upto_region 1 with fail
  go_cut [9] from 13 to 21 (fun s wc => ∃ bt bm bg, s = .pointer (some ⟨bg, 0, none⟩) ∧ Hid (WP xs rs w bt bm bg bc (fun _ => 0) (fun _ => 0) 0 wc))
  case first =>
    go_region
    all_goals (go_wp2_with fail; go_meet)
    case rel => exact ⟨_, _, _, rfl, by rw [← HN.out]; exact WP.new1 xs rs w bc⟩
    case rel => exact ⟨_, _, _, rfl, by rw [← HN.out]; exact WP.new2 xs rs w bc⟩
  case rest =>
  obtain ⟨bt, bm, bg, rfl, HW0⟩ := hcut
  clear hmk hmm
  go_wp2
  go_loopg [24] n (fun gk c wr => ∃ k : Nat, k ≤ n ∧ gk = n - k ∧ c = .int .i64 k ∧ ∃ tb fb, Hid (WP xs rs w bt bm bg bc tb fb k wr))
  case atStart => exact ⟨0, Nat.zero_le _, rfl, rfl, _, _, HW0.out⟩
  case round =>
  clear HW0
  obtain ⟨k, hk, rfl, rfl, tb, fb, HW⟩ := hrel
  rename World => wo
  by_cases hlt : k < n
  case neg =>
    obtain rfl : k = n := by omega
    go_wp2
    go_ret
    have hW := HW.out
    rw [← HN.out] at hW
    exact ⟨_, rfl, hW.gr HSA.out HC.out hbc, rfl, hW.nt.1, rfl, hW.bel⟩
  have hkx : k < xs.length := by rw [HN.out]; exact hlt
  have hkr : k < rs.length := by rw [HSA.out]; exact hkx
  have hW := HW.out
  have hbs := hW.bel.size
  obtain ⟨b1, o1, e1, hb1, hc1⟩ := H1.out k (by simpa using hkx)
  obtain ⟨b2, o2, a', cap', e2, hb2, hc2, hs2⟩ := H2.out k hkr
  subst e1
  subst e2
  have nm' : wo.cell? ⟨b1, o1 + k, none⟩ = some (.string xs[k]) := by rw [hW.bel.cell (p := ⟨b1, o1 + k, none⟩) hb1, hc1]; simp
  have rf' := (hW.bel.cell (p := ⟨b2, o2 + k, none⟩) hb2).trans hc2
  have hz' : wo.cell? ⟨bz, k, none⟩ = some (.slice none 0 0) := by
    rw [hW.bel.cell (p := ⟨bz, k, none⟩) hzb]
    have := HZ.out.at' k (by simpa using hkx)
    simpa using this
  have hdeg := HR.out k
  have hd : deg rs k = rs[k].length := by simp [deg, hkr]
  rw [hd] at hdeg
  have hmk := make55 rs[k].length (by omega)
  have F0 := hide (FP.new rs[k] wo #[.string ⟨#[]⟩, .string ⟨#[]⟩, .string ⟨#[]⟩, .bool false] 65)
  obtain ⟨m, hm⟩ : ∃ m, rs[k].length = m := ⟨_, rfl⟩
  rw [hm] at rf' hmk F0 hdeg
  obtain ⟨s, hsx⟩ : ∃ s, xs[k] = s := ⟨_, rfl⟩
  rw [hsx] at nm'
  have HM := hide hm
  have HSX := hide hsx
  have HS2 := hide hs2
  have l0 : bg < wo.heap.size := hW.lt.2.2
  have l1 : bt < wo.heap.size := hW.lt.1
  have l2 : bm < wo.heap.size := hW.lt.2.1
  have l3 : b1 < wo.heap.size := by omega
  have l4 : b2 < wo.heap.size := by omega
  have l5 : bz < wo.heap.size := by omega
  clear hd hc1 hc2 hs2 hm hsx hW
  generalize madeCells #[.string ⟨#[]⟩, .string ⟨#[]⟩, .string ⟨#[]⟩, .bool false] (m * 4) = M at hmk F0
  go_wp2
  clear hmk
  go_loopg [38] m (fun gk c wr => ∃ q : Nat, q ≤ m ∧ gk = m - q ∧ c = .int .i64 q ∧ Hid (FP rs[k] wo wo.heap.size q wr))
  case atStart => exact ⟨0, Nat.zero_le _, rfl, rfl, F0.out⟩
  case round =>
  clear F0
  obtain ⟨q, hq, rfl, rfl, HF⟩ := hrel
  rename World => wf
  have hF := HF.out
  have hbf : Below w.heap.size w wf := HW.out.bel.trans (hF.bel.mono hbs)
  have rf2 := (hF.bel.cell (p := ⟨b2, o2 + k, none⟩) l4).trans rf'
  by_cases hql : q < m
  · have hqr : q < rs[k].length := by rw [HM.out]; exact hql
    obtain ⟨b3, o3, e3, hb3, hc3⟩ := HS2.out q (by simpa using hqr)
    subst e3
    have hc3' : wf.cell? ⟨b3, o3 + q, none⟩ = some (.string rs[k][q]) := by rw [hbf.cell (p := ⟨b3, o3 + q, none⟩) hb3, hc3]; simp
    obtain ⟨y, hy⟩ := Option.isSome_iff_exists.1 (hF.some' (q * 4 + 1) (by omega))
    have hyf := hF.free (q * 4 + 1) (by omega)
    have ST := hide (hF.step hqr)
    obtain ⟨s3, hs3⟩ : ∃ s, rs[k][q] = s := ⟨_, rfl⟩
    rw [hs3] at hc3' ST
    clear hF hbf hs3 hc3
    go_wp2
    go_roundg (m - (q + 1))
    case measure => omega
    case rel => exact ⟨q + 1, by omega, rfl, by go_num, ST.out⟩
  obtain rfl : q = m := by omega
  have hW := HW.out
  have hfz := hF.bel.size
  have g0 := (hF.bel.cell (p := ⟨bg, 0, none⟩) l0).trans hW.g0
  have g2 := (hF.bel.cell (p := ⟨bg, 2, none⟩) l0).trans hW.g2
  rw [HN.out] at g0
  have nm2 := (hF.bel.cell (p := ⟨b1, o1 + k, none⟩) l3).trans nm'
  have hz2 := (hF.bel.cell (p := ⟨bz, k, none⟩) l5).trans hz'
  obtain ⟨y0, hy0⟩ := Option.isSome_iff_exists.1 (hW.some' (k * 2) (by omega))
  obtain ⟨y1, hy1⟩ := Option.isSome_iff_exists.1 (hW.some' (k * 2 + 1) (by omega))
  have x0 := (hF.bel.cell (p := ⟨bt, k * 2, none⟩) l1).trans hy0
  have x1 := (hF.bel.cell (p := ⟨bt, k * 2 + 1, none⟩) l1).trans hy1
  have z0 := (hF.bel.frozen (p := ⟨bt, k * 2, none⟩) l1).trans (hW.free (k * 2) (by omega))
  have z1 := (hF.bel.frozen (p := ⟨bt, k * 2 + 1, none⟩) l1).trans (hW.free (k * 2 + 1) (by omega))
  have m0 : bg < wf.heap.size := by omega
  have m1 : bt < wf.heap.size := by omega
  have m2 : bm < wf.heap.size := by omega
  have m3 : b1 < wf.heap.size := by omega
  have m5 : bz < wf.heap.size := by omega
  have n1 : bg ≠ bt := Ne.symm hW.ne.2.1
  have n2 : b1 ≠ bt := by have := hW.nt.1; omega
  have hF' := hF
  rw [← HM.out] at hF'
  have ST := hide (fun sl1 sl3 jn ht => WP.step hW hkx hkr hF' sl1 sl3 jn ht)
  have hmp : wf.heap[bm]? = some (.map (mapOf (xs.take k)) k) := (hF.bel.block bm l2).trans hW.map
  have HMP := hide hmp
  clear hF hbf rf2 rf' hW nm' hz' hy0 hy1 hF' hmp
  have hlen : (xs.take k).length = k := by rw [List.length_take]; omega
  have hpl : place (xs.take k) s = none := by
    rw [place_none, ← HSX.out]
    intro hmem
    obtain ⟨j, hj, e⟩ := List.mem_iff_getElem.1 hmem
    simp only [List.length_take] at hj
    have e' : xs[j] = xs[k] := by simpa using e
    have := (List.getElem_inj HND.out).1 e'
    omega
  have hup : ∀ X : World, X.heap[bm]? = some (.map (mapOf (xs.take k)) k) → (Instr.mapUpdate 28 (.map (some bm)) (.string s) (.int .i64 k)).run Try.prog X = .ok () (setBlock X bm (.map (mapOf (xs.take (k + 1))) (k + 1))) := fun X hX => by
    have h := run_update_at (P := Try.prog) (w := X) (s := s) (l := xs.take k) Try.underlying28 Try.underlying9 (by rw [hlen]; exact hX) hpl
    rw [hlen] at h
    rw [h, List.take_succ_eq_append_getElem hkx, HSX.out]
  have hup' : (Instr.mapUpdate 28 (.map (some bm)) (.string s) (.int .i64 k)).run Try.prog ((((wf.setCell ⟨bt, k * 2, none⟩ (.pointer (some ⟨wf.heap.size, 0, none⟩))).setCell ⟨bt, k * 2 + 1, none⟩ (.slice none 0 0)).alloc
      (.cells #[.string s, .slice none 0 0, .slice (some ⟨wo.heap.size, 0, none⟩) q q, .slice none 0 0, .bool false] 58)).drew.drew) = .ok () (setBlock ((((wf.setCell ⟨bt, k * 2, none⟩ (.pointer (some ⟨wf.heap.size, 0, none⟩))).setCell ⟨bt, k * 2 + 1, none⟩ (.slice none 0 0)).alloc
      (.cells #[.string s, .slice none 0 0, .slice (some ⟨wo.heap.size, 0, none⟩) q q, .slice none 0 0, .bool false] 58)).drew.drew) bm (.map (mapOf (xs.take (k + 1))) (k + 1))) := by
    refine hup _ ?_
    show ((((wf.setCell ⟨bt, k * 2, none⟩ (.pointer (some ⟨wf.heap.size, 0, none⟩))).setCell ⟨bt, k * 2 + 1, none⟩ (.slice none 0 0)).alloc _).heap)[bm]? = _
    have hne := HW.out.ne.1
    rw [Below.heap_alloc _ _ _ (by simpa [World.setCell] using m2), Below.heap_setCell _ _ _ _ (by exact Ne.symm hne), Below.heap_setCell _ _ _ _ (by exact Ne.symm hne)]
    exact HMP.out
  have STT := ST.out (.slice none 0 0) (.slice none 0 0) (.bool false) 58
  rw [HM.out, HSX.out] at STT
  have HST := hide STT.drew.drew
  clear hup hlen hpl STT ST
  go_wp2
  go_region
  go_wp2
  go_region
  go_wp2
  go_roundg (n - (k + 1))
  case measure => omega
  case rel => exact ⟨k + 1, by omega, rfl, by go_num, _, _, HST.out⟩
end Go.Proofs.Qxb6603821a.W
