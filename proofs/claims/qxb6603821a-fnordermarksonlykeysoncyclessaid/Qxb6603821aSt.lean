/-
  The 'waiting' in memory, and as data.
-/
import Derived.Test.Qxb6603821aRes
namespace Go.Proofs.Qxb6603821a.W
open Go.RowKit B
set_option linter.unusedVariables false

/-- The state as data: which tables are created; which keys are marked (none: no row of marks yet). -/
structure St where
  cr : List Bool
  cl : List (Option (List Bool))

/-- Where it lies. -/
structure Lay where
  bg : Nat
  bt : Nat
  bc : Nat
  bm : Nat
  tb : Nat → Nat
  fb : Nat → Nat
  cb : Nat → Nat
  lim : Nat

def clV (L : Lay) (i : Nat) : Option (List Bool) → Value
  | none => .slice none 0 0
  | some bs => .slice (some ⟨L.cb i, 0, none⟩) bs.length bs.length

structure Gr (xs : List ByteArray) (rs : List (List ByteArray)) (L : Lay) (w : World) (S : St) : Prop where
  same : rs.length = xs.length
  ncr : S.cr.length = xs.length
  ncl : S.cl.length = xs.length
  g0 : w.cell? ⟨L.bg, 0, none⟩ = some (.slice (some ⟨L.bt, 0, none⟩) xs.length xs.length)
  g1 : w.cell? ⟨L.bg, 1, none⟩ = some (.slice (some ⟨L.bc, 0, none⟩) xs.length xs.length)
  g2 : w.cell? ⟨L.bg, 2, none⟩ = some (.map (some L.bm))
  t : ∀ i, i < xs.length → w.cell? ⟨L.bt, i * 2, none⟩ = some (.pointer (some ⟨L.tb i, 0, none⟩))
  c : ∀ i (h : i < S.cl.length), w.cell? ⟨L.bt, i * 2 + 1, none⟩ = some (clV L i S.cl[i])
  cf : ∀ i, i < xs.length → w.frozen? ⟨L.bt, i * 2 + 1, none⟩ = false
  nm : ∀ i (h : i < xs.length), w.cell? ⟨L.tb i, 0, none⟩ = some (.string xs[i])
  fk : ∀ i (h : i < rs.length), w.cell? ⟨L.tb i, 2, none⟩ = some (.slice (some ⟨L.fb i, 0, none⟩) rs[i].length rs[i].length)
  rf : ∀ i (h : i < rs.length) k (hk : k < rs[i].length), w.cell? ⟨L.fb i, k * 4 + 1, none⟩ = some (.string rs[i][k])
  cells : ∀ i bs, S.cl[i]? = some (some bs) → Cells w (L.cb i) (bs.map .bool)
  clen : ∀ i (h : i < rs.length) bs, S.cl[i]? = some (some bs) → bs.length = rs[i].length
  crc : Cells w L.bc (S.cr.map .bool)
  map : w.heap[L.bm]? = some (.map (mapOf xs) xs.length)
  lbg : L.bg < L.lim
  lbt : L.bt < L.lim
  lbc : L.bc < L.lim
  lbm : L.bm < L.lim
  ltb : ∀ i, i < xs.length → L.tb i < L.lim
  lfb : ∀ i, i < xs.length → L.fb i < L.lim
  lim : L.lim ≤ w.heap.size
  lcb : ∀ i bs, S.cl[i]? = some (some bs) → L.lim ≤ L.cb i ∧ L.cb i < w.heap.size
  inj : ∀ i j bs cs, S.cl[i]? = some (some bs) → S.cl[j]? = some (some cs) → i ≠ j → L.cb i ≠ L.cb j
  tg : L.bt ≠ L.bg
  tc : L.bt ≠ L.bc
  tm : L.bt ≠ L.bm
  cg : L.bc ≠ L.bg
  cm : L.bc ≠ L.bm
  tbt : ∀ i, i < xs.length → L.tb i ≠ L.bt ∧ L.tb i ≠ L.bc
  fbt : ∀ i, i < xs.length → L.fb i ≠ L.bt ∧ L.fb i ≠ L.bc

theorem Gr.below {xs : List ByteArray} {rs : List (List ByteArray)} {L : Lay} {w w' : World} {S : St} (h : Gr xs rs L w S) (hb : Below w.heap.size w w') : Gr xs rs L w' S := by
  have hl := h.lim
  have e : ∀ b o, b < L.lim → w'.cell? ⟨b, o, none⟩ = w.cell? ⟨b, o, none⟩ := fun b o hb' => hb.cell (p := ⟨b, o, none⟩) (by show b < _; omega)
  have f : ∀ b o, b < L.lim → w'.frozen? ⟨b, o, none⟩ = w.frozen? ⟨b, o, none⟩ := fun b o hb' => hb.frozen (p := ⟨b, o, none⟩) (by show b < _; omega)
  exact { h with
    g0 := by rw [e _ _ h.lbg]; exact h.g0
    g1 := by rw [e _ _ h.lbg]; exact h.g1
    g2 := by rw [e _ _ h.lbg]; exact h.g2
    t := fun i hi => by rw [e _ _ h.lbt]; exact h.t i hi
    c := fun i hi => by rw [e _ _ h.lbt]; exact h.c i hi
    cf := fun i hi => by rw [f _ _ h.lbt]; exact h.cf i hi
    nm := fun i hi => by rw [e _ _ (h.ltb i hi)]; exact h.nm i hi
    fk := fun i hi => by rw [e _ _ (h.ltb i (by rw [← h.same]; exact hi))]; exact h.fk i hi
    rf := fun i hi k hk => by rw [e _ _ (h.lfb i (by rw [← h.same]; exact hi))]; exact h.rf i hi k hk
    cells := fun i bs hbs => (h.cells i bs hbs).below hb (h.lcb i bs hbs).2
    crc := h.crc.below hb (by have := h.lbc; omega)
    map := (hb.block _ (by have := h.lbm; omega)).trans h.map
    lim := Nat.le_trans hl hb.size
    lcb := fun i bs hbs => ⟨(h.lcb i bs hbs).1, Nat.lt_of_lt_of_le (h.lcb i bs hbs).2 hb.size⟩ }

/-- Is key 'k' of a table with these marks marked? -/
def clB (cl : Option (List Bool)) (k : Nat) : Bool := match cl with
  | none => false
  | some bs => bs.getD k false

set_option maxHeartbeats 400000 in
theorem closes_any (L : Lay) (i k : Nat) (p : Option Addr) (cl : Option (List Bool)) (w : World) (hk : k < 65536) (hc : ∀ bs, cl = some bs → Cells w (L.cb i) (bs.map .bool) ∧ L.cb i < w.heap.size) :
    Calls Try.prog 34 #[.agg #[.pointer p, clV L i cl], .int .i64 k] w fun e w' => e = .returned (.bool (clB cl k)) ∧ Below w.heap.size w w' := by
  cases cl with
  | none =>
    simp only [clV, clB]
    go_enter Try.func34, Try.ntmps34
    go_wp2
    go_ret
    exact ⟨rfl, (Below.refl _ _).alloc (Nat.le_refl _) _⟩
  | some bs =>
    obtain ⟨hcs, hcb⟩ := hc bs rfl
    simp only [clV, clB]
    by_cases hlt : k < bs.length
    · have hc1 := hcs.at' k (by simpa using hlt)
      simp only [List.getElem_map] at hc1
      have hg : bs.getD k false = bs[k] := by simp [hlt]
      rw [hg]
      clear hg hcs hc
      generalize bs[k] = v at hc1
      generalize bs.length = m at *
      go_enter Try.func34, Try.ntmps34
      go_wp2
      go_ret
      exact ⟨rfl, (Below.refl _ _).alloc (Nat.le_refl _) _⟩
    · have hg : bs.getD k false = false := by simp [List.getD, List.getElem?_eq_none (by omega : bs.length ≤ k)]
      rw [hg]
      clear hg hcs hc
      generalize bs.length = m at *
      go_enter Try.func34, Try.ntmps34
      go_wp2
      go_ret
      exact ⟨rfl, (Below.refl _ _).alloc (Nat.le_refl _) _⟩
end Go.Proofs.Qxb6603821a.W
