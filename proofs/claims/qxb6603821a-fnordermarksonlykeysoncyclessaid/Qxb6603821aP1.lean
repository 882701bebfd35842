/-
  order(false), as data: what the first law asks of it.
-/
import Derived.Test.Qxb6603821aPure
import Derived.Test.Qxb6603821aWao
import Derived.Test.Qxb6603821aWait
namespace Go.Proofs.Qxb6603821a.W
open Go.RowKit B
set_option linter.unusedVariables false

/-- Table 'x' has a key to another table that is not in 'l'. -/
def WaitsIn (xs : List ByteArray) (rs : List (List ByteArray)) (l : List Nat) (x : Nat) : Prop :=
  ∃ k, k < deg rs x ∧ ∃ j, place xs (ref rs x k) = some j ∧ j ≠ x ∧ j ∉ l

theorem wf_none {xs : List ByteArray} {rs : List (List ByteArray)} {S : St} {i k : Nat} (hcl : clB (S.cl.getD i none) k = false) :
    0 ≤ wfI xs rs S i k ↔ ∃ j, place xs (ref rs i k) = some j ∧ j ≠ i ∧ S.cr.getD j false = false := by
  unfold wfI
  cases hp : place xs (ref rs i k) with
  | none => simp
  | some j =>
    simp only [hcl, Bool.or_false, Option.some.injEq, exists_eq_left']
    by_cases e : j = i
    · subst e; simp
    · cases hc : S.cr.getD j false with
      | true => simp
      | false => simp [e]

theorem waits_in {xs : List ByteArray} {rs : List (List ByteArray)} {S : St} {l : List Nat} (h : ∀ j, j < xs.length → (S.cr.getD j false = true ↔ j ∈ l)) {x : Nat} (hcl : ∀ k, clB (S.cl.getD x none) k = false) :
    waitsB xs rs S x = true ↔ WaitsIn xs rs l x := by
  unfold waitsB WaitsIn
  rw [List.any_eq_true]
  constructor
  · rintro ⟨k, hk, hw⟩
    obtain ⟨j, hj, hne, hc⟩ := (wf_none (hcl k)).1 (of_decide_eq_true hw)
    obtain ⟨hjl, _⟩ := place_some hj
    refine ⟨k, by simpa using hk, j, hj, hne, fun hm => ?_⟩
    rw [(h j hjl).2 hm] at hc; cases hc
  · rintro ⟨k, hk, j, hj, hne, hm⟩
    obtain ⟨hjl, _⟩ := place_some hj
    refine ⟨k, by simpa using hk, decide_eq_true ((wf_none (hcl k)).2 ⟨j, hj, hne, ?_⟩)⟩
    cases hc : S.cr.getD j false with
    | false => rfl
    | true => exact absurd ((h j hjl).1 hc) hm

/-- Each of the first tables is the first given that waits for none outside those ahead. -/
def Led (xs : List ByteArray) (rs : List (List ByteArray)) (out : List Nat) (m : Nat) : Prop :=
  ∀ p (h : p < out.length), p < m → ¬ WaitsIn xs rs (out.take p) out[p] ∧ ∀ x, x < out[p] → x ∉ out.take p → WaitsIn xs rs (out.take p) x

theorem Led.snoc {xs : List ByteArray} {rs : List (List ByteArray)} {out : List Nat} (h : Led xs rs out out.length) {i : Nat} (h1 : ¬ WaitsIn xs rs out i) (h2 : ∀ x, x < i → x ∉ out → WaitsIn xs rs out x) : Led xs rs (out ++ [i]) (out ++ [i]).length := by
  intro p hp _
  by_cases e : p < out.length
  · rw [List.getElem_append_left e, List.take_append_of_le_length (by omega)]
    exact h p e e
  · simp only [List.length_append, List.length_singleton] at hp
    obtain rfl : p = out.length := by omega
    rw [List.getElem_append_right (by omega), List.take_append_of_le_length (by omega), List.take_length]
    simpa using ⟨h1, h2⟩

theorem Led.append {xs : List ByteArray} {rs : List (List ByteArray)} {out tl : List Nat} (h : Led xs rs out out.length) : Led xs rs (out ++ tl) out.length := by
  intro p hp hm
  rw [List.getElem_append_left hm, List.take_append_of_le_length (by omega)]
  exact h p hm hm

def AllNone (S : St) : Prop := ∀ i, S.cl.getD i none = none

/-- What holds of order(false) after any number of rounds. -/
structure Tr (xs : List ByteArray) (rs : List (List ByteArray)) (S : St) (o1 : List Nat) : Prop where
  inv : Inv xs rs S o1
  no : AllNone S
  led : Led xs rs o1 o1.length

def TrO (xs : List ByteArray) (rs : List (List ByteArray)) (S : St) (out : List Nat) : Prop :=
  Tr xs rs S out ∨ ∃ o1 tl, Tr xs rs S o1 ∧ ¬ 0 ≤ readyI xs rs S ∧ out = o1 ++ restOf xs.length S ++ tl ∧ ∀ i, i ∈ tl → i < xs.length

theorem AllNone.clB {S : St} (h : AllNone S) (x k : Nat) : clB (S.cl.getD x none) k = false := by rw [h x]; rfl

theorem getD_cr {S : St} {i : Nat} {n : Nat} (hn : S.cr.length = n) (h : ¬ i < n) : S.cr.getD i false = false := by
  rw [List.getD_eq_getElem?_getD, List.getElem?_eq_none (by omega)]; rfl

theorem Tr.step {xs : List ByteArray} {rs : List (List ByteArray)} {S : St} {out : List Nat} (h : Tr xs rs S out) (hr : 0 ≤ readyI xs rs S) : Tr xs rs (placeS S (readyI xs rs S).toNat) (out ++ [(readyI xs rs S).toNat]) := by
  obtain ⟨i, hi, hlt, hrb, hq⟩ := ready_some hr
  rw [hi, Int.toNat_natCast]
  refine ⟨h.inv.place hlt hrb, h.no, h.led.snoc ?_ fun x hx hm => ?_⟩
  · intro hw
    rw [← waits_in h.inv.mem (h.no.clB i)] at hw
    simp only [readyB, hw, Bool.not_true, Bool.and_false] at hrb
    cases hrb
  · have := hq x hx
    rw [← waits_in h.inv.mem (h.no.clB x)]
    have hc : S.cr.getD x false = false := by
      cases hc : S.cr.getD x false with
      | false => rfl
      | true => exact absurd ((h.inv.mem x (by omega)).1 hc) hm
    simpa only [readyB, hc, Bool.not_false, Bool.true_and, Bool.not_eq_false'] using this

theorem TrO.step {xs : List ByteArray} {rs : List (List ByteArray)} {find : St → Option (Nat × Nat)} {S : St} {out : List Nat} (h : TrO xs rs S out) : TrO xs rs (stepO xs rs false find (S, out)).1 (stepO xs rs false find (S, out)).2 := by
  have hrest : ∀ i, i ∈ restOf xs.length S → i < xs.length := fun i hi => by
    simp only [restOf, List.mem_filter, List.mem_range] at hi; exact hi.1
  unfold stepO
  by_cases hr : 0 ≤ readyI xs rs S
  · rw [if_pos hr]
    rcases h with h | ⟨o1, tl, _, hn, _⟩
    · exact .inl (h.step hr)
    · exact absurd hr hn
  · rw [if_neg hr]
    simp only [Bool.false_eq_true, if_false]
    rcases h with h | ⟨o1, tl, ht, hn, e, hl⟩
    · exact .inr ⟨out, [], h, hr, by simp, by simp⟩
    · refine .inr ⟨o1, tl ++ restOf xs.length S, ht, hn, by rw [e]; simp, fun i hi => ?_⟩
      rcases List.mem_append.1 hi with hi | hi
      · exact hl i hi
      · exact hrest i hi

theorem inv00 (xs : List ByteArray) (rs : List (List ByteArray)) : Inv xs rs (S00 xs.length) [] := by
  refine ⟨by simp [S00], by simp [S00], by simp, fun i hi => ?_, by simp, by simp⟩
  simp [S00, hi]

theorem none00 (n : Nat) : AllNone (S00 n) := fun i => by
  simp only [S00, List.getD_eq_getElem?_getD, List.getElem?_replicate]
  split <;> rfl

theorem tr_iter (xs : List ByteArray) (rs : List (List ByteArray)) (find : St → Option (Nat × Nat)) : ∀ t, TrO xs rs (iterO xs rs false find t (S00 xs.length, [])).1 (iterO xs rs false find t (S00 xs.length, [])).2
  | 0 => .inl ⟨inv00 xs rs, none00 _, fun p hp => absurd hp (by simp [iterO])⟩
  | t + 1 => TrO.step (tr_iter xs rs find t)

theorem TrO.lt {xs : List ByteArray} {rs : List (List ByteArray)} {S : St} {out : List Nat} (h : TrO xs rs S out) : ∀ i, i ∈ out → i < xs.length := fun i hi => by
  rcases h with h | ⟨o1, tl, ht, _, e, hl⟩
  · exact h.inv.lt i hi
  · rw [e] at hi
    rcases List.mem_append.1 hi with hi | hi
    · rcases List.mem_append.1 hi with hi | hi
      · exact ht.inv.lt i hi
      · simp only [restOf, List.mem_filter, List.mem_range] at hi; exact hi.1
    · exact hl i hi

/-- What the law asks, as data. -/
structure Least (xs : List ByteArray) (rs : List (List ByteArray)) (out : List Nat) (m : Nat) : Prop where
  nd : out.Nodup
  lt : ∀ i, i ∈ out → i < xs.length
  len : out.length = xs.length
  le : m ≤ xs.length
  led : Led xs rs out m
  rest : ∀ q (h : q < out.length), m ≤ q → WaitsIn xs rs (out.take m) out[q]
  inc : ∀ q (h : q + 1 < out.length), m ≤ q → out[q] < out[q + 1]

theorem range_inc (p : Nat → Bool) (n : Nat) : ((List.range n).filter p).Pairwise (· < ·) := List.Pairwise.filter _ List.pairwise_lt_range

theorem TrO.least {xs : List ByteArray} {rs : List (List ByteArray)} {S : St} {out : List Nat} (h : TrO xs rs S out) (hl : out.length = xs.length) : AllNone S ∧ ∃ m, Least xs rs out m := by
  rcases h with h | ⟨o1, tl, ht, hr, e, hlt⟩
  · exact ⟨h.no, out.length, h.inv.nd, h.inv.lt, hl, by omega, h.led, fun q hq hm => by omega, fun q hq hm => by omega⟩
  · have hrl := ht.inv.rest
    have htl : tl = [] := by
      rw [e] at hl
      simp only [List.length_append] at hl
      exact List.length_eq_zero_iff.1 (by omega)
    subst htl
    rw [List.append_nil] at e
    subst e
    have hmem : ∀ i, i ∈ restOf xs.length S → i < xs.length ∧ i ∉ o1 := fun i hi => by
      simp only [restOf, List.mem_filter, List.mem_range, Bool.not_eq_true'] at hi
      refine ⟨hi.1, fun hm => ?_⟩
      rw [(ht.inv.mem i hi.1).2 hm] at hi; exact absurd hi.2 (by simp)
    have hinc := range_inc (fun j => !S.cr.getD j false) xs.length
    refine ⟨ht.no, o1.length, ?_, ?_, hl, by omega, ht.led.append, fun q hq hm => ?_, fun q hq hm => ?_⟩
    · rw [List.nodup_append]
      refine ⟨ht.inv.nd, List.Nodup.sublist List.filter_sublist List.nodup_range, fun a ha b hb e => ?_⟩
      subst e; exact (hmem a hb).2 ha
    · intro i hi
      rcases List.mem_append.1 hi with hi | hi
      · exact ht.inv.lt i hi
      · exact (hmem i hi).1
    · rw [List.take_append_of_le_length (Nat.le_refl _), List.take_length, List.getElem_append_right hm]
      have hi := List.getElem_mem (l := restOf xs.length S) (n := q - o1.length) (by simp only [List.length_append] at hq; omega)
      obtain ⟨h1, h2⟩ := hmem _ hi
      rw [← waits_in ht.inv.mem (ht.no.clB _)]
      have hrb := ready_neg hr _ h1
      have hc : S.cr.getD (restOf xs.length S)[q - o1.length] false = false := by
        cases hc : S.cr.getD (restOf xs.length S)[q - o1.length] false with
        | false => rfl
        | true => exact absurd ((ht.inv.mem _ h1).1 hc) h2
      simpa only [readyB, hc, Bool.not_false, Bool.true_and, Bool.not_eq_false'] using hrb
    · rw [List.getElem_append_right hm, List.getElem_append_right (by omega)]
      have hq' : q + 1 - o1.length < (restOf xs.length S).length := by simp only [List.length_append] at hq; omega
      exact List.pairwise_iff_getElem.1 hinc (q - o1.length) (q + 1 - o1.length) (by show _ < (restOf xs.length S).length; omega) hq' (by omega)

/-- Where each table stands. -/
theorem Least.full {xs : List ByteArray} {rs : List (List ByteArray)} {out : List Nat} {m : Nat} (h : Least xs rs out m) {j : Nat} (hj : j < xs.length) : j ∈ out := by
  by_cases hm : j ∈ out
  · exact hm
  · have h1 : (j :: out) ⊆ List.range xs.length := fun i hi => by
      rcases List.mem_cons.1 hi with rfl | hi
      · simpa using hj
      · simpa using h.lt i hi
    have := (List.nodup_cons.2 ⟨hm, h.nd⟩).length_le_of_subset h1
    simp at this
    have := h.len
    omega

theorem pos_take {out : List Nat} (hnd : out.Nodup) {j p : Nat} (hj : j ∈ out) : (p : Int) ≤ posI out j ↔ j ∉ out.take p := by
  obtain ⟨q, hq, e⟩ := List.mem_iff_getElem.1 hj
  subst e
  rw [posI_get hnd hq]
  constructor
  · intro h hm
    obtain ⟨r, hr, er⟩ := List.mem_iff_getElem.1 hm
    simp only [List.length_take] at hr
    rw [List.getElem_take] at er
    have := (List.getElem_inj hnd).1 er
    omega
  · intro h
    by_cases hlt : q < p
    · exact absurd (List.mem_iff_getElem.2 ⟨q, by simp; omega, by rw [List.getElem_take]⟩) h
    · omega

theorem wao_in {xs : List ByteArray} {rs : List (List ByteArray)} {out : List Nat} (hnd : out.Nodup) (hfull : ∀ j, j < xs.length → j ∈ out) {x p : Nat} (hx : x < rs.length) :
    waoB (tgOf xs rs) ((List.range xs.length).map (posI out)) x p = true ↔ WaitsIn xs rs (out.take p) x := by
  have hrow : (tgOf xs rs).getD x [] = rs[x].map (tgI xs) := by simp [tgOf, hx]
  unfold waoB WaitsIn
  rw [hrow, List.any_eq_true]
  have hd : deg rs x = rs[x].length := by simp [deg, hx]
  have hrf : ∀ k (h : k < rs[x].length), ref rs x k = rs[x][k] := fun k h => by simp [ref, hx, h]
  have hps : ∀ j, j < xs.length → ((List.range xs.length).map (posI out)).getD j (-1) = posI out j := fun j hj => by
    simp [List.getD_eq_getElem?_getD, hj]
  rw [hd]
  constructor
  · rintro ⟨v, hv, hk⟩
    obtain ⟨s, hs, rfl⟩ := List.mem_map.1 hv
    obtain ⟨k, hk', rfl⟩ := List.mem_iff_getElem.1 hs
    unfold waoK at hk
    simp only [Bool.and_eq_true, decide_eq_true_eq] at hk
    obtain ⟨⟨h0, h1⟩, h2⟩ := hk
    unfold tgI at h0 h1 h2
    cases hp : place xs rs[x][k] with
    | none => rw [hp] at h0; simp at h0
    | some j =>
      rw [hp] at h1 h2
      obtain ⟨hj, _⟩ := place_some hp
      simp only [Int.toNat_natCast] at h1 h2
      rw [hps j hj, pos_take hnd (hfull j hj)] at h2
      exact ⟨k, hk', j, by rw [hrf k hk', hp], by omega, h2⟩
  · rintro ⟨k, hk, j, hp, hne, hm⟩
    rw [hrf k hk] at hp
    obtain ⟨hj, _⟩ := place_some hp
    refine ⟨tgI xs rs[x][k], List.mem_map.2 ⟨_, List.getElem_mem hk, rfl⟩, ?_⟩
    unfold waoK tgI
    rw [hp]
    simp only [Int.toNat_natCast, Bool.and_eq_true, decide_eq_true_eq]
    rw [hps j hj, pos_take hnd (hfull j hj)]
    exact ⟨⟨by omega, by omega⟩, hm⟩
end Go.Proofs.Qxb6603821a.W
