/-
  order, as data: no Go in sight.
-/
import Derived.Test.Qxb6603821aReady
namespace Go.Proofs.Qxb6603821a.W
open Go.RowKit B
set_option linter.unusedVariables false

def placeS (S : St) (i : Nat) : St := { S with cr := S.cr.set i true }
def rowOf (rs : List (List ByteArray)) (S : St) (i : Nat) : List Bool := match S.cl.getD i none with
  | none => List.replicate (deg rs i) false
  | some bs => bs
def markS (rs : List (List ByteArray)) (S : St) (i k : Nat) : St := { S with cl := S.cl.set i (some ((rowOf rs S i).set k true)) }
def restOf (n : Nat) (S : St) : List Nat := (List.range n).filter fun j => !S.cr.getD j false

/-- One round of order. -/
def stepO (xs : List ByteArray) (rs : List (List ByteArray)) (flag : Bool) (find : St → Option (Nat × Nat)) (s : St × List Nat) : St × List Nat :=
  if 0 ≤ readyI xs rs s.1 then (placeS s.1 (readyI xs rs s.1).toNat, s.2 ++ [(readyI xs rs s.1).toNat])
  else match (if flag then find s.1 else none) with
    | some (i, k) => (markS rs s.1 i k, s.2)
    | none => (s.1, s.2 ++ restOf xs.length s.1)

def iterO (xs : List ByteArray) (rs : List (List ByteArray)) (flag : Bool) (find : St → Option (Nat × Nat)) : Nat → St × List Nat → St × List Nat
  | 0, s => s
  | t + 1, s => stepO xs rs flag find (iterO xs rs flag find t s)

/-- What holds of state and list while tables are placed. -/
structure Inv (xs : List ByteArray) (rs : List (List ByteArray)) (S : St) (out : List Nat) : Prop where
  ncr : S.cr.length = xs.length
  ncl : S.cl.length = xs.length
  nd : out.Nodup
  mem : ∀ i, i < xs.length → (S.cr.getD i false = true ↔ i ∈ out)
  lt : ∀ i, i ∈ out → i < xs.length
  nw : ∀ i, i ∈ out → waitsB xs rs S i = false

theorem ready_some {xs : List ByteArray} {rs : List (List ByteArray)} {S : St} (h : 0 ≤ readyI xs rs S) :
    ∃ i : Nat, readyI xs rs S = (i : Int) ∧ i < xs.length ∧ readyB xs rs S i = true ∧ ∀ q : Nat, q < i → readyB xs rs S q = false := by
  unfold readyI at h ⊢
  cases hf : (List.range xs.length).find? (readyB xs rs S) with
  | none => rw [hf] at h; simp at h
  | some i =>
    rw [List.find?_eq_some_iff_getElem] at hf
    obtain ⟨h1, j, hj, h2, h3⟩ := hf
    simp at hj h2
    subst h2
    refine ⟨j, rfl, hj, h1, fun q hq => ?_⟩
    have := h3 q hq
    simpa using this

theorem ready_neg {xs : List ByteArray} {rs : List (List ByteArray)} {S : St} (h : ¬ 0 ≤ readyI xs rs S) : ∀ q : Nat, q < xs.length → readyB xs rs S q = false := by
  unfold readyI at h
  cases hf : (List.range xs.length).find? (readyB xs rs S) with
  | some i => rw [hf] at h; simp at h
  | none =>
    rw [List.find?_eq_none] at hf
    intro q hq
    have := hf q (by simpa using hq)
    simpa using this

/-- Fewer waits where more is created and more is marked. -/
theorem wf_mono {xs : List ByteArray} {rs : List (List ByteArray)} {S S' : St} (hcr : ∀ j, S.cr.getD j false = true → S'.cr.getD j false = true) (hcl : ∀ i k, clB (S.cl.getD i none) k = true → clB (S'.cl.getD i none) k = true)
    {i k : Nat} (h : wfI xs rs S i k < 0) : wfI xs rs S' i k < 0 := by
  unfold wfI at h ⊢
  cases hp : place xs (ref rs i k) with
  | none => simp
  | some j =>
    rw [hp] at h
    simp only at h ⊢
    split at h
    · rename_i hc
      have : (j == i || S'.cr.getD j false || clB (S'.cl.getD i none) k) = true := by
        simp only [Bool.or_eq_true] at hc ⊢
        rcases hc with (h1 | h1) | h1
        · exact .inl (.inl h1)
        · exact .inl (.inr (hcr j h1))
        · exact .inr (hcl i k h1)
      rw [if_pos this]; omega
    · omega

theorem waits_mono {xs : List ByteArray} {rs : List (List ByteArray)} {S S' : St} (hcr : ∀ j, S.cr.getD j false = true → S'.cr.getD j false = true) (hcl : ∀ i k, clB (S.cl.getD i none) k = true → clB (S'.cl.getD i none) k = true)
    {i : Nat} (h : waitsB xs rs S i = false) : waitsB xs rs S' i = false := by
  refine waits_no fun k hk => wf_mono hcr hcl ?_
  cases hc : decide (0 ≤ wfI xs rs S i k) with
  | true => rw [waits_yes hk (by simpa using hc)] at h; cases h
  | false => simp at hc; omega

theorem cr_place {S : St} {i j : Nat} (hi : i < S.cr.length) : (placeS S i).cr.getD j false = (decide (j = i) || S.cr.getD j false) := by
  unfold placeS
  simp only [List.getD_eq_getElem?_getD, List.getElem?_set]
  by_cases e : i = j
  · subst e; simp [hi]
  · simp [e, Ne.symm e]

theorem cl_mark {rs : List (List ByteArray)} {S : St} {i j k : Nat} (hi : i < S.cl.length) : (markS rs S i k).cl.getD j none = if i = j then some ((rowOf rs S i).set k true) else S.cl.getD j none := by
  unfold markS
  simp only [List.getD_eq_getElem?_getD, List.getElem?_set]
  by_cases e : i = j
  · subst e; simp [hi]
  · simp [e]

theorem row_clB (rs : List (List ByteArray)) (S : St) (i q : Nat) : (rowOf rs S i).getD q false = clB (S.cl.getD i none) q := by
  unfold rowOf clB
  cases S.cl.getD i none with
  | none =>
    simp only [List.getD_eq_getElem?_getD, List.getElem?_replicate]
    split <;> rfl
  | some bs => rfl

theorem clB_mark {rs : List (List ByteArray)} {S : St} {i j k q : Nat} (hi : i < S.cl.length) (h : clB (S.cl.getD j none) q = true) : clB ((markS rs S i k).cl.getD j none) q = true := by
  rw [cl_mark hi]
  by_cases e : i = j
  · subst e
    simp only [if_true, clB]
    rw [← row_clB rs] at h
    simp only [List.getD_eq_getElem?_getD, List.getElem?_set] at h ⊢
    split
    · split
      · rfl
      · rename_i h1 h2; subst h1; rw [List.getElem?_eq_none (by omega)] at h; exact h
    · exact h
  · rw [if_neg e]; exact h

theorem Inv.place {xs : List ByteArray} {rs : List (List ByteArray)} {S : St} {out : List Nat} (h : Inv xs rs S out) {i : Nat} (hi : i < xs.length) (hr : readyB xs rs S i = true) : Inv xs rs (placeS S i) (out ++ [i]) := by
  have hic : i < S.cr.length := by rw [h.ncr]; exact hi
  simp only [readyB, Bool.and_eq_true, Bool.not_eq_true'] at hr
  have hno : i ∉ out := fun hm => by have := (h.mem i hi).2 hm; rw [this] at hr; exact absurd hr.1 (by simp)
  have hm1 : ∀ j, S.cr.getD j false = true → (placeS S i).cr.getD j false = true := fun j hj => by rw [cr_place hic, hj]; simp
  refine ⟨by simp [placeS, h.ncr], h.ncl, ?_, fun j hj => ?_, fun j hj => ?_, fun j hj => ?_⟩
  · rw [List.nodup_append]
    refine ⟨h.nd, by simp, fun a ha b hb e => ?_⟩
    simp at hb; subst hb; subst e; exact hno ha
  · rw [cr_place hic, List.mem_append]
    simp only [Bool.or_eq_true, decide_eq_true_eq, List.mem_singleton, h.mem j hj]
    exact or_comm
  · rcases List.mem_append.1 hj with hj | hj
    · exact h.lt j hj
    · simp at hj; subst hj; exact hi
  · refine waits_mono (S := S) hm1 (fun _ _ h => h) ?_
    rcases List.mem_append.1 hj with hj | hj
    · exact h.nw j hj
    · simp at hj; subst hj; exact hr.2

theorem Inv.mark {xs : List ByteArray} {rs : List (List ByteArray)} {S : St} {out : List Nat} (h : Inv xs rs S out) {i k : Nat} (hi : i < xs.length) : Inv xs rs (markS rs S i k) out := by
  have hic : i < S.cl.length := by rw [h.ncl]; exact hi
  exact ⟨h.ncr, by simp [markS, h.ncl], h.nd, h.mem, h.lt, fun j hj => waits_mono (S := S) (S' := markS rs S i k) (fun _ h => h) (fun a b hb => clB_mark (rs := rs) (k := k) hic hb) (h.nw j hj)⟩

/-- A table that is placed is not the one that gives a key up. -/
theorem Inv.notin {xs : List ByteArray} {rs : List (List ByteArray)} {S : St} {out : List Nat} (h : Inv xs rs S out) {i k : Nat} (hk : k < deg rs i) (hw : 0 ≤ wfI xs rs S i k) : i ∉ out := fun hm => by
  have := h.nw i hm
  rw [waits_yes hk hw] at this
  cases this

theorem Inv.length {xs : List ByteArray} {rs : List (List ByteArray)} {S : St} {out : List Nat} (h : Inv xs rs S out) : out.length ≤ xs.length := by
  have h1 : out ⊆ List.range xs.length := fun i hi => by simpa using h.lt i hi
  have := h.nd.length_le_of_subset h1
  simpa using this

theorem Inv.rest {xs : List ByteArray} {rs : List (List ByteArray)} {S : St} {out : List Nat} (h : Inv xs rs S out) : out.length + (restOf xs.length S).length = xs.length := by
  have hp : (out ++ restOf xs.length S).Perm (List.range xs.length) := by
    refine (List.perm_ext_iff_of_nodup ?_ List.nodup_range).2 fun i => ?_
    · rw [List.nodup_append]
      refine ⟨h.nd, List.Nodup.sublist List.filter_sublist List.nodup_range, fun a ha b hb e => ?_⟩
      subst e
      simp only [restOf, List.mem_filter, List.mem_range, Bool.not_eq_true'] at hb
      have := (h.mem a hb.1).2 ha
      rw [this] at hb; exact absurd hb.2 (by simp)
    · rw [List.mem_append]
      constructor
      · rintro (hi | hi)
        · simpa using h.lt i hi
        · simp only [restOf, List.mem_filter] at hi; exact hi.1
      · intro hi
        have hi' : i < xs.length := by simpa using hi
        cases hc : S.cr.getD i false with
        | true => exact .inl ((h.mem i hi').1 hc)
        | false => right; simp only [restOf, List.mem_filter, List.mem_range, hc]; exact ⟨hi', rfl⟩
  have := hp.length_eq
  simpa using this

/-- How many keys are not marked. -/
def um (rs : List (List ByteArray)) (S : St) (n : Nat) : Nat := ((List.range n).map fun i => ((List.range (deg rs i)).filter fun k => !clB (S.cl.getD i none) k).length).sum

theorem sum_lt {n : Nat} {f g : Nat → Nat} (hle : ∀ i, i < n → f i ≤ g i) {j : Nat} (hj : j < n) (hlt : f j < g j) : ((List.range n).map f).sum < ((List.range n).map g).sum := by
  induction n with
  | zero => omega
  | succ n ih =>
    rw [List.range_succ, List.map_append, List.map_append, List.sum_append, List.sum_append]
    simp only [List.map_cons, List.map_nil, List.sum_cons, List.sum_nil, Nat.add_zero]
    have hn := hle n (by omega)
    by_cases e : j = n
    · subst e
      have : ((List.range j).map f).sum ≤ ((List.range j).map g).sum := by
        clear ih hlt hn hj
        induction j with
        | zero => simp
        | succ m ih =>
          rw [List.range_succ, List.map_append, List.map_append, List.sum_append, List.sum_append]
          simp only [List.map_cons, List.map_nil, List.sum_cons, List.sum_nil, Nat.add_zero]
          have h1 := ih (fun i hi => hle i (by omega))
          have h2 := hle m (by omega)
          omega
      omega
    · have := ih (fun i hi => hle i (by omega)) (by omega)
      omega

theorem filter_sub {p q : Nat → Bool} (h : ∀ x, p x = true → q x = true) : ∀ l : List Nat, List.Sublist (l.filter p) (l.filter q)
  | [] => by simp
  | a :: l => by
    have ih := filter_sub h l
    simp only [List.filter_cons]
    cases hp : p a with
    | true => rw [h a hp]; simpa using ih
    | false =>
      cases hq : q a with
      | true => simpa using ih.cons a
      | false => simpa using ih

theorem um_mark {rs : List (List ByteArray)} {S : St} {n i k : Nat} (hi : i < n) (hic : i < S.cl.length) (hk : k < deg rs i) (hl : k < (rowOf rs S i).length) (h : clB (S.cl.getD i none) k = false) : um rs (markS rs S i k) n < um rs S n := by
  unfold um
  have key : ∀ j q, clB ((markS rs S i k).cl.getD j none) q = false → clB (S.cl.getD j none) q = false := fun j q hq => by
    cases hc : clB (S.cl.getD j none) q with
    | false => rfl
    | true => rw [clB_mark hic hc] at hq; cases hq
  refine sum_lt (j := i) (fun j hj => ?_) hi ?_
  · refine List.Sublist.length_le ?_
    refine filter_sub ?_ _
    intro q hq
    simp only [Bool.not_eq_true'] at hq ⊢
    exact key j q hq
  · have hs : List.Sublist ((List.range (deg rs i)).filter fun q => !clB ((markS rs S i k).cl.getD i none) q) ((List.range (deg rs i)).filter fun q => !clB (S.cl.getD i none) q) := by
      refine filter_sub ?_ _
      intro q hq
      simp only [Bool.not_eq_true'] at hq ⊢
      exact key i q hq
    refine Nat.lt_of_le_of_ne hs.length_le ?_
    intro e
    have heq := hs.eq_of_length e
    have hmem : k ∈ (List.range (deg rs i)).filter fun q => !clB (S.cl.getD i none) q := by
      simp only [List.mem_filter, List.mem_range, h]; exact ⟨hk, rfl⟩
    rw [← heq] at hmem
    simp only [List.mem_filter, Bool.not_eq_true'] at hmem
    have h2 := hmem.2
    rw [cl_mark hic, if_pos rfl] at h2
    simp [clB, hl] at h2
end Go.Proofs.Qxb6603821a.W
