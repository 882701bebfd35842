/-
  Which table leads to which: no Go in sight.
-/
import Derived.Test.Qxb6603821aPure
namespace Go.Proofs.Qxb6603821a.W
open Go.RowKit B
set_option linter.unusedVariables false

/-- A way of 'n' steps. -/
def Way (E : Nat → Nat → Prop) : Nat → Nat → Nat → Prop
  | 0, a, b => a = b
  | n + 1, a, b => ∃ c, E a c ∧ Way E n c b
def Leads (E : Nat → Nat → Prop) (a b : Nat) : Prop := ∃ n, Way E n a b

theorem Leads.refl {E : Nat → Nat → Prop} (a : Nat) : Leads E a a := ⟨0, rfl⟩
theorem Leads.head {E : Nat → Nat → Prop} {a b c : Nat} (h : E a b) : Leads E b c → Leads E a c := fun ⟨n, hn⟩ => ⟨n + 1, b, h, hn⟩
theorem Leads.trans {E : Nat → Nat → Prop} {a b c : Nat} (h : Leads E a b) (h' : Leads E b c) : Leads E a c := by
  obtain ⟨n, hn⟩ := h
  induction n generalizing a with
  | zero => rw [show a = b from hn]; exact h'
  | succ n ih => obtain ⟨d, h1, h2⟩ := hn; exact Leads.head h1 (ih h2)
theorem Leads.snoc {E : Nat → Nat → Prop} {a b c : Nat} (h : Leads E a b) (h' : E b c) : Leads E a c := h.trans (Leads.head h' (Leads.refl _))

/-- A set that holds 'a' and is shut under the steps holds all that 'a' leads to. -/
theorem Leads.shut {E : Nat → Nat → Prop} {p : Nat → Prop} (hs : ∀ i j, p i → E i j → p j) {a b : Nat} (ha : p a) (h : Leads E a b) : p b := by
  obtain ⟨n, hn⟩ := h
  induction n generalizing a with
  | zero => rw [← show a = b from hn]; exact ha
  | succ n ih => obtain ⟨d, h1, h2⟩ := hn; exact ih (hs _ _ ha h1) h2

theorem Leads.mono {E F : Nat → Nat → Prop} (h : ∀ i j, E i j → F i j) {a b : Nat} (hl : Leads E a b) : Leads F a b := by
  obtain ⟨n, hn⟩ := hl
  induction n generalizing a with
  | zero => exact ⟨0, hn⟩
  | succ n ih => obtain ⟨d, h1, h2⟩ := hn; exact Leads.head (h _ _ h1) (ih h2)

/-- Table 'i' waits for table 'j'. -/
def WE (xs : List ByteArray) (rs : List (List ByteArray)) (S : St) (i j : Nat) : Prop := ∃ k, k < deg rs i ∧ wfI xs rs S i k = (j : Int)

/-- The tables that 'i's first 'k' keys wait for, in order. -/
def nextTo (xs : List ByteArray) (rs : List (List ByteArray)) (S : St) (i k : Nat) : List Nat := ((List.range k).filter fun q => decide (0 ≤ wfI xs rs S i q)).map fun q => (wfI xs rs S i q).toNat

theorem nextTo_succ_pos {xs : List ByteArray} {rs : List (List ByteArray)} {S : St} {i k : Nat} (h : 0 ≤ wfI xs rs S i k) : nextTo xs rs S i (k + 1) = nextTo xs rs S i k ++ [(wfI xs rs S i k).toNat] := by
  unfold nextTo
  rw [List.range_succ, List.filter_append, List.map_append]
  congr 1
  simp [h]
theorem nextTo_succ_neg {xs : List ByteArray} {rs : List (List ByteArray)} {S : St} {i k : Nat} (h : ¬ 0 ≤ wfI xs rs S i k) : nextTo xs rs S i (k + 1) = nextTo xs rs S i k := by
  unfold nextTo
  rw [List.range_succ, List.filter_append, List.map_append]
  simp [h]
theorem nextTo_len (xs : List ByteArray) (rs : List (List ByteArray)) (S : St) (i k : Nat) : (nextTo xs rs S i k).length ≤ k := by
  unfold nextTo
  rw [List.length_map]
  have := List.length_filter_le (fun q => decide (0 ≤ wfI xs rs S i q)) (List.range k)
  simpa using this
theorem nextTo_lt {xs : List ByteArray} {rs : List (List ByteArray)} {S : St} {i k : Nat} : ∀ j, j ∈ nextTo xs rs S i k → j < xs.length := fun j hj => by
  obtain ⟨q, hq, rfl⟩ := List.mem_map.1 hj
  have h1 := (List.mem_filter.1 hq).2
  have h2 := wf_lt xs rs S i q
  have h3 := of_decide_eq_true h1
  omega
theorem mem_next {xs : List ByteArray} {rs : List (List ByteArray)} {S : St} {i j : Nat} : j ∈ nextTo xs rs S i (deg rs i) ↔ WE xs rs S i j := by
  unfold nextTo WE
  rw [List.mem_map]
  constructor
  · rintro ⟨q, hq, rfl⟩
    obtain ⟨h1, h2⟩ := List.mem_filter.1 hq
    have h3 := of_decide_eq_true h2
    exact ⟨q, by simpa using h1, by omega⟩
  · rintro ⟨q, hq, e⟩
    exact ⟨q, List.mem_filter.2 ⟨by simpa using hq, decide_eq_true (by omega)⟩, by omega⟩

/-- What holds of the tables seen and of those on the stack. -/
structure LI (xs : List ByteArray) (rs : List (List ByteArray)) (S : St) (fr to : Nat) (seen : List Bool) (st : List Nat) : Prop where
  len : seen.length = xs.length
  lt : ∀ i, i ∈ st → i < xs.length
  got : ∀ i, i ∈ st → Leads (WE xs rs S) fr i
  shut : ∀ i j, seen.getD i false = true → WE xs rs S i j → seen.getD j false = true ∨ j ∈ st
  no : seen.getD to false = false
  start : seen.getD fr false = true ∨ fr ∈ st

/-- How many keys the unseen tables have. -/
def ud (rs : List (List ByteArray)) (seen : List Bool) : Nat := ((List.range seen.length).map fun i => if seen.getD i false then 0 else deg rs i).sum

theorem LI.new {xs : List ByteArray} {rs : List (List ByteArray)} {S : St} {fr to : Nat} (h : fr < xs.length) : LI xs rs S fr to (List.replicate xs.length false) [fr] := by
  have hf : ∀ i, (List.replicate xs.length false).getD i false = false := fun i => by
    rw [List.getD_eq_getElem?_getD, List.getElem?_replicate]; split <;> rfl
  refine ⟨by simp, fun i hi => ?_, fun i hi => ?_, fun i j hi => ?_, hf _, .inr (by simp)⟩
  · simp at hi; omega
  · simp at hi; subst hi; exact Leads.refl _
  · rw [hf] at hi; cases hi

theorem LI.skip {xs : List ByteArray} {rs : List (List ByteArray)} {S : St} {fr to : Nat} {seen : List Bool} {st : List Nat} {i : Nat} (h : LI xs rs S fr to seen (st ++ [i])) (hs : seen.getD i false = true) : LI xs rs S fr to seen st := by
  have hm : ∀ j, seen.getD j false = true ∨ j ∈ st ++ [i] → seen.getD j false = true ∨ j ∈ st := fun j hj => by
    rcases hj with hj | hj
    · exact .inl hj
    · rcases List.mem_append.1 hj with hj | hj
      · exact .inr hj
      · simp at hj; subst hj; exact .inl hs
  exact ⟨h.len, fun j hj => h.lt j (List.mem_append.2 (.inl hj)), fun j hj => h.got j (List.mem_append.2 (.inl hj)), fun a b ha hb => hm _ (h.shut a b ha hb), h.no, hm _ h.start⟩

theorem getD_set {seen : List Bool} {i j : Nat} (hi : i < seen.length) : (seen.set i true).getD j false = (decide (j = i) || seen.getD j false) := by
  simp only [List.getD_eq_getElem?_getD, List.getElem?_set]
  by_cases e : i = j
  · subst e; simp [hi]
  · simp [e, Ne.symm e]

theorem LI.visit {xs : List ByteArray} {rs : List (List ByteArray)} {S : St} {fr to : Nat} {seen : List Bool} {st : List Nat} {i : Nat} (h : LI xs rs S fr to seen (st ++ [i])) (hne : i ≠ to) :
    LI xs rs S fr to (seen.set i true) (st ++ nextTo xs rs S i (deg rs i)) := by
  have hi : i < seen.length := by rw [h.len]; exact h.lt i (by simp)
  have hm : ∀ j, seen.getD j false = true ∨ j ∈ st ++ [i] → (seen.set i true).getD j false = true ∨ j ∈ st ++ nextTo xs rs S i (deg rs i) := fun j hj => by
    rw [getD_set hi]
    rcases hj with hj | hj
    · left; rw [hj]; simp
    · rcases List.mem_append.1 hj with hj | hj
      · exact .inr (List.mem_append.2 (.inl hj))
      · simp at hj; subst hj; left; simp
  refine ⟨by simp [h.len], fun j hj => ?_, fun j hj => ?_, fun a b ha hb => ?_, ?_, hm _ h.start⟩
  · rcases List.mem_append.1 hj with hj | hj
    · exact h.lt j (List.mem_append.2 (.inl hj))
    · exact nextTo_lt j hj
  · rcases List.mem_append.1 hj with hj | hj
    · exact h.got j (List.mem_append.2 (.inl hj))
    · exact (h.got i (by simp)).snoc (mem_next.1 hj)
  · rw [getD_set hi] at ha
    by_cases e : a = i
    · subst e; exact .inr (List.mem_append.2 (.inr (mem_next.2 hb)))
    · rw [decide_eq_false e, Bool.false_or] at ha
      exact hm _ (h.shut a b ha hb)
  · rw [getD_set hi, h.no, decide_eq_false (Ne.symm hne)]; rfl

/-- Nothing on the stack: 'to' is not led to. -/
theorem LI.done {xs : List ByteArray} {rs : List (List ByteArray)} {S : St} {fr to : Nat} {seen : List Bool} (h : LI xs rs S fr to seen []) : ¬ Leads (WE xs rs S) fr to := fun hl => by
  have := Leads.shut (p := fun i => seen.getD i false = true) (fun i j hi hj => by
    rcases h.shut i j hi hj with h1 | h1
    · exact h1
    · cases h1) (by
    rcases h.start with h1 | h1
    · exact h1
    · cases h1) hl
  rw [h.no] at this; cases this

theorem sum_pull {n : Nat} {f g : Nat → Nat} {i d : Nat} (hi : i < n) (hne : ∀ j, j ≠ i → f j = g j) (he : f i + d = g i) : ((List.range n).map f).sum + d = ((List.range n).map g).sum := by
  induction n with
  | zero => omega
  | succ n ih =>
    rw [List.range_succ, List.map_append, List.map_append, List.sum_append, List.sum_append]
    simp only [List.map_cons, List.map_nil, List.sum_cons, List.sum_nil]
    by_cases e : i = n
    · subst e
      have : ((List.range i).map f) = ((List.range i).map g) := List.map_congr_left fun j hj => hne j (by simp at hj; omega)
      rw [this]; omega
    · have := ih (by omega)
      rw [hne n (Ne.symm e)]; omega

theorem ud_set {rs : List (List ByteArray)} {seen : List Bool} {i : Nat} (hi : i < seen.length) (hs : seen.getD i false = false) : ud rs (seen.set i true) + deg rs i = ud rs seen := by
  unfold ud
  rw [List.length_set]
  refine sum_pull hi (fun j hj => ?_) ?_
  · rw [getD_set hi, decide_eq_false hj, Bool.false_or]
  · rw [getD_set hi, hs]; simp

theorem ud_le {rs : List (List ByteArray)} {n b : Nat} (h : ∀ i, deg rs i ≤ b) : ud rs (List.replicate n false) ≤ n * b := by
  unfold ud
  rw [List.length_replicate]
  have : ∀ (m : Nat), ((List.range m).map fun i => if (List.replicate n false).getD i false then 0 else deg rs i).sum ≤ m * b := by
    intro m
    induction m with
    | zero => simp
    | succ m ih =>
      rw [List.range_succ, List.map_append, List.sum_append, Nat.succ_mul]
      simp only [List.map_cons, List.map_nil, List.sum_cons, List.sum_nil]
      have := h m
      split <;> omega
  exact this n
end Go.Proofs.Qxb6603821a.W
