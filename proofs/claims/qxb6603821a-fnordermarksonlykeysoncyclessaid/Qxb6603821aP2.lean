/-
  order(true), as data: what the second and the third law ask of it.
-/
import Derived.Test.Qxb6603821aP1
import Derived.Test.Qxb6603821aMark
import Derived.Test.Qxb6603821aOrd
namespace Go.Proofs.Qxb6603821a.W
open Go.RowKit B
set_option linter.unusedVariables false

/-- What a wait says. -/
theorem wf_pos {xs : List ByteArray} {rs : List (List ByteArray)} {S : St} {i k : Nat} (h : 0 ≤ wfI xs rs S i k) :
    ∃ j : Nat, wfI xs rs S i k = (j : Int) ∧ place xs (ref rs i k) = some j ∧ j ≠ i ∧ S.cr.getD j false = false ∧ clB (S.cl.getD i none) k = false := by
  unfold wfI at h ⊢
  cases hp : place xs (ref rs i k) with
  | none => rw [hp] at h; simp at h
  | some j =>
    rw [hp] at h
    simp only at h ⊢
    by_cases hc : (j == i || S.cr.getD j false || clB (S.cl.getD i none) k) = true
    · rw [if_pos hc] at h; simp at h
    · rw [if_neg hc]
      simp only [Bool.or_eq_true, not_or, Bool.not_eq_true, beq_eq_false_iff_ne] at hc
      exact ⟨j, rfl, rfl, hc.1.1, hc.1.2, hc.2⟩

theorem waits_ex {xs : List ByteArray} {rs : List (List ByteArray)} {S : St} {i : Nat} (h : waitsB xs rs S i = true) : ∃ k, k < deg rs i ∧ 0 ≤ wfI xs rs S i k := by
  unfold waitsB at h
  rw [List.any_eq_true] at h
  obtain ⟨k, hk, hw⟩ := h
  exact ⟨k, by simpa using hk, of_decide_eq_true hw⟩

/-- Where nothing is ready and not all is placed, a table that is not placed waits for one that is not placed. -/
theorem stuck_next {xs : List ByteArray} {rs : List (List ByteArray)} {S : St} {out : List Nat} (h : Inv xs rs S out) (hr : ¬ 0 ≤ readyI xs rs S) {x : Nat} (hx : x < xs.length) (hc : S.cr.getD x false = false) :
    ∃ k j, k < deg rs x ∧ wfI xs rs S x k = ((j : Nat) : Int) ∧ j < xs.length ∧ S.cr.getD j false = false := by
  have hb := ready_neg hr x hx
  have hw : waitsB xs rs S x = true := by simpa only [readyB, hc, Bool.not_false, Bool.true_and, Bool.not_eq_false'] using hb
  obtain ⟨k, hk, hk0⟩ := waits_ex hw
  obtain ⟨j, e, hp, _, hcj, _⟩ := wf_pos hk0
  exact ⟨k, j, hk, e, (place_some hp).1, hcj⟩

/-- A chain of such tables: either it comes back, or it goes on. -/
theorem chain {xs : List ByteArray} {rs : List (List ByteArray)} {S : St} {out : List Nat} (h : Inv xs rs S out) (hr : ¬ 0 ≤ readyI xs rs S) {x0 : Nat} (hx0 : x0 < xs.length) (hc0 : S.cr.getD x0 false = false) :
    ∀ m : Nat, (∃ y k j, y < xs.length ∧ k < deg rs y ∧ wfI xs rs S y k = ((j : Nat) : Int) ∧ Leads (WE xs rs S) j y) ∨
      ∃ (l : List Nat) (z : Nat), l.length = m + 1 ∧ l.Nodup ∧ (∀ i, i ∈ l → i < xs.length ∧ Leads (WE xs rs S) i z) ∧ z < xs.length ∧ S.cr.getD z false = false
  | 0 => .inr ⟨[x0], x0, rfl, by simp, fun i hi => by simp at hi; subst hi; exact ⟨hx0, Leads.refl _⟩, hx0, hc0⟩
  | m + 1 => by
    rcases chain h hr hx0 hc0 m with h1 | ⟨l, z, hl, hnd, hall, hz, hcz⟩
    · exact .inl h1
    · obtain ⟨k, j, hk, e, hj, hcj⟩ := stuck_next h hr hz hcz
      by_cases hm : j ∈ l
      · exact .inl ⟨z, k, j, hz, hk, e, (hall j hm).2⟩
      · refine .inr ⟨j :: l, j, by simp [hl], List.nodup_cons.2 ⟨hm, hnd⟩, fun i hi => ?_, hj, hcj⟩
        rcases List.mem_cons.1 hi with rfl | hi
        · exact ⟨hj, Leads.refl _⟩
        · exact ⟨(hall i hi).1, (hall i hi).2.snoc ⟨k, hk, e⟩⟩

theorem find_full {xs : List ByteArray} {rs : List (List ByteArray)} {lead : St → Nat → Nat → Bool} (hlead : ∀ S j i, lead S j i = true ↔ Leads (WE xs rs S) j i) : FindOk xs rs (findOf xs rs lead) where
  ok := fun S i k hf => by
    obtain ⟨h1, h2, h3⟩ := find_ok hf
    unfold hitB at h3
    simp only [Bool.and_eq_true, decide_eq_true_eq] at h3
    exact ⟨h1, h2, h3.1⟩
  full := fun S out h hlt hr => by
    have hrest := h.rest
    obtain ⟨x0, hx0⟩ : ∃ x, x ∈ restOf xs.length S := List.exists_mem_of_length_pos (by omega)
    simp only [restOf, List.mem_filter, List.mem_range, Bool.not_eq_true'] at hx0
    rcases chain h hr hx0.1 hx0.2 xs.length with ⟨y, k, j, hy, hk, e, hl⟩ | ⟨l, z, hl, hnd, hall, _⟩
    · cases hf : findOf xs rs lead S with
      | some _ => rfl
      | none =>
        exfalso
        have hno : hitB xs rs lead S y k = true := by
          unfold hitB; rw [e]; simp [(hlead S j y).2 hl]
        unfold findOf at hf
        rw [List.findSome?_eq_none_iff] at hf
        have := hf y (by simpa using hy)
        unfold rowHit at this
        simp only [Option.map_eq_none_iff, List.find?_eq_none] at this
        exact this k (by simpa using hk) hno
    · exfalso
      have h1 : l ⊆ List.range xs.length := fun i hi => by simpa using (hall i hi).1
      have := hnd.length_le_of_subset h1
      simp at this
      omega

/-- Table 'i' has a key to another table 'j'. -/
def FE (xs : List ByteArray) (rs : List (List ByteArray)) (i j : Nat) : Prop := ∃ k, k < deg rs i ∧ place xs (ref rs i k) = some j ∧ j ≠ i

theorem WE.fe {xs : List ByteArray} {rs : List (List ByteArray)} {S : St} {i j : Nat} (h : WE xs rs S i j) : FE xs rs i j := by
  obtain ⟨k, hk, e⟩ := h
  obtain ⟨j', e', hp, hne, _, _⟩ := wf_pos (xs := xs) (rs := rs) (S := S) (i := i) (k := k) (by omega)
  obtain rfl : j' = j := by omega
  exact ⟨k, hk, hp, hne⟩

/-- The marks that a table bears: all over its keys, one set; each on a cycle. -/
structure MkOk (xs : List ByteArray) (rs : List (List ByteArray)) (x : Nat) (bs : List Bool) : Prop where
  len : bs.length = deg rs x
  one : true ∈ bs
  cyc : ∀ k, bs.getD k false = true → ∃ j, place xs (ref rs x k) = some j ∧ j ≠ x ∧ Leads (FE xs rs) j x

/-- What holds of order(true) after any number of rounds. -/
structure TT (xs : List ByteArray) (rs : List (List ByteArray)) (S : St) (out : List Nat) : Prop where
  inv : Inv xs rs S out
  mks : ∀ x bs, S.cl.getD x none = some bs → MkOk xs rs x bs
  top : ∀ p (h : p < out.length), ∀ k, k < deg rs out[p] → ∀ j, place xs (ref rs out[p] k) = some j → j ≠ out[p] → clB (S.cl.getD out[p] none) k = false → j ∈ out.take p
  fst : ∀ p (h : p < out.length), ∀ x, x < out[p] → x ∉ out.take p → WaitsIn xs rs (out.take p) x

theorem TT.step {xs : List ByteArray} {rs : List (List ByteArray)} {lead : St → Nat → Nat → Bool} (hlead : ∀ S j i, lead S j i = true ↔ Leads (WE xs rs S) j i) {S : St} {out : List Nat} (h : TT xs rs S out) :
    TT xs rs (stepO xs rs true (findOf xs rs lead) (S, out)).1 (stepO xs rs true (findOf xs rs lead) (S, out)).2 := by
  unfold stepO
  by_cases hr : 0 ≤ readyI xs rs S
  · rw [if_pos hr]
    obtain ⟨i, hi, hlt, hrb, hq⟩ := ready_some hr
    simp only [hi, Int.toNat_natCast]
    refine ⟨h.inv.place hlt hrb, h.mks, fun p hp k hk j hj hne hc => ?_, fun p hp x hx hm => ?_⟩
    · by_cases e : p < out.length
      · rw [List.take_append_of_le_length (by omega)]
        have e1 : (out ++ [i])[p] = out[p] := List.getElem_append_left e
        rw [e1] at hk hj hne hc
        exact h.top p e k hk j hj hne hc
      · simp only [List.length_append, List.length_singleton] at hp
        obtain rfl : p = out.length := by omega
        have e1 : (out ++ [i])[out.length] = i := by simp
        rw [e1] at hk hj hne hc
        rw [List.take_append_of_le_length (by omega), List.take_length]
        have hjl := (place_some hj).1
        rw [← h.inv.mem j hjl]
        cases hcj : S.cr.getD j false with
        | true => rfl
        | false =>
          exfalso
          have hw := (wf_none (xs := xs) (rs := rs) (S := S) (i := i) (k := k) hc).2 ⟨j, hj, hne, hcj⟩
          have := waits_yes hk hw
          simp only [readyB, this, Bool.not_true, Bool.and_false] at hrb
          cases hrb
    · by_cases e : p < out.length
      · rw [List.take_append_of_le_length (by omega)] at hm ⊢
        have e1 : (out ++ [i])[p] = out[p] := List.getElem_append_left e
        rw [e1] at hx
        exact h.fst p e x hx hm
      · simp only [List.length_append, List.length_singleton] at hp
        obtain rfl : p = out.length := by omega
        have e1 : (out ++ [i])[out.length] = i := by simp
        rw [e1] at hx
        rw [List.take_append_of_le_length (by omega), List.take_length] at hm ⊢
        have hrx := hq x hx
        have hcx : S.cr.getD x false = false := by
          cases hcx : S.cr.getD x false with
          | false => rfl
          | true => exact absurd ((h.inv.mem x (by omega)).1 hcx) hm
        have hw : waitsB xs rs S x = true := by simpa only [readyB, hcx, Bool.not_false, Bool.true_and, Bool.not_eq_false'] using hrx
        obtain ⟨k, hk, hk0⟩ := waits_ex hw
        obtain ⟨j, _, hp, hne, hcj, _⟩ := wf_pos hk0
        exact ⟨k, hk, j, hp, hne, fun hmj => by rw [(h.inv.mem j (place_some hp).1).2 hmj] at hcj; cases hcj⟩
  · rw [if_neg hr]
    simp only [if_true]
    cases hf : findOf xs rs lead S with
    | none =>
      have hlen : out.length = xs.length := by
        by_cases e : out.length < xs.length
        · have := (find_full hlead).full S out h.inv e hr
          rw [hf] at this; cases this
        · have := h.inv.length; omega
      have hrest : restOf xs.length S = [] := by
        have := h.inv.rest
        exact List.length_eq_zero_iff.1 (by omega)
      simp only [hrest, List.append_nil]
      exact h
    | some q =>
      obtain ⟨i, k⟩ := q
      obtain ⟨h1, h2, h3⟩ := find_ok hf
      unfold hitB at h3
      simp only [Bool.and_eq_true, decide_eq_true_eq] at h3
      obtain ⟨h4, h5⟩ := h3
      have hic : i < S.cl.length := by rw [h.inv.ncl]; exact h1
      obtain ⟨j, e, hp, hne, hcj, hcl⟩ := wf_pos h4
      rw [e, Int.toNat_natCast, hlead] at h5
      have hrl : (rowOf rs S i).length = deg rs i := by
        unfold rowOf
        cases hs : S.cl.getD i none with
        | none => simp
        | some bs => exact (h.mks i bs hs).len
      refine ⟨h.inv.mark h1, fun x bs hbs => ?_, fun p hp' q hq j' hj' hne' hc' => ?_, h.fst⟩
      · rw [show (markS rs S i k, out).1 = markS rs S i k from rfl, cl_mark hic] at hbs
        by_cases ex : i = x
        · subst ex
          rw [if_pos rfl] at hbs
          obtain rfl := Option.some.inj hbs
          refine ⟨by rw [List.length_set, hrl], ?_, fun q hq => ?_⟩
          · exact List.mem_iff_getElem.2 ⟨k, by rw [List.length_set, hrl]; exact h2, by simp⟩
          · by_cases eq : q = k
            · subst eq
              exact ⟨j, hp, hne, h5.mono fun _ _ => WE.fe⟩
            · have hq' : (rowOf rs S i).getD q false = true := by
                simpa [List.getD_eq_getElem?_getD, List.getElem?_set, Ne.symm eq] using hq
              unfold rowOf at hq'
              cases hs : S.cl.getD i none with
              | none =>
                rw [hs] at hq'
                simp only [List.getD_eq_getElem?_getD, List.getElem?_replicate] at hq'
                split at hq' <;> cases hq'
              | some cs => rw [hs] at hq'; exact (h.mks i cs hs).cyc q hq'
        · rw [if_neg ex] at hbs; exact h.mks x bs hbs
      · refine h.top p hp' q hq j' hj' hne' ?_
        cases hc : clB (S.cl.getD out[p] none) q with
        | false => rfl
        | true => rw [show (markS rs S i k, out).1 = markS rs S i k from rfl] at hc'; rw [clB_mark (rs := rs) (k := k) hic hc] at hc'; cases hc'

theorem tt_iter {xs : List ByteArray} {rs : List (List ByteArray)} {lead : St → Nat → Nat → Bool} (hlead : ∀ S j i, lead S j i = true ↔ Leads (WE xs rs S) j i) : ∀ t, TT xs rs (iterO xs rs true (findOf xs rs lead) t (S00 xs.length, [])).1 (iterO xs rs true (findOf xs rs lead) t (S00 xs.length, [])).2
  | 0 => by
    show TT xs rs (S00 xs.length) []
    refine ⟨inv00 xs rs, fun x bs hbs => ?_, fun p hp => absurd hp (by simp), fun p hp => absurd hp (by simp)⟩
    rw [none00 xs.length x] at hbs
    cases hbs
  | t + 1 => TT.step hlead (tt_iter hlead t)

/-- Up to the first table with a mark it is the order without closing. -/
theorem TT.agree {xs : List ByteArray} {rs : List (List ByteArray)} {S : St} {out outF : List Nat} {m : Nat} (h : TT xs rs S out) (hl : out.length = xs.length) (hF : Least xs rs outF m) :
    ∀ p (hp : p < out.length) (hpF : p < outF.length), (∀ r (hr : r < out.length), r ≤ p → ∀ k, clB (S.cl.getD out[r] none) k = false) → out[p] = outF[p] ∧ p < m := by
  have key : ∀ p (hp : p ≤ out.length), (∀ r (hr : r < out.length), r < p → ∀ k, clB (S.cl.getD out[r] none) k = false) → out.take p = outF.take p ∧ p ≤ m := by
    intro p
    induction p with
    | zero => intro _ _; exact ⟨rfl, Nat.zero_le _⟩
    | succ p ih =>
      intro hp hno
      obtain ⟨ht, hm⟩ := ih (by omega) (fun r hr hrp => hno r hr (by omega))
      have hp1 : p < out.length := by omega
      have hpF : p < outF.length := by rw [hF.len]; omega
      have hnw : ¬ WaitsIn xs rs (out.take p) out[p] := by
        rintro ⟨k, hk, j, hj, hne, hmj⟩
        exact hmj (h.top p hp1 k hk j hj hne (hno p hp1 (by omega) k))
      have hnot : out[p] ∉ out.take p := fun hmem => by
        obtain ⟨r, hr, er⟩ := List.mem_iff_getElem.1 hmem
        simp only [List.length_take] at hr
        rw [List.getElem_take] at er
        have := (List.getElem_inj h.inv.nd).1 er
        omega
      have hnotF : outF[p] ∉ outF.take p := fun hmem => by
        obtain ⟨r, hr, er⟩ := List.mem_iff_getElem.1 hmem
        simp only [List.length_take] at hr
        rw [List.getElem_take] at er
        have := (List.getElem_inj hF.nd).1 er
        omega
      have hpm : p < m := by
        by_cases e : p < m
        · exact e
        · obtain rfl : p = m := by omega
          exfalso
          have hx := hF.full (h.inv.lt _ (List.getElem_mem hp1))
          obtain ⟨q, hq, eq⟩ := List.mem_iff_getElem.1 hx
          have hpq : p ≤ q := by
            by_cases e' : p ≤ q
            · exact e'
            · exfalso
              apply hnot
              rw [ht, ← eq]
              exact List.mem_iff_getElem.2 ⟨q, by simp; omega, by rw [List.getElem_take]⟩
          have := hF.rest q hq hpq
          rw [eq, ← ht] at this
          exact hnw this
      have heq : out[p] = outF[p] := by
        have hled := hF.led p hpF hpm
        have hfst := h.fst p hp1
        by_cases e1 : out[p] < outF[p]
        · exfalso
          have := hled.2 out[p] e1 (by rw [← ht]; exact hnot)
          rw [← ht] at this
          exact hnw this
        · by_cases e2 : outF[p] < out[p]
          · exfalso
            have := hfst outF[p] e2 (by rw [ht]; exact hnotF)
            rw [ht] at this
            exact hled.1 this
          · omega
      refine ⟨?_, by omega⟩
      rw [List.take_succ_eq_append_getElem hp1, List.take_succ_eq_append_getElem hpF, ht, heq]
  intro p hp hpF hno
  obtain ⟨h1, h2⟩ := key (p + 1) (by omega) (fun r hr hrp => hno r hr (by omega))
  refine ⟨?_, by omega⟩
  have e1 : (out.take (p + 1))[p]? = (outF.take (p + 1))[p]? := by rw [h1]
  rw [List.getElem?_take_of_lt (by omega), List.getElem?_take_of_lt (by omega), List.getElem?_eq_getElem hp, List.getElem?_eq_getElem hpF] at e1
  exact Option.some.inj e1
end Go.Proofs.Qxb6603821a.W
