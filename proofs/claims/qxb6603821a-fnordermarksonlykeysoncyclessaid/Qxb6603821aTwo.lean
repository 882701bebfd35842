/-
  ZZOrder(.., true): what laws 2 and 3 take of it.
-/
import Derived.Test.Qxb6603821aP2
import Derived.Test.Qxb6603821aClose
import Derived.Test.Qxb6603821aL1
namespace Go.Proofs.Qxb6603821a.W
open Go.RowKit B
set_option linter.unusedVariables false

def mkOf (S : St) (out : List Nat) (p : Nat) : List Bool := match S.cl.getD (out.getD p 0) none with
  | none => []
  | some bs => bs

structure Two (xs : List ByteArray) (rs : List (List ByteArray)) (out : List Nat) (mk : Nat → List Bool) : Prop where
  nd : out.Nodup
  lt : ∀ i, i ∈ out → i < xs.length
  len : out.length = xs.length
  mks : ∀ p x, out[p]? = some x → mk p = [] ∨ ((mk p).length = deg rs x ∧ (mk p).any id = true)
  key : ∀ p x, out[p]? = some x → ∀ k, k < deg rs x → ∀ j, place xs (ref rs x k) = some j → j ≠ x → (mk p).getD k false = false → posI out j < p
  agree : ∀ outF m, Least xs rs outF m → ∀ q, q ≤ xs.length → (∀ r, r < q → (mk r).any id = false) → ∀ p, p < q → outF[p]? = out[p]?
  cyc : ∀ p x, out[p]? = some x → ∀ k, (mk p).getD k false = true → ∃ j, place xs (ref rs x k) = some j ∧ j ≠ x ∧ Leads (FE xs rs) j x

theorem Two.full {xs : List ByteArray} {rs : List (List ByteArray)} {out : List Nat} {mk : Nat → List Bool} (h : Two xs rs out mk) {j : Nat} (hj : j < xs.length) : j ∈ out := by
  by_cases hm : j ∈ out
  · exact hm
  · have h1 : (j :: out) ⊆ List.range xs.length := fun i hi => by
      rcases List.mem_cons.1 hi with rfl | hi
      · simpa using hj
      · simpa using h.lt i hi
    have := (List.nodup_cons.2 ⟨hm, h.nd⟩).length_le_of_subset h1
    simp at this
    have := h.len
    omega

theorem mk_at {S : St} {out : List Nat} {p x : Nat} (h : out[p]? = some x) : mkOf S out p = match S.cl.getD x none with | none => [] | some bs => bs := by
  unfold mkOf
  have e : out.getD p 0 = x := by rw [List.getD_eq_getElem?_getD, h]; rfl
  rw [e]

theorem mk_clB {S : St} {out : List Nat} {p x : Nat} (h : out[p]? = some x) (k : Nat) : (mkOf S out p).getD k false = clB (S.cl.getD x none) k := by
  rw [mk_at h]
  cases S.cl.getD x none with
  | none => simp [clB]
  | some bs => rfl

theorem any_no {bs : List Bool} (h : bs.any id = false) (k : Nat) : bs.getD k false = false := by
  rw [List.any_eq_false] at h
  by_cases hk : k < bs.length
  · have := h bs[k] (List.getElem_mem hk)
    simp only [List.getD_eq_getElem?_getD, List.getElem?_eq_getElem hk, Option.getD_some]
    simpa using this
  · rw [List.getD_eq_getElem?_getD, List.getElem?_eq_none (by omega)]; rfl

theorem TT.two {xs : List ByteArray} {rs : List (List ByteArray)} {S : St} {out : List Nat} (h : TT xs rs S out) (hl : out.length = xs.length) : Two xs rs out (mkOf S out) := by
  have hfull : ∀ j, j < xs.length → j ∈ out := fun j hj => by
    by_cases hm : j ∈ out
    · exact hm
    · have h1 : (j :: out) ⊆ List.range xs.length := fun i hi => by
        rcases List.mem_cons.1 hi with rfl | hi
        · simpa using hj
        · simpa using h.inv.lt i hi
      have := (List.nodup_cons.2 ⟨hm, h.inv.nd⟩).length_le_of_subset h1
      simp at this
      omega
  refine ⟨h.inv.nd, h.inv.lt, hl, fun p x hx => ?_, fun p x hx k hk j hj hne hc => ?_, fun outF m hF q hq hno p hp => ?_, fun p x hx k hk => ?_⟩
  · rw [mk_at hx]
    cases hs : S.cl.getD x none with
    | none => exact .inl rfl
    | some bs => exact .inr ⟨(h.mks x bs hs).len, List.any_eq_true.2 ⟨true, (h.mks x bs hs).one, rfl⟩⟩
  · rw [mk_clB hx] at hc
    obtain ⟨hp, e⟩ := List.getElem?_eq_some_iff.1 hx
    subst e
    have hm := h.top p hp k hk j hj hne hc
    have := (pos_take h.inv.nd (p := p) (hfull j (place_some hj).1)).1
    by_cases e : posI out j < p
    · exact e
    · exact absurd hm (this (by omega))
  · have hpo : p < out.length := by omega
    have hpF : p < outF.length := by rw [hF.len]; omega
    have := (h.agree hl hF p hpo hpF (fun r hr hrp k => by
      rw [← mk_clB (S := S) (List.getElem?_eq_getElem hr)]
      exact any_no (hno r (by omega)) k)).1
    rw [List.getElem?_eq_getElem hpo, List.getElem?_eq_getElem hpF, this]
  · rw [mk_clB hx] at hk
    cases hs : S.cl.getD x none with
    | none => rw [hs] at hk; cases hk
    | some bs => rw [hs] at hk; exact (h.mks x bs hs).cyc k hk

/-- The rows of marks that ZZOrder hands out. -/
structure ZM (n : Nat) (mk : Nat → List Bool) (bC : Nat) (w : World) : Prop where
  at' : ∀ p, p < n → ∃ va, w.cell? ⟨bC, p, none⟩ = some (.slice va (mk p).length (mk p).length) ∧ Sl w va ((mk p).map .bool) ∧ ((va = none ∧ mk p = []) ∨ (mk p ≠ [] ∧ ∃ b o, va = some ⟨b, o, none⟩))
  lt : bC < w.heap.size

theorem ZM.below {n : Nat} {mk : Nat → List Bool} {bC : Nat} {w w' : World} (h : ZM n mk bC w) (hb : Below w.heap.size w w') : ZM n mk bC w' :=
  ⟨fun p hp => by
    obtain ⟨va, h1, h2, h3⟩ := h.at' p hp
    exact ⟨va, (hb.cell (p := ⟨bC, p, none⟩) h.lt).trans h1, Sl.below h2 hb, h3⟩, Nat.lt_of_lt_of_le h.lt hb.size⟩

/-- The answer of ZZOrder(.., true). -/
def TwoPost (xs : List ByteArray) (rs : List (List ByteArray)) (n : Nat) (w : World) (e : Ending) (w' : World) : Prop :=
  ∃ out mk bN bC, e = .returned (.tuple #[.slice (some ⟨bN, 0, none⟩) n n, .slice (some ⟨bC, 0, none⟩) n n]) ∧ Two xs rs out mk ∧ ZM n mk bC w' ∧ bN < w'.heap.size ∧ Sl w' (some ⟨bN, 0, none⟩) (out.map fun i => .string (xs.getD i ⟨#[]⟩)) ∧ Below w.heap.size w w'

theorem zzT (a1 a2 : Option Addr) (c1 c2 : Nat) (xs : List ByteArray) (rs : List (List ByteArray)) (w : World) (hs : Small xs rs) (hnd : xs.Nodup) (s1 : Sl w a1 (xs.map .string)) (s2 : Sl2 .string w a2 rs) :
    Calls Try.prog 21 #[.slice a1 xs.length c1, .slice a2 rs.length c2, .bool true] w (TwoPost xs rs xs.length w) := by
  obtain ⟨lead, hlead⟩ : ∃ lead : St → Nat → Nat → Bool, ∀ S j i, lead S j i = true ↔ Leads (WE xs rs S) j i := ⟨fun S j i => @decide (Leads (WE xs rs S) j i) (Classical.propDecidable _), fun S j i => by simp⟩
  have h := zz_any a1 a2 c1 c2 xs rs true (findOf xs rs lead) w hs.n hs.same (keys_deg hs.keys) hnd s1 s2 (inv00 xs rs) (fun _ => find_full hlead) (fun _ S L w hG => close_any xs rs lead hlead L S w hG hs.n (keys_deg hs.keys))
    (fun t S out e => by have := (tt_iter hlead t).inv.lt; rw [e] at this; exact this)
  refine h.mono ?_
  rintro e w' ⟨S, out, t, bN, bC, rfl, hit, hl, hlt, hz, hb⟩
  have ht := tt_iter hlead t
  rw [hit] at ht
  refine ⟨out, mkOf S out, bN, bC, rfl, TT.two ht hl, ⟨fun p hp => ?_, hz.lC⟩, hz.lN, Sl.of_cells hz.names hz.lN, hb⟩
  have hpo : p < out.length := by omega
  obtain ⟨va, vn, hc, h0, h1⟩ := hz.marks p hpo
  have hx := List.getElem?_eq_getElem hpo
  rw [mk_at hx]
  cases hcl : S.cl.getD out[p] none with
  | none =>
    obtain ⟨rfl, rfl⟩ := h0 hcl
    exact ⟨none, hc, fun i hi => absurd hi (by simp), .inl ⟨rfl, rfl⟩⟩
  | some bs =>
    obtain ⟨rfl, hva, hsl⟩ := h1 bs hcl
    have hone := (ht.mks _ _ hcl).one
    have hne : bs ≠ [] := fun e => by subst e; cases hone
    obtain ⟨b, o, e, _⟩ := hsl 0 (by simpa using List.length_pos_iff.2 hne)
    exact ⟨va, hc, hsl, .inr ⟨hne, b, o, e⟩⟩

/-- A row of targets. -/
theorem tg_at {xs : List ByteArray} {rs : List (List ByteArray)} {w : World} {bt : Nat} (ht : Sl2 (.int .i64) w (some ⟨bt, 0, none⟩) (tgOf xs rs)) {x : Nat} (hx : x < rs.length) :
    ∃ a' cap', w.cell? ⟨bt, x, none⟩ = some (.slice a' (deg rs x) cap') ∧ bt < w.heap.size ∧ ∀ k, k < deg rs x → ∃ b o, a' = some ⟨b, o, none⟩ ∧ b < w.heap.size ∧ w.cell? ⟨b, o + k, none⟩ = some (.int .i64 (tgI xs (ref rs x k))) := by
  have hx' : x < (tgOf xs rs).length := by simpa [tgOf] using hx
  obtain ⟨b, off, a', cap', e, hb, hc, hs⟩ := ht x hx'
  cases e
  have hrow : (tgOf xs rs)[x] = rs[x].map (tgI xs) := by simp [tgOf]
  have hd : deg rs x = rs[x].length := by simp [deg, hx]
  rw [hrow] at hc hs
  rw [Nat.zero_add, List.length_map, ← hd] at hc
  refine ⟨a', cap', hc, hb, fun k hk => ?_⟩
  rw [hd] at hk
  obtain ⟨b1, o1, e1, h1, c1⟩ := hs k (by simpa using hk)
  refine ⟨b1, o1, e1, h1, ?_⟩
  rw [c1]
  simp [ref, hx, hk]
end Go.Proofs.Qxb6603821a.W
