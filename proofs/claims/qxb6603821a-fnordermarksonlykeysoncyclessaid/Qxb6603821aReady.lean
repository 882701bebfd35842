/-
  waits (35), ready (32).
-/
import Derived.Test.Qxb6603821aWf
namespace Go.Proofs.Qxb6603821a.W
open Go.RowKit B
set_option linter.unusedVariables false

def waitsB (xs : List ByteArray) (rs : List (List ByteArray)) (S : St) (i : Nat) : Bool := (List.range (deg rs i)).any fun k => decide (0 ≤ wfI xs rs S i k)
def readyB (xs : List ByteArray) (rs : List (List ByteArray)) (S : St) (i : Nat) : Bool := !S.cr.getD i false && !waitsB xs rs S i
/-- ready, as data. -/
def readyI (xs : List ByteArray) (rs : List (List ByteArray)) (S : St) : Int := match (List.range xs.length).find? (readyB xs rs S) with
  | some i => i
  | none => -1

theorem waits_yes {xs : List ByteArray} {rs : List (List ByteArray)} {S : St} {i k : Nat} (hk : k < deg rs i) (h : 0 ≤ wfI xs rs S i k) : waitsB xs rs S i = true := by
  unfold waitsB; rw [List.any_eq_true]; exact ⟨k, by simpa using hk, by simpa using h⟩
theorem waits_no {xs : List ByteArray} {rs : List (List ByteArray)} {S : St} {i : Nat} (h : ∀ k, k < deg rs i → wfI xs rs S i k < 0) : waitsB xs rs S i = false := by
  unfold waitsB; rw [List.any_eq_false]; intro k hk; have := h k (by simpa using hk); simp; omega

theorem wf_lt (xs : List ByteArray) (rs : List (List ByteArray)) (S : St) (i k : Nat) : -1 ≤ wfI xs rs S i k ∧ wfI xs rs S i k < (xs.length : Int) := by
  unfold wfI
  cases hp : place xs (ref rs i k) with
  | none => simp; omega
  | some j =>
    obtain ⟨hj, _⟩ := place_some hp
    simp only
    split <;> omega

set_option maxHeartbeats 400000 in
theorem waits_any (xs : List ByteArray) (rs : List (List ByteArray)) (L : Lay) (S : St) (i : Nat) (w : World) (hG : Gr xs rs L w S) (hn : xs.length ≤ 256) (hi : i < xs.length) (hm : deg rs i ≤ 4096) :
    Calls Try.prog 35 #[.pointer (some ⟨L.bg, 0, none⟩), .int .i64 i] w fun e w' => e = .returned (.bool (waitsB xs rs S i)) ∧ Below w.heap.size w w' := by
  have hi' : i < rs.length := by rw [hG.same]; exact hi
  have hd : deg rs i = rs[i].length := by simp [deg, hi']
  have g0 := hG.g0
  have t0 := hG.t i hi
  have f0 := hG.fk i hi'
  rw [← hd] at f0
  have HW := hide (wf_any xs rs L S i)
  have HGr := hide hG
  obtain ⟨m, hmm⟩ : ∃ m, deg rs i = m := ⟨_, rfl⟩
  have HM := hide hmm
  have hmm' := hm
  rw [hmm] at hm f0
  clear hd hi' hmm hG hmm'
  go_enter Try.func35, Try.ntmps35
  go_wp2
  go_loopw [18] (fun c wr => ∃ k : Nat, k ≤ m ∧ c = .int .i64 k ∧ Hid (∀ q, q < k → wfI xs rs S i q < 0) ∧ Below w.heap.size w wr) (fun c _ => m - (intOf c).toNat)
  case atStart => exact ⟨0, Nat.zero_le _, rfl, fun q h => absurd h (by omega), Below.refl _ _⟩
  case round =>
    obtain ⟨k, hk, rfl, HQ, hb⟩ := hrel
    by_cases hlt : k < m
    · go_wp2_with fail
      refine (HW.out k wr (HGr.out.below hb) hn hi (by rw [HM.out]; exact hlt) (by rw [HM.out]; exact hm)).mono ?_
      rintro e w1 ⟨rfl, hb1⟩
      obtain ⟨v, hv⟩ : ∃ v, wfI xs rs S i k = v := ⟨_, rfl⟩
      have HV := hide hv
      rw [hv]
      have HB2 := hide (hb.trans (hb1.mono hb.size))
      clear hv hb1
      by_cases hv0 : 0 ≤ v
      · go_wp2
        go_ret
        exact ⟨by rw [waits_yes (by rw [HM.out]; exact hlt) (by rw [HV.out]; exact hv0)]; rfl, HB2.out⟩
      · go_wp2
        go_roundw
        case rel =>
          refine ⟨k + 1, by omega, by go_num, fun q hq => ?_, HB2.out⟩
          by_cases e : q = k
          · subst e; rw [HV.out]; omega
          · exact HQ.out q (by omega)
        case measure => simp [intOf]; omega
    · obtain rfl : k = m := by omega
      go_wp2
      go_ret
      exact ⟨by rw [waits_no (fun q hq => HQ.out q (by rw [HM.out] at hq; exact hq))]; rfl, hb⟩

theorem ready_first {xs : List ByteArray} {rs : List (List ByteArray)} {S : St} {i : Nat} (hi : i < xs.length) (h : readyB xs rs S i = true) (hno : ∀ q, q < i → readyB xs rs S q = false) : readyI xs rs S = (i : Int) := by
  unfold readyI
  have : (List.range xs.length).find? (readyB xs rs S) = some i := by
    rw [List.find?_eq_some_iff_getElem]
    refine ⟨h, i, by simpa using hi, by simp, fun j hj => ?_⟩
    simp [hno j hj]
  rw [this]
theorem ready_none {xs : List ByteArray} {rs : List (List ByteArray)} {S : St} (hno : ∀ q, q < xs.length → readyB xs rs S q = false) : readyI xs rs S = -1 := by
  unfold readyI
  have : (List.range xs.length).find? (readyB xs rs S) = none := by
    rw [List.find?_eq_none]; intro q hq; simp [hno q (by simpa using hq)]
  rw [this]

set_option maxHeartbeats 400000 in
theorem ready_any (xs : List ByteArray) (rs : List (List ByteArray)) (L : Lay) (S : St) (w : World) (hG : Gr xs rs L w S) (hn : xs.length ≤ 256) (hm : ∀ i, deg rs i ≤ 4096) :
    Calls Try.prog 32 #[.pointer (some ⟨L.bg, 0, none⟩)] w fun e w' => e = .returned (.int .i64 (readyI xs rs S)) ∧ Below w.heap.size w w' := by
  have g0 := hG.g0
  have HGr := hide hG
  have HMM := hide hm
  obtain ⟨n, hN⟩ : ∃ n, xs.length = n := ⟨_, rfl⟩
  have HN := hide hN
  rw [hN] at hn g0
  clear hN hG hm
  go_enter Try.func32, Try.ntmps32
  go_wp2
  go_loopw [9] (fun c wr => ∃ k : Nat, k ≤ n ∧ c = .int .i64 k ∧ Hid (∀ q, q < k → readyB xs rs S q = false) ∧ Below w.heap.size w wr) (fun c _ => n - (intOf c).toNat)
  case atStart => exact ⟨0, Nat.zero_le _, rfl, fun q h => absurd h (by omega), Below.refl _ _⟩
  case round =>
    obtain ⟨k, hk, rfl, HQ, hb⟩ := hrel
    by_cases hlt : k < n
    · have hG := HGr.out.below hb
      have hkx : k < xs.length := by rw [HN.out]; exact hlt
      have hkc : k < S.cr.length := by rw [hG.ncr]; exact hkx
      have g1 := hG.g1
      have d0 := hG.crc.at' k (by simpa using hkc)
      simp only [List.getElem_map] at d0
      have hcr : S.cr.getD k false = S.cr[k] := by simp [hkc]
      obtain ⟨v, hv⟩ : ∃ v, S.cr[k] = v := ⟨_, rfl⟩
      rw [hv] at d0 hcr
      have HCR := hide hcr
      have HG2 := hide hG
      rw [HN.out] at g1
      clear hv hcr hkc hG g0
      cases v
      · go_wp2_with fail
        refine (waits_any xs rs L S k wr HG2.out (by rw [HN.out]; exact hn) hkx (HMM.out k)).mono ?_
        rintro e w1 ⟨rfl, hb1⟩
        obtain ⟨v, hv⟩ : ∃ v, waitsB xs rs S k = v := ⟨_, rfl⟩
        have HV := hide hv
        rw [hv]
        have HB2 := hide (hb.trans (hb1.mono hb.size))
        clear hv hb1
        cases v
        · have hr : readyB xs rs S k = true := by unfold readyB; rw [HCR.out, HV.out]; rfl
          have hres := ready_first hkx hr HQ.out
          have HRES := hide hres
          clear hr hres
          go_wp2
          go_ret
          exact ⟨by rw [HRES.out]; rfl, HB2.out⟩
        · have HNR : Hid (readyB xs rs S k = false) := by unfold Hid; simp [readyB, HV.out]
          go_wp2
          go_roundw
          case rel =>
            refine ⟨k + 1, by omega, by go_num, fun q hq => ?_, HB2.out⟩
            by_cases e : q = k
            · subst e; exact HNR.out
            · exact HQ.out q (by omega)
          case measure => simp [intOf]; omega
      · have HNR : Hid (readyB xs rs S k = false) := by unfold Hid; unfold readyB; rw [HCR.out]; rfl
        go_wp2
        go_roundw
        case rel =>
          refine ⟨k + 1, by omega, by go_num, fun q hq => ?_, hb⟩
          by_cases e : q = k
          · subst e; exact HNR.out
          · exact HQ.out q (by omega)
        case measure => simp [intOf]; omega
    · obtain rfl : k = n := by omega
      have hres := ready_none (xs := xs) (rs := rs) (S := S) (fun q hq => HQ.out q (by rw [HN.out] at hq; exact hq))
      have HRES := hide hres
      clear hres
      go_wp2
      go_ret
      exact ⟨by rw [HRES.out]; rfl, hb⟩
end Go.Proofs.Qxb6603821a.W
