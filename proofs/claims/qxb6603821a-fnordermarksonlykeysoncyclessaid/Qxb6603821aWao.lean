/-
  waitsAtOrAfter (23).
-/
import Derived.Test.Qxb6603821aPl
namespace Go.Proofs.Qxb6603821a.W
open Go.RowKit B
set_option linter.unusedVariables false

/-- One key: it leads to another table of the run at or after 'p'. -/
def waoK (pos : List Int) (x p : Nat) (j : Int) : Bool := decide (0 ≤ j) && decide (j ≠ (x : Int)) && decide ((p : Int) ≤ pos.getD j.toNat (-1))
def waoB (tg : List (List Int)) (pos : List Int) (x p : Nat) : Bool := (tg.getD x []).any (waoK pos x p)

set_option maxHeartbeats 1000000 in
theorem wao_any (a aP : Option Addr) (cap capP n : Nat) (tg : List (List Int)) (pos : List Int) (x p : Nat) (w : World) (hn : n ≤ 256) (hx : x < n) (hp : p ≤ 256) (hl : tg.length = n) (hpl : pos.length = n)
    (hr : ∀ r ∈ tg, r.length ≤ 4096) (hj : ∀ r ∈ tg, ∀ j ∈ r, -1 ≤ j ∧ j < n) (hps : ∀ v ∈ pos, -1 ≤ v ∧ v ≤ 256)
    (hs : Sl2 (.int .i64) w a tg) (hP : Sl w aP (pos.map (.int .i64))) :
    Calls Try.prog 23 #[.slice a n cap, .int .i64 x, .slice aP n capP, .int .i64 p] w fun e w' => e = .returned (.bool (waoB tg pos x p)) ∧ w' = w := by
  have hx' : x < tg.length := by omega
  obtain ⟨b, off, a', cap', e, hb, hc, hs'⟩ := hs x hx'
  subst e
  have hw : waoB tg pos x p = tg[x].any (waoK pos x p) := by simp [waoB, hx']
  have hr' := hr _ (List.getElem_mem hx')
  have hj' := hj _ (List.getElem_mem hx')
  rw [hw]
  generalize tg[x] = r at *
  have HS := hide hs'
  have HP := hide hP
  have HJ := hide hj'
  have HPS := hide hps
  have HPL := hide hpl
  obtain ⟨m, hm⟩ : ∃ m, r.length = m := ⟨_, rfl⟩
  have HM := hide hm
  rw [hm] at hc hr'
  clear hs hs' hP hj hj' hps hpl hr hw hl hx' hm
  go_enter Try.func23, Try.ntmps23
  go_wp2
  go_loopg [9] m (fun gk c wr => ∃ k : Nat, k ≤ m ∧ gk = m - k ∧ c = .int .i64 k ∧ wr = w ∧ Hid ((r.take k).any (waoK pos x p) = false))
  case atStart => exact ⟨0, Nat.zero_le _, rfl, rfl, rfl, hide (by simp)⟩
  case round =>
  obtain ⟨k, hk, rfl, rfl, rfl, HI⟩ := hrel
  by_cases hlt : k < m
  · have hkr : k < r.length := by rw [HM.out]; exact hlt
    obtain ⟨b1, o1, e1, h1, c1⟩ := HS.out k (by simpa using hkr)
    subst e1
    simp only [List.getElem_map] at c1
    obtain ⟨hj1, hj2⟩ := HJ.out _ (List.getElem_mem hkr)
    have tk : r.take (k + 1) = r.take k ++ [r[k]] := List.take_succ_eq_append_getElem hkr
    have mem : r[k] ∈ r := List.getElem_mem hkr
    obtain ⟨j, hjj⟩ : ∃ j, r[k] = j := ⟨_, rfl⟩
    rw [hjj] at c1 hj1 hj2 tk mem
    have TK := hide tk
    have MEM := hide mem
    clear tk hjj hkr mem
    have no : waoK pos x p j = false → (r.take (k + 1)).any (waoK pos x p) = false := fun h => by
      rw [TK.out, List.any_append, HI.out]; simp [h]
    have yes : waoK pos x p j = true → r.any (waoK pos x p) = true := fun h => List.any_eq_true.2 ⟨j, MEM.out, h⟩
    have NO := hide no
    have YES := hide yes
    clear no yes
    by_cases hj0 : 0 ≤ j
    · by_cases hjx : j = (x : Int)
      · subst hjx
        go_wp2
        go_roundg (m - (k + 1))
        case measure => omega
        case rel => exact ⟨k + 1, by omega, rfl, by go_num, rfl, NO.out (by simp [waoK])⟩
      · obtain ⟨q, rfl⟩ : ∃ q : Nat, j = (q : Int) := ⟨j.toNat, by omega⟩
        have hq : q < pos.length := by rw [HPL.out]; omega
        obtain ⟨b2, o2, e2, h2, c2⟩ := HP.out q (by simpa using hq)
        subst e2
        simp only [List.getElem_map] at c2
        obtain ⟨hv1, hv2⟩ := HPS.out _ (List.getElem_mem hq)
        have hg : pos.getD q (-1) = pos[q] := by simp [hq]
        obtain ⟨v, hv⟩ : ∃ v, pos[q] = v := ⟨_, rfl⟩
        rw [hv] at c2 hv1 hv2 hg
        have HG := hide hg
        clear hg hv
        have hqn : q < n := by omega
        clear hq
        by_cases hvp : (p : Int) ≤ v
        · go_wp2
          go_ret
          exact ⟨by rw [YES.out (by unfold waoK; rw [Int.toNat_natCast, HG.out]; simp; omega)]; rfl, rfl⟩
        · go_wp2
          go_roundg (m - (k + 1))
          case measure => omega
          case rel => exact ⟨k + 1, by omega, rfl, by go_num, rfl, NO.out (by unfold waoK; rw [Int.toNat_natCast, HG.out]; simp; omega)⟩
    · go_wp2
      go_roundg (m - (k + 1))
      case measure => omega
      case rel => exact ⟨k + 1, by omega, rfl, by go_num, rfl, NO.out (by simp [waoK]; omega)⟩
  obtain rfl : k = m := by omega
  have fin := HI.out
  rw [List.take_of_length_le (by rw [HM.out]; exact Nat.le_refl _)] at fin
  have FIN := hide fin
  clear fin
  go_wp2
  go_ret
  exact ⟨by rw [FIN.out]; rfl, rfl⟩
end Go.Proofs.Qxb6603821a.W
