/-
  anyTrue (25), marked (26).
-/
import Derived.Test.Qxb6603821aPl
namespace Go.Proofs.Qxb6603821a.W
open Go.RowKit B
set_option linter.unusedVariables false

set_option maxHeartbeats 1000000 in
theorem any_any (a : Option Addr) (cap : Nat) (bs : List Bool) (w : World) (hl : bs.length ≤ 65536) (hs : Sl w a (bs.map .bool)) :
    Calls Try.prog 25 #[.slice a bs.length cap] w fun e w' => e = .returned (.bool (bs.any id)) ∧ w' = w := by
  have HS := hide hs
  obtain ⟨m, hm⟩ : ∃ m, bs.length = m := ⟨_, rfl⟩
  have HM := hide hm
  rw [hm] at hl ⊢
  clear hs hm
  go_enter Try.func25, Try.ntmps25
  go_wp2
  go_loopg [3] m (fun gk c wr => ∃ k : Nat, k ≤ m ∧ gk = m - k ∧ c = .int .i64 k ∧ wr = w ∧ Hid ((bs.take k).any id = false))
  case atStart => exact ⟨0, Nat.zero_le _, rfl, rfl, rfl, hide (by simp)⟩
  case round =>
  obtain ⟨k, hk, rfl, rfl, rfl, HI⟩ := hrel
  by_cases hlt : k < m
  · have hkr : k < bs.length := by rw [HM.out]; exact hlt
    obtain ⟨b1, o1, e1, h1, c1⟩ := HS.out k (by simpa using hkr)
    subst e1
    simp only [List.getElem_map] at c1
    have tk : bs.take (k + 1) = bs.take k ++ [bs[k]] := List.take_succ_eq_append_getElem hkr
    have mem : bs[k] ∈ bs := List.getElem_mem hkr
    obtain ⟨v, hv⟩ : ∃ v, bs[k] = v := ⟨_, rfl⟩
    rw [hv] at c1 tk mem
    have TK := hide tk
    have MEM := hide mem
    clear tk hv hkr mem
    cases v
    · have NO : Hid ((bs.take (k + 1)).any id = false) := hide (by rw [TK.out, List.any_append, HI.out]; simp)
      go_wp2
      go_roundg (m - (k + 1))
      case measure => omega
      case rel => exact ⟨k + 1, by omega, rfl, by go_num, rfl, NO⟩
    · have YES : Hid (bs.any id = true) := hide (List.any_eq_true.2 ⟨true, MEM.out, rfl⟩)
      go_wp2
      go_ret
      exact ⟨by rw [YES.out]; rfl, rfl⟩
  obtain rfl : k = m := by omega
  have fin := HI.out
  rw [List.take_of_length_le (by rw [HM.out]; exact Nat.le_refl _)] at fin
  have FIN := hide fin
  clear fin
  go_wp2
  go_ret
  exact ⟨by rw [FIN.out]; rfl, rfl⟩

set_option maxHeartbeats 1000000 in
theorem mkd_any (a : Option Addr) (cap : Nat) (bs : List Bool) (k : Nat) (w : World) (hl : bs.length ≤ 65536) (hk : k ≤ 65536) (hs : Sl w a (bs.map .bool)) :
    Calls Try.prog 26 #[.slice a bs.length cap, .int .i64 k] w fun e w' => e = .returned (.bool (bs.getD k false)) ∧ w' = w := by
  by_cases hlt : k < bs.length
  · obtain ⟨b1, o1, e1, h1, c1⟩ := hs k (by simpa using hlt)
    subst e1
    simp only [List.getElem_map] at c1
    have hg : bs.getD k false = bs[k] := by simp [hlt]
    rw [hg]
    clear hg hs
    generalize bs[k] = v at c1
    generalize bs.length = m at *
    go_enter Try.func26, Try.ntmps26
    go_wp2
    go_ret
    exact ⟨rfl, rfl⟩
  · have hg : bs.getD k false = false := by simp [List.getD, List.getElem?_eq_none (by omega : bs.length ≤ k)]
    rw [hg]
    clear hg hs
    generalize bs.length = m at *
    go_enter Try.func26, Try.ntmps26
    go_wp2
    go_ret
    exact ⟨rfl, rfl⟩
end Go.Proofs.Qxb6603821a.W
