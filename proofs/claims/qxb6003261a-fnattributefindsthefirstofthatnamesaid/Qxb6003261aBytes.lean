/-
  zzBytes_FnAttributeFindsTheFirstOfThatName (8): it answers a bool, and touches nothing.
-/
import Derived.Test.Qxb6003261aRows
import Derived.Test.Qxb6003261aBase
import Derived.Lib.SliceRun
namespace Go.Proofs.Qxb6003261a.Att
open Go.RowKit B
set_option linter.unusedVariables false

theorem Sl.str {w : World} {a : Option Addr} {xs : List ByteArray} (h : Sl w a (xs.map .string)) {k : Nat} (hk : k < xs.length) :
    ∃ b off s, a = some ⟨b, off, none⟩ ∧ b < w.heap.size ∧ w.cell? ⟨b, off + k, none⟩ = some (.string s) ∧ xs[k] = s := by
  obtain ⟨b, off, e, hb, hc⟩ := h k (by simpa using hk)
  exact ⟨b, off, xs[k], e, hb, by simpa using hc, rfl⟩

def RetBool (e : Ending) : Prop := ∃ b, e = .returned (.bool b)

set_option maxHeartbeats 1000000 in
theorem bytes8 (a1 a2 a3 a4 : Option Addr) (n3 n4 c1 c2 c3 c4 : Nat) (xs ys : List ByteArray) (q : ByteArray) (w : World) (hx : xs.length ≤ maxLen) (hy : ys.length ≤ maxLen)
    (h3 : n3 ≤ maxLen) (h4 : n4 ≤ maxLen) (hq : q.size ≤ maxLen) (s1 : Sl w a1 (xs.map .string)) (s2 : Sl w a2 (ys.map .string)) :
    Calls Try.prog 8 #[.slice a1 xs.length c1, .slice a2 ys.length c2, .slice a3 n3 c3, .slice a4 n4 c4, .string q] w fun e w' => RetBool e ∧ w' = w := by
  unfold maxLen at *
  obtain ⟨n1, hn1⟩ : ∃ n, xs.length = n := ⟨_, rfl⟩
  obtain ⟨n2, hn2⟩ : ∃ n, ys.length = n := ⟨_, rfl⟩
  have S1 := hide s1
  have S2 := hide s2
  have N1 := hide hn1
  have N2 := hide hn2
  rw [hn1] at hx ⊢
  rw [hn2] at hy ⊢
  clear s1 s2 hn1 hn2
  go_enter Try.func8, Try.ntmps8
  go_wp2
  all_goals try (go_ret; exact ⟨⟨_, rfl⟩, rfl⟩)
  go_loop [11, 12] (fun z i => (∃ u : Int, z = .int .i64 u) ∧ ∃ k : Nat, k ≤ n1 ∧ i = .int .i64 k) (fun _ i => n1 - (intOf i).toNat)
  case atStart => exact ⟨⟨_, rfl⟩, 0, Nat.zero_le _, rfl⟩
  case round =>
    obtain ⟨⟨u, rfl⟩, k, hk, rfl⟩ := hrel
    by_cases hlt : k < n1
    · obtain ⟨b, off, s, rfl, hb, hc, _⟩ := Sl.str S1.out (by rw [N1.out]; exact hlt)
      go_wp2
      all_goals try (go_ret; exact ⟨⟨_, rfl⟩, rfl⟩)
      go_round
      case rel => exact ⟨⟨_, rfl⟩, k + 1, by omega, by go_num⟩
      case measure => simp [intOf]; omega
    · go_wp2
      all_goals try (go_ret; exact ⟨⟨_, rfl⟩, rfl⟩)
      go_loop [11, 13] (fun z i => (∃ u : Int, z = .int .i64 u) ∧ ∃ k : Nat, k ≤ n2 ∧ i = .int .i64 k) (fun _ i => n2 - (intOf i).toNat)
      case atStart => exact ⟨⟨_, rfl⟩, 0, Nat.zero_le _, rfl⟩
      case round =>
        obtain ⟨⟨u, rfl⟩, k, hk, rfl⟩ := hrel
        by_cases hlt : k < n2
        · obtain ⟨b, off, s, rfl, hb, hc, _⟩ := Sl.str S2.out (by rw [N2.out]; exact hlt)
          go_wp2
          all_goals try (go_ret; exact ⟨⟨_, rfl⟩, rfl⟩)
          go_round
          case rel => exact ⟨⟨_, rfl⟩, k + 1, by omega, by go_num⟩
          case measure => simp [intOf]; omega
        · go_wp2
          all_goals (go_ret; exact ⟨⟨_, rfl⟩, rfl⟩)
end Go.Proofs.Qxb6003261a.Att
