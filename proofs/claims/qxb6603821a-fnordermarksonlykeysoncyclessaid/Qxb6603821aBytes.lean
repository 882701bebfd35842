/-
  zzBytes_.. (19, 24, 27): each answers a bool, and touches nothing.
-/
import Derived.Test.Qxb6603821aCopy2
namespace Go.Proofs.Qxb6603821a.W
open Go.RowKit B
set_option linter.unusedVariables false

def RetBool (e : Ending) : Prop := ∃ b, e = .returned (.bool b)

theorem Sl.str {w : World} {a : Option Addr} {xs : List ByteArray} (h : Sl w a (xs.map .string)) {k : Nat} (hk : k < xs.length) :
    ∃ b off s, a = some ⟨b, off, none⟩ ∧ b < w.heap.size ∧ w.cell? ⟨b, off + k, none⟩ = some (.string s) ∧ xs[k] = s := by
  obtain ⟨b, off, e, hb, hc⟩ := h k (by simpa using hk)
  exact ⟨b, off, xs[k], e, hb, by simpa using hc, rfl⟩

set_option maxHeartbeats 1000000 in
theorem bytes19 (a1 a2 : Option Addr) (c1 c2 : Nat) (xs : List ByteArray) (rs : List (List ByteArray)) (w : World) (hx : xs.length ≤ maxLen) (hy : rs.length ≤ maxLen) (hr : ∀ r ∈ rs, r.length ≤ maxLen)
    (s1 : Sl w a1 (xs.map .string)) (s2 : Sl2 .string w a2 rs) :
    Calls Try.prog 19 #[.slice a1 xs.length c1, .slice a2 rs.length c2] w fun e w' => RetBool e ∧ w' = w := by
  unfold maxLen at *
  obtain ⟨n1, hn1⟩ : ∃ n, xs.length = n := ⟨_, rfl⟩
  obtain ⟨n2, hn2⟩ : ∃ n, rs.length = n := ⟨_, rfl⟩
  have S1 := hide s1
  have S2 := hide s2
  have N1 := hide hn1
  have N2 := hide hn2
  have HR := hide hr
  rw [hn1] at hx ⊢
  rw [hn2] at hy ⊢
  clear s1 s2 hn1 hn2 hr
  go_enter Try.func19, Try.ntmps19
  go_wp2
  all_goals try (go_ret; exact ⟨⟨_, rfl⟩, rfl⟩)
  go_loop [5, 6] (fun z i => (∃ u : Int, z = .int .i64 u) ∧ ∃ k : Nat, k ≤ n1 ∧ i = .int .i64 k) (fun _ i => n1 - (intOf i).toNat)
  case atStart => exact ⟨⟨_, rfl⟩, 0, Nat.zero_le _, rfl⟩
  case round =>
  obtain ⟨⟨u, rfl⟩, k, hk, rfl⟩ := hrel
  by_cases hlt : k < n1
  · obtain ⟨b, off, s, rfl, hb, hc, _⟩ := Sl.str S1.out (by rw [N1.out]; exact hlt)
    go_wp2
    all_goals try (go_ret; exact ⟨⟨_, rfl⟩, rfl⟩)
    go_round
    case rel => exact ⟨⟨_, rfl⟩, k + 1, by omega, by go_num⟩
    case measure => simp [intOf]; omega
  go_wp2
  all_goals try (go_ret; exact ⟨⟨_, rfl⟩, rfl⟩)
  go_loop [5, 7] (fun z i => (∃ u : Int, z = .int .i64 u) ∧ ∃ k : Nat, k ≤ n2 ∧ i = .int .i64 k) (fun _ i => n2 - (intOf i).toNat)
  case atStart => exact ⟨⟨_, rfl⟩, 0, Nat.zero_le _, rfl⟩
  case round =>
  obtain ⟨⟨u, rfl⟩, k, hk, rfl⟩ := hrel
  by_cases hlt : k < n2
  · have hlt' : k < rs.length := by rw [N2.out]; exact hlt
    obtain ⟨b, off, a', cap', rfl, hb, hc, hs⟩ := S2.out k hlt'
    have hlm := HR.out _ (List.getElem_mem hlt')
    obtain ⟨r, hr⟩ : ∃ r, rs[k] = r := ⟨_, rfl⟩
    rw [hr] at hc hs hlm
    obtain ⟨m, hm⟩ : ∃ m, r.length = m := ⟨_, rfl⟩
    have HM := hide hm
    have HS := hide hs
    rw [hm] at hc hlm
    clear hr hs hm hlt'
    go_wp2
    all_goals try (go_ret; exact ⟨⟨_, rfl⟩, rfl⟩)
    go_loop [5, 8] (fun z i => (∃ u : Int, z = .int .i64 u) ∧ ∃ k : Nat, k ≤ m ∧ i = .int .i64 k) (fun _ i => m - (intOf i).toNat)
    case atStart => exact ⟨⟨_, rfl⟩, 0, Nat.zero_le _, rfl⟩
    case round =>
    obtain ⟨⟨u, rfl⟩, q, hq, rfl⟩ := hrel
    by_cases hql : q < m
    · obtain ⟨b3, off3, s3, rfl, hb3, hc3, _⟩ := Sl.str HS.out (by rw [HM.out]; exact hql)
      go_wp2
      all_goals try (go_ret; exact ⟨⟨_, rfl⟩, rfl⟩)
      go_round
      case rel => exact ⟨⟨_, rfl⟩, q + 1, by omega, by go_num⟩
      case measure => simp [intOf]; omega
    go_wp2
    go_round
    case rel => exact ⟨⟨_, rfl⟩, k + 1, by omega, by go_num⟩
    case measure => simp [intOf]; omega
  go_wp2
  all_goals (go_ret; exact ⟨⟨_, rfl⟩, rfl⟩)

set_option maxHeartbeats 1000000 in
theorem bytes24 (a1 a2 : Option Addr) (c1 c2 : Nat) (xs : List ByteArray) (rs : List (List ByteArray)) (w : World) (hx : xs.length ≤ maxLen) (hy : rs.length ≤ maxLen) (hr : ∀ r ∈ rs, r.length ≤ maxLen)
    (s1 : Sl w a1 (xs.map .string)) (s2 : Sl2 .string w a2 rs) :
    Calls Try.prog 24 #[.slice a1 xs.length c1, .slice a2 rs.length c2] w fun e w' => RetBool e ∧ w' = w := by
  unfold maxLen at *
  obtain ⟨n1, hn1⟩ : ∃ n, xs.length = n := ⟨_, rfl⟩
  obtain ⟨n2, hn2⟩ : ∃ n, rs.length = n := ⟨_, rfl⟩
  have S1 := hide s1
  have S2 := hide s2
  have N1 := hide hn1
  have N2 := hide hn2
  have HR := hide hr
  rw [hn1] at hx ⊢
  rw [hn2] at hy ⊢
  clear s1 s2 hn1 hn2 hr
  go_enter Try.func24, Try.ntmps24
  go_wp2
  all_goals try (go_ret; exact ⟨⟨_, rfl⟩, rfl⟩)
  go_loop [5, 6] (fun z i => (∃ u : Int, z = .int .i64 u) ∧ ∃ k : Nat, k ≤ n1 ∧ i = .int .i64 k) (fun _ i => n1 - (intOf i).toNat)
  case atStart => exact ⟨⟨_, rfl⟩, 0, Nat.zero_le _, rfl⟩
  case round =>
  obtain ⟨⟨u, rfl⟩, k, hk, rfl⟩ := hrel
  by_cases hlt : k < n1
  · obtain ⟨b, off, s, rfl, hb, hc, _⟩ := Sl.str S1.out (by rw [N1.out]; exact hlt)
    go_wp2
    all_goals try (go_ret; exact ⟨⟨_, rfl⟩, rfl⟩)
    go_round
    case rel => exact ⟨⟨_, rfl⟩, k + 1, by omega, by go_num⟩
    case measure => simp [intOf]; omega
  go_wp2
  all_goals try (go_ret; exact ⟨⟨_, rfl⟩, rfl⟩)
  go_loop [5, 7] (fun z i => (∃ u : Int, z = .int .i64 u) ∧ ∃ k : Nat, k ≤ n2 ∧ i = .int .i64 k) (fun _ i => n2 - (intOf i).toNat)
  case atStart => exact ⟨⟨_, rfl⟩, 0, Nat.zero_le _, rfl⟩
  case round =>
  obtain ⟨⟨u, rfl⟩, k, hk, rfl⟩ := hrel
  by_cases hlt : k < n2
  · have hlt' : k < rs.length := by rw [N2.out]; exact hlt
    obtain ⟨b, off, a', cap', rfl, hb, hc, hs⟩ := S2.out k hlt'
    have hlm := HR.out _ (List.getElem_mem hlt')
    obtain ⟨r, hr⟩ : ∃ r, rs[k] = r := ⟨_, rfl⟩
    rw [hr] at hc hs hlm
    obtain ⟨m, hm⟩ : ∃ m, r.length = m := ⟨_, rfl⟩
    have HM := hide hm
    have HS := hide hs
    rw [hm] at hc hlm
    clear hr hs hm hlt'
    go_wp2
    all_goals try (go_ret; exact ⟨⟨_, rfl⟩, rfl⟩)
    go_loop [5, 8] (fun z i => (∃ u : Int, z = .int .i64 u) ∧ ∃ k : Nat, k ≤ m ∧ i = .int .i64 k) (fun _ i => m - (intOf i).toNat)
    case atStart => exact ⟨⟨_, rfl⟩, 0, Nat.zero_le _, rfl⟩
    case round =>
    obtain ⟨⟨u, rfl⟩, q, hq, rfl⟩ := hrel
    by_cases hql : q < m
    · obtain ⟨b3, off3, s3, rfl, hb3, hc3, _⟩ := Sl.str HS.out (by rw [HM.out]; exact hql)
      go_wp2
      all_goals try (go_ret; exact ⟨⟨_, rfl⟩, rfl⟩)
      go_round
      case rel => exact ⟨⟨_, rfl⟩, q + 1, by omega, by go_num⟩
      case measure => simp [intOf]; omega
    go_wp2
    go_round
    case rel => exact ⟨⟨_, rfl⟩, k + 1, by omega, by go_num⟩
    case measure => simp [intOf]; omega
  go_wp2
  all_goals (go_ret; exact ⟨⟨_, rfl⟩, rfl⟩)

set_option maxHeartbeats 1000000 in
theorem bytes27 (a1 a2 : Option Addr) (c1 c2 : Nat) (xs : List ByteArray) (rs : List (List ByteArray)) (w : World) (hx : xs.length ≤ maxLen) (hy : rs.length ≤ maxLen) (hr : ∀ r ∈ rs, r.length ≤ maxLen)
    (s1 : Sl w a1 (xs.map .string)) (s2 : Sl2 .string w a2 rs) :
    Calls Try.prog 27 #[.slice a1 xs.length c1, .slice a2 rs.length c2] w fun e w' => RetBool e ∧ w' = w := by
  unfold maxLen at *
  obtain ⟨n1, hn1⟩ : ∃ n, xs.length = n := ⟨_, rfl⟩
  obtain ⟨n2, hn2⟩ : ∃ n, rs.length = n := ⟨_, rfl⟩
  have S1 := hide s1
  have S2 := hide s2
  have N1 := hide hn1
  have N2 := hide hn2
  have HR := hide hr
  rw [hn1] at hx ⊢
  rw [hn2] at hy ⊢
  clear s1 s2 hn1 hn2 hr
  go_enter Try.func27, Try.ntmps27
  go_wp2
  all_goals try (go_ret; exact ⟨⟨_, rfl⟩, rfl⟩)
  go_loop [5, 6] (fun z i => (∃ u : Int, z = .int .i64 u) ∧ ∃ k : Nat, k ≤ n1 ∧ i = .int .i64 k) (fun _ i => n1 - (intOf i).toNat)
  case atStart => exact ⟨⟨_, rfl⟩, 0, Nat.zero_le _, rfl⟩
  case round =>
  obtain ⟨⟨u, rfl⟩, k, hk, rfl⟩ := hrel
  by_cases hlt : k < n1
  · obtain ⟨b, off, s, rfl, hb, hc, _⟩ := Sl.str S1.out (by rw [N1.out]; exact hlt)
    go_wp2
    all_goals try (go_ret; exact ⟨⟨_, rfl⟩, rfl⟩)
    go_round
    case rel => exact ⟨⟨_, rfl⟩, k + 1, by omega, by go_num⟩
    case measure => simp [intOf]; omega
  go_wp2
  all_goals try (go_ret; exact ⟨⟨_, rfl⟩, rfl⟩)
  go_loop [5, 7] (fun z i => (∃ u : Int, z = .int .i64 u) ∧ ∃ k : Nat, k ≤ n2 ∧ i = .int .i64 k) (fun _ i => n2 - (intOf i).toNat)
  case atStart => exact ⟨⟨_, rfl⟩, 0, Nat.zero_le _, rfl⟩
  case round =>
  obtain ⟨⟨u, rfl⟩, k, hk, rfl⟩ := hrel
  by_cases hlt : k < n2
  · have hlt' : k < rs.length := by rw [N2.out]; exact hlt
    obtain ⟨b, off, a', cap', rfl, hb, hc, hs⟩ := S2.out k hlt'
    have hlm := HR.out _ (List.getElem_mem hlt')
    obtain ⟨r, hr⟩ : ∃ r, rs[k] = r := ⟨_, rfl⟩
    rw [hr] at hc hs hlm
    obtain ⟨m, hm⟩ : ∃ m, r.length = m := ⟨_, rfl⟩
    have HM := hide hm
    have HS := hide hs
    rw [hm] at hc hlm
    clear hr hs hm hlt'
    go_wp2
    all_goals try (go_ret; exact ⟨⟨_, rfl⟩, rfl⟩)
    go_loop [5, 8] (fun z i => (∃ u : Int, z = .int .i64 u) ∧ ∃ k : Nat, k ≤ m ∧ i = .int .i64 k) (fun _ i => m - (intOf i).toNat)
    case atStart => exact ⟨⟨_, rfl⟩, 0, Nat.zero_le _, rfl⟩
    case round =>
    obtain ⟨⟨u, rfl⟩, q, hq, rfl⟩ := hrel
    by_cases hql : q < m
    · obtain ⟨b3, off3, s3, rfl, hb3, hc3, _⟩ := Sl.str HS.out (by rw [HM.out]; exact hql)
      go_wp2
      all_goals try (go_ret; exact ⟨⟨_, rfl⟩, rfl⟩)
      go_round
      case rel => exact ⟨⟨_, rfl⟩, q + 1, by omega, by go_num⟩
      case measure => simp [intOf]; omega
    go_wp2
    go_round
    case rel => exact ⟨⟨_, rfl⟩, k + 1, by omega, by go_num⟩
    case measure => simp [intOf]; omega
  go_wp2
  all_goals (go_ret; exact ⟨⟨_, rfl⟩, rfl⟩)
end Go.Proofs.Qxb6603821a.W
