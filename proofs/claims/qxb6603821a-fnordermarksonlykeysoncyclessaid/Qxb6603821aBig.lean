/-
  graphTooBig (9), orderTooBig (20).
-/
import Derived.Test.Qxb6603821aBytes
namespace Go.Proofs.Qxb6603821a.W
open Go.RowKit B
set_option linter.unusedVariables false

def GPost (rs : List (List ByteArray)) (w : World) (e : Ending) (w' : World) : Prop :=
  w' = w ∧ ∃ b, e = .returned (.bool b) ∧ (b = false → ∀ r ∈ rs, r.length ≤ 1048576)

set_option maxRecDepth 100000 in
set_option maxHeartbeats 1000000 in
theorem graph_any (a1 a2 : Option Addr) (c1 c2 : Nat) (xs : List ByteArray) (rs : List (List ByteArray)) (w : World) (hx : xs.length ≤ maxLen) (hy : rs.length ≤ maxLen) (hr : ∀ r ∈ rs, r.length ≤ maxLen)
    (s1 : Sl w a1 (xs.map .string)) (s2 : Sl2 .string w a2 rs) :
    Calls Try.prog 9 #[.slice a1 xs.length c1, .slice a2 rs.length c2, .slice none 0 0, .slice none 0 0] w (GPost rs w) := by
  unfold maxLen at *
  obtain ⟨n1, hn1⟩ : ∃ n, xs.length = n := ⟨_, rfl⟩
  obtain ⟨n2, hn2⟩ : ∃ n, rs.length = n := ⟨_, rfl⟩
  have S1 := hide s1
  have S2 := hide s2
  have N1 := hide hn1
  have N2 := hide hn2
  have HR := hide hr
  rw [hn1] at hx ⊢
  rw [hn2] at hy ⊢
  clear s1 s2 hn1 hn2 hr
  go_enter Try.func9, Try.ntmps9
  go_wp2
  all_goals try (go_ret; exact ⟨rfl, _, rfl, fun h => by cases h⟩)
  go_loop [9, 10] (fun z i => (∃ u : Int, z = .int .i64 u) ∧ ∃ k : Nat, k ≤ n1 ∧ i = .int .i64 k) (fun _ i => n1 - (intOf i).toNat)
  case atStart => exact ⟨⟨_, rfl⟩, 0, Nat.zero_le _, rfl⟩
  case round =>
  obtain ⟨⟨u, rfl⟩, k, hk, rfl⟩ := hrel
  by_cases hlt : k < n1
  · obtain ⟨b, off, s, rfl, hb, hc, _⟩ := Sl.str S1.out (by rw [N1.out]; exact hlt)
    go_wp2
    all_goals try (go_ret; exact ⟨rfl, _, rfl, fun h => by cases h⟩)
    go_round
    case rel => exact ⟨⟨_, rfl⟩, k + 1, by omega, by go_num⟩
    case measure => simp [intOf]; omega
  go_wp2
  go_loop [9, 11] (fun z i => (∃ u : Int, z = .int .i64 u) ∧ ∃ k : Nat, k ≤ n2 ∧ i = .int .i64 k ∧ Hid (∀ j (h : j < rs.length), j < k → rs[j].length ≤ 1048576)) (fun _ i => n2 - (intOf i).toNat)
  case atStart => exact ⟨⟨_, rfl⟩, 0, Nat.zero_le _, rfl, fun j _ h => absurd h (by omega)⟩
  case round =>
  obtain ⟨⟨u, rfl⟩, k, hk, rfl, HJ⟩ := hrel
  by_cases hlt : k < n2
  · have hlt' : k < rs.length := by rw [N2.out]; exact hlt
    obtain ⟨b, off, a', cap', rfl, hb, hc, hs⟩ := S2.out k hlt'
    have hlm := HR.out _ (List.getElem_mem hlt')
    obtain ⟨r, hr⟩ : ∃ r, rs[k] = r := ⟨_, rfl⟩
    have HRK := hide hr
    rw [hr] at hc hs hlm
    obtain ⟨m, hm⟩ : ∃ m, r.length = m := ⟨_, rfl⟩
    have HM := hide hm
    have HS := hide hs
    rw [hm] at hc hlm
    clear hr hs hm
    by_cases hml : m ≤ 1048576
    case neg =>
      go_wp2
      go_ret
      exact ⟨rfl, _, rfl, fun h => by cases h⟩
    go_wp2
    all_goals try (go_ret; exact ⟨rfl, _, rfl, fun h => by cases h⟩)
    go_loop [9, 12] (fun z i => (∃ u : Int, z = .int .i64 u) ∧ ∃ k : Nat, k ≤ m ∧ i = .int .i64 k) (fun _ i => m - (intOf i).toNat)
    case atStart => exact ⟨⟨_, rfl⟩, 0, Nat.zero_le _, rfl⟩
    case round =>
    obtain ⟨⟨u, rfl⟩, q, hq, rfl⟩ := hrel
    by_cases hql : q < m
    · obtain ⟨b3, off3, s3, rfl, hb3, hc3, _⟩ := Sl.str HS.out (by rw [HM.out]; exact hql)
      go_wp2
      all_goals try (go_ret; exact ⟨rfl, _, rfl, fun h => by cases h⟩)
      go_round
      case rel => exact ⟨⟨_, rfl⟩, q + 1, by omega, by go_num⟩
      case measure => simp [intOf]; omega
    go_wp2
    go_round
    case rel =>
      refine ⟨⟨_, rfl⟩, k + 1, by omega, by go_num, fun j hj hjk => ?_⟩
      by_cases e : j = k
      · subst e; rw [HRK.out, HM.out]; exact hml
      · exact HJ.out j hj (by omega)
    case measure => simp [intOf]; omega
  go_wp2
  go_loop [13] (fun i => i = .int .i64 0) (fun _ => 0)
  case atStart => rfl
  case round =>
  subst hrel
  go_wp2
  go_ret
  refine ⟨rfl, _, rfl, fun _ r hr => ?_⟩
  obtain ⟨j, hj, rfl⟩ := List.mem_iff_getElem.1 hr
  exact HJ.out j hj (by rw [N2.out] at hj; omega)

def keysTo (rs : List (List ByteArray)) (k : Nat) : Nat := ((rs.take k).map (·.length)).sum

theorem keysTo_succ (rs : List (List ByteArray)) (k : Nat) (h : k < rs.length) : keysTo rs (k + 1) = keysTo rs k + rs[k].length := by
  unfold keysTo
  rw [List.take_succ_eq_append_getElem h, List.map_append, List.sum_append]; simp

/-- What orderTooBig lets by. -/
structure Small (xs : List ByteArray) (rs : List (List ByteArray)) : Prop where
  n : xs.length ≤ 256
  same : rs.length = xs.length
  keys : keysTo rs rs.length ≤ 4096

def BigPost (xs : List ByteArray) (rs : List (List ByteArray)) (w : World) (e : Ending) (w' : World) : Prop :=
  w' = w ∧ ∃ b, e = .returned (.bool b) ∧ (b = false → Small xs rs)

set_option maxHeartbeats 1000000 in
theorem big_any (a1 a2 : Option Addr) (c1 c2 : Nat) (xs : List ByteArray) (rs : List (List ByteArray)) (w : World) (hx : xs.length ≤ maxLen) (hy : rs.length ≤ maxLen) (hr : ∀ r ∈ rs, r.length ≤ maxLen)
    (s1 : Sl w a1 (xs.map .string)) (s2 : Sl2 .string w a2 rs) :
    Calls Try.prog 20 #[.slice a1 xs.length c1, .slice a2 rs.length c2] w (BigPost xs rs w) := by
  have G := hide (graph_any a1 a2 c1 c2 xs rs w hx hy hr s1 s2)
  unfold maxLen at *
  obtain ⟨n1, hn1⟩ : ∃ n, xs.length = n := ⟨_, rfl⟩
  obtain ⟨n2, hn2⟩ : ∃ n, rs.length = n := ⟨_, rfl⟩
  have S2 := hide s2
  have N1 := hide hn1
  have N2 := hide hn2
  have HR := hide hr
  rw [hn1, hn2] at G
  rw [hn1] at hx ⊢
  rw [hn2] at hy ⊢
  clear s1 s2 hn1 hn2 hr
  go_enter Try.func20, Try.ntmps20
  go_wp2_with fail
  refine Calls.mono G.out ?_
  clear G
  rintro e w' ⟨hw, b, rfl, hbr⟩
  subst hw
  have HBR := hide hbr
  clear hbr
  cases b
  case true =>
    go_wp2
    go_ret
    exact ⟨rfl, _, rfl, fun h => by cases h⟩
  by_cases h1 : (256 : Int) < (n1 : Int)
  · go_wp2
    go_ret
    exact ⟨rfl, _, rfl, fun h => by cases h⟩
  by_cases h2 : n2 = n1
  case neg =>
    have h2' : ((n2 : Int) != (n1 : Int)) = true := by rw [bne_iff_ne]; omega
    clear h2
    go_wp2
    go_ret
    exact ⟨rfl, _, rfl, fun h => by cases h⟩
  subst h2
  go_wp2
  go_loop [6, 7] (fun z i => ∃ k : Nat, k ≤ n2 ∧ i = .int .i64 k ∧ z = .int .i64 ((keysTo rs k : Nat) : Int) ∧ keysTo rs k ≤ 4096) (fun _ i => n2 - (intOf i).toNat)
  case atStart => exact ⟨0, Nat.zero_le _, rfl, rfl, by simp [keysTo]⟩
  case round =>
  obtain ⟨k, hk, rfl, rfl, hkt⟩ := hrel
  by_cases hlt : k < n2
  · have hlt' : k < rs.length := by rw [N2.out]; exact hlt
    obtain ⟨b, off, a', cap', rfl, hb, hc, hs⟩ := S2.out k hlt'
    have hlm := HBR.out (by first | exact trivial | rfl) _ (List.getElem_mem hlt')
    have hks := keysTo_succ rs k hlt'
    obtain ⟨m, hm⟩ : ∃ m, rs[k].length = m := ⟨_, rfl⟩
    rw [hm] at hc hlm hks
    have HK := hide hks
    clear hs hm hlt' hks
    generalize keysTo rs k = K at *
    by_cases hbig : 4096 < K + m
    · go_wp2
      go_ret
      exact ⟨rfl, _, rfl, fun h => by cases h⟩
    · go_wp2
      go_round
      case rel => exact ⟨k + 1, by omega, by go_num, by rw [HK.out]; go_num, by rw [HK.out]; omega⟩
      case measure => simp [intOf]; omega
  obtain rfl : k = n2 := by omega
  go_wp2
  go_ret
  exact ⟨rfl, _, rfl, fun _ => ⟨by rw [N1.out]; omega, by rw [N1.out, N2.out], by rw [N2.out]; exact hkt⟩⟩
end Go.Proofs.Qxb6603821a.W
