/-
  The walk of FnOrderWithoutClosingIsLeastTopological (5).
-/
import Derived.Test.Qxb6603821aP1
import Derived.Test.Qxb6603821aZo
import Derived.Test.Qxb6603821aBig
import Derived.Test.Qxb6603821aBytes
import Derived.WalkSpells
import Derived.Deep.QuietTactic
import Derived.BigQuiet
namespace Go.Proofs.Qxb6603821a.W
open Go.RowKit B
set_option linter.unusedVariables false

theorem keys_mem {rs : List (List ByteArray)} {b : Nat} (h : keysTo rs rs.length ≤ b) : ∀ r ∈ rs, r.length ≤ b := fun r hr => by
  unfold keysTo at h
  rw [List.take_length] at h
  have h1 : ∀ (l : List (List ByteArray)), r ∈ l → r.length ≤ (l.map (·.length)).sum := by
    intro l
    induction l with
    | nil => intro h; cases h
    | cons a l ih =>
      intro hm
      simp only [List.map_cons, List.sum_cons]
      rcases List.mem_cons.1 hm with rfl | hm
      · omega
      · have := ih hm; omega
  have := h1 rs hr
  omega

theorem keys_deg {rs : List (List ByteArray)} {b : Nat} (h : keysTo rs rs.length ≤ b) (i : Nat) : deg rs i ≤ b := by
  unfold deg
  by_cases hi : i < rs.length
  · have e : rs.getD i [] = rs[i] := by simp [hi]
    rw [e]; exact keys_mem h _ (List.getElem_mem hi)
  · rw [List.getD_eq_getElem?_getD, List.getElem?_eq_none (by omega)]; simp

theorem tg_row {xs : List ByteArray} {rs : List (List ByteArray)} {b : Nat} (h : keysTo rs rs.length ≤ b) : ∀ r ∈ tgOf xs rs, r.length ≤ b := fun r hr => by
  obtain ⟨r', h1, rfl⟩ := List.mem_map.1 hr
  simpa using keys_mem h r' h1

theorem tg_lt {xs : List ByteArray} {rs : List (List ByteArray)} : ∀ r ∈ tgOf xs rs, ∀ j ∈ r, -1 ≤ j ∧ j < (xs.length : Int) := fun r hr j hj => by
  obtain ⟨r', h1, rfl⟩ := List.mem_map.1 hr
  obtain ⟨s, h2, rfl⟩ := List.mem_map.1 hj
  unfold tgI
  cases hp : place xs s with
  | none => simp; omega
  | some q => obtain ⟨hq, _⟩ := place_some hp; simp only; omega

theorem pos_le {out : List Nat} {x : Nat} : -1 ≤ posI out x ∧ posI out x ≤ out.length := by
  unfold posI
  cases h : out.findIdx? (fun y => y == x) with
  | none => simp only; omega
  | some p =>
    have := (List.findIdx?_eq_some_iff_getElem.1 h).1
    simp only; omega

/-- waitsAtOrAfter, asked of the whole order. -/
theorem wao_on {xs : List ByteArray} {rs : List (List ByteArray)} {out : List Nat} {w : World} {bt bP : Nat} (hs : Small xs rs) (hnd : out.Nodup) (hlen : out.length = xs.length) (hfull : ∀ j, j < xs.length → j ∈ out)
    (ht : Sl2 (.int .i64) w (some ⟨bt, 0, none⟩) (tgOf xs rs)) (hp : Sl w (some ⟨bP, 0, none⟩) ((List.range xs.length).map fun y => Value.int .i64 (posI out y)))
    (x p : Nat) (hx : x < xs.length) (hpn : p ≤ xs.length) (wr : World) (hb : Below w.heap.size w wr) (b : Bool) (hw : b = true ↔ WaitsIn xs rs (out.take p) x) :
    Calls Try.prog 23 #[.slice (some ⟨bt, 0, none⟩) xs.length xs.length, .int .i64 x, .slice (some ⟨bP, 0, none⟩) xs.length xs.length, .int .i64 p] wr fun e w' => e = .returned (.bool b) ∧ w' = wr := by
  have hn := hs.n
  have h := wao_any (some ⟨bt, 0, none⟩) (some ⟨bP, 0, none⟩) xs.length xs.length xs.length (tgOf xs rs) ((List.range xs.length).map (posI out)) x p wr hn hx (by omega) (by simp [tgOf, hs.same]) (by simp)
    (tg_row hs.keys) tg_lt (fun v hv => by obtain ⟨y, _, rfl⟩ := List.mem_map.1 hv; have := pos_le (out := out) (x := y); omega) (ht.below hb) (by rw [List.map_map]; exact Sl.below hp hb)
  have e : waoB (tgOf xs rs) ((List.range xs.length).map (posI out)) x p = b := by
    have := wao_in (xs := xs) (rs := rs) (x := x) (p := p) hnd hfull (by rw [hs.same]; exact hx)
    rw [Bool.eq_iff_iff, this, hw]
  rw [e] at h; exact h

set_option maxRecDepth 100000 in
set_option maxHeartbeats 4000000 in
theorem law5 (a1 a2 : Option Addr) (c1 c2 : Nat) (xs : List ByteArray) (rs : List (List ByteArray)) (w : World) (hx : xs.length ≤ maxLen) (hy : rs.length ≤ maxLen) (hr : ∀ r ∈ rs, r.length ≤ maxLen)
    (s1 : Sl w a1 (xs.map .string)) (s2 : Sl2 .string w a2 rs) :
    Calls Try.prog 5 #[.slice a1 xs.length c1, .slice a2 rs.length c2] w fun e w' => e = .returned (.bool true) ∧ Below w.heap.size w w' := by
  have B19 := hide (bytes19 a1 a2 c1 c2 xs rs w hx hy hr s1 s2)
  have B20 := hide (big_any a1 a2 c1 c2 xs rs w hx hy hr s1 s2)
  have S := hide (And.intro s1 s2)
  obtain ⟨n, hN⟩ : ∃ n, xs.length = n := ⟨_, rfl⟩
  obtain ⟨n2, hN2⟩ : ∃ n, rs.length = n := ⟨_, rfl⟩
  have HN := hide hN
  have HN2 := hide hN2
  rw [hN, hN2] at B19 B20 ⊢
  clear hx hy hr s1 s2 hN hN2
  go_enter Try.func5, Try.ntmps5
  go_wp2_with fail
  refine Calls.mono B19.out ?_
  clear B19
  rintro e w' ⟨⟨b, rfl⟩, rfl⟩
  cases b
  · go_wp2
    go_ret
    exact ⟨rfl, Below.refl _ _⟩
  go_wp2_with fail
  refine Calls.mono B20.out ?_
  clear B20
  rintro e w' ⟨rfl, b, rfl, hsm⟩
  cases b
  case true =>
    clear hsm
    go_wp2
    go_ret
    exact ⟨rfl, Below.refl _ _⟩
  have SM := hide (hsm rfl)
  clear hsm
  have hn : n ≤ 256 := by rw [← HN.out]; exact SM.out.n
  obtain rfl : n2 = n := by rw [← HN.out, ← HN2.out]; exact SM.out.same
  have C10 : ∀ a cap w, Sl w a (xs.map .string) → Calls Try.prog 10 #[.slice a n2 cap] w (IdxPost xs w) := fun a cap w h => by
    rw [← HN.out]; exact idx_any a cap xs w (by have := HN.out; omega) h
  have K10 := hide C10
  clear C10
  go_wp2_with fail
  refine Calls.mono (K10.out _ _ _ S.out.1) ?_
  rintro e w1 ⟨hb1, rfl, _⟩
  have L1 := hide hb1
  clear hb1
  by_cases hnd : xs.Nodup
  case neg =>
    rw [decide_eq_false hnd]
    clear hnd
    go_wp2
    go_ret
    exact ⟨rfl, L1.out⟩
  rw [decide_eq_true hnd]
  have ND := hide hnd
  clear hnd
  have K11 : Hid (∀ a cap w, Sl w a (xs.map .string) → Calls Try.prog 11 #[.slice a n2 cap] w fun e w' => ∃ a' cap', e = .returned (.slice a' n2 cap') ∧ Hid (Sl w' a' (xs.map Value.string) ∧ Below w.heap.size w w')) := hide fun a cap w h => by
    rw [← HN.out]; refine (cps_any a cap xs w (by have := HN.out; omega) h).mono ?_
    rintro e w' ⟨a', cap', e1, h1, h2, _⟩
    exact ⟨a', cap', e1, hide ⟨h1, h2⟩⟩
  have K12 : Hid (∀ a cap w, Sl2 .string w a rs → Calls Try.prog 12 #[.slice a n2 cap] w fun e w' => ∃ a' cap', e = .returned (.slice a' n2 cap') ∧ Hid (Sl2 .string w' a' rs ∧ Below w.heap.size w w')) := hide fun a cap w h => by
    rw [← HN2.out]; refine (cp2_any a cap rs w (by have := HN2.out; omega) (fun r hr => by have := keys_mem SM.out.keys r hr; omega) h).mono ?_
    rintro e w' ⟨a', cap', e1, h1, h2⟩
    exact ⟨a', cap', e1, hide ⟨h1, h2⟩⟩
  have K16 : Hid (∀ bm a cap w, w.heap[bm]? = some (.map (mapOf xs) xs.length) → Sl2 .string w a rs → Calls Try.prog 16 #[.map (some bm), .slice a n2 cap] w fun e w' => e = .returned (.slice (some ⟨w.heap.size, 0, none⟩) n2 n2) ∧ Hid (Sl2 (.int .i64) w' (some ⟨w.heap.size, 0, none⟩) (tgOf xs rs) ∧ Below w.heap.size w w')) := hide fun bm a cap w hm h => by
    rw [← HN2.out]; refine (res_any bm xs.length a cap xs rs w (by have := HN2.out; omega) (fun r hr => by have := keys_mem SM.out.keys r hr; omega) hm h).mono ?_
    rintro e w' ⟨e1, h1, h2, h3⟩
    have hl : (tgOf xs rs).length = rs.length := by simp [tgOf]
    exact ⟨e1, hide ⟨Rows2.sl2 (n := rs.length) (by rw [hl]; exact h1) h3, h2⟩⟩
  have K21 : Hid (∀ a cap a' cap' w, Sl w a (xs.map .string) → Sl2 .string w a' rs → Calls Try.prog 21 #[.slice a n2 cap, .slice a' n2 cap', .bool false] w fun e w' => ∃ out m bN bC, e = .returned (.tuple #[.slice (some ⟨bN, 0, none⟩) n2 n2, .slice (some ⟨bC, 0, none⟩) n2 n2]) ∧ m ≤ n2 ∧ Hid (Least xs rs out m) ∧
      Hid ((∀ p, p < n2 → w'.cell? ⟨bC, p, none⟩ = some (.slice none 0 0)) ∧ bC < w'.heap.size ∧ Sl w' (some ⟨bN, 0, none⟩) (out.map fun i => .string (xs.getD i ⟨#[]⟩)) ∧ Below w.heap.size w w')) := hide fun a cap a' cap' w h1 h2 => by
    have h := zz_any a a' cap cap' xs rs false (fun _ => none) w SM.out.n SM.out.same (keys_deg SM.out.keys) ND.out h1 h2 (inv00 xs rs) (fun h => by cases h) (fun h => by cases h)
      (fun t S out e => by have := tr_iter xs rs (fun _ => none) t; rw [e] at this; exact this.lt)
    rw [HN2.out, HN.out] at h
    refine h.mono ?_
    rintro e w' ⟨S, out, t, bN, bC, e1, hit, hl, hlt, hz, hb⟩
    rw [HN.out] at e1
    have ht := tr_iter xs rs (fun _ => none) t
    rw [hit] at ht
    obtain ⟨hno, m, hL⟩ := ht.least hl
    refine ⟨out, m, bN, bC, e1, by rw [← HN.out]; exact hL.le, hide hL, hide ⟨fun p hp => ?_, hz.lC, Sl.of_cells hz.names hz.lN, hb⟩⟩
    obtain ⟨va, vn, hc, h0, _⟩ := hz.marks p (by rw [hl, HN.out]; exact hp)
    obtain ⟨rfl, rfl⟩ := h0 (hno _)
    exact hc
  go_wp2_with fail
  refine Calls.mono (K11.out _ _ _ (Sl.below S.out.1 L1.out)) ?_
  clear K11
  rintro e w2 ⟨a1', c1', rfl, H2⟩
  have L2 := hide (L1.out.trans (H2.out.2.mono L1.out.size))
  go_wp2_with fail
  refine Calls.mono (K12.out _ _ _ (S.out.2.below L2.out)) ?_
  clear K12
  rintro e w3 ⟨a2', c2', rfl, H3⟩
  have L3 := hide (L2.out.trans (H3.out.2.mono L2.out.size))
  have N3 := hide (Sl.below H2.out.1 H3.out.2)
  go_wp2_with fail
  refine Calls.mono (K10.out _ _ _ N3.out) ?_
  clear K10
  rintro e w4 ⟨hb4, rfl, hm4⟩
  rw [decide_eq_true ND.out]
  have M4 := hide (hm4 ND.out)
  have L4 := hide (L3.out.trans (hb4.mono L3.out.size))
  have N4 := hide (Sl.below N3.out hb4)
  have R4 := hide (H3.out.1.below hb4)
  clear hm4 hb4
  go_wp2_with fail
  refine Calls.mono (K16.out _ _ _ _ M4.out.1 R4.out) ?_
  clear K16
  rintro e w5 ⟨rfl, H5⟩
  have L5 := hide (L4.out.trans (H5.out.2.mono L4.out.size))
  go_wp2_with fail
  refine Calls.mono (K21.out _ _ _ _ _ (Sl.below N4.out H5.out.2) (R4.out.below H5.out.2)) ?_
  clear K21
  rintro e w6 ⟨out, m, bN, bC, rfl, hm, HLe, H6⟩
  have L6 := hide (L5.out.trans (H6.out.2.2.2.mono L5.out.size))
  have T6 := hide (H5.out.1.below H6.out.2.2.2)
  have M6 : Hid (w6.heap[w3.heap.size]? = some (.map (mapOf xs) xs.length)) := hide (by
    have h4 := M4.out.2
    have h5 := H5.out.2.size
    rw [H6.out.2.2.2.block _ (by omega), H5.out.2.block _ h4]; exact M4.out.1)
  have K22 : Hid (Calls Try.prog 22 #[.map (some w3.heap.size), .slice (some ⟨bN, 0, none⟩) n2 n2, .int .i64 n2] w6 (PlPost out n2 w6)) := hide (by
    rw [← HN.out]; exact pl_any w3.heap.size _ _ xs out w6 SM.out.n M6.out ND.out HLe.out.nd HLe.out.len HLe.out.lt H6.out.2.2.1)
  clear M6 M4 R4 N4 N3 H2 H3 H5 S L1 L2 L3 L4 L5
  obtain ⟨bt, hbt⟩ : ∃ b, w4.heap.size = b := ⟨_, rfl⟩
  rw [hbt] at T6 ⊢
  clear hbt
  go_wp2_with fail
  refine Calls.mono K22.out ?_
  clear K22
  rintro e w7 ⟨bO, bP, rfl, hpl, hb7⟩
  have L7 := hide (L6.out.trans (hb7.mono L6.out.size))
  have T7 := hide (T6.out.below hb7)
  have C7 : Hid (∀ p, p < n2 → w7.cell? ⟨bC, p, none⟩ = some (.slice none 0 0)) := hide fun p hp => (hb7.cell (p := ⟨bC, p, none⟩) H6.out.2.1).trans (H6.out.1 p hp)
  have P7 := hide hpl
  clear hpl hb7 H6 T6 L6
  have Y23 : Hid (∀ x p wr, x < n2 → p ≤ n2 → Below w7.heap.size w7 wr → WaitsIn xs rs (out.take p) x → Calls Try.prog 23 #[.slice (some ⟨bt, 0, none⟩) n2 n2, .int .i64 (x : Nat), .slice (some ⟨bP, 0, none⟩) n2 n2, .int .i64 (p : Nat)] wr fun e w' => e = .returned (.bool true) ∧ w' = wr) := hide fun x p wr hx hp hb hw => by
    have pc := P7.out.pc
    rw [← HN.out] at pc
    have h := wao_on SM.out HLe.out.nd HLe.out.len (fun j hj => HLe.out.full hj) T7.out (Sl.of_cells pc P7.out.lP) x p (by rw [HN.out]; exact hx) (by rw [HN.out]; exact hp) wr hb true ⟨fun _ => hw, fun _ => rfl⟩
    rw [HN.out] at h; exact h
  have N23 : Hid (∀ x p wr, x < n2 → p ≤ n2 → Below w7.heap.size w7 wr → ¬ WaitsIn xs rs (out.take p) x → Calls Try.prog 23 #[.slice (some ⟨bt, 0, none⟩) n2 n2, .int .i64 (x : Nat), .slice (some ⟨bP, 0, none⟩) n2 n2, .int .i64 (p : Nat)] wr fun e w' => e = .returned (.bool false) ∧ w' = wr) := hide fun x p wr hx hp hb hw => by
    have pc := P7.out.pc
    rw [← HN.out] at pc
    have h := wao_on SM.out HLe.out.nd HLe.out.len (fun j hj => HLe.out.full hj) T7.out (Sl.of_cells pc P7.out.lP) x p (by rw [HN.out]; exact hx) (by rw [HN.out]; exact hp) wr hb false ⟨(fun h => by cases h), fun h => absurd h hw⟩
    rw [HN.out] at h; exact h
  have O7 : Hid (∀ p (h : p < n2), ∃ x, out[p]? = some x ∧ x < n2 ∧ w7.cell? ⟨bO, p, none⟩ = some (.int .i64 (x : Nat))) := hide fun p hp => by
    have hpo : p < out.length := by rw [HLe.out.len, HN.out]; exact hp
    have h := P7.out.oc.at' p (by simpa using hpo)
    simp only [List.getElem_map] at h
    exact ⟨out[p], by simp [hpo], by rw [← HN.out]; exact HLe.out.lt _ (List.getElem_mem hpo), h⟩
  have Q7 : Hid (∀ x (h : x < n2), w7.cell? ⟨bP, x, none⟩ = some (.int .i64 (posI out x)) ∧ -1 ≤ posI out x ∧ posI out x ≤ n2) := hide fun x hx => by
    have h := P7.out.pc.at' x (by simpa using hx)
    simp only [List.getElem_map, List.getElem_range] at h
    have := pos_le (out := out) (x := x)
    rw [HLe.out.len, HN.out] at this
    exact ⟨h, this⟩
  have Z7 := hide (And.intro P7.out.lO P7.out.lP)
  have nil85 : ∀ w, (binOp .neq 25 (.slice none 0 0) (.slice none 0 0)).run Try.prog w = .ok (.bool false) w := fun w => by
    rw [run_neq_slice_nil_any w 25 4 none 0 0 0 0 Try.underlying25]; rfl
  clear T7 P7
  go_wp2
  go_loopg [16] n2 (fun gk c wr => ∃ k : Nat, k ≤ n2 ∧ gk = n2 - k ∧ c = .int .i64 k ∧ wr = w7)
  case atStart => exact ⟨0, Nat.zero_le _, rfl, rfl, rfl⟩
  case round =>
  obtain ⟨k, hk, rfl, rfl, rfl⟩ := hrel
  by_cases hlt : k < n2
  · have f1 := C7.out k hlt
    go_wp2
    go_roundg (n2 - (k + 1))
    case measure => omega
    case rel => exact ⟨k + 1, by omega, rfl, by go_num, rfl⟩
  obtain rfl : k = n2 := by omega
  clear nil85 C7
  rename World => w7
  go_wp2
  go_loopg [17, 18] k (fun gk c d wr => ∃ p : Nat, p ≤ k ∧ gk = k - p ∧ d = .int .i64 p ∧ wr = w7 ∧ ((c = .int .i64 k ∧ p ≤ m) ∨ (c = .int .i64 m ∧ m < k ∧ p = m + 1)))
  case atStart => exact ⟨0, Nat.zero_le _, rfl, rfl, rfl, .inl ⟨rfl, Nat.zero_le _⟩⟩
  case round =>
  obtain ⟨p, hp, rfl, rfl, rfl, hor⟩ := hrel
  rename World => w7
  by_cases hgo : p < k ∧ p ≤ m
  · obtain ⟨hlt, hpm⟩ := hgo
    obtain ⟨rfl, _⟩ | ⟨_, _, rfl⟩ := hor
    case inr => omega
    obtain ⟨x, hx, hxk, f1⟩ := O7.out p hlt
    have hpo : p < out.length := (List.getElem?_eq_some_iff.1 hx).1
    have hxe : out[p] = x := (List.getElem?_eq_some_iff.1 hx).2
    by_cases hpm' : p < m
    · have hno := (HLe.out.led p hpo hpm').1
      rw [hxe] at hno
      have NO := hide hno
      clear hno hx hxe hpo
      go_wp2_with fail
      refine Calls.mono (N23.out x p _ hxk (by omega) (Below.refl _ _) NO.out) ?_
      rintro e w8 ⟨rfl, rfl⟩
      go_wp2
      go_roundg (k - (p + 1))
      case measure => omega
      case rel => exact ⟨p + 1, by omega, rfl, by go_num, rfl, .inl ⟨rfl, by omega⟩⟩
    · obtain rfl : p = m := by omega
      have hyes := HLe.out.rest p hpo (Nat.le_refl _)
      rw [hxe] at hyes
      have YES := hide hyes
      clear hyes hx hxe hpo
      go_wp2_with fail
      refine Calls.mono (Y23.out x p _ hxk (by omega) (Below.refl _ _) YES.out) ?_
      rintro e w8 ⟨rfl, rfl⟩
      go_wp2
      go_roundg (k - (p + 1))
      case measure => omega
      case rel => exact ⟨p + 1, by omega, rfl, by go_num, rfl, .inr ⟨rfl, by omega, rfl⟩⟩
  obtain ⟨rfl, hpm⟩ : ∃ h : u17 = Value.int .i64 m, (p < k → m ≠ k) := by
    rcases hor with ⟨rfl, h⟩ | ⟨rfl, h1, h2⟩
    · obtain rfl : m = k := by omega
      exact ⟨rfl, fun h => by omega⟩
    · exact ⟨rfl, fun h => by omega⟩
  clear hor hgo
  by_cases hpk : p < k
  case' pos =>
    have hmk := hpm hpk
    have hmkb : ((m : Int) == (k : Int)) = false := by simp; omega
  case' neg => obtain rfl : k = p := by omega
  all_goals clear hpm hp
  all_goals go_wp2
  all_goals
    clear N23
    go_loopg [19] m (fun gk c wr => ∃ p : Nat, p ≤ m ∧ gk = m - p ∧ c = .int .i64 p ∧ wr = w7)
    case atStart => exact ⟨0, Nat.zero_le _, rfl, rfl, rfl⟩
    case round =>
    obtain ⟨p3, hp3, rfl, rfl, rfl⟩ := hrel
    rename World => w7
    by_cases hlt : p3 < m
    · obtain ⟨y, hy, hyk, f1⟩ := O7.out p3 (by omega)
      have LED : Hid (∀ x, x < y → (p3 : Int) < posI out x → WaitsIn xs rs (out.take p3) x) := hide fun x hx hps => by
        have hpo : p3 < out.length := (List.getElem?_eq_some_iff.1 hy).1
        have hxe : out[p3] = y := (List.getElem?_eq_some_iff.1 hy).2
        refine (HLe.out.led p3 hpo hlt).2 x (by rw [hxe]; exact hx) ?_
        exact (pos_take HLe.out.nd (HLe.out.full (by rw [HN.out]; omega))).1 (by omega)
      clear hy
      go_wp2
      go_loopg [20] y (fun gk c wr => ∃ x : Nat, x ≤ y ∧ gk = y - x ∧ c = .int .i64 x ∧ wr = w7)
      case atStart => exact ⟨0, Nat.zero_le _, rfl, rfl, rfl⟩
      case round =>
      obtain ⟨x, hx, rfl, rfl, rfl⟩ := hrel
      rename World => w7
      by_cases hlx : x < y
      · obtain ⟨f2, f3, f4⟩ := Q7.out x (by omega)
        obtain ⟨v, hv⟩ : ∃ v, posI out x = v := ⟨_, rfl⟩
        have LD := LED.out x hlx
        rw [hv] at f2 f3 f4 LD
        have HLD := hide LD
        clear LD hv
        by_cases hpv : (p3 : Int) < v
        · have W := hide (HLD.out hpv)
          clear HLD
          go_wp2_with fail
          refine Calls.mono (Y23.out x p3 _ (by omega) (by omega) (Below.refl _ _) W.out) ?_
          rintro e w8 ⟨rfl, rfl⟩
          go_wp2
          go_roundg (y - (x + 1))
          case measure => omega
          case rel => exact ⟨x + 1, by omega, rfl, by go_num, rfl⟩
        · clear HLD
          go_wp2
          go_roundg (y - (x + 1))
          case measure => omega
          case rel => exact ⟨x + 1, by omega, rfl, by go_num, rfl⟩
      obtain rfl : x = y := by omega
      clear LED
      go_wp2
      go_roundg (m - (p3 + 1))
      case measure => omega
      case rel => exact ⟨p3 + 1, by omega, rfl, by go_num, rfl⟩
    obtain rfl : p3 = m := by omega
    clear Q7
    go_wp2
    go_loopg [21] (k - p3) (fun gk c wr => ∃ q : Nat, p3 ≤ q ∧ q ≤ k ∧ gk = k - q ∧ c = .int .i64 q ∧ Below w7.heap.size w7 wr)
    case atStart => exact ⟨p3, Nat.le_refl _, by omega, rfl, rfl, Below.refl _ _⟩
    case round =>
    obtain ⟨q, hq1, hq2, rfl, rfl, hbq⟩ := hrel
    rename World => w9
    by_cases hlt : q < k
    · obtain ⟨y, hy, hyk, f1⟩ := O7.out q hlt
      have f1' := (hbq.cell (p := ⟨bO, q, none⟩) Z7.out.1).trans f1
      have W : Hid (WaitsIn xs rs (out.take p3) y) := hide (by
        have hpo : q < out.length := (List.getElem?_eq_some_iff.1 hy).1
        have hxe : out[q] = y := (List.getElem?_eq_some_iff.1 hy).2
        have := HLe.out.rest q hpo hq1
        rw [hxe] at this; exact this)
      by_cases hgt : p3 < q
      · obtain ⟨r, hrq⟩ : ∃ r, q = r + 1 := ⟨q - 1, by omega⟩
        obtain ⟨z, hz, hzk, g1⟩ := O7.out r (by omega)
        have g1' := (hbq.cell (p := ⟨bO, r, none⟩) Z7.out.1).trans g1
        have hzy : z < y := by
          subst hrq
          have hpo : r + 1 < out.length := (List.getElem?_eq_some_iff.1 hy).1
          have h1 : out[r + 1] = y := (List.getElem?_eq_some_iff.1 hy).2
          have h2 : out[r] = z := (List.getElem?_eq_some_iff.1 hz).2
          have := HLe.out.inc r hpo (by omega)
          rw [h1, h2] at this; exact this
        have hsub : ((q : Int) - 1) = (r : Int) := by omega
        clear hy hz f1 g1
        have e1 : (p3 : Int) < (q : Int) := by omega
        have hrk : r < k := by omega
        clear hrq
        have e2 : decide ((y : Int) ≤ (z : Int)) = false := by simp; omega
        go_wp2
        go_quiet (fail)
        go_wp2_with fail
        refine Calls.mono (Y23.out y p3 _ (by omega) (by omega) (B.below_drewN _ hbq _) W.out) ?_
        rintro e w8 ⟨rfl, rfl⟩
        go_wp2
        go_roundg (k - (q + 1))
        case measure => omega
        case rel => exact ⟨q + 1, by omega, by omega, rfl, by go_num, B.below_drewN _ hbq _⟩
      · obtain rfl : p3 = q := by omega
        clear hy f1
        have e1 : decide ((p3 : Int) < (p3 : Int)) = false := by simp
        go_wp2
        go_quiet (fail)
        go_wp2_with fail
        refine Calls.mono (Y23.out y p3 _ (by omega) (by omega) (B.below_drewN _ hbq _) W.out) ?_
        rintro e w8 ⟨rfl, rfl⟩
        go_wp2
        go_roundg (k - (p3 + 1))
        case measure => omega
        case rel => exact ⟨p3 + 1, by omega, by omega, rfl, by go_num, B.below_drewN _ hbq _⟩
    obtain rfl : q = k := by omega
    go_wp2
    go_ret
    exact ⟨rfl, L7.out.trans (hbq.mono L7.out.size)⟩
end Go.Proofs.Qxb6603821a.W
