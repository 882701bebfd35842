/-
  The walk of FnOrderClosingAgreesAndIsTopological (6).
-/
import Derived.Test.Qxb6603821aTwo
import Derived.Test.Qxb6603821aAny
import Derived.WalkSpells
import Derived.Deep.QuietTactic
import Derived.BigQuiet
namespace Go.Proofs.Qxb6603821a.W
open Go.RowKit B
set_option linter.unusedVariables false

set_option maxRecDepth 100000 in
set_option maxHeartbeats 4000000 in
theorem law6 (a1 a2 : Option Addr) (c1 c2 : Nat) (xs : List ByteArray) (rs : List (List ByteArray)) (w : World) (hx : xs.length ≤ maxLen) (hy : rs.length ≤ maxLen) (hr : ∀ r ∈ rs, r.length ≤ maxLen)
    (s1 : Sl w a1 (xs.map .string)) (s2 : Sl2 .string w a2 rs) :
    Calls Try.prog 6 #[.slice a1 xs.length c1, .slice a2 rs.length c2] w fun e w' => e = .returned (.bool true) ∧ Below w.heap.size w w' := by
  have B24 := hide (bytes24 a1 a2 c1 c2 xs rs w hx hy hr s1 s2)
  have B20 := hide (big_any a1 a2 c1 c2 xs rs w hx hy hr s1 s2)
  have S := hide (And.intro s1 s2)
  obtain ⟨n, hN⟩ : ∃ n, xs.length = n := ⟨_, rfl⟩
  obtain ⟨n2, hN2⟩ : ∃ n, rs.length = n := ⟨_, rfl⟩
  have HN := hide hN
  have HN2 := hide hN2
  rw [hN, hN2] at B24 B20 ⊢
  clear hx hy hr s1 s2 hN hN2
  go_enter Try.func6, Try.ntmps6
  go_wp2_with fail
  refine Calls.mono B24.out ?_
  clear B24
  rintro e w' ⟨⟨b, rfl⟩, rfl⟩
  cases b
  · go_wp2
    go_ret
    exact ⟨rfl, Below.refl _ _⟩
  go_wp2_with fail
  refine Calls.mono B20.out ?_
  clear B20
  rintro e w' ⟨rfl, b, rfl, hsm⟩
  cases b
  case true =>
    clear hsm
    go_wp2
    go_ret
    exact ⟨rfl, Below.refl _ _⟩
  have SM := hide (hsm rfl)
  clear hsm
  have hn : n ≤ 256 := by rw [← HN.out]; exact SM.out.n
  obtain rfl : n2 = n := by rw [← HN.out, ← HN2.out]; exact SM.out.same
  have C10 : ∀ a cap w, Sl w a (xs.map .string) → Calls Try.prog 10 #[.slice a n2 cap] w (IdxPost xs w) := fun a cap w h => by
    rw [← HN.out]; exact idx_any a cap xs w (by have := HN.out; omega) h
  have K10 := hide C10
  clear C10
  go_wp2_with fail
  refine Calls.mono (K10.out _ _ _ S.out.1) ?_
  rintro e w1 ⟨hb1, rfl, _⟩
  have L1 := hide hb1
  clear hb1
  by_cases hnd : xs.Nodup
  case neg =>
    rw [decide_eq_false hnd]
    clear hnd
    go_wp2
    go_ret
    exact ⟨rfl, L1.out⟩
  rw [decide_eq_true hnd]
  have ND := hide hnd
  clear hnd
  have K11 : Hid (∀ a cap w, Sl w a (xs.map .string) → Calls Try.prog 11 #[.slice a n2 cap] w fun e w' => ∃ a' cap', e = .returned (.slice a' n2 cap') ∧ Hid (Sl w' a' (xs.map Value.string) ∧ Below w.heap.size w w')) := hide fun a cap w h => by
    rw [← HN.out]; refine (cps_any a cap xs w (by have := HN.out; omega) h).mono ?_
    rintro e w' ⟨a', cap', e1, h1, h2, _⟩
    exact ⟨a', cap', e1, hide ⟨h1, h2⟩⟩
  have K12 : Hid (∀ a cap w, Sl2 .string w a rs → Calls Try.prog 12 #[.slice a n2 cap] w fun e w' => ∃ a' cap', e = .returned (.slice a' n2 cap') ∧ Hid (Sl2 .string w' a' rs ∧ Below w.heap.size w w')) := hide fun a cap w h => by
    rw [← HN2.out]; refine (cp2_any a cap rs w (by have := HN2.out; omega) (fun r hr => by have := keys_mem SM.out.keys r hr; omega) h).mono ?_
    rintro e w' ⟨a', cap', e1, h1, h2⟩
    exact ⟨a', cap', e1, hide ⟨h1, h2⟩⟩
  have K16 : Hid (∀ bm a cap w, w.heap[bm]? = some (.map (mapOf xs) xs.length) → Sl2 .string w a rs → Calls Try.prog 16 #[.map (some bm), .slice a n2 cap] w fun e w' => e = .returned (.slice (some ⟨w.heap.size, 0, none⟩) n2 n2) ∧ Hid (Sl2 (.int .i64) w' (some ⟨w.heap.size, 0, none⟩) (tgOf xs rs) ∧ Below w.heap.size w w')) := hide fun bm a cap w hm h => by
    rw [← HN2.out]; refine (res_any bm xs.length a cap xs rs w (by have := HN2.out; omega) (fun r hr => by have := keys_mem SM.out.keys r hr; omega) hm h).mono ?_
    rintro e w' ⟨e1, h1, h2, h3⟩
    have hl : (tgOf xs rs).length = rs.length := by simp [tgOf]
    exact ⟨e1, hide ⟨Rows2.sl2 (n := rs.length) (by rw [hl]; exact h1) h3, h2⟩⟩
  have K21 : Hid (∀ a cap a' cap' w, Sl w a (xs.map .string) → Sl2 .string w a' rs → Calls Try.prog 21 #[.slice a n2 cap, .slice a' n2 cap', .bool false] w fun e w' => ∃ outF m bN bC, e = .returned (.tuple #[.slice (some ⟨bN, 0, none⟩) n2 n2, .slice (some ⟨bC, 0, none⟩) n2 n2]) ∧ Hid (Least xs rs outF m) ∧
      Hid (bN < w'.heap.size ∧ Sl w' (some ⟨bN, 0, none⟩) (outF.map fun i => .string (xs.getD i ⟨#[]⟩)) ∧ Below w.heap.size w w')) := hide fun a cap a' cap' w h1 h2 => by
    have h := zz_any a a' cap cap' xs rs false (fun _ => none) w SM.out.n SM.out.same (keys_deg SM.out.keys) ND.out h1 h2 (inv00 xs rs) (fun h => by cases h) (fun h => by cases h)
      (fun t S out e => by have := tr_iter xs rs (fun _ => none) t; rw [e] at this; exact this.lt)
    rw [HN2.out, HN.out] at h
    refine h.mono ?_
    rintro e w' ⟨S, out, t, bN, bC, e1, hit, hl, hlt, hz, hb⟩
    rw [HN.out] at e1
    have ht := tr_iter xs rs (fun _ => none) t
    rw [hit] at ht
    obtain ⟨hno, m, hL⟩ := ht.least hl
    exact ⟨out, m, bN, bC, e1, hide hL, hide ⟨hz.lN, Sl.of_cells hz.names hz.lN, hb⟩⟩
  have K21T : Hid (∀ a cap a' cap' w, Sl w a (xs.map .string) → Sl2 .string w a' rs → Calls Try.prog 21 #[.slice a n2 cap, .slice a' n2 cap', .bool true] w (TwoPost xs rs n2 w)) := hide fun a cap a' cap' w h1 h2 => by
    have h := zzT a a' cap cap' xs rs w SM.out ND.out h1 h2
    rw [HN2.out, HN.out] at h
    exact h
  go_wp2_with fail
  refine Calls.mono (K11.out _ _ _ (Sl.below S.out.1 L1.out)) ?_
  clear K11
  rintro e w2 ⟨a1', c1', rfl, H2⟩
  have L2 := hide (L1.out.trans (H2.out.2.mono L1.out.size))
  go_wp2_with fail
  refine Calls.mono (K12.out _ _ _ (S.out.2.below L2.out)) ?_
  clear K12
  rintro e w3 ⟨a2', c2', rfl, H3⟩
  have L3 := hide (L2.out.trans (H3.out.2.mono L2.out.size))
  have N3 := hide (Sl.below H2.out.1 H3.out.2)
  go_wp2_with fail
  refine Calls.mono (K10.out _ _ _ N3.out) ?_
  clear K10
  rintro e w4 ⟨hb4, rfl, hm4⟩
  rw [decide_eq_true ND.out]
  have M4 := hide (hm4 ND.out)
  have L4 := hide (L3.out.trans (hb4.mono L3.out.size))
  have N4 := hide (Sl.below N3.out hb4)
  have R4 := hide (H3.out.1.below hb4)
  clear hm4 hb4
  go_wp2_with fail
  refine Calls.mono (K16.out _ _ _ _ M4.out.1 R4.out) ?_
  clear K16
  rintro e w5 ⟨rfl, H5⟩
  have L5 := hide (L4.out.trans (H5.out.2.mono L4.out.size))
  go_wp2_with fail
  refine Calls.mono (K21.out _ _ _ _ _ (Sl.below N4.out H5.out.2) (R4.out.below H5.out.2)) ?_
  clear K21
  rintro e w6 ⟨outF, m, bF, bG, rfl, HLe, H6⟩
  have L6 := hide (L5.out.trans (H6.out.2.2.mono L5.out.size))
  have T6 := hide (H5.out.1.below H6.out.2.2)
  have X6 := hide (Below.trans H5.out.2 (H6.out.2.2.mono H5.out.2.size))
  go_wp2_with fail
  refine Calls.mono (K21T.out _ _ _ _ _ (Sl.below N4.out X6.out) (R4.out.below X6.out)) ?_
  clear K21T
  rintro e w8 ⟨out, mk, bN, bC, rfl, hTW, hZM, hbN, hsN, hb8⟩
  have TW := hide hTW
  have M8 : Hid (w8.heap[w3.heap.size]? = some (.map (mapOf xs) xs.length)) := hide (by
    have h4 := M4.out.2
    have h5 := X6.out.size
    rw [hb8.block _ (by omega), X6.out.block _ h4]; exact M4.out.1)
  have L8 := hide (L6.out.trans (hb8.mono L6.out.size))
  have T8 := hide (T6.out.below hb8)
  have F8 := hide (And.intro (Nat.lt_of_lt_of_le H6.out.1 hb8.size) (Sl.below H6.out.2.1 hb8))
  have Z8 := hide (And.intro hZM (And.intro hbN hsN))
  have K22 : Hid (Calls Try.prog 22 #[.map (some w3.heap.size), .slice (some ⟨bN, 0, none⟩) n2 n2, .int .i64 n2] w8 (PlPost out n2 w8)) := hide (by
    rw [← HN.out]; exact pl_any w3.heap.size _ _ xs out w8 SM.out.n M8.out ND.out TW.out.nd TW.out.len TW.out.lt hsN)
  clear M8 M4 R4 N4 N3 H2 H3 H5 S L1 L2 L3 L4 L5 L6 T6 X6 H6 hTW hZM hbN hsN hb8
  obtain ⟨bt, hbt⟩ : ∃ b, w4.heap.size = b := ⟨_, rfl⟩
  rw [hbt] at T8 ⊢
  clear hbt
  go_wp2_with fail
  refine Calls.mono K22.out ?_
  clear K22
  rintro e w7 ⟨bO, bP, rfl, hpl, hb7⟩
  have L7 := hide (L8.out.trans (hb7.mono L8.out.size))
  have T7 := hide (T8.out.below hb7)
  have F7 := hide (And.intro (Nat.lt_of_lt_of_le F8.out.1 hb7.size) (Sl.below F8.out.2 hb7))
  have Z7 := hide (And.intro (Z8.out.1.below hb7) (And.intro (Nat.lt_of_lt_of_le Z8.out.2.1 hb7.size) (Sl.below Z8.out.2.2 hb7)))
  have P7 := hide hpl
  clear hpl hb7 T8 F8 Z8 L8
  have DG := hide (keys_deg SM.out.keys)
  have SAME : Hid (rs.length = n2) := hide HN2.out
  have A25 : Hid (∀ p va wr, p < n2 → Sl wr va ((mk p).map .bool) → Calls Try.prog 25 #[.slice va (mk p).length (mk p).length] wr fun e w' => e = .returned (.bool ((mk p).any id)) ∧ w' = wr) := hide fun p va wr hp h => by
    refine any_any va _ (mk p) wr ?_ h
    have hpo : p < out.length := by rw [TW.out.len, HN.out]; exact hp
    rcases TW.out.mks p _ (List.getElem?_eq_getElem hpo) with e | ⟨e, _⟩
    · rw [e]; simp
    · rw [e]; have := DG.out out[p]; omega
  have M26 : Hid (∀ p va k wr, p < n2 → k ≤ 4096 → Sl wr va ((mk p).map .bool) → Calls Try.prog 26 #[.slice va (mk p).length (mk p).length, .int .i64 (k : Nat)] wr fun e w' => e = .returned (.bool ((mk p).getD k false)) ∧ w' = wr) := hide fun p va k wr hp hk h => by
    refine mkd_any va _ (mk p) k wr ?_ (by omega) h
    have hpo : p < out.length := by rw [TW.out.len, HN.out]; exact hp
    rcases TW.out.mks p _ (List.getElem?_eq_getElem hpo) with e | ⟨e, _⟩
    · rw [e]; simp
    · rw [e]; have := DG.out out[p]; omega
  have O7 : Hid (∀ p (h : p < n2), ∃ x, out[p]? = some x ∧ x < n2 ∧ w7.cell? ⟨bO, p, none⟩ = some (.int .i64 (x : Nat))) := hide fun p hp => by
    have hpo : p < out.length := by rw [TW.out.len, HN.out]; exact hp
    have h := P7.out.oc.at' p (by simpa using hpo)
    simp only [List.getElem_map] at h
    exact ⟨out[p], by simp [hpo], by rw [← HN.out]; exact TW.out.lt _ (List.getElem_mem hpo), h⟩
  have Q7 : Hid (∀ x (h : x < n2), w7.cell? ⟨bP, x, none⟩ = some (.int .i64 (posI out x)) ∧ -1 ≤ posI out x ∧ posI out x ≤ n2) := hide fun x hx => by
    have h := P7.out.pc.at' x (by simpa using hx)
    simp only [List.getElem_map, List.getElem_range] at h
    have := pos_le (out := out) (x := x)
    rw [TW.out.len, HN.out] at this
    exact ⟨h, this⟩
  have Y7 := hide (And.intro P7.out.lO P7.out.lP)
  have E7 : Hid (∀ q, q ≤ n2 → (∀ r, r < q → (mk r).any id = false) → ∀ p, p < q → ∃ s, w7.cell? ⟨bF, p, none⟩ = some (.string s) ∧ w7.cell? ⟨bN, p, none⟩ = some (.string s)) := hide fun q hq hno p hp => by
    have hpo : p < out.length := by rw [TW.out.len, HN.out]; omega
    have hpF : p < outF.length := by rw [HLe.out.len, HN.out]; omega
    have e := TW.out.agree outF m HLe.out q (by rw [HN.out]; exact hq) hno p hp
    rw [List.getElem?_eq_getElem hpF, List.getElem?_eq_getElem hpo] at e
    obtain ⟨b1, o1, e1, _, c1⟩ := F7.out.2 p (by simpa using hpF)
    obtain ⟨b2, o2, e2, _, c2⟩ := Z7.out.2.2 p (by simpa using hpo)
    cases e1; cases e2
    rw [Nat.zero_add] at c1 c2
    simp only [List.getElem_map] at c1 c2
    rw [Option.some.inj e] at c1
    exact ⟨_, c1, c2⟩
  have nilN : ∀ w, (binOp .neq 25 (.slice none 0 0) (.slice none 0 0)).run Try.prog w = .ok (.bool false) w := fun w => by
    rw [run_neq_slice_nil_any w 25 4 none 0 0 0 0 Try.underlying25]; rfl
  have nilS : ∀ b o m w, (binOp .neq 25 (.slice (some ⟨b, o, none⟩) m m) (.slice none 0 0)).run Try.prog w = .ok (.bool true) w := fun b o m w => by
    rw [run_neq_slice_nil_any w 25 4 _ _ _ 0 0 Try.underlying25]; rfl
  clear P7
  go_wp2
  go_loopg [18, 19] n2 (fun gk c d wr => ∃ r q : Nat, r ≤ q ∧ q ≤ n2 ∧ r = gk ∧ c = .int .i64 q ∧ d = .int .i64 ((r : Int) - 1) ∧ wr = w7 ∧ Hid (∀ p, r ≤ p → p < q → (mk p).any id = false))
  case atStart => exact ⟨n2, n2, Nat.le_refl _, Nat.le_refl _, rfl, rfl, by go_num, rfl, hide fun p h1 h2 => by omega⟩
  case round =>
  obtain ⟨c, q, hcq, hqn, rfl, rfl, rfl, rfl, HI⟩ := hrel
  rename World => w7
  by_cases hc0 : 0 < c
  · obtain ⟨r, hr⟩ : ∃ r, c = r + 1 := ⟨c - 1, by omega⟩
    have hsub : ((c : Int) - 1) = (r : Int) := by omega
    have hrn : r < n2 := by omega
    have hrq : r < q := by omega
    rw [hsub]
    have HR := hide hr
    clear hr hsub hcq hc0
    obtain ⟨va, d1, d2, _⟩ := Z7.out.1.at' r hrn
    have V := hide d2
    clear d2
    go_wp2_with fail
    refine Calls.mono (A25.out r va _ hrn V.out) ?_
    rintro e w9 ⟨rfl, rfl⟩
    have AN : Hid ((mk r).any id = (mk r).any id) := hide rfl
    obtain ⟨b, hb⟩ : ∃ b, (mk r).any id = b := ⟨_, rfl⟩
    rw [hb]
    have HB := hide hb
    clear hb AN V
    cases b
    · go_wp2
      go_roundg r
      case measure => have := HR.out; omega
      case rel => exact ⟨r, q, by omega, hqn, rfl, rfl, by go_num, rfl, hide fun p h1 h2 => by
        by_cases e : p = r
        · subst e; exact HB.out
        · exact HI.out p (by have := HR.out; omega) h2⟩
    · go_wp2
      go_roundg r
      case measure => have := HR.out; omega
      case rel => exact ⟨r, r, Nat.le_refl _, by omega, rfl, rfl, by go_num, rfl, hide fun p h1 h2 => by omega⟩
  obtain rfl : c = 0 := by omega
  have NOM : Hid (∀ p, p < q → ∃ s, w7.cell? ⟨bF, p, none⟩ = some (.string s) ∧ w7.cell? ⟨bN, p, none⟩ = some (.string s)) := hide fun p hp => E7.out q hqn (fun r hr => HI.out r (by omega) hr) p hp
  have BF := hide (And.intro F7.out.1 Z7.out.2.1)
  clear HI E7 hc0 hcq F7
  rename World => w7
  go_wp2
  go_loopg [20] q (fun gk c wr => ∃ p : Nat, p ≤ q ∧ gk = q - p ∧ c = .int .i64 p ∧ Below w7.heap.size w7 wr)
  case atStart => exact ⟨0, Nat.zero_le _, rfl, rfl, Below.refl _ _⟩
  case round =>
  obtain ⟨p, hp, rfl, rfl, hbq⟩ := hrel
  rename World => w9
  by_cases hlt : p < q
  · obtain ⟨s, g1, g2⟩ := NOM.out p hlt
    have g1' := (hbq.cell (p := ⟨bF, p, none⟩) BF.out.1).trans g1
    have g2' := (hbq.cell (p := ⟨bN, p, none⟩) BF.out.2).trans g2
    clear g1 g2
    have hpn : p < n2 := by omega
    have e1 : (p : Int) < (n2 : Int) := by omega
    go_wp2
    go_quiet (fail)
    go_wp2
    go_roundg (q - (p + 1))
    case measure => omega
    case rel => exact ⟨p + 1, by omega, rfl, by go_num, B.below_drewN _ hbq _⟩
  obtain rfl : p = q := by omega
  clear NOM BF
  have LA := hide (L7.out.trans (hbq.mono L7.out.size))
  have HBQ := hide hbq
  clear hbq hlt
  go_wp2
  go_loopg [21] n2 (fun gk c wr => ∃ p : Nat, p ≤ n2 ∧ gk = n2 - p ∧ c = .int .i64 p ∧ Hid (Below w7.heap.size w7 wr))
  case atStart => exact ⟨0, Nat.zero_le _, rfl, rfl, HBQ⟩
  case round =>
  obtain ⟨r, hr, rfl, rfl, HW⟩ := hrel
  clear HBQ
  rename World => wA
  by_cases hlt : r < n2
  · obtain ⟨x, hx, hxn, f1⟩ := O7.out r hlt
    have f1' := (HW.out.cell (p := ⟨bO, r, none⟩) Y7.out.1).trans f1
    obtain ⟨ta, tc, t1, tz, t2⟩ := tg_at T7.out (x := x) (by rw [SAME.out]; exact hxn)
    have t1' := (HW.out.cell (p := ⟨bt, x, none⟩) tz).trans t1
    have hdx := DG.out x
    have KEY := hide (TW.out.key r x hx)
    have mks := TW.out.mks r x hx
    obtain ⟨d, hd⟩ : ∃ d, deg rs x = d := ⟨_, rfl⟩
    rw [hd] at t1 t1' t2 hdx KEY mks
    obtain ⟨va, d1, d2, d3⟩ := Z7.out.1.at' r hlt
    have zlt := Z7.out.1.lt
    have d1' := (HW.out.cell (p := ⟨bC, r, none⟩) zlt).trans d1
    have V := hide d2
    have T2 := hide t2
    have R26 : Hid (∀ (k : Nat) wr, k ≤ 4096 → Below w7.heap.size w7 wr → Calls Try.prog 26 #[.slice va (mk r).length (mk r).length, .int .i64 (k : Nat)] wr fun e w' => e = .returned (.bool ((mk r).getD k false)) ∧ w' = wr) :=
      hide fun k wr hk hb => M26.out r va k wr hlt hk (Sl.below V.out hb)
    have R25 : Hid (∀ wr, Below w7.heap.size w7 wr → Calls Try.prog 25 #[.slice va (mk r).length (mk r).length] wr fun e w' => e = .returned (.bool ((mk r).any id)) ∧ w' = wr) :=
      hide fun wr hb => A25.out r va wr hlt (Sl.below V.out hb)
    have T1 := hide (And.intro t1 tz)
    have D1 := hide (And.intro d1 zlt)
    clear d2 t2 hx hd f1 t1 d1 tz zlt V
    have arms : (va = none ∧ (mk r).length = 0) ∨ ((mk r).length = d ∧ (mk r).any id = true ∧ ∃ b o, va = some ⟨b, o, none⟩) := by
      rcases d3 with ⟨rfl, e⟩ | ⟨hne, b, o, e⟩
      · exact .inl ⟨rfl, by rw [e]; rfl⟩
      · rcases mks with h | ⟨h1, h2⟩
        · exact absurd h hne
        · exact .inr ⟨h1, h2, b, o, e⟩
    clear d3 mks
    rcases arms with ⟨rfl, hl⟩ | ⟨hl, ha, b, o, rfl⟩
    case' inl =>
      rw [hl] at R26 D1 d1'
      clear R25 hl nilS
      go_wp2
      go_quiet (fail)
    case' inr =>
      rw [hl] at R26 D1 d1' R25
      rw [ha] at R25
      have hn1 := nilS b o d
      clear hl ha nilN nilS
      go_wp2
      go_quiet (exact Calls.quiet_of_same (R25.out _ (B.below_drewN _ HW.out _)))
    all_goals
      have HV := hide (B.below_drewN _ HW.out nq)
      clear d1' f1' t1' LA HW
      try clear R25
      try clear hn1
      go_wp2
      generalize World.drewN _ nq = wB at HV ⊢
    all_goals
      go_loopg [23] d (fun gk c wr => ∃ k : Nat, k ≤ d ∧ gk = d - k ∧ c = .int .i64 k ∧ Hid (Below w7.heap.size w7 wr))
      case atStart => exact ⟨0, Nat.zero_le _, rfl, rfl, HV⟩
      case round =>
      clear HV
      obtain ⟨k, hk, rfl, rfl, HX⟩ := hrel
      rename World => wC
      have t1' := (HX.out.cell (p := ⟨bt, x, none⟩) T1.out.2).trans T1.out.1
      have d1' := (HX.out.cell (p := ⟨bC, r, none⟩) D1.out.2).trans D1.out.1
      by_cases hkd : k < d
      · obtain ⟨b1, o1, e1, z1, c1⟩ := T2.out k hkd
        subst e1
        have c1' := (HX.out.cell (p := ⟨b1, o1 + k, none⟩) z1).trans c1
        have hv : tgI xs (ref rs x k) = -1 ∨ ∃ j : Nat, tgI xs (ref rs x k) = (j : Int) ∧ j < n2 ∧ (j ≠ x → (mk r).getD k false = false → posI out j < r) := by
          unfold tgI
          cases hp : place xs (ref rs x k) with
          | none => exact .inl rfl
          | some j => exact .inr ⟨j, rfl, by rw [← HN.out]; exact (place_some hp).1, fun h1 h2 => KEY.out k hkd j hp h1 h2⟩
        generalize tgI xs (ref rs x k) = v at c1' hv
        clear c1
        rcases hv with rfl | ⟨j, rfl, hjn, hps⟩
        · go_wp2
          go_roundg (d - (k + 1))
          case measure => omega
          case rel => exact ⟨k + 1, by omega, rfl, by go_num, HX⟩
        · by_cases hjx : j = x
          · subst hjx
            clear hps
            go_wp2
            go_roundg (d - (k + 1))
            case measure => omega
            case rel => exact ⟨k + 1, by omega, rfl, by go_num, HX⟩
          · have hps' := hps hjx
            have hjb : ((j : Int) == (x : Int)) = false := by rw [beq_eq_false_iff_ne]; omega
            have HPS := hide hps'
            obtain ⟨p1, p2, p3⟩ := Q7.out j hjn
            have p1' := (HX.out.cell (p := ⟨bP, j, none⟩) Y7.out.2).trans p1
            generalize posI out j = v at p1' p2 p3 HPS
            clear hps hps' p1 hjx
            go_wp2_with fail
            refine Calls.mono (R26.out k _ (by omega) HX.out) ?_
            rintro e wD ⟨rfl, rfl⟩
            generalize (mk r).getD k false = mb at HPS ⊢
            cases mb
            · have hvr := HPS.out rfl
              clear HPS
              go_wp2
              go_roundg (d - (k + 1))
              case measure => omega
              case rel => exact ⟨k + 1, by omega, rfl, by go_num, HX⟩
            · clear HPS
              go_wp2
              go_roundg (d - (k + 1))
              case measure => omega
              case rel => exact ⟨k + 1, by omega, rfl, by go_num, HX⟩
      obtain rfl : k = d := by omega
      go_wp2
      go_roundg (n2 - (r + 1))
      case measure => omega
      case rel => exact ⟨r + 1, by omega, rfl, by go_num, HX⟩
  obtain rfl : r = n2 := by omega
  have LB := hide (L7.out.trans (HW.out.mono L7.out.size))
  clear LA HW
  go_wp2
  go_ret
  exact ⟨rfl, LB.out⟩
end Go.Proofs.Qxb6603821a.W
