/-
  The walk of FnOrderMarksOnlyKeysOnCycles (7).
-/
import Derived.Test.Qxb6603821aTwo
import Derived.Test.Qxb6603821aAny
import Derived.Test.Qxb6603821aRf
import Derived.WalkSpells
import Derived.Deep.QuietTactic
import Derived.BigQuiet
namespace Go.Proofs.Qxb6603821a.W
open Go.RowKit B
set_option linter.unusedVariables false

theorem infoS25 : (Try.prog.info? 25).map (fun i => (i.zero, i.size, i.bytes)) = some (some (.slice none 0 0), 1, 24) := by kernel_rfl

/-- The rows of reach laid up so far: the block behind all that stood. -/
structure RO (xs : List ByteArray) (rs : List (List ByteArray)) (n : Nat) (wb wr : World) : Prop where
  bel : Below wb.heap.size wb wr
  lt : wb.heap.size < wr.heap.size
  free : ∀ j, j < n → wr.frozen? ⟨wb.heap.size, j, none⟩ = false
  at' : ∀ j, j < n → wr.cell? ⟨wb.heap.size, j, none⟩ = some (.slice none 0 0) ∨ ∃ (b : Nat) (r : List Bool), wr.cell? ⟨wb.heap.size, j, none⟩ = some (.slice (some ⟨b, 0, none⟩) n n) ∧ wb.heap.size < b ∧ b < wr.heap.size ∧ r.length = n ∧ Cells wr b (r.map .bool) ∧ ∀ x, Leads (FE xs rs) j x → r.getD x false = true

theorem RO.new {xs : List ByteArray} {rs : List (List ByteArray)} {n : Nat} {wb : World} (t : TypeId) : RO xs rs n wb (wb.alloc (.cells (madeCells #[.slice none 0 0] n) t)) := by
  have c := Cells.new wb (madeCells #[.slice none 0 0] n) t
  rw [made_one] at c
  refine ⟨(Below.refl _ _).alloc (Nat.le_refl _) _, by simp, fun j hj => c.free j (by simpa using hj), fun j hj => .inl ?_⟩
  have := c.at' j (by simpa using hj)
  simpa using this

/-- One more: what reachFrom gave for 'j'. -/
theorem RO.step {xs : List ByteArray} {rs : List (List ByteArray)} {n : Nat} {wb wr w5 : World} (h : RO xs rs n wb wr) {j : Nat} (hj : j < n) {r : List Bool} (hl : r.length = n) (hL : ∀ x, Leads (FE xs rs) j x → r.getD x false = true) (hR : RW wr r w5) :
    RO xs rs n wb (w5.setCell ⟨wb.heap.size, j, none⟩ (.slice (some ⟨wr.heap.size, 0, none⟩) n n)) := by
  have hlt := h.lt
  have hz := hR.bel.size
  have ce : ∀ o, w5.cell? ⟨wb.heap.size, o, none⟩ = wr.cell? ⟨wb.heap.size, o, none⟩ := fun o => hR.bel.cell (p := ⟨wb.heap.size, o, none⟩) hlt
  have fe : ∀ o, w5.frozen? ⟨wb.heap.size, o, none⟩ = wr.frozen? ⟨wb.heap.size, o, none⟩ := fun o => hR.bel.frozen (p := ⟨wb.heap.size, o, none⟩) hlt
  refine ⟨(h.bel.trans (hR.bel.mono (by omega))).setCell (p := ⟨wb.heap.size, j, none⟩) (Nat.le_refl _) _, by simp [World.setCell]; omega, fun i hi => by rw [World.frozen?_setCell, fe]; exact h.free i hi, fun i hi => ?_⟩
  by_cases e : i = j
  · subst e
    refine .inr ⟨wr.heap.size, r, ?_, hlt, by simpa [World.setCell] using hR.lt, hl, hR.cs.far (p := ⟨wb.heap.size, i, none⟩) (by show wb.heap.size ≠ _; omega) _, hL⟩
    have hs : ∃ v, w5.cell? ⟨wb.heap.size, i, none⟩ = some v := by
      rw [ce]
      rcases h.at' i hi with h1 | ⟨b, r, h1, _⟩
      · exact ⟨_, h1⟩
      · exact ⟨_, h1⟩
    obtain ⟨v, hv⟩ := hs
    exact World.cell?_setCell_same w5 ⟨wb.heap.size, i, none⟩ _ hv
  · have eo : (w5.setCell ⟨wb.heap.size, j, none⟩ (.slice (some ⟨wr.heap.size, 0, none⟩) n n)).cell? ⟨wb.heap.size, i, none⟩ = wr.cell? ⟨wb.heap.size, i, none⟩ := by
      rw [World.cell?_setCell_other w5 _ _ _ (by intro h; cases h; exact e rfl), ce]
    rw [eo]
    rcases h.at' i hi with h1 | ⟨b, r', h1, h2, h3, h4, h5, h6⟩
    · exact .inl h1
    · exact .inr ⟨b, r', h1, h2, by simp [World.setCell]; omega, h4, (h5.below hR.bel h3).far (p := ⟨wb.heap.size, j, none⟩) (by show wb.heap.size ≠ b; omega) _, h6⟩

set_option maxRecDepth 100000 in
set_option maxHeartbeats 4000000 in
theorem law7 (a1 a2 : Option Addr) (c1 c2 : Nat) (xs : List ByteArray) (rs : List (List ByteArray)) (w : World) (hx : xs.length ≤ maxLen) (hy : rs.length ≤ maxLen) (hr : ∀ r ∈ rs, r.length ≤ maxLen)
    (s1 : Sl w a1 (xs.map .string)) (s2 : Sl2 .string w a2 rs) :
    Calls Try.prog 7 #[.slice a1 xs.length c1, .slice a2 rs.length c2] w fun e w' => e = .returned (.bool true) ∧ Below w.heap.size w w' := by
  have B27 := hide (bytes27 a1 a2 c1 c2 xs rs w hx hy hr s1 s2)
  have B20 := hide (big_any a1 a2 c1 c2 xs rs w hx hy hr s1 s2)
  have S := hide (And.intro s1 s2)
  obtain ⟨n, hN⟩ : ∃ n, xs.length = n := ⟨_, rfl⟩
  obtain ⟨n2, hN2⟩ : ∃ n, rs.length = n := ⟨_, rfl⟩
  have HN := hide hN
  have HN2 := hide hN2
  rw [hN, hN2] at B27 B20 ⊢
  clear hx hy hr s1 s2 hN hN2
  go_enter Try.func7, Try.ntmps7
  go_wp2_with fail
  refine Calls.mono B27.out ?_
  clear B27
  rintro e w' ⟨⟨b, rfl⟩, rfl⟩
  cases b
  · go_wp2
    go_ret
    exact ⟨rfl, Below.refl _ _⟩
  go_wp2_with fail
  refine Calls.mono B20.out ?_
  clear B20
  rintro e w' ⟨rfl, b, rfl, hsm⟩
  cases b
  case true =>
    clear hsm
    go_wp2
    go_ret
    exact ⟨rfl, Below.refl _ _⟩
  have SM := hide (hsm rfl)
  clear hsm
  have hn : n ≤ 256 := by rw [← HN.out]; exact SM.out.n
  obtain rfl : n2 = n := by rw [← HN.out, ← HN2.out]; exact SM.out.same
  have C10 : ∀ a cap w, Sl w a (xs.map .string) → Calls Try.prog 10 #[.slice a n2 cap] w (IdxPost xs w) := fun a cap w h => by
    rw [← HN.out]; exact idx_any a cap xs w (by have := HN.out; omega) h
  have K10 := hide C10
  clear C10
  go_wp2_with fail
  refine Calls.mono (K10.out _ _ _ S.out.1) ?_
  rintro e w1 ⟨hb1, rfl, _⟩
  have L1 := hide hb1
  clear hb1
  by_cases hnd : xs.Nodup
  case neg =>
    rw [decide_eq_false hnd]
    clear hnd
    go_wp2
    go_ret
    exact ⟨rfl, L1.out⟩
  rw [decide_eq_true hnd]
  have ND := hide hnd
  clear hnd
  have K11 : Hid (∀ a cap w, Sl w a (xs.map .string) → Calls Try.prog 11 #[.slice a n2 cap] w fun e w' => ∃ a' cap', e = .returned (.slice a' n2 cap') ∧ Hid (Sl w' a' (xs.map Value.string) ∧ Below w.heap.size w w')) := hide fun a cap w h => by
    rw [← HN.out]; refine (cps_any a cap xs w (by have := HN.out; omega) h).mono ?_
    rintro e w' ⟨a', cap', e1, h1, h2, _⟩
    exact ⟨a', cap', e1, hide ⟨h1, h2⟩⟩
  have K12 : Hid (∀ a cap w, Sl2 .string w a rs → Calls Try.prog 12 #[.slice a n2 cap] w fun e w' => ∃ a' cap', e = .returned (.slice a' n2 cap') ∧ Hid (Sl2 .string w' a' rs ∧ Below w.heap.size w w')) := hide fun a cap w h => by
    rw [← HN2.out]; refine (cp2_any a cap rs w (by have := HN2.out; omega) (fun r hr => by have := keys_mem SM.out.keys r hr; omega) h).mono ?_
    rintro e w' ⟨a', cap', e1, h1, h2⟩
    exact ⟨a', cap', e1, hide ⟨h1, h2⟩⟩
  have K16 : Hid (∀ bm a cap w, w.heap[bm]? = some (.map (mapOf xs) xs.length) → Sl2 .string w a rs → Calls Try.prog 16 #[.map (some bm), .slice a n2 cap] w fun e w' => e = .returned (.slice (some ⟨w.heap.size, 0, none⟩) n2 n2) ∧ Hid (Sl2 (.int .i64) w' (some ⟨w.heap.size, 0, none⟩) (tgOf xs rs) ∧ Below w.heap.size w w')) := hide fun bm a cap w hm h => by
    rw [← HN2.out]; refine (res_any bm xs.length a cap xs rs w (by have := HN2.out; omega) (fun r hr => by have := keys_mem SM.out.keys r hr; omega) hm h).mono ?_
    rintro e w' ⟨e1, h1, h2, h3⟩
    have hl : (tgOf xs rs).length = rs.length := by simp [tgOf]
    exact ⟨e1, hide ⟨Rows2.sl2 (n := rs.length) (by rw [hl]; exact h1) h3, h2⟩⟩
  have K21T : Hid (∀ a cap a' cap' w, Sl w a (xs.map .string) → Sl2 .string w a' rs → Calls Try.prog 21 #[.slice a n2 cap, .slice a' n2 cap', .bool true] w (TwoPost xs rs n2 w)) := hide fun a cap a' cap' w h1 h2 => by
    have h := zzT a a' cap cap' xs rs w SM.out ND.out h1 h2
    rw [HN2.out, HN.out] at h
    exact h
  go_wp2_with fail
  refine Calls.mono (K11.out _ _ _ (Sl.below S.out.1 L1.out)) ?_
  clear K11
  rintro e w2 ⟨a1', c1', rfl, H2⟩
  have L2 := hide (L1.out.trans (H2.out.2.mono L1.out.size))
  go_wp2_with fail
  refine Calls.mono (K12.out _ _ _ (S.out.2.below L2.out)) ?_
  clear K12
  rintro e w3 ⟨a2', c2', rfl, H3⟩
  have L3 := hide (L2.out.trans (H3.out.2.mono L2.out.size))
  have N3 := hide (Sl.below H2.out.1 H3.out.2)
  go_wp2_with fail
  refine Calls.mono (K10.out _ _ _ N3.out) ?_
  clear K10
  rintro e w4 ⟨hb4, rfl, hm4⟩
  rw [decide_eq_true ND.out]
  have M4 := hide (hm4 ND.out)
  have L4 := hide (L3.out.trans (hb4.mono L3.out.size))
  have N4 := hide (Sl.below N3.out hb4)
  have R4 := hide (H3.out.1.below hb4)
  clear hm4 hb4
  go_wp2_with fail
  refine Calls.mono (K16.out _ _ _ _ M4.out.1 R4.out) ?_
  clear K16
  rintro e w5 ⟨rfl, H5⟩
  have L5 := hide (L4.out.trans (H5.out.2.mono L4.out.size))
  go_wp2_with fail
  refine Calls.mono (K21T.out _ _ _ _ _ (Sl.below N4.out H5.out.2) (R4.out.below H5.out.2)) ?_
  clear K21T
  rintro e w8 ⟨out, mk, bN, bC, rfl, hTW, hZM, hbN, hsN, hb8⟩
  have TW := hide hTW
  have M8 : Hid (w8.heap[w3.heap.size]? = some (.map (mapOf xs) xs.length)) := hide (by
    have h4 := M4.out.2
    have h5 := H5.out.2.size
    rw [hb8.block _ (by omega), H5.out.2.block _ h4]; exact M4.out.1)
  have L8 := hide (L5.out.trans (hb8.mono L5.out.size))
  have T8 := hide (H5.out.1.below hb8)
  have Z8 := hide hZM
  have K22 : Hid (Calls Try.prog 22 #[.map (some w3.heap.size), .slice (some ⟨bN, 0, none⟩) n2 n2, .int .i64 n2] w8 (PlPost out n2 w8)) := hide (by
    rw [← HN.out]; exact pl_any w3.heap.size _ _ xs out w8 SM.out.n M8.out ND.out TW.out.nd TW.out.len TW.out.lt hsN)
  clear M8 M4 R4 N4 N3 H2 H3 H5 S L1 L2 L3 L4 L5 hTW hZM hbN hsN hb8
  obtain ⟨bt, hbt⟩ : ∃ b, w4.heap.size = b := ⟨_, rfl⟩
  rw [hbt] at T8 ⊢
  clear hbt
  go_wp2_with fail
  refine Calls.mono K22.out ?_
  clear K22
  rintro e w7 ⟨bO, bP, rfl, hpl, hb7⟩
  have mk1 := run_make_row' (P := Try.prog) 24 25 (.slice none 0 0) 24 Try.underlying24 infoS25 rfl .i64 .i64 n2 (by omega) (by omega) w7
  have c1 := Cells.new w7 (madeCells #[.slice none 0 0] n2) 25
  have bel1 : Below w7.heap.size w7 (w7.alloc (.cells (madeCells #[.slice none 0 0] n2) 25)) := (Below.refl _ _).alloc (Nat.le_refl _) _
  have z1 : w7.heap.size < (w7.alloc (.cells (madeCells #[.slice none 0 0] n2) 25)).heap.size := by simp
  obtain ⟨wa, hwa⟩ : ∃ wa, wa = w7.alloc (.cells (madeCells #[.slice none 0 0] n2) 25) := ⟨_, rfl⟩
  rw [← hwa] at mk1 c1 bel1 z1
  rw [made_one] at c1
  have mk2 := run_make_row' (P := Try.prog) 25 4 (.bool false) 1 Try.underlying25 infoB4 rfl .i64 .i64 n2 (by omega) (by omega) wa
  have c2 := Cells.new wa (madeCells #[.bool false] n2) 4
  have bel2 : Below wa.heap.size wa (wa.alloc (.cells (madeCells #[.bool false] n2) 4)) := (Below.refl _ _).alloc (Nat.le_refl _) _
  have z2 : wa.heap.size < (wa.alloc (.cells (madeCells #[.bool false] n2) 4)).heap.size := by simp
  obtain ⟨wb, hwb⟩ : ∃ wb, wb = wa.alloc (.cells (madeCells #[.bool false] n2) 4) := ⟨_, rfl⟩
  rw [← hwb] at mk2 c2 bel2 z2
  rw [made_one] at c2
  have mk3 := run_make_row' (P := Try.prog) 24 25 (.slice none 0 0) 24 Try.underlying24 infoS25 rfl .i64 .i64 n2 (by omega) (by omega) wb
  have R0 := hide (RO.new (xs := xs) (rs := rs) (n := n2) (wb := wb) 25)
  obtain ⟨wc, hwc⟩ : ∃ wc, wc = wb.alloc (.cells (madeCells #[.slice none 0 0] n2) 25) := ⟨_, rfl⟩
  rw [← hwc] at mk3 R0
  have b7 := bel1.trans (bel2.mono (Nat.le_of_lt z1))
  have LB := hide ((L8.out.trans (hb7.mono L8.out.size)).trans (b7.mono (Nat.le_trans L8.out.size hb7.size)))
  have TB := hide ((T8.out.below hb7).below b7)
  have ZB := hide ((Z8.out.below hb7).below b7)
  have OB : Hid (∀ p, p < n2 → ∃ x, out[p]? = some x ∧ x < n2 ∧ bO < wb.heap.size ∧ wb.cell? ⟨bO, p, none⟩ = some (.int .i64 (x : Nat))) := hide fun p hp => by
    have hpo : p < out.length := by rw [TW.out.len, HN.out]; exact hp
    have h := hpl.oc.at' p (by simpa using hpo)
    simp only [List.getElem_map] at h
    exact ⟨out[p], by simp [hpo], by rw [← HN.out]; exact TW.out.lt _ (List.getElem_mem hpo), Nat.lt_of_lt_of_le hpl.lO b7.size, (b7.cell (p := ⟨bO, p, none⟩) hpl.lO).trans h⟩
  have DG := hide (keys_deg SM.out.keys)
  have SAME : Hid (rs.length = n2) := hide HN2.out
  obtain ⟨bz, hbz⟩ : ∃ b, w7.heap.size = b := ⟨_, rfl⟩
  obtain ⟨bf, hbf⟩ : ∃ b, wa.heap.size = b := ⟨_, rfl⟩
  obtain ⟨br, hbr⟩ : ∃ b, wb.heap.size = b := ⟨_, rfl⟩
  have F15 : Hid (∀ (j : Nat) wr, j < n2 → RO xs rs n2 wb wr → Calls Try.prog 15 #[.slice (some ⟨bt, 0, none⟩) n2 n2, .slice (some ⟨bz, 0, none⟩) n2 n2, .slice (some ⟨bf, 0, none⟩) n2 n2, .int .i64 (j : Nat)] wr (RfPost xs rs n2 j wr)) := hide fun j wr hj hR => by
    subst hbz; subst hbf
    have cz := (c1.below (w' := wb) (B := wa.heap.size) bel2 z1).below hR.bel (by omega)
    have cf := c2.below hR.bel z2
    have hz := hR.bel.size
    refine rf_any xs rs n2 bt w7.heap.size wa.heap.size j wr HN.out hn SAME.out DG.out hj (TB.out.below hR.bel) (fun i hi => ?_) (by omega) (fun i hi => ?_) (by omega)
    · have := cz.at' i (by simpa using hi); simpa using this
    · have := cf.at' i (by simpa using hi); simpa using this
  have M26 : Hid (∀ p va (k : Nat) wr, p < n2 → k ≤ 4096 → Sl wr va ((mk p).map .bool) → Calls Try.prog 26 #[.slice va (mk p).length (mk p).length, .int .i64 (k : Nat)] wr fun e w' => e = .returned (.bool ((mk p).getD k false)) ∧ w' = wr) := hide fun p va k wr hp hk h => by
    refine mkd_any va _ (mk p) k wr ?_ (by omega) h
    have hpo : p < out.length := by rw [TW.out.len, HN.out]; exact hp
    rcases TW.out.mks p _ (List.getElem?_eq_getElem hpo) with e | ⟨e, _⟩
    · rw [e]; simp
    · rw [e]; have := DG.out out[p]; omega
  rw [hbz] at mk1
  rw [hbf] at mk2
  rw [hbr] at mk3
  have HBR := hide hbr
  have nil0 : ∀ w a l, (binOp .eql 25 (.slice a l l) (.slice none 0 0)).run Try.prog w = .ok (.bool a.isNone) w := fun w a l => run_eql_slice_nil w 25 4 a l l Try.underlying25
  clear c1 c2 bel1 bel2 z1 z2 hwa hwb hwc b7 hpl hb7 T8 Z8 L8 hbz hbf hbr
  go_wp2
  clear mk1 mk2 mk3
  go_loopg [19] n2 (fun gk c wr => ∃ p : Nat, p ≤ n2 ∧ gk = n2 - p ∧ c = .int .i64 p ∧ Hid (RO xs rs n2 wb wr))
  case atStart => exact ⟨0, Nat.zero_le _, rfl, rfl, R0⟩
  case round =>
  clear R0
  obtain ⟨p, hp, rfl, rfl, HR⟩ := hrel
  rename World => w9
  by_cases hlt : p < n2
  · obtain ⟨x, hx, hxn, hol, f1⟩ := OB.out p hlt
    have f1' := (HR.out.bel.cell (p := ⟨bO, p, none⟩) hol).trans f1
    obtain ⟨ta, tc, t1, tz, t2⟩ := tg_at TB.out (x := x) (by rw [SAME.out]; exact hxn)
    have hdx := DG.out x
    have CYC := hide (TW.out.cyc p x hx)
    obtain ⟨d, hd⟩ : ∃ d, deg rs x = d := ⟨_, rfl⟩
    rw [hd] at t1 t2 hdx
    obtain ⟨va, d1, d2, _⟩ := ZB.out.at' p hlt
    have zlt := ZB.out.lt
    have V := hide d2
    have T2 := hide t2
    have R26 : Hid (∀ (k : Nat) wr, k ≤ 4096 → RO xs rs n2 wb wr → Calls Try.prog 26 #[.slice va (mk p).length (mk p).length, .int .i64 (k : Nat)] wr fun e w' => e = .returned (.bool ((mk p).getD k false)) ∧ w' = wr) :=
      hide fun k wr hk hb => M26.out p va k wr hlt hk (Sl.below V.out hb.bel)
    have T1 := hide (And.intro t1 tz)
    have D1 := hide (And.intro d1 zlt)
    clear d2 t2 hx hd f1 t1 d1 tz zlt V hol
    go_wp2
    clear f1'
    go_loopg [21] d (fun gk c wr => ∃ k : Nat, k ≤ d ∧ gk = d - k ∧ c = .int .i64 k ∧ Hid (RO xs rs n2 wb wr))
    case atStart => exact ⟨0, Nat.zero_le _, rfl, rfl, HR⟩
    case round =>
    clear HR
    obtain ⟨k, hk, rfl, rfl, HX⟩ := hrel
    rename World => wC
    have t1' := (HX.out.bel.cell (p := ⟨bt, x, none⟩) T1.out.2).trans T1.out.1
    have d1' := (HX.out.bel.cell (p := ⟨bC, p, none⟩) D1.out.2).trans D1.out.1
    by_cases hkd : k < d
    · go_wp2_with fail
      refine Calls.mono (R26.out k _ (by omega) HX.out) ?_
      rintro e wD ⟨rfl, rfl⟩
      rename World => wD
      have HC := hide (CYC.out k)
      generalize (mk p).getD k false = mb at HC ⊢
      cases mb
      · clear HC
        go_wp2
        go_roundg (d - (k + 1))
        case measure => omega
        case rel => exact ⟨k + 1, by omega, rfl, by go_num, HX⟩
      obtain ⟨j, hpl, hjx, hL⟩ := HC.out rfl
      have hjn : j < n2 := by rw [← HN.out]; exact (place_some hpl).1
      obtain ⟨b1, o1, e1, z1, c1⟩ := T2.out k hkd
      subst e1
      have c1' := (HX.out.bel.cell (p := ⟨b1, o1 + k, none⟩) z1).trans c1
      have htg : tgI xs (ref rs x k) = (j : Int) := by unfold tgI; rw [hpl]
      rw [htg] at c1'
      have LL := hide hL
      have hjb : ((j : Int) == (x : Int)) = false := by rw [beq_eq_false_iff_ne]; omega
      clear HC c1 htg hpl hjx hL
      have fr1 := HX.out.free j hjn
      rw [HBR.out] at fr1
      rcases HX.out.at' j hjn with g1 | ⟨b, r, g1, g2, g3, g4, g5, g6⟩
      · rw [HBR.out] at g1
        have blt : br < wD.heap.size := by rw [← HBR.out]; exact HX.out.lt
        go_wp2_with fail
        refine Calls.mono (F15.out j _ hjn HX.out) ?_
        rintro e wE ⟨rfl, r, hl, hr, hRW⟩
        have NX := hide (HX.out.step hjn hl hr hRW)
        rw [HBR.out] at NX
        have k1 := (hRW.bel.cell (p := ⟨br, j, none⟩) blt).trans g1
        have k2 := (hRW.bel.frozen (p := ⟨br, j, none⟩) blt).trans fr1
        have k3 := World.cell?_setCell_same wE ⟨br, j, none⟩ (.slice (some ⟨wD.heap.size, 0, none⟩) n2 n2) k1
        have k4 := (hRW.cs.far (p := ⟨br, j, none⟩) (by show br ≠ wD.heap.size; omega) (.slice (some ⟨wD.heap.size, 0, none⟩) n2 n2)).at' x (by simpa [hl] using hxn)
        have k5 := hr x LL.out
        have hxr : x < r.length := by omega
        simp only [List.getElem_map] at k4
        have k6 : r[x] = true := by simpa [hxr] using k5
        rw [k6] at k4
        clear k5 k6 hxr hRW hr hl g1 fr1 HX LL
        go_wp2
        go_roundg (d - (k + 1))
        case measure => omega
        case rel => exact ⟨k + 1, by omega, rfl, by go_num, NX⟩
      · rw [HBR.out] at g1
        have k4 := g5.at' x (by simpa [g4] using hxn)
        have k5 := g6 x LL.out
        have hxr : x < r.length := by omega
        simp only [List.getElem_map] at k4
        have k6 : r[x] = true := by simpa [hxr] using k5
        rw [k6] at k4
        clear k5 k6 hxr g5 g6 g4 g2 LL
        go_wp2
        go_roundg (d - (k + 1))
        case measure => omega
        case rel => exact ⟨k + 1, by omega, rfl, by go_num, HX⟩
    obtain rfl : k = d := by omega
    go_wp2
    go_roundg (n2 - (p + 1))
    case measure => omega
    case rel => exact ⟨p + 1, by omega, rfl, by go_num, HX⟩
  obtain rfl : p = n2 := by omega
  have FIN := hide (LB.out.trans (HR.out.bel.mono LB.out.size))
  clear LB HR
  go_wp2
  go_ret
  exact ⟨rfl, FIN.out⟩
end Go.Proofs.Qxb6603821a.W
