/-
  ZZOrder (21).
-/
import Derived.Test.Qxb6603821aOrd
import Derived.Test.Qxb6603821aWait
import Derived.Deep.RegionWith
namespace Go.Proofs.Qxb6603821a.W
open Go.RowKit B
set_option linter.unusedVariables false

theorem info25 : (Try.prog.info? 25).map (fun i => (i.zero, i.size, i.bytes)) = some (some (.slice none 0 0), 1, 24) := by kernel_rfl
theorem info4 : (Try.prog.info? 4).map (fun i => (i.zero, i.size, i.bytes)) = some (some (.bool false), 1, 1) := by kernel_rfl
theorem info9 : (Try.prog.info? 9).map (fun i => (i.zero, i.size, i.bytes)) = some (some (.string ⟨#[]⟩), 1, 16) := by kernel_rfl

/-- What order leaves, read out. -/
structure ZOut (xs : List ByteArray) (S : St) (out : List Nat) (bN bC : Nat) (w' : World) : Prop where
  names : Cells w' bN (out.map fun i => .string (xs.getD i ⟨#[]⟩))
  marks : ∀ p (h : p < out.length), ∃ va vn, w'.cell? ⟨bC, p, none⟩ = some (.slice va vn vn) ∧ (S.cl.getD out[p] none = none → va = none ∧ vn = 0) ∧ (∀ bs, S.cl.getD out[p] none = some bs → vn = bs.length ∧ va.isSome = true ∧ Sl w' va (bs.map .bool))
  lN : bN < w'.heap.size
  lC : bC < w'.heap.size

def ZPost (xs : List ByteArray) (rs : List (List ByteArray)) (flag : Bool) (find : St → Option (Nat × Nat)) (w : World) (e : Ending) (w' : World) : Prop :=
  ∃ S out t bN bC, e = .returned (.tuple #[.slice (some ⟨bN, 0, none⟩) xs.length xs.length, .slice (some ⟨bC, 0, none⟩) xs.length xs.length]) ∧ iterO xs rs flag find t (S00 xs.length, []) = (S, out) ∧ out.length = xs.length ∧ (∀ i, i ∈ out → i < xs.length) ∧
    ZOut xs S out bN bC w' ∧ Below w.heap.size w w'

/-- The two rows that ZZOrder makes, in whichever order. -/
structure Made (bz bc : Nat) (w : World) (n : Nat) (W : World) : Prop where
  bel : Below w.heap.size w W
  cz : Cells W bz (List.replicate n (.slice none 0 0))
  lz : bz < W.heap.size
  cc : Cells W bc (List.replicate n (.bool false))
  lc : bc < W.heap.size
  nc : w.heap.size ≤ bc

theorem Made.one (w : World) (n : Nat) : Made w.heap.size (w.heap.size + 1) w n ((w.alloc (.cells (madeCells #[.slice none 0 0] n) 25)).alloc (.cells (madeCells #[.bool false] n) 4)).drew := by
  have z := Cells.new w (madeCells #[.slice none 0 0] n) 25
  have c := Cells.new (w.alloc (.cells (madeCells #[.slice none 0 0] n) 25)) (madeCells #[.bool false] n) 4
  rw [made_one] at z c
  simp only [World.size_alloc] at c
  have z' := z.below (B := w.heap.size + 1) (w' := (w.alloc (.cells (madeCells #[.slice none 0 0] n) 25)).alloc (.cells (madeCells #[.bool false] n) 4)) ((Below.refl _ _).alloc (by simp) _) (by omega)
  exact ⟨(((Below.refl _ _).alloc (Nat.le_refl _) _).alloc (by simp) _).drew, ⟨z'.at', z'.free⟩, by simp [World.drew]; omega, ⟨c.at', c.free⟩, by simp [World.drew], by omega⟩

theorem Made.two (w : World) (n : Nat) : Made (w.heap.size + 1) w.heap.size w n ((w.alloc (.cells (madeCells #[.bool false] n) 4)).alloc (.cells (madeCells #[.slice none 0 0] n) 25)).drew := by
  have c := Cells.new w (madeCells #[.bool false] n) 4
  have z := Cells.new (w.alloc (.cells (madeCells #[.bool false] n) 4)) (madeCells #[.slice none 0 0] n) 25
  rw [made_one] at z c
  simp only [World.size_alloc] at z
  have c' := c.below (B := w.heap.size + 1) (w' := (w.alloc (.cells (madeCells #[.bool false] n) 4)).alloc (.cells (madeCells #[.slice none 0 0] n) 25)) ((Below.refl _ _).alloc (by simp) _) (by omega)
  exact ⟨(((Below.refl _ _).alloc (Nat.le_refl _) _).alloc (by simp) _).drew, ⟨z.at', z.free⟩, by simp [World.drew], ⟨c'.at', c'.free⟩, by simp [World.drew]; omega, by omega⟩

set_option maxHeartbeats 2000000 in
theorem zz_any (a1 a2 : Option Addr) (c1 c2 : Nat) (xs : List ByteArray) (rs : List (List ByteArray)) (flag : Bool) (find : St → Option (Nat × Nat)) (w : World) (hn : xs.length ≤ 256) (hs : rs.length = xs.length) (hr : ∀ i, deg rs i ≤ 4096) (hnd : xs.Nodup)
    (s1 : Sl w a1 (xs.map .string)) (s2 : Sl2 .string w a2 rs) (hI : Inv xs rs (S00 xs.length) []) (hf : flag = true → FindOk xs rs find)
    (hcl : flag = true → ∀ S L w, Gr xs rs L w S → Calls Try.prog 33 #[.pointer (some ⟨L.bg, 0, none⟩)] w (ClosePost xs rs find S L w))
    (hlt : ∀ t S out, iterO xs rs flag find t (S00 xs.length, []) = (S, out) → ∀ i, i ∈ out → i < xs.length) :
    Calls Try.prog 21 #[.slice a1 xs.length c1, .slice a2 rs.length c2, .bool flag] w (ZPost xs rs flag find w) := by
  have CW : ∀ (W : World) (bz bc : Nat), Made bz bc w xs.length W → Calls Try.prog 28 #[.slice a1 xs.length c1, .slice a2 rs.length c2, .slice (some ⟨bz, 0, none⟩) xs.length xs.length, .slice (some ⟨bc, 0, none⟩) xs.length xs.length] W fun e w' =>
      ∃ L, e = .returned (.pointer (some ⟨L.bg, 0, none⟩)) ∧ Hid (Gr xs rs L w' (S00 xs.length) ∧ w.heap.size ≤ L.bt ∧ w.heap.size ≤ L.bc ∧ w.heap.size ≤ L.lim ∧ Below w.heap.size w w') := fun W bz bc hM => by
    refine (wait_any a1 a2 c1 c2 bz bc xs rs W hn hs hr hnd (Sl.below s1 hM.bel) (s2.below hM.bel) hM.cz hM.lz hM.cc hM.lc).mono ?_
    rintro e w' ⟨L, rfl, hG, hbc, hbt, hlim, hbw⟩
    have h1 := hM.bel.size
    have h2 := hM.nc
    have h3 := hbw.size
    exact ⟨L, rfl, hide ⟨hG, by omega, by omega, by omega, hM.bel.trans (hbw.mono h1)⟩⟩
  have HCW := hide CW
  have CO := fun L W hG hB => order_any xs rs flag find L (S00 xs.length) w.heap.size W hG hn hr hI hf hcl hB
  have HCO := hide CO
  obtain ⟨n, hN⟩ : ∃ n, xs.length = n := ⟨_, rfl⟩
  have HN := hide hN
  have HS := hide hs
  have HLT := hide hlt
  rw [hs, hN]
  rw [hN] at hn
  have mk24 := run_make_row' (P := Try.prog) 24 25 (.slice none 0 0) 24 Try.underlying24 info25 rfl .i64 .i64 n (by omega) (by omega)
  have mk25 := run_make_row' (P := Try.prog) 25 4 (.bool false) 1 Try.underlying25 info4 rfl .i64 .i64 n (by omega) (by omega)
  have mk22 := run_make_row' (P := Try.prog) 22 9 (.string ⟨#[]⟩) 16 Try.underlying22 info9 rfl .i64 .i64 n (by omega) (by omega)
  have M1 := hide (Made.one w n)
  have M2 := hide (Made.two w n)
  have K : ∀ (W : World) (bz bc : Nat), Made bz bc w n W → Calls Try.prog 28 #[.slice a1 n c1, .slice a2 n c2, .slice (some ⟨bz, 0, none⟩) n n, .slice (some ⟨bc, 0, none⟩) n n] W fun e w' =>
      ∃ L, e = .returned (.pointer (some ⟨L.bg, 0, none⟩)) ∧ Hid (Gr xs rs L w' (S00 xs.length) ∧ w.heap.size ≤ L.bt ∧ w.heap.size ≤ L.bc ∧ w.heap.size ≤ L.lim ∧ Below w.heap.size w w') := by
    intro W bz bc hM
    have h := CW W bz bc (by rw [hN]; exact hM)
    have e : (#[.slice a1 xs.length c1, .slice a2 rs.length c2, .slice (some ⟨bz, 0, none⟩) xs.length xs.length, .slice (some ⟨bc, 0, none⟩) xs.length xs.length] : Array Value) = #[.slice a1 n c1, .slice a2 n c2, .slice (some ⟨bz, 0, none⟩) n n, .slice (some ⟨bc, 0, none⟩) n n] := by rw [hs, hN]
    rw [e] at h; exact h
  have HK := hide K
  clear CW K CO hN s1 s2 hs hr hnd hI hf hcl hlt HCW
  go_enter Try.func21, Try.ntmps21
  go_upto_region 1 with fail
  go_cut [8] from 13 to 21 (fun s wc => ∃ L, s = .pointer (some ⟨L.bg, 0, none⟩) ∧ Hid (Gr xs rs L wc (S00 xs.length) ∧ w.heap.size ≤ L.bt ∧ w.heap.size ≤ L.bc ∧ w.heap.size ≤ L.lim ∧ Below w.heap.size w wc))
  case first =>
    go_region_with (go_at_call 28; refine Calls.mono (HK.out _ _ _ (by first | exact M1.out | exact M2.out)) ?_; rintro e w1 ⟨L, rfl, HL⟩)
    all_goals (go_wp2_with fail; go_meet)
    all_goals exact ⟨L, rfl, HL.out⟩
  case rest =>
  clear HK M1 M2
  obtain ⟨L, rfl, HG⟩ := hcut
  go_wp2_with fail
  refine (HCO.out L _ HG.out.1 ⟨HG.out.2.1, HG.out.2.2.1, HG.out.2.2.2.1⟩).mono ?_
  rintro e w3 ⟨bo, L', S, out, t, rfl, hit, hlen, hlay, hG, hrow, hb3⟩
  rw [HN.out]
  have HR := hide (And.intro hit (And.intro hlen (And.intro hG (And.intro hrow (HG.out.2.2.2.2.trans hb3)))))
  have hlen' : out.length = n := by rw [hlen, HN.out]
  have HLEN := hide hlen'
  have hbz := HG.out.2.2.2.2.size
  have hz3 := hb3.size
  clear hit hlen hlay hG hrow hb3 HG HCO
  obtain ⟨B, hB⟩ : ∃ B, w3.heap.size = B := ⟨_, rfl⟩
  have cN := Cells.new w3 (madeCells #[.string ⟨#[]⟩] n) 9
  have cC := Cells.new (w3.alloc (.cells (madeCells #[.string ⟨#[]⟩] n) 9)) (madeCells #[.slice none 0 0] n) 25
  rw [made_one] at cN cC
  simp only [World.size_alloc] at cC
  have cN' := cN.below (B := w3.heap.size + 1) (w' := (w3.alloc (.cells (madeCells #[.string ⟨#[]⟩] n) 9)).alloc (.cells (madeCells #[.slice none 0 0] n) 25)) ((Below.refl _ _).alloc (by simp) _) (by omega)
  have I0 : Hid (Cells ((w3.alloc (.cells (madeCells #[.string ⟨#[]⟩] n) 9)).alloc (.cells (madeCells #[.slice none 0 0] n) 25)) w3.heap.size ((out.map fun i => Value.string (xs.getD i ⟨#[]⟩)).take 0 ++ List.replicate (n - 0) (.string ⟨#[]⟩)) ∧
      Cells ((w3.alloc (.cells (madeCells #[.string ⟨#[]⟩] n) 9)).alloc (.cells (madeCells #[.slice none 0 0] n) 25)) (w3.heap.size + 1) ((out.map fun i => clV L' i (S.cl.getD i none)).take 0 ++ List.replicate (n - 0) (.slice none 0 0)) ∧
      Below w3.heap.size w3 ((w3.alloc (.cells (madeCells #[.string ⟨#[]⟩] n) 9)).alloc (.cells (madeCells #[.slice none 0 0] n) 25)) ∧ w3.heap.size + 1 < ((w3.alloc (.cells (madeCells #[.string ⟨#[]⟩] n) 9)).alloc (.cells (madeCells #[.slice none 0 0] n) 25)).heap.size) :=
    hide ⟨by simpa using cN', by simpa using cC, ((Below.refl _ _).alloc (Nat.le_refl _) _).alloc (by simp) _, by simp⟩
  clear cN cC cN' hlen' hB
  go_wp2
  clear mk22 mk24 mk25
  go_loopg [33] n (fun gk c wr => ∃ p : Nat, p ≤ n ∧ gk = n - p ∧ c = .int .i64 p ∧ Hid (Cells wr w3.heap.size ((out.map fun i => Value.string (xs.getD i ⟨#[]⟩)).take p ++ List.replicate (n - p) (.string ⟨#[]⟩)) ∧
      Cells wr (w3.heap.size + 1) ((out.map fun i => clV L' i (S.cl.getD i none)).take p ++ List.replicate (n - p) (.slice none 0 0)) ∧ Below w3.heap.size w3 wr ∧ w3.heap.size + 1 < wr.heap.size))
  case atStart => exact ⟨0, Nat.zero_le _, rfl, rfl, I0.out⟩
  case round =>
  clear I0
  obtain ⟨p, hp, rfl, rfl, HI⟩ := hrel
  rename World => wl
  obtain ⟨iN, iC, iB, iZ⟩ := HI.out
  obtain ⟨hit, hlen, hG, hrow, hbel⟩ := HR.out
  have hlim := hG.lim
  have hbo := hrow.lt
  by_cases hlt : p < n
  · have hpo : p < out.length := by rw [HLEN.out]; exact hlt
    obtain ⟨h1, h2⟩ := hrow.here p hpo
    have hout := HLT.out t S out hit out[p] (List.getElem_mem hpo)
    have e1 := (iB.cell (p := ⟨bo, p * 2, none⟩) hbo).trans h1
    have e2 := (iB.cell (p := ⟨bo, p * 2 + 1, none⟩) hbo).trans h2
    have htb := hG.ltb _ hout
    have e3 := (iB.cell (p := ⟨L'.tb out[p], 0, none⟩) (by show L'.tb out[p] < _; omega)).trans (hG.nm _ hout)
    have hxg : xs.getD out[p] ⟨#[]⟩ = xs[out[p]] := by simp [hout]
    rw [← hxg] at e3
    have lN : ((out.map fun i => Value.string (xs.getD i ⟨#[]⟩))).length = n := by simp [HLEN.out]
    have lC : ((out.map fun i => clV L' i (S.cl.getD i none))).length = n := by simp [HLEN.out]
    have f1 := iN.get (take_at (z := .string ⟨#[]⟩) lN hlt)
    have f2 := iN.free p (by simp [HLEN.out]; omega)
    have f3 := iC.get (take_at (z := .slice none 0 0) lC hlt)
    have f4 := iC.free p (by simp [HLEN.out]; omega)
    have t1 := take_set (z := .string ⟨#[]⟩) lN hlt
    have t2 := take_set (z := .slice none 0 0) lC hlt
    simp only [List.getElem_map] at t1 t2
    obtain ⟨va, vn, hv⟩ : ∃ va vn, clV L' out[p] (S.cl.getD out[p] none) = .slice va vn vn := by
      cases S.cl.getD out[p] none with
      | none => exact ⟨_, _, rfl⟩
      | some bs => exact ⟨_, _, rfl⟩
    rw [hv] at e2 t2
    generalize xs.getD out[p] ⟨#[]⟩ = nm at *
    have R : Hid (Cells ((wl.setCell ⟨w3.heap.size, p, none⟩ (.string nm)).setCell ⟨w3.heap.size + 1, p, none⟩ (.slice va vn vn)) w3.heap.size ((out.map fun i => Value.string (xs.getD i ⟨#[]⟩)).take (p + 1) ++ List.replicate (n - (p + 1)) (.string ⟨#[]⟩)) ∧
        Cells ((wl.setCell ⟨w3.heap.size, p, none⟩ (.string nm)).setCell ⟨w3.heap.size + 1, p, none⟩ (.slice va vn vn)) (w3.heap.size + 1) ((out.map fun i => clV L' i (S.cl.getD i none)).take (p + 1) ++ List.replicate (n - (p + 1)) (.slice none 0 0)) ∧
        Below w3.heap.size w3 ((wl.setCell ⟨w3.heap.size, p, none⟩ (.string nm)).setCell ⟨w3.heap.size + 1, p, none⟩ (.slice va vn vn)) ∧ w3.heap.size + 1 < ((wl.setCell ⟨w3.heap.size, p, none⟩ (.string nm)).setCell ⟨w3.heap.size + 1, p, none⟩ (.slice va vn vn)).heap.size) := by
      refine hide ⟨?_, ?_, (iB.setCell (p := ⟨w3.heap.size, p, none⟩) (Nat.le_refl _) _).setCell (p := ⟨w3.heap.size + 1, p, none⟩) (Nat.le_succ _) _, by simpa [World.setCell] using iZ⟩
      · have := (iN.set p (.string nm)).far (p := ⟨w3.heap.size + 1, p, none⟩) (by simp) (.slice va vn vn)
        rw [t1] at this; exact this
      · have := (iC.far (p := ⟨w3.heap.size, p, none⟩) (by simp) (.string nm)).set p (.slice va vn vn)
        rw [t2] at this; exact this
    have HX := hide iZ
    clear t1 t2 lN lC hv hxg h1 h2 iN iC hit hrow hG HI
    go_wp2
    go_roundg (n - (p + 1))
    case measure => omega
    case rel => exact ⟨p + 1, by omega, rfl, by go_num, R.out⟩
  · obtain rfl : p = n := by omega
    have fin : Hid (ZOut xs S out w3.heap.size (w3.heap.size + 1) wl) := by
      have tN : ((out.map fun i => Value.string (xs.getD i ⟨#[]⟩)).take p ++ List.replicate (p - p) (Value.string ⟨#[]⟩)) = out.map fun i => Value.string (xs.getD i ⟨#[]⟩) := by
        rw [List.take_of_length_le (by simp [HLEN.out])]; simp
      have tC : ((out.map fun i => clV L' i (S.cl.getD i none)).take p ++ List.replicate (p - p) (Value.slice none 0 0)) = out.map fun i => clV L' i (S.cl.getD i none) := by
        rw [List.take_of_length_le (by simp [HLEN.out])]; simp
      rw [tN] at iN
      rw [tC] at iC
      refine hide ⟨iN, fun j hj => ?_, by omega, iZ⟩
      have hc := iC.at' j (by simpa using hj)
      simp only [List.getElem_map] at hc
      cases hcl : S.cl.getD out[j] none with
      | none =>
        rw [hcl] at hc
        exact ⟨none, 0, hc, (fun _ => ⟨rfl, rfl⟩), (fun bs h => by cases h)⟩
      | some bs =>
        rw [hcl] at hc
        simp only [clV] at hc
        refine ⟨some ⟨L'.cb out[j], 0, none⟩, bs.length, hc, (fun h => by cases h), fun bs' h => ?_⟩
        cases h
        have hx : S.cl[out[j]]? = some (some bs) := by
          rw [List.getD_eq_getElem?_getD] at hcl
          cases hy : S.cl[out[j]]? with
          | none => rw [hy] at hcl; cases hcl
          | some z => rw [hy] at hcl; simp at hcl; rw [hcl]
        exact ⟨rfl, rfl, Sl.of_cells ((hG.cells _ _ hx).below iB (hG.lcb _ _ hx).2) (Nat.lt_of_lt_of_le (hG.lcb _ _ hx).2 iB.size)⟩
    have hbl : Below w.heap.size w wl := hbel.trans (iB.mono (by omega))
    have HBL := hide hbl
    clear hbl iN iC iB hG hrow hbel hit HI
    go_wp2
    go_ret2
    obtain ⟨hit, hlen, hG, hrow, hbel⟩ := HR.out
    exact ⟨S, out, t, _, _, by rw [HN.out]; rfl, hit, hlen, HLT.out t S out hit, fin.out, HBL.out⟩
end Go.Proofs.Qxb6603821a.W
