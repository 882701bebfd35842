/-
  order (30).
-/
import Derived.Test.Qxb6603821aOrd0
import Derived.Deep.LoopGhost
namespace Go.Proofs.Qxb6603821a.W
open Go.RowKit B
set_option linter.unusedVariables false

/-- What turns where a key is marked. -/
structure Turned (L : Lay) (S : St) (w w' : World) : Prop where
  os : w'.os = w.os
  tape : w'.tape = w.tape
  output : w'.output = w.output
  size : w.heap.size ≤ w'.heap.size
  block : ∀ b, b < w.heap.size → b ≠ L.bt → (∀ j bs, S.cl[j]? = some (some bs) → b ≠ L.cb j) → w'.heap[b]? = w.heap[b]?

def ClosePost (xs : List ByteArray) (rs : List (List ByteArray)) (find : St → Option (Nat × Nat)) (S : St) (L : Lay) (w : World) (e : Ending) (w' : World) : Prop :=
  match find S with
  | none => e = .returned (.bool false) ∧ Below w.heap.size w w'
  | some (i, k) => e = .returned (.bool true) ∧ ∃ cb', Gr xs rs { L with cb := cb' } w' (markS rs S i k) ∧ Turned L S w w' ∧ (∀ j, j ≠ i → cb' j = L.cb j) ∧ ((∃ bs, S.cl[i]? = some (some bs) ∧ cb' i = L.cb i) ∨ w.heap.size ≤ cb' i)

structure FindOk (xs : List ByteArray) (rs : List (List ByteArray)) (find : St → Option (Nat × Nat)) : Prop where
  ok : ∀ S i k, find S = some (i, k) → i < xs.length ∧ k < deg rs i ∧ 0 ≤ wfI xs rs S i k
  full : ∀ S out, Inv xs rs S out → out.length < xs.length → ¬ 0 ≤ readyI xs rs S → (find S).isSome = true

def LaySame (L L' : Lay) : Prop := ∃ cb', L' = { L with cb := cb' }

def OrdPost (xs : List ByteArray) (rs : List (List ByteArray)) (flag : Bool) (find : St → Option (Nat × Nat)) (L : Lay) (S0 : St) (B0 : Nat) (w : World) (e : Ending) (w' : World) : Prop :=
  ∃ bo L' S out t, e = .returned (.slice (some ⟨bo, 0, none⟩) xs.length xs.length) ∧ iterO xs rs flag find t (S0, []) = (S, out) ∧ out.length = xs.length ∧ LaySame L L' ∧ Gr xs rs L' w' S ∧ ORow w' L' S bo xs.length out ∧ Below B0 w w'

/-- What holds at the head of every round. -/
structure OI (xs : List ByteArray) (rs : List (List ByteArray)) (flag : Bool) (find : St → Option (Nat × Nat)) (L : Lay) (S0 : St) (B0 : Nat) (w : World) (bo gk : Nat) (out : List Nat) (wr : World) (S : St) (L' : Lay) : Prop where
  run : ∃ t, iterO xs rs flag find t (S0, []) = (S, out)
  lay : LaySame L L'
  gr : Gr xs rs L' wr S
  row : ORow wr L' S bo xs.length out
  inv : out.length < xs.length → Inv xs rs S out
  le : out.length ≤ xs.length
  bel : Below B0 w wr
  gk : gk = (xs.length - out.length) + um rs S xs.length

theorem make52 (n : Nat) (hn : n ≤ 65536) (w : World) : (Instr.makeSlice 52 (.int .i64 0) (.int .i64 n)).run Try.prog w =
    .ok (.slice (some ⟨w.heap.size, 0, none⟩) 0 n) (w.alloc (.cells (madeCells #[.pointer none, .slice none 0 0] (n * 2)) 61)) := by
  obtain ⟨i, hi, hzz⟩ := Option.map_eq_some_iff.1 info61
  simp only [Prod.mk.injEq] at hzz
  obtain ⟨hz, hs, hb⟩ := hzz
  have h := run_make (P := Try.prog) w 52 61 i _ Try.underlying52 hi hz .i64 .i64 0 n (by omega) (by omega) (by rw [hb]; omega) (by omega)
  rw [hs] at h
  simpa [Value.cells] using h

theorem ORow.new (w : World) (L : Lay) (S : St) (n : Nat) (t : TypeId) (hl : L.lim ≤ w.heap.size) (hcb : ∀ i bs, S.cl[i]? = some (some bs) → L.cb i < w.heap.size) :
    ORow (w.alloc (.cells (madeCells #[.pointer none, .slice none 0 0] (n * 2)) t)) L S w.heap.size n [] := by
  refine ⟨fun p hp => by simp at hp, fun o ho => ?_, fun o ho => World.frozen?_alloc_new .., by simp, hl, fun i bs h => by have := hcb i bs h; omega⟩
  rw [World.cell?_alloc_new]
  simp [madeCells, ho]

theorem iter_step {xs : List ByteArray} {rs : List (List ByteArray)} {flag : Bool} {find : St → Option (Nat × Nat)} {s0 : St × List Nat} {S : St} {out : List Nat} (h : ∃ t, iterO xs rs flag find t s0 = (S, out)) {r : St × List Nat}
    (hr : stepO xs rs flag find (S, out) = r) : ∃ t, iterO xs rs flag find t s0 = r := by
  obtain ⟨t, ht⟩ := h
  exact ⟨t + 1, by simp only [iterO, ht]; exact hr⟩

theorem OI.place {xs : List ByteArray} {rs : List (List ByteArray)} {flag : Bool} {find : St → Option (Nat × Nat)} {L : Lay} {S0 : St} {B0 : Nat} {w : World} {bo gk : Nat} {out : List Nat} {wr : World} {S : St} {L' : Lay}
    (h : OI xs rs flag find L S0 B0 w bo gk out wr S L') (hB : B0 ≤ L.bt ∧ B0 ≤ L.bc ∧ B0 ≤ L.lim) (hlt : out.length < xs.length) {w1 : World} (hb : Below wr.heap.size wr w1) {i : Nat} (hr : readyI xs rs S = (i : Int)) (hi : i < xs.length) (hrb : readyB xs rs S i = true) (o : Obj) :
    ∃ gk', gk' < gk ∧ OI xs rs flag find L S0 B0 w bo gk' (out ++ [i]) (((w1.setCell ⟨L'.bc, i, none⟩ (.bool true)).alloc o).setCells bo (out.length * 2) [.pointer (some ⟨L'.tb i, 0, none⟩), clV L' i (S.cl.getD i none)]) (placeS S i) L' := by
  have hbo := h.row.lt
  have hlo := h.row.lo
  have G1 := (h.gr.below hb).placed i
  have hzz : (w1.setCell ⟨L'.bc, i, none⟩ (.bool true)).heap.size = w1.heap.size := by simp [World.setCell]
  have G2 : Gr xs rs L' ((w1.setCell ⟨L'.bc, i, none⟩ (.bool true)).alloc o) (placeS S i) := G1.below ((Below.refl _ _).alloc (Nat.le_refl _) _)
  have hsz := hb.size
  have R1 : ORow ((w1.setCell ⟨L'.bc, i, none⟩ (.bool true)).alloc o) L' S bo xs.length out := by
    refine h.row.agree (by simp [World.setCell]; omega) ?_
    rw [Below.heap_alloc _ _ _ (by rw [hzz]; omega), Below.heap_setCell _ _ _ _ (by have := h.gr.lbc; show bo ≠ L'.bc; omega), hb.block _ hbo]
  obtain ⟨cb', hLL⟩ := h.lay
  have e1 : L'.bc = L.bc := by rw [hLL]
  have e2 : L'.lim = L.lim := by rw [hLL]
  refine ⟨xs.length - (out ++ [i]).length + um rs (placeS S i) xs.length, ?_, ?_⟩
  · rw [h.gk]; simp; have : um rs (placeS S i) xs.length = um rs S xs.length := rfl; omega
  refine ⟨iter_step h.run ?_, h.lay, ?_, ?_, fun _ => (h.inv hlt).place hi hrb, by simp; omega, ?_, rfl⟩
  · simp only [stepO, hr]; rw [if_pos (by omega)]; simp
  · refine G2.agree (by rw [size_setCells]; exact Nat.le_refl _) (fun b hb' => heap_setCells bo (by omega) _ _ _) (fun j bs hj => heap_setCells bo (Ne.symm (h.row.ne j bs hj)) _ _ _)
  · have R2 := R1.push i hlt
    exact ⟨R2.here, R2.some', R2.free, R2.lt, R2.lo, R2.ne⟩
  · refine below_setCells bo (by omega) _ _ _ ?_
    refine Below.alloc (Below.setCell (h.bel.trans (hb.mono (by have := h.gr.lim; omega))) (by show B0 ≤ L'.bc; omega) _) ?_ _
    rw [hzz]; have := h.gr.lim; omega

theorem OI.mark {xs : List ByteArray} {rs : List (List ByteArray)} {flag : Bool} {find : St → Option (Nat × Nat)} {L : Lay} {S0 : St} {B0 : Nat} {w : World} {bo gk : Nat} {out : List Nat} {wr : World} {S : St} {L' : Lay}
    (h : OI xs rs flag find L S0 B0 w bo gk out wr S L') (hB : B0 ≤ L.bt ∧ B0 ≤ L.bc ∧ B0 ≤ L.lim) (hlt : out.length < xs.length) (hfl : flag = true) (hr : ¬ 0 ≤ readyI xs rs S) (hf : FindOk xs rs find) {w1 : World} (hb : Below wr.heap.size wr w1)
    {e : Ending} {w2 : World} (hc : ClosePost xs rs find S L' w1 e w2) : e = .returned (.bool true) ∧ ∃ gk', gk' < gk ∧ ∃ S2 L2, OI xs rs flag find L S0 B0 w bo gk' out w2 S2 L2 := by
  have hI := h.inv hlt
  have hsome := hf.full S out hI hlt hr
  unfold ClosePost at hc
  cases hfs : find S with
  | none => rw [hfs] at hsome; cases hsome
  | some p =>
    obtain ⟨i, k⟩ := p
    rw [hfs] at hc
    simp only at hc
    obtain ⟨he, cb2, hG, hT, hj, hcb⟩ := hc
    obtain ⟨hi, hk, hw⟩ := hf.ok S i k hfs
    have hic : i < S.cl.length := by rw [hI.ncl]; exact hi
    have hno := hI.notin hk hw
    have hbo := h.row.lt
    have hlo := h.row.lo
    have hsz := hb.size
    obtain ⟨cb', hLL⟩ := h.lay
    have e0 : L'.bt = L.bt := by rw [hLL]
    have e2 : L'.lim = L.lim := by rw [hLL]
    have hbt := h.gr.lbt
    have hrowlen : (rowOf rs S i).length = deg rs i := by
      unfold rowOf
      cases hcc : S.cl.getD i none with
      | none => simp
      | some bs =>
        have hc2 : S.cl[i]? = some (some bs) := by
          rw [List.getD_eq_getElem?_getD] at hcc
          cases hx : S.cl[i]? with
          | none => rw [hx] at hcc; cases hcc
          | some y => rw [hx] at hcc; simp at hcc; rw [hcc]
        have hir : i < rs.length := by rw [h.gr.same]; exact hi
        have := h.gr.clen i hir bs hc2
        simp [this, deg, hir]
    have hnb : clB (S.cl.getD i none) k = false := by
      cases hx : clB (S.cl.getD i none) k with
      | false => rfl
      | true =>
        unfold wfI at hw
        cases hp : B.place xs (ref rs i k) with
        | none => rw [hp] at hw; simp at hw
        | some j => rw [hp] at hw; simp only [hx, Bool.or_true, if_true] at hw; omega
    refine ⟨he, xs.length - out.length + um rs (markS rs S i k) xs.length, ?_, markS rs S i k, { L' with cb := cb2 }, ?_⟩
    · rw [h.gk]
      have := um_mark (n := xs.length) hi hic hk (by rw [hrowlen]; exact hk) hnb
      omega
    refine ⟨iter_step h.run ?_, ⟨cb2, by rw [hLL]⟩, hG, ?_, fun _ => hI.mark hi, h.le, ?_, rfl⟩
    · simp only [stepO, if_neg hr, hfl, if_true, hfs]
    · have hne : ∀ j bs, S.cl[j]? = some (some bs) → bo ≠ L'.cb j := h.row.ne
      have R1 : ORow w2 L' S bo xs.length out := h.row.agree (by have := hT.size; omega) (by rw [hT.block bo (by omega) (by omega) hne, hb.block _ hbo])
      refine R1.turn rfl rfl (fun p hp => ?_) (fun j bs hj2 => ?_)
      · have hpi : p ≠ i := fun e => hno (e ▸ hp)
        refine ⟨?_, hj p hpi⟩
        rw [cl_mark hic, if_neg (Ne.symm hpi)]
      · by_cases e : j = i
        · subst e
          rcases hcb with ⟨bs', hb', hc'⟩ | hc'
          · show bo ≠ cb2 j
            rw [hc']; exact hne j bs' hb'
          · show bo ≠ cb2 j
            omega
        · show bo ≠ cb2 j
          rw [hj j e]
          refine hne j bs ?_
          have : (markS rs S i k).cl[j]? = S.cl[j]? := by simp only [markS]; rw [List.getElem?_set_ne (Ne.symm e)]
          rw [this] at hj2; exact hj2
    · have h1 := h.bel.trans (hb.mono (by have := h.gr.lim; omega))
      refine h1.trans ⟨hT.os, hT.tape, hT.output, hT.size, fun b hb' => ?_⟩
      have := h.gr.lim
      refine hT.block b (by omega) (by omega) (fun j bs hj' => ?_)
      have := (h.gr.lcb j bs hj').1
      omega

def restTo (S : St) (j : Nat) : List Nat := (List.range j).filter fun q => !S.cr.getD q false

theorem restTo_succ (S : St) (j : Nat) : restTo S (j + 1) = if S.cr.getD j false = true then restTo S j else restTo S j ++ [j] := by
  unfold restTo
  rw [List.range_succ, List.filter_append]
  cases h : S.cr.getD j false
  · have e : List.filter (fun q => !S.cr.getD q false) [j] = [j] := by simp only [List.filter_cons, h, Bool.not_false, if_true, List.filter_nil]
    rw [e]; simp only [Bool.false_eq_true, if_false]
  · have e : List.filter (fun q => !S.cr.getD q false) [j] = [] := by simp only [List.filter_cons, h, Bool.not_true, Bool.false_eq_true, if_false, List.filter_nil]
    rw [e, List.append_nil]; simp only [if_true]

theorem restTo_le (S : St) {j n : Nat} (h : j ≤ n) : (restTo S j).length ≤ (restOf n S).length := by
  unfold restTo restOf
  refine List.Sublist.length_le (List.Sublist.filter _ ?_)
  obtain ⟨m, rfl⟩ : ∃ m, n = j + m := ⟨n - j, by omega⟩
  rw [List.range_add]
  exact List.sublist_append_left _ _

set_option maxHeartbeats 2000000 in
theorem order_any (xs : List ByteArray) (rs : List (List ByteArray)) (flag : Bool) (find : St → Option (Nat × Nat)) (L : Lay) (S0 : St) (B0 : Nat) (w : World) (hG : Gr xs rs L w S0) (hn : xs.length ≤ 256) (hm : ∀ i, deg rs i ≤ 4096)
    (hI : Inv xs rs S0 []) (hf : flag = true → FindOk xs rs find) (hcl : flag = true → ∀ S L w, Gr xs rs L w S → Calls Try.prog 33 #[.pointer (some ⟨L.bg, 0, none⟩)] w (ClosePost xs rs find S L w))
    (hB : B0 ≤ L.bt ∧ B0 ≤ L.bc ∧ B0 ≤ L.lim) :
    Calls Try.prog 30 #[.pointer (some ⟨L.bg, 0, none⟩), .bool flag] w (OrdPost xs rs flag find L S0 B0 w) := by
  have g0 := hG.g0
  obtain ⟨n, hN⟩ : ∃ n, xs.length = n := ⟨_, rfl⟩
  have HN := hide hN
  have hmk := make52 n (by omega)
  have H0 : Hid (OI xs rs flag find L S0 B0 w w.heap.size (n + um rs S0 n) [] (w.alloc (.cells (madeCells #[.pointer none, .slice none 0 0] (n * 2)) 61)) S0 L) := by
    have hb : Below w.heap.size w (w.alloc (.cells (madeCells #[.pointer none, .slice none 0 0] (n * 2)) 61)) := (Below.refl _ _).alloc (Nat.le_refl _) _
    have hl := hG.lim
    exact hide ⟨⟨0, rfl⟩, ⟨_, rfl⟩, hG.below hb, by rw [hN]; exact ORow.new w L S0 n 61 hG.lim (fun i bs h => (hG.lcb i bs h).2), fun _ => hI, Nat.zero_le _, hb.mono (by omega), by simp [hN]⟩
  have HCl := hide hcl
  have HF := hide hf
  have HM := hide hm
  have HB := hide hB
  rw [hN] at g0 hn
  generalize madeCells #[.pointer none, .slice none 0 0] (n * 2) = M at hmk H0
  clear hG hm hI hf hcl hB hN
  go_enter Try.func30, Try.ntmps30
  go_wp2
  clear hmk
  go_loopg [5] (n + um rs S0 n) (fun gk v wr => ∃ out, v = .slice (some ⟨w.heap.size, 0, none⟩) out.length n ∧ ∃ S L', Hid (OI xs rs flag find L S0 B0 w w.heap.size gk out wr S L'))
  case atStart => exact ⟨[], rfl, S0, L, H0.out⟩
  case round =>
    clear H0 g0
    obtain ⟨out, rfl, S, L', HO⟩ := hrel
    have hO := HO.out
    obtain ⟨cb', hLL⟩ := hO.lay
    have HL := hide hLL
    have hbg : L'.bg = L.bg := by rw [hLL]
    have g0 := hO.gr.g0
    rw [hbg, HN.out] at g0
    have hle := hO.le
    rw [HN.out] at hle
    clear hO hLL
    by_cases hlt : out.length < n
    · have hltx : out.length < xs.length := by rw [HN.out]; exact hlt
      go_wp2_with fail
      have CR := ready_any xs rs L' S wr HO.out.gr (by rw [HN.out]; exact hn) HM.out
      rw [hbg] at CR
      refine CR.mono ?_
      clear CR
      rintro e w1 ⟨rfl, hb1⟩
      by_cases hr : 0 ≤ readyI xs rs S
      · obtain ⟨i, hri, hi, hrb, hno⟩ := ready_some hr
        obtain ⟨gk', hgk, hP⟩ := OI.place HO.out HB.out hltx hb1 hri hi hrb (.cells #[.pointer (some ⟨L'.tb i, 0, none⟩), clV L' i (S.cl.getD i none)] 61)
        rw [hri]
        have G1 := HO.out.gr.below hb1
        have g0' := G1.g0
        have g1' := G1.g1
        have t' := G1.t i hi
        have hic : i < S.cl.length := by rw [G1.ncl]; exact hi
        have c' := G1.c i hic
        have hcg : S.cl[i] = S.cl.getD i none := by simp [hic]
        rw [hcg] at c'
        have hix : i < S.cr.length := by rw [G1.ncr]; exact hi
        have d' := G1.crc.at' i (by simpa using hix)
        have df := G1.crc.free i (by simpa using hix)
        have hin : i < n := by rw [← HN.out]; exact hi
        rw [hbg, HN.out] at g0' g1'
        have l0 : L.bg < w1.heap.size := by have := G1.lim; have := G1.lbg; rw [← hbg]; omega
        have l1 : L'.bt < w1.heap.size := by have := G1.lim; have := G1.lbt; omega
        have l2 : L'.bc < w1.heap.size := by have := G1.lim; have := G1.lbc; omega
        have n1 : L.bg ≠ L'.bc := by rw [← hbg]; exact G1.cg.symm
        have n2 : L'.bt ≠ L'.bc := G1.tc
        have R0 := HO.out.row
        have hbo := R0.lt
        have hsz := hb1.size
        obtain ⟨va, vn, hv⟩ : ∃ va vn, clV L' i (S.cl.getD i none) = .slice va vn vn := by
          cases S.cl.getD i none with
          | none => exact ⟨_, _, rfl⟩
          | some bs => exact ⟨_, _, rfl⟩
        rw [hv] at c' hP
        obtain ⟨y0, x0⟩ := Option.isSome_iff_exists.1 (R0.some' (out.length * 2) (by rw [HN.out]; omega))
        obtain ⟨y1, x1⟩ := Option.isSome_iff_exists.1 (R0.some' (out.length * 2 + 1) (by rw [HN.out]; omega))
        rw [← hb1.cell (p := ⟨w.heap.size, out.length * 2, none⟩) hbo] at x0
        rw [← hb1.cell (p := ⟨w.heap.size, out.length * 2 + 1, none⟩) hbo] at x1
        have z0 := (hb1.frozen (p := ⟨w.heap.size, out.length * 2, none⟩) hbo).trans (R0.free (out.length * 2) (by rw [HN.out]; omega))
        have z1 := (hb1.frozen (p := ⟨w.heap.size, out.length * 2 + 1, none⟩) hbo).trans (R0.free (out.length * 2 + 1) (by rw [HN.out]; omega))
        have n3 : w.heap.size ≠ L'.bc := by have := HO.out.gr.lbc; have := R0.lo; omega
        have l3 : w.heap.size < w1.heap.size := by omega
        have hP' : OI xs rs flag find L S0 B0 w w.heap.size gk' (out ++ [i]) ((((w1.setCell ⟨L'.bc, i, none⟩ (.bool true)).setCell ⟨w.heap.size, out.length * 2, none⟩ (.pointer (some ⟨L'.tb i, 0, none⟩))).setCell ⟨w.heap.size, out.length * 2 + 1, none⟩ (.slice va vn vn)).alloc (.cells #[.pointer (some ⟨L'.tb i, 0, none⟩), .slice va vn vn] 61)) (placeS S i) L' := by
          have e : (((w1.setCell ⟨L'.bc, i, none⟩ (.bool true)).alloc (.cells #[.pointer (some ⟨L'.tb i, 0, none⟩), .slice va vn vn] 61)).setCells w.heap.size (out.length * 2) [.pointer (some ⟨L'.tb i, 0, none⟩), .slice va vn vn]) = _ := rfl
          simp only [World.setCells] at hP
          rw [World.setCell_alloc_past _ _ _ _ (by simpa [World.setCell] using l3), World.setCell_alloc_past _ _ _ _ (by simpa [World.setCell] using l3)] at hP
          exact hP
        clear hP
        have hP := hP'
        clear hP'
        have HP := hide hP
        clear hP R0 G1 hv hcg hb1 hr hri hno hrb HO g0
        go_wp2
        go_roundg gk'
        case measure => exact hgk
        case rel => exact ⟨out ++ [i], by simp, placeS S i, L', HP.out⟩
      · obtain ⟨rv, hrv⟩ : ∃ v, readyI xs rs S = v := ⟨_, rfl⟩
        have HRV := hide hrv
        rw [hrv] at hr ⊢
        have HR := hide hr
        have HB1 := hide hb1
        cases flag
        case true =>
          clear hrv hb1 g0
          go_wp2_with fail
          have CC := HCl.out (by first | rfl | exact trivial) S L' w1 (HO.out.gr.below HB1.out)
          rw [hbg] at CC
          refine CC.mono ?_
          clear CC
          intro e w2 hcp
          obtain ⟨he, gk', hgk, S2, L2, hOI⟩ := OI.mark HO.out HB.out hltx rfl (by rw [HRV.out]; have := HR.out; omega) (HF.out (by first | rfl | exact trivial)) HB1.out hcp
          subst he
          have HOI := hide hOI
          clear hcp hOI
          go_wp2
          go_roundg gk'
          case measure => exact hgk
          case rel => exact ⟨out, rfl, S2, L2, HOI.out⟩
        case false =>
          have G1 := HO.out.gr.below hb1
          have R1 : ORow w1 L' S w.heap.size xs.length out := HO.out.row.agree hb1.size (hb1.block _ HO.out.row.lt)
          have hbel : Below B0 w w1 := HO.out.bel.trans (hb1.mono (by have := HO.out.gr.lim; have := HB.out; have e2 : L'.lim = L.lim := by rw [HL.out]; 
                                                                      omega))
          have g0' := G1.g0
          rw [hbg, HN.out] at g0'
          have I0 : Hid (Gr xs rs L' w1 S ∧ ORow w1 L' S w.heap.size xs.length (out ++ restTo S 0) ∧ Below B0 w w1) := hide ⟨G1, by simpa [restTo] using R1, hbel⟩
          clear hrv hb1 g0 G1 R1 hbel
          go_wp2
          go_loopg [5, 30] n (fun g2 v c w2 => ∃ j : Nat, j ≤ n ∧ g2 = n - j ∧ c = .int .i64 j ∧ v = .slice (some ⟨w.heap.size, 0, none⟩) (out ++ restTo S j).length n ∧ Hid (Gr xs rs L' w2 S ∧ ORow w2 L' S w.heap.size xs.length (out ++ restTo S j) ∧ Below B0 w w2))
          case atStart => exact ⟨0, Nat.zero_le _, rfl, rfl, by simp [restTo], I0.out⟩
          case round =>
            clear I0 g0'
            obtain ⟨j, hj, rfl, rfl, rfl, HI⟩ := hrel
            rename World => w2
            have hI := HI.out
            have hinv := HO.out.inv hltx
            have hsum := hinv.rest
            have hbo := hI.2.1.lt
            have hlo := hI.2.1.lo
            by_cases hjn : j < n
            · have hjx : j < xs.length := by rw [HN.out]; exact hjn
              have hjc : j < S.cl.length := by rw [hI.1.ncl]; exact hjx
              have hjr : j < S.cr.length := by rw [hI.1.ncr]; exact hjx
              have t' := hI.1.t j hjx
              have c' := hI.1.c j hjc
              have hcg : S.cl[j] = S.cl.getD j none := by simp [hjc]
              rw [hcg] at c'
              have g1' := hI.1.g1
              rw [hbg, HN.out] at g1'
              have d' := hI.1.crc.at' j (by simpa using hjr)
              simp only [List.getElem_map] at d'
              have hcr : S.cr.getD j false = S.cr[j] := by simp [hjr]
              have l0 : L.bg < w2.heap.size := by have := hI.1.lim; have := hI.1.lbg; rw [← hbg]; omega
              have l2 : L'.bc < w2.heap.size := by have := hI.1.lim; have := hI.1.lbc; omega
              obtain ⟨va, vn, hv⟩ : ∃ va vn, clV L' j (S.cl.getD j none) = .slice va vn vn := by
                cases S.cl.getD j none with
                | none => exact ⟨_, _, rfl⟩
                | some bs => exact ⟨_, _, rfl⟩
              have HV := hide hv
              rw [hv] at c'
              have hst := restTo_succ S j
              have hlej := restTo_le S (j := j + 1) (n := xs.length) (by omega)
              obtain ⟨cj, hcj⟩ : ∃ v, S.cr[j] = v := ⟨_, rfl⟩
              rw [hcj] at d' hcr
              have HST := hide hst
              have HCR := hide hcr
              have HINV := hide hinv
              have HSUM := hide hsum
              have HLEJ := hide hlej
              have e2 : L'.lim = L.lim := by rw [HL.out]
              have HE2 := hide e2
              clear hv hcg hst hcr hcj hinv hsum hlej hjr hjc hI e2
              cases cj
              · have hst : restTo S (j + 1) = restTo S j ++ [j] := by rw [HST.out, HCR.out]; simp
                have hm : (out ++ restTo S j).length < xs.length := by
                  have h1 := HLEJ.out; rw [hst] at h1; have h2 := HSUM.out; simp at h1 ⊢; omega
                have R2 := HI.out.2.1
                obtain ⟨y0, x0⟩ := Option.isSome_iff_exists.1 (R2.some' ((out ++ restTo S j).length * 2) (by omega))
                obtain ⟨y1, x1⟩ := Option.isSome_iff_exists.1 (R2.some' ((out ++ restTo S j).length * 2 + 1) (by omega))
                have z0 := R2.free ((out ++ restTo S j).length * 2) (by omega)
                have z1 := R2.free ((out ++ restTo S j).length * 2 + 1) (by omega)
                have key : ∀ o1 o2 : Obj, Hid (Gr xs rs L' (((((w2.setCell ⟨w.heap.size, (out ++ restTo S j).length * 2, none⟩ (.pointer (some ⟨L'.tb j, 0, none⟩))).setCell ⟨w.heap.size, (out ++ restTo S j).length * 2 + 1, none⟩ (.slice va vn vn)).alloc o1).alloc o2)) S ∧
                    ORow (((((w2.setCell ⟨w.heap.size, (out ++ restTo S j).length * 2, none⟩ (.pointer (some ⟨L'.tb j, 0, none⟩))).setCell ⟨w.heap.size, (out ++ restTo S j).length * 2 + 1, none⟩ (.slice va vn vn)).alloc o1).alloc o2)) L' S w.heap.size xs.length (out ++ restTo S (j + 1)) ∧
                    Below B0 w (((((w2.setCell ⟨w.heap.size, (out ++ restTo S j).length * 2, none⟩ (.pointer (some ⟨L'.tb j, 0, none⟩))).setCell ⟨w.heap.size, (out ++ restTo S j).length * 2 + 1, none⟩ (.slice va vn vn)).alloc o1).alloc o2))) := by
                  intro o1 o2
                  obtain ⟨G, R, b⟩ := HI.out
                  have P := R.push j hm
                  rw [HV.out] at P
                  have GG : Gr xs rs L' (w2.setCells w.heap.size ((out ++ restTo S j).length * 2) [.pointer (some ⟨L'.tb j, 0, none⟩), .slice va vn vn]) S :=
                    G.agree (by rw [size_setCells]; exact Nat.le_refl _) (fun b' hb' => heap_setCells w.heap.size (by omega) _ _ _) (fun j' bs hj' => heap_setCells w.heap.size (Ne.symm (R.ne j' bs hj')) _ _ _)
                  have BB := below_setCells (B := B0) (a := w) w.heap.size (by have := HB.out; have := HE2.out; omega) [.pointer (some ⟨L'.tb j, 0, none⟩), .slice va vn vn] ((out ++ restTo S j).length * 2) w2 b
                  have hzs : (w2.setCells w.heap.size ((out ++ restTo S j).length * 2) [.pointer (some ⟨L'.tb j, 0, none⟩), .slice va vn vn]).heap.size = w2.heap.size := size_setCells ..
                  have hb2 : Below (w2.setCells w.heap.size ((out ++ restTo S j).length * 2) [.pointer (some ⟨L'.tb j, 0, none⟩), .slice va vn vn]).heap.size (w2.setCells w.heap.size ((out ++ restTo S j).length * 2) [.pointer (some ⟨L'.tb j, 0, none⟩), .slice va vn vn]) (((w2.setCells w.heap.size ((out ++ restTo S j).length * 2) [.pointer (some ⟨L'.tb j, 0, none⟩), .slice va vn vn]).alloc o1).alloc o2) :=
                    ((Below.refl _ _).alloc (Nat.le_refl _) _).alloc (by simp) _
                  rw [hst, ← List.append_assoc]
                  exact hide ⟨GG.below hb2, P.agree hb2.size (hb2.block _ P.lt), BB.trans (hb2.mono (by have := HB.out; have := HE2.out; have := G.lim; omega))⟩
                have HKEY := hide key
                have HHST := hide hst
                rw [HN.out] at hm
                clear key hst R2 HI
                generalize hgm : (out ++ restTo S j).length = m at *
                have hlm : (out ++ restTo S (j + 1)).length = m + 1 := by rw [HHST.out, ← List.append_assoc, List.length_append, hgm]; rfl
                have HLM := hide hlm
                clear hlm hgm
                go_wp2
                go_roundg (n - (j + 1))
                case measure => omega
                case rel => exact ⟨j + 1, by omega, rfl, by go_num, by rw [HLM.out], HKEY.out _ _⟩
              · have hst : restTo S (j + 1) = restTo S j := by rw [HST.out, HCR.out]; simp
                have key : ∀ o1 : Obj, Hid (Gr xs rs L' (w2.alloc o1) S ∧ ORow (w2.alloc o1) L' S w.heap.size xs.length (out ++ restTo S (j + 1)) ∧ Below B0 w (w2.alloc o1)) := by
                  intro o1
                  obtain ⟨G, R, b⟩ := HI.out
                  have hb2 : Below w2.heap.size w2 (w2.alloc o1) := (Below.refl _ _).alloc (Nat.le_refl _) _
                  rw [hst]
                  exact hide ⟨G.below hb2, R.agree hb2.size (hb2.block _ R.lt), b.trans (hb2.mono (by have := HB.out; have := HE2.out; have := G.lim; omega))⟩
                have HKEY := hide key
                have HHST := hide hst
                clear key hst HI
                go_wp2
                go_roundg (n - (j + 1))
                case measure => omega
                case rel => exact ⟨j + 1, by omega, rfl, by go_num, by rw [HHST.out], HKEY.out _⟩
            · obtain rfl : j = n := by omega
              have hfin : OI xs rs false find L S0 B0 w w.heap.size (0 + um rs S xs.length) (out ++ restTo S j) w2 S L' := by
                have hro : restTo S j = restOf xs.length S := by rw [HN.out]; rfl
                have hlen : (out ++ restTo S j).length = xs.length := by rw [hro, List.length_append]; exact hsum
                refine ⟨iter_step HO.out.run ?_, HO.out.lay, hI.1, hI.2.1, fun h => by omega, by omega, hI.2.2, by omega⟩
                simp only [stepO]
                rw [if_neg (by rw [HRV.out]; have := HR.out; omega), hro]
                rfl
              have HFIN := hide hfin
              have hgk := HO.out.gk
              have hg2 : 0 + um rs S xs.length < gk := by omega
              clear hfin hI hinv hsum hgk
              go_wp2
              go_roundg (0 + um rs S xs.length)
              case measure => exact hg2
              case rel => exact ⟨_, rfl, S, L', HFIN.out⟩
    · go_wp2
      go_ret
      have hO := HO.out
      have hlen : out.length = n := by omega
      obtain ⟨t, ht⟩ := hO.run
      exact ⟨_, L', S, out, t, by rw [HN.out, ← hlen]; rfl, ht, by rw [HN.out]; exact hlen, hO.lay, hO.gr, hO.row, hO.bel⟩
end Go.Proofs.Qxb6603821a.W
