/-
  closeCycle (33).
-/
import Derived.Test.Qxb6603821aMark
import Derived.Test.Qxb6603821aLead
import Derived.Test.Qxb6603821aOrd
import Derived.Lib.LazyBuf
namespace Go.Proofs.Qxb6603821a.W
open Go.RowKit B
set_option linter.unusedVariables false

theorem close_old {xs : List ByteArray} {rs : List (List ByteArray)} {find : St → Option (Nat × Nat)} {S : St} {L : Lay} {w w1 : World} {i k : Nat} {bs : List Bool} (hG : Gr xs rs L w S) (hb : Below w.heap.size w w1) (hc : S.cl[i]? = some (some bs)) (hf : find S = some (i, k)) :
    ClosePost xs rs find S L w (.returned (.bool true)) (w1.setCell ⟨L.cb i, k, none⟩ (.bool true)) := by
  unfold ClosePost
  rw [hf]
  refine ⟨rfl, L.cb, (hG.below hb).markOld hc, ⟨hb.os, hb.tape, hb.output, by simpa [World.setCell] using hb.size, fun b hlt h1 h2 => ?_⟩, fun _ _ => rfl, .inl ⟨bs, hc, rfl⟩⟩
  rw [Below.heap_setCell _ _ _ _ (by show b ≠ L.cb i; exact h2 i bs hc)]
  exact hb.block b hlt

theorem close_new {xs : List ByteArray} {rs : List (List ByteArray)} {find : St → Option (Nat × Nat)} {S : St} {L : Lay} {w w1 : World} {i k : Nat} (hG : Gr xs rs L w S) (hb : Below w.heap.size w w1) (hc : S.cl[i]? = some none) (hf : find S = some (i, k)) :
    ClosePost xs rs find S L w (.returned (.bool true)) (((w1.alloc (.cells (madeCells #[.bool false] (deg rs i)) 4)).setCell ⟨L.bt, i * 2 + 1, none⟩ (.slice (some ⟨w1.heap.size, 0, none⟩) (deg rs i) (deg rs i))).setCell ⟨w1.heap.size, k, none⟩ (.bool true)) := by
  have hic : i < S.cl.length := (List.getElem?_eq_some_iff.1 hc).1
  have G1 := (hG.below hb).opened hc 4
  have hz := hb.size
  unfold ClosePost
  rw [hf]
  have hc1 : (openS rs S i).cl[i]? = some (some (List.replicate (deg rs i) false)) := by simp [openS, hic]
  have G2 := G1.markOld (k := k) hc1
  rw [open_mark hic hc] at G2
  simp only [if_true] at G2
  refine ⟨rfl, _, G2, ⟨hb.os, hb.tape, hb.output, ?_, fun b hlt h1 h2 => ?_⟩, fun j hj => by simp [hj], .inr (by simp; exact hz)⟩
  · simp [World.setCell]; omega
  · rw [Below.heap_setCell _ _ _ _ (by show b ≠ w1.heap.size; omega), Below.heap_setCell _ _ _ _ (by exact h1)]
    rw [heap_alloc_old _ _ (h := by omega)]
    exact hb.block b hlt

set_option maxHeartbeats 2000000 in
theorem close_any (xs : List ByteArray) (rs : List (List ByteArray)) (lead : St → Nat → Nat → Bool) (hlead : ∀ S j i, lead S j i = true ↔ Leads (WE xs rs S) j i) (L : Lay) (S : St) (w : World) (hG : Gr xs rs L w S) (hn : xs.length ≤ 256) (hm : ∀ i, deg rs i ≤ 4096) :
    Calls Try.prog 33 #[.pointer (some ⟨L.bg, 0, none⟩)] w (ClosePost xs rs (findOf xs rs lead) S L w) := by
  have g0 := hG.g0
  have HG := hide hG
  have HMM := hide hm
  have HLD := hide hlead
  obtain ⟨n, hN⟩ : ∃ n, xs.length = n := ⟨_, rfl⟩
  have HN := hide hN
  rw [hN] at g0 hn
  have nil0 : ∀ w a l, (binOp .eql 25 (.slice a l l) (.slice none 0 0)).run Try.prog w = .ok (.bool a.isNone) w := fun w a l => run_eql_slice_nil w 25 4 a l l Try.underlying25
  clear hG hm hlead hN
  go_enter Try.func33, Try.ntmps33
  go_wp2
  go_loopg [12] n (fun gk c wr => ∃ i : Nat, i ≤ n ∧ gk = n - i ∧ c = .int .i64 i ∧ Hid (Below w.heap.size w wr ∧ ∀ j, j < i → ∀ q, q < deg rs j → hitB xs rs lead S j q = false))
  case atStart => exact ⟨0, Nat.zero_le _, rfl, rfl, hide ⟨Below.refl _ _, fun j h => absurd h (by omega)⟩⟩
  case round =>
  obtain ⟨i, hi, rfl, rfl, HI⟩ := hrel
  rename World => w2
  by_cases hlt : i < n
  · have hix : i < xs.length := by rw [HN.out]; exact hlt
    have hir : i < rs.length := by rw [HG.out.same]; exact hix
    have hd : deg rs i = rs[i].length := by simp [deg, hir]
    have hb2 := HI.out.1
    have hlim := HG.out.lim
    have ht0 := HG.out.t i hix
    have hf0 := HG.out.fk i hir
    rw [← hd] at hf0
    have hdm := HMM.out i
    obtain ⟨d, hdd⟩ : ∃ d, deg rs i = d := ⟨_, rfl⟩
    have HD := hide hdd
    rw [hdd] at hf0 hdm
    have e0 := (hb2.cell (p := ⟨L.bg, 0, none⟩) (by have := HG.out.lbg; show L.bg < _; omega)).trans g0
    have e1 := (hb2.cell (p := ⟨L.bt, i * 2, none⟩) (by have := HG.out.lbt; show L.bt < _; omega)).trans ht0
    have e2 := (hb2.cell (p := ⟨L.tb i, 2, none⟩) (by have := HG.out.ltb i hix; show L.tb i < _; omega)).trans hf0
    have HX := hide (And.intro hix (And.intro ht0 hf0))
    clear hd hdd hir hb2 hlim ht0 hf0 hix
    go_wp2
    clear e0 e1 e2
    go_loopg [29] d (fun gk c wr => ∃ k : Nat, k ≤ d ∧ gk = d - k ∧ c = .int .i64 k ∧ Hid (Below w.heap.size w wr ∧ ∀ q, q < k → hitB xs rs lead S i q = false))
    case atStart => exact ⟨0, Nat.zero_le _, rfl, rfl, hide ⟨HI.out.1, fun q h => absurd h (by omega)⟩⟩
    case round =>
    obtain ⟨k, hk, rfl, rfl, HK⟩ := hrel
    rename World => w4
    by_cases hkd : k < d
    · go_wp2_with fail
      refine Calls.mono (wf_any xs rs L S i k _ (HG.out.below HK.out.1) (by rw [HN.out]; exact hn) HX.out.1 (by rw [HD.out]; exact hkd) (HMM.out i)) ?_
      rintro e w5 ⟨rfl, hb5⟩
      have B5 := hide (HK.out.1.trans (hb5.mono HK.out.1.size))
      have WL := hide (wf_lt xs rs S i k)
      obtain ⟨v, hv⟩ : ∃ v, wfI xs rs S i k = v := ⟨_, rfl⟩
      have HV := hide hv
      rw [hv] at WL ⊢
      clear hv hb5
      by_cases hv0 : 0 ≤ v
      · obtain ⟨j, rfl⟩ : ∃ j : Nat, v = (j : Int) := ⟨v.toNat, by omega⟩
        have hj : j < n := by have := WL.out; rw [HN.out] at this; omega
        go_wp2_with fail
        refine Calls.mono (lead_any xs rs L S j i _ (HG.out.below B5.out) (by rw [HN.out]; exact hn) HMM.out (by rw [HN.out]; exact hj) HX.out.1) ?_
        rintro e w6 ⟨b, rfl, hb, hb6⟩
        have B6 := hide (B5.out.trans (hb6.mono B5.out.size))
        have HB := hide hb
        clear hb hb6
        cases b
        case false =>
          have R : Hid (Below w.heap.size w w6 ∧ ∀ q, q < k + 1 → hitB xs rs lead S i q = false) := hide ⟨B6.out, fun q hq => by
            by_cases e : q = k
            · subst e
              have : lead S j i = false := by
                cases hl : lead S j i with
                | false => rfl
                | true => exact absurd (HB.out.2 ((HLD.out _ _ _).1 hl)) (by simp)
              unfold hitB; rw [HV.out]; simp [this]
            · exact HK.out.2 q (by omega)⟩
          clear HK B5 B6 HB HV WL
          go_wp2
          go_roundg (d - (k + 1))
          case measure => omega
          case rel => exact ⟨k + 1, by omega, rfl, by simp, R⟩
        have HF : Hid (findOf xs rs lead S = some (i, k)) := hide (find_some HX.out.1 (by rw [HD.out]; exact hkd) (by
          have : lead S j i = true := (HLD.out _ _ _).2 (HB.out.1 rfl)
          unfold hitB; rw [HV.out]; simp [this]) HK.out.2 HI.out.2)
        have hicl : i < S.cl.length := by rw [HG.out.ncl]; exact HX.out.1
        have G6 := HG.out.below B6.out
        have hc0 := G6.c i hicl
        have hcf := G6.cf i HX.out.1
        have e1 := G6.t i HX.out.1
        have e2 := (B6.out.cell (p := ⟨L.tb i, 2, none⟩) (by have := HG.out.ltb i HX.out.1; have := HG.out.lim; show L.tb i < _; omega)).trans HX.out.2.2
        have hlt6 : L.bt < w6.heap.size := by have := G6.lbt; have := G6.lim; omega
        have hlt7 : L.tb i < w6.heap.size := by have := G6.ltb i HX.out.1; have := G6.lim; omega
        have hs : S.cl[i]? = some S.cl[i] := List.getElem?_eq_getElem hicl
        obtain ⟨cl, hcl⟩ : ∃ cl, S.cl[i] = cl := ⟨_, rfl⟩
        rw [hcl] at hs hc0
        have HS := hide hs
        have C6 : Hid (∀ bs, cl = some bs → Cells w6 (L.cb i) (bs.map .bool) ∧ bs.length = d) := hide (fun bs hbs => by
          subst hbs
          refine ⟨G6.cells i bs hs, ?_⟩
          have hir : i < rs.length := by rw [G6.same]; exact HX.out.1
          rw [G6.clen i hir bs hs, ← HD.out]; simp [deg, hir])
        clear hs hcl hicl HK B5 HB HV WL HI G6
        cases cl with
        | some bs =>
          have hl := (C6.out bs rfl).2
          have c1 := (C6.out bs rfl).1.at' k (by simp; omega)
          have c2 := (C6.out bs rfl).1.free k (by simp; omega)
          have HL := hide hl
          have FIN := hide (close_old HG.out B6.out HS.out HF.out)
          simp only [clV, hl] at hc0
          generalize (bs.map Value.bool)[k]'(by simp; omega) = bv at c1
          clear C6 hl HL HS HF B6
          go_wp2
          go_ret
          exact FIN.out
        | none =>
          simp only [clV] at hc0
          have FIN := hide (close_new HG.out B6.out HS.out HF.out)
          rw [HD.out] at FIN
          have hmk := run_make_row' (P := Try.prog) 25 4 (.bool false) 1 Try.underlying25 infoB4 rfl .i64 .i64 d (by omega) (by omega) w6
          have cn := Cells.new w6 (madeCells #[.bool false] d) 4
          rw [made_one] at cn
          have B7 : Below w6.heap.size w6 (w6.alloc (.cells (madeCells #[.bool false] d) 4)) := (Below.refl _ _).alloc (Nat.le_refl _) _
          obtain ⟨w7, hw7⟩ : ∃ w7, w7 = w6.alloc (.cells (madeCells #[.bool false] d) 4) := ⟨_, rfl⟩
          rw [← hw7] at cn B7 hmk FIN
          obtain ⟨z, hz⟩ : ∃ z, z = w6.heap.size := ⟨_, rfl⟩
          rw [← hz] at cn B7 hmk hlt6 hlt7 FIN
          have d0 := (B7.cell (p := ⟨L.bt, i * 2 + 1, none⟩) hlt6).trans hc0
          have d1 := (B7.frozen (p := ⟨L.bt, i * 2 + 1, none⟩) hlt6).trans hcf
          have cn' := cn.far (p := ⟨L.bt, i * 2 + 1, none⟩) (by show L.bt ≠ z; omega) (.slice (some ⟨z, 0, none⟩) d d)
          have c1 := cn'.at' k (by simp; omega)
          have c2 := cn'.free k (by simp; omega)
          have c0 := World.cell?_setCell_same w7 ⟨L.bt, i * 2 + 1, none⟩ (.slice (some ⟨z, 0, none⟩) d d) d0
          simp only [List.getElem_replicate] at c1
          clear C6 HS HF B6 B7 cn cn' hw7 hz
          go_wp2
          go_ret
          exact FIN.out
      have R : Hid (Below w.heap.size w w5 ∧ ∀ q, q < k + 1 → hitB xs rs lead S i q = false) := hide ⟨B5.out, fun q hq => by
        by_cases e : q = k
        · subst e; unfold hitB; rw [HV.out]; simp [hv0]
        · exact HK.out.2 q (by omega)⟩
      clear HK B5 HV WL
      have hv1 : v < 0 := by omega
      clear hv0
      go_wp2
      go_roundg (d - (k + 1))
      case measure => omega
      case rel => exact ⟨k + 1, by omega, rfl, by simp, R⟩
    obtain rfl : k = d := by omega
    have R : Hid (Below w.heap.size w w4 ∧ ∀ j, j < i + 1 → ∀ q, q < deg rs j → hitB xs rs lead S j q = false) := hide ⟨HK.out.1, fun j hj q hq => by
      by_cases e : j = i
      · subst e; exact HK.out.2 q (by rw [HD.out] at hq; exact hq)
      · exact HI.out.2 j (by omega) q hq⟩
    clear HK HI
    go_wp2
    go_roundg (n - (i + 1))
    case measure => omega
    case rel => exact ⟨i + 1, by omega, rfl, by simp, R⟩
  obtain rfl : i = n := by omega
  have FN : Hid (findOf xs rs lead S = none) := hide (find_none fun j hj => HI.out.2 j (by rw [HN.out] at hj; exact hj))
  have B2 := hide HI.out.1
  clear HI
  go_wp2
  go_ret
  show ClosePost _ _ _ _ _ _ _ _
  unfold ClosePost
  rw [FN.out]
  exact ⟨rfl, B2.out⟩
end Go.Proofs.Qxb6603821a.W
