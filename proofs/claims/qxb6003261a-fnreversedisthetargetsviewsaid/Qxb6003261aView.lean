/-
  The walk of FnReversedIsTheTargetsView (3).
-/
import Derived.Test.Qxb6003261aView1
import Derived.Deep.DeepCutAuto
import Derived.Deep.CutBlock
namespace Go.Proofs.Qxb6003261a.Rev
open Go.RowKit
set_option linter.unusedVariables false

set_option maxRecDepth 100000 in
set_option maxHeartbeats 10000000 in
theorem view_in (nm rv tk sk lb sl : ByteArray) (t k : Int) (self : Bool) (ki : Int) (w : World) (h0 : nm.size ≤ maxLen) (h1 : rv.size ≤ maxLen) (h2 : tk.size ≤ maxLen)
    (h3 : sk.size ≤ maxLen) (h4 : lb.size ≤ maxLen) (h5 : sl.size ≤ maxLen) :
    Calls Try.prog 3 #[.string nm, .string rv, .string tk, .string sk, .string lb, .string sl, .int .i64 t, .int .i64 k, .bool self, .int .i64 ki] w fun e w' =>
      e = .returned (.bool true) ∧ Grown w w' := by
  go_enter Try.func3, Try.ntmps3
  go_wp2_with fail
  refine (bytes_any nm rv tk sk lb sl t k self ki _ h0 h1 h2 h3 h4 h5).mono ?_
  rintro e w' ⟨b, rfl, hs, rfl⟩
  cases b
  · go_wp2
    go_ret
    exact ⟨rfl, Grown.refl _⟩
  have hs := hs rfl
  have g0 : ¬ (1048576 : Int) < (nm.size : Int) := by omega
  have g1 : ¬ (1048576 : Int) < (rv.size : Int) := by omega
  have g2 : ¬ (1048576 : Int) < (tk.size : Int) := by omega
  have g3 : ¬ (1048576 : Int) < (sk.size : Int) := by omega
  have g4 : ¬ (1048576 : Int) < (lb.size : Int) := by omega
  have g5 : ¬ (1048576 : Int) < (sl.size : Int) := by omega
  have g6 : ¬ (1048576 : Int) < (nm.size : Int) + (rv.size : Int) + (tk.size : Int) + (sk.size : Int) + (lb.size : Int) + (sl.size : Int) := by omega
  clear h0 h1 h2 h3 h4 h5
  go_upto_region 5 with fail
 
  go_upto_if 102 with fail
  clear g0 g1 g2 g3 g4 g5 g6 hs
  go_cut [8, 22, 48] from 101 to 104 (fun _ s _ wc => (∃ bt, s = .pointer (some ⟨bt, 0, none⟩) ∧ Plain wc bt) ∧ Plain wc w'.heap.size ∧ Grown w' wc)
  case first =>
    cases self
    all_goals
      go_wp2
      go_meet
    case rel => exact ⟨⟨_, rfl, by simpa using plain_new (w'.alloc _) _ _⟩, plain_old (plain_new _ _ _) _, ((Grown.refl _).alloc _ _).alloc _ _⟩
    case rel => exact ⟨⟨_, rfl, plain_new _ _ _⟩, plain_new _ _ _, (Grown.refl _).alloc _ _⟩
  case rest =>
  obtain ⟨⟨bt, rfl, pt⟩, ps, hg⟩ := hcut
  go_upto_block 0 with fail
  go_cut [9, 24, 49] from 107 to 116 (fun _ s _ wd => (∃ kin, s = .pointer kin ∧ (kin = none ∨ ∃ b, kin = some ⟨b, 0, none⟩ ∧ Plain wd b)) ∧ Plain wd w'.heap.size ∧ Grown w' wd)
  case first =>
    go_wp2
    all_goals go_meet
    case rel => exact ⟨⟨_, rfl, .inr ⟨_, rfl, plain_old ps _⟩⟩, plain_old ps _, hg.alloc _ _⟩
    case rel => exact ⟨⟨_, rfl, .inr ⟨_, rfl, plain_old pt _⟩⟩, plain_old ps _, hg.alloc _ _⟩
    case rel => exact ⟨⟨_, rfl, .inr ⟨_, rfl, plain_new _ _ _⟩⟩, plain_old ps _, hg.alloc _ _⟩
    case rel => exact ⟨⟨_, rfl, .inl rfl⟩, plain_old ps _, hg.alloc _ _⟩
  case rest =>
  clear ps pt
  obtain ⟨⟨kin, rfl, hkin⟩, ps, hg2⟩ := hcut
  clear hg
  have HK : Hid (kin = none ∨ ∃ b, kin = some ⟨b, 0, none⟩ ∧ Plain wc b) := hkin
  have HP : Hid (Plain wc w'.heap.size) := ps
  clear hkin ps
  have hq := neq_same
  go_wp2_with fail
  refine (rev_lit wc.heap.size nm tk sk rv t k (some ⟨w'.heap.size, 0, none⟩) (some ⟨bt, 0, none⟩) kin _ ?_).mono ?_
  · exact ⟨by simp, by go_simp, by go_simp, by go_simp, by go_simp, by go_simp, by go_simp, by go_simp, by go_simp, by go_simp⟩
  rintro e W ⟨rfl, n, hW⟩
  have a0 : W.cell? ⟨wc.heap.size, 0, none⟩ = some (.string nm) := by rw [hW]; go_simp
  have a1 : W.cell? ⟨wc.heap.size, 1, none⟩ = some (.int .i64 t) := by rw [hW]; go_simp
  have a2 : W.cell? ⟨wc.heap.size, 2, none⟩ = some (.pointer (some ⟨w'.heap.size, 0, none⟩)) := by rw [hW]; go_simp
  have a3 : W.cell? ⟨wc.heap.size, 3, none⟩ = some (.pointer (some ⟨bt, 0, none⟩)) := by rw [hW]; go_simp
  have a4 : W.cell? ⟨wc.heap.size, 4, none⟩ = some (.int .i64 k) := by rw [hW]; go_simp
  have a5 : W.cell? ⟨wc.heap.size, 5, none⟩ = some (.pointer kin) := by rw [hW]; go_simp
  have a6 : W.cell? ⟨wc.heap.size, 6, none⟩ = some (.string tk) := by rw [hW]; go_simp
  have a7 : W.cell? ⟨wc.heap.size, 7, none⟩ = some (.string sk) := by rw [hW]; go_simp
  have a8 : W.cell? ⟨wc.heap.size, 8, none⟩ = some (.string rv) := by rw [hW]; go_simp
  have a9 : W.cell? ⟨wc.heap.size, 9, none⟩ = some (.string lb) := by rw [hW]; go_simp
  have a10 : W.cell? ⟨wc.heap.size, 10, none⟩ = some (.string sl) := by rw [hW]; go_simp
  have r0 : W.cell? ⟨wc.heap.size + 1, 0, none⟩ = some (.string rv) := by rw [hW]; go_simp
  have r1 : W.cell? ⟨wc.heap.size + 1, 1, none⟩ = some (.int .i64 (rT t)) := by rw [hW]; go_simp
  have r2 : W.cell? ⟨wc.heap.size + 1, 2, none⟩ = some (.pointer (some ⟨bt, 0, none⟩)) := by rw [hW]; go_simp
  have r3 : W.cell? ⟨wc.heap.size + 1, 3, none⟩ = some (.pointer (some ⟨w'.heap.size, 0, none⟩)) := by rw [hW]; go_simp
  have r4 : W.cell? ⟨wc.heap.size + 1, 4, none⟩ = some (.int .i64 (rK k)) := by rw [hW]; go_simp
  have r5 : W.cell? ⟨wc.heap.size + 1, 5, none⟩ = some (.pointer (rIn k (some ⟨bt, 0, none⟩) kin)) := by rw [hW]; go_simp
  have r6 : W.cell? ⟨wc.heap.size + 1, 6, none⟩ = some (.string (rTK k tk sk)) := by rw [hW]; go_simp
  have r7 : W.cell? ⟨wc.heap.size + 1, 7, none⟩ = some (.string (rSK k tk)) := by rw [hW]; go_simp
  have r8 : W.cell? ⟨wc.heap.size + 1, 8, none⟩ = some (.string nm) := by rw [hW]; go_simp
  have r9 : W.cell? ⟨wc.heap.size + 1, 9, none⟩ = some (.string ⟨#[]⟩) := by rw [hW]; go_simp
  have r10 : W.cell? ⟨wc.heap.size + 1, 10, none⟩ = some (.string ⟨#[]⟩) := by rw [hW]; go_simp
  have hra : (binOp .eql 28 (.pointer (some ⟨wc.heap.size + 1, 0, none⟩)) (.pointer (some ⟨wc.heap.size, 0, none⟩))).run Try.prog W = .ok (.bool false) W := by
    rw [hW]
    exact eql_other (by simp) (plain_drewN (by simpa using plain_new (wc.alloc _) _ _) n) (plain_drewN (plain_old (plain_new _ _ _) _) n)
  have hWs : wc.heap.size + 1 < W.heap.size := by rw [hW]; simp
  have HS : Hid (Plain W w'.heap.size) := by rw [hW]; exact plain_drewN (plain_old (plain_old HP.out _) _) n
  have HKW : Hid (kin = none ∨ ∃ b, kin = some ⟨b, 0, none⟩ ∧ Plain W b) := by
    rcases HK.out with h | ⟨b, h, hb⟩
    · exact .inl h
    · exact .inr ⟨b, h, by rw [hW]; exact plain_drewN (plain_old (plain_old hb _) _) n⟩
  have hgW : Grown w' W := by rw [hW]; exact grown_drewN ((hg2.alloc _ _).alloc _ _) n
  clear hW hg2 HK HP
  go_upto_if 273 with (go_at_call 7; refine (card_any _ _).mono ?_; rintro e W ⟨rfl, rfl⟩)
  go_cut [27, 28, 29] from 267 to 300 (fun _ _ _ wx => wx = W)
  case first =>
    cases hok : cOk t
    · have e1 := rev_id t hok
      go_wp2_with (go_at_call 7; refine (card_any _ _).mono ?_; rintro e W ⟨rfl, rfl⟩)
      go_meet
      case rel => rfl
    · obtain ⟨e1, e2, e3⟩ := card_rev t hok
      go_wp2_with (go_at_call 7; refine (card_any _ _).mono ?_; rintro e W ⟨rfl, rfl⟩)
      go_meet
      case rel => rfl
  case rest =>
  subst hcut
  go_upto_block 1 with fail
  go_cut [34, 35, 36, 37] from 305 to 318 (fun s34 s35 s36 s37 wx => s34 = .int .i64 (rK k) ∧ s35 = .pointer (rIn k (some ⟨bt, 0, none⟩) kin) ∧ s36 = .string (rTK k tk sk) ∧ s37 = .string (rSK k tk) ∧ wx = wc)
  case first =>
    rcases kcase k with ⟨g1, g2, g3, g4⟩ | ⟨g1, g2, g3, g4⟩ | ⟨g1, g2, g3, g4⟩ | ⟨g1, g2, g3, g4⟩ | ⟨g1, g2, g3, g4⟩
    all_goals
      go_wp2
      go_meet
    all_goals (exact ⟨by simp [rK, g1, g2], by simp [rIn, g4], by simp [rTK, g3, g4], by simp [rSK, g3, g4], rfl⟩)
  case rest =>
  obtain ⟨rfl, rfl, rfl, rfl, rfl⟩ := hcut
  go_upto_region 57 with fail
  go_cut [358] from 349 to 357 (fun s wx => (∃ d, s = .bool d ∧ (d = false → (k == 3) = true ∨ (k == 4) = true ∨ sk = ⟨#[]⟩)) ∧ wx = wc)
  case first =>
    by_cases hsk : sk = ⟨#[]⟩
    · have hem : sk.toList.isEmpty = true := by rw [hsk, ByteArray.toList_eq]; rfl
      have HSK : Hid (sk = ⟨#[]⟩) := hsk
      clear hsk
      rcases kcase k with ⟨g1, g2, g3, g4⟩ | ⟨g1, g2, g3, g4⟩ | ⟨g1, g2, g3, g4⟩ | ⟨g1, g2, g3, g4⟩ | ⟨g1, g2, g3, g4⟩
      all_goals
        have n3 : (k != 3) = !(k == 3) := rfl
        have n4 : (k != 4) = !(k == 4) := rfl
        rw [g3] at n3
        rw [g4] at n4
        go_wp2
        go_meet
      all_goals exact ⟨⟨_, rfl, fun _ => .inr (.inr HSK.out)⟩, rfl⟩
    · have hne := ne_empty hsk
      clear hsk
      rcases kcase k with ⟨g1, g2, g3, g4⟩ | ⟨g1, g2, g3, g4⟩ | ⟨g1, g2, g3, g4⟩ | ⟨g1, g2, g3, g4⟩ | ⟨g1, g2, g3, g4⟩
      all_goals
        have n3 : (k != 3) = !(k == 3) := rfl
        have n4 : (k != 4) = !(k == 4) := rfl
        rw [g3] at n3
        rw [g4] at n4
        go_wp2
        go_meet
      all_goals first | exact ⟨⟨_, rfl, fun _ => .inl g3⟩, rfl⟩ | exact ⟨⟨_, rfl, fun _ => .inr (.inl g4)⟩, rfl⟩ | exact ⟨⟨true, rfl, fun h => by simp at h⟩, rfl⟩
  case rest =>
  obtain ⟨⟨d1, rfl, hd1⟩, hcw⟩ := hcut
  subst hcw
  have HD1 : Hid (d1 = false → (k == 3) = true ∨ (k == 4) = true ∨ sk = ⟨#[]⟩) := hd1
  clear hd1
  cases d1
  case true =>
    go_upto_region 59 with fail
    go_cut [365] from 359 to 364 (fun s wx => (∃ d, s = .bool d ∧ (d = false → (k == 4) = false ∨ kin = some ⟨w'.heap.size, 0, none⟩)) ∧ wx = wc)
    case first =>
      cases g4 : k == 4
      · go_wp2
        go_meet
        case rel => exact ⟨⟨_, rfl, fun _ => .inl g4⟩, rfl⟩
      · rcases HKW.out with hk | ⟨b, hk, hb⟩
        · subst hk
          have hn := neq_nil
          go_wp2
          go_meet
          case rel => exact ⟨⟨true, rfl, fun h => by simp at h⟩, rfl⟩
        · subst hk
          by_cases hbs : b = w'.heap.size
          · subst hbs
            go_wp2
            go_meet
            case rel => exact ⟨⟨_, rfl, fun _ => .inr (by first | exact trivial | rfl)⟩, rfl⟩
          · have hn := neq_other (a := ⟨b, 0, none⟩) (b := ⟨w'.heap.size, 0, none⟩) (by simp) hb HS.out
            clear hbs hb
            go_wp2
            go_meet
            case rel => exact ⟨⟨true, rfl, fun h => by simp at h⟩, rfl⟩
    case rest =>
    obtain ⟨⟨d2, rfl, hd2⟩, hcw⟩ := hcut
    subst hcw
    have HD2 : Hid (d2 = false → (k == 4) = false ∨ kin = some ⟨w'.heap.size, 0, none⟩) := hd2
    clear hd2
    cases d2
    all_goals
      go_wp2
      go_ret
    all_goals exact ⟨rfl, hgW⟩
  case false =>
    go_upto_region 59 with fail
    go_cut [365] from 359 to 364 (fun s wx => (∃ d, s = .bool d ∧ (d = false → (k == 4) = false ∨ kin = some ⟨w'.heap.size, 0, none⟩)) ∧ wx = wc)
    case first =>
      cases g4 : k == 4
      · go_wp2
        go_meet
        case rel => exact ⟨⟨_, rfl, fun _ => .inl g4⟩, rfl⟩
      · rcases HKW.out with hk | ⟨b, hk, hb⟩
        · subst hk
          have hn := neq_nil
          go_wp2
          go_meet
          case rel => exact ⟨⟨true, rfl, fun h => by simp at h⟩, rfl⟩
        · subst hk
          by_cases hbs : b = w'.heap.size
          · subst hbs
            go_wp2
            go_meet
            case rel => exact ⟨⟨_, rfl, fun _ => .inr (by first | exact trivial | rfl)⟩, rfl⟩
          · have hn := neq_other (a := ⟨b, 0, none⟩) (b := ⟨w'.heap.size, 0, none⟩) (by simp) hb HS.out
            clear hbs hb
            go_wp2
            go_meet
            case rel => exact ⟨⟨true, rfl, fun h => by simp at h⟩, rfl⟩
    case rest =>
    obtain ⟨⟨d2, rfl, hd2⟩, hcw⟩ := hcut
    subst hcw
    have HD2 : Hid (d2 = false → (k == 4) = false ∨ kin = some ⟨w'.heap.size, 0, none⟩) := hd2
    clear hd2
    cases d2
    case true =>
      go_wp2
      go_ret
      exact ⟨rfl, hgW⟩
    obtain ⟨q1, q2⟩ := doc_facts k tk sk (some ⟨w'.heap.size, 0, none⟩) (some ⟨bt, 0, none⟩) kin (HD1.out rfl) (HD2.out rfl)
    have Q1 : Hid (rSK (rK k) (rTK k tk sk) = sk) := q1
    have Q2 : Hid (rIn (rK k) (some ⟨w'.heap.size, 0, none⟩) (rIn k (some ⟨bt, 0, none⟩) kin) = kin) := q2
    clear q1 q2
    go_wp2_with fail
    refine (rev_back _ nm tk sk rv t k (some ⟨w'.heap.size, 0, none⟩) (some ⟨bt, 0, none⟩) kin _ ⟨by omega, r0, r1, r2, r3, r4, r5, r6, r7, r8⟩ Q1.out Q2.out).mono ?_
    rintro e W2 ⟨rfl, n2, hW2⟩
    have c0 : W2.cell? ⟨wc.heap.size, 0, none⟩ = some (.string nm) := by rw [hW2]; go_simp
    have c1 : W2.cell? ⟨wc.heap.size, 1, none⟩ = some (.int .i64 t) := by rw [hW2]; go_simp
    have c2 : W2.cell? ⟨wc.heap.size, 2, none⟩ = some (.pointer (some ⟨w'.heap.size, 0, none⟩)) := by rw [hW2]; go_simp
    have c3 : W2.cell? ⟨wc.heap.size, 3, none⟩ = some (.pointer (some ⟨bt, 0, none⟩)) := by rw [hW2]; go_simp
    have c4 : W2.cell? ⟨wc.heap.size, 4, none⟩ = some (.int .i64 k) := by rw [hW2]; go_simp
    have c5 : W2.cell? ⟨wc.heap.size, 5, none⟩ = some (.pointer kin) := by rw [hW2]; go_simp
    have c6 : W2.cell? ⟨wc.heap.size, 6, none⟩ = some (.string tk) := by rw [hW2]; go_simp
    have c7 : W2.cell? ⟨wc.heap.size, 7, none⟩ = some (.string sk) := by rw [hW2]; go_simp
    have c8 : W2.cell? ⟨wc.heap.size, 8, none⟩ = some (.string rv) := by rw [hW2]; go_simp
    have hgW2 : Grown w' W2 := by rw [hW2]; exact grown_drewN (hgW.alloc _ _) n2
    clear hW2 a0 a1 a2 a3 a4 a5 a6 a7 a8 a9 a10 r0 r1 r2 r3 r4 r5 r6 r7 r8 r9 r10 hra
    go_wp2
    go_ret
    exact ⟨rfl, hgW2⟩
end Go.Proofs.Qxb6003261a.Rev
