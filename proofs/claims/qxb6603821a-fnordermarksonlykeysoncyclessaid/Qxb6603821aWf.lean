/-
  waitsFor (31).
-/
import Derived.Test.Qxb6603821aSt
import Derived.Deep.QuietTactic
import Derived.BigQuiet
namespace Go.Proofs.Qxb6603821a.W
open Go.RowKit B
set_option linter.unusedVariables false

def ref (rs : List (List ByteArray)) (i k : Nat) : ByteArray := (rs.getD i []).getD k ⟨#[]⟩
def deg (rs : List (List ByteArray)) (i : Nat) : Nat := (rs.getD i []).length
/-- waitsFor, as data. -/
def wfI (xs : List ByteArray) (rs : List (List ByteArray)) (S : St) (i k : Nat) : Int := match place xs (ref rs i k) with
  | none => -1
  | some j => if j == i || S.cr.getD j false || clB (S.cl.getD i none) k then -1 else (j : Int)

theorem heap_drewN (w : World) : ∀ n, (w.drewN n).heap = w.heap
  | 0 => rfl
  | n + 1 => heap_drewN w n

set_option maxHeartbeats 1000000 in
theorem wf_any (xs : List ByteArray) (rs : List (List ByteArray)) (L : Lay) (S : St) (i k : Nat) (w : World) (hG : Gr xs rs L w S) (hn : xs.length ≤ 256) (hi : i < xs.length) (hk : k < deg rs i) (hm : deg rs i ≤ 4096) :
    Calls Try.prog 31 #[.pointer (some ⟨L.bg, 0, none⟩), .int .i64 i, .int .i64 k] w fun e w' => e = .returned (.int .i64 (wfI xs rs S i k)) ∧ Below w.heap.size w w' := by
  have hi' : i < rs.length := by rw [hG.same]; exact hi
  have hic : i < S.cl.length := by rw [hG.ncl]; exact hi
  have hd : deg rs i = rs[i].length := by simp [deg, hi']
  have hk' : k < rs[i].length := by rw [← hd]; exact hk
  have hr : ref rs i k = rs[i][k] := by simp [ref, hi', hk']
  have g0 := hG.g0
  have g1 := hG.g1
  have g2 := hG.g2
  have t0 := hG.t i hi
  have c0 := hG.c i hic
  have f0 := hG.fk i hi'
  have r0 := hG.rf i hi' k hk'
  have lz := hG.lim
  have l0 : L.bg < w.heap.size := by have := hG.lbg; omega
  have l1 : L.bt < w.heap.size := by have := hG.lbt; omega
  have l2 : L.bc < w.heap.size := by have := hG.lbc; omega
  have l3 : L.bm < w.heap.size := by have := hG.lbm; omega
  have l4 : L.tb i < w.heap.size := by have := hG.ltb i hi; omega
  have l5 : L.fb i < w.heap.size := by have := hG.lfb i hi; omega
  rw [← hr] at r0
  rw [← hd] at f0
  have hcl : S.cl.getD i none = S.cl[i] := by simp [hic]
  have HC := hide (closes_any L i k (some ⟨L.tb i, 0, none⟩) S.cl[i])
  have HGr := hide hG
  have hlk : ∀ nq, (Instr.lookup 28 (.map (some L.bm)) (.string (ref rs i k)) true).run Try.prog ((w.alloc (.cells #[.pointer (some ⟨L.tb i, 0, none⟩), clV L i S.cl[i]] 61)).drewN nq) =
      .ok (.tuple #[.int .i64 (((place xs (ref rs i k)).getD 0 : Nat) : Int), .bool (place xs (ref rs i k)).isSome]) ((w.alloc (.cells #[.pointer (some ⟨L.tb i, 0, none⟩), clV L i S.cl[i]] 61)).drewN nq) := by
    intro nq
    refine run_lookup_at (c := xs.length) Try.underlying28 Try.underlying9 zero3 ?_
    rw [heap_drewN, Below.heap_alloc _ _ _ l3]; exact hG.map
  unfold wfI
  rw [hcl]
  have hcells : ∀ bs, S.cl[i] = some bs → Cells w (L.cb i) (bs.map .bool) ∧ L.cb i < w.heap.size := fun bs h => by
    have h' : S.cl[i]? = some (some bs) := by rw [List.getElem?_eq_getElem hic, h]
    exact ⟨hG.cells i bs h', (hG.lcb i bs h').2⟩
  have HCE := hide hcells
  clear hcells
  generalize S.cl[i] = cl at *
  obtain ⟨va, vn, hv⟩ : ∃ va vn, clV L i cl = .slice va vn vn := by
    cases cl with
    | none => exact ⟨_, _, rfl⟩
    | some bs => exact ⟨_, _, rfl⟩
  rw [hv] at HC c0 hlk
  clear hv
  obtain ⟨m, hmm⟩ : ∃ m, deg rs i = m := ⟨_, rfl⟩
  rw [hmm] at hk hm f0
  generalize ref rs i k = s at *
  have CC : ∀ nq, Calls Try.prog 34 #[.agg #[.pointer (some ⟨L.tb i, 0, none⟩), .slice va vn vn], .int .i64 k] ((w.alloc (.cells #[.pointer (some ⟨L.tb i, 0, none⟩), .slice va vn vn] 61)).drewN nq) fun e w' =>
      e = .returned (.bool (clB cl k)) ∧ Below w.heap.size w w' := by
    intro nq
    have hbl : Below w.heap.size w ((w.alloc (.cells #[.pointer (some ⟨L.tb i, 0, none⟩), .slice va vn vn] 61)).drewN nq) := B.below_drewN _ ((Below.refl _ _).alloc (Nat.le_refl _) _) nq
    refine (HC.out _ (by omega) (fun bs h => ⟨(HCE.out bs h).1.below hbl (HCE.out bs h).2, Nat.lt_of_lt_of_le (HCE.out bs h).2 hbl.size⟩)).mono ?_
    rintro e w' ⟨rfl, hb⟩
    exact ⟨rfl, hbl.trans (hb.mono hbl.size)⟩
  have HCC := hide CC
  clear hd hk' hr hi' hic hmm hcl CC HC HCE
  cases hp : place xs s with
  | none =>
    simp only [hp, Option.getD_none, Option.isSome_none] at hlk
    clear hp
    go_enter Try.func31, Try.ntmps31
    go_wp2
    go_quiet (fail)
    go_wp2
    go_ret
    exact ⟨rfl, B.below_drewN _ ((Below.refl _ _).alloc (Nat.le_refl _) _) _⟩
  | some j =>
    simp only [hp, Option.getD_some, Option.isSome_some] at hlk
    obtain ⟨hj, _⟩ := place_some hp
    clear hp
    have hjc : j < S.cr.length := by rw [hG.ncr]; exact hj
    have d0 := hG.crc.at' j (by simpa using hjc)
    simp only [List.getElem_map] at d0
    have hcr : S.cr.getD j false = S.cr[j] := by simp [hjc]
    simp only [hcr]
    generalize S.cr[j] = cj at *
    clear hcr hjc
    clear hG
    by_cases hji : j = i
    · have e1 : ((j : Int) == (i : Int)) = true := by rw [beq_iff_eq]; omega
      have e2 : (j == i) = true := by rw [beq_iff_eq]; exact hji
      simp only [e2, Bool.true_or, if_true]
      clear hji e2
      go_enter Try.func31, Try.ntmps31
      go_wp2
      go_quiet (fail)
      go_wp2
      go_ret
      exact ⟨rfl, B.below_drewN _ ((Below.refl _ _).alloc (Nat.le_refl _) _) _⟩
    · have e1 : ((j : Int) == (i : Int)) = false := by rw [beq_eq_false_iff_ne]; omega
      have e2 : (j == i) = false := by rw [beq_eq_false_iff_ne]; exact hji
      simp only [e2, Bool.false_or]
      clear hji e2
      cases cj
      · simp only [Bool.false_or]
        cases hB : clB cl k
        · have HB := hide hB
          clear hB
          simp only [Bool.false_eq_true, if_false]
          go_enter Try.func31, Try.ntmps31
          go_wp2
          go_quiet (fail)
          go_wp2_with fail
          refine Calls.mono (HCC.out _) ?_
          rintro e w1 ⟨rfl, hb1⟩
          rw [HB.out]
          go_wp2
          go_ret
          exact ⟨rfl, hb1⟩
        · have HB := hide hB
          clear hB
          simp only [if_true]
          go_enter Try.func31, Try.ntmps31
          go_wp2
          go_quiet (fail)
          go_wp2_with fail
          refine Calls.mono (HCC.out _) ?_
          rintro e w1 ⟨rfl, hb1⟩
          rw [HB.out]
          go_wp2
          go_ret
          exact ⟨rfl, hb1⟩
      · simp only [Bool.true_or, if_true]
        go_enter Try.func31, Try.ntmps31
        go_wp2
        go_quiet (fail)
        go_wp2
        go_ret
        exact ⟨rfl, B.below_drewN _ ((Below.refl _ _).alloc (Nat.le_refl _) _) _⟩
end Go.Proofs.Qxb6603821a.W
