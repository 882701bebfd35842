/-
  reachFrom (15).
-/
import Derived.Test.Qxb6603821aTwo
import Derived.Test.Qxb6603821aAny
import Derived.Deep.LoopGhost
namespace Go.Proofs.Qxb6603821a.W
open Go.RowKit B
set_option linter.unusedVariables false

def uc (r : List Bool) : Nat := r.count false

theorem uc_set {r : List Bool} {j : Nat} (hj : j < r.length) (h : r[j] = false) : uc (r.set j true) < uc r := by
  unfold uc
  have hp : 0 < r.count false := List.count_pos_iff.2 (by rw [← h]; exact List.getElem_mem hj)
  rw [List.count_set hj, h]
  simp
  omega

def rowC (xs : List ByteArray) (rs : List (List ByteArray)) (r : List Bool) (i m : Nat) : Prop := ∀ k, k < m → ∀ j, place xs (ref rs i k) = some j → j ≠ i → r.getD j false = true
def colC (xs : List ByteArray) (rs : List (List ByteArray)) (r : List Bool) (i : Nat) : Prop := ∀ q, q < i → r.getD q false = true → rowC xs rs r q (deg rs q)

/-- A round of relaxation, on the way: nothing new and so much looked at, or something new. -/
structure RG (n fr : Nat) (r0 r : List Bool) (g : Bool) (C : Prop) : Prop where
  len : r.length = n
  fr : r.getD fr false = true
  or : (g = false ∧ r = r0 ∧ C) ∨ (g = true ∧ uc r < uc r0)

theorem RG.set {n fr : Nat} {r0 r : List Bool} {g : Bool} {C C' : Prop} (h : RG n fr r0 r g C) {j : Nat} (hj : j < n) (hc : r.getD j false = false) : RG n fr r0 (r.set j true) true C' := by
  have hj' : j < r.length := by rw [h.len]; exact hj
  have e : r[j] = false := by simpa [hj'] using hc
  have hu := uc_set hj' e
  refine ⟨by rw [List.length_set, h.len], ?_, .inr ⟨rfl, ?_⟩⟩
  · have hf := h.fr
    simp only [List.getD_eq_getElem?_getD, List.getElem?_set] at hf ⊢
    split
    · simp
    · exact hf
  · rcases h.or with ⟨_, e, _⟩ | ⟨_, h1⟩
    · rw [← e]; exact hu
    · omega

theorem RG.go {n fr : Nat} {r0 r : List Bool} {g : Bool} {C C' : Prop} (h : RG n fr r0 r g C) (hC : r = r0 → C → C') : RG n fr r0 r g C' :=
  ⟨h.len, h.fr, h.or.imp (fun ⟨a, b, c⟩ => ⟨a, b, hC b c⟩) id⟩

/-- The memory of it. -/
structure RW (w : World) (r : List Bool) (wr : World) : Prop where
  cs : Cells wr w.heap.size (r.map .bool)
  bel : Below w.heap.size w wr
  lt : w.heap.size < wr.heap.size

theorem RW.set {w : World} {r : List Bool} {wr : World} (h : RW w r wr) (j : Nat) : RW w (r.set j true) (wr.setCell ⟨w.heap.size, j, none⟩ (.bool true)) :=
  ⟨by rw [List.map_set]; exact h.cs.set j _, h.bel.setCell (p := ⟨w.heap.size, j, none⟩) (Nat.le_refl _) _, by simpa [World.setCell] using h.lt⟩

def RfPost (xs : List ByteArray) (rs : List (List ByteArray)) (n fr : Nat) (w : World) (e : Ending) (w' : World) : Prop :=
  e = .returned (.slice (some ⟨w.heap.size, 0, none⟩) n n) ∧ ∃ r : List Bool, r.length = n ∧ (∀ x, Leads (FE xs rs) fr x → r.getD x false = true) ∧ RW w r w'

theorem closed_all {xs : List ByteArray} {rs : List (List ByteArray)} {r : List Bool} {fr : Nat} (hl : r.length = xs.length) (hf : r.getD fr false = true) (hc : colC xs rs r xs.length) : ∀ x, Leads (FE xs rs) fr x → r.getD x false = true := fun x hx => by
  refine Leads.shut (p := fun i => r.getD i false = true) (fun i j hi hij => ?_) hf hx
  obtain ⟨k, hk, hp, hne⟩ := hij
  refine hc i ?_ hi k hk j hp hne
  by_cases e : i < xs.length
  · exact e
  · rw [List.getD_eq_getElem?_getD, List.getElem?_eq_none (by omega)] at hi; cases hi

set_option maxHeartbeats 4000000 in
theorem rf_any (xs : List ByteArray) (rs : List (List ByteArray)) (n bt bz bf fr : Nat) (w : World) (hn : xs.length = n) (hn2 : n ≤ 256) (hs : rs.length = n) (hm : ∀ i, deg rs i ≤ 4096) (hfr : fr < n)
    (ht : Sl2 (.int .i64) w (some ⟨bt, 0, none⟩) (tgOf xs rs)) (hz : ∀ i, i < n → w.cell? ⟨bz, i, none⟩ = some (.slice none 0 0)) (hzl : bz < w.heap.size) (hf : ∀ i, i < n → w.cell? ⟨bf, i, none⟩ = some (.bool false)) (hfl : bf < w.heap.size) :
    Calls Try.prog 15 #[.slice (some ⟨bt, 0, none⟩) n n, .slice (some ⟨bz, 0, none⟩) n n, .slice (some ⟨bf, 0, none⟩) n n, .int .i64 fr] w (RfPost xs rs n fr w) := by
  have HN := hide hn
  have HM := hide hm
  have T : Hid (∀ i, i < n → ∀ wr, Below w.heap.size w wr → ∃ a' cap', wr.cell? ⟨bt, i, none⟩ = some (.slice a' (deg rs i) cap') ∧ ∀ k, k < deg rs i → ∃ b o, a' = some ⟨b, o, none⟩ ∧ b < wr.heap.size ∧ wr.cell? ⟨b, o + k, none⟩ = some (.int .i64 (tgI xs (ref rs i k)))) := hide fun i hi wr hb => by
    obtain ⟨a', cap', h1, _, h2⟩ := tg_at (ht.below hb) (x := i) (by rw [hs]; exact hi)
    exact ⟨a', cap', h1, h2⟩
  have Z : Hid (∀ i, i < n → ∀ wr, Below w.heap.size w wr → wr.cell? ⟨bz, i, none⟩ = some (.slice none 0 0) ∧ wr.cell? ⟨bf, i, none⟩ = some (.bool false)) := hide fun i hi wr hb =>
    ⟨(hb.cell (p := ⟨bz, i, none⟩) hzl).trans (hz i hi), (hb.cell (p := ⟨bf, i, none⟩) hfl).trans (hf i hi)⟩
  have M : Hid (∀ (k : Nat) wr, k ≤ 4096 → Calls Try.prog 26 #[.slice none 0 0, .int .i64 (k : Nat)] wr fun e w' => e = .returned (.bool false) ∧ w' = wr) := hide fun k wr hk => by
    have := mkd_any none 0 [] k wr (by simp) (by omega) (Sl.nil _ _)
    simpa using this
  have hmk := run_make_row' (P := Try.prog) 25 4 (.bool false) 1 Try.underlying25 infoB4 rfl .i64 .i64 n (by omega) (by omega) w
  have cn := Cells.new w (madeCells #[.bool false] n) 4
  rw [made_one] at cn
  have hbn : Below w.heap.size w (w.alloc (.cells (madeCells #[.bool false] n) 4)) := (Below.refl _ _).alloc (Nat.le_refl _) _
  have RW0 : RW w (List.replicate n false) (w.alloc (.cells (madeCells #[.bool false] n) 4)) := ⟨by simpa using cn, hbn, by simp⟩
  have R0 : Hid (RW w ((List.replicate n false).set fr true) ((w.alloc (.cells (madeCells #[.bool false] n) 4)).setCell ⟨w.heap.size, fr, none⟩ (.bool true))) := hide (RW0.set fr)
  have c1 := cn.at' fr (by simpa using hfr)
  have c2 := cn.free fr (by simpa using hfr)
  simp only [List.getElem_replicate] at c1
  obtain ⟨w1, hw1⟩ : ∃ w1, w1 = w.alloc (.cells (madeCells #[.bool false] n) 4) := ⟨_, rfl⟩
  rw [← hw1] at c1 c2 hmk R0
  clear ht hz hf hzl hfl hn hm hs cn hbn RW0 hw1
  go_enter Try.func15, Try.ntmps15
  go_wp2
  clear c1 c2 hmk
  go_loopg [11] (2 * uc ((List.replicate n false).set fr true) + 1) (fun gk v wr => ∃ r g, gk = 2 * uc r + (if g then 1 else 0) ∧ v = .bool g ∧ Hid (r.length = n ∧ r.getD fr false = true ∧ (g = false → colC xs rs r n) ∧ RW w r wr))
  case atStart => exact ⟨_, true, rfl, rfl, hide ⟨by simp, by simp [hfr], (fun h => by cases h), R0.out⟩⟩
  case round =>
  clear R0
  obtain ⟨r0, g, rfl, rfl, H0⟩ := hrel
  rename World => w2
  cases g
  case false =>
    have FIN : Hid (RfPost xs rs n fr w (.returned (.slice (some ⟨w.heap.size, 0, none⟩) n n)) w2) := hide ⟨rfl, r0, H0.out.1, closed_all (by rw [HN.out]; exact H0.out.1) H0.out.2.1 (by rw [HN.out]; exact H0.out.2.2.1 rfl), H0.out.2.2.2⟩
    clear H0
    go_wp2
    go_ret
    exact FIN.out
  have S0 : Hid (RG n fr r0 r0 false (colC xs rs r0 0) ∧ RW w r0 w2) := hide ⟨⟨H0.out.1, H0.out.2.1, .inl ⟨rfl, rfl, fun q hq => absurd hq (by omega)⟩⟩, H0.out.2.2.2⟩
  clear H0
  go_wp2
  go_loopg [11, 12] n (fun gk v c wr => ∃ i : Nat, ∃ g r, i ≤ n ∧ gk = n - i ∧ v = .bool g ∧ c = .int .i64 i ∧ Hid (RG n fr r0 r g (colC xs rs r0 i) ∧ RW w r wr))
  case atStart => exact ⟨0, false, r0, Nat.zero_le _, rfl, rfl, rfl, S0⟩
  case round =>
  clear S0
  obtain ⟨i, g, r, hi, rfl, rfl, rfl, H1⟩ := hrel
  rename World => w3
  by_cases hlt : i < n
  · have hir : i < r.length := by rw [H1.out.1.len]; exact hlt
    have d1 := H1.out.2.cs.at' i (by simpa using hir)
    simp only [List.getElem_map] at d1
    have hg : r.getD i false = r[i] := by simp [hir]
    obtain ⟨rb, hrb⟩ : ∃ rb, r[i] = rb := ⟨_, rfl⟩
    rw [hrb] at d1 hg
    have HG := hide hg
    clear hg hrb hir
    cases rb
    · have R : Hid (RG n fr r0 r g (colC xs rs r0 (i + 1)) ∧ RW w r w3) := hide ⟨H1.out.1.go fun e hc q hq hq1 => by
        by_cases e' : q = i
        · subst e'; rw [← e, HG.out] at hq1; cases hq1
        · exact hc q (by omega) hq1, H1.out.2⟩
      clear H1 HG
      go_wp2
      go_roundg (n - (i + 1))
      case measure => omega
      case rel => exact ⟨i + 1, g, r, by omega, rfl, rfl, by go_num, R⟩
    · have S1 : Hid (RG n fr r0 r g (colC xs rs r0 i ∧ rowC xs rs r0 i 0) ∧ RW w r w3) := hide ⟨H1.out.1.go fun _ hc => ⟨hc, fun k hk => absurd hk (by omega)⟩, H1.out.2⟩
      have hdm := HM.out i
      obtain ⟨d, hd⟩ : ∃ d, deg rs i = d := ⟨_, rfl⟩
      have HD := hide hd
      rw [hd] at hdm
      clear H1 HG hd
      go_wp2
      clear d1
      go_loopg [11, 13] d (fun gk v c wr => ∃ k : Nat, ∃ g r, k ≤ d ∧ gk = d - k ∧ v = .bool g ∧ c = .int .i64 k ∧ Hid (RG n fr r0 r g (colC xs rs r0 i ∧ rowC xs rs r0 i k) ∧ RW w r wr))
      case atStart => exact ⟨0, g, r, Nat.zero_le _, rfl, rfl, rfl, S1⟩
      case round =>
      clear S1
      obtain ⟨k, g2, r2, hk, rfl, rfl, rfl, H2⟩ := hrel
      rename World => w4
      obtain ⟨ta, tc, t1, t2⟩ := T.out i hlt w4 H2.out.2.bel
      rw [HD.out] at t1 t2
      by_cases hkd : k < d
      · obtain ⟨b1, o1, e1, z1, c1⟩ := t2 k hkd
        subst e1
        have hv : (place xs (ref rs i k) = none ∧ tgI xs (ref rs i k) = -1) ∨ ∃ j : Nat, place xs (ref rs i k) = some j ∧ tgI xs (ref rs i k) = (j : Int) ∧ j < n := by
          unfold tgI
          cases hp : place xs (ref rs i k) with
          | none => exact .inl ⟨rfl, rfl⟩
          | some j => exact .inr ⟨j, rfl, rfl, by rw [← HN.out]; exact (place_some hp).1⟩
        generalize tgI xs (ref rs i k) = v at c1 hv
        clear t2
        have NX : Hid ((∀ j, place xs (ref rs i k) = some j → j ≠ i → r2.getD j false = true) → RG n fr r0 r2 g2 (colC xs rs r0 i ∧ rowC xs rs r0 i (k + 1)) ∧ RW w r2 w4) := hide fun hj => ⟨H2.out.1.go fun e hc => ⟨hc.1, fun q hq j hp hne => by
          by_cases e' : q = k
          · subst e'; rw [← e]; exact hj j hp hne
          · exact hc.2 q (by omega) j hp hne⟩, H2.out.2⟩
        rcases hv with ⟨hp, rfl⟩ | ⟨j, hp, rfl, hjn⟩
        · have R := hide (NX.out fun j hj => by rw [hp] at hj; cases hj)
          clear NX H2 hp
          go_wp2
          go_roundg (d - (k + 1))
          case measure => omega
          case rel => exact ⟨k + 1, g2, r2, by omega, rfl, rfl, by go_num, R⟩
        · by_cases hji : j = i
          · subst hji
            have R := hide (NX.out fun q hq hne => by rw [hp] at hq; exact absurd (Option.some.inj hq).symm hne)
            clear NX H2 hp
            go_wp2
            go_roundg (d - (k + 1))
            case measure => omega
            case rel => exact ⟨k + 1, g2, r2, by omega, rfl, rfl, by go_num, R⟩
          · have hjb : ((j : Int) == (i : Int)) = false := by rw [beq_eq_false_iff_ne]; omega
            obtain ⟨z1', _⟩ := Z.out i hlt w4 H2.out.2.bel
            obtain ⟨_, z2'⟩ := Z.out j hjn w4 H2.out.2.bel
            have hjr : j < r2.length := by rw [H2.out.1.len]; exact hjn
            have d1 := H2.out.2.cs.at' j (by simpa using hjr)
            have d2 := H2.out.2.cs.free j (by simpa using hjr)
            simp only [List.getElem_map] at d1
            have hg : r2.getD j false = r2[j] := by simp [hjr]
            obtain ⟨rb, hrb⟩ : ∃ rb, r2[j] = rb := ⟨_, rfl⟩
            rw [hrb] at d1 hg
            have HG := hide hg
            have HP := hide hp
            clear hg hrb hjr hp hji
            go_wp2_with fail
            refine Calls.mono (M.out k _ (by omega)) ?_
            rintro e w5 ⟨rfl, rfl⟩
            cases rb
            · have R : Hid (RG n fr r0 (r2.set j true) true (colC xs rs r0 i ∧ rowC xs rs r0 i (k + 1)) ∧ RW w (r2.set j true) (w5.setCell ⟨w.heap.size, j, none⟩ (.bool true))) := hide ⟨H2.out.1.set hjn HG.out, H2.out.2.set j⟩
              clear NX H2 HG HP
              go_wp2
              go_roundg (d - (k + 1))
              case measure => omega
              case rel => exact ⟨k + 1, true, r2.set j true, by omega, rfl, rfl, by go_num, R⟩
            · have R := hide (NX.out fun q hq hne => by rw [HP.out] at hq; rw [← Option.some.inj hq]; exact HG.out)
              clear NX H2 HG HP
              go_wp2
              go_roundg (d - (k + 1))
              case measure => omega
              case rel => exact ⟨k + 1, g2, r2, by omega, rfl, rfl, by go_num, R⟩
      obtain rfl : k = d := by omega
      clear t2
      have R : Hid (RG n fr r0 r2 g2 (colC xs rs r0 (i + 1)) ∧ RW w r2 w4) := hide ⟨H2.out.1.go fun e hc q hq hq1 => by
        by_cases e' : q = i
        · subst e'; rw [HD.out]; exact hc.2
        · exact hc.1 q (by omega) hq1, H2.out.2⟩
      clear H2
      go_wp2
      go_roundg (n - (i + 1))
      case measure => omega
      case rel => exact ⟨i + 1, g2, r2, by omega, rfl, rfl, by go_num, R⟩
  obtain rfl : i = n := by omega
  go_wp2
  go_roundg (2 * uc r + (if g then 1 else 0))
  case measure =>
    rcases H1.out.1.or with ⟨rfl, rfl, _⟩ | ⟨rfl, h⟩
    · simp
    · simp; omega
  case rel =>
    refine ⟨r, g, rfl, rfl, hide ⟨H1.out.1.len, H1.out.1.fr, fun e => ?_, H1.out.2⟩⟩
    rcases H1.out.1.or with ⟨_, e1, h⟩ | ⟨e1, _⟩
    · rw [e1]; exact h
    · rw [e1] at e; cases e
end Go.Proofs.Qxb6603821a.W
